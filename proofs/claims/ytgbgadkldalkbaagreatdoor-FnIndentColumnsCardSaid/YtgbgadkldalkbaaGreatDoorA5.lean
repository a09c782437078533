/- Part 5 of the proof of the law FnIndentColumns: for every input the law returns true, the inputs read as they did, and memory that was there is as it was; under the conditions of the given row alone. -/
import Derived.Laws.RangeString
import Derived.Laws.StructEq
import Derived.Test.YtgbgadkldalkbaaGreatDoorA4
set_option linter.all false
set_option linter.unusedVariables false
namespace Go.Proofs.YtgbgadkldalkbaaGreatDoor
open Go.Proofs Go.IntWalk Go.RowKit
variable {σ : Out} {w : World} {L L' : List Chunk} {R : Ending → World → Prop}
def PS.core (p : PS) : PS := { p with em := 0, lq := none, ln := 0, lc := 0, corner := false, bt := [] }
def PS.core2 (p : PS) : PS := { p with corner := false, bt := [] }
theorem PS.core_of2 {p p' : PS} (h : p'.core2 = p.core2) : p'.core = p.core := by
  have := congrArg PS.core h
  simpa [PS.core, PS.core2] using this
def IIn (σ : Out) (b : Nat) (p : PS) (ts : List Inl) (opens : List Nat) (oq : Option Addr) (on oc : Nat) (L : List Chunk) (w : World) : Prop :=
  ∃ vs RM EM OM, Sl 1 ty_Inline p.lq p.ln p.lc vs RM ∧ InlsAt ts vs EM ∧ Sl 1 ty_int oq on oc (opens.map fun (n : Nat) => Value.int .i64 n) OM ∧ ts.length < 1073741824 ∧ Sat σ w (p.at b :: (RM ++ (EM ++ (OM ++ L))))
def sub (s : List UInt8) (i j : Nat) : List UInt8 := (s.take j).drop i
def emitM (s : List UInt8) (em i : Nat) (ts : List Inl) : List Inl := if em < i then ts ++ [.plain (sub s em i)] else ts
theorem emitI_ok {b e i : Nat} {p : PS} {ts : List Inl} {opens : List Nat} {oq : Option Addr} {on oc : Nat} (h : IIn σ b p ts opens oq on oc L w) (he : p.em = e) (hl : i ≤ p.s.length) (hn : ts.length < 1073741823)
    (hR : ∀ w p', p'.core = p.core → p'.bt = p.bt → p'.em = ((max e i : Nat) : Int) → IIn σ b p' (emitM p.s e i ts) opens oq on oc L w → R (.returned (.tuple #[])) w) :
    callE P i_parseState_emit #[.pointer (some ⟨b, 0, none⟩), .int .i64 i] R w := by
  obtain ⟨vs, RM, EM, OM, hS, hI, hO, hlen, h⟩ := h
  have hvl := hI.length
  by_cases hi : e < i
  · have h : Sat σ w (p.at b :: RM ++ (EM ++ (OM ++ L))) := h
    refine emit_ok (L := EM ++ (OM ++ L)) h ⟨hS, by omega⟩ he hi hl (by omega) fun w p' M' nb hp' hS' h => ?_
    refine hR w p' (by rw [hp']; rfl) (by rw [hp']) (by rw [hp']; show ((i : Nat) : Int) = _; congr 1; omega) ⟨_, M', EM ++ [plainC nb (sub p.s e i)], OM, hS'.1, ?_, hO, ?_, ?_⟩
    · unfold emitM; rw [if_pos hi]
      exact hI.append (InlsAt.one ⟨nb, [], _, rfl, rfl⟩)
    · unfold emitM; rw [if_pos hi]; simp; omega
    · have h : Sat σ w (p'.at b :: M' ++ (plainC nb (sub p.s e i) :: (EM ++ (OM ++ L)))) := h
      exact h.re (by intro _; simp only [List.append_eq, cnt_append, cnt_cons, cnt_nil] <;> omega)
  · refine emit_no h (by rw [he]; omega) fun w h => ?_
    refine hR w p rfl rfl (by rw [he]; congr 1; omega) ⟨vs, RM, EM, OM, hS, ?_, hO, ?_, h⟩
    · unfold emitM; rw [if_neg hi]; exact hI
    · unfold emitM; rw [if_neg hi]; exact hlen

def LeafOK (b : Nat) (p : PS) (s : List UInt8) (i : Nat) (fv : Value) (L0 : List Chunk) (res : Option (Inl × Nat × Nat)) (Q : PS → Prop) : Prop :=
  ∀ (σ : Out) (R : Ending → World → Prop) (L : List Chunk) (w : World), (∀ c ∈ L0, c ∈ L) → Sat σ w (p.at b :: L) →
    (match res with
      | none => ∀ w p' v x y, p'.core2 = p.core2 → Q p' → Sat σ w (p'.at b :: L) → R (.returned (.tuple #[v, .int .i64 x, .int .i64 y, .bool false])) w
      | some (t, st, en) => ∀ w p' v TM, p'.core2 = p.core2 → Q p' → InlAt t v TM → Sat σ w (p'.at b :: (TM ++ L)) → R (.returned (.tuple #[v, .int .i64 st, .int .i64 en, .bool true])) w) →
    enterE P (do let d ← Deferred.ofValue fv #[.pointer (some ⟨b, 0, none⟩), .string (bs s), .int .i64 i]; invoke d.target d.args) R w
def isFuncB (P : Program) (t : TypeId) : Bool := match P.underlying t with | some (.func _ _ _) => true | _ => false
theorem isFunc_out {P : Program} {t : TypeId} (h : isFuncB P t = true) : ∃ ps rs vr, P.underlying t = some (.func ps rs vr) := by
  unfold isFuncB at h
  split at h
  · rename_i a b c hd; exact ⟨_, _, _, hd⟩
  · cases h
theorem und_pf : isFuncB P ty_func_P_parseState_string_int_I_18a27a = true := by kernel_rfl
theorem neq_pf {x y : Operand} (k : FuncId) (f g : Array Value) (w : World) :
    (do eqGuard .neq ty_func_P_parseState_string_int_I_18a27a x y (.func (.func k) f g) .nilFunc; binOp .neq ty_func_P_parseState_string_int_I_18a27a (.func (.func k) f g) .nilFunc).run P w = .ok (.bool true) w := by
  obtain ⟨_, _, _, h⟩ := isFunc_out und_pf
  exact neq_func_nil h k f g w
theorem neq_pn {x y : Operand} (w : World) :
    (do eqGuard .neq ty_func_P_parseState_string_int_I_18a27a x y .nilFunc .nilFunc; binOp .neq ty_func_P_parseState_string_int_I_18a27a .nilFunc .nilFunc).run P w = .ok (.bool false) w := by
  obtain ⟨_, _, _, h⟩ := isFunc_out und_pf
  exact neq_nil_nil h w
def Inl.isOpen : Inl → Bool
  | .openP _ _ => true
  | _ => false
theorem Inl.ty_open {t : Inl} (h : t.isOpen = false) : t.ty ≠ ty_P_openPlain := by
  cases t <;> simp only [Inl.isOpen, reduceCtorEq] at h <;> (simp only [Inl.ty]; decide)
noncomputable def rowInt : Row P ty_S_int ty_int 1 8 :=
  ⟨(P.info? ty_int).getD default, ((P.info? ty_int).bind (·.zero)).getD default, by kernel_rfl, by kernel_rfl, by kernel_rfl, by kernel_rfl, by kernel_rfl, by kernel_rfl, by decide⟩
theorem fillN (n : Nat) : Instr.fill (fun i => some (i * 1, 1)) ((Array.range (1 * 1)).map (rowInt.z.cells[· % rowInt.z.cells.size]!)) [(0, .int .i64 n)] = some #[.int .i64 n] := by kernel_rfl
theorem inl_leaf {X : XI} {b i e st en : Nat} {p : PS} {ts : List Inl} {opens : List Nat} {oq : Option Addr} {on oc : Nat} {lo : Int} {bk : Bool} {f : FuncId} {fr cp : Array Value} {t : Inl} {L0 : List Chunk} {Q : PS → Prop}
    (h : IIn σ b p ts opens oq on oc L w) (hL0 : ∀ c ∈ L0, c ∈ L) (hf : LeafOK b p p.s i (.func (.func f) fr cp) L0 (some (t, st, en)) Q) (he : p.em = e) (hst : st ≤ p.s.length) (hs : p.s.length < 1000000000) (hn : ts.length < 1000000000) (hon : opens.length < 1000000000)
    (hK : ∀ w p' oq on oc, p'.core = p.core → p'.em = (en : Int) → (∃ p'', Q p'' ∧ p'.bt = p''.bt) → IIn σ b p' (emitM p.s e st ts ++ [t]) (if t.isOpen then opens ++ [(emitM p.s e st ts).length] else opens) oq on oc L w → X (some ⟨b, 0, none⟩) (bs p.s) oq on oc lo bk en w) :
    g_parseState_inline.k1 R X (some ⟨b, 0, none⟩) (bs p.s) oq on oc lo bk i (.func (.func f) fr cp) w := by
  refine ⟨_, _, neq_pf f fr cp w, br_true rfl ?_⟩
  obtain ⟨vs, RM, EM, OM, hS, hI, hO, hlen, h⟩ := h
  have hcl : ∀ c ∈ L0, c ∈ RM ++ (EM ++ (OM ++ L)) := fun c hc => List.mem_append_right _ (List.mem_append_right _ (List.mem_append_right _ (hL0 c hc)))
  refine hf σ _ (RM ++ (EM ++ (OM ++ L))) w hcl h fun w p1 v TM hp1 hq1 ht h => ⟨_, _, _, _, rfl, br_true rfl ?_⟩
  have hc1 := PS.core_of2 hp1
  have e1 : p1.lq = p.lq := by have := congrArg PS.lq hp1; exact this
  have e2 : p1.ln = p.ln := by have := congrArg PS.ln hp1; exact this
  have e3 : p1.lc = p.lc := by have := congrArg PS.lc hp1; exact this
  have e4 : p1.s = p.s := by have := congrArg PS.s hp1; exact this
  have e5 : p1.em = e := by have := congrArg PS.em hp1; rw [← he]; exact this
  have hI1 : IIn σ b p1 ts opens oq on oc (TM ++ L) w := ⟨vs, RM, EM, OM, by rw [e1, e2, e3]; exact hS, hI, hO, hlen, h.re (by intro _; simp only [List.append_eq, cnt_append, cnt_cons, cnt_nil] <;> omega)⟩
  refine emitI_ok hI1 e5 (by rw [e4]; exact hst) (by omega) fun w p2 hp2 hbt he2 h2 => ⟨rfl, ?_⟩
  rw [e4] at h2
  obtain ⟨pb, cs, ee, TM', rfl, rfl⟩ := ht.ptr
  have hc2 : p2.core = p.core := hp2.trans hc1
  have hs2 : p2.s = p.s := by have := congrArg PS.s hc2; exact this
  have elen : (emitM p.s e st ts).length ≤ ts.length + 1 := by unfold emitM; split <;> simp
  have fin : ∀ w oq on oc opens', opens' = (if t.isOpen then opens ++ [(emitM p.s e st ts).length] else opens) → IIn σ b p2 (emitM p.s e st ts) opens' oq on oc (((pb, cel cs ee) :: TM') ++ L) w →
      g_parseState_inline.k4 R X (some ⟨b, 0, none⟩) (bs p.s) oq on oc lo bk (ptrV t.ty pb) en w := by
    intro w oq on oc opens' ho h
    obtain ⟨vs, RM, EM, OM, hS, hI, hO, hlen, h⟩ := h
    have hvl := hI.length
    have hn0 := hS.1
    refine nilP_some ?_
    refine ⟨_, _, _, h.ldA, ?_⟩
    have h : Sat σ w (RM ++ (p2.at b :: (EM ++ (OM ++ (((pb, cel cs ee) :: TM') ++ L))))) := h.re (by intro _; simp only [List.append_eq, cnt_append, cnt_cons, cnt_nil] <;> omega)
    refine Sat.app1 rowInl hS h (v := ptrV t.ty pb) rfl (by simp [ptrV, Value.cells, Value.oneCell']) (fillI _ _) (by omega) (by omega) (by decide) fun q' c' w' M' hS' h => ?_
    have h : Sat σ w' (p2.at b :: (M' ++ (EM ++ (OM ++ (((pb, cel cs ee) :: TM') ++ L))))) := h.re (by intro _; simp only [List.append_eq, cnt_append, cnt_cons, cnt_nil] <;> omega)
    refine nilP_some ?_
    refine h.stA 0 fun w h => ?_
    let p3 : PS := { p2 with lq := q', ln := p2.ln + 1, lc := c' }
    have h : Sat σ w (p3.at b :: (M' ++ (EM ++ (OM ++ (((pb, cel cs ee) :: TM') ++ L))))) := h
    refine skipTo_ok h fun w h => ⟨rfl, ?_⟩
    refine hK w { p3 with em := en } oq on oc (by rw [← hc2]; rfl) rfl ⟨p1, hq1, hbt⟩ ⟨_, M', EM ++ ((pb, cel cs ee) :: TM'), OM, hS', ?_, by rw [← ho]; exact hO, by simp; omega, h.re (by intro _; simp only [List.append_eq, cnt_append, cnt_cons, cnt_nil] <;> omega)⟩
    exact hI.append (InlsAt.one ht)
  cases hto : t.isOpen with
  | false =>
    refine ⟨_, _, w, ta_open_no (Inl.ty_open hto) w, br_false rfl ?_⟩
    exact fin w oq on oc opens (by rw [hto]; rfl) h2
  | true =>
    have hty : t.ty = ty_P_openPlain := by cases t <;> simp only [Inl.isOpen, reduceCtorEq] at hto; rfl
    have hta : (Instr.typeAssert (ptrV t.ty pb) ty_Inline ty_P_openPlain true).run P w = .ok (.tuple #[.pointer (some ⟨pb, 0, none⟩), .bool true]) w := by
      rw [hty]; exact ta_open_yes w
    refine ⟨_, _, w, hta, br_true rfl ?_⟩
    obtain ⟨vs, RM, EM, OM, hS, hI, hO, hlen, h⟩ := h2
    have hvl := hI.length
    have hn0 := hS.1
    have hol := hO.1
    rw [List.length_map] at hol
    refine nilP_some ?_
    refine ⟨_, _, _, h.ldA, ?_⟩
    have h : Sat σ w (OM ++ (p2.at b :: (RM ++ (EM ++ (((pb, cel cs ee) :: TM') ++ L))))) := h.re (by intro _; simp only [List.append_eq, cnt_append, cnt_cons, cnt_nil] <;> omega)
    have hln : p2.ln = (emitM p.s e st ts).length := by omega
    rw [hln]
    generalize hm : (emitM p.s e st ts).length = m at fin elen hln ⊢
    refine Sat.app1 rowInt hO h (v := .int .i64 (m : Nat)) rfl (by simp [Value.cells, Value.oneCell']) (fillN m) (by omega) (by omega) (by decide) fun q' c' w' M' hO' h => ?_
    refine fin w' q' _ c' _ (by rw [hto] <;> rfl) ⟨vs, RM, EM, M', hS, hI, ?_, hlen, h.re (by intro _; simp only [List.append_eq, cnt_append, cnt_cons, cnt_nil] <;> omega)⟩
    rw [if_pos rfl, List.map_append]; exact hO'
theorem inl_k5 {X : XI} {b i : Nat} {s : List UInt8} {oq : Option Addr} {on oc : Nat} {lo : Int} {bk : Bool} (hi : i < s.length) (hs : s.length < 4611686018427387904) (hc : s[i] ≠ 93 ∨ on = 0)
    (hK : X (some ⟨b, 0, none⟩) (bs s) oq on oc lo bk ((i + 1 : Nat) : Int) w) : g_parseState_inline.k5 R X (some ⟨b, 0, none⟩) (bs s) oq on oc lo bk i w := by
  refine ⟨by omega, by simp; omega, ?_⟩
  refine br_false ?_ ?_
  · rw [bt_beq hi 93 93 rfl]
    rcases hc with hc | hc
    · simp [hc]
    · simp [hc]
  · rw [i64_inc (by omega)]; exact hK
theorem inl_none {X : XI} {b i : Nat} {s : List UInt8} {oq : Option Addr} {on oc : Nat} {lo : Int} {bk : Bool} (hK : g_parseState_inline.k5 R X (some ⟨b, 0, none⟩) (bs s) oq on oc lo bk i w) :
    g_parseState_inline.k1 R X (some ⟨b, 0, none⟩) (bs s) oq on oc lo bk i .nilFunc w :=
  ⟨_, _, neq_pn w, br_false rfl hK⟩
end Go.Proofs.YtgbgadkldalkbaaGreatDoor


set_option linter.unusedVariables false
namespace Go.Proofs.YtgbgadkldalkbaaGreatDoor
open Go.Proofs Go.IntWalk Go.RowKit
variable {σ : Out} {w : World} {L L' : List Chunk} {R : Ending → World → Prop}
def EmphOK (ts ts' : List Inl) : Prop :=
  ∀ (σ : Out) (R : Ending → World → Prop) (pq q : Option Addr) (n c : Nat) vs RM EM L w, Sl 1 ty_Inline q n c vs RM → InlsAt ts vs EM → n < 1073741823 → Sat σ w (RM ++ (EM ++ L)) →
    (∀ w q' n' c' vs' RM' EM', Sl 1 ty_Inline q' n' c' vs' RM' → n' ≤ n → InlsAt ts' vs' EM' → Sat σ w (RM' ++ (EM' ++ L)) → R (.returned (.slice q' n' c')) w) →
    callE P i_parseState_emph #[.pointer pq, .slice q 0 c, .slice q n c] R w
theorem emphOK_none {ts : List Inl} (hno : ∀ t ∈ ts, t.ty ≠ ty_P_openPlain ∧ t.ty ≠ ty_P_emphPlain) : EmphOK ts ts := by
  intro σ R pq q n c vs RM EM L w hS hI hn h hR
  exact emph_none_ok hS hI hno (by omega) h fun w h => hR w q n c vs RM EM hS (Nat.le_refl _) hI h
theorem autoOff_ok {b pb : Nat} {p : PS} {o : Opt} {q : Option Addr} {n c : Nat} (hpz : p.pz = some ⟨pb, 0, none⟩) (hp : p.at b ∈ L) (ho : o.at pb ∈ L) (hoff : o.auto = false) (h : Sat σ w L) (hR : R (.returned (.slice q n c)) w) :
    callE P i_parseState_autoLinkText #[.pointer (some ⟨b, 0, none⟩), .slice q n c] R w := by
  refine g_parseState_autoLinkText.sound ?_
  refine nilP_some ⟨_, by rw [← hpz]; exact Sat.ld h hp rfl, nilP_some ?_⟩
  simp only [Addr.add_lit, Nat.zero_add]
  exact ⟨o.auto, Sat.ld h ho rfl, br_true (by rw [hoff]; rfl) hR⟩
def AutoOK (o : Opt) (ts ts' : List Inl) : Prop :=
  ∀ (σ : Out) (R : Ending → World → Prop) (b pb : Nat) (p : PS) (q : Option Addr) (n c : Nat) (vs : List Value) (RM EM L : List Chunk) (w : World), p.pz = some ⟨pb, 0, none⟩ → p.at b ∈ L → o.at pb ∈ L → Sl 1 ty_Inline q n c vs RM → n < 1073741824 → InlsAt ts vs EM → Sat σ w (RM ++ (EM ++ L)) →
    (∀ w q' n' c' vs' RM' EM', Sl 1 ty_Inline q' n' c' vs' RM' → n' < 1073741824 → InlsAt ts' vs' EM' → Sat σ w (RM' ++ (EM' ++ L)) → R (.returned (.slice q' n' c')) w) →
    callE P i_parseState_autoLinkText #[.pointer (some ⟨b, 0, none⟩), .slice q n c] R w
theorem autoOK_off {o : Opt} {ts : List Inl} (hoff : o.auto = false) : AutoOK o ts ts := fun σ R b pb p q n c vs RM EM L w hpz hp ho hS hn hI h hR =>
  autoOff_ok hpz (List.mem_append_right _ (List.mem_append_right _ hp)) (List.mem_append_right _ (List.mem_append_right _ ho)) hoff h (hR w q n c vs RM EM hS hn hI h)
theorem inl_endA {X : XI} {b pb e : Nat} {p : PS} {o : Opt} {ts ts' ts2 : List Inl} {opens : List Nat} {oq : Option Addr} {on oc : Nat} {lo : Int} {bk : Bool} (h : IIn σ b p ts opens oq on oc L w) (he : p.em = e) (hs : p.s.length < 1000000000)
    (hn : ts.length < 1000000000) (hpz : p.pz = some ⟨pb, 0, none⟩) (ho : o.at pb ∈ L) (hE : EmphOK (emitM p.s e p.s.length ts) ts') (hpos : ∀ t ∈ ts', ∀ s, t.plain? = some s → s ≠ []) (hb : plen ts' < 1073741824) (hA : AutoOK o (mergeM ts') ts2)
    (hR : ∀ w (p' : PS) q n c vs RM EM, p'.core = p.core → Sl 1 ty_Inline q n c vs RM → n < 1073741824 → InlsAt ts2 vs EM → Sat σ w (p'.at b :: (RM ++ (EM ++ L))) → R (.returned (.slice q n c)) w) :
    g_parseState_inline.bl1 R X (some ⟨b, 0, none⟩) (bs p.s) oq on oc lo bk (p.s.length : Nat) w := by
  have elen : (emitM p.s e p.s.length ts).length ≤ ts.length + 1 := by unfold emitM; split <;> simp
  refine br_false (by simp) ?_
  rw [bs_size]
  refine emitI_ok h he (Nat.le_refl _) (by omega) fun w p1 hp1 _ _ h => ⟨rfl, ?_⟩
  obtain ⟨vs, RM, EM, OM, hS, hI, hO, hlen, h⟩ := h
  have hvl := hI.length
  have hn0 := hS.1
  have hnc := hS.2.1
  have c1 : p1.pz = p.pz := by have := congrArg PS.pz hp1; exact this
  refine h.tk fun w h => ?_
  refine nilP_some (nilP_some ?_)
  refine ⟨_, _, _, h.ldA, ?_⟩
  refine ⟨_, _, _, fun w => sliceT rowInl.ht rowInl.hi _ _ _ 0 (by omega) w, ?_⟩
  refine ⟨_, _, _, h.ldA, ?_⟩
  have h : Sat σ w (RM ++ (EM ++ (p1.at b :: (OM ++ L)))) := h.re (by intro _; simp only [List.append_eq, cnt_append, cnt_cons, cnt_nil] <;> omega)
  refine hE σ _ _ p1.lq p1.ln p1.lc vs RM EM _ w hS hI (by omega) h fun w q' n' c' vs' RM' EM' hS' hnn hI' h => ⟨_, _, _, rfl, nilP_some ?_⟩
  have h : Sat σ w (p1.at b :: (RM' ++ (EM' ++ (OM ++ L)))) := h.re (by intro _; simp only [List.append_eq, cnt_append, cnt_cons, cnt_nil] <;> omega)
  refine h.stA 0 fun w h => ?_
  let p2 : PS := { p1 with lq := q', ln := n', lc := c' }
  have h : Sat σ w (p2.at b :: (RM' ++ (EM' ++ (OM ++ L)))) := h
  refine nilP_some ?_
  refine ⟨_, _, _, h.ldA, ?_⟩
  have h : Sat σ w (RM' ++ (EM' ++ (p2.at b :: (OM ++ L)))) := h.re (by intro _; simp only [List.append_eq, cnt_append, cnt_cons, cnt_nil] <;> omega)
  refine mergePlain_ok (n := n') hS' hI' hpos hb (by omega) h fun w n2 vs2 RM2 EM2 hS2 hn2 hI2 h => ⟨_, _, _, rfl, nilP_some ?_⟩
  have h : Sat σ w (p2.at b :: (RM2 ++ (EM2 ++ (OM ++ L)))) := h.re (by intro _; simp only [List.append_eq, cnt_append, cnt_cons, cnt_nil] <;> omega)
  refine h.stA 0 fun w h => ?_
  let p3 : PS := { p1 with lq := q', ln := n2, lc := c' }
  have h : Sat σ w (p3.at b :: (RM2 ++ (EM2 ++ (OM ++ L)))) := h
  refine nilP_some ?_
  refine ⟨_, _, _, h.ldA, ?_⟩
  have h : Sat σ w (RM2 ++ (EM2 ++ (p3.at b :: (OM ++ L)))) := h.re (by intro _; simp only [List.append_eq, cnt_append, cnt_cons, cnt_nil] <;> omega)
  refine hA σ _ b pb p3 q' n2 c' vs2 RM2 EM2 _ w (by rw [← hpz, ← c1]) (.head _) (.tail _ (List.mem_append_right _ ho)) hS2 (by omega) hI2 h fun w q3 n3 c3 vs3 RM3 EM3 hS3 hn3 hI3 h => ⟨_, _, _, rfl, nilP_some ?_⟩
  have h : Sat σ w (p3.at b :: (RM3 ++ (EM3 ++ (OM ++ L)))) := h.re (by intro _; simp only [List.append_eq, cnt_append, cnt_cons, cnt_nil] <;> omega)
  refine h.stA 0 fun w h => ?_
  refine nilP_some ?_
  refine ⟨_, _, _, h.ldA, ?_⟩
  let p4 : PS := { p1 with lq := q3, ln := n3, lc := c3 }
  have h : Sat σ w (p4.at b :: (RM3 ++ (EM3 ++ (OM ++ L)))) := h
  exact hR w p4 q3 n3 c3 vs3 RM3 EM3 (by rw [← hp1]; rfl) hS3 hn3 hI3 (h.less OM (by intro _; simp only [List.append_eq, cnt_append, cnt_cons, cnt_nil] <;> omega))
theorem inl_end {X : XI} {b pb e : Nat} {p : PS} {o : Opt} {ts ts' : List Inl} {opens : List Nat} {oq : Option Addr} {on oc : Nat} {lo : Int} {bk : Bool} (h : IIn σ b p ts opens oq on oc L w) (he : p.em = e) (hs : p.s.length < 1000000000)
    (hn : ts.length < 1000000000) (hpz : p.pz = some ⟨pb, 0, none⟩) (ho : o.at pb ∈ L) (hoff : o.auto = false) (hE : EmphOK (emitM p.s e p.s.length ts) ts') (hpos : ∀ t ∈ ts', ∀ s, t.plain? = some s → s ≠ []) (hb : plen ts' < 1073741824)
    (hR : ∀ w (p' : PS) q n c vs RM EM, p'.core = p.core → Sl 1 ty_Inline q n c vs RM → n < 1073741824 → InlsAt (mergeM ts') vs EM → Sat σ w (p'.at b :: (RM ++ (EM ++ L))) → R (.returned (.slice q n c)) w) :
    g_parseState_inline.bl1 R X (some ⟨b, 0, none⟩) (bs p.s) oq on oc lo bk (p.s.length : Nat) w :=
  inl_endA h he hs hn hpz ho hE hpos hb (autoOK_off hoff) hR
theorem inl_begin {b : Nat} {p : PS} {raw : List UInt8} (h : Sat σ w (p.at b :: L)) (hl : raw.length < 4611686018427387904)
    (hK : ∀ w, IIn σ b { p with s := trimLR isST raw, em := 0, lq := none, ln := 0, lc := 0 } [] [] none 0 0 L w → g_parseState_inline.l1 R (some ⟨b, 0, none⟩) (bs (trimLR isST raw)) none 0 0 0 false 0 w) :
    callE P i_parseState_inline #[.pointer (some ⟨b, 0, none⟩), .string (bs raw)] R w := by
  refine g_parseState_inline.sound ?_
  refine trimSpaceTab_ok hl ⟨_, rfl, nilP_some ?_⟩
  refine h.stA 0 fun w h => ?_
  refine nilP_some ?_
  refine h.stA 0 fun w h => ?_
  refine nilP_some ?_
  refine h.stA 0 fun w h => ?_
  exact hK w ⟨[], [], [], [], Sl.nil _ _, ⟨rfl, rfl⟩, Sl.nil _ _, by simp, h⟩
end Go.Proofs.YtgbgadkldalkbaaGreatDoor


set_option linter.unusedVariables false
set_option maxRecDepth 20000
namespace Go.Proofs.YtgbgadkldalkbaaGreatDoor
open Go.Proofs
namespace g_isPunct
noncomputable def body : Code := bodyOf Tryz.f138
end g_isPunct
def g_isPunct (R : EP) (x0 : Int) (w : World) : Prop :=
 R (.returned (.bool (((((decide (33 ≤ x0)) && (decide (x0 ≤ 47))) || ((decide (58 ≤ x0)) && (decide (x0 ≤ 64)))) || ((decide (91 ≤ x0)) && (decide (x0 ≤ 96)))) || ((decide (123 ≤ x0)) && (decide (x0 ≤ 126)))))) w

noncomputable def g_isPunct.ac (R : EP) : AC :=
  (.leaf (sel [] g_isPunct.body))
theorem g_isPunct.good (R : EP) : Good P 33 (g_isPunct.ac R) (QF P [.tmp 2] R) :=
  trivial
theorem g_isPunct.eq (R : EP) (x0 : Int) (w : World) : g_isPunct R x0 w = vcA P 33 (g_isPunct.ac R) (QF P [.tmp 2] R) (fr0 [.int .u8 x0]) w := by kernel_rfl
theorem g_isPunct.sound {R : EP} {x0 : Int} {w : World} (h : g_isPunct R x0 w) : callE P i_isPunct #[.int .u8 x0] R w :=
  callE_fin (c := g_isPunct.body) Tryz.func138 Tryz.call138 (by kernel_rfl) (by kernel_rfl) (by kernel_rfl) (by kernel_rfl) (by kernel_rfl) (g_isPunct.good R) (g_isPunct.eq R x0 w) h
namespace g_isUnicodeSpace
noncomputable def body : Code := bodyOf Tryz.f145
end g_isUnicodeSpace
def g_isUnicodeSpace (R : EP) (x0 : Int) (w : World) : Prop :=
 br (decide (x0 < 128))
 (R (.returned (.bool ((((x0 == 32) || (x0 == 9)) || (x0 == 12)) || (x0 == 10)))) w)
 (callE P i_zzZs #[.int .i32 x0] (fun e w2 => ∃ (r1 : Bool), e = .returned (.bool r1) ∧
 R (.returned (.bool r1)) w2) w)

noncomputable def g_isUnicodeSpace.ac (R : EP) : AC :=
  (.leaf (sel [] g_isUnicodeSpace.body))
theorem g_isUnicodeSpace.good (R : EP) : Good P 21 (g_isUnicodeSpace.ac R) (QF P [.tmp 2] R) :=
  trivial
theorem g_isUnicodeSpace.eq (R : EP) (x0 : Int) (w : World) : g_isUnicodeSpace R x0 w = vcA P 21 (g_isUnicodeSpace.ac R) (QF P [.tmp 2] R) (fr0 [.int .i32 x0]) w := by kernel_rfl
theorem g_isUnicodeSpace.sound {R : EP} {x0 : Int} {w : World} (h : g_isUnicodeSpace R x0 w) : callE P i_isUnicodeSpace #[.int .i32 x0] R w :=
  callE_fin (c := g_isUnicodeSpace.body) Tryz.func145 Tryz.call145 (by kernel_rfl) (by kernel_rfl) (by kernel_rfl) (by kernel_rfl) (by kernel_rfl) (g_isUnicodeSpace.good R) (g_isUnicodeSpace.eq R x0 w) h
end Go.Proofs.YtgbgadkldalkbaaGreatDoor

set_option linter.unusedVariables false
namespace Go.Proofs.YtgbgadkldalkbaaGreatDoor
open Go.Proofs Go.IntWalk Go.RowKit
variable {σ : Out} {w : World} {L L' : List Chunk} {R : Ending → World → Prop}
def spB (c : UInt8) : Bool := c == 32 || c == 9 || c == 12 || c == 10
theorem u8_lt128 {c : UInt8} (h : c < 128) : ((c.toNat : Nat) : Int) < 128 := by
  have a := UInt8.lt_iff_toNat_lt.1 h
  have e : (128 : UInt8).toNat = 128 := rfl
  omega
theorem isSpace_ok {c : UInt8} (hc : c < 128) (hR : R (.returned (.bool (spB c))) w) : callE P i_isUnicodeSpace #[.int .i32 (c.toNat : Int)] R w := by
  refine g_isUnicodeSpace.sound ?_
  unfold g_isUnicodeSpace
  rw [show decide (((c.toNat : Nat) : Int) < 128) = true from decide_eq_true (u8_lt128 hc)]
  refine br_true rfl ?_
  have e : (((((c.toNat : Nat) : Int) == 32) || (((c.toNat : Nat) : Int) == 9)) || (((c.toNat : Nat) : Int) == 12) || (((c.toNat : Nat) : Int) == 10)) = spB c := by
    have a := u8_beq c 32; have b := u8_beq c 9; have d := u8_beq c 12; have f := u8_beq c 10
    unfold spB
    rw [← a, ← b, ← d, ← f]; rfl
  rw [e]; exact hR
end Go.Proofs.YtgbgadkldalkbaaGreatDoor


set_option linter.unusedVariables false
set_option maxRecDepth 20000
namespace Go.Proofs.YtgbgadkldalkbaaGreatDoor
open Go.Proofs
namespace g_Parser_Parse
noncomputable def body : Code := bodyOf Tryz.f25
end g_Parser_Parse
def g_Parser_Parse (R : EP) (x0 : OA) (x1 : BA) (w : World) : Prop :=
 callE P i_Parser_parse #[.pointer x0, .string x1] (fun e w2 => ∃ (r1_0 : OA), ∃ (r1_1 : Bool), e = .returned (.tuple #[.pointer r1_0, .bool r1_1]) ∧
 R (.returned (.pointer r1_0)) w2) w

noncomputable def g_Parser_Parse.ac (R : EP) : AC :=
  (.leaf (sel [] g_Parser_Parse.body))
theorem g_Parser_Parse.good (R : EP) : Good P 14 (g_Parser_Parse.ac R) (QF P [.tmp 4] R) :=
  trivial
theorem g_Parser_Parse.eq (R : EP) (x0 : OA) (x1 : BA) (w : World) : g_Parser_Parse R x0 x1 w = vcA P 14 (g_Parser_Parse.ac R) (QF P [.tmp 4] R) (fr0 [.pointer x0, .string x1]) w := by kernel_rfl
theorem g_Parser_Parse.sound {R : EP} {x0 : OA} {x1 : ByteArray} {w : World} (h : g_Parser_Parse R x0 x1 w) : callE P i_Parser_Parse #[.pointer x0, .string x1] R w :=
  callE_fin (c := g_Parser_Parse.body) Tryz.func25 Tryz.call25 (by kernel_rfl) (by kernel_rfl) (by kernel_rfl) (by kernel_rfl) (by kernel_rfl) (g_Parser_Parse.good R) (g_Parser_Parse.eq R x0 x1 w) h
namespace g_impl_HTML
noncomputable def body : Code := bodyOf Tryz.f8
end g_impl_HTML
def g_impl_HTML (R : EP) (x0_0 : Bool) (x0_1 : Bool) (x0_2 : Bool) (x0_3 : Bool) (x0_4 : Bool) (x0_5 : Bool) (x0_6 : Bool) (x0_7 : Bool) (x0_8 : Bool) (x0_9 : Bool) (x1 : BA) (w : World) : Prop :=
 box w #[.bool x0_0, .bool x0_1, .bool x0_2, .bool x0_3, .bool x0_4, .bool x0_5, .bool x0_6, .bool x0_7, .bool x0_8, .bool x0_9] ty_impl_Options fun b1 w2 =>
 ∃ (v3 : Bool), w2.cell? ⟨b1, 0, none⟩ = some (.bool v3) ∧
 ∃ (v4 : Bool), w2.cell? ⟨b1, 1, none⟩ = some (.bool v4) ∧
 ∃ (v5 : Bool), w2.cell? ⟨b1, 2, none⟩ = some (.bool v5) ∧
 ∃ (v6 : Bool), w2.cell? ⟨b1, 3, none⟩ = some (.bool v6) ∧
 ∃ (v7 : Bool), w2.cell? ⟨b1, 4, none⟩ = some (.bool v7) ∧
 ∃ (v8 : Bool), w2.cell? ⟨b1, 5, none⟩ = some (.bool v8) ∧
 ∃ (v9 : Bool), w2.cell? ⟨b1, 6, none⟩ = some (.bool v9) ∧
 ∃ (v10 : Bool), w2.cell? ⟨b1, 7, none⟩ = some (.bool v10) ∧
 ∃ (v11 : Bool), w2.cell? ⟨b1, 8, none⟩ = some (.bool v11) ∧
 ∃ (v12 : Bool), w2.cell? ⟨b1, 9, none⟩ = some (.bool v12) ∧
 callE P i_impl_parser #[.agg #[.bool v3, .bool v4, .bool v5, .bool v6, .bool v7, .bool v8, .bool v9, .bool v10, .bool v11, .bool v12]] (fun e w14 => ∃ (r13 : OA), e = .returned (.pointer r13) ∧
 callE P i_Parser_Parse #[.pointer r13, .string x1] (fun e w16 => ∃ (r15 : OA), e = .returned (.pointer r15) ∧
 callE P i_ToHTML #[.iface ty_P_Document (.pointer r15)] (fun e w18 => ∃ (r17 : BA), e = .returned (.string r17) ∧
 R (.returned (.string r17)) w18) w16) w14) w2

noncomputable def g_impl_HTML.ac (R : EP) : AC :=
  (.leaf (sel [] g_impl_HTML.body))
theorem g_impl_HTML.good (R : EP) : Good P 11 (g_impl_HTML.ac R) (QF P [.tmp 4] R) :=
  trivial
theorem g_impl_HTML.eq (R : EP) (x0_0 : Bool) (x0_1 : Bool) (x0_2 : Bool) (x0_3 : Bool) (x0_4 : Bool) (x0_5 : Bool) (x0_6 : Bool) (x0_7 : Bool) (x0_8 : Bool) (x0_9 : Bool) (x1 : BA) (w : World) : g_impl_HTML R x0_0 x0_1 x0_2 x0_3 x0_4 x0_5 x0_6 x0_7 x0_8 x0_9 x1 w = vcA P 11 (g_impl_HTML.ac R) (QF P [.tmp 4] R) (fr0 [.agg #[.bool x0_0, .bool x0_1, .bool x0_2, .bool x0_3, .bool x0_4, .bool x0_5, .bool x0_6, .bool x0_7, .bool x0_8, .bool x0_9], .string x1]) w := by kernel_rfl
theorem g_impl_HTML.sound {R : EP} {x0_0 : Bool} {x0_1 : Bool} {x0_2 : Bool} {x0_3 : Bool} {x0_4 : Bool} {x0_5 : Bool} {x0_6 : Bool} {x0_7 : Bool} {x0_8 : Bool} {x0_9 : Bool} {x1 : ByteArray} {w : World} (h : g_impl_HTML R x0_0 x0_1 x0_2 x0_3 x0_4 x0_5 x0_6 x0_7 x0_8 x0_9 x1 w) : callE P i_impl_HTML #[.agg #[.bool x0_0, .bool x0_1, .bool x0_2, .bool x0_3, .bool x0_4, .bool x0_5, .bool x0_6, .bool x0_7, .bool x0_8, .bool x0_9], .string x1] R w :=
  callE_fin (c := g_impl_HTML.body) Tryz.func8 Tryz.call8 (by kernel_rfl) (by kernel_rfl) (by kernel_rfl) (by kernel_rfl) (by kernel_rfl) (g_impl_HTML.good R) (g_impl_HTML.eq R x0_0 x0_1 x0_2 x0_3 x0_4 x0_5 x0_6 x0_7 x0_8 x0_9 x1 w) h
namespace g_impl_parser
noncomputable def body : Code := bodyOf Tryz.f24
end g_impl_parser
def g_impl_parser (R : EP) (x0_0 : Bool) (x0_1 : Bool) (x0_2 : Bool) (x0_3 : Bool) (x0_4 : Bool) (x0_5 : Bool) (x0_6 : Bool) (x0_7 : Bool) (x0_8 : Bool) (x0_9 : Bool) (w : World) : Prop :=
 box w #[.bool x0_0, .bool x0_1, .bool x0_2, .bool x0_3, .bool x0_4, .bool x0_5, .bool x0_6, .bool x0_7, .bool x0_8, .bool x0_9] ty_impl_Options fun b1 w2 =>
 ∃ (v3 : Bool), w2.cell? ⟨b1, 8, none⟩ = some (.bool v3) ∧
 ∃ (v4 : Bool), w2.cell? ⟨b1, 0, none⟩ = some (.bool v4) ∧
 ∃ (v5 : Bool), w2.cell? ⟨b1, 1, none⟩ = some (.bool v5) ∧
 ∃ (v6 : Bool), w2.cell? ⟨b1, 2, none⟩ = some (.bool v6) ∧
 ∃ (v7 : Bool), w2.cell? ⟨b1, 3, none⟩ = some (.bool v7) ∧
 ∃ (v8 : Bool), w2.cell? ⟨b1, 4, none⟩ = some (.bool v8) ∧
 ∃ (v9 : Bool), w2.cell? ⟨b1, 9, none⟩ = some (.bool v9) ∧
 ∃ (v10 : Bool), w2.cell? ⟨b1, 5, none⟩ = some (.bool v10) ∧
 ∃ (v11 : Bool), w2.cell? ⟨b1, 6, none⟩ = some (.bool v11) ∧
 ∃ (v12 : Bool), w2.cell? ⟨b1, 7, none⟩ = some (.bool v12) ∧
 box w2 #[.bool v3, .bool v4, .bool v5, .bool v6, .bool v7, .bool v8, .bool v9, .bool v10, .bool v11, .bool v12] ty_Parser fun b13 w14 =>
 R (.returned (.pointer (some ⟨b13, 0, none⟩))) w14

noncomputable def g_impl_parser.ac (R : EP) : AC :=
  (.leaf (sel [] g_impl_parser.body))
theorem g_impl_parser.good (R : EP) : Good P 25 (g_impl_parser.ac R) (QF P [.tmp 2] R) :=
  trivial
theorem g_impl_parser.eq (R : EP) (x0_0 : Bool) (x0_1 : Bool) (x0_2 : Bool) (x0_3 : Bool) (x0_4 : Bool) (x0_5 : Bool) (x0_6 : Bool) (x0_7 : Bool) (x0_8 : Bool) (x0_9 : Bool) (w : World) : g_impl_parser R x0_0 x0_1 x0_2 x0_3 x0_4 x0_5 x0_6 x0_7 x0_8 x0_9 w = vcA P 25 (g_impl_parser.ac R) (QF P [.tmp 2] R) (fr0 [.agg #[.bool x0_0, .bool x0_1, .bool x0_2, .bool x0_3, .bool x0_4, .bool x0_5, .bool x0_6, .bool x0_7, .bool x0_8, .bool x0_9]]) w := by kernel_rfl
theorem g_impl_parser.sound {R : EP} {x0_0 : Bool} {x0_1 : Bool} {x0_2 : Bool} {x0_3 : Bool} {x0_4 : Bool} {x0_5 : Bool} {x0_6 : Bool} {x0_7 : Bool} {x0_8 : Bool} {x0_9 : Bool} {w : World} (h : g_impl_parser R x0_0 x0_1 x0_2 x0_3 x0_4 x0_5 x0_6 x0_7 x0_8 x0_9 w) : callE P i_impl_parser #[.agg #[.bool x0_0, .bool x0_1, .bool x0_2, .bool x0_3, .bool x0_4, .bool x0_5, .bool x0_6, .bool x0_7, .bool x0_8, .bool x0_9]] R w :=
  callE_fin (c := g_impl_parser.body) Tryz.func24 Tryz.call24 (by kernel_rfl) (by kernel_rfl) (by kernel_rfl) (by kernel_rfl) (by kernel_rfl) (g_impl_parser.good R) (g_impl_parser.eq R x0_0 x0_1 x0_2 x0_3 x0_4 x0_5 x0_6 x0_7 x0_8 x0_9 w) h
namespace g_laws_only
noncomputable def body : Code := bodyOf Tryz.f12
def bl1 (R : EP) (Xa : BA → BA → Int → Int → WP) (x0 : BA) (x1 : BA) (x13 : Int) (x14 : Int) (w : World) : Prop :=
 br (decide (x14 < x13))
 (0 ≤ x14 ∧ x14 < (x0.size : Int) ∧
 callE P i_strings_IndexByte #[.string x1, .int .u8 (bt x0 x14)] (fun e w2 => ∃ (r1 : Int), e = .returned (.int .i64 r1) ∧
 br (decide (r1 < 0))
 (R (.returned (.bool false)) w2)
 (Xa x0 x1 x13 (IntKind.i64.wrap (x14 + 1)) w2)) w)
 (R (.returned (.bool true)) w)
def l1 (R : EP) (x0 : BA) (x1 : BA) (x13 : Int) (x14 : Int) (w : World) : Prop :=
  ∀ X : BA → BA → Int → Int → WP, (∀ x0 x1 x13 x14 w, bl1 R X x0 x1 x13 x14 w → X x0 x1 x13 x14 w) → X x0 x1 x13 x14 w

noncomputable def al1 (R : EP) (Xa : BA → BA → Int → Int → WP) : AC :=
  (.leaf (sel [1, 1, 0, 1, 0, 0] body))
end g_laws_only
def g_laws_only (R : EP) (x0 : BA) (x1 : BA) (x2 : Int) (w : World) : Prop :=
 br (decide ((x0.size : Int) > x2))
 (R (.returned (.bool false)) w)
 (g_laws_only.l1 R x0 x1 (x0.size : Int) 0 w)

noncomputable def g_laws_only.ac (R : EP) : AC :=
  (.seq (.leaf (sel [0] g_laws_only.body)) (.seq (.leaf (sel [1, 0] g_laws_only.body)) (.seq (.seq (.leaf (sel [1, 1, 0, 0] g_laws_only.body)) (.block 0 (.loop (leaf [(0, .s .str), (1, .s .str), (13, .s (.int .i64)), (14, .s (.int .i64))] (g_laws_only.l1 R)) (sel [1, 1, 0, 1, 0, 0] g_laws_only.body)))) (.leaf (sel [1, 1, 1] g_laws_only.body)))))
theorem g_laws_only.good (R : EP) : Good P 24 (g_laws_only.ac R) (QF P [.tmp 6] R) :=
  ⟨trivial, ⟨trivial, ⟨⟨trivial, (loopG (g_laws_only.al1 R) (g_laws_only.bl1 R) (fun _ => by kernel_rfl) (fun Xa => trivial) (fun Xa => by intro x0 x1 x13 x14 ρ w; kernel_rfl) (fun X h _ _ _ _ _ g => g X h))⟩, trivial⟩⟩⟩
theorem g_laws_only.eq (R : EP) (x0 : BA) (x1 : BA) (x2 : Int) (w : World) : g_laws_only R x0 x1 x2 w = vcA P 24 (g_laws_only.ac R) (QF P [.tmp 6] R) (fr0 [.string x0, .string x1, .int .i64 x2]) w := by kernel_rfl
theorem g_laws_only.sound {R : EP} {x0 : ByteArray} {x1 : ByteArray} {x2 : Int} {w : World} (h : g_laws_only R x0 x1 x2 w) : callE P i_laws_only #[.string x0, .string x1, .int .i64 x2] R w :=
  callE_fin (c := g_laws_only.body) Tryz.func12 Tryz.call12 (by kernel_rfl) (by kernel_rfl) (by kernel_rfl) (by kernel_rfl) (by kernel_rfl) (g_laws_only.good R) (g_laws_only.eq R x0 x1 x2 w) h
end Go.Proofs.YtgbgadkldalkbaaGreatDoor

set_option linter.unusedVariables false
namespace Go.Proofs.YtgbgadkldalkbaaGreatDoor
open Go.Proofs Go.IntWalk
variable {σ : Out} {w : World} {L L' : List Chunk} {R : Ending → World → Prop}
def lnOf (s : List UInt8) (nl : UInt8 := 0) : Ln := ⟨0, 0, 0, s, nl⟩
def plainStart0 (c : UInt8) : Bool := !(isST c || c == 62 || c == 35 || c == 95 || c == 96 || c == 126 || c == 61 || c == 45 || c == 42)
def plainStart (c : UInt8) : Bool := plainStart0 c && c != 60 && !isBullet c
theorem tsGo_first {c nl : UInt8} {s : List UInt8} (hc : isST c = false) (mn k n : Nat) (e : Bool) : (lnOf (c :: s) nl).tsGo mn e (k + 1) n = if mn ≤ n then some (lnOf (c :: s) nl) else none := by
  simp only [isST, Bool.or_eq_false_iff, beq_eq_false_iff_ne, ne_eq] at hc
  simp [Ln.tsGo, lnOf, hc.1, hc.2]
theorem lnOf_ok {nl : UInt8} {s : List UInt8} (hs : s.length < 1000000000) : (lnOf s nl).ok := ⟨by simp [lnOf], by simp [lnOf], by simp [lnOf]; omega, by simp [lnOf]⟩
theorem plainStart0_st {c : UInt8} (hc : plainStart0 c = true) : isST c = false := by
  simp only [plainStart0, Bool.not_eq_true', Bool.or_eq_false_iff] at hc
  exact hc.1.1.1.1.1.1.1.1
def digB (c : UInt8) : Bool := decide (48 ≤ c.toNat) && decide (c.toNat ≤ 57)
def numNo (s : List UInt8) : Prop := (s.dropWhile digB).head? ≠ some 46 ∧ (s.dropWhile digB).head? ≠ some 41
theorem startListItem_num {b : Nat} {q : Option Addr} {c nl : UInt8} {s : List UInt8} (h : Sat σ w ((lnOf (c :: s) nl).at b :: L)) (hl : s.length < 1000000) (hc : digB c = true) (hn : numNo (c :: s))
    (hR : ∀ w, Sat σ w ((lnOf (c :: s) nl).at b :: L) → R (.returned (.bool false)) w) : callE P i_parseState_startListItem #[.pointer q, .pointer (some ⟨b, 0, none⟩)] R w := by
  have hcd := hc
  simp only [digB, Bool.and_eq_true, decide_eq_true_eq] at hcd
  have hst : isST c = false := by
    simp only [isST, Bool.or_eq_false_iff, beq_eq_false_iff_ne, ne_eq]
    constructor <;> (rintro rfl; revert hcd; decide)
  have hlok : (lnOf (c :: s) nl).ok := lnOf_ok (by simp; omega)
  refine g_parseState_startListItem.sound ?_
  refine Sat.bx h fun b1 w h => ?_
  repeat (first | refine nilP_some ?_ | refine h.tk fun w h => ?_ | refine ⟨_, h.ldA, ?_⟩ | refine ⟨_, _, _, h.ldA, ?_⟩ | refine h.stA 0 fun w h => ?_ | refine h.stA 1 fun w h => ?_ | refine h.stA 2 fun w h => ?_ | refine h.stA 3 fun w h => ?_ | refine h.stA 4 fun w h => ?_ | refine h.stA 5 fun w h => ?_ | refine h.stA 6 fun w h => ?_ | refine h.bx fun b0 w h => ?_)
  have h : Sat σ _ ((lnOf (c :: s) nl).at b0 :: (b1, cel [.pointer q] ty_P_parseState) :: (lnOf (c :: s) nl).at b :: L) := h
  intro X hX
  refine hX _ _ _ _ _ (br_true (by simp) ?_)
  refine YtgbgadkldalkbaaGreatDoor.trimSp_ok (min := 1) (max := 1) h hlok (by decide) (by decide) ?_
  have hts : (lnOf (c :: s) nl).trimSp 1 1 false = none := by unfold Ln.trimSp; rw [tsGo_first hst]; rfl
  rw [hts]
  intro w h
  refine ⟨_, rfl, br_true rfl ?_⟩
  refine peek_ok h (by first | assumption | (repeat (first | exact .head _ | apply List.Mem.tail))) hlok fun w h => ⟨_, rfl, ?_⟩
  rw [show (lnOf (c :: s) nl).peek = c from rfl]
  have ne : ∀ (d : UInt8) (n : Int), (d.toNat : Int) = n → (d.toNat < 48 ∨ 57 < d.toNat) → (((c.toNat : Nat) : Int) == n) = false := by
    intro d n hd hn
    refine beqf hd ?_
    rintro rfl; omega
  have k4 : g_parseState_startListItem.k4 R b1 b0 0 0 true w := by
    refine br_true rfl ?_
    refine ⟨_, h.ldA, ?_⟩
    intro Y hY
    have key : ∀ k j v w, j + k = (c :: s).length → (∀ m, m < j → digB ((c :: s).getD m 0) = true) → Sat σ w ((lnOf (c :: s) nl).at b0 :: (b1, cel [.pointer q] ty_P_parseState) :: (lnOf (c :: s) nl).at b :: L) → Y b1 b0 0 v (j : Int) w := by
      intro k
      induction k with
      | zero =>
        intro j v w hj hall h
        refine hY _ _ _ _ _ _ ?_
        refine ⟨_, h.ldA, ?_⟩
        exact br_true (by simp [lnOf] at hj ⊢; omega) (hR _ h.tail.tail)
      | succ k ih =>
        intro j v w hj hall h
        refine hY _ _ _ _ _ _ ?_
        refine ⟨_, h.ldA, ?_⟩
        refine br_false (by simp [lnOf] at hj ⊢; omega) ?_
        refine ⟨_, h.ldA, ?_⟩
        refine ⟨by omega, by simp [lnOf] at hj ⊢; omega, ?_⟩
        rw [show ((lnOf (c :: s) nl).text) = c :: s from rfl]
        have hjl : j < (c :: s).length := by omega
        rw [bs_bt]
        have hdw : (c :: s).dropWhile digB = ((c :: s).drop j).dropWhile digB := by
          have : ∀ (m : Nat) (l : List UInt8), m ≤ l.length → (∀ i, i < m → digB (l.getD i 0) = true) → l.dropWhile digB = (l.drop m).dropWhile digB := by
            intro m
            induction m with
            | zero => intro l _ _; rfl
            | succ m ihm =>
              intro l hl ha
              cases l with
              | nil => simp at hl
              | cons x l =>
                have h0 : digB x = true := ha 0 (by omega)
                rw [List.dropWhile_cons_of_pos h0, List.drop_succ_cons]
                exact ihm l (by simpa using hl) (fun i hi => ha (i + 1) (by omega))
          exact this j _ (by omega) hall
        have hget : (c :: s).getD j 0 = (c :: s)[j] := by rw [List.getD_eq_getElem?_getD, List.getElem?_eq_getElem hjl]; rfl
        rw [hget]
        generalize hd : (c :: s)[j] = d at *
        by_cases hdig : digB d = true
        · have hd' := hdig
          simp only [digB, Bool.and_eq_true, decide_eq_true_eq] at hd'
          refine br_false ?_ (br_false (by simp; omega) ?_)
          · have a1 := u8b d 46 46 rfl
            have a2 := u8b d 41 41 rfl
            rw [a1, a2]
            have b1 : d ≠ 46 := by rintro rfl; revert hd'; decide
            have b2 : d ≠ 41 := by rintro rfl; revert hd'; decide
            simp [b1, b2]
          unfold g_parseState_startListItem.k9
          refine ⟨_, h.ldA, ?_⟩
          refine br_split (fun _ => hR _ h.tail.tail) fun _ => ?_
          rw [i64_inc (by simp at hjl; omega)]
          refine ih (j + 1) _ w (by omega) ?_ h
          intro m hm
          rcases Nat.lt_or_ge m j with h1 | h1
          · exact hall m h1
          · obtain rfl : m = j := by omega
            rw [hget]; exact hdig
        · have hdf : digB d = false := by simpa using hdig
          have hh : ((c :: s).dropWhile digB).head? = some d := by
            rw [hdw, List.drop_eq_getElem_cons hjl, hd, List.dropWhile_cons_of_neg (by simp [hdf])]; rfl
          have n1 := hn.1; have n2 := hn.2
          rw [hh] at n1 n2
          refine br_false ?_ (br_true ?_ (hR _ h.tail.tail))
          · have a1 := u8b d 46 46 rfl
            have a2 := u8b d 41 41 rfl
            rw [a1, a2]
            have b1 : d ≠ 46 := fun h => n1 (by rw [h])
            have b2 : d ≠ 41 := fun h => n2 (by rw [h])
            simp [b1, b2]
          · simp only [digB, Bool.and_eq_false_iff, decide_eq_false_iff_not] at hdf
            simp; omega
    exact key (c :: s).length 0 0 w (by simp) (fun m hm => by omega) h
  refine br_false (ne 45 45 rfl (by decide)) (br_false (ne 42 42 rfl (by decide)) ?_)
  rw [ne 43 43 rfl (by decide)]
  refine br_false rfl ?_
  have hcn : c.toNat = 48 ∨ c.toNat = 49 ∨ c.toNat = 50 ∨ c.toNat = 51 ∨ c.toNat = 52 ∨ c.toNat = 53 ∨ c.toNat = 54 ∨ c.toNat = 55 ∨ c.toNat = 56 ∨ c.toNat = 57 := by omega
  rcases hcn with e | e | e | e | e | e | e | e | e | e <;> rw [e]
  · exact br_true rfl k4
  · exact br_false rfl (br_true rfl k4)
  · exact br_false rfl (br_false rfl (br_true rfl k4))
  · exact br_false rfl (br_false rfl (br_false rfl (br_true rfl k4)))
  · exact br_false rfl (br_false rfl (br_false rfl (br_false rfl (br_true rfl k4))))
  · exact br_false rfl (br_false rfl (br_false rfl (br_false rfl (br_false rfl (br_true rfl k4)))))
  · exact br_false rfl (br_false rfl (br_false rfl (br_false rfl (br_false rfl (br_false rfl (br_true rfl k4))))))
  · exact br_false rfl (br_false rfl (br_false rfl (br_false rfl (br_false rfl (br_false rfl (br_false rfl (br_true rfl k4)))))))
  · exact br_false rfl (br_false rfl (br_false rfl (br_false rfl (br_false rfl (br_false rfl (br_false rfl (br_false rfl (br_true rfl k4))))))))
  · exact br_false rfl (br_false rfl (br_false rfl (br_false rfl (br_false rfl (br_false rfl (br_false rfl (br_false rfl (br_false rfl (by exact k4)))))))))
theorem LDecl.num {c nl : UInt8} {s : List UInt8} (hl : s.length < 1000000) (hc : digB c = true) (hn : numNo (c :: s)) : LDecl (lnOf (c :: s) nl) := by
  intro b d p ob o M t v hs hd ho hb ht σ w L R h hR
  refine g_newListItem.sound ?_
  refine Sat.bx h fun b1 w h => ?_
  refine Sat.bx h fun b3 w h => ?_
  have h : Sat σ w (zLn b3 :: (lnOf (c :: s) nl).at b1 :: (p.at b :: M ++ L)) := h
  have h : Sat σ w (p.at b :: M ++ (zLn b3 :: (lnOf (c :: s) nl).at b1 :: L)) := h.re (by intro _; simp only [List.append_eq, cnt_append, cnt_cons, cnt_nil] <;> omega)
  refine curB_ok h hs hd fun w h => ?_
  rw [ho]
  dsimp only
  refine ⟨_, rfl, none, false, w, by rw [hb]; exact ta_listBuilder_no ht w, br_false rfl (br_false rfl ?_)⟩
  have h : Sat σ w ((lnOf (c :: s) nl).at b1 :: zLn b3 :: p.at b :: M ++ L) := h.re (by intro _; simp only [List.append_eq, cnt_append, cnt_cons, cnt_nil] <;> omega)
  refine startListItem_num h hl hc hn fun w h => ⟨_, rfl, br_false rfl ?_⟩
  repeat (first | refine nilP_some ?_ | refine h.tk fun w h => ?_ | refine ⟨_, h.ldA, ?_⟩ | refine ⟨_, _, _, h.ldA, ?_⟩ | refine h.stA 0 fun w h => ?_ | refine h.stA 1 fun w h => ?_ | refine h.stA 2 fun w h => ?_ | refine h.stA 3 fun w h => ?_ | refine h.stA 4 fun w h => ?_ | refine h.stA 5 fun w h => ?_ | refine h.stA 6 fun w h => ?_ | refine h.bx fun b0 w h => ?_)
  exact hR _ h.tail.tail
end Go.Proofs.YtgbgadkldalkbaaGreatDoor


set_option linter.unusedVariables false
namespace Go.Proofs.YtgbgadkldalkbaaGreatDoor
open Go.Proofs Go.IntWalk Go.RowKit
variable {σ : Out} {w : World} {L L' : List Chunk} {R : Ending → World → Prop}
def PS.coreS (p : PS) : PS := ({ p with s := [] } : PS).core
def InlineOK (op : Opt) (s : List UInt8) (f : List UInt8 → List UInt8) : Prop :=
  ∀ (σ : Out) (R : Ending → World → Prop) (b pb : Nat) (p : PS) (L : List Chunk) (w : World), Sat σ w (p.at b :: L) → p.pz = some ⟨pb, 0, none⟩ → op.at pb ∈ L → p.links = none →
    (∀ w (p' : PS) q n c vs RM KM KM', p'.coreS = p.coreS → Sl 1 ty_Inline q n c vs RM → n < 1073741824 → PrintsL "PrintHTML" vs KM KM' f → Sat σ w (p'.at b :: (RM ++ (KM ++ L))) → R (.returned (.slice q n c)) w) →
    callE P i_parseState_inline #[.pointer (some ⟨b, 0, none⟩), .string (bs s)] R w
def InlineOKG (lk : Option Nat) (L0 : List Chunk) (op : Opt) (s : List UInt8) (f : List UInt8 → List UInt8) : Prop :=
  ∀ (σ : Out) (R : Ending → World → Prop) (b pb : Nat) (p : PS) (L : List Chunk) (w : World), (∀ c ∈ L0, c ∈ L) → Sat σ w (p.at b :: L) → p.pz = some ⟨pb, 0, none⟩ → op.at pb ∈ L → p.links = lk →
    (∀ w (p' : PS) q n c vs RM KM KM', p'.coreS = p.coreS → Sl 1 ty_Inline q n c vs RM → n < 1073741824 → PrintsL "PrintHTML" vs KM KM' f → Sat σ w (p'.at b :: (RM ++ (KM ++ L))) → R (.returned (.slice q n c)) w) →
    callE P i_parseState_inline #[.pointer (some ⟨b, 0, none⟩), .string (bs s)] R w
abbrev InlineOKL (L0 : List Chunk) (op : Opt) (s : List UInt8) (f : List UInt8 → List UInt8) : Prop := InlineOKG none L0 op s f
theorem InlineOK.lift {op : Opt} {s : List UInt8} {f : List UInt8 → List UInt8} (h : InlineOK op s f) : InlineOKL [] op s f := fun σ R b pb p L w _ => h σ R b pb p L w
def PS0 (pz : Option Addr) : PS := ⟨pz, none, none, 0, none, 0, 0, 0, false, [], 0, none, 0, 0, none, 0, 0, none, 0, 0, List.replicate 80 (.int .i64 0) ++ [.bool false]⟩
end Go.Proofs.YtgbgadkldalkbaaGreatDoor


set_option linter.unusedVariables false
namespace Go.Proofs.YtgbgadkldalkbaaGreatDoor
open Go.Proofs Go.IntWalk Go.RowKit
variable {σ : Out} {w : World} {L L' : List Chunk} {R : Ending → World → Prop}
def optV (o : Opt) : Value := .agg #[.bool o.strike, .bool o.task, .bool o.auto, .bool o.http, .bool o.table, .bool o.dot, .bool o.dash, .bool o.quote, .bool o.ids, .bool o.emoji]
theorem parser_ok {o : Opt} (h : Sat σ w L) (hR : ∀ w pb, Sat σ w (o.at pb :: L) → R (.returned (.pointer (some ⟨pb, 0, none⟩))) w) : callE P i_impl_parser #[optV o] R w := by
  refine g_impl_parser.sound ?_
  refine Sat.bx h fun b w h => ?_
  have ld : ∀ (k : Nat) (v : Bool), ([Value.bool o.strike, .bool o.task, .bool o.auto, .bool o.http, .bool o.table, .bool o.dot, .bool o.dash, .bool o.quote, .bool o.ids, .bool o.emoji])[k]? = some (.bool v) → w.cell? ⟨b, k, none⟩ = some (.bool v) := fun k v hv => Sat.ld h (.head _) hv
  refine ⟨_, ld 8 _ rfl, _, ld 0 _ rfl, _, ld 1 _ rfl, _, ld 2 _ rfl, _, ld 3 _ rfl, _, ld 4 _ rfl, _, ld 9 _ rfl, _, ld 5 _ rfl, _, ld 6 _ rfl, _, ld 7 _ rfl, ?_⟩
  refine Sat.bx h fun pb w h => hR w pb ?_
  have h : Sat σ w (o.at pb :: (b, cel [Value.bool o.strike, .bool o.task, .bool o.auto, .bool o.http, .bool o.table, .bool o.dot, .bool o.dash, .bool o.quote, .bool o.ids, .bool o.emoji] ty_impl_Options) :: L) := h
  exact (h.less [(b, cel [Value.bool o.strike, .bool o.task, .bool o.auto, .bool o.http, .bool o.table, .bool o.dot, .bool o.dash, .bool o.quote, .bool o.ids, .bool o.emoji] ty_impl_Options)] (by intro _; simp only [List.append_eq, cnt_append, cnt_cons, cnt_nil] <;> omega))
def ParsesTo (o : Opt) (raw out : List UInt8) : Prop :=
  ∀ (σ : Out) (R : Ending → World → Prop) (L : List Chunk) (w : World) (pb : Nat), Sat σ w L → o.at pb ∈ L →
    (∀ w db k DM DM' f, Prints "PrintHTML" (.iface ty_P_Document (.pointer (some ⟨db, 0, none⟩))) DM DM' f → f [] = out → Sat σ w (DM ++ L) → R (.returned (.tuple #[.pointer (some ⟨db, 0, none⟩), .bool k])) w) →
    callE P i_Parser_parse #[.pointer (some ⟨pb, 0, none⟩), .string (bs raw)] R w
def ParsesToL (L0 : List Chunk) (o : Opt) (raw out : List UInt8) : Prop :=
  ∀ (σ : Out) (R : Ending → World → Prop) (L : List Chunk) (w : World) (pb : Nat), (∀ c ∈ L0, c ∈ L) → Sat σ w L → o.at pb ∈ L →
    (∀ w db k DM DM' f, Prints "PrintHTML" (.iface ty_P_Document (.pointer (some ⟨db, 0, none⟩))) DM DM' f → f [] = out → Sat σ w (DM ++ L) → R (.returned (.tuple #[.pointer (some ⟨db, 0, none⟩), .bool k])) w) →
    callE P i_Parser_parse #[.pointer (some ⟨pb, 0, none⟩), .string (bs raw)] R w
theorem ParsesTo.lift {o : Opt} {raw out : List UInt8} (h : ParsesTo o raw out) : ParsesToL [] o raw out := fun σ R L w pb _ => h σ R L w pb
theorem html_okL {L0 : List Chunk} {o : Opt} {raw out : List UInt8} (hP : ParsesToL L0 o raw out) (hL0 : ∀ c ∈ L0, c ∈ L) (hout : out.length ≤ 549755813888) (h : Sat σ w L) (hR : ∀ w, Sat σ w L → R (.returned (.string (bs out))) w) : callE P i_impl_HTML #[optV o, .string (bs raw)] R w := by
  refine g_impl_HTML.sound ?_
  refine Sat.bx h fun b w h => ?_
  have ld : ∀ (k : Nat) (v : Bool), ([Value.bool o.strike, .bool o.task, .bool o.auto, .bool o.http, .bool o.table, .bool o.dot, .bool o.dash, .bool o.quote, .bool o.ids, .bool o.emoji])[k]? = some (.bool v) → w.cell? ⟨b, k, none⟩ = some (.bool v) := fun k v hv => Sat.ld h (.head _) hv
  refine ⟨_, ld 0 _ rfl, _, ld 1 _ rfl, _, ld 2 _ rfl, _, ld 3 _ rfl, _, ld 4 _ rfl, _, ld 5 _ rfl, _, ld 6 _ rfl, _, ld 7 _ rfl, _, ld 8 _ rfl, _, ld 9 _ rfl, ?_⟩
  refine parser_ok h fun w pb h => ⟨_, rfl, ?_⟩
  refine g_Parser_Parse.sound ?_
  refine hP σ _ _ w pb (fun c hc => .tail _ (.tail _ (hL0 c hc))) h (.head _) fun w db k DM DM' f hf hfo h => ⟨_, _, rfl, _, rfl, ?_⟩
  subst hfo
  refine toHTML_ok hf h hout fun w h => ⟨_, rfl, hR w ?_⟩
  exact h.less (DM' ++ (o.at pb :: [(b, cel [Value.bool o.strike, .bool o.task, .bool o.auto, .bool o.http, .bool o.table, .bool o.dot, .bool o.dash, .bool o.quote, .bool o.ids, .bool o.emoji] ty_impl_Options)])) (by intro _; simp only [List.append_eq, cnt_append, cnt_cons, cnt_nil] <;> omega)
def onlyM (s set : List UInt8) (n : Nat) : Bool := decide (s.length ≤ n) && s.all fun c => decide (c ∈ set)
theorem only_ok {s set : List UInt8} {n : Nat} (hs : s.length < 4611686018427387904) (hR : R (.returned (.bool (onlyM s set n))) w) : callE P i_laws_only #[.string (bs s), .string (bs set), .int .i64 n] R w := by
  refine g_laws_only.sound ?_
  by_cases hn : n < s.length
  · refine br_true (by simp; omega) ?_
    have : onlyM s set n = false := by unfold onlyM; rw [decide_eq_false (by omega)]; rfl
    rw [← this]; exact hR
  refine br_false (by simp; omega) ?_
  intro X hX
  rw [bs_size]
  have hall : onlyM s set n = s.all fun c => decide (c ∈ set) := by unfold onlyM; rw [decide_eq_true (by omega)]; rfl
  rw [hall] at hR
  have key : ∀ k i, i + k = s.length → (s.all fun c => decide (c ∈ set)) = ((s.drop i).all fun c => decide (c ∈ set)) → X (bs s) (bs set) (s.length : Nat) (i : Int) w := by
    intro k
    induction k with
    | zero =>
      intro i hi ha
      refine hX _ _ _ _ _ (br_false (by simp; omega) ?_)
      rw [List.drop_eq_nil_of_le (by omega)] at ha
      rw [ha] at hR; exact hR
    | succ k ih =>
      intro i hi ha
      have hil : i < s.length := by omega
      rw [List.drop_eq_getElem_cons hil, List.all_cons] at ha
      refine hX _ _ _ _ _ (br_true (by simp; omega) ⟨by omega, by simp; omega, ?_⟩)
      rw [bt_at hil]
      refine indexByte2_ok ⟨_, rfl, ?_⟩
      by_cases hm : s[i] ∈ set
      · refine br_false (by simpa using idxB_nonneg.2 hm) ?_
        rw [i64_inc (by omega)]
        refine ih (i + 1) (by omega) ?_
        rw [ha]; simp [hm]
      · have := mt idxB_nonneg.1 hm
        refine br_true (by simpa using this) ?_
        rw [ha] at hR
        simpa [hm] using hR
  exact key s.length 0 (by omega) (by rw [List.drop_zero])
end Go.Proofs.YtgbgadkldalkbaaGreatDoor


set_option linter.unusedVariables false
namespace Go.Proofs.YtgbgadkldalkbaaGreatDoor
open Go.Proofs Go.IntWalk Go.RowKit
variable {σ : Out} {w : World} {L L' : List Chunk} {R : Ending → World → Prop}
def AtI (X : XI) (σ : Out) (b : Nat) (p0 : PS) (raw : List UInt8) (L : List Chunk) (i e : Nat) (ts : List Inl) : Prop :=
  ∀ w (p : PS) oq on oc, p.coreS = p0.coreS → p.s = raw → p.em = (e : Int) → IIn σ b p ts [] oq on oc L w → X (some ⟨b, 0, none⟩) (bs raw) oq on oc 0 false (i : Int) w
def LoopX (R : Ending → World → Prop) (X : XI) (b : Nat) (raw : List UInt8) : Prop :=
  ∀ oq on oc (i : Int) w, g_parseState_inline.bl1 R X (some ⟨b, 0, none⟩) (bs raw) oq on oc 0 false i w → X (some ⟨b, 0, none⟩) (bs raw) oq on oc 0 false i w
theorem PS.pz_of {p p0 : PS} (h : p.coreS = p0.coreS) : p.pz = p0.pz := by have := congrArg PS.pz h; exact this
theorem PS.coreS_of {p' p p0 : PS} (h1 : p'.core = p.core) (h2 : p.coreS = p0.coreS) : p'.coreS = p0.coreS := by
  rw [← h2]
  have := congrArg (fun q : PS => ({ q with s := [] } : PS)) h1
  exact this
theorem AtI.plain {X : XI} {b pb i e : Nat} {p0 : PS} {raw : List UInt8} {ts : List Inl} {o : Opt} (hX : LoopX R X b raw) (hi : i < raw.length) (hs : raw.length < 1000000000) (hpz : p0.pz = some ⟨pb, 0, none⟩) (ho : o.at pb ∈ L) (hp : parserOf o raw[i] = .nil) (h93 : raw[i] ≠ 93)
    (h : AtI X σ b p0 raw L (i + 1) e ts) : AtI X σ b p0 raw L i e ts := by
  intro w p oq on oc hc hraw he hI
  refine hX _ _ _ _ _ ?_
  obtain ⟨vs, RM, EM, OM, hS, hIn, hO, hlen, hsat⟩ := hI
  refine inl_dispatch (p := p) hi (by omega) (by rw [PS.pz_of hc, hpz]) (.head _) (.tail _ (List.mem_append_right _ (List.mem_append_right _ (List.mem_append_right _ ho)))) hsat ?_
  rw [hp]
  exact inl_none (inl_k5 hi (by omega) (.inl h93) (h w p oq on oc hc hraw he ⟨vs, RM, EM, OM, hS, hIn, hO, hlen, hsat⟩))
theorem AtI.leaf {X : XI} {b pb i e st en : Nat} {p0 : PS} {raw : List UInt8} {ts : List Inl} {o : Opt} {f : FuncId} {t : Inl} {L0 : List Chunk} {Q : PS → PS → Prop} (hX : LoopX R X b raw) (hi : i < raw.length) (hs : raw.length < 1000000000) (hpz : p0.pz = some ⟨pb, 0, none⟩) (ho : o.at pb ∈ L)
    (hp : parserOf o raw[i] = .fn f) (hL0 : ∀ c ∈ L0, c ∈ L) (hf : ∀ p : PS, p.coreS = p0.coreS → p.s = raw → LeafOK b p raw i (.func (.func f) #[] #[]) L0 (some (t, st, en)) (Q p)) (ht : t.isOpen = false) (hst : st ≤ raw.length) (hn : ts.length < 1000000000)
    (h : AtI X σ b p0 raw L en en (emitM raw e st ts ++ [t])) : AtI X σ b p0 raw L i e ts := by
  intro w p oq on oc hc hraw he hI
  refine hX _ _ _ _ _ ?_
  obtain ⟨vs, RM, EM, OM, hS, hIn, hO, hlen, hsat⟩ := hI
  refine inl_dispatch (p := p) hi (by omega) (by rw [PS.pz_of hc, hpz]) (.head _) (.tail _ (List.mem_append_right _ (List.mem_append_right _ (List.mem_append_right _ ho)))) hsat ?_
  rw [hp]
  dsimp only
  have hleaf := hf p hc hraw
  subst hraw
  refine inl_leaf ⟨vs, RM, EM, OM, hS, hIn, hO, hlen, hsat⟩ hL0 hleaf he hst hs hn (by simp) fun w p2 oq on oc hp2 hem2 _ h2 => ?_
  rw [ht] at h2
  refine h w p2 oq on oc (PS.coreS_of hp2 hc) ?_ hem2 h2
  have := congrArg PS.s hp2; exact this
theorem AtI.finA {X : XI} {b pb e : Nat} {p0 : PS} {raw : List UInt8} {ts ts' ts2 : List Inl} {o : Opt} (hX : LoopX R X b raw) (hs : raw.length < 1000000000) (hpz : p0.pz = some ⟨pb, 0, none⟩) (ho : o.at pb ∈ L) (hn : ts.length < 1000000000)
    (hE : EmphOK (emitM raw e raw.length ts) ts') (hpos : ∀ t ∈ ts', ∀ s, t.plain? = some s → s ≠ []) (hb : plen ts' < 1073741824) (hA : AutoOK o (mergeM ts') ts2)
    (hR : ∀ w (p' : PS) q n c vs RM EM, p'.coreS = p0.coreS → Sl 1 ty_Inline q n c vs RM → n < 1073741824 → InlsAt ts2 vs EM → Sat σ w (p'.at b :: (RM ++ (EM ++ L))) → R (.returned (.slice q n c)) w) :
    AtI X σ b p0 raw L raw.length e ts := by
  intro w p oq on oc hc hraw he hI
  refine hX _ _ _ _ _ ?_
  subst hraw
  exact inl_endA hI he hs hn (by rw [PS.pz_of hc, hpz]) ho hE hpos hb hA fun w p2 q n c vs RM EM hp2 hS hn hI h => hR w p2 q n c vs RM EM (PS.coreS_of hp2 hc) hS hn hI h
theorem AtI.fin {X : XI} {b pb e : Nat} {p0 : PS} {raw : List UInt8} {ts ts' : List Inl} {o : Opt} (hX : LoopX R X b raw) (hs : raw.length < 1000000000) (hpz : p0.pz = some ⟨pb, 0, none⟩) (ho : o.at pb ∈ L) (hoff : o.auto = false) (hn : ts.length < 1000000000)
    (hE : EmphOK (emitM raw e raw.length ts) ts') (hpos : ∀ t ∈ ts', ∀ s, t.plain? = some s → s ≠ []) (hb : plen ts' < 1073741824)
    (hR : ∀ w (p' : PS) q n c vs RM EM, p'.coreS = p0.coreS → Sl 1 ty_Inline q n c vs RM → n < 1073741824 → InlsAt (mergeM ts') vs EM → Sat σ w (p'.at b :: (RM ++ (EM ++ L))) → R (.returned (.slice q n c)) w) :
    AtI X σ b p0 raw L raw.length e ts :=
  AtI.finA hX hs hpz ho hn hE hpos hb (autoOK_off hoff) hR
end Go.Proofs.YtgbgadkldalkbaaGreatDoor


set_option linter.unusedVariables false
namespace Go.Proofs.YtgbgadkldalkbaaGreatDoor
open Go.Proofs Go.IntWalk Go.RowKit
variable {σ : Out} {w : World} {L L' : List Chunk} {R : Ending → World → Prop}
theorem Sl.trunc {e : TypeId} {q : Option Addr} {n c k : Nat} {vs : List Value} {M : List Chunk} (h : Sl 1 e q n c vs M) (hk : k ≤ n) : Sl 1 e q k c (vs.take k) M := by
  obtain ⟨hl, hnc, ⟨rfl, rfl, rfl, rfl⟩ | ⟨b, sp, rfl, rfl, h3⟩⟩ := h
  · have : k = 0 := by omega
    subst this
    exact ⟨by simp, by omega, .inl ⟨rfl, rfl, rfl, rfl⟩⟩
  · refine ⟨by rw [List.length_take]; omega, by omega, .inr ⟨b, vs.drop k ++ sp, rfl, ?_, ?_⟩⟩
    · rw [← List.append_assoc, List.take_append_drop]
    · rw [← List.append_assoc, List.take_append_drop]; exact h3
structure STK where
  q : Option Addr
  n : Nat
  c : Nat
  ent : List (Nat × Nat)
def entV (e : Nat × Nat) : Value := .pointer (some ⟨e.1, 0, none⟩)
def STK.ok (s : STK) (M : List Chunk) : Prop := Sl 1 ty_P_emphPlain s.q s.n s.c (s.ent.map entV) M
def StksAt : List STK → List Chunk → Prop
  | [], M => M = []
  | s :: S, M => ∃ M1 M2, M = M1 ++ M2 ∧ s.ok M1 ∧ StksAt S M2
theorem StksAt.split : ∀ {A : List STK} {s : STK} {B : List STK} {M : List Chunk}, StksAt (A ++ s :: B) M → ∃ M1 M2 M3, M = M1 ++ (M2 ++ M3) ∧ StksAt A M1 ∧ s.ok M2 ∧ StksAt B M3
  | [], s, B, M, h => by obtain ⟨M1, M2, rfl, h1, h2⟩ := h; exact ⟨[], M1, M2, rfl, rfl, h1, h2⟩
  | a :: A, s, B, M, h => by
    obtain ⟨M1, M2, rfl, h1, h2⟩ := h
    obtain ⟨N1, N2, N3, rfl, h3, h4, h5⟩ := h2.split
    exact ⟨M1 ++ N1, N2, N3, by simp, ⟨M1, N1, rfl, h1, h3⟩, h4, h5⟩
def stkV (s : STK) : Value := .slice s.q s.n s.c
def stkC (b : Nat) (S : List STK) : Chunk := (b, cel (S.map stkV) ty_5_S_P_emphPlain)
end Go.Proofs.YtgbgadkldalkbaaGreatDoor


set_option linter.unusedVariables false
namespace Go.Proofs.YtgbgadkldalkbaaGreatDoor
open Go.Proofs Go.IntWalk Go.RowKit
variable {σ : Out} {w : World} {L L' : List Chunk} {R : Ending → World → Prop}
def DRow (dq : Option Addr) (dc : Nat) (dvs rvs : List Value) (off : Nat) (sq : Option Addr) (sn sc : Nat) (SR RS : List Chunk) : Prop :=
  rvs.length + off = sn ∧ dvs.length ≤ dc ∧
  ((∃ rb junk sp, dq = some ⟨rb, 0, none⟩ ∧ sq = some ⟨rb, 0, none⟩ ∧ RS = [(rb, cel (dvs ++ (junk ++ (rvs ++ sp))) ty_Inline)] ∧ dvs.length + junk.length = off ∧ off + rvs.length + sp.length = dc) ∨
   (∃ DR, Sl 1 ty_Inline dq dvs.length dc dvs DR ∧ RS = DR ++ SR ∧ ∀ j v, rvs[j]? = some v → ∃ rb so scs e, sq = some ⟨rb, so, none⟩ ∧ (rb, cel scs e) ∈ SR ∧ scs[so + off + j]? = some v))
theorem DRow.take {dq sq : Option Addr} {dc off sn sc k : Nat} {dvs rvs : List Value} {SR RS : List Chunk} (hD : DRow dq dc dvs rvs off sq sn sc SR RS) (hk : k ≤ dvs.length) : DRow dq dc (dvs.take k) rvs off sq sn sc SR RS := by
  obtain ⟨h0, hle, ⟨rb, junk, sp, rfl, rfl, rfl, h1, h2⟩ | ⟨DR, hS, rfl, hr⟩⟩ := hD
  · refine ⟨h0, by rw [List.length_take]; omega, .inl ⟨rb, dvs.drop k ++ junk, sp, rfl, rfl, ?_, by rw [List.length_take, List.length_append, List.length_drop]; omega, h2⟩⟩
    have e : dvs.take k ++ ((dvs.drop k ++ junk) ++ (rvs ++ sp)) = dvs ++ (junk ++ (rvs ++ sp)) := by
      rw [List.append_assoc, ← List.append_assoc (dvs.take k), List.take_append_drop]
    rw [e]
  · refine ⟨h0, by rw [List.length_take]; omega, .inr ⟨DR, ?_, rfl, hr⟩⟩
    have := hS.trunc (k := k) hk
    rw [List.length_take, Nat.min_eq_left hk]
    exact this
theorem DRow.app {ty : TypeId} {dq sq : Option Addr} {dc off sn sc : Nat} {dvs rvs : List Value} {SR RS : List Chunk} {t : TypeId} {b : Nat} (hD : DRow dq dc dvs rvs off sq sn sc SR RS) (h : Sat σ w (RS ++ L)) (ho : dvs.length < off) (hn : dvs.length < 1000000000)
    {C : World → Prop} (hC : ∀ w1 X, Sat σ w1 (X :: (RS ++ L)) → C w1) {K : Option Addr → Nat → Nat → World → Prop}
    (hK : ∀ dq' dc' RS' w', DRow dq' dc' (dvs ++ [ptrV t b]) rvs off sq sn sc SR RS' → Sat σ w' (RS' ++ L) → K dq' (dvs.length + 1) dc' w') :
    ∃ rq rn rc w1, (Instr.buildSlice ty_S_Inline 1 #[(0, ptrV t b)]).run P w = .ok (.slice rq rn rc) w1 ∧ C w1 ∧
      ∃ q' n' c' w2, (Builtin.append_ #[ty_S_Inline, ty_S_Inline] ty #[.slice dq dvs.length dc, .slice rq rn rc]).run P w1 = .ok (.slice q' n' c') w2 ∧ K q' n' c' w2 := by
  obtain ⟨h0, hle, ⟨rb, junk, sp, rfl, rfl, rfl, h1, h2⟩ | ⟨DR, hS, rfl, hr⟩⟩ := hD
  · refine appRoom rowInl h (v := ptrV t b) (by simp; omega) (by omega) rfl rfl (fillI t _) (C := C) (fun w1 X hw => hC w1 X hw) fun w' h => ?_
    have hj : junk ≠ [] := by intro h; subst h; simp at h1; omega
    rw [set_mid hj] at h
    refine hK _ _ _ w' ⟨h0, by simp; omega, .inl ⟨rb, junk.drop 1, sp, rfl, rfl, rfl, ?_, h2⟩⟩ h
    have := List.length_pos_iff.2 hj
    simp; omega
  · have hl := hS.1
    have h : Sat σ w (DR ++ (SR ++ L)) := h.re (by intro _; simp only [List.append_eq, cnt_append, cnt_cons, cnt_nil] <;> omega)
    refine Sat.app1S rowInl hS h (v := ptrV t b) rfl (by simp [ptrV, Value.cells, Value.oneCell']) (fillI _ _) (by omega) (by omega) (by decide) (C := C) (fun w1 X hw => hC w1 X (hw.re (by intro _; simp only [List.append_eq, cnt_append, cnt_cons, cnt_nil] <;> omega))) fun q' c' w' M' hS' h => ?_
    refine hK q' c' (M' ++ SR) w' ⟨h0, ?_, .inr ⟨M', ?_, rfl, hr⟩⟩ (h.re (by intro _; simp only [List.append_eq, cnt_append, cnt_cons, cnt_nil] <;> omega))
    · have := hS'.2.1; simp; omega
    · rw [List.length_append]; exact hS'
theorem DRow.cells {dq sq : Option Addr} {dc off sn sc : Nat} {dvs rvs : List Value} {SR RS : List Chunk} (hD : DRow dq dc dvs rvs off sq sn sc SR RS) (h0 : 0 < dvs.length) : ∃ (rb : Nat) (cs : List Value), dq = some ⟨rb, 0, none⟩ ∧ (rb, cel cs ty_Inline) ∈ RS ∧ ∀ (j : Nat) (v : Value), dvs[j]? = some v → cs[j]? = some v := by
  obtain ⟨_, _, ⟨rb, junk, sp, rfl, rfl, rfl, h1, h2⟩ | ⟨DR, hS, rfl, hr⟩⟩ := hD
  · exact ⟨rb, _, rfl, .head _, fun j v hv => by rw [List.getElem?_append_left (List.getElem?_eq_some_iff.1 hv).1]; exact hv⟩
  · obtain ⟨rb, sp, rfl, rfl⟩ := hS.rowAt h0
    exact ⟨rb, _, rfl, List.mem_append_left _ (.head _), fun j v hv => by rw [List.getElem?_append_left (List.getElem?_eq_some_iff.1 hv).1]; exact hv⟩
theorem DRow.copy {dq sq : Option Addr} {dc off sn sc k : Nat} {dvs rvs : List Value} {SR RS : List Chunk} (hD : DRow dq dc dvs rvs off sq sn sc SR RS) (h : Sat σ w (RS ++ L)) (hk : k < dvs.length) (hn : dvs.length < 1000000000) (hp : ∀ v ∈ dvs, v.oneCell' = true)
    {C : World → Prop} (hC : ∀ w1 X, Sat σ w1 (X ++ (RS ++ L)) → C w1) {K : Option Addr → Nat → Nat → World → Prop}
    (hK : ∀ q n c w' M, Sl 1 ty_Inline q n c (dvs.drop k) M → Sat σ w' (M ++ (RS ++ L)) → K q n c w') :
    ∃ r1 r2 r3, (∀ w, (Instr.sliceAt ty_S_Inline (.slice dq dvs.length dc) (some (.int .i64 k)) none none).run P w = .ok (.slice r1 r2 r3) w) ∧
      ∃ q n c w', (Builtin.append_ #[ty_S_Inline, ty_S_Inline] ty_S_Inline #[.slice none 0 0, .slice r1 r2 r3]).run P w = .ok (.slice q n c) w' ∧ C w' ∧ K q n c w' := by
  obtain ⟨rb, cs, rfl, hm, hc⟩ := hD.cells (by omega)
  have hle := hD.2.1
  refine ⟨_, _, _, fun w => sliceF rowInl.ht rowInl.hi _ dvs.length dc k (by omega) w, ?_⟩
  rw [if_neg (by omega), rowInl.hs]
  simp only [Option.map_some, Addr.add_lit, Nat.zero_add, Nat.mul_one]
  have hsrc : Src P 1 ty_S_Inline (.slice (some ⟨rb, k, none⟩) (dvs.length - k) (dc - k)) (dvs.length - k) (dvs.drop k) w := by
    refine Src.ofSlice w rowInl.ht _ _ _ _ (by simp) (fun j u hu => ?_) (fun v hv => hp v (List.mem_of_mem_drop hv))
    rw [Addr.add_lit]
    refine h.ld (List.mem_append_left _ hm) (hc _ _ ?_)
    rw [List.getElem?_drop] at hu
    exact hu
  obtain ⟨q', c', w', M', hr, hS', h', _⟩ := Sat.app rowInl (ty := ty_S_Inline) (Sl.nil 1 ty_Inline) (M := []) (L := RS ++ L) h hsrc (.inl (by omega)) (by omega) (by omega)
  rw [List.nil_append] at hS'
  exact ⟨q', _, c', w', hr, hC _ M' h', hK q' _ c' w' M' hS' h'⟩
end Go.Proofs.YtgbgadkldalkbaaGreatDoor


set_option linter.unusedVariables false
namespace Go.Proofs.YtgbgadkldalkbaaGreatDoor
open Go.Proofs Go.IntWalk Go.RowKit
variable {σ : Out} {w : World} {L L' : List Chunk} {R : Ending → World → Prop}
theorem InlsAt.get : ∀ {ts : List Inl} {vs : List Value} {M : List Chunk} {j : Nat} {t : Inl}, InlsAt ts vs M → ts[j]? = some t → ∃ v Mj, vs[j]? = some v ∧ InlAt t v Mj ∧ ∀ c ∈ Mj, c ∈ M
  | [], vs, M, j, t, h, hj => by simp at hj
  | t' :: ts, vs, M, 0, t, h, hj => by
    obtain ⟨v, vs', M1, M2, rfl, rfl, h1, h2⟩ := h
    simp at hj; subst hj
    exact ⟨v, M1, rfl, h1, fun c hc => List.mem_append_left _ hc⟩
  | t' :: ts, vs, M, j + 1, t, h, hj => by
    obtain ⟨v, vs', M1, M2, rfl, rfl, h1, h2⟩ := h
    obtain ⟨v', Mj, h3, h4, h5⟩ := h2.get (by simpa using hj)
    exact ⟨v', Mj, by simpa using h3, h4, fun c hc => List.mem_append_right _ (h5 c hc)⟩
def emC (b : Nat) (t : List UInt8) (co cc : Bool) (i n : Int) (e : TypeId) : Chunk := (b, cel [.string (bs t), .bool co, .bool cc, .int .i64 i, .int .i64 n] e)
def EntIn (dst : List Inl) (dvs : List Value) (e : Nat × Nat) : Prop := ∃ t co cc n, dst[e.2]? = some (.emphP t co cc (e.2 : Nat) n) ∧ dvs[e.2]? = some (ptrV ty_P_emphPlain e.1) ∧ 0 ≤ n ∧ n ≤ 1000000000 ∧ t ≠ [] ∧ t.length < 1000000000
def StkIn (dst : List Inl) (dvs : List Value) (S : List STK) : Prop := ∀ s ∈ S, s.ent.length < 1000000000 ∧ s.ent.Pairwise (fun a b => a.2 < b.2) ∧ ∀ e ∈ s.ent, EntIn dst dvs e
theorem ptrV_inj {t : TypeId} {a b : Nat} (h : ptrV t a = ptrV t b) : a = b := by
  simp only [ptrV, Value.iface.injEq, Value.pointer.injEq, Option.some.injEq, Addr.mk.injEq, true_and, and_true] at h
  exact h
theorem EntIn.chunk {dst : List Inl} {dvs : List Value} {DM : List Chunk} {e : Nat × Nat} (hI : InlsAt dst dvs DM) (h : EntIn dst dvs e) : ∃ t co cc n ty, dst[e.2]? = some (.emphP t co cc (e.2 : Nat) n) ∧ emC e.1 t co cc (e.2 : Nat) n ty ∈ DM ∧ 0 ≤ n ∧ n ≤ 1000000000 ∧ t ≠ [] ∧ t.length < 1000000000 := by
  obtain ⟨t, co, cc, n, h1, h2, h3, h4, h5⟩ := h
  obtain ⟨v, Mj, h6, h7, h8⟩ := hI.get h1
  rw [h2] at h6
  obtain rfl := Option.some.inj h6
  obtain ⟨b, ty, hb, rfl⟩ := h7
  have := ptrV_inj hb
  subst this
  exact ⟨t, co, cc, n, ty, h1, h8 _ (.head _), h3, h4, h5⟩
def EM (σ : Out) (b1 b3 pb : Nat) (t : List UInt8) (co cc : Bool) (pi n : Int) (pe : TypeId) (dst : List Inl) (S : List STK) (rvs : List Value) (off : Nat) (sq : Option Addr) (sn sc : Nat) (SR : List Chunk) (L : List Chunk) (w : World) : Prop :=
  ∃ dq dc dvs DM SM RS, InlsAt dst dvs DM ∧ StksAt S SM ∧ S.length = 5 ∧ StkIn dst dvs S ∧ DRow dq dc dvs rvs off sq sn sc SR RS ∧ dst.length < 1000000000 ∧
    Sat σ w (emC pb t co cc pi n pe :: stkC b3 S :: (b1, cel [.slice dq dvs.length dc] ty_S_Inline) :: (SM ++ (DM ++ (RS ++ L))))
theorem EM.tick {b1 b3 pb : Nat} {t : List UInt8} {co cc : Bool} {pi n : Int} {pe : TypeId} {dst : List Inl} {S : List STK} {rvs : List Value} {off : Nat} {sq : Option Addr} {sn sc : Nat} {SR : List Chunk} (h : EM σ b1 b3 pb t co cc pi n pe dst S rvs off sq sn sc SR L w) :
    EM σ b1 b3 pb t co cc pi n pe dst S rvs off sq sn sc SR L (tick w) := by
  obtain ⟨dq, dc, dvs, DM, SM, RS, h1, h2, h3, h4, h5, h6, h7⟩ := h
  exact ⟨dq, dc, dvs, DM, SM, RS, h1, h2, h3, h4, h5, h6, h7.tick⟩
end Go.Proofs.YtgbgadkldalkbaaGreatDoor


set_option linter.unusedVariables false
namespace Go.Proofs.YtgbgadkldalkbaaGreatDoor
open Go.Proofs Go.IntWalk Go.RowKit
variable {σ : Out} {w : World} {L L' : List Chunk} {R : Ending → World → Prop}
def AllC (c : UInt8) (t : List UInt8) : Prop := ∀ x ∈ t, x = c
theorem AllC.head {c : UInt8} {t : List UInt8} (h : AllC c t) (ht : t ≠ []) : t.head? = some c := by
  cases t with
  | nil => exact absurd rfl ht
  | cons x t => rw [h x (by simp)]; rfl
theorem AllC.drop {c : UInt8} {t : List UInt8} (h : AllC c t) (d : Nat) : AllC c (t.drop d) := fun x hx => h x (List.mem_of_mem_drop hx)
end Go.Proofs.YtgbgadkldalkbaaGreatDoor


set_option linter.unusedVariables false
namespace Go.Proofs.YtgbgadkldalkbaaGreatDoor
open Go.Proofs Go.IntWalk Go.RowKit
variable {σ : Out} {w : World} {L L' : List Chunk} {R : Ending → World → Prop}
theorem StkIn.lt {dst : List Inl} {dvs : List Value} {S : List STK} (h : StkIn dst dvs S) : ∀ s ∈ S, ∀ e ∈ s.ent, e.2 < dst.length := by
  intro s hs e he
  obtain ⟨t, co, cc, n, h1, _⟩ := (h s hs).2.2 e he
  exact (List.getElem?_eq_some_iff.1 h1).1
end Go.Proofs.YtgbgadkldalkbaaGreatDoor


set_option linter.unusedVariables false
namespace Go.Proofs.YtgbgadkldalkbaaGreatDoor
open Go.Proofs Go.IntWalk Go.RowKit
variable {σ : Out} {w : World} {L L' : List Chunk} {R : Ending → World → Prop}
theorem DRow.same {q : Option Addr} {n c : Nat} {vs : List Value} {RM : List Chunk} (h : Sl 1 ty_Inline q n c vs RM) : DRow q c [] vs 0 q n c [] RM := by
  obtain ⟨hl, hnc, ⟨rfl, rfl, rfl, rfl⟩ | ⟨rb, sp, rfl, rfl, h3⟩⟩ := h
  · have : vs = [] := List.eq_nil_of_length_eq_zero (by omega)
    subst this
    exact ⟨by simp, by simp, .inr ⟨[], Sl.nil 1 ty_Inline, rfl, fun j v hv => by simp at hv⟩⟩
  · refine ⟨by omega, by simp, .inl ⟨rb, [], sp, rfl, rfl, rfl, rfl, ?_⟩⟩
    rw [List.length_append] at h3; omega
theorem DRow.done {dq sq : Option Addr} {dc off sn sc : Nat} {dvs : List Value} {RS : List Chunk} (h : DRow dq dc dvs [] off sq sn sc [] RS) : Sl 1 ty_Inline dq dvs.length dc dvs RS := by
  obtain ⟨h0, hle, ⟨rb, junk, sp, rfl, rfl, rfl, h1, h2⟩ | ⟨DR, hS, rfl, hr⟩⟩ := h
  · refine ⟨by omega, hle, .inr ⟨rb, junk ++ sp, rfl, rfl, ?_⟩⟩
    simp only [List.length_append, List.length_nil] at h2 ⊢; omega
  · rw [List.append_nil]; exact hS
end Go.Proofs.YtgbgadkldalkbaaGreatDoor


set_option linter.unusedVariables false
namespace Go.Proofs.YtgbgadkldalkbaaGreatDoor
open Go.Proofs
theorem sub_length {s : List UInt8} {i j : Nat} (h : j ≤ s.length) : (sub s i j).length = j - i := by unfold sub; rw [List.length_drop, List.length_take]; omega
theorem getD_app {a b : List UInt8} {k : Nat} (h : a.length ≤ k) : (a ++ b).getD k 0 = b.getD (k - a.length) 0 := by
  rw [List.getD_eq_getElem?_getD, List.getElem?_append_right h, ← List.getD_eq_getElem?_getD]
theorem getD_app' {a b : List UInt8} {k : Nat} {d : UInt8} (h : k < a.length) : (a ++ b).getD k d = a.getD k d := by
  rw [List.getD_eq_getElem?_getD, List.getElem?_append_left h, ← List.getD_eq_getElem?_getD]
theorem sub_mid (A B C : List UInt8) : sub (A ++ (B ++ C)) A.length (A.length + B.length) = B := by
  unfold sub
  rw [← List.append_assoc, show A.length + B.length = (A ++ B).length by simp, List.take_left, List.drop_left]
theorem getD_mid (A C : List UInt8) (b d : UInt8) : (A ++ (b :: C)).getD A.length d = b := by
  rw [List.getD_eq_getElem?_getD, List.getElem?_append_right (Nat.le_refl _), Nat.sub_self]; rfl
theorem getElem_getD {l : List UInt8} {i : Nat} (h : i < l.length) (d : UInt8) : l[i] = l.getD i d := by
  rw [List.getD_eq_getElem?_getD, List.getElem?_eq_getElem h]; rfl
def optOff : Opt := ⟨false, false, false, false, false, false, false, false, false, false⟩
end Go.Proofs.YtgbgadkldalkbaaGreatDoor


set_option linter.unusedVariables false
namespace Go.Proofs.YtgbgadkldalkbaaGreatDoor
open Go.Proofs Go.IntWalk Go.RowKit
variable {σ : Out} {w : World} {L L' : List Chunk} {R : Ending → World → Prop}
def AtB (X : XI) (σ : Out) (b : Nat) (p0 : PS) (raw : List UInt8) (L : List Chunk) (i e : Nat) (ts : List Inl) (opens : List Nat) (lo : Int) : Prop :=
  ∀ w (p : PS) oq on oc, p.coreS = p0.coreS → p.s = raw → p.em = (e : Int) → IIn σ b p ts opens oq on oc L w → X (some ⟨b, 0, none⟩) (bs raw) oq on oc lo false (i : Int) w
def LoopB (R : Ending → World → Prop) (X : XI) (b : Nat) (raw : List UInt8) : Prop :=
  ∀ oq on oc lo (i : Int) w, g_parseState_inline.bl1 R X (some ⟨b, 0, none⟩) (bs raw) oq on oc lo false i w → X (some ⟨b, 0, none⟩) (bs raw) oq on oc lo false i w
theorem AtB.plain {X : XI} {b pb i e : Nat} {p0 : PS} {raw : List UInt8} {ts : List Inl} {opens : List Nat} {lo : Int} {o : Opt} (hX : LoopB R X b raw) (hi : i < raw.length) (hs : raw.length < 1000000000) (hpz : p0.pz = some ⟨pb, 0, none⟩) (ho : o.at pb ∈ L) (hp : parserOf o raw[i] = .nil) (h93 : raw[i] ≠ 93 ∨ opens = [])
    (h : AtB X σ b p0 raw L (i + 1) e ts opens lo) : AtB X σ b p0 raw L i e ts opens lo := by
  intro w p oq on oc hc hraw he hI
  refine hX _ _ _ _ _ _ ?_
  obtain ⟨vs, RM, EM, OM, hS, hIn, hO, hlen, hsat⟩ := hI
  refine inl_dispatch (p := p) hi (by omega) (by rw [PS.pz_of hc, hpz]) (.head _) (.tail _ (List.mem_append_right _ (List.mem_append_right _ (List.mem_append_right _ ho)))) hsat ?_
  rw [hp]
  have hol := hO.1
  rw [List.length_map] at hol
  exact inl_none (inl_k5 hi (by omega) (h93.imp id (by rintro rfl; simp at hol; omega)) (h w p oq on oc hc hraw he ⟨vs, RM, EM, OM, hS, hIn, hO, hlen, hsat⟩))
theorem AtB.leaf {X : XI} {b pb i e st en : Nat} {p0 : PS} {raw : List UInt8} {ts : List Inl} {opens : List Nat} {lo : Int} {o : Opt} {f : FuncId} {t : Inl} {L0 : List Chunk} {Q : PS → PS → Prop} (hX : LoopB R X b raw) (hi : i < raw.length) (hs : raw.length < 1000000000) (hpz : p0.pz = some ⟨pb, 0, none⟩) (ho : o.at pb ∈ L)
    (hp : parserOf o raw[i] = .fn f) (hL0 : ∀ c ∈ L0, c ∈ L) (hf : ∀ p : PS, p.coreS = p0.coreS → p.s = raw → LeafOK b p raw i (.func (.func f) #[] #[]) L0 (some (t, st, en)) (Q p)) (hst : st ≤ raw.length) (hn : ts.length < 1000000000) (hon : opens.length < 1000000000)
    (h : AtB X σ b p0 raw L en en (emitM raw e st ts ++ [t]) (if t.isOpen then opens ++ [(emitM raw e st ts).length] else opens) lo) : AtB X σ b p0 raw L i e ts opens lo := by
  intro w p oq on oc hc hraw he hI
  refine hX _ _ _ _ _ _ ?_
  obtain ⟨vs, RM, EM, OM, hS, hIn, hO, hlen, hsat⟩ := hI
  refine inl_dispatch (p := p) hi (by omega) (by rw [PS.pz_of hc, hpz]) (.head _) (.tail _ (List.mem_append_right _ (List.mem_append_right _ (List.mem_append_right _ ho)))) hsat ?_
  rw [hp]
  dsimp only
  have hleaf := hf p hc hraw
  subst hraw
  refine inl_leaf ⟨vs, RM, EM, OM, hS, hIn, hO, hlen, hsat⟩ hL0 hleaf he hst hs hn hon fun w p2 oq on oc hp2 hem2 _ h2 => ?_
  refine h w p2 oq on oc (PS.coreS_of hp2 hc) ?_ hem2 h2
  have := congrArg PS.s hp2; exact this
theorem AtB.fin {X : XI} {b pb e : Nat} {p0 : PS} {raw : List UInt8} {ts ts' : List Inl} {opens : List Nat} {lo : Int} {o : Opt} (hX : LoopB R X b raw) (hs : raw.length < 1000000000) (hpz : p0.pz = some ⟨pb, 0, none⟩) (ho : o.at pb ∈ L) (hoff : o.auto = false) (hn : ts.length < 1000000000)
    (hE : EmphOK (emitM raw e raw.length ts) ts') (hpos : ∀ t ∈ ts', ∀ s, t.plain? = some s → s ≠ []) (hb : plen ts' < 1073741824)
    (hR : ∀ w (p' : PS) q n c vs RM EM, p'.coreS = p0.coreS → Sl 1 ty_Inline q n c vs RM → n < 1073741824 → InlsAt (mergeM ts') vs EM → Sat σ w (p'.at b :: (RM ++ (EM ++ L))) → R (.returned (.slice q n c)) w) :
    AtB X σ b p0 raw L raw.length e ts opens lo := by
  intro w p oq on oc hc hraw he hI
  refine hX _ _ _ _ _ _ ?_
  subst hraw
  exact inl_end hI he hs hn (by rw [PS.pz_of hc, hpz]) ho hoff hE hpos hb fun w p2 q n c vs RM EM hp2 hS hn hI h => hR w p2 q n c vs RM EM (PS.coreS_of hp2 hc) hS hn hI h
end Go.Proofs.YtgbgadkldalkbaaGreatDoor


set_option linter.unusedVariables false
namespace Go.Proofs.YtgbgadkldalkbaaGreatDoor
open Go.Proofs Go.IntWalk Go.RowKit
variable {σ : Out} {w : World} {L L' : List Chunk} {R : Ending → World → Prop}
def tkS (tk : UInt8 → List UInt8) (s : List UInt8) : List UInt8 := s.flatMap tk
@[simp] theorem tkS_nil (tk : UInt8 → List UInt8) : tkS tk [] = [] := rfl
@[simp] theorem tkS_cons (tk : UInt8 → List UInt8) (c : UInt8) (s : List UInt8) : tkS tk (c :: s) = tk c ++ tkS tk s := List.flatMap_cons ..
@[simp] theorem tkS_append (tk : UInt8 → List UInt8) (s t : List UInt8) : tkS tk (s ++ t) = tkS tk s ++ tkS tk t := List.flatMap_append ..
end Go.Proofs.YtgbgadkldalkbaaGreatDoor


set_option linter.unusedVariables false
set_option maxRecDepth 20000
namespace Go.Proofs.YtgbgadkldalkbaaGreatDoor
open Go.Proofs
namespace g_HTMLBlock_PrintHTML
noncomputable def body : Code := bodyOf Tryz.f323
def bl1 (R : EP) (Xa : OA → OA → Nat → Nat → Int → Int → WP) (x1 : OA) (x9q : OA) (x9n : Nat) (x9c : Nat) (x10 : Int) (x11 : Int) (w : World) : Prop :=
 br (decide (x11 < x10))
 (0 ≤ x11 ∧ x11 < (x9n : Int) ∧
 nilP x9q fun a3 =>
 ∃ (v4 : BA), w.cell? (a3.add (Int.toNat x11 * 1)) = some (.string v4) ∧
 callE P i_bytes_Buffer_WriteString #[.pointer x1, .string v4] (fun e w6 => ∃ (r5_0 : Int), ∃ (r5_1 : Value), e = .returned (.tuple #[.int .i64 r5_0, r5_1]) ∧
 callE P i_bytes_Buffer_WriteString #[.pointer x1, .string (ByteArray.mk #[10])] (fun e w8 => ∃ (r7_0 : Int), ∃ (r7_1 : Value), e = .returned (.tuple #[.int .i64 r7_0, r7_1]) ∧
 Xa x1 x9q x9n x9c x10 (IntKind.i64.wrap (x11 + 1)) w8) w6) w)
 (R (.returned (.tuple #[])) w)
def l1 (R : EP) (x1 : OA) (x9q : OA) (x9n : Nat) (x9c : Nat) (x10 : Int) (x11 : Int) (w : World) : Prop :=
  ∀ X : OA → OA → Nat → Nat → Int → Int → WP, (∀ x1 x9q x9n x9c x10 x11 w, bl1 R X x1 x9q x9n x9c x10 x11 w → X x1 x9q x9n x9c x10 x11 w) → X x1 x9q x9n x9c x10 x11 w

noncomputable def al1 (R : EP) (Xa : OA → OA → Nat → Nat → Int → Int → WP) : AC :=
  (.leaf (sel [1, 0, 0] body))
end g_HTMLBlock_PrintHTML
def g_HTMLBlock_PrintHTML (R : EP) (x0 : OA) (x1 : OA) (w : World) : Prop :=
 nilP x0 fun a1 =>
 ∃ (v2q : OA), ∃ (v2n : Nat), ∃ (v2c : Nat), w.cell? (a1.add 2) = some (.slice v2q v2n v2c) ∧
 g_HTMLBlock_PrintHTML.l1 R x1 v2q v2n v2c (v2n : Int) 0 w

noncomputable def g_HTMLBlock_PrintHTML.ac (R : EP) : AC :=
  (.seq (.leaf (sel [0] g_HTMLBlock_PrintHTML.body)) (.block 0 (.loop (leaf [(1, .s .ptr), (9, .s .slice), (10, .s (.int .i64)), (11, .s (.int .i64))] (g_HTMLBlock_PrintHTML.l1 R)) (sel [1, 0, 0] g_HTMLBlock_PrintHTML.body))))
theorem g_HTMLBlock_PrintHTML.good (R : EP) : Good P 21 (g_HTMLBlock_PrintHTML.ac R) (QF P [] R) :=
  ⟨trivial, (loopG (g_HTMLBlock_PrintHTML.al1 R) (g_HTMLBlock_PrintHTML.bl1 R) (fun _ => by kernel_rfl) (fun Xa => trivial) (fun Xa => by intro x1 x9q x9n x9c x10 x11 ρ w; kernel_rfl) (fun X h _ _ _ _ _ _ _ g => g X h))⟩
theorem g_HTMLBlock_PrintHTML.eq (R : EP) (x0 : OA) (x1 : OA) (w : World) : g_HTMLBlock_PrintHTML R x0 x1 w = vcA P 21 (g_HTMLBlock_PrintHTML.ac R) (QF P [] R) (fr0 [.pointer x0, .pointer x1]) w := by kernel_rfl
theorem g_HTMLBlock_PrintHTML.sound {R : EP} {x0 : OA} {x1 : OA} {w : World} (h : g_HTMLBlock_PrintHTML R x0 x1 w) : callE P i_HTMLBlock_PrintHTML #[.pointer x0, .pointer x1] R w :=
  callE_fin (c := g_HTMLBlock_PrintHTML.body) Tryz.func323 Tryz.call323 (by kernel_rfl) (by kernel_rfl) (by kernel_rfl) (by kernel_rfl) (by kernel_rfl) (g_HTMLBlock_PrintHTML.good R) (g_HTMLBlock_PrintHTML.eq R x0 x1 w) h
end Go.Proofs.YtgbgadkldalkbaaGreatDoor

set_option linter.unusedVariables false
namespace Go.Proofs.YtgbgadkldalkbaaGreatDoor
open Go.Proofs Go.IntWalk Go.RowKit
variable {σ : Out} {w : World} {L L' : List Chunk} {R : Ending → World → Prop}
structure TX where
  t : Nat
  s : Nat
  e : Nat
  raw : List UInt8
def TX.chunk (x : TX) : Chunk := textC x.t x.s x.e none 0 0 x.raw
structure DB where
  v : Value
  own : List Chunk
  txs : List TX
def ownC (D : List DB) : List Chunk := D.flatMap DB.own
def txsC (D : List DB) : List TX := D.flatMap DB.txs
theorem ownC_snoc (D : List DB) (d : DB) : ownC (D ++ [d]) = ownC D ++ d.own := by simp [ownC]
theorem txsC_snoc (D : List DB) (d : DB) : txsC (D ++ [d]) = txsC D ++ d.txs := by simp [txsC]
def paraOB (qb s e : Nat) : OB := ⟨.iface ty_P_paraBuilder (.pointer (some ⟨qb, 0, none⟩)), none, 0, 0, s, e⟩
theorem lines_join {q : Option Addr} {n c : Nat} {ts : List (List UInt8)} {AM : List Chunk} (hS : Sl 1 ty_string q n c (ts.map fun t => .string (bs t)) AM) (h : Sat σ w (AM ++ L)) (hne : ts ≠ []) (hn : ts.length < 1048576)
    (h0 : joinL [10] ts ≠ []) (hb : (joinL [10] ts).length < 1073741824) (hR : ∀ w, Sat σ w (AM ++ L) → R (.returned (.string (bs (joinL [10] ts)))) w) : callE P i_strings_Join #[.slice q n c, .string (bs [10])] R w := by
  have hl := hS.1
  simp only [List.length_map, Nat.mul_one] at hl
  match ts, hne with
  | [t], _ =>
    obtain rfl : n = 1 := by simpa using hl.symm
    have e : joinL [10] [t] = t := by simp [joinL]
    rw [e] at hR
    exact join_one h hS hR
  | t :: u :: ts, _ =>
    exact join_ok (t := t) (ts := u :: ts) hS h (by simp) (by omega) (by decide) (List.length_pos_iff.2 h0) hb hR
theorem paraBuild_ok {b qb : Nat} {p : PS} {ob : List OB} {o : OB} {M TM PM : List Chunk} {ts : List Nat} {ls : List (List UInt8)} {s : List UInt8} (h : Sat σ w (p.at b :: M ++ (TM ++ (PM ++ L)))) (hs : Stk p (ob ++ [o]) M)
    (ht : Txts p ts TM) (hts : ts.length < 1048575) (hp : ParaAt qb ls PM) (hls : ls ≠ []) (hln : ls.length < 1048576) (hj : joinL [10] ls = s) (hl : s.length < 1073741824) (hne : s ≠ []) (hb : NoRef s) (ho : o.s < 1000000000)
    (hR : ∀ w p' TM' t nb, p' = { p with tq := p'.tq, tn := ts.length + 1, tc := p'.tc } → Txts p' (ts ++ [t]) TM' →
      Sat σ w (p'.at b :: M ++ (TM' ++ (PM ++ (paraC nb o.s (o.s + ls.length - 1) t :: textC t o.s (o.s + ls.length - 1) none 0 0 s :: L)))) → R (.returned (.iface ty_P_Paragraph (.pointer (some ⟨nb, 0, none⟩)))) w) :
    callE P i_paraBuilder_build #[.pointer (some ⟨qb, 0, none⟩), .iface ty_P_parseState (.pointer (some ⟨b, 0, none⟩))] R w := by
  obtain ⟨q, c, SM, hS, rfl⟩ := hp
  have hll : 1 ≤ ls.length := List.length_pos_iff.2 hls
  refine g_paraBuilder_build.sound ?_
  have h : Sat σ w (p.at b :: M ++ (TM ++ (((qb, cel [.slice q ls.length c, .pointer none] ty_paraBuilder) :: SM) ++ L))) := h
  have h : Sat σ w ((qb, cel [.slice q ls.length c, .pointer none] ty_paraBuilder) :: (SM ++ (p.at b :: M ++ (TM ++ L)))) := h.re (by intro _; simp only [List.append_eq, cnt_append, cnt_cons, cnt_nil] <;> omega)
  repeat (first | refine nilP_some ?_ | refine h.tk fun w h => ?_ | refine ⟨_, h.ldA, ?_⟩ | refine ⟨_, _, _, h.ldA, ?_⟩)
  refine ⟨_, w, ne_ptr_nil und_table _ _ _ w, br_false rfl ?_⟩
  repeat (first | refine nilP_some ?_ | refine h.tk fun w h => ?_ | refine ⟨_, h.ldA, ?_⟩ | refine ⟨_, _, _, h.ldA, ?_⟩)
  have h : Sat σ w (SM ++ ((qb, cel [.slice q ls.length c, .pointer none] ty_paraBuilder) :: (p.at b :: M ++ (TM ++ L)))) := h.re (by intro _; simp only [List.append_eq, cnt_append, cnt_cons, cnt_nil] <;> omega)
  refine lines_join hS h hls hln (by rw [hj]; exact hne) (by rw [hj]; exact hl) fun w h => ⟨_, rfl, ?_⟩
  rw [hj]
  intro X hX
  have hse : ((bs s).toList == (ByteArray.mk #[]).toList) = false := by rw [bs_toList, mk_toList]; simpa using hne
  refine hX _ _ _ _ (br_true (by rw [hse]; rfl) ?_)
  refine hb _ _ _ ⟨_, _, rfl, br_true rfl ?_⟩
  refine br_false hse ?_
  have h : Sat σ w (p.at b :: M ++ (TM ++ (SM ++ (qb, cel [.slice q ls.length c, .pointer none] ty_paraBuilder) :: L))) := h.re (by intro _; simp only [List.append_eq, cnt_append, cnt_cons, cnt_nil] <;> omega)
  refine enter_meth meth_pos ?_
  refine pos_ok h hs fun w h => ⟨_, _, rfl, ?_⟩
  refine Sat.bx h fun zb w h => ?_
  repeat (first | refine nilP_some ?_ | refine h.tk fun w h => ?_ | refine ⟨_, h.ldA, ?_⟩ | refine ⟨_, _, _, h.ldA, ?_⟩ | refine h.stA 0 fun w h => ?_ | refine h.stA 1 fun w h => ?_ | refine h.stA 2 fun w h => ?_ | refine h.stA 3 fun w h => ?_ | refine h.stA 4 fun w h => ?_ | refine h.stA 5 fun w h => ?_ | refine h.stA 6 fun w h => ?_ | refine h.bx fun b0 w h => ?_)
  have h : Sat σ _ ((zb, cel [.int .i64 o.s, .int .i64 o.e] ty_Position) :: (p.at b :: M ++ (TM ++ (SM ++ (qb, cel [.slice q ls.length c, .pointer none] ty_paraBuilder) :: L)))) := h
  have h : Sat σ _ ((zb, cel [.int .i64 o.s, .int .i64 o.e] ty_Position) :: (qb, cel [.slice q ls.length c, .pointer none] ty_paraBuilder) :: (p.at b :: M ++ (TM ++ (SM ++ L)))) := h.re (by intro _; simp only [List.append_eq, cnt_append, cnt_cons, cnt_nil] <;> omega)
  refine ⟨_, _, _, h.ldA, ?_⟩
  refine h.stA 0 fun w h => ?_
  refine h.tk fun w h => ?_
  refine ⟨_, h.ldA, ?_⟩
  refine ⟨_, h.ldA, ?_⟩
  refine ⟨_, h.ldA, ?_⟩
  refine ⟨_, h.ldA, ?_⟩
  have e1 : IntKind.i64.wrap (IntKind.i64.wrap ((o.s : Int) + ((ls.length : Nat) : Int)) - 1) = ((o.s + ls.length - 1 : Nat) : Int) := by
    rw [i64_in (_ + _) (by omega), i64_in _ (by omega)]; omega
  rw [e1] at h ⊢
  have h : Sat σ _ ((zb, cel [.int .i64 o.s, .int .i64 (o.s + ls.length - 1 : Nat)] ty_Position) :: (qb, cel [.slice q ls.length c, .pointer none] ty_paraBuilder) :: (p.at b :: M ++ (TM ++ (SM ++ L)))) := h
  have hz := h
  have h : Sat σ _ (p.at b :: TM ++ ((zb, cel [.int .i64 o.s, .int .i64 (o.s + ls.length - 1 : Nat)] ty_Position) :: (qb, cel [.slice q ls.length c, .pointer none] ty_paraBuilder) :: (M ++ (SM ++ L)))) := h.re (by intro _; simp only [List.append_eq, cnt_append, cnt_cons, cnt_nil] <;> omega)
  refine enter_meth meth_newText ?_
  refine newText_ok h ht hts fun w p' TM' t hp' ht' h => ⟨_, rfl, ?_⟩
  refine ⟨hz.same h (.head _) (by simp) 2, ?_⟩
  refine Sat.bx h fun nb w h => ?_
  have h : Sat σ w (paraC nb o.s (o.s + ls.length - 1) t :: (p'.at b :: TM' ++ (textC t o.s (o.s + ls.length - 1) none 0 0 s :: ((zb, cel [.int .i64 o.s, .int .i64 (o.s + ls.length - 1 : Nat)] ty_Position) :: (qb, cel [.slice q ls.length c, .pointer none] ty_paraBuilder) :: (M ++ (SM ++ L)))))) := h
  refine hR w p' TM' t nb hp' ht' ?_
  have h := Sat.less (L' := p'.at b :: M ++ (TM' ++ (((qb, cel [.slice q ls.length c, .pointer none] ty_paraBuilder) :: SM) ++ (paraC nb o.s (o.s + ls.length - 1) t :: textC t o.s (o.s + ls.length - 1) none 0 0 s :: L)))) [(zb, cel [.int .i64 o.s, .int .i64 (o.s + ls.length - 1 : Nat)] ty_Position)] h (by intro _; simp only [List.append_eq, cnt_append, cnt_cons, cnt_nil] <;> omega)
  exact h
theorem closePara_ok {b qb : Nat} {p : PS} {ob : List OB} {par o : OB} {M TM PM IM : List Chunk} {inner : List Value} {ts : List Nat} {ls : List (List UInt8)} {s : List UInt8} (h : Sat σ w (p.at b :: M ++ (IM ++ (TM ++ (PM ++ L))))) (hs : Stk p (ob ++ [par] ++ [o]) M)
    (ho : o.bd = .iface ty_P_paraBuilder (.pointer (some ⟨qb, 0, none⟩))) (hI : Sl 1 ty_Block par.q par.n par.c inner IM) (hin : par.n < 1000000)
    (ht : Txts p ts TM) (hts : ts.length < 1048575) (hp : ParaAt qb ls PM) (hls : ls ≠ []) (hln : ls.length < 1048576) (hj : joinL [10] ls = s) (hl : s.length < 1073741824) (hne : s ≠ []) (hb : NoRef s) (hos : o.s < 1000000000)
    (hR : ∀ w p' M' IM' TM' t nb q' c' x, p' = { p with stn := ob.length + 1, tq := p'.tq, tn := ts.length + 1, tc := p'.tc } → Stk p' (ob ++ [{ par with q := q', n := par.n + 1, c := c' }]) M' → Txts p' (ts ++ [t]) TM' →
      Sl 1 ty_Block q' (par.n + 1) c' (inner ++ [.iface ty_P_Paragraph (.pointer (some ⟨nb, 0, none⟩))]) IM' →
      Sat σ w (p'.at b :: M' ++ (IM' ++ (TM' ++ (paraC nb o.s (o.s + ls.length - 1) t :: textC t o.s (o.s + ls.length - 1) none 0 0 s :: L)))) → R (.returned x) w) :
    callE P i_parseState_closeBlock #[.pointer (some ⟨b, 0, none⟩)] R w := by
  refine closeBlock_ok (ob := ob) (par := par) (IM := IM) (inner := inner) (fun p1 L1 tb q => ∃ TM' t nb, p1 = { p with tq := p1.tq, tn := ts.length + 1, tc := p1.tc } ∧ Txts p1 (ts ++ [t]) TM' ∧
      L1 = TM' ++ (PM ++ (paraC nb o.s (o.s + ls.length - 1) t :: textC t o.s (o.s + ls.length - 1) none 0 0 s :: L)) ∧ tb = ty_P_Paragraph ∧ q = some ⟨nb, 0, none⟩) h hs ho hI hin ?_ ?_
  · intro R' w h hk
    rw [ho]
    have h : Sat σ w (p.at b :: M ++ (TM ++ (PM ++ (IM ++ L)))) := h.re (by intro _; simp only [List.append_eq, cnt_append, cnt_cons, cnt_nil] <;> omega)
    refine enter_meth meth_paraBuild ?_
    refine paraBuild_ok (ob := ob ++ [par]) (o := o) (ts := ts) h hs ht hts hp hls hln hj hl hne hb hos fun w p' TM' t nb hp' ht' h => ?_
    exact hk w p' _ ty_P_Paragraph _ (by rw [hp']) (by rw [hp']) (by rw [hp']) (by decide) ⟨TM', t, nb, hp', ht', rfl, rfl, rfl⟩ (h.re (by intro _; simp only [List.append_eq, cnt_append, cnt_cons, cnt_nil] <;> omega))
  · intro w p2 M2 IM2 p1 L1 tb q q' c' hpost hp2 hs2 hI2 h
    obtain ⟨TM', t, nb, hp1, ht1, rfl, rfl, rfl⟩ := hpost
    refine hR w p2 M2 IM2 TM' t nb q' c' _ ?_ hs2 (ht1.of (by rw [hp2]) (by rw [hp2]) (by rw [hp2])) hI2 (h.less PM (by intro _; simp only [List.append_eq, cnt_append, cnt_cons, cnt_nil] <;> omega))
    rw [hp2, hp1]
end Go.Proofs.YtgbgadkldalkbaaGreatDoor


set_option linter.unusedVariables false
namespace Go.Proofs.YtgbgadkldalkbaaGreatDoor
open Go.Proofs Go.IntWalk Go.RowKit
variable {σ : Out} {w : World} {L L' : List Chunk} {R : Ending → World → Prop}
def hblC (nb s e : Nat) (q : Option Addr) (n c : Nat) : Chunk := (nb, cel [.int .i64 s, .int .i64 e, .slice q n c] ty_HTMLBlock)
theorem meth_HTMLBlock : methB P ty_P_HTMLBlock "PrintHTML" i_HTMLBlock_PrintHTML = true := by kernel_rfl
def rawOut (ls : List (List UInt8)) : List UInt8 := ls.flatMap fun l => l ++ [10]
theorem html_prints {nb s e : Nat} {q : Option Addr} {c : Nat} {ls : List (List UInt8)} {SM : List Chunk} (hS : Sl 1 ty_string q ls.length c (sv ls) SM) (hn : ls.length < 1048576) (hl : ∀ l ∈ ls, l.length < 4294967296) :
    Prints "PrintHTML" (.iface ty_P_HTMLBlock (.pointer (some ⟨nb, 0, none⟩))) (hblC nb s e q ls.length c :: SM) (hblC nb s e q ls.length c :: SM) (ab (rawOut ls)) := by
  refine ⟨ab_le _, fun σ R b l M L w hB h hb hR => enter_meth meth_HTMLBlock ?_⟩
  refine g_HTMLBlock_PrintHTML.sound ?_
  have hb' : (l ++ rawOut ls).length ≤ 549755813888 := hb
  refine nilP_some ⟨_, _, _, Sat.ld h (List.mem_append_right _ (.head _)) (i := 2) rfl, ?_⟩
  intro X hX
  have key : ∀ k j M w, j + k = ls.length → Buf b (l ++ rawOut (ls.take j)) M → Sat σ w (M ++ (hblC nb s e q ls.length c :: SM ++ L)) → X (some ⟨b, 0, none⟩) q ls.length c (ls.length : Int) (j : Int) w := by
    intro k
    induction k with
    | zero =>
      intro j M w hj hB h
      rw [List.take_of_length_le (by omega)] at hB
      exact hX _ _ _ _ _ _ _ (br_false (by simp; omega) (hR w M hB h))
    | succ k ih =>
      intro j M w hj hB h
      have hjl : j < ls.length := by omega
      have hst : rawOut (ls.take (j + 1)) = rawOut (ls.take j) ++ (ls[j] ++ [10]) := by unfold rawOut; rw [List.take_succ_eq_append_getElem hjl, List.flatMap_append]; simp
      have hle : (rawOut (ls.take (j + 1))).length ≤ (rawOut ls).length := by
        have : rawOut ls = rawOut (ls.take (j + 1)) ++ rawOut (ls.drop (j + 1)) := by unfold rawOut; rw [← List.flatMap_append, List.take_append_drop]
        rw [this, List.length_append]; omega
      rw [hst] at hle
      simp only [List.length_append, List.length_cons, List.length_nil] at hle hb'
      have hS2 : Sat σ w (SM ++ (M ++ (hblC nb s e q ls.length c :: L))) := h.re (by intro _; simp only [List.append_eq, cnt_append, cnt_cons, cnt_nil] <;> omega)
      refine hX _ _ _ _ _ _ _ (br_true (by simp; omega) ⟨by omega, by omega, ?_⟩)
      refine hS.loadAt hS2 (sv_get hjl) fun qb hq hc => ?_
      simp only [Addr.add_lit, Int.toNat_natCast, Nat.mul_one, Nat.zero_add]
      refine ⟨_, hc, ?_⟩
      refine writeS_ok (s := ls[j]) hB h (by simp only [List.length_append]; omega) fun w M hB h => ⟨_, _, rfl, ?_⟩
      refine writeS_ok (s := [10]) hB h (by simp only [List.length_append, List.length_cons, List.length_nil]; omega) fun w M hB h => ⟨_, _, rfl, ?_⟩
      rw [i64_inc (by omega)]
      refine ih (j + 1) M w (by omega) ?_ h
      rw [hst, ← List.append_assoc, ← List.append_assoc]; exact hB
  exact key ls.length 0 M w (by omega) (by simpa [rawOut] using hB) h
end Go.Proofs.YtgbgadkldalkbaaGreatDoor


set_option linter.unusedVariables false
namespace Go.Proofs.YtgbgadkldalkbaaGreatDoor
open Go.Proofs Go.IntWalk
variable {σ : Out} {w : World} {L L' : List Chunk} {R : Ending → World → Prop}
theorem Sat.allocO (h : Sat σ w L) (o : Obj) : Sat σ (w.alloc o) ((w.heap.size, o) :: L) := by
  refine ⟨h.os, h.out, ?_, fun c hc => ?_⟩
  · simp only [List.map_cons, List.nodup_cons]
    refine ⟨fun hm => ?_, h.nodup⟩
    obtain ⟨c, hc, he⟩ := List.mem_map.1 hm
    exact Nat.lt_irrefl _ (he ▸ h.lt hc)
  · cases hc with
    | head => exact (Array.getElem?_push_size ..).trans rfl
    | tail _ hc =>
      have hlt := h.lt hc
      have := h.at_ _ hc
      show (w.heap.push o)[c.1]? = _
      rw [Array.getElem?_push_lt hlt, ← Array.getElem?_eq_getElem hlt]
      exact this
theorem Sat.setO (b : Nat) (o o' : Obj) (h : Sat σ w ((b, o) :: L)) : Sat σ { w with heap := w.heap.setIfInBounds b o' } ((b, o') :: L) := by
  have hn := h.nodup
  simp only [List.map_cons, List.nodup_cons] at hn
  have hb : b < w.heap.size := h.lt (.head _)
  refine ⟨h.os, h.out, by simp only [List.map_cons, List.nodup_cons]; exact hn, fun c hc => ?_⟩
  cases hc with
  | head => simp [hb]
  | tail _ hc =>
    have hne : c.1 ≠ b := fun he => hn.1 (he ▸ List.mem_map_of_mem hc)
    have := h.at_ _ (.tail _ hc)
    show (w.heap.setIfInBounds b o')[c.1]? = _
    rw [Array.getElem?_setIfInBounds_ne (fun he => hne he.symm)]
    exact this
theorem range_ok {s : ByteArray} (h : Sat σ w L) {K : Value → World → Prop} (hK : ∀ w b, Sat σ w ((b, .stringIter s 0) :: L) → K (.pointer (some ⟨b, 0, none⟩)) w) :
    ∃ v w', (Instr.range ty_string (.string s)).run P w = .ok v w' ∧ K v w' :=
  ⟨_, _, run_range_string (P := P) w ty_string s (by kernel_rfl), hK _ _ (h.allocO _)⟩
theorem next_ok {b pos : Nat} {s : ByteArray} {ty : TypeId} (h : Sat σ w ((b, .stringIter s pos) :: L)) (hp : pos < s.size) (ha : (s[pos]'hp).toNat < 128) {K : Int → Int → World → Prop}
    (hK : ∀ w, Sat σ w ((b, .stringIter s (pos + 1)) :: L) → K pos (s[pos]'hp).toNat w) :
    ∃ r0 r1 w', (Instr.next (.pointer (some ⟨b, 0, none⟩)) true ty).run P w = .ok (.tuple #[.bool true, .int .i64 r0, .int .i32 r1]) w' ∧ K r0 r1 w' := by
  have hb := h.at_ _ (.head _)
  refine ⟨_, _, _, ?_, hK _ (h.setO b _ (.stringIter s (pos + 1)))⟩
  have hd := decode_ascii s pos hp ha
  simp only [Instr.next, getObj, setObj, Sem.run_bind, Sem.run, hb, Result.andThen, hp, if_true, hd]
  simp [goInt, Sem.run, hb]
theorem next_end {b pos : Nat} {s : ByteArray} {ty : TypeId} (h : Sat σ w ((b, .stringIter s pos) :: L)) (hp : ¬ pos < s.size) : (Instr.next (.pointer (some ⟨b, 0, none⟩)) true ty).run P w = .ok (.tuple #[.bool false]) w := by
  have hb := h.at_ _ (.head _)
  simp [Instr.next, getObj, Sem.run, hb, hp]
end Go.Proofs.YtgbgadkldalkbaaGreatDoor


set_option linter.unusedVariables false
namespace Go.Proofs.YtgbgadkldalkbaaGreatDoor
open Go.Proofs Go.IntWalk Go.RowKit
variable {σ : Out} {w : World} {L L' : List Chunk} {R : Ending → World → Prop}
def letB (c : UInt8) : Bool := (decide (65 ≤ c.toNat) && decide (c.toNat ≤ 90)) || (decide (97 ≤ c.toNat) && decide (c.toNat ≤ 122))
def ldigB (c : UInt8) : Bool := letB c || (decide (48 ≤ c.toNat) && decide (c.toNat ≤ 57))
def ldhB (c : UInt8) : Bool := ldigB c || c == 45
structure RunTo (s : List UInt8) (p : UInt8 → Bool) (i j : Nat) : Prop where
  le : i ≤ j
  len : j ≤ s.length
  all : ∀ k, i ≤ k → k < j → p (s.getD k 0) = true
  stop : j < s.length → p (s.getD j 0) = false
end Go.Proofs.YtgbgadkldalkbaaGreatDoor


set_option linter.unusedVariables false
namespace Go.Proofs.YtgbgadkldalkbaaGreatDoor
open Go.Proofs Go.IntWalk Go.RowKit
variable {σ : Out} {w : World} {L L' : List Chunk} {R : Ending → World → Prop}
def codC (nb s e : Nat) (F info : List UInt8) (q : Option Addr) (n c : Nat) : Chunk := (nb, cel [.int .i64 s, .int .i64 e, .string (bs F), .string (bs info), .slice q n c] ty_CodeBlock)
end Go.Proofs.YtgbgadkldalkbaaGreatDoor


set_option linter.unusedVariables false
namespace Go.Proofs.YtgbgadkldalkbaaGreatDoor
open Go.Proofs Go.IntWalk Go.RowKit
variable {σ : Out} {w : World} {L L' : List Chunk} {R : Ending → World → Prop}
theorem bufLen_okB {b : Nat} {l : List UInt8} {M : List Chunk} (hB : Buf b l M) (h : Sat σ w (M ++ L)) (hl : l.length < 4611686018427387904) (hR : ∀ w, Sat σ w (M ++ L) → R (.returned (.int .i64 l.length)) w) : callE P i_bytes_Buffer_Len #[.pointer (some ⟨b, 0, none⟩)] R w := by
  obtain ⟨q, c, lr, M0, rfl, hA, hc⟩ := hB
  exact bufLen_ok h hl hR
theorem bufBytes_ok {b : Nat} {l : List UInt8} {M : List Chunk} (hB : Buf b l M) (h : Sat σ w (M ++ L))
    (hR : ∀ w q c lr M0, M = bufC b q l.length c lr :: M0 → By q l.length c l M0 → Sat σ w (M ++ L) → R (.returned (.slice q l.length c)) w) : callE P i_bytes_Buffer_Bytes #[.pointer (some ⟨b, 0, none⟩)] R w := by
  obtain ⟨q, c, lr, M0, rfl, hA, hc⟩ := hB
  refine g_bytes_Buffer_Bytes.sound ?_
  have hsl := hA.2.1
  refine h.tk fun w h => ?_
  refine nilP_some (nilP_some ?_)
  refine ⟨_, _, _, h.ldA, ?_⟩
  refine ⟨_, Sat.ld h (.head _) rfl, _, _, _, fun w => sliceF rowU8.ht rowU8.hi q _ c 0 (Nat.zero_le _) w, ?_⟩
  have eq0 : (if c = 0 then q else q.map (·.add (0 * rowU8.i.size))) = q := by
    split
    · rfl
    · cases q <;> simp [Addr.add]
  rw [eq0, Nat.sub_zero, Nat.sub_zero]
  exact hR w q c lr M0 rfl hA h
def nlB (l : List UInt8) : List UInt8 := if l = [] ∨ l.getLast? = some 10 then l else l ++ [10]
theorem nlB_le (l : List UInt8) : l.length ≤ (nlB l).length ∧ (nlB l).length ≤ l.length + 1 := by
  unfold nlB; split <;> simp
def preO : List UInt8 := [60, 112, 114, 101, 62, 60, 99, 111, 100, 101]
def preC : List UInt8 := [60, 47, 99, 111, 100, 101, 62, 60, 47, 112, 114, 101, 62, 10]
def clsO : List UInt8 := [32, 99, 108, 97, 115, 115, 61, 34, 108, 97, 110, 103, 117, 97, 103, 101, 45]
def clsT (info : List UInt8) : List UInt8 := if info = [] then [] else clsO ++ escS htmlPs info ++ [34]
def codeOut (ls : List (List UInt8)) : List UInt8 := ls.flatMap fun l => escS htmlPs l ++ [10]
def codeF (info : List UInt8) (ls : List (List UInt8)) (l : List UInt8) : List UInt8 := nlB l ++ (preO ++ clsT info ++ [62] ++ codeOut ls ++ preC)
theorem meth_CodeBlock : methB P ty_P_CodeBlock "PrintHTML" i_CodeBlock_PrintHTML = true := by kernel_rfl
theorem code_prints {nb s e : Nat} {q : Option Addr} {c : Nat} {F info : List UInt8} {ls : List (List UInt8)} {SM : List Chunk} (hS : Sl 1 ty_string q ls.length c (sv ls) SM) (hn : ls.length < 1048576) (hl : ∀ l ∈ ls, l.length < 4294967296) (hF : F ≠ [])
    (hi : ∀ c ∈ info, c < 128 ∧ spB c = false) (hil : info.length < 100000) :
    Prints "PrintHTML" (.iface ty_P_CodeBlock (.pointer (some ⟨nb, 0, none⟩))) (codC nb s e F info q ls.length c :: SM) (codC nb s e F info q ls.length c :: SM) (codeF info ls) := by
  refine ⟨fun l => by have := (nlB_le l).1; simp only [codeF, List.length_append] at *; omega, fun σ R b l M L w hB h hb hR => enter_meth meth_CodeBlock ?_⟩
  refine g_CodeBlock_PrintHTML.sound ?_
  have hbl : (codeF info ls l).length ≤ 549755813888 := hb
  have hnl := nlB_le l
  have hpre : (codeF info ls l).length = (nlB l).length + (preO.length + (clsT info).length + 1 + (codeOut ls).length + preC.length) := by simp [codeF]; omega
  have hpo : preO.length = 10 := rfl
  have hpc : preC.length = 14 := rfl
  have k4 : ∀ w M, Buf b (nlB l ++ preO ++ clsT info ++ [62]) M → Sat σ w (M ++ (codC nb s e F info q ls.length c :: SM ++ L)) → g_CodeBlock_PrintHTML.k4 R (some ⟨nb, 0, none⟩) (some ⟨b, 0, none⟩) w := by
    intro w M hB h
    refine nilP_some ⟨_, _, _, Sat.ld h (List.mem_append_right _ (.head _)) (i := 4) rfl, ?_⟩
    intro X hX
    have key : ∀ k j M w, j + k = ls.length → Buf b (nlB l ++ preO ++ clsT info ++ [62] ++ codeOut (ls.take j)) M → Sat σ w (M ++ (codC nb s e F info q ls.length c :: SM ++ L)) → X (some ⟨b, 0, none⟩) q ls.length c (ls.length : Int) (j : Int) w := by
      intro k
      induction k with
      | zero =>
        intro j M w hj hB h
        rw [List.take_of_length_le (by omega)] at hB
        refine hX _ _ _ _ _ _ _ (br_false (by simp; omega) ?_)
        refine writeS_ok (s := preC) hB h (by simp only [List.length_append, List.length_cons, List.length_nil]; omega) fun w M hB h => ⟨_, _, rfl, ?_⟩
        refine hR w M ?_ h
        have e : nlB l ++ preO ++ clsT info ++ [62] ++ codeOut ls ++ preC = codeF info ls l := by simp [codeF]
        rw [← e]; exact hB
      | succ k ih =>
        intro j M w hj hB h
        have hjl : j < ls.length := by omega
        have hst : codeOut (ls.take (j + 1)) = codeOut (ls.take j) ++ (escS htmlPs ls[j] ++ [10]) := by unfold codeOut; rw [List.take_succ_eq_append_getElem hjl, List.flatMap_append]; simp
        have hle : (codeOut (ls.take (j + 1))).length ≤ (codeOut ls).length := by
          have : codeOut ls = codeOut (ls.take (j + 1)) ++ codeOut (ls.drop (j + 1)) := by unfold codeOut; rw [← List.flatMap_append, List.take_append_drop]
          rw [this, List.length_append]; omega
        rw [hst] at hle
        simp only [List.length_append, List.length_cons, List.length_nil] at hle
        have hll := hl ls[j] (List.getElem_mem hjl)
        have hS2 : Sat σ w (SM ++ (M ++ (codC nb s e F info q ls.length c :: L))) := h.re (by intro _; simp only [List.append_eq, cnt_append, cnt_cons, cnt_nil] <;> omega)
        refine hX _ _ _ _ _ _ _ (br_true (by simp; omega) ⟨by omega, by omega, ?_⟩)
        refine hS.loadAt hS2 (sv_get hjl) fun qb hq hc => ?_
        simp only [Addr.add_lit, Int.toNat_natCast, Nat.mul_one, Nat.zero_add]
        refine ⟨_, hc, ?_⟩
        refine htmlEscaper_ok h fun w eb h => ⟨_, _, _, rfl, ?_⟩
        refine pairsReplace_ok (ps := htmlPs) h (.head _) (by decide) (by decide) (by omega) fun w h => ⟨_, rfl, ?_⟩
        have h := h.tail
        refine writeS_ok (s := escS htmlPs ls[j]) hB h (by simp only [List.length_append, List.length_cons, List.length_nil]; omega) fun w M hB h => ⟨_, _, rfl, ?_⟩
        refine writeS_ok (s := [10]) hB h (by simp only [List.length_append, List.length_cons, List.length_nil]; omega) fun w M hB h => ⟨_, _, rfl, ?_⟩
        rw [i64_inc (by omega)]
        refine ih (j + 1) M w (by omega) ?_ h
        rw [hst, ← List.append_assoc, ← List.append_assoc]; exact hB
    exact key ls.length 0 M w (by omega) (by simpa [codeOut] using hB) h
  have k2 : ∀ w M, Buf b (nlB l ++ preO ++ clsT info) M → Sat σ w (M ++ (codC nb s e F info q ls.length c :: SM ++ L)) → g_CodeBlock_PrintHTML.k2 R (some ⟨nb, 0, none⟩) (some ⟨b, 0, none⟩) w := by
    intro w M hB h
    refine writeS_ok (s := [62]) hB h (by simp only [List.length_append, List.length_cons, List.length_nil]; omega) fun w M hB h => ⟨_, _, rfl, nilP_some ?_⟩
    refine ⟨_, Sat.ld h (List.mem_append_right _ (.head _)) (i := 2) rfl, br_false ?_ (k4 w M hB h)⟩
    rw [bs_toList, mk_toList]; simpa using hF
  have k1 : ∀ w M, Buf b (nlB l) M → Sat σ w (M ++ (codC nb s e F info q ls.length c :: SM ++ L)) → g_CodeBlock_PrintHTML.k1 R (some ⟨nb, 0, none⟩) (some ⟨b, 0, none⟩) w := by
    intro w M hB h
    refine writeS_ok (s := preO) hB h (by omega) fun w M hB h => ⟨_, _, rfl, nilP_some ?_⟩
    refine ⟨_, Sat.ld h (List.mem_append_right _ (.head _)) (i := 3) rfl, ?_⟩
    by_cases hi0 : info = []
    · refine br_false (by rw [bs_toList, mk_toList, hi0]; rfl) (k2 w M ?_ h)
      unfold clsT; rw [if_pos hi0, List.append_nil]; exact hB
    · refine br_true (by rw [bs_toList, mk_toList]; simpa using hi0) (nilP_some ?_)
      refine ⟨_, Sat.ld h (List.mem_append_right _ (.head _)) (i := 3) rfl, ?_⟩
      have hcl : (clsT info).length = 17 + (escS htmlPs info).length + 1 := by unfold clsT; rw [if_neg hi0]; simp [clsO]; omega
      have k3 : ∀ w, Sat σ w (M ++ (codC nb s e F info q ls.length c :: SM ++ L)) → g_CodeBlock_PrintHTML.k3 R (some ⟨nb, 0, none⟩) (some ⟨b, 0, none⟩) (bs info) w := by
        intro w h
        have hmax : IntKind.i64.max = 9223372036854775807 := rfl
        refine htmlQuoteEscaper_ok h fun w eb h => ⟨_, _, _, rfl, ?_⟩
        refine pairsReplace_ok (ps := htmlPs) h (.head _) (by decide) (by decide) (by omega) fun w h => ⟨_, rfl, ?_⟩
        have h := h.tail
        rw [show ByteArray.mk #[32, 99, 108, 97, 115, 115, 61, 34, 108, 97, 110, 103, 117, 97, 103, 101, 45] = bs clsO from rfl, show ByteArray.mk #[34] = bs [34] from rfl, bs_append, bs_append]
        have hco : clsO.length = 17 := rfl
        refine ⟨by rw [hmax, bs_size, bs_size]; omega, by rw [hmax, bs_size, bs_size]; simp only [List.length_append, List.length_cons, List.length_nil]; omega, ?_⟩
        refine writeS_ok (s := clsO ++ escS htmlPs info ++ [34]) hB h (by simp only [List.length_append, List.length_cons, List.length_nil]; omega) fun w M hB h => ⟨_, _, rfl, k2 w M ?_ h⟩
        unfold clsT; rw [if_neg hi0]; exact hB
      refine range_ok h fun w rb h => ?_
      intro X hX
      have key : ∀ k i w, i + k = info.length → Sat σ w ((rb, .stringIter (bs info) i) :: (M ++ (codC nb s e F info q ls.length c :: SM ++ L))) → X (some ⟨nb, 0, none⟩) (some ⟨b, 0, none⟩) (bs info) (.pointer (some ⟨rb, 0, none⟩)) w := by
        intro k
        induction k with
        | zero =>
          intro i w hi h
          exact hX _ _ _ _ _ (.inl ⟨_, next_end h (by simp; omega), k3 w h.tail⟩)
        | succ k ih =>
          intro i w hik h
          have hil : i < info.length := by omega
          have hlt : i < (bs info).size := by simpa using hil
          have hc := hi info[i] (List.getElem_mem hil)
          have h128 : info[i].toNat < 128 := UInt8.lt_iff_toNat_lt.1 hc.1
          refine hX _ _ _ _ _ (.inr (next_ok h hlt (by show info[i].toNat < 128; exact h128) fun w h => ?_))
          show callE P i_isUnicodeSpace #[.int .i32 ((info[i].toNat : Nat) : Int)] _ w
          refine isSpace_ok hc.1 ⟨_, rfl, br_false hc.2 (ih (i + 1) w (by omega) h)⟩
      exact key info.length 0 w (by omega) h
  refine bufLen_okB hB h (by omega) fun w h => ⟨_, rfl, ?_⟩
  by_cases h0 : l = []
  · subst h0
    exact br_false rfl (k1 w M hB h)
  have hpos : 0 < l.length := List.length_pos_iff.2 h0
  refine br_true (by simp; omega) ?_
  refine bufBytes_ok hB h fun w bq bc lr M0 hM hA h => ⟨_, _, _, rfl, ?_⟩
  refine bufLen_okB hB h (by omega) fun w h => ⟨_, rfl, ?_⟩
  have hw1 : IntKind.i64.wrap ((l.length : Int) - 1) = ((l.length - 1 : Nat) : Int) := by rw [i64_in _ (by omega)]; omega
  rw [hw1]
  refine ⟨by omega, by omega, ?_⟩
  have h2 : Sat σ w (M0 ++ (bufC b bq l.length bc lr :: (codC nb s e F info q ls.length c :: SM ++ L))) := by rw [hM] at h; exact h.re (by intro _; simp only [List.append_eq, cnt_append, cnt_cons, cnt_nil] <;> omega)
  refine hA.loadAt h2 (bc_get (j := l.length - 1) (by omega)) fun qb hq hc => ?_
  simp only [Addr.add_lit, Int.toNat_natCast, Nat.mul_one, Nat.zero_add]
  refine ⟨_, hc, ?_⟩
  have hlast : l.getLast? = some l[l.length - 1] := by rw [List.getLast?_eq_getElem?]; exact List.getElem?_eq_getElem _
  by_cases h10 : l[l.length - 1] = 10
  · refine br_false (by rw [h10]; rfl) (k1 w M ?_ h)
    unfold nlB; rw [if_pos (.inr (by rw [hlast, h10]))]; exact hB
  · refine br_true ?_ ?_
    · have := u8b (l[l.length - 1]) 10 10 rfl
      simp only [bne, this]; simpa using h10
    have hn : nlB l = l ++ [10] := by unfold nlB; rw [if_neg]; rintro (hh | hh); exact h0 hh; exact h10 (by rw [hlast] at hh; exact Option.some.inj hh)
    refine writeS_ok (s := [10]) hB h (by simp only [List.length_cons, List.length_nil]; omega) fun w M hB h => ⟨_, _, rfl, k1 w M ?_ h⟩
    rw [hn]; exact hB
end Go.Proofs.YtgbgadkldalkbaaGreatDoor


set_option linter.unusedVariables false
namespace Go.Proofs.YtgbgadkldalkbaaGreatDoor
open Go.Proofs Go.IntWalk Go.RowKit
variable {σ : Out} {w : World} {L L' : List Chunk} {R : Ending → World → Prop}
def preK (fb : Nat) (q : Option Addr) (n c : Nat) : Chunk := (fb, cel [.string (bs []), .slice q n c] ty_preBuilder)
def PreAt (fb : Nat) (ls : List (List UInt8)) (M : List Chunk) : Prop :=
  ∃ q c SM, Sl 1 ty_string q ls.length c (sv ls) SM ∧ M = preK fb q ls.length c :: SM
theorem meth_preExtend : methB P ty_P_preBuilder "pub-paratext/pub/rscmarkdown.extend" i_preBuilder_extend = true := by kernel_rfl
theorem meth_preBuild : methB P ty_P_preBuilder "pub-paratext/pub/rscmarkdown.build" i_preBuilder_build = true := by kernel_rfl
theorem sv_snoc (ls : List (List UInt8)) (s : List UInt8) : sv (ls ++ [s]) = sv ls ++ [.string (bs s)] := by simp [sv]
theorem preExtend_ok {fb b : Nat} {p : PS} {ls : List (List UInt8)} {FM : List Chunk} {l : Ln} (h : Sat σ w (p.at b :: (FM ++ L))) (hH : PreAt fb ls FM) (hl : l.ok) (hls : ls.length < 1048576)
    (hgo : ∀ l', l.trimSp 4 4 true = some l' → ∀ w (p' : PS) FM', p' = { p with corner := p'.corner } → PreAt fb (ls ++ [l'.str]) FM' → Sat σ w (p'.at b :: (FM' ++ L)) → R (.returned (.tuple #[Ln.zero.val, .bool true])) w)
    (hend : l.trimSp 4 4 true = none → ∀ w, Sat σ w (p.at b :: (FM ++ L)) → R (.returned (.tuple #[l.val, .bool false])) w) :
    callE P i_preBuilder_extend #[.pointer (some ⟨fb, 0, none⟩), .pointer (some ⟨b, 0, none⟩), l.val] R w := by
  obtain ⟨q, c, SM, hS, rfl⟩ := hH
  refine g_preBuilder_extend.sound ?_
  refine Sat.bx h fun b1 w h => ?_
  refine Sat.bx h fun b3 w h => ?_
  have h : Sat σ w (zLn b3 :: l.at b1 :: (p.at b :: (preK fb q ls.length c :: SM ++ L))) := h
  have h : Sat σ w (l.at b1 :: (zLn b3 :: (p.at b :: (preK fb q ls.length c :: SM ++ L)))) := h.re (by intro _; simp only [List.append_eq, cnt_append, cnt_cons, cnt_nil] <;> omega)
  refine YtgbgadkldalkbaaGreatDoor.trimSp_ok (min := 4) (max := 4) h hl (by decide) (by decide) ?_
  cases ht : l.trimSp 4 4 true with
  | none =>
    intro w h
    refine ⟨_, rfl, br_true rfl ?_⟩
    have h : Sat σ w (zLn b3 :: l.at b1 :: (p.at b :: (preK fb q ls.length c :: SM ++ L))) := h.re (by intro _; simp only [List.append_eq, cnt_append, cnt_cons, cnt_nil] <;> omega)
    repeat (first | refine nilP_some ?_ | refine h.tk fun w h => ?_ | refine ⟨_, h.ldA, ?_⟩ | refine ⟨_, _, _, h.ldA, ?_⟩ | refine h.stA 0 fun w h => ?_ | refine h.stA 1 fun w h => ?_ | refine h.stA 2 fun w h => ?_ | refine h.stA 3 fun w h => ?_ | refine h.stA 4 fun w h => ?_ | refine h.stA 5 fun w h => ?_ | refine h.stA 6 fun w h => ?_ | refine h.bx fun b0 w h => ?_)
    have h : Sat σ _ (l.at b3 :: l.at b1 :: (p.at b :: (preK fb q ls.length c :: SM ++ L))) := h
    exact hend ht _ h.tail.tail
  | some l' =>
    intro w h
    have hl' : l'.ok := Ln.trimSp_ok hl ht
    refine ⟨_, rfl, br_false rfl ?_⟩
    have h : Sat σ w (l'.at b1 :: preK fb q ls.length c :: zLn b3 :: p.at b :: (SM ++ L)) := h.re (by intro _; simp only [List.append_eq, cnt_append, cnt_cons, cnt_nil] <;> omega)
    refine h.tk fun w h => ?_
    refine nilP_some ?_
    refine ⟨_, _, _, Sat.ld h (.tail _ (.head _)) (i := 1) rfl, ?_⟩
    have h0 := h
    refine string_ok h (.head _) hl' fun w h => ⟨_, rfl, h0.same h (.tail _ (.head _)) (.tail _ (.head _)) 1, ?_⟩
    have h : Sat σ w (SM ++ (l'.at b1 :: preK fb q ls.length c :: zLn b3 :: p.at b :: L)) := h.re (by intro _; simp only [List.append_eq, cnt_append, cnt_cons, cnt_nil] <;> omega)
    have hm : preK fb q ls.length c ∈ (SM ++ (l'.at b1 :: preK fb q ls.length c :: zLn b3 :: p.at b :: L)) := by simp
    have h1 := h
    refine Sat.app1S rowStr hS h (v := .string (bs l'.str)) rfl (by simp [Value.cells, Value.oneCell']) (fillS l'.str) (by omega) (by omega) (by decide) (fun w1 X h2 => h1.same h2 hm (.tail _ hm) 1) fun q' c' w M' hS' h => ?_
    have h : Sat σ w (preK fb q ls.length c :: p.at b :: zLn b3 :: l'.at b1 :: (M' ++ L)) := h.re (by intro _; simp only [List.append_eq, cnt_append, cnt_cons, cnt_nil] <;> omega)
    refine nilP_some ?_
    refine h.stA 0 fun w h => ?_
    have h : Sat σ w (p.at b :: zLn b3 :: l'.at b1 :: preK fb q' (ls.length + 1) c' :: (M' ++ L)) := by
      have h : Sat σ w (preK fb q' (ls.length + 1) c' :: p.at b :: zLn b3 :: l'.at b1 :: (M' ++ L)) := h
      exact h.re (by intro _; simp only [List.append_eq, cnt_append, cnt_cons, cnt_nil] <;> omega)
    have hfin : ∀ (k : Bool) w, Sat σ w (({ p with corner := k } : PS).at b :: zLn b3 :: l'.at b1 :: preK fb q' (ls.length + 1) c' :: (M' ++ L)) → R (.returned (.tuple #[Ln.zero.val, .bool true])) w := by
      intro k w h
      refine hgo l' ht w { p with corner := k } (preK fb q' (ls ++ [l'.str]).length c' :: M') rfl ⟨q', c', M', ?_, rfl⟩ ?_
      · rw [List.length_append, List.length_singleton, sv_snoc]; exact hS'
      · rw [List.length_append, List.length_singleton]
        exact h.less [zLn b3, l'.at b1] (by intro _; simp only [List.append_eq, cnt_append, cnt_cons, cnt_nil] <;> omega)
    refine nilP_some ?_
    refine ⟨_, Sat.ld h (.head _) (i := 6) rfl, br_split (fun _ => ?_) fun _ => ?_⟩
    · refine nilP_some ?_
      refine h.stA 0 fun w h => ?_
      have h : Sat σ w (zLn b3 :: ({ p with corner := true } : PS).at b :: l'.at b1 :: preK fb q' (ls.length + 1) c' :: (M' ++ L)) := by
        have h : Sat σ w (({ p with corner := true } : PS).at b :: zLn b3 :: l'.at b1 :: preK fb q' (ls.length + 1) c' :: (M' ++ L)) := h
        exact h.re (by intro _; simp only [List.append_eq, cnt_append, cnt_cons, cnt_nil] <;> omega)
      repeat (first | refine nilP_some ?_ | refine h.tk fun w h => ?_ | refine ⟨_, h.ldA, ?_⟩ | refine ⟨_, _, _, h.ldA, ?_⟩ | refine h.stA 0 fun w h => ?_ | refine h.stA 1 fun w h => ?_ | refine h.stA 2 fun w h => ?_ | refine h.stA 3 fun w h => ?_ | refine h.stA 4 fun w h => ?_ | refine h.stA 5 fun w h => ?_ | refine h.stA 6 fun w h => ?_ | refine h.bx fun b0 w h => ?_)
      refine hfin true _ ?_
      have h : Sat σ _ (zLn b3 :: ({ p with corner := true } : PS).at b :: l'.at b1 :: preK fb q' (ls.length + 1) c' :: (M' ++ L)) := h
      exact h.re (by intro _; simp only [List.append_eq, cnt_append, cnt_cons, cnt_nil] <;> omega)
    · refine ⟨_, Sat.ld h (.tail _ (.tail _ (.head _))) (i := 4) rfl, nilP_some ?_⟩
      refine h.stA 0 fun w h => ?_
      generalize ((l'.nl.toNat : Int) != 10) = kk at h
      have h : Sat σ w (zLn b3 :: ({ p with corner := kk } : PS).at b :: l'.at b1 :: preK fb q' (ls.length + 1) c' :: (M' ++ L)) := by
        have h : Sat σ w (({ p with corner := kk } : PS).at b :: zLn b3 :: l'.at b1 :: preK fb q' (ls.length + 1) c' :: (M' ++ L)) := h
        exact h.re (by intro _; simp only [List.append_eq, cnt_append, cnt_cons, cnt_nil] <;> omega)
      repeat (first | refine nilP_some ?_ | refine h.tk fun w h => ?_ | refine ⟨_, h.ldA, ?_⟩ | refine ⟨_, _, _, h.ldA, ?_⟩ | refine h.stA 0 fun w h => ?_ | refine h.stA 1 fun w h => ?_ | refine h.stA 2 fun w h => ?_ | refine h.stA 3 fun w h => ?_ | refine h.stA 4 fun w h => ?_ | refine h.stA 5 fun w h => ?_ | refine h.stA 6 fun w h => ?_ | refine h.bx fun b0 w h => ?_)
      refine hfin kk _ ?_
      have h : Sat σ _ (zLn b3 :: ({ p with corner := kk } : PS).at b :: l'.at b1 :: preK fb q' (ls.length + 1) c' :: (M' ++ L)) := h
      exact h.re (by intro _; simp only [List.append_eq, cnt_append, cnt_cons, cnt_nil] <;> omega)
theorem preBuild_ok {b fb : Nat} {p : PS} {ob : List OB} {o : OB} {ls : List (List UInt8)} {M FM : List Chunk} (h : Sat σ w (p.at b :: M ++ (FM ++ L))) (hs : Stk p (ob ++ [o]) M) (hH : PreAt fb ls FM)
    (hR : ∀ w nb q c SM, Sl 1 ty_string q ls.length c (sv ls) SM → Sat σ w (p.at b :: M ++ (codC nb o.s o.e [] [] q ls.length c :: (SM ++ L))) → R (.returned (.iface ty_P_CodeBlock (.pointer (some ⟨nb, 0, none⟩)))) w) :
    callE P i_preBuilder_build #[.pointer (some ⟨fb, 0, none⟩), .iface ty_P_parseState (.pointer (some ⟨b, 0, none⟩))] R w := by
  obtain ⟨q, c, SM, hS, rfl⟩ := hH
  refine g_preBuilder_build.sound ?_
  have h : Sat σ w (preK fb q ls.length c :: (p.at b :: M ++ (SM ++ L))) := h.re (by intro _; simp only [List.append_eq, cnt_append, cnt_cons, cnt_nil] <;> omega)
  refine h.tk fun w h => ?_
  refine nilP_some ?_
  refine ⟨_, _, _, Sat.ld h (.head _) (i := 1) rfl, ?_⟩
  have h0 := h
  have h : Sat σ w (p.at b :: M ++ (preK fb q ls.length c :: (SM ++ L))) := h.re (by intro _; simp only [List.append_eq, cnt_append, cnt_cons, cnt_nil] <;> omega)
  refine enter_meth meth_pos ?_
  have hm : preK fb q ls.length c ∈ p.at b :: M ++ (preK fb q ls.length c :: (SM ++ L)) := by simp
  refine pos_ok h hs fun w h => ⟨_, _, rfl, h0.same h (.head _) hm 1, ?_⟩
  refine Sat.bx h fun nb w h => ?_
  refine hR w nb q c SM hS ?_
  have h : Sat σ w (codC nb o.s o.e [] [] q ls.length c :: (p.at b :: M ++ (preK fb q ls.length c :: (SM ++ L)))) := h
  exact h.less [preK fb q ls.length c] (by intro _; simp only [List.append_eq, cnt_append, cnt_cons, cnt_nil] <;> omega)
theorem newPre_yes {b : Nat} {p : PS} {ob : List OB} {o : OB} {M : List Chunk} {t : TypeId} {v : Value} {l l' : Ln} (h : Sat σ w (p.at b :: M ++ L)) (hs : Stk p (ob ++ [o]) M) (hd : p.depth = ob.length) (hob : ob.length < 1048570)
    (hb : o.bd = .iface t v) (hv : t ≠ ty_P_paraBuilder) (hl : l.ok) (hp : l.trimSp 4 4 false = some l') (hbl : l'.blank = false)
    (hR : ∀ w p' M' fb FM, p' = { p with stq := p'.stq, stn := ob.length + 2, stc := p'.stc, corner := p'.corner } → PreAt fb [l'.str] FM → Stk p' (ob ++ [o] ++ [⟨.iface ty_P_preBuilder (.pointer (some ⟨fb, 0, none⟩)), none, 0, 0, p.lineno, p.lineno⟩]) M' → Sat σ w (p'.at b :: M' ++ (FM ++ L)) → R (.returned (.tuple #[Ln.zero.val, .bool true])) w) :
    callE P i_newPre #[.pointer (some ⟨b, 0, none⟩), l.val] R w := by
  have hl' : l'.ok := Ln.trimSp_ok hl hp
  refine g_newPre.sound ?_
  refine Sat.bx h fun b1 w h => ?_
  refine Sat.bx h fun b3 w h => ?_
  repeat (first | refine nilP_some ?_ | refine h.tk fun w h => ?_ | refine ⟨_, h.ldA, ?_⟩ | refine ⟨_, _, _, h.ldA, ?_⟩ | refine h.stA 0 fun w h => ?_ | refine h.stA 1 fun w h => ?_ | refine h.stA 2 fun w h => ?_ | refine h.stA 3 fun w h => ?_ | refine h.stA 4 fun w h => ?_ | refine h.stA 5 fun w h => ?_ | refine h.stA 6 fun w h => ?_ | refine h.bx fun b0 w h => ?_)
  have h : Sat σ _ (l.at b0 :: zLn b3 :: l.at b1 :: (p.at b :: M ++ L)) := h
  have h : Sat σ _ (p.at b :: M ++ (l.at b0 :: zLn b3 :: l.at b1 :: L)) := h.re (by intro _; simp only [List.append_eq, cnt_append, cnt_cons, cnt_nil] <;> omega)
  refine top_ok h hs hb (fun w h => ?_) (fun hc => absurd hc hv)
  have h : Sat σ _ (l.at b0 :: (zLn b3 :: l.at b1 :: (p.at b :: M ++ L))) := h.re (by intro _; simp only [List.append_eq, cnt_append, cnt_cons, cnt_nil] <;> omega)
  rw [if_neg hv]
  refine ⟨none, rfl, _, w, eq_ptr_nil und_para _ _ _ w, br_true rfl ?_⟩
  refine YtgbgadkldalkbaaGreatDoor.trimSp_ok (min := 4) (max := 4) h hl (by decide) (by decide) ?_
  rw [hp]
  refine fun w h => ⟨_, rfl, br_true rfl ?_⟩
  refine isBlank_ok h (.head _) hl' fun w h => ⟨_, rfl, ?_⟩
  rw [hbl]
  refine br_true rfl ?_
  refine Sat.bx h fun fb w h => ?_
  have h : Sat σ w (preK fb none 0 0 :: l'.at b0 :: (zLn b3 :: l.at b1 :: (p.at b :: M ++ L))) := h
  have h : Sat σ w (p.at b :: M ++ (preK fb none 0 0 :: l'.at b0 :: zLn b3 :: l.at b1 :: L)) := h.re (by intro _; simp only [List.append_eq, cnt_append, cnt_cons, cnt_nil] <;> omega)
  refine addBlock_ok h hs (by rw [hd]; simp) (by simp; omega) fun w p1 M' hp1 hs1 h => ⟨rfl, ?_⟩
  have k2 : ∀ (kk : Bool) w, Sat σ w (({ p1 with corner := kk } : PS).at b :: M' ++ (preK fb none 0 0 :: l'.at b0 :: zLn b3 :: l.at b1 :: L)) → g_newPre.k2 R b3 b0 (some ⟨fb, 0, none⟩) w := by
    intro kk w h
    have h : Sat σ w (l'.at b0 :: preK fb none 0 0 :: zLn b3 :: (({ p1 with corner := kk } : PS).at b :: M' ++ (l.at b1 :: L))) := h.re (by intro _; simp only [List.append_eq, cnt_append, cnt_cons, cnt_nil] <;> omega)
    unfold g_newPre.k2
    refine h.tk fun w h => ?_
    refine nilP_some ?_
    refine ⟨_, _, _, Sat.ld h (.tail _ (.head _)) (i := 1) rfl, ?_⟩
    have h0 := h
    refine string_ok h (.head _) hl' fun w h => ⟨_, rfl, h0.same h (.tail _ (.head _)) (.tail _ (.head _)) 1, ?_⟩
    have h : Sat σ w ([] ++ (l'.at b0 :: preK fb none 0 0 :: zLn b3 :: (({ p1 with corner := kk } : PS).at b :: M' ++ (l.at b1 :: L)))) := h
    have hm : preK fb none 0 0 ∈ ([] ++ (l'.at b0 :: preK fb none 0 0 :: zLn b3 :: (({ p1 with corner := kk } : PS).at b :: M' ++ (l.at b1 :: L)))) := by simp
    have h1 := h
    refine Sat.app1S rowStr (Sl.nil 1 ty_string) h (v := .string (bs l'.str)) rfl (by simp [Value.cells, Value.oneCell']) (fillS l'.str) (by omega) (by omega) (by decide) (fun w1 X h2 => h1.same h2 hm (.tail _ hm) 1) fun q' c' w SM hS' h => ?_
    have h : Sat σ w (preK fb none 0 0 :: zLn b3 :: l'.at b0 :: (({ p1 with corner := kk } : PS).at b :: M' ++ (SM ++ (l.at b1 :: L)))) := h.re (by intro _; simp only [List.append_eq, cnt_append, cnt_cons, cnt_nil] <;> omega)
    refine nilP_some ?_
    refine h.stA 0 fun w h => ?_
    have h : Sat σ w (zLn b3 :: preK fb q' 1 c' :: l'.at b0 :: (({ p1 with corner := kk } : PS).at b :: M' ++ (SM ++ (l.at b1 :: L)))) := by
      have h : Sat σ w (preK fb q' 1 c' :: zLn b3 :: l'.at b0 :: (({ p1 with corner := kk } : PS).at b :: M' ++ (SM ++ (l.at b1 :: L)))) := h
      exact h.re (by intro _; simp only [List.append_eq, cnt_append, cnt_cons, cnt_nil] <;> omega)
    repeat (first | refine nilP_some ?_ | refine h.tk fun w h => ?_ | refine ⟨_, h.ldA, ?_⟩ | refine ⟨_, _, _, h.ldA, ?_⟩ | refine h.stA 0 fun w h => ?_ | refine h.stA 1 fun w h => ?_ | refine h.stA 2 fun w h => ?_ | refine h.stA 3 fun w h => ?_ | refine h.stA 4 fun w h => ?_ | refine h.stA 5 fun w h => ?_ | refine h.stA 6 fun w h => ?_ | refine h.bx fun b0 w h => ?_)
    have h : Sat σ _ (zLn b3 :: preK fb q' 1 c' :: l'.at b0 :: (({ p1 with corner := kk } : PS).at b :: M' ++ (SM ++ (l.at b1 :: L)))) := h
    refine hR _ { p1 with corner := kk } M' fb (preK fb q' 1 c' :: SM) (by rw [hp1]; simp) ⟨q', c', SM, hS', rfl⟩ (hs1.of rfl rfl rfl) ?_
    exact h.less [zLn b3, l'.at b0, l.at b1] (by intro _; simp only [List.append_eq, cnt_append, cnt_cons, cnt_nil] <;> omega)
  refine nilP_some ?_
  refine ⟨_, Sat.ld h (.head _) (i := 6) rfl, br_split (fun _ => nilP_some ?_) fun _ => ?_⟩
  · have h : Sat σ w (p1.at b :: (M' ++ (preK fb none 0 0 :: l'.at b0 :: zLn b3 :: l.at b1 :: L))) := h
    refine h.stA 0 fun w h => ?_
    exact k2 true _ h
  · have hm : l'.at b0 ∈ p1.at b :: M' ++ (preK fb none 0 0 :: l'.at b0 :: zLn b3 :: l.at b1 :: L) := by simp
    refine ⟨_, Sat.ld h hm (i := 4) rfl, nilP_some ?_⟩
    have h : Sat σ w (p1.at b :: (M' ++ (preK fb none 0 0 :: l'.at b0 :: zLn b3 :: l.at b1 :: L))) := h
    refine h.stA 0 fun w h => ?_
    generalize ((l'.nl.toNat : Int) != 10) = kk at h
    exact k2 kk _ h
theorem newPre_para {b qb s e : Nat} {p : PS} {ob : List OB} {M : List Chunk} {l : Ln} (h : Sat σ w (p.at b :: M ++ L)) (hs : Stk p (ob ++ [paraOB qb s e]) M) (hl : l.ok)
    (hR : ∀ w, Sat σ w (p.at b :: M ++ L) → R (.returned (.tuple #[l.val, .bool false])) w) : callE P i_newPre #[.pointer (some ⟨b, 0, none⟩), l.val] R w := by
  refine g_newPre.sound ?_
  refine Sat.bx h fun b1 w h => ?_
  refine Sat.bx h fun b3 w h => ?_
  repeat (first | refine nilP_some ?_ | refine h.tk fun w h => ?_ | refine ⟨_, h.ldA, ?_⟩ | refine ⟨_, _, _, h.ldA, ?_⟩ | refine h.stA 0 fun w h => ?_ | refine h.stA 1 fun w h => ?_ | refine h.stA 2 fun w h => ?_ | refine h.stA 3 fun w h => ?_ | refine h.stA 4 fun w h => ?_ | refine h.stA 5 fun w h => ?_ | refine h.stA 6 fun w h => ?_ | refine h.bx fun b0 w h => ?_)
  have h : Sat σ _ (l.at b0 :: zLn b3 :: l.at b1 :: (p.at b :: M ++ L)) := h
  have h : Sat σ _ (p.at b :: M ++ (l.at b0 :: zLn b3 :: l.at b1 :: L)) := h.re (by intro _; simp only [List.append_eq, cnt_append, cnt_cons, cnt_nil] <;> omega)
  refine top_ok h hs (o := paraOB qb s e) rfl (fun w h => ?_) (fun _ => ⟨_, rfl⟩)
  have h : Sat σ _ (l.at b0 :: (zLn b3 :: l.at b1 :: (p.at b :: M ++ L))) := h.re (by intro _; simp only [List.append_eq, cnt_append, cnt_cons, cnt_nil] <;> omega)
  rw [if_pos rfl]
  refine ⟨_, rfl, _, w, eq_ptr_nil und_para _ _ _ w, br_false rfl ?_⟩
  refine br_false rfl ?_
  repeat (first | refine nilP_some ?_ | refine h.tk fun w h => ?_ | refine ⟨_, h.ldA, ?_⟩ | refine ⟨_, _, _, h.ldA, ?_⟩ | refine h.stA 0 fun w h => ?_ | refine h.stA 1 fun w h => ?_ | refine h.stA 2 fun w h => ?_ | refine h.stA 3 fun w h => ?_ | refine h.stA 4 fun w h => ?_ | refine h.stA 5 fun w h => ?_ | refine h.stA 6 fun w h => ?_ | refine h.bx fun b0 w h => ?_)
  have h : Sat σ _ (l.at b0 :: l.at b3 :: l.at b1 :: (p.at b :: M ++ L)) := h
  exact hR _ h.tail.tail.tail
end Go.Proofs.YtgbgadkldalkbaaGreatDoor


set_option linter.unusedVariables false
namespace Go.Proofs.YtgbgadkldalkbaaGreatDoor
open Go.Proofs Go.IntWalk Go.RowKit
variable {σ : Out} {w : World} {L L' : List Chunk} {R : Ending → World → Prop}
def noEnd : List (List UInt8) → List (List UInt8)
  | [] => []
  | x :: xs => match noEnd xs with
    | [] => if trimLR isST x = [] then [] else [x]
    | y :: ys => x :: y :: ys
theorem noEnd_blank {x : List UInt8} (hx : trimLR isST x = []) : ∀ a : List (List UInt8), noEnd (a ++ [x]) = noEnd a
  | [] => by simp [noEnd, hx]
  | y :: a => by simp only [List.cons_append, noEnd, noEnd_blank hx a]
theorem noEnd_last {x : List UInt8} (hx : trimLR isST x ≠ []) : ∀ a : List (List UInt8), noEnd (a ++ [x]) = a ++ [x]
  | [] => by simp [noEnd, hx]
  | y :: a => by
    simp only [List.cons_append, noEnd, noEnd_last hx a]
    cases a <;> rfl
theorem noEnd_pre : ∀ ls : List (List UInt8), noEnd ls = ls.take (noEnd ls).length ∧ (noEnd ls).length ≤ ls.length
  | [] => by simp [noEnd]
  | x :: xs => by
    obtain ⟨h1, h2⟩ := noEnd_pre xs
    simp only [noEnd]
    cases h : noEnd xs with
    | nil =>
      by_cases hx : trimLR isST x = []
      · simp [hx]
      · simp [hx]
    | cons y ys =>
      rw [h] at h1 h2
      simp only [List.length_cons, List.take_succ_cons] at h1 h2 ⊢
      exact ⟨by rw [← h1], by omega⟩
theorem pre_prints {nb s e : Nat} {q : Option Addr} {c : Nat} {ls : List (List UInt8)} {SM : List Chunk} (hS : Sl 1 ty_string q ls.length c (sv ls) SM) (hn : ls.length < 1048576) (hl : ∀ l ∈ ls, l.length < 4294967296) :
    Prints "PrintHTML" (.iface ty_P_CodeBlock (.pointer (some ⟨nb, 0, none⟩))) (codC nb s e [] [] q ls.length c :: SM) (codC nb s e [] [] q (noEnd ls).length c :: SM) (codeF [] (noEnd ls)) := by
  refine ⟨fun l => by have := (nlB_le l).1; simp only [codeF, List.length_append] at *; omega, fun σ R b l M L w hB h hb hR => enter_meth meth_CodeBlock ?_⟩
  refine g_CodeBlock_PrintHTML.sound ?_
  have hbl : (codeF [] (noEnd ls) l).length ≤ 549755813888 := hb
  have hnl := nlB_le l
  have hc0 : clsT [] = [] := rfl
  have hpre : (codeF [] (noEnd ls) l).length = (nlB l).length + (preO.length + 1 + (codeOut (noEnd ls)).length + preC.length) := by simp [codeF, hc0]; omega
  have hpo : preO.length = 10 := rfl
  have hpc : preC.length = 14 := rfl
  have hnc : ls.length ≤ c := hS.2.1
  obtain ⟨htk, hle⟩ := noEnd_pre ls
  have hS' : Sl 1 ty_string q (noEnd ls).length c (sv (noEnd ls)) SM := by
    have := hS.trunc hle
    have e0 : (sv ls).take (noEnd ls).length = sv (noEnd ls) := by
      conv => rhs; rw [htk]
      simp [sv, List.map_take]
    rwa [e0] at this
  have k4 : ∀ w M, Buf b (nlB l ++ preO ++ [62]) M → Sat σ w (M ++ (codC nb s e [] [] q (noEnd ls).length c :: SM ++ L)) → g_CodeBlock_PrintHTML.k4 R (some ⟨nb, 0, none⟩) (some ⟨b, 0, none⟩) w := by
    have hl' : ∀ l ∈ noEnd ls, l.length < 4294967296 := fun x hx => hl x (by rw [htk] at hx; exact List.mem_of_mem_take hx)
    have hn' : (noEnd ls).length < 1048576 := by omega
    generalize noEnd ls = ts at hS' hl' hn' hpre hR hbl
    intro w M hB h
    refine nilP_some ⟨_, _, _, Sat.ld h (List.mem_append_right _ (.head _)) (i := 4) rfl, ?_⟩
    intro X hX
    have key : ∀ k j M w, j + k = ts.length → Buf b (nlB l ++ preO ++ [62] ++ codeOut (ts.take j)) M → Sat σ w (M ++ (codC nb s e [] [] q ts.length c :: SM ++ L)) → X (some ⟨b, 0, none⟩) q ts.length c (ts.length : Int) (j : Int) w := by
      intro k
      induction k with
      | zero =>
        intro j M w hj hB h
        rw [List.take_of_length_le (by omega)] at hB
        refine hX _ _ _ _ _ _ _ (br_false (by simp; omega) ?_)
        refine writeS_ok (s := preC) hB h (by simp only [List.length_append, List.length_cons, List.length_nil]; omega) fun w M hB h => ⟨_, _, rfl, ?_⟩
        refine hR w M ?_ h
        have e : nlB l ++ preO ++ [62] ++ codeOut ts ++ preC = codeF [] ts l := by simp [codeF, hc0]
        rw [← e]; exact hB
      | succ k ih =>
        intro j M w hj hB h
        have hjl : j < ts.length := by omega
        have hst : codeOut (ts.take (j + 1)) = codeOut (ts.take j) ++ (escS htmlPs ts[j] ++ [10]) := by unfold codeOut; rw [List.take_succ_eq_append_getElem hjl, List.flatMap_append]; simp
        have hle : (codeOut (ts.take (j + 1))).length ≤ (codeOut ts).length := by
          have : codeOut ts = codeOut (ts.take (j + 1)) ++ codeOut (ts.drop (j + 1)) := by unfold codeOut; rw [← List.flatMap_append, List.take_append_drop]
          rw [this, List.length_append]; omega
        rw [hst] at hle
        simp only [List.length_append, List.length_cons, List.length_nil] at hle
        have hll := hl' ts[j] (List.getElem_mem hjl)
        have hS2 : Sat σ w (SM ++ (M ++ (codC nb s e [] [] q ts.length c :: L))) := h.re (by intro _; simp only [List.append_eq, cnt_append, cnt_cons, cnt_nil] <;> omega)
        refine hX _ _ _ _ _ _ _ (br_true (by simp; omega) ⟨by omega, by omega, ?_⟩)
        refine hS'.loadAt hS2 (sv_get hjl) fun qb hq hc => ?_
        simp only [Addr.add_lit, Int.toNat_natCast, Nat.mul_one, Nat.zero_add]
        refine ⟨_, hc, ?_⟩
        refine htmlEscaper_ok h fun w eb h => ⟨_, _, _, rfl, ?_⟩
        refine pairsReplace_ok (ps := htmlPs) h (.head _) (by decide) (by decide) (by omega) fun w h => ⟨_, rfl, ?_⟩
        have h := h.tail
        refine writeS_ok (s := escS htmlPs ts[j]) hB h (by simp only [List.length_append, List.length_cons, List.length_nil]; omega) fun w M hB h => ⟨_, _, rfl, ?_⟩
        refine writeS_ok (s := [10]) hB h (by simp only [List.length_append, List.length_cons, List.length_nil]; omega) fun w M hB h => ⟨_, _, rfl, ?_⟩
        rw [i64_inc (by omega)]
        refine ih (j + 1) M w (by omega) ?_ h
        rw [hst, ← List.append_assoc, ← List.append_assoc]; exact hB
    exact key ts.length 0 M w (by omega) (by simpa [codeOut] using hB) h
  have l2 : ∀ w M, Buf b (nlB l ++ preO ++ [62]) M → Sat σ w (M ++ (codC nb s e [] [] q ls.length c :: SM ++ L)) → g_CodeBlock_PrintHTML.l2 R (some ⟨nb, 0, none⟩) (some ⟨b, 0, none⟩) w := by
    intro w M hB h X hX
    have key : ∀ m w, m ≤ ls.length → noEnd (ls.take m) = noEnd ls → Sat σ w (M ++ (codC nb s e [] [] q m c :: SM ++ L)) → X (some ⟨nb, 0, none⟩) (some ⟨b, 0, none⟩) w := by
      intro m
      induction m with
      | zero =>
        intro w hm hE h
        refine hX _ _ _ (Sat.tk h fun w h => nilP_some ⟨_, _, _, Sat.ld h (List.mem_append_right _ (.head _)) (i := 4) rfl, br_false rfl ?_⟩)
        have e0 : noEnd ls = [] := by rw [← hE]; rfl
        exact k4 w M hB (by rw [e0]; exact h)
      | succ m ih =>
        intro w hm hE h
        have hml : m < ls.length := by omega
        have hw1 : IntKind.i64.wrap (((m + 1 : Nat) : Int) - 1) = (m : Int) := by rw [i64_in _ (by omega)]; omega
        have htk1 : ls.take (m + 1) = ls.take m ++ [ls[m]] := List.take_succ_eq_append_getElem hml
        refine hX _ _ _ (Sat.tk h fun w h => nilP_some ⟨_, _, _, Sat.ld h (List.mem_append_right _ (.head _)) (i := 4) rfl, br_true (by simp) ?_⟩)
        refine nilP_some (nilP_some ?_)
        refine ⟨_, _, _, Sat.ld h (List.mem_append_right _ (.head _)) (i := 4) rfl, _, _, _, Sat.ld h (List.mem_append_right _ (.head _)) (i := 4) rfl, ?_⟩
        rw [hw1]
        refine ⟨by omega, by omega, ?_⟩
        have hS2 : Sat σ w (SM ++ (M ++ (codC nb s e [] [] q (m + 1) c :: L))) := h.re (by intro _; simp only [List.append_eq, cnt_append, cnt_cons, cnt_nil] <;> omega)
        refine hS.loadAt hS2 (sv_get hml) fun qb hq hc => ?_
        simp only [Addr.add_lit, Int.toNat_natCast, Nat.mul_one, Nat.zero_add]
        refine ⟨_, hc, ?_⟩
        refine trimSpaceTab_ok (by have := hl ls[m] (List.getElem_mem hml); omega) ⟨_, rfl, ?_⟩
        by_cases hb : trimLR isST ls[m] = []
        · refine br_true (by rw [hb, bs_toList, mk_toList]; rfl) ?_
          unfold g_CodeBlock_PrintHTML.k5
          refine Sat.tk h fun w h => nilP_some (nilP_some ?_)
          refine ⟨_, _, _, Sat.ld h (List.mem_append_right _ (.head _)) (i := 4) rfl, _, _, _, Sat.ld h (List.mem_append_right _ (.head _)) (i := 4) rfl, ?_⟩
          rw [hw1]
          refine ⟨_, _, _, fun w => sliceT rowStr.ht rowStr.hi q _ c m (by omega) w, nilP_some ?_⟩
          have h : Sat σ w (codC nb s e [] [] q (m + 1) c :: (M ++ (SM ++ L))) := h.re (by intro _; simp only [List.append_eq, cnt_append, cnt_cons, cnt_nil] <;> omega)
          refine h.stA 0 fun w h => ?_
          have h : Sat σ w (codC nb s e [] [] q m c :: (M ++ (SM ++ L))) := h
          refine ih w (by omega) ?_ (h.re (by intro _; simp only [List.append_eq, cnt_append, cnt_cons, cnt_nil] <;> omega))
          rw [← hE, htk1, noEnd_blank hb]
        · refine br_false (by rw [bs_toList, mk_toList]; simpa using hb) ?_
          have e0 : (noEnd ls).length = m + 1 := by rw [← hE, htk1, noEnd_last hb, List.length_append, List.length_take]; simp; omega
          exact k4 w M hB (by rw [e0]; exact h)
    exact key ls.length w (Nat.le_refl _) (by rw [List.take_length]) h
  have k1 : ∀ w M, Buf b (nlB l) M → Sat σ w (M ++ (codC nb s e [] [] q ls.length c :: SM ++ L)) → g_CodeBlock_PrintHTML.k1 R (some ⟨nb, 0, none⟩) (some ⟨b, 0, none⟩) w := by
    intro w M hB h
    refine writeS_ok (s := preO) hB h (by omega) fun w M hB h => ⟨_, _, rfl, nilP_some ?_⟩
    refine ⟨_, Sat.ld h (List.mem_append_right _ (.head _)) (i := 3) rfl, ?_⟩
    refine br_false (by rw [bs_toList, mk_toList]; rfl) ?_
    refine writeS_ok (s := [62]) hB h (by simp only [List.length_append, List.length_cons, List.length_nil]; omega) fun w M hB h => ⟨_, _, rfl, nilP_some ?_⟩
    exact ⟨_, Sat.ld h (List.mem_append_right _ (.head _)) (i := 2) rfl, br_true (by rw [bs_toList, mk_toList]; rfl) (l2 w M hB h)⟩
  refine bufLen_okB hB h (by omega) fun w h => ⟨_, rfl, ?_⟩
  by_cases h0 : l = []
  · subst h0
    exact br_false rfl (k1 w M hB h)
  have hpos : 0 < l.length := List.length_pos_iff.2 h0
  refine br_true (by simp; omega) ?_
  refine bufBytes_ok hB h fun w bq bc lr M0 hM hA h => ⟨_, _, _, rfl, ?_⟩
  refine bufLen_okB hB h (by omega) fun w h => ⟨_, rfl, ?_⟩
  have hw1 : IntKind.i64.wrap ((l.length : Int) - 1) = ((l.length - 1 : Nat) : Int) := by rw [i64_in _ (by omega)]; omega
  rw [hw1]
  refine ⟨by omega, by omega, ?_⟩
  have h2 : Sat σ w (M0 ++ (bufC b bq l.length bc lr :: (codC nb s e [] [] q ls.length c :: SM ++ L))) := by rw [hM] at h; exact h.re (by intro _; simp only [List.append_eq, cnt_append, cnt_cons, cnt_nil] <;> omega)
  refine hA.loadAt h2 (bc_get (j := l.length - 1) (by omega)) fun qb hq hc => ?_
  simp only [Addr.add_lit, Int.toNat_natCast, Nat.mul_one, Nat.zero_add]
  refine ⟨_, hc, ?_⟩
  have hlast : l.getLast? = some l[l.length - 1] := by rw [List.getLast?_eq_getElem?]; exact List.getElem?_eq_getElem _
  by_cases h10 : l[l.length - 1] = 10
  · refine br_false (by rw [h10]; rfl) (k1 w M ?_ h)
    unfold nlB; rw [if_pos (.inr (by rw [hlast, h10]))]; exact hB
  · refine br_true ?_ ?_
    · have := u8b (l[l.length - 1]) 10 10 rfl
      simp only [bne, this]; simpa using h10
    have hn : nlB l = l ++ [10] := by unfold nlB; rw [if_neg]; rintro (hh | hh); exact h0 hh; exact h10 (by rw [hlast] at hh; exact Option.some.inj hh)
    refine writeS_ok (s := [10]) hB h (by simp only [List.length_cons, List.length_nil]; omega) fun w M hB h => ⟨_, _, rfl, k1 w M ?_ h⟩
    rw [hn]; exact hB
end Go.Proofs.YtgbgadkldalkbaaGreatDoor


set_option linter.unusedVariables false
namespace Go.Proofs.YtgbgadkldalkbaaGreatDoor
open Go.Proofs Go.IntWalk Go.RowKit
variable {σ : Out} {w : World} {L L' : List Chunk} {R : Ending → World → Prop}
def lowB (c : UInt8) : Bool := (decide (97 ≤ c.toNat) && decide (c.toNat ≤ 122)) || (decide (48 ≤ c.toNat) && decide (c.toNat ≤ 57))
def preWords : List (List UInt8) := [[112, 114, 101], [115, 99, 114, 105, 112, 116], [115, 116, 121, 108, 101], [116, 101, 120, 116, 97, 114, 101, 97]]
structure NoTag (s : List UInt8) (e m : Nat) : Prop where
  len : s.length < 1000000
  hd : s.getD 0 0 = 60
  n1 : s.getD 1 0 ≠ 33 ∧ s.getD 1 0 ≠ 63 ∧ s.getD 1 0 ≠ 47
  e1 : 1 ≤ e ∧ e < s.length ∧ e ≤ 17
  run : ∀ k, 1 ≤ k → k < e → lowB (s.getD k 0) = true
  stop : e = 17 ∨ (lowB (s.getD e 0) = false ∧ letB (s.getD e 0) = false)
  sep : s.getD e 0 ≠ 32 ∧ s.getD e 0 ≠ 9 ∧ s.getD e 0 ≠ 62 ∧ s.getD e 0 ≠ 47
  tag : letB (s.getD 1 0) = false ∨ (RunTo s ldhB 2 m ∧ m < s.length ∧ sub s 1 m ∉ preWords ∧ s.getD m 0 ≠ 32 ∧ s.getD m 0 ≠ 9 ∧ s.getD m 0 ≠ 10 ∧ s.getD m 0 ≠ 47 ∧ s.getD m 0 ≠ 62)
end Go.Proofs.YtgbgadkldalkbaaGreatDoor


set_option linter.unusedVariables false
set_option maxRecDepth 20000
namespace Go.Proofs.YtgbgadkldalkbaaGreatDoor
open Go.Proofs
namespace g_line_trimSetext
noncomputable def body : Code := bodyOf Tryz.f183
def bl1 (R : EP) (Xa : OA → Nat → Int → WP) (x1 : OA) (x5 : Nat) (x6 : Int) (w : World) : Prop :=
 callE P i_line_trim #[.pointer (some ⟨x5, 0, none⟩), .int .u8 x6] (fun e w19 => ∃ (r18 : Bool), e = .returned (.bool r18) ∧
 br r18
 (Xa x1 x5 x6 w19)
 (callE P i_line_skipSpace #[.pointer (some ⟨x5, 0, none⟩)] (fun e w21 => e = .returned (.tuple #[]) ∧
 callE P i_line_eof #[.pointer (some ⟨x5, 0, none⟩)] (fun e w23 => ∃ (r22 : Bool), e = .returned (.bool r22) ∧
 br r22
 (br (x6 == 61)
 (nilP x1 fun a24 =>
 stV w23 (a24.add 0) (.int .i64 1) fun w25 =>
 R (.returned (.bool true)) w25)
 (nilP x1 fun a26 =>
 stV w23 (a26.add 0) (.int .i64 2) fun w27 =>
 R (.returned (.bool true)) w27))
 (R (.returned (.bool false)) w23)) w21) w19)) w
def l1 (R : EP) (x1 : OA) (x5 : Nat) (x6 : Int) (w : World) : Prop :=
  ∀ X : OA → Nat → Int → WP, (∀ x1 x5 x6 w, bl1 R X x1 x5 x6 w → X x1 x5 x6 w) → X x1 x5 x6 w

noncomputable def al1 (R : EP) (Xa : OA → Nat → Int → WP) : AC :=
  (.leaf (sel [1, 1, 1, 1, 0, 1, 0, 0, 0, 0] body))
def k1 (R : EP) (x1 : OA) (x5 : Nat) (x6 : Int) (x17 : Bool) (w : World) : Prop :=
 br x17
 (l1 R x1 x5 x6 w)
 (R (.returned (.bool false)) w)

end g_line_trimSetext
def g_line_trimSetext (R : EP) (x0 : OA) (x1 : OA) (w : World) : Prop :=
 nilP x0 fun a1 =>
 ∃ (v2 : Int), w.cell? (a1.add 0) = some (.int .i64 v2) ∧
 ∃ (v3 : Int), w.cell? (a1.add 1) = some (.int .i64 v3) ∧
 ∃ (v4 : Int), w.cell? (a1.add 2) = some (.int .i64 v4) ∧
 ∃ (v5 : BA), w.cell? (a1.add 3) = some (.string v5) ∧
 ∃ (v6 : Int), w.cell? (a1.add 4) = some (.int .u8 v6) ∧
 box w #[.int .i64 0, .int .i64 0, .int .i64 0, .string (ByteArray.mk #[]), .int .u8 0] ty_line fun b7 w8 =>
 stV w8 ⟨b7, 0, none⟩ (.int .i64 v2) fun w9 =>
 stV w9 ⟨b7, 1, none⟩ (.int .i64 v3) fun w10 =>
 stV w10 ⟨b7, 2, none⟩ (.int .i64 v4) fun w11 =>
 stV w11 ⟨b7, 3, none⟩ (.string v5) fun w12 =>
 stV w12 ⟨b7, 4, none⟩ (.int .u8 v6) fun w13 =>
 callE P i_line_trimSpace #[.pointer (some ⟨b7, 0, none⟩), .int .i64 0, .int .i64 3, .bool false] (fun e w15 => ∃ (r14 : Bool), e = .returned (.bool r14) ∧
 callE P i_line_peek #[.pointer (some ⟨b7, 0, none⟩)] (fun e w17 => ∃ (r16 : Int), e = .returned (.int .u8 r16) ∧
 g_line_trimSetext.k1 R x1 b7 r16 ((r16 == 45) || (r16 == 61)) w17) w15) w13

noncomputable def g_line_trimSetext.ac (R : EP) : AC :=
  (.seq (.leaf (sel [0] g_line_trimSetext.body)) (.seq (.leaf (sel [1, 0] g_line_trimSetext.body)) (.seq (.leaf (sel [1, 1, 0] g_line_trimSetext.body)) (.seq (.leaf (sel [1, 1, 1, 0] g_line_trimSetext.body)) (.seq (.seq (.leaf (sel [1, 1, 1, 1, 0, 0] g_line_trimSetext.body)) (.mark (leaf [(1, .s .ptr), (5, .s .loc), (6, .s (.int .u8)), (17, .s .bool)] (g_line_trimSetext.k1 R)) (.cond 17 (.seq (.block 0 (.loop (leaf [(1, .s .ptr), (5, .s .loc), (6, .s (.int .u8))] (g_line_trimSetext.l1 R)) (sel [1, 1, 1, 1, 0, 1, 0, 0, 0, 0] g_line_trimSetext.body))) (.leaf (sel [1, 1, 1, 1, 0, 1, 0, 1] g_line_trimSetext.body))) (.leaf (sel [1, 1, 1, 1, 0, 1, 1] g_line_trimSetext.body))))) (.leaf (sel [1, 1, 1, 1, 1] g_line_trimSetext.body)))))))
theorem g_line_trimSetext.good (R : EP) : Good P 28 (g_line_trimSetext.ac R) (QF P [.tmp 4] R) :=
  ⟨trivial, ⟨trivial, ⟨trivial, ⟨trivial, ⟨⟨trivial, ⟨⟨⟨(loopG (g_line_trimSetext.al1 R) (g_line_trimSetext.bl1 R) (fun _ => by kernel_rfl) (fun Xa => trivial) (fun Xa => by intro x1 x5 x6 ρ w; kernel_rfl) (fun X h _ _ _ _ g => g X h)), trivial⟩, trivial⟩, cutE (by intro x1 x5 x6 x17 ρ w; kernel_rfl)⟩⟩, trivial⟩⟩⟩⟩⟩
theorem g_line_trimSetext.eq (R : EP) (x0 : OA) (x1 : OA) (w : World) : g_line_trimSetext R x0 x1 w = vcA P 28 (g_line_trimSetext.ac R) (QF P [.tmp 4] R) (fr0 [.pointer x0, .pointer x1]) w := by kernel_rfl
theorem g_line_trimSetext.sound {R : EP} {x0 : OA} {x1 : OA} {w : World} (h : g_line_trimSetext R x0 x1 w) : callE P i_line_trimSetext #[.pointer x0, .pointer x1] R w :=
  callE_fin (c := g_line_trimSetext.body) Tryz.func183 Tryz.call183 (by kernel_rfl) (by kernel_rfl) (by kernel_rfl) (by kernel_rfl) (by kernel_rfl) (g_line_trimSetext.good R) (g_line_trimSetext.eq R x0 x1 w) h
namespace g_paraBuilder_extend
noncomputable def body : Code := bodyOf Tryz.f386
end g_paraBuilder_extend
def g_paraBuilder_extend (R : EP) (x0 : OA) (x1 : OA) (x2_0 : Int) (x2_1 : Int) (x2_2 : Int) (x2_3 : BA) (x2_4 : Int) (w : World) : Prop :=
 box w #[.int .i64 x2_0, .int .i64 x2_1, .int .i64 x2_2, .string x2_3, .int .u8 x2_4] ty_line fun b1 w2 =>
 box w2 #[.int .i64 0, .int .i64 0, .int .i64 0, .string (ByteArray.mk #[]), .int .u8 0] ty_line fun b3 w4 =>
 ∃ (v5 : Int), w4.cell? ⟨b1, 0, none⟩ = some (.int .i64 v5) ∧
 ∃ (v6 : Int), w4.cell? ⟨b1, 1, none⟩ = some (.int .i64 v6) ∧
 ∃ (v7 : Int), w4.cell? ⟨b1, 2, none⟩ = some (.int .i64 v7) ∧
 ∃ (v8 : BA), w4.cell? ⟨b1, 3, none⟩ = some (.string v8) ∧
 ∃ (v9 : Int), w4.cell? ⟨b1, 4, none⟩ = some (.int .u8 v9) ∧
 stV w4 ⟨b3, 0, none⟩ (.int .i64 v5) fun w10 =>
 stV w10 ⟨b3, 1, none⟩ (.int .i64 v6) fun w11 =>
 stV w11 ⟨b3, 2, none⟩ (.int .i64 v7) fun w12 =>
 stV w12 ⟨b3, 3, none⟩ (.string v8) fun w13 =>
 stV w13 ⟨b3, 4, none⟩ (.int .u8 v9) fun w14 =>
 ∃ (v15 : Int), w14.cell? ⟨b3, 0, none⟩ = some (.int .i64 v15) ∧
 ∃ (v16 : Int), w14.cell? ⟨b3, 1, none⟩ = some (.int .i64 v16) ∧
 ∃ (v17 : Int), w14.cell? ⟨b3, 2, none⟩ = some (.int .i64 v17) ∧
 ∃ (v18 : BA), w14.cell? ⟨b3, 3, none⟩ = some (.string v18) ∧
 ∃ (v19 : Int), w14.cell? ⟨b3, 4, none⟩ = some (.int .u8 v19) ∧
 R (.returned (.tuple #[.agg #[.int .i64 v15, .int .i64 v16, .int .i64 v17, .string v18, .int .u8 v19], .bool false])) w14

noncomputable def g_paraBuilder_extend.ac (R : EP) : AC :=
  (.leaf (sel [] g_paraBuilder_extend.body))
theorem g_paraBuilder_extend.good (R : EP) : Good P 9 (g_paraBuilder_extend.ac R) (QF P [.cell 6 159, .tmp 7] R) :=
  trivial
theorem g_paraBuilder_extend.eq (R : EP) (x0 : OA) (x1 : OA) (x2_0 : Int) (x2_1 : Int) (x2_2 : Int) (x2_3 : BA) (x2_4 : Int) (w : World) : g_paraBuilder_extend R x0 x1 x2_0 x2_1 x2_2 x2_3 x2_4 w = vcA P 9 (g_paraBuilder_extend.ac R) (QF P [.cell 6 159, .tmp 7] R) (fr0 [.pointer x0, .pointer x1, .agg #[.int .i64 x2_0, .int .i64 x2_1, .int .i64 x2_2, .string x2_3, .int .u8 x2_4]]) w := by kernel_rfl
theorem g_paraBuilder_extend.sound {R : EP} {x0 : OA} {x1 : OA} {x2_0 : Int} {x2_1 : Int} {x2_2 : Int} {x2_3 : ByteArray} {x2_4 : Int} {w : World} (h : g_paraBuilder_extend R x0 x1 x2_0 x2_1 x2_2 x2_3 x2_4 w) : callE P i_paraBuilder_extend #[.pointer x0, .pointer x1, .agg #[.int .i64 x2_0, .int .i64 x2_1, .int .i64 x2_2, .string x2_3, .int .u8 x2_4]] R w :=
  callE_fin (c := g_paraBuilder_extend.body) Tryz.func386 Tryz.call386 (by kernel_rfl) (by kernel_rfl) (by kernel_rfl) (by kernel_rfl) (by kernel_rfl) (g_paraBuilder_extend.good R) (g_paraBuilder_extend.eq R x0 x1 x2_0 x2_1 x2_2 x2_3 x2_4 w) h
end Go.Proofs.YtgbgadkldalkbaaGreatDoor

set_option linter.unusedVariables false
namespace Go.Proofs.YtgbgadkldalkbaaGreatDoor
open Go.Proofs Go.IntWalk Go.RowKit
variable {σ : Out} {w : World} {L L' : List Chunk} {R : Ending → World → Prop}
inductive Leaf where
  | none
  | para (ls : List (List UInt8))
  | other (A : List OB → List Chunk → Prop)
def LeafAt : Leaf → List OB → List Chunk → Prop
  | .none, ob, M => ob = [] ∧ M = []
  | .para ls, ob, M => ∃ qb s e, ob = [paraOB qb s e] ∧ ParaAt qb ls M ∧ s < 1000000000 ∧ ls ≠ [] ∧ ls.length < 1048570
  | .other A, ob, M => A ob M
def rootV (rb : Nat) : Value := .iface ty_P_rootBuilder (.pointer (some ⟨rb, 0, none⟩))
def DocS (σ : Out) (b rb : Nat) (L : List Chunk) (D : List DB) (lf : Leaf) (p : PS) (w : World) : Prop :=
  ∃ r obs M TM IM LM, r.bd = rootV rb ∧ Stk p (r :: obs) M ∧ Txts p ((txsC D).map TX.t) TM ∧ Sl 1 ty_Block r.q r.n r.c (D.map DB.v) IM ∧ LeafAt lf obs LM ∧
    Sat σ w (p.at b :: M ++ (IM ++ (TM ++ (LM ++ (ownC D ++ ((txsC D).map TX.chunk ++ L))))))
def PS.base (p : PS) : PS := { p with lineno := 0, stq := none, stn := 0, stc := 0, depth := 0, corner := false, tq := none, tn := 0, tc := 0 }
def paraDB (nb t s e : Nat) (raw : List UInt8) : DB := ⟨.iface ty_P_Paragraph (.pointer (some ⟨nb, 0, none⟩)), [paraC nb s e t], [⟨t, s, e, raw⟩]⟩
def LeafClosed (lf : Leaf) (D : List DB) (D' : List DB) : Prop :=
  match lf with
  | .none => D' = D
  | .para ls => ∃ nb t s e, D' = D ++ [paraDB nb t s e (joinL [10] ls)]
  | .other _ => False
def Leaf.fin : Leaf → Prop
  | .none => True
  | .para ls => (joinL [10] ls).length < 1073741824 ∧ joinL [10] ls ≠ [] ∧ ((joinL [10] ls).dropWhile isSTN).head? ≠ some 91
  | .other _ => False
def Leaf.finN : Leaf → Prop
  | .none => True
  | .para ls => (joinL [10] ls).length < 1073741824 ∧ joinL [10] ls ≠ [] ∧ NoRef (joinL [10] ls)
  | .other _ => False
theorem Leaf.fin.toN {lf : Leaf} (h : lf.fin) : lf.finN := by
  cases lf with
  | none => trivial
  | para ls => exact ⟨h.1, h.2.1, noRef_of (by have := h.1; omega) h.2.2⟩
  | other A => exact h
theorem closeLeaf_ok {b rb : Nat} {p : PS} {D : List DB} {ls : List (List UInt8)} (h : DocS σ b rb L D (.para ls) p w) (hf : Leaf.finN (.para ls)) (hD : D.length < 100000) (hX : (txsC D).length < 100000)
    (hR : ∀ w p' D' x, p'.base = p.base → p'.depth = p.depth → p'.lineno = p.lineno → p'.stn = 1 → LeafClosed (.para ls) D D' → DocS σ b rb L D' .none p' w → R (.returned x) w) :
    callE P i_parseState_closeBlock #[.pointer (some ⟨b, 0, none⟩)] R w := by
  obtain ⟨r, obs, M, TM, IM, LM, hr, hs, ht, hI, ⟨qb, s, e, rfl, hp, hs1, hne, hln⟩, h⟩ := h
  obtain ⟨hf1, hf2, hf3⟩ := hf
  have hIl := hI.1
  simp only [List.length_map, Nat.mul_one] at hIl
  refine closePara_ok (ob := []) (par := r) (o := paraOB qb s e) h hs rfl hI (by omega) ht (by simp; omega) hp hne (by omega) rfl hf1 hf2 hf3 (by exact hs1) fun w p' M' IM' TM' t nb q' c' x hp' hs' ht' hI' h => ?_
  refine hR w p' (D ++ [paraDB nb t s (s + ls.length - 1) (joinL [10] ls)]) x (by rw [hp']; rfl) (by rw [hp']) (by rw [hp']) (by rw [hp']; rfl) ⟨nb, t, s, _, rfl⟩ ?_
  refine ⟨{ r with q := q', n := r.n + 1, c := c' }, [], M', TM', IM', [], hr, hs', ?_, ?_, ⟨rfl, rfl⟩, ?_⟩
  · rw [txsC_snoc, List.map_append]; exact ht'
  · rw [List.map_append]; exact hI'
  · rw [ownC_snoc, txsC_snoc, List.map_append]
    have h : Sat σ w (p'.at b :: M' ++ (IM' ++ (TM' ++ (paraC nb s (s + ls.length - 1) t :: textC t s (s + ls.length - 1) none 0 0 (joinL [10] ls) :: (ownC D ++ ((txsC D).map TX.chunk ++ L)))))) := h
    show Sat σ w (p'.at b :: M' ++ (IM' ++ (TM' ++ ([] ++ ((ownC D ++ [paraC nb s (s + ls.length - 1) t]) ++ (((txsC D).map TX.chunk ++ [textC t s (s + ls.length - 1) none 0 0 (joinL [10] ls)]) ++ L))))))
    exact h.re (by intro _; simp only [List.append_eq, cnt_append, cnt_cons, cnt_nil] <;> omega)
theorem trimLeaf_ok {b rb : Nat} {p : PS} {D : List DB} {lf : Leaf} (h : DocS σ b rb L D lf p w) (hf : lf.fin) (hD : D.length < 100000) (hX : (txsC D).length < 100000)
    (hR : ∀ w p' D', p'.base = p.base → p'.depth = p.depth → p'.lineno = p.lineno → p'.stn = 1 → LeafClosed lf D D' → DocS σ b rb L D' .none p' w → R (.returned (.tuple #[])) w) :
    callE P i_parseState_trimStack #[.pointer (some ⟨b, 0, none⟩), .int .i64 1] R w := by
  cases lf with
  | other A => exact hf.elim
  | none =>
    obtain ⟨r, obs, M, TM, IM, LM, hr, hs, ht, hI, ⟨rfl, rfl⟩, h⟩ := h
    have hn := hs.2.1
    refine trimStack_noop h (by rw [hn]; rfl) fun w h => ?_
    exact hR w p D rfl rfl rfl hn rfl ⟨r, [], M, TM, IM, [], hr, hs, ht, hI, ⟨rfl, rfl⟩, h⟩
  | para ls =>
    have h0 := h
    obtain ⟨r, obs, M, TM, IM, LM, hr, hs, ht, hI, ⟨qb, s, e, rfl, hp, hs1, hne, hln⟩, h⟩ := h
    have hn : p.stn = 2 := hs.2.1
    refine g_parseState_trimStack.sound ?_
    refine nilP_some ?_
    refine ⟨_, _, _, h.ldA, ?_⟩
    rw [hn]
    refine br_false rfl ?_
    intro X hX'
    refine hX' _ _ _ (nilP_some ?_)
    refine ⟨_, _, _, h.ldA, ?_⟩
    rw [hn]
    refine br_true rfl ?_
    refine closeLeaf_ok h0 hf.toN hD hX fun w p' D' x h1 h2 h3 h4 h5 h => ⟨_, rfl, ?_⟩
    have h0 := h
    obtain ⟨r, obs, M, TM, IM, LM, hr, hs, ht, hI, hL, h⟩ := h
    refine hX' _ _ _ (nilP_some ?_)
    refine ⟨_, _, _, h.ldA, ?_⟩
    rw [h4]
    exact br_false rfl (hR w p' D' h1 h2 h3 h4 h5 h0)
theorem DocS.upd {b rb : Nat} {D : List DB} {lf : Leaf} {p p' : PS} {w' : World} (h : DocS σ b rb L D lf p w) (h1 : p'.stq = p.stq) (h2 : p'.stn = p.stn) (h3 : p'.stc = p.stc) (h4 : p'.tq = p.tq) (h5 : p'.tn = p.tn) (h6 : p'.tc = p.tc)
    (hw : ∀ K, Sat σ w (p.at b :: K) → Sat σ w' (p'.at b :: K)) : DocS σ b rb L D lf p' w' := by
  obtain ⟨r, obs, M, TM, IM, LM, hr, hs, ht, hI, hL, h⟩ := h
  exact ⟨r, obs, M, TM, IM, LM, hr, hs.of h1 h2 h3, ht.of h4 h5 h6, hI, hL, hw _ h⟩
theorem addLine_blank0 {b rb : Nat} {p : PS} {D : List DB} {l : Ln} (h : DocS σ b rb L D .none p w) (hl : l.ok) (hb : l.blank = true)
    (hR : ∀ w p', p'.base = p.base → p'.lineno = p.lineno → DocS σ b rb L D .none p' w → R (.returned (.tuple #[])) w) :
    callE P i_parseState_addLine #[.pointer (some ⟨b, 0, none⟩), l.val] R w := by
  obtain ⟨r, obs, M, TM, IM, LM, hr, hs, ht, hI, ⟨rfl, rfl⟩, h⟩ := h
  have hn : p.stn = 1 := hs.2.1
  refine g_parseState_addLine.sound ?_
  refine Sat.bx h fun b1 w h => ?_
  repeat (first | refine nilP_some ?_ | refine h.tk fun w h => ?_ | refine ⟨_, h.ldA, ?_⟩ | refine ⟨_, _, _, h.ldA, ?_⟩ | refine h.stA 0 fun w h => ?_ | refine h.stA 1 fun w h => ?_ | refine h.stA 2 fun w h => ?_ | refine h.stA 3 fun w h => ?_ | refine h.stA 4 fun w h => ?_ | refine h.stA 5 fun w h => ?_ | refine h.stA 6 fun w h => ?_ | refine h.bx fun b0 w h => ?_)
  let p1 : PS := { p with depth := 0 }
  have h : Sat σ _ (l.at b1 :: p1.at b :: (M ++ (IM ++ (TM ++ ([] ++ (ownC D ++ ((txsC D).map TX.chunk ++ L))))))) := h
  intro X hX
  refine hX _ _ _ ?_
  repeat (first | refine nilP_some ?_ | refine h.tk fun w h => ?_ | refine ⟨_, h.ldA, ?_⟩ | refine ⟨_, _, _, h.ldA, ?_⟩)
  rw [show p1.stn = 1 from hn]
  refine br_false rfl ?_
  refine isBlank_ok h (by first | assumption | (repeat (first | exact .head _ | apply List.Mem.tail))) hl fun w h => ⟨_, rfl, ?_⟩
  rw [hb]
  refine br_true rfl ?_
  repeat (first | refine nilP_some ?_ | refine h.tk fun w h => ?_ | refine ⟨_, h.ldA, ?_⟩ | refine ⟨_, _, _, h.ldA, ?_⟩)
  have h : Sat σ w (p1.at b :: (l.at b1 :: (M ++ (IM ++ (TM ++ ([] ++ (ownC D ++ ((txsC D).map TX.chunk ++ L)))))))) := h.re (by intro _; simp only [List.append_eq, cnt_append, cnt_cons, cnt_nil] <;> omega)
  refine trimStack_noop h (by rw [show p1.stn = 1 from hn]; rfl) fun w h => ⟨rfl, ?_⟩
  refine hR w p1 rfl rfl ⟨r, [], M, TM, IM, [], hr, hs.of rfl rfl rfl, ht.of rfl rfl rfl, hI, ⟨rfl, rfl⟩, ?_⟩
  exact h.less [l.at b1] (by intro _; simp only [List.append_eq, cnt_append, cnt_cons, cnt_nil] <;> omega)
theorem meth_paraExtend : methB P ty_P_paraBuilder "pub-paratext/pub/rscmarkdown.extend" i_paraBuilder_extend = true := by kernel_rfl
theorem paraExtend_ok {q1 q2 : Option Addr} {l : Ln} (h : Sat σ w L) (hR : ∀ w, Sat σ w L → R (.returned (.tuple #[l.val, .bool false])) w) : callE P i_paraBuilder_extend #[.pointer q1, .pointer q2, l.val] R w := by
  refine g_paraBuilder_extend.sound ?_
  refine Sat.bx h fun b1 w h => ?_
  refine Sat.bx h fun b3 w h => ?_
  repeat (first | refine nilP_some ?_ | refine h.tk fun w h => ?_ | refine ⟨_, h.ldA, ?_⟩ | refine ⟨_, _, _, h.ldA, ?_⟩ | refine h.stA 0 fun w h => ?_ | refine h.stA 1 fun w h => ?_ | refine h.stA 2 fun w h => ?_ | refine h.stA 3 fun w h => ?_ | refine h.stA 4 fun w h => ?_ | refine h.stA 5 fun w h => ?_ | refine h.stA 6 fun w h => ?_ | refine h.bx fun b0 w h => ?_)
  exact hR _ h.tail.tail
theorem lineFields : (P.fieldsOf ty_line).toList.map (fun f => (f.name == "_", f.type, f.offset)) = [(false, ty_int, 0), (false, ty_int, 1), (false, ty_int, 2), (false, ty_string, 3), (false, ty_uint8, 4)] := by kernel_rfl
theorem eqFields_run {xs ys : Array Value} : ∀ {fs : List Field} {gs : List (TypeId × Nat)}, fs.map (fun f => (f.name == "_", f.type, f.offset)) = gs.map (fun g => (false, g.1, g.2)) →
    (∀ g ∈ gs, ∃ v, (part g.1 xs g.2).run P w = .ok v w ∧ (part g.1 ys g.2).run P w = .ok v w ∧ (Op.equalIn 9999 g.1 v v).run P w = .ok true w) → (Op.eqFields 9999 xs ys fs).run P w = .ok true w
  | [], [], _, _ => rfl
  | [], g :: gs, h, _ => by simp at h
  | f :: fs, [], h, _ => by simp at h
  | f :: fs, g :: gs, h, hg => by
    simp only [List.map_cons, List.cons.injEq, Prod.mk.injEq] at h
    obtain ⟨⟨h1, h2, h3⟩, h4⟩ := h
    obtain ⟨v, e1, e2, e3⟩ := hg g (List.mem_cons_self ..)
    have ih := eqFields_run h4 (fun g' hg' => hg g' (List.mem_cons_of_mem _ hg'))
    have hn : f.name ≠ "_" := by simpa using h1
    rw [← h2, ← h3] at e1 e2
    rw [← h2] at e3
    simp only [Op.eqFields, ne_eq, hn, not_false_eq_true, if_true, Sem.run_bind, e1, e2, e3, Result.andThen_ok, Bool.not_true, Bool.false_eq_true, if_false]
    exact ih
theorem und_int : P.underlying ty_int = some (.int .i64) := by kernel_rfl
theorem und_u8 : P.underlying ty_uint8 = some (.int .u8) := by kernel_rfl
theorem und_str : P.underlying ty_string = some .string := by kernel_rfl
theorem part_line {t : TypeId} {d : TypeDesc} (hd : P.underlying t = some d) (h1 : ∀ f, d ≠ .struct f) (h2 : ∀ n e, d ≠ .array n e) {cs : Array Value} {k : Nat} {v : Value} (hv : cs[k]? = some v) (w : World) : (part t cs k).run P w = .ok v w := by
  cases d <;> first | exact absurd rfl (h1 _) | exact absurd rfl (h2 _ _) | simp [part, isAgg, run_underlying hd, hv]
theorem fld_int {t : TypeId} {k : IntKind} (hu : P.underlying t = some (.int k)) {cs : Array Value} {i : Nat} {a : Int} (hv : cs[i]? = some (.int k a)) : ∃ v, (part t cs i).run P w = .ok v w ∧ (part t cs i).run P w = .ok v w ∧ (Op.equalIn 9999 t v v).run P w = .ok true w := by
  have hp := part_line hu (fun _ h => by cases h) (fun _ _ h => by cases h) hv w
  exact ⟨_, hp, hp, by rw [run_equalIn_int w 9998 t k k a a hu, beq_self_eq_true]⟩
theorem fld_str {cs : Array Value} {i : Nat} {a : ByteArray} (hv : cs[i]? = some (.string a)) : ∃ v, (part ty_string cs i).run P w = .ok v w ∧ (part ty_string cs i).run P w = .ok v w ∧ (Op.equalIn 9999 ty_string v v).run P w = .ok true w := by
  have hp := part_line und_str (fun _ h => by cases h) (fun _ _ h => by cases h) hv w
  exact ⟨_, hp, hp, by rw [run_equalIn_string w 9998 ty_string a a und_str, beq_self_eq_true]⟩
theorem neq_line (l : Ln) (x y : Operand) (w : World) : (do eqGuard .neq ty_line x y l.val l.val; binOp .neq ty_line l.val l.val).run P w = .ok (.bool false) w := by
  have hg : (eqGuard .neq ty_line x y l.val l.val).run P w = .ok () w := run_eqGuard_agg w .neq ty_line x y _ _ (by kernel_rfl)
  have hb := run_neq_struct (P := P) w ty_line #[.int .i64 l.sp, .int .i64 l.i, .int .i64 l.tab, .string (bs l.text), .int .u8 l.nl.toNat] #[.int .i64 l.sp, .int .i64 l.i, .int .i64 l.tab, .string (bs l.text), .int .u8 l.nl.toNat]
  have he : (Op.equalIn 10000 ty_line (.agg #[.int .i64 l.sp, .int .i64 l.i, .int .i64 l.tab, .string (bs l.text), .int .u8 l.nl.toNat]) (.agg #[.int .i64 l.sp, .int .i64 l.i, .int .i64 l.tab, .string (bs l.text), .int .u8 l.nl.toNat])).run P w = .ok true w := by
    rw [run_equalIn_struct w 9999 ty_line _ _ (by kernel_rfl) (by kernel_rfl)]
    refine eqFields_run (gs := [(ty_int, 0), (ty_int, 1), (ty_int, 2), (ty_string, 3), (ty_uint8, 4)]) lineFields ?_
    intro g hg
    simp only [List.mem_cons, List.mem_nil_iff, or_false] at hg
    rcases hg with rfl | rfl | rfl | rfl | rfl
    · exact fld_int und_int rfl
    · exact fld_int und_int rfl
    · exact fld_int und_int rfl
    · exact fld_str rfl
    · exact fld_int und_u8 rfl
  rw [Sem.run_bind, hg, Result.andThen_ok]
  refine hb.trans ?_
  rw [he]; rfl
theorem addLine_open {b rb : Nat} {p : PS} {D : List DB} {ls : List (List UInt8)} {l : Ln} (h : DocS σ b rb L D (.para ls) p w) (hl : l.ok)
    (hR : ∀ w b1 b2 p', p' = { p with depth := 0 } → DocS σ b rb (l.at b1 :: l.at b2 :: L) D (.para ls) p' w → g_parseState_addLine.k2 R (some ⟨b, 0, none⟩) b1 w) :
    callE P i_parseState_addLine #[.pointer (some ⟨b, 0, none⟩), l.val] R w := by
  obtain ⟨r, obs, M, TM, IM, LM, hr, hs, ht, hI, ⟨qb, s, e, rfl, hp, hs1, hne, hln⟩, h⟩ := h
  have hn : p.stn = 2 := hs.2.1
  refine g_parseState_addLine.sound ?_
  refine Sat.bx h fun b1 w h => ?_
  repeat (first | refine nilP_some ?_ | refine h.tk fun w h => ?_ | refine ⟨_, h.ldA, ?_⟩ | refine ⟨_, _, _, h.ldA, ?_⟩ | refine h.stA 0 fun w h => ?_ | refine h.stA 1 fun w h => ?_ | refine h.stA 2 fun w h => ?_ | refine h.stA 3 fun w h => ?_ | refine h.stA 4 fun w h => ?_ | refine h.stA 5 fun w h => ?_ | refine h.stA 6 fun w h => ?_ | refine h.bx fun b0 w h => ?_)
  let p1 : PS := { p with depth := 0 }
  have h : Sat σ _ (l.at b1 :: p1.at b :: (M ++ (IM ++ (TM ++ (LM ++ (ownC D ++ ((txsC D).map TX.chunk ++ L))))))) := h
  intro X hX
  refine hX _ _ _ ?_
  repeat (first | refine nilP_some ?_ | refine h.tk fun w h => ?_ | refine ⟨_, h.ldA, ?_⟩ | refine ⟨_, _, _, h.ldA, ?_⟩)
  rw [show p1.stn = 2 from hn]
  refine br_true rfl ?_
  repeat (first | refine nilP_some ?_ | refine h.tk fun w h => ?_ | refine ⟨_, h.ldA, ?_⟩ | refine ⟨_, _, _, h.ldA, ?_⟩ | refine h.stA 0 fun w h => ?_ | refine h.stA 1 fun w h => ?_ | refine h.stA 2 fun w h => ?_ | refine h.stA 3 fun w h => ?_ | refine h.stA 4 fun w h => ?_ | refine h.stA 5 fun w h => ?_ | refine h.stA 6 fun w h => ?_ | refine h.bx fun b0 w h => ?_)
  have h : Sat σ _ (l.at b0 :: l.at b1 :: p1.at b :: (M ++ (IM ++ (TM ++ (LM ++ (ownC D ++ ((txsC D).map TX.chunk ++ L))))))) := h
  obtain ⟨sb, sp, hq, hM, hsp⟩ := hs.split (by simp)
  rw [show p1.stn = 2 from hn, show p1.stq = some ⟨sb, 0, none⟩ from hq]
  rw [show IntKind.i64.wrap (p1.depth + 1) = 1 from rfl]
  refine ⟨by decide, by decide, nilP_some ?_⟩
  simp only [Addr.add_lit, Nat.zero_add]
  have hmem : (sb, cel (obCells [r, paraOB qb s e] ++ sp) ty_openBlock) ∈ (l.at b0 :: l.at b1 :: p1.at b :: (M ++ (IM ++ (TM ++ (LM ++ (ownC D ++ ((txsC D).map TX.chunk ++ L))))))) := by rw [hM]; simp
  refine ⟨_, Sat.ld h hmem (stk_get (j := 1) (f := 0) (by decide) rfl), ?_⟩
  refine ⟨_, h.ldA, ?_⟩
  refine ⟨_, h.ldA, ?_⟩
  refine ⟨_, h.ldA, ?_⟩
  refine ⟨_, h.ldA, ?_⟩
  refine ⟨_, h.ldA, ?_⟩
  refine enter_meth meth_paraExtend ?_
  refine paraExtend_ok h fun w h => ⟨_, _, _, _, _, _, rfl, ?_⟩
  refine h.stA 1 fun w h => ?_
  refine h.stA 1 fun w h => ?_
  refine h.stA 1 fun w h => ?_
  refine h.stA 1 fun w h => ?_
  refine h.stA 1 fun w h => ?_
  have h : Sat σ w (l.at b0 :: l.at b1 :: p1.at b :: (M ++ (IM ++ (TM ++ (LM ++ (ownC D ++ ((txsC D).map TX.chunk ++ L))))))) := h
  refine isBlank_ok h (by first | assumption | (repeat (first | exact .head _ | apply List.Mem.tail))) hl fun w h => ⟨_, rfl, ?_⟩
  have fin : g_parseState_addLine.k1 R X (some ⟨b, 0, none⟩) b1 false false w := by
    refine br_false rfl (br_true rfl ?_)
    exact hR w b1 b0 p1 rfl ⟨r, _, M, TM, IM, LM, hr, hs.of rfl rfl rfl, ht.of rfl rfl rfl, hI, ⟨qb, s, e, rfl, hp, hs1, hne, hln⟩, h.re (by intro _; simp only [List.append_eq, cnt_append, cnt_cons, cnt_nil] <;> omega)⟩
  refine br_split (fun _ => br_false rfl ?_) (fun _ => fin)
  refine ⟨_, h.ldA, ?_⟩
  refine ⟨_, h.ldA, ?_⟩
  refine ⟨_, h.ldA, ?_⟩
  refine ⟨_, h.ldA, ?_⟩
  refine ⟨_, h.ldA, ?_⟩
  refine ⟨_, h.ldA, ?_⟩
  refine ⟨_, h.ldA, ?_⟩
  refine ⟨_, h.ldA, ?_⟩
  refine ⟨_, h.ldA, ?_⟩
  refine ⟨_, h.ldA, ?_⟩
  exact ⟨_, _, neq_line l _ _ w, fin⟩
theorem addLine_blankP {b rb : Nat} {p : PS} {D : List DB} {ls : List (List UInt8)} {l : Ln} (h : DocS σ b rb L D (.para ls) p w) (hl : l.ok) (hb : l.blank = true) (hf : Leaf.fin (.para ls)) (hD : D.length < 100000) (hX : (txsC D).length < 100000)
    (hR : ∀ w p' D', p'.base = p.base → p'.lineno = p.lineno → LeafClosed (.para ls) D D' → DocS σ b rb L D' .none p' w → R (.returned (.tuple #[])) w) :
    callE P i_parseState_addLine #[.pointer (some ⟨b, 0, none⟩), l.val] R w := by
  refine addLine_open h hl fun w b1 b2 p1 hp1 h => ?_
  unfold g_parseState_addLine.k2
  obtain ⟨r, obs, M, TM, IM, LM, hr, hs, ht, hI, hL, h⟩ := h
  refine isBlank_ok h (by simp) hl fun w h => ⟨_, rfl, ?_⟩
  rw [hb]
  refine br_true rfl (nilP_some ?_)
  refine ⟨_, h.ldA, ?_⟩
  rw [show p1.depth = 0 by rw [hp1], show IntKind.i64.wrap (0 + 1) = 1 from rfl]
  have hh : DocS σ b rb (l.at b1 :: l.at b2 :: L) D (.para ls) p1 w := ⟨r, obs, M, TM, IM, LM, hr, hs, ht, hI, hL, h⟩
  refine trimLeaf_ok hh hf hD hX fun w p' D' h1 h2 h3 h4 h5 h => ⟨rfl, ?_⟩
  · refine hR w p' D' (by rw [h1, hp1]; rfl) (by rw [h3, hp1]) h5 ?_
    obtain ⟨r, obs, M, TM, IM, LM, hr, hs, ht, hI, hL, h⟩ := h
    exact ⟨r, obs, M, TM, IM, LM, hr, hs, ht, hI, hL, h.less [l.at b1, l.at b2] (by intro _; simp only [List.append_eq, cnt_append, cnt_cons, cnt_nil] <;> omega)⟩
end Go.Proofs.YtgbgadkldalkbaaGreatDoor


set_option linter.unusedVariables false
namespace Go.Proofs.YtgbgadkldalkbaaGreatDoor
open Go.Proofs Go.IntWalk Go.RowKit
variable {σ : Out} {w : World} {L L' : List Chunk} {R : Ending → World → Prop}
theorem news_rounds {Xb : OA → Nat → WP} {Y : OA → Nat → OA → Nat → Nat → Int → Int → WP} {b b1 nb : Nat} {e : TypeId} {p : PS} {M : List Chunk} {l : Ln}
    (hY : ∀ x0 x3 x86q x86n x86c x87 x88 w, g_parseState_addLine.bl2 R Xb Y x0 x3 x86q x86n x86c x87 x88 w → Y x0 x3 x86q x86n x86c x87 x88 w) (i : Nat) :
    ∀ (k : Nat) w, i ≤ 8 → k ≤ i → (∀ j (hj : j < newsF.length), k ≤ j → j < i → Decl b p M l newsF[j]) → Sat σ w (p.at b :: M ++ (l.at b1 :: (nb, cel newsC e) :: L)) →
      (∀ w, Sat σ w (p.at b :: M ++ (l.at b1 :: (nb, cel newsC e) :: L)) → Y (some ⟨b, 0, none⟩) b1 (some ⟨nb, 0, none⟩) 8 8 8 (i : Nat) w) → Y (some ⟨b, 0, none⟩) b1 (some ⟨nb, 0, none⟩) 8 8 8 (k : Nat) w := by
  intro k
  generalize hm : i - k = m
  induction m generalizing k with
  | zero =>
    intro w hi hk hd h hE
    obtain rfl : k = i := by omega
    exact hE w h
  | succ m ih =>
    intro w hi hk hd h hE
    refine hY _ _ _ _ _ _ _ _ (br_true (by simp; omega) ⟨by omega, by omega, ?_⟩)
    have hl : k < newsF.length := by show k < 8; omega
    have hf := List.getElem?_eq_getElem hl
    refine nilP_some ?_
    simp only [Addr.add_lit, Nat.zero_add, Int.toNat_natCast, Nat.mul_one]
    have h : Sat σ w (l.at b1 :: (nb, cel newsC e) :: (p.at b :: (M ++ L))) := h.re (by intro _; simp only [List.append_eq, cnt_append, cnt_cons, cnt_nil] <;> omega)
    refine ⟨_, Sat.ld h (.tail _ (.head _)) (newsC_get hf), ?_⟩
    refine ⟨_, Sat.ld h (.head _) rfl, _, Sat.ld h (.head _) rfl, _, Sat.ld h (.head _) rfl, _, Sat.ld h (.head _) rfl, _, Sat.ld h (.head _) rfl, ?_⟩
    have h : Sat σ w (p.at b :: M ++ (l.at b1 :: (nb, cel newsC e) :: L)) := h.re (by intro _; simp only [List.append_eq, cnt_append, cnt_cons, cnt_nil] <;> omega)
    refine enter_fn ?_
    refine hd k hl (Nat.le_refl _) (by omega) σ w _ _ h fun w h => ⟨_, _, _, _, _, _, rfl, ?_⟩
    repeat (first | refine nilP_some ?_ | refine h.tk fun w h => ?_ | refine ⟨_, h.ldA, ?_⟩ | refine ⟨_, _, _, h.ldA, ?_⟩ | refine h.stA 0 fun w h => ?_ | refine h.stA 1 fun w h => ?_ | refine h.stA 2 fun w h => ?_ | refine h.stA 3 fun w h => ?_ | refine h.stA 4 fun w h => ?_ | refine h.stA 5 fun w h => ?_ | refine h.stA 6 fun w h => ?_ | refine h.bx fun b0 w h => ?_)
    rw [i64_inc (by omega)]
    have h : Sat σ _ (l.at b0 :: (p.at b :: M ++ (l.at b1 :: (nb, cel newsC e) :: L))) := h
    exact ih (k + 1) (by omega) _ hi (by omega) (fun j hj h1 h2 => hd j hj (by omega) h2) h.tail hE
theorem bl102_decl {Xb : OA → Nat → WP} {b b1 : Nat} {p : PS} {M : List Chunk} {l : Ln} (h : Sat σ w (p.at b :: M ++ (l.at b1 :: L))) (hd : ∀ f ∈ newsF, Decl b p M l f)
    (hP : ∀ w nb e (R' : Ending → World → Prop), Sat σ w (p.at b :: M ++ (l.at b1 :: (nb, cel newsC e) :: L)) → (∀ w k, R (.returned (.tuple #[])) w → R' (.returned (.tuple #[Ln.zero.val, .bool k])) w) → callE P i_newPara #[.pointer (some ⟨b, 0, none⟩), l.val] R' w) :
    g_parseState_addLine.bl102 R Xb (some ⟨b, 0, none⟩) b1 w := by
  refine news_ok h fun w nb e h => ⟨_, _, _, rfl, ?_⟩
  intro Y hY
  have h : Sat σ w (p.at b :: M ++ (l.at b1 :: (nb, cel newsC e) :: L)) := h.re (by intro _; simp only [List.append_eq, cnt_append, cnt_cons, cnt_nil] <;> omega)
  refine news_rounds hY 8 0 w (by omega) (by omega) (fun j hj _ _ => hd _ (List.getElem_mem hj)) h fun w h => ?_
  refine hY _ _ _ _ _ _ _ _ (br_false (by simp) ?_)
  have hm : l.at b1 ∈ p.at b :: M ++ (l.at b1 :: (nb, cel newsC e) :: L) := by simp
  refine ⟨_, Sat.ld h hm (i := 0) rfl, _, Sat.ld h hm (i := 1) rfl, _, Sat.ld h hm (i := 2) rfl, _, Sat.ld h hm (i := 3) rfl, _, Sat.ld h hm (i := 4) rfl, ?_⟩
  exact hP w nb e _ h fun w k hR => ⟨_, _, _, _, _, _, rfl, hR⟩
theorem bl102_take {Xb : OA → Nat → WP} {b b1 : Nat} {p : PS} {M : List Chunk} {l : Ln} (i : Nat) (hi : i < newsF.length) (h : Sat σ w (p.at b :: M ++ (l.at b1 :: L))) (hd : ∀ j (hj : j < newsF.length), j < i → Decl b p M l newsF[j])
    (hP : ∀ w nb e (R' : Ending → World → Prop), Sat σ w (p.at b :: M ++ (l.at b1 :: (nb, cel newsC e) :: L)) →
      (∀ w L2, Sat σ w (l.at b1 :: L2) → (∀ w, Sat σ w L2 → R (.returned (.tuple #[])) w) → R' (.returned (.tuple #[Ln.zero.val, .bool true])) w) → callE P newsF[i] #[.pointer (some ⟨b, 0, none⟩), l.val] R' w) :
    g_parseState_addLine.bl102 R Xb (some ⟨b, 0, none⟩) b1 w := by
  have hi8 : i < 8 := hi
  refine news_ok h fun w nb e h => ⟨_, _, _, rfl, ?_⟩
  intro Y hY
  have h : Sat σ w (p.at b :: M ++ (l.at b1 :: (nb, cel newsC e) :: L)) := h.re (by intro _; simp only [List.append_eq, cnt_append, cnt_cons, cnt_nil] <;> omega)
  refine news_rounds hY i 0 w (by omega) (by omega) (fun j hj _ h2 => hd j hj h2) h fun w h => ?_
  refine hY _ _ _ _ _ _ _ _ (br_true (by simp; omega) ⟨by omega, by omega, ?_⟩)
  have hf := List.getElem?_eq_getElem hi
  refine nilP_some ?_
  simp only [Addr.add_lit, Nat.zero_add, Int.toNat_natCast, Nat.mul_one]
  have h : Sat σ w (l.at b1 :: (nb, cel newsC e) :: (p.at b :: (M ++ L))) := h.re (by intro _; simp only [List.append_eq, cnt_append, cnt_cons, cnt_nil] <;> omega)
  refine ⟨_, Sat.ld h (.tail _ (.head _)) (newsC_get hf), ?_⟩
  refine ⟨_, Sat.ld h (.head _) rfl, _, Sat.ld h (.head _) rfl, _, Sat.ld h (.head _) rfl, _, Sat.ld h (.head _) rfl, _, Sat.ld h (.head _) rfl, ?_⟩
  have h : Sat σ w (p.at b :: M ++ (l.at b1 :: (nb, cel newsC e) :: L)) := h.re (by intro _; simp only [List.append_eq, cnt_append, cnt_cons, cnt_nil] <;> omega)
  refine enter_fn ?_
  refine hP w nb e _ h fun w L2 h hR => ⟨_, _, _, _, _, _, rfl, ?_⟩
  refine Sat.bx h fun b85 w h => ?_
  refine h.stA 0 fun w h => ?_
  refine h.stA 0 fun w h => ?_
  refine h.stA 0 fun w h => ?_
  refine h.stA 0 fun w h => ?_
  refine h.stA 0 fun w h => ?_
  have h : Sat σ w (Ln.zero.at b85 :: l.at b1 :: L2) := h
  refine br_true rfl ?_
  refine ⟨_, h.ldA, ?_⟩
  refine ⟨_, h.ldA, ?_⟩
  refine ⟨_, h.ldA, ?_⟩
  refine ⟨_, h.ldA, ?_⟩
  refine ⟨_, h.ldA, ?_⟩
  refine h.stA 1 fun w h => ?_
  refine h.stA 1 fun w h => ?_
  refine h.stA 1 fun w h => ?_
  refine h.stA 1 fun w h => ?_
  refine h.stA 1 fun w h => ?_
  have h : Sat σ w (Ln.zero.at b85 :: Ln.zero.at b1 :: L2) := h
  refine isBlank_ok (l := Ln.zero) h (.tail _ (.head _)) ⟨by decide, by decide, by decide, by decide⟩ fun w h => ⟨_, rfl, ?_⟩
  exact br_true rfl (hR _ h.tail.tail)
def Ln.rest (l : Ln) : List UInt8 := (l.text.drop l.i).dropWhile isST
theorem addLine_plain0 {b rb pb : Nat} {op : Opt} {p : PS} {D : List DB} {l : Ln} (h : DocS σ b rb L D .none p w) (hpz : p.pz = some ⟨pb, 0, none⟩) (hop : op.at pb ∈ L) (hl : l.plain) (hno : p.lineno < 1000000000)
    (hR : ∀ w p', p'.base = p.base → p'.lineno = p.lineno → DocS σ b rb L D (.para [l.rest]) p' w → R (.returned (.tuple #[])) w) :
    callE P i_parseState_addLine #[.pointer (some ⟨b, 0, none⟩), l.val] R w := by
  obtain ⟨r, obs, M, TM, IM, LM, hr, hs, ht, hI, ⟨rfl, rfl⟩, h⟩ := h
  have hm : op.at pb ∈ IM ++ (TM ++ ([] ++ (ownC D ++ ((txsC D).map TX.chunk ++ L)))) := by
    simp only [List.mem_append]; exact .inr (.inr (.inr (.inr (.inr hop))))
  refine addLine_para (op := op) h hs hpz hm hr (by decide) (by decide) hl fun w p' M' qb PM hp' hs' hPM h => ?_
  have e1 : p'.base = p.base := by rw [hp']; rfl
  have e2 : p'.lineno = p.lineno := by rw [hp']
  have e3 : p'.tq = p.tq := by rw [hp']
  have e4 : p'.tn = p.tn := by rw [hp']
  have e5 : p'.tc = p.tc := by rw [hp']
  have h : Sat σ w (p'.at b :: M' ++ (IM ++ (TM ++ (PM ++ (ownC D ++ ((txsC D).map TX.chunk ++ L)))))) := h.re (by intro _; simp only [List.append_eq, cnt_append, cnt_cons, cnt_nil] <;> omega)
  exact hR w p' e1 e2 ⟨r, _, M', TM, IM, PM, hr, hs', ht.of e3 e4 e5, hI, ⟨qb, p.lineno, p.lineno, rfl, hPM, hno, by simp, by simp⟩, h⟩
theorem trimSetext_no {b nb : Nat} {l : Ln} {v : Int} {e : TypeId} (h : Sat σ w (l.at b :: (nb, cel [.int .i64 v] e) :: L)) (hl : l.ok) (h1 : (l.lead 3 false).peek ≠ 45) (h2 : (l.lead 3 false).peek ≠ 61)
    (hR : ∀ w, Sat σ w (l.at b :: (nb, cel [.int .i64 v] e) :: L) → R (.returned (.bool false)) w) : callE P i_line_trimSetext #[.pointer (some ⟨b, 0, none⟩), .pointer (some ⟨nb, 0, none⟩)] R w := by
  refine g_line_trimSetext.sound ?_
  repeat (first | refine nilP_some ?_ | refine h.tk fun w h => ?_ | refine ⟨_, h.ldA, ?_⟩ | refine ⟨_, _, _, h.ldA, ?_⟩ | refine h.stA 0 fun w h => ?_ | refine h.stA 1 fun w h => ?_ | refine h.stA 2 fun w h => ?_ | refine h.stA 3 fun w h => ?_ | refine h.stA 4 fun w h => ?_ | refine h.stA 5 fun w h => ?_ | refine h.stA 6 fun w h => ?_ | refine h.bx fun b0 w h => ?_)
  have h : Sat σ _ (l.at b0 :: l.at b :: (nb, cel [.int .i64 v] e) :: L) := h
  refine lead_ok (max := 3) h hl (by decide) fun w h => ⟨_, rfl, ?_⟩
  refine peek_ok h (by first | assumption | (repeat (first | exact .head _ | apply List.Mem.tail))) (Ln.lead_ok hl) fun w h => ⟨_, rfl, ?_⟩
  rw [u8b _ 45 45 rfl, u8b _ 61 61 rfl]
  exact br_false (by simp [h1, h2]) (hR _ h.tail)
theorem eq_iface_same {t u e : TypeId} {i j : TypeInfo} {ms : Array (String × TypeId)} (hu : P.underlying t = some (.interface ms)) (hi : P.info? u = some i) (hc : i.comparable = true) (hp : P.underlying u = some (.pointer e)) (hj : P.info? e = some j) (hs : j.size ≠ 0) (b : Nat) (x y : Operand) (w : World) :
    (do eqGuard .eql t x y (.iface u (.pointer (some ⟨b, 0, none⟩))) (.iface u (.pointer (some ⟨b, 0, none⟩))); binOp .eql t (.iface u (.pointer (some ⟨b, 0, none⟩))) (.iface u (.pointer (some ⟨b, 0, none⟩)))).run P w = .ok (.bool true) w := by
  refine bin_eq rfl rfl ?_
  have h2 : ∀ d, (Op.equalIn (d + 1) u (.pointer (some ⟨b, 0, none⟩)) (.pointer (some ⟨b, 0, none⟩))).run P w = .ok true w := fun d => by
    simp [Op.equalIn, run_underlying hp, sizeOf, typeInfo, hj, hs, sameAddr]
  have h1 : ∀ d, (Op.equalIn (d + 2) t (.iface u (.pointer (some ⟨b, 0, none⟩))) (.iface u (.pointer (some ⟨b, 0, none⟩)))).run P w = .ok true w := fun d => by
    rw [Op.equalIn]
    simp [run_underlying hu, typeInfo, hi, hc, h2]
  exact h1 9998
theorem eq_para_same (b : Nat) (x y : Operand) (w : World) :
    (do eqGuard .eql ty_blockBuilder x y (.iface ty_P_paraBuilder (.pointer (some ⟨b, 0, none⟩))) (.iface ty_P_paraBuilder (.pointer (some ⟨b, 0, none⟩))); binOp .eql ty_blockBuilder (.iface ty_P_paraBuilder (.pointer (some ⟨b, 0, none⟩))) (.iface ty_P_paraBuilder (.pointer (some ⟨b, 0, none⟩)))).run P w = .ok (.bool true) w :=
  eq_iface_same und_bb (i := (P.info? ty_P_paraBuilder).getD default) (j := (P.info? ty_paraBuilder).getD default) (by kernel_rfl) (by kernel_rfl) und_para (by kernel_rfl) (by rw [show ((P.info? ty_paraBuilder).getD default).size = 2 by kernel_rfl]; decide) b x y w
structure Ln.cont (l : Ln) : Prop where
  plain : l.plain
  lt : (l.lead 3 false).peek ≠ 60
  dash : (l.lead 3 false).peek ≠ 45
  eq : (l.lead 3 false).peek ≠ 61
end Go.Proofs.YtgbgadkldalkbaaGreatDoor


set_option linter.unusedVariables false
namespace Go.Proofs.YtgbgadkldalkbaaGreatDoor
open Go.Proofs Go.IntWalk Go.RowKit
variable {σ : Out} {w : World} {L L' : List Chunk} {R : Ending → World → Prop}
theorem newPara_cont {b pb qb s e : Nat} {op : Opt} {p : PS} {r : OB} {M PM : List Chunk} {ls : List (List UInt8)} {l : Ln} (h : Sat σ w (p.at b :: M ++ (PM ++ L))) (hs : Stk p [r, paraOB qb s e] M) (hd : p.depth = 0) (hpz : p.pz = some ⟨pb, 0, none⟩) (hop : op.at pb ∈ L) (hno : op.table = false)
    (hp : ParaAt qb ls PM) (hls : ls.length < 1048570) (hl : l.ok)
    (hR : ∀ w r' e' M' PM', r'.bd = r.bd → r'.q = r.q → r'.n = r.n → r'.c = r.c → Stk p [r', paraOB qb s e'] M' → ParaAt qb (ls ++ [l.rest]) PM' → Sat σ w (p.at b :: M' ++ (PM' ++ L)) → R (.returned (.tuple #[Ln.zero.val, .bool true])) w) :
    callE P i_newPara #[.pointer (some ⟨b, 0, none⟩), l.val] R w := by
  have hn : p.stn = 2 := hs.2.1
  obtain ⟨sb, sp, hq, rfl, hsp⟩ := hs.split (by simp)
  have hp0 := hp
  obtain ⟨q, c, TM, hS, rfl⟩ := hp
  refine g_newPara.sound ?_
  refine Sat.bx h fun b1 w h => ?_
  refine Sat.bx h fun b3 w h => ?_
  have h : Sat σ w (zLn b3 :: l.at b1 :: (p.at b :: [(sb, cel (obCells [r, paraOB qb s e] ++ sp) ty_openBlock)] ++ (((qb, cel [.slice q ls.length c, .pointer none] ty_paraBuilder) :: TM) ++ L))) := h
  have h : Sat σ w (p.at b :: [(sb, cel (obCells [r, paraOB qb s e] ++ sp) ty_openBlock)] ++ (zLn b3 :: l.at b1 :: (((qb, cel [.slice q ls.length c, .pointer none] ty_paraBuilder) :: TM) ++ L))) := h.re (by intro _; simp only [List.append_eq, cnt_append, cnt_cons, cnt_nil] <;> omega)
  refine top_ok (l := [r]) h hs (o := paraOB qb s e) rfl (fun w h => ?_) (fun _ => ⟨_, rfl⟩)
  rw [if_pos rfl]
  refine ⟨_, rfl, ?_⟩
  repeat (first | refine nilP_some ?_ | refine h.tk fun w h => ?_ | refine ⟨_, h.ldA, ?_⟩ | refine ⟨_, _, _, h.ldA, ?_⟩)
  have hm : l.at b1 ∈ p.at b :: [(sb, cel (obCells [r, paraOB qb s e] ++ sp) ty_openBlock)] ++ (zLn b3 :: l.at b1 :: (((qb, cel [.slice q ls.length c, .pointer none] ty_paraBuilder) :: TM) ++ L)) := by simp
  refine trimSpaceString_ok h hm hl fun w h => ⟨_, rfl, ?_⟩
  rw [show (l.text.drop l.i).dropWhile isST = l.rest from rfl]
  refine ⟨_, w, ne_ptr_nil und_para _ _ _ w, br_true rfl (nilP_some ?_)⟩
  simp only [Addr.add_lit, Nat.zero_add]
  have hmq : (qb, cel [.slice q ls.length c, .pointer none] ty_paraBuilder) ∈ p.at b :: [(sb, cel (obCells [r, paraOB qb s e] ++ sp) ty_openBlock)] ++ (zLn b3 :: l.at b1 :: (((qb, cel [.slice q ls.length c, .pointer none] ty_paraBuilder) :: TM) ++ L)) := by simp
  refine ⟨_, Sat.ld h hmq rfl, _, w, ne_ptr_nil und_table _ _ _ w, br_false rfl ?_⟩
  unfold g_newPara.k3
  refine Sat.tk h fun w h => ?_
  refine nilP_some ⟨_, Sat.ld h (.head _) rfl, ?_⟩
  rw [hpz]
  refine nilP_some ?_
  simp only [Addr.add_lit, Nat.zero_add]
  have hmo : op.at pb ∈ p.at b :: [(sb, cel (obCells [r, paraOB qb s e] ++ sp) ty_openBlock)] ++ (zLn b3 :: l.at b1 :: (((qb, cel [.slice q ls.length c, .pointer none] ty_paraBuilder) :: TM) ++ L)) := by simp [hop]
  refine ⟨op.table, Sat.ld h hmo rfl, br_false hno ?_⟩
  unfold g_newPara.k4
  refine br_false rfl ⟨_, w, ne_ptr_nil und_para _ _ _ w, br_true rfl (nilP_some ?_)⟩
  simp only [Addr.add_lit, Nat.zero_add]
  refine ⟨_, Sat.ld h (.head _) rfl, ?_⟩
  rw [hd]
  intro X hX
  have h : Sat σ w (p.at b :: (sb, cel (obCells [r, paraOB qb s e] ++ sp) ty_openBlock) :: (zLn b3 :: l.at b1 :: (((qb, cel [.slice q ls.length c, .pointer none] ty_paraBuilder) :: TM) ++ L))) := h
  have hlen : ∀ o o' : OB, (obCells [o, o'] ++ sp).length = 8 + sp.length := by intro o o'; rw [List.length_append, obCells_length]; rfl
  refine hX _ _ _ _ _ _ (nilP_some ?_)
  refine ⟨_, _, _, h.ldA, ?_⟩
  rw [hn]
  refine br_true rfl ?_
  refine h.tk fun w h => ?_
  refine nilP_some (nilP_some ?_)
  refine ⟨_, _, _, h.ldA, ?_⟩
  refine ⟨_, h.ldA, ?_⟩
  rw [hn, hq]
  refine ⟨by decide, by decide, nilP_some ?_⟩
  simp only [Addr.add_lit, Nat.zero_add]
  refine Sat.st h (k := 1) rfl (by rw [hlen]; show 3 < _; omega) trivial rfl fun w h => ?_
  have h : Sat σ w (p.at b :: (sb, cel (obCells [{ r with e := p.lineno }, paraOB qb s e] ++ sp) ty_openBlock) :: (zLn b3 :: l.at b1 :: (((qb, cel [.slice q ls.length c, .pointer none] ty_paraBuilder) :: TM) ++ L))) := h
  refine hX _ _ _ _ _ _ (nilP_some ?_)
  refine ⟨_, _, _, h.ldA, ?_⟩
  rw [hn, show IntKind.i64.wrap (0 + 1) = 1 from rfl]
  refine br_true rfl ?_
  refine h.tk fun w h => ?_
  refine nilP_some (nilP_some ?_)
  refine ⟨_, _, _, h.ldA, ?_⟩
  refine ⟨_, h.ldA, ?_⟩
  rw [hn, hq]
  refine ⟨by decide, by decide, nilP_some ?_⟩
  simp only [Addr.add_lit, Nat.zero_add]
  refine Sat.st h (k := 1) rfl (by rw [hlen]; show 7 < _; omega) trivial rfl fun w h => ?_
  have h : Sat σ w (p.at b :: (sb, cel (obCells [{ r with e := p.lineno }, paraOB qb s p.lineno] ++ sp) ty_openBlock) :: (zLn b3 :: l.at b1 :: (((qb, cel [.slice q ls.length c, .pointer none] ty_paraBuilder) :: TM) ++ L))) := h
  refine hX _ _ _ _ _ _ (nilP_some ?_)
  refine ⟨_, _, _, h.ldA, ?_⟩
  rw [hn, show IntKind.i64.wrap (1 + 1) = 2 from rfl]
  refine br_false rfl ?_
  have h : Sat σ w (zLn b3 :: ((qb, cel [.slice q ls.length c, .pointer none] ty_paraBuilder) :: TM) ++ (p.at b :: (sb, cel (obCells [{ r with e := p.lineno }, paraOB qb s p.lineno] ++ sp) ty_openBlock) :: (l.at b1 :: L))) := h.re (by intro _; simp only [List.append_eq, cnt_append, cnt_cons, cnt_nil] <;> omega)
  refine para_append h hp0 (by omega) fun w PM' hp' h => ?_
  refine hR w { r with e := p.lineno } p.lineno [(sb, cel (obCells [{ r with e := p.lineno }, paraOB qb s p.lineno] ++ sp) ty_openBlock)] PM' rfl rfl rfl rfl (Stk.mk' hq ?_ (by rw [hn]; rfl) (by simp)) hp' (h.less [l.at b1] (by intro _; simp only [List.append_eq, cnt_append, cnt_cons, cnt_nil] <;> omega))
  rw [← hsp, hlen, hlen]
end Go.Proofs.YtgbgadkldalkbaaGreatDoor


set_option linter.unusedVariables false
namespace Go.Proofs.YtgbgadkldalkbaaGreatDoor
open Go.Proofs Go.IntWalk Go.RowKit
variable {σ : Out} {w : World} {L L' : List Chunk} {R : Ending → World → Prop}
structure TF where
  q : Option Addr
  n : Nat
  c : Nat
  vs : List Value
  RM : List Chunk
  KM : List Chunk
  KM' : List Chunk
  f : List UInt8 → List UInt8
def TF.ok (t : TF) : Prop := Sl 1 ty_Inline t.q t.n t.c t.vs t.RM ∧ t.n < 1073741824 ∧ PrintsL "PrintHTML" t.vs t.KM t.KM' t.f
def fill (x : TX) (t : TF) : List Chunk := textC x.t x.s x.e t.q t.n t.c x.raw :: (t.RM ++ t.KM)
def fill' (x : TX) (t : TF) : List Chunk := textC x.t x.s x.e t.q t.n t.c x.raw :: (t.RM ++ t.KM')
def fills : List TX → List TF → List Chunk
  | x :: xs, t :: ts => fill x t ++ fills xs ts
  | _, _ => []
def fills' : List TX → List TF → List Chunk
  | x :: xs, t :: ts => fill' x t ++ fills' xs ts
  | _, _ => []
inductive Filled (F : List UInt8 → List UInt8 → List UInt8) : List TX → List TF → Prop where
  | nil : Filled F [] []
  | cons {x : TX} {t : TF} {xs : List TX} {ts : List TF} : t.ok → t.f = F x.raw → Filled F xs ts → Filled F (x :: xs) (t :: ts)
theorem Filled.split {F : List UInt8 → List UInt8 → List UInt8} : ∀ {xs ys : List TX} {ts : List TF}, Filled F (xs ++ ys) ts → ∃ ts1 ts2, ts = ts1 ++ ts2 ∧ Filled F xs ts1 ∧ Filled F ys ts2
  | [], ys, ts, h => ⟨[], ts, rfl, .nil, h⟩
  | x :: xs, ys, ts, h => by
    cases h with
    | cons h1 h2 h3 =>
      obtain ⟨ts1, ts2, rfl, h4, h5⟩ := h3.split
      exact ⟨_ :: ts1, ts2, rfl, .cons h1 h2 h4, h5⟩
theorem Filled.append {F : List UInt8 → List UInt8 → List UInt8} {xs ys : List TX} {ts us : List TF} (h1 : Filled F xs ts) (h2 : Filled F ys us) : Filled F (xs ++ ys) (ts ++ us) := by
  induction h1 with
  | nil => exact h2
  | cons a b _ ih => exact .cons a b ih
theorem fills_append {F : List UInt8 → List UInt8 → List UInt8} : ∀ {xs ys : List TX} {ts us : List TF}, Filled F xs ts → fills (xs ++ ys) (ts ++ us) = fills xs ts ++ fills ys us
  | _, _, _, _, .nil => rfl
  | _, _, _, _, .cons h1 h2 h3 => by simp only [List.cons_append, fills, List.append_assoc]; rw [fills_append h3]
def DB.shows (F : List UInt8 → List UInt8 → List UInt8) (d : DB) (g : List UInt8 → List UInt8) : Prop :=
  ∀ ts, Filled F d.txs ts → Prints "PrintHTML" d.v (d.own ++ fills d.txs ts) (d.own ++ fills' d.txs ts) g
inductive Show (F : List UInt8 → List UInt8 → List UInt8) : List DB → List (List UInt8 → List UInt8) → Prop where
  | nil : Show F [] []
  | cons {d : DB} {g : List UInt8 → List UInt8} {D : List DB} {gs : List (List UInt8 → List UInt8)} : d.shows F g → Show F D gs → Show F (d :: D) (g :: gs)
theorem Show.append {F : List UInt8 → List UInt8 → List UInt8} {D E : List DB} {gs hs : List (List UInt8 → List UInt8)} (h1 : Show F D gs) (h2 : Show F E hs) : Show F (D ++ E) (gs ++ hs) := by
  induction h1 with
  | nil => exact h2
  | cons h _ ih => exact .cons h ih
def compL : List (List UInt8 → List UInt8) → List UInt8 → List UInt8
  | [], l => l
  | g :: gs, l => compL gs (g l)
theorem paraDB_shows {F : List UInt8 → List UInt8 → List UInt8} {nb t s e : Nat} {raw : List UInt8} : (paraDB nb t s e raw).shows F (fun l => F raw (l ++ pOpen) ++ pClose) := by
  intro ts ht
  cases ht with
  | cons h1 h2 h3 =>
    cases h3
    rw [← h2]
    have := para_prints (nb := nb) (t := t) (s := s) (e := e) (s' := s) (e' := e) (raw := raw) h1.1 (by have := h1.2.1; omega) h1.2.2
    simpa [paraDB, fills, fills', fill, fill'] using this
theorem texts_ok {b pb : Nat} {op : Opt} {F : List UInt8 → List UInt8 → List UInt8} {p : PS} {xs : List TX} {TM L0 : List Chunk} {lk : Option Nat} (h : Sat σ w (p.at b :: (TM ++ (xs.map TX.chunk ++ L)))) (ht : Txts p (xs.map TX.t) TM) (hpz : p.pz = some ⟨pb, 0, none⟩) (ho : op.at pb ∈ L) (hlk : p.links = lk) (hL0 : ∀ c ∈ L0, c ∈ L)
    (hLL : p.Lq = none ∧ p.Ln = 0 ∧ p.Lc = 0) (hI : ∀ x ∈ xs, InlineOKG lk L0 op x.raw (F x.raw))
    (hR : ∀ w (p' : PS) ts, p'.coreS = p.coreS → Filled F xs ts → Sat σ w (p'.at b :: (TM ++ (fills xs ts ++ L))) → g_Parser_parse.k4 R b w) :
    g_Parser_parse.l2 R (some ⟨pb, 0, none⟩) b p.tq p.tn p.tc (p.tn : Nat) 0 w := by
  have hn : p.tn = xs.length := by rw [ht.2.1, List.length_map]
  have hx : xs.length < 1048576 := by have := ht.2.2; rwa [List.length_map] at this
  intro Y hY
  have h00 := h
  clear h
  have key : ∀ (xs2 xs1 : List TX) ts1 w (p1 : PS), xs1 ++ xs2 = xs → p1.coreS = p.coreS → Filled F xs1 ts1 → Sat σ w (p1.at b :: (TM ++ (fills xs1 ts1 ++ (xs2.map TX.chunk ++ L)))) → Y (some ⟨pb, 0, none⟩) b p.tq p.tn p.tc (p.tn : Nat) (xs1.length : Nat) w := by
    intro xs2
    induction xs2 with
    | nil =>
      intro xs1 ts1 w p1 hxs hp1 hf h
      rw [List.append_nil] at hxs
      subst hxs
      have e1 : p1.Lq = none := by have := congrArg PS.Lq hp1; rw [show p1.Lq = p.Lq from this]; exact hLL.1
      have e2 : p1.Ln = 0 := by have := congrArg PS.Ln hp1; rw [show p1.Ln = p.Ln from this]; exact hLL.2.1
      have e3 : p1.Lc = 0 := by have := congrArg PS.Lc hp1; rw [show p1.Lc = p.Lc from this]; exact hLL.2.2
      have h : Sat σ w (p1.at b :: (TM ++ (fills xs1 ts1 ++ L))) := h
      have hm : op.at pb ∈ p1.at b :: (TM ++ (fills xs1 ts1 ++ L)) := by simp [ho]
      have fin : g_Parser_parse.k4 R b w := hR w p1 ts1 hp1 hf h
      refine hY _ _ _ _ _ _ _ _ (br_false (by simp; omega) (nilP_some ?_))
      simp only [Addr.add_lit, Nat.zero_add]
      refine ⟨op.task, Sat.ld h hm rfl, br_split (fun _ => ?_) (fun _ => fin)⟩
      refine ⟨_, _, _, Sat.ld h (.head _) (i := 10) rfl, ?_⟩
      rw [e1, e2, e3]
      intro Z hZ
      exact hZ _ _ _ _ _ _ _ (br_false rfl fin)
    | cons x xs2 ih =>
      intro xs1 ts1 w p1 hxs hp1 hf h
      have hlt : xs1.length < xs.length := by rw [← hxs]; simp
      obtain ⟨rb, sp, htq, rfl⟩ := ht.1.rowAt (by omega)
      refine hY _ _ _ _ _ _ _ _ (br_true (by simp; omega) ⟨by omega, by omega, ?_⟩)
      rw [htq]
      refine nilP_some ?_
      simp only [Addr.add_lit, Nat.zero_add, Int.toNat_natCast, Nat.mul_one]
      have hget : ((xs.map TX.t).map (fun t => Value.pointer (some ⟨t, 0, none⟩)) ++ sp)[xs1.length]? = some (.pointer (some ⟨x.t, 0, none⟩)) := by
        rw [List.getElem?_append_left (by simp; omega), ← hxs]; simp
      refine ⟨_, Sat.ld h (.tail _ (.head _)) hget, nilP_some ?_⟩
      simp only [Addr.add_lit, Nat.zero_add]
      have h : Sat σ w (p1.at b :: (x.chunk :: ([(rb, cel ((xs.map TX.t).map (fun t => Value.pointer (some ⟨t, 0, none⟩)) ++ sp) ty_P_Text)] ++ (fills xs1 ts1 ++ (xs2.map TX.chunk ++ L))))) := by
        rw [List.map_cons] at h
        exact h.re (by intro _; simp only [List.append_eq, cnt_append, cnt_cons, cnt_nil] <;> omega)
      refine ⟨_, Sat.ld h (.tail _ (.head _)) (i := 3) rfl, ?_⟩
      have hc : p1.pz = some ⟨pb, 0, none⟩ := by have := congrArg PS.pz hp1; rw [show p1.pz = p.pz from this]; exact hpz
      have hk : p1.links = lk := by have := congrArg PS.links hp1; rw [show p1.links = p.links from this]; exact hlk
      refine hI x (by rw [← hxs]; simp) σ _ b pb p1 _ w (fun c hc => by simp [hL0 c hc]) h hc (by simp [ho]) hk fun w p2 q n c vs RM KM KM' hp2 hS hn2 hP h => ⟨_, _, _, rfl, nilP_some ?_⟩
      have h : Sat σ w (textC x.t x.s x.e none 0 0 x.raw :: (p2.at b :: (RM ++ (KM ++ ([(rb, cel ((xs.map TX.t).map (fun t => Value.pointer (some ⟨t, 0, none⟩)) ++ sp) ty_P_Text)] ++ (fills xs1 ts1 ++ (xs2.map TX.chunk ++ L))))))) := by
        have h : Sat σ w (p2.at b :: (RM ++ (KM ++ (textC x.t x.s x.e none 0 0 x.raw :: ([(rb, cel ((xs.map TX.t).map (fun t => Value.pointer (some ⟨t, 0, none⟩)) ++ sp) ty_P_Text)] ++ (fills xs1 ts1 ++ (xs2.map TX.chunk ++ L))))))) := h
        exact h.re (by intro _; simp only [List.append_eq, cnt_append, cnt_cons, cnt_nil] <;> omega)
      refine h.stA 0 fun w h => ?_
      have h : Sat σ w (textC x.t x.s x.e q n c x.raw :: (p2.at b :: (RM ++ (KM ++ ([(rb, cel ((xs.map TX.t).map (fun t => Value.pointer (some ⟨t, 0, none⟩)) ++ sp) ty_P_Text)] ++ (fills xs1 ts1 ++ (xs2.map TX.chunk ++ L))))))) := h
      rw [i64_inc (by omega)]
      have hf2 : Filled F (xs1 ++ [x]) (ts1 ++ [⟨q, n, c, vs, RM, KM, KM', F x.raw⟩]) := hf.append (.cons ⟨hS, hn2, hP⟩ rfl .nil)
      have := ih (xs1 ++ [x]) _ w p2 (by rw [← hxs]; simp) (hp2.trans hp1) hf2 ?_
      · rw [List.length_append, List.length_singleton, htq] at this; exact this
      · rw [fills_append hf]
        show Sat σ w (p2.at b :: ([(rb, cel ((xs.map TX.t).map (fun t => Value.pointer (some ⟨t, 0, none⟩)) ++ sp) ty_P_Text)] ++ ((fills xs1 ts1 ++ ((textC x.t x.s x.e q n c x.raw :: (RM ++ KM)) ++ [])) ++ (xs2.map TX.chunk ++ L))))
        exact h.re (by intro _; simp only [List.append_eq, cnt_append, cnt_cons, cnt_nil] <;> omega)
  exact key xs [] [] w p rfl rfl .nil h00
end Go.Proofs.YtgbgadkldalkbaaGreatDoor


set_option linter.unusedVariables false
namespace Go.Proofs.YtgbgadkldalkbaaGreatDoor
open Go.Proofs Go.IntWalk Go.RowKit
variable {σ : Out} {w : World} {L L' : List Chunk} {R : Ending → World → Prop}
def htmlDB (nb s e : Nat) (q : Option Addr) (n c : Nat) (SM : List Chunk) : DB := ⟨.iface ty_P_HTMLBlock (.pointer (some ⟨nb, 0, none⟩)), hblC nb s e q n c :: SM, []⟩
def HtmDone (ls : List (List UInt8)) (d : DB) : Prop := ∃ nb s e q c SM, Sl 1 ty_string q ls.length c (sv ls) SM ∧ d = htmlDB nb s e q ls.length c SM
theorem HtmDone.txs {ls : List (List UInt8)} {d : DB} (h : HtmDone ls d) : d.txs = [] := by
  obtain ⟨nb, s, e, q, c, SM, _, rfl⟩ := h; rfl
theorem HtmDone.shows {F : List UInt8 → List UInt8 → List UInt8} {ls : List (List UInt8)} {d : DB} (h : HtmDone ls d) (hn : ls.length < 1048576) (hl : ∀ l ∈ ls, l.length < 4294967296) : d.shows F (ab (rawOut ls)) := by
  obtain ⟨nb, s, e, q, c, SM, hS, rfl⟩ := h
  intro ts ht
  cases ht
  have := html_prints (nb := nb) (s := s) (e := e) hS hn hl
  simpa [htmlDB, fills, fills'] using this
end Go.Proofs.YtgbgadkldalkbaaGreatDoor


set_option linter.unusedVariables false
namespace Go.Proofs.YtgbgadkldalkbaaGreatDoor
open Go.Proofs Go.IntWalk Go.RowKit
variable {σ : Out} {w : World} {L L' : List Chunk} {R : Ending → World → Prop}
def codeDB (nb s e : Nat) (F info : List UInt8) (q : Option Addr) (n c : Nat) (SM : List Chunk) : DB := ⟨.iface ty_P_CodeBlock (.pointer (some ⟨nb, 0, none⟩)), codC nb s e F info q n c :: SM, []⟩
def FenDone (F info : List UInt8) (ls : List (List UInt8)) (d : DB) : Prop := ∃ nb s e q c SM, Sl 1 ty_string q ls.length c (sv ls) SM ∧ d = codeDB nb s e F info q ls.length c SM
theorem FenDone.txs {F info : List UInt8} {ls : List (List UInt8)} {d : DB} (h : FenDone F info ls d) : d.txs = [] := by
  obtain ⟨nb, s, e, q, c, SM, _, rfl⟩ := h; rfl
theorem FenDone.shows {G : List UInt8 → List UInt8 → List UInt8} {F info : List UInt8} {ls : List (List UInt8)} {d : DB} (h : FenDone F info ls d) (hn : ls.length < 1048576) (hl : ∀ l ∈ ls, l.length < 4294967296) (hF : F ≠ [])
    (hi : ∀ c ∈ info, c < 128 ∧ spB c = false) (hil : info.length < 100000) : d.shows G (codeF info ls) := by
  obtain ⟨nb, s, e, q, c, SM, hS, rfl⟩ := h
  intro ts ht
  cases ht
  have := code_prints (nb := nb) (s := s) (e := e) hS hn hl hF hi hil
  simpa [codeDB, fills, fills'] using this
end Go.Proofs.YtgbgadkldalkbaaGreatDoor


set_option linter.unusedVariables false
set_option maxRecDepth 20000
namespace Go.Proofs.YtgbgadkldalkbaaGreatDoor
open Go.Proofs
namespace g_AutoLink_PrintHTML
noncomputable def body : Code := bodyOf Tryz.f374
end g_AutoLink_PrintHTML
def g_AutoLink_PrintHTML (R : EP) (x0 : OA) (x1 : OA) (w : World) : Prop :=
 tk w fun w1 =>
 nilP x0 fun a2 =>
 nilP x0 fun a3 =>
 ∃ (v4 : BA), w1.cell? (a2.add 1) = some (.string v4) ∧
 ∃ (v5 : BA), w1.cell? a3 = some (.string v5) ∧
 callE P i_htmlLinkEscaper #[] (fun e w7 => ∃ (r6q : OA), ∃ (r6n : Nat), ∃ (r6c : Nat), e = .returned (.slice r6q r6n r6c) ∧
 SameC w1 w7 (a3) 1 ∧
 SameC w1 w7 (a2.add 1) 1 ∧
 callE P i_zzPairs_Replace #[.slice r6q r6n r6c, .string v4] (fun e w9 => ∃ (r8 : BA), e = .returned (.string r8) ∧
 SameC w7 w9 (a3) 1 ∧
 (((ByteArray.mk #[60, 97, 32, 104, 114, 101, 102, 61, 34]).size + r8.size : Nat) : Int) ≤ IntKind.i64.max ∧
 ((((ByteArray.mk #[60, 97, 32, 104, 114, 101, 102, 61, 34]) ++ r8).size + (ByteArray.mk #[34, 62]).size : Nat) : Int) ≤ IntKind.i64.max ∧
 callE P i_htmlEscaper #[] (fun e w11 => ∃ (r10q : OA), ∃ (r10n : Nat), ∃ (r10c : Nat), e = .returned (.slice r10q r10n r10c) ∧
 SameC w9 w11 (a3) 1 ∧
 callE P i_zzPairs_Replace #[.slice r10q r10n r10c, .string v5] (fun e w13 => ∃ (r12 : BA), e = .returned (.string r12) ∧
 (((((ByteArray.mk #[60, 97, 32, 104, 114, 101, 102, 61, 34]) ++ r8) ++ (ByteArray.mk #[34, 62])).size + r12.size : Nat) : Int) ≤ IntKind.i64.max ∧
 ((((((ByteArray.mk #[60, 97, 32, 104, 114, 101, 102, 61, 34]) ++ r8) ++ (ByteArray.mk #[34, 62])) ++ r12).size + (ByteArray.mk #[60, 47, 97, 62]).size : Nat) : Int) ≤ IntKind.i64.max ∧
 callE P i_bytes_Buffer_WriteString #[.pointer x1, .string (((((ByteArray.mk #[60, 97, 32, 104, 114, 101, 102, 61, 34]) ++ r8) ++ (ByteArray.mk #[34, 62])) ++ r12) ++ (ByteArray.mk #[60, 47, 97, 62]))] (fun e w15 => ∃ (r14_0 : Int), ∃ (r14_1 : Value), e = .returned (.tuple #[.int .i64 r14_0, r14_1]) ∧
 R (.returned (.tuple #[])) w15) w13) w11) w9) w7) w1

noncomputable def g_AutoLink_PrintHTML.ac (R : EP) : AC :=
  (.draw (.pure 0 (.pure 2 (.pure 3 (.pure 4 (.pure 10 (.pure 11 (.pure 12 (.load 5 (.load 13 (.one 1 (.one 6 (.pure 7 (.pure 8 (.one 9 (.one 14 (.pure 15 (.pure 16 (.one 17 .done)))))))))))))))))) (sel [] g_AutoLink_PrintHTML.body))
theorem g_AutoLink_PrintHTML.good (R : EP) : Good P 22 (g_AutoLink_PrintHTML.ac R) (QF P [] R) :=
  ⟨by kernel_rfl, by kernel_rfl, fun _ _ _ h => h⟩
theorem g_AutoLink_PrintHTML.eq (R : EP) (x0 : OA) (x1 : OA) (w : World) : g_AutoLink_PrintHTML R x0 x1 w = vcA P 22 (g_AutoLink_PrintHTML.ac R) (QF P [] R) (fr0 [.pointer x0, .pointer x1]) w := by kernel_rfl
theorem g_AutoLink_PrintHTML.sound {R : EP} {x0 : OA} {x1 : OA} {w : World} (h : g_AutoLink_PrintHTML R x0 x1 w) : callE P i_AutoLink_PrintHTML #[.pointer x0, .pointer x1] R w :=
  callE_fin (c := g_AutoLink_PrintHTML.body) Tryz.func374 Tryz.call374 (by kernel_rfl) (by kernel_rfl) (by kernel_rfl) (by kernel_rfl) (by kernel_rfl) (g_AutoLink_PrintHTML.good R) (g_AutoLink_PrintHTML.eq R x0 x1 w) h
namespace g_HardBreak_PrintHTML
noncomputable def body : Code := bodyOf Tryz.f354
end g_HardBreak_PrintHTML
def g_HardBreak_PrintHTML (R : EP) (x0 : OA) (x1 : OA) (w : World) : Prop :=
 callE P i_bytes_Buffer_WriteString #[.pointer x1, .string (ByteArray.mk #[60, 98, 114, 32, 47, 62, 10])] (fun e w2 => ∃ (r1_0 : Int), ∃ (r1_1 : Value), e = .returned (.tuple #[.int .i64 r1_0, r1_1]) ∧
 R (.returned (.tuple #[])) w2) w

noncomputable def g_HardBreak_PrintHTML.ac (R : EP) : AC :=
  (.leaf (sel [] g_HardBreak_PrintHTML.body))
theorem g_HardBreak_PrintHTML.good (R : EP) : Good P 6 (g_HardBreak_PrintHTML.ac R) (QF P [] R) :=
  trivial
theorem g_HardBreak_PrintHTML.eq (R : EP) (x0 : OA) (x1 : OA) (w : World) : g_HardBreak_PrintHTML R x0 x1 w = vcA P 6 (g_HardBreak_PrintHTML.ac R) (QF P [] R) (fr0 [.pointer x0, .pointer x1]) w := by kernel_rfl
theorem g_HardBreak_PrintHTML.sound {R : EP} {x0 : OA} {x1 : OA} {w : World} (h : g_HardBreak_PrintHTML R x0 x1 w) : callE P i_HardBreak_PrintHTML #[.pointer x0, .pointer x1] R w :=
  callE_fin (c := g_HardBreak_PrintHTML.body) Tryz.func354 Tryz.call354 (by kernel_rfl) (by kernel_rfl) (by kernel_rfl) (by kernel_rfl) (by kernel_rfl) (g_HardBreak_PrintHTML.good R) (g_HardBreak_PrintHTML.eq R x0 x1 w) h
namespace g_Link_PrintHTML
noncomputable def body : Code := bodyOf Tryz.f295
def bl1 (R : EP) (Xa : OA → OA → Nat → Nat → Int → Int → WP) (x1 : OA) (x36q : OA) (x36n : Nat) (x36c : Nat) (x37 : Int) (x38 : Int) (w : World) : Prop :=
 br (decide (x38 < x37))
 (0 ≤ x38 ∧ x38 < (x36n : Int) ∧
 nilP x36q fun a25 =>
 ∃ (v26 : Value), w.cell? (a25.add (Int.toNat x38 * 1)) = some v26 ∧
 enterE P (callMethod v26 "PrintHTML" #[.pointer x1]) (fun e w28 => e = .returned (.tuple #[]) ∧
 Xa x1 x36q x36n x36c x37 (IntKind.i64.wrap (x38 + 1)) w28) w)
 (callE P i_bytes_Buffer_WriteString #[.pointer x1, .string (ByteArray.mk #[60, 47, 97, 62])] (fun e w30 => ∃ (r29_0 : Int), ∃ (r29_1 : Value), e = .returned (.tuple #[.int .i64 r29_0, r29_1]) ∧
 R (.returned (.tuple #[])) w30) w)
def l1 (R : EP) (x1 : OA) (x36q : OA) (x36n : Nat) (x36c : Nat) (x37 : Int) (x38 : Int) (w : World) : Prop :=
  ∀ X : OA → OA → Nat → Nat → Int → Int → WP, (∀ x1 x36q x36n x36c x37 x38 w, bl1 R X x1 x36q x36n x36c x37 x38 w → X x1 x36q x36n x36c x37 x38 w) → X x1 x36q x36n x36c x37 x38 w

noncomputable def al1 (R : EP) (Xa : OA → OA → Nat → Nat → Int → Int → WP) : AC :=
  (.leaf (sel [1, 1, 1, 0, 1, 0, 0] body))
def k1 (R : EP) (x0 : OA) (x1 : OA) (w : World) : Prop :=
 callE P i_bytes_Buffer_WriteString #[.pointer x1, .string (ByteArray.mk #[62])] (fun e w22 => ∃ (r21_0 : Int), ∃ (r21_1 : Value), e = .returned (.tuple #[.int .i64 r21_0, r21_1]) ∧
 nilP x0 fun a23 =>
 ∃ (v24q : OA), ∃ (v24n : Nat), ∃ (v24c : Nat), w22.cell? a23 = some (.slice v24q v24n v24c) ∧
 l1 R x1 v24q v24n v24c (v24n : Int) 0 w22) w

end g_Link_PrintHTML
def g_Link_PrintHTML (R : EP) (x0 : OA) (x1 : OA) (w : World) : Prop :=
 tk w fun w1 =>
 nilP x0 fun a2 =>
 ∃ (v3 : BA), w1.cell? (a2.add 1) = some (.string v3) ∧
 callE P i_htmlLinkEscaper #[] (fun e w5 => ∃ (r4q : OA), ∃ (r4n : Nat), ∃ (r4c : Nat), e = .returned (.slice r4q r4n r4c) ∧
 SameC w1 w5 (a2.add 1) 1 ∧
 callE P i_zzPairs_Replace #[.slice r4q r4n r4c, .string v3] (fun e w7 => ∃ (r6 : BA), e = .returned (.string r6) ∧
 (((ByteArray.mk #[60, 97, 32, 104, 114, 101, 102, 61, 34]).size + r6.size : Nat) : Int) ≤ IntKind.i64.max ∧
 ((((ByteArray.mk #[60, 97, 32, 104, 114, 101, 102, 61, 34]) ++ r6).size + (ByteArray.mk #[34]).size : Nat) : Int) ≤ IntKind.i64.max ∧
 callE P i_bytes_Buffer_WriteString #[.pointer x1, .string (((ByteArray.mk #[60, 97, 32, 104, 114, 101, 102, 61, 34]) ++ r6) ++ (ByteArray.mk #[34]))] (fun e w9 => ∃ (r8_0 : Int), ∃ (r8_1 : Value), e = .returned (.tuple #[.int .i64 r8_0, r8_1]) ∧
 nilP x0 fun a10 =>
 ∃ (v11 : BA), w9.cell? (a10.add 2) = some (.string v11) ∧
 br (!(v11.toList == (ByteArray.mk #[]).toList))
 (tk w9 fun w12 =>
 nilP x0 fun a13 =>
 ∃ (v14 : BA), w12.cell? (a13.add 2) = some (.string v14) ∧
 callE P i_htmlQuoteEscaper #[] (fun e w16 => ∃ (r15q : OA), ∃ (r15n : Nat), ∃ (r15c : Nat), e = .returned (.slice r15q r15n r15c) ∧
 SameC w12 w16 (a13.add 2) 1 ∧
 callE P i_zzPairs_Replace #[.slice r15q r15n r15c, .string v14] (fun e w18 => ∃ (r17 : BA), e = .returned (.string r17) ∧
 (((ByteArray.mk #[32, 116, 105, 116, 108, 101, 61, 34]).size + r17.size : Nat) : Int) ≤ IntKind.i64.max ∧
 ((((ByteArray.mk #[32, 116, 105, 116, 108, 101, 61, 34]) ++ r17).size + (ByteArray.mk #[34]).size : Nat) : Int) ≤ IntKind.i64.max ∧
 callE P i_bytes_Buffer_WriteString #[.pointer x1, .string (((ByteArray.mk #[32, 116, 105, 116, 108, 101, 61, 34]) ++ r17) ++ (ByteArray.mk #[34]))] (fun e w20 => ∃ (r19_0 : Int), ∃ (r19_1 : Value), e = .returned (.tuple #[.int .i64 r19_0, r19_1]) ∧
 g_Link_PrintHTML.k1 R x0 x1 w20) w18) w16) w12)
 (g_Link_PrintHTML.k1 R x0 x1 w9)) w7) w5) w1

noncomputable def g_Link_PrintHTML.ac (R : EP) : AC :=
  (.seq (.draw (.pure 0 (.pure 2 (.pure 3 (.pure 4 (.load 5 (.one 1 (.one 6 (.pure 7 (.pure 8 (.one 9 .done)))))))))) (sel [0] g_Link_PrintHTML.body)) (.seq (.seq (.leaf (sel [1, 0, 0] g_Link_PrintHTML.body)) (.cond 20 (.draw (.pure 0 (.pure 2 (.pure 3 (.pure 4 (.load 5 (.one 1 (.one 6 (.pure 7 (.pure 8 (.one 9 .done)))))))))) (sel [1, 0, 1, 0] g_Link_PrintHTML.body)) (.leaf (sel [1, 0, 1, 1] g_Link_PrintHTML.body)))) (.mark (leaf [(0, .s .ptr), (1, .s .ptr)] (g_Link_PrintHTML.k1 R)) (.seq (.leaf (sel [1, 1, 0] g_Link_PrintHTML.body)) (.seq (.seq (.leaf (sel [1, 1, 1, 0, 0] g_Link_PrintHTML.body)) (.block 0 (.loop (leaf [(1, .s .ptr), (36, .s .slice), (37, .s (.int .i64)), (38, .s (.int .i64))] (g_Link_PrintHTML.l1 R)) (sel [1, 1, 1, 0, 1, 0, 0] g_Link_PrintHTML.body)))) (.leaf (sel [1, 1, 1, 1] g_Link_PrintHTML.body)))))))
theorem g_Link_PrintHTML.good (R : EP) : Good P 48 (g_Link_PrintHTML.ac R) (QF P [] R) :=
  ⟨⟨by kernel_rfl, by kernel_rfl, fun _ _ _ h => h⟩, ⟨⟨trivial, ⟨⟨by kernel_rfl, by kernel_rfl, fun _ _ _ h => h⟩, trivial⟩⟩, ⟨⟨trivial, ⟨⟨trivial, (loopG (g_Link_PrintHTML.al1 R) (g_Link_PrintHTML.bl1 R) (fun _ => by kernel_rfl) (fun Xa => trivial) (fun Xa => by intro x1 x36q x36n x36c x37 x38 ρ w; kernel_rfl) (fun X h _ _ _ _ _ _ _ g => g X h))⟩, trivial⟩⟩, cutE (by intro x0 x1 ρ w; kernel_rfl)⟩⟩⟩
theorem g_Link_PrintHTML.eq (R : EP) (x0 : OA) (x1 : OA) (w : World) : g_Link_PrintHTML R x0 x1 w = vcA P 48 (g_Link_PrintHTML.ac R) (QF P [] R) (fr0 [.pointer x0, .pointer x1]) w := by kernel_rfl
theorem g_Link_PrintHTML.sound {R : EP} {x0 : OA} {x1 : OA} {w : World} (h : g_Link_PrintHTML R x0 x1 w) : callE P i_Link_PrintHTML #[.pointer x0, .pointer x1] R w :=
  callE_fin (c := g_Link_PrintHTML.body) Tryz.func295 Tryz.call295 (by kernel_rfl) (by kernel_rfl) (by kernel_rfl) (by kernel_rfl) (by kernel_rfl) (g_Link_PrintHTML.good R) (g_Link_PrintHTML.eq R x0 x1 w) h
namespace g_SoftBreak_PrintHTML
noncomputable def body : Code := bodyOf Tryz.f350
end g_SoftBreak_PrintHTML
def g_SoftBreak_PrintHTML (R : EP) (x0 : OA) (x1 : OA) (w : World) : Prop :=
 callE P i_bytes_Buffer_WriteString #[.pointer x1, .string (ByteArray.mk #[10])] (fun e w2 => ∃ (r1_0 : Int), ∃ (r1_1 : Value), e = .returned (.tuple #[.int .i64 r1_0, r1_1]) ∧
 R (.returned (.tuple #[])) w2) w

noncomputable def g_SoftBreak_PrintHTML.ac (R : EP) : AC :=
  (.leaf (sel [] g_SoftBreak_PrintHTML.body))
theorem g_SoftBreak_PrintHTML.good (R : EP) : Good P 6 (g_SoftBreak_PrintHTML.ac R) (QF P [] R) :=
  trivial
theorem g_SoftBreak_PrintHTML.eq (R : EP) (x0 : OA) (x1 : OA) (w : World) : g_SoftBreak_PrintHTML R x0 x1 w = vcA P 6 (g_SoftBreak_PrintHTML.ac R) (QF P [] R) (fr0 [.pointer x0, .pointer x1]) w := by kernel_rfl
theorem g_SoftBreak_PrintHTML.sound {R : EP} {x0 : OA} {x1 : OA} {w : World} (h : g_SoftBreak_PrintHTML R x0 x1 w) : callE P i_SoftBreak_PrintHTML #[.pointer x0, .pointer x1] R w :=
  callE_fin (c := g_SoftBreak_PrintHTML.body) Tryz.func350 Tryz.call350 (by kernel_rfl) (by kernel_rfl) (by kernel_rfl) (by kernel_rfl) (by kernel_rfl) (g_SoftBreak_PrintHTML.good R) (g_SoftBreak_PrintHTML.eq R x0 x1 w) h
end Go.Proofs.YtgbgadkldalkbaaGreatDoor

set_option linter.unusedVariables false
namespace Go.Proofs.YtgbgadkldalkbaaGreatDoor
open Go.Proofs Go.IntWalk Go.RowKit
variable {σ : Out} {w : World} {L L' : List Chunk} {R : Ending → World → Prop}
def methB1 (P : Program) (t : TypeId) (name : String) (f : FuncId) : Bool :=
  match P.info? t with
  | some i => match i.methods.find? (·.name == name) with
    | some m => match m.path.toList with
      | [s] => s.deref && (match P.underlying s.struct with
        | some (.struct fields) => match fields[s.index]? with
          | some fd => Nat.beq fd.offset 0 && (match P.info? fd.type with
            | some ti => !(Nat.beq ti.size 0) && (match P.underlying fd.type with
              | some (.struct _) => (match m.func with | some (g, true) => Nat.beq g f | _ => false)
              | _ => false)
            | none => false)
          | none => false
        | _ => false)
      | _ => false
    | none => false
  | none => false
theorem methB1_run {P : Program} {t : TypeId} {name : String} {f : FuncId} (h : methB1 P t name f = true) (b : Nat) (fuel : Nat) (w : World) :
    (Go.method (fuel + 1) t (.pointer (some ⟨b, 0, none⟩)) name).run P w = .ok (f, .pointer (some ⟨b, 0, none⟩)) w := by
  unfold methB1 at h
  split at h
  · rename_i i hi
    split at h
    · rename_i m hm
      split at h
      · rename_i s hp
        simp only [Bool.and_eq_true] at h
        obtain ⟨hd, h⟩ := h
        split at h
        · rename_i fields hu
          split at h
          · rename_i fd hf
            simp only [Bool.and_eq_true] at h
            obtain ⟨h0, h⟩ := h
            have h0 := Nat.eq_of_beq_eq_true h0
            split at h
            · rename_i ti hti
              simp only [Bool.and_eq_true, Bool.not_eq_true'] at h
              obtain ⟨hsz, h⟩ := h
              have hsz : ti.size ≠ 0 := by intro h1; rw [h1] at hsz; simp at hsz
              split at h
              · rename_i fs hfu
                split at h
                · rename_i g hg
                  have hgf := Nat.eq_of_beq_eq_true h
                  subst hgf
                  simp [Go.method, typeInfo, hi, hm, hp, Go.follow, run_underlying hu, hf, hd, Go.Place.get, asAddr, Go.fieldPlace, sizeOf, hti, hsz, h0, hg, Go.receiverAt, run_underlying hfu, Addr.add_lit]
                · cases h
              · cases h
            · cases h
          · cases h
        · cases h
      · cases h
    · cases h
  · cases h
theorem enter_meth1 {t : TypeId} {name : String} {f : FuncId} {b : Nat} {args : Array Value} (hm : methB1 P t name f = true) (h : callE P f (#[.pointer (some ⟨b, 0, none⟩)] ++ args) R w) :
    enterE P (callMethod (.iface t (.pointer (some ⟨b, 0, none⟩))) name args) R w := by
  obtain ⟨n, hn⟩ := depth_succ P
  have hr := methB1_run hm b n w
  have e : (callMethod (.iface t (.pointer (some ⟨b, 0, none⟩))) name args).run P w = (callFunc f (#[.pointer (some ⟨b, 0, none⟩)] ++ args)).run P w := by
    simp only [callMethod, Sem.run_bind, run_program, Result.andThen_ok, hn, hr]
  unfold enterE
  rw [e]
  exact h.imp (fun h => ⟨f, _, w, h.1 _ _, h.2⟩) id
theorem meth_EscapedP : methB1 P ty_P_Escaped "PrintHTML" i_Plain_PrintHTML = true := by kernel_rfl
theorem meth_Soft : methB P ty_P_SoftBreak "PrintHTML" i_SoftBreak_PrintHTML = true := by kernel_rfl
theorem meth_Hard : methB P ty_P_HardBreak "PrintHTML" i_HardBreak_PrintHTML = true := by kernel_rfl
theorem meth_Auto : methB P ty_P_AutoLink "PrintHTML" i_AutoLink_PrintHTML = true := by kernel_rfl
theorem meth_Link : methB P ty_P_Link "PrintHTML" i_Link_PrintHTML = true := by kernel_rfl
theorem esc_prints {pb : Nat} {s : List UInt8} {cs : List Value} {e : TypeId} (hs : s.length < 4294967296) :
    Prints "PrintHTML" (.iface ty_P_Escaped (.pointer (some ⟨pb, 0, none⟩))) [(pb, cel (.string (bs s) :: cs) e)] [(pb, cel (.string (bs s) :: cs) e)] (ab (escS htmlPs s)) := by
  refine ⟨ab_le _, fun σ R b l M L w hB h hb hR => enter_meth1 meth_EscapedP ?_⟩
  exact plainPrint_ok hB h hs (Nat.le_trans (ab_le _ l) hb) hR
def softT : List UInt8 := [10]
def hardT : List UInt8 := [60, 98, 114, 32, 47, 62, 10]
theorem soft_prints {b : Nat} {T : List Chunk} : Prints "PrintHTML" (ptrV ty_P_SoftBreak b) T T (ab softT) := by
  refine ⟨ab_le _, fun σ R bb l M L w hB h hb hR => enter_meth meth_Soft ?_⟩
  refine g_SoftBreak_PrintHTML.sound ?_
  have hb' : (l ++ softT).length ≤ 549755813888 := hb
  rw [List.length_append] at hb'
  exact writeS_ok (s := softT) hB h (by omega) fun w M hB h => ⟨_, _, rfl, hR w M hB h⟩
theorem hard_prints {b : Nat} {T : List Chunk} : Prints "PrintHTML" (ptrV ty_P_HardBreak b) T T (ab hardT) := by
  refine ⟨ab_le _, fun σ R bb l M L w hB h hb hR => enter_meth meth_Hard ?_⟩
  refine g_HardBreak_PrintHTML.sound ?_
  have hb' : (l ++ hardT).length ≤ 549755813888 := hb
  rw [List.length_append] at hb'
  exact writeS_ok (s := hardT) hB h (by omega) fun w M hB h => ⟨_, _, rfl, hR w M hB h⟩
def aHref : List UInt8 := [60, 97, 32, 104, 114, 101, 102, 61, 34]
def aEnd : List UInt8 := [60, 47, 97, 62]
def tAttr : List UInt8 := [32, 116, 105, 116, 108, 101, 61, 34]
theorem linkPs8 : small8 linkPs = true := by decide
theorem linkPs_len : linkPs.length = 170 := by kernel_rfl
theorem linkReplace_ok {pb c : Nat} {e : TypeId} {s : List UInt8} (h : Sat σ w L) (hp : (pb, cel (pairC linkPs) e) ∈ L) (hs : s.length < 4294967296) (hR : ∀ w, Sat σ w L → R (.returned (.string (bs (escS linkPs s)))) w) :
    callE P i_zzPairs_Replace #[.slice (some ⟨pb, 0, none⟩) 340 c, .string (bs s)] R w := by
  have := pairsReplace_ok (c := c) (R := R) h hp linkPs8 (by rw [linkPs_len]; decide) hs hR
  rw [linkPs_len] at this
  exact this
theorem auto_prints {b : Nat} {e : TypeId} {t u : List UInt8} (ht : t.length < 100000000) (hu : u.length < 100000000) :
    Prints "PrintHTML" (ptrV ty_P_AutoLink b) [(b, cel [.string (bs t), .string (bs u)] e)] [(b, cel [.string (bs t), .string (bs u)] e)] (ab (aHref ++ escS linkPs u ++ [34, 62] ++ escS htmlPs t ++ aEnd)) := by
  refine ⟨ab_le _, fun σ R bb l M L w hB h hb hR => enter_meth meth_Auto ?_⟩
  have hmax : IntKind.i64.max = 9223372036854775807 := rfl
  have l1 := escS_length linkPs8 u
  have l2 := escS_length (ps := htmlPs) (by decide) t
  have hb' : (l ++ (aHref ++ escS linkPs u ++ [34, 62] ++ escS htmlPs t ++ aEnd)).length ≤ 549755813888 := hb
  rw [List.length_append] at hb'
  refine g_AutoLink_PrintHTML.sound ?_
  refine h.tk fun w h => ?_
  refine nilP_some (nilP_some ?_)
  have hm : ∀ {M : List Chunk}, (b, cel [.string (bs t), .string (bs u)] e) ∈ M ++ ([(b, cel [.string (bs t), .string (bs u)] e)] ++ L) := List.mem_append_right _ (.head _)
  refine ⟨_, Sat.ld h (i := 1) hm rfl, _, Sat.ld h (i := 0) hm rfl, ?_⟩
  have h0 := h
  refine htmlLinkEscaper_ok h fun w eb h => ⟨_, _, _, rfl, h0.same h hm (.tail _ hm) 1, h0.same h hm (.tail _ hm) 1, ?_⟩
  have h0 := h
  refine linkReplace_ok h (.head _) (by omega) fun w h => ⟨_, rfl, h0.same h (.tail _ hm) (.tail _ hm) 1, ?_⟩
  rw [show ByteArray.mk #[60, 97, 32, 104, 114, 101, 102, 61, 34] = bs aHref from rfl, show ByteArray.mk #[34, 62] = bs [34, 62] from rfl, show ByteArray.mk #[60, 47, 97, 62] = bs aEnd from rfl, bs_append, bs_append]
  refine ⟨by rw [hmax]; simp [aHref]; omega, by rw [hmax]; simp [aHref]; omega, ?_⟩
  have h0 := h
  refine htmlEscaper_ok h fun w eb2 h => ⟨_, _, _, rfl, h0.same h (.tail _ hm) (.tail _ (.tail _ hm)) 1, ?_⟩
  refine pairsReplace_ok (ps := htmlPs) h (.head _) (by decide) (by decide) (by omega) fun w h => ⟨_, rfl, ?_⟩
  rw [bs_append, bs_append]
  refine ⟨by rw [hmax]; simp [aHref]; omega, by rw [hmax]; simp [aHref, aEnd]; omega, ?_⟩
  have h : Sat σ w (M ++ ([(b, cel [.string (bs t), .string (bs u)] e)] ++ L)) := h.tail.tail
  exact writeS_ok hB h (by omega) fun w M hB h => ⟨_, _, rfl, hR w M hB h⟩
def linkO (u t : List UInt8) : List UInt8 := aHref ++ escS linkPs u ++ [34] ++ (if t = [] then [] else tAttr ++ escS htmlPs t ++ [34]) ++ [62]
theorem link_prints {b : Nat} {e : TypeId} {u t : List UInt8} {cs : List Value} {q : Option Addr} {n c : Nat} {vs : List Value} {RM KM KM' : List Chunk} {f : List UInt8 → List UInt8} (hu : u.length < 100000000) (ht : t.length < 100000000) (hS : Sl 1 ty_Inline q n c vs RM) (hn : n < 4611686018427387904) (hP : PrintsL "PrintHTML" vs KM KM' f) :
    Prints "PrintHTML" (ptrV ty_P_Link b) ((b, cel (.slice q n c :: .string (bs u) :: .string (bs t) :: cs) e) :: (RM ++ KM)) ((b, cel (.slice q n c :: .string (bs u) :: .string (bs t) :: cs) e) :: (RM ++ KM')) (fun l => f (l ++ linkO u t) ++ aEnd) := by
  have hmax : IntKind.i64.max = 9223372036854775807 := rfl
  have l1 := escS_length linkPs8 u
  have l2 := escS_length (ps := htmlPs) (by decide) t
  refine ⟨fun l => ?_, fun σ R bb l M L w hB h hb hR => enter_meth meth_Link ?_⟩
  · have := hP.mono (l ++ linkO u t)
    simp only [List.length_append] at *; omega
  have hm := hP.mono (l ++ linkO u t)
  simp only [List.length_append] at hb hm
  refine g_Link_PrintHTML.sound ?_
  have hmem : ∀ {M : List Chunk}, (b, cel (.slice q n c :: .string (bs u) :: .string (bs t) :: cs) e) ∈ M ++ ((b, cel (.slice q n c :: .string (bs u) :: .string (bs t) :: cs) e) :: (RM ++ KM) ++ L) := List.mem_append_right _ (.head _)
  refine h.tk fun w h => ?_
  refine nilP_some ⟨_, Sat.ld h (i := 1) hmem rfl, ?_⟩
  have h0 := h
  refine htmlLinkEscaper_ok h fun w eb h => ⟨_, _, _, rfl, h0.same h hmem (.tail _ hmem) 1, ?_⟩
  refine linkReplace_ok h (.head _) (by omega) fun w h => ⟨_, rfl, ?_⟩
  rw [show ByteArray.mk #[60, 97, 32, 104, 114, 101, 102, 61, 34] = bs aHref from rfl, show ByteArray.mk #[34] = bs [34] from rfl, bs_append, bs_append]
  have hlo : (linkO u t).length = (aHref ++ escS linkPs u ++ [34]).length + (if t = [] then [] else tAttr ++ escS htmlPs t ++ [34] : List UInt8).length + 1 := by simp [linkO]; omega
  refine ⟨by rw [hmax]; simp [aHref]; omega, by rw [hmax]; simp [aHref]; omega, ?_⟩
  have h : Sat σ w (M ++ ((b, cel (.slice q n c :: .string (bs u) :: .string (bs t) :: cs) e) :: (RM ++ KM) ++ L)) := h.tail
  refine writeS_ok hB h (by omega) fun w M hB h => ⟨_, _, rfl, ?_⟩
  refine nilP_some ⟨_, Sat.ld h (i := 2) hmem rfl, ?_⟩
  have k1 : ∀ w M, Buf bb (l ++ (aHref ++ escS linkPs u ++ [34] ++ (if t = [] then [] else tAttr ++ escS htmlPs t ++ [34]))) M → Sat σ w (M ++ ((b, cel (.slice q n c :: .string (bs u) :: .string (bs t) :: cs) e) :: (RM ++ KM) ++ L)) → g_Link_PrintHTML.k1 R (some ⟨b, 0, none⟩) (some ⟨bb, 0, none⟩) w := by
    intro w M hB h
    refine writeS_ok (s := [62]) hB h (by simp only [List.length_append, List.length_cons, List.length_nil] at hlo ⊢; omega) fun w M hB h => ⟨_, _, rfl, ?_⟩
    refine nilP_some ⟨_, _, _, Sat.ld h (i := 0) hmem rfl, ?_⟩
    intro X hX
    have e1 : l ++ (aHref ++ escS linkPs u ++ [34] ++ (if t = [] then [] else tAttr ++ escS htmlPs t ++ [34])) ++ [62] = l ++ linkO u t := by simp [linkO]
    rw [e1] at hB
    have h : Sat σ w (M ++ (RM ++ (KM ++ ((b, cel (.slice q n c :: .string (bs u) :: .string (bs t) :: cs) e) :: L)))) := h.re (by intro _; simp only [List.append_eq, cnt_append, cnt_cons, cnt_nil] <;> omega)
    refine printLoop (X := fun j w => X (some ⟨bb, 0, none⟩) q n c (n : Int) j w) (END := fun w => callE P i_bytes_Buffer_WriteString #[.pointer (some ⟨bb, 0, none⟩), .string (bs aEnd)] (fun e w10 => ∃ (r9_0 : Int), ∃ (r9_1 : Value), e = .returned (.tuple #[.int .i64 r9_0, r9_1]) ∧ R (.returned (.tuple #[])) w10) w) hS (fun j w hj => hX _ _ _ _ _ _ _ hj) hP hB h hn (by simp only [List.length_append] at *; omega) fun w M' hB h => ?_
    refine writeS_ok (s := aEnd) hB h (by simp only [List.length_append] at *; omega) fun w M hB h => ⟨_, _, rfl, ?_⟩
    exact hR w M hB (h.re (by intro _; simp only [List.append_eq, cnt_append, cnt_cons, cnt_nil] <;> omega))
  by_cases ht0 : t = []
  · refine br_false (by rw [ht0, bs_toList, mk_toList]; rfl) (k1 w M ?_ h)
    rw [if_pos ht0, List.append_nil]; exact hB
  · refine br_true (by rw [bs_toList, mk_toList]; simpa using ht0) ?_
    rw [if_neg ht0] at hlo
    simp only [List.length_append, List.length_cons, List.length_nil] at hlo
    refine h.tk fun w h => ?_
    refine nilP_some ⟨_, Sat.ld h (i := 2) hmem rfl, ?_⟩
    have h0 := h
    refine htmlQuoteEscaper_ok h fun w eb h => ⟨_, _, _, rfl, h0.same h hmem (.tail _ hmem) 1, ?_⟩
    refine pairsReplace_ok (ps := htmlPs) h (.head _) (by decide) (by decide) (by omega) fun w h => ⟨_, rfl, ?_⟩
    rw [show ByteArray.mk #[32, 116, 105, 116, 108, 101, 61, 34] = bs tAttr from rfl, bs_append, bs_append]
    refine ⟨by rw [hmax]; simp [tAttr]; omega, by rw [hmax]; simp [tAttr]; omega, ?_⟩
    have h : Sat σ w (M ++ ((b, cel (.slice q n c :: .string (bs u) :: .string (bs t) :: cs) e) :: (RM ++ KM) ++ L)) := h.tail
    refine writeS_ok hB h (by simp only [List.length_append, List.length_cons, List.length_nil] at hlo ⊢; omega) fun w M hB h => ⟨_, _, rfl, k1 w M ?_ h⟩
    rw [if_neg ht0, ← List.append_assoc]; exact hB
end Go.Proofs.YtgbgadkldalkbaaGreatDoor


set_option linter.unusedVariables false
namespace Go.Proofs.YtgbgadkldalkbaaGreatDoor
open Go.Proofs Go.IntWalk Go.RowKit
variable {σ : Out} {w : World} {L L' : List Chunk} {R : Ending → World → Prop}
def Ln.bullet (l : Ln) : Option (UInt8 × Nat × Ln) :=
  if (l.strip 3 0).2.peek = 45 ∨ (l.strip 3 0).2.peek = 42 ∨ (l.strip 3 0).2.peek = 43 then
    match ((l.strip 3 0).2.trimC (l.strip 3 0).2.peek).bind (·.trimSp 1 1 true) with
    | none => none
    | some t2 => match (t2.strip 3 0).2.trimSp 1 1 true with
      | none => some ((l.strip 3 0).2.peek, (l.strip 3 0).1 + 2 + (t2.strip 3 0).1, (t2.strip 3 0).2)
      | some _ => some ((l.strip 3 0).2.peek, (l.strip 3 0).1 + 2, t2)
  else none
structure Marks (l : Ln) (c : UInt8) (num n : Nat) (t : Ln) : Prop where
  ok : t.ok
  wd : n ≤ 100
  run : ∀ {σ : Out} {w : World} {L : List Chunk} {R : Ending → World → Prop} {b : Nat} {q : Option Addr}, Sat σ w (l.at b :: L) →
    (∀ w b0 b1 b2 (t' : Ln), Sat σ w (t.at b0 :: (b1, cel [.pointer q] ty_P_parseState) :: t'.at b2 :: l.at b :: L) → g_parseState_startListItem.k8 R b1 b0 (n : Nat) (c.toNat : Int) (num : Nat) w) →
    callE P i_parseState_startListItem #[.pointer q, .pointer (some ⟨b, 0, none⟩)] R w
end Go.Proofs.YtgbgadkldalkbaaGreatDoor


set_option linter.unusedVariables false
namespace Go.Proofs.YtgbgadkldalkbaaGreatDoor
open Go.Proofs Go.IntWalk Go.RowKit
variable {σ : Out} {w : World} {L L' : List Chunk} {R : Ending → World → Prop}
structure IT where
  nb : Nat
  s : Nat
  e : Nat
  q : Option Addr
  n : Nat
  c : Nat
  wd : Nat
  IM : List Chunk
  D : List DB
def IT.chunk (i : IT) : Chunk := (i.nb, cel [.int .i64 i.s, .int .i64 i.e, .slice i.q i.n i.c, .int .i64 i.wd] ty_Item)
def IT.v (i : IT) : Value := .iface ty_P_Item (.pointer (some ⟨i.nb, 0, none⟩))
def IT.db (i : IT) : DB := ⟨i.v, i.chunk :: (i.IM ++ ownC i.D), txsC i.D⟩
structure IT.ok (i : IT) : Prop where
  sl : Sl 1 ty_Block i.q i.n i.c (i.D.map DB.v) i.IM
  len : i.D.length < 1000000
  se : i.s < 1000000000 ∧ i.e < 1000000000
def DB.ifc (d : DB) : Prop := ∃ ty q, d.v = .iface ty (.pointer q)
end Go.Proofs.YtgbgadkldalkbaaGreatDoor


set_option linter.unusedVariables false
namespace Go.Proofs.YtgbgadkldalkbaaGreatDoor
open Go.Proofs Go.IntWalk Go.RowKit
variable {σ : Out} {w : World} {L L' : List Chunk} {R : Ending → World → Prop}
def tightDB (d : DB) : DB := match d.v with
  | .iface ty _ => if ty = ty_P_Paragraph then match d.txs with | [x] => ⟨.iface ty_P_Text (.pointer (some ⟨x.t, 0, none⟩)), d.own, d.txs⟩ | _ => d else d
  | _ => d
theorem tightDB_para (nb t s e : Nat) (raw : List UInt8) : tightDB (paraDB nb t s e raw) = ⟨.iface ty_P_Text (.pointer (some ⟨t, 0, none⟩)), [paraC nb s e t], [⟨t, s, e, raw⟩]⟩ := by
  unfold tightDB paraDB
  simp
theorem tightDB_other {d : DB} {ty : TypeId} {q : Option Addr} (h : d.v = .iface ty (.pointer q)) (ht : ty ≠ ty_P_Paragraph) : tightDB d = d := by
  unfold tightDB
  rw [h]
  simp [ht]
def DB.kindOK (d : DB) : Prop := (∃ nb t s e raw, d = paraDB nb t s e raw) ∨ (∃ ty q, d.v = .iface ty (.pointer q) ∧ ty ≠ ty_P_Paragraph)
theorem tightDB_own {d : DB} (h : d.kindOK) : (tightDB d).own = d.own ∧ (tightDB d).txs = d.txs := by
  rcases h with ⟨nb, t, s, e, raw, rfl⟩ | ⟨ty, q, h, ht⟩
  · rw [tightDB_para]; exact ⟨rfl, rfl⟩
  · rw [tightDB_other h ht]; exact ⟨rfl, rfl⟩
theorem ownC_tight {D : List DB} (h : ∀ d ∈ D, d.kindOK) : ownC (D.map tightDB) = ownC D ∧ txsC (D.map tightDB) = txsC D := by
  induction D with
  | nil => exact ⟨rfl, rfl⟩
  | cons d D ih =>
    obtain ⟨a, b⟩ := tightDB_own (h d (by simp))
    obtain ⟨c, e⟩ := ih fun x hx => h x (List.mem_cons_of_mem _ hx)
    constructor
    · show (tightDB d).own ++ ownC (D.map tightDB) = d.own ++ ownC D
      rw [a, c]
    · show (tightDB d).txs ++ txsC (D.map tightDB) = d.txs ++ txsC D
      rw [b, e]
inductive Ret : List IT → List IT → Prop where
  | nil : Ret [] []
  | cons {i i' : IT} {is is' : List IT} : i' = { i with D := i.D.map tightDB, IM := i'.IM } → i'.ok → Ret is is' → Ret (i :: is) (i' :: is')
theorem Ret.snoc {is is' : List IT} {i i' : IT} (h : Ret is is') (h1 : i' = { i with D := i.D.map tightDB, IM := i'.IM }) (h2 : i'.ok) : Ret (is ++ [i]) (is' ++ [i']) := by
  induction h with
  | nil => exact .cons h1 h2 .nil
  | cons a b _ ih => exact .cons a b ih
theorem Ret.vs {is is' : List IT} (h : Ret is is') : is'.map IT.v = is.map IT.v := by
  induction h with
  | nil => rfl
  | cons a b _ ih => rw [List.map_cons, List.map_cons, ih, a]; rfl
theorem Ret.len {is is' : List IT} (h : Ret is is') : is'.length = is.length := by
  induction h with
  | nil => rfl
  | cons a b _ ih => simp [ih]
end Go.Proofs.YtgbgadkldalkbaaGreatDoor


set_option linter.unusedVariables false
namespace Go.Proofs.YtgbgadkldalkbaaGreatDoor
open Go.Proofs Go.IntWalk Go.RowKit
variable {σ : Out} {w : World} {L L' : List Chunk} {R : Ending → World → Prop}
theorem Prints.perm {m : String} {v : Value} {T T' T1 T1' : List Chunk} {f : List UInt8 → List UInt8} (h : Prints m v T T' f) (e : ∀ a, cnt a T1 = cnt a T) (e' : ∀ a, cnt a T1' = cnt a T') : Prints m v T1 T1' f := by
  refine ⟨h.1, fun σ R b l M L w hB hS hb hR => ?_⟩
  refine h.2 σ R b l M L w hB (hS.re fun a => ?_) hb fun w M' hB hS => hR w M' hB (hS.re fun a => ?_)
  · have := e a; simp only [cnt_append]; omega
  · have := e' a; simp only [cnt_append]; omega
def isText : Value → Bool
  | .iface ty _ => Nat.beq ty ty_P_Text
  | _ => false
def nlT (v : Value) (l : List UInt8) : List UInt8 := if isText v then l ++ [10] else l
theorem nlT_le (v : Value) (l : List UInt8) : l.length ≤ (nlT v l).length := by unfold nlT; split <;> simp
inductive PrintsT : List Value → List Chunk → List Chunk → (List UInt8 → List UInt8) → Prop where
  | nil : PrintsT [] [] [] id
  | one {v : Value} {T T' : List Chunk} {f : List UInt8 → List UInt8} : (∃ ty q, v = .iface ty (.pointer q)) → Prints "PrintHTML" v T T' f → PrintsT [v] T T' f
  | cons {v v2 : Value} {vs : List Value} {T T' K K' : List Chunk} {f g : List UInt8 → List UInt8} : (∃ ty q, v = .iface ty (.pointer q)) → Prints "PrintHTML" v T T' f → PrintsT (v2 :: vs) K K' g → PrintsT (v :: v2 :: vs) (T ++ K) (T' ++ K') (fun l => g (nlT v (f l)))
theorem PrintsT.mono {vs : List Value} {K K' : List Chunk} {f : List UInt8 → List UInt8} (h : PrintsT vs K K' f) : ∀ l, l.length ≤ (f l).length := by
  induction h with
  | nil => exact fun l => Nat.le_refl _
  | one _ h1 => exact h1.1
  | cons _ h1 _ ih => exact fun l => Nat.le_trans (Nat.le_trans (h1.1 l) (nlT_le _ _)) (ih _)
inductive ShowT (F : List UInt8 → List UInt8 → List UInt8) : List DB → (List UInt8 → List UInt8) → Prop where
  | nil : ShowT F [] id
  | one {d : DB} {f : List UInt8 → List UInt8} : d.ifc → d.shows F f → ShowT F [d] f
  | cons {d d2 : DB} {D : List DB} {f g : List UInt8 → List UInt8} : d.ifc → d.shows F f → ShowT F (d2 :: D) g → ShowT F (d :: d2 :: D) (fun l => g (nlT d.v (f l)))
end Go.Proofs.YtgbgadkldalkbaaGreatDoor


set_option linter.unusedVariables false
namespace Go.Proofs.YtgbgadkldalkbaaGreatDoor
open Go.Proofs Go.IntWalk Go.RowKit
variable {σ : Out} {w : World} {L L' : List Chunk} {R : Ending → World → Prop}
structure Bk where
  ob : OB
  own : List Chunk
  D : List DB
  IM : List Chunk
def Bk.ok (f : Bk) : Prop := Sl 1 ty_Block f.ob.q f.ob.n f.ob.c (f.D.map DB.v) f.IM ∧ f.D.length < 100000 ∧ f.ob.s < 1000000000 ∧ f.ob.e < 1000000000
def txc (D : List DB) : List Chunk := (txsC D).map TX.chunk
def Bk.mem (f : Bk) : List Chunk := f.IM ++ (f.own ++ (ownC f.D ++ txc f.D))
def memFs (fs : List Bk) : List Chunk := fs.flatMap Bk.mem
def txF (fs : List Bk) : List TX := fs.flatMap fun f => txsC f.D
theorem memFs_append (a b : List Bk) : memFs (a ++ b) = memFs a ++ memFs b := by simp [memFs]
theorem memFs_one (f : Bk) : memFs [f] = f.IM ++ (f.own ++ (ownC f.D ++ txc f.D)) := by simp [memFs, Bk.mem]
theorem txF_append (a b : List Bk) : txF (a ++ b) = txF a ++ txF b := by simp [txF]
theorem txF_one (f : Bk) : txF [f] = txsC f.D := by simp [txF]
theorem txF_two (f g : Bk) : txF [f, g] = txsC f.D ++ txsC g.D := by simp [txF]
theorem txc_snoc (D : List DB) (d : DB) : txc (D ++ [d]) = txc D ++ d.txs.map TX.chunk := by simp [txc, txsC_snoc]
def DocC (σ : Out) (b : Nat) (L : List Chunk) (fs : List Bk) (lf : Leaf) (p : PS) (w : World) : Prop :=
  ∃ M TM lobs LM, Stk p (fs.map Bk.ob ++ lobs) M ∧ Txts p ((txF fs).map TX.t) TM ∧ (∀ f ∈ fs, f.ok) ∧ LeafAt lf lobs LM ∧ Sat σ w (p.at b :: M ++ (TM ++ (memFs fs ++ (LM ++ L))))
theorem DocC.closed {b : Nat} {gs : List Bk} {par f : Bk} {p2 : PS} {M2 IM2 TM : List Chunk} {q' : Option Addr} {c' : Nat} {d : DB} {own' : List Chunk} (hok : ∀ g ∈ gs ++ [par, f], Bk.ok g) (hD : par.D.length < 99999)
    (hs2 : Stk p2 (gs.map Bk.ob ++ [{ par.ob with q := q', n := par.ob.n + 1, c := c' }]) M2) (hI2 : Sl 1 ty_Block q' (par.ob.n + 1) c' (par.D.map DB.v ++ [d.v]) IM2) (ht : Txts p2 ((txF (gs ++ [par, f])).map TX.t) TM) (htx : d.txs = txsC f.D)
    (h : Sat σ w (p2.at b :: M2 ++ (IM2 ++ (TM ++ (memFs gs ++ (own' ++ (ownC par.D ++ (txc par.D ++ (d.own ++ (txc f.D ++ L)))))))))) :
    DocC σ b L (gs ++ [⟨{ par.ob with q := q', n := par.ob.n + 1, c := c' }, own', par.D ++ [d], IM2⟩]) .none p2 w := by
  refine ⟨M2, TM, [], [], ?_, ?_, ?_, ⟨rfl, rfl⟩, ?_⟩
  · rw [List.map_append, List.append_nil]; exact hs2
  · have e : txF (gs ++ [⟨{ par.ob with q := q', n := par.ob.n + 1, c := c' }, own', par.D ++ [d], IM2⟩]) = txF (gs ++ [par, f]) := by
      rw [txF_append, txF_append, txF_one, txF_two, txsC_snoc, htx]
    rw [e]; exact ht
  · intro g hg
    rcases List.mem_append.1 hg with hg | hg
    · exact hok g (by simp [hg])
    · obtain rfl := List.mem_singleton.1 hg
      obtain ⟨_, h2, h3⟩ := hok par (by simp)
      exact ⟨by rw [List.map_append]; exact hI2, by simp; omega, h3⟩
  · rw [memFs_append, memFs_one, ownC_snoc, txc_snoc, htx]
    show Sat σ w (p2.at b :: M2 ++ (TM ++ (memFs gs ++ (IM2 ++ (own' ++ ((ownC par.D ++ d.own) ++ (txc par.D ++ txc f.D)))) ++ ([] ++ L))))
    exact h.re (by intro _; simp only [List.append_eq, cnt_append, cnt_cons, cnt_nil] <;> omega)
end Go.Proofs.YtgbgadkldalkbaaGreatDoor


set_option linter.unusedVariables false
namespace Go.Proofs.YtgbgadkldalkbaaGreatDoor
open Go.Proofs Go.IntWalk Go.RowKit
variable {σ : Out} {w : World} {L L' : List Chunk} {R : Ending → World → Prop}
theorem DB.kindOK.ifc {d : DB} (h : d.kindOK) : d.ifc ∧ (tightDB d).ifc := by
  rcases h with ⟨nb, t, s, e, raw, rfl⟩ | ⟨ty, q, h, ht⟩
  · rw [tightDB_para]
    exact ⟨⟨_, _, rfl⟩, ⟨_, _, rfl⟩⟩
  · rw [tightDB_other h ht]
    exact ⟨⟨_, _, h⟩, ⟨_, _, h⟩⟩
theorem Ret.facts {is is' : List IT} (h : Ret is is') (hk : ∀ i ∈ is, ∀ d ∈ i.D, d.kindOK) : txsC (is'.map IT.db) = txsC (is.map IT.db) ∧ ∀ i ∈ is', i.ok ∧ ∀ d ∈ i.D, d.ifc := by
  induction h with
  | nil => exact ⟨rfl, by simp⟩
  | @cons i i' is is' h1 h2 _ ih =>
    obtain ⟨e1, e2⟩ := ih fun j hj => hk j (List.mem_cons_of_mem _ hj)
    have hki := hk i (by simp)
    have ed : i'.D = i.D.map tightDB := by rw [h1]
    refine ⟨?_, fun j hj => ?_⟩
    · show txsC i'.D ++ txsC (is'.map IT.db) = txsC i.D ++ txsC (is.map IT.db)
      rw [e1, ed, (ownC_tight hki).2]
    · rcases List.mem_cons.1 hj with rfl | hj
      · refine ⟨h2, fun d hd => ?_⟩
        rw [ed] at hd
        obtain ⟨d0, hd0, rfl⟩ := List.mem_map.1 hd
        exact (hki d0 hd0).ifc.2
      · exact e2 j hj
end Go.Proofs.YtgbgadkldalkbaaGreatDoor


set_option linter.unusedVariables false
namespace Go.Proofs.YtgbgadkldalkbaaGreatDoor
open Go.Proofs Go.IntWalk Go.RowKit
variable {σ : Out} {w : World} {L L' : List Chunk} {R : Ending → World → Prop}
structure Ln.has (l : Ln) (c : UInt8) (rest : List UInt8) : Prop where
  ok : l.ok
  sp : l.sp = 0
  tx : l.text.drop l.i = c :: rest
theorem Ln.has.get {l : Ln} {c : UInt8} {r : List UInt8} (h : l.has c r) : l.text[l.i]? = some c := by
  have := congrArg (fun x : List UInt8 => x[0]?) h.tx
  simpa using this
theorem Ln.has.lt {l : Ln} {c : UInt8} {r : List UInt8} (h : l.has c r) : l.i < l.text.length := by
  have := congrArg List.length h.tx
  simp at this; omega
theorem Ln.has.next {l : Ln} {c d : UInt8} {r : List UInt8} (h : l.has c (d :: r)) : ({ l with i := l.i + 1 } : Ln).has d r := by
  have hlt := congrArg List.length h.tx
  simp at hlt
  refine ⟨⟨by show l.i + 1 ≤ l.text.length; omega, by show l.tab ≤ l.i + 1; have := h.ok.tab; omega, h.ok.len, h.ok.sp⟩, h.sp, ?_⟩
  show l.text.drop (l.i + 1) = d :: r
  have := congrArg (List.drop 1) h.tx
  rw [List.drop_drop] at this
  simpa [Nat.add_comm] using this
theorem Ln.has.tsGo {l : Ln} {c : UInt8} {r : List UInt8} (h : l.has c r) (hc : isST c = false) (mn k n : Nat) (e : Bool) : l.tsGo mn e (k + 1) n = if mn ≤ n then some l else none := by
  simp only [isST, Bool.or_eq_false_iff, beq_eq_false_iff_ne, ne_eq] at hc
  have hlt := h.lt
  simp [Ln.tsGo, h.sp, h.get, hc.1, hc.2, Nat.not_le.2 hlt]
theorem Ln.has.sp1 {l : Ln} {r : List UInt8} {mn : Nat} {e : Bool} (h : l.has 32 r) : l.trimSp mn 1 e = some { l with i := l.i + 1 } := by
  have hlt := h.lt
  simp [Ln.trimSp, Ln.tsGo, h.sp, h.get, Nat.not_le.2 hlt]
theorem Ln.has.lead {l : Ln} {c : UInt8} {r : List UInt8} (h : l.has c r) (hc : isST c = false) (k : Nat) (e : Bool) : l.lead (k + 1) e = l := by
  unfold Ln.lead Ln.trimSp; rw [h.tsGo hc]; rfl
theorem Ln.has.strip {l : Ln} {c : UInt8} {r : List UInt8} (h : l.has c r) (hc : isST c = false) : l.strip 3 0 = (0, l) := by
  simp only [Ln.strip, Ln.trimSp]; rw [h.tsGo hc]; rfl
theorem Ln.has.peek {l : Ln} {c : UInt8} {r : List UInt8} (h : l.has c r) : l.peek = c := by
  unfold Ln.peek
  rw [h.sp, if_neg (by decide), List.getD_eq_getElem?_getD, h.get]; rfl
theorem Ln.has.trimC {l : Ln} {c : UInt8} {r : List UInt8} (h : l.has c r) (d : UInt8) : l.trimC d = if c = d then some { l with i := l.i + 1 } else none := by
  unfold Ln.trimC
  rw [h.sp, if_neg (by decide), h.get]
  simp
theorem Ln.has.blank {l : Ln} {c : UInt8} {r : List UInt8} (h : l.has c r) (hc : isST c = false) : l.blank = false := by
  unfold Ln.blank
  rw [h.tx, List.all_cons, hc]; rfl
theorem Ln.has.plain {l : Ln} {c : UInt8} {r : List UInt8} (h : l.has c r) (hc : plainStart c = true) : l.plain := by
  simp only [plainStart, Bool.and_eq_true, Bool.not_eq_true', bne_iff_ne, ne_eq] at hc
  obtain ⟨⟨h0, h60⟩, hbu⟩ := hc
  have hst := plainStart0_st h0
  simp only [plainStart0, Bool.not_eq_true', Bool.or_eq_false_iff, beq_eq_false_iff_ne, ne_eq] at h0
  obtain ⟨⟨⟨⟨⟨⟨⟨⟨_, h62⟩, h35⟩, h95⟩, h96⟩, h126⟩, h61⟩, h45⟩, h42⟩ := h0
  have hlead : ∀ e, l.lead 3 e = l := h.lead hst 2
  have hpk : (l.lead 3 false).peek = c := by rw [hlead]; exact h.peek
  refine ⟨h.ok, h.blank hst, ?_, ?_, ?_, LDecl.of_peek h.ok (by rw [h.strip hst, h.peek]; exact hbu), HDecl.of_peek h.ok (by rw [hpk]; exact h60), ?_, ?_⟩
  · unfold Ln.quote; rw [hlead, h.trimC, if_neg h62]; rfl
  · unfold Ln.heading; rw [hlead, h.trimC, if_neg h35]
  · unfold Ln.isHR
    simp only [hlead, h.peek]
    rw [if_neg]
    rintro (hh | hh | hh)
    · exact h45 hh
    · exact h95 hh
    · exact h42 hh
  · rw [h.strip hst, h.peek]; exact ⟨h96, h126⟩
  · unfold Ln.trimSp; rw [h.tsGo hst]; rfl
theorem Ln.has.quote {l : Ln} {d : UInt8} {r : List UInt8} (h : l.has 62 (32 :: d :: r)) : l.quote = some { l with i := l.i + 2 } := by
  unfold Ln.quote
  rw [h.lead (by decide) 2, h.trimC, if_pos rfl]
  show some (Ln.lead 1 true _) = _
  unfold Ln.lead
  rw [h.next.sp1]
  rfl
theorem Ln.has.bullet {l : Ln} {c d : UInt8} {r : List UInt8} (h : l.has c (32 :: d :: r)) (hc : c = 45 ∨ c = 42 ∨ c = 43) (hd : isST d = false) : l.bullet = some (c, 2, { l with i := l.i + 2 }) := by
  have hst : isST c = false := by rcases hc with rfl | rfl | rfl <;> decide
  have h2 := h.next.next
  unfold Ln.bullet
  rw [h.strip hst]
  simp only [h.peek]
  rw [if_pos hc, h.trimC, if_pos rfl]
  show (match (Ln.trimSp 1 1 true _) with | none => none | some t2 => _) = _
  rw [h.next.sp1]
  simp only
  rw [h2.strip hd]
  simp only
  have : Ln.trimSp 1 1 true ({ l with i := l.i + 1 + 1 } : Ln) = none := by
    unfold Ln.trimSp; rw [h2.tsGo hd]; rfl
  rw [this]
theorem dropST_end {d : UInt8} (hd : isST d = false) : ∀ m : List UInt8, ∃ m3, (m ++ [d]).dropWhile isST = m3 ++ [d]
  | [] => ⟨[], by simp [hd]⟩
  | x :: m => by
    rw [List.cons_append, List.dropWhile_cons]
    split
    · exact dropST_end hd m
    · exact ⟨x :: m, rfl⟩
theorem drop_suffix {u s : List UInt8} (h : u <:+ s) : s.drop (s.length - u.length) = u := by
  obtain ⟨a, rfl⟩ := h
  rw [List.length_append, Nat.add_sub_cancel, List.drop_left]
theorem Ln.hrGo_end {c d : UInt8} : ∀ (f n : Nat) (l : Ln), l.ok → l.sp = 0 → (∃ m, l.text.drop l.i = m ++ [d]) → d ≠ c → isST d = false → l.hrGo c f n = false
  | 0, _, _, _, _, _, _, _ => rfl
  | f + 1, n, l, hl, hsp, ⟨m, hm⟩, hdc, hd => by
    cases m with
    | nil =>
      have h : l.has d [] := ⟨hl, hsp, hm⟩
      have := h.lt
      simp only [Ln.hrGo]
      rw [h.trimC, if_neg hdc]
      simp; omega
    | cons x m =>
      have h : l.has x (m ++ [d]) := ⟨hl, hsp, by rw [hm]; rfl⟩
      have hlt := h.lt
      simp only [Ln.hrGo]
      rw [h.trimC]
      by_cases hx : x = c
      · rw [if_pos hx]
        simp only
        have hnx : ∃ y m2, m ++ [d] = y :: m2 := by cases m with | nil => exact ⟨_, _, rfl⟩ | cons y m2 => exact ⟨_, _, rfl⟩
        obtain ⟨y, m2, hy⟩ := hnx
        have h1 := (hy ▸ h : l.has x (y :: m2)).next
        have hdrop : ({ l with i := l.i + 1 } : Ln).text.drop (l.i + 1) = m ++ [d] := by rw [hy]; exact h1.tx
        have hsk := Ln.skip_ok h1.ok
        refine Ln.hrGo_end f (n + 1) _ hsk rfl ?_ hdc hd
        show ∃ m3, l.text.drop (({ l with i := l.i + 1 } : Ln).skip.i) = m3 ++ [d]
        have e : l.text.drop (l.i + 1) = m ++ [d] := hdrop
        have hi : ({ l with i := l.i + 1 } : Ln).skip.i = l.text.length - ((m ++ [d]).dropWhile isST).length := by
          simp only [Ln.skip, e]
        rw [hi, drop_suffix ((List.dropWhile_suffix _).trans (e ▸ List.drop_suffix _ _))]
        exact dropST_end hd m
      · rw [if_neg hx]
        simp; omega
theorem Ln.has.isHR {l : Ln} {c d : UInt8} {r m : List UInt8} (h : l.has c r) (hc : isST c = false) (hm : c :: r = m ++ [d]) (hd : isST d = false) (hdc : d ≠ 45 ∧ d ≠ 95 ∧ d ≠ 42) : l.isHR = false := by
  unfold Ln.isHR
  simp only [h.lead hc 2, h.peek]
  split
  · rename_i hh
    refine Ln.hrGo_end _ _ l h.ok h.sp ⟨m, by rw [h.tx, hm]⟩ ?_ hd
    rcases hh with rfl | rfl | rfl
    · exact hdc.1
    · exact hdc.2.1
    · exact hdc.2.2
  · rfl
end Go.Proofs.YtgbgadkldalkbaaGreatDoor


set_option linter.unusedVariables false
namespace Go.Proofs.YtgbgadkldalkbaaGreatDoor
open Go.Proofs Go.IntWalk Go.RowKit
variable {σ : Out} {w : World} {L L' : List Chunk} {R : Ending → World → Prop}
def Runs (R : Ending → World → Prop) (Xb : OA → Nat → WP) (b b1 : Nat) : Prop :=
  ∀ w, (∀ X : OA → Nat → WP, (∀ x0 x3 w, g_parseState_addLine.bl102 R X x0 x3 w → X x0 x3 w) → g_parseState_addLine.bl102 R X (some ⟨b, 0, none⟩) b1 w) → Xb (some ⟨b, 0, none⟩) b1 w
theorem Runs.of {X : OA → Nat → WP} (hX : ∀ x0 x3 w, g_parseState_addLine.bl102 R X x0 x3 w → X x0 x3 w) (b b1 : Nat) : Runs R X b b1 := fun w H => hX _ _ _ (H X hX)
end Go.Proofs.YtgbgadkldalkbaaGreatDoor

