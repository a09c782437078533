/- Part 5 of the proof of the law FnUnderlined: for every input the law returns true, the inputs read as they did, and memory that was there is as it was; under the conditions of the given row alone. -/
import Derived.Test.YtmicoampfglaiaaGreatDoorA4
set_option linter.all false
/- append into a row that has room, and the inlines as they lie in memory. -/
set_option linter.unusedVariables false
namespace Go.Proofs.YtmicoampfglaiaaGreatDoor
open Go.Proofs Go.IntWalk Go.RowKit
variable {σ : Out} {w : World} {L L' : List Chunk} {R : Ending → World → Prop}
/-- append of one element into the row cs, behind its first k cells. -/
theorem appRoom {t ty e : TypeId} {bytes : Nat} (r : Row P t e 1 bytes) {b k c : Nat} {cs : List Value} (h : Sat σ w ((b, cel cs e) :: L)) (hk : k < cs.length) (hc : k < c) {v : Value} (hv : v.cells = #[v]) (h1 : v.oneCell' = true)
    (hfill : Instr.fill (fun i => some (i * 1, 1)) ((Array.range (1 * 1)).map (r.z.cells[· % r.z.cells.size]!)) [(0, v)] = some v.cells)
    {K : Option Addr → Nat → Nat → World → Prop} {C : World → Prop} (hC : ∀ w1 X, Sat σ w1 (X :: ((b, cel cs e) :: L)) → C w1) (hK : ∀ w', Sat σ w' ((b, cel (cs.set k v) e) :: L) → K (some ⟨b, 0, none⟩) (k + 1) c w') :
    ∃ rq rn rc w1, (Instr.buildSlice t 1 #[(0, v)]).run P w = .ok (.slice rq rn rc) w1 ∧ C w1 ∧
      ∃ q' n' c' w2, (Builtin.append_ #[t, t] ty #[.slice (some ⟨b, 0, none⟩) k c, .slice rq rn rc]).run P w1 = .ok (.slice q' n' c') w2 ∧ K q' n' c' w2 := by
  have hrun := run_buildSlice (P := P) w t e 1 #[(0, v)] v.cells r.i r.z r.ht r.hi r.hz (by rw [r.hs]; omega) (by rw [r.hs]; omega) (by rw [r.hs]; exact hfill)
  refine ⟨_, _, _, _, hrun, ?_⟩
  have ha := h.alc v.cells.toList e
  have e3 : YtmicoampfglaiaaGreatDoor.alc w v.cells.toList.toArray e = w.alloc (.cells v.cells e) := by rw [Array.toArray_toList]; rfl
  rw [e3] at ha
  generalize hw1 : w.alloc (.cells v.cells e) = w1 at ha ⊢
  generalize w.heap.size = nb at ha ⊢
  rw [hv] at ha
  have hs : Src P 1 t (.slice (some ⟨nb, 0, none⟩) 1 1) 1 [v] w1 := by
    refine Src.ofSlice w1 r.ht _ 1 1 _ (by simp) (fun j u hu => ?_) (by simp [h1])
    rw [show (Addr.add ⟨nb, 0, none⟩ j) = ⟨nb, j, none⟩ from Addr.add_zero_lit nb j]
    exact ha.ld (List.mem_cons_self ..) hu
  have hs' : Src P r.i.size t (.slice (some ⟨nb, 0, none⟩) 1 1) 1 [v] w1 := by rw [r.hs]; exact hs
  refine ⟨hC _ _ ha, _, _, _, _, run_append_room_src w1 t t ty e r.i r.ht r.hi b 0 k c _ 1 [v] hs' (by omega) ?_ ?_, hK _ ?_⟩
  · intro j hj
    simp at hj
    subst hj
    rw [r.hs, Nat.zero_add, Nat.mul_one, Nat.add_zero, ha.ld (.tail _ (.head _)) (List.getElem?_eq_getElem hk)]
    rfl
  · exact fun j hj => ha.not_frozen (.tail _ (.head _))
  · rw [r.hs]
    have hb : Sat σ w1 ((b, cel cs e) :: (nb, cel [v] e) :: L) := ha.up1
    have := setCells_sat hb (0 + k * 1) [v] (by simp; omega)
    rw [Nat.zero_add, Nat.mul_one] at this ⊢
    have e1 : cs.take k ++ [v] ++ cs.drop (k + 1) = cs.set k v := by
      rw [List.set_eq_take_append_cons_drop, if_pos hk]; simp
    rw [show [v].length = 1 from rfl, e1] at this
    exact this.less [(nb, cel [v] e)] (by intro _; simp only [List.append_eq, cnt_append, cnt_cons, cnt_nil] <;> omega)
theorem appRoom' {t ty e : TypeId} {bytes : Nat} (r : Row P t e 1 bytes) {b k c : Nat} {cs : List Value} (h : Sat σ w ((b, cel cs e) :: L)) (hk : k < cs.length) (hc : k < c) {v : Value} (hv : v.cells = #[v]) (h1 : v.oneCell' = true)
    (hfill : Instr.fill (fun i => some (i * 1, 1)) ((Array.range (1 * 1)).map (r.z.cells[· % r.z.cells.size]!)) [(0, v)] = some v.cells)
    {K : Option Addr → Nat → Nat → World → Prop} (hK : ∀ w', Sat σ w' ((b, cel (cs.set k v) e) :: L) → K (some ⟨b, 0, none⟩) (k + 1) c w') :
    ∃ rq rn rc w1, (Instr.buildSlice t 1 #[(0, v)]).run P w = .ok (.slice rq rn rc) w1 ∧
      ∃ q' n' c' w2, (Builtin.append_ #[t, t] ty #[.slice (some ⟨b, 0, none⟩) k c, .slice rq rn rc]).run P w1 = .ok (.slice q' n' c') w2 ∧ K q' n' c' w2 := by
  obtain ⟨rq, rn, rc, w1, h1, _, h2⟩ := appRoom (ty := ty) r h hk hc hv h1 hfill (C := fun _ => True) (fun _ _ _ => trivial) hK
  exact ⟨rq, rn, rc, w1, h1, h2⟩

/-! ### Inlines -/
inductive Inl where
  | plain (s : List UInt8)
  | openP (s : List UInt8) (i : Nat)
  | emphP (s : List UInt8) (co cc : Bool) (i n : Int)
  | esc (s : List UInt8)
  | code (s : List UInt8)
  | strong (m : List UInt8) (ks : List Inl)
  | del (m : List UInt8) (ks : List Inl)
  | emph (m : List UInt8) (ks : List Inl)
  | link (ks : List Inl) (url title : List UInt8) (tc : UInt8) (corner : Bool)
  | image (ks : List Inl) (url title : List UInt8) (tc : UInt8) (corner : Bool)
  | auto (text url : List UInt8)
  | tag (s : List UInt8)
  | hard
  | soft
  | task (b : Bool)
def ptrV (t : TypeId) (b : Nat) : Value := .iface t (.pointer (some ⟨b, 0, none⟩))
mutual
def InlAt : Inl → Value → List Chunk → Prop
  | .plain s, v, M => ∃ b cs e, v = ptrV ty_P_Plain b ∧ M = [(b, cel (.string (bs s) :: cs) e)]
  | .openP s i, v, M => ∃ b e, v = ptrV ty_P_openPlain b ∧ M = [(b, cel [.string (bs s), .int .i64 i] e)]
  | .emphP s co cc i n, v, M => ∃ b e, v = ptrV ty_P_emphPlain b ∧ M = [(b, cel [.string (bs s), .bool co, .bool cc, .int .i64 i, .int .i64 n] e)]
  | .esc s, v, M => ∃ b e, v = ptrV ty_P_Escaped b ∧ M = [(b, cel [.string (bs s)] e)]
  | .code s, v, M => ∃ b e, v = ptrV ty_P_Code b ∧ M = [(b, cel [.string (bs s)] e)]
  | .strong m ks, v, M => ∃ b e q n c vs RM KM, v = ptrV ty_P_Strong b ∧ M = (b, cel [.string (bs m), .slice q n c] e) :: (RM ++ KM) ∧ Sl 1 ty_Inline q n c vs RM ∧ InlsAt ks vs KM
  | .del m ks, v, M => ∃ b e q n c vs RM KM, v = ptrV ty_P_Del b ∧ M = (b, cel [.string (bs m), .slice q n c] e) :: (RM ++ KM) ∧ Sl 1 ty_Inline q n c vs RM ∧ InlsAt ks vs KM
  | .emph m ks, v, M => ∃ b e q n c vs RM KM, v = ptrV ty_P_Emph b ∧ M = (b, cel [.string (bs m), .slice q n c] e) :: (RM ++ KM) ∧ Sl 1 ty_Inline q n c vs RM ∧ InlsAt ks vs KM
  | .link ks u t tc k, v, M => ∃ b e q n c vs RM KM, v = ptrV ty_P_Link b ∧ M = (b, cel [.slice q n c, .string (bs u), .string (bs t), .int .u8 tc.toNat, .bool k] e) :: (RM ++ KM) ∧ Sl 1 ty_Inline q n c vs RM ∧ InlsAt ks vs KM
  | .image ks u t tc k, v, M => ∃ b e q n c vs RM KM, v = ptrV ty_P_Image b ∧ M = (b, cel [.slice q n c, .string (bs u), .string (bs t), .int .u8 tc.toNat, .bool k] e) :: (RM ++ KM) ∧ Sl 1 ty_Inline q n c vs RM ∧ InlsAt ks vs KM
  | .auto t u, v, M => ∃ b e, v = ptrV ty_P_AutoLink b ∧ M = [(b, cel [.string (bs t), .string (bs u)] e)]
  | .tag s, v, M => ∃ b e, v = ptrV ty_P_HTMLTag b ∧ M = [(b, cel [.string (bs s)] e)]
  | .hard, v, M => ∃ b e, v = ptrV ty_P_HardBreak b ∧ M = [(b, cel [] e)]
  | .soft, v, M => ∃ b e, v = ptrV ty_P_SoftBreak b ∧ M = [(b, cel [] e)]
  | .task k, v, M => ∃ b e, v = ptrV ty_P_Task b ∧ M = [(b, cel [.bool k] e)]
def InlsAt : List Inl → List Value → List Chunk → Prop
  | [], vs, M => vs = [] ∧ M = []
  | t :: ts, vs, M => ∃ v vs' M1 M2, vs = v :: vs' ∧ M = M1 ++ M2 ∧ InlAt t v M1 ∧ InlsAt ts vs' M2
end
theorem InlsAt.append : ∀ {a b : List Inl} {vs us : List Value} {M N : List Chunk}, InlsAt a vs M → InlsAt b us N → InlsAt (a ++ b) (vs ++ us) (M ++ N)
  | [], b, vs, us, M, N, h1, h2 => by obtain ⟨rfl, rfl⟩ := h1; exact h2
  | t :: a, b, vs, us, M, N, h1, h2 => by
    obtain ⟨v, vs', M1, M2, rfl, rfl, h3, h4⟩ := h1
    exact ⟨v, vs' ++ us, M1, M2 ++ N, rfl, by simp, h3, h4.append h2⟩
theorem InlsAt.split : ∀ {a b : List Inl} {vs : List Value} {M : List Chunk}, InlsAt (a ++ b) vs M → ∃ vs1 vs2 M1 M2, vs = vs1 ++ vs2 ∧ M = M1 ++ M2 ∧ InlsAt a vs1 M1 ∧ InlsAt b vs2 M2
  | [], b, vs, M, h => ⟨[], vs, [], M, rfl, rfl, ⟨rfl, rfl⟩, h⟩
  | t :: a, b, vs, M, h => by
    obtain ⟨v, vs', M1, M2, rfl, rfl, h3, h4⟩ := h
    obtain ⟨vs1, vs2, N1, N2, rfl, rfl, h5, h6⟩ := h4.split
    exact ⟨v :: vs1, vs2, M1 ++ N1, N2, rfl, by simp, ⟨v, vs1, M1, N1, rfl, rfl, h3, h5⟩, h6⟩
theorem InlsAt.one {t : Inl} {v : Value} {M : List Chunk} (h : InlAt t v M) : InlsAt [t] [v] M := ⟨v, [], M, [], rfl, by simp, h, rfl, rfl⟩
theorem InlsAt.length : ∀ {a : List Inl} {vs : List Value} {M : List Chunk}, InlsAt a vs M → vs.length = a.length
  | [], vs, M, h => by rw [h.1]; rfl
  | t :: a, vs, M, h => by
    obtain ⟨v, vs', M1, M2, rfl, rfl, h3, h4⟩ := h
    simp [h4.length]
/-- The type of an inline's value. -/
def Inl.ty : Inl → TypeId
  | .plain _ => ty_P_Plain | .openP _ _ => ty_P_openPlain | .emphP _ _ _ _ _ => ty_P_emphPlain | .esc _ => ty_P_Escaped | .code _ => ty_P_Code | .strong _ _ => ty_P_Strong | .del _ _ => ty_P_Del | .emph _ _ => ty_P_Emph
  | .link _ _ _ _ _ => ty_P_Link | .image _ _ _ _ _ => ty_P_Image | .auto _ _ => ty_P_AutoLink | .tag _ => ty_P_HTMLTag | .hard => ty_P_HardBreak | .soft => ty_P_SoftBreak | .task _ => ty_P_Task
theorem InlAt.ptr {t : Inl} {v : Value} {M : List Chunk} (h : InlAt t v M) : ∃ b cs e M', v = ptrV t.ty b ∧ M = (b, cel cs e) :: M' := by
  cases t <;> first
    | (obtain ⟨b, cs, e, rfl, rfl⟩ := h; exact ⟨b, _, _, [], rfl, rfl⟩)
    | (obtain ⟨b, e, rfl, rfl⟩ := h; exact ⟨b, _, _, [], rfl, rfl⟩)
    | (obtain ⟨b, e, q, n, c, vs, RM, KM, rfl, rfl, _⟩ := h; exact ⟨b, _, _, _, rfl, rfl⟩)
end Go.Proofs.YtmicoampfglaiaaGreatDoor


/- emph over a list without delimiters; plain texts are merged. -/
set_option linter.unusedVariables false
namespace Go.Proofs.YtmicoampfglaiaaGreatDoor
open Go.Proofs Go.IntWalk Go.RowKit
variable {σ : Out} {w : World} {L L' : List Chunk} {R : Ending → World → Prop}
theorem und_open : P.underlying ty_P_openPlain = some (.pointer ty_openPlain) := by kernel_rfl
theorem und_emph : P.underlying ty_P_emphPlain = some (.pointer ty_emphPlain) := by kernel_rfl
theorem und_plain : P.underlying ty_P_Plain = some (.pointer ty_Plain) := by kernel_rfl
theorem ta_open_no {t : TypeId} {v : Value} (ht : t ≠ ty_P_openPlain) (w : World) : (Instr.typeAssert (.iface t v) ty_Inline ty_P_openPlain true).run P w = .ok (.tuple #[.pointer none, .bool false]) w :=
  ta_no (by rw [und_open]; intro ms h; cases h) und_open ht (i := (P.info? ty_P_openPlain).getD default) (by kernel_rfl) (by kernel_rfl) w
theorem ta_emph_no {t : TypeId} {v : Value} (ht : t ≠ ty_P_emphPlain) (w : World) : (Instr.typeAssert (.iface t v) ty_Inline ty_P_emphPlain true).run P w = .ok (.tuple #[.pointer none, .bool false]) w :=
  ta_no (by rw [und_emph]; intro ms h; cases h) und_emph ht (i := (P.info? ty_P_emphPlain).getD default) (by kernel_rfl) (by kernel_rfl) w
theorem ta_plain_no {t : TypeId} {v : Value} (ht : t ≠ ty_P_Plain) (w : World) : (Instr.typeAssert (.iface t v) ty_Inline ty_P_Plain true).run P w = .ok (.tuple #[.pointer none, .bool false]) w :=
  ta_no (by rw [und_plain]; intro ms h; cases h) und_plain ht (i := (P.info? ty_P_Plain).getD default) (by kernel_rfl) (by kernel_rfl) w
theorem ta_open_yes {v : Value} (w : World) : (Instr.typeAssert (.iface ty_P_openPlain v) ty_Inline ty_P_openPlain true).run P w = .ok (.tuple #[v, .bool true]) w :=
  ta_yes (by rw [und_open]; intro ms h; cases h) und_open w
theorem ta_emph_yes {v : Value} (w : World) : (Instr.typeAssert (.iface ty_P_emphPlain v) ty_Inline ty_P_emphPlain true).run P w = .ok (.tuple #[v, .bool true]) w :=
  ta_yes (by rw [und_emph]; intro ms h; cases h) und_emph w
theorem ta_plain_yes {v : Value} (w : World) : (Instr.typeAssert (.iface ty_P_Plain v) ty_Inline ty_P_Plain true).run P w = .ok (.tuple #[v, .bool true]) w :=
  ta_yes (by rw [und_plain]; intro ms h; cases h) und_plain w
theorem fillI (t : TypeId) (q : Option Addr) : Instr.fill (fun i => some (i * 1, 1)) ((Array.range (1 * 1)).map (rowInl.z.cells[· % rowInl.z.cells.size]!)) [(0, .iface t (.pointer q))] = some #[.iface t (.pointer q)] := by kernel_rfl

theorem emph_none_ok {pq q : Option Addr} {n c : Nat} {vs : List Value} {ts : List Inl} {RM EM : List Chunk} (hS : Sl 1 ty_Inline q n c vs RM) (hI : InlsAt ts vs EM) (hno : ∀ t ∈ ts, t.ty ≠ ty_P_openPlain ∧ t.ty ≠ ty_P_emphPlain) (hn : n < 4611686018427387904)
    (h : Sat σ w (RM ++ (EM ++ L))) (hR : ∀ w, Sat σ w (RM ++ (EM ++ L)) → R (.returned (.slice q n c)) w) : callE P i_parseState_emph #[.pointer pq, .slice q 0 c, .slice q n c] R w := by
  refine g_parseState_emph.sound ?_
  refine Sat.bx h fun b1 w h => ?_
  refine Sat.bx h fun b3 w h => ?_
  intro X hX
  have hl := hS.1
  have hlen := hI.length
  have hcell : ∀ (j : Nat) (hj : j < n), ∃ t b, t ≠ ty_P_openPlain ∧ t ≠ ty_P_emphPlain ∧ vs[j]? = some (ptrV t b) := by
    intro j hj
    have hj2 : j < ts.length := by omega
    have hsp : ts = ts.take j ++ (ts[j] :: ts.drop (j + 1)) := by rw [← List.drop_eq_getElem_cons hj2, List.take_append_drop]
    rw [hsp] at hI
    obtain ⟨vs1, vs2, M1, M2, rfl, rfl, h1, h2⟩ := hI.split
    obtain ⟨v, vs', N1, N2, rfl, rfl, h3, h4⟩ := h2
    obtain ⟨b, cs, e, M', rfl, rfl⟩ := h3.ptr
    have := h1.length
    rw [List.length_take, Nat.min_eq_left (by omega)] at this
    exact ⟨_, b, (hno _ (List.getElem_mem hj2)).1, (hno _ (List.getElem_mem hj2)).2, by rw [List.getElem?_append_right (by omega), this]; simp⟩
  have key : ∀ k j w, j + k = n → Sat σ w ((b3, cel [.slice none 0 0, .slice none 0 0, .slice none 0 0, .slice none 0 0, .slice none 0 0] ty_5_S_P_emphPlain) :: (b1, cel [.slice q j c] ty_S_Inline) :: (RM ++ (EM ++ L))) →
      X q n c b1 b3 (.func (.func i_parseState_emph_1) #[] #[]) (.func (.func i_parseState_emph_2) #[] #[.pointer (some ⟨b3, 0, none⟩), .pointer (some ⟨b1, 0, none⟩)]) (j : Int) w := by
    intro k
    induction k with
    | zero =>
      intro j w hj h
      refine hX _ _ _ _ _ _ _ _ _ (br_false (by simp; omega) ?_)
      refine ⟨_, _, _, Sat.ld h (by first | assumption | (repeat (first | exact .head _ | apply List.Mem.tail))) (by exact rfl), ?_⟩
      rw [show j = n by omega]
      exact hR w h.tail.tail
    | succ k ih =>
      intro j w hj h
      obtain ⟨t, pb, h1, h2, h3⟩ := hcell j (by omega)
      refine hX _ _ _ _ _ _ _ _ _ (br_true (by simp; omega) ⟨by omega, by omega, ?_⟩)
      have hS0 := hS
      obtain ⟨_, hnc, ⟨rfl, rfl, _, _⟩ | ⟨rb, sp, rfl, rfl, hsp⟩⟩ := hS
      · omega
      refine nilP_some ?_
      simp only [Addr.add_lit, Int.toNat_natCast, Nat.mul_one, Nat.zero_add]
      have hg : (vs ++ sp)[j]? = some (ptrV t pb) := by rw [List.getElem?_append_left (by omega)]; exact h3
      refine ⟨_, Sat.ld h (.tail _ (.tail _ (.head _))) hg, _, _, _, ta_open_no h1 w, br_false rfl ?_⟩
      refine ⟨by omega, by omega, nilP_some ?_⟩
      simp only [Addr.add_lit, Int.toNat_natCast, Nat.mul_one, Nat.zero_add]
      refine ⟨_, Sat.ld h (.tail _ (.tail _ (.head _))) hg, _, _, _, ta_emph_no h2 w, br_true rfl ?_⟩
      refine Sat.tk h fun w h => ?_
      refine ⟨by omega, by omega, nilP_some ?_⟩
      refine ⟨_, _, _, Sat.ld h (by first | assumption | (repeat (first | exact .head _ | apply List.Mem.tail))) (by exact rfl), ?_⟩
      simp only [Addr.add_lit, Int.toNat_natCast, Nat.mul_one, Nat.zero_add]
      refine ⟨_, Sat.ld h (.tail _ (.tail _ (.head _))) hg, ?_⟩
      have h0 := h
      have h : Sat σ w ((rb, cel (vs ++ sp) ty_Inline) :: (b1, cel [.slice (some ⟨rb, 0, none⟩) j c] ty_S_Inline) :: (b3, cel [.slice none 0 0, .slice none 0 0, .slice none 0 0, .slice none 0 0, .slice none 0 0] ty_5_S_P_emphPlain) :: (EM ++ L)) := h.re (by intro _; simp only [List.append_eq, cnt_append, cnt_cons, cnt_nil] <;> omega)
      refine appRoom rowInl h (v := ptrV t pb) (by rw [List.length_append]; omega) (by omega) rfl rfl (fillI t _) (C := fun w1 => SameC _ w1 _ 1) (fun w1 X h' => h0.same h' (.tail _ (.head _)) (.tail _ (.tail _ (.head _))) 1) fun w h => ?_
      rw [show (vs ++ sp).set j (ptrV t pb) = vs ++ sp from by
        apply List.ext_getElem?; intro i; rw [List.getElem?_set]; split
        · rename_i hi; subst hi; rw [if_pos (by rw [List.length_append]; omega), hg]
        · rfl] at h
      refine Sat.st h (k := 1) rfl (Nat.le_of_ble_eq_true rfl) trivial (by first | (dsimp only [List.set]; exact rfl) | exact rfl) fun w h => ?_
      rw [i64_inc (by omega)]
      refine ih (j + 1) w (by omega) ?_
      have h : Sat σ w ((rb, cel (vs ++ sp) ty_Inline) :: (b1, cel [.slice (some ⟨rb, 0, none⟩) (j + 1) c] ty_S_Inline) :: (b3, cel [.slice none 0 0, .slice none 0 0, .slice none 0 0, .slice none 0 0, .slice none 0 0] ty_5_S_P_emphPlain) :: (EM ++ L)) := h
      exact h.re (by intro _; simp only [List.append_eq, cnt_append, cnt_cons, cnt_nil] <;> omega)
  exact key n 0 w (by omega) h
end Go.Proofs.YtmicoampfglaiaaGreatDoor


set_option linter.unusedVariables false
set_option maxRecDepth 20000
namespace Go.Proofs.YtmicoampfglaiaaGreatDoor
open Go.Proofs
/- 30 (*strings.Builder).Grow -/
namespace g_strings_Builder_Grow
noncomputable def body : Code := bodyOf Tryz.f30
def k1 (R : EP) (x0 : OA) (x1 : Int) (w : World) : Prop :=
 tk w fun w3 =>
 nilP x0 fun a4 =>
 nilP x0 fun a5 =>
 ∃ (v6q : OA), ∃ (v6n : Nat), ∃ (v6c : Nat), w3.cell? (a4.add 1) = some (.slice v6q v6n v6c) ∧
 ∃ (v7q : OA), ∃ (v7n : Nat), ∃ (v7c : Nat), w3.cell? (a5.add 1) = some (.slice v7q v7n v7c) ∧
 ∃ (r8 : Int), ∃ w9, (Builtin.cap_ #[ty_S_uint8] ty_int #[.slice v6q v6n v6c]).run P w3 = .ok (.int .i64 r8) w9 ∧
 SameC w3 w9 (a5.add 1) 1 ∧
 br (decide ((IntKind.i64.wrap (r8 - (v7n : Int))) < x1))
 (callE P i_strings_Builder_grow #[.pointer x0, .int .i64 x1] (fun e w11 => e = .returned (.tuple #[]) ∧
 R (.returned (.tuple #[])) w11) w9)
 (R (.returned (.tuple #[])) w9)

end g_strings_Builder_Grow
def g_strings_Builder_Grow (R : EP) (x0 : OA) (x1 : Int) (w : World) : Prop :=
 callE P i_strings_Builder_copyCheck #[.pointer x0] (fun e w2 => e = .returned (.tuple #[]) ∧
 br (decide (x1 < 0))
 (False)
 (g_strings_Builder_Grow.k1 R x0 x1 w2)) w

noncomputable def g_strings_Builder_Grow.ac (R : EP) : AC :=
  (.seq (.leaf (sel [0] g_strings_Builder_Grow.body)) (.seq (.leaf (sel [1, 0] g_strings_Builder_Grow.body)) (.mark (leaf [(0, .s .ptr), (1, .s (.int .i64))] (g_strings_Builder_Grow.k1 R)) (.seq (.draw (.pure 0 (.pure 1 (.pure 2 (.pure 5 (.pure 6 (.pure 7 (.pure 11 (.load 3 (.load 8 (.pure 9 (.one 4 (.pure 10 (.pure 12 .done))))))))))))) (sel [1, 1, 0] g_strings_Builder_Grow.body)) (.leaf (sel [1, 1, 1] g_strings_Builder_Grow.body))))))
theorem g_strings_Builder_Grow.good (R : EP) : Good P 25 (g_strings_Builder_Grow.ac R) (QF P [] R) :=
  ⟨trivial, ⟨trivial, ⟨⟨⟨by kernel_rfl, by kernel_rfl, fun _ _ _ h => h⟩, trivial⟩, cutE (by intro x0 x1 ρ w; kernel_rfl)⟩⟩⟩
theorem g_strings_Builder_Grow.eq (R : EP) (x0 : OA) (x1 : Int) (w : World) : g_strings_Builder_Grow R x0 x1 w = vcA P 25 (g_strings_Builder_Grow.ac R) (QF P [] R) (fr0 [.pointer x0, .int .i64 x1]) w := by kernel_rfl
theorem g_strings_Builder_Grow.sound {R : EP} {x0 : OA} {x1 : Int} {w : World} (h : g_strings_Builder_Grow R x0 x1 w) : callE P i_strings_Builder_Grow #[.pointer x0, .int .i64 x1] R w :=
  callE_fin (c := g_strings_Builder_Grow.body) Tryz.func30 Tryz.call30 (by kernel_rfl) (by kernel_rfl) (by kernel_rfl) (by kernel_rfl) (by kernel_rfl) (g_strings_Builder_Grow.good R) (g_strings_Builder_Grow.eq R x0 x1 w) h
/- 43 (*strings.Builder).grow -/
namespace g_strings_Builder_grow
noncomputable def body : Code := bodyOf Tryz.f43
end g_strings_Builder_grow
def g_strings_Builder_grow (R : EP) (x0 : OA) (x1 : Int) (w : World) : Prop :=
 tk w fun w1 =>
 nilP x0 fun a2 =>
 nilP x0 fun a3 =>
 ∃ (v4q : OA), ∃ (v4n : Nat), ∃ (v4c : Nat), w1.cell? (a2.add 1) = some (.slice v4q v4n v4c) ∧
 ∃ (v5q : OA), ∃ (v5n : Nat), ∃ (v5c : Nat), w1.cell? (a3.add 1) = some (.slice v5q v5n v5c) ∧
 ∃ (r6 : Int), ∃ w7, (Builtin.cap_ #[ty_S_uint8] ty_int #[.slice v4q v4n v4c]).run P w1 = .ok (.int .i64 r6) w7 ∧
 SameC w1 w7 (a3.add 1) 1 ∧
 callE P i_internal_bytealg_MakeNoZero #[.int .i64 (IntKind.i64.wrap ((IntKind.i64.wrap (2 * r6)) + x1))] (fun e w9 => ∃ (r8q : OA), ∃ (r8n : Nat), ∃ (r8c : Nat), e = .returned (.slice r8q r8n r8c) ∧
 SameC w7 w9 (a3.add 1) 1 ∧
 ∃ (r10q : OA), ∃ (r10n : Nat), ∃ (r10c : Nat), (∀ w, (Instr.sliceAt ty_S_uint8 (.slice r8q r8n r8c) none (some (.int .i64 (v5n : Int))) none).run P w = .ok (.slice r10q r10n r10c) w) ∧
 nilP x0 fun a11 =>
 ∃ (v12q : OA), ∃ (v12n : Nat), ∃ (v12c : Nat), w9.cell? (a11.add 1) = some (.slice v12q v12n v12c) ∧
 ∃ (r13 : Int), ∃ w14, (Builtin.copy_ #[ty_S_uint8, ty_S_uint8] ty_int #[.slice r10q r10n r10c, .slice v12q v12n v12c]).run P w9 = .ok (.int .i64 r13) w14 ∧
 nilP x0 fun a15 =>
 stV w14 ((a15.add 1).add 0) (.slice r10q r10n r10c) fun w16 =>
 R (.returned (.tuple #[])) w16) w7

noncomputable def g_strings_Builder_grow.ac (R : EP) : AC :=
  (.seq (.draw (.pure 0 (.pure 1 (.pure 2 (.pure 6 (.pure 9 (.pure 10 (.pure 11 (.load 3 (.load 12 (.pure 13 (.one 4 (.pure 5 (.pure 7 (.one 8 (.pure 14 (.pure 15 .done)))))))))))))))) (sel [0] g_strings_Builder_grow.body)) (.leaf (sel [1] g_strings_Builder_grow.body)))
theorem g_strings_Builder_grow.good (R : EP) : Good P 30 (g_strings_Builder_grow.ac R) (QF P [] R) :=
  ⟨⟨by kernel_rfl, by kernel_rfl, fun _ _ _ h => h⟩, trivial⟩
theorem g_strings_Builder_grow.eq (R : EP) (x0 : OA) (x1 : Int) (w : World) : g_strings_Builder_grow R x0 x1 w = vcA P 30 (g_strings_Builder_grow.ac R) (QF P [] R) (fr0 [.pointer x0, .int .i64 x1]) w := by kernel_rfl
theorem g_strings_Builder_grow.sound {R : EP} {x0 : OA} {x1 : Int} {w : World} (h : g_strings_Builder_grow R x0 x1 w) : callE P i_strings_Builder_grow #[.pointer x0, .int .i64 x1] R w :=
  callE_fin (c := g_strings_Builder_grow.body) Tryz.func43 Tryz.call43 (by kernel_rfl) (by kernel_rfl) (by kernel_rfl) (by kernel_rfl) (by kernel_rfl) (g_strings_Builder_grow.good R) (g_strings_Builder_grow.eq R x0 x1 w) h
end Go.Proofs.YtmicoampfglaiaaGreatDoor

/- strings.Join. -/
set_option linter.unusedVariables false
namespace Go.Proofs.YtmicoampfglaiaaGreatDoor
open Go.Proofs Go.IntWalk Go.RowKit
variable {σ : Out} {w : World} {L L' : List Chunk} {R : Ending → World → Prop}
theorem makeNoZero_ok {n : Nat} (hn : n ≤ 1099511627776) (h : Sat σ w L) (hR : ∀ w b cs, n ≤ cs.length → cs.length ≤ 9223372036854775807 → Sat σ w ((b, cel cs ty_uint8) :: L) → R (.returned (.slice (some ⟨b, 0, none⟩) n cs.length)) w) :
    callE P i_internal_bytealg_MakeNoZero #[.int .i64 n] R w := by
  obtain ⟨cs, hr, h1, h2⟩ := Lib.run_makeNoZero (P := P) w x_internal_bytealg_MakeNoZero.params ty_S_uint8 ty_uint8 rowU8.ht n (by omega)
  refine ext_of (e := Extern.BytealgMakeNoZero.makeNoZero x_internal_bytealg_MakeNoZero.params #[ty_S_uint8]) xf_internal_bytealg_MakeNoZero (by kernel_rfl) (by kernel_rfl) (by kernel_rfl) (by kernel_rfl) hr ?_
  have hd : Sat σ w.drew.drew L := h.drew.drew
  have ha := hd.alc cs.toList ty_uint8
  have e3 : YtmicoampfglaiaaGreatDoor.alc w.drew.drew cs.toList.toArray ty_uint8 = w.drew.drew.alloc (.cells cs ty_uint8) := by rw [Array.toArray_toList]; rfl
  rw [e3] at ha
  have h3 := h2 (by unfold maxLen; omega)
  unfold maxLen at h3
  exact hR _ _ cs.toList (by simpa using h1) (by simpa using h3) ha
theorem copyNone (w : World) (b c : Nat) : (Builtin.copy_ #[ty_S_uint8, ty_S_uint8] ty_int #[.slice (some ⟨b, 0, none⟩) 0 c, .slice none 0 0]).run P w = .ok (.int .i64 0) w := by
  have h : P.underlying ty_S_uint8 = some (.slice ty_uint8) := rowU8.ht
  have h2 : P.info? ty_uint8 = some rowU8.i := rowU8.hi
  have h4 : (Builtin.lenOf (.slice none 0 0)).run P w = .ok 0 w := rfl
  have h5 : rowU8.i.size = 1 := rowU8.hs
  have h6 : (Builtin.firstCells 1 0 (.slice none 0 0)).run P w = .ok #[] w := run_firstCells_none w 1 0 0 0
  simp [Builtin.copy_, run_underlying h, sizeOf, typeInfo, h2, goInt, h4, h5, h6, storeCells]
/-- Room in a fresh builder. -/
theorem bldGrow_ok {b n : Nat} {M : List Chunk} (hB : Bld b false [] M) (h : Sat σ w (M ++ L)) (hn : 0 < n) (hn2 : n ≤ 1099511627776) (hR : ∀ w M', Bld b true [] M' → Sat σ w (M' ++ L) → R (.returned (.tuple #[])) w) :
    callE P i_strings_Builder_Grow #[.pointer (some ⟨b, 0, none⟩), .int .i64 n] R w := by
  obtain ⟨p, q, c, M0, rfl, hS, hp, hg, hc⟩ := hB
  have hq : q = none := by cases q <;> simp_all
  subst hq
  obtain ⟨_, _, ⟨_, _, rfl, rfl⟩ | ⟨_, _, h, _⟩⟩ := hS
  rotate_left
  · cases h
  refine g_strings_Builder_Grow.sound ?_
  refine copyCheck_ok h hp fun w h => ⟨rfl, br_false (by simp) ?_⟩
  refine Sat.tk h fun w h => ?_
  refine nilP_some (nilP_some ?_)
  refine ⟨_, _, _, Sat.ld h (by first | assumption | (repeat (first | exact .head _ | apply List.Mem.tail))) (by exact rfl), ?_⟩
  refine ⟨_, _, _, Sat.ld h (by first | assumption | (repeat (first | exact .head _ | apply List.Mem.tail))) (by exact rfl), ?_⟩
  refine ⟨_, _, capRun _ _ _ _ _ _ rowU8.ht w, fun _ _ => rfl, ?_⟩
  refine br_true (by simp (disch := omega) only [i64_in]; simp; omega) ?_
  refine g_strings_Builder_grow.sound ?_
  refine Sat.tk h fun w h => ?_
  refine nilP_some (nilP_some ?_)
  refine ⟨_, _, _, Sat.ld h (by first | assumption | (repeat (first | exact .head _ | apply List.Mem.tail))) (by exact rfl), ?_⟩
  refine ⟨_, _, _, Sat.ld h (by first | assumption | (repeat (first | exact .head _ | apply List.Mem.tail))) (by exact rfl), ?_⟩
  refine ⟨_, _, capRun _ _ _ _ _ _ rowU8.ht w, fun _ _ => rfl, ?_⟩
  have e1 : IntKind.i64.wrap (IntKind.i64.wrap (2 * ((0 : Nat) : Int)) + (n : Int)) = (n : Int) := by rw [i64_in (2 * _) (by omega), i64_in _ (by omega)]; omega
  rw [e1]
  have h0 := h
  refine makeNoZero_ok hn2 h fun w rb cs h1 h2 h => ⟨_, _, _, rfl, h0.same h (.head _) (.tail _ (.head _)) 1, ?_⟩
  refine ⟨_, _, _, fun w => sliceT rowU8.ht rowU8.hi _ n cs.length 0 (by omega) w, ?_⟩
  refine nilP_some ?_
  refine ⟨_, _, _, Sat.ld h (by first | assumption | (repeat (first | exact .head _ | apply List.Mem.tail))) (by exact rfl), ?_⟩
  refine ⟨_, _, copyNone w rb cs.length, ?_⟩
  refine nilP_some ?_
  refine Sat.st h (k := 1) rfl (Nat.le_of_ble_eq_true rfl) trivial (by first | (dsimp only [List.set]; exact rfl) | exact rfl) fun w h => ?_
  have h : Sat σ w ((rb, cel cs ty_uint8) :: bldC b (some ⟨b, 0, none⟩) (some ⟨rb, 0, none⟩) 0 cs.length :: L) := h
  refine ⟨rfl, hR w [bldC b (some ⟨b, 0, none⟩) (some ⟨rb, 0, none⟩) 0 cs.length, (rb, cel cs ty_uint8)] ⟨_, _, _, _, rfl, ⟨by simp [bc], by omega, .inr ⟨rb, cs, rfl, by simp [bc], by simp [bc]⟩⟩, .inr rfl, rfl, fun _ => by omega⟩ ?_⟩
  exact h.re (by intro _; simp only [List.append_eq, cnt_append, cnt_cons, cnt_nil] <;> omega)
def sv (ts : List (List UInt8)) : List Value := ts.map fun t => .string (bs t)
@[simp] theorem sv_length (ts : List (List UInt8)) : (sv ts).length = ts.length := by simp [sv]
theorem sv_get {ts : List (List UInt8)} {j : Nat} (h : j < ts.length) : (sv ts)[j]? = some (.string (bs ts[j])) := by simp [sv, h]
def joinL (sep : List UInt8) : List (List UInt8) → List UInt8
  | [] => []
  | t :: ts => t ++ ts.flatMap (fun u => sep ++ u)
def sumL (ts : List (List UInt8)) : Nat := (ts.map List.length).sum
theorem joinL_length (sep : List UInt8) (t : List UInt8) (ts : List (List UInt8)) : (joinL sep (t :: ts)).length = t.length + sumL ts + ts.length * sep.length := by
  simp only [joinL, List.length_append, sumL]
  induction ts with
  | nil => simp
  | cons u ts ih => simp only [List.flatMap_cons, List.length_append, List.map_cons, List.sum_cons, List.length_cons] at *; rw [Nat.add_mul]; omega
theorem Sl.rowAt {e : TypeId} {q : Option Addr} {n c : Nat} {vs : List Value} {M : List Chunk} (hS : Sl 1 e q n c vs M) (hn : 0 < n) : ∃ b sp, q = some ⟨b, 0, none⟩ ∧ M = [(b, cel (vs ++ sp) e)] := by
  obtain ⟨_, _, ⟨_, h, _, _⟩ | ⟨b, sp, h1, h2, _⟩⟩ := hS
  · omega
  · exact ⟨b, sp, h1, h2⟩
theorem join_ok {q : Option Addr} {n c : Nat} {t : List UInt8} {ts : List (List UInt8)} {AM : List Chunk} {sep : List UInt8} (hS : Sl 1 ty_string q n c (sv (t :: ts)) AM) (h : Sat σ w (AM ++ L)) (hne : 1 ≤ ts.length) (hn : n < 1073741824) (hsep : sep.length < 65536)
    (h0 : 0 < (joinL sep (t :: ts)).length) (hb : (joinL sep (t :: ts)).length < 1073741824) (hR : ∀ w, Sat σ w (AM ++ L) → R (.returned (.string (bs (joinL sep (t :: ts))))) w) : callE P i_strings_Join #[.slice q n c, .string (bs sep)] R w := by
  have hl := hS.1
  rw [sv_length, List.length_cons] at hl
  have hjl := joinL_length sep t ts
  refine g_strings_Join.sound ?_
  obtain ⟨rb, sp, rfl, rfl⟩ := hS.rowAt (by omega)
  refine br_false (by simp; omega) (br_false (by simp; omega) ?_)
  -- the builder and the rest
  have fin : ∀ w, Sat σ w ([(rb, cel (sv (t :: ts) ++ sp) ty_string)] ++ L) → box w #[.pointer none, .slice none 0 0] ty_strings_Builder fun b5 w6 =>
      callE P i_strings_Builder_Grow #[.pointer (some ⟨b5, 0, none⟩), .int .i64 (((joinL sep (t :: ts)).length : Nat) : Int)] (fun e w8 => e = .returned (.tuple #[]) ∧
      0 ≤ (0 : Int) ∧ 0 < (n : Int) ∧
      nilP (some (⟨rb, 0, none⟩ : Addr)) fun a9 =>
      ∃ (v10 : ByteArray), w8.cell? (a9.add (Int.toNat 0 * 1)) = some (.string v10) ∧
      callE P i_strings_Builder_WriteString #[.pointer (some ⟨b5, 0, none⟩), .string v10] (fun e w12 => ∃ (r11_0 : Int), ∃ (r11_1 : Value), e = .returned (.tuple #[.int .i64 r11_0, r11_1]) ∧
      ∃ (r13q : Option Addr), ∃ (r13n : Nat), ∃ (r13c : Nat), ∃ w14, (Instr.sliceAt ty_S_string (.slice (some ⟨rb, 0, none⟩) n c) (some (.int .i64 1)) none none).run P w12 = .ok (.slice r13q r13n r13c) w14 ∧
      g_strings_Join.l2 R (bs sep) b5 r13q r13n r13c (r13n : Int) 0 w14) w8) w6 := by
    intro w h
    refine Sat.bx h fun b w h => ?_
    refine bldGrow_ok (bldNew b) h h0 (by omega) fun w M hB h => ⟨rfl, by omega, by omega, nilP_some ?_⟩
    refine ⟨bs t, Sat.ld h (List.mem_append_right _ (.head _)) rfl, ?_⟩
    refine bldS_ok hB h (.inr rfl) (by simp; omega) fun w M hB h => ⟨_, _, rfl, ?_⟩
    refine ⟨_, _, _, _, sliceF rowStr.ht rowStr.hi _ n c 1 (by omega) w, ?_⟩
    have hnc := hS.2.1
    rw [if_neg (by omega), rowStr.hs]
    simp only [Option.map_some, Addr.add_lit, Nat.zero_add, Nat.mul_one]
    rw [List.nil_append] at hB
    intro Y hY
    have key : ∀ k j (l : List UInt8) M w, j + k = ts.length → Bld b true l M → Sat σ w (M ++ ([(rb, cel (sv (t :: ts) ++ sp) ty_string)] ++ L)) → l ++ (ts.drop j).flatMap (fun u => sep ++ u) = joinL sep (t :: ts) →
        Y (bs sep) b (some ⟨rb, 1, none⟩) (n - 1) (c - 1) ((n - 1 : Nat) : Int) (j : Int) w := by
      intro k
      induction k with
      | zero =>
        intro j l M w hj hB h hl2
        rw [List.drop_eq_nil_of_le (by omega)] at hl2
        simp only [List.flatMap_nil, List.append_nil] at hl2
        refine hY _ _ _ _ _ _ _ _ (br_false (by simp; omega) ?_)
        refine bldStr_ok hB h (by rw [hl2]; omega) fun w h => ⟨_, rfl, ?_⟩
        rw [hl2]
        exact hR w h
      | succ k ih =>
        intro j l M w hj hB h hl2
        have hjl : j < ts.length := by omega
        rw [List.drop_eq_getElem_cons hjl, List.flatMap_cons, ← List.append_assoc, ← List.append_assoc] at hl2
        have hlb : (l ++ sep ++ ts[j]).length ≤ (joinL sep (t :: ts)).length := by rw [← hl2]; simp only [List.length_append]; omega
        simp only [List.length_append] at hlb
        refine hY _ _ _ _ _ _ _ _ (br_true (by simp; omega) ⟨by omega, by omega, nilP_some ?_⟩)
        simp only [Addr.add_lit, Int.toNat_natCast, Nat.mul_one]
        have hg : (sv (t :: ts) ++ sp)[1 + j]? = some (.string (bs ts[j])) := by
          rw [List.getElem?_append_left (by simp; omega), show 1 + j = j + 1 by omega, sv_get (by simp; omega)]; rfl
        refine ⟨_, Sat.ld h (List.mem_append_right _ (.head _)) hg, ?_⟩
        refine bldS_ok hB h (.inr rfl) (by omega) fun w M hB h => ⟨_, _, rfl, ?_⟩
        refine bldS_ok hB h (.inr rfl) (by simp; omega) fun w M hB h => ⟨_, _, rfl, ?_⟩
        rw [i64_inc (by omega)]
        exact ih (j + 1) _ M w (by omega) hB h hl2
    exact key ts.length 0 t M w (by omega) hB h rfl
  -- the sum of the lengths
  have sum : ∀ w (a : Nat), a = ts.length * sep.length → Sat σ w ([(rb, cel (sv (t :: ts) ++ sp) ty_string)] ++ L) → g_strings_Join.k2 R (some ⟨rb, 0, none⟩) n c (bs sep) (a : Int) w := by
    intro w a ha h X hX
    have key : ∀ k j (s : Nat), j + k = (t :: ts).length → s + sumL ((t :: ts).drop j) = (joinL sep (t :: ts)).length → X (some ⟨rb, 0, none⟩) n c (bs sep) (s : Int) (some ⟨rb, 0, none⟩) n c (n : Int) (j : Int) w := by
      intro k
      induction k with
      | zero =>
        intro j s hj hs
        rw [List.drop_eq_nil_of_le (by omega)] at hs
        simp only [sumL, List.map_nil, List.sum_nil, Nat.add_zero] at hs
        subst hs
        refine hX _ _ _ _ _ _ _ _ _ _ _ (br_false (by simp at hj; simp; omega) ?_)
        exact fin w h
      | succ k ih =>
        intro j s hj hs
        have hjl : j < (t :: ts).length := by omega
        rw [List.drop_eq_getElem_cons hjl] at hs
        simp only [sumL, List.map_cons, List.sum_cons] at hs
        have hjn : j < n := by simp at hjl; omega
        refine hX _ _ _ _ _ _ _ _ _ _ _ (br_true (by simp; omega) ⟨by omega, by omega, nilP_some ?_⟩)
        simp only [Addr.add_lit, Int.toNat_natCast, Nat.mul_one, Nat.zero_add]
        have hg : (sv (t :: ts) ++ sp)[j]? = some (.string (bs (t :: ts)[j])) := by
          rw [List.getElem?_append_left (by simp at hjl ⊢; omega), sv_get hjl]
        refine ⟨_, Sat.ld h (.head _) hg, ?_⟩
        rw [bs_size]
        refine br_false (by simp (disch := omega) only [i64_in]; simp; omega) ?_
        show X _ _ _ _ _ _ _ _ _ _ w
        rw [i64_inc (by omega), bs_size, i64_in _ (by omega), show (s : Int) + ((t :: ts)[j].length : Nat) = ((s + (t :: ts)[j].length : Nat) : Int) by omega]
        exact ih (j + 1) _ (by omega) (by simp only [sumL]; omega)
    refine key (t :: ts).length 0 a (by omega) ?_
    rw [hjl, ha]
    simp [sumL]
    omega
  have hmul : ts.length * sep.length < 1073741824 := by omega
  by_cases hs0 : sep = []
  · subst hs0
    refine br_false (by simp) ?_
    exact sum w 0 (by simp) h
  · refine br_true (by simpa using List.length_pos_iff.2 hs0) ?_
    have hn1 : IntKind.i64.wrap ((n : Int) - 1) = ((ts.length : Nat) : Int) := by simp (disch := omega) only [i64_in]; omega
    refine ⟨by rw [hn1]; omega, br_false ?_ ?_⟩
    · rw [hn1]
      have hq : Int.tdiv 9223372036854775807 (ts.length : Int) = ((9223372036854775807 / ts.length : Nat) : Int) := by
        rw [Int.tdiv_eq_ediv_of_nonneg (by omega)]; simp
      rw [hq]
      have hge : 65536 ≤ 9223372036854775807 / ts.length := by
        rw [Nat.le_div_iff_mul_le (by omega)]; omega
      have hle : 9223372036854775807 / ts.length ≤ 9223372036854775807 := Nat.div_le_self _ _
      rw [i64_in _ (by omega), bs_size]
      exact decide_eq_false (by omega)
    · show g_strings_Join.k2 R _ n c (bs sep) _ w
      rw [hn1, bs_size]
      have : IntKind.i64.wrap (0 + IntKind.i64.wrap ((sep.length : Int) * (ts.length : Int))) = ((ts.length * sep.length : Nat) : Int) := by
        have e : ((sep.length : Int) * (ts.length : Int)) = ((ts.length * sep.length : Nat) : Int) := by rw [Nat.mul_comm]; simp
        generalize ts.length * sep.length = m at hmul e ⊢
        rw [e, i64_in (m : Int) (by omega), Int.zero_add, i64_in (m : Int) (by omega)]
      rw [this]
      exact sum w _ rfl h
end Go.Proofs.YtmicoampfglaiaaGreatDoor


/- Neighbouring plain texts become one. -/
set_option linter.unusedVariables false
namespace Go.Proofs.YtmicoampfglaiaaGreatDoor
open Go.Proofs Go.IntWalk Go.RowKit
variable {σ : Out} {w : World} {L L' : List Chunk} {R : Ending → World → Prop}
def Inl.plain? : Inl → Option (List UInt8)
  | .plain s => some s
  | .openP s _ => some s
  | .emphP s _ _ _ _ => some s
  | _ => none
theorem toPlain_yes {t : Inl} {v : Value} {M : List Chunk} {s : List UInt8} (hI : InlAt t v M) (hs : t.plain? = some s) (hR : ∀ b cs e, M = [(b, cel (.string (bs s) :: cs) e)] → R (.returned (.pointer (some ⟨b, 0, none⟩))) w) : callE P i_toPlain #[v] R w := by
  refine g_toPlain.sound ?_
  cases t <;> simp only [Inl.plain?, Option.some.injEq, reduceCtorEq] at hs <;> subst hs
  · obtain ⟨b, cs, e, rfl, rfl⟩ := hI
    exact ⟨_, _, _, ta_plain_yes w, br_true rfl (hR b _ _ rfl)⟩
  · obtain ⟨b, e, rfl, rfl⟩ := hI
    exact ⟨_, _, _, ta_plain_no (by decide) w, br_false rfl ⟨_, _, _, ta_emph_no (by decide) w, br_false rfl ⟨_, _, _, ta_open_yes w, br_true rfl (nilP_some (hR b _ _ rfl))⟩⟩⟩
  · obtain ⟨b, e, rfl, rfl⟩ := hI
    exact ⟨_, _, _, ta_plain_no (by decide) w, br_false rfl ⟨_, _, _, ta_emph_yes w, br_true rfl (nilP_some (hR b _ _ rfl))⟩⟩
theorem Inl.not_plain {t : Inl} (h : t.plain? = none) : t.ty ≠ ty_P_Plain ∧ t.ty ≠ ty_P_openPlain ∧ t.ty ≠ ty_P_emphPlain := by
  cases t <;> simp only [Inl.plain?, reduceCtorEq] at h <;> (simp only [Inl.ty]; decide)
theorem toPlain_no {t : Inl} {v : Value} {M : List Chunk} (hI : InlAt t v M) (hs : t.plain? = none) (hR : R (.returned (.pointer none)) w) : callE P i_toPlain #[v] R w := by
  refine g_toPlain.sound ?_
  obtain ⟨h1, h2, h3⟩ := Inl.not_plain hs
  obtain ⟨b, cs, e, M', rfl, _⟩ := hI.ptr
  exact ⟨_, _, _, ta_plain_no h1 w, br_false rfl ⟨_, _, _, ta_emph_no h3 w, br_false rfl ⟨_, _, _, ta_open_no h2 w, br_false rfl hR⟩⟩⟩

theorem joinL_nil : ∀ us : List (List UInt8), joinL [] us = us.flatten
  | [] => rfl
  | u :: us => by simp [joinL, List.flatten_cons, List.flatMap_id']
theorem InlsAt.mid {a : List Inl} {t : Inl} {b : List Inl} {vs : List Value} {M : List Chunk} (h : InlsAt (a ++ t :: b) vs M) : ∃ vs1 v vs2 M1 M2 M3, vs = vs1 ++ v :: vs2 ∧ M = M1 ++ (M2 ++ M3) ∧ InlsAt a vs1 M1 ∧ InlAt t v M2 ∧ InlsAt b vs2 M3 := by
  obtain ⟨vs1, vs2, M1, M2, rfl, rfl, h1, h2⟩ := h.split
  obtain ⟨v, vs', N1, N2, rfl, rfl, h3, h4⟩ := h2
  exact ⟨vs1, v, vs', M1, N1, N2, rfl, rfl, h1, h3, h4⟩
theorem fillS (t : List UInt8) : Instr.fill (fun i => some (i * 1, 1)) ((Array.range (1 * 1)).map (rowStr.z.cells[· % rowStr.z.cells.size]!)) [(0, .string (bs t))] = some #[.string (bs t)] := by kernel_rfl

theorem mergePlain1_ok {rb s m c : Nat} {cs : List Value} {e : TypeId} {vs : List Value} {ts : List Inl} {us : List (List UInt8)} {EM : List Chunk} (hI : InlsAt ts vs EM) (hu : ts.map Inl.plain? = us.map some) (hm : vs.length = m) (h1 : 1 ≤ m) (hmb : m < 1073741824)
    (hcs : ∀ j (hj : j < m), cs[s + j]? = vs[j]?) (hpos : 0 < us.flatten.length) (hb : us.flatten.length < 1073741824) (h : Sat σ w ((rb, cel cs e) :: (EM ++ L)))
    (hR : ∀ w b EM', InlAt (.plain us.flatten) (ptrV ty_P_Plain b) EM' → Sat σ w ((rb, cel cs e) :: (EM' ++ L)) → R (.returned (.pointer (some ⟨b, 0, none⟩))) w) :
    callE P i_mergePlain1 #[.slice (some ⟨rb, s, none⟩) m c] R w := by
  have hlt := hI.length
  have hul : us.length = ts.length := by have := congrArg List.length hu; simpa using this.symm
  refine g_mergePlain1.sound ?_
  have get : ∀ j, j < m → ∃ t v a b M1 M2 M3 u, ts = a ++ t :: b ∧ EM = M1 ++ (M2 ++ M3) ∧ InlAt t v M2 ∧ t.plain? = some u ∧ us[j]? = some u ∧ cs[s + j]? = some v ∧ a.length = j := by
    intro j hj
    have hjt : j < ts.length := by omega
    have hsp : ts = ts.take j ++ (ts[j] :: ts.drop (j + 1)) := by rw [← List.drop_eq_getElem_cons hjt, List.take_append_drop]
    have hju : j < us.length := by omega
    have hp : ts[j].plain? = some us[j] := by
      have := congrArg (fun l => l[j]?) hu
      simpa [hjt, hju] using this
    have hI' := hI
    rw [hsp] at hI'
    obtain ⟨vs1, v, vs2, M1, M2, M3, rfl, rfl, h1, h2, h3⟩ := hI'.mid
    have hl1 := h1.length
    rw [List.length_take, Nat.min_eq_left (by omega)] at hl1
    refine ⟨ts[j], v, ts.take j, ts.drop (j + 1), M1, M2, M3, us[j], hsp, rfl, h2, hp, List.getElem?_eq_getElem hju, ?_, ?_⟩
    · rw [hcs j hj, List.getElem?_append_right (by omega), hl1]; simp
    · rw [List.length_take]; omega
  by_cases hm1 : m = 1
  · refine br_true (by simp [hm1]) ⟨by omega, by omega, nilP_some ?_⟩
    obtain ⟨t, v, a, b, M1, M2, M3, u, rfl, rfl, h2, hp, hu0, hc0, ha⟩ := get 0 (by omega)
    have hb0 : b = [] := by
      simp only [List.length_append, List.length_cons, ha] at hlt
      exact List.eq_nil_of_length_eq_zero (by omega)
    have ha0 : a = [] := List.eq_nil_of_length_eq_zero ha
    subst hb0 ha0
    obtain ⟨us0, rfl⟩ : ∃ x, us = [x] := by
      simp at hul
      match us, hul with
      | [x], _ => exact ⟨x, rfl⟩
    obtain rfl : us0 = u := by simpa using hu0
    simp only [Addr.add_lit, Int.toNat_zero, Nat.zero_mul, Nat.add_zero]
    refine ⟨v, Sat.ld h (.head _) hc0, ?_⟩
    refine toPlain_yes h2 hp fun bb ccs ee hM => ⟨_, rfl, ?_⟩
    refine hR w bb M2 ?_ ?_
    · rw [hM]; exact ⟨bb, ccs, ee, rfl, by simp⟩
    · exact h.less (M1 ++ M3) (by intro _; simp only [List.append_eq, cnt_append, cnt_cons, cnt_nil] <;> omega)
  · refine br_false (by simp; omega) ?_
    intro X hX
    have key : ∀ k j (q : Option Addr) (n c' : Nat) AM w, j + k = m → Sl 1 ty_string q n c' (sv (us.take j)) AM → Sat σ w (AM ++ ((rb, cel cs e) :: (EM ++ L))) → X q n c' (some ⟨rb, s, none⟩) m c (m : Int) (j : Int) w := by
      intro k
      induction k with
      | zero =>
        intro j q n c' AM w hj hS h
        refine hX _ _ _ _ _ _ _ _ _ (br_false (by simp; omega) ?_)
        rw [List.take_of_length_le (by omega)] at hS
        cases us with
        | nil => simp at hul; omega
        | cons u us =>
          have hn := hS.1
          rw [sv_length] at hn
          simp at hul hn
          have hjl := joinL_nil (u :: us)
          refine join_ok (sep := []) hS h (by omega) (by omega) (by simp) (by rw [hjl]; exact hpos) (by rw [hjl]; exact hb) fun w h => ⟨_, rfl, ?_⟩
          rw [hjl]
          refine Sat.bx h fun pb w h => ?_
          refine hR w pb [(pb, cel [.string (bs (u :: us).flatten)] ty_Plain)] ⟨pb, [], _, rfl, rfl⟩ ?_
          exact h.less (AM ++ EM) (by intro _; simp only [List.append_eq, cnt_append, cnt_cons, cnt_nil] <;> omega)
      | succ k ih =>
        intro j q n c' AM w hj hS h
        have hjm : j < m := by omega
        have hju : j < us.length := by omega
        refine hX _ _ _ _ _ _ _ _ _ (br_true (by simp; omega) ⟨by omega, by omega, nilP_some ?_⟩)
        obtain ⟨t, v, a, b, M1, M2, M3, u, rfl, rfl, h2, hp, hu0, hc0, ha⟩ := get j hjm
        simp only [Addr.add_lit, Int.toNat_natCast, Nat.mul_one]
        refine ⟨v, Sat.ld h (List.mem_append_right _ (.head _)) hc0, ?_⟩
        refine toPlain_yes h2 hp fun bb ccs ee hM => ⟨_, rfl, nilP_some ?_⟩
        subst hM
        refine ⟨_, Sat.ld h (List.mem_append_right _ (.tail _ (List.mem_append_left _ (List.mem_append_right _ (.head _))))) rfl, ?_⟩
        have hn := hS.1
        rw [sv_length, List.length_take] at hn
        refine Sat.app1 rowStr hS h (v := .string (bs u)) rfl (by simp [Value.cells, Value.oneCell']) (fillS u) (by omega) (by omega) (by decide) fun q' c'' w' M' hS' h => ?_
        rw [i64_inc (by omega)]
        refine ih (j + 1) q' (n + 1) c'' M' w' (by omega) ?_ h
        have e : sv (us.take (j + 1)) = sv (us.take j) ++ [.string (bs u)] := by
          rw [List.take_succ_eq_append_getElem hju]
          have : us[j] = u := by rw [List.getElem?_eq_getElem hju] at hu0; exact Option.some.inj hu0
          simp [sv, this]
        rw [e]; exact hS'
    exact key m 0 none 0 0 [] w (by omega) (Sl.nil 1 ty_string) h
end Go.Proofs.YtmicoampfglaiaaGreatDoor


set_option linter.unusedVariables false
namespace Go.Proofs.YtmicoampfglaiaaGreatDoor
open Go.Proofs Go.IntWalk Go.RowKit
variable {σ : Out} {w : World} {L L' : List Chunk} {R : Ending → World → Prop}
def flushP (p : List (List UInt8)) : List Inl := if p = [] then [] else [.plain p.flatten]
def mergeGo : List (List UInt8) → List Inl → List Inl
  | p, [] => flushP p
  | p, t :: ts => match t.plain? with
    | some s => mergeGo (p ++ [s]) ts
    | none => flushP p ++ t :: mergeGo [] ts
def mergeM (ts : List Inl) : List Inl := mergeGo [] ts
def plen : List Inl → Nat
  | [] => 0
  | t :: ts => (match t.plain? with | some s => s.length | none => 0) + plen ts
theorem set_mid {α : Type} {A B C : List α} {v : α} (hB : B ≠ []) : (A ++ (B ++ C)).set A.length v = (A ++ [v]) ++ (B.drop 1 ++ C) := by
  cases B with
  | nil => exact absurd rfl hB
  | cons x B => simp [List.set_append_right]
theorem fillP (v : Value) (hv : ∃ t b, v = ptrV t b) : Instr.fill (fun i => some (i * 1, 1)) ((Array.range (1 * 1)).map (rowInl.z.cells[· % rowInl.z.cells.size]!)) [(0, v)] = some v.cells := by
  obtain ⟨t, b, rfl⟩ := hv
  exact fillI t _
theorem und_PP : P.underlying ty_P_Plain = some (.pointer ty_Plain) := und_plain

theorem mergePlain_ok {pq q : Option Addr} {n c : Nat} {vs : List Value} {ts : List Inl} {RM EM : List Chunk} (hS : Sl 1 ty_Inline q n c vs RM) (hI : InlsAt ts vs EM) (hpos : ∀ t ∈ ts, ∀ s, t.plain? = some s → s ≠ []) (hb : plen ts < 1073741824) (hn : n < 1073741823)
    (h : Sat σ w (RM ++ (EM ++ L)))
    (hR : ∀ w n' vs' RM' EM', Sl 1 ty_Inline q n' c vs' RM' → n' ≤ n → InlsAt (mergeM ts) vs' EM' → Sat σ w (RM' ++ (EM' ++ L)) → R (.returned (.slice q n' c)) w) : callE P i_parseState_mergePlain #[.pointer pq, .slice q n c] R w := by
  have hl := hS.1
  have hnc := hS.2.1
  have htl := hI.length
  refine g_parseState_mergePlain.sound ?_
  refine ⟨_, _, _, _, sliceT rowInl.ht rowInl.hi q n c 0 (by omega) w, ?_⟩
  intro X hX
  obtain ⟨_, _, ⟨rfl, rfl, rfl, rfl⟩ | ⟨rb, sp, rfl, rfl, hsp⟩⟩ := hS
  · have hts : ts = [] := List.eq_nil_of_length_eq_zero (by omega)
    subst hts
    refine hX _ _ _ _ _ _ _ _ _ (br_false rfl ?_)
    refine br_false rfl (br_true rfl ?_)
    exact hR w 0 [] [] [] (Sl.nil 1 ty_Inline) (by omega) ⟨rfl, rfl⟩ (h.sub (by rw [List.nil_append]; exact List.sublist_append_right _ _))
  have hlen0 : vs.length = n := by omega
  have key : ∀ (rts : List Inl) (pts : List Inl) (us : List (List UInt8)) (ots : List Inl) (ovs junk pvs rvs : List Value) (OM PM RM : List Chunk) w,
      InlsAt ots ovs OM → InlsAt pts pvs PM → InlsAt rts rvs RM → pts.map Inl.plain? = us.map some → (∀ u ∈ us, u ≠ []) → (∀ t ∈ rts, ∀ s, t.plain? = some s → s ≠ []) → us.flatten.length + plen rts < 1073741824 →
      ovs.length + junk.length + pvs.length + rvs.length = n → mergeM ts = ots ++ mergeGo us rts →
      Sat σ w ((rb, cel (ovs ++ (junk ++ (pvs ++ (rvs ++ sp)))) ty_Inline) :: (OM ++ (PM ++ (RM ++ L)))) →
      X (some ⟨rb, 0, none⟩) n c (some ⟨rb, 0, none⟩) ovs.length c ((ovs.length + junk.length : Nat) : Int) ((ovs.length + junk.length + pvs.length : Nat) : Int) w := by
    intro rts
    induction rts with
    | nil =>
      intro pts us ots ovs junk pvs rvs OM PM RM w hO hP hRt hu hune hrne hbb hlen hm h
      obtain ⟨rfl, rfl⟩ := hRt
      have hpl := hP.length
      have hul : us.length = pts.length := by have := congrArg List.length hu; simpa using this.symm
      simp only [List.length_nil, Nat.add_zero] at hlen
      refine hX _ _ _ _ _ _ _ _ _ (br_false (by simp; omega) ?_)
      by_cases hp0 : pvs = []
      · subst hp0
        have hpts : pts = [] := by cases pts with
          | nil => rfl
          | cons _ _ => simp at hpl
        subst hpts
        have hus : us = [] := by cases us with
          | nil => rfl
          | cons _ _ => simp at hul
        subst hus
        obtain ⟨_, rfl⟩ := hP
        refine br_false (by simp) (br_true (by simp at hlen ⊢; omega) ?_)
        refine hR w ovs.length ovs [(rb, cel (ovs ++ (junk ++ sp)) ty_Inline)] OM ⟨by omega, by omega, .inr ⟨rb, junk ++ sp, rfl, rfl, ?_⟩⟩ (by omega) ?_ ?_
        · simp only [List.length_append] at hsp ⊢; simp at hlen; omega
        · rw [hm]; simpa [mergeGo, flushP] using hO
        · simp only [List.nil_append] at h; exact h.re (by intro _; simp only [List.append_eq, cnt_append, cnt_cons, cnt_nil] <;> omega)
      · have hpos1 : 0 < pvs.length := List.length_pos_iff.2 hp0
        refine br_true (by simp; omega) ?_
        refine ⟨_, _, _, _, sliceLH rowInl.ht rowInl.hi _ n c _ _ (by omega) (by omega) w, ?_⟩
        rw [if_neg (by omega), rowInl.hs]
        simp only [Option.map_some, Addr.add_lit, Nat.zero_add, Nat.mul_one]
        have hune0 : us ≠ [] := by intro h0; subst h0; simp at hul; omega
        have hfl : 0 < us.flatten.length := by
          cases us with
          | nil => exact absurd rfl hune0
          | cons u us =>
            have := List.length_pos_iff.2 (hune u (.head _))
            simp only [List.flatten_cons, List.length_append]; omega
        have h : Sat σ w ((rb, cel (ovs ++ (junk ++ (pvs ++ ([] ++ sp)))) ty_Inline) :: (PM ++ (OM ++ L))) := h.re (by intro _; simp only [List.append_eq, cnt_append, cnt_cons, cnt_nil] <;> omega)
        refine mergePlain1_ok (us := us) hP hu (by omega) (by omega) (by omega) ?_ hfl (by simp only [plen] at hbb; omega) h fun w nb EM' hN h => ⟨_, rfl, ?_⟩
        · intro j hj
          rw [List.getElem?_append_right (by omega), List.getElem?_append_right (by omega), List.getElem?_append_left (by omega)]
          congr 1; omega
        have h : Sat σ w ((rb, cel (ovs ++ ((junk ++ pvs) ++ sp)) ty_Inline) :: (EM' ++ (OM ++ L))) := by
          have e : ovs ++ (junk ++ (pvs ++ ([] ++ sp))) = ovs ++ ((junk ++ pvs) ++ sp) := by simp
          rw [← e]; exact h
        refine appRoom' rowInl h (v := ptrV ty_P_Plain nb) (by simp; omega) (by omega) rfl rfl (fillI _ _) fun w h => ?_
        rw [set_mid (by simp [hp0])] at h
        refine br_true (by simp; omega) ?_
        refine hR w (ovs.length + 1) (ovs ++ [ptrV ty_P_Plain nb]) [(rb, cel ((ovs ++ [ptrV ty_P_Plain nb]) ++ ((junk ++ pvs).drop 1 ++ sp)) ty_Inline)] (OM ++ EM') ⟨by simp, by omega, .inr ⟨rb, _, rfl, rfl, ?_⟩⟩ (by omega) ?_ ?_
        · simp only [List.length_append, List.length_drop, List.length_singleton] at hsp ⊢; omega
        · rw [hm]
          simp only [mergeGo, flushP, if_neg hune0]
          exact hO.append (InlsAt.one hN)
        · exact h.re (by intro _; simp only [List.append_eq, cnt_append, cnt_cons, cnt_nil] <;> omega)
    | cons t rts ih =>
      intro pts us ots ovs junk pvs rvs OM PM RM w hO hP hRt hu hune hrne hbb hlen hm h
      have hpl := hP.length
      have hul : us.length = pts.length := by have := congrArg List.length hu; simpa using this.symm
      obtain ⟨v, rvs', M1, M2, rfl, rfl, hv, hrest⟩ := hRt
      simp only [List.length_cons] at hlen
      refine hX _ _ _ _ _ _ _ _ _ (br_true (by simp; omega) ⟨by omega, by omega, nilP_some ?_⟩)
      simp only [Addr.add_lit, Int.toNat_natCast, Nat.mul_one, Nat.zero_add]
      have hg : (ovs ++ (junk ++ (pvs ++ (v :: rvs' ++ sp))))[ovs.length + junk.length + pvs.length]? = some v := by
        rw [List.getElem?_append_right (by omega), List.getElem?_append_right (by omega), List.getElem?_append_right (by omega)]
        rw [show ovs.length + junk.length + pvs.length - ovs.length - junk.length - pvs.length = 0 by omega]
        rfl
      refine ⟨v, Sat.ld h (.head _) hg, ?_⟩
      cases hpt : t.plain? with
      | some u =>
        refine toPlain_yes hv hpt fun bb ccs ee hM => ⟨_, rfl, ?_⟩
        refine ⟨_, _, neq_ptr_nil und_PP _ w, br_true rfl ?_⟩
        rw [i64_inc (by omega)]
        have := ih (pts ++ [t]) (us ++ [u]) ots ovs junk (pvs ++ [v]) rvs' OM (PM ++ M1) M2 w hO (hP.append (InlsAt.one hv)) hrest (by simp [hu, hpt])
          (by intro x hx; rcases List.mem_append.1 hx with hx | hx
              · exact hune x hx
              · simp at hx; subst hx; exact hrne t (.head _) _ hpt)
          (fun t' ht' => hrne t' (.tail _ ht')) (by simp only [plen, hpt] at hbb; simp only [List.flatten_append, List.flatten_cons, List.flatten_nil, List.length_append, List.append_nil]; omega) (by simp; omega) (by rw [hm, mergeGo, hpt]) ?_
        · simp only [List.length_append, List.length_singleton, ← Nat.add_assoc] at this
          exact this
        · have e : ovs ++ (junk ++ (pvs ++ [v] ++ (rvs' ++ sp))) = ovs ++ (junk ++ (pvs ++ (v :: rvs' ++ sp))) := by simp
          rw [e]; exact h.re (by intro _; simp only [List.append_eq, cnt_append, cnt_cons, cnt_nil] <;> omega)
      | none =>
        refine toPlain_no hv hpt ⟨_, rfl, ?_⟩
        refine ⟨_, _, neq_ptr_nil und_PP _ w, br_false rfl ?_⟩
        have hvp : ∃ t b, v = ptrV t b := by obtain ⟨b, _, _, _, h, _⟩ := hv.ptr; exact ⟨_, b, h⟩
        have hv1 : v.cells = #[v] ∧ v.oneCell' = true := by obtain ⟨t, b, rfl⟩ := hvp; exact ⟨rfl, rfl⟩
        -- the end of the round: the element itself
        have fin : ∀ (ots' : List Inl) (ovs' junk' : List Value) (OM' : List Chunk) w, InlsAt ots' ovs' OM' → mergeM ts = ots' ++ t :: mergeGo [] rts → ovs'.length + junk'.length = ovs.length + junk.length + pvs.length →
            Sat σ w ((rb, cel (ovs' ++ (junk' ++ (v :: rvs' ++ sp))) ty_Inline) :: (OM' ++ (M1 ++ (M2 ++ L)))) →
            g_parseState_mergePlain.k2 R X (some ⟨rb, 0, none⟩) n c (some ⟨rb, 0, none⟩) ovs'.length c ((ovs.length + junk.length + pvs.length : Nat) : Int) w := by
          intro ots' ovs' junk' OM' w hO' hm' hl' h
          refine br_false (by simp; omega) ⟨by omega, by omega, nilP_some ?_⟩
          simp only [Addr.add_lit, Int.toNat_natCast, Nat.mul_one, Nat.zero_add]
          have hg : (ovs' ++ (junk' ++ (v :: rvs' ++ sp)))[ovs.length + junk.length + pvs.length]? = some v := by
            rw [List.getElem?_append_right (by omega), List.getElem?_append_right (by omega)]
            rw [show ovs.length + junk.length + pvs.length - ovs'.length - junk'.length = 0 by omega]
            rfl
          refine ⟨v, Sat.ld h (.head _) hg, ?_⟩
          have e : ovs' ++ (junk' ++ (v :: rvs' ++ sp)) = ovs' ++ ((junk' ++ [v]) ++ (rvs' ++ sp)) := by simp
          rw [e] at h
          refine appRoom' rowInl h (v := v) (by simp; omega) (by omega) hv1.1 hv1.2 (fillP v hvp) fun w h => ?_
          rw [set_mid (by simp)] at h
          have e1 : IntKind.i64.wrap (((ovs.length + junk.length + pvs.length : Nat) : Int) + 1) = ((ovs.length + junk.length + pvs.length + 1 : Nat) : Int) := i64_inc (by omega)
          rw [e1]
          have := ih [] [] (ots' ++ [t]) (ovs' ++ [v]) ((junk' ++ [v]).drop 1) [] rvs' (OM' ++ M1) [] M2 w (hO'.append (InlsAt.one hv)) ⟨rfl, rfl⟩ hrest rfl (by simp) (fun t' ht' => hrne t' (.tail _ ht')) (by simp only [plen, hpt] at hbb; simp; omega)
            (by simp; omega) (by rw [hm']; simp) ?_
          · simp only [List.length_append, List.length_singleton, List.length_drop, List.length_nil, Nat.add_zero] at this
            have e2 : ovs'.length + 1 + (junk'.length + 1 - 1) = ovs.length + junk.length + pvs.length + 1 := by omega
            rw [e2] at this
            exact this
          · rw [List.nil_append]
            exact h.re (by intro _; simp only [List.append_eq, cnt_append, cnt_cons, cnt_nil] <;> omega)
        by_cases hp0 : pvs = []
        · subst hp0
          have hpts : pts = [] := by cases pts with
            | nil => rfl
            | cons _ _ => simp at hpl
          subst hpts
          have hus : us = [] := by cases us with
            | nil => rfl
            | cons _ _ => simp at hul
          subst hus
          obtain ⟨_, rfl⟩ := hP
          refine br_false (by simp) ?_
          refine fin ots ovs junk OM w hO (by rw [hm, mergeGo, hpt]; rfl) (by simp) ?_
          simp only [List.nil_append] at h
          exact h.re (by intro _; simp only [List.append_eq, cnt_append, cnt_cons, cnt_nil] <;> omega)
        · have hpos1 : 0 < pvs.length := List.length_pos_iff.2 hp0
          refine br_true (by simp; omega) ?_
          refine ⟨_, _, _, _, sliceLH rowInl.ht rowInl.hi _ n c _ _ (by omega) (by omega) w, ?_⟩
          rw [if_neg (by omega), rowInl.hs]
          simp only [Option.map_some, Addr.add_lit, Nat.zero_add, Nat.mul_one]
          have hune0 : us ≠ [] := by intro h0; subst h0; simp at hul; omega
          have hfl : 0 < us.flatten.length := by
            cases us with
            | nil => exact absurd rfl hune0
            | cons u us =>
              have := List.length_pos_iff.2 (hune u (.head _))
              simp only [List.flatten_cons, List.length_append]; omega
          have h : Sat σ w ((rb, cel (ovs ++ (junk ++ (pvs ++ (v :: rvs' ++ sp)))) ty_Inline) :: (PM ++ (OM ++ (M1 ++ (M2 ++ L))))) := h.re (by intro _; simp only [List.append_eq, cnt_append, cnt_cons, cnt_nil] <;> omega)
          refine mergePlain1_ok (us := us) hP hu (by omega) (by omega) (by omega) ?_ hfl (by simp only [plen] at hbb; omega) h fun w nb EM' hN h => ⟨_, rfl, ?_⟩
          · intro j hj
            rw [List.getElem?_append_right (by omega), List.getElem?_append_right (by omega), List.getElem?_append_left (by omega)]
            congr 1; omega
          have h : Sat σ w ((rb, cel (ovs ++ ((junk ++ pvs) ++ (v :: rvs' ++ sp))) ty_Inline) :: (EM' ++ (OM ++ (M1 ++ (M2 ++ L))))) := by
            have e : ovs ++ (junk ++ (pvs ++ (v :: rvs' ++ sp))) = ovs ++ ((junk ++ pvs) ++ (v :: rvs' ++ sp)) := by simp
            rw [← e]; exact h
          refine appRoom' rowInl h (v := ptrV ty_P_Plain nb) (by simp; omega) (by omega) rfl rfl (fillI _ _) fun w h => ?_
          rw [set_mid (by simp [hp0])] at h
          have := fin (ots ++ [.plain us.flatten]) (ovs ++ [ptrV ty_P_Plain nb]) ((junk ++ pvs).drop 1) (OM ++ EM') w (hO.append (InlsAt.one hN)) (by rw [hm, mergeGo, hpt]; simp [flushP, hune0]) (by simp; omega) (h.re (by intro _; simp only [List.append_eq, cnt_append, cnt_cons, cnt_nil] <;> omega))
          simp only [List.length_append, List.length_singleton] at this
          exact this
  have := key ts [] [] [] [] [] [] vs [] [] EM w ⟨rfl, rfl⟩ ⟨rfl, rfl⟩ hI rfl (by simp) hpos (by simpa using hb) (by simpa using hlen0) rfl (by simp only [List.nil_append]; exact h.re (by intro _; simp only [List.append_eq, cnt_append, cnt_cons, cnt_nil] <;> omega))
  exact this
end Go.Proofs.YtmicoampfglaiaaGreatDoor


/- The loop over a text that looks for inlines: its rounds. -/
set_option linter.unusedVariables false
namespace Go.Proofs.YtmicoampfglaiaaGreatDoor
open Go.Proofs Go.IntWalk Go.RowKit
variable {σ : Out} {w : World} {L L' : List Chunk} {R : Ending → World → Prop}
inductive PK where
  | nil
  | fn (f : FuncId)
  | code
def parserOf (o : Opt) (c : UInt8) : PK :=
  if c = 92 then .fn i_parseEscape else if c = 96 then .code else if c = 60 then .fn i_parseAutoLinkOrHTML else if c = 91 then .fn i_parseLinkOpen else if c = 33 then .fn i_parseImageOpen
  else if c = 95 ∨ c = 42 then .fn i_parseEmph else if c = 46 then (if o.dot then .fn i_parseDot else .nil) else if c = 45 then (if o.dash then .fn i_parseDash else .nil)
  else if c = 34 ∨ c = 39 then (if o.quote then .fn i_parseEmph else .nil) else if c = 126 then (if o.strike then .fn i_parseEmph else .nil) else if c = 10 then .fn i_parseBreak
  else if c = 38 then .fn i_parseHTMLEntity else if c = 58 then (if o.emoji then .fn i_parseEmoji else .nil) else .nil
abbrev XI := Option Addr → ByteArray → Option Addr → Nat → Nat → Int → Bool → Int → World → Prop
/-- A round goes by the byte. -/
theorem inl_dispatch {X : XI} {b pb : Nat} {p : PS} {o : Opt} {s : List UInt8} {oq : Option Addr} {on oc : Nat} {lo : Int} {bk : Bool} {i : Nat} (hi : i < s.length) (hs : s.length < 4611686018427387904) (hpz : p.pz = some ⟨pb, 0, none⟩) (hp : p.at b ∈ L) (ho : o.at pb ∈ L) (h : Sat σ w L)
    (hK : match parserOf o s[i] with
      | .nil => g_parseState_inline.k1 R X (some ⟨b, 0, none⟩) (bs s) oq on oc lo bk i .nilFunc w
      | .fn f => g_parseState_inline.k1 R X (some ⟨b, 0, none⟩) (bs s) oq on oc lo bk i (.func (.func f) #[] #[]) w
      | .code => br (!bk) (callE P i_backtickParser_reset #[.pointer (some ⟨b, 12, none⟩)] (fun e w11 => e = .returned (.tuple #[]) ∧ g_parseState_inline.k1 R X (some ⟨b, 0, none⟩) (bs s) oq on oc lo true i (.func (.func i_backtickParser_parseCodeSpan) #[.pointer (some ⟨b, 12, none⟩)] #[]) w11) w)
          (g_parseState_inline.k1 R X (some ⟨b, 0, none⟩) (bs s) oq on oc lo bk i (.func (.func i_backtickParser_parseCodeSpan) #[.pointer (some ⟨b, 12, none⟩)] #[]) w)) :
    g_parseState_inline.bl1 R X (some ⟨b, 0, none⟩) (bs s) oq on oc lo bk i w := by
  have hld0 : w.cell? ⟨b, 0, none⟩ = some (.pointer (some ⟨pb, 0, none⟩)) := by rw [← hpz]; exact Sat.ld h hp rfl
  refine br_true (by simp; omega) ⟨by omega, by simp; omega, ?_⟩
  unfold parserOf at hK
  have hne : ∀ (d : UInt8) (m : Int), (d.toNat : Int) = m → ¬ s[i] = d → (bt (bs s) (i : Int) == m) = false := by
    intro d m hm hd; rw [bt_beq hi d m hm]; simpa using hd
  have hye : ∀ (d : UInt8) (m : Int), (d.toNat : Int) = m → s[i] = d → (bt (bs s) (i : Int) == m) = true := by
    intro d m hm hd; rw [bt_beq hi d m hm]; simpa using hd
  by_cases h92 : s[i] = 92
  · rw [if_pos h92] at hK; exact br_true (hye 92 92 rfl h92) hK
  rw [if_neg h92] at hK; refine br_false (hne 92 92 rfl h92) ?_
  by_cases h96 : s[i] = 96
  · rw [if_pos h96] at hK
    refine br_true (hye 96 96 rfl h96) ?_
    cases bk with
    | true => exact br_false rfl (nilP_some hK)
    | false => exact br_true rfl (nilP_some (by
        have hK : callE P i_backtickParser_reset #[.pointer (some ⟨b, 12, none⟩)] _ w := hK
        exact hK))
  rw [if_neg h96] at hK; refine br_false (hne 96 96 rfl h96) ?_
  by_cases h60 : s[i] = 60
  · rw [if_pos h60] at hK; exact br_true (hye 60 60 rfl h60) hK
  rw [if_neg h60] at hK; refine br_false (hne 60 60 rfl h60) ?_
  by_cases h91 : s[i] = 91
  · rw [if_pos h91] at hK; exact br_true (hye 91 91 rfl h91) hK
  rw [if_neg h91] at hK; refine br_false (hne 91 91 rfl h91) ?_
  by_cases h33 : s[i] = 33
  · rw [if_pos h33] at hK; exact br_true (hye 33 33 rfl h33) hK
  rw [if_neg h33] at hK; refine br_false (hne 33 33 rfl h33) ?_
  by_cases h95 : s[i] = 95
  · rw [if_pos (.inl h95)] at hK; exact br_true (hye 95 95 rfl h95) (br_true rfl hK)
  refine br_false (hne 95 95 rfl h95) ?_
  by_cases h42 : s[i] = 42
  · rw [if_pos (.inr h42)] at hK; exact br_true (hye 42 42 rfl h42) hK
  rw [if_neg (by simp [h95, h42])] at hK; refine br_false (hne 42 42 rfl h42) ?_
  have opt : ∀ {A B : Prop} (k : Nat) (v : Bool), o.cells[k]? = some (.bool v) → (v = true → A) → (v = false → B) →
      nilP (some (⟨b, 0, none⟩ : Addr)) fun a53 => ∃ (v54 : Option Addr), w.cell? a53 = some (.pointer v54) ∧ nilP v54 fun a55 => ∃ (v56 : Bool), w.cell? (a55.add k) = some (.bool v56) ∧ br v56 A B := by
    intro A B k v hv hA hB
    refine nilP_some ⟨_, hld0, nilP_some ?_⟩
    simp only [Addr.add_lit, Nat.zero_add]
    exact ⟨v, Sat.ld h ho hv, br_split hA hB⟩
  by_cases h46 : s[i] = 46
  · rw [if_pos h46] at hK
    refine br_true (hye 46 46 rfl h46) (opt 7 o.dot rfl (fun hv => ?_) (fun hv => ?_))
    · rw [if_pos hv] at hK; exact hK
    · rw [if_neg (by simp [hv])] at hK; exact hK
  rw [if_neg h46] at hK; refine br_false (hne 46 46 rfl h46) ?_
  by_cases h45 : s[i] = 45
  · rw [if_pos h45] at hK
    refine br_true (hye 45 45 rfl h45) (opt 8 o.dash rfl (fun hv => ?_) (fun hv => ?_))
    · rw [if_pos hv] at hK; exact hK
    · rw [if_neg (by simp [hv])] at hK; exact hK
  rw [if_neg h45] at hK; refine br_false (hne 45 45 rfl h45) ?_
  by_cases h34 : s[i] = 34
  · rw [if_pos (.inl h34)] at hK
    refine br_true (hye 34 34 rfl h34) (br_true rfl (opt 9 o.quote rfl (fun hv => ?_) (fun hv => ?_)))
    · rw [if_pos hv] at hK; exact hK
    · rw [if_neg (by simp [hv])] at hK; exact hK
  refine br_false (hne 34 34 rfl h34) ?_
  by_cases h39 : s[i] = 39
  · rw [if_pos (.inr h39)] at hK
    refine br_true (hye 39 39 rfl h39) (opt 9 o.quote rfl (fun hv => ?_) (fun hv => ?_))
    · rw [if_pos hv] at hK; exact hK
    · rw [if_neg (by simp [hv])] at hK; exact hK
  rw [if_neg (by simp [h34, h39])] at hK; refine br_false (hne 39 39 rfl h39) ?_
  by_cases h126 : s[i] = 126
  · rw [if_pos h126] at hK
    refine br_true (hye 126 126 rfl h126) (opt 1 o.strike rfl (fun hv => ?_) (fun hv => ?_))
    · rw [if_pos hv] at hK; exact hK
    · rw [if_neg (by simp [hv])] at hK; exact hK
  rw [if_neg h126] at hK; refine br_false (hne 126 126 rfl h126) ?_
  by_cases h10 : s[i] = 10
  · rw [if_pos h10] at hK; exact br_true (hye 10 10 rfl h10) hK
  rw [if_neg h10] at hK; refine br_false (hne 10 10 rfl h10) ?_
  by_cases h38 : s[i] = 38
  · rw [if_pos h38] at hK; exact br_true (hye 38 38 rfl h38) hK
  rw [if_neg h38] at hK; refine br_false (hne 38 38 rfl h38) ?_
  by_cases h58 : s[i] = 58
  · rw [if_pos h58] at hK
    refine br_true (hye 58 58 rfl h58) (opt 6 o.emoji rfl (fun hv => ?_) (fun hv => ?_))
    · rw [if_pos hv] at hK; exact hK
    · rw [if_neg (by simp [hv])] at hK; exact hK
  rw [if_neg h58] at hK; exact br_false (hne 58 58 rfl h58) hK
end Go.Proofs.YtmicoampfglaiaaGreatDoor


/- The loop that looks for inlines: rounds with a parser, and without. -/
set_option linter.unusedVariables false
namespace Go.Proofs.YtmicoampfglaiaaGreatDoor
open Go.Proofs Go.IntWalk Go.RowKit
variable {σ : Out} {w : World} {L L' : List Chunk} {R : Ending → World → Prop}
/-- What inlines do not touch of the state. -/
def PS.core (p : PS) : PS := { p with em := 0, lq := none, ln := 0, lc := 0, corner := false, bt := [] }
/-- What a leaf's parser does not touch. -/
def PS.core2 (p : PS) : PS := { p with corner := false, bt := [] }
theorem PS.core_of2 {p p' : PS} (h : p'.core2 = p.core2) : p'.core = p.core := by
  have := congrArg PS.core h
  simpa [PS.core, PS.core2] using this
/-- The inlines so far, the places of open brackets, and the rest. -/
def IIn (σ : Out) (b : Nat) (p : PS) (ts : List Inl) (opens : List Nat) (oq : Option Addr) (on oc : Nat) (L : List Chunk) (w : World) : Prop :=
  ∃ vs RM EM OM, Sl 1 ty_Inline p.lq p.ln p.lc vs RM ∧ InlsAt ts vs EM ∧ Sl 1 ty_int oq on oc (opens.map fun (n : Nat) => Value.int .i64 n) OM ∧ ts.length < 1073741824 ∧ Sat σ w (p.at b :: (RM ++ (EM ++ (OM ++ L))))
def sub (s : List UInt8) (i j : Nat) : List UInt8 := (s.take j).drop i
/-- What lies ahead of i goes to the inlines. -/
def emitM (s : List UInt8) (em i : Nat) (ts : List Inl) : List Inl := if em < i then ts ++ [.plain (sub s em i)] else ts
theorem emitI_ok {b e i : Nat} {p : PS} {ts : List Inl} {opens : List Nat} {oq : Option Addr} {on oc : Nat} (h : IIn σ b p ts opens oq on oc L w) (he : p.em = e) (hl : i ≤ p.s.length) (hn : ts.length < 1073741823)
    (hR : ∀ w p', p'.core = p.core → p'.bt = p.bt → p'.em = ((max e i : Nat) : Int) → IIn σ b p' (emitM p.s e i ts) opens oq on oc L w → R (.returned (.tuple #[])) w) :
    callE P i_parseState_emit #[.pointer (some ⟨b, 0, none⟩), .int .i64 i] R w := by
  obtain ⟨vs, RM, EM, OM, hS, hI, hO, hlen, h⟩ := h
  have hvl := hI.length
  by_cases hi : e < i
  · have h : Sat σ w (p.at b :: RM ++ (EM ++ (OM ++ L))) := h
    refine emit_ok (L := EM ++ (OM ++ L)) h ⟨hS, by omega⟩ he hi hl (by omega) fun w p' M' nb hp' hS' h => ?_
    refine hR w p' (by rw [hp']; rfl) (by rw [hp']) (by rw [hp']; show ((i : Nat) : Int) = _; congr 1; omega) ⟨_, M', EM ++ [plainC nb (sub p.s e i)], OM, hS'.1, ?_, hO, ?_, ?_⟩
    · unfold emitM; rw [if_pos hi]
      exact hI.append (InlsAt.one ⟨nb, [], _, rfl, rfl⟩)
    · unfold emitM; rw [if_pos hi]; simp; omega
    · have h : Sat σ w (p'.at b :: M' ++ (plainC nb (sub p.s e i) :: (EM ++ (OM ++ L)))) := h
      exact h.re (by intro _; simp only [List.append_eq, cnt_append, cnt_cons, cnt_nil] <;> omega)
  · refine emit_no h (by rw [he]; omega) fun w h => ?_
    refine hR w p rfl rfl (by rw [he]; congr 1; omega) ⟨vs, RM, EM, OM, hS, ?_, hO, ?_, h⟩
    · unfold emitM; rw [if_neg hi]; exact hI
    · unfold emitM; rw [if_neg hi]; exact hlen

/-- What a parser of a leaf answers: the inline, where it begins, where it ends. -/
def LeafOK (b : Nat) (p : PS) (s : List UInt8) (i : Nat) (fv : Value) (L0 : List Chunk) (res : Option (Inl × Nat × Nat)) (Q : PS → Prop) : Prop :=
  ∀ (σ : Out) (R : Ending → World → Prop) (L : List Chunk) (w : World), (∀ c ∈ L0, c ∈ L) → Sat σ w (p.at b :: L) →
    (match res with
      | none => ∀ w p' v x y, p'.core2 = p.core2 → Q p' → Sat σ w (p'.at b :: L) → R (.returned (.tuple #[v, .int .i64 x, .int .i64 y, .bool false])) w
      | some (t, st, en) => ∀ w p' v TM, p'.core2 = p.core2 → Q p' → InlAt t v TM → Sat σ w (p'.at b :: (TM ++ L)) → R (.returned (.tuple #[v, .int .i64 st, .int .i64 en, .bool true])) w) →
    enterE P (do let d ← Deferred.ofValue fv #[.pointer (some ⟨b, 0, none⟩), .string (bs s), .int .i64 i]; invoke d.target d.args) R w
def isFuncB (P : Program) (t : TypeId) : Bool := match P.underlying t with | some (.func _ _ _) => true | _ => false
theorem isFunc_out {P : Program} {t : TypeId} (h : isFuncB P t = true) : ∃ ps rs vr, P.underlying t = some (.func ps rs vr) := by
  unfold isFuncB at h
  split at h
  · rename_i a b c hd; exact ⟨_, _, _, hd⟩
  · cases h
theorem und_pf : isFuncB P ty_func_P_parseState_string_int_I_18a27a = true := by kernel_rfl
theorem neq_pf {x y : Operand} (k : FuncId) (f g : Array Value) (w : World) :
    (do eqGuard .neq ty_func_P_parseState_string_int_I_18a27a x y (.func (.func k) f g) .nilFunc; binOp .neq ty_func_P_parseState_string_int_I_18a27a (.func (.func k) f g) .nilFunc).run P w = .ok (.bool true) w := by
  obtain ⟨_, _, _, h⟩ := isFunc_out und_pf
  exact neq_func_nil h k f g w
theorem neq_pn {x y : Operand} (w : World) :
    (do eqGuard .neq ty_func_P_parseState_string_int_I_18a27a x y .nilFunc .nilFunc; binOp .neq ty_func_P_parseState_string_int_I_18a27a .nilFunc .nilFunc).run P w = .ok (.bool false) w := by
  obtain ⟨_, _, _, h⟩ := isFunc_out und_pf
  exact neq_nil_nil h w
def Inl.isOpen : Inl → Bool
  | .openP _ _ => true
  | _ => false
theorem Inl.ty_open {t : Inl} (h : t.isOpen = false) : t.ty ≠ ty_P_openPlain := by
  cases t <;> simp only [Inl.isOpen, reduceCtorEq] at h <;> (simp only [Inl.ty]; decide)
noncomputable def rowInt : Row P ty_S_int ty_int 1 8 :=
  ⟨(P.info? ty_int).getD default, ((P.info? ty_int).bind (·.zero)).getD default, by kernel_rfl, by kernel_rfl, by kernel_rfl, by kernel_rfl, by kernel_rfl, by kernel_rfl, by decide⟩
theorem fillN (n : Nat) : Instr.fill (fun i => some (i * 1, 1)) ((Array.range (1 * 1)).map (rowInt.z.cells[· % rowInt.z.cells.size]!)) [(0, .int .i64 n)] = some #[.int .i64 n] := by kernel_rfl
/-- A round whose parser answers. -/
theorem inl_leaf {X : XI} {b i e st en : Nat} {p : PS} {ts : List Inl} {opens : List Nat} {oq : Option Addr} {on oc : Nat} {lo : Int} {bk : Bool} {f : FuncId} {fr cp : Array Value} {t : Inl} {L0 : List Chunk} {Q : PS → Prop}
    (h : IIn σ b p ts opens oq on oc L w) (hL0 : ∀ c ∈ L0, c ∈ L) (hf : LeafOK b p p.s i (.func (.func f) fr cp) L0 (some (t, st, en)) Q) (he : p.em = e) (hst : st ≤ p.s.length) (hs : p.s.length < 1000000000) (hn : ts.length < 1000000000) (hon : opens.length < 1000000000)
    (hK : ∀ w p' oq on oc, p'.core = p.core → p'.em = (en : Int) → (∃ p'', Q p'' ∧ p'.bt = p''.bt) → IIn σ b p' (emitM p.s e st ts ++ [t]) (if t.isOpen then opens ++ [(emitM p.s e st ts).length] else opens) oq on oc L w → X (some ⟨b, 0, none⟩) (bs p.s) oq on oc lo bk en w) :
    g_parseState_inline.k1 R X (some ⟨b, 0, none⟩) (bs p.s) oq on oc lo bk i (.func (.func f) fr cp) w := by
  refine ⟨_, _, neq_pf f fr cp w, br_true rfl ?_⟩
  obtain ⟨vs, RM, EM, OM, hS, hI, hO, hlen, h⟩ := h
  have hcl : ∀ c ∈ L0, c ∈ RM ++ (EM ++ (OM ++ L)) := fun c hc => List.mem_append_right _ (List.mem_append_right _ (List.mem_append_right _ (hL0 c hc)))
  refine hf σ _ (RM ++ (EM ++ (OM ++ L))) w hcl h fun w p1 v TM hp1 hq1 ht h => ⟨_, _, _, _, rfl, br_true rfl ?_⟩
  have hc1 := PS.core_of2 hp1
  have e1 : p1.lq = p.lq := by have := congrArg PS.lq hp1; exact this
  have e2 : p1.ln = p.ln := by have := congrArg PS.ln hp1; exact this
  have e3 : p1.lc = p.lc := by have := congrArg PS.lc hp1; exact this
  have e4 : p1.s = p.s := by have := congrArg PS.s hp1; exact this
  have e5 : p1.em = e := by have := congrArg PS.em hp1; rw [← he]; exact this
  have hI1 : IIn σ b p1 ts opens oq on oc (TM ++ L) w := ⟨vs, RM, EM, OM, by rw [e1, e2, e3]; exact hS, hI, hO, hlen, h.re (by intro _; simp only [List.append_eq, cnt_append, cnt_cons, cnt_nil] <;> omega)⟩
  refine emitI_ok hI1 e5 (by rw [e4]; exact hst) (by omega) fun w p2 hp2 hbt he2 h2 => ⟨rfl, ?_⟩
  rw [e4] at h2
  obtain ⟨pb, cs, ee, TM', rfl, rfl⟩ := ht.ptr
  have hc2 : p2.core = p.core := hp2.trans hc1
  have hs2 : p2.s = p.s := by have := congrArg PS.s hc2; exact this
  have elen : (emitM p.s e st ts).length ≤ ts.length + 1 := by unfold emitM; split <;> simp
  -- the inline itself
  have fin : ∀ w oq on oc opens', opens' = (if t.isOpen then opens ++ [(emitM p.s e st ts).length] else opens) → IIn σ b p2 (emitM p.s e st ts) opens' oq on oc (((pb, cel cs ee) :: TM') ++ L) w →
      g_parseState_inline.k4 R X (some ⟨b, 0, none⟩) (bs p.s) oq on oc lo bk (ptrV t.ty pb) en w := by
    intro w oq on oc opens' ho h
    obtain ⟨vs, RM, EM, OM, hS, hI, hO, hlen, h⟩ := h
    have hvl := hI.length
    have hn0 := hS.1
    refine nilP_some ?_
    refine ⟨_, _, _, Sat.ld h (by first | assumption | (repeat (first | exact .head _ | apply List.Mem.tail))) (by exact rfl), ?_⟩
    have h : Sat σ w (RM ++ (p2.at b :: (EM ++ (OM ++ (((pb, cel cs ee) :: TM') ++ L))))) := h.re (by intro _; simp only [List.append_eq, cnt_append, cnt_cons, cnt_nil] <;> omega)
    refine Sat.app1 rowInl hS h (v := ptrV t.ty pb) rfl (by simp [ptrV, Value.cells, Value.oneCell']) (fillI _ _) (by omega) (by omega) (by decide) fun q' c' w' M' hS' h => ?_
    have h : Sat σ w' (p2.at b :: (M' ++ (EM ++ (OM ++ (((pb, cel cs ee) :: TM') ++ L))))) := h.re (by intro _; simp only [List.append_eq, cnt_append, cnt_cons, cnt_nil] <;> omega)
    refine nilP_some ?_
    refine Sat.st h (k := 0) rfl (Nat.le_of_ble_eq_true rfl) trivial (by first | (dsimp only [List.set]; exact rfl) | exact rfl) fun w h => ?_
    let p3 : PS := { p2 with lq := q', ln := p2.ln + 1, lc := c' }
    have h : Sat σ w (p3.at b :: (M' ++ (EM ++ (OM ++ (((pb, cel cs ee) :: TM') ++ L))))) := h
    refine skipTo_ok h fun w h => ⟨rfl, ?_⟩
    refine hK w { p3 with em := en } oq on oc (by rw [← hc2]; rfl) rfl ⟨p1, hq1, hbt⟩ ⟨_, M', EM ++ ((pb, cel cs ee) :: TM'), OM, hS', ?_, by rw [← ho]; exact hO, by simp; omega, h.re (by intro _; simp only [List.append_eq, cnt_append, cnt_cons, cnt_nil] <;> omega)⟩
    exact hI.append (InlsAt.one ht)
  cases hto : t.isOpen with
  | false =>
    refine ⟨_, _, w, ta_open_no (Inl.ty_open hto) w, br_false rfl ?_⟩
    exact fin w oq on oc opens (by rw [hto]; rfl) h2
  | true =>
    have hty : t.ty = ty_P_openPlain := by cases t <;> simp only [Inl.isOpen, reduceCtorEq] at hto; rfl
    have hta : (Instr.typeAssert (ptrV t.ty pb) ty_Inline ty_P_openPlain true).run P w = .ok (.tuple #[.pointer (some ⟨pb, 0, none⟩), .bool true]) w := by
      rw [hty]; exact ta_open_yes w
    refine ⟨_, _, w, hta, br_true rfl ?_⟩
    obtain ⟨vs, RM, EM, OM, hS, hI, hO, hlen, h⟩ := h2
    have hvl := hI.length
    have hn0 := hS.1
    have hol := hO.1
    rw [List.length_map] at hol
    refine nilP_some ?_
    refine ⟨_, _, _, Sat.ld h (by first | assumption | (repeat (first | exact .head _ | apply List.Mem.tail))) (by exact rfl), ?_⟩
    have h : Sat σ w (OM ++ (p2.at b :: (RM ++ (EM ++ (((pb, cel cs ee) :: TM') ++ L))))) := h.re (by intro _; simp only [List.append_eq, cnt_append, cnt_cons, cnt_nil] <;> omega)
    have hln : p2.ln = (emitM p.s e st ts).length := by omega
    rw [hln]
    generalize hm : (emitM p.s e st ts).length = m at fin elen hln ⊢
    refine Sat.app1 rowInt hO h (v := .int .i64 (m : Nat)) rfl (by simp [Value.cells, Value.oneCell']) (fillN m) (by omega) (by omega) (by decide) fun q' c' w' M' hO' h => ?_
    refine fin w' q' _ c' _ (by rw [hto] <;> rfl) ⟨vs, RM, EM, M', hS, hI, ?_, hlen, h.re (by intro _; simp only [List.append_eq, cnt_append, cnt_cons, cnt_nil] <;> omega)⟩
    rw [if_pos rfl, List.map_append]; exact hO'
/-- A round that goes on by a byte: no parser, or one that declines; no bracket to close. -/
theorem inl_k5 {X : XI} {b i : Nat} {s : List UInt8} {oq : Option Addr} {on oc : Nat} {lo : Int} {bk : Bool} (hi : i < s.length) (hs : s.length < 4611686018427387904) (hc : s[i] ≠ 93 ∨ on = 0)
    (hK : X (some ⟨b, 0, none⟩) (bs s) oq on oc lo bk ((i + 1 : Nat) : Int) w) : g_parseState_inline.k5 R X (some ⟨b, 0, none⟩) (bs s) oq on oc lo bk i w := by
  refine ⟨by omega, by simp; omega, ?_⟩
  refine br_false ?_ ?_
  · rw [bt_beq hi 93 93 rfl]
    rcases hc with hc | hc
    · simp [hc]
    · simp [hc]
  · rw [i64_inc (by omega)]; exact hK
theorem inl_none {X : XI} {b i : Nat} {s : List UInt8} {oq : Option Addr} {on oc : Nat} {lo : Int} {bk : Bool} (hK : g_parseState_inline.k5 R X (some ⟨b, 0, none⟩) (bs s) oq on oc lo bk i w) :
    g_parseState_inline.k1 R X (some ⟨b, 0, none⟩) (bs s) oq on oc lo bk i .nilFunc w :=
  ⟨_, _, neq_pn w, br_false rfl hK⟩
end Go.Proofs.YtmicoampfglaiaaGreatDoor


/- The end of inline. -/
set_option linter.unusedVariables false
namespace Go.Proofs.YtmicoampfglaiaaGreatDoor
open Go.Proofs Go.IntWalk Go.RowKit
variable {σ : Out} {w : World} {L L' : List Chunk} {R : Ending → World → Prop}
def EmphOK (ts ts' : List Inl) : Prop :=
  ∀ (σ : Out) (R : Ending → World → Prop) (pq q : Option Addr) (n c : Nat) vs RM EM L w, Sl 1 ty_Inline q n c vs RM → InlsAt ts vs EM → n < 1073741823 → Sat σ w (RM ++ (EM ++ L)) →
    (∀ w q' n' c' vs' RM' EM', Sl 1 ty_Inline q' n' c' vs' RM' → n' ≤ n → InlsAt ts' vs' EM' → Sat σ w (RM' ++ (EM' ++ L)) → R (.returned (.slice q' n' c')) w) →
    callE P i_parseState_emph #[.pointer pq, .slice q 0 c, .slice q n c] R w
theorem emphOK_none {ts : List Inl} (hno : ∀ t ∈ ts, t.ty ≠ ty_P_openPlain ∧ t.ty ≠ ty_P_emphPlain) : EmphOK ts ts := by
  intro σ R pq q n c vs RM EM L w hS hI hn h hR
  exact emph_none_ok hS hI hno (by omega) h fun w h => hR w q n c vs RM EM hS (Nat.le_refl _) hI h
theorem autoOff_ok {b pb : Nat} {p : PS} {o : Opt} {q : Option Addr} {n c : Nat} (hpz : p.pz = some ⟨pb, 0, none⟩) (hp : p.at b ∈ L) (ho : o.at pb ∈ L) (hoff : o.auto = false) (h : Sat σ w L) (hR : R (.returned (.slice q n c)) w) :
    callE P i_parseState_autoLinkText #[.pointer (some ⟨b, 0, none⟩), .slice q n c] R w := by
  refine g_parseState_autoLinkText.sound ?_
  refine nilP_some ⟨_, by rw [← hpz]; exact Sat.ld h hp rfl, nilP_some ?_⟩
  simp only [Addr.add_lit, Nat.zero_add]
  exact ⟨o.auto, Sat.ld h ho rfl, br_true (by rw [hoff]; rfl) hR⟩
theorem inl_end {X : XI} {b pb e : Nat} {p : PS} {o : Opt} {ts ts' : List Inl} {opens : List Nat} {oq : Option Addr} {on oc : Nat} {lo : Int} {bk : Bool} (h : IIn σ b p ts opens oq on oc L w) (he : p.em = e) (hs : p.s.length < 1000000000)
    (hn : ts.length < 1000000000) (hpz : p.pz = some ⟨pb, 0, none⟩) (ho : o.at pb ∈ L) (hoff : o.auto = false) (hE : EmphOK (emitM p.s e p.s.length ts) ts') (hpos : ∀ t ∈ ts', ∀ s, t.plain? = some s → s ≠ []) (hb : plen ts' < 1073741824)
    (hR : ∀ w (p' : PS) q n c vs RM EM, p'.core = p.core → Sl 1 ty_Inline q n c vs RM → n < 1073741824 → InlsAt (mergeM ts') vs EM → Sat σ w (p'.at b :: (RM ++ (EM ++ L))) → R (.returned (.slice q n c)) w) :
    g_parseState_inline.bl1 R X (some ⟨b, 0, none⟩) (bs p.s) oq on oc lo bk (p.s.length : Nat) w := by
  have elen : (emitM p.s e p.s.length ts).length ≤ ts.length + 1 := by unfold emitM; split <;> simp
  refine br_false (by simp) ?_
  rw [bs_size]
  refine emitI_ok h he (Nat.le_refl _) (by omega) fun w p1 hp1 _ _ h => ⟨rfl, ?_⟩
  obtain ⟨vs, RM, EM, OM, hS, hI, hO, hlen, h⟩ := h
  have hvl := hI.length
  have hn0 := hS.1
  have hnc := hS.2.1
  have c1 : p1.pz = p.pz := by have := congrArg PS.pz hp1; exact this
  refine Sat.tk h fun w h => ?_
  refine nilP_some (nilP_some ?_)
  refine ⟨_, _, _, Sat.ld h (by first | assumption | (repeat (first | exact .head _ | apply List.Mem.tail))) (by exact rfl), ?_⟩
  refine ⟨_, _, _, fun w => sliceT rowInl.ht rowInl.hi _ _ _ 0 (by omega) w, ?_⟩
  refine ⟨_, _, _, Sat.ld h (by first | assumption | (repeat (first | exact .head _ | apply List.Mem.tail))) (by exact rfl), ?_⟩
  have h : Sat σ w (RM ++ (EM ++ (p1.at b :: (OM ++ L)))) := h.re (by intro _; simp only [List.append_eq, cnt_append, cnt_cons, cnt_nil] <;> omega)
  refine hE σ _ _ p1.lq p1.ln p1.lc vs RM EM _ w hS hI (by omega) h fun w q' n' c' vs' RM' EM' hS' hnn hI' h => ⟨_, _, _, rfl, nilP_some ?_⟩
  have h : Sat σ w (p1.at b :: (RM' ++ (EM' ++ (OM ++ L)))) := h.re (by intro _; simp only [List.append_eq, cnt_append, cnt_cons, cnt_nil] <;> omega)
  refine Sat.st h (k := 0) rfl (Nat.le_of_ble_eq_true rfl) trivial (by first | (dsimp only [List.set]; exact rfl) | exact rfl) fun w h => ?_
  let p2 : PS := { p1 with lq := q', ln := n', lc := c' }
  have h : Sat σ w (p2.at b :: (RM' ++ (EM' ++ (OM ++ L)))) := h
  refine nilP_some ?_
  refine ⟨_, _, _, Sat.ld h (by first | assumption | (repeat (first | exact .head _ | apply List.Mem.tail))) (by exact rfl), ?_⟩
  have h : Sat σ w (RM' ++ (EM' ++ (p2.at b :: (OM ++ L)))) := h.re (by intro _; simp only [List.append_eq, cnt_append, cnt_cons, cnt_nil] <;> omega)
  refine mergePlain_ok (n := n') hS' hI' hpos hb (by omega) h fun w n2 vs2 RM2 EM2 hS2 hn2 hI2 h => ⟨_, _, _, rfl, nilP_some ?_⟩
  have h : Sat σ w (p2.at b :: (RM2 ++ (EM2 ++ (OM ++ L)))) := h.re (by intro _; simp only [List.append_eq, cnt_append, cnt_cons, cnt_nil] <;> omega)
  refine Sat.st h (k := 0) rfl (Nat.le_of_ble_eq_true rfl) trivial (by first | (dsimp only [List.set]; exact rfl) | exact rfl) fun w h => ?_
  let p3 : PS := { p1 with lq := q', ln := n2, lc := c' }
  have h : Sat σ w (p3.at b :: (RM2 ++ (EM2 ++ (OM ++ L)))) := h
  refine nilP_some ?_
  refine ⟨_, _, _, Sat.ld h (by first | assumption | (repeat (first | exact .head _ | apply List.Mem.tail))) (by exact rfl), ?_⟩
  refine autoOff_ok (p := p3) (by rw [← hpz, ← c1]) (.head _) (.tail _ (List.mem_append_right _ (List.mem_append_right _ (List.mem_append_right _ ho)))) hoff h ⟨_, _, _, rfl, nilP_some ?_⟩
  refine Sat.st h (k := 0) rfl (Nat.le_of_ble_eq_true rfl) trivial (by first | (dsimp only [List.set]; exact rfl) | exact rfl) fun w h => ?_
  refine nilP_some ?_
  refine ⟨_, _, _, Sat.ld h (by first | assumption | (repeat (first | exact .head _ | apply List.Mem.tail))) (by exact rfl), ?_⟩
  have h : Sat σ w (p3.at b :: (RM2 ++ (EM2 ++ (OM ++ L)))) := h
  exact hR w p3 q' n2 c' vs2 RM2 EM2 (by rw [← hp1]; rfl) hS2 (by omega) hI2 (h.less OM (by intro _; simp only [List.append_eq, cnt_append, cnt_cons, cnt_nil] <;> omega))
/-- The beginning of inline. -/
theorem inl_begin {b : Nat} {p : PS} {raw : List UInt8} (h : Sat σ w (p.at b :: L)) (hl : raw.length < 4611686018427387904)
    (hK : ∀ w, IIn σ b { p with s := trimLR isST raw, em := 0, lq := none, ln := 0, lc := 0 } [] [] none 0 0 L w → g_parseState_inline.l1 R (some ⟨b, 0, none⟩) (bs (trimLR isST raw)) none 0 0 0 false 0 w) :
    callE P i_parseState_inline #[.pointer (some ⟨b, 0, none⟩), .string (bs raw)] R w := by
  refine g_parseState_inline.sound ?_
  refine trimSpaceTab_ok hl ⟨_, rfl, nilP_some ?_⟩
  refine Sat.st h (k := 0) rfl (Nat.le_of_ble_eq_true rfl) trivial (by first | (dsimp only [List.set]; exact rfl) | exact rfl) fun w h => ?_
  refine nilP_some ?_
  refine Sat.st h (k := 0) rfl (Nat.le_of_ble_eq_true rfl) trivial (by first | (dsimp only [List.set]; exact rfl) | exact rfl) fun w h => ?_
  refine nilP_some ?_
  refine Sat.st h (k := 0) rfl (Nat.le_of_ble_eq_true rfl) trivial (by first | (dsimp only [List.set]; exact rfl) | exact rfl) fun w h => ?_
  exact hK w ⟨[], [], [], [], Sl.nil _ _, ⟨rfl, rfl⟩, Sl.nil _ _, by simp, h⟩
end Go.Proofs.YtmicoampfglaiaaGreatDoor


/- A line that begins with a byte that no block but a paragraph begins with. -/
set_option linter.unusedVariables false
namespace Go.Proofs.YtmicoampfglaiaaGreatDoor
open Go.Proofs Go.IntWalk
variable {σ : Out} {w : World} {L L' : List Chunk} {R : Ending → World → Prop}
def lnOf (s : List UInt8) (nl : UInt8 := 0) : Ln := ⟨0, 0, 0, s, nl⟩
/-- A byte with which a line begins that no block but a paragraph begins with (signs < and the marks of lists left aside). -/
def plainStart0 (c : UInt8) : Bool := !(isST c || c == 62 || c == 35 || c == 95 || c == 96 || c == 126 || c == 61 || c == 45 || c == 42)
def plainStart (c : UInt8) : Bool := plainStart0 c && c != 60 && !isBullet c
theorem tsGo_first {c nl : UInt8} {s : List UInt8} (hc : isST c = false) (mn k n : Nat) (e : Bool) : (lnOf (c :: s) nl).tsGo mn e (k + 1) n = if mn ≤ n then some (lnOf (c :: s) nl) else none := by
  simp only [isST, Bool.or_eq_false_iff, beq_eq_false_iff_ne, ne_eq] at hc
  simp [Ln.tsGo, lnOf, hc.1, hc.2]
theorem lnOf_ok {nl : UInt8} {s : List UInt8} (hs : s.length < 1000000000) : (lnOf s nl).ok := ⟨by simp [lnOf], by simp [lnOf], by simp [lnOf]; omega, by simp [lnOf]⟩
theorem lead_first {c nl : UInt8} {s : List UInt8} (hc : isST c = false) (e : Bool) : (lnOf (c :: s) nl).lead 3 e = lnOf (c :: s) nl := by
  unfold Ln.lead Ln.trimSp; rw [tsGo_first hc]; rfl
theorem strip_first {c nl : UInt8} {s : List UInt8} (hc : isST c = false) : (lnOf (c :: s) nl).strip 3 0 = (0, lnOf (c :: s) nl) := by
  simp only [Ln.strip, Ln.trimSp]; rw [tsGo_first hc]; rfl
theorem plainStart0_st {c : UInt8} (hc : plainStart0 c = true) : isST c = false := by
  simp only [plainStart0, Bool.not_eq_true', Bool.or_eq_false_iff] at hc
  exact hc.1.1.1.1.1.1.1.1
theorem plain_firstX {c nl : UInt8} {s : List UInt8} (hc : plainStart0 c = true) (hs : s.length < 1000000) (hB : LDecl (lnOf (c :: s) nl)) (hH : HDecl (lnOf (c :: s) nl)) : (lnOf (c :: s) nl).plain := by
  simp only [plainStart0, Bool.not_eq_true', Bool.or_eq_false_iff, beq_eq_false_iff_ne, ne_eq] at hc
  obtain ⟨⟨⟨⟨⟨⟨⟨⟨hst, h62⟩, h35⟩, h95⟩, h96⟩, h126⟩, h61⟩, h45⟩, h42⟩ := hc
  have hlead : ∀ e, (lnOf (c :: s) nl).lead 3 e = lnOf (c :: s) nl := lead_first hst
  have hstrip : (lnOf (c :: s) nl).strip 3 0 = (0, lnOf (c :: s) nl) := strip_first hst
  have hpeek : (lnOf (c :: s) nl).peek = c := rfl
  have htc : ∀ d : UInt8, c ≠ d → (lnOf (c :: s) nl).trimC d = none := by
    intro d hd
    simp [Ln.trimC, lnOf, hd]
  refine ⟨lnOf_ok (by simp; omega), ?_, ?_, ?_, ?_, hB, hH, ?_, ?_⟩
  · show (c :: s).all isST = false
    rw [List.all_cons, hst]; rfl
  · unfold Ln.quote; rw [hlead, htc 62 h62]; rfl
  · unfold Ln.heading; rw [hlead, htc 35 h35]
  · unfold Ln.isHR
    simp only [hlead, hpeek]
    rw [if_neg]
    rintro (h | h | h)
    · exact h45 h
    · exact h95 h
    · exact h42 h
  · rw [hstrip]; exact ⟨h96, h126⟩
  · unfold Ln.trimSp; rw [tsGo_first hst]; rfl
theorem plain_first {c nl : UInt8} {s : List UInt8} (hc : plainStart c = true) (hs : s.length < 1000000) : (lnOf (c :: s) nl).plain := by
  simp only [plainStart, Bool.and_eq_true, Bool.not_eq_true', bne_iff_ne, ne_eq] at hc
  obtain ⟨⟨h0, h60⟩, hbu⟩ := hc
  have hst := plainStart0_st h0
  have hok : (lnOf (c :: s) nl).ok := lnOf_ok (by simp; omega)
  exact plain_firstX h0 hs (LDecl.of_peek hok (by rw [strip_first hst]; exact hbu)) (HDecl.of_peek hok (by rw [lead_first hst]; exact h60))
/-! ### Lines that begin with digits, but are no items of lists -/
def digB (c : UInt8) : Bool := decide (48 ≤ c.toNat) && decide (c.toNat ≤ 57)
/-- Behind the digits that begin the text there is no mark of a list. -/
def numNo (s : List UInt8) : Prop := (s.dropWhile digB).head? ≠ some 46 ∧ (s.dropWhile digB).head? ≠ some 41
theorem startListItem_num {b : Nat} {q : Option Addr} {c nl : UInt8} {s : List UInt8} (h : Sat σ w ((lnOf (c :: s) nl).at b :: L)) (hl : s.length < 1000000) (hc : digB c = true) (hn : numNo (c :: s))
    (hR : ∀ w, Sat σ w ((lnOf (c :: s) nl).at b :: L) → R (.returned (.bool false)) w) : callE P i_parseState_startListItem #[.pointer q, .pointer (some ⟨b, 0, none⟩)] R w := by
  have hcd := hc
  simp only [digB, Bool.and_eq_true, decide_eq_true_eq] at hcd
  have hst : isST c = false := by
    simp only [isST, Bool.or_eq_false_iff, beq_eq_false_iff_ne, ne_eq]
    constructor <;> (rintro rfl; revert hcd; decide)
  have hlok : (lnOf (c :: s) nl).ok := lnOf_ok (by simp; omega)
  refine g_parseState_startListItem.sound ?_
  refine Sat.bx h fun b1 w h => ?_
  repeat (first | refine nilP_some ?_ | refine Sat.tk h fun w h => ?_ | refine ⟨_, Sat.ld h (by first | assumption | (repeat (first | exact .head _ | apply List.Mem.tail))) (by exact rfl), ?_⟩ | refine ⟨_, _, _, Sat.ld h (by first | assumption | (repeat (first | exact .head _ | apply List.Mem.tail))) (by exact rfl), ?_⟩ | refine Sat.st h (k := 0) rfl (Nat.le_of_ble_eq_true rfl) trivial (by first | (dsimp only [List.set]; exact rfl) | exact rfl) fun w h => ?_ | refine Sat.st h (k := 1) rfl (Nat.le_of_ble_eq_true rfl) trivial (by first | (dsimp only [List.set]; exact rfl) | exact rfl) fun w h => ?_ | refine Sat.st h (k := 2) rfl (Nat.le_of_ble_eq_true rfl) trivial (by first | (dsimp only [List.set]; exact rfl) | exact rfl) fun w h => ?_ | refine Sat.st h (k := 3) rfl (Nat.le_of_ble_eq_true rfl) trivial (by first | (dsimp only [List.set]; exact rfl) | exact rfl) fun w h => ?_ | refine Sat.st h (k := 4) rfl (Nat.le_of_ble_eq_true rfl) trivial (by first | (dsimp only [List.set]; exact rfl) | exact rfl) fun w h => ?_ | refine Sat.st h (k := 5) rfl (Nat.le_of_ble_eq_true rfl) trivial (by first | (dsimp only [List.set]; exact rfl) | exact rfl) fun w h => ?_ | refine Sat.st h (k := 6) rfl (Nat.le_of_ble_eq_true rfl) trivial (by first | (dsimp only [List.set]; exact rfl) | exact rfl) fun w h => ?_ | refine Sat.bx h fun b0 w h => ?_)
  have h : Sat σ _ ((lnOf (c :: s) nl).at b0 :: (b1, cel [.pointer q] ty_P_parseState) :: (lnOf (c :: s) nl).at b :: L) := h
  intro X hX
  refine hX _ _ _ _ _ (br_true (by simp) ?_)
  refine YtmicoampfglaiaaGreatDoor.trimSp_ok (min := 1) (max := 1) h hlok (by decide) (by decide) ?_
  have hts : (lnOf (c :: s) nl).trimSp 1 1 false = none := by unfold Ln.trimSp; rw [tsGo_first hst]; rfl
  rw [hts]
  intro w h
  refine ⟨_, rfl, br_true rfl ?_⟩
  refine peek_ok h (by first | assumption | (repeat (first | exact .head _ | apply List.Mem.tail))) hlok fun w h => ⟨_, rfl, ?_⟩
  rw [show (lnOf (c :: s) nl).peek = c from rfl]
  have ne : ∀ (d : UInt8) (n : Int), (d.toNat : Int) = n → (d.toNat < 48 ∨ 57 < d.toNat) → (((c.toNat : Nat) : Int) == n) = false := by
    intro d n hd hn
    refine beqf hd ?_
    rintro rfl; omega
  have k4 : g_parseState_startListItem.k4 R b1 b0 0 0 true w := by
    refine br_true rfl ?_
    refine ⟨_, Sat.ld h (by first | assumption | (repeat (first | exact .head _ | apply List.Mem.tail))) (by exact rfl), ?_⟩
    intro Y hY
    have key : ∀ k j v w, j + k = (c :: s).length → (∀ m, m < j → digB ((c :: s).getD m 0) = true) → Sat σ w ((lnOf (c :: s) nl).at b0 :: (b1, cel [.pointer q] ty_P_parseState) :: (lnOf (c :: s) nl).at b :: L) → Y b1 b0 0 v (j : Int) w := by
      intro k
      induction k with
      | zero =>
        intro j v w hj hall h
        refine hY _ _ _ _ _ _ ?_
        refine ⟨_, Sat.ld h (by first | assumption | (repeat (first | exact .head _ | apply List.Mem.tail))) (by exact rfl), ?_⟩
        exact br_true (by simp [lnOf] at hj ⊢; omega) (hR _ h.tail.tail)
      | succ k ih =>
        intro j v w hj hall h
        refine hY _ _ _ _ _ _ ?_
        refine ⟨_, Sat.ld h (by first | assumption | (repeat (first | exact .head _ | apply List.Mem.tail))) (by exact rfl), ?_⟩
        refine br_false (by simp [lnOf] at hj ⊢; omega) ?_
        refine ⟨_, Sat.ld h (by first | assumption | (repeat (first | exact .head _ | apply List.Mem.tail))) (by exact rfl), ?_⟩
        refine ⟨by omega, by simp [lnOf] at hj ⊢; omega, ?_⟩
        rw [show ((lnOf (c :: s) nl).text) = c :: s from rfl]
        have hjl : j < (c :: s).length := by omega
        rw [bs_bt]
        have hdw : (c :: s).dropWhile digB = ((c :: s).drop j).dropWhile digB := by
          have : ∀ (m : Nat) (l : List UInt8), m ≤ l.length → (∀ i, i < m → digB (l.getD i 0) = true) → l.dropWhile digB = (l.drop m).dropWhile digB := by
            intro m
            induction m with
            | zero => intro l _ _; rfl
            | succ m ihm =>
              intro l hl ha
              cases l with
              | nil => simp at hl
              | cons x l =>
                have h0 : digB x = true := ha 0 (by omega)
                rw [List.dropWhile_cons_of_pos h0, List.drop_succ_cons]
                exact ihm l (by simpa using hl) (fun i hi => ha (i + 1) (by omega))
          exact this j _ (by omega) hall
        have hget : (c :: s).getD j 0 = (c :: s)[j] := by rw [List.getD_eq_getElem?_getD, List.getElem?_eq_getElem hjl]; rfl
        rw [hget]
        generalize hd : (c :: s)[j] = d at *
        by_cases hdig : digB d = true
        · have hd' := hdig
          simp only [digB, Bool.and_eq_true, decide_eq_true_eq] at hd'
          refine br_false ?_ (br_false (by simp; omega) ?_)
          · have a1 := u8b d 46 46 rfl
            have a2 := u8b d 41 41 rfl
            rw [a1, a2]
            have b1 : d ≠ 46 := by rintro rfl; revert hd'; decide
            have b2 : d ≠ 41 := by rintro rfl; revert hd'; decide
            simp [b1, b2]
          unfold g_parseState_startListItem.k9
          refine ⟨_, Sat.ld h (by first | assumption | (repeat (first | exact .head _ | apply List.Mem.tail))) (by exact rfl), ?_⟩
          refine br_split (fun _ => hR _ h.tail.tail) fun _ => ?_
          rw [i64_inc (by simp at hjl; omega)]
          refine ih (j + 1) _ w (by omega) ?_ h
          intro m hm
          rcases Nat.lt_or_ge m j with h1 | h1
          · exact hall m h1
          · obtain rfl : m = j := by omega
            rw [hget]; exact hdig
        · have hdf : digB d = false := by simpa using hdig
          have hh : ((c :: s).dropWhile digB).head? = some d := by
            rw [hdw, List.drop_eq_getElem_cons hjl, hd, List.dropWhile_cons_of_neg (by simp [hdf])]; rfl
          have n1 := hn.1; have n2 := hn.2
          rw [hh] at n1 n2
          refine br_false ?_ (br_true ?_ (hR _ h.tail.tail))
          · have a1 := u8b d 46 46 rfl
            have a2 := u8b d 41 41 rfl
            rw [a1, a2]
            have b1 : d ≠ 46 := fun h => n1 (by rw [h])
            have b2 : d ≠ 41 := fun h => n2 (by rw [h])
            simp [b1, b2]
          · simp only [digB, Bool.and_eq_false_iff, decide_eq_false_iff_not] at hdf
            simp; omega
    exact key (c :: s).length 0 0 w (by simp) (fun m hm => by omega) h
  refine br_false (ne 45 45 rfl (by decide)) (br_false (ne 42 42 rfl (by decide)) ?_)
  rw [ne 43 43 rfl (by decide)]
  refine br_false rfl ?_
  have hcn : c.toNat = 48 ∨ c.toNat = 49 ∨ c.toNat = 50 ∨ c.toNat = 51 ∨ c.toNat = 52 ∨ c.toNat = 53 ∨ c.toNat = 54 ∨ c.toNat = 55 ∨ c.toNat = 56 ∨ c.toNat = 57 := by omega
  rcases hcn with e | e | e | e | e | e | e | e | e | e <;> rw [e]
  · exact br_true rfl k4
  · exact br_false rfl (br_true rfl k4)
  · exact br_false rfl (br_false rfl (br_true rfl k4))
  · exact br_false rfl (br_false rfl (br_false rfl (br_true rfl k4)))
  · exact br_false rfl (br_false rfl (br_false rfl (br_false rfl (br_true rfl k4))))
  · exact br_false rfl (br_false rfl (br_false rfl (br_false rfl (br_false rfl (br_true rfl k4)))))
  · exact br_false rfl (br_false rfl (br_false rfl (br_false rfl (br_false rfl (br_false rfl (br_true rfl k4))))))
  · exact br_false rfl (br_false rfl (br_false rfl (br_false rfl (br_false rfl (br_false rfl (br_false rfl (br_true rfl k4)))))))
  · exact br_false rfl (br_false rfl (br_false rfl (br_false rfl (br_false rfl (br_false rfl (br_false rfl (br_false rfl (br_true rfl k4))))))))
  · exact br_false rfl (br_false rfl (br_false rfl (br_false rfl (br_false rfl (br_false rfl (br_false rfl (br_false rfl (br_false rfl (by exact k4)))))))))
theorem LDecl.num {c nl : UInt8} {s : List UInt8} (hl : s.length < 1000000) (hc : digB c = true) (hn : numNo (c :: s)) : LDecl (lnOf (c :: s) nl) := by
  intro b d p ob o M t v hs hd ho hb ht σ w L R h hR
  refine g_newListItem.sound ?_
  refine Sat.bx h fun b1 w h => ?_
  refine Sat.bx h fun b3 w h => ?_
  have h : Sat σ w (zLn b3 :: (lnOf (c :: s) nl).at b1 :: (p.at b :: M ++ L)) := h
  have h : Sat σ w (p.at b :: M ++ (zLn b3 :: (lnOf (c :: s) nl).at b1 :: L)) := h.re (by intro _; simp only [List.append_eq, cnt_append, cnt_cons, cnt_nil] <;> omega)
  refine curB_ok h hs hd fun w h => ?_
  rw [ho]
  dsimp only
  refine ⟨_, rfl, none, false, w, by rw [hb]; exact ta_listBuilder_no ht w, br_false rfl (br_false rfl ?_)⟩
  have h : Sat σ w ((lnOf (c :: s) nl).at b1 :: zLn b3 :: p.at b :: M ++ L) := h.re (by intro _; simp only [List.append_eq, cnt_append, cnt_cons, cnt_nil] <;> omega)
  refine startListItem_num h hl hc hn fun w h => ⟨_, rfl, br_false rfl ?_⟩
  repeat (first | refine nilP_some ?_ | refine Sat.tk h fun w h => ?_ | refine ⟨_, Sat.ld h (by first | assumption | (repeat (first | exact .head _ | apply List.Mem.tail))) (by exact rfl), ?_⟩ | refine ⟨_, _, _, Sat.ld h (by first | assumption | (repeat (first | exact .head _ | apply List.Mem.tail))) (by exact rfl), ?_⟩ | refine Sat.st h (k := 0) rfl (Nat.le_of_ble_eq_true rfl) trivial (by first | (dsimp only [List.set]; exact rfl) | exact rfl) fun w h => ?_ | refine Sat.st h (k := 1) rfl (Nat.le_of_ble_eq_true rfl) trivial (by first | (dsimp only [List.set]; exact rfl) | exact rfl) fun w h => ?_ | refine Sat.st h (k := 2) rfl (Nat.le_of_ble_eq_true rfl) trivial (by first | (dsimp only [List.set]; exact rfl) | exact rfl) fun w h => ?_ | refine Sat.st h (k := 3) rfl (Nat.le_of_ble_eq_true rfl) trivial (by first | (dsimp only [List.set]; exact rfl) | exact rfl) fun w h => ?_ | refine Sat.st h (k := 4) rfl (Nat.le_of_ble_eq_true rfl) trivial (by first | (dsimp only [List.set]; exact rfl) | exact rfl) fun w h => ?_ | refine Sat.st h (k := 5) rfl (Nat.le_of_ble_eq_true rfl) trivial (by first | (dsimp only [List.set]; exact rfl) | exact rfl) fun w h => ?_ | refine Sat.st h (k := 6) rfl (Nat.le_of_ble_eq_true rfl) trivial (by first | (dsimp only [List.set]; exact rfl) | exact rfl) fun w h => ?_ | refine Sat.bx h fun b0 w h => ?_)
  exact hR _ h.tail.tail
theorem plain_digit {c nl : UInt8} {s : List UInt8} (hl : s.length < 1000000) (hc : digB c = true) (hn : numNo (c :: s)) : (lnOf (c :: s) nl).plain := by
  have hcd := hc
  simp only [digB, Bool.and_eq_true, decide_eq_true_eq] at hcd
  have ne : ∀ d : UInt8, (d.toNat < 48 ∨ 57 < d.toNat) → c ≠ d := by rintro d hd rfl; omega
  have hp : plainStart0 c = true := by
    simp only [plainStart0, isST, Bool.not_eq_true', Bool.or_eq_false_iff, beq_eq_false_iff_ne, ne_eq]
    refine ⟨⟨⟨⟨⟨⟨⟨⟨⟨?_, ?_⟩, ?_⟩, ?_⟩, ?_⟩, ?_⟩, ?_⟩, ?_⟩, ?_⟩, ?_⟩ <;> exact ne _ (by decide)
  have hst := plainStart0_st hp
  exact plain_firstX hp hl (LDecl.num hl hc hn) (HDecl.of_peek (lnOf_ok (by simp; omega)) (by rw [lead_first hst]; exact ne 60 (by decide)))
end Go.Proofs.YtmicoampfglaiaaGreatDoor


/- A document of one line that is a paragraph: parse and print. -/
set_option linter.unusedVariables false
namespace Go.Proofs.YtmicoampfglaiaaGreatDoor
open Go.Proofs Go.IntWalk Go.RowKit
variable {σ : Out} {w : World} {L L' : List Chunk} {R : Ending → World → Prop}
def PS.coreS (p : PS) : PS := ({ p with s := [] } : PS).core
/-- The inlines of the text s print themselves by f. -/
def InlineOK (op : Opt) (s : List UInt8) (f : List UInt8 → List UInt8) : Prop :=
  ∀ (σ : Out) (R : Ending → World → Prop) (b pb : Nat) (p : PS) (L : List Chunk) (w : World), Sat σ w (p.at b :: L) → p.pz = some ⟨pb, 0, none⟩ → op.at pb ∈ L → p.links = none →
    (∀ w (p' : PS) q n c vs RM KM KM', p'.coreS = p.coreS → Sl 1 ty_Inline q n c vs RM → n < 1073741824 → PrintsL "PrintHTML" vs KM KM' f → Sat σ w (p'.at b :: (RM ++ (KM ++ L))) → R (.returned (.slice q n c)) w) →
    callE P i_parseState_inline #[.pointer (some ⟨b, 0, none⟩), .string (bs s)] R w
def PS0 (pz : Option Addr) : PS := ⟨pz, none, none, 0, none, 0, 0, 0, false, [], 0, none, 0, 0, none, 0, 0, none, 0, 0, List.replicate 80 (.int .i64 0) ++ [.bool false]⟩
end Go.Proofs.YtmicoampfglaiaaGreatDoor


/- impl.HTML, and small functions of the laws. -/
set_option linter.unusedVariables false
namespace Go.Proofs.YtmicoampfglaiaaGreatDoor
open Go.Proofs Go.IntWalk Go.RowKit
variable {σ : Out} {w : World} {L L' : List Chunk} {R : Ending → World → Prop}
/-- What the thin package is handed. -/
def optV (o : Opt) : Value := .agg #[.bool o.strike, .bool o.task, .bool o.auto, .bool o.http, .bool o.table, .bool o.dot, .bool o.dash, .bool o.quote, .bool o.ids, .bool o.emoji]
theorem parser_ok {o : Opt} (h : Sat σ w L) (hR : ∀ w pb, Sat σ w (o.at pb :: L) → R (.returned (.pointer (some ⟨pb, 0, none⟩))) w) : callE P i_impl_parser #[optV o] R w := by
  refine g_impl_parser.sound ?_
  refine Sat.bx h fun b w h => ?_
  have ld : ∀ (k : Nat) (v : Bool), ([Value.bool o.strike, .bool o.task, .bool o.auto, .bool o.http, .bool o.table, .bool o.dot, .bool o.dash, .bool o.quote, .bool o.ids, .bool o.emoji])[k]? = some (.bool v) → w.cell? ⟨b, k, none⟩ = some (.bool v) := fun k v hv => Sat.ld h (.head _) hv
  refine ⟨_, ld 8 _ rfl, _, ld 0 _ rfl, _, ld 1 _ rfl, _, ld 2 _ rfl, _, ld 3 _ rfl, _, ld 4 _ rfl, _, ld 9 _ rfl, _, ld 5 _ rfl, _, ld 6 _ rfl, _, ld 7 _ rfl, ?_⟩
  refine Sat.bx h fun pb w h => hR w pb ?_
  have h : Sat σ w (o.at pb :: (b, cel [Value.bool o.strike, .bool o.task, .bool o.auto, .bool o.http, .bool o.table, .bool o.dot, .bool o.dash, .bool o.quote, .bool o.ids, .bool o.emoji] ty_impl_Options) :: L) := h
  exact (h.less [(b, cel [Value.bool o.strike, .bool o.task, .bool o.auto, .bool o.http, .bool o.table, .bool o.dot, .bool o.dash, .bool o.quote, .bool o.ids, .bool o.emoji] ty_impl_Options)] (by intro _; simp only [List.append_eq, cnt_append, cnt_cons, cnt_nil] <;> omega))
/-- A text is parsed to a document that prints itself so. -/
def ParsesTo (o : Opt) (raw out : List UInt8) : Prop :=
  ∀ (σ : Out) (R : Ending → World → Prop) (L : List Chunk) (w : World) (pb : Nat), Sat σ w L → o.at pb ∈ L →
    (∀ w db k DM DM' f, Prints "PrintHTML" (.iface ty_P_Document (.pointer (some ⟨db, 0, none⟩))) DM DM' f → f [] = out → Sat σ w (DM ++ L) → R (.returned (.tuple #[.pointer (some ⟨db, 0, none⟩), .bool k])) w) →
    callE P i_Parser_parse #[.pointer (some ⟨pb, 0, none⟩), .string (bs raw)] R w
theorem html_ok {o : Opt} {raw out : List UInt8} (hP : ParsesTo o raw out) (hout : out.length ≤ 549755813888) (h : Sat σ w L) (hR : ∀ w, Sat σ w L → R (.returned (.string (bs out))) w) : callE P i_impl_HTML #[optV o, .string (bs raw)] R w := by
  refine g_impl_HTML.sound ?_
  refine Sat.bx h fun b w h => ?_
  have ld : ∀ (k : Nat) (v : Bool), ([Value.bool o.strike, .bool o.task, .bool o.auto, .bool o.http, .bool o.table, .bool o.dot, .bool o.dash, .bool o.quote, .bool o.ids, .bool o.emoji])[k]? = some (.bool v) → w.cell? ⟨b, k, none⟩ = some (.bool v) := fun k v hv => Sat.ld h (.head _) hv
  refine ⟨_, ld 0 _ rfl, _, ld 1 _ rfl, _, ld 2 _ rfl, _, ld 3 _ rfl, _, ld 4 _ rfl, _, ld 5 _ rfl, _, ld 6 _ rfl, _, ld 7 _ rfl, _, ld 8 _ rfl, _, ld 9 _ rfl, ?_⟩
  refine parser_ok h fun w pb h => ⟨_, rfl, ?_⟩
  refine g_Parser_Parse.sound ?_
  refine hP σ _ _ w pb h (.head _) fun w db k DM DM' f hf hfo h => ⟨_, _, rfl, _, rfl, ?_⟩
  subst hfo
  refine toHTML_ok hf h hout fun w h => ⟨_, rfl, hR w ?_⟩
  exact h.less (DM' ++ (o.at pb :: [(b, cel [Value.bool o.strike, .bool o.task, .bool o.auto, .bool o.http, .bool o.table, .bool o.dot, .bool o.dash, .bool o.quote, .bool o.ids, .bool o.emoji] ty_impl_Options)])) (by intro _; simp only [List.append_eq, cnt_append, cnt_cons, cnt_nil] <;> omega)
/-! ### The laws' own functions -/
theorem bs_of (b : ByteArray) : b = bs b.data.toList := by
  cases b; rfl
end Go.Proofs.YtmicoampfglaiaaGreatDoor


set_option linter.unusedVariables false
set_option maxRecDepth 20000
namespace Go.Proofs.YtmicoampfglaiaaGreatDoor
open Go.Proofs
/- 99 pub-paratext/pub/rscmarkdown.isPunct -/
namespace g_isPunct
noncomputable def body : Code := bodyOf Tryz.f99
end g_isPunct
def g_isPunct (R : EP) (x0 : Int) (w : World) : Prop :=
 R (.returned (.bool (((((decide (33 ≤ x0)) && (decide (x0 ≤ 47))) || ((decide (58 ≤ x0)) && (decide (x0 ≤ 64)))) || ((decide (91 ≤ x0)) && (decide (x0 ≤ 96)))) || ((decide (123 ≤ x0)) && (decide (x0 ≤ 126)))))) w

noncomputable def g_isPunct.ac (R : EP) : AC :=
  (.leaf (sel [] g_isPunct.body))
theorem g_isPunct.good (R : EP) : Good P 33 (g_isPunct.ac R) (QF P [.tmp 2] R) :=
  trivial
theorem g_isPunct.eq (R : EP) (x0 : Int) (w : World) : g_isPunct R x0 w = vcA P 33 (g_isPunct.ac R) (QF P [.tmp 2] R) (fr0 [.int .u8 x0]) w := by kernel_rfl
theorem g_isPunct.sound {R : EP} {x0 : Int} {w : World} (h : g_isPunct R x0 w) : callE P i_isPunct #[.int .u8 x0] R w :=
  callE_fin (c := g_isPunct.body) Tryz.func99 Tryz.call99 (by kernel_rfl) (by kernel_rfl) (by kernel_rfl) (by kernel_rfl) (by kernel_rfl) (g_isPunct.good R) (g_isPunct.eq R x0 w) h
/- 74 pub-paratext/pub/rscmarkdown.parseBreak -/
namespace g_parseBreak
noncomputable def body : Code := bodyOf Tryz.f74
def k3 (R : EP) (x10 : Int) (x11 : Int) (x66 : Bool) (w : World) : Prop :=
 br x66
 (box w #[] ty_HardBreak fun b1 w2 =>
 R (.returned (.tuple #[.iface ty_P_HardBreak (.pointer (some ⟨b1, 0, none⟩)), .int .i64 x10, .int .i64 x11, .bool true])) w2)
 (box w #[] ty_SoftBreak fun b3 w4 =>
 R (.returned (.tuple #[.iface ty_P_SoftBreak (.pointer (some ⟨b3, 0, none⟩)), .int .i64 x10, .int .i64 x11, .bool true])) w4)

def k2 (R : EP) (x1 : BA) (x2 : Int) (x10 : Int) (x11 : Int) (w : World) : Prop :=
 ((decide (x2 ≥ 2)) = true → 0 ≤ (IntKind.i64.wrap (x2 - 1)) ∧ (IntKind.i64.wrap (x2 - 1)) < (x1.size : Int)) ∧
 (((decide (x2 ≥ 2)) && ((bt x1 (IntKind.i64.wrap (x2 - 1))) == 32)) = true → 0 ≤ (IntKind.i64.wrap (x2 - 2)) ∧ (IntKind.i64.wrap (x2 - 2)) < (x1.size : Int)) ∧
 k3 R x10 x11 (((decide (x2 ≥ 2)) && ((bt x1 (IntKind.i64.wrap (x2 - 1))) == 32)) && ((bt x1 (IntKind.i64.wrap (x2 - 2))) == 32)) w

def bl2 (R : EP) (Xa : BA → Int → Int → Int → WP) (x1 : BA) (x2 : Int) (x10 : Int) (x11 : Int) (w : World) : Prop :=
 ((decide (x11 < (x1.size : Int))) = true → 0 ≤ x11 ∧ x11 < (x1.size : Int)) ∧
 (((decide (x11 < (x1.size : Int))) && (!((bt x1 x11) == 32))) = true → 0 ≤ x11 ∧ x11 < (x1.size : Int)) ∧
 br ((decide (x11 < (x1.size : Int))) && (((bt x1 x11) == 32) || ((bt x1 x11) == 9)))
 (Xa x1 x2 x10 (IntKind.i64.wrap (x11 + 1)) w)
 (k2 R x1 x2 x10 x11 w)
def l2 (R : EP) (x1 : BA) (x2 : Int) (x10 : Int) (x11 : Int) (w : World) : Prop :=
  ∀ X : BA → Int → Int → Int → WP, (∀ x1 x2 x10 x11 w, bl2 R X x1 x2 x10 x11 w → X x1 x2 x10 x11 w) → X x1 x2 x10 x11 w

noncomputable def al2 (R : EP) (Xa : BA → Int → Int → Int → WP) : AC :=
  (.leaf (sel [1, 1, 1, 1, 0, 0, 0] body))
def k1 (R : EP) (x1 : BA) (x2 : Int) (x10 : Int) (w : World) : Prop :=
 l2 R x1 x2 x10 (IntKind.i64.wrap (x2 + 1)) w

def bl1 (R : EP) (Xb : BA → Int → Int → WP) (x1 : BA) (x2 : Int) (x10 : Int) (w : World) : Prop :=
 ((decide (x10 > 0)) = true → 0 ≤ (IntKind.i64.wrap (x10 - 1)) ∧ (IntKind.i64.wrap (x10 - 1)) < (x1.size : Int)) ∧
 (((decide (x10 > 0)) && (!((bt x1 (IntKind.i64.wrap (x10 - 1))) == 32))) = true → 0 ≤ (IntKind.i64.wrap (x10 - 1)) ∧ (IntKind.i64.wrap (x10 - 1)) < (x1.size : Int)) ∧
 br ((decide (x10 > 0)) && (((bt x1 (IntKind.i64.wrap (x10 - 1))) == 32) || ((bt x1 (IntKind.i64.wrap (x10 - 1))) == 9)))
 (Xb x1 x2 (IntKind.i64.wrap (x10 - 1)) w)
 (k1 R x1 x2 x10 w)
def l1 (R : EP) (x1 : BA) (x2 : Int) (x10 : Int) (w : World) : Prop :=
  ∀ X : BA → Int → Int → WP, (∀ x1 x2 x10 w, bl1 R X x1 x2 x10 w → X x1 x2 x10 w) → X x1 x2 x10 w

noncomputable def al1 (R : EP) (Xb : BA → Int → Int → WP) : AC :=
  (.leaf (sel [1, 1, 0, 0, 0] body))
end g_parseBreak
def g_parseBreak (R : EP) (x0 : OA) (x1 : BA) (x2 : Int) (w : World) : Prop :=
 g_parseBreak.l1 R x1 x2 x2 w

noncomputable def g_parseBreak.ac (R : EP) : AC :=
  (.seq (.leaf (sel [0] g_parseBreak.body)) (.seq (.leaf (sel [1, 0] g_parseBreak.body)) (.seq (.block 0 (.loop (leaf [(1, .s .str), (2, .s (.int .i64)), (10, .s (.int .i64))] (g_parseBreak.l1 R)) (sel [1, 1, 0, 0, 0] g_parseBreak.body))) (.mark (leaf [(1, .s .str), (2, .s (.int .i64)), (10, .s (.int .i64))] (g_parseBreak.k1 R)) (.seq (.leaf (sel [1, 1, 1, 0] g_parseBreak.body)) (.seq (.block 2 (.loop (leaf [(1, .s .str), (2, .s (.int .i64)), (10, .s (.int .i64)), (11, .s (.int .i64))] (g_parseBreak.l2 R)) (sel [1, 1, 1, 1, 0, 0, 0] g_parseBreak.body))) (.mark (leaf [(1, .s .str), (2, .s (.int .i64)), (10, .s (.int .i64)), (11, .s (.int .i64))] (g_parseBreak.k2 R)) (.seq (.seq (.leaf (sel [1, 1, 1, 1, 1, 0, 0] g_parseBreak.body)) (.mark (leaf [(10, .s (.int .i64)), (11, .s (.int .i64)), (66, .s .bool)] (g_parseBreak.k3 R)) (.leaf (sel [1, 1, 1, 1, 1, 0, 1] g_parseBreak.body)))) (.leaf (sel [1, 1, 1, 1, 1, 1] g_parseBreak.body))))))))))
theorem g_parseBreak.good (R : EP) : Good P 77 (g_parseBreak.ac R) (QF P [.tmp 6, .tmp 7, .tmp 8, .tmp 9] R) :=
  ⟨trivial, ⟨trivial, ⟨(loopG (g_parseBreak.al1 R) (g_parseBreak.bl1 R) (fun _ => by kernel_rfl) (fun Xb => trivial) (fun Xb => by intro x1 x2 x10 ρ w; kernel_rfl) (fun X h _ _ _ _ g => g X h)), ⟨⟨trivial, ⟨(loopG (g_parseBreak.al2 R) (g_parseBreak.bl2 R) (fun _ => by kernel_rfl) (fun Xa => trivial) (fun Xa => by intro x1 x2 x10 x11 ρ w; kernel_rfl) (fun X h _ _ _ _ _ g => g X h)), ⟨⟨⟨trivial, ⟨trivial, cutE (by intro x10 x11 x66 ρ w; kernel_rfl)⟩⟩, trivial⟩, cutE (by intro x1 x2 x10 x11 ρ w; kernel_rfl)⟩⟩⟩, cutE (by intro x1 x2 x10 ρ w; kernel_rfl)⟩⟩⟩⟩
theorem g_parseBreak.eq (R : EP) (x0 : OA) (x1 : BA) (x2 : Int) (w : World) : g_parseBreak R x0 x1 x2 w = vcA P 77 (g_parseBreak.ac R) (QF P [.tmp 6, .tmp 7, .tmp 8, .tmp 9] R) (fr0 [.pointer x0, .string x1, .int .i64 x2]) w := by kernel_rfl
theorem g_parseBreak.sound {R : EP} {x0 : OA} {x1 : ByteArray} {x2 : Int} {w : World} (h : g_parseBreak R x0 x1 x2 w) : callE P i_parseBreak #[.pointer x0, .string x1, .int .i64 x2] R w :=
  callE_fin (c := g_parseBreak.body) Tryz.func74 Tryz.call74 (by kernel_rfl) (by kernel_rfl) (by kernel_rfl) (by kernel_rfl) (by kernel_rfl) (g_parseBreak.good R) (g_parseBreak.eq R x0 x1 x2 w) h
/- 65 pub-paratext/pub/rscmarkdown.parseEscape -/
namespace g_parseEscape
noncomputable def body : Code := bodyOf Tryz.f65
def k2 (R : EP) (w : World) : Prop :=
 R (.returned (.tuple #[.nilIface, .int .i64 0, .int .i64 0, .bool false])) w

def k4 (R : EP) (x2 : Int) (x11 : Int) (w : World) : Prop :=
 box w #[] ty_HardBreak fun b7 w8 =>
 R (.returned (.tuple #[.iface ty_P_HardBreak (.pointer (some ⟨b7, 0, none⟩)), .int .i64 x2, .int .i64 x11, .bool true])) w8

def bl1 (R : EP) (Xa : BA → Int → Int → WP) (x1 : BA) (x2 : Int) (x11 : Int) (w : World) : Prop :=
 ((decide (x11 < (x1.size : Int))) = true → 0 ≤ x11 ∧ x11 < (x1.size : Int)) ∧
 (((decide (x11 < (x1.size : Int))) && (!((bt x1 x11) == 32))) = true → 0 ≤ x11 ∧ x11 < (x1.size : Int)) ∧
 br ((decide (x11 < (x1.size : Int))) && (((bt x1 x11) == 32) || ((bt x1 x11) == 9)))
 (Xa x1 x2 (IntKind.i64.wrap (x11 + 1)) w)
 (k4 R x2 x11 w)
def l1 (R : EP) (x1 : BA) (x2 : Int) (x11 : Int) (w : World) : Prop :=
  ∀ X : BA → Int → Int → WP, (∀ x1 x2 x11 w, bl1 R X x1 x2 x11 w → X x1 x2 x11 w) → X x1 x2 x11 w

noncomputable def al1 (R : EP) (Xa : BA → Int → Int → WP) : AC :=
  (.leaf (sel [1, 0, 1, 0, 1, 1, 1, 0, 1, 1, 0, 0, 0] body))
def k3 (R : EP) (x1 : BA) (x2 : Int) (w : World) : Prop :=
 l1 R x1 x2 (IntKind.i64.wrap (x2 + 2)) w

def k1 (R : EP) (x0 : OA) (x1 : BA) (x2 : Int) (x46 : Bool) (w : World) : Prop :=
 br x46
 (nilP x0 fun a5 =>
 stV w ((a5.add 6).add 0) (.bool true) fun w6 =>
 k3 R x1 x2 w6)
 (k3 R x1 x2 w)

end g_parseEscape
def g_parseEscape (R : EP) (x0 : OA) (x1 : BA) (x2 : Int) (w : World) : Prop :=
 br (decide ((IntKind.i64.wrap (x2 + 1)) < (x1.size : Int)))
 (0 ≤ (IntKind.i64.wrap (x2 + 1)) ∧ (IntKind.i64.wrap (x2 + 1)) < (x1.size : Int) ∧
 callE P i_isPunct #[.int .u8 (bt x1 (IntKind.i64.wrap (x2 + 1)))] (fun e w2 => ∃ (r1 : Bool), e = .returned (.bool r1) ∧
 br r1
 (0 ≤ (IntKind.i64.wrap (x2 + 1)) ∧ (IntKind.i64.wrap (x2 + 1)) ≤ (IntKind.i64.wrap (x2 + 2)) ∧ (IntKind.i64.wrap (x2 + 2)) ≤ (x1.size : Int) ∧
 box w2 #[.string (x1.extract (Int.toNat (IntKind.i64.wrap (x2 + 1))) (Int.toNat (IntKind.i64.wrap (x2 + 2))))] ty_Escaped fun b3 w4 =>
 R (.returned (.tuple #[.iface ty_P_Escaped (.pointer (some ⟨b3, 0, none⟩)), .int .i64 x2, .int .i64 (IntKind.i64.wrap (x2 + 2)), .bool true])) w4)
 (br ((bt x1 (IntKind.i64.wrap (x2 + 1))) == 10)
 (((decide (x2 > 0)) = true → 0 ≤ (IntKind.i64.wrap (x2 - 1)) ∧ (IntKind.i64.wrap (x2 - 1)) < (x1.size : Int)) ∧
 g_parseEscape.k1 R x0 x1 x2 ((decide (x2 > 0)) && ((bt x1 (IntKind.i64.wrap (x2 - 1))) == 92)) w2)
 (g_parseEscape.k2 R w2))) w)
 (g_parseEscape.k2 R w)

noncomputable def g_parseEscape.ac (R : EP) : AC :=
  (.seq (.leaf (sel [0] g_parseEscape.body)) (.seq (.seq (.leaf (sel [1, 0, 0] g_parseEscape.body)) (.cond 16 (.seq (.leaf (sel [1, 0, 1, 0, 0] g_parseEscape.body)) (.seq (.leaf (sel [1, 0, 1, 0, 1, 0] g_parseEscape.body)) (.seq (.leaf (sel [1, 0, 1, 0, 1, 1, 0] g_parseEscape.body)) (.cond 37 (.seq (.seq (.leaf (sel [1, 0, 1, 0, 1, 1, 1, 0, 0, 0] g_parseEscape.body)) (.mark (leaf [(0, .s .ptr), (1, .s .str), (2, .s (.int .i64)), (46, .s .bool)] (g_parseEscape.k1 R)) (.leaf (sel [1, 0, 1, 0, 1, 1, 1, 0, 0, 1] g_parseEscape.body)))) (.mark (leaf [(1, .s .str), (2, .s (.int .i64))] (g_parseEscape.k3 R)) (.seq (.leaf (sel [1, 0, 1, 0, 1, 1, 1, 0, 1, 0] g_parseEscape.body)) (.seq (.block 0 (.loop (leaf [(1, .s .str), (2, .s (.int .i64)), (11, .s (.int .i64))] (g_parseEscape.l1 R)) (sel [1, 0, 1, 0, 1, 1, 1, 0, 1, 1, 0, 0, 0] g_parseEscape.body))) (.mark (leaf [(2, .s (.int .i64)), (11, .s (.int .i64))] (g_parseEscape.k4 R)) (.leaf (sel [1, 0, 1, 0, 1, 1, 1, 0, 1, 1, 1] g_parseEscape.body))))))) (.leaf (sel [1, 0, 1, 0, 1, 1, 1, 1] g_parseEscape.body)))))) (.leaf (sel [1, 0, 1, 1] g_parseEscape.body)))) (.mark (leaf [] (g_parseEscape.k2 R)) (.leaf (sel [1, 1] g_parseEscape.body)))))
theorem g_parseEscape.good (R : EP) : Good P 75 (g_parseEscape.ac R) (QF P [.tmp 6, .tmp 7, .tmp 8, .tmp 9] R) :=
  ⟨trivial, ⟨⟨trivial, ⟨⟨trivial, ⟨trivial, ⟨trivial, ⟨⟨⟨trivial, ⟨trivial, cutE (by intro x0 x1 x2 x46 ρ w; kernel_rfl)⟩⟩, ⟨⟨trivial, ⟨(loopG (g_parseEscape.al1 R) (g_parseEscape.bl1 R) (fun _ => by kernel_rfl) (fun Xa => trivial) (fun Xa => by intro x1 x2 x11 ρ w; kernel_rfl) (fun X h _ _ _ _ g => g X h)), ⟨trivial, cutE (by intro x2 x11 ρ w; kernel_rfl)⟩⟩⟩, cutE (by intro x1 x2 ρ w; kernel_rfl)⟩⟩, trivial⟩⟩⟩⟩, trivial⟩⟩, ⟨trivial, cutE (by intro ρ w; kernel_rfl)⟩⟩⟩
theorem g_parseEscape.eq (R : EP) (x0 : OA) (x1 : BA) (x2 : Int) (w : World) : g_parseEscape R x0 x1 x2 w = vcA P 75 (g_parseEscape.ac R) (QF P [.tmp 6, .tmp 7, .tmp 8, .tmp 9] R) (fr0 [.pointer x0, .string x1, .int .i64 x2]) w := by kernel_rfl
theorem g_parseEscape.sound {R : EP} {x0 : OA} {x1 : ByteArray} {x2 : Int} {w : World} (h : g_parseEscape R x0 x1 x2 w) : callE P i_parseEscape #[.pointer x0, .string x1, .int .i64 x2] R w :=
  callE_fin (c := g_parseEscape.body) Tryz.func65 Tryz.call65 (by kernel_rfl) (by kernel_rfl) (by kernel_rfl) (by kernel_rfl) (by kernel_rfl) (g_parseEscape.good R) (g_parseEscape.eq R x0 x1 x2 w) h
end Go.Proofs.YtmicoampfglaiaaGreatDoor

/- The loop that looks for inlines, round by round (no brackets, no code). -/
set_option linter.unusedVariables false
namespace Go.Proofs.YtmicoampfglaiaaGreatDoor
open Go.Proofs Go.IntWalk Go.RowKit
variable {σ : Out} {w : World} {L L' : List Chunk} {R : Ending → World → Prop}
/-- The loop is at byte i; what lies ahead of e is among the inlines ts. -/
def AtI (X : XI) (σ : Out) (b : Nat) (p0 : PS) (raw : List UInt8) (L : List Chunk) (i e : Nat) (ts : List Inl) : Prop :=
  ∀ w (p : PS) oq on oc, p.coreS = p0.coreS → p.s = raw → p.em = (e : Int) → IIn σ b p ts [] oq on oc L w → X (some ⟨b, 0, none⟩) (bs raw) oq on oc 0 false (i : Int) w
def LoopX (R : Ending → World → Prop) (X : XI) (b : Nat) (raw : List UInt8) : Prop :=
  ∀ oq on oc (i : Int) w, g_parseState_inline.bl1 R X (some ⟨b, 0, none⟩) (bs raw) oq on oc 0 false i w → X (some ⟨b, 0, none⟩) (bs raw) oq on oc 0 false i w
theorem PS.pz_of {p p0 : PS} (h : p.coreS = p0.coreS) : p.pz = p0.pz := by have := congrArg PS.pz h; exact this
theorem PS.coreS_of {p' p p0 : PS} (h1 : p'.core = p.core) (h2 : p.coreS = p0.coreS) : p'.coreS = p0.coreS := by
  rw [← h2]
  have := congrArg (fun q : PS => ({ q with s := [] } : PS)) h1
  exact this
theorem AtI.plain {X : XI} {b pb i e : Nat} {p0 : PS} {raw : List UInt8} {ts : List Inl} {o : Opt} (hX : LoopX R X b raw) (hi : i < raw.length) (hs : raw.length < 1000000000) (hpz : p0.pz = some ⟨pb, 0, none⟩) (ho : o.at pb ∈ L) (hp : parserOf o raw[i] = .nil) (h93 : raw[i] ≠ 93)
    (h : AtI X σ b p0 raw L (i + 1) e ts) : AtI X σ b p0 raw L i e ts := by
  intro w p oq on oc hc hraw he hI
  refine hX _ _ _ _ _ ?_
  obtain ⟨vs, RM, EM, OM, hS, hIn, hO, hlen, hsat⟩ := hI
  refine inl_dispatch (p := p) hi (by omega) (by rw [PS.pz_of hc, hpz]) (.head _) (.tail _ (List.mem_append_right _ (List.mem_append_right _ (List.mem_append_right _ ho)))) hsat ?_
  rw [hp]
  exact inl_none (inl_k5 hi (by omega) (.inl h93) (h w p oq on oc hc hraw he ⟨vs, RM, EM, OM, hS, hIn, hO, hlen, hsat⟩))
theorem AtI.leaf {X : XI} {b pb i e st en : Nat} {p0 : PS} {raw : List UInt8} {ts : List Inl} {o : Opt} {f : FuncId} {t : Inl} {L0 : List Chunk} {Q : PS → PS → Prop} (hX : LoopX R X b raw) (hi : i < raw.length) (hs : raw.length < 1000000000) (hpz : p0.pz = some ⟨pb, 0, none⟩) (ho : o.at pb ∈ L)
    (hp : parserOf o raw[i] = .fn f) (hL0 : ∀ c ∈ L0, c ∈ L) (hf : ∀ p : PS, p.coreS = p0.coreS → p.s = raw → LeafOK b p raw i (.func (.func f) #[] #[]) L0 (some (t, st, en)) (Q p)) (ht : t.isOpen = false) (hst : st ≤ raw.length) (hn : ts.length < 1000000000)
    (h : AtI X σ b p0 raw L en en (emitM raw e st ts ++ [t])) : AtI X σ b p0 raw L i e ts := by
  intro w p oq on oc hc hraw he hI
  refine hX _ _ _ _ _ ?_
  obtain ⟨vs, RM, EM, OM, hS, hIn, hO, hlen, hsat⟩ := hI
  refine inl_dispatch (p := p) hi (by omega) (by rw [PS.pz_of hc, hpz]) (.head _) (.tail _ (List.mem_append_right _ (List.mem_append_right _ (List.mem_append_right _ ho)))) hsat ?_
  rw [hp]
  dsimp only
  have hleaf := hf p hc hraw
  subst hraw
  refine inl_leaf ⟨vs, RM, EM, OM, hS, hIn, hO, hlen, hsat⟩ hL0 hleaf he hst hs hn (by simp) fun w p2 oq on oc hp2 hem2 _ h2 => ?_
  rw [ht] at h2
  refine h w p2 oq on oc (PS.coreS_of hp2 hc) ?_ hem2 h2
  have := congrArg PS.s hp2; exact this
theorem AtI.fin {X : XI} {b pb e : Nat} {p0 : PS} {raw : List UInt8} {ts ts' : List Inl} {o : Opt} (hX : LoopX R X b raw) (hs : raw.length < 1000000000) (hpz : p0.pz = some ⟨pb, 0, none⟩) (ho : o.at pb ∈ L) (hoff : o.auto = false) (hn : ts.length < 1000000000)
    (hE : EmphOK (emitM raw e raw.length ts) ts') (hpos : ∀ t ∈ ts', ∀ s, t.plain? = some s → s ≠ []) (hb : plen ts' < 1073741824)
    (hR : ∀ w (p' : PS) q n c vs RM EM, p'.coreS = p0.coreS → Sl 1 ty_Inline q n c vs RM → n < 1073741824 → InlsAt (mergeM ts') vs EM → Sat σ w (p'.at b :: (RM ++ (EM ++ L))) → R (.returned (.slice q n c)) w) :
    AtI X σ b p0 raw L raw.length e ts := by
  intro w p oq on oc hc hraw he hI
  refine hX _ _ _ _ _ ?_
  subst hraw
  exact inl_end hI he hs hn (by rw [PS.pz_of hc, hpz]) ho hoff hE hpos hb fun w p2 q n c vs RM EM hp2 hS hn hI h => hR w p2 q n c vs RM EM (PS.coreS_of hp2 hc) hS hn hI h
end Go.Proofs.YtmicoampfglaiaaGreatDoor


/- Small lemmas on lists, and the options that are all off. -/
set_option linter.unusedVariables false
namespace Go.Proofs.YtmicoampfglaiaaGreatDoor
open Go.Proofs
theorem sub_length {s : List UInt8} {i j : Nat} (h : j ≤ s.length) : (sub s i j).length = j - i := by unfold sub; rw [List.length_drop, List.length_take]; omega
theorem getD_app {a b : List UInt8} {k : Nat} (h : a.length ≤ k) : (a ++ b).getD k 0 = b.getD (k - a.length) 0 := by
  rw [List.getD_eq_getElem?_getD, List.getElem?_append_right h, ← List.getD_eq_getElem?_getD]
theorem getD_app' {a b : List UInt8} {k : Nat} {d : UInt8} (h : k < a.length) : (a ++ b).getD k d = a.getD k d := by
  rw [List.getD_eq_getElem?_getD, List.getElem?_append_left h, ← List.getD_eq_getElem?_getD]
theorem sub_mid (A B C : List UInt8) : sub (A ++ (B ++ C)) A.length (A.length + B.length) = B := by
  unfold sub
  rw [← List.append_assoc, show A.length + B.length = (A ++ B).length by simp, List.take_left, List.drop_left]
theorem getD_mid (A C : List UInt8) (b d : UInt8) : (A ++ (b :: C)).getD A.length d = b := by
  rw [List.getD_eq_getElem?_getD, List.getElem?_append_right (Nat.le_refl _), Nat.sub_self]; rfl
theorem getElem_getD {l : List UInt8} {i : Nat} (h : i < l.length) (d : UInt8) : l[i] = l.getD i d := by
  rw [List.getD_eq_getElem?_getD, List.getElem?_eq_getElem h]; rfl
def optOff : Opt := ⟨false, false, false, false, false, false, false, false, false, false⟩
end Go.Proofs.YtmicoampfglaiaaGreatDoor


/- Smart dots: the inlines of a line of letters, spaces and full stops. -/
set_option linter.unusedVariables false
namespace Go.Proofs.YtmicoampfglaiaaGreatDoor
open Go.Proofs Go.IntWalk Go.RowKit
variable {σ : Out} {w : World} {L L' : List Chunk} {R : Ending → World → Prop}
theorem sub_self (s : List UInt8) (i : Nat) : sub s i i = [] := List.drop_eq_nil_of_le (by rw [List.length_take]; omega)
end Go.Proofs.YtmicoampfglaiaaGreatDoor


set_option linter.unusedVariables false
set_option maxRecDepth 20000
namespace Go.Proofs.YtmicoampfglaiaaGreatDoor
open Go.Proofs
/- 309 (*pub-paratext/pub/rscmarkdown.Emph).PrintHTML -/
namespace g_Emph_PrintHTML
noncomputable def body : Code := bodyOf Tryz.f309
def bl1 (R : EP) (Xa : OA → OA → Nat → Nat → Int → Int → WP) (x1 : OA) (x11q : OA) (x11n : Nat) (x11c : Nat) (x12 : Int) (x13 : Int) (w : World) : Prop :=
 br (decide (x13 < x12))
 (0 ≤ x13 ∧ x13 < (x11n : Int) ∧
 nilP x11q fun a5 =>
 ∃ (v6 : Value), w.cell? (a5.add (Int.toNat x13 * 1)) = some v6 ∧
 enterE P (callMethod v6 "PrintHTML" #[.pointer x1]) (fun e w8 => e = .returned (.tuple #[]) ∧
 Xa x1 x11q x11n x11c x12 (IntKind.i64.wrap (x13 + 1)) w8) w)
 (callE P i_bytes_Buffer_WriteString #[.pointer x1, .string (ByteArray.mk #[60, 47, 101, 109, 62])] (fun e w10 => ∃ (r9_0 : Int), ∃ (r9_1 : Value), e = .returned (.tuple #[.int .i64 r9_0, r9_1]) ∧
 R (.returned (.tuple #[])) w10) w)
def l1 (R : EP) (x1 : OA) (x11q : OA) (x11n : Nat) (x11c : Nat) (x12 : Int) (x13 : Int) (w : World) : Prop :=
  ∀ X : OA → OA → Nat → Nat → Int → Int → WP, (∀ x1 x11q x11n x11c x12 x13 w, bl1 R X x1 x11q x11n x11c x12 x13 w → X x1 x11q x11n x11c x12 x13 w) → X x1 x11q x11n x11c x12 x13 w

noncomputable def al1 (R : EP) (Xa : OA → OA → Nat → Nat → Int → Int → WP) : AC :=
  (.leaf (sel [1, 0, 1, 0, 0] body))
end g_Emph_PrintHTML
def g_Emph_PrintHTML (R : EP) (x0 : OA) (x1 : OA) (w : World) : Prop :=
 callE P i_bytes_Buffer_WriteString #[.pointer x1, .string (ByteArray.mk #[60, 101, 109, 62])] (fun e w2 => ∃ (r1_0 : Int), ∃ (r1_1 : Value), e = .returned (.tuple #[.int .i64 r1_0, r1_1]) ∧
 nilP x0 fun a3 =>
 ∃ (v4q : OA), ∃ (v4n : Nat), ∃ (v4c : Nat), w2.cell? (a3.add 1) = some (.slice v4q v4n v4c) ∧
 g_Emph_PrintHTML.l1 R x1 v4q v4n v4c (v4n : Int) 0 w2) w

noncomputable def g_Emph_PrintHTML.ac (R : EP) : AC :=
  (.seq (.leaf (sel [0] g_Emph_PrintHTML.body)) (.seq (.seq (.leaf (sel [1, 0, 0] g_Emph_PrintHTML.body)) (.block 0 (.loop (leaf [(1, .s .ptr), (11, .s .slice), (12, .s (.int .i64)), (13, .s (.int .i64))] (g_Emph_PrintHTML.l1 R)) (sel [1, 0, 1, 0, 0] g_Emph_PrintHTML.body)))) (.leaf (sel [1, 1] g_Emph_PrintHTML.body))))
theorem g_Emph_PrintHTML.good (R : EP) : Good P 23 (g_Emph_PrintHTML.ac R) (QF P [] R) :=
  ⟨trivial, ⟨⟨trivial, (loopG (g_Emph_PrintHTML.al1 R) (g_Emph_PrintHTML.bl1 R) (fun _ => by kernel_rfl) (fun Xa => trivial) (fun Xa => by intro x1 x11q x11n x11c x12 x13 ρ w; kernel_rfl) (fun X h _ _ _ _ _ _ _ g => g X h))⟩, trivial⟩⟩
theorem g_Emph_PrintHTML.eq (R : EP) (x0 : OA) (x1 : OA) (w : World) : g_Emph_PrintHTML R x0 x1 w = vcA P 23 (g_Emph_PrintHTML.ac R) (QF P [] R) (fr0 [.pointer x0, .pointer x1]) w := by kernel_rfl
theorem g_Emph_PrintHTML.sound {R : EP} {x0 : OA} {x1 : OA} {w : World} (h : g_Emph_PrintHTML R x0 x1 w) : callE P i_Emph_PrintHTML #[.pointer x0, .pointer x1] R w :=
  callE_fin (c := g_Emph_PrintHTML.body) Tryz.func309 Tryz.call309 (by kernel_rfl) (by kernel_rfl) (by kernel_rfl) (by kernel_rfl) (by kernel_rfl) (g_Emph_PrintHTML.good R) (g_Emph_PrintHTML.eq R x0 x1 w) h
/- 317 (*pub-paratext/pub/rscmarkdown.Strong).PrintHTML -/
namespace g_Strong_PrintHTML
noncomputable def body : Code := bodyOf Tryz.f317
def bl1 (R : EP) (Xa : OA → OA → Nat → Nat → Int → Int → WP) (x1 : OA) (x11q : OA) (x11n : Nat) (x11c : Nat) (x12 : Int) (x13 : Int) (w : World) : Prop :=
 br (decide (x13 < x12))
 (0 ≤ x13 ∧ x13 < (x11n : Int) ∧
 nilP x11q fun a5 =>
 ∃ (v6 : Value), w.cell? (a5.add (Int.toNat x13 * 1)) = some v6 ∧
 enterE P (callMethod v6 "PrintHTML" #[.pointer x1]) (fun e w8 => e = .returned (.tuple #[]) ∧
 Xa x1 x11q x11n x11c x12 (IntKind.i64.wrap (x13 + 1)) w8) w)
 (callE P i_bytes_Buffer_WriteString #[.pointer x1, .string (ByteArray.mk #[60, 47, 115, 116, 114, 111, 110, 103, 62])] (fun e w10 => ∃ (r9_0 : Int), ∃ (r9_1 : Value), e = .returned (.tuple #[.int .i64 r9_0, r9_1]) ∧
 R (.returned (.tuple #[])) w10) w)
def l1 (R : EP) (x1 : OA) (x11q : OA) (x11n : Nat) (x11c : Nat) (x12 : Int) (x13 : Int) (w : World) : Prop :=
  ∀ X : OA → OA → Nat → Nat → Int → Int → WP, (∀ x1 x11q x11n x11c x12 x13 w, bl1 R X x1 x11q x11n x11c x12 x13 w → X x1 x11q x11n x11c x12 x13 w) → X x1 x11q x11n x11c x12 x13 w

noncomputable def al1 (R : EP) (Xa : OA → OA → Nat → Nat → Int → Int → WP) : AC :=
  (.leaf (sel [1, 0, 1, 0, 0] body))
end g_Strong_PrintHTML
def g_Strong_PrintHTML (R : EP) (x0 : OA) (x1 : OA) (w : World) : Prop :=
 callE P i_bytes_Buffer_WriteString #[.pointer x1, .string (ByteArray.mk #[60, 115, 116, 114, 111, 110, 103, 62])] (fun e w2 => ∃ (r1_0 : Int), ∃ (r1_1 : Value), e = .returned (.tuple #[.int .i64 r1_0, r1_1]) ∧
 nilP x0 fun a3 =>
 ∃ (v4q : OA), ∃ (v4n : Nat), ∃ (v4c : Nat), w2.cell? (a3.add 1) = some (.slice v4q v4n v4c) ∧
 g_Strong_PrintHTML.l1 R x1 v4q v4n v4c (v4n : Int) 0 w2) w

noncomputable def g_Strong_PrintHTML.ac (R : EP) : AC :=
  (.seq (.leaf (sel [0] g_Strong_PrintHTML.body)) (.seq (.seq (.leaf (sel [1, 0, 0] g_Strong_PrintHTML.body)) (.block 0 (.loop (leaf [(1, .s .ptr), (11, .s .slice), (12, .s (.int .i64)), (13, .s (.int .i64))] (g_Strong_PrintHTML.l1 R)) (sel [1, 0, 1, 0, 0] g_Strong_PrintHTML.body)))) (.leaf (sel [1, 1] g_Strong_PrintHTML.body))))
theorem g_Strong_PrintHTML.good (R : EP) : Good P 23 (g_Strong_PrintHTML.ac R) (QF P [] R) :=
  ⟨trivial, ⟨⟨trivial, (loopG (g_Strong_PrintHTML.al1 R) (g_Strong_PrintHTML.bl1 R) (fun _ => by kernel_rfl) (fun Xa => trivial) (fun Xa => by intro x1 x11q x11n x11c x12 x13 ρ w; kernel_rfl) (fun X h _ _ _ _ _ _ _ g => g X h))⟩, trivial⟩⟩
theorem g_Strong_PrintHTML.eq (R : EP) (x0 : OA) (x1 : OA) (w : World) : g_Strong_PrintHTML R x0 x1 w = vcA P 23 (g_Strong_PrintHTML.ac R) (QF P [] R) (fr0 [.pointer x0, .pointer x1]) w := by kernel_rfl
theorem g_Strong_PrintHTML.sound {R : EP} {x0 : OA} {x1 : OA} {w : World} (h : g_Strong_PrintHTML R x0 x1 w) : callE P i_Strong_PrintHTML #[.pointer x0, .pointer x1] R w :=
  callE_fin (c := g_Strong_PrintHTML.body) Tryz.func317 Tryz.call317 (by kernel_rfl) (by kernel_rfl) (by kernel_rfl) (by kernel_rfl) (by kernel_rfl) (g_Strong_PrintHTML.good R) (g_Strong_PrintHTML.eq R x0 x1 w) h
/- 337 (*pub-paratext/pub/rscmarkdown.AutoLink).PrintHTML -/
namespace g_AutoLink_PrintHTML
noncomputable def body : Code := bodyOf Tryz.f337
end g_AutoLink_PrintHTML
def g_AutoLink_PrintHTML (R : EP) (x0 : OA) (x1 : OA) (w : World) : Prop :=
 tk w fun w1 =>
 nilP x0 fun a2 =>
 nilP x0 fun a3 =>
 ∃ (v4 : BA), w1.cell? (a2.add 1) = some (.string v4) ∧
 ∃ (v5 : BA), w1.cell? a3 = some (.string v5) ∧
 callE P i_htmlLinkEscaper #[] (fun e w7 => ∃ (r6q : OA), ∃ (r6n : Nat), ∃ (r6c : Nat), e = .returned (.slice r6q r6n r6c) ∧
 SameC w1 w7 (a3) 1 ∧
 SameC w1 w7 (a2.add 1) 1 ∧
 callE P i_zzPairs_Replace #[.slice r6q r6n r6c, .string v4] (fun e w9 => ∃ (r8 : BA), e = .returned (.string r8) ∧
 SameC w7 w9 (a3) 1 ∧
 (((ByteArray.mk #[60, 97, 32, 104, 114, 101, 102, 61, 34]).size + r8.size : Nat) : Int) ≤ IntKind.i64.max ∧
 ((((ByteArray.mk #[60, 97, 32, 104, 114, 101, 102, 61, 34]) ++ r8).size + (ByteArray.mk #[34, 62]).size : Nat) : Int) ≤ IntKind.i64.max ∧
 callE P i_htmlEscaper #[] (fun e w11 => ∃ (r10q : OA), ∃ (r10n : Nat), ∃ (r10c : Nat), e = .returned (.slice r10q r10n r10c) ∧
 SameC w9 w11 (a3) 1 ∧
 callE P i_zzPairs_Replace #[.slice r10q r10n r10c, .string v5] (fun e w13 => ∃ (r12 : BA), e = .returned (.string r12) ∧
 (((((ByteArray.mk #[60, 97, 32, 104, 114, 101, 102, 61, 34]) ++ r8) ++ (ByteArray.mk #[34, 62])).size + r12.size : Nat) : Int) ≤ IntKind.i64.max ∧
 ((((((ByteArray.mk #[60, 97, 32, 104, 114, 101, 102, 61, 34]) ++ r8) ++ (ByteArray.mk #[34, 62])) ++ r12).size + (ByteArray.mk #[60, 47, 97, 62]).size : Nat) : Int) ≤ IntKind.i64.max ∧
 callE P i_bytes_Buffer_WriteString #[.pointer x1, .string (((((ByteArray.mk #[60, 97, 32, 104, 114, 101, 102, 61, 34]) ++ r8) ++ (ByteArray.mk #[34, 62])) ++ r12) ++ (ByteArray.mk #[60, 47, 97, 62]))] (fun e w15 => ∃ (r14_0 : Int), ∃ (r14_1 : Value), e = .returned (.tuple #[.int .i64 r14_0, r14_1]) ∧
 R (.returned (.tuple #[])) w15) w13) w11) w9) w7) w1

noncomputable def g_AutoLink_PrintHTML.ac (R : EP) : AC :=
  (.draw (.pure 0 (.pure 2 (.pure 3 (.pure 4 (.pure 10 (.pure 11 (.pure 12 (.load 5 (.load 13 (.one 1 (.one 6 (.pure 7 (.pure 8 (.one 9 (.one 14 (.pure 15 (.pure 16 (.one 17 .done)))))))))))))))))) (sel [] g_AutoLink_PrintHTML.body))
theorem g_AutoLink_PrintHTML.good (R : EP) : Good P 22 (g_AutoLink_PrintHTML.ac R) (QF P [] R) :=
  ⟨by kernel_rfl, by kernel_rfl, fun _ _ _ h => h⟩
theorem g_AutoLink_PrintHTML.eq (R : EP) (x0 : OA) (x1 : OA) (w : World) : g_AutoLink_PrintHTML R x0 x1 w = vcA P 22 (g_AutoLink_PrintHTML.ac R) (QF P [] R) (fr0 [.pointer x0, .pointer x1]) w := by kernel_rfl
theorem g_AutoLink_PrintHTML.sound {R : EP} {x0 : OA} {x1 : OA} {w : World} (h : g_AutoLink_PrintHTML R x0 x1 w) : callE P i_AutoLink_PrintHTML #[.pointer x0, .pointer x1] R w :=
  callE_fin (c := g_AutoLink_PrintHTML.body) Tryz.func337 Tryz.call337 (by kernel_rfl) (by kernel_rfl) (by kernel_rfl) (by kernel_rfl) (by kernel_rfl) (g_AutoLink_PrintHTML.good R) (g_AutoLink_PrintHTML.eq R x0 x1 w) h
/- 293 (*pub-paratext/pub/rscmarkdown.HardBreak).PrintHTML -/
namespace g_HardBreak_PrintHTML
noncomputable def body : Code := bodyOf Tryz.f293
end g_HardBreak_PrintHTML
def g_HardBreak_PrintHTML (R : EP) (x0 : OA) (x1 : OA) (w : World) : Prop :=
 callE P i_bytes_Buffer_WriteString #[.pointer x1, .string (ByteArray.mk #[60, 98, 114, 32, 47, 62, 10])] (fun e w2 => ∃ (r1_0 : Int), ∃ (r1_1 : Value), e = .returned (.tuple #[.int .i64 r1_0, r1_1]) ∧
 R (.returned (.tuple #[])) w2) w

noncomputable def g_HardBreak_PrintHTML.ac (R : EP) : AC :=
  (.leaf (sel [] g_HardBreak_PrintHTML.body))
theorem g_HardBreak_PrintHTML.good (R : EP) : Good P 6 (g_HardBreak_PrintHTML.ac R) (QF P [] R) :=
  trivial
theorem g_HardBreak_PrintHTML.eq (R : EP) (x0 : OA) (x1 : OA) (w : World) : g_HardBreak_PrintHTML R x0 x1 w = vcA P 6 (g_HardBreak_PrintHTML.ac R) (QF P [] R) (fr0 [.pointer x0, .pointer x1]) w := by kernel_rfl
theorem g_HardBreak_PrintHTML.sound {R : EP} {x0 : OA} {x1 : OA} {w : World} (h : g_HardBreak_PrintHTML R x0 x1 w) : callE P i_HardBreak_PrintHTML #[.pointer x0, .pointer x1] R w :=
  callE_fin (c := g_HardBreak_PrintHTML.body) Tryz.func293 Tryz.call293 (by kernel_rfl) (by kernel_rfl) (by kernel_rfl) (by kernel_rfl) (by kernel_rfl) (g_HardBreak_PrintHTML.good R) (g_HardBreak_PrintHTML.eq R x0 x1 w) h
/- 260 (*pub-paratext/pub/rscmarkdown.Link).PrintHTML -/
namespace g_Link_PrintHTML
noncomputable def body : Code := bodyOf Tryz.f260
def bl1 (R : EP) (Xa : OA → OA → Nat → Nat → Int → Int → WP) (x1 : OA) (x36q : OA) (x36n : Nat) (x36c : Nat) (x37 : Int) (x38 : Int) (w : World) : Prop :=
 br (decide (x38 < x37))
 (0 ≤ x38 ∧ x38 < (x36n : Int) ∧
 nilP x36q fun a25 =>
 ∃ (v26 : Value), w.cell? (a25.add (Int.toNat x38 * 1)) = some v26 ∧
 enterE P (callMethod v26 "PrintHTML" #[.pointer x1]) (fun e w28 => e = .returned (.tuple #[]) ∧
 Xa x1 x36q x36n x36c x37 (IntKind.i64.wrap (x38 + 1)) w28) w)
 (callE P i_bytes_Buffer_WriteString #[.pointer x1, .string (ByteArray.mk #[60, 47, 97, 62])] (fun e w30 => ∃ (r29_0 : Int), ∃ (r29_1 : Value), e = .returned (.tuple #[.int .i64 r29_0, r29_1]) ∧
 R (.returned (.tuple #[])) w30) w)
def l1 (R : EP) (x1 : OA) (x36q : OA) (x36n : Nat) (x36c : Nat) (x37 : Int) (x38 : Int) (w : World) : Prop :=
  ∀ X : OA → OA → Nat → Nat → Int → Int → WP, (∀ x1 x36q x36n x36c x37 x38 w, bl1 R X x1 x36q x36n x36c x37 x38 w → X x1 x36q x36n x36c x37 x38 w) → X x1 x36q x36n x36c x37 x38 w

noncomputable def al1 (R : EP) (Xa : OA → OA → Nat → Nat → Int → Int → WP) : AC :=
  (.leaf (sel [1, 1, 1, 0, 1, 0, 0] body))
def k1 (R : EP) (x0 : OA) (x1 : OA) (w : World) : Prop :=
 callE P i_bytes_Buffer_WriteString #[.pointer x1, .string (ByteArray.mk #[62])] (fun e w22 => ∃ (r21_0 : Int), ∃ (r21_1 : Value), e = .returned (.tuple #[.int .i64 r21_0, r21_1]) ∧
 nilP x0 fun a23 =>
 ∃ (v24q : OA), ∃ (v24n : Nat), ∃ (v24c : Nat), w22.cell? a23 = some (.slice v24q v24n v24c) ∧
 l1 R x1 v24q v24n v24c (v24n : Int) 0 w22) w

end g_Link_PrintHTML
def g_Link_PrintHTML (R : EP) (x0 : OA) (x1 : OA) (w : World) : Prop :=
 tk w fun w1 =>
 nilP x0 fun a2 =>
 ∃ (v3 : BA), w1.cell? (a2.add 1) = some (.string v3) ∧
 callE P i_htmlLinkEscaper #[] (fun e w5 => ∃ (r4q : OA), ∃ (r4n : Nat), ∃ (r4c : Nat), e = .returned (.slice r4q r4n r4c) ∧
 SameC w1 w5 (a2.add 1) 1 ∧
 callE P i_zzPairs_Replace #[.slice r4q r4n r4c, .string v3] (fun e w7 => ∃ (r6 : BA), e = .returned (.string r6) ∧
 (((ByteArray.mk #[60, 97, 32, 104, 114, 101, 102, 61, 34]).size + r6.size : Nat) : Int) ≤ IntKind.i64.max ∧
 ((((ByteArray.mk #[60, 97, 32, 104, 114, 101, 102, 61, 34]) ++ r6).size + (ByteArray.mk #[34]).size : Nat) : Int) ≤ IntKind.i64.max ∧
 callE P i_bytes_Buffer_WriteString #[.pointer x1, .string (((ByteArray.mk #[60, 97, 32, 104, 114, 101, 102, 61, 34]) ++ r6) ++ (ByteArray.mk #[34]))] (fun e w9 => ∃ (r8_0 : Int), ∃ (r8_1 : Value), e = .returned (.tuple #[.int .i64 r8_0, r8_1]) ∧
 nilP x0 fun a10 =>
 ∃ (v11 : BA), w9.cell? (a10.add 2) = some (.string v11) ∧
 br (!(v11.toList == (ByteArray.mk #[]).toList))
 (tk w9 fun w12 =>
 nilP x0 fun a13 =>
 ∃ (v14 : BA), w12.cell? (a13.add 2) = some (.string v14) ∧
 callE P i_htmlQuoteEscaper #[] (fun e w16 => ∃ (r15q : OA), ∃ (r15n : Nat), ∃ (r15c : Nat), e = .returned (.slice r15q r15n r15c) ∧
 SameC w12 w16 (a13.add 2) 1 ∧
 callE P i_zzPairs_Replace #[.slice r15q r15n r15c, .string v14] (fun e w18 => ∃ (r17 : BA), e = .returned (.string r17) ∧
 (((ByteArray.mk #[32, 116, 105, 116, 108, 101, 61, 34]).size + r17.size : Nat) : Int) ≤ IntKind.i64.max ∧
 ((((ByteArray.mk #[32, 116, 105, 116, 108, 101, 61, 34]) ++ r17).size + (ByteArray.mk #[34]).size : Nat) : Int) ≤ IntKind.i64.max ∧
 callE P i_bytes_Buffer_WriteString #[.pointer x1, .string (((ByteArray.mk #[32, 116, 105, 116, 108, 101, 61, 34]) ++ r17) ++ (ByteArray.mk #[34]))] (fun e w20 => ∃ (r19_0 : Int), ∃ (r19_1 : Value), e = .returned (.tuple #[.int .i64 r19_0, r19_1]) ∧
 g_Link_PrintHTML.k1 R x0 x1 w20) w18) w16) w12)
 (g_Link_PrintHTML.k1 R x0 x1 w9)) w7) w5) w1

noncomputable def g_Link_PrintHTML.ac (R : EP) : AC :=
  (.seq (.draw (.pure 0 (.pure 2 (.pure 3 (.pure 4 (.load 5 (.one 1 (.one 6 (.pure 7 (.pure 8 (.one 9 .done)))))))))) (sel [0] g_Link_PrintHTML.body)) (.seq (.seq (.leaf (sel [1, 0, 0] g_Link_PrintHTML.body)) (.cond 20 (.draw (.pure 0 (.pure 2 (.pure 3 (.pure 4 (.load 5 (.one 1 (.one 6 (.pure 7 (.pure 8 (.one 9 .done)))))))))) (sel [1, 0, 1, 0] g_Link_PrintHTML.body)) (.leaf (sel [1, 0, 1, 1] g_Link_PrintHTML.body)))) (.mark (leaf [(0, .s .ptr), (1, .s .ptr)] (g_Link_PrintHTML.k1 R)) (.seq (.leaf (sel [1, 1, 0] g_Link_PrintHTML.body)) (.seq (.seq (.leaf (sel [1, 1, 1, 0, 0] g_Link_PrintHTML.body)) (.block 0 (.loop (leaf [(1, .s .ptr), (36, .s .slice), (37, .s (.int .i64)), (38, .s (.int .i64))] (g_Link_PrintHTML.l1 R)) (sel [1, 1, 1, 0, 1, 0, 0] g_Link_PrintHTML.body)))) (.leaf (sel [1, 1, 1, 1] g_Link_PrintHTML.body)))))))
theorem g_Link_PrintHTML.good (R : EP) : Good P 48 (g_Link_PrintHTML.ac R) (QF P [] R) :=
  ⟨⟨by kernel_rfl, by kernel_rfl, fun _ _ _ h => h⟩, ⟨⟨trivial, ⟨⟨by kernel_rfl, by kernel_rfl, fun _ _ _ h => h⟩, trivial⟩⟩, ⟨⟨trivial, ⟨⟨trivial, (loopG (g_Link_PrintHTML.al1 R) (g_Link_PrintHTML.bl1 R) (fun _ => by kernel_rfl) (fun Xa => trivial) (fun Xa => by intro x1 x36q x36n x36c x37 x38 ρ w; kernel_rfl) (fun X h _ _ _ _ _ _ _ g => g X h))⟩, trivial⟩⟩, cutE (by intro x0 x1 ρ w; kernel_rfl)⟩⟩⟩
theorem g_Link_PrintHTML.eq (R : EP) (x0 : OA) (x1 : OA) (w : World) : g_Link_PrintHTML R x0 x1 w = vcA P 48 (g_Link_PrintHTML.ac R) (QF P [] R) (fr0 [.pointer x0, .pointer x1]) w := by kernel_rfl
theorem g_Link_PrintHTML.sound {R : EP} {x0 : OA} {x1 : OA} {w : World} (h : g_Link_PrintHTML R x0 x1 w) : callE P i_Link_PrintHTML #[.pointer x0, .pointer x1] R w :=
  callE_fin (c := g_Link_PrintHTML.body) Tryz.func260 Tryz.call260 (by kernel_rfl) (by kernel_rfl) (by kernel_rfl) (by kernel_rfl) (by kernel_rfl) (g_Link_PrintHTML.good R) (g_Link_PrintHTML.eq R x0 x1 w) h
/- 301 (*pub-paratext/pub/rscmarkdown.SoftBreak).PrintHTML -/
namespace g_SoftBreak_PrintHTML
noncomputable def body : Code := bodyOf Tryz.f301
end g_SoftBreak_PrintHTML
def g_SoftBreak_PrintHTML (R : EP) (x0 : OA) (x1 : OA) (w : World) : Prop :=
 callE P i_bytes_Buffer_WriteString #[.pointer x1, .string (ByteArray.mk #[10])] (fun e w2 => ∃ (r1_0 : Int), ∃ (r1_1 : Value), e = .returned (.tuple #[.int .i64 r1_0, r1_1]) ∧
 R (.returned (.tuple #[])) w2) w

noncomputable def g_SoftBreak_PrintHTML.ac (R : EP) : AC :=
  (.leaf (sel [] g_SoftBreak_PrintHTML.body))
theorem g_SoftBreak_PrintHTML.good (R : EP) : Good P 6 (g_SoftBreak_PrintHTML.ac R) (QF P [] R) :=
  trivial
theorem g_SoftBreak_PrintHTML.eq (R : EP) (x0 : OA) (x1 : OA) (w : World) : g_SoftBreak_PrintHTML R x0 x1 w = vcA P 6 (g_SoftBreak_PrintHTML.ac R) (QF P [] R) (fr0 [.pointer x0, .pointer x1]) w := by kernel_rfl
theorem g_SoftBreak_PrintHTML.sound {R : EP} {x0 : OA} {x1 : OA} {w : World} (h : g_SoftBreak_PrintHTML R x0 x1 w) : callE P i_SoftBreak_PrintHTML #[.pointer x0, .pointer x1] R w :=
  callE_fin (c := g_SoftBreak_PrintHTML.body) Tryz.func301 Tryz.call301 (by kernel_rfl) (by kernel_rfl) (by kernel_rfl) (by kernel_rfl) (by kernel_rfl) (g_SoftBreak_PrintHTML.good R) (g_SoftBreak_PrintHTML.eq R x0 x1 w) h
end Go.Proofs.YtmicoampfglaiaaGreatDoor

/- Leaves and links print themselves. -/
set_option linter.unusedVariables false
namespace Go.Proofs.YtmicoampfglaiaaGreatDoor
open Go.Proofs Go.IntWalk Go.RowKit
variable {σ : Out} {w : World} {L L' : List Chunk} {R : Ending → World → Prop}
/-- A method of a struct that is embedded first, met through a pointer. -/
def methB1 (P : Program) (t : TypeId) (name : String) (f : FuncId) : Bool :=
  match P.info? t with
  | some i => match i.methods.find? (·.name == name) with
    | some m => match m.path.toList with
      | [s] => s.deref && (match P.underlying s.struct with
        | some (.struct fields) => match fields[s.index]? with
          | some fd => Nat.beq fd.offset 0 && (match P.info? fd.type with
            | some ti => !(Nat.beq ti.size 0) && (match P.underlying fd.type with
              | some (.struct _) => (match m.func with | some (g, true) => Nat.beq g f | _ => false)
              | _ => false)
            | none => false)
          | none => false
        | _ => false)
      | _ => false
    | none => false
  | none => false
theorem methB1_run {P : Program} {t : TypeId} {name : String} {f : FuncId} (h : methB1 P t name f = true) (b : Nat) (fuel : Nat) (w : World) :
    (Go.method (fuel + 1) t (.pointer (some ⟨b, 0, none⟩)) name).run P w = .ok (f, .pointer (some ⟨b, 0, none⟩)) w := by
  unfold methB1 at h
  split at h
  · rename_i i hi
    split at h
    · rename_i m hm
      split at h
      · rename_i s hp
        simp only [Bool.and_eq_true] at h
        obtain ⟨hd, h⟩ := h
        split at h
        · rename_i fields hu
          split at h
          · rename_i fd hf
            simp only [Bool.and_eq_true] at h
            obtain ⟨h0, h⟩ := h
            have h0 := Nat.eq_of_beq_eq_true h0
            split at h
            · rename_i ti hti
              simp only [Bool.and_eq_true, Bool.not_eq_true'] at h
              obtain ⟨hsz, h⟩ := h
              have hsz : ti.size ≠ 0 := by intro h1; rw [h1] at hsz; simp at hsz
              split at h
              · rename_i fs hfu
                split at h
                · rename_i g hg
                  have hgf := Nat.eq_of_beq_eq_true h
                  subst hgf
                  simp [Go.method, typeInfo, hi, hm, hp, Go.follow, run_underlying hu, hf, hd, Go.Place.get, asAddr, Go.fieldPlace, sizeOf, hti, hsz, h0, hg, Go.receiverAt, run_underlying hfu, Addr.add_lit]
                · cases h
              · cases h
            · cases h
          · cases h
        · cases h
      · cases h
    · cases h
  · cases h
theorem enter_meth1 {t : TypeId} {name : String} {f : FuncId} {b : Nat} {args : Array Value} (hm : methB1 P t name f = true) (h : callE P f (#[.pointer (some ⟨b, 0, none⟩)] ++ args) R w) :
    enterE P (callMethod (.iface t (.pointer (some ⟨b, 0, none⟩))) name args) R w := by
  obtain ⟨n, hn⟩ := depth_succ P
  have hr := methB1_run hm b n w
  have e : (callMethod (.iface t (.pointer (some ⟨b, 0, none⟩))) name args).run P w = (callFunc f (#[.pointer (some ⟨b, 0, none⟩)] ++ args)).run P w := by
    simp only [callMethod, Sem.run_bind, run_program, Result.andThen_ok, hn, hr]
  unfold enterE
  rw [e]
  exact h.imp (fun h => ⟨f, _, w, h.1 _ _, h.2⟩) id
theorem meth_EscapedP : methB1 P ty_P_Escaped "PrintHTML" i_Plain_PrintHTML = true := by kernel_rfl
theorem meth_Soft : methB P ty_P_SoftBreak "PrintHTML" i_SoftBreak_PrintHTML = true := by kernel_rfl
theorem meth_Hard : methB P ty_P_HardBreak "PrintHTML" i_HardBreak_PrintHTML = true := by kernel_rfl
theorem meth_Auto : methB P ty_P_AutoLink "PrintHTML" i_AutoLink_PrintHTML = true := by kernel_rfl
theorem meth_Link : methB P ty_P_Link "PrintHTML" i_Link_PrintHTML = true := by kernel_rfl
theorem esc_prints {pb : Nat} {s : List UInt8} {cs : List Value} {e : TypeId} (hs : s.length < 4294967296) :
    Prints "PrintHTML" (.iface ty_P_Escaped (.pointer (some ⟨pb, 0, none⟩))) [(pb, cel (.string (bs s) :: cs) e)] [(pb, cel (.string (bs s) :: cs) e)] (ab (escS htmlPs s)) := by
  refine ⟨ab_le _, fun σ R b l M L w hB h hb hR => enter_meth1 meth_EscapedP ?_⟩
  exact plainPrint_ok hB h hs (Nat.le_trans (ab_le _ l) hb) hR
def softT : List UInt8 := [10]
def hardT : List UInt8 := [60, 98, 114, 32, 47, 62, 10]
theorem soft_prints {b : Nat} {T : List Chunk} : Prints "PrintHTML" (ptrV ty_P_SoftBreak b) T T (ab softT) := by
  refine ⟨ab_le _, fun σ R bb l M L w hB h hb hR => enter_meth meth_Soft ?_⟩
  refine g_SoftBreak_PrintHTML.sound ?_
  have hb' : (l ++ softT).length ≤ 549755813888 := hb
  rw [List.length_append] at hb'
  exact writeS_ok (s := softT) hB h (by omega) fun w M hB h => ⟨_, _, rfl, hR w M hB h⟩
theorem hard_prints {b : Nat} {T : List Chunk} : Prints "PrintHTML" (ptrV ty_P_HardBreak b) T T (ab hardT) := by
  refine ⟨ab_le _, fun σ R bb l M L w hB h hb hR => enter_meth meth_Hard ?_⟩
  refine g_HardBreak_PrintHTML.sound ?_
  have hb' : (l ++ hardT).length ≤ 549755813888 := hb
  rw [List.length_append] at hb'
  exact writeS_ok (s := hardT) hB h (by omega) fun w M hB h => ⟨_, _, rfl, hR w M hB h⟩
def aHref : List UInt8 := [60, 97, 32, 104, 114, 101, 102, 61, 34]
def aEnd : List UInt8 := [60, 47, 97, 62]
def tAttr : List UInt8 := [32, 116, 105, 116, 108, 101, 61, 34]
theorem linkPs8 : small8 linkPs = true := by decide
theorem linkPs_len : linkPs.length = 170 := by kernel_rfl
theorem linkReplace_ok {pb c : Nat} {e : TypeId} {s : List UInt8} (h : Sat σ w L) (hp : (pb, cel (pairC linkPs) e) ∈ L) (hs : s.length < 4294967296) (hR : ∀ w, Sat σ w L → R (.returned (.string (bs (escS linkPs s)))) w) :
    callE P i_zzPairs_Replace #[.slice (some ⟨pb, 0, none⟩) 340 c, .string (bs s)] R w := by
  have := pairsReplace_ok (c := c) (R := R) h hp linkPs8 (by rw [linkPs_len]; decide) hs hR
  rw [linkPs_len] at this
  exact this
theorem auto_prints {b : Nat} {e : TypeId} {t u : List UInt8} (ht : t.length < 100000000) (hu : u.length < 100000000) :
    Prints "PrintHTML" (ptrV ty_P_AutoLink b) [(b, cel [.string (bs t), .string (bs u)] e)] [(b, cel [.string (bs t), .string (bs u)] e)] (ab (aHref ++ escS linkPs u ++ [34, 62] ++ escS htmlPs t ++ aEnd)) := by
  refine ⟨ab_le _, fun σ R bb l M L w hB h hb hR => enter_meth meth_Auto ?_⟩
  have hmax : IntKind.i64.max = 9223372036854775807 := rfl
  have l1 := escS_length linkPs8 u
  have l2 := escS_length (ps := htmlPs) (by decide) t
  have hb' : (l ++ (aHref ++ escS linkPs u ++ [34, 62] ++ escS htmlPs t ++ aEnd)).length ≤ 549755813888 := hb
  rw [List.length_append] at hb'
  refine g_AutoLink_PrintHTML.sound ?_
  refine Sat.tk h fun w h => ?_
  refine nilP_some (nilP_some ?_)
  have hm : ∀ {M : List Chunk}, (b, cel [.string (bs t), .string (bs u)] e) ∈ M ++ ([(b, cel [.string (bs t), .string (bs u)] e)] ++ L) := List.mem_append_right _ (.head _)
  refine ⟨_, Sat.ld h (i := 1) hm rfl, _, Sat.ld h (i := 0) hm rfl, ?_⟩
  have h0 := h
  refine htmlLinkEscaper_ok h fun w eb h => ⟨_, _, _, rfl, h0.same h hm (.tail _ hm) 1, h0.same h hm (.tail _ hm) 1, ?_⟩
  have h0 := h
  refine linkReplace_ok h (.head _) (by omega) fun w h => ⟨_, rfl, h0.same h (.tail _ hm) (.tail _ hm) 1, ?_⟩
  rw [show ByteArray.mk #[60, 97, 32, 104, 114, 101, 102, 61, 34] = bs aHref from rfl, show ByteArray.mk #[34, 62] = bs [34, 62] from rfl, show ByteArray.mk #[60, 47, 97, 62] = bs aEnd from rfl, bs_append, bs_append]
  refine ⟨by rw [hmax]; simp [aHref]; omega, by rw [hmax]; simp [aHref]; omega, ?_⟩
  have h0 := h
  refine htmlEscaper_ok h fun w eb2 h => ⟨_, _, _, rfl, h0.same h (.tail _ hm) (.tail _ (.tail _ hm)) 1, ?_⟩
  refine pairsReplace_ok (ps := htmlPs) h (.head _) (by decide) (by decide) (by omega) fun w h => ⟨_, rfl, ?_⟩
  rw [bs_append, bs_append]
  refine ⟨by rw [hmax]; simp [aHref]; omega, by rw [hmax]; simp [aHref, aEnd]; omega, ?_⟩
  have h : Sat σ w (M ++ ([(b, cel [.string (bs t), .string (bs u)] e)] ++ L)) := h.tail.tail
  exact writeS_ok hB h (by omega) fun w M hB h => ⟨_, _, rfl, hR w M hB h⟩
/-- What stands ahead of a link's text. -/
def linkO (u t : List UInt8) : List UInt8 := aHref ++ escS linkPs u ++ [34] ++ (if t = [] then [] else tAttr ++ escS htmlPs t ++ [34]) ++ [62]
theorem link_prints {b : Nat} {e : TypeId} {u t : List UInt8} {cs : List Value} {q : Option Addr} {n c : Nat} {vs : List Value} {RM KM KM' : List Chunk} {f : List UInt8 → List UInt8} (hu : u.length < 100000000) (ht : t.length < 100000000) (hS : Sl 1 ty_Inline q n c vs RM) (hn : n < 4611686018427387904) (hP : PrintsL "PrintHTML" vs KM KM' f) :
    Prints "PrintHTML" (ptrV ty_P_Link b) ((b, cel (.slice q n c :: .string (bs u) :: .string (bs t) :: cs) e) :: (RM ++ KM)) ((b, cel (.slice q n c :: .string (bs u) :: .string (bs t) :: cs) e) :: (RM ++ KM')) (fun l => f (l ++ linkO u t) ++ aEnd) := by
  have hmax : IntKind.i64.max = 9223372036854775807 := rfl
  have l1 := escS_length linkPs8 u
  have l2 := escS_length (ps := htmlPs) (by decide) t
  refine ⟨fun l => ?_, fun σ R bb l M L w hB h hb hR => enter_meth meth_Link ?_⟩
  · have := hP.mono (l ++ linkO u t)
    simp only [List.length_append] at *; omega
  have hm := hP.mono (l ++ linkO u t)
  simp only [List.length_append] at hb hm
  refine g_Link_PrintHTML.sound ?_
  have hmem : ∀ {M : List Chunk}, (b, cel (.slice q n c :: .string (bs u) :: .string (bs t) :: cs) e) ∈ M ++ ((b, cel (.slice q n c :: .string (bs u) :: .string (bs t) :: cs) e) :: (RM ++ KM) ++ L) := List.mem_append_right _ (.head _)
  refine Sat.tk h fun w h => ?_
  refine nilP_some ⟨_, Sat.ld h (i := 1) hmem rfl, ?_⟩
  have h0 := h
  refine htmlLinkEscaper_ok h fun w eb h => ⟨_, _, _, rfl, h0.same h hmem (.tail _ hmem) 1, ?_⟩
  refine linkReplace_ok h (.head _) (by omega) fun w h => ⟨_, rfl, ?_⟩
  rw [show ByteArray.mk #[60, 97, 32, 104, 114, 101, 102, 61, 34] = bs aHref from rfl, show ByteArray.mk #[34] = bs [34] from rfl, bs_append, bs_append]
  have hlo : (linkO u t).length = (aHref ++ escS linkPs u ++ [34]).length + (if t = [] then [] else tAttr ++ escS htmlPs t ++ [34] : List UInt8).length + 1 := by simp [linkO]; omega
  refine ⟨by rw [hmax]; simp [aHref]; omega, by rw [hmax]; simp [aHref]; omega, ?_⟩
  have h : Sat σ w (M ++ ((b, cel (.slice q n c :: .string (bs u) :: .string (bs t) :: cs) e) :: (RM ++ KM) ++ L)) := h.tail
  refine writeS_ok hB h (by omega) fun w M hB h => ⟨_, _, rfl, ?_⟩
  refine nilP_some ⟨_, Sat.ld h (i := 2) hmem rfl, ?_⟩
  have k1 : ∀ w M, Buf bb (l ++ (aHref ++ escS linkPs u ++ [34] ++ (if t = [] then [] else tAttr ++ escS htmlPs t ++ [34]))) M → Sat σ w (M ++ ((b, cel (.slice q n c :: .string (bs u) :: .string (bs t) :: cs) e) :: (RM ++ KM) ++ L)) → g_Link_PrintHTML.k1 R (some ⟨b, 0, none⟩) (some ⟨bb, 0, none⟩) w := by
    intro w M hB h
    refine writeS_ok (s := [62]) hB h (by simp only [List.length_append, List.length_cons, List.length_nil] at hlo ⊢; omega) fun w M hB h => ⟨_, _, rfl, ?_⟩
    refine nilP_some ⟨_, _, _, Sat.ld h (i := 0) hmem rfl, ?_⟩
    intro X hX
    have e1 : l ++ (aHref ++ escS linkPs u ++ [34] ++ (if t = [] then [] else tAttr ++ escS htmlPs t ++ [34])) ++ [62] = l ++ linkO u t := by simp [linkO]
    rw [e1] at hB
    have h : Sat σ w (M ++ (RM ++ (KM ++ ((b, cel (.slice q n c :: .string (bs u) :: .string (bs t) :: cs) e) :: L)))) := h.re (by intro _; simp only [List.append_eq, cnt_append, cnt_cons, cnt_nil] <;> omega)
    refine printLoop (X := fun j w => X (some ⟨bb, 0, none⟩) q n c (n : Int) j w) (END := fun w => callE P i_bytes_Buffer_WriteString #[.pointer (some ⟨bb, 0, none⟩), .string (bs aEnd)] (fun e w10 => ∃ (r9_0 : Int), ∃ (r9_1 : Value), e = .returned (.tuple #[.int .i64 r9_0, r9_1]) ∧ R (.returned (.tuple #[])) w10) w) hS (fun j w hj => hX _ _ _ _ _ _ _ hj) hP hB h hn (by simp only [List.length_append] at *; omega) fun w M' hB h => ?_
    refine writeS_ok (s := aEnd) hB h (by simp only [List.length_append] at *; omega) fun w M hB h => ⟨_, _, rfl, ?_⟩
    exact hR w M hB (h.re (by intro _; simp only [List.append_eq, cnt_append, cnt_cons, cnt_nil] <;> omega))
  by_cases ht0 : t = []
  · refine br_false (by rw [ht0, bs_toList, mk_toList]; rfl) (k1 w M ?_ h)
    rw [if_pos ht0, List.append_nil]; exact hB
  · refine br_true (by rw [bs_toList, mk_toList]; simpa using ht0) ?_
    rw [if_neg ht0] at hlo
    simp only [List.length_append, List.length_cons, List.length_nil] at hlo
    refine Sat.tk h fun w h => ?_
    refine nilP_some ⟨_, Sat.ld h (i := 2) hmem rfl, ?_⟩
    have h0 := h
    refine htmlQuoteEscaper_ok h fun w eb h => ⟨_, _, _, rfl, h0.same h hmem (.tail _ hmem) 1, ?_⟩
    refine pairsReplace_ok (ps := htmlPs) h (.head _) (by decide) (by decide) (by omega) fun w h => ⟨_, rfl, ?_⟩
    rw [show ByteArray.mk #[32, 116, 105, 116, 108, 101, 61, 34] = bs tAttr from rfl, bs_append, bs_append]
    refine ⟨by rw [hmax]; simp [tAttr]; omega, by rw [hmax]; simp [tAttr]; omega, ?_⟩
    have h : Sat σ w (M ++ ((b, cel (.slice q n c :: .string (bs u) :: .string (bs t) :: cs) e) :: (RM ++ KM) ++ L)) := h.tail
    refine writeS_ok hB h (by simp only [List.length_append, List.length_cons, List.length_nil] at hlo ⊢; omega) fun w M hB h => ⟨_, _, rfl, k1 w M ?_ h⟩
    rw [if_neg ht0, ← List.append_assoc]; exact hB
end Go.Proofs.YtmicoampfglaiaaGreatDoor


/- Inlines print themselves. -/
set_option linter.unusedVariables false
namespace Go.Proofs.YtmicoampfglaiaaGreatDoor
open Go.Proofs Go.IntWalk Go.RowKit
variable {σ : Out} {w : World} {L L' : List Chunk} {R : Ending → World → Prop}
theorem meth_Strong : methB P ty_P_Strong "PrintHTML" i_Strong_PrintHTML = true := by kernel_rfl
theorem meth_Emph : methB P ty_P_Emph "PrintHTML" i_Emph_PrintHTML = true := by kernel_rfl
def oStrong : List UInt8 := [60, 115, 116, 114, 111, 110, 103, 62]
def cStrong : List UInt8 := [60, 47, 115, 116, 114, 111, 110, 103, 62]
def oEm : List UInt8 := [60, 101, 109, 62]
def cEm : List UInt8 := [60, 47, 101, 109, 62]
theorem strong_prints {b : Nat} {e : TypeId} {m : Value} {q : Option Addr} {n c : Nat} {vs : List Value} {RM KM KM' : List Chunk} {f : List UInt8 → List UInt8} (hS : Sl 1 ty_Inline q n c vs RM) (hn : n < 4611686018427387904) (hP : PrintsL "PrintHTML" vs KM KM' f) :
    Prints "PrintHTML" (.iface ty_P_Strong (.pointer (some ⟨b, 0, none⟩))) ((b, cel [m, .slice q n c] e) :: (RM ++ KM)) ((b, cel [m, .slice q n c] e) :: (RM ++ KM')) (fun l => f (l ++ oStrong) ++ cStrong) := by
  refine ⟨fun l => ?_, fun σ R bb l M L w hB h hb hR => enter_meth meth_Strong ?_⟩
  · have := hP.mono (l ++ oStrong)
    simp only [List.length_append] at *; omega
  refine g_Strong_PrintHTML.sound ?_
  have hm := hP.mono (l ++ oStrong)
  simp only [List.length_append] at hb hm
  refine writeS_ok (s := oStrong) hB h (by omega) fun w M hB h => ⟨_, _, rfl, ?_⟩
  refine nilP_some ?_
  refine ⟨_, _, _, Sat.ld h (List.mem_append_right _ (.head _)) rfl, ?_⟩
  intro X hX
  have h : Sat σ w (M ++ (RM ++ (KM ++ ((b, cel [m, .slice q n c] e) :: L)))) := h.re (by intro _; simp only [List.append_eq, cnt_append, cnt_cons, cnt_nil] <;> omega)
  refine printLoop (X := fun j w => X (some ⟨bb, 0, none⟩) q n c (n : Int) j w) (END := fun w => callE P i_bytes_Buffer_WriteString #[.pointer (some ⟨bb, 0, none⟩), .string (bs cStrong)] (fun e w10 => ∃ (r9_0 : Int), ∃ (r9_1 : Value), e = .returned (.tuple #[.int .i64 r9_0, r9_1]) ∧ R (.returned (.tuple #[])) w10) w) hS (fun j w hj => hX _ _ _ _ _ _ _ hj) hP hB h hn (by omega) fun w M' hB h => ?_
  refine writeS_ok (s := cStrong) hB h (by omega) fun w M hB h => ⟨_, _, rfl, ?_⟩
  exact hR w M hB (h.re (by intro _; simp only [List.append_eq, cnt_append, cnt_cons, cnt_nil] <;> omega))
theorem em_prints {b : Nat} {e : TypeId} {m : Value} {q : Option Addr} {n c : Nat} {vs : List Value} {RM KM KM' : List Chunk} {f : List UInt8 → List UInt8} (hS : Sl 1 ty_Inline q n c vs RM) (hn : n < 4611686018427387904) (hP : PrintsL "PrintHTML" vs KM KM' f) :
    Prints "PrintHTML" (.iface ty_P_Emph (.pointer (some ⟨b, 0, none⟩))) ((b, cel [m, .slice q n c] e) :: (RM ++ KM)) ((b, cel [m, .slice q n c] e) :: (RM ++ KM')) (fun l => f (l ++ oEm) ++ cEm) := by
  refine ⟨fun l => ?_, fun σ R bb l M L w hB h hb hR => enter_meth meth_Emph ?_⟩
  · have := hP.mono (l ++ oEm)
    simp only [List.length_append] at *; omega
  refine g_Emph_PrintHTML.sound ?_
  have hm := hP.mono (l ++ oEm)
  simp only [List.length_append] at hb hm
  refine writeS_ok (s := oEm) hB h (by omega) fun w M hB h => ⟨_, _, rfl, ?_⟩
  refine nilP_some ?_
  refine ⟨_, _, _, Sat.ld h (List.mem_append_right _ (.head _)) rfl, ?_⟩
  intro X hX
  have h : Sat σ w (M ++ (RM ++ (KM ++ ((b, cel [m, .slice q n c] e) :: L)))) := h.re (by intro _; simp only [List.append_eq, cnt_append, cnt_cons, cnt_nil] <;> omega)
  refine printLoop (X := fun j w => X (some ⟨bb, 0, none⟩) q n c (n : Int) j w) (END := fun w => callE P i_bytes_Buffer_WriteString #[.pointer (some ⟨bb, 0, none⟩), .string (bs cEm)] (fun e w10 => ∃ (r9_0 : Int), ∃ (r9_1 : Value), e = .returned (.tuple #[.int .i64 r9_0, r9_1]) ∧ R (.returned (.tuple #[])) w10) w) hS (fun j w hj => hX _ _ _ _ _ _ _ hj) hP hB h hn (by omega) fun w M' hB h => ?_
  refine writeS_ok (s := cEm) hB h (by omega) fun w M hB h => ⟨_, _, rfl, ?_⟩
  exact hR w M hB (h.re (by intro _; simp only [List.append_eq, cnt_append, cnt_cons, cnt_nil] <;> omega))
/-! ### In general -/
mutual
/-- What an inline prints (of the kinds that are covered). -/
def outI : Inl → List UInt8
  | .plain s => escS htmlPs s
  | .strong _ ks => oStrong ++ outL ks ++ cStrong
  | .emph _ ks => oEm ++ outL ks ++ cEm
  | .esc s => escS htmlPs s
  | .auto t u => aHref ++ escS linkPs u ++ [34, 62] ++ escS htmlPs t ++ aEnd
  | .link ks u t _ _ => linkO u t ++ outL ks ++ aEnd
  | .soft => softT
  | .hard => hardT
  | _ => []
def outL : List Inl → List UInt8
  | [] => []
  | t :: ts => outI t ++ outL ts
end
mutual
def okI : Inl → Prop
  | .plain s => s.length < 4294967296
  | .strong _ ks => okL ks ∧ ks.length < 1073741824
  | .emph _ ks => okL ks ∧ ks.length < 1073741824
  | .esc s => s.length < 4294967296
  | .auto t u => t.length < 100000000 ∧ u.length < 100000000
  | .link ks u t _ _ => okL ks ∧ ks.length < 1073741824 ∧ u.length < 100000000 ∧ t.length < 100000000
  | .soft => True
  | .hard => True
  | _ => False
def okL : List Inl → Prop
  | [] => True
  | t :: ts => okI t ∧ okL ts
end
theorem Prints.as {m : String} {v : Value} {T T' : List Chunk} {f g : List UInt8 → List UInt8} (h : Prints m v T T' f) (e : f = g) : Prints m v T T' g := e ▸ h
theorem PrintsL.as {m : String} {v : List Value} {T T' : List Chunk} {f g : List UInt8 → List UInt8} (h : PrintsL m v T T' f) (e : f = g) : PrintsL m v T T' g := e ▸ h
mutual
theorem inl_prints : ∀ (t : Inl) (v : Value) (M : List Chunk), InlAt t v M → okI t → Prints "PrintHTML" v M M (ab (outI t))
  | .plain s, v, M, h, ho => by
    obtain ⟨b, cs, e, rfl, rfl⟩ := h
    exact plain_prints ho
  | .strong m ks, v, M, h, ho => by
    obtain ⟨b, e, q, n, c, vs, RM, KM, rfl, rfl, hS, hI⟩ := h
    have hl := hI.length
    have h0 := hS.1
    have h1 := ho.2
    refine (strong_prints hS (by omega) (inls_print ks vs KM hI ho.1)).as ?_
    funext l
    simp [ab, outI]
  | .emph m ks, v, M, h, ho => by
    obtain ⟨b, e, q, n, c, vs, RM, KM, rfl, rfl, hS, hI⟩ := h
    have hl := hI.length
    have h0 := hS.1
    have h1 := ho.2
    refine (em_prints hS (by omega) (inls_print ks vs KM hI ho.1)).as ?_
    funext l
    simp [ab, outI]
  | .esc s, v, M, h, ho => by
    obtain ⟨b, e, rfl, rfl⟩ := h
    exact esc_prints ho
  | .auto t u, v, M, h, ho => by
    obtain ⟨b, e, rfl, rfl⟩ := h
    exact auto_prints ho.1 ho.2
  | .link ks u t tc k, v, M, h, ho => by
    obtain ⟨b, e, q, n, c, vs, RM, KM, rfl, rfl, hS, hI⟩ := h
    have hl := hI.length
    have h0 := hS.1
    obtain ⟨h1, h2, h3, h4⟩ := ho
    refine (link_prints h3 h4 hS (by omega) (inls_print ks vs KM hI h1)).as ?_
    funext l
    simp [ab, outI]
  | .soft, v, M, h, ho => by
    obtain ⟨b, e, rfl, rfl⟩ := h
    exact soft_prints
  | .hard, v, M, h, ho => by
    obtain ⟨b, e, rfl, rfl⟩ := h
    exact hard_prints
  | .openP _ _, v, M, h, ho => absurd ho id
  | .emphP _ _ _ _ _, v, M, h, ho => absurd ho id
  | .code _, v, M, h, ho => absurd ho id
  | .del _ _, v, M, h, ho => absurd ho id
  | .image _ _ _ _ _, v, M, h, ho => absurd ho id
  | .tag _, v, M, h, ho => absurd ho id
  | .task _, v, M, h, ho => absurd ho id
theorem inls_print : ∀ (ts : List Inl) (vs : List Value) (M : List Chunk), InlsAt ts vs M → okL ts → PrintsL "PrintHTML" vs M M (ab (outL ts))
  | [], vs, M, h, ho => by
    obtain ⟨rfl, rfl⟩ := h
    exact PrintsL.nil.as (by funext l; simp [ab, outL])
  | t :: ts, vs, M, h, ho => by
    obtain ⟨v, vs', M1, M2, rfl, rfl, h1, h2⟩ := h
    refine (PrintsL.cons (inl_prints t v M1 h1 ho.1) (inls_print ts vs' M2 h2 ho.2)).as ?_
    funext l
    simp [ab, outL]
end
end Go.Proofs.YtmicoampfglaiaaGreatDoor


/- Texts of plain bytes, escaped ones, and ends of lines: their inlines. -/
set_option linter.unusedVariables false
namespace Go.Proofs.YtmicoampfglaiaaGreatDoor
open Go.Proofs Go.IntWalk Go.RowKit
variable {σ : Out} {w : World} {L L' : List Chunk} {R : Ending → World → Prop}
def punB (c : UInt8) : Bool := (((decide (33 ≤ c.toNat) && decide (c.toNat ≤ 47)) || (decide (58 ≤ c.toNat) && decide (c.toNat ≤ 64))) || (decide (91 ≤ c.toNat) && decide (c.toNat ≤ 96))) || (decide (123 ≤ c.toNat) && decide (c.toNat ≤ 126))
theorem u8_cle (c : UInt8) (n : Nat) : decide ((n : Int) ≤ ((c.toNat : Nat) : Int)) = decide (n ≤ c.toNat) := by rw [decide_eq_decide]; omega
theorem u8_cge (c : UInt8) (n : Nat) : decide (((c.toNat : Nat) : Int) ≤ (n : Int)) = decide (c.toNat ≤ n) := by rw [decide_eq_decide]; omega
theorem isPunctB_ok {c : UInt8} (hR : R (.returned (.bool (punB c))) w) : callE P i_isPunct #[.int .u8 (c.toNat : Int)] R w := by
  refine g_isPunct.sound ?_
  unfold g_isPunct
  unfold punB at hR
  rw [← u8_cle c 33, ← u8_cge c 47, ← u8_cle c 58, ← u8_cge c 64, ← u8_cle c 91, ← u8_cge c 96, ← u8_cle c 123, ← u8_cge c 126] at hR
  exact hR
inductive Tok where
  | lit (c : UInt8)
  | esc (c : UInt8)
  | nl
def Tok.bytes : Tok → List UInt8
  | .lit c => [c]
  | .esc c => [92, c]
  | .nl => [10]
def Tok.out : Tok → List UInt8
  | .lit c => escB htmlPs c
  | .esc c => escB htmlPs c
  | .nl => [10]
def tokB (ts : List Tok) : List UInt8 := ts.flatMap Tok.bytes
def tokO (ts : List Tok) : List UInt8 := ts.flatMap Tok.out
theorem tokB_cons (t : Tok) (ts : List Tok) : tokB (t :: ts) = t.bytes ++ tokB ts := by simp [tokB]
theorem tokB_append (a b : List Tok) : tokB (a ++ b) = tokB a ++ tokB b := by simp [tokB]
theorem tokO_cons (t : Tok) (ts : List Tok) : tokO (t :: ts) = t.out ++ tokO ts := by simp [tokO]
theorem tokO_append (a b : List Tok) : tokO (a ++ b) = tokO a ++ tokO b := by simp [tokO]
theorem tokB_length (ts : List Tok) : ts.length ≤ (tokB ts).length := by
  induction ts with
  | nil => simp [tokB]
  | cons t ts ih => rw [tokB_cons, List.length_append, List.length_cons]; cases t <;> simp [Tok.bytes] <;> omega
/-- The inlines of such a text, behind some plain bytes. -/
def tokIn (pend : List UInt8) : List Tok → List Inl
  | [] => if pend = [] then [] else [.plain pend]
  | .lit c :: r => tokIn (pend ++ [c]) r
  | .esc c :: r => (if pend = [] then [] else [.plain pend]) ++ .esc [c] :: tokIn [] r
  | .nl :: r => (if pend = [] then [] else [.plain pend]) ++ .soft :: tokIn [] r
/-- No white space stands around the ends of lines. -/
def nlOK : List Tok → Prop
  | [] => True
  | t :: ts => (match ts with
    | .nl :: _ => match t with
      | .lit c => isST c = false
      | .esc c => isST c = false
      | .nl => True
    | _ => True) ∧ (match t, ts with
    | .nl, .lit c :: _ => isST c = false
    | _, _ => True) ∧ nlOK ts
def Tok.ok (o : Opt) : Tok → Prop
  | .lit c => parserOf o c = .nil ∧ c ≠ 93
  | .esc c => punB c = true
  | .nl => True
theorem escape_leaf {b : Nat} {p : PS} {c : UInt8} {A B : List UInt8} (hc : punB c = true) (hs : (A ++ 92 :: c :: B).length < 1000000) :
    LeafOK b p (A ++ 92 :: c :: B) A.length (.func (.func i_parseEscape) #[] #[]) [] (some (.esc [c], A.length, A.length + 2)) (fun p' => p' = p) := by
  intro σ R L w _ h hR
  refine enter_fn ?_
  have hlen : (A ++ 92 :: c :: B).length = A.length + B.length + 2 := by simp; omega
  have hg : (A ++ 92 :: c :: B).getD (A.length + 1) 0 = c := by
    have := getD_mid (A ++ [92]) B c 0
    rw [show (A ++ [92] : List UInt8).length = A.length + 1 by simp] at this
    rw [← this]; simp
  refine g_parseEscape.sound ?_
  unfold g_parseEscape
  have e2 : IntKind.i64.wrap ((A.length : Int) + 2) = ((A.length + 2 : Nat) : Int) := by simp (disch := omega) only [i64_in]; omega
  rw [i64_inc (by omega), e2]
  refine br_true (by rw [bs_size, hlen]; simp; omega) ⟨by omega, by rw [bs_size, hlen]; omega, ?_⟩
  rw [bs_bt, hg]
  refine isPunctB_ok ⟨_, rfl, br_true hc ⟨by omega, by omega, by rw [bs_size, hlen]; omega, ?_⟩⟩
  have hsub := sub_mid (A ++ [92]) [c] B
  rw [show (A ++ [92] : List UInt8).length = A.length + 1 by simp] at hsub
  rw [Int.toNat_natCast, Int.toNat_natCast, bs_extract]
  have hsub' : ((A ++ 92 :: c :: B).take (A.length + 2)).drop (A.length + 1) = [c] := by
    unfold sub at hsub
    rw [← hsub]; simp
  rw [hsub']
  refine Sat.bx h fun nb w h => ?_
  exact hR w p _ _ rfl rfl ⟨nb, _, rfl, rfl⟩ h.up1
theorem break_leaf {b : Nat} {p : PS} {A B : List UInt8} (hA : ∀ k, k + 1 = A.length → isST (A.getD k 0) = false) (hB : 0 < B.length → isST (B.getD 0 0) = false) (hs : (A ++ 10 :: B).length < 1000000) :
    LeafOK b p (A ++ 10 :: B) A.length (.func (.func i_parseBreak) #[] #[]) [] (some (.soft, A.length, A.length + 1)) (fun p' => p' = p) := by
  intro σ R L w _ h hR
  refine enter_fn ?_
  have hlen : (A ++ 10 :: B).length = A.length + B.length + 1 := by simp; omega
  have hst : ∀ {c : UInt8}, isST c = false → (((c.toNat : Nat) : Int) == 32) = false ∧ (((c.toNat : Nat) : Int) == 9) = false := by
    intro c hc
    simp only [isST, Bool.or_eq_false_iff] at hc
    rw [u8b _ 32 32 rfl, u8b _ 9 9 rfl]; exact hc
  refine g_parseBreak.sound ?_
  intro X hX
  have k1 : g_parseBreak.k1 R (bs (A ++ 10 :: B)) (A.length : Nat) (A.length : Nat) w := by
    unfold g_parseBreak.k1
    rw [i64_inc (by omega)]
    intro Y hY
    have k2 : g_parseBreak.k2 R (bs (A ++ 10 :: B)) (A.length : Nat) (A.length : Nat) ((A.length + 1 : Nat) : Int) w := by
      rcases Nat.lt_or_ge A.length 2 with h2 | h2
      · have hf : decide (((A.length : Nat) : Int) ≥ 2) = false := decide_eq_false (by omega)
        unfold g_parseBreak.k2
        rw [hf]
        refine ⟨fun h => by simp at h, fun h => by simp at h, br_false rfl ?_⟩
        exact Sat.bx h fun nb w h => hR w p _ _ rfl rfl ⟨nb, _, rfl, rfl⟩ h.up1
      · have ht : decide (((A.length : Nat) : Int) ≥ 2) = true := decide_eq_true (by omega)
        have e1 : IntKind.i64.wrap ((A.length : Int) - 1) = ((A.length - 1 : Nat) : Int) := i64_dec (by omega) (by omega)
        have hc := hst (hA (A.length - 1) (by omega))
        have hg : bt (bs (A ++ 10 :: B)) ((A.length - 1 : Nat) : Int) = ((A.getD (A.length - 1) 0).toNat : Int) := by rw [bs_bt, getD_app' (by omega)]
        unfold g_parseBreak.k2
        rw [ht, e1, hg, hc.1]
        refine ⟨fun _ => ⟨by omega, by rw [bs_size, hlen]; omega⟩, fun h => by simp at h, br_false rfl ?_⟩
        exact Sat.bx h fun nb w h => hR w p _ _ rfl rfl ⟨nb, _, rfl, rfl⟩ h.up1
    rcases Nat.eq_zero_or_pos B.length with hb | hb
    · have hf : decide (((A.length + 1 : Nat) : Int) < ((bs (A ++ 10 :: B)).size : Int)) = false := decide_eq_false (by rw [bs_size, hlen]; omega)
      refine hY _ _ _ _ _ ?_
      unfold g_parseBreak.bl2
      rw [hf]
      exact ⟨fun h => by simp at h, fun h => by simp at h, br_false rfl k2⟩
    · have hc := hst (hB hb)
      have hg : bt (bs (A ++ 10 :: B)) ((A.length + 1 : Nat) : Int) = ((B.getD 0 0).toNat : Int) := by
        rw [bs_bt, getD_app (by omega), show A.length + 1 - A.length = 0 + 1 by omega, List.getD_cons_succ]
      refine hY _ _ _ _ _ ?_
      unfold g_parseBreak.bl2
      rw [hg, hc.1, hc.2]
      exact ⟨fun h => ⟨by omega, by rw [bs_size, hlen]; omega⟩, fun h => ⟨by omega, by rw [bs_size, hlen]; omega⟩, br_false (by simp) k2⟩
  rcases Nat.eq_zero_or_pos A.length with ha | ha
  · have hf : decide (((A.length : Nat) : Int) > 0) = false := decide_eq_false (by omega)
    refine hX _ _ _ _ ?_
    unfold g_parseBreak.bl1
    rw [hf]
    exact ⟨fun h => by simp at h, fun h => by simp at h, br_false rfl k1⟩
  · have e1 : IntKind.i64.wrap ((A.length : Int) - 1) = ((A.length - 1 : Nat) : Int) := i64_dec (by omega) (by omega)
    have hc := hst (hA (A.length - 1) (by omega))
    have hg : bt (bs (A ++ 10 :: B)) ((A.length - 1 : Nat) : Int) = ((A.getD (A.length - 1) 0).toNat : Int) := by rw [bs_bt, getD_app' (by omega)]
    refine hX _ _ _ _ ?_
    unfold g_parseBreak.bl1
    rw [e1, hg, hc.1, hc.2]
    exact ⟨fun h => ⟨by omega, by rw [bs_size, hlen]; omega⟩, fun h => ⟨by omega, by rw [bs_size, hlen]; omega⟩, br_false (by simp) k1⟩
/-! ### The inlines of tokens -/
theorem tokIn_kinds : ∀ (ts : List Tok) (pend : List UInt8), ∀ t ∈ tokIn pend ts, (∃ s, s ≠ [] ∧ t = .plain s) ∨ (∃ s, t = .esc s) ∨ t = .soft
  | [], pend, t, h => by
    simp only [tokIn] at h
    split at h
    · simp at h
    · rename_i hp; simp at h; exact .inl ⟨pend, hp, h⟩
  | .lit c :: r, pend, t, h => tokIn_kinds r _ t h
  | .esc c :: r, pend, t, h => by
    simp only [tokIn, List.mem_append, List.mem_cons] at h
    rcases h with h | rfl | h
    · split at h
      · simp at h
      · rename_i hp; simp at h; exact .inl ⟨pend, hp, h⟩
    · exact .inr (.inl ⟨_, rfl⟩)
    · exact tokIn_kinds r _ t h
  | .nl :: r, pend, t, h => by
    simp only [tokIn, List.mem_append, List.mem_cons] at h
    rcases h with h | rfl | h
    · split at h
      · simp at h
      · rename_i hp; simp at h; exact .inl ⟨pend, hp, h⟩
    · exact .inr (.inr rfl)
    · exact tokIn_kinds r _ t h
theorem tokIn_merge : ∀ (ts : List Tok) (pend : List UInt8), mergeM (tokIn pend ts) = tokIn pend ts
  | [], pend => by
    by_cases hp : pend = []
    · simp [tokIn, hp, mergeM, mergeGo, flushP]
    · simp [tokIn, hp, mergeM, mergeGo, flushP, Inl.plain?]
  | .lit c :: r, pend => tokIn_merge r _
  | .esc c :: r, pend => by
    have ih := tokIn_merge r []
    unfold mergeM at ih ⊢
    by_cases hp : pend = []
    · simp [tokIn, hp, mergeGo, flushP, Inl.plain?, ih]
    · simp [tokIn, hp, mergeGo, flushP, Inl.plain?, ih]
  | .nl :: r, pend => by
    have ih := tokIn_merge r []
    unfold mergeM at ih ⊢
    by_cases hp : pend = []
    · simp [tokIn, hp, mergeGo, flushP, Inl.plain?, ih]
    · simp [tokIn, hp, mergeGo, flushP, Inl.plain?, ih]
theorem outL_append : ∀ (a b : List Inl), outL (a ++ b) = outL a ++ outL b
  | [], b => rfl
  | t :: a, b => by simp only [List.cons_append, outL, outL_append a b, List.append_assoc]
theorem tokIn_out : ∀ (ts : List Tok) (pend : List UInt8), outL (tokIn pend ts) = escS htmlPs pend ++ tokO ts
  | [], pend => by
    by_cases hp : pend = []
    · simp [tokIn, hp, outL, escS, tokO]
    · simp [tokIn, hp, outL, outI, tokO]
  | .lit c :: r, pend => by
    rw [tokIn, tokIn_out r, escS_append, tokO_cons]
    simp [escS, Tok.out]
  | .esc c :: r, pend => by
    rw [tokIn, outL_append, tokO_cons]
    by_cases hp : pend = []
    · simp [hp, outL, outI, tokIn_out r [], escS, Tok.out]
    · simp [hp, outL, outI, tokIn_out r [], escS, Tok.out]
  | .nl :: r, pend => by
    rw [tokIn, outL_append, tokO_cons]
    by_cases hp : pend = []
    · simp [hp, outL, outI, tokIn_out r [], escS, Tok.out, softT]
    · simp [hp, outL, outI, tokIn_out r [], escS, Tok.out, softT]
theorem okL_append : ∀ {a b : List Inl}, okL a → okL b → okL (a ++ b)
  | [], b, _, h => h
  | t :: a, b, h1, h2 => ⟨h1.1, okL_append h1.2 h2⟩
theorem tokIn_ok : ∀ (ts : List Tok) (pend : List UInt8), pend.length + ts.length < 1000000 → okL (tokIn pend ts)
  | [], pend, h => by
    simp only [tokIn]
    split
    · trivial
    · exact ⟨by show pend.length < _; simp at h; omega, trivial⟩
  | .lit c :: r, pend, h => tokIn_ok r _ (by simp at h ⊢; omega)
  | .esc c :: r, pend, h => by
    simp only [tokIn]
    refine okL_append ?_ ⟨by show ([c] : List UInt8).length < _; simp, tokIn_ok r [] (by simp at h ⊢; omega)⟩
    split
    · trivial
    · exact ⟨by show pend.length < _; simp at h; omega, trivial⟩
  | .nl :: r, pend, h => by
    simp only [tokIn]
    refine okL_append ?_ ⟨trivial, tokIn_ok r [] (by simp at h ⊢; omega)⟩
    split
    · trivial
    · exact ⟨by show pend.length < _; simp at h; omega, trivial⟩
theorem plen_append : ∀ (a b : List Inl), plen (a ++ b) = plen a + plen b
  | [], b => by simp [plen]
  | t :: a, b => by simp only [List.cons_append, plen, plen_append a b]; omega
theorem tokIn_plen : ∀ (ts : List Tok) (pend : List UInt8), plen (tokIn pend ts) ≤ pend.length + ts.length
  | [], pend => by
    simp only [tokIn]
    split <;> simp [plen, Inl.plain?]
  | .lit c :: r, pend => by
    have := tokIn_plen r (pend ++ [c])
    simp only [tokIn, List.length_append, List.length_cons, List.length_nil] at this ⊢; omega
  | .esc c :: r, pend => by
    have := tokIn_plen r []
    simp only [tokIn, plen_append, plen, List.length_nil, List.length_cons] at this ⊢
    split <;> simp [plen, Inl.plain?] <;> omega
  | .nl :: r, pend => by
    have := tokIn_plen r []
    simp only [tokIn, plen_append, plen, List.length_nil, List.length_cons] at this ⊢
    split <;> simp [plen, Inl.plain?] <;> omega
theorem sub_snoc {A B : List UInt8} {e : Nat} (x : List UInt8) (he : e ≤ A.length) : sub (A ++ (x ++ B)) e (A.length + x.length) = sub (A ++ (x ++ B)) e A.length ++ x := by
  unfold sub
  have h1 : (A ++ (x ++ B)).take (A.length + x.length) = A ++ x := by rw [← List.append_assoc, show A.length + x.length = (A ++ x).length by simp, List.take_left]
  have h2 : (A ++ (x ++ B)).take A.length = A := List.take_left
  rw [h1, h2, List.drop_append_of_le_length he]
theorem toks_inline {o : Opt} {toks : List Tok} (hoff : o.auto = false) (hok : ∀ t ∈ toks, t.ok o) (hnl : nlOK toks) (hlen : (tokB toks).length < 1000000) (htr : trimLR isST (tokB toks) = tokB toks) (hne : toks ≠ []) :
    InlineOK o (tokB toks) (ab (tokO toks)) := by
  intro σ R b pb p L w h hpz ho hlk hR
  have htl := tokB_length toks
  refine inl_begin h (by omega) fun w h => ?_
  rw [htr] at h ⊢
  generalize hr : tokB toks = raw at h hlen htl ⊢
  intro X hX
  have hXL : LoopX R X b raw := fun _ _ _ _ _ h => hX _ _ _ _ _ _ _ _ _ h
  generalize hp0 : ({ p with s := raw, em := 0, lq := none, ln := 0, lc := 0 } : PS) = p0 at h
  have hpz0 : p0.pz = some ⟨pb, 0, none⟩ := by rw [← hp0]; exact hpz
  have hcs : p0.coreS = p.coreS := by rw [← hp0]; rfl
  suffices hat : AtI X σ b p0 raw L 0 0 [] from hat w p0 none 0 0 rfl (by rw [← hp0]) (by rw [← hp0]; rfl) h
  have hem : ∀ (e i : Nat) (ts : List Inl), e ≤ i → i ≤ raw.length → emitM raw e i ts = ts ++ (if sub raw e i = [] then [] else [.plain (sub raw e i)]) := by
    intro e i ts h1 h2
    have hsl := sub_length (s := raw) (i := e) (j := i) h2
    unfold emitM
    by_cases hei : e < i
    · rw [if_pos hei, if_neg (by intro h0; rw [h0] at hsl; simp at hsl; omega)]
    · rw [if_neg hei, if_pos (List.eq_nil_of_length_eq_zero (by omega)), List.append_nil]
  have key : ∀ (suf pre : List Tok) (e : Nat) (ts : List Inl), pre ++ suf = toks → e ≤ (tokB pre).length → ts.length ≤ pre.length * 2 → (∀ t, pre.getLast? = some t → ∀ s, suf.head? = some s → nlOK [t, s]) →
      ts ++ tokIn (sub raw e (tokB pre).length) suf = tokIn [] toks → AtI X σ b p0 raw L (tokB pre).length e ts := by
    intro suf
    induction suf with
    | nil =>
      intro pre e ts hpre he htsl _ hT
      rw [List.append_nil] at hpre
      subst hpre
      rw [hr] at he hT ⊢
      refine AtI.fin (ts' := tokIn [] pre) hXL (by omega) hpz0 ho hoff (by omega) ?_ ?_ ?_ ?_
      · rw [hem e raw.length ts he (Nat.le_refl _)]
        have : ts ++ (if sub raw e raw.length = [] then [] else [.plain (sub raw e raw.length)]) = tokIn [] pre := by rw [← hT]; rfl
        rw [this]
        refine emphOK_none fun t ht => ?_
        rcases tokIn_kinds _ _ t ht with ⟨s, _, rfl⟩ | ⟨s, rfl⟩ | rfl <;> exact ⟨by simp only [Inl.ty]; decide, by simp only [Inl.ty]; decide⟩
      · intro t ht s hs
        rcases tokIn_kinds _ _ t ht with ⟨s', hs', rfl⟩ | ⟨s', rfl⟩ | rfl
        · simp [Inl.plain?] at hs; subst hs; exact hs'
        · simp [Inl.plain?] at hs
        · simp [Inl.plain?] at hs
      · have := tokIn_plen pre []; simp at this; omega
      · intro w p' q n' c vs RM EM hp' hS hn' hI h
        rw [tokIn_merge] at hI
        have hP := inls_print _ _ _ hI (tokIn_ok pre [] (by simp; omega))
        have eo : outL (tokIn [] pre) = tokO pre := by rw [tokIn_out]; simp [escS]
        rw [eo] at hP
        exact hR w p' q n' c vs RM EM EM (hp'.trans hcs) hS hn' hP h
    | cons t suf ih =>
      intro pre e ts hpre he htsl hadj hT
      have hraw : raw = tokB pre ++ (t.bytes ++ tokB suf) := by rw [← hr, ← hpre, tokB_append, tokB_cons]
      have hl : raw.length = (tokB pre).length + (t.bytes.length + (tokB suf).length) := by rw [hraw]; simp
      have htm : t ∈ toks := by rw [← hpre]; simp
      have hokt := hok t htm
      have hpl : (tokB (pre ++ [t])).length = (tokB pre).length + t.bytes.length := by rw [tokB_append, tokB_cons]; simp [tokB]
      have hprel : pre.length + suf.length + 1 = toks.length := by rw [← hpre]; simp; omega
      have hnl2 : nlOK (t :: suf) := by
        have : ∀ (a b : List Tok), nlOK (a ++ b) → nlOK b := by
          intro a
          induction a with
          | nil => exact fun b h => h
          | cons x a iha => exact fun b h => iha b h.2.2
        exact this pre _ (by rw [hpre]; exact hnl)
      have hadj2 : ∀ t', (pre ++ [t]).getLast? = some t' → ∀ s, suf.head? = some s → nlOK [t', s] := by
        intro t' ht' s hs
        rw [List.getLast?_append] at ht'
        simp at ht'
        subst ht'
        cases suf with
        | nil => simp at hs
        | cons s' suf =>
          simp at hs; subst hs
          refine ⟨?_, ?_, ?_⟩
          · have := hnl2.1
            cases s' <;> cases t <;> first | trivial | exact this
          · have := hnl2.2.1
            cases s' <;> cases t <;> first | trivial | exact this
          · exact ⟨trivial, by cases s' <;> trivial, trivial⟩
      cases t with
      | lit c =>
        have hi : (tokB pre).length < raw.length := by rw [hl]; simp [Tok.bytes]; omega
        have hget : raw[(tokB pre).length] = c := by
          have := getD_mid (tokB pre) (tokB suf) c 0
          rw [show tokB pre ++ c :: tokB suf = raw by rw [hraw]; rfl] at this
          rw [getElem_getD hi 0]; exact this
        refine AtI.plain hXL hi (by omega) hpz0 ho (by rw [hget]; exact hokt.1) (by rw [hget]; exact hokt.2) ?_
        have := ih (pre ++ [.lit c]) e ts (by rw [← hpre]; simp) (by rw [hpl]; omega) (by simp; omega) hadj2 ?_
        · rw [hpl] at this; exact this
        · rw [hpl]
          have hs := sub_snoc (A := tokB pre) (B := tokB suf) (e := e) (Tok.lit c).bytes he
          rw [← hraw] at hs
          rw [hs]; exact hT
      | esc c =>
        have hi : (tokB pre).length < raw.length := by rw [hl]; simp [Tok.bytes]; omega
        have hraw' : raw = tokB pre ++ 92 :: c :: tokB suf := by rw [hraw]; rfl
        have hget : raw[(tokB pre).length] = 92 := by
          have := getD_mid (tokB pre) (c :: tokB suf) 92 0
          rw [← hraw'] at this
          rw [getElem_getD hi 0]; exact this
        refine AtI.leaf (Q := fun p p' => p' = p) (st := (tokB pre).length) (en := (tokB pre).length + 2) (t := .esc [c]) hXL hi (by omega) hpz0 ho (f := i_parseEscape) (by rw [hget]; rfl) (L0 := []) (by simp) (fun p _ _ => by rw [hraw']; exact escape_leaf hokt (by rw [← hraw']; omega)) rfl (by omega) (by omega) ?_
        have hlen2 : ∀ ts' : List Inl, ts'.length ≤ ts.length + 1 → ts'.length + 1 ≤ (pre.length + 1) * 2 := by intro ts' h'; omega
        have := ih (pre ++ [.esc c]) ((tokB pre).length + 2) (emitM raw e (tokB pre).length ts ++ [.esc [c]]) (by rw [← hpre]; simp) (by rw [hpl]; simp [Tok.bytes]) ?_ hadj2 ?_
        · rw [hpl] at this; exact this
        · have : (emitM raw e (tokB pre).length ts).length ≤ ts.length + 1 := by unfold emitM; split <;> simp
          simp only [List.length_append, List.length_singleton]; omega
        · rw [hpl, show (Tok.esc c).bytes.length = 2 from rfl, sub_self, hem e _ ts he (by omega)]
          rw [← hT]; simp [tokIn]
      | nl =>
        have hi : (tokB pre).length < raw.length := by rw [hl]; simp [Tok.bytes]; omega
        have hraw' : raw = tokB pre ++ 10 :: tokB suf := by rw [hraw]; rfl
        have hget : raw[(tokB pre).length] = 10 := by
          have := getD_mid (tokB pre) (tokB suf) 10 0
          rw [← hraw'] at this
          rw [getElem_getD hi 0]; exact this
        have hA : ∀ k, k + 1 = (tokB pre).length → isST ((tokB pre).getD k 0) = false := by
          intro k hk
          rcases List.eq_nil_or_concat pre with h0 | ⟨a, t', h0⟩
          · rw [h0] at hk; simp [tokB] at hk
          · rw [List.concat_eq_append] at h0
            have ha := (hadj t' (by rw [h0]; simp) .nl rfl).1
            rw [h0, tokB_append] at hk ⊢
            rw [List.length_append] at hk
            cases t' with
            | lit c =>
              have hk' : k = (tokB a).length := by simp [tokB, Tok.bytes] at hk ⊢; omega
              rw [hk', getD_app (Nat.le_refl _), Nat.sub_self]; exact ha
            | esc c =>
              have hk' : k = (tokB a).length + 1 := by simp [tokB, Tok.bytes] at hk ⊢; omega
              rw [hk', getD_app (by omega), show (tokB a).length + 1 - (tokB a).length = 1 by omega]; exact ha
            | nl =>
              have hk' : k = (tokB a).length := by simp [tokB, Tok.bytes] at hk ⊢; omega
              rw [hk', getD_app (Nat.le_refl _), Nat.sub_self]; decide
        have hB : 0 < (tokB suf).length → isST ((tokB suf).getD 0 0) = false := by
          intro _
          cases suf with
          | nil => decide
          | cons s suf =>
            cases s with
            | lit c => exact hnl2.2.1
            | esc c => rfl
            | nl => rfl
        refine AtI.leaf (Q := fun p p' => p' = p) (st := (tokB pre).length) (en := (tokB pre).length + 1) (t := .soft) hXL hi (by omega) hpz0 ho (f := i_parseBreak) (by rw [hget]; rfl) (L0 := []) (by simp) (fun p _ _ => by rw [hraw']; exact break_leaf hA hB (by rw [← hraw']; omega)) rfl (by omega) (by omega) ?_
        have := ih (pre ++ [.nl]) ((tokB pre).length + 1) (emitM raw e (tokB pre).length ts ++ [.soft]) (by rw [← hpre]; simp) (by rw [hpl]; simp [Tok.bytes]) ?_ hadj2 ?_
        · rw [hpl] at this; exact this
        · have : (emitM raw e (tokB pre).length ts).length ≤ ts.length + 1 := by unfold emitM; split <;> simp
          simp only [List.length_append, List.length_singleton]; omega
        · rw [hpl, show Tok.nl.bytes.length = 1 from rfl, sub_self, hem e _ ts he (by omega)]
          rw [← hT]; simp [tokIn]
  exact key toks [] 0 [] rfl (by simp) (by simp) (by simp) (by simp [tokB, sub_self])
end Go.Proofs.YtmicoampfglaiaaGreatDoor


/- Functions of the laws on lines: full, ascii, slashed, joined, times, zzFits2, plain. -/
set_option linter.unusedVariables false
namespace Go.Proofs.YtmicoampfglaiaaGreatDoor
open Go.Proofs Go.IntWalk Go.RowKit
variable {σ : Out} {w : World} {L L' : List Chunk} {R : Ending → World → Prop}
/-- A slice of texts that can be read. -/
def SArg (σ : Out) (L : List Chunk) (q : Option Addr) (n : Nat) (ls : List (List UInt8)) : Prop :=
  n = ls.length ∧ ∀ i (hi : i < ls.length), ∃ a, q = some a ∧ ∀ w, Sat σ w L → w.cell? (a.add i) = some (.string (bs ls[i]))
theorem SArg.ofSl {q : Option Addr} {n c : Nat} {ts : List (List UInt8)} {M : List Chunk} (hS : Sl 1 ty_string q n c (sv ts) M) (hM : ∀ c ∈ M, c ∈ L) : SArg σ L q n ts := by
  have hl := hS.1
  rw [sv_length, Nat.mul_one] at hl
  refine ⟨hl.symm, fun i hi => ?_⟩
  obtain ⟨b, sp, rfl, rfl⟩ := hS.rowAt (by omega)
  refine ⟨_, rfl, fun w h => ?_⟩
  rw [Addr.add_lit, Nat.zero_add]
  exact Sat.ld h (hM _ (.head _)) (by rw [List.getElem?_append_left (by rw [sv_length]; exact hi), sv_get hi])
theorem SArg.mono {q : Option Addr} {n : Nat} {ls : List (List UInt8)} (h : SArg σ L q n ls) (hL : ∀ w, Sat σ w L' → Sat σ w L) : SArg σ L' q n ls :=
  ⟨h.1, fun i hi => by obtain ⟨a, h1, h2⟩ := h.2 i hi; exact ⟨a, h1, fun w hw => h2 w (hL w hw)⟩⟩
theorem specPunct_ok {c : UInt8} (hR : R (.returned (.bool (punB c))) w) : callE P i_spec_IsPunct #[.int .u8 (c.toNat : Int)] R w := by
  refine g_spec_IsPunct.sound ?_
  unfold g_spec_IsPunct
  unfold punB at hR
  rw [← u8_cle c 33, ← u8_cge c 47, ← u8_cle c 58, ← u8_cge c 64, ← u8_cle c 91, ← u8_cge c 96, ← u8_cle c 123, ← u8_cge c 126] at hR
  exact hR
def fullM (s : List UInt8) : Bool := !s.isEmpty && s.getD 0 0 != 32 && s.getD (s.length - 1) 0 != 32
theorem full_ok {s : List UInt8} (hs : s.length < 4611686018427387904) (hR : R (.returned (.bool (fullM s))) w) : callE P i_laws_full #[.string (bs s)] R w := by
  refine g_laws_full.sound ?_
  unfold g_laws_full
  cases s with
  | nil =>
    have e : ((bs []).toList == (ByteArray.mk #[]).toList) = true := by rw [bs_toList, mk_toList]; rfl
    rw [e]
    exact ⟨fun h => by simp at h, fun h => by simp at h, hR⟩
  | cons c t =>
    have e : ((bs (c :: t)).toList == (ByteArray.mk #[]).toList) = false := by rw [bs_toList, mk_toList]; rfl
    have hl : (c :: t).length = t.length + 1 := rfl
    have e1 : IntKind.i64.wrap (((bs (c :: t)).size : Int) - 1) = ((t.length : Nat) : Int) := by rw [bs_size, hl]; simp (disch := omega) only [i64_in]; omega
    have g1 : (bt (bs (c :: t)) 0 != 32) = (c != 32) := by
      rw [show (0 : Int) = ((0 : Nat) : Int) from rfl, bs_bt, bne, bne, u8b _ 32 32 rfl]; rfl
    have g2 : (bt (bs (c :: t)) ((t.length : Nat) : Int) != 32) = ((c :: t).getD t.length 0 != 32) := by rw [bs_bt, bne, bne, u8b _ 32 32 rfl]
    rw [e, e1, g1, g2]
    exact ⟨fun _ => ⟨by omega, by rw [bs_size, hl]; omega⟩, fun _ => ⟨by omega, by rw [bs_size, hl]; omega⟩, hR⟩
def prnB (c : UInt8) : Bool := decide (32 ≤ c.toNat) && decide (c.toNat ≤ 126)
def asciiM (s : List UInt8) (nl : Bool) : Bool := s.all fun c => prnB c || (nl && c == 10)
theorem ascii_ok {s : List UInt8} {nl : Bool} (hs : s.length < 4611686018427387904) (hR : R (.returned (.bool (asciiM s nl))) w) : callE P i_laws_ascii #[.string (bs s), .bool nl] R w := by
  refine g_laws_ascii.sound ?_
  intro X hX
  have key : ∀ k i, i + k = s.length → asciiM s nl = asciiM (s.drop i) nl → X (bs s) nl (i : Int) w := by
    intro k
    induction k with
    | zero =>
      intro i hi ha
      refine hX _ _ _ _ (br_false (by simp; omega) ?_)
      rw [List.drop_eq_nil_of_le (by omega)] at ha
      rw [ha] at hR; exact hR
    | succ k ih =>
      intro i hi ha
      have hil : i < s.length := by omega
      have hcons : asciiM (s.drop i) nl = ((prnB s[i] || (nl && s[i] == 10)) && asciiM (s.drop (i + 1)) nl) := by
        rw [List.drop_eq_getElem_cons hil]; rfl
      have e10 : (bt (bs s) (i : Int) == 10) = (s[i] == 10) := bt_beq hil 10 10 rfl
      have e1 : (decide (bt (bs s) (i : Int) < 32) || decide (bt (bs s) (i : Int) > 126)) = !prnB s[i] := by
        rw [bt_at hil, Bool.eq_iff_iff]
        simp only [prnB, Bool.or_eq_true, decide_eq_true_eq, Bool.not_eq_true', Bool.and_eq_false_iff, decide_eq_false_iff_not]
        omega
      refine hX _ _ _ _ (br_true (by simp; omega) ?_)
      rw [e1, e10]
      refine ⟨by omega, by simp; omega, fun _ => ⟨by omega, by simp; omega⟩, fun _ => ⟨by omega, by simp; omega⟩, ?_⟩
      cases hc : (prnB s[i] || (nl && s[i] == 10)) with
      | true =>
        refine br_false (by cases h1 : prnB s[i] <;> rw [h1] at hc <;> simp_all) ?_
        rw [i64_inc (by omega)]
        refine ih (i + 1) (by omega) ?_
        rw [ha, hcons, hc, Bool.true_and]
      | false =>
        refine br_true ?_ ?_
        · simp only [Bool.or_eq_false_iff] at hc
          rw [hc.1, hc.2]; rfl
        rw [ha, hcons, hc, Bool.false_and] at hR; exact hR
  exact key s.length 0 (by omega) (by rw [List.drop_zero])
def slashK (s : List UInt8) : List Tok := s.map fun c => if punB c then .esc c else .lit c
def slashT (s : List UInt8) : List UInt8 := tokB (slashK s)
theorem slashT_append (a b : List UInt8) : slashT (a ++ b) = slashT a ++ slashT b := by simp [slashT, slashK, tokB_append]
theorem slashT_one (c : UInt8) : slashT [c] = if punB c then [92, c] else [c] := by
  unfold slashT slashK
  cases h : punB c <;> simp [h, tokB, Tok.bytes]
theorem slashT_len (s : List UInt8) : (slashT s).length ≤ 2 * s.length := by
  induction s with
  | nil => simp [slashT, slashK, tokB]
  | cons c s ih =>
    rw [show c :: s = [c] ++ s from rfl, slashT_append, slashT_one, List.length_append]
    split <;> simp <;> omega
theorem run_build0 (w : World) : (Instr.buildSlice ty_S_uint8 0 #[]).run P w = .ok (.slice (some ⟨w.heap.size, 0, none⟩) 0 0) (w.alloc (.cells #[] ty_uint8)) := by
  have hi := rowU8.hi
  simp [Instr.buildSlice, run_underlying rowU8.ht, sizeOf, typeInfo, hi, Instr.fill, newRow]
  have e : ∀ f : Nat → Value, (Array.range 0).map f = #[] := fun f => Array.eq_empty_of_size_eq_zero (by simp)
  rw [e]
theorem slashed_ok {s : List UInt8} (hs : s.length < 1000000000) (h : Sat σ w L) (hR : ∀ w, Sat σ w L → R (.returned (.string (bs (slashT s)))) w) : callE P i_laws_slashed #[.string (bs s)] R w := by
  refine g_laws_slashed.sound ?_
  refine ⟨_, _, _, _, run_build0 w, ?_⟩
  have ha := h.alc [] ty_uint8
  have e3 : YtmicoampfglaiaaGreatDoor.alc w ([] : List Value).toArray ty_uint8 = w.alloc (.cells #[] ty_uint8) := rfl
  rw [e3] at ha
  generalize w.alloc (.cells #[] ty_uint8) = w1 at ha ⊢
  generalize w.heap.size = g at ha ⊢
  intro X hX
  have key : ∀ k i q c M w, i + k = s.length → By q (slashT (s.take i)).length c (slashT (s.take i)) M → Sat σ w (M ++ L) → X (bs s) q (slashT (s.take i)).length c (i : Int) w := by
    intro k
    induction k with
    | zero =>
      intro i q c M w hi hB h
      refine hX _ _ _ _ _ _ (br_false (by simp; omega) ?_)
      rw [List.take_of_length_le (by omega)] at hB ⊢
      exact ⟨_, _, hB.str h, hR w h.right⟩
    | succ k ih =>
      intro i q c M w hi hB h
      have hil : i < s.length := by omega
      have hlen := slashT_len (s.take i)
      rw [List.length_take] at hlen
      have hst : slashT (s.take (i + 1)) = slashT (s.take i) ++ slashT [s[i]] := by rw [List.take_succ_eq_append_getElem hil, slashT_append]
      refine hX _ _ _ _ _ _ (br_true (by simp; omega) ⟨by omega, by simp; omega, ?_⟩)
      rw [bt_at hil]
      refine specPunct_ok ⟨_, rfl, ?_⟩
      have k1 : ∀ q n c M w (l : List UInt8), n = l.length → By q n c l M → Sat σ w (M ++ L) → l ++ [s[i]] = slashT (s.take (i + 1)) → g_laws_slashed.k1 R X (bs s) q n c (i : Int) w := by
        intro q n c M w l hn hB h hl
        refine ⟨by omega, by simp; omega, ?_⟩
        rw [bt_at hil]
        have hll : l.length ≤ 2 * s.length := by
          have h1 := slashT_len (s.take (i + 1))
          rw [← hl, List.length_append, List.length_take] at h1
          simp at h1; omega
        refine By.app1 hB h s[i] (by omega) fun q' c' w' M' hB' h' => ?_
        rw [i64_inc (by omega)]
        have e : n + 1 = (slashT (s.take (i + 1))).length := by rw [← hl]; simp; omega
        rw [hl, e] at hB'
        rw [e]
        exact ih (i + 1) q' c' M' w' (by omega) hB' h'
      cases hp : punB s[i] with
      | true =>
        refine br_true rfl ?_
        refine By.app1 hB h 92 (by omega) fun q' c' w' M' hB' h' => ?_
        refine k1 q' _ c' M' w' (slashT (s.take i) ++ [92]) (by simp) hB' h' ?_
        rw [hst, slashT_one, hp]; simp
      | false =>
        refine br_false rfl ?_
        refine k1 q _ c M w (slashT (s.take i)) rfl hB h ?_
        rw [hst, slashT_one, hp]; simp
  exact key s.length 0 (some ⟨g, 0, none⟩) 0 [(g, cel [] ty_uint8)] w1 (by omega) ⟨by simp [slashT, slashK, tokB, bc], by simp [slashT, slashK, tokB], .inr ⟨g, [], rfl, by simp [slashT, slashK, tokB, bc], by simp [slashT, slashK, tokB, bc]⟩⟩ ha
theorem times_ok {s : List UInt8} {n : Nat} (hn : n < 1000000) (hs : s.length < 1000000) (hR : R (.returned (.string (bs (List.replicate n s).flatten))) w) : callE P i_laws_times #[.string (bs s), .int .i64 n] R w := by
  refine g_laws_times.sound ?_
  have hmax : IntKind.i64.max = 9223372036854775807 := rfl
  intro X hX
  have hfl : ∀ k, (List.replicate k s).flatten.length = k * s.length := by intro k; simp
  have key : ∀ k i, i + k = n → X (bs s) (bs (List.replicate i s).flatten) (n : Nat) (i : Int) w := by
    intro k
    induction k with
    | zero =>
      intro i hi
      obtain rfl : i = n := hi
      exact hX _ _ _ _ _ (br_false (by simp) hR)
    | succ k ih =>
      intro i hi
      have hm : i * s.length ≤ 1000000 * 1000000 := Nat.mul_le_mul (by omega) (by omega)
      refine hX _ _ _ _ _ (br_true (by simp; omega) ⟨?_, ?_⟩)
      · rw [hmax, bs_size, bs_size, hfl]; omega
      · rw [bs_append, i64_inc (by omega)]
        have e : (List.replicate i s).flatten ++ s = (List.replicate (i + 1) s).flatten := by rw [List.replicate_succ']; simp
        rw [e]
        exact ih (i + 1) (by omega)
  exact key n 0 (by omega)
theorem joinL_snoc (sep : List UInt8) (ls : List (List UInt8)) (l : List UInt8) : joinL sep (ls ++ [l]) = if ls = [] then l else joinL sep ls ++ (sep ++ l) := by
  cases ls with
  | nil => simp [joinL]
  | cons t ts => simp [joinL]
theorem joined_ok {q : Option Addr} {n c : Nat} {ls : List (List UInt8)} {sep : List UInt8} (hA : SArg σ L q n ls) (h : Sat σ w L) (hn : n < 1000000) (hb : (joinL sep ls).length < 1000000000) (hs : sep.length < 1000000)
    (hR : ∀ w, Sat σ w L → R (.returned (.string (bs (joinL sep ls)))) w) : callE P i_laws_joined #[.slice q n c, .string (bs sep)] R w := by
  refine g_laws_joined.sound ?_
  have hmax : IntKind.i64.max = 9223372036854775807 := rfl
  have hnl := hA.1
  intro X hX
  have hle : ∀ i, i ≤ ls.length → (joinL sep (ls.take i)).length ≤ (joinL sep ls).length := by
    intro i hi
    cases ls with
    | nil => simp [joinL]
    | cons t ts =>
      cases i with
      | zero => simp [joinL]
      | succ i =>
        simp only [List.take_succ_cons, joinL, List.length_append]
        have : (List.take i ts).flatMap (fun u => sep ++ u) ++ (List.drop i ts).flatMap (fun u => sep ++ u) = ts.flatMap (fun u => sep ++ u) := by
          rw [← List.flatMap_append, List.take_append_drop]
        have := congrArg List.length this
        rw [List.length_append] at this; omega
  have key : ∀ k i, i + k = n → X (bs sep) (bs (joinL sep (ls.take i))) q n c (n : Nat) (i : Int) w := by
    intro k
    induction k with
    | zero =>
      intro i hi
      refine hX _ _ _ _ _ _ _ _ (br_false (by simp; omega) ?_)
      rw [List.take_of_length_le (by omega)]; exact hR w h
    | succ k ih =>
      intro i hi
      have hil : i < ls.length := by omega
      obtain ⟨a, rfl, ha⟩ := hA.2 i hil
      have hst : joinL sep (ls.take (i + 1)) = if i = 0 then ls[i] else joinL sep (ls.take i) ++ (sep ++ ls[i]) := by
        rw [List.take_succ_eq_append_getElem hil, joinL_snoc]
        by_cases h0 : i = 0
        · subst h0; simp
        · rw [if_neg (by intro h1; have := congrArg List.length h1; rw [List.length_take, List.length_nil] at this; omega), if_neg h0]
      have hl1 := hle (i + 1) (by omega)
      have next := ih (i + 1) (by omega)
      refine hX _ _ _ _ _ _ _ _ (br_true (by simp; omega) ⟨by omega, by omega, nilP_some ?_⟩)
      rw [Int.toNat_natCast, Nat.mul_one]
      refine ⟨_, ha w h, ?_⟩
      by_cases h0 : i = 0
      · subst h0
        rw [if_pos rfl] at hst
        rw [hst] at hl1 next
        refine br_false rfl ⟨?_, ?_⟩
        · rw [hmax, bs_size, bs_size]
          show ((([] : List UInt8).length + ls[0].length : Nat) : Int) ≤ _
          simp only [List.length_nil]; omega
        · rw [bs_append, i64_inc (by omega)]
          simpa [joinL] using next
      · rw [if_neg h0] at hst
        rw [hst] at hl1 next
        simp only [List.length_append] at hl1
        refine br_true (by simp; omega) ⟨?_, ?_⟩
        · rw [hmax, bs_size, bs_size]
          have h3 := hle i (by omega)
          omega
        · refine ⟨?_, ?_⟩
          · rw [hmax, bs_append, bs_size, bs_size, List.length_append]; omega
          · rw [bs_append, bs_append, i64_inc (by omega), List.append_assoc]
            exact next
  exact key n 0 (by omega)
theorem fits2_ok {q : Option Addr} {n c : Nat} {ls : List (List UInt8)} (hA : SArg σ L q n ls) (h : Sat σ w L) (hR : (∀ l ∈ ls, l.length ≤ 2147483647) → R (.returned (.bool true)) w) (hF : R (.returned (.bool false)) w) :
    callE P i_laws_zzFits2 #[.slice q n c] R w := by
  refine g_laws_zzFits2.sound ?_
  have hnl := hA.1
  refine br_split (fun _ => hF) (fun hsz => ?_)
  simp only [decide_eq_false_iff_not] at hsz
  intro X hX
  have key : ∀ k i, i + k = n → (∀ j (hj : j < ls.length), j < i → ls[j].length ≤ 2147483647) → X q n c (n : Nat) (i : Int) w := by
    intro k
    induction k with
    | zero =>
      intro i hi ha
      refine hX _ _ _ _ _ _ (br_false (by simp; omega) (hR fun l hl => ?_))
      obtain ⟨j, hj, rfl⟩ := List.mem_iff_getElem.1 hl
      exact ha j hj (by omega)
    | succ k ih =>
      intro i hi ha
      have hil : i < ls.length := by omega
      obtain ⟨a, rfl, hc⟩ := hA.2 i hil
      refine hX _ _ _ _ _ _ (br_true (by simp; omega) ⟨by omega, by omega, nilP_some ?_⟩)
      rw [Int.toNat_natCast, Nat.mul_one]
      refine ⟨_, hc w h, br_split (fun _ => hF) (fun hf => ?_)⟩
      rw [i64_inc (by omega)]
      refine ih (i + 1) (by omega) fun j hj hji => ?_
      rcases Nat.lt_or_ge j i with h1 | h1
      · exact ha j hj h1
      · obtain rfl : j = i := by omega
        simp at hf; omega
  exact key n 0 (by omega) (fun j hj h0 => by omega)
theorem plainOpt_ok (h : Sat σ w L) (hR : ∀ w, Sat σ w L → R (.returned (optV optOff)) w) : callE P i_laws_plain #[] R w := by
  refine g_laws_plain.sound ?_
  refine Sat.bx h fun b1 w h => ?_
  repeat (first | refine nilP_some ?_ | refine Sat.tk h fun w h => ?_ | refine ⟨_, Sat.ld h (by first | assumption | (repeat (first | exact .head _ | apply List.Mem.tail))) (by exact rfl), ?_⟩ | refine ⟨_, _, _, Sat.ld h (by first | assumption | (repeat (first | exact .head _ | apply List.Mem.tail))) (by exact rfl), ?_⟩ | refine Sat.st h (k := 0) rfl (Nat.le_of_ble_eq_true rfl) trivial (by first | (dsimp only [List.set]; exact rfl) | exact rfl) fun w h => ?_ | refine Sat.st h (k := 1) rfl (Nat.le_of_ble_eq_true rfl) trivial (by first | (dsimp only [List.set]; exact rfl) | exact rfl) fun w h => ?_ | refine Sat.st h (k := 2) rfl (Nat.le_of_ble_eq_true rfl) trivial (by first | (dsimp only [List.set]; exact rfl) | exact rfl) fun w h => ?_ | refine Sat.st h (k := 3) rfl (Nat.le_of_ble_eq_true rfl) trivial (by first | (dsimp only [List.set]; exact rfl) | exact rfl) fun w h => ?_ | refine Sat.st h (k := 4) rfl (Nat.le_of_ble_eq_true rfl) trivial (by first | (dsimp only [List.set]; exact rfl) | exact rfl) fun w h => ?_ | refine Sat.st h (k := 5) rfl (Nat.le_of_ble_eq_true rfl) trivial (by first | (dsimp only [List.set]; exact rfl) | exact rfl) fun w h => ?_ | refine Sat.st h (k := 6) rfl (Nat.le_of_ble_eq_true rfl) trivial (by first | (dsimp only [List.set]; exact rfl) | exact rfl) fun w h => ?_ | refine Sat.bx h fun b0 w h => ?_)
  exact hR _ h.tail
end Go.Proofs.YtmicoampfglaiaaGreatDoor


set_option linter.unusedVariables false
set_option maxRecDepth 20000
namespace Go.Proofs.YtmicoampfglaiaaGreatDoor
open Go.Proofs
/- 134 (*pub-paratext/pub/rscmarkdown.line).trimSetext -/
namespace g_line_trimSetext
noncomputable def body : Code := bodyOf Tryz.f134
def bl1 (R : EP) (Xa : OA → Nat → Int → WP) (x1 : OA) (x5 : Nat) (x6 : Int) (w : World) : Prop :=
 callE P i_line_trim #[.pointer (some ⟨x5, 0, none⟩), .int .u8 x6] (fun e w19 => ∃ (r18 : Bool), e = .returned (.bool r18) ∧
 br r18
 (Xa x1 x5 x6 w19)
 (callE P i_line_skipSpace #[.pointer (some ⟨x5, 0, none⟩)] (fun e w21 => e = .returned (.tuple #[]) ∧
 callE P i_line_eof #[.pointer (some ⟨x5, 0, none⟩)] (fun e w23 => ∃ (r22 : Bool), e = .returned (.bool r22) ∧
 br r22
 (br (x6 == 61)
 (nilP x1 fun a24 =>
 stV w23 (a24.add 0) (.int .i64 1) fun w25 =>
 R (.returned (.bool true)) w25)
 (nilP x1 fun a26 =>
 stV w23 (a26.add 0) (.int .i64 2) fun w27 =>
 R (.returned (.bool true)) w27))
 (R (.returned (.bool false)) w23)) w21) w19)) w
def l1 (R : EP) (x1 : OA) (x5 : Nat) (x6 : Int) (w : World) : Prop :=
  ∀ X : OA → Nat → Int → WP, (∀ x1 x5 x6 w, bl1 R X x1 x5 x6 w → X x1 x5 x6 w) → X x1 x5 x6 w

noncomputable def al1 (R : EP) (Xa : OA → Nat → Int → WP) : AC :=
  (.leaf (sel [1, 1, 1, 1, 0, 1, 0, 0, 0, 0] body))
def k1 (R : EP) (x1 : OA) (x5 : Nat) (x6 : Int) (x17 : Bool) (w : World) : Prop :=
 br x17
 (l1 R x1 x5 x6 w)
 (R (.returned (.bool false)) w)

end g_line_trimSetext
def g_line_trimSetext (R : EP) (x0 : OA) (x1 : OA) (w : World) : Prop :=
 nilP x0 fun a1 =>
 ∃ (v2 : Int), w.cell? (a1.add 0) = some (.int .i64 v2) ∧
 ∃ (v3 : Int), w.cell? (a1.add 1) = some (.int .i64 v3) ∧
 ∃ (v4 : Int), w.cell? (a1.add 2) = some (.int .i64 v4) ∧
 ∃ (v5 : BA), w.cell? (a1.add 3) = some (.string v5) ∧
 ∃ (v6 : Int), w.cell? (a1.add 4) = some (.int .u8 v6) ∧
 box w #[.int .i64 0, .int .i64 0, .int .i64 0, .string (ByteArray.mk #[]), .int .u8 0] ty_line fun b7 w8 =>
 stV w8 ⟨b7, 0, none⟩ (.int .i64 v2) fun w9 =>
 stV w9 ⟨b7, 1, none⟩ (.int .i64 v3) fun w10 =>
 stV w10 ⟨b7, 2, none⟩ (.int .i64 v4) fun w11 =>
 stV w11 ⟨b7, 3, none⟩ (.string v5) fun w12 =>
 stV w12 ⟨b7, 4, none⟩ (.int .u8 v6) fun w13 =>
 callE P i_line_trimSpace #[.pointer (some ⟨b7, 0, none⟩), .int .i64 0, .int .i64 3, .bool false] (fun e w15 => ∃ (r14 : Bool), e = .returned (.bool r14) ∧
 callE P i_line_peek #[.pointer (some ⟨b7, 0, none⟩)] (fun e w17 => ∃ (r16 : Int), e = .returned (.int .u8 r16) ∧
 g_line_trimSetext.k1 R x1 b7 r16 ((r16 == 45) || (r16 == 61)) w17) w15) w13

noncomputable def g_line_trimSetext.ac (R : EP) : AC :=
  (.seq (.leaf (sel [0] g_line_trimSetext.body)) (.seq (.leaf (sel [1, 0] g_line_trimSetext.body)) (.seq (.leaf (sel [1, 1, 0] g_line_trimSetext.body)) (.seq (.leaf (sel [1, 1, 1, 0] g_line_trimSetext.body)) (.seq (.seq (.leaf (sel [1, 1, 1, 1, 0, 0] g_line_trimSetext.body)) (.mark (leaf [(1, .s .ptr), (5, .s .loc), (6, .s (.int .u8)), (17, .s .bool)] (g_line_trimSetext.k1 R)) (.cond 17 (.seq (.block 0 (.loop (leaf [(1, .s .ptr), (5, .s .loc), (6, .s (.int .u8))] (g_line_trimSetext.l1 R)) (sel [1, 1, 1, 1, 0, 1, 0, 0, 0, 0] g_line_trimSetext.body))) (.leaf (sel [1, 1, 1, 1, 0, 1, 0, 1] g_line_trimSetext.body))) (.leaf (sel [1, 1, 1, 1, 0, 1, 1] g_line_trimSetext.body))))) (.leaf (sel [1, 1, 1, 1, 1] g_line_trimSetext.body)))))))
theorem g_line_trimSetext.good (R : EP) : Good P 28 (g_line_trimSetext.ac R) (QF P [.tmp 4] R) :=
  ⟨trivial, ⟨trivial, ⟨trivial, ⟨trivial, ⟨⟨trivial, ⟨⟨⟨(loopG (g_line_trimSetext.al1 R) (g_line_trimSetext.bl1 R) (fun _ => by kernel_rfl) (fun Xa => trivial) (fun Xa => by intro x1 x5 x6 ρ w; kernel_rfl) (fun X h _ _ _ _ g => g X h)), trivial⟩, trivial⟩, cutE (by intro x1 x5 x6 x17 ρ w; kernel_rfl)⟩⟩, trivial⟩⟩⟩⟩⟩
theorem g_line_trimSetext.eq (R : EP) (x0 : OA) (x1 : OA) (w : World) : g_line_trimSetext R x0 x1 w = vcA P 28 (g_line_trimSetext.ac R) (QF P [.tmp 4] R) (fr0 [.pointer x0, .pointer x1]) w := by kernel_rfl
theorem g_line_trimSetext.sound {R : EP} {x0 : OA} {x1 : OA} {w : World} (h : g_line_trimSetext R x0 x1 w) : callE P i_line_trimSetext #[.pointer x0, .pointer x1] R w :=
  callE_fin (c := g_line_trimSetext.body) Tryz.func134 Tryz.call134 (by kernel_rfl) (by kernel_rfl) (by kernel_rfl) (by kernel_rfl) (by kernel_rfl) (g_line_trimSetext.good R) (g_line_trimSetext.eq R x0 x1 w) h
/- 280 (*pub-paratext/pub/rscmarkdown.paraBuilder).extend -/
namespace g_paraBuilder_extend
noncomputable def body : Code := bodyOf Tryz.f280
end g_paraBuilder_extend
def g_paraBuilder_extend (R : EP) (x0 : OA) (x1 : OA) (x2_0 : Int) (x2_1 : Int) (x2_2 : Int) (x2_3 : BA) (x2_4 : Int) (w : World) : Prop :=
 box w #[.int .i64 x2_0, .int .i64 x2_1, .int .i64 x2_2, .string x2_3, .int .u8 x2_4] ty_line fun b1 w2 =>
 box w2 #[.int .i64 0, .int .i64 0, .int .i64 0, .string (ByteArray.mk #[]), .int .u8 0] ty_line fun b3 w4 =>
 ∃ (v5 : Int), w4.cell? ⟨b1, 0, none⟩ = some (.int .i64 v5) ∧
 ∃ (v6 : Int), w4.cell? ⟨b1, 1, none⟩ = some (.int .i64 v6) ∧
 ∃ (v7 : Int), w4.cell? ⟨b1, 2, none⟩ = some (.int .i64 v7) ∧
 ∃ (v8 : BA), w4.cell? ⟨b1, 3, none⟩ = some (.string v8) ∧
 ∃ (v9 : Int), w4.cell? ⟨b1, 4, none⟩ = some (.int .u8 v9) ∧
 stV w4 ⟨b3, 0, none⟩ (.int .i64 v5) fun w10 =>
 stV w10 ⟨b3, 1, none⟩ (.int .i64 v6) fun w11 =>
 stV w11 ⟨b3, 2, none⟩ (.int .i64 v7) fun w12 =>
 stV w12 ⟨b3, 3, none⟩ (.string v8) fun w13 =>
 stV w13 ⟨b3, 4, none⟩ (.int .u8 v9) fun w14 =>
 ∃ (v15 : Int), w14.cell? ⟨b3, 0, none⟩ = some (.int .i64 v15) ∧
 ∃ (v16 : Int), w14.cell? ⟨b3, 1, none⟩ = some (.int .i64 v16) ∧
 ∃ (v17 : Int), w14.cell? ⟨b3, 2, none⟩ = some (.int .i64 v17) ∧
 ∃ (v18 : BA), w14.cell? ⟨b3, 3, none⟩ = some (.string v18) ∧
 ∃ (v19 : Int), w14.cell? ⟨b3, 4, none⟩ = some (.int .u8 v19) ∧
 R (.returned (.tuple #[.agg #[.int .i64 v15, .int .i64 v16, .int .i64 v17, .string v18, .int .u8 v19], .bool false])) w14

noncomputable def g_paraBuilder_extend.ac (R : EP) : AC :=
  (.leaf (sel [] g_paraBuilder_extend.body))
theorem g_paraBuilder_extend.good (R : EP) : Good P 9 (g_paraBuilder_extend.ac R) (QF P [.cell 6 105, .tmp 7] R) :=
  trivial
theorem g_paraBuilder_extend.eq (R : EP) (x0 : OA) (x1 : OA) (x2_0 : Int) (x2_1 : Int) (x2_2 : Int) (x2_3 : BA) (x2_4 : Int) (w : World) : g_paraBuilder_extend R x0 x1 x2_0 x2_1 x2_2 x2_3 x2_4 w = vcA P 9 (g_paraBuilder_extend.ac R) (QF P [.cell 6 105, .tmp 7] R) (fr0 [.pointer x0, .pointer x1, .agg #[.int .i64 x2_0, .int .i64 x2_1, .int .i64 x2_2, .string x2_3, .int .u8 x2_4]]) w := by kernel_rfl
theorem g_paraBuilder_extend.sound {R : EP} {x0 : OA} {x1 : OA} {x2_0 : Int} {x2_1 : Int} {x2_2 : Int} {x2_3 : ByteArray} {x2_4 : Int} {w : World} (h : g_paraBuilder_extend R x0 x1 x2_0 x2_1 x2_2 x2_3 x2_4 w) : callE P i_paraBuilder_extend #[.pointer x0, .pointer x1, .agg #[.int .i64 x2_0, .int .i64 x2_1, .int .i64 x2_2, .string x2_3, .int .u8 x2_4]] R w :=
  callE_fin (c := g_paraBuilder_extend.body) Tryz.func280 Tryz.call280 (by kernel_rfl) (by kernel_rfl) (by kernel_rfl) (by kernel_rfl) (by kernel_rfl) (g_paraBuilder_extend.good R) (g_paraBuilder_extend.eq R x0 x1 x2_0 x2_1 x2_2 x2_3 x2_4 w) h
end Go.Proofs.YtmicoampfglaiaaGreatDoor

/- Documents of many lines: what was built so far, and the open leaf; a paragraph of any number of lines is built. -/
set_option linter.unusedVariables false
namespace Go.Proofs.YtmicoampfglaiaaGreatDoor
open Go.Proofs Go.IntWalk Go.RowKit
variable {σ : Out} {w : World} {L L' : List Chunk} {R : Ending → World → Prop}
/-- A text that waits for its inlines: its block, its lines, the text. -/
structure TX where
  t : Nat
  s : Nat
  e : Nat
  raw : List UInt8
def TX.chunk (x : TX) : Chunk := textC x.t x.s x.e none 0 0 x.raw
/-- A block that is done: its value, its memory but for its texts, its texts. -/
structure DB where
  v : Value
  own : List Chunk
  txs : List TX
def ownC (D : List DB) : List Chunk := D.flatMap DB.own
def txsC (D : List DB) : List TX := D.flatMap DB.txs
theorem ownC_snoc (D : List DB) (d : DB) : ownC (D ++ [d]) = ownC D ++ d.own := by simp [ownC]
theorem txsC_snoc (D : List DB) (d : DB) : txsC (D ++ [d]) = txsC D ++ d.txs := by simp [txsC]
def paraOB (qb s e : Nat) : OB := ⟨.iface ty_P_paraBuilder (.pointer (some ⟨qb, 0, none⟩)), none, 0, 0, s, e⟩
theorem lines_join {q : Option Addr} {n c : Nat} {ts : List (List UInt8)} {AM : List Chunk} (hS : Sl 1 ty_string q n c (ts.map fun t => .string (bs t)) AM) (h : Sat σ w (AM ++ L)) (hne : ts ≠ []) (hn : ts.length < 1048576)
    (h0 : joinL [10] ts ≠ []) (hb : (joinL [10] ts).length < 1073741824) (hR : ∀ w, Sat σ w (AM ++ L) → R (.returned (.string (bs (joinL [10] ts)))) w) : callE P i_strings_Join #[.slice q n c, .string (bs [10])] R w := by
  have hl := hS.1
  simp only [List.length_map, Nat.mul_one] at hl
  match ts, hne with
  | [t], _ =>
    obtain rfl : n = 1 := by simpa using hl.symm
    have e : joinL [10] [t] = t := by simp [joinL]
    rw [e] at hR
    exact join_one h hS hR
  | t :: u :: ts, _ =>
    exact join_ok (t := t) (ts := u :: ts) hS h (by simp) (by omega) (by decide) (List.length_pos_iff.2 h0) hb hR
/-- A paragraph without a definition is built. -/
theorem paraBuild_ok {b qb : Nat} {p : PS} {ob : List OB} {o : OB} {M TM PM : List Chunk} {ts : List Nat} {ls : List (List UInt8)} {s : List UInt8} (h : Sat σ w (p.at b :: M ++ (TM ++ (PM ++ L)))) (hs : Stk p (ob ++ [o]) M)
    (ht : Txts p ts TM) (hts : ts.length < 1048575) (hp : ParaAt qb ls PM) (hls : ls ≠ []) (hln : ls.length < 1048576) (hj : joinL [10] ls = s) (hl : s.length < 1073741824) (hne : s ≠ []) (hb : (s.dropWhile isSTN).head? ≠ some 91) (ho : o.s < 1000000000)
    (hR : ∀ w p' TM' t nb, p' = { p with tq := p'.tq, tn := ts.length + 1, tc := p'.tc } → Txts p' (ts ++ [t]) TM' →
      Sat σ w (p'.at b :: M ++ (TM' ++ (PM ++ (paraC nb o.s (o.s + ls.length - 1) t :: textC t o.s (o.s + ls.length - 1) none 0 0 s :: L)))) → R (.returned (.iface ty_P_Paragraph (.pointer (some ⟨nb, 0, none⟩)))) w) :
    callE P i_paraBuilder_build #[.pointer (some ⟨qb, 0, none⟩), .iface ty_P_parseState (.pointer (some ⟨b, 0, none⟩))] R w := by
  obtain ⟨q, c, SM, hS, rfl⟩ := hp
  have hll : 1 ≤ ls.length := List.length_pos_iff.2 hls
  refine g_paraBuilder_build.sound ?_
  have h : Sat σ w (p.at b :: M ++ (TM ++ (((qb, cel [.slice q ls.length c, .pointer none] ty_paraBuilder) :: SM) ++ L))) := h
  have h : Sat σ w ((qb, cel [.slice q ls.length c, .pointer none] ty_paraBuilder) :: (SM ++ (p.at b :: M ++ (TM ++ L)))) := h.re (by intro _; simp only [List.append_eq, cnt_append, cnt_cons, cnt_nil] <;> omega)
  repeat (first | refine nilP_some ?_ | refine Sat.tk h fun w h => ?_ | refine ⟨_, Sat.ld h (by first | assumption | (repeat (first | exact .head _ | apply List.Mem.tail))) (by exact rfl), ?_⟩ | refine ⟨_, _, _, Sat.ld h (by first | assumption | (repeat (first | exact .head _ | apply List.Mem.tail))) (by exact rfl), ?_⟩)
  refine ⟨_, w, ne_ptr_nil und_table _ _ _ w, br_false rfl ?_⟩
  repeat (first | refine nilP_some ?_ | refine Sat.tk h fun w h => ?_ | refine ⟨_, Sat.ld h (by first | assumption | (repeat (first | exact .head _ | apply List.Mem.tail))) (by exact rfl), ?_⟩ | refine ⟨_, _, _, Sat.ld h (by first | assumption | (repeat (first | exact .head _ | apply List.Mem.tail))) (by exact rfl), ?_⟩)
  have h : Sat σ w (SM ++ ((qb, cel [.slice q ls.length c, .pointer none] ty_paraBuilder) :: (p.at b :: M ++ (TM ++ L)))) := h.re (by intro _; simp only [List.append_eq, cnt_append, cnt_cons, cnt_nil] <;> omega)
  refine lines_join hS h hls hln (by rw [hj]; exact hne) (by rw [hj]; exact hl) fun w h => ⟨_, rfl, ?_⟩
  rw [hj]
  intro X hX
  have hse : ((bs s).toList == (ByteArray.mk #[]).toList) = false := by rw [bs_toList, mk_toList]; simpa using hne
  refine hX _ _ _ _ (br_true (by rw [hse]; rfl) ?_)
  refine parseLinkRefDef_no (by omega) hb ⟨_, _, rfl, br_true rfl ?_⟩
  refine br_false hse ?_
  have h : Sat σ w (p.at b :: M ++ (TM ++ (SM ++ (qb, cel [.slice q ls.length c, .pointer none] ty_paraBuilder) :: L))) := h.re (by intro _; simp only [List.append_eq, cnt_append, cnt_cons, cnt_nil] <;> omega)
  refine enter_meth meth_pos ?_
  refine pos_ok h hs fun w h => ⟨_, _, rfl, ?_⟩
  refine Sat.bx h fun zb w h => ?_
  repeat (first | refine nilP_some ?_ | refine Sat.tk h fun w h => ?_ | refine ⟨_, Sat.ld h (by first | assumption | (repeat (first | exact .head _ | apply List.Mem.tail))) (by exact rfl), ?_⟩ | refine ⟨_, _, _, Sat.ld h (by first | assumption | (repeat (first | exact .head _ | apply List.Mem.tail))) (by exact rfl), ?_⟩ | refine Sat.st h (k := 0) rfl (Nat.le_of_ble_eq_true rfl) trivial (by first | (dsimp only [List.set]; exact rfl) | exact rfl) fun w h => ?_ | refine Sat.st h (k := 1) rfl (Nat.le_of_ble_eq_true rfl) trivial (by first | (dsimp only [List.set]; exact rfl) | exact rfl) fun w h => ?_ | refine Sat.st h (k := 2) rfl (Nat.le_of_ble_eq_true rfl) trivial (by first | (dsimp only [List.set]; exact rfl) | exact rfl) fun w h => ?_ | refine Sat.st h (k := 3) rfl (Nat.le_of_ble_eq_true rfl) trivial (by first | (dsimp only [List.set]; exact rfl) | exact rfl) fun w h => ?_ | refine Sat.st h (k := 4) rfl (Nat.le_of_ble_eq_true rfl) trivial (by first | (dsimp only [List.set]; exact rfl) | exact rfl) fun w h => ?_ | refine Sat.st h (k := 5) rfl (Nat.le_of_ble_eq_true rfl) trivial (by first | (dsimp only [List.set]; exact rfl) | exact rfl) fun w h => ?_ | refine Sat.st h (k := 6) rfl (Nat.le_of_ble_eq_true rfl) trivial (by first | (dsimp only [List.set]; exact rfl) | exact rfl) fun w h => ?_ | refine Sat.bx h fun b0 w h => ?_)
  have h : Sat σ _ ((zb, cel [.int .i64 o.s, .int .i64 o.e] ty_Position) :: (p.at b :: M ++ (TM ++ (SM ++ (qb, cel [.slice q ls.length c, .pointer none] ty_paraBuilder) :: L)))) := h
  have h : Sat σ _ ((zb, cel [.int .i64 o.s, .int .i64 o.e] ty_Position) :: (qb, cel [.slice q ls.length c, .pointer none] ty_paraBuilder) :: (p.at b :: M ++ (TM ++ (SM ++ L)))) := h.re (by intro _; simp only [List.append_eq, cnt_append, cnt_cons, cnt_nil] <;> omega)
  refine ⟨_, _, _, Sat.ld h (by first | assumption | (repeat (first | exact .head _ | apply List.Mem.tail))) (by exact rfl), ?_⟩
  refine Sat.st h (k := 0) rfl (Nat.le_of_ble_eq_true rfl) trivial (by first | (dsimp only [List.set]; exact rfl) | exact rfl) fun w h => ?_
  refine Sat.tk h fun w h => ?_
  refine ⟨_, Sat.ld h (by first | assumption | (repeat (first | exact .head _ | apply List.Mem.tail))) (by exact rfl), ?_⟩
  refine ⟨_, Sat.ld h (by first | assumption | (repeat (first | exact .head _ | apply List.Mem.tail))) (by exact rfl), ?_⟩
  refine ⟨_, Sat.ld h (by first | assumption | (repeat (first | exact .head _ | apply List.Mem.tail))) (by exact rfl), ?_⟩
  refine ⟨_, Sat.ld h (by first | assumption | (repeat (first | exact .head _ | apply List.Mem.tail))) (by exact rfl), ?_⟩
  have e1 : IntKind.i64.wrap (IntKind.i64.wrap ((o.s : Int) + ((ls.length : Nat) : Int)) - 1) = ((o.s + ls.length - 1 : Nat) : Int) := by
    rw [i64_in (_ + _) (by omega), i64_in _ (by omega)]; omega
  rw [e1] at h ⊢
  have h : Sat σ _ ((zb, cel [.int .i64 o.s, .int .i64 (o.s + ls.length - 1 : Nat)] ty_Position) :: (qb, cel [.slice q ls.length c, .pointer none] ty_paraBuilder) :: (p.at b :: M ++ (TM ++ (SM ++ L)))) := h
  have hz := h
  have h : Sat σ _ (p.at b :: TM ++ ((zb, cel [.int .i64 o.s, .int .i64 (o.s + ls.length - 1 : Nat)] ty_Position) :: (qb, cel [.slice q ls.length c, .pointer none] ty_paraBuilder) :: (M ++ (SM ++ L)))) := h.re (by intro _; simp only [List.append_eq, cnt_append, cnt_cons, cnt_nil] <;> omega)
  refine enter_meth meth_newText ?_
  refine newText_ok h ht hts fun w p' TM' t hp' ht' h => ⟨_, rfl, ?_⟩
  refine ⟨hz.same h (.head _) (by simp) 2, ?_⟩
  refine Sat.bx h fun nb w h => ?_
  have h : Sat σ w (paraC nb o.s (o.s + ls.length - 1) t :: (p'.at b :: TM' ++ (textC t o.s (o.s + ls.length - 1) none 0 0 s :: ((zb, cel [.int .i64 o.s, .int .i64 (o.s + ls.length - 1 : Nat)] ty_Position) :: (qb, cel [.slice q ls.length c, .pointer none] ty_paraBuilder) :: (M ++ (SM ++ L)))))) := h
  refine hR w p' TM' t nb hp' ht' ?_
  have h := Sat.less (L' := p'.at b :: M ++ (TM' ++ (((qb, cel [.slice q ls.length c, .pointer none] ty_paraBuilder) :: SM) ++ (paraC nb o.s (o.s + ls.length - 1) t :: textC t o.s (o.s + ls.length - 1) none 0 0 s :: L)))) [(zb, cel [.int .i64 o.s, .int .i64 (o.s + ls.length - 1 : Nat)] ty_Position)] h (by intro _; simp only [List.append_eq, cnt_append, cnt_cons, cnt_nil] <;> omega)
  exact h
/-- The open paragraph, on top of a block, is closed. -/
theorem closePara_ok {b qb : Nat} {p : PS} {ob : List OB} {par o : OB} {M TM PM IM : List Chunk} {inner : List Value} {ts : List Nat} {ls : List (List UInt8)} {s : List UInt8} (h : Sat σ w (p.at b :: M ++ (IM ++ (TM ++ (PM ++ L))))) (hs : Stk p (ob ++ [par] ++ [o]) M)
    (ho : o.bd = .iface ty_P_paraBuilder (.pointer (some ⟨qb, 0, none⟩))) (hI : Sl 1 ty_Block par.q par.n par.c inner IM) (hin : par.n < 1000000)
    (ht : Txts p ts TM) (hts : ts.length < 1048575) (hp : ParaAt qb ls PM) (hls : ls ≠ []) (hln : ls.length < 1048576) (hj : joinL [10] ls = s) (hl : s.length < 1073741824) (hne : s ≠ []) (hb : (s.dropWhile isSTN).head? ≠ some 91) (hos : o.s < 1000000000)
    (hR : ∀ w p' M' IM' TM' t nb q' c' x, p' = { p with stn := ob.length + 1, tq := p'.tq, tn := ts.length + 1, tc := p'.tc } → Stk p' (ob ++ [{ par with q := q', n := par.n + 1, c := c' }]) M' → Txts p' (ts ++ [t]) TM' →
      Sl 1 ty_Block q' (par.n + 1) c' (inner ++ [.iface ty_P_Paragraph (.pointer (some ⟨nb, 0, none⟩))]) IM' →
      Sat σ w (p'.at b :: M' ++ (IM' ++ (TM' ++ (paraC nb o.s (o.s + ls.length - 1) t :: textC t o.s (o.s + ls.length - 1) none 0 0 s :: L)))) → R (.returned x) w) :
    callE P i_parseState_closeBlock #[.pointer (some ⟨b, 0, none⟩)] R w := by
  refine closeBlock_ok (ob := ob) (par := par) (IM := IM) (inner := inner) (fun p1 L1 tb q => ∃ TM' t nb, p1 = { p with tq := p1.tq, tn := ts.length + 1, tc := p1.tc } ∧ Txts p1 (ts ++ [t]) TM' ∧
      L1 = TM' ++ (PM ++ (paraC nb o.s (o.s + ls.length - 1) t :: textC t o.s (o.s + ls.length - 1) none 0 0 s :: L)) ∧ tb = ty_P_Paragraph ∧ q = some ⟨nb, 0, none⟩) h hs ho hI hin ?_ ?_
  · intro R' w h hk
    rw [ho]
    have h : Sat σ w (p.at b :: M ++ (TM ++ (PM ++ (IM ++ L)))) := h.re (by intro _; simp only [List.append_eq, cnt_append, cnt_cons, cnt_nil] <;> omega)
    refine enter_meth meth_paraBuild ?_
    refine paraBuild_ok (ob := ob ++ [par]) (o := o) (ts := ts) h hs ht hts hp hls hln hj hl hne hb hos fun w p' TM' t nb hp' ht' h => ?_
    exact hk w p' _ ty_P_Paragraph _ (by rw [hp']) (by rw [hp']) (by rw [hp']) (by decide) ⟨TM', t, nb, hp', ht', rfl, rfl, rfl⟩ (h.re (by intro _; simp only [List.append_eq, cnt_append, cnt_cons, cnt_nil] <;> omega))
  · intro w p2 M2 IM2 p1 L1 tb q q' c' hpost hp2 hs2 hI2 h
    obtain ⟨TM', t, nb, hp1, ht1, rfl, rfl, rfl⟩ := hpost
    refine hR w p2 M2 IM2 TM' t nb q' c' _ ?_ hs2 (ht1.of (by rw [hp2]) (by rw [hp2]) (by rw [hp2])) hI2 (h.less PM (by intro _; simp only [List.append_eq, cnt_append, cnt_cons, cnt_nil] <;> omega))
    rw [hp2, hp1]
end Go.Proofs.YtmicoampfglaiaaGreatDoor

