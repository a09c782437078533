/- Part 3 of the proof of the law FnFenceTicks: for every input the law returns true, the inputs read as they did, and memory that was there is as it was; under the conditions of the given row alone. -/
import Derived.Deep.AppendSrc
import Derived.Great.BuildSlice
import Derived.Laws.Slices
import Derived.Test.YtihmcipajjakgaaGreatDoorA2
set_option linter.all false
set_option linter.unusedVariables false
namespace Go.Proofs.YtihmcipajjakgaaGreatDoor
open Go.IntWalk
variable {P : Program} {σ : Out} {w : World} {L L' : List Chunk} {R : Ending → World → Prop}

def Sl (sz : Nat) (e : TypeId) (q : Option Addr) (n c : Nat) (vs : List Value) (M : List Chunk) : Prop :=
  vs.length = n * sz ∧ n ≤ c ∧ ((q = none ∧ n = 0 ∧ c = 0 ∧ M = []) ∨ ∃ b sp, q = some ⟨b, 0, none⟩ ∧ M = [(b, cel (vs ++ sp) e)] ∧ (vs ++ sp).length = c * sz)
theorem Sl.nil (sz : Nat) (e : TypeId) : Sl sz e none 0 0 [] [] := ⟨by simp, Nat.le_refl _, .inl ⟨rfl, rfl, rfl, rfl⟩⟩

structure Row (P : Program) (t e : TypeId) (sz bytes : Nat) where
  i : TypeInfo
  z : Value
  ht : P.underlying t = some (.slice e)
  hi : P.info? e = some i
  hz : i.zero = some z
  hs : i.size = sz
  hb : i.bytes = bytes
  hc : z.cells.size = sz
  pos : 0 < sz

theorem setCells_sat {b : Nat} {cs : List Value} {e : TypeId} (h : Sat σ w ((b, cel cs e) :: L)) : ∀ (o : Nat) (vs : List Value), o + vs.length ≤ cs.length →
    Sat σ (w.setCells b o vs) ((b, cel (cs.take o ++ vs ++ cs.drop (o + vs.length)) e) :: L) := by
  intro o vs
  induction vs generalizing o w cs with
  | nil => intro _; simpa [World.setCells] using h
  | cons v vs ih =>
    intro hl
    simp only [List.length_cons] at hl
    have h1 := h.set (k := 0) (i := o) v rfl
    have h2 := ih (w := w.setCell ⟨b, o, none⟩ v) (cs := cs.set o v) h1 (o + 1) (by simp; omega)
    simp only [World.setCells]
    have e1 : (cs.set o v).take (o + 1) = cs.take o ++ [v] := by
      rw [List.take_set, List.take_succ_eq_append_getElem (by omega), List.set_append_right _ _ (by simp; omega)]
      simp
      rw [show o - min o cs.length = 0 by omega]
      rfl
    have e2 : (cs.set o v).drop (o + 1 + vs.length) = cs.drop (o + (vs.length + 1)) := by
      rw [List.drop_set_of_lt (by omega)]
      congr 1
      omega
    rw [e1, e2] at h2
    simpa using h2

theorem Addr.add_zero_lit (b j : Nat) : Addr.add ⟨b, 0, none⟩ j = ⟨b, j, none⟩ := by
  simp [Addr.add]
  omega
theorem firstCells_sl {sz : Nat} {e : TypeId} {q : Option Addr} {n c : Nat} {vs : List Value} {M : List Chunk} (hS : Sl sz e q n c vs M) (h : Sat σ w (M ++ L)) :
    (Builtin.firstCells sz n (.slice q n c)).run P w = .ok vs.toArray w := by
  obtain ⟨hl, hnc, h1 | ⟨b, sp, h1, h2, h3⟩⟩ := hS
  · obtain ⟨rfl, rfl, rfl, rfl⟩ := h1
    have : vs = [] := List.eq_nil_of_length_eq_zero (by simpa using hl)
    subst this
    exact run_firstCells_none w sz 0 0 0
  · subst h1; subst h2
    refine run_firstCells_some w sz n _ n c vs hl fun j u hu => ?_
    rw [show (Addr.add ⟨b, 0, none⟩ j) = ⟨b, j, none⟩ from Addr.add_zero_lit b j]
    refine h.ld (List.mem_cons_self ..) ?_
    rw [List.getElem?_append_left (List.getElem?_eq_some_iff.1 hu).1]
    exact hu

theorem Sat.app {t tx ty e : TypeId} {sz bytes : Nat} (r : Row P t e sz bytes) {q : Option Addr} {n c : Nat} {vs : List Value} {M : List Chunk} (hS : Sl sz e q n c vs M)
    (h : Sat σ w (M ++ L)) {x : Value} {m : Nat} {news : List Value} (hs : Src P sz tx x m news w) (hm : 0 < m ∨ q ≠ none) (hb : (n + m) * bytes ≤ 140737488355328) (hn : n + m < 4611686018427387904) :
    ∃ q' c' w' M', (Builtin.append_ #[t, tx] ty #[.slice q n c, x]).run P w = .ok (.slice q' (n + m) c') w' ∧ Sl sz e q' (n + m) c' (vs ++ news) M' ∧ Sat σ w' (M' ++ L) ∧ q' ≠ none ∧ c ≤ c' := by
  have hfc := firstCells_sl (P := P) hS h.drew
  obtain ⟨hl, hnc, hS⟩ := hS
  obtain ⟨i, z, ht, hi, hz, hsi, hby, hzc, hpos⟩ := r
  subst hsi
  have hnl := hs.newsLen
  by_cases hroom : n + m ≤ c
  · rcases hS with ⟨rfl, rfl, rfl, rfl⟩ | ⟨b, sp, rfl, rfl, h3⟩
    · exact absurd hm (by simp; omega)
    · simp only [List.length_append] at h3
      have hle : (n + m) * i.size ≤ c * i.size := Nat.mul_le_mul_right _ hroom
      rw [Nat.add_mul] at hle
      have hlen : n * i.size + news.length ≤ (vs ++ sp).length := by rw [List.length_append, hnl]; omega
      refine ⟨_, _, _, [(b, cel (vs ++ news ++ sp.drop news.length) e)], run_append_room_src w t tx ty e i ht hi b 0 n c x m news hs hroom ?_ ?_, ⟨?_, hroom, .inr ⟨b, sp.drop news.length, rfl, rfl, ?_⟩⟩, ?_, by simp, Nat.le_refl _⟩
      · intro j hj
        rw [Nat.zero_add, h.ld (List.mem_cons_self ..) (List.getElem?_eq_getElem (by omega))]
        rfl
      · exact fun j hj => h.not_frozen (List.mem_cons_self ..)
      · rw [List.length_append, hl, hnl, Nat.add_mul]
      · rw [List.length_append, List.length_append, List.length_drop, hl, hnl]; omega
      · have := setCells_sat h (n * i.size) news hlen
        rw [Nat.zero_add]
        have e1 : (vs ++ sp).take (n * i.size) = vs := by rw [← hl, List.take_left]
        have e2 : (vs ++ sp).drop (n * i.size + news.length) = sp.drop news.length := by rw [← hl, ← List.drop_drop, List.drop_left]
        rw [e1, e2] at this
        exact this
  · have hg : c < n + m := by omega
    have hfit := growslice_fits (need := n + m) (old := c) (bytes := i.bytes) hg (by rw [hby]; exact hb)
    have hcap := grownCap_ge w (n + m) c e
    have hd : Sat σ w.drew L := h.drew.right
    refine ⟨_, _, _, [(w.heap.size, cel (vs ++ news ++ (Builtin.zeroCells z.cells (grownCap w (n + m) c e - (n + m))).toList) e)], run_append_grow_src w t tx ty e i z ht hi hz q n c vs hfc x m news hs hg (by omega) hfit,
      ⟨?_, hcap, .inr ⟨_, _, rfl, rfl, ?_⟩⟩, ?_, by simp, by omega⟩
    · rw [List.length_append, hl, hnl, Nat.add_mul]
    · rw [List.length_append, List.length_append, hl, hnl, Array.length_toList, size_zeroCells, hzc, ← Nat.add_mul, ← Nat.add_mul]
      congr 1
      omega
    · have := hd.alc (vs ++ news ++ (Builtin.zeroCells z.cells (grownCap w (n + m) c e - (n + m))).toList) e
      have e3 : YtihmcipajjakgaaGreatDoor.alc w.drew (vs ++ news ++ (Builtin.zeroCells z.cells (grownCap w (n + m) c e - (n + m))).toList).toArray e
          = w.drew.alloc (.cells ((vs ++ news).toArray ++ Builtin.zeroCells z.cells (grownCap w (n + m) c e - (n + m))) e) := by
        rw [show (vs ++ news ++ (Builtin.zeroCells z.cells (grownCap w (n + m) c e - (n + m))).toList).toArray = (vs ++ news).toArray ++ Builtin.zeroCells z.cells (grownCap w (n + m) c e - (n + m)) from by
          apply Array.ext'; simp [List.append_assoc]]
        rfl
      rw [e3] at this
      exact this

theorem Sat.app1 {t ty e : TypeId} {sz bytes : Nat} (r : Row P t e sz bytes) {q : Option Addr} {n c : Nat} {vs : List Value} {M : List Chunk} (hS : Sl sz e q n c vs M)
    (h : Sat σ w (M ++ L)) {v : Value} (hv : v.cells.size = sz) (h1 : ∀ u ∈ v.cells.toList, u.oneCell' = true)
    (hfill : Instr.fill (fun i => some (i * sz, sz)) ((Array.range (1 * sz)).map (r.z.cells[· % r.z.cells.size]!)) [(0, v)] = some v.cells)
    (hb : (n + 1) * bytes ≤ 140737488355328) (hn : n + 1 < 4611686018427387904) (hsz : sz ≤ 100) {K : Option Addr → Nat → Nat → World → Prop}
    (hK : ∀ q' c' w' M', Sl sz e q' (n + 1) c' (vs ++ v.cells.toList) M' → Sat σ w' (M' ++ L) → K q' (n + 1) c' w') :
    ∃ rq rn rc w1, (Instr.buildSlice t 1 #[(0, v)]).run P w = .ok (.slice rq rn rc) w1 ∧
      ∃ q' n' c' w2, (Builtin.append_ #[t, t] ty #[.slice q n c, .slice rq rn rc]).run P w1 = .ok (.slice q' n' c') w2 ∧ K q' n' c' w2 := by
  have hrun := run_buildSlice (P := P) w t e 1 #[(0, v)] v.cells r.i r.z r.ht r.hi r.hz (by rw [r.hs]; omega) (by rw [r.hs]; have := r.pos; omega) (by rw [r.hs]; exact hfill)
  refine ⟨_, _, _, _, hrun, ?_⟩
  have ha := h.alc v.cells.toList e
  have e3 : YtihmcipajjakgaaGreatDoor.alc w v.cells.toList.toArray e = w.alloc (.cells v.cells e) := by rw [Array.toArray_toList]; rfl
  rw [e3] at ha
  generalize hw1 : w.alloc (.cells v.cells e) = w1 at ha ⊢
  generalize w.heap.size = nb at ha ⊢
  have hs : Src P sz t (.slice (some ⟨nb, 0, none⟩) 1 1) 1 v.cells.toList w1 := by
    refine Src.ofSlice w1 r.ht _ 1 1 _ (by simp [hv]) (fun j u hu => ?_) h1
    rw [show (Addr.add ⟨nb, 0, none⟩ j) = ⟨nb, j, none⟩ from Addr.add_zero_lit nb j]
    exact ha.ld (List.mem_cons_self ..) hu
  have ha2 : Sat σ w1 (M ++ ((nb, cel v.cells.toList e) :: L)) := ha.perm List.perm_middle.symm
  obtain ⟨q', c', w', M', hr, hS', h', _⟩ := Sat.app r (ty := ty) hS ha2 hs (.inl (by omega)) hb hn
  refine ⟨q', n + 1, c', w', hr, hK q' c' w' M' hS' ?_⟩
  exact h'.sub (List.Sublist.append_left (List.sublist_cons_self ..) _)
theorem Sat.app1S {t ty e : TypeId} {sz bytes : Nat} (r : Row P t e sz bytes) {q : Option Addr} {n c : Nat} {vs : List Value} {M : List Chunk} (hS : Sl sz e q n c vs M)
    (h : Sat σ w (M ++ L)) {v : Value} (hv : v.cells.size = sz) (h1 : ∀ u ∈ v.cells.toList, u.oneCell' = true)
    (hfill : Instr.fill (fun i => some (i * sz, sz)) ((Array.range (1 * sz)).map (r.z.cells[· % r.z.cells.size]!)) [(0, v)] = some v.cells)
    (hb : (n + 1) * bytes ≤ 140737488355328) (hn : n + 1 < 4611686018427387904) (hsz : sz ≤ 100) {K : Option Addr → Nat → Nat → World → Prop} {C : World → Prop} (hC : ∀ w1 X, Sat σ w1 (X :: (M ++ L)) → C w1)
    (hK : ∀ q' c' w' M', Sl sz e q' (n + 1) c' (vs ++ v.cells.toList) M' → Sat σ w' (M' ++ L) → K q' (n + 1) c' w') :
    ∃ rq rn rc w1, (Instr.buildSlice t 1 #[(0, v)]).run P w = .ok (.slice rq rn rc) w1 ∧ C w1 ∧
      ∃ q' n' c' w2, (Builtin.append_ #[t, t] ty #[.slice q n c, .slice rq rn rc]).run P w1 = .ok (.slice q' n' c') w2 ∧ K q' n' c' w2 := by
  have hrun := run_buildSlice (P := P) w t e 1 #[(0, v)] v.cells r.i r.z r.ht r.hi r.hz (by rw [r.hs]; omega) (by rw [r.hs]; have := r.pos; omega) (by rw [r.hs]; exact hfill)
  refine ⟨_, _, _, _, hrun, ?_⟩
  have ha := h.alc v.cells.toList e
  have e3 : YtihmcipajjakgaaGreatDoor.alc w v.cells.toList.toArray e = w.alloc (.cells v.cells e) := by rw [Array.toArray_toList]; rfl
  rw [e3] at ha
  generalize hw1 : w.alloc (.cells v.cells e) = w1 at ha ⊢
  generalize w.heap.size = nb at ha ⊢
  have hs : Src P sz t (.slice (some ⟨nb, 0, none⟩) 1 1) 1 v.cells.toList w1 := by
    refine Src.ofSlice w1 r.ht _ 1 1 _ (by simp [hv]) (fun j u hu => ?_) h1
    rw [show (Addr.add ⟨nb, 0, none⟩ j) = ⟨nb, j, none⟩ from Addr.add_zero_lit nb j]
    exact ha.ld (List.mem_cons_self ..) hu
  have ha2 : Sat σ w1 (M ++ ((nb, cel v.cells.toList e) :: L)) := ha.perm List.perm_middle.symm
  obtain ⟨q', c', w', M', hr, hS', h', _⟩ := Sat.app r (ty := ty) hS ha2 hs (.inl (by omega)) hb hn
  refine ⟨hC _ _ ha, q', n + 1, c', w', hr, hK q' c' w' M' hS' ?_⟩
  exact h'.sub (List.Sublist.append_left (List.sublist_cons_self ..) _)
end Go.Proofs.YtihmcipajjakgaaGreatDoor


set_option linter.unusedVariables false
set_option maxRecDepth 20000
namespace Go.Proofs.YtihmcipajjakgaaGreatDoor
open Go.Proofs
namespace g_line_skipSpace
noncomputable def body : Code := bodyOf Tryz.f160
def k1 (R : EP) (Xa : OA → WP) (x0 : OA) (w : World) : Prop :=
 nilP x0 fun a16 =>
 ∃ (v17 : Int), w.cell? (a16.add 1) = some (.int .i64 v17) ∧
 nilP x0 fun a18 =>
 stV w ((a18.add 1).add 0) (.int .i64 (IntKind.i64.wrap (v17 + 1))) fun w19 =>
 Xa x0 w19

def bl1 (R : EP) (Xa : OA → WP) (x0 : OA) (w : World) : Prop :=
 tk w fun w3 =>
 nilP x0 fun a4 =>
 nilP x0 fun a5 =>
 ∃ (v6 : Int), w3.cell? (a4.add 1) = some (.int .i64 v6) ∧
 ∃ (v7 : BA), w3.cell? (a5.add 3) = some (.string v7) ∧
 br (decide (v6 < (v7.size : Int)))
 (nilP x0 fun a8 =>
 nilP x0 fun a9 =>
 ∃ (v10 : BA), w3.cell? (a8.add 3) = some (.string v10) ∧
 ∃ (v11 : Int), w3.cell? (a9.add 1) = some (.int .i64 v11) ∧
 0 ≤ v11 ∧ v11 < (v10.size : Int) ∧
 br ((bt v10 v11) == 32)
 (k1 R Xa x0 w3)
 (nilP x0 fun a12 =>
 nilP x0 fun a13 =>
 ∃ (v14 : BA), w3.cell? (a12.add 3) = some (.string v14) ∧
 ∃ (v15 : Int), w3.cell? (a13.add 1) = some (.int .i64 v15) ∧
 0 ≤ v15 ∧ v15 < (v14.size : Int) ∧
 br ((bt v14 v15) == 9)
 (k1 R Xa x0 w3)
 (R (.returned (.tuple #[])) w3)))
 (R (.returned (.tuple #[])) w3)
def l1 (R : EP) (x0 : OA) (w : World) : Prop :=
  ∀ X : OA → WP, (∀ x0 w, bl1 R X x0 w → X x0 w) → X x0 w

noncomputable def al1 (R : EP) (Xa : OA → WP) : AC :=
  (.seq (.seq (.draw (.pure 0 (.pure 1 (.pure 2 (.pure 4 (.pure 5 (.pure 6 (.load 3 (.load 7 (.pure 8 (.pure 9 (.pure 10 (.pure 11 (.pure 12 (.pure 13 (.pure 15 (.pure 16 (.pure 17 (.load 14 (.load 18 (.pure 19 (.pure 20 (.pure 21 (.pure 22 (.pure 23 (.pure 24 (.pure 26 (.pure 27 (.pure 28 (.load 25 (.load 29 (.pure 30 (.pure 31 (.pure 32 (.pure 33 .done)))))))))))))))))))))))))))))))))) (sel [1, 0, 0, 0, 0] body)) (.leaf (sel [1, 0, 0, 0, 1] body))) (.mark (leaf [(0, .s .ptr)] (k1 R Xa)) (.leaf (sel [1, 0, 0, 1] body))))
end g_line_skipSpace
def g_line_skipSpace (R : EP) (x0 : OA) (w : World) : Prop :=
 nilP x0 fun a1 =>
 stV w (a1.add 0) (.int .i64 0) fun w2 =>
 g_line_skipSpace.l1 R x0 w2

noncomputable def g_line_skipSpace.ac (R : EP) : AC :=
  (.seq (.leaf (sel [0] g_line_skipSpace.body)) (.block 0 (.loop (leaf [(0, .s .ptr)] (g_line_skipSpace.l1 R)) (sel [1, 0, 0] g_line_skipSpace.body))))
theorem g_line_skipSpace.good (R : EP) : Good P 46 (g_line_skipSpace.ac R) (QF P [] R) :=
  ⟨trivial, (loopG (g_line_skipSpace.al1 R) (g_line_skipSpace.bl1 R) (fun _ => by kernel_rfl) (fun Xa => ⟨⟨⟨by kernel_rfl, by kernel_rfl, fun _ _ _ h => h⟩, trivial⟩, ⟨trivial, cutE (by intro x0 ρ w; kernel_rfl)⟩⟩) (fun Xa => by intro x0 ρ w; kernel_rfl) (fun X h _ _ g => g X h))⟩
theorem g_line_skipSpace.eq (R : EP) (x0 : OA) (w : World) : g_line_skipSpace R x0 w = vcA P 46 (g_line_skipSpace.ac R) (QF P [] R) (fr0 [.pointer x0]) w := by kernel_rfl
theorem g_line_skipSpace.sound {R : EP} {x0 : OA} {w : World} (h : g_line_skipSpace R x0 w) : callE P i_line_skipSpace #[.pointer x0] R w :=
  callE_fin (c := g_line_skipSpace.body) Tryz.func160 Tryz.call160 (by kernel_rfl) (by kernel_rfl) (by kernel_rfl) (by kernel_rfl) (by kernel_rfl) (g_line_skipSpace.good R) (g_line_skipSpace.eq R x0 w) h
namespace g_line_string
noncomputable def body : Code := bodyOf Tryz.f104
end g_line_string
def g_line_string (R : EP) (x0 : OA) (w : World) : Prop :=
 nilP x0 fun a1 =>
 ∃ (v2 : Int), w.cell? a1 = some (.int .i64 v2) ∧
 br (v2 == 0)
 (tk w fun w3 =>
 nilP x0 fun a4 =>
 nilP x0 fun a5 =>
 ∃ (v6 : BA), w3.cell? (a4.add 3) = some (.string v6) ∧
 ∃ (v7 : Int), w3.cell? (a5.add 1) = some (.int .i64 v7) ∧
 0 ≤ v7 ∧ v7 ≤ (v6.size : Int) ∧
 R (.returned (.string (v6.extract (Int.toNat v7) v6.size))) w3)
 (br (v2 == 1)
 (tk w fun w8 =>
 nilP x0 fun a9 =>
 nilP x0 fun a10 =>
 ∃ (v11 : BA), w8.cell? (a9.add 3) = some (.string v11) ∧
 ∃ (v12 : Int), w8.cell? (a10.add 1) = some (.int .i64 v12) ∧
 0 ≤ v12 ∧ v12 ≤ (v11.size : Int) ∧
 (((ByteArray.mk #[32]).size + (v11.extract (Int.toNat v12) v11.size).size : Nat) : Int) ≤ IntKind.i64.max ∧
 R (.returned (.string ((ByteArray.mk #[32]) ++ (v11.extract (Int.toNat v12) v11.size)))) w8)
 (br (v2 == 2)
 (tk w fun w13 =>
 nilP x0 fun a14 =>
 nilP x0 fun a15 =>
 ∃ (v16 : BA), w13.cell? (a14.add 3) = some (.string v16) ∧
 ∃ (v17 : Int), w13.cell? (a15.add 1) = some (.int .i64 v17) ∧
 0 ≤ v17 ∧ v17 ≤ (v16.size : Int) ∧
 (((ByteArray.mk #[32, 32]).size + (v16.extract (Int.toNat v17) v16.size).size : Nat) : Int) ≤ IntKind.i64.max ∧
 R (.returned (.string ((ByteArray.mk #[32, 32]) ++ (v16.extract (Int.toNat v17) v16.size)))) w13)
 (br (v2 == 3)
 (tk w fun w18 =>
 nilP x0 fun a19 =>
 nilP x0 fun a20 =>
 ∃ (v21 : BA), w18.cell? (a19.add 3) = some (.string v21) ∧
 ∃ (v22 : Int), w18.cell? (a20.add 1) = some (.int .i64 v22) ∧
 0 ≤ v22 ∧ v22 ≤ (v21.size : Int) ∧
 (((ByteArray.mk #[32, 32, 32]).size + (v21.extract (Int.toNat v22) v21.size).size : Nat) : Int) ≤ IntKind.i64.max ∧
 R (.returned (.string ((ByteArray.mk #[32, 32, 32]) ++ (v21.extract (Int.toNat v22) v21.size)))) w18)
 (False))))

noncomputable def g_line_string.ac (R : EP) : AC :=
  (.seq (.leaf (sel [0] g_line_string.body)) (.seq (.seq (.leaf (sel [1, 0, 0] g_line_string.body)) (.block 0 (.seq (.leaf (sel [1, 0, 1, 0, 0] g_line_string.body)) (.cond 7 (.seq (.draw (.pure 0 (.pure 1 (.pure 2 (.pure 4 (.pure 5 (.pure 6 (.load 3 (.load 7 (.pure 8 (.pure 9 .done)))))))))) (sel [1, 0, 1, 0, 1, 0, 0] g_line_string.body)) (.leaf (sel [1, 0, 1, 0, 1, 0, 1] g_line_string.body))) (.seq (.leaf (sel [1, 0, 1, 0, 1, 1, 0] g_line_string.body)) (.cond 18 (.seq (.draw (.pure 0 (.pure 1 (.pure 2 (.pure 4 (.pure 5 (.pure 6 (.load 3 (.load 7 (.pure 8 (.pure 9 (.pure 10 .done))))))))))) (sel [1, 0, 1, 0, 1, 1, 1, 0, 0] g_line_string.body)) (.leaf (sel [1, 0, 1, 0, 1, 1, 1, 0, 1] g_line_string.body))) (.seq (.leaf (sel [1, 0, 1, 0, 1, 1, 1, 1, 0] g_line_string.body)) (.cond 30 (.seq (.draw (.pure 0 (.pure 1 (.pure 2 (.pure 4 (.pure 5 (.pure 6 (.load 3 (.load 7 (.pure 8 (.pure 9 (.pure 10 .done))))))))))) (sel [1, 0, 1, 0, 1, 1, 1, 1, 1, 0, 0] g_line_string.body)) (.leaf (sel [1, 0, 1, 0, 1, 1, 1, 1, 1, 0, 1] g_line_string.body))) (.seq (.leaf (sel [1, 0, 1, 0, 1, 1, 1, 1, 1, 1, 0] g_line_string.body)) (.cond 42 (.seq (.draw (.pure 0 (.pure 1 (.pure 2 (.pure 4 (.pure 5 (.pure 6 (.load 3 (.load 7 (.pure 8 (.pure 9 (.pure 10 .done))))))))))) (sel [1, 0, 1, 0, 1, 1, 1, 1, 1, 1, 1, 0, 0] g_line_string.body)) (.leaf (sel [1, 0, 1, 0, 1, 1, 1, 1, 1, 1, 1, 0, 1] g_line_string.body))) (.leaf (sel [1, 0, 1, 0, 1, 1, 1, 1, 1, 1, 1, 1] g_line_string.body)))))))))))) (.leaf (sel [1, 1] g_line_string.body))))
theorem g_line_string.good (R : EP) : Good P 55 (g_line_string.ac R) (QF P [.tmp 2] R) :=
  ⟨trivial, ⟨⟨trivial, ⟨trivial, ⟨⟨⟨by kernel_rfl, by kernel_rfl, fun _ _ _ h => h⟩, trivial⟩, ⟨trivial, ⟨⟨⟨by kernel_rfl, by kernel_rfl, fun _ _ _ h => h⟩, trivial⟩, ⟨trivial, ⟨⟨⟨by kernel_rfl, by kernel_rfl, fun _ _ _ h => h⟩, trivial⟩, ⟨trivial, ⟨⟨⟨by kernel_rfl, by kernel_rfl, fun _ _ _ h => h⟩, trivial⟩, trivial⟩⟩⟩⟩⟩⟩⟩⟩⟩, trivial⟩⟩
theorem g_line_string.eq (R : EP) (x0 : OA) (w : World) : g_line_string R x0 w = vcA P 55 (g_line_string.ac R) (QF P [.tmp 2] R) (fr0 [.pointer x0]) w := by kernel_rfl
theorem g_line_string.sound {R : EP} {x0 : OA} {w : World} (h : g_line_string R x0 w) : callE P i_line_string #[.pointer x0] R w :=
  callE_fin (c := g_line_string.body) Tryz.func104 Tryz.call104 (by kernel_rfl) (by kernel_rfl) (by kernel_rfl) (by kernel_rfl) (by kernel_rfl) (g_line_string.good R) (g_line_string.eq R x0 w) h
namespace g_line_trim
noncomputable def body : Code := bodyOf Tryz.f157
def k1 (R : EP) (x0 : OA) (x41 : Bool) (w : World) : Prop :=
 br x41
 (nilP x0 fun a16 =>
 ∃ (v17 : Int), w.cell? (a16.add 1) = some (.int .i64 v17) ∧
 nilP x0 fun a18 =>
 stV w ((a18.add 1).add 0) (.int .i64 (IntKind.i64.wrap (v17 + 1))) fun w19 =>
 R (.returned (.bool true)) w19)
 (R (.returned (.bool false)) w)

end g_line_trim
def g_line_trim (R : EP) (x0 : OA) (x1 : Int) (w : World) : Prop :=
 nilP x0 fun a1 =>
 ∃ (v2 : Int), w.cell? a1 = some (.int .i64 v2) ∧
 br (decide (v2 > 0))
 (br (x1 == 32)
 (nilP x0 fun a3 =>
 ∃ (v4 : Int), w.cell? a3 = some (.int .i64 v4) ∧
 nilP x0 fun a5 =>
 stV w (a5.add 0) (.int .i64 (IntKind.i64.wrap (v4 - 1))) fun w6 =>
 R (.returned (.bool true)) w6)
 (R (.returned (.bool false)) w))
 (tk w fun w7 =>
 nilP x0 fun a8 =>
 nilP x0 fun a9 =>
 ∃ (v10 : Int), w7.cell? (a8.add 1) = some (.int .i64 v10) ∧
 ∃ (v11 : BA), w7.cell? (a9.add 3) = some (.string v11) ∧
 br (decide (v10 < (v11.size : Int)))
 (nilP x0 fun a12 =>
 nilP x0 fun a13 =>
 ∃ (v14 : BA), w7.cell? (a12.add 3) = some (.string v14) ∧
 ∃ (v15 : Int), w7.cell? (a13.add 1) = some (.int .i64 v15) ∧
 0 ≤ v15 ∧ v15 < (v14.size : Int) ∧
 g_line_trim.k1 R x0 ((bt v14 v15) == x1) w7)
 (g_line_trim.k1 R x0 false w7))

noncomputable def g_line_trim.ac (R : EP) : AC :=
  (.seq (.leaf (sel [0] g_line_trim.body)) (.seq (.leaf (sel [1, 0] g_line_trim.body)) (.seq (.seq (.draw (.pure 0 (.pure 1 (.pure 2 (.pure 4 (.pure 5 (.pure 6 (.load 3 (.load 7 (.pure 8 (.pure 9 (.pure 10 (.pure 11 (.pure 12 (.pure 13 (.pure 15 (.pure 16 (.pure 17 (.pure 20 (.load 14 (.load 18 (.pure 19 (.pure 21 (.pure 22 .done))))))))))))))))))))))) (sel [1, 1, 0, 0] g_line_trim.body)) (.mark (leaf [(0, .s .ptr), (41, .s .bool)] (g_line_trim.k1 R)) (.leaf (sel [1, 1, 0, 1] g_line_trim.body)))) (.leaf (sel [1, 1, 1] g_line_trim.body)))))
theorem g_line_trim.good (R : EP) : Good P 49 (g_line_trim.ac R) (QF P [.tmp 4] R) :=
  ⟨trivial, ⟨trivial, ⟨⟨⟨by kernel_rfl, by kernel_rfl, fun _ _ _ h => h⟩, ⟨trivial, cutE (by intro x0 x41 ρ w; kernel_rfl)⟩⟩, trivial⟩⟩⟩
theorem g_line_trim.eq (R : EP) (x0 : OA) (x1 : Int) (w : World) : g_line_trim R x0 x1 w = vcA P 49 (g_line_trim.ac R) (QF P [.tmp 4] R) (fr0 [.pointer x0, .int .u8 x1]) w := by kernel_rfl
theorem g_line_trim.sound {R : EP} {x0 : OA} {x1 : Int} {w : World} (h : g_line_trim R x0 x1 w) : callE P i_line_trim #[.pointer x0, .int .u8 x1] R w :=
  callE_fin (c := g_line_trim.body) Tryz.func157 Tryz.call157 (by kernel_rfl) (by kernel_rfl) (by kernel_rfl) (by kernel_rfl) (by kernel_rfl) (g_line_trim.good R) (g_line_trim.eq R x0 x1 w) h
namespace g_line_trimString
noncomputable def body : Code := bodyOf Tryz.f166
end g_line_trimString
def g_line_trimString (R : EP) (x0 : OA) (w : World) : Prop :=
 tk w fun w1 =>
 nilP x0 fun a2 =>
 nilP x0 fun a3 =>
 ∃ (v4 : BA), w1.cell? (a2.add 3) = some (.string v4) ∧
 ∃ (v5 : Int), w1.cell? (a3.add 1) = some (.int .i64 v5) ∧
 0 ≤ v5 ∧ v5 ≤ (v4.size : Int) ∧
 callE P i_trimSpaceTab #[.string (v4.extract (Int.toNat v5) v4.size)] (fun e w7 => ∃ (r6 : BA), e = .returned (.string r6) ∧
 R (.returned (.string r6)) w7) w1

noncomputable def g_line_trimString.ac (R : EP) : AC :=
  (.seq (.leaf (sel [0] g_line_trimString.body)) (.seq (.draw (.pure 0 (.pure 1 (.pure 2 (.pure 4 (.pure 5 (.pure 6 (.load 3 (.load 7 (.pure 8 (.one 9 (.pure 10 .done))))))))))) (sel [1, 0] g_line_trimString.body)) (.leaf (sel [1, 1] g_line_trimString.body))))
theorem g_line_trimString.good (R : EP) : Good P 13 (g_line_trimString.ac R) (QF P [.tmp 2] R) :=
  ⟨trivial, ⟨⟨by kernel_rfl, by kernel_rfl, fun _ _ _ h => h⟩, trivial⟩⟩
theorem g_line_trimString.eq (R : EP) (x0 : OA) (w : World) : g_line_trimString R x0 w = vcA P 13 (g_line_trimString.ac R) (QF P [.tmp 2] R) (fr0 [.pointer x0]) w := by kernel_rfl
theorem g_line_trimString.sound {R : EP} {x0 : OA} {w : World} (h : g_line_trimString R x0 w) : callE P i_line_trimString #[.pointer x0] R w :=
  callE_fin (c := g_line_trimString.body) Tryz.func166 Tryz.call166 (by kernel_rfl) (by kernel_rfl) (by kernel_rfl) (by kernel_rfl) (by kernel_rfl) (g_line_trimString.good R) (g_line_trimString.eq R x0 w) h
namespace g_line_eof
noncomputable def body : Code := bodyOf Tryz.f161
end g_line_eof
def g_line_eof (R : EP) (x0 : OA) (w : World) : Prop :=
 tk w fun w1 =>
 nilP x0 fun a2 =>
 nilP x0 fun a3 =>
 ∃ (v4 : Int), w1.cell? (a2.add 1) = some (.int .i64 v4) ∧
 ∃ (v5 : BA), w1.cell? (a3.add 3) = some (.string v5) ∧
 R (.returned (.bool (decide (v4 ≥ (v5.size : Int))))) w1

noncomputable def g_line_eof.ac (R : EP) : AC :=
  (.seq (.leaf (sel [0] g_line_eof.body)) (.seq (.draw (.pure 0 (.pure 1 (.pure 2 (.pure 4 (.pure 5 (.pure 6 (.load 3 (.load 7 (.pure 8 (.pure 9 (.pure 10 .done))))))))))) (sel [1, 0] g_line_eof.body)) (.leaf (sel [1, 1] g_line_eof.body))))
theorem g_line_eof.good (R : EP) : Good P 13 (g_line_eof.ac R) (QF P [.tmp 2] R) :=
  ⟨trivial, ⟨⟨by kernel_rfl, by kernel_rfl, fun _ _ _ h => h⟩, trivial⟩⟩
theorem g_line_eof.eq (R : EP) (x0 : OA) (w : World) : g_line_eof R x0 w = vcA P 13 (g_line_eof.ac R) (QF P [.tmp 2] R) (fr0 [.pointer x0]) w := by kernel_rfl
theorem g_line_eof.sound {R : EP} {x0 : OA} {w : World} (h : g_line_eof R x0 w) : callE P i_line_eof #[.pointer x0] R w :=
  callE_fin (c := g_line_eof.body) Tryz.func161 Tryz.call161 (by kernel_rfl) (by kernel_rfl) (by kernel_rfl) (by kernel_rfl) (by kernel_rfl) (g_line_eof.good R) (g_line_eof.eq R x0 w) h
namespace g_line_isBlank
noncomputable def body : Code := bodyOf Tryz.f36
end g_line_isBlank
def g_line_isBlank (R : EP) (x0 : OA) (w : World) : Prop :=
 tk w fun w1 =>
 nilP x0 fun a2 =>
 nilP x0 fun a3 =>
 ∃ (v4 : BA), w1.cell? (a2.add 3) = some (.string v4) ∧
 ∃ (v5 : Int), w1.cell? (a3.add 1) = some (.int .i64 v5) ∧
 0 ≤ v5 ∧ v5 ≤ (v4.size : Int) ∧
 callE P i_trimLeftSpaceTab #[.string (v4.extract (Int.toNat v5) v4.size)] (fun e w7 => ∃ (r6 : BA), e = .returned (.string r6) ∧
 R (.returned (.bool (r6.toList == (ByteArray.mk #[]).toList))) w7) w1

noncomputable def g_line_isBlank.ac (R : EP) : AC :=
  (.seq (.leaf (sel [0] g_line_isBlank.body)) (.seq (.draw (.pure 0 (.pure 1 (.pure 2 (.pure 4 (.pure 5 (.pure 6 (.load 3 (.load 7 (.pure 8 (.one 9 (.pure 10 (.pure 11 .done)))))))))))) (sel [1, 0] g_line_isBlank.body)) (.leaf (sel [1, 1] g_line_isBlank.body))))
theorem g_line_isBlank.good (R : EP) : Good P 14 (g_line_isBlank.ac R) (QF P [.tmp 2] R) :=
  ⟨trivial, ⟨⟨by kernel_rfl, by kernel_rfl, fun _ _ _ h => h⟩, trivial⟩⟩
theorem g_line_isBlank.eq (R : EP) (x0 : OA) (w : World) : g_line_isBlank R x0 w = vcA P 14 (g_line_isBlank.ac R) (QF P [.tmp 2] R) (fr0 [.pointer x0]) w := by kernel_rfl
theorem g_line_isBlank.sound {R : EP} {x0 : OA} {w : World} (h : g_line_isBlank R x0 w) : callE P i_line_isBlank #[.pointer x0] R w :=
  callE_fin (c := g_line_isBlank.body) Tryz.func36 Tryz.call36 (by kernel_rfl) (by kernel_rfl) (by kernel_rfl) (by kernel_rfl) (by kernel_rfl) (g_line_isBlank.good R) (g_line_isBlank.eq R x0 w) h
namespace g_line_peek
noncomputable def body : Code := bodyOf Tryz.f159
end g_line_peek
def g_line_peek (R : EP) (x0 : OA) (w : World) : Prop :=
 nilP x0 fun a1 =>
 ∃ (v2 : Int), w.cell? a1 = some (.int .i64 v2) ∧
 br (decide (v2 > 0))
 (R (.returned (.int .u8 32)) w)
 (tk w fun w3 =>
 nilP x0 fun a4 =>
 nilP x0 fun a5 =>
 ∃ (v6 : Int), w3.cell? (a4.add 1) = some (.int .i64 v6) ∧
 ∃ (v7 : BA), w3.cell? (a5.add 3) = some (.string v7) ∧
 br (decide (v6 ≥ (v7.size : Int)))
 (R (.returned (.int .u8 0)) w3)
 (tk w3 fun w8 =>
 nilP x0 fun a9 =>
 nilP x0 fun a10 =>
 ∃ (v11 : BA), w8.cell? (a9.add 3) = some (.string v11) ∧
 ∃ (v12 : Int), w8.cell? (a10.add 1) = some (.int .i64 v12) ∧
 0 ≤ v12 ∧ v12 < (v11.size : Int) ∧
 R (.returned (.int .u8 (bt v11 v12))) w8))

noncomputable def g_line_peek.ac (R : EP) : AC :=
  (.seq (.leaf (sel [0] g_line_peek.body)) (.seq (.leaf (sel [1, 0] g_line_peek.body)) (.seq (.seq (.draw (.pure 0 (.pure 1 (.pure 2 (.pure 4 (.pure 5 (.pure 6 (.load 3 (.load 7 (.pure 8 (.pure 9 .done)))))))))) (sel [1, 1, 0, 0] g_line_peek.body)) (.leaf (sel [1, 1, 0, 1] g_line_peek.body))) (.seq (.draw (.pure 0 (.pure 1 (.pure 2 (.pure 4 (.pure 5 (.pure 6 (.load 3 (.load 7 (.pure 8 (.pure 9 .done)))))))))) (sel [1, 1, 1, 0] g_line_peek.body)) (.leaf (sel [1, 1, 1, 1] g_line_peek.body))))))
theorem g_line_peek.good (R : EP) : Good P 27 (g_line_peek.ac R) (QF P [.tmp 2] R) :=
  ⟨trivial, ⟨trivial, ⟨⟨⟨by kernel_rfl, by kernel_rfl, fun _ _ _ h => h⟩, trivial⟩, ⟨⟨by kernel_rfl, by kernel_rfl, fun _ _ _ h => h⟩, trivial⟩⟩⟩⟩
theorem g_line_peek.eq (R : EP) (x0 : OA) (w : World) : g_line_peek R x0 w = vcA P 27 (g_line_peek.ac R) (QF P [.tmp 2] R) (fr0 [.pointer x0]) w := by kernel_rfl
theorem g_line_peek.sound {R : EP} {x0 : OA} {w : World} (h : g_line_peek R x0 w) : callE P i_line_peek #[.pointer x0] R w :=
  callE_fin (c := g_line_peek.body) Tryz.func159 Tryz.call159 (by kernel_rfl) (by kernel_rfl) (by kernel_rfl) (by kernel_rfl) (by kernel_rfl) (g_line_peek.good R) (g_line_peek.eq R x0 w) h
namespace g_line_trimSpace
noncomputable def body : Code := bodyOf Tryz.f121
def k2 (R : EP) (x0 : OA) (x9 : Nat) (w : World) : Prop :=
 ∃ (v32 : Int), w.cell? ⟨x9, 0, none⟩ = some (.int .i64 v32) ∧
 ∃ (v33 : Int), w.cell? ⟨x9, 1, none⟩ = some (.int .i64 v33) ∧
 ∃ (v34 : Int), w.cell? ⟨x9, 2, none⟩ = some (.int .i64 v34) ∧
 ∃ (v35 : BA), w.cell? ⟨x9, 3, none⟩ = some (.string v35) ∧
 ∃ (v36 : Int), w.cell? ⟨x9, 4, none⟩ = some (.int .u8 v36) ∧
 nilP x0 fun a37 =>
 stV w (a37.add 0) (.int .i64 v32) fun w38 =>
 stV w38 (a37.add 1) (.int .i64 v33) fun w39 =>
 stV w39 (a37.add 2) (.int .i64 v34) fun w40 =>
 stV w40 (a37.add 3) (.string v35) fun w41 =>
 stV w41 (a37.add 4) (.int .u8 v36) fun w42 =>
 R (.returned (.bool true)) w42

def k3 (R : EP) (Xa : OA → Int → Int → Bool → Nat → Int → WP) (x0 : OA) (x1 : Int) (x9 : Nat) (x10 : Int) (w : World) : Prop :=
 br (decide (x10 ≥ x1))
 (k2 R x0 x9 w)
 (R (.returned (.bool false)) w)

def k1 (R : EP) (Xa : OA → Int → Int → Bool → Nat → Int → WP) (x0 : OA) (x1 : Int) (x2 : Int) (x3 : Bool) (x9 : Nat) (x10 : Int) (w : World) : Prop :=
 ∃ (v19 : Int), w.cell? ⟨x9, 1, none⟩ = some (.int .i64 v19) ∧
 ∃ (v20 : BA), w.cell? ⟨x9, 3, none⟩ = some (.string v20) ∧
 br (decide (v19 < (v20.size : Int)))
 (∃ (v21 : BA), w.cell? ⟨x9, 3, none⟩ = some (.string v21) ∧
 ∃ (v22 : Int), w.cell? ⟨x9, 1, none⟩ = some (.int .i64 v22) ∧
 0 ≤ v22 ∧ v22 < (v21.size : Int) ∧
 br ((bt v21 v22) == 9)
 (∃ (v23 : Int), w.cell? ⟨x9, 1, none⟩ = some (.int .i64 v23) ∧
 ∃ (v24 : Int), w.cell? ⟨x9, 2, none⟩ = some (.int .i64 v24) ∧
 stV w ⟨x9, 0, none⟩ (.int .i64 (IntKind.i64.wrap ((IntKind.i64.wrap (4 - (bitAnd .i64 (IntKind.i64.wrap (v23 - v24)) 3))) - 1))) fun w25 =>
 ∃ (v26 : Int), w25.cell? ⟨x9, 1, none⟩ = some (.int .i64 v26) ∧
 stV w25 ⟨x9, 1, none⟩ (.int .i64 (IntKind.i64.wrap (v26 + 1))) fun w27 =>
 ∃ (v28 : Int), w27.cell? ⟨x9, 1, none⟩ = some (.int .i64 v28) ∧
 stV w27 ⟨x9, 2, none⟩ (.int .i64 v28) fun w29 =>
 Xa x0 x1 x2 x3 x9 (IntKind.i64.wrap (x10 + 1)) w29)
 (br ((bt v21 v22) == 32)
 (∃ (v30 : Int), w.cell? ⟨x9, 1, none⟩ = some (.int .i64 v30) ∧
 stV w ⟨x9, 1, none⟩ (.int .i64 (IntKind.i64.wrap (v30 + 1))) fun w31 =>
 Xa x0 x1 x2 x3 x9 (IntKind.i64.wrap (x10 + 1)) w31)
 (k3 R Xa x0 x1 x9 x10 w)))
 (k3 R Xa x0 x1 x9 x10 w)

def bl1 (R : EP) (Xa : OA → Int → Int → Bool → Nat → Int → WP) (x0 : OA) (x1 : Int) (x2 : Int) (x3 : Bool) (x9 : Nat) (x10 : Int) (w : World) : Prop :=
 br (decide (x10 < x2))
 (∃ (v14 : Int), w.cell? ⟨x9, 0, none⟩ = some (.int .i64 v14) ∧
 br (decide (v14 > 0))
 (∃ (v15 : Int), w.cell? ⟨x9, 0, none⟩ = some (.int .i64 v15) ∧
 stV w ⟨x9, 0, none⟩ (.int .i64 (IntKind.i64.wrap (v15 - 1))) fun w16 =>
 Xa x0 x1 x2 x3 x9 (IntKind.i64.wrap (x10 + 1)) w16)
 (∃ (v17 : Int), w.cell? ⟨x9, 1, none⟩ = some (.int .i64 v17) ∧
 ∃ (v18 : BA), w.cell? ⟨x9, 3, none⟩ = some (.string v18) ∧
 br ((decide (v17 ≥ (v18.size : Int))) && x3)
 (Xa x0 x1 x2 x3 x9 (IntKind.i64.wrap (x10 + 1)) w)
 (k1 R Xa x0 x1 x2 x3 x9 x10 w)))
 (k2 R x0 x9 w)
def l1 (R : EP) (x0 : OA) (x1 : Int) (x2 : Int) (x3 : Bool) (x9 : Nat) (x10 : Int) (w : World) : Prop :=
  ∀ X : OA → Int → Int → Bool → Nat → Int → WP, (∀ x0 x1 x2 x3 x9 x10 w, bl1 R X x0 x1 x2 x3 x9 x10 w → X x0 x1 x2 x3 x9 x10 w) → X x0 x1 x2 x3 x9 x10 w

noncomputable def al1 (R : EP) (Xa : OA → Int → Int → Bool → Nat → Int → WP) : AC :=
  (.seq (.leaf (sel [1, 1, 0, 1, 0, 0, 0] body)) (.seq (.block 1 (.seq (.leaf (sel [1, 1, 0, 1, 0, 0, 1, 0, 0, 0] body)) (.seq (.leaf (sel [1, 1, 0, 1, 0, 0, 1, 0, 0, 1, 0] body)) (.mark (leaf [(0, .s .ptr), (1, .s (.int .i64)), (2, .s (.int .i64)), (3, .s .bool), (9, .s .loc), (10, .s (.int .i64))] (k1 R Xa)) (.seq (.leaf (sel [1, 1, 0, 1, 0, 0, 1, 0, 0, 1, 1, 0] body)) (.mark (leaf [(0, .s .ptr), (1, .s (.int .i64)), (9, .s .loc), (10, .s (.int .i64))] (k3 R Xa)) (.leaf (sel [1, 1, 0, 1, 0, 0, 1, 0, 0, 1, 1, 1] body)))))))) (.leaf (sel [1, 1, 0, 1, 0, 0, 1, 1] body))))
end g_line_trimSpace
def g_line_trimSpace (R : EP) (x0 : OA) (x1 : Int) (x2 : Int) (x3 : Bool) (w : World) : Prop :=
 nilP x0 fun a1 =>
 ∃ (v2 : Int), w.cell? (a1.add 0) = some (.int .i64 v2) ∧
 ∃ (v3 : Int), w.cell? (a1.add 1) = some (.int .i64 v3) ∧
 ∃ (v4 : Int), w.cell? (a1.add 2) = some (.int .i64 v4) ∧
 ∃ (v5 : BA), w.cell? (a1.add 3) = some (.string v5) ∧
 ∃ (v6 : Int), w.cell? (a1.add 4) = some (.int .u8 v6) ∧
 box w #[.int .i64 0, .int .i64 0, .int .i64 0, .string (ByteArray.mk #[]), .int .u8 0] ty_line fun b7 w8 =>
 stV w8 ⟨b7, 0, none⟩ (.int .i64 v2) fun w9 =>
 stV w9 ⟨b7, 1, none⟩ (.int .i64 v3) fun w10 =>
 stV w10 ⟨b7, 2, none⟩ (.int .i64 v4) fun w11 =>
 stV w11 ⟨b7, 3, none⟩ (.string v5) fun w12 =>
 stV w12 ⟨b7, 4, none⟩ (.int .u8 v6) fun w13 =>
 g_line_trimSpace.l1 R x0 x1 x2 x3 b7 0 w13

noncomputable def g_line_trimSpace.ac (R : EP) : AC :=
  (.seq (.leaf (sel [0] g_line_trimSpace.body)) (.seq (.leaf (sel [1, 0] g_line_trimSpace.body)) (.seq (.seq (.leaf (sel [1, 1, 0, 0] g_line_trimSpace.body)) (.block 0 (.loop (leaf [(0, .s .ptr), (1, .s (.int .i64)), (2, .s (.int .i64)), (3, .s .bool), (9, .s .loc), (10, .s (.int .i64))] (g_line_trimSpace.l1 R)) (sel [1, 1, 0, 1, 0, 0] g_line_trimSpace.body)))) (.mark (leaf [(0, .s .ptr), (9, .s .loc)] (g_line_trimSpace.k2 R)) (.leaf (sel [1, 1, 1] g_line_trimSpace.body))))))
theorem g_line_trimSpace.good (R : EP) : Good P 76 (g_line_trimSpace.ac R) (QF P [.tmp 8] R) :=
  ⟨trivial, ⟨trivial, ⟨⟨trivial, (loopG (g_line_trimSpace.al1 R) (g_line_trimSpace.bl1 R) (fun _ => by kernel_rfl) (fun Xa => ⟨trivial, ⟨⟨trivial, ⟨trivial, ⟨⟨trivial, ⟨trivial, cutE (by intro x0 x1 x9 x10 ρ w; kernel_rfl)⟩⟩, cutE (by intro x0 x1 x2 x3 x9 x10 ρ w; kernel_rfl)⟩⟩⟩, trivial⟩⟩) (fun Xa => by intro x0 x1 x2 x3 x9 x10 ρ w; kernel_rfl) (fun X h _ _ _ _ _ _ _ g => g X h))⟩, ⟨trivial, cutE (by intro x0 x9 ρ w; kernel_rfl)⟩⟩⟩⟩
theorem g_line_trimSpace.eq (R : EP) (x0 : OA) (x1 : Int) (x2 : Int) (x3 : Bool) (w : World) : g_line_trimSpace R x0 x1 x2 x3 w = vcA P 76 (g_line_trimSpace.ac R) (QF P [.tmp 8] R) (fr0 [.pointer x0, .int .i64 x1, .int .i64 x2, .bool x3]) w := by kernel_rfl
theorem g_line_trimSpace.sound {R : EP} {x0 : OA} {x1 : Int} {x2 : Int} {x3 : Bool} {w : World} (h : g_line_trimSpace R x0 x1 x2 x3 w) : callE P i_line_trimSpace #[.pointer x0, .int .i64 x1, .int .i64 x2, .bool x3] R w :=
  callE_fin (c := g_line_trimSpace.body) Tryz.func121 Tryz.call121 (by kernel_rfl) (by kernel_rfl) (by kernel_rfl) (by kernel_rfl) (by kernel_rfl) (g_line_trimSpace.good R) (g_line_trimSpace.eq R x0 x1 x2 x3 w) h
namespace g_trimLeftSpaceTab
noncomputable def body : Code := bodyOf Tryz.f60
def k1 (R : EP) (x0 : BA) (x3 : Int) (w : World) : Prop :=
 0 ≤ x3 ∧ x3 ≤ (x0.size : Int) ∧
 R (.returned (.string (x0.extract (Int.toNat x3) x0.size))) w

def bl1 (R : EP) (Xa : BA → Int → WP) (x0 : BA) (x3 : Int) (w : World) : Prop :=
 ((decide (x3 < (x0.size : Int))) = true → 0 ≤ x3 ∧ x3 < (x0.size : Int)) ∧
 (((decide (x3 < (x0.size : Int))) && (!((bt x0 x3) == 32))) = true → 0 ≤ x3 ∧ x3 < (x0.size : Int)) ∧
 br ((decide (x3 < (x0.size : Int))) && (((bt x0 x3) == 32) || ((bt x0 x3) == 9)))
 (Xa x0 (IntKind.i64.wrap (x3 + 1)) w)
 (k1 R x0 x3 w)
def l1 (R : EP) (x0 : BA) (x3 : Int) (w : World) : Prop :=
  ∀ X : BA → Int → WP, (∀ x0 x3 w, bl1 R X x0 x3 w → X x0 x3 w) → X x0 x3 w

noncomputable def al1 (R : EP) (Xa : BA → Int → WP) : AC :=
  (.leaf (sel [1, 1, 0, 0, 0] body))
end g_trimLeftSpaceTab
def g_trimLeftSpaceTab (R : EP) (x0 : BA) (w : World) : Prop :=
 g_trimLeftSpaceTab.l1 R x0 0 w

noncomputable def g_trimLeftSpaceTab.ac (R : EP) : AC :=
  (.seq (.leaf (sel [0] g_trimLeftSpaceTab.body)) (.seq (.leaf (sel [1, 0] g_trimLeftSpaceTab.body)) (.seq (.block 0 (.loop (leaf [(0, .s .str), (3, .s (.int .i64))] (g_trimLeftSpaceTab.l1 R)) (sel [1, 1, 0, 0, 0] g_trimLeftSpaceTab.body))) (.mark (leaf [(0, .s .str), (3, .s (.int .i64))] (g_trimLeftSpaceTab.k1 R)) (.leaf (sel [1, 1, 1] g_trimLeftSpaceTab.body))))))
theorem g_trimLeftSpaceTab.good (R : EP) : Good P 25 (g_trimLeftSpaceTab.ac R) (QF P [.tmp 2] R) :=
  ⟨trivial, ⟨trivial, ⟨(loopG (g_trimLeftSpaceTab.al1 R) (g_trimLeftSpaceTab.bl1 R) (fun _ => by kernel_rfl) (fun Xa => trivial) (fun Xa => by intro x0 x3 ρ w; kernel_rfl) (fun X h _ _ _ g => g X h)), ⟨trivial, cutE (by intro x0 x3 ρ w; kernel_rfl)⟩⟩⟩⟩
theorem g_trimLeftSpaceTab.eq (R : EP) (x0 : BA) (w : World) : g_trimLeftSpaceTab R x0 w = vcA P 25 (g_trimLeftSpaceTab.ac R) (QF P [.tmp 2] R) (fr0 [.string x0]) w := by kernel_rfl
theorem g_trimLeftSpaceTab.sound {R : EP} {x0 : ByteArray} {w : World} (h : g_trimLeftSpaceTab R x0 w) : callE P i_trimLeftSpaceTab #[.string x0] R w :=
  callE_fin (c := g_trimLeftSpaceTab.body) Tryz.func60 Tryz.call60 (by kernel_rfl) (by kernel_rfl) (by kernel_rfl) (by kernel_rfl) (by kernel_rfl) (g_trimLeftSpaceTab.good R) (g_trimLeftSpaceTab.eq R x0 w) h
namespace g_trimSpaceTab
noncomputable def body : Code := bodyOf Tryz.f40
def k2 (R : EP) (x0 : BA) (x4 : Int) (w : World) : Prop :=
 0 ≤ x4 ∧ x4 ≤ (x0.size : Int) ∧
 R (.returned (.string (x0.extract 0 (Int.toNat x4)))) w

def bl2 (R : EP) (Xa : BA → Int → WP) (x0 : BA) (x4 : Int) (w : World) : Prop :=
 ((decide (x4 > 0)) = true → 0 ≤ (IntKind.i64.wrap (x4 - 1)) ∧ (IntKind.i64.wrap (x4 - 1)) < (x0.size : Int)) ∧
 (((decide (x4 > 0)) && (!((bt x0 (IntKind.i64.wrap (x4 - 1))) == 32))) = true → 0 ≤ (IntKind.i64.wrap (x4 - 1)) ∧ (IntKind.i64.wrap (x4 - 1)) < (x0.size : Int)) ∧
 br ((decide (x4 > 0)) && (((bt x0 (IntKind.i64.wrap (x4 - 1))) == 32) || ((bt x0 (IntKind.i64.wrap (x4 - 1))) == 9)))
 (Xa x0 (IntKind.i64.wrap (x4 - 1)) w)
 (k2 R x0 x4 w)
def l2 (R : EP) (x0 : BA) (x4 : Int) (w : World) : Prop :=
  ∀ X : BA → Int → WP, (∀ x0 x4 w, bl2 R X x0 x4 w → X x0 x4 w) → X x0 x4 w

noncomputable def al2 (R : EP) (Xa : BA → Int → WP) : AC :=
  (.leaf (sel [1, 1, 1, 1, 1, 0, 0, 0] body))
def k1 (R : EP) (x0 : BA) (x3 : Int) (w : World) : Prop :=
 0 ≤ x3 ∧ x3 ≤ (x0.size : Int) ∧
 l2 R (x0.extract (Int.toNat x3) x0.size) ((x0.extract (Int.toNat x3) x0.size).size : Int) w

def bl1 (R : EP) (Xb : BA → Int → WP) (x0 : BA) (x3 : Int) (w : World) : Prop :=
 ((decide (x3 < (x0.size : Int))) = true → 0 ≤ x3 ∧ x3 < (x0.size : Int)) ∧
 (((decide (x3 < (x0.size : Int))) && (!((bt x0 x3) == 32))) = true → 0 ≤ x3 ∧ x3 < (x0.size : Int)) ∧
 br ((decide (x3 < (x0.size : Int))) && (((bt x0 x3) == 32) || ((bt x0 x3) == 9)))
 (Xb x0 (IntKind.i64.wrap (x3 + 1)) w)
 (k1 R x0 x3 w)
def l1 (R : EP) (x0 : BA) (x3 : Int) (w : World) : Prop :=
  ∀ X : BA → Int → WP, (∀ x0 x3 w, bl1 R X x0 x3 w → X x0 x3 w) → X x0 x3 w

noncomputable def al1 (R : EP) (Xb : BA → Int → WP) : AC :=
  (.leaf (sel [1, 1, 0, 0, 0] body))
end g_trimSpaceTab
def g_trimSpaceTab (R : EP) (x0 : BA) (w : World) : Prop :=
 g_trimSpaceTab.l1 R x0 0 w

noncomputable def g_trimSpaceTab.ac (R : EP) : AC :=
  (.seq (.leaf (sel [0] g_trimSpaceTab.body)) (.seq (.leaf (sel [1, 0] g_trimSpaceTab.body)) (.seq (.block 0 (.loop (leaf [(0, .s .str), (3, .s (.int .i64))] (g_trimSpaceTab.l1 R)) (sel [1, 1, 0, 0, 0] g_trimSpaceTab.body))) (.mark (leaf [(0, .s .str), (3, .s (.int .i64))] (g_trimSpaceTab.k1 R)) (.seq (.leaf (sel [1, 1, 1, 0] g_trimSpaceTab.body)) (.seq (.leaf (sel [1, 1, 1, 1, 0] g_trimSpaceTab.body)) (.seq (.block 2 (.loop (leaf [(0, .s .str), (4, .s (.int .i64))] (g_trimSpaceTab.l2 R)) (sel [1, 1, 1, 1, 1, 0, 0, 0] g_trimSpaceTab.body))) (.mark (leaf [(0, .s .str), (4, .s (.int .i64))] (g_trimSpaceTab.k2 R)) (.leaf (sel [1, 1, 1, 1, 1, 1] g_trimSpaceTab.body))))))))))
theorem g_trimSpaceTab.good (R : EP) : Good P 49 (g_trimSpaceTab.ac R) (QF P [.tmp 2] R) :=
  ⟨trivial, ⟨trivial, ⟨(loopG (g_trimSpaceTab.al1 R) (g_trimSpaceTab.bl1 R) (fun _ => by kernel_rfl) (fun Xb => trivial) (fun Xb => by intro x0 x3 ρ w; kernel_rfl) (fun X h _ _ _ g => g X h)), ⟨⟨trivial, ⟨trivial, ⟨(loopG (g_trimSpaceTab.al2 R) (g_trimSpaceTab.bl2 R) (fun _ => by kernel_rfl) (fun Xa => trivial) (fun Xa => by intro x0 x4 ρ w; kernel_rfl) (fun X h _ _ _ g => g X h)), ⟨trivial, cutE (by intro x0 x4 ρ w; kernel_rfl)⟩⟩⟩⟩, cutE (by intro x0 x3 ρ w; kernel_rfl)⟩⟩⟩⟩
theorem g_trimSpaceTab.eq (R : EP) (x0 : BA) (w : World) : g_trimSpaceTab R x0 w = vcA P 49 (g_trimSpaceTab.ac R) (QF P [.tmp 2] R) (fr0 [.string x0]) w := by kernel_rfl
theorem g_trimSpaceTab.sound {R : EP} {x0 : ByteArray} {w : World} (h : g_trimSpaceTab R x0 w) : callE P i_trimSpaceTab #[.string x0] R w :=
  callE_fin (c := g_trimSpaceTab.body) Tryz.func40 Tryz.call40 (by kernel_rfl) (by kernel_rfl) (by kernel_rfl) (by kernel_rfl) (by kernel_rfl) (g_trimSpaceTab.good R) (g_trimSpaceTab.eq R x0 w) h
end Go.Proofs.YtihmcipajjakgaaGreatDoor

set_option linter.unusedVariables false
namespace Go.Proofs.YtihmcipajjakgaaGreatDoor
open Go.Proofs Go.IntWalk
variable {σ : Out} {w : World} {L L' : List Chunk} {R : Ending → World → Prop}

theorem trimSpaceTab_g {l : List UInt8} (hl : l.length < 4611686018427387904) (h : R (.returned (.string (bs (trimLR isST l)))) w) : g_trimSpaceTab R (bs l) w := by
  intro X hX
  refine scanF (l := l) (X := fun i => X (bs l) (i : Int) w) (p := isST) (fun i hi hp hx => hX _ _ _ ?_) 0 (Nat.zero_le _) (fun i hi hf he => hX _ _ _ ?_)
  · refine ⟨fun _ => ⟨by omega, by simp; omega⟩, fun _ => ⟨by omega, by simp; omega⟩, br_true ?_ ?_⟩
    · rw [bt_beq hi 32 32 rfl, bt_beq hi 9 9 rfl]
      simpa [hi, isST] using hp
    · rw [i64_inc (by omega)]; exact hx
  · refine ⟨fun h => ⟨by omega, by simpa using h⟩, fun h => ⟨by omega, ?_⟩, br_false ?_ ?_⟩
    · simp only [Bool.and_eq_true, decide_eq_true_eq] at h; exact h.1
    · by_cases hi' : i < l.length
      · rw [bt_beq hi' 32 32 rfl, bt_beq hi' 9 9 rfl]
        simpa [hi', isST] using hf hi'
      · simp [hi']
    · refine ⟨by omega, by simp; omega, ?_⟩
      rw [bs_extract]
      simp only [Int.toNat_natCast, bs_size, List.take_length, he]
      simp only [List.drop_zero]
      generalize hm : l.dropWhile isST = m
      have hml : m.length < 4611686018427387904 := by
        have := List.dropWhile_sublist isST (l := l) |>.length_le
        rw [hm] at this
        omega
      intro Y hY
      refine scanB (l := m) (X := fun j => Y (bs m) (j : Int) w) (p := isST) (fun i hi hp hx => hY _ _ _ ?_) m.length (Nat.le_refl _) (fun j hj hf he => hY _ _ _ ?_)
      · have hd := i64_dec (n := i + 1) (by omega) (by omega)
        rw [Nat.add_sub_cancel] at hd
        refine ⟨fun _ => ?_, fun _ => ?_, br_true ?_ ?_⟩
        · rw [hd]; exact ⟨by omega, by simp; omega⟩
        · rw [hd]; exact ⟨by omega, by simp; omega⟩
        · rw [hd, bt_beq hi 32 32 rfl, bt_beq hi 9 9 rfl]
          simp only [isST] at hp
          rw [hp]
          simp
        · rw [hd]; exact hx
      · have hfin : g_trimSpaceTab.k2 R (bs m) (j : Int) w := by
          refine ⟨by omega, by simp; omega, ?_⟩
          rw [bs_extract]
          simp only [Int.toNat_natCast, List.drop_zero, he, List.take_length]
          have : trimLR isST l = (m.reverse.dropWhile isST).reverse := by rw [trimLR, trimR, hm]
          rw [← this]; exact h
        rcases Nat.eq_zero_or_pos j with hj0 | hj0
        · subst hj0
          exact ⟨fun h => by simp at h, fun h => by simp at h, br_false (by simp) hfin⟩
        · obtain ⟨i, rfl⟩ : ∃ i, j = i + 1 := ⟨j - 1, by omega⟩
          have hd := i64_dec (n := i + 1) (by omega) (by omega)
          rw [Nat.add_sub_cancel] at hd
          refine ⟨fun _ => ?_, fun _ => ?_, br_false ?_ hfin⟩
          · rw [hd]; exact ⟨by omega, by simp; omega⟩
          · rw [hd]; exact ⟨by omega, by simp; omega⟩
          · have := hf i (by omega) rfl
            rw [hd, bt_beq (by omega) 32 32 rfl, bt_beq (by omega) 9 9 rfl]
            simp only [isST] at this
            rw [this]; simp

theorem trimSpaceTab_ok {l : List UInt8} (hl : l.length < 4611686018427387904) (h : R (.returned (.string (bs (trimLR isST l)))) w) : callE P i_trimSpaceTab #[.string (bs l)] R w :=
  g_trimSpaceTab.sound (trimSpaceTab_g hl h)
theorem trimLeftSpaceTab_ok {l : List UInt8} (hl : l.length < 4611686018427387904) (h : R (.returned (.string (bs (l.dropWhile isST)))) w) : callE P i_trimLeftSpaceTab #[.string (bs l)] R w := by
  refine g_trimLeftSpaceTab.sound ?_
  intro X hX
  refine scanF (l := l) (X := fun i => X (bs l) (i : Int) w) (p := isST) (fun i hi hp hx => hX _ _ _ ?_) 0 (Nat.zero_le _) (fun i hi hf he => hX _ _ _ ?_)
  · refine ⟨fun _ => ⟨by omega, by simp; omega⟩, fun _ => ⟨by omega, by simp; omega⟩, br_true ?_ ?_⟩
    · rw [bt_beq hi 32 32 rfl, bt_beq hi 9 9 rfl]
      simpa [hi, isST] using hp
    · rw [i64_inc (by omega)]; exact hx
  · refine ⟨fun h => ⟨by omega, by simpa using h⟩, fun h => ⟨by omega, ?_⟩, br_false ?_ ?_⟩
    · simp only [Bool.and_eq_true, decide_eq_true_eq] at h; exact h.1
    · by_cases hi' : i < l.length
      · rw [bt_beq hi' 32 32 rfl, bt_beq hi' 9 9 rfl]
        simpa [hi', isST] using hf hi'
      · simp [hi']
    · refine ⟨by omega, by simp; omega, ?_⟩
      rw [bs_size, bs_extract]
      simp only [Int.toNat_natCast, List.take_length, he, List.drop_zero]
      exact h
end Go.Proofs.YtihmcipajjakgaaGreatDoor


set_option linter.unusedVariables false
namespace Go.Proofs.YtihmcipajjakgaaGreatDoor
open Go.Proofs Go.IntWalk
variable {σ : Out} {w : World} {L L' : List Chunk} {R : Ending → World → Prop}

structure Ln where
  sp : Nat
  i : Nat
  tab : Nat
  text : List UInt8
  nl : UInt8
def Ln.cells (l : Ln) : List Value := [.int .i64 l.sp, .int .i64 l.i, .int .i64 l.tab, .string (bs l.text), .int .u8 l.nl.toNat]
abbrev Ln.at (b : Nat) (l : Ln) : Chunk := (b, cel l.cells ty_line)
structure Ln.ok (l : Ln) : Prop where
  i : l.i ≤ l.text.length
  tab : l.tab ≤ l.i
  len : l.text.length < 4611686018427387904
  sp : l.sp ≤ 3
def Ln.blank (l : Ln) : Bool := (l.text.drop l.i).all isST
def Ln.peek (l : Ln) : UInt8 := if 0 < l.sp then 32 else l.text.getD l.i 0

theorem dropWhile_nil_iff {p : UInt8 → Bool} : ∀ {l : List UInt8}, ((l.dropWhile p) == []) = l.all p
  | [] => rfl
  | a :: l => by
    cases hp : p a with
    | true => rw [List.dropWhile_cons_of_pos hp, dropWhile_nil_iff, List.all_cons, hp, Bool.true_and]
    | false => rw [List.dropWhile_cons_of_neg (by simp [hp]), List.all_cons, hp]; rfl

theorem isBlank_ok {b : Nat} {l : Ln} (h : Sat σ w L) (hm : l.at b ∈ L) (hl : l.ok) (hR : ∀ w, Sat σ w L → R (.returned (.bool l.blank)) w) :
    callE P i_line_isBlank #[.pointer (some ⟨b, 0, none⟩)] R w := by
  refine g_line_isBlank.sound ?_
  repeat (first | refine nilP_some ?_ | refine Sat.tk h fun w h => ?_ | refine ⟨_, Sat.ld h (by first | assumption | (repeat (first | exact .head _ | apply List.Mem.tail))) (by exact rfl), ?_⟩ | refine ⟨_, _, _, Sat.ld h (by first | assumption | (repeat (first | exact .head _ | apply List.Mem.tail))) (by exact rfl), ?_⟩)
  have := hl.i
  refine ⟨by omega, by simp; omega, ?_⟩
  rw [bs_size, Int.toNat_natCast, bs_ext]
  refine trimLeftSpaceTab_ok (by simp; have := hl.len; omega) ⟨_, rfl, ?_⟩
  rw [bs_toList, mk_toList, dropWhile_nil_iff]
  exact hR _ h

theorem eof_ok {b : Nat} {l : Ln} (h : Sat σ w L) (hm : l.at b ∈ L) (hR : ∀ w, Sat σ w L → R (.returned (.bool (decide (l.text.length ≤ l.i)))) w) :
    callE P i_line_eof #[.pointer (some ⟨b, 0, none⟩)] R w := by
  refine g_line_eof.sound ?_
  repeat (first | refine nilP_some ?_ | refine Sat.tk h fun w h => ?_ | refine ⟨_, Sat.ld h (by first | assumption | (repeat (first | exact .head _ | apply List.Mem.tail))) (by exact rfl), ?_⟩ | refine ⟨_, _, _, Sat.ld h (by first | assumption | (repeat (first | exact .head _ | apply List.Mem.tail))) (by exact rfl), ?_⟩)
  have : (decide ((l.i : Int) ≥ ((bs l.text).size : Int))) = decide (l.text.length ≤ l.i) := by simp
  rw [this]
  exact hR _ h

theorem peek_ok {b : Nat} {l : Ln} (h : Sat σ w L) (hm : l.at b ∈ L) (hl : l.ok) (hR : ∀ w, Sat σ w L → R (.returned (.int .u8 l.peek.toNat)) w) :
    callE P i_line_peek #[.pointer (some ⟨b, 0, none⟩)] R w := by
  refine g_line_peek.sound ?_
  repeat (first | refine nilP_some ?_ | refine Sat.tk h fun w h => ?_ | refine ⟨_, Sat.ld h (by first | assumption | (repeat (first | exact .head _ | apply List.Mem.tail))) (by exact rfl), ?_⟩ | refine ⟨_, _, _, Sat.ld h (by first | assumption | (repeat (first | exact .head _ | apply List.Mem.tail))) (by exact rfl), ?_⟩)
  refine br_split (fun hs => ?_) (fun hs => ?_)
  · have hp : l.peek = 32 := by simp only [Ln.peek]; rw [if_pos (by simpa using hs)]
    have := hR _ h
    rw [hp] at this
    exact this
  · have hs : l.sp = 0 := by simpa using hs
    repeat (first | refine nilP_some ?_ | refine Sat.tk h fun w h => ?_ | refine ⟨_, Sat.ld h (by first | assumption | (repeat (first | exact .head _ | apply List.Mem.tail))) (by exact rfl), ?_⟩ | refine ⟨_, _, _, Sat.ld h (by first | assumption | (repeat (first | exact .head _ | apply List.Mem.tail))) (by exact rfl), ?_⟩)
    refine br_split (fun hi => ?_) (fun hi => ?_)
    · have hp : l.peek = 0 := by
        simp at hi
        simp [Ln.peek, hs, hi]
      have := hR _ h
      rw [hp] at this
      exact this
    · repeat (first | refine nilP_some ?_ | refine Sat.tk h fun w h => ?_ | refine ⟨_, Sat.ld h (by first | assumption | (repeat (first | exact .head _ | apply List.Mem.tail))) (by exact rfl), ?_⟩ | refine ⟨_, _, _, Sat.ld h (by first | assumption | (repeat (first | exact .head _ | apply List.Mem.tail))) (by exact rfl), ?_⟩)
      simp at hi
      refine ⟨by omega, by simp; omega, ?_⟩
      have hp : (l.peek.toNat : Int) = bt (bs l.text) l.i := by rw [bt_at hi]; simp [Ln.peek, hs, hi]
      rw [← hp]
      exact hR _ h

theorem bitAnd3 (n : Nat) (hn : n < 4611686018427387904) : bitAnd .i64 (n : Int) 3 = ((n % 4 : Nat) : Int) := by
  have h1 : (BitVec.ofInt 64 (n : Int) &&& BitVec.ofInt 64 3).toNat = n % 4 := by
    rw [BitVec.toNat_and]
    have h2 : (BitVec.ofInt 64 (n : Int)).toNat = n := by
      simp
      omega
    rw [h2, show (BitVec.ofInt 64 3).toNat = 2 ^ 2 - 1 from rfl, Nat.and_two_pow_sub_one_eq_mod]
  show IntKind.i64.wrap (((BitVec.ofInt 64 (n : Int) &&& BitVec.ofInt 64 3).toNat : Nat) : Int) = _
  rw [h1, i64_in _ (by omega)]

def Ln.tsGo (min : Nat) (eol : Bool) : Nat → Nat → Ln → Option Ln
  | 0, _, t => some t
  | k + 1, n, t =>
    if 0 < t.sp then tsGo min eol k (n + 1) { t with sp := t.sp - 1 }
    else if t.text.length ≤ t.i ∧ eol = true then tsGo min eol k (n + 1) t
    else if t.text[t.i]? = some 9 then tsGo min eol k (n + 1) { t with sp := 3 - (t.i - t.tab) % 4, i := t.i + 1, tab := t.i + 1 }
    else if t.text[t.i]? = some 32 then tsGo min eol k (n + 1) { t with i := t.i + 1 }
    else if min ≤ n then some t else none
def Ln.trimSp (min max : Nat) (eol : Bool) (t : Ln) : Option Ln := t.tsGo min eol max 0

theorem trimSp_ok {b : Nat} {l : Ln} {min max : Nat} {eol : Bool} (h : Sat σ w (l.at b :: L)) (hl : l.ok) (h1 : min < 4611686018427387904) (h2 : max < 4611686018427387904)
    (hR : match l.trimSp min max eol with
      | some l' => ∀ w, Sat σ w (l'.at b :: L) → R (.returned (.bool true)) w
      | none => ∀ w, Sat σ w (l.at b :: L) → R (.returned (.bool false)) w) :
    callE P i_line_trimSpace #[.pointer (some ⟨b, 0, none⟩), .int .i64 min, .int .i64 max, .bool eol] R w := by
  refine g_line_trimSpace.sound ?_
  repeat (first | refine nilP_some ?_ | refine Sat.tk h fun w h => ?_ | refine ⟨_, Sat.ld h (by first | assumption | (repeat (first | exact .head _ | apply List.Mem.tail))) (by exact rfl), ?_⟩ | refine ⟨_, _, _, Sat.ld h (by first | assumption | (repeat (first | exact .head _ | apply List.Mem.tail))) (by exact rfl), ?_⟩ | refine Sat.st h (k := 0) rfl (Nat.le_of_ble_eq_true rfl) trivial (by first | (dsimp only [List.set]; exact rfl) | exact rfl) fun w h => ?_ | refine Sat.st h (k := 1) rfl (Nat.le_of_ble_eq_true rfl) trivial (by first | (dsimp only [List.set]; exact rfl) | exact rfl) fun w h => ?_ | refine Sat.st h (k := 2) rfl (Nat.le_of_ble_eq_true rfl) trivial (by first | (dsimp only [List.set]; exact rfl) | exact rfl) fun w h => ?_ | refine Sat.st h (k := 3) rfl (Nat.le_of_ble_eq_true rfl) trivial (by first | (dsimp only [List.set]; exact rfl) | exact rfl) fun w h => ?_ | refine Sat.st h (k := 4) rfl (Nat.le_of_ble_eq_true rfl) trivial (by first | (dsimp only [List.set]; exact rfl) | exact rfl) fun w h => ?_ | refine Sat.st h (k := 5) rfl (Nat.le_of_ble_eq_true rfl) trivial (by first | (dsimp only [List.set]; exact rfl) | exact rfl) fun w h => ?_ | refine Sat.st h (k := 6) rfl (Nat.le_of_ble_eq_true rfl) trivial (by first | (dsimp only [List.set]; exact rfl) | exact rfl) fun w h => ?_ | refine Sat.bx h fun b0 w h => ?_)
  have h : Sat σ _ (l.at b0 :: l.at b :: L) := h
  intro X hX
  have key : ∀ k n (t : Ln) w, n + k = max → t.ok → Sat σ w (t.at b0 :: l.at b :: L) →
      (match t.tsGo min eol k n with
      | some l' => ∀ w, Sat σ w (l'.at b :: L) → R (.returned (.bool true)) w
      | none => ∀ w, Sat σ w (l.at b :: L) → R (.returned (.bool false)) w) → X (some ⟨b, 0, none⟩) min max eol b0 n w := by
    intro k
    induction k with
    | zero =>
      intro n t w hn ht h hR
      refine hX _ _ _ _ _ _ _ (br_false (by simp; omega) ?_)
      repeat (first | refine nilP_some ?_ | refine Sat.tk h fun w h => ?_ | refine ⟨_, Sat.ld h (by first | assumption | (repeat (first | exact .head _ | apply List.Mem.tail))) (by exact rfl), ?_⟩ | refine ⟨_, _, _, Sat.ld h (by first | assumption | (repeat (first | exact .head _ | apply List.Mem.tail))) (by exact rfl), ?_⟩ | refine Sat.st h (k := 0) rfl (Nat.le_of_ble_eq_true rfl) trivial (by first | (dsimp only [List.set]; exact rfl) | exact rfl) fun w h => ?_ | refine Sat.st h (k := 1) rfl (Nat.le_of_ble_eq_true rfl) trivial (by first | (dsimp only [List.set]; exact rfl) | exact rfl) fun w h => ?_ | refine Sat.st h (k := 2) rfl (Nat.le_of_ble_eq_true rfl) trivial (by first | (dsimp only [List.set]; exact rfl) | exact rfl) fun w h => ?_ | refine Sat.st h (k := 3) rfl (Nat.le_of_ble_eq_true rfl) trivial (by first | (dsimp only [List.set]; exact rfl) | exact rfl) fun w h => ?_ | refine Sat.st h (k := 4) rfl (Nat.le_of_ble_eq_true rfl) trivial (by first | (dsimp only [List.set]; exact rfl) | exact rfl) fun w h => ?_ | refine Sat.st h (k := 5) rfl (Nat.le_of_ble_eq_true rfl) trivial (by first | (dsimp only [List.set]; exact rfl) | exact rfl) fun w h => ?_ | refine Sat.st h (k := 6) rfl (Nat.le_of_ble_eq_true rfl) trivial (by first | (dsimp only [List.set]; exact rfl) | exact rfl) fun w h => ?_ | refine Sat.bx h fun b0 w h => ?_)
      have h : Sat σ _ (t.at b0 :: t.at b :: L) := h
      exact hR _ h.tail
    | succ k ih =>
      intro n t w hn ht h hR
      simp only [Ln.tsGo] at hR
      refine hX _ _ _ _ _ _ _ (br_true (by simp; omega) ?_)
      have hni : IntKind.i64.wrap ((n : Int) + 1) = ((n + 1 : Nat) : Int) := i64_inc (by omega)
      repeat (first | refine nilP_some ?_ | refine Sat.tk h fun w h => ?_ | refine ⟨_, Sat.ld h (by first | assumption | (repeat (first | exact .head _ | apply List.Mem.tail))) (by exact rfl), ?_⟩ | refine ⟨_, _, _, Sat.ld h (by first | assumption | (repeat (first | exact .head _ | apply List.Mem.tail))) (by exact rfl), ?_⟩)
      by_cases hs : 0 < t.sp
      · rw [if_pos hs] at hR
        refine br_true (by simpa using hs) ?_
        have hd := i64_dec (n := t.sp) (by have := ht.sp; omega) hs
        repeat (first | refine nilP_some ?_ | refine Sat.tk h fun w h => ?_ | refine ⟨_, Sat.ld h (by first | assumption | (repeat (first | exact .head _ | apply List.Mem.tail))) (by exact rfl), ?_⟩ | refine ⟨_, _, _, Sat.ld h (by first | assumption | (repeat (first | exact .head _ | apply List.Mem.tail))) (by exact rfl), ?_⟩ | refine Sat.st h (k := 0) rfl (Nat.le_of_ble_eq_true rfl) trivial (by first | (dsimp only [List.set]; exact rfl) | exact rfl) fun w h => ?_ | refine Sat.st h (k := 1) rfl (Nat.le_of_ble_eq_true rfl) trivial (by first | (dsimp only [List.set]; exact rfl) | exact rfl) fun w h => ?_ | refine Sat.st h (k := 2) rfl (Nat.le_of_ble_eq_true rfl) trivial (by first | (dsimp only [List.set]; exact rfl) | exact rfl) fun w h => ?_ | refine Sat.st h (k := 3) rfl (Nat.le_of_ble_eq_true rfl) trivial (by first | (dsimp only [List.set]; exact rfl) | exact rfl) fun w h => ?_ | refine Sat.st h (k := 4) rfl (Nat.le_of_ble_eq_true rfl) trivial (by first | (dsimp only [List.set]; exact rfl) | exact rfl) fun w h => ?_ | refine Sat.st h (k := 5) rfl (Nat.le_of_ble_eq_true rfl) trivial (by first | (dsimp only [List.set]; exact rfl) | exact rfl) fun w h => ?_ | refine Sat.st h (k := 6) rfl (Nat.le_of_ble_eq_true rfl) trivial (by first | (dsimp only [List.set]; exact rfl) | exact rfl) fun w h => ?_ | refine Sat.bx h fun b0 w h => ?_)
        rw [hd] at h
        rw [hni]
        exact ih _ { t with sp := t.sp - 1 } _ (by omega) ⟨ht.i, ht.tab, ht.len, by have := ht.sp; simp; omega⟩ h hR
      · rw [if_neg hs] at hR
        refine br_false (by simpa using hs) ?_
        repeat (first | refine nilP_some ?_ | refine Sat.tk h fun w h => ?_ | refine ⟨_, Sat.ld h (by first | assumption | (repeat (first | exact .head _ | apply List.Mem.tail))) (by exact rfl), ?_⟩ | refine ⟨_, _, _, Sat.ld h (by first | assumption | (repeat (first | exact .head _ | apply List.Mem.tail))) (by exact rfl), ?_⟩)
        by_cases he : t.text.length ≤ t.i ∧ eol = true
        · rw [if_pos he] at hR
          refine br_true (by simpa using he) ?_
          rw [hni]
          exact ih _ t _ (by omega) ht h hR
        · rw [if_neg he] at hR
          refine br_false (by rw [Bool.and_eq_false_iff]; by_cases h : eol = true <;> simp_all) ?_
          repeat (first | refine nilP_some ?_ | refine Sat.tk h fun w h => ?_ | refine ⟨_, Sat.ld h (by first | assumption | (repeat (first | exact .head _ | apply List.Mem.tail))) (by exact rfl), ?_⟩ | refine ⟨_, _, _, Sat.ld h (by first | assumption | (repeat (first | exact .head _ | apply List.Mem.tail))) (by exact rfl), ?_⟩)
          by_cases hi : t.i < t.text.length
          · refine br_true (by simpa using hi) ?_
            repeat (first | refine nilP_some ?_ | refine Sat.tk h fun w h => ?_ | refine ⟨_, Sat.ld h (by first | assumption | (repeat (first | exact .head _ | apply List.Mem.tail))) (by exact rfl), ?_⟩ | refine ⟨_, _, _, Sat.ld h (by first | assumption | (repeat (first | exact .head _ | apply List.Mem.tail))) (by exact rfl), ?_⟩)
            refine ⟨by omega, by simpa using hi, ?_⟩
            rw [List.getElem?_eq_getElem hi] at hR
            have hlen := ht.len
            have htab := ht.tab
            have hii : IntKind.i64.wrap ((t.i : Int) + 1) = ((t.i + 1 : Nat) : Int) := i64_inc (by omega)
            by_cases h9 : t.text[t.i] = 9
            · rw [if_pos (by rw [h9])] at hR
              refine br_true (by rw [bt_beq hi 9 9 rfl, h9]; rfl) ?_
              repeat (first | refine nilP_some ?_ | refine Sat.tk h fun w h => ?_ | refine ⟨_, Sat.ld h (by first | assumption | (repeat (first | exact .head _ | apply List.Mem.tail))) (by exact rfl), ?_⟩ | refine ⟨_, _, _, Sat.ld h (by first | assumption | (repeat (first | exact .head _ | apply List.Mem.tail))) (by exact rfl), ?_⟩)
              have e1 : IntKind.i64.wrap ((t.i : Int) - (t.tab : Int)) = ((t.i - t.tab : Nat) : Int) := by rw [i64_in _ (by omega)]; omega
              rw [e1, bitAnd3 _ (by omega), i64_in (4 - _) (by omega), i64_in _ (by omega)]
              have e2 : (4 - (((t.i - t.tab) % 4 : Nat) : Int) - 1) = ((3 - (t.i - t.tab) % 4 : Nat) : Int) := by omega
              rw [e2]
              repeat (first | refine nilP_some ?_ | refine Sat.tk h fun w h => ?_ | refine ⟨_, Sat.ld h (by first | assumption | (repeat (first | exact .head _ | apply List.Mem.tail))) (by exact rfl), ?_⟩ | refine ⟨_, _, _, Sat.ld h (by first | assumption | (repeat (first | exact .head _ | apply List.Mem.tail))) (by exact rfl), ?_⟩ | refine Sat.st h (k := 0) rfl (Nat.le_of_ble_eq_true rfl) trivial (by first | (dsimp only [List.set]; exact rfl) | exact rfl) fun w h => ?_ | refine Sat.st h (k := 1) rfl (Nat.le_of_ble_eq_true rfl) trivial (by first | (dsimp only [List.set]; exact rfl) | exact rfl) fun w h => ?_ | refine Sat.st h (k := 2) rfl (Nat.le_of_ble_eq_true rfl) trivial (by first | (dsimp only [List.set]; exact rfl) | exact rfl) fun w h => ?_ | refine Sat.st h (k := 3) rfl (Nat.le_of_ble_eq_true rfl) trivial (by first | (dsimp only [List.set]; exact rfl) | exact rfl) fun w h => ?_ | refine Sat.st h (k := 4) rfl (Nat.le_of_ble_eq_true rfl) trivial (by first | (dsimp only [List.set]; exact rfl) | exact rfl) fun w h => ?_ | refine Sat.st h (k := 5) rfl (Nat.le_of_ble_eq_true rfl) trivial (by first | (dsimp only [List.set]; exact rfl) | exact rfl) fun w h => ?_ | refine Sat.st h (k := 6) rfl (Nat.le_of_ble_eq_true rfl) trivial (by first | (dsimp only [List.set]; exact rfl) | exact rfl) fun w h => ?_ | refine Sat.bx h fun b0 w h => ?_)
              rw [hii] at h
              rw [hni]
              exact ih _ { t with sp := 3 - (t.i - t.tab) % 4, i := t.i + 1, tab := t.i + 1 } _ (by omega) ⟨by simp; omega, by simp, ht.len, by simp⟩ h hR
            · rw [if_neg (by simpa using h9)] at hR
              refine br_false (by rw [bt_beq hi 9 9 rfl]; simpa using h9) ?_
              by_cases h32 : t.text[t.i] = 32
              · rw [if_pos (by rw [h32])] at hR
                refine br_true (by rw [bt_beq hi 32 32 rfl, h32]; rfl) ?_
                repeat (first | refine nilP_some ?_ | refine Sat.tk h fun w h => ?_ | refine ⟨_, Sat.ld h (by first | assumption | (repeat (first | exact .head _ | apply List.Mem.tail))) (by exact rfl), ?_⟩ | refine ⟨_, _, _, Sat.ld h (by first | assumption | (repeat (first | exact .head _ | apply List.Mem.tail))) (by exact rfl), ?_⟩ | refine Sat.st h (k := 0) rfl (Nat.le_of_ble_eq_true rfl) trivial (by first | (dsimp only [List.set]; exact rfl) | exact rfl) fun w h => ?_ | refine Sat.st h (k := 1) rfl (Nat.le_of_ble_eq_true rfl) trivial (by first | (dsimp only [List.set]; exact rfl) | exact rfl) fun w h => ?_ | refine Sat.st h (k := 2) rfl (Nat.le_of_ble_eq_true rfl) trivial (by first | (dsimp only [List.set]; exact rfl) | exact rfl) fun w h => ?_ | refine Sat.st h (k := 3) rfl (Nat.le_of_ble_eq_true rfl) trivial (by first | (dsimp only [List.set]; exact rfl) | exact rfl) fun w h => ?_ | refine Sat.st h (k := 4) rfl (Nat.le_of_ble_eq_true rfl) trivial (by first | (dsimp only [List.set]; exact rfl) | exact rfl) fun w h => ?_ | refine Sat.st h (k := 5) rfl (Nat.le_of_ble_eq_true rfl) trivial (by first | (dsimp only [List.set]; exact rfl) | exact rfl) fun w h => ?_ | refine Sat.st h (k := 6) rfl (Nat.le_of_ble_eq_true rfl) trivial (by first | (dsimp only [List.set]; exact rfl) | exact rfl) fun w h => ?_ | refine Sat.bx h fun b0 w h => ?_)
                rw [hii] at h
                rw [hni]
                exact ih _ { t with i := t.i + 1 } _ (by omega) ⟨by simp; omega, by simp; omega, ht.len, ht.sp⟩ h hR
              · rw [if_neg (by simpa using h32)] at hR
                refine br_false (by rw [bt_beq hi 32 32 rfl]; simpa using h32) ?_
                by_cases hm : min ≤ n
                · rw [if_pos hm] at hR
                  refine br_true (by simpa using hm) ?_
                  repeat (first | refine nilP_some ?_ | refine Sat.tk h fun w h => ?_ | refine ⟨_, Sat.ld h (by first | assumption | (repeat (first | exact .head _ | apply List.Mem.tail))) (by exact rfl), ?_⟩ | refine ⟨_, _, _, Sat.ld h (by first | assumption | (repeat (first | exact .head _ | apply List.Mem.tail))) (by exact rfl), ?_⟩ | refine Sat.st h (k := 0) rfl (Nat.le_of_ble_eq_true rfl) trivial (by first | (dsimp only [List.set]; exact rfl) | exact rfl) fun w h => ?_ | refine Sat.st h (k := 1) rfl (Nat.le_of_ble_eq_true rfl) trivial (by first | (dsimp only [List.set]; exact rfl) | exact rfl) fun w h => ?_ | refine Sat.st h (k := 2) rfl (Nat.le_of_ble_eq_true rfl) trivial (by first | (dsimp only [List.set]; exact rfl) | exact rfl) fun w h => ?_ | refine Sat.st h (k := 3) rfl (Nat.le_of_ble_eq_true rfl) trivial (by first | (dsimp only [List.set]; exact rfl) | exact rfl) fun w h => ?_ | refine Sat.st h (k := 4) rfl (Nat.le_of_ble_eq_true rfl) trivial (by first | (dsimp only [List.set]; exact rfl) | exact rfl) fun w h => ?_ | refine Sat.st h (k := 5) rfl (Nat.le_of_ble_eq_true rfl) trivial (by first | (dsimp only [List.set]; exact rfl) | exact rfl) fun w h => ?_ | refine Sat.st h (k := 6) rfl (Nat.le_of_ble_eq_true rfl) trivial (by first | (dsimp only [List.set]; exact rfl) | exact rfl) fun w h => ?_ | refine Sat.bx h fun b0 w h => ?_)
                  have h : Sat σ _ (t.at b0 :: t.at b :: L) := h
                  exact hR _ h.tail
                · rw [if_neg hm] at hR
                  refine br_false (by simpa using hm) ?_
                  exact hR _ h.tail
          · refine br_false (by simpa using hi) ?_
            rw [List.getElem?_eq_none (by omega), if_neg (by simp), if_neg (by simp)] at hR
            by_cases hm : min ≤ n
            · rw [if_pos hm] at hR
              refine br_true (by simpa using hm) ?_
              repeat (first | refine nilP_some ?_ | refine Sat.tk h fun w h => ?_ | refine ⟨_, Sat.ld h (by first | assumption | (repeat (first | exact .head _ | apply List.Mem.tail))) (by exact rfl), ?_⟩ | refine ⟨_, _, _, Sat.ld h (by first | assumption | (repeat (first | exact .head _ | apply List.Mem.tail))) (by exact rfl), ?_⟩ | refine Sat.st h (k := 0) rfl (Nat.le_of_ble_eq_true rfl) trivial (by first | (dsimp only [List.set]; exact rfl) | exact rfl) fun w h => ?_ | refine Sat.st h (k := 1) rfl (Nat.le_of_ble_eq_true rfl) trivial (by first | (dsimp only [List.set]; exact rfl) | exact rfl) fun w h => ?_ | refine Sat.st h (k := 2) rfl (Nat.le_of_ble_eq_true rfl) trivial (by first | (dsimp only [List.set]; exact rfl) | exact rfl) fun w h => ?_ | refine Sat.st h (k := 3) rfl (Nat.le_of_ble_eq_true rfl) trivial (by first | (dsimp only [List.set]; exact rfl) | exact rfl) fun w h => ?_ | refine Sat.st h (k := 4) rfl (Nat.le_of_ble_eq_true rfl) trivial (by first | (dsimp only [List.set]; exact rfl) | exact rfl) fun w h => ?_ | refine Sat.st h (k := 5) rfl (Nat.le_of_ble_eq_true rfl) trivial (by first | (dsimp only [List.set]; exact rfl) | exact rfl) fun w h => ?_ | refine Sat.st h (k := 6) rfl (Nat.le_of_ble_eq_true rfl) trivial (by first | (dsimp only [List.set]; exact rfl) | exact rfl) fun w h => ?_ | refine Sat.bx h fun b0 w h => ?_)
              have h : Sat σ _ (t.at b0 :: t.at b :: L) := h
              exact hR _ h.tail
            · rw [if_neg hm] at hR
              refine br_false (by simpa using hm) ?_
              exact hR _ h.tail
  exact key max 0 l _ (by omega) hl h hR

end Go.Proofs.YtihmcipajjakgaaGreatDoor


set_option linter.unusedVariables false
namespace Go.Proofs.YtihmcipajjakgaaGreatDoor
open Go.Proofs Go.IntWalk
variable {σ : Out} {w : World} {L L' : List Chunk} {R : Ending → World → Prop}

def Ln.trimC (c : UInt8) (l : Ln) : Option Ln :=
  if 0 < l.sp then (if c = 32 then some { l with sp := l.sp - 1 } else none)
  else if l.text[l.i]? = some c then some { l with i := l.i + 1 } else none
theorem Ln.trimC_ok {c : UInt8} {l l' : Ln} (hl : l.ok) (h : l.trimC c = some l') : l'.ok := by
  simp only [Ln.trimC] at h
  have h1 := hl.i; have h2 := hl.tab; have h3 := hl.sp
  split at h
  · split at h
    · cases h; exact ⟨h1, h2, hl.len, by simp; omega⟩
    · cases h
  · split at h
    · rename_i hg
      have := (List.getElem?_eq_some_iff.1 hg).1
      cases h; exact ⟨by simp; omega, by simp; omega, hl.len, hl.sp⟩
    · cases h
theorem trimC_ok {b : Nat} {l : Ln} {c : UInt8} {n : Int} (hc : (c.toNat : Int) = n) (h : Sat σ w (l.at b :: L)) (hl : l.ok)
    (hR : match l.trimC c with
      | some l' => ∀ w, Sat σ w (l'.at b :: L) → R (.returned (.bool true)) w
      | none => ∀ w, Sat σ w (l.at b :: L) → R (.returned (.bool false)) w) :
    callE P i_line_trim #[.pointer (some ⟨b, 0, none⟩), .int .u8 n] R w := by
  subst hc
  refine g_line_trim.sound ?_
  simp only [Ln.trimC] at hR
  have h1 := hl.i; have h2 := hl.tab; have h3 := hl.sp; have h4 := hl.len
  repeat (first | refine nilP_some ?_ | refine Sat.tk h fun w h => ?_ | refine ⟨_, Sat.ld h (by first | assumption | (repeat (first | exact .head _ | apply List.Mem.tail))) (by exact rfl), ?_⟩ | refine ⟨_, _, _, Sat.ld h (by first | assumption | (repeat (first | exact .head _ | apply List.Mem.tail))) (by exact rfl), ?_⟩)
  by_cases hs : 0 < l.sp
  · rw [if_pos hs] at hR
    refine br_true (by simpa using hs) ?_
    by_cases hc : c = 32
    · rw [if_pos hc] at hR
      refine br_true (by rw [hc]; rfl) ?_
      have hd := i64_dec (n := l.sp) (by omega) hs
      repeat (first | refine nilP_some ?_ | refine Sat.tk h fun w h => ?_ | refine ⟨_, Sat.ld h (by first | assumption | (repeat (first | exact .head _ | apply List.Mem.tail))) (by exact rfl), ?_⟩ | refine ⟨_, _, _, Sat.ld h (by first | assumption | (repeat (first | exact .head _ | apply List.Mem.tail))) (by exact rfl), ?_⟩ | refine Sat.st h (k := 0) rfl (Nat.le_of_ble_eq_true rfl) trivial (by first | (dsimp only [List.set]; exact rfl) | exact rfl) fun w h => ?_ | refine Sat.st h (k := 1) rfl (Nat.le_of_ble_eq_true rfl) trivial (by first | (dsimp only [List.set]; exact rfl) | exact rfl) fun w h => ?_ | refine Sat.st h (k := 2) rfl (Nat.le_of_ble_eq_true rfl) trivial (by first | (dsimp only [List.set]; exact rfl) | exact rfl) fun w h => ?_ | refine Sat.st h (k := 3) rfl (Nat.le_of_ble_eq_true rfl) trivial (by first | (dsimp only [List.set]; exact rfl) | exact rfl) fun w h => ?_ | refine Sat.st h (k := 4) rfl (Nat.le_of_ble_eq_true rfl) trivial (by first | (dsimp only [List.set]; exact rfl) | exact rfl) fun w h => ?_ | refine Sat.st h (k := 5) rfl (Nat.le_of_ble_eq_true rfl) trivial (by first | (dsimp only [List.set]; exact rfl) | exact rfl) fun w h => ?_ | refine Sat.st h (k := 6) rfl (Nat.le_of_ble_eq_true rfl) trivial (by first | (dsimp only [List.set]; exact rfl) | exact rfl) fun w h => ?_ | refine Sat.bx h fun b0 w h => ?_)
      rw [hd] at h
      exact hR _ h
    · rw [if_neg hc] at hR
      refine br_false ?_ (hR _ h)
      have := u8_beq c 32
      rw [show ((32 : UInt8).toNat : Int) = 32 from rfl] at this
      rw [this]
      simpa using hc
  · rw [if_neg hs] at hR
    refine br_false (by simpa using hs) ?_
    repeat (first | refine nilP_some ?_ | refine Sat.tk h fun w h => ?_ | refine ⟨_, Sat.ld h (by first | assumption | (repeat (first | exact .head _ | apply List.Mem.tail))) (by exact rfl), ?_⟩ | refine ⟨_, _, _, Sat.ld h (by first | assumption | (repeat (first | exact .head _ | apply List.Mem.tail))) (by exact rfl), ?_⟩)
    have hii : IntKind.i64.wrap ((l.i : Int) + 1) = ((l.i + 1 : Nat) : Int) := i64_inc (by omega)
    by_cases hi : l.i < l.text.length
    · rw [List.getElem?_eq_getElem hi] at hR
      refine br_true (by simpa using hi) ?_
      repeat (first | refine nilP_some ?_ | refine Sat.tk h fun w h => ?_ | refine ⟨_, Sat.ld h (by first | assumption | (repeat (first | exact .head _ | apply List.Mem.tail))) (by exact rfl), ?_⟩ | refine ⟨_, _, _, Sat.ld h (by first | assumption | (repeat (first | exact .head _ | apply List.Mem.tail))) (by exact rfl), ?_⟩)
      refine ⟨by omega, by simpa using hi, ?_⟩
      rw [bt_beq hi c _ rfl]
      by_cases hc : l.text[l.i] = c
      · rw [if_pos (by rw [hc])] at hR
        refine br_true (by simpa using hc) ?_
        repeat (first | refine nilP_some ?_ | refine Sat.tk h fun w h => ?_ | refine ⟨_, Sat.ld h (by first | assumption | (repeat (first | exact .head _ | apply List.Mem.tail))) (by exact rfl), ?_⟩ | refine ⟨_, _, _, Sat.ld h (by first | assumption | (repeat (first | exact .head _ | apply List.Mem.tail))) (by exact rfl), ?_⟩ | refine Sat.st h (k := 0) rfl (Nat.le_of_ble_eq_true rfl) trivial (by first | (dsimp only [List.set]; exact rfl) | exact rfl) fun w h => ?_ | refine Sat.st h (k := 1) rfl (Nat.le_of_ble_eq_true rfl) trivial (by first | (dsimp only [List.set]; exact rfl) | exact rfl) fun w h => ?_ | refine Sat.st h (k := 2) rfl (Nat.le_of_ble_eq_true rfl) trivial (by first | (dsimp only [List.set]; exact rfl) | exact rfl) fun w h => ?_ | refine Sat.st h (k := 3) rfl (Nat.le_of_ble_eq_true rfl) trivial (by first | (dsimp only [List.set]; exact rfl) | exact rfl) fun w h => ?_ | refine Sat.st h (k := 4) rfl (Nat.le_of_ble_eq_true rfl) trivial (by first | (dsimp only [List.set]; exact rfl) | exact rfl) fun w h => ?_ | refine Sat.st h (k := 5) rfl (Nat.le_of_ble_eq_true rfl) trivial (by first | (dsimp only [List.set]; exact rfl) | exact rfl) fun w h => ?_ | refine Sat.st h (k := 6) rfl (Nat.le_of_ble_eq_true rfl) trivial (by first | (dsimp only [List.set]; exact rfl) | exact rfl) fun w h => ?_ | refine Sat.bx h fun b0 w h => ?_)
        rw [hii] at h
        exact hR _ h
      · rw [if_neg (by simpa using hc)] at hR
        exact br_false (by simpa using hc) (hR _ h)
    · rw [List.getElem?_eq_none (by omega), if_neg (by simp)] at hR
      exact br_false (by simpa using hi) (br_false rfl (hR _ h))

def Ln.skip (l : Ln) : Ln := { l with sp := 0, i := l.text.length - ((l.text.drop l.i).dropWhile isST).length }
theorem Ln.skip_ok {l : Ln} (hl : l.ok) : l.skip.ok := by
  have h1 := hl.i; have h2 := hl.tab
  have h3 := (List.dropWhile_sublist isST (l := l.text.drop l.i)).length_le
  rw [List.length_drop] at h3
  exact ⟨by simp only [Ln.skip]; omega, by simp only [Ln.skip]; omega, hl.len, by simp [Ln.skip]⟩
theorem skipSpace_ok {b : Nat} {l : Ln} (h : Sat σ w (l.at b :: L)) (hl : l.ok) (hR : ∀ w, Sat σ w (l.skip.at b :: L) → R (.returned (.tuple #[])) w) :
    callE P i_line_skipSpace #[.pointer (some ⟨b, 0, none⟩)] R w := by
  refine g_line_skipSpace.sound ?_
  repeat (first | refine nilP_some ?_ | refine Sat.tk h fun w h => ?_ | refine ⟨_, Sat.ld h (by first | assumption | (repeat (first | exact .head _ | apply List.Mem.tail))) (by exact rfl), ?_⟩ | refine ⟨_, _, _, Sat.ld h (by first | assumption | (repeat (first | exact .head _ | apply List.Mem.tail))) (by exact rfl), ?_⟩ | refine Sat.st h (k := 0) rfl (Nat.le_of_ble_eq_true rfl) trivial (by first | (dsimp only [List.set]; exact rfl) | exact rfl) fun w h => ?_ | refine Sat.st h (k := 1) rfl (Nat.le_of_ble_eq_true rfl) trivial (by first | (dsimp only [List.set]; exact rfl) | exact rfl) fun w h => ?_ | refine Sat.st h (k := 2) rfl (Nat.le_of_ble_eq_true rfl) trivial (by first | (dsimp only [List.set]; exact rfl) | exact rfl) fun w h => ?_ | refine Sat.st h (k := 3) rfl (Nat.le_of_ble_eq_true rfl) trivial (by first | (dsimp only [List.set]; exact rfl) | exact rfl) fun w h => ?_ | refine Sat.st h (k := 4) rfl (Nat.le_of_ble_eq_true rfl) trivial (by first | (dsimp only [List.set]; exact rfl) | exact rfl) fun w h => ?_ | refine Sat.st h (k := 5) rfl (Nat.le_of_ble_eq_true rfl) trivial (by first | (dsimp only [List.set]; exact rfl) | exact rfl) fun w h => ?_ | refine Sat.st h (k := 6) rfl (Nat.le_of_ble_eq_true rfl) trivial (by first | (dsimp only [List.set]; exact rfl) | exact rfl) fun w h => ?_ | refine Sat.bx h fun b0 w h => ?_)
  intro X hX
  have h1 := hl.i; have h4 := hl.len
  refine scanF (l := l.text) (p := isST) (X := fun i => ∀ w, Sat σ w (Ln.at b { l with sp := 0, i := i } :: L) → X (some ⟨b, 0, none⟩) w) (fun i hi hp hx w h => hX _ _ ?_) l.i h1 (fun i hi hf he w h => hX _ _ ?_) _ h
  · repeat (first | refine nilP_some ?_ | refine Sat.tk h fun w h => ?_ | refine ⟨_, Sat.ld h (by first | assumption | (repeat (first | exact .head _ | apply List.Mem.tail))) (by exact rfl), ?_⟩ | refine ⟨_, _, _, Sat.ld h (by first | assumption | (repeat (first | exact .head _ | apply List.Mem.tail))) (by exact rfl), ?_⟩)
    refine br_true (by simpa using hi) ?_
    repeat (first | refine nilP_some ?_ | refine Sat.tk h fun w h => ?_ | refine ⟨_, Sat.ld h (by first | assumption | (repeat (first | exact .head _ | apply List.Mem.tail))) (by exact rfl), ?_⟩ | refine ⟨_, _, _, Sat.ld h (by first | assumption | (repeat (first | exact .head _ | apply List.Mem.tail))) (by exact rfl), ?_⟩)
    refine ⟨by omega, by simpa using hi, ?_⟩
    have hii : IntKind.i64.wrap ((i : Int) + 1) = ((i + 1 : Nat) : Int) := i64_inc (by omega)
    rw [bt_beq hi 32 32 rfl]
    by_cases hc : l.text[i] = 32
    · refine br_true (by simpa using hc) ?_
      repeat (first | refine nilP_some ?_ | refine Sat.tk h fun w h => ?_ | refine ⟨_, Sat.ld h (by first | assumption | (repeat (first | exact .head _ | apply List.Mem.tail))) (by exact rfl), ?_⟩ | refine ⟨_, _, _, Sat.ld h (by first | assumption | (repeat (first | exact .head _ | apply List.Mem.tail))) (by exact rfl), ?_⟩ | refine Sat.st h (k := 0) rfl (Nat.le_of_ble_eq_true rfl) trivial (by first | (dsimp only [List.set]; exact rfl) | exact rfl) fun w h => ?_ | refine Sat.st h (k := 1) rfl (Nat.le_of_ble_eq_true rfl) trivial (by first | (dsimp only [List.set]; exact rfl) | exact rfl) fun w h => ?_ | refine Sat.st h (k := 2) rfl (Nat.le_of_ble_eq_true rfl) trivial (by first | (dsimp only [List.set]; exact rfl) | exact rfl) fun w h => ?_ | refine Sat.st h (k := 3) rfl (Nat.le_of_ble_eq_true rfl) trivial (by first | (dsimp only [List.set]; exact rfl) | exact rfl) fun w h => ?_ | refine Sat.st h (k := 4) rfl (Nat.le_of_ble_eq_true rfl) trivial (by first | (dsimp only [List.set]; exact rfl) | exact rfl) fun w h => ?_ | refine Sat.st h (k := 5) rfl (Nat.le_of_ble_eq_true rfl) trivial (by first | (dsimp only [List.set]; exact rfl) | exact rfl) fun w h => ?_ | refine Sat.st h (k := 6) rfl (Nat.le_of_ble_eq_true rfl) trivial (by first | (dsimp only [List.set]; exact rfl) | exact rfl) fun w h => ?_ | refine Sat.bx h fun b0 w h => ?_)
      rw [hii] at h
      exact hx _ h
    · refine br_false (by simpa using hc) ?_
      repeat (first | refine nilP_some ?_ | refine Sat.tk h fun w h => ?_ | refine ⟨_, Sat.ld h (by first | assumption | (repeat (first | exact .head _ | apply List.Mem.tail))) (by exact rfl), ?_⟩ | refine ⟨_, _, _, Sat.ld h (by first | assumption | (repeat (first | exact .head _ | apply List.Mem.tail))) (by exact rfl), ?_⟩)
      refine ⟨by omega, by simpa using hi, ?_⟩
      rw [bt_beq hi 9 9 rfl]
      refine br_true (by simpa [isST, hc] using hp) ?_
      repeat (first | refine nilP_some ?_ | refine Sat.tk h fun w h => ?_ | refine ⟨_, Sat.ld h (by first | assumption | (repeat (first | exact .head _ | apply List.Mem.tail))) (by exact rfl), ?_⟩ | refine ⟨_, _, _, Sat.ld h (by first | assumption | (repeat (first | exact .head _ | apply List.Mem.tail))) (by exact rfl), ?_⟩ | refine Sat.st h (k := 0) rfl (Nat.le_of_ble_eq_true rfl) trivial (by first | (dsimp only [List.set]; exact rfl) | exact rfl) fun w h => ?_ | refine Sat.st h (k := 1) rfl (Nat.le_of_ble_eq_true rfl) trivial (by first | (dsimp only [List.set]; exact rfl) | exact rfl) fun w h => ?_ | refine Sat.st h (k := 2) rfl (Nat.le_of_ble_eq_true rfl) trivial (by first | (dsimp only [List.set]; exact rfl) | exact rfl) fun w h => ?_ | refine Sat.st h (k := 3) rfl (Nat.le_of_ble_eq_true rfl) trivial (by first | (dsimp only [List.set]; exact rfl) | exact rfl) fun w h => ?_ | refine Sat.st h (k := 4) rfl (Nat.le_of_ble_eq_true rfl) trivial (by first | (dsimp only [List.set]; exact rfl) | exact rfl) fun w h => ?_ | refine Sat.st h (k := 5) rfl (Nat.le_of_ble_eq_true rfl) trivial (by first | (dsimp only [List.set]; exact rfl) | exact rfl) fun w h => ?_ | refine Sat.st h (k := 6) rfl (Nat.le_of_ble_eq_true rfl) trivial (by first | (dsimp only [List.set]; exact rfl) | exact rfl) fun w h => ?_ | refine Sat.bx h fun b0 w h => ?_)
      rw [hii] at h
      exact hx _ h
  · have hfin : l.skip = { l with sp := 0, i := i } := by
      simp only [Ln.skip, ← he, List.length_drop]
      congr 1
      omega
    rw [← hfin] at h
    have hsk : l.skip.i = i := by rw [hfin]
    have hst : l.skip.text = l.text := rfl
    repeat (first | refine nilP_some ?_ | refine Sat.tk h fun w h => ?_ | refine ⟨_, Sat.ld h (by first | assumption | (repeat (first | exact .head _ | apply List.Mem.tail))) (by exact rfl), ?_⟩ | refine ⟨_, _, _, Sat.ld h (by first | assumption | (repeat (first | exact .head _ | apply List.Mem.tail))) (by exact rfl), ?_⟩)
    rw [hsk, hst]
    by_cases hi' : i < l.text.length
    · have hp := hf hi'
      simp only [isST, Bool.or_eq_false_iff, beq_eq_false_iff_ne] at hp
      refine br_true (by simpa using hi') ?_
      repeat (first | refine nilP_some ?_ | refine Sat.tk h fun w h => ?_ | refine ⟨_, Sat.ld h (by first | assumption | (repeat (first | exact .head _ | apply List.Mem.tail))) (by exact rfl), ?_⟩ | refine ⟨_, _, _, Sat.ld h (by first | assumption | (repeat (first | exact .head _ | apply List.Mem.tail))) (by exact rfl), ?_⟩)
      rw [hsk, hst]
      refine ⟨by omega, by simpa using hi', ?_⟩
      rw [bt_beq hi' 32 32 rfl]
      refine br_false (by simpa using hp.1) ?_
      repeat (first | refine nilP_some ?_ | refine Sat.tk h fun w h => ?_ | refine ⟨_, Sat.ld h (by first | assumption | (repeat (first | exact .head _ | apply List.Mem.tail))) (by exact rfl), ?_⟩ | refine ⟨_, _, _, Sat.ld h (by first | assumption | (repeat (first | exact .head _ | apply List.Mem.tail))) (by exact rfl), ?_⟩)
      rw [hsk, hst]
      refine ⟨by omega, by simpa using hi', ?_⟩
      rw [bt_beq hi' 9 9 rfl]
      exact br_false (by simpa using hp.2) (hR _ h)
    · exact br_false (by simpa using hi') (hR _ h)

def Ln.str (l : Ln) : List UInt8 := List.replicate l.sp 32 ++ l.text.drop l.i
theorem string_ok {b : Nat} {l : Ln} (h : Sat σ w L) (hm : l.at b ∈ L) (hl : l.ok) (hR : ∀ w, Sat σ w L → R (.returned (.string (bs l.str))) w) :
    callE P i_line_string #[.pointer (some ⟨b, 0, none⟩)] R w := by
  refine g_line_string.sound ?_
  have h1 := hl.i; have h3 := hl.sp; have h4 := hl.len
  have key : ∀ (k : Nat) (pre : ByteArray), l.sp = k → pre = bs (List.replicate k 32) → (∀ w, Sat σ w L → R (.returned (.string (pre ++ (bs l.text).extract l.i l.text.length))) w) := by
    intro k pre hk hp w h
    rw [hp, bs_ext, bs_append, ← hk]
    exact hR w h
  have hm64 : IntKind.i64.max = 9223372036854775807 := rfl
  repeat (first | refine nilP_some ?_ | refine Sat.tk h fun w h => ?_ | refine ⟨_, Sat.ld h (by first | assumption | (repeat (first | exact .head _ | apply List.Mem.tail))) (by exact rfl), ?_⟩ | refine ⟨_, _, _, Sat.ld h (by first | assumption | (repeat (first | exact .head _ | apply List.Mem.tail))) (by exact rfl), ?_⟩)
  have h5 : l.sp = 0 ∨ l.sp = 1 ∨ l.sp = 2 ∨ l.sp = 3 := by omega
  rcases h5 with h5 | h5 | h5 | h5
  · refine br_true (by rw [h5]; rfl) ?_
    repeat (first | refine nilP_some ?_ | refine Sat.tk h fun w h => ?_ | refine ⟨_, Sat.ld h (by first | assumption | (repeat (first | exact .head _ | apply List.Mem.tail))) (by exact rfl), ?_⟩ | refine ⟨_, _, _, Sat.ld h (by first | assumption | (repeat (first | exact .head _ | apply List.Mem.tail))) (by exact rfl), ?_⟩)
    refine ⟨by omega, by simp; omega, ?_⟩
    rw [bs_size, Int.toNat_natCast, bs_ext]
    have := hR _ h
    rw [Ln.str, h5] at this
    exact this
  · refine br_false (by rw [h5]; rfl) (br_true (by rw [h5]; rfl) ?_)
    repeat (first | refine nilP_some ?_ | refine Sat.tk h fun w h => ?_ | refine ⟨_, Sat.ld h (by first | assumption | (repeat (first | exact .head _ | apply List.Mem.tail))) (by exact rfl), ?_⟩ | refine ⟨_, _, _, Sat.ld h (by first | assumption | (repeat (first | exact .head _ | apply List.Mem.tail))) (by exact rfl), ?_⟩)
    refine ⟨by omega, by simp; omega, ?_, ?_⟩
    · rw [hm64, bs_size, Int.toNat_natCast, bs_ext, bs_size, List.length_drop]
      show ((1 + (l.text.length - l.i) : Nat) : Int) ≤ _
      omega
    · rw [bs_size, Int.toNat_natCast]; exact key 1 _ h5 rfl _ h
  · refine br_false (by rw [h5]; rfl) (br_false (by rw [h5]; rfl) (br_true (by rw [h5]; rfl) ?_))
    repeat (first | refine nilP_some ?_ | refine Sat.tk h fun w h => ?_ | refine ⟨_, Sat.ld h (by first | assumption | (repeat (first | exact .head _ | apply List.Mem.tail))) (by exact rfl), ?_⟩ | refine ⟨_, _, _, Sat.ld h (by first | assumption | (repeat (first | exact .head _ | apply List.Mem.tail))) (by exact rfl), ?_⟩)
    refine ⟨by omega, by simp; omega, ?_, ?_⟩
    · rw [hm64, bs_size, Int.toNat_natCast, bs_ext, bs_size, List.length_drop]
      show ((2 + (l.text.length - l.i) : Nat) : Int) ≤ _
      omega
    · rw [bs_size, Int.toNat_natCast]; exact key 2 _ h5 rfl _ h
  · refine br_false (by rw [h5]; rfl) (br_false (by rw [h5]; rfl) (br_false (by rw [h5]; rfl) (br_true (by rw [h5]; rfl) ?_)))
    repeat (first | refine nilP_some ?_ | refine Sat.tk h fun w h => ?_ | refine ⟨_, Sat.ld h (by first | assumption | (repeat (first | exact .head _ | apply List.Mem.tail))) (by exact rfl), ?_⟩ | refine ⟨_, _, _, Sat.ld h (by first | assumption | (repeat (first | exact .head _ | apply List.Mem.tail))) (by exact rfl), ?_⟩)
    refine ⟨by omega, by simp; omega, ?_, ?_⟩
    · rw [hm64, bs_size, Int.toNat_natCast, bs_ext, bs_size, List.length_drop]
      show ((3 + (l.text.length - l.i) : Nat) : Int) ≤ _
      omega
    · rw [bs_size, Int.toNat_natCast]; exact key 3 _ h5 rfl _ h

theorem trimString_ok {b : Nat} {l : Ln} (h : Sat σ w L) (hm : l.at b ∈ L) (hl : l.ok) (hR : ∀ w, Sat σ w L → R (.returned (.string (bs (trimLR isST (l.text.drop l.i))))) w) :
    callE P i_line_trimString #[.pointer (some ⟨b, 0, none⟩)] R w := by
  refine g_line_trimString.sound ?_
  repeat (first | refine nilP_some ?_ | refine Sat.tk h fun w h => ?_ | refine ⟨_, Sat.ld h (by first | assumption | (repeat (first | exact .head _ | apply List.Mem.tail))) (by exact rfl), ?_⟩ | refine ⟨_, _, _, Sat.ld h (by first | assumption | (repeat (first | exact .head _ | apply List.Mem.tail))) (by exact rfl), ?_⟩)
  have := hl.i
  refine ⟨by omega, by simp; omega, ?_⟩
  rw [bs_size, Int.toNat_natCast, bs_ext]
  exact trimSpaceTab_ok (by simp; have := hl.len; omega) ⟨_, rfl, hR _ h⟩
end Go.Proofs.YtihmcipajjakgaaGreatDoor


set_option linter.unusedVariables false
namespace Go.Proofs.YtihmcipajjakgaaGreatDoor
open Go.Proofs Go.IntWalk
variable {σ : Out} {w : World} {L L' : List Chunk} {R : Ending → World → Prop}

structure PS where
  pz : Option Addr
  root : Option Addr
  links : Option Nat
  lineno : Nat
  stq : Option Addr
  stn : Nat
  stc : Nat
  depth : Int
  corner : Bool
  s : List UInt8
  em : Int
  lq : Option Addr
  ln : Nat
  lc : Nat
  Lq : Option Addr
  Ln : Nat
  Lc : Nat
  tq : Option Addr
  tn : Nat
  tc : Nat
  bt : List Value
def PS.cells (p : PS) : List Value :=
  .pointer p.pz :: .pointer p.root :: .map p.links :: .int .i64 p.lineno :: .slice p.stq p.stn p.stc :: .int .i64 p.depth :: .bool p.corner :: .string (bs p.s) :: .int .i64 p.em ::
    .slice p.lq p.ln p.lc :: .slice p.Lq p.Ln p.Lc :: .slice p.tq p.tn p.tc :: p.bt
abbrev PS.at (b : Nat) (p : PS) : Chunk := (b, cel p.cells ty_parseState)
structure OB where
  bd : Value
  q : Option Addr
  n : Nat
  c : Nat
  s : Nat
  e : Nat
def OB.cells (o : OB) : List Value := [o.bd, .slice o.q o.n o.c, .int .i64 o.s, .int .i64 o.e]
def obCells (l : List OB) : List Value := l.flatMap OB.cells
theorem obCells_length : ∀ l : List OB, (obCells l).length = l.length * 4
  | [] => rfl
  | o :: l => by simp only [obCells, List.flatMap_cons, List.length_append, List.length_cons] at *; rw [show (List.flatMap OB.cells l).length = l.length * 4 from obCells_length l]; simp [OB.cells]; omega
theorem obCells_get {f : Nat} (hf : f < 4) : ∀ (l : List OB) (j : Nat) (o : OB), l[j]? = some o → (obCells l)[j * 4 + f]? = o.cells[f]?
  | [], j, o, h => by simp at h
  | o' :: l, 0, o, h => by
    simp only [List.getElem?_cons_zero, Option.some.injEq] at h
    subst h
    simp only [obCells, List.flatMap_cons, Nat.zero_mul, Nat.zero_add]
    rw [List.getElem?_append_left (by simp [OB.cells]; omega)]
  | o' :: l, j + 1, o, h => by
    simp only [List.getElem?_cons_succ] at h
    simp only [obCells, List.flatMap_cons]
    rw [List.getElem?_append_right (by simp [OB.cells]; omega)]
    have := obCells_get hf l j o h
    rw [← this]
    congr 1
    simp [OB.cells]
    omega
def Stk (p : PS) (l : List OB) (M : List Chunk) : Prop := Sl 4 ty_openBlock p.stq p.stn p.stc (obCells l) M ∧ p.stn = l.length ∧ l.length < 1048576
theorem Stk.split {p : PS} {l : List OB} {M : List Chunk} (h : Stk p l M) (hl : l ≠ []) : ∃ b sp, p.stq = some ⟨b, 0, none⟩ ∧ M = [(b, cel (obCells l ++ sp) ty_openBlock)] ∧ (obCells l ++ sp).length = p.stc * 4 := by
  obtain ⟨⟨_, _, h | ⟨b, sp, h1, h2, h3⟩⟩, hn, _⟩ := h
  · obtain ⟨_, h, _⟩ := h
    rw [h] at hn
    exact absurd (List.eq_nil_of_length_eq_zero hn.symm) hl
  · exact ⟨b, sp, h1, h2, h3⟩
theorem Stk.mk' {p : PS} {l : List OB} {b : Nat} {sp : List Value} (h1 : p.stq = some ⟨b, 0, none⟩) (h2 : (obCells l ++ sp).length = p.stc * 4) (h3 : p.stn = l.length) (h4 : l.length < 1048576) :
    Stk p l [(b, cel (obCells l ++ sp) ty_openBlock)] := by
  refine ⟨⟨by rw [obCells_length, h3], ?_, .inr ⟨b, sp, h1, rfl, h2⟩⟩, h3, h4⟩
  rw [List.length_append, obCells_length] at h2
  omega
theorem stk_get {l : List OB} {sp : List Value} {j f : Nat} {o : OB} (hf : f < 4) (ho : l[j]? = some o) : (obCells l ++ sp)[j * 4 + f]? = o.cells[f]? := by
  have hj := (List.getElem?_eq_some_iff.1 ho).1
  rw [List.getElem?_append_left (by rw [obCells_length]; omega), obCells_get hf l j o ho]
theorem last_get {l : List OB} (o : OB) : (l ++ [o])[l.length]? = some o := by simp
theorem len_dec {n : Nat} (h : n < 1048576) : IntKind.i64.wrap (((n + 1 : Nat) : Int) - 1) = (n : Int) := by
  rw [i64_in _ (by omega)]; omega

theorem blocks_ok {b : Nat} {p : PS} {l : List OB} {o : OB} {M : List Chunk} (h : Sat σ w (p.at b :: M ++ L)) (hs : Stk p (l ++ [o]) M)
    (hR : ∀ w, Sat σ w (p.at b :: M ++ L) → R (.returned (.slice o.q o.n o.c)) w) : callE P i_parseState_blocks #[.pointer (some ⟨b, 0, none⟩)] R w := by
  obtain ⟨sb, sp, hq, rfl, hsp⟩ := hs.split (by simp)
  have hn := hs.2.1
  have hlt := hs.2.2
  rw [List.length_append, List.length_singleton] at hn hlt
  refine g_parseState_blocks.sound ?_
  repeat (first | refine nilP_some ?_ | refine Sat.tk h fun w h => ?_ | refine ⟨_, Sat.ld h (by first | assumption | (repeat (first | exact .head _ | apply List.Mem.tail))) (by exact rfl), ?_⟩ | refine ⟨_, _, _, Sat.ld h (by first | assumption | (repeat (first | exact .head _ | apply List.Mem.tail))) (by exact rfl), ?_⟩)
  rw [hn, len_dec (by omega)]
  refine ⟨by omega, by omega, ?_⟩
  rw [hq]
  refine nilP_some ?_
  simp only [Addr.add_lit, Nat.zero_add, Int.toNat_natCast]
  exact ⟨_, _, _, Sat.ld h (by first | assumption | (repeat (first | exact .head _ | apply List.Mem.tail))) (stk_get (f := 1) (by decide) (last_get o)), hR _ h⟩

theorem trimStack_noop {b : Nat} {p : PS} {d : Int} (h : Sat σ w (p.at b :: L)) (hd : (p.stn : Int) = d) (hR : ∀ w, Sat σ w (p.at b :: L) → R (.returned (.tuple #[])) w) :
    callE P i_parseState_trimStack #[.pointer (some ⟨b, 0, none⟩), .int .i64 d] R w := by
  refine g_parseState_trimStack.sound ?_
  repeat (first | refine nilP_some ?_ | refine Sat.tk h fun w h => ?_ | refine ⟨_, Sat.ld h (by first | assumption | (repeat (first | exact .head _ | apply List.Mem.tail))) (by exact rfl), ?_⟩ | refine ⟨_, _, _, Sat.ld h (by first | assumption | (repeat (first | exact .head _ | apply List.Mem.tail))) (by exact rfl), ?_⟩)
  refine br_false (by simp; omega) ?_
  intro X hX
  refine hX _ _ _ ?_
  repeat (first | refine nilP_some ?_ | refine Sat.tk h fun w h => ?_ | refine ⟨_, Sat.ld h (by first | assumption | (repeat (first | exact .head _ | apply List.Mem.tail))) (by exact rfl), ?_⟩ | refine ⟨_, _, _, Sat.ld h (by first | assumption | (repeat (first | exact .head _ | apply List.Mem.tail))) (by exact rfl), ?_⟩)
  exact br_false (by simp; omega) (hR _ h)

noncomputable def rowOB : Row P ty_S_openBlock ty_openBlock 4 56 :=
  ⟨(P.info? ty_openBlock).getD default, ((P.info? ty_openBlock).bind (·.zero)).getD default, by kernel_rfl, by kernel_rfl, by kernel_rfl, by kernel_rfl, by kernel_rfl, by kernel_rfl, by decide⟩

theorem obCells_snoc (l : List OB) (o : OB) : obCells (l ++ [o]) = obCells l ++ o.cells := by simp [obCells]
theorem stk_set {l : List OB} {sp : List Value} {o o' : OB} {f : Nat} {v : Value} (hf : f < 4) (ho : o.cells.set f v = o'.cells) :
    (obCells (l ++ [o]) ++ sp).set (l.length * 4 + f) v = obCells (l ++ [o']) ++ sp := by
  rw [obCells_snoc, obCells_snoc, List.append_assoc, List.append_assoc, List.set_append_right _ _ (by rw [obCells_length]; omega), obCells_length,
    show l.length * 4 + f - l.length * 4 = f by omega, List.set_append_left _ _ (by simp [OB.cells]; omega), ho]

theorem ta_yes {t xt : TypeId} {v : Value} (hu : ∀ ms, P.underlying t ≠ some (.interface ms)) {d : TypeDesc} (hd : P.underlying t = some d) (w : World) :
    (Instr.typeAssert (.iface t v) xt t true).run P w = .ok (.tuple #[v, .bool true]) w := by
  cases d <;> first | (exact absurd hd (hu _)) | simp [Instr.typeAssert, run_underlying hd]
theorem ta_no {t a xt : TypeId} {v : Value} (hu : ∀ ms, P.underlying a ≠ some (.interface ms)) {d : TypeDesc} (hd : P.underlying a = some d) (hne : t ≠ a) {i : TypeInfo} {z : Value}
    (hi : P.info? a = some i) (hz : i.zero = some z) (w : World) :
    (Instr.typeAssert (.iface t v) xt a true).run P w = .ok (.tuple #[z, .bool false]) w := by
  cases d <;> first | (exact absurd hd (hu _)) | simp [Instr.typeAssert, run_underlying hd, hne, zeroValue, typeInfo, hi, hz]
end Go.Proofs.YtihmcipajjakgaaGreatDoor


set_option linter.unusedVariables false
namespace Go.Proofs.YtihmcipajjakgaaGreatDoor
open Go.Proofs Go.IntWalk
variable {σ : Out} {w : World} {L L' : List Chunk} {R : Ending → World → Prop}

theorem addBlock_ok {b : Nat} {p : PS} {l : List OB} {M : List Chunk} {t : TypeId} {v : Value} (h : Sat σ w (p.at b :: M ++ L)) (hs : Stk p l M) (hd : p.depth + 1 = l.length)
    (hl : l.length < 1048575)
    (hR : ∀ w p' M', p' = { p with stq := p'.stq, stn := l.length + 1, stc := p'.stc } → Stk p' (l ++ [⟨.iface t v, none, 0, 0, p.lineno, p.lineno⟩]) M' → Sat σ w (p'.at b :: M' ++ L) → R (.returned (.tuple #[])) w) :
    callE P i_parseState_addBlock #[.pointer (some ⟨b, 0, none⟩), .iface t v] R w := by
  have hn := hs.2.1
  refine g_parseState_addBlock.sound ?_
  repeat (first | refine nilP_some ?_ | refine Sat.tk h fun w h => ?_ | refine ⟨_, Sat.ld h (by first | assumption | (repeat (first | exact .head _ | apply List.Mem.tail))) (by exact rfl), ?_⟩ | refine ⟨_, _, _, Sat.ld h (by first | assumption | (repeat (first | exact .head _ | apply List.Mem.tail))) (by exact rfl), ?_⟩)
  rw [show IntKind.i64.wrap (p.depth + 1) = p.depth + 1 by rw [hd]; exact i64_in _ (by omega)]
  refine trimStack_noop h (by rw [hd, hn]) fun w h => ⟨rfl, ?_⟩
  repeat (first | refine nilP_some ?_ | refine Sat.tk h fun w h => ?_ | refine ⟨_, Sat.ld h (by first | assumption | (repeat (first | exact .head _ | apply List.Mem.tail))) (by exact rfl), ?_⟩ | refine ⟨_, _, _, Sat.ld h (by first | assumption | (repeat (first | exact .head _ | apply List.Mem.tail))) (by exact rfl), ?_⟩)
  have h : Sat σ w (M ++ (p.at b :: L)) := h.re (by intro _; simp only [List.append_eq, cnt_append, cnt_cons, cnt_nil] <;> omega)
  refine Sat.app1 rowOB hs.1 h (v := .agg #[.nilIface, .slice none 0 0, .int .i64 0, .int .i64 0]) rfl (by decide) (by kernel_rfl) (by omega) (by omega) (by decide) fun q' c' w M' hs' h => ?_
  have h : Sat σ w (p.at b :: M' ++ L) := h.re (by intro _; simp only [List.append_eq, cnt_append, cnt_cons, cnt_nil] <;> omega)
  let p' : PS := { p with stq := q', stn := l.length + 1, stc := c' }
  rw [hn] at hs' ⊢
  (first | refine nilP_some ?_ | refine Sat.tk h fun w h => ?_ | refine ⟨_, Sat.ld h (by first | assumption | (repeat (first | exact .head _ | apply List.Mem.tail))) (by exact rfl), ?_⟩ | refine ⟨_, _, _, Sat.ld h (by first | assumption | (repeat (first | exact .head _ | apply List.Mem.tail))) (by exact rfl), ?_⟩ | refine Sat.st h (k := 0) rfl (Nat.le_of_ble_eq_true rfl) trivial (by first | (dsimp only [List.set]; exact rfl) | exact rfl) fun w h => ?_ | refine Sat.st h (k := 1) rfl (Nat.le_of_ble_eq_true rfl) trivial (by first | (dsimp only [List.set]; exact rfl) | exact rfl) fun w h => ?_ | refine Sat.st h (k := 2) rfl (Nat.le_of_ble_eq_true rfl) trivial (by first | (dsimp only [List.set]; exact rfl) | exact rfl) fun w h => ?_ | refine Sat.st h (k := 3) rfl (Nat.le_of_ble_eq_true rfl) trivial (by first | (dsimp only [List.set]; exact rfl) | exact rfl) fun w h => ?_ | refine Sat.st h (k := 4) rfl (Nat.le_of_ble_eq_true rfl) trivial (by first | (dsimp only [List.set]; exact rfl) | exact rfl) fun w h => ?_ | refine Sat.st h (k := 5) rfl (Nat.le_of_ble_eq_true rfl) trivial (by first | (dsimp only [List.set]; exact rfl) | exact rfl) fun w h => ?_ | refine Sat.st h (k := 6) rfl (Nat.le_of_ble_eq_true rfl) trivial (by first | (dsimp only [List.set]; exact rfl) | exact rfl) fun w h => ?_ | refine Sat.bx h fun b0 w h => ?_)
  (first | refine nilP_some ?_ | refine Sat.tk h fun w h => ?_ | refine ⟨_, Sat.ld h (by first | assumption | (repeat (first | exact .head _ | apply List.Mem.tail))) (by exact rfl), ?_⟩ | refine ⟨_, _, _, Sat.ld h (by first | assumption | (repeat (first | exact .head _ | apply List.Mem.tail))) (by exact rfl), ?_⟩ | refine Sat.st h (k := 0) rfl (Nat.le_of_ble_eq_true rfl) trivial (by first | (dsimp only [List.set]; exact rfl) | exact rfl) fun w h => ?_ | refine Sat.st h (k := 1) rfl (Nat.le_of_ble_eq_true rfl) trivial (by first | (dsimp only [List.set]; exact rfl) | exact rfl) fun w h => ?_ | refine Sat.st h (k := 2) rfl (Nat.le_of_ble_eq_true rfl) trivial (by first | (dsimp only [List.set]; exact rfl) | exact rfl) fun w h => ?_ | refine Sat.st h (k := 3) rfl (Nat.le_of_ble_eq_true rfl) trivial (by first | (dsimp only [List.set]; exact rfl) | exact rfl) fun w h => ?_ | refine Sat.st h (k := 4) rfl (Nat.le_of_ble_eq_true rfl) trivial (by first | (dsimp only [List.set]; exact rfl) | exact rfl) fun w h => ?_ | refine Sat.st h (k := 5) rfl (Nat.le_of_ble_eq_true rfl) trivial (by first | (dsimp only [List.set]; exact rfl) | exact rfl) fun w h => ?_ | refine Sat.st h (k := 6) rfl (Nat.le_of_ble_eq_true rfl) trivial (by first | (dsimp only [List.set]; exact rfl) | exact rfl) fun w h => ?_ | refine Sat.bx h fun b0 w h => ?_)
  have h : Sat σ w (p'.at b :: M' ++ L) := h
  have hs2 : Stk p' (l ++ [⟨.nilIface, none, 0, 0, 0, 0⟩]) M' := by
    refine ⟨?_, by simp [p'], by simp; omega⟩
    rw [obCells_snoc]
    exact hs'
  obtain ⟨sb, sp, hq, rfl, hsp⟩ := hs2.split (by simp)
  repeat (first | refine nilP_some ?_ | refine Sat.tk h fun w h => ?_ | refine ⟨_, Sat.ld h (by first | assumption | (repeat (first | exact .head _ | apply List.Mem.tail))) (by exact rfl), ?_⟩ | refine ⟨_, _, _, Sat.ld h (by first | assumption | (repeat (first | exact .head _ | apply List.Mem.tail))) (by exact rfl), ?_⟩)
  rw [show p'.stn = l.length + 1 from rfl, len_dec (by omega)]
  refine ⟨by omega, by omega, ?_⟩
  rw [hq]
  refine nilP_some ?_
  dsimp only [cellV]
  simp only [Addr.add_lit, Nat.zero_add, Int.toNat_natCast, Nat.add_zero]
  have hlen : ∀ (o : OB) (sp : List Value) f, f < 4 → l.length * 4 + f < (obCells (l ++ [o]) ++ sp).length := by
    intro o sp f hf
    rw [List.length_append, obCells_length, List.length_append, List.length_singleton]; omega
  refine Sat.st h (k := 1) rfl (by have := hlen ⟨.nilIface, none, 0, 0, 0, 0⟩ sp 0 (by decide); simpa using this) trivial rfl fun w h => ?_
  have h : Sat σ w (p'.at b :: [(sb, cel (obCells (l ++ [⟨.iface t v, none, 0, 0, 0, 0⟩]) ++ sp) ty_openBlock)] ++ L) := by
    have e := stk_set (l := l) (sp := sp) (o := ⟨.nilIface, none, 0, 0, 0, 0⟩) (o' := ⟨.iface t v, none, 0, 0, 0, 0⟩) (f := 0) (v := .iface t v) (by decide) rfl
    rw [Nat.add_zero] at e
    rw [e] at h
    exact h
  repeat (first | refine nilP_some ?_ | refine Sat.tk h fun w h => ?_ | refine ⟨_, Sat.ld h (by first | assumption | (repeat (first | exact .head _ | apply List.Mem.tail))) (by exact rfl), ?_⟩ | refine ⟨_, _, _, Sat.ld h (by first | assumption | (repeat (first | exact .head _ | apply List.Mem.tail))) (by exact rfl), ?_⟩)
  refine Sat.st h (k := 1) rfl (hlen _ sp 2 (by decide)) trivial rfl fun w h => ?_
  have h : Sat σ w (p'.at b :: [(sb, cel (obCells (l ++ [⟨.iface t v, none, 0, 0, p.lineno, 0⟩]) ++ sp) ty_openBlock)] ++ L) := by
    have e := stk_set (l := l) (sp := sp) (o := ⟨.iface t v, none, 0, 0, 0, 0⟩) (o' := ⟨.iface t v, none, 0, 0, p.lineno, 0⟩) (f := 2) (v := .int .i64 p.lineno) (by decide) rfl
    have h := h
    rw [e] at h
    exact h
  repeat (first | refine nilP_some ?_ | refine Sat.tk h fun w h => ?_ | refine ⟨_, Sat.ld h (by first | assumption | (repeat (first | exact .head _ | apply List.Mem.tail))) (by exact rfl), ?_⟩ | refine ⟨_, _, _, Sat.ld h (by first | assumption | (repeat (first | exact .head _ | apply List.Mem.tail))) (by exact rfl), ?_⟩)
  refine Sat.st h (k := 1) rfl (hlen _ sp 3 (by decide)) trivial rfl fun w h => ?_
  have h : Sat σ w (p'.at b :: [(sb, cel (obCells (l ++ [⟨.iface t v, none, 0, 0, p.lineno, p.lineno⟩]) ++ sp) ty_openBlock)] ++ L) := by
    have e := stk_set (l := l) (sp := sp) (o := ⟨.iface t v, none, 0, 0, p.lineno, 0⟩) (o' := ⟨.iface t v, none, 0, 0, p.lineno, p.lineno⟩) (f := 3) (v := .int .i64 p.lineno) (by decide) rfl
    have h := h
    rw [e] at h
    exact h
  refine hR _ p' _ rfl ?_ h
  refine Stk.mk' hq ?_ (by simp [p']) (by simp; omega)
  rw [← hsp, List.length_append, List.length_append, obCells_length, obCells_length, List.length_append, List.length_append]
  rfl
end Go.Proofs.YtihmcipajjakgaaGreatDoor


set_option linter.unusedVariables false
namespace Go.Proofs.YtihmcipajjakgaaGreatDoor
open Go.Proofs Go.IntWalk
variable {σ : Out} {w : World} {L L' : List Chunk} {R : Ending → World → Prop}

theorem Ln.tsGo_ok {min : Nat} {eol : Bool} : ∀ (k n : Nat) {l l' : Ln}, l.ok → l.tsGo min eol k n = some l' → l'.ok ∧ l'.text = l.text ∧ l'.nl = l.nl
  | 0, n, l, l', hl, h => by simp only [Ln.tsGo, Option.some.injEq] at h; subst h; exact ⟨hl, rfl, rfl⟩
  | k + 1, n, l, l', hl, h => by
    have h1 := hl.i; have h2 := hl.tab; have h3 := hl.sp
    simp only [Ln.tsGo] at h
    split at h
    · exact tsGo_ok k _ (l := { l with sp := l.sp - 1 }) ⟨h1, h2, hl.len, by simp; omega⟩ h
    · split at h
      · exact tsGo_ok k _ hl h
      · split at h
        · rename_i hg
          have := (List.getElem?_eq_some_iff.1 hg).1
          exact tsGo_ok k _ (l := { l with sp := 3 - (l.i - l.tab) % 4, i := l.i + 1, tab := l.i + 1 }) ⟨by simp; omega, by simp, hl.len, by simp⟩ h
        · split at h
          · rename_i hg
            have := (List.getElem?_eq_some_iff.1 hg).1
            exact tsGo_ok k _ (l := { l with i := l.i + 1 }) ⟨by simp; omega, by simp; omega, hl.len, h3⟩ h
          · split at h
            · cases h; exact ⟨hl, rfl, rfl⟩
            · cases h
theorem Ln.tsGo_some {eol : Bool} : ∀ (k n : Nat) (l : Ln), ∃ l', l.tsGo 0 eol k n = some l'
  | 0, n, l => ⟨l, rfl⟩
  | k + 1, n, l => by
    simp only [Ln.tsGo]
    split
    · exact tsGo_some k _ _
    · split
      · exact tsGo_some k _ _
      · split
        · exact tsGo_some k _ _
        · split
          · exact tsGo_some k _ _
          · exact ⟨l, by simp⟩
theorem Ln.trimSp_ok {min max : Nat} {eol : Bool} {l l' : Ln} (hl : l.ok) (h : l.trimSp min max eol = some l') : l'.ok := (Ln.tsGo_ok max 0 hl h).1
def Ln.lead (m : Nat) (eol : Bool) (l : Ln) : Ln := (l.trimSp 0 m eol).getD l
theorem Ln.lead_eq (m : Nat) (eol : Bool) (l : Ln) : l.trimSp 0 m eol = some (l.lead m eol) := by
  obtain ⟨l', h⟩ := Ln.tsGo_some (eol := eol) m 0 l
  rw [Ln.lead, Ln.trimSp, h]; rfl
theorem Ln.lead_ok {m : Nat} {eol : Bool} {l : Ln} (hl : l.ok) : (l.lead m eol).ok := Ln.trimSp_ok hl (l.lead_eq m eol)
theorem lead_ok {b : Nat} {l : Ln} {max : Nat} {eol : Bool} (h : Sat σ w (l.at b :: L)) (hl : l.ok) (h2 : max < 4611686018427387904)
    (hR : ∀ w, Sat σ w ((l.lead max eol).at b :: L) → R (.returned (.bool true)) w) :
    callE P i_line_trimSpace #[.pointer (some ⟨b, 0, none⟩), .int .i64 0, .int .i64 max, .bool eol] R w := by
  refine YtihmcipajjakgaaGreatDoor.trimSp_ok (min := 0) h hl (by omega) h2 ?_
  rw [Ln.lead_eq]
  exact hR

abbrev Ln.val (l : Ln) : Value := .agg #[.int .i64 l.sp, .int .i64 l.i, .int .i64 l.tab, .string (bs l.text), .int .u8 l.nl.toNat]

def Ln.quote (l : Ln) : Option Ln := ((l.lead 3 false).trimC 62).map fun t => t.lead 1 true
theorem trimQuote_ok {l : Ln} (h : Sat σ w L) (hl : l.ok)
    (hR : match l.quote with
      | some l' => ∀ w, Sat σ w L → R (.returned (.tuple #[l'.val, .bool true])) w
      | none => ∀ w, Sat σ w L → R (.returned (.tuple #[l.val, .bool false])) w) : callE P i_trimQuote #[l.val] R w := by
  refine g_trimQuote.sound ?_
  refine Sat.bx h fun b1 w h => ?_
  refine Sat.bx h fun b3 w h => ?_
  repeat (first | refine nilP_some ?_ | refine Sat.tk h fun w h => ?_ | refine ⟨_, Sat.ld h (by first | assumption | (repeat (first | exact .head _ | apply List.Mem.tail))) (by exact rfl), ?_⟩ | refine ⟨_, _, _, Sat.ld h (by first | assumption | (repeat (first | exact .head _ | apply List.Mem.tail))) (by exact rfl), ?_⟩ | refine Sat.st h (k := 0) rfl (Nat.le_of_ble_eq_true rfl) trivial (by first | (dsimp only [List.set]; exact rfl) | exact rfl) fun w h => ?_ | refine Sat.st h (k := 1) rfl (Nat.le_of_ble_eq_true rfl) trivial (by first | (dsimp only [List.set]; exact rfl) | exact rfl) fun w h => ?_ | refine Sat.st h (k := 2) rfl (Nat.le_of_ble_eq_true rfl) trivial (by first | (dsimp only [List.set]; exact rfl) | exact rfl) fun w h => ?_ | refine Sat.st h (k := 3) rfl (Nat.le_of_ble_eq_true rfl) trivial (by first | (dsimp only [List.set]; exact rfl) | exact rfl) fun w h => ?_ | refine Sat.st h (k := 4) rfl (Nat.le_of_ble_eq_true rfl) trivial (by first | (dsimp only [List.set]; exact rfl) | exact rfl) fun w h => ?_ | refine Sat.st h (k := 5) rfl (Nat.le_of_ble_eq_true rfl) trivial (by first | (dsimp only [List.set]; exact rfl) | exact rfl) fun w h => ?_ | refine Sat.st h (k := 6) rfl (Nat.le_of_ble_eq_true rfl) trivial (by first | (dsimp only [List.set]; exact rfl) | exact rfl) fun w h => ?_ | refine Sat.bx h fun b0 w h => ?_)
  have h : Sat σ _ (l.at b0 :: (b3, cel [.int .i64 0, .int .i64 0, .int .i64 0, .string (bs []), .int .u8 0] ty_line) :: l.at b1 :: L) := h
  refine lead_ok (max := 3) h hl (by decide) fun w h => ⟨_, rfl, ?_⟩
  refine trimC_ok (c := 62) rfl h (Ln.lead_ok hl) ?_
  simp only [Ln.quote] at hR
  cases hq : (l.lead 3 false).trimC 62 with
  | none =>
    rw [hq] at hR
    intro w h
    refine ⟨_, rfl, br_true rfl ?_⟩
    repeat (first | refine nilP_some ?_ | refine Sat.tk h fun w h => ?_ | refine ⟨_, Sat.ld h (by first | assumption | (repeat (first | exact .head _ | apply List.Mem.tail))) (by exact rfl), ?_⟩ | refine ⟨_, _, _, Sat.ld h (by first | assumption | (repeat (first | exact .head _ | apply List.Mem.tail))) (by exact rfl), ?_⟩ | refine Sat.st h (k := 0) rfl (Nat.le_of_ble_eq_true rfl) trivial (by first | (dsimp only [List.set]; exact rfl) | exact rfl) fun w h => ?_ | refine Sat.st h (k := 1) rfl (Nat.le_of_ble_eq_true rfl) trivial (by first | (dsimp only [List.set]; exact rfl) | exact rfl) fun w h => ?_ | refine Sat.st h (k := 2) rfl (Nat.le_of_ble_eq_true rfl) trivial (by first | (dsimp only [List.set]; exact rfl) | exact rfl) fun w h => ?_ | refine Sat.st h (k := 3) rfl (Nat.le_of_ble_eq_true rfl) trivial (by first | (dsimp only [List.set]; exact rfl) | exact rfl) fun w h => ?_ | refine Sat.st h (k := 4) rfl (Nat.le_of_ble_eq_true rfl) trivial (by first | (dsimp only [List.set]; exact rfl) | exact rfl) fun w h => ?_ | refine Sat.st h (k := 5) rfl (Nat.le_of_ble_eq_true rfl) trivial (by first | (dsimp only [List.set]; exact rfl) | exact rfl) fun w h => ?_ | refine Sat.st h (k := 6) rfl (Nat.le_of_ble_eq_true rfl) trivial (by first | (dsimp only [List.set]; exact rfl) | exact rfl) fun w h => ?_ | refine Sat.bx h fun b0 w h => ?_)
    exact hR _ h.tail.tail.tail
  | some t =>
    rw [hq] at hR
    intro w h
    refine ⟨_, rfl, br_false rfl ?_⟩
    refine lead_ok (max := 1) h (Ln.trimC_ok (Ln.lead_ok hl) hq) (by decide) fun w h => ⟨_, rfl, ?_⟩
    repeat (first | refine nilP_some ?_ | refine Sat.tk h fun w h => ?_ | refine ⟨_, Sat.ld h (by first | assumption | (repeat (first | exact .head _ | apply List.Mem.tail))) (by exact rfl), ?_⟩ | refine ⟨_, _, _, Sat.ld h (by first | assumption | (repeat (first | exact .head _ | apply List.Mem.tail))) (by exact rfl), ?_⟩ | refine Sat.st h (k := 0) rfl (Nat.le_of_ble_eq_true rfl) trivial (by first | (dsimp only [List.set]; exact rfl) | exact rfl) fun w h => ?_ | refine Sat.st h (k := 1) rfl (Nat.le_of_ble_eq_true rfl) trivial (by first | (dsimp only [List.set]; exact rfl) | exact rfl) fun w h => ?_ | refine Sat.st h (k := 2) rfl (Nat.le_of_ble_eq_true rfl) trivial (by first | (dsimp only [List.set]; exact rfl) | exact rfl) fun w h => ?_ | refine Sat.st h (k := 3) rfl (Nat.le_of_ble_eq_true rfl) trivial (by first | (dsimp only [List.set]; exact rfl) | exact rfl) fun w h => ?_ | refine Sat.st h (k := 4) rfl (Nat.le_of_ble_eq_true rfl) trivial (by first | (dsimp only [List.set]; exact rfl) | exact rfl) fun w h => ?_ | refine Sat.st h (k := 5) rfl (Nat.le_of_ble_eq_true rfl) trivial (by first | (dsimp only [List.set]; exact rfl) | exact rfl) fun w h => ?_ | refine Sat.st h (k := 6) rfl (Nat.le_of_ble_eq_true rfl) trivial (by first | (dsimp only [List.set]; exact rfl) | exact rfl) fun w h => ?_ | refine Sat.bx h fun b0 w h => ?_)
    exact hR _ h.tail.tail.tail
end Go.Proofs.YtihmcipajjakgaaGreatDoor


set_option linter.unusedVariables false
namespace Go.Proofs.YtihmcipajjakgaaGreatDoor
open Go.Proofs Go.IntWalk
variable {σ : Out} {w : World} {L L' : List Chunk} {R : Ending → World → Prop}

theorem u8b (c d : UInt8) (n : Int) (hd : (d.toNat : Int) = n) : (((c.toNat : Nat) : Int) == n) = (c == d) := by subst hd; exact u8_beq c d

def Ln.hrGo (c : UInt8) : Nat → Nat → Ln → Bool
  | 0, _, _ => false
  | f + 1, n, l => match l.trimC c with
    | none => decide (3 ≤ n) && decide (l.text.length ≤ l.i)
    | some l' => l'.skip.hrGo c f (n + 1)
def Ln.isHR (l : Ln) : Bool :=
  let t := l.lead 3 false
  if t.peek = 45 ∨ t.peek = 95 ∨ t.peek = 42 then t.hrGo t.peek (t.text.length + 1) 0 else false
theorem Ln.skip_ge {l : Ln} (hl : l.ok) : l.i ≤ l.skip.i := by
  have h1 := hl.i
  have h3 := (List.dropWhile_sublist isST (l := l.text.drop l.i)).length_le
  rw [List.length_drop] at h3
  simp only [Ln.skip]; omega
theorem isHR_ok {l : Ln} (h : Sat σ w L) (hl : l.ok) (hR : ∀ w, Sat σ w L → R (.returned (.bool l.isHR)) w) : callE P i_isHR #[l.val] R w := by
  refine g_isHR.sound ?_
  refine Sat.bx h fun b1 w h => ?_
  repeat (first | refine nilP_some ?_ | refine Sat.tk h fun w h => ?_ | refine ⟨_, Sat.ld h (by first | assumption | (repeat (first | exact .head _ | apply List.Mem.tail))) (by exact rfl), ?_⟩ | refine ⟨_, _, _, Sat.ld h (by first | assumption | (repeat (first | exact .head _ | apply List.Mem.tail))) (by exact rfl), ?_⟩ | refine Sat.st h (k := 0) rfl (Nat.le_of_ble_eq_true rfl) trivial (by first | (dsimp only [List.set]; exact rfl) | exact rfl) fun w h => ?_ | refine Sat.st h (k := 1) rfl (Nat.le_of_ble_eq_true rfl) trivial (by first | (dsimp only [List.set]; exact rfl) | exact rfl) fun w h => ?_ | refine Sat.st h (k := 2) rfl (Nat.le_of_ble_eq_true rfl) trivial (by first | (dsimp only [List.set]; exact rfl) | exact rfl) fun w h => ?_ | refine Sat.st h (k := 3) rfl (Nat.le_of_ble_eq_true rfl) trivial (by first | (dsimp only [List.set]; exact rfl) | exact rfl) fun w h => ?_ | refine Sat.st h (k := 4) rfl (Nat.le_of_ble_eq_true rfl) trivial (by first | (dsimp only [List.set]; exact rfl) | exact rfl) fun w h => ?_ | refine Sat.st h (k := 5) rfl (Nat.le_of_ble_eq_true rfl) trivial (by first | (dsimp only [List.set]; exact rfl) | exact rfl) fun w h => ?_ | refine Sat.st h (k := 6) rfl (Nat.le_of_ble_eq_true rfl) trivial (by first | (dsimp only [List.set]; exact rfl) | exact rfl) fun w h => ?_ | refine Sat.bx h fun b0 w h => ?_)
  have h : Sat σ _ (l.at b0 :: l.at b1 :: L) := h
  refine lead_ok (max := 3) h hl (by decide) fun w h => ⟨_, rfl, ?_⟩
  have ht := Ln.lead_ok (m := 3) (eol := false) hl
  refine peek_ok h (by first | assumption | (repeat (first | exact .head _ | apply List.Mem.tail))) ht fun w h => ⟨_, rfl, ?_⟩
  generalize hg : l.lead 3 false = t at *
  have hi : l.isHR = if t.peek = 45 ∨ t.peek = 95 ∨ t.peek = 42 then t.hrGo t.peek (t.text.length + 1) 0 else false := by simp only [Ln.isHR, hg]
  have loop : ∀ (c : UInt8), c ≠ 32 → ∀ f n (t : Ln) w, t.ok → t.text.length - t.i < f → n ≤ t.i → Sat σ w (t.at b0 :: l.at b1 :: L) → (∀ w, Sat σ w L → R (.returned (.bool (t.hrGo c f n))) w) →
      g_isHR.l1 R b0 c.toNat n w := by
    intro c hc f n t w ht hf hn h hR X hX
    induction f generalizing n t w with
    | zero => omega
    | succ f ih =>
      refine hX _ _ _ _ ?_
      refine trimC_ok (c := c) rfl h ht ?_
      simp only [Ln.hrGo] at hR
      have h1 := ht.i; have h4 := ht.len
      cases hq : t.trimC c with
      | none =>
        rw [hq] at hR
        intro w h
        refine ⟨_, rfl, br_true rfl ?_⟩
        refine br_split (fun h3 => ?_) (fun h3 => ?_)
        · refine eof_ok h (by first | assumption | (repeat (first | exact .head _ | apply List.Mem.tail))) fun w h => ⟨_, rfl, ?_⟩
          have := hR _ h.tail.tail
          rw [show decide (3 ≤ n) = true by simp at h3 ⊢; omega, Bool.true_and] at this
          exact this
        · have := hR _ h.tail.tail
          rw [show decide (3 ≤ n) = false by simp at h3 ⊢; omega, Bool.false_and] at this
          exact this
      | some t' =>
        rw [hq] at hR
        intro w h
        refine ⟨_, rfl, br_false rfl ?_⟩
        have ht' := Ln.trimC_ok ht hq
        refine skipSpace_ok h ht' fun w h => ⟨rfl, ?_⟩
        have hd : t'.i = t.i + 1 ∧ t'.text = t.text := by
          simp only [Ln.trimC, hc, if_false] at hq
          split at hq
          · cases hq
          · split at hq
            · cases hq; exact ⟨rfl, rfl⟩
            · cases hq
        have hge := Ln.skip_ge ht'
        have htl : t'.skip.text = t.text := hd.2
        rw [i64_inc (by omega)]
        have hge2 := ht'.i
        rw [hd.2] at hge2
        exact ih (n + 1) t'.skip _ (Ln.skip_ok ht') (by rw [htl]; omega) (by omega) h hR
  have fin : (t.peek = 45 ∨ t.peek = 95 ∨ t.peek = 42) → Sat σ w (t.at b0 :: l.at b1 :: L) → g_isHR.k1 R b0 t.peek.toNat true w := by
    intro hp h
    rw [if_pos hp] at hi
    refine br_true rfl ?_
    refine loop t.peek (by rcases hp with hp | hp | hp <;> rw [hp] <;> decide) (t.text.length + 1) 0 t w ht (by omega) (by omega) h (by rw [← hi]; exact hR)
  rw [u8b _ 45 45 rfl, u8b _ 95 95 rfl, u8b _ 42 42 rfl]
  refine br_split (fun hp => fin (.inl (by simpa using hp)) h) (fun h45 => br_split (fun hp => fin (.inr (.inl (by simpa using hp))) h) (fun h95 => ?_))
  by_cases hp : t.peek = 42
  · rw [show (t.peek == 42) = true by simpa using hp]
    exact fin (.inr (.inr hp)) h
  · rw [show (t.peek == 42) = false by simpa using hp]
    have := hR _ h.tail.tail
    rw [hi, if_neg (by simp at h45 h95; simp [h45, h95, hp])] at this
    exact br_false rfl this
end Go.Proofs.YtihmcipajjakgaaGreatDoor


set_option linter.unusedVariables false
namespace Go.Proofs.YtihmcipajjakgaaGreatDoor
open Go.Proofs Go.IntWalk
variable {σ : Out} {w : World} {L L' : List Chunk} {R : Ending → World → Prop}

theorem newQuote_no {x : Value} {q : Option Addr} {l : Ln} (h : Sat σ w L) (hl : l.ok) (hq : l.quote = none)
    (hR : ∀ w, Sat σ w L → R (.returned (.tuple #[l.val, .bool false])) w) : callE P i_newQuote #[.pointer q, l.val] R w := by
  refine g_newQuote.sound ?_
  refine Sat.bx h fun b1 w h => ?_
  refine Sat.bx h fun b3 w h => ?_
  repeat (first | refine nilP_some ?_ | refine Sat.tk h fun w h => ?_ | refine ⟨_, Sat.ld h (by first | assumption | (repeat (first | exact .head _ | apply List.Mem.tail))) (by exact rfl), ?_⟩ | refine ⟨_, _, _, Sat.ld h (by first | assumption | (repeat (first | exact .head _ | apply List.Mem.tail))) (by exact rfl), ?_⟩)
  refine trimQuote_ok (l := l) h hl ?_
  rw [hq]
  intro w h
  refine ⟨_, _, _, _, _, _, rfl, ?_⟩
  refine Sat.bx h fun b4 w h => ?_
  repeat (first | refine nilP_some ?_ | refine Sat.tk h fun w h => ?_ | refine ⟨_, Sat.ld h (by first | assumption | (repeat (first | exact .head _ | apply List.Mem.tail))) (by exact rfl), ?_⟩ | refine ⟨_, _, _, Sat.ld h (by first | assumption | (repeat (first | exact .head _ | apply List.Mem.tail))) (by exact rfl), ?_⟩ | refine Sat.st h (k := 0) rfl (Nat.le_of_ble_eq_true rfl) trivial (by first | (dsimp only [List.set]; exact rfl) | exact rfl) fun w h => ?_ | refine Sat.st h (k := 1) rfl (Nat.le_of_ble_eq_true rfl) trivial (by first | (dsimp only [List.set]; exact rfl) | exact rfl) fun w h => ?_ | refine Sat.st h (k := 2) rfl (Nat.le_of_ble_eq_true rfl) trivial (by first | (dsimp only [List.set]; exact rfl) | exact rfl) fun w h => ?_ | refine Sat.st h (k := 3) rfl (Nat.le_of_ble_eq_true rfl) trivial (by first | (dsimp only [List.set]; exact rfl) | exact rfl) fun w h => ?_ | refine Sat.st h (k := 4) rfl (Nat.le_of_ble_eq_true rfl) trivial (by first | (dsimp only [List.set]; exact rfl) | exact rfl) fun w h => ?_ | refine Sat.st h (k := 5) rfl (Nat.le_of_ble_eq_true rfl) trivial (by first | (dsimp only [List.set]; exact rfl) | exact rfl) fun w h => ?_ | refine Sat.st h (k := 6) rfl (Nat.le_of_ble_eq_true rfl) trivial (by first | (dsimp only [List.set]; exact rfl) | exact rfl) fun w h => ?_ | refine Sat.bx h fun b0 w h => ?_)
  exact hR _ h.tail.tail.tail
theorem newHR_no {q : Option Addr} {l : Ln} (h : Sat σ w L) (hl : l.ok) (hq : l.isHR = false)
    (hR : ∀ w, Sat σ w L → R (.returned (.tuple #[l.val, .bool false])) w) : callE P i_newHR #[.pointer q, l.val] R w := by
  refine g_newHR.sound ?_
  refine Sat.bx h fun b1 w h => ?_
  refine Sat.bx h fun b3 w h => ?_
  repeat (first | refine nilP_some ?_ | refine Sat.tk h fun w h => ?_ | refine ⟨_, Sat.ld h (by first | assumption | (repeat (first | exact .head _ | apply List.Mem.tail))) (by exact rfl), ?_⟩ | refine ⟨_, _, _, Sat.ld h (by first | assumption | (repeat (first | exact .head _ | apply List.Mem.tail))) (by exact rfl), ?_⟩)
  refine isHR_ok (l := l) h hl fun w h => ⟨_, rfl, ?_⟩
  rw [hq]
  repeat (first | refine nilP_some ?_ | refine Sat.tk h fun w h => ?_ | refine ⟨_, Sat.ld h (by first | assumption | (repeat (first | exact .head _ | apply List.Mem.tail))) (by exact rfl), ?_⟩ | refine ⟨_, _, _, Sat.ld h (by first | assumption | (repeat (first | exact .head _ | apply List.Mem.tail))) (by exact rfl), ?_⟩ | refine Sat.st h (k := 0) rfl (Nat.le_of_ble_eq_true rfl) trivial (by first | (dsimp only [List.set]; exact rfl) | exact rfl) fun w h => ?_ | refine Sat.st h (k := 1) rfl (Nat.le_of_ble_eq_true rfl) trivial (by first | (dsimp only [List.set]; exact rfl) | exact rfl) fun w h => ?_ | refine Sat.st h (k := 2) rfl (Nat.le_of_ble_eq_true rfl) trivial (by first | (dsimp only [List.set]; exact rfl) | exact rfl) fun w h => ?_ | refine Sat.st h (k := 3) rfl (Nat.le_of_ble_eq_true rfl) trivial (by first | (dsimp only [List.set]; exact rfl) | exact rfl) fun w h => ?_ | refine Sat.st h (k := 4) rfl (Nat.le_of_ble_eq_true rfl) trivial (by first | (dsimp only [List.set]; exact rfl) | exact rfl) fun w h => ?_ | refine Sat.st h (k := 5) rfl (Nat.le_of_ble_eq_true rfl) trivial (by first | (dsimp only [List.set]; exact rfl) | exact rfl) fun w h => ?_ | refine Sat.st h (k := 6) rfl (Nat.le_of_ble_eq_true rfl) trivial (by first | (dsimp only [List.set]; exact rfl) | exact rfl) fun w h => ?_ | refine Sat.bx h fun b0 w h => ?_)
  exact hR _ h.tail.tail

def Ln.hashes : Nat → Nat → Ln → Nat × Ln
  | 0, n, l => (n, l)
  | k + 1, n, l => match l.trimC 35 with
    | none => (n, l)
    | some l' => l'.hashes k (n + 1)
def Ln.heading (l : Ln) : Option (Nat × Ln) :=
  match (l.lead 3 false).trimC 35 with
  | none => none
  | some t => ((t.hashes 5 1).2.trimSp 1 1 true).map fun t' => ((t.hashes 5 1).1, t')
theorem trimHeading_ok {b nb : Nat} {l : Ln} {v : Int} {e : TypeId} (h : Sat σ w (l.at b :: (nb, cel [.int .i64 v] e) :: L)) (hl : l.ok)
    (hR : match l.heading with
      | some (n, l') => ∀ w, Sat σ w (l'.at b :: (nb, cel [.int .i64 n] e) :: L) → R (.returned (.bool true)) w
      | none => ∀ w, Sat σ w (l.at b :: (nb, cel [.int .i64 v] e) :: L) → R (.returned (.bool false)) w) :
    callE P i_line_trimHeading #[.pointer (some ⟨b, 0, none⟩), .pointer (some ⟨nb, 0, none⟩)] R w := by
  refine g_line_trimHeading.sound ?_
  repeat (first | refine nilP_some ?_ | refine Sat.tk h fun w h => ?_ | refine ⟨_, Sat.ld h (by first | assumption | (repeat (first | exact .head _ | apply List.Mem.tail))) (by exact rfl), ?_⟩ | refine ⟨_, _, _, Sat.ld h (by first | assumption | (repeat (first | exact .head _ | apply List.Mem.tail))) (by exact rfl), ?_⟩ | refine Sat.st h (k := 0) rfl (Nat.le_of_ble_eq_true rfl) trivial (by first | (dsimp only [List.set]; exact rfl) | exact rfl) fun w h => ?_ | refine Sat.st h (k := 1) rfl (Nat.le_of_ble_eq_true rfl) trivial (by first | (dsimp only [List.set]; exact rfl) | exact rfl) fun w h => ?_ | refine Sat.st h (k := 2) rfl (Nat.le_of_ble_eq_true rfl) trivial (by first | (dsimp only [List.set]; exact rfl) | exact rfl) fun w h => ?_ | refine Sat.st h (k := 3) rfl (Nat.le_of_ble_eq_true rfl) trivial (by first | (dsimp only [List.set]; exact rfl) | exact rfl) fun w h => ?_ | refine Sat.st h (k := 4) rfl (Nat.le_of_ble_eq_true rfl) trivial (by first | (dsimp only [List.set]; exact rfl) | exact rfl) fun w h => ?_ | refine Sat.st h (k := 5) rfl (Nat.le_of_ble_eq_true rfl) trivial (by first | (dsimp only [List.set]; exact rfl) | exact rfl) fun w h => ?_ | refine Sat.st h (k := 6) rfl (Nat.le_of_ble_eq_true rfl) trivial (by first | (dsimp only [List.set]; exact rfl) | exact rfl) fun w h => ?_ | refine Sat.bx h fun b0 w h => ?_)
  have h : Sat σ _ (l.at b0 :: l.at b :: (nb, cel [.int .i64 v] e) :: L) := h
  refine lead_ok (max := 3) h hl (by decide) fun w h => ⟨_, rfl, ?_⟩
  have ht := Ln.lead_ok (m := 3) (eol := false) hl
  refine trimC_ok (c := 35) rfl h ht ?_
  simp only [Ln.heading] at hR
  cases hq : (l.lead 3 false).trimC 35 with
  | none =>
    rw [hq] at hR
    exact fun w h => ⟨_, rfl, br_true rfl (hR _ h.tail)⟩
  | some t =>
    rw [hq] at hR
    intro w h
    refine ⟨_, rfl, br_false rfl ?_⟩
    have ht := Ln.trimC_ok ht hq
    have fin : ∀ (n : Nat) (t' : Ln) w, t'.ok → Sat σ w (t'.at b0 :: l.at b :: (nb, cel [.int .i64 v] e) :: L) →
        (match (t'.trimSp 1 1 true).map fun t' => (n, t') with
        | some (n, l') => ∀ w, Sat σ w (l'.at b :: (nb, cel [.int .i64 n] e) :: L) → R (.returned (.bool true)) w
        | none => ∀ w, Sat σ w (l.at b :: (nb, cel [.int .i64 v] e) :: L) → R (.returned (.bool false)) w) →
        g_line_trimHeading.k1 R (some ⟨b, 0, none⟩) (some ⟨nb, 0, none⟩) b0 n w := by
      intro n t' w ht' h hR
      refine YtihmcipajjakgaaGreatDoor.trimSp_ok (min := 1) (max := 1) h ht' (by decide) (by decide) ?_
      cases hs : t'.trimSp 1 1 true with
      | none =>
        rw [hs] at hR
        exact fun w h => ⟨_, rfl, br_true rfl (hR _ h.tail)⟩
      | some t2 =>
        rw [hs] at hR
        intro w h
        refine ⟨_, rfl, br_false rfl ?_⟩
        repeat (first | refine nilP_some ?_ | refine Sat.tk h fun w h => ?_ | refine ⟨_, Sat.ld h (by first | assumption | (repeat (first | exact .head _ | apply List.Mem.tail))) (by exact rfl), ?_⟩ | refine ⟨_, _, _, Sat.ld h (by first | assumption | (repeat (first | exact .head _ | apply List.Mem.tail))) (by exact rfl), ?_⟩ | refine Sat.st h (k := 0) rfl (Nat.le_of_ble_eq_true rfl) trivial (by first | (dsimp only [List.set]; exact rfl) | exact rfl) fun w h => ?_ | refine Sat.st h (k := 1) rfl (Nat.le_of_ble_eq_true rfl) trivial (by first | (dsimp only [List.set]; exact rfl) | exact rfl) fun w h => ?_ | refine Sat.st h (k := 2) rfl (Nat.le_of_ble_eq_true rfl) trivial (by first | (dsimp only [List.set]; exact rfl) | exact rfl) fun w h => ?_ | refine Sat.st h (k := 3) rfl (Nat.le_of_ble_eq_true rfl) trivial (by first | (dsimp only [List.set]; exact rfl) | exact rfl) fun w h => ?_ | refine Sat.st h (k := 4) rfl (Nat.le_of_ble_eq_true rfl) trivial (by first | (dsimp only [List.set]; exact rfl) | exact rfl) fun w h => ?_ | refine Sat.st h (k := 5) rfl (Nat.le_of_ble_eq_true rfl) trivial (by first | (dsimp only [List.set]; exact rfl) | exact rfl) fun w h => ?_ | refine Sat.st h (k := 6) rfl (Nat.le_of_ble_eq_true rfl) trivial (by first | (dsimp only [List.set]; exact rfl) | exact rfl) fun w h => ?_ | refine Sat.bx h fun b0 w h => ?_)
        have h : Sat σ _ (t2.at b0 :: t2.at b :: (nb, cel [.int .i64 n] e) :: L) := h
        exact hR _ h.tail
    have loop : ∀ k n (t : Ln) w, t.ok → k + n = 6 → Sat σ w (t.at b0 :: l.at b :: (nb, cel [.int .i64 v] e) :: L) →
        (match ((t.hashes k n).2.trimSp 1 1 true).map fun t' => ((t.hashes k n).1, t') with
        | some (n, l') => ∀ w, Sat σ w (l'.at b :: (nb, cel [.int .i64 n] e) :: L) → R (.returned (.bool true)) w
        | none => ∀ w, Sat σ w (l.at b :: (nb, cel [.int .i64 v] e) :: L) → R (.returned (.bool false)) w) →
        g_line_trimHeading.l1 R (some ⟨b, 0, none⟩) (some ⟨nb, 0, none⟩) b0 n w := by
      intro k n t w ht hk h hR X hX
      induction k generalizing n t w with
      | zero => exact hX _ _ _ _ _ (br_false (by simp; omega) (fin n t w ht h hR))
      | succ k ih =>
        refine hX _ _ _ _ _ (br_true (by simp; omega) ?_)
        refine trimC_ok (c := 35) rfl h ht ?_
        simp only [Ln.hashes] at hR
        cases hq : t.trimC 35 with
        | none =>
          rw [hq] at hR
          exact fun w h => ⟨_, rfl, br_false rfl (fin n t w ht h hR)⟩
        | some t' =>
          rw [hq] at hR
          intro w h
          refine ⟨_, rfl, br_true rfl ?_⟩
          rw [i64_inc (by omega)]
          exact ih (n + 1) t' w (Ln.trimC_ok ht hq) (by omega) h hR
    exact loop 5 1 t w ht rfl h hR
theorem newATX_no {q : Option Addr} {l : Ln} (h : Sat σ w L) (hl : l.ok) (hq : l.heading = none)
    (hR : ∀ w, Sat σ w L → R (.returned (.tuple #[l.val, .bool false])) w) : callE P i_newATXHeading #[.pointer q, l.val] R w := by
  refine g_newATXHeading.sound ?_
  refine Sat.bx h fun b1 w h => ?_
  refine Sat.bx h fun b3 w h => ?_
  repeat (first | refine nilP_some ?_ | refine Sat.tk h fun w h => ?_ | refine ⟨_, Sat.ld h (by first | assumption | (repeat (first | exact .head _ | apply List.Mem.tail))) (by exact rfl), ?_⟩ | refine ⟨_, _, _, Sat.ld h (by first | assumption | (repeat (first | exact .head _ | apply List.Mem.tail))) (by exact rfl), ?_⟩)
  refine Sat.bx h fun b4 w h => ?_
  repeat (first | refine nilP_some ?_ | refine Sat.tk h fun w h => ?_ | refine ⟨_, Sat.ld h (by first | assumption | (repeat (first | exact .head _ | apply List.Mem.tail))) (by exact rfl), ?_⟩ | refine ⟨_, _, _, Sat.ld h (by first | assumption | (repeat (first | exact .head _ | apply List.Mem.tail))) (by exact rfl), ?_⟩ | refine Sat.st h (k := 0) rfl (Nat.le_of_ble_eq_true rfl) trivial (by first | (dsimp only [List.set]; exact rfl) | exact rfl) fun w h => ?_ | refine Sat.st h (k := 1) rfl (Nat.le_of_ble_eq_true rfl) trivial (by first | (dsimp only [List.set]; exact rfl) | exact rfl) fun w h => ?_ | refine Sat.st h (k := 2) rfl (Nat.le_of_ble_eq_true rfl) trivial (by first | (dsimp only [List.set]; exact rfl) | exact rfl) fun w h => ?_ | refine Sat.st h (k := 3) rfl (Nat.le_of_ble_eq_true rfl) trivial (by first | (dsimp only [List.set]; exact rfl) | exact rfl) fun w h => ?_ | refine Sat.st h (k := 4) rfl (Nat.le_of_ble_eq_true rfl) trivial (by first | (dsimp only [List.set]; exact rfl) | exact rfl) fun w h => ?_ | refine Sat.st h (k := 5) rfl (Nat.le_of_ble_eq_true rfl) trivial (by first | (dsimp only [List.set]; exact rfl) | exact rfl) fun w h => ?_ | refine Sat.st h (k := 6) rfl (Nat.le_of_ble_eq_true rfl) trivial (by first | (dsimp only [List.set]; exact rfl) | exact rfl) fun w h => ?_ | refine Sat.bx h fun b0 w h => ?_)
  have h : Sat σ _ ((b0, cel [.int .i64 0] ty_int) :: l.at b4 :: (b3, cel [.int .i64 0, .int .i64 0, .int .i64 0, .string (bs []), .int .u8 0] ty_line) :: l.at b1 :: L) := h
  refine trimHeading_ok h.up1 hl ?_
  rw [hq]
  intro w h
  refine ⟨_, rfl, br_false rfl ?_⟩
  repeat (first | refine nilP_some ?_ | refine Sat.tk h fun w h => ?_ | refine ⟨_, Sat.ld h (by first | assumption | (repeat (first | exact .head _ | apply List.Mem.tail))) (by exact rfl), ?_⟩ | refine ⟨_, _, _, Sat.ld h (by first | assumption | (repeat (first | exact .head _ | apply List.Mem.tail))) (by exact rfl), ?_⟩ | refine Sat.st h (k := 0) rfl (Nat.le_of_ble_eq_true rfl) trivial (by first | (dsimp only [List.set]; exact rfl) | exact rfl) fun w h => ?_ | refine Sat.st h (k := 1) rfl (Nat.le_of_ble_eq_true rfl) trivial (by first | (dsimp only [List.set]; exact rfl) | exact rfl) fun w h => ?_ | refine Sat.st h (k := 2) rfl (Nat.le_of_ble_eq_true rfl) trivial (by first | (dsimp only [List.set]; exact rfl) | exact rfl) fun w h => ?_ | refine Sat.st h (k := 3) rfl (Nat.le_of_ble_eq_true rfl) trivial (by first | (dsimp only [List.set]; exact rfl) | exact rfl) fun w h => ?_ | refine Sat.st h (k := 4) rfl (Nat.le_of_ble_eq_true rfl) trivial (by first | (dsimp only [List.set]; exact rfl) | exact rfl) fun w h => ?_ | refine Sat.st h (k := 5) rfl (Nat.le_of_ble_eq_true rfl) trivial (by first | (dsimp only [List.set]; exact rfl) | exact rfl) fun w h => ?_ | refine Sat.st h (k := 6) rfl (Nat.le_of_ble_eq_true rfl) trivial (by first | (dsimp only [List.set]; exact rfl) | exact rfl) fun w h => ?_ | refine Sat.bx h fun b0 w h => ?_)
  exact hR _ h.tail.tail.tail.tail
end Go.Proofs.YtihmcipajjakgaaGreatDoor


set_option linter.unusedVariables false
namespace Go.Proofs.YtihmcipajjakgaaGreatDoor
open Go.Proofs Go.IntWalk
variable {σ : Out} {w : World} {L L' : List Chunk} {R : Ending → World → Prop}

theorem startHTML_no {b : Nat} {q : Option Addr} {l : Ln} (h : Sat σ w (l.at b :: L)) (hl : l.ok) (hp : (l.lead 3 false).peek ≠ 60)
    (hR : ∀ w, Sat σ w (l.at b :: L) → R (.returned (.bool false)) w) : callE P i_parseState_startHTML #[.pointer q, .pointer (some ⟨b, 0, none⟩)] R w := by
  refine g_parseState_startHTML.sound ?_
  repeat (first | refine nilP_some ?_ | refine Sat.tk h fun w h => ?_ | refine ⟨_, Sat.ld h (by first | assumption | (repeat (first | exact .head _ | apply List.Mem.tail))) (by exact rfl), ?_⟩ | refine ⟨_, _, _, Sat.ld h (by first | assumption | (repeat (first | exact .head _ | apply List.Mem.tail))) (by exact rfl), ?_⟩ | refine Sat.st h (k := 0) rfl (Nat.le_of_ble_eq_true rfl) trivial (by first | (dsimp only [List.set]; exact rfl) | exact rfl) fun w h => ?_ | refine Sat.st h (k := 1) rfl (Nat.le_of_ble_eq_true rfl) trivial (by first | (dsimp only [List.set]; exact rfl) | exact rfl) fun w h => ?_ | refine Sat.st h (k := 2) rfl (Nat.le_of_ble_eq_true rfl) trivial (by first | (dsimp only [List.set]; exact rfl) | exact rfl) fun w h => ?_ | refine Sat.st h (k := 3) rfl (Nat.le_of_ble_eq_true rfl) trivial (by first | (dsimp only [List.set]; exact rfl) | exact rfl) fun w h => ?_ | refine Sat.st h (k := 4) rfl (Nat.le_of_ble_eq_true rfl) trivial (by first | (dsimp only [List.set]; exact rfl) | exact rfl) fun w h => ?_ | refine Sat.st h (k := 5) rfl (Nat.le_of_ble_eq_true rfl) trivial (by first | (dsimp only [List.set]; exact rfl) | exact rfl) fun w h => ?_ | refine Sat.st h (k := 6) rfl (Nat.le_of_ble_eq_true rfl) trivial (by first | (dsimp only [List.set]; exact rfl) | exact rfl) fun w h => ?_ | refine Sat.bx h fun b0 w h => ?_)
  have h : Sat σ _ (l.at b0 :: l.at b :: L) := h
  refine lead_ok (max := 3) h hl (by decide) fun w h => ⟨_, rfl, ?_⟩
  refine peek_ok h (by first | assumption | (repeat (first | exact .head _ | apply List.Mem.tail))) (Ln.lead_ok hl) fun w h => ⟨_, rfl, ?_⟩
  refine br_true ?_ (hR _ h.tail)
  rw [bne, u8b _ 60 60 rfl]
  simpa using hp
theorem newHTML_no {q : Option Addr} {l : Ln} (h : Sat σ w L) (hl : l.ok) (hp : (l.lead 3 false).peek ≠ 60)
    (hR : ∀ w, Sat σ w L → R (.returned (.tuple #[l.val, .bool false])) w) : callE P i_newHTML #[.pointer q, l.val] R w := by
  refine g_newHTML.sound ?_
  refine Sat.bx h fun b1 w h => ?_
  refine Sat.bx h fun b3 w h => ?_
  repeat (first | refine nilP_some ?_ | refine Sat.tk h fun w h => ?_ | refine ⟨_, Sat.ld h (by first | assumption | (repeat (first | exact .head _ | apply List.Mem.tail))) (by exact rfl), ?_⟩ | refine ⟨_, _, _, Sat.ld h (by first | assumption | (repeat (first | exact .head _ | apply List.Mem.tail))) (by exact rfl), ?_⟩ | refine Sat.st h (k := 0) rfl (Nat.le_of_ble_eq_true rfl) trivial (by first | (dsimp only [List.set]; exact rfl) | exact rfl) fun w h => ?_ | refine Sat.st h (k := 1) rfl (Nat.le_of_ble_eq_true rfl) trivial (by first | (dsimp only [List.set]; exact rfl) | exact rfl) fun w h => ?_ | refine Sat.st h (k := 2) rfl (Nat.le_of_ble_eq_true rfl) trivial (by first | (dsimp only [List.set]; exact rfl) | exact rfl) fun w h => ?_ | refine Sat.st h (k := 3) rfl (Nat.le_of_ble_eq_true rfl) trivial (by first | (dsimp only [List.set]; exact rfl) | exact rfl) fun w h => ?_ | refine Sat.st h (k := 4) rfl (Nat.le_of_ble_eq_true rfl) trivial (by first | (dsimp only [List.set]; exact rfl) | exact rfl) fun w h => ?_ | refine Sat.st h (k := 5) rfl (Nat.le_of_ble_eq_true rfl) trivial (by first | (dsimp only [List.set]; exact rfl) | exact rfl) fun w h => ?_ | refine Sat.st h (k := 6) rfl (Nat.le_of_ble_eq_true rfl) trivial (by first | (dsimp only [List.set]; exact rfl) | exact rfl) fun w h => ?_ | refine Sat.bx h fun b0 w h => ?_)
  have h : Sat σ _ (l.at b0 :: (b3, cel [.int .i64 0, .int .i64 0, .int .i64 0, .string (bs []), .int .u8 0] ty_line) :: l.at b1 :: L) := h
  refine startHTML_no h hl hp fun w h => ⟨_, rfl, br_false rfl ?_⟩
  repeat (first | refine nilP_some ?_ | refine Sat.tk h fun w h => ?_ | refine ⟨_, Sat.ld h (by first | assumption | (repeat (first | exact .head _ | apply List.Mem.tail))) (by exact rfl), ?_⟩ | refine ⟨_, _, _, Sat.ld h (by first | assumption | (repeat (first | exact .head _ | apply List.Mem.tail))) (by exact rfl), ?_⟩ | refine Sat.st h (k := 0) rfl (Nat.le_of_ble_eq_true rfl) trivial (by first | (dsimp only [List.set]; exact rfl) | exact rfl) fun w h => ?_ | refine Sat.st h (k := 1) rfl (Nat.le_of_ble_eq_true rfl) trivial (by first | (dsimp only [List.set]; exact rfl) | exact rfl) fun w h => ?_ | refine Sat.st h (k := 2) rfl (Nat.le_of_ble_eq_true rfl) trivial (by first | (dsimp only [List.set]; exact rfl) | exact rfl) fun w h => ?_ | refine Sat.st h (k := 3) rfl (Nat.le_of_ble_eq_true rfl) trivial (by first | (dsimp only [List.set]; exact rfl) | exact rfl) fun w h => ?_ | refine Sat.st h (k := 4) rfl (Nat.le_of_ble_eq_true rfl) trivial (by first | (dsimp only [List.set]; exact rfl) | exact rfl) fun w h => ?_ | refine Sat.st h (k := 5) rfl (Nat.le_of_ble_eq_true rfl) trivial (by first | (dsimp only [List.set]; exact rfl) | exact rfl) fun w h => ?_ | refine Sat.st h (k := 6) rfl (Nat.le_of_ble_eq_true rfl) trivial (by first | (dsimp only [List.set]; exact rfl) | exact rfl) fun w h => ?_ | refine Sat.bx h fun b0 w h => ?_)
  exact hR _ h.tail.tail.tail

theorem top_ok {b : Nat} {p : PS} {l : List OB} {o : OB} {M : List Chunk} (h : Sat σ w (p.at b :: M ++ L)) (hs : Stk p (l ++ [o]) M) {t : TypeId} {v : Value} (ho : o.bd = .iface t v)
    (hR : ∀ w, Sat σ w (p.at b :: M ++ L) → R (.returned (if t = ty_P_paraBuilder then v else .pointer none)) w) (hv : t = ty_P_paraBuilder → ∃ q, v = .pointer q) :
    callE P i_parseState_para #[.pointer (some ⟨b, 0, none⟩)] R w := by
  obtain ⟨sb, sp, hq, rfl, hsp⟩ := hs.split (by simp)
  have hn := hs.2.1
  have hlt := hs.2.2
  rw [List.length_append, List.length_singleton] at hn hlt
  refine g_parseState_para.sound ?_
  repeat (first | refine nilP_some ?_ | refine Sat.tk h fun w h => ?_ | refine ⟨_, Sat.ld h (by first | assumption | (repeat (first | exact .head _ | apply List.Mem.tail))) (by exact rfl), ?_⟩ | refine ⟨_, _, _, Sat.ld h (by first | assumption | (repeat (first | exact .head _ | apply List.Mem.tail))) (by exact rfl), ?_⟩)
  rw [hn, len_dec (by omega)]
  refine ⟨by omega, by omega, ?_⟩
  rw [hq]
  refine nilP_some ?_
  simp only [Addr.add_lit, Nat.zero_add, Int.toNat_natCast]
  refine ⟨o.bd, Sat.ld h (by first | assumption | (repeat (first | exact .head _ | apply List.Mem.tail))) (stk_get (f := 0) (by decide) (last_get o)), ?_⟩
  rw [ho]
  have hund : P.underlying ty_P_paraBuilder = some (.pointer ty_paraBuilder) := by kernel_rfl
  by_cases ht : t = ty_P_paraBuilder
  · obtain ⟨q, rfl⟩ := hv ht
    subst ht
    have := hR _ h
    rw [if_pos rfl] at this
    exact ⟨q, true, fun w => ta_yes (by rw [hund]; intro ms h; cases h) hund w, br_true rfl this⟩
  · have := hR _ h
    rw [if_neg ht] at this
    refine ⟨none, false, fun w => ?_, br_false rfl this⟩
    exact ta_no (by rw [hund]; intro ms h; cases h) hund ht (i := (P.info? ty_P_paraBuilder).getD default) (by kernel_rfl) (by kernel_rfl) w
end Go.Proofs.YtihmcipajjakgaaGreatDoor


set_option linter.unusedVariables false
namespace Go.Proofs.YtihmcipajjakgaaGreatDoor
open Go.Proofs Go.IntWalk
variable {σ : Out} {w : World} {L L' : List Chunk} {R : Ending → World → Prop}

def Ln.strip : Nat → Nat → Ln → Nat × Ln
  | 0, n, l => (n, l)
  | k + 1, n, l => match l.trimSp 1 1 false with
    | none => (n, l)
    | some l' => l'.strip k (n + 1)
def isBullet (c : UInt8) : Bool := c == 45 || c == 42 || c == 43 || (48 ≤ c && c ≤ 57)
theorem beqf {c d : UInt8} {n : Int} (hd : (d.toNat : Int) = n) (h : c ≠ d) : (((c.toNat : Nat) : Int) == n) = false := by
  rw [u8b _ d n hd]; simpa using h
theorem startListItem_no {b : Nat} {q : Option Addr} {l : Ln} (h : Sat σ w (l.at b :: L)) (hl : l.ok) (hp : isBullet (l.strip 3 0).2.peek = false)
    (hR : ∀ w, Sat σ w (l.at b :: L) → R (.returned (.bool false)) w) : callE P i_parseState_startListItem #[.pointer q, .pointer (some ⟨b, 0, none⟩)] R w := by
  refine g_parseState_startListItem.sound ?_
  refine Sat.bx h fun b1 w h => ?_
  repeat (first | refine nilP_some ?_ | refine Sat.tk h fun w h => ?_ | refine ⟨_, Sat.ld h (by first | assumption | (repeat (first | exact .head _ | apply List.Mem.tail))) (by exact rfl), ?_⟩ | refine ⟨_, _, _, Sat.ld h (by first | assumption | (repeat (first | exact .head _ | apply List.Mem.tail))) (by exact rfl), ?_⟩ | refine Sat.st h (k := 0) rfl (Nat.le_of_ble_eq_true rfl) trivial (by first | (dsimp only [List.set]; exact rfl) | exact rfl) fun w h => ?_ | refine Sat.st h (k := 1) rfl (Nat.le_of_ble_eq_true rfl) trivial (by first | (dsimp only [List.set]; exact rfl) | exact rfl) fun w h => ?_ | refine Sat.st h (k := 2) rfl (Nat.le_of_ble_eq_true rfl) trivial (by first | (dsimp only [List.set]; exact rfl) | exact rfl) fun w h => ?_ | refine Sat.st h (k := 3) rfl (Nat.le_of_ble_eq_true rfl) trivial (by first | (dsimp only [List.set]; exact rfl) | exact rfl) fun w h => ?_ | refine Sat.st h (k := 4) rfl (Nat.le_of_ble_eq_true rfl) trivial (by first | (dsimp only [List.set]; exact rfl) | exact rfl) fun w h => ?_ | refine Sat.st h (k := 5) rfl (Nat.le_of_ble_eq_true rfl) trivial (by first | (dsimp only [List.set]; exact rfl) | exact rfl) fun w h => ?_ | refine Sat.st h (k := 6) rfl (Nat.le_of_ble_eq_true rfl) trivial (by first | (dsimp only [List.set]; exact rfl) | exact rfl) fun w h => ?_ | refine Sat.bx h fun b0 w h => ?_)
  have h : Sat σ _ (l.at b0 :: (b1, cel [.pointer q] ty_P_parseState) :: l.at b :: L) := h
  have fin : ∀ (n : Nat) (t : Ln) w, t.ok → isBullet t.peek = false → Sat σ w (t.at b0 :: (b1, cel [.pointer q] ty_P_parseState) :: l.at b :: L) → g_parseState_startListItem.k1 R b1 b0 n w := by
    intro n t w ht hp h
    refine peek_ok h (by first | assumption | (repeat (first | exact .head _ | apply List.Mem.tail))) ht fun w h => ⟨_, rfl, ?_⟩
    generalize t.peek = c at *
    simp only [isBullet, Bool.or_eq_false_iff, beq_eq_false_iff_ne, Bool.and_eq_false_iff, decide_eq_false_iff_not] at hp
    obtain ⟨⟨⟨h1, h2⟩, h3⟩, h4⟩ := hp
    have hd : ∀ d : UInt8, 48 ≤ d → d ≤ 57 → c ≠ d := by
      intro d hd1 hd2 hc
      subst hc
      rcases h4 with h4 | h4
      · exact h4 hd1
      · exact h4 hd2
    have h43 := beqf (n := 43) rfl h3
    have h57 := beqf (n := 57) rfl (hd 57 (by decide) (by decide))
    refine br_false (beqf (d := 45) rfl h1) (br_false (beqf (d := 42) rfl h2) ?_)
    rw [h43]
    refine br_false rfl ?_
    refine br_false (beqf (d := 48) rfl (hd _ (by decide) (by decide))) ?_
    refine br_false (beqf (d := 49) rfl (hd _ (by decide) (by decide))) ?_
    refine br_false (beqf (d := 50) rfl (hd _ (by decide) (by decide))) ?_
    refine br_false (beqf (d := 51) rfl (hd _ (by decide) (by decide))) ?_
    refine br_false (beqf (d := 52) rfl (hd _ (by decide) (by decide))) ?_
    refine br_false (beqf (d := 53) rfl (hd _ (by decide) (by decide))) ?_
    refine br_false (beqf (d := 54) rfl (hd _ (by decide) (by decide))) ?_
    refine br_false (beqf (d := 55) rfl (hd _ (by decide) (by decide))) ?_
    refine br_false (beqf (d := 56) rfl (hd _ (by decide) (by decide))) ?_
    rw [h57]
    exact br_false rfl (hR _ h.tail.tail)
  intro X hX
  have loop : ∀ k n (t : Ln) w, t.ok → k + n = 3 → isBullet (t.strip k n).2.peek = false → Sat σ w (t.at b0 :: (b1, cel [.pointer q] ty_P_parseState) :: l.at b :: L) → X b1 b0 n n w := by
    intro k n t w ht hk hp h
    induction k generalizing n t w with
    | zero => exact hX _ _ _ _ _ (br_false (by simp; omega) (fin n t w ht hp h))
    | succ k ih =>
      refine hX _ _ _ _ _ (br_true (by simp; omega) ?_)
      refine YtihmcipajjakgaaGreatDoor.trimSp_ok (min := 1) (max := 1) h ht (by decide) (by decide) ?_
      simp only [Ln.strip] at hp
      cases hs : t.trimSp 1 1 false with
      | none =>
        rw [hs] at hp
        exact fun w h => ⟨_, rfl, br_true rfl (fin n t w ht hp h)⟩
      | some t' =>
        rw [hs] at hp
        intro w h
        refine ⟨_, rfl, br_false rfl ?_⟩
        rw [i64_inc (by omega)]
        exact ih (n + 1) t' w (Ln.trimSp_ok ht hs) (by omega) hp h
  exact loop 3 0 l _ hl rfl hp h
end Go.Proofs.YtihmcipajjakgaaGreatDoor


set_option linter.unusedVariables false
namespace Go.Proofs.YtihmcipajjakgaaGreatDoor
open Go.Proofs Go.IntWalk
variable {σ : Out} {w : World} {L L' : List Chunk} {R : Ending → World → Prop}

abbrev zLn (b : Nat) : Chunk := (b, cel [.int .i64 0, .int .i64 0, .int .i64 0, .string (bs []), .int .u8 0] ty_line)
theorem curB_ok {b d : Nat} {p : PS} {l : List OB} {M : List Chunk} (h : Sat σ w (p.at b :: M ++ L)) (hs : Stk p l M) (hd : p.depth = d)
    (hR : ∀ w, Sat σ w (p.at b :: M ++ L) → R (.returned (match l[d]? with | some o => o.bd | none => .nilIface)) w) :
    callE P i_parseState_curB #[.pointer (some ⟨b, 0, none⟩)] R w := by
  have hn := hs.2.1
  have hlt := hs.2.2
  refine g_parseState_curB.sound ?_
  repeat (first | refine nilP_some ?_ | refine Sat.tk h fun w h => ?_ | refine ⟨_, Sat.ld h (by first | assumption | (repeat (first | exact .head _ | apply List.Mem.tail))) (by exact rfl), ?_⟩ | refine ⟨_, _, _, Sat.ld h (by first | assumption | (repeat (first | exact .head _ | apply List.Mem.tail))) (by exact rfl), ?_⟩)
  rw [hn, hd]
  by_cases hdl : d < l.length
  · obtain ⟨sb, sp, hq, rfl, hsp⟩ := hs.split (by intro h; subst h; simp at hdl)
    refine br_true (by simpa using hdl) ?_
    repeat (first | refine nilP_some ?_ | refine Sat.tk h fun w h => ?_ | refine ⟨_, Sat.ld h (by first | assumption | (repeat (first | exact .head _ | apply List.Mem.tail))) (by exact rfl), ?_⟩ | refine ⟨_, _, _, Sat.ld h (by first | assumption | (repeat (first | exact .head _ | apply List.Mem.tail))) (by exact rfl), ?_⟩)
    rw [hn, hd]
    refine ⟨by omega, by omega, ?_⟩
    rw [hq]
    refine nilP_some ?_
    simp only [Addr.add_lit, Nat.zero_add, Int.toNat_natCast]
    refine ⟨l[d].bd, Sat.ld h (by first | assumption | (repeat (first | exact .head _ | apply List.Mem.tail))) (stk_get (f := 0) (by decide) (List.getElem?_eq_getElem hdl)), ?_⟩
    have := hR _ h
    rw [List.getElem?_eq_getElem hdl] at this
    exact this
  · have := hR _ h
    rw [List.getElem?_eq_none (by omega)] at this
    exact br_false (by simpa using hdl) this
theorem nextB_ok {b d : Nat} {p : PS} {l : List OB} {M : List Chunk} (h : Sat σ w (p.at b :: M ++ L)) (hs : Stk p l M) (hd : p.depth = d) (hdb : d < 1048577)
    (hR : ∀ w, Sat σ w (p.at b :: M ++ L) → R (.returned (match l[d + 1]? with | some o => o.bd | none => .nilIface)) w) :
    callE P i_parseState_nextB #[.pointer (some ⟨b, 0, none⟩)] R w := by
  have hn := hs.2.1
  have hlt := hs.2.2
  refine g_parseState_nextB.sound ?_
  repeat (first | refine nilP_some ?_ | refine Sat.tk h fun w h => ?_ | refine ⟨_, Sat.ld h (by first | assumption | (repeat (first | exact .head _ | apply List.Mem.tail))) (by exact rfl), ?_⟩ | refine ⟨_, _, _, Sat.ld h (by first | assumption | (repeat (first | exact .head _ | apply List.Mem.tail))) (by exact rfl), ?_⟩)
  rw [hn, hd, i64_inc (by omega)]
  by_cases hdl : d + 1 < l.length
  · obtain ⟨sb, sp, hq, rfl, hsp⟩ := hs.split (by intro h; subst h; simp at hdl)
    refine br_true (by simp; omega) ?_
    repeat (first | refine nilP_some ?_ | refine Sat.tk h fun w h => ?_ | refine ⟨_, Sat.ld h (by first | assumption | (repeat (first | exact .head _ | apply List.Mem.tail))) (by exact rfl), ?_⟩ | refine ⟨_, _, _, Sat.ld h (by first | assumption | (repeat (first | exact .head _ | apply List.Mem.tail))) (by exact rfl), ?_⟩)
    rw [hn, hd, i64_inc (by omega)]
    refine ⟨by omega, by omega, ?_⟩
    rw [hq]
    refine nilP_some ?_
    simp only [Addr.add_lit, Nat.zero_add, Int.toNat_natCast]
    refine ⟨l[d + 1].bd, Sat.ld h (by first | assumption | (repeat (first | exact .head _ | apply List.Mem.tail))) (stk_get (f := 0) (by decide) (List.getElem?_eq_getElem hdl)), ?_⟩
    have := hR _ h
    rw [List.getElem?_eq_getElem hdl] at this
    exact this
  · have := hR _ h
    rw [List.getElem?_eq_none (by omega)] at this
    exact br_false (by simp; omega) this

theorem ta_listBuilder_no {v : Value} {t : TypeId} (ht : t ≠ ty_P_listBuilder) (w : World) :
    (Instr.typeAssert (.iface t v) ty_blockBuilder ty_P_listBuilder true).run P w = .ok (.tuple #[.pointer none, .bool false]) w := by
  have hund : P.underlying ty_P_listBuilder = some (.pointer ty_listBuilder) := by kernel_rfl
  exact ta_no (by rw [hund]; intro ms h; cases h) hund ht (i := (P.info? ty_P_listBuilder).getD default) (by kernel_rfl) (by kernel_rfl) w
theorem newListItem_no {b d : Nat} {p : PS} {ob : List OB} {o : OB} {M : List Chunk} {t : TypeId} {v : Value} {l : Ln} (h : Sat σ w (p.at b :: M ++ L)) (hs : Stk p ob M) (hd : p.depth = d)
    (ho : ob[d]? = some o) (hb : o.bd = .iface t v) (ht : t ≠ ty_P_listBuilder) (hl : l.ok) (hp : isBullet (l.strip 3 0).2.peek = false)
    (hR : ∀ w, Sat σ w (p.at b :: M ++ L) → R (.returned (.tuple #[l.val, .bool false])) w) : callE P i_newListItem #[.pointer (some ⟨b, 0, none⟩), l.val] R w := by
  refine g_newListItem.sound ?_
  refine Sat.bx h fun b1 w h => ?_
  refine Sat.bx h fun b3 w h => ?_
  have h : Sat σ w (zLn b3 :: l.at b1 :: (p.at b :: M ++ L)) := h
  have h : Sat σ w (p.at b :: M ++ (zLn b3 :: l.at b1 :: L)) := h.re (by intro _; simp only [List.append_eq, cnt_append, cnt_cons, cnt_nil] <;> omega)
  refine curB_ok h hs hd fun w h => ?_
  rw [ho]
  dsimp only
  refine ⟨_, rfl, none, false, w, by rw [hb]; exact ta_listBuilder_no ht w, br_false rfl (br_false rfl ?_)⟩
  have h : Sat σ w (l.at b1 :: zLn b3 :: p.at b :: M ++ L) := h.re (by intro _; simp only [List.append_eq, cnt_append, cnt_cons, cnt_nil] <;> omega)
  refine startListItem_no h hl hp fun w h => ⟨_, rfl, br_false rfl ?_⟩
  repeat (first | refine nilP_some ?_ | refine Sat.tk h fun w h => ?_ | refine ⟨_, Sat.ld h (by first | assumption | (repeat (first | exact .head _ | apply List.Mem.tail))) (by exact rfl), ?_⟩ | refine ⟨_, _, _, Sat.ld h (by first | assumption | (repeat (first | exact .head _ | apply List.Mem.tail))) (by exact rfl), ?_⟩ | refine Sat.st h (k := 0) rfl (Nat.le_of_ble_eq_true rfl) trivial (by first | (dsimp only [List.set]; exact rfl) | exact rfl) fun w h => ?_ | refine Sat.st h (k := 1) rfl (Nat.le_of_ble_eq_true rfl) trivial (by first | (dsimp only [List.set]; exact rfl) | exact rfl) fun w h => ?_ | refine Sat.st h (k := 2) rfl (Nat.le_of_ble_eq_true rfl) trivial (by first | (dsimp only [List.set]; exact rfl) | exact rfl) fun w h => ?_ | refine Sat.st h (k := 3) rfl (Nat.le_of_ble_eq_true rfl) trivial (by first | (dsimp only [List.set]; exact rfl) | exact rfl) fun w h => ?_ | refine Sat.st h (k := 4) rfl (Nat.le_of_ble_eq_true rfl) trivial (by first | (dsimp only [List.set]; exact rfl) | exact rfl) fun w h => ?_ | refine Sat.st h (k := 5) rfl (Nat.le_of_ble_eq_true rfl) trivial (by first | (dsimp only [List.set]; exact rfl) | exact rfl) fun w h => ?_ | refine Sat.st h (k := 6) rfl (Nat.le_of_ble_eq_true rfl) trivial (by first | (dsimp only [List.set]; exact rfl) | exact rfl) fun w h => ?_ | refine Sat.bx h fun b0 w h => ?_)
  exact hR _ h.tail.tail
end Go.Proofs.YtihmcipajjakgaaGreatDoor


set_option linter.unusedVariables false
namespace Go.Proofs.YtihmcipajjakgaaGreatDoor
open Go.Proofs Go.IntWalk
variable {σ : Out} {w : World} {L L' : List Chunk} {R : Ending → World → Prop}

theorem equalIn_nil_iface {t u : TypeId} {v : Value} {ms : Array (String × TypeId)} (hu : P.underlying t = some (.interface ms)) (d : Nat) (w : World) :
    (Op.equalIn (d + 1) t .nilIface (.iface u v)).run P w = .ok false w := by
  simp [Op.equalIn, run_underlying hu]
theorem equalIn_ptr_nil {t e : TypeId} (hu : P.underlying t = some (.pointer e)) (q : Option Addr) (d : Nat) (w : World) :
    (Op.equalIn (d + 1) t (.pointer q) (.pointer none)).run P w = .ok q.isNone w := by
  cases q <;> simp [Op.equalIn, run_underlying hu]
theorem bin_eq {t : TypeId} {a b : Value} {r : Bool} {w : World} {x y : Operand} (h1 : (eqGuard .eql t x y a b).run P w = .ok () w) (h2 : binOp .eql t a b = (do pure (.bool (← Op.equal t a b))))
    (h : (Op.equal t a b).run P w = .ok r w) : (do eqGuard .eql t x y a b; binOp .eql t a b).run P w = .ok (.bool r) w := by
  rw [h2]
  simp only [Sem.run_bind, h1, h, Result.andThen_ok]
  rfl
theorem eq_nil_iface {t u : TypeId} {v : Value} {ms : Array (String × TypeId)} (hu : P.underlying t = some (.interface ms)) (x y : Operand) (w : World) :
    (do eqGuard .eql t x y .nilIface (.iface u v); binOp .eql t .nilIface (.iface u v)).run P w = .ok (.bool false) w :=
  bin_eq rfl rfl (equalIn_nil_iface hu 9999 w)
theorem und_bb : P.underlying ty_blockBuilder = some (.interface ((match P.underlying ty_blockBuilder with | some (.interface ms) => ms | _ => #[]))) := by kernel_rfl
theorem newSetext_no {b d : Nat} {p : PS} {ob : List OB} {o : OB} {M : List Chunk} {t : TypeId} {v : Value} {l : Ln} (h : Sat σ w (p.at b :: M ++ L)) (hs : Stk p (ob ++ [o]) M) (hd : p.depth = d)
    (hlen : ob.length = d) (hb : o.bd = .iface t v) (ht : t ≠ ty_P_paraBuilder) (hl : l.ok)
    (hR : ∀ w, Sat σ w (p.at b :: M ++ L) → R (.returned (.tuple #[l.val, .bool false])) w) : callE P i_newSetextHeading #[.pointer (some ⟨b, 0, none⟩), l.val] R w := by
  have hlt := hs.2.2
  rw [List.length_append, List.length_singleton] at hlt
  refine g_newSetextHeading.sound ?_
  refine Sat.bx h fun b1 w h => ?_
  refine Sat.bx h fun b3 w h => ?_
  refine Sat.bx h fun b5 w h => ?_
  repeat (first | refine nilP_some ?_ | refine Sat.tk h fun w h => ?_ | refine ⟨_, Sat.ld h (by first | assumption | (repeat (first | exact .head _ | apply List.Mem.tail))) (by exact rfl), ?_⟩ | refine ⟨_, _, _, Sat.ld h (by first | assumption | (repeat (first | exact .head _ | apply List.Mem.tail))) (by exact rfl), ?_⟩ | refine Sat.st h (k := 0) rfl (Nat.le_of_ble_eq_true rfl) trivial (by first | (dsimp only [List.set]; exact rfl) | exact rfl) fun w h => ?_ | refine Sat.st h (k := 1) rfl (Nat.le_of_ble_eq_true rfl) trivial (by first | (dsimp only [List.set]; exact rfl) | exact rfl) fun w h => ?_ | refine Sat.st h (k := 2) rfl (Nat.le_of_ble_eq_true rfl) trivial (by first | (dsimp only [List.set]; exact rfl) | exact rfl) fun w h => ?_ | refine Sat.st h (k := 3) rfl (Nat.le_of_ble_eq_true rfl) trivial (by first | (dsimp only [List.set]; exact rfl) | exact rfl) fun w h => ?_ | refine Sat.st h (k := 4) rfl (Nat.le_of_ble_eq_true rfl) trivial (by first | (dsimp only [List.set]; exact rfl) | exact rfl) fun w h => ?_ | refine Sat.st h (k := 5) rfl (Nat.le_of_ble_eq_true rfl) trivial (by first | (dsimp only [List.set]; exact rfl) | exact rfl) fun w h => ?_ | refine Sat.st h (k := 6) rfl (Nat.le_of_ble_eq_true rfl) trivial (by first | (dsimp only [List.set]; exact rfl) | exact rfl) fun w h => ?_ | refine Sat.bx h fun b0 w h => ?_)
  have h : Sat σ _ (l.at b0 :: (b5, cel [.int .i64 0] ty_int) :: zLn b3 :: l.at b1 :: (p.at b :: M ++ L)) := h
  have h : Sat σ _ (p.at b :: M ++ (l.at b0 :: (b5, cel [.int .i64 0] ty_int) :: zLn b3 :: l.at b1 :: L)) := h.re (by intro _; simp only [List.append_eq, cnt_append, cnt_cons, cnt_nil] <;> omega)
  refine nextB_ok h hs hd (by omega) fun w h => ?_
  rw [List.getElem?_eq_none (by simp; omega)]
  refine ⟨_, rfl, ?_⟩
  refine top_ok h hs hb (fun w h => ?_) (fun hc => absurd hc ht)
  rw [if_neg ht]
  refine ⟨_, rfl, false, w, eq_nil_iface und_bb _ _ w, br_false rfl ?_⟩
  have h : Sat σ _ (zLn b3 :: l.at b1 :: (b5, cel [.int .i64 0] ty_int) :: l.at b0 :: (p.at b :: M ++ L)) := h.re (by intro _; simp only [List.append_eq, cnt_append, cnt_cons, cnt_nil] <;> omega)
  refine br_false rfl ?_
  repeat (first | refine nilP_some ?_ | refine Sat.tk h fun w h => ?_ | refine ⟨_, Sat.ld h (by first | assumption | (repeat (first | exact .head _ | apply List.Mem.tail))) (by exact rfl), ?_⟩ | refine ⟨_, _, _, Sat.ld h (by first | assumption | (repeat (first | exact .head _ | apply List.Mem.tail))) (by exact rfl), ?_⟩ | refine Sat.st h (k := 0) rfl (Nat.le_of_ble_eq_true rfl) trivial (by first | (dsimp only [List.set]; exact rfl) | exact rfl) fun w h => ?_ | refine Sat.st h (k := 1) rfl (Nat.le_of_ble_eq_true rfl) trivial (by first | (dsimp only [List.set]; exact rfl) | exact rfl) fun w h => ?_ | refine Sat.st h (k := 2) rfl (Nat.le_of_ble_eq_true rfl) trivial (by first | (dsimp only [List.set]; exact rfl) | exact rfl) fun w h => ?_ | refine Sat.st h (k := 3) rfl (Nat.le_of_ble_eq_true rfl) trivial (by first | (dsimp only [List.set]; exact rfl) | exact rfl) fun w h => ?_ | refine Sat.st h (k := 4) rfl (Nat.le_of_ble_eq_true rfl) trivial (by first | (dsimp only [List.set]; exact rfl) | exact rfl) fun w h => ?_ | refine Sat.st h (k := 5) rfl (Nat.le_of_ble_eq_true rfl) trivial (by first | (dsimp only [List.set]; exact rfl) | exact rfl) fun w h => ?_ | refine Sat.st h (k := 6) rfl (Nat.le_of_ble_eq_true rfl) trivial (by first | (dsimp only [List.set]; exact rfl) | exact rfl) fun w h => ?_ | refine Sat.bx h fun b0 w h => ?_)
  have h : Sat σ _ (l.at b3 :: l.at b1 :: (b5, cel [.int .i64 0] ty_int) :: l.at b0 :: (p.at b :: M ++ L)) := h
  exact hR _ h.tail.tail.tail.tail
end Go.Proofs.YtihmcipajjakgaaGreatDoor


set_option linter.unusedVariables false
namespace Go.Proofs.YtihmcipajjakgaaGreatDoor
open Go.Proofs Go.IntWalk
variable {σ : Out} {w : World} {L L' : List Chunk} {R : Ending → World → Prop}

theorem bin_ne {t : TypeId} {a b : Value} {r : Bool} {w : World} {x y : Operand} (h1 : (eqGuard .neq t x y a b).run P w = .ok () w) (h2 : binOp .neq t a b = (do pure (.bool (!(← Op.equal t a b)))))
    (h : (Op.equal t a b).run P w = .ok r w) : (do eqGuard .neq t x y a b; binOp .neq t a b).run P w = .ok (.bool (!r)) w := by
  rw [h2]
  simp only [Sem.run_bind, h1, h, Result.andThen_ok]
  rfl
theorem ne_ptr_nil {t e : TypeId} (hu : P.underlying t = some (.pointer e)) (q : Option Addr) (x y : Operand) (w : World) :
    (do eqGuard .neq t x y (.pointer q) (.pointer none); binOp .neq t (.pointer q) (.pointer none)).run P w = .ok (.bool (!q.isNone)) w :=
  bin_ne rfl rfl (equalIn_ptr_nil hu q 9999 w)

structure Opt where
  ids : Bool
  strike : Bool
  task : Bool
  auto : Bool
  http : Bool
  table : Bool
  emoji : Bool
  dot : Bool
  dash : Bool
  quote : Bool
def Opt.cells (o : Opt) : List Value := [.bool o.ids, .bool o.strike, .bool o.task, .bool o.auto, .bool o.http, .bool o.table, .bool o.emoji, .bool o.dot, .bool o.dash, .bool o.quote]
abbrev Opt.at (b : Nat) (o : Opt) : Chunk := (b, cel o.cells ty_Parser)

end Go.Proofs.YtihmcipajjakgaaGreatDoor


set_option linter.unusedVariables false
namespace Go.Proofs.YtihmcipajjakgaaGreatDoor
open Go.Proofs Go.IntWalk
variable {σ : Out} {w : World} {L L' : List Chunk} {R : Ending → World → Prop}

def Ln.zero : Ln := ⟨0, 0, 0, [], 0⟩
noncomputable def rowStr : Row P ty_S_string ty_string 1 16 :=
  ⟨(P.info? ty_string).getD default, ((P.info? ty_string).bind (·.zero)).getD default, by kernel_rfl, by kernel_rfl, by kernel_rfl, by kernel_rfl, by kernel_rfl, by kernel_rfl, by decide⟩
def ParaAt (qb : Nat) (ts : List (List UInt8)) (M : List Chunk) : Prop :=
  ∃ q c TM, Sl 1 ty_string q ts.length c (ts.map fun t => .string (bs t)) TM ∧ M = (qb, cel [.slice q ts.length c, .pointer none] ty_paraBuilder) :: TM

end Go.Proofs.YtihmcipajjakgaaGreatDoor


set_option linter.unusedVariables false
namespace Go.Proofs.YtihmcipajjakgaaGreatDoor
open Go.Proofs Go.IntWalk
variable {σ : Out} {w : World} {L L' : List Chunk} {R : Ending → World → Prop}

theorem enter_fn {f : FuncId} {args first captured : Array Value} (h : callE P f (first ++ args ++ captured) R w) :
    enterE P (do let d ← Deferred.ofValue (.func (.func f) first captured) args; invoke d.target d.args) R w :=
  h.imp (fun h => ⟨f, _, w, h.1 _ _, h.2⟩) id

def newsF : List FuncId := [i_newQuote, i_newATXHeading, i_newSetextHeading, i_newHR, i_newListItem, i_newHTML, i_newFence, i_newPre]
def newsC : List Value := newsF.map fun f => .func (.func f) #[] #[]
theorem news_ok (h : Sat σ w L) (hR : ∀ w b e, Sat σ w ((b, cel newsC e) :: L) → R (.returned (.slice (some ⟨b, 0, none⟩) 8 8)) w) : callE P i_news #[] R w := by
  refine g_news.sound ?_
  have hu : P.underlying ty_S_func_P_parseState_line_line_bool = some (.slice ty_func_P_parseState_line_line_bool) := by kernel_rfl
  have hrun := run_buildSlice (P := P) w ty_S_func_P_parseState_line_line_bool ty_func_P_parseState_line_line_bool 8
    #[(0, .func (.func i_newQuote) #[] #[]), (1, .func (.func i_newATXHeading) #[] #[]), (2, .func (.func i_newSetextHeading) #[] #[]), (3, .func (.func i_newHR) #[] #[]),
      (4, .func (.func i_newListItem) #[] #[]), (5, .func (.func i_newHTML) #[] #[]), (6, .func (.func i_newFence) #[] #[]), (7, .func (.func i_newPre) #[] #[])] newsC.toArray
    ((P.info? ty_func_P_parseState_line_line_bool).getD default) (((P.info? ty_func_P_parseState_line_line_bool).bind (·.zero)).getD default) hu (by kernel_rfl) (by kernel_rfl)
    (by rw [show ((P.info? ty_func_P_parseState_line_line_bool).getD default).size = 1 by kernel_rfl]; decide) (by rw [show ((P.info? ty_func_P_parseState_line_line_bool).getD default).size = 1 by kernel_rfl]; decide) (by kernel_rfl)
  exact ⟨_, _, _, _, hrun, hR _ _ _ (h.alc newsC _)⟩
end Go.Proofs.YtihmcipajjakgaaGreatDoor


set_option linter.unusedVariables false
namespace Go.Proofs.YtihmcipajjakgaaGreatDoor
open Go.Proofs Go.IntWalk
variable {σ : Out} {w : World} {L L' : List Chunk} {R : Ending → World → Prop}

def Decl (b : Nat) (p : PS) (M : List Chunk) (l : Ln) (f : FuncId) : Prop :=
  ∀ (σ : Out) (w : World) (L : List Chunk) (R : Ending → World → Prop), Sat σ w (p.at b :: M ++ L) → (∀ w, Sat σ w (p.at b :: M ++ L) → R (.returned (.tuple #[l.val, .bool false])) w) →
    callE P f #[.pointer (some ⟨b, 0, none⟩), l.val] R w
def HDecl (l : Ln) : Prop :=
  ∀ (b : Nat) (p : PS) (ob : List OB) (o : OB) (M : List Chunk) (t : TypeId) (v : Value), Stk p (ob ++ [o]) M → o.bd = .iface t v → t ≠ ty_P_paraBuilder → Decl b p M l i_newHTML
theorem HDecl.of_peek {l : Ln} (hl : l.ok) (hp : (l.lead 3 false).peek ≠ 60) : HDecl l :=
  fun _ _ _ _ _ _ _ _ _ _ _ _ _ _ h hR => newHTML_no h hl hp hR
def LDecl (l : Ln) : Prop :=
  ∀ (b d : Nat) (p : PS) (ob : List OB) (o : OB) (M : List Chunk) (t : TypeId) (v : Value), Stk p ob M → p.depth = d → ob[d]? = some o → o.bd = .iface t v → t ≠ ty_P_listBuilder → Decl b p M l i_newListItem
theorem LDecl.of_peek {l : Ln} (hl : l.ok) (hp : isBullet (l.strip 3 0).2.peek = false) : LDecl l :=
  fun _ _ _ _ _ _ _ _ hs hd ho hb ht _ _ _ _ h hR => newListItem_no h hs hd ho hb ht hl hp hR
structure Ln.plain (l : Ln) : Prop where
  ok : l.ok
  blank : l.blank = false
  quote : l.quote = none
  heading : l.heading = none
  hr : l.isHR = false
  bullet : LDecl l
  html : HDecl l
  fence : (l.strip 3 0).2.peek ≠ 96 ∧ (l.strip 3 0).2.peek ≠ 126
  pre : l.trimSp 4 4 false = none

theorem newsC_get {i : Nat} {f : FuncId} (h : newsF[i]? = some f) : newsC[i]? = some (.func (.func f) #[] #[]) := by
  rw [newsC, List.getElem?_map, h]; rfl

end Go.Proofs.YtihmcipajjakgaaGreatDoor


set_option linter.unusedVariables false
set_option maxRecDepth 20000
namespace Go.Proofs.YtihmcipajjakgaaGreatDoor
open Go.Proofs
namespace g_zzContains
noncomputable def body : Code := bodyOf Tryz.f28
end g_zzContains
def g_zzContains (R : EP) (x0 : BA) (x1 : BA) (w : World) : Prop :=
 callE P i_zzIndex #[.string x0, .string x1] (fun e w2 => ∃ (r1 : Int), e = .returned (.int .i64 r1) ∧
 R (.returned (.bool (decide (r1 ≥ 0)))) w2) w

noncomputable def g_zzContains.ac (R : EP) : AC :=
  (.leaf (sel [] g_zzContains.body))
theorem g_zzContains.good (R : EP) : Good P 9 (g_zzContains.ac R) (QF P [.tmp 4] R) :=
  trivial
theorem g_zzContains.eq (R : EP) (x0 : BA) (x1 : BA) (w : World) : g_zzContains R x0 x1 w = vcA P 9 (g_zzContains.ac R) (QF P [.tmp 4] R) (fr0 [.string x0, .string x1]) w := by kernel_rfl
theorem g_zzContains.sound {R : EP} {x0 : ByteArray} {x1 : ByteArray} {w : World} (h : g_zzContains R x0 x1 w) : callE P i_zzContains #[.string x0, .string x1] R w :=
  callE_fin (c := g_zzContains.body) Tryz.func28 Tryz.call28 (by kernel_rfl) (by kernel_rfl) (by kernel_rfl) (by kernel_rfl) (by kernel_rfl) (g_zzContains.good R) (g_zzContains.eq R x0 x1 w) h
namespace g_zzIndex
noncomputable def body : Code := bodyOf Tryz.f31
def bl1 (R : EP) (Xa : BA → BA → Int → WP) (x0 : BA) (x1 : BA) (x5 : Int) (w : World) : Prop :=
 br (decide ((IntKind.i64.wrap (x5 + (x1.size : Int))) ≤ (x0.size : Int)))
 (0 ≤ x5 ∧ x5 ≤ (IntKind.i64.wrap (x5 + (x1.size : Int))) ∧ (IntKind.i64.wrap (x5 + (x1.size : Int))) ≤ (x0.size : Int) ∧
 br ((x0.extract (Int.toNat x5) (Int.toNat (IntKind.i64.wrap (x5 + (x1.size : Int))))).toList == x1.toList)
 (R (.returned (.int .i64 x5)) w)
 (Xa x0 x1 (IntKind.i64.wrap (x5 + 1)) w))
 (R (.returned (.int .i64 (-1))) w)
def l1 (R : EP) (x0 : BA) (x1 : BA) (x5 : Int) (w : World) : Prop :=
  ∀ X : BA → BA → Int → WP, (∀ x0 x1 x5 w, bl1 R X x0 x1 x5 w → X x0 x1 x5 w) → X x0 x1 x5 w

noncomputable def al1 (R : EP) (Xa : BA → BA → Int → WP) : AC :=
  (.leaf (sel [1, 0, 1, 0, 0] body))
end g_zzIndex
def g_zzIndex (R : EP) (x0 : BA) (x1 : BA) (w : World) : Prop :=
 g_zzIndex.l1 R x0 x1 0 w

noncomputable def g_zzIndex.ac (R : EP) : AC :=
  (.seq (.leaf (sel [0] g_zzIndex.body)) (.seq (.seq (.leaf (sel [1, 0, 0] g_zzIndex.body)) (.block 0 (.loop (leaf [(0, .s .str), (1, .s .str), (5, .s (.int .i64))] (g_zzIndex.l1 R)) (sel [1, 0, 1, 0, 0] g_zzIndex.body)))) (.leaf (sel [1, 1] g_zzIndex.body))))
theorem g_zzIndex.good (R : EP) : Good P 25 (g_zzIndex.ac R) (QF P [.tmp 4] R) :=
  ⟨trivial, ⟨⟨trivial, (loopG (g_zzIndex.al1 R) (g_zzIndex.bl1 R) (fun _ => by kernel_rfl) (fun Xa => trivial) (fun Xa => by intro x0 x1 x5 ρ w; kernel_rfl) (fun X h _ _ _ _ g => g X h))⟩, trivial⟩⟩
theorem g_zzIndex.eq (R : EP) (x0 : BA) (x1 : BA) (w : World) : g_zzIndex R x0 x1 w = vcA P 25 (g_zzIndex.ac R) (QF P [.tmp 4] R) (fr0 [.string x0, .string x1]) w := by kernel_rfl
theorem g_zzIndex.sound {R : EP} {x0 : ByteArray} {x1 : ByteArray} {w : World} (h : g_zzIndex R x0 x1 w) : callE P i_zzIndex #[.string x0, .string x1] R w :=
  callE_fin (c := g_zzIndex.body) Tryz.func31 Tryz.call31 (by kernel_rfl) (by kernel_rfl) (by kernel_rfl) (by kernel_rfl) (by kernel_rfl) (g_zzIndex.good R) (g_zzIndex.eq R x0 x1 w) h
end Go.Proofs.YtihmcipajjakgaaGreatDoor

set_option linter.unusedVariables false
namespace Go.Proofs.YtihmcipajjakgaaGreatDoor
open Go.Proofs Go.IntWalk
variable {σ : Out} {w : World} {L L' : List Chunk} {R : Ending → World → Prop}

def findSub (sub l : List UInt8) : Nat → Nat → Option Nat
  | 0, _ => none
  | k + 1, i => if i + sub.length ≤ l.length then (if (l.drop i).take sub.length = sub then some i else findSub sub l k (i + 1)) else none
def idx (l sub : List UInt8) : Option Nat := findSub sub l (l.length + 1) 0
def idxInt (l sub : List UInt8) : Int := match idx l sub with
  | some i => (i : Int)
  | none => -1
theorem zzIndex_ok {l sub : List UInt8} (hl : l.length < 4611686018427387904) (hs : sub.length < 4611686018427387904) (hR : R (.returned (.int .i64 (idxInt l sub))) w) : callE P i_zzIndex #[.string (bs l), .string (bs sub)] R w := by
  refine g_zzIndex.sound ?_
  intro X hX
  have loop : ∀ (k i : Nat), l.length < k + i → i ≤ l.length + 1 → (match findSub sub l k i with | some i => (i : Int) | none => -1) = idxInt l sub → X (bs l) (bs sub) i w := by
    intro k
    induction k with
    | zero =>
      intro i hk hi he
      have hw : IntKind.i64.wrap ((i : Int) + (sub.length : Int)) = ((i + sub.length : Nat) : Int) := by rw [i64_in _ (by omega)]; omega
      refine hX _ _ _ _ (br_false (by rw [bs_size, bs_size, hw]; simp; omega) ?_)
      rw [← he] at hR
      exact hR
    | succ k ih =>
      intro i hk hi he
      have hw : IntKind.i64.wrap ((i : Int) + (sub.length : Int)) = ((i + sub.length : Nat) : Int) := by rw [i64_in _ (by omega)]; omega
      simp only [findSub] at he
      by_cases h1 : i + sub.length ≤ l.length
      · rw [if_pos h1] at he
        refine hX _ _ _ _ (br_true (by rw [bs_size, bs_size, hw]; simp; omega) ?_)
        rw [bs_size, bs_size, hw]
        refine ⟨by omega, by omega, by omega, ?_⟩
        rw [Int.toNat_natCast, Int.toNat_natCast, bs_extract, bs_toList, bs_toList]
        have ht : (l.take (i + sub.length)).drop i = (l.drop i).take sub.length := by rw [List.drop_take]; congr 1; omega
        rw [ht]
        by_cases h2 : (l.drop i).take sub.length = sub
        · rw [if_pos h2] at he
          rw [← he] at hR
          exact br_true (by simpa using h2) hR
        · rw [if_neg h2] at he
          refine br_false (by simpa using h2) ?_
          rw [i64_inc (by omega)]
          exact ih (i + 1) (by omega) (by omega) he
      · rw [if_neg h1] at he
        refine hX _ _ _ _ (br_false (by rw [bs_size, bs_size, hw]; simp; omega) ?_)
        rw [← he] at hR
        exact hR
  exact loop (l.length + 1) 0 (by omega) (by omega) rfl
theorem zzContains_ok {l sub : List UInt8} (hl : l.length < 4611686018427387904) (hs : sub.length < 4611686018427387904) (hR : R (.returned (.bool (idx l sub).isSome)) w) : callE P i_zzContains #[.string (bs l), .string (bs sub)] R w := by
  refine g_zzContains.sound ?_
  refine zzIndex_ok hl hs ⟨_, rfl, ?_⟩
  have : decide (idxInt l sub ≥ 0) = (idx l sub).isSome := by
    unfold idxInt
    cases idx l sub with
    | none => rfl
    | some i => simp
  rw [this]
  exact hR
theorem findSub_none {c : UInt8} {l : List UInt8} (hc : c ∉ l) : ∀ k i, findSub [c] l k i = none
  | 0, i => rfl
  | k + 1, i => by
    simp only [findSub]
    split
    · rename_i h
      simp only [List.length_singleton] at h
      rw [if_neg]
      · exact findSub_none hc k (i + 1)
      · intro he
        have hm : c ∈ (l.drop i).take 1 := by
          have he' : (l.drop i).take 1 = [c] := he
          rw [he']; exact List.mem_singleton.2 rfl
        exact hc (List.mem_of_mem_drop (List.mem_of_mem_take hm))
    · rfl
theorem idx_none {c : UInt8} {l : List UInt8} (hc : c ∉ l) : idx l [c] = none := findSub_none hc _ _
end Go.Proofs.YtihmcipajjakgaaGreatDoor


set_option linter.unusedVariables false
namespace Go.Proofs.YtihmcipajjakgaaGreatDoor
open Go.Proofs Go.IntWalk
variable {σ : Out} {w : World} {L L' : List Chunk} {R : Ending → World → Prop}

def methB (P : Program) (t : TypeId) (name : String) (f : FuncId) : Bool :=
  match P.info? t, P.underlying t with
  | some i, some (.pointer _) => match i.methods.find? (·.name == name) with
    | some m => m.path.isEmpty && (match m.func with | some (g, true) => Nat.beq g f | _ => false)
    | none => false
  | _, _ => false
theorem methB_run {P : Program} {t : TypeId} {name : String} {f : FuncId} (h : methB P t name f = true) (q : Option Addr) (fuel : Nat) (w : World) :
    (Go.method (fuel + 1) t (.pointer q) name).run P w = .ok (f, .pointer q) w := by
  unfold methB at h
  split at h
  · rename_i i e hi hu
    split at h
    · rename_i m hm
      simp only [Bool.and_eq_true] at h
      obtain ⟨hp, h⟩ := h
      split at h
      · rename_i g hf
        have hg := Nat.eq_of_beq_eq_true h
        subst hg
        have hp' : m.path = #[] := by simpa using hp
        simp [Go.method, typeInfo, hi, hm, hp', Go.follow, hf, Go.receiverAt, run_underlying hu, Go.Place.get]
      · cases h
    · cases h
  · cases h
theorem depth_succ (P : Program) : ∃ n, P.types.size + Made.depth = n + 1 := by
  have h : 0 < Made.depth := by decide
  exact ⟨P.types.size + (Made.depth - 1), by omega⟩
theorem enter_meth {t : TypeId} {name : String} {f : FuncId} {q : Option Addr} {args : Array Value} (hm : methB P t name f = true) (h : callE P f (#[.pointer q] ++ args) R w) :
    enterE P (callMethod (.iface t (.pointer q)) name args) R w := by
  obtain ⟨n, hn⟩ := depth_succ P
  have hr := methB_run hm q n w
  have e : (callMethod (.iface t (.pointer q)) name args).run P w = (callFunc f (#[.pointer q] ++ args)).run P w := by
    simp only [callMethod, Sem.run_bind, run_program, Result.andThen_ok, hn, hr]
  unfold enterE
  rw [e]
  exact h.imp (fun h => ⟨f, _, w, h.1 _ _, h.2⟩) id
theorem Sat.same {σ' : Out} {w w' : World} {L L' : List Chunk} (h : Sat σ w L) (h' : Sat σ' w' L') {b i : Nat} {o : Obj} (hm : (b, o) ∈ L) (hm' : (b, o) ∈ L') (n : Nat) : SameC w w' ⟨b, i, none⟩ n := by
  intro k _
  rw [Addr.add_lit]
  unfold World.cell?
  rw [h.at_ _ hm, h'.at_ _ hm']
theorem meth_pos : methB P ty_P_parseState "pub-paratext/pub/rscmarkdown.pos" i_parseState_pos = true := by kernel_rfl
theorem meth_blocks : methB P ty_P_parseState "pub-paratext/pub/rscmarkdown.blocks" i_parseState_blocks = true := by kernel_rfl
theorem meth_newText : methB P ty_P_parseState "pub-paratext/pub/rscmarkdown.newText" i_parseState_newText = true := by kernel_rfl
theorem meth_paraBuild : methB P ty_P_paraBuilder "pub-paratext/pub/rscmarkdown.build" i_paraBuilder_build = true := by kernel_rfl
theorem meth_rootBuild : methB P ty_P_rootBuilder "pub-paratext/pub/rscmarkdown.build" i_rootBuilder_build = true := by kernel_rfl
end Go.Proofs.YtihmcipajjakgaaGreatDoor


set_option linter.unusedVariables false
namespace Go.Proofs.YtihmcipajjakgaaGreatDoor
open Go.Proofs Go.IntWalk
variable {σ : Out} {w : World} {L L' : List Chunk} {R : Ending → World → Prop}

def isSTN (c : UInt8) : Bool := c == 32 || c == 9 || c == 10
def pastSTN (l : List UInt8) (i : Nat) : Nat := l.length - ((l.drop i).dropWhile isSTN).length
theorem skipSp_ok {l : List UInt8} {i : Nat} (hl : l.length < 4611686018427387904) (hi : i ≤ l.length) (hR : R (.returned (.int .i64 (pastSTN l i))) w) : callE P i_skipSpace #[.string (bs l), .int .i64 i] R w := by
  refine g_skipSpace.sound ?_
  intro X hX
  refine scanF (l := l) (X := fun i => X (bs l) (i : Int) w) (p := isSTN) (fun i hi hp hx => hX _ _ _ ?_) i hi (fun j hj hf he => hX _ _ _ ?_)
  · refine ⟨fun _ => ⟨by omega, by simp; omega⟩, fun _ => ⟨by omega, by simp; omega⟩, fun _ => ⟨by omega, by simp; omega⟩, br_true ?_ ?_⟩
    · rw [bt_beq hi 32 32 rfl, bt_beq hi 9 9 rfl, bt_beq hi 10 10 rfl]
      simpa [hi, isSTN] using hp
    · rw [i64_inc (by omega)]; exact hx
  · have hlt : ∀ {b : Bool}, (decide ((j : Int) < ((bs l).size : Int)) && b) = true → j < l.length := by
      intro b h
      simp only [Bool.and_eq_true, decide_eq_true_eq, bs_size] at h
      omega
    refine ⟨fun h => ⟨by omega, by simpa using h⟩, fun h => ⟨by omega, by have := hlt h; simp; omega⟩, fun h => ⟨by omega, by have := hlt h; simp; omega⟩, br_false ?_ ?_⟩
    · by_cases hi' : j < l.length
      · rw [bt_beq hi' 32 32 rfl, bt_beq hi' 9 9 rfl, bt_beq hi' 10 10 rfl]
        simpa [hi', isSTN] using hf hi'
      · simp [hi']
    · have : pastSTN l i = j := by
        rw [pastSTN, ← he, List.length_drop]; omega
      rw [← this]; exact hR

theorem ta_yes1 {t xt : TypeId} {v : Value} (hu : ∀ ms, P.underlying t ≠ some (.interface ms)) {d : TypeDesc} (hd : P.underlying t = some d) (w : World) :
    (Instr.typeAssert (.iface t v) xt t false).run P w = .ok v w := by
  cases d <;> first | (exact absurd hd (hu _)) | simp [Instr.typeAssert, run_underlying hd]
theorem und_ps : P.underlying ty_P_parseState = some (.pointer ty_parseState) := by kernel_rfl
theorem ta_ps (q : Option Addr) (w : World) : (Instr.typeAssert (.iface ty_P_parseState (.pointer q)) ty_buildState ty_P_parseState false).run P w = .ok (.pointer q) w :=
  ta_yes1 (by rw [und_ps]; intro ms h; cases h) und_ps w

theorem parseLinkRefDef_no {q : Option Addr} {l : List UInt8} (hl : l.length < 4611686018427387904) (hb : (l.dropWhile isSTN).head? ≠ some 91) (hR : R (.returned (.tuple #[.int .i64 0, .bool false])) w) :
    callE P i_parseLinkRefDef #[.iface ty_P_parseState (.pointer q), .string (bs l)] R w := by
  refine g_parseLinkRefDef.sound ?_
  refine skipSp_ok (i := 0) hl (Nat.zero_le _) ⟨_, rfl, q, w, ta_ps q w, ?_⟩
  generalize hj : pastSTN l 0 = j
  have hle : (l.dropWhile isSTN).length ≤ l.length := (List.dropWhile_sublist isSTN).length_le
  have hjd : j + (l.dropWhile isSTN).length = l.length := by rw [← hj, pastSTN, List.drop_zero]; omega
  have hsuf : l.drop j = l.dropWhile isSTN := by
    obtain ⟨pre, hp⟩ := List.dropWhile_suffix isSTN (l := l)
    have hpl : pre.length = j := by have := congrArg List.length hp; simp at this; omega
    exact (congrArg (List.drop j) hp).symm.trans (by rw [← hpl, List.drop_left])
  refine g_parseLinkLabel.sound ?_
  have hlt : (!(decide ((j : Int) ≥ ((bs l).size : Int)))) = true → j < l.length := by
    intro h; simp at h; exact h
  refine ⟨fun h => ⟨by omega, by have := hlt h; simp; omega⟩, br_true ?_ ⟨_, _, _, rfl, ?_⟩⟩
  · by_cases hjl : j < l.length
    · have : l[j] ≠ 91 := by
        intro h91
        apply hb
        rw [← hsuf, List.drop_eq_getElem_cons hjl, h91]
        rfl
      rw [bne, bt_beq hjl 91 91 rfl]
      simp [this]
    · simp; omega
  · refine ⟨fun h => by simp at h, br_true rfl hR⟩

def NoRef (l : List UInt8) : Prop := ∀ (R : Ending → World → Prop) (w : World) (q : Option Addr), R (.returned (.tuple #[.int .i64 0, .bool false])) w → callE P i_parseLinkRefDef #[.iface ty_P_parseState (.pointer q), .string (bs l)] R w
theorem noRef_of {l : List UInt8} (hl : l.length < 4611686018427387904) (hb : (l.dropWhile isSTN).head? ≠ some 91) : NoRef l := fun _ _ _ hR => parseLinkRefDef_no hl hb hR
theorem join_one {q : Option Addr} {c : Nat} {s sep : List UInt8} {TM : List Chunk} (h : Sat σ w (TM ++ L)) (hS : Sl 1 ty_string q 1 c [.string (bs s)] TM)
    (hR : ∀ w, Sat σ w (TM ++ L) → R (.returned (.string (bs s))) w) : callE P i_strings_Join #[.slice q 1 c, .string (bs sep)] R w := by
  refine g_strings_Join.sound ?_
  obtain ⟨_, _, hz | ⟨tb, sp, rfl, rfl, _⟩⟩ := hS
  · omega
  · refine br_false rfl (br_true rfl ⟨by decide, by decide, nilP_some ?_⟩)
    exact ⟨_, Sat.ld h (.head _) rfl, hR _ h⟩
end Go.Proofs.YtihmcipajjakgaaGreatDoor


set_option linter.unusedVariables false
namespace Go.Proofs.YtihmcipajjakgaaGreatDoor
open Go.Proofs Go.IntWalk
variable {σ : Out} {w : World} {L L' : List Chunk} {R : Ending → World → Prop}

theorem pos_ok {b : Nat} {p : PS} {l : List OB} {o : OB} {M : List Chunk} (h : Sat σ w (p.at b :: M ++ L)) (hs : Stk p (l ++ [o]) M)
    (hR : ∀ w, Sat σ w (p.at b :: M ++ L) → R (.returned (.agg #[.int .i64 o.s, .int .i64 o.e])) w) : callE P i_parseState_pos #[.pointer (some ⟨b, 0, none⟩)] R w := by
  obtain ⟨sb, sp, hq, rfl, hsp⟩ := hs.split (by simp)
  have hn := hs.2.1
  have hlt := hs.2.2
  rw [List.length_append, List.length_singleton] at hn hlt
  refine g_parseState_pos.sound ?_
  refine Sat.bx h fun b1 w h => ?_
  repeat (first | refine nilP_some ?_ | refine Sat.tk h fun w h => ?_ | refine ⟨_, Sat.ld h (by first | assumption | (repeat (first | exact .head _ | apply List.Mem.tail))) (by exact rfl), ?_⟩ | refine ⟨_, _, _, Sat.ld h (by first | assumption | (repeat (first | exact .head _ | apply List.Mem.tail))) (by exact rfl), ?_⟩)
  rw [hn, len_dec (by omega)]
  refine ⟨by omega, by omega, ?_⟩
  rw [hq]
  refine nilP_some ?_
  simp only [Addr.add_lit, Nat.zero_add, Int.toNat_natCast, Nat.add_zero]
  refine ⟨_, Sat.ld h (by first | assumption | (repeat (first | exact .head _ | apply List.Mem.tail))) (stk_get (f := 2) (by decide) (last_get o)), ?_⟩
  refine ⟨_, Sat.ld h (by first | assumption | (repeat (first | exact .head _ | apply List.Mem.tail))) (stk_get (f := 3) (by decide) (last_get o)), ?_⟩
  repeat (first | refine nilP_some ?_ | refine Sat.tk h fun w h => ?_ | refine ⟨_, Sat.ld h (by first | assumption | (repeat (first | exact .head _ | apply List.Mem.tail))) (by exact rfl), ?_⟩ | refine ⟨_, _, _, Sat.ld h (by first | assumption | (repeat (first | exact .head _ | apply List.Mem.tail))) (by exact rfl), ?_⟩ | refine Sat.st h (k := 0) rfl (Nat.le_of_ble_eq_true rfl) trivial (by first | (dsimp only [List.set]; exact rfl) | exact rfl) fun w h => ?_ | refine Sat.st h (k := 1) rfl (Nat.le_of_ble_eq_true rfl) trivial (by first | (dsimp only [List.set]; exact rfl) | exact rfl) fun w h => ?_ | refine Sat.st h (k := 2) rfl (Nat.le_of_ble_eq_true rfl) trivial (by first | (dsimp only [List.set]; exact rfl) | exact rfl) fun w h => ?_ | refine Sat.st h (k := 3) rfl (Nat.le_of_ble_eq_true rfl) trivial (by first | (dsimp only [List.set]; exact rfl) | exact rfl) fun w h => ?_ | refine Sat.st h (k := 4) rfl (Nat.le_of_ble_eq_true rfl) trivial (by first | (dsimp only [List.set]; exact rfl) | exact rfl) fun w h => ?_ | refine Sat.st h (k := 5) rfl (Nat.le_of_ble_eq_true rfl) trivial (by first | (dsimp only [List.set]; exact rfl) | exact rfl) fun w h => ?_ | refine Sat.st h (k := 6) rfl (Nat.le_of_ble_eq_true rfl) trivial (by first | (dsimp only [List.set]; exact rfl) | exact rfl) fun w h => ?_ | refine Sat.bx h fun b0 w h => ?_)
  exact hR _ h.tail

noncomputable def rowText : Row P ty_S_P_Text ty_P_Text 1 8 :=
  ⟨(P.info? ty_P_Text).getD default, ((P.info? ty_P_Text).bind (·.zero)).getD default, by kernel_rfl, by kernel_rfl, by kernel_rfl, by kernel_rfl, by kernel_rfl, by kernel_rfl, by decide⟩
def Txts (p : PS) (ts : List Nat) (M : List Chunk) : Prop := Sl 1 ty_P_Text p.tq p.tn p.tc (ts.map fun t => .pointer (some ⟨t, 0, none⟩)) M ∧ p.tn = ts.length ∧ ts.length < 1048576
def textC (t : Nat) (s e : Nat) (q : Option Addr) (n c : Nat) (raw : List UInt8) : Chunk := (t, cel [.int .i64 s, .int .i64 e, .slice q n c, .string (bs raw)] ty_Text)
theorem newText_ok {b s e : Nat} {p : PS} {ts : List Nat} {TM : List Chunk} {raw : List UInt8} (h : Sat σ w (p.at b :: TM ++ L)) (ht : Txts p ts TM) (hlen : ts.length < 1048575)
    (hR : ∀ w p' TM' t, p' = { p with tq := p'.tq, tn := ts.length + 1, tc := p'.tc } → Txts p' (ts ++ [t]) TM' → Sat σ w (p'.at b :: TM' ++ (textC t s e none 0 0 raw :: L)) →
      R (.returned (.pointer (some ⟨t, 0, none⟩))) w) :
    callE P i_parseState_newText #[.pointer (some ⟨b, 0, none⟩), .agg #[.int .i64 s, .int .i64 e], .string (bs raw)] R w := by
  have hn := ht.2.1
  refine g_parseState_newText.sound ?_
  refine Sat.bx h fun b1 w h => ?_
  repeat (first | refine nilP_some ?_ | refine Sat.tk h fun w h => ?_ | refine ⟨_, Sat.ld h (by first | assumption | (repeat (first | exact .head _ | apply List.Mem.tail))) (by exact rfl), ?_⟩ | refine ⟨_, _, _, Sat.ld h (by first | assumption | (repeat (first | exact .head _ | apply List.Mem.tail))) (by exact rfl), ?_⟩)
  refine Sat.bx h fun t w h => ?_
  repeat (first | refine nilP_some ?_ | refine Sat.tk h fun w h => ?_ | refine ⟨_, Sat.ld h (by first | assumption | (repeat (first | exact .head _ | apply List.Mem.tail))) (by exact rfl), ?_⟩ | refine ⟨_, _, _, Sat.ld h (by first | assumption | (repeat (first | exact .head _ | apply List.Mem.tail))) (by exact rfl), ?_⟩)
  have h : Sat σ w (textC t s e none 0 0 raw :: (b1, cel [.int .i64 s, .int .i64 e] ty_Position) :: (p.at b :: TM ++ L)) := h
  have h : Sat σ w (TM ++ (p.at b :: textC t s e none 0 0 raw :: L)) := h.less [(b1, cel [.int .i64 s, .int .i64 e] ty_Position)] (by intro _; simp only [List.append_eq, cnt_append, cnt_cons, cnt_nil] <;> omega)
  refine Sat.app1 rowText ht.1 h (v := .pointer (some ⟨t, 0, none⟩)) rfl (by simp [Value.cells, Value.oneCell']) (by kernel_rfl) (by omega) (by omega) (by decide) fun q' c' w TM' hS' h => ?_
  have h : Sat σ w (p.at b :: TM' ++ (textC t s e none 0 0 raw :: L)) := h.re (by intro _; simp only [List.append_eq, cnt_append, cnt_cons, cnt_nil] <;> omega)
  rw [hn] at hS' ⊢
  let p' : PS := { p with tq := q', tn := ts.length + 1, tc := c' }
  repeat (first | refine nilP_some ?_ | refine Sat.tk h fun w h => ?_ | refine ⟨_, Sat.ld h (by first | assumption | (repeat (first | exact .head _ | apply List.Mem.tail))) (by exact rfl), ?_⟩ | refine ⟨_, _, _, Sat.ld h (by first | assumption | (repeat (first | exact .head _ | apply List.Mem.tail))) (by exact rfl), ?_⟩ | refine Sat.st h (k := 0) rfl (Nat.le_of_ble_eq_true rfl) trivial (by first | (dsimp only [List.set]; exact rfl) | exact rfl) fun w h => ?_ | refine Sat.st h (k := 1) rfl (Nat.le_of_ble_eq_true rfl) trivial (by first | (dsimp only [List.set]; exact rfl) | exact rfl) fun w h => ?_ | refine Sat.st h (k := 2) rfl (Nat.le_of_ble_eq_true rfl) trivial (by first | (dsimp only [List.set]; exact rfl) | exact rfl) fun w h => ?_ | refine Sat.st h (k := 3) rfl (Nat.le_of_ble_eq_true rfl) trivial (by first | (dsimp only [List.set]; exact rfl) | exact rfl) fun w h => ?_ | refine Sat.st h (k := 4) rfl (Nat.le_of_ble_eq_true rfl) trivial (by first | (dsimp only [List.set]; exact rfl) | exact rfl) fun w h => ?_ | refine Sat.st h (k := 5) rfl (Nat.le_of_ble_eq_true rfl) trivial (by first | (dsimp only [List.set]; exact rfl) | exact rfl) fun w h => ?_ | refine Sat.st h (k := 6) rfl (Nat.le_of_ble_eq_true rfl) trivial (by first | (dsimp only [List.set]; exact rfl) | exact rfl) fun w h => ?_ | refine Sat.bx h fun b0 w h => ?_)
  refine hR _ p' TM' t rfl ⟨?_, by simp [p'], by simp; omega⟩ h
  rw [List.map_append]
  exact hS'
end Go.Proofs.YtihmcipajjakgaaGreatDoor


set_option linter.unusedVariables false
namespace Go.Proofs.YtihmcipajjakgaaGreatDoor
open Go.Proofs Go.IntWalk
variable {σ : Out} {w : World} {L L' : List Chunk} {R : Ending → World → Prop}

theorem und_table : P.underlying ty_P_tableBuilder = some (.pointer ty_tableBuilder) := by kernel_rfl
def paraC (nb s e t : Nat) : Chunk := (nb, cel [.int .i64 s, .int .i64 e, .pointer (some ⟨t, 0, none⟩)] ty_Paragraph)
theorem Stk.of {p p' : PS} {l : List OB} {M : List Chunk} (h : Stk p l M) (h1 : p'.stq = p.stq) (h2 : p'.stn = p.stn) (h3 : p'.stc = p.stc) : Stk p' l M := by
  unfold Stk at *; rw [h1, h2, h3]; exact h
theorem Txts.of {p p' : PS} {l : List Nat} {M : List Chunk} (h : Txts p l M) (h1 : p'.tq = p.tq) (h2 : p'.tn = p.tn) (h3 : p'.tc = p.tc) : Txts p' l M := by
  unfold Txts at *; rw [h1, h2, h3]; exact h
end Go.Proofs.YtihmcipajjakgaaGreatDoor


set_option linter.unusedVariables false
namespace Go.Proofs.YtihmcipajjakgaaGreatDoor
open Go.Proofs Go.IntWalk
variable {σ : Out} {w : World} {L L' : List Chunk} {R : Ending → World → Prop}

theorem equalIn_iface_nil {t u : TypeId} {v : Value} {ms : Array (String × TypeId)} (hu : P.underlying t = some (.interface ms)) (d : Nat) (w : World) :
    (Op.equalIn (d + 1) t (.iface u v) .nilIface).run P w = .ok false w := by
  simp [Op.equalIn, run_underlying hu]
theorem eq_iface_nil {t u : TypeId} {v : Value} {ms : Array (String × TypeId)} (hu : P.underlying t = some (.interface ms)) (x y : Operand) (w : World) :
    (do eqGuard .eql t x y (.iface u v) .nilIface; binOp .eql t (.iface u v) .nilIface).run P w = .ok (.bool false) w :=
  bin_eq rfl rfl (equalIn_iface_nil hu 9999 w)
theorem ta_list_no {t : TypeId} {v : Value} (ht : t ≠ ty_P_List) (w : World) :
    (Instr.typeAssert (.iface t v) ty_Block ty_P_List true).run P w = .ok (.tuple #[.pointer none, .bool false]) w := by
  have hund : P.underlying ty_P_List = some (.pointer ty_List) := by kernel_rfl
  exact ta_no (by rw [hund]; intro ms h; cases h) hund ht (i := (P.info? ty_P_List).getD default) (by kernel_rfl) (by kernel_rfl) w
theorem sliceTo {P : Program} {t e : TypeId} {i : TypeInfo} (ht : P.underlying t = some (.slice e)) (hi : P.info? e = some i) (b n c m : Nat) (hm : m ≤ n) (hc : n ≤ c) (w : World) :
    (Instr.sliceAt t (.slice (some ⟨b, 0, none⟩) n c) none (some (.int .i64 m)) none).run P w = .ok (.slice (some ⟨b, 0, none⟩) m c) w := by
  have h1 : ¬ ((m : Int) < 0) := by omega
  have h2 : ¬ ((c : Int) < (m : Int)) := by omega
  simp [Instr.sliceAt, Instr.slice, Instr.sliceBounds, run_underlying ht, sizeOf, typeInfo, hi, run_sliceBound w .i64 (m : Int) c .sliceAcap (by omega) (by omega), Addr.add_lit]
end Go.Proofs.YtihmcipajjakgaaGreatDoor


set_option linter.unusedVariables false
namespace Go.Proofs.YtihmcipajjakgaaGreatDoor
open Go.Proofs Go.IntWalk
variable {σ : Out} {w : World} {L L' : List Chunk} {R : Ending → World → Prop}

noncomputable def rowBlock : Row P ty_S_Block ty_Block 1 16 :=
  ⟨(P.info? ty_Block).getD default, ((P.info? ty_Block).bind (·.zero)).getD default, by kernel_rfl, by kernel_rfl, by kernel_rfl, by kernel_rfl, by kernel_rfl, by kernel_rfl, by decide⟩
theorem closeBlock_ok {b : Nat} {p : PS} {ob : List OB} {par o : OB} {M IM : List Chunk} {inner : List Value} {t : TypeId} {v : Value} (Post : PS → List Chunk → TypeId → Option Addr → Prop)
    (h : Sat σ w (p.at b :: M ++ (IM ++ L))) (hs : Stk p (ob ++ [par] ++ [o]) M) (ho : o.bd = .iface t v) (hI : Sl 1 ty_Block par.q par.n par.c inner IM) (hin : par.n < 1000000)
    (hb : ∀ (R' : Ending → World → Prop) w, Sat σ w (p.at b :: M ++ (IM ++ L)) →
      (∀ w p1 L1 tb q, p1.stq = p.stq → p1.stn = p.stn → p1.stc = p.stc → tb ≠ ty_P_List → Post p1 L1 tb q → Sat σ w (p1.at b :: M ++ (IM ++ L1)) → R' (.returned (.iface tb (.pointer q))) w) →
      enterE P (callMethod o.bd "pub-paratext/pub/rscmarkdown.build" #[.iface ty_P_parseState (.pointer (some ⟨b, 0, none⟩))]) R' w)
    (hR : ∀ w p2 M2 IM2 p1 L1 tb q q' c', Post p1 L1 tb q → p2 = { p1 with stn := ob.length + 1 } → Stk p2 (ob ++ [{ par with q := q', n := par.n + 1, c := c' }]) M2 →
      Sl 1 ty_Block q' (par.n + 1) c' (inner ++ [.iface tb (.pointer q)]) IM2 → Sat σ w (p2.at b :: M2 ++ (IM2 ++ L1)) → R (.returned (.iface tb (.pointer q))) w) :
    callE P i_parseState_closeBlock #[.pointer (some ⟨b, 0, none⟩)] R w := by
  have hlt := hs.2.2
  have hn := hs.2.1
  obtain ⟨sb, sp, hq, rfl, hsp⟩ := hs.split (by simp)
  simp only [List.length_append, List.length_singleton] at hn hlt
  refine g_parseState_closeBlock.sound ?_
  refine Sat.tk h fun w h => ?_
  refine nilP_some (nilP_some ?_)
  refine ⟨_, _, _, Sat.ld h (by first | assumption | (repeat (first | exact .head _ | apply List.Mem.tail))) (by exact rfl), ?_⟩
  refine ⟨_, _, _, Sat.ld h (by first | assumption | (repeat (first | exact .head _ | apply List.Mem.tail))) (by exact rfl), ?_⟩
  rw [hn, len_dec (by omega)]
  refine ⟨by omega, by omega, ?_⟩
  rw [hq]
  refine nilP_some ?_
  simp only [Addr.add_lit, Nat.zero_add, Int.toNat_natCast]
  have hg : ((ob ++ [par]) ++ [o])[ob.length + 1]? = some o := by simp
  refine ⟨o.bd, Sat.ld h (.tail _ (.head _)) (stk_get (f := 0) (by decide) hg), false, w, by rw [ho]; exact eq_iface_nil und_bb _ _ w, br_false rfl ?_⟩
  refine nilP_some ?_
  refine ⟨o.bd, Sat.ld h (.tail _ (.head _)) (stk_get (f := 0) (by decide) hg), ?_⟩
  refine hb _ w h fun w p1 L1 tb q h1 h2 h3 htb hpost h => ⟨_, rfl, none, false, w, ta_list_no htb w, br_false rfl ?_⟩
  have hq1 : p1.stq = some ⟨sb, 0, none⟩ := by rw [h1, hq]
  have hn1 : p1.stn = ob.length + 1 + 1 := by rw [h2, hn]
  refine Sat.tk h fun w h => ?_
  refine nilP_some (nilP_some ?_)
  refine ⟨_, _, _, Sat.ld h (by first | assumption | (repeat (first | exact .head _ | apply List.Mem.tail))) (by exact rfl), ?_⟩
  refine ⟨_, _, _, Sat.ld h (by first | assumption | (repeat (first | exact .head _ | apply List.Mem.tail))) (by exact rfl), ?_⟩
  rw [hn1, len_dec (by omega), hq1]
  have hcap : ob.length + 1 + 1 ≤ p1.stc := by have := hs.1.2.1; rw [hn] at this; rw [h3]; exact this
  refine ⟨_, _, _, fun w => sliceTo rowOB.ht rowOB.hi sb (ob.length + 1 + 1) p1.stc (ob.length + 1) (by omega) hcap w, ?_⟩
  refine nilP_some ?_
  refine Sat.st h (k := 0) rfl (Nat.le_of_ble_eq_true rfl) trivial (by first | (dsimp only [List.set]; exact rfl) | exact rfl) fun w h => ?_
  let p2 : PS := { p1 with stq := some ⟨sb, 0, none⟩, stn := ob.length + 1 }
  have hp2 : p2 = { p1 with stn := ob.length + 1 } := by simp only [p2, ← hq1]
  have h : Sat σ w (p2.at b :: [(sb, cel (obCells (ob ++ [par]) ++ (o.cells ++ sp)) ty_openBlock)] ++ (IM ++ L1)) := by
    rw [obCells_snoc, List.append_assoc] at h
    exact h
  refine nilP_some ?_
  refine ⟨_, _, _, Sat.ld h (by first | assumption | (repeat (first | exact .head _ | apply List.Mem.tail))) (by exact rfl), ?_⟩
  refine br_true (by simp [p2]) ?_
  refine Sat.tk h fun w h => ?_
  refine nilP_some (nilP_some ?_)
  refine ⟨_, _, _, Sat.ld h (by first | assumption | (repeat (first | exact .head _ | apply List.Mem.tail))) (by exact rfl), ?_⟩
  refine ⟨_, _, _, Sat.ld h (by first | assumption | (repeat (first | exact .head _ | apply List.Mem.tail))) (by exact rfl), ?_⟩
  rw [show p2.stn = ob.length + 1 from rfl, len_dec (by omega), show p2.stq = some ⟨sb, 0, none⟩ from rfl]
  refine ⟨by omega, by omega, nilP_some ?_⟩
  simp only [Addr.add_lit, Nat.zero_add, Int.toNat_natCast, Nat.add_zero]
  refine ⟨_, _, _, Sat.ld h (.tail _ (.head _)) (stk_get (f := 1) (by decide) (last_get par)), ?_⟩
  have h : Sat σ _ (IM ++ (p2.at b :: (sb, cel (obCells (ob ++ [par]) ++ (o.cells ++ sp)) ty_openBlock) :: L1)) := h.re (by intro _; simp only [List.append_eq, cnt_append, cnt_cons, cnt_nil] <;> omega)
  refine Sat.app1 rowBlock hI h (v := .iface tb (.pointer q)) rfl (by simp [Value.cells, Value.oneCell']) (by kernel_rfl) (by omega) (by omega) (by decide) fun q' c' w IM2 hI' h => ?_
  have h : Sat σ _ (p2.at b :: (sb, cel (obCells (ob ++ [par]) ++ (o.cells ++ sp)) ty_openBlock) :: (IM2 ++ L1)) := h.re (by intro _; simp only [List.append_eq, cnt_append, cnt_cons, cnt_nil] <;> omega)
  refine Sat.st h (k := 1) rfl (by rw [List.length_append, obCells_length, List.length_append, List.length_singleton]; omega) trivial rfl fun w h => ?_
  have e := stk_set (l := ob) (sp := o.cells ++ sp) (o := par) (o' := { par with q := q', n := par.n + 1, c := c' }) (f := 1) (v := .slice q' (par.n + 1) c') (by decide) rfl
  have h : Sat σ w (p2.at b :: (sb, cel (obCells (ob ++ [{ par with q := q', n := par.n + 1, c := c' }]) ++ (o.cells ++ sp)) ty_openBlock) :: (IM2 ++ L1)) := by
    rw [← e]; exact h
  have hs2 : Stk p2 (ob ++ [{ par with q := q', n := par.n + 1, c := c' }]) [(sb, cel (obCells (ob ++ [{ par with q := q', n := par.n + 1, c := c' }]) ++ (o.cells ++ sp)) ty_openBlock)] := by
    refine Stk.mk' rfl ?_ (by simp [p2]) (by simp; omega)
    show _ = p1.stc * 4
    rw [h3, ← hsp]
    simp only [List.length_append, obCells_length, List.length_singleton, OB.cells, List.length_cons, List.length_nil]
    omega
  refine hR w p2 _ IM2 p1 L1 tb q q' c' hpost hp2 hs2 hI' h
end Go.Proofs.YtihmcipajjakgaaGreatDoor


set_option linter.unusedVariables false
namespace Go.Proofs.YtihmcipajjakgaaGreatDoor
open Go.Proofs Go.IntWalk
variable {σ : Out} {w : World} {L L' : List Chunk} {R : Ending → World → Prop}

def docC (db s e : Nat) (q : Option Addr) (n c : Nat) (links : Option Nat) : Chunk := (db, cel [.int .i64 s, .int .i64 e, .slice q n c, .map links] ty_Document)
theorem rootBuild_ok {b : Nat} {rq : Option Addr} {p : PS} {ob : List OB} {o : OB} {M : List Chunk} (h : Sat σ w (p.at b :: M ++ L)) (hs : Stk p (ob ++ [o]) M)
    (hR : ∀ w db, Sat σ w (p.at b :: M ++ (docC db o.s o.e o.q o.n o.c p.links :: L)) → R (.returned (.iface ty_P_Document (.pointer (some ⟨db, 0, none⟩)))) w) :
    callE P i_rootBuilder_build #[.pointer rq, .iface ty_P_parseState (.pointer (some ⟨b, 0, none⟩))] R w := by
  refine g_rootBuilder_build.sound ?_
  refine Sat.tk h fun w h => ?_
  refine ⟨_, ta_ps _, nilP_some ?_⟩
  refine ⟨_, Sat.ld h (by first | assumption | (repeat (first | exact .head _ | apply List.Mem.tail))) (by exact rfl), ?_⟩
  have h0 := h
  refine enter_meth meth_pos ?_
  refine pos_ok h hs fun w h => ⟨_, _, rfl, h0.same h (.head _) (.head _) 1, ?_⟩
  have h1 := h
  refine enter_meth meth_blocks ?_
  refine blocks_ok h hs fun w h => ⟨_, _, _, rfl, h1.same h (.head _) (.head _) 1, ?_⟩
  refine Sat.bx h fun db w h => ?_
  have h : Sat σ w (docC db o.s o.e o.q o.n o.c p.links :: (p.at b :: M ++ L)) := h
  exact hR w db (h.re (by intro _; simp only [List.append_eq, cnt_append, cnt_cons, cnt_nil] <;> omega))
theorem ta_doc (q : Option Addr) (w : World) : (Instr.typeAssert (.iface ty_P_Document (.pointer q)) ty_Block ty_P_Document false).run P w = .ok (.pointer q) w := by
  have hund : P.underlying ty_P_Document = some (.pointer ty_Document) := by kernel_rfl
  exact ta_yes1 (by rw [hund]; intro ms h; cases h) hund w
theorem closeRoot_ok {b rb : Nat} {p : PS} {o : OB} {M : List Chunk} (h : Sat σ w (p.at b :: M ++ L)) (hs : Stk p [o] M) (ho : o.bd = .iface ty_P_rootBuilder (.pointer (some ⟨rb, 0, none⟩)))
    (hR : ∀ w db, Sat σ w ({ p with stn := 0, root := some ⟨db, 0, none⟩ }.at b :: M ++ (docC db o.s o.e o.q o.n o.c p.links :: L)) → R (.returned (.iface ty_P_Document (.pointer (some ⟨db, 0, none⟩)))) w) :
    callE P i_parseState_closeBlock #[.pointer (some ⟨b, 0, none⟩)] R w := by
  have hn := hs.2.1
  have hs' : Stk p ([] ++ [o]) M := hs
  obtain ⟨sb, sp, hq, rfl, hsp⟩ := hs.split (by simp)
  simp only [List.length_singleton] at hn
  refine g_parseState_closeBlock.sound ?_
  refine Sat.tk h fun w h => ?_
  refine nilP_some (nilP_some ?_)
  refine ⟨_, _, _, Sat.ld h (by first | assumption | (repeat (first | exact .head _ | apply List.Mem.tail))) (by exact rfl), ?_⟩
  refine ⟨_, _, _, Sat.ld h (by first | assumption | (repeat (first | exact .head _ | apply List.Mem.tail))) (by exact rfl), ?_⟩
  rw [hn, show IntKind.i64.wrap (((1 : Nat) : Int) - 1) = ((0 : Nat) : Int) from rfl]
  refine ⟨by omega, by omega, ?_⟩
  rw [hq]
  refine nilP_some ?_
  simp only [Addr.add_lit, Nat.zero_add, Int.toNat_natCast, Nat.zero_mul]
  have hg : (([] : List OB) ++ [o])[0]? = some o := rfl
  refine ⟨o.bd, Sat.ld h (.tail _ (.head _)) rfl, false, w, by rw [ho]; exact eq_iface_nil und_bb _ _ w, br_false rfl ?_⟩
  refine nilP_some ?_
  refine ⟨o.bd, Sat.ld h (.tail _ (.head _)) rfl, ?_⟩
  rw [ho]
  refine enter_meth meth_rootBuild ?_
  refine rootBuild_ok (ob := []) h hs' fun w db h => ⟨_, rfl, none, false, w, ta_list_no (by decide) w, br_false rfl ?_⟩
  refine Sat.tk h fun w h => ?_
  refine nilP_some (nilP_some ?_)
  refine ⟨_, _, _, Sat.ld h (by first | assumption | (repeat (first | exact .head _ | apply List.Mem.tail))) (by exact rfl), ?_⟩
  refine ⟨_, _, _, Sat.ld h (by first | assumption | (repeat (first | exact .head _ | apply List.Mem.tail))) (by exact rfl), ?_⟩
  have hcap : 1 ≤ p.stc := by have := hs.1.2.1; rw [hn] at this; exact this
  rw [hn, show IntKind.i64.wrap (((1 : Nat) : Int) - 1) = ((0 : Nat) : Int) from rfl, hq]
  refine ⟨_, _, _, fun w => sliceTo rowOB.ht rowOB.hi sb 1 p.stc 0 (by omega) hcap w, ?_⟩
  refine nilP_some ?_
  refine Sat.st h (k := 0) rfl (Nat.le_of_ble_eq_true rfl) trivial (by first | (dsimp only [List.set]; exact rfl) | exact rfl) fun w h => ?_
  refine nilP_some ?_
  refine ⟨_, _, _, Sat.ld h (by first | assumption | (repeat (first | exact .head _ | apply List.Mem.tail))) (by exact rfl), ?_⟩
  refine br_false rfl ?_
  refine ⟨_, _, ta_doc _ _, nilP_some ?_⟩
  refine Sat.st h (k := 0) rfl (Nat.le_of_ble_eq_true rfl) trivial (by first | (dsimp only [List.set]; exact rfl) | exact rfl) fun w h => ?_
  refine hR _ db ?_
  have e : ({ p with stn := 0, root := some ⟨db, 0, none⟩ } : PS) = { p with stq := some ⟨sb, 0, none⟩, stn := 0, root := some ⟨db, 0, none⟩ } := by rw [← hq]
  rw [e]
  exact h
end Go.Proofs.YtihmcipajjakgaaGreatDoor


set_option linter.unusedVariables false
namespace Go.Proofs.YtihmcipajjakgaaGreatDoor
open Go.Proofs Go.IntWalk
variable {σ : Out} {w : World} {L L' : List Chunk} {R : Ending → World → Prop}

noncomputable def rowInl : Row P ty_S_Inline ty_Inline 1 16 :=
  ⟨(P.info? ty_Inline).getD default, ((P.info? ty_Inline).bind (·.zero)).getD default, by kernel_rfl, by kernel_rfl, by kernel_rfl, by kernel_rfl, by kernel_rfl, by kernel_rfl, by decide⟩
def Inls (p : PS) (vs : List Value) (M : List Chunk) : Prop := Sl 1 ty_Inline p.lq p.ln p.lc vs M ∧ vs.length < 4294967296
def plainC (b : Nat) (s : List UInt8) : Chunk := (b, cel [.string (bs s)] ty_Plain)

theorem skipTo_ok {b : Nat} {p : PS} {i : Int} (h : Sat σ w (p.at b :: L)) (hR : ∀ w, Sat σ w ({ p with em := i }.at b :: L) → R (.returned (.tuple #[])) w) :
    callE P i_parseState_skip #[.pointer (some ⟨b, 0, none⟩), .int .i64 i] R w := by
  refine g_parseState_skip.sound ?_
  refine nilP_some ?_
  refine Sat.st h (k := 0) rfl (Nat.le_of_ble_eq_true rfl) trivial (by first | (dsimp only [List.set]; exact rfl) | exact rfl) fun w h => ?_
  exact hR _ h
theorem emit_no {b : Nat} {p : PS} {i : Int} (h : Sat σ w (p.at b :: L)) (hi : i ≤ p.em) (hR : ∀ w, Sat σ w (p.at b :: L) → R (.returned (.tuple #[])) w) :
    callE P i_parseState_emit #[.pointer (some ⟨b, 0, none⟩), .int .i64 i] R w := by
  refine g_parseState_emit.sound ?_
  refine nilP_some ?_
  refine ⟨_, Sat.ld h (by first | assumption | (repeat (first | exact .head _ | apply List.Mem.tail))) (by exact rfl), ?_⟩
  exact br_false (by simpa using hi) (hR _ h)
theorem emit_ok {b i e : Nat} {p : PS} {vs : List Value} {M : List Chunk} (h : Sat σ w (p.at b :: M ++ L)) (hv : Inls p vs M) (he : p.em = e) (hi : e < i) (hl : i ≤ p.s.length) (hn : vs.length < 4294967295)
    (hR : ∀ w p' M' nb, p' = { p with em := i, lq := p'.lq, ln := vs.length + 1, lc := p'.lc } → Inls p' (vs ++ [.iface ty_P_Plain (.pointer (some ⟨nb, 0, none⟩))]) M' →
      Sat σ w (p'.at b :: M' ++ (plainC nb ((p.s.take i).drop e) :: L)) → R (.returned (.tuple #[])) w) :
    callE P i_parseState_emit #[.pointer (some ⟨b, 0, none⟩), .int .i64 i] R w := by
  have hln : p.ln = vs.length := by have := hv.1.1; omega
  refine g_parseState_emit.sound ?_
  refine nilP_some ?_
  refine ⟨_, Sat.ld h (by first | assumption | (repeat (first | exact .head _ | apply List.Mem.tail))) (by exact rfl), ?_⟩
  rw [he]
  refine br_true (by simpa using hi) ?_
  refine Sat.tk h fun w h => ?_
  refine nilP_some (nilP_some (nilP_some ?_))
  refine ⟨_, _, _, Sat.ld h (by first | assumption | (repeat (first | exact .head _ | apply List.Mem.tail))) (by exact rfl), ?_⟩
  refine ⟨_, Sat.ld h (by first | assumption | (repeat (first | exact .head _ | apply List.Mem.tail))) (by exact rfl), ?_⟩
  refine ⟨_, Sat.ld h (by first | assumption | (repeat (first | exact .head _ | apply List.Mem.tail))) (by exact rfl), ?_⟩
  rw [he]
  refine ⟨by omega, by omega, by simp; omega, ?_⟩
  rw [Int.toNat_natCast, Int.toNat_natCast, bs_extract]
  have h0 := h
  refine Sat.bx h fun nb w h => ?_
  refine ⟨h0.same h (.head _) (.tail _ (.head _)) 1, ?_⟩
  have h : Sat σ w (M ++ (p.at b :: plainC nb ((p.s.take i).drop e) :: L)) := Sat.re (L := plainC nb ((p.s.take i).drop e) :: (p.at b :: M ++ L)) h (by intro _; simp only [List.append_eq, cnt_append, cnt_cons, cnt_nil] <;> omega)
  have hs0 := h0
  refine Sat.app1S rowInl hv.1 h (v := .iface ty_P_Plain (.pointer (some ⟨nb, 0, none⟩))) rfl (by simp [Value.cells, Value.oneCell']) (by kernel_rfl) (by omega) (by omega) (by decide)
    (C := fun w1 => SameC _ w1 _ 1) (fun w1 X h' => Sat.same h h' (b := b) (o := cel p.cells ty_parseState) (by simp) (by simp) 1) fun q' c' w M' hS' h => ?_
  have h : Sat σ w (p.at b :: M' ++ (plainC nb ((p.s.take i).drop e) :: L)) := h.re (by intro _; simp only [List.append_eq, cnt_append, cnt_cons, cnt_nil] <;> omega)
  let p' : PS := { p with em := i, lq := q', ln := p.ln + 1, lc := c' }
  refine nilP_some ?_
  refine Sat.st h (k := 0) rfl (Nat.le_of_ble_eq_true rfl) trivial (by first | (dsimp only [List.set]; exact rfl) | exact rfl) fun w h => ?_
  refine nilP_some ?_
  refine Sat.st h (k := 0) rfl (Nat.le_of_ble_eq_true rfl) trivial (by first | (dsimp only [List.set]; exact rfl) | exact rfl) fun w h => ?_
  refine hR _ p' M' nb (by simp [p', hln]) ⟨hS', by simp; omega⟩ h
end Go.Proofs.YtihmcipajjakgaaGreatDoor


set_option linter.unusedVariables false
set_option maxRecDepth 20000
namespace Go.Proofs.YtihmcipajjakgaaGreatDoor
open Go.Proofs
namespace g_Document_PrintHTML
noncomputable def body : Code := bodyOf Tryz.f226
def bl1 (R : EP) (Xa : OA → OA → Nat → Nat → Int → Int → WP) (x1 : OA) (x9q : OA) (x9n : Nat) (x9c : Nat) (x10 : Int) (x11 : Int) (w : World) : Prop :=
 br (decide (x11 < x10))
 (0 ≤ x11 ∧ x11 < (x9n : Int) ∧
 nilP x9q fun a3 =>
 ∃ (v4 : Value), w.cell? (a3.add (Int.toNat x11 * 1)) = some v4 ∧
 enterE P (callMethod v4 "PrintHTML" #[.pointer x1]) (fun e w6 => e = .returned (.tuple #[]) ∧
 Xa x1 x9q x9n x9c x10 (IntKind.i64.wrap (x11 + 1)) w6) w)
 (R (.returned (.tuple #[])) w)
def l1 (R : EP) (x1 : OA) (x9q : OA) (x9n : Nat) (x9c : Nat) (x10 : Int) (x11 : Int) (w : World) : Prop :=
  ∀ X : OA → OA → Nat → Nat → Int → Int → WP, (∀ x1 x9q x9n x9c x10 x11 w, bl1 R X x1 x9q x9n x9c x10 x11 w → X x1 x9q x9n x9c x10 x11 w) → X x1 x9q x9n x9c x10 x11 w

noncomputable def al1 (R : EP) (Xa : OA → OA → Nat → Nat → Int → Int → WP) : AC :=
  (.leaf (sel [1, 0, 0] body))
end g_Document_PrintHTML
def g_Document_PrintHTML (R : EP) (x0 : OA) (x1 : OA) (w : World) : Prop :=
 nilP x0 fun a1 =>
 ∃ (v2q : OA), ∃ (v2n : Nat), ∃ (v2c : Nat), w.cell? (a1.add 2) = some (.slice v2q v2n v2c) ∧
 g_Document_PrintHTML.l1 R x1 v2q v2n v2c (v2n : Int) 0 w

noncomputable def g_Document_PrintHTML.ac (R : EP) : AC :=
  (.seq (.leaf (sel [0] g_Document_PrintHTML.body)) (.block 0 (.loop (leaf [(1, .s .ptr), (9, .s .slice), (10, .s (.int .i64)), (11, .s (.int .i64))] (g_Document_PrintHTML.l1 R)) (sel [1, 0, 0] g_Document_PrintHTML.body))))
theorem g_Document_PrintHTML.good (R : EP) : Good P 19 (g_Document_PrintHTML.ac R) (QF P [] R) :=
  ⟨trivial, (loopG (g_Document_PrintHTML.al1 R) (g_Document_PrintHTML.bl1 R) (fun _ => by kernel_rfl) (fun Xa => trivial) (fun Xa => by intro x1 x9q x9n x9c x10 x11 ρ w; kernel_rfl) (fun X h _ _ _ _ _ _ _ g => g X h))⟩
theorem g_Document_PrintHTML.eq (R : EP) (x0 : OA) (x1 : OA) (w : World) : g_Document_PrintHTML R x0 x1 w = vcA P 19 (g_Document_PrintHTML.ac R) (QF P [] R) (fr0 [.pointer x0, .pointer x1]) w := by kernel_rfl
theorem g_Document_PrintHTML.sound {R : EP} {x0 : OA} {x1 : OA} {w : World} (h : g_Document_PrintHTML R x0 x1 w) : callE P i_Document_PrintHTML #[.pointer x0, .pointer x1] R w :=
  callE_fin (c := g_Document_PrintHTML.body) Tryz.func226 Tryz.call226 (by kernel_rfl) (by kernel_rfl) (by kernel_rfl) (by kernel_rfl) (by kernel_rfl) (g_Document_PrintHTML.good R) (g_Document_PrintHTML.eq R x0 x1 w) h
namespace g_ToHTML
noncomputable def body : Code := bodyOf Tryz.f20
end g_ToHTML
def g_ToHTML (R : EP) (x0 : Value) (w : World) : Prop :=
 box w #[.slice none 0 0, .int .i64 0, .int .i8 0] ty_bytes_Buffer fun b1 w2 =>
 enterE P (callMethod x0 "PrintHTML" #[.pointer (some ⟨b1, 0, none⟩)]) (fun e w4 => e = .returned (.tuple #[]) ∧
 callE P i_bytes_Buffer_String #[.pointer (some ⟨b1, 0, none⟩)] (fun e w6 => ∃ (r5 : BA), e = .returned (.string r5) ∧
 R (.returned (.string r5)) w6) w4) w2

noncomputable def g_ToHTML.ac (R : EP) : AC :=
  (.leaf (sel [] g_ToHTML.body))
theorem g_ToHTML.good (R : EP) : Good P 7 (g_ToHTML.ac R) (QF P [.tmp 2] R) :=
  trivial
theorem g_ToHTML.eq (R : EP) (x0 : Value) (w : World) : g_ToHTML R x0 w = vcA P 7 (g_ToHTML.ac R) (QF P [.tmp 2] R) (fr0 [x0]) w := by kernel_rfl
theorem g_ToHTML.sound {R : EP} {x0 : Value} {w : World} (h : g_ToHTML R x0 w) : callE P i_ToHTML #[x0] R w :=
  callE_fin (c := g_ToHTML.body) Tryz.func20 Tryz.call20 (by kernel_rfl) (by kernel_rfl) (by kernel_rfl) (by kernel_rfl) (by kernel_rfl) (g_ToHTML.good R) (g_ToHTML.eq R x0 w) h
namespace g_htmlEscaper
noncomputable def body : Code := bodyOf Tryz.f246
end g_htmlEscaper
def g_htmlEscaper (R : EP) (w : World) : Prop :=
 ∃ (r1q : OA), ∃ (r1n : Nat), ∃ (r1c : Nat), ∃ w2, (Instr.buildSlice ty_zzPairs 8 #[(0, .string (ByteArray.mk #[34])), (1, .string (ByteArray.mk #[38, 113, 117, 111, 116, 59])), (2, .string (ByteArray.mk #[38])), (3, .string (ByteArray.mk #[38, 97, 109, 112, 59])), (4, .string (ByteArray.mk #[60])), (5, .string (ByteArray.mk #[38, 108, 116, 59])), (6, .string (ByteArray.mk #[62])), (7, .string (ByteArray.mk #[38, 103, 116, 59]))]).run P w = .ok (.slice r1q r1n r1c) w2 ∧
 R (.returned (.slice r1q r1n r1c)) w2

noncomputable def g_htmlEscaper.ac (R : EP) : AC :=
  (.leaf (sel [] g_htmlEscaper.body))
theorem g_htmlEscaper.good (R : EP) : Good P 2 (g_htmlEscaper.ac R) (QF P [.tmp 0] R) :=
  trivial
theorem g_htmlEscaper.eq (R : EP) (w : World) : g_htmlEscaper R w = vcA P 2 (g_htmlEscaper.ac R) (QF P [.tmp 0] R) (fr0 []) w := by kernel_rfl
theorem g_htmlEscaper.sound {R : EP} {w : World} (h : g_htmlEscaper R w) : callE P i_htmlEscaper #[] R w :=
  callE_fin (c := g_htmlEscaper.body) Tryz.func246 Tryz.call246 (by kernel_rfl) (by kernel_rfl) (by kernel_rfl) (by kernel_rfl) (by kernel_rfl) (g_htmlEscaper.good R) (g_htmlEscaper.eq R w) h
namespace g_htmlQuoteEscaper
noncomputable def body : Code := bodyOf Tryz.f255
end g_htmlQuoteEscaper
def g_htmlQuoteEscaper (R : EP) (w : World) : Prop :=
 ∃ (r1q : OA), ∃ (r1n : Nat), ∃ (r1c : Nat), ∃ w2, (Instr.buildSlice ty_zzPairs 8 #[(0, .string (ByteArray.mk #[34])), (1, .string (ByteArray.mk #[38, 113, 117, 111, 116, 59])), (2, .string (ByteArray.mk #[38])), (3, .string (ByteArray.mk #[38, 97, 109, 112, 59])), (4, .string (ByteArray.mk #[60])), (5, .string (ByteArray.mk #[38, 108, 116, 59])), (6, .string (ByteArray.mk #[62])), (7, .string (ByteArray.mk #[38, 103, 116, 59]))]).run P w = .ok (.slice r1q r1n r1c) w2 ∧
 R (.returned (.slice r1q r1n r1c)) w2

noncomputable def g_htmlQuoteEscaper.ac (R : EP) : AC :=
  (.leaf (sel [] g_htmlQuoteEscaper.body))
theorem g_htmlQuoteEscaper.good (R : EP) : Good P 2 (g_htmlQuoteEscaper.ac R) (QF P [.tmp 0] R) :=
  trivial
theorem g_htmlQuoteEscaper.eq (R : EP) (w : World) : g_htmlQuoteEscaper R w = vcA P 2 (g_htmlQuoteEscaper.ac R) (QF P [.tmp 0] R) (fr0 []) w := by kernel_rfl
theorem g_htmlQuoteEscaper.sound {R : EP} {w : World} (h : g_htmlQuoteEscaper R w) : callE P i_htmlQuoteEscaper #[] R w :=
  callE_fin (c := g_htmlQuoteEscaper.body) Tryz.func255 Tryz.call255 (by kernel_rfl) (by kernel_rfl) (by kernel_rfl) (by kernel_rfl) (by kernel_rfl) (g_htmlQuoteEscaper.good R) (g_htmlQuoteEscaper.eq R w) h
namespace g_zzPairs_Replace
noncomputable def body : Code := bodyOf Tryz.f254
end g_zzPairs_Replace
def g_zzPairs_Replace (R : EP) (x0q : OA) (x0n : Nat) (x0c : Nat) (x1 : BA) (w : World) : Prop :=
 box w #[.slice none 0 0, .int .i64 0, .int .i8 0] ty_bytes_Buffer fun b1 w2 =>
 callE P i_zzPairs_WriteString #[.slice x0q x0n x0c, .pointer (some ⟨b1, 0, none⟩), .string x1] (fun e w4 => e = .returned (.tuple #[]) ∧
 callE P i_bytes_Buffer_String #[.pointer (some ⟨b1, 0, none⟩)] (fun e w6 => ∃ (r5 : BA), e = .returned (.string r5) ∧
 R (.returned (.string r5)) w6) w4) w2

noncomputable def g_zzPairs_Replace.ac (R : EP) : AC :=
  (.leaf (sel [] g_zzPairs_Replace.body))
theorem g_zzPairs_Replace.good (R : EP) : Good P 10 (g_zzPairs_Replace.ac R) (QF P [.tmp 4] R) :=
  trivial
theorem g_zzPairs_Replace.eq (R : EP) (x0q : OA) (x0n : Nat) (x0c : Nat) (x1 : BA) (w : World) : g_zzPairs_Replace R x0q x0n x0c x1 w = vcA P 10 (g_zzPairs_Replace.ac R) (QF P [.tmp 4] R) (fr0 [.slice x0q x0n x0c, .string x1]) w := by kernel_rfl
theorem g_zzPairs_Replace.sound {R : EP} {x0q : OA} {x0n : Nat} {x0c : Nat} {x1 : ByteArray} {w : World} (h : g_zzPairs_Replace R x0q x0n x0c x1 w) : callE P i_zzPairs_Replace #[.slice x0q x0n x0c, .string x1] R w :=
  callE_fin (c := g_zzPairs_Replace.body) Tryz.func254 Tryz.call254 (by kernel_rfl) (by kernel_rfl) (by kernel_rfl) (by kernel_rfl) (by kernel_rfl) (g_zzPairs_Replace.good R) (g_zzPairs_Replace.eq R x0q x0n x0c x1 w) h
namespace g_zzPairs_WriteString
noncomputable def body : Code := bodyOf Tryz.f247
def bl2 (R : EP) (X0_1_1_0 : OA → Nat → Nat → OA → BA → Int → WP) (X0_1_1_0_0_1_0_0_0_1_0 : OA → Nat → Nat → OA → BA → Int → Int → WP) (x0q : OA) (x0n : Nat) (x0c : Nat) (x1 : OA) (x2 : BA) (x6 : Int) (x7 : Int) (w : World) : Prop :=
 br (decide (x7 < (x0n : Int)))
 (tk w fun w1 =>
 0 ≤ x6 ∧ x6 < (x2.size : Int) ∧
 0 ≤ x7 ∧ x7 < (x0n : Int) ∧
 nilP x0q fun a2 =>
 ∃ (v3 : BA), w1.cell? (a2.add (Int.toNat x7 * 1)) = some (.string v3) ∧
 0 ≤ (0 : Int) ∧ 0 < (v3.size : Int) ∧
 br ((bt x2 x6) == (bt v3 0))
 (0 ≤ (IntKind.i64.wrap (x7 + 1)) ∧ (IntKind.i64.wrap (x7 + 1)) < (x0n : Int) ∧
 nilP x0q fun a4 =>
 ∃ (v5 : BA), w1.cell? (a4.add (Int.toNat (IntKind.i64.wrap (x7 + 1)) * 1)) = some (.string v5) ∧
 callE P i_bytes_Buffer_WriteString #[.pointer x1, .string v5] (fun e w7 => ∃ (r6_0 : Int), ∃ (r6_1 : Value), e = .returned (.tuple #[.int .i64 r6_0, r6_1]) ∧
 X0_1_1_0 x0q x0n x0c x1 x2 (IntKind.i64.wrap (x6 + 1)) w7) w1)
 (X0_1_1_0_0_1_0_0_0_1_0 x0q x0n x0c x1 x2 x6 (IntKind.i64.wrap (x7 + 2)) w1))
 (0 ≤ x6 ∧ x6 < (x2.size : Int) ∧
 callE P i_bytes_Buffer_WriteByte #[.pointer x1, .int .u8 (bt x2 x6)] (fun e w9 => ∃ (r8 : Value), e = .returned r8 ∧
 X0_1_1_0 x0q x0n x0c x1 x2 (IntKind.i64.wrap (x6 + 1)) w9) w)
def l2 (R : EP) (X0_1_1_0 : OA → Nat → Nat → OA → BA → Int → WP) (x0q : OA) (x0n : Nat) (x0c : Nat) (x1 : OA) (x2 : BA) (x6 : Int) (x7 : Int) (w : World) : Prop :=
  ∀ X : OA → Nat → Nat → OA → BA → Int → Int → WP, (∀ x0q x0n x0c x1 x2 x6 x7 w, bl2 R X0_1_1_0 X x0q x0n x0c x1 x2 x6 x7 w → X x0q x0n x0c x1 x2 x6 x7 w) → X x0q x0n x0c x1 x2 x6 x7 w

noncomputable def al2 (R : EP) (X0_1_1_0 : OA → Nat → Nat → OA → BA → Int → WP) (X0_1_1_0_0_1_0_0_0_1_0 : OA → Nat → Nat → OA → BA → Int → Int → WP) : AC :=
  (.seq (.leaf (sel [0, 1, 1, 0, 0, 1, 0, 0, 0, 1, 0, 0, 0] body)) (.seq (.block 3 (.seq (.draw (.pure 0 (.pure 1 (.pure 2 (.pure 3 (.pure 4 (.pure 5 (.load 6 (.pure 7 (.pure 8 .done))))))))) (sel [0, 1, 1, 0, 0, 1, 0, 0, 0, 1, 0, 0, 1, 0, 0, 0] body)) (.leaf (sel [0, 1, 1, 0, 0, 1, 0, 0, 0, 1, 0, 0, 1, 0, 0, 1] body)))) (.leaf (sel [0, 1, 1, 0, 0, 1, 0, 0, 0, 1, 0, 0, 1, 1] body))))
def bl1 (R : EP) (X0_1_1_0 : OA → Nat → Nat → OA → BA → Int → WP) (x0q : OA) (x0n : Nat) (x0c : Nat) (x1 : OA) (x2 : BA) (x6 : Int) (w : World) : Prop :=
 br (decide (x6 < (x2.size : Int)))
 (l2 R X0_1_1_0 x0q x0n x0c x1 x2 x6 0 w)
 (R (.returned (.tuple #[])) w)
def l1 (R : EP) (x0q : OA) (x0n : Nat) (x0c : Nat) (x1 : OA) (x2 : BA) (x6 : Int) (w : World) : Prop :=
  ∀ X : OA → Nat → Nat → OA → BA → Int → WP, (∀ x0q x0n x0c x1 x2 x6 w, bl1 R X x0q x0n x0c x1 x2 x6 w → X x0q x0n x0c x1 x2 x6 w) → X x0q x0n x0c x1 x2 x6 w

noncomputable def al1 (R : EP) (X0_1_1_0 : OA → Nat → Nat → OA → BA → Int → WP) : AC :=
  (.seq (.leaf (sel [0, 1, 1, 0, 0, 0] body)) (.seq (.block 1 (.seq (.seq (.leaf (sel [0, 1, 1, 0, 0, 1, 0, 0, 0, 0] body)) (.block 2 (.loop (leaf [(0, .s .slice), (1, .s .ptr), (2, .s .str), (6, .s (.int .i64)), (7, .s (.int .i64))] (l2 R X0_1_1_0)) (sel [0, 1, 1, 0, 0, 1, 0, 0, 0, 1, 0, 0] body)))) (.leaf (sel [0, 1, 1, 0, 0, 1, 0, 0, 1] body)))) (.leaf (sel [0, 1, 1, 0, 0, 1, 1] body))))
end g_zzPairs_WriteString
def g_zzPairs_WriteString (R : EP) (x0q : OA) (x0n : Nat) (x0c : Nat) (x1 : OA) (x2 : BA) (w : World) : Prop :=
 g_zzPairs_WriteString.l1 R x0q x0n x0c x1 x2 0 w

noncomputable def g_zzPairs_WriteString.ac (R : EP) : AC :=
  (.scope (.seq (.leaf (sel [0, 0] g_zzPairs_WriteString.body)) (.seq (.leaf (sel [0, 1, 0] g_zzPairs_WriteString.body)) (.block 0 (.loop (leaf [(0, .s .slice), (1, .s .ptr), (2, .s .str), (6, .s (.int .i64))] (g_zzPairs_WriteString.l1 R)) (sel [0, 1, 1, 0, 0] g_zzPairs_WriteString.body))))))
theorem g_zzPairs_WriteString.good (R : EP) : Good P 41 (g_zzPairs_WriteString.ac R) (QF P [] R) :=
  ⟨trivial, ⟨trivial, (loopG (g_zzPairs_WriteString.al1 R) (g_zzPairs_WriteString.bl1 R) (fun _ => by kernel_rfl) (fun X0_1_1_0 => ⟨trivial, ⟨⟨⟨trivial, (loopG (g_zzPairs_WriteString.al2 R X0_1_1_0) (g_zzPairs_WriteString.bl2 R X0_1_1_0) (fun _ => by kernel_rfl) (fun X0_1_1_0_0_1_0_0_0_1_0 => ⟨trivial, ⟨⟨⟨by kernel_rfl, by kernel_rfl, fun _ _ _ h => h⟩, trivial⟩, trivial⟩⟩) (fun X0_1_1_0_0_1_0_0_0_1_0 => by intro x0q x0n x0c x1 x2 x6 x7 ρ w; kernel_rfl) (fun X h _ _ _ _ _ _ _ _ g => g X h))⟩, trivial⟩, trivial⟩⟩) (fun X0_1_1_0 => by intro x0q x0n x0c x1 x2 x6 ρ w; kernel_rfl) (fun X h _ _ _ _ _ _ _ g => g X h))⟩⟩
theorem g_zzPairs_WriteString.eq (R : EP) (x0q : OA) (x0n : Nat) (x0c : Nat) (x1 : OA) (x2 : BA) (w : World) : g_zzPairs_WriteString R x0q x0n x0c x1 x2 w = vcA P 41 (g_zzPairs_WriteString.ac R) (QF P [] R) (fr0 [.slice x0q x0n x0c, .pointer x1, .string x2]) w := by kernel_rfl
theorem g_zzPairs_WriteString.sound {R : EP} {x0q : OA} {x0n : Nat} {x0c : Nat} {x1 : OA} {x2 : ByteArray} {w : World} (h : g_zzPairs_WriteString R x0q x0n x0c x1 x2 w) : callE P i_zzPairs_WriteString #[.slice x0q x0n x0c, .pointer x1, .string x2] R w :=
  callE_fin (c := g_zzPairs_WriteString.body) Tryz.func247 Tryz.call247 (by kernel_rfl) (by kernel_rfl) (by kernel_rfl) (by kernel_rfl) (by kernel_rfl) (g_zzPairs_WriteString.good R) (g_zzPairs_WriteString.eq R x0q x0n x0c x1 x2 w) h
namespace g_strings_Builder_String
noncomputable def body : Code := bodyOf Tryz.f144
end g_strings_Builder_String
def g_strings_Builder_String (R : EP) (x0 : OA) (w : World) : Prop :=
 tk w fun w1 =>
 nilP x0 fun a2 =>
 nilP x0 fun a3 =>
 ∃ (v4q : OA), ∃ (v4n : Nat), ∃ (v4c : Nat), w1.cell? (a2.add 1) = some (.slice v4q v4n v4c) ∧
 ∃ (v5q : OA), ∃ (v5n : Nat), ∃ (v5c : Nat), w1.cell? (a3.add 1) = some (.slice v5q v5n v5c) ∧
 ∃ (r6 : OA), ∃ w7, (Builtin.unsafeSliceData_ #[ty_S_uint8] ty_P_uint8 #[.slice v4q v4n v4c]).run P w1 = .ok (.pointer r6) w7 ∧
 SameC w1 w7 (a3.add 1) 1 ∧
 ∃ (r8 : BA), ∃ w9, (Builtin.unsafeString_ #[ty_P_uint8, ty_int] ty_string #[.pointer r6, .int .i64 (v5n : Int)]).run P w7 = .ok (.string r8) w9 ∧
 R (.returned (.string r8)) w9

noncomputable def g_strings_Builder_String.ac (R : EP) : AC :=
  (.seq (.leaf (sel [0] g_strings_Builder_String.body)) (.seq (.draw (.pure 0 (.pure 1 (.pure 2 (.pure 5 (.pure 6 (.pure 7 (.load 3 (.load 8 (.pure 9 (.one 4 (.one 10 (.pure 11 .done)))))))))))) (sel [1, 0] g_strings_Builder_String.body)) (.leaf (sel [1, 1] g_strings_Builder_String.body))))
theorem g_strings_Builder_String.good (R : EP) : Good P 14 (g_strings_Builder_String.ac R) (QF P [.tmp 2] R) :=
  ⟨trivial, ⟨⟨by kernel_rfl, by kernel_rfl, fun _ _ _ h => h⟩, trivial⟩⟩
theorem g_strings_Builder_String.eq (R : EP) (x0 : OA) (w : World) : g_strings_Builder_String R x0 w = vcA P 14 (g_strings_Builder_String.ac R) (QF P [.tmp 2] R) (fr0 [.pointer x0]) w := by kernel_rfl
theorem g_strings_Builder_String.sound {R : EP} {x0 : OA} {w : World} (h : g_strings_Builder_String R x0 w) : callE P i_strings_Builder_String #[.pointer x0] R w :=
  callE_fin (c := g_strings_Builder_String.body) Tryz.func144 Tryz.call144 (by kernel_rfl) (by kernel_rfl) (by kernel_rfl) (by kernel_rfl) (by kernel_rfl) (g_strings_Builder_String.good R) (g_strings_Builder_String.eq R x0 w) h
namespace g_strings_Builder_WriteByte
noncomputable def body : Code := bodyOf Tryz.f151
end g_strings_Builder_WriteByte
def g_strings_Builder_WriteByte (R : EP) (x0 : OA) (x1 : Int) (w : World) : Prop :=
 callE P i_strings_Builder_copyCheck #[.pointer x0] (fun e w2 => e = .returned (.tuple #[]) ∧
 nilP x0 fun a3 =>
 ∃ (v4q : OA), ∃ (v4n : Nat), ∃ (v4c : Nat), w2.cell? (a3.add 1) = some (.slice v4q v4n v4c) ∧
 ∃ (r5q : OA), ∃ (r5n : Nat), ∃ (r5c : Nat), ∃ w6, (Instr.buildSlice ty_S_uint8 1 #[(0, .int .u8 x1)]).run P w2 = .ok (.slice r5q r5n r5c) w6 ∧
 ∃ (r7q : OA), ∃ (r7n : Nat), ∃ (r7c : Nat), ∃ w8, (Builtin.append_ #[ty_S_uint8, ty_S_uint8] ty_S_uint8 #[.slice v4q v4n v4c, .slice r5q r5n r5c]).run P w6 = .ok (.slice r7q r7n r7c) w8 ∧
 nilP x0 fun a9 =>
 stV w8 ((a9.add 1).add 0) (.slice r7q r7n r7c) fun w10 =>
 R (.returned .nilIface) w10) w

noncomputable def g_strings_Builder_WriteByte.ac (R : EP) : AC :=
  (.leaf (sel [] g_strings_Builder_WriteByte.body))
theorem g_strings_Builder_WriteByte.good (R : EP) : Good P 17 (g_strings_Builder_WriteByte.ac R) (QF P [.tmp 4] R) :=
  trivial
theorem g_strings_Builder_WriteByte.eq (R : EP) (x0 : OA) (x1 : Int) (w : World) : g_strings_Builder_WriteByte R x0 x1 w = vcA P 17 (g_strings_Builder_WriteByte.ac R) (QF P [.tmp 4] R) (fr0 [.pointer x0, .int .u8 x1]) w := by kernel_rfl
theorem g_strings_Builder_WriteByte.sound {R : EP} {x0 : OA} {x1 : Int} {w : World} (h : g_strings_Builder_WriteByte R x0 x1 w) : callE P i_strings_Builder_WriteByte #[.pointer x0, .int .u8 x1] R w :=
  callE_fin (c := g_strings_Builder_WriteByte.body) Tryz.func151 Tryz.call151 (by kernel_rfl) (by kernel_rfl) (by kernel_rfl) (by kernel_rfl) (by kernel_rfl) (g_strings_Builder_WriteByte.good R) (g_strings_Builder_WriteByte.eq R x0 x1 w) h
namespace g_strings_Builder_WriteString
noncomputable def body : Code := bodyOf Tryz.f142
end g_strings_Builder_WriteString
def g_strings_Builder_WriteString (R : EP) (x0 : OA) (x1 : BA) (w : World) : Prop :=
 callE P i_strings_Builder_copyCheck #[.pointer x0] (fun e w2 => e = .returned (.tuple #[]) ∧
 nilP x0 fun a3 =>
 ∃ (v4q : OA), ∃ (v4n : Nat), ∃ (v4c : Nat), w2.cell? (a3.add 1) = some (.slice v4q v4n v4c) ∧
 ∃ (r5q : OA), ∃ (r5n : Nat), ∃ (r5c : Nat), ∃ w6, (Builtin.append_ #[ty_S_uint8, ty_string] ty_S_uint8 #[.slice v4q v4n v4c, .string x1]).run P w2 = .ok (.slice r5q r5n r5c) w6 ∧
 nilP x0 fun a7 =>
 stV w6 ((a7.add 1).add 0) (.slice r5q r5n r5c) fun w8 =>
 R (.returned (.tuple #[.int .i64 (x1.size : Int), .nilIface])) w8) w

noncomputable def g_strings_Builder_WriteString.ac (R : EP) : AC :=
  (.leaf (sel [] g_strings_Builder_WriteString.body))
theorem g_strings_Builder_WriteString.good (R : EP) : Good P 19 (g_strings_Builder_WriteString.ac R) (QF P [.tmp 4, .tmp 5] R) :=
  trivial
theorem g_strings_Builder_WriteString.eq (R : EP) (x0 : OA) (x1 : BA) (w : World) : g_strings_Builder_WriteString R x0 x1 w = vcA P 19 (g_strings_Builder_WriteString.ac R) (QF P [.tmp 4, .tmp 5] R) (fr0 [.pointer x0, .string x1]) w := by kernel_rfl
theorem g_strings_Builder_WriteString.sound {R : EP} {x0 : OA} {x1 : ByteArray} {w : World} (h : g_strings_Builder_WriteString R x0 x1 w) : callE P i_strings_Builder_WriteString #[.pointer x0, .string x1] R w :=
  callE_fin (c := g_strings_Builder_WriteString.body) Tryz.func142 Tryz.call142 (by kernel_rfl) (by kernel_rfl) (by kernel_rfl) (by kernel_rfl) (by kernel_rfl) (g_strings_Builder_WriteString.good R) (g_strings_Builder_WriteString.eq R x0 x1 w) h
namespace g_strings_Builder_copyCheck
noncomputable def body : Code := bodyOf Tryz.f175
end g_strings_Builder_copyCheck
def g_strings_Builder_copyCheck (R : EP) (x0 : OA) (w : World) : Prop :=
 nilP x0 fun a1 =>
 ∃ (v2 : OA), w.cell? a1 = some (.pointer v2) ∧
 ∃ (r3 : Bool), ∃ w4, (do eqGuard .eql ty_P_strings_Builder (.tmp 5) (.const (.pointer none)) (.pointer v2) (.pointer none); binOp .eql ty_P_strings_Builder (.pointer v2) (.pointer none)).run P w = .ok (.bool r3) w4 ∧
 br r3
 (∃ (r5 : OA), ∃ w6, (convert ty_P_strings_Builder ty_unsafe_Pointer (.pointer x0)).run P w4 = .ok (.pointer r5) w6 ∧
 callE P i_internal_abi_NoEscape #[.pointer r5] (fun e w8 => ∃ (r7 : OA), e = .returned (.pointer r7) ∧
 ∃ (r9 : OA), ∃ w10, (convert ty_unsafe_Pointer ty_P_strings_Builder (.pointer r7)).run P w8 = .ok (.pointer r9) w10 ∧
 nilP x0 fun a11 =>
 stV w10 (a11.add 0) (.pointer r9) fun w12 =>
 R (.returned (.tuple #[])) w12) w6)
 (nilP x0 fun a13 =>
 ∃ (v14 : OA), w4.cell? a13 = some (.pointer v14) ∧
 ∃ (r15 : Bool), ∃ w16, (do eqGuard .neq ty_P_strings_Builder (.tmp 17) (.tmp 18) (.pointer v14) (.pointer x0); binOp .neq ty_P_strings_Builder (.pointer v14) (.pointer x0)).run P w4 = .ok (.bool r15) w16 ∧
 br r15
 (False)
 (R (.returned (.tuple #[])) w16))

noncomputable def g_strings_Builder_copyCheck.ac (R : EP) : AC :=
  (.leaf (sel [] g_strings_Builder_copyCheck.body))
theorem g_strings_Builder_copyCheck.good (R : EP) : Good P 20 (g_strings_Builder_copyCheck.ac R) (QF P [] R) :=
  trivial
theorem g_strings_Builder_copyCheck.eq (R : EP) (x0 : OA) (w : World) : g_strings_Builder_copyCheck R x0 w = vcA P 20 (g_strings_Builder_copyCheck.ac R) (QF P [] R) (fr0 [.pointer x0]) w := by kernel_rfl
theorem g_strings_Builder_copyCheck.sound {R : EP} {x0 : OA} {w : World} (h : g_strings_Builder_copyCheck R x0 w) : callE P i_strings_Builder_copyCheck #[.pointer x0] R w :=
  callE_fin (c := g_strings_Builder_copyCheck.body) Tryz.func175 Tryz.call175 (by kernel_rfl) (by kernel_rfl) (by kernel_rfl) (by kernel_rfl) (by kernel_rfl) (g_strings_Builder_copyCheck.good R) (g_strings_Builder_copyCheck.eq R x0 w) h
namespace g_bytes_Buffer_String
noncomputable def body : Code := bodyOf Tryz.f25
end g_bytes_Buffer_String
def g_bytes_Buffer_String (R : EP) (x0 : OA) (w : World) : Prop :=
 ∃ (r1 : Bool), ∃ w2, (do eqGuard .eql ty_P_bytes_Buffer (.tmp 3) (.const (.pointer none)) (.pointer x0) (.pointer none); binOp .eql ty_P_bytes_Buffer (.pointer x0) (.pointer none)).run P w = .ok (.bool r1) w2 ∧
 br r1
 (R (.returned (.string (ByteArray.mk #[60, 110, 105, 108, 62]))) w2)
 (tk w2 fun w3 =>
 nilP x0 fun a4 =>
 nilP x0 fun a5 =>
 ∃ (v6q : OA), ∃ (v6n : Nat), ∃ (v6c : Nat), w3.cell? a4 = some (.slice v6q v6n v6c) ∧
 ∃ (v7 : Int), w3.cell? (a5.add 1) = some (.int .i64 v7) ∧
 ∃ (r8q : OA), ∃ (r8n : Nat), ∃ (r8c : Nat), (∀ w, (Instr.sliceAt ty_S_uint8 (.slice v6q v6n v6c) (some (.int .i64 v7)) none none).run P w = .ok (.slice r8q r8n r8c) w) ∧
 ∃ (r9 : BA), ∃ w10, (convert ty_S_uint8 ty_string (.slice r8q r8n r8c)).run P w3 = .ok (.string r9) w10 ∧
 R (.returned (.string r9)) w10)

noncomputable def g_bytes_Buffer_String.ac (R : EP) : AC :=
  (.seq (.leaf (sel [0] g_bytes_Buffer_String.body)) (.seq (.leaf (sel [1, 0] g_bytes_Buffer_String.body)) (.seq (.draw (.pure 0 (.pure 1 (.pure 2 (.pure 4 (.pure 5 (.pure 6 (.load 3 (.load 7 (.pure 8 (.one 9 (.pure 10 .done))))))))))) (sel [1, 1, 0] g_bytes_Buffer_String.body)) (.leaf (sel [1, 1, 1] g_bytes_Buffer_String.body)))))
theorem g_bytes_Buffer_String.good (R : EP) : Good P 15 (g_bytes_Buffer_String.ac R) (QF P [.tmp 2] R) :=
  ⟨trivial, ⟨trivial, ⟨⟨by kernel_rfl, by kernel_rfl, fun _ _ _ h => h⟩, trivial⟩⟩⟩
theorem g_bytes_Buffer_String.eq (R : EP) (x0 : OA) (w : World) : g_bytes_Buffer_String R x0 w = vcA P 15 (g_bytes_Buffer_String.ac R) (QF P [.tmp 2] R) (fr0 [.pointer x0]) w := by kernel_rfl
theorem g_bytes_Buffer_String.sound {R : EP} {x0 : OA} {w : World} (h : g_bytes_Buffer_String R x0 w) : callE P i_bytes_Buffer_String #[.pointer x0] R w :=
  callE_fin (c := g_bytes_Buffer_String.body) Tryz.func25 Tryz.call25 (by kernel_rfl) (by kernel_rfl) (by kernel_rfl) (by kernel_rfl) (by kernel_rfl) (g_bytes_Buffer_String.good R) (g_bytes_Buffer_String.eq R x0 w) h
namespace g_bytes_Buffer_WriteByte
noncomputable def body : Code := bodyOf Tryz.f248
def k1 (R : EP) (x0 : OA) (x1 : Int) (x5 : Int) (w : World) : Prop :=
 nilP x0 fun a7 =>
 ∃ (v8q : OA), ∃ (v8n : Nat), ∃ (v8c : Nat), w.cell? a7 = some (.slice v8q v8n v8c) ∧
 0 ≤ x5 ∧ x5 < (v8n : Int) ∧
 nilP v8q fun a9 =>
 stV w ((a9.add (Int.toNat x5 * 1)).add 0) (.int .u8 x1) fun w10 =>
 R (.returned .nilIface) w10

end g_bytes_Buffer_WriteByte
def g_bytes_Buffer_WriteByte (R : EP) (x0 : OA) (x1 : Int) (w : World) : Prop :=
 nilP x0 fun a1 =>
 stV w ((a1.add 2).add 0) (.int .i8 0) fun w2 =>
 callE P i_bytes_Buffer_tryGrowByReslice #[.pointer x0, .int .i64 1] (fun e w4 => ∃ (r3_0 : Int), ∃ (r3_1 : Bool), e = .returned (.tuple #[.int .i64 r3_0, .bool r3_1]) ∧
 br (!r3_1)
 (callE P i_bytes_Buffer_grow #[.pointer x0, .int .i64 1] (fun e w6 => ∃ (r5 : Int), e = .returned (.int .i64 r5) ∧
 g_bytes_Buffer_WriteByte.k1 R x0 x1 r5 w6) w4)
 (g_bytes_Buffer_WriteByte.k1 R x0 x1 r3_0 w4)) w2

noncomputable def g_bytes_Buffer_WriteByte.ac (R : EP) : AC :=
  (.seq (.leaf (sel [0] g_bytes_Buffer_WriteByte.body)) (.seq (.leaf (sel [1, 0] g_bytes_Buffer_WriteByte.body)) (.seq (.leaf (sel [1, 1, 0] g_bytes_Buffer_WriteByte.body)) (.seq (.leaf (sel [1, 1, 1, 0] g_bytes_Buffer_WriteByte.body)) (.mark (leaf [(0, .s .ptr), (1, .s (.int .u8)), (5, .s (.int .i64))] (g_bytes_Buffer_WriteByte.k1 R)) (.leaf (sel [1, 1, 1, 1] g_bytes_Buffer_WriteByte.body)))))))
theorem g_bytes_Buffer_WriteByte.good (R : EP) : Good P 26 (g_bytes_Buffer_WriteByte.ac R) (QF P [.tmp 4] R) :=
  ⟨trivial, ⟨trivial, ⟨trivial, ⟨trivial, ⟨trivial, cutE (by intro x0 x1 x5 ρ w; kernel_rfl)⟩⟩⟩⟩⟩
theorem g_bytes_Buffer_WriteByte.eq (R : EP) (x0 : OA) (x1 : Int) (w : World) : g_bytes_Buffer_WriteByte R x0 x1 w = vcA P 26 (g_bytes_Buffer_WriteByte.ac R) (QF P [.tmp 4] R) (fr0 [.pointer x0, .int .u8 x1]) w := by kernel_rfl
theorem g_bytes_Buffer_WriteByte.sound {R : EP} {x0 : OA} {x1 : Int} {w : World} (h : g_bytes_Buffer_WriteByte R x0 x1 w) : callE P i_bytes_Buffer_WriteByte #[.pointer x0, .int .u8 x1] R w :=
  callE_fin (c := g_bytes_Buffer_WriteByte.body) Tryz.func248 Tryz.call248 (by kernel_rfl) (by kernel_rfl) (by kernel_rfl) (by kernel_rfl) (by kernel_rfl) (g_bytes_Buffer_WriteByte.good R) (g_bytes_Buffer_WriteByte.eq R x0 x1 w) h
namespace g_bytes_Buffer_WriteString
noncomputable def body : Code := bodyOf Tryz.f234
def k1 (R : EP) (x0 : OA) (x1 : BA) (x6 : Int) (w : World) : Prop :=
 nilP x0 fun a7 =>
 ∃ (v8q : OA), ∃ (v8n : Nat), ∃ (v8c : Nat), w.cell? a7 = some (.slice v8q v8n v8c) ∧
 ∃ (r9q : OA), ∃ (r9n : Nat), ∃ (r9c : Nat), ∃ w10, (Instr.sliceAt ty_S_uint8 (.slice v8q v8n v8c) (some (.int .i64 x6)) none none).run P w = .ok (.slice r9q r9n r9c) w10 ∧
 ∃ (r11 : Int), ∃ w12, (Builtin.copy_ #[ty_S_uint8, ty_string] ty_int #[.slice r9q r9n r9c, .string x1]).run P w10 = .ok (.int .i64 r11) w12 ∧
 R (.returned (.tuple #[.int .i64 r11, .nilIface])) w12

end g_bytes_Buffer_WriteString
def g_bytes_Buffer_WriteString (R : EP) (x0 : OA) (x1 : BA) (w : World) : Prop :=
 nilP x0 fun a1 =>
 stV w ((a1.add 2).add 0) (.int .i8 0) fun w2 =>
 callE P i_bytes_Buffer_tryGrowByReslice #[.pointer x0, .int .i64 (x1.size : Int)] (fun e w4 => ∃ (r3_0 : Int), ∃ (r3_1 : Bool), e = .returned (.tuple #[.int .i64 r3_0, .bool r3_1]) ∧
 br (!r3_1)
 (callE P i_bytes_Buffer_grow #[.pointer x0, .int .i64 (x1.size : Int)] (fun e w6 => ∃ (r5 : Int), e = .returned (.int .i64 r5) ∧
 g_bytes_Buffer_WriteString.k1 R x0 x1 r5 w6) w4)
 (g_bytes_Buffer_WriteString.k1 R x0 x1 r3_0 w4)) w2

noncomputable def g_bytes_Buffer_WriteString.ac (R : EP) : AC :=
  (.seq (.leaf (sel [0] g_bytes_Buffer_WriteString.body)) (.seq (.leaf (sel [1, 0] g_bytes_Buffer_WriteString.body)) (.seq (.leaf (sel [1, 1, 0] g_bytes_Buffer_WriteString.body)) (.seq (.leaf (sel [1, 1, 1, 0] g_bytes_Buffer_WriteString.body)) (.mark (leaf [(0, .s .ptr), (1, .s .str), (6, .s (.int .i64))] (g_bytes_Buffer_WriteString.k1 R)) (.leaf (sel [1, 1, 1, 1] g_bytes_Buffer_WriteString.body)))))))
theorem g_bytes_Buffer_WriteString.good (R : EP) : Good P 32 (g_bytes_Buffer_WriteString.ac R) (QF P [.tmp 4, .tmp 5] R) :=
  ⟨trivial, ⟨trivial, ⟨trivial, ⟨trivial, ⟨trivial, cutE (by intro x0 x1 x6 ρ w; kernel_rfl)⟩⟩⟩⟩⟩
theorem g_bytes_Buffer_WriteString.eq (R : EP) (x0 : OA) (x1 : BA) (w : World) : g_bytes_Buffer_WriteString R x0 x1 w = vcA P 32 (g_bytes_Buffer_WriteString.ac R) (QF P [.tmp 4, .tmp 5] R) (fr0 [.pointer x0, .string x1]) w := by kernel_rfl
theorem g_bytes_Buffer_WriteString.sound {R : EP} {x0 : OA} {x1 : ByteArray} {w : World} (h : g_bytes_Buffer_WriteString R x0 x1 w) : callE P i_bytes_Buffer_WriteString #[.pointer x0, .string x1] R w :=
  callE_fin (c := g_bytes_Buffer_WriteString.body) Tryz.func234 Tryz.call234 (by kernel_rfl) (by kernel_rfl) (by kernel_rfl) (by kernel_rfl) (by kernel_rfl) (g_bytes_Buffer_WriteString.good R) (g_bytes_Buffer_WriteString.eq R x0 x1 w) h
end Go.Proofs.YtihmcipajjakgaaGreatDoor
