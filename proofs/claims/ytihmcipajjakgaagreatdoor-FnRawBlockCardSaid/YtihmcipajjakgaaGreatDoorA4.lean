/- Part 4 of the proof of the law FnRawBlock: for every input the law returns true, the inputs read as they did, and memory that was there is as it was; under the conditions of the given row alone. -/
import Derived.Lib.Builder
import Derived.Test.YtihmcipajjakgaaGreatDoorA3
set_option linter.all false
set_option linter.unusedVariables false
namespace Go.Proofs.YtihmcipajjakgaaGreatDoor
open Go.Proofs
theorem bin_eql {P : Program} {t : TypeId} {a b : Value} {r : Bool} {w : World} {x y : Operand} (h1 : (eqGuard .eql t x y a b).run P w = .ok () w) (h2 : binOp .eql t a b = (do pure (.bool (← Op.equal t a b))))
    (h : (Op.equal t a b).run P w = .ok r w) : (do eqGuard .eql t x y a b; binOp .eql t a b).run P w = .ok (.bool r) w := by
  rw [h2]
  simp only [Sem.run_bind, h1, h, Result.andThen_ok]
  rfl
theorem bin_neq {P : Program} {t : TypeId} {a b : Value} {r : Bool} {w : World} {x y : Operand} (h1 : (eqGuard .neq t x y a b).run P w = .ok () w) (h2 : binOp .neq t a b = (do pure (.bool (!(← Op.equal t a b)))))
    (h : (Op.equal t a b).run P w = .ok r w) : (do eqGuard .neq t x y a b; binOp .neq t a b).run P w = .ok (.bool (!r)) w := by
  rw [h2]
  simp only [Sem.run_bind, h1, h, Result.andThen_ok]
  rfl
variable {P : Program}
theorem equal_slice_nil {t e : TypeId} (hu : P.underlying t = some (.slice e)) (q : Option Addr) (n c : Nat) (w : World) : (Op.equal t (.slice q n c) (.slice none 0 0)).run P w = .ok q.isNone w :=
  have h : ∀ d, (Op.equalIn (d + 1) t (.slice q n c) (.slice none 0 0)).run P w = .ok q.isNone w := fun d => by
    cases q <;> simp [Op.equalIn, run_underlying hu]
  h 9999
theorem eq_slice_nil {t e : TypeId} {x y : Operand} (hu : P.underlying t = some (.slice e)) (q : Option Addr) (n c : Nat) (w : World) :
    (do eqGuard .eql t x y (.slice q n c) (.slice none 0 0); binOp .eql t (.slice q n c) (.slice none 0 0)).run P w = .ok (.bool q.isNone) w :=
  bin_eql rfl rfl (equal_slice_nil hu q n c w)
theorem equal_ptr_nil {t e : TypeId} (hu : P.underlying t = some (.pointer e)) (q : Option Addr) (w : World) : (Op.equal t (.pointer q) (.pointer none)).run P w = .ok q.isNone w :=
  have h : ∀ d, (Op.equalIn (d + 1) t (.pointer q) (.pointer none)).run P w = .ok q.isNone w := fun d => by
    cases q <;> simp [Op.equalIn, run_underlying hu]
  h 9999
theorem ptrNil_eq {t e : TypeId} {x y : Operand} (hu : P.underlying t = some (.pointer e)) (q : Option Addr) (w : World) :
    (do eqGuard .eql t x y (.pointer q) (.pointer none); binOp .eql t (.pointer q) (.pointer none)).run P w = .ok (.bool q.isNone) w :=
  bin_eql rfl rfl (equal_ptr_nil hu q w)
theorem neq_ptr_nil {t e : TypeId} {x y : Operand} (hu : P.underlying t = some (.pointer e)) (q : Option Addr) (w : World) :
    (do eqGuard .neq t x y (.pointer q) (.pointer none); binOp .neq t (.pointer q) (.pointer none)).run P w = .ok (.bool (!q.isNone)) w :=
  bin_neq rfl rfl (equal_ptr_nil hu q w)
theorem equal_ptr_same {t e : TypeId} (hu : P.underlying t = some (.pointer e)) {i : TypeInfo} (hi : P.info? e = some i) (hs : i.size ≠ 0) (b : Nat) (w : World) : (Op.equal t (.pointer (some ⟨b, 0, none⟩)) (.pointer (some ⟨b, 0, none⟩))).run P w = .ok true w :=
  have h : ∀ d, (Op.equalIn (d + 1) t (.pointer (some ⟨b, 0, none⟩)) (.pointer (some ⟨b, 0, none⟩))).run P w = .ok true w := fun d => by
    simp [Op.equalIn, run_underlying hu, sizeOf, typeInfo, hi, hs, sameAddr]
  h 9999
theorem neq_ptr_same {t e : TypeId} {x y : Operand} (hu : P.underlying t = some (.pointer e)) {i : TypeInfo} (hi : P.info? e = some i) (hs : i.size ≠ 0) (b : Nat) (w : World) :
    (do eqGuard .neq t x y (.pointer (some ⟨b, 0, none⟩)) (.pointer (some ⟨b, 0, none⟩)); binOp .neq t (.pointer (some ⟨b, 0, none⟩)) (.pointer (some ⟨b, 0, none⟩))).run P w = .ok (.bool false) w :=
  bin_neq rfl rfl (equal_ptr_same hu hi hs b w)
theorem neq_func_nil {t : TypeId} {ps rs : Array TypeId} {vr : Bool} {x y : Operand} (hu : P.underlying t = some (.func ps rs vr)) (k : FuncId) (f g : Array Value) (w : World) :
    (do eqGuard .neq t x y (.func (.func k) f g) .nilFunc; binOp .neq t (.func (.func k) f g) .nilFunc).run P w = .ok (.bool true) w := by
  have h : ∀ d, (Op.equalIn (d + 1) t (.func (.func k) f g) .nilFunc).run P w = .ok false w := fun d => by
    simp [Op.equalIn, run_underlying hu]
  exact bin_neq rfl rfl (h 9999)
theorem neq_nil_nil {t : TypeId} {ps rs : Array TypeId} {vr : Bool} {x y : Operand} (hu : P.underlying t = some (.func ps rs vr)) (w : World) :
    (do eqGuard .neq t x y .nilFunc .nilFunc; binOp .neq t .nilFunc .nilFunc).run P w = .ok (.bool false) w := by
  have h : ∀ d, (Op.equalIn (d + 1) t .nilFunc .nilFunc).run P w = .ok true w := fun d => by
    simp [Op.equalIn, run_underlying hu]
  exact bin_neq rfl rfl (h 9999)
end Go.Proofs.YtihmcipajjakgaaGreatDoor


set_option linter.unusedVariables false
namespace Go.Proofs.YtihmcipajjakgaaGreatDoor
open Go.Proofs Go.IntWalk Go.RowKit
variable {σ : Out} {w : World} {L L' : List Chunk} {R : Ending → World → Prop}

theorem Sat.newRow (h : Sat σ w L) {w' : World} (hb : Below w.heap.size w w') {cs : Array Value} {e : TypeId} (hr : w'.heap[w.heap.size]? = some (.cells cs e)) : Sat σ w' ((w.heap.size, cel cs.toList e) :: L) := by
  refine ⟨hb.os.trans h.os, hb.output.trans h.out, ?_, ?_⟩
  · simp only [List.map_cons, List.nodup_cons]
    refine ⟨fun hm => ?_, h.nodup⟩
    obtain ⟨c, hc, he⟩ := List.mem_map.1 hm
    exact Nat.lt_irrefl _ (he ▸ h.lt hc)
  · intro c hc
    cases hc with
    | head => simpa [cel] using hr
    | tail _ hc =>
      rw [hb.block _ (h.lt hc)]
      exact h.at_ _ hc
theorem callE_calls {f : FuncId} {args : Array Value} (hc : ∀ args w, (callFunc f args).run P w = .ok (.enter f args) w) (h : Calls P f args w R) : callE P f args R w := .inl ⟨hc, h⟩

theorem growSlice_ok {q : Option Addr} {n c m : Nat} {l : List UInt8} {M : List Chunk} (hS : By q n c l M) (h : Sat σ w (M ++ L)) (hm : 1 ≤ m) (hcm : c < n + m) (hb : n + m ≤ 1099511627776)
    (hR : ∀ w b c' sp, n + m ≤ c' → c' ≤ 9223372036854775807 → By (some ⟨b, 0, none⟩) n c' l [(b, cel (bc l ++ sp) ty_uint8)] → Sat σ w ((b, cel (bc l ++ sp) ty_uint8) :: (M ++ L)) → R (.returned (.slice (some ⟨b, 0, none⟩) n c')) w) :
    callE P i_bytes_growSlice #[.slice q n c, .int .i64 m] R w := by
  have hn := hS.len
  have hS0 := hS
  obtain ⟨hl, hnc, ⟨rfl, rfl, rfl, rfl⟩ | ⟨b, sp, rfl, rfl, h3⟩⟩ := hS
  · have hl0 : l = [] := List.eq_nil_of_length_eq_zero (by omega)
    subst hl0
    refine callE_calls cf_bytes_growSlice ((Any.bytes_growSlice_nil (P := P) lays290 m w hm (by omega)).mono ?_)
    rintro e w' ⟨cap2, cells, rfl, hr, hsz, hge, hle, hbl⟩
    have := h.newRow hbl hr
    have ht5 : lays290_ren.t 5 = ty_uint8 := rfl
    rw [ht5] at this
    refine hR w' _ cap2 cells.toList (by omega) (by unfold maxLen at hle; exact hle) ⟨by simp [bc], by omega, .inr ⟨_, cells.toList, rfl, rfl, ?_⟩⟩ this
    simp [bc, hsz]
  · have hg := h.at_ _ (.head _)
    refine callE_calls cf_bytes_growSlice ((Any.bytes_growSlice_row (P := P) lays290 b n c m (bc l ++ sp).toArray w hg (by simpa using h3) hnc hm (by omega) (by omega) ?_).mono ?_)
    · intro v hv
      rw [hn] at hv
      rw [show (bc l ++ sp).toArray.toList.take l.length = bc l from by rw [← bc_length l]; simp] at hv
      exact bc_one v hv
    · rintro e w' ⟨cap2, cells, rfl, hr, hsz, htk, hge, hle, hbl⟩
      have htk' : cells.toList.take n = bc l := by rw [htk, hn, ← bc_length l]; simp
      have hcs : cells.toList = bc l ++ cells.toList.drop n := by rw [← htk', List.take_append_drop]
      have := h.newRow hbl hr
      rw [hcs] at this
      refine hR w' _ cap2 (cells.toList.drop n) hge (by unfold maxLen at hle; exact hle) ⟨by simp; omega, by omega, .inr ⟨_, _, rfl, rfl, ?_⟩⟩ this
      rw [← hcs, Array.length_toList]; omega
theorem By.raw {q : Option Addr} {n c : Nat} {l : List UInt8} {M : List Chunk} (h : By q n c l M) : (q = none ∧ n = 0 ∧ c = 0 ∧ M = []) ∨ ∃ b sp, q = some ⟨b, 0, none⟩ ∧ M = [(b, cel (bc l ++ sp) ty_uint8)] ∧ (bc l ++ sp).length = c := by
  obtain ⟨_, _, h | ⟨b, sp, h1, h2, h3⟩⟩ := h
  · exact .inl h
  · exact .inr ⟨b, sp, h1, h2, by omega⟩
theorem grow_ok {b : Nat} {q : Option Addr} {c m : Nat} {lr : Int} {l : List UInt8} {M : List Chunk} (h : Sat σ w (bufC b q l.length c lr :: (M ++ L))) (hS : By q l.length c l M) (hm : 1 ≤ m) (hcm : c < l.length + m) (hb : l.length + m ≤ 1099511627776)
    (hR : ∀ w g c' sp lr, l.length + m ≤ c' → c' ≤ 9223372036854775807 → (bc l ++ sp).length = c' → Sat σ w (bufC b (some ⟨g, 0, none⟩) (l.length + m) c' lr :: (g, cel (bc l ++ sp) ty_uint8) :: L) → R (.returned (.int .i64 l.length)) w) :
    callE P i_bytes_Buffer_grow #[.pointer (some ⟨b, 0, none⟩), .int .i64 m] R w := by
  have hnc := hS.2.1
  refine g_bytes_Buffer_grow.sound ?_
  refine bufLen_ok h (by omega) fun w h => ⟨_, rfl, ?_⟩
  have key2 : ∀ w, Sat σ w (bufC b q l.length c lr :: (M ++ L)) → 1 ≤ m → tk w fun w32 =>
      nilP (some ⟨b, 0, none⟩) fun a33 => nilP (some ⟨b, 0, none⟩) fun a34 => nilP (some ⟨b, 0, none⟩) fun a35 =>
      ∃ (v36q : Option Addr), ∃ (v36n : Nat), ∃ (v36c : Nat), w32.cell? a33 = some (.slice v36q v36n v36c) ∧
      ∃ (v37 : Int), w32.cell? (a34.add 1) = some (.int .i64 v37) ∧
      ∃ (r38q : Option Addr), ∃ (r38n : Nat), ∃ (r38c : Nat), (∀ w, (Instr.sliceAt ty_S_uint8 (.slice v36q v36n v36c) (some (.int .i64 v37)) none none).run P w = .ok (.slice r38q r38n r38c) w) ∧
      ∃ (v39 : Int), w32.cell? (a35.add 1) = some (.int .i64 v39) ∧
      callE P i_bytes_growSlice #[.slice r38q r38n r38c, .int .i64 (IntKind.i64.wrap (v39 + (m : Int)))] (fun e w41 => ∃ (r40q : Option Addr), ∃ (r40n : Nat), ∃ (r40c : Nat), e = .returned (.slice r40q r40n r40c) ∧
      nilP (some ⟨b, 0, none⟩) fun a42 => stV w41 (a42.add 0) (.slice r40q r40n r40c) fun w43 => g_bytes_Buffer_grow.k3 R (some ⟨b, 0, none⟩) m l.length w43) w32 := by
    intro w h _
    refine Sat.tk h fun w h => ?_
    refine nilP_some (nilP_some (nilP_some ?_))
    refine ⟨_, _, _, Sat.ld h (by first | assumption | (repeat (first | exact .head _ | apply List.Mem.tail))) (by exact rfl), ?_⟩
    refine ⟨_, Sat.ld h (by first | assumption | (repeat (first | exact .head _ | apply List.Mem.tail))) (by exact rfl), ?_⟩
    refine ⟨_, _, _, fun w => sliceF rowU8.ht rowU8.hi q l.length c 0 (by omega) w, ?_⟩
    refine ⟨_, Sat.ld h (by first | assumption | (repeat (first | exact .head _ | apply List.Mem.tail))) (by exact rfl), ?_⟩
    rw [Int.zero_add, i64_in _ (by omega)]
    have e0 : (if c = 0 then q else q.map (·.add (0 * rowU8.i.size))) = q := by
      rw [Nat.zero_mul]
      split
      · rfl
      · cases q <;> rfl
    rw [e0, Nat.sub_zero, Nat.sub_zero]
    have h : Sat σ w (M ++ (bufC b q l.length c lr :: L)) := h.re (by intro _; simp only [List.append_eq, cnt_append, cnt_cons, cnt_nil] <;> omega)
    refine growSlice_ok hS h hm hcm hb fun w g c' sp h1 h2 h3 h => ⟨_, _, _, rfl, nilP_some ?_⟩
    have h : Sat σ w (bufC b q l.length c lr :: (g, cel (bc l ++ sp) ty_uint8) :: (M ++ L)) := h.re (by intro _; simp only [List.append_eq, cnt_append, cnt_cons, cnt_nil] <;> omega)
    refine Sat.st h (k := 0) rfl (Nat.le_of_ble_eq_true rfl) trivial (by first | (dsimp only [List.set]; exact rfl) | exact rfl) fun w h => ?_
    refine nilP_some ?_
    refine Sat.st h (k := 0) rfl (Nat.le_of_ble_eq_true rfl) trivial (by first | (dsimp only [List.set]; exact rfl) | exact rfl) fun w h => ?_
    refine nilP_some ?_
    refine ⟨_, _, _, Sat.ld h (by first | assumption | (repeat (first | exact .head _ | apply List.Mem.tail))) (by exact rfl), ?_⟩
    rw [i64_in _ (by omega), show ((l.length : Int) + m) = ((l.length + m : Nat) : Int) by omega]
    refine ⟨_, _, _, _, sliceT rowU8.ht rowU8.hi _ _ c' (l.length + m) h1 w, ?_⟩
    refine nilP_some ?_
    refine Sat.st h (k := 0) rfl (Nat.le_of_ble_eq_true rfl) trivial (by first | (dsimp only [List.set]; exact rfl) | exact rfl) fun w h => ?_
    have h4 : (bc l ++ sp).length = c' := by
      obtain ⟨_, _, ⟨h, _⟩ | ⟨b', sp', e1, e2, h3⟩⟩ := h3
      · cases h
      · simp only [List.cons.injEq, Prod.mk.injEq] at e2
        have : cel (bc l ++ sp) ty_uint8 = cel (bc l ++ sp') ty_uint8 := e2.1.2
        simp only [cel, Obj.cells.injEq, and_true] at this
        have e3 : bc l ++ sp = bc l ++ sp' := by simpa using congrArg Array.toList this
        rw [e3]; omega
    refine hR w g c' sp lr h1 h2 h4 ?_
    have h : Sat σ w (bufC b (some ⟨g, 0, none⟩) (l.length + m) c' lr :: (g, cel (bc l ++ sp) ty_uint8) :: (M ++ L)) := h
    exact h.less M (by intro _; simp only [List.append_eq, cnt_append, cnt_cons, cnt_nil] <;> omega)
  have key : ∀ w, Sat σ w (bufC b q l.length c lr :: (M ++ L)) → g_bytes_Buffer_grow.k1 R (some ⟨b, 0, none⟩) m l.length w := by
    intro w h
    refine tryGrow_ok h hnc (by omega) (by omega) (by omega) (fun hh => absurd hh (by omega)) fun _ w h => ⟨_, _, rfl, ?_⟩
    refine br_false rfl ?_
    refine nilP_some ?_
    refine ⟨_, _, _, Sat.ld h (by first | assumption | (repeat (first | exact .head _ | apply List.Mem.tail))) (by exact rfl), ?_⟩
    refine ⟨_, _, eq_slice_nil rowU8.ht q _ c w, ?_⟩
    rcases hS.raw with ⟨rfl, hl0, rfl, rfl⟩ | ⟨g, sp, rfl, rfl, h3⟩
    · obtain rfl := List.eq_nil_of_length_eq_zero hl0
      by_cases h64 : m ≤ 64
      · refine br_true (by simp; omega) ?_
        have hmk := run_makeSlice (P := P) (w := w) ty_S_uint8 ty_uint8 rowU8.i rowU8.z rowU8.ht rowU8.hi rowU8.hz .i64 .i64 (m : Int) 64 (by omega) (by omega) (by rw [rowU8.hs]; decide) (by rw [rowU8.hb]; decide) (by omega)
        refine ⟨_, _, _, _, hmk, nilP_some ?_⟩
        rw [rowU8.hs]
        have hal := h.alc (madeCells rowU8.z.cells ((64 : Int).toNat * 1)).toList ty_uint8
        rw [show YtihmcipajjakgaaGreatDoor.alc w (madeCells rowU8.z.cells ((64 : Int).toNat * 1)).toList.toArray ty_uint8 = w.alloc (.cells (madeCells rowU8.z.cells ((64 : Int).toNat * 1)) ty_uint8) from by rw [Array.toArray_toList]; rfl] at hal
        generalize w.heap.size = g at hal ⊢
        refine Sat.st hal (k := 1) rfl (Nat.le_of_ble_eq_true rfl) trivial rfl fun w h => ?_
        refine hR w g 64 (madeCells rowU8.z.cells ((64 : Int).toNat * 1)).toList lr (by simpa using h64) (by omega) ?_ ?_
        · show ([] ++ (madeCells rowU8.z.cells ((64 : Int).toNat * 1)).toList).length = 64
          rw [List.nil_append, Array.length_toList, size_madeCells]; decide
        · have e : m = ([] : List UInt8).length + m := by simp
          rw [← e]
          have h : Sat σ w ((g, cel (madeCells rowU8.z.cells ((64 : Int).toNat * 1)).toList ty_uint8) :: bufC b (some ⟨g, 0, none⟩) m 64 lr :: L) := h
          exact h.up1
      · refine br_false (by simp; omega) ?_
        refine nilP_some ?_
        refine ⟨_, _, _, Sat.ld h (by first | assumption | (repeat (first | exact .head _ | apply List.Mem.tail))) (by exact rfl), ?_⟩
        refine ⟨_, _, capRun _ _ _ _ _ _ rowU8.ht w, by decide, ?_⟩
        refine br_false (by rw [show Int.tdiv ((0 : Nat) : Int) 2 = 0 from rfl]; simp (disch := omega) only [i64_in]; simp; omega) ?_
        refine br_false (by simp (disch := omega) only [i64_in]; simp; omega) ?_
        exact key2 w h (by omega)
    · refine br_false (by simp) ?_
      refine nilP_some ?_
      refine ⟨_, _, _, Sat.ld h (by first | assumption | (repeat (first | exact .head _ | apply List.Mem.tail))) (by exact rfl), ?_⟩
      refine ⟨_, _, capRun _ _ _ _ _ _ rowU8.ht w, by decide, ?_⟩
      have hd : Int.tdiv (c : Int) 2 = ((c / 2 : Nat) : Int) := by rw [Int.tdiv_eq_ediv_of_nonneg (by omega)]; omega
      rw [hd]
      refine br_false (by simp (disch := omega) only [i64_in]; simp; omega) ?_
      refine br_false (by simp (disch := omega) only [i64_in]; simp; omega) ?_
      exact key2 w h (by omega)
  refine br_split (fun h0 => ?_) (fun _ => key w h)
  refine nilP_some ?_
  refine ⟨_, Sat.ld h (by first | assumption | (repeat (first | exact .head _ | apply List.Mem.tail))) (by exact rfl), ?_⟩
  exact br_false rfl (key w h)
theorem u8size : (P.info? ty_uint8).map (·.size) = some 1 := by kernel_rfl
theorem byS_mk {b n c : Nat} {l : List UInt8} {sp : List Value} (hn : n = l.length) (h : (bc l ++ sp).length = c) : By (some ⟨b, 0, none⟩) n c l [(b, cel (bc l ++ sp) ty_uint8)] := by
  refine ⟨by rw [bc_length]; omega, ?_, .inr ⟨b, sp, rfl, rfl, by omega⟩⟩
  rw [List.length_append, bc_length] at h
  omega
theorem Sat.row {g : Nat} {cs : List Value} {e : TypeId} (h : Sat σ w ((g, cel cs e) :: L)) (o : Nat) (vs : List Value) (hl : o + vs.length ≤ cs.length) :
    Sat σ (w.setRow g (cs.take o ++ vs ++ cs.drop (o + vs.length)).toArray) ((g, cel (cs.take o ++ vs ++ cs.drop (o + vs.length)) e) :: L) := by
  have hg := h.at_ _ (.head _)
  refine ⟨h.os, h.out, h.nodup, fun c hc => ?_⟩
  cases hc with
  | head =>
    simp only [World.setRow, Array.getElem?_modify, if_true]
    rw [show w.heap[g]? = _ from hg]
    simp [cel]
  | tail _ hc =>
    have hne : g ≠ c.1 := by
      intro h1
      have := h.nodup
      simp only [List.map_cons, List.nodup_cons] at this
      exact this.1 (by rw [h1]; exact List.mem_map.2 ⟨c, hc, rfl⟩)
    simp only [World.setRow, Array.getElem?_modify, if_neg hne]
    exact h.at_ _ (.tail _ hc)
theorem writeK_ok {b g c : Nat} {lr : Int} {l s : List UInt8} {sp : List Value} (h : Sat σ w (bufC b (some ⟨g, 0, none⟩) (l.length + s.length) c lr :: (g, cel (bc l ++ sp) ty_uint8) :: L)) (hc : (bc l ++ sp).length = c) (hle : l.length + s.length ≤ c) (hc2 : c ≤ 9223372036854775807)
    (hR : ∀ w M, Buf b (l ++ s) M → Sat σ w (M ++ L) → R (.returned (.tuple #[.int .i64 s.length, .nilIface])) w) : g_bytes_Buffer_WriteString.k1 R (some ⟨b, 0, none⟩) (bs s) l.length w := by
  refine nilP_some ?_
  refine ⟨_, _, _, Sat.ld h (by first | assumption | (repeat (first | exact .head _ | apply List.Mem.tail))) (by exact rfl), ?_⟩
  refine ⟨_, _, _, _, sliceF rowU8.ht rowU8.hi _ (l.length + s.length) c l.length (by omega) w, ?_⟩
  have h : Sat σ w ((g, cel (bc l ++ sp) ty_uint8) :: bufC b (some ⟨g, 0, none⟩) (l.length + s.length) c lr :: L) := h.up1
  have hg := h.at_ _ (.head _)
  by_cases h0 : c = l.length
  · have hs : s = [] := List.eq_nil_of_length_eq_zero (by omega)
    subst hs
    rw [if_pos h0]
    have hcp := Lib.run_copy_row_string (P := P) w ty_S_uint8 ty_string ty_int ty_uint8 g 0 (l.length + ([] : List UInt8).length - l.length) (c - l.length) (bs []) (bc l ++ sp).toArray ty_uint8 rowU8.ht u8size hg (by simp) (by simp)
    refine ⟨_, _, hcp, ?_⟩
    have hrow := h.row 0 [] (by simp)
    have e1 : ((bc l ++ sp).toArray.toList.take 0 ++ Lib.byteCells (bs []).data.toList ++ (bc l ++ sp).toArray.toList.drop (0 + (bs []).size)) = (bc l ++ sp).take 0 ++ [] ++ (bc l ++ sp).drop (0 + ([] : List Value).length) := by
      simp [Lib.byteCells]
    rw [e1]
    have e2 : (bc l ++ sp).take 0 ++ [] ++ (bc l ++ sp).drop (0 + ([] : List Value).length) = bc l ++ sp := by simp
    rw [e2] at hrow ⊢
    refine hR _ (bufC b (some ⟨g, 0, none⟩) (l ++ []).length c lr :: [(g, cel (bc (l ++ []) ++ sp) ty_uint8)]) ⟨_, c, lr, _, rfl, byS_mk rfl (by rw [List.append_nil]; exact hc), hc2⟩ ?_
    rw [List.append_nil]
    exact hrow.up1
  · rw [if_neg h0]
    rw [rowU8.hs, Nat.mul_one]
    have e1 : (some (⟨g, 0, none⟩ : Addr)).map (·.add l.length) = some ⟨g, l.length, none⟩ := by simp [Addr.add_zero_lit]
    rw [e1]
    have hcp := Lib.run_copy_row_string (P := P) w ty_S_uint8 ty_string ty_int ty_uint8 g l.length (l.length + s.length - l.length) (c - l.length) (bs s) (bc l ++ sp).toArray ty_uint8 rowU8.ht u8size hg (by simp) (by simp at hc ⊢; omega)
    refine ⟨_, _, hcp, ?_⟩
    have hb : Lib.byteCells (bs s).data.toList = bc s := by simp [Lib.byteCells, bc, bs]
    rw [hb, bs_size]
    have hrow := h.row l.length (bc s) (by simp at hc ⊢; omega)
    rw [bc_length] at hrow
    have e2 : (bc l ++ sp).take l.length = bc l := by rw [← bc_length l, List.take_left]
    have e3 : (bc l ++ sp).drop (l.length + s.length) = sp.drop s.length := by
      rw [List.drop_append, List.drop_eq_nil_of_le (by rw [bc_length]; omega), bc_length, Nat.add_sub_cancel_left]; rfl
    rw [e2, e3] at hrow
    refine hR _ (bufC b (some ⟨g, 0, none⟩) (l ++ s).length c lr :: [(g, cel (bc (l ++ s) ++ sp.drop s.length) ty_uint8)]) ⟨_, c, lr, _, rfl, byS_mk rfl ?_, hc2⟩ ?_
    · simp at hc ⊢; omega
    · rw [List.length_append, bc_append]
      simp only [e2, e3]
      exact hrow.up1
end Go.Proofs.YtihmcipajjakgaaGreatDoor


set_option linter.unusedVariables false
namespace Go.Proofs.YtihmcipajjakgaaGreatDoor
open Go.Proofs Go.IntWalk Go.RowKit
variable {σ : Out} {w : World} {L L' : List Chunk} {R : Ending → World → Prop}
theorem copyNil (w : World) : (Builtin.copy_ #[ty_S_uint8, ty_string] ty_int #[.slice none 0 0, .string (bs [])]).run P w = .ok (.int .i64 0) w := by
  have h : P.underlying ty_S_uint8 = some (.slice ty_uint8) := rowU8.ht
  have h2 : P.info? ty_uint8 = some rowU8.i := rowU8.hi
  have h3 := firstCells_string (P := P) (bs []) w
  have h4 : (Builtin.lenOf (.string (bs []))).run P w = .ok 0 w := rfl
  have h5 : rowU8.i.size = 1 := rowU8.hs
  have h6 : (Builtin.firstCells 1 0 (.string (bs []))).run P w = .ok (Go.byteCells (bs [])).toArray w := h3
  simp [Builtin.copy_, run_underlying h, sizeOf, typeInfo, h2, goInt, h4, h5, h6]
theorem writeS_ok {b : Nat} {l s : List UInt8} {M : List Chunk} (hB : Buf b l M) (h : Sat σ w (M ++ L)) (hb : l.length + s.length ≤ 1099511627776)
    (hR : ∀ w M', Buf b (l ++ s) M' → Sat σ w (M' ++ L) → R (.returned (.tuple #[.int .i64 s.length, .nilIface])) w) : callE P i_bytes_Buffer_WriteString #[.pointer (some ⟨b, 0, none⟩), .string (bs s)] R w := by
  obtain ⟨q, c, lr, M0, rfl, hS, hc⟩ := hB
  have hnc := hS.2.1
  refine g_bytes_Buffer_WriteString.sound ?_
  refine nilP_some ?_
  refine Sat.st h (k := 0) rfl (Nat.le_of_ble_eq_true rfl) trivial (by first | (dsimp only [List.set]; exact rfl) | exact rfl) fun w h => ?_
  have h : Sat σ w (bufC b q l.length c 0 :: (M0 ++ L)) := h
  rw [bs_size]
  refine tryGrow_ok h hnc hc (by omega) (by omega) (fun hh w h => ⟨_, _, rfl, br_false rfl ?_⟩) (fun hh w h => ⟨_, _, rfl, br_true rfl ?_⟩)
  · rcases hS.raw with ⟨rfl, hl0, rfl, rfl⟩ | ⟨g, sp, rfl, rfl, h3⟩
    · obtain rfl := List.eq_nil_of_length_eq_zero hl0
      obtain rfl : s = [] := List.eq_nil_of_length_eq_zero (by simpa using hh)
      refine nilP_some ?_
      refine ⟨_, _, _, Sat.ld h (by first | assumption | (repeat (first | exact .head _ | apply List.Mem.tail))) (by exact rfl), ?_⟩
      refine ⟨_, _, _, _, sliceF rowU8.ht rowU8.hi none 0 0 0 (by omega) w, ?_⟩
      refine ⟨_, _, copyNil w, ?_⟩
      exact hR w _ ⟨none, 0, 0, [], rfl, By.nil, by omega⟩ h
    · exact writeK_ok h h3 hh hc fun w M' hB h => hR w M' hB h
  · refine grow_ok h hS (by omega) hh hb fun w g c' sp lr h1 h2 h3 h => ⟨_, rfl, ?_⟩
    exact writeK_ok h h3 h1 h2 fun w M' hB h => hR w M' hB h
theorem writeB_ok {b : Nat} {l : List UInt8} {k : UInt8} {M : List Chunk} (hB : Buf b l M) (h : Sat σ w (M ++ L)) (hb : l.length + 1 ≤ 1099511627776)
    (hR : ∀ w M', Buf b (l ++ [k]) M' → Sat σ w (M' ++ L) → R (.returned .nilIface) w) : callE P i_bytes_Buffer_WriteByte #[.pointer (some ⟨b, 0, none⟩), .int .u8 (k.toNat : Int)] R w := by
  obtain ⟨q, c, lr, M0, rfl, hS, hc⟩ := hB
  have hnc := hS.2.1
  refine g_bytes_Buffer_WriteByte.sound ?_
  refine nilP_some ?_
  refine Sat.st h (k := 0) rfl (Nat.le_of_ble_eq_true rfl) trivial (by first | (dsimp only [List.set]; exact rfl) | exact rfl) fun w h => ?_
  have h : Sat σ w (bufC b q l.length c 0 :: (M0 ++ L)) := h
  have key : ∀ w g c' sp lr, l.length + 1 ≤ c' → c' ≤ 9223372036854775807 → (bc l ++ sp).length = c' → Sat σ w (bufC b (some ⟨g, 0, none⟩) (l.length + 1) c' lr :: (g, cel (bc l ++ sp) ty_uint8) :: L) →
      g_bytes_Buffer_WriteByte.k1 R (some ⟨b, 0, none⟩) (k.toNat : Int) (l.length : Int) w := by
    intro w g c' sp lr h1 h2 h3 h
    refine nilP_some ?_
    refine ⟨_, _, _, Sat.ld h (by first | assumption | (repeat (first | exact .head _ | apply List.Mem.tail))) (by exact rfl), ?_⟩
    refine ⟨by omega, by omega, nilP_some ?_⟩
    simp only [Addr.add_lit, Int.toNat_natCast, Nat.mul_one, Nat.zero_add, Nat.add_zero]
    simp only [List.length_append, bc_length] at h3
    refine Sat.st h (k := 1) rfl (by simp; omega) trivial rfl fun w h => ?_
    have e : (bc l ++ sp).set l.length (.int .u8 (k.toNat : Int)) = bc (l ++ [k]) ++ sp.drop 1 := by
      rw [List.set_append_right _ _ (by simp), bc_length, Nat.sub_self, bc_append]
      cases sp with
      | nil => simp at h3; omega
      | cons x sp => simp [bc]
    have h : Sat σ w (bufC b (some ⟨g, 0, none⟩) (l.length + 1) c' lr :: (g, cel ((bc l ++ sp).set l.length (.int .u8 (k.toNat : Int))) ty_uint8) :: L) := h
    rw [e] at h
    refine hR w (bufC b (some ⟨g, 0, none⟩) (l ++ [k]).length c' lr :: [(g, cel (bc (l ++ [k]) ++ sp.drop 1) ty_uint8)]) ⟨_, c', lr, _, rfl, byS_mk rfl (by simp; omega), h2⟩ ?_
    rw [List.length_append]
    exact h
  refine tryGrow_ok (m := 1) h hnc hc (by omega) (by omega) (fun hh w h => ⟨_, _, rfl, br_false rfl ?_⟩) (fun hh w h => ⟨_, _, rfl, br_true rfl ?_⟩)
  · rcases hS.raw with ⟨rfl, hl0, rfl, rfl⟩ | ⟨g, sp, rfl, rfl, h3⟩
    · omega
    · exact key w g c sp 0 hh hc h3 h
  · exact grow_ok (m := 1) h hS (by omega) hh hb fun w g c' sp lr h1 h2 h3 h => ⟨_, rfl, key w g c' sp lr h1 h2 h3 h⟩
theorem bufStr_ok {b : Nat} {l : List UInt8} {M : List Chunk} (hB : Buf b l M) (h : Sat σ w (M ++ L)) (hR : ∀ w, Sat σ w (M ++ L) → R (.returned (.string (bs l))) w) :
    callE P i_bytes_Buffer_String #[.pointer (some ⟨b, 0, none⟩)] R w := by
  obtain ⟨q, c, lr, M0, rfl, hS, hc⟩ := hB
  refine g_bytes_Buffer_String.sound ?_
  refine ⟨_, _, ptrNil_eq (e := ty_bytes_Buffer) (by kernel_rfl) _ w, br_false rfl ?_⟩
  refine Sat.tk h fun w h => ?_
  refine nilP_some (nilP_some ?_)
  refine ⟨_, _, _, Sat.ld h (by first | assumption | (repeat (first | exact .head _ | apply List.Mem.tail))) (by exact rfl), ?_⟩
  refine ⟨_, Sat.ld h (by first | assumption | (repeat (first | exact .head _ | apply List.Mem.tail))) (by exact rfl), ?_⟩
  refine ⟨_, _, _, fun w => sliceF rowU8.ht rowU8.hi q l.length c 0 (by omega) w, ?_⟩
  have e0 : (if c = 0 then q else q.map (·.add (0 * rowU8.i.size))) = q := by
    rw [Nat.zero_mul]
    split
    · rfl
    · cases q <;> rfl
  rw [e0, Nat.sub_zero, Nat.sub_zero]
  have h' : Sat σ w (M0 ++ (bufC b q l.length c lr :: L)) := h.re (by intro _; simp only [List.append_eq, cnt_append, cnt_cons, cnt_nil] <;> omega)
  exact ⟨_, _, hS.str h', hR w h⟩
theorem bufNew (b : Nat) : Buf b [] [(b, cel [.slice none 0 0, .int .i64 0, .int .i8 0] ty_bytes_Buffer)] := ⟨none, 0, 0, [], rfl, By.nil, by omega⟩
end Go.Proofs.YtihmcipajjakgaaGreatDoor


set_option linter.unusedVariables false
namespace Go.Proofs.YtihmcipajjakgaaGreatDoor
open Go.Proofs Go.IntWalk Go.RowKit
variable {σ : Out} {w : World} {L L' : List Chunk} {R : Ending → World → Prop}
abbrev bldC (b : Nat) (p q : Option Addr) (n c : Nat) : Chunk := (b, cel [.pointer p, .slice q n c] ty_strings_Builder)
def Bld (b : Nat) (g : Bool) (l : List UInt8) (M : List Chunk) : Prop :=
  ∃ p q c M0, M = bldC b p q l.length c :: M0 ∧ By q l.length c l M0 ∧ (p = none ∨ p = some ⟨b, 0, none⟩) ∧ q.isSome = g ∧ (g = true → 0 < c)
theorem bldNew (b : Nat) : Bld b false [] [(b, cel [.pointer none, .slice none 0 0] ty_strings_Builder)] := ⟨none, none, 0, [], rfl, By.nil, .inl rfl, rfl, by simp⟩
theorem Sat.shape (h : Sat σ w L) {b : Nat} {cs : List Value} {e : TypeId} (hm : (b, cel cs e) ∈ L) : w.shape? b = some (e, cs.length) := by
  have := h.at_ _ hm
  simp only [cel] at this
  simp [World.shape?, this]
theorem copyCheck_ok {b : Nat} {p q : Option Addr} {n c : Nat} (h : Sat σ w (bldC b p q n c :: L)) (hp : p = none ∨ p = some ⟨b, 0, none⟩)
    (hR : ∀ w, Sat σ w (bldC b (some ⟨b, 0, none⟩) q n c :: L) → R (.returned (.tuple #[])) w) : callE P i_strings_Builder_copyCheck #[.pointer (some ⟨b, 0, none⟩)] R w := by
  have hu : P.underlying ty_P_strings_Builder = some (.pointer ty_strings_Builder) := by kernel_rfl
  have hun : P.underlying ty_unsafe_Pointer = some .unsafePointer := by kernel_rfl
  have hi : P.info? ty_strings_Builder = some ((P.info? ty_strings_Builder).getD default) := by kernel_rfl
  have hs : ((P.info? ty_strings_Builder).getD default).size = 2 := by kernel_rfl
  have hsh := h.shape (.head _)
  refine g_strings_Builder_copyCheck.sound ?_
  refine nilP_some ?_
  refine ⟨_, Sat.ld h (by first | assumption | (repeat (first | exact .head _ | apply List.Mem.tail))) (by exact rfl), ?_⟩
  refine ⟨_, _, ptrNil_eq hu _ w, ?_⟩
  rcases hp with rfl | rfl
  · refine br_true rfl ?_
    refine ⟨_, _, Lib.run_to_unsafe w ⟨b, 0, none⟩ hu hun hi (by rw [hs]; decide) hsh (Nat.zero_lt_succ _), ?_⟩
    refine noEscape_ok ⟨_, rfl, ?_⟩
    refine ⟨_, _, Lib.run_from_unsafe w ⟨b, 0, none⟩ hun hu hi hsh (by kernel_rfl), ?_⟩
    refine nilP_some ?_
    refine Sat.st h (k := 0) rfl (Nat.le_of_ble_eq_true rfl) trivial (by first | (dsimp only [List.set]; exact rfl) | exact rfl) fun w h => ?_
    exact hR _ h
  · refine br_false rfl ?_
    refine nilP_some ?_
    refine ⟨_, Sat.ld h (by first | assumption | (repeat (first | exact .head _ | apply List.Mem.tail))) (by exact rfl), ?_⟩
    refine ⟨_, _, neq_ptr_same hu hi (by rw [hs]; decide) b w, br_false rfl ?_⟩
    exact hR _ h
theorem bldS_ok {b : Nat} {g : Bool} {l s : List UInt8} {M : List Chunk} (hB : Bld b g l M) (h : Sat σ w (M ++ L)) (h0 : s ≠ [] ∨ g = true) (hb : l.length + s.length ≤ 1099511627776)
    (hR : ∀ w M', Bld b true (l ++ s) M' → Sat σ w (M' ++ L) → R (.returned (.tuple #[.int .i64 s.length, .nilIface])) w) : callE P i_strings_Builder_WriteString #[.pointer (some ⟨b, 0, none⟩), .string (bs s)] R w := by
  obtain ⟨p, q, c, M0, rfl, hS, hp, hg, hc⟩ := hB
  refine g_strings_Builder_WriteString.sound ?_
  refine copyCheck_ok h hp fun w h => ⟨rfl, ?_⟩
  refine nilP_some ?_
  refine ⟨_, _, _, Sat.ld h (by first | assumption | (repeat (first | exact .head _ | apply List.Mem.tail))) (by exact rfl), ?_⟩
  have h : Sat σ w (M0 ++ (bldC b (some ⟨b, 0, none⟩) q l.length c :: L)) := h.re (by intro _; simp only [List.append_eq, cnt_append, cnt_cons, cnt_nil] <;> omega)
  have h0' : s ≠ [] ∨ q ≠ none := h0.imp id (fun hg1 => by rw [← hg] at hg1; intro h; rw [h] at hg1; cases hg1)
  refine hS.appS h s h0' hb fun q' c' w M' hS' h hq' hcc => ?_
  have h : Sat σ w (bldC b (some ⟨b, 0, none⟩) q l.length c :: (M' ++ L)) := h.re (by intro _; simp only [List.append_eq, cnt_append, cnt_cons, cnt_nil] <;> omega)
  refine nilP_some ?_
  refine Sat.st h (k := 0) rfl (Nat.le_of_ble_eq_true rfl) trivial (by first | (dsimp only [List.set]; exact rfl) | exact rfl) fun w h => ?_
  rw [bs_size]
  have hc' : 0 < c' := by
    rcases h0 with h0 | h0
    · have := hS'.2.1
      have := List.length_pos_iff.2 h0
      omega
    · have := hc h0; omega
  rw [← List.length_append] at hS'
  refine hR w (bldC b (some ⟨b, 0, none⟩) q' (l ++ s).length c' :: M') ⟨_, _, _, _, rfl, hS', .inr rfl, Option.isSome_iff_ne_none.2 hq', fun _ => hc'⟩ ?_
  rw [List.length_append]
  exact h
theorem Sat.freeze {b : Nat} {cs : List Value} {e : TypeId} (h : Sat σ w ((b, cel cs e) :: L)) (n : Nat) : Sat σ (w.freeze ⟨b, 0, none⟩ n) L := by
  unfold World.freeze
  split
  · exact h.tail
  · refine ⟨h.os, h.out, h.tail.nodup, fun c hc => ?_⟩
    have hne : b ≠ c.1 := by
      intro h1
      have := h.nodup
      simp only [List.map_cons, List.nodup_cons] at this
      exact this.1 (by rw [h1]; exact List.mem_map.2 ⟨c, hc, rfl⟩)
    simp only [Array.getElem?_modify, if_neg hne]
    exact h.at_ _ (.tail _ hc)
theorem bldStr_ok {b : Nat} {g : Bool} {l : List UInt8} {M : List Chunk} (hB : Bld b g l M) (h : Sat σ w (M ++ L)) (hl : l.length < 4611686018427387904) (hR : ∀ w, Sat σ w L → R (.returned (.string (bs l))) w) :
    callE P i_strings_Builder_String #[.pointer (some ⟨b, 0, none⟩)] R w := by
  obtain ⟨p, q, c, M0, rfl, hS, hp, hg, hc⟩ := hB
  refine g_strings_Builder_String.sound ?_
  refine Sat.tk h fun w h => ?_
  refine nilP_some (nilP_some ?_)
  refine ⟨_, _, _, Sat.ld h (by first | assumption | (repeat (first | exact .head _ | apply List.Mem.tail))) (by exact rfl), ?_⟩
  refine ⟨_, _, _, Sat.ld h (by first | assumption | (repeat (first | exact .head _ | apply List.Mem.tail))) (by exact rfl), ?_⟩
  rcases hS.raw with ⟨rfl, hl0, rfl, rfl⟩ | ⟨gb, sp, rfl, rfl, h3⟩
  · obtain rfl := List.eq_nil_of_length_eq_zero hl0
    refine ⟨_, _, Lib.run_unsafeSliceData_nil (P := P) (w := w) _ _ _ _, fun _ _ => rfl, ?_⟩
    refine ⟨_, _, Lib.run_unsafeString_none (P := P) (w := w) _ _ _ _, hR _ h.tail⟩
  · refine ⟨_, _, Lib.run_unsafeSliceData_row (P := P) (w := w) _ _ _ _ _ (by have := hc (by rw [← hg]; rfl); omega), fun _ _ => rfl, ?_⟩
    have h' : Sat σ w ((gb, cel (bc l ++ sp) ty_uint8) :: L) := h.tail
    by_cases hl0 : l = []
    · subst hl0
      refine ⟨_, _, Lib.run_unsafeString_none (P := P) (w := w) _ _ _ _, hR _ h'.tail⟩
    · refine ⟨_, _, Lib.run_unsafeString_row (w := w) ty_P_uint8 ty_int ty_string ty_uint8 (by kernel_rfl) (by kernel_rfl) gb _ (h'.shape (.head _)) l hl0 (by simp) (by omega) (fun j x hj => ?_), hR _ (h'.freeze _)⟩
      rw [Addr.add_zero_lit]
      have hj' := (List.getElem?_eq_some_iff.1 hj).1
      refine h'.ld (.head _) ?_
      rw [List.getElem?_append_left (by rw [bc_length]; exact hj'), bc_get hj']
      rw [(List.getElem?_eq_some_iff.1 hj).2]
end Go.Proofs.YtihmcipajjakgaaGreatDoor


set_option linter.unusedVariables false
namespace Go.Proofs.YtihmcipajjakgaaGreatDoor
open Go.Proofs Go.IntWalk Go.RowKit
variable {σ : Out} {w : World} {L L' : List Chunk} {R : Ending → World → Prop}
theorem makeNoZero_ok {n : Nat} (hn : n ≤ 1099511627776) (h : Sat σ w L) (hR : ∀ w b cs, n ≤ cs.length → cs.length ≤ 9223372036854775807 → Sat σ w ((b, cel cs ty_uint8) :: L) → R (.returned (.slice (some ⟨b, 0, none⟩) n cs.length)) w) :
    callE P i_internal_bytealg_MakeNoZero #[.int .i64 n] R w := by
  obtain ⟨cs, hr, h1, h2⟩ := Lib.run_makeNoZero (P := P) w x_internal_bytealg_MakeNoZero.params ty_S_uint8 ty_uint8 rowU8.ht n (by omega)
  refine ext_of (e := Extern.BytealgMakeNoZero.makeNoZero x_internal_bytealg_MakeNoZero.params #[ty_S_uint8]) xf_internal_bytealg_MakeNoZero (by kernel_rfl) (by kernel_rfl) (by kernel_rfl) (by kernel_rfl) hr ?_
  have hd : Sat σ w.drew.drew L := h.drew.drew
  have ha := hd.alc cs.toList ty_uint8
  have e3 : YtihmcipajjakgaaGreatDoor.alc w.drew.drew cs.toList.toArray ty_uint8 = w.drew.drew.alloc (.cells cs ty_uint8) := by rw [Array.toArray_toList]; rfl
  rw [e3] at ha
  have h3 := h2 (by unfold maxLen; omega)
  unfold maxLen at h3
  exact hR _ _ cs.toList (by simpa using h1) (by simpa using h3) ha
theorem copyNone (w : World) (b c : Nat) : (Builtin.copy_ #[ty_S_uint8, ty_S_uint8] ty_int #[.slice (some ⟨b, 0, none⟩) 0 c, .slice none 0 0]).run P w = .ok (.int .i64 0) w := by
  have h : P.underlying ty_S_uint8 = some (.slice ty_uint8) := rowU8.ht
  have h2 : P.info? ty_uint8 = some rowU8.i := rowU8.hi
  have h4 : (Builtin.lenOf (.slice none 0 0)).run P w = .ok 0 w := rfl
  have h5 : rowU8.i.size = 1 := rowU8.hs
  have h6 : (Builtin.firstCells 1 0 (.slice none 0 0)).run P w = .ok #[] w := run_firstCells_none w 1 0 0 0
  simp [Builtin.copy_, run_underlying h, sizeOf, typeInfo, h2, goInt, h4, h5, h6, storeCells]
theorem bldGrow_ok {b n : Nat} {M : List Chunk} (hB : Bld b false [] M) (h : Sat σ w (M ++ L)) (hn : 0 < n) (hn2 : n ≤ 1099511627776) (hR : ∀ w M', Bld b true [] M' → Sat σ w (M' ++ L) → R (.returned (.tuple #[])) w) :
    callE P i_strings_Builder_Grow #[.pointer (some ⟨b, 0, none⟩), .int .i64 n] R w := by
  obtain ⟨p, q, c, M0, rfl, hS, hp, hg, hc⟩ := hB
  have hq : q = none := by cases q <;> simp_all
  subst hq
  obtain ⟨_, _, ⟨_, _, rfl, rfl⟩ | ⟨_, _, h, _⟩⟩ := hS
  rotate_left
  · cases h
  refine g_strings_Builder_Grow.sound ?_
  refine copyCheck_ok h hp fun w h => ⟨rfl, br_false (by simp) ?_⟩
  refine Sat.tk h fun w h => ?_
  refine nilP_some (nilP_some ?_)
  refine ⟨_, _, _, Sat.ld h (by first | assumption | (repeat (first | exact .head _ | apply List.Mem.tail))) (by exact rfl), ?_⟩
  refine ⟨_, _, _, Sat.ld h (by first | assumption | (repeat (first | exact .head _ | apply List.Mem.tail))) (by exact rfl), ?_⟩
  refine ⟨_, _, capRun _ _ _ _ _ _ rowU8.ht w, fun _ _ => rfl, ?_⟩
  refine br_true (by simp (disch := omega) only [i64_in]; simp; omega) ?_
  refine g_strings_Builder_grow.sound ?_
  refine Sat.tk h fun w h => ?_
  refine nilP_some (nilP_some ?_)
  refine ⟨_, _, _, Sat.ld h (by first | assumption | (repeat (first | exact .head _ | apply List.Mem.tail))) (by exact rfl), ?_⟩
  refine ⟨_, _, _, Sat.ld h (by first | assumption | (repeat (first | exact .head _ | apply List.Mem.tail))) (by exact rfl), ?_⟩
  refine ⟨_, _, capRun _ _ _ _ _ _ rowU8.ht w, fun _ _ => rfl, ?_⟩
  have e1 : IntKind.i64.wrap (IntKind.i64.wrap (2 * ((0 : Nat) : Int)) + (n : Int)) = (n : Int) := by rw [i64_in (2 * _) (by omega), i64_in _ (by omega)]; omega
  rw [e1]
  have h0 := h
  refine makeNoZero_ok hn2 h fun w rb cs h1 h2 h => ⟨_, _, _, rfl, h0.same h (.head _) (.tail _ (.head _)) 1, ?_⟩
  refine ⟨_, _, _, fun w => sliceT rowU8.ht rowU8.hi _ n cs.length 0 (by omega) w, ?_⟩
  refine nilP_some ?_
  refine ⟨_, _, _, Sat.ld h (by first | assumption | (repeat (first | exact .head _ | apply List.Mem.tail))) (by exact rfl), ?_⟩
  refine ⟨_, _, copyNone w rb cs.length, ?_⟩
  refine nilP_some ?_
  refine Sat.st h (k := 1) rfl (Nat.le_of_ble_eq_true rfl) trivial (by first | (dsimp only [List.set]; exact rfl) | exact rfl) fun w h => ?_
  have h : Sat σ w ((rb, cel cs ty_uint8) :: bldC b (some ⟨b, 0, none⟩) (some ⟨rb, 0, none⟩) 0 cs.length :: L) := h
  refine ⟨rfl, hR w [bldC b (some ⟨b, 0, none⟩) (some ⟨rb, 0, none⟩) 0 cs.length, (rb, cel cs ty_uint8)] ⟨_, _, _, _, rfl, ⟨by simp [bc], by omega, .inr ⟨rb, cs, rfl, by simp [bc], by simp [bc]⟩⟩, .inr rfl, rfl, fun _ => by omega⟩ ?_⟩
  exact h.re (by intro _; simp only [List.append_eq, cnt_append, cnt_cons, cnt_nil] <;> omega)
def sv (ts : List (List UInt8)) : List Value := ts.map fun t => .string (bs t)
@[simp] theorem sv_length (ts : List (List UInt8)) : (sv ts).length = ts.length := by simp [sv]
theorem sv_get {ts : List (List UInt8)} {j : Nat} (h : j < ts.length) : (sv ts)[j]? = some (.string (bs ts[j])) := by simp [sv, h]
def joinL (sep : List UInt8) : List (List UInt8) → List UInt8
  | [] => []
  | t :: ts => t ++ ts.flatMap (fun u => sep ++ u)
def sumL (ts : List (List UInt8)) : Nat := (ts.map List.length).sum
theorem joinL_length (sep : List UInt8) (t : List UInt8) (ts : List (List UInt8)) : (joinL sep (t :: ts)).length = t.length + sumL ts + ts.length * sep.length := by
  simp only [joinL, List.length_append, sumL]
  induction ts with
  | nil => simp
  | cons u ts ih => simp only [List.flatMap_cons, List.length_append, List.map_cons, List.sum_cons, List.length_cons] at *; rw [Nat.add_mul]; omega
theorem Sl.rowAt {e : TypeId} {q : Option Addr} {n c : Nat} {vs : List Value} {M : List Chunk} (hS : Sl 1 e q n c vs M) (hn : 0 < n) : ∃ b sp, q = some ⟨b, 0, none⟩ ∧ M = [(b, cel (vs ++ sp) e)] := by
  obtain ⟨_, _, ⟨_, h, _, _⟩ | ⟨b, sp, h1, h2, _⟩⟩ := hS
  · omega
  · exact ⟨b, sp, h1, h2⟩
theorem join_ok {q : Option Addr} {n c : Nat} {t : List UInt8} {ts : List (List UInt8)} {AM : List Chunk} {sep : List UInt8} (hS : Sl 1 ty_string q n c (sv (t :: ts)) AM) (h : Sat σ w (AM ++ L)) (hne : 1 ≤ ts.length) (hn : n < 1073741824) (hsep : sep.length < 65536)
    (h0 : 0 < (joinL sep (t :: ts)).length) (hb : (joinL sep (t :: ts)).length < 1073741824) (hR : ∀ w, Sat σ w (AM ++ L) → R (.returned (.string (bs (joinL sep (t :: ts))))) w) : callE P i_strings_Join #[.slice q n c, .string (bs sep)] R w := by
  have hl := hS.1
  rw [sv_length, List.length_cons] at hl
  have hjl := joinL_length sep t ts
  refine g_strings_Join.sound ?_
  obtain ⟨rb, sp, rfl, rfl⟩ := hS.rowAt (by omega)
  refine br_false (by simp; omega) (br_false (by simp; omega) ?_)
  have fin : ∀ w, Sat σ w ([(rb, cel (sv (t :: ts) ++ sp) ty_string)] ++ L) → box w #[.pointer none, .slice none 0 0] ty_strings_Builder fun b5 w6 =>
      callE P i_strings_Builder_Grow #[.pointer (some ⟨b5, 0, none⟩), .int .i64 (((joinL sep (t :: ts)).length : Nat) : Int)] (fun e w8 => e = .returned (.tuple #[]) ∧
      0 ≤ (0 : Int) ∧ 0 < (n : Int) ∧
      nilP (some (⟨rb, 0, none⟩ : Addr)) fun a9 =>
      ∃ (v10 : ByteArray), w8.cell? (a9.add (Int.toNat 0 * 1)) = some (.string v10) ∧
      callE P i_strings_Builder_WriteString #[.pointer (some ⟨b5, 0, none⟩), .string v10] (fun e w12 => ∃ (r11_0 : Int), ∃ (r11_1 : Value), e = .returned (.tuple #[.int .i64 r11_0, r11_1]) ∧
      ∃ (r13q : Option Addr), ∃ (r13n : Nat), ∃ (r13c : Nat), ∃ w14, (Instr.sliceAt ty_S_string (.slice (some ⟨rb, 0, none⟩) n c) (some (.int .i64 1)) none none).run P w12 = .ok (.slice r13q r13n r13c) w14 ∧
      g_strings_Join.l2 R (bs sep) b5 r13q r13n r13c (r13n : Int) 0 w14) w8) w6 := by
    intro w h
    refine Sat.bx h fun b w h => ?_
    refine bldGrow_ok (bldNew b) h h0 (by omega) fun w M hB h => ⟨rfl, by omega, by omega, nilP_some ?_⟩
    refine ⟨bs t, Sat.ld h (List.mem_append_right _ (.head _)) rfl, ?_⟩
    refine bldS_ok hB h (.inr rfl) (by simp; omega) fun w M hB h => ⟨_, _, rfl, ?_⟩
    refine ⟨_, _, _, _, sliceF rowStr.ht rowStr.hi _ n c 1 (by omega) w, ?_⟩
    have hnc := hS.2.1
    rw [if_neg (by omega), rowStr.hs]
    simp only [Option.map_some, Addr.add_lit, Nat.zero_add, Nat.mul_one]
    rw [List.nil_append] at hB
    intro Y hY
    have key : ∀ k j (l : List UInt8) M w, j + k = ts.length → Bld b true l M → Sat σ w (M ++ ([(rb, cel (sv (t :: ts) ++ sp) ty_string)] ++ L)) → l ++ (ts.drop j).flatMap (fun u => sep ++ u) = joinL sep (t :: ts) →
        Y (bs sep) b (some ⟨rb, 1, none⟩) (n - 1) (c - 1) ((n - 1 : Nat) : Int) (j : Int) w := by
      intro k
      induction k with
      | zero =>
        intro j l M w hj hB h hl2
        rw [List.drop_eq_nil_of_le (by omega)] at hl2
        simp only [List.flatMap_nil, List.append_nil] at hl2
        refine hY _ _ _ _ _ _ _ _ (br_false (by simp; omega) ?_)
        refine bldStr_ok hB h (by rw [hl2]; omega) fun w h => ⟨_, rfl, ?_⟩
        rw [hl2]
        exact hR w h
      | succ k ih =>
        intro j l M w hj hB h hl2
        have hjl : j < ts.length := by omega
        rw [List.drop_eq_getElem_cons hjl, List.flatMap_cons, ← List.append_assoc, ← List.append_assoc] at hl2
        have hlb : (l ++ sep ++ ts[j]).length ≤ (joinL sep (t :: ts)).length := by rw [← hl2]; simp only [List.length_append]; omega
        simp only [List.length_append] at hlb
        refine hY _ _ _ _ _ _ _ _ (br_true (by simp; omega) ⟨by omega, by omega, nilP_some ?_⟩)
        simp only [Addr.add_lit, Int.toNat_natCast, Nat.mul_one]
        have hg : (sv (t :: ts) ++ sp)[1 + j]? = some (.string (bs ts[j])) := by
          rw [List.getElem?_append_left (by simp; omega), show 1 + j = j + 1 by omega, sv_get (by simp; omega)]; rfl
        refine ⟨_, Sat.ld h (List.mem_append_right _ (.head _)) hg, ?_⟩
        refine bldS_ok hB h (.inr rfl) (by omega) fun w M hB h => ⟨_, _, rfl, ?_⟩
        refine bldS_ok hB h (.inr rfl) (by simp; omega) fun w M hB h => ⟨_, _, rfl, ?_⟩
        rw [i64_inc (by omega)]
        exact ih (j + 1) _ M w (by omega) hB h hl2
    exact key ts.length 0 t M w (by omega) hB h rfl
  have sum : ∀ w (a : Nat), a = ts.length * sep.length → Sat σ w ([(rb, cel (sv (t :: ts) ++ sp) ty_string)] ++ L) → g_strings_Join.k2 R (some ⟨rb, 0, none⟩) n c (bs sep) (a : Int) w := by
    intro w a ha h X hX
    have key : ∀ k j (s : Nat), j + k = (t :: ts).length → s + sumL ((t :: ts).drop j) = (joinL sep (t :: ts)).length → X (some ⟨rb, 0, none⟩) n c (bs sep) (s : Int) (some ⟨rb, 0, none⟩) n c (n : Int) (j : Int) w := by
      intro k
      induction k with
      | zero =>
        intro j s hj hs
        rw [List.drop_eq_nil_of_le (by omega)] at hs
        simp only [sumL, List.map_nil, List.sum_nil, Nat.add_zero] at hs
        subst hs
        refine hX _ _ _ _ _ _ _ _ _ _ _ (br_false (by simp at hj; simp; omega) ?_)
        exact fin w h
      | succ k ih =>
        intro j s hj hs
        have hjl : j < (t :: ts).length := by omega
        rw [List.drop_eq_getElem_cons hjl] at hs
        simp only [sumL, List.map_cons, List.sum_cons] at hs
        have hjn : j < n := by simp at hjl; omega
        refine hX _ _ _ _ _ _ _ _ _ _ _ (br_true (by simp; omega) ⟨by omega, by omega, nilP_some ?_⟩)
        simp only [Addr.add_lit, Int.toNat_natCast, Nat.mul_one, Nat.zero_add]
        have hg : (sv (t :: ts) ++ sp)[j]? = some (.string (bs (t :: ts)[j])) := by
          rw [List.getElem?_append_left (by simp at hjl ⊢; omega), sv_get hjl]
        refine ⟨_, Sat.ld h (.head _) hg, ?_⟩
        rw [bs_size]
        refine br_false (by simp (disch := omega) only [i64_in]; simp; omega) ?_
        show X _ _ _ _ _ _ _ _ _ _ w
        rw [i64_inc (by omega), bs_size, i64_in _ (by omega), show (s : Int) + ((t :: ts)[j].length : Nat) = ((s + (t :: ts)[j].length : Nat) : Int) by omega]
        exact ih (j + 1) _ (by omega) (by simp only [sumL]; omega)
    refine key (t :: ts).length 0 a (by omega) ?_
    rw [hjl, ha]
    simp [sumL]
    omega
  have hmul : ts.length * sep.length < 1073741824 := by omega
  by_cases hs0 : sep = []
  · subst hs0
    refine br_false (by simp) ?_
    exact sum w 0 (by simp) h
  · refine br_true (by simpa using List.length_pos_iff.2 hs0) ?_
    have hn1 : IntKind.i64.wrap ((n : Int) - 1) = ((ts.length : Nat) : Int) := by simp (disch := omega) only [i64_in]; omega
    refine ⟨by rw [hn1]; omega, br_false ?_ ?_⟩
    · rw [hn1]
      have hq : Int.tdiv 9223372036854775807 (ts.length : Int) = ((9223372036854775807 / ts.length : Nat) : Int) := by
        rw [Int.tdiv_eq_ediv_of_nonneg (by omega)]; simp
      rw [hq]
      have hge : 65536 ≤ 9223372036854775807 / ts.length := by
        rw [Nat.le_div_iff_mul_le (by omega)]; omega
      have hle : 9223372036854775807 / ts.length ≤ 9223372036854775807 := Nat.div_le_self _ _
      rw [i64_in _ (by omega), bs_size]
      exact decide_eq_false (by omega)
    · show g_strings_Join.k2 R _ n c (bs sep) _ w
      rw [hn1, bs_size]
      have : IntKind.i64.wrap (0 + IntKind.i64.wrap ((sep.length : Int) * (ts.length : Int))) = ((ts.length * sep.length : Nat) : Int) := by
        have e : ((sep.length : Int) * (ts.length : Int)) = ((ts.length * sep.length : Nat) : Int) := by rw [Nat.mul_comm]; simp
        generalize ts.length * sep.length = m at hmul e ⊢
        rw [e, i64_in (m : Int) (by omega), Int.zero_add, i64_in (m : Int) (by omega)]
      rw [this]
      exact sum w _ rfl h
end Go.Proofs.YtihmcipajjakgaaGreatDoor


set_option linter.unusedVariables false
namespace Go.Proofs.YtihmcipajjakgaaGreatDoor
open Go.Proofs Go.IntWalk Go.RowKit
variable {σ : Out} {w : World} {L L' : List Chunk} {R : Ending → World → Prop}
structure TX where
  t : Nat
  s : Nat
  e : Nat
  raw : List UInt8
def TX.chunk (x : TX) : Chunk := textC x.t x.s x.e none 0 0 x.raw
structure DB where
  v : Value
  own : List Chunk
  txs : List TX
def ownC (D : List DB) : List Chunk := D.flatMap DB.own
def txsC (D : List DB) : List TX := D.flatMap DB.txs
theorem ownC_snoc (D : List DB) (d : DB) : ownC (D ++ [d]) = ownC D ++ d.own := by simp [ownC]
theorem txsC_snoc (D : List DB) (d : DB) : txsC (D ++ [d]) = txsC D ++ d.txs := by simp [txsC]
def paraOB (qb s e : Nat) : OB := ⟨.iface ty_P_paraBuilder (.pointer (some ⟨qb, 0, none⟩)), none, 0, 0, s, e⟩
theorem lines_join {q : Option Addr} {n c : Nat} {ts : List (List UInt8)} {AM : List Chunk} (hS : Sl 1 ty_string q n c (ts.map fun t => .string (bs t)) AM) (h : Sat σ w (AM ++ L)) (hne : ts ≠ []) (hn : ts.length < 1048576)
    (h0 : joinL [10] ts ≠ []) (hb : (joinL [10] ts).length < 1073741824) (hR : ∀ w, Sat σ w (AM ++ L) → R (.returned (.string (bs (joinL [10] ts)))) w) : callE P i_strings_Join #[.slice q n c, .string (bs [10])] R w := by
  have hl := hS.1
  simp only [List.length_map, Nat.mul_one] at hl
  match ts, hne with
  | [t], _ =>
    obtain rfl : n = 1 := by simpa using hl.symm
    have e : joinL [10] [t] = t := by simp [joinL]
    rw [e] at hR
    exact join_one h hS hR
  | t :: u :: ts, _ =>
    exact join_ok (t := t) (ts := u :: ts) hS h (by simp) (by omega) (by decide) (List.length_pos_iff.2 h0) hb hR
theorem paraBuild_ok {b qb : Nat} {p : PS} {ob : List OB} {o : OB} {M TM PM : List Chunk} {ts : List Nat} {ls : List (List UInt8)} {s : List UInt8} (h : Sat σ w (p.at b :: M ++ (TM ++ (PM ++ L)))) (hs : Stk p (ob ++ [o]) M)
    (ht : Txts p ts TM) (hts : ts.length < 1048575) (hp : ParaAt qb ls PM) (hls : ls ≠ []) (hln : ls.length < 1048576) (hj : joinL [10] ls = s) (hl : s.length < 1073741824) (hne : s ≠ []) (hb : NoRef s) (ho : o.s < 1000000000)
    (hR : ∀ w p' TM' t nb, p' = { p with tq := p'.tq, tn := ts.length + 1, tc := p'.tc } → Txts p' (ts ++ [t]) TM' →
      Sat σ w (p'.at b :: M ++ (TM' ++ (PM ++ (paraC nb o.s (o.s + ls.length - 1) t :: textC t o.s (o.s + ls.length - 1) none 0 0 s :: L)))) → R (.returned (.iface ty_P_Paragraph (.pointer (some ⟨nb, 0, none⟩)))) w) :
    callE P i_paraBuilder_build #[.pointer (some ⟨qb, 0, none⟩), .iface ty_P_parseState (.pointer (some ⟨b, 0, none⟩))] R w := by
  obtain ⟨q, c, SM, hS, rfl⟩ := hp
  have hll : 1 ≤ ls.length := List.length_pos_iff.2 hls
  refine g_paraBuilder_build.sound ?_
  have h : Sat σ w (p.at b :: M ++ (TM ++ (((qb, cel [.slice q ls.length c, .pointer none] ty_paraBuilder) :: SM) ++ L))) := h
  have h : Sat σ w ((qb, cel [.slice q ls.length c, .pointer none] ty_paraBuilder) :: (SM ++ (p.at b :: M ++ (TM ++ L)))) := h.re (by intro _; simp only [List.append_eq, cnt_append, cnt_cons, cnt_nil] <;> omega)
  repeat (first | refine nilP_some ?_ | refine Sat.tk h fun w h => ?_ | refine ⟨_, Sat.ld h (by first | assumption | (repeat (first | exact .head _ | apply List.Mem.tail))) (by exact rfl), ?_⟩ | refine ⟨_, _, _, Sat.ld h (by first | assumption | (repeat (first | exact .head _ | apply List.Mem.tail))) (by exact rfl), ?_⟩)
  refine ⟨_, w, ne_ptr_nil und_table _ _ _ w, br_false rfl ?_⟩
  repeat (first | refine nilP_some ?_ | refine Sat.tk h fun w h => ?_ | refine ⟨_, Sat.ld h (by first | assumption | (repeat (first | exact .head _ | apply List.Mem.tail))) (by exact rfl), ?_⟩ | refine ⟨_, _, _, Sat.ld h (by first | assumption | (repeat (first | exact .head _ | apply List.Mem.tail))) (by exact rfl), ?_⟩)
  have h : Sat σ w (SM ++ ((qb, cel [.slice q ls.length c, .pointer none] ty_paraBuilder) :: (p.at b :: M ++ (TM ++ L)))) := h.re (by intro _; simp only [List.append_eq, cnt_append, cnt_cons, cnt_nil] <;> omega)
  refine lines_join hS h hls hln (by rw [hj]; exact hne) (by rw [hj]; exact hl) fun w h => ⟨_, rfl, ?_⟩
  rw [hj]
  intro X hX
  have hse : ((bs s).toList == (ByteArray.mk #[]).toList) = false := by rw [bs_toList, mk_toList]; simpa using hne
  refine hX _ _ _ _ (br_true (by rw [hse]; rfl) ?_)
  refine hb _ _ _ ⟨_, _, rfl, br_true rfl ?_⟩
  refine br_false hse ?_
  have h : Sat σ w (p.at b :: M ++ (TM ++ (SM ++ (qb, cel [.slice q ls.length c, .pointer none] ty_paraBuilder) :: L))) := h.re (by intro _; simp only [List.append_eq, cnt_append, cnt_cons, cnt_nil] <;> omega)
  refine enter_meth meth_pos ?_
  refine pos_ok h hs fun w h => ⟨_, _, rfl, ?_⟩
  refine Sat.bx h fun zb w h => ?_
  repeat (first | refine nilP_some ?_ | refine Sat.tk h fun w h => ?_ | refine ⟨_, Sat.ld h (by first | assumption | (repeat (first | exact .head _ | apply List.Mem.tail))) (by exact rfl), ?_⟩ | refine ⟨_, _, _, Sat.ld h (by first | assumption | (repeat (first | exact .head _ | apply List.Mem.tail))) (by exact rfl), ?_⟩ | refine Sat.st h (k := 0) rfl (Nat.le_of_ble_eq_true rfl) trivial (by first | (dsimp only [List.set]; exact rfl) | exact rfl) fun w h => ?_ | refine Sat.st h (k := 1) rfl (Nat.le_of_ble_eq_true rfl) trivial (by first | (dsimp only [List.set]; exact rfl) | exact rfl) fun w h => ?_ | refine Sat.st h (k := 2) rfl (Nat.le_of_ble_eq_true rfl) trivial (by first | (dsimp only [List.set]; exact rfl) | exact rfl) fun w h => ?_ | refine Sat.st h (k := 3) rfl (Nat.le_of_ble_eq_true rfl) trivial (by first | (dsimp only [List.set]; exact rfl) | exact rfl) fun w h => ?_ | refine Sat.st h (k := 4) rfl (Nat.le_of_ble_eq_true rfl) trivial (by first | (dsimp only [List.set]; exact rfl) | exact rfl) fun w h => ?_ | refine Sat.st h (k := 5) rfl (Nat.le_of_ble_eq_true rfl) trivial (by first | (dsimp only [List.set]; exact rfl) | exact rfl) fun w h => ?_ | refine Sat.st h (k := 6) rfl (Nat.le_of_ble_eq_true rfl) trivial (by first | (dsimp only [List.set]; exact rfl) | exact rfl) fun w h => ?_ | refine Sat.bx h fun b0 w h => ?_)
  have h : Sat σ _ ((zb, cel [.int .i64 o.s, .int .i64 o.e] ty_Position) :: (p.at b :: M ++ (TM ++ (SM ++ (qb, cel [.slice q ls.length c, .pointer none] ty_paraBuilder) :: L)))) := h
  have h : Sat σ _ ((zb, cel [.int .i64 o.s, .int .i64 o.e] ty_Position) :: (qb, cel [.slice q ls.length c, .pointer none] ty_paraBuilder) :: (p.at b :: M ++ (TM ++ (SM ++ L)))) := h.re (by intro _; simp only [List.append_eq, cnt_append, cnt_cons, cnt_nil] <;> omega)
  refine ⟨_, _, _, Sat.ld h (by first | assumption | (repeat (first | exact .head _ | apply List.Mem.tail))) (by exact rfl), ?_⟩
  refine Sat.st h (k := 0) rfl (Nat.le_of_ble_eq_true rfl) trivial (by first | (dsimp only [List.set]; exact rfl) | exact rfl) fun w h => ?_
  refine Sat.tk h fun w h => ?_
  refine ⟨_, Sat.ld h (by first | assumption | (repeat (first | exact .head _ | apply List.Mem.tail))) (by exact rfl), ?_⟩
  refine ⟨_, Sat.ld h (by first | assumption | (repeat (first | exact .head _ | apply List.Mem.tail))) (by exact rfl), ?_⟩
  refine ⟨_, Sat.ld h (by first | assumption | (repeat (first | exact .head _ | apply List.Mem.tail))) (by exact rfl), ?_⟩
  refine ⟨_, Sat.ld h (by first | assumption | (repeat (first | exact .head _ | apply List.Mem.tail))) (by exact rfl), ?_⟩
  have e1 : IntKind.i64.wrap (IntKind.i64.wrap ((o.s : Int) + ((ls.length : Nat) : Int)) - 1) = ((o.s + ls.length - 1 : Nat) : Int) := by
    rw [i64_in (_ + _) (by omega), i64_in _ (by omega)]; omega
  rw [e1] at h ⊢
  have h : Sat σ _ ((zb, cel [.int .i64 o.s, .int .i64 (o.s + ls.length - 1 : Nat)] ty_Position) :: (qb, cel [.slice q ls.length c, .pointer none] ty_paraBuilder) :: (p.at b :: M ++ (TM ++ (SM ++ L)))) := h
  have hz := h
  have h : Sat σ _ (p.at b :: TM ++ ((zb, cel [.int .i64 o.s, .int .i64 (o.s + ls.length - 1 : Nat)] ty_Position) :: (qb, cel [.slice q ls.length c, .pointer none] ty_paraBuilder) :: (M ++ (SM ++ L)))) := h.re (by intro _; simp only [List.append_eq, cnt_append, cnt_cons, cnt_nil] <;> omega)
  refine enter_meth meth_newText ?_
  refine newText_ok h ht hts fun w p' TM' t hp' ht' h => ⟨_, rfl, ?_⟩
  refine ⟨hz.same h (.head _) (by simp) 2, ?_⟩
  refine Sat.bx h fun nb w h => ?_
  have h : Sat σ w (paraC nb o.s (o.s + ls.length - 1) t :: (p'.at b :: TM' ++ (textC t o.s (o.s + ls.length - 1) none 0 0 s :: ((zb, cel [.int .i64 o.s, .int .i64 (o.s + ls.length - 1 : Nat)] ty_Position) :: (qb, cel [.slice q ls.length c, .pointer none] ty_paraBuilder) :: (M ++ (SM ++ L)))))) := h
  refine hR w p' TM' t nb hp' ht' ?_
  have h := Sat.less (L' := p'.at b :: M ++ (TM' ++ (((qb, cel [.slice q ls.length c, .pointer none] ty_paraBuilder) :: SM) ++ (paraC nb o.s (o.s + ls.length - 1) t :: textC t o.s (o.s + ls.length - 1) none 0 0 s :: L)))) [(zb, cel [.int .i64 o.s, .int .i64 (o.s + ls.length - 1 : Nat)] ty_Position)] h (by intro _; simp only [List.append_eq, cnt_append, cnt_cons, cnt_nil] <;> omega)
  exact h
theorem closePara_ok {b qb : Nat} {p : PS} {ob : List OB} {par o : OB} {M TM PM IM : List Chunk} {inner : List Value} {ts : List Nat} {ls : List (List UInt8)} {s : List UInt8} (h : Sat σ w (p.at b :: M ++ (IM ++ (TM ++ (PM ++ L))))) (hs : Stk p (ob ++ [par] ++ [o]) M)
    (ho : o.bd = .iface ty_P_paraBuilder (.pointer (some ⟨qb, 0, none⟩))) (hI : Sl 1 ty_Block par.q par.n par.c inner IM) (hin : par.n < 1000000)
    (ht : Txts p ts TM) (hts : ts.length < 1048575) (hp : ParaAt qb ls PM) (hls : ls ≠ []) (hln : ls.length < 1048576) (hj : joinL [10] ls = s) (hl : s.length < 1073741824) (hne : s ≠ []) (hb : NoRef s) (hos : o.s < 1000000000)
    (hR : ∀ w p' M' IM' TM' t nb q' c' x, p' = { p with stn := ob.length + 1, tq := p'.tq, tn := ts.length + 1, tc := p'.tc } → Stk p' (ob ++ [{ par with q := q', n := par.n + 1, c := c' }]) M' → Txts p' (ts ++ [t]) TM' →
      Sl 1 ty_Block q' (par.n + 1) c' (inner ++ [.iface ty_P_Paragraph (.pointer (some ⟨nb, 0, none⟩))]) IM' →
      Sat σ w (p'.at b :: M' ++ (IM' ++ (TM' ++ (paraC nb o.s (o.s + ls.length - 1) t :: textC t o.s (o.s + ls.length - 1) none 0 0 s :: L)))) → R (.returned x) w) :
    callE P i_parseState_closeBlock #[.pointer (some ⟨b, 0, none⟩)] R w := by
  refine closeBlock_ok (ob := ob) (par := par) (IM := IM) (inner := inner) (fun p1 L1 tb q => ∃ TM' t nb, p1 = { p with tq := p1.tq, tn := ts.length + 1, tc := p1.tc } ∧ Txts p1 (ts ++ [t]) TM' ∧
      L1 = TM' ++ (PM ++ (paraC nb o.s (o.s + ls.length - 1) t :: textC t o.s (o.s + ls.length - 1) none 0 0 s :: L)) ∧ tb = ty_P_Paragraph ∧ q = some ⟨nb, 0, none⟩) h hs ho hI hin ?_ ?_
  · intro R' w h hk
    rw [ho]
    have h : Sat σ w (p.at b :: M ++ (TM ++ (PM ++ (IM ++ L)))) := h.re (by intro _; simp only [List.append_eq, cnt_append, cnt_cons, cnt_nil] <;> omega)
    refine enter_meth meth_paraBuild ?_
    refine paraBuild_ok (ob := ob ++ [par]) (o := o) (ts := ts) h hs ht hts hp hls hln hj hl hne hb hos fun w p' TM' t nb hp' ht' h => ?_
    exact hk w p' _ ty_P_Paragraph _ (by rw [hp']) (by rw [hp']) (by rw [hp']) (by decide) ⟨TM', t, nb, hp', ht', rfl, rfl, rfl⟩ (h.re (by intro _; simp only [List.append_eq, cnt_append, cnt_cons, cnt_nil] <;> omega))
  · intro w p2 M2 IM2 p1 L1 tb q q' c' hpost hp2 hs2 hI2 h
    obtain ⟨TM', t, nb, hp1, ht1, rfl, rfl, rfl⟩ := hpost
    refine hR w p2 M2 IM2 TM' t nb q' c' _ ?_ hs2 (ht1.of (by rw [hp2]) (by rw [hp2]) (by rw [hp2])) hI2 (h.less PM (by intro _; simp only [List.append_eq, cnt_append, cnt_cons, cnt_nil] <;> omega))
    rw [hp2, hp1]
end Go.Proofs.YtihmcipajjakgaaGreatDoor


set_option linter.unusedVariables false
set_option maxRecDepth 20000
namespace Go.Proofs.YtihmcipajjakgaaGreatDoor
open Go.Proofs
namespace g_parseState_emph
noncomputable def body : Code := bodyOf Tryz.f57
def k4 (R : EP) (Xa : OA → Nat → Nat → Nat → Nat → Value → Value → Int → WP) (x2q : OA) (x2n : Nat) (x2c : Nat) (x4 : Nat) (x7 : Nat) (x8 : Value) (x9 : Value) (x10 : Int) (x13 : OA) (x21 : OA) (w : World) : Prop :=
 nilP x13 fun a147 =>
 ∃ (v148 : Bool), w.cell? (a147.add 1) = some (.bool v148) ∧
 br v148
 (∃ (v149q : OA), ∃ (v149n : Nat), ∃ (v149c : Nat), w.cell? ⟨x4, 0, none⟩ = some (.slice v149q v149n v149c) ∧
 nilP x13 fun a150 =>
 stV w ((a150.add 3).add 0) (.int .i64 (v149n : Int)) fun w151 =>
 ∃ (v152q : OA), ∃ (v152n : Nat), ∃ (v152c : Nat), w151.cell? ⟨x4, 0, none⟩ = some (.slice v152q v152n v152c) ∧
 ∃ (r153q : OA), ∃ (r153n : Nat), ∃ (r153c : Nat), ∃ w154, (Instr.buildSlice ty_S_Inline 1 #[(0, .iface ty_P_emphPlain (.pointer x13))]).run P w151 = .ok (.slice r153q r153n r153c) w154 ∧
 ∃ (r155q : OA), ∃ (r155n : Nat), ∃ (r155c : Nat), ∃ w156, (Builtin.append_ #[ty_S_Inline, ty_S_Inline] ty_S_Inline #[.slice v152q v152n v152c, .slice r153q r153n r153c]).run P w154 = .ok (.slice r155q r155n r155c) w156 ∧
 stV w156 ⟨x4, 0, none⟩ (.slice r155q r155n r155c) fun w157 =>
 nilP x21 fun a158 =>
 ∃ (v159q : OA), ∃ (v159n : Nat), ∃ (v159c : Nat), w157.cell? a158 = some (.slice v159q v159n v159c) ∧
 ∃ (r160q : OA), ∃ (r160n : Nat), ∃ (r160c : Nat), ∃ w161, (Instr.buildSlice ty_S_P_emphPlain 1 #[(0, .pointer x13)]).run P w157 = .ok (.slice r160q r160n r160c) w161 ∧
 ∃ (r162q : OA), ∃ (r162n : Nat), ∃ (r162c : Nat), ∃ w163, (Builtin.append_ #[ty_S_P_emphPlain, ty_S_P_emphPlain] ty_S_P_emphPlain #[.slice v159q v159n v159c, .slice r160q r160n r160c]).run P w161 = .ok (.slice r162q r162n r162c) w163 ∧
 nilP x21 fun a164 =>
 stV w163 (a164.add 0) (.slice r162q r162n r162c) fun w165 =>
 Xa x2q x2n x2c x4 x7 x8 x9 (IntKind.i64.wrap (x10 + 1)) w165)
 (tk w fun w166 =>
 nilP x13 fun a167 =>
 ∃ (v168q : OA), ∃ (v168n : Nat), ∃ (v168c : Nat), w166.cell? ⟨x4, 0, none⟩ = some (.slice v168q v168n v168c) ∧
 ∃ (r169q : OA), ∃ (r169n : Nat), ∃ (r169c : Nat), ∃ w170, (Instr.buildSlice ty_S_Inline 1 #[(0, .iface ty_P_Plain (.pointer (some a167)))]).run P w166 = .ok (.slice r169q r169n r169c) w170 ∧
 SameC w166 w170 ⟨x4, 0, none⟩ 1 ∧
 ∃ (r171q : OA), ∃ (r171n : Nat), ∃ (r171c : Nat), ∃ w172, (Builtin.append_ #[ty_S_Inline, ty_S_Inline] ty_S_Inline #[.slice v168q v168n v168c, .slice r169q r169n r169c]).run P w170 = .ok (.slice r171q r171n r171c) w172 ∧
 stV w172 ⟨x4, 0, none⟩ (.slice r171q r171n r171c) fun w173 =>
 Xa x2q x2n x2c x4 x7 x8 x9 (IntKind.i64.wrap (x10 + 1)) w173)

def k7 (R : EP) (Xa : OA → Nat → Nat → Nat → Nat → Value → Value → Int → WP) (Xb : OA → Nat → Nat → Nat → Nat → Value → Value → Int → OA → OA → WP) (Xc : OA → Nat → Nat → Nat → Nat → Value → Value → Int → OA → OA → Int → WP) (x2q : OA) (x2n : Nat) (x2c : Nat) (x4 : Nat) (x7 : Nat) (x8 : Value) (x9 : Value) (x10 : Int) (x13 : OA) (x15 : OA) (x18 : Int) (x19 : Bool) (x20 : OA) (w : World) : Prop :=
 enterE P (do let d ← Deferred.ofValue x9 #[]; invoke d.target d.args) (fun e w267 => e = .returned (.tuple #[]) ∧
 br x19
 (∃ (v268q : OA), ∃ (v268n : Nat), ∃ (v268c : Nat), w267.cell? ⟨x4, 0, none⟩ = some (.slice v268q v268n v268c) ∧
 ∃ (r269q : OA), ∃ (r269n : Nat), ∃ (r269c : Nat), ∃ w270, (Instr.buildSlice ty_S_Inline 1 #[(0, .iface ty_P_Del (.pointer x20))]).run P w267 = .ok (.slice r269q r269n r269c) w270 ∧
 ∃ (r271q : OA), ∃ (r271n : Nat), ∃ (r271c : Nat), ∃ w272, (Builtin.append_ #[ty_S_Inline, ty_S_Inline] ty_S_Inline #[.slice v268q v268n v268c, .slice r269q r269n r269c]).run P w270 = .ok (.slice r271q r271n r271c) w272 ∧
 stV w272 ⟨x4, 0, none⟩ (.slice r271q r271n r271c) fun w273 =>
 Xb x2q x2n x2c x4 x7 x8 x9 x10 x13 x15 w273)
 (br (x18 == 2)
 (∃ (v274q : OA), ∃ (v274n : Nat), ∃ (v274c : Nat), w267.cell? ⟨x4, 0, none⟩ = some (.slice v274q v274n v274c) ∧
 ∃ (r275q : OA), ∃ (r275n : Nat), ∃ (r275c : Nat), ∃ w276, (Instr.buildSlice ty_S_Inline 1 #[(0, .iface ty_P_Strong (.pointer x20))]).run P w267 = .ok (.slice r275q r275n r275c) w276 ∧
 ∃ (r277q : OA), ∃ (r277n : Nat), ∃ (r277c : Nat), ∃ w278, (Builtin.append_ #[ty_S_Inline, ty_S_Inline] ty_S_Inline #[.slice v274q v274n v274c, .slice r275q r275n r275c]).run P w276 = .ok (.slice r277q r277n r277c) w278 ∧
 stV w278 ⟨x4, 0, none⟩ (.slice r277q r277n r277c) fun w279 =>
 Xb x2q x2n x2c x4 x7 x8 x9 x10 x13 x15 w279)
 (∃ (v280q : OA), ∃ (v280n : Nat), ∃ (v280c : Nat), w267.cell? ⟨x4, 0, none⟩ = some (.slice v280q v280n v280c) ∧
 ∃ (r281q : OA), ∃ (r281n : Nat), ∃ (r281c : Nat), ∃ w282, (Instr.buildSlice ty_S_Inline 1 #[(0, .iface ty_P_Emph (.pointer x20))]).run P w267 = .ok (.slice r281q r281n r281c) w282 ∧
 ∃ (r283q : OA), ∃ (r283n : Nat), ∃ (r283c : Nat), ∃ w284, (Builtin.append_ #[ty_S_Inline, ty_S_Inline] ty_S_Inline #[.slice v280q v280n v280c, .slice r281q r281n r281c]).run P w282 = .ok (.slice r283q r283n r283c) w284 ∧
 stV w284 ⟨x4, 0, none⟩ (.slice r283q r283n r283c) fun w285 =>
 Xb x2q x2n x2c x4 x7 x8 x9 x10 x13 x15 w285))) w

def k2 (R : EP) (Xa : OA → Nat → Nat → Nat → Nat → Value → Value → Int → WP) (x2q : OA) (x2n : Nat) (x2c : Nat) (x4 : Nat) (x7 : Nat) (x8 : Value) (x9 : Value) (x10 : Int) (x13 : OA) (x21 : OA) (w : World) : Prop :=
 nilP x13 fun a132 =>
 ∃ (v133 : BA), w.cell? a132 = some (.string v133) ∧
 br (v133.toList == (ByteArray.mk #[34]).toList)
 (nilP x13 fun a134 =>
 ∃ (v135 : Bool), w.cell? (a134.add 2) = some (.bool v135) ∧
 br v135
 (nilP x13 fun a136 =>
 stV w (a136.add 0) (.string (ByteArray.mk #[226, 128, 157])) fun w137 =>
 k4 R Xa x2q x2n x2c x4 x7 x8 x9 x10 x13 x21 w137)
 (nilP x13 fun a138 =>
 stV w (a138.add 0) (.string (ByteArray.mk #[226, 128, 156])) fun w139 =>
 k4 R Xa x2q x2n x2c x4 x7 x8 x9 x10 x13 x21 w139))
 (k4 R Xa x2q x2n x2c x4 x7 x8 x9 x10 x13 x21 w)

def k6 (R : EP) (Xa : OA → Nat → Nat → Nat → Nat → Value → Value → Int → WP) (Xb : OA → Nat → Nat → Nat → Nat → Value → Value → Int → OA → OA → WP) (Xc : OA → Nat → Nat → Nat → Nat → Value → Value → Int → OA → OA → Int → WP) (x2q : OA) (x2n : Nat) (x2c : Nat) (x4 : Nat) (x7 : Nat) (x8 : Value) (x9 : Value) (x10 : Int) (x13 : OA) (x15 : OA) (x17 : OA) (x18 : Int) (w : World) : Prop :=
 nilP x13 fun a228 =>
 ∃ (v229 : BA), w.cell? a228 = some (.string v229) ∧
 0 ≤ (0 : Int) ∧ 0 < (v229.size : Int) ∧
 tk w fun w230 =>
 nilP x13 fun a231 =>
 nilP x17 fun a232 =>
 ∃ (v233 : BA), w230.cell? a231 = some (.string v233) ∧
 0 ≤ x18 ∧ x18 ≤ (v233.size : Int) ∧
 ∃ (v234q : OA), ∃ (v234n : Nat), ∃ (v234c : Nat), w230.cell? ⟨x4, 0, none⟩ = some (.slice v234q v234n v234c) ∧
 ∃ (v235 : Int), w230.cell? (a232.add 3) = some (.int .i64 v235) ∧
 ∃ (r236q : OA), ∃ (r236n : Nat), ∃ (r236c : Nat), (∀ w, (Instr.sliceAt ty_S_Inline (.slice v234q v234n v234c) (some (.int .i64 (IntKind.i64.wrap (v235 + 1)))) none none).run P w = .ok (.slice r236q r236n r236c) w) ∧
 ∃ (r237q : OA), ∃ (r237n : Nat), ∃ (r237c : Nat), ∃ w238, (Builtin.append_ #[ty_S_Inline, ty_S_Inline] ty_S_Inline #[.slice none 0 0, .slice r236q r236n r236c]).run P w230 = .ok (.slice r237q r237n r237c) w238 ∧
 SameC w230 w238 (a231) 1 ∧
 box w238 #[.string (v233.extract 0 (Int.toNat x18)), .slice r237q r237n r237c] ty_Emph fun b239 w240 =>
 tk w240 fun w241 =>
 nilP x17 fun a242 =>
 nilP x17 fun a243 =>
 ∃ (v244 : BA), w241.cell? a242 = some (.string v244) ∧
 ∃ (v245 : BA), w241.cell? a243 = some (.string v245) ∧
 0 ≤ (IntKind.i64.wrap ((v245.size : Int) - x18)) ∧ (IntKind.i64.wrap ((v245.size : Int) - x18)) ≤ (v244.size : Int) ∧
 nilP x17 fun a246 =>
 stV w241 (a246.add 0) (.string (v244.extract 0 (Int.toNat (IntKind.i64.wrap ((v245.size : Int) - x18))))) fun w247 =>
 nilP x13 fun a248 =>
 ∃ (v249 : BA), w247.cell? a248 = some (.string v249) ∧
 0 ≤ x18 ∧ x18 ≤ (v249.size : Int) ∧
 nilP x13 fun a250 =>
 stV w247 (a250.add 0) (.string (v249.extract (Int.toNat x18) v249.size)) fun w251 =>
 nilP x17 fun a252 =>
 ∃ (v253 : BA), w251.cell? a252 = some (.string v253) ∧
 br (v253.toList == (ByteArray.mk #[]).toList)
 (tk w251 fun w254 =>
 nilP x17 fun a255 =>
 ∃ (v256q : OA), ∃ (v256n : Nat), ∃ (v256c : Nat), w254.cell? ⟨x4, 0, none⟩ = some (.slice v256q v256n v256c) ∧
 ∃ (v257 : Int), w254.cell? (a255.add 3) = some (.int .i64 v257) ∧
 ∃ (r258q : OA), ∃ (r258n : Nat), ∃ (r258c : Nat), (∀ w, (Instr.sliceAt ty_S_Inline (.slice v256q v256n v256c) none (some (.int .i64 v257)) none).run P w = .ok (.slice r258q r258n r258c) w) ∧
 stV w254 ⟨x4, 0, none⟩ (.slice r258q r258n r258c) fun w259 =>
 k7 R Xa Xb Xc x2q x2n x2c x4 x7 x8 x9 x10 x13 x15 x18 ((bt v229 0) == 126) (some ⟨b239, 0, none⟩) w259)
 (tk w251 fun w260 =>
 nilP x17 fun a261 =>
 ∃ (v262q : OA), ∃ (v262n : Nat), ∃ (v262c : Nat), w260.cell? ⟨x4, 0, none⟩ = some (.slice v262q v262n v262c) ∧
 ∃ (v263 : Int), w260.cell? (a261.add 3) = some (.int .i64 v263) ∧
 ∃ (r264q : OA), ∃ (r264n : Nat), ∃ (r264c : Nat), (∀ w, (Instr.sliceAt ty_S_Inline (.slice v262q v262n v262c) none (some (.int .i64 (IntKind.i64.wrap (v263 + 1)))) none).run P w = .ok (.slice r264q r264n r264c) w) ∧
 stV w260 ⟨x4, 0, none⟩ (.slice r264q r264n r264c) fun w265 =>
 k7 R Xa Xb Xc x2q x2n x2c x4 x7 x8 x9 x10 x13 x15 x18 ((bt v229 0) == 126) (some ⟨b239, 0, none⟩) w265)

def k1 (R : EP) (Xa : OA → Nat → Nat → Nat → Nat → Value → Value → Int → WP) (x2q : OA) (x2n : Nat) (x2c : Nat) (x4 : Nat) (x7 : Nat) (x8 : Value) (x9 : Value) (x10 : Int) (x13 : OA) (w : World) : Prop :=
 nilP x13 fun a41 =>
 ∃ (v42 : BA), w.cell? a41 = some (.string v42) ∧
 br (!(v42.toList == (ByteArray.mk #[]).toList))
 (nilP x13 fun a43 =>
 ∃ (v44 : BA), w.cell? a43 = some (.string v44) ∧
 0 ≤ (0 : Int) ∧ 0 < (v44.size : Int) ∧
 enterE P (do let d ← Deferred.ofValue x8 #[.int .u8 (bt v44 0)]; invoke d.target d.args) (fun e w46 => ∃ (r45 : Int), e = .returned (.int .i64 r45) ∧
 0 ≤ r45 ∧ r45 < (5 : Int) ∧
 nilP x13 fun a47 =>
 ∃ (v48 : BA), w46.cell? a47 = some (.string v48) ∧
 br (v48.toList == (ByteArray.mk #[39]).toList)
 (nilP x13 fun a49 =>
 stV w46 (a49.add 0) (.string (ByteArray.mk #[226, 128, 153])) fun w50 =>
 k2 R Xa x2q x2n x2c x4 x7 x8 x9 x10 x13 (some ((⟨x7, 0, none⟩ : Addr).add (Int.toNat r45 * 1))) w50)
 (k2 R Xa x2q x2n x2c x4 x7 x8 x9 x10 x13 (some ((⟨x7, 0, none⟩ : Addr).add (Int.toNat r45 * 1))) w46)) w)
 (Xa x2q x2n x2c x4 x7 x8 x9 (IntKind.i64.wrap (x10 + 1)) w)

def k5 (R : EP) (Xa : OA → Nat → Nat → Nat → Nat → Value → Value → Int → WP) (Xb : OA → Nat → Nat → Nat → Nat → Value → Value → Int → OA → OA → WP) (Xc : OA → Nat → Nat → Nat → Nat → Value → Value → Int → OA → OA → Int → WP) (x2q : OA) (x2n : Nat) (x2c : Nat) (x4 : Nat) (x7 : Nat) (x8 : Value) (x9 : Value) (x10 : Int) (x13 : OA) (x15 : OA) (x16 : Int) (x17 : OA) (w : World) : Prop :=
 nilP x13 fun a174 =>
 ∃ (v175 : BA), w.cell? a174 = some (.string v175) ∧
 0 ≤ (0 : Int) ∧ 0 < (v175.size : Int) ∧
 br ((bt v175 0) == 34)
 (tk w fun w176 =>
 nilP x17 fun a177 =>
 ∃ (v178q : OA), ∃ (v178n : Nat), ∃ (v178c : Nat), w176.cell? ⟨x4, 0, none⟩ = some (.slice v178q v178n v178c) ∧
 ∃ (v179 : Int), w176.cell? (a177.add 3) = some (.int .i64 v179) ∧
 0 ≤ v179 ∧ v179 < (v178n : Int) ∧
 nilP v178q fun a180 =>
 ∃ (v181 : Value), w176.cell? (a180.add (Int.toNat v179 * 1)) = some v181 ∧
 ∃ (r182 : OA), (∀ w, (Instr.typeAssert v181 ty_Inline ty_P_emphPlain false).run P w = .ok (.pointer r182) w) ∧
 nilP r182 fun a183 =>
 stV w176 (a183.add 0) (.string (ByteArray.mk #[226, 128, 156])) fun w184 =>
 nilP x13 fun a185 =>
 stV w184 (a185.add 0) (.string (ByteArray.mk #[226, 128, 157])) fun w186 =>
 ∃ (v187q : OA), ∃ (v187n : Nat), ∃ (v187c : Nat), w186.cell? ⟨x4, 0, none⟩ = some (.slice v187q v187n v187c) ∧
 ∃ (r188q : OA), ∃ (r188n : Nat), ∃ (r188c : Nat), ∃ w189, (Instr.buildSlice ty_S_Inline 1 #[(0, .iface ty_P_emphPlain (.pointer x13))]).run P w186 = .ok (.slice r188q r188n r188c) w189 ∧
 ∃ (r190q : OA), ∃ (r190n : Nat), ∃ (r190c : Nat), ∃ w191, (Builtin.append_ #[ty_S_Inline, ty_S_Inline] ty_S_Inline #[.slice v187q v187n v187c, .slice r188q r188n r188c]).run P w189 = .ok (.slice r190q r190n r190c) w191 ∧
 stV w191 ⟨x4, 0, none⟩ (.slice r190q r190n r190c) fun w192 =>
 nilP x15 fun a193 =>
 ∃ (v194q : OA), ∃ (v194n : Nat), ∃ (v194c : Nat), w192.cell? a193 = some (.slice v194q v194n v194c) ∧
 ∃ (r195q : OA), ∃ (r195n : Nat), ∃ (r195c : Nat), ∃ w196, (Instr.sliceAt ty_S_P_emphPlain (.slice v194q v194n v194c) none (some (.int .i64 x16)) none).run P w192 = .ok (.slice r195q r195n r195c) w196 ∧
 nilP x15 fun a197 =>
 stV w196 (a197.add 0) (.slice r195q r195n r195c) fun w198 =>
 Xa x2q x2n x2c x4 x7 x8 x9 (IntKind.i64.wrap (x10 + 1)) w198)
 (nilP x13 fun a199 =>
 ∃ (v200 : BA), w.cell? a199 = some (.string v200) ∧
 0 ≤ (0 : Int) ∧ 0 < (v200.size : Int) ∧
 br ((bt v200 0) == 39)
 (tk w fun w201 =>
 nilP x17 fun a202 =>
 ∃ (v203q : OA), ∃ (v203n : Nat), ∃ (v203c : Nat), w201.cell? ⟨x4, 0, none⟩ = some (.slice v203q v203n v203c) ∧
 ∃ (v204 : Int), w201.cell? (a202.add 3) = some (.int .i64 v204) ∧
 0 ≤ v204 ∧ v204 < (v203n : Int) ∧
 nilP v203q fun a205 =>
 ∃ (v206 : Value), w201.cell? (a205.add (Int.toNat v204 * 1)) = some v206 ∧
 ∃ (r207 : OA), (∀ w, (Instr.typeAssert v206 ty_Inline ty_P_emphPlain false).run P w = .ok (.pointer r207) w) ∧
 nilP r207 fun a208 =>
 stV w201 (a208.add 0) (.string (ByteArray.mk #[226, 128, 152])) fun w209 =>
 nilP x13 fun a210 =>
 stV w209 (a210.add 0) (.string (ByteArray.mk #[226, 128, 153])) fun w211 =>
 ∃ (v212q : OA), ∃ (v212n : Nat), ∃ (v212c : Nat), w211.cell? ⟨x4, 0, none⟩ = some (.slice v212q v212n v212c) ∧
 ∃ (r213q : OA), ∃ (r213n : Nat), ∃ (r213c : Nat), ∃ w214, (Instr.buildSlice ty_S_Inline 1 #[(0, .iface ty_P_emphPlain (.pointer x13))]).run P w211 = .ok (.slice r213q r213n r213c) w214 ∧
 ∃ (r215q : OA), ∃ (r215n : Nat), ∃ (r215c : Nat), ∃ w216, (Builtin.append_ #[ty_S_Inline, ty_S_Inline] ty_S_Inline #[.slice v212q v212n v212c, .slice r213q r213n r213c]).run P w214 = .ok (.slice r215q r215n r215c) w216 ∧
 stV w216 ⟨x4, 0, none⟩ (.slice r215q r215n r215c) fun w217 =>
 nilP x15 fun a218 =>
 ∃ (v219q : OA), ∃ (v219n : Nat), ∃ (v219c : Nat), w217.cell? a218 = some (.slice v219q v219n v219c) ∧
 ∃ (r220q : OA), ∃ (r220n : Nat), ∃ (r220c : Nat), ∃ w221, (Instr.sliceAt ty_S_P_emphPlain (.slice v219q v219n v219c) none (some (.int .i64 x16)) none).run P w217 = .ok (.slice r220q r220n r220c) w221 ∧
 nilP x15 fun a222 =>
 stV w221 (a222.add 0) (.slice r220q r220n r220c) fun w223 =>
 Xa x2q x2n x2c x4 x7 x8 x9 (IntKind.i64.wrap (x10 + 1)) w223)
 (nilP x13 fun a224 =>
 ∃ (v225 : BA), w.cell? a224 = some (.string v225) ∧
 br (decide ((v225.size : Int) ≥ 2))
 (nilP x17 fun a226 =>
 ∃ (v227 : BA), w.cell? a226 = some (.string v227) ∧
 br (decide ((v227.size : Int) ≥ 2))
 (k6 R Xa Xb Xc x2q x2n x2c x4 x7 x8 x9 x10 x13 x15 x17 2 w)
 (k6 R Xa Xb Xc x2q x2n x2c x4 x7 x8 x9 x10 x13 x15 x17 1 w))
 (k6 R Xa Xb Xc x2q x2n x2c x4 x7 x8 x9 x10 x13 x15 x17 1 w)))

def k3 (R : EP) (Xa : OA → Nat → Nat → Nat → Nat → Value → Value → Int → WP) (Xb : OA → Nat → Nat → Nat → Nat → Value → Value → Int → OA → OA → WP) (Xc : OA → Nat → Nat → Nat → Nat → Value → Value → Int → OA → OA → Int → WP) (x2q : OA) (x2n : Nat) (x2c : Nat) (x4 : Nat) (x7 : Nat) (x8 : Value) (x9 : Value) (x10 : Int) (x13 : OA) (x15 : OA) (x16 : Int) (x17 : OA) (w : World) : Prop :=
 tk w fun w140 =>
 nilP x13 fun a141 =>
 ∃ (v142 : BA), w140.cell? a141 = some (.string v142) ∧
 0 ≤ (0 : Int) ∧ 0 < (v142.size : Int) ∧
 br ((bt v142 0) == 126)
 (nilP x13 fun a143 =>
 nilP x17 fun a144 =>
 ∃ (v145 : BA), w140.cell? a143 = some (.string v145) ∧
 ∃ (v146 : BA), w140.cell? a144 = some (.string v146) ∧
 br ((v145.size : Int) != (v146.size : Int))
 (Xc x2q x2n x2c x4 x7 x8 x9 x10 x13 x15 (IntKind.i64.wrap (x16 - 1)) w140)
 (k5 R Xa Xb Xc x2q x2n x2c x4 x7 x8 x9 x10 x13 x15 x16 x17 w140))
 (k5 R Xa Xb Xc x2q x2n x2c x4 x7 x8 x9 x10 x13 x15 x16 x17 w140)

def bl3 (R : EP) (Xa : OA → Nat → Nat → Nat → Nat → Value → Value → Int → WP) (Xb : OA → Nat → Nat → Nat → Nat → Value → Value → Int → OA → OA → WP) (Xc : OA → Nat → Nat → Nat → Nat → Value → Value → Int → OA → OA → Int → WP) (x2q : OA) (x2n : Nat) (x2c : Nat) (x4 : Nat) (x7 : Nat) (x8 : Value) (x9 : Value) (x10 : Int) (x13 : OA) (x15 : OA) (x16 : Int) (w : World) : Prop :=
 br (decide (x16 ≥ 0))
 (nilP x15 fun a51 =>
 ∃ (v52q : OA), ∃ (v52n : Nat), ∃ (v52c : Nat), w.cell? a51 = some (.slice v52q v52n v52c) ∧
 0 ≤ x16 ∧ x16 < (v52n : Int) ∧
 nilP v52q fun a53 =>
 ∃ (v54 : OA), w.cell? (a53.add (Int.toNat x16 * 1)) = some (.pointer v54) ∧
 tk w fun w55 =>
 nilP x13 fun a56 =>
 ∃ (v57 : BA), w55.cell? a56 = some (.string v57) ∧
 0 ≤ (0 : Int) ∧ 0 < (v57.size : Int) ∧
 br ((bt v57 0) == 42)
 (nilP x13 fun a58 =>
 ∃ (v59 : Bool), w55.cell? (a58.add 1) = some (.bool v59) ∧
 br v59
 (nilP x13 fun a60 =>
 ∃ (v61 : Bool), w55.cell? (a60.add 2) = some (.bool v61) ∧
 br v61
 (nilP x13 fun a62 =>
 nilP v54 fun a63 =>
 ∃ (v64 : Int), w55.cell? (a62.add 4) = some (.int .i64 v64) ∧
 ∃ (v65 : Int), w55.cell? (a63.add 4) = some (.int .i64 v65) ∧
 (3 : Int) ≠ 0 ∧
 br ((Int.tmod (IntKind.i64.wrap (v64 + v65)) 3) == 0)
 (nilP x13 fun a66 =>
 ∃ (v67 : Int), w55.cell? (a66.add 4) = some (.int .i64 v67) ∧
 (3 : Int) ≠ 0 ∧
 br ((Int.tmod v67 3) != 0)
 (Xc x2q x2n x2c x4 x7 x8 x9 x10 x13 x15 (IntKind.i64.wrap (x16 - 1)) w55)
 (nilP v54 fun a68 =>
 ∃ (v69 : Int), w55.cell? (a68.add 4) = some (.int .i64 v69) ∧
 (3 : Int) ≠ 0 ∧
 br ((Int.tmod v69 3) != 0)
 (Xc x2q x2n x2c x4 x7 x8 x9 x10 x13 x15 (IntKind.i64.wrap (x16 - 1)) w55)
 (k3 R Xa Xb Xc x2q x2n x2c x4 x7 x8 x9 x10 x13 x15 x16 v54 w55)))
 (k3 R Xa Xb Xc x2q x2n x2c x4 x7 x8 x9 x10 x13 x15 x16 v54 w55))
 (nilP v54 fun a70 =>
 ∃ (v71 : Bool), w55.cell? (a70.add 1) = some (.bool v71) ∧
 br v71
 (nilP v54 fun a72 =>
 ∃ (v73 : Bool), w55.cell? (a72.add 2) = some (.bool v73) ∧
 br v73
 (nilP x13 fun a74 =>
 nilP v54 fun a75 =>
 ∃ (v76 : Int), w55.cell? (a74.add 4) = some (.int .i64 v76) ∧
 ∃ (v77 : Int), w55.cell? (a75.add 4) = some (.int .i64 v77) ∧
 (3 : Int) ≠ 0 ∧
 br ((Int.tmod (IntKind.i64.wrap (v76 + v77)) 3) == 0)
 (nilP x13 fun a78 =>
 ∃ (v79 : Int), w55.cell? (a78.add 4) = some (.int .i64 v79) ∧
 (3 : Int) ≠ 0 ∧
 br ((Int.tmod v79 3) != 0)
 (Xc x2q x2n x2c x4 x7 x8 x9 x10 x13 x15 (IntKind.i64.wrap (x16 - 1)) w55)
 (nilP v54 fun a80 =>
 ∃ (v81 : Int), w55.cell? (a80.add 4) = some (.int .i64 v81) ∧
 (3 : Int) ≠ 0 ∧
 br ((Int.tmod v81 3) != 0)
 (Xc x2q x2n x2c x4 x7 x8 x9 x10 x13 x15 (IntKind.i64.wrap (x16 - 1)) w55)
 (k3 R Xa Xb Xc x2q x2n x2c x4 x7 x8 x9 x10 x13 x15 x16 v54 w55)))
 (k3 R Xa Xb Xc x2q x2n x2c x4 x7 x8 x9 x10 x13 x15 x16 v54 w55))
 (k3 R Xa Xb Xc x2q x2n x2c x4 x7 x8 x9 x10 x13 x15 x16 v54 w55))
 (k3 R Xa Xb Xc x2q x2n x2c x4 x7 x8 x9 x10 x13 x15 x16 v54 w55)))
 (nilP v54 fun a82 =>
 ∃ (v83 : Bool), w55.cell? (a82.add 1) = some (.bool v83) ∧
 br v83
 (nilP v54 fun a84 =>
 ∃ (v85 : Bool), w55.cell? (a84.add 2) = some (.bool v85) ∧
 br v85
 (nilP x13 fun a86 =>
 nilP v54 fun a87 =>
 ∃ (v88 : Int), w55.cell? (a86.add 4) = some (.int .i64 v88) ∧
 ∃ (v89 : Int), w55.cell? (a87.add 4) = some (.int .i64 v89) ∧
 (3 : Int) ≠ 0 ∧
 br ((Int.tmod (IntKind.i64.wrap (v88 + v89)) 3) == 0)
 (nilP x13 fun a90 =>
 ∃ (v91 : Int), w55.cell? (a90.add 4) = some (.int .i64 v91) ∧
 (3 : Int) ≠ 0 ∧
 br ((Int.tmod v91 3) != 0)
 (Xc x2q x2n x2c x4 x7 x8 x9 x10 x13 x15 (IntKind.i64.wrap (x16 - 1)) w55)
 (nilP v54 fun a92 =>
 ∃ (v93 : Int), w55.cell? (a92.add 4) = some (.int .i64 v93) ∧
 (3 : Int) ≠ 0 ∧
 br ((Int.tmod v93 3) != 0)
 (Xc x2q x2n x2c x4 x7 x8 x9 x10 x13 x15 (IntKind.i64.wrap (x16 - 1)) w55)
 (k3 R Xa Xb Xc x2q x2n x2c x4 x7 x8 x9 x10 x13 x15 x16 v54 w55)))
 (k3 R Xa Xb Xc x2q x2n x2c x4 x7 x8 x9 x10 x13 x15 x16 v54 w55))
 (k3 R Xa Xb Xc x2q x2n x2c x4 x7 x8 x9 x10 x13 x15 x16 v54 w55))
 (k3 R Xa Xb Xc x2q x2n x2c x4 x7 x8 x9 x10 x13 x15 x16 v54 w55)))
 (nilP x13 fun a94 =>
 ∃ (v95 : BA), w55.cell? a94 = some (.string v95) ∧
 0 ≤ (0 : Int) ∧ 0 < (v95.size : Int) ∧
 br ((bt v95 0) == 95)
 (nilP x13 fun a96 =>
 ∃ (v97 : Bool), w55.cell? (a96.add 1) = some (.bool v97) ∧
 br v97
 (nilP x13 fun a98 =>
 ∃ (v99 : Bool), w55.cell? (a98.add 2) = some (.bool v99) ∧
 br v99
 (nilP x13 fun a100 =>
 nilP v54 fun a101 =>
 ∃ (v102 : Int), w55.cell? (a100.add 4) = some (.int .i64 v102) ∧
 ∃ (v103 : Int), w55.cell? (a101.add 4) = some (.int .i64 v103) ∧
 (3 : Int) ≠ 0 ∧
 br ((Int.tmod (IntKind.i64.wrap (v102 + v103)) 3) == 0)
 (nilP x13 fun a104 =>
 ∃ (v105 : Int), w55.cell? (a104.add 4) = some (.int .i64 v105) ∧
 (3 : Int) ≠ 0 ∧
 br ((Int.tmod v105 3) != 0)
 (Xc x2q x2n x2c x4 x7 x8 x9 x10 x13 x15 (IntKind.i64.wrap (x16 - 1)) w55)
 (nilP v54 fun a106 =>
 ∃ (v107 : Int), w55.cell? (a106.add 4) = some (.int .i64 v107) ∧
 (3 : Int) ≠ 0 ∧
 br ((Int.tmod v107 3) != 0)
 (Xc x2q x2n x2c x4 x7 x8 x9 x10 x13 x15 (IntKind.i64.wrap (x16 - 1)) w55)
 (k3 R Xa Xb Xc x2q x2n x2c x4 x7 x8 x9 x10 x13 x15 x16 v54 w55)))
 (k3 R Xa Xb Xc x2q x2n x2c x4 x7 x8 x9 x10 x13 x15 x16 v54 w55))
 (nilP v54 fun a108 =>
 ∃ (v109 : Bool), w55.cell? (a108.add 1) = some (.bool v109) ∧
 br v109
 (nilP v54 fun a110 =>
 ∃ (v111 : Bool), w55.cell? (a110.add 2) = some (.bool v111) ∧
 br v111
 (nilP x13 fun a112 =>
 nilP v54 fun a113 =>
 ∃ (v114 : Int), w55.cell? (a112.add 4) = some (.int .i64 v114) ∧
 ∃ (v115 : Int), w55.cell? (a113.add 4) = some (.int .i64 v115) ∧
 (3 : Int) ≠ 0 ∧
 br ((Int.tmod (IntKind.i64.wrap (v114 + v115)) 3) == 0)
 (nilP x13 fun a116 =>
 ∃ (v117 : Int), w55.cell? (a116.add 4) = some (.int .i64 v117) ∧
 (3 : Int) ≠ 0 ∧
 br ((Int.tmod v117 3) != 0)
 (Xc x2q x2n x2c x4 x7 x8 x9 x10 x13 x15 (IntKind.i64.wrap (x16 - 1)) w55)
 (nilP v54 fun a118 =>
 ∃ (v119 : Int), w55.cell? (a118.add 4) = some (.int .i64 v119) ∧
 (3 : Int) ≠ 0 ∧
 br ((Int.tmod v119 3) != 0)
 (Xc x2q x2n x2c x4 x7 x8 x9 x10 x13 x15 (IntKind.i64.wrap (x16 - 1)) w55)
 (k3 R Xa Xb Xc x2q x2n x2c x4 x7 x8 x9 x10 x13 x15 x16 v54 w55)))
 (k3 R Xa Xb Xc x2q x2n x2c x4 x7 x8 x9 x10 x13 x15 x16 v54 w55))
 (k3 R Xa Xb Xc x2q x2n x2c x4 x7 x8 x9 x10 x13 x15 x16 v54 w55))
 (k3 R Xa Xb Xc x2q x2n x2c x4 x7 x8 x9 x10 x13 x15 x16 v54 w55)))
 (nilP v54 fun a120 =>
 ∃ (v121 : Bool), w55.cell? (a120.add 1) = some (.bool v121) ∧
 br v121
 (nilP v54 fun a122 =>
 ∃ (v123 : Bool), w55.cell? (a122.add 2) = some (.bool v123) ∧
 br v123
 (nilP x13 fun a124 =>
 nilP v54 fun a125 =>
 ∃ (v126 : Int), w55.cell? (a124.add 4) = some (.int .i64 v126) ∧
 ∃ (v127 : Int), w55.cell? (a125.add 4) = some (.int .i64 v127) ∧
 (3 : Int) ≠ 0 ∧
 br ((Int.tmod (IntKind.i64.wrap (v126 + v127)) 3) == 0)
 (nilP x13 fun a128 =>
 ∃ (v129 : Int), w55.cell? (a128.add 4) = some (.int .i64 v129) ∧
 (3 : Int) ≠ 0 ∧
 br ((Int.tmod v129 3) != 0)
 (Xc x2q x2n x2c x4 x7 x8 x9 x10 x13 x15 (IntKind.i64.wrap (x16 - 1)) w55)
 (nilP v54 fun a130 =>
 ∃ (v131 : Int), w55.cell? (a130.add 4) = some (.int .i64 v131) ∧
 (3 : Int) ≠ 0 ∧
 br ((Int.tmod v131 3) != 0)
 (Xc x2q x2n x2c x4 x7 x8 x9 x10 x13 x15 (IntKind.i64.wrap (x16 - 1)) w55)
 (k3 R Xa Xb Xc x2q x2n x2c x4 x7 x8 x9 x10 x13 x15 x16 v54 w55)))
 (k3 R Xa Xb Xc x2q x2n x2c x4 x7 x8 x9 x10 x13 x15 x16 v54 w55))
 (k3 R Xa Xb Xc x2q x2n x2c x4 x7 x8 x9 x10 x13 x15 x16 v54 w55))
 (k3 R Xa Xb Xc x2q x2n x2c x4 x7 x8 x9 x10 x13 x15 x16 v54 w55)))
 (k3 R Xa Xb Xc x2q x2n x2c x4 x7 x8 x9 x10 x13 x15 x16 v54 w55)))
 (k1 R Xa x2q x2n x2c x4 x7 x8 x9 x10 x13 w)
def l3 (R : EP) (Xa : OA → Nat → Nat → Nat → Nat → Value → Value → Int → WP) (Xb : OA → Nat → Nat → Nat → Nat → Value → Value → Int → OA → OA → WP) (x2q : OA) (x2n : Nat) (x2c : Nat) (x4 : Nat) (x7 : Nat) (x8 : Value) (x9 : Value) (x10 : Int) (x13 : OA) (x15 : OA) (x16 : Int) (w : World) : Prop :=
  ∀ X : OA → Nat → Nat → Nat → Nat → Value → Value → Int → OA → OA → Int → WP, (∀ x2q x2n x2c x4 x7 x8 x9 x10 x13 x15 x16 w, bl3 R Xa Xb X x2q x2n x2c x4 x7 x8 x9 x10 x13 x15 x16 w → X x2q x2n x2c x4 x7 x8 x9 x10 x13 x15 x16 w) → X x2q x2n x2c x4 x7 x8 x9 x10 x13 x15 x16 w

noncomputable def al3 (R : EP) (Xa : OA → Nat → Nat → Nat → Nat → Value → Value → Int → WP) (Xb : OA → Nat → Nat → Nat → Nat → Value → Value → Int → OA → OA → WP) (Xc : OA → Nat → Nat → Nat → Nat → Value → Value → Int → OA → OA → Int → WP) : AC :=
  (.seq (.leaf (sel [1, 0, 1, 1, 1, 1, 0, 1, 0, 0, 1, 0, 0, 1, 1, 1, 0, 1, 0, 0, 1, 1, 0, 0, 1, 0, 0, 1, 0, 0, 0] body)) (.seq (.block 5 (.seq (.leaf (sel [1, 0, 1, 1, 1, 1, 0, 1, 0, 0, 1, 0, 0, 1, 1, 1, 0, 1, 0, 0, 1, 1, 0, 0, 1, 0, 0, 1, 0, 0, 1, 0, 0, 0] body)) (.seq (.seq (.draw (.pure 0 (.pure 1 (.pure 2 (.pure 3 (.load 4 (.pure 5 (.pure 6 (.pure 7 (.pure 8 (.pure 9 (.pure 10 (.pure 11 (.load 12 (.pure 13 (.pure 14 (.pure 15 (.pure 16 (.pure 17 (.pure 18 (.pure 19 (.load 20 (.pure 21 (.pure 22 (.pure 23 (.pure 24 (.load 25 (.pure 26 (.pure 27 (.pure 28 (.pure 29 (.pure 30 (.load 31 (.pure 32 (.pure 33 (.pure 34 (.pure 35 (.load 36 (.pure 37 (.pure 38 (.pure 39 (.pure 40 (.pure 41 (.pure 42 (.pure 43 (.pure 45 (.pure 46 (.pure 47 (.load 44 (.load 48 (.pure 49 (.pure 50 (.pure 51 (.pure 52 (.pure 53 (.pure 54 (.pure 55 (.pure 56 (.load 57 (.pure 58 (.pure 59 (.pure 60 (.pure 61 (.pure 62 (.pure 63 (.load 64 (.pure 65 (.pure 66 (.pure 67 (.pure 68 .done))))))))))))))))))))))))))))))))))))))))))))))))))))))))))))))))))))) (sel [1, 0, 1, 1, 1, 1, 0, 1, 0, 0, 1, 0, 0, 1, 1, 1, 0, 1, 0, 0, 1, 1, 0, 0, 1, 0, 0, 1, 0, 0, 1, 0, 0, 1, 0, 0] body)) (.leaf (sel [1, 0, 1, 1, 1, 1, 0, 1, 0, 0, 1, 0, 0, 1, 1, 1, 0, 1, 0, 0, 1, 1, 0, 0, 1, 0, 0, 1, 0, 0, 1, 0, 0, 1, 0, 1] body))) (.mark (leaf [(2, .s .slice), (4, .s .loc), (7, .s .loc), (8, .s .any), (9, .s .any), (10, .s (.int .i64)), (13, .s .ptr), (15, .s .ptr), (16, .s (.int .i64)), (17, .s .ptr)] (k3 R Xa Xb Xc)) (.seq (.seq (.draw (.pure 0 (.pure 1 (.pure 2 (.pure 3 (.load 4 (.pure 5 (.pure 6 (.pure 7 (.pure 8 (.pure 9 (.pure 10 (.pure 11 (.pure 14 (.pure 15 (.pure 16 (.pure 17 (.load 12 (.pure 13 (.load 18 (.pure 19 (.pure 20 (.pure 21 .done)))))))))))))))))))))) (sel [1, 0, 1, 1, 1, 1, 0, 1, 0, 0, 1, 0, 0, 1, 1, 1, 0, 1, 0, 0, 1, 1, 0, 0, 1, 0, 0, 1, 0, 0, 1, 0, 0, 1, 1, 0, 0] body)) (.leaf (sel [1, 0, 1, 1, 1, 1, 0, 1, 0, 0, 1, 0, 0, 1, 1, 1, 0, 1, 0, 0, 1, 1, 0, 0, 1, 0, 0, 1, 0, 0, 1, 0, 0, 1, 1, 0, 1] body))) (.mark (leaf [(2, .s .slice), (4, .s .loc), (7, .s .loc), (8, .s .any), (9, .s .any), (10, .s (.int .i64)), (13, .s .ptr), (15, .s .ptr), (16, .s (.int .i64)), (17, .s .ptr)] (k5 R Xa Xb Xc)) (.seq (.seq (.leaf (sel [1, 0, 1, 1, 1, 1, 0, 1, 0, 0, 1, 0, 0, 1, 1, 1, 0, 1, 0, 0, 1, 1, 0, 0, 1, 0, 0, 1, 0, 0, 1, 0, 0, 1, 1, 1, 0, 0] body)) (.cond 193 (.seq (.draw (.pure 1 (.pure 2 (.pure 3 (.load 0 (.load 4 (.pure 5 (.load 6 (.pure 7 (.pure 8 (.pure 9 (.pure 10 (.one 11 .done)))))))))))) (sel [1, 0, 1, 1, 1, 1, 0, 1, 0, 0, 1, 0, 0, 1, 1, 1, 0, 1, 0, 0, 1, 1, 0, 0, 1, 0, 0, 1, 0, 0, 1, 0, 0, 1, 1, 1, 0, 1, 0, 0] body)) (.leaf (sel [1, 0, 1, 1, 1, 1, 0, 1, 0, 0, 1, 0, 0, 1, 1, 1, 0, 1, 0, 0, 1, 1, 0, 0, 1, 0, 0, 1, 0, 0, 1, 0, 0, 1, 1, 1, 0, 1, 0, 1] body))) (.leaf (sel [1, 0, 1, 1, 1, 1, 0, 1, 0, 0, 1, 0, 0, 1, 1, 1, 0, 1, 0, 0, 1, 1, 0, 0, 1, 0, 0, 1, 0, 0, 1, 0, 0, 1, 1, 1, 0, 1, 1] body)))) (.seq (.seq (.leaf (sel [1, 0, 1, 1, 1, 1, 0, 1, 0, 0, 1, 0, 0, 1, 1, 1, 0, 1, 0, 0, 1, 1, 0, 0, 1, 0, 0, 1, 0, 0, 1, 0, 0, 1, 1, 1, 1, 0, 0] body)) (.cond 227 (.seq (.draw (.pure 1 (.pure 2 (.pure 3 (.load 0 (.load 4 (.pure 5 (.load 6 (.pure 7 (.pure 8 (.pure 9 (.pure 10 (.one 11 .done)))))))))))) (sel [1, 0, 1, 1, 1, 1, 0, 1, 0, 0, 1, 0, 0, 1, 1, 1, 0, 1, 0, 0, 1, 1, 0, 0, 1, 0, 0, 1, 0, 0, 1, 0, 0, 1, 1, 1, 1, 0, 1, 0, 0] body)) (.leaf (sel [1, 0, 1, 1, 1, 1, 0, 1, 0, 0, 1, 0, 0, 1, 1, 1, 0, 1, 0, 0, 1, 1, 0, 0, 1, 0, 0, 1, 0, 0, 1, 0, 0, 1, 1, 1, 1, 0, 1, 0, 1] body))) (.leaf (sel [1, 0, 1, 1, 1, 1, 0, 1, 0, 0, 1, 0, 0, 1, 1, 1, 0, 1, 0, 0, 1, 1, 0, 0, 1, 0, 0, 1, 0, 0, 1, 0, 0, 1, 1, 1, 1, 0, 1, 1] body)))) (.seq (.leaf (sel [1, 0, 1, 1, 1, 1, 0, 1, 0, 0, 1, 0, 0, 1, 1, 1, 0, 1, 0, 0, 1, 1, 0, 0, 1, 0, 0, 1, 0, 0, 1, 0, 0, 1, 1, 1, 1, 1, 0] body)) (.seq (.leaf (sel [1, 0, 1, 1, 1, 1, 0, 1, 0, 0, 1, 0, 0, 1, 1, 1, 0, 1, 0, 0, 1, 1, 0, 0, 1, 0, 0, 1, 0, 0, 1, 0, 0, 1, 1, 1, 1, 1, 1, 0] body)) (.mark (leaf [(2, .s .slice), (4, .s .loc), (7, .s .loc), (8, .s .any), (9, .s .any), (10, .s (.int .i64)), (13, .s .ptr), (15, .s .ptr), (17, .s .ptr), (18, .s (.int .i64))] (k6 R Xa Xb Xc)) (.seq (.leaf (sel [1, 0, 1, 1, 1, 1, 0, 1, 0, 0, 1, 0, 0, 1, 1, 1, 0, 1, 0, 0, 1, 1, 0, 0, 1, 0, 0, 1, 0, 0, 1, 0, 0, 1, 1, 1, 1, 1, 1, 1, 0] body)) (.seq (.draw (.pure 0 (.pure 1 (.pure 2 (.pure 3 (.pure 5 (.pure 8 (.pure 9 (.pure 10 (.load 4 (.pure 6 (.load 7 (.load 11 (.pure 12 (.pure 13 (.one 14 (.pure 15 (.one 16 (.pure 17 .done)))))))))))))))))) (sel [1, 0, 1, 1, 1, 1, 0, 1, 0, 0, 1, 0, 0, 1, 1, 1, 0, 1, 0, 0, 1, 1, 0, 0, 1, 0, 0, 1, 0, 0, 1, 0, 0, 1, 1, 1, 1, 1, 1, 1, 1, 0] body)) (.seq (.draw (.pure 0 (.pure 1 (.pure 2 (.pure 3 (.pure 4 (.pure 6 (.pure 7 (.pure 8 (.pure 9 (.pure 12 (.load 5 (.load 10 (.pure 11 (.pure 13 (.pure 14 (.pure 15 (.pure 16 (.pure 17 (.one 18 .done))))))))))))))))))) (sel [1, 0, 1, 1, 1, 1, 0, 1, 0, 0, 1, 0, 0, 1, 1, 1, 0, 1, 0, 0, 1, 1, 0, 0, 1, 0, 0, 1, 0, 0, 1, 0, 0, 1, 1, 1, 1, 1, 1, 1, 1, 1, 0] body)) (.seq (.leaf (sel [1, 0, 1, 1, 1, 1, 0, 1, 0, 0, 1, 0, 0, 1, 1, 1, 0, 1, 0, 0, 1, 1, 0, 0, 1, 0, 0, 1, 0, 0, 1, 0, 0, 1, 1, 1, 1, 1, 1, 1, 1, 1, 1, 0] body)) (.seq (.seq (.leaf (sel [1, 0, 1, 1, 1, 1, 0, 1, 0, 0, 1, 0, 0, 1, 1, 1, 0, 1, 0, 0, 1, 1, 0, 0, 1, 0, 0, 1, 0, 0, 1, 0, 0, 1, 1, 1, 1, 1, 1, 1, 1, 1, 1, 1, 0, 0] body)) (.cond 329 (.draw (.pure 1 (.pure 2 (.pure 3 (.load 0 (.load 4 (.pure 5 (.one 6 .done))))))) (sel [1, 0, 1, 1, 1, 1, 0, 1, 0, 0, 1, 0, 0, 1, 1, 1, 0, 1, 0, 0, 1, 1, 0, 0, 1, 0, 0, 1, 0, 0, 1, 0, 0, 1, 1, 1, 1, 1, 1, 1, 1, 1, 1, 1, 0, 1, 0] body)) (.draw (.pure 1 (.pure 2 (.pure 3 (.load 0 (.load 4 (.pure 5 (.pure 6 (.one 7 .done)))))))) (sel [1, 0, 1, 1, 1, 1, 0, 1, 0, 0, 1, 0, 0, 1, 1, 1, 0, 1, 0, 0, 1, 1, 0, 0, 1, 0, 0, 1, 0, 0, 1, 0, 0, 1, 1, 1, 1, 1, 1, 1, 1, 1, 1, 1, 0, 1, 1] body)))) (.mark (leaf [(2, .s .slice), (4, .s .loc), (7, .s .loc), (8, .s .any), (9, .s .any), (10, .s (.int .i64)), (13, .s .ptr), (15, .s .ptr), (18, .s (.int .i64)), (19, .s .bool), (20, .s .ptr)] (k7 R Xa Xb Xc)) (.leaf (sel [1, 0, 1, 1, 1, 1, 0, 1, 0, 0, 1, 0, 0, 1, 1, 1, 0, 1, 0, 0, 1, 1, 0, 0, 1, 0, 0, 1, 0, 0, 1, 0, 0, 1, 1, 1, 1, 1, 1, 1, 1, 1, 1, 1, 1] body))))))))))))))))))) (.leaf (sel [1, 0, 1, 1, 1, 1, 0, 1, 0, 0, 1, 0, 0, 1, 1, 1, 0, 1, 0, 0, 1, 1, 0, 0, 1, 0, 0, 1, 0, 0, 1, 1] body))))
def bl2 (R : EP) (Xa : OA → Nat → Nat → Nat → Nat → Value → Value → Int → WP) (Xb : OA → Nat → Nat → Nat → Nat → Value → Value → Int → OA → OA → WP) (x2q : OA) (x2n : Nat) (x2c : Nat) (x4 : Nat) (x7 : Nat) (x8 : Value) (x9 : Value) (x10 : Int) (x13 : OA) (x15 : OA) (w : World) : Prop :=
 nilP x13 fun a37 =>
 ∃ (v38 : BA), w.cell? a37 = some (.string v38) ∧
 br (!(v38.toList == (ByteArray.mk #[]).toList))
 (nilP x15 fun a39 =>
 ∃ (v40q : OA), ∃ (v40n : Nat), ∃ (v40c : Nat), w.cell? a39 = some (.slice v40q v40n v40c) ∧
 l3 R Xa Xb x2q x2n x2c x4 x7 x8 x9 x10 x13 x15 (IntKind.i64.wrap ((v40n : Int) - 1)) w)
 (k1 R Xa x2q x2n x2c x4 x7 x8 x9 x10 x13 w)
def l2 (R : EP) (Xa : OA → Nat → Nat → Nat → Nat → Value → Value → Int → WP) (x2q : OA) (x2n : Nat) (x2c : Nat) (x4 : Nat) (x7 : Nat) (x8 : Value) (x9 : Value) (x10 : Int) (x13 : OA) (x15 : OA) (w : World) : Prop :=
  ∀ X : OA → Nat → Nat → Nat → Nat → Value → Value → Int → OA → OA → WP, (∀ x2q x2n x2c x4 x7 x8 x9 x10 x13 x15 w, bl2 R Xa X x2q x2n x2c x4 x7 x8 x9 x10 x13 x15 w → X x2q x2n x2c x4 x7 x8 x9 x10 x13 x15 w) → X x2q x2n x2c x4 x7 x8 x9 x10 x13 x15 w

noncomputable def al2 (R : EP) (Xa : OA → Nat → Nat → Nat → Nat → Value → Value → Int → WP) (Xb : OA → Nat → Nat → Nat → Nat → Value → Value → Int → OA → OA → WP) : AC :=
  (.seq (.leaf (sel [1, 0, 1, 1, 1, 1, 0, 1, 0, 0, 1, 0, 0, 1, 1, 1, 0, 1, 0, 0, 1, 1, 0, 0, 0] body)) (.block 3 (.seq (.seq (.leaf (sel [1, 0, 1, 1, 1, 1, 0, 1, 0, 0, 1, 0, 0, 1, 1, 1, 0, 1, 0, 0, 1, 1, 0, 0, 1, 0, 0, 0] body)) (.block 4 (.loop (leaf [(2, .s .slice), (4, .s .loc), (7, .s .loc), (8, .s .any), (9, .s .any), (10, .s (.int .i64)), (13, .s .ptr), (15, .s .ptr), (16, .s (.int .i64))] (l3 R Xa Xb)) (sel [1, 0, 1, 1, 1, 1, 0, 1, 0, 0, 1, 0, 0, 1, 1, 1, 0, 1, 0, 0, 1, 1, 0, 0, 1, 0, 0, 1, 0, 0] body)))) (.leaf (sel [1, 0, 1, 1, 1, 1, 0, 1, 0, 0, 1, 0, 0, 1, 1, 1, 0, 1, 0, 0, 1, 1, 0, 0, 1, 0, 1] body)))))
def bl1 (R : EP) (Xa : OA → Nat → Nat → Nat → Nat → Value → Value → Int → WP) (x2q : OA) (x2n : Nat) (x2c : Nat) (x4 : Nat) (x7 : Nat) (x8 : Value) (x9 : Value) (x10 : Int) (w : World) : Prop :=
 br (decide (x10 < (x2n : Int)))
 (0 ≤ x10 ∧ x10 < (x2n : Int) ∧
 nilP x2q fun a5 =>
 ∃ (v6 : Value), w.cell? (a5.add (Int.toNat x10 * 1)) = some v6 ∧
 ∃ (r7_0 : OA), ∃ (r7_1 : Bool), ∃ w8, (Instr.typeAssert v6 ty_Inline ty_P_openPlain true).run P w = .ok (.tuple #[.pointer r7_0, .bool r7_1]) w8 ∧
 br r7_1
 (tk w8 fun w9 =>
 nilP r7_0 fun a10 =>
 ∃ (v11q : OA), ∃ (v11n : Nat), ∃ (v11c : Nat), w9.cell? ⟨x4, 0, none⟩ = some (.slice v11q v11n v11c) ∧
 ∃ (r12q : OA), ∃ (r12n : Nat), ∃ (r12c : Nat), ∃ w13, (Instr.buildSlice ty_S_Inline 1 #[(0, .iface ty_P_Plain (.pointer (some a10)))]).run P w9 = .ok (.slice r12q r12n r12c) w13 ∧
 SameC w9 w13 ⟨x4, 0, none⟩ 1 ∧
 ∃ (r14q : OA), ∃ (r14n : Nat), ∃ (r14c : Nat), ∃ w15, (Builtin.append_ #[ty_S_Inline, ty_S_Inline] ty_S_Inline #[.slice v11q v11n v11c, .slice r12q r12n r12c]).run P w13 = .ok (.slice r14q r14n r14c) w15 ∧
 stV w15 ⟨x4, 0, none⟩ (.slice r14q r14n r14c) fun w16 =>
 Xa x2q x2n x2c x4 x7 x8 x9 (IntKind.i64.wrap (x10 + 1)) w16)
 (0 ≤ x10 ∧ x10 < (x2n : Int) ∧
 nilP x2q fun a17 =>
 ∃ (v18 : Value), w8.cell? (a17.add (Int.toNat x10 * 1)) = some v18 ∧
 ∃ (r19_0 : OA), ∃ (r19_1 : Bool), ∃ w20, (Instr.typeAssert v18 ty_Inline ty_P_emphPlain true).run P w8 = .ok (.tuple #[.pointer r19_0, .bool r19_1]) w20 ∧
 br (!r19_1)
 (tk w20 fun w21 =>
 0 ≤ x10 ∧ x10 < (x2n : Int) ∧
 nilP x2q fun a22 =>
 ∃ (v23q : OA), ∃ (v23n : Nat), ∃ (v23c : Nat), w21.cell? ⟨x4, 0, none⟩ = some (.slice v23q v23n v23c) ∧
 ∃ (v24 : Value), w21.cell? (a22.add (Int.toNat x10 * 1)) = some v24 ∧
 ∃ (r25q : OA), ∃ (r25n : Nat), ∃ (r25c : Nat), ∃ w26, (Instr.buildSlice ty_S_Inline 1 #[(0, v24)]).run P w21 = .ok (.slice r25q r25n r25c) w26 ∧
 SameC w21 w26 ⟨x4, 0, none⟩ 1 ∧
 ∃ (r27q : OA), ∃ (r27n : Nat), ∃ (r27c : Nat), ∃ w28, (Builtin.append_ #[ty_S_Inline, ty_S_Inline] ty_S_Inline #[.slice v23q v23n v23c, .slice r25q r25n r25c]).run P w26 = .ok (.slice r27q r27n r27c) w28 ∧
 stV w28 ⟨x4, 0, none⟩ (.slice r27q r27n r27c) fun w29 =>
 Xa x2q x2n x2c x4 x7 x8 x9 (IntKind.i64.wrap (x10 + 1)) w29)
 (nilP r19_0 fun a30 =>
 ∃ (v31 : Bool), w20.cell? (a30.add 2) = some (.bool v31) ∧
 br v31
 (nilP r19_0 fun a32 =>
 ∃ (v33 : BA), w20.cell? a32 = some (.string v33) ∧
 0 ≤ (0 : Int) ∧ 0 < (v33.size : Int) ∧
 enterE P (do let d ← Deferred.ofValue x8 #[.int .u8 (bt v33 0)]; invoke d.target d.args) (fun e w35 => ∃ (r34 : Int), e = .returned (.int .i64 r34) ∧
 0 ≤ r34 ∧ r34 < (5 : Int) ∧
 l2 R Xa x2q x2n x2c x4 x7 x8 x9 x10 r19_0 (some ((⟨x7, 0, none⟩ : Addr).add (Int.toNat r34 * 1))) w35) w20)
 (k1 R Xa x2q x2n x2c x4 x7 x8 x9 x10 r19_0 w20))))
 (∃ (v36q : OA), ∃ (v36n : Nat), ∃ (v36c : Nat), w.cell? ⟨x4, 0, none⟩ = some (.slice v36q v36n v36c) ∧
 R (.returned (.slice v36q v36n v36c)) w)
def l1 (R : EP) (x2q : OA) (x2n : Nat) (x2c : Nat) (x4 : Nat) (x7 : Nat) (x8 : Value) (x9 : Value) (x10 : Int) (w : World) : Prop :=
  ∀ X : OA → Nat → Nat → Nat → Nat → Value → Value → Int → WP, (∀ x2q x2n x2c x4 x7 x8 x9 x10 w, bl1 R X x2q x2n x2c x4 x7 x8 x9 x10 w → X x2q x2n x2c x4 x7 x8 x9 x10 w) → X x2q x2n x2c x4 x7 x8 x9 x10 w

noncomputable def al1 (R : EP) (Xa : OA → Nat → Nat → Nat → Nat → Value → Value → Int → WP) : AC :=
  (.seq (.leaf (sel [1, 0, 1, 1, 1, 1, 0, 1, 0, 0, 0] body)) (.seq (.block 1 (.seq (.seq (.leaf (sel [1, 0, 1, 1, 1, 1, 0, 1, 0, 0, 1, 0, 0, 0, 0] body)) (.seq (.leaf (sel [1, 0, 1, 1, 1, 1, 0, 1, 0, 0, 1, 0, 0, 0, 1, 0] body)) (.cond 37 (.seq (.draw (.pure 1 (.pure 2 (.pure 3 (.pure 4 (.load 0 (.one 5 (.one 6 (.one 7 .done)))))))) (sel [1, 0, 1, 1, 1, 1, 0, 1, 0, 0, 1, 0, 0, 0, 1, 1, 0, 0] body)) (.leaf (sel [1, 0, 1, 1, 1, 1, 0, 1, 0, 0, 1, 0, 0, 0, 1, 1, 0, 1] body))) (.leaf (sel [1, 0, 1, 1, 1, 1, 0, 1, 0, 0, 1, 0, 0, 0, 1, 1, 1] body))))) (.seq (.leaf (sel [1, 0, 1, 1, 1, 1, 0, 1, 0, 0, 1, 0, 0, 1, 0] body)) (.seq (.seq (.leaf (sel [1, 0, 1, 1, 1, 1, 0, 1, 0, 0, 1, 0, 0, 1, 1, 0, 0] body)) (.cond 54 (.seq (.draw (.pure 1 (.pure 2 (.pure 3 (.load 0 (.load 4 (.one 5 (.one 6 (.one 7 .done)))))))) (sel [1, 0, 1, 1, 1, 1, 0, 1, 0, 0, 1, 0, 0, 1, 1, 0, 1, 0, 0] body)) (.leaf (sel [1, 0, 1, 1, 1, 1, 0, 1, 0, 0, 1, 0, 0, 1, 1, 0, 1, 0, 1] body))) (.leaf (sel [1, 0, 1, 1, 1, 1, 0, 1, 0, 0, 1, 0, 0, 1, 1, 0, 1, 1] body)))) (.seq (.seq (.leaf (sel [1, 0, 1, 1, 1, 1, 0, 1, 0, 0, 1, 0, 0, 1, 1, 1, 0, 0] body)) (.cond 65 (.scope (.seq (.leaf (sel [1, 0, 1, 1, 1, 1, 0, 1, 0, 0, 1, 0, 0, 1, 1, 1, 0, 1, 0, 0, 0] body)) (.seq (.leaf (sel [1, 0, 1, 1, 1, 1, 0, 1, 0, 0, 1, 0, 0, 1, 1, 1, 0, 1, 0, 0, 1, 0] body)) (.block 2 (.loop (leaf [(2, .s .slice), (4, .s .loc), (7, .s .loc), (8, .s .any), (9, .s .any), (10, .s (.int .i64)), (13, .s .ptr), (15, .s .ptr)] (l2 R Xa)) (sel [1, 0, 1, 1, 1, 1, 0, 1, 0, 0, 1, 0, 0, 1, 1, 1, 0, 1, 0, 0, 1, 1, 0, 0] body)))))) (.leaf (sel [1, 0, 1, 1, 1, 1, 0, 1, 0, 0, 1, 0, 0, 1, 1, 1, 0, 1, 1] body)))) (.mark (leaf [(2, .s .slice), (4, .s .loc), (7, .s .loc), (8, .s .any), (9, .s .any), (10, .s (.int .i64)), (13, .s .ptr)] (k1 R Xa)) (.seq (.leaf (sel [1, 0, 1, 1, 1, 1, 0, 1, 0, 0, 1, 0, 0, 1, 1, 1, 1, 0] body)) (.cond 368 (.seq (.leaf (sel [1, 0, 1, 1, 1, 1, 0, 1, 0, 0, 1, 0, 0, 1, 1, 1, 1, 1, 0, 0] body)) (.seq (.leaf (sel [1, 0, 1, 1, 1, 1, 0, 1, 0, 0, 1, 0, 0, 1, 1, 1, 1, 1, 0, 1, 0] body)) (.mark (leaf [(2, .s .slice), (4, .s .loc), (7, .s .loc), (8, .s .any), (9, .s .any), (10, .s (.int .i64)), (13, .s .ptr), (21, .s .ptr)] (k2 R Xa)) (.seq (.leaf (sel [1, 0, 1, 1, 1, 1, 0, 1, 0, 0, 1, 0, 0, 1, 1, 1, 1, 1, 0, 1, 1, 0] body)) (.mark (leaf [(2, .s .slice), (4, .s .loc), (7, .s .loc), (8, .s .any), (9, .s .any), (10, .s (.int .i64)), (13, .s .ptr), (21, .s .ptr)] (k4 R Xa)) (.seq (.leaf (sel [1, 0, 1, 1, 1, 1, 0, 1, 0, 0, 1, 0, 0, 1, 1, 1, 1, 1, 0, 1, 1, 1, 0] body)) (.cond 409 (.leaf (sel [1, 0, 1, 1, 1, 1, 0, 1, 0, 0, 1, 0, 0, 1, 1, 1, 1, 1, 0, 1, 1, 1, 1, 0] body)) (.draw (.pure 1 (.pure 2 (.pure 3 (.pure 4 (.load 0 (.one 5 (.one 6 (.one 7 .done)))))))) (sel [1, 0, 1, 1, 1, 1, 0, 1, 0, 0, 1, 0, 0, 1, 1, 1, 1, 1, 0, 1, 1, 1, 1, 1] body))))))))) (.leaf (sel [1, 0, 1, 1, 1, 1, 0, 1, 0, 0, 1, 0, 0, 1, 1, 1, 1, 1, 1] body)))))))))) (.leaf (sel [1, 0, 1, 1, 1, 1, 0, 1, 0, 0, 1, 1] body))))
end g_parseState_emph
def g_parseState_emph (R : EP) (x0 : OA) (x1q : OA) (x1n : Nat) (x1c : Nat) (x2q : OA) (x2n : Nat) (x2c : Nat) (w : World) : Prop :=
 box w #[.slice x1q x1n x1c] ty_S_Inline fun b1 w2 =>
 box w2 #[.slice none 0 0, .slice none 0 0, .slice none 0 0, .slice none 0 0, .slice none 0 0] ty_5_S_P_emphPlain fun b3 w4 =>
 g_parseState_emph.l1 R x2q x2n x2c b1 b3 (.func (.func i_parseState_emph_1) #[] #[]) (.func (.func i_parseState_emph_2) #[] #[.pointer (some ⟨b3, 0, none⟩), .pointer (some ⟨b1, 0, none⟩)]) 0 w4

noncomputable def g_parseState_emph.ac (R : EP) : AC :=
  (.seq (.leaf (sel [0] g_parseState_emph.body)) (.scope (.seq (.leaf (sel [1, 0, 0] g_parseState_emph.body)) (.seq (.leaf (sel [1, 0, 1, 0] g_parseState_emph.body)) (.seq (.leaf (sel [1, 0, 1, 1, 0] g_parseState_emph.body)) (.seq (.leaf (sel [1, 0, 1, 1, 1, 0] g_parseState_emph.body)) (.seq (.seq (.leaf (sel [1, 0, 1, 1, 1, 1, 0, 0] g_parseState_emph.body)) (.block 0 (.loop (leaf [(2, .s .slice), (4, .s .loc), (7, .s .loc), (8, .s .any), (9, .s .any), (10, .s (.int .i64))] (g_parseState_emph.l1 R)) (sel [1, 0, 1, 1, 1, 1, 0, 1, 0, 0] g_parseState_emph.body)))) (.leaf (sel [1, 0, 1, 1, 1, 1, 1] g_parseState_emph.body)))))))))
theorem g_parseState_emph.good (R : EP) : Good P 436 (g_parseState_emph.ac R) (QF P [.tmp 6] R) :=
  ⟨trivial, ⟨trivial, ⟨trivial, ⟨trivial, ⟨trivial, ⟨⟨trivial, (loopG (g_parseState_emph.al1 R) (g_parseState_emph.bl1 R) (fun _ => by kernel_rfl) (fun Xa => ⟨trivial, ⟨⟨⟨trivial, ⟨trivial, ⟨⟨⟨by kernel_rfl, by kernel_rfl, fun _ _ _ h => h⟩, trivial⟩, trivial⟩⟩⟩, ⟨trivial, ⟨⟨trivial, ⟨⟨⟨by kernel_rfl, by kernel_rfl, fun _ _ _ h => h⟩, trivial⟩, trivial⟩⟩, ⟨⟨trivial, ⟨⟨trivial, ⟨trivial, (loopG (g_parseState_emph.al2 R Xa) (g_parseState_emph.bl2 R Xa) (fun _ => by kernel_rfl) (fun Xb => ⟨trivial, ⟨⟨trivial, (loopG (g_parseState_emph.al3 R Xa Xb) (g_parseState_emph.bl3 R Xa Xb) (fun _ => by kernel_rfl) (fun Xc => ⟨trivial, ⟨⟨trivial, ⟨⟨⟨by kernel_rfl, by kernel_rfl, fun _ _ _ h => h⟩, trivial⟩, ⟨⟨⟨⟨by kernel_rfl, by kernel_rfl, fun _ _ _ h => h⟩, trivial⟩, ⟨⟨⟨trivial, ⟨⟨⟨by kernel_rfl, by kernel_rfl, fun _ _ _ h => h⟩, trivial⟩, trivial⟩⟩, ⟨⟨trivial, ⟨⟨⟨by kernel_rfl, by kernel_rfl, fun _ _ _ h => h⟩, trivial⟩, trivial⟩⟩, ⟨trivial, ⟨trivial, ⟨⟨trivial, ⟨⟨by kernel_rfl, by kernel_rfl, fun _ _ _ h => h⟩, ⟨⟨by kernel_rfl, by kernel_rfl, fun _ _ _ h => h⟩, ⟨trivial, ⟨⟨trivial, ⟨⟨by kernel_rfl, by kernel_rfl, fun _ _ _ h => h⟩, ⟨by kernel_rfl, by kernel_rfl, fun _ _ _ h => h⟩⟩⟩, ⟨trivial, cutE (by intro x2q x2n x2c x4 x7 x8 x9 x10 x13 x15 x18 x19 x20 ρ w; kernel_rfl)⟩⟩⟩⟩⟩⟩, cutE (by intro x2q x2n x2c x4 x7 x8 x9 x10 x13 x15 x17 x18 ρ w; kernel_rfl)⟩⟩⟩⟩⟩, cutE (by intro x2q x2n x2c x4 x7 x8 x9 x10 x13 x15 x16 x17 ρ w; kernel_rfl)⟩⟩, cutE (by intro x2q x2n x2c x4 x7 x8 x9 x10 x13 x15 x16 x17 ρ w; kernel_rfl)⟩⟩⟩, trivial⟩⟩) (fun Xc => by intro x2q x2n x2c x4 x7 x8 x9 x10 x13 x15 x16 ρ w; kernel_rfl) (fun X h _ _ _ _ _ _ _ _ _ _ _ _ g => g X h))⟩, trivial⟩⟩) (fun Xb => by intro x2q x2n x2c x4 x7 x8 x9 x10 x13 x15 ρ w; kernel_rfl) (fun X h _ _ _ _ _ _ _ _ _ _ _ g => g X h))⟩⟩, trivial⟩⟩, ⟨⟨trivial, ⟨⟨trivial, ⟨trivial, ⟨⟨trivial, ⟨⟨trivial, ⟨trivial, ⟨by kernel_rfl, by kernel_rfl, fun _ _ _ h => h⟩⟩⟩, cutE (by intro x2q x2n x2c x4 x7 x8 x9 x10 x13 x21 ρ w; kernel_rfl)⟩⟩, cutE (by intro x2q x2n x2c x4 x7 x8 x9 x10 x13 x21 ρ w; kernel_rfl)⟩⟩⟩, trivial⟩⟩, cutE (by intro x2q x2n x2c x4 x7 x8 x9 x10 x13 ρ w; kernel_rfl)⟩⟩⟩⟩⟩, trivial⟩⟩) (fun Xa => by intro x2q x2n x2c x4 x7 x8 x9 x10 ρ w; kernel_rfl) (fun X h _ _ _ _ _ _ _ _ _ g => g X h))⟩, trivial⟩⟩⟩⟩⟩⟩
theorem g_parseState_emph.eq (R : EP) (x0 : OA) (x1q : OA) (x1n : Nat) (x1c : Nat) (x2q : OA) (x2n : Nat) (x2c : Nat) (w : World) : g_parseState_emph R x0 x1q x1n x1c x2q x2n x2c w = vcA P 436 (g_parseState_emph.ac R) (QF P [.tmp 6] R) (fr0 [.pointer x0, .slice x1q x1n x1c, .slice x2q x2n x2c]) w := by kernel_rfl
theorem g_parseState_emph.sound {R : EP} {x0 : OA} {x1q : OA} {x1n : Nat} {x1c : Nat} {x2q : OA} {x2n : Nat} {x2c : Nat} {w : World} (h : g_parseState_emph R x0 x1q x1n x1c x2q x2n x2c w) : callE P i_parseState_emph #[.pointer x0, .slice x1q x1n x1c, .slice x2q x2n x2c] R w :=
  callE_fin (c := g_parseState_emph.body) Tryz.func57 Tryz.call57 (by kernel_rfl) (by kernel_rfl) (by kernel_rfl) (by kernel_rfl) (by kernel_rfl) (g_parseState_emph.good R) (g_parseState_emph.eq R x0 x1q x1n x1c x2q x2n x2c w) h
namespace g_parseState_emit
noncomputable def body : Code := bodyOf Tryz.f53
end g_parseState_emit
def g_parseState_emit (R : EP) (x0 : OA) (x1 : Int) (w : World) : Prop :=
 nilP x0 fun a1 =>
 ∃ (v2 : Int), w.cell? (a1.add 8) = some (.int .i64 v2) ∧
 br (decide (v2 < x1))
 (tk w fun w3 =>
 nilP x0 fun a4 =>
 nilP x0 fun a5 =>
 nilP x0 fun a6 =>
 ∃ (v7q : OA), ∃ (v7n : Nat), ∃ (v7c : Nat), w3.cell? (a4.add 9) = some (.slice v7q v7n v7c) ∧
 ∃ (v8 : BA), w3.cell? (a5.add 7) = some (.string v8) ∧
 ∃ (v9 : Int), w3.cell? (a6.add 8) = some (.int .i64 v9) ∧
 0 ≤ v9 ∧ v9 ≤ x1 ∧ x1 ≤ (v8.size : Int) ∧
 box w3 #[.string (v8.extract (Int.toNat v9) (Int.toNat x1))] ty_Plain fun b10 w11 =>
 SameC w3 w11 (a4.add 9) 1 ∧
 ∃ (r12q : OA), ∃ (r12n : Nat), ∃ (r12c : Nat), ∃ w13, (Instr.buildSlice ty_S_Inline 1 #[(0, .iface ty_P_Plain (.pointer (some ⟨b10, 0, none⟩)))]).run P w11 = .ok (.slice r12q r12n r12c) w13 ∧
 SameC w11 w13 (a4.add 9) 1 ∧
 ∃ (r14q : OA), ∃ (r14n : Nat), ∃ (r14c : Nat), ∃ w15, (Builtin.append_ #[ty_S_Inline, ty_S_Inline] ty_S_Inline #[.slice v7q v7n v7c, .slice r12q r12n r12c]).run P w13 = .ok (.slice r14q r14n r14c) w15 ∧
 nilP x0 fun a16 =>
 stV w15 ((a16.add 9).add 0) (.slice r14q r14n r14c) fun w17 =>
 nilP x0 fun a18 =>
 stV w17 ((a18.add 8).add 0) (.int .i64 x1) fun w19 =>
 R (.returned (.tuple #[])) w19)
 (R (.returned (.tuple #[])) w)

noncomputable def g_parseState_emit.ac (R : EP) : AC :=
  (.seq (.leaf (sel [0] g_parseState_emit.body)) (.cond 9 (.seq (.draw (.pure 0 (.pure 1 (.pure 2 (.pure 3 (.pure 5 (.pure 6 (.pure 7 (.pure 9 (.pure 10 (.pure 11 (.pure 13 (.load 4 (.load 8 (.load 12 (.pure 14 (.pure 15 (.one 16 (.pure 17 (.one 18 (.one 19 (.pure 20 (.pure 21 (.one 22 .done))))))))))))))))))))))) (sel [1, 0, 0] g_parseState_emit.body)) (.leaf (sel [1, 0, 1] g_parseState_emit.body))) (.leaf (sel [1, 1] g_parseState_emit.body))))
theorem g_parseState_emit.good (R : EP) : Good P 36 (g_parseState_emit.ac R) (QF P [] R) :=
  ⟨trivial, ⟨⟨⟨by kernel_rfl, by kernel_rfl, fun _ _ _ h => h⟩, trivial⟩, trivial⟩⟩
theorem g_parseState_emit.eq (R : EP) (x0 : OA) (x1 : Int) (w : World) : g_parseState_emit R x0 x1 w = vcA P 36 (g_parseState_emit.ac R) (QF P [] R) (fr0 [.pointer x0, .int .i64 x1]) w := by kernel_rfl
theorem g_parseState_emit.sound {R : EP} {x0 : OA} {x1 : Int} {w : World} (h : g_parseState_emit R x0 x1 w) : callE P i_parseState_emit #[.pointer x0, .int .i64 x1] R w :=
  callE_fin (c := g_parseState_emit.body) Tryz.func53 Tryz.call53 (by kernel_rfl) (by kernel_rfl) (by kernel_rfl) (by kernel_rfl) (by kernel_rfl) (g_parseState_emit.good R) (g_parseState_emit.eq R x0 x1 w) h
namespace g_parseState_skip
noncomputable def body : Code := bodyOf Tryz.f54
end g_parseState_skip
def g_parseState_skip (R : EP) (x0 : OA) (x1 : Int) (w : World) : Prop :=
 nilP x0 fun a1 =>
 stV w ((a1.add 8).add 0) (.int .i64 x1) fun w2 =>
 R (.returned (.tuple #[])) w2

noncomputable def g_parseState_skip.ac (R : EP) : AC :=
  (.leaf (sel [] g_parseState_skip.body))
theorem g_parseState_skip.good (R : EP) : Good P 8 (g_parseState_skip.ac R) (QF P [] R) :=
  trivial
theorem g_parseState_skip.eq (R : EP) (x0 : OA) (x1 : Int) (w : World) : g_parseState_skip R x0 x1 w = vcA P 8 (g_parseState_skip.ac R) (QF P [] R) (fr0 [.pointer x0, .int .i64 x1]) w := by kernel_rfl
theorem g_parseState_skip.sound {R : EP} {x0 : OA} {x1 : Int} {w : World} (h : g_parseState_skip R x0 x1 w) : callE P i_parseState_skip #[.pointer x0, .int .i64 x1] R w :=
  callE_fin (c := g_parseState_skip.body) Tryz.func54 Tryz.call54 (by kernel_rfl) (by kernel_rfl) (by kernel_rfl) (by kernel_rfl) (by kernel_rfl) (g_parseState_skip.good R) (g_parseState_skip.eq R x0 x1 w) h
end Go.Proofs.YtihmcipajjakgaaGreatDoor

set_option linter.unusedVariables false
namespace Go.Proofs.YtihmcipajjakgaaGreatDoor
open Go.Proofs Go.IntWalk
variable {σ : Out} {w : World} {L L' : List Chunk} {R : Ending → World → Prop}

noncomputable def rowInl : Row P ty_S_Inline ty_Inline 1 16 :=
  ⟨(P.info? ty_Inline).getD default, ((P.info? ty_Inline).bind (·.zero)).getD default, by kernel_rfl, by kernel_rfl, by kernel_rfl, by kernel_rfl, by kernel_rfl, by kernel_rfl, by decide⟩
def Inls (p : PS) (vs : List Value) (M : List Chunk) : Prop := Sl 1 ty_Inline p.lq p.ln p.lc vs M ∧ vs.length < 4294967296
def plainC (b : Nat) (s : List UInt8) : Chunk := (b, cel [.string (bs s)] ty_Plain)

theorem skipTo_ok {b : Nat} {p : PS} {i : Int} (h : Sat σ w (p.at b :: L)) (hR : ∀ w, Sat σ w ({ p with em := i }.at b :: L) → R (.returned (.tuple #[])) w) :
    callE P i_parseState_skip #[.pointer (some ⟨b, 0, none⟩), .int .i64 i] R w := by
  refine g_parseState_skip.sound ?_
  refine nilP_some ?_
  refine Sat.st h (k := 0) rfl (Nat.le_of_ble_eq_true rfl) trivial (by first | (dsimp only [List.set]; exact rfl) | exact rfl) fun w h => ?_
  exact hR _ h
theorem emit_no {b : Nat} {p : PS} {i : Int} (h : Sat σ w (p.at b :: L)) (hi : i ≤ p.em) (hR : ∀ w, Sat σ w (p.at b :: L) → R (.returned (.tuple #[])) w) :
    callE P i_parseState_emit #[.pointer (some ⟨b, 0, none⟩), .int .i64 i] R w := by
  refine g_parseState_emit.sound ?_
  refine nilP_some ?_
  refine ⟨_, Sat.ld h (by first | assumption | (repeat (first | exact .head _ | apply List.Mem.tail))) (by exact rfl), ?_⟩
  exact br_false (by simpa using hi) (hR _ h)
theorem emit_ok {b i e : Nat} {p : PS} {vs : List Value} {M : List Chunk} (h : Sat σ w (p.at b :: M ++ L)) (hv : Inls p vs M) (he : p.em = e) (hi : e < i) (hl : i ≤ p.s.length) (hn : vs.length < 4294967295)
    (hR : ∀ w p' M' nb, p' = { p with em := i, lq := p'.lq, ln := vs.length + 1, lc := p'.lc } → Inls p' (vs ++ [.iface ty_P_Plain (.pointer (some ⟨nb, 0, none⟩))]) M' →
      Sat σ w (p'.at b :: M' ++ (plainC nb ((p.s.take i).drop e) :: L)) → R (.returned (.tuple #[])) w) :
    callE P i_parseState_emit #[.pointer (some ⟨b, 0, none⟩), .int .i64 i] R w := by
  have hln : p.ln = vs.length := by have := hv.1.1; omega
  refine g_parseState_emit.sound ?_
  refine nilP_some ?_
  refine ⟨_, Sat.ld h (by first | assumption | (repeat (first | exact .head _ | apply List.Mem.tail))) (by exact rfl), ?_⟩
  rw [he]
  refine br_true (by simpa using hi) ?_
  refine Sat.tk h fun w h => ?_
  refine nilP_some (nilP_some (nilP_some ?_))
  refine ⟨_, _, _, Sat.ld h (by first | assumption | (repeat (first | exact .head _ | apply List.Mem.tail))) (by exact rfl), ?_⟩
  refine ⟨_, Sat.ld h (by first | assumption | (repeat (first | exact .head _ | apply List.Mem.tail))) (by exact rfl), ?_⟩
  refine ⟨_, Sat.ld h (by first | assumption | (repeat (first | exact .head _ | apply List.Mem.tail))) (by exact rfl), ?_⟩
  rw [he]
  refine ⟨by omega, by omega, by simp; omega, ?_⟩
  rw [Int.toNat_natCast, Int.toNat_natCast, bs_extract]
  have h0 := h
  refine Sat.bx h fun nb w h => ?_
  refine ⟨h0.same h (.head _) (.tail _ (.head _)) 1, ?_⟩
  have h : Sat σ w (M ++ (p.at b :: plainC nb ((p.s.take i).drop e) :: L)) := Sat.re (L := plainC nb ((p.s.take i).drop e) :: (p.at b :: M ++ L)) h (by intro _; simp only [List.append_eq, cnt_append, cnt_cons, cnt_nil] <;> omega)
  have hs0 := h0
  refine Sat.app1S rowInl hv.1 h (v := .iface ty_P_Plain (.pointer (some ⟨nb, 0, none⟩))) rfl (by simp [Value.cells, Value.oneCell']) (by kernel_rfl) (by omega) (by omega) (by decide)
    (C := fun w1 => SameC _ w1 _ 1) (fun w1 X h' => Sat.same h h' (b := b) (o := cel p.cells ty_parseState) (by simp) (by simp) 1) fun q' c' w M' hS' h => ?_
  have h : Sat σ w (p.at b :: M' ++ (plainC nb ((p.s.take i).drop e) :: L)) := h.re (by intro _; simp only [List.append_eq, cnt_append, cnt_cons, cnt_nil] <;> omega)
  let p' : PS := { p with em := i, lq := q', ln := p.ln + 1, lc := c' }
  refine nilP_some ?_
  refine Sat.st h (k := 0) rfl (Nat.le_of_ble_eq_true rfl) trivial (by first | (dsimp only [List.set]; exact rfl) | exact rfl) fun w h => ?_
  refine nilP_some ?_
  refine Sat.st h (k := 0) rfl (Nat.le_of_ble_eq_true rfl) trivial (by first | (dsimp only [List.set]; exact rfl) | exact rfl) fun w h => ?_
  refine hR _ p' M' nb (by simp [p', hln]) ⟨hS', by simp; omega⟩ h
end Go.Proofs.YtihmcipajjakgaaGreatDoor


set_option linter.unusedVariables false
set_option maxRecDepth 20000
namespace Go.Proofs.YtihmcipajjakgaaGreatDoor
open Go.Proofs
namespace g_Document_PrintHTML
noncomputable def body : Code := bodyOf Tryz.f226
def bl1 (R : EP) (Xa : OA → OA → Nat → Nat → Int → Int → WP) (x1 : OA) (x9q : OA) (x9n : Nat) (x9c : Nat) (x10 : Int) (x11 : Int) (w : World) : Prop :=
 br (decide (x11 < x10))
 (0 ≤ x11 ∧ x11 < (x9n : Int) ∧
 nilP x9q fun a3 =>
 ∃ (v4 : Value), w.cell? (a3.add (Int.toNat x11 * 1)) = some v4 ∧
 enterE P (callMethod v4 "PrintHTML" #[.pointer x1]) (fun e w6 => e = .returned (.tuple #[]) ∧
 Xa x1 x9q x9n x9c x10 (IntKind.i64.wrap (x11 + 1)) w6) w)
 (R (.returned (.tuple #[])) w)
def l1 (R : EP) (x1 : OA) (x9q : OA) (x9n : Nat) (x9c : Nat) (x10 : Int) (x11 : Int) (w : World) : Prop :=
  ∀ X : OA → OA → Nat → Nat → Int → Int → WP, (∀ x1 x9q x9n x9c x10 x11 w, bl1 R X x1 x9q x9n x9c x10 x11 w → X x1 x9q x9n x9c x10 x11 w) → X x1 x9q x9n x9c x10 x11 w

noncomputable def al1 (R : EP) (Xa : OA → OA → Nat → Nat → Int → Int → WP) : AC :=
  (.leaf (sel [1, 0, 0] body))
end g_Document_PrintHTML
def g_Document_PrintHTML (R : EP) (x0 : OA) (x1 : OA) (w : World) : Prop :=
 nilP x0 fun a1 =>
 ∃ (v2q : OA), ∃ (v2n : Nat), ∃ (v2c : Nat), w.cell? (a1.add 2) = some (.slice v2q v2n v2c) ∧
 g_Document_PrintHTML.l1 R x1 v2q v2n v2c (v2n : Int) 0 w

noncomputable def g_Document_PrintHTML.ac (R : EP) : AC :=
  (.seq (.leaf (sel [0] g_Document_PrintHTML.body)) (.block 0 (.loop (leaf [(1, .s .ptr), (9, .s .slice), (10, .s (.int .i64)), (11, .s (.int .i64))] (g_Document_PrintHTML.l1 R)) (sel [1, 0, 0] g_Document_PrintHTML.body))))
theorem g_Document_PrintHTML.good (R : EP) : Good P 19 (g_Document_PrintHTML.ac R) (QF P [] R) :=
  ⟨trivial, (loopG (g_Document_PrintHTML.al1 R) (g_Document_PrintHTML.bl1 R) (fun _ => by kernel_rfl) (fun Xa => trivial) (fun Xa => by intro x1 x9q x9n x9c x10 x11 ρ w; kernel_rfl) (fun X h _ _ _ _ _ _ _ g => g X h))⟩
theorem g_Document_PrintHTML.eq (R : EP) (x0 : OA) (x1 : OA) (w : World) : g_Document_PrintHTML R x0 x1 w = vcA P 19 (g_Document_PrintHTML.ac R) (QF P [] R) (fr0 [.pointer x0, .pointer x1]) w := by kernel_rfl
theorem g_Document_PrintHTML.sound {R : EP} {x0 : OA} {x1 : OA} {w : World} (h : g_Document_PrintHTML R x0 x1 w) : callE P i_Document_PrintHTML #[.pointer x0, .pointer x1] R w :=
  callE_fin (c := g_Document_PrintHTML.body) Tryz.func226 Tryz.call226 (by kernel_rfl) (by kernel_rfl) (by kernel_rfl) (by kernel_rfl) (by kernel_rfl) (g_Document_PrintHTML.good R) (g_Document_PrintHTML.eq R x0 x1 w) h
namespace g_Paragraph_PrintHTML
noncomputable def body : Code := bodyOf Tryz.f263
end g_Paragraph_PrintHTML
def g_Paragraph_PrintHTML (R : EP) (x0 : OA) (x1 : OA) (w : World) : Prop :=
 callE P i_bytes_Buffer_WriteString #[.pointer x1, .string (ByteArray.mk #[60, 112, 62])] (fun e w2 => ∃ (r1_0 : Int), ∃ (r1_1 : Value), e = .returned (.tuple #[.int .i64 r1_0, r1_1]) ∧
 nilP x0 fun a3 =>
 ∃ (v4 : OA), w2.cell? (a3.add 2) = some (.pointer v4) ∧
 callE P i_Text_PrintHTML #[.pointer v4, .pointer x1] (fun e w6 => e = .returned (.tuple #[]) ∧
 callE P i_bytes_Buffer_WriteString #[.pointer x1, .string (ByteArray.mk #[60, 47, 112, 62, 10])] (fun e w8 => ∃ (r7_0 : Int), ∃ (r7_1 : Value), e = .returned (.tuple #[.int .i64 r7_0, r7_1]) ∧
 R (.returned (.tuple #[])) w8) w6) w2) w

noncomputable def g_Paragraph_PrintHTML.ac (R : EP) : AC :=
  (.leaf (sel [] g_Paragraph_PrintHTML.body))
theorem g_Paragraph_PrintHTML.good (R : EP) : Good P 14 (g_Paragraph_PrintHTML.ac R) (QF P [] R) :=
  trivial
theorem g_Paragraph_PrintHTML.eq (R : EP) (x0 : OA) (x1 : OA) (w : World) : g_Paragraph_PrintHTML R x0 x1 w = vcA P 14 (g_Paragraph_PrintHTML.ac R) (QF P [] R) (fr0 [.pointer x0, .pointer x1]) w := by kernel_rfl
theorem g_Paragraph_PrintHTML.sound {R : EP} {x0 : OA} {x1 : OA} {w : World} (h : g_Paragraph_PrintHTML R x0 x1 w) : callE P i_Paragraph_PrintHTML #[.pointer x0, .pointer x1] R w :=
  callE_fin (c := g_Paragraph_PrintHTML.body) Tryz.func263 Tryz.call263 (by kernel_rfl) (by kernel_rfl) (by kernel_rfl) (by kernel_rfl) (by kernel_rfl) (g_Paragraph_PrintHTML.good R) (g_Paragraph_PrintHTML.eq R x0 x1 w) h
namespace g_Text_PrintHTML
noncomputable def body : Code := bodyOf Tryz.f230
def bl1 (R : EP) (Xa : OA → OA → Nat → Nat → Int → Int → WP) (x1 : OA) (x9q : OA) (x9n : Nat) (x9c : Nat) (x10 : Int) (x11 : Int) (w : World) : Prop :=
 br (decide (x11 < x10))
 (0 ≤ x11 ∧ x11 < (x9n : Int) ∧
 nilP x9q fun a3 =>
 ∃ (v4 : Value), w.cell? (a3.add (Int.toNat x11 * 1)) = some v4 ∧
 enterE P (callMethod v4 "PrintHTML" #[.pointer x1]) (fun e w6 => e = .returned (.tuple #[]) ∧
 Xa x1 x9q x9n x9c x10 (IntKind.i64.wrap (x11 + 1)) w6) w)
 (R (.returned (.tuple #[])) w)
def l1 (R : EP) (x1 : OA) (x9q : OA) (x9n : Nat) (x9c : Nat) (x10 : Int) (x11 : Int) (w : World) : Prop :=
  ∀ X : OA → OA → Nat → Nat → Int → Int → WP, (∀ x1 x9q x9n x9c x10 x11 w, bl1 R X x1 x9q x9n x9c x10 x11 w → X x1 x9q x9n x9c x10 x11 w) → X x1 x9q x9n x9c x10 x11 w

noncomputable def al1 (R : EP) (Xa : OA → OA → Nat → Nat → Int → Int → WP) : AC :=
  (.leaf (sel [1, 0, 0] body))
end g_Text_PrintHTML
def g_Text_PrintHTML (R : EP) (x0 : OA) (x1 : OA) (w : World) : Prop :=
 nilP x0 fun a1 =>
 ∃ (v2q : OA), ∃ (v2n : Nat), ∃ (v2c : Nat), w.cell? (a1.add 2) = some (.slice v2q v2n v2c) ∧
 g_Text_PrintHTML.l1 R x1 v2q v2n v2c (v2n : Int) 0 w

noncomputable def g_Text_PrintHTML.ac (R : EP) : AC :=
  (.seq (.leaf (sel [0] g_Text_PrintHTML.body)) (.block 0 (.loop (leaf [(1, .s .ptr), (9, .s .slice), (10, .s (.int .i64)), (11, .s (.int .i64))] (g_Text_PrintHTML.l1 R)) (sel [1, 0, 0] g_Text_PrintHTML.body))))
theorem g_Text_PrintHTML.good (R : EP) : Good P 19 (g_Text_PrintHTML.ac R) (QF P [] R) :=
  ⟨trivial, (loopG (g_Text_PrintHTML.al1 R) (g_Text_PrintHTML.bl1 R) (fun _ => by kernel_rfl) (fun Xa => trivial) (fun Xa => by intro x1 x9q x9n x9c x10 x11 ρ w; kernel_rfl) (fun X h _ _ _ _ _ _ _ g => g X h))⟩
theorem g_Text_PrintHTML.eq (R : EP) (x0 : OA) (x1 : OA) (w : World) : g_Text_PrintHTML R x0 x1 w = vcA P 19 (g_Text_PrintHTML.ac R) (QF P [] R) (fr0 [.pointer x0, .pointer x1]) w := by kernel_rfl
theorem g_Text_PrintHTML.sound {R : EP} {x0 : OA} {x1 : OA} {w : World} (h : g_Text_PrintHTML R x0 x1 w) : callE P i_Text_PrintHTML #[.pointer x0, .pointer x1] R w :=
  callE_fin (c := g_Text_PrintHTML.body) Tryz.func230 Tryz.call230 (by kernel_rfl) (by kernel_rfl) (by kernel_rfl) (by kernel_rfl) (by kernel_rfl) (g_Text_PrintHTML.good R) (g_Text_PrintHTML.eq R x0 x1 w) h
namespace g_ToHTML
noncomputable def body : Code := bodyOf Tryz.f20
end g_ToHTML
def g_ToHTML (R : EP) (x0 : Value) (w : World) : Prop :=
 box w #[.slice none 0 0, .int .i64 0, .int .i8 0] ty_bytes_Buffer fun b1 w2 =>
 enterE P (callMethod x0 "PrintHTML" #[.pointer (some ⟨b1, 0, none⟩)]) (fun e w4 => e = .returned (.tuple #[]) ∧
 callE P i_bytes_Buffer_String #[.pointer (some ⟨b1, 0, none⟩)] (fun e w6 => ∃ (r5 : BA), e = .returned (.string r5) ∧
 R (.returned (.string r5)) w6) w4) w2

noncomputable def g_ToHTML.ac (R : EP) : AC :=
  (.leaf (sel [] g_ToHTML.body))
theorem g_ToHTML.good (R : EP) : Good P 7 (g_ToHTML.ac R) (QF P [.tmp 2] R) :=
  trivial
theorem g_ToHTML.eq (R : EP) (x0 : Value) (w : World) : g_ToHTML R x0 w = vcA P 7 (g_ToHTML.ac R) (QF P [.tmp 2] R) (fr0 [x0]) w := by kernel_rfl
theorem g_ToHTML.sound {R : EP} {x0 : Value} {w : World} (h : g_ToHTML R x0 w) : callE P i_ToHTML #[x0] R w :=
  callE_fin (c := g_ToHTML.body) Tryz.func20 Tryz.call20 (by kernel_rfl) (by kernel_rfl) (by kernel_rfl) (by kernel_rfl) (by kernel_rfl) (g_ToHTML.good R) (g_ToHTML.eq R x0 w) h
namespace g_Plain_PrintHTML
noncomputable def body : Code := bodyOf Tryz.f243
end g_Plain_PrintHTML
def g_Plain_PrintHTML (R : EP) (x0 : OA) (x1 : OA) (w : World) : Prop :=
 tk w fun w1 =>
 nilP x0 fun a2 =>
 ∃ (v3 : BA), w1.cell? a2 = some (.string v3) ∧
 callE P i_htmlEscaper #[] (fun e w5 => ∃ (r4q : OA), ∃ (r4n : Nat), ∃ (r4c : Nat), e = .returned (.slice r4q r4n r4c) ∧
 SameC w1 w5 (a2) 1 ∧
 callE P i_zzPairs_WriteString #[.slice r4q r4n r4c, .pointer x1, .string v3] (fun e w7 => e = .returned (.tuple #[]) ∧
 R (.returned (.tuple #[])) w7) w5) w1

noncomputable def g_Plain_PrintHTML.ac (R : EP) : AC :=
  (.draw (.pure 1 (.pure 2 (.pure 3 (.pure 4 (.load 5 (.one 0 (.one 6 .done))))))) (sel [] g_Plain_PrintHTML.body))
theorem g_Plain_PrintHTML.good (R : EP) : Good P 11 (g_Plain_PrintHTML.ac R) (QF P [] R) :=
  ⟨by kernel_rfl, by kernel_rfl, fun _ _ _ h => h⟩
theorem g_Plain_PrintHTML.eq (R : EP) (x0 : OA) (x1 : OA) (w : World) : g_Plain_PrintHTML R x0 x1 w = vcA P 11 (g_Plain_PrintHTML.ac R) (QF P [] R) (fr0 [.pointer x0, .pointer x1]) w := by kernel_rfl
theorem g_Plain_PrintHTML.sound {R : EP} {x0 : OA} {x1 : OA} {w : World} (h : g_Plain_PrintHTML R x0 x1 w) : callE P i_Plain_PrintHTML #[.pointer x0, .pointer x1] R w :=
  callE_fin (c := g_Plain_PrintHTML.body) Tryz.func243 Tryz.call243 (by kernel_rfl) (by kernel_rfl) (by kernel_rfl) (by kernel_rfl) (by kernel_rfl) (g_Plain_PrintHTML.good R) (g_Plain_PrintHTML.eq R x0 x1 w) h
namespace g_htmlEscaper
noncomputable def body : Code := bodyOf Tryz.f246
end g_htmlEscaper
def g_htmlEscaper (R : EP) (w : World) : Prop :=
 ∃ (r1q : OA), ∃ (r1n : Nat), ∃ (r1c : Nat), ∃ w2, (Instr.buildSlice ty_zzPairs 8 #[(0, .string (ByteArray.mk #[34])), (1, .string (ByteArray.mk #[38, 113, 117, 111, 116, 59])), (2, .string (ByteArray.mk #[38])), (3, .string (ByteArray.mk #[38, 97, 109, 112, 59])), (4, .string (ByteArray.mk #[60])), (5, .string (ByteArray.mk #[38, 108, 116, 59])), (6, .string (ByteArray.mk #[62])), (7, .string (ByteArray.mk #[38, 103, 116, 59]))]).run P w = .ok (.slice r1q r1n r1c) w2 ∧
 R (.returned (.slice r1q r1n r1c)) w2

noncomputable def g_htmlEscaper.ac (R : EP) : AC :=
  (.leaf (sel [] g_htmlEscaper.body))
theorem g_htmlEscaper.good (R : EP) : Good P 2 (g_htmlEscaper.ac R) (QF P [.tmp 0] R) :=
  trivial
theorem g_htmlEscaper.eq (R : EP) (w : World) : g_htmlEscaper R w = vcA P 2 (g_htmlEscaper.ac R) (QF P [.tmp 0] R) (fr0 []) w := by kernel_rfl
theorem g_htmlEscaper.sound {R : EP} {w : World} (h : g_htmlEscaper R w) : callE P i_htmlEscaper #[] R w :=
  callE_fin (c := g_htmlEscaper.body) Tryz.func246 Tryz.call246 (by kernel_rfl) (by kernel_rfl) (by kernel_rfl) (by kernel_rfl) (by kernel_rfl) (g_htmlEscaper.good R) (g_htmlEscaper.eq R w) h
namespace g_htmlLinkEscaper
noncomputable def body : Code := bodyOf Tryz.f253
end g_htmlLinkEscaper
def g_htmlLinkEscaper (R : EP) (w : World) : Prop :=
 ∃ (r1q : OA), ∃ (r1n : Nat), ∃ (r1c : Nat), ∃ w2, (Instr.buildSlice ty_zzPairs 340 #[(0, .string (ByteArray.mk #[34])), (1, .string (ByteArray.mk #[37, 50, 50])), (2, .string (ByteArray.mk #[38])), (3, .string (ByteArray.mk #[38, 97, 109, 112, 59])), (4, .string (ByteArray.mk #[60])), (5, .string (ByteArray.mk #[37, 51, 67])), (6, .string (ByteArray.mk #[62])), (7, .string (ByteArray.mk #[37, 51, 69])), (8, .string (ByteArray.mk #[92])), (9, .string (ByteArray.mk #[37, 53, 67])), (10, .string (ByteArray.mk #[32])), (11, .string (ByteArray.mk #[37, 50, 48])), (12, .string (ByteArray.mk #[96])), (13, .string (ByteArray.mk #[37, 54, 48])), (14, .string (ByteArray.mk #[91])), (15, .string (ByteArray.mk #[37, 53, 66])), (16, .string (ByteArray.mk #[93])), (17, .string (ByteArray.mk #[37, 53, 68])), (18, .string (ByteArray.mk #[94])), (19, .string (ByteArray.mk #[37, 53, 69])), (20, .string (ByteArray.mk #[123])), (21, .string (ByteArray.mk #[37, 55, 66])), (22, .string (ByteArray.mk #[125])), (23, .string (ByteArray.mk #[37, 55, 68])), (24, .string (ByteArray.mk #[0])), (25, .string (ByteArray.mk #[37, 48, 48])), (26, .string (ByteArray.mk #[1])), (27, .string (ByteArray.mk #[37, 48, 49])), (28, .string (ByteArray.mk #[2])), (29, .string (ByteArray.mk #[37, 48, 50])), (30, .string (ByteArray.mk #[3])), (31, .string (ByteArray.mk #[37, 48, 51])), (32, .string (ByteArray.mk #[4])), (33, .string (ByteArray.mk #[37, 48, 52])), (34, .string (ByteArray.mk #[5])), (35, .string (ByteArray.mk #[37, 48, 53])), (36, .string (ByteArray.mk #[6])), (37, .string (ByteArray.mk #[37, 48, 54])), (38, .string (ByteArray.mk #[7])), (39, .string (ByteArray.mk #[37, 48, 55])), (40, .string (ByteArray.mk #[8])), (41, .string (ByteArray.mk #[37, 48, 56])), (42, .string (ByteArray.mk #[11])), (43, .string (ByteArray.mk #[37, 48, 66])), (44, .string (ByteArray.mk #[12])), (45, .string (ByteArray.mk #[37, 48, 67])), (46, .string (ByteArray.mk #[14])), (47, .string (ByteArray.mk #[37, 48, 69])), (48, .string (ByteArray.mk #[15])), (49, .string (ByteArray.mk #[37, 48, 70])), (50, .string (ByteArray.mk #[16])), (51, .string (ByteArray.mk #[37, 49, 48])), (52, .string (ByteArray.mk #[17])), (53, .string (ByteArray.mk #[37, 49, 49])), (54, .string (ByteArray.mk #[18])), (55, .string (ByteArray.mk #[37, 49, 50])), (56, .string (ByteArray.mk #[19])), (57, .string (ByteArray.mk #[37, 49, 51])), (58, .string (ByteArray.mk #[20])), (59, .string (ByteArray.mk #[37, 49, 52])), (60, .string (ByteArray.mk #[21])), (61, .string (ByteArray.mk #[37, 49, 53])), (62, .string (ByteArray.mk #[22])), (63, .string (ByteArray.mk #[37, 49, 54])), (64, .string (ByteArray.mk #[23])), (65, .string (ByteArray.mk #[37, 49, 55])), (66, .string (ByteArray.mk #[24])), (67, .string (ByteArray.mk #[37, 49, 56])), (68, .string (ByteArray.mk #[25])), (69, .string (ByteArray.mk #[37, 49, 57])), (70, .string (ByteArray.mk #[26])), (71, .string (ByteArray.mk #[37, 49, 65])), (72, .string (ByteArray.mk #[27])), (73, .string (ByteArray.mk #[37, 49, 66])), (74, .string (ByteArray.mk #[28])), (75, .string (ByteArray.mk #[37, 49, 67])), (76, .string (ByteArray.mk #[29])), (77, .string (ByteArray.mk #[37, 49, 68])), (78, .string (ByteArray.mk #[30])), (79, .string (ByteArray.mk #[37, 49, 69])), (80, .string (ByteArray.mk #[31])), (81, .string (ByteArray.mk #[37, 49, 70])), (82, .string (ByteArray.mk #[127])), (83, .string (ByteArray.mk #[37, 55, 70])), (84, .string (ByteArray.mk #[128])), (85, .string (ByteArray.mk #[37, 56, 48])), (86, .string (ByteArray.mk #[129])), (87, .string (ByteArray.mk #[37, 56, 49])), (88, .string (ByteArray.mk #[130])), (89, .string (ByteArray.mk #[37, 56, 50])), (90, .string (ByteArray.mk #[131])), (91, .string (ByteArray.mk #[37, 56, 51])), (92, .string (ByteArray.mk #[132])), (93, .string (ByteArray.mk #[37, 56, 52])), (94, .string (ByteArray.mk #[133])), (95, .string (ByteArray.mk #[37, 56, 53])), (96, .string (ByteArray.mk #[134])), (97, .string (ByteArray.mk #[37, 56, 54])), (98, .string (ByteArray.mk #[135])), (99, .string (ByteArray.mk #[37, 56, 55])), (100, .string (ByteArray.mk #[136])), (101, .string (ByteArray.mk #[37, 56, 56])), (102, .string (ByteArray.mk #[137])), (103, .string (ByteArray.mk #[37, 56, 57])), (104, .string (ByteArray.mk #[138])), (105, .string (ByteArray.mk #[37, 56, 65])), (106, .string (ByteArray.mk #[139])), (107, .string (ByteArray.mk #[37, 56, 66])), (108, .string (ByteArray.mk #[140])), (109, .string (ByteArray.mk #[37, 56, 67])), (110, .string (ByteArray.mk #[141])), (111, .string (ByteArray.mk #[37, 56, 68])), (112, .string (ByteArray.mk #[142])), (113, .string (ByteArray.mk #[37, 56, 69])), (114, .string (ByteArray.mk #[143])), (115, .string (ByteArray.mk #[37, 56, 70])), (116, .string (ByteArray.mk #[144])), (117, .string (ByteArray.mk #[37, 57, 48])), (118, .string (ByteArray.mk #[145])), (119, .string (ByteArray.mk #[37, 57, 49])), (120, .string (ByteArray.mk #[146])), (121, .string (ByteArray.mk #[37, 57, 50])), (122, .string (ByteArray.mk #[147])), (123, .string (ByteArray.mk #[37, 57, 51])), (124, .string (ByteArray.mk #[148])), (125, .string (ByteArray.mk #[37, 57, 52])), (126, .string (ByteArray.mk #[149])), (127, .string (ByteArray.mk #[37, 57, 53])), (128, .string (ByteArray.mk #[150])), (129, .string (ByteArray.mk #[37, 57, 54])), (130, .string (ByteArray.mk #[151])), (131, .string (ByteArray.mk #[37, 57, 55])), (132, .string (ByteArray.mk #[152])), (133, .string (ByteArray.mk #[37, 57, 56])), (134, .string (ByteArray.mk #[153])), (135, .string (ByteArray.mk #[37, 57, 57])), (136, .string (ByteArray.mk #[154])), (137, .string (ByteArray.mk #[37, 57, 65])), (138, .string (ByteArray.mk #[155])), (139, .string (ByteArray.mk #[37, 57, 66])), (140, .string (ByteArray.mk #[156])), (141, .string (ByteArray.mk #[37, 57, 67])), (142, .string (ByteArray.mk #[157])), (143, .string (ByteArray.mk #[37, 57, 68])), (144, .string (ByteArray.mk #[158])), (145, .string (ByteArray.mk #[37, 57, 69])), (146, .string (ByteArray.mk #[159])), (147, .string (ByteArray.mk #[37, 57, 70])), (148, .string (ByteArray.mk #[160])), (149, .string (ByteArray.mk #[37, 65, 48])), (150, .string (ByteArray.mk #[161])), (151, .string (ByteArray.mk #[37, 65, 49])), (152, .string (ByteArray.mk #[162])), (153, .string (ByteArray.mk #[37, 65, 50])), (154, .string (ByteArray.mk #[163])), (155, .string (ByteArray.mk #[37, 65, 51])), (156, .string (ByteArray.mk #[164])), (157, .string (ByteArray.mk #[37, 65, 52])), (158, .string (ByteArray.mk #[165])), (159, .string (ByteArray.mk #[37, 65, 53])), (160, .string (ByteArray.mk #[166])), (161, .string (ByteArray.mk #[37, 65, 54])), (162, .string (ByteArray.mk #[167])), (163, .string (ByteArray.mk #[37, 65, 55])), (164, .string (ByteArray.mk #[168])), (165, .string (ByteArray.mk #[37, 65, 56])), (166, .string (ByteArray.mk #[169])), (167, .string (ByteArray.mk #[37, 65, 57])), (168, .string (ByteArray.mk #[170])), (169, .string (ByteArray.mk #[37, 65, 65])), (170, .string (ByteArray.mk #[171])), (171, .string (ByteArray.mk #[37, 65, 66])), (172, .string (ByteArray.mk #[172])), (173, .string (ByteArray.mk #[37, 65, 67])), (174, .string (ByteArray.mk #[173])), (175, .string (ByteArray.mk #[37, 65, 68])), (176, .string (ByteArray.mk #[174])), (177, .string (ByteArray.mk #[37, 65, 69])), (178, .string (ByteArray.mk #[175])), (179, .string (ByteArray.mk #[37, 65, 70])), (180, .string (ByteArray.mk #[176])), (181, .string (ByteArray.mk #[37, 66, 48])), (182, .string (ByteArray.mk #[177])), (183, .string (ByteArray.mk #[37, 66, 49])), (184, .string (ByteArray.mk #[178])), (185, .string (ByteArray.mk #[37, 66, 50])), (186, .string (ByteArray.mk #[179])), (187, .string (ByteArray.mk #[37, 66, 51])), (188, .string (ByteArray.mk #[180])), (189, .string (ByteArray.mk #[37, 66, 52])), (190, .string (ByteArray.mk #[181])), (191, .string (ByteArray.mk #[37, 66, 53])), (192, .string (ByteArray.mk #[182])), (193, .string (ByteArray.mk #[37, 66, 54])), (194, .string (ByteArray.mk #[183])), (195, .string (ByteArray.mk #[37, 66, 55])), (196, .string (ByteArray.mk #[184])), (197, .string (ByteArray.mk #[37, 66, 56])), (198, .string (ByteArray.mk #[185])), (199, .string (ByteArray.mk #[37, 66, 57])), (200, .string (ByteArray.mk #[186])), (201, .string (ByteArray.mk #[37, 66, 65])), (202, .string (ByteArray.mk #[187])), (203, .string (ByteArray.mk #[37, 66, 66])), (204, .string (ByteArray.mk #[188])), (205, .string (ByteArray.mk #[37, 66, 67])), (206, .string (ByteArray.mk #[189])), (207, .string (ByteArray.mk #[37, 66, 68])), (208, .string (ByteArray.mk #[190])), (209, .string (ByteArray.mk #[37, 66, 69])), (210, .string (ByteArray.mk #[191])), (211, .string (ByteArray.mk #[37, 66, 70])), (212, .string (ByteArray.mk #[192])), (213, .string (ByteArray.mk #[37, 67, 48])), (214, .string (ByteArray.mk #[193])), (215, .string (ByteArray.mk #[37, 67, 49])), (216, .string (ByteArray.mk #[194])), (217, .string (ByteArray.mk #[37, 67, 50])), (218, .string (ByteArray.mk #[195])), (219, .string (ByteArray.mk #[37, 67, 51])), (220, .string (ByteArray.mk #[196])), (221, .string (ByteArray.mk #[37, 67, 52])), (222, .string (ByteArray.mk #[197])), (223, .string (ByteArray.mk #[37, 67, 53])), (224, .string (ByteArray.mk #[198])), (225, .string (ByteArray.mk #[37, 67, 54])), (226, .string (ByteArray.mk #[199])), (227, .string (ByteArray.mk #[37, 67, 55])), (228, .string (ByteArray.mk #[200])), (229, .string (ByteArray.mk #[37, 67, 56])), (230, .string (ByteArray.mk #[201])), (231, .string (ByteArray.mk #[37, 67, 57])), (232, .string (ByteArray.mk #[202])), (233, .string (ByteArray.mk #[37, 67, 65])), (234, .string (ByteArray.mk #[203])), (235, .string (ByteArray.mk #[37, 67, 66])), (236, .string (ByteArray.mk #[204])), (237, .string (ByteArray.mk #[37, 67, 67])), (238, .string (ByteArray.mk #[205])), (239, .string (ByteArray.mk #[37, 67, 68])), (240, .string (ByteArray.mk #[206])), (241, .string (ByteArray.mk #[37, 67, 69])), (242, .string (ByteArray.mk #[207])), (243, .string (ByteArray.mk #[37, 67, 70])), (244, .string (ByteArray.mk #[208])), (245, .string (ByteArray.mk #[37, 68, 48])), (246, .string (ByteArray.mk #[209])), (247, .string (ByteArray.mk #[37, 68, 49])), (248, .string (ByteArray.mk #[210])), (249, .string (ByteArray.mk #[37, 68, 50])), (250, .string (ByteArray.mk #[211])), (251, .string (ByteArray.mk #[37, 68, 51])), (252, .string (ByteArray.mk #[212])), (253, .string (ByteArray.mk #[37, 68, 52])), (254, .string (ByteArray.mk #[213])), (255, .string (ByteArray.mk #[37, 68, 53])), (256, .string (ByteArray.mk #[214])), (257, .string (ByteArray.mk #[37, 68, 54])), (258, .string (ByteArray.mk #[215])), (259, .string (ByteArray.mk #[37, 68, 55])), (260, .string (ByteArray.mk #[216])), (261, .string (ByteArray.mk #[37, 68, 56])), (262, .string (ByteArray.mk #[217])), (263, .string (ByteArray.mk #[37, 68, 57])), (264, .string (ByteArray.mk #[218])), (265, .string (ByteArray.mk #[37, 68, 65])), (266, .string (ByteArray.mk #[219])), (267, .string (ByteArray.mk #[37, 68, 66])), (268, .string (ByteArray.mk #[220])), (269, .string (ByteArray.mk #[37, 68, 67])), (270, .string (ByteArray.mk #[221])), (271, .string (ByteArray.mk #[37, 68, 68])), (272, .string (ByteArray.mk #[222])), (273, .string (ByteArray.mk #[37, 68, 69])), (274, .string (ByteArray.mk #[223])), (275, .string (ByteArray.mk #[37, 68, 70])), (276, .string (ByteArray.mk #[224])), (277, .string (ByteArray.mk #[37, 69, 48])), (278, .string (ByteArray.mk #[225])), (279, .string (ByteArray.mk #[37, 69, 49])), (280, .string (ByteArray.mk #[226])), (281, .string (ByteArray.mk #[37, 69, 50])), (282, .string (ByteArray.mk #[227])), (283, .string (ByteArray.mk #[37, 69, 51])), (284, .string (ByteArray.mk #[228])), (285, .string (ByteArray.mk #[37, 69, 52])), (286, .string (ByteArray.mk #[229])), (287, .string (ByteArray.mk #[37, 69, 53])), (288, .string (ByteArray.mk #[230])), (289, .string (ByteArray.mk #[37, 69, 54])), (290, .string (ByteArray.mk #[231])), (291, .string (ByteArray.mk #[37, 69, 55])), (292, .string (ByteArray.mk #[232])), (293, .string (ByteArray.mk #[37, 69, 56])), (294, .string (ByteArray.mk #[233])), (295, .string (ByteArray.mk #[37, 69, 57])), (296, .string (ByteArray.mk #[234])), (297, .string (ByteArray.mk #[37, 69, 65])), (298, .string (ByteArray.mk #[235])), (299, .string (ByteArray.mk #[37, 69, 66])), (300, .string (ByteArray.mk #[236])), (301, .string (ByteArray.mk #[37, 69, 67])), (302, .string (ByteArray.mk #[237])), (303, .string (ByteArray.mk #[37, 69, 68])), (304, .string (ByteArray.mk #[238])), (305, .string (ByteArray.mk #[37, 69, 69])), (306, .string (ByteArray.mk #[239])), (307, .string (ByteArray.mk #[37, 69, 70])), (308, .string (ByteArray.mk #[240])), (309, .string (ByteArray.mk #[37, 70, 48])), (310, .string (ByteArray.mk #[241])), (311, .string (ByteArray.mk #[37, 70, 49])), (312, .string (ByteArray.mk #[242])), (313, .string (ByteArray.mk #[37, 70, 50])), (314, .string (ByteArray.mk #[243])), (315, .string (ByteArray.mk #[37, 70, 51])), (316, .string (ByteArray.mk #[244])), (317, .string (ByteArray.mk #[37, 70, 52])), (318, .string (ByteArray.mk #[245])), (319, .string (ByteArray.mk #[37, 70, 53])), (320, .string (ByteArray.mk #[246])), (321, .string (ByteArray.mk #[37, 70, 54])), (322, .string (ByteArray.mk #[247])), (323, .string (ByteArray.mk #[37, 70, 55])), (324, .string (ByteArray.mk #[248])), (325, .string (ByteArray.mk #[37, 70, 56])), (326, .string (ByteArray.mk #[249])), (327, .string (ByteArray.mk #[37, 70, 57])), (328, .string (ByteArray.mk #[250])), (329, .string (ByteArray.mk #[37, 70, 65])), (330, .string (ByteArray.mk #[251])), (331, .string (ByteArray.mk #[37, 70, 66])), (332, .string (ByteArray.mk #[252])), (333, .string (ByteArray.mk #[37, 70, 67])), (334, .string (ByteArray.mk #[253])), (335, .string (ByteArray.mk #[37, 70, 68])), (336, .string (ByteArray.mk #[254])), (337, .string (ByteArray.mk #[37, 70, 69])), (338, .string (ByteArray.mk #[255])), (339, .string (ByteArray.mk #[37, 70, 70]))]).run P w = .ok (.slice r1q r1n r1c) w2 ∧
 R (.returned (.slice r1q r1n r1c)) w2

noncomputable def g_htmlLinkEscaper.ac (R : EP) : AC :=
  (.leaf (sel [] g_htmlLinkEscaper.body))
theorem g_htmlLinkEscaper.good (R : EP) : Good P 2 (g_htmlLinkEscaper.ac R) (QF P [.tmp 0] R) :=
  trivial
theorem g_htmlLinkEscaper.eq (R : EP) (w : World) : g_htmlLinkEscaper R w = vcA P 2 (g_htmlLinkEscaper.ac R) (QF P [.tmp 0] R) (fr0 []) w := by kernel_rfl
theorem g_htmlLinkEscaper.sound {R : EP} {w : World} (h : g_htmlLinkEscaper R w) : callE P i_htmlLinkEscaper #[] R w :=
  callE_fin (c := g_htmlLinkEscaper.body) Tryz.func253 Tryz.call253 (by kernel_rfl) (by kernel_rfl) (by kernel_rfl) (by kernel_rfl) (by kernel_rfl) (g_htmlLinkEscaper.good R) (g_htmlLinkEscaper.eq R w) h
namespace g_htmlQuoteEscaper
noncomputable def body : Code := bodyOf Tryz.f255
end g_htmlQuoteEscaper
def g_htmlQuoteEscaper (R : EP) (w : World) : Prop :=
 ∃ (r1q : OA), ∃ (r1n : Nat), ∃ (r1c : Nat), ∃ w2, (Instr.buildSlice ty_zzPairs 8 #[(0, .string (ByteArray.mk #[34])), (1, .string (ByteArray.mk #[38, 113, 117, 111, 116, 59])), (2, .string (ByteArray.mk #[38])), (3, .string (ByteArray.mk #[38, 97, 109, 112, 59])), (4, .string (ByteArray.mk #[60])), (5, .string (ByteArray.mk #[38, 108, 116, 59])), (6, .string (ByteArray.mk #[62])), (7, .string (ByteArray.mk #[38, 103, 116, 59]))]).run P w = .ok (.slice r1q r1n r1c) w2 ∧
 R (.returned (.slice r1q r1n r1c)) w2

noncomputable def g_htmlQuoteEscaper.ac (R : EP) : AC :=
  (.leaf (sel [] g_htmlQuoteEscaper.body))
theorem g_htmlQuoteEscaper.good (R : EP) : Good P 2 (g_htmlQuoteEscaper.ac R) (QF P [.tmp 0] R) :=
  trivial
theorem g_htmlQuoteEscaper.eq (R : EP) (w : World) : g_htmlQuoteEscaper R w = vcA P 2 (g_htmlQuoteEscaper.ac R) (QF P [.tmp 0] R) (fr0 []) w := by kernel_rfl
theorem g_htmlQuoteEscaper.sound {R : EP} {w : World} (h : g_htmlQuoteEscaper R w) : callE P i_htmlQuoteEscaper #[] R w :=
  callE_fin (c := g_htmlQuoteEscaper.body) Tryz.func255 Tryz.call255 (by kernel_rfl) (by kernel_rfl) (by kernel_rfl) (by kernel_rfl) (by kernel_rfl) (g_htmlQuoteEscaper.good R) (g_htmlQuoteEscaper.eq R w) h
namespace g_zzPairs_Replace
noncomputable def body : Code := bodyOf Tryz.f254
end g_zzPairs_Replace
def g_zzPairs_Replace (R : EP) (x0q : OA) (x0n : Nat) (x0c : Nat) (x1 : BA) (w : World) : Prop :=
 box w #[.slice none 0 0, .int .i64 0, .int .i8 0] ty_bytes_Buffer fun b1 w2 =>
 callE P i_zzPairs_WriteString #[.slice x0q x0n x0c, .pointer (some ⟨b1, 0, none⟩), .string x1] (fun e w4 => e = .returned (.tuple #[]) ∧
 callE P i_bytes_Buffer_String #[.pointer (some ⟨b1, 0, none⟩)] (fun e w6 => ∃ (r5 : BA), e = .returned (.string r5) ∧
 R (.returned (.string r5)) w6) w4) w2

noncomputable def g_zzPairs_Replace.ac (R : EP) : AC :=
  (.leaf (sel [] g_zzPairs_Replace.body))
theorem g_zzPairs_Replace.good (R : EP) : Good P 10 (g_zzPairs_Replace.ac R) (QF P [.tmp 4] R) :=
  trivial
theorem g_zzPairs_Replace.eq (R : EP) (x0q : OA) (x0n : Nat) (x0c : Nat) (x1 : BA) (w : World) : g_zzPairs_Replace R x0q x0n x0c x1 w = vcA P 10 (g_zzPairs_Replace.ac R) (QF P [.tmp 4] R) (fr0 [.slice x0q x0n x0c, .string x1]) w := by kernel_rfl
theorem g_zzPairs_Replace.sound {R : EP} {x0q : OA} {x0n : Nat} {x0c : Nat} {x1 : ByteArray} {w : World} (h : g_zzPairs_Replace R x0q x0n x0c x1 w) : callE P i_zzPairs_Replace #[.slice x0q x0n x0c, .string x1] R w :=
  callE_fin (c := g_zzPairs_Replace.body) Tryz.func254 Tryz.call254 (by kernel_rfl) (by kernel_rfl) (by kernel_rfl) (by kernel_rfl) (by kernel_rfl) (g_zzPairs_Replace.good R) (g_zzPairs_Replace.eq R x0q x0n x0c x1 w) h
namespace g_zzPairs_WriteString
noncomputable def body : Code := bodyOf Tryz.f247
def bl2 (R : EP) (X0_1_1_0 : OA → Nat → Nat → OA → BA → Int → WP) (X0_1_1_0_0_1_0_0_0_1_0 : OA → Nat → Nat → OA → BA → Int → Int → WP) (x0q : OA) (x0n : Nat) (x0c : Nat) (x1 : OA) (x2 : BA) (x6 : Int) (x7 : Int) (w : World) : Prop :=
 br (decide (x7 < (x0n : Int)))
 (tk w fun w1 =>
 0 ≤ x6 ∧ x6 < (x2.size : Int) ∧
 0 ≤ x7 ∧ x7 < (x0n : Int) ∧
 nilP x0q fun a2 =>
 ∃ (v3 : BA), w1.cell? (a2.add (Int.toNat x7 * 1)) = some (.string v3) ∧
 0 ≤ (0 : Int) ∧ 0 < (v3.size : Int) ∧
 br ((bt x2 x6) == (bt v3 0))
 (0 ≤ (IntKind.i64.wrap (x7 + 1)) ∧ (IntKind.i64.wrap (x7 + 1)) < (x0n : Int) ∧
 nilP x0q fun a4 =>
 ∃ (v5 : BA), w1.cell? (a4.add (Int.toNat (IntKind.i64.wrap (x7 + 1)) * 1)) = some (.string v5) ∧
 callE P i_bytes_Buffer_WriteString #[.pointer x1, .string v5] (fun e w7 => ∃ (r6_0 : Int), ∃ (r6_1 : Value), e = .returned (.tuple #[.int .i64 r6_0, r6_1]) ∧
 X0_1_1_0 x0q x0n x0c x1 x2 (IntKind.i64.wrap (x6 + 1)) w7) w1)
 (X0_1_1_0_0_1_0_0_0_1_0 x0q x0n x0c x1 x2 x6 (IntKind.i64.wrap (x7 + 2)) w1))
 (0 ≤ x6 ∧ x6 < (x2.size : Int) ∧
 callE P i_bytes_Buffer_WriteByte #[.pointer x1, .int .u8 (bt x2 x6)] (fun e w9 => ∃ (r8 : Value), e = .returned r8 ∧
 X0_1_1_0 x0q x0n x0c x1 x2 (IntKind.i64.wrap (x6 + 1)) w9) w)
def l2 (R : EP) (X0_1_1_0 : OA → Nat → Nat → OA → BA → Int → WP) (x0q : OA) (x0n : Nat) (x0c : Nat) (x1 : OA) (x2 : BA) (x6 : Int) (x7 : Int) (w : World) : Prop :=
  ∀ X : OA → Nat → Nat → OA → BA → Int → Int → WP, (∀ x0q x0n x0c x1 x2 x6 x7 w, bl2 R X0_1_1_0 X x0q x0n x0c x1 x2 x6 x7 w → X x0q x0n x0c x1 x2 x6 x7 w) → X x0q x0n x0c x1 x2 x6 x7 w

noncomputable def al2 (R : EP) (X0_1_1_0 : OA → Nat → Nat → OA → BA → Int → WP) (X0_1_1_0_0_1_0_0_0_1_0 : OA → Nat → Nat → OA → BA → Int → Int → WP) : AC :=
  (.seq (.leaf (sel [0, 1, 1, 0, 0, 1, 0, 0, 0, 1, 0, 0, 0] body)) (.seq (.block 3 (.seq (.draw (.pure 0 (.pure 1 (.pure 2 (.pure 3 (.pure 4 (.pure 5 (.load 6 (.pure 7 (.pure 8 .done))))))))) (sel [0, 1, 1, 0, 0, 1, 0, 0, 0, 1, 0, 0, 1, 0, 0, 0] body)) (.leaf (sel [0, 1, 1, 0, 0, 1, 0, 0, 0, 1, 0, 0, 1, 0, 0, 1] body)))) (.leaf (sel [0, 1, 1, 0, 0, 1, 0, 0, 0, 1, 0, 0, 1, 1] body))))
def bl1 (R : EP) (X0_1_1_0 : OA → Nat → Nat → OA → BA → Int → WP) (x0q : OA) (x0n : Nat) (x0c : Nat) (x1 : OA) (x2 : BA) (x6 : Int) (w : World) : Prop :=
 br (decide (x6 < (x2.size : Int)))
 (l2 R X0_1_1_0 x0q x0n x0c x1 x2 x6 0 w)
 (R (.returned (.tuple #[])) w)
def l1 (R : EP) (x0q : OA) (x0n : Nat) (x0c : Nat) (x1 : OA) (x2 : BA) (x6 : Int) (w : World) : Prop :=
  ∀ X : OA → Nat → Nat → OA → BA → Int → WP, (∀ x0q x0n x0c x1 x2 x6 w, bl1 R X x0q x0n x0c x1 x2 x6 w → X x0q x0n x0c x1 x2 x6 w) → X x0q x0n x0c x1 x2 x6 w

noncomputable def al1 (R : EP) (X0_1_1_0 : OA → Nat → Nat → OA → BA → Int → WP) : AC :=
  (.seq (.leaf (sel [0, 1, 1, 0, 0, 0] body)) (.seq (.block 1 (.seq (.seq (.leaf (sel [0, 1, 1, 0, 0, 1, 0, 0, 0, 0] body)) (.block 2 (.loop (leaf [(0, .s .slice), (1, .s .ptr), (2, .s .str), (6, .s (.int .i64)), (7, .s (.int .i64))] (l2 R X0_1_1_0)) (sel [0, 1, 1, 0, 0, 1, 0, 0, 0, 1, 0, 0] body)))) (.leaf (sel [0, 1, 1, 0, 0, 1, 0, 0, 1] body)))) (.leaf (sel [0, 1, 1, 0, 0, 1, 1] body))))
end g_zzPairs_WriteString
def g_zzPairs_WriteString (R : EP) (x0q : OA) (x0n : Nat) (x0c : Nat) (x1 : OA) (x2 : BA) (w : World) : Prop :=
 g_zzPairs_WriteString.l1 R x0q x0n x0c x1 x2 0 w

noncomputable def g_zzPairs_WriteString.ac (R : EP) : AC :=
  (.scope (.seq (.leaf (sel [0, 0] g_zzPairs_WriteString.body)) (.seq (.leaf (sel [0, 1, 0] g_zzPairs_WriteString.body)) (.block 0 (.loop (leaf [(0, .s .slice), (1, .s .ptr), (2, .s .str), (6, .s (.int .i64))] (g_zzPairs_WriteString.l1 R)) (sel [0, 1, 1, 0, 0] g_zzPairs_WriteString.body))))))
theorem g_zzPairs_WriteString.good (R : EP) : Good P 41 (g_zzPairs_WriteString.ac R) (QF P [] R) :=
  ⟨trivial, ⟨trivial, (loopG (g_zzPairs_WriteString.al1 R) (g_zzPairs_WriteString.bl1 R) (fun _ => by kernel_rfl) (fun X0_1_1_0 => ⟨trivial, ⟨⟨⟨trivial, (loopG (g_zzPairs_WriteString.al2 R X0_1_1_0) (g_zzPairs_WriteString.bl2 R X0_1_1_0) (fun _ => by kernel_rfl) (fun X0_1_1_0_0_1_0_0_0_1_0 => ⟨trivial, ⟨⟨⟨by kernel_rfl, by kernel_rfl, fun _ _ _ h => h⟩, trivial⟩, trivial⟩⟩) (fun X0_1_1_0_0_1_0_0_0_1_0 => by intro x0q x0n x0c x1 x2 x6 x7 ρ w; kernel_rfl) (fun X h _ _ _ _ _ _ _ _ g => g X h))⟩, trivial⟩, trivial⟩⟩) (fun X0_1_1_0 => by intro x0q x0n x0c x1 x2 x6 ρ w; kernel_rfl) (fun X h _ _ _ _ _ _ _ g => g X h))⟩⟩
theorem g_zzPairs_WriteString.eq (R : EP) (x0q : OA) (x0n : Nat) (x0c : Nat) (x1 : OA) (x2 : BA) (w : World) : g_zzPairs_WriteString R x0q x0n x0c x1 x2 w = vcA P 41 (g_zzPairs_WriteString.ac R) (QF P [] R) (fr0 [.slice x0q x0n x0c, .pointer x1, .string x2]) w := by kernel_rfl
theorem g_zzPairs_WriteString.sound {R : EP} {x0q : OA} {x0n : Nat} {x0c : Nat} {x1 : OA} {x2 : ByteArray} {w : World} (h : g_zzPairs_WriteString R x0q x0n x0c x1 x2 w) : callE P i_zzPairs_WriteString #[.slice x0q x0n x0c, .pointer x1, .string x2] R w :=
  callE_fin (c := g_zzPairs_WriteString.body) Tryz.func247 Tryz.call247 (by kernel_rfl) (by kernel_rfl) (by kernel_rfl) (by kernel_rfl) (by kernel_rfl) (g_zzPairs_WriteString.good R) (g_zzPairs_WriteString.eq R x0q x0n x0c x1 x2 w) h
end Go.Proofs.YtihmcipajjakgaaGreatDoor

set_option linter.unusedVariables false
namespace Go.Proofs.YtihmcipajjakgaaGreatDoor
open Go.Proofs Go.IntWalk Go.RowKit
variable {σ : Out} {w : World} {L L' : List Chunk} {R : Ending → World → Prop}
abbrev Prs := List (UInt8 × List UInt8)
def escB (ps : Prs) (c : UInt8) : List UInt8 := match ps.find? (fun p => p.1 == c) with | some p => p.2 | none => [c]
def escS (ps : Prs) (s : List UInt8) : List UInt8 := s.flatMap (escB ps)
def pairC : Prs → List Value
  | [] => []
  | p :: ps => .string (bs [p.1]) :: .string (bs p.2) :: pairC ps
theorem pairC_key : ∀ {ps : Prs} {j : Nat} (h : j < ps.length), (pairC ps)[2 * j]? = some (.string (bs [ps[j].1]))
  | p :: ps, 0, h => rfl
  | p :: ps, j + 1, h => by
    rw [show 2 * (j + 1) = 2 * j + 1 + 1 by omega]
    simp only [pairC, List.getElem?_cons_succ, List.getElem_cons_succ]
    exact pairC_key (by simpa using h)
theorem pairC_val : ∀ {ps : Prs} {j : Nat} (h : j < ps.length), (pairC ps)[2 * j + 1]? = some (.string (bs ps[j].2))
  | p :: ps, 0, h => rfl
  | p :: ps, j + 1, h => by
    rw [show 2 * (j + 1) + 1 = 2 * j + 1 + 1 + 1 by omega]
    simp only [pairC, List.getElem?_cons_succ, List.getElem_cons_succ]
    exact pairC_val (by simpa using h)
def small8 (ps : Prs) : Bool := ps.all fun p => p.2.length ≤ 8
theorem escB_length {ps : Prs} (h : small8 ps = true) (c : UInt8) : (escB ps c).length ≤ 8 := by
  unfold escB
  split
  · rename_i p hp
    have := List.mem_of_find?_eq_some hp
    simpa using (List.all_eq_true.1 h) p this
  · simp
theorem escS_length {ps : Prs} (h : small8 ps = true) : ∀ s : List UInt8, (escS ps s).length ≤ 8 * s.length
  | [] => by simp [escS]
  | c :: s => by
    have := escS_length h s
    have := escB_length h c
    simp only [escS, List.flatMap_cons, List.length_append, List.length_cons] at *
    omega
theorem escS_cons (ps : Prs) (c : UInt8) (s : List UInt8) : escS ps (c :: s) = escB ps c ++ escS ps s := by simp [escS]
theorem writePairs_ok {b pb c : Nat} {e : TypeId} {l s : List UInt8} {ps : Prs} {M : List Chunk} (hB : Buf b l M) (h : Sat σ w (M ++ L)) (hp : (pb, cel (pairC ps) e) ∈ L) (h8 : small8 ps = true) (hpl : ps.length < 100000)
    (hs : s.length < 4611686018427387904) (hb : l.length + 8 * s.length ≤ 1099511627776)
    (hR : ∀ w M', Buf b (l ++ escS ps s) M' → Sat σ w (M' ++ L) → R (.returned (.tuple #[])) w) :
    callE P i_zzPairs_WriteString #[.slice (some ⟨pb, 0, none⟩) (2 * ps.length) c, .pointer (some ⟨b, 0, none⟩), .string (bs s)] R w := by
  refine g_zzPairs_WriteString.sound ?_
  intro X hX
  have key : ∀ k i l w M, i + k = s.length → Buf b l M → Sat σ w (M ++ L) → l.length + 8 * k ≤ 1099511627776 → (∀ w M', Buf b (l ++ escS ps (s.drop i)) M' → Sat σ w (M' ++ L) → R (.returned (.tuple #[])) w) →
      X (some ⟨pb, 0, none⟩) (2 * ps.length) c (some ⟨b, 0, none⟩) (bs s) i w := by
    intro k
    induction k with
    | zero =>
      intro i l w M hi hB h hb hR
      refine hX _ _ _ _ _ _ _ (br_false (by simp; omega) ?_)
      refine hR w M ?_ h
      rw [List.drop_eq_nil_of_le (by omega)]
      simpa [escS] using hB
    | succ k ih =>
      intro i l w M hi hB h hb hR
      have hil : i < s.length := by omega
      rw [List.drop_eq_getElem_cons hil, escS_cons, ← List.append_assoc] at hR
      have hlen8 := escB_length h8 s[i]
      refine hX _ _ _ _ _ _ _ (br_true (by simp; omega) ?_)
      intro Y hY
      have key2 : ∀ m j w, j + m = ps.length → ps.find? (fun p => p.1 == s[i]) = (ps.drop j).find? (fun p => p.1 == s[i]) → Sat σ w (M ++ L) → Y (some ⟨pb, 0, none⟩) (2 * ps.length) c (some ⟨b, 0, none⟩) (bs s) i ((2 * j : Nat) : Int) w := by
        intro m
        induction m with
        | zero =>
          intro j w hj hf h
          refine hY _ _ _ _ _ _ _ _ (br_false (by simp; omega) ?_)
          refine ⟨by omega, by simp; omega, ?_⟩
          rw [bt_at hil]
          have he : escB ps s[i] = [s[i]] := by
            unfold escB
            rw [hf, List.drop_eq_nil_of_le (by omega)]
            rfl
          rw [he] at hR hlen8
          refine writeB_ok hB h (by omega) fun w M' hB h => ⟨_, rfl, ?_⟩
          rw [i64_inc (by omega)]
          exact ih (i + 1) _ w M' (by omega) hB h (by simp; omega) hR
        | succ m ihm =>
          intro j w hj hf h
          have hjl : j < ps.length := by omega
          refine hY _ _ _ _ _ _ _ _ (br_true (by simp; omega) ?_)
          refine Sat.tk h fun w h => ?_
          refine ⟨by omega, by simp; omega, by omega, by omega, nilP_some ?_⟩
          simp only [Addr.add_lit, Int.toNat_natCast, Nat.mul_one, Nat.zero_add]
          refine ⟨_, Sat.ld h (List.mem_append_right _ hp) (pairC_key hjl), by omega, by simp, ?_⟩
          rw [bt_at hil, show bt (bs [ps[j].1]) 0 = (ps[j].1.toNat : Int) from rfl, u8_beq]
          by_cases hk : s[i] = ps[j].1
          · refine br_true (by simp [hk]) ?_
            have e1 : IntKind.i64.wrap (((2 * j : Nat) : Int) + 1) = ((2 * j + 1 : Nat) : Int) := i64_inc (by omega)
            rw [e1]
            refine ⟨by omega, by omega, nilP_some ?_⟩
            simp only [Addr.add_lit, Int.toNat_natCast, Nat.mul_one, Nat.zero_add]
            refine ⟨_, Sat.ld h (List.mem_append_right _ hp) (pairC_val hjl), ?_⟩
            have he : escB ps s[i] = ps[j].2 := by
              unfold escB
              rw [hf, List.drop_eq_getElem_cons hjl, List.find?_cons_of_pos (by simp [hk])]
            rw [he] at hR hlen8
            refine writeS_ok hB h (by omega) fun w M' hB h => ⟨_, _, rfl, ?_⟩
            rw [i64_inc (by omega)]
            exact ih (i + 1) _ w M' (by omega) hB h (by simp; omega) hR
          · refine br_false (by simpa using hk) ?_
            have e1 : IntKind.i64.wrap (((2 * j : Nat) : Int) + 2) = ((2 * (j + 1) : Nat) : Int) := by simp (disch := omega) only [i64_in]; omega
            rw [e1]
            refine ihm (j + 1) w (by omega) ?_ h
            rw [hf, List.drop_eq_getElem_cons hjl, List.find?_cons_of_neg (by simpa using fun h => hk h.symm)]
      exact key2 ps.length 0 w (by omega) (by rw [List.drop_zero]) h
  exact key s.length 0 l w M (by omega) hB h hb (by rw [List.drop_zero]; exact hR)

theorem pairsReplace_ok {pb c : Nat} {e : TypeId} {s : List UInt8} {ps : Prs} (h : Sat σ w L) (hp : (pb, cel (pairC ps) e) ∈ L) (h8 : small8 ps = true) (hpl : ps.length < 100000) (hs : s.length < 4294967296)
    (hR : ∀ w, Sat σ w L → R (.returned (.string (bs (escS ps s)))) w) :
    callE P i_zzPairs_Replace #[.slice (some ⟨pb, 0, none⟩) (2 * ps.length) c, .string (bs s)] R w := by
  refine g_zzPairs_Replace.sound ?_
  refine Sat.bx h fun b w h => ?_
  refine writePairs_ok (bufNew b) h hp h8 hpl (by omega) (by simp; omega) fun w M hB h => ⟨rfl, ?_⟩
  rw [List.nil_append] at hB
  exact bufStr_ok hB h fun w h => ⟨_, rfl, hR w (h.less M (by intro _; simp only [List.append_eq, cnt_append, cnt_cons, cnt_nil] <;> omega))⟩

theorem buildR {t e : TypeId} {n : Nat} {ps : Array (Nat × Value)} {cs : List Value} (h : Sat σ w L) (ht : P.underlying t = some (.slice e)) (hi : P.info? e = some ((P.info? e).getD default))
    (hz : ((P.info? e).getD default).zero = some (((P.info? e).bind (·.zero)).getD default)) (hs : ((P.info? e).getD default).size = 1) (hn : n ≤ 1000) (hn0 : n ≠ 0)
    (hfill : Instr.fill (fun i => some (i * 1, 1)) ((Array.range (n * 1)).map ((((P.info? e).bind (·.zero)).getD default).cells[· % (((P.info? e).bind (·.zero)).getD default).cells.size]!)) ps.toList = some cs.toArray) {K : Option Addr → Nat → Nat → World → Prop}
    (hK : ∀ b w, Sat σ w ((b, cel cs e) :: L) → K (some ⟨b, 0, none⟩) n n w) : ∃ rq rn rc w1, (Instr.buildSlice t n ps).run P w = .ok (.slice rq rn rc) w1 ∧ K rq rn rc w1 := by
  have hrun := run_buildSlice (P := P) w t e n ps cs.toArray _ _ ht hi hz (by rw [hs]; omega) (by rw [hs]; omega) (by rw [hs]; exact hfill)
  exact ⟨_, _, _, _, hrun, hK _ _ (h.alc cs e)⟩
def htmlPs : Prs := [(34, [38, 113, 117, 111, 116, 59]), (38, [38, 97, 109, 112, 59]), (60, [38, 108, 116, 59]), (62, [38, 103, 116, 59])]
def linkPs : Prs := [(34, [37, 50, 50]), (38, [38, 97, 109, 112, 59]), (60, [37, 51, 67]), (62, [37, 51, 69]), (92, [37, 53, 67]), (32, [37, 50, 48]), (96, [37, 54, 48]), (91, [37, 53, 66]), (93, [37, 53, 68]), (94, [37, 53, 69]), (123, [37, 55, 66]), (125, [37, 55, 68]), (0, [37, 48, 48]), (1, [37, 48, 49]), (2, [37, 48, 50]), (3, [37, 48, 51]), (4, [37, 48, 52]), (5, [37, 48, 53]), (6, [37, 48, 54]), (7, [37, 48, 55]), (8, [37, 48, 56]), (11, [37, 48, 66]), (12, [37, 48, 67]), (14, [37, 48, 69]), (15, [37, 48, 70]), (16, [37, 49, 48]), (17, [37, 49, 49]), (18, [37, 49, 50]), (19, [37, 49, 51]), (20, [37, 49, 52]), (21, [37, 49, 53]), (22, [37, 49, 54]), (23, [37, 49, 55]), (24, [37, 49, 56]), (25, [37, 49, 57]), (26, [37, 49, 65]), (27, [37, 49, 66]), (28, [37, 49, 67]), (29, [37, 49, 68]), (30, [37, 49, 69]), (31, [37, 49, 70]), (127, [37, 55, 70]), (128, [37, 56, 48]), (129, [37, 56, 49]), (130, [37, 56, 50]), (131, [37, 56, 51]), (132, [37, 56, 52]), (133, [37, 56, 53]), (134, [37, 56, 54]), (135, [37, 56, 55]), (136, [37, 56, 56]), (137, [37, 56, 57]), (138, [37, 56, 65]), (139, [37, 56, 66]), (140, [37, 56, 67]), (141, [37, 56, 68]), (142, [37, 56, 69]), (143, [37, 56, 70]), (144, [37, 57, 48]), (145, [37, 57, 49]), (146, [37, 57, 50]), (147, [37, 57, 51]), (148, [37, 57, 52]), (149, [37, 57, 53]), (150, [37, 57, 54]), (151, [37, 57, 55]), (152, [37, 57, 56]), (153, [37, 57, 57]), (154, [37, 57, 65]), (155, [37, 57, 66]), (156, [37, 57, 67]), (157, [37, 57, 68]), (158, [37, 57, 69]), (159, [37, 57, 70]), (160, [37, 65, 48]), (161, [37, 65, 49]), (162, [37, 65, 50]), (163, [37, 65, 51]), (164, [37, 65, 52]), (165, [37, 65, 53]), (166, [37, 65, 54]), (167, [37, 65, 55]), (168, [37, 65, 56]), (169, [37, 65, 57]), (170, [37, 65, 65]), (171, [37, 65, 66]), (172, [37, 65, 67]), (173, [37, 65, 68]), (174, [37, 65, 69]), (175, [37, 65, 70]), (176, [37, 66, 48]), (177, [37, 66, 49]), (178, [37, 66, 50]), (179, [37, 66, 51]), (180, [37, 66, 52]), (181, [37, 66, 53]), (182, [37, 66, 54]), (183, [37, 66, 55]), (184, [37, 66, 56]), (185, [37, 66, 57]), (186, [37, 66, 65]), (187, [37, 66, 66]), (188, [37, 66, 67]), (189, [37, 66, 68]), (190, [37, 66, 69]), (191, [37, 66, 70]), (192, [37, 67, 48]), (193, [37, 67, 49]), (194, [37, 67, 50]), (195, [37, 67, 51]), (196, [37, 67, 52]), (197, [37, 67, 53]), (198, [37, 67, 54]), (199, [37, 67, 55]), (200, [37, 67, 56]), (201, [37, 67, 57]), (202, [37, 67, 65]), (203, [37, 67, 66]), (204, [37, 67, 67]), (205, [37, 67, 68]), (206, [37, 67, 69]), (207, [37, 67, 70]), (208, [37, 68, 48]), (209, [37, 68, 49]), (210, [37, 68, 50]), (211, [37, 68, 51]), (212, [37, 68, 52]), (213, [37, 68, 53]), (214, [37, 68, 54]), (215, [37, 68, 55]), (216, [37, 68, 56]), (217, [37, 68, 57]), (218, [37, 68, 65]), (219, [37, 68, 66]), (220, [37, 68, 67]), (221, [37, 68, 68]), (222, [37, 68, 69]), (223, [37, 68, 70]), (224, [37, 69, 48]), (225, [37, 69, 49]), (226, [37, 69, 50]), (227, [37, 69, 51]), (228, [37, 69, 52]), (229, [37, 69, 53]), (230, [37, 69, 54]), (231, [37, 69, 55]), (232, [37, 69, 56]), (233, [37, 69, 57]), (234, [37, 69, 65]), (235, [37, 69, 66]), (236, [37, 69, 67]), (237, [37, 69, 68]), (238, [37, 69, 69]), (239, [37, 69, 70]), (240, [37, 70, 48]), (241, [37, 70, 49]), (242, [37, 70, 50]), (243, [37, 70, 51]), (244, [37, 70, 52]), (245, [37, 70, 53]), (246, [37, 70, 54]), (247, [37, 70, 55]), (248, [37, 70, 56]), (249, [37, 70, 57]), (250, [37, 70, 65]), (251, [37, 70, 66]), (252, [37, 70, 67]), (253, [37, 70, 68]), (254, [37, 70, 69]), (255, [37, 70, 70])]
theorem buildPairs {n : Nat} {ps : Array (Nat × Value)} (pr : Prs) (h : Sat σ w L) (hn : n ≤ 1000) (hn0 : n ≠ 0)
    (hfill : Instr.fill (fun i => some (i * 1, 1)) ((Array.range (n * 1)).map ((((P.info? ty_string).bind (·.zero)).getD default).cells[· % (((P.info? ty_string).bind (·.zero)).getD default).cells.size]!)) ps.toList = some (pairC pr).toArray) {K : Option Addr → Nat → Nat → World → Prop}
    (hK : ∀ b w, Sat σ w ((b, cel (pairC pr) ty_string) :: L) → K (some ⟨b, 0, none⟩) n n w) : ∃ rq rn rc w1, (Instr.buildSlice ty_zzPairs n ps).run P w = .ok (.slice rq rn rc) w1 ∧ K rq rn rc w1 :=
  buildR h (by kernel_rfl) (by kernel_rfl) (by kernel_rfl) (by kernel_rfl) hn hn0 hfill hK
theorem htmlEscaper_ok (h : Sat σ w L) (hR : ∀ w b, Sat σ w ((b, cel (pairC htmlPs) ty_string) :: L) → R (.returned (.slice (some ⟨b, 0, none⟩) 8 8)) w) : callE P i_htmlEscaper #[] R w := by
  refine g_htmlEscaper.sound ?_
  exact buildPairs htmlPs h (by decide) (by decide) (by kernel_rfl) fun b w h => hR w b h
theorem htmlQuoteEscaper_ok (h : Sat σ w L) (hR : ∀ w b, Sat σ w ((b, cel (pairC htmlPs) ty_string) :: L) → R (.returned (.slice (some ⟨b, 0, none⟩) 8 8)) w) : callE P i_htmlQuoteEscaper #[] R w := by
  refine g_htmlQuoteEscaper.sound ?_
  exact buildPairs htmlPs h (by decide) (by decide) (by kernel_rfl) fun b w h => hR w b h
theorem htmlLinkEscaper_ok (h : Sat σ w L) (hR : ∀ w b, Sat σ w ((b, cel (pairC linkPs) ty_string) :: L) → R (.returned (.slice (some ⟨b, 0, none⟩) 340 340)) w) : callE P i_htmlLinkEscaper #[] R w := by
  refine g_htmlLinkEscaper.sound ?_
  exact buildPairs linkPs h (by decide) (by decide) (by kernel_rfl) fun b w h => hR w b h
end Go.Proofs.YtihmcipajjakgaaGreatDoor


set_option linter.unusedVariables false
namespace Go.Proofs.YtihmcipajjakgaaGreatDoor
open Go.Proofs Go.IntWalk Go.RowKit
variable {σ : Out} {w : World} {L L' : List Chunk} {R : Ending → World → Prop}
def Prints (m : String) (v : Value) (T T' : List Chunk) (f : List UInt8 → List UInt8) : Prop :=
  (∀ l, l.length ≤ (f l).length) ∧
  ∀ (σ : Out) (R : Ending → World → Prop) b l M L w, Buf b l M → Sat σ w (M ++ (T ++ L)) → (f l).length ≤ 549755813888 →
    (∀ w M', Buf b (f l) M' → Sat σ w (M' ++ (T' ++ L)) → R (.returned (.tuple #[])) w) → enterE P (callMethod v m #[.pointer (some ⟨b, 0, none⟩)]) R w
inductive PrintsL (m : String) : List Value → List Chunk → List Chunk → (List UInt8 → List UInt8) → Prop where
  | nil : PrintsL m [] [] [] id
  | cons {v : Value} {vs : List Value} {T T' K K' : List Chunk} {f g : List UInt8 → List UInt8} : Prints m v T T' f → PrintsL m vs K K' g → PrintsL m (v :: vs) (T ++ K) (T' ++ K') (g ∘ f)
theorem PrintsL.mono {m : String} {vs : List Value} {K K' : List Chunk} {f : List UInt8 → List UInt8} (h : PrintsL m vs K K' f) : ∀ l, l.length ≤ (f l).length := by
  induction h with
  | nil => exact fun l => Nat.le_refl _
  | cons h1 _ ih => exact fun l => Nat.le_trans (h1.1 l) (ih _)
theorem printLoop {m : String} {b : Nat} {X : Int → World → Prop} {q : Option Addr} {n c : Nat} {e : TypeId} {vs : List Value} {RM KM KM' M : List Chunk} {l : List UInt8} {f : List UInt8 → List UInt8} {END : World → Prop} (hS : Sl 1 e q n c vs RM)
    (hX : ∀ (j : Int) w, br (decide (j < (n : Int))) (0 ≤ j ∧ j < (n : Int) ∧ nilP q fun a => ∃ (v : Value), w.cell? (a.add (Int.toNat j * 1)) = some v ∧
      enterE P (callMethod v m #[.pointer (some ⟨b, 0, none⟩)]) (fun e w' => e = .returned (.tuple #[]) ∧ X (IntKind.i64.wrap (j + 1)) w') w) (END w) → X j w)
    (hP : PrintsL m vs KM KM' f) (hB : Buf b l M) (h : Sat σ w (M ++ (RM ++ (KM ++ L)))) (hn : n < 4611686018427387904) (hb : (f l).length ≤ 549755813888)
    (hE : ∀ w M', Buf b (f l) M' → Sat σ w (M' ++ (RM ++ (KM' ++ L))) → END w) : X 0 w := by
  have hl := hS.1
  have key : ∀ (vs2 : List Value) (KM KM' : List Chunk) (f : List UInt8 → List UInt8), PrintsL m vs2 KM KM' f → ∀ (vs1 : List Value) (D : List Chunk) l M w, vs1 ++ vs2 = vs → Buf b l M → Sat σ w (M ++ (RM ++ (D ++ (KM ++ L)))) → (f l).length ≤ 549755813888 →
      (∀ w M', Buf b (f l) M' → Sat σ w (M' ++ (RM ++ (D ++ (KM' ++ L)))) → END w) → X (vs1.length : Nat) w := by
    intro vs2 KM KM' f hP
    induction hP with
    | nil =>
      intro vs1 D l M w hv hB h hb hE
      refine hX _ _ (br_false ?_ (hE w M hB h))
      rw [← hv] at hl
      simp at hl
      simp; omega
    | @cons v vs2 T T' K K' f g h1 h2 ih =>
      intro vs1 D l M w hv hB h hb hE
      have hlen : vs1.length < n := by rw [← hv] at hl; simp at hl; omega
      refine hX _ _ (br_true (by simp; omega) ⟨by omega, by omega, ?_⟩)
      have hv1 : vs[vs1.length]? = some v := by rw [← hv]; simp
      obtain ⟨_, _, ⟨rfl, h0, _, _⟩ | ⟨rb, sp, rfl, rfl, _⟩⟩ := hS
      · omega
      · refine nilP_some ?_
        simp only [Addr.add_lit, Int.toNat_natCast, Nat.mul_one, Nat.zero_add]
        refine ⟨v, Sat.ld h (List.mem_append_right _ (.head _)) ?_, ?_⟩
        · rw [List.getElem?_append_left (List.getElem?_eq_some_iff.1 hv1).1]; exact hv1
        · have hmono := h2.mono (f l)
          have h : Sat σ w (M ++ (T ++ ((rb, cel (vs ++ sp) e) :: (D ++ (K ++ L))))) := h.re (by intro _; simp only [List.append_eq, cnt_append, cnt_cons, cnt_nil] <;> omega)
          refine h1.2 σ _ b l M _ w hB h (Nat.le_trans hmono hb) fun w M' hB h => ⟨rfl, ?_⟩
          have h : Sat σ w (M' ++ ([(rb, cel (vs ++ sp) e)] ++ ((D ++ T') ++ (K ++ L)))) := h.re (by intro _; simp only [List.append_eq, cnt_append, cnt_cons, cnt_nil] <;> omega)
          rw [i64_inc (by omega)]
          have := ih (vs1 ++ [v]) (D ++ T') (f l) M' w (by simpa using hv) hB h hb (fun w M' hB h => hE w M' hB (h.re (by intro _; simp only [List.append_eq, cnt_append, cnt_cons, cnt_nil] <;> omega)))
          simpa using this
  exact key vs KM KM' f hP [] [] l M w rfl hB h hb hE

def ab (s : List UInt8) : List UInt8 → List UInt8 := fun l => l ++ s
theorem ab_le (s l : List UInt8) : l.length ≤ (ab s l).length := by simp [ab]
theorem meth_Plain : methB P ty_P_Plain "PrintHTML" i_Plain_PrintHTML = true := by kernel_rfl
theorem plainPrint_ok {b pb : Nat} {l s : List UInt8} {cs : List Value} {e : TypeId} {M : List Chunk} (hB : Buf b l M) (h : Sat σ w (M ++ ((pb, cel (.string (bs s) :: cs) e) :: L))) (hs : s.length < 4294967296) (hb : l.length ≤ 549755813888)
    (hR : ∀ w M', Buf b (l ++ escS htmlPs s) M' → Sat σ w (M' ++ ((pb, cel (.string (bs s) :: cs) e) :: L)) → R (.returned (.tuple #[])) w) :
    callE P i_Plain_PrintHTML #[.pointer (some ⟨pb, 0, none⟩), .pointer (some ⟨b, 0, none⟩)] R w := by
  refine g_Plain_PrintHTML.sound ?_
  refine Sat.tk h fun w h => ?_
  refine nilP_some ?_
  refine ⟨_, Sat.ld h (List.mem_append_right _ (.head _)) rfl, ?_⟩
  refine htmlEscaper_ok h fun w1 eb h1 => ⟨_, _, _, rfl, h.same h1 (List.mem_append_right _ (.head _)) (.tail _ (List.mem_append_right _ (.head _))) 1, ?_⟩
  have h1 : Sat σ w1 (M ++ ((eb, cel (pairC htmlPs) ty_string) :: (pb, cel (.string (bs s) :: cs) e) :: L)) := h1.re (by intro _; simp only [List.append_eq, cnt_append, cnt_cons, cnt_nil] <;> omega)
  refine writePairs_ok (ps := htmlPs) hB h1 (.head _) (by decide) (by decide) (by omega) (by omega) fun w M' hB h => ⟨rfl, hR w M' hB ?_⟩
  exact h.less [(eb, cel (pairC htmlPs) ty_string)] (by intro _; simp only [List.append_eq, cnt_append, cnt_cons, cnt_nil] <;> omega)
theorem plain_prints {pb : Nat} {s : List UInt8} {cs : List Value} {e : TypeId} (hs : s.length < 4294967296) :
    Prints "PrintHTML" (.iface ty_P_Plain (.pointer (some ⟨pb, 0, none⟩))) [(pb, cel (.string (bs s) :: cs) e)] [(pb, cel (.string (bs s) :: cs) e)] (ab (escS htmlPs s)) := by
  refine ⟨ab_le _, fun σ R b l M L w hB h hb hR => enter_meth meth_Plain ?_⟩
  exact plainPrint_ok hB h hs (Nat.le_trans (ab_le _ l) hb) hR
end Go.Proofs.YtihmcipajjakgaaGreatDoor


set_option linter.unusedVariables false
namespace Go.Proofs.YtihmcipajjakgaaGreatDoor
open Go.Proofs Go.IntWalk Go.RowKit
variable {σ : Out} {w : World} {L L' : List Chunk} {R : Ending → World → Prop}
theorem textPrint_ok {b t s e : Nat} {q : Option Addr} {n c : Nat} {raw : List UInt8} {vs : List Value} {RM KM KM' M : List Chunk} {l : List UInt8} {f : List UInt8 → List UInt8} (hS : Sl 1 ty_Inline q n c vs RM) (hn : n < 4611686018427387904)
    (hP : PrintsL "PrintHTML" vs KM KM' f) (hB : Buf b l M) (h : Sat σ w (M ++ (textC t s e q n c raw :: (RM ++ (KM ++ L))))) (hb : (f l).length ≤ 549755813888)
    (hR : ∀ w M', Buf b (f l) M' → Sat σ w (M' ++ (textC t s e q n c raw :: (RM ++ (KM' ++ L)))) → R (.returned (.tuple #[])) w) :
    callE P i_Text_PrintHTML #[.pointer (some ⟨t, 0, none⟩), .pointer (some ⟨b, 0, none⟩)] R w := by
  refine g_Text_PrintHTML.sound ?_
  refine nilP_some ?_
  refine ⟨_, _, _, Sat.ld h (List.mem_append_right _ (.head _)) rfl, ?_⟩
  intro X hX
  have h : Sat σ w (M ++ (RM ++ (KM ++ (textC t s e q n c raw :: L)))) := h.re (by intro _; simp only [List.append_eq, cnt_append, cnt_cons, cnt_nil] <;> omega)
  refine printLoop (X := fun j w => X (some ⟨b, 0, none⟩) q n c (n : Int) j w) (END := fun w => R (.returned (.tuple #[])) w) hS (fun j w hj => hX _ _ _ _ _ _ _ hj) hP hB h hn hb fun w M' hB h => ?_
  exact hR w M' hB (h.re (by intro _; simp only [List.append_eq, cnt_append, cnt_cons, cnt_nil] <;> omega))
theorem meth_Paragraph : methB P ty_P_Paragraph "PrintHTML" i_Paragraph_PrintHTML = true := by kernel_rfl
theorem meth_Document : methB P ty_P_Document "PrintHTML" i_Document_PrintHTML = true := by kernel_rfl
def pOpen : List UInt8 := [60, 112, 62]
def pClose : List UInt8 := [60, 47, 112, 62, 10]
theorem para_prints {nb t s e : Nat} {s' e' : Nat} {q : Option Addr} {n c : Nat} {raw : List UInt8} {vs : List Value} {RM KM KM' : List Chunk} {f : List UInt8 → List UInt8} (hS : Sl 1 ty_Inline q n c vs RM) (hn : n < 4611686018427387904)
    (hP : PrintsL "PrintHTML" vs KM KM' f) :
    Prints "PrintHTML" (.iface ty_P_Paragraph (.pointer (some ⟨nb, 0, none⟩))) (paraC nb s e t :: textC t s' e' q n c raw :: (RM ++ KM)) (paraC nb s e t :: textC t s' e' q n c raw :: (RM ++ KM')) (fun l => f (l ++ pOpen) ++ pClose) := by
  refine ⟨fun l => ?_, fun σ R b l M L w hB h hb hR => enter_meth meth_Paragraph ?_⟩
  · have := hP.mono (l ++ pOpen)
    simp only [List.length_append] at *; omega
  refine g_Paragraph_PrintHTML.sound ?_
  have hm := hP.mono (l ++ pOpen)
  simp only [List.length_append] at hb hm
  refine writeS_ok (s := pOpen) hB h (by omega) fun w M hB h => ⟨_, _, rfl, ?_⟩
  refine nilP_some ?_
  refine ⟨_, Sat.ld h (List.mem_append_right _ (.head _)) rfl, ?_⟩
  have h : Sat σ w (M ++ (textC t s' e' q n c raw :: (RM ++ (KM ++ (paraC nb s e t :: L))))) := h.re (by intro _; simp only [List.append_eq, cnt_append, cnt_cons, cnt_nil] <;> omega)
  refine textPrint_ok hS hn hP hB h (by omega) fun w M hB h => ⟨rfl, ?_⟩
  refine writeS_ok (s := pClose) hB h (by omega) fun w M hB h => ⟨_, _, rfl, ?_⟩
  exact hR w M hB (h.re (by intro _; simp only [List.append_eq, cnt_append, cnt_cons, cnt_nil] <;> omega))
theorem doc_prints {db s e : Nat} {q : Option Addr} {n c : Nat} {lk : Option Nat} {vs : List Value} {RM KM KM' : List Chunk} {f : List UInt8 → List UInt8} (hS : Sl 1 ty_Block q n c vs RM) (hn : n < 4611686018427387904)
    (hP : PrintsL "PrintHTML" vs KM KM' f) :
    Prints "PrintHTML" (.iface ty_P_Document (.pointer (some ⟨db, 0, none⟩))) (docC db s e q n c lk :: (RM ++ KM)) (docC db s e q n c lk :: (RM ++ KM')) f := by
  refine ⟨hP.mono, fun σ R b l M L w hB h hb hR => enter_meth meth_Document ?_⟩
  refine g_Document_PrintHTML.sound ?_
  refine nilP_some ?_
  refine ⟨_, _, _, Sat.ld h (List.mem_append_right _ (.head _)) rfl, ?_⟩
  intro X hX
  have h : Sat σ w (M ++ (RM ++ (KM ++ (docC db s e q n c lk :: L)))) := h.re (by intro _; simp only [List.append_eq, cnt_append, cnt_cons, cnt_nil] <;> omega)
  refine printLoop (X := fun j w => X (some ⟨b, 0, none⟩) q n c (n : Int) j w) (END := fun w => R (.returned (.tuple #[])) w) hS (fun j w hj => hX _ _ _ _ _ _ _ hj) hP hB h hn hb fun w M' hB h => ?_
  exact hR w M' hB (h.re (by intro _; simp only [List.append_eq, cnt_append, cnt_cons, cnt_nil] <;> omega))
theorem toHTML_ok {v : Value} {T T' : List Chunk} {f : List UInt8 → List UInt8} (hP : Prints "PrintHTML" v T T' f) (h : Sat σ w (T ++ L)) (hb : (f []).length ≤ 549755813888)
    (hR : ∀ w, Sat σ w (T' ++ L) → R (.returned (.string (bs (f [])))) w) : callE P i_ToHTML #[v] R w := by
  refine g_ToHTML.sound ?_
  refine Sat.bx h fun b w h => ?_
  refine hP.2 σ _ b [] _ L w (bufNew b) h hb fun w M hB h => ⟨rfl, ?_⟩
  exact bufStr_ok hB h fun w h => ⟨_, rfl, hR w (h.less M (by intro _; simp only [List.append_eq, cnt_append, cnt_cons, cnt_nil] <;> omega))⟩
end Go.Proofs.YtihmcipajjakgaaGreatDoor


set_option linter.unusedVariables false
namespace Go.Proofs.YtihmcipajjakgaaGreatDoor
open Go.Proofs Go.IntWalk Go.RowKit
variable {σ : Out} {w : World} {L L' : List Chunk} {R : Ending → World → Prop}
theorem appRoom {t ty e : TypeId} {bytes : Nat} (r : Row P t e 1 bytes) {b k c : Nat} {cs : List Value} (h : Sat σ w ((b, cel cs e) :: L)) (hk : k < cs.length) (hc : k < c) {v : Value} (hv : v.cells = #[v]) (h1 : v.oneCell' = true)
    (hfill : Instr.fill (fun i => some (i * 1, 1)) ((Array.range (1 * 1)).map (r.z.cells[· % r.z.cells.size]!)) [(0, v)] = some v.cells)
    {K : Option Addr → Nat → Nat → World → Prop} {C : World → Prop} (hC : ∀ w1 X, Sat σ w1 (X :: ((b, cel cs e) :: L)) → C w1) (hK : ∀ w', Sat σ w' ((b, cel (cs.set k v) e) :: L) → K (some ⟨b, 0, none⟩) (k + 1) c w') :
    ∃ rq rn rc w1, (Instr.buildSlice t 1 #[(0, v)]).run P w = .ok (.slice rq rn rc) w1 ∧ C w1 ∧
      ∃ q' n' c' w2, (Builtin.append_ #[t, t] ty #[.slice (some ⟨b, 0, none⟩) k c, .slice rq rn rc]).run P w1 = .ok (.slice q' n' c') w2 ∧ K q' n' c' w2 := by
  have hrun := run_buildSlice (P := P) w t e 1 #[(0, v)] v.cells r.i r.z r.ht r.hi r.hz (by rw [r.hs]; omega) (by rw [r.hs]; omega) (by rw [r.hs]; exact hfill)
  refine ⟨_, _, _, _, hrun, ?_⟩
  have ha := h.alc v.cells.toList e
  have e3 : YtihmcipajjakgaaGreatDoor.alc w v.cells.toList.toArray e = w.alloc (.cells v.cells e) := by rw [Array.toArray_toList]; rfl
  rw [e3] at ha
  generalize hw1 : w.alloc (.cells v.cells e) = w1 at ha ⊢
  generalize w.heap.size = nb at ha ⊢
  rw [hv] at ha
  have hs : Src P 1 t (.slice (some ⟨nb, 0, none⟩) 1 1) 1 [v] w1 := by
    refine Src.ofSlice w1 r.ht _ 1 1 _ (by simp) (fun j u hu => ?_) (by simp [h1])
    rw [show (Addr.add ⟨nb, 0, none⟩ j) = ⟨nb, j, none⟩ from Addr.add_zero_lit nb j]
    exact ha.ld (List.mem_cons_self ..) hu
  have hs' : Src P r.i.size t (.slice (some ⟨nb, 0, none⟩) 1 1) 1 [v] w1 := by rw [r.hs]; exact hs
  refine ⟨hC _ _ ha, _, _, _, _, run_append_room_src w1 t t ty e r.i r.ht r.hi b 0 k c _ 1 [v] hs' (by omega) ?_ ?_, hK _ ?_⟩
  · intro j hj
    simp at hj
    subst hj
    rw [r.hs, Nat.zero_add, Nat.mul_one, Nat.add_zero, ha.ld (.tail _ (.head _)) (List.getElem?_eq_getElem hk)]
    rfl
  · exact fun j hj => ha.not_frozen (.tail _ (.head _))
  · rw [r.hs]
    have hb : Sat σ w1 ((b, cel cs e) :: (nb, cel [v] e) :: L) := ha.up1
    have := setCells_sat hb (0 + k * 1) [v] (by simp; omega)
    rw [Nat.zero_add, Nat.mul_one] at this ⊢
    have e1 : cs.take k ++ [v] ++ cs.drop (k + 1) = cs.set k v := by
      rw [List.set_eq_take_append_cons_drop, if_pos hk]; simp
    rw [show [v].length = 1 from rfl, e1] at this
    exact this.less [(nb, cel [v] e)] (by intro _; simp only [List.append_eq, cnt_append, cnt_cons, cnt_nil] <;> omega)
theorem appRoom' {t ty e : TypeId} {bytes : Nat} (r : Row P t e 1 bytes) {b k c : Nat} {cs : List Value} (h : Sat σ w ((b, cel cs e) :: L)) (hk : k < cs.length) (hc : k < c) {v : Value} (hv : v.cells = #[v]) (h1 : v.oneCell' = true)
    (hfill : Instr.fill (fun i => some (i * 1, 1)) ((Array.range (1 * 1)).map (r.z.cells[· % r.z.cells.size]!)) [(0, v)] = some v.cells)
    {K : Option Addr → Nat → Nat → World → Prop} (hK : ∀ w', Sat σ w' ((b, cel (cs.set k v) e) :: L) → K (some ⟨b, 0, none⟩) (k + 1) c w') :
    ∃ rq rn rc w1, (Instr.buildSlice t 1 #[(0, v)]).run P w = .ok (.slice rq rn rc) w1 ∧
      ∃ q' n' c' w2, (Builtin.append_ #[t, t] ty #[.slice (some ⟨b, 0, none⟩) k c, .slice rq rn rc]).run P w1 = .ok (.slice q' n' c') w2 ∧ K q' n' c' w2 := by
  obtain ⟨rq, rn, rc, w1, h1, _, h2⟩ := appRoom (ty := ty) r h hk hc hv h1 hfill (C := fun _ => True) (fun _ _ _ => trivial) hK
  exact ⟨rq, rn, rc, w1, h1, h2⟩

inductive Inl where
  | plain (s : List UInt8)
  | openP (s : List UInt8) (i : Nat)
  | emphP (s : List UInt8) (co cc : Bool) (i n : Int)
  | esc (s : List UInt8)
  | code (s : List UInt8)
  | strong (m : List UInt8) (ks : List Inl)
  | del (m : List UInt8) (ks : List Inl)
  | emph (m : List UInt8) (ks : List Inl)
  | link (ks : List Inl) (url title : List UInt8) (tc : UInt8) (corner : Bool)
  | image (ks : List Inl) (url title : List UInt8) (tc : UInt8) (corner : Bool)
  | auto (text url : List UInt8)
  | tag (s : List UInt8)
  | hard
  | soft
  | task (b : Bool)
def ptrV (t : TypeId) (b : Nat) : Value := .iface t (.pointer (some ⟨b, 0, none⟩))
mutual
def InlAt : Inl → Value → List Chunk → Prop
  | .plain s, v, M => ∃ b cs e, v = ptrV ty_P_Plain b ∧ M = [(b, cel (.string (bs s) :: cs) e)]
  | .openP s i, v, M => ∃ b e, v = ptrV ty_P_openPlain b ∧ M = [(b, cel [.string (bs s), .int .i64 i] e)]
  | .emphP s co cc i n, v, M => ∃ b e, v = ptrV ty_P_emphPlain b ∧ M = [(b, cel [.string (bs s), .bool co, .bool cc, .int .i64 i, .int .i64 n] e)]
  | .esc s, v, M => ∃ b e, v = ptrV ty_P_Escaped b ∧ M = [(b, cel [.string (bs s)] e)]
  | .code s, v, M => ∃ b e, v = ptrV ty_P_Code b ∧ M = [(b, cel [.string (bs s)] e)]
  | .strong m ks, v, M => ∃ b e q n c vs RM KM, v = ptrV ty_P_Strong b ∧ M = (b, cel [.string (bs m), .slice q n c] e) :: (RM ++ KM) ∧ Sl 1 ty_Inline q n c vs RM ∧ InlsAt ks vs KM
  | .del m ks, v, M => ∃ b e q n c vs RM KM, v = ptrV ty_P_Del b ∧ M = (b, cel [.string (bs m), .slice q n c] e) :: (RM ++ KM) ∧ Sl 1 ty_Inline q n c vs RM ∧ InlsAt ks vs KM
  | .emph m ks, v, M => ∃ b e q n c vs RM KM, v = ptrV ty_P_Emph b ∧ M = (b, cel [.string (bs m), .slice q n c] e) :: (RM ++ KM) ∧ Sl 1 ty_Inline q n c vs RM ∧ InlsAt ks vs KM
  | .link ks u t tc k, v, M => ∃ b e q n c vs RM KM, v = ptrV ty_P_Link b ∧ M = (b, cel [.slice q n c, .string (bs u), .string (bs t), .int .u8 tc.toNat, .bool k] e) :: (RM ++ KM) ∧ Sl 1 ty_Inline q n c vs RM ∧ InlsAt ks vs KM
  | .image ks u t tc k, v, M => ∃ b e q n c vs RM KM, v = ptrV ty_P_Image b ∧ M = (b, cel [.slice q n c, .string (bs u), .string (bs t), .int .u8 tc.toNat, .bool k] e) :: (RM ++ KM) ∧ Sl 1 ty_Inline q n c vs RM ∧ InlsAt ks vs KM
  | .auto t u, v, M => ∃ b e, v = ptrV ty_P_AutoLink b ∧ M = [(b, cel [.string (bs t), .string (bs u)] e)]
  | .tag s, v, M => ∃ b e, v = ptrV ty_P_HTMLTag b ∧ M = [(b, cel [.string (bs s)] e)]
  | .hard, v, M => ∃ b e, v = ptrV ty_P_HardBreak b ∧ M = [(b, cel [] e)]
  | .soft, v, M => ∃ b e, v = ptrV ty_P_SoftBreak b ∧ M = [(b, cel [] e)]
  | .task k, v, M => ∃ b e, v = ptrV ty_P_Task b ∧ M = [(b, cel [.bool k] e)]
def InlsAt : List Inl → List Value → List Chunk → Prop
  | [], vs, M => vs = [] ∧ M = []
  | t :: ts, vs, M => ∃ v vs' M1 M2, vs = v :: vs' ∧ M = M1 ++ M2 ∧ InlAt t v M1 ∧ InlsAt ts vs' M2
end
theorem InlsAt.append : ∀ {a b : List Inl} {vs us : List Value} {M N : List Chunk}, InlsAt a vs M → InlsAt b us N → InlsAt (a ++ b) (vs ++ us) (M ++ N)
  | [], b, vs, us, M, N, h1, h2 => by obtain ⟨rfl, rfl⟩ := h1; exact h2
  | t :: a, b, vs, us, M, N, h1, h2 => by
    obtain ⟨v, vs', M1, M2, rfl, rfl, h3, h4⟩ := h1
    exact ⟨v, vs' ++ us, M1, M2 ++ N, rfl, by simp, h3, h4.append h2⟩
theorem InlsAt.split : ∀ {a b : List Inl} {vs : List Value} {M : List Chunk}, InlsAt (a ++ b) vs M → ∃ vs1 vs2 M1 M2, vs = vs1 ++ vs2 ∧ M = M1 ++ M2 ∧ InlsAt a vs1 M1 ∧ InlsAt b vs2 M2
  | [], b, vs, M, h => ⟨[], vs, [], M, rfl, rfl, ⟨rfl, rfl⟩, h⟩
  | t :: a, b, vs, M, h => by
    obtain ⟨v, vs', M1, M2, rfl, rfl, h3, h4⟩ := h
    obtain ⟨vs1, vs2, N1, N2, rfl, rfl, h5, h6⟩ := h4.split
    exact ⟨v :: vs1, vs2, M1 ++ N1, N2, rfl, by simp, ⟨v, vs1, M1, N1, rfl, rfl, h3, h5⟩, h6⟩
theorem InlsAt.one {t : Inl} {v : Value} {M : List Chunk} (h : InlAt t v M) : InlsAt [t] [v] M := ⟨v, [], M, [], rfl, by simp, h, rfl, rfl⟩
theorem InlsAt.length : ∀ {a : List Inl} {vs : List Value} {M : List Chunk}, InlsAt a vs M → vs.length = a.length
  | [], vs, M, h => by rw [h.1]; rfl
  | t :: a, vs, M, h => by
    obtain ⟨v, vs', M1, M2, rfl, rfl, h3, h4⟩ := h
    simp [h4.length]
def Inl.ty : Inl → TypeId
  | .plain _ => ty_P_Plain | .openP _ _ => ty_P_openPlain | .emphP _ _ _ _ _ => ty_P_emphPlain | .esc _ => ty_P_Escaped | .code _ => ty_P_Code | .strong _ _ => ty_P_Strong | .del _ _ => ty_P_Del | .emph _ _ => ty_P_Emph
  | .link _ _ _ _ _ => ty_P_Link | .image _ _ _ _ _ => ty_P_Image | .auto _ _ => ty_P_AutoLink | .tag _ => ty_P_HTMLTag | .hard => ty_P_HardBreak | .soft => ty_P_SoftBreak | .task _ => ty_P_Task
theorem InlAt.ptr {t : Inl} {v : Value} {M : List Chunk} (h : InlAt t v M) : ∃ b cs e M', v = ptrV t.ty b ∧ M = (b, cel cs e) :: M' := by
  cases t <;> first
    | (obtain ⟨b, cs, e, rfl, rfl⟩ := h; exact ⟨b, _, _, [], rfl, rfl⟩)
    | (obtain ⟨b, e, rfl, rfl⟩ := h; exact ⟨b, _, _, [], rfl, rfl⟩)
    | (obtain ⟨b, e, q, n, c, vs, RM, KM, rfl, rfl, _⟩ := h; exact ⟨b, _, _, _, rfl, rfl⟩)
end Go.Proofs.YtihmcipajjakgaaGreatDoor


set_option linter.unusedVariables false
namespace Go.Proofs.YtihmcipajjakgaaGreatDoor
open Go.Proofs Go.IntWalk Go.RowKit
variable {σ : Out} {w : World} {L L' : List Chunk} {R : Ending → World → Prop}
theorem und_open : P.underlying ty_P_openPlain = some (.pointer ty_openPlain) := by kernel_rfl
theorem und_emph : P.underlying ty_P_emphPlain = some (.pointer ty_emphPlain) := by kernel_rfl
theorem und_plain : P.underlying ty_P_Plain = some (.pointer ty_Plain) := by kernel_rfl
theorem ta_open_no {t : TypeId} {v : Value} (ht : t ≠ ty_P_openPlain) (w : World) : (Instr.typeAssert (.iface t v) ty_Inline ty_P_openPlain true).run P w = .ok (.tuple #[.pointer none, .bool false]) w :=
  ta_no (by rw [und_open]; intro ms h; cases h) und_open ht (i := (P.info? ty_P_openPlain).getD default) (by kernel_rfl) (by kernel_rfl) w
theorem ta_emph_no {t : TypeId} {v : Value} (ht : t ≠ ty_P_emphPlain) (w : World) : (Instr.typeAssert (.iface t v) ty_Inline ty_P_emphPlain true).run P w = .ok (.tuple #[.pointer none, .bool false]) w :=
  ta_no (by rw [und_emph]; intro ms h; cases h) und_emph ht (i := (P.info? ty_P_emphPlain).getD default) (by kernel_rfl) (by kernel_rfl) w
theorem ta_plain_no {t : TypeId} {v : Value} (ht : t ≠ ty_P_Plain) (w : World) : (Instr.typeAssert (.iface t v) ty_Inline ty_P_Plain true).run P w = .ok (.tuple #[.pointer none, .bool false]) w :=
  ta_no (by rw [und_plain]; intro ms h; cases h) und_plain ht (i := (P.info? ty_P_Plain).getD default) (by kernel_rfl) (by kernel_rfl) w
theorem ta_open_yes {v : Value} (w : World) : (Instr.typeAssert (.iface ty_P_openPlain v) ty_Inline ty_P_openPlain true).run P w = .ok (.tuple #[v, .bool true]) w :=
  ta_yes (by rw [und_open]; intro ms h; cases h) und_open w
theorem ta_emph_yes {v : Value} (w : World) : (Instr.typeAssert (.iface ty_P_emphPlain v) ty_Inline ty_P_emphPlain true).run P w = .ok (.tuple #[v, .bool true]) w :=
  ta_yes (by rw [und_emph]; intro ms h; cases h) und_emph w
theorem ta_plain_yes {v : Value} (w : World) : (Instr.typeAssert (.iface ty_P_Plain v) ty_Inline ty_P_Plain true).run P w = .ok (.tuple #[v, .bool true]) w :=
  ta_yes (by rw [und_plain]; intro ms h; cases h) und_plain w
theorem fillI (t : TypeId) (q : Option Addr) : Instr.fill (fun i => some (i * 1, 1)) ((Array.range (1 * 1)).map (rowInl.z.cells[· % rowInl.z.cells.size]!)) [(0, .iface t (.pointer q))] = some #[.iface t (.pointer q)] := by kernel_rfl

theorem Sl.loadAt {q : Option Addr} {n c j : Nat} {e : TypeId} {vs : List Value} {RM : List Chunk} {v : Value} {K : Addr → Prop} (hS : Sl 1 e q n c vs RM) (h : Sat σ w (RM ++ L)) (hj : vs[j]? = some v)
    (hK : ∀ b, q = some ⟨b, 0, none⟩ → w.cell? ⟨b, j, none⟩ = some v → K ⟨b, 0, none⟩) : nilP q K := by
  obtain ⟨hl, _, ⟨rfl, rfl, _, _⟩ | ⟨rb, sp, rfl, rfl, _⟩⟩ := hS
  · have := (List.getElem?_eq_some_iff.1 hj).1; omega
  · refine nilP_some (hK rb rfl (h.ld (.head _) ?_))
    rw [List.getElem?_append_left (List.getElem?_eq_some_iff.1 hj).1]; exact hj

theorem emph_none_ok {pq q : Option Addr} {n c : Nat} {vs : List Value} {ts : List Inl} {RM EM : List Chunk} (hS : Sl 1 ty_Inline q n c vs RM) (hI : InlsAt ts vs EM) (hno : ∀ t ∈ ts, t.ty ≠ ty_P_openPlain ∧ t.ty ≠ ty_P_emphPlain) (hn : n < 4611686018427387904)
    (h : Sat σ w (RM ++ (EM ++ L))) (hR : ∀ w, Sat σ w (RM ++ (EM ++ L)) → R (.returned (.slice q n c)) w) : callE P i_parseState_emph #[.pointer pq, .slice q 0 c, .slice q n c] R w := by
  refine g_parseState_emph.sound ?_
  refine Sat.bx h fun b1 w h => ?_
  refine Sat.bx h fun b3 w h => ?_
  intro X hX
  have hl := hS.1
  have hlen := hI.length
  have hcell : ∀ (j : Nat) (hj : j < n), ∃ t b, t ≠ ty_P_openPlain ∧ t ≠ ty_P_emphPlain ∧ vs[j]? = some (ptrV t b) := by
    intro j hj
    have hj2 : j < ts.length := by omega
    have hsp : ts = ts.take j ++ (ts[j] :: ts.drop (j + 1)) := by rw [← List.drop_eq_getElem_cons hj2, List.take_append_drop]
    rw [hsp] at hI
    obtain ⟨vs1, vs2, M1, M2, rfl, rfl, h1, h2⟩ := hI.split
    obtain ⟨v, vs', N1, N2, rfl, rfl, h3, h4⟩ := h2
    obtain ⟨b, cs, e, M', rfl, rfl⟩ := h3.ptr
    have := h1.length
    rw [List.length_take, Nat.min_eq_left (by omega)] at this
    exact ⟨_, b, (hno _ (List.getElem_mem hj2)).1, (hno _ (List.getElem_mem hj2)).2, by rw [List.getElem?_append_right (by omega), this]; simp⟩
  have key : ∀ k j w, j + k = n → Sat σ w ((b3, cel [.slice none 0 0, .slice none 0 0, .slice none 0 0, .slice none 0 0, .slice none 0 0] ty_5_S_P_emphPlain) :: (b1, cel [.slice q j c] ty_S_Inline) :: (RM ++ (EM ++ L))) →
      X q n c b1 b3 (.func (.func i_parseState_emph_1) #[] #[]) (.func (.func i_parseState_emph_2) #[] #[.pointer (some ⟨b3, 0, none⟩), .pointer (some ⟨b1, 0, none⟩)]) (j : Int) w := by
    intro k
    induction k with
    | zero =>
      intro j w hj h
      refine hX _ _ _ _ _ _ _ _ _ (br_false (by simp; omega) ?_)
      refine ⟨_, _, _, Sat.ld h (by first | assumption | (repeat (first | exact .head _ | apply List.Mem.tail))) (by exact rfl), ?_⟩
      rw [show j = n by omega]
      exact hR w h.tail.tail
    | succ k ih =>
      intro j w hj h
      obtain ⟨t, pb, h1, h2, h3⟩ := hcell j (by omega)
      refine hX _ _ _ _ _ _ _ _ _ (br_true (by simp; omega) ⟨by omega, by omega, ?_⟩)
      have hS0 := hS
      obtain ⟨_, hnc, ⟨rfl, rfl, _, _⟩ | ⟨rb, sp, rfl, rfl, hsp⟩⟩ := hS
      · omega
      refine nilP_some ?_
      simp only [Addr.add_lit, Int.toNat_natCast, Nat.mul_one, Nat.zero_add]
      have hg : (vs ++ sp)[j]? = some (ptrV t pb) := by rw [List.getElem?_append_left (by omega)]; exact h3
      refine ⟨_, Sat.ld h (.tail _ (.tail _ (.head _))) hg, _, _, _, ta_open_no h1 w, br_false rfl ?_⟩
      refine ⟨by omega, by omega, nilP_some ?_⟩
      simp only [Addr.add_lit, Int.toNat_natCast, Nat.mul_one, Nat.zero_add]
      refine ⟨_, Sat.ld h (.tail _ (.tail _ (.head _))) hg, _, _, _, ta_emph_no h2 w, br_true rfl ?_⟩
      refine Sat.tk h fun w h => ?_
      refine ⟨by omega, by omega, nilP_some ?_⟩
      refine ⟨_, _, _, Sat.ld h (by first | assumption | (repeat (first | exact .head _ | apply List.Mem.tail))) (by exact rfl), ?_⟩
      simp only [Addr.add_lit, Int.toNat_natCast, Nat.mul_one, Nat.zero_add]
      refine ⟨_, Sat.ld h (.tail _ (.tail _ (.head _))) hg, ?_⟩
      have h0 := h
      have h : Sat σ w ((rb, cel (vs ++ sp) ty_Inline) :: (b1, cel [.slice (some ⟨rb, 0, none⟩) j c] ty_S_Inline) :: (b3, cel [.slice none 0 0, .slice none 0 0, .slice none 0 0, .slice none 0 0, .slice none 0 0] ty_5_S_P_emphPlain) :: (EM ++ L)) := h.re (by intro _; simp only [List.append_eq, cnt_append, cnt_cons, cnt_nil] <;> omega)
      refine appRoom rowInl h (v := ptrV t pb) (by rw [List.length_append]; omega) (by omega) rfl rfl (fillI t _) (C := fun w1 => SameC _ w1 _ 1) (fun w1 X h' => h0.same h' (.tail _ (.head _)) (.tail _ (.tail _ (.head _))) 1) fun w h => ?_
      rw [show (vs ++ sp).set j (ptrV t pb) = vs ++ sp from by
        apply List.ext_getElem?; intro i; rw [List.getElem?_set]; split
        · rename_i hi; subst hi; rw [if_pos (by rw [List.length_append]; omega), hg]
        · rfl] at h
      refine Sat.st h (k := 1) rfl (Nat.le_of_ble_eq_true rfl) trivial (by first | (dsimp only [List.set]; exact rfl) | exact rfl) fun w h => ?_
      rw [i64_inc (by omega)]
      refine ih (j + 1) w (by omega) ?_
      have h : Sat σ w ((rb, cel (vs ++ sp) ty_Inline) :: (b1, cel [.slice (some ⟨rb, 0, none⟩) (j + 1) c] ty_S_Inline) :: (b3, cel [.slice none 0 0, .slice none 0 0, .slice none 0 0, .slice none 0 0, .slice none 0 0] ty_5_S_P_emphPlain) :: (EM ++ L)) := h
      exact h.re (by intro _; simp only [List.append_eq, cnt_append, cnt_cons, cnt_nil] <;> omega)
  exact key n 0 w (by omega) h
end Go.Proofs.YtihmcipajjakgaaGreatDoor


set_option linter.unusedVariables false
set_option maxRecDepth 20000
namespace Go.Proofs.YtihmcipajjakgaaGreatDoor
open Go.Proofs
namespace g_parseState_inline
noncomputable def body : Code := bodyOf Tryz.f34
def k4 (R : EP) (Xa : OA → BA → OA → Nat → Nat → Int → Bool → Int → WP) (x0 : OA) (x1 : BA) (x5q : OA) (x5n : Nat) (x5c : Nat) (x6 : Int) (x7 : Bool) (x10 : Value) (x12 : Int) (w : World) : Prop :=
 nilP x0 fun a61 =>
 ∃ (v62q : OA), ∃ (v62n : Nat), ∃ (v62c : Nat), w.cell? (a61.add 9) = some (.slice v62q v62n v62c) ∧
 ∃ (r63q : OA), ∃ (r63n : Nat), ∃ (r63c : Nat), ∃ w64, (Instr.buildSlice ty_S_Inline 1 #[(0, x10)]).run P w = .ok (.slice r63q r63n r63c) w64 ∧
 ∃ (r65q : OA), ∃ (r65n : Nat), ∃ (r65c : Nat), ∃ w66, (Builtin.append_ #[ty_S_Inline, ty_S_Inline] ty_S_Inline #[.slice v62q v62n v62c, .slice r63q r63n r63c]).run P w64 = .ok (.slice r65q r65n r65c) w66 ∧
 nilP x0 fun a67 =>
 stV w66 ((a67.add 9).add 0) (.slice r65q r65n r65c) fun w68 =>
 callE P i_parseState_skip #[.pointer x0, .int .i64 x12] (fun e w70 => e = .returned (.tuple #[]) ∧
 Xa x0 x1 x5q x5n x5c x6 x7 x12 w70) w68

def k10 (R : EP) (Xa : OA → BA → OA → Nat → Nat → Int → Bool → Int → WP) (x0 : OA) (x1 : BA) (x5q : OA) (x5n : Nat) (x5c : Nat) (x6 : Int) (x7 : Bool) (x16 : Int) (x17 : OA) (x19 : Int) (w : World) : Prop :=
 nilP x0 fun a133 =>
 ∃ (v134q : OA), ∃ (v134n : Nat), ∃ (v134c : Nat), w.cell? (a133.add 9) = some (.slice v134q v134n v134c) ∧
 ∃ (r135q : OA), ∃ (r135n : Nat), ∃ (r135c : Nat), ∃ w136, (Instr.sliceAt ty_S_Inline (.slice v134q v134n v134c) none (some (.int .i64 (IntKind.i64.wrap (x16 + 1)))) none).run P w = .ok (.slice r135q r135n r135c) w136 ∧
 nilP x0 fun a137 =>
 stV w136 ((a137.add 9).add 0) (.slice r135q r135n r135c) fun w138 =>
 callE P i_parseState_skip #[.pointer x0, .int .i64 x19] (fun e w140 => e = .returned (.tuple #[]) ∧
 nilP x17 fun a141 =>
 ∃ (v142 : BA), w140.cell? a141 = some (.string v142) ∧
 0 ≤ (0 : Int) ∧ 0 < (v142.size : Int) ∧
 br ((bt v142 0) == 91)
 (nilP x17 fun a143 =>
 ∃ (v144 : Int), w140.cell? (a143.add 1) = some (.int .i64 v144) ∧
 Xa x0 x1 x5q x5n x5c v144 x7 x19 w140)
 (Xa x0 x1 x5q x5n x5c x6 x7 x19 w140)) w138

def k9 (R : EP) (Xa : OA → BA → OA → Nat → Nat → Int → Bool → Int → WP) (x0 : OA) (x1 : BA) (x5q : OA) (x5n : Nat) (x5c : Nat) (x6 : Int) (x7 : Bool) (x8 : Int) (x16 : Int) (x17 : OA) (x18 : OA) (x19 : Int) (w : World) : Prop :=
 callE P i_parseState_emit #[.pointer x0, .int .i64 x8] (fun e w114 => e = .returned (.tuple #[]) ∧
 nilP x0 fun a115 =>
 ∃ (v116q : OA), ∃ (v116n : Nat), ∃ (v116c : Nat), w114.cell? (a115.add 9) = some (.slice v116q v116n v116c) ∧
 ∃ (r117q : OA), ∃ (r117n : Nat), ∃ (r117c : Nat), ∃ w118, (Instr.sliceAt ty_S_Inline (.slice v116q v116n v116c) (some (.int .i64 (IntKind.i64.wrap (x16 + 1)))) none none).run P w114 = .ok (.slice r117q r117n r117c) w118 ∧
 callE P i_parseState_emph #[.pointer x0, .slice none 0 0, .slice r117q r117n r117c] (fun e w120 => ∃ (r119q : OA), ∃ (r119n : Nat), ∃ (r119c : Nat), e = .returned (.slice r119q r119n r119c) ∧
 nilP x18 fun a121 =>
 stV w120 (a121.add 0) (.slice r119q r119n r119c) fun w122 =>
 nilP x17 fun a123 =>
 ∃ (v124 : BA), w122.cell? a123 = some (.string v124) ∧
 0 ≤ (0 : Int) ∧ 0 < (v124.size : Int) ∧
 br ((bt v124 0) == 33)
 (nilP x0 fun a125 =>
 ∃ (v126q : OA), ∃ (v126n : Nat), ∃ (v126c : Nat), w122.cell? (a125.add 9) = some (.slice v126q v126n v126c) ∧
 0 ≤ x16 ∧ x16 < (v126n : Int) ∧
 nilP v126q fun a127 =>
 stV w122 ((a127.add (Int.toNat x16 * 1)).add 0) (.iface ty_P_Image (.pointer x18)) fun w128 =>
 k10 R Xa x0 x1 x5q x5n x5c x6 x7 x16 x17 x19 w128)
 (nilP x0 fun a129 =>
 ∃ (v130q : OA), ∃ (v130n : Nat), ∃ (v130c : Nat), w122.cell? (a129.add 9) = some (.slice v130q v130n v130c) ∧
 0 ≤ x16 ∧ x16 < (v130n : Int) ∧
 nilP v130q fun a131 =>
 stV w122 ((a131.add (Int.toNat x16 * 1)).add 0) (.iface ty_P_Link (.pointer x18)) fun w132 =>
 k10 R Xa x0 x1 x5q x5n x5c x6 x7 x16 x17 x19 w132)) w118) w

def k8 (R : EP) (Xa : OA → BA → OA → Nat → Nat → Int → Bool → Int → WP) (x0 : OA) (x1 : BA) (x5q : OA) (x5n : Nat) (x5c : Nat) (x6 : Int) (x7 : Bool) (x8 : Int) (x16 : Int) (x17 : OA) (x199 : Bool) (w : World) : Prop :=
 br x199
 (callE P i_parseState_parseLinkClose #[.pointer x0, .string x1, .int .i64 x8, .pointer x17] (fun e w98 => ∃ (r97_0 : OA), ∃ (r97_1 : Int), ∃ (r97_2 : Bool), e = .returned (.tuple #[.pointer r97_0, .int .i64 r97_1, .bool r97_2]) ∧
 br r97_2
 (nilP x0 fun a99 =>
 ∃ (v100 : Bool), w98.cell? (a99.add 6) = some (.bool v100) ∧
 br v100
 (nilP x0 fun a101 =>
 stV w98 ((a101.add 6).add 0) (.bool true) fun w102 =>
 k9 R Xa x0 x1 x5q x5n x5c x6 x7 x8 x16 x17 r97_0 r97_1 w102)
 (nilP r97_0 fun a103 =>
 ∃ (v104 : Bool), w98.cell? (a103.add 4) = some (.bool v104) ∧
 br v104
 (nilP x0 fun a105 =>
 stV w98 ((a105.add 6).add 0) (.bool true) fun w106 =>
 k9 R Xa x0 x1 x5q x5n x5c x6 x7 x8 x16 x17 r97_0 r97_1 w106)
 (nilP r97_0 fun a107 =>
 ∃ (v108 : BA), w98.cell? (a107.add 1) = some (.string v108) ∧
 callE P i_linkCorner #[.string v108] (fun e w110 => ∃ (r109 : Bool), e = .returned (.bool r109) ∧
 nilP x0 fun a111 =>
 stV w110 ((a111.add 6).add 0) (.bool r109) fun w112 =>
 k9 R Xa x0 x1 x5q x5n x5c x6 x7 x8 x16 x17 r97_0 r97_1 w112) w98)))
 (Xa x0 x1 x5q x5n x5c x6 x7 (IntKind.i64.wrap (x8 + 1)) w98)) w)
 (Xa x0 x1 x5q x5n x5c x6 x7 (IntKind.i64.wrap (x8 + 1)) w)

def k7 (R : EP) (Xa : OA → BA → OA → Nat → Nat → Int → Bool → Int → WP) (x0 : OA) (x1 : BA) (x5q : OA) (x5n : Nat) (x5c : Nat) (x6 : Int) (x7 : Bool) (x8 : Int) (x165 : Bool) (w : World) : Prop :=
 br x165
 (0 ≤ (IntKind.i64.wrap ((x5n : Int) - 1)) ∧ (IntKind.i64.wrap ((x5n : Int) - 1)) < (x5n : Int) ∧
 nilP x5q fun a83 =>
 ∃ (v84 : Int), w.cell? (a83.add (Int.toNat (IntKind.i64.wrap ((x5n : Int) - 1)) * 1)) = some (.int .i64 v84) ∧
 nilP x0 fun a85 =>
 ∃ (v86q : OA), ∃ (v86n : Nat), ∃ (v86c : Nat), w.cell? (a85.add 9) = some (.slice v86q v86n v86c) ∧
 0 ≤ v84 ∧ v84 < (v86n : Int) ∧
 nilP v86q fun a87 =>
 ∃ (v88 : Value), w.cell? (a87.add (Int.toNat v84 * 1)) = some v88 ∧
 ∃ (r89 : OA), ∃ w90, (Instr.typeAssert v88 ty_Inline ty_P_openPlain false).run P w = .ok (.pointer r89) w90 ∧
 ∃ (r91q : OA), ∃ (r91n : Nat), ∃ (r91c : Nat), ∃ w92, (Instr.sliceAt ty_S_int (.slice x5q x5n x5c) none (some (.int .i64 (IntKind.i64.wrap ((x5n : Int) - 1)))) none).run P w90 = .ok (.slice r91q r91n r91c) w92 ∧
 nilP r89 fun a93 =>
 ∃ (v94 : BA), w92.cell? a93 = some (.string v94) ∧
 0 ≤ (0 : Int) ∧ 0 < (v94.size : Int) ∧
 br ((bt v94 0) == 33)
 (k8 R Xa x0 x1 r91q r91n r91c x6 x7 x8 v84 r89 true w92)
 (nilP r89 fun a95 =>
 ∃ (v96 : Int), w92.cell? (a95.add 1) = some (.int .i64 v96) ∧
 k8 R Xa x0 x1 r91q r91n r91c x6 x7 x8 v84 r89 (decide (x6 ≤ v96)) w92))
 (Xa x0 x1 x5q x5n x5c x6 x7 (IntKind.i64.wrap (x8 + 1)) w)

def k5 (R : EP) (Xa : OA → BA → OA → Nat → Nat → Int → Bool → Int → WP) (x0 : OA) (x1 : BA) (x5q : OA) (x5n : Nat) (x5c : Nat) (x6 : Int) (x7 : Bool) (x8 : Int) (w : World) : Prop :=
 0 ≤ x8 ∧ x8 < (x1.size : Int) ∧
 k7 R Xa x0 x1 x5q x5n x5c x6 x7 x8 (((bt x1 x8) == 93) && (decide ((x5n : Int) > 0))) w

def k1 (R : EP) (Xa : OA → BA → OA → Nat → Nat → Int → Bool → Int → WP) (x0 : OA) (x1 : BA) (x5q : OA) (x5n : Nat) (x5c : Nat) (x6 : Int) (x7 : Bool) (x8 : Int) (x9 : Value) (w : World) : Prop :=
 ∃ (r38 : Bool), ∃ w39, (do eqGuard .neq ty_func_P_parseState_string_int_I_18a27a (.tmp 113) (.const .nilFunc) x9 .nilFunc; binOp .neq ty_func_P_parseState_string_int_I_18a27a x9 .nilFunc).run P w = .ok (.bool r38) w39 ∧
 br r38
 (enterE P (do let d ← Deferred.ofValue x9 #[.pointer x0, .string x1, .int .i64 x8]; invoke d.target d.args) (fun e w41 => ∃ (r40_0 : Value), ∃ (r40_1 : Int), ∃ (r40_2 : Int), ∃ (r40_3 : Bool), e = .returned (.tuple #[r40_0, .int .i64 r40_1, .int .i64 r40_2, .bool r40_3]) ∧
 br r40_3
 (callE P i_parseState_emit #[.pointer x0, .int .i64 r40_1] (fun e w43 => e = .returned (.tuple #[]) ∧
 ∃ (r44_0 : OA), ∃ (r44_1 : Bool), ∃ w45, (Instr.typeAssert r40_0 ty_Inline ty_P_openPlain true).run P w43 = .ok (.tuple #[.pointer r44_0, .bool r44_1]) w45 ∧
 br r44_1
 (nilP x0 fun a46 =>
 ∃ (v47q : OA), ∃ (v47n : Nat), ∃ (v47c : Nat), w45.cell? (a46.add 9) = some (.slice v47q v47n v47c) ∧
 ∃ (r48q : OA), ∃ (r48n : Nat), ∃ (r48c : Nat), ∃ w49, (Instr.buildSlice ty_S_int 1 #[(0, .int .i64 (v47n : Int))]).run P w45 = .ok (.slice r48q r48n r48c) w49 ∧
 ∃ (r50q : OA), ∃ (r50n : Nat), ∃ (r50c : Nat), ∃ w51, (Builtin.append_ #[ty_S_int, ty_S_int] ty_S_int #[.slice x5q x5n x5c, .slice r48q r48n r48c]).run P w49 = .ok (.slice r50q r50n r50c) w51 ∧
 k4 R Xa x0 x1 r50q r50n r50c x6 x7 r40_0 r40_2 w51)
 (k4 R Xa x0 x1 x5q x5n x5c x6 x7 r40_0 r40_2 w45)) w41)
 (k5 R Xa x0 x1 x5q x5n x5c x6 x7 x8 w41)) w39)
 (k5 R Xa x0 x1 x5q x5n x5c x6 x7 x8 w39)

def k2 (R : EP) (Xa : OA → BA → OA → Nat → Nat → Int → Bool → Int → WP) (x0 : OA) (x1 : BA) (x5q : OA) (x5n : Nat) (x5c : Nat) (x6 : Int) (x7 : Bool) (x8 : Int) (w : World) : Prop :=
 nilP x0 fun a52 =>
 k1 R Xa x0 x1 x5q x5n x5c x6 x7 x8 (.func (.func i_backtickParser_parseCodeSpan) #[.pointer (some (a52.add 12))] #[]) w

def k6 (R : EP) (Xa : OA → BA → OA → Nat → Nat → Int → Bool → Int → WP) (x0 : OA) (x1 : BA) (x5q : OA) (x5n : Nat) (x5c : Nat) (x6 : Int) (x7 : Bool) (x8 : Int) (x9 : Value) (x39 : Int) (x81 : Bool) (w : World) : Prop :=
 br x81
 (nilP x0 fun a71 =>
 ∃ (v72 : OA), w.cell? a71 = some (.pointer v72) ∧
 nilP v72 fun a73 =>
 ∃ (v74 : Bool), w.cell? (a73.add 9) = some (.bool v74) ∧
 br v74
 (k1 R Xa x0 x1 x5q x5n x5c x6 x7 x8 (.func (.func i_parseEmph) #[] #[]) w)
 (k1 R Xa x0 x1 x5q x5n x5c x6 x7 x8 x9 w))
 (br (x39 == 126)
 (nilP x0 fun a75 =>
 ∃ (v76 : OA), w.cell? a75 = some (.pointer v76) ∧
 nilP v76 fun a77 =>
 ∃ (v78 : Bool), w.cell? (a77.add 1) = some (.bool v78) ∧
 br v78
 (k1 R Xa x0 x1 x5q x5n x5c x6 x7 x8 (.func (.func i_parseEmph) #[] #[]) w)
 (k1 R Xa x0 x1 x5q x5n x5c x6 x7 x8 x9 w))
 (br (x39 == 10)
 (k1 R Xa x0 x1 x5q x5n x5c x6 x7 x8 (.func (.func i_parseBreak) #[] #[]) w)
 (br (x39 == 38)
 (k1 R Xa x0 x1 x5q x5n x5c x6 x7 x8 (.func (.func i_parseHTMLEntity) #[] #[]) w)
 (br (x39 == 58)
 (nilP x0 fun a79 =>
 ∃ (v80 : OA), w.cell? a79 = some (.pointer v80) ∧
 nilP v80 fun a81 =>
 ∃ (v82 : Bool), w.cell? (a81.add 6) = some (.bool v82) ∧
 br v82
 (k1 R Xa x0 x1 x5q x5n x5c x6 x7 x8 (.func (.func i_parseEmoji) #[] #[]) w)
 (k1 R Xa x0 x1 x5q x5n x5c x6 x7 x8 x9 w))
 (k1 R Xa x0 x1 x5q x5n x5c x6 x7 x8 x9 w)))))

def k3 (R : EP) (Xa : OA → BA → OA → Nat → Nat → Int → Bool → Int → WP) (x0 : OA) (x1 : BA) (x5q : OA) (x5n : Nat) (x5c : Nat) (x6 : Int) (x7 : Bool) (x8 : Int) (x9 : Value) (x39 : Int) (x60 : Bool) (w : World) : Prop :=
 br x60
 (k1 R Xa x0 x1 x5q x5n x5c x6 x7 x8 (.func (.func i_parseEmph) #[] #[]) w)
 (br (x39 == 46)
 (nilP x0 fun a53 =>
 ∃ (v54 : OA), w.cell? a53 = some (.pointer v54) ∧
 nilP v54 fun a55 =>
 ∃ (v56 : Bool), w.cell? (a55.add 7) = some (.bool v56) ∧
 br v56
 (k1 R Xa x0 x1 x5q x5n x5c x6 x7 x8 (.func (.func i_parseDot) #[] #[]) w)
 (k1 R Xa x0 x1 x5q x5n x5c x6 x7 x8 x9 w))
 (br (x39 == 45)
 (nilP x0 fun a57 =>
 ∃ (v58 : OA), w.cell? a57 = some (.pointer v58) ∧
 nilP v58 fun a59 =>
 ∃ (v60 : Bool), w.cell? (a59.add 8) = some (.bool v60) ∧
 br v60
 (k1 R Xa x0 x1 x5q x5n x5c x6 x7 x8 (.func (.func i_parseDash) #[] #[]) w)
 (k1 R Xa x0 x1 x5q x5n x5c x6 x7 x8 x9 w))
 (br (x39 == 34)
 (k6 R Xa x0 x1 x5q x5n x5c x6 x7 x8 x9 x39 true w)
 (k6 R Xa x0 x1 x5q x5n x5c x6 x7 x8 x9 x39 (x39 == 39) w))))

def bl1 (R : EP) (Xa : OA → BA → OA → Nat → Nat → Int → Bool → Int → WP) (x0 : OA) (x1 : BA) (x5q : OA) (x5n : Nat) (x5c : Nat) (x6 : Int) (x7 : Bool) (x8 : Int) (w : World) : Prop :=
 br (decide (x8 < (x1.size : Int)))
 (0 ≤ x8 ∧ x8 < (x1.size : Int) ∧
 br ((bt x1 x8) == 92)
 (k1 R Xa x0 x1 x5q x5n x5c x6 x7 x8 (.func (.func i_parseEscape) #[] #[]) w)
 (br ((bt x1 x8) == 96)
 (br (!x7)
 (nilP x0 fun a9 =>
 callE P i_backtickParser_reset #[.pointer (some (a9.add 12))] (fun e w11 => e = .returned (.tuple #[]) ∧
 k2 R Xa x0 x1 x5q x5n x5c x6 true x8 w11) w)
 (k2 R Xa x0 x1 x5q x5n x5c x6 x7 x8 w))
 (br ((bt x1 x8) == 60)
 (k1 R Xa x0 x1 x5q x5n x5c x6 x7 x8 (.func (.func i_parseAutoLinkOrHTML) #[] #[]) w)
 (br ((bt x1 x8) == 91)
 (k1 R Xa x0 x1 x5q x5n x5c x6 x7 x8 (.func (.func i_parseLinkOpen) #[] #[]) w)
 (br ((bt x1 x8) == 33)
 (k1 R Xa x0 x1 x5q x5n x5c x6 x7 x8 (.func (.func i_parseImageOpen) #[] #[]) w)
 (br ((bt x1 x8) == 95)
 (k3 R Xa x0 x1 x5q x5n x5c x6 x7 x8 .nilFunc (bt x1 x8) true w)
 (k3 R Xa x0 x1 x5q x5n x5c x6 x7 x8 .nilFunc (bt x1 x8) ((bt x1 x8) == 42) w)))))))
 (callE P i_parseState_emit #[.pointer x0, .int .i64 (x1.size : Int)] (fun e w13 => e = .returned (.tuple #[]) ∧
 tk w13 fun w14 =>
 nilP x0 fun a15 =>
 nilP x0 fun a16 =>
 ∃ (v17q : OA), ∃ (v17n : Nat), ∃ (v17c : Nat), w14.cell? (a15.add 9) = some (.slice v17q v17n v17c) ∧
 ∃ (r18q : OA), ∃ (r18n : Nat), ∃ (r18c : Nat), (∀ w, (Instr.sliceAt ty_S_Inline (.slice v17q v17n v17c) none (some (.int .i64 0)) none).run P w = .ok (.slice r18q r18n r18c) w) ∧
 ∃ (v19q : OA), ∃ (v19n : Nat), ∃ (v19c : Nat), w14.cell? (a16.add 9) = some (.slice v19q v19n v19c) ∧
 callE P i_parseState_emph #[.pointer x0, .slice r18q r18n r18c, .slice v19q v19n v19c] (fun e w21 => ∃ (r20q : OA), ∃ (r20n : Nat), ∃ (r20c : Nat), e = .returned (.slice r20q r20n r20c) ∧
 nilP x0 fun a22 =>
 stV w21 ((a22.add 9).add 0) (.slice r20q r20n r20c) fun w23 =>
 nilP x0 fun a24 =>
 ∃ (v25q : OA), ∃ (v25n : Nat), ∃ (v25c : Nat), w23.cell? (a24.add 9) = some (.slice v25q v25n v25c) ∧
 callE P i_parseState_mergePlain #[.pointer x0, .slice v25q v25n v25c] (fun e w27 => ∃ (r26q : OA), ∃ (r26n : Nat), ∃ (r26c : Nat), e = .returned (.slice r26q r26n r26c) ∧
 nilP x0 fun a28 =>
 stV w27 ((a28.add 9).add 0) (.slice r26q r26n r26c) fun w29 =>
 nilP x0 fun a30 =>
 ∃ (v31q : OA), ∃ (v31n : Nat), ∃ (v31c : Nat), w29.cell? (a30.add 9) = some (.slice v31q v31n v31c) ∧
 callE P i_parseState_autoLinkText #[.pointer x0, .slice v31q v31n v31c] (fun e w33 => ∃ (r32q : OA), ∃ (r32n : Nat), ∃ (r32c : Nat), e = .returned (.slice r32q r32n r32c) ∧
 nilP x0 fun a34 =>
 stV w33 ((a34.add 9).add 0) (.slice r32q r32n r32c) fun w35 =>
 nilP x0 fun a36 =>
 ∃ (v37q : OA), ∃ (v37n : Nat), ∃ (v37c : Nat), w35.cell? (a36.add 9) = some (.slice v37q v37n v37c) ∧
 R (.returned (.slice v37q v37n v37c)) w35) w29) w23) w14) w)
def l1 (R : EP) (x0 : OA) (x1 : BA) (x5q : OA) (x5n : Nat) (x5c : Nat) (x6 : Int) (x7 : Bool) (x8 : Int) (w : World) : Prop :=
  ∀ X : OA → BA → OA → Nat → Nat → Int → Bool → Int → WP, (∀ x0 x1 x5q x5n x5c x6 x7 x8 w, bl1 R X x0 x1 x5q x5n x5c x6 x7 x8 w → X x0 x1 x5q x5n x5c x6 x7 x8 w) → X x0 x1 x5q x5n x5c x6 x7 x8 w

noncomputable def al1 (R : EP) (Xa : OA → BA → OA → Nat → Nat → Int → Bool → Int → WP) : AC :=
  (.seq (.leaf (sel [1, 1, 1, 1, 1, 1, 1, 1, 1, 0, 0, 0, 0] body)) (.block 1 (.seq (.leaf (sel [1, 1, 1, 1, 1, 1, 1, 1, 1, 0, 0, 0, 1, 0, 0] body)) (.seq (.seq (.leaf (sel [1, 1, 1, 1, 1, 1, 1, 1, 1, 0, 0, 0, 1, 0, 1, 0, 0] body)) (.block 2 (.seq (.leaf (sel [1, 1, 1, 1, 1, 1, 1, 1, 1, 0, 0, 0, 1, 0, 1, 0, 1, 0, 0] body)) (.cond 40 (.leaf (sel [1, 1, 1, 1, 1, 1, 1, 1, 1, 0, 0, 0, 1, 0, 1, 0, 1, 0, 1, 0] body)) (.seq (.leaf (sel [1, 1, 1, 1, 1, 1, 1, 1, 1, 0, 0, 0, 1, 0, 1, 0, 1, 0, 1, 1, 0] body)) (.cond 42 (.seq (.leaf (sel [1, 1, 1, 1, 1, 1, 1, 1, 1, 0, 0, 0, 1, 0, 1, 0, 1, 0, 1, 1, 1, 0, 0] body)) (.mark (leaf [(0, .s .ptr), (1, .s .str), (5, .s .slice), (6, .s (.int .i64)), (7, .s .bool), (8, .s (.int .i64))] (k2 R Xa)) (.leaf (sel [1, 1, 1, 1, 1, 1, 1, 1, 1, 0, 0, 0, 1, 0, 1, 0, 1, 0, 1, 1, 1, 0, 1] body)))) (.seq (.leaf (sel [1, 1, 1, 1, 1, 1, 1, 1, 1, 0, 0, 0, 1, 0, 1, 0, 1, 0, 1, 1, 1, 1, 0] body)) (.cond 54 (.leaf (sel [1, 1, 1, 1, 1, 1, 1, 1, 1, 0, 0, 0, 1, 0, 1, 0, 1, 0, 1, 1, 1, 1, 1, 0] body)) (.seq (.leaf (sel [1, 1, 1, 1, 1, 1, 1, 1, 1, 0, 0, 0, 1, 0, 1, 0, 1, 0, 1, 1, 1, 1, 1, 1, 0] body)) (.cond 56 (.leaf (sel [1, 1, 1, 1, 1, 1, 1, 1, 1, 0, 0, 0, 1, 0, 1, 0, 1, 0, 1, 1, 1, 1, 1, 1, 1, 0] body)) (.seq (.leaf (sel [1, 1, 1, 1, 1, 1, 1, 1, 1, 0, 0, 0, 1, 0, 1, 0, 1, 0, 1, 1, 1, 1, 1, 1, 1, 1, 0] body)) (.cond 58 (.leaf (sel [1, 1, 1, 1, 1, 1, 1, 1, 1, 0, 0, 0, 1, 0, 1, 0, 1, 0, 1, 1, 1, 1, 1, 1, 1, 1, 1, 0] body)) (.seq (.leaf (sel [1, 1, 1, 1, 1, 1, 1, 1, 1, 0, 0, 0, 1, 0, 1, 0, 1, 0, 1, 1, 1, 1, 1, 1, 1, 1, 1, 1, 0] body)) (.mark (leaf [(0, .s .ptr), (1, .s .str), (5, .s .slice), (6, .s (.int .i64)), (7, .s .bool), (8, .s (.int .i64)), (9, .s .any), (39, .s (.int .u8)), (60, .s .bool)] (k3 R Xa)) (.cond 60 (.leaf (sel [1, 1, 1, 1, 1, 1, 1, 1, 1, 0, 0, 0, 1, 0, 1, 0, 1, 0, 1, 1, 1, 1, 1, 1, 1, 1, 1, 1, 1, 0] body)) (.seq (.leaf (sel [1, 1, 1, 1, 1, 1, 1, 1, 1, 0, 0, 0, 1, 0, 1, 0, 1, 0, 1, 1, 1, 1, 1, 1, 1, 1, 1, 1, 1, 1, 0] body)) (.cond 63 (.leaf (sel [1, 1, 1, 1, 1, 1, 1, 1, 1, 0, 0, 0, 1, 0, 1, 0, 1, 0, 1, 1, 1, 1, 1, 1, 1, 1, 1, 1, 1, 1, 1, 0] body)) (.seq (.leaf (sel [1, 1, 1, 1, 1, 1, 1, 1, 1, 0, 0, 0, 1, 0, 1, 0, 1, 0, 1, 1, 1, 1, 1, 1, 1, 1, 1, 1, 1, 1, 1, 1, 0] body)) (.cond 72 (.leaf (sel [1, 1, 1, 1, 1, 1, 1, 1, 1, 0, 0, 0, 1, 0, 1, 0, 1, 0, 1, 1, 1, 1, 1, 1, 1, 1, 1, 1, 1, 1, 1, 1, 1, 0] body)) (.seq (.leaf (sel [1, 1, 1, 1, 1, 1, 1, 1, 1, 0, 0, 0, 1, 0, 1, 0, 1, 0, 1, 1, 1, 1, 1, 1, 1, 1, 1, 1, 1, 1, 1, 1, 1, 1, 0] body)) (.mark (leaf [(0, .s .ptr), (1, .s .str), (5, .s .slice), (6, .s (.int .i64)), (7, .s .bool), (8, .s (.int .i64)), (9, .s .any), (39, .s (.int .u8)), (81, .s .bool)] (k6 R Xa)) (.leaf (sel [1, 1, 1, 1, 1, 1, 1, 1, 1, 0, 0, 0, 1, 0, 1, 0, 1, 0, 1, 1, 1, 1, 1, 1, 1, 1, 1, 1, 1, 1, 1, 1, 1, 1, 1] body))))))))))))))))))))))) (.mark (leaf [(0, .s .ptr), (1, .s .str), (5, .s .slice), (6, .s (.int .i64)), (7, .s .bool), (8, .s (.int .i64)), (9, .s .any)] (k1 R Xa)) (.seq (.seq (.leaf (sel [1, 1, 1, 1, 1, 1, 1, 1, 1, 0, 0, 0, 1, 0, 1, 1, 0, 0] body)) (.cond 114 (.seq (.leaf (sel [1, 1, 1, 1, 1, 1, 1, 1, 1, 0, 0, 0, 1, 0, 1, 1, 0, 1, 0, 0] body)) (.seq (.leaf (sel [1, 1, 1, 1, 1, 1, 1, 1, 1, 0, 0, 0, 1, 0, 1, 1, 0, 1, 0, 1, 0] body)) (.cond 125 (.seq (.leaf (sel [1, 1, 1, 1, 1, 1, 1, 1, 1, 0, 0, 0, 1, 0, 1, 1, 0, 1, 0, 1, 1, 0, 0] body)) (.seq (.leaf (sel [1, 1, 1, 1, 1, 1, 1, 1, 1, 0, 0, 0, 1, 0, 1, 1, 0, 1, 0, 1, 1, 0, 1, 0] body)) (.mark (leaf [(0, .s .ptr), (1, .s .str), (5, .s .slice), (6, .s (.int .i64)), (7, .s .bool), (10, .s .any), (12, .s (.int .i64))] (k4 R Xa)) (.leaf (sel [1, 1, 1, 1, 1, 1, 1, 1, 1, 0, 0, 0, 1, 0, 1, 1, 0, 1, 0, 1, 1, 0, 1, 1] body))))) (.leaf (sel [1, 1, 1, 1, 1, 1, 1, 1, 1, 0, 0, 0, 1, 0, 1, 1, 0, 1, 0, 1, 1, 1] body))))) (.leaf (sel [1, 1, 1, 1, 1, 1, 1, 1, 1, 0, 0, 0, 1, 0, 1, 1, 0, 1, 1] body)))) (.mark (leaf [(0, .s .ptr), (1, .s .str), (5, .s .slice), (6, .s (.int .i64)), (7, .s .bool), (8, .s (.int .i64))] (k5 R Xa)) (.seq (.seq (.leaf (sel [1, 1, 1, 1, 1, 1, 1, 1, 1, 0, 0, 0, 1, 0, 1, 1, 1, 0, 0] body)) (.mark (leaf [(0, .s .ptr), (1, .s .str), (5, .s .slice), (6, .s (.int .i64)), (7, .s .bool), (8, .s (.int .i64)), (165, .s .bool)] (k7 R Xa)) (.cond 165 (.seq (.leaf (sel [1, 1, 1, 1, 1, 1, 1, 1, 1, 0, 0, 0, 1, 0, 1, 1, 1, 0, 1, 0, 0] body)) (.seq (.leaf (sel [1, 1, 1, 1, 1, 1, 1, 1, 1, 0, 0, 0, 1, 0, 1, 1, 1, 0, 1, 0, 1, 0] body)) (.seq (.leaf (sel [1, 1, 1, 1, 1, 1, 1, 1, 1, 0, 0, 0, 1, 0, 1, 1, 1, 0, 1, 0, 1, 1, 0] body)) (.seq (.leaf (sel [1, 1, 1, 1, 1, 1, 1, 1, 1, 0, 0, 0, 1, 0, 1, 1, 1, 0, 1, 0, 1, 1, 1, 0] body)) (.mark (leaf [(0, .s .ptr), (1, .s .str), (5, .s .slice), (6, .s (.int .i64)), (7, .s .bool), (8, .s (.int .i64)), (16, .s (.int .i64)), (17, .s .ptr), (199, .s .bool)] (k8 R Xa)) (.cond 199 (.seq (.leaf (sel [1, 1, 1, 1, 1, 1, 1, 1, 1, 0, 0, 0, 1, 0, 1, 1, 1, 0, 1, 0, 1, 1, 1, 1, 0, 0] body)) (.seq (.leaf (sel [1, 1, 1, 1, 1, 1, 1, 1, 1, 0, 0, 0, 1, 0, 1, 1, 1, 0, 1, 0, 1, 1, 1, 1, 0, 1, 0] body)) (.cond 209 (.seq (.leaf (sel [1, 1, 1, 1, 1, 1, 1, 1, 1, 0, 0, 0, 1, 0, 1, 1, 1, 0, 1, 0, 1, 1, 1, 1, 0, 1, 1, 0, 0] body)) (.mark (leaf [(0, .s .ptr), (1, .s .str), (5, .s .slice), (6, .s (.int .i64)), (7, .s .bool), (8, .s (.int .i64)), (16, .s (.int .i64)), (17, .s .ptr), (18, .s .ptr), (19, .s (.int .i64))] (k9 R Xa)) (.seq (.leaf (sel [1, 1, 1, 1, 1, 1, 1, 1, 1, 0, 0, 0, 1, 0, 1, 1, 1, 0, 1, 0, 1, 1, 1, 1, 0, 1, 1, 0, 1, 0] body)) (.seq (.leaf (sel [1, 1, 1, 1, 1, 1, 1, 1, 1, 0, 0, 0, 1, 0, 1, 1, 1, 0, 1, 0, 1, 1, 1, 1, 0, 1, 1, 0, 1, 1, 0] body)) (.seq (.leaf (sel [1, 1, 1, 1, 1, 1, 1, 1, 1, 0, 0, 0, 1, 0, 1, 1, 1, 0, 1, 0, 1, 1, 1, 1, 0, 1, 1, 0, 1, 1, 1, 0] body)) (.mark (leaf [(0, .s .ptr), (1, .s .str), (5, .s .slice), (6, .s (.int .i64)), (7, .s .bool), (16, .s (.int .i64)), (17, .s .ptr), (19, .s (.int .i64))] (k10 R Xa)) (.leaf (sel [1, 1, 1, 1, 1, 1, 1, 1, 1, 0, 0, 0, 1, 0, 1, 1, 1, 0, 1, 0, 1, 1, 1, 1, 0, 1, 1, 0, 1, 1, 1, 1] body)))))))) (.leaf (sel [1, 1, 1, 1, 1, 1, 1, 1, 1, 0, 0, 0, 1, 0, 1, 1, 1, 0, 1, 0, 1, 1, 1, 1, 0, 1, 1, 1] body))))) (.leaf (sel [1, 1, 1, 1, 1, 1, 1, 1, 1, 0, 0, 0, 1, 0, 1, 1, 1, 0, 1, 0, 1, 1, 1, 1, 1] body)))))))) (.leaf (sel [1, 1, 1, 1, 1, 1, 1, 1, 1, 0, 0, 0, 1, 0, 1, 1, 1, 0, 1, 1] body))))) (.leaf (sel [1, 1, 1, 1, 1, 1, 1, 1, 1, 0, 0, 0, 1, 0, 1, 1, 1, 1] body))))))))))
end g_parseState_inline
def g_parseState_inline (R : EP) (x0 : OA) (x1 : BA) (w : World) : Prop :=
 callE P i_trimSpaceTab #[.string x1] (fun e w2 => ∃ (r1 : BA), e = .returned (.string r1) ∧
 nilP x0 fun a3 =>
 stV w2 ((a3.add 7).add 0) (.string r1) fun w4 =>
 nilP x0 fun a5 =>
 stV w4 ((a5.add 9).add 0) (.slice none 0 0) fun w6 =>
 nilP x0 fun a7 =>
 stV w6 ((a7.add 8).add 0) (.int .i64 0) fun w8 =>
 g_parseState_inline.l1 R x0 r1 none 0 0 0 false 0 w8) w

noncomputable def g_parseState_inline.ac (R : EP) : AC :=
  (.seq (.leaf (sel [0] g_parseState_inline.body)) (.seq (.leaf (sel [1, 0] g_parseState_inline.body)) (.seq (.leaf (sel [1, 1, 0] g_parseState_inline.body)) (.seq (.leaf (sel [1, 1, 1, 0] g_parseState_inline.body)) (.seq (.leaf (sel [1, 1, 1, 1, 0] g_parseState_inline.body)) (.seq (.leaf (sel [1, 1, 1, 1, 1, 0] g_parseState_inline.body)) (.seq (.leaf (sel [1, 1, 1, 1, 1, 1, 0] g_parseState_inline.body)) (.seq (.leaf (sel [1, 1, 1, 1, 1, 1, 1, 0] g_parseState_inline.body)) (.seq (.leaf (sel [1, 1, 1, 1, 1, 1, 1, 1, 0] g_parseState_inline.body)) (.seq (.block 0 (.loop (leaf [(0, .s .ptr), (1, .s .str), (5, .s .slice), (6, .s (.int .i64)), (7, .s .bool), (8, .s (.int .i64))] (g_parseState_inline.l1 R)) (sel [1, 1, 1, 1, 1, 1, 1, 1, 1, 0, 0, 0] g_parseState_inline.body))) (.seq (.leaf (sel [1, 1, 1, 1, 1, 1, 1, 1, 1, 1, 0] g_parseState_inline.body)) (.seq (.draw (.pure 0 (.pure 1 (.pure 2 (.pure 3 (.pure 4 (.pure 7 (.pure 8 (.pure 9 (.load 5 (.pure 6 (.load 10 (.one 11 (.pure 12 (.pure 13 (.one 14 .done))))))))))))))) (sel [1, 1, 1, 1, 1, 1, 1, 1, 1, 1, 1, 0] g_parseState_inline.body)) (.leaf (sel [1, 1, 1, 1, 1, 1, 1, 1, 1, 1, 1, 1] g_parseState_inline.body))))))))))))))
theorem g_parseState_inline.good (R : EP) : Good P 335 (g_parseState_inline.ac R) (QF P [.tmp 4] R) :=
  ⟨trivial, ⟨trivial, ⟨trivial, ⟨trivial, ⟨trivial, ⟨trivial, ⟨trivial, ⟨trivial, ⟨trivial, ⟨(loopG (g_parseState_inline.al1 R) (g_parseState_inline.bl1 R) (fun _ => by kernel_rfl) (fun Xa => ⟨trivial, ⟨trivial, ⟨⟨trivial, ⟨trivial, ⟨trivial, ⟨trivial, ⟨⟨trivial, ⟨trivial, cutE (by intro x0 x1 x5q x5n x5c x6 x7 x8 ρ w; kernel_rfl)⟩⟩, ⟨trivial, ⟨trivial, ⟨trivial, ⟨trivial, ⟨trivial, ⟨trivial, ⟨trivial, ⟨⟨trivial, ⟨trivial, ⟨trivial, ⟨trivial, ⟨trivial, ⟨trivial, ⟨trivial, cutE (by intro x0 x1 x5q x5n x5c x6 x7 x8 x9 x39 x81 ρ w; kernel_rfl)⟩⟩⟩⟩⟩⟩⟩, cutE (by intro x0 x1 x5q x5n x5c x6 x7 x8 x9 x39 x60 ρ w; kernel_rfl)⟩⟩⟩⟩⟩⟩⟩⟩⟩⟩⟩⟩⟩, ⟨⟨⟨trivial, ⟨⟨trivial, ⟨trivial, ⟨⟨trivial, ⟨trivial, ⟨trivial, cutE (by intro x0 x1 x5q x5n x5c x6 x7 x10 x12 ρ w; kernel_rfl)⟩⟩⟩, trivial⟩⟩⟩, trivial⟩⟩, ⟨⟨⟨trivial, ⟨⟨⟨trivial, ⟨trivial, ⟨trivial, ⟨trivial, ⟨⟨⟨trivial, ⟨trivial, ⟨⟨trivial, ⟨⟨trivial, ⟨trivial, ⟨trivial, ⟨trivial, cutE (by intro x0 x1 x5q x5n x5c x6 x7 x16 x17 x19 ρ w; kernel_rfl)⟩⟩⟩⟩, cutE (by intro x0 x1 x5q x5n x5c x6 x7 x8 x16 x17 x18 x19 ρ w; kernel_rfl)⟩⟩, trivial⟩⟩⟩, trivial⟩, cutE (by intro x0 x1 x5q x5n x5c x6 x7 x8 x16 x17 x199 ρ w; kernel_rfl)⟩⟩⟩⟩⟩, trivial⟩, cutE (by intro x0 x1 x5q x5n x5c x6 x7 x8 x165 ρ w; kernel_rfl)⟩⟩, trivial⟩, cutE (by intro x0 x1 x5q x5n x5c x6 x7 x8 ρ w; kernel_rfl)⟩⟩, cutE (by intro x0 x1 x5q x5n x5c x6 x7 x8 x9 ρ w; kernel_rfl)⟩⟩⟩⟩) (fun Xa => by intro x0 x1 x5q x5n x5c x6 x7 x8 ρ w; kernel_rfl) (fun X h _ _ _ _ _ _ _ _ _ g => g X h)), ⟨trivial, ⟨⟨by kernel_rfl, by kernel_rfl, fun _ _ _ h => h⟩, trivial⟩⟩⟩⟩⟩⟩⟩⟩⟩⟩⟩⟩
theorem g_parseState_inline.eq (R : EP) (x0 : OA) (x1 : BA) (w : World) : g_parseState_inline R x0 x1 w = vcA P 335 (g_parseState_inline.ac R) (QF P [.tmp 4] R) (fr0 [.pointer x0, .string x1]) w := by kernel_rfl
theorem g_parseState_inline.sound {R : EP} {x0 : OA} {x1 : ByteArray} {w : World} (h : g_parseState_inline R x0 x1 w) : callE P i_parseState_inline #[.pointer x0, .string x1] R w :=
  callE_fin (c := g_parseState_inline.body) Tryz.func34 Tryz.call34 (by kernel_rfl) (by kernel_rfl) (by kernel_rfl) (by kernel_rfl) (by kernel_rfl) (g_parseState_inline.good R) (g_parseState_inline.eq R x0 x1 w) h
namespace g_parseState_mergePlain
noncomputable def body : Code := bodyOf Tryz.f58
def k2 (R : EP) (Xa : OA → Nat → Nat → OA → Nat → Nat → Int → Int → WP) (x1q : OA) (x1n : Nat) (x1c : Nat) (x5q : OA) (x5n : Nat) (x5c : Nat) (x7 : Int) (w : World) : Prop :=
 br (decide (x7 ≥ (x1n : Int)))
 (R (.returned (.slice x5q x5n x5c)) w)
 (0 ≤ x7 ∧ x7 < (x1n : Int) ∧
 nilP x1q fun a17 =>
 ∃ (v18 : Value), w.cell? (a17.add (Int.toNat x7 * 1)) = some v18 ∧
 ∃ (r19q : OA), ∃ (r19n : Nat), ∃ (r19c : Nat), ∃ w20, (Instr.buildSlice ty_S_Inline 1 #[(0, v18)]).run P w = .ok (.slice r19q r19n r19c) w20 ∧
 ∃ (r21q : OA), ∃ (r21n : Nat), ∃ (r21c : Nat), ∃ w22, (Builtin.append_ #[ty_S_Inline, ty_S_Inline] ty_S_Inline #[.slice x5q x5n x5c, .slice r19q r19n r19c]).run P w20 = .ok (.slice r21q r21n r21c) w22 ∧
 Xa x1q x1n x1c r21q r21n r21c (IntKind.i64.wrap (x7 + 1)) (IntKind.i64.wrap (x7 + 1)) w22)

def k1 (R : EP) (Xa : OA → Nat → Nat → OA → Nat → Nat → Int → Int → WP) (x1q : OA) (x1n : Nat) (x1c : Nat) (x5q : OA) (x5n : Nat) (x5c : Nat) (x6 : Int) (x7 : Int) (w : World) : Prop :=
 br (decide (x6 < x7))
 (∃ (r9q : OA), ∃ (r9n : Nat), ∃ (r9c : Nat), ∃ w10, (Instr.sliceAt ty_S_Inline (.slice x1q x1n x1c) (some (.int .i64 x6)) (some (.int .i64 x7)) none).run P w = .ok (.slice r9q r9n r9c) w10 ∧
 callE P i_mergePlain1 #[.slice r9q r9n r9c] (fun e w12 => ∃ (r11 : OA), e = .returned (.pointer r11) ∧
 ∃ (r13q : OA), ∃ (r13n : Nat), ∃ (r13c : Nat), ∃ w14, (Instr.buildSlice ty_S_Inline 1 #[(0, .iface ty_P_Plain (.pointer r11))]).run P w12 = .ok (.slice r13q r13n r13c) w14 ∧
 ∃ (r15q : OA), ∃ (r15n : Nat), ∃ (r15c : Nat), ∃ w16, (Builtin.append_ #[ty_S_Inline, ty_S_Inline] ty_S_Inline #[.slice x5q x5n x5c, .slice r13q r13n r13c]).run P w14 = .ok (.slice r15q r15n r15c) w16 ∧
 k2 R Xa x1q x1n x1c r15q r15n r15c x7 w16) w10)
 (k2 R Xa x1q x1n x1c x5q x5n x5c x7 w)

def bl1 (R : EP) (Xa : OA → Nat → Nat → OA → Nat → Nat → Int → Int → WP) (x1q : OA) (x1n : Nat) (x1c : Nat) (x5q : OA) (x5n : Nat) (x5c : Nat) (x6 : Int) (x7 : Int) (w : World) : Prop :=
 br (decide (x7 < (x1n : Int)))
 (0 ≤ x7 ∧ x7 < (x1n : Int) ∧
 nilP x1q fun a3 =>
 ∃ (v4 : Value), w.cell? (a3.add (Int.toNat x7 * 1)) = some v4 ∧
 callE P i_toPlain #[v4] (fun e w6 => ∃ (r5 : OA), e = .returned (.pointer r5) ∧
 ∃ (r7 : Bool), ∃ w8, (do eqGuard .neq ty_P_Plain (.tmp 21) (.const (.pointer none)) (.pointer r5) (.pointer none); binOp .neq ty_P_Plain (.pointer r5) (.pointer none)).run P w6 = .ok (.bool r7) w8 ∧
 br r7
 (Xa x1q x1n x1c x5q x5n x5c x6 (IntKind.i64.wrap (x7 + 1)) w8)
 (k1 R Xa x1q x1n x1c x5q x5n x5c x6 x7 w8)) w)
 (k1 R Xa x1q x1n x1c x5q x5n x5c x6 x7 w)
def l1 (R : EP) (x1q : OA) (x1n : Nat) (x1c : Nat) (x5q : OA) (x5n : Nat) (x5c : Nat) (x6 : Int) (x7 : Int) (w : World) : Prop :=
  ∀ X : OA → Nat → Nat → OA → Nat → Nat → Int → Int → WP, (∀ x1q x1n x1c x5q x5n x5c x6 x7 w, bl1 R X x1q x1n x1c x5q x5n x5c x6 x7 w → X x1q x1n x1c x5q x5n x5c x6 x7 w) → X x1q x1n x1c x5q x5n x5c x6 x7 w

noncomputable def al1 (R : EP) (Xa : OA → Nat → Nat → OA → Nat → Nat → Int → Int → WP) : AC :=
  (.seq (.block 1 (.seq (.leaf (sel [1, 1, 1, 0, 1, 0, 0, 0, 0, 0] body)) (.mark (leaf [(1, .s .slice), (5, .s .slice), (6, .s (.int .i64)), (7, .s (.int .i64))] (k1 R Xa)) (.seq (.leaf (sel [1, 1, 1, 0, 1, 0, 0, 0, 0, 1, 0] body)) (.mark (leaf [(1, .s .slice), (5, .s .slice), (7, .s (.int .i64))] (k2 R Xa)) (.leaf (sel [1, 1, 1, 0, 1, 0, 0, 0, 0, 1, 1] body))))))) (.leaf (sel [1, 1, 1, 0, 1, 0, 0, 1] body)))
end g_parseState_mergePlain
def g_parseState_mergePlain (R : EP) (x0 : OA) (x1q : OA) (x1n : Nat) (x1c : Nat) (w : World) : Prop :=
 ∃ (r1q : OA), ∃ (r1n : Nat), ∃ (r1c : Nat), ∃ w2, (Instr.sliceAt ty_S_Inline (.slice x1q x1n x1c) none (some (.int .i64 0)) none).run P w = .ok (.slice r1q r1n r1c) w2 ∧
 g_parseState_mergePlain.l1 R x1q x1n x1c r1q r1n r1c 0 0 w2

noncomputable def g_parseState_mergePlain.ac (R : EP) : AC :=
  (.seq (.leaf (sel [0] g_parseState_mergePlain.body)) (.seq (.leaf (sel [1, 0] g_parseState_mergePlain.body)) (.seq (.leaf (sel [1, 1, 0] g_parseState_mergePlain.body)) (.seq (.seq (.leaf (sel [1, 1, 1, 0, 0] g_parseState_mergePlain.body)) (.block 0 (.loop (leaf [(1, .s .slice), (5, .s .slice), (6, .s (.int .i64)), (7, .s (.int .i64))] (g_parseState_mergePlain.l1 R)) (sel [1, 1, 1, 0, 1, 0, 0] g_parseState_mergePlain.body)))) (.leaf (sel [1, 1, 1, 1] g_parseState_mergePlain.body))))))
theorem g_parseState_mergePlain.good (R : EP) : Good P 50 (g_parseState_mergePlain.ac R) (QF P [.tmp 4] R) :=
  ⟨trivial, ⟨trivial, ⟨trivial, ⟨⟨trivial, (loopG (g_parseState_mergePlain.al1 R) (g_parseState_mergePlain.bl1 R) (fun _ => by kernel_rfl) (fun Xa => ⟨⟨trivial, ⟨⟨trivial, ⟨trivial, cutE (by intro x1q x1n x1c x5q x5n x5c x7 ρ w; kernel_rfl)⟩⟩, cutE (by intro x1q x1n x1c x5q x5n x5c x6 x7 ρ w; kernel_rfl)⟩⟩, trivial⟩) (fun Xa => by intro x1q x1n x1c x5q x5n x5c x6 x7 ρ w; kernel_rfl) (fun X h _ _ _ _ _ _ _ _ _ g => g X h))⟩, trivial⟩⟩⟩⟩
theorem g_parseState_mergePlain.eq (R : EP) (x0 : OA) (x1q : OA) (x1n : Nat) (x1c : Nat) (w : World) : g_parseState_mergePlain R x0 x1q x1n x1c w = vcA P 50 (g_parseState_mergePlain.ac R) (QF P [.tmp 4] R) (fr0 [.pointer x0, .slice x1q x1n x1c]) w := by kernel_rfl
theorem g_parseState_mergePlain.sound {R : EP} {x0 : OA} {x1q : OA} {x1n : Nat} {x1c : Nat} {w : World} (h : g_parseState_mergePlain R x0 x1q x1n x1c w) : callE P i_parseState_mergePlain #[.pointer x0, .slice x1q x1n x1c] R w :=
  callE_fin (c := g_parseState_mergePlain.body) Tryz.func58 Tryz.call58 (by kernel_rfl) (by kernel_rfl) (by kernel_rfl) (by kernel_rfl) (by kernel_rfl) (g_parseState_mergePlain.good R) (g_parseState_mergePlain.eq R x0 x1q x1n x1c w) h
namespace g_mergePlain1
noncomputable def body : Code := bodyOf Tryz.f100
def bl1 (R : EP) (Xa : OA → Nat → Nat → OA → Nat → Nat → Int → Int → WP) (x3q : OA) (x3n : Nat) (x3c : Nat) (x13q : OA) (x13n : Nat) (x13c : Nat) (x14 : Int) (x15 : Int) (w : World) : Prop :=
 br (decide (x15 < x14))
 (0 ≤ x15 ∧ x15 < (x13n : Int) ∧
 nilP x13q fun a5 =>
 ∃ (v6 : Value), w.cell? (a5.add (Int.toNat x15 * 1)) = some v6 ∧
 callE P i_toPlain #[v6] (fun e w8 => ∃ (r7 : OA), e = .returned (.pointer r7) ∧
 nilP r7 fun a9 =>
 ∃ (v10 : BA), w8.cell? a9 = some (.string v10) ∧
 ∃ (r11q : OA), ∃ (r11n : Nat), ∃ (r11c : Nat), ∃ w12, (Instr.buildSlice ty_S_string 1 #[(0, .string v10)]).run P w8 = .ok (.slice r11q r11n r11c) w12 ∧
 ∃ (r13q : OA), ∃ (r13n : Nat), ∃ (r13c : Nat), ∃ w14, (Builtin.append_ #[ty_S_string, ty_S_string] ty_S_string #[.slice x3q x3n x3c, .slice r11q r11n r11c]).run P w12 = .ok (.slice r13q r13n r13c) w14 ∧
 Xa r13q r13n r13c x13q x13n x13c x14 (IntKind.i64.wrap (x15 + 1)) w14) w)
 (callE P i_strings_Join #[.slice x3q x3n x3c, .string (ByteArray.mk #[])] (fun e w16 => ∃ (r15 : BA), e = .returned (.string r15) ∧
 box w16 #[.string r15] ty_Plain fun b17 w18 =>
 R (.returned (.pointer (some ⟨b17, 0, none⟩))) w18) w)
def l1 (R : EP) (x3q : OA) (x3n : Nat) (x3c : Nat) (x13q : OA) (x13n : Nat) (x13c : Nat) (x14 : Int) (x15 : Int) (w : World) : Prop :=
  ∀ X : OA → Nat → Nat → OA → Nat → Nat → Int → Int → WP, (∀ x3q x3n x3c x13q x13n x13c x14 x15 w, bl1 R X x3q x3n x3c x13q x13n x13c x14 x15 w → X x3q x3n x3c x13q x13n x13c x14 x15 w) → X x3q x3n x3c x13q x13n x13c x14 x15 w

noncomputable def al1 (R : EP) (Xa : OA → Nat → Nat → OA → Nat → Nat → Int → Int → WP) : AC :=
  (.leaf (sel [1, 1, 1, 0, 1, 0, 0] body))
end g_mergePlain1
def g_mergePlain1 (R : EP) (x0q : OA) (x0n : Nat) (x0c : Nat) (w : World) : Prop :=
 br ((x0n : Int) == 1)
 (0 ≤ (0 : Int) ∧ 0 < (x0n : Int) ∧
 nilP x0q fun a1 =>
 ∃ (v2 : Value), w.cell? (a1.add (Int.toNat 0 * 1)) = some v2 ∧
 callE P i_toPlain #[v2] (fun e w4 => ∃ (r3 : OA), e = .returned (.pointer r3) ∧
 R (.returned (.pointer r3)) w4) w)
 (g_mergePlain1.l1 R none 0 0 x0q x0n x0c (x0n : Int) 0 w)

noncomputable def g_mergePlain1.ac (R : EP) : AC :=
  (.seq (.leaf (sel [0] g_mergePlain1.body)) (.seq (.leaf (sel [1, 0] g_mergePlain1.body)) (.seq (.leaf (sel [1, 1, 0] g_mergePlain1.body)) (.seq (.seq (.leaf (sel [1, 1, 1, 0, 0] g_mergePlain1.body)) (.block 0 (.loop (leaf [(3, .s .slice), (13, .s .slice), (14, .s (.int .i64)), (15, .s (.int .i64))] (g_mergePlain1.l1 R)) (sel [1, 1, 1, 0, 1, 0, 0] g_mergePlain1.body)))) (.leaf (sel [1, 1, 1, 1] g_mergePlain1.body))))))
theorem g_mergePlain1.good (R : EP) : Good P 32 (g_mergePlain1.ac R) (QF P [.tmp 2] R) :=
  ⟨trivial, ⟨trivial, ⟨trivial, ⟨⟨trivial, (loopG (g_mergePlain1.al1 R) (g_mergePlain1.bl1 R) (fun _ => by kernel_rfl) (fun Xa => trivial) (fun Xa => by intro x3q x3n x3c x13q x13n x13c x14 x15 ρ w; kernel_rfl) (fun X h _ _ _ _ _ _ _ _ _ g => g X h))⟩, trivial⟩⟩⟩⟩
theorem g_mergePlain1.eq (R : EP) (x0q : OA) (x0n : Nat) (x0c : Nat) (w : World) : g_mergePlain1 R x0q x0n x0c w = vcA P 32 (g_mergePlain1.ac R) (QF P [.tmp 2] R) (fr0 [.slice x0q x0n x0c]) w := by kernel_rfl
theorem g_mergePlain1.sound {R : EP} {x0q : OA} {x0n : Nat} {x0c : Nat} {w : World} (h : g_mergePlain1 R x0q x0n x0c w) : callE P i_mergePlain1 #[.slice x0q x0n x0c] R w :=
  callE_fin (c := g_mergePlain1.body) Tryz.func100 Tryz.call100 (by kernel_rfl) (by kernel_rfl) (by kernel_rfl) (by kernel_rfl) (by kernel_rfl) (g_mergePlain1.good R) (g_mergePlain1.eq R x0q x0n x0c w) h
namespace g_toPlain
noncomputable def body : Code := bodyOf Tryz.f99
end g_toPlain
def g_toPlain (R : EP) (x0 : Value) (w : World) : Prop :=
 ∃ (r1_0 : OA), ∃ (r1_1 : Bool), ∃ w2, (Instr.typeAssert x0 ty_Inline ty_P_Plain true).run P w = .ok (.tuple #[.pointer r1_0, .bool r1_1]) w2 ∧
 br r1_1
 (R (.returned (.pointer r1_0)) w2)
 (∃ (r3_0 : OA), ∃ (r3_1 : Bool), ∃ w4, (Instr.typeAssert x0 ty_Inline ty_P_emphPlain true).run P w2 = .ok (.tuple #[.pointer r3_0, .bool r3_1]) w4 ∧
 br r3_1
 (nilP r3_0 fun a5 =>
 R (.returned (.pointer (some a5))) w4)
 (∃ (r6_0 : OA), ∃ (r6_1 : Bool), ∃ w7, (Instr.typeAssert x0 ty_Inline ty_P_openPlain true).run P w4 = .ok (.tuple #[.pointer r6_0, .bool r6_1]) w7 ∧
 br r6_1
 (nilP r6_0 fun a8 =>
 R (.returned (.pointer (some a8))) w7)
 (R (.returned (.pointer none)) w7)))

noncomputable def g_toPlain.ac (R : EP) : AC :=
  (.leaf (sel [] g_toPlain.body))
theorem g_toPlain.good (R : EP) : Good P 23 (g_toPlain.ac R) (QF P [.tmp 2] R) :=
  trivial
theorem g_toPlain.eq (R : EP) (x0 : Value) (w : World) : g_toPlain R x0 w = vcA P 23 (g_toPlain.ac R) (QF P [.tmp 2] R) (fr0 [x0]) w := by kernel_rfl
theorem g_toPlain.sound {R : EP} {x0 : Value} {w : World} (h : g_toPlain R x0 w) : callE P i_toPlain #[x0] R w :=
  callE_fin (c := g_toPlain.body) Tryz.func99 Tryz.call99 (by kernel_rfl) (by kernel_rfl) (by kernel_rfl) (by kernel_rfl) (by kernel_rfl) (g_toPlain.good R) (g_toPlain.eq R x0 w) h
end Go.Proofs.YtihmcipajjakgaaGreatDoor

set_option linter.unusedVariables false
namespace Go.Proofs.YtihmcipajjakgaaGreatDoor
open Go.Proofs Go.IntWalk Go.RowKit
variable {σ : Out} {w : World} {L L' : List Chunk} {R : Ending → World → Prop}
def Inl.plain? : Inl → Option (List UInt8)
  | .plain s => some s
  | .openP s _ => some s
  | .emphP s _ _ _ _ => some s
  | _ => none
theorem toPlain_yes {t : Inl} {v : Value} {M : List Chunk} {s : List UInt8} (hI : InlAt t v M) (hs : t.plain? = some s) (hR : ∀ b cs e, M = [(b, cel (.string (bs s) :: cs) e)] → R (.returned (.pointer (some ⟨b, 0, none⟩))) w) : callE P i_toPlain #[v] R w := by
  refine g_toPlain.sound ?_
  cases t <;> simp only [Inl.plain?, Option.some.injEq, reduceCtorEq] at hs <;> subst hs
  · obtain ⟨b, cs, e, rfl, rfl⟩ := hI
    exact ⟨_, _, _, ta_plain_yes w, br_true rfl (hR b _ _ rfl)⟩
  · obtain ⟨b, e, rfl, rfl⟩ := hI
    exact ⟨_, _, _, ta_plain_no (by decide) w, br_false rfl ⟨_, _, _, ta_emph_no (by decide) w, br_false rfl ⟨_, _, _, ta_open_yes w, br_true rfl (nilP_some (hR b _ _ rfl))⟩⟩⟩
  · obtain ⟨b, e, rfl, rfl⟩ := hI
    exact ⟨_, _, _, ta_plain_no (by decide) w, br_false rfl ⟨_, _, _, ta_emph_yes w, br_true rfl (nilP_some (hR b _ _ rfl))⟩⟩
theorem Inl.not_plain {t : Inl} (h : t.plain? = none) : t.ty ≠ ty_P_Plain ∧ t.ty ≠ ty_P_openPlain ∧ t.ty ≠ ty_P_emphPlain := by
  cases t <;> simp only [Inl.plain?, reduceCtorEq] at h <;> (simp only [Inl.ty]; decide)
theorem toPlain_no {t : Inl} {v : Value} {M : List Chunk} (hI : InlAt t v M) (hs : t.plain? = none) (hR : R (.returned (.pointer none)) w) : callE P i_toPlain #[v] R w := by
  refine g_toPlain.sound ?_
  obtain ⟨h1, h2, h3⟩ := Inl.not_plain hs
  obtain ⟨b, cs, e, M', rfl, _⟩ := hI.ptr
  exact ⟨_, _, _, ta_plain_no h1 w, br_false rfl ⟨_, _, _, ta_emph_no h3 w, br_false rfl ⟨_, _, _, ta_open_no h2 w, br_false rfl hR⟩⟩⟩

theorem joinL_nil : ∀ us : List (List UInt8), joinL [] us = us.flatten
  | [] => rfl
  | u :: us => by simp [joinL, List.flatten_cons, List.flatMap_id']
theorem InlsAt.mid {a : List Inl} {t : Inl} {b : List Inl} {vs : List Value} {M : List Chunk} (h : InlsAt (a ++ t :: b) vs M) : ∃ vs1 v vs2 M1 M2 M3, vs = vs1 ++ v :: vs2 ∧ M = M1 ++ (M2 ++ M3) ∧ InlsAt a vs1 M1 ∧ InlAt t v M2 ∧ InlsAt b vs2 M3 := by
  obtain ⟨vs1, vs2, M1, M2, rfl, rfl, h1, h2⟩ := h.split
  obtain ⟨v, vs', N1, N2, rfl, rfl, h3, h4⟩ := h2
  exact ⟨vs1, v, vs', M1, N1, N2, rfl, rfl, h1, h3, h4⟩
theorem fillS (t : List UInt8) : Instr.fill (fun i => some (i * 1, 1)) ((Array.range (1 * 1)).map (rowStr.z.cells[· % rowStr.z.cells.size]!)) [(0, .string (bs t))] = some #[.string (bs t)] := by kernel_rfl

theorem mergePlain1_ok {rb s m c : Nat} {cs : List Value} {e : TypeId} {vs : List Value} {ts : List Inl} {us : List (List UInt8)} {EM : List Chunk} (hI : InlsAt ts vs EM) (hu : ts.map Inl.plain? = us.map some) (hm : vs.length = m) (h1 : 1 ≤ m) (hmb : m < 1073741824)
    (hcs : ∀ j (hj : j < m), cs[s + j]? = vs[j]?) (hpos : 0 < us.flatten.length) (hb : us.flatten.length < 1073741824) (h : Sat σ w ((rb, cel cs e) :: (EM ++ L)))
    (hR : ∀ w b EM', InlAt (.plain us.flatten) (ptrV ty_P_Plain b) EM' → Sat σ w ((rb, cel cs e) :: (EM' ++ L)) → R (.returned (.pointer (some ⟨b, 0, none⟩))) w) :
    callE P i_mergePlain1 #[.slice (some ⟨rb, s, none⟩) m c] R w := by
  have hlt := hI.length
  have hul : us.length = ts.length := by have := congrArg List.length hu; simpa using this.symm
  refine g_mergePlain1.sound ?_
  have get : ∀ j, j < m → ∃ t v a b M1 M2 M3 u, ts = a ++ t :: b ∧ EM = M1 ++ (M2 ++ M3) ∧ InlAt t v M2 ∧ t.plain? = some u ∧ us[j]? = some u ∧ cs[s + j]? = some v ∧ a.length = j := by
    intro j hj
    have hjt : j < ts.length := by omega
    have hsp : ts = ts.take j ++ (ts[j] :: ts.drop (j + 1)) := by rw [← List.drop_eq_getElem_cons hjt, List.take_append_drop]
    have hju : j < us.length := by omega
    have hp : ts[j].plain? = some us[j] := by
      have := congrArg (fun l => l[j]?) hu
      simpa [hjt, hju] using this
    have hI' := hI
    rw [hsp] at hI'
    obtain ⟨vs1, v, vs2, M1, M2, M3, rfl, rfl, h1, h2, h3⟩ := hI'.mid
    have hl1 := h1.length
    rw [List.length_take, Nat.min_eq_left (by omega)] at hl1
    refine ⟨ts[j], v, ts.take j, ts.drop (j + 1), M1, M2, M3, us[j], hsp, rfl, h2, hp, List.getElem?_eq_getElem hju, ?_, ?_⟩
    · rw [hcs j hj, List.getElem?_append_right (by omega), hl1]; simp
    · rw [List.length_take]; omega
  by_cases hm1 : m = 1
  · refine br_true (by simp [hm1]) ⟨by omega, by omega, nilP_some ?_⟩
    obtain ⟨t, v, a, b, M1, M2, M3, u, rfl, rfl, h2, hp, hu0, hc0, ha⟩ := get 0 (by omega)
    have hb0 : b = [] := by
      simp only [List.length_append, List.length_cons, ha] at hlt
      exact List.eq_nil_of_length_eq_zero (by omega)
    have ha0 : a = [] := List.eq_nil_of_length_eq_zero ha
    subst hb0 ha0
    obtain ⟨us0, rfl⟩ : ∃ x, us = [x] := by
      simp at hul
      match us, hul with
      | [x], _ => exact ⟨x, rfl⟩
    obtain rfl : us0 = u := by simpa using hu0
    simp only [Addr.add_lit, Int.toNat_zero, Nat.zero_mul, Nat.add_zero]
    refine ⟨v, Sat.ld h (.head _) hc0, ?_⟩
    refine toPlain_yes h2 hp fun bb ccs ee hM => ⟨_, rfl, ?_⟩
    refine hR w bb M2 ?_ ?_
    · rw [hM]; exact ⟨bb, ccs, ee, rfl, by simp⟩
    · exact h.less (M1 ++ M3) (by intro _; simp only [List.append_eq, cnt_append, cnt_cons, cnt_nil] <;> omega)
  · refine br_false (by simp; omega) ?_
    intro X hX
    have key : ∀ k j (q : Option Addr) (n c' : Nat) AM w, j + k = m → Sl 1 ty_string q n c' (sv (us.take j)) AM → Sat σ w (AM ++ ((rb, cel cs e) :: (EM ++ L))) → X q n c' (some ⟨rb, s, none⟩) m c (m : Int) (j : Int) w := by
      intro k
      induction k with
      | zero =>
        intro j q n c' AM w hj hS h
        refine hX _ _ _ _ _ _ _ _ _ (br_false (by simp; omega) ?_)
        rw [List.take_of_length_le (by omega)] at hS
        cases us with
        | nil => simp at hul; omega
        | cons u us =>
          have hn := hS.1
          rw [sv_length] at hn
          simp at hul hn
          have hjl := joinL_nil (u :: us)
          refine join_ok (sep := []) hS h (by omega) (by omega) (by simp) (by rw [hjl]; exact hpos) (by rw [hjl]; exact hb) fun w h => ⟨_, rfl, ?_⟩
          rw [hjl]
          refine Sat.bx h fun pb w h => ?_
          refine hR w pb [(pb, cel [.string (bs (u :: us).flatten)] ty_Plain)] ⟨pb, [], _, rfl, rfl⟩ ?_
          exact h.less (AM ++ EM) (by intro _; simp only [List.append_eq, cnt_append, cnt_cons, cnt_nil] <;> omega)
      | succ k ih =>
        intro j q n c' AM w hj hS h
        have hjm : j < m := by omega
        have hju : j < us.length := by omega
        refine hX _ _ _ _ _ _ _ _ _ (br_true (by simp; omega) ⟨by omega, by omega, nilP_some ?_⟩)
        obtain ⟨t, v, a, b, M1, M2, M3, u, rfl, rfl, h2, hp, hu0, hc0, ha⟩ := get j hjm
        simp only [Addr.add_lit, Int.toNat_natCast, Nat.mul_one]
        refine ⟨v, Sat.ld h (List.mem_append_right _ (.head _)) hc0, ?_⟩
        refine toPlain_yes h2 hp fun bb ccs ee hM => ⟨_, rfl, nilP_some ?_⟩
        subst hM
        refine ⟨_, Sat.ld h (List.mem_append_right _ (.tail _ (List.mem_append_left _ (List.mem_append_right _ (.head _))))) rfl, ?_⟩
        have hn := hS.1
        rw [sv_length, List.length_take] at hn
        refine Sat.app1 rowStr hS h (v := .string (bs u)) rfl (by simp [Value.cells, Value.oneCell']) (fillS u) (by omega) (by omega) (by decide) fun q' c'' w' M' hS' h => ?_
        rw [i64_inc (by omega)]
        refine ih (j + 1) q' (n + 1) c'' M' w' (by omega) ?_ h
        have e : sv (us.take (j + 1)) = sv (us.take j) ++ [.string (bs u)] := by
          rw [List.take_succ_eq_append_getElem hju]
          have : us[j] = u := by rw [List.getElem?_eq_getElem hju] at hu0; exact Option.some.inj hu0
          simp [sv, this]
        rw [e]; exact hS'
    exact key m 0 none 0 0 [] w (by omega) (Sl.nil 1 ty_string) h
end Go.Proofs.YtihmcipajjakgaaGreatDoor

