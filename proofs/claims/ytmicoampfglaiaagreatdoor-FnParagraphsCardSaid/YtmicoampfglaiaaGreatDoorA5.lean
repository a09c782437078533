/- Part 5 of the proof of the law FnParagraphs: for every input the law returns true, the inputs read as they did, and memory that was there is as it was; under the conditions of the given row alone. Holds: Buf Buf2 Bld Esc Print1 Print2 Room Emph0 G_strings_Builder_Grow G_strings_Builder_grow Join Merge Merge2 InlLoop InlLoop2 InlEnd PlainLn OneLine Html G_isPunct G_parseBreak G_parseEscape G_isUnicodePunct G_isUnicodeSpace G_parseEmph G_unicode_utf8_DecodeLastRuneInString G_unicode_utf8_DecodeRuneInString Runs Scan Small G_parseDot. -/
import Derived.Lib.Builder
import Derived.Test.YtmicoampfglaiaaGreatDoorA4
set_option linter.all false
/- bytes.Buffer: growing and writing. -/
set_option linter.unusedVariables false
namespace Go.Proofs.YtmicoampfglaiaaGreatDoor
open Go.Proofs Go.IntWalk Go.RowKit
variable {σ : Out} {w : World} {L L' : List Chunk} {R : Ending → World → Prop}

/-- What a callee leaves that makes one new row. -/
theorem Sat.newRow (h : Sat σ w L) {w' : World} (hb : Below w.heap.size w w') {cs : Array Value} {e : TypeId} (hr : w'.heap[w.heap.size]? = some (.cells cs e)) : Sat σ w' ((w.heap.size, cel cs.toList e) :: L) := by
  refine ⟨hb.os.trans h.os, hb.output.trans h.out, ?_, ?_⟩
  · simp only [List.map_cons, List.nodup_cons]
    refine ⟨fun hm => ?_, h.nodup⟩
    obtain ⟨c, hc, he⟩ := List.mem_map.1 hm
    exact Nat.lt_irrefl _ (he ▸ h.lt hc)
  · intro c hc
    cases hc with
    | head => simpa [cel] using hr
    | tail _ hc =>
      rw [hb.block _ (h.lt hc)]
      exact h.at_ _ hc
theorem callE_calls {f : FuncId} {args : Array Value} (hc : ∀ args w, (callFunc f args).run P w = .ok (.enter f args) w) (h : Calls P f args w R) : callE P f args R w := .inl ⟨hc, h⟩

theorem growSlice_ok {q : Option Addr} {n c m : Nat} {l : List UInt8} {M : List Chunk} (hS : By q n c l M) (h : Sat σ w (M ++ L)) (hm : 1 ≤ m) (hcm : c < n + m) (hb : n + m ≤ 1099511627776)
    (hR : ∀ w b c' sp, n + m ≤ c' → c' ≤ 9223372036854775807 → By (some ⟨b, 0, none⟩) n c' l [(b, cel (bc l ++ sp) ty_uint8)] → Sat σ w ((b, cel (bc l ++ sp) ty_uint8) :: (M ++ L)) → R (.returned (.slice (some ⟨b, 0, none⟩) n c')) w) :
    callE P i_bytes_growSlice #[.slice q n c, .int .i64 m] R w := by
  have hn := hS.len
  have hS0 := hS
  obtain ⟨hl, hnc, ⟨rfl, rfl, rfl, rfl⟩ | ⟨b, sp, rfl, rfl, h3⟩⟩ := hS
  · have hl0 : l = [] := List.eq_nil_of_length_eq_zero (by omega)
    subst hl0
    refine callE_calls cf_bytes_growSlice ((Any.bytes_growSlice_nil (P := P) lays290 m w hm (by omega)).mono ?_)
    rintro e w' ⟨cap2, cells, rfl, hr, hsz, hge, hle, hbl⟩
    have := h.newRow hbl hr
    have ht5 : lays290_ren.t 5 = ty_uint8 := rfl
    rw [ht5] at this
    refine hR w' _ cap2 cells.toList (by omega) (by unfold maxLen at hle; exact hle) ⟨by simp [bc], by omega, .inr ⟨_, cells.toList, rfl, rfl, ?_⟩⟩ this
    simp [bc, hsz]
  · have hg := h.at_ _ (.head _)
    refine callE_calls cf_bytes_growSlice ((Any.bytes_growSlice_row (P := P) lays290 b n c m (bc l ++ sp).toArray w hg (by simpa using h3) hnc hm (by omega) (by omega) ?_).mono ?_)
    · intro v hv
      rw [hn] at hv
      rw [show (bc l ++ sp).toArray.toList.take l.length = bc l from by rw [← bc_length l]; simp] at hv
      exact bc_one v hv
    · rintro e w' ⟨cap2, cells, rfl, hr, hsz, htk, hge, hle, hbl⟩
      have htk' : cells.toList.take n = bc l := by rw [htk, hn, ← bc_length l]; simp
      have hcs : cells.toList = bc l ++ cells.toList.drop n := by rw [← htk', List.take_append_drop]
      have := h.newRow hbl hr
      rw [hcs] at this
      refine hR w' _ cap2 (cells.toList.drop n) hge (by unfold maxLen at hle; exact hle) ⟨by simp; omega, by omega, .inr ⟨_, _, rfl, rfl, ?_⟩⟩ this
      rw [← hcs, Array.length_toList]; omega
theorem freshRow_nil {c m : Nat} {q : Option Addr} (h : By q 0 c [] []) : q = none := by
  obtain ⟨_, _, h | ⟨b, sp, _, h, _⟩⟩ := h
  · exact h.1
  · cases h
theorem By.raw {q : Option Addr} {n c : Nat} {l : List UInt8} {M : List Chunk} (h : By q n c l M) : (q = none ∧ n = 0 ∧ c = 0 ∧ M = []) ∨ ∃ b sp, q = some ⟨b, 0, none⟩ ∧ M = [(b, cel (bc l ++ sp) ty_uint8)] ∧ (bc l ++ sp).length = c := by
  obtain ⟨_, _, h | ⟨b, sp, h1, h2, h3⟩⟩ := h
  · exact .inl h
  · exact .inr ⟨b, sp, h1, h2, by omega⟩
/-- Room for m more bytes is made. -/
theorem grow_ok {b : Nat} {q : Option Addr} {c m : Nat} {lr : Int} {l : List UInt8} {M : List Chunk} (h : Sat σ w (bufC b q l.length c lr :: (M ++ L))) (hS : By q l.length c l M) (hm : 1 ≤ m) (hcm : c < l.length + m) (hb : l.length + m ≤ 1099511627776)
    (hR : ∀ w g c' sp lr, l.length + m ≤ c' → c' ≤ 9223372036854775807 → (bc l ++ sp).length = c' → Sat σ w (bufC b (some ⟨g, 0, none⟩) (l.length + m) c' lr :: (g, cel (bc l ++ sp) ty_uint8) :: L) → R (.returned (.int .i64 l.length)) w) :
    callE P i_bytes_Buffer_grow #[.pointer (some ⟨b, 0, none⟩), .int .i64 m] R w := by
  have hnc := hS.2.1
  refine g_bytes_Buffer_grow.sound ?_
  refine bufLen_ok h (by omega) fun w h => ⟨_, rfl, ?_⟩
  have key2 : ∀ w, Sat σ w (bufC b q l.length c lr :: (M ++ L)) → 1 ≤ m → tk w fun w32 =>
      nilP (some ⟨b, 0, none⟩) fun a33 => nilP (some ⟨b, 0, none⟩) fun a34 => nilP (some ⟨b, 0, none⟩) fun a35 =>
      ∃ (v36q : Option Addr), ∃ (v36n : Nat), ∃ (v36c : Nat), w32.cell? a33 = some (.slice v36q v36n v36c) ∧
      ∃ (v37 : Int), w32.cell? (a34.add 1) = some (.int .i64 v37) ∧
      ∃ (r38q : Option Addr), ∃ (r38n : Nat), ∃ (r38c : Nat), (∀ w, (Instr.sliceAt ty_S_uint8 (.slice v36q v36n v36c) (some (.int .i64 v37)) none none).run P w = .ok (.slice r38q r38n r38c) w) ∧
      ∃ (v39 : Int), w32.cell? (a35.add 1) = some (.int .i64 v39) ∧
      callE P i_bytes_growSlice #[.slice r38q r38n r38c, .int .i64 (IntKind.i64.wrap (v39 + (m : Int)))] (fun e w41 => ∃ (r40q : Option Addr), ∃ (r40n : Nat), ∃ (r40c : Nat), e = .returned (.slice r40q r40n r40c) ∧
      nilP (some ⟨b, 0, none⟩) fun a42 => stV w41 (a42.add 0) (.slice r40q r40n r40c) fun w43 => g_bytes_Buffer_grow.k3 R (some ⟨b, 0, none⟩) m l.length w43) w32 := by
    intro w h _
    refine Sat.tk h fun w h => ?_
    refine nilP_some (nilP_some (nilP_some ?_))
    refine ⟨_, _, _, Sat.ld h (by first | assumption | (repeat (first | exact .head _ | apply List.Mem.tail))) (by exact rfl), ?_⟩
    refine ⟨_, Sat.ld h (by first | assumption | (repeat (first | exact .head _ | apply List.Mem.tail))) (by exact rfl), ?_⟩
    refine ⟨_, _, _, fun w => sliceF rowU8.ht rowU8.hi q l.length c 0 (by omega) w, ?_⟩
    refine ⟨_, Sat.ld h (by first | assumption | (repeat (first | exact .head _ | apply List.Mem.tail))) (by exact rfl), ?_⟩
    rw [Int.zero_add, i64_in _ (by omega)]
    have e0 : (if c = 0 then q else q.map (·.add (0 * rowU8.i.size))) = q := by
      rw [Nat.zero_mul]
      split
      · rfl
      · cases q <;> rfl
    rw [e0, Nat.sub_zero, Nat.sub_zero]
    have h : Sat σ w (M ++ (bufC b q l.length c lr :: L)) := h.re (by intro _; simp only [List.append_eq, cnt_append, cnt_cons, cnt_nil] <;> omega)
    refine growSlice_ok hS h hm hcm hb fun w g c' sp h1 h2 h3 h => ⟨_, _, _, rfl, nilP_some ?_⟩
    have h : Sat σ w (bufC b q l.length c lr :: (g, cel (bc l ++ sp) ty_uint8) :: (M ++ L)) := h.re (by intro _; simp only [List.append_eq, cnt_append, cnt_cons, cnt_nil] <;> omega)
    refine Sat.st h (k := 0) rfl (Nat.le_of_ble_eq_true rfl) trivial (by first | (dsimp only [List.set]; exact rfl) | exact rfl) fun w h => ?_
    refine nilP_some ?_
    refine Sat.st h (k := 0) rfl (Nat.le_of_ble_eq_true rfl) trivial (by first | (dsimp only [List.set]; exact rfl) | exact rfl) fun w h => ?_
    refine nilP_some ?_
    refine ⟨_, _, _, Sat.ld h (by first | assumption | (repeat (first | exact .head _ | apply List.Mem.tail))) (by exact rfl), ?_⟩
    rw [i64_in _ (by omega), show ((l.length : Int) + m) = ((l.length + m : Nat) : Int) by omega]
    refine ⟨_, _, _, _, sliceT rowU8.ht rowU8.hi _ _ c' (l.length + m) h1 w, ?_⟩
    refine nilP_some ?_
    refine Sat.st h (k := 0) rfl (Nat.le_of_ble_eq_true rfl) trivial (by first | (dsimp only [List.set]; exact rfl) | exact rfl) fun w h => ?_
    have h4 : (bc l ++ sp).length = c' := by
      obtain ⟨_, _, ⟨h, _⟩ | ⟨b', sp', e1, e2, h3⟩⟩ := h3
      · cases h
      · simp only [List.cons.injEq, Prod.mk.injEq] at e2
        have : cel (bc l ++ sp) ty_uint8 = cel (bc l ++ sp') ty_uint8 := e2.1.2
        simp only [cel, Obj.cells.injEq, and_true] at this
        have e3 : bc l ++ sp = bc l ++ sp' := by simpa using congrArg Array.toList this
        rw [e3]; omega
    refine hR w g c' sp lr h1 h2 h4 ?_
    have h : Sat σ w (bufC b (some ⟨g, 0, none⟩) (l.length + m) c' lr :: (g, cel (bc l ++ sp) ty_uint8) :: (M ++ L)) := h
    exact h.less M (by intro _; simp only [List.append_eq, cnt_append, cnt_cons, cnt_nil] <;> omega)
  have key : ∀ w, Sat σ w (bufC b q l.length c lr :: (M ++ L)) → g_bytes_Buffer_grow.k1 R (some ⟨b, 0, none⟩) m l.length w := by
    intro w h
    refine tryGrow_ok h hnc (by omega) (by omega) (by omega) (fun hh => absurd hh (by omega)) fun _ w h => ⟨_, _, rfl, ?_⟩
    refine br_false rfl ?_
    refine nilP_some ?_
    refine ⟨_, _, _, Sat.ld h (by first | assumption | (repeat (first | exact .head _ | apply List.Mem.tail))) (by exact rfl), ?_⟩
    refine ⟨_, _, eq_slice_nil rowU8.ht q _ c w, ?_⟩
    rcases hS.raw with ⟨rfl, hl0, rfl, rfl⟩ | ⟨g, sp, rfl, rfl, h3⟩
    · obtain rfl := List.eq_nil_of_length_eq_zero hl0
      by_cases h64 : m ≤ 64
      · refine br_true (by simp; omega) ?_
        have hmk := run_makeSlice (P := P) (w := w) ty_S_uint8 ty_uint8 rowU8.i rowU8.z rowU8.ht rowU8.hi rowU8.hz .i64 .i64 (m : Int) 64 (by omega) (by omega) (by rw [rowU8.hs]; decide) (by rw [rowU8.hb]; decide) (by omega)
        refine ⟨_, _, _, _, hmk, nilP_some ?_⟩
        rw [rowU8.hs]
        have hal := h.alc (madeCells rowU8.z.cells ((64 : Int).toNat * 1)).toList ty_uint8
        rw [show YtmicoampfglaiaaGreatDoor.alc w (madeCells rowU8.z.cells ((64 : Int).toNat * 1)).toList.toArray ty_uint8 = w.alloc (.cells (madeCells rowU8.z.cells ((64 : Int).toNat * 1)) ty_uint8) from by rw [Array.toArray_toList]; rfl] at hal
        generalize w.heap.size = g at hal ⊢
        refine Sat.st hal (k := 1) rfl (Nat.le_of_ble_eq_true rfl) trivial rfl fun w h => ?_
        refine hR w g 64 (madeCells rowU8.z.cells ((64 : Int).toNat * 1)).toList lr (by simpa using h64) (by omega) ?_ ?_
        · show ([] ++ (madeCells rowU8.z.cells ((64 : Int).toNat * 1)).toList).length = 64
          rw [List.nil_append, Array.length_toList, size_madeCells]; decide
        · have e : m = ([] : List UInt8).length + m := by simp
          rw [← e]
          have h : Sat σ w ((g, cel (madeCells rowU8.z.cells ((64 : Int).toNat * 1)).toList ty_uint8) :: bufC b (some ⟨g, 0, none⟩) m 64 lr :: L) := h
          exact h.up1
      · refine br_false (by simp; omega) ?_
        refine nilP_some ?_
        refine ⟨_, _, _, Sat.ld h (by first | assumption | (repeat (first | exact .head _ | apply List.Mem.tail))) (by exact rfl), ?_⟩
        refine ⟨_, _, capRun _ _ _ _ _ _ rowU8.ht w, by decide, ?_⟩
        refine br_false (by rw [show Int.tdiv ((0 : Nat) : Int) 2 = 0 from rfl]; simp (disch := omega) only [i64_in]; simp; omega) ?_
        refine br_false (by simp (disch := omega) only [i64_in]; simp; omega) ?_
        exact key2 w h (by omega)
    · refine br_false (by simp) ?_
      refine nilP_some ?_
      refine ⟨_, _, _, Sat.ld h (by first | assumption | (repeat (first | exact .head _ | apply List.Mem.tail))) (by exact rfl), ?_⟩
      refine ⟨_, _, capRun _ _ _ _ _ _ rowU8.ht w, by decide, ?_⟩
      have hd : Int.tdiv (c : Int) 2 = ((c / 2 : Nat) : Int) := by rw [Int.tdiv_eq_ediv_of_nonneg (by omega)]; omega
      rw [hd]
      refine br_false (by simp (disch := omega) only [i64_in]; simp; omega) ?_
      refine br_false (by simp (disch := omega) only [i64_in]; simp; omega) ?_
      exact key2 w h (by omega)
  refine br_split (fun h0 => ?_) (fun _ => key w h)
  refine nilP_some ?_
  refine ⟨_, Sat.ld h (by first | assumption | (repeat (first | exact .head _ | apply List.Mem.tail))) (by exact rfl), ?_⟩
  exact br_false rfl (key w h)
theorem u8size : (P.info? ty_uint8).map (·.size) = some 1 := by kernel_rfl
theorem byS_mk {b n c : Nat} {l : List UInt8} {sp : List Value} (hn : n = l.length) (h : (bc l ++ sp).length = c) : By (some ⟨b, 0, none⟩) n c l [(b, cel (bc l ++ sp) ty_uint8)] := by
  refine ⟨by rw [bc_length]; omega, ?_, .inr ⟨b, sp, rfl, rfl, by omega⟩⟩
  rw [List.length_append, bc_length] at h
  omega
theorem Sat.row {g : Nat} {cs : List Value} {e : TypeId} (h : Sat σ w ((g, cel cs e) :: L)) (o : Nat) (vs : List Value) (hl : o + vs.length ≤ cs.length) :
    Sat σ (w.setRow g (cs.take o ++ vs ++ cs.drop (o + vs.length)).toArray) ((g, cel (cs.take o ++ vs ++ cs.drop (o + vs.length)) e) :: L) := by
  have hg := h.at_ _ (.head _)
  refine ⟨h.os, h.out, h.nodup, fun c hc => ?_⟩
  cases hc with
  | head =>
    simp only [World.setRow, Array.getElem?_modify, if_true]
    rw [show w.heap[g]? = _ from hg]
    simp [cel]
  | tail _ hc =>
    have hne : g ≠ c.1 := by
      intro h1
      have := h.nodup
      simp only [List.map_cons, List.nodup_cons] at this
      exact this.1 (by rw [h1]; exact List.mem_map.2 ⟨c, hc, rfl⟩)
    simp only [World.setRow, Array.getElem?_modify, if_neg hne]
    exact h.at_ _ (.tail _ hc)
/-- The end of WriteString: the row has room for the text. -/
theorem writeK_ok {b g c : Nat} {lr : Int} {l s : List UInt8} {sp : List Value} (h : Sat σ w (bufC b (some ⟨g, 0, none⟩) (l.length + s.length) c lr :: (g, cel (bc l ++ sp) ty_uint8) :: L)) (hc : (bc l ++ sp).length = c) (hle : l.length + s.length ≤ c) (hc2 : c ≤ 9223372036854775807)
    (hR : ∀ w M, Buf b (l ++ s) M → Sat σ w (M ++ L) → R (.returned (.tuple #[.int .i64 s.length, .nilIface])) w) : g_bytes_Buffer_WriteString.k1 R (some ⟨b, 0, none⟩) (bs s) l.length w := by
  refine nilP_some ?_
  refine ⟨_, _, _, Sat.ld h (by first | assumption | (repeat (first | exact .head _ | apply List.Mem.tail))) (by exact rfl), ?_⟩
  refine ⟨_, _, _, _, sliceF rowU8.ht rowU8.hi _ (l.length + s.length) c l.length (by omega) w, ?_⟩
  have h : Sat σ w ((g, cel (bc l ++ sp) ty_uint8) :: bufC b (some ⟨g, 0, none⟩) (l.length + s.length) c lr :: L) := h.up1
  have hg := h.at_ _ (.head _)
  by_cases h0 : c = l.length
  · have hs : s = [] := List.eq_nil_of_length_eq_zero (by omega)
    subst hs
    rw [if_pos h0]
    have hcp := Lib.run_copy_row_string (P := P) w ty_S_uint8 ty_string ty_int ty_uint8 g 0 (l.length + ([] : List UInt8).length - l.length) (c - l.length) (bs []) (bc l ++ sp).toArray ty_uint8 rowU8.ht u8size hg (by simp) (by simp)
    refine ⟨_, _, hcp, ?_⟩
    have hrow := h.row 0 [] (by simp)
    have e1 : ((bc l ++ sp).toArray.toList.take 0 ++ Lib.byteCells (bs []).data.toList ++ (bc l ++ sp).toArray.toList.drop (0 + (bs []).size)) = (bc l ++ sp).take 0 ++ [] ++ (bc l ++ sp).drop (0 + ([] : List Value).length) := by
      simp [Lib.byteCells]
    rw [e1]
    have e2 : (bc l ++ sp).take 0 ++ [] ++ (bc l ++ sp).drop (0 + ([] : List Value).length) = bc l ++ sp := by simp
    rw [e2] at hrow ⊢
    refine hR _ (bufC b (some ⟨g, 0, none⟩) (l ++ []).length c lr :: [(g, cel (bc (l ++ []) ++ sp) ty_uint8)]) ⟨_, c, lr, _, rfl, byS_mk rfl (by rw [List.append_nil]; exact hc), hc2⟩ ?_
    rw [List.append_nil]
    exact hrow.up1
  · rw [if_neg h0]
    rw [rowU8.hs, Nat.mul_one]
    have e1 : (some (⟨g, 0, none⟩ : Addr)).map (·.add l.length) = some ⟨g, l.length, none⟩ := by simp [Addr.add_zero_lit]
    rw [e1]
    have hcp := Lib.run_copy_row_string (P := P) w ty_S_uint8 ty_string ty_int ty_uint8 g l.length (l.length + s.length - l.length) (c - l.length) (bs s) (bc l ++ sp).toArray ty_uint8 rowU8.ht u8size hg (by simp) (by simp at hc ⊢; omega)
    refine ⟨_, _, hcp, ?_⟩
    have hb : Lib.byteCells (bs s).data.toList = bc s := by simp [Lib.byteCells, bc, bs]
    rw [hb, bs_size]
    have hrow := h.row l.length (bc s) (by simp at hc ⊢; omega)
    rw [bc_length] at hrow
    have e2 : (bc l ++ sp).take l.length = bc l := by rw [← bc_length l, List.take_left]
    have e3 : (bc l ++ sp).drop (l.length + s.length) = sp.drop s.length := by
      rw [List.drop_append, List.drop_eq_nil_of_le (by rw [bc_length]; omega), bc_length, Nat.add_sub_cancel_left]; rfl
    rw [e2, e3] at hrow
    refine hR _ (bufC b (some ⟨g, 0, none⟩) (l ++ s).length c lr :: [(g, cel (bc (l ++ s) ++ sp.drop s.length) ty_uint8)]) ⟨_, c, lr, _, rfl, byS_mk rfl ?_, hc2⟩ ?_
    · simp at hc ⊢; omega
    · rw [List.length_append, bc_append]
      simp only [e2, e3]
      exact hrow.up1
end Go.Proofs.YtmicoampfglaiaaGreatDoor

/- bytes.Buffer: WriteString, WriteByte, String. -/
set_option linter.unusedVariables false
namespace Go.Proofs.YtmicoampfglaiaaGreatDoor
open Go.Proofs Go.IntWalk Go.RowKit
variable {σ : Out} {w : World} {L L' : List Chunk} {R : Ending → World → Prop}
theorem copyNil (w : World) : (Builtin.copy_ #[ty_S_uint8, ty_string] ty_int #[.slice none 0 0, .string (bs [])]).run P w = .ok (.int .i64 0) w := by
  have h : P.underlying ty_S_uint8 = some (.slice ty_uint8) := rowU8.ht
  have h2 : P.info? ty_uint8 = some rowU8.i := rowU8.hi
  have h3 := firstCells_string (P := P) (bs []) w
  have h4 : (Builtin.lenOf (.string (bs []))).run P w = .ok 0 w := rfl
  have h5 : rowU8.i.size = 1 := rowU8.hs
  have h6 : (Builtin.firstCells 1 0 (.string (bs []))).run P w = .ok (Go.byteCells (bs [])).toArray w := h3
  simp [Builtin.copy_, run_underlying h, sizeOf, typeInfo, h2, goInt, h4, h5, h6]
theorem writeS_ok {b : Nat} {l s : List UInt8} {M : List Chunk} (hB : Buf b l M) (h : Sat σ w (M ++ L)) (hb : l.length + s.length ≤ 1099511627776)
    (hR : ∀ w M', Buf b (l ++ s) M' → Sat σ w (M' ++ L) → R (.returned (.tuple #[.int .i64 s.length, .nilIface])) w) : callE P i_bytes_Buffer_WriteString #[.pointer (some ⟨b, 0, none⟩), .string (bs s)] R w := by
  obtain ⟨q, c, lr, M0, rfl, hS, hc⟩ := hB
  have hnc := hS.2.1
  refine g_bytes_Buffer_WriteString.sound ?_
  refine nilP_some ?_
  refine Sat.st h (k := 0) rfl (Nat.le_of_ble_eq_true rfl) trivial (by first | (dsimp only [List.set]; exact rfl) | exact rfl) fun w h => ?_
  have h : Sat σ w (bufC b q l.length c 0 :: (M0 ++ L)) := h
  rw [bs_size]
  refine tryGrow_ok h hnc hc (by omega) (by omega) (fun hh w h => ⟨_, _, rfl, br_false rfl ?_⟩) (fun hh w h => ⟨_, _, rfl, br_true rfl ?_⟩)
  · rcases hS.raw with ⟨rfl, hl0, rfl, rfl⟩ | ⟨g, sp, rfl, rfl, h3⟩
    · obtain rfl := List.eq_nil_of_length_eq_zero hl0
      obtain rfl : s = [] := List.eq_nil_of_length_eq_zero (by simpa using hh)
      refine nilP_some ?_
      refine ⟨_, _, _, Sat.ld h (by first | assumption | (repeat (first | exact .head _ | apply List.Mem.tail))) (by exact rfl), ?_⟩
      refine ⟨_, _, _, _, sliceF rowU8.ht rowU8.hi none 0 0 0 (by omega) w, ?_⟩
      refine ⟨_, _, copyNil w, ?_⟩
      exact hR w _ ⟨none, 0, 0, [], rfl, By.nil, by omega⟩ h
    · exact writeK_ok h h3 hh hc fun w M' hB h => hR w M' hB h
  · refine grow_ok h hS (by omega) hh hb fun w g c' sp lr h1 h2 h3 h => ⟨_, rfl, ?_⟩
    exact writeK_ok h h3 h1 h2 fun w M' hB h => hR w M' hB h
theorem writeB_ok {b : Nat} {l : List UInt8} {k : UInt8} {M : List Chunk} (hB : Buf b l M) (h : Sat σ w (M ++ L)) (hb : l.length + 1 ≤ 1099511627776)
    (hR : ∀ w M', Buf b (l ++ [k]) M' → Sat σ w (M' ++ L) → R (.returned .nilIface) w) : callE P i_bytes_Buffer_WriteByte #[.pointer (some ⟨b, 0, none⟩), .int .u8 (k.toNat : Int)] R w := by
  obtain ⟨q, c, lr, M0, rfl, hS, hc⟩ := hB
  have hnc := hS.2.1
  refine g_bytes_Buffer_WriteByte.sound ?_
  refine nilP_some ?_
  refine Sat.st h (k := 0) rfl (Nat.le_of_ble_eq_true rfl) trivial (by first | (dsimp only [List.set]; exact rfl) | exact rfl) fun w h => ?_
  have h : Sat σ w (bufC b q l.length c 0 :: (M0 ++ L)) := h
  have key : ∀ w g c' sp lr, l.length + 1 ≤ c' → c' ≤ 9223372036854775807 → (bc l ++ sp).length = c' → Sat σ w (bufC b (some ⟨g, 0, none⟩) (l.length + 1) c' lr :: (g, cel (bc l ++ sp) ty_uint8) :: L) →
      g_bytes_Buffer_WriteByte.k1 R (some ⟨b, 0, none⟩) (k.toNat : Int) (l.length : Int) w := by
    intro w g c' sp lr h1 h2 h3 h
    refine nilP_some ?_
    refine ⟨_, _, _, Sat.ld h (by first | assumption | (repeat (first | exact .head _ | apply List.Mem.tail))) (by exact rfl), ?_⟩
    refine ⟨by omega, by omega, nilP_some ?_⟩
    simp only [Addr.add_lit, Int.toNat_natCast, Nat.mul_one, Nat.zero_add, Nat.add_zero]
    simp only [List.length_append, bc_length] at h3
    refine Sat.st h (k := 1) rfl (by simp; omega) trivial rfl fun w h => ?_
    have e : (bc l ++ sp).set l.length (.int .u8 (k.toNat : Int)) = bc (l ++ [k]) ++ sp.drop 1 := by
      rw [List.set_append_right _ _ (by simp), bc_length, Nat.sub_self, bc_append]
      cases sp with
      | nil => simp at h3; omega
      | cons x sp => simp [bc]
    have h : Sat σ w (bufC b (some ⟨g, 0, none⟩) (l.length + 1) c' lr :: (g, cel ((bc l ++ sp).set l.length (.int .u8 (k.toNat : Int))) ty_uint8) :: L) := h
    rw [e] at h
    refine hR w (bufC b (some ⟨g, 0, none⟩) (l ++ [k]).length c' lr :: [(g, cel (bc (l ++ [k]) ++ sp.drop 1) ty_uint8)]) ⟨_, c', lr, _, rfl, byS_mk rfl (by simp; omega), h2⟩ ?_
    rw [List.length_append]
    exact h
  refine tryGrow_ok (m := 1) h hnc hc (by omega) (by omega) (fun hh w h => ⟨_, _, rfl, br_false rfl ?_⟩) (fun hh w h => ⟨_, _, rfl, br_true rfl ?_⟩)
  · rcases hS.raw with ⟨rfl, hl0, rfl, rfl⟩ | ⟨g, sp, rfl, rfl, h3⟩
    · omega
    · exact key w g c sp 0 hh hc h3 h
  · exact grow_ok (m := 1) h hS (by omega) hh hb fun w g c' sp lr h1 h2 h3 h => ⟨_, rfl, key w g c' sp lr h1 h2 h3 h⟩
theorem bufStr_ok {b : Nat} {l : List UInt8} {M : List Chunk} (hB : Buf b l M) (h : Sat σ w (M ++ L)) (hR : ∀ w, Sat σ w (M ++ L) → R (.returned (.string (bs l))) w) :
    callE P i_bytes_Buffer_String #[.pointer (some ⟨b, 0, none⟩)] R w := by
  obtain ⟨q, c, lr, M0, rfl, hS, hc⟩ := hB
  refine g_bytes_Buffer_String.sound ?_
  refine ⟨_, _, ptrNil_eq (e := ty_bytes_Buffer) (by kernel_rfl) _ w, br_false rfl ?_⟩
  refine Sat.tk h fun w h => ?_
  refine nilP_some (nilP_some ?_)
  refine ⟨_, _, _, Sat.ld h (by first | assumption | (repeat (first | exact .head _ | apply List.Mem.tail))) (by exact rfl), ?_⟩
  refine ⟨_, Sat.ld h (by first | assumption | (repeat (first | exact .head _ | apply List.Mem.tail))) (by exact rfl), ?_⟩
  refine ⟨_, _, _, fun w => sliceF rowU8.ht rowU8.hi q l.length c 0 (by omega) w, ?_⟩
  have e0 : (if c = 0 then q else q.map (·.add (0 * rowU8.i.size))) = q := by
    rw [Nat.zero_mul]
    split
    · rfl
    · cases q <;> rfl
  rw [e0, Nat.sub_zero, Nat.sub_zero]
  have h' : Sat σ w (M0 ++ (bufC b q l.length c lr :: L)) := h.re (by intro _; simp only [List.append_eq, cnt_append, cnt_cons, cnt_nil] <;> omega)
  exact ⟨_, _, hS.str h', hR w h⟩
theorem bufNew (b : Nat) : Buf b [] [(b, cel [.slice none 0 0, .int .i64 0, .int .i8 0] ty_bytes_Buffer)] := ⟨none, 0, 0, [], rfl, By.nil, by omega⟩
end Go.Proofs.YtmicoampfglaiaaGreatDoor

/- strings.Builder. -/
set_option linter.unusedVariables false
namespace Go.Proofs.YtmicoampfglaiaaGreatDoor
open Go.Proofs Go.IntWalk Go.RowKit
variable {σ : Out} {w : World} {L L' : List Chunk} {R : Ending → World → Prop}
abbrev bldC (b : Nat) (p q : Option Addr) (n c : Nat) : Chunk := (b, cel [.pointer p, .slice q n c] ty_strings_Builder)
/-- A builder that holds the bytes l; it has a row, if g. -/
def Bld (b : Nat) (g : Bool) (l : List UInt8) (M : List Chunk) : Prop :=
  ∃ p q c M0, M = bldC b p q l.length c :: M0 ∧ By q l.length c l M0 ∧ (p = none ∨ p = some ⟨b, 0, none⟩) ∧ q.isSome = g ∧ (g = true → 0 < c)
theorem bldNew (b : Nat) : Bld b false [] [(b, cel [.pointer none, .slice none 0 0] ty_strings_Builder)] := ⟨none, none, 0, [], rfl, By.nil, .inl rfl, rfl, by simp⟩
theorem Sat.shape (h : Sat σ w L) {b : Nat} {cs : List Value} {e : TypeId} (hm : (b, cel cs e) ∈ L) : w.shape? b = some (e, cs.length) := by
  have := h.at_ _ hm
  simp only [cel] at this
  simp [World.shape?, this]
theorem copyCheck_ok {b : Nat} {p q : Option Addr} {n c : Nat} (h : Sat σ w (bldC b p q n c :: L)) (hp : p = none ∨ p = some ⟨b, 0, none⟩)
    (hR : ∀ w, Sat σ w (bldC b (some ⟨b, 0, none⟩) q n c :: L) → R (.returned (.tuple #[])) w) : callE P i_strings_Builder_copyCheck #[.pointer (some ⟨b, 0, none⟩)] R w := by
  have hu : P.underlying ty_P_strings_Builder = some (.pointer ty_strings_Builder) := by kernel_rfl
  have hun : P.underlying ty_unsafe_Pointer = some .unsafePointer := by kernel_rfl
  have hi : P.info? ty_strings_Builder = some ((P.info? ty_strings_Builder).getD default) := by kernel_rfl
  have hs : ((P.info? ty_strings_Builder).getD default).size = 2 := by kernel_rfl
  have hsh := h.shape (.head _)
  refine g_strings_Builder_copyCheck.sound ?_
  refine nilP_some ?_
  refine ⟨_, Sat.ld h (by first | assumption | (repeat (first | exact .head _ | apply List.Mem.tail))) (by exact rfl), ?_⟩
  refine ⟨_, _, ptrNil_eq hu _ w, ?_⟩
  rcases hp with rfl | rfl
  · refine br_true rfl ?_
    refine ⟨_, _, Lib.run_to_unsafe w ⟨b, 0, none⟩ hu hun hi (by rw [hs]; decide) hsh (Nat.zero_lt_succ _), ?_⟩
    refine noEscape_ok ⟨_, rfl, ?_⟩
    refine ⟨_, _, Lib.run_from_unsafe w ⟨b, 0, none⟩ hun hu hi hsh (by kernel_rfl), ?_⟩
    refine nilP_some ?_
    refine Sat.st h (k := 0) rfl (Nat.le_of_ble_eq_true rfl) trivial (by first | (dsimp only [List.set]; exact rfl) | exact rfl) fun w h => ?_
    exact hR _ h
  · refine br_false rfl ?_
    refine nilP_some ?_
    refine ⟨_, Sat.ld h (by first | assumption | (repeat (first | exact .head _ | apply List.Mem.tail))) (by exact rfl), ?_⟩
    refine ⟨_, _, neq_ptr_same hu hi (by rw [hs]; decide) b w, br_false rfl ?_⟩
    exact hR _ h
theorem bldS_ok {b : Nat} {g : Bool} {l s : List UInt8} {M : List Chunk} (hB : Bld b g l M) (h : Sat σ w (M ++ L)) (h0 : s ≠ [] ∨ g = true) (hb : l.length + s.length ≤ 1099511627776)
    (hR : ∀ w M', Bld b true (l ++ s) M' → Sat σ w (M' ++ L) → R (.returned (.tuple #[.int .i64 s.length, .nilIface])) w) : callE P i_strings_Builder_WriteString #[.pointer (some ⟨b, 0, none⟩), .string (bs s)] R w := by
  obtain ⟨p, q, c, M0, rfl, hS, hp, hg, hc⟩ := hB
  refine g_strings_Builder_WriteString.sound ?_
  refine copyCheck_ok h hp fun w h => ⟨rfl, ?_⟩
  refine nilP_some ?_
  refine ⟨_, _, _, Sat.ld h (by first | assumption | (repeat (first | exact .head _ | apply List.Mem.tail))) (by exact rfl), ?_⟩
  have h : Sat σ w (M0 ++ (bldC b (some ⟨b, 0, none⟩) q l.length c :: L)) := h.re (by intro _; simp only [List.append_eq, cnt_append, cnt_cons, cnt_nil] <;> omega)
  have h0' : s ≠ [] ∨ q ≠ none := h0.imp id (fun hg1 => by rw [← hg] at hg1; intro h; rw [h] at hg1; cases hg1)
  refine hS.appS h s h0' hb fun q' c' w M' hS' h hq' hcc => ?_
  have h : Sat σ w (bldC b (some ⟨b, 0, none⟩) q l.length c :: (M' ++ L)) := h.re (by intro _; simp only [List.append_eq, cnt_append, cnt_cons, cnt_nil] <;> omega)
  refine nilP_some ?_
  refine Sat.st h (k := 0) rfl (Nat.le_of_ble_eq_true rfl) trivial (by first | (dsimp only [List.set]; exact rfl) | exact rfl) fun w h => ?_
  rw [bs_size]
  have hc' : 0 < c' := by
    rcases h0 with h0 | h0
    · have := hS'.2.1
      have := List.length_pos_iff.2 h0
      omega
    · have := hc h0; omega
  rw [← List.length_append] at hS'
  refine hR w (bldC b (some ⟨b, 0, none⟩) q' (l ++ s).length c' :: M') ⟨_, _, _, _, rfl, hS', .inr rfl, Option.isSome_iff_ne_none.2 hq', fun _ => hc'⟩ ?_
  rw [List.length_append]
  exact h
theorem bldB_ok {b : Nat} {g : Bool} {l : List UInt8} {k : UInt8} {M : List Chunk} (hB : Bld b g l M) (h : Sat σ w (M ++ L)) (hb : l.length + 1 ≤ 1099511627776)
    (hR : ∀ w M', Bld b true (l ++ [k]) M' → Sat σ w (M' ++ L) → R (.returned .nilIface) w) : callE P i_strings_Builder_WriteByte #[.pointer (some ⟨b, 0, none⟩), .int .u8 (k.toNat : Int)] R w := by
  obtain ⟨p, q, c, M0, rfl, hS, hp, hg, hc⟩ := hB
  refine g_strings_Builder_WriteByte.sound ?_
  refine copyCheck_ok h hp fun w h => ⟨rfl, ?_⟩
  refine nilP_some ?_
  refine ⟨_, _, _, Sat.ld h (by first | assumption | (repeat (first | exact .head _ | apply List.Mem.tail))) (by exact rfl), ?_⟩
  have h : Sat σ w (M0 ++ (bldC b (some ⟨b, 0, none⟩) q l.length c :: L)) := h.re (by intro _; simp only [List.append_eq, cnt_append, cnt_cons, cnt_nil] <;> omega)
  refine hS.app1 h k hb fun q' c' w M' hS' h => ?_
  have h : Sat σ w (bldC b (some ⟨b, 0, none⟩) q l.length c :: (M' ++ L)) := h.re (by intro _; simp only [List.append_eq, cnt_append, cnt_cons, cnt_nil] <;> omega)
  refine nilP_some ?_
  refine Sat.st h (k := 0) rfl (Nat.le_of_ble_eq_true rfl) trivial (by first | (dsimp only [List.set]; exact rfl) | exact rfl) fun w h => ?_
  have hq' : q'.isSome = true := by
    rcases hS'.raw with ⟨_, h2, _, _⟩ | ⟨b', sp, rfl, _, _⟩
    · omega
    · rfl
  refine hR w (bldC b (some ⟨b, 0, none⟩) q' (l ++ [k]).length c' :: M') ⟨_, _, _, _, rfl, by rw [List.length_append]; exact hS', .inr rfl, hq', fun _ => by have := hS'.2.1; omega⟩ ?_
  rw [List.length_append]
  exact h
theorem Sat.freeze {b : Nat} {cs : List Value} {e : TypeId} (h : Sat σ w ((b, cel cs e) :: L)) (n : Nat) : Sat σ (w.freeze ⟨b, 0, none⟩ n) L := by
  unfold World.freeze
  split
  · exact h.tail
  · refine ⟨h.os, h.out, h.tail.nodup, fun c hc => ?_⟩
    have hne : b ≠ c.1 := by
      intro h1
      have := h.nodup
      simp only [List.map_cons, List.nodup_cons] at this
      exact this.1 (by rw [h1]; exact List.mem_map.2 ⟨c, hc, rfl⟩)
    simp only [Array.getElem?_modify, if_neg hne]
    exact h.at_ _ (.tail _ hc)
theorem bldStr_ok {b : Nat} {g : Bool} {l : List UInt8} {M : List Chunk} (hB : Bld b g l M) (h : Sat σ w (M ++ L)) (hl : l.length < 4611686018427387904) (hR : ∀ w, Sat σ w L → R (.returned (.string (bs l))) w) :
    callE P i_strings_Builder_String #[.pointer (some ⟨b, 0, none⟩)] R w := by
  obtain ⟨p, q, c, M0, rfl, hS, hp, hg, hc⟩ := hB
  refine g_strings_Builder_String.sound ?_
  refine Sat.tk h fun w h => ?_
  refine nilP_some (nilP_some ?_)
  refine ⟨_, _, _, Sat.ld h (by first | assumption | (repeat (first | exact .head _ | apply List.Mem.tail))) (by exact rfl), ?_⟩
  refine ⟨_, _, _, Sat.ld h (by first | assumption | (repeat (first | exact .head _ | apply List.Mem.tail))) (by exact rfl), ?_⟩
  rcases hS.raw with ⟨rfl, hl0, rfl, rfl⟩ | ⟨gb, sp, rfl, rfl, h3⟩
  · obtain rfl := List.eq_nil_of_length_eq_zero hl0
    refine ⟨_, _, Lib.run_unsafeSliceData_nil (P := P) (w := w) _ _ _ _, fun _ _ => rfl, ?_⟩
    refine ⟨_, _, Lib.run_unsafeString_none (P := P) (w := w) _ _ _ _, hR _ h.tail⟩
  · refine ⟨_, _, Lib.run_unsafeSliceData_row (P := P) (w := w) _ _ _ _ _ (by have := hc (by rw [← hg]; rfl); omega), fun _ _ => rfl, ?_⟩
    have h' : Sat σ w ((gb, cel (bc l ++ sp) ty_uint8) :: L) := h.tail
    by_cases hl0 : l = []
    · subst hl0
      refine ⟨_, _, Lib.run_unsafeString_none (P := P) (w := w) _ _ _ _, hR _ h'.tail⟩
    · refine ⟨_, _, Lib.run_unsafeString_row (w := w) ty_P_uint8 ty_int ty_string ty_uint8 (by kernel_rfl) (by kernel_rfl) gb _ (h'.shape (.head _)) l hl0 (by simp) (by omega) (fun j x hj => ?_), hR _ (h'.freeze _)⟩
      rw [Addr.add_zero_lit]
      have hj' := (List.getElem?_eq_some_iff.1 hj).1
      refine h'.ld (.head _) ?_
      rw [List.getElem?_append_left (by rw [bc_length]; exact hj'), bc_get hj']
      rw [(List.getElem?_eq_some_iff.1 hj).2]
end Go.Proofs.YtmicoampfglaiaaGreatDoor

/- zzPairs: texts with some bytes replaced. -/
set_option linter.unusedVariables false
namespace Go.Proofs.YtmicoampfglaiaaGreatDoor
open Go.Proofs Go.IntWalk Go.RowKit
variable {σ : Out} {w : World} {L L' : List Chunk} {R : Ending → World → Prop}
abbrev Prs := List (UInt8 × List UInt8)
def escB (ps : Prs) (c : UInt8) : List UInt8 := match ps.find? (fun p => p.1 == c) with | some p => p.2 | none => [c]
def escS (ps : Prs) (s : List UInt8) : List UInt8 := s.flatMap (escB ps)
def pairC : Prs → List Value
  | [] => []
  | p :: ps => .string (bs [p.1]) :: .string (bs p.2) :: pairC ps
theorem pairC_length : ∀ ps : Prs, (pairC ps).length = 2 * ps.length
  | [] => rfl
  | p :: ps => by simp [pairC, pairC_length ps]; omega
theorem pairC_key : ∀ {ps : Prs} {j : Nat} (h : j < ps.length), (pairC ps)[2 * j]? = some (.string (bs [ps[j].1]))
  | p :: ps, 0, h => rfl
  | p :: ps, j + 1, h => by
    rw [show 2 * (j + 1) = 2 * j + 1 + 1 by omega]
    simp only [pairC, List.getElem?_cons_succ, List.getElem_cons_succ]
    exact pairC_key (by simpa using h)
theorem pairC_val : ∀ {ps : Prs} {j : Nat} (h : j < ps.length), (pairC ps)[2 * j + 1]? = some (.string (bs ps[j].2))
  | p :: ps, 0, h => rfl
  | p :: ps, j + 1, h => by
    rw [show 2 * (j + 1) + 1 = 2 * j + 1 + 1 + 1 by omega]
    simp only [pairC, List.getElem?_cons_succ, List.getElem_cons_succ]
    exact pairC_val (by simpa using h)
def small8 (ps : Prs) : Bool := ps.all fun p => p.2.length ≤ 8
theorem escB_length {ps : Prs} (h : small8 ps = true) (c : UInt8) : (escB ps c).length ≤ 8 := by
  unfold escB
  split
  · rename_i p hp
    have := List.mem_of_find?_eq_some hp
    simpa using (List.all_eq_true.1 h) p this
  · simp
theorem escS_length {ps : Prs} (h : small8 ps = true) : ∀ s : List UInt8, (escS ps s).length ≤ 8 * s.length
  | [] => by simp [escS]
  | c :: s => by
    have := escS_length h s
    have := escB_length h c
    simp only [escS, List.flatMap_cons, List.length_append, List.length_cons] at *
    omega
theorem escS_cons (ps : Prs) (c : UInt8) (s : List UInt8) : escS ps (c :: s) = escB ps c ++ escS ps s := by simp [escS]
theorem escS_append (ps : Prs) (s t : List UInt8) : escS ps (s ++ t) = escS ps s ++ escS ps t := by simp [escS]

theorem writePairs_ok {b pb c : Nat} {e : TypeId} {l s : List UInt8} {ps : Prs} {M : List Chunk} (hB : Buf b l M) (h : Sat σ w (M ++ L)) (hp : (pb, cel (pairC ps) e) ∈ L) (h8 : small8 ps = true) (hpl : ps.length < 100000)
    (hs : s.length < 4611686018427387904) (hb : l.length + 8 * s.length ≤ 1099511627776)
    (hR : ∀ w M', Buf b (l ++ escS ps s) M' → Sat σ w (M' ++ L) → R (.returned (.tuple #[])) w) :
    callE P i_zzPairs_WriteString #[.slice (some ⟨pb, 0, none⟩) (2 * ps.length) c, .pointer (some ⟨b, 0, none⟩), .string (bs s)] R w := by
  refine g_zzPairs_WriteString.sound ?_
  intro X hX
  have key : ∀ k i l w M, i + k = s.length → Buf b l M → Sat σ w (M ++ L) → l.length + 8 * k ≤ 1099511627776 → (∀ w M', Buf b (l ++ escS ps (s.drop i)) M' → Sat σ w (M' ++ L) → R (.returned (.tuple #[])) w) →
      X (some ⟨pb, 0, none⟩) (2 * ps.length) c (some ⟨b, 0, none⟩) (bs s) i w := by
    intro k
    induction k with
    | zero =>
      intro i l w M hi hB h hb hR
      refine hX _ _ _ _ _ _ _ (br_false (by simp; omega) ?_)
      refine hR w M ?_ h
      rw [List.drop_eq_nil_of_le (by omega)]
      simpa [escS] using hB
    | succ k ih =>
      intro i l w M hi hB h hb hR
      have hil : i < s.length := by omega
      rw [List.drop_eq_getElem_cons hil, escS_cons, ← List.append_assoc] at hR
      have hlen8 := escB_length h8 s[i]
      refine hX _ _ _ _ _ _ _ (br_true (by simp; omega) ?_)
      intro Y hY
      have key2 : ∀ m j w, j + m = ps.length → ps.find? (fun p => p.1 == s[i]) = (ps.drop j).find? (fun p => p.1 == s[i]) → Sat σ w (M ++ L) → Y (some ⟨pb, 0, none⟩) (2 * ps.length) c (some ⟨b, 0, none⟩) (bs s) i ((2 * j : Nat) : Int) w := by
        intro m
        induction m with
        | zero =>
          intro j w hj hf h
          refine hY _ _ _ _ _ _ _ _ (br_false (by simp; omega) ?_)
          refine ⟨by omega, by simp; omega, ?_⟩
          rw [bt_at hil]
          have he : escB ps s[i] = [s[i]] := by
            unfold escB
            rw [hf, List.drop_eq_nil_of_le (by omega)]
            rfl
          rw [he] at hR hlen8
          refine writeB_ok hB h (by omega) fun w M' hB h => ⟨_, rfl, ?_⟩
          rw [i64_inc (by omega)]
          exact ih (i + 1) _ w M' (by omega) hB h (by simp; omega) hR
        | succ m ihm =>
          intro j w hj hf h
          have hjl : j < ps.length := by omega
          refine hY _ _ _ _ _ _ _ _ (br_true (by simp; omega) ?_)
          refine Sat.tk h fun w h => ?_
          refine ⟨by omega, by simp; omega, by omega, by omega, nilP_some ?_⟩
          simp only [Addr.add_lit, Int.toNat_natCast, Nat.mul_one, Nat.zero_add]
          refine ⟨_, Sat.ld h (List.mem_append_right _ hp) (pairC_key hjl), by omega, by simp, ?_⟩
          rw [bt_at hil, show bt (bs [ps[j].1]) 0 = (ps[j].1.toNat : Int) from rfl, u8_beq]
          by_cases hk : s[i] = ps[j].1
          · refine br_true (by simp [hk]) ?_
            have e1 : IntKind.i64.wrap (((2 * j : Nat) : Int) + 1) = ((2 * j + 1 : Nat) : Int) := i64_inc (by omega)
            rw [e1]
            refine ⟨by omega, by omega, nilP_some ?_⟩
            simp only [Addr.add_lit, Int.toNat_natCast, Nat.mul_one, Nat.zero_add]
            refine ⟨_, Sat.ld h (List.mem_append_right _ hp) (pairC_val hjl), ?_⟩
            have he : escB ps s[i] = ps[j].2 := by
              unfold escB
              rw [hf, List.drop_eq_getElem_cons hjl, List.find?_cons_of_pos (by simp [hk])]
            rw [he] at hR hlen8
            refine writeS_ok hB h (by omega) fun w M' hB h => ⟨_, _, rfl, ?_⟩
            rw [i64_inc (by omega)]
            exact ih (i + 1) _ w M' (by omega) hB h (by simp; omega) hR
          · refine br_false (by simpa using hk) ?_
            have e1 : IntKind.i64.wrap (((2 * j : Nat) : Int) + 2) = ((2 * (j + 1) : Nat) : Int) := by simp (disch := omega) only [i64_in]; omega
            rw [e1]
            refine ihm (j + 1) w (by omega) ?_ h
            rw [hf, List.drop_eq_getElem_cons hjl, List.find?_cons_of_neg (by simpa using fun h => hk h.symm)]
      exact key2 ps.length 0 w (by omega) (by rw [List.drop_zero]) h
  exact key s.length 0 l w M (by omega) hB h hb (by rw [List.drop_zero]; exact hR)

theorem pairsReplace_ok {pb c : Nat} {e : TypeId} {s : List UInt8} {ps : Prs} (h : Sat σ w L) (hp : (pb, cel (pairC ps) e) ∈ L) (h8 : small8 ps = true) (hpl : ps.length < 100000) (hs : s.length < 4294967296)
    (hR : ∀ w, Sat σ w L → R (.returned (.string (bs (escS ps s)))) w) :
    callE P i_zzPairs_Replace #[.slice (some ⟨pb, 0, none⟩) (2 * ps.length) c, .string (bs s)] R w := by
  refine g_zzPairs_Replace.sound ?_
  refine Sat.bx h fun b w h => ?_
  refine writePairs_ok (bufNew b) h hp h8 hpl (by omega) (by simp; omega) fun w M hB h => ⟨rfl, ?_⟩
  rw [List.nil_append] at hB
  exact bufStr_ok hB h fun w h => ⟨_, rfl, hR w (h.less M (by intro _; simp only [List.append_eq, cnt_append, cnt_cons, cnt_nil] <;> omega))⟩

theorem buildR {t e : TypeId} {n : Nat} {ps : Array (Nat × Value)} {cs : List Value} (h : Sat σ w L) (ht : P.underlying t = some (.slice e)) (hi : P.info? e = some ((P.info? e).getD default))
    (hz : ((P.info? e).getD default).zero = some (((P.info? e).bind (·.zero)).getD default)) (hs : ((P.info? e).getD default).size = 1) (hn : n ≤ 1000) (hn0 : n ≠ 0)
    (hfill : Instr.fill (fun i => some (i * 1, 1)) ((Array.range (n * 1)).map ((((P.info? e).bind (·.zero)).getD default).cells[· % (((P.info? e).bind (·.zero)).getD default).cells.size]!)) ps.toList = some cs.toArray) {K : Option Addr → Nat → Nat → World → Prop}
    (hK : ∀ b w, Sat σ w ((b, cel cs e) :: L) → K (some ⟨b, 0, none⟩) n n w) : ∃ rq rn rc w1, (Instr.buildSlice t n ps).run P w = .ok (.slice rq rn rc) w1 ∧ K rq rn rc w1 := by
  have hrun := run_buildSlice (P := P) w t e n ps cs.toArray _ _ ht hi hz (by rw [hs]; omega) (by rw [hs]; omega) (by rw [hs]; exact hfill)
  exact ⟨_, _, _, _, hrun, hK _ _ (h.alc cs e)⟩
def htmlPs : Prs := [(34, [38, 113, 117, 111, 116, 59]), (38, [38, 97, 109, 112, 59]), (60, [38, 108, 116, 59]), (62, [38, 103, 116, 59])]
def linkPs : Prs := [(34, [37, 50, 50]), (38, [38, 97, 109, 112, 59]), (60, [37, 51, 67]), (62, [37, 51, 69]), (92, [37, 53, 67]), (32, [37, 50, 48]), (96, [37, 54, 48]), (91, [37, 53, 66]), (93, [37, 53, 68]), (94, [37, 53, 69]), (123, [37, 55, 66]), (125, [37, 55, 68]), (0, [37, 48, 48]), (1, [37, 48, 49]), (2, [37, 48, 50]), (3, [37, 48, 51]), (4, [37, 48, 52]), (5, [37, 48, 53]), (6, [37, 48, 54]), (7, [37, 48, 55]), (8, [37, 48, 56]), (11, [37, 48, 66]), (12, [37, 48, 67]), (14, [37, 48, 69]), (15, [37, 48, 70]), (16, [37, 49, 48]), (17, [37, 49, 49]), (18, [37, 49, 50]), (19, [37, 49, 51]), (20, [37, 49, 52]), (21, [37, 49, 53]), (22, [37, 49, 54]), (23, [37, 49, 55]), (24, [37, 49, 56]), (25, [37, 49, 57]), (26, [37, 49, 65]), (27, [37, 49, 66]), (28, [37, 49, 67]), (29, [37, 49, 68]), (30, [37, 49, 69]), (31, [37, 49, 70]), (127, [37, 55, 70]), (128, [37, 56, 48]), (129, [37, 56, 49]), (130, [37, 56, 50]), (131, [37, 56, 51]), (132, [37, 56, 52]), (133, [37, 56, 53]), (134, [37, 56, 54]), (135, [37, 56, 55]), (136, [37, 56, 56]), (137, [37, 56, 57]), (138, [37, 56, 65]), (139, [37, 56, 66]), (140, [37, 56, 67]), (141, [37, 56, 68]), (142, [37, 56, 69]), (143, [37, 56, 70]), (144, [37, 57, 48]), (145, [37, 57, 49]), (146, [37, 57, 50]), (147, [37, 57, 51]), (148, [37, 57, 52]), (149, [37, 57, 53]), (150, [37, 57, 54]), (151, [37, 57, 55]), (152, [37, 57, 56]), (153, [37, 57, 57]), (154, [37, 57, 65]), (155, [37, 57, 66]), (156, [37, 57, 67]), (157, [37, 57, 68]), (158, [37, 57, 69]), (159, [37, 57, 70]), (160, [37, 65, 48]), (161, [37, 65, 49]), (162, [37, 65, 50]), (163, [37, 65, 51]), (164, [37, 65, 52]), (165, [37, 65, 53]), (166, [37, 65, 54]), (167, [37, 65, 55]), (168, [37, 65, 56]), (169, [37, 65, 57]), (170, [37, 65, 65]), (171, [37, 65, 66]), (172, [37, 65, 67]), (173, [37, 65, 68]), (174, [37, 65, 69]), (175, [37, 65, 70]), (176, [37, 66, 48]), (177, [37, 66, 49]), (178, [37, 66, 50]), (179, [37, 66, 51]), (180, [37, 66, 52]), (181, [37, 66, 53]), (182, [37, 66, 54]), (183, [37, 66, 55]), (184, [37, 66, 56]), (185, [37, 66, 57]), (186, [37, 66, 65]), (187, [37, 66, 66]), (188, [37, 66, 67]), (189, [37, 66, 68]), (190, [37, 66, 69]), (191, [37, 66, 70]), (192, [37, 67, 48]), (193, [37, 67, 49]), (194, [37, 67, 50]), (195, [37, 67, 51]), (196, [37, 67, 52]), (197, [37, 67, 53]), (198, [37, 67, 54]), (199, [37, 67, 55]), (200, [37, 67, 56]), (201, [37, 67, 57]), (202, [37, 67, 65]), (203, [37, 67, 66]), (204, [37, 67, 67]), (205, [37, 67, 68]), (206, [37, 67, 69]), (207, [37, 67, 70]), (208, [37, 68, 48]), (209, [37, 68, 49]), (210, [37, 68, 50]), (211, [37, 68, 51]), (212, [37, 68, 52]), (213, [37, 68, 53]), (214, [37, 68, 54]), (215, [37, 68, 55]), (216, [37, 68, 56]), (217, [37, 68, 57]), (218, [37, 68, 65]), (219, [37, 68, 66]), (220, [37, 68, 67]), (221, [37, 68, 68]), (222, [37, 68, 69]), (223, [37, 68, 70]), (224, [37, 69, 48]), (225, [37, 69, 49]), (226, [37, 69, 50]), (227, [37, 69, 51]), (228, [37, 69, 52]), (229, [37, 69, 53]), (230, [37, 69, 54]), (231, [37, 69, 55]), (232, [37, 69, 56]), (233, [37, 69, 57]), (234, [37, 69, 65]), (235, [37, 69, 66]), (236, [37, 69, 67]), (237, [37, 69, 68]), (238, [37, 69, 69]), (239, [37, 69, 70]), (240, [37, 70, 48]), (241, [37, 70, 49]), (242, [37, 70, 50]), (243, [37, 70, 51]), (244, [37, 70, 52]), (245, [37, 70, 53]), (246, [37, 70, 54]), (247, [37, 70, 55]), (248, [37, 70, 56]), (249, [37, 70, 57]), (250, [37, 70, 65]), (251, [37, 70, 66]), (252, [37, 70, 67]), (253, [37, 70, 68]), (254, [37, 70, 69]), (255, [37, 70, 70])]
theorem buildPairs {n : Nat} {ps : Array (Nat × Value)} (pr : Prs) (h : Sat σ w L) (hn : n ≤ 1000) (hn0 : n ≠ 0)
    (hfill : Instr.fill (fun i => some (i * 1, 1)) ((Array.range (n * 1)).map ((((P.info? ty_string).bind (·.zero)).getD default).cells[· % (((P.info? ty_string).bind (·.zero)).getD default).cells.size]!)) ps.toList = some (pairC pr).toArray) {K : Option Addr → Nat → Nat → World → Prop}
    (hK : ∀ b w, Sat σ w ((b, cel (pairC pr) ty_string) :: L) → K (some ⟨b, 0, none⟩) n n w) : ∃ rq rn rc w1, (Instr.buildSlice ty_zzPairs n ps).run P w = .ok (.slice rq rn rc) w1 ∧ K rq rn rc w1 :=
  buildR h (by kernel_rfl) (by kernel_rfl) (by kernel_rfl) (by kernel_rfl) hn hn0 hfill hK
theorem htmlEscaper_ok (h : Sat σ w L) (hR : ∀ w b, Sat σ w ((b, cel (pairC htmlPs) ty_string) :: L) → R (.returned (.slice (some ⟨b, 0, none⟩) 8 8)) w) : callE P i_htmlEscaper #[] R w := by
  refine g_htmlEscaper.sound ?_
  exact buildPairs htmlPs h (by decide) (by decide) (by kernel_rfl) fun b w h => hR w b h
theorem htmlQuoteEscaper_ok (h : Sat σ w L) (hR : ∀ w b, Sat σ w ((b, cel (pairC htmlPs) ty_string) :: L) → R (.returned (.slice (some ⟨b, 0, none⟩) 8 8)) w) : callE P i_htmlQuoteEscaper #[] R w := by
  refine g_htmlQuoteEscaper.sound ?_
  exact buildPairs htmlPs h (by decide) (by decide) (by kernel_rfl) fun b w h => hR w b h
theorem htmlLinkEscaper_ok (h : Sat σ w L) (hR : ∀ w b, Sat σ w ((b, cel (pairC linkPs) ty_string) :: L) → R (.returned (.slice (some ⟨b, 0, none⟩) 340 340)) w) : callE P i_htmlLinkEscaper #[] R w := by
  refine g_htmlLinkEscaper.sound ?_
  exact buildPairs linkPs h (by decide) (by decide) (by kernel_rfl) fun b w h => hR w b h
end Go.Proofs.YtmicoampfglaiaaGreatDoor

/- What prints itself: values with PrintHTML. -/
set_option linter.unusedVariables false
namespace Go.Proofs.YtmicoampfglaiaaGreatDoor
open Go.Proofs Go.IntWalk Go.RowKit
variable {σ : Out} {w : World} {L L' : List Chunk} {R : Ending → World → Prop}
/-- The value v, whose blocks are T, prints itself by the method m: f says what the buffer has then; T' are its blocks then. -/
def Prints (m : String) (v : Value) (T T' : List Chunk) (f : List UInt8 → List UInt8) : Prop :=
  (∀ l, l.length ≤ (f l).length) ∧
  ∀ (σ : Out) (R : Ending → World → Prop) b l M L w, Buf b l M → Sat σ w (M ++ (T ++ L)) → (f l).length ≤ 549755813888 →
    (∀ w M', Buf b (f l) M' → Sat σ w (M' ++ (T' ++ L)) → R (.returned (.tuple #[])) w) → enterE P (callMethod v m #[.pointer (some ⟨b, 0, none⟩)]) R w
inductive PrintsL (m : String) : List Value → List Chunk → List Chunk → (List UInt8 → List UInt8) → Prop where
  | nil : PrintsL m [] [] [] id
  | cons {v : Value} {vs : List Value} {T T' K K' : List Chunk} {f g : List UInt8 → List UInt8} : Prints m v T T' f → PrintsL m vs K K' g → PrintsL m (v :: vs) (T ++ K) (T' ++ K') (g ∘ f)
theorem PrintsL.mono {m : String} {vs : List Value} {K K' : List Chunk} {f : List UInt8 → List UInt8} (h : PrintsL m vs K K' f) : ∀ l, l.length ≤ (f l).length := by
  induction h with
  | nil => exact fun l => Nat.le_refl _
  | cons h1 _ ih => exact fun l => Nat.le_trans (h1.1 l) (ih _)
theorem printLoop {m : String} {b : Nat} {X : Int → World → Prop} {q : Option Addr} {n c : Nat} {e : TypeId} {vs : List Value} {RM KM KM' M : List Chunk} {l : List UInt8} {f : List UInt8 → List UInt8} {END : World → Prop} (hS : Sl 1 e q n c vs RM)
    (hX : ∀ (j : Int) w, br (decide (j < (n : Int))) (0 ≤ j ∧ j < (n : Int) ∧ nilP q fun a => ∃ (v : Value), w.cell? (a.add (Int.toNat j * 1)) = some v ∧
      enterE P (callMethod v m #[.pointer (some ⟨b, 0, none⟩)]) (fun e w' => e = .returned (.tuple #[]) ∧ X (IntKind.i64.wrap (j + 1)) w') w) (END w) → X j w)
    (hP : PrintsL m vs KM KM' f) (hB : Buf b l M) (h : Sat σ w (M ++ (RM ++ (KM ++ L)))) (hn : n < 4611686018427387904) (hb : (f l).length ≤ 549755813888)
    (hE : ∀ w M', Buf b (f l) M' → Sat σ w (M' ++ (RM ++ (KM' ++ L))) → END w) : X 0 w := by
  have hl := hS.1
  have key : ∀ (vs2 : List Value) (KM KM' : List Chunk) (f : List UInt8 → List UInt8), PrintsL m vs2 KM KM' f → ∀ (vs1 : List Value) (D : List Chunk) l M w, vs1 ++ vs2 = vs → Buf b l M → Sat σ w (M ++ (RM ++ (D ++ (KM ++ L)))) → (f l).length ≤ 549755813888 →
      (∀ w M', Buf b (f l) M' → Sat σ w (M' ++ (RM ++ (D ++ (KM' ++ L)))) → END w) → X (vs1.length : Nat) w := by
    intro vs2 KM KM' f hP
    induction hP with
    | nil =>
      intro vs1 D l M w hv hB h hb hE
      refine hX _ _ (br_false ?_ (hE w M hB h))
      rw [← hv] at hl
      simp at hl
      simp; omega
    | @cons v vs2 T T' K K' f g h1 h2 ih =>
      intro vs1 D l M w hv hB h hb hE
      have hlen : vs1.length < n := by rw [← hv] at hl; simp at hl; omega
      refine hX _ _ (br_true (by simp; omega) ⟨by omega, by omega, ?_⟩)
      have hv1 : vs[vs1.length]? = some v := by rw [← hv]; simp
      obtain ⟨_, _, ⟨rfl, h0, _, _⟩ | ⟨rb, sp, rfl, rfl, _⟩⟩ := hS
      · omega
      · refine nilP_some ?_
        simp only [Addr.add_lit, Int.toNat_natCast, Nat.mul_one, Nat.zero_add]
        refine ⟨v, Sat.ld h (List.mem_append_right _ (.head _)) ?_, ?_⟩
        · rw [List.getElem?_append_left (List.getElem?_eq_some_iff.1 hv1).1]; exact hv1
        · have hmono := h2.mono (f l)
          have h : Sat σ w (M ++ (T ++ ((rb, cel (vs ++ sp) e) :: (D ++ (K ++ L))))) := h.re (by intro _; simp only [List.append_eq, cnt_append, cnt_cons, cnt_nil] <;> omega)
          refine h1.2 σ _ b l M _ w hB h (Nat.le_trans hmono hb) fun w M' hB h => ⟨rfl, ?_⟩
          have h : Sat σ w (M' ++ ([(rb, cel (vs ++ sp) e)] ++ ((D ++ T') ++ (K ++ L)))) := h.re (by intro _; simp only [List.append_eq, cnt_append, cnt_cons, cnt_nil] <;> omega)
          rw [i64_inc (by omega)]
          have := ih (vs1 ++ [v]) (D ++ T') (f l) M' w (by simpa using hv) hB h hb (fun w M' hB h => hE w M' hB (h.re (by intro _; simp only [List.append_eq, cnt_append, cnt_cons, cnt_nil] <;> omega)))
          simpa using this
  exact key vs KM KM' f hP [] [] l M w rfl hB h hb hE

def ab (s : List UInt8) : List UInt8 → List UInt8 := fun l => l ++ s
theorem ab_le (s l : List UInt8) : l.length ≤ (ab s l).length := by simp [ab]
/-! ### Plain texts -/
theorem meth_Plain : methB P ty_P_Plain "PrintHTML" i_Plain_PrintHTML = true := by kernel_rfl
theorem plainPrint_ok {b pb : Nat} {l s : List UInt8} {cs : List Value} {e : TypeId} {M : List Chunk} (hB : Buf b l M) (h : Sat σ w (M ++ ((pb, cel (.string (bs s) :: cs) e) :: L))) (hs : s.length < 4294967296) (hb : l.length ≤ 549755813888)
    (hR : ∀ w M', Buf b (l ++ escS htmlPs s) M' → Sat σ w (M' ++ ((pb, cel (.string (bs s) :: cs) e) :: L)) → R (.returned (.tuple #[])) w) :
    callE P i_Plain_PrintHTML #[.pointer (some ⟨pb, 0, none⟩), .pointer (some ⟨b, 0, none⟩)] R w := by
  refine g_Plain_PrintHTML.sound ?_
  refine Sat.tk h fun w h => ?_
  refine nilP_some ?_
  refine ⟨_, Sat.ld h (List.mem_append_right _ (.head _)) rfl, ?_⟩
  refine htmlEscaper_ok h fun w1 eb h1 => ⟨_, _, _, rfl, h.same h1 (List.mem_append_right _ (.head _)) (.tail _ (List.mem_append_right _ (.head _))) 1, ?_⟩
  have h1 : Sat σ w1 (M ++ ((eb, cel (pairC htmlPs) ty_string) :: (pb, cel (.string (bs s) :: cs) e) :: L)) := h1.re (by intro _; simp only [List.append_eq, cnt_append, cnt_cons, cnt_nil] <;> omega)
  refine writePairs_ok (ps := htmlPs) hB h1 (.head _) (by decide) (by decide) (by omega) (by omega) fun w M' hB h => ⟨rfl, hR w M' hB ?_⟩
  exact h.less [(eb, cel (pairC htmlPs) ty_string)] (by intro _; simp only [List.append_eq, cnt_append, cnt_cons, cnt_nil] <;> omega)
theorem plain_prints {pb : Nat} {s : List UInt8} {cs : List Value} {e : TypeId} (hs : s.length < 4294967296) :
    Prints "PrintHTML" (.iface ty_P_Plain (.pointer (some ⟨pb, 0, none⟩))) [(pb, cel (.string (bs s) :: cs) e)] [(pb, cel (.string (bs s) :: cs) e)] (ab (escS htmlPs s)) := by
  refine ⟨ab_le _, fun σ R b l M L w hB h hb hR => enter_meth meth_Plain ?_⟩
  exact plainPrint_ok hB h hs (Nat.le_trans (ab_le _ l) hb) hR
end Go.Proofs.YtmicoampfglaiaaGreatDoor

/- Texts, paragraphs, documents print themselves. -/
set_option linter.unusedVariables false
namespace Go.Proofs.YtmicoampfglaiaaGreatDoor
open Go.Proofs Go.IntWalk Go.RowKit
variable {σ : Out} {w : World} {L L' : List Chunk} {R : Ending → World → Prop}
def asc (s : String) : List UInt8 := s.toUTF8.toList
theorem textPrint_ok {b t s e : Nat} {q : Option Addr} {n c : Nat} {raw : List UInt8} {vs : List Value} {RM KM KM' M : List Chunk} {l : List UInt8} {f : List UInt8 → List UInt8} (hS : Sl 1 ty_Inline q n c vs RM) (hn : n < 4611686018427387904)
    (hP : PrintsL "PrintHTML" vs KM KM' f) (hB : Buf b l M) (h : Sat σ w (M ++ (textC t s e q n c raw :: (RM ++ (KM ++ L))))) (hb : (f l).length ≤ 549755813888)
    (hR : ∀ w M', Buf b (f l) M' → Sat σ w (M' ++ (textC t s e q n c raw :: (RM ++ (KM' ++ L)))) → R (.returned (.tuple #[])) w) :
    callE P i_Text_PrintHTML #[.pointer (some ⟨t, 0, none⟩), .pointer (some ⟨b, 0, none⟩)] R w := by
  refine g_Text_PrintHTML.sound ?_
  refine nilP_some ?_
  refine ⟨_, _, _, Sat.ld h (List.mem_append_right _ (.head _)) rfl, ?_⟩
  intro X hX
  have h : Sat σ w (M ++ (RM ++ (KM ++ (textC t s e q n c raw :: L)))) := h.re (by intro _; simp only [List.append_eq, cnt_append, cnt_cons, cnt_nil] <;> omega)
  refine printLoop (X := fun j w => X (some ⟨b, 0, none⟩) q n c (n : Int) j w) (END := fun w => R (.returned (.tuple #[])) w) hS (fun j w hj => hX _ _ _ _ _ _ _ hj) hP hB h hn hb fun w M' hB h => ?_
  exact hR w M' hB (h.re (by intro _; simp only [List.append_eq, cnt_append, cnt_cons, cnt_nil] <;> omega))
theorem meth_Paragraph : methB P ty_P_Paragraph "PrintHTML" i_Paragraph_PrintHTML = true := by kernel_rfl
theorem meth_Document : methB P ty_P_Document "PrintHTML" i_Document_PrintHTML = true := by kernel_rfl
def pOpen : List UInt8 := [60, 112, 62]
def pClose : List UInt8 := [60, 47, 112, 62, 10]
theorem para_prints {nb t s e : Nat} {s' e' : Nat} {q : Option Addr} {n c : Nat} {raw : List UInt8} {vs : List Value} {RM KM KM' : List Chunk} {f : List UInt8 → List UInt8} (hS : Sl 1 ty_Inline q n c vs RM) (hn : n < 4611686018427387904)
    (hP : PrintsL "PrintHTML" vs KM KM' f) :
    Prints "PrintHTML" (.iface ty_P_Paragraph (.pointer (some ⟨nb, 0, none⟩))) (paraC nb s e t :: textC t s' e' q n c raw :: (RM ++ KM)) (paraC nb s e t :: textC t s' e' q n c raw :: (RM ++ KM')) (fun l => f (l ++ pOpen) ++ pClose) := by
  refine ⟨fun l => ?_, fun σ R b l M L w hB h hb hR => enter_meth meth_Paragraph ?_⟩
  · have := hP.mono (l ++ pOpen)
    simp only [List.length_append] at *; omega
  refine g_Paragraph_PrintHTML.sound ?_
  have hm := hP.mono (l ++ pOpen)
  simp only [List.length_append] at hb hm
  refine writeS_ok (s := pOpen) hB h (by omega) fun w M hB h => ⟨_, _, rfl, ?_⟩
  refine nilP_some ?_
  refine ⟨_, Sat.ld h (List.mem_append_right _ (.head _)) rfl, ?_⟩
  have h : Sat σ w (M ++ (textC t s' e' q n c raw :: (RM ++ (KM ++ (paraC nb s e t :: L))))) := h.re (by intro _; simp only [List.append_eq, cnt_append, cnt_cons, cnt_nil] <;> omega)
  refine textPrint_ok hS hn hP hB h (by omega) fun w M hB h => ⟨rfl, ?_⟩
  refine writeS_ok (s := pClose) hB h (by omega) fun w M hB h => ⟨_, _, rfl, ?_⟩
  exact hR w M hB (h.re (by intro _; simp only [List.append_eq, cnt_append, cnt_cons, cnt_nil] <;> omega))
theorem doc_prints {db s e : Nat} {q : Option Addr} {n c : Nat} {lk : Option Nat} {vs : List Value} {RM KM KM' : List Chunk} {f : List UInt8 → List UInt8} (hS : Sl 1 ty_Block q n c vs RM) (hn : n < 4611686018427387904)
    (hP : PrintsL "PrintHTML" vs KM KM' f) :
    Prints "PrintHTML" (.iface ty_P_Document (.pointer (some ⟨db, 0, none⟩))) (docC db s e q n c lk :: (RM ++ KM)) (docC db s e q n c lk :: (RM ++ KM')) f := by
  refine ⟨hP.mono, fun σ R b l M L w hB h hb hR => enter_meth meth_Document ?_⟩
  refine g_Document_PrintHTML.sound ?_
  refine nilP_some ?_
  refine ⟨_, _, _, Sat.ld h (List.mem_append_right _ (.head _)) rfl, ?_⟩
  intro X hX
  have h : Sat σ w (M ++ (RM ++ (KM ++ (docC db s e q n c lk :: L)))) := h.re (by intro _; simp only [List.append_eq, cnt_append, cnt_cons, cnt_nil] <;> omega)
  refine printLoop (X := fun j w => X (some ⟨b, 0, none⟩) q n c (n : Int) j w) (END := fun w => R (.returned (.tuple #[])) w) hS (fun j w hj => hX _ _ _ _ _ _ _ hj) hP hB h hn hb fun w M' hB h => ?_
  exact hR w M' hB (h.re (by intro _; simp only [List.append_eq, cnt_append, cnt_cons, cnt_nil] <;> omega))
theorem toHTML_ok {v : Value} {T T' : List Chunk} {f : List UInt8 → List UInt8} (hP : Prints "PrintHTML" v T T' f) (h : Sat σ w (T ++ L)) (hb : (f []).length ≤ 549755813888)
    (hR : ∀ w, Sat σ w (T' ++ L) → R (.returned (.string (bs (f [])))) w) : callE P i_ToHTML #[v] R w := by
  refine g_ToHTML.sound ?_
  refine Sat.bx h fun b w h => ?_
  refine hP.2 σ _ b [] _ L w (bufNew b) h hb fun w M hB h => ⟨rfl, ?_⟩
  exact bufStr_ok hB h fun w h => ⟨_, rfl, hR w (h.less M (by intro _; simp only [List.append_eq, cnt_append, cnt_cons, cnt_nil] <;> omega))⟩
end Go.Proofs.YtmicoampfglaiaaGreatDoor

/- append into a row that has room, and the inlines as they lie in memory. -/
set_option linter.unusedVariables false
namespace Go.Proofs.YtmicoampfglaiaaGreatDoor
open Go.Proofs Go.IntWalk Go.RowKit
variable {σ : Out} {w : World} {L L' : List Chunk} {R : Ending → World → Prop}
/-- append of one element into the row cs, behind its first k cells. -/
theorem appRoom {t ty e : TypeId} {bytes : Nat} (r : Row P t e 1 bytes) {b k c : Nat} {cs : List Value} (h : Sat σ w ((b, cel cs e) :: L)) (hk : k < cs.length) (hc : k < c) {v : Value} (hv : v.cells = #[v]) (h1 : v.oneCell' = true)
    (hfill : Instr.fill (fun i => some (i * 1, 1)) ((Array.range (1 * 1)).map (r.z.cells[· % r.z.cells.size]!)) [(0, v)] = some v.cells)
    {K : Option Addr → Nat → Nat → World → Prop} {C : World → Prop} (hC : ∀ w1 X, Sat σ w1 (X :: ((b, cel cs e) :: L)) → C w1) (hK : ∀ w', Sat σ w' ((b, cel (cs.set k v) e) :: L) → K (some ⟨b, 0, none⟩) (k + 1) c w') :
    ∃ rq rn rc w1, (Instr.buildSlice t 1 #[(0, v)]).run P w = .ok (.slice rq rn rc) w1 ∧ C w1 ∧
      ∃ q' n' c' w2, (Builtin.append_ #[t, t] ty #[.slice (some ⟨b, 0, none⟩) k c, .slice rq rn rc]).run P w1 = .ok (.slice q' n' c') w2 ∧ K q' n' c' w2 := by
  have hrun := run_buildSlice (P := P) w t e 1 #[(0, v)] v.cells r.i r.z r.ht r.hi r.hz (by rw [r.hs]; omega) (by rw [r.hs]; omega) (by rw [r.hs]; exact hfill)
  refine ⟨_, _, _, _, hrun, ?_⟩
  have ha := h.alc v.cells.toList e
  have e3 : YtmicoampfglaiaaGreatDoor.alc w v.cells.toList.toArray e = w.alloc (.cells v.cells e) := by rw [Array.toArray_toList]; rfl
  rw [e3] at ha
  generalize hw1 : w.alloc (.cells v.cells e) = w1 at ha ⊢
  generalize w.heap.size = nb at ha ⊢
  rw [hv] at ha
  have hs : Src P 1 t (.slice (some ⟨nb, 0, none⟩) 1 1) 1 [v] w1 := by
    refine Src.ofSlice w1 r.ht _ 1 1 _ (by simp) (fun j u hu => ?_) (by simp [h1])
    rw [show (Addr.add ⟨nb, 0, none⟩ j) = ⟨nb, j, none⟩ from Addr.add_zero_lit nb j]
    exact ha.ld (List.mem_cons_self ..) hu
  have hs' : Src P r.i.size t (.slice (some ⟨nb, 0, none⟩) 1 1) 1 [v] w1 := by rw [r.hs]; exact hs
  refine ⟨hC _ _ ha, _, _, _, _, run_append_room_src w1 t t ty e r.i r.ht r.hi b 0 k c _ 1 [v] hs' (by omega) ?_ ?_, hK _ ?_⟩
  · intro j hj
    simp at hj
    subst hj
    rw [r.hs, Nat.zero_add, Nat.mul_one, Nat.add_zero, ha.ld (.tail _ (.head _)) (List.getElem?_eq_getElem hk)]
    rfl
  · exact fun j hj => ha.not_frozen (.tail _ (.head _))
  · rw [r.hs]
    have hb : Sat σ w1 ((b, cel cs e) :: (nb, cel [v] e) :: L) := ha.up1
    have := setCells_sat hb (0 + k * 1) [v] (by simp; omega)
    rw [Nat.zero_add, Nat.mul_one] at this ⊢
    have e1 : cs.take k ++ [v] ++ cs.drop (k + 1) = cs.set k v := by
      rw [List.set_eq_take_append_cons_drop, if_pos hk]; simp
    rw [show [v].length = 1 from rfl, e1] at this
    exact this.less [(nb, cel [v] e)] (by intro _; simp only [List.append_eq, cnt_append, cnt_cons, cnt_nil] <;> omega)
theorem appRoom' {t ty e : TypeId} {bytes : Nat} (r : Row P t e 1 bytes) {b k c : Nat} {cs : List Value} (h : Sat σ w ((b, cel cs e) :: L)) (hk : k < cs.length) (hc : k < c) {v : Value} (hv : v.cells = #[v]) (h1 : v.oneCell' = true)
    (hfill : Instr.fill (fun i => some (i * 1, 1)) ((Array.range (1 * 1)).map (r.z.cells[· % r.z.cells.size]!)) [(0, v)] = some v.cells)
    {K : Option Addr → Nat → Nat → World → Prop} (hK : ∀ w', Sat σ w' ((b, cel (cs.set k v) e) :: L) → K (some ⟨b, 0, none⟩) (k + 1) c w') :
    ∃ rq rn rc w1, (Instr.buildSlice t 1 #[(0, v)]).run P w = .ok (.slice rq rn rc) w1 ∧
      ∃ q' n' c' w2, (Builtin.append_ #[t, t] ty #[.slice (some ⟨b, 0, none⟩) k c, .slice rq rn rc]).run P w1 = .ok (.slice q' n' c') w2 ∧ K q' n' c' w2 := by
  obtain ⟨rq, rn, rc, w1, h1, _, h2⟩ := appRoom (ty := ty) r h hk hc hv h1 hfill (C := fun _ => True) (fun _ _ _ => trivial) hK
  exact ⟨rq, rn, rc, w1, h1, h2⟩

/-! ### Inlines -/
inductive Inl where
  | plain (s : List UInt8)
  | openP (s : List UInt8) (i : Nat)
  | emphP (s : List UInt8) (co cc : Bool) (i n : Int)
  | esc (s : List UInt8)
  | code (s : List UInt8)
  | strong (m : List UInt8) (ks : List Inl)
  | del (m : List UInt8) (ks : List Inl)
  | emph (m : List UInt8) (ks : List Inl)
  | link (ks : List Inl) (url title : List UInt8) (tc : UInt8) (corner : Bool)
  | image (ks : List Inl) (url title : List UInt8) (tc : UInt8) (corner : Bool)
  | auto (text url : List UInt8)
  | tag (s : List UInt8)
  | hard
  | soft
  | task (b : Bool)
def ptrV (t : TypeId) (b : Nat) : Value := .iface t (.pointer (some ⟨b, 0, none⟩))
mutual
def InlAt : Inl → Value → List Chunk → Prop
  | .plain s, v, M => ∃ b cs e, v = ptrV ty_P_Plain b ∧ M = [(b, cel (.string (bs s) :: cs) e)]
  | .openP s i, v, M => ∃ b e, v = ptrV ty_P_openPlain b ∧ M = [(b, cel [.string (bs s), .int .i64 i] e)]
  | .emphP s co cc i n, v, M => ∃ b e, v = ptrV ty_P_emphPlain b ∧ M = [(b, cel [.string (bs s), .bool co, .bool cc, .int .i64 i, .int .i64 n] e)]
  | .esc s, v, M => ∃ b e, v = ptrV ty_P_Escaped b ∧ M = [(b, cel [.string (bs s)] e)]
  | .code s, v, M => ∃ b e, v = ptrV ty_P_Code b ∧ M = [(b, cel [.string (bs s)] e)]
  | .strong m ks, v, M => ∃ b e q n c vs RM KM, v = ptrV ty_P_Strong b ∧ M = (b, cel [.string (bs m), .slice q n c] e) :: (RM ++ KM) ∧ Sl 1 ty_Inline q n c vs RM ∧ InlsAt ks vs KM
  | .del m ks, v, M => ∃ b e q n c vs RM KM, v = ptrV ty_P_Del b ∧ M = (b, cel [.string (bs m), .slice q n c] e) :: (RM ++ KM) ∧ Sl 1 ty_Inline q n c vs RM ∧ InlsAt ks vs KM
  | .emph m ks, v, M => ∃ b e q n c vs RM KM, v = ptrV ty_P_Emph b ∧ M = (b, cel [.string (bs m), .slice q n c] e) :: (RM ++ KM) ∧ Sl 1 ty_Inline q n c vs RM ∧ InlsAt ks vs KM
  | .link ks u t tc k, v, M => ∃ b e q n c vs RM KM, v = ptrV ty_P_Link b ∧ M = (b, cel [.slice q n c, .string (bs u), .string (bs t), .int .u8 tc.toNat, .bool k] e) :: (RM ++ KM) ∧ Sl 1 ty_Inline q n c vs RM ∧ InlsAt ks vs KM
  | .image ks u t tc k, v, M => ∃ b e q n c vs RM KM, v = ptrV ty_P_Image b ∧ M = (b, cel [.slice q n c, .string (bs u), .string (bs t), .int .u8 tc.toNat, .bool k] e) :: (RM ++ KM) ∧ Sl 1 ty_Inline q n c vs RM ∧ InlsAt ks vs KM
  | .auto t u, v, M => ∃ b e, v = ptrV ty_P_AutoLink b ∧ M = [(b, cel [.string (bs t), .string (bs u)] e)]
  | .tag s, v, M => ∃ b e, v = ptrV ty_P_HTMLTag b ∧ M = [(b, cel [.string (bs s)] e)]
  | .hard, v, M => ∃ b e, v = ptrV ty_P_HardBreak b ∧ M = [(b, cel [] e)]
  | .soft, v, M => ∃ b e, v = ptrV ty_P_SoftBreak b ∧ M = [(b, cel [] e)]
  | .task k, v, M => ∃ b e, v = ptrV ty_P_Task b ∧ M = [(b, cel [.bool k] e)]
def InlsAt : List Inl → List Value → List Chunk → Prop
  | [], vs, M => vs = [] ∧ M = []
  | t :: ts, vs, M => ∃ v vs' M1 M2, vs = v :: vs' ∧ M = M1 ++ M2 ∧ InlAt t v M1 ∧ InlsAt ts vs' M2
end
theorem InlsAt.append : ∀ {a b : List Inl} {vs us : List Value} {M N : List Chunk}, InlsAt a vs M → InlsAt b us N → InlsAt (a ++ b) (vs ++ us) (M ++ N)
  | [], b, vs, us, M, N, h1, h2 => by obtain ⟨rfl, rfl⟩ := h1; exact h2
  | t :: a, b, vs, us, M, N, h1, h2 => by
    obtain ⟨v, vs', M1, M2, rfl, rfl, h3, h4⟩ := h1
    exact ⟨v, vs' ++ us, M1, M2 ++ N, rfl, by simp, h3, h4.append h2⟩
theorem InlsAt.split : ∀ {a b : List Inl} {vs : List Value} {M : List Chunk}, InlsAt (a ++ b) vs M → ∃ vs1 vs2 M1 M2, vs = vs1 ++ vs2 ∧ M = M1 ++ M2 ∧ InlsAt a vs1 M1 ∧ InlsAt b vs2 M2
  | [], b, vs, M, h => ⟨[], vs, [], M, rfl, rfl, ⟨rfl, rfl⟩, h⟩
  | t :: a, b, vs, M, h => by
    obtain ⟨v, vs', M1, M2, rfl, rfl, h3, h4⟩ := h
    obtain ⟨vs1, vs2, N1, N2, rfl, rfl, h5, h6⟩ := h4.split
    exact ⟨v :: vs1, vs2, M1 ++ N1, N2, rfl, by simp, ⟨v, vs1, M1, N1, rfl, rfl, h3, h5⟩, h6⟩
theorem InlsAt.one {t : Inl} {v : Value} {M : List Chunk} (h : InlAt t v M) : InlsAt [t] [v] M := ⟨v, [], M, [], rfl, by simp, h, rfl, rfl⟩
theorem InlsAt.length : ∀ {a : List Inl} {vs : List Value} {M : List Chunk}, InlsAt a vs M → vs.length = a.length
  | [], vs, M, h => by rw [h.1]; rfl
  | t :: a, vs, M, h => by
    obtain ⟨v, vs', M1, M2, rfl, rfl, h3, h4⟩ := h
    simp [h4.length]
/-- The type of an inline's value. -/
def Inl.ty : Inl → TypeId
  | .plain _ => ty_P_Plain | .openP _ _ => ty_P_openPlain | .emphP _ _ _ _ _ => ty_P_emphPlain | .esc _ => ty_P_Escaped | .code _ => ty_P_Code | .strong _ _ => ty_P_Strong | .del _ _ => ty_P_Del | .emph _ _ => ty_P_Emph
  | .link _ _ _ _ _ => ty_P_Link | .image _ _ _ _ _ => ty_P_Image | .auto _ _ => ty_P_AutoLink | .tag _ => ty_P_HTMLTag | .hard => ty_P_HardBreak | .soft => ty_P_SoftBreak | .task _ => ty_P_Task
theorem InlAt.ptr {t : Inl} {v : Value} {M : List Chunk} (h : InlAt t v M) : ∃ b cs e M', v = ptrV t.ty b ∧ M = (b, cel cs e) :: M' := by
  cases t <;> first
    | (obtain ⟨b, cs, e, rfl, rfl⟩ := h; exact ⟨b, _, _, [], rfl, rfl⟩)
    | (obtain ⟨b, e, rfl, rfl⟩ := h; exact ⟨b, _, _, [], rfl, rfl⟩)
    | (obtain ⟨b, e, q, n, c, vs, RM, KM, rfl, rfl, _⟩ := h; exact ⟨b, _, _, _, rfl, rfl⟩)
end Go.Proofs.YtmicoampfglaiaaGreatDoor

/- emph over a list without delimiters; plain texts are merged. -/
set_option linter.unusedVariables false
namespace Go.Proofs.YtmicoampfglaiaaGreatDoor
open Go.Proofs Go.IntWalk Go.RowKit
variable {σ : Out} {w : World} {L L' : List Chunk} {R : Ending → World → Prop}
theorem und_open : P.underlying ty_P_openPlain = some (.pointer ty_openPlain) := by kernel_rfl
theorem und_emph : P.underlying ty_P_emphPlain = some (.pointer ty_emphPlain) := by kernel_rfl
theorem und_plain : P.underlying ty_P_Plain = some (.pointer ty_Plain) := by kernel_rfl
theorem ta_open_no {t : TypeId} {v : Value} (ht : t ≠ ty_P_openPlain) (w : World) : (Instr.typeAssert (.iface t v) ty_Inline ty_P_openPlain true).run P w = .ok (.tuple #[.pointer none, .bool false]) w :=
  ta_no (by rw [und_open]; intro ms h; cases h) und_open ht (i := (P.info? ty_P_openPlain).getD default) (by kernel_rfl) (by kernel_rfl) w
theorem ta_emph_no {t : TypeId} {v : Value} (ht : t ≠ ty_P_emphPlain) (w : World) : (Instr.typeAssert (.iface t v) ty_Inline ty_P_emphPlain true).run P w = .ok (.tuple #[.pointer none, .bool false]) w :=
  ta_no (by rw [und_emph]; intro ms h; cases h) und_emph ht (i := (P.info? ty_P_emphPlain).getD default) (by kernel_rfl) (by kernel_rfl) w
theorem ta_plain_no {t : TypeId} {v : Value} (ht : t ≠ ty_P_Plain) (w : World) : (Instr.typeAssert (.iface t v) ty_Inline ty_P_Plain true).run P w = .ok (.tuple #[.pointer none, .bool false]) w :=
  ta_no (by rw [und_plain]; intro ms h; cases h) und_plain ht (i := (P.info? ty_P_Plain).getD default) (by kernel_rfl) (by kernel_rfl) w
theorem ta_open_yes {v : Value} (w : World) : (Instr.typeAssert (.iface ty_P_openPlain v) ty_Inline ty_P_openPlain true).run P w = .ok (.tuple #[v, .bool true]) w :=
  ta_yes (by rw [und_open]; intro ms h; cases h) und_open w
theorem ta_emph_yes {v : Value} (w : World) : (Instr.typeAssert (.iface ty_P_emphPlain v) ty_Inline ty_P_emphPlain true).run P w = .ok (.tuple #[v, .bool true]) w :=
  ta_yes (by rw [und_emph]; intro ms h; cases h) und_emph w
theorem ta_plain_yes {v : Value} (w : World) : (Instr.typeAssert (.iface ty_P_Plain v) ty_Inline ty_P_Plain true).run P w = .ok (.tuple #[v, .bool true]) w :=
  ta_yes (by rw [und_plain]; intro ms h; cases h) und_plain w
theorem fillI (t : TypeId) (q : Option Addr) : Instr.fill (fun i => some (i * 1, 1)) ((Array.range (1 * 1)).map (rowInl.z.cells[· % rowInl.z.cells.size]!)) [(0, .iface t (.pointer q))] = some #[.iface t (.pointer q)] := by kernel_rfl

theorem Sl.loadAt {q : Option Addr} {n c j : Nat} {e : TypeId} {vs : List Value} {RM : List Chunk} {v : Value} {K : Addr → Prop} (hS : Sl 1 e q n c vs RM) (h : Sat σ w (RM ++ L)) (hj : vs[j]? = some v)
    (hK : ∀ b, q = some ⟨b, 0, none⟩ → w.cell? ⟨b, j, none⟩ = some v → K ⟨b, 0, none⟩) : nilP q K := by
  obtain ⟨hl, _, ⟨rfl, rfl, _, _⟩ | ⟨rb, sp, rfl, rfl, _⟩⟩ := hS
  · have := (List.getElem?_eq_some_iff.1 hj).1; omega
  · refine nilP_some (hK rb rfl (h.ld (.head _) ?_))
    rw [List.getElem?_append_left (List.getElem?_eq_some_iff.1 hj).1]; exact hj

theorem emph_none_ok {pq q : Option Addr} {n c : Nat} {vs : List Value} {ts : List Inl} {RM EM : List Chunk} (hS : Sl 1 ty_Inline q n c vs RM) (hI : InlsAt ts vs EM) (hno : ∀ t ∈ ts, t.ty ≠ ty_P_openPlain ∧ t.ty ≠ ty_P_emphPlain) (hn : n < 4611686018427387904)
    (h : Sat σ w (RM ++ (EM ++ L))) (hR : ∀ w, Sat σ w (RM ++ (EM ++ L)) → R (.returned (.slice q n c)) w) : callE P i_parseState_emph #[.pointer pq, .slice q 0 c, .slice q n c] R w := by
  refine g_parseState_emph.sound ?_
  refine Sat.bx h fun b1 w h => ?_
  refine Sat.bx h fun b3 w h => ?_
  intro X hX
  have hl := hS.1
  have hlen := hI.length
  have hcell : ∀ (j : Nat) (hj : j < n), ∃ t b, t ≠ ty_P_openPlain ∧ t ≠ ty_P_emphPlain ∧ vs[j]? = some (ptrV t b) := by
    intro j hj
    have hj2 : j < ts.length := by omega
    have hsp : ts = ts.take j ++ (ts[j] :: ts.drop (j + 1)) := by rw [← List.drop_eq_getElem_cons hj2, List.take_append_drop]
    rw [hsp] at hI
    obtain ⟨vs1, vs2, M1, M2, rfl, rfl, h1, h2⟩ := hI.split
    obtain ⟨v, vs', N1, N2, rfl, rfl, h3, h4⟩ := h2
    obtain ⟨b, cs, e, M', rfl, rfl⟩ := h3.ptr
    have := h1.length
    rw [List.length_take, Nat.min_eq_left (by omega)] at this
    exact ⟨_, b, (hno _ (List.getElem_mem hj2)).1, (hno _ (List.getElem_mem hj2)).2, by rw [List.getElem?_append_right (by omega), this]; simp⟩
  have key : ∀ k j w, j + k = n → Sat σ w ((b3, cel [.slice none 0 0, .slice none 0 0, .slice none 0 0, .slice none 0 0, .slice none 0 0] ty_5_S_P_emphPlain) :: (b1, cel [.slice q j c] ty_S_Inline) :: (RM ++ (EM ++ L))) →
      X q n c b1 b3 (.func (.func i_parseState_emph_1) #[] #[]) (.func (.func i_parseState_emph_2) #[] #[.pointer (some ⟨b3, 0, none⟩), .pointer (some ⟨b1, 0, none⟩)]) (j : Int) w := by
    intro k
    induction k with
    | zero =>
      intro j w hj h
      refine hX _ _ _ _ _ _ _ _ _ (br_false (by simp; omega) ?_)
      refine ⟨_, _, _, Sat.ld h (by first | assumption | (repeat (first | exact .head _ | apply List.Mem.tail))) (by exact rfl), ?_⟩
      rw [show j = n by omega]
      exact hR w h.tail.tail
    | succ k ih =>
      intro j w hj h
      obtain ⟨t, pb, h1, h2, h3⟩ := hcell j (by omega)
      refine hX _ _ _ _ _ _ _ _ _ (br_true (by simp; omega) ⟨by omega, by omega, ?_⟩)
      have hS0 := hS
      obtain ⟨_, hnc, ⟨rfl, rfl, _, _⟩ | ⟨rb, sp, rfl, rfl, hsp⟩⟩ := hS
      · omega
      refine nilP_some ?_
      simp only [Addr.add_lit, Int.toNat_natCast, Nat.mul_one, Nat.zero_add]
      have hg : (vs ++ sp)[j]? = some (ptrV t pb) := by rw [List.getElem?_append_left (by omega)]; exact h3
      refine ⟨_, Sat.ld h (.tail _ (.tail _ (.head _))) hg, _, _, _, ta_open_no h1 w, br_false rfl ?_⟩
      refine ⟨by omega, by omega, nilP_some ?_⟩
      simp only [Addr.add_lit, Int.toNat_natCast, Nat.mul_one, Nat.zero_add]
      refine ⟨_, Sat.ld h (.tail _ (.tail _ (.head _))) hg, _, _, _, ta_emph_no h2 w, br_true rfl ?_⟩
      refine Sat.tk h fun w h => ?_
      refine ⟨by omega, by omega, nilP_some ?_⟩
      refine ⟨_, _, _, Sat.ld h (by first | assumption | (repeat (first | exact .head _ | apply List.Mem.tail))) (by exact rfl), ?_⟩
      simp only [Addr.add_lit, Int.toNat_natCast, Nat.mul_one, Nat.zero_add]
      refine ⟨_, Sat.ld h (.tail _ (.tail _ (.head _))) hg, ?_⟩
      have h0 := h
      have h : Sat σ w ((rb, cel (vs ++ sp) ty_Inline) :: (b1, cel [.slice (some ⟨rb, 0, none⟩) j c] ty_S_Inline) :: (b3, cel [.slice none 0 0, .slice none 0 0, .slice none 0 0, .slice none 0 0, .slice none 0 0] ty_5_S_P_emphPlain) :: (EM ++ L)) := h.re (by intro _; simp only [List.append_eq, cnt_append, cnt_cons, cnt_nil] <;> omega)
      refine appRoom rowInl h (v := ptrV t pb) (by rw [List.length_append]; omega) (by omega) rfl rfl (fillI t _) (C := fun w1 => SameC _ w1 _ 1) (fun w1 X h' => h0.same h' (.tail _ (.head _)) (.tail _ (.tail _ (.head _))) 1) fun w h => ?_
      rw [show (vs ++ sp).set j (ptrV t pb) = vs ++ sp from by
        apply List.ext_getElem?; intro i; rw [List.getElem?_set]; split
        · rename_i hi; subst hi; rw [if_pos (by rw [List.length_append]; omega), hg]
        · rfl] at h
      refine Sat.st h (k := 1) rfl (Nat.le_of_ble_eq_true rfl) trivial (by first | (dsimp only [List.set]; exact rfl) | exact rfl) fun w h => ?_
      rw [i64_inc (by omega)]
      refine ih (j + 1) w (by omega) ?_
      have h : Sat σ w ((rb, cel (vs ++ sp) ty_Inline) :: (b1, cel [.slice (some ⟨rb, 0, none⟩) (j + 1) c] ty_S_Inline) :: (b3, cel [.slice none 0 0, .slice none 0 0, .slice none 0 0, .slice none 0 0, .slice none 0 0] ty_5_S_P_emphPlain) :: (EM ++ L)) := h
      exact h.re (by intro _; simp only [List.append_eq, cnt_append, cnt_cons, cnt_nil] <;> omega)
  exact key n 0 w (by omega) h
end Go.Proofs.YtmicoampfglaiaaGreatDoor

set_option linter.unusedVariables false
set_option maxRecDepth 20000
namespace Go.Proofs.YtmicoampfglaiaaGreatDoor
open Go.Proofs
/- 30 (*strings.Builder).Grow -/
namespace g_strings_Builder_Grow
noncomputable def body : Code := bodyOf Tryz.f30
def k1 (R : EP) (x0 : OA) (x1 : Int) (w : World) : Prop :=
 tk w fun w3 =>
 nilP x0 fun a4 =>
 nilP x0 fun a5 =>
 ∃ (v6q : OA), ∃ (v6n : Nat), ∃ (v6c : Nat), w3.cell? (a4.add 1) = some (.slice v6q v6n v6c) ∧
 ∃ (v7q : OA), ∃ (v7n : Nat), ∃ (v7c : Nat), w3.cell? (a5.add 1) = some (.slice v7q v7n v7c) ∧
 ∃ (r8 : Int), ∃ w9, (Builtin.cap_ #[ty_S_uint8] ty_int #[.slice v6q v6n v6c]).run P w3 = .ok (.int .i64 r8) w9 ∧
 SameC w3 w9 (a5.add 1) 1 ∧
 br (decide ((IntKind.i64.wrap (r8 - (v7n : Int))) < x1))
 (callE P i_strings_Builder_grow #[.pointer x0, .int .i64 x1] (fun e w11 => e = .returned (.tuple #[]) ∧
 R (.returned (.tuple #[])) w11) w9)
 (R (.returned (.tuple #[])) w9)

end g_strings_Builder_Grow
def g_strings_Builder_Grow (R : EP) (x0 : OA) (x1 : Int) (w : World) : Prop :=
 callE P i_strings_Builder_copyCheck #[.pointer x0] (fun e w2 => e = .returned (.tuple #[]) ∧
 br (decide (x1 < 0))
 (False)
 (g_strings_Builder_Grow.k1 R x0 x1 w2)) w

noncomputable def g_strings_Builder_Grow.ac (R : EP) : AC :=
  (.seq (.leaf (sel [0] g_strings_Builder_Grow.body)) (.seq (.leaf (sel [1, 0] g_strings_Builder_Grow.body)) (.mark (leaf [(0, .s .ptr), (1, .s (.int .i64))] (g_strings_Builder_Grow.k1 R)) (.seq (.draw (.pure 0 (.pure 1 (.pure 2 (.pure 5 (.pure 6 (.pure 7 (.pure 11 (.load 3 (.load 8 (.pure 9 (.one 4 (.pure 10 (.pure 12 .done))))))))))))) (sel [1, 1, 0] g_strings_Builder_Grow.body)) (.leaf (sel [1, 1, 1] g_strings_Builder_Grow.body))))))
theorem g_strings_Builder_Grow.good (R : EP) : Good P 25 (g_strings_Builder_Grow.ac R) (QF P [] R) :=
  ⟨trivial, ⟨trivial, ⟨⟨⟨by kernel_rfl, by kernel_rfl, fun _ _ _ h => h⟩, trivial⟩, cutE (by intro x0 x1 ρ w; kernel_rfl)⟩⟩⟩
theorem g_strings_Builder_Grow.eq (R : EP) (x0 : OA) (x1 : Int) (w : World) : g_strings_Builder_Grow R x0 x1 w = vcA P 25 (g_strings_Builder_Grow.ac R) (QF P [] R) (fr0 [.pointer x0, .int .i64 x1]) w := by kernel_rfl
theorem g_strings_Builder_Grow.sound {R : EP} {x0 : OA} {x1 : Int} {w : World} (h : g_strings_Builder_Grow R x0 x1 w) : callE P i_strings_Builder_Grow #[.pointer x0, .int .i64 x1] R w :=
  callE_fin (c := g_strings_Builder_Grow.body) Tryz.func30 Tryz.call30 (by kernel_rfl) (by kernel_rfl) (by kernel_rfl) (by kernel_rfl) (by kernel_rfl) (g_strings_Builder_Grow.good R) (g_strings_Builder_Grow.eq R x0 x1 w) h
/- 43 (*strings.Builder).grow -/
namespace g_strings_Builder_grow
noncomputable def body : Code := bodyOf Tryz.f43
end g_strings_Builder_grow
def g_strings_Builder_grow (R : EP) (x0 : OA) (x1 : Int) (w : World) : Prop :=
 tk w fun w1 =>
 nilP x0 fun a2 =>
 nilP x0 fun a3 =>
 ∃ (v4q : OA), ∃ (v4n : Nat), ∃ (v4c : Nat), w1.cell? (a2.add 1) = some (.slice v4q v4n v4c) ∧
 ∃ (v5q : OA), ∃ (v5n : Nat), ∃ (v5c : Nat), w1.cell? (a3.add 1) = some (.slice v5q v5n v5c) ∧
 ∃ (r6 : Int), ∃ w7, (Builtin.cap_ #[ty_S_uint8] ty_int #[.slice v4q v4n v4c]).run P w1 = .ok (.int .i64 r6) w7 ∧
 SameC w1 w7 (a3.add 1) 1 ∧
 callE P i_internal_bytealg_MakeNoZero #[.int .i64 (IntKind.i64.wrap ((IntKind.i64.wrap (2 * r6)) + x1))] (fun e w9 => ∃ (r8q : OA), ∃ (r8n : Nat), ∃ (r8c : Nat), e = .returned (.slice r8q r8n r8c) ∧
 SameC w7 w9 (a3.add 1) 1 ∧
 ∃ (r10q : OA), ∃ (r10n : Nat), ∃ (r10c : Nat), (∀ w, (Instr.sliceAt ty_S_uint8 (.slice r8q r8n r8c) none (some (.int .i64 (v5n : Int))) none).run P w = .ok (.slice r10q r10n r10c) w) ∧
 nilP x0 fun a11 =>
 ∃ (v12q : OA), ∃ (v12n : Nat), ∃ (v12c : Nat), w9.cell? (a11.add 1) = some (.slice v12q v12n v12c) ∧
 ∃ (r13 : Int), ∃ w14, (Builtin.copy_ #[ty_S_uint8, ty_S_uint8] ty_int #[.slice r10q r10n r10c, .slice v12q v12n v12c]).run P w9 = .ok (.int .i64 r13) w14 ∧
 nilP x0 fun a15 =>
 stV w14 ((a15.add 1).add 0) (.slice r10q r10n r10c) fun w16 =>
 R (.returned (.tuple #[])) w16) w7

noncomputable def g_strings_Builder_grow.ac (R : EP) : AC :=
  (.seq (.draw (.pure 0 (.pure 1 (.pure 2 (.pure 6 (.pure 9 (.pure 10 (.pure 11 (.load 3 (.load 12 (.pure 13 (.one 4 (.pure 5 (.pure 7 (.one 8 (.pure 14 (.pure 15 .done)))))))))))))))) (sel [0] g_strings_Builder_grow.body)) (.leaf (sel [1] g_strings_Builder_grow.body)))
theorem g_strings_Builder_grow.good (R : EP) : Good P 30 (g_strings_Builder_grow.ac R) (QF P [] R) :=
  ⟨⟨by kernel_rfl, by kernel_rfl, fun _ _ _ h => h⟩, trivial⟩
theorem g_strings_Builder_grow.eq (R : EP) (x0 : OA) (x1 : Int) (w : World) : g_strings_Builder_grow R x0 x1 w = vcA P 30 (g_strings_Builder_grow.ac R) (QF P [] R) (fr0 [.pointer x0, .int .i64 x1]) w := by kernel_rfl
theorem g_strings_Builder_grow.sound {R : EP} {x0 : OA} {x1 : Int} {w : World} (h : g_strings_Builder_grow R x0 x1 w) : callE P i_strings_Builder_grow #[.pointer x0, .int .i64 x1] R w :=
  callE_fin (c := g_strings_Builder_grow.body) Tryz.func43 Tryz.call43 (by kernel_rfl) (by kernel_rfl) (by kernel_rfl) (by kernel_rfl) (by kernel_rfl) (g_strings_Builder_grow.good R) (g_strings_Builder_grow.eq R x0 x1 w) h
end Go.Proofs.YtmicoampfglaiaaGreatDoor

/- strings.Join. -/
set_option linter.unusedVariables false
namespace Go.Proofs.YtmicoampfglaiaaGreatDoor
open Go.Proofs Go.IntWalk Go.RowKit
variable {σ : Out} {w : World} {L L' : List Chunk} {R : Ending → World → Prop}
theorem makeNoZero_ok {n : Nat} (hn : n ≤ 1099511627776) (h : Sat σ w L) (hR : ∀ w b cs, n ≤ cs.length → cs.length ≤ 9223372036854775807 → Sat σ w ((b, cel cs ty_uint8) :: L) → R (.returned (.slice (some ⟨b, 0, none⟩) n cs.length)) w) :
    callE P i_internal_bytealg_MakeNoZero #[.int .i64 n] R w := by
  obtain ⟨cs, hr, h1, h2⟩ := Lib.run_makeNoZero (P := P) w x_internal_bytealg_MakeNoZero.params ty_S_uint8 ty_uint8 rowU8.ht n (by omega)
  refine ext_of (e := Extern.BytealgMakeNoZero.makeNoZero x_internal_bytealg_MakeNoZero.params #[ty_S_uint8]) xf_internal_bytealg_MakeNoZero (by kernel_rfl) (by kernel_rfl) (by kernel_rfl) (by kernel_rfl) hr ?_
  have hd : Sat σ w.drew.drew L := h.drew.drew
  have ha := hd.alc cs.toList ty_uint8
  have e3 : YtmicoampfglaiaaGreatDoor.alc w.drew.drew cs.toList.toArray ty_uint8 = w.drew.drew.alloc (.cells cs ty_uint8) := by rw [Array.toArray_toList]; rfl
  rw [e3] at ha
  have h3 := h2 (by unfold maxLen; omega)
  unfold maxLen at h3
  exact hR _ _ cs.toList (by simpa using h1) (by simpa using h3) ha
theorem copyNone (w : World) (b c : Nat) : (Builtin.copy_ #[ty_S_uint8, ty_S_uint8] ty_int #[.slice (some ⟨b, 0, none⟩) 0 c, .slice none 0 0]).run P w = .ok (.int .i64 0) w := by
  have h : P.underlying ty_S_uint8 = some (.slice ty_uint8) := rowU8.ht
  have h2 : P.info? ty_uint8 = some rowU8.i := rowU8.hi
  have h4 : (Builtin.lenOf (.slice none 0 0)).run P w = .ok 0 w := rfl
  have h5 : rowU8.i.size = 1 := rowU8.hs
  have h6 : (Builtin.firstCells 1 0 (.slice none 0 0)).run P w = .ok #[] w := run_firstCells_none w 1 0 0 0
  simp [Builtin.copy_, run_underlying h, sizeOf, typeInfo, h2, goInt, h4, h5, h6, storeCells]
/-- Room in a fresh builder. -/
theorem bldGrow_ok {b n : Nat} {M : List Chunk} (hB : Bld b false [] M) (h : Sat σ w (M ++ L)) (hn : 0 < n) (hn2 : n ≤ 1099511627776) (hR : ∀ w M', Bld b true [] M' → Sat σ w (M' ++ L) → R (.returned (.tuple #[])) w) :
    callE P i_strings_Builder_Grow #[.pointer (some ⟨b, 0, none⟩), .int .i64 n] R w := by
  obtain ⟨p, q, c, M0, rfl, hS, hp, hg, hc⟩ := hB
  have hq : q = none := by cases q <;> simp_all
  subst hq
  obtain ⟨_, _, ⟨_, _, rfl, rfl⟩ | ⟨_, _, h, _⟩⟩ := hS
  rotate_left
  · cases h
  refine g_strings_Builder_Grow.sound ?_
  refine copyCheck_ok h hp fun w h => ⟨rfl, br_false (by simp) ?_⟩
  refine Sat.tk h fun w h => ?_
  refine nilP_some (nilP_some ?_)
  refine ⟨_, _, _, Sat.ld h (by first | assumption | (repeat (first | exact .head _ | apply List.Mem.tail))) (by exact rfl), ?_⟩
  refine ⟨_, _, _, Sat.ld h (by first | assumption | (repeat (first | exact .head _ | apply List.Mem.tail))) (by exact rfl), ?_⟩
  refine ⟨_, _, capRun _ _ _ _ _ _ rowU8.ht w, fun _ _ => rfl, ?_⟩
  refine br_true (by simp (disch := omega) only [i64_in]; simp; omega) ?_
  refine g_strings_Builder_grow.sound ?_
  refine Sat.tk h fun w h => ?_
  refine nilP_some (nilP_some ?_)
  refine ⟨_, _, _, Sat.ld h (by first | assumption | (repeat (first | exact .head _ | apply List.Mem.tail))) (by exact rfl), ?_⟩
  refine ⟨_, _, _, Sat.ld h (by first | assumption | (repeat (first | exact .head _ | apply List.Mem.tail))) (by exact rfl), ?_⟩
  refine ⟨_, _, capRun _ _ _ _ _ _ rowU8.ht w, fun _ _ => rfl, ?_⟩
  have e1 : IntKind.i64.wrap (IntKind.i64.wrap (2 * ((0 : Nat) : Int)) + (n : Int)) = (n : Int) := by rw [i64_in (2 * _) (by omega), i64_in _ (by omega)]; omega
  rw [e1]
  have h0 := h
  refine makeNoZero_ok hn2 h fun w rb cs h1 h2 h => ⟨_, _, _, rfl, h0.same h (.head _) (.tail _ (.head _)) 1, ?_⟩
  refine ⟨_, _, _, fun w => sliceT rowU8.ht rowU8.hi _ n cs.length 0 (by omega) w, ?_⟩
  refine nilP_some ?_
  refine ⟨_, _, _, Sat.ld h (by first | assumption | (repeat (first | exact .head _ | apply List.Mem.tail))) (by exact rfl), ?_⟩
  refine ⟨_, _, copyNone w rb cs.length, ?_⟩
  refine nilP_some ?_
  refine Sat.st h (k := 1) rfl (Nat.le_of_ble_eq_true rfl) trivial (by first | (dsimp only [List.set]; exact rfl) | exact rfl) fun w h => ?_
  have h : Sat σ w ((rb, cel cs ty_uint8) :: bldC b (some ⟨b, 0, none⟩) (some ⟨rb, 0, none⟩) 0 cs.length :: L) := h
  refine ⟨rfl, hR w [bldC b (some ⟨b, 0, none⟩) (some ⟨rb, 0, none⟩) 0 cs.length, (rb, cel cs ty_uint8)] ⟨_, _, _, _, rfl, ⟨by simp [bc], by omega, .inr ⟨rb, cs, rfl, by simp [bc], by simp [bc]⟩⟩, .inr rfl, rfl, fun _ => by omega⟩ ?_⟩
  exact h.re (by intro _; simp only [List.append_eq, cnt_append, cnt_cons, cnt_nil] <;> omega)
def sv (ts : List (List UInt8)) : List Value := ts.map fun t => .string (bs t)
@[simp] theorem sv_length (ts : List (List UInt8)) : (sv ts).length = ts.length := by simp [sv]
theorem sv_get {ts : List (List UInt8)} {j : Nat} (h : j < ts.length) : (sv ts)[j]? = some (.string (bs ts[j])) := by simp [sv, h]
def joinL (sep : List UInt8) : List (List UInt8) → List UInt8
  | [] => []
  | t :: ts => t ++ ts.flatMap (fun u => sep ++ u)
def sumL (ts : List (List UInt8)) : Nat := (ts.map List.length).sum
theorem joinL_length (sep : List UInt8) (t : List UInt8) (ts : List (List UInt8)) : (joinL sep (t :: ts)).length = t.length + sumL ts + ts.length * sep.length := by
  simp only [joinL, List.length_append, sumL]
  induction ts with
  | nil => simp
  | cons u ts ih => simp only [List.flatMap_cons, List.length_append, List.map_cons, List.sum_cons, List.length_cons] at *; rw [Nat.add_mul]; omega
theorem Sl.rowAt {e : TypeId} {q : Option Addr} {n c : Nat} {vs : List Value} {M : List Chunk} (hS : Sl 1 e q n c vs M) (hn : 0 < n) : ∃ b sp, q = some ⟨b, 0, none⟩ ∧ M = [(b, cel (vs ++ sp) e)] := by
  obtain ⟨_, _, ⟨_, h, _, _⟩ | ⟨b, sp, h1, h2, _⟩⟩ := hS
  · omega
  · exact ⟨b, sp, h1, h2⟩
theorem join_ok {q : Option Addr} {n c : Nat} {t : List UInt8} {ts : List (List UInt8)} {AM : List Chunk} {sep : List UInt8} (hS : Sl 1 ty_string q n c (sv (t :: ts)) AM) (h : Sat σ w (AM ++ L)) (hne : 1 ≤ ts.length) (hn : n < 1073741824) (hsep : sep.length < 65536)
    (h0 : 0 < (joinL sep (t :: ts)).length) (hb : (joinL sep (t :: ts)).length < 1073741824) (hR : ∀ w, Sat σ w (AM ++ L) → R (.returned (.string (bs (joinL sep (t :: ts))))) w) : callE P i_strings_Join #[.slice q n c, .string (bs sep)] R w := by
  have hl := hS.1
  rw [sv_length, List.length_cons] at hl
  have hjl := joinL_length sep t ts
  refine g_strings_Join.sound ?_
  obtain ⟨rb, sp, rfl, rfl⟩ := hS.rowAt (by omega)
  refine br_false (by simp; omega) (br_false (by simp; omega) ?_)
  -- the builder and the rest
  have fin : ∀ w, Sat σ w ([(rb, cel (sv (t :: ts) ++ sp) ty_string)] ++ L) → box w #[.pointer none, .slice none 0 0] ty_strings_Builder fun b5 w6 =>
      callE P i_strings_Builder_Grow #[.pointer (some ⟨b5, 0, none⟩), .int .i64 (((joinL sep (t :: ts)).length : Nat) : Int)] (fun e w8 => e = .returned (.tuple #[]) ∧
      0 ≤ (0 : Int) ∧ 0 < (n : Int) ∧
      nilP (some (⟨rb, 0, none⟩ : Addr)) fun a9 =>
      ∃ (v10 : ByteArray), w8.cell? (a9.add (Int.toNat 0 * 1)) = some (.string v10) ∧
      callE P i_strings_Builder_WriteString #[.pointer (some ⟨b5, 0, none⟩), .string v10] (fun e w12 => ∃ (r11_0 : Int), ∃ (r11_1 : Value), e = .returned (.tuple #[.int .i64 r11_0, r11_1]) ∧
      ∃ (r13q : Option Addr), ∃ (r13n : Nat), ∃ (r13c : Nat), ∃ w14, (Instr.sliceAt ty_S_string (.slice (some ⟨rb, 0, none⟩) n c) (some (.int .i64 1)) none none).run P w12 = .ok (.slice r13q r13n r13c) w14 ∧
      g_strings_Join.l2 R (bs sep) b5 r13q r13n r13c (r13n : Int) 0 w14) w8) w6 := by
    intro w h
    refine Sat.bx h fun b w h => ?_
    refine bldGrow_ok (bldNew b) h h0 (by omega) fun w M hB h => ⟨rfl, by omega, by omega, nilP_some ?_⟩
    refine ⟨bs t, Sat.ld h (List.mem_append_right _ (.head _)) rfl, ?_⟩
    refine bldS_ok hB h (.inr rfl) (by simp; omega) fun w M hB h => ⟨_, _, rfl, ?_⟩
    refine ⟨_, _, _, _, sliceF rowStr.ht rowStr.hi _ n c 1 (by omega) w, ?_⟩
    have hnc := hS.2.1
    rw [if_neg (by omega), rowStr.hs]
    simp only [Option.map_some, Addr.add_lit, Nat.zero_add, Nat.mul_one]
    rw [List.nil_append] at hB
    intro Y hY
    have key : ∀ k j (l : List UInt8) M w, j + k = ts.length → Bld b true l M → Sat σ w (M ++ ([(rb, cel (sv (t :: ts) ++ sp) ty_string)] ++ L)) → l ++ (ts.drop j).flatMap (fun u => sep ++ u) = joinL sep (t :: ts) →
        Y (bs sep) b (some ⟨rb, 1, none⟩) (n - 1) (c - 1) ((n - 1 : Nat) : Int) (j : Int) w := by
      intro k
      induction k with
      | zero =>
        intro j l M w hj hB h hl2
        rw [List.drop_eq_nil_of_le (by omega)] at hl2
        simp only [List.flatMap_nil, List.append_nil] at hl2
        refine hY _ _ _ _ _ _ _ _ (br_false (by simp; omega) ?_)
        refine bldStr_ok hB h (by rw [hl2]; omega) fun w h => ⟨_, rfl, ?_⟩
        rw [hl2]
        exact hR w h
      | succ k ih =>
        intro j l M w hj hB h hl2
        have hjl : j < ts.length := by omega
        rw [List.drop_eq_getElem_cons hjl, List.flatMap_cons, ← List.append_assoc, ← List.append_assoc] at hl2
        have hlb : (l ++ sep ++ ts[j]).length ≤ (joinL sep (t :: ts)).length := by rw [← hl2]; simp only [List.length_append]; omega
        simp only [List.length_append] at hlb
        refine hY _ _ _ _ _ _ _ _ (br_true (by simp; omega) ⟨by omega, by omega, nilP_some ?_⟩)
        simp only [Addr.add_lit, Int.toNat_natCast, Nat.mul_one]
        have hg : (sv (t :: ts) ++ sp)[1 + j]? = some (.string (bs ts[j])) := by
          rw [List.getElem?_append_left (by simp; omega), show 1 + j = j + 1 by omega, sv_get (by simp; omega)]; rfl
        refine ⟨_, Sat.ld h (List.mem_append_right _ (.head _)) hg, ?_⟩
        refine bldS_ok hB h (.inr rfl) (by omega) fun w M hB h => ⟨_, _, rfl, ?_⟩
        refine bldS_ok hB h (.inr rfl) (by simp; omega) fun w M hB h => ⟨_, _, rfl, ?_⟩
        rw [i64_inc (by omega)]
        exact ih (j + 1) _ M w (by omega) hB h hl2
    exact key ts.length 0 t M w (by omega) hB h rfl
  -- the sum of the lengths
  have sum : ∀ w (a : Nat), a = ts.length * sep.length → Sat σ w ([(rb, cel (sv (t :: ts) ++ sp) ty_string)] ++ L) → g_strings_Join.k2 R (some ⟨rb, 0, none⟩) n c (bs sep) (a : Int) w := by
    intro w a ha h X hX
    have key : ∀ k j (s : Nat), j + k = (t :: ts).length → s + sumL ((t :: ts).drop j) = (joinL sep (t :: ts)).length → X (some ⟨rb, 0, none⟩) n c (bs sep) (s : Int) (some ⟨rb, 0, none⟩) n c (n : Int) (j : Int) w := by
      intro k
      induction k with
      | zero =>
        intro j s hj hs
        rw [List.drop_eq_nil_of_le (by omega)] at hs
        simp only [sumL, List.map_nil, List.sum_nil, Nat.add_zero] at hs
        subst hs
        refine hX _ _ _ _ _ _ _ _ _ _ _ (br_false (by simp at hj; simp; omega) ?_)
        exact fin w h
      | succ k ih =>
        intro j s hj hs
        have hjl : j < (t :: ts).length := by omega
        rw [List.drop_eq_getElem_cons hjl] at hs
        simp only [sumL, List.map_cons, List.sum_cons] at hs
        have hjn : j < n := by simp at hjl; omega
        refine hX _ _ _ _ _ _ _ _ _ _ _ (br_true (by simp; omega) ⟨by omega, by omega, nilP_some ?_⟩)
        simp only [Addr.add_lit, Int.toNat_natCast, Nat.mul_one, Nat.zero_add]
        have hg : (sv (t :: ts) ++ sp)[j]? = some (.string (bs (t :: ts)[j])) := by
          rw [List.getElem?_append_left (by simp at hjl ⊢; omega), sv_get hjl]
        refine ⟨_, Sat.ld h (.head _) hg, ?_⟩
        rw [bs_size]
        refine br_false (by simp (disch := omega) only [i64_in]; simp; omega) ?_
        show X _ _ _ _ _ _ _ _ _ _ w
        rw [i64_inc (by omega), bs_size, i64_in _ (by omega), show (s : Int) + ((t :: ts)[j].length : Nat) = ((s + (t :: ts)[j].length : Nat) : Int) by omega]
        exact ih (j + 1) _ (by omega) (by simp only [sumL]; omega)
    refine key (t :: ts).length 0 a (by omega) ?_
    rw [hjl, ha]
    simp [sumL]
    omega
  have hmul : ts.length * sep.length < 1073741824 := by omega
  by_cases hs0 : sep = []
  · subst hs0
    refine br_false (by simp) ?_
    exact sum w 0 (by simp) h
  · refine br_true (by simpa using List.length_pos_iff.2 hs0) ?_
    have hn1 : IntKind.i64.wrap ((n : Int) - 1) = ((ts.length : Nat) : Int) := by simp (disch := omega) only [i64_in]; omega
    refine ⟨by rw [hn1]; omega, br_false ?_ ?_⟩
    · rw [hn1]
      have hq : Int.tdiv 9223372036854775807 (ts.length : Int) = ((9223372036854775807 / ts.length : Nat) : Int) := by
        rw [Int.tdiv_eq_ediv_of_nonneg (by omega)]; simp
      rw [hq]
      have hge : 65536 ≤ 9223372036854775807 / ts.length := by
        rw [Nat.le_div_iff_mul_le (by omega)]; omega
      have hle : 9223372036854775807 / ts.length ≤ 9223372036854775807 := Nat.div_le_self _ _
      rw [i64_in _ (by omega), bs_size]
      exact decide_eq_false (by omega)
    · show g_strings_Join.k2 R _ n c (bs sep) _ w
      rw [hn1, bs_size]
      have : IntKind.i64.wrap (0 + IntKind.i64.wrap ((sep.length : Int) * (ts.length : Int))) = ((ts.length * sep.length : Nat) : Int) := by
        have e : ((sep.length : Int) * (ts.length : Int)) = ((ts.length * sep.length : Nat) : Int) := by rw [Nat.mul_comm]; simp
        generalize ts.length * sep.length = m at hmul e ⊢
        rw [e, i64_in (m : Int) (by omega), Int.zero_add, i64_in (m : Int) (by omega)]
      rw [this]
      exact sum w _ rfl h
end Go.Proofs.YtmicoampfglaiaaGreatDoor

/- Neighbouring plain texts become one. -/
set_option linter.unusedVariables false
namespace Go.Proofs.YtmicoampfglaiaaGreatDoor
open Go.Proofs Go.IntWalk Go.RowKit
variable {σ : Out} {w : World} {L L' : List Chunk} {R : Ending → World → Prop}
def Inl.plain? : Inl → Option (List UInt8)
  | .plain s => some s
  | .openP s _ => some s
  | .emphP s _ _ _ _ => some s
  | _ => none
theorem toPlain_yes {t : Inl} {v : Value} {M : List Chunk} {s : List UInt8} (hI : InlAt t v M) (hs : t.plain? = some s) (hR : ∀ b cs e, M = [(b, cel (.string (bs s) :: cs) e)] → R (.returned (.pointer (some ⟨b, 0, none⟩))) w) : callE P i_toPlain #[v] R w := by
  refine g_toPlain.sound ?_
  cases t <;> simp only [Inl.plain?, Option.some.injEq, reduceCtorEq] at hs <;> subst hs
  · obtain ⟨b, cs, e, rfl, rfl⟩ := hI
    exact ⟨_, _, _, ta_plain_yes w, br_true rfl (hR b _ _ rfl)⟩
  · obtain ⟨b, e, rfl, rfl⟩ := hI
    exact ⟨_, _, _, ta_plain_no (by decide) w, br_false rfl ⟨_, _, _, ta_emph_no (by decide) w, br_false rfl ⟨_, _, _, ta_open_yes w, br_true rfl (nilP_some (hR b _ _ rfl))⟩⟩⟩
  · obtain ⟨b, e, rfl, rfl⟩ := hI
    exact ⟨_, _, _, ta_plain_no (by decide) w, br_false rfl ⟨_, _, _, ta_emph_yes w, br_true rfl (nilP_some (hR b _ _ rfl))⟩⟩
theorem Inl.not_plain {t : Inl} (h : t.plain? = none) : t.ty ≠ ty_P_Plain ∧ t.ty ≠ ty_P_openPlain ∧ t.ty ≠ ty_P_emphPlain := by
  cases t <;> simp only [Inl.plain?, reduceCtorEq] at h <;> (simp only [Inl.ty]; decide)
theorem toPlain_no {t : Inl} {v : Value} {M : List Chunk} (hI : InlAt t v M) (hs : t.plain? = none) (hR : R (.returned (.pointer none)) w) : callE P i_toPlain #[v] R w := by
  refine g_toPlain.sound ?_
  obtain ⟨h1, h2, h3⟩ := Inl.not_plain hs
  obtain ⟨b, cs, e, M', rfl, _⟩ := hI.ptr
  exact ⟨_, _, _, ta_plain_no h1 w, br_false rfl ⟨_, _, _, ta_emph_no h3 w, br_false rfl ⟨_, _, _, ta_open_no h2 w, br_false rfl hR⟩⟩⟩

theorem joinL_nil : ∀ us : List (List UInt8), joinL [] us = us.flatten
  | [] => rfl
  | u :: us => by simp [joinL, List.flatten_cons, List.flatMap_id']
theorem InlsAt.mid {a : List Inl} {t : Inl} {b : List Inl} {vs : List Value} {M : List Chunk} (h : InlsAt (a ++ t :: b) vs M) : ∃ vs1 v vs2 M1 M2 M3, vs = vs1 ++ v :: vs2 ∧ M = M1 ++ (M2 ++ M3) ∧ InlsAt a vs1 M1 ∧ InlAt t v M2 ∧ InlsAt b vs2 M3 := by
  obtain ⟨vs1, vs2, M1, M2, rfl, rfl, h1, h2⟩ := h.split
  obtain ⟨v, vs', N1, N2, rfl, rfl, h3, h4⟩ := h2
  exact ⟨vs1, v, vs', M1, N1, N2, rfl, rfl, h1, h3, h4⟩
theorem flatten_take_succ (us : List (List UInt8)) (j : Nat) (h : j < us.length) : (us.take j).flatten ++ us[j] = (us.take (j + 1)).flatten := by
  rw [List.take_succ_eq_append_getElem h, List.flatten_append]; simp
theorem fillS (t : List UInt8) : Instr.fill (fun i => some (i * 1, 1)) ((Array.range (1 * 1)).map (rowStr.z.cells[· % rowStr.z.cells.size]!)) [(0, .string (bs t))] = some #[.string (bs t)] := by kernel_rfl

theorem mergePlain1_ok {rb s m c : Nat} {cs : List Value} {e : TypeId} {vs : List Value} {ts : List Inl} {us : List (List UInt8)} {EM : List Chunk} (hI : InlsAt ts vs EM) (hu : ts.map Inl.plain? = us.map some) (hm : vs.length = m) (h1 : 1 ≤ m) (hmb : m < 1073741824)
    (hcs : ∀ j (hj : j < m), cs[s + j]? = vs[j]?) (hpos : 0 < us.flatten.length) (hb : us.flatten.length < 1073741824) (h : Sat σ w ((rb, cel cs e) :: (EM ++ L)))
    (hR : ∀ w b EM', InlAt (.plain us.flatten) (ptrV ty_P_Plain b) EM' → Sat σ w ((rb, cel cs e) :: (EM' ++ L)) → R (.returned (.pointer (some ⟨b, 0, none⟩))) w) :
    callE P i_mergePlain1 #[.slice (some ⟨rb, s, none⟩) m c] R w := by
  have hlt := hI.length
  have hul : us.length = ts.length := by have := congrArg List.length hu; simpa using this.symm
  refine g_mergePlain1.sound ?_
  have get : ∀ j, j < m → ∃ t v a b M1 M2 M3 u, ts = a ++ t :: b ∧ EM = M1 ++ (M2 ++ M3) ∧ InlAt t v M2 ∧ t.plain? = some u ∧ us[j]? = some u ∧ cs[s + j]? = some v ∧ a.length = j := by
    intro j hj
    have hjt : j < ts.length := by omega
    have hsp : ts = ts.take j ++ (ts[j] :: ts.drop (j + 1)) := by rw [← List.drop_eq_getElem_cons hjt, List.take_append_drop]
    have hju : j < us.length := by omega
    have hp : ts[j].plain? = some us[j] := by
      have := congrArg (fun l => l[j]?) hu
      simpa [hjt, hju] using this
    have hI' := hI
    rw [hsp] at hI'
    obtain ⟨vs1, v, vs2, M1, M2, M3, rfl, rfl, h1, h2, h3⟩ := hI'.mid
    have hl1 := h1.length
    rw [List.length_take, Nat.min_eq_left (by omega)] at hl1
    refine ⟨ts[j], v, ts.take j, ts.drop (j + 1), M1, M2, M3, us[j], hsp, rfl, h2, hp, List.getElem?_eq_getElem hju, ?_, ?_⟩
    · rw [hcs j hj, List.getElem?_append_right (by omega), hl1]; simp
    · rw [List.length_take]; omega
  by_cases hm1 : m = 1
  · refine br_true (by simp [hm1]) ⟨by omega, by omega, nilP_some ?_⟩
    obtain ⟨t, v, a, b, M1, M2, M3, u, rfl, rfl, h2, hp, hu0, hc0, ha⟩ := get 0 (by omega)
    have hb0 : b = [] := by
      simp only [List.length_append, List.length_cons, ha] at hlt
      exact List.eq_nil_of_length_eq_zero (by omega)
    have ha0 : a = [] := List.eq_nil_of_length_eq_zero ha
    subst hb0 ha0
    obtain ⟨us0, rfl⟩ : ∃ x, us = [x] := by
      simp at hul
      match us, hul with
      | [x], _ => exact ⟨x, rfl⟩
    obtain rfl : us0 = u := by simpa using hu0
    simp only [Addr.add_lit, Int.toNat_zero, Nat.zero_mul, Nat.add_zero]
    refine ⟨v, Sat.ld h (.head _) hc0, ?_⟩
    refine toPlain_yes h2 hp fun bb ccs ee hM => ⟨_, rfl, ?_⟩
    refine hR w bb M2 ?_ ?_
    · rw [hM]; exact ⟨bb, ccs, ee, rfl, by simp⟩
    · exact h.less (M1 ++ M3) (by intro _; simp only [List.append_eq, cnt_append, cnt_cons, cnt_nil] <;> omega)
  · refine br_false (by simp; omega) ?_
    intro X hX
    have key : ∀ k j (q : Option Addr) (n c' : Nat) AM w, j + k = m → Sl 1 ty_string q n c' (sv (us.take j)) AM → Sat σ w (AM ++ ((rb, cel cs e) :: (EM ++ L))) → X q n c' (some ⟨rb, s, none⟩) m c (m : Int) (j : Int) w := by
      intro k
      induction k with
      | zero =>
        intro j q n c' AM w hj hS h
        refine hX _ _ _ _ _ _ _ _ _ (br_false (by simp; omega) ?_)
        rw [List.take_of_length_le (by omega)] at hS
        cases us with
        | nil => simp at hul; omega
        | cons u us =>
          have hn := hS.1
          rw [sv_length] at hn
          simp at hul hn
          have hjl := joinL_nil (u :: us)
          refine join_ok (sep := []) hS h (by omega) (by omega) (by simp) (by rw [hjl]; exact hpos) (by rw [hjl]; exact hb) fun w h => ⟨_, rfl, ?_⟩
          rw [hjl]
          refine Sat.bx h fun pb w h => ?_
          refine hR w pb [(pb, cel [.string (bs (u :: us).flatten)] ty_Plain)] ⟨pb, [], _, rfl, rfl⟩ ?_
          exact h.less (AM ++ EM) (by intro _; simp only [List.append_eq, cnt_append, cnt_cons, cnt_nil] <;> omega)
      | succ k ih =>
        intro j q n c' AM w hj hS h
        have hjm : j < m := by omega
        have hju : j < us.length := by omega
        refine hX _ _ _ _ _ _ _ _ _ (br_true (by simp; omega) ⟨by omega, by omega, nilP_some ?_⟩)
        obtain ⟨t, v, a, b, M1, M2, M3, u, rfl, rfl, h2, hp, hu0, hc0, ha⟩ := get j hjm
        simp only [Addr.add_lit, Int.toNat_natCast, Nat.mul_one]
        refine ⟨v, Sat.ld h (List.mem_append_right _ (.head _)) hc0, ?_⟩
        refine toPlain_yes h2 hp fun bb ccs ee hM => ⟨_, rfl, nilP_some ?_⟩
        subst hM
        refine ⟨_, Sat.ld h (List.mem_append_right _ (.tail _ (List.mem_append_left _ (List.mem_append_right _ (.head _))))) rfl, ?_⟩
        have hn := hS.1
        rw [sv_length, List.length_take] at hn
        refine Sat.app1 rowStr hS h (v := .string (bs u)) rfl (by simp [Value.cells, Value.oneCell']) (fillS u) (by omega) (by omega) (by decide) fun q' c'' w' M' hS' h => ?_
        rw [i64_inc (by omega)]
        refine ih (j + 1) q' (n + 1) c'' M' w' (by omega) ?_ h
        have e : sv (us.take (j + 1)) = sv (us.take j) ++ [.string (bs u)] := by
          rw [List.take_succ_eq_append_getElem hju]
          have : us[j] = u := by rw [List.getElem?_eq_getElem hju] at hu0; exact Option.some.inj hu0
          simp [sv, this]
        rw [e]; exact hS'
    exact key m 0 none 0 0 [] w (by omega) (Sl.nil 1 ty_string) h
end Go.Proofs.YtmicoampfglaiaaGreatDoor

set_option linter.unusedVariables false
namespace Go.Proofs.YtmicoampfglaiaaGreatDoor
open Go.Proofs Go.IntWalk Go.RowKit
variable {σ : Out} {w : World} {L L' : List Chunk} {R : Ending → World → Prop}
def flushP (p : List (List UInt8)) : List Inl := if p = [] then [] else [.plain p.flatten]
def mergeGo : List (List UInt8) → List Inl → List Inl
  | p, [] => flushP p
  | p, t :: ts => match t.plain? with
    | some s => mergeGo (p ++ [s]) ts
    | none => flushP p ++ t :: mergeGo [] ts
def mergeM (ts : List Inl) : List Inl := mergeGo [] ts
def plen : List Inl → Nat
  | [] => 0
  | t :: ts => (match t.plain? with | some s => s.length | none => 0) + plen ts
theorem set_mid {α : Type} {A B C : List α} {v : α} (hB : B ≠ []) : (A ++ (B ++ C)).set A.length v = (A ++ [v]) ++ (B.drop 1 ++ C) := by
  cases B with
  | nil => exact absurd rfl hB
  | cons x B => simp [List.set_append_right]
theorem fillP (v : Value) (hv : ∃ t b, v = ptrV t b) : Instr.fill (fun i => some (i * 1, 1)) ((Array.range (1 * 1)).map (rowInl.z.cells[· % rowInl.z.cells.size]!)) [(0, v)] = some v.cells := by
  obtain ⟨t, b, rfl⟩ := hv
  exact fillI t _
theorem und_PP : P.underlying ty_P_Plain = some (.pointer ty_Plain) := und_plain

theorem mergePlain_ok {pq q : Option Addr} {n c : Nat} {vs : List Value} {ts : List Inl} {RM EM : List Chunk} (hS : Sl 1 ty_Inline q n c vs RM) (hI : InlsAt ts vs EM) (hpos : ∀ t ∈ ts, ∀ s, t.plain? = some s → s ≠ []) (hb : plen ts < 1073741824) (hn : n < 1073741823)
    (h : Sat σ w (RM ++ (EM ++ L)))
    (hR : ∀ w n' vs' RM' EM', Sl 1 ty_Inline q n' c vs' RM' → n' ≤ n → InlsAt (mergeM ts) vs' EM' → Sat σ w (RM' ++ (EM' ++ L)) → R (.returned (.slice q n' c)) w) : callE P i_parseState_mergePlain #[.pointer pq, .slice q n c] R w := by
  have hl := hS.1
  have hnc := hS.2.1
  have htl := hI.length
  refine g_parseState_mergePlain.sound ?_
  refine ⟨_, _, _, _, sliceT rowInl.ht rowInl.hi q n c 0 (by omega) w, ?_⟩
  intro X hX
  obtain ⟨_, _, ⟨rfl, rfl, rfl, rfl⟩ | ⟨rb, sp, rfl, rfl, hsp⟩⟩ := hS
  · have hts : ts = [] := List.eq_nil_of_length_eq_zero (by omega)
    subst hts
    refine hX _ _ _ _ _ _ _ _ _ (br_false rfl ?_)
    refine br_false rfl (br_true rfl ?_)
    exact hR w 0 [] [] [] (Sl.nil 1 ty_Inline) (by omega) ⟨rfl, rfl⟩ (h.sub (by rw [List.nil_append]; exact List.sublist_append_right _ _))
  have hlen0 : vs.length = n := by omega
  have key : ∀ (rts : List Inl) (pts : List Inl) (us : List (List UInt8)) (ots : List Inl) (ovs junk pvs rvs : List Value) (OM PM RM : List Chunk) w,
      InlsAt ots ovs OM → InlsAt pts pvs PM → InlsAt rts rvs RM → pts.map Inl.plain? = us.map some → (∀ u ∈ us, u ≠ []) → (∀ t ∈ rts, ∀ s, t.plain? = some s → s ≠ []) → us.flatten.length + plen rts < 1073741824 →
      ovs.length + junk.length + pvs.length + rvs.length = n → mergeM ts = ots ++ mergeGo us rts →
      Sat σ w ((rb, cel (ovs ++ (junk ++ (pvs ++ (rvs ++ sp)))) ty_Inline) :: (OM ++ (PM ++ (RM ++ L)))) →
      X (some ⟨rb, 0, none⟩) n c (some ⟨rb, 0, none⟩) ovs.length c ((ovs.length + junk.length : Nat) : Int) ((ovs.length + junk.length + pvs.length : Nat) : Int) w := by
    intro rts
    induction rts with
    | nil =>
      intro pts us ots ovs junk pvs rvs OM PM RM w hO hP hRt hu hune hrne hbb hlen hm h
      obtain ⟨rfl, rfl⟩ := hRt
      have hpl := hP.length
      have hul : us.length = pts.length := by have := congrArg List.length hu; simpa using this.symm
      simp only [List.length_nil, Nat.add_zero] at hlen
      refine hX _ _ _ _ _ _ _ _ _ (br_false (by simp; omega) ?_)
      by_cases hp0 : pvs = []
      · subst hp0
        have hpts : pts = [] := by cases pts with
          | nil => rfl
          | cons _ _ => simp at hpl
        subst hpts
        have hus : us = [] := by cases us with
          | nil => rfl
          | cons _ _ => simp at hul
        subst hus
        obtain ⟨_, rfl⟩ := hP
        refine br_false (by simp) (br_true (by simp at hlen ⊢; omega) ?_)
        refine hR w ovs.length ovs [(rb, cel (ovs ++ (junk ++ sp)) ty_Inline)] OM ⟨by omega, by omega, .inr ⟨rb, junk ++ sp, rfl, rfl, ?_⟩⟩ (by omega) ?_ ?_
        · simp only [List.length_append] at hsp ⊢; simp at hlen; omega
        · rw [hm]; simpa [mergeGo, flushP] using hO
        · simp only [List.nil_append] at h; exact h.re (by intro _; simp only [List.append_eq, cnt_append, cnt_cons, cnt_nil] <;> omega)
      · have hpos1 : 0 < pvs.length := List.length_pos_iff.2 hp0
        refine br_true (by simp; omega) ?_
        refine ⟨_, _, _, _, sliceLH rowInl.ht rowInl.hi _ n c _ _ (by omega) (by omega) w, ?_⟩
        rw [if_neg (by omega), rowInl.hs]
        simp only [Option.map_some, Addr.add_lit, Nat.zero_add, Nat.mul_one]
        have hune0 : us ≠ [] := by intro h0; subst h0; simp at hul; omega
        have hfl : 0 < us.flatten.length := by
          cases us with
          | nil => exact absurd rfl hune0
          | cons u us =>
            have := List.length_pos_iff.2 (hune u (.head _))
            simp only [List.flatten_cons, List.length_append]; omega
        have h : Sat σ w ((rb, cel (ovs ++ (junk ++ (pvs ++ ([] ++ sp)))) ty_Inline) :: (PM ++ (OM ++ L))) := h.re (by intro _; simp only [List.append_eq, cnt_append, cnt_cons, cnt_nil] <;> omega)
        refine mergePlain1_ok (us := us) hP hu (by omega) (by omega) (by omega) ?_ hfl (by simp only [plen] at hbb; omega) h fun w nb EM' hN h => ⟨_, rfl, ?_⟩
        · intro j hj
          rw [List.getElem?_append_right (by omega), List.getElem?_append_right (by omega), List.getElem?_append_left (by omega)]
          congr 1; omega
        have h : Sat σ w ((rb, cel (ovs ++ ((junk ++ pvs) ++ sp)) ty_Inline) :: (EM' ++ (OM ++ L))) := by
          have e : ovs ++ (junk ++ (pvs ++ ([] ++ sp))) = ovs ++ ((junk ++ pvs) ++ sp) := by simp
          rw [← e]; exact h
        refine appRoom' rowInl h (v := ptrV ty_P_Plain nb) (by simp; omega) (by omega) rfl rfl (fillI _ _) fun w h => ?_
        rw [set_mid (by simp [hp0])] at h
        refine br_true (by simp; omega) ?_
        refine hR w (ovs.length + 1) (ovs ++ [ptrV ty_P_Plain nb]) [(rb, cel ((ovs ++ [ptrV ty_P_Plain nb]) ++ ((junk ++ pvs).drop 1 ++ sp)) ty_Inline)] (OM ++ EM') ⟨by simp, by omega, .inr ⟨rb, _, rfl, rfl, ?_⟩⟩ (by omega) ?_ ?_
        · simp only [List.length_append, List.length_drop, List.length_singleton] at hsp ⊢; omega
        · rw [hm]
          simp only [mergeGo, flushP, if_neg hune0]
          exact hO.append (InlsAt.one hN)
        · exact h.re (by intro _; simp only [List.append_eq, cnt_append, cnt_cons, cnt_nil] <;> omega)
    | cons t rts ih =>
      intro pts us ots ovs junk pvs rvs OM PM RM w hO hP hRt hu hune hrne hbb hlen hm h
      have hpl := hP.length
      have hul : us.length = pts.length := by have := congrArg List.length hu; simpa using this.symm
      obtain ⟨v, rvs', M1, M2, rfl, rfl, hv, hrest⟩ := hRt
      simp only [List.length_cons] at hlen
      refine hX _ _ _ _ _ _ _ _ _ (br_true (by simp; omega) ⟨by omega, by omega, nilP_some ?_⟩)
      simp only [Addr.add_lit, Int.toNat_natCast, Nat.mul_one, Nat.zero_add]
      have hg : (ovs ++ (junk ++ (pvs ++ (v :: rvs' ++ sp))))[ovs.length + junk.length + pvs.length]? = some v := by
        rw [List.getElem?_append_right (by omega), List.getElem?_append_right (by omega), List.getElem?_append_right (by omega)]
        rw [show ovs.length + junk.length + pvs.length - ovs.length - junk.length - pvs.length = 0 by omega]
        rfl
      refine ⟨v, Sat.ld h (.head _) hg, ?_⟩
      cases hpt : t.plain? with
      | some u =>
        refine toPlain_yes hv hpt fun bb ccs ee hM => ⟨_, rfl, ?_⟩
        refine ⟨_, _, neq_ptr_nil und_PP _ w, br_true rfl ?_⟩
        rw [i64_inc (by omega)]
        have := ih (pts ++ [t]) (us ++ [u]) ots ovs junk (pvs ++ [v]) rvs' OM (PM ++ M1) M2 w hO (hP.append (InlsAt.one hv)) hrest (by simp [hu, hpt])
          (by intro x hx; rcases List.mem_append.1 hx with hx | hx
              · exact hune x hx
              · simp at hx; subst hx; exact hrne t (.head _) _ hpt)
          (fun t' ht' => hrne t' (.tail _ ht')) (by simp only [plen, hpt] at hbb; simp only [List.flatten_append, List.flatten_cons, List.flatten_nil, List.length_append, List.append_nil]; omega) (by simp; omega) (by rw [hm, mergeGo, hpt]) ?_
        · simp only [List.length_append, List.length_singleton, ← Nat.add_assoc] at this
          exact this
        · have e : ovs ++ (junk ++ (pvs ++ [v] ++ (rvs' ++ sp))) = ovs ++ (junk ++ (pvs ++ (v :: rvs' ++ sp))) := by simp
          rw [e]; exact h.re (by intro _; simp only [List.append_eq, cnt_append, cnt_cons, cnt_nil] <;> omega)
      | none =>
        refine toPlain_no hv hpt ⟨_, rfl, ?_⟩
        refine ⟨_, _, neq_ptr_nil und_PP _ w, br_false rfl ?_⟩
        have hvp : ∃ t b, v = ptrV t b := by obtain ⟨b, _, _, _, h, _⟩ := hv.ptr; exact ⟨_, b, h⟩
        have hv1 : v.cells = #[v] ∧ v.oneCell' = true := by obtain ⟨t, b, rfl⟩ := hvp; exact ⟨rfl, rfl⟩
        -- the end of the round: the element itself
        have fin : ∀ (ots' : List Inl) (ovs' junk' : List Value) (OM' : List Chunk) w, InlsAt ots' ovs' OM' → mergeM ts = ots' ++ t :: mergeGo [] rts → ovs'.length + junk'.length = ovs.length + junk.length + pvs.length →
            Sat σ w ((rb, cel (ovs' ++ (junk' ++ (v :: rvs' ++ sp))) ty_Inline) :: (OM' ++ (M1 ++ (M2 ++ L)))) →
            g_parseState_mergePlain.k2 R X (some ⟨rb, 0, none⟩) n c (some ⟨rb, 0, none⟩) ovs'.length c ((ovs.length + junk.length + pvs.length : Nat) : Int) w := by
          intro ots' ovs' junk' OM' w hO' hm' hl' h
          refine br_false (by simp; omega) ⟨by omega, by omega, nilP_some ?_⟩
          simp only [Addr.add_lit, Int.toNat_natCast, Nat.mul_one, Nat.zero_add]
          have hg : (ovs' ++ (junk' ++ (v :: rvs' ++ sp)))[ovs.length + junk.length + pvs.length]? = some v := by
            rw [List.getElem?_append_right (by omega), List.getElem?_append_right (by omega)]
            rw [show ovs.length + junk.length + pvs.length - ovs'.length - junk'.length = 0 by omega]
            rfl
          refine ⟨v, Sat.ld h (.head _) hg, ?_⟩
          have e : ovs' ++ (junk' ++ (v :: rvs' ++ sp)) = ovs' ++ ((junk' ++ [v]) ++ (rvs' ++ sp)) := by simp
          rw [e] at h
          refine appRoom' rowInl h (v := v) (by simp; omega) (by omega) hv1.1 hv1.2 (fillP v hvp) fun w h => ?_
          rw [set_mid (by simp)] at h
          have e1 : IntKind.i64.wrap (((ovs.length + junk.length + pvs.length : Nat) : Int) + 1) = ((ovs.length + junk.length + pvs.length + 1 : Nat) : Int) := i64_inc (by omega)
          rw [e1]
          have := ih [] [] (ots' ++ [t]) (ovs' ++ [v]) ((junk' ++ [v]).drop 1) [] rvs' (OM' ++ M1) [] M2 w (hO'.append (InlsAt.one hv)) ⟨rfl, rfl⟩ hrest rfl (by simp) (fun t' ht' => hrne t' (.tail _ ht')) (by simp only [plen, hpt] at hbb; simp; omega)
            (by simp; omega) (by rw [hm']; simp) ?_
          · simp only [List.length_append, List.length_singleton, List.length_drop, List.length_nil, Nat.add_zero] at this
            have e2 : ovs'.length + 1 + (junk'.length + 1 - 1) = ovs.length + junk.length + pvs.length + 1 := by omega
            rw [e2] at this
            exact this
          · rw [List.nil_append]
            exact h.re (by intro _; simp only [List.append_eq, cnt_append, cnt_cons, cnt_nil] <;> omega)
        by_cases hp0 : pvs = []
        · subst hp0
          have hpts : pts = [] := by cases pts with
            | nil => rfl
            | cons _ _ => simp at hpl
          subst hpts
          have hus : us = [] := by cases us with
            | nil => rfl
            | cons _ _ => simp at hul
          subst hus
          obtain ⟨_, rfl⟩ := hP
          refine br_false (by simp) ?_
          refine fin ots ovs junk OM w hO (by rw [hm, mergeGo, hpt]; rfl) (by simp) ?_
          simp only [List.nil_append] at h
          exact h.re (by intro _; simp only [List.append_eq, cnt_append, cnt_cons, cnt_nil] <;> omega)
        · have hpos1 : 0 < pvs.length := List.length_pos_iff.2 hp0
          refine br_true (by simp; omega) ?_
          refine ⟨_, _, _, _, sliceLH rowInl.ht rowInl.hi _ n c _ _ (by omega) (by omega) w, ?_⟩
          rw [if_neg (by omega), rowInl.hs]
          simp only [Option.map_some, Addr.add_lit, Nat.zero_add, Nat.mul_one]
          have hune0 : us ≠ [] := by intro h0; subst h0; simp at hul; omega
          have hfl : 0 < us.flatten.length := by
            cases us with
            | nil => exact absurd rfl hune0
            | cons u us =>
              have := List.length_pos_iff.2 (hune u (.head _))
              simp only [List.flatten_cons, List.length_append]; omega
          have h : Sat σ w ((rb, cel (ovs ++ (junk ++ (pvs ++ (v :: rvs' ++ sp)))) ty_Inline) :: (PM ++ (OM ++ (M1 ++ (M2 ++ L))))) := h.re (by intro _; simp only [List.append_eq, cnt_append, cnt_cons, cnt_nil] <;> omega)
          refine mergePlain1_ok (us := us) hP hu (by omega) (by omega) (by omega) ?_ hfl (by simp only [plen] at hbb; omega) h fun w nb EM' hN h => ⟨_, rfl, ?_⟩
          · intro j hj
            rw [List.getElem?_append_right (by omega), List.getElem?_append_right (by omega), List.getElem?_append_left (by omega)]
            congr 1; omega
          have h : Sat σ w ((rb, cel (ovs ++ ((junk ++ pvs) ++ (v :: rvs' ++ sp))) ty_Inline) :: (EM' ++ (OM ++ (M1 ++ (M2 ++ L))))) := by
            have e : ovs ++ (junk ++ (pvs ++ (v :: rvs' ++ sp))) = ovs ++ ((junk ++ pvs) ++ (v :: rvs' ++ sp)) := by simp
            rw [← e]; exact h
          refine appRoom' rowInl h (v := ptrV ty_P_Plain nb) (by simp; omega) (by omega) rfl rfl (fillI _ _) fun w h => ?_
          rw [set_mid (by simp [hp0])] at h
          have := fin (ots ++ [.plain us.flatten]) (ovs ++ [ptrV ty_P_Plain nb]) ((junk ++ pvs).drop 1) (OM ++ EM') w (hO.append (InlsAt.one hN)) (by rw [hm, mergeGo, hpt]; simp [flushP, hune0]) (by simp; omega) (h.re (by intro _; simp only [List.append_eq, cnt_append, cnt_cons, cnt_nil] <;> omega))
          simp only [List.length_append, List.length_singleton] at this
          exact this
  have := key ts [] [] [] [] [] [] vs [] [] EM w ⟨rfl, rfl⟩ ⟨rfl, rfl⟩ hI rfl (by simp) hpos (by simpa using hb) (by simpa using hlen0) rfl (by simp only [List.nil_append]; exact h.re (by intro _; simp only [List.append_eq, cnt_append, cnt_cons, cnt_nil] <;> omega))
  exact this
end Go.Proofs.YtmicoampfglaiaaGreatDoor

/- The loop over a text that looks for inlines: its rounds. -/
set_option linter.unusedVariables false
namespace Go.Proofs.YtmicoampfglaiaaGreatDoor
open Go.Proofs Go.IntWalk Go.RowKit
variable {σ : Out} {w : World} {L L' : List Chunk} {R : Ending → World → Prop}
inductive PK where
  | nil
  | fn (f : FuncId)
  | code
def parserOf (o : Opt) (c : UInt8) : PK :=
  if c = 92 then .fn i_parseEscape else if c = 96 then .code else if c = 60 then .fn i_parseAutoLinkOrHTML else if c = 91 then .fn i_parseLinkOpen else if c = 33 then .fn i_parseImageOpen
  else if c = 95 ∨ c = 42 then .fn i_parseEmph else if c = 46 then (if o.dot then .fn i_parseDot else .nil) else if c = 45 then (if o.dash then .fn i_parseDash else .nil)
  else if c = 34 ∨ c = 39 then (if o.quote then .fn i_parseEmph else .nil) else if c = 126 then (if o.strike then .fn i_parseEmph else .nil) else if c = 10 then .fn i_parseBreak
  else if c = 38 then .fn i_parseHTMLEntity else if c = 58 then (if o.emoji then .fn i_parseEmoji else .nil) else .nil
abbrev XI := Option Addr → ByteArray → Option Addr → Nat → Nat → Int → Bool → Int → World → Prop
/-- A round goes by the byte. -/
theorem inl_dispatch {X : XI} {b pb : Nat} {p : PS} {o : Opt} {s : List UInt8} {oq : Option Addr} {on oc : Nat} {lo : Int} {bk : Bool} {i : Nat} (hi : i < s.length) (hs : s.length < 4611686018427387904) (hpz : p.pz = some ⟨pb, 0, none⟩) (hp : p.at b ∈ L) (ho : o.at pb ∈ L) (h : Sat σ w L)
    (hK : match parserOf o s[i] with
      | .nil => g_parseState_inline.k1 R X (some ⟨b, 0, none⟩) (bs s) oq on oc lo bk i .nilFunc w
      | .fn f => g_parseState_inline.k1 R X (some ⟨b, 0, none⟩) (bs s) oq on oc lo bk i (.func (.func f) #[] #[]) w
      | .code => br (!bk) (callE P i_backtickParser_reset #[.pointer (some ⟨b, 12, none⟩)] (fun e w11 => e = .returned (.tuple #[]) ∧ g_parseState_inline.k1 R X (some ⟨b, 0, none⟩) (bs s) oq on oc lo true i (.func (.func i_backtickParser_parseCodeSpan) #[.pointer (some ⟨b, 12, none⟩)] #[]) w11) w)
          (g_parseState_inline.k1 R X (some ⟨b, 0, none⟩) (bs s) oq on oc lo bk i (.func (.func i_backtickParser_parseCodeSpan) #[.pointer (some ⟨b, 12, none⟩)] #[]) w)) :
    g_parseState_inline.bl1 R X (some ⟨b, 0, none⟩) (bs s) oq on oc lo bk i w := by
  have hld0 : w.cell? ⟨b, 0, none⟩ = some (.pointer (some ⟨pb, 0, none⟩)) := by rw [← hpz]; exact Sat.ld h hp rfl
  refine br_true (by simp; omega) ⟨by omega, by simp; omega, ?_⟩
  unfold parserOf at hK
  have hne : ∀ (d : UInt8) (m : Int), (d.toNat : Int) = m → ¬ s[i] = d → (bt (bs s) (i : Int) == m) = false := by
    intro d m hm hd; rw [bt_beq hi d m hm]; simpa using hd
  have hye : ∀ (d : UInt8) (m : Int), (d.toNat : Int) = m → s[i] = d → (bt (bs s) (i : Int) == m) = true := by
    intro d m hm hd; rw [bt_beq hi d m hm]; simpa using hd
  by_cases h92 : s[i] = 92
  · rw [if_pos h92] at hK; exact br_true (hye 92 92 rfl h92) hK
  rw [if_neg h92] at hK; refine br_false (hne 92 92 rfl h92) ?_
  by_cases h96 : s[i] = 96
  · rw [if_pos h96] at hK
    refine br_true (hye 96 96 rfl h96) ?_
    cases bk with
    | true => exact br_false rfl (nilP_some hK)
    | false => exact br_true rfl (nilP_some (by
        have hK : callE P i_backtickParser_reset #[.pointer (some ⟨b, 12, none⟩)] _ w := hK
        exact hK))
  rw [if_neg h96] at hK; refine br_false (hne 96 96 rfl h96) ?_
  by_cases h60 : s[i] = 60
  · rw [if_pos h60] at hK; exact br_true (hye 60 60 rfl h60) hK
  rw [if_neg h60] at hK; refine br_false (hne 60 60 rfl h60) ?_
  by_cases h91 : s[i] = 91
  · rw [if_pos h91] at hK; exact br_true (hye 91 91 rfl h91) hK
  rw [if_neg h91] at hK; refine br_false (hne 91 91 rfl h91) ?_
  by_cases h33 : s[i] = 33
  · rw [if_pos h33] at hK; exact br_true (hye 33 33 rfl h33) hK
  rw [if_neg h33] at hK; refine br_false (hne 33 33 rfl h33) ?_
  by_cases h95 : s[i] = 95
  · rw [if_pos (.inl h95)] at hK; exact br_true (hye 95 95 rfl h95) (br_true rfl hK)
  refine br_false (hne 95 95 rfl h95) ?_
  by_cases h42 : s[i] = 42
  · rw [if_pos (.inr h42)] at hK; exact br_true (hye 42 42 rfl h42) hK
  rw [if_neg (by simp [h95, h42])] at hK; refine br_false (hne 42 42 rfl h42) ?_
  have opt : ∀ {A B : Prop} (k : Nat) (v : Bool), o.cells[k]? = some (.bool v) → (v = true → A) → (v = false → B) →
      nilP (some (⟨b, 0, none⟩ : Addr)) fun a53 => ∃ (v54 : Option Addr), w.cell? a53 = some (.pointer v54) ∧ nilP v54 fun a55 => ∃ (v56 : Bool), w.cell? (a55.add k) = some (.bool v56) ∧ br v56 A B := by
    intro A B k v hv hA hB
    refine nilP_some ⟨_, hld0, nilP_some ?_⟩
    simp only [Addr.add_lit, Nat.zero_add]
    exact ⟨v, Sat.ld h ho hv, br_split hA hB⟩
  by_cases h46 : s[i] = 46
  · rw [if_pos h46] at hK
    refine br_true (hye 46 46 rfl h46) (opt 7 o.dot rfl (fun hv => ?_) (fun hv => ?_))
    · rw [if_pos hv] at hK; exact hK
    · rw [if_neg (by simp [hv])] at hK; exact hK
  rw [if_neg h46] at hK; refine br_false (hne 46 46 rfl h46) ?_
  by_cases h45 : s[i] = 45
  · rw [if_pos h45] at hK
    refine br_true (hye 45 45 rfl h45) (opt 8 o.dash rfl (fun hv => ?_) (fun hv => ?_))
    · rw [if_pos hv] at hK; exact hK
    · rw [if_neg (by simp [hv])] at hK; exact hK
  rw [if_neg h45] at hK; refine br_false (hne 45 45 rfl h45) ?_
  by_cases h34 : s[i] = 34
  · rw [if_pos (.inl h34)] at hK
    refine br_true (hye 34 34 rfl h34) (br_true rfl (opt 9 o.quote rfl (fun hv => ?_) (fun hv => ?_)))
    · rw [if_pos hv] at hK; exact hK
    · rw [if_neg (by simp [hv])] at hK; exact hK
  refine br_false (hne 34 34 rfl h34) ?_
  by_cases h39 : s[i] = 39
  · rw [if_pos (.inr h39)] at hK
    refine br_true (hye 39 39 rfl h39) (opt 9 o.quote rfl (fun hv => ?_) (fun hv => ?_))
    · rw [if_pos hv] at hK; exact hK
    · rw [if_neg (by simp [hv])] at hK; exact hK
  rw [if_neg (by simp [h34, h39])] at hK; refine br_false (hne 39 39 rfl h39) ?_
  by_cases h126 : s[i] = 126
  · rw [if_pos h126] at hK
    refine br_true (hye 126 126 rfl h126) (opt 1 o.strike rfl (fun hv => ?_) (fun hv => ?_))
    · rw [if_pos hv] at hK; exact hK
    · rw [if_neg (by simp [hv])] at hK; exact hK
  rw [if_neg h126] at hK; refine br_false (hne 126 126 rfl h126) ?_
  by_cases h10 : s[i] = 10
  · rw [if_pos h10] at hK; exact br_true (hye 10 10 rfl h10) hK
  rw [if_neg h10] at hK; refine br_false (hne 10 10 rfl h10) ?_
  by_cases h38 : s[i] = 38
  · rw [if_pos h38] at hK; exact br_true (hye 38 38 rfl h38) hK
  rw [if_neg h38] at hK; refine br_false (hne 38 38 rfl h38) ?_
  by_cases h58 : s[i] = 58
  · rw [if_pos h58] at hK
    refine br_true (hye 58 58 rfl h58) (opt 6 o.emoji rfl (fun hv => ?_) (fun hv => ?_))
    · rw [if_pos hv] at hK; exact hK
    · rw [if_neg (by simp [hv])] at hK; exact hK
  rw [if_neg h58] at hK; exact br_false (hne 58 58 rfl h58) hK
end Go.Proofs.YtmicoampfglaiaaGreatDoor

/- The loop that looks for inlines: rounds with a parser, and without. -/
set_option linter.unusedVariables false
namespace Go.Proofs.YtmicoampfglaiaaGreatDoor
open Go.Proofs Go.IntWalk Go.RowKit
variable {σ : Out} {w : World} {L L' : List Chunk} {R : Ending → World → Prop}
/-- What inlines do not touch of the state. -/
def PS.core (p : PS) : PS := { p with em := 0, lq := none, ln := 0, lc := 0, corner := false, bt := [] }
/-- What a leaf's parser does not touch. -/
def PS.core2 (p : PS) : PS := { p with corner := false, bt := [] }
theorem PS.core_of2 {p p' : PS} (h : p'.core2 = p.core2) : p'.core = p.core := by
  have := congrArg PS.core h
  simpa [PS.core, PS.core2] using this
/-- The inlines so far, the places of open brackets, and the rest. -/
def IIn (σ : Out) (b : Nat) (p : PS) (ts : List Inl) (opens : List Nat) (oq : Option Addr) (on oc : Nat) (L : List Chunk) (w : World) : Prop :=
  ∃ vs RM EM OM, Sl 1 ty_Inline p.lq p.ln p.lc vs RM ∧ InlsAt ts vs EM ∧ Sl 1 ty_int oq on oc (opens.map fun (n : Nat) => Value.int .i64 n) OM ∧ ts.length < 1073741824 ∧ Sat σ w (p.at b :: (RM ++ (EM ++ (OM ++ L))))
def sub (s : List UInt8) (i j : Nat) : List UInt8 := (s.take j).drop i
/-- What lies ahead of i goes to the inlines. -/
def emitM (s : List UInt8) (em i : Nat) (ts : List Inl) : List Inl := if em < i then ts ++ [.plain (sub s em i)] else ts
theorem emitI_ok {b e i : Nat} {p : PS} {ts : List Inl} {opens : List Nat} {oq : Option Addr} {on oc : Nat} (h : IIn σ b p ts opens oq on oc L w) (he : p.em = e) (hl : i ≤ p.s.length) (hn : ts.length < 1073741823)
    (hR : ∀ w p', p'.core = p.core → p'.bt = p.bt → p'.em = ((max e i : Nat) : Int) → IIn σ b p' (emitM p.s e i ts) opens oq on oc L w → R (.returned (.tuple #[])) w) :
    callE P i_parseState_emit #[.pointer (some ⟨b, 0, none⟩), .int .i64 i] R w := by
  obtain ⟨vs, RM, EM, OM, hS, hI, hO, hlen, h⟩ := h
  have hvl := hI.length
  by_cases hi : e < i
  · have h : Sat σ w (p.at b :: RM ++ (EM ++ (OM ++ L))) := h
    refine emit_ok (L := EM ++ (OM ++ L)) h ⟨hS, by omega⟩ he hi hl (by omega) fun w p' M' nb hp' hS' h => ?_
    refine hR w p' (by rw [hp']; rfl) (by rw [hp']) (by rw [hp']; show ((i : Nat) : Int) = _; congr 1; omega) ⟨_, M', EM ++ [plainC nb (sub p.s e i)], OM, hS'.1, ?_, hO, ?_, ?_⟩
    · unfold emitM; rw [if_pos hi]
      exact hI.append (InlsAt.one ⟨nb, [], _, rfl, rfl⟩)
    · unfold emitM; rw [if_pos hi]; simp; omega
    · have h : Sat σ w (p'.at b :: M' ++ (plainC nb (sub p.s e i) :: (EM ++ (OM ++ L)))) := h
      exact h.re (by intro _; simp only [List.append_eq, cnt_append, cnt_cons, cnt_nil] <;> omega)
  · refine emit_no h (by rw [he]; omega) fun w h => ?_
    refine hR w p rfl rfl (by rw [he]; congr 1; omega) ⟨vs, RM, EM, OM, hS, ?_, hO, ?_, h⟩
    · unfold emitM; rw [if_neg hi]; exact hI
    · unfold emitM; rw [if_neg hi]; exact hlen

/-- What a parser of a leaf answers: the inline, where it begins, where it ends. -/
def LeafOK (b : Nat) (p : PS) (s : List UInt8) (i : Nat) (fv : Value) (L0 : List Chunk) (res : Option (Inl × Nat × Nat)) (Q : PS → Prop) : Prop :=
  ∀ (σ : Out) (R : Ending → World → Prop) (L : List Chunk) (w : World), (∀ c ∈ L0, c ∈ L) → Sat σ w (p.at b :: L) →
    (match res with
      | none => ∀ w p' v x y, p'.core2 = p.core2 → Q p' → Sat σ w (p'.at b :: L) → R (.returned (.tuple #[v, .int .i64 x, .int .i64 y, .bool false])) w
      | some (t, st, en) => ∀ w p' v TM, p'.core2 = p.core2 → Q p' → InlAt t v TM → Sat σ w (p'.at b :: (TM ++ L)) → R (.returned (.tuple #[v, .int .i64 st, .int .i64 en, .bool true])) w) →
    enterE P (do let d ← Deferred.ofValue fv #[.pointer (some ⟨b, 0, none⟩), .string (bs s), .int .i64 i]; invoke d.target d.args) R w
def isFuncB (P : Program) (t : TypeId) : Bool := match P.underlying t with | some (.func _ _ _) => true | _ => false
theorem isFunc_out {P : Program} {t : TypeId} (h : isFuncB P t = true) : ∃ ps rs vr, P.underlying t = some (.func ps rs vr) := by
  unfold isFuncB at h
  split at h
  · rename_i a b c hd; exact ⟨_, _, _, hd⟩
  · cases h
theorem und_pf : isFuncB P ty_func_P_parseState_string_int_I_18a27a = true := by kernel_rfl
theorem neq_pf {x y : Operand} (k : FuncId) (f g : Array Value) (w : World) :
    (do eqGuard .neq ty_func_P_parseState_string_int_I_18a27a x y (.func (.func k) f g) .nilFunc; binOp .neq ty_func_P_parseState_string_int_I_18a27a (.func (.func k) f g) .nilFunc).run P w = .ok (.bool true) w := by
  obtain ⟨_, _, _, h⟩ := isFunc_out und_pf
  exact neq_func_nil h k f g w
theorem neq_pn {x y : Operand} (w : World) :
    (do eqGuard .neq ty_func_P_parseState_string_int_I_18a27a x y .nilFunc .nilFunc; binOp .neq ty_func_P_parseState_string_int_I_18a27a .nilFunc .nilFunc).run P w = .ok (.bool false) w := by
  obtain ⟨_, _, _, h⟩ := isFunc_out und_pf
  exact neq_nil_nil h w
def Inl.isOpen : Inl → Bool
  | .openP _ _ => true
  | _ => false
theorem Inl.ty_open {t : Inl} (h : t.isOpen = false) : t.ty ≠ ty_P_openPlain := by
  cases t <;> simp only [Inl.isOpen, reduceCtorEq] at h <;> (simp only [Inl.ty]; decide)
noncomputable def rowInt : Row P ty_S_int ty_int 1 8 :=
  ⟨(P.info? ty_int).getD default, ((P.info? ty_int).bind (·.zero)).getD default, by kernel_rfl, by kernel_rfl, by kernel_rfl, by kernel_rfl, by kernel_rfl, by kernel_rfl, by decide⟩
theorem fillN (n : Nat) : Instr.fill (fun i => some (i * 1, 1)) ((Array.range (1 * 1)).map (rowInt.z.cells[· % rowInt.z.cells.size]!)) [(0, .int .i64 n)] = some #[.int .i64 n] := by kernel_rfl
/-- A round whose parser answers. -/
theorem inl_leaf {X : XI} {b i e st en : Nat} {p : PS} {ts : List Inl} {opens : List Nat} {oq : Option Addr} {on oc : Nat} {lo : Int} {bk : Bool} {f : FuncId} {fr cp : Array Value} {t : Inl} {L0 : List Chunk} {Q : PS → Prop}
    (h : IIn σ b p ts opens oq on oc L w) (hL0 : ∀ c ∈ L0, c ∈ L) (hf : LeafOK b p p.s i (.func (.func f) fr cp) L0 (some (t, st, en)) Q) (he : p.em = e) (hst : st ≤ p.s.length) (hs : p.s.length < 1000000000) (hn : ts.length < 1000000000) (hon : opens.length < 1000000000)
    (hK : ∀ w p' oq on oc, p'.core = p.core → p'.em = (en : Int) → (∃ p'', Q p'' ∧ p'.bt = p''.bt) → IIn σ b p' (emitM p.s e st ts ++ [t]) (if t.isOpen then opens ++ [(emitM p.s e st ts).length] else opens) oq on oc L w → X (some ⟨b, 0, none⟩) (bs p.s) oq on oc lo bk en w) :
    g_parseState_inline.k1 R X (some ⟨b, 0, none⟩) (bs p.s) oq on oc lo bk i (.func (.func f) fr cp) w := by
  refine ⟨_, _, neq_pf f fr cp w, br_true rfl ?_⟩
  obtain ⟨vs, RM, EM, OM, hS, hI, hO, hlen, h⟩ := h
  have hcl : ∀ c ∈ L0, c ∈ RM ++ (EM ++ (OM ++ L)) := fun c hc => List.mem_append_right _ (List.mem_append_right _ (List.mem_append_right _ (hL0 c hc)))
  refine hf σ _ (RM ++ (EM ++ (OM ++ L))) w hcl h fun w p1 v TM hp1 hq1 ht h => ⟨_, _, _, _, rfl, br_true rfl ?_⟩
  have hc1 := PS.core_of2 hp1
  have e1 : p1.lq = p.lq := by have := congrArg PS.lq hp1; exact this
  have e2 : p1.ln = p.ln := by have := congrArg PS.ln hp1; exact this
  have e3 : p1.lc = p.lc := by have := congrArg PS.lc hp1; exact this
  have e4 : p1.s = p.s := by have := congrArg PS.s hp1; exact this
  have e5 : p1.em = e := by have := congrArg PS.em hp1; rw [← he]; exact this
  have hI1 : IIn σ b p1 ts opens oq on oc (TM ++ L) w := ⟨vs, RM, EM, OM, by rw [e1, e2, e3]; exact hS, hI, hO, hlen, h.re (by intro _; simp only [List.append_eq, cnt_append, cnt_cons, cnt_nil] <;> omega)⟩
  refine emitI_ok hI1 e5 (by rw [e4]; exact hst) (by omega) fun w p2 hp2 hbt he2 h2 => ⟨rfl, ?_⟩
  rw [e4] at h2
  obtain ⟨pb, cs, ee, TM', rfl, rfl⟩ := ht.ptr
  have hc2 : p2.core = p.core := hp2.trans hc1
  have hs2 : p2.s = p.s := by have := congrArg PS.s hc2; exact this
  have elen : (emitM p.s e st ts).length ≤ ts.length + 1 := by unfold emitM; split <;> simp
  -- the inline itself
  have fin : ∀ w oq on oc opens', opens' = (if t.isOpen then opens ++ [(emitM p.s e st ts).length] else opens) → IIn σ b p2 (emitM p.s e st ts) opens' oq on oc (((pb, cel cs ee) :: TM') ++ L) w →
      g_parseState_inline.k4 R X (some ⟨b, 0, none⟩) (bs p.s) oq on oc lo bk (ptrV t.ty pb) en w := by
    intro w oq on oc opens' ho h
    obtain ⟨vs, RM, EM, OM, hS, hI, hO, hlen, h⟩ := h
    have hvl := hI.length
    have hn0 := hS.1
    refine nilP_some ?_
    refine ⟨_, _, _, Sat.ld h (by first | assumption | (repeat (first | exact .head _ | apply List.Mem.tail))) (by exact rfl), ?_⟩
    have h : Sat σ w (RM ++ (p2.at b :: (EM ++ (OM ++ (((pb, cel cs ee) :: TM') ++ L))))) := h.re (by intro _; simp only [List.append_eq, cnt_append, cnt_cons, cnt_nil] <;> omega)
    refine Sat.app1 rowInl hS h (v := ptrV t.ty pb) rfl (by simp [ptrV, Value.cells, Value.oneCell']) (fillI _ _) (by omega) (by omega) (by decide) fun q' c' w' M' hS' h => ?_
    have h : Sat σ w' (p2.at b :: (M' ++ (EM ++ (OM ++ (((pb, cel cs ee) :: TM') ++ L))))) := h.re (by intro _; simp only [List.append_eq, cnt_append, cnt_cons, cnt_nil] <;> omega)
    refine nilP_some ?_
    refine Sat.st h (k := 0) rfl (Nat.le_of_ble_eq_true rfl) trivial (by first | (dsimp only [List.set]; exact rfl) | exact rfl) fun w h => ?_
    let p3 : PS := { p2 with lq := q', ln := p2.ln + 1, lc := c' }
    have h : Sat σ w (p3.at b :: (M' ++ (EM ++ (OM ++ (((pb, cel cs ee) :: TM') ++ L))))) := h
    refine skipTo_ok h fun w h => ⟨rfl, ?_⟩
    refine hK w { p3 with em := en } oq on oc (by rw [← hc2]; rfl) rfl ⟨p1, hq1, hbt⟩ ⟨_, M', EM ++ ((pb, cel cs ee) :: TM'), OM, hS', ?_, by rw [← ho]; exact hO, by simp; omega, h.re (by intro _; simp only [List.append_eq, cnt_append, cnt_cons, cnt_nil] <;> omega)⟩
    exact hI.append (InlsAt.one ht)
  cases hto : t.isOpen with
  | false =>
    refine ⟨_, _, w, ta_open_no (Inl.ty_open hto) w, br_false rfl ?_⟩
    exact fin w oq on oc opens (by rw [hto]; rfl) h2
  | true =>
    have hty : t.ty = ty_P_openPlain := by cases t <;> simp only [Inl.isOpen, reduceCtorEq] at hto; rfl
    have hta : (Instr.typeAssert (ptrV t.ty pb) ty_Inline ty_P_openPlain true).run P w = .ok (.tuple #[.pointer (some ⟨pb, 0, none⟩), .bool true]) w := by
      rw [hty]; exact ta_open_yes w
    refine ⟨_, _, w, hta, br_true rfl ?_⟩
    obtain ⟨vs, RM, EM, OM, hS, hI, hO, hlen, h⟩ := h2
    have hvl := hI.length
    have hn0 := hS.1
    have hol := hO.1
    rw [List.length_map] at hol
    refine nilP_some ?_
    refine ⟨_, _, _, Sat.ld h (by first | assumption | (repeat (first | exact .head _ | apply List.Mem.tail))) (by exact rfl), ?_⟩
    have h : Sat σ w (OM ++ (p2.at b :: (RM ++ (EM ++ (((pb, cel cs ee) :: TM') ++ L))))) := h.re (by intro _; simp only [List.append_eq, cnt_append, cnt_cons, cnt_nil] <;> omega)
    have hln : p2.ln = (emitM p.s e st ts).length := by omega
    rw [hln]
    generalize hm : (emitM p.s e st ts).length = m at fin elen hln ⊢
    refine Sat.app1 rowInt hO h (v := .int .i64 (m : Nat)) rfl (by simp [Value.cells, Value.oneCell']) (fillN m) (by omega) (by omega) (by decide) fun q' c' w' M' hO' h => ?_
    refine fin w' q' _ c' _ (by rw [hto] <;> rfl) ⟨vs, RM, EM, M', hS, hI, ?_, hlen, h.re (by intro _; simp only [List.append_eq, cnt_append, cnt_cons, cnt_nil] <;> omega)⟩
    rw [if_pos rfl, List.map_append]; exact hO'
/-- A round that goes on by a byte: no parser, or one that declines; no bracket to close. -/
theorem inl_k5 {X : XI} {b i : Nat} {s : List UInt8} {oq : Option Addr} {on oc : Nat} {lo : Int} {bk : Bool} (hi : i < s.length) (hs : s.length < 4611686018427387904) (hc : s[i] ≠ 93 ∨ on = 0)
    (hK : X (some ⟨b, 0, none⟩) (bs s) oq on oc lo bk ((i + 1 : Nat) : Int) w) : g_parseState_inline.k5 R X (some ⟨b, 0, none⟩) (bs s) oq on oc lo bk i w := by
  refine ⟨by omega, by simp; omega, ?_⟩
  refine br_false ?_ ?_
  · rw [bt_beq hi 93 93 rfl]
    rcases hc with hc | hc
    · simp [hc]
    · simp [hc]
  · rw [i64_inc (by omega)]; exact hK
theorem inl_none {X : XI} {b i : Nat} {s : List UInt8} {oq : Option Addr} {on oc : Nat} {lo : Int} {bk : Bool} (hK : g_parseState_inline.k5 R X (some ⟨b, 0, none⟩) (bs s) oq on oc lo bk i w) :
    g_parseState_inline.k1 R X (some ⟨b, 0, none⟩) (bs s) oq on oc lo bk i .nilFunc w :=
  ⟨_, _, neq_pn w, br_false rfl hK⟩
theorem inl_decl {X : XI} {b i : Nat} {p : PS} {ts : List Inl} {opens : List Nat} {oq : Option Addr} {on oc : Nat} {lo : Int} {bk : Bool} {f : FuncId} {fr cp : Array Value} {L0 : List Chunk} {Q : PS → Prop}
    (h : IIn σ b p ts opens oq on oc L w) (hL0 : ∀ c ∈ L0, c ∈ L) (hf : LeafOK b p p.s i (.func (.func f) fr cp) L0 none Q)
    (hK : ∀ w p', p'.core2 = p.core2 → Q p' → IIn σ b p' ts opens oq on oc L w → g_parseState_inline.k5 R X (some ⟨b, 0, none⟩) (bs p.s) oq on oc lo bk i w) :
    g_parseState_inline.k1 R X (some ⟨b, 0, none⟩) (bs p.s) oq on oc lo bk i (.func (.func f) fr cp) w := by
  refine ⟨_, _, neq_pf f fr cp w, br_true rfl ?_⟩
  obtain ⟨vs, RM, EM, OM, hS, hI, hO, hlen, h⟩ := h
  have hcl : ∀ c ∈ L0, c ∈ RM ++ (EM ++ (OM ++ L)) := fun c hc => List.mem_append_right _ (List.mem_append_right _ (List.mem_append_right _ (hL0 c hc)))
  refine hf σ _ (RM ++ (EM ++ (OM ++ L))) w hcl h fun w p1 v x y hp1 hq1 h => ⟨_, _, _, _, rfl, br_false rfl ?_⟩
  have e1 : p1.lq = p.lq := by have := congrArg PS.lq hp1; exact this
  have e2 : p1.ln = p.ln := by have := congrArg PS.ln hp1; exact this
  have e3 : p1.lc = p.lc := by have := congrArg PS.lc hp1; exact this
  exact hK w p1 hp1 hq1 ⟨vs, RM, EM, OM, by rw [e1, e2, e3]; exact hS, hI, hO, hlen, h⟩
end Go.Proofs.YtmicoampfglaiaaGreatDoor

/- The end of inline. -/
set_option linter.unusedVariables false
namespace Go.Proofs.YtmicoampfglaiaaGreatDoor
open Go.Proofs Go.IntWalk Go.RowKit
variable {σ : Out} {w : World} {L L' : List Chunk} {R : Ending → World → Prop}
def EmphOK (ts ts' : List Inl) : Prop :=
  ∀ (σ : Out) (R : Ending → World → Prop) (pq q : Option Addr) (n c : Nat) vs RM EM L w, Sl 1 ty_Inline q n c vs RM → InlsAt ts vs EM → n < 1073741823 → Sat σ w (RM ++ (EM ++ L)) →
    (∀ w q' n' c' vs' RM' EM', Sl 1 ty_Inline q' n' c' vs' RM' → n' ≤ n → InlsAt ts' vs' EM' → Sat σ w (RM' ++ (EM' ++ L)) → R (.returned (.slice q' n' c')) w) →
    callE P i_parseState_emph #[.pointer pq, .slice q 0 c, .slice q n c] R w
theorem emphOK_none {ts : List Inl} (hno : ∀ t ∈ ts, t.ty ≠ ty_P_openPlain ∧ t.ty ≠ ty_P_emphPlain) : EmphOK ts ts := by
  intro σ R pq q n c vs RM EM L w hS hI hn h hR
  exact emph_none_ok hS hI hno (by omega) h fun w h => hR w q n c vs RM EM hS (Nat.le_refl _) hI h
theorem autoOff_ok {b pb : Nat} {p : PS} {o : Opt} {q : Option Addr} {n c : Nat} (hpz : p.pz = some ⟨pb, 0, none⟩) (hp : p.at b ∈ L) (ho : o.at pb ∈ L) (hoff : o.auto = false) (h : Sat σ w L) (hR : R (.returned (.slice q n c)) w) :
    callE P i_parseState_autoLinkText #[.pointer (some ⟨b, 0, none⟩), .slice q n c] R w := by
  refine g_parseState_autoLinkText.sound ?_
  refine nilP_some ⟨_, by rw [← hpz]; exact Sat.ld h hp rfl, nilP_some ?_⟩
  simp only [Addr.add_lit, Nat.zero_add]
  exact ⟨o.auto, Sat.ld h ho rfl, br_true (by rw [hoff]; rfl) hR⟩
theorem inl_end {X : XI} {b pb e : Nat} {p : PS} {o : Opt} {ts ts' : List Inl} {opens : List Nat} {oq : Option Addr} {on oc : Nat} {lo : Int} {bk : Bool} (h : IIn σ b p ts opens oq on oc L w) (he : p.em = e) (hs : p.s.length < 1000000000)
    (hn : ts.length < 1000000000) (hpz : p.pz = some ⟨pb, 0, none⟩) (ho : o.at pb ∈ L) (hoff : o.auto = false) (hE : EmphOK (emitM p.s e p.s.length ts) ts') (hpos : ∀ t ∈ ts', ∀ s, t.plain? = some s → s ≠ []) (hb : plen ts' < 1073741824)
    (hR : ∀ w (p' : PS) q n c vs RM EM, p'.core = p.core → Sl 1 ty_Inline q n c vs RM → n < 1073741824 → InlsAt (mergeM ts') vs EM → Sat σ w (p'.at b :: (RM ++ (EM ++ L))) → R (.returned (.slice q n c)) w) :
    g_parseState_inline.bl1 R X (some ⟨b, 0, none⟩) (bs p.s) oq on oc lo bk (p.s.length : Nat) w := by
  have elen : (emitM p.s e p.s.length ts).length ≤ ts.length + 1 := by unfold emitM; split <;> simp
  refine br_false (by simp) ?_
  rw [bs_size]
  refine emitI_ok h he (Nat.le_refl _) (by omega) fun w p1 hp1 _ _ h => ⟨rfl, ?_⟩
  obtain ⟨vs, RM, EM, OM, hS, hI, hO, hlen, h⟩ := h
  have hvl := hI.length
  have hn0 := hS.1
  have hnc := hS.2.1
  have c1 : p1.pz = p.pz := by have := congrArg PS.pz hp1; exact this
  refine Sat.tk h fun w h => ?_
  refine nilP_some (nilP_some ?_)
  refine ⟨_, _, _, Sat.ld h (by first | assumption | (repeat (first | exact .head _ | apply List.Mem.tail))) (by exact rfl), ?_⟩
  refine ⟨_, _, _, fun w => sliceT rowInl.ht rowInl.hi _ _ _ 0 (by omega) w, ?_⟩
  refine ⟨_, _, _, Sat.ld h (by first | assumption | (repeat (first | exact .head _ | apply List.Mem.tail))) (by exact rfl), ?_⟩
  have h : Sat σ w (RM ++ (EM ++ (p1.at b :: (OM ++ L)))) := h.re (by intro _; simp only [List.append_eq, cnt_append, cnt_cons, cnt_nil] <;> omega)
  refine hE σ _ _ p1.lq p1.ln p1.lc vs RM EM _ w hS hI (by omega) h fun w q' n' c' vs' RM' EM' hS' hnn hI' h => ⟨_, _, _, rfl, nilP_some ?_⟩
  have h : Sat σ w (p1.at b :: (RM' ++ (EM' ++ (OM ++ L)))) := h.re (by intro _; simp only [List.append_eq, cnt_append, cnt_cons, cnt_nil] <;> omega)
  refine Sat.st h (k := 0) rfl (Nat.le_of_ble_eq_true rfl) trivial (by first | (dsimp only [List.set]; exact rfl) | exact rfl) fun w h => ?_
  let p2 : PS := { p1 with lq := q', ln := n', lc := c' }
  have h : Sat σ w (p2.at b :: (RM' ++ (EM' ++ (OM ++ L)))) := h
  refine nilP_some ?_
  refine ⟨_, _, _, Sat.ld h (by first | assumption | (repeat (first | exact .head _ | apply List.Mem.tail))) (by exact rfl), ?_⟩
  have h : Sat σ w (RM' ++ (EM' ++ (p2.at b :: (OM ++ L)))) := h.re (by intro _; simp only [List.append_eq, cnt_append, cnt_cons, cnt_nil] <;> omega)
  refine mergePlain_ok (n := n') hS' hI' hpos hb (by omega) h fun w n2 vs2 RM2 EM2 hS2 hn2 hI2 h => ⟨_, _, _, rfl, nilP_some ?_⟩
  have h : Sat σ w (p2.at b :: (RM2 ++ (EM2 ++ (OM ++ L)))) := h.re (by intro _; simp only [List.append_eq, cnt_append, cnt_cons, cnt_nil] <;> omega)
  refine Sat.st h (k := 0) rfl (Nat.le_of_ble_eq_true rfl) trivial (by first | (dsimp only [List.set]; exact rfl) | exact rfl) fun w h => ?_
  let p3 : PS := { p1 with lq := q', ln := n2, lc := c' }
  have h : Sat σ w (p3.at b :: (RM2 ++ (EM2 ++ (OM ++ L)))) := h
  refine nilP_some ?_
  refine ⟨_, _, _, Sat.ld h (by first | assumption | (repeat (first | exact .head _ | apply List.Mem.tail))) (by exact rfl), ?_⟩
  refine autoOff_ok (p := p3) (by rw [← hpz, ← c1]) (.head _) (.tail _ (List.mem_append_right _ (List.mem_append_right _ (List.mem_append_right _ ho)))) hoff h ⟨_, _, _, rfl, nilP_some ?_⟩
  refine Sat.st h (k := 0) rfl (Nat.le_of_ble_eq_true rfl) trivial (by first | (dsimp only [List.set]; exact rfl) | exact rfl) fun w h => ?_
  refine nilP_some ?_
  refine ⟨_, _, _, Sat.ld h (by first | assumption | (repeat (first | exact .head _ | apply List.Mem.tail))) (by exact rfl), ?_⟩
  have h : Sat σ w (p3.at b :: (RM2 ++ (EM2 ++ (OM ++ L)))) := h
  exact hR w p3 q' n2 c' vs2 RM2 EM2 (by rw [← hp1]; rfl) hS2 (by omega) hI2 (h.less OM (by intro _; simp only [List.append_eq, cnt_append, cnt_cons, cnt_nil] <;> omega))
/-- The beginning of inline. -/
theorem inl_begin {b : Nat} {p : PS} {raw : List UInt8} (h : Sat σ w (p.at b :: L)) (hl : raw.length < 4611686018427387904)
    (hK : ∀ w, IIn σ b { p with s := trimLR isST raw, em := 0, lq := none, ln := 0, lc := 0 } [] [] none 0 0 L w → g_parseState_inline.l1 R (some ⟨b, 0, none⟩) (bs (trimLR isST raw)) none 0 0 0 false 0 w) :
    callE P i_parseState_inline #[.pointer (some ⟨b, 0, none⟩), .string (bs raw)] R w := by
  refine g_parseState_inline.sound ?_
  refine trimSpaceTab_ok hl ⟨_, rfl, nilP_some ?_⟩
  refine Sat.st h (k := 0) rfl (Nat.le_of_ble_eq_true rfl) trivial (by first | (dsimp only [List.set]; exact rfl) | exact rfl) fun w h => ?_
  refine nilP_some ?_
  refine Sat.st h (k := 0) rfl (Nat.le_of_ble_eq_true rfl) trivial (by first | (dsimp only [List.set]; exact rfl) | exact rfl) fun w h => ?_
  refine nilP_some ?_
  refine Sat.st h (k := 0) rfl (Nat.le_of_ble_eq_true rfl) trivial (by first | (dsimp only [List.set]; exact rfl) | exact rfl) fun w h => ?_
  exact hK w ⟨[], [], [], [], Sl.nil _ _, ⟨rfl, rfl⟩, Sl.nil _ _, by simp, h⟩
end Go.Proofs.YtmicoampfglaiaaGreatDoor

/- A line that begins with a byte that no block but a paragraph begins with. -/
set_option linter.unusedVariables false
namespace Go.Proofs.YtmicoampfglaiaaGreatDoor
open Go.Proofs Go.IntWalk
variable {σ : Out} {w : World} {L L' : List Chunk} {R : Ending → World → Prop}
def lnOf (s : List UInt8) (nl : UInt8 := 0) : Ln := ⟨0, 0, 0, s, nl⟩
/-- A byte with which a line begins that no block but a paragraph begins with (signs < and the marks of lists left aside). -/
def plainStart0 (c : UInt8) : Bool := !(isST c || c == 62 || c == 35 || c == 95 || c == 96 || c == 126 || c == 61 || c == 45 || c == 42)
def plainStart (c : UInt8) : Bool := plainStart0 c && c != 60 && !isBullet c
theorem tsGo_first {c nl : UInt8} {s : List UInt8} (hc : isST c = false) (mn k n : Nat) (e : Bool) : (lnOf (c :: s) nl).tsGo mn e (k + 1) n = if mn ≤ n then some (lnOf (c :: s) nl) else none := by
  simp only [isST, Bool.or_eq_false_iff, beq_eq_false_iff_ne, ne_eq] at hc
  simp [Ln.tsGo, lnOf, hc.1, hc.2]
theorem lnOf_ok {nl : UInt8} {s : List UInt8} (hs : s.length < 1000000000) : (lnOf s nl).ok := ⟨by simp [lnOf], by simp [lnOf], by simp [lnOf]; omega, by simp [lnOf]⟩
theorem lead_first {c nl : UInt8} {s : List UInt8} (hc : isST c = false) (e : Bool) : (lnOf (c :: s) nl).lead 3 e = lnOf (c :: s) nl := by
  unfold Ln.lead Ln.trimSp; rw [tsGo_first hc]; rfl
theorem strip_first {c nl : UInt8} {s : List UInt8} (hc : isST c = false) : (lnOf (c :: s) nl).strip 3 0 = (0, lnOf (c :: s) nl) := by
  simp only [Ln.strip, Ln.trimSp]; rw [tsGo_first hc]; rfl
theorem plainStart0_st {c : UInt8} (hc : plainStart0 c = true) : isST c = false := by
  simp only [plainStart0, Bool.not_eq_true', Bool.or_eq_false_iff] at hc
  exact hc.1.1.1.1.1.1.1.1
theorem plain_firstX {c nl : UInt8} {s : List UInt8} (hc : plainStart0 c = true) (hs : s.length < 1000000) (hB : LDecl (lnOf (c :: s) nl)) (hH : HDecl (lnOf (c :: s) nl)) : (lnOf (c :: s) nl).plain := by
  simp only [plainStart0, Bool.not_eq_true', Bool.or_eq_false_iff, beq_eq_false_iff_ne, ne_eq] at hc
  obtain ⟨⟨⟨⟨⟨⟨⟨⟨hst, h62⟩, h35⟩, h95⟩, h96⟩, h126⟩, h61⟩, h45⟩, h42⟩ := hc
  have hlead : ∀ e, (lnOf (c :: s) nl).lead 3 e = lnOf (c :: s) nl := lead_first hst
  have hstrip : (lnOf (c :: s) nl).strip 3 0 = (0, lnOf (c :: s) nl) := strip_first hst
  have hpeek : (lnOf (c :: s) nl).peek = c := rfl
  have htc : ∀ d : UInt8, c ≠ d → (lnOf (c :: s) nl).trimC d = none := by
    intro d hd
    simp [Ln.trimC, lnOf, hd]
  refine ⟨lnOf_ok (by simp; omega), ?_, ?_, ?_, ?_, hB, hH, ?_, ?_⟩
  · show (c :: s).all isST = false
    rw [List.all_cons, hst]; rfl
  · unfold Ln.quote; rw [hlead, htc 62 h62]; rfl
  · unfold Ln.heading; rw [hlead, htc 35 h35]
  · unfold Ln.isHR
    simp only [hlead, hpeek]
    rw [if_neg]
    rintro (h | h | h)
    · exact h45 h
    · exact h95 h
    · exact h42 h
  · rw [hstrip]; exact ⟨h96, h126⟩
  · unfold Ln.trimSp; rw [tsGo_first hst]; rfl
theorem plain_first {c nl : UInt8} {s : List UInt8} (hc : plainStart c = true) (hs : s.length < 1000000) : (lnOf (c :: s) nl).plain := by
  simp only [plainStart, Bool.and_eq_true, Bool.not_eq_true', bne_iff_ne, ne_eq] at hc
  obtain ⟨⟨h0, h60⟩, hbu⟩ := hc
  have hst := plainStart0_st h0
  have hok : (lnOf (c :: s) nl).ok := lnOf_ok (by simp; omega)
  exact plain_firstX h0 hs (LDecl.of_peek hok (by rw [strip_first hst]; exact hbu)) (HDecl.of_peek hok (by rw [lead_first hst]; exact h60))
/-! ### Lines that begin with digits, but are no items of lists -/
def digB (c : UInt8) : Bool := decide (48 ≤ c.toNat) && decide (c.toNat ≤ 57)
/-- Behind the digits that begin the text there is no mark of a list. -/
def numNo (s : List UInt8) : Prop := (s.dropWhile digB).head? ≠ some 46 ∧ (s.dropWhile digB).head? ≠ some 41
theorem startListItem_num {b : Nat} {q : Option Addr} {c nl : UInt8} {s : List UInt8} (h : Sat σ w ((lnOf (c :: s) nl).at b :: L)) (hl : s.length < 1000000) (hc : digB c = true) (hn : numNo (c :: s))
    (hR : ∀ w, Sat σ w ((lnOf (c :: s) nl).at b :: L) → R (.returned (.bool false)) w) : callE P i_parseState_startListItem #[.pointer q, .pointer (some ⟨b, 0, none⟩)] R w := by
  have hcd := hc
  simp only [digB, Bool.and_eq_true, decide_eq_true_eq] at hcd
  have hst : isST c = false := by
    simp only [isST, Bool.or_eq_false_iff, beq_eq_false_iff_ne, ne_eq]
    constructor <;> (rintro rfl; revert hcd; decide)
  have hlok : (lnOf (c :: s) nl).ok := lnOf_ok (by simp; omega)
  refine g_parseState_startListItem.sound ?_
  refine Sat.bx h fun b1 w h => ?_
  repeat (first | refine nilP_some ?_ | refine Sat.tk h fun w h => ?_ | refine ⟨_, Sat.ld h (by first | assumption | (repeat (first | exact .head _ | apply List.Mem.tail))) (by exact rfl), ?_⟩ | refine ⟨_, _, _, Sat.ld h (by first | assumption | (repeat (first | exact .head _ | apply List.Mem.tail))) (by exact rfl), ?_⟩ | refine Sat.st h (k := 0) rfl (Nat.le_of_ble_eq_true rfl) trivial (by first | (dsimp only [List.set]; exact rfl) | exact rfl) fun w h => ?_ | refine Sat.st h (k := 1) rfl (Nat.le_of_ble_eq_true rfl) trivial (by first | (dsimp only [List.set]; exact rfl) | exact rfl) fun w h => ?_ | refine Sat.st h (k := 2) rfl (Nat.le_of_ble_eq_true rfl) trivial (by first | (dsimp only [List.set]; exact rfl) | exact rfl) fun w h => ?_ | refine Sat.st h (k := 3) rfl (Nat.le_of_ble_eq_true rfl) trivial (by first | (dsimp only [List.set]; exact rfl) | exact rfl) fun w h => ?_ | refine Sat.st h (k := 4) rfl (Nat.le_of_ble_eq_true rfl) trivial (by first | (dsimp only [List.set]; exact rfl) | exact rfl) fun w h => ?_ | refine Sat.st h (k := 5) rfl (Nat.le_of_ble_eq_true rfl) trivial (by first | (dsimp only [List.set]; exact rfl) | exact rfl) fun w h => ?_ | refine Sat.st h (k := 6) rfl (Nat.le_of_ble_eq_true rfl) trivial (by first | (dsimp only [List.set]; exact rfl) | exact rfl) fun w h => ?_ | refine Sat.bx h fun b0 w h => ?_)
  have h : Sat σ _ ((lnOf (c :: s) nl).at b0 :: (b1, cel [.pointer q] ty_P_parseState) :: (lnOf (c :: s) nl).at b :: L) := h
  intro X hX
  refine hX _ _ _ _ _ (br_true (by simp) ?_)
  refine YtmicoampfglaiaaGreatDoor.trimSp_ok (min := 1) (max := 1) h hlok (by decide) (by decide) ?_
  have hts : (lnOf (c :: s) nl).trimSp 1 1 false = none := by unfold Ln.trimSp; rw [tsGo_first hst]; rfl
  rw [hts]
  intro w h
  refine ⟨_, rfl, br_true rfl ?_⟩
  refine peek_ok h (by first | assumption | (repeat (first | exact .head _ | apply List.Mem.tail))) hlok fun w h => ⟨_, rfl, ?_⟩
  rw [show (lnOf (c :: s) nl).peek = c from rfl]
  have ne : ∀ (d : UInt8) (n : Int), (d.toNat : Int) = n → (d.toNat < 48 ∨ 57 < d.toNat) → (((c.toNat : Nat) : Int) == n) = false := by
    intro d n hd hn
    refine beqf hd ?_
    rintro rfl; omega
  have k4 : g_parseState_startListItem.k4 R b1 b0 0 0 true w := by
    refine br_true rfl ?_
    refine ⟨_, Sat.ld h (by first | assumption | (repeat (first | exact .head _ | apply List.Mem.tail))) (by exact rfl), ?_⟩
    intro Y hY
    have key : ∀ k j v w, j + k = (c :: s).length → (∀ m, m < j → digB ((c :: s).getD m 0) = true) → Sat σ w ((lnOf (c :: s) nl).at b0 :: (b1, cel [.pointer q] ty_P_parseState) :: (lnOf (c :: s) nl).at b :: L) → Y b1 b0 0 v (j : Int) w := by
      intro k
      induction k with
      | zero =>
        intro j v w hj hall h
        refine hY _ _ _ _ _ _ ?_
        refine ⟨_, Sat.ld h (by first | assumption | (repeat (first | exact .head _ | apply List.Mem.tail))) (by exact rfl), ?_⟩
        exact br_true (by simp [lnOf] at hj ⊢; omega) (hR _ h.tail.tail)
      | succ k ih =>
        intro j v w hj hall h
        refine hY _ _ _ _ _ _ ?_
        refine ⟨_, Sat.ld h (by first | assumption | (repeat (first | exact .head _ | apply List.Mem.tail))) (by exact rfl), ?_⟩
        refine br_false (by simp [lnOf] at hj ⊢; omega) ?_
        refine ⟨_, Sat.ld h (by first | assumption | (repeat (first | exact .head _ | apply List.Mem.tail))) (by exact rfl), ?_⟩
        refine ⟨by omega, by simp [lnOf] at hj ⊢; omega, ?_⟩
        rw [show ((lnOf (c :: s) nl).text) = c :: s from rfl]
        have hjl : j < (c :: s).length := by omega
        rw [bs_bt]
        have hdw : (c :: s).dropWhile digB = ((c :: s).drop j).dropWhile digB := by
          have : ∀ (m : Nat) (l : List UInt8), m ≤ l.length → (∀ i, i < m → digB (l.getD i 0) = true) → l.dropWhile digB = (l.drop m).dropWhile digB := by
            intro m
            induction m with
            | zero => intro l _ _; rfl
            | succ m ihm =>
              intro l hl ha
              cases l with
              | nil => simp at hl
              | cons x l =>
                have h0 : digB x = true := ha 0 (by omega)
                rw [List.dropWhile_cons_of_pos h0, List.drop_succ_cons]
                exact ihm l (by simpa using hl) (fun i hi => ha (i + 1) (by omega))
          exact this j _ (by omega) hall
        have hget : (c :: s).getD j 0 = (c :: s)[j] := by rw [List.getD_eq_getElem?_getD, List.getElem?_eq_getElem hjl]; rfl
        rw [hget]
        generalize hd : (c :: s)[j] = d at *
        by_cases hdig : digB d = true
        · have hd' := hdig
          simp only [digB, Bool.and_eq_true, decide_eq_true_eq] at hd'
          refine br_false ?_ (br_false (by simp; omega) ?_)
          · have a1 := u8b d 46 46 rfl
            have a2 := u8b d 41 41 rfl
            rw [a1, a2]
            have b1 : d ≠ 46 := by rintro rfl; revert hd'; decide
            have b2 : d ≠ 41 := by rintro rfl; revert hd'; decide
            simp [b1, b2]
          unfold g_parseState_startListItem.k9
          refine ⟨_, Sat.ld h (by first | assumption | (repeat (first | exact .head _ | apply List.Mem.tail))) (by exact rfl), ?_⟩
          refine br_split (fun _ => hR _ h.tail.tail) fun _ => ?_
          rw [i64_inc (by simp at hjl; omega)]
          refine ih (j + 1) _ w (by omega) ?_ h
          intro m hm
          rcases Nat.lt_or_ge m j with h1 | h1
          · exact hall m h1
          · obtain rfl : m = j := by omega
            rw [hget]; exact hdig
        · have hdf : digB d = false := by simpa using hdig
          have hh : ((c :: s).dropWhile digB).head? = some d := by
            rw [hdw, List.drop_eq_getElem_cons hjl, hd, List.dropWhile_cons_of_neg (by simp [hdf])]; rfl
          have n1 := hn.1; have n2 := hn.2
          rw [hh] at n1 n2
          refine br_false ?_ (br_true ?_ (hR _ h.tail.tail))
          · have a1 := u8b d 46 46 rfl
            have a2 := u8b d 41 41 rfl
            rw [a1, a2]
            have b1 : d ≠ 46 := fun h => n1 (by rw [h])
            have b2 : d ≠ 41 := fun h => n2 (by rw [h])
            simp [b1, b2]
          · simp only [digB, Bool.and_eq_false_iff, decide_eq_false_iff_not] at hdf
            simp; omega
    exact key (c :: s).length 0 0 w (by simp) (fun m hm => by omega) h
  refine br_false (ne 45 45 rfl (by decide)) (br_false (ne 42 42 rfl (by decide)) ?_)
  rw [ne 43 43 rfl (by decide)]
  refine br_false rfl ?_
  have hcn : c.toNat = 48 ∨ c.toNat = 49 ∨ c.toNat = 50 ∨ c.toNat = 51 ∨ c.toNat = 52 ∨ c.toNat = 53 ∨ c.toNat = 54 ∨ c.toNat = 55 ∨ c.toNat = 56 ∨ c.toNat = 57 := by omega
  rcases hcn with e | e | e | e | e | e | e | e | e | e <;> rw [e]
  · exact br_true rfl k4
  · exact br_false rfl (br_true rfl k4)
  · exact br_false rfl (br_false rfl (br_true rfl k4))
  · exact br_false rfl (br_false rfl (br_false rfl (br_true rfl k4)))
  · exact br_false rfl (br_false rfl (br_false rfl (br_false rfl (br_true rfl k4))))
  · exact br_false rfl (br_false rfl (br_false rfl (br_false rfl (br_false rfl (br_true rfl k4)))))
  · exact br_false rfl (br_false rfl (br_false rfl (br_false rfl (br_false rfl (br_false rfl (br_true rfl k4))))))
  · exact br_false rfl (br_false rfl (br_false rfl (br_false rfl (br_false rfl (br_false rfl (br_false rfl (br_true rfl k4)))))))
  · exact br_false rfl (br_false rfl (br_false rfl (br_false rfl (br_false rfl (br_false rfl (br_false rfl (br_false rfl (br_true rfl k4))))))))
  · exact br_false rfl (br_false rfl (br_false rfl (br_false rfl (br_false rfl (br_false rfl (br_false rfl (br_false rfl (br_false rfl (by exact k4)))))))))
theorem LDecl.num {c nl : UInt8} {s : List UInt8} (hl : s.length < 1000000) (hc : digB c = true) (hn : numNo (c :: s)) : LDecl (lnOf (c :: s) nl) := by
  intro b d p ob o M t v hs hd ho hb ht σ w L R h hR
  refine g_newListItem.sound ?_
  refine Sat.bx h fun b1 w h => ?_
  refine Sat.bx h fun b3 w h => ?_
  have h : Sat σ w (zLn b3 :: (lnOf (c :: s) nl).at b1 :: (p.at b :: M ++ L)) := h
  have h : Sat σ w (p.at b :: M ++ (zLn b3 :: (lnOf (c :: s) nl).at b1 :: L)) := h.re (by intro _; simp only [List.append_eq, cnt_append, cnt_cons, cnt_nil] <;> omega)
  refine curB_ok h hs hd fun w h => ?_
  rw [ho]
  dsimp only
  refine ⟨_, rfl, none, false, w, by rw [hb]; exact ta_listBuilder_no ht w, br_false rfl (br_false rfl ?_)⟩
  have h : Sat σ w ((lnOf (c :: s) nl).at b1 :: zLn b3 :: p.at b :: M ++ L) := h.re (by intro _; simp only [List.append_eq, cnt_append, cnt_cons, cnt_nil] <;> omega)
  refine startListItem_num h hl hc hn fun w h => ⟨_, rfl, br_false rfl ?_⟩
  repeat (first | refine nilP_some ?_ | refine Sat.tk h fun w h => ?_ | refine ⟨_, Sat.ld h (by first | assumption | (repeat (first | exact .head _ | apply List.Mem.tail))) (by exact rfl), ?_⟩ | refine ⟨_, _, _, Sat.ld h (by first | assumption | (repeat (first | exact .head _ | apply List.Mem.tail))) (by exact rfl), ?_⟩ | refine Sat.st h (k := 0) rfl (Nat.le_of_ble_eq_true rfl) trivial (by first | (dsimp only [List.set]; exact rfl) | exact rfl) fun w h => ?_ | refine Sat.st h (k := 1) rfl (Nat.le_of_ble_eq_true rfl) trivial (by first | (dsimp only [List.set]; exact rfl) | exact rfl) fun w h => ?_ | refine Sat.st h (k := 2) rfl (Nat.le_of_ble_eq_true rfl) trivial (by first | (dsimp only [List.set]; exact rfl) | exact rfl) fun w h => ?_ | refine Sat.st h (k := 3) rfl (Nat.le_of_ble_eq_true rfl) trivial (by first | (dsimp only [List.set]; exact rfl) | exact rfl) fun w h => ?_ | refine Sat.st h (k := 4) rfl (Nat.le_of_ble_eq_true rfl) trivial (by first | (dsimp only [List.set]; exact rfl) | exact rfl) fun w h => ?_ | refine Sat.st h (k := 5) rfl (Nat.le_of_ble_eq_true rfl) trivial (by first | (dsimp only [List.set]; exact rfl) | exact rfl) fun w h => ?_ | refine Sat.st h (k := 6) rfl (Nat.le_of_ble_eq_true rfl) trivial (by first | (dsimp only [List.set]; exact rfl) | exact rfl) fun w h => ?_ | refine Sat.bx h fun b0 w h => ?_)
  exact hR _ h.tail.tail
theorem plain_digit {c nl : UInt8} {s : List UInt8} (hl : s.length < 1000000) (hc : digB c = true) (hn : numNo (c :: s)) : (lnOf (c :: s) nl).plain := by
  have hcd := hc
  simp only [digB, Bool.and_eq_true, decide_eq_true_eq] at hcd
  have ne : ∀ d : UInt8, (d.toNat < 48 ∨ 57 < d.toNat) → c ≠ d := by rintro d hd rfl; omega
  have hp : plainStart0 c = true := by
    simp only [plainStart0, isST, Bool.not_eq_true', Bool.or_eq_false_iff, beq_eq_false_iff_ne, ne_eq]
    refine ⟨⟨⟨⟨⟨⟨⟨⟨⟨?_, ?_⟩, ?_⟩, ?_⟩, ?_⟩, ?_⟩, ?_⟩, ?_⟩, ?_⟩, ?_⟩ <;> exact ne _ (by decide)
  have hst := plainStart0_st hp
  exact plain_firstX hp hl (LDecl.num hl hc hn) (HDecl.of_peek (lnOf_ok (by simp; omega)) (by rw [lead_first hst]; exact ne 60 (by decide)))
end Go.Proofs.YtmicoampfglaiaaGreatDoor

/- A document of one line that is a paragraph: parse and print. -/
set_option linter.unusedVariables false
namespace Go.Proofs.YtmicoampfglaiaaGreatDoor
open Go.Proofs Go.IntWalk Go.RowKit
variable {σ : Out} {w : World} {L L' : List Chunk} {R : Ending → World → Prop}
def PS.coreS (p : PS) : PS := ({ p with s := [] } : PS).core
/-- The inlines of the text s print themselves by f. -/
def InlineOK (op : Opt) (s : List UInt8) (f : List UInt8 → List UInt8) : Prop :=
  ∀ (σ : Out) (R : Ending → World → Prop) (b pb : Nat) (p : PS) (L : List Chunk) (w : World), Sat σ w (p.at b :: L) → p.pz = some ⟨pb, 0, none⟩ → op.at pb ∈ L → p.links = none →
    (∀ w (p' : PS) q n c vs RM KM KM', p'.coreS = p.coreS → Sl 1 ty_Inline q n c vs RM → n < 1073741824 → PrintsL "PrintHTML" vs KM KM' f → Sat σ w (p'.at b :: (RM ++ (KM ++ L))) → R (.returned (.slice q n c)) w) →
    callE P i_parseState_inline #[.pointer (some ⟨b, 0, none⟩), .string (bs s)] R w
def PS0 (pz : Option Addr) : PS := ⟨pz, none, none, 0, none, 0, 0, 0, false, [], 0, none, 0, 0, none, 0, 0, none, 0, 0, List.replicate 80 (.int .i64 0) ++ [.bool false]⟩
theorem parseLine_ok {pb : Nat} {op : Opt} {raw : List UInt8} {f : List UInt8 → List UInt8} (h : Sat σ w L) (ho : op.at pb ∈ L) (hp : (lnOf raw).plain) (hlen : raw.length < 1000000) (h0 : idx raw [0] = none) (h10 : idx raw [10] = none) (h13 : idx raw [13] = none)
    (hne : raw.dropWhile isST ≠ []) (hb : ((raw.dropWhile isST).dropWhile isSTN).head? ≠ some 91) (hI : InlineOK op (raw.dropWhile isST) f)
    (hR : ∀ w db k DM DM', Prints "PrintHTML" (.iface ty_P_Document (.pointer (some ⟨db, 0, none⟩))) DM DM' (fun l => f (l ++ pOpen) ++ pClose) → Sat σ w (DM ++ L) → R (.returned (.tuple #[.pointer (some ⟨db, 0, none⟩), .bool k])) w) :
    callE P i_Parser_parse #[.pointer (some ⟨pb, 0, none⟩), .string (bs raw)] R w := by
  have hrl : raw ≠ [] := by intro h; subst h; exact hne rfl
  refine g_Parser_parse.sound ?_
  refine Sat.bx h fun b w h => ?_
  refine Sat.st h (k := 0) rfl (Nat.le_of_ble_eq_true rfl) trivial (by first | (dsimp only [List.set]; exact rfl) | exact rfl) fun w h => ?_
  have h : Sat σ w ((PS0 (some ⟨pb, 0, none⟩)).at b :: L) := h
  refine zzContains_ok (sub := [0]) (by omega) (by decide) ⟨_, rfl, ?_⟩
  rw [h0]
  refine br_false rfl ?_
  refine Sat.st h (k := 0) rfl (Nat.le_of_ble_eq_true rfl) trivial (by first | (dsimp only [List.set]; exact rfl) | exact rfl) fun w h => ?_
  refine Sat.bx h fun rb w h => ?_
  let p0 : PS := { PS0 (some ⟨pb, 0, none⟩) with depth := -1 }
  have h : Sat σ w (p0.at b :: [] ++ ((rb, cel [] ty_rootBuilder) :: L)) := h.up1
  have hstk : Stk p0 [] [] := ⟨Sl.nil 4 ty_openBlock, rfl, by simp⟩
  refine addBlock_ok h hstk rfl (by decide) fun w p1 M hp1 hs1 h => ⟨rfl, ?_⟩
  intro X hX
  refine hX _ _ _ _ (br_true (by rw [bs_toList]; simpa using hrl) ?_)
  refine zzIndex_ok (sub := [10]) (by omega) (by decide) ⟨_, rfl, ?_⟩
  refine zzIndex_ok (sub := [13]) (by omega) (by decide) ⟨_, rfl, ?_⟩
  have e10 : idxInt raw [10] = -1 := by unfold idxInt; rw [h10]
  have e13 : idxInt raw [13] = -1 := by unfold idxInt; rw [h13]
  rw [e10, e13]
  refine br_false rfl (br_false rfl ?_)
  have e1 : p1 = { p0 with stq := p1.stq, stn := 1, stc := p1.stc } := hp1
  have hl1 : p1.lineno = 0 := by rw [e1]; rfl
  refine ⟨_, Sat.ld h (.head _) rfl, ?_⟩
  refine Sat.st h (k := 0) rfl (Nat.le_of_ble_eq_true rfl) trivial (by first | (dsimp only [List.set]; exact rfl) | exact rfl) fun w h => ?_
  rw [hl1] at h
  let p2 : PS := { p1 with lineno := 1 }
  have h : Sat σ w (p2.at b :: M ++ ((rb, cel [] ty_rootBuilder) :: L)) := h
  have hs2 : Stk p2 [⟨.iface ty_P_rootBuilder (.pointer (some ⟨rb, 0, none⟩)), none, 0, 0, 0, 0⟩] M := by
    have := Stk.of (p' := p2) hs1 rfl rfl rfl
    rw [List.nil_append] at this
    exact this
  have hpz2 : p2.pz = some ⟨pb, 0, none⟩ := by show p1.pz = _; rw [e1]; rfl
  refine addLine_para (l := lnOf raw) h hs2 hpz2 (.tail _ ho) rfl (by decide) (by decide) hp fun w p3 M3 qb PM hp3 hs3 hPM h => ⟨rfl, ?_⟩
  refine hX _ _ _ _ (br_false (by rw [mk_toList]; rfl) ?_)
  have hpz3 : p3.pz = some ⟨pb, 0, none⟩ := by rw [hp3]; exact hpz2
  have htx : Txts p3 [] [] := by
    have : p3.tq = none ∧ p3.tn = 0 ∧ p3.tc = 0 := by rw [hp3]; show p1.tq = none ∧ p1.tn = 0 ∧ p1.tc = 0; rw [e1]; exact ⟨rfl, rfl, rfl⟩
    obtain ⟨a, b, c⟩ := this
    unfold Txts
    rw [a, b, c]
    exact ⟨Sl.nil 1 ty_P_Text, rfl, by simp⟩
  have hlk : p3.links = none := by rw [hp3]; show p1.links = none; rw [e1]; rfl
  have hdw : ((lnOf raw).text.drop (lnOf raw).i).dropWhile isST = raw.dropWhile isST := rfl
  rw [hdw] at hPM
  have hsl : (raw.dropWhile isST).length ≤ raw.length := (List.dropWhile_sublist isST).length_le
  have h : Sat σ w (p3.at b :: M3 ++ ([] ++ (PM ++ ((rb, cel [] ty_rootBuilder) :: L)))) := h
  refine finish_ok h hs3 rfl ⟨rfl, rfl, rfl⟩ rfl htx hPM (by omega) hne hb (by show (1 : Nat) < _; decide) fun w p4 TM IM t nb db q c hp4 ht4 hIM h => ⟨rfl, ?_⟩
  refine ⟨_, _, _, Sat.ld h (.head _) rfl, ?_⟩
  have htn : p4.tn = 1 := by rw [hp4]
  have hpz4 : p4.pz = some ⟨pb, 0, none⟩ := by rw [hp4]; exact hpz3
  intro Y hY
  obtain ⟨tb, tsp, htq, htm⟩ := ht4.1.rowAt (by rw [htn]; decide)
  refine hY _ _ _ _ _ _ _ _ (br_true (by rw [htn]; rfl) ⟨by decide, by rw [htn]; decide, ?_⟩)
  rw [htq]
  refine nilP_some ?_
  subst htm
  simp only [Addr.add_lit, Int.toNat_zero, Nat.zero_mul, Nat.add_zero]
  refine ⟨_, Sat.ld h (.tail _ (List.mem_append_left _ (.head _))) rfl, nilP_some ?_⟩
  simp only [Addr.add_lit, Nat.zero_add]
  have h : Sat σ w (p4.at b :: ([(tb, cel ([t].map (fun t => Value.pointer (some ⟨t, 0, none⟩)) ++ tsp) ty_P_Text)] ++ (docC db 0 0 q 1 c p3.links :: (IM ++ (paraC nb 1 1 t :: textC t 1 1 none 0 0 (raw.dropWhile isST) :: ((rb, cel [] ty_rootBuilder) :: L)))))) := h
  have h : Sat σ w (p4.at b :: (textC t 1 1 none 0 0 (raw.dropWhile isST) :: (tb, cel ([t].map (fun t => Value.pointer (some ⟨t, 0, none⟩)) ++ tsp) ty_P_Text) :: (docC db 0 0 q 1 c p3.links :: (IM ++ (paraC nb 1 1 t :: ((rb, cel [] ty_rootBuilder) :: L)))))) := h.re (by intro _; simp only [List.append_eq, cnt_append, cnt_cons, cnt_nil] <;> omega)
  refine ⟨_, Sat.ld h (.tail _ (.head _)) rfl, ?_⟩
  refine hI σ _ b pb p4 _ w h hpz4 (by simp [ho]) (by rw [hp4]; exact hlk) fun w p5 q5 n5 c5 vs RM KM KM' hp5 hS5 hn5 hP5 h => ⟨_, _, _, rfl, nilP_some ?_⟩
  have h : Sat σ w (textC t 1 1 none 0 0 (raw.dropWhile isST) :: (p5.at b :: (RM ++ (KM ++ ((tb, cel ([t].map (fun t => Value.pointer (some ⟨t, 0, none⟩)) ++ tsp) ty_P_Text) :: (docC db 0 0 q 1 c p3.links :: (IM ++ (paraC nb 1 1 t :: ((rb, cel [] ty_rootBuilder) :: L))))))))) := h.re (by intro _; simp only [List.append_eq, cnt_append, cnt_cons, cnt_nil] <;> omega)
  refine Sat.st h (k := 0) rfl (Nat.le_of_ble_eq_true rfl) trivial (by first | (dsimp only [List.set]; exact rfl) | exact rfl) fun w h => ?_
  have h : Sat σ w (textC t 1 1 q5 n5 c5 (raw.dropWhile isST) :: (p5.at b :: (RM ++ (KM ++ ((tb, cel ([t].map (fun t => Value.pointer (some ⟨t, 0, none⟩)) ++ tsp) ty_P_Text) :: (docC db 0 0 q 1 c p3.links :: (IM ++ (paraC nb 1 1 t :: ((rb, cel [] ty_rootBuilder) :: L))))))))) := h
  refine hY _ _ _ _ _ _ _ _ (br_false (by rw [htn]; rfl) (nilP_some ?_))
  simp only [Addr.add_lit, Nat.zero_add]
  have hroot : p5.root = some ⟨db, 0, none⟩ := by have := congrArg PS.root hp5; rw [show p5.root = p4.root from this, hp4]
  have hLL : p5.Lq = none ∧ p5.Ln = 0 ∧ p5.Lc = 0 := by
    have a := congrArg PS.Lq hp5; have b := congrArg PS.Ln hp5; have c := congrArg PS.Lc hp5
    rw [show p5.Lq = p4.Lq from a, show p5.Ln = p4.Ln from b, show p5.Lc = p4.Lc from c, hp4]
    show p3.Lq = none ∧ p3.Ln = 0 ∧ p3.Lc = 0
    rw [hp3]; show p1.Lq = none ∧ p1.Ln = 0 ∧ p1.Lc = 0; rw [e1]; exact ⟨rfl, rfl, rfl⟩
  have hfin : g_Parser_parse.k4 R b w := by
    refine Sat.tk h fun w h => ?_
    refine ⟨_, Sat.ld h (.tail _ (.head _)) rfl, _, Sat.ld h (.tail _ (.head _)) rfl, ?_⟩
    rw [hroot]
    refine hR w db p5.corner (docC db 0 0 q 1 c p3.links :: (IM ++ ((paraC nb 1 1 t :: textC t 1 1 q5 n5 c5 (raw.dropWhile isST) :: (RM ++ KM)) ++ []))) (docC db 0 0 q 1 c p3.links :: (IM ++ ((paraC nb 1 1 t :: textC t 1 1 q5 n5 c5 (raw.dropWhile isST) :: (RM ++ KM')) ++ []))) ?_ ?_
    · exact doc_prints hIM (by decide) (.cons (para_prints hS5 (by omega) hP5) .nil)
    · exact h.less (p5.at b :: (tb, cel ([t].map (fun t => Value.pointer (some ⟨t, 0, none⟩)) ++ tsp) ty_P_Text) :: [(rb, cel [] ty_rootBuilder)]) (by intro _; simp only [List.append_eq, cnt_append, cnt_cons, cnt_nil] <;> omega)
  refine ⟨op.task, Sat.ld h (b := pb) (i := 2) (.tail _ (.tail _ (List.mem_append_right _ (List.mem_append_right _ (.tail _ (.tail _ (List.mem_append_right _ (.tail _ (.tail _ ho))))))))) rfl, br_split (fun _ => ?_) (fun _ => hfin)⟩
  refine ⟨_, _, _, Sat.ld h (.tail _ (.head _)) rfl, ?_⟩
  intro Z hZ
  obtain ⟨l1, l2, l3⟩ := hLL
  rw [l1, l2, l3]
  exact hZ _ _ _ _ _ _ _ (br_false rfl hfin)
end Go.Proofs.YtmicoampfglaiaaGreatDoor

/- impl.HTML, and small functions of the laws. -/
set_option linter.unusedVariables false
namespace Go.Proofs.YtmicoampfglaiaaGreatDoor
open Go.Proofs Go.IntWalk Go.RowKit
variable {σ : Out} {w : World} {L L' : List Chunk} {R : Ending → World → Prop}
/-- What the thin package is handed. -/
def optV (o : Opt) : Value := .agg #[.bool o.strike, .bool o.task, .bool o.auto, .bool o.http, .bool o.table, .bool o.dot, .bool o.dash, .bool o.quote, .bool o.ids, .bool o.emoji]
theorem parser_ok {o : Opt} (h : Sat σ w L) (hR : ∀ w pb, Sat σ w (o.at pb :: L) → R (.returned (.pointer (some ⟨pb, 0, none⟩))) w) : callE P i_impl_parser #[optV o] R w := by
  refine g_impl_parser.sound ?_
  refine Sat.bx h fun b w h => ?_
  have ld : ∀ (k : Nat) (v : Bool), ([Value.bool o.strike, .bool o.task, .bool o.auto, .bool o.http, .bool o.table, .bool o.dot, .bool o.dash, .bool o.quote, .bool o.ids, .bool o.emoji])[k]? = some (.bool v) → w.cell? ⟨b, k, none⟩ = some (.bool v) := fun k v hv => Sat.ld h (.head _) hv
  refine ⟨_, ld 8 _ rfl, _, ld 0 _ rfl, _, ld 1 _ rfl, _, ld 2 _ rfl, _, ld 3 _ rfl, _, ld 4 _ rfl, _, ld 9 _ rfl, _, ld 5 _ rfl, _, ld 6 _ rfl, _, ld 7 _ rfl, ?_⟩
  refine Sat.bx h fun pb w h => hR w pb ?_
  have h : Sat σ w (o.at pb :: (b, cel [Value.bool o.strike, .bool o.task, .bool o.auto, .bool o.http, .bool o.table, .bool o.dot, .bool o.dash, .bool o.quote, .bool o.ids, .bool o.emoji] ty_impl_Options) :: L) := h
  exact (h.less [(b, cel [Value.bool o.strike, .bool o.task, .bool o.auto, .bool o.http, .bool o.table, .bool o.dot, .bool o.dash, .bool o.quote, .bool o.ids, .bool o.emoji] ty_impl_Options)] (by intro _; simp only [List.append_eq, cnt_append, cnt_cons, cnt_nil] <;> omega))
/-- A text is parsed to a document that prints itself so. -/
def ParsesTo (o : Opt) (raw out : List UInt8) : Prop :=
  ∀ (σ : Out) (R : Ending → World → Prop) (L : List Chunk) (w : World) (pb : Nat), Sat σ w L → o.at pb ∈ L →
    (∀ w db k DM DM' f, Prints "PrintHTML" (.iface ty_P_Document (.pointer (some ⟨db, 0, none⟩))) DM DM' f → f [] = out → Sat σ w (DM ++ L) → R (.returned (.tuple #[.pointer (some ⟨db, 0, none⟩), .bool k])) w) →
    callE P i_Parser_parse #[.pointer (some ⟨pb, 0, none⟩), .string (bs raw)] R w
theorem html_ok {o : Opt} {raw out : List UInt8} (hP : ParsesTo o raw out) (hout : out.length ≤ 549755813888) (h : Sat σ w L) (hR : ∀ w, Sat σ w L → R (.returned (.string (bs out))) w) : callE P i_impl_HTML #[optV o, .string (bs raw)] R w := by
  refine g_impl_HTML.sound ?_
  refine Sat.bx h fun b w h => ?_
  have ld : ∀ (k : Nat) (v : Bool), ([Value.bool o.strike, .bool o.task, .bool o.auto, .bool o.http, .bool o.table, .bool o.dot, .bool o.dash, .bool o.quote, .bool o.ids, .bool o.emoji])[k]? = some (.bool v) → w.cell? ⟨b, k, none⟩ = some (.bool v) := fun k v hv => Sat.ld h (.head _) hv
  refine ⟨_, ld 0 _ rfl, _, ld 1 _ rfl, _, ld 2 _ rfl, _, ld 3 _ rfl, _, ld 4 _ rfl, _, ld 5 _ rfl, _, ld 6 _ rfl, _, ld 7 _ rfl, _, ld 8 _ rfl, _, ld 9 _ rfl, ?_⟩
  refine parser_ok h fun w pb h => ⟨_, rfl, ?_⟩
  refine g_Parser_Parse.sound ?_
  refine hP σ _ _ w pb h (.head _) fun w db k DM DM' f hf hfo h => ⟨_, _, rfl, _, rfl, ?_⟩
  subst hfo
  refine toHTML_ok hf h hout fun w h => ⟨_, rfl, hR w ?_⟩
  exact h.less (DM' ++ (o.at pb :: [(b, cel [Value.bool o.strike, .bool o.task, .bool o.auto, .bool o.http, .bool o.table, .bool o.dot, .bool o.dash, .bool o.quote, .bool o.ids, .bool o.emoji] ty_impl_Options)])) (by intro _; simp only [List.append_eq, cnt_append, cnt_cons, cnt_nil] <;> omega)
theorem parses_line {op : Opt} {raw : List UInt8} {f : List UInt8 → List UInt8} (hp : (lnOf raw).plain) (hlen : raw.length < 1000000) (h0 : idx raw [0] = none) (h10 : idx raw [10] = none) (h13 : idx raw [13] = none)
    (hne : raw.dropWhile isST ≠ []) (hb : ((raw.dropWhile isST).dropWhile isSTN).head? ≠ some 91) (hI : InlineOK op (raw.dropWhile isST) f) : ParsesTo op raw (f pOpen ++ pClose) := by
  intro σ R L w pb h ho hR
  refine parseLine_ok h ho hp hlen h0 h10 h13 hne hb hI fun w db k DM DM' hP h => hR w db k DM DM' _ hP rfl h

/-! ### The laws' own functions -/
theorem bs_of (b : ByteArray) : b = bs b.data.toList := by
  cases b; rfl
def onlyM (s set : List UInt8) (n : Nat) : Bool := decide (s.length ≤ n) && s.all fun c => decide (c ∈ set)
theorem only_ok {s set : List UInt8} {n : Nat} (hs : s.length < 4611686018427387904) (hR : R (.returned (.bool (onlyM s set n))) w) : callE P i_laws_only #[.string (bs s), .string (bs set), .int .i64 n] R w := by
  refine g_laws_only.sound ?_
  by_cases hn : n < s.length
  · refine br_true (by simp; omega) ?_
    have : onlyM s set n = false := by unfold onlyM; rw [decide_eq_false (by omega)]; rfl
    rw [← this]; exact hR
  refine br_false (by simp; omega) ?_
  intro X hX
  rw [bs_size]
  have hall : onlyM s set n = s.all fun c => decide (c ∈ set) := by unfold onlyM; rw [decide_eq_true (by omega)]; rfl
  rw [hall] at hR
  have key : ∀ k i, i + k = s.length → (s.all fun c => decide (c ∈ set)) = ((s.drop i).all fun c => decide (c ∈ set)) → X (bs s) (bs set) (s.length : Nat) (i : Int) w := by
    intro k
    induction k with
    | zero =>
      intro i hi ha
      refine hX _ _ _ _ _ (br_false (by simp; omega) ?_)
      rw [List.drop_eq_nil_of_le (by omega)] at ha
      rw [ha] at hR; exact hR
    | succ k ih =>
      intro i hi ha
      have hil : i < s.length := by omega
      rw [List.drop_eq_getElem_cons hil, List.all_cons] at ha
      refine hX _ _ _ _ _ (br_true (by simp; omega) ⟨by omega, by simp; omega, ?_⟩)
      rw [bt_at hil]
      refine indexByte2_ok ⟨_, rfl, ?_⟩
      by_cases hm : s[i] ∈ set
      · refine br_false (by simpa using idxB_nonneg.2 hm) ?_
        rw [i64_inc (by omega)]
        refine ih (i + 1) (by omega) ?_
        rw [ha]; simp [hm]
      · have := mt idxB_nonneg.1 hm
        refine br_true (by simpa using this) ?_
        rw [ha] at hR
        simpa [hm] using hR
  exact key s.length 0 (by omega) (by rw [List.drop_zero])
end Go.Proofs.YtmicoampfglaiaaGreatDoor

set_option linter.unusedVariables false
set_option maxRecDepth 20000
namespace Go.Proofs.YtmicoampfglaiaaGreatDoor
open Go.Proofs
/- 99 pub-paratext/pub/rscmarkdown.isPunct -/
namespace g_isPunct
noncomputable def body : Code := bodyOf Tryz.f99
end g_isPunct
def g_isPunct (R : EP) (x0 : Int) (w : World) : Prop :=
 R (.returned (.bool (((((decide (33 ≤ x0)) && (decide (x0 ≤ 47))) || ((decide (58 ≤ x0)) && (decide (x0 ≤ 64)))) || ((decide (91 ≤ x0)) && (decide (x0 ≤ 96)))) || ((decide (123 ≤ x0)) && (decide (x0 ≤ 126)))))) w

noncomputable def g_isPunct.ac (R : EP) : AC :=
  (.leaf (sel [] g_isPunct.body))
theorem g_isPunct.good (R : EP) : Good P 33 (g_isPunct.ac R) (QF P [.tmp 2] R) :=
  trivial
theorem g_isPunct.eq (R : EP) (x0 : Int) (w : World) : g_isPunct R x0 w = vcA P 33 (g_isPunct.ac R) (QF P [.tmp 2] R) (fr0 [.int .u8 x0]) w := by kernel_rfl
theorem g_isPunct.sound {R : EP} {x0 : Int} {w : World} (h : g_isPunct R x0 w) : callE P i_isPunct #[.int .u8 x0] R w :=
  callE_fin (c := g_isPunct.body) Tryz.func99 Tryz.call99 (by kernel_rfl) (by kernel_rfl) (by kernel_rfl) (by kernel_rfl) (by kernel_rfl) (g_isPunct.good R) (g_isPunct.eq R x0 w) h
/- 74 pub-paratext/pub/rscmarkdown.parseBreak -/
namespace g_parseBreak
noncomputable def body : Code := bodyOf Tryz.f74
def k3 (R : EP) (x10 : Int) (x11 : Int) (x66 : Bool) (w : World) : Prop :=
 br x66
 (box w #[] ty_HardBreak fun b1 w2 =>
 R (.returned (.tuple #[.iface ty_P_HardBreak (.pointer (some ⟨b1, 0, none⟩)), .int .i64 x10, .int .i64 x11, .bool true])) w2)
 (box w #[] ty_SoftBreak fun b3 w4 =>
 R (.returned (.tuple #[.iface ty_P_SoftBreak (.pointer (some ⟨b3, 0, none⟩)), .int .i64 x10, .int .i64 x11, .bool true])) w4)

def k2 (R : EP) (x1 : BA) (x2 : Int) (x10 : Int) (x11 : Int) (w : World) : Prop :=
 ((decide (x2 ≥ 2)) = true → 0 ≤ (IntKind.i64.wrap (x2 - 1)) ∧ (IntKind.i64.wrap (x2 - 1)) < (x1.size : Int)) ∧
 (((decide (x2 ≥ 2)) && ((bt x1 (IntKind.i64.wrap (x2 - 1))) == 32)) = true → 0 ≤ (IntKind.i64.wrap (x2 - 2)) ∧ (IntKind.i64.wrap (x2 - 2)) < (x1.size : Int)) ∧
 k3 R x10 x11 (((decide (x2 ≥ 2)) && ((bt x1 (IntKind.i64.wrap (x2 - 1))) == 32)) && ((bt x1 (IntKind.i64.wrap (x2 - 2))) == 32)) w

def bl2 (R : EP) (Xa : BA → Int → Int → Int → WP) (x1 : BA) (x2 : Int) (x10 : Int) (x11 : Int) (w : World) : Prop :=
 ((decide (x11 < (x1.size : Int))) = true → 0 ≤ x11 ∧ x11 < (x1.size : Int)) ∧
 (((decide (x11 < (x1.size : Int))) && (!((bt x1 x11) == 32))) = true → 0 ≤ x11 ∧ x11 < (x1.size : Int)) ∧
 br ((decide (x11 < (x1.size : Int))) && (((bt x1 x11) == 32) || ((bt x1 x11) == 9)))
 (Xa x1 x2 x10 (IntKind.i64.wrap (x11 + 1)) w)
 (k2 R x1 x2 x10 x11 w)
def l2 (R : EP) (x1 : BA) (x2 : Int) (x10 : Int) (x11 : Int) (w : World) : Prop :=
  ∀ X : BA → Int → Int → Int → WP, (∀ x1 x2 x10 x11 w, bl2 R X x1 x2 x10 x11 w → X x1 x2 x10 x11 w) → X x1 x2 x10 x11 w

noncomputable def al2 (R : EP) (Xa : BA → Int → Int → Int → WP) : AC :=
  (.leaf (sel [1, 1, 1, 1, 0, 0, 0] body))
def k1 (R : EP) (x1 : BA) (x2 : Int) (x10 : Int) (w : World) : Prop :=
 l2 R x1 x2 x10 (IntKind.i64.wrap (x2 + 1)) w

def bl1 (R : EP) (Xb : BA → Int → Int → WP) (x1 : BA) (x2 : Int) (x10 : Int) (w : World) : Prop :=
 ((decide (x10 > 0)) = true → 0 ≤ (IntKind.i64.wrap (x10 - 1)) ∧ (IntKind.i64.wrap (x10 - 1)) < (x1.size : Int)) ∧
 (((decide (x10 > 0)) && (!((bt x1 (IntKind.i64.wrap (x10 - 1))) == 32))) = true → 0 ≤ (IntKind.i64.wrap (x10 - 1)) ∧ (IntKind.i64.wrap (x10 - 1)) < (x1.size : Int)) ∧
 br ((decide (x10 > 0)) && (((bt x1 (IntKind.i64.wrap (x10 - 1))) == 32) || ((bt x1 (IntKind.i64.wrap (x10 - 1))) == 9)))
 (Xb x1 x2 (IntKind.i64.wrap (x10 - 1)) w)
 (k1 R x1 x2 x10 w)
def l1 (R : EP) (x1 : BA) (x2 : Int) (x10 : Int) (w : World) : Prop :=
  ∀ X : BA → Int → Int → WP, (∀ x1 x2 x10 w, bl1 R X x1 x2 x10 w → X x1 x2 x10 w) → X x1 x2 x10 w

noncomputable def al1 (R : EP) (Xb : BA → Int → Int → WP) : AC :=
  (.leaf (sel [1, 1, 0, 0, 0] body))
end g_parseBreak
def g_parseBreak (R : EP) (x0 : OA) (x1 : BA) (x2 : Int) (w : World) : Prop :=
 g_parseBreak.l1 R x1 x2 x2 w

noncomputable def g_parseBreak.ac (R : EP) : AC :=
  (.seq (.leaf (sel [0] g_parseBreak.body)) (.seq (.leaf (sel [1, 0] g_parseBreak.body)) (.seq (.block 0 (.loop (leaf [(1, .s .str), (2, .s (.int .i64)), (10, .s (.int .i64))] (g_parseBreak.l1 R)) (sel [1, 1, 0, 0, 0] g_parseBreak.body))) (.mark (leaf [(1, .s .str), (2, .s (.int .i64)), (10, .s (.int .i64))] (g_parseBreak.k1 R)) (.seq (.leaf (sel [1, 1, 1, 0] g_parseBreak.body)) (.seq (.block 2 (.loop (leaf [(1, .s .str), (2, .s (.int .i64)), (10, .s (.int .i64)), (11, .s (.int .i64))] (g_parseBreak.l2 R)) (sel [1, 1, 1, 1, 0, 0, 0] g_parseBreak.body))) (.mark (leaf [(1, .s .str), (2, .s (.int .i64)), (10, .s (.int .i64)), (11, .s (.int .i64))] (g_parseBreak.k2 R)) (.seq (.seq (.leaf (sel [1, 1, 1, 1, 1, 0, 0] g_parseBreak.body)) (.mark (leaf [(10, .s (.int .i64)), (11, .s (.int .i64)), (66, .s .bool)] (g_parseBreak.k3 R)) (.leaf (sel [1, 1, 1, 1, 1, 0, 1] g_parseBreak.body)))) (.leaf (sel [1, 1, 1, 1, 1, 1] g_parseBreak.body))))))))))
theorem g_parseBreak.good (R : EP) : Good P 77 (g_parseBreak.ac R) (QF P [.tmp 6, .tmp 7, .tmp 8, .tmp 9] R) :=
  ⟨trivial, ⟨trivial, ⟨(loopG (g_parseBreak.al1 R) (g_parseBreak.bl1 R) (fun _ => by kernel_rfl) (fun Xb => trivial) (fun Xb => by intro x1 x2 x10 ρ w; kernel_rfl) (fun X h _ _ _ _ g => g X h)), ⟨⟨trivial, ⟨(loopG (g_parseBreak.al2 R) (g_parseBreak.bl2 R) (fun _ => by kernel_rfl) (fun Xa => trivial) (fun Xa => by intro x1 x2 x10 x11 ρ w; kernel_rfl) (fun X h _ _ _ _ _ g => g X h)), ⟨⟨⟨trivial, ⟨trivial, cutE (by intro x10 x11 x66 ρ w; kernel_rfl)⟩⟩, trivial⟩, cutE (by intro x1 x2 x10 x11 ρ w; kernel_rfl)⟩⟩⟩, cutE (by intro x1 x2 x10 ρ w; kernel_rfl)⟩⟩⟩⟩
theorem g_parseBreak.eq (R : EP) (x0 : OA) (x1 : BA) (x2 : Int) (w : World) : g_parseBreak R x0 x1 x2 w = vcA P 77 (g_parseBreak.ac R) (QF P [.tmp 6, .tmp 7, .tmp 8, .tmp 9] R) (fr0 [.pointer x0, .string x1, .int .i64 x2]) w := by kernel_rfl
theorem g_parseBreak.sound {R : EP} {x0 : OA} {x1 : ByteArray} {x2 : Int} {w : World} (h : g_parseBreak R x0 x1 x2 w) : callE P i_parseBreak #[.pointer x0, .string x1, .int .i64 x2] R w :=
  callE_fin (c := g_parseBreak.body) Tryz.func74 Tryz.call74 (by kernel_rfl) (by kernel_rfl) (by kernel_rfl) (by kernel_rfl) (by kernel_rfl) (g_parseBreak.good R) (g_parseBreak.eq R x0 x1 x2 w) h
/- 65 pub-paratext/pub/rscmarkdown.parseEscape -/
namespace g_parseEscape
noncomputable def body : Code := bodyOf Tryz.f65
def k2 (R : EP) (w : World) : Prop :=
 R (.returned (.tuple #[.nilIface, .int .i64 0, .int .i64 0, .bool false])) w

def k4 (R : EP) (x2 : Int) (x11 : Int) (w : World) : Prop :=
 box w #[] ty_HardBreak fun b7 w8 =>
 R (.returned (.tuple #[.iface ty_P_HardBreak (.pointer (some ⟨b7, 0, none⟩)), .int .i64 x2, .int .i64 x11, .bool true])) w8

def bl1 (R : EP) (Xa : BA → Int → Int → WP) (x1 : BA) (x2 : Int) (x11 : Int) (w : World) : Prop :=
 ((decide (x11 < (x1.size : Int))) = true → 0 ≤ x11 ∧ x11 < (x1.size : Int)) ∧
 (((decide (x11 < (x1.size : Int))) && (!((bt x1 x11) == 32))) = true → 0 ≤ x11 ∧ x11 < (x1.size : Int)) ∧
 br ((decide (x11 < (x1.size : Int))) && (((bt x1 x11) == 32) || ((bt x1 x11) == 9)))
 (Xa x1 x2 (IntKind.i64.wrap (x11 + 1)) w)
 (k4 R x2 x11 w)
def l1 (R : EP) (x1 : BA) (x2 : Int) (x11 : Int) (w : World) : Prop :=
  ∀ X : BA → Int → Int → WP, (∀ x1 x2 x11 w, bl1 R X x1 x2 x11 w → X x1 x2 x11 w) → X x1 x2 x11 w

noncomputable def al1 (R : EP) (Xa : BA → Int → Int → WP) : AC :=
  (.leaf (sel [1, 0, 1, 0, 1, 1, 1, 0, 1, 1, 0, 0, 0] body))
def k3 (R : EP) (x1 : BA) (x2 : Int) (w : World) : Prop :=
 l1 R x1 x2 (IntKind.i64.wrap (x2 + 2)) w

def k1 (R : EP) (x0 : OA) (x1 : BA) (x2 : Int) (x46 : Bool) (w : World) : Prop :=
 br x46
 (nilP x0 fun a5 =>
 stV w ((a5.add 6).add 0) (.bool true) fun w6 =>
 k3 R x1 x2 w6)
 (k3 R x1 x2 w)

end g_parseEscape
def g_parseEscape (R : EP) (x0 : OA) (x1 : BA) (x2 : Int) (w : World) : Prop :=
 br (decide ((IntKind.i64.wrap (x2 + 1)) < (x1.size : Int)))
 (0 ≤ (IntKind.i64.wrap (x2 + 1)) ∧ (IntKind.i64.wrap (x2 + 1)) < (x1.size : Int) ∧
 callE P i_isPunct #[.int .u8 (bt x1 (IntKind.i64.wrap (x2 + 1)))] (fun e w2 => ∃ (r1 : Bool), e = .returned (.bool r1) ∧
 br r1
 (0 ≤ (IntKind.i64.wrap (x2 + 1)) ∧ (IntKind.i64.wrap (x2 + 1)) ≤ (IntKind.i64.wrap (x2 + 2)) ∧ (IntKind.i64.wrap (x2 + 2)) ≤ (x1.size : Int) ∧
 box w2 #[.string (x1.extract (Int.toNat (IntKind.i64.wrap (x2 + 1))) (Int.toNat (IntKind.i64.wrap (x2 + 2))))] ty_Escaped fun b3 w4 =>
 R (.returned (.tuple #[.iface ty_P_Escaped (.pointer (some ⟨b3, 0, none⟩)), .int .i64 x2, .int .i64 (IntKind.i64.wrap (x2 + 2)), .bool true])) w4)
 (br ((bt x1 (IntKind.i64.wrap (x2 + 1))) == 10)
 (((decide (x2 > 0)) = true → 0 ≤ (IntKind.i64.wrap (x2 - 1)) ∧ (IntKind.i64.wrap (x2 - 1)) < (x1.size : Int)) ∧
 g_parseEscape.k1 R x0 x1 x2 ((decide (x2 > 0)) && ((bt x1 (IntKind.i64.wrap (x2 - 1))) == 92)) w2)
 (g_parseEscape.k2 R w2))) w)
 (g_parseEscape.k2 R w)

noncomputable def g_parseEscape.ac (R : EP) : AC :=
  (.seq (.leaf (sel [0] g_parseEscape.body)) (.seq (.seq (.leaf (sel [1, 0, 0] g_parseEscape.body)) (.cond 16 (.seq (.leaf (sel [1, 0, 1, 0, 0] g_parseEscape.body)) (.seq (.leaf (sel [1, 0, 1, 0, 1, 0] g_parseEscape.body)) (.seq (.leaf (sel [1, 0, 1, 0, 1, 1, 0] g_parseEscape.body)) (.cond 37 (.seq (.seq (.leaf (sel [1, 0, 1, 0, 1, 1, 1, 0, 0, 0] g_parseEscape.body)) (.mark (leaf [(0, .s .ptr), (1, .s .str), (2, .s (.int .i64)), (46, .s .bool)] (g_parseEscape.k1 R)) (.leaf (sel [1, 0, 1, 0, 1, 1, 1, 0, 0, 1] g_parseEscape.body)))) (.mark (leaf [(1, .s .str), (2, .s (.int .i64))] (g_parseEscape.k3 R)) (.seq (.leaf (sel [1, 0, 1, 0, 1, 1, 1, 0, 1, 0] g_parseEscape.body)) (.seq (.block 0 (.loop (leaf [(1, .s .str), (2, .s (.int .i64)), (11, .s (.int .i64))] (g_parseEscape.l1 R)) (sel [1, 0, 1, 0, 1, 1, 1, 0, 1, 1, 0, 0, 0] g_parseEscape.body))) (.mark (leaf [(2, .s (.int .i64)), (11, .s (.int .i64))] (g_parseEscape.k4 R)) (.leaf (sel [1, 0, 1, 0, 1, 1, 1, 0, 1, 1, 1] g_parseEscape.body))))))) (.leaf (sel [1, 0, 1, 0, 1, 1, 1, 1] g_parseEscape.body)))))) (.leaf (sel [1, 0, 1, 1] g_parseEscape.body)))) (.mark (leaf [] (g_parseEscape.k2 R)) (.leaf (sel [1, 1] g_parseEscape.body)))))
theorem g_parseEscape.good (R : EP) : Good P 75 (g_parseEscape.ac R) (QF P [.tmp 6, .tmp 7, .tmp 8, .tmp 9] R) :=
  ⟨trivial, ⟨⟨trivial, ⟨⟨trivial, ⟨trivial, ⟨trivial, ⟨⟨⟨trivial, ⟨trivial, cutE (by intro x0 x1 x2 x46 ρ w; kernel_rfl)⟩⟩, ⟨⟨trivial, ⟨(loopG (g_parseEscape.al1 R) (g_parseEscape.bl1 R) (fun _ => by kernel_rfl) (fun Xa => trivial) (fun Xa => by intro x1 x2 x11 ρ w; kernel_rfl) (fun X h _ _ _ _ g => g X h)), ⟨trivial, cutE (by intro x2 x11 ρ w; kernel_rfl)⟩⟩⟩, cutE (by intro x1 x2 ρ w; kernel_rfl)⟩⟩, trivial⟩⟩⟩⟩, trivial⟩⟩, ⟨trivial, cutE (by intro ρ w; kernel_rfl)⟩⟩⟩
theorem g_parseEscape.eq (R : EP) (x0 : OA) (x1 : BA) (x2 : Int) (w : World) : g_parseEscape R x0 x1 x2 w = vcA P 75 (g_parseEscape.ac R) (QF P [.tmp 6, .tmp 7, .tmp 8, .tmp 9] R) (fr0 [.pointer x0, .string x1, .int .i64 x2]) w := by kernel_rfl
theorem g_parseEscape.sound {R : EP} {x0 : OA} {x1 : ByteArray} {x2 : Int} {w : World} (h : g_parseEscape R x0 x1 x2 w) : callE P i_parseEscape #[.pointer x0, .string x1, .int .i64 x2] R w :=
  callE_fin (c := g_parseEscape.body) Tryz.func65 Tryz.call65 (by kernel_rfl) (by kernel_rfl) (by kernel_rfl) (by kernel_rfl) (by kernel_rfl) (g_parseEscape.good R) (g_parseEscape.eq R x0 x1 x2 w) h
/- 107 pub-paratext/pub/rscmarkdown.isUnicodePunct -/
namespace g_isUnicodePunct
noncomputable def body : Code := bodyOf Tryz.f107
end g_isUnicodePunct
def g_isUnicodePunct (R : EP) (x0 : Int) (w : World) : Prop :=
 br (decide (x0 < 128))
 (callE P i_isPunct #[.int .u8 (IntKind.u8.wrap x0)] (fun e w2 => ∃ (r1 : Bool), e = .returned (.bool r1) ∧
 R (.returned (.bool r1)) w2) w)
 (callE P i_zzPunct #[.int .i32 x0] (fun e w4 => ∃ (r3 : Bool), e = .returned (.bool r3) ∧
 R (.returned (.bool r3)) w4) w)

noncomputable def g_isUnicodePunct.ac (R : EP) : AC :=
  (.leaf (sel [] g_isUnicodePunct.body))
theorem g_isUnicodePunct.good (R : EP) : Good P 10 (g_isUnicodePunct.ac R) (QF P [.tmp 2] R) :=
  trivial
theorem g_isUnicodePunct.eq (R : EP) (x0 : Int) (w : World) : g_isUnicodePunct R x0 w = vcA P 10 (g_isUnicodePunct.ac R) (QF P [.tmp 2] R) (fr0 [.int .i32 x0]) w := by kernel_rfl
theorem g_isUnicodePunct.sound {R : EP} {x0 : Int} {w : World} (h : g_isUnicodePunct R x0 w) : callE P i_isUnicodePunct #[.int .i32 x0] R w :=
  callE_fin (c := g_isUnicodePunct.body) Tryz.func107 Tryz.call107 (by kernel_rfl) (by kernel_rfl) (by kernel_rfl) (by kernel_rfl) (by kernel_rfl) (g_isUnicodePunct.good R) (g_isUnicodePunct.eq R x0 w) h
/- 106 pub-paratext/pub/rscmarkdown.isUnicodeSpace -/
namespace g_isUnicodeSpace
noncomputable def body : Code := bodyOf Tryz.f106
end g_isUnicodeSpace
def g_isUnicodeSpace (R : EP) (x0 : Int) (w : World) : Prop :=
 br (decide (x0 < 128))
 (R (.returned (.bool ((((x0 == 32) || (x0 == 9)) || (x0 == 12)) || (x0 == 10)))) w)
 (callE P i_zzZs #[.int .i32 x0] (fun e w2 => ∃ (r1 : Bool), e = .returned (.bool r1) ∧
 R (.returned (.bool r1)) w2) w)

noncomputable def g_isUnicodeSpace.ac (R : EP) : AC :=
  (.leaf (sel [] g_isUnicodeSpace.body))
theorem g_isUnicodeSpace.good (R : EP) : Good P 21 (g_isUnicodeSpace.ac R) (QF P [.tmp 2] R) :=
  trivial
theorem g_isUnicodeSpace.eq (R : EP) (x0 : Int) (w : World) : g_isUnicodeSpace R x0 w = vcA P 21 (g_isUnicodeSpace.ac R) (QF P [.tmp 2] R) (fr0 [.int .i32 x0]) w := by kernel_rfl
theorem g_isUnicodeSpace.sound {R : EP} {x0 : Int} {w : World} (h : g_isUnicodeSpace R x0 w) : callE P i_isUnicodeSpace #[.int .i32 x0] R w :=
  callE_fin (c := g_isUnicodeSpace.body) Tryz.func106 Tryz.call106 (by kernel_rfl) (by kernel_rfl) (by kernel_rfl) (by kernel_rfl) (by kernel_rfl) (g_isUnicodeSpace.good R) (g_isUnicodeSpace.eq R x0 w) h
/- 71 pub-paratext/pub/rscmarkdown.parseEmph -/
namespace g_parseEmph
noncomputable def body : Code := bodyOf Tryz.f71
def k11 (R : EP) (x1 : BA) (x2 : Int) (x11 : Int) (x16 : Bool) (x17 : Bool) (w : World) : Prop :=
 0 ≤ x2 ∧ x2 ≤ x11 ∧ x11 ≤ (x1.size : Int) ∧
 box w #[.string (x1.extract (Int.toNat x2) (Int.toNat x11)), .bool x16, .bool x17, .int .i64 0, .int .i64 (IntKind.i64.wrap (x11 - x2))] ty_emphPlain fun b25 w26 =>
 R (.returned (.tuple #[.iface ty_P_emphPlain (.pointer (some ⟨b25, 0, none⟩)), .int .i64 x2, .int .i64 x11, .bool true])) w26

def k13 (R : EP) (x1 : BA) (x2 : Int) (x11 : Int) (x13 : Int) (x14 : Bool) (x15 : Bool) (x16 : Bool) (w : World) : Prop :=
 br x15
 (br (!x14)
 (k11 R x1 x2 x11 x16 true w)
 (callE P i_isUnicodePunct #[.int .i32 x13] (fun e w30 => ∃ (r29 : Bool), e = .returned (.bool r29) ∧
 k11 R x1 x2 x11 x16 r29 w30) w))
 (k11 R x1 x2 x11 x16 false w)

def k12 (R : EP) (x1 : BA) (x2 : Int) (x11 : Int) (x12 : Int) (x13 : Int) (x14 : Bool) (x15 : Bool) (x16 : Bool) (x17 : Bool) (x126 : Int) (x144 : Bool) (w : World) : Prop :=
 br x144
 (k11 R x1 x2 x11 x14 x15 w)
 (br (x126 == 95)
 (br x14
 (br (!x15)
 (k13 R x1 x2 x11 x13 x14 x15 true w)
 (callE P i_isUnicodePunct #[.int .i32 x12] (fun e w28 => ∃ (r27 : Bool), e = .returned (.bool r27) ∧
 k13 R x1 x2 x11 x13 x14 x15 r27 w28) w))
 (k13 R x1 x2 x11 x13 x14 x15 false w))
 (k11 R x1 x2 x11 x16 x17 w))

def k10 (R : EP) (x1 : BA) (x2 : Int) (x11 : Int) (x12 : Int) (x13 : Int) (x14 : Bool) (x15 : Bool) (x16 : Bool) (x17 : Bool) (x126 : Int) (x127 : Bool) (w : World) : Prop :=
 br x127
 (k11 R x1 x2 x11 (((x14 && (!x15)) && (x12 != 93)) && (x12 != 41)) x15 w)
 (br (x126 == 42)
 (k12 R x1 x2 x11 x12 x13 x14 x15 x16 x17 x126 true w)
 (k12 R x1 x2 x11 x12 x13 x14 x15 x16 x17 x126 (x126 == 126) w))

def k9 (R : EP) (x1 : BA) (x2 : Int) (x10 : Int) (x11 : Int) (x12 : Int) (x13 : Int) (x14 : Bool) (x15 : Bool) (w : World) : Prop :=
 br (x10 == 39)
 (k10 R x1 x2 x11 x12 x13 x14 x15 false false x10 true w)
 (k10 R x1 x2 x11 x12 x13 x14 x15 false false x10 (x10 == 34) w)

def k8 (R : EP) (x1 : BA) (x2 : Int) (x10 : Int) (x11 : Int) (x12 : Int) (x13 : Int) (x14 : Bool) (w : World) : Prop :=
 callE P i_isUnicodeSpace #[.int .i32 x12] (fun e w18 => ∃ (r17 : Bool), e = .returned (.bool r17) ∧
 br (!r17)
 (callE P i_isUnicodePunct #[.int .i32 x12] (fun e w20 => ∃ (r19 : Bool), e = .returned (.bool r19) ∧
 br (!r19)
 (k9 R x1 x2 x10 x11 x12 x13 x14 true w20)
 (callE P i_isUnicodeSpace #[.int .i32 x13] (fun e w22 => ∃ (r21 : Bool), e = .returned (.bool r21) ∧
 br r21
 (k9 R x1 x2 x10 x11 x12 x13 x14 true w22)
 (callE P i_isUnicodePunct #[.int .i32 x13] (fun e w24 => ∃ (r23 : Bool), e = .returned (.bool r23) ∧
 k9 R x1 x2 x10 x11 x12 x13 x14 r23 w24) w22)) w20)) w18)
 (k9 R x1 x2 x10 x11 x12 x13 x14 false w18)) w

def k7 (R : EP) (x1 : BA) (x2 : Int) (x10 : Int) (x11 : Int) (x12 : Int) (x13 : Int) (w : World) : Prop :=
 callE P i_isUnicodeSpace #[.int .i32 x13] (fun e w10 => ∃ (r9 : Bool), e = .returned (.bool r9) ∧
 br (!r9)
 (callE P i_isUnicodePunct #[.int .i32 x13] (fun e w12 => ∃ (r11 : Bool), e = .returned (.bool r11) ∧
 br (!r11)
 (k8 R x1 x2 x10 x11 x12 x13 true w12)
 (callE P i_isUnicodeSpace #[.int .i32 x12] (fun e w14 => ∃ (r13 : Bool), e = .returned (.bool r13) ∧
 br r13
 (k8 R x1 x2 x10 x11 x12 x13 true w14)
 (callE P i_isUnicodePunct #[.int .i32 x12] (fun e w16 => ∃ (r15 : Bool), e = .returned (.bool r15) ∧
 k8 R x1 x2 x10 x11 x12 x13 r15 w16) w14)) w12)) w10)
 (k8 R x1 x2 x10 x11 x12 x13 false w10)) w

def k6 (R : EP) (x1 : BA) (x2 : Int) (x10 : Int) (x11 : Int) (x12 : Int) (w : World) : Prop :=
 br (decide (x11 ≥ (x1.size : Int)))
 (k7 R x1 x2 x10 x11 x12 32 w)
 (0 ≤ x11 ∧ x11 ≤ (x1.size : Int) ∧
 callE P i_unicode_utf8_DecodeRuneInString #[.string (x1.extract (Int.toNat x11) x1.size)] (fun e w8 => ∃ (r7_0 : Int), ∃ (r7_1 : Int), e = .returned (.tuple #[.int .i32 r7_0, .int .i64 r7_1]) ∧
 k7 R x1 x2 x10 x11 x12 r7_0 w8) w)

def k5 (R : EP) (x1 : BA) (x2 : Int) (x10 : Int) (x11 : Int) (x64 : Bool) (w : World) : Prop :=
 br x64
 (0 ≤ x2 ∧ x2 ≤ x11 ∧ x11 ≤ (x1.size : Int) ∧
 box w #[.string (x1.extract (Int.toNat x2) (Int.toNat x11))] ty_Plain fun b3 w4 =>
 R (.returned (.tuple #[.iface ty_P_Plain (.pointer (some ⟨b3, 0, none⟩)), .int .i64 x2, .int .i64 x11, .bool true])) w4)
 (br (x2 == 0)
 (k6 R x1 x2 x10 x11 32 w)
 (0 ≤ x2 ∧ x2 ≤ (x1.size : Int) ∧
 callE P i_unicode_utf8_DecodeLastRuneInString #[.string (x1.extract 0 (Int.toNat x2))] (fun e w6 => ∃ (r5_0 : Int), ∃ (r5_1 : Int), e = .returned (.tuple #[.int .i32 r5_0, .int .i64 r5_1]) ∧
 k6 R x1 x2 x10 x11 r5_0 w6) w))

def k4 (R : EP) (x1 : BA) (x2 : Int) (x10 : Int) (x11 : Int) (w : World) : Prop :=
 k5 R x1 x2 x10 x11 ((x10 == 126) && (decide ((IntKind.i64.wrap (x11 - x2)) > 2))) w

def k3 (R : EP) (x0 : OA) (x1 : BA) (x2 : Int) (x10 : Int) (x11 : Int) (x53 : Bool) (w : World) : Prop :=
 br x53
 (nilP x0 fun a1 =>
 stV w ((a1.add 6).add 0) (.bool true) fun w2 =>
 k4 R x1 x2 x10 x11 w2)
 (k4 R x1 x2 x10 x11 w)

def k2 (R : EP) (x0 : OA) (x1 : BA) (x2 : Int) (x10 : Int) (x11 : Int) (w : World) : Prop :=
 k3 R x0 x1 x2 x10 x11 ((x10 == 126) && ((IntKind.i64.wrap (x11 - x2)) != 2)) w

def bl1 (R : EP) (Xa : OA → BA → Int → Int → Int → WP) (x0 : OA) (x1 : BA) (x2 : Int) (x10 : Int) (x11 : Int) (w : World) : Prop :=
 ((decide (x11 < (x1.size : Int))) = true → 0 ≤ x11 ∧ x11 < (x1.size : Int)) ∧
 br ((decide (x11 < (x1.size : Int))) && ((bt x1 x11) == x10))
 (Xa x0 x1 x2 x10 (IntKind.i64.wrap (x11 + 1)) w)
 (k2 R x0 x1 x2 x10 x11 w)
def l1 (R : EP) (x0 : OA) (x1 : BA) (x2 : Int) (x10 : Int) (x11 : Int) (w : World) : Prop :=
  ∀ X : OA → BA → Int → Int → Int → WP, (∀ x0 x1 x2 x10 x11 w, bl1 R X x0 x1 x2 x10 x11 w → X x0 x1 x2 x10 x11 w) → X x0 x1 x2 x10 x11 w

noncomputable def al1 (R : EP) (Xa : OA → BA → Int → Int → Int → WP) : AC :=
  (.leaf (sel [1, 1, 1, 0, 1, 0, 0, 0] body))
def k1 (R : EP) (x0 : OA) (x1 : BA) (x2 : Int) (x10 : Int) (x11 : Int) (x32 : Bool) (w : World) : Prop :=
 br x32
 (l1 R x0 x1 x2 x10 x11 w)
 (k2 R x0 x1 x2 x10 x11 w)

end g_parseEmph
def g_parseEmph (R : EP) (x0 : OA) (x1 : BA) (x2 : Int) (w : World) : Prop :=
 0 ≤ x2 ∧ x2 < (x1.size : Int) ∧
 g_parseEmph.k1 R x0 x1 x2 (bt x1 x2) (IntKind.i64.wrap (x2 + 1)) ((((bt x1 x2) == 42) || ((bt x1 x2) == 126)) || ((bt x1 x2) == 95)) w

noncomputable def g_parseEmph.ac (R : EP) : AC :=
  (.seq (.leaf (sel [0] g_parseEmph.body)) (.seq (.leaf (sel [1, 0] g_parseEmph.body)) (.seq (.leaf (sel [1, 1, 0] g_parseEmph.body)) (.seq (.seq (.leaf (sel [1, 1, 1, 0, 0] g_parseEmph.body)) (.mark (leaf [(0, .s .ptr), (1, .s .str), (2, .s (.int .i64)), (10, .s (.int .u8)), (11, .s (.int .i64)), (32, .s .bool)] (g_parseEmph.k1 R)) (.cond 32 (.block 0 (.loop (leaf [(0, .s .ptr), (1, .s .str), (2, .s (.int .i64)), (10, .s (.int .u8)), (11, .s (.int .i64))] (g_parseEmph.l1 R)) (sel [1, 1, 1, 0, 1, 0, 0, 0] g_parseEmph.body))) (.leaf (sel [1, 1, 1, 0, 1, 1] g_parseEmph.body))))) (.mark (leaf [(0, .s .ptr), (1, .s .str), (2, .s (.int .i64)), (10, .s (.int .u8)), (11, .s (.int .i64))] (g_parseEmph.k2 R)) (.seq (.seq (.leaf (sel [1, 1, 1, 1, 0, 0] g_parseEmph.body)) (.mark (leaf [(0, .s .ptr), (1, .s .str), (2, .s (.int .i64)), (10, .s (.int .u8)), (11, .s (.int .i64)), (53, .s .bool)] (g_parseEmph.k3 R)) (.leaf (sel [1, 1, 1, 1, 0, 1] g_parseEmph.body)))) (.mark (leaf [(1, .s .str), (2, .s (.int .i64)), (10, .s (.int .u8)), (11, .s (.int .i64))] (g_parseEmph.k4 R)) (.seq (.seq (.leaf (sel [1, 1, 1, 1, 1, 0, 0] g_parseEmph.body)) (.mark (leaf [(1, .s .str), (2, .s (.int .i64)), (10, .s (.int .u8)), (11, .s (.int .i64)), (64, .s .bool)] (g_parseEmph.k5 R)) (.leaf (sel [1, 1, 1, 1, 1, 0, 1] g_parseEmph.body)))) (.seq (.leaf (sel [1, 1, 1, 1, 1, 1, 0] g_parseEmph.body)) (.seq (.leaf (sel [1, 1, 1, 1, 1, 1, 1, 0] g_parseEmph.body)) (.mark (leaf [(1, .s .str), (2, .s (.int .i64)), (10, .s (.int .u8)), (11, .s (.int .i64)), (12, .s (.int .i32))] (g_parseEmph.k6 R)) (.seq (.leaf (sel [1, 1, 1, 1, 1, 1, 1, 1, 0] g_parseEmph.body)) (.mark (leaf [(1, .s .str), (2, .s (.int .i64)), (10, .s (.int .u8)), (11, .s (.int .i64)), (12, .s (.int .i32)), (13, .s (.int .i32))] (g_parseEmph.k7 R)) (.seq (.leaf (sel [1, 1, 1, 1, 1, 1, 1, 1, 1, 0] g_parseEmph.body)) (.mark (leaf [(1, .s .str), (2, .s (.int .i64)), (10, .s (.int .u8)), (11, .s (.int .i64)), (12, .s (.int .i32)), (13, .s (.int .i32)), (14, .s .bool)] (g_parseEmph.k8 R)) (.seq (.leaf (sel [1, 1, 1, 1, 1, 1, 1, 1, 1, 1, 0] g_parseEmph.body)) (.mark (leaf [(1, .s .str), (2, .s (.int .i64)), (10, .s (.int .u8)), (11, .s (.int .i64)), (12, .s (.int .i32)), (13, .s (.int .i32)), (14, .s .bool), (15, .s .bool)] (g_parseEmph.k9 R)) (.seq (.leaf (sel [1, 1, 1, 1, 1, 1, 1, 1, 1, 1, 1, 0] g_parseEmph.body)) (.seq (.seq (.leaf (sel [1, 1, 1, 1, 1, 1, 1, 1, 1, 1, 1, 1, 0, 0] g_parseEmph.body)) (.block 2 (.seq (.leaf (sel [1, 1, 1, 1, 1, 1, 1, 1, 1, 1, 1, 1, 0, 1, 0, 0] g_parseEmph.body)) (.mark (leaf [(1, .s .str), (2, .s (.int .i64)), (11, .s (.int .i64)), (12, .s (.int .i32)), (13, .s (.int .i32)), (14, .s .bool), (15, .s .bool), (16, .s .bool), (17, .s .bool), (126, .s (.int .u8)), (127, .s .bool)] (g_parseEmph.k10 R)) (.cond 127 (.leaf (sel [1, 1, 1, 1, 1, 1, 1, 1, 1, 1, 1, 1, 0, 1, 0, 1, 0] g_parseEmph.body)) (.seq (.leaf (sel [1, 1, 1, 1, 1, 1, 1, 1, 1, 1, 1, 1, 0, 1, 0, 1, 1, 0] g_parseEmph.body)) (.mark (leaf [(1, .s .str), (2, .s (.int .i64)), (11, .s (.int .i64)), (12, .s (.int .i32)), (13, .s (.int .i32)), (14, .s .bool), (15, .s .bool), (16, .s .bool), (17, .s .bool), (126, .s (.int .u8)), (144, .s .bool)] (g_parseEmph.k12 R)) (.cond 144 (.leaf (sel [1, 1, 1, 1, 1, 1, 1, 1, 1, 1, 1, 1, 0, 1, 0, 1, 1, 1, 0] g_parseEmph.body)) (.seq (.leaf (sel [1, 1, 1, 1, 1, 1, 1, 1, 1, 1, 1, 1, 0, 1, 0, 1, 1, 1, 1, 0] g_parseEmph.body)) (.cond 149 (.seq (.leaf (sel [1, 1, 1, 1, 1, 1, 1, 1, 1, 1, 1, 1, 0, 1, 0, 1, 1, 1, 1, 1, 0, 0] g_parseEmph.body)) (.mark (leaf [(1, .s .str), (2, .s (.int .i64)), (11, .s (.int .i64)), (13, .s (.int .i32)), (14, .s .bool), (15, .s .bool), (16, .s .bool)] (g_parseEmph.k13 R)) (.leaf (sel [1, 1, 1, 1, 1, 1, 1, 1, 1, 1, 1, 1, 0, 1, 0, 1, 1, 1, 1, 1, 0, 1] g_parseEmph.body)))) (.leaf (sel [1, 1, 1, 1, 1, 1, 1, 1, 1, 1, 1, 1, 0, 1, 0, 1, 1, 1, 1, 1, 1] g_parseEmph.body)))))))))))) (.mark (leaf [(1, .s .str), (2, .s (.int .i64)), (11, .s (.int .i64)), (16, .s .bool), (17, .s .bool)] (g_parseEmph.k11 R)) (.leaf (sel [1, 1, 1, 1, 1, 1, 1, 1, 1, 1, 1, 1, 1] g_parseEmph.body))))))))))))))))))))))
theorem g_parseEmph.good (R : EP) : Good P 184 (g_parseEmph.ac R) (QF P [.tmp 6, .tmp 7, .tmp 8, .tmp 9] R) :=
  ⟨trivial, ⟨trivial, ⟨trivial, ⟨⟨trivial, ⟨⟨(loopG (g_parseEmph.al1 R) (g_parseEmph.bl1 R) (fun _ => by kernel_rfl) (fun Xa => trivial) (fun Xa => by intro x0 x1 x2 x10 x11 ρ w; kernel_rfl) (fun X h _ _ _ _ _ _ g => g X h)), trivial⟩, cutE (by intro x0 x1 x2 x10 x11 x32 ρ w; kernel_rfl)⟩⟩, ⟨⟨⟨trivial, ⟨trivial, cutE (by intro x0 x1 x2 x10 x11 x53 ρ w; kernel_rfl)⟩⟩, ⟨⟨⟨trivial, ⟨trivial, cutE (by intro x1 x2 x10 x11 x64 ρ w; kernel_rfl)⟩⟩, ⟨trivial, ⟨trivial, ⟨⟨trivial, ⟨⟨trivial, ⟨⟨trivial, ⟨⟨trivial, ⟨⟨trivial, ⟨trivial, ⟨⟨trivial, ⟨trivial, ⟨⟨trivial, ⟨trivial, ⟨⟨trivial, ⟨trivial, cutE (by intro x1 x2 x11 x13 x14 x15 x16 ρ w; kernel_rfl)⟩⟩, trivial⟩⟩⟩, cutE (by intro x1 x2 x11 x12 x13 x14 x15 x16 x17 x126 x144 ρ w; kernel_rfl)⟩⟩⟩, cutE (by intro x1 x2 x11 x12 x13 x14 x15 x16 x17 x126 x127 ρ w; kernel_rfl)⟩⟩⟩, ⟨trivial, cutE (by intro x1 x2 x11 x16 x17 ρ w; kernel_rfl)⟩⟩⟩, cutE (by intro x1 x2 x10 x11 x12 x13 x14 x15 ρ w; kernel_rfl)⟩⟩, cutE (by intro x1 x2 x10 x11 x12 x13 x14 ρ w; kernel_rfl)⟩⟩, cutE (by intro x1 x2 x10 x11 x12 x13 ρ w; kernel_rfl)⟩⟩, cutE (by intro x1 x2 x10 x11 x12 ρ w; kernel_rfl)⟩⟩⟩⟩, cutE (by intro x1 x2 x10 x11 ρ w; kernel_rfl)⟩⟩, cutE (by intro x0 x1 x2 x10 x11 ρ w; kernel_rfl)⟩⟩⟩⟩⟩
theorem g_parseEmph.eq (R : EP) (x0 : OA) (x1 : BA) (x2 : Int) (w : World) : g_parseEmph R x0 x1 x2 w = vcA P 184 (g_parseEmph.ac R) (QF P [.tmp 6, .tmp 7, .tmp 8, .tmp 9] R) (fr0 [.pointer x0, .string x1, .int .i64 x2]) w := by kernel_rfl
theorem g_parseEmph.sound {R : EP} {x0 : OA} {x1 : ByteArray} {x2 : Int} {w : World} (h : g_parseEmph R x0 x1 x2 w) : callE P i_parseEmph #[.pointer x0, .string x1, .int .i64 x2] R w :=
  callE_fin (c := g_parseEmph.body) Tryz.func71 Tryz.call71 (by kernel_rfl) (by kernel_rfl) (by kernel_rfl) (by kernel_rfl) (by kernel_rfl) (g_parseEmph.good R) (g_parseEmph.eq R x0 x1 x2 w) h
/- 104 unicode/utf8.DecodeLastRuneInString -/
namespace g_unicode_utf8_DecodeLastRuneInString
noncomputable def body : Code := bodyOf Tryz.f104
def k2 (R : EP) (x0 : BA) (x4 : Int) (x5 : Int) (w : World) : Prop :=
 0 ≤ x5 ∧ x5 ≤ x4 ∧ x4 ≤ (x0.size : Int) ∧
 callE P i_unicode_utf8_DecodeRuneInString #[.string (x0.extract (Int.toNat x5) (Int.toNat x4))] (fun e w6 => ∃ (r5_0 : Int), ∃ (r5_1 : Int), e = .returned (.tuple #[.int .i32 r5_0, .int .i64 r5_1]) ∧
 br ((IntKind.i64.wrap (x5 + r5_1)) != x4)
 (R (.returned (.tuple #[.int .i32 65533, .int .i64 1])) w6)
 (R (.returned (.tuple #[.int .i32 r5_0, .int .i64 r5_1])) w6)) w

def k1 (R : EP) (x0 : BA) (x4 : Int) (x5 : Int) (w : World) : Prop :=
 br (decide (x5 < 0))
 (k2 R x0 x4 0 w)
 (k2 R x0 x4 x5 w)

def bl1 (R : EP) (Xa : BA → Int → Int → Int → WP) (x0 : BA) (x4 : Int) (x5 : Int) (x6 : Int) (w : World) : Prop :=
 br (decide (x5 ≥ x6))
 (0 ≤ x5 ∧ x5 < (x0.size : Int) ∧
 callE P i_unicode_utf8_RuneStart #[.int .u8 (bt x0 x5)] (fun e w4 => ∃ (r3 : Bool), e = .returned (.bool r3) ∧
 br r3
 (k1 R x0 x4 x5 w4)
 (Xa x0 x4 (IntKind.i64.wrap (x5 - 1)) x6 w4)) w)
 (k1 R x0 x4 x5 w)
def l1 (R : EP) (x0 : BA) (x4 : Int) (x5 : Int) (x6 : Int) (w : World) : Prop :=
  ∀ X : BA → Int → Int → Int → WP, (∀ x0 x4 x5 x6 w, bl1 R X x0 x4 x5 x6 w → X x0 x4 x5 x6 w) → X x0 x4 x5 x6 w

noncomputable def al1 (R : EP) (Xa : BA → Int → Int → Int → WP) : AC :=
  (.leaf (sel [1, 1, 1, 1, 1, 1, 1, 0, 1, 0, 0] body))
end g_unicode_utf8_DecodeLastRuneInString
def g_unicode_utf8_DecodeLastRuneInString (R : EP) (x0 : BA) (w : World) : Prop :=
 br ((x0.size : Int) == 0)
 (R (.returned (.tuple #[.int .i32 65533, .int .i64 0])) w)
 (0 ≤ (IntKind.i64.wrap ((x0.size : Int) - 1)) ∧ (IntKind.i64.wrap ((x0.size : Int) - 1)) < (x0.size : Int) ∧
 br (decide ((IntKind.i32.wrap (bt x0 (IntKind.i64.wrap ((x0.size : Int) - 1)))) < 128))
 (R (.returned (.tuple #[.int .i32 (IntKind.i32.wrap (bt x0 (IntKind.i64.wrap ((x0.size : Int) - 1)))), .int .i64 1])) w)
 (∃ (r1 : Int), ∃ w2, (Builtin.max_ #[ty_int, ty_int] ty_int #[.int .i64 (IntKind.i64.wrap ((x0.size : Int) - 4)), .int .i64 0]).run P w = .ok (.int .i64 r1) w2 ∧
 g_unicode_utf8_DecodeLastRuneInString.l1 R x0 (x0.size : Int) (IntKind.i64.wrap ((IntKind.i64.wrap ((x0.size : Int) - 1)) - 1)) r1 w2))

noncomputable def g_unicode_utf8_DecodeLastRuneInString.ac (R : EP) : AC :=
  (.seq (.leaf (sel [0] g_unicode_utf8_DecodeLastRuneInString.body)) (.seq (.leaf (sel [1, 0] g_unicode_utf8_DecodeLastRuneInString.body)) (.seq (.leaf (sel [1, 1, 0] g_unicode_utf8_DecodeLastRuneInString.body)) (.seq (.leaf (sel [1, 1, 1, 0] g_unicode_utf8_DecodeLastRuneInString.body)) (.seq (.leaf (sel [1, 1, 1, 1, 0] g_unicode_utf8_DecodeLastRuneInString.body)) (.seq (.leaf (sel [1, 1, 1, 1, 1, 0] g_unicode_utf8_DecodeLastRuneInString.body)) (.seq (.leaf (sel [1, 1, 1, 1, 1, 1, 0] g_unicode_utf8_DecodeLastRuneInString.body)) (.seq (.seq (.leaf (sel [1, 1, 1, 1, 1, 1, 1, 0, 0] g_unicode_utf8_DecodeLastRuneInString.body)) (.block 0 (.loop (leaf [(0, .s .str), (4, .s (.int .i64)), (5, .s (.int .i64)), (6, .s (.int .i64))] (g_unicode_utf8_DecodeLastRuneInString.l1 R)) (sel [1, 1, 1, 1, 1, 1, 1, 0, 1, 0, 0] g_unicode_utf8_DecodeLastRuneInString.body)))) (.mark (leaf [(0, .s .str), (4, .s (.int .i64)), (5, .s (.int .i64))] (g_unicode_utf8_DecodeLastRuneInString.k1 R)) (.seq (.leaf (sel [1, 1, 1, 1, 1, 1, 1, 1, 0] g_unicode_utf8_DecodeLastRuneInString.body)) (.mark (leaf [(0, .s .str), (4, .s (.int .i64)), (5, .s (.int .i64))] (g_unicode_utf8_DecodeLastRuneInString.k2 R)) (.leaf (sel [1, 1, 1, 1, 1, 1, 1, 1, 1] g_unicode_utf8_DecodeLastRuneInString.body)))))))))))))
theorem g_unicode_utf8_DecodeLastRuneInString.good (R : EP) : Good P 51 (g_unicode_utf8_DecodeLastRuneInString.ac R) (QF P [.tmp 2, .tmp 3] R) :=
  ⟨trivial, ⟨trivial, ⟨trivial, ⟨trivial, ⟨trivial, ⟨trivial, ⟨trivial, ⟨⟨trivial, (loopG (g_unicode_utf8_DecodeLastRuneInString.al1 R) (g_unicode_utf8_DecodeLastRuneInString.bl1 R) (fun _ => by kernel_rfl) (fun Xa => trivial) (fun Xa => by intro x0 x4 x5 x6 ρ w; kernel_rfl) (fun X h _ _ _ _ _ g => g X h))⟩, ⟨⟨trivial, ⟨trivial, cutE (by intro x0 x4 x5 ρ w; kernel_rfl)⟩⟩, cutE (by intro x0 x4 x5 ρ w; kernel_rfl)⟩⟩⟩⟩⟩⟩⟩⟩⟩
theorem g_unicode_utf8_DecodeLastRuneInString.eq (R : EP) (x0 : BA) (w : World) : g_unicode_utf8_DecodeLastRuneInString R x0 w = vcA P 51 (g_unicode_utf8_DecodeLastRuneInString.ac R) (QF P [.tmp 2, .tmp 3] R) (fr0 [.string x0]) w := by kernel_rfl
theorem g_unicode_utf8_DecodeLastRuneInString.sound {R : EP} {x0 : ByteArray} {w : World} (h : g_unicode_utf8_DecodeLastRuneInString R x0 w) : callE P i_unicode_utf8_DecodeLastRuneInString #[.string x0] R w :=
  callE_fin (c := g_unicode_utf8_DecodeLastRuneInString.body) Tryz.func104 Tryz.call104 (by kernel_rfl) (by kernel_rfl) (by kernel_rfl) (by kernel_rfl) (by kernel_rfl) (g_unicode_utf8_DecodeLastRuneInString.good R) (g_unicode_utf8_DecodeLastRuneInString.eq R x0 w) h
/- 105 unicode/utf8.DecodeRuneInString -/
namespace g_unicode_utf8_DecodeRuneInString
noncomputable def body : Code := bodyOf Tryz.f105
def k1 (R : EP) (x0 : BA) (x10 : Bool) (w : World) : Prop :=
 br x10
 (0 ≤ (0 : Int) ∧ 0 < (x0.size : Int) ∧
 R (.returned (.tuple #[.int .i32 (IntKind.i32.wrap (bt x0 0)), .int .i64 1])) w)
 (callE P i_unicode_utf8_decodeRuneInStringSlow #[.string x0] (fun e w2 => ∃ (r1_0 : Int), ∃ (r1_1 : Int), e = .returned (.tuple #[.int .i32 r1_0, .int .i64 r1_1]) ∧
 R (.returned (.tuple #[.int .i32 r1_0, .int .i64 r1_1])) w2) w)

end g_unicode_utf8_DecodeRuneInString
def g_unicode_utf8_DecodeRuneInString (R : EP) (x0 : BA) (w : World) : Prop :=
 ((!(x0.toList == (ByteArray.mk #[]).toList)) = true → 0 ≤ (0 : Int) ∧ 0 < (x0.size : Int)) ∧
 g_unicode_utf8_DecodeRuneInString.k1 R x0 ((!(x0.toList == (ByteArray.mk #[]).toList)) && (decide ((bt x0 0) < 128))) w

noncomputable def g_unicode_utf8_DecodeRuneInString.ac (R : EP) : AC :=
  (.seq (.leaf (sel [0] g_unicode_utf8_DecodeRuneInString.body)) (.seq (.seq (.leaf (sel [1, 0, 0] g_unicode_utf8_DecodeRuneInString.body)) (.mark (leaf [(0, .s .str), (10, .s .bool)] (g_unicode_utf8_DecodeRuneInString.k1 R)) (.leaf (sel [1, 0, 1] g_unicode_utf8_DecodeRuneInString.body)))) (.leaf (sel [1, 1] g_unicode_utf8_DecodeRuneInString.body))))
theorem g_unicode_utf8_DecodeRuneInString.good (R : EP) : Good P 19 (g_unicode_utf8_DecodeRuneInString.ac R) (QF P [.tmp 2, .tmp 3] R) :=
  ⟨trivial, ⟨⟨trivial, ⟨trivial, cutE (by intro x0 x10 ρ w; kernel_rfl)⟩⟩, trivial⟩⟩
theorem g_unicode_utf8_DecodeRuneInString.eq (R : EP) (x0 : BA) (w : World) : g_unicode_utf8_DecodeRuneInString R x0 w = vcA P 19 (g_unicode_utf8_DecodeRuneInString.ac R) (QF P [.tmp 2, .tmp 3] R) (fr0 [.string x0]) w := by kernel_rfl
theorem g_unicode_utf8_DecodeRuneInString.sound {R : EP} {x0 : ByteArray} {w : World} (h : g_unicode_utf8_DecodeRuneInString R x0 w) : callE P i_unicode_utf8_DecodeRuneInString #[.string x0] R w :=
  callE_fin (c := g_unicode_utf8_DecodeRuneInString.body) Tryz.func105 Tryz.call105 (by kernel_rfl) (by kernel_rfl) (by kernel_rfl) (by kernel_rfl) (by kernel_rfl) (g_unicode_utf8_DecodeRuneInString.good R) (g_unicode_utf8_DecodeRuneInString.eq R x0 w) h
end Go.Proofs.YtmicoampfglaiaaGreatDoor

/- A run of delimiters. -/
set_option linter.unusedVariables false
namespace Go.Proofs.YtmicoampfglaiaaGreatDoor
open Go.Proofs Go.IntWalk Go.RowKit
variable {σ : Out} {w : World} {L L' : List Chunk} {R : Ending → World → Prop}
def spB (c : UInt8) : Bool := c == 32 || c == 9 || c == 12 || c == 10
def puB (c : UInt8) : Bool := (33 ≤ c && c ≤ 47) || (58 ≤ c && c ≤ 64) || (91 ≤ c && c ≤ 96) || (123 ≤ c && c ≤ 126)
theorem u8_ltI (c : UInt8) {d : UInt8} (h : c < d) : ((c.toNat : Nat) : Int) < (d.toNat : Int) := by
  have := UInt8.lt_iff_toNat_lt.1 h
  omega
theorem u8_lt128 {c : UInt8} (h : c < 128) : ((c.toNat : Nat) : Int) < 128 := by
  have a := UInt8.lt_iff_toNat_lt.1 h
  have e : (128 : UInt8).toNat = 128 := rfl
  omega
theorem u8_le (c d : UInt8) : decide (((c.toNat : Nat) : Int) ≤ (d.toNat : Int)) = decide (c ≤ d) := by
  rw [decide_eq_decide, UInt8.le_iff_toNat_le]; omega
theorem isSpace_ok {c : UInt8} (hc : c < 128) (hR : R (.returned (.bool (spB c))) w) : callE P i_isUnicodeSpace #[.int .i32 (c.toNat : Int)] R w := by
  refine g_isUnicodeSpace.sound ?_
  unfold g_isUnicodeSpace
  rw [show decide (((c.toNat : Nat) : Int) < 128) = true from decide_eq_true (u8_lt128 hc)]
  refine br_true rfl ?_
  have e : (((((c.toNat : Nat) : Int) == 32) || (((c.toNat : Nat) : Int) == 9)) || (((c.toNat : Nat) : Int) == 12) || (((c.toNat : Nat) : Int) == 10)) = spB c := by
    have a := u8_beq c 32; have b := u8_beq c 9; have d := u8_beq c 12; have f := u8_beq c 10
    unfold spB
    rw [← a, ← b, ← d, ← f]; rfl
  rw [e]; exact hR
theorem isPunct_ok {c : UInt8} (hR : R (.returned (.bool (puB c))) w) : callE P i_isPunct #[.int .u8 (c.toNat : Int)] R w := by
  refine g_isPunct.sound ?_
  have le : ∀ d : UInt8, decide (((c.toNat : Nat) : Int) ≤ (d.toNat : Int)) = decide (c ≤ d) := fun d => u8_le c d
  have ge : ∀ d : UInt8, decide ((d.toNat : Int) ≤ ((c.toNat : Nat) : Int)) = decide (d ≤ c) := fun d => u8_le d c
  have e : (((((decide ((33 : Int) ≤ ((c.toNat : Nat) : Int))) && (decide (((c.toNat : Nat) : Int) ≤ 47))) || ((decide ((58 : Int) ≤ ((c.toNat : Nat) : Int))) && (decide (((c.toNat : Nat) : Int) ≤ 64)))) || ((decide ((91 : Int) ≤ ((c.toNat : Nat) : Int))) && (decide (((c.toNat : Nat) : Int) ≤ 96)))) || ((decide ((123 : Int) ≤ ((c.toNat : Nat) : Int))) && (decide (((c.toNat : Nat) : Int) ≤ 126)))) = puB c := by
    have a := ge 33; have b := le 47; have d := ge 58; have f := le 64; have g := ge 91; have h := le 96; have i := ge 123; have j := le 126
    unfold puB
    rw [← a, ← b, ← d, ← f, ← g, ← h, ← i, ← j]; rfl
  unfold g_isPunct
  rw [e]; exact hR
theorem isUPunct_ok {c : UInt8} (hc : c < 128) (hR : R (.returned (.bool (puB c))) w) : callE P i_isUnicodePunct #[.int .i32 (c.toNat : Int)] R w := by
  refine g_isUnicodePunct.sound ?_
  unfold g_isUnicodePunct
  rw [show decide (((c.toNat : Nat) : Int) < 128) = true from decide_eq_true (u8_lt128 hc)]
  refine br_true rfl ?_
  have e : IntKind.u8.wrap (c.toNat : Int) = (c.toNat : Int) := u8_in _ (by have := c.toNat_lt; omega)
  rw [e]
  exact isPunct_ok ⟨_, rfl, hR⟩
theorem i32_byte (c : UInt8) : IntKind.i32.wrap (c.toNat : Int) = (c.toNat : Int) := i32_in _ (by have := c.toNat_lt; omega)
theorem decodeRune_ok {c : UInt8} {l : List UInt8} (hc : c < 128) (hR : R (.returned (.tuple #[.int .i32 (c.toNat : Int), .int .i64 1])) w) : callE P i_unicode_utf8_DecodeRuneInString #[.string (bs (c :: l))] R w := by
  refine g_unicode_utf8_DecodeRuneInString.sound ?_
  have e : bt (bs (c :: l)) 0 = (c.toNat : Int) := bt_at (l := c :: l) (i := 0) (by simp)
  refine ⟨fun _ => ⟨by decide, by simp⟩, ?_⟩
  refine br_true ?_ ⟨by decide, by simp, ?_⟩
  · rw [e, show decide (((c.toNat : Nat) : Int) < 128) = true from decide_eq_true (u8_lt128 hc), bs_toList, mk_toList]; rfl
  · rw [e, i32_byte]; exact hR
theorem decodeLast_ok {c : UInt8} {l : List UInt8} (hl : l.length < 4611686018427387904) (hc : c < 128) (hR : R (.returned (.tuple #[.int .i32 (c.toNat : Int), .int .i64 1])) w) : callE P i_unicode_utf8_DecodeLastRuneInString #[.string (bs (l ++ [c]))] R w := by
  refine g_unicode_utf8_DecodeLastRuneInString.sound ?_
  have e1 : IntKind.i64.wrap ((((bs (l ++ [c])).size : Nat) : Int) - 1) = (l.length : Nat) := by
    rw [bs_size]; simp only [List.length_append, List.length_singleton]
    simp (disch := omega) only [i64_in]; omega
  have e : bt (bs (l ++ [c])) (l.length : Nat) = (c.toNat : Int) := by
    rw [bt_at (by simp)]; simp
  refine br_false (by simp; omega) ?_
  rw [e1, e, i32_byte]
  refine ⟨by omega, by simp; omega, ?_⟩
  rw [show decide (((c.toNat : Nat) : Int) < 128) = true from decide_eq_true (u8_lt128 hc)]
  exact br_true rfl hR
/-- The byte ahead of i, the byte at j; at the ends a space. -/
def befB (s : List UInt8) (i : Nat) : UInt8 := if i = 0 then 32 else s.getD (i - 1) 32
def aftB (s : List UInt8) (j : Nat) : UInt8 := s.getD j 32
def leftF (a b : UInt8) : Bool := !spB b && (!puB b || spB a || puB a)
def rightF (a b : UInt8) : Bool := !spB a && (!puB a || spB b || puB b)
theorem emph_k7 {s : List UInt8} {i j : Nat} {a b : UInt8} (hs : s.length < 4611686018427387904) (hij : i < j) (hj : j ≤ s.length) (ha : a < 128) (hb : b < 128) (h : Sat σ w L)
    (hR : ∀ w nb, Sat σ w ((nb, cel [.string (bs (sub s i j)), .bool (leftF a b), .bool (rightF a b), .int .i64 0, .int .i64 ((j - i : Nat) : Int)] ty_emphPlain) :: L) → R (.returned (.tuple #[ptrV ty_P_emphPlain nb, .int .i64 i, .int .i64 j, .bool true])) w) :
    g_parseEmph.k7 R (bs s) (i : Int) 42 (j : Int) (a.toNat : Int) (b.toNat : Int) w := by
  have hfin : ∀ w, Sat σ w L → g_parseEmph.k9 R (bs s) (i : Int) 42 (j : Int) (a.toNat : Int) (b.toNat : Int) (leftF a b) (rightF a b) w := by
    intro w h
    refine br_false rfl (br_false rfl (br_true rfl (br_true rfl ⟨by omega, by omega, by simp; omega, ?_⟩)))
    have e : IntKind.i64.wrap ((j : Int) - (i : Int)) = ((j - i : Nat) : Int) := by simp (disch := omega) only [i64_in]; omega
    rw [e, Int.toNat_natCast, Int.toNat_natCast, bs_extract]
    exact Sat.bx h fun nb w h => hR w nb h
  have h8 : ∀ w, Sat σ w L → g_parseEmph.k8 R (bs s) (i : Int) 42 (j : Int) (a.toNat : Int) (b.toNat : Int) (leftF a b) w := by
    intro w h
    refine isSpace_ok ha ⟨_, rfl, ?_⟩
    have hf := hfin w h
    unfold rightF at hf
    cases h1 : spB a with
    | true => rw [h1] at hf; exact br_false rfl hf
    | false =>
      rw [h1] at hf
      refine br_true rfl (isUPunct_ok ha ⟨_, rfl, ?_⟩)
      cases h2 : puB a with
      | false => rw [h2] at hf; exact br_true rfl hf
      | true =>
        rw [h2] at hf
        refine br_false rfl (isSpace_ok hb ⟨_, rfl, ?_⟩)
        cases h3 : spB b with
        | true => rw [h3] at hf; exact br_true rfl hf
        | false => rw [h3] at hf; exact br_false rfl (isUPunct_ok hb ⟨_, rfl, by simpa using hf⟩)
  refine isSpace_ok hb ⟨_, rfl, ?_⟩
  have hf := h8 w h
  unfold leftF at hf
  cases h1 : spB b with
  | true => rw [h1] at hf; exact br_false rfl hf
  | false =>
    rw [h1] at hf
    refine br_true rfl (isUPunct_ok hb ⟨_, rfl, ?_⟩)
    cases h2 : puB b with
    | false => rw [h2] at hf; exact br_true rfl hf
    | true =>
      rw [h2] at hf
      refine br_false rfl (isSpace_ok ha ⟨_, rfl, ?_⟩)
      cases h3 : spB a with
      | true => rw [h3] at hf; exact br_true rfl hf
      | false => rw [h3] at hf; exact br_false rfl (isUPunct_ok ha ⟨_, rfl, by simpa using hf⟩)
theorem parseStar_ok {q : Option Addr} {s : List UInt8} {i j : Nat} (hs : s.length < 4611686018427387904) (hij : i < j) (hj : j ≤ s.length) (hrun : ∀ k, i ≤ k → k < j → s.getD k 0 = 42) (hend : j < s.length → s.getD j 0 ≠ 42) (ha : befB s i < 128) (hb : aftB s j < 128) (h : Sat σ w L)
    (hR : ∀ w nb, Sat σ w ((nb, cel [.string (bs (sub s i j)), .bool (leftF (befB s i) (aftB s j)), .bool (rightF (befB s i) (aftB s j)), .int .i64 0, .int .i64 ((j - i : Nat) : Int)] ty_emphPlain) :: L) → R (.returned (.tuple #[ptrV ty_P_emphPlain nb, .int .i64 i, .int .i64 j, .bool true])) w) :
    callE P i_parseEmph #[.pointer q, .string (bs s), .int .i64 i] R w := by
  refine g_parseEmph.sound ?_
  have hgd : ∀ k (hk : k < s.length), s.getD k 0 = s[k] := by
    intro k hk; rw [List.getD_eq_getElem?_getD, List.getElem?_eq_getElem hk]; rfl
  have hc : bt (bs s) (i : Int) = 42 := by
    rw [bt_at (show i < s.length by omega), ← hgd, hrun i (by omega) hij]; rfl
  refine ⟨by omega, by simp; omega, ?_⟩
  rw [hc]
  refine br_true rfl ?_
  intro X hX
  rw [i64_inc (by omega)]
  have after : ∀ a : UInt8, a < 128 → a = befB s i → ∀ w, Sat σ w L → g_parseEmph.k6 R (bs s) (i : Int) 42 (j : Int) (a.toNat : Int) w := by
    intro a ha hae w h
    by_cases hjl : j < s.length
    · refine br_false (by simp; omega) ⟨by omega, by simp; omega, ?_⟩
      rw [Int.toNat_natCast, bs_size, bs_ext, List.drop_eq_getElem_cons hjl]
      have e : aftB s j = s[j] := by unfold aftB; rw [List.getD_eq_getElem?_getD, List.getElem?_eq_getElem hjl]; rfl
      refine decodeRune_ok (by rw [← e]; exact hb) ⟨_, _, rfl, ?_⟩
      rw [← e]
      exact emph_k7 hs hij hj ha hb h (by rw [hae]; exact hR)
    · refine br_true (by simp; omega) ?_
      have e : aftB s j = 32 := by unfold aftB; rw [List.getD_eq_getElem?_getD, List.getElem?_eq_none (by omega)]; rfl
      have := emph_k7 (b := 32) hs hij hj ha (by decide) h (by rw [hae, ← e]; exact hR)
      exact this
  have fin : g_parseEmph.k2 R q (bs s) (i : Int) 42 (j : Int) w := by
    by_cases hi0 : i = 0
    · refine br_true (by subst hi0; rfl) ?_
      exact after 32 (by decide) (by unfold befB; rw [if_pos hi0]) w h
    · refine br_false (by simp; omega) ⟨by omega, by simp; omega, ?_⟩
      rw [Int.toNat_natCast, bs_extract, List.drop_zero]
      have hil : i - 1 < s.length := by omega
      have e : befB s i = s[i - 1] := by unfold befB; rw [if_neg hi0, List.getD_eq_getElem?_getD, List.getElem?_eq_getElem hil]; rfl
      have e2 : s.take i = s.take (i - 1) ++ [s[i - 1]] := by
        have := List.take_succ_eq_append_getElem hil
        rwa [show i - 1 + 1 = i by omega] at this
      rw [e2]
      refine decodeLast_ok (by rw [List.length_take]; omega) (by rw [← e]; exact ha) ⟨_, _, rfl, ?_⟩
      rw [← e]
      exact after _ ha rfl w h
  have key : ∀ k m, i < m → m + k = j → X q (bs s) (i : Int) 42 (m : Int) w := by
    intro k
    induction k with
    | zero =>
      intro m him hmj
      obtain rfl : m = j := hmj
      refine hX _ _ _ _ _ _ ⟨fun h => ⟨by omega, by simpa using h⟩, br_false ?_ fin⟩
      by_cases hml : m < s.length
      · have := hend hml
        rw [bt_at hml, ← hgd m hml]
        have e : (((s.getD m 0).toNat : Nat) : Int) = 42 ↔ s.getD m 0 = 42 := by
          have h1 : (42 : UInt8).toNat = 42 := rfl
          constructor
          · intro h; exact UInt8.toNat_inj.1 (by omega)
          · intro h; rw [h]; rfl
        rw [Bool.and_eq_false_iff]; right
        rw [beq_eq_false_iff_ne]
        exact fun h => this (e.1 h)
      · simp; omega
    | succ k ih =>
      intro m him hmj
      have hml : m < s.length := by omega
      refine hX _ _ _ _ _ _ ⟨fun h => ⟨by omega, by simpa using h⟩, br_true ?_ ?_⟩
      · rw [bt_at hml, ← hgd m hml, hrun m (by omega) (by omega)]
        simp; omega
      · rw [i64_inc (by omega)]
        exact ih (m + 1) (by omega) (by omega)
  exact key (j - (i + 1)) (i + 1) (by omega) (by omega)
theorem parseStar_leaf {b i j : Nat} {p : PS} {s : List UInt8} (hs : s.length < 4611686018427387904) (hij : i < j) (hj : j ≤ s.length) (hrun : ∀ k, i ≤ k → k < j → s.getD k 0 = 42) (hend : j < s.length → s.getD j 0 ≠ 42) (ha : befB s i < 128) (hb : aftB s j < 128) :
    LeafOK b p s i (.func (.func i_parseEmph) #[] #[]) [] (some (.emphP (sub s i j) (leftF (befB s i) (aftB s j)) (rightF (befB s i) (aftB s j)) 0 ((j - i : Nat) : Int), i, j)) (fun p' => p' = p) := by
  intro σ R L w _ h hR
  refine enter_fn ?_
  exact parseStar_ok hs hij hj hrun hend ha hb h fun w nb h => hR w p _ _ rfl rfl ⟨nb, _, rfl, rfl⟩ h.up1
end Go.Proofs.YtmicoampfglaiaaGreatDoor

/- The loop that looks for inlines, round by round (no brackets, no code). -/
set_option linter.unusedVariables false
namespace Go.Proofs.YtmicoampfglaiaaGreatDoor
open Go.Proofs Go.IntWalk Go.RowKit
variable {σ : Out} {w : World} {L L' : List Chunk} {R : Ending → World → Prop}
/-- The loop is at byte i; what lies ahead of e is among the inlines ts. -/
def AtI (X : XI) (σ : Out) (b : Nat) (p0 : PS) (raw : List UInt8) (L : List Chunk) (i e : Nat) (ts : List Inl) : Prop :=
  ∀ w (p : PS) oq on oc, p.coreS = p0.coreS → p.s = raw → p.em = (e : Int) → IIn σ b p ts [] oq on oc L w → X (some ⟨b, 0, none⟩) (bs raw) oq on oc 0 false (i : Int) w
def LoopX (R : Ending → World → Prop) (X : XI) (b : Nat) (raw : List UInt8) : Prop :=
  ∀ oq on oc (i : Int) w, g_parseState_inline.bl1 R X (some ⟨b, 0, none⟩) (bs raw) oq on oc 0 false i w → X (some ⟨b, 0, none⟩) (bs raw) oq on oc 0 false i w
theorem PS.pz_of {p p0 : PS} (h : p.coreS = p0.coreS) : p.pz = p0.pz := by have := congrArg PS.pz h; exact this
theorem PS.coreS_of {p' p p0 : PS} (h1 : p'.core = p.core) (h2 : p.coreS = p0.coreS) : p'.coreS = p0.coreS := by
  rw [← h2]
  have := congrArg (fun q : PS => ({ q with s := [] } : PS)) h1
  exact this
theorem AtI.plain {X : XI} {b pb i e : Nat} {p0 : PS} {raw : List UInt8} {ts : List Inl} {o : Opt} (hX : LoopX R X b raw) (hi : i < raw.length) (hs : raw.length < 1000000000) (hpz : p0.pz = some ⟨pb, 0, none⟩) (ho : o.at pb ∈ L) (hp : parserOf o raw[i] = .nil) (h93 : raw[i] ≠ 93)
    (h : AtI X σ b p0 raw L (i + 1) e ts) : AtI X σ b p0 raw L i e ts := by
  intro w p oq on oc hc hraw he hI
  refine hX _ _ _ _ _ ?_
  obtain ⟨vs, RM, EM, OM, hS, hIn, hO, hlen, hsat⟩ := hI
  refine inl_dispatch (p := p) hi (by omega) (by rw [PS.pz_of hc, hpz]) (.head _) (.tail _ (List.mem_append_right _ (List.mem_append_right _ (List.mem_append_right _ ho)))) hsat ?_
  rw [hp]
  exact inl_none (inl_k5 hi (by omega) (.inl h93) (h w p oq on oc hc hraw he ⟨vs, RM, EM, OM, hS, hIn, hO, hlen, hsat⟩))
theorem AtI.leaf {X : XI} {b pb i e st en : Nat} {p0 : PS} {raw : List UInt8} {ts : List Inl} {o : Opt} {f : FuncId} {t : Inl} {L0 : List Chunk} {Q : PS → PS → Prop} (hX : LoopX R X b raw) (hi : i < raw.length) (hs : raw.length < 1000000000) (hpz : p0.pz = some ⟨pb, 0, none⟩) (ho : o.at pb ∈ L)
    (hp : parserOf o raw[i] = .fn f) (hL0 : ∀ c ∈ L0, c ∈ L) (hf : ∀ p : PS, p.coreS = p0.coreS → p.s = raw → LeafOK b p raw i (.func (.func f) #[] #[]) L0 (some (t, st, en)) (Q p)) (ht : t.isOpen = false) (hst : st ≤ raw.length) (hn : ts.length < 1000000000)
    (h : AtI X σ b p0 raw L en en (emitM raw e st ts ++ [t])) : AtI X σ b p0 raw L i e ts := by
  intro w p oq on oc hc hraw he hI
  refine hX _ _ _ _ _ ?_
  obtain ⟨vs, RM, EM, OM, hS, hIn, hO, hlen, hsat⟩ := hI
  refine inl_dispatch (p := p) hi (by omega) (by rw [PS.pz_of hc, hpz]) (.head _) (.tail _ (List.mem_append_right _ (List.mem_append_right _ (List.mem_append_right _ ho)))) hsat ?_
  rw [hp]
  dsimp only
  have hleaf := hf p hc hraw
  subst hraw
  refine inl_leaf ⟨vs, RM, EM, OM, hS, hIn, hO, hlen, hsat⟩ hL0 hleaf he hst hs hn (by simp) fun w p2 oq on oc hp2 hem2 _ h2 => ?_
  rw [ht] at h2
  refine h w p2 oq on oc (PS.coreS_of hp2 hc) ?_ hem2 h2
  have := congrArg PS.s hp2; exact this
theorem AtI.decl {X : XI} {b pb i e : Nat} {p0 : PS} {raw : List UInt8} {ts : List Inl} {o : Opt} {f : FuncId} {L0 : List Chunk} (hX : LoopX R X b raw) (hi : i < raw.length) (hs : raw.length < 1000000000) (hpz : p0.pz = some ⟨pb, 0, none⟩) (ho : o.at pb ∈ L)
    (hp : parserOf o raw[i] = .fn f) (h93 : raw[i] ≠ 93) (hL0 : ∀ c ∈ L0, c ∈ L) (hf : ∀ p : PS, p.coreS = p0.coreS → p.s = raw → LeafOK b p raw i (.func (.func f) #[] #[]) L0 none (fun p' => p' = p))
    (h : AtI X σ b p0 raw L (i + 1) e ts) : AtI X σ b p0 raw L i e ts := by
  intro w p oq on oc hc hraw he hI
  refine hX _ _ _ _ _ ?_
  obtain ⟨vs, RM, EM, OM, hS, hIn, hO, hlen, hsat⟩ := hI
  refine inl_dispatch (p := p) hi (by omega) (by rw [PS.pz_of hc, hpz]) (.head _) (.tail _ (List.mem_append_right _ (List.mem_append_right _ (List.mem_append_right _ ho)))) hsat ?_
  rw [hp]
  dsimp only
  have hleaf := hf p hc hraw
  subst hraw
  refine inl_decl ⟨vs, RM, EM, OM, hS, hIn, hO, hlen, hsat⟩ hL0 hleaf fun w p2 _ hp2 h2 => ?_
  subst hp2
  exact inl_k5 hi (by omega) (.inl h93) (h w p2 oq on oc hc rfl he h2)
theorem AtI.fin {X : XI} {b pb e : Nat} {p0 : PS} {raw : List UInt8} {ts ts' : List Inl} {o : Opt} (hX : LoopX R X b raw) (hs : raw.length < 1000000000) (hpz : p0.pz = some ⟨pb, 0, none⟩) (ho : o.at pb ∈ L) (hoff : o.auto = false) (hn : ts.length < 1000000000)
    (hE : EmphOK (emitM raw e raw.length ts) ts') (hpos : ∀ t ∈ ts', ∀ s, t.plain? = some s → s ≠ []) (hb : plen ts' < 1073741824)
    (hR : ∀ w (p' : PS) q n c vs RM EM, p'.coreS = p0.coreS → Sl 1 ty_Inline q n c vs RM → n < 1073741824 → InlsAt (mergeM ts') vs EM → Sat σ w (p'.at b :: (RM ++ (EM ++ L))) → R (.returned (.slice q n c)) w) :
    AtI X σ b p0 raw L raw.length e ts := by
  intro w p oq on oc hc hraw he hI
  refine hX _ _ _ _ _ ?_
  subst hraw
  exact inl_end hI he hs hn (by rw [PS.pz_of hc, hpz]) ho hoff hE hpos hb fun w p2 q n c vs RM EM hp2 hS hn hI h => hR w p2 q n c vs RM EM (PS.coreS_of hp2 hc) hS hn hI h
theorem AtI.star {X : XI} {b pb i j e : Nat} {p0 : PS} {raw : List UInt8} {ts : List Inl} {o : Opt} (hX : LoopX R X b raw) (hij : i < j) (hj : j ≤ raw.length) (hs : raw.length < 1000000000) (hpz : p0.pz = some ⟨pb, 0, none⟩) (ho : o.at pb ∈ L)
    (hrun : ∀ k, i ≤ k → k < j → raw.getD k 0 = 42) (hend : j < raw.length → raw.getD j 0 ≠ 42) (ha : befB raw i < 128) (hb : aftB raw j < 128) (hn : ts.length < 1000000000)
    (h : AtI X σ b p0 raw L j j (emitM raw e i ts ++ [.emphP (sub raw i j) (leftF (befB raw i) (aftB raw j)) (rightF (befB raw i) (aftB raw j)) 0 ((j - i : Nat) : Int)])) : AtI X σ b p0 raw L i e ts := by
  have hc : raw[i]'(by omega) = 42 := by
    have := hrun i (by omega) hij
    rw [List.getD_eq_getElem?_getD, List.getElem?_eq_getElem (show i < raw.length by omega)] at this
    exact this
  refine AtI.leaf (Q := fun p p' => p' = p) hX (by omega) hs hpz ho (f := i_parseEmph) ?_ (L0 := []) (by simp) (fun p hp hr => parseStar_leaf (by omega) hij hj hrun hend ha hb) rfl (by omega) hn h
  rw [hc]; rfl
end Go.Proofs.YtmicoampfglaiaaGreatDoor

/- Small lemmas on lists, and the options that are all off. -/
set_option linter.unusedVariables false
namespace Go.Proofs.YtmicoampfglaiaaGreatDoor
open Go.Proofs
theorem sub_length {s : List UInt8} {i j : Nat} (h : j ≤ s.length) : (sub s i j).length = j - i := by unfold sub; rw [List.length_drop, List.length_take]; omega
theorem getD_app {a b : List UInt8} {k : Nat} (h : a.length ≤ k) : (a ++ b).getD k 0 = b.getD (k - a.length) 0 := by
  rw [List.getD_eq_getElem?_getD, List.getElem?_append_right h, ← List.getD_eq_getElem?_getD]
theorem getD_app' {a b : List UInt8} {k : Nat} {d : UInt8} (h : k < a.length) : (a ++ b).getD k d = a.getD k d := by
  rw [List.getD_eq_getElem?_getD, List.getElem?_append_left h, ← List.getD_eq_getElem?_getD]
theorem sub_mid (A B C : List UInt8) : sub (A ++ (B ++ C)) A.length (A.length + B.length) = B := by
  unfold sub
  rw [← List.append_assoc, show A.length + B.length = (A ++ B).length by simp, List.take_left, List.drop_left]
theorem getD_mid (A C : List UInt8) (b d : UInt8) : (A ++ (b :: C)).getD A.length d = b := by
  rw [List.getD_eq_getElem?_getD, List.getElem?_append_right (Nat.le_refl _), Nat.sub_self]; rfl
theorem getElem_getD {l : List UInt8} {i : Nat} (h : i < l.length) (d : UInt8) : l[i] = l.getD i d := by
  rw [List.getD_eq_getElem?_getD, List.getElem?_eq_getElem h]; rfl
def optOff : Opt := ⟨false, false, false, false, false, false, false, false, false, false⟩
end Go.Proofs.YtmicoampfglaiaaGreatDoor

set_option linter.unusedVariables false
set_option maxRecDepth 20000
namespace Go.Proofs.YtmicoampfglaiaaGreatDoor
open Go.Proofs
/- 72 pub-paratext/pub/rscmarkdown.parseDot -/
namespace g_parseDot
noncomputable def body : Code := bodyOf Tryz.f72
def k1 (R : EP) (x2 : Int) (x28 : Bool) (w : World) : Prop :=
 br x28
 (box w #[.string (ByteArray.mk #[226, 128, 166])] ty_Plain fun b1 w2 =>
 R (.returned (.tuple #[.iface ty_P_Plain (.pointer (some ⟨b1, 0, none⟩)), .int .i64 x2, .int .i64 (IntKind.i64.wrap (x2 + 3)), .bool true])) w2)
 (R (.returned (.tuple #[.nilIface, .int .i64 0, .int .i64 0, .bool false])) w)

end g_parseDot
def g_parseDot (R : EP) (x0 : OA) (x1 : BA) (x2 : Int) (w : World) : Prop :=
 ((decide ((IntKind.i64.wrap (x2 + 2)) < (x1.size : Int))) = true → 0 ≤ (IntKind.i64.wrap (x2 + 1)) ∧ (IntKind.i64.wrap (x2 + 1)) < (x1.size : Int)) ∧
 (((decide ((IntKind.i64.wrap (x2 + 2)) < (x1.size : Int))) && ((bt x1 (IntKind.i64.wrap (x2 + 1))) == 46)) = true → 0 ≤ (IntKind.i64.wrap (x2 + 2)) ∧ (IntKind.i64.wrap (x2 + 2)) < (x1.size : Int)) ∧
 g_parseDot.k1 R x2 (((decide ((IntKind.i64.wrap (x2 + 2)) < (x1.size : Int))) && ((bt x1 (IntKind.i64.wrap (x2 + 1))) == 46)) && ((bt x1 (IntKind.i64.wrap (x2 + 2))) == 46)) w

noncomputable def g_parseDot.ac (R : EP) : AC :=
  (.seq (.leaf (sel [0] g_parseDot.body)) (.seq (.seq (.leaf (sel [1, 0, 0] g_parseDot.body)) (.mark (leaf [(2, .s (.int .i64)), (28, .s .bool)] (g_parseDot.k1 R)) (.leaf (sel [1, 0, 1] g_parseDot.body)))) (.leaf (sel [1, 1] g_parseDot.body))))
theorem g_parseDot.good (R : EP) : Good P 35 (g_parseDot.ac R) (QF P [.tmp 6, .tmp 7, .tmp 8, .tmp 9] R) :=
  ⟨trivial, ⟨⟨trivial, ⟨trivial, cutE (by intro x2 x28 ρ w; kernel_rfl)⟩⟩, trivial⟩⟩
theorem g_parseDot.eq (R : EP) (x0 : OA) (x1 : BA) (x2 : Int) (w : World) : g_parseDot R x0 x1 x2 w = vcA P 35 (g_parseDot.ac R) (QF P [.tmp 6, .tmp 7, .tmp 8, .tmp 9] R) (fr0 [.pointer x0, .string x1, .int .i64 x2]) w := by kernel_rfl
theorem g_parseDot.sound {R : EP} {x0 : OA} {x1 : ByteArray} {x2 : Int} {w : World} (h : g_parseDot R x0 x1 x2 w) : callE P i_parseDot #[.pointer x0, .string x1, .int .i64 x2] R w :=
  callE_fin (c := g_parseDot.body) Tryz.func72 Tryz.call72 (by kernel_rfl) (by kernel_rfl) (by kernel_rfl) (by kernel_rfl) (by kernel_rfl) (g_parseDot.good R) (g_parseDot.eq R x0 x1 x2 w) h
end Go.Proofs.YtmicoampfglaiaaGreatDoor
