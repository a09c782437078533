/- Part 5 of the proof of the law FnFenceTicks: for every input the law returns true, the inputs read as they did, and memory that was there is as it was; under the conditions of the given row alone. -/
import Derived.Laws.RangeString
import Derived.Laws.StructEq
import Derived.SliceStrings
import Derived.WideKeyArgs
import Derived.Below
import Derived.OpenShut
import Derived.ChangeMaps5
import Derived.MakeChecks
import Derived.LaidSub
import Derived.FnData
import Derived.Test.YtihmcipajjakgaaGreatDoorA4
set_option linter.all false
set_option linter.unusedVariables false
namespace Go.Proofs.YtihmcipajjakgaaGreatDoor
open Go.Proofs Go.IntWalk Go.RowKit
variable {σ : Out} {w : World} {L L' : List Chunk} {R : Ending → World → Prop}
structure TX where
  t : Nat
  s : Nat
  e : Nat
  raw : List UInt8
def TX.chunk (x : TX) : Chunk := textC x.t x.s x.e none 0 0 x.raw
structure DB where
  v : Value
  own : List Chunk
  txs : List TX
def ownC (D : List DB) : List Chunk := D.flatMap DB.own
def txsC (D : List DB) : List TX := D.flatMap DB.txs
theorem ownC_snoc (D : List DB) (d : DB) : ownC (D ++ [d]) = ownC D ++ d.own := by simp [ownC]
theorem txsC_snoc (D : List DB) (d : DB) : txsC (D ++ [d]) = txsC D ++ d.txs := by simp [txsC]
def paraOB (qb s e : Nat) : OB := ⟨.iface ty_P_paraBuilder (.pointer (some ⟨qb, 0, none⟩)), none, 0, 0, s, e⟩
theorem lines_join {q : Option Addr} {n c : Nat} {ts : List (List UInt8)} {AM : List Chunk} (hS : Sl 1 ty_string q n c (ts.map fun t => .string (bs t)) AM) (h : Sat σ w (AM ++ L)) (hne : ts ≠ []) (hn : ts.length < 1048576)
    (h0 : joinL [10] ts ≠ []) (hb : (joinL [10] ts).length < 1073741824) (hR : ∀ w, Sat σ w (AM ++ L) → R (.returned (.string (bs (joinL [10] ts)))) w) : callE P i_strings_Join #[.slice q n c, .string (bs [10])] R w := by
  have hl := hS.1
  simp only [List.length_map, Nat.mul_one] at hl
  match ts, hne with
  | [t], _ =>
    obtain rfl : n = 1 := by simpa using hl.symm
    have e : joinL [10] [t] = t := by simp [joinL]
    rw [e] at hR
    exact join_one h hS hR
  | t :: u :: ts, _ =>
    exact join_ok (t := t) (ts := u :: ts) hS h (by simp) (by omega) (by decide) (List.length_pos_iff.2 h0) hb hR
theorem paraBuild_ok {b qb : Nat} {p : PS} {ob : List OB} {o : OB} {M TM PM : List Chunk} {ts : List Nat} {ls : List (List UInt8)} {s : List UInt8} (h : Sat σ w (p.at b :: M ++ (TM ++ (PM ++ L)))) (hs : Stk p (ob ++ [o]) M)
    (ht : Txts p ts TM) (hts : ts.length < 1048575) (hp : ParaAt qb ls PM) (hls : ls ≠ []) (hln : ls.length < 1048576) (hj : joinL [10] ls = s) (hl : s.length < 1073741824) (hne : s ≠ []) (hb : NoRef s) (ho : o.s < 1000000000)
    (hR : ∀ w p' TM' t nb, p' = { p with tq := p'.tq, tn := ts.length + 1, tc := p'.tc } → Txts p' (ts ++ [t]) TM' →
      Sat σ w (p'.at b :: M ++ (TM' ++ (PM ++ (paraC nb o.s (o.s + ls.length - 1) t :: textC t o.s (o.s + ls.length - 1) none 0 0 s :: L)))) → R (.returned (.iface ty_P_Paragraph (.pointer (some ⟨nb, 0, none⟩)))) w) :
    callE P i_paraBuilder_build #[.pointer (some ⟨qb, 0, none⟩), .iface ty_P_parseState (.pointer (some ⟨b, 0, none⟩))] R w := by
  obtain ⟨q, c, SM, hS, rfl⟩ := hp
  have hll : 1 ≤ ls.length := List.length_pos_iff.2 hls
  refine g_paraBuilder_build.sound ?_
  have h : Sat σ w (p.at b :: M ++ (TM ++ (((qb, cel [.slice q ls.length c, .pointer none] ty_paraBuilder) :: SM) ++ L))) := h
  have h : Sat σ w ((qb, cel [.slice q ls.length c, .pointer none] ty_paraBuilder) :: (SM ++ (p.at b :: M ++ (TM ++ L)))) := h.re (by intro _; simp only [List.append_eq, cnt_append, cnt_cons, cnt_nil] <;> omega)
  repeat (first | refine nilP_some ?_ | refine Sat.tk h fun w h => ?_ | refine ⟨_, Sat.ld h (by first | assumption | (repeat (first | exact .head _ | apply List.Mem.tail))) (by exact rfl), ?_⟩ | refine ⟨_, _, _, Sat.ld h (by first | assumption | (repeat (first | exact .head _ | apply List.Mem.tail))) (by exact rfl), ?_⟩)
  refine ⟨_, w, ne_ptr_nil und_table _ _ _ w, br_false rfl ?_⟩
  repeat (first | refine nilP_some ?_ | refine Sat.tk h fun w h => ?_ | refine ⟨_, Sat.ld h (by first | assumption | (repeat (first | exact .head _ | apply List.Mem.tail))) (by exact rfl), ?_⟩ | refine ⟨_, _, _, Sat.ld h (by first | assumption | (repeat (first | exact .head _ | apply List.Mem.tail))) (by exact rfl), ?_⟩)
  have h : Sat σ w (SM ++ ((qb, cel [.slice q ls.length c, .pointer none] ty_paraBuilder) :: (p.at b :: M ++ (TM ++ L)))) := h.re (by intro _; simp only [List.append_eq, cnt_append, cnt_cons, cnt_nil] <;> omega)
  refine lines_join hS h hls hln (by rw [hj]; exact hne) (by rw [hj]; exact hl) fun w h => ⟨_, rfl, ?_⟩
  rw [hj]
  intro X hX
  have hse : ((bs s).toList == (ByteArray.mk #[]).toList) = false := by rw [bs_toList, mk_toList]; simpa using hne
  refine hX _ _ _ _ (br_true (by rw [hse]; rfl) ?_)
  refine hb _ _ _ ⟨_, _, rfl, br_true rfl ?_⟩
  refine br_false hse ?_
  have h : Sat σ w (p.at b :: M ++ (TM ++ (SM ++ (qb, cel [.slice q ls.length c, .pointer none] ty_paraBuilder) :: L))) := h.re (by intro _; simp only [List.append_eq, cnt_append, cnt_cons, cnt_nil] <;> omega)
  refine enter_meth meth_pos ?_
  refine pos_ok h hs fun w h => ⟨_, _, rfl, ?_⟩
  refine Sat.bx h fun zb w h => ?_
  repeat (first | refine nilP_some ?_ | refine Sat.tk h fun w h => ?_ | refine ⟨_, Sat.ld h (by first | assumption | (repeat (first | exact .head _ | apply List.Mem.tail))) (by exact rfl), ?_⟩ | refine ⟨_, _, _, Sat.ld h (by first | assumption | (repeat (first | exact .head _ | apply List.Mem.tail))) (by exact rfl), ?_⟩ | refine Sat.st h (k := 0) rfl (Nat.le_of_ble_eq_true rfl) trivial (by first | (dsimp only [List.set]; exact rfl) | exact rfl) fun w h => ?_ | refine Sat.st h (k := 1) rfl (Nat.le_of_ble_eq_true rfl) trivial (by first | (dsimp only [List.set]; exact rfl) | exact rfl) fun w h => ?_ | refine Sat.st h (k := 2) rfl (Nat.le_of_ble_eq_true rfl) trivial (by first | (dsimp only [List.set]; exact rfl) | exact rfl) fun w h => ?_ | refine Sat.st h (k := 3) rfl (Nat.le_of_ble_eq_true rfl) trivial (by first | (dsimp only [List.set]; exact rfl) | exact rfl) fun w h => ?_ | refine Sat.st h (k := 4) rfl (Nat.le_of_ble_eq_true rfl) trivial (by first | (dsimp only [List.set]; exact rfl) | exact rfl) fun w h => ?_ | refine Sat.st h (k := 5) rfl (Nat.le_of_ble_eq_true rfl) trivial (by first | (dsimp only [List.set]; exact rfl) | exact rfl) fun w h => ?_ | refine Sat.st h (k := 6) rfl (Nat.le_of_ble_eq_true rfl) trivial (by first | (dsimp only [List.set]; exact rfl) | exact rfl) fun w h => ?_ | refine Sat.bx h fun b0 w h => ?_)
  have h : Sat σ _ ((zb, cel [.int .i64 o.s, .int .i64 o.e] ty_Position) :: (p.at b :: M ++ (TM ++ (SM ++ (qb, cel [.slice q ls.length c, .pointer none] ty_paraBuilder) :: L)))) := h
  have h : Sat σ _ ((zb, cel [.int .i64 o.s, .int .i64 o.e] ty_Position) :: (qb, cel [.slice q ls.length c, .pointer none] ty_paraBuilder) :: (p.at b :: M ++ (TM ++ (SM ++ L)))) := h.re (by intro _; simp only [List.append_eq, cnt_append, cnt_cons, cnt_nil] <;> omega)
  refine ⟨_, _, _, Sat.ld h (by first | assumption | (repeat (first | exact .head _ | apply List.Mem.tail))) (by exact rfl), ?_⟩
  refine Sat.st h (k := 0) rfl (Nat.le_of_ble_eq_true rfl) trivial (by first | (dsimp only [List.set]; exact rfl) | exact rfl) fun w h => ?_
  refine Sat.tk h fun w h => ?_
  refine ⟨_, Sat.ld h (by first | assumption | (repeat (first | exact .head _ | apply List.Mem.tail))) (by exact rfl), ?_⟩
  refine ⟨_, Sat.ld h (by first | assumption | (repeat (first | exact .head _ | apply List.Mem.tail))) (by exact rfl), ?_⟩
  refine ⟨_, Sat.ld h (by first | assumption | (repeat (first | exact .head _ | apply List.Mem.tail))) (by exact rfl), ?_⟩
  refine ⟨_, Sat.ld h (by first | assumption | (repeat (first | exact .head _ | apply List.Mem.tail))) (by exact rfl), ?_⟩
  have e1 : IntKind.i64.wrap (IntKind.i64.wrap ((o.s : Int) + ((ls.length : Nat) : Int)) - 1) = ((o.s + ls.length - 1 : Nat) : Int) := by
    rw [i64_in (_ + _) (by omega), i64_in _ (by omega)]; omega
  rw [e1] at h ⊢
  have h : Sat σ _ ((zb, cel [.int .i64 o.s, .int .i64 (o.s + ls.length - 1 : Nat)] ty_Position) :: (qb, cel [.slice q ls.length c, .pointer none] ty_paraBuilder) :: (p.at b :: M ++ (TM ++ (SM ++ L)))) := h
  have hz := h
  have h : Sat σ _ (p.at b :: TM ++ ((zb, cel [.int .i64 o.s, .int .i64 (o.s + ls.length - 1 : Nat)] ty_Position) :: (qb, cel [.slice q ls.length c, .pointer none] ty_paraBuilder) :: (M ++ (SM ++ L)))) := h.re (by intro _; simp only [List.append_eq, cnt_append, cnt_cons, cnt_nil] <;> omega)
  refine enter_meth meth_newText ?_
  refine newText_ok h ht hts fun w p' TM' t hp' ht' h => ⟨_, rfl, ?_⟩
  refine ⟨hz.same h (.head _) (by simp) 2, ?_⟩
  refine Sat.bx h fun nb w h => ?_
  have h : Sat σ w (paraC nb o.s (o.s + ls.length - 1) t :: (p'.at b :: TM' ++ (textC t o.s (o.s + ls.length - 1) none 0 0 s :: ((zb, cel [.int .i64 o.s, .int .i64 (o.s + ls.length - 1 : Nat)] ty_Position) :: (qb, cel [.slice q ls.length c, .pointer none] ty_paraBuilder) :: (M ++ (SM ++ L)))))) := h
  refine hR w p' TM' t nb hp' ht' ?_
  have h := Sat.less (L' := p'.at b :: M ++ (TM' ++ (((qb, cel [.slice q ls.length c, .pointer none] ty_paraBuilder) :: SM) ++ (paraC nb o.s (o.s + ls.length - 1) t :: textC t o.s (o.s + ls.length - 1) none 0 0 s :: L)))) [(zb, cel [.int .i64 o.s, .int .i64 (o.s + ls.length - 1 : Nat)] ty_Position)] h (by intro _; simp only [List.append_eq, cnt_append, cnt_cons, cnt_nil] <;> omega)
  exact h
theorem closePara_ok {b qb : Nat} {p : PS} {ob : List OB} {par o : OB} {M TM PM IM : List Chunk} {inner : List Value} {ts : List Nat} {ls : List (List UInt8)} {s : List UInt8} (h : Sat σ w (p.at b :: M ++ (IM ++ (TM ++ (PM ++ L))))) (hs : Stk p (ob ++ [par] ++ [o]) M)
    (ho : o.bd = .iface ty_P_paraBuilder (.pointer (some ⟨qb, 0, none⟩))) (hI : Sl 1 ty_Block par.q par.n par.c inner IM) (hin : par.n < 1000000)
    (ht : Txts p ts TM) (hts : ts.length < 1048575) (hp : ParaAt qb ls PM) (hls : ls ≠ []) (hln : ls.length < 1048576) (hj : joinL [10] ls = s) (hl : s.length < 1073741824) (hne : s ≠ []) (hb : NoRef s) (hos : o.s < 1000000000)
    (hR : ∀ w p' M' IM' TM' t nb q' c' x, p' = { p with stn := ob.length + 1, tq := p'.tq, tn := ts.length + 1, tc := p'.tc } → Stk p' (ob ++ [{ par with q := q', n := par.n + 1, c := c' }]) M' → Txts p' (ts ++ [t]) TM' →
      Sl 1 ty_Block q' (par.n + 1) c' (inner ++ [.iface ty_P_Paragraph (.pointer (some ⟨nb, 0, none⟩))]) IM' →
      Sat σ w (p'.at b :: M' ++ (IM' ++ (TM' ++ (paraC nb o.s (o.s + ls.length - 1) t :: textC t o.s (o.s + ls.length - 1) none 0 0 s :: L)))) → R (.returned x) w) :
    callE P i_parseState_closeBlock #[.pointer (some ⟨b, 0, none⟩)] R w := by
  refine closeBlock_ok (ob := ob) (par := par) (IM := IM) (inner := inner) (fun p1 L1 tb q => ∃ TM' t nb, p1 = { p with tq := p1.tq, tn := ts.length + 1, tc := p1.tc } ∧ Txts p1 (ts ++ [t]) TM' ∧
      L1 = TM' ++ (PM ++ (paraC nb o.s (o.s + ls.length - 1) t :: textC t o.s (o.s + ls.length - 1) none 0 0 s :: L)) ∧ tb = ty_P_Paragraph ∧ q = some ⟨nb, 0, none⟩) h hs ho hI hin ?_ ?_
  · intro R' w h hk
    rw [ho]
    have h : Sat σ w (p.at b :: M ++ (TM ++ (PM ++ (IM ++ L)))) := h.re (by intro _; simp only [List.append_eq, cnt_append, cnt_cons, cnt_nil] <;> omega)
    refine enter_meth meth_paraBuild ?_
    refine paraBuild_ok (ob := ob ++ [par]) (o := o) (ts := ts) h hs ht hts hp hls hln hj hl hne hb hos fun w p' TM' t nb hp' ht' h => ?_
    exact hk w p' _ ty_P_Paragraph _ (by rw [hp']) (by rw [hp']) (by rw [hp']) (by decide) ⟨TM', t, nb, hp', ht', rfl, rfl, rfl⟩ (h.re (by intro _; simp only [List.append_eq, cnt_append, cnt_cons, cnt_nil] <;> omega))
  · intro w p2 M2 IM2 p1 L1 tb q q' c' hpost hp2 hs2 hI2 h
    obtain ⟨TM', t, nb, hp1, ht1, rfl, rfl, rfl⟩ := hpost
    refine hR w p2 M2 IM2 TM' t nb q' c' _ ?_ hs2 (ht1.of (by rw [hp2]) (by rw [hp2]) (by rw [hp2])) hI2 (h.less PM (by intro _; simp only [List.append_eq, cnt_append, cnt_cons, cnt_nil] <;> omega))
    rw [hp2, hp1]
end Go.Proofs.YtihmcipajjakgaaGreatDoor


set_option linter.unusedVariables false
namespace Go.Proofs.YtihmcipajjakgaaGreatDoor
open Go.Proofs Go.IntWalk Go.RowKit
variable {σ : Out} {w : World} {L L' : List Chunk} {R : Ending → World → Prop}
def hblC (nb s e : Nat) (q : Option Addr) (n c : Nat) : Chunk := (nb, cel [.int .i64 s, .int .i64 e, .slice q n c] ty_HTMLBlock)
theorem meth_HTMLBlock : methB P ty_P_HTMLBlock "PrintHTML" i_HTMLBlock_PrintHTML = true := by kernel_rfl
def rawOut (ls : List (List UInt8)) : List UInt8 := ls.flatMap fun l => l ++ [10]
theorem html_prints {nb s e : Nat} {q : Option Addr} {c : Nat} {ls : List (List UInt8)} {SM : List Chunk} (hS : Sl 1 ty_string q ls.length c (sv ls) SM) (hn : ls.length < 1048576) (hl : ∀ l ∈ ls, l.length < 4294967296) :
    Prints "PrintHTML" (.iface ty_P_HTMLBlock (.pointer (some ⟨nb, 0, none⟩))) (hblC nb s e q ls.length c :: SM) (hblC nb s e q ls.length c :: SM) (ab (rawOut ls)) := by
  refine ⟨ab_le _, fun σ R b l M L w hB h hb hR => enter_meth meth_HTMLBlock ?_⟩
  refine g_HTMLBlock_PrintHTML.sound ?_
  have hb' : (l ++ rawOut ls).length ≤ 549755813888 := hb
  refine nilP_some ⟨_, _, _, Sat.ld h (List.mem_append_right _ (.head _)) (i := 2) rfl, ?_⟩
  intro X hX
  have key : ∀ k j M w, j + k = ls.length → Buf b (l ++ rawOut (ls.take j)) M → Sat σ w (M ++ (hblC nb s e q ls.length c :: SM ++ L)) → X (some ⟨b, 0, none⟩) q ls.length c (ls.length : Int) (j : Int) w := by
    intro k
    induction k with
    | zero =>
      intro j M w hj hB h
      rw [List.take_of_length_le (by omega)] at hB
      exact hX _ _ _ _ _ _ _ (br_false (by simp; omega) (hR w M hB h))
    | succ k ih =>
      intro j M w hj hB h
      have hjl : j < ls.length := by omega
      have hst : rawOut (ls.take (j + 1)) = rawOut (ls.take j) ++ (ls[j] ++ [10]) := by unfold rawOut; rw [List.take_succ_eq_append_getElem hjl, List.flatMap_append]; simp
      have hle : (rawOut (ls.take (j + 1))).length ≤ (rawOut ls).length := by
        have : rawOut ls = rawOut (ls.take (j + 1)) ++ rawOut (ls.drop (j + 1)) := by unfold rawOut; rw [← List.flatMap_append, List.take_append_drop]
        rw [this, List.length_append]; omega
      rw [hst] at hle
      simp only [List.length_append, List.length_cons, List.length_nil] at hle hb'
      have hS2 : Sat σ w (SM ++ (M ++ (hblC nb s e q ls.length c :: L))) := h.re (by intro _; simp only [List.append_eq, cnt_append, cnt_cons, cnt_nil] <;> omega)
      refine hX _ _ _ _ _ _ _ (br_true (by simp; omega) ⟨by omega, by omega, ?_⟩)
      refine hS.loadAt hS2 (sv_get hjl) fun qb hq hc => ?_
      simp only [Addr.add_lit, Int.toNat_natCast, Nat.mul_one, Nat.zero_add]
      refine ⟨_, hc, ?_⟩
      refine writeS_ok (s := ls[j]) hB h (by simp only [List.length_append]; omega) fun w M hB h => ⟨_, _, rfl, ?_⟩
      refine writeS_ok (s := [10]) hB h (by simp only [List.length_append, List.length_cons, List.length_nil]; omega) fun w M hB h => ⟨_, _, rfl, ?_⟩
      rw [i64_inc (by omega)]
      refine ih (j + 1) M w (by omega) ?_ h
      rw [hst, ← List.append_assoc, ← List.append_assoc]; exact hB
  exact key ls.length 0 M w (by omega) (by simpa [rawOut] using hB) h
end Go.Proofs.YtihmcipajjakgaaGreatDoor


set_option linter.unusedVariables false
namespace Go.Proofs.YtihmcipajjakgaaGreatDoor
open Go.Proofs Go.IntWalk
variable {σ : Out} {w : World} {L L' : List Chunk} {R : Ending → World → Prop}
theorem Sat.allocO (h : Sat σ w L) (o : Obj) : Sat σ (w.alloc o) ((w.heap.size, o) :: L) := by
  refine ⟨h.os, h.out, ?_, fun c hc => ?_⟩
  · simp only [List.map_cons, List.nodup_cons]
    refine ⟨fun hm => ?_, h.nodup⟩
    obtain ⟨c, hc, he⟩ := List.mem_map.1 hm
    exact Nat.lt_irrefl _ (he ▸ h.lt hc)
  · cases hc with
    | head => exact (Array.getElem?_push_size ..).trans rfl
    | tail _ hc =>
      have hlt := h.lt hc
      have := h.at_ _ hc
      show (w.heap.push o)[c.1]? = _
      rw [Array.getElem?_push_lt hlt, ← Array.getElem?_eq_getElem hlt]
      exact this
theorem Sat.setO (b : Nat) (o o' : Obj) (h : Sat σ w ((b, o) :: L)) : Sat σ { w with heap := w.heap.setIfInBounds b o' } ((b, o') :: L) := by
  have hn := h.nodup
  simp only [List.map_cons, List.nodup_cons] at hn
  have hb : b < w.heap.size := h.lt (.head _)
  refine ⟨h.os, h.out, by simp only [List.map_cons, List.nodup_cons]; exact hn, fun c hc => ?_⟩
  cases hc with
  | head => simp [hb]
  | tail _ hc =>
    have hne : c.1 ≠ b := fun he => hn.1 (he ▸ List.mem_map_of_mem hc)
    have := h.at_ _ (.tail _ hc)
    show (w.heap.setIfInBounds b o')[c.1]? = _
    rw [Array.getElem?_setIfInBounds_ne (fun he => hne he.symm)]
    exact this
theorem range_ok {s : ByteArray} (h : Sat σ w L) {K : Value → World → Prop} (hK : ∀ w b, Sat σ w ((b, .stringIter s 0) :: L) → K (.pointer (some ⟨b, 0, none⟩)) w) :
    ∃ v w', (Instr.range ty_string (.string s)).run P w = .ok v w' ∧ K v w' :=
  ⟨_, _, run_range_string (P := P) w ty_string s (by kernel_rfl), hK _ _ (h.allocO _)⟩
theorem next_ok {b pos : Nat} {s : ByteArray} {ty : TypeId} (h : Sat σ w ((b, .stringIter s pos) :: L)) (hp : pos < s.size) (ha : (s[pos]'hp).toNat < 128) {K : Int → Int → World → Prop}
    (hK : ∀ w, Sat σ w ((b, .stringIter s (pos + 1)) :: L) → K pos (s[pos]'hp).toNat w) :
    ∃ r0 r1 w', (Instr.next (.pointer (some ⟨b, 0, none⟩)) true ty).run P w = .ok (.tuple #[.bool true, .int .i64 r0, .int .i32 r1]) w' ∧ K r0 r1 w' := by
  have hb := h.at_ _ (.head _)
  refine ⟨_, _, _, ?_, hK _ (h.setO b _ (.stringIter s (pos + 1)))⟩
  have hd := decode_ascii s pos hp ha
  simp only [Instr.next, getObj, setObj, Sem.run_bind, Sem.run, hb, Result.andThen, hp, if_true, hd]
  simp [goInt, Sem.run, hb]
theorem next_end {b pos : Nat} {s : ByteArray} {ty : TypeId} (h : Sat σ w ((b, .stringIter s pos) :: L)) (hp : ¬ pos < s.size) : (Instr.next (.pointer (some ⟨b, 0, none⟩)) true ty).run P w = .ok (.tuple #[.bool false]) w := by
  have hb := h.at_ _ (.head _)
  simp [Instr.next, getObj, Sem.run, hb, hp]
end Go.Proofs.YtihmcipajjakgaaGreatDoor


set_option linter.unusedVariables false
set_option maxRecDepth 20000
namespace Go.Proofs.YtihmcipajjakgaaGreatDoor
open Go.Proofs
namespace g_internal_stringslite_HasPrefix
noncomputable def body : Code := bodyOf Tryz.f152
end g_internal_stringslite_HasPrefix
def g_internal_stringslite_HasPrefix (R : EP) (x0 : BA) (x1 : BA) (w : World) : Prop :=
 br (decide ((x0.size : Int) ≥ (x1.size : Int)))
 (0 ≤ (x1.size : Int) ∧ (x1.size : Int) ≤ (x0.size : Int) ∧
 R (.returned (.bool ((x0.extract 0 (Int.toNat (x1.size : Int))).toList == x1.toList))) w)
 (R (.returned (.bool false)) w)

noncomputable def g_internal_stringslite_HasPrefix.ac (R : EP) : AC :=
  (.leaf (sel [] g_internal_stringslite_HasPrefix.body))
theorem g_internal_stringslite_HasPrefix.good (R : EP) : Good P 18 (g_internal_stringslite_HasPrefix.ac R) (QF P [.tmp 4] R) :=
  trivial
theorem g_internal_stringslite_HasPrefix.eq (R : EP) (x0 : BA) (x1 : BA) (w : World) : g_internal_stringslite_HasPrefix R x0 x1 w = vcA P 18 (g_internal_stringslite_HasPrefix.ac R) (QF P [.tmp 4] R) (fr0 [.string x0, .string x1]) w := by kernel_rfl
theorem g_internal_stringslite_HasPrefix.sound {R : EP} {x0 : ByteArray} {x1 : ByteArray} {w : World} (h : g_internal_stringslite_HasPrefix R x0 x1 w) : callE P i_internal_stringslite_HasPrefix #[.string x0, .string x1] R w :=
  callE_fin (c := g_internal_stringslite_HasPrefix.body) Tryz.func152 Tryz.call152 (by kernel_rfl) (by kernel_rfl) (by kernel_rfl) (by kernel_rfl) (by kernel_rfl) (g_internal_stringslite_HasPrefix.good R) (g_internal_stringslite_HasPrefix.eq R x0 x1 w) h
namespace g_isLetter
noncomputable def body : Code := bodyOf Tryz.f120
end g_isLetter
def g_isLetter (R : EP) (x0 : Int) (w : World) : Prop :=
 R (.returned (.bool (((decide (65 ≤ x0)) && (decide (x0 ≤ 90))) || ((decide (97 ≤ x0)) && (decide (x0 ≤ 122)))))) w

noncomputable def g_isLetter.ac (R : EP) : AC :=
  (.leaf (sel [] g_isLetter.body))
theorem g_isLetter.good (R : EP) : Good P 17 (g_isLetter.ac R) (QF P [.tmp 2] R) :=
  trivial
theorem g_isLetter.eq (R : EP) (x0 : Int) (w : World) : g_isLetter R x0 w = vcA P 17 (g_isLetter.ac R) (QF P [.tmp 2] R) (fr0 [.int .u8 x0]) w := by kernel_rfl
theorem g_isLetter.sound {R : EP} {x0 : Int} {w : World} (h : g_isLetter R x0 w) : callE P i_isLetter #[.int .u8 x0] R w :=
  callE_fin (c := g_isLetter.body) Tryz.func120 Tryz.call120 (by kernel_rfl) (by kernel_rfl) (by kernel_rfl) (by kernel_rfl) (by kernel_rfl) (g_isLetter.good R) (g_isLetter.eq R x0 w) h
namespace g_strings_HasPrefix
noncomputable def body : Code := bodyOf Tryz.f96
end g_strings_HasPrefix
def g_strings_HasPrefix (R : EP) (x0 : BA) (x1 : BA) (w : World) : Prop :=
 callE P i_internal_stringslite_HasPrefix #[.string x0, .string x1] (fun e w2 => ∃ (r1 : Bool), e = .returned (.bool r1) ∧
 R (.returned (.bool r1)) w2) w

noncomputable def g_strings_HasPrefix.ac (R : EP) : AC :=
  (.leaf (sel [] g_strings_HasPrefix.body))
theorem g_strings_HasPrefix.good (R : EP) : Good P 8 (g_strings_HasPrefix.ac R) (QF P [.tmp 4] R) :=
  trivial
theorem g_strings_HasPrefix.eq (R : EP) (x0 : BA) (x1 : BA) (w : World) : g_strings_HasPrefix R x0 x1 w = vcA P 8 (g_strings_HasPrefix.ac R) (QF P [.tmp 4] R) (fr0 [.string x0, .string x1]) w := by kernel_rfl
theorem g_strings_HasPrefix.sound {R : EP} {x0 : ByteArray} {x1 : ByteArray} {w : World} (h : g_strings_HasPrefix R x0 x1 w) : callE P i_strings_HasPrefix #[.string x0, .string x1] R w :=
  callE_fin (c := g_strings_HasPrefix.body) Tryz.func96 Tryz.call96 (by kernel_rfl) (by kernel_rfl) (by kernel_rfl) (by kernel_rfl) (by kernel_rfl) (g_strings_HasPrefix.good R) (g_strings_HasPrefix.eq R x0 x1 w) h
end Go.Proofs.YtihmcipajjakgaaGreatDoor

set_option linter.unusedVariables false
namespace Go.Proofs.YtihmcipajjakgaaGreatDoor
open Go.Proofs Go.IntWalk Go.RowKit
variable {σ : Out} {w : World} {L L' : List Chunk} {R : Ending → World → Prop}
theorem u8_le' (c : UInt8) (n : Nat) : decide ((n : Int) ≤ ((c.toNat : Nat) : Int)) = decide (n ≤ c.toNat) := by rw [decide_eq_decide]; omega
theorem u8_ge' (c : UInt8) (n : Nat) : decide (((c.toNat : Nat) : Int) ≤ (n : Int)) = decide (c.toNat ≤ n) := by rw [decide_eq_decide]; omega
def letB (c : UInt8) : Bool := (decide (65 ≤ c.toNat) && decide (c.toNat ≤ 90)) || (decide (97 ≤ c.toNat) && decide (c.toNat ≤ 122))
def ldigB (c : UInt8) : Bool := letB c || (decide (48 ≤ c.toNat) && decide (c.toNat ≤ 57))
def ldhB (c : UInt8) : Bool := ldigB c || c == 45
theorem isLetter_ok {c : UInt8} (hR : R (.returned (.bool (letB c))) w) : callE P i_isLetter #[.int .u8 (c.toNat : Int)] R w := by
  refine g_isLetter.sound ?_
  unfold g_isLetter
  have e : (((decide ((65 : Int) ≤ ((c.toNat : Nat) : Int))) && (decide (((c.toNat : Nat) : Int) ≤ 90))) || ((decide ((97 : Int) ≤ ((c.toNat : Nat) : Int))) && (decide (((c.toNat : Nat) : Int) ≤ 122)))) = letB c := by
    unfold letB
    rw [← u8_le' c 65, ← u8_ge' c 90, ← u8_le' c 97, ← u8_ge' c 122]; rfl
  rw [e]; exact hR
theorem hasPrefix_ok {s t : List UInt8} (hR : R (.returned (.bool (decide (s.take t.length = t)))) w) : callE P i_strings_HasPrefix #[.string (bs s), .string (bs t)] R w := by
  refine g_strings_HasPrefix.sound ?_
  refine g_internal_stringslite_HasPrefix.sound ?_
  by_cases hl : t.length ≤ s.length
  · refine br_true (by simp; omega) ⟨by omega, by simp; omega, ?_⟩
    rw [bs_size, Int.toNat_natCast, bs_extract, List.drop_zero, bs_toList, bs_toList]
    have e : (s.take t.length == t) = decide (s.take t.length = t) := by rw [Bool.eq_iff_iff]; simp
    rw [e]; exact ⟨_, rfl, hR⟩
  · refine br_false (by simp; omega) ?_
    have : decide (s.take t.length = t) = false := decide_eq_false fun h => by have := congrArg List.length h; simp at this; omega
    rw [← this]; exact ⟨_, rfl, hR⟩
structure RunTo (s : List UInt8) (p : UInt8 → Bool) (i j : Nat) : Prop where
  le : i ≤ j
  len : j ≤ s.length
  all : ∀ k, i ≤ k → k < j → p (s.getD k 0) = true
  stop : j < s.length → p (s.getD j 0) = false
end Go.Proofs.YtihmcipajjakgaaGreatDoor


set_option linter.unusedVariables false
namespace Go.Proofs.YtihmcipajjakgaaGreatDoor
open Go.Proofs Go.IntWalk Go.RowKit
variable {σ : Out} {w : World} {L L' : List Chunk} {R : Ending → World → Prop}
def fenC (fb : Nat) (F info : List UInt8) (q : Option Addr) (n c : Nat) : Chunk := (fb, cel [.string (bs F), .string (bs info), .int .i64 0, .slice q n c] ty_fenceBuilder)
def FenAt (fb : Nat) (F info : List UInt8) (ls : List (List UInt8)) (M : List Chunk) : Prop :=
  ∃ q c SM, Sl 1 ty_string q ls.length c (sv ls) SM ∧ M = fenC fb F info q ls.length c :: SM
theorem meth_fenExtend : methB P ty_P_fenceBuilder "pub-paratext/pub/rscmarkdown.extend" i_fenceBuilder_extend = true := by kernel_rfl
theorem meth_fenBuild : methB P ty_P_fenceBuilder "pub-paratext/pub/rscmarkdown.build" i_fenceBuilder_build = true := by kernel_rfl
theorem trimSp_zero (l : Ln) (e : Bool) : l.trimSp 0 0 e = some l := rfl
def FenEnd (F : List UInt8) (l : Ln) : Prop := ¬ FenceN l ∧ ∀ n c t info, FenceY l n c t info → (List.replicate n c).take F.length = F ∧ info = []
def FenGo (F : List UInt8) (l : Ln) : Prop := ∀ n c t info, FenceY l n c t info → (List.replicate n c).take F.length ≠ F
theorem fenExtend_ok {fb b : Nat} {p : PS} {F info : List UInt8} {ls : List (List UInt8)} {FM : List Chunk} {l : Ln} {ec : Chunk} (h : Sat σ w (p.at b :: (FM ++ L))) (hH : FenAt fb F info ls FM) (hl : l.ok) (hls : ls.length < 1048576) (hlt : l.text.length < 100000) (hE : EntA ec) (hec : ec ∈ L)
    (hgo : FenGo F l → ∀ w (p' : PS) FM', p' = { p with corner := p'.corner } → FenAt fb F info (ls ++ [l.str]) FM' → Sat σ w (p'.at b :: (FM' ++ L)) → R (.returned (.tuple #[Ln.zero.val, .bool true])) w)
    (hend : ¬ FenGo F l → ∀ w, Sat σ w (p.at b :: (FM ++ L)) → R (.returned (.tuple #[Ln.zero.val, .bool false])) w)
    (hdec : FenGo F l ∨ FenEnd F l) : callE P i_fenceBuilder_extend #[.pointer (some ⟨fb, 0, none⟩), .pointer (some ⟨b, 0, none⟩), l.val] R w := by
  obtain ⟨q, c, SM, hS, rfl⟩ := hH
  refine g_fenceBuilder_extend.sound ?_
  refine Sat.bx h fun b1 w h => ?_
  refine Sat.bx h fun b3 w h => ?_
  refine Sat.bx h fun b5 w h => ?_
  refine Sat.bx h fun b7 w h => ?_
  refine Sat.bx h fun b9 w h => ?_
  repeat (first | refine nilP_some ?_ | refine Sat.tk h fun w h => ?_ | refine ⟨_, Sat.ld h (by first | assumption | (repeat (first | exact .head _ | apply List.Mem.tail))) (by exact rfl), ?_⟩ | refine ⟨_, _, _, Sat.ld h (by first | assumption | (repeat (first | exact .head _ | apply List.Mem.tail))) (by exact rfl), ?_⟩ | refine Sat.st h (k := 0) rfl (Nat.le_of_ble_eq_true rfl) trivial (by first | (dsimp only [List.set]; exact rfl) | exact rfl) fun w h => ?_ | refine Sat.st h (k := 1) rfl (Nat.le_of_ble_eq_true rfl) trivial (by first | (dsimp only [List.set]; exact rfl) | exact rfl) fun w h => ?_ | refine Sat.st h (k := 2) rfl (Nat.le_of_ble_eq_true rfl) trivial (by first | (dsimp only [List.set]; exact rfl) | exact rfl) fun w h => ?_ | refine Sat.st h (k := 3) rfl (Nat.le_of_ble_eq_true rfl) trivial (by first | (dsimp only [List.set]; exact rfl) | exact rfl) fun w h => ?_ | refine Sat.st h (k := 4) rfl (Nat.le_of_ble_eq_true rfl) trivial (by first | (dsimp only [List.set]; exact rfl) | exact rfl) fun w h => ?_ | refine Sat.st h (k := 5) rfl (Nat.le_of_ble_eq_true rfl) trivial (by first | (dsimp only [List.set]; exact rfl) | exact rfl) fun w h => ?_ | refine Sat.st h (k := 6) rfl (Nat.le_of_ble_eq_true rfl) trivial (by first | (dsimp only [List.set]; exact rfl) | exact rfl) fun w h => ?_ | refine Sat.bx h fun b0 w h => ?_)
  have h : Sat σ _ (l.at b0 :: (b9, cel [.int .i64 0] ty_int) :: (b7, cel [.string (bs [])] ty_string) :: (b5, cel [.string (bs [])] ty_string) :: (zLn b3 :: l.at b1 :: (p.at b :: (fenC fb F info q ls.length c :: SM ++ L)))) := h
  have k1 : ∀ w (l' : Ln) (v : Int) (i f : List UInt8), FenGo F l → Sat σ w (l'.at b0 :: (b9, cel [.int .i64 v] ty_int) :: (b7, cel [.string (bs i)] ty_string) :: (b5, cel [.string (bs f)] ty_string) :: (zLn b3 :: l.at b1 :: (p.at b :: (fenC fb F info q ls.length c :: SM ++ L)))) →
      g_fenceBuilder_extend.k1 R (some ⟨fb, 0, none⟩) (some ⟨b, 0, none⟩) b1 b3 w := by
    intro w l' v i f hg h
    have h : Sat σ w (l.at b1 :: fenC fb F info q ls.length c :: zLn b3 :: p.at b :: (SM ++ (l'.at b0 :: (b9, cel [.int .i64 v] ty_int) :: (b7, cel [.string (bs i)] ty_string) :: (b5, cel [.string (bs f)] ty_string) :: L))) := h.re (by intro _; simp only [List.append_eq, cnt_append, cnt_cons, cnt_nil] <;> omega)
    refine Sat.tk h fun w h => ?_
    refine nilP_some (nilP_some ?_)
    refine ⟨_, Sat.ld h (.tail _ (.head _)) (i := 2) rfl, _, Sat.ld h (.tail _ (.head _)) (i := 2) rfl, ?_⟩
    refine trimSp_ok (min := 0) (max := 0) h hl (by decide) (by decide) ?_
    rw [trimSp_zero]
    intro w h
    refine ⟨_, rfl, br_false rfl ?_⟩
    unfold g_fenceBuilder_extend.k2
    refine Sat.tk h fun w h => ?_
    refine nilP_some ?_
    refine ⟨_, _, _, Sat.ld h (.tail _ (.head _)) (i := 3) rfl, ?_⟩
    have h0 := h
    refine string_ok h (.head _) hl fun w h => ⟨_, rfl, h0.same h (.tail _ (.head _)) (.tail _ (.head _)) 1, ?_⟩
    have h : Sat σ w (SM ++ (l.at b1 :: fenC fb F info q ls.length c :: zLn b3 :: p.at b :: (l'.at b0 :: (b9, cel [.int .i64 v] ty_int) :: (b7, cel [.string (bs i)] ty_string) :: (b5, cel [.string (bs f)] ty_string) :: L))) := h.re (by intro _; simp only [List.append_eq, cnt_append, cnt_cons, cnt_nil] <;> omega)
    have hm : fenC fb F info q ls.length c ∈ (SM ++ (l.at b1 :: fenC fb F info q ls.length c :: zLn b3 :: p.at b :: (l'.at b0 :: (b9, cel [.int .i64 v] ty_int) :: (b7, cel [.string (bs i)] ty_string) :: (b5, cel [.string (bs f)] ty_string) :: L))) := by simp
    have h1 := h
    refine Sat.app1S rowStr hS h (v := .string (bs l.str)) rfl (by simp [Value.cells, Value.oneCell']) (fillS l.str) (by omega) (by omega) (by decide) (fun w1 X h2 => h1.same h2 hm (.tail _ hm) 1) fun q' c' w M' hS' h => ?_
    have h : Sat σ w (fenC fb F info q ls.length c :: p.at b :: zLn b3 :: l.at b1 :: (M' ++ (l'.at b0 :: (b9, cel [.int .i64 v] ty_int) :: (b7, cel [.string (bs i)] ty_string) :: (b5, cel [.string (bs f)] ty_string) :: L))) := h.re (by intro _; simp only [List.append_eq, cnt_append, cnt_cons, cnt_nil] <;> omega)
    refine nilP_some ?_
    refine Sat.st h (k := 0) rfl (Nat.le_of_ble_eq_true rfl) trivial (by first | (dsimp only [List.set]; exact rfl) | exact rfl) fun w h => ?_
    have h : Sat σ w (p.at b :: zLn b3 :: l.at b1 :: fenC fb F info q' (ls.length + 1) c' :: (M' ++ (l'.at b0 :: (b9, cel [.int .i64 v] ty_int) :: (b7, cel [.string (bs i)] ty_string) :: (b5, cel [.string (bs f)] ty_string) :: L))) := by
      have h : Sat σ w (fenC fb F info q' (ls.length + 1) c' :: p.at b :: zLn b3 :: l.at b1 :: (M' ++ (l'.at b0 :: (b9, cel [.int .i64 v] ty_int) :: (b7, cel [.string (bs i)] ty_string) :: (b5, cel [.string (bs f)] ty_string) :: L))) := h
      exact h.re (by intro _; simp only [List.append_eq, cnt_append, cnt_cons, cnt_nil] <;> omega)
    have hfin : ∀ (k : Bool) w, Sat σ w (({ p with corner := k } : PS).at b :: zLn b3 :: l.at b1 :: fenC fb F info q' (ls.length + 1) c' :: (M' ++ (l'.at b0 :: (b9, cel [.int .i64 v] ty_int) :: (b7, cel [.string (bs i)] ty_string) :: (b5, cel [.string (bs f)] ty_string) :: L))) → R (.returned (.tuple #[Ln.zero.val, .bool true])) w := by
      intro k w h
      refine hgo hg w { p with corner := k } (fenC fb F info q' (ls ++ [l.str]).length c' :: M') rfl ⟨q', c', M', ?_, rfl⟩ ?_
      · rw [List.length_append, List.length_singleton]
        have e : sv (ls ++ [l.str]) = sv ls ++ [.string (bs l.str)] := by simp [sv]
        rw [e]; exact hS'
      · rw [List.length_append, List.length_singleton]
        exact h.less [zLn b3, l.at b1, l'.at b0, (b9, cel [.int .i64 v] ty_int), (b7, cel [.string (bs i)] ty_string), (b5, cel [.string (bs f)] ty_string)] (by intro _; simp only [List.append_eq, cnt_append, cnt_cons, cnt_nil] <;> omega)
    refine nilP_some ?_
    refine ⟨_, Sat.ld h (.head _) (i := 6) rfl, br_split (fun _ => ?_) fun _ => ?_⟩
    · refine nilP_some ?_
      refine Sat.st h (k := 0) rfl (Nat.le_of_ble_eq_true rfl) trivial (by first | (dsimp only [List.set]; exact rfl) | exact rfl) fun w h => ?_
      have h : Sat σ w (zLn b3 :: ({ p with corner := true } : PS).at b :: l.at b1 :: fenC fb F info q' (ls.length + 1) c' :: (M' ++ (l'.at b0 :: (b9, cel [.int .i64 v] ty_int) :: (b7, cel [.string (bs i)] ty_string) :: (b5, cel [.string (bs f)] ty_string) :: L))) := by
        have h : Sat σ w (({ p with corner := true } : PS).at b :: zLn b3 :: l.at b1 :: fenC fb F info q' (ls.length + 1) c' :: (M' ++ (l'.at b0 :: (b9, cel [.int .i64 v] ty_int) :: (b7, cel [.string (bs i)] ty_string) :: (b5, cel [.string (bs f)] ty_string) :: L))) := h
        exact h.re (by intro _; simp only [List.append_eq, cnt_append, cnt_cons, cnt_nil] <;> omega)
      repeat (first | refine nilP_some ?_ | refine Sat.tk h fun w h => ?_ | refine ⟨_, Sat.ld h (by first | assumption | (repeat (first | exact .head _ | apply List.Mem.tail))) (by exact rfl), ?_⟩ | refine ⟨_, _, _, Sat.ld h (by first | assumption | (repeat (first | exact .head _ | apply List.Mem.tail))) (by exact rfl), ?_⟩ | refine Sat.st h (k := 0) rfl (Nat.le_of_ble_eq_true rfl) trivial (by first | (dsimp only [List.set]; exact rfl) | exact rfl) fun w h => ?_ | refine Sat.st h (k := 1) rfl (Nat.le_of_ble_eq_true rfl) trivial (by first | (dsimp only [List.set]; exact rfl) | exact rfl) fun w h => ?_ | refine Sat.st h (k := 2) rfl (Nat.le_of_ble_eq_true rfl) trivial (by first | (dsimp only [List.set]; exact rfl) | exact rfl) fun w h => ?_ | refine Sat.st h (k := 3) rfl (Nat.le_of_ble_eq_true rfl) trivial (by first | (dsimp only [List.set]; exact rfl) | exact rfl) fun w h => ?_ | refine Sat.st h (k := 4) rfl (Nat.le_of_ble_eq_true rfl) trivial (by first | (dsimp only [List.set]; exact rfl) | exact rfl) fun w h => ?_ | refine Sat.st h (k := 5) rfl (Nat.le_of_ble_eq_true rfl) trivial (by first | (dsimp only [List.set]; exact rfl) | exact rfl) fun w h => ?_ | refine Sat.st h (k := 6) rfl (Nat.le_of_ble_eq_true rfl) trivial (by first | (dsimp only [List.set]; exact rfl) | exact rfl) fun w h => ?_ | refine Sat.bx h fun b0 w h => ?_)
      refine hfin true _ ?_
      have h : Sat σ _ (zLn b3 :: ({ p with corner := true } : PS).at b :: l.at b1 :: fenC fb F info q' (ls.length + 1) c' :: (M' ++ (l'.at b0 :: (b9, cel [.int .i64 v] ty_int) :: (b7, cel [.string (bs i)] ty_string) :: (b5, cel [.string (bs f)] ty_string) :: L))) := h
      exact h.re (by intro _; simp only [List.append_eq, cnt_append, cnt_cons, cnt_nil] <;> omega)
    · refine ⟨_, Sat.ld h (.tail _ (.tail _ (.head _))) (i := 4) rfl, nilP_some ?_⟩
      refine Sat.st h (k := 0) rfl (Nat.le_of_ble_eq_true rfl) trivial (by first | (dsimp only [List.set]; exact rfl) | exact rfl) fun w h => ?_
      generalize ((l.nl.toNat : Int) != 10) = kk at h
      have h : Sat σ w (zLn b3 :: ({ p with corner := kk } : PS).at b :: l.at b1 :: fenC fb F info q' (ls.length + 1) c' :: (M' ++ (l'.at b0 :: (b9, cel [.int .i64 v] ty_int) :: (b7, cel [.string (bs i)] ty_string) :: (b5, cel [.string (bs f)] ty_string) :: L))) := by
        have h : Sat σ w (({ p with corner := kk } : PS).at b :: zLn b3 :: l.at b1 :: fenC fb F info q' (ls.length + 1) c' :: (M' ++ (l'.at b0 :: (b9, cel [.int .i64 v] ty_int) :: (b7, cel [.string (bs i)] ty_string) :: (b5, cel [.string (bs f)] ty_string) :: L))) := h
        exact h.re (by intro _; simp only [List.append_eq, cnt_append, cnt_cons, cnt_nil] <;> omega)
      repeat (first | refine nilP_some ?_ | refine Sat.tk h fun w h => ?_ | refine ⟨_, Sat.ld h (by first | assumption | (repeat (first | exact .head _ | apply List.Mem.tail))) (by exact rfl), ?_⟩ | refine ⟨_, _, _, Sat.ld h (by first | assumption | (repeat (first | exact .head _ | apply List.Mem.tail))) (by exact rfl), ?_⟩ | refine Sat.st h (k := 0) rfl (Nat.le_of_ble_eq_true rfl) trivial (by first | (dsimp only [List.set]; exact rfl) | exact rfl) fun w h => ?_ | refine Sat.st h (k := 1) rfl (Nat.le_of_ble_eq_true rfl) trivial (by first | (dsimp only [List.set]; exact rfl) | exact rfl) fun w h => ?_ | refine Sat.st h (k := 2) rfl (Nat.le_of_ble_eq_true rfl) trivial (by first | (dsimp only [List.set]; exact rfl) | exact rfl) fun w h => ?_ | refine Sat.st h (k := 3) rfl (Nat.le_of_ble_eq_true rfl) trivial (by first | (dsimp only [List.set]; exact rfl) | exact rfl) fun w h => ?_ | refine Sat.st h (k := 4) rfl (Nat.le_of_ble_eq_true rfl) trivial (by first | (dsimp only [List.set]; exact rfl) | exact rfl) fun w h => ?_ | refine Sat.st h (k := 5) rfl (Nat.le_of_ble_eq_true rfl) trivial (by first | (dsimp only [List.set]; exact rfl) | exact rfl) fun w h => ?_ | refine Sat.st h (k := 6) rfl (Nat.le_of_ble_eq_true rfl) trivial (by first | (dsimp only [List.set]; exact rfl) | exact rfl) fun w h => ?_ | refine Sat.bx h fun b0 w h => ?_)
      refine hfin kk _ ?_
      have h : Sat σ _ (zLn b3 :: ({ p with corner := kk } : PS).at b :: l.at b1 :: fenC fb F info q' (ls.length + 1) c' :: (M' ++ (l'.at b0 :: (b9, cel [.int .i64 v] ty_int) :: (b7, cel [.string (bs i)] ty_string) :: (b5, cel [.string (bs f)] ty_string) :: L))) := h
      exact h.re (by intro _; simp only [List.append_eq, cnt_append, cnt_cons, cnt_nil] <;> omega)
  refine trimFence_any h hl hlt hE (by simp [hec]) ?_ ?_
  · intro hN w v h
    refine ⟨_, rfl, br_false rfl (k1 w _ _ _ _ ?_ h)⟩
    exact hdec.resolve_right fun he => he.1 hN
  · intro n c0 t inf hY w h
    refine ⟨_, rfl, br_true rfl (nilP_some ?_)⟩
    refine ⟨_, Sat.ld h (.tail _ (.tail _ (.tail _ (.head _)))) (i := 0) rfl, ?_⟩
    have hm : fenC fb F info q ls.length c ∈ (Ln.zero.at b0 :: (b9, cel [.int .i64 ((l.strip 3 0).1 : Nat)] ty_int) :: (b7, cel [.string (bs inf)] ty_string) :: (b5, cel [.string (bs (List.replicate n c0))] ty_string) :: (zLn b3 :: l.at b1 :: (p.at b :: (fenC fb F info q ls.length c :: SM ++ L)))) := by simp
    refine ⟨_, Sat.ld h hm (i := 0) rfl, ?_⟩
    refine hasPrefix_ok (s := List.replicate n c0) (t := F) ⟨_, rfl, ?_⟩
    by_cases hp : (List.replicate n c0).take F.length = F
    · have hng : ¬ FenGo F l := fun hg => hg n c0 t inf hY hp
      have he := hdec.resolve_left hng
      have hi : inf = [] := (he.2 n c0 t inf hY).2
      refine br_true (decide_eq_true hp) ?_
      refine ⟨_, Sat.ld h (.tail _ (.tail _ (.head _))) (i := 0) rfl, br_true (by rw [hi, bs_toList, mk_toList]; rfl) ?_⟩
      have h : Sat σ w (zLn b3 :: l.at b1 :: (b9, cel [.int .i64 ((l.strip 3 0).1 : Nat)] ty_int) :: (b7, cel [.string (bs inf)] ty_string) :: (b5, cel [.string (bs (List.replicate n c0))] ty_string) :: Ln.zero.at b0 :: (p.at b :: (fenC fb F info q ls.length c :: SM ++ L))) := h.re (by intro _; simp only [List.append_eq, cnt_append, cnt_cons, cnt_nil] <;> omega)
      repeat (first | refine nilP_some ?_ | refine Sat.tk h fun w h => ?_ | refine ⟨_, Sat.ld h (by first | assumption | (repeat (first | exact .head _ | apply List.Mem.tail))) (by exact rfl), ?_⟩ | refine ⟨_, _, _, Sat.ld h (by first | assumption | (repeat (first | exact .head _ | apply List.Mem.tail))) (by exact rfl), ?_⟩ | refine Sat.st h (k := 0) rfl (Nat.le_of_ble_eq_true rfl) trivial (by first | (dsimp only [List.set]; exact rfl) | exact rfl) fun w h => ?_ | refine Sat.st h (k := 1) rfl (Nat.le_of_ble_eq_true rfl) trivial (by first | (dsimp only [List.set]; exact rfl) | exact rfl) fun w h => ?_ | refine Sat.st h (k := 2) rfl (Nat.le_of_ble_eq_true rfl) trivial (by first | (dsimp only [List.set]; exact rfl) | exact rfl) fun w h => ?_ | refine Sat.st h (k := 3) rfl (Nat.le_of_ble_eq_true rfl) trivial (by first | (dsimp only [List.set]; exact rfl) | exact rfl) fun w h => ?_ | refine Sat.st h (k := 4) rfl (Nat.le_of_ble_eq_true rfl) trivial (by first | (dsimp only [List.set]; exact rfl) | exact rfl) fun w h => ?_ | refine Sat.st h (k := 5) rfl (Nat.le_of_ble_eq_true rfl) trivial (by first | (dsimp only [List.set]; exact rfl) | exact rfl) fun w h => ?_ | refine Sat.st h (k := 6) rfl (Nat.le_of_ble_eq_true rfl) trivial (by first | (dsimp only [List.set]; exact rfl) | exact rfl) fun w h => ?_ | refine Sat.bx h fun b0 w h => ?_)
      have h : Sat σ _ (zLn b3 :: l.at b1 :: (b9, cel [.int .i64 ((l.strip 3 0).1 : Nat)] ty_int) :: (b7, cel [.string (bs inf)] ty_string) :: (b5, cel [.string (bs (List.replicate n c0))] ty_string) :: Ln.zero.at b0 :: (p.at b :: (fenC fb F info q ls.length c :: SM ++ L))) := h
      exact hend hng _ h.tail.tail.tail.tail.tail.tail
    · refine br_false (decide_eq_false hp) (k1 w _ _ _ _ ?_ h)
      refine hdec.resolve_right fun he => hp (he.2 n c0 t inf hY).1
def codC (nb s e : Nat) (F info : List UInt8) (q : Option Addr) (n c : Nat) : Chunk := (nb, cel [.int .i64 s, .int .i64 e, .string (bs F), .string (bs info), .slice q n c] ty_CodeBlock)
theorem fenBuild_ok {b fb : Nat} {p : PS} {ob : List OB} {o : OB} {F info : List UInt8} {ls : List (List UInt8)} {M FM : List Chunk} (h : Sat σ w (p.at b :: M ++ (FM ++ L))) (hs : Stk p (ob ++ [o]) M) (hH : FenAt fb F info ls FM)
    (hR : ∀ w nb q c SM, Sl 1 ty_string q ls.length c (sv ls) SM → Sat σ w (p.at b :: M ++ (codC nb o.s o.e F info q ls.length c :: (SM ++ L))) → R (.returned (.iface ty_P_CodeBlock (.pointer (some ⟨nb, 0, none⟩)))) w) :
    callE P i_fenceBuilder_build #[.pointer (some ⟨fb, 0, none⟩), .iface ty_P_parseState (.pointer (some ⟨b, 0, none⟩))] R w := by
  obtain ⟨q, c, SM, hS, rfl⟩ := hH
  refine g_fenceBuilder_build.sound ?_
  have h : Sat σ w (fenC fb F info q ls.length c :: (p.at b :: M ++ (SM ++ L))) := h.re (by intro _; simp only [List.append_eq, cnt_append, cnt_cons, cnt_nil] <;> omega)
  refine Sat.tk h fun w h => ?_
  refine nilP_some (nilP_some (nilP_some ?_))
  refine ⟨_, Sat.ld h (.head _) (i := 0) rfl, _, Sat.ld h (.head _) (i := 1) rfl, _, _, _, Sat.ld h (.head _) (i := 3) rfl, ?_⟩
  have h0 := h
  have h : Sat σ w (p.at b :: M ++ (fenC fb F info q ls.length c :: (SM ++ L))) := h.re (by intro _; simp only [List.append_eq, cnt_append, cnt_cons, cnt_nil] <;> omega)
  refine enter_meth meth_pos ?_
  have hm : fenC fb F info q ls.length c ∈ p.at b :: M ++ (fenC fb F info q ls.length c :: (SM ++ L)) := by simp
  refine pos_ok h hs fun w h => ⟨_, _, rfl, h0.same h (.head _) hm 1, h0.same h (.head _) hm 1, h0.same h (.head _) hm 1, ?_⟩
  refine Sat.bx h fun nb w h => ?_
  refine hR w nb q c SM hS ?_
  have h : Sat σ w (codC nb o.s o.e F info q ls.length c :: (p.at b :: M ++ (fenC fb F info q ls.length c :: (SM ++ L)))) := h
  exact h.less [fenC fb F info q ls.length c] (by intro _; simp only [List.append_eq, cnt_append, cnt_cons, cnt_nil] <;> omega)
end Go.Proofs.YtihmcipajjakgaaGreatDoor


set_option linter.unusedVariables false
namespace Go.Proofs.YtihmcipajjakgaaGreatDoor
open Go.Proofs Go.IntWalk Go.RowKit
variable {σ : Out} {w : World} {L L' : List Chunk} {R : Ending → World → Prop}
theorem runB_rep {f : Nat} {s : List UInt8} (hs : ∀ c ∈ s, c ≠ (96 : UInt8)) : runB 96 (List.replicate f 96 ++ s) = f := by
  induction f with
  | zero =>
    cases s with
    | nil => rfl
    | cons c s => simp [runB, List.takeWhile_cons, hs c (by simp)]
  | succ f ih =>
    simp only [runB, List.replicate_succ, List.cons_append, List.takeWhile_cons, beq_self_eq_true, if_true, List.length_cons]
    exact congrArg (· + 1) ih
theorem letB_ne {c : UInt8} (h : letB c = true) : c ≠ 96 ∧ c ≠ 92 ∧ c ≠ 38 ∧ isST c = false ∧ c < 128 ∧ spB c = false := by
  have hd : ∀ c : Fin 256, letB (UInt8.ofNat c.val) = true → UInt8.ofNat c.val ≠ 96 ∧ UInt8.ofNat c.val ≠ 92 ∧ UInt8.ofNat c.val ≠ 38 ∧ isST (UInt8.ofNat c.val) = false ∧ UInt8.ofNat c.val < 128 ∧ spB (UInt8.ofNat c.val) = false := by decide +kernel
  have := hd ⟨c.toNat, c.toNat_lt⟩
  simpa using this (by simpa using h)
theorem trimLR_clean {p : UInt8 → Bool} {s : List UInt8} (h : ∀ c ∈ s, p c = false) : trimLR p s = s := by
  have h1 : ∀ {t : List UInt8}, (∀ c ∈ t, p c = false) → t.dropWhile p = t := by
    intro t ht
    cases t with
    | nil => rfl
    | cons c t => rw [List.dropWhile_cons, ht c (by simp)]; rfl
  unfold trimLR trimR
  rw [h1 h, h1 (fun c hc => h c (by simpa using hc)), List.reverse_reverse]
theorem fence_line {f : Nat} {word : List UInt8} {nl : UInt8} (hf : 3 ≤ f) (hw : ∀ c ∈ word, letB c = true) :
    ¬ FenceN (lnOf (List.replicate f 96 ++ word) nl) ∧ (∀ n c t info, FenceY (lnOf (List.replicate f 96 ++ word) nl) n c t info → n = f ∧ c = 96 ∧ info = word) ∧ ((lnOf (List.replicate f 96 ++ word) nl).strip 3 0).1 = 0 ∧ FenceY (lnOf (List.replicate f 96 ++ word) nl) f 96 word word := by
  obtain ⟨g, rfl⟩ : ∃ g, f = g + 1 := ⟨f - 1, by omega⟩
  have e0 : List.replicate (g + 1) (96 : UInt8) ++ word = 96 :: (List.replicate g 96 ++ word) := rfl
  have est : (lnOf (List.replicate (g + 1) 96 ++ word) nl).strip 3 0 = (0, lnOf (List.replicate (g + 1) 96 ++ word) nl) := by rw [e0]; exact strip_first (by decide)
  have hr : runB 96 (List.replicate (g + 1) 96 ++ word) = g + 1 := runB_rep fun c hc => (letB_ne (hw c hc)).1
  have hclean : ∀ t, UnE (trimLR isST word) t → t = word := by
    intro t ht
    have e1 : trimLR isST word = word := trimLR_clean fun c hc => (letB_ne (hw c hc)).2.2.2.1
    rw [e1] at ht
    exact ht.2 fun c hc => ⟨(letB_ne (hw c hc)).2.1, (letB_ne (hw c hc)).2.2.1⟩
  have edrop : ∀ n, n = g + 1 → (List.replicate (g + 1) (96 : UInt8) ++ word).drop (0 + n) = word := by
    intro n hn
    subst hn
    rw [Nat.zero_add, List.drop_append_of_le_length (by simp), List.drop_of_length_le (by simp)]; rfl
  have hpk : (lnOf (List.replicate (g + 1) 96 ++ word) nl).peek = 96 := rfl
  have htx : (lnOf (List.replicate (g + 1) 96 ++ word) nl).text.drop (lnOf (List.replicate (g + 1) 96 ++ word) nl).i = List.replicate (g + 1) 96 ++ word := rfl
  have htx2 : ∀ n, (lnOf (List.replicate (g + 1) 96 ++ word) nl).text.drop ((lnOf (List.replicate (g + 1) 96 ++ word) nl).i + n) = (List.replicate (g + 1) (96 : UInt8) ++ word).drop (0 + n) := fun n => rfl
  have eword : trimLR isST word = word := trimLR_clean fun c hc => (letB_ne (hw c hc)).2.2.2.1
  refine ⟨?_, ?_, by rw [est], ?_⟩
  rotate_left 2
  · unfold FenceY
    rw [est]
    simp only [hpk, htx, htx2, hr]
    rw [edrop _ rfl, eword]
    refine ⟨.inl ?_, hf, ?_, ?_, ⟨by omega, fun _ => rfl⟩, ?_, fun _ hm => (letB_ne (hw 96 hm)).1 rfl⟩ <;> trivial
  · unfold FenceN
    rw [est]
    simp only [hpk, htx, htx2, hr]
    rintro (⟨h, _⟩ | h | ⟨_, t, ht, hm⟩)
    · exact h rfl
    · omega
    · rw [edrop _ rfl] at ht
      rw [hclean t ht] at hm
      exact (letB_ne (hw 96 hm)).1 rfl
  · intro n c t info
    unfold FenceY
    rw [est]
    simp only [hpk, htx, htx2]
    rintro ⟨h1, h2, h3, h4, h5, h6, h7⟩
    subst h3
    rw [hr] at h4
    subst h4
    rw [edrop _ rfl] at h5
    have := hclean t h5
    subst this
    exact ⟨rfl, rfl, h6.trans (trimLR_clean fun c hc => (letB_ne (hw c hc)).2.2.2.1)⟩
theorem newFence_yes {b f : Nat} {p : PS} {ob : List OB} {M : List Chunk} {word : List UInt8} {nl : UInt8} {ec : Chunk} (h : Sat σ w (p.at b :: M ++ L)) (hs : Stk p ob M) (hd : p.depth + 1 = ob.length) (hob : ob.length < 1048575)
    (hf : 3 ≤ f) (hfl : f < 50000) (hw : ∀ c ∈ word, letB c = true) (hwl : word.length < 10000) (hE : EntA ec) (hec : ec ∈ L)
    (hR : ∀ w p' M' fb FM, p' = { p with stq := p'.stq, stn := ob.length + 1, stc := p'.stc } → FenAt fb (List.replicate f 96) word [] FM → Stk p' (ob ++ [⟨.iface ty_P_fenceBuilder (.pointer (some ⟨fb, 0, none⟩)), none, 0, 0, p.lineno, p.lineno⟩]) M' → Sat σ w (p'.at b :: M' ++ (FM ++ L)) → R (.returned (.tuple #[Ln.zero.val, .bool true])) w) :
    callE P i_newFence #[.pointer (some ⟨b, 0, none⟩), (lnOf (List.replicate f 96 ++ word) nl).val] R w := by
  obtain ⟨fN, fY, fS, _⟩ := fence_line (nl := nl) hf hw
  have hlen : (lnOf (List.replicate f 96 ++ word) nl).text.length < 100000 := by show (List.replicate f 96 ++ word).length < _; simp; omega
  have hl : (lnOf (List.replicate f 96 ++ word) nl).ok := lnOf_ok (by simp; omega)
  generalize lnOf (List.replicate f 96 ++ word) nl = l at fN fY fS hlen hl ⊢
  refine g_newFence.sound ?_
  refine Sat.bx h fun b1 w h => ?_
  refine Sat.bx h fun b3 w h => ?_
  refine Sat.bx h fun b5 w h => ?_
  refine Sat.bx h fun b7 w h => ?_
  refine Sat.bx h fun b9 w h => ?_
  repeat (first | refine nilP_some ?_ | refine Sat.tk h fun w h => ?_ | refine ⟨_, Sat.ld h (by first | assumption | (repeat (first | exact .head _ | apply List.Mem.tail))) (by exact rfl), ?_⟩ | refine ⟨_, _, _, Sat.ld h (by first | assumption | (repeat (first | exact .head _ | apply List.Mem.tail))) (by exact rfl), ?_⟩ | refine Sat.st h (k := 0) rfl (Nat.le_of_ble_eq_true rfl) trivial (by first | (dsimp only [List.set]; exact rfl) | exact rfl) fun w h => ?_ | refine Sat.st h (k := 1) rfl (Nat.le_of_ble_eq_true rfl) trivial (by first | (dsimp only [List.set]; exact rfl) | exact rfl) fun w h => ?_ | refine Sat.st h (k := 2) rfl (Nat.le_of_ble_eq_true rfl) trivial (by first | (dsimp only [List.set]; exact rfl) | exact rfl) fun w h => ?_ | refine Sat.st h (k := 3) rfl (Nat.le_of_ble_eq_true rfl) trivial (by first | (dsimp only [List.set]; exact rfl) | exact rfl) fun w h => ?_ | refine Sat.st h (k := 4) rfl (Nat.le_of_ble_eq_true rfl) trivial (by first | (dsimp only [List.set]; exact rfl) | exact rfl) fun w h => ?_ | refine Sat.st h (k := 5) rfl (Nat.le_of_ble_eq_true rfl) trivial (by first | (dsimp only [List.set]; exact rfl) | exact rfl) fun w h => ?_ | refine Sat.st h (k := 6) rfl (Nat.le_of_ble_eq_true rfl) trivial (by first | (dsimp only [List.set]; exact rfl) | exact rfl) fun w h => ?_ | refine Sat.bx h fun b0 w h => ?_)
  have h : Sat σ _ (l.at b0 :: (b9, cel [.int .i64 0] ty_int) :: (b7, cel [.string (bs [])] ty_string) :: (b5, cel [.string (bs [])] ty_string) :: (zLn b3 :: l.at b1 :: (p.at b :: M ++ L))) := h
  refine trimFence_any h hl hlen hE (by simp [hec]) (fun hN => absurd hN fN) fun n c t info hY w h => ?_
  obtain ⟨rfl, rfl, rfl⟩ := fY n c t info hY
  rw [fS] at h
  refine ⟨_, rfl, br_true rfl ?_⟩
  refine ⟨_, Sat.ld h (.tail _ (.tail _ (.tail _ (.head _)))) (i := 0) rfl, by decide, by simp; omega, ?_⟩
  have h96 : bt (bs (List.replicate n (96 : UInt8))) 0 = 96 := by
    have := bt_at (l := List.replicate n (96 : UInt8)) (i := 0) (by simp; omega)
    rw [show ((0 : Nat) : Int) = 0 from rfl] at this
    rw [this]; simp
  refine br_false (by rw [h96]; rfl) (br_false rfl ?_)
  have h : Sat σ w ((b9, cel [.int .i64 ((0 : Nat) : Int)] ty_int) :: (b7, cel [.string (bs info)] ty_string) :: (b5, cel [.string (bs (List.replicate n 96))] ty_string) :: zLn b3 :: (Ln.zero.at b0 :: l.at b1 :: (p.at b :: M ++ L))) := h.re (by intro _; simp only [List.append_eq, cnt_append, cnt_cons, cnt_nil] <;> omega)
  have k4 : ∀ w, Sat σ w ((b9, cel [.int .i64 ((0 : Nat) : Int)] ty_int) :: (b7, cel [.string (bs info)] ty_string) :: (b5, cel [.string (bs (List.replicate n 96))] ty_string) :: zLn b3 :: (Ln.zero.at b0 :: l.at b1 :: (p.at b :: M ++ L))) → g_newFence.k4 R (some ⟨b, 0, none⟩) b3 b5 b7 b9 w := by
    intro w h
    refine ⟨_, Sat.ld h (.tail _ (.tail _ (.head _))) (i := 0) rfl, _, Sat.ld h (.tail _ (.head _)) (i := 0) rfl, _, Sat.ld h (.head _) (i := 0) rfl, ?_⟩
    refine Sat.bx h fun fb w h => ?_
    have h : Sat σ w (fenC fb (List.replicate n 96) info none 0 0 :: (b9, cel [.int .i64 ((0 : Nat) : Int)] ty_int) :: (b7, cel [.string (bs info)] ty_string) :: (b5, cel [.string (bs (List.replicate n 96))] ty_string) :: zLn b3 :: (Ln.zero.at b0 :: l.at b1 :: (p.at b :: M ++ L))) := h
    have h : Sat σ w (p.at b :: M ++ (fenC fb (List.replicate n 96) info none 0 0 :: (b9, cel [.int .i64 ((0 : Nat) : Int)] ty_int) :: (b7, cel [.string (bs info)] ty_string) :: (b5, cel [.string (bs (List.replicate n 96))] ty_string) :: zLn b3 :: (Ln.zero.at b0 :: l.at b1 :: L))) := h.re (by intro _; simp only [List.append_eq, cnt_append, cnt_cons, cnt_nil] <;> omega)
    refine addBlock_ok h hs hd hob fun w p' M' hp' hs' h => ⟨rfl, ?_⟩
    have h : Sat σ w (zLn b3 :: (p'.at b :: M' ++ (fenC fb (List.replicate n 96) info none 0 0 :: (b9, cel [.int .i64 ((0 : Nat) : Int)] ty_int) :: (b7, cel [.string (bs info)] ty_string) :: (b5, cel [.string (bs (List.replicate n 96))] ty_string) :: Ln.zero.at b0 :: l.at b1 :: L))) := h.re (by intro _; simp only [List.append_eq, cnt_append, cnt_cons, cnt_nil] <;> omega)
    repeat (first | refine nilP_some ?_ | refine Sat.tk h fun w h => ?_ | refine ⟨_, Sat.ld h (by first | assumption | (repeat (first | exact .head _ | apply List.Mem.tail))) (by exact rfl), ?_⟩ | refine ⟨_, _, _, Sat.ld h (by first | assumption | (repeat (first | exact .head _ | apply List.Mem.tail))) (by exact rfl), ?_⟩ | refine Sat.st h (k := 0) rfl (Nat.le_of_ble_eq_true rfl) trivial (by first | (dsimp only [List.set]; exact rfl) | exact rfl) fun w h => ?_ | refine Sat.st h (k := 1) rfl (Nat.le_of_ble_eq_true rfl) trivial (by first | (dsimp only [List.set]; exact rfl) | exact rfl) fun w h => ?_ | refine Sat.st h (k := 2) rfl (Nat.le_of_ble_eq_true rfl) trivial (by first | (dsimp only [List.set]; exact rfl) | exact rfl) fun w h => ?_ | refine Sat.st h (k := 3) rfl (Nat.le_of_ble_eq_true rfl) trivial (by first | (dsimp only [List.set]; exact rfl) | exact rfl) fun w h => ?_ | refine Sat.st h (k := 4) rfl (Nat.le_of_ble_eq_true rfl) trivial (by first | (dsimp only [List.set]; exact rfl) | exact rfl) fun w h => ?_ | refine Sat.st h (k := 5) rfl (Nat.le_of_ble_eq_true rfl) trivial (by first | (dsimp only [List.set]; exact rfl) | exact rfl) fun w h => ?_ | refine Sat.st h (k := 6) rfl (Nat.le_of_ble_eq_true rfl) trivial (by first | (dsimp only [List.set]; exact rfl) | exact rfl) fun w h => ?_ | refine Sat.bx h fun b0 w h => ?_)
    refine hR _ p' M' fb [fenC fb (List.replicate n 96) info none 0 0] hp' ⟨none, 0, [], Sl.nil 1 ty_string, rfl⟩ hs' ?_
    have h : Sat σ _ (zLn b3 :: (p'.at b :: M' ++ (fenC fb (List.replicate n 96) info none 0 0 :: (b9, cel [.int .i64 ((0 : Nat) : Int)] ty_int) :: (b7, cel [.string (bs info)] ty_string) :: (b5, cel [.string (bs (List.replicate n 96))] ty_string) :: Ln.zero.at b0 :: l.at b1 :: L))) := h
    exact h.less [zLn b3, (b9, cel [.int .i64 ((0 : Nat) : Int)] ty_int), (b7, cel [.string (bs info)] ty_string), (b5, cel [.string (bs (List.replicate n 96))] ty_string), Ln.zero.at b0, l.at b1] (by intro _; simp only [List.append_eq, cnt_append, cnt_cons, cnt_nil] <;> omega)
  have k2 : g_newFence.k2 R (some ⟨b, 0, none⟩) b3 b5 b7 b9 w := by
    refine ⟨_, Sat.ld h (.tail _ (.head _)) (i := 0) rfl, ?_⟩
    refine range_ok h fun w rb h => ?_
    intro X hX
    have key : ∀ k i w, i + k = info.length → Sat σ w ((rb, .stringIter (bs info) i) :: ((b9, cel [.int .i64 ((0 : Nat) : Int)] ty_int) :: (b7, cel [.string (bs info)] ty_string) :: (b5, cel [.string (bs (List.replicate n 96))] ty_string) :: zLn b3 :: (Ln.zero.at b0 :: l.at b1 :: (p.at b :: M ++ L)))) → X (some ⟨b, 0, none⟩) b3 b5 b7 b9 (.pointer (some ⟨rb, 0, none⟩)) w := by
      intro k
      induction k with
      | zero =>
        intro i w hi h
        exact hX _ _ _ _ _ _ _ (.inl ⟨_, next_end h (by simp; omega), k4 w h.tail⟩)
      | succ k ih =>
        intro i w hi h
        have hil : i < info.length := by omega
        have hlt : i < (bs info).size := by simpa using hil
        have hc := letB_ne (hw info[i] (List.getElem_mem hil))
        have h128 : info[i].toNat < 128 := UInt8.lt_iff_toNat_lt.1 hc.2.2.2.2.1
        refine hX _ _ _ _ _ _ _ (.inr (next_ok h hlt (by show info[i].toNat < 128; exact h128) fun w h => ?_))
        show callE P i_isUnicodeSpace #[.int .i32 ((info[i].toNat : Nat) : Int)] _ w
        refine isSpace_ok hc.2.2.2.2.1 ⟨_, rfl, br_false hc.2.2.2.2.2 (ih (i + 1) w (by omega) h)⟩
    exact key info.length 0 w (by omega) h
  refine ⟨_, Sat.ld h (.tail _ (.head _)) (i := 0) rfl, ?_⟩
  by_cases hi : info = []
  · refine br_false (by rw [hi, bs_toList, mk_toList]; rfl) (br_false rfl k2)
  · refine br_true (by rw [bs_toList, mk_toList]; simpa using hi) ?_
    have hpos : 0 < info.length := List.length_pos_iff.2 hi
    refine ⟨_, Sat.ld h (.tail _ (.head _)) (i := 0) rfl, fun _ => ⟨by decide, by simp; omega⟩, ?_⟩
    have hb0 := bt_at (l := info) (i := 0) hpos
    rw [show ((0 : Nat) : Int) = 0 from rfl] at hb0
    rw [hb0]
    refine isLetter_ok ⟨_, rfl, ?_⟩
    rw [hw info[0] (List.getElem_mem hpos)]
    exact br_false rfl k2
end Go.Proofs.YtihmcipajjakgaaGreatDoor


set_option linter.unusedVariables false
set_option maxRecDepth 20000
namespace Go.Proofs.YtihmcipajjakgaaGreatDoor
open Go.Proofs
namespace g_CodeBlock_PrintHTML
noncomputable def body : Code := bodyOf Tryz.f324
def k5 (R : EP) (Xa : OA → OA → WP) (x0 : OA) (x1 : OA) (w : World) : Prop :=
 tk w fun w47 =>
 nilP x0 fun a48 =>
 nilP x0 fun a49 =>
 ∃ (v50q : OA), ∃ (v50n : Nat), ∃ (v50c : Nat), w47.cell? (a48.add 4) = some (.slice v50q v50n v50c) ∧
 ∃ (v51q : OA), ∃ (v51n : Nat), ∃ (v51c : Nat), w47.cell? (a49.add 4) = some (.slice v51q v51n v51c) ∧
 ∃ (r52q : OA), ∃ (r52n : Nat), ∃ (r52c : Nat), (∀ w, (Instr.sliceAt ty_S_string (.slice v50q v50n v50c) none (some (.int .i64 (IntKind.i64.wrap ((v51n : Int) - 1)))) none).run P w = .ok (.slice r52q r52n r52c) w) ∧
 nilP x0 fun a53 =>
 stV w47 ((a53.add 4).add 0) (.slice r52q r52n r52c) fun w54 =>
 Xa x0 x1 w54

def bl3 (R : EP) (Xb : OA → OA → Nat → Nat → Int → Int → WP) (x1 : OA) (x99q : OA) (x99n : Nat) (x99c : Nat) (x100 : Int) (x101 : Int) (w : World) : Prop :=
 br (decide (x101 < x100))
 (0 ≤ x101 ∧ x101 < (x99n : Int) ∧
 nilP x99q fun a55 =>
 ∃ (v56 : BA), w.cell? (a55.add (Int.toNat x101 * 1)) = some (.string v56) ∧
 callE P i_htmlEscaper #[] (fun e w58 => ∃ (r57q : OA), ∃ (r57n : Nat), ∃ (r57c : Nat), e = .returned (.slice r57q r57n r57c) ∧
 callE P i_zzPairs_Replace #[.slice r57q r57n r57c, .string v56] (fun e w60 => ∃ (r59 : BA), e = .returned (.string r59) ∧
 callE P i_bytes_Buffer_WriteString #[.pointer x1, .string r59] (fun e w62 => ∃ (r61_0 : Int), ∃ (r61_1 : Value), e = .returned (.tuple #[.int .i64 r61_0, r61_1]) ∧
 callE P i_bytes_Buffer_WriteString #[.pointer x1, .string (ByteArray.mk #[10])] (fun e w64 => ∃ (r63_0 : Int), ∃ (r63_1 : Value), e = .returned (.tuple #[.int .i64 r63_0, r63_1]) ∧
 Xb x1 x99q x99n x99c x100 (IntKind.i64.wrap (x101 + 1)) w64) w62) w60) w58) w)
 (callE P i_bytes_Buffer_WriteString #[.pointer x1, .string (ByteArray.mk #[60, 47, 99, 111, 100, 101, 62, 60, 47, 112, 114, 101, 62, 10])] (fun e w66 => ∃ (r65_0 : Int), ∃ (r65_1 : Value), e = .returned (.tuple #[.int .i64 r65_0, r65_1]) ∧
 R (.returned (.tuple #[])) w66) w)
def l3 (R : EP) (x1 : OA) (x99q : OA) (x99n : Nat) (x99c : Nat) (x100 : Int) (x101 : Int) (w : World) : Prop :=
  ∀ X : OA → OA → Nat → Nat → Int → Int → WP, (∀ x1 x99q x99n x99c x100 x101 w, bl3 R X x1 x99q x99n x99c x100 x101 w → X x1 x99q x99n x99c x100 x101 w) → X x1 x99q x99n x99c x100 x101 w

noncomputable def al3 (R : EP) (Xb : OA → OA → Nat → Nat → Int → Int → WP) : AC :=
  (.leaf (sel [1, 1, 1, 1, 1, 0, 1, 0, 0] body))
def k4 (R : EP) (x0 : OA) (x1 : OA) (w : World) : Prop :=
 nilP x0 fun a45 =>
 ∃ (v46q : OA), ∃ (v46n : Nat), ∃ (v46c : Nat), w.cell? (a45.add 4) = some (.slice v46q v46n v46c) ∧
 l3 R x1 v46q v46n v46c (v46n : Int) 0 w

def bl2 (R : EP) (Xa : OA → OA → WP) (x0 : OA) (x1 : OA) (w : World) : Prop :=
 tk w fun w34 =>
 nilP x0 fun a35 =>
 ∃ (v36q : OA), ∃ (v36n : Nat), ∃ (v36c : Nat), w34.cell? (a35.add 4) = some (.slice v36q v36n v36c) ∧
 br (decide ((v36n : Int) > 0))
 (nilP x0 fun a37 =>
 nilP x0 fun a38 =>
 ∃ (v39q : OA), ∃ (v39n : Nat), ∃ (v39c : Nat), w34.cell? (a37.add 4) = some (.slice v39q v39n v39c) ∧
 ∃ (v40q : OA), ∃ (v40n : Nat), ∃ (v40c : Nat), w34.cell? (a38.add 4) = some (.slice v40q v40n v40c) ∧
 0 ≤ (IntKind.i64.wrap ((v40n : Int) - 1)) ∧ (IntKind.i64.wrap ((v40n : Int) - 1)) < (v39n : Int) ∧
 nilP v39q fun a41 =>
 ∃ (v42 : BA), w34.cell? (a41.add (Int.toNat (IntKind.i64.wrap ((v40n : Int) - 1)) * 1)) = some (.string v42) ∧
 callE P i_trimSpaceTab #[.string v42] (fun e w44 => ∃ (r43 : BA), e = .returned (.string r43) ∧
 br (r43.toList == (ByteArray.mk #[]).toList)
 (k5 R Xa x0 x1 w44)
 (k4 R x0 x1 w44)) w34)
 (k4 R x0 x1 w34)
def l2 (R : EP) (x0 : OA) (x1 : OA) (w : World) : Prop :=
  ∀ X : OA → OA → WP, (∀ x0 x1 w, bl2 R X x0 x1 w → X x0 x1 w) → X x0 x1 w

noncomputable def al2 (R : EP) (Xa : OA → OA → WP) : AC :=
  (.seq (.seq (.draw (.pure 0 (.pure 1 (.pure 2 (.load 3 (.pure 4 (.pure 5 (.pure 6 (.pure 7 (.pure 8 (.pure 9 (.pure 11 (.pure 12 (.pure 13 (.load 10 (.load 14 (.pure 15 (.pure 16 (.pure 17 (.load 18 (.one 19 (.pure 20 (.pure 21 .done)))))))))))))))))))))) (sel [1, 1, 1, 1, 0, 1, 0, 0, 0, 0, 0] body)) (.leaf (sel [1, 1, 1, 1, 0, 1, 0, 0, 0, 0, 1] body))) (.mark (leaf [(0, .s .ptr), (1, .s .ptr)] (k5 R Xa)) (.block 3 (.draw (.pure 0 (.pure 1 (.pure 2 (.pure 3 (.pure 5 (.pure 6 (.pure 7 (.load 4 (.load 8 (.pure 9 (.pure 10 (.pure 11 (.pure 12 (.pure 13 (.one 14 .done))))))))))))))) (sel [1, 1, 1, 1, 0, 1, 0, 0, 0, 1, 0] body)))))
def k2 (R : EP) (x0 : OA) (x1 : OA) (w : World) : Prop :=
 callE P i_bytes_Buffer_WriteString #[.pointer x1, .string (ByteArray.mk #[62])] (fun e w25 => ∃ (r24_0 : Int), ∃ (r24_1 : Value), e = .returned (.tuple #[.int .i64 r24_0, r24_1]) ∧
 nilP x0 fun a26 =>
 ∃ (v27 : BA), w25.cell? (a26.add 2) = some (.string v27) ∧
 br (v27.toList == (ByteArray.mk #[]).toList)
 (l2 R x0 x1 w25)
 (k4 R x0 x1 w25)) w

def k3 (R : EP) (x0 : OA) (x1 : OA) (x4 : BA) (w : World) : Prop :=
 callE P i_htmlQuoteEscaper #[] (fun e w29 => ∃ (r28q : OA), ∃ (r28n : Nat), ∃ (r28c : Nat), e = .returned (.slice r28q r28n r28c) ∧
 callE P i_zzPairs_Replace #[.slice r28q r28n r28c, .string x4] (fun e w31 => ∃ (r30 : BA), e = .returned (.string r30) ∧
 (((ByteArray.mk #[32, 99, 108, 97, 115, 115, 61, 34, 108, 97, 110, 103, 117, 97, 103, 101, 45]).size + r30.size : Nat) : Int) ≤ IntKind.i64.max ∧
 ((((ByteArray.mk #[32, 99, 108, 97, 115, 115, 61, 34, 108, 97, 110, 103, 117, 97, 103, 101, 45]) ++ r30).size + (ByteArray.mk #[34]).size : Nat) : Int) ≤ IntKind.i64.max ∧
 callE P i_bytes_Buffer_WriteString #[.pointer x1, .string (((ByteArray.mk #[32, 99, 108, 97, 115, 115, 61, 34, 108, 97, 110, 103, 117, 97, 103, 101, 45]) ++ r30) ++ (ByteArray.mk #[34]))] (fun e w33 => ∃ (r32_0 : Int), ∃ (r32_1 : Value), e = .returned (.tuple #[.int .i64 r32_0, r32_1]) ∧
 k2 R x0 x1 w33) w31) w29) w

def bl1 (R : EP) (Xc : OA → OA → BA → Value → WP) (x0 : OA) (x1 : OA) (x4 : BA) (x36 : Value) (w : World) : Prop :=
 (∃ w19, (Instr.next x36 true ty_).run P w = .ok (.tuple #[.bool false]) w19 ∧
 k3 R x0 x1 x4 w19) ∨
 (∃ (r20_0 : Int), ∃ (r20_1 : Int), ∃ w21, (Instr.next x36 true ty_).run P w = .ok (.tuple #[.bool true, .int .i64 r20_0, .int .i32 r20_1]) w21 ∧
 callE P i_isUnicodeSpace #[.int .i32 r20_1] (fun e w23 => ∃ (r22 : Bool), e = .returned (.bool r22) ∧
 br r22
 (0 ≤ r20_0 ∧ r20_0 ≤ (x4.size : Int) ∧
 k3 R x0 x1 (x4.extract 0 (Int.toNat r20_0)) w23)
 (Xc x0 x1 x4 x36 w23)) w21)
def l1 (R : EP) (x0 : OA) (x1 : OA) (x4 : BA) (x36 : Value) (w : World) : Prop :=
  ∀ X : OA → OA → BA → Value → WP, (∀ x0 x1 x4 x36 w, bl1 R X x0 x1 x4 x36 w → X x0 x1 x4 x36 w) → X x0 x1 x4 x36 w

noncomputable def al1 (R : EP) (Xc : OA → OA → BA → Value → WP) : AC :=
  (.leaf (sel [1, 1, 0, 1, 0, 1, 0, 1, 0, 0] body))
def k1 (R : EP) (x0 : OA) (x1 : OA) (w : World) : Prop :=
 callE P i_bytes_Buffer_WriteString #[.pointer x1, .string (ByteArray.mk #[60, 112, 114, 101, 62, 60, 99, 111, 100, 101])] (fun e w12 => ∃ (r11_0 : Int), ∃ (r11_1 : Value), e = .returned (.tuple #[.int .i64 r11_0, r11_1]) ∧
 nilP x0 fun a13 =>
 ∃ (v14 : BA), w12.cell? (a13.add 3) = some (.string v14) ∧
 br (!(v14.toList == (ByteArray.mk #[]).toList))
 (nilP x0 fun a15 =>
 ∃ (v16 : BA), w12.cell? (a15.add 3) = some (.string v16) ∧
 ∃ (r17 : Value), ∃ w18, (Instr.range ty_string (.string v16)).run P w12 = .ok r17 w18 ∧
 l1 R x0 x1 v16 r17 w18)
 (k2 R x0 x1 w12)) w

end g_CodeBlock_PrintHTML
def g_CodeBlock_PrintHTML (R : EP) (x0 : OA) (x1 : OA) (w : World) : Prop :=
 callE P i_bytes_Buffer_Len #[.pointer x1] (fun e w2 => ∃ (r1 : Int), e = .returned (.int .i64 r1) ∧
 br (decide (r1 > 0))
 (callE P i_bytes_Buffer_Bytes #[.pointer x1] (fun e w4 => ∃ (r3q : OA), ∃ (r3n : Nat), ∃ (r3c : Nat), e = .returned (.slice r3q r3n r3c) ∧
 callE P i_bytes_Buffer_Len #[.pointer x1] (fun e w6 => ∃ (r5 : Int), e = .returned (.int .i64 r5) ∧
 0 ≤ (IntKind.i64.wrap (r5 - 1)) ∧ (IntKind.i64.wrap (r5 - 1)) < (r3n : Int) ∧
 nilP r3q fun a7 =>
 ∃ (v8 : Int), w6.cell? (a7.add (Int.toNat (IntKind.i64.wrap (r5 - 1)) * 1)) = some (.int .u8 v8) ∧
 br (v8 != 10)
 (callE P i_bytes_Buffer_WriteString #[.pointer x1, .string (ByteArray.mk #[10])] (fun e w10 => ∃ (r9_0 : Int), ∃ (r9_1 : Value), e = .returned (.tuple #[.int .i64 r9_0, r9_1]) ∧
 g_CodeBlock_PrintHTML.k1 R x0 x1 w10) w6)
 (g_CodeBlock_PrintHTML.k1 R x0 x1 w6)) w4) w2)
 (g_CodeBlock_PrintHTML.k1 R x0 x1 w2)) w

noncomputable def g_CodeBlock_PrintHTML.ac (R : EP) : AC :=
  (.seq (.leaf (sel [0] g_CodeBlock_PrintHTML.body)) (.mark (leaf [(0, .s .ptr), (1, .s .ptr)] (g_CodeBlock_PrintHTML.k1 R)) (.seq (.leaf (sel [1, 0] g_CodeBlock_PrintHTML.body)) (.seq (.seq (.leaf (sel [1, 1, 0, 0] g_CodeBlock_PrintHTML.body)) (.cond 30 (.seq (.leaf (sel [1, 1, 0, 1, 0, 0] g_CodeBlock_PrintHTML.body)) (.seq (.seq (.leaf (sel [1, 1, 0, 1, 0, 1, 0, 0] g_CodeBlock_PrintHTML.body)) (.block 0 (.loop (leaf [(0, .s .ptr), (1, .s .ptr), (4, .s .str), (36, .s .any)] (g_CodeBlock_PrintHTML.l1 R)) (sel [1, 1, 0, 1, 0, 1, 0, 1, 0, 0] g_CodeBlock_PrintHTML.body)))) (.mark (leaf [(0, .s .ptr), (1, .s .ptr), (4, .s .str)] (g_CodeBlock_PrintHTML.k3 R)) (.leaf (sel [1, 1, 0, 1, 0, 1, 1] g_CodeBlock_PrintHTML.body))))) (.leaf (sel [1, 1, 0, 1, 1] g_CodeBlock_PrintHTML.body)))) (.mark (leaf [(0, .s .ptr), (1, .s .ptr)] (g_CodeBlock_PrintHTML.k2 R)) (.seq (.leaf (sel [1, 1, 1, 0] g_CodeBlock_PrintHTML.body)) (.seq (.seq (.leaf (sel [1, 1, 1, 1, 0, 0] g_CodeBlock_PrintHTML.body)) (.cond 59 (.block 2 (.loop (leaf [(0, .s .ptr), (1, .s .ptr)] (g_CodeBlock_PrintHTML.l2 R)) (sel [1, 1, 1, 1, 0, 1, 0, 0, 0] g_CodeBlock_PrintHTML.body))) (.leaf (sel [1, 1, 1, 1, 0, 1, 1] g_CodeBlock_PrintHTML.body)))) (.mark (leaf [(0, .s .ptr), (1, .s .ptr)] (g_CodeBlock_PrintHTML.k4 R)) (.seq (.seq (.leaf (sel [1, 1, 1, 1, 1, 0, 0] g_CodeBlock_PrintHTML.body)) (.block 4 (.loop (leaf [(1, .s .ptr), (99, .s .slice), (100, .s (.int .i64)), (101, .s (.int .i64))] (g_CodeBlock_PrintHTML.l3 R)) (sel [1, 1, 1, 1, 1, 0, 1, 0, 0] g_CodeBlock_PrintHTML.body)))) (.leaf (sel [1, 1, 1, 1, 1, 1] g_CodeBlock_PrintHTML.body)))))))))))
theorem g_CodeBlock_PrintHTML.good (R : EP) : Good P 115 (g_CodeBlock_PrintHTML.ac R) (QF P [] R) :=
  ⟨trivial, ⟨⟨trivial, ⟨⟨trivial, ⟨⟨trivial, ⟨⟨trivial, (loopG (g_CodeBlock_PrintHTML.al1 R) (g_CodeBlock_PrintHTML.bl1 R) (fun _ => by kernel_rfl) (fun Xc => trivial) (fun Xc => by intro x0 x1 x4 x36 ρ w; kernel_rfl) (fun X h _ _ _ _ _ g => g X h))⟩, ⟨trivial, cutE (by intro x0 x1 x4 ρ w; kernel_rfl)⟩⟩⟩, trivial⟩⟩, ⟨⟨trivial, ⟨⟨trivial, ⟨(loopG (g_CodeBlock_PrintHTML.al2 R) (g_CodeBlock_PrintHTML.bl2 R) (fun _ => by kernel_rfl) (fun Xa => ⟨⟨⟨by kernel_rfl, by kernel_rfl, fun _ _ _ h => h⟩, trivial⟩, ⟨⟨by kernel_rfl, by kernel_rfl, fun _ _ _ h => h⟩, cutE (by intro x0 x1 ρ w; kernel_rfl)⟩⟩) (fun Xa => by intro x0 x1 ρ w; kernel_rfl) (fun X h _ _ _ g => g X h)), trivial⟩⟩, ⟨⟨⟨trivial, (loopG (g_CodeBlock_PrintHTML.al3 R) (g_CodeBlock_PrintHTML.bl3 R) (fun _ => by kernel_rfl) (fun Xb => trivial) (fun Xb => by intro x1 x99q x99n x99c x100 x101 ρ w; kernel_rfl) (fun X h _ _ _ _ _ _ _ g => g X h))⟩, trivial⟩, cutE (by intro x0 x1 ρ w; kernel_rfl)⟩⟩⟩, cutE (by intro x0 x1 ρ w; kernel_rfl)⟩⟩⟩, cutE (by intro x0 x1 ρ w; kernel_rfl)⟩⟩
theorem g_CodeBlock_PrintHTML.eq (R : EP) (x0 : OA) (x1 : OA) (w : World) : g_CodeBlock_PrintHTML R x0 x1 w = vcA P 115 (g_CodeBlock_PrintHTML.ac R) (QF P [] R) (fr0 [.pointer x0, .pointer x1]) w := by kernel_rfl
theorem g_CodeBlock_PrintHTML.sound {R : EP} {x0 : OA} {x1 : OA} {w : World} (h : g_CodeBlock_PrintHTML R x0 x1 w) : callE P i_CodeBlock_PrintHTML #[.pointer x0, .pointer x1] R w :=
  callE_fin (c := g_CodeBlock_PrintHTML.body) Tryz.func324 Tryz.call324 (by kernel_rfl) (by kernel_rfl) (by kernel_rfl) (by kernel_rfl) (by kernel_rfl) (g_CodeBlock_PrintHTML.good R) (g_CodeBlock_PrintHTML.eq R x0 x1 w) h
namespace g_bytes_Buffer_Bytes
noncomputable def body : Code := bodyOf Tryz.f260
end g_bytes_Buffer_Bytes
def g_bytes_Buffer_Bytes (R : EP) (x0 : OA) (w : World) : Prop :=
 tk w fun w1 =>
 nilP x0 fun a2 =>
 nilP x0 fun a3 =>
 ∃ (v4q : OA), ∃ (v4n : Nat), ∃ (v4c : Nat), w1.cell? a2 = some (.slice v4q v4n v4c) ∧
 ∃ (v5 : Int), w1.cell? (a3.add 1) = some (.int .i64 v5) ∧
 ∃ (r6q : OA), ∃ (r6n : Nat), ∃ (r6c : Nat), (∀ w, (Instr.sliceAt ty_S_uint8 (.slice v4q v4n v4c) (some (.int .i64 v5)) none none).run P w = .ok (.slice r6q r6n r6c) w) ∧
 R (.returned (.slice r6q r6n r6c)) w1

noncomputable def g_bytes_Buffer_Bytes.ac (R : EP) : AC :=
  (.seq (.leaf (sel [0] g_bytes_Buffer_Bytes.body)) (.seq (.draw (.pure 0 (.pure 1 (.pure 2 (.pure 4 (.pure 5 (.pure 6 (.load 3 (.load 7 (.pure 8 (.pure 9 .done)))))))))) (sel [1, 0] g_bytes_Buffer_Bytes.body)) (.leaf (sel [1, 1] g_bytes_Buffer_Bytes.body))))
theorem g_bytes_Buffer_Bytes.good (R : EP) : Good P 12 (g_bytes_Buffer_Bytes.ac R) (QF P [.tmp 2] R) :=
  ⟨trivial, ⟨⟨by kernel_rfl, by kernel_rfl, fun _ _ _ h => h⟩, trivial⟩⟩
theorem g_bytes_Buffer_Bytes.eq (R : EP) (x0 : OA) (w : World) : g_bytes_Buffer_Bytes R x0 w = vcA P 12 (g_bytes_Buffer_Bytes.ac R) (QF P [.tmp 2] R) (fr0 [.pointer x0]) w := by kernel_rfl
theorem g_bytes_Buffer_Bytes.sound {R : EP} {x0 : OA} {w : World} (h : g_bytes_Buffer_Bytes R x0 w) : callE P i_bytes_Buffer_Bytes #[.pointer x0] R w :=
  callE_fin (c := g_bytes_Buffer_Bytes.body) Tryz.func260 Tryz.call260 (by kernel_rfl) (by kernel_rfl) (by kernel_rfl) (by kernel_rfl) (by kernel_rfl) (g_bytes_Buffer_Bytes.good R) (g_bytes_Buffer_Bytes.eq R x0 w) h
end Go.Proofs.YtihmcipajjakgaaGreatDoor

set_option linter.unusedVariables false
namespace Go.Proofs.YtihmcipajjakgaaGreatDoor
open Go.Proofs Go.IntWalk Go.RowKit
variable {σ : Out} {w : World} {L L' : List Chunk} {R : Ending → World → Prop}
theorem bufLen_okB {b : Nat} {l : List UInt8} {M : List Chunk} (hB : Buf b l M) (h : Sat σ w (M ++ L)) (hl : l.length < 4611686018427387904) (hR : ∀ w, Sat σ w (M ++ L) → R (.returned (.int .i64 l.length)) w) : callE P i_bytes_Buffer_Len #[.pointer (some ⟨b, 0, none⟩)] R w := by
  obtain ⟨q, c, lr, M0, rfl, hA, hc⟩ := hB
  exact bufLen_ok h hl hR
theorem bufBytes_ok {b : Nat} {l : List UInt8} {M : List Chunk} (hB : Buf b l M) (h : Sat σ w (M ++ L))
    (hR : ∀ w q c lr M0, M = bufC b q l.length c lr :: M0 → By q l.length c l M0 → Sat σ w (M ++ L) → R (.returned (.slice q l.length c)) w) : callE P i_bytes_Buffer_Bytes #[.pointer (some ⟨b, 0, none⟩)] R w := by
  obtain ⟨q, c, lr, M0, rfl, hA, hc⟩ := hB
  refine g_bytes_Buffer_Bytes.sound ?_
  have hsl := hA.2.1
  refine Sat.tk h fun w h => ?_
  refine nilP_some (nilP_some ?_)
  refine ⟨_, _, _, Sat.ld h (by first | assumption | (repeat (first | exact .head _ | apply List.Mem.tail))) (by exact rfl), ?_⟩
  refine ⟨_, Sat.ld h (.head _) rfl, _, _, _, fun w => sliceF rowU8.ht rowU8.hi q _ c 0 (Nat.zero_le _) w, ?_⟩
  have eq0 : (if c = 0 then q else q.map (·.add (0 * rowU8.i.size))) = q := by
    split
    · rfl
    · cases q <;> simp [Addr.add]
  rw [eq0, Nat.sub_zero, Nat.sub_zero]
  exact hR w q c lr M0 rfl hA h
def nlB (l : List UInt8) : List UInt8 := if l = [] ∨ l.getLast? = some 10 then l else l ++ [10]
theorem nlB_le (l : List UInt8) : l.length ≤ (nlB l).length ∧ (nlB l).length ≤ l.length + 1 := by
  unfold nlB; split <;> simp
def preO : List UInt8 := [60, 112, 114, 101, 62, 60, 99, 111, 100, 101]
def preC : List UInt8 := [60, 47, 99, 111, 100, 101, 62, 60, 47, 112, 114, 101, 62, 10]
def clsO : List UInt8 := [32, 99, 108, 97, 115, 115, 61, 34, 108, 97, 110, 103, 117, 97, 103, 101, 45]
def clsT (info : List UInt8) : List UInt8 := if info = [] then [] else clsO ++ escS htmlPs info ++ [34]
def codeOut (ls : List (List UInt8)) : List UInt8 := ls.flatMap fun l => escS htmlPs l ++ [10]
def codeF (info : List UInt8) (ls : List (List UInt8)) (l : List UInt8) : List UInt8 := nlB l ++ (preO ++ clsT info ++ [62] ++ codeOut ls ++ preC)
theorem meth_CodeBlock : methB P ty_P_CodeBlock "PrintHTML" i_CodeBlock_PrintHTML = true := by kernel_rfl
theorem code_prints {nb s e : Nat} {q : Option Addr} {c : Nat} {F info : List UInt8} {ls : List (List UInt8)} {SM : List Chunk} (hS : Sl 1 ty_string q ls.length c (sv ls) SM) (hn : ls.length < 1048576) (hl : ∀ l ∈ ls, l.length < 4294967296) (hF : F ≠ [])
    (hi : ∀ c ∈ info, c < 128 ∧ spB c = false) (hil : info.length < 100000) :
    Prints "PrintHTML" (.iface ty_P_CodeBlock (.pointer (some ⟨nb, 0, none⟩))) (codC nb s e F info q ls.length c :: SM) (codC nb s e F info q ls.length c :: SM) (codeF info ls) := by
  refine ⟨fun l => by have := (nlB_le l).1; simp only [codeF, List.length_append] at *; omega, fun σ R b l M L w hB h hb hR => enter_meth meth_CodeBlock ?_⟩
  refine g_CodeBlock_PrintHTML.sound ?_
  have hbl : (codeF info ls l).length ≤ 549755813888 := hb
  have hnl := nlB_le l
  have hpre : (codeF info ls l).length = (nlB l).length + (preO.length + (clsT info).length + 1 + (codeOut ls).length + preC.length) := by simp [codeF]; omega
  have hpo : preO.length = 10 := rfl
  have hpc : preC.length = 14 := rfl
  have k4 : ∀ w M, Buf b (nlB l ++ preO ++ clsT info ++ [62]) M → Sat σ w (M ++ (codC nb s e F info q ls.length c :: SM ++ L)) → g_CodeBlock_PrintHTML.k4 R (some ⟨nb, 0, none⟩) (some ⟨b, 0, none⟩) w := by
    intro w M hB h
    refine nilP_some ⟨_, _, _, Sat.ld h (List.mem_append_right _ (.head _)) (i := 4) rfl, ?_⟩
    intro X hX
    have key : ∀ k j M w, j + k = ls.length → Buf b (nlB l ++ preO ++ clsT info ++ [62] ++ codeOut (ls.take j)) M → Sat σ w (M ++ (codC nb s e F info q ls.length c :: SM ++ L)) → X (some ⟨b, 0, none⟩) q ls.length c (ls.length : Int) (j : Int) w := by
      intro k
      induction k with
      | zero =>
        intro j M w hj hB h
        rw [List.take_of_length_le (by omega)] at hB
        refine hX _ _ _ _ _ _ _ (br_false (by simp; omega) ?_)
        refine writeS_ok (s := preC) hB h (by simp only [List.length_append, List.length_cons, List.length_nil]; omega) fun w M hB h => ⟨_, _, rfl, ?_⟩
        refine hR w M ?_ h
        have e : nlB l ++ preO ++ clsT info ++ [62] ++ codeOut ls ++ preC = codeF info ls l := by simp [codeF]
        rw [← e]; exact hB
      | succ k ih =>
        intro j M w hj hB h
        have hjl : j < ls.length := by omega
        have hst : codeOut (ls.take (j + 1)) = codeOut (ls.take j) ++ (escS htmlPs ls[j] ++ [10]) := by unfold codeOut; rw [List.take_succ_eq_append_getElem hjl, List.flatMap_append]; simp
        have hle : (codeOut (ls.take (j + 1))).length ≤ (codeOut ls).length := by
          have : codeOut ls = codeOut (ls.take (j + 1)) ++ codeOut (ls.drop (j + 1)) := by unfold codeOut; rw [← List.flatMap_append, List.take_append_drop]
          rw [this, List.length_append]; omega
        rw [hst] at hle
        simp only [List.length_append, List.length_cons, List.length_nil] at hle
        have hll := hl ls[j] (List.getElem_mem hjl)
        have hS2 : Sat σ w (SM ++ (M ++ (codC nb s e F info q ls.length c :: L))) := h.re (by intro _; simp only [List.append_eq, cnt_append, cnt_cons, cnt_nil] <;> omega)
        refine hX _ _ _ _ _ _ _ (br_true (by simp; omega) ⟨by omega, by omega, ?_⟩)
        refine hS.loadAt hS2 (sv_get hjl) fun qb hq hc => ?_
        simp only [Addr.add_lit, Int.toNat_natCast, Nat.mul_one, Nat.zero_add]
        refine ⟨_, hc, ?_⟩
        refine htmlEscaper_ok h fun w eb h => ⟨_, _, _, rfl, ?_⟩
        refine pairsReplace_ok (ps := htmlPs) h (.head _) (by decide) (by decide) (by omega) fun w h => ⟨_, rfl, ?_⟩
        have h := h.tail
        refine writeS_ok (s := escS htmlPs ls[j]) hB h (by simp only [List.length_append, List.length_cons, List.length_nil]; omega) fun w M hB h => ⟨_, _, rfl, ?_⟩
        refine writeS_ok (s := [10]) hB h (by simp only [List.length_append, List.length_cons, List.length_nil]; omega) fun w M hB h => ⟨_, _, rfl, ?_⟩
        rw [i64_inc (by omega)]
        refine ih (j + 1) M w (by omega) ?_ h
        rw [hst, ← List.append_assoc, ← List.append_assoc]; exact hB
    exact key ls.length 0 M w (by omega) (by simpa [codeOut] using hB) h
  have k2 : ∀ w M, Buf b (nlB l ++ preO ++ clsT info) M → Sat σ w (M ++ (codC nb s e F info q ls.length c :: SM ++ L)) → g_CodeBlock_PrintHTML.k2 R (some ⟨nb, 0, none⟩) (some ⟨b, 0, none⟩) w := by
    intro w M hB h
    refine writeS_ok (s := [62]) hB h (by simp only [List.length_append, List.length_cons, List.length_nil]; omega) fun w M hB h => ⟨_, _, rfl, nilP_some ?_⟩
    refine ⟨_, Sat.ld h (List.mem_append_right _ (.head _)) (i := 2) rfl, br_false ?_ (k4 w M hB h)⟩
    rw [bs_toList, mk_toList]; simpa using hF
  have k1 : ∀ w M, Buf b (nlB l) M → Sat σ w (M ++ (codC nb s e F info q ls.length c :: SM ++ L)) → g_CodeBlock_PrintHTML.k1 R (some ⟨nb, 0, none⟩) (some ⟨b, 0, none⟩) w := by
    intro w M hB h
    refine writeS_ok (s := preO) hB h (by omega) fun w M hB h => ⟨_, _, rfl, nilP_some ?_⟩
    refine ⟨_, Sat.ld h (List.mem_append_right _ (.head _)) (i := 3) rfl, ?_⟩
    by_cases hi0 : info = []
    · refine br_false (by rw [bs_toList, mk_toList, hi0]; rfl) (k2 w M ?_ h)
      unfold clsT; rw [if_pos hi0, List.append_nil]; exact hB
    · refine br_true (by rw [bs_toList, mk_toList]; simpa using hi0) (nilP_some ?_)
      refine ⟨_, Sat.ld h (List.mem_append_right _ (.head _)) (i := 3) rfl, ?_⟩
      have hcl : (clsT info).length = 17 + (escS htmlPs info).length + 1 := by unfold clsT; rw [if_neg hi0]; simp [clsO]; omega
      have k3 : ∀ w, Sat σ w (M ++ (codC nb s e F info q ls.length c :: SM ++ L)) → g_CodeBlock_PrintHTML.k3 R (some ⟨nb, 0, none⟩) (some ⟨b, 0, none⟩) (bs info) w := by
        intro w h
        have hmax : IntKind.i64.max = 9223372036854775807 := rfl
        refine htmlQuoteEscaper_ok h fun w eb h => ⟨_, _, _, rfl, ?_⟩
        refine pairsReplace_ok (ps := htmlPs) h (.head _) (by decide) (by decide) (by omega) fun w h => ⟨_, rfl, ?_⟩
        have h := h.tail
        rw [show ByteArray.mk #[32, 99, 108, 97, 115, 115, 61, 34, 108, 97, 110, 103, 117, 97, 103, 101, 45] = bs clsO from rfl, show ByteArray.mk #[34] = bs [34] from rfl, bs_append, bs_append]
        have hco : clsO.length = 17 := rfl
        refine ⟨by rw [hmax, bs_size, bs_size]; omega, by rw [hmax, bs_size, bs_size]; simp only [List.length_append, List.length_cons, List.length_nil]; omega, ?_⟩
        refine writeS_ok (s := clsO ++ escS htmlPs info ++ [34]) hB h (by simp only [List.length_append, List.length_cons, List.length_nil]; omega) fun w M hB h => ⟨_, _, rfl, k2 w M ?_ h⟩
        unfold clsT; rw [if_neg hi0]; exact hB
      refine range_ok h fun w rb h => ?_
      intro X hX
      have key : ∀ k i w, i + k = info.length → Sat σ w ((rb, .stringIter (bs info) i) :: (M ++ (codC nb s e F info q ls.length c :: SM ++ L))) → X (some ⟨nb, 0, none⟩) (some ⟨b, 0, none⟩) (bs info) (.pointer (some ⟨rb, 0, none⟩)) w := by
        intro k
        induction k with
        | zero =>
          intro i w hi h
          exact hX _ _ _ _ _ (.inl ⟨_, next_end h (by simp; omega), k3 w h.tail⟩)
        | succ k ih =>
          intro i w hik h
          have hil : i < info.length := by omega
          have hlt : i < (bs info).size := by simpa using hil
          have hc := hi info[i] (List.getElem_mem hil)
          have h128 : info[i].toNat < 128 := UInt8.lt_iff_toNat_lt.1 hc.1
          refine hX _ _ _ _ _ (.inr (next_ok h hlt (by show info[i].toNat < 128; exact h128) fun w h => ?_))
          show callE P i_isUnicodeSpace #[.int .i32 ((info[i].toNat : Nat) : Int)] _ w
          refine isSpace_ok hc.1 ⟨_, rfl, br_false hc.2 (ih (i + 1) w (by omega) h)⟩
      exact key info.length 0 w (by omega) h
  refine bufLen_okB hB h (by omega) fun w h => ⟨_, rfl, ?_⟩
  by_cases h0 : l = []
  · subst h0
    exact br_false rfl (k1 w M hB h)
  have hpos : 0 < l.length := List.length_pos_iff.2 h0
  refine br_true (by simp; omega) ?_
  refine bufBytes_ok hB h fun w bq bc lr M0 hM hA h => ⟨_, _, _, rfl, ?_⟩
  refine bufLen_okB hB h (by omega) fun w h => ⟨_, rfl, ?_⟩
  have hw1 : IntKind.i64.wrap ((l.length : Int) - 1) = ((l.length - 1 : Nat) : Int) := by rw [i64_in _ (by omega)]; omega
  rw [hw1]
  refine ⟨by omega, by omega, ?_⟩
  have h2 : Sat σ w (M0 ++ (bufC b bq l.length bc lr :: (codC nb s e F info q ls.length c :: SM ++ L))) := by rw [hM] at h; exact h.re (by intro _; simp only [List.append_eq, cnt_append, cnt_cons, cnt_nil] <;> omega)
  refine hA.loadAt h2 (bc_get (j := l.length - 1) (by omega)) fun qb hq hc => ?_
  simp only [Addr.add_lit, Int.toNat_natCast, Nat.mul_one, Nat.zero_add]
  refine ⟨_, hc, ?_⟩
  have hlast : l.getLast? = some l[l.length - 1] := by rw [List.getLast?_eq_getElem?]; exact List.getElem?_eq_getElem _
  by_cases h10 : l[l.length - 1] = 10
  · refine br_false (by rw [h10]; rfl) (k1 w M ?_ h)
    unfold nlB; rw [if_pos (.inr (by rw [hlast, h10]))]; exact hB
  · refine br_true ?_ ?_
    · have := u8b (l[l.length - 1]) 10 10 rfl
      simp only [bne, this]; simpa using h10
    have hn : nlB l = l ++ [10] := by unfold nlB; rw [if_neg]; rintro (hh | hh); exact h0 hh; exact h10 (by rw [hlast] at hh; exact Option.some.inj hh)
    refine writeS_ok (s := [10]) hB h (by simp only [List.length_cons, List.length_nil]; omega) fun w M hB h => ⟨_, _, rfl, k1 w M ?_ h⟩
    rw [hn]; exact hB
end Go.Proofs.YtihmcipajjakgaaGreatDoor


set_option linter.unusedVariables false
namespace Go.Proofs.YtihmcipajjakgaaGreatDoor
open Go.Proofs Go.IntWalk Go.RowKit
variable {σ : Out} {w : World} {L L' : List Chunk} {R : Ending → World → Prop}
def lowB (c : UInt8) : Bool := (decide (97 ≤ c.toNat) && decide (c.toNat ≤ 122)) || (decide (48 ≤ c.toNat) && decide (c.toNat ≤ 57))
def preWords : List (List UInt8) := [[112, 114, 101], [115, 99, 114, 105, 112, 116], [115, 116, 121, 108, 101], [116, 101, 120, 116, 97, 114, 101, 97]]
structure NoTag (s : List UInt8) (e m : Nat) : Prop where
  len : s.length < 1000000
  hd : s.getD 0 0 = 60
  n1 : s.getD 1 0 ≠ 33 ∧ s.getD 1 0 ≠ 63 ∧ s.getD 1 0 ≠ 47
  e1 : 1 ≤ e ∧ e < s.length ∧ e ≤ 17
  run : ∀ k, 1 ≤ k → k < e → lowB (s.getD k 0) = true
  stop : e = 17 ∨ (lowB (s.getD e 0) = false ∧ letB (s.getD e 0) = false)
  sep : s.getD e 0 ≠ 32 ∧ s.getD e 0 ≠ 9 ∧ s.getD e 0 ≠ 62 ∧ s.getD e 0 ≠ 47
  tag : letB (s.getD 1 0) = false ∨ (RunTo s ldhB 2 m ∧ m < s.length ∧ sub s 1 m ∉ preWords ∧ s.getD m 0 ≠ 32 ∧ s.getD m 0 ≠ 9 ∧ s.getD m 0 ≠ 10 ∧ s.getD m 0 ≠ 47 ∧ s.getD m 0 ≠ 62)
end Go.Proofs.YtihmcipajjakgaaGreatDoor


set_option linter.unusedVariables false
namespace Go.Proofs.YtihmcipajjakgaaGreatDoor
open Go.Proofs Go.IntWalk Go.RowKit
variable {σ : Out} {w : World} {L L' : List Chunk} {R : Ending → World → Prop}
inductive Leaf where
  | none
  | para (ls : List (List UInt8))
  | other (A : List OB → List Chunk → Prop)
def LeafAt : Leaf → List OB → List Chunk → Prop
  | .none, ob, M => ob = [] ∧ M = []
  | .para ls, ob, M => ∃ qb s e, ob = [paraOB qb s e] ∧ ParaAt qb ls M ∧ s < 1000000000 ∧ ls ≠ [] ∧ ls.length < 1048570
  | .other A, ob, M => A ob M
def rootV (rb : Nat) : Value := .iface ty_P_rootBuilder (.pointer (some ⟨rb, 0, none⟩))
def DocS (σ : Out) (b rb : Nat) (L : List Chunk) (D : List DB) (lf : Leaf) (p : PS) (w : World) : Prop :=
  ∃ r obs M TM IM LM, r.bd = rootV rb ∧ Stk p (r :: obs) M ∧ Txts p ((txsC D).map TX.t) TM ∧ Sl 1 ty_Block r.q r.n r.c (D.map DB.v) IM ∧ LeafAt lf obs LM ∧
    Sat σ w (p.at b :: M ++ (IM ++ (TM ++ (LM ++ (ownC D ++ ((txsC D).map TX.chunk ++ L))))))
def PS.base (p : PS) : PS := { p with lineno := 0, stq := none, stn := 0, stc := 0, depth := 0, corner := false, tq := none, tn := 0, tc := 0 }
def paraDB (nb t s e : Nat) (raw : List UInt8) : DB := ⟨.iface ty_P_Paragraph (.pointer (some ⟨nb, 0, none⟩)), [paraC nb s e t], [⟨t, s, e, raw⟩]⟩
def LeafClosed (lf : Leaf) (D : List DB) (D' : List DB) : Prop :=
  match lf with
  | .none => D' = D
  | .para ls => ∃ nb t s e, D' = D ++ [paraDB nb t s e (joinL [10] ls)]
  | .other _ => False
def Leaf.fin : Leaf → Prop
  | .none => True
  | .para ls => (joinL [10] ls).length < 1073741824 ∧ joinL [10] ls ≠ [] ∧ ((joinL [10] ls).dropWhile isSTN).head? ≠ some 91
  | .other _ => False
def Leaf.finN : Leaf → Prop
  | .none => True
  | .para ls => (joinL [10] ls).length < 1073741824 ∧ joinL [10] ls ≠ [] ∧ NoRef (joinL [10] ls)
  | .other _ => False
theorem Leaf.fin.toN {lf : Leaf} (h : lf.fin) : lf.finN := by
  cases lf with
  | none => trivial
  | para ls => exact ⟨h.1, h.2.1, noRef_of (by have := h.1; omega) h.2.2⟩
  | other A => exact h
theorem closeLeaf_ok {b rb : Nat} {p : PS} {D : List DB} {ls : List (List UInt8)} (h : DocS σ b rb L D (.para ls) p w) (hf : Leaf.finN (.para ls)) (hD : D.length < 100000) (hX : (txsC D).length < 100000)
    (hR : ∀ w p' D' x, p'.base = p.base → p'.depth = p.depth → p'.lineno = p.lineno → p'.stn = 1 → LeafClosed (.para ls) D D' → DocS σ b rb L D' .none p' w → R (.returned x) w) :
    callE P i_parseState_closeBlock #[.pointer (some ⟨b, 0, none⟩)] R w := by
  obtain ⟨r, obs, M, TM, IM, LM, hr, hs, ht, hI, ⟨qb, s, e, rfl, hp, hs1, hne, hln⟩, h⟩ := h
  obtain ⟨hf1, hf2, hf3⟩ := hf
  have hIl := hI.1
  simp only [List.length_map, Nat.mul_one] at hIl
  refine closePara_ok (ob := []) (par := r) (o := paraOB qb s e) h hs rfl hI (by omega) ht (by simp; omega) hp hne (by omega) rfl hf1 hf2 hf3 (by exact hs1) fun w p' M' IM' TM' t nb q' c' x hp' hs' ht' hI' h => ?_
  refine hR w p' (D ++ [paraDB nb t s (s + ls.length - 1) (joinL [10] ls)]) x (by rw [hp']; rfl) (by rw [hp']) (by rw [hp']) (by rw [hp']; rfl) ⟨nb, t, s, _, rfl⟩ ?_
  refine ⟨{ r with q := q', n := r.n + 1, c := c' }, [], M', TM', IM', [], hr, hs', ?_, ?_, ⟨rfl, rfl⟩, ?_⟩
  · rw [txsC_snoc, List.map_append]; exact ht'
  · rw [List.map_append]; exact hI'
  · rw [ownC_snoc, txsC_snoc, List.map_append]
    have h : Sat σ w (p'.at b :: M' ++ (IM' ++ (TM' ++ (paraC nb s (s + ls.length - 1) t :: textC t s (s + ls.length - 1) none 0 0 (joinL [10] ls) :: (ownC D ++ ((txsC D).map TX.chunk ++ L)))))) := h
    show Sat σ w (p'.at b :: M' ++ (IM' ++ (TM' ++ ([] ++ ((ownC D ++ [paraC nb s (s + ls.length - 1) t]) ++ (((txsC D).map TX.chunk ++ [textC t s (s + ls.length - 1) none 0 0 (joinL [10] ls)]) ++ L))))))
    exact h.re (by intro _; simp only [List.append_eq, cnt_append, cnt_cons, cnt_nil] <;> omega)
theorem DocS.upd {b rb : Nat} {D : List DB} {lf : Leaf} {p p' : PS} {w' : World} (h : DocS σ b rb L D lf p w) (h1 : p'.stq = p.stq) (h2 : p'.stn = p.stn) (h3 : p'.stc = p.stc) (h4 : p'.tq = p.tq) (h5 : p'.tn = p.tn) (h6 : p'.tc = p.tc)
    (hw : ∀ K, Sat σ w (p.at b :: K) → Sat σ w' (p'.at b :: K)) : DocS σ b rb L D lf p' w' := by
  obtain ⟨r, obs, M, TM, IM, LM, hr, hs, ht, hI, hL, h⟩ := h
  exact ⟨r, obs, M, TM, IM, LM, hr, hs.of h1 h2 h3, ht.of h4 h5 h6, hI, hL, hw _ h⟩
theorem lineFields : (P.fieldsOf ty_line).toList.map (fun f => (f.name == "_", f.type, f.offset)) = [(false, ty_int, 0), (false, ty_int, 1), (false, ty_int, 2), (false, ty_string, 3), (false, ty_uint8, 4)] := by kernel_rfl
theorem und_int : P.underlying ty_int = some (.int .i64) := by kernel_rfl
theorem und_u8 : P.underlying ty_uint8 = some (.int .u8) := by kernel_rfl
theorem und_str : P.underlying ty_string = some .string := by kernel_rfl
theorem part_line {t : TypeId} {d : TypeDesc} (hd : P.underlying t = some d) (h1 : ∀ f, d ≠ .struct f) (h2 : ∀ n e, d ≠ .array n e) {cs : Array Value} {k : Nat} {v : Value} (hv : cs[k]? = some v) (w : World) : (part t cs k).run P w = .ok v w := by
  cases d <;> first | exact absurd rfl (h1 _) | exact absurd rfl (h2 _ _) | simp [part, isAgg, run_underlying hd, hv]
end Go.Proofs.YtihmcipajjakgaaGreatDoor


set_option linter.unusedVariables false
namespace Go.Proofs.YtihmcipajjakgaaGreatDoor
open Go.Proofs Go.IntWalk Go.RowKit
variable {σ : Out} {w : World} {L L' : List Chunk} {R : Ending → World → Prop}
theorem news_rounds {Xb : OA → Nat → WP} {Y : OA → Nat → OA → Nat → Nat → Int → Int → WP} {b b1 nb : Nat} {e : TypeId} {p : PS} {M : List Chunk} {l : Ln}
    (hY : ∀ x0 x3 x86q x86n x86c x87 x88 w, g_parseState_addLine.bl2 R Xb Y x0 x3 x86q x86n x86c x87 x88 w → Y x0 x3 x86q x86n x86c x87 x88 w) (i : Nat) :
    ∀ (k : Nat) w, i ≤ 8 → k ≤ i → (∀ j (hj : j < newsF.length), k ≤ j → j < i → Decl b p M l newsF[j]) → Sat σ w (p.at b :: M ++ (l.at b1 :: (nb, cel newsC e) :: L)) →
      (∀ w, Sat σ w (p.at b :: M ++ (l.at b1 :: (nb, cel newsC e) :: L)) → Y (some ⟨b, 0, none⟩) b1 (some ⟨nb, 0, none⟩) 8 8 8 (i : Nat) w) → Y (some ⟨b, 0, none⟩) b1 (some ⟨nb, 0, none⟩) 8 8 8 (k : Nat) w := by
  intro k
  generalize hm : i - k = m
  induction m generalizing k with
  | zero =>
    intro w hi hk hd h hE
    obtain rfl : k = i := by omega
    exact hE w h
  | succ m ih =>
    intro w hi hk hd h hE
    refine hY _ _ _ _ _ _ _ _ (br_true (by simp; omega) ⟨by omega, by omega, ?_⟩)
    have hl : k < newsF.length := by show k < 8; omega
    have hf := List.getElem?_eq_getElem hl
    refine nilP_some ?_
    simp only [Addr.add_lit, Nat.zero_add, Int.toNat_natCast, Nat.mul_one]
    have h : Sat σ w (l.at b1 :: (nb, cel newsC e) :: (p.at b :: (M ++ L))) := h.re (by intro _; simp only [List.append_eq, cnt_append, cnt_cons, cnt_nil] <;> omega)
    refine ⟨_, Sat.ld h (.tail _ (.head _)) (newsC_get hf), ?_⟩
    refine ⟨_, Sat.ld h (.head _) rfl, _, Sat.ld h (.head _) rfl, _, Sat.ld h (.head _) rfl, _, Sat.ld h (.head _) rfl, _, Sat.ld h (.head _) rfl, ?_⟩
    have h : Sat σ w (p.at b :: M ++ (l.at b1 :: (nb, cel newsC e) :: L)) := h.re (by intro _; simp only [List.append_eq, cnt_append, cnt_cons, cnt_nil] <;> omega)
    refine enter_fn ?_
    refine hd k hl (Nat.le_refl _) (by omega) σ w _ _ h fun w h => ⟨_, _, _, _, _, _, rfl, ?_⟩
    repeat (first | refine nilP_some ?_ | refine Sat.tk h fun w h => ?_ | refine ⟨_, Sat.ld h (by first | assumption | (repeat (first | exact .head _ | apply List.Mem.tail))) (by exact rfl), ?_⟩ | refine ⟨_, _, _, Sat.ld h (by first | assumption | (repeat (first | exact .head _ | apply List.Mem.tail))) (by exact rfl), ?_⟩ | refine Sat.st h (k := 0) rfl (Nat.le_of_ble_eq_true rfl) trivial (by first | (dsimp only [List.set]; exact rfl) | exact rfl) fun w h => ?_ | refine Sat.st h (k := 1) rfl (Nat.le_of_ble_eq_true rfl) trivial (by first | (dsimp only [List.set]; exact rfl) | exact rfl) fun w h => ?_ | refine Sat.st h (k := 2) rfl (Nat.le_of_ble_eq_true rfl) trivial (by first | (dsimp only [List.set]; exact rfl) | exact rfl) fun w h => ?_ | refine Sat.st h (k := 3) rfl (Nat.le_of_ble_eq_true rfl) trivial (by first | (dsimp only [List.set]; exact rfl) | exact rfl) fun w h => ?_ | refine Sat.st h (k := 4) rfl (Nat.le_of_ble_eq_true rfl) trivial (by first | (dsimp only [List.set]; exact rfl) | exact rfl) fun w h => ?_ | refine Sat.st h (k := 5) rfl (Nat.le_of_ble_eq_true rfl) trivial (by first | (dsimp only [List.set]; exact rfl) | exact rfl) fun w h => ?_ | refine Sat.st h (k := 6) rfl (Nat.le_of_ble_eq_true rfl) trivial (by first | (dsimp only [List.set]; exact rfl) | exact rfl) fun w h => ?_ | refine Sat.bx h fun b0 w h => ?_)
    rw [i64_inc (by omega)]
    have h : Sat σ _ (l.at b0 :: (p.at b :: M ++ (l.at b1 :: (nb, cel newsC e) :: L))) := h
    exact ih (k + 1) (by omega) _ hi (by omega) (fun j hj h1 h2 => hd j hj (by omega) h2) h.tail hE
theorem bl102_take {Xb : OA → Nat → WP} {b b1 : Nat} {p : PS} {M : List Chunk} {l : Ln} (i : Nat) (hi : i < newsF.length) (h : Sat σ w (p.at b :: M ++ (l.at b1 :: L))) (hd : ∀ j (hj : j < newsF.length), j < i → Decl b p M l newsF[j])
    (hP : ∀ w nb e (R' : Ending → World → Prop), Sat σ w (p.at b :: M ++ (l.at b1 :: (nb, cel newsC e) :: L)) →
      (∀ w L2, Sat σ w (l.at b1 :: L2) → (∀ w, Sat σ w L2 → R (.returned (.tuple #[])) w) → R' (.returned (.tuple #[Ln.zero.val, .bool true])) w) → callE P newsF[i] #[.pointer (some ⟨b, 0, none⟩), l.val] R' w) :
    g_parseState_addLine.bl102 R Xb (some ⟨b, 0, none⟩) b1 w := by
  have hi8 : i < 8 := hi
  refine news_ok h fun w nb e h => ⟨_, _, _, rfl, ?_⟩
  intro Y hY
  have h : Sat σ w (p.at b :: M ++ (l.at b1 :: (nb, cel newsC e) :: L)) := h.re (by intro _; simp only [List.append_eq, cnt_append, cnt_cons, cnt_nil] <;> omega)
  refine news_rounds hY i 0 w (by omega) (by omega) (fun j hj _ h2 => hd j hj h2) h fun w h => ?_
  refine hY _ _ _ _ _ _ _ _ (br_true (by simp; omega) ⟨by omega, by omega, ?_⟩)
  have hf := List.getElem?_eq_getElem hi
  refine nilP_some ?_
  simp only [Addr.add_lit, Nat.zero_add, Int.toNat_natCast, Nat.mul_one]
  have h : Sat σ w (l.at b1 :: (nb, cel newsC e) :: (p.at b :: (M ++ L))) := h.re (by intro _; simp only [List.append_eq, cnt_append, cnt_cons, cnt_nil] <;> omega)
  refine ⟨_, Sat.ld h (.tail _ (.head _)) (newsC_get hf), ?_⟩
  refine ⟨_, Sat.ld h (.head _) rfl, _, Sat.ld h (.head _) rfl, _, Sat.ld h (.head _) rfl, _, Sat.ld h (.head _) rfl, _, Sat.ld h (.head _) rfl, ?_⟩
  have h : Sat σ w (p.at b :: M ++ (l.at b1 :: (nb, cel newsC e) :: L)) := h.re (by intro _; simp only [List.append_eq, cnt_append, cnt_cons, cnt_nil] <;> omega)
  refine enter_fn ?_
  refine hP w nb e _ h fun w L2 h hR => ⟨_, _, _, _, _, _, rfl, ?_⟩
  refine Sat.bx h fun b85 w h => ?_
  refine Sat.st h (k := 0) rfl (Nat.le_of_ble_eq_true rfl) trivial (by first | (dsimp only [List.set]; exact rfl) | exact rfl) fun w h => ?_
  refine Sat.st h (k := 0) rfl (Nat.le_of_ble_eq_true rfl) trivial (by first | (dsimp only [List.set]; exact rfl) | exact rfl) fun w h => ?_
  refine Sat.st h (k := 0) rfl (Nat.le_of_ble_eq_true rfl) trivial (by first | (dsimp only [List.set]; exact rfl) | exact rfl) fun w h => ?_
  refine Sat.st h (k := 0) rfl (Nat.le_of_ble_eq_true rfl) trivial (by first | (dsimp only [List.set]; exact rfl) | exact rfl) fun w h => ?_
  refine Sat.st h (k := 0) rfl (Nat.le_of_ble_eq_true rfl) trivial (by first | (dsimp only [List.set]; exact rfl) | exact rfl) fun w h => ?_
  have h : Sat σ w (Ln.zero.at b85 :: l.at b1 :: L2) := h
  refine br_true rfl ?_
  refine ⟨_, Sat.ld h (by first | assumption | (repeat (first | exact .head _ | apply List.Mem.tail))) (by exact rfl), ?_⟩
  refine ⟨_, Sat.ld h (by first | assumption | (repeat (first | exact .head _ | apply List.Mem.tail))) (by exact rfl), ?_⟩
  refine ⟨_, Sat.ld h (by first | assumption | (repeat (first | exact .head _ | apply List.Mem.tail))) (by exact rfl), ?_⟩
  refine ⟨_, Sat.ld h (by first | assumption | (repeat (first | exact .head _ | apply List.Mem.tail))) (by exact rfl), ?_⟩
  refine ⟨_, Sat.ld h (by first | assumption | (repeat (first | exact .head _ | apply List.Mem.tail))) (by exact rfl), ?_⟩
  refine Sat.st h (k := 1) rfl (Nat.le_of_ble_eq_true rfl) trivial (by first | (dsimp only [List.set]; exact rfl) | exact rfl) fun w h => ?_
  refine Sat.st h (k := 1) rfl (Nat.le_of_ble_eq_true rfl) trivial (by first | (dsimp only [List.set]; exact rfl) | exact rfl) fun w h => ?_
  refine Sat.st h (k := 1) rfl (Nat.le_of_ble_eq_true rfl) trivial (by first | (dsimp only [List.set]; exact rfl) | exact rfl) fun w h => ?_
  refine Sat.st h (k := 1) rfl (Nat.le_of_ble_eq_true rfl) trivial (by first | (dsimp only [List.set]; exact rfl) | exact rfl) fun w h => ?_
  refine Sat.st h (k := 1) rfl (Nat.le_of_ble_eq_true rfl) trivial (by first | (dsimp only [List.set]; exact rfl) | exact rfl) fun w h => ?_
  have h : Sat σ w (Ln.zero.at b85 :: Ln.zero.at b1 :: L2) := h
  refine isBlank_ok (l := Ln.zero) h (.tail _ (.head _)) ⟨by decide, by decide, by decide, by decide⟩ fun w h => ⟨_, rfl, ?_⟩
  exact br_true rfl (hR _ h.tail.tail)
def Ln.rest (l : Ln) : List UInt8 := (l.text.drop l.i).dropWhile isST
structure Ln.cont (l : Ln) : Prop where
  plain : l.plain
  lt : (l.lead 3 false).peek ≠ 60
  dash : (l.lead 3 false).peek ≠ 45
  eq : (l.lead 3 false).peek ≠ 61
end Go.Proofs.YtihmcipajjakgaaGreatDoor


set_option linter.unusedVariables false
namespace Go.Proofs.YtihmcipajjakgaaGreatDoor
open Go.Proofs Go.IntWalk Go.RowKit
variable {σ : Out} {w : World} {L L' : List Chunk} {R : Ending → World → Prop}
theorem eqFields_any {xs ys : Array Value} : ∀ {fs : List Field} {gs : List (TypeId × Nat)}, fs.map (fun f => (f.name == "_", f.type, f.offset)) = gs.map (fun g => (false, g.1, g.2)) →
    (∀ g ∈ gs, ∃ u v r, (part g.1 xs g.2).run P w = .ok u w ∧ (part g.1 ys g.2).run P w = .ok v w ∧ (Op.equalIn 9999 g.1 u v).run P w = .ok r w) → ∃ r, (Op.eqFields 9999 xs ys fs).run P w = .ok r w
  | [], [], _, _ => ⟨_, rfl⟩
  | [], g :: gs, h, _ => by simp at h
  | f :: fs, [], h, _ => by simp at h
  | f :: fs, g :: gs, h, hg => by
    simp only [List.map_cons, List.cons.injEq, Prod.mk.injEq] at h
    obtain ⟨⟨h1, h2, h3⟩, h4⟩ := h
    obtain ⟨u, v, r, e1, e2, e3⟩ := hg g (List.mem_cons_self ..)
    obtain ⟨r2, ih⟩ := eqFields_any h4 (fun g' hg' => hg g' (List.mem_cons_of_mem _ hg'))
    have hn : f.name ≠ "_" := by simpa using h1
    rw [← h2, ← h3] at e1 e2
    rw [← h2] at e3
    simp only [Op.eqFields, ne_eq, hn, not_false_eq_true, if_true, Sem.run_bind, e1, e2, e3, Result.andThen_ok]
    cases r with
    | true => simp only [Bool.not_true, Bool.false_eq_true, if_false]; exact ⟨_, ih⟩
    | false => simp
theorem any_int {t : TypeId} {k : IntKind} (hu : P.underlying t = some (.int k)) {cs ds : Array Value} {i : Nat} {a b : Int} (hv : cs[i]? = some (.int k a)) (hw : ds[i]? = some (.int k b)) : ∃ u v r, (part t cs i).run P w = .ok u w ∧ (part t ds i).run P w = .ok v w ∧ (Op.equalIn 9999 t u v).run P w = .ok r w :=
  ⟨_, _, _, part_line hu (fun _ h => by cases h) (fun _ _ h => by cases h) hv w, part_line hu (fun _ h => by cases h) (fun _ _ h => by cases h) hw w, run_equalIn_int w 9998 t k k a b hu⟩
theorem any_str {cs ds : Array Value} {i : Nat} {a b : ByteArray} (hv : cs[i]? = some (.string a)) (hw : ds[i]? = some (.string b)) : ∃ u v r, (part ty_string cs i).run P w = .ok u w ∧ (part ty_string ds i).run P w = .ok v w ∧ (Op.equalIn 9999 ty_string u v).run P w = .ok r w :=
  ⟨_, _, _, part_line und_str (fun _ h => by cases h) (fun _ _ h => by cases h) hv w, part_line und_str (fun _ h => by cases h) (fun _ _ h => by cases h) hw w, run_equalIn_string w 9998 ty_string a b und_str⟩
theorem neq_lines (l m : Ln) (x y : Operand) (w : World) : ∃ r, (do eqGuard .neq ty_line x y l.val m.val; binOp .neq ty_line l.val m.val).run P w = .ok (.bool r) w := by
  have hg : (eqGuard .neq ty_line x y l.val m.val).run P w = .ok () w := run_eqGuard_agg w .neq ty_line x y _ _ (by kernel_rfl)
  have hb := run_neq_struct (P := P) w ty_line #[.int .i64 l.sp, .int .i64 l.i, .int .i64 l.tab, .string (bs l.text), .int .u8 l.nl.toNat] #[.int .i64 m.sp, .int .i64 m.i, .int .i64 m.tab, .string (bs m.text), .int .u8 m.nl.toNat]
  have he : ∃ r, (Op.equalIn 10000 ty_line (.agg #[.int .i64 l.sp, .int .i64 l.i, .int .i64 l.tab, .string (bs l.text), .int .u8 l.nl.toNat]) (.agg #[.int .i64 m.sp, .int .i64 m.i, .int .i64 m.tab, .string (bs m.text), .int .u8 m.nl.toNat])).run P w = .ok r w := by
    rw [run_equalIn_struct w 9999 ty_line _ _ (by kernel_rfl) (by kernel_rfl)]
    refine eqFields_any (gs := [(ty_int, 0), (ty_int, 1), (ty_int, 2), (ty_string, 3), (ty_uint8, 4)]) lineFields ?_
    intro g hg
    simp only [List.mem_cons, List.mem_nil_iff, or_false] at hg
    rcases hg with rfl | rfl | rfl | rfl | rfl
    · exact any_int und_int rfl rfl
    · exact any_int und_int rfl rfl
    · exact any_int und_int rfl rfl
    · exact any_str rfl rfl
    · exact any_int und_u8 rfl rfl
  obtain ⟨r, he⟩ := he
  rw [Sem.run_bind, hg, Result.andThen_ok]
  refine ⟨!r, hb.trans ?_⟩
  rw [he]; rfl
end Go.Proofs.YtihmcipajjakgaaGreatDoor


set_option linter.unusedVariables false
namespace Go.Proofs.YtihmcipajjakgaaGreatDoor
open Go.Proofs Go.IntWalk Go.RowKit
variable {σ : Out} {w : World} {L L' : List Chunk} {R : Ending → World → Prop}
structure TF where
  q : Option Addr
  n : Nat
  c : Nat
  vs : List Value
  RM : List Chunk
  KM : List Chunk
  KM' : List Chunk
  f : List UInt8 → List UInt8
def TF.ok (t : TF) : Prop := Sl 1 ty_Inline t.q t.n t.c t.vs t.RM ∧ t.n < 1073741824 ∧ PrintsL "PrintHTML" t.vs t.KM t.KM' t.f
def fill (x : TX) (t : TF) : List Chunk := textC x.t x.s x.e t.q t.n t.c x.raw :: (t.RM ++ t.KM)
def fill' (x : TX) (t : TF) : List Chunk := textC x.t x.s x.e t.q t.n t.c x.raw :: (t.RM ++ t.KM')
def fills : List TX → List TF → List Chunk
  | x :: xs, t :: ts => fill x t ++ fills xs ts
  | _, _ => []
def fills' : List TX → List TF → List Chunk
  | x :: xs, t :: ts => fill' x t ++ fills' xs ts
  | _, _ => []
inductive Filled (F : List UInt8 → List UInt8 → List UInt8) : List TX → List TF → Prop where
  | nil : Filled F [] []
  | cons {x : TX} {t : TF} {xs : List TX} {ts : List TF} : t.ok → t.f = F x.raw → Filled F xs ts → Filled F (x :: xs) (t :: ts)
theorem Filled.split {F : List UInt8 → List UInt8 → List UInt8} : ∀ {xs ys : List TX} {ts : List TF}, Filled F (xs ++ ys) ts → ∃ ts1 ts2, ts = ts1 ++ ts2 ∧ Filled F xs ts1 ∧ Filled F ys ts2
  | [], ys, ts, h => ⟨[], ts, rfl, .nil, h⟩
  | x :: xs, ys, ts, h => by
    cases h with
    | cons h1 h2 h3 =>
      obtain ⟨ts1, ts2, rfl, h4, h5⟩ := h3.split
      exact ⟨_ :: ts1, ts2, rfl, .cons h1 h2 h4, h5⟩
theorem Filled.append {F : List UInt8 → List UInt8 → List UInt8} {xs ys : List TX} {ts us : List TF} (h1 : Filled F xs ts) (h2 : Filled F ys us) : Filled F (xs ++ ys) (ts ++ us) := by
  induction h1 with
  | nil => exact h2
  | cons a b _ ih => exact .cons a b ih
theorem fills_append {F : List UInt8 → List UInt8 → List UInt8} : ∀ {xs ys : List TX} {ts us : List TF}, Filled F xs ts → fills (xs ++ ys) (ts ++ us) = fills xs ts ++ fills ys us
  | _, _, _, _, .nil => rfl
  | _, _, _, _, .cons h1 h2 h3 => by simp only [List.cons_append, fills, List.append_assoc]; rw [fills_append h3]
def DB.shows (F : List UInt8 → List UInt8 → List UInt8) (d : DB) (g : List UInt8 → List UInt8) : Prop :=
  ∀ ts, Filled F d.txs ts → Prints "PrintHTML" d.v (d.own ++ fills d.txs ts) (d.own ++ fills' d.txs ts) g
inductive Show (F : List UInt8 → List UInt8 → List UInt8) : List DB → List (List UInt8 → List UInt8) → Prop where
  | nil : Show F [] []
  | cons {d : DB} {g : List UInt8 → List UInt8} {D : List DB} {gs : List (List UInt8 → List UInt8)} : d.shows F g → Show F D gs → Show F (d :: D) (g :: gs)
theorem Show.append {F : List UInt8 → List UInt8 → List UInt8} {D E : List DB} {gs hs : List (List UInt8 → List UInt8)} (h1 : Show F D gs) (h2 : Show F E hs) : Show F (D ++ E) (gs ++ hs) := by
  induction h1 with
  | nil => exact h2
  | cons h _ ih => exact .cons h ih
def compL : List (List UInt8 → List UInt8) → List UInt8 → List UInt8
  | [], l => l
  | g :: gs, l => compL gs (g l)
theorem docs_print {F : List UInt8 → List UInt8 → List UInt8} {D : List DB} {gs : List (List UInt8 → List UInt8)} (h : Show F D gs) : ∀ ts, Filled F (txsC D) ts →
    ∃ KM KM', PrintsL "PrintHTML" (D.map DB.v) KM KM' (compL gs) ∧ (∀ a, cnt a (ownC D ++ fills (txsC D) ts) = cnt a KM) := by
  induction h with
  | nil => intro ts ht; cases ht; exact ⟨[], [], .nil, fun a => rfl⟩
  | @cons d g D gs h1 h2 ih =>
    intro ts ht
    have e : txsC (d :: D) = d.txs ++ txsC D := by simp [txsC]
    rw [e] at ht ⊢
    obtain ⟨ts1, ts2, rfl, h3, h4⟩ := ht.split
    obtain ⟨KM, KM', h5, h6⟩ := ih ts2 h4
    refine ⟨_, _, .cons (h1 ts1 h3) h5, fun a => ?_⟩
    have := h6 a
    rw [fills_append h3, show ownC (d :: D) = d.own ++ ownC D by simp [ownC]]
    simp only [cnt_append] at this ⊢
    omega
theorem texts_ok {b pb : Nat} {op : Opt} {F : List UInt8 → List UInt8 → List UInt8} {p : PS} {xs : List TX} {TM L0 : List Chunk} {lk : Option Nat} (h : Sat σ w (p.at b :: (TM ++ (xs.map TX.chunk ++ L)))) (ht : Txts p (xs.map TX.t) TM) (hpz : p.pz = some ⟨pb, 0, none⟩) (ho : op.at pb ∈ L) (hlk : p.links = lk) (hL0 : ∀ c ∈ L0, c ∈ L)
    (hLL : p.Lq = none ∧ p.Ln = 0 ∧ p.Lc = 0) (hI : ∀ x ∈ xs, InlineOKG lk L0 op x.raw (F x.raw))
    (hR : ∀ w (p' : PS) ts, p'.coreS = p.coreS → Filled F xs ts → Sat σ w (p'.at b :: (TM ++ (fills xs ts ++ L))) → g_Parser_parse.k4 R b w) :
    g_Parser_parse.l2 R (some ⟨pb, 0, none⟩) b p.tq p.tn p.tc (p.tn : Nat) 0 w := by
  have hn : p.tn = xs.length := by rw [ht.2.1, List.length_map]
  have hx : xs.length < 1048576 := by have := ht.2.2; rwa [List.length_map] at this
  intro Y hY
  have h00 := h
  clear h
  have key : ∀ (xs2 xs1 : List TX) ts1 w (p1 : PS), xs1 ++ xs2 = xs → p1.coreS = p.coreS → Filled F xs1 ts1 → Sat σ w (p1.at b :: (TM ++ (fills xs1 ts1 ++ (xs2.map TX.chunk ++ L)))) → Y (some ⟨pb, 0, none⟩) b p.tq p.tn p.tc (p.tn : Nat) (xs1.length : Nat) w := by
    intro xs2
    induction xs2 with
    | nil =>
      intro xs1 ts1 w p1 hxs hp1 hf h
      rw [List.append_nil] at hxs
      subst hxs
      have e1 : p1.Lq = none := by have := congrArg PS.Lq hp1; rw [show p1.Lq = p.Lq from this]; exact hLL.1
      have e2 : p1.Ln = 0 := by have := congrArg PS.Ln hp1; rw [show p1.Ln = p.Ln from this]; exact hLL.2.1
      have e3 : p1.Lc = 0 := by have := congrArg PS.Lc hp1; rw [show p1.Lc = p.Lc from this]; exact hLL.2.2
      have h : Sat σ w (p1.at b :: (TM ++ (fills xs1 ts1 ++ L))) := h
      have hm : op.at pb ∈ p1.at b :: (TM ++ (fills xs1 ts1 ++ L)) := by simp [ho]
      have fin : g_Parser_parse.k4 R b w := hR w p1 ts1 hp1 hf h
      refine hY _ _ _ _ _ _ _ _ (br_false (by simp; omega) (nilP_some ?_))
      simp only [Addr.add_lit, Nat.zero_add]
      refine ⟨op.task, Sat.ld h hm rfl, br_split (fun _ => ?_) (fun _ => fin)⟩
      refine ⟨_, _, _, Sat.ld h (.head _) (i := 10) rfl, ?_⟩
      rw [e1, e2, e3]
      intro Z hZ
      exact hZ _ _ _ _ _ _ _ (br_false rfl fin)
    | cons x xs2 ih =>
      intro xs1 ts1 w p1 hxs hp1 hf h
      have hlt : xs1.length < xs.length := by rw [← hxs]; simp
      obtain ⟨rb, sp, htq, rfl⟩ := ht.1.rowAt (by omega)
      refine hY _ _ _ _ _ _ _ _ (br_true (by simp; omega) ⟨by omega, by omega, ?_⟩)
      rw [htq]
      refine nilP_some ?_
      simp only [Addr.add_lit, Nat.zero_add, Int.toNat_natCast, Nat.mul_one]
      have hget : ((xs.map TX.t).map (fun t => Value.pointer (some ⟨t, 0, none⟩)) ++ sp)[xs1.length]? = some (.pointer (some ⟨x.t, 0, none⟩)) := by
        rw [List.getElem?_append_left (by simp; omega), ← hxs]; simp
      refine ⟨_, Sat.ld h (.tail _ (.head _)) hget, nilP_some ?_⟩
      simp only [Addr.add_lit, Nat.zero_add]
      have h : Sat σ w (p1.at b :: (x.chunk :: ([(rb, cel ((xs.map TX.t).map (fun t => Value.pointer (some ⟨t, 0, none⟩)) ++ sp) ty_P_Text)] ++ (fills xs1 ts1 ++ (xs2.map TX.chunk ++ L))))) := by
        rw [List.map_cons] at h
        exact h.re (by intro _; simp only [List.append_eq, cnt_append, cnt_cons, cnt_nil] <;> omega)
      refine ⟨_, Sat.ld h (.tail _ (.head _)) (i := 3) rfl, ?_⟩
      have hc : p1.pz = some ⟨pb, 0, none⟩ := by have := congrArg PS.pz hp1; rw [show p1.pz = p.pz from this]; exact hpz
      have hk : p1.links = lk := by have := congrArg PS.links hp1; rw [show p1.links = p.links from this]; exact hlk
      refine hI x (by rw [← hxs]; simp) σ _ b pb p1 _ w (fun c hc => by simp [hL0 c hc]) h hc (by simp [ho]) hk fun w p2 q n c vs RM KM KM' hp2 hS hn2 hP h => ⟨_, _, _, rfl, nilP_some ?_⟩
      have h : Sat σ w (textC x.t x.s x.e none 0 0 x.raw :: (p2.at b :: (RM ++ (KM ++ ([(rb, cel ((xs.map TX.t).map (fun t => Value.pointer (some ⟨t, 0, none⟩)) ++ sp) ty_P_Text)] ++ (fills xs1 ts1 ++ (xs2.map TX.chunk ++ L))))))) := by
        have h : Sat σ w (p2.at b :: (RM ++ (KM ++ (textC x.t x.s x.e none 0 0 x.raw :: ([(rb, cel ((xs.map TX.t).map (fun t => Value.pointer (some ⟨t, 0, none⟩)) ++ sp) ty_P_Text)] ++ (fills xs1 ts1 ++ (xs2.map TX.chunk ++ L))))))) := h
        exact h.re (by intro _; simp only [List.append_eq, cnt_append, cnt_cons, cnt_nil] <;> omega)
      refine Sat.st h (k := 0) rfl (Nat.le_of_ble_eq_true rfl) trivial (by first | (dsimp only [List.set]; exact rfl) | exact rfl) fun w h => ?_
      have h : Sat σ w (textC x.t x.s x.e q n c x.raw :: (p2.at b :: (RM ++ (KM ++ ([(rb, cel ((xs.map TX.t).map (fun t => Value.pointer (some ⟨t, 0, none⟩)) ++ sp) ty_P_Text)] ++ (fills xs1 ts1 ++ (xs2.map TX.chunk ++ L))))))) := h
      rw [i64_inc (by omega)]
      have hf2 : Filled F (xs1 ++ [x]) (ts1 ++ [⟨q, n, c, vs, RM, KM, KM', F x.raw⟩]) := hf.append (.cons ⟨hS, hn2, hP⟩ rfl .nil)
      have := ih (xs1 ++ [x]) _ w p2 (by rw [← hxs]; simp) (hp2.trans hp1) hf2 ?_
      · rw [List.length_append, List.length_singleton, htq] at this; exact this
      · rw [fills_append hf]
        show Sat σ w (p2.at b :: ([(rb, cel ((xs.map TX.t).map (fun t => Value.pointer (some ⟨t, 0, none⟩)) ++ sp) ty_P_Text)] ++ ((fills xs1 ts1 ++ ((textC x.t x.s x.e q n c x.raw :: (RM ++ KM)) ++ [])) ++ (xs2.map TX.chunk ++ L))))
        exact h.re (by intro _; simp only [List.append_eq, cnt_append, cnt_cons, cnt_nil] <;> omega)
  exact key xs [] [] w p rfl rfl .nil h00
theorem finishDoc_ok {b rb : Nat} {p : PS} {D : List DB} {lf : Leaf} (h : DocS σ b rb L D lf p w) (hf : lf.fin) (hD : D.length < 100000) (hX : (txsC D).length < 100000)
    (hR : ∀ w (p' : PS) D' db IM TM q n c s e, p'.base = { p.base with root := some ⟨db, 0, none⟩ } → LeafClosed lf D D' → Txts p' ((txsC D').map TX.t) TM → Sl 1 ty_Block q n c (D'.map DB.v) IM → n < 1000000 →
      Sat σ w (p'.at b :: (TM ++ ((txsC D').map TX.chunk ++ (docC db s e q n c p.links :: (IM ++ (ownC D' ++ L)))))) → R (.returned (.tuple #[])) w) :
    callE P i_parseState_trimStack #[.pointer (some ⟨b, 0, none⟩), .int .i64 0] R w := by
  refine g_parseState_trimStack.sound ?_
  have root : ∀ {X : OA → Int → WP} {w} {p1 : PS} {D'}, (∀ x0 x1 w, g_parseState_trimStack.bl1 R X x0 x1 w → X x0 x1 w) → p1.base = p.base → LeafClosed lf D D' → DocS σ b rb L D' .none p1 w → X (some ⟨b, 0, none⟩) 0 w := by
    intro X w p1 D' hX' hb hcl h
    obtain ⟨r, obs, M, TM, IM, LM, hr, hs, ht, hI, ⟨rfl, rfl⟩, h⟩ := h
    have hn : p1.stn = 1 := hs.2.1
    have hlk : p1.links = p.links := by have := congrArg PS.links hb; exact this
    refine hX' _ _ _ (nilP_some ?_)
    refine ⟨_, _, _, Sat.ld h (by first | assumption | (repeat (first | exact .head _ | apply List.Mem.tail))) (by exact rfl), ?_⟩
    rw [hn]
    refine br_true rfl ?_
    refine closeRoot_ok h hs hr fun w db h => ⟨_, rfl, hX' _ _ _ (nilP_some ?_)⟩
    refine ⟨_, _, _, Sat.ld h (by first | assumption | (repeat (first | exact .head _ | apply List.Mem.tail))) (by exact rfl), ?_⟩
    refine br_false rfl ?_
    have hIl := hI.1
    simp only [List.length_map, Nat.mul_one] at hIl
    have hDl : D'.length < 1000000 := by
      cases lf with
      | other A => exact hf.elim
      | none => rw [show D' = D from hcl]; omega
      | para ls => obtain ⟨nb, t, s, e, rfl⟩ := hcl; simp; omega
    refine hR w { p1 with stn := 0, root := some ⟨db, 0, none⟩ } D' db IM TM r.q r.n r.c r.s r.e ?_ hcl (ht.of rfl rfl rfl) hI (by omega) ?_
    · have e : ({ p1 with stn := 0, root := some ⟨db, 0, none⟩ } : PS).base = { p1.base with root := some ⟨db, 0, none⟩ } := rfl
      rw [e, hb]
    · rw [← hlk]
      have h : Sat σ w (({ p1 with stn := 0, root := some ⟨db, 0, none⟩ } : PS).at b :: M ++ (docC db r.s r.e r.q r.n r.c p1.links :: (IM ++ (TM ++ ([] ++ (ownC D' ++ ((txsC D').map TX.chunk ++ L))))))) := h
      exact h.less M (by intro _; simp only [List.append_eq, cnt_append, cnt_cons, cnt_nil] <;> omega)
  have h0 := h
  obtain ⟨r, obs, M, TM, IM, LM, hr, hs, ht, hI, hL, h⟩ := h
  refine nilP_some ?_
  refine ⟨_, _, _, Sat.ld h (by first | assumption | (repeat (first | exact .head _ | apply List.Mem.tail))) (by exact rfl), ?_⟩
  refine br_false (by simp) ?_
  intro X hX'
  cases lf with
  | other A => exact hf.elim
  | none => exact root hX' rfl rfl h0
  | para ls =>
    obtain ⟨qb, s, e, rfl, hp, hs1, hne, hln⟩ := hL
    have hn : p.stn = 2 := hs.2.1
    refine hX' _ _ _ (nilP_some ?_)
    refine ⟨_, _, _, Sat.ld h (by first | assumption | (repeat (first | exact .head _ | apply List.Mem.tail))) (by exact rfl), ?_⟩
    rw [hn]
    refine br_true rfl ?_
    exact closeLeaf_ok h0 hf.toN hD hX fun w p' D' x h1 h2 h3 h4 h5 h => ⟨_, rfl, root hX' h1 h5 h⟩
end Go.Proofs.YtihmcipajjakgaaGreatDoor


set_option linter.unusedVariables false
namespace Go.Proofs.YtihmcipajjakgaaGreatDoor
open Go.Proofs Go.IntWalk Go.RowKit
variable {σ : Out} {w : World} {L L' : List Chunk} {R : Ending → World → Prop}
def htmlDB (nb s e : Nat) (q : Option Addr) (n c : Nat) (SM : List Chunk) : DB := ⟨.iface ty_P_HTMLBlock (.pointer (some ⟨nb, 0, none⟩)), hblC nb s e q n c :: SM, []⟩
def HtmDone (ls : List (List UInt8)) (d : DB) : Prop := ∃ nb s e q c SM, Sl 1 ty_string q ls.length c (sv ls) SM ∧ d = htmlDB nb s e q ls.length c SM
theorem HtmDone.txs {ls : List (List UInt8)} {d : DB} (h : HtmDone ls d) : d.txs = [] := by
  obtain ⟨nb, s, e, q, c, SM, _, rfl⟩ := h; rfl
theorem HtmDone.shows {F : List UInt8 → List UInt8 → List UInt8} {ls : List (List UInt8)} {d : DB} (h : HtmDone ls d) (hn : ls.length < 1048576) (hl : ∀ l ∈ ls, l.length < 4294967296) : d.shows F (ab (rawOut ls)) := by
  obtain ⟨nb, s, e, q, c, SM, hS, rfl⟩ := h
  intro ts ht
  cases ht
  have := html_prints (nb := nb) (s := s) (e := e) hS hn hl
  simpa [htmlDB, fills, fills'] using this
end Go.Proofs.YtihmcipajjakgaaGreatDoor


set_option linter.unusedVariables false
namespace Go.Proofs.YtihmcipajjakgaaGreatDoor
open Go.Proofs Go.IntWalk Go.RowKit
variable {σ : Out} {w : World} {L L' : List Chunk} {R : Ending → World → Prop}
def fenOB (fb s e : Nat) : OB := ⟨.iface ty_P_fenceBuilder (.pointer (some ⟨fb, 0, none⟩)), none, 0, 0, s, e⟩
theorem closeFen_ok {b fb s e : Nat} {p : PS} {ob : List OB} {par : OB} {M FM IM : List Chunk} {inner : List Value} {F info : List UInt8} {ls : List (List UInt8)} (h : Sat σ w (p.at b :: M ++ (IM ++ (FM ++ L)))) (hs : Stk p (ob ++ [par] ++ [fenOB fb s e]) M)
    (hI : Sl 1 ty_Block par.q par.n par.c inner IM) (hin : par.n < 1000000) (hH : FenAt fb F info ls FM)
    (hR : ∀ w p' M' IM' nb q c SM q' c' x, p' = { p with stn := ob.length + 1 } → Stk p' (ob ++ [{ par with q := q', n := par.n + 1, c := c' }]) M' → Sl 1 ty_string q ls.length c (sv ls) SM →
      Sl 1 ty_Block q' (par.n + 1) c' (inner ++ [.iface ty_P_CodeBlock (.pointer (some ⟨nb, 0, none⟩))]) IM' → Sat σ w (p'.at b :: M' ++ (IM' ++ (codC nb s e F info q ls.length c :: (SM ++ L)))) → R (.returned x) w) :
    callE P i_parseState_closeBlock #[.pointer (some ⟨b, 0, none⟩)] R w := by
  refine closeBlock_ok (ob := ob) (par := par) (o := fenOB fb s e) (IM := IM) (inner := inner) (fun p1 L1 tb q => ∃ nb q1 c SM, p1 = p ∧ Sl 1 ty_string q1 ls.length c (sv ls) SM ∧ L1 = codC nb s e F info q1 ls.length c :: (SM ++ L) ∧ tb = ty_P_CodeBlock ∧ q = some ⟨nb, 0, none⟩) h hs rfl hI hin ?_ ?_
  · intro R' w h hk
    have h : Sat σ w (p.at b :: M ++ (FM ++ (IM ++ L))) := h.re (by intro _; simp only [List.append_eq, cnt_append, cnt_cons, cnt_nil] <;> omega)
    refine enter_meth meth_fenBuild ?_
    refine fenBuild_ok h hs hH fun w nb q c SM hS h => ?_
    have h : Sat σ w (p.at b :: M ++ (codC nb s e F info q ls.length c :: (SM ++ (IM ++ L)))) := h
    exact hk w p _ ty_P_CodeBlock _ rfl rfl rfl (by decide) ⟨nb, q, c, SM, rfl, hS, rfl, rfl, rfl⟩ (h.re (by intro _; simp only [List.append_eq, cnt_append, cnt_cons, cnt_nil] <;> omega))
  · intro w p2 M2 IM2 p1 L1 tb q q' c' hpost hp2 hs2 hI2 h
    obtain ⟨nb, q1, c, SM, rfl, hS, rfl, rfl, rfl⟩ := hpost
    exact hR w p2 M2 IM2 nb q1 c SM q' c' _ hp2 hs2 hS hI2 h
theorem addLine_fen {b fb s e : Nat} {p : PS} {r : OB} {M FM : List Chunk} {F info : List UInt8} {ls : List (List UInt8)} {l : Ln} {ec : Chunk} (h : Sat σ w (p.at b :: M ++ (FM ++ L))) (hs : Stk p [r, fenOB fb s e] M) (hH : FenAt fb F info ls FM) (hl : l.ok)
    (hls : ls.length < 1048576) (hlt : l.text.length < 100000) (hE : EntA ec) (hec : ec ∈ L) (hdec : FenGo F l ∨ FenEnd F l)
    (hno : FenGo F l → ∀ w (p' : PS) M' FM' e', p' = { p with depth := 1, corner := p'.corner } → Stk p' [r, fenOB fb s e'] M' → FenAt fb F info (ls ++ [l.str]) FM' → Sat σ w (p'.at b :: M' ++ (FM' ++ L)) → R (.returned (.tuple #[])) w)
    (hyes : ¬ FenGo F l → ∀ w p' M' e' b1 b2, p' = { p with depth := 0 } → Stk p' [r, fenOB fb s e'] M' → Sat σ w (p'.at b :: M' ++ (FM ++ (l.at b2 :: Ln.zero.at b1 :: L))) →
      callE P i_parseState_trimStack #[.pointer (some ⟨b, 0, none⟩), .int .i64 1] (fun e w => e = .returned (.tuple #[]) ∧ R (.returned (.tuple #[])) w) w) :
    callE P i_parseState_addLine #[.pointer (some ⟨b, 0, none⟩), l.val] R w := by
  have hn : p.stn = 2 := hs.2.1
  have hz : Ln.zero.ok := ⟨by decide, by decide, by decide, by decide⟩
  have hzb : Ln.zero.blank = true := rfl
  refine g_parseState_addLine.sound ?_
  refine Sat.bx h fun b1 w h => ?_
  repeat (first | refine nilP_some ?_ | refine Sat.tk h fun w h => ?_ | refine ⟨_, Sat.ld h (by first | assumption | (repeat (first | exact .head _ | apply List.Mem.tail))) (by exact rfl), ?_⟩ | refine ⟨_, _, _, Sat.ld h (by first | assumption | (repeat (first | exact .head _ | apply List.Mem.tail))) (by exact rfl), ?_⟩ | refine Sat.st h (k := 0) rfl (Nat.le_of_ble_eq_true rfl) trivial (by first | (dsimp only [List.set]; exact rfl) | exact rfl) fun w h => ?_ | refine Sat.st h (k := 1) rfl (Nat.le_of_ble_eq_true rfl) trivial (by first | (dsimp only [List.set]; exact rfl) | exact rfl) fun w h => ?_ | refine Sat.st h (k := 2) rfl (Nat.le_of_ble_eq_true rfl) trivial (by first | (dsimp only [List.set]; exact rfl) | exact rfl) fun w h => ?_ | refine Sat.st h (k := 3) rfl (Nat.le_of_ble_eq_true rfl) trivial (by first | (dsimp only [List.set]; exact rfl) | exact rfl) fun w h => ?_ | refine Sat.st h (k := 4) rfl (Nat.le_of_ble_eq_true rfl) trivial (by first | (dsimp only [List.set]; exact rfl) | exact rfl) fun w h => ?_ | refine Sat.st h (k := 5) rfl (Nat.le_of_ble_eq_true rfl) trivial (by first | (dsimp only [List.set]; exact rfl) | exact rfl) fun w h => ?_ | refine Sat.st h (k := 6) rfl (Nat.le_of_ble_eq_true rfl) trivial (by first | (dsimp only [List.set]; exact rfl) | exact rfl) fun w h => ?_ | refine Sat.bx h fun b0 w h => ?_)
  let p1 : PS := { p with depth := 0 }
  have h : Sat σ _ (l.at b1 :: p1.at b :: (M ++ (FM ++ L))) := h
  intro X hX
  refine hX _ _ _ ?_
  repeat (first | refine nilP_some ?_ | refine Sat.tk h fun w h => ?_ | refine ⟨_, Sat.ld h (by first | assumption | (repeat (first | exact .head _ | apply List.Mem.tail))) (by exact rfl), ?_⟩ | refine ⟨_, _, _, Sat.ld h (by first | assumption | (repeat (first | exact .head _ | apply List.Mem.tail))) (by exact rfl), ?_⟩)
  rw [show p1.stn = 2 from hn]
  refine br_true rfl ?_
  repeat (first | refine nilP_some ?_ | refine Sat.tk h fun w h => ?_ | refine ⟨_, Sat.ld h (by first | assumption | (repeat (first | exact .head _ | apply List.Mem.tail))) (by exact rfl), ?_⟩ | refine ⟨_, _, _, Sat.ld h (by first | assumption | (repeat (first | exact .head _ | apply List.Mem.tail))) (by exact rfl), ?_⟩ | refine Sat.st h (k := 0) rfl (Nat.le_of_ble_eq_true rfl) trivial (by first | (dsimp only [List.set]; exact rfl) | exact rfl) fun w h => ?_ | refine Sat.st h (k := 1) rfl (Nat.le_of_ble_eq_true rfl) trivial (by first | (dsimp only [List.set]; exact rfl) | exact rfl) fun w h => ?_ | refine Sat.st h (k := 2) rfl (Nat.le_of_ble_eq_true rfl) trivial (by first | (dsimp only [List.set]; exact rfl) | exact rfl) fun w h => ?_ | refine Sat.st h (k := 3) rfl (Nat.le_of_ble_eq_true rfl) trivial (by first | (dsimp only [List.set]; exact rfl) | exact rfl) fun w h => ?_ | refine Sat.st h (k := 4) rfl (Nat.le_of_ble_eq_true rfl) trivial (by first | (dsimp only [List.set]; exact rfl) | exact rfl) fun w h => ?_ | refine Sat.st h (k := 5) rfl (Nat.le_of_ble_eq_true rfl) trivial (by first | (dsimp only [List.set]; exact rfl) | exact rfl) fun w h => ?_ | refine Sat.st h (k := 6) rfl (Nat.le_of_ble_eq_true rfl) trivial (by first | (dsimp only [List.set]; exact rfl) | exact rfl) fun w h => ?_ | refine Sat.bx h fun b0 w h => ?_)
  have h : Sat σ _ (l.at b0 :: l.at b1 :: p1.at b :: (M ++ (FM ++ L))) := h
  obtain ⟨sb, sp, hq, hM, hsp⟩ := hs.split (by simp)
  rw [show p1.stn = 2 from hn, show p1.stq = some ⟨sb, 0, none⟩ from hq]
  rw [show IntKind.i64.wrap (p1.depth + 1) = 1 from rfl]
  refine ⟨by decide, by decide, nilP_some ?_⟩
  simp only [Addr.add_lit, Nat.zero_add]
  have hmem : (sb, cel (obCells [r, fenOB fb s e] ++ sp) ty_openBlock) ∈ (l.at b0 :: l.at b1 :: p1.at b :: (M ++ (FM ++ L))) := by rw [hM]; simp
  refine ⟨_, Sat.ld h hmem (stk_get (j := 1) (f := 0) (by decide) rfl), ?_⟩
  refine ⟨_, Sat.ld h (by first | assumption | (repeat (first | exact .head _ | apply List.Mem.tail))) (by exact rfl), ?_⟩
  refine ⟨_, Sat.ld h (by first | assumption | (repeat (first | exact .head _ | apply List.Mem.tail))) (by exact rfl), ?_⟩
  refine ⟨_, Sat.ld h (by first | assumption | (repeat (first | exact .head _ | apply List.Mem.tail))) (by exact rfl), ?_⟩
  refine ⟨_, Sat.ld h (by first | assumption | (repeat (first | exact .head _ | apply List.Mem.tail))) (by exact rfl), ?_⟩
  refine ⟨_, Sat.ld h (by first | assumption | (repeat (first | exact .head _ | apply List.Mem.tail))) (by exact rfl), ?_⟩
  refine enter_meth meth_fenExtend ?_
  have h : Sat σ _ (p1.at b :: (FM ++ (l.at b0 :: l.at b1 :: (M ++ L)))) := h.re (by intro _; simp only [List.append_eq, cnt_append, cnt_cons, cnt_nil] <;> omega)
  refine fenExtend_ok h hH hl hls hlt hE (by simp [hec]) ?_ ?_ hdec
  · intro hg w p2 FM' hp2 hH' h
    refine ⟨_, _, _, _, _, _, rfl, ?_⟩
    have hn2 : p2.stn = 2 := by rw [hp2]; exact hn
    have hq2 : p2.stq = some ⟨sb, 0, none⟩ := by rw [hp2]; exact hq
    have hd2 : p2.depth = 0 := by rw [hp2]
    have hl2 : p2.lineno = p.lineno := by rw [hp2]
    have h : Sat σ w (l.at b0 :: l.at b1 :: p2.at b :: (M ++ (FM' ++ L))) := h.re (by intro _; simp only [List.append_eq, cnt_append, cnt_cons, cnt_nil] <;> omega)
    refine Sat.st h (k := 1) rfl (Nat.le_of_ble_eq_true rfl) trivial (by first | (dsimp only [List.set]; exact rfl) | exact rfl) fun w h => ?_
    refine Sat.st h (k := 1) rfl (Nat.le_of_ble_eq_true rfl) trivial (by first | (dsimp only [List.set]; exact rfl) | exact rfl) fun w h => ?_
    refine Sat.st h (k := 1) rfl (Nat.le_of_ble_eq_true rfl) trivial (by first | (dsimp only [List.set]; exact rfl) | exact rfl) fun w h => ?_
    refine Sat.st h (k := 1) rfl (Nat.le_of_ble_eq_true rfl) trivial (by first | (dsimp only [List.set]; exact rfl) | exact rfl) fun w h => ?_
    refine Sat.st h (k := 1) rfl (Nat.le_of_ble_eq_true rfl) trivial (by first | (dsimp only [List.set]; exact rfl) | exact rfl) fun w h => ?_
    have h : Sat σ w (l.at b0 :: Ln.zero.at b1 :: p2.at b :: (M ++ (FM' ++ L))) := h
    refine isBlank_ok h (.head _) hl fun w h => ⟨_, rfl, ?_⟩
    have hs1 : Stk p2 [r, fenOB fb s e] M := hs.of (by rw [hp2]) (by rw [hp2]) (by rw [hp2])
    have kE : ∀ x5 x59 w, Sat σ w (l.at b0 :: Ln.zero.at b1 :: p2.at b :: (M ++ (FM' ++ L))) → (∀ w M' e', Stk p2 [r, fenOB fb s e'] M' → Sat σ w (l.at b0 :: Ln.zero.at b1 :: p2.at b :: (M' ++ (FM' ++ L))) →
        br (!x5) (g_parseState_addLine.k2 R (some ⟨b, 0, none⟩) b1 w) (g_parseState_addLine.k3 R X (some ⟨b, 0, none⟩) b1 w)) → g_parseState_addLine.k1 R X (some ⟨b, 0, none⟩) b1 x5 x59 w := by
      intro x5 x59 w h hk
      cases x59 with
      | false => exact br_false rfl (hk w M e hs1 h)
      | true =>
        refine br_true rfl ?_
        repeat (first | refine nilP_some ?_ | refine Sat.tk h fun w h => ?_ | refine ⟨_, Sat.ld h (by first | assumption | (repeat (first | exact .head _ | apply List.Mem.tail))) (by exact rfl), ?_⟩ | refine ⟨_, _, _, Sat.ld h (by first | assumption | (repeat (first | exact .head _ | apply List.Mem.tail))) (by exact rfl), ?_⟩)
        rw [hn2, hq2, hd2, hl2]
        rw [show IntKind.i64.wrap ((0 : Int) + 1) = 1 from rfl]
        refine ⟨by decide, by decide, nilP_some ?_⟩
        simp only [Addr.add_lit, Nat.zero_add]
        rw [hM] at h
        have h : Sat σ _ (l.at b0 :: Ln.zero.at b1 :: p2.at b :: (sb, cel (obCells ([r] ++ [fenOB fb s e]) ++ sp) ty_openBlock) :: (FM' ++ L)) := h
        refine Sat.st h (k := 3) rfl (by rw [List.length_append, obCells_length]; simp; omega) trivial rfl fun w h => ?_
        have h : Sat σ w (l.at b0 :: Ln.zero.at b1 :: p2.at b :: (sb, cel (obCells ([r] ++ [fenOB fb s p.lineno]) ++ sp) ty_openBlock) :: (FM' ++ L)) := by
          have e0 := stk_set (l := [r]) (sp := sp) (o := fenOB fb s e) (o' := fenOB fb s p.lineno) (f := 3) (v := .int .i64 p.lineno) (by decide) rfl
          have h := h
          rw [← e0]
          exact h
        refine hk w [(sb, cel (obCells [r, fenOB fb s p.lineno] ++ sp) ty_openBlock)] p.lineno ?_ h
        refine Stk.mk' hq2 ?_ hn2 (by simp)
        rw [show p2.stc = p.stc by rw [hp2], ← hsp, List.length_append, List.length_append, obCells_length, obCells_length]
        rfl
    have fin : ∀ x59 w, Sat σ w (l.at b0 :: Ln.zero.at b1 :: p2.at b :: (M ++ (FM' ++ L))) → g_parseState_addLine.k1 R X (some ⟨b, 0, none⟩) b1 true x59 w := by
      intro x59 w h
      refine kE true x59 w h fun w M' e' hs' h => br_false rfl ?_
      unfold g_parseState_addLine.k3
      refine nilP_some ?_
      refine ⟨_, Sat.ld h (by first | assumption | (repeat (first | exact .head _ | apply List.Mem.tail))) (by exact rfl), ?_⟩
      refine nilP_some ?_
      rw [hd2, show IntKind.i64.wrap ((0 : Int) + 1) = 1 from rfl]
      refine Sat.st h (k := 2) rfl (by simp [PS.cells]) trivial rfl fun w h => ?_
      let p3 : PS := { p2 with depth := 1 }
      have h : Sat σ w (l.at b0 :: Ln.zero.at b1 :: p3.at b :: (M' ++ (FM' ++ L))) := h
      refine hX _ _ _ ?_
      repeat (first | refine nilP_some ?_ | refine Sat.tk h fun w h => ?_ | refine ⟨_, Sat.ld h (by first | assumption | (repeat (first | exact .head _ | apply List.Mem.tail))) (by exact rfl), ?_⟩ | refine ⟨_, _, _, Sat.ld h (by first | assumption | (repeat (first | exact .head _ | apply List.Mem.tail))) (by exact rfl), ?_⟩)
      rw [show p3.stn = 2 from hn2]
      refine br_false rfl ?_
      unfold g_parseState_addLine.k2
      refine isBlank_ok (l := Ln.zero) h (.tail _ (.head _)) hz fun w h => ⟨_, rfl, ?_⟩
      refine br_true hzb (nilP_some ?_)
      refine ⟨_, Sat.ld h (by first | assumption | (repeat (first | exact .head _ | apply List.Mem.tail))) (by exact rfl), ?_⟩
      have h : Sat σ w (p3.at b :: (l.at b0 :: Ln.zero.at b1 :: (M' ++ (FM' ++ L)))) := h.re (by intro _; simp only [List.append_eq, cnt_append, cnt_cons, cnt_nil] <;> omega)
      refine trimStack_noop h (by rw [show p3.stn = 2 from hn2]; rfl) fun w h => ⟨rfl, ?_⟩
      refine hno hg w p3 M' FM' e' (by show ({ p2 with depth := 1 } : PS) = _; rw [hp2]) (hs'.of rfl rfl rfl) hH' ?_
      exact h.less [l.at b0, Ln.zero.at b1] (by intro _; simp only [List.append_eq, cnt_append, cnt_cons, cnt_nil] <;> omega)
    exact br_split (fun _ => br_true rfl (fin _ _ h)) (fun _ => fin _ _ h)
  · intro hg w h
    refine ⟨_, _, _, _, _, _, rfl, ?_⟩
    have h : Sat σ w (l.at b0 :: l.at b1 :: p1.at b :: (M ++ (FM ++ L))) := h.re (by intro _; simp only [List.append_eq, cnt_append, cnt_cons, cnt_nil] <;> omega)
    refine Sat.st h (k := 1) rfl (Nat.le_of_ble_eq_true rfl) trivial (by first | (dsimp only [List.set]; exact rfl) | exact rfl) fun w h => ?_
    refine Sat.st h (k := 1) rfl (Nat.le_of_ble_eq_true rfl) trivial (by first | (dsimp only [List.set]; exact rfl) | exact rfl) fun w h => ?_
    refine Sat.st h (k := 1) rfl (Nat.le_of_ble_eq_true rfl) trivial (by first | (dsimp only [List.set]; exact rfl) | exact rfl) fun w h => ?_
    refine Sat.st h (k := 1) rfl (Nat.le_of_ble_eq_true rfl) trivial (by first | (dsimp only [List.set]; exact rfl) | exact rfl) fun w h => ?_
    refine Sat.st h (k := 1) rfl (Nat.le_of_ble_eq_true rfl) trivial (by first | (dsimp only [List.set]; exact rfl) | exact rfl) fun w h => ?_
    have h : Sat σ w (l.at b0 :: Ln.zero.at b1 :: p1.at b :: (M ++ (FM ++ L))) := h
    refine isBlank_ok h (.head _) hl fun w h => ⟨_, rfl, ?_⟩
    have hs1 : Stk p1 [r, fenOB fb s e] M := hs.of rfl rfl rfl
    have kE : ∀ x59 w, Sat σ w (l.at b0 :: Ln.zero.at b1 :: p1.at b :: (M ++ (FM ++ L))) → (∀ w M' e', Stk p1 [r, fenOB fb s e'] M' → Sat σ w (l.at b0 :: Ln.zero.at b1 :: p1.at b :: (M' ++ (FM ++ L))) →
        g_parseState_addLine.k2 R (some ⟨b, 0, none⟩) b1 w) → g_parseState_addLine.k1 R X (some ⟨b, 0, none⟩) b1 false x59 w := by
      intro x59 w h hk
      cases x59 with
      | false => exact br_false rfl (br_true rfl (hk w M e hs1 h))
      | true =>
        refine br_true rfl ?_
        repeat (first | refine nilP_some ?_ | refine Sat.tk h fun w h => ?_ | refine ⟨_, Sat.ld h (by first | assumption | (repeat (first | exact .head _ | apply List.Mem.tail))) (by exact rfl), ?_⟩ | refine ⟨_, _, _, Sat.ld h (by first | assumption | (repeat (first | exact .head _ | apply List.Mem.tail))) (by exact rfl), ?_⟩)
        rw [show p1.stn = 2 from hn, show p1.stq = some ⟨sb, 0, none⟩ from hq]
        rw [show IntKind.i64.wrap (p1.depth + 1) = 1 from rfl]
        refine ⟨by decide, by decide, nilP_some ?_⟩
        simp only [Addr.add_lit, Nat.zero_add]
        rw [hM] at h
        have h : Sat σ _ (l.at b0 :: Ln.zero.at b1 :: p1.at b :: (sb, cel (obCells ([r] ++ [fenOB fb s e]) ++ sp) ty_openBlock) :: (FM ++ L)) := h
        refine Sat.st h (k := 3) rfl (by rw [List.length_append, obCells_length]; simp; omega) trivial rfl fun w h => ?_
        have h : Sat σ w (l.at b0 :: Ln.zero.at b1 :: p1.at b :: (sb, cel (obCells ([r] ++ [fenOB fb s p.lineno]) ++ sp) ty_openBlock) :: (FM ++ L)) := by
          have e0 := stk_set (l := [r]) (sp := sp) (o := fenOB fb s e) (o' := fenOB fb s p.lineno) (f := 3) (v := .int .i64 p.lineno) (by decide) rfl
          have h := h
          rw [← e0]
          exact h
        refine br_true rfl (hk w [(sb, cel (obCells [r, fenOB fb s p.lineno] ++ sp) ty_openBlock)] p.lineno ?_ h)
        refine Stk.mk' hq ?_ hn (by simp)
        rw [← hsp, List.length_append, List.length_append, obCells_length, obCells_length]
        rfl
    have fin : ∀ x59 w, Sat σ w (l.at b0 :: Ln.zero.at b1 :: p1.at b :: (M ++ (FM ++ L))) → g_parseState_addLine.k1 R X (some ⟨b, 0, none⟩) b1 false x59 w := by
      intro x59 w h
      refine kE x59 w h fun w M' e' hs' h => ?_
      unfold g_parseState_addLine.k2
      refine isBlank_ok (l := Ln.zero) h (.tail _ (.head _)) hz fun w h => ⟨_, rfl, ?_⟩
      refine br_true hzb (nilP_some ?_)
      refine ⟨_, Sat.ld h (by first | assumption | (repeat (first | exact .head _ | apply List.Mem.tail))) (by exact rfl), ?_⟩
      rw [show IntKind.i64.wrap (p1.depth + 1) = 1 from rfl]
      exact hyes hg w p1 M' e' b1 b0 rfl hs' (h.re (by intro _; simp only [List.append_eq, cnt_append, cnt_cons, cnt_nil] <;> omega))
    refine br_split (fun _ => br_false rfl ?_) (fun _ => fin _ _ h)
    refine ⟨_, Sat.ld h (by first | assumption | (repeat (first | exact .head _ | apply List.Mem.tail))) (by exact rfl), ?_⟩
    refine ⟨_, Sat.ld h (by first | assumption | (repeat (first | exact .head _ | apply List.Mem.tail))) (by exact rfl), ?_⟩
    refine ⟨_, Sat.ld h (by first | assumption | (repeat (first | exact .head _ | apply List.Mem.tail))) (by exact rfl), ?_⟩
    refine ⟨_, Sat.ld h (by first | assumption | (repeat (first | exact .head _ | apply List.Mem.tail))) (by exact rfl), ?_⟩
    refine ⟨_, Sat.ld h (by first | assumption | (repeat (first | exact .head _ | apply List.Mem.tail))) (by exact rfl), ?_⟩
    refine ⟨_, Sat.ld h (by first | assumption | (repeat (first | exact .head _ | apply List.Mem.tail))) (by exact rfl), ?_⟩
    refine ⟨_, Sat.ld h (by first | assumption | (repeat (first | exact .head _ | apply List.Mem.tail))) (by exact rfl), ?_⟩
    refine ⟨_, Sat.ld h (by first | assumption | (repeat (first | exact .head _ | apply List.Mem.tail))) (by exact rfl), ?_⟩
    refine ⟨_, Sat.ld h (by first | assumption | (repeat (first | exact .head _ | apply List.Mem.tail))) (by exact rfl), ?_⟩
    refine ⟨_, Sat.ld h (by first | assumption | (repeat (first | exact .head _ | apply List.Mem.tail))) (by exact rfl), ?_⟩
    obtain ⟨r0, hr0⟩ := neq_lines Ln.zero l (.tmp 55) (.tmp 56) w
    exact ⟨r0, w, hr0, fin _ _ h⟩
def fenLeaf (F info : List UInt8) (ls : List (List UInt8)) : Leaf := .other fun ob M => ∃ fb s e, ob = [fenOB fb s e] ∧ FenAt fb F info ls M
def codeDB (nb s e : Nat) (F info : List UInt8) (q : Option Addr) (n c : Nat) (SM : List Chunk) : DB := ⟨.iface ty_P_CodeBlock (.pointer (some ⟨nb, 0, none⟩)), codC nb s e F info q n c :: SM, []⟩
def FenDone (F info : List UInt8) (ls : List (List UInt8)) (d : DB) : Prop := ∃ nb s e q c SM, Sl 1 ty_string q ls.length c (sv ls) SM ∧ d = codeDB nb s e F info q ls.length c SM
theorem FenDone.txs {F info : List UInt8} {ls : List (List UInt8)} {d : DB} (h : FenDone F info ls d) : d.txs = [] := by
  obtain ⟨nb, s, e, q, c, SM, _, rfl⟩ := h; rfl
theorem FenDone.shows {G : List UInt8 → List UInt8 → List UInt8} {F info : List UInt8} {ls : List (List UInt8)} {d : DB} (h : FenDone F info ls d) (hn : ls.length < 1048576) (hl : ∀ l ∈ ls, l.length < 4294967296) (hF : F ≠ [])
    (hi : ∀ c ∈ info, c < 128 ∧ spB c = false) (hil : info.length < 100000) : d.shows G (codeF info ls) := by
  obtain ⟨nb, s, e, q, c, SM, hS, rfl⟩ := h
  intro ts ht
  cases ht
  have := code_prints (nb := nb) (s := s) (e := e) hS hn hl hF hi hil
  simpa [codeDB, fills, fills'] using this
theorem addLine_fen1 {b rb : Nat} {p : PS} {D : List DB} {F info : List UInt8} {ls : List (List UInt8)} {l : Ln} {ec : Chunk} (h : DocS σ b rb L D (fenLeaf F info ls) p w) (hl : l.ok) (hls : ls.length < 1048576) (ht : l.text.length < 100000) (hE : EntA ec) (hec : ec ∈ L) (hgo : FenGo F l)
    (hR : ∀ w p', p'.base = p.base → p'.lineno = p.lineno → DocS σ b rb L D (fenLeaf F info (ls ++ [l.str])) p' w → R (.returned (.tuple #[])) w) :
    callE P i_parseState_addLine #[.pointer (some ⟨b, 0, none⟩), l.val] R w := by
  obtain ⟨r, obs, M, TM, IM, LM, hr, hs, htx, hI, ⟨fb, s, e, rfl, hH⟩, h⟩ := h
  have h : Sat σ w (p.at b :: M ++ (LM ++ (IM ++ (TM ++ (ownC D ++ ((txsC D).map TX.chunk ++ L)))))) := h.re (by intro _; simp only [List.append_eq, cnt_append, cnt_cons, cnt_nil] <;> omega)
  refine addLine_fen h hs hH hl hls ht hE (by simp [hec]) (.inl hgo) (fun _ w p' M' FM' e' hp' hs' hH' h => ?_) (fun hx => absurd hgo hx)
  refine hR w p' (by rw [hp']; rfl) (by rw [hp']) ⟨r, _, M', TM, IM, FM', hr, hs', htx.of (by rw [hp']) (by rw [hp']) (by rw [hp']), hI, ⟨fb, s, e', rfl, hH'⟩, ?_⟩
  exact h.re (by intro _; simp only [List.append_eq, cnt_append, cnt_cons, cnt_nil] <;> omega)
theorem addLine_fen2 {b rb : Nat} {p : PS} {D : List DB} {F info : List UInt8} {ls : List (List UInt8)} {l : Ln} {ec : Chunk} (h : DocS σ b rb L D (fenLeaf F info ls) p w) (hl : l.ok) (hls : ls.length < 1048576) (ht : l.text.length < 100000) (hE : EntA ec) (hec : ec ∈ L) (hend : FenEnd F l) (hng : ¬ FenGo F l) (hD : D.length < 100000)
    (hR : ∀ w p' d, p'.base = p.base → p'.lineno = p.lineno → FenDone F info ls d → DocS σ b rb L (D ++ [d]) .none p' w → R (.returned (.tuple #[])) w) :
    callE P i_parseState_addLine #[.pointer (some ⟨b, 0, none⟩), l.val] R w := by
  obtain ⟨r, obs, M, TM, IM, LM, hr, hs, htx, hI, ⟨fb, s, e, rfl, hH⟩, h⟩ := h
  have h : Sat σ w (p.at b :: M ++ (LM ++ (IM ++ (TM ++ (ownC D ++ ((txsC D).map TX.chunk ++ L)))))) := h.re (by intro _; simp only [List.append_eq, cnt_append, cnt_cons, cnt_nil] <;> omega)
  refine addLine_fen h hs hH hl hls ht hE (by simp [hec]) (.inr hend) (fun hx => absurd hx hng) fun _ w p' M' e' b1 b2 hp' hs' h => ?_
  have hn : p'.stn = 2 := hs'.2.1
  have hIl := hI.1
  simp only [List.length_map, Nat.mul_one] at hIl
  refine g_parseState_trimStack.sound ?_
  refine nilP_some ?_
  refine ⟨_, _, _, Sat.ld h (by first | assumption | (repeat (first | exact .head _ | apply List.Mem.tail))) (by exact rfl), ?_⟩
  rw [hn]
  refine br_false rfl ?_
  intro X hX
  refine hX _ _ _ (nilP_some ?_)
  refine ⟨_, _, _, Sat.ld h (by first | assumption | (repeat (first | exact .head _ | apply List.Mem.tail))) (by exact rfl), ?_⟩
  rw [hn]
  refine br_true rfl ?_
  have h : Sat σ w (p'.at b :: M' ++ (IM ++ (LM ++ (l.at b2 :: Ln.zero.at b1 :: (TM ++ (ownC D ++ ((txsC D).map TX.chunk ++ L))))))) := h.re (by intro _; simp only [List.append_eq, cnt_append, cnt_cons, cnt_nil] <;> omega)
  refine closeFen_ok (ob := []) (par := r) h hs' hI (by omega) hH fun w p2 M2 IM2 nb q c SM q' c' x hp2 hs2 hS hI2 h => ⟨_, rfl, ?_⟩
  refine hX _ _ _ (nilP_some ?_)
  refine ⟨_, _, _, Sat.ld h (by first | assumption | (repeat (first | exact .head _ | apply List.Mem.tail))) (by exact rfl), ?_⟩
  rw [show p2.stn = 1 by rw [hp2]; rfl]
  refine br_false rfl ⟨rfl, ?_⟩
  refine hR w p2 (codeDB nb s e' F info q ls.length c SM) (by rw [hp2, hp']; rfl) (by rw [hp2, hp']) ⟨nb, s, e', q, c, SM, hS, rfl⟩ ?_
  refine ⟨{ r with q := q', n := r.n + 1, c := c' }, [], M2, TM, IM2, [], hr, hs2, ?_, ?_, ⟨rfl, rfl⟩, ?_⟩
  · rw [txsC_snoc, List.map_append]
    show Txts p2 ((txsC D).map TX.t ++ []) TM
    rw [List.append_nil]
    exact htx.of (by rw [hp2, hp']) (by rw [hp2, hp']) (by rw [hp2, hp'])
  · rw [List.map_append]; exact hI2
  · rw [ownC_snoc, txsC_snoc, List.map_append]
    show Sat σ w (p2.at b :: M2 ++ (IM2 ++ (TM ++ ([] ++ ((ownC D ++ (codC nb s e' F info q ls.length c :: SM)) ++ (((txsC D).map TX.chunk ++ []) ++ L))))))
    exact h.less [l.at b2, Ln.zero.at b1] (by intro _; simp only [List.append_eq, cnt_append, cnt_cons, cnt_nil] <;> omega)
end Go.Proofs.YtihmcipajjakgaaGreatDoor


set_option linter.unusedVariables false
namespace Go.Proofs.YtihmcipajjakgaaGreatDoor
open Go.Proofs Go.IntWalk Go.RowKit
variable {σ : Out} {w : World} {L L' : List Chunk} {R : Ending → World → Prop}
def noNL (l : List UInt8) : Prop := 10 ∉ l ∧ 13 ∉ l
inductive LinesOf : List UInt8 → List (List UInt8 × UInt8) → Prop where
  | nil : LinesOf [] []
  | last {l : List UInt8} : l ≠ [] → noNL l → LinesOf l [(l, 0)]
  | cons {l t : List UInt8} {ls : List (List UInt8 × UInt8)} : noNL l → LinesOf t ls → LinesOf (l ++ 10 :: t) ((l, 10) :: ls)
theorem LinesOf.no13 {t : List UInt8} {ls : List (List UInt8 × UInt8)} (h : LinesOf t ls) : 13 ∉ t := by
  induction h with
  | nil => simp
  | last h1 h2 => exact h2.2
  | cons h1 h2 ih =>
    simp only [List.mem_append, List.mem_cons, not_or]
    exact ⟨h1.2, by decide, ih⟩
theorem LinesOf.len {t : List UInt8} {ls : List (List UInt8 × UInt8)} (h : LinesOf t ls) : ls.length ≤ t.length := by
  induction h with
  | nil => simp
  | last h1 h2 => have := List.length_pos_iff.2 h1; simp; omega
  | cons h1 h2 ih => simp; omega
theorem findSub_first {A B : List UInt8} {c : UInt8} (hc : c ∉ A) : ∀ (k i : Nat), i + k = A.length → ∀ f, k < f → findSub [c] (A ++ c :: B) f i = some A.length
  | 0, i, hi, f + 1, _ => by
    obtain rfl : i = A.length := by omega
    simp only [findSub, List.length_singleton]
    rw [if_pos (by simp), List.drop_left, if_pos (by simp)]
  | k + 1, i, hi, f + 1, hf => by
    simp only [findSub, List.length_singleton]
    rw [if_pos (by simp; omega), if_neg]
    · exact findSub_first hc k (i + 1) (by omega) f (by omega)
    · intro he
      have hil : i < A.length := by omega
      rw [List.drop_append_of_le_length (by omega), List.drop_eq_getElem_cons hil, List.cons_append, List.take_succ_cons, List.take_zero] at he
      have he2 : A[i] = c := (List.cons.inj he).1
      exact hc (he2 ▸ List.getElem_mem hil)
theorem idx_first {A B : List UInt8} {c : UInt8} (hc : c ∉ A) : idx (A ++ c :: B) [c] = some A.length := by
  unfold idx
  exact findSub_first hc A.length 0 (by omega) _ (by simp; omega)
def StepOKL (L0 : List Chunk) (op : Opt) (l : List UInt8) (nl : UInt8) (D : List DB) (lf : Leaf) (J : List DB → Leaf → Prop) : Prop :=
  ∀ (σ : Out) (R : Ending → World → Prop) (L : List Chunk) (b rb pb : Nat) (p : PS) (w : World), (∀ c ∈ L0, c ∈ L) → op.at pb ∈ L → p.pz = some ⟨pb, 0, none⟩ → p.lineno < 1000000000 → DocS σ b rb L D lf p w →
    (∀ w (p' : PS) D' lf', p'.base = p.base → p'.lineno = p.lineno → J D' lf' → DocS σ b rb L D' lf' p' w → R (.returned (.tuple #[])) w) → callE P i_parseState_addLine #[.pointer (some ⟨b, 0, none⟩), (lnOf l nl).val] R w
theorem lines_okL {L0 : List Chunk} {op : Opt} {I : List (List UInt8 × UInt8) → List DB → Leaf → Prop} (step : ∀ l nl rem D lf, I ((l, nl) :: rem) D lf → StepOKL L0 op l nl D lf (I rem)) (hL0 : ∀ c ∈ L0, c ∈ L) {X : OA → BA → Nat → WP} {b rb pb : Nat} {p0 : PS}
    (hX : ∀ x0 x1 x6 w, g_Parser_parse.bl1 R X x0 x1 x6 w → X x0 x1 x6 w) (hop : op.at pb ∈ L) (hpz : p0.pz = some ⟨pb, 0, none⟩)
    (hE : ∀ w (p : PS) D lf, p.base = p0.base → I [] D lf → DocS σ b rb L D lf p w → g_Parser_parse.bl1 R X (some ⟨pb, 0, none⟩) (bs []) b w) {text : List UInt8} {ls : List (List UInt8 × UInt8)} (hL : LinesOf text ls) :
    ∀ w (p : PS) D lf, text.length < 1000000 → p.lineno + ls.length < 1000000000 → p.base = p0.base → I ls D lf → DocS σ b rb L D lf p w → X (some ⟨pb, 0, none⟩) (bs text) b w := by
  have k3 : ∀ (l : List UInt8) (nl : UInt8) (t : List UInt8) (rem : List (List UInt8 × UInt8)) w (p : PS) D lf, (∀ w (p : PS) D lf, p.lineno + rem.length < 1000000000 → p.base = p0.base → I rem D lf → DocS σ b rb L D lf p w → X (some ⟨pb, 0, none⟩) (bs t) b w) →
      p.lineno + rem.length + 1 < 1000000000 → p.base = p0.base → I ((l, nl) :: rem) D lf → DocS σ b rb L D lf p w → g_Parser_parse.k3 R X (some ⟨pb, 0, none⟩) (bs t) b (bs l) (nl.toNat : Int) w := by
    intro l nl t rem w p D lf next hno hb hI h
    obtain ⟨r, obs, M, TM, IM, LM, hr, hs, ht, hIs, hL, h⟩ := h
    unfold g_Parser_parse.k3
    refine ⟨_, Sat.ld h (.head _) (i := 3) rfl, ?_⟩
    rw [i64_inc (by omega)]
    refine Sat.st h (k := 0) rfl (Nat.le_of_ble_eq_true rfl) trivial (by first | (dsimp only [List.set]; exact rfl) | exact rfl) fun w h => ?_
    let p1 : PS := { p with lineno := p.lineno + 1 }
    have h : Sat σ w (p1.at b :: M ++ (IM ++ (TM ++ (LM ++ (ownC D ++ ((txsC D).map TX.chunk ++ L)))))) := h
    have hb1 : p1.base = p0.base := hb
    have hpz1 : p1.pz = some ⟨pb, 0, none⟩ := by
      have := congrArg PS.pz hb1
      rw [show p1.pz = p0.pz from this]; exact hpz
    refine step l nl rem D lf hI σ _ L b rb pb p1 w hL0 hop hpz1 (by show p.lineno + 1 < _; omega) ⟨r, obs, M, TM, IM, LM, hr, hs.of rfl rfl rfl, ht.of rfl rfl rfl, hIs, hL, h⟩ fun w p2 D' lf' h1 h2 h3 h4 => ⟨rfl, ?_⟩
    exact next w p2 D' lf' (by rw [h2]; show p.lineno + 1 + _ < _; omega) (h1.trans hb1) h3 h4
  induction hL with
  | nil =>
    intro w p D lf hlen hno hb hI h
    exact hX _ _ _ _ (hE w p D lf hb hI h)
  | @last l hne hnl =>
    intro w p D lf hlen hno hb hI h
    have e10 : idxInt l [10] = -1 := by unfold idxInt; rw [idx_none hnl.1]
    have e13 : idxInt l [13] = -1 := by unfold idxInt; rw [idx_none hnl.2]
    refine hX _ _ _ _ (br_true (by rw [bs_toList]; simpa using hne) ?_)
    refine zzIndex_ok (sub := [10]) (by omega) (by decide) ⟨_, rfl, ?_⟩
    refine zzIndex_ok (sub := [13]) (by omega) (by decide) ⟨_, rfl, ?_⟩
    rw [e10, e13]
    refine br_false rfl (br_false rfl ?_)
    refine k3 l 0 [] [] w p D lf ?_ (by simp at hno ⊢; omega) hb hI h
    intro w p D lf hno hb hI h
    exact hX _ _ _ _ (hE w p D lf hb hI h)
  | @cons l t ls hnl hLt ih =>
    intro w p D lf hlen hno hb hI h
    have hl13 : 13 ∉ l ++ 10 :: t := (LinesOf.cons hnl hLt).no13
    have e10 : idxInt (l ++ 10 :: t) [10] = (l.length : Nat) := by unfold idxInt; rw [idx_first hnl.1]
    have e13 : idxInt (l ++ 10 :: t) [13] = -1 := by unfold idxInt; rw [idx_none hl13]
    have hlen' : (l ++ 10 :: t).length = l.length + t.length + 1 := by simp; omega
    refine hX _ _ _ _ (br_true (by rw [bs_toList]; simp [mk_toList]) ?_)
    refine zzIndex_ok (sub := [10]) (by omega) (by decide) ⟨_, rfl, ?_⟩
    refine zzIndex_ok (sub := [13]) (by omega) (by decide) ⟨_, rfl, ?_⟩
    rw [e10, e13]
    refine br_false rfl ?_
    refine br_true (by simp) ?_
    obtain ⟨r, obs, M, TM, IM, LM, hr, hs, ht, hIs, hL, h⟩ := h
    refine Sat.tk h fun w h => ?_
    rw [i64_inc (by omega), bs_size, Int.toNat_natCast, Int.toNat_natCast, bs_ext, bs_extract, List.drop_zero, List.take_left]
    refine ⟨by omega, by rw [hlen']; omega, by omega, by rw [hlen']; omega, ?_⟩
    have ed : (l ++ 10 :: t).drop (l.length + 1) = t := by rw [List.drop_append]; simp
    rw [ed]
    refine k3 l 10 t ls w p D lf ?_ (by simp at hno ⊢; omega) hb hI ⟨r, obs, M, TM, IM, LM, hr, hs, ht, hIs, hL, h⟩
    intro w p D lf hno hb hI h
    exact ih w p D lf (by rw [hlen'] at hlen; omega) hno hb hI h
theorem parses_docL {L0 : List Chunk} {op : Opt} {text out : List UInt8} {ls : List (List UInt8 × UInt8)} {F : List UInt8 → List UInt8 → List UInt8} (hL : LinesOf text ls) (h0 : 0 ∉ text) (hlen : text.length < 1000000)
    (I : List (List UInt8 × UInt8) → List DB → Leaf → Prop) (hI0 : I ls [] .none) (step : ∀ l nl rem D lf, I ((l, nl) :: rem) D lf → StepOKL L0 op l nl D lf (I rem))
    (fin : ∀ D lf, I [] D lf → lf.fin ∧ D.length < 100000 ∧ (txsC D).length < 100000 ∧ ∀ D', LeafClosed lf D D' → ∃ gs, Show F D' gs ∧ compL gs [] = out ∧ ∀ x ∈ txsC D', InlineOK op x.raw (F x.raw)) : ParsesToL L0 op text out := by
  intro σ R L w pb hL0 h ho hR
  refine g_Parser_parse.sound ?_
  refine Sat.bx h fun b w h => ?_
  refine Sat.st h (k := 0) rfl (Nat.le_of_ble_eq_true rfl) trivial (by first | (dsimp only [List.set]; exact rfl) | exact rfl) fun w h => ?_
  have h : Sat σ w ((PS0 (some ⟨pb, 0, none⟩)).at b :: L) := h
  refine zzContains_ok (sub := [0]) (by omega) (by decide) ⟨_, rfl, ?_⟩
  rw [idx_none h0]
  refine br_false rfl ?_
  refine Sat.st h (k := 0) rfl (Nat.le_of_ble_eq_true rfl) trivial (by first | (dsimp only [List.set]; exact rfl) | exact rfl) fun w h => ?_
  refine Sat.bx h fun rb w h => ?_
  let p0 : PS := { PS0 (some ⟨pb, 0, none⟩) with depth := -1 }
  have h : Sat σ w (p0.at b :: [] ++ ((rb, cel [] ty_rootBuilder) :: L)) := h.up1
  have hstk : Stk p0 [] [] := ⟨Sl.nil 4 ty_openBlock, rfl, by simp⟩
  refine addBlock_ok h hstk rfl (by decide) fun w p1 M hp1 hs1 h => ⟨rfl, ?_⟩
  intro X hX
  have hll := hL.len
  have e1 : p1.base = p0.base := by rw [hp1]; rfl
  have e2 : p1.lineno = 0 := by rw [hp1]; rfl
  have htx : Txts p1 [] [] := by
    have : p1.tq = none ∧ p1.tn = 0 ∧ p1.tc = 0 := by rw [hp1]; exact ⟨rfl, rfl, rfl⟩
    obtain ⟨a, b, c⟩ := this
    unfold Txts
    rw [a, b, c]
    exact ⟨Sl.nil 1 ty_P_Text, rfl, by simp⟩
  have hd : DocS σ b rb ((rb, cel [] ty_rootBuilder) :: L) [] .none p1 w :=
    ⟨⟨rootV rb, none, 0, 0, 0, 0⟩, [], M, [], [], [], rfl, hs1, htx, Sl.nil 1 ty_Block, ⟨rfl, rfl⟩, h⟩
  refine lines_okL (p0 := p0) (op := op) step (fun c hc => .tail _ (hL0 c hc)) hX (.tail _ ho) rfl ?_ hL w p1 [] .none hlen (by rw [e2]; omega) e1 hI0 hd
  intro w p D lf hb hI hds
  obtain ⟨f1, f2, f3, f4⟩ := fin D lf hI
  refine br_false (by rw [bs_toList, mk_toList]; rfl) ?_
  refine finishDoc_ok hds f1 f2 f3 fun w p' D' db IM TM q n c s e hb' hcl ht hIM hn h => ⟨rfl, ?_⟩
  obtain ⟨gs, hS, hout, hIn⟩ := f4 D' hcl
  have hbb : p'.base = { p0.base with root := some ⟨db, 0, none⟩ } := by rw [hb', hb]
  have hpz : p'.pz = some ⟨pb, 0, none⟩ := by have := congrArg PS.pz hbb; exact this
  have hlk : p'.links = none := by have := congrArg PS.links hbb; exact this
  have hrt : p'.root = some ⟨db, 0, none⟩ := by have := congrArg PS.root hbb; exact this
  have hLL : p'.Lq = none ∧ p'.Ln = 0 ∧ p'.Lc = 0 := ⟨by have := congrArg PS.Lq hbb; exact this, by have := congrArg PS.Ln hbb; exact this, by have := congrArg PS.Lc hbb; exact this⟩
  refine ⟨_, _, _, Sat.ld h (.head _) (i := 11) rfl, ?_⟩
  refine texts_ok (op := op) (F := F) (L0 := []) h ht hpz (by simp [ho]) hlk (by simp) hLL (fun x hx => (hIn x hx).lift) fun w p2 ts hp2 hf h => ?_
  have hrt2 : p2.root = some ⟨db, 0, none⟩ := by have := congrArg PS.root hp2; rw [show p2.root = p'.root from this]; exact hrt
  unfold g_Parser_parse.k4
  refine Sat.tk h fun w h => ?_
  refine ⟨_, Sat.ld h (.head _) (i := 1) rfl, _, Sat.ld h (.head _) (i := 6) rfl, ?_⟩
  rw [hrt2]
  obtain ⟨KM, KM', hP, hcnt⟩ := docs_print hS ts hf
  refine hR w db p2.corner (docC db s e q n c p.links :: (IM ++ KM)) (docC db s e q n c p.links :: (IM ++ KM')) (compL gs) (doc_prints hIM (by omega) hP) hout ?_
  refine Sat.less (p2.at b :: TM ++ [(rb, cel [] ty_rootBuilder)]) h fun a => ?_
  have := hcnt a
  simp only [List.append_eq, cnt_append, cnt_cons, cnt_nil] at this ⊢
  omega
end Go.Proofs.YtihmcipajjakgaaGreatDoor


set_option linter.unusedVariables false
namespace Go.Proofs.YtihmcipajjakgaaGreatDoor
open Go.Proofs Go.IntWalk Go.RowKit
variable {σ : Out} {w : World} {L L' : List Chunk} {R : Ending → World → Prop}
def splitNL : List UInt8 → List (List UInt8)
  | [] => [[]]
  | c :: s => if c = 10 then [] :: splitNL s else match splitNL s with
    | [] => [[c]]
    | l :: ls => (c :: l) :: ls
theorem splitNL_ne (s : List UInt8) : splitNL s ≠ [] := by
  cases s with
  | nil => simp [splitNL]
  | cons c s =>
    simp only [splitNL]
    split
    · simp
    · split <;> simp
theorem splitNL_len (s : List UInt8) : (splitNL s).length ≤ s.length + 1 := by
  induction s with
  | nil => simp [splitNL]
  | cons c s ih =>
    simp only [splitNL]
    split
    · simp; omega
    · split
      · simp
      · rename_i l ls he
        rw [he] at ih
        simp at ih ⊢; omega
theorem splitNL_mem (s : List UInt8) : ∀ l ∈ splitNL s, l.length ≤ s.length ∧ ∀ c ∈ l, c ∈ s ∧ c ≠ 10 := by
  induction s with
  | nil => simp [splitNL]
  | cons c s ih =>
    simp only [splitNL]
    split
    · rename_i hc
      intro l hl
      rcases List.mem_cons.1 hl with rfl | hl
      · simp
      · obtain ⟨a, b⟩ := ih l hl
        exact ⟨by simp; omega, fun d hd => ⟨List.mem_cons_of_mem _ (b d hd).1, (b d hd).2⟩⟩
    · rename_i hc
      split
      · rename_i he; exact absurd he (splitNL_ne s)
      · rename_i l0 ls he
        rw [he] at ih
        intro l hl
        rcases List.mem_cons.1 hl with rfl | hl
        · obtain ⟨a, b⟩ := ih l0 (by simp)
          refine ⟨by simp; omega, fun d hd => ?_⟩
          rcases List.mem_cons.1 hd with rfl | hd
          · exact ⟨by simp, hc⟩
          · exact ⟨List.mem_cons_of_mem _ (b d hd).1, (b d hd).2⟩
        · obtain ⟨a, b⟩ := ih l (List.mem_cons_of_mem _ hl)
          exact ⟨by simp; omega, fun d hd => ⟨List.mem_cons_of_mem _ (b d hd).1, (b d hd).2⟩⟩
theorem rawOut_split (s : List UInt8) : rawOut (splitNL s) = s ++ [10] := by
  induction s with
  | nil => rfl
  | cons c s ih =>
    simp only [splitNL]
    split
    · rename_i hc
      subst hc
      show [] ++ [10] ++ rawOut (splitNL s) = _
      rw [ih]; simp
    · split
      · rename_i he; exact absurd he (splitNL_ne s)
      · rename_i l ls he
        rw [he] at ih
        have e1 : rawOut ((c :: l) :: ls) = c :: rawOut (l :: ls) := by simp [rawOut]
        rw [e1, ih]; rfl
theorem linesOf_raw {t : List UInt8} {rem : List (List UInt8 × UInt8)} (ht : LinesOf t rem) : ∀ ls : List (List UInt8), (∀ l ∈ ls, noNL l) → LinesOf (rawOut ls ++ t) (ls.map (fun l => (l, 10)) ++ rem)
  | [], _ => ht
  | l :: ls, h => by
    have e1 : rawOut (l :: ls) ++ t = l ++ 10 :: (rawOut ls ++ t) := by simp [rawOut]
    rw [e1]
    exact .cons (h l (by simp)) (linesOf_raw ht ls fun x hx => h x (List.mem_cons_of_mem _ hx))
theorem lnOf_str (l : List UInt8) (nl : UInt8) : (lnOf l nl).str = l := by simp [Ln.str, lnOf]
end Go.Proofs.YtihmcipajjakgaaGreatDoor


set_option linter.unusedVariables false
namespace Go.Proofs.YtihmcipajjakgaaGreatDoor
open Go.Proofs Go.IntWalk Go.RowKit
variable {σ : Out} {w : World} {L L' : List Chunk} {R : Ending → World → Prop}
def runsGo (x : UInt8) : List UInt8 → Nat → Nat → Nat
  | [], b, _ => b
  | d :: s, b, n => runsGo x s (max b (if d = x then n + 1 else 0)) (if d = x then n + 1 else 0)
theorem runsGo_ge (x : UInt8) : ∀ (s : List UInt8) (b n : Nat), b ≤ runsGo x s b n
  | [], b, n => Nat.le_refl _
  | d :: s, b, n => Nat.le_trans (Nat.le_max_left _ _) (runsGo_ge x s _ _)
theorem runsGo_all (x : UInt8) : ∀ (u v : List UInt8) (b n : Nat), (∀ d ∈ u, d = x) → n ≤ b → n + u.length ≤ runsGo x (u ++ v) b n
  | [], v, b, n, _, h => Nat.le_trans (by simpa using h) (runsGo_ge x v b n)
  | d :: u, v, b, n, hu, h => by
    have hd : d = x := hu d (by simp)
    simp only [List.cons_append, runsGo, hd, if_true, List.length_cons]
    have := runsGo_all x u v (max b (n + 1)) (n + 1) (fun e he => hu e (List.mem_cons_of_mem _ he)) (Nat.le_max_right _ _)
    omega
theorem runsGo_skip (x : UInt8) : ∀ (p t : List UInt8) (b n : Nat), n ≤ b → ∃ b' n', n' ≤ b' ∧ runsGo x (p ++ t) b n = runsGo x t b' n'
  | [], t, b, n, h => ⟨b, n, h, rfl⟩
  | d :: p, t, b, n, h => by
    obtain ⟨b', n', h1, h2⟩ := runsGo_skip x p t (max b (if d = x then n + 1 else 0)) (if d = x then n + 1 else 0) (Nat.le_max_right _ _)
    exact ⟨b', n', h1, h2⟩
theorem runs_infix {x : UInt8} {s u : List UInt8} (h : u <:+: s) (hu : ∀ d ∈ u, d = x) : u.length ≤ runsGo x s 0 0 := by
  obtain ⟨p, v, rfl⟩ := h
  obtain ⟨b', n', h1, h2⟩ := runsGo_skip x p (u ++ v) 0 0 (Nat.le_refl _)
  rw [List.append_assoc, h2]
  have := runsGo_all x u v b' n' hu h1
  omega
theorem splitNL_infix (s : List UInt8) : (∃ b, s = (splitNL s).headD [] ++ b) ∧ ∀ l ∈ splitNL s, l <:+: s := by
  induction s with
  | nil => exact ⟨⟨[], rfl⟩, by simp [splitNL]⟩
  | cons c s ih =>
    obtain ⟨⟨b, hb⟩, ih⟩ := ih
    simp only [splitNL]
    split
    · refine ⟨⟨_, rfl⟩, fun l hl => ?_⟩
      rcases List.mem_cons.1 hl with rfl | hl
      · exact ⟨[], c :: s, rfl⟩
      · obtain ⟨p, q, h⟩ := ih l hl
        exact ⟨c :: p, q, by rw [← h]; rfl⟩
    · split
      · rename_i he; exact absurd he (splitNL_ne s)
      · rename_i l0 ls he
        rw [he] at ih hb
        refine ⟨⟨b, by simpa using hb⟩, fun l hl => ?_⟩
        rcases List.mem_cons.1 hl with rfl | hl
        · exact ⟨[], b, by simpa using hb.symm⟩
        · obtain ⟨p, q, h⟩ := ih l (List.mem_cons_of_mem _ hl)
          exact ⟨c :: p, q, by rw [← h]; rfl⟩
end Go.Proofs.YtihmcipajjakgaaGreatDoor


set_option linter.unusedVariables false
set_option maxRecDepth 20000
namespace Go.Proofs.YtihmcipajjakgaaGreatDoor
open Go.Proofs
namespace g_laws_ascii
noncomputable def body : Code := bodyOf Tryz.f9
def bl1 (R : EP) (Xa : BA → Bool → Int → WP) (x0 : BA) (x1 : Bool) (x5 : Int) (w : World) : Prop :=
 br (decide (x5 < (x0.size : Int)))
 (0 ≤ x5 ∧ x5 < (x0.size : Int) ∧
 ((!(decide ((bt x0 x5) < 32))) = true → 0 ≤ x5 ∧ x5 < (x0.size : Int)) ∧
 ((((decide ((bt x0 x5) < 32)) || (decide ((bt x0 x5) > 126))) && x1) = true → 0 ≤ x5 ∧ x5 < (x0.size : Int)) ∧
 br (((decide ((bt x0 x5) < 32)) || (decide ((bt x0 x5) > 126))) && (!(x1 && ((bt x0 x5) == 10))))
 (R (.returned (.bool false)) w)
 (Xa x0 x1 (IntKind.i64.wrap (x5 + 1)) w))
 (R (.returned (.bool true)) w)
def l1 (R : EP) (x0 : BA) (x1 : Bool) (x5 : Int) (w : World) : Prop :=
  ∀ X : BA → Bool → Int → WP, (∀ x0 x1 x5 w, bl1 R X x0 x1 x5 w → X x0 x1 x5 w) → X x0 x1 x5 w

noncomputable def al1 (R : EP) (Xa : BA → Bool → Int → WP) : AC :=
  (.leaf (sel [1, 0, 1, 0, 0] body))
end g_laws_ascii
def g_laws_ascii (R : EP) (x0 : BA) (x1 : Bool) (w : World) : Prop :=
 g_laws_ascii.l1 R x0 x1 0 w

noncomputable def g_laws_ascii.ac (R : EP) : AC :=
  (.seq (.leaf (sel [0] g_laws_ascii.body)) (.seq (.seq (.leaf (sel [1, 0, 0] g_laws_ascii.body)) (.block 0 (.loop (leaf [(0, .s .str), (1, .s .bool), (5, .s (.int .i64))] (g_laws_ascii.l1 R)) (sel [1, 0, 1, 0, 0] g_laws_ascii.body)))) (.leaf (sel [1, 1] g_laws_ascii.body))))
theorem g_laws_ascii.good (R : EP) : Good P 32 (g_laws_ascii.ac R) (QF P [.tmp 4] R) :=
  ⟨trivial, ⟨⟨trivial, (loopG (g_laws_ascii.al1 R) (g_laws_ascii.bl1 R) (fun _ => by kernel_rfl) (fun Xa => trivial) (fun Xa => by intro x0 x1 x5 ρ w; kernel_rfl) (fun X h _ _ _ _ g => g X h))⟩, trivial⟩⟩
theorem g_laws_ascii.eq (R : EP) (x0 : BA) (x1 : Bool) (w : World) : g_laws_ascii R x0 x1 w = vcA P 32 (g_laws_ascii.ac R) (QF P [.tmp 4] R) (fr0 [.string x0, .bool x1]) w := by kernel_rfl
theorem g_laws_ascii.sound {R : EP} {x0 : ByteArray} {x1 : Bool} {w : World} (h : g_laws_ascii R x0 x1 w) : callE P i_laws_ascii #[.string x0, .bool x1] R w :=
  callE_fin (c := g_laws_ascii.body) Tryz.func9 Tryz.call9 (by kernel_rfl) (by kernel_rfl) (by kernel_rfl) (by kernel_rfl) (by kernel_rfl) (g_laws_ascii.good R) (g_laws_ascii.eq R x0 x1 w) h
namespace g_laws_plain
noncomputable def body : Code := bodyOf Tryz.f13
end g_laws_plain
def g_laws_plain (R : EP) (w : World) : Prop :=
 box w #[.bool false, .bool false, .bool false, .bool false, .bool false, .bool false, .bool false, .bool false, .bool false, .bool false] ty_impl_Options fun b1 w2 =>
 stV w2 ⟨b1, 0, none⟩ (.bool false) fun w3 =>
 stV w3 ⟨b1, 1, none⟩ (.bool false) fun w4 =>
 stV w4 ⟨b1, 2, none⟩ (.bool false) fun w5 =>
 stV w5 ⟨b1, 3, none⟩ (.bool false) fun w6 =>
 stV w6 ⟨b1, 4, none⟩ (.bool false) fun w7 =>
 stV w7 ⟨b1, 5, none⟩ (.bool false) fun w8 =>
 stV w8 ⟨b1, 6, none⟩ (.bool false) fun w9 =>
 stV w9 ⟨b1, 7, none⟩ (.bool false) fun w10 =>
 stV w10 ⟨b1, 8, none⟩ (.bool false) fun w11 =>
 stV w11 ⟨b1, 9, none⟩ (.bool false) fun w12 =>
 ∃ (v13 : Bool), w12.cell? ⟨b1, 0, none⟩ = some (.bool v13) ∧
 ∃ (v14 : Bool), w12.cell? ⟨b1, 1, none⟩ = some (.bool v14) ∧
 ∃ (v15 : Bool), w12.cell? ⟨b1, 2, none⟩ = some (.bool v15) ∧
 ∃ (v16 : Bool), w12.cell? ⟨b1, 3, none⟩ = some (.bool v16) ∧
 ∃ (v17 : Bool), w12.cell? ⟨b1, 4, none⟩ = some (.bool v17) ∧
 ∃ (v18 : Bool), w12.cell? ⟨b1, 5, none⟩ = some (.bool v18) ∧
 ∃ (v19 : Bool), w12.cell? ⟨b1, 6, none⟩ = some (.bool v19) ∧
 ∃ (v20 : Bool), w12.cell? ⟨b1, 7, none⟩ = some (.bool v20) ∧
 ∃ (v21 : Bool), w12.cell? ⟨b1, 8, none⟩ = some (.bool v21) ∧
 ∃ (v22 : Bool), w12.cell? ⟨b1, 9, none⟩ = some (.bool v22) ∧
 R (.returned (.agg #[.bool v13, .bool v14, .bool v15, .bool v16, .bool v17, .bool v18, .bool v19, .bool v20, .bool v21, .bool v22])) w12

noncomputable def g_laws_plain.ac (R : EP) : AC :=
  (.leaf (sel [] g_laws_plain.body))
theorem g_laws_plain.good (R : EP) : Good P 2 (g_laws_plain.ac R) (QF P [.cell 0 26] R) :=
  trivial
theorem g_laws_plain.eq (R : EP) (w : World) : g_laws_plain R w = vcA P 2 (g_laws_plain.ac R) (QF P [.cell 0 26] R) (fr0 []) w := by kernel_rfl
theorem g_laws_plain.sound {R : EP} {w : World} (h : g_laws_plain R w) : callE P i_laws_plain #[] R w :=
  callE_fin (c := g_laws_plain.body) Tryz.func13 Tryz.call13 (by kernel_rfl) (by kernel_rfl) (by kernel_rfl) (by kernel_rfl) (by kernel_rfl) (g_laws_plain.good R) (g_laws_plain.eq R w) h
namespace g_laws_times
noncomputable def body : Code := bodyOf Tryz.f11
def bl1 (R : EP) (Xa : BA → BA → Int → Int → WP) (x0 : BA) (x5 : BA) (x6 : Int) (x7 : Int) (w : World) : Prop :=
 br (decide (x7 < x6))
 (((x5.size + x0.size : Nat) : Int) ≤ IntKind.i64.max ∧
 Xa x0 (x5 ++ x0) x6 (IntKind.i64.wrap (x7 + 1)) w)
 (R (.returned (.string x5)) w)
def l1 (R : EP) (x0 : BA) (x5 : BA) (x6 : Int) (x7 : Int) (w : World) : Prop :=
  ∀ X : BA → BA → Int → Int → WP, (∀ x0 x5 x6 x7 w, bl1 R X x0 x5 x6 x7 w → X x0 x5 x6 x7 w) → X x0 x5 x6 x7 w

noncomputable def al1 (R : EP) (Xa : BA → BA → Int → Int → WP) : AC :=
  (.leaf (sel [1, 1, 0, 1, 0, 0] body))
end g_laws_times
def g_laws_times (R : EP) (x0 : BA) (x1 : Int) (w : World) : Prop :=
 g_laws_times.l1 R x0 (ByteArray.mk #[]) x1 0 w

noncomputable def g_laws_times.ac (R : EP) : AC :=
  (.seq (.leaf (sel [0] g_laws_times.body)) (.seq (.leaf (sel [1, 0] g_laws_times.body)) (.seq (.seq (.leaf (sel [1, 1, 0, 0] g_laws_times.body)) (.block 0 (.loop (leaf [(0, .s .str), (5, .s .str), (6, .s (.int .i64)), (7, .s (.int .i64))] (g_laws_times.l1 R)) (sel [1, 1, 0, 1, 0, 0] g_laws_times.body)))) (.leaf (sel [1, 1, 1] g_laws_times.body)))))
theorem g_laws_times.good (R : EP) : Good P 14 (g_laws_times.ac R) (QF P [.tmp 4] R) :=
  ⟨trivial, ⟨trivial, ⟨⟨trivial, (loopG (g_laws_times.al1 R) (g_laws_times.bl1 R) (fun _ => by kernel_rfl) (fun Xa => trivial) (fun Xa => by intro x0 x5 x6 x7 ρ w; kernel_rfl) (fun X h _ _ _ _ _ g => g X h))⟩, trivial⟩⟩⟩
theorem g_laws_times.eq (R : EP) (x0 : BA) (x1 : Int) (w : World) : g_laws_times R x0 x1 w = vcA P 14 (g_laws_times.ac R) (QF P [.tmp 4] R) (fr0 [.string x0, .int .i64 x1]) w := by kernel_rfl
theorem g_laws_times.sound {R : EP} {x0 : ByteArray} {x1 : Int} {w : World} (h : g_laws_times R x0 x1 w) : callE P i_laws_times #[.string x0, .int .i64 x1] R w :=
  callE_fin (c := g_laws_times.body) Tryz.func11 Tryz.call11 (by kernel_rfl) (by kernel_rfl) (by kernel_rfl) (by kernel_rfl) (by kernel_rfl) (g_laws_times.good R) (g_laws_times.eq R x0 x1 w) h
end Go.Proofs.YtihmcipajjakgaaGreatDoor

set_option linter.unusedVariables false
namespace Go.Proofs.YtihmcipajjakgaaGreatDoor
open Go.Proofs Go.IntWalk Go.RowKit
variable {σ : Out} {w : World} {L L' : List Chunk} {R : Ending → World → Prop}
theorem sub_self (s : List UInt8) (i : Nat) : sub s i i = [] := List.drop_eq_nil_of_le (by rw [List.length_take]; omega)
end Go.Proofs.YtihmcipajjakgaaGreatDoor


set_option linter.unusedVariables false
namespace Go.Proofs.YtihmcipajjakgaaGreatDoor
open Go.Proofs Go.IntWalk Go.RowKit
variable {σ : Out} {w : World} {L L' : List Chunk} {R : Ending → World → Prop}
def punB (c : UInt8) : Bool := (((decide (33 ≤ c.toNat) && decide (c.toNat ≤ 47)) || (decide (58 ≤ c.toNat) && decide (c.toNat ≤ 64))) || (decide (91 ≤ c.toNat) && decide (c.toNat ≤ 96))) || (decide (123 ≤ c.toNat) && decide (c.toNat ≤ 126))
inductive Tok where
  | lit (c : UInt8)
  | esc (c : UInt8)
  | nl
def Tok.bytes : Tok → List UInt8
  | .lit c => [c]
  | .esc c => [92, c]
  | .nl => [10]
def Tok.out : Tok → List UInt8
  | .lit c => escB htmlPs c
  | .esc c => escB htmlPs c
  | .nl => [10]
def Tok.ok (o : Opt) : Tok → Prop
  | .lit c => parserOf o c = .nil ∧ c ≠ 93
  | .esc c => punB c = true
  | .nl => True
end Go.Proofs.YtihmcipajjakgaaGreatDoor


set_option linter.unusedVariables false
namespace Go.Proofs.YtihmcipajjakgaaGreatDoor
open Go.Proofs Go.IntWalk Go.RowKit
variable {σ : Out} {w : World} {L L' : List Chunk} {R : Ending → World → Prop}
def SArg (σ : Out) (L : List Chunk) (q : Option Addr) (n : Nat) (ls : List (List UInt8)) : Prop :=
  n = ls.length ∧ ∀ i (hi : i < ls.length), ∃ a, q = some a ∧ ∀ w, Sat σ w L → w.cell? (a.add i) = some (.string (bs ls[i]))
theorem SArg.mono {q : Option Addr} {n : Nat} {ls : List (List UInt8)} (h : SArg σ L q n ls) (hL : ∀ w, Sat σ w L' → Sat σ w L) : SArg σ L' q n ls :=
  ⟨h.1, fun i hi => by obtain ⟨a, h1, h2⟩ := h.2 i hi; exact ⟨a, h1, fun w hw => h2 w (hL w hw)⟩⟩
def prnB (c : UInt8) : Bool := decide (32 ≤ c.toNat) && decide (c.toNat ≤ 126)
def asciiM (s : List UInt8) (nl : Bool) : Bool := s.all fun c => prnB c || (nl && c == 10)
theorem ascii_ok {s : List UInt8} {nl : Bool} (hs : s.length < 4611686018427387904) (hR : R (.returned (.bool (asciiM s nl))) w) : callE P i_laws_ascii #[.string (bs s), .bool nl] R w := by
  refine g_laws_ascii.sound ?_
  intro X hX
  have key : ∀ k i, i + k = s.length → asciiM s nl = asciiM (s.drop i) nl → X (bs s) nl (i : Int) w := by
    intro k
    induction k with
    | zero =>
      intro i hi ha
      refine hX _ _ _ _ (br_false (by simp; omega) ?_)
      rw [List.drop_eq_nil_of_le (by omega)] at ha
      rw [ha] at hR; exact hR
    | succ k ih =>
      intro i hi ha
      have hil : i < s.length := by omega
      have hcons : asciiM (s.drop i) nl = ((prnB s[i] || (nl && s[i] == 10)) && asciiM (s.drop (i + 1)) nl) := by
        rw [List.drop_eq_getElem_cons hil]; rfl
      have e10 : (bt (bs s) (i : Int) == 10) = (s[i] == 10) := bt_beq hil 10 10 rfl
      have e1 : (decide (bt (bs s) (i : Int) < 32) || decide (bt (bs s) (i : Int) > 126)) = !prnB s[i] := by
        rw [bt_at hil, Bool.eq_iff_iff]
        simp only [prnB, Bool.or_eq_true, decide_eq_true_eq, Bool.not_eq_true', Bool.and_eq_false_iff, decide_eq_false_iff_not]
        omega
      refine hX _ _ _ _ (br_true (by simp; omega) ?_)
      rw [e1, e10]
      refine ⟨by omega, by simp; omega, fun _ => ⟨by omega, by simp; omega⟩, fun _ => ⟨by omega, by simp; omega⟩, ?_⟩
      cases hc : (prnB s[i] || (nl && s[i] == 10)) with
      | true =>
        refine br_false (by cases h1 : prnB s[i] <;> rw [h1] at hc <;> simp_all) ?_
        rw [i64_inc (by omega)]
        refine ih (i + 1) (by omega) ?_
        rw [ha, hcons, hc, Bool.true_and]
      | false =>
        refine br_true ?_ ?_
        · simp only [Bool.or_eq_false_iff] at hc
          rw [hc.1, hc.2]; rfl
        rw [ha, hcons, hc, Bool.false_and] at hR; exact hR
  exact key s.length 0 (by omega) (by rw [List.drop_zero])
theorem times_ok {s : List UInt8} {n : Nat} (hn : n < 1000000) (hs : s.length < 1000000) (hR : R (.returned (.string (bs (List.replicate n s).flatten))) w) : callE P i_laws_times #[.string (bs s), .int .i64 n] R w := by
  refine g_laws_times.sound ?_
  have hmax : IntKind.i64.max = 9223372036854775807 := rfl
  intro X hX
  have hfl : ∀ k, (List.replicate k s).flatten.length = k * s.length := by intro k; simp
  have key : ∀ k i, i + k = n → X (bs s) (bs (List.replicate i s).flatten) (n : Nat) (i : Int) w := by
    intro k
    induction k with
    | zero =>
      intro i hi
      obtain rfl : i = n := hi
      exact hX _ _ _ _ _ (br_false (by simp) hR)
    | succ k ih =>
      intro i hi
      have hm : i * s.length ≤ 1000000 * 1000000 := Nat.mul_le_mul (by omega) (by omega)
      refine hX _ _ _ _ _ (br_true (by simp; omega) ⟨?_, ?_⟩)
      · rw [hmax, bs_size, bs_size, hfl]; omega
      · rw [bs_append, i64_inc (by omega)]
        have e : (List.replicate i s).flatten ++ s = (List.replicate (i + 1) s).flatten := by rw [List.replicate_succ']; simp
        rw [e]
        exact ih (i + 1) (by omega)
  exact key n 0 (by omega)
theorem plainOpt_ok (h : Sat σ w L) (hR : ∀ w, Sat σ w L → R (.returned (optV optOff)) w) : callE P i_laws_plain #[] R w := by
  refine g_laws_plain.sound ?_
  refine Sat.bx h fun b1 w h => ?_
  repeat (first | refine nilP_some ?_ | refine Sat.tk h fun w h => ?_ | refine ⟨_, Sat.ld h (by first | assumption | (repeat (first | exact .head _ | apply List.Mem.tail))) (by exact rfl), ?_⟩ | refine ⟨_, _, _, Sat.ld h (by first | assumption | (repeat (first | exact .head _ | apply List.Mem.tail))) (by exact rfl), ?_⟩ | refine Sat.st h (k := 0) rfl (Nat.le_of_ble_eq_true rfl) trivial (by first | (dsimp only [List.set]; exact rfl) | exact rfl) fun w h => ?_ | refine Sat.st h (k := 1) rfl (Nat.le_of_ble_eq_true rfl) trivial (by first | (dsimp only [List.set]; exact rfl) | exact rfl) fun w h => ?_ | refine Sat.st h (k := 2) rfl (Nat.le_of_ble_eq_true rfl) trivial (by first | (dsimp only [List.set]; exact rfl) | exact rfl) fun w h => ?_ | refine Sat.st h (k := 3) rfl (Nat.le_of_ble_eq_true rfl) trivial (by first | (dsimp only [List.set]; exact rfl) | exact rfl) fun w h => ?_ | refine Sat.st h (k := 4) rfl (Nat.le_of_ble_eq_true rfl) trivial (by first | (dsimp only [List.set]; exact rfl) | exact rfl) fun w h => ?_ | refine Sat.st h (k := 5) rfl (Nat.le_of_ble_eq_true rfl) trivial (by first | (dsimp only [List.set]; exact rfl) | exact rfl) fun w h => ?_ | refine Sat.st h (k := 6) rfl (Nat.le_of_ble_eq_true rfl) trivial (by first | (dsimp only [List.set]; exact rfl) | exact rfl) fun w h => ?_ | refine Sat.bx h fun b0 w h => ?_)
  exact hR _ h.tail
end Go.Proofs.YtihmcipajjakgaaGreatDoor


set_option linter.unusedVariables false
set_option maxRecDepth 20000
namespace Go.Proofs.YtihmcipajjakgaaGreatDoor
open Go.Proofs
namespace g_spec_EscapeHTML
noncomputable def body : Code := bodyOf Tryz.f14
def bl1 (R : EP) (Xa : BA → BA → Int → WP) (x0 : BA) (x3 : BA) (x4 : Int) (w : World) : Prop :=
 br (decide (x4 < (x0.size : Int)))
 (0 ≤ x4 ∧ x4 < (x0.size : Int) ∧
 br ((bt x0 x4) == 38)
 (((x3.size + (ByteArray.mk #[38, 97, 109, 112, 59]).size : Nat) : Int) ≤ IntKind.i64.max ∧
 Xa x0 (x3 ++ (ByteArray.mk #[38, 97, 109, 112, 59])) (IntKind.i64.wrap (x4 + 1)) w)
 (br ((bt x0 x4) == 60)
 (((x3.size + (ByteArray.mk #[38, 108, 116, 59]).size : Nat) : Int) ≤ IntKind.i64.max ∧
 Xa x0 (x3 ++ (ByteArray.mk #[38, 108, 116, 59])) (IntKind.i64.wrap (x4 + 1)) w)
 (br ((bt x0 x4) == 62)
 (((x3.size + (ByteArray.mk #[38, 103, 116, 59]).size : Nat) : Int) ≤ IntKind.i64.max ∧
 Xa x0 (x3 ++ (ByteArray.mk #[38, 103, 116, 59])) (IntKind.i64.wrap (x4 + 1)) w)
 (br ((bt x0 x4) == 34)
 (((x3.size + (ByteArray.mk #[38, 113, 117, 111, 116, 59]).size : Nat) : Int) ≤ IntKind.i64.max ∧
 Xa x0 (x3 ++ (ByteArray.mk #[38, 113, 117, 111, 116, 59])) (IntKind.i64.wrap (x4 + 1)) w)
 (0 ≤ x4 ∧ x4 ≤ (IntKind.i64.wrap (x4 + 1)) ∧ (IntKind.i64.wrap (x4 + 1)) ≤ (x0.size : Int) ∧
 ((x3.size + (x0.extract (Int.toNat x4) (Int.toNat (IntKind.i64.wrap (x4 + 1)))).size : Nat) : Int) ≤ IntKind.i64.max ∧
 Xa x0 (x3 ++ (x0.extract (Int.toNat x4) (Int.toNat (IntKind.i64.wrap (x4 + 1))))) (IntKind.i64.wrap (x4 + 1)) w)))))
 (R (.returned (.string x3)) w)
def l1 (R : EP) (x0 : BA) (x3 : BA) (x4 : Int) (w : World) : Prop :=
  ∀ X : BA → BA → Int → WP, (∀ x0 x3 x4 w, bl1 R X x0 x3 x4 w → X x0 x3 x4 w) → X x0 x3 x4 w

noncomputable def al1 (R : EP) (Xa : BA → BA → Int → WP) : AC :=
  (.leaf (sel [1, 1, 0, 1, 0, 0] body))
end g_spec_EscapeHTML
def g_spec_EscapeHTML (R : EP) (x0 : BA) (w : World) : Prop :=
 g_spec_EscapeHTML.l1 R x0 (ByteArray.mk #[]) 0 w

noncomputable def g_spec_EscapeHTML.ac (R : EP) : AC :=
  (.seq (.leaf (sel [0] g_spec_EscapeHTML.body)) (.seq (.leaf (sel [1, 0] g_spec_EscapeHTML.body)) (.seq (.seq (.leaf (sel [1, 1, 0, 0] g_spec_EscapeHTML.body)) (.block 0 (.loop (leaf [(0, .s .str), (3, .s .str), (4, .s (.int .i64))] (g_spec_EscapeHTML.l1 R)) (sel [1, 1, 0, 1, 0, 0] g_spec_EscapeHTML.body)))) (.leaf (sel [1, 1, 1] g_spec_EscapeHTML.body)))))
theorem g_spec_EscapeHTML.good (R : EP) : Good P 38 (g_spec_EscapeHTML.ac R) (QF P [.tmp 2] R) :=
  ⟨trivial, ⟨trivial, ⟨⟨trivial, (loopG (g_spec_EscapeHTML.al1 R) (g_spec_EscapeHTML.bl1 R) (fun _ => by kernel_rfl) (fun Xa => trivial) (fun Xa => by intro x0 x3 x4 ρ w; kernel_rfl) (fun X h _ _ _ _ g => g X h))⟩, trivial⟩⟩⟩
theorem g_spec_EscapeHTML.eq (R : EP) (x0 : BA) (w : World) : g_spec_EscapeHTML R x0 w = vcA P 38 (g_spec_EscapeHTML.ac R) (QF P [.tmp 2] R) (fr0 [.string x0]) w := by kernel_rfl
theorem g_spec_EscapeHTML.sound {R : EP} {x0 : ByteArray} {w : World} (h : g_spec_EscapeHTML R x0 w) : callE P i_spec_EscapeHTML #[.string x0] R w :=
  callE_fin (c := g_spec_EscapeHTML.body) Tryz.func14 Tryz.call14 (by kernel_rfl) (by kernel_rfl) (by kernel_rfl) (by kernel_rfl) (by kernel_rfl) (g_spec_EscapeHTML.good R) (g_spec_EscapeHTML.eq R x0 w) h
end Go.Proofs.YtihmcipajjakgaaGreatDoor

set_option linter.unusedVariables false
namespace Go.Proofs.YtihmcipajjakgaaGreatDoor
open Go.Proofs Go.IntWalk Go.RowKit
variable {σ : Out} {w : World} {L L' : List Chunk} {R : Ending → World → Prop}
theorem escB_cases (c : UInt8) : (c = 38 ∧ escB htmlPs c = [38, 97, 109, 112, 59]) ∨ (c = 60 ∧ escB htmlPs c = [38, 108, 116, 59]) ∨ (c = 62 ∧ escB htmlPs c = [38, 103, 116, 59]) ∨ (c = 34 ∧ escB htmlPs c = [38, 113, 117, 111, 116, 59]) ∨ (c ≠ 38 ∧ c ≠ 60 ∧ c ≠ 62 ∧ c ≠ 34 ∧ escB htmlPs c = [c]) := by
  by_cases h1 : c = 38
  · subst h1; exact .inl ⟨rfl, by decide⟩
  by_cases h2 : c = 60
  · subst h2; exact .inr (.inl ⟨rfl, by decide⟩)
  by_cases h3 : c = 62
  · subst h3; exact .inr (.inr (.inl ⟨rfl, by decide⟩))
  by_cases h4 : c = 34
  · subst h4; exact .inr (.inr (.inr (.inl ⟨rfl, by decide⟩)))
  refine .inr (.inr (.inr (.inr ⟨h1, h2, h3, h4, ?_⟩)))
  have ne : ∀ d : UInt8, c ≠ d → (d == c) = false := fun d hd => by simpa using fun h => hd h.symm
  unfold escB htmlPs
  simp [List.find?, ne 34 h4, ne 38 h1, ne 60 h2, ne 62 h3]
theorem escHTML_ok {s : List UInt8} (hs : s.length < 1000000000) (hR : R (.returned (.string (bs (escS htmlPs s)))) w) : callE P i_spec_EscapeHTML #[.string (bs s)] R w := by
  refine g_spec_EscapeHTML.sound ?_
  intro X hX
  have hmax : IntKind.i64.max = 9223372036854775807 := rfl
  have key : ∀ k i, i + k = s.length → X (bs s) (bs (escS htmlPs (s.take i))) (i : Int) w := by
    intro k
    induction k with
    | zero =>
      intro i hi
      refine hX _ _ _ _ (br_false (by simp; omega) ?_)
      rw [List.take_of_length_le (by omega)]; exact hR
    | succ k ih =>
      intro i hi
      have hil : i < s.length := by omega
      have hlen := escS_length (ps := htmlPs) (by decide) (s.take i)
      rw [List.length_take] at hlen
      have hst : escS htmlPs (s.take (i + 1)) = escS htmlPs (s.take i) ++ escB htmlPs s[i] := by
        rw [List.take_succ_eq_append_getElem hil, escS_append]; simp [escS]
      have next := ih (i + 1) (by omega)
      rw [hst] at next
      refine hX _ _ _ _ (br_true (by simp; omega) ⟨by omega, by simp; omega, ?_⟩)
      rw [bt_beq hil 38 38 rfl, bt_beq hil 60 60 rfl, bt_beq hil 62 62 rfl, bt_beq hil 34 34 rfl, i64_inc (by omega)]
      rw [show ByteArray.mk #[38, 97, 109, 112, 59] = bs [38, 97, 109, 112, 59] from rfl, show ByteArray.mk #[38, 108, 116, 59] = bs [38, 108, 116, 59] from rfl, show ByteArray.mk #[38, 103, 116, 59] = bs [38, 103, 116, 59] from rfl, show ByteArray.mk #[38, 113, 117, 111, 116, 59] = bs [38, 113, 117, 111, 116, 59] from rfl]
      rcases escB_cases s[i] with ⟨h, he⟩ | ⟨h, he⟩ | ⟨h, he⟩ | ⟨h, he⟩ | ⟨h1, h2, h3, h4, he⟩
      · rw [he] at next
        refine br_true (by simpa using h) ⟨by rw [hmax]; simp; omega, ?_⟩
        rw [bs_append]; exact next
      · rw [he] at next
        refine br_false (by rw [h]; decide) (br_true (by simpa using h) ⟨by rw [hmax]; simp; omega, ?_⟩)
        rw [bs_append]; exact next
      · rw [he] at next
        refine br_false (by rw [h]; decide) (br_false (by rw [h]; decide) (br_true (by simpa using h) ⟨by rw [hmax]; simp; omega, ?_⟩))
        rw [bs_append]; exact next
      · rw [he] at next
        refine br_false (by rw [h]; decide) (br_false (by rw [h]; decide) (br_false (by rw [h]; decide) (br_true (by simpa using h) ⟨by rw [hmax]; simp; omega, ?_⟩)))
        rw [bs_append]; exact next
      · rw [he] at next
        refine br_false (by simpa using h1) (br_false (by simpa using h2) (br_false (by simpa using h3) (br_false (by simpa using h4) ?_)))
        have e1 : (s.take (i + 1)).drop i = [s[i]] := by
          rw [List.take_succ_eq_append_getElem hil, List.drop_append_of_le_length (by rw [List.length_take]; omega), List.drop_eq_nil_of_le (by rw [List.length_take]; omega)]; rfl
        rw [Int.toNat_natCast, Int.toNat_natCast, bs_extract, e1, bs_append]
        refine ⟨by omega, by omega, by simp; omega, by rw [hmax]; simp; omega, next⟩
  exact key s.length 0 (by omega)
end Go.Proofs.YtihmcipajjakgaaGreatDoor


set_option linter.unusedVariables false
namespace Go.Proofs.YtihmcipajjakgaaGreatDoor
open Go.Proofs Go.IntWalk Go.RowKit
variable {σ : Out} {w : World} {L L' : List Chunk} {R : Ending → World → Prop}
theorem runsGo_le (x : UInt8) : ∀ (s : List UInt8) (b n : Nat), n ≤ b → runsGo x s b n ≤ b + s.length
  | [], b, n, h => by simp [runsGo]
  | d :: s, b, n, h => by
    simp only [runsGo, List.length_cons]
    by_cases hd : d = x
    · rw [if_pos hd]
      have := runsGo_le x s (max b (n + 1)) (n + 1) (Nat.le_max_right _ _)
      omega
    · rw [if_neg hd]
      have := runsGo_le x s (max b 0) 0 (Nat.le_max_right _ _)
      omega
theorem longest_ok {s : List UInt8} (hs : s.length < 1000000) (hR : R (.returned (.int .i64 (runsGo 96 s 0 0 : Nat))) w) : callE P i_laws_longest #[.string (bs s), .int .u8 96] R w := by
  refine g_laws_longest.sound ?_
  intro X hX
  have key : ∀ k i b n, i + k = s.length → n ≤ b → b ≤ i → runsGo 96 s 0 0 = runsGo 96 (s.drop i) b n → X (bs s) 96 (b : Int) (n : Int) (i : Int) w := by
    intro k
    induction k with
    | zero =>
      intro i b n hi hn hb he
      rw [List.drop_eq_nil_of_le (by omega)] at he
      refine hX _ _ _ _ _ _ (br_false (by simp; omega) ?_)
      have he : runsGo 96 s 0 0 = b := he
      rw [he] at hR; exact hR
    | succ k ih =>
      intro i b n hi hn hb he
      have hil : i < s.length := by omega
      rw [List.drop_eq_getElem_cons hil] at he
      simp only [runsGo] at he
      refine hX _ _ _ _ _ _ (br_true (by simp; omega) ⟨by omega, by simp; omega, ?_⟩)
      have k1 : ∀ m : Nat, m ≤ i + 1 → runsGo 96 s 0 0 = runsGo 96 (s.drop (i + 1)) (max b m) m → g_laws_longest.k1 R X (bs s) 96 (b : Int) (m : Int) (i : Int) w := by
        intro m hm he
        refine ⟨((max b m : Nat) : Int), w, ?_, ?_⟩
        · rw [run_max_int2]
          congr 2
          split <;> omega
        · rw [i64_inc (by omega)]
          exact ih (i + 1) (max b m) m (by omega) (by omega) (by omega) he
      rw [bt_at hil]
      by_cases h96 : s[i] = 96
      · rw [if_pos h96] at he
        refine br_false (by have := u8b s[i] 96 96 rfl; simp only [bne, this]; simpa using h96) ?_
        rw [i64_inc (by omega)]
        exact k1 (n + 1) (by omega) he
      · rw [if_neg h96] at he
        refine br_true (by have := u8b s[i] 96 96 rfl; simp only [bne, this]; simpa using h96) ?_
        exact k1 0 (by omega) he
  exact key s.length 0 0 0 (by omega) (by omega) (by omega) (by rw [List.drop_zero])
theorem specLet_ok {c : UInt8} (hR : R (.returned (.bool (letB c))) w) : callE P i_spec_IsLetter #[.int .u8 (c.toNat : Int)] R w := by
  refine g_spec_IsLetter.sound ?_
  unfold g_spec_IsLetter
  have e : (((decide (((c.toNat : Nat) : Int) ≥ 97)) && (decide (((c.toNat : Nat) : Int) ≤ 122))) || ((decide (((c.toNat : Nat) : Int) ≥ 65)) && (decide (((c.toNat : Nat) : Int) ≤ 90)))) = letB c := by
    unfold letB
    rw [Bool.eq_iff_iff]; simp; omega
  rw [e]; exact hR
theorem Ln.strip_text : ∀ (k n : Nat) {l : Ln}, l.ok → (l.strip k n).2.text = l.text
  | 0, n, l, h => rfl
  | k + 1, n, l, h => by
    simp only [Ln.strip]
    cases hs : l.trimSp 1 1 false with
    | none => rfl
    | some l' =>
      simp only
      rw [Ln.strip_text k (n + 1) (Ln.trimSp_ok h hs)]
      exact (Ln.tsGo_ok 1 0 h hs).2.1
theorem fenGo_line {f : Nat} {l : Ln} (hl : l.ok) (hf : 3 ≤ f) (hrun : ∀ u : List UInt8, u <:+: l.text → (∀ d ∈ u, d = 96) → u.length < f) : FenGo (List.replicate f 96) l := by
  rintro n c t info ⟨h1, h2, h3, h4, -, -, -⟩ he
  rw [List.length_replicate, List.take_replicate] at he
  have hlen := congrArg List.length he
  simp only [List.length_replicate] at hlen
  have hc : c = 96 := by
    have := congrArg List.head? he
    rw [hlen] at this
    obtain ⟨g, rfl⟩ : ∃ g, f = g + 1 := ⟨f - 1, by omega⟩
    simpa [List.replicate_succ] using this
  subst hc
  rw [Ln.strip_text 3 0 hl] at h4
  have hin : List.replicate n (96 : UInt8) <:+: l.text := by
    rw [h4, ← runB_take]
    exact List.IsInfix.trans (List.IsPrefix.isInfix (List.take_prefix _ _)) (List.IsSuffix.isInfix (List.drop_suffix _ _))
  have := hrun _ hin (fun d hd => (List.mem_replicate.1 hd).2)
  rw [List.length_replicate] at this
  omega
theorem addLine_fen0 {b rb f : Nat} {p : PS} {D : List DB} {word : List UInt8} {ec : Chunk} (h : DocS σ b rb L D .none p w) (hf : 3 ≤ f) (hfl : f < 50000) (hw : ∀ c ∈ word, letB c = true) (hwl : word.length < 10000) (hE : EntA ec) (hec : ec ∈ L)
    (hR : ∀ w p', p'.base = p.base → p'.lineno = p.lineno → DocS σ b rb L D (fenLeaf (List.replicate f 96) word []) p' w → R (.returned (.tuple #[])) w) :
    callE P i_parseState_addLine #[.pointer (some ⟨b, 0, none⟩), (lnOf (List.replicate f 96 ++ word) 10).val] R w := by
  obtain ⟨r, obs, M, TM, IM, LM, hr, hs, ht, hI, ⟨rfl, rfl⟩, h⟩ := h
  have hl : (lnOf (List.replicate f 96 ++ word) 10).ok := lnOf_ok (by simp; omega)
  have e0 : List.replicate f (96 : UInt8) ++ word = 96 :: (List.replicate (f - 1) 96 ++ word) := by
    obtain ⟨g, rfl⟩ : ∃ g, f = g + 1 := ⟨f - 1, by omega⟩
    rfl
  obtain ⟨hlead, hstrip, hpeek, htc, hbl⟩ : (∀ e, (lnOf (List.replicate f 96 ++ word) 10).lead 3 e = lnOf (List.replicate f 96 ++ word) 10) ∧ (lnOf (List.replicate f 96 ++ word) 10).strip 3 0 = (0, lnOf (List.replicate f 96 ++ word) 10) ∧
      (lnOf (List.replicate f 96 ++ word) 10).peek = 96 ∧ (∀ d : UInt8, (96 : UInt8) ≠ d → (lnOf (List.replicate f 96 ++ word) 10).trimC d = none) ∧ (lnOf (List.replicate f 96 ++ word) 10).blank = false := by
    rw [e0]
    refine ⟨lead_first (by decide), strip_first (by decide), rfl, fun d hd => by simp [Ln.trimC, lnOf, hd], rfl⟩
  have hqu : (lnOf (List.replicate f 96 ++ word) 10).quote = none := by unfold Ln.quote; rw [hlead, htc 62 (by decide)]; rfl
  have hhd : (lnOf (List.replicate f 96 ++ word) 10).heading = none := by unfold Ln.heading; rw [hlead, htc 35 (by decide)]
  have hhr : (lnOf (List.replicate f 96 ++ word) 10).isHR = false := by
    unfold Ln.isHR
    simp only [hlead, hpeek]
    rw [if_neg (by decide)]
  refine g_parseState_addLine.sound ?_
  refine Sat.bx h fun b1 w h => ?_
  repeat (first | refine nilP_some ?_ | refine Sat.tk h fun w h => ?_ | refine ⟨_, Sat.ld h (by first | assumption | (repeat (first | exact .head _ | apply List.Mem.tail))) (by exact rfl), ?_⟩ | refine ⟨_, _, _, Sat.ld h (by first | assumption | (repeat (first | exact .head _ | apply List.Mem.tail))) (by exact rfl), ?_⟩ | refine Sat.st h (k := 0) rfl (Nat.le_of_ble_eq_true rfl) trivial (by first | (dsimp only [List.set]; exact rfl) | exact rfl) fun w h => ?_ | refine Sat.st h (k := 1) rfl (Nat.le_of_ble_eq_true rfl) trivial (by first | (dsimp only [List.set]; exact rfl) | exact rfl) fun w h => ?_ | refine Sat.st h (k := 2) rfl (Nat.le_of_ble_eq_true rfl) trivial (by first | (dsimp only [List.set]; exact rfl) | exact rfl) fun w h => ?_ | refine Sat.st h (k := 3) rfl (Nat.le_of_ble_eq_true rfl) trivial (by first | (dsimp only [List.set]; exact rfl) | exact rfl) fun w h => ?_ | refine Sat.st h (k := 4) rfl (Nat.le_of_ble_eq_true rfl) trivial (by first | (dsimp only [List.set]; exact rfl) | exact rfl) fun w h => ?_ | refine Sat.st h (k := 5) rfl (Nat.le_of_ble_eq_true rfl) trivial (by first | (dsimp only [List.set]; exact rfl) | exact rfl) fun w h => ?_ | refine Sat.st h (k := 6) rfl (Nat.le_of_ble_eq_true rfl) trivial (by first | (dsimp only [List.set]; exact rfl) | exact rfl) fun w h => ?_ | refine Sat.bx h fun b0 w h => ?_)
  let p1 : PS := { p with depth := 0 }
  have hs1 : Stk p1 ([] ++ [r]) M := hs
  have h : Sat σ _ ((lnOf (List.replicate f 96 ++ word) 10).at b1 :: p1.at b :: (M ++ (IM ++ (TM ++ ([] ++ (ownC D ++ ((txsC D).map TX.chunk ++ L))))))) := h
  intro X hX
  refine hX _ _ _ ?_
  repeat (first | refine nilP_some ?_ | refine Sat.tk h fun w h => ?_ | refine ⟨_, Sat.ld h (by first | assumption | (repeat (first | exact .head _ | apply List.Mem.tail))) (by exact rfl), ?_⟩ | refine ⟨_, _, _, Sat.ld h (by first | assumption | (repeat (first | exact .head _ | apply List.Mem.tail))) (by exact rfl), ?_⟩)
  have hn : p1.stn = 1 := hs.2.1
  rw [hn]
  refine br_false rfl ?_
  refine isBlank_ok h (by first | assumption | (repeat (first | exact .head _ | apply List.Mem.tail))) hl fun w h => ⟨_, rfl, ?_⟩
  rw [hbl]
  refine br_false rfl ?_
  have h : Sat σ w (p1.at b :: M ++ ((lnOf (List.replicate f 96 ++ word) 10).at b1 :: (IM ++ (TM ++ ([] ++ (ownC D ++ ((txsC D).map TX.chunk ++ L))))))) := h.re (by intro _; simp only [List.append_eq, cnt_append, cnt_cons, cnt_nil] <;> omega)
  refine bl102_take 6 (by decide) h ?_ fun w nb e R' h hk => ?_
  · intro j hj h5 σ w L R h hR
    match j, h5 with
    | 0, _ => exact newQuote_no (x := .nilIface) h hl hqu hR
    | 1, _ => exact newATX_no h hl hhd hR
    | 2, _ => exact newSetext_no h hs1 rfl rfl hr (by decide) hl hR
    | 3, _ => exact newHR_no h hl hhr hR
    | 4, _ => exact LDecl.of_peek hl (by rw [hstrip, hpeek]; decide) b 0 p1 [r] r M _ _ hs1 rfl rfl hr (by decide) σ w L R h hR
    | 5, _ => exact HDecl.of_peek hl (by rw [hlead, hpeek]; decide) b p1 [] r M _ _ hs1 hr (by decide) σ w L R h hR
  · refine newFence_yes (ec := ec) h hs1 (by rfl) (by simp) hf hfl hw hwl hE (by simp [hec]) fun w p' M' fb FM hp' hH hs' h => ?_
    have h : Sat σ w ((lnOf (List.replicate f 96 ++ word) 10).at b1 :: (p'.at b :: M' ++ (FM ++ ((nb, cel newsC e) :: (IM ++ (TM ++ ([] ++ (ownC D ++ ((txsC D).map TX.chunk ++ L))))))))) := h.re (by intro _; simp only [List.append_eq, cnt_append, cnt_cons, cnt_nil] <;> omega)
    refine hk w _ h fun w h => ?_
    refine hR w p' (by rw [hp']; rfl) (by rw [hp']) ⟨r, [fenOB fb p1.lineno p1.lineno], M', TM, IM, FM, hr, hs', ht.of (by rw [hp']) (by rw [hp']) (by rw [hp']), hI, ⟨fb, _, _, rfl, hH⟩, ?_⟩
    exact h.less [(nb, cel newsC e)] (by intro _; simp only [List.append_eq, cnt_append, cnt_cons, cnt_nil] <;> omega)
theorem escS_id {s : List UInt8} (hs : ∀ c ∈ s, letB c = true) : escS htmlPs s = s := by
  induction s with
  | nil => rfl
  | cons c s ih =>
    have hd : ∀ c : Fin 256, letB (UInt8.ofNat c.val) = true → escB htmlPs (UInt8.ofNat c.val) = [UInt8.ofNat c.val] := by decide +kernel
    have := hd ⟨c.toNat, c.toNat_lt⟩
    have h1 : escB htmlPs c = [c] := by simpa using this (by simpa using hs c (by simp))
    rw [escS_cons, h1, ih (fun d hd => hs d (List.mem_cons_of_mem _ hd))]; rfl
theorem codeOut_raw (ls : List (List UInt8)) : codeOut ls = escS htmlPs (rawOut ls) := by
  induction ls with
  | nil => rfl
  | cons l ls ih =>
    have e1 : codeOut (l :: ls) = escS htmlPs l ++ [10] ++ codeOut ls := by simp [codeOut]
    have e2 : rawOut (l :: ls) = l ++ [10] ++ rawOut ls := by simp [rawOut]
    rw [e1, e2, escS_append, escS_append, ih]
    rfl
theorem html_fence {f : Nat} {s word : List UInt8} {ec : Chunk} (hE : EntA ec) (hf : 3 ≤ f) (hrun : runsGo 96 s 0 0 < f) (hfl : f < 50000) (hw : ∀ c ∈ word, letB c = true) (hwl : word.length ≤ 100) (h0 : 0 ∉ s) (h13 : 13 ∉ s) (hl : s.length ≤ 2000) :
    ParsesToL [ec] optOff (rawOut ((List.replicate f 96 ++ word) :: splitNL s ++ [List.replicate f 96])) (preO ++ clsT word ++ [62] ++ codeOut (splitNL s) ++ preC) := by
  have hml := splitNL_mem s
  have hsl := splitNL_len s
  have hin := (splitNL_infix s).2
  have hwd : ∀ d : UInt8, d.toNat < 65 → d ∉ word := by
    intro d hd hm
    have := hw d hm
    unfold letB at this
    simp at this
    omega
  have hT : rawOut ((List.replicate f 96 ++ word) :: splitNL s ++ [List.replicate f 96]) = (List.replicate f 96 ++ word) ++ [10] ++ (s ++ [10]) ++ (List.replicate f 96 ++ [10]) := by
    rw [← rawOut_split s]; simp [rawOut]
  have hnoF : ∀ d : UInt8, d ≠ 96 → d ∉ List.replicate f (96 : UInt8) := fun d hd hm => hd (List.mem_replicate.1 hm).2
  have hL : LinesOf (rawOut ((List.replicate f 96 ++ word) :: splitNL s ++ [List.replicate f 96])) (((List.replicate f 96 ++ word) :: splitNL s ++ [List.replicate f 96]).map (fun l => (l, 10)) ++ []) := by
    have := linesOf_raw (t := []) (rem := []) .nil ((List.replicate f 96 ++ word) :: splitNL s ++ [List.replicate f 96]) fun l hlm => ?_
    · rwa [List.append_nil] at this
    simp only [List.cons_append, List.mem_cons, List.mem_append, List.mem_singleton, List.not_mem_nil, or_false] at hlm
    rcases hlm with rfl | hlm | rfl
    · exact ⟨by simp only [List.mem_append, not_or]; exact ⟨hnoF 10 (by decide), hwd 10 (by decide)⟩, by simp only [List.mem_append, not_or]; exact ⟨hnoF 13 (by decide), hwd 13 (by decide)⟩⟩
    · exact ⟨fun hc => ((hml l hlm).2 10 hc).2 rfl, fun hc => h13 ((hml l hlm).2 13 hc).1⟩
    · exact ⟨hnoF 10 (by decide), hnoF 13 (by decide)⟩
  rw [List.append_nil] at hL
  refine parses_docL (F := fun _ l => l) hL (by rw [hT]; simp only [List.mem_append, List.mem_singleton, not_or]; exact ⟨⟨⟨⟨hnoF 0 (by decide), hwd 0 (by decide)⟩, by decide⟩, h0, by decide⟩, hnoF 0 (by decide), by decide⟩) (by rw [hT]; simp; omega)
    (fun rem D lf => (rem = ((List.replicate f 96 ++ word) :: splitNL s ++ [List.replicate f 96]).map (fun l => (l, 10)) ∧ D = [] ∧ lf = .none) ∨
      (∃ pre suf, pre ++ suf = splitNL s ∧ rem = suf.map (fun l => (l, 10)) ++ [(List.replicate f 96, 10)] ∧ D = [] ∧ lf = fenLeaf (List.replicate f 96) word pre) ∨
      (∃ d, FenDone (List.replicate f 96) word (splitNL s) d ∧ rem = [] ∧ D = [d] ∧ lf = .none)) (.inl ⟨rfl, rfl, rfl⟩) ?_ ?_
  · rintro l nl rem D lf (⟨hrem, rfl, rfl⟩ | ⟨pre, suf, hps, hrem, rfl, rfl⟩ | ⟨d, hd, hrem, rfl, rfl⟩) σ R L b rb pb p w hL0 hop hpz hno' h hR
    · simp only [List.cons_append, List.map_cons, List.cons.injEq, Prod.mk.injEq] at hrem
      obtain ⟨⟨rfl, rfl⟩, rfl⟩ := hrem
      refine addLine_fen0 (ec := ec) h hf hfl hw (by omega) hE (hL0 ec (by simp)) fun w p' h1 h2 h3 => ?_
      exact hR w p' [] _ h1 h2 (.inr (.inl ⟨[], splitNL s, rfl, by simp, rfl, rfl⟩)) h3
    · have hpl : pre.length ≤ 2001 := by have := congrArg List.length hps; simp at this; omega
      cases suf with
      | nil =>
        simp only [List.map_nil, List.nil_append, List.cons.injEq, Prod.mk.injEq] at hrem
        obtain ⟨⟨rfl, rfl⟩, rfl⟩ := hrem
        rw [List.append_nil] at hps
        obtain ⟨fN, fY, _, fX⟩ := fence_line (f := f) (word := []) (nl := 10) hf (by simp)
        rw [List.append_nil] at fN fY fX
        refine addLine_fen2 (ec := ec) h (lnOf_ok (by simp; omega)) (by omega) (by show (List.replicate f (96 : UInt8)).length < _; simp; omega) hE (hL0 ec (by simp)) ⟨fN, fun n c t info hY => ?_⟩ (fun hg => hg f 96 [] [] fX (by rw [List.take_length])) (by simp) fun w p' d h1 h2 h3 h4 => ?_
        · obtain ⟨rfl, rfl, rfl⟩ := fY n c t info hY
          exact ⟨by rw [List.take_length], rfl⟩
        · rw [hps] at h3
          exact hR w p' _ _ h1 h2 (.inr (.inr ⟨d, h3, rfl, rfl, rfl⟩)) h4
      | cons x suf =>
        simp only [List.map_cons, List.cons_append, List.cons.injEq, Prod.mk.injEq] at hrem
        obtain ⟨⟨rfl, rfl⟩, rfl⟩ := hrem
        have hxm : l ∈ splitNL s := by rw [← hps]; simp
        have hx := hml l hxm
        have hxl := hx.1
        have hlo : (lnOf l 10).ok := lnOf_ok (by omega)
        refine addLine_fen1 (ec := ec) h hlo (by omega) (by show l.length < _; omega) hE (hL0 ec (by simp)) (fenGo_line hlo hf fun u hu hd => ?_) fun w p' h1 h2 h3 => ?_
        · have := runs_infix (List.IsInfix.trans hu (hin l hxm)) hd
          omega
        · rw [lnOf_str] at h3
          exact hR w p' [] _ h1 h2 (.inr (.inl ⟨pre ++ [l], suf, by rw [← hps]; simp, rfl, rfl, by simp⟩)) h3
    · simp at hrem
  · rintro D lf (⟨hrem, rfl, rfl⟩ | ⟨pre, suf, hps, hrem, rfl, rfl⟩ | ⟨d, hd, hrem, rfl, rfl⟩)
    · simp at hrem
    · simp at hrem
    · refine ⟨trivial, by simp, by simp [txsC, hd.txs], ?_⟩
      intro D' hD'
      obtain rfl : D' = [d] := hD'
      refine ⟨[codeF word (splitNL s)], .cons (hd.shows (by omega) (fun l hlm => by have := (hml l hlm).1; omega) ?_ (fun c hc => ?_) (by omega)) .nil, ?_, ?_⟩
      · intro he
        have := congrArg List.length he
        simp at this; omega
      · have := letB_ne (hw c hc)
        exact ⟨this.2.2.2.2.1, this.2.2.2.2.2⟩
      · show codeF word (splitNL s) [] = _
        simp [codeF, nlB]
      · intro x hx
        simp [txsC, hd.txs] at hx
theorem fnFenceTicks_ok {k : Nat} {x y : ByteArray} {ec : Chunk} (hE : EntA ec) (hec : ec ∈ L) (hk : k < 256) (h : Sat σ w L) (hR : ∀ w, Sat σ w L → R (.returned (.bool true)) w) : callE P i_laws_FnFenceTicks #[.string x, .string y, .int .u8 (k : Int)] R w := by
  rw [bs_of x, bs_of y]
  generalize x.data.toList = s
  generalize y.data.toList = word
  refine g_laws_FnFenceTicks.sound ?_
  refine br_split (fun _ => hR _ h) fun hg => ?_
  have hg : s.length ≤ 2147483647 ∧ word.length ≤ 2147483647 := by simp at hg; omega
  refine ascii_ok (by omega) ⟨_, rfl, ?_⟩
  refine br_split (fun _ => hR _ h) fun ho => ?_
  have ho : asciiM s true = true ∧ s.length ≤ 2000 ∧ word.length ≤ 100 := by
    simp at ho
    exact ⟨ho.1.1, by omega, by omega⟩
  obtain ⟨ha, hsl, hwl⟩ := ho
  have hno : ∀ d : UInt8, prnB d = false → d ≠ 10 → d ∉ s := by
    intro d h1 h2 hm
    have := (List.all_eq_true.1 ha) d hm
    simp [h1, h2] at this
  have h0 := hno 0 (by decide) (by decide)
  have h13 := hno 13 (by decide) (by decide)
  have hmax : IntKind.i64.max = 9223372036854775807 := rfl
  have b2 : ∀ s t : List UInt8, s.length + t.length < 1000000000 → (((bs s).size + (bs t).size : Nat) : Int) ≤ IntKind.i64.max := by intro s t hs; rw [hmax, bs_size, bs_size]; omega
  have hru := runsGo_le 96 s 0 0 (Nat.le_refl _)
  have k3 : ∀ f : Nat, 3 ≤ f → runsGo 96 s 0 0 < f → f < 5000 → (∀ c ∈ word, letB c = true) → g_laws_FnFenceTicks.k3 R (bs s) (bs word) (bs (List.replicate f 96)) (bs (clsT word)) w := by
    intro f hf hrf hfl hw
    have hP := html_fence hE hf hrf (by omega) hw hwl h0 h13 hsl
    have hT : rawOut ((List.replicate f 96 ++ word) :: splitNL s ++ [List.replicate f 96]) = List.replicate f 96 ++ word ++ [10] ++ s ++ [10] ++ List.replicate f 96 ++ [10] := by
      have := rawOut_split s
      have e3 : rawOut ((List.replicate f 96 ++ word) :: splitNL s ++ [List.replicate f 96]) = List.replicate f 96 ++ word ++ [10] ++ rawOut (splitNL s) ++ (List.replicate f 96 ++ [10]) := by simp [rawOut]
      rw [e3, this]; simp
    rw [hT, codeOut_raw, rawOut_split, escS_append] at hP
    have hcl : (clsT word).length ≤ 118 + 700 := by
      unfold clsT
      split
      · simp
      · rw [escS_id hw]; simp [clsO]; omega
    have hes := escS_length (ps := htmlPs) (by decide) s
    have hrl : (List.replicate f (96 : UInt8)).length = f := List.length_replicate
    generalize List.replicate f (96 : UInt8) = F at hP hrl ⊢
    generalize clsT word = C at hP hcl ⊢
    unfold g_laws_FnFenceTicks.k3
    refine plainOpt_ok h fun w h => ⟨_, _, _, _, _, _, _, _, _, _, rfl, ?_⟩
    rw [show ByteArray.mk #[10] = bs [10] from rfl, show ByteArray.mk #[60, 112, 114, 101, 62, 60, 99, 111, 100, 101] = bs preO from rfl, show ByteArray.mk #[62] = bs [62] from rfl, show ByteArray.mk #[10, 60, 47, 99, 111, 100, 101, 62, 60, 47, 112, 114, 101, 62, 10] = bs (10 :: preC) from rfl]
    simp only [bs_append]
    have hpo : preO.length = 10 := rfl
    have hpc : preC.length = 14 := rfl
    refine ⟨b2 _ _ (by omega), b2 _ _ (by simp; omega), b2 _ _ (by simp; omega), b2 _ _ (by simp; omega), b2 _ _ (by simp; omega), b2 _ _ (by simp; omega), ?_⟩
    show callE P i_impl_HTML #[optV optOff, .string (bs (F ++ word ++ [10] ++ s ++ [10] ++ F ++ [10]))] _ w
    refine html_okL hP (by simpa using hec) (by rw [show escS htmlPs [10] = [10] from by decide]; simp; omega) h fun w h => ⟨_, rfl, b2 _ _ (by omega), b2 _ _ (by simp only [List.length_append, List.length_cons, List.length_nil]; omega), ?_⟩
    refine escHTML_ok (by omega) ⟨_, rfl, b2 _ _ (by simp; omega), b2 _ _ (by simp; omega), ?_⟩
    rw [bs_append, bs_append]
    have e : preO ++ C ++ [62] ++ (escS htmlPs s ++ escS htmlPs [10]) ++ preC = preO ++ C ++ [62] ++ escS htmlPs s ++ (10 :: preC) := by
      rw [show escS htmlPs [10] = [10] from by decide]; simp
    rw [e]
    simpa using hR w h
  unfold g_laws_FnFenceTicks.k2
  intro X hX
  have key : ∀ m i, i + m = word.length → (∀ c ∈ word.take i, letB c = true) → X (bs s) (bs word) (k : Int) (i : Int) w := by
    intro m
    induction m with
    | zero =>
      intro i hi hw
      rw [List.take_of_length_le (by omega)] at hw
      refine hX _ _ _ _ _ (br_false (by simp; omega) ?_)
      refine longest_ok (by omega) ⟨_, rfl, ?_⟩
      rw [i64_inc (by omega)]
      refine ⟨((max 3 (runsGo 96 s 0 0 + 1) : Nat) : Int), w, ?_, by decide, ?_⟩
      · rw [run_max_int2]
        congr 2
        split <;> omega
      rw [show Int.tmod (k : Int) 5 = ((k % 5 : Nat) : Int) from rfl, show IntKind.i64.wrap ((k % 5 : Nat) : Int) = ((k % 5 : Nat) : Int) from i64_in _ (by omega), i64_in _ (by omega), show ((max 3 (runsGo 96 s 0 0 + 1) : Nat) : Int) + ((k % 5 : Nat) : Int) = ((max 3 (runsGo 96 s 0 0 + 1) + k % 5 : Nat) : Int) by omega]
      rw [show ByteArray.mk #[96] = bs [96] from rfl]
      refine times_ok (by omega) (by decide) ⟨_, rfl, ?_⟩
      have eF : ∀ n : Nat, (List.replicate n ([96] : List UInt8)).flatten = List.replicate n 96 := by
        intro n; induction n with
        | zero => rfl
        | succ n ih => rw [List.replicate_succ, List.flatten_cons, ih]; rfl
      rw [eF]
      have k3' := k3 (max 3 (runsGo 96 s 0 0 + 1) + k % 5) (by omega) (by omega) (by omega) hw
      by_cases hw0 : word = []
      · refine br_false (by rw [hw0, bs_toList, mk_toList]; rfl) ?_
        have : clsT word = [] := by unfold clsT; rw [if_pos hw0]
        rw [this] at k3'; exact k3'
      · refine br_true (by rw [bs_toList, mk_toList]; simpa using hw0) ?_
        have : clsT word = clsO ++ word ++ [34] := by unfold clsT; rw [if_neg hw0, escS_id hw]
        rw [this] at k3'
        rw [show ByteArray.mk #[32, 99, 108, 97, 115, 115, 61, 34, 108, 97, 110, 103, 117, 97, 103, 101, 45] = bs clsO from rfl, show ByteArray.mk #[34] = bs [34] from rfl]
        simp only [bs_append]
        have hco : clsO.length = 17 := rfl
        exact ⟨b2 _ _ (by omega), b2 _ _ (by simp; omega), k3'⟩
    | succ m ih =>
      intro i hi hw
      have hil : i < word.length := by omega
      refine hX _ _ _ _ _ (br_true (by simp; omega) ⟨by omega, by simp; omega, ?_⟩)
      rw [bt_at hil]
      refine specLet_ok ⟨_, rfl, br_split (fun _ => hR _ h) fun hlt => ?_⟩
      have hlt : letB word[i] = true := by simpa using hlt
      rw [i64_inc (by omega)]
      refine ih (i + 1) (by omega) fun c hc => ?_
      rw [List.take_succ_eq_append_getElem hil, List.mem_append, List.mem_singleton] at hc
      rcases hc with hc | rfl
      · exact hw c hc
      · exact hlt
  exact key word.length 0 (by omega) (by simp)
end Go.Proofs.YtihmcipajjakgaaGreatDoor


set_option linter.unusedVariables false
set_option linter.constructorNameAsVariable false
namespace Go.Proofs.YtihmcipajjakgaaGreatDoor
open Go.Proofs Go.ChangeShapes Go.WideShapes
theorem u8_of {n : Int} (h : (Lit.int .u8 n).wf = true) : ∃ m : Nat, m < 256 ∧ n = (m : Int) := by
  have h1 : (decide (IntKind.u8.min ≤ n) && decide (n ≤ IntKind.u8.max)) = true := h
  simp only [Bool.and_eq_true, decide_eq_true_eq] at h1
  have a : IntKind.u8.min = 0 := rfl
  have b : IntKind.u8.max = 255 := rfl
  rw [a, b] at h1
  exact ⟨n.toNat, by omega, by omega⟩
end Go.Proofs.YtihmcipajjakgaaGreatDoor


set_option linter.unusedVariables false
namespace Go.Proofs.YtihmcipajjakgaaGreatDoor
open Go.Proofs Go.ChangeShapes Go.WideShapes Go.RowKit
def rowOK : DataW Unit → Bool
  | .agg [.lit (.string a), .lit (.string b)] => decide (b.length ≤ 10) && !b.isEmpty
  | _ => false
theorem rowOK_of {r : DataW Unit} (h : rowOK r = true) : ∃ a b, r = .agg [.lit (.string a), .lit (.string b)] ∧ b.length ≤ 10 ∧ b ≠ [] := by
  unfold rowOK at h
  split at h
  · rename_i a b
    refine ⟨a, b, rfl, ?_, ?_⟩
    · simp at h; exact h.1
    · simp at h; exact h.2
  · exact absurd h (by simp)
theorem entA_of_laid {P : Program} {TA TB TS : TypeId} {N : String} {W : World} {rows : List (DataW Unit)} (hU1 : P.underlying TA = some (.array 12 TB)) (hU2 : P.underlying TB = some (.array 2 TS)) (hU3 : P.underlying TS = some .string)
    (hcB : P.cellsOf TB = 2) (hcS : P.cellsOf TS = 1) (hN : P.globalNamed N = some 1) (hT : (P.globals[1]?).map (·.type) = some TA) {l : List (String × DataW Unit)} {d : DataW Unit} (hl : l.filter (fun x => x.1 == N) = [(N, d)]) (hd0 : d = .agg rows) (hrows : rows.all rowOK = true) (hno : d.handleName?.isNone = true)
    (h : laidMetH P l W) : ∃ c, EntA c ∧ c ∈ allBlocks W := by
  have h := h.filter (fun x => x.1 == N)
  rw [hl, MakeChecks.laidMetH_plain _ _ _ (by simp [hno])] at h
  obtain ⟨ps, ⟨g, t, cs, fuel, p, q, hg, ht, hv, hd, _, _⟩, _, _⟩ := h
  obtain rfl := Option.some.inj (hN.symm.trans hg)
  obtain rfl := Option.some.inj (hT.symm.trans ht)
  obtain ⟨xs, m, _, ex, hcl, hxl, hel⟩ := DataW.trod_array hU1 hd
  have ed : d = .agg (xs.map (·.1)) := (Prod.mk.inj ex).1
  rw [hd0] at ed
  have em := DataW.agg.inj ed
  simp only [World.var?, hN, Option.bind_some] at hv
  split at hv
  case h_2 => cases hv
  rename_i c ty fr hb
  cases hv
  have hlt : 1 < W.heap.size := (Array.getElem?_eq_some_iff.1 hb).1
  refine ⟨(1, W.heap[1]), ⟨cs, ty, fr, ?_, ?_⟩, List.mem_map.2 ⟨(W.heap[1], 1), List.mem_zipIdx_iff_getElem?.2 (by simp [hlt]), rfl⟩⟩
  · rw [Array.getElem?_eq_getElem hlt] at hb; exact congrArg (Prod.mk 1) (Option.some.inj hb)
  intro i hi
  have hE := hel i hi
  rw [hcB, List.getElem?_eq_getElem (by omega)] at hE
  obtain ⟨ys, m2, _, ey, _, hyl, hel2⟩ := DataW.trod_array hU2 hE
  have h0 := hel2 0 (by decide)
  have h1 := hel2 1 (by decide)
  rw [hcS, List.getElem?_eq_getElem (by omega)] at h0 h1
  obtain ⟨s0, e0, x0, _⟩ := DataW.trod_string hU3 h0
  obtain ⟨s1, e1, x1, _⟩ := DataW.trod_string hU3 h1
  have hr : rowOK xs[i].1 = true := by
    refine (List.all_eq_true.1 hrows) _ ?_
    rw [em]
    exact List.mem_map_of_mem (List.getElem_mem _)
  obtain ⟨a, bb, er, hbl, hbn⟩ := rowOK_of hr
  rw [ey] at er
  have em2 := DataW.agg.inj er
  have f1 : ys[1].1 = .lit (.string bb) := by
    have := congrArg (fun l : List (DataW Unit) => l[1]?) em2
    simp only [List.getElem?_cons_succ, List.getElem?_cons_zero, List.getElem?_map, List.getElem?_eq_getElem (show 1 < ys.length by omega), Option.map_some, Option.some.injEq] at this
    exact this
  rw [x1] at f1
  have t1 : s1.data.toList = bb := by simpa using f1
  refine ⟨s0.data.toList, s1.data.toList, ?_, ?_, by rw [t1]; exact hbl, by rw [t1]; exact hbn⟩
  · have : (((((cs.toList.drop (i * 2)).take 2).drop (0 * 1)).take 1)[0]?) = some (.string s0) := by rw [e0]; rfl
    rw [show bs s0.data.toList = s0 from rfl, ← Array.getElem?_toList]
    have e : i * 2 = 2 * i := Nat.mul_comm _ _
    rw [e] at this
    simpa using this
  · have : (((((cs.toList.drop (i * 2)).take 2).drop (1 * 1)).take 1)[0]?) = some (.string s1) := by rw [e1]; rfl
    rw [show bs s1.data.toList = s1 from rfl, ← Array.getElem?_toList]
    have e : i * 2 = 2 * i := Nat.mul_comm _ _
    rw [e] at this
    simpa using this
end Go.Proofs.YtihmcipajjakgaaGreatDoor

