/- Part 6 of the proof of the law FnUnderlined: for every input the law returns true, the inputs read as they did, and memory that was there is as it was; under the conditions of the given row alone. -/
import Derived.Laws.StructEq
import Derived.Laws.IdiomStrings
import Derived.SliceStrings
import Derived.WideKeyArgs
import Derived.Below
import Derived.Test.YtmicoampfglaiaaGreatDoorA5
set_option linter.all false
/- Documents of many lines: the state between two lines, and what a line does: blank lines, and lines of paragraphs. -/
set_option linter.unusedVariables false
namespace Go.Proofs.YtmicoampfglaiaaGreatDoor
open Go.Proofs Go.IntWalk Go.RowKit
variable {σ : Out} {w : World} {L L' : List Chunk} {R : Ending → World → Prop}
inductive Leaf where
  | none
  | para (ls : List (List UInt8))
def LeafAt : Leaf → List OB → List Chunk → Prop
  | .none, ob, M => ob = [] ∧ M = []
  | .para ls, ob, M => ∃ qb s e, ob = [paraOB qb s e] ∧ ParaAt qb ls M ∧ s < 1000000000 ∧ ls ≠ [] ∧ ls.length < 1048570
def rootV (rb : Nat) : Value := .iface ty_P_rootBuilder (.pointer (some ⟨rb, 0, none⟩))
/-- What was built so far, and the open leaf. -/
def DocS (σ : Out) (b rb : Nat) (L : List Chunk) (D : List DB) (lf : Leaf) (p : PS) (w : World) : Prop :=
  ∃ r obs M TM IM LM, r.bd = rootV rb ∧ Stk p (r :: obs) M ∧ Txts p ((txsC D).map TX.t) TM ∧ Sl 1 ty_Block r.q r.n r.c (D.map DB.v) IM ∧ LeafAt lf obs LM ∧
    Sat σ w (p.at b :: M ++ (IM ++ (TM ++ (LM ++ (ownC D ++ ((txsC D).map TX.chunk ++ L))))))
/-- What lines do not change of the state. -/
def PS.base (p : PS) : PS := { p with lineno := 0, stq := none, stn := 0, stc := 0, depth := 0, corner := false, tq := none, tn := 0, tc := 0 }
def paraDB (nb t s e : Nat) (raw : List UInt8) : DB := ⟨.iface ty_P_Paragraph (.pointer (some ⟨nb, 0, none⟩)), [paraC nb s e t], [⟨t, s, e, raw⟩]⟩
/-- The leaf is closed. -/
def LeafClosed (lf : Leaf) (D : List DB) (D' : List DB) : Prop :=
  match lf with
  | .none => D' = D
  | .para ls => ∃ nb t s e, D' = D ++ [paraDB nb t s e (joinL [10] ls)]
/-- A leaf that can be closed. -/
def Leaf.fin : Leaf → Prop
  | .none => True
  | .para ls => (joinL [10] ls).length < 1073741824 ∧ joinL [10] ls ≠ [] ∧ ((joinL [10] ls).dropWhile isSTN).head? ≠ some 91
theorem closeLeaf_ok {b rb : Nat} {p : PS} {D : List DB} {ls : List (List UInt8)} (h : DocS σ b rb L D (.para ls) p w) (hf : Leaf.fin (.para ls)) (hD : D.length < 100000) (hX : (txsC D).length < 100000)
    (hR : ∀ w p' D' x, p'.base = p.base → p'.depth = p.depth → p'.lineno = p.lineno → p'.stn = 1 → LeafClosed (.para ls) D D' → DocS σ b rb L D' .none p' w → R (.returned x) w) :
    callE P i_parseState_closeBlock #[.pointer (some ⟨b, 0, none⟩)] R w := by
  obtain ⟨r, obs, M, TM, IM, LM, hr, hs, ht, hI, ⟨qb, s, e, rfl, hp, hs1, hne, hln⟩, h⟩ := h
  obtain ⟨hf1, hf2, hf3⟩ := hf
  have hIl := hI.1
  simp only [List.length_map, Nat.mul_one] at hIl
  refine closePara_ok (ob := []) (par := r) (o := paraOB qb s e) h hs rfl hI (by omega) ht (by simp; omega) hp hne (by omega) rfl hf1 hf2 hf3 (by exact hs1) fun w p' M' IM' TM' t nb q' c' x hp' hs' ht' hI' h => ?_
  refine hR w p' (D ++ [paraDB nb t s (s + ls.length - 1) (joinL [10] ls)]) x (by rw [hp']; rfl) (by rw [hp']) (by rw [hp']) (by rw [hp']; rfl) ⟨nb, t, s, _, rfl⟩ ?_
  refine ⟨{ r with q := q', n := r.n + 1, c := c' }, [], M', TM', IM', [], hr, hs', ?_, ?_, ⟨rfl, rfl⟩, ?_⟩
  · rw [txsC_snoc, List.map_append]; exact ht'
  · rw [List.map_append]; exact hI'
  · rw [ownC_snoc, txsC_snoc, List.map_append]
    have h : Sat σ w (p'.at b :: M' ++ (IM' ++ (TM' ++ (paraC nb s (s + ls.length - 1) t :: textC t s (s + ls.length - 1) none 0 0 (joinL [10] ls) :: (ownC D ++ ((txsC D).map TX.chunk ++ L)))))) := h
    show Sat σ w (p'.at b :: M' ++ (IM' ++ (TM' ++ ([] ++ ((ownC D ++ [paraC nb s (s + ls.length - 1) t]) ++ (((txsC D).map TX.chunk ++ [textC t s (s + ls.length - 1) none 0 0 (joinL [10] ls)]) ++ L))))))
    exact h.re (by intro _; simp only [List.append_eq, cnt_append, cnt_cons, cnt_nil] <;> omega)
/-- The number of the line, and the depth, are set. -/
theorem DocS.upd {b rb : Nat} {D : List DB} {lf : Leaf} {p p' : PS} {w' : World} (h : DocS σ b rb L D lf p w) (h1 : p'.stq = p.stq) (h2 : p'.stn = p.stn) (h3 : p'.stc = p.stc) (h4 : p'.tq = p.tq) (h5 : p'.tn = p.tn) (h6 : p'.tc = p.tc)
    (hw : ∀ K, Sat σ w (p.at b :: K) → Sat σ w' (p'.at b :: K)) : DocS σ b rb L D lf p' w' := by
  obtain ⟨r, obs, M, TM, IM, LM, hr, hs, ht, hI, hL, h⟩ := h
  exact ⟨r, obs, M, TM, IM, LM, hr, hs.of h1 h2 h3, ht.of h4 h5 h6, hI, hL, hw _ h⟩
theorem meth_paraExtend : methB P ty_P_paraBuilder "pub-paratext/pub/rscmarkdown.extend" i_paraBuilder_extend = true := by kernel_rfl
theorem paraExtend_ok {q1 q2 : Option Addr} {l : Ln} (h : Sat σ w L) (hR : ∀ w, Sat σ w L → R (.returned (.tuple #[l.val, .bool false])) w) : callE P i_paraBuilder_extend #[.pointer q1, .pointer q2, l.val] R w := by
  refine g_paraBuilder_extend.sound ?_
  refine Sat.bx h fun b1 w h => ?_
  refine Sat.bx h fun b3 w h => ?_
  repeat (first | refine nilP_some ?_ | refine Sat.tk h fun w h => ?_ | refine ⟨_, Sat.ld h (by first | assumption | (repeat (first | exact .head _ | apply List.Mem.tail))) (by exact rfl), ?_⟩ | refine ⟨_, _, _, Sat.ld h (by first | assumption | (repeat (first | exact .head _ | apply List.Mem.tail))) (by exact rfl), ?_⟩ | refine Sat.st h (k := 0) rfl (Nat.le_of_ble_eq_true rfl) trivial (by first | (dsimp only [List.set]; exact rfl) | exact rfl) fun w h => ?_ | refine Sat.st h (k := 1) rfl (Nat.le_of_ble_eq_true rfl) trivial (by first | (dsimp only [List.set]; exact rfl) | exact rfl) fun w h => ?_ | refine Sat.st h (k := 2) rfl (Nat.le_of_ble_eq_true rfl) trivial (by first | (dsimp only [List.set]; exact rfl) | exact rfl) fun w h => ?_ | refine Sat.st h (k := 3) rfl (Nat.le_of_ble_eq_true rfl) trivial (by first | (dsimp only [List.set]; exact rfl) | exact rfl) fun w h => ?_ | refine Sat.st h (k := 4) rfl (Nat.le_of_ble_eq_true rfl) trivial (by first | (dsimp only [List.set]; exact rfl) | exact rfl) fun w h => ?_ | refine Sat.st h (k := 5) rfl (Nat.le_of_ble_eq_true rfl) trivial (by first | (dsimp only [List.set]; exact rfl) | exact rfl) fun w h => ?_ | refine Sat.st h (k := 6) rfl (Nat.le_of_ble_eq_true rfl) trivial (by first | (dsimp only [List.set]; exact rfl) | exact rfl) fun w h => ?_ | refine Sat.bx h fun b0 w h => ?_)
  exact hR _ h.tail.tail
theorem lineFields : (P.fieldsOf ty_line).toList.map (fun f => (f.name == "_", f.type, f.offset)) = [(false, ty_int, 0), (false, ty_int, 1), (false, ty_int, 2), (false, ty_string, 3), (false, ty_uint8, 4)] := by kernel_rfl
theorem eqFields_run {xs ys : Array Value} : ∀ {fs : List Field} {gs : List (TypeId × Nat)}, fs.map (fun f => (f.name == "_", f.type, f.offset)) = gs.map (fun g => (false, g.1, g.2)) →
    (∀ g ∈ gs, ∃ v, (part g.1 xs g.2).run P w = .ok v w ∧ (part g.1 ys g.2).run P w = .ok v w ∧ (Op.equalIn 9999 g.1 v v).run P w = .ok true w) → (Op.eqFields 9999 xs ys fs).run P w = .ok true w
  | [], [], _, _ => rfl
  | [], g :: gs, h, _ => by simp at h
  | f :: fs, [], h, _ => by simp at h
  | f :: fs, g :: gs, h, hg => by
    simp only [List.map_cons, List.cons.injEq, Prod.mk.injEq] at h
    obtain ⟨⟨h1, h2, h3⟩, h4⟩ := h
    obtain ⟨v, e1, e2, e3⟩ := hg g (List.mem_cons_self ..)
    have ih := eqFields_run h4 (fun g' hg' => hg g' (List.mem_cons_of_mem _ hg'))
    have hn : f.name ≠ "_" := by simpa using h1
    rw [← h2, ← h3] at e1 e2
    rw [← h2] at e3
    simp only [Op.eqFields, ne_eq, hn, not_false_eq_true, if_true, Sem.run_bind, e1, e2, e3, Result.andThen_ok, Bool.not_true, Bool.false_eq_true, if_false]
    exact ih
theorem und_int : P.underlying ty_int = some (.int .i64) := by kernel_rfl
theorem und_u8 : P.underlying ty_uint8 = some (.int .u8) := by kernel_rfl
theorem und_str : P.underlying ty_string = some .string := by kernel_rfl
theorem part_line {t : TypeId} {d : TypeDesc} (hd : P.underlying t = some d) (h1 : ∀ f, d ≠ .struct f) (h2 : ∀ n e, d ≠ .array n e) {cs : Array Value} {k : Nat} {v : Value} (hv : cs[k]? = some v) (w : World) : (part t cs k).run P w = .ok v w := by
  cases d <;> first | exact absurd rfl (h1 _) | exact absurd rfl (h2 _ _) | simp [part, isAgg, run_underlying hd, hv]
theorem fld_int {t : TypeId} {k : IntKind} (hu : P.underlying t = some (.int k)) {cs : Array Value} {i : Nat} {a : Int} (hv : cs[i]? = some (.int k a)) : ∃ v, (part t cs i).run P w = .ok v w ∧ (part t cs i).run P w = .ok v w ∧ (Op.equalIn 9999 t v v).run P w = .ok true w := by
  have hp := part_line hu (fun _ h => by cases h) (fun _ _ h => by cases h) hv w
  exact ⟨_, hp, hp, by rw [run_equalIn_int w 9998 t k k a a hu, beq_self_eq_true]⟩
theorem fld_str {cs : Array Value} {i : Nat} {a : ByteArray} (hv : cs[i]? = some (.string a)) : ∃ v, (part ty_string cs i).run P w = .ok v w ∧ (part ty_string cs i).run P w = .ok v w ∧ (Op.equalIn 9999 ty_string v v).run P w = .ok true w := by
  have hp := part_line und_str (fun _ h => by cases h) (fun _ _ h => by cases h) hv w
  exact ⟨_, hp, hp, by rw [run_equalIn_string w 9998 ty_string a a und_str, beq_self_eq_true]⟩
theorem neq_line (l : Ln) (x y : Operand) (w : World) : (do eqGuard .neq ty_line x y l.val l.val; binOp .neq ty_line l.val l.val).run P w = .ok (.bool false) w := by
  have hg : (eqGuard .neq ty_line x y l.val l.val).run P w = .ok () w := run_eqGuard_agg w .neq ty_line x y _ _ (by kernel_rfl)
  have hb := run_neq_struct (P := P) w ty_line #[.int .i64 l.sp, .int .i64 l.i, .int .i64 l.tab, .string (bs l.text), .int .u8 l.nl.toNat] #[.int .i64 l.sp, .int .i64 l.i, .int .i64 l.tab, .string (bs l.text), .int .u8 l.nl.toNat]
  have he : (Op.equalIn 10000 ty_line (.agg #[.int .i64 l.sp, .int .i64 l.i, .int .i64 l.tab, .string (bs l.text), .int .u8 l.nl.toNat]) (.agg #[.int .i64 l.sp, .int .i64 l.i, .int .i64 l.tab, .string (bs l.text), .int .u8 l.nl.toNat])).run P w = .ok true w := by
    rw [run_equalIn_struct w 9999 ty_line _ _ (by kernel_rfl) (by kernel_rfl)]
    refine eqFields_run (gs := [(ty_int, 0), (ty_int, 1), (ty_int, 2), (ty_string, 3), (ty_uint8, 4)]) lineFields ?_
    intro g hg
    simp only [List.mem_cons, List.mem_nil_iff, or_false] at hg
    rcases hg with rfl | rfl | rfl | rfl | rfl
    · exact fld_int und_int rfl
    · exact fld_int und_int rfl
    · exact fld_int und_int rfl
    · exact fld_str rfl
    · exact fld_int und_u8 rfl
  rw [Sem.run_bind, hg, Result.andThen_ok]
  refine hb.trans ?_
  rw [he]; rfl
/-- A line ahead of which a paragraph is open: the first part of addLine. -/
theorem addLine_open {b rb : Nat} {p : PS} {D : List DB} {ls : List (List UInt8)} {l : Ln} (h : DocS σ b rb L D (.para ls) p w) (hl : l.ok)
    (hR : ∀ w b1 b2 p', p' = { p with depth := 0 } → DocS σ b rb (l.at b1 :: l.at b2 :: L) D (.para ls) p' w → g_parseState_addLine.k2 R (some ⟨b, 0, none⟩) b1 w) :
    callE P i_parseState_addLine #[.pointer (some ⟨b, 0, none⟩), l.val] R w := by
  obtain ⟨r, obs, M, TM, IM, LM, hr, hs, ht, hI, ⟨qb, s, e, rfl, hp, hs1, hne, hln⟩, h⟩ := h
  have hn : p.stn = 2 := hs.2.1
  refine g_parseState_addLine.sound ?_
  refine Sat.bx h fun b1 w h => ?_
  repeat (first | refine nilP_some ?_ | refine Sat.tk h fun w h => ?_ | refine ⟨_, Sat.ld h (by first | assumption | (repeat (first | exact .head _ | apply List.Mem.tail))) (by exact rfl), ?_⟩ | refine ⟨_, _, _, Sat.ld h (by first | assumption | (repeat (first | exact .head _ | apply List.Mem.tail))) (by exact rfl), ?_⟩ | refine Sat.st h (k := 0) rfl (Nat.le_of_ble_eq_true rfl) trivial (by first | (dsimp only [List.set]; exact rfl) | exact rfl) fun w h => ?_ | refine Sat.st h (k := 1) rfl (Nat.le_of_ble_eq_true rfl) trivial (by first | (dsimp only [List.set]; exact rfl) | exact rfl) fun w h => ?_ | refine Sat.st h (k := 2) rfl (Nat.le_of_ble_eq_true rfl) trivial (by first | (dsimp only [List.set]; exact rfl) | exact rfl) fun w h => ?_ | refine Sat.st h (k := 3) rfl (Nat.le_of_ble_eq_true rfl) trivial (by first | (dsimp only [List.set]; exact rfl) | exact rfl) fun w h => ?_ | refine Sat.st h (k := 4) rfl (Nat.le_of_ble_eq_true rfl) trivial (by first | (dsimp only [List.set]; exact rfl) | exact rfl) fun w h => ?_ | refine Sat.st h (k := 5) rfl (Nat.le_of_ble_eq_true rfl) trivial (by first | (dsimp only [List.set]; exact rfl) | exact rfl) fun w h => ?_ | refine Sat.st h (k := 6) rfl (Nat.le_of_ble_eq_true rfl) trivial (by first | (dsimp only [List.set]; exact rfl) | exact rfl) fun w h => ?_ | refine Sat.bx h fun b0 w h => ?_)
  let p1 : PS := { p with depth := 0 }
  have h : Sat σ _ (l.at b1 :: p1.at b :: (M ++ (IM ++ (TM ++ (LM ++ (ownC D ++ ((txsC D).map TX.chunk ++ L))))))) := h
  intro X hX
  refine hX _ _ _ ?_
  repeat (first | refine nilP_some ?_ | refine Sat.tk h fun w h => ?_ | refine ⟨_, Sat.ld h (by first | assumption | (repeat (first | exact .head _ | apply List.Mem.tail))) (by exact rfl), ?_⟩ | refine ⟨_, _, _, Sat.ld h (by first | assumption | (repeat (first | exact .head _ | apply List.Mem.tail))) (by exact rfl), ?_⟩)
  rw [show p1.stn = 2 from hn]
  refine br_true rfl ?_
  repeat (first | refine nilP_some ?_ | refine Sat.tk h fun w h => ?_ | refine ⟨_, Sat.ld h (by first | assumption | (repeat (first | exact .head _ | apply List.Mem.tail))) (by exact rfl), ?_⟩ | refine ⟨_, _, _, Sat.ld h (by first | assumption | (repeat (first | exact .head _ | apply List.Mem.tail))) (by exact rfl), ?_⟩ | refine Sat.st h (k := 0) rfl (Nat.le_of_ble_eq_true rfl) trivial (by first | (dsimp only [List.set]; exact rfl) | exact rfl) fun w h => ?_ | refine Sat.st h (k := 1) rfl (Nat.le_of_ble_eq_true rfl) trivial (by first | (dsimp only [List.set]; exact rfl) | exact rfl) fun w h => ?_ | refine Sat.st h (k := 2) rfl (Nat.le_of_ble_eq_true rfl) trivial (by first | (dsimp only [List.set]; exact rfl) | exact rfl) fun w h => ?_ | refine Sat.st h (k := 3) rfl (Nat.le_of_ble_eq_true rfl) trivial (by first | (dsimp only [List.set]; exact rfl) | exact rfl) fun w h => ?_ | refine Sat.st h (k := 4) rfl (Nat.le_of_ble_eq_true rfl) trivial (by first | (dsimp only [List.set]; exact rfl) | exact rfl) fun w h => ?_ | refine Sat.st h (k := 5) rfl (Nat.le_of_ble_eq_true rfl) trivial (by first | (dsimp only [List.set]; exact rfl) | exact rfl) fun w h => ?_ | refine Sat.st h (k := 6) rfl (Nat.le_of_ble_eq_true rfl) trivial (by first | (dsimp only [List.set]; exact rfl) | exact rfl) fun w h => ?_ | refine Sat.bx h fun b0 w h => ?_)
  have h : Sat σ _ (l.at b0 :: l.at b1 :: p1.at b :: (M ++ (IM ++ (TM ++ (LM ++ (ownC D ++ ((txsC D).map TX.chunk ++ L))))))) := h
  obtain ⟨sb, sp, hq, hM, hsp⟩ := hs.split (by simp)
  rw [show p1.stn = 2 from hn, show p1.stq = some ⟨sb, 0, none⟩ from hq]
  rw [show IntKind.i64.wrap (p1.depth + 1) = 1 from rfl]
  refine ⟨by decide, by decide, nilP_some ?_⟩
  simp only [Addr.add_lit, Nat.zero_add]
  have hmem : (sb, cel (obCells [r, paraOB qb s e] ++ sp) ty_openBlock) ∈ (l.at b0 :: l.at b1 :: p1.at b :: (M ++ (IM ++ (TM ++ (LM ++ (ownC D ++ ((txsC D).map TX.chunk ++ L))))))) := by rw [hM]; simp
  refine ⟨_, Sat.ld h hmem (stk_get (j := 1) (f := 0) (by decide) rfl), ?_⟩
  refine ⟨_, Sat.ld h (by first | assumption | (repeat (first | exact .head _ | apply List.Mem.tail))) (by exact rfl), ?_⟩
  refine ⟨_, Sat.ld h (by first | assumption | (repeat (first | exact .head _ | apply List.Mem.tail))) (by exact rfl), ?_⟩
  refine ⟨_, Sat.ld h (by first | assumption | (repeat (first | exact .head _ | apply List.Mem.tail))) (by exact rfl), ?_⟩
  refine ⟨_, Sat.ld h (by first | assumption | (repeat (first | exact .head _ | apply List.Mem.tail))) (by exact rfl), ?_⟩
  refine ⟨_, Sat.ld h (by first | assumption | (repeat (first | exact .head _ | apply List.Mem.tail))) (by exact rfl), ?_⟩
  refine enter_meth meth_paraExtend ?_
  refine paraExtend_ok h fun w h => ⟨_, _, _, _, _, _, rfl, ?_⟩
  refine Sat.st h (k := 1) rfl (Nat.le_of_ble_eq_true rfl) trivial (by first | (dsimp only [List.set]; exact rfl) | exact rfl) fun w h => ?_
  refine Sat.st h (k := 1) rfl (Nat.le_of_ble_eq_true rfl) trivial (by first | (dsimp only [List.set]; exact rfl) | exact rfl) fun w h => ?_
  refine Sat.st h (k := 1) rfl (Nat.le_of_ble_eq_true rfl) trivial (by first | (dsimp only [List.set]; exact rfl) | exact rfl) fun w h => ?_
  refine Sat.st h (k := 1) rfl (Nat.le_of_ble_eq_true rfl) trivial (by first | (dsimp only [List.set]; exact rfl) | exact rfl) fun w h => ?_
  refine Sat.st h (k := 1) rfl (Nat.le_of_ble_eq_true rfl) trivial (by first | (dsimp only [List.set]; exact rfl) | exact rfl) fun w h => ?_
  have h : Sat σ w (l.at b0 :: l.at b1 :: p1.at b :: (M ++ (IM ++ (TM ++ (LM ++ (ownC D ++ ((txsC D).map TX.chunk ++ L))))))) := h
  refine isBlank_ok h (by first | assumption | (repeat (first | exact .head _ | apply List.Mem.tail))) hl fun w h => ⟨_, rfl, ?_⟩
  have fin : g_parseState_addLine.k1 R X (some ⟨b, 0, none⟩) b1 false false w := by
    refine br_false rfl (br_true rfl ?_)
    exact hR w b1 b0 p1 rfl ⟨r, _, M, TM, IM, LM, hr, hs.of rfl rfl rfl, ht.of rfl rfl rfl, hI, ⟨qb, s, e, rfl, hp, hs1, hne, hln⟩, h.re (by intro _; simp only [List.append_eq, cnt_append, cnt_cons, cnt_nil] <;> omega)⟩
  refine br_split (fun _ => br_false rfl ?_) (fun _ => fin)
  refine ⟨_, Sat.ld h (by first | assumption | (repeat (first | exact .head _ | apply List.Mem.tail))) (by exact rfl), ?_⟩
  refine ⟨_, Sat.ld h (by first | assumption | (repeat (first | exact .head _ | apply List.Mem.tail))) (by exact rfl), ?_⟩
  refine ⟨_, Sat.ld h (by first | assumption | (repeat (first | exact .head _ | apply List.Mem.tail))) (by exact rfl), ?_⟩
  refine ⟨_, Sat.ld h (by first | assumption | (repeat (first | exact .head _ | apply List.Mem.tail))) (by exact rfl), ?_⟩
  refine ⟨_, Sat.ld h (by first | assumption | (repeat (first | exact .head _ | apply List.Mem.tail))) (by exact rfl), ?_⟩
  refine ⟨_, Sat.ld h (by first | assumption | (repeat (first | exact .head _ | apply List.Mem.tail))) (by exact rfl), ?_⟩
  refine ⟨_, Sat.ld h (by first | assumption | (repeat (first | exact .head _ | apply List.Mem.tail))) (by exact rfl), ?_⟩
  refine ⟨_, Sat.ld h (by first | assumption | (repeat (first | exact .head _ | apply List.Mem.tail))) (by exact rfl), ?_⟩
  refine ⟨_, Sat.ld h (by first | assumption | (repeat (first | exact .head _ | apply List.Mem.tail))) (by exact rfl), ?_⟩
  refine ⟨_, Sat.ld h (by first | assumption | (repeat (first | exact .head _ | apply List.Mem.tail))) (by exact rfl), ?_⟩
  exact ⟨_, _, neq_line l _ _ w, fin⟩
end Go.Proofs.YtmicoampfglaiaaGreatDoor


/- Documents of many lines: lines of paragraphs; functions that decline. -/
set_option linter.unusedVariables false
namespace Go.Proofs.YtmicoampfglaiaaGreatDoor
open Go.Proofs Go.IntWalk Go.RowKit
variable {σ : Out} {w : World} {L L' : List Chunk} {R : Ending → World → Prop}
/-- Rounds in which the functions that start blocks decline. -/
theorem news_rounds {Xb : OA → Nat → WP} {Y : OA → Nat → OA → Nat → Nat → Int → Int → WP} {b b1 nb : Nat} {e : TypeId} {p : PS} {M : List Chunk} {l : Ln}
    (hY : ∀ x0 x3 x86q x86n x86c x87 x88 w, g_parseState_addLine.bl2 R Xb Y x0 x3 x86q x86n x86c x87 x88 w → Y x0 x3 x86q x86n x86c x87 x88 w) (i : Nat) :
    ∀ (k : Nat) w, i ≤ 8 → k ≤ i → (∀ j (hj : j < newsF.length), k ≤ j → j < i → Decl b p M l newsF[j]) → Sat σ w (p.at b :: M ++ (l.at b1 :: (nb, cel newsC e) :: L)) →
      (∀ w, Sat σ w (p.at b :: M ++ (l.at b1 :: (nb, cel newsC e) :: L)) → Y (some ⟨b, 0, none⟩) b1 (some ⟨nb, 0, none⟩) 8 8 8 (i : Nat) w) → Y (some ⟨b, 0, none⟩) b1 (some ⟨nb, 0, none⟩) 8 8 8 (k : Nat) w := by
  intro k
  generalize hm : i - k = m
  induction m generalizing k with
  | zero =>
    intro w hi hk hd h hE
    obtain rfl : k = i := by omega
    exact hE w h
  | succ m ih =>
    intro w hi hk hd h hE
    refine hY _ _ _ _ _ _ _ _ (br_true (by simp; omega) ⟨by omega, by omega, ?_⟩)
    have hl : k < newsF.length := by show k < 8; omega
    have hf := List.getElem?_eq_getElem hl
    refine nilP_some ?_
    simp only [Addr.add_lit, Nat.zero_add, Int.toNat_natCast, Nat.mul_one]
    have h : Sat σ w (l.at b1 :: (nb, cel newsC e) :: (p.at b :: (M ++ L))) := h.re (by intro _; simp only [List.append_eq, cnt_append, cnt_cons, cnt_nil] <;> omega)
    refine ⟨_, Sat.ld h (.tail _ (.head _)) (newsC_get hf), ?_⟩
    refine ⟨_, Sat.ld h (.head _) rfl, _, Sat.ld h (.head _) rfl, _, Sat.ld h (.head _) rfl, _, Sat.ld h (.head _) rfl, _, Sat.ld h (.head _) rfl, ?_⟩
    have h : Sat σ w (p.at b :: M ++ (l.at b1 :: (nb, cel newsC e) :: L)) := h.re (by intro _; simp only [List.append_eq, cnt_append, cnt_cons, cnt_nil] <;> omega)
    refine enter_fn ?_
    refine hd k hl (Nat.le_refl _) (by omega) σ w _ _ h fun w h => ⟨_, _, _, _, _, _, rfl, ?_⟩
    repeat (first | refine nilP_some ?_ | refine Sat.tk h fun w h => ?_ | refine ⟨_, Sat.ld h (by first | assumption | (repeat (first | exact .head _ | apply List.Mem.tail))) (by exact rfl), ?_⟩ | refine ⟨_, _, _, Sat.ld h (by first | assumption | (repeat (first | exact .head _ | apply List.Mem.tail))) (by exact rfl), ?_⟩ | refine Sat.st h (k := 0) rfl (Nat.le_of_ble_eq_true rfl) trivial (by first | (dsimp only [List.set]; exact rfl) | exact rfl) fun w h => ?_ | refine Sat.st h (k := 1) rfl (Nat.le_of_ble_eq_true rfl) trivial (by first | (dsimp only [List.set]; exact rfl) | exact rfl) fun w h => ?_ | refine Sat.st h (k := 2) rfl (Nat.le_of_ble_eq_true rfl) trivial (by first | (dsimp only [List.set]; exact rfl) | exact rfl) fun w h => ?_ | refine Sat.st h (k := 3) rfl (Nat.le_of_ble_eq_true rfl) trivial (by first | (dsimp only [List.set]; exact rfl) | exact rfl) fun w h => ?_ | refine Sat.st h (k := 4) rfl (Nat.le_of_ble_eq_true rfl) trivial (by first | (dsimp only [List.set]; exact rfl) | exact rfl) fun w h => ?_ | refine Sat.st h (k := 5) rfl (Nat.le_of_ble_eq_true rfl) trivial (by first | (dsimp only [List.set]; exact rfl) | exact rfl) fun w h => ?_ | refine Sat.st h (k := 6) rfl (Nat.le_of_ble_eq_true rfl) trivial (by first | (dsimp only [List.set]; exact rfl) | exact rfl) fun w h => ?_ | refine Sat.bx h fun b0 w h => ?_)
    rw [i64_inc (by omega)]
    have h : Sat σ _ (l.at b0 :: (p.at b :: M ++ (l.at b1 :: (nb, cel newsC e) :: L))) := h
    exact ih (k + 1) (by omega) _ hi (by omega) (fun j hj h1 h2 => hd j hj (by omega) h2) h.tail hE
/-- All decline: newPara. -/
theorem bl102_decl {Xb : OA → Nat → WP} {b b1 : Nat} {p : PS} {M : List Chunk} {l : Ln} (h : Sat σ w (p.at b :: M ++ (l.at b1 :: L))) (hd : ∀ f ∈ newsF, Decl b p M l f)
    (hP : ∀ w nb e (R' : Ending → World → Prop), Sat σ w (p.at b :: M ++ (l.at b1 :: (nb, cel newsC e) :: L)) → (∀ w k, R (.returned (.tuple #[])) w → R' (.returned (.tuple #[Ln.zero.val, .bool k])) w) → callE P i_newPara #[.pointer (some ⟨b, 0, none⟩), l.val] R' w) :
    g_parseState_addLine.bl102 R Xb (some ⟨b, 0, none⟩) b1 w := by
  refine news_ok h fun w nb e h => ⟨_, _, _, rfl, ?_⟩
  intro Y hY
  have h : Sat σ w (p.at b :: M ++ (l.at b1 :: (nb, cel newsC e) :: L)) := h.re (by intro _; simp only [List.append_eq, cnt_append, cnt_cons, cnt_nil] <;> omega)
  refine news_rounds hY 8 0 w (by omega) (by omega) (fun j hj _ _ => hd _ (List.getElem_mem hj)) h fun w h => ?_
  refine hY _ _ _ _ _ _ _ _ (br_false (by simp) ?_)
  have hm : l.at b1 ∈ p.at b :: M ++ (l.at b1 :: (nb, cel newsC e) :: L) := by simp
  refine ⟨_, Sat.ld h hm (i := 0) rfl, _, Sat.ld h hm (i := 1) rfl, _, Sat.ld h hm (i := 2) rfl, _, Sat.ld h hm (i := 3) rfl, _, Sat.ld h hm (i := 4) rfl, ?_⟩
  exact hP w nb e _ h fun w k hR => ⟨_, _, _, _, _, _, rfl, hR⟩
/-- One takes the line, and leaves nothing of it. -/
theorem bl102_take {Xb : OA → Nat → WP} {b b1 : Nat} {p : PS} {M : List Chunk} {l : Ln} (i : Nat) (hi : i < newsF.length) (h : Sat σ w (p.at b :: M ++ (l.at b1 :: L))) (hd : ∀ j (hj : j < newsF.length), j < i → Decl b p M l newsF[j])
    (hP : ∀ w nb e (R' : Ending → World → Prop), Sat σ w (p.at b :: M ++ (l.at b1 :: (nb, cel newsC e) :: L)) →
      (∀ w L2, Sat σ w (l.at b1 :: L2) → (∀ w, Sat σ w L2 → R (.returned (.tuple #[])) w) → R' (.returned (.tuple #[Ln.zero.val, .bool true])) w) → callE P newsF[i] #[.pointer (some ⟨b, 0, none⟩), l.val] R' w) :
    g_parseState_addLine.bl102 R Xb (some ⟨b, 0, none⟩) b1 w := by
  have hi8 : i < 8 := hi
  refine news_ok h fun w nb e h => ⟨_, _, _, rfl, ?_⟩
  intro Y hY
  have h : Sat σ w (p.at b :: M ++ (l.at b1 :: (nb, cel newsC e) :: L)) := h.re (by intro _; simp only [List.append_eq, cnt_append, cnt_cons, cnt_nil] <;> omega)
  refine news_rounds hY i 0 w (by omega) (by omega) (fun j hj _ h2 => hd j hj h2) h fun w h => ?_
  refine hY _ _ _ _ _ _ _ _ (br_true (by simp; omega) ⟨by omega, by omega, ?_⟩)
  have hf := List.getElem?_eq_getElem hi
  refine nilP_some ?_
  simp only [Addr.add_lit, Nat.zero_add, Int.toNat_natCast, Nat.mul_one]
  have h : Sat σ w (l.at b1 :: (nb, cel newsC e) :: (p.at b :: (M ++ L))) := h.re (by intro _; simp only [List.append_eq, cnt_append, cnt_cons, cnt_nil] <;> omega)
  refine ⟨_, Sat.ld h (.tail _ (.head _)) (newsC_get hf), ?_⟩
  refine ⟨_, Sat.ld h (.head _) rfl, _, Sat.ld h (.head _) rfl, _, Sat.ld h (.head _) rfl, _, Sat.ld h (.head _) rfl, _, Sat.ld h (.head _) rfl, ?_⟩
  have h : Sat σ w (p.at b :: M ++ (l.at b1 :: (nb, cel newsC e) :: L)) := h.re (by intro _; simp only [List.append_eq, cnt_append, cnt_cons, cnt_nil] <;> omega)
  refine enter_fn ?_
  refine hP w nb e _ h fun w L2 h hR => ⟨_, _, _, _, _, _, rfl, ?_⟩
  refine Sat.bx h fun b85 w h => ?_
  refine Sat.st h (k := 0) rfl (Nat.le_of_ble_eq_true rfl) trivial (by first | (dsimp only [List.set]; exact rfl) | exact rfl) fun w h => ?_
  refine Sat.st h (k := 0) rfl (Nat.le_of_ble_eq_true rfl) trivial (by first | (dsimp only [List.set]; exact rfl) | exact rfl) fun w h => ?_
  refine Sat.st h (k := 0) rfl (Nat.le_of_ble_eq_true rfl) trivial (by first | (dsimp only [List.set]; exact rfl) | exact rfl) fun w h => ?_
  refine Sat.st h (k := 0) rfl (Nat.le_of_ble_eq_true rfl) trivial (by first | (dsimp only [List.set]; exact rfl) | exact rfl) fun w h => ?_
  refine Sat.st h (k := 0) rfl (Nat.le_of_ble_eq_true rfl) trivial (by first | (dsimp only [List.set]; exact rfl) | exact rfl) fun w h => ?_
  have h : Sat σ w (Ln.zero.at b85 :: l.at b1 :: L2) := h
  refine br_true rfl ?_
  refine ⟨_, Sat.ld h (by first | assumption | (repeat (first | exact .head _ | apply List.Mem.tail))) (by exact rfl), ?_⟩
  refine ⟨_, Sat.ld h (by first | assumption | (repeat (first | exact .head _ | apply List.Mem.tail))) (by exact rfl), ?_⟩
  refine ⟨_, Sat.ld h (by first | assumption | (repeat (first | exact .head _ | apply List.Mem.tail))) (by exact rfl), ?_⟩
  refine ⟨_, Sat.ld h (by first | assumption | (repeat (first | exact .head _ | apply List.Mem.tail))) (by exact rfl), ?_⟩
  refine ⟨_, Sat.ld h (by first | assumption | (repeat (first | exact .head _ | apply List.Mem.tail))) (by exact rfl), ?_⟩
  refine Sat.st h (k := 1) rfl (Nat.le_of_ble_eq_true rfl) trivial (by first | (dsimp only [List.set]; exact rfl) | exact rfl) fun w h => ?_
  refine Sat.st h (k := 1) rfl (Nat.le_of_ble_eq_true rfl) trivial (by first | (dsimp only [List.set]; exact rfl) | exact rfl) fun w h => ?_
  refine Sat.st h (k := 1) rfl (Nat.le_of_ble_eq_true rfl) trivial (by first | (dsimp only [List.set]; exact rfl) | exact rfl) fun w h => ?_
  refine Sat.st h (k := 1) rfl (Nat.le_of_ble_eq_true rfl) trivial (by first | (dsimp only [List.set]; exact rfl) | exact rfl) fun w h => ?_
  refine Sat.st h (k := 1) rfl (Nat.le_of_ble_eq_true rfl) trivial (by first | (dsimp only [List.set]; exact rfl) | exact rfl) fun w h => ?_
  have h : Sat σ w (Ln.zero.at b85 :: Ln.zero.at b1 :: L2) := h
  refine isBlank_ok (l := Ln.zero) h (.tail _ (.head _)) ⟨by decide, by decide, by decide, by decide⟩ fun w h => ⟨_, rfl, ?_⟩
  exact br_true rfl (hR _ h.tail.tail)
/-- The text of a line of a paragraph. -/
def Ln.rest (l : Ln) : List UInt8 := (l.text.drop l.i).dropWhile isST
/-- A line begins a paragraph. -/
theorem addLine_plain0 {b rb pb : Nat} {op : Opt} {p : PS} {D : List DB} {l : Ln} (h : DocS σ b rb L D .none p w) (hpz : p.pz = some ⟨pb, 0, none⟩) (hop : op.at pb ∈ L) (hl : l.plain) (hno : p.lineno < 1000000000)
    (hR : ∀ w p', p'.base = p.base → p'.lineno = p.lineno → DocS σ b rb L D (.para [l.rest]) p' w → R (.returned (.tuple #[])) w) :
    callE P i_parseState_addLine #[.pointer (some ⟨b, 0, none⟩), l.val] R w := by
  obtain ⟨r, obs, M, TM, IM, LM, hr, hs, ht, hI, ⟨rfl, rfl⟩, h⟩ := h
  have hm : op.at pb ∈ IM ++ (TM ++ ([] ++ (ownC D ++ ((txsC D).map TX.chunk ++ L)))) := by
    simp only [List.mem_append]; exact .inr (.inr (.inr (.inr (.inr hop))))
  refine addLine_para (op := op) h hs hpz hm hr (by decide) (by decide) hl fun w p' M' qb PM hp' hs' hPM h => ?_
  have e1 : p'.base = p.base := by rw [hp']; rfl
  have e2 : p'.lineno = p.lineno := by rw [hp']
  have e3 : p'.tq = p.tq := by rw [hp']
  have e4 : p'.tn = p.tn := by rw [hp']
  have e5 : p'.tc = p.tc := by rw [hp']
  have h : Sat σ w (p'.at b :: M' ++ (IM ++ (TM ++ (PM ++ (ownC D ++ ((txsC D).map TX.chunk ++ L)))))) := h.re (by intro _; simp only [List.append_eq, cnt_append, cnt_cons, cnt_nil] <;> omega)
  exact hR w p' e1 e2 ⟨r, _, M', TM, IM, PM, hr, hs', ht.of e3 e4 e5, hI, ⟨qb, p.lineno, p.lineno, rfl, hPM, hno, by simp, by simp⟩, h⟩
/-! ### A line that goes on with a paragraph -/
theorem trimSetext_no {b nb : Nat} {l : Ln} {v : Int} {e : TypeId} (h : Sat σ w (l.at b :: (nb, cel [.int .i64 v] e) :: L)) (hl : l.ok) (h1 : (l.lead 3 false).peek ≠ 45) (h2 : (l.lead 3 false).peek ≠ 61)
    (hR : ∀ w, Sat σ w (l.at b :: (nb, cel [.int .i64 v] e) :: L) → R (.returned (.bool false)) w) : callE P i_line_trimSetext #[.pointer (some ⟨b, 0, none⟩), .pointer (some ⟨nb, 0, none⟩)] R w := by
  refine g_line_trimSetext.sound ?_
  repeat (first | refine nilP_some ?_ | refine Sat.tk h fun w h => ?_ | refine ⟨_, Sat.ld h (by first | assumption | (repeat (first | exact .head _ | apply List.Mem.tail))) (by exact rfl), ?_⟩ | refine ⟨_, _, _, Sat.ld h (by first | assumption | (repeat (first | exact .head _ | apply List.Mem.tail))) (by exact rfl), ?_⟩ | refine Sat.st h (k := 0) rfl (Nat.le_of_ble_eq_true rfl) trivial (by first | (dsimp only [List.set]; exact rfl) | exact rfl) fun w h => ?_ | refine Sat.st h (k := 1) rfl (Nat.le_of_ble_eq_true rfl) trivial (by first | (dsimp only [List.set]; exact rfl) | exact rfl) fun w h => ?_ | refine Sat.st h (k := 2) rfl (Nat.le_of_ble_eq_true rfl) trivial (by first | (dsimp only [List.set]; exact rfl) | exact rfl) fun w h => ?_ | refine Sat.st h (k := 3) rfl (Nat.le_of_ble_eq_true rfl) trivial (by first | (dsimp only [List.set]; exact rfl) | exact rfl) fun w h => ?_ | refine Sat.st h (k := 4) rfl (Nat.le_of_ble_eq_true rfl) trivial (by first | (dsimp only [List.set]; exact rfl) | exact rfl) fun w h => ?_ | refine Sat.st h (k := 5) rfl (Nat.le_of_ble_eq_true rfl) trivial (by first | (dsimp only [List.set]; exact rfl) | exact rfl) fun w h => ?_ | refine Sat.st h (k := 6) rfl (Nat.le_of_ble_eq_true rfl) trivial (by first | (dsimp only [List.set]; exact rfl) | exact rfl) fun w h => ?_ | refine Sat.bx h fun b0 w h => ?_)
  have h : Sat σ _ (l.at b0 :: l.at b :: (nb, cel [.int .i64 v] e) :: L) := h
  refine lead_ok (max := 3) h hl (by decide) fun w h => ⟨_, rfl, ?_⟩
  refine peek_ok h (by first | assumption | (repeat (first | exact .head _ | apply List.Mem.tail))) (Ln.lead_ok hl) fun w h => ⟨_, rfl, ?_⟩
  rw [u8b _ 45 45 rfl, u8b _ 61 61 rfl]
  exact br_false (by simp [h1, h2]) (hR _ h.tail)
theorem eq_iface_same {t u e : TypeId} {i j : TypeInfo} {ms : Array (String × TypeId)} (hu : P.underlying t = some (.interface ms)) (hi : P.info? u = some i) (hc : i.comparable = true) (hp : P.underlying u = some (.pointer e)) (hj : P.info? e = some j) (hs : j.size ≠ 0) (b : Nat) (x y : Operand) (w : World) :
    (do eqGuard .eql t x y (.iface u (.pointer (some ⟨b, 0, none⟩))) (.iface u (.pointer (some ⟨b, 0, none⟩))); binOp .eql t (.iface u (.pointer (some ⟨b, 0, none⟩))) (.iface u (.pointer (some ⟨b, 0, none⟩)))).run P w = .ok (.bool true) w := by
  refine bin_eq rfl rfl ?_
  have h2 : ∀ d, (Op.equalIn (d + 1) u (.pointer (some ⟨b, 0, none⟩)) (.pointer (some ⟨b, 0, none⟩))).run P w = .ok true w := fun d => by
    simp [Op.equalIn, run_underlying hp, sizeOf, typeInfo, hj, hs, sameAddr]
  have h1 : ∀ d, (Op.equalIn (d + 2) t (.iface u (.pointer (some ⟨b, 0, none⟩))) (.iface u (.pointer (some ⟨b, 0, none⟩)))).run P w = .ok true w := fun d => by
    rw [Op.equalIn]
    simp [run_underlying hu, typeInfo, hi, hc, h2]
  exact h1 9998
theorem eq_para_same (b : Nat) (x y : Operand) (w : World) :
    (do eqGuard .eql ty_blockBuilder x y (.iface ty_P_paraBuilder (.pointer (some ⟨b, 0, none⟩))) (.iface ty_P_paraBuilder (.pointer (some ⟨b, 0, none⟩))); binOp .eql ty_blockBuilder (.iface ty_P_paraBuilder (.pointer (some ⟨b, 0, none⟩))) (.iface ty_P_paraBuilder (.pointer (some ⟨b, 0, none⟩)))).run P w = .ok (.bool true) w :=
  eq_iface_same und_bb (i := (P.info? ty_P_paraBuilder).getD default) (j := (P.info? ty_paraBuilder).getD default) (by kernel_rfl) (by kernel_rfl) und_para (by kernel_rfl) (by rw [show ((P.info? ty_paraBuilder).getD default).size = 2 by kernel_rfl]; decide) b x y w
/-- A line that goes on with a paragraph, and begins nothing else. -/
structure Ln.cont (l : Ln) : Prop where
  plain : l.plain
  lt : (l.lead 3 false).peek ≠ 60
  dash : (l.lead 3 false).peek ≠ 45
  eq : (l.lead 3 false).peek ≠ 61
theorem newSetext_para {b : Nat} {p : PS} {r : OB} {qb s e : Nat} {M : List Chunk} {l : Ln} (h : Sat σ w (p.at b :: M ++ L)) (hs : Stk p [r, paraOB qb s e] M) (hd : p.depth = 0) (hl : l.cont)
    (hR : ∀ w, Sat σ w (p.at b :: M ++ L) → R (.returned (.tuple #[l.val, .bool false])) w) : callE P i_newSetextHeading #[.pointer (some ⟨b, 0, none⟩), l.val] R w := by
  refine g_newSetextHeading.sound ?_
  refine Sat.bx h fun b1 w h => ?_
  refine Sat.bx h fun b3 w h => ?_
  refine Sat.bx h fun b5 w h => ?_
  repeat (first | refine nilP_some ?_ | refine Sat.tk h fun w h => ?_ | refine ⟨_, Sat.ld h (by first | assumption | (repeat (first | exact .head _ | apply List.Mem.tail))) (by exact rfl), ?_⟩ | refine ⟨_, _, _, Sat.ld h (by first | assumption | (repeat (first | exact .head _ | apply List.Mem.tail))) (by exact rfl), ?_⟩ | refine Sat.st h (k := 0) rfl (Nat.le_of_ble_eq_true rfl) trivial (by first | (dsimp only [List.set]; exact rfl) | exact rfl) fun w h => ?_ | refine Sat.st h (k := 1) rfl (Nat.le_of_ble_eq_true rfl) trivial (by first | (dsimp only [List.set]; exact rfl) | exact rfl) fun w h => ?_ | refine Sat.st h (k := 2) rfl (Nat.le_of_ble_eq_true rfl) trivial (by first | (dsimp only [List.set]; exact rfl) | exact rfl) fun w h => ?_ | refine Sat.st h (k := 3) rfl (Nat.le_of_ble_eq_true rfl) trivial (by first | (dsimp only [List.set]; exact rfl) | exact rfl) fun w h => ?_ | refine Sat.st h (k := 4) rfl (Nat.le_of_ble_eq_true rfl) trivial (by first | (dsimp only [List.set]; exact rfl) | exact rfl) fun w h => ?_ | refine Sat.st h (k := 5) rfl (Nat.le_of_ble_eq_true rfl) trivial (by first | (dsimp only [List.set]; exact rfl) | exact rfl) fun w h => ?_ | refine Sat.st h (k := 6) rfl (Nat.le_of_ble_eq_true rfl) trivial (by first | (dsimp only [List.set]; exact rfl) | exact rfl) fun w h => ?_ | refine Sat.bx h fun b0 w h => ?_)
  have h : Sat σ _ (l.at b0 :: (b5, cel [.int .i64 0] ty_int) :: zLn b3 :: l.at b1 :: (p.at b :: M ++ L)) := h
  have h : Sat σ _ (p.at b :: M ++ (l.at b0 :: (b5, cel [.int .i64 0] ty_int) :: zLn b3 :: l.at b1 :: L)) := h.re (by intro _; simp only [List.append_eq, cnt_append, cnt_cons, cnt_nil] <;> omega)
  refine nextB_ok (d := 0) h hs hd (by omega) fun w h => ?_
  refine ⟨_, rfl, ?_⟩
  refine top_ok (l := [r]) h hs (o := paraOB qb s e) rfl (fun w h => ?_) (fun _ => ⟨_, rfl⟩)
  rw [if_pos rfl]
  refine ⟨_, rfl, _, w, eq_para_same qb _ _ w, br_true rfl ?_⟩
  have h : Sat σ _ (l.at b0 :: (b5, cel [.int .i64 0] ty_int) :: (zLn b3 :: l.at b1 :: (p.at b :: M ++ L))) := h.re (by intro _; simp only [List.append_eq, cnt_append, cnt_cons, cnt_nil] <;> omega)
  refine trimSetext_no h hl.plain.ok hl.dash hl.eq fun w h => ⟨_, rfl, br_false rfl ?_⟩
  have h : Sat σ _ (zLn b3 :: l.at b1 :: (b5, cel [.int .i64 0] ty_int) :: l.at b0 :: (p.at b :: M ++ L)) := h.re (by intro _; simp only [List.append_eq, cnt_append, cnt_cons, cnt_nil] <;> omega)
  repeat (first | refine nilP_some ?_ | refine Sat.tk h fun w h => ?_ | refine ⟨_, Sat.ld h (by first | assumption | (repeat (first | exact .head _ | apply List.Mem.tail))) (by exact rfl), ?_⟩ | refine ⟨_, _, _, Sat.ld h (by first | assumption | (repeat (first | exact .head _ | apply List.Mem.tail))) (by exact rfl), ?_⟩ | refine Sat.st h (k := 0) rfl (Nat.le_of_ble_eq_true rfl) trivial (by first | (dsimp only [List.set]; exact rfl) | exact rfl) fun w h => ?_ | refine Sat.st h (k := 1) rfl (Nat.le_of_ble_eq_true rfl) trivial (by first | (dsimp only [List.set]; exact rfl) | exact rfl) fun w h => ?_ | refine Sat.st h (k := 2) rfl (Nat.le_of_ble_eq_true rfl) trivial (by first | (dsimp only [List.set]; exact rfl) | exact rfl) fun w h => ?_ | refine Sat.st h (k := 3) rfl (Nat.le_of_ble_eq_true rfl) trivial (by first | (dsimp only [List.set]; exact rfl) | exact rfl) fun w h => ?_ | refine Sat.st h (k := 4) rfl (Nat.le_of_ble_eq_true rfl) trivial (by first | (dsimp only [List.set]; exact rfl) | exact rfl) fun w h => ?_ | refine Sat.st h (k := 5) rfl (Nat.le_of_ble_eq_true rfl) trivial (by first | (dsimp only [List.set]; exact rfl) | exact rfl) fun w h => ?_ | refine Sat.st h (k := 6) rfl (Nat.le_of_ble_eq_true rfl) trivial (by first | (dsimp only [List.set]; exact rfl) | exact rfl) fun w h => ?_ | refine Sat.bx h fun b0 w h => ?_)
  have h : Sat σ _ (l.at b3 :: l.at b1 :: (b5, cel [.int .i64 0] ty_int) :: l.at b0 :: (p.at b :: M ++ L)) := h
  exact hR _ h.tail.tail.tail.tail
theorem decl_cont {b : Nat} {p : PS} {r : OB} {rb qb s e : Nat} {M : List Chunk} {l : Ln} (hs : Stk p [r, paraOB qb s e] M) (hr : r.bd = rootV rb) (hd : p.depth = 0) (hl : l.cont) : ∀ f ∈ newsF, Decl b p M l f := by
  intro f hf
  have hp := hl.plain
  simp only [newsF, List.mem_cons, List.not_mem_nil, or_false] at hf
  intro σ w L R h hR
  rcases hf with rfl | rfl | rfl | rfl | rfl | rfl | rfl | rfl
  · exact newQuote_no (x := .nilIface) h hp.ok hp.quote hR
  · exact newATX_no h hp.ok hp.heading hR
  · exact newSetext_para h hs hd hl hR
  · exact newHR_no h hp.ok hp.hr hR
  · exact hp.bullet b 0 p [r, paraOB qb s e] r M ty_P_rootBuilder _ hs hd rfl hr (by decide) σ w L R h hR
  · exact newHTML_no h hp.ok hl.lt hR
  · exact newFence_no h hp.ok hp.fence hR
  · exact newPre_no (ob := [r]) h hs (o := paraOB qb s e) rfl (fun _ => ⟨_, rfl⟩) hp.ok hp.pre hR
end Go.Proofs.YtmicoampfglaiaaGreatDoor


/- Documents of many lines: a paragraph goes on. -/
set_option linter.unusedVariables false
namespace Go.Proofs.YtmicoampfglaiaaGreatDoor
open Go.Proofs Go.IntWalk Go.RowKit
variable {σ : Out} {w : World} {L L' : List Chunk} {R : Ending → World → Prop}
theorem newPara_cont {b pb qb s e : Nat} {op : Opt} {p : PS} {r : OB} {M PM : List Chunk} {ls : List (List UInt8)} {l : Ln} (h : Sat σ w (p.at b :: M ++ (PM ++ L))) (hs : Stk p [r, paraOB qb s e] M) (hd : p.depth = 0) (hpz : p.pz = some ⟨pb, 0, none⟩) (hop : op.at pb ∈ L) (hno : op.table = false)
    (hp : ParaAt qb ls PM) (hls : ls.length < 1048570) (hl : l.ok)
    (hR : ∀ w r' e' M' PM', r'.bd = r.bd → r'.q = r.q → r'.n = r.n → r'.c = r.c → Stk p [r', paraOB qb s e'] M' → ParaAt qb (ls ++ [l.rest]) PM' → Sat σ w (p.at b :: M' ++ (PM' ++ L)) → R (.returned (.tuple #[Ln.zero.val, .bool true])) w) :
    callE P i_newPara #[.pointer (some ⟨b, 0, none⟩), l.val] R w := by
  have hn : p.stn = 2 := hs.2.1
  obtain ⟨sb, sp, hq, rfl, hsp⟩ := hs.split (by simp)
  have hp0 := hp
  obtain ⟨q, c, TM, hS, rfl⟩ := hp
  refine g_newPara.sound ?_
  refine Sat.bx h fun b1 w h => ?_
  refine Sat.bx h fun b3 w h => ?_
  have h : Sat σ w (zLn b3 :: l.at b1 :: (p.at b :: [(sb, cel (obCells [r, paraOB qb s e] ++ sp) ty_openBlock)] ++ (((qb, cel [.slice q ls.length c, .pointer none] ty_paraBuilder) :: TM) ++ L))) := h
  have h : Sat σ w (p.at b :: [(sb, cel (obCells [r, paraOB qb s e] ++ sp) ty_openBlock)] ++ (zLn b3 :: l.at b1 :: (((qb, cel [.slice q ls.length c, .pointer none] ty_paraBuilder) :: TM) ++ L))) := h.re (by intro _; simp only [List.append_eq, cnt_append, cnt_cons, cnt_nil] <;> omega)
  refine top_ok (l := [r]) h hs (o := paraOB qb s e) rfl (fun w h => ?_) (fun _ => ⟨_, rfl⟩)
  rw [if_pos rfl]
  refine ⟨_, rfl, ?_⟩
  repeat (first | refine nilP_some ?_ | refine Sat.tk h fun w h => ?_ | refine ⟨_, Sat.ld h (by first | assumption | (repeat (first | exact .head _ | apply List.Mem.tail))) (by exact rfl), ?_⟩ | refine ⟨_, _, _, Sat.ld h (by first | assumption | (repeat (first | exact .head _ | apply List.Mem.tail))) (by exact rfl), ?_⟩)
  have hm : l.at b1 ∈ p.at b :: [(sb, cel (obCells [r, paraOB qb s e] ++ sp) ty_openBlock)] ++ (zLn b3 :: l.at b1 :: (((qb, cel [.slice q ls.length c, .pointer none] ty_paraBuilder) :: TM) ++ L)) := by simp
  refine trimSpaceString_ok h hm hl fun w h => ⟨_, rfl, ?_⟩
  rw [show (l.text.drop l.i).dropWhile isST = l.rest from rfl]
  refine ⟨_, w, ne_ptr_nil und_para _ _ _ w, br_true rfl (nilP_some ?_)⟩
  simp only [Addr.add_lit, Nat.zero_add]
  have hmq : (qb, cel [.slice q ls.length c, .pointer none] ty_paraBuilder) ∈ p.at b :: [(sb, cel (obCells [r, paraOB qb s e] ++ sp) ty_openBlock)] ++ (zLn b3 :: l.at b1 :: (((qb, cel [.slice q ls.length c, .pointer none] ty_paraBuilder) :: TM) ++ L)) := by simp
  refine ⟨_, Sat.ld h hmq rfl, _, w, ne_ptr_nil und_table _ _ _ w, br_false rfl ?_⟩
  unfold g_newPara.k3
  refine Sat.tk h fun w h => ?_
  refine nilP_some ⟨_, Sat.ld h (.head _) rfl, ?_⟩
  rw [hpz]
  refine nilP_some ?_
  simp only [Addr.add_lit, Nat.zero_add]
  have hmo : op.at pb ∈ p.at b :: [(sb, cel (obCells [r, paraOB qb s e] ++ sp) ty_openBlock)] ++ (zLn b3 :: l.at b1 :: (((qb, cel [.slice q ls.length c, .pointer none] ty_paraBuilder) :: TM) ++ L)) := by simp [hop]
  refine ⟨op.table, Sat.ld h hmo rfl, br_false hno ?_⟩
  unfold g_newPara.k4
  refine br_false rfl ⟨_, w, ne_ptr_nil und_para _ _ _ w, br_true rfl (nilP_some ?_)⟩
  simp only [Addr.add_lit, Nat.zero_add]
  refine ⟨_, Sat.ld h (.head _) rfl, ?_⟩
  rw [hd]
  intro X hX
  have h : Sat σ w (p.at b :: (sb, cel (obCells [r, paraOB qb s e] ++ sp) ty_openBlock) :: (zLn b3 :: l.at b1 :: (((qb, cel [.slice q ls.length c, .pointer none] ty_paraBuilder) :: TM) ++ L))) := h
  have hlen : ∀ o o' : OB, (obCells [o, o'] ++ sp).length = 8 + sp.length := by intro o o'; rw [List.length_append, obCells_length]; rfl
  -- the root's end
  refine hX _ _ _ _ _ _ (nilP_some ?_)
  refine ⟨_, _, _, Sat.ld h (by first | assumption | (repeat (first | exact .head _ | apply List.Mem.tail))) (by exact rfl), ?_⟩
  rw [hn]
  refine br_true rfl ?_
  refine Sat.tk h fun w h => ?_
  refine nilP_some (nilP_some ?_)
  refine ⟨_, _, _, Sat.ld h (by first | assumption | (repeat (first | exact .head _ | apply List.Mem.tail))) (by exact rfl), ?_⟩
  refine ⟨_, Sat.ld h (by first | assumption | (repeat (first | exact .head _ | apply List.Mem.tail))) (by exact rfl), ?_⟩
  rw [hn, hq]
  refine ⟨by decide, by decide, nilP_some ?_⟩
  simp only [Addr.add_lit, Nat.zero_add]
  refine Sat.st h (k := 1) rfl (by rw [hlen]; show 3 < _; omega) trivial rfl fun w h => ?_
  have h : Sat σ w (p.at b :: (sb, cel (obCells [{ r with e := p.lineno }, paraOB qb s e] ++ sp) ty_openBlock) :: (zLn b3 :: l.at b1 :: (((qb, cel [.slice q ls.length c, .pointer none] ty_paraBuilder) :: TM) ++ L))) := h
  -- the paragraph's
  refine hX _ _ _ _ _ _ (nilP_some ?_)
  refine ⟨_, _, _, Sat.ld h (by first | assumption | (repeat (first | exact .head _ | apply List.Mem.tail))) (by exact rfl), ?_⟩
  rw [hn, show IntKind.i64.wrap (0 + 1) = 1 from rfl]
  refine br_true rfl ?_
  refine Sat.tk h fun w h => ?_
  refine nilP_some (nilP_some ?_)
  refine ⟨_, _, _, Sat.ld h (by first | assumption | (repeat (first | exact .head _ | apply List.Mem.tail))) (by exact rfl), ?_⟩
  refine ⟨_, Sat.ld h (by first | assumption | (repeat (first | exact .head _ | apply List.Mem.tail))) (by exact rfl), ?_⟩
  rw [hn, hq]
  refine ⟨by decide, by decide, nilP_some ?_⟩
  simp only [Addr.add_lit, Nat.zero_add]
  refine Sat.st h (k := 1) rfl (by rw [hlen]; show 7 < _; omega) trivial rfl fun w h => ?_
  have h : Sat σ w (p.at b :: (sb, cel (obCells [{ r with e := p.lineno }, paraOB qb s p.lineno] ++ sp) ty_openBlock) :: (zLn b3 :: l.at b1 :: (((qb, cel [.slice q ls.length c, .pointer none] ty_paraBuilder) :: TM) ++ L))) := h
  refine hX _ _ _ _ _ _ (nilP_some ?_)
  refine ⟨_, _, _, Sat.ld h (by first | assumption | (repeat (first | exact .head _ | apply List.Mem.tail))) (by exact rfl), ?_⟩
  rw [hn, show IntKind.i64.wrap (1 + 1) = 2 from rfl]
  refine br_false rfl ?_
  have h : Sat σ w (zLn b3 :: ((qb, cel [.slice q ls.length c, .pointer none] ty_paraBuilder) :: TM) ++ (p.at b :: (sb, cel (obCells [{ r with e := p.lineno }, paraOB qb s p.lineno] ++ sp) ty_openBlock) :: (l.at b1 :: L))) := h.re (by intro _; simp only [List.append_eq, cnt_append, cnt_cons, cnt_nil] <;> omega)
  refine para_append h hp0 (by omega) fun w PM' hp' h => ?_
  refine hR w { r with e := p.lineno } p.lineno [(sb, cel (obCells [{ r with e := p.lineno }, paraOB qb s p.lineno] ++ sp) ty_openBlock)] PM' rfl rfl rfl rfl (Stk.mk' hq ?_ (by rw [hn]; rfl) (by simp)) hp' (h.less [l.at b1] (by intro _; simp only [List.append_eq, cnt_append, cnt_cons, cnt_nil] <;> omega))
  rw [← hsp, hlen, hlen]
/-- A line goes on with a paragraph. -/
theorem addLine_cont {b rb pb : Nat} {op : Opt} {p : PS} {D : List DB} {ls : List (List UInt8)} {l : Ln} (h : DocS σ b rb L D (.para ls) p w) (hpz : p.pz = some ⟨pb, 0, none⟩) (hop : op.at pb ∈ L) (hno : op.table = false) (hl : l.cont) (hls : ls.length < 1048569)
    (hR : ∀ w p', p'.base = p.base → p'.lineno = p.lineno → DocS σ b rb L D (.para (ls ++ [l.rest])) p' w → R (.returned (.tuple #[])) w) :
    callE P i_parseState_addLine #[.pointer (some ⟨b, 0, none⟩), l.val] R w := by
  refine addLine_open h hl.plain.ok fun w b1 b2 p1 hp1 h => ?_
  unfold g_parseState_addLine.k2
  obtain ⟨r, obs, M, TM, IM, LM, hr, hs, ht, hI, ⟨qb, s, e, rfl, hp, hs1, hne, hln⟩, h⟩ := h
  refine isBlank_ok h (by simp) hl.plain.ok fun w h => ⟨_, rfl, ?_⟩
  rw [hl.plain.blank]
  refine br_false rfl ?_
  have hd1 : p1.depth = 0 := by rw [hp1]
  have hpz1 : p1.pz = some ⟨pb, 0, none⟩ := by rw [hp1]; exact hpz
  have h : Sat σ w (p1.at b :: M ++ (l.at b1 :: (IM ++ (TM ++ (LM ++ (ownC D ++ ((txsC D).map TX.chunk ++ (l.at b2 :: L)))))))) := h.re (by intro _; simp only [List.append_eq, cnt_append, cnt_cons, cnt_nil] <;> omega)
  refine bl102_decl h (decl_cont hs hr hd1 hl) fun w nb et R' h hR' => ?_
  have h : Sat σ w (p1.at b :: M ++ (LM ++ (l.at b1 :: (nb, cel newsC et) :: (IM ++ (TM ++ (ownC D ++ ((txsC D).map TX.chunk ++ (l.at b2 :: L)))))))) := h.re (by intro _; simp only [List.append_eq, cnt_append, cnt_cons, cnt_nil] <;> omega)
  have hm : op.at pb ∈ l.at b1 :: (nb, cel newsC et) :: (IM ++ (TM ++ (ownC D ++ ((txsC D).map TX.chunk ++ (l.at b2 :: L))))) := by simp [hop]
  refine newPara_cont h hs hd1 hpz1 hm hno hp hln hl.plain.ok fun w r' e' M' PM' a1 a2 a3 a4 hs' hp' h => hR' w true ?_
  have e1 : p1.base = p.base := by rw [hp1]; rfl
  have e2 : p1.lineno = p.lineno := by rw [hp1]
  refine hR w p1 e1 e2 ⟨r', _, M', TM, IM, PM', by rw [a1]; exact hr, hs', ht, by rw [a2, a3, a4]; exact hI, ⟨qb, s, e', rfl, hp', hs1, by simp, by simp; omega⟩, ?_⟩
  exact h.less [l.at b1, (nb, cel newsC et), l.at b2] (by intro _; simp only [List.append_eq, cnt_append, cnt_cons, cnt_nil] <;> omega)
end Go.Proofs.YtmicoampfglaiaaGreatDoor


/- Documents of many lines: the texts get their inlines; the document prints itself. -/
set_option linter.unusedVariables false
namespace Go.Proofs.YtmicoampfglaiaaGreatDoor
open Go.Proofs Go.IntWalk Go.RowKit
variable {σ : Out} {w : World} {L L' : List Chunk} {R : Ending → World → Prop}
/-- The inlines of a text, as they lie in memory, and what they print. -/
structure TF where
  q : Option Addr
  n : Nat
  c : Nat
  vs : List Value
  RM : List Chunk
  KM : List Chunk
  KM' : List Chunk
  f : List UInt8 → List UInt8
def TF.ok (t : TF) : Prop := Sl 1 ty_Inline t.q t.n t.c t.vs t.RM ∧ t.n < 1073741824 ∧ PrintsL "PrintHTML" t.vs t.KM t.KM' t.f
def fill (x : TX) (t : TF) : List Chunk := textC x.t x.s x.e t.q t.n t.c x.raw :: (t.RM ++ t.KM)
def fill' (x : TX) (t : TF) : List Chunk := textC x.t x.s x.e t.q t.n t.c x.raw :: (t.RM ++ t.KM')
def fills : List TX → List TF → List Chunk
  | x :: xs, t :: ts => fill x t ++ fills xs ts
  | _, _ => []
def fills' : List TX → List TF → List Chunk
  | x :: xs, t :: ts => fill' x t ++ fills' xs ts
  | _, _ => []
/-- The texts xs have the inlines ts, which print as F says. -/
inductive Filled (F : List UInt8 → List UInt8 → List UInt8) : List TX → List TF → Prop where
  | nil : Filled F [] []
  | cons {x : TX} {t : TF} {xs : List TX} {ts : List TF} : t.ok → t.f = F x.raw → Filled F xs ts → Filled F (x :: xs) (t :: ts)
theorem Filled.split {F : List UInt8 → List UInt8 → List UInt8} : ∀ {xs ys : List TX} {ts : List TF}, Filled F (xs ++ ys) ts → ∃ ts1 ts2, ts = ts1 ++ ts2 ∧ Filled F xs ts1 ∧ Filled F ys ts2
  | [], ys, ts, h => ⟨[], ts, rfl, .nil, h⟩
  | x :: xs, ys, ts, h => by
    cases h with
    | cons h1 h2 h3 =>
      obtain ⟨ts1, ts2, rfl, h4, h5⟩ := h3.split
      exact ⟨_ :: ts1, ts2, rfl, .cons h1 h2 h4, h5⟩
theorem Filled.append {F : List UInt8 → List UInt8 → List UInt8} {xs ys : List TX} {ts us : List TF} (h1 : Filled F xs ts) (h2 : Filled F ys us) : Filled F (xs ++ ys) (ts ++ us) := by
  induction h1 with
  | nil => exact h2
  | cons a b _ ih => exact .cons a b ih
theorem fills_append {F : List UInt8 → List UInt8 → List UInt8} : ∀ {xs ys : List TX} {ts us : List TF}, Filled F xs ts → fills (xs ++ ys) (ts ++ us) = fills xs ts ++ fills ys us
  | _, _, _, _, .nil => rfl
  | _, _, _, _, .cons h1 h2 h3 => by simp only [List.cons_append, fills, List.append_assoc]; rw [fills_append h3]
/-- The block d prints itself by g, whatever the memory of its inlines. -/
def DB.shows (F : List UInt8 → List UInt8 → List UInt8) (d : DB) (g : List UInt8 → List UInt8) : Prop :=
  ∀ ts, Filled F d.txs ts → Prints "PrintHTML" d.v (d.own ++ fills d.txs ts) (d.own ++ fills' d.txs ts) g
inductive Show (F : List UInt8 → List UInt8 → List UInt8) : List DB → List (List UInt8 → List UInt8) → Prop where
  | nil : Show F [] []
  | cons {d : DB} {g : List UInt8 → List UInt8} {D : List DB} {gs : List (List UInt8 → List UInt8)} : d.shows F g → Show F D gs → Show F (d :: D) (g :: gs)
theorem Show.append {F : List UInt8 → List UInt8 → List UInt8} {D E : List DB} {gs hs : List (List UInt8 → List UInt8)} (h1 : Show F D gs) (h2 : Show F E hs) : Show F (D ++ E) (gs ++ hs) := by
  induction h1 with
  | nil => exact h2
  | cons h _ ih => exact .cons h ih
def compL : List (List UInt8 → List UInt8) → List UInt8 → List UInt8
  | [], l => l
  | g :: gs, l => compL gs (g l)
theorem docs_print {F : List UInt8 → List UInt8 → List UInt8} {D : List DB} {gs : List (List UInt8 → List UInt8)} (h : Show F D gs) : ∀ ts, Filled F (txsC D) ts →
    ∃ KM KM', PrintsL "PrintHTML" (D.map DB.v) KM KM' (compL gs) ∧ (∀ a, cnt a (ownC D ++ fills (txsC D) ts) = cnt a KM) := by
  induction h with
  | nil => intro ts ht; cases ht; exact ⟨[], [], .nil, fun a => rfl⟩
  | @cons d g D gs h1 h2 ih =>
    intro ts ht
    have e : txsC (d :: D) = d.txs ++ txsC D := by simp [txsC]
    rw [e] at ht ⊢
    obtain ⟨ts1, ts2, rfl, h3, h4⟩ := ht.split
    obtain ⟨KM, KM', h5, h6⟩ := ih ts2 h4
    refine ⟨_, _, .cons (h1 ts1 h3) h5, fun a => ?_⟩
    have := h6 a
    rw [fills_append h3, show ownC (d :: D) = d.own ++ ownC D by simp [ownC]]
    simp only [cnt_append] at this ⊢
    omega
/-- The loop over the texts. -/
theorem texts_ok {b pb : Nat} {op : Opt} {F : List UInt8 → List UInt8 → List UInt8} {p : PS} {xs : List TX} {TM : List Chunk} (h : Sat σ w (p.at b :: (TM ++ (xs.map TX.chunk ++ L)))) (ht : Txts p (xs.map TX.t) TM) (hpz : p.pz = some ⟨pb, 0, none⟩) (ho : op.at pb ∈ L) (hlk : p.links = none)
    (hLL : p.Lq = none ∧ p.Ln = 0 ∧ p.Lc = 0) (hI : ∀ x ∈ xs, InlineOK op x.raw (F x.raw))
    (hR : ∀ w (p' : PS) ts, p'.coreS = p.coreS → Filled F xs ts → Sat σ w (p'.at b :: (TM ++ (fills xs ts ++ L))) → g_Parser_parse.k4 R b w) :
    g_Parser_parse.l2 R (some ⟨pb, 0, none⟩) b p.tq p.tn p.tc (p.tn : Nat) 0 w := by
  have hn : p.tn = xs.length := by rw [ht.2.1, List.length_map]
  have hx : xs.length < 1048576 := by have := ht.2.2; rwa [List.length_map] at this
  intro Y hY
  have h00 := h
  clear h
  have key : ∀ (xs2 xs1 : List TX) ts1 w (p1 : PS), xs1 ++ xs2 = xs → p1.coreS = p.coreS → Filled F xs1 ts1 → Sat σ w (p1.at b :: (TM ++ (fills xs1 ts1 ++ (xs2.map TX.chunk ++ L)))) → Y (some ⟨pb, 0, none⟩) b p.tq p.tn p.tc (p.tn : Nat) (xs1.length : Nat) w := by
    intro xs2
    induction xs2 with
    | nil =>
      intro xs1 ts1 w p1 hxs hp1 hf h
      rw [List.append_nil] at hxs
      subst hxs
      have e1 : p1.Lq = none := by have := congrArg PS.Lq hp1; rw [show p1.Lq = p.Lq from this]; exact hLL.1
      have e2 : p1.Ln = 0 := by have := congrArg PS.Ln hp1; rw [show p1.Ln = p.Ln from this]; exact hLL.2.1
      have e3 : p1.Lc = 0 := by have := congrArg PS.Lc hp1; rw [show p1.Lc = p.Lc from this]; exact hLL.2.2
      have h : Sat σ w (p1.at b :: (TM ++ (fills xs1 ts1 ++ L))) := h
      have hm : op.at pb ∈ p1.at b :: (TM ++ (fills xs1 ts1 ++ L)) := by simp [ho]
      have fin : g_Parser_parse.k4 R b w := hR w p1 ts1 hp1 hf h
      refine hY _ _ _ _ _ _ _ _ (br_false (by simp; omega) (nilP_some ?_))
      simp only [Addr.add_lit, Nat.zero_add]
      refine ⟨op.task, Sat.ld h hm rfl, br_split (fun _ => ?_) (fun _ => fin)⟩
      refine ⟨_, _, _, Sat.ld h (.head _) (i := 10) rfl, ?_⟩
      rw [e1, e2, e3]
      intro Z hZ
      exact hZ _ _ _ _ _ _ _ (br_false rfl fin)
    | cons x xs2 ih =>
      intro xs1 ts1 w p1 hxs hp1 hf h
      have hlt : xs1.length < xs.length := by rw [← hxs]; simp
      obtain ⟨rb, sp, htq, rfl⟩ := ht.1.rowAt (by omega)
      refine hY _ _ _ _ _ _ _ _ (br_true (by simp; omega) ⟨by omega, by omega, ?_⟩)
      rw [htq]
      refine nilP_some ?_
      simp only [Addr.add_lit, Nat.zero_add, Int.toNat_natCast, Nat.mul_one]
      have hget : ((xs.map TX.t).map (fun t => Value.pointer (some ⟨t, 0, none⟩)) ++ sp)[xs1.length]? = some (.pointer (some ⟨x.t, 0, none⟩)) := by
        rw [List.getElem?_append_left (by simp; omega), ← hxs]; simp
      refine ⟨_, Sat.ld h (.tail _ (.head _)) hget, nilP_some ?_⟩
      simp only [Addr.add_lit, Nat.zero_add]
      have h : Sat σ w (p1.at b :: (x.chunk :: ([(rb, cel ((xs.map TX.t).map (fun t => Value.pointer (some ⟨t, 0, none⟩)) ++ sp) ty_P_Text)] ++ (fills xs1 ts1 ++ (xs2.map TX.chunk ++ L))))) := by
        rw [List.map_cons] at h
        exact h.re (by intro _; simp only [List.append_eq, cnt_append, cnt_cons, cnt_nil] <;> omega)
      refine ⟨_, Sat.ld h (.tail _ (.head _)) (i := 3) rfl, ?_⟩
      have hc : p1.pz = some ⟨pb, 0, none⟩ := by have := congrArg PS.pz hp1; rw [show p1.pz = p.pz from this]; exact hpz
      have hk : p1.links = none := by have := congrArg PS.links hp1; rw [show p1.links = p.links from this]; exact hlk
      refine hI x (by rw [← hxs]; simp) σ _ b pb p1 _ w h hc (by simp [ho]) hk fun w p2 q n c vs RM KM KM' hp2 hS hn2 hP h => ⟨_, _, _, rfl, nilP_some ?_⟩
      have h : Sat σ w (textC x.t x.s x.e none 0 0 x.raw :: (p2.at b :: (RM ++ (KM ++ ([(rb, cel ((xs.map TX.t).map (fun t => Value.pointer (some ⟨t, 0, none⟩)) ++ sp) ty_P_Text)] ++ (fills xs1 ts1 ++ (xs2.map TX.chunk ++ L))))))) := by
        have h : Sat σ w (p2.at b :: (RM ++ (KM ++ (textC x.t x.s x.e none 0 0 x.raw :: ([(rb, cel ((xs.map TX.t).map (fun t => Value.pointer (some ⟨t, 0, none⟩)) ++ sp) ty_P_Text)] ++ (fills xs1 ts1 ++ (xs2.map TX.chunk ++ L))))))) := h
        exact h.re (by intro _; simp only [List.append_eq, cnt_append, cnt_cons, cnt_nil] <;> omega)
      refine Sat.st h (k := 0) rfl (Nat.le_of_ble_eq_true rfl) trivial (by first | (dsimp only [List.set]; exact rfl) | exact rfl) fun w h => ?_
      have h : Sat σ w (textC x.t x.s x.e q n c x.raw :: (p2.at b :: (RM ++ (KM ++ ([(rb, cel ((xs.map TX.t).map (fun t => Value.pointer (some ⟨t, 0, none⟩)) ++ sp) ty_P_Text)] ++ (fills xs1 ts1 ++ (xs2.map TX.chunk ++ L))))))) := h
      rw [i64_inc (by omega)]
      have hf2 : Filled F (xs1 ++ [x]) (ts1 ++ [⟨q, n, c, vs, RM, KM, KM', F x.raw⟩]) := hf.append (.cons ⟨hS, hn2, hP⟩ rfl .nil)
      have := ih (xs1 ++ [x]) _ w p2 (by rw [← hxs]; simp) (hp2.trans hp1) hf2 ?_
      · rw [List.length_append, List.length_singleton, htq] at this; exact this
      · rw [fills_append hf]
        show Sat σ w (p2.at b :: ([(rb, cel ((xs.map TX.t).map (fun t => Value.pointer (some ⟨t, 0, none⟩)) ++ sp) ty_P_Text)] ++ ((fills xs1 ts1 ++ ((textC x.t x.s x.e q n c x.raw :: (RM ++ KM)) ++ [])) ++ (xs2.map TX.chunk ++ L))))
        exact h.re (by intro _; simp only [List.append_eq, cnt_append, cnt_cons, cnt_nil] <;> omega)
  exact key xs [] [] w p rfl rfl .nil h00
/-- All is closed. -/
theorem finishDoc_ok {b rb : Nat} {p : PS} {D : List DB} {lf : Leaf} (h : DocS σ b rb L D lf p w) (hf : lf.fin) (hD : D.length < 100000) (hX : (txsC D).length < 100000)
    (hR : ∀ w (p' : PS) D' db IM TM q n c s e, p'.base = { p.base with root := some ⟨db, 0, none⟩ } → LeafClosed lf D D' → Txts p' ((txsC D').map TX.t) TM → Sl 1 ty_Block q n c (D'.map DB.v) IM → n < 1000000 →
      Sat σ w (p'.at b :: (TM ++ ((txsC D').map TX.chunk ++ (docC db s e q n c p.links :: (IM ++ (ownC D' ++ L)))))) → R (.returned (.tuple #[])) w) :
    callE P i_parseState_trimStack #[.pointer (some ⟨b, 0, none⟩), .int .i64 0] R w := by
  refine g_parseState_trimStack.sound ?_
  have root : ∀ {X : OA → Int → WP} {w} {p1 : PS} {D'}, (∀ x0 x1 w, g_parseState_trimStack.bl1 R X x0 x1 w → X x0 x1 w) → p1.base = p.base → LeafClosed lf D D' → DocS σ b rb L D' .none p1 w → X (some ⟨b, 0, none⟩) 0 w := by
    intro X w p1 D' hX' hb hcl h
    obtain ⟨r, obs, M, TM, IM, LM, hr, hs, ht, hI, ⟨rfl, rfl⟩, h⟩ := h
    have hn : p1.stn = 1 := hs.2.1
    have hlk : p1.links = p.links := by have := congrArg PS.links hb; exact this
    refine hX' _ _ _ (nilP_some ?_)
    refine ⟨_, _, _, Sat.ld h (by first | assumption | (repeat (first | exact .head _ | apply List.Mem.tail))) (by exact rfl), ?_⟩
    rw [hn]
    refine br_true rfl ?_
    refine closeRoot_ok h hs hr fun w db h => ⟨_, rfl, hX' _ _ _ (nilP_some ?_)⟩
    refine ⟨_, _, _, Sat.ld h (by first | assumption | (repeat (first | exact .head _ | apply List.Mem.tail))) (by exact rfl), ?_⟩
    refine br_false rfl ?_
    have hIl := hI.1
    simp only [List.length_map, Nat.mul_one] at hIl
    have hDl : D'.length < 1000000 := by
      cases lf with
      | none => rw [show D' = D from hcl]; omega
      | para ls => obtain ⟨nb, t, s, e, rfl⟩ := hcl; simp; omega
    refine hR w { p1 with stn := 0, root := some ⟨db, 0, none⟩ } D' db IM TM r.q r.n r.c r.s r.e ?_ hcl (ht.of rfl rfl rfl) hI (by omega) ?_
    · have e : ({ p1 with stn := 0, root := some ⟨db, 0, none⟩ } : PS).base = { p1.base with root := some ⟨db, 0, none⟩ } := rfl
      rw [e, hb]
    · rw [← hlk]
      have h : Sat σ w (({ p1 with stn := 0, root := some ⟨db, 0, none⟩ } : PS).at b :: M ++ (docC db r.s r.e r.q r.n r.c p1.links :: (IM ++ (TM ++ ([] ++ (ownC D' ++ ((txsC D').map TX.chunk ++ L))))))) := h
      exact h.less M (by intro _; simp only [List.append_eq, cnt_append, cnt_cons, cnt_nil] <;> omega)
  have h0 := h
  obtain ⟨r, obs, M, TM, IM, LM, hr, hs, ht, hI, hL, h⟩ := h
  refine nilP_some ?_
  refine ⟨_, _, _, Sat.ld h (by first | assumption | (repeat (first | exact .head _ | apply List.Mem.tail))) (by exact rfl), ?_⟩
  refine br_false (by simp) ?_
  intro X hX'
  cases lf with
  | none => exact root hX' rfl rfl h0
  | para ls =>
    obtain ⟨qb, s, e, rfl, hp, hs1, hne, hln⟩ := hL
    have hn : p.stn = 2 := hs.2.1
    refine hX' _ _ _ (nilP_some ?_)
    refine ⟨_, _, _, Sat.ld h (by first | assumption | (repeat (first | exact .head _ | apply List.Mem.tail))) (by exact rfl), ?_⟩
    rw [hn]
    refine br_true rfl ?_
    exact closeLeaf_ok h0 hf hD hX fun w p' D' x h1 h2 h3 h4 h5 h => ⟨_, rfl, root hX' h1 h5 h⟩
end Go.Proofs.YtmicoampfglaiaaGreatDoor


/- Documents of many lines: parse. -/
set_option linter.unusedVariables false
namespace Go.Proofs.YtmicoampfglaiaaGreatDoor
open Go.Proofs Go.IntWalk Go.RowKit
variable {σ : Out} {w : World} {L L' : List Chunk} {R : Ending → World → Prop}
def noNL (l : List UInt8) : Prop := 10 ∉ l ∧ 13 ∉ l
/-- The lines of a text, and the byte that ends each of them. -/
inductive LinesOf : List UInt8 → List (List UInt8 × UInt8) → Prop where
  | nil : LinesOf [] []
  | last {l : List UInt8} : l ≠ [] → noNL l → LinesOf l [(l, 0)]
  | cons {l t : List UInt8} {ls : List (List UInt8 × UInt8)} : noNL l → LinesOf t ls → LinesOf (l ++ 10 :: t) ((l, 10) :: ls)
theorem LinesOf.no13 {t : List UInt8} {ls : List (List UInt8 × UInt8)} (h : LinesOf t ls) : 13 ∉ t := by
  induction h with
  | nil => simp
  | last h1 h2 => exact h2.2
  | cons h1 h2 ih =>
    simp only [List.mem_append, List.mem_cons, not_or]
    exact ⟨h1.2, by decide, ih⟩
theorem LinesOf.len {t : List UInt8} {ls : List (List UInt8 × UInt8)} (h : LinesOf t ls) : ls.length ≤ t.length := by
  induction h with
  | nil => simp
  | last h1 h2 => have := List.length_pos_iff.2 h1; simp; omega
  | cons h1 h2 ih => simp; omega
theorem findSub_first {A B : List UInt8} {c : UInt8} (hc : c ∉ A) : ∀ (k i : Nat), i + k = A.length → ∀ f, k < f → findSub [c] (A ++ c :: B) f i = some A.length
  | 0, i, hi, f + 1, _ => by
    obtain rfl : i = A.length := by omega
    simp only [findSub, List.length_singleton]
    rw [if_pos (by simp), List.drop_left, if_pos (by simp)]
  | k + 1, i, hi, f + 1, hf => by
    simp only [findSub, List.length_singleton]
    rw [if_pos (by simp; omega), if_neg]
    · exact findSub_first hc k (i + 1) (by omega) f (by omega)
    · intro he
      have hil : i < A.length := by omega
      rw [List.drop_append_of_le_length (by omega), List.drop_eq_getElem_cons hil, List.cons_append, List.take_succ_cons, List.take_zero] at he
      have he2 : A[i] = c := (List.cons.inj he).1
      exact hc (he2 ▸ List.getElem_mem hil)
theorem idx_first {A B : List UInt8} {c : UInt8} (hc : c ∉ A) : idx (A ++ c :: B) [c] = some A.length := by
  unfold idx
  exact findSub_first hc A.length 0 (by omega) _ (by simp; omega)
/-- What a line does to the state: J holds of it then. -/
def StepOK (op : Opt) (l : List UInt8) (nl : UInt8) (D : List DB) (lf : Leaf) (J : List DB → Leaf → Prop) : Prop :=
  ∀ (σ : Out) (R : Ending → World → Prop) (L : List Chunk) (b rb pb : Nat) (p : PS) (w : World), op.at pb ∈ L → p.pz = some ⟨pb, 0, none⟩ → p.lineno < 1000000000 → DocS σ b rb L D lf p w →
    (∀ w (p' : PS) D' lf', p'.base = p.base → p'.lineno = p.lineno → J D' lf' → DocS σ b rb L D' lf' p' w → R (.returned (.tuple #[])) w) → callE P i_parseState_addLine #[.pointer (some ⟨b, 0, none⟩), (lnOf l nl).val] R w
/-- The loop over the lines. -/
theorem lines_ok {op : Opt} {I : List (List UInt8 × UInt8) → List DB → Leaf → Prop} (step : ∀ l nl rem D lf, I ((l, nl) :: rem) D lf → StepOK op l nl D lf (I rem)) {X : OA → BA → Nat → WP} {b rb pb : Nat} {p0 : PS}
    (hX : ∀ x0 x1 x6 w, g_Parser_parse.bl1 R X x0 x1 x6 w → X x0 x1 x6 w) (hop : op.at pb ∈ L) (hpz : p0.pz = some ⟨pb, 0, none⟩)
    (hE : ∀ w (p : PS) D lf, p.base = p0.base → I [] D lf → DocS σ b rb L D lf p w → g_Parser_parse.bl1 R X (some ⟨pb, 0, none⟩) (bs []) b w) {text : List UInt8} {ls : List (List UInt8 × UInt8)} (hL : LinesOf text ls) :
    ∀ w (p : PS) D lf, text.length < 1000000 → p.lineno + ls.length < 1000000000 → p.base = p0.base → I ls D lf → DocS σ b rb L D lf p w → X (some ⟨pb, 0, none⟩) (bs text) b w := by
  have k3 : ∀ (l : List UInt8) (nl : UInt8) (t : List UInt8) (rem : List (List UInt8 × UInt8)) w (p : PS) D lf, (∀ w (p : PS) D lf, p.lineno + rem.length < 1000000000 → p.base = p0.base → I rem D lf → DocS σ b rb L D lf p w → X (some ⟨pb, 0, none⟩) (bs t) b w) →
      p.lineno + rem.length + 1 < 1000000000 → p.base = p0.base → I ((l, nl) :: rem) D lf → DocS σ b rb L D lf p w → g_Parser_parse.k3 R X (some ⟨pb, 0, none⟩) (bs t) b (bs l) (nl.toNat : Int) w := by
    intro l nl t rem w p D lf next hno hb hI h
    obtain ⟨r, obs, M, TM, IM, LM, hr, hs, ht, hIs, hL, h⟩ := h
    unfold g_Parser_parse.k3
    refine ⟨_, Sat.ld h (.head _) (i := 3) rfl, ?_⟩
    rw [i64_inc (by omega)]
    refine Sat.st h (k := 0) rfl (Nat.le_of_ble_eq_true rfl) trivial (by first | (dsimp only [List.set]; exact rfl) | exact rfl) fun w h => ?_
    let p1 : PS := { p with lineno := p.lineno + 1 }
    have h : Sat σ w (p1.at b :: M ++ (IM ++ (TM ++ (LM ++ (ownC D ++ ((txsC D).map TX.chunk ++ L)))))) := h
    have hb1 : p1.base = p0.base := hb
    have hpz1 : p1.pz = some ⟨pb, 0, none⟩ := by
      have := congrArg PS.pz hb1
      rw [show p1.pz = p0.pz from this]; exact hpz
    refine step l nl rem D lf hI σ _ L b rb pb p1 w hop hpz1 (by show p.lineno + 1 < _; omega) ⟨r, obs, M, TM, IM, LM, hr, hs.of rfl rfl rfl, ht.of rfl rfl rfl, hIs, hL, h⟩ fun w p2 D' lf' h1 h2 h3 h4 => ⟨rfl, ?_⟩
    exact next w p2 D' lf' (by rw [h2]; show p.lineno + 1 + _ < _; omega) (h1.trans hb1) h3 h4
  induction hL with
  | nil =>
    intro w p D lf hlen hno hb hI h
    exact hX _ _ _ _ (hE w p D lf hb hI h)
  | @last l hne hnl =>
    intro w p D lf hlen hno hb hI h
    have e10 : idxInt l [10] = -1 := by unfold idxInt; rw [idx_none hnl.1]
    have e13 : idxInt l [13] = -1 := by unfold idxInt; rw [idx_none hnl.2]
    refine hX _ _ _ _ (br_true (by rw [bs_toList]; simpa using hne) ?_)
    refine zzIndex_ok (sub := [10]) (by omega) (by decide) ⟨_, rfl, ?_⟩
    refine zzIndex_ok (sub := [13]) (by omega) (by decide) ⟨_, rfl, ?_⟩
    rw [e10, e13]
    refine br_false rfl (br_false rfl ?_)
    refine k3 l 0 [] [] w p D lf ?_ (by simp at hno ⊢; omega) hb hI h
    intro w p D lf hno hb hI h
    exact hX _ _ _ _ (hE w p D lf hb hI h)
  | @cons l t ls hnl hLt ih =>
    intro w p D lf hlen hno hb hI h
    have hl13 : 13 ∉ l ++ 10 :: t := (LinesOf.cons hnl hLt).no13
    have e10 : idxInt (l ++ 10 :: t) [10] = (l.length : Nat) := by unfold idxInt; rw [idx_first hnl.1]
    have e13 : idxInt (l ++ 10 :: t) [13] = -1 := by unfold idxInt; rw [idx_none hl13]
    have hlen' : (l ++ 10 :: t).length = l.length + t.length + 1 := by simp; omega
    refine hX _ _ _ _ (br_true (by rw [bs_toList]; simp [mk_toList]) ?_)
    refine zzIndex_ok (sub := [10]) (by omega) (by decide) ⟨_, rfl, ?_⟩
    refine zzIndex_ok (sub := [13]) (by omega) (by decide) ⟨_, rfl, ?_⟩
    rw [e10, e13]
    refine br_false rfl ?_
    refine br_true (by simp) ?_
    obtain ⟨r, obs, M, TM, IM, LM, hr, hs, ht, hIs, hL, h⟩ := h
    refine Sat.tk h fun w h => ?_
    rw [i64_inc (by omega), bs_size, Int.toNat_natCast, Int.toNat_natCast, bs_ext, bs_extract, List.drop_zero, List.take_left]
    refine ⟨by omega, by rw [hlen']; omega, by omega, by rw [hlen']; omega, ?_⟩
    have ed : (l ++ 10 :: t).drop (l.length + 1) = t := by rw [List.drop_append]; simp
    rw [ed]
    refine k3 l 10 t ls w p D lf ?_ (by simp at hno ⊢; omega) hb hI ⟨r, obs, M, TM, IM, LM, hr, hs, ht, hIs, hL, h⟩
    intro w p D lf hno hb hI h
    exact ih w p D lf (by rw [hlen'] at hlen; omega) hno hb hI h
/-- A text of many lines is parsed, and prints itself. -/
theorem parses_doc {op : Opt} {text out : List UInt8} {ls : List (List UInt8 × UInt8)} {F : List UInt8 → List UInt8 → List UInt8} (hL : LinesOf text ls) (h0 : 0 ∉ text) (hlen : text.length < 1000000)
    (I : List (List UInt8 × UInt8) → List DB → Leaf → Prop) (hI0 : I ls [] .none) (step : ∀ l nl rem D lf, I ((l, nl) :: rem) D lf → StepOK op l nl D lf (I rem))
    (fin : ∀ D lf, I [] D lf → lf.fin ∧ D.length < 100000 ∧ (txsC D).length < 100000 ∧ ∀ D', LeafClosed lf D D' → ∃ gs, Show F D' gs ∧ compL gs [] = out ∧ ∀ x ∈ txsC D', InlineOK op x.raw (F x.raw)) : ParsesTo op text out := by
  intro σ R L w pb h ho hR
  refine g_Parser_parse.sound ?_
  refine Sat.bx h fun b w h => ?_
  refine Sat.st h (k := 0) rfl (Nat.le_of_ble_eq_true rfl) trivial (by first | (dsimp only [List.set]; exact rfl) | exact rfl) fun w h => ?_
  have h : Sat σ w ((PS0 (some ⟨pb, 0, none⟩)).at b :: L) := h
  refine zzContains_ok (sub := [0]) (by omega) (by decide) ⟨_, rfl, ?_⟩
  rw [idx_none h0]
  refine br_false rfl ?_
  refine Sat.st h (k := 0) rfl (Nat.le_of_ble_eq_true rfl) trivial (by first | (dsimp only [List.set]; exact rfl) | exact rfl) fun w h => ?_
  refine Sat.bx h fun rb w h => ?_
  let p0 : PS := { PS0 (some ⟨pb, 0, none⟩) with depth := -1 }
  have h : Sat σ w (p0.at b :: [] ++ ((rb, cel [] ty_rootBuilder) :: L)) := h.up1
  have hstk : Stk p0 [] [] := ⟨Sl.nil 4 ty_openBlock, rfl, by simp⟩
  refine addBlock_ok h hstk rfl (by decide) fun w p1 M hp1 hs1 h => ⟨rfl, ?_⟩
  intro X hX
  have hll := hL.len
  have e1 : p1.base = p0.base := by rw [hp1]; rfl
  have e2 : p1.lineno = 0 := by rw [hp1]; rfl
  have htx : Txts p1 [] [] := by
    have : p1.tq = none ∧ p1.tn = 0 ∧ p1.tc = 0 := by rw [hp1]; exact ⟨rfl, rfl, rfl⟩
    obtain ⟨a, b, c⟩ := this
    unfold Txts
    rw [a, b, c]
    exact ⟨Sl.nil 1 ty_P_Text, rfl, by simp⟩
  have hd : DocS σ b rb ((rb, cel [] ty_rootBuilder) :: L) [] .none p1 w :=
    ⟨⟨rootV rb, none, 0, 0, 0, 0⟩, [], M, [], [], [], rfl, hs1, htx, Sl.nil 1 ty_Block, ⟨rfl, rfl⟩, h⟩
  refine lines_ok (p0 := p0) (op := op) step hX (.tail _ ho) rfl ?_ hL w p1 [] .none hlen (by rw [e2]; omega) e1 hI0 hd
  intro w p D lf hb hI hds
  obtain ⟨f1, f2, f3, f4⟩ := fin D lf hI
  refine br_false (by rw [bs_toList, mk_toList]; rfl) ?_
  refine finishDoc_ok hds f1 f2 f3 fun w p' D' db IM TM q n c s e hb' hcl ht hIM hn h => ⟨rfl, ?_⟩
  obtain ⟨gs, hS, hout, hIn⟩ := f4 D' hcl
  have hbb : p'.base = { p0.base with root := some ⟨db, 0, none⟩ } := by rw [hb', hb]
  have hpz : p'.pz = some ⟨pb, 0, none⟩ := by have := congrArg PS.pz hbb; exact this
  have hlk : p'.links = none := by have := congrArg PS.links hbb; exact this
  have hrt : p'.root = some ⟨db, 0, none⟩ := by have := congrArg PS.root hbb; exact this
  have hLL : p'.Lq = none ∧ p'.Ln = 0 ∧ p'.Lc = 0 := ⟨by have := congrArg PS.Lq hbb; exact this, by have := congrArg PS.Ln hbb; exact this, by have := congrArg PS.Lc hbb; exact this⟩
  refine ⟨_, _, _, Sat.ld h (.head _) (i := 11) rfl, ?_⟩
  refine texts_ok (op := op) (F := F) h ht hpz (by simp [ho]) hlk hLL hIn fun w p2 ts hp2 hf h => ?_
  have hrt2 : p2.root = some ⟨db, 0, none⟩ := by have := congrArg PS.root hp2; rw [show p2.root = p'.root from this]; exact hrt
  unfold g_Parser_parse.k4
  refine Sat.tk h fun w h => ?_
  refine ⟨_, Sat.ld h (.head _) (i := 1) rfl, _, Sat.ld h (.head _) (i := 6) rfl, ?_⟩
  rw [hrt2]
  obtain ⟨KM, KM', hP, hcnt⟩ := docs_print hS ts hf
  refine hR w db p2.corner (docC db s e q n c p.links :: (IM ++ KM)) (docC db s e q n c p.links :: (IM ++ KM')) (compL gs) (doc_prints hIM (by omega) hP) hout ?_
  refine Sat.less (p2.at b :: TM ++ [(rb, cel [] ty_rootBuilder)]) h fun a => ?_
  have := hcnt a
  simp only [List.append_eq, cnt_append, cnt_cons, cnt_nil] at this ⊢
  omega
end Go.Proofs.YtmicoampfglaiaaGreatDoor


/- Lines with a backslash ahead of each punctuation character: lines of paragraphs, and their inlines. -/
set_option linter.unusedVariables false
namespace Go.Proofs.YtmicoampfglaiaaGreatDoor
open Go.Proofs Go.IntWalk Go.RowKit
variable {σ : Out} {w : World} {L L' : List Chunk} {R : Ending → World → Prop}
/-- A line: not empty, of printable characters, no space at its ends. -/
structure GoodL (s : List UInt8) : Prop where
  full : fullM s = true
  pr : ∀ c ∈ s, prnB c = true
  len : s.length ≤ 200
theorem byte_all {p : UInt8 → Bool} (h : (List.range 256).all (fun n => p (UInt8.ofNat n)) = true) (c : UInt8) : p c = true := by
  have hc := c.toNat_lt
  have := (List.all_eq_true.1 h) c.toNat (List.mem_range.2 hc)
  simpa using this
/-- What holds of a printable character that is no punctuation, and no space. -/
def litOK (c : UInt8) : Bool := (match parserOf optOff c with | .nil => true | _ => false) && c != 93 && c != 10 && c != 13 && c != 0 && c != 46 && c != 41 && (c == 32 || (!isST c && c != 91 && (digB c || plainStart c)))
theorem lit_all : (List.range 256).all (fun n => (!(prnB (UInt8.ofNat n)) || punB (UInt8.ofNat n) || litOK (UInt8.ofNat n))) = true := by kernel_rfl
theorem lit_of {c : UInt8} (h1 : prnB c = true) (h2 : punB c = false) : litOK c = true := by
  have := byte_all (p := fun c => (!(prnB c) || punB c || litOK c)) lit_all c
  simpa [h1, h2] using this
theorem pun_all : (List.range 256).all (fun n => (!(punB (UInt8.ofNat n)) || (!isST (UInt8.ofNat n) && UInt8.ofNat n != 10 && UInt8.ofNat n != 13 && UInt8.ofNat n != 0))) = true := by kernel_rfl
theorem pun_of {c : UInt8} (h : punB c = true) : isST c = false ∧ c ≠ 10 ∧ c ≠ 13 ∧ c ≠ 0 := by
  have := byte_all (p := fun c => (!(punB c) || (!isST c && c != 10 && c != 13 && c != 0))) pun_all c
  simpa [h, and_assoc] using this
theorem lit_facts {c : UInt8} (h1 : prnB c = true) (h2 : punB c = false) : parserOf optOff c = .nil ∧ c ≠ 93 ∧ c ≠ 10 ∧ c ≠ 13 ∧ c ≠ 0 ∧ c ≠ 46 ∧ c ≠ 41 ∧ (c = 32 ∨ (isST c = false ∧ c ≠ 91 ∧ (digB c = true ∨ plainStart c = true))) := by
  have := lit_of h1 h2
  simp only [litOK, Bool.and_eq_true, bne_iff_ne, ne_eq, Bool.or_eq_true, beq_iff_eq, Bool.not_eq_true'] at this
  obtain ⟨⟨⟨⟨⟨⟨⟨a1, a2⟩, a3⟩, a4⟩, a5⟩, a6⟩, a7⟩, a8⟩ := this
  refine ⟨?_, a2, a3, a4, a5, a6, a7, ?_⟩
  · revert a1
    cases parserOf optOff c <;> simp
  · rcases a8 with a8 | ⟨⟨b1, b2⟩, b3⟩
    · exact .inl a8
    · exact .inr ⟨b1, b2, b3⟩
theorem slashT_cons (c : UInt8) (s : List UInt8) : slashT (c :: s) = (if punB c then [92, c] else [c]) ++ slashT s := by
  rw [show c :: s = [c] ++ s from rfl, slashT_append, slashT_one]
theorem slashT_mem {s : List UInt8} (hp : ∀ c ∈ s, prnB c = true) : ∀ c ∈ slashT s, c ≠ 10 ∧ c ≠ 13 ∧ c ≠ 0 := by
  induction s with
  | nil => intro c hc; simp [slashT, slashK, tokB] at hc
  | cons x s ih =>
    intro c hc
    rw [slashT_cons, List.mem_append] at hc
    rcases hc with hc | hc
    · cases hx : punB x with
      | true =>
        rw [hx] at hc; simp at hc
        rcases hc with rfl | rfl
        · decide
        · exact (pun_of hx).2
      | false =>
        rw [hx] at hc; simp at hc; subst hc
        have := lit_facts (hp c (List.mem_cons_self ..)) hx
        exact ⟨this.2.2.1, this.2.2.2.1, this.2.2.2.2.1⟩
    · exact ih (fun d hd => hp d (List.mem_cons_of_mem _ hd)) c hc
theorem slash_num {s : List UInt8} (hp : ∀ c ∈ s, prnB c = true) : numNo (slashT s) := by
  induction s with
  | nil => exact ⟨by simp [slashT, slashK, tokB], by simp [slashT, slashK, tokB]⟩
  | cons x s ih =>
    have ih := ih (fun d hd => hp d (List.mem_cons_of_mem _ hd))
    unfold numNo at ih ⊢
    rw [slashT_cons]
    cases hx : punB x with
    | true =>
      have : (([92, x] : List UInt8) ++ slashT s).dropWhile digB = 92 :: x :: slashT s := List.dropWhile_cons_of_neg (by decide)
      simp only [if_true, this]
      exact ⟨by simp, by simp⟩
    | false =>
      simp only [Bool.false_eq_true, if_false]
      have f := lit_facts (hp x (List.mem_cons_self ..)) hx
      cases hd : digB x with
      | true => rw [List.singleton_append, List.dropWhile_cons_of_pos hd]; exact ih
      | false =>
        rw [List.singleton_append, List.dropWhile_cons_of_neg (by simp [hd])]
        simp only [List.head?_cons, ne_eq, Option.some.injEq]
        exact ⟨f.2.2.2.2.2.1, f.2.2.2.2.2.2.1⟩
theorem good_cons {s : List UInt8} (h : GoodL s) : ∃ c t, s = c :: t ∧ c ≠ 32 ∧ prnB c = true := by
  have hf := h.full
  cases s with
  | nil => simp [fullM] at hf
  | cons c t =>
    refine ⟨c, t, rfl, ?_, h.pr c (List.mem_cons_self ..)⟩
    simp [fullM] at hf
    exact hf.1
theorem good_last {s : List UInt8} (h : GoodL s) : ∃ m d, s = m ++ [d] ∧ d ≠ 32 ∧ prnB d = true := by
  obtain ⟨c, t, hs, _, _⟩ := good_cons h
  rcases List.eq_nil_or_concat s with h0 | ⟨m, d, h0⟩
  · rw [h0] at hs; cases hs
  · rw [List.concat_eq_append] at h0
    refine ⟨m, d, h0, ?_, h.pr d (by rw [h0]; simp)⟩
    have hf := h.full
    simp only [fullM, Bool.and_eq_true, bne_iff_ne, ne_eq] at hf
    have h2 := hf.2
    rw [h0, List.length_append, List.length_singleton, Nat.add_sub_cancel, getD_mid m [] d 0] at h2
    exact h2
/-- The first byte of such a line. -/
theorem slash_first {s : List UInt8} (h : GoodL s) : ∃ c t, slashT s = c :: t ∧ isST c = false ∧ c ≠ 91 ∧ (digB c = true ∨ plainStart c = true) := by
  obtain ⟨c, t, rfl, h32, hp⟩ := good_cons h
  rw [slashT_cons]
  cases hx : punB c with
  | true => exact ⟨92, c :: slashT t, rfl, by decide, by decide, .inr (by decide)⟩
  | false =>
    have f := lit_facts hp hx
    rcases f.2.2.2.2.2.2.2 with f | f
    · exact absurd f h32
    · exact ⟨c, slashT t, rfl, f.1, f.2.1, f.2.2⟩
theorem slash_last {s : List UInt8} (h : GoodL s) : ∃ m d, slashT s = m ++ [d] ∧ isST d = false := by
  obtain ⟨m, d, rfl, h32, hp⟩ := good_last h
  rw [slashT_append, slashT_one]
  cases hx : punB d with
  | true => exact ⟨slashT m ++ [92], d, by simp, (pun_of hx).1⟩
  | false =>
    have f := lit_facts hp hx
    rcases f.2.2.2.2.2.2.2 with f | f
    · exact absurd f h32
    · exact ⟨slashT m, d, by simp, f.1⟩
theorem slash_plain {s : List UInt8} {nl : UInt8} (h : GoodL s) : (lnOf (slashT s) nl).plain := by
  have hn := slash_num h.pr
  have hl := slashT_len s
  have h2 := h.len
  obtain ⟨c, t, hs, h1, _, h3⟩ := slash_first h
  rw [hs] at hn hl ⊢
  have ht : t.length < 1000000 := by simp at hl; omega
  rcases h3 with h3 | h3
  · exact plain_digit ht h3 hn
  · exact plain_first h3 ht
theorem trim_of {s t m : List UInt8} {c d : UInt8} (h1 : s = c :: t) (h2 : s = m ++ [d]) (hc : isST c = false) (hd : isST d = false) : trimLR isST s = s := by
  unfold trimLR trimR
  have e : s.dropWhile isST = s := by rw [h1, List.dropWhile_cons_of_neg (by simp [hc])]
  rw [e, h2, List.reverse_append, List.reverse_singleton, List.singleton_append, List.dropWhile_cons_of_neg (by simp [hd])]
  simp
theorem slash_rest {s : List UInt8} {nl : UInt8} (h : GoodL s) : (lnOf (slashT s) nl).rest = slashT s := by
  obtain ⟨c, t, h1, hc, _⟩ := slash_first h
  show (slashT s).dropWhile isST = slashT s
  rw [h1, List.dropWhile_cons_of_neg (by simp [hc])]
theorem slashO (s : List UInt8) : tokO (slashK s) = escS htmlPs s := by
  induction s with
  | nil => rfl
  | cons c s ih =>
    have : slashK (c :: s) = (if punB c then .esc c else .lit c) :: slashK s := rfl
    rw [this, tokO_cons, ih, escS_cons]
    cases punB c <;> rfl
theorem slashK_ok {s : List UInt8} (hp : ∀ c ∈ s, prnB c = true) : ∀ t ∈ slashK s, t.ok optOff ∧ (∃ c, t = .lit c ∨ t = .esc c) := by
  intro t ht
  obtain ⟨c, hc, rfl⟩ := List.mem_map.1 ht
  cases hx : punB c with
  | true => exact ⟨hx, c, .inr rfl⟩
  | false =>
    have f := lit_facts (hp c hc) hx
    exact ⟨⟨f.1, f.2.1⟩, c, .inl rfl⟩
theorem nlOK_none : ∀ {ts : List Tok}, (∀ t ∈ ts, ∃ c, t = .lit c ∨ t = .esc c) → nlOK ts
  | [], _ => trivial
  | t :: ts, h => by
    have ih := nlOK_none (ts := ts) fun u hu => h u (List.mem_cons_of_mem _ hu)
    refine ⟨?_, ?_, ih⟩
    · cases ts with
      | nil => trivial
      | cons u ts =>
        obtain ⟨c, hc⟩ := h u (by simp)
        rcases hc with rfl | rfl <;> trivial
    · obtain ⟨c, hc⟩ := h t (by simp)
      rcases hc with rfl | rfl <;> trivial
theorem slash_nl {s : List UInt8} (h : GoodL s) : noNL (slashT s) ∧ 0 ∉ slashT s ∧ slashT s ≠ [] := by
  have := slashT_mem h.pr
  obtain ⟨c, t, h1, _⟩ := slash_first h
  exact ⟨⟨fun hc => (this _ hc).1 rfl, fun hc => (this _ hc).2.1 rfl⟩, fun hc => (this _ hc).2.2 rfl, by rw [h1]; simp⟩
end Go.Proofs.YtmicoampfglaiaaGreatDoor


set_option linter.unusedVariables false
set_option maxRecDepth 20000
namespace Go.Proofs.YtmicoampfglaiaaGreatDoor
open Go.Proofs
/- 136 (*pub-paratext/pub/rscmarkdown.parseState).deleteLast -/
namespace g_parseState_deleteLast
noncomputable def body : Code := bodyOf Tryz.f136
end g_parseState_deleteLast
def g_parseState_deleteLast (R : EP) (x0 : OA) (w : World) : Prop :=
 tk w fun w1 =>
 nilP x0 fun a2 =>
 nilP x0 fun a3 =>
 ∃ (v4q : OA), ∃ (v4n : Nat), ∃ (v4c : Nat), w1.cell? (a2.add 4) = some (.slice v4q v4n v4c) ∧
 ∃ (v5q : OA), ∃ (v5n : Nat), ∃ (v5c : Nat), w1.cell? (a3.add 4) = some (.slice v5q v5n v5c) ∧
 0 ≤ (IntKind.i64.wrap ((v5n : Int) - 1)) ∧ (IntKind.i64.wrap ((v5n : Int) - 1)) < (v4n : Int) ∧
 nilP v4q fun a6 =>
 tk w1 fun w7 =>
 ∃ (v8q : OA), ∃ (v8n : Nat), ∃ (v8c : Nat), w7.cell? ((a6.add (Int.toNat (IntKind.i64.wrap ((v5n : Int) - 1)) * 4)).add 1) = some (.slice v8q v8n v8c) ∧
 ∃ (v9q : OA), ∃ (v9n : Nat), ∃ (v9c : Nat), w7.cell? ((a6.add (Int.toNat (IntKind.i64.wrap ((v5n : Int) - 1)) * 4)).add 1) = some (.slice v9q v9n v9c) ∧
 ∃ (r10q : OA), ∃ (r10n : Nat), ∃ (r10c : Nat), (∀ w, (Instr.sliceAt ty_S_Block (.slice v8q v8n v8c) none (some (.int .i64 (IntKind.i64.wrap ((v9n : Int) - 1)))) none).run P w = .ok (.slice r10q r10n r10c) w) ∧
 stV w7 (((a6.add (Int.toNat (IntKind.i64.wrap ((v5n : Int) - 1)) * 4)).add 1).add 0) (.slice r10q r10n r10c) fun w11 =>
 R (.returned (.tuple #[])) w11

noncomputable def g_parseState_deleteLast.ac (R : EP) : AC :=
  (.seq (.draw (.pure 0 (.pure 1 (.pure 2 (.pure 4 (.pure 5 (.pure 6 (.load 3 (.load 7 (.pure 8 (.pure 9 (.pure 10 (.pure 11 .done)))))))))))) (sel [0] g_parseState_deleteLast.body)) (.draw (.pure 0 (.pure 1 (.pure 2 (.pure 3 (.pure 5 (.pure 6 (.pure 7 (.load 4 (.load 8 (.pure 9 (.pure 10 (.pure 11 (.pure 12 (.pure 13 (.one 14 .done))))))))))))))) (sel [1] g_parseState_deleteLast.body)))
theorem g_parseState_deleteLast.good (R : EP) : Good P 28 (g_parseState_deleteLast.ac R) (QF P [] R) :=
  ⟨⟨by kernel_rfl, by kernel_rfl, fun _ _ _ h => h⟩, ⟨by kernel_rfl, by kernel_rfl, fun _ _ _ h => h⟩⟩
theorem g_parseState_deleteLast.eq (R : EP) (x0 : OA) (w : World) : g_parseState_deleteLast R x0 w = vcA P 28 (g_parseState_deleteLast.ac R) (QF P [] R) (fr0 [.pointer x0]) w := by kernel_rfl
theorem g_parseState_deleteLast.sound {R : EP} {x0 : OA} {w : World} (h : g_parseState_deleteLast R x0 w) : callE P i_parseState_deleteLast #[.pointer x0] R w :=
  callE_fin (c := g_parseState_deleteLast.body) Tryz.func136 Tryz.call136 (by kernel_rfl) (by kernel_rfl) (by kernel_rfl) (by kernel_rfl) (by kernel_rfl) (g_parseState_deleteLast.good R) (g_parseState_deleteLast.eq R x0 w) h
/- 135 (*pub-paratext/pub/rscmarkdown.parseState).last -/
namespace g_parseState_last
noncomputable def body : Code := bodyOf Tryz.f135
end g_parseState_last
def g_parseState_last (R : EP) (x0 : OA) (w : World) : Prop :=
 tk w fun w1 =>
 nilP x0 fun a2 =>
 nilP x0 fun a3 =>
 ∃ (v4q : OA), ∃ (v4n : Nat), ∃ (v4c : Nat), w1.cell? (a2.add 4) = some (.slice v4q v4n v4c) ∧
 ∃ (v5q : OA), ∃ (v5n : Nat), ∃ (v5c : Nat), w1.cell? (a3.add 4) = some (.slice v5q v5n v5c) ∧
 0 ≤ (IntKind.i64.wrap ((v5n : Int) - 1)) ∧ (IntKind.i64.wrap ((v5n : Int) - 1)) < (v4n : Int) ∧
 nilP v4q fun a6 =>
 tk w1 fun w7 =>
 ∃ (v8q : OA), ∃ (v8n : Nat), ∃ (v8c : Nat), w7.cell? ((a6.add (Int.toNat (IntKind.i64.wrap ((v5n : Int) - 1)) * 4)).add 1) = some (.slice v8q v8n v8c) ∧
 ∃ (v9q : OA), ∃ (v9n : Nat), ∃ (v9c : Nat), w7.cell? ((a6.add (Int.toNat (IntKind.i64.wrap ((v5n : Int) - 1)) * 4)).add 1) = some (.slice v9q v9n v9c) ∧
 0 ≤ (IntKind.i64.wrap ((v9n : Int) - 1)) ∧ (IntKind.i64.wrap ((v9n : Int) - 1)) < (v8n : Int) ∧
 nilP v8q fun a10 =>
 ∃ (v11 : Value), w7.cell? (a10.add (Int.toNat (IntKind.i64.wrap ((v9n : Int) - 1)) * 1)) = some v11 ∧
 R (.returned v11) w7

noncomputable def g_parseState_last.ac (R : EP) : AC :=
  (.seq (.leaf (sel [0] g_parseState_last.body)) (.seq (.draw (.pure 0 (.pure 1 (.pure 2 (.pure 4 (.pure 5 (.pure 6 (.load 3 (.load 7 (.pure 8 (.pure 9 (.pure 10 (.pure 11 .done)))))))))))) (sel [1, 0] g_parseState_last.body)) (.seq (.draw (.pure 0 (.pure 1 (.pure 2 (.pure 4 (.pure 5 (.pure 6 (.load 3 (.load 7 (.pure 8 (.pure 9 (.pure 10 (.load 11 (.pure 12 .done))))))))))))) (sel [1, 1, 0] g_parseState_last.body)) (.leaf (sel [1, 1, 1] g_parseState_last.body)))))
theorem g_parseState_last.good (R : EP) : Good P 27 (g_parseState_last.ac R) (QF P [.tmp 2] R) :=
  ⟨trivial, ⟨⟨by kernel_rfl, by kernel_rfl, fun _ _ _ h => h⟩, ⟨⟨by kernel_rfl, by kernel_rfl, fun _ _ _ h => h⟩, trivial⟩⟩⟩
theorem g_parseState_last.eq (R : EP) (x0 : OA) (w : World) : g_parseState_last R x0 w = vcA P 27 (g_parseState_last.ac R) (QF P [.tmp 2] R) (fr0 [.pointer x0]) w := by kernel_rfl
theorem g_parseState_last.sound {R : EP} {x0 : OA} {w : World} (h : g_parseState_last R x0 w) : callE P i_parseState_last #[.pointer x0] R w :=
  callE_fin (c := g_parseState_last.body) Tryz.func135 Tryz.call135 (by kernel_rfl) (by kernel_rfl) (by kernel_rfl) (by kernel_rfl) (by kernel_rfl) (g_parseState_last.good R) (g_parseState_last.eq R x0 w) h
/- 131 (*pub-paratext/pub/rscmarkdown.parseState).doneBlock -/
namespace g_parseState_doneBlock
noncomputable def body : Code := bodyOf Tryz.f131
end g_parseState_doneBlock
def g_parseState_doneBlock (R : EP) (x0 : OA) (x1 : Value) (w : World) : Prop :=
 nilP x0 fun a1 =>
 ∃ (v2 : Int), w.cell? (a1.add 5) = some (.int .i64 v2) ∧
 callE P i_parseState_trimStack #[.pointer x0, .int .i64 (IntKind.i64.wrap (v2 + 1))] (fun e w4 => e = .returned (.tuple #[]) ∧
 tk w4 fun w5 =>
 nilP x0 fun a6 =>
 nilP x0 fun a7 =>
 ∃ (v8q : OA), ∃ (v8n : Nat), ∃ (v8c : Nat), w5.cell? (a6.add 4) = some (.slice v8q v8n v8c) ∧
 ∃ (v9q : OA), ∃ (v9n : Nat), ∃ (v9c : Nat), w5.cell? (a7.add 4) = some (.slice v9q v9n v9c) ∧
 0 ≤ (IntKind.i64.wrap ((v9n : Int) - 1)) ∧ (IntKind.i64.wrap ((v9n : Int) - 1)) < (v8n : Int) ∧
 nilP v8q fun a10 =>
 ∃ (v11q : OA), ∃ (v11n : Nat), ∃ (v11c : Nat), w5.cell? ((a10.add (Int.toNat (IntKind.i64.wrap ((v9n : Int) - 1)) * 4)).add 1) = some (.slice v11q v11n v11c) ∧
 ∃ (r12q : OA), ∃ (r12n : Nat), ∃ (r12c : Nat), ∃ w13, (Instr.buildSlice ty_S_Block 1 #[(0, x1)]).run P w5 = .ok (.slice r12q r12n r12c) w13 ∧
 ∃ (r14q : OA), ∃ (r14n : Nat), ∃ (r14c : Nat), ∃ w15, (Builtin.append_ #[ty_S_Block, ty_S_Block] ty_S_Block #[.slice v11q v11n v11c, .slice r12q r12n r12c]).run P w13 = .ok (.slice r14q r14n r14c) w15 ∧
 stV w15 (((a10.add (Int.toNat (IntKind.i64.wrap ((v9n : Int) - 1)) * 4)).add 1).add 0) (.slice r14q r14n r14c) fun w16 =>
 R (.returned (.tuple #[])) w16) w

noncomputable def g_parseState_doneBlock.ac (R : EP) : AC :=
  (.seq (.leaf (sel [0] g_parseState_doneBlock.body)) (.seq (.draw (.pure 0 (.pure 1 (.pure 2 (.pure 4 (.pure 5 (.pure 6 (.load 3 (.load 7 (.pure 8 (.pure 9 (.pure 10 (.pure 11 .done)))))))))))) (sel [1, 0] g_parseState_doneBlock.body)) (.leaf (sel [1, 1] g_parseState_doneBlock.body))))
theorem g_parseState_doneBlock.good (R : EP) : Good P 33 (g_parseState_doneBlock.ac R) (QF P [] R) :=
  ⟨trivial, ⟨⟨by kernel_rfl, by kernel_rfl, fun _ _ _ h => h⟩, trivial⟩⟩
theorem g_parseState_doneBlock.eq (R : EP) (x0 : OA) (x1 : Value) (w : World) : g_parseState_doneBlock R x0 x1 w = vcA P 33 (g_parseState_doneBlock.ac R) (QF P [] R) (fr0 [.pointer x0, x1]) w := by kernel_rfl
theorem g_parseState_doneBlock.sound {R : EP} {x0 : OA} {x1 : Value} {w : World} (h : g_parseState_doneBlock R x0 x1 w) : callE P i_parseState_doneBlock #[.pointer x0, x1] R w :=
  callE_fin (c := g_parseState_doneBlock.body) Tryz.func131 Tryz.call131 (by kernel_rfl) (by kernel_rfl) (by kernel_rfl) (by kernel_rfl) (by kernel_rfl) (g_parseState_doneBlock.good R) (g_parseState_doneBlock.eq R x0 x1 w) h
end Go.Proofs.YtmicoampfglaiaaGreatDoor

/- A block that is done at once. -/
set_option linter.unusedVariables false
namespace Go.Proofs.YtmicoampfglaiaaGreatDoor
open Go.Proofs Go.IntWalk
variable {σ : Out} {w : World} {L L' : List Chunk} {R : Ending → World → Prop}
theorem doneBlock_ok {b : Nat} {p : PS} {o : OB} {M IM : List Chunk} {inner : List Value} {tb : TypeId} {q : Option Addr} (h : Sat σ w (p.at b :: M ++ (IM ++ L))) (hs : Stk p [o] M) (hd : p.depth = 0) (hI : Sl 1 ty_Block o.q o.n o.c inner IM) (hin : o.n < 1000000)
    (hR : ∀ w M2 IM2 q' c', Stk p [{ o with q := q', n := o.n + 1, c := c' }] M2 → Sl 1 ty_Block q' (o.n + 1) c' (inner ++ [.iface tb (.pointer q)]) IM2 → Sat σ w (p.at b :: M2 ++ (IM2 ++ L)) → R (.returned (.tuple #[])) w) :
    callE P i_parseState_doneBlock #[.pointer (some ⟨b, 0, none⟩), .iface tb (.pointer q)] R w := by
  have hn := hs.2.1
  have hs' : Stk p ([] ++ [o]) M := hs
  obtain ⟨sb, sp, hq, rfl, hsp⟩ := hs.split (by simp)
  simp only [List.length_singleton] at hn
  refine g_parseState_doneBlock.sound ?_
  repeat (first | refine nilP_some ?_ | refine Sat.tk h fun w h => ?_ | refine ⟨_, Sat.ld h (by first | assumption | (repeat (first | exact .head _ | apply List.Mem.tail))) (by exact rfl), ?_⟩ | refine ⟨_, _, _, Sat.ld h (by first | assumption | (repeat (first | exact .head _ | apply List.Mem.tail))) (by exact rfl), ?_⟩)
  rw [hd]
  refine trimStack_noop h (by rw [hn]; rfl) fun w h => ⟨rfl, ?_⟩
  refine Sat.tk h fun w h => ?_
  refine nilP_some (nilP_some ?_)
  refine ⟨_, _, _, Sat.ld h (by first | assumption | (repeat (first | exact .head _ | apply List.Mem.tail))) (by exact rfl), ?_⟩
  refine ⟨_, _, _, Sat.ld h (by first | assumption | (repeat (first | exact .head _ | apply List.Mem.tail))) (by exact rfl), ?_⟩
  rw [hn, show IntKind.i64.wrap (((1 : Nat) : Int) - 1) = ((0 : Nat) : Int) from rfl, hq]
  refine ⟨by omega, by omega, nilP_some ?_⟩
  simp only [Addr.add_lit, Nat.zero_add, Int.toNat_natCast, Nat.add_zero, Nat.zero_mul]
  refine ⟨_, _, _, Sat.ld h (.tail _ (.head _)) (stk_get (j := 0) (f := 1) (by decide) (last_get (l := []) o)), ?_⟩
  have h : Sat σ _ (IM ++ (p.at b :: (sb, cel (obCells [o] ++ sp) ty_openBlock) :: L)) := h.re (by intro _; simp only [List.append_eq, cnt_append, cnt_cons, cnt_nil] <;> omega)
  refine Sat.app1 rowBlock hI h (v := .iface tb (.pointer q)) rfl (by simp [Value.cells, Value.oneCell']) (by kernel_rfl) (by omega) (by omega) (by decide) fun q' c' w IM2 hI' h => ?_
  have h : Sat σ _ (p.at b :: (sb, cel (obCells [o] ++ sp) ty_openBlock) :: (IM2 ++ L)) := h.re (by intro _; simp only [List.append_eq, cnt_append, cnt_cons, cnt_nil] <;> omega)
  refine Sat.st h (k := 1) rfl (by rw [List.length_append, obCells_length, List.length_singleton]; omega) trivial rfl fun w h => ?_
  have e : (obCells [o] ++ sp).set 1 (Value.slice q' (o.n + 1) c') = obCells [{ o with q := q', n := o.n + 1, c := c' }] ++ sp := stk_set (l := []) (sp := sp) (o := o) (o' := { o with q := q', n := o.n + 1, c := c' }) (f := 1) (v := .slice q' (o.n + 1) c') (by decide) rfl
  have h : Sat σ w (p.at b :: (sb, cel (obCells [{ o with q := q', n := o.n + 1, c := c' }] ++ sp) ty_openBlock) :: (IM2 ++ L)) := by
    rw [← e]; exact h
  have hs2 : Stk p [{ o with q := q', n := o.n + 1, c := c' }] [(sb, cel (obCells [{ o with q := q', n := o.n + 1, c := c' }] ++ sp) ty_openBlock)] := by
    refine Stk.mk' hq ?_ (by rw [hn]; rfl) (by simp)
    rw [← hsp]
    simp only [List.length_append, obCells_length, List.length_singleton, List.length_nil]
  exact hR w _ IM2 q' c' hs2 hI' h
end Go.Proofs.YtmicoampfglaiaaGreatDoor


set_option linter.unusedVariables false
set_option maxRecDepth 20000
namespace Go.Proofs.YtmicoampfglaiaaGreatDoor
open Go.Proofs
/- 322 (*pub-paratext/pub/rscmarkdown.Heading).PrintHTML -/
namespace g_Heading_PrintHTML
noncomputable def body : Code := bodyOf Tryz.f322
def k1 (R : EP) (x0 : OA) (x1 : OA) (w : World) : Prop :=
 callE P i_bytes_Buffer_WriteByte #[.pointer x1, .int .u8 62] (fun e w19 => ∃ (r18 : Value), e = .returned r18 ∧
 nilP x0 fun a20 =>
 ∃ (v21 : OA), w19.cell? (a20.add 3) = some (.pointer v21) ∧
 callE P i_Text_PrintHTML #[.pointer v21, .pointer x1] (fun e w23 => e = .returned (.tuple #[]) ∧
 nilP x0 fun a24 =>
 ∃ (v25 : Int), w23.cell? (a24.add 2) = some (.int .i64 v25) ∧
 callE P i_strconv_Itoa #[.int .i64 v25] (fun e w27 => ∃ (r26 : BA), e = .returned (.string r26) ∧
 (((ByteArray.mk #[60, 47, 104]).size + r26.size : Nat) : Int) ≤ IntKind.i64.max ∧
 ((((ByteArray.mk #[60, 47, 104]) ++ r26).size + (ByteArray.mk #[62, 10]).size : Nat) : Int) ≤ IntKind.i64.max ∧
 callE P i_bytes_Buffer_WriteString #[.pointer x1, .string (((ByteArray.mk #[60, 47, 104]) ++ r26) ++ (ByteArray.mk #[62, 10]))] (fun e w29 => ∃ (r28_0 : Int), ∃ (r28_1 : Value), e = .returned (.tuple #[.int .i64 r28_0, r28_1]) ∧
 R (.returned (.tuple #[])) w29) w27) w23) w19) w

end g_Heading_PrintHTML
def g_Heading_PrintHTML (R : EP) (x0 : OA) (x1 : OA) (w : World) : Prop :=
 nilP x0 fun a1 =>
 ∃ (v2 : Int), w.cell? (a1.add 2) = some (.int .i64 v2) ∧
 callE P i_strconv_Itoa #[.int .i64 v2] (fun e w4 => ∃ (r3 : BA), e = .returned (.string r3) ∧
 (((ByteArray.mk #[60, 104]).size + r3.size : Nat) : Int) ≤ IntKind.i64.max ∧
 callE P i_bytes_Buffer_WriteString #[.pointer x1, .string ((ByteArray.mk #[60, 104]) ++ r3)] (fun e w6 => ∃ (r5_0 : Int), ∃ (r5_1 : Value), e = .returned (.tuple #[.int .i64 r5_0, r5_1]) ∧
 nilP x0 fun a7 =>
 ∃ (v8 : BA), w6.cell? (a7.add 4) = some (.string v8) ∧
 br (!(v8.toList == (ByteArray.mk #[]).toList))
 (tk w6 fun w9 =>
 nilP x0 fun a10 =>
 ∃ (v11 : BA), w9.cell? (a10.add 4) = some (.string v11) ∧
 callE P i_htmlQuoteEscaper #[] (fun e w13 => ∃ (r12q : OA), ∃ (r12n : Nat), ∃ (r12c : Nat), e = .returned (.slice r12q r12n r12c) ∧
 SameC w9 w13 (a10.add 4) 1 ∧
 callE P i_zzPairs_Replace #[.slice r12q r12n r12c, .string v11] (fun e w15 => ∃ (r14 : BA), e = .returned (.string r14) ∧
 (((ByteArray.mk #[32, 105, 100, 61, 34]).size + r14.size : Nat) : Int) ≤ IntKind.i64.max ∧
 ((((ByteArray.mk #[32, 105, 100, 61, 34]) ++ r14).size + (ByteArray.mk #[34]).size : Nat) : Int) ≤ IntKind.i64.max ∧
 callE P i_bytes_Buffer_WriteString #[.pointer x1, .string (((ByteArray.mk #[32, 105, 100, 61, 34]) ++ r14) ++ (ByteArray.mk #[34]))] (fun e w17 => ∃ (r16_0 : Int), ∃ (r16_1 : Value), e = .returned (.tuple #[.int .i64 r16_0, r16_1]) ∧
 g_Heading_PrintHTML.k1 R x0 x1 w17) w15) w13) w9)
 (g_Heading_PrintHTML.k1 R x0 x1 w6)) w4) w

noncomputable def g_Heading_PrintHTML.ac (R : EP) : AC :=
  (.seq (.leaf (sel [0] g_Heading_PrintHTML.body)) (.seq (.seq (.leaf (sel [1, 0, 0] g_Heading_PrintHTML.body)) (.cond 16 (.draw (.pure 0 (.pure 2 (.pure 3 (.pure 4 (.load 5 (.one 1 (.one 6 (.pure 7 (.pure 8 (.one 9 .done)))))))))) (sel [1, 0, 1, 0] g_Heading_PrintHTML.body)) (.leaf (sel [1, 0, 1, 1] g_Heading_PrintHTML.body)))) (.mark (leaf [(0, .s .ptr), (1, .s .ptr)] (g_Heading_PrintHTML.k1 R)) (.leaf (sel [1, 1] g_Heading_PrintHTML.body)))))
theorem g_Heading_PrintHTML.good (R : EP) : Good P 44 (g_Heading_PrintHTML.ac R) (QF P [] R) :=
  ⟨trivial, ⟨⟨trivial, ⟨⟨by kernel_rfl, by kernel_rfl, fun _ _ _ h => h⟩, trivial⟩⟩, ⟨trivial, cutE (by intro x0 x1 ρ w; kernel_rfl)⟩⟩⟩
theorem g_Heading_PrintHTML.eq (R : EP) (x0 : OA) (x1 : OA) (w : World) : g_Heading_PrintHTML R x0 x1 w = vcA P 44 (g_Heading_PrintHTML.ac R) (QF P [] R) (fr0 [.pointer x0, .pointer x1]) w := by kernel_rfl
theorem g_Heading_PrintHTML.sound {R : EP} {x0 : OA} {x1 : OA} {w : World} (h : g_Heading_PrintHTML R x0 x1 w) : callE P i_Heading_PrintHTML #[.pointer x0, .pointer x1] R w :=
  callE_fin (c := g_Heading_PrintHTML.body) Tryz.func322 Tryz.call322 (by kernel_rfl) (by kernel_rfl) (by kernel_rfl) (by kernel_rfl) (by kernel_rfl) (g_Heading_PrintHTML.good R) (g_Heading_PrintHTML.eq R x0 x1 w) h
/- 207 internal/strconv.FormatInt -/
namespace g_internal_strconv_FormatInt
noncomputable def body : Code := bodyOf Tryz.f207
def k2 (R : EP) (x0 : Int) (x5 : Nat) (x6 : Int) (w : World) : Prop :=
 callE P i_internal_strconv_numDigits #[.int .u64 x6] (fun e w8 => ∃ (r7 : Int), e = .returned (.int .i64 r7) ∧
 ∃ (r9q : OA), ∃ (r9n : Nat), ∃ (r9c : Nat), ∃ w10, (Instr.sliceAt ty_24_uint8 (.pointer (some ⟨x5, 0, none⟩)) (some (.int .i64 1)) (some (.int .i64 (IntKind.i64.wrap (1 + r7)))) none).run P w8 = .ok (.slice r9q r9n r9c) w10 ∧
 callE P i_internal_strconv_formatBase10 #[.slice r9q r9n r9c, .int .u64 x6] (fun e w12 => e = .returned (.tuple #[]) ∧
 br (decide (x0 < 0))
 (0 ≤ (0 : Int) ∧ 0 < (24 : Int) ∧
 stV w12 ⟨x5, 0, none⟩ (.int .u8 45) fun w13 =>
 ∃ (r14q : OA), ∃ (r14n : Nat), ∃ (r14c : Nat), ∃ w15, (Instr.sliceAt ty_24_uint8 (.pointer (some ⟨x5, 0, none⟩)) none (some (.int .i64 (IntKind.i64.wrap (1 + r7)))) none).run P w13 = .ok (.slice r14q r14n r14c) w15 ∧
 ∃ (r16 : BA), ∃ w17, (convert ty_S_uint8 ty_string (.slice r14q r14n r14c)).run P w15 = .ok (.string r16) w17 ∧
 R (.returned (.string r16)) w17)
 (∃ (r18q : OA), ∃ (r18n : Nat), ∃ (r18c : Nat), ∃ w19, (Instr.sliceAt ty_24_uint8 (.pointer (some ⟨x5, 0, none⟩)) (some (.int .i64 1)) (some (.int .i64 (IntKind.i64.wrap (1 + r7)))) none).run P w12 = .ok (.slice r18q r18n r18c) w19 ∧
 ∃ (r20 : BA), ∃ w21, (convert ty_S_uint8 ty_string (.slice r18q r18n r18c)).run P w19 = .ok (.string r20) w21 ∧
 R (.returned (.string r20)) w21)) w10) w

def k1 (R : EP) (x0 : Int) (w : World) : Prop :=
 box w #[.int .u8 0, .int .u8 0, .int .u8 0, .int .u8 0, .int .u8 0, .int .u8 0, .int .u8 0, .int .u8 0, .int .u8 0, .int .u8 0, .int .u8 0, .int .u8 0, .int .u8 0, .int .u8 0, .int .u8 0, .int .u8 0, .int .u8 0, .int .u8 0, .int .u8 0, .int .u8 0, .int .u8 0, .int .u8 0, .int .u8 0, .int .u8 0] ty_24_uint8 fun b5 w6 =>
 br (decide (x0 < 0))
 (k2 R x0 b5 (IntKind.u64.wrap (0 - (IntKind.u64.wrap x0))) w6)
 (k2 R x0 b5 (IntKind.u64.wrap x0) w6)

end g_internal_strconv_FormatInt
def g_internal_strconv_FormatInt (R : EP) (x0 : Int) (x1 : Int) (w : World) : Prop :=
 br (x1 == 10)
 (br ((decide (0 ≤ x0)) && (decide (x0 < 100)))
 (callE P i_internal_strconv_small #[.int .i64 x0] (fun e w2 => ∃ (r1 : BA), e = .returned (.string r1) ∧
 R (.returned (.string r1)) w2) w)
 (g_internal_strconv_FormatInt.k1 R x0 w))
 (callE P i_internal_strconv_formatBits #[.slice none 0 0, .int .u64 (IntKind.u64.wrap x0), .int .i64 x1, .bool (decide (x0 < 0)), .bool false] (fun e w4 => ∃ (r3_0q : OA), ∃ (r3_0n : Nat), ∃ (r3_0c : Nat), ∃ (r3_1 : BA), e = .returned (.tuple #[.slice r3_0q r3_0n r3_0c, .string r3_1]) ∧
 R (.returned (.string r3_1)) w4) w)

noncomputable def g_internal_strconv_FormatInt.ac (R : EP) : AC :=
  (.seq (.leaf (sel [0] g_internal_strconv_FormatInt.body)) (.seq (.seq (.leaf (sel [1, 0, 0] g_internal_strconv_FormatInt.body)) (.cond 11 (.seq (.leaf (sel [1, 0, 1, 0, 0] g_internal_strconv_FormatInt.body)) (.mark (leaf [(0, .s (.int .i64))] (g_internal_strconv_FormatInt.k1 R)) (.seq (.leaf (sel [1, 0, 1, 0, 1, 0] g_internal_strconv_FormatInt.body)) (.seq (.leaf (sel [1, 0, 1, 0, 1, 1, 0] g_internal_strconv_FormatInt.body)) (.seq (.leaf (sel [1, 0, 1, 0, 1, 1, 1, 0] g_internal_strconv_FormatInt.body)) (.mark (leaf [(0, .s (.int .i64)), (5, .s .loc), (6, .s (.int .u64))] (g_internal_strconv_FormatInt.k2 R)) (.leaf (sel [1, 0, 1, 0, 1, 1, 1, 1] g_internal_strconv_FormatInt.body)))))))) (.leaf (sel [1, 0, 1, 1] g_internal_strconv_FormatInt.body)))) (.leaf (sel [1, 1] g_internal_strconv_FormatInt.body))))
theorem g_internal_strconv_FormatInt.good (R : EP) : Good P 54 (g_internal_strconv_FormatInt.ac R) (QF P [.tmp 4] R) :=
  ⟨trivial, ⟨⟨trivial, ⟨⟨trivial, ⟨⟨trivial, ⟨trivial, ⟨trivial, ⟨trivial, cutE (by intro x0 x5 x6 ρ w; kernel_rfl)⟩⟩⟩⟩, cutE (by intro x0 ρ w; kernel_rfl)⟩⟩, trivial⟩⟩, trivial⟩⟩
theorem g_internal_strconv_FormatInt.eq (R : EP) (x0 : Int) (x1 : Int) (w : World) : g_internal_strconv_FormatInt R x0 x1 w = vcA P 54 (g_internal_strconv_FormatInt.ac R) (QF P [.tmp 4] R) (fr0 [.int .i64 x0, .int .i64 x1]) w := by kernel_rfl
theorem g_internal_strconv_FormatInt.sound {R : EP} {x0 : Int} {x1 : Int} {w : World} (h : g_internal_strconv_FormatInt R x0 x1 w) : callE P i_internal_strconv_FormatInt #[.int .i64 x0, .int .i64 x1] R w :=
  callE_fin (c := g_internal_strconv_FormatInt.body) Tryz.func207 Tryz.call207 (by kernel_rfl) (by kernel_rfl) (by kernel_rfl) (by kernel_rfl) (by kernel_rfl) (g_internal_strconv_FormatInt.good R) (g_internal_strconv_FormatInt.eq R x0 x1 w) h
/- 206 internal/strconv.Itoa -/
namespace g_internal_strconv_Itoa
noncomputable def body : Code := bodyOf Tryz.f206
end g_internal_strconv_Itoa
def g_internal_strconv_Itoa (R : EP) (x0 : Int) (w : World) : Prop :=
 callE P i_internal_strconv_FormatInt #[.int .i64 x0, .int .i64 10] (fun e w2 => ∃ (r1 : BA), e = .returned (.string r1) ∧
 R (.returned (.string r1)) w2) w

noncomputable def g_internal_strconv_Itoa.ac (R : EP) : AC :=
  (.leaf (sel [] g_internal_strconv_Itoa.body))
theorem g_internal_strconv_Itoa.good (R : EP) : Good P 5 (g_internal_strconv_Itoa.ac R) (QF P [.tmp 2] R) :=
  trivial
theorem g_internal_strconv_Itoa.eq (R : EP) (x0 : Int) (w : World) : g_internal_strconv_Itoa R x0 w = vcA P 5 (g_internal_strconv_Itoa.ac R) (QF P [.tmp 2] R) (fr0 [.int .i64 x0]) w := by kernel_rfl
theorem g_internal_strconv_Itoa.sound {R : EP} {x0 : Int} {w : World} (h : g_internal_strconv_Itoa R x0 w) : callE P i_internal_strconv_Itoa #[.int .i64 x0] R w :=
  callE_fin (c := g_internal_strconv_Itoa.body) Tryz.func206 Tryz.call206 (by kernel_rfl) (by kernel_rfl) (by kernel_rfl) (by kernel_rfl) (by kernel_rfl) (g_internal_strconv_Itoa.good R) (g_internal_strconv_Itoa.eq R x0 w) h
/- 208 internal/strconv.small -/
namespace g_internal_strconv_small
noncomputable def body : Code := bodyOf Tryz.f208
end g_internal_strconv_small
def g_internal_strconv_small (R : EP) (x0 : Int) (w : World) : Prop :=
 br (decide (x0 < 10))
 (0 ≤ x0 ∧ x0 ≤ (IntKind.i64.wrap (x0 + 1)) ∧ (IntKind.i64.wrap (x0 + 1)) ≤ ((ByteArray.mk #[48, 49, 50, 51, 52, 53, 54, 55, 56, 57, 97, 98, 99, 100, 101, 102, 103, 104, 105, 106, 107, 108, 109, 110, 111, 112, 113, 114, 115, 116, 117, 118, 119, 120, 121, 122]).size : Int) ∧
 R (.returned (.string ((ByteArray.mk #[48, 49, 50, 51, 52, 53, 54, 55, 56, 57, 97, 98, 99, 100, 101, 102, 103, 104, 105, 106, 107, 108, 109, 110, 111, 112, 113, 114, 115, 116, 117, 118, 119, 120, 121, 122]).extract (Int.toNat x0) (Int.toNat (IntKind.i64.wrap (x0 + 1)))))) w)
 (0 ≤ (IntKind.i64.wrap (x0 * 2)) ∧ (IntKind.i64.wrap (x0 * 2)) ≤ (IntKind.i64.wrap ((IntKind.i64.wrap (x0 * 2)) + 2)) ∧ (IntKind.i64.wrap ((IntKind.i64.wrap (x0 * 2)) + 2)) ≤ ((ByteArray.mk #[48, 48, 48, 49, 48, 50, 48, 51, 48, 52, 48, 53, 48, 54, 48, 55, 48, 56, 48, 57, 49, 48, 49, 49, 49, 50, 49, 51, 49, 52, 49, 53, 49, 54, 49, 55, 49, 56, 49, 57, 50, 48, 50, 49, 50, 50, 50, 51, 50, 52, 50, 53, 50, 54, 50, 55, 50, 56, 50, 57, 51, 48, 51, 49, 51, 50, 51, 51, 51, 52, 51, 53, 51, 54, 51, 55, 51, 56, 51, 57, 52, 48, 52, 49, 52, 50, 52, 51, 52, 52, 52, 53, 52, 54, 52, 55, 52, 56, 52, 57, 53, 48, 53, 49, 53, 50, 53, 51, 53, 52, 53, 53, 53, 54, 53, 55, 53, 56, 53, 57, 54, 48, 54, 49, 54, 50, 54, 51, 54, 52, 54, 53, 54, 54, 54, 55, 54, 56, 54, 57, 55, 48, 55, 49, 55, 50, 55, 51, 55, 52, 55, 53, 55, 54, 55, 55, 55, 56, 55, 57, 56, 48, 56, 49, 56, 50, 56, 51, 56, 52, 56, 53, 56, 54, 56, 55, 56, 56, 56, 57, 57, 48, 57, 49, 57, 50, 57, 51, 57, 52, 57, 53, 57, 54, 57, 55, 57, 56, 57, 57]).size : Int) ∧
 R (.returned (.string ((ByteArray.mk #[48, 48, 48, 49, 48, 50, 48, 51, 48, 52, 48, 53, 48, 54, 48, 55, 48, 56, 48, 57, 49, 48, 49, 49, 49, 50, 49, 51, 49, 52, 49, 53, 49, 54, 49, 55, 49, 56, 49, 57, 50, 48, 50, 49, 50, 50, 50, 51, 50, 52, 50, 53, 50, 54, 50, 55, 50, 56, 50, 57, 51, 48, 51, 49, 51, 50, 51, 51, 51, 52, 51, 53, 51, 54, 51, 55, 51, 56, 51, 57, 52, 48, 52, 49, 52, 50, 52, 51, 52, 52, 52, 53, 52, 54, 52, 55, 52, 56, 52, 57, 53, 48, 53, 49, 53, 50, 53, 51, 53, 52, 53, 53, 53, 54, 53, 55, 53, 56, 53, 57, 54, 48, 54, 49, 54, 50, 54, 51, 54, 52, 54, 53, 54, 54, 54, 55, 54, 56, 54, 57, 55, 48, 55, 49, 55, 50, 55, 51, 55, 52, 55, 53, 55, 54, 55, 55, 55, 56, 55, 57, 56, 48, 56, 49, 56, 50, 56, 51, 56, 52, 56, 53, 56, 54, 56, 55, 56, 56, 56, 57, 57, 48, 57, 49, 57, 50, 57, 51, 57, 52, 57, 53, 57, 54, 57, 55, 57, 56, 57, 57]).extract (Int.toNat (IntKind.i64.wrap (x0 * 2))) (Int.toNat (IntKind.i64.wrap ((IntKind.i64.wrap (x0 * 2)) + 2)))))) w)

noncomputable def g_internal_strconv_small.ac (R : EP) : AC :=
  (.leaf (sel [] g_internal_strconv_small.body))
theorem g_internal_strconv_small.good (R : EP) : Good P 15 (g_internal_strconv_small.ac R) (QF P [.tmp 2] R) :=
  trivial
theorem g_internal_strconv_small.eq (R : EP) (x0 : Int) (w : World) : g_internal_strconv_small R x0 w = vcA P 15 (g_internal_strconv_small.ac R) (QF P [.tmp 2] R) (fr0 [.int .i64 x0]) w := by kernel_rfl
theorem g_internal_strconv_small.sound {R : EP} {x0 : Int} {w : World} (h : g_internal_strconv_small R x0 w) : callE P i_internal_strconv_small #[.int .i64 x0] R w :=
  callE_fin (c := g_internal_strconv_small.body) Tryz.func208 Tryz.call208 (by kernel_rfl) (by kernel_rfl) (by kernel_rfl) (by kernel_rfl) (by kernel_rfl) (g_internal_strconv_small.good R) (g_internal_strconv_small.eq R x0 w) h
/- 203 strconv.Itoa -/
namespace g_strconv_Itoa
noncomputable def body : Code := bodyOf Tryz.f203
end g_strconv_Itoa
def g_strconv_Itoa (R : EP) (x0 : Int) (w : World) : Prop :=
 callE P i_internal_strconv_Itoa #[.int .i64 x0] (fun e w2 => ∃ (r1 : BA), e = .returned (.string r1) ∧
 R (.returned (.string r1)) w2) w

noncomputable def g_strconv_Itoa.ac (R : EP) : AC :=
  (.leaf (sel [] g_strconv_Itoa.body))
theorem g_strconv_Itoa.good (R : EP) : Good P 5 (g_strconv_Itoa.ac R) (QF P [.tmp 2] R) :=
  trivial
theorem g_strconv_Itoa.eq (R : EP) (x0 : Int) (w : World) : g_strconv_Itoa R x0 w = vcA P 5 (g_strconv_Itoa.ac R) (QF P [.tmp 2] R) (fr0 [.int .i64 x0]) w := by kernel_rfl
theorem g_strconv_Itoa.sound {R : EP} {x0 : Int} {w : World} (h : g_strconv_Itoa R x0 w) : callE P i_strconv_Itoa #[.int .i64 x0] R w :=
  callE_fin (c := g_strconv_Itoa.body) Tryz.func203 Tryz.call203 (by kernel_rfl) (by kernel_rfl) (by kernel_rfl) (by kernel_rfl) (by kernel_rfl) (g_strconv_Itoa.good R) (g_strconv_Itoa.eq R x0 w) h
end Go.Proofs.YtmicoampfglaiaaGreatDoor

/- Digits of a number; numeric references as leaves. -/
set_option linter.unusedVariables false
namespace Go.Proofs.YtmicoampfglaiaaGreatDoor
open Go.Proofs Go.IntWalk Go.RowKit
variable {σ : Out} {w : World} {L L' : List Chunk} {R : Ending → World → Prop}
def allDig : List UInt8 := [48, 49, 50, 51, 52, 53, 54, 55, 56, 57, 97, 98, 99, 100, 101, 102]
theorem sub_le (s : List UInt8) (i : Nat) : (sub s i (i + 1)).length ≤ 1 := by
  unfold sub; rw [List.length_drop, List.length_take]; omega
end Go.Proofs.YtmicoampfglaiaaGreatDoor


/- Headings: small functions. -/
set_option linter.unusedVariables false
namespace Go.Proofs.YtmicoampfglaiaaGreatDoor
open Go.Proofs Go.IntWalk Go.RowKit
variable {σ : Out} {w : World} {L L' : List Chunk} {R : Ending → World → Prop}
def dig1 (n : Nat) : List UInt8 := sub allDig n (n + 1)
theorem itoa_ok {n : Nat} (hn : n < 10) (h : R (.returned (.string (bs (dig1 n)))) w) : callE P i_strconv_Itoa #[.int .i64 n] R w := by
  refine g_strconv_Itoa.sound ?_
  refine g_internal_strconv_Itoa.sound ?_
  refine g_internal_strconv_FormatInt.sound ?_
  refine br_true rfl (br_true (by simp; omega) ?_)
  refine g_internal_strconv_small.sound ?_
  refine br_true (by simp; omega) ?_
  have hall : (ByteArray.mk #[48, 49, 50, 51, 52, 53, 54, 55, 56, 57, 97, 98, 99, 100, 101, 102, 103, 104, 105, 106, 107, 108, 109, 110, 111, 112, 113, 114, 115, 116, 117, 118, 119, 120, 121, 122]) = bs [48, 49, 50, 51, 52, 53, 54, 55, 56, 57, 97, 98, 99, 100, 101, 102, 103, 104, 105, 106, 107, 108, 109, 110, 111, 112, 113, 114, 115, 116, 117, 118, 119, 120, 121, 122] := rfl
  rw [hall, i64_inc (by omega)]
  refine ⟨by omega, by omega, by rw [bs_size]; simp; omega, ?_⟩
  rw [Int.toNat_natCast, Int.toNat_natCast, bs_extract]
  have e : (([48, 49, 50, 51, 52, 53, 54, 55, 56, 57, 97, 98, 99, 100, 101, 102, 103, 104, 105, 106, 107, 108, 109, 110, 111, 112, 113, 114, 115, 116, 117, 118, 119, 120, 121, 122] : List UInt8).take (n + 1)).drop n = dig1 n := by
    have : n = 0 ∨ n = 1 ∨ n = 2 ∨ n = 3 ∨ n = 4 ∨ n = 5 ∨ n = 6 ∨ n = 7 ∨ n = 8 ∨ n = 9 := by omega
    rcases this with h | h | h | h | h | h | h | h | h | h <;> (subst h; rfl)
  rw [e]
  exact ⟨_, rfl, _, rfl, _, rfl, h⟩
end Go.Proofs.YtmicoampfglaiaaGreatDoor


set_option linter.unusedVariables false
set_option maxRecDepth 20000
namespace Go.Proofs.YtmicoampfglaiaaGreatDoor
open Go.Proofs
/- 20 pub-paratext/spec.EscapeHTML -/
namespace g_spec_EscapeHTML
noncomputable def body : Code := bodyOf Tryz.f20
def bl1 (R : EP) (Xa : BA → BA → Int → WP) (x0 : BA) (x3 : BA) (x4 : Int) (w : World) : Prop :=
 br (decide (x4 < (x0.size : Int)))
 (0 ≤ x4 ∧ x4 < (x0.size : Int) ∧
 br ((bt x0 x4) == 38)
 (((x3.size + (ByteArray.mk #[38, 97, 109, 112, 59]).size : Nat) : Int) ≤ IntKind.i64.max ∧
 Xa x0 (x3 ++ (ByteArray.mk #[38, 97, 109, 112, 59])) (IntKind.i64.wrap (x4 + 1)) w)
 (br ((bt x0 x4) == 60)
 (((x3.size + (ByteArray.mk #[38, 108, 116, 59]).size : Nat) : Int) ≤ IntKind.i64.max ∧
 Xa x0 (x3 ++ (ByteArray.mk #[38, 108, 116, 59])) (IntKind.i64.wrap (x4 + 1)) w)
 (br ((bt x0 x4) == 62)
 (((x3.size + (ByteArray.mk #[38, 103, 116, 59]).size : Nat) : Int) ≤ IntKind.i64.max ∧
 Xa x0 (x3 ++ (ByteArray.mk #[38, 103, 116, 59])) (IntKind.i64.wrap (x4 + 1)) w)
 (br ((bt x0 x4) == 34)
 (((x3.size + (ByteArray.mk #[38, 113, 117, 111, 116, 59]).size : Nat) : Int) ≤ IntKind.i64.max ∧
 Xa x0 (x3 ++ (ByteArray.mk #[38, 113, 117, 111, 116, 59])) (IntKind.i64.wrap (x4 + 1)) w)
 (0 ≤ x4 ∧ x4 ≤ (IntKind.i64.wrap (x4 + 1)) ∧ (IntKind.i64.wrap (x4 + 1)) ≤ (x0.size : Int) ∧
 ((x3.size + (x0.extract (Int.toNat x4) (Int.toNat (IntKind.i64.wrap (x4 + 1)))).size : Nat) : Int) ≤ IntKind.i64.max ∧
 Xa x0 (x3 ++ (x0.extract (Int.toNat x4) (Int.toNat (IntKind.i64.wrap (x4 + 1))))) (IntKind.i64.wrap (x4 + 1)) w)))))
 (R (.returned (.string x3)) w)
def l1 (R : EP) (x0 : BA) (x3 : BA) (x4 : Int) (w : World) : Prop :=
  ∀ X : BA → BA → Int → WP, (∀ x0 x3 x4 w, bl1 R X x0 x3 x4 w → X x0 x3 x4 w) → X x0 x3 x4 w

noncomputable def al1 (R : EP) (Xa : BA → BA → Int → WP) : AC :=
  (.leaf (sel [1, 1, 0, 1, 0, 0] body))
end g_spec_EscapeHTML
def g_spec_EscapeHTML (R : EP) (x0 : BA) (w : World) : Prop :=
 g_spec_EscapeHTML.l1 R x0 (ByteArray.mk #[]) 0 w

noncomputable def g_spec_EscapeHTML.ac (R : EP) : AC :=
  (.seq (.leaf (sel [0] g_spec_EscapeHTML.body)) (.seq (.leaf (sel [1, 0] g_spec_EscapeHTML.body)) (.seq (.seq (.leaf (sel [1, 1, 0, 0] g_spec_EscapeHTML.body)) (.block 0 (.loop (leaf [(0, .s .str), (3, .s .str), (4, .s (.int .i64))] (g_spec_EscapeHTML.l1 R)) (sel [1, 1, 0, 1, 0, 0] g_spec_EscapeHTML.body)))) (.leaf (sel [1, 1, 1] g_spec_EscapeHTML.body)))))
theorem g_spec_EscapeHTML.good (R : EP) : Good P 38 (g_spec_EscapeHTML.ac R) (QF P [.tmp 2] R) :=
  ⟨trivial, ⟨trivial, ⟨⟨trivial, (loopG (g_spec_EscapeHTML.al1 R) (g_spec_EscapeHTML.bl1 R) (fun _ => by kernel_rfl) (fun Xa => trivial) (fun Xa => by intro x0 x3 x4 ρ w; kernel_rfl) (fun X h _ _ _ _ g => g X h))⟩, trivial⟩⟩⟩
theorem g_spec_EscapeHTML.eq (R : EP) (x0 : BA) (w : World) : g_spec_EscapeHTML R x0 w = vcA P 38 (g_spec_EscapeHTML.ac R) (QF P [.tmp 2] R) (fr0 [.string x0]) w := by kernel_rfl
theorem g_spec_EscapeHTML.sound {R : EP} {x0 : ByteArray} {w : World} (h : g_spec_EscapeHTML R x0 w) : callE P i_spec_EscapeHTML #[.string x0] R w :=
  callE_fin (c := g_spec_EscapeHTML.body) Tryz.func20 Tryz.call20 (by kernel_rfl) (by kernel_rfl) (by kernel_rfl) (by kernel_rfl) (by kernel_rfl) (g_spec_EscapeHTML.good R) (g_spec_EscapeHTML.eq R x0 w) h
end Go.Proofs.YtmicoampfglaiaaGreatDoor

/- Small functions of the laws and of the reference: printable, EscapeHTML. -/
set_option linter.unusedVariables false
namespace Go.Proofs.YtmicoampfglaiaaGreatDoor
open Go.Proofs Go.IntWalk Go.RowKit
variable {σ : Out} {w : World} {L L' : List Chunk} {R : Ending → World → Prop}
theorem escB_cases (c : UInt8) : (c = 38 ∧ escB htmlPs c = [38, 97, 109, 112, 59]) ∨ (c = 60 ∧ escB htmlPs c = [38, 108, 116, 59]) ∨ (c = 62 ∧ escB htmlPs c = [38, 103, 116, 59]) ∨ (c = 34 ∧ escB htmlPs c = [38, 113, 117, 111, 116, 59]) ∨ (c ≠ 38 ∧ c ≠ 60 ∧ c ≠ 62 ∧ c ≠ 34 ∧ escB htmlPs c = [c]) := by
  by_cases h1 : c = 38
  · subst h1; exact .inl ⟨rfl, by decide⟩
  by_cases h2 : c = 60
  · subst h2; exact .inr (.inl ⟨rfl, by decide⟩)
  by_cases h3 : c = 62
  · subst h3; exact .inr (.inr (.inl ⟨rfl, by decide⟩))
  by_cases h4 : c = 34
  · subst h4; exact .inr (.inr (.inr (.inl ⟨rfl, by decide⟩)))
  refine .inr (.inr (.inr (.inr ⟨h1, h2, h3, h4, ?_⟩)))
  have ne : ∀ d : UInt8, c ≠ d → (d == c) = false := fun d hd => by simpa using fun h => hd h.symm
  unfold escB htmlPs
  simp [List.find?, ne 34 h4, ne 38 h1, ne 60 h2, ne 62 h3]
theorem escHTML_ok {s : List UInt8} (hs : s.length < 1000000000) (hR : R (.returned (.string (bs (escS htmlPs s)))) w) : callE P i_spec_EscapeHTML #[.string (bs s)] R w := by
  refine g_spec_EscapeHTML.sound ?_
  intro X hX
  have hmax : IntKind.i64.max = 9223372036854775807 := rfl
  have key : ∀ k i, i + k = s.length → X (bs s) (bs (escS htmlPs (s.take i))) (i : Int) w := by
    intro k
    induction k with
    | zero =>
      intro i hi
      refine hX _ _ _ _ (br_false (by simp; omega) ?_)
      rw [List.take_of_length_le (by omega)]; exact hR
    | succ k ih =>
      intro i hi
      have hil : i < s.length := by omega
      have hlen := escS_length (ps := htmlPs) (by decide) (s.take i)
      rw [List.length_take] at hlen
      have hst : escS htmlPs (s.take (i + 1)) = escS htmlPs (s.take i) ++ escB htmlPs s[i] := by
        rw [List.take_succ_eq_append_getElem hil, escS_append]; simp [escS]
      have next := ih (i + 1) (by omega)
      rw [hst] at next
      refine hX _ _ _ _ (br_true (by simp; omega) ⟨by omega, by simp; omega, ?_⟩)
      rw [bt_beq hil 38 38 rfl, bt_beq hil 60 60 rfl, bt_beq hil 62 62 rfl, bt_beq hil 34 34 rfl, i64_inc (by omega)]
      rw [show ByteArray.mk #[38, 97, 109, 112, 59] = bs [38, 97, 109, 112, 59] from rfl, show ByteArray.mk #[38, 108, 116, 59] = bs [38, 108, 116, 59] from rfl, show ByteArray.mk #[38, 103, 116, 59] = bs [38, 103, 116, 59] from rfl, show ByteArray.mk #[38, 113, 117, 111, 116, 59] = bs [38, 113, 117, 111, 116, 59] from rfl]
      rcases escB_cases s[i] with ⟨h, he⟩ | ⟨h, he⟩ | ⟨h, he⟩ | ⟨h, he⟩ | ⟨h1, h2, h3, h4, he⟩
      · rw [he] at next
        refine br_true (by simpa using h) ⟨by rw [hmax]; simp; omega, ?_⟩
        rw [bs_append]; exact next
      · rw [he] at next
        refine br_false (by rw [h]; decide) (br_true (by simpa using h) ⟨by rw [hmax]; simp; omega, ?_⟩)
        rw [bs_append]; exact next
      · rw [he] at next
        refine br_false (by rw [h]; decide) (br_false (by rw [h]; decide) (br_true (by simpa using h) ⟨by rw [hmax]; simp; omega, ?_⟩))
        rw [bs_append]; exact next
      · rw [he] at next
        refine br_false (by rw [h]; decide) (br_false (by rw [h]; decide) (br_false (by rw [h]; decide) (br_true (by simpa using h) ⟨by rw [hmax]; simp; omega, ?_⟩)))
        rw [bs_append]; exact next
      · rw [he] at next
        refine br_false (by simpa using h1) (br_false (by simpa using h2) (br_false (by simpa using h3) (br_false (by simpa using h4) ?_)))
        have e1 : (s.take (i + 1)).drop i = [s[i]] := by
          rw [List.take_succ_eq_append_getElem hil, List.drop_append_of_le_length (by rw [List.length_take]; omega), List.drop_eq_nil_of_le (by rw [List.length_take]; omega)]; rfl
        rw [Int.toNat_natCast, Int.toNat_natCast, bs_extract, e1, bs_append]
        refine ⟨by omega, by omega, by simp; omega, by rw [hmax]; simp; omega, next⟩
  exact key s.length 0 (by omega)
end Go.Proofs.YtmicoampfglaiaaGreatDoor


/- A heading prints itself. -/
set_option linter.unusedVariables false
namespace Go.Proofs.YtmicoampfglaiaaGreatDoor
open Go.Proofs Go.IntWalk Go.RowKit
variable {σ : Out} {w : World} {L L' : List Chunk} {R : Ending → World → Prop}
def headC (b s e lv t : Nat) (id : List UInt8) : Chunk := (b, cel [.int .i64 s, .int .i64 e, .int .i64 lv, .pointer (some ⟨t, 0, none⟩), .string (bs id)] ty_Heading)
theorem meth_Heading : methB P ty_P_Heading "PrintHTML" i_Heading_PrintHTML = true := by kernel_rfl
/-- What stands ahead of a heading's text, and behind it. -/
def hOpen (lv : Nat) (id : List UInt8) : List UInt8 := [60, 104] ++ dig1 lv ++ (if id = [] then [] else [32, 105, 100, 61, 34] ++ escS htmlPs id ++ [34]) ++ [62]
def hClose (lv : Nat) : List UInt8 := [60, 47, 104] ++ dig1 lv ++ [62, 10]
theorem dig1_length (n : Nat) : (dig1 n).length ≤ 1 := sub_le _ _
theorem head_prints {nb t s e lv : Nat} {s' e' : Nat} {q : Option Addr} {n c : Nat} {raw id : List UInt8} {vs : List Value} {RM KM KM' : List Chunk} {f : List UInt8 → List UInt8} (hS : Sl 1 ty_Inline q n c vs RM) (hn : n < 4611686018427387904) (hlv : lv < 10) (hid : id.length < 1000000)
    (hP : PrintsL "PrintHTML" vs KM KM' f) :
    Prints "PrintHTML" (.iface ty_P_Heading (.pointer (some ⟨nb, 0, none⟩))) (headC nb s e lv t id :: textC t s' e' q n c raw :: (RM ++ KM)) (headC nb s e lv t id :: textC t s' e' q n c raw :: (RM ++ KM')) (fun l => f (l ++ hOpen lv id) ++ hClose lv) := by
  have hmax : IntKind.i64.max = 9223372036854775807 := rfl
  have hd1 := dig1_length lv
  have hesc := escS_length (ps := htmlPs) (by decide) id
  refine ⟨fun l => ?_, fun σ R b l M L w hB h hb hR => enter_meth meth_Heading ?_⟩
  · have := hP.mono (l ++ hOpen lv id)
    simp only [List.length_append] at *; omega
  refine g_Heading_PrintHTML.sound ?_
  have hm := hP.mono (l ++ hOpen lv id)
  rw [List.length_append] at hb hm
  have hlo : (hOpen lv id).length ≤ 8000100 := by
    unfold hOpen
    simp only [List.length_append, List.length_cons, List.length_nil]
    split
    · simp only [List.length_nil]; omega
    · simp only [List.length_append, List.length_cons, List.length_nil]; omega
  refine nilP_some ⟨_, Sat.ld h (List.mem_append_right _ (.head _)) rfl, ?_⟩
  refine itoa_ok hlv ⟨_, rfl, ?_⟩
  rw [show ByteArray.mk #[60, 104] = bs [60, 104] from rfl, bs_append]
  refine ⟨by rw [hmax, bs_size, bs_size]; simp only [List.length_cons, List.length_nil]; omega, ?_⟩
  have tail : ∀ w M, Buf b (l ++ ([60, 104] ++ dig1 lv ++ (if id = [] then [] else [32, 105, 100, 61, 34] ++ escS htmlPs id ++ [34]))) M → Sat σ w (M ++ (headC nb s e lv t id :: textC t s' e' q n c raw :: (RM ++ KM) ++ L)) → g_Heading_PrintHTML.k1 R (some ⟨nb, 0, none⟩) (some ⟨b, 0, none⟩) w := by
    intro w M hB h
    have hl1 : (l ++ ([60, 104] ++ dig1 lv ++ (if id = [] then [] else [32, 105, 100, 61, 34] ++ escS htmlPs id ++ [34]))).length + 1 = l.length + (hOpen lv id).length := by
      unfold hOpen; simp only [List.length_append, List.length_cons, List.length_nil]; omega
    refine writeB_ok (k := 62) hB h (by omega) fun w M hB h => ⟨_, rfl, ?_⟩
    have e1 : l ++ ([60, 104] ++ dig1 lv ++ (if id = [] then [] else [32, 105, 100, 61, 34] ++ escS htmlPs id ++ [34])) ++ [62] = l ++ hOpen lv id := by
      unfold hOpen; simp only [List.append_assoc]
    rw [e1] at hB
    refine nilP_some ⟨_, Sat.ld h (List.mem_append_right _ (.head _)) rfl, ?_⟩
    have h : Sat σ w (M ++ (textC t s' e' q n c raw :: (RM ++ (KM ++ (headC nb s e lv t id :: L))))) := h.re (by intro _; simp only [List.append_eq, cnt_append, cnt_cons, cnt_nil] <;> omega)
    refine textPrint_ok hS hn hP hB h (by omega) fun w M hB h => ⟨rfl, ?_⟩
    have h : Sat σ w (M ++ (headC nb s e lv t id :: (textC t s' e' q n c raw :: (RM ++ KM') ++ L))) := h.re (by intro _; simp only [List.append_eq, cnt_append, cnt_cons, cnt_nil] <;> omega)
    refine nilP_some ⟨_, Sat.ld h (List.mem_append_right _ (.head _)) rfl, ?_⟩
    refine itoa_ok hlv ⟨_, rfl, ?_⟩
    rw [show ByteArray.mk #[60, 47, 104] = bs [60, 47, 104] from rfl, show ByteArray.mk #[62, 10] = bs [62, 10] from rfl, bs_append, bs_append]
    refine ⟨by rw [hmax, bs_size, bs_size]; simp only [List.length_cons, List.length_nil]; omega, by rw [hmax, bs_size, bs_size]; simp only [List.length_append, List.length_cons, List.length_nil]; omega, ?_⟩
    refine writeS_ok (s := hClose lv) hB h (by omega) fun w M hB h => ⟨_, _, rfl, ?_⟩
    exact hR w M hB (h.re (by intro _; simp only [List.append_eq, cnt_append, cnt_cons, cnt_nil] <;> omega))
  refine writeS_ok (s := [60, 104] ++ dig1 lv) hB h (by simp only [List.length_append, List.length_cons, List.length_nil]; omega) fun w M hB h => ⟨_, _, rfl, ?_⟩
  refine nilP_some ⟨_, Sat.ld h (List.mem_append_right _ (.head _)) rfl, ?_⟩
  by_cases hid0 : id = []
  · rw [if_pos hid0, List.append_nil] at tail
    refine br_false (by rw [bs_toList, mk_toList, hid0]; rfl) ?_
    exact tail w M hB h
  · rw [if_neg hid0] at tail
    refine br_true (by rw [bs_toList, mk_toList]; simpa using hid0) ?_
    refine Sat.tk h fun w h => ?_
    refine nilP_some ⟨_, Sat.ld h (List.mem_append_right _ (.head _)) rfl, ?_⟩
    refine htmlQuoteEscaper_ok h fun w1 eb h1 => ⟨_, _, _, rfl, h.same h1 (List.mem_append_right _ (.head _)) (.tail _ (List.mem_append_right _ (.head _))) 1, ?_⟩
    refine pairsReplace_ok (ps := htmlPs) h1 (.head _) (by decide) (by decide) (by omega) fun w h => ⟨_, rfl, ?_⟩
    rw [show ByteArray.mk #[32, 105, 100, 61, 34] = bs [32, 105, 100, 61, 34] from rfl, show ByteArray.mk #[34] = bs [34] from rfl, bs_append, bs_append]
    refine ⟨by rw [hmax, bs_size, bs_size]; simp only [List.length_cons, List.length_nil]; omega, by rw [hmax, bs_size, bs_size]; simp only [List.length_append, List.length_cons, List.length_nil]; omega, ?_⟩
    have h : Sat σ w (M ++ (headC nb s e lv t id :: textC t s' e' q n c raw :: (RM ++ KM) ++ L)) := h.less [(eb, cel (pairC htmlPs) ty_string)] (by intro _; simp only [List.append_eq, cnt_append, cnt_cons, cnt_nil] <;> omega)
    refine writeS_ok (s := [32, 105, 100, 61, 34] ++ escS htmlPs id ++ [34]) hB h (by simp only [List.length_append, List.length_cons, List.length_nil]; omega) fun w M hB h => ⟨_, _, rfl, ?_⟩
    rw [List.append_assoc l] at hB
    exact tail w M hB h
end Go.Proofs.YtmicoampfglaiaaGreatDoor


/- Documents of many lines: a line under a paragraph makes it a heading. -/
set_option linter.unusedVariables false
namespace Go.Proofs.YtmicoampfglaiaaGreatDoor
open Go.Proofs Go.IntWalk Go.RowKit
variable {σ : Out} {w : World} {L L' : List Chunk} {R : Ending → World → Prop}
theorem Sl.pop {e : TypeId} {q : Option Addr} {n c : Nat} {vs : List Value} {v : Value} {M : List Chunk} (h : Sl 1 e q (n + 1) c (vs ++ [v]) M) : Sl 1 e q n c vs M := by
  obtain ⟨h1, h2, ⟨_, h3, _⟩ | ⟨b, sp, rfl, rfl, h3⟩⟩ := h
  · omega
  · refine ⟨by simp at h1; omega, by omega, .inr ⟨b, v :: sp, rfl, by simp, by simpa using h3⟩⟩
theorem quote_first {c nl : UInt8} {s : List UInt8} (hc : isST c = false) (h : c ≠ 62) : (lnOf (c :: s) nl).quote = none := by
  unfold Ln.quote; rw [lead_first hc]; simp [Ln.trimC, lnOf, h]
theorem heading_first {c nl : UInt8} {s : List UInt8} (hc : isST c = false) (h : c ≠ 35) : (lnOf (c :: s) nl).heading = none := by
  unfold Ln.heading; rw [lead_first hc]; simp [Ln.trimC, lnOf, h]
/-- A line of n marks c. -/
def markLn (c : UInt8) (n : Nat) (nl : UInt8) : Ln := lnOf (List.replicate n c) nl
def lvOf (c : UInt8) : Nat := if c = 61 then 1 else 2
theorem trimSetext_yes {b nb n : Nat} {c nl : UInt8} {v : Int} {e : TypeId} (hc : c = 61 ∨ c = 45) (hn : 1 ≤ n) (hn2 : n < 1000000) (h : Sat σ w ((markLn c n nl).at b :: (nb, cel [.int .i64 v] e) :: L))
    (hR : ∀ w, Sat σ w ((markLn c n nl).at b :: (nb, cel [.int .i64 (lvOf c : Int)] e) :: L) → R (.returned (.bool true)) w) : callE P i_line_trimSetext #[.pointer (some ⟨b, 0, none⟩), .pointer (some ⟨nb, 0, none⟩)] R w := by
  have hst : isST c = false := by rcases hc with rfl | rfl <;> decide
  obtain ⟨m, rfl⟩ : ∃ m, n = m + 1 := ⟨n - 1, by omega⟩
  have hl : (markLn c (m + 1) nl).ok := lnOf_ok (by simp; omega)
  have hml : markLn c (m + 1) nl = lnOf (c :: List.replicate m c) nl := rfl
  refine g_line_trimSetext.sound ?_
  repeat (first | refine nilP_some ?_ | refine Sat.tk h fun w h => ?_ | refine ⟨_, Sat.ld h (by first | assumption | (repeat (first | exact .head _ | apply List.Mem.tail))) (by exact rfl), ?_⟩ | refine ⟨_, _, _, Sat.ld h (by first | assumption | (repeat (first | exact .head _ | apply List.Mem.tail))) (by exact rfl), ?_⟩ | refine Sat.st h (k := 0) rfl (Nat.le_of_ble_eq_true rfl) trivial (by first | (dsimp only [List.set]; exact rfl) | exact rfl) fun w h => ?_ | refine Sat.st h (k := 1) rfl (Nat.le_of_ble_eq_true rfl) trivial (by first | (dsimp only [List.set]; exact rfl) | exact rfl) fun w h => ?_ | refine Sat.st h (k := 2) rfl (Nat.le_of_ble_eq_true rfl) trivial (by first | (dsimp only [List.set]; exact rfl) | exact rfl) fun w h => ?_ | refine Sat.st h (k := 3) rfl (Nat.le_of_ble_eq_true rfl) trivial (by first | (dsimp only [List.set]; exact rfl) | exact rfl) fun w h => ?_ | refine Sat.st h (k := 4) rfl (Nat.le_of_ble_eq_true rfl) trivial (by first | (dsimp only [List.set]; exact rfl) | exact rfl) fun w h => ?_ | refine Sat.st h (k := 5) rfl (Nat.le_of_ble_eq_true rfl) trivial (by first | (dsimp only [List.set]; exact rfl) | exact rfl) fun w h => ?_ | refine Sat.st h (k := 6) rfl (Nat.le_of_ble_eq_true rfl) trivial (by first | (dsimp only [List.set]; exact rfl) | exact rfl) fun w h => ?_ | refine Sat.bx h fun b0 w h => ?_)
  have h : Sat σ _ ((markLn c (m + 1) nl).at b0 :: (markLn c (m + 1) nl).at b :: (nb, cel [.int .i64 v] e) :: L) := h
  refine lead_ok (max := 3) h hl (by decide) fun w h => ⟨_, rfl, ?_⟩
  rw [hml, lead_first hst] at h
  have hl' : (lnOf (c :: List.replicate m c) nl).ok := hl
  refine peek_ok h (by first | assumption | (repeat (first | exact .head _ | apply List.Mem.tail))) hl' fun w h => ⟨_, rfl, ?_⟩
  rw [show (lnOf (c :: List.replicate m c) nl).peek = c from rfl, u8b _ 45 45 rfl, u8b _ 61 61 rfl]
  refine br_true (by rcases hc with rfl | rfl <;> decide) ?_
  intro X hX
  have key : ∀ k i w, i + k = m + 1 → Sat σ w ({ lnOf (List.replicate (m + 1) c) nl with i := i }.at b0 :: (markLn c (m + 1) nl).at b :: (nb, cel [.int .i64 v] e) :: L) → X (some ⟨nb, 0, none⟩) b0 (c.toNat : Int) w := by
    intro k
    induction k with
    | zero =>
      intro i w hi h
      obtain rfl : i = m + 1 := hi
      have hok : ({ lnOf (List.replicate (m + 1) c) nl with i := m + 1 } : Ln).ok := ⟨by simp [lnOf], by simp [lnOf], by simp [lnOf]; omega, by simp [lnOf]⟩
      refine hX _ _ _ _ ?_
      refine trimC_ok (c := c) rfl h hok ?_
      have ht : ({ lnOf (List.replicate (m + 1) c) nl with i := m + 1 } : Ln).trimC c = none := by simp [Ln.trimC, lnOf]
      rw [ht]
      intro w h
      refine ⟨_, rfl, br_false rfl ?_⟩
      refine skipSpace_ok h hok fun w h => ⟨rfl, ?_⟩
      refine eof_ok h (.head _) fun w h => ⟨_, rfl, ?_⟩
      have hsk : decide (({ lnOf (List.replicate (m + 1) c) nl with i := m + 1 } : Ln).skip.text.length ≤ ({ lnOf (List.replicate (m + 1) c) nl with i := m + 1 } : Ln).skip.i) = true := by
        have hd : (List.replicate (m + 1) c).drop (m + 1) = [] := List.drop_eq_nil_of_le (by simp)
        simp [Ln.skip, lnOf, hd]
      rw [hsk]
      refine br_true rfl ?_
      rw [u8b _ 61 61 rfl]
      have h : Sat σ w ((nb, cel [.int .i64 v] e) :: ({ lnOf (List.replicate (m + 1) c) nl with i := m + 1 } : Ln).skip.at b0 :: (markLn c (m + 1) nl).at b :: L) := h.re (by intro _; simp only [List.append_eq, cnt_append, cnt_cons, cnt_nil] <;> omega)
      rcases hc with rfl | rfl
      · refine br_true rfl (nilP_some ?_)
        refine Sat.st h (k := 0) rfl (Nat.le_of_ble_eq_true rfl) trivial (by first | (dsimp only [List.set]; exact rfl) | exact rfl) fun w h => ?_
        have h : Sat σ w ((nb, cel [.int .i64 ((lvOf 61 : Nat) : Int)] e) :: ({ lnOf (List.replicate (m + 1) 61) nl with i := m + 1 } : Ln).skip.at b0 :: (markLn 61 (m + 1) nl).at b :: L) := h
        exact hR w (h.less [({ lnOf (List.replicate (m + 1) 61) nl with i := m + 1 } : Ln).skip.at b0] (by intro _; simp only [List.append_eq, cnt_append, cnt_cons, cnt_nil] <;> omega))
      · refine br_false rfl (nilP_some ?_)
        refine Sat.st h (k := 0) rfl (Nat.le_of_ble_eq_true rfl) trivial (by first | (dsimp only [List.set]; exact rfl) | exact rfl) fun w h => ?_
        have h : Sat σ w ((nb, cel [.int .i64 ((lvOf 45 : Nat) : Int)] e) :: ({ lnOf (List.replicate (m + 1) 45) nl with i := m + 1 } : Ln).skip.at b0 :: (markLn 45 (m + 1) nl).at b :: L) := h
        exact hR w (h.less [({ lnOf (List.replicate (m + 1) 45) nl with i := m + 1 } : Ln).skip.at b0] (by intro _; simp only [List.append_eq, cnt_append, cnt_cons, cnt_nil] <;> omega))
    | succ k ih =>
      intro i w hi h
      have hok : ({ lnOf (List.replicate (m + 1) c) nl with i := i } : Ln).ok := ⟨by simp [lnOf]; omega, by simp [lnOf], by simp [lnOf]; omega, by simp [lnOf]⟩
      refine hX _ _ _ _ ?_
      refine trimC_ok (c := c) rfl h hok ?_
      have ht : ({ lnOf (List.replicate (m + 1) c) nl with i := i } : Ln).trimC c = some { lnOf (List.replicate (m + 1) c) nl with i := i + 1 } := by
        have hg : (List.replicate (m + 1) c)[i]? = some c := by rw [List.getElem?_replicate, if_pos (by omega)]
        simp [Ln.trimC, lnOf, hg]; try omega
      rw [ht]
      intro w h
      refine ⟨_, rfl, br_true rfl ?_⟩
      exact ih (i + 1) w (by omega) h
  exact key (m + 1) 0 w (by omega) h
def headDB (hb t s e s' e' lv : Nat) (raw : List UInt8) : DB := ⟨.iface ty_P_Heading (.pointer (some ⟨hb, 0, none⟩)), [headC hb s e lv t []], [⟨t, s', e', raw⟩]⟩
theorem headDB_shows {F : List UInt8 → List UInt8 → List UInt8} {hb t s e s' e' lv : Nat} {raw : List UInt8} (hlv : lv < 10) : (headDB hb t s e s' e' lv raw).shows F (fun l => F raw (l ++ hOpen lv []) ++ hClose lv) := by
  intro ts ht
  cases ht with
  | cons h1 h2 h3 =>
    cases h3
    rw [← h2]
    have := head_prints (nb := hb) (t := t) (s := s) (e := e) (s' := s') (e' := e') (raw := raw) (id := []) h1.1 (by have := h1.2.1; omega) hlv (by simp) h1.2.2
    simpa [headDB, fills, fills', fill, fill'] using this
theorem ta_para_yes (q : Option Addr) (w : World) : (Instr.typeAssert (.iface ty_P_Paragraph (.pointer q)) ty_Block ty_P_Paragraph true).run P w = .ok (.tuple #[.pointer q, .bool true]) w := by
  have hund : P.underlying ty_P_Paragraph = some (.pointer ty_Paragraph) := by kernel_rfl
  exact ta_yes (by rw [hund]; intro ms h; cases h) hund w
/-- The line takes the paragraph. -/
theorem newSetext_yes {b rb n : Nat} {c nl : UInt8} {p : PS} {D : List DB} {ls : List (List UInt8)} (hc : c = 61 ∨ c = 45) (hn : 1 ≤ n) (hn2 : n < 1000000) (h : DocS σ b rb L D (.para ls) p w) (hd : p.depth = 0) (hf : Leaf.fin (.para ls)) (hD : D.length < 100000) (hX : (txsC D).length < 100000)
    (hR : ∀ w (p' : PS) hb t s e s' e', p'.base = p.base → p'.lineno = p.lineno → DocS σ b rb L (D ++ [headDB hb t s e s' e' (lvOf c) (joinL [10] ls)]) .none p' w → R (.returned (.tuple #[Ln.zero.val, .bool true])) w) :
    callE P i_newSetextHeading #[.pointer (some ⟨b, 0, none⟩), (markLn c n nl).val] R w := by
  obtain ⟨r, obs, M, TM, IM, LM, hr, hs, ht, hI, ⟨qb, s, e, rfl, hp, hs1, hne, hln⟩, h⟩ := h
  refine g_newSetextHeading.sound ?_
  refine Sat.bx h fun b1 w h => ?_
  refine Sat.bx h fun b3 w h => ?_
  refine Sat.bx h fun b5 w h => ?_
  repeat (first | refine nilP_some ?_ | refine Sat.tk h fun w h => ?_ | refine ⟨_, Sat.ld h (by first | assumption | (repeat (first | exact .head _ | apply List.Mem.tail))) (by exact rfl), ?_⟩ | refine ⟨_, _, _, Sat.ld h (by first | assumption | (repeat (first | exact .head _ | apply List.Mem.tail))) (by exact rfl), ?_⟩ | refine Sat.st h (k := 0) rfl (Nat.le_of_ble_eq_true rfl) trivial (by first | (dsimp only [List.set]; exact rfl) | exact rfl) fun w h => ?_ | refine Sat.st h (k := 1) rfl (Nat.le_of_ble_eq_true rfl) trivial (by first | (dsimp only [List.set]; exact rfl) | exact rfl) fun w h => ?_ | refine Sat.st h (k := 2) rfl (Nat.le_of_ble_eq_true rfl) trivial (by first | (dsimp only [List.set]; exact rfl) | exact rfl) fun w h => ?_ | refine Sat.st h (k := 3) rfl (Nat.le_of_ble_eq_true rfl) trivial (by first | (dsimp only [List.set]; exact rfl) | exact rfl) fun w h => ?_ | refine Sat.st h (k := 4) rfl (Nat.le_of_ble_eq_true rfl) trivial (by first | (dsimp only [List.set]; exact rfl) | exact rfl) fun w h => ?_ | refine Sat.st h (k := 5) rfl (Nat.le_of_ble_eq_true rfl) trivial (by first | (dsimp only [List.set]; exact rfl) | exact rfl) fun w h => ?_ | refine Sat.st h (k := 6) rfl (Nat.le_of_ble_eq_true rfl) trivial (by first | (dsimp only [List.set]; exact rfl) | exact rfl) fun w h => ?_ | refine Sat.bx h fun b0 w h => ?_)
  have h : Sat σ _ ((markLn c n nl).at b0 :: (b5, cel [.int .i64 0] ty_int) :: zLn b3 :: (markLn c n nl).at b1 :: (p.at b :: M ++ (IM ++ (TM ++ (LM ++ (ownC D ++ ((txsC D).map TX.chunk ++ L))))))) := h
  have h : Sat σ _ (p.at b :: M ++ ((markLn c n nl).at b0 :: (b5, cel [.int .i64 0] ty_int) :: zLn b3 :: (markLn c n nl).at b1 :: (IM ++ (TM ++ (LM ++ (ownC D ++ ((txsC D).map TX.chunk ++ L))))))) := h.re (by intro _; simp only [List.append_eq, cnt_append, cnt_cons, cnt_nil] <;> omega)
  refine nextB_ok (d := 0) h hs hd (by omega) fun w h => ?_
  refine ⟨_, rfl, ?_⟩
  refine top_ok (l := [r]) h hs (o := paraOB qb s e) rfl (fun w h => ?_) (fun _ => ⟨_, rfl⟩)
  rw [if_pos rfl]
  refine ⟨_, rfl, _, w, eq_para_same qb _ _ w, br_true rfl ?_⟩
  have h : Sat σ _ ((markLn c n nl).at b0 :: (b5, cel [.int .i64 0] ty_int) :: (p.at b :: M ++ (zLn b3 :: (markLn c n nl).at b1 :: (IM ++ (TM ++ (LM ++ (ownC D ++ ((txsC D).map TX.chunk ++ L)))))))) := h.re (by intro _; simp only [List.append_eq, cnt_append, cnt_cons, cnt_nil] <;> omega)
  refine trimSetext_yes hc hn hn2 h fun w h => ⟨_, rfl, br_true rfl ?_⟩
  generalize hlv : lvOf c = lv at h hR
  -- what lies beside
  have hdoc : DocS σ b rb ((b5, cel [.int .i64 lv] ty_int) :: zLn b3 :: ((markLn c n nl).at b0 :: (markLn c n nl).at b1 :: L)) D (.para ls) p w :=
    ⟨r, _, M, TM, IM, LM, hr, hs, ht, hI, ⟨qb, s, e, rfl, hp, hs1, hne, hln⟩, h.re (by intro _; simp only [List.append_eq, cnt_append, cnt_cons, cnt_nil] <;> omega)⟩
  refine closeLeaf_ok hdoc hf hD hX fun w p' D' x h1 h2 h3 h4 h5 hdoc => ⟨_, rfl, ?_⟩
  obtain ⟨nb, t, s', e', rfl⟩ := h5
  obtain ⟨r, obs, M, TM, IM, LM, hr, hs, ht, hI, ⟨rfl, rfl⟩, h⟩ := hdoc
  rw [List.map_append] at hI
  have hIl := hI.1
  simp only [List.length_append, List.length_map, List.length_cons, List.length_nil, Nat.mul_one] at hIl
  have hrn : r.n = D.length + 1 := by omega
  rw [ownC_snoc, txsC_snoc] at h
  have hs' : Stk p' ([] ++ [r]) M := hs
  obtain ⟨sb, sp, hq, hM, hsp⟩ := hs.split (by simp)
  obtain ⟨ib, isp, hiq, hIM⟩ := hI.rowAt (by omega)
  have hin : (inner : List Value) → True := fun _ => trivial
  -- last
  refine g_parseState_last.sound ?_
  refine Sat.tk h fun w h => ?_
  refine nilP_some (nilP_some ?_)
  refine ⟨_, _, _, Sat.ld h (by first | assumption | (repeat (first | exact .head _ | apply List.Mem.tail))) (by exact rfl), ?_⟩
  refine ⟨_, _, _, Sat.ld h (by first | assumption | (repeat (first | exact .head _ | apply List.Mem.tail))) (by exact rfl), ?_⟩
  rw [h4, show IntKind.i64.wrap (((1 : Nat) : Int) - 1) = ((0 : Nat) : Int) from rfl, hq]
  refine ⟨by omega, by omega, nilP_some ?_⟩
  refine Sat.tk h fun w h => ?_
  simp only [Addr.add_lit, Nat.zero_add, Int.toNat_natCast, Nat.add_zero, Nat.zero_mul]
  have hms : ∀ {X : List Chunk}, (sb, cel (obCells [r] ++ sp) ty_openBlock) ∈ p'.at b :: M ++ X := by intro X; rw [hM]; simp
  refine ⟨_, _, _, Sat.ld h hms (stk_get (j := 0) (f := 1) (by decide) (last_get (l := []) r)), _, _, _, Sat.ld h hms (stk_get (j := 0) (f := 1) (by decide) (last_get (l := []) r)), ?_⟩
  rw [hrn, show IntKind.i64.wrap (((D.length + 1 : Nat) : Int) - 1) = ((D.length : Nat) : Int) by rw [i64_dec (by omega) (by omega)]; rfl, hiq]
  refine ⟨by omega, by omega, nilP_some ?_⟩
  simp only [Addr.add_lit, Nat.zero_add, Int.toNat_natCast, Nat.mul_one]
  have hmi : (ib, cel (D.map DB.v ++ [(paraDB nb t s' e' (joinL [10] ls)).v] ++ isp) ty_Block) ∈ p'.at b :: M ++ (IM ++ (TM ++ ([] ++ ((ownC D ++ (paraDB nb t s' e' (joinL [10] ls)).own) ++ ((txsC D ++ (paraDB nb t s' e' (joinL [10] ls)).txs).map TX.chunk ++ ((b5, cel [.int .i64 lv] ty_int) :: zLn b3 :: ((markLn c n nl).at b0 :: (markLn c n nl).at b1 :: L))))))) := by
    have : IM = [(ib, cel (D.map DB.v ++ [(paraDB nb t s' e' (joinL [10] ls)).v] ++ isp) ty_Block)] := hIM
    rw [this]; simp
  refine ⟨_, Sat.ld h hmi (by rw [List.append_assoc, List.getElem?_append_right (by simp)]; simp; rfl), ⟨_, rfl, ?_⟩⟩
  refine ⟨_, _, _, ta_para_yes _ w, br_false rfl ?_⟩
  -- deleteLast
  refine g_parseState_deleteLast.sound ?_
  refine Sat.tk h fun w h => ?_
  refine nilP_some (nilP_some ?_)
  refine ⟨_, _, _, Sat.ld h (by first | assumption | (repeat (first | exact .head _ | apply List.Mem.tail))) (by exact rfl), ?_⟩
  refine ⟨_, _, _, Sat.ld h (by first | assumption | (repeat (first | exact .head _ | apply List.Mem.tail))) (by exact rfl), ?_⟩
  rw [h4, show IntKind.i64.wrap (((1 : Nat) : Int) - 1) = ((0 : Nat) : Int) from rfl, hq]
  refine ⟨by omega, by omega, nilP_some ?_⟩
  refine Sat.tk h fun w h => ?_
  simp only [Addr.add_lit, Nat.zero_add, Int.toNat_natCast, Nat.add_zero, Nat.zero_mul]
  refine ⟨_, _, _, Sat.ld h hms (stk_get (j := 0) (f := 1) (by decide) (last_get (l := []) r)), _, _, _, Sat.ld h hms (stk_get (j := 0) (f := 1) (by decide) (last_get (l := []) r)), ?_⟩
  have hcap := hI.2.1
  rw [hrn, show IntKind.i64.wrap (((D.length + 1 : Nat) : Int) - 1) = ((D.length : Nat) : Int) by rw [i64_dec (by omega) (by omega)]; rfl, hiq]
  refine ⟨_, _, _, fun w => sliceTo rowBlock.ht rowBlock.hi ib (D.length + 1) r.c D.length (by omega) (by omega) w, ?_⟩
  have h : Sat σ w (p'.at b :: (sb, cel (obCells [r] ++ sp) ty_openBlock) :: (IM ++ (TM ++ ([] ++ ((ownC D ++ (paraDB nb t s' e' (joinL [10] ls)).own) ++ ((txsC D ++ (paraDB nb t s' e' (joinL [10] ls)).txs).map TX.chunk ++ ((b5, cel [.int .i64 lv] ty_int) :: zLn b3 :: ((markLn c n nl).at b0 :: (markLn c n nl).at b1 :: L)))))))) := by
    rw [hM] at h; exact h
  refine Sat.st h (k := 1) rfl (by rw [List.length_append, obCells_length, List.length_singleton]; omega) trivial rfl fun w h => ?_
  let r2 : OB := { r with q := some ⟨ib, 0, none⟩, n := D.length, c := r.c }
  have est : (obCells [r] ++ sp).set 1 (Value.slice (some ⟨ib, 0, none⟩) D.length r.c) = obCells [r2] ++ sp := stk_set (l := []) (sp := sp) (o := r) (o' := r2) (f := 1) (v := .slice (some ⟨ib, 0, none⟩) D.length r.c) (by decide) rfl
  have hs2 : Stk p' [r2] [(sb, cel (obCells [r2] ++ sp) ty_openBlock)] := by
    refine Stk.mk' hq ?_ (by rw [h4]; rfl) (by simp)
    rw [← hsp]
    simp only [List.length_append, obCells_length, List.length_singleton]
  have hI2 : Sl 1 ty_Block r2.q r2.n r2.c (D.map DB.v) IM := by
    have := hI
    rw [hrn, hiq] at this
    exact this.pop
  refine ⟨trivial, ?_⟩
  have h : Sat σ w (p'.at b :: [(sb, cel (obCells [r2] ++ sp) ty_openBlock)] ++ (IM ++ (TM ++ ([] ++ ((ownC D ++ [paraC nb s' e' t]) ++ ((txsC D ++ (paraDB nb t s' e' (joinL [10] ls)).txs).map TX.chunk ++ ((b5, cel [.int .i64 lv] ty_int) :: zLn b3 :: ((markLn c n nl).at b0 :: (markLn c n nl).at b1 :: L)))))))) := by
    rw [← est]; exact h
  have hmp : ∀ {X Y Z W : List Chunk} {q : Chunk}, paraC nb s' e' t ∈ p'.at b :: [q] ++ (X ++ (Y ++ ([] ++ ((Z ++ [paraC nb s' e' t]) ++ W)))) := by intro X Y Z W q; simp
  have hm5 : ∀ {X Y Z W : List Chunk} {q : Chunk}, (b5, cel [.int .i64 lv] ty_int) ∈ p'.at b :: [q] ++ (X ++ (Y ++ ([] ++ (Z ++ (W ++ ((b5, cel [.int .i64 lv] ty_int) :: zLn b3 :: ((markLn c n nl).at b0 :: (markLn c n nl).at b1 :: L))))))) := by intro X Y Z W q; simp
  refine Sat.tk h fun w h => ?_
  refine nilP_some (nilP_some (nilP_some ?_))
  refine ⟨_, Sat.ld h hmp (i := 0) rfl, _, Sat.ld h (.head _) (i := 3) rfl, _, Sat.ld h hm5 (i := 0) rfl, _, Sat.ld h hmp (i := 2) rfl, ?_⟩
  refine Sat.bx h fun hb w h => ?_
  have h : Sat σ w (headC hb s' p'.lineno lv t [] :: (p'.at b :: [(sb, cel (obCells [r2] ++ sp) ty_openBlock)] ++ (IM ++ (TM ++ ([] ++ ((ownC D ++ [paraC nb s' e' t]) ++ ((txsC D ++ (paraDB nb t s' e' (joinL [10] ls)).txs).map TX.chunk ++ ((b5, cel [.int .i64 lv] ty_int) :: zLn b3 :: ((markLn c n nl).at b0 :: (markLn c n nl).at b1 :: L))))))))) := h
  have h : Sat σ w (p'.at b :: [(sb, cel (obCells [r2] ++ sp) ty_openBlock)] ++ (IM ++ (headC hb s' p'.lineno lv t [] :: (TM ++ ((ownC D ++ [paraC nb s' e' t]) ++ ((txsC D ++ (paraDB nb t s' e' (joinL [10] ls)).txs).map TX.chunk ++ ((b5, cel [.int .i64 lv] ty_int) :: zLn b3 :: ((markLn c n nl).at b0 :: (markLn c n nl).at b1 :: L)))))))) := h.re (by intro _; simp only [List.append_eq, cnt_append, cnt_cons, cnt_nil] <;> omega)
  refine doneBlock_ok h hs2 (by rw [h2]; exact hd) hI2 (by show D.length < _; omega) fun w M2 IM2 q' c' hs3 hI3 h => ⟨rfl, ?_⟩
  have h : Sat σ w (zLn b3 :: (p'.at b :: M2 ++ (IM2 ++ (headC hb s' p'.lineno lv t [] :: (TM ++ ((ownC D ++ [paraC nb s' e' t]) ++ ((txsC D ++ (paraDB nb t s' e' (joinL [10] ls)).txs).map TX.chunk ++ ((b5, cel [.int .i64 lv] ty_int) :: ((markLn c n nl).at b0 :: (markLn c n nl).at b1 :: L))))))))) := h.re (by intro _; simp only [List.append_eq, cnt_append, cnt_cons, cnt_nil] <;> omega)
  refine Sat.st h (k := 0) rfl (Nat.le_of_ble_eq_true rfl) trivial (by first | (dsimp only [List.set]; exact rfl) | exact rfl) fun w h => ?_
  refine Sat.st h (k := 0) rfl (Nat.le_of_ble_eq_true rfl) trivial (by first | (dsimp only [List.set]; exact rfl) | exact rfl) fun w h => ?_
  refine Sat.st h (k := 0) rfl (Nat.le_of_ble_eq_true rfl) trivial (by first | (dsimp only [List.set]; exact rfl) | exact rfl) fun w h => ?_
  refine Sat.st h (k := 0) rfl (Nat.le_of_ble_eq_true rfl) trivial (by first | (dsimp only [List.set]; exact rfl) | exact rfl) fun w h => ?_
  refine Sat.st h (k := 0) rfl (Nat.le_of_ble_eq_true rfl) trivial (by first | (dsimp only [List.set]; exact rfl) | exact rfl) fun w h => ?_
  refine ⟨_, Sat.ld h (by first | assumption | (repeat (first | exact .head _ | apply List.Mem.tail))) (by exact rfl), ?_⟩
  refine ⟨_, Sat.ld h (by first | assumption | (repeat (first | exact .head _ | apply List.Mem.tail))) (by exact rfl), ?_⟩
  refine ⟨_, Sat.ld h (by first | assumption | (repeat (first | exact .head _ | apply List.Mem.tail))) (by exact rfl), ?_⟩
  refine ⟨_, Sat.ld h (by first | assumption | (repeat (first | exact .head _ | apply List.Mem.tail))) (by exact rfl), ?_⟩
  refine ⟨_, Sat.ld h (by first | assumption | (repeat (first | exact .head _ | apply List.Mem.tail))) (by exact rfl), ?_⟩
  have h : Sat σ w (zLn b3 :: (p'.at b :: M2 ++ (IM2 ++ (headC hb s' p'.lineno lv t [] :: (TM ++ ((ownC D ++ [paraC nb s' e' t]) ++ ((txsC D ++ (paraDB nb t s' e' (joinL [10] ls)).txs).map TX.chunk ++ ((b5, cel [.int .i64 lv] ty_int) :: ((markLn c n nl).at b0 :: (markLn c n nl).at b1 :: L))))))))) := h
  refine hR w p' hb t s' p'.lineno s' e' h1 h3 ⟨{ r2 with q := q', n := r2.n + 1, c := c' }, [], M2, TM, IM2, [], hr, hs3, ?_, ?_, ⟨rfl, rfl⟩, ?_⟩
  · rw [txsC_snoc]
    rw [txsC_snoc] at ht
    exact ht
  · rw [List.map_append]; exact hI3
  · rw [ownC_snoc, txsC_snoc]
    show Sat σ w (p'.at b :: M2 ++ (IM2 ++ (TM ++ ([] ++ ((ownC D ++ [headC hb s' p'.lineno lv t []]) ++ ((txsC D ++ (paraDB nb t s' e' (joinL [10] ls)).txs).map TX.chunk ++ L))))))
    exact h.less [zLn b3, paraC nb s' e' t, (b5, cel [.int .i64 lv] ty_int), (markLn c n nl).at b0, (markLn c n nl).at b1] (by intro _; simp only [List.append_eq, cnt_append, cnt_cons, cnt_nil] <;> omega)
theorem addLine_setext {b rb n : Nat} {c nl : UInt8} {p : PS} {D : List DB} {ls : List (List UInt8)} (hc : c = 61 ∨ c = 45) (hn : 1 ≤ n) (hn2 : n < 1000000) (h : DocS σ b rb L D (.para ls) p w) (hf : Leaf.fin (.para ls)) (hD : D.length < 100000) (hX : (txsC D).length < 100000)
    (hR : ∀ w (p' : PS) hb t s e s' e', p'.base = p.base → p'.lineno = p.lineno → DocS σ b rb L (D ++ [headDB hb t s e s' e' (lvOf c) (joinL [10] ls)]) .none p' w → R (.returned (.tuple #[])) w) :
    callE P i_parseState_addLine #[.pointer (some ⟨b, 0, none⟩), (markLn c n nl).val] R w := by
  have hst : isST c = false := by rcases hc with rfl | rfl <;> decide
  have h62 : c ≠ 62 := by rcases hc with rfl | rfl <;> decide
  have h35 : c ≠ 35 := by rcases hc with rfl | rfl <;> decide
  have hl : (markLn c n nl).ok := lnOf_ok (by simp; omega)
  obtain ⟨m, rfl⟩ : ∃ m, n = m + 1 := ⟨n - 1, by omega⟩
  have hml : markLn c (m + 1) nl = lnOf (c :: List.replicate m c) nl := rfl
  refine addLine_open h hl fun w b1 b2 p1 hp1 h => ?_
  unfold g_parseState_addLine.k2
  obtain ⟨r, obs, M, TM, IM, LM, hr, hs, ht, hI, hL, h⟩ := h
  refine isBlank_ok h (by simp) hl fun w h => ⟨_, rfl, ?_⟩
  have hbl : (markLn c (m + 1) nl).blank = false := by
    show (List.replicate (m + 1) c).all isST = false
    rw [List.replicate_succ, List.all_cons, hst]; rfl
  rw [hbl]
  refine br_false rfl ?_
  have hd1 : p1.depth = 0 := by rw [hp1]
  have h : Sat σ w (p1.at b :: M ++ ((markLn c (m + 1) nl).at b1 :: (IM ++ (TM ++ (LM ++ (ownC D ++ ((txsC D).map TX.chunk ++ ((markLn c (m + 1) nl).at b2 :: L)))))))) := h.re (by intro _; simp only [List.append_eq, cnt_append, cnt_cons, cnt_nil] <;> omega)
  refine bl102_take 2 (by decide) h ?_ fun w nb et R' h hR' => ?_
  · intro j hj hj2
    have hj3 : j = 0 ∨ j = 1 := by omega
    intro σ w L R h hR
    rcases hj3 with rfl | rfl
    · exact newQuote_no (x := .nilIface) h hl (by rw [hml]; exact quote_first hst h62) hR
    · exact newATX_no h hl (by rw [hml]; exact heading_first hst h35) hR
  · have hdoc : DocS σ b rb ((markLn c (m + 1) nl).at b1 :: (nb, cel newsC et) :: (markLn c (m + 1) nl).at b2 :: L) D (.para ls) p1 w := ⟨r, obs, M, TM, IM, LM, hr, hs, ht, hI, hL, h.re (by intro _; simp only [List.append_eq, cnt_append, cnt_cons, cnt_nil] <;> omega)⟩
    refine newSetext_yes hc hn hn2 hdoc hd1 hf hD hX fun w p' hb t s e s' e' a1 a2 hdoc => ?_
    obtain ⟨r, obs, M, TM, IM, LM, hr, hs, ht, hI, hL, h⟩ := hdoc
    have h : Sat σ w ((markLn c (m + 1) nl).at b1 :: (p'.at b :: M ++ (IM ++ (TM ++ (LM ++ (ownC (D ++ [headDB hb t s e s' e' (lvOf c) (joinL [10] ls)]) ++ ((txsC (D ++ [headDB hb t s e s' e' (lvOf c) (joinL [10] ls)])).map TX.chunk ++ ((nb, cel newsC et) :: (markLn c (m + 1) nl).at b2 :: L)))))))) := h.re (by intro _; simp only [List.append_eq, cnt_append, cnt_cons, cnt_nil] <;> omega)
    refine hR' w _ h fun w h => ?_
    exact hR w p' hb t s e s' e' (by rw [a1, hp1]; rfl) (by rw [a2, hp1]) ⟨r, obs, M, TM, IM, LM, hr, hs, ht, hI, hL, h.less [(nb, cel newsC et), (markLn c (m + 1) nl).at b2] (by intro _; simp only [List.append_eq, cnt_append, cnt_cons, cnt_nil] <;> omega)⟩
end Go.Proofs.YtmicoampfglaiaaGreatDoor


/- FnUnderlined: the law's walk. -/
set_option linter.unusedVariables false
namespace Go.Proofs.YtmicoampfglaiaaGreatDoor
open Go.Proofs Go.IntWalk Go.RowKit
variable {σ : Out} {w : World} {L L' : List Chunk} {R : Ending → World → Prop}
/-! ### Lines of such a text, one after another -/
def toksJ : List (List UInt8) → List Tok
  | [] => []
  | l :: ls => slashK l ++ ls.flatMap fun m => .nl :: slashK m
theorem tokB_flat (ls : List (List UInt8)) : tokB (ls.flatMap fun m => .nl :: slashK m) = (ls.map slashT).flatMap fun u => [10] ++ u := by
  induction ls with
  | nil => rfl
  | cons l ls ih => rw [List.flatMap_cons, tokB_append, ih, tokB_cons]; simp [Tok.bytes, slashT]
theorem tokB_J (ls : List (List UInt8)) : tokB (toksJ ls) = joinL [10] (ls.map slashT) := by
  cases ls with
  | nil => rfl
  | cons l ls => rw [toksJ, tokB_append, tokB_flat]; rfl
theorem tokO_flat (ls : List (List UInt8)) : tokO (ls.flatMap fun m => .nl :: slashK m) = (ls.map (escS htmlPs)).flatMap fun u => [10] ++ u := by
  induction ls with
  | nil => rfl
  | cons l ls ih => rw [List.flatMap_cons, tokO_append, ih, tokO_cons, slashO]; simp [Tok.out]
theorem tokO_J (ls : List (List UInt8)) : tokO (toksJ ls) = joinL [10] (ls.map (escS htmlPs)) := by
  cases ls with
  | nil => rfl
  | cons l ls => rw [toksJ, tokO_append, tokO_flat, slashO]; rfl
theorem nlOK_app : ∀ {a b : List Tok}, nlOK a → nlOK b → (∀ t, a.getLast? = some t → ∀ s, b.head? = some s → nlOK [t, s]) → nlOK (a ++ b)
  | [], b, _, hb, _ => hb
  | [t], b, _, hb, h => by
    cases b with
    | nil => exact ⟨trivial, by cases t <;> trivial, trivial⟩
    | cons s b =>
      have h2 := h t rfl s rfl
      refine ⟨?_, ?_, hb⟩
      · have := h2.1; cases s <;> cases t <;> first | trivial | exact this
      · have := h2.2.1; cases s <;> cases t <;> first | trivial | exact this
  | t :: u :: a, b, ha, hb, h => by
    have ih := nlOK_app (a := u :: a) (b := b) ha.2.2 hb (fun x hx s hs => h x (by rw [List.getLast?_cons_cons]; exact hx) s hs)
    refine ⟨?_, ?_, ih⟩
    · have := ha.1; cases u <;> cases t <;> first | trivial | exact this
    · have := ha.2.1; cases u <;> cases t <;> first | trivial | exact this
theorem slashK_head {s : List UInt8} (h : GoodL s) : ∀ t, (slashK s).head? = some t → nlOK [.nl, t] := by
  obtain ⟨c, u, rfl, h32, hp⟩ := good_cons h
  intro t ht
  have : slashK (c :: u) = (if punB c then .esc c else .lit c) :: slashK u := rfl
  rw [this] at ht
  simp only [List.head?_cons, Option.some.injEq] at ht
  subst ht
  cases hx : punB c with
  | true => exact ⟨trivial, trivial, ⟨trivial, trivial, trivial⟩⟩
  | false =>
    have f := lit_facts hp hx
    rcases f.2.2.2.2.2.2.2 with f | f
    · exact absurd f h32
    · exact ⟨trivial, f.1, ⟨trivial, trivial, trivial⟩⟩
theorem slashK_last {s : List UInt8} (h : GoodL s) : ∀ t, (slashK s).getLast? = some t → nlOK [t, .nl] := by
  obtain ⟨m, d, rfl, h32, hp⟩ := good_last h
  intro t ht
  have : slashK (m ++ [d]) = slashK m ++ [if punB d then .esc d else .lit d] := by simp [slashK]
  rw [this] at ht
  simp only [List.getLast?_append, List.getLast?_singleton, Option.some_or, Option.some.injEq] at ht
  subst ht
  cases hx : punB d with
  | true => exact ⟨(pun_of hx).1, trivial, ⟨trivial, trivial, trivial⟩⟩
  | false =>
    have f := lit_facts hp hx
    rcases f.2.2.2.2.2.2.2 with f | f
    · exact absurd f h32
    · exact ⟨f.1, trivial, ⟨trivial, trivial, trivial⟩⟩
theorem nlOK_slash {s : List UInt8} (h : GoodL s) : nlOK (slashK s) := nlOK_none fun t ht => (slashK_ok h.pr t ht).2
theorem nlOK_flat : ∀ {ls : List (List UInt8)}, (∀ l ∈ ls, GoodL l) → nlOK (ls.flatMap fun m => .nl :: slashK m)
  | [], _ => trivial
  | l :: ls, h => by
    have hl := h l (by simp)
    have ih := nlOK_flat (ls := ls) fun x hx => h x (List.mem_cons_of_mem _ hx)
    rw [List.flatMap_cons]
    have h1 : nlOK ([.nl] ++ slashK l) := nlOK_app ⟨trivial, trivial, trivial⟩ (nlOK_slash hl) (fun t ht s hs => by
      simp only [List.getLast?_singleton, Option.some.injEq] at ht; subst ht; exact slashK_head hl s hs)
    refine nlOK_app h1 ih fun t ht s hs => ?_
    obtain ⟨c, u, hcu, _⟩ := good_cons hl
    have hne : slashK l ≠ [] := by rw [hcu]; simp [slashK]
    have ht2 : (slashK l).getLast? = some t := by
      have ht : ([Tok.nl] ++ slashK l).getLast? = some t := ht
      rw [List.getLast?_append] at ht
      cases hg : (slashK l).getLast? with
      | none => rw [List.getLast?_eq_none_iff] at hg; exact absurd hg hne
      | some y => rw [hg] at ht; simpa using ht
    cases ls with
    | nil => simp at hs
    | cons m ls =>
      simp only [List.flatMap_cons, List.cons_append, List.head?_cons, Option.some.injEq] at hs
      subst hs
      exact slashK_last hl t ht2
theorem nlOK_J {ls : List (List UInt8)} (h : ∀ l ∈ ls, GoodL l) : nlOK (toksJ ls) := by
  cases ls with
  | nil => trivial
  | cons l ls =>
    have hl := h l (by simp)
    refine nlOK_app (nlOK_slash hl) (nlOK_flat fun x hx => h x (List.mem_cons_of_mem _ hx)) fun t ht s hs => ?_
    cases ls with
    | nil => simp at hs
    | cons m ls =>
      simp only [List.flatMap_cons, List.cons_append, List.head?_cons, Option.some.injEq] at hs
      subst hs
      exact slashK_last hl t ht
theorem joinL_first {ls : List (List UInt8)} (hne : ls ≠ []) (h : ∀ l ∈ ls, GoodL l) : ∃ c t, joinL [10] (ls.map slashT) = c :: t ∧ isST c = false ∧ c ≠ 91 ∧ c ≠ 10 := by
  cases ls with
  | nil => exact absurd rfl hne
  | cons l ls =>
    have hl := h l (by simp)
    obtain ⟨c, t, h1, h2, h3, _⟩ := slash_first hl
    have h10 : c ≠ 10 := by rintro rfl; exact (slash_nl hl).1.1 (by rw [h1]; simp)
    exact ⟨c, _, by rw [List.map_cons, joinL, h1, List.cons_append], h2, h3, h10⟩
theorem joinL_last : ∀ {ls : List (List UInt8)}, ls ≠ [] → (∀ l ∈ ls, GoodL l) → ∃ m d, joinL [10] (ls.map slashT) = m ++ [d] ∧ isST d = false := by
  intro ls hne h
  rcases List.eq_nil_or_concat ls with h0 | ⟨a, l, h0⟩
  · exact absurd h0 hne
  · rw [List.concat_eq_append] at h0
    subst h0
    obtain ⟨m, d, h1, h2⟩ := slash_last (h l (by simp))
    rw [List.map_append, List.map_singleton, joinL_snoc]
    split
    · exact ⟨m, d, h1, h2⟩
    · exact ⟨joinL [10] (a.map slashT) ++ ([10] ++ m), d, by rw [h1]; simp, h2⟩
theorem joinL_bound {ls : List (List UInt8)} {sep : List UInt8} {f : List UInt8 → List UInt8} (hf : ∀ l ∈ ls, (f l).length + sep.length ≤ 2000) : (joinL sep (ls.map f)).length ≤ ls.length * 2000 := by
  have h1 : ∀ ls : List (List UInt8), (∀ l ∈ ls, (f l).length + sep.length ≤ 2000) → ((ls.map f).flatMap (fun u => sep ++ u)).length ≤ ls.length * 2000 := by
    intro ls
    induction ls with
    | nil => intro _; simp
    | cons l ls ih =>
      intro hg
      have := ih (fun x hx => hg x (List.mem_cons_of_mem _ hx))
      have h2 := hg l (by simp)
      simp only [List.map_cons, List.flatMap_cons, List.length_append, List.length_cons] at this ⊢; omega
  cases ls with
  | nil => simp [joinL]
  | cons l ls =>
    have := h1 ls (fun x hx => hf x (List.mem_cons_of_mem _ hx))
    have h2 := hf l (by simp)
    simp only [List.map_cons, joinL, List.length_append, List.length_cons] at this ⊢; omega
theorem slash_b {ls : List (List UInt8)} (h : ∀ l ∈ ls, GoodL l) : ∀ l ∈ ls, (slashT l).length + ([10] : List UInt8).length ≤ 2000 := by
  intro l hl
  have h1 := slashT_len l
  have h2 := (h l hl).len
  simp; omega
theorem esc_b {ls : List (List UInt8)} (h : ∀ l ∈ ls, GoodL l) : ∀ l ∈ ls, (escS htmlPs l).length + ([10] : List UInt8).length ≤ 2000 := by
  intro l hl
  have h1 := escS_length (ps := htmlPs) (by decide) l
  have h2 := (h l hl).len
  simp; omega
theorem lines_inline {ls : List (List UInt8)} (hne : ls ≠ []) (hlen : ls.length ≤ 50) (h : ∀ l ∈ ls, GoodL l) : InlineOK optOff (joinL [10] (ls.map slashT)) (ab (joinL [10] (ls.map (escS htmlPs)))) := by
  have hb := joinL_bound (slash_b h)
  obtain ⟨c, t, h1, hc, _⟩ := joinL_first hne h
  obtain ⟨m, d, h2, hd⟩ := joinL_last hne h
  have hok : ∀ t ∈ toksJ ls, t.ok optOff := by
    cases ls with
    | nil => exact absurd rfl hne
    | cons l ls =>
      intro t ht
      rw [toksJ, List.mem_append] at ht
      rcases ht with ht | ht
      · exact (slashK_ok (h l (by simp)).pr t ht).1
      · obtain ⟨x, hx, ht⟩ := List.mem_flatMap.1 ht
        rw [List.mem_cons] at ht
        rcases ht with rfl | ht
        · trivial
        · exact (slashK_ok (h x (by simp [hx])).pr t ht).1
  have hne2 : toksJ ls ≠ [] := by
    intro h0
    have := tokB_J ls
    rw [h0, h1] at this; cases this
  have := toks_inline (o := optOff) (toks := toksJ ls) rfl hok (nlOK_J h) (by rw [tokB_J]; omega) (by rw [tokB_J]; exact trim_of h1 h2 hc hd) hne2
  rw [tokB_J, tokO_J] at this
  exact this
theorem lines_fin {ls : List (List UInt8)} (hne : ls ≠ []) (hlen : ls.length ≤ 50) (h : ∀ l ∈ ls, GoodL l) : Leaf.fin (.para (ls.map slashT)) := by
  have hb := joinL_bound (slash_b h)
  obtain ⟨c, t, h1, hc, h91, h10⟩ := joinL_first hne h
  refine ⟨by omega, by rw [h1]; simp, ?_⟩
  rw [h1]
  have hn : isSTN c = false := by
    simp only [isST, Bool.or_eq_false_iff] at hc
    simp only [isSTN, Bool.or_eq_false_iff]
    exact ⟨hc, by simpa using h10⟩
  rw [List.dropWhile_cons_of_neg (by simp [hn])]
  simpa using h91
theorem slash_cont {s : List UInt8} {nl : UInt8} (h : GoodL s) : (lnOf (slashT s) nl).cont := by
  have hp := slash_plain (nl := nl) h
  obtain ⟨c, t, hs, h1, _, h3⟩ := slash_first h
  rw [hs] at hp ⊢
  have hpk : ((lnOf (c :: t) nl).lead 3 false).peek = c := by rw [lead_first h1]; rfl
  have hne : c ≠ 60 ∧ c ≠ 45 ∧ c ≠ 61 := by
    rcases h3 with h3 | h3
    · refine ⟨?_, ?_, ?_⟩ <;> (rintro rfl; revert h3; decide)
    · refine ⟨?_, ?_, ?_⟩ <;> (rintro rfl; revert h3; decide)
  exact ⟨hp, by rw [hpk]; exact hne.1, by rw [hpk]; exact hne.2.1, by rw [hpk]; exact hne.2.2⟩
/-! ### The document -/
def uLines (c : UInt8) (k : Nat) : List (List UInt8) → List (List UInt8 × UInt8)
  | [] => [(List.replicate k c, 0)]
  | l :: ls => (slashT l, 10) :: uLines c k ls
def uText (c : UInt8) (k : Nat) (ls : List (List UInt8)) : List UInt8 := joinL [10] (ls.map slashT) ++ [10] ++ List.replicate k c
theorem u_linesOf {c : UInt8} {k : Nat} (hc : c ≠ 10 ∧ c ≠ 13) (hk : 1 ≤ k) : ∀ {ls : List (List UInt8)}, ls ≠ [] → (∀ l ∈ ls, GoodL l) → LinesOf (uText c k ls) (uLines c k ls)
  | [l], _, h => by
    have g := slash_nl (h l (by simp))
    have e : uText c k [l] = slashT l ++ 10 :: List.replicate k c := by simp [uText, joinL]
    rw [e]
    refine .cons g.1 (.last (by intro h0; rw [List.replicate_eq_nil_iff] at h0; omega) ⟨?_, ?_⟩)
    · intro hm; exact hc.1 (List.mem_replicate.1 hm).2.symm
    · intro hm; exact hc.2 (List.mem_replicate.1 hm).2.symm
  | l :: m :: ls, _, h => by
    have g := slash_nl (h l (by simp))
    have ih := u_linesOf hc hk (ls := m :: ls) (by simp) (fun x hx => h x (List.mem_cons_of_mem _ hx))
    have e : uText c k (l :: m :: ls) = slashT l ++ 10 :: uText c k (m :: ls) := by simp [uText, joinL]
    rw [e]
    exact .cons g.1 ih
def UI (c : UInt8) (k : Nat) (ls : List (List UInt8)) (rem : List (List UInt8 × UInt8)) (D : List DB) (lf : Leaf) : Prop :=
  (D = [] ∧ lf = .none ∧ rem = uLines c k ls) ∨ (∃ pre suf, D = [] ∧ pre ≠ [] ∧ lf = .para (pre.map slashT) ∧ rem = uLines c k suf ∧ pre ++ suf = ls) ∨
    (∃ hb t s e s' e', D = [headDB hb t s e s' e' (lvOf c) (joinL [10] (ls.map slashT))] ∧ lf = .none ∧ rem = [])
theorem html_under {c : UInt8} {k : Nat} {ls : List (List UInt8)} (hc : c = 61 ∨ c = 45) (hk : 1 ≤ k) (hk2 : k < 1000) (hne : ls ≠ []) (hlen : ls.length ≤ 50) (hg : ∀ l ∈ ls, GoodL l) :
    ParsesTo optOff (uText c k ls) (hOpen (lvOf c) [] ++ joinL [10] (ls.map (escS htmlPs)) ++ hClose (lvOf c)) := by
  have hc1 : c ≠ 10 ∧ c ≠ 13 := by rcases hc with rfl | rfl <;> decide
  have hlv : lvOf c < 10 := by unfold lvOf; split <;> omega
  have hb := joinL_bound (slash_b hg)
  have h0 : 0 ∉ uText c k ls := by
    intro hm
    simp only [uText, List.mem_append, List.mem_replicate, List.mem_singleton] at hm
    rcases hm with (hm | hm) | hm
    · have : ∀ ls : List (List UInt8), (∀ l ∈ ls, GoodL l) → 0 ∉ joinL [10] (ls.map slashT) := by
        intro ls hg
        cases ls with
        | nil => simp [joinL]
        | cons l ls =>
          simp only [List.map_cons, joinL, List.mem_append, List.mem_flatMap, List.mem_map, not_or, not_exists, not_and]
          refine ⟨(slash_nl (hg l (by simp))).2.1, ?_⟩
          rintro x ⟨y, hy, rfl⟩
          exact ⟨by decide, (slash_nl (hg y (by simp [hy]))).2.1⟩
      exact this ls hg hm
    · exact absurd hm (by decide)
    · rcases hc with rfl | rfl
      · exact absurd hm.2 (by decide)
      · exact absurd hm.2 (by decide)
  refine parses_doc (F := fun _ => ab (joinL [10] (ls.map (escS htmlPs)))) (u_linesOf hc1 hk hne hg) h0 (by simp only [uText, List.length_append, List.length_replicate, List.length_cons, List.length_nil]; omega) (UI c k ls) (.inl ⟨rfl, rfl, rfl⟩) ?_ ?_
  · rintro l nl rem D lf hI σ R L b rb pb p w hop hpz hno h hR
    rcases hI with ⟨rfl, rfl, hrem⟩ | ⟨pre, suf, rfl, hp, rfl, hrem, hls⟩ | ⟨hb, t, s, e, s', e', rfl, rfl, hrem⟩
    · cases ls with
      | nil => exact absurd rfl hne
      | cons x suf =>
        simp only [uLines, List.cons.injEq, Prod.mk.injEq] at hrem
        obtain ⟨⟨rfl, rfl⟩, rfl⟩ := hrem
        have hgx : GoodL x := hg x (by simp)
        refine addLine_plain0 h hpz hop (slash_plain hgx) hno fun w p' h1 h2 h3 => ?_
        rw [slash_rest hgx] at h3
        exact hR w p' [] _ h1 h2 (.inr (.inl ⟨[x], suf, rfl, by simp, rfl, rfl, rfl⟩)) h3
    · cases suf with
      | cons x suf =>
        simp only [uLines, List.cons.injEq, Prod.mk.injEq] at hrem
        obtain ⟨⟨rfl, rfl⟩, rfl⟩ := hrem
        have hgx : GoodL x := hg x (by rw [← hls]; simp)
        have hpl : pre.length ≤ 50 := by have := congrArg List.length hls; simp at this; omega
        refine addLine_cont h hpz hop rfl (slash_cont hgx) (by simp; omega) fun w p' h1 h2 h3 => ?_
        rw [slash_rest hgx] at h3
        exact hR w p' [] _ h1 h2 (.inr (.inl ⟨pre ++ [x], suf, rfl, by simp, by simp, rfl, by rw [← hls]; simp⟩)) h3
      | nil =>
        simp only [uLines, List.cons.injEq, Prod.mk.injEq] at hrem
        obtain ⟨⟨rfl, rfl⟩, rfl⟩ := hrem
        rw [List.append_nil] at hls
        subst hls
        refine addLine_setext hc hk (by omega) h (lines_fin hne hlen hg) (by simp) (by simp [txsC]) fun w p' hb t s e s' e' h1 h2 h3 => ?_
        exact hR w p' _ .none h1 h2 (.inr (.inr ⟨hb, t, s, e, s', e', rfl, rfl, rfl⟩)) h3
    · cases hrem
  · rintro D lf (⟨rfl, rfl, hrem⟩ | ⟨pre, suf, rfl, hp, rfl, hrem, hls⟩ | ⟨hb, t, s, e, s', e', rfl, rfl, hrem⟩)
    · cases ls <;> cases hrem
    · cases suf <;> cases hrem
    · refine ⟨trivial, by simp, by simp [txsC, headDB], ?_⟩
      rintro D' rfl
      refine ⟨_, .cons (headDB_shows hlv) .nil, ?_, ?_⟩
      · simp [compL, ab]
      · intro x hx
        simp [txsC, headDB] at hx
        subst hx
        exact lines_inline hne hlen hg
theorem under_k3 {q tq wq : Option Addr} {n tc wc k m : Nat} {c : UInt8} {hh : List UInt8} {ls : List (List UInt8)} {TM WM : List Chunk} (hc : c = 61 ∨ c = 45) (hhh : hh = [104] ++ dig1 (lvOf c)) (hm : m < 256) (hne : ls ≠ []) (hlen : ls.length ≤ 50) (hg : ∀ l ∈ ls, GoodL l) (hn : n = ls.length)
    (hS : Sl 1 ty_string tq n tc (sv (ls.map slashT)) TM) (hW : Sl 1 ty_string wq n wc (sv (ls.map (escS htmlPs))) WM) (h : Sat σ w (TM ++ (WM ++ L))) (hR : ∀ w, Sat σ w L → R (.returned (.bool true)) w) :
    g_laws_FnUnderlined.k3 R (m : Nat) tq n tc wq n wc (bs [c]) (bs hh) w := by
  have hmax : IntKind.i64.max = 9223372036854775807 := rfl
  have hb1 := joinL_bound (slash_b hg)
  have hb2 := joinL_bound (esc_b hg)
  unfold g_laws_FnUnderlined.k3
  refine plainOpt_ok h fun w h => ⟨_, _, _, _, _, _, _, _, _, _, rfl, ?_⟩
  have hSA : SArg σ (TM ++ (WM ++ L)) tq n (ls.map slashT) := SArg.ofSl hS (fun c hc => List.mem_append_left _ hc)
  have hWA : SArg σ (TM ++ (WM ++ L)) wq n (ls.map (escS htmlPs)) := SArg.ofSl hW (fun c hc => List.mem_append_right _ (List.mem_append_left _ hc))
  refine joined_ok (sep := [10]) hSA h (by omega) (by omega) (by decide) fun w h => ⟨_, rfl, ?_⟩
  have hk : IntKind.i64.wrap (1 + IntKind.i64.wrap (Int.tmod ((m : Nat) : Int) 40)) = ((m % 40 + 1 : Nat) : Int) := by
    have e : Int.tmod ((m : Nat) : Int) 40 = ((m % 40 : Nat) : Int) := rfl
    have h1 : m % 40 < 40 := Nat.mod_lt _ (by decide)
    rw [e, i64_in (((m % 40 : Nat) : Int)) (by omega), i64_in _ (by omega)]; omega
  rw [hk]
  have h1 : m % 40 < 40 := Nat.mod_lt _ (by decide)
  generalize m % 40 = k at h1
  rw [show ByteArray.mk #[10] = bs [10] from rfl, show ByteArray.mk #[60] = bs [60] from rfl, show ByteArray.mk #[62] = bs [62] from rfl, show ByteArray.mk #[60, 47] = bs [60, 47] from rfl, show ByteArray.mk #[62, 10] = bs [62, 10] from rfl]
  refine ⟨by rw [hmax, bs_size, bs_size]; simp only [List.length_cons, List.length_nil]; omega, by decide, ?_⟩
  refine times_ok (s := [c]) (n := k + 1) (by omega) (by simp) ⟨_, rfl, ?_⟩
  have hrep : (List.replicate (k + 1) [c]).flatten = List.replicate (k + 1) c := by
    have : ∀ n, (List.replicate n [c]).flatten = List.replicate n c := by
      intro n
      induction n with
      | zero => rfl
      | succ n ih => rw [List.replicate_succ, List.flatten_cons, ih]; rfl
    exact this _
  rw [hrep]
  simp only [bs_append]
  refine ⟨by rw [hmax, bs_size, bs_size, List.length_append, List.length_replicate]; simp only [List.length_cons, List.length_nil]; omega, ?_⟩
  have hP := html_under (k := k + 1) hc (by omega) (by omega) hne hlen hg
  have hd1 := dig1_length (lvOf c)
  have ho : (hOpen (lvOf c) []).length ≤ 4 := by
    have e : hOpen (lvOf c) [] = [60, 104] ++ dig1 (lvOf c) ++ [] ++ [62] := by unfold hOpen; rw [if_pos rfl]
    rw [e]; simp only [List.length_append, List.length_cons, List.length_nil]; omega
  have hcl : (hClose (lvOf c)).length ≤ 6 := by unfold hClose; simp only [List.length_append, List.length_cons, List.length_nil]; omega
  have hhl : hh.length ≤ 2 := by rw [hhh, List.length_append]; simp only [List.length_cons, List.length_nil]; omega
  have hout : (hOpen (lvOf c) [] ++ joinL [10] (ls.map (escS htmlPs)) ++ hClose (lvOf c)).length ≤ 549755813888 := by
    rw [List.length_append, List.length_append]; omega
  show callE P i_impl_HTML #[optV optOff, .string (bs (uText c (k + 1) ls))] _ w
  refine html_ok hP hout h fun w h => ⟨_, rfl, ?_⟩
  refine ⟨by rw [hmax, bs_size, bs_size]; simp only [List.length_cons, List.length_nil]; omega, by rw [hmax, bs_size, bs_size, List.length_append]; simp only [List.length_cons, List.length_nil]; omega, ?_⟩
  refine joined_ok (sep := [10]) hWA h (by omega) (by omega) (by decide) fun w h => ⟨_, rfl, ?_⟩
  simp only [bs_append]
  refine ⟨?_, ?_, ?_, ?_, ?_⟩
  · rw [hmax, bs_size, bs_size]; simp only [List.length_append, List.length_cons, List.length_nil]; omega
  · rw [hmax, bs_size, bs_size]; simp only [List.length_append, List.length_cons, List.length_nil]; omega
  · rw [hmax, bs_size, bs_size]; simp only [List.length_append, List.length_cons, List.length_nil]; omega
  · rw [hmax, bs_size, bs_size]; simp only [List.length_append, List.length_cons, List.length_nil]; omega
  · have e : [60] ++ hh ++ [62] ++ joinL [10] (ls.map (escS htmlPs)) ++ [60, 47] ++ hh ++ [62, 10] = hOpen (lvOf c) [] ++ joinL [10] (ls.map (escS htmlPs)) ++ hClose (lvOf c) := by
      rw [hhh]; unfold hOpen hClose; rw [if_pos rfl]; simp
    rw [bs_toList, bs_toList, e, beq_self_eq_true]
    exact hR w (h.less (TM ++ WM) (by intro _; simp only [List.append_eq, cnt_append, cnt_cons, cnt_nil] <;> omega))
theorem fnUnderlined_ok {q : Option Addr} {n c m : Nat} {ls : List (List UInt8)} {dash : Bool} (hm : m < 256) (hA : SArg σ L q n ls) (h : Sat σ w L) (hR : ∀ w, Sat σ w L → R (.returned (.bool true)) w) : callE P i_laws_FnUnderlined #[.slice q n c, .bool dash, .int .u8 (m : Nat)] R w := by
  have hnl := hA.1
  refine g_laws_FnUnderlined.sound ?_
  refine fits2_ok hA h (fun hfit => ⟨_, rfl, br_false rfl ?_⟩) ⟨_, rfl, br_true rfl (hR w h)⟩
  refine br_split (fun _ => hR w h) (fun hsz => ?_)
  simp only [Bool.or_eq_false_iff, decide_eq_false_iff_not, beq_eq_false_iff_ne, ne_eq] at hsz
  intro X hX
  have key : ∀ k i w tq tc wq wc TM WM, i + k = n → (∀ j (hj : j < ls.length), j < i → GoodL ls[j]) → Sl 1 ty_string tq i tc (sv ((ls.take i).map slashT)) TM → Sl 1 ty_string wq i wc (sv ((ls.take i).map (escS htmlPs))) WM → Sat σ w (TM ++ (WM ++ L)) →
      X dash (m : Nat) tq i tc wq i wc q n c (n : Nat) (i : Int) w := by
    intro k
    induction k with
    | zero =>
      intro i w tq tc wq wc TM WM hi hg hS hW h
      obtain rfl : i = n := by omega
      refine hX _ _ _ _ _ _ _ _ _ _ _ _ _ _ (br_false (by simp) ?_)
      rw [List.take_of_length_le (by omega)] at hS hW
      have hgl : ∀ l ∈ ls, GoodL l := by
        intro l hl
        obtain ⟨j, hj, rfl⟩ := List.mem_iff_getElem.1 hl
        exact hg j hj (by omega)
      have hne : ls ≠ [] := by intro h0; rw [h0] at hnl; simp at hnl; omega
      refine br_split (fun _ => ?_) (fun _ => ?_)
      · exact under_k3 (q := q) (c := 45) (hh := [104, 50]) (k := 0) (.inr rfl) (by rfl) hm hne (by omega) hgl hnl hS hW h hR
      · exact under_k3 (q := q) (c := 61) (hh := [104, 49]) (k := 0) (.inl rfl) (by rfl) hm hne (by omega) hgl hnl hS hW h hR
    | succ k ih =>
      intro i w tq tc wq wc TM WM hi hg hS hW h
      have hil : i < ls.length := by omega
      obtain ⟨a, rfl, ha⟩ := hA.2 i hil
      have hls := hfit ls[i] (List.getElem_mem hil)
      refine hX _ _ _ _ _ _ _ _ _ _ _ _ _ _ (br_true (by simp; omega) ⟨by omega, by omega, nilP_some ?_⟩)
      rw [Int.toNat_natCast, Nat.mul_one]
      refine ⟨_, ha w h.right.right, ?_⟩
      refine full_ok (by omega) ⟨_, rfl, br_split (fun _ => hR w h.right.right) (fun hf => ?_)⟩
      refine ascii_ok (by omega) ⟨_, rfl, br_split (fun _ => hR w h.right.right) (fun has => ?_)⟩
      simp only [Bool.or_eq_false_iff, Bool.not_eq_false', decide_eq_false_iff_not, bs_size] at hf has
      have hgi : GoodL ls[i] := by
        refine ⟨hf, fun c hc => ?_, by have := has.2; omega⟩
        have := (List.all_eq_true.1 has.1) c hc
        simpa using this
      have hl2 := hgi.len
      refine slashed_ok (by omega) h fun w h => ⟨_, rfl, ?_⟩
      refine Sat.app1 rowStr hS h (v := .string (bs (slashT ls[i]))) rfl (by simp [Value.cells, Value.oneCell']) (by kernel_rfl) (by omega) (by omega) (by decide) fun tq' tc' w TM' hS' h => ?_
      refine escHTML_ok (by omega) ⟨_, rfl, ?_⟩
      have h : Sat σ w (WM ++ (TM' ++ L)) := h.re (by intro _; simp only [List.append_eq, cnt_append, cnt_cons, cnt_nil] <;> omega)
      refine Sat.app1 rowStr hW h (v := .string (bs (escS htmlPs ls[i]))) rfl (by simp [Value.cells, Value.oneCell']) (by kernel_rfl) (by omega) (by omega) (by decide) fun wq' wc' w WM' hW' h => ?_
      have h : Sat σ w (TM' ++ (WM' ++ L)) := h.re (by intro _; simp only [List.append_eq, cnt_append, cnt_cons, cnt_nil] <;> omega)
      rw [i64_inc (by omega)]
      refine ih (i + 1) w tq' tc' wq' wc' TM' WM' (by omega) ?_ ?_ ?_ h
      · intro j hj hji
        rcases Nat.lt_or_ge j i with h1 | h1
        · exact hg j hj h1
        · obtain rfl : j = i := by omega
          exact hgi
      · have e : sv ((ls.take (i + 1)).map slashT) = sv ((ls.take i).map slashT) ++ (Value.string (bs (slashT ls[i]))).cells.toList := by
          unfold sv; rw [List.take_succ_eq_append_getElem hil, List.map_append, List.map_append]; rfl
        rw [e]; exact hS'
      · have e : sv ((ls.take (i + 1)).map (escS htmlPs)) = sv ((ls.take i).map (escS htmlPs)) ++ (Value.string (bs (escS htmlPs ls[i]))).cells.toList := by
          unfold sv; rw [List.take_succ_eq_append_getElem hil, List.map_append, List.map_append]; rfl
        rw [e]; exact hW'
  exact key n 0 w none 0 none 0 [] [] (by omega) (fun j hj h0 => by omega) (by simpa [sv] using Sl.nil 1 ty_string) (by simpa [sv] using Sl.nil 1 ty_string) h
end Go.Proofs.YtmicoampfglaiaaGreatDoor


/- Slices of texts among the arguments: opened, and read again at the end. -/
set_option linter.unusedVariables false
set_option linter.constructorNameAsVariable false
namespace Go.Proofs.YtmicoampfglaiaaGreatDoor
open Go.Proofs Go.ChangeShapes Go.WideShapes
theorem heap_of_sat {W W' : World} (h : Sat (outOf W) W' (allBlocks W)) {b : Nat} (hb : b < W.heap.size) : W'.heap[b]? = W.heap[b]? := by
  have hm : (b, W.heap[b]) ∈ allBlocks W := List.mem_map.2 ⟨(W.heap[b], b), List.mem_zipIdx_iff_getElem?.2 (by simp [hb]), rfl⟩
  rw [h.at_ _ hm, Array.getElem?_eq_getElem hb]
theorem same_of_sat {W W' : World} (h : Sat (outOf W) W' (allBlocks W)) {p : MemPlace} (hp : p.block < W.heap.size) : W.sameAt W' p := by
  cases p with
  | cell b o => exact World.cell?_of_block (w := W) (heap_of_sat h hp)
  | map b => exact heap_of_sat h hp
theorem cell_of_sat {W W' : World} (h : Sat (outOf W) W' (allBlocks W)) {a : Addr} {v : Value} (hc : W.cell? a = some v) : W'.cell? a = some v := by
  have hb : a.block < W.heap.size := by
    rcases Nat.lt_or_ge a.block W.heap.size with hlt | hge
    · exact hlt
    · have : W.heap[a.block]? = none := Array.getElem?_eq_none hge
      unfold World.cell? at hc
      rw [this] at hc; cases hc
  rw [← hc]
  unfold World.cell?
  rw [heap_of_sat h hb]
theorem open_sarg {P : Program} {H : Type} {enc : TypeId × Value → H} {W : World} {r : Reach} {b0 : Nat} {t e : TypeId} {v : Value} {d : DataW H} {ps : List MemPlace} (ht : P.underlying t = some (.slice e)) (he : P.underlying e = some .string) (hc : P.cellsOf e = 1)
    (hval : Value.okWide P W r b0 t v) (h : DataW.Trod enc P W 0 (fun _ => true) true t v d ps) : ∃ q n c ls, v = .slice q n c ∧ SArg (outOf W) (allBlocks W) q n ls := by
  obtain ⟨a0, len, cap, rfl⟩ := okWide_slice ht hval
  obtain ⟨fuel, hf⟩ := h
  rcases open_strings ht he hc hf with ⟨hcs, hx⟩ | ⟨a, len', cap', ss, hcs, _, hl, hm, hz, hx, hcell, hws⟩
  · simp [Value.cells] at hcs
    obtain ⟨rfl, rfl, rfl⟩ := hcs
    exact ⟨none, 0, 0, [], rfl, ⟨rfl, fun i hi => by simp at hi⟩⟩
  · simp [Value.cells] at hcs
    obtain ⟨rfl, rfl, rfl⟩ := hcs
    simp only [if_true] at hz
    refine ⟨some a, len, cap, (ss.take len).map fun b => b.data.toList, rfl, ⟨by simp; omega, fun i hi => ?_⟩⟩
    simp only [List.length_map, List.length_take] at hi
    refine ⟨a, rfl, fun w hw => ?_⟩
    have h1 := cell_of_sat hw (hcell i (by omega))
    rw [h1]
    congr 2
    rw [List.getElem_map, List.getElem_take, ← bs_of]
    rw [List.getD_eq_getElem?_getD, List.getElem?_eq_getElem (by omega)]; rfl
theorem u8_of {n : Int} (h : (Lit.int .u8 n).wf = true) : ∃ m : Nat, m < 256 ∧ n = (m : Int) := by
  have h1 : (decide (IntKind.u8.min ≤ n) && decide (n ≤ IntKind.u8.max)) = true := h
  simp only [Bool.and_eq_true, decide_eq_true_eq] at h1
  have a : IntKind.u8.min = 0 := rfl
  have b : IntKind.u8.max = 255 := rfl
  rw [a, b] at h1
  exact ⟨n.toNat, by omega, by omega⟩
end Go.Proofs.YtmicoampfglaiaaGreatDoor

