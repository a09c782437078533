/- Part 7 of the proof of the law FnFirst: for every input the law returns true, the inputs read as they did, and memory that was there is as it was; under the conditions of the given row alone. -/
import Derived.Laws.IdiomStrings
import Derived.Test.YtejiaegiijokcaaGreatDoorA6
set_option linter.all false
/- Documents with definitions: lines, the end, parse. -/
set_option linter.unusedVariables false
namespace Go.Proofs.YtejiaegiijokcaaGreatDoor
open Go.Proofs Go.IntWalk Go.RowKit
variable {σ : Out} {w : World} {L L' : List Chunk} {R : Ending → World → Prop}
/-- What lines do not change of the state, where there are definitions. -/
def PS.baseL (p : PS) : PS := { p.base with links := none }
theorem PS.baseL_of {p p' : PS} (h : p'.base = p.base) : p'.baseL = p.baseL := congrArg (fun q : PS => ({ q with links := none } : PS)) h
theorem PS.links_of {p p' : PS} (h : p'.base = p.base) : p'.links = p.links := by have := congrArg PS.links h; exact this
def emptyDB (nb s e : Nat) : DB := ⟨.iface ty_P_Empty (.pointer (some ⟨nb, 0, none⟩)), [emptyC nb s e], []⟩
/-- Definitions alone, or none: m says which. -/
abbrev Mode := Option (List (List UInt8 × List UInt8))
def Leaf.finR : Leaf → Mode → Prop
  | lf, Option.none => lf.finN
  | .none, Option.some _ => False
  | .para ls, Option.some ds => DefsT (joinL [10] ls) ds ∧ (joinL [10] ls).length < 100000
/-- The leaf is closed; perhaps there are new definitions. -/
def ClosedR (lf : Leaf) (m : Mode) (ents : List RefE) (D D' : List DB) (ents' : List RefE) : Prop :=
  match m with
  | none => LeafClosed lf D D' ∧ ents' = ents
  | some ds => addRefs ents ds ents' ∧ ∃ nb s e, D' = D ++ [emptyDB nb s e]
theorem closeLeafR_ok {b rb : Nat} {p : PS} {D : List DB} {ents : List RefE} {RM : List Chunk} {m : Mode} {ls : List (List UInt8)} (h : DocS σ b rb (RM ++ L) D (.para ls) p w) (hM : RefsAt p.links ents RM) (hf : Leaf.finR (.para ls) m) (hD : D.length < 100000) (hX : (txsC D).length < 100000)
    (hR : ∀ w p' D' ents' RM' x, p'.baseL = p.baseL → p'.depth = p.depth → p'.lineno = p.lineno → p'.stn = 1 → ClosedR (.para ls) m ents D D' ents' → RefsAt p'.links ents' RM' → DocS σ b rb (RM' ++ L) D' .none p' w → R (.returned x) w) :
    callE P i_parseState_closeBlock #[.pointer (some ⟨b, 0, none⟩)] R w := by
  cases m with
  | none => exact closeLeaf_ok h hf hD hX fun w p' D' x h1 h2 h3 h4 h5 h => hR w p' D' ents RM x (PS.baseL_of h1) h2 h3 h4 ⟨h5, rfl⟩ (by rw [PS.links_of h1]; exact hM) h
  | some ds =>
    obtain ⟨hds, hl⟩ := hf
    obtain ⟨r, obs, M, TM, IM, LM, hr, hs, ht, hI, ⟨qb, s, e, rfl, hp, hs1, hne, hln⟩, h⟩ := h
    have hIl := hI.1
    simp only [List.length_map, Nat.mul_one] at hIl
    refine closeBlock_ok (ob := []) (par := r) (o := paraOB qb s e) (IM := IM) (inner := D.map DB.v) (fun p1 L1 tb q => ∃ RM' ents' nb, p1 = { p with links := p1.links } ∧ addRefs ents ds ents' ∧ RefsAt p1.links ents' RM' ∧
      L1 = emptyC nb s e :: (LM ++ (TM ++ (ownC D ++ ((txsC D).map TX.chunk ++ (RM' ++ L))))) ∧ tb = ty_P_Empty ∧ q = some ⟨nb, 0, none⟩) h hs rfl hI (by omega) ?_ ?_
    · intro R' w h hk
      have h : Sat σ w (p.at b :: M ++ (RM ++ (LM ++ (IM ++ (TM ++ (ownC D ++ ((txsC D).map TX.chunk ++ L))))))) := h.re (by intro _; simp only [List.append_eq, cnt_append, cnt_cons, cnt_nil] <;> omega)
      refine enter_meth meth_paraBuild ?_
      refine paraDefs_ok (ob := [r]) (o := paraOB qb s e) h hs hM hp hne (by omega) rfl hl hds fun w p' RM' ents' nb hp' ha hM' h => ?_
      have h : Sat σ w (p'.at b :: M ++ (RM' ++ (LM ++ (emptyC nb s e :: (IM ++ (TM ++ (ownC D ++ ((txsC D).map TX.chunk ++ L)))))))) := h
      exact hk w p' _ ty_P_Empty _ (by rw [hp']) (by rw [hp']) (by rw [hp']) (by decide) ⟨RM', ents', nb, hp', ha, hM', rfl, rfl, rfl⟩ (h.re (by intro _; simp only [List.append_eq, cnt_append, cnt_cons, cnt_nil] <;> omega))
    · intro w p2 M2 IM2 p1 L1 tb q q' c' hpost hp2 hs2 hI2 h
      obtain ⟨RM', ents', nb, hp1, ha, hM', rfl, rfl, rfl⟩ := hpost
      have e1 : p2 = { p with links := p2.links, stn := 1 } := by rw [hp2, hp1]; rfl
      have hlk : p2.links = p1.links := by rw [hp2]
      refine hR w p2 (D ++ [emptyDB nb s e]) ents' RM' _ (by rw [e1]; rfl) (by rw [e1]) (by rw [e1]) (by rw [e1]) ⟨ha, nb, s, e, rfl⟩ (by rw [hlk]; exact hM') ?_
      refine ⟨{ r with q := q', n := r.n + 1, c := c' }, [], M2, TM, IM2, [], hr, hs2, ?_, ?_, ⟨rfl, rfl⟩, ?_⟩
      · rw [txsC_snoc, List.map_append]
        show Txts p2 ((txsC D).map TX.t ++ []) TM
        rw [List.append_nil]
        exact ht.of (by rw [e1]) (by rw [e1]) (by rw [e1])
      · rw [List.map_append]; exact hI2
      · rw [ownC_snoc, txsC_snoc, List.map_append]
        show Sat σ w (p2.at b :: M2 ++ (IM2 ++ (TM ++ ([] ++ ((ownC D ++ [emptyC nb s e]) ++ (((txsC D).map TX.chunk ++ []) ++ (RM' ++ L)))))))
        exact h.less LM (by intro _; simp only [List.append_eq, cnt_append, cnt_cons, cnt_nil] <;> omega)
/-- The stack is cut down to the root. -/
theorem trimLeafR_ok {b rb : Nat} {p : PS} {D : List DB} {lf : Leaf} {ents : List RefE} {RM : List Chunk} {m : Mode} (h : DocS σ b rb (RM ++ L) D lf p w) (hM : RefsAt p.links ents RM) (hf : lf.finR m) (hD : D.length < 100000) (hX : (txsC D).length < 100000)
    (hR : ∀ w p' D' ents' RM', p'.baseL = p.baseL → p'.depth = p.depth → p'.lineno = p.lineno → p'.stn = 1 → ClosedR lf m ents D D' ents' → RefsAt p'.links ents' RM' → DocS σ b rb (RM' ++ L) D' .none p' w → R (.returned (.tuple #[])) w) :
    callE P i_parseState_trimStack #[.pointer (some ⟨b, 0, none⟩), .int .i64 1] R w := by
  cases lf with
  | none =>
    have hc0 : ClosedR .none m ents D D ents := by cases m with
      | none => exact ⟨rfl, rfl⟩
      | some ds => exact hf.elim
    obtain ⟨r, obs, M, TM, IM, LM, hr, hs, ht, hI, ⟨rfl, rfl⟩, h⟩ := h
    have hn := hs.2.1
    refine trimStack_noop h (by rw [hn]; rfl) fun w h => ?_
    exact hR w p D ents RM rfl rfl rfl hn hc0 hM ⟨r, [], M, TM, IM, [], hr, hs, ht, hI, ⟨rfl, rfl⟩, h⟩
  | para ls =>
    have h0 := h
    obtain ⟨r, obs, M, TM, IM, LM, hr, hs, ht, hI, ⟨qb, s, e, rfl, hp, hs1, hne, hln⟩, h⟩ := h
    have hn : p.stn = 2 := hs.2.1
    refine g_parseState_trimStack.sound ?_
    refine nilP_some ?_
    refine ⟨_, _, _, Sat.ld h (by first | assumption | (repeat (first | exact .head _ | apply List.Mem.tail))) (by exact rfl), ?_⟩
    rw [hn]
    refine br_false rfl ?_
    intro X hX'
    refine hX' _ _ _ (nilP_some ?_)
    refine ⟨_, _, _, Sat.ld h (by first | assumption | (repeat (first | exact .head _ | apply List.Mem.tail))) (by exact rfl), ?_⟩
    rw [hn]
    refine br_true rfl ?_
    refine closeLeafR_ok h0 hM hf hD hX fun w p' D' ents' RM' x h1 h2 h3 h4 h5 hM' h => ⟨_, rfl, ?_⟩
    have h0 := h
    obtain ⟨r, obs, M, TM, IM, LM, hr, hs, ht, hI, hL, h⟩ := h
    refine hX' _ _ _ (nilP_some ?_)
    refine ⟨_, _, _, Sat.ld h (by first | assumption | (repeat (first | exact .head _ | apply List.Mem.tail))) (by exact rfl), ?_⟩
    rw [h4]
    exact br_false rfl (hR w p' D' ents' RM' h1 h2 h3 h4 h5 hM' h0)
/-- A blank line ends a paragraph. -/
theorem addLine_blankR {b rb : Nat} {p : PS} {D : List DB} {ents : List RefE} {RM : List Chunk} {m : Mode} {ls : List (List UInt8)} {l : Ln} (h : DocS σ b rb (RM ++ L) D (.para ls) p w) (hM : RefsAt p.links ents RM) (hl : l.ok) (hb : l.blank = true) (hf : Leaf.finR (.para ls) m) (hD : D.length < 100000) (hX : (txsC D).length < 100000)
    (hR : ∀ w p' D' ents' RM', p'.baseL = p.baseL → p'.lineno = p.lineno → ClosedR (.para ls) m ents D D' ents' → RefsAt p'.links ents' RM' → DocS σ b rb (RM' ++ L) D' .none p' w → R (.returned (.tuple #[])) w) :
    callE P i_parseState_addLine #[.pointer (some ⟨b, 0, none⟩), l.val] R w := by
  refine addLine_open h hl fun w b1 b2 p1 hp1 h => ?_
  unfold g_parseState_addLine.k2
  obtain ⟨r, obs, M, TM, IM, LM, hr, hs, ht, hI, hL, h⟩ := h
  refine isBlank_ok h (by simp) hl fun w h => ⟨_, rfl, ?_⟩
  rw [hb]
  refine br_true rfl (nilP_some ?_)
  refine ⟨_, Sat.ld h (by first | assumption | (repeat (first | exact .head _ | apply List.Mem.tail))) (by exact rfl), ?_⟩
  rw [show p1.depth = 0 by rw [hp1], show IntKind.i64.wrap (0 + 1) = 1 from rfl]
  have hh : DocS σ b rb (RM ++ (l.at b1 :: l.at b2 :: L)) D (.para ls) p1 w := ⟨r, obs, M, TM, IM, LM, hr, hs, ht, hI, hL, h.re (by intro _; simp only [List.append_eq, cnt_append, cnt_cons, cnt_nil] <;> omega)⟩
  refine trimLeafR_ok hh (by rw [hp1]; exact hM) hf hD hX fun w p' D' ents' RM' h1 h2 h3 h4 h5 hM' h => ⟨rfl, ?_⟩
  refine hR w p' D' ents' RM' (by rw [h1, hp1]; rfl) (by rw [h3, hp1]) h5 hM' ?_
  obtain ⟨r, obs, M, TM, IM, LM, hr, hs, ht, hI, hL, h⟩ := h
  exact ⟨r, obs, M, TM, IM, LM, hr, hs, ht, hI, hL, h.less [l.at b1, l.at b2] (by intro _; simp only [List.append_eq, cnt_append, cnt_cons, cnt_nil] <;> omega)⟩
/-- All is closed. -/
theorem finishDocR_ok {b rb : Nat} {p : PS} {D : List DB} {lf : Leaf} {ents : List RefE} {RM : List Chunk} {m : Mode} (h : DocS σ b rb (RM ++ L) D lf p w) (hM : RefsAt p.links ents RM) (hf : lf.finR m) (hD : D.length < 100000) (hX : (txsC D).length < 100000)
    (hR : ∀ w (p' : PS) D' ents' RM' db IM TM q n c s e, p'.baseL = { p.baseL with root := some ⟨db, 0, none⟩ } → ClosedR lf m ents D D' ents' → RefsAt p'.links ents' RM' → Txts p' ((txsC D').map TX.t) TM → Sl 1 ty_Block q n c (D'.map DB.v) IM → n < 1000000 →
      Sat σ w (p'.at b :: (TM ++ ((txsC D').map TX.chunk ++ (docC db s e q n c p'.links :: (IM ++ (ownC D' ++ (RM' ++ L))))))) → R (.returned (.tuple #[])) w) :
    callE P i_parseState_trimStack #[.pointer (some ⟨b, 0, none⟩), .int .i64 0] R w := by
  refine g_parseState_trimStack.sound ?_
  have root : ∀ {X : OA → Int → WP} {w} {p1 : PS} {D' ents' RM'}, (∀ x0 x1 w, g_parseState_trimStack.bl1 R X x0 x1 w → X x0 x1 w) → p1.baseL = p.baseL → ClosedR lf m ents D D' ents' → RefsAt p1.links ents' RM' → DocS σ b rb (RM' ++ L) D' .none p1 w → X (some ⟨b, 0, none⟩) 0 w := by
    intro X w p1 D' ents' RM' hX' hb hcl hM' h
    obtain ⟨r, obs, M, TM, IM, LM, hr, hs, ht, hI, ⟨rfl, rfl⟩, h⟩ := h
    have hn : p1.stn = 1 := hs.2.1
    refine hX' _ _ _ (nilP_some ?_)
    refine ⟨_, _, _, Sat.ld h (by first | assumption | (repeat (first | exact .head _ | apply List.Mem.tail))) (by exact rfl), ?_⟩
    rw [hn]
    refine br_true rfl ?_
    refine closeRoot_ok h hs hr fun w db h => ⟨_, rfl, hX' _ _ _ (nilP_some ?_)⟩
    refine ⟨_, _, _, Sat.ld h (by first | assumption | (repeat (first | exact .head _ | apply List.Mem.tail))) (by exact rfl), ?_⟩
    refine br_false rfl ?_
    have hIl := hI.1
    simp only [List.length_map, Nat.mul_one] at hIl
    have hDl : D'.length < 1000000 := by
      cases m with
      | none =>
        obtain ⟨hcl, _⟩ := hcl
        cases lf with
        | none => rw [show D' = D from hcl]; omega
        | para ls => obtain ⟨nb, t, s, e, rfl⟩ := hcl; simp; omega
      | some ds => obtain ⟨_, nb, s, e, rfl⟩ := hcl; simp; omega
    refine hR w { p1 with stn := 0, root := some ⟨db, 0, none⟩ } D' ents' RM' db IM TM r.q r.n r.c r.s r.e ?_ hcl hM' (ht.of rfl rfl rfl) hI (by omega) ?_
    · have e : ({ p1 with stn := 0, root := some ⟨db, 0, none⟩ } : PS).baseL = { p1.baseL with root := some ⟨db, 0, none⟩ } := rfl
      rw [e, hb]
    · have h : Sat σ w (({ p1 with stn := 0, root := some ⟨db, 0, none⟩ } : PS).at b :: M ++ (docC db r.s r.e r.q r.n r.c p1.links :: (IM ++ (TM ++ ([] ++ (ownC D' ++ ((txsC D').map TX.chunk ++ (RM' ++ L)))))))) := h
      exact h.less M (by intro _; simp only [List.append_eq, cnt_append, cnt_cons, cnt_nil] <;> omega)
  have h0 := h
  obtain ⟨r, obs, M, TM, IM, LM, hr, hs, ht, hI, hL, h⟩ := h
  refine nilP_some ?_
  refine ⟨_, _, _, Sat.ld h (by first | assumption | (repeat (first | exact .head _ | apply List.Mem.tail))) (by exact rfl), ?_⟩
  refine br_false (by simp) ?_
  intro X hX'
  cases lf with
  | none =>
    have hc0 : ClosedR .none m ents D D ents := by cases m with
      | none => exact ⟨rfl, rfl⟩
      | some ds => exact hf.elim
    exact root hX' rfl hc0 hM h0
  | para ls =>
    obtain ⟨qb, s, e, rfl, hp, hs1, hne, hln⟩ := hL
    have hn : p.stn = 2 := hs.2.1
    refine hX' _ _ _ (nilP_some ?_)
    refine ⟨_, _, _, Sat.ld h (by first | assumption | (repeat (first | exact .head _ | apply List.Mem.tail))) (by exact rfl), ?_⟩
    rw [hn]
    refine br_true rfl ?_
    exact closeLeafR_ok h0 hM hf hD hX fun w p' D' ents' RM' x h1 h2 h3 h4 h5 hM' h => ⟨_, rfl, root hX' h1 h5 hM' h⟩
theorem meth_Empty : methB P ty_P_Empty "PrintHTML" i_Empty_PrintHTML = true := by kernel_rfl
theorem emptyDB_shows {F : List UInt8 → List UInt8 → List UInt8} {nb s e : Nat} : (emptyDB nb s e).shows F id := by
  intro ts ht
  cases ht
  refine ⟨fun l => Nat.le_refl _, fun σ R b l M L w hB h hb hR => enter_meth meth_Empty ?_⟩
  refine g_Empty_PrintHTML.sound ?_
  exact hR w M hB h
/-- What a line does to the state: J holds of it then. -/
def StepR (op : Opt) (l : List UInt8) (nl : UInt8) (D : List DB) (lf : Leaf) (ents : List RefE) (J : List DB → Leaf → List RefE → Prop) : Prop :=
  ∀ (σ : Out) (R : Ending → World → Prop) (L : List Chunk) (b rb pb : Nat) (p : PS) (RM : List Chunk) (w : World), op.at pb ∈ L → p.pz = some ⟨pb, 0, none⟩ → p.lineno < 1000000000 → RefsAt p.links ents RM → DocS σ b rb (RM ++ L) D lf p w →
    (∀ w (p' : PS) D' lf' ents' RM', p'.baseL = p.baseL → p'.lineno = p.lineno → J D' lf' ents' → RefsAt p'.links ents' RM' → DocS σ b rb (RM' ++ L) D' lf' p' w → R (.returned (.tuple #[])) w) → callE P i_parseState_addLine #[.pointer (some ⟨b, 0, none⟩), (lnOf l nl).val] R w
/-- The loop over the lines. -/
theorem lines_okR {op : Opt} {I : List (List UInt8 × UInt8) → List DB → Leaf → List RefE → Prop} (step : ∀ l nl rem D lf ents, I ((l, nl) :: rem) D lf ents → StepR op l nl D lf ents (I rem)) {X : OA → BA → Nat → WP} {b rb pb : Nat} {p0 : PS}
    (hX : ∀ x0 x1 x6 w, g_Parser_parse.bl1 R X x0 x1 x6 w → X x0 x1 x6 w) (hop : op.at pb ∈ L) (hpz : p0.pz = some ⟨pb, 0, none⟩)
    (hE : ∀ w (p : PS) D lf ents RM, p.baseL = p0.baseL → I [] D lf ents → RefsAt p.links ents RM → DocS σ b rb (RM ++ L) D lf p w → g_Parser_parse.bl1 R X (some ⟨pb, 0, none⟩) (bs []) b w) {text : List UInt8} {ls : List (List UInt8 × UInt8)} (hL : LinesOf text ls) :
    ∀ w (p : PS) D lf ents RM, text.length < 1000000 → p.lineno + ls.length < 1000000000 → p.baseL = p0.baseL → I ls D lf ents → RefsAt p.links ents RM → DocS σ b rb (RM ++ L) D lf p w → X (some ⟨pb, 0, none⟩) (bs text) b w := by
  have k3 : ∀ (l : List UInt8) (nl : UInt8) (t : List UInt8) (rem : List (List UInt8 × UInt8)) w (p : PS) D lf ents RM, (∀ w (p : PS) D lf ents RM, p.lineno + rem.length < 1000000000 → p.baseL = p0.baseL → I rem D lf ents → RefsAt p.links ents RM → DocS σ b rb (RM ++ L) D lf p w → X (some ⟨pb, 0, none⟩) (bs t) b w) →
      p.lineno + rem.length + 1 < 1000000000 → p.baseL = p0.baseL → I ((l, nl) :: rem) D lf ents → RefsAt p.links ents RM → DocS σ b rb (RM ++ L) D lf p w → g_Parser_parse.k3 R X (some ⟨pb, 0, none⟩) (bs t) b (bs l) (nl.toNat : Int) w := by
    intro l nl t rem w p D lf ents RM next hno hb hI hRM h
    obtain ⟨r, obs, M, TM, IM, LM, hr, hs, ht, hIs, hL, h⟩ := h
    unfold g_Parser_parse.k3
    refine ⟨_, Sat.ld h (.head _) (i := 3) rfl, ?_⟩
    rw [i64_inc (by omega)]
    refine Sat.st h (k := 0) rfl (Nat.le_of_ble_eq_true rfl) trivial (by first | (dsimp only [List.set]; exact rfl) | exact rfl) fun w h => ?_
    let p1 : PS := { p with lineno := p.lineno + 1 }
    have h : Sat σ w (p1.at b :: M ++ (IM ++ (TM ++ (LM ++ (ownC D ++ ((txsC D).map TX.chunk ++ (RM ++ L))))))) := h
    have hb1 : p1.baseL = p0.baseL := hb
    have hpz1 : p1.pz = some ⟨pb, 0, none⟩ := by
      have := congrArg PS.pz hb1
      rw [show p1.pz = p0.pz from this]; exact hpz
    refine step l nl rem D lf ents hI σ _ L b rb pb p1 RM w hop hpz1 (by show p.lineno + 1 < _; omega) hRM ⟨r, obs, M, TM, IM, LM, hr, hs.of rfl rfl rfl, ht.of rfl rfl rfl, hIs, hL, h⟩ fun w p2 D' lf' ents' RM' h1 h2 h3 hRM' h4 => ⟨rfl, ?_⟩
    exact next w p2 D' lf' ents' RM' (by rw [h2]; show p.lineno + 1 + _ < _; omega) (h1.trans hb1) h3 hRM' h4
  induction hL with
  | nil =>
    intro w p D lf ents RM hlen hno hb hI hRM h
    exact hX _ _ _ _ (hE w p D lf ents RM hb hI hRM h)
  | @last l hne hnl =>
    intro w p D lf ents RM hlen hno hb hI hRM h
    have e10 : idxInt l [10] = -1 := by unfold idxInt; rw [idx_none hnl.1]
    have e13 : idxInt l [13] = -1 := by unfold idxInt; rw [idx_none hnl.2]
    refine hX _ _ _ _ (br_true (by rw [bs_toList]; simpa using hne) ?_)
    refine zzIndex_ok (sub := [10]) (by omega) (by decide) ⟨_, rfl, ?_⟩
    refine zzIndex_ok (sub := [13]) (by omega) (by decide) ⟨_, rfl, ?_⟩
    rw [e10, e13]
    refine br_false rfl (br_false rfl ?_)
    refine k3 l 0 [] [] w p D lf ents RM ?_ (by simp at hno ⊢; omega) hb hI hRM h
    intro w p D lf ents RM hno hb hI hRM h
    exact hX _ _ _ _ (hE w p D lf ents RM hb hI hRM h)
  | @cons l t ls hnl hLt ih =>
    intro w p D lf ents RM hlen hno hb hI hRM h
    have hl13 : 13 ∉ l ++ 10 :: t := (LinesOf.cons hnl hLt).no13
    have e10 : idxInt (l ++ 10 :: t) [10] = (l.length : Nat) := by unfold idxInt; rw [idx_first hnl.1]
    have e13 : idxInt (l ++ 10 :: t) [13] = -1 := by unfold idxInt; rw [idx_none hl13]
    have hlen' : (l ++ 10 :: t).length = l.length + t.length + 1 := by simp; omega
    refine hX _ _ _ _ (br_true (by rw [bs_toList]; simp [mk_toList]) ?_)
    refine zzIndex_ok (sub := [10]) (by omega) (by decide) ⟨_, rfl, ?_⟩
    refine zzIndex_ok (sub := [13]) (by omega) (by decide) ⟨_, rfl, ?_⟩
    rw [e10, e13]
    refine br_false rfl ?_
    refine br_true (by simp) ?_
    obtain ⟨r, obs, M, TM, IM, LM, hr, hs, ht, hIs, hL, h⟩ := h
    refine Sat.tk h fun w h => ?_
    rw [i64_inc (by omega), bs_size, Int.toNat_natCast, Int.toNat_natCast, bs_ext, bs_extract, List.drop_zero, List.take_left]
    refine ⟨by omega, by rw [hlen']; omega, by omega, by rw [hlen']; omega, ?_⟩
    have ed : (l ++ 10 :: t).drop (l.length + 1) = t := by rw [List.drop_append]; simp
    rw [ed]
    refine k3 l 10 t ls w p D lf ents RM ?_ (by simp at hno ⊢; omega) hb hI hRM ⟨r, obs, M, TM, IM, LM, hr, hs, ht, hIs, hL, h⟩
    intro w p D lf ents RM hno hb hI hRM h
    exact ih w p D lf ents RM (by rw [hlen'] at hlen; omega) hno hb hI hRM h
/-- A text of many lines is parsed, and prints itself. -/
theorem parses_docR {op : Opt} {text out : List UInt8} {ls : List (List UInt8 × UInt8)} {F : List UInt8 → List UInt8 → List UInt8} (hL : LinesOf text ls) (h0 : 0 ∉ text) (hlen : text.length < 1000000)
    (I : List (List UInt8 × UInt8) → List DB → Leaf → List RefE → Prop) (hI0 : I ls [] .none []) (step : ∀ l nl rem D lf ents, I ((l, nl) :: rem) D lf ents → StepR op l nl D lf ents (I rem))
    (fin : ∀ D lf ents, I [] D lf ents → ∃ m, lf.finR m ∧ D.length < 100000 ∧ (txsC D).length < 100000 ∧ ∀ D' ents' lk RM', ClosedR lf m ents D D' ents' → RefsAt lk ents' RM' → ∃ gs, Show F D' gs ∧ compL gs [] = out ∧ ∀ x ∈ txsC D', InlineOKG lk RM' op x.raw (F x.raw)) : ParsesTo op text out := by
  intro σ R L w pb h ho hR
  refine g_Parser_parse.sound ?_
  refine Sat.bx h fun b w h => ?_
  refine Sat.st h (k := 0) rfl (Nat.le_of_ble_eq_true rfl) trivial (by first | (dsimp only [List.set]; exact rfl) | exact rfl) fun w h => ?_
  have h : Sat σ w ((PS0 (some ⟨pb, 0, none⟩)).at b :: L) := h
  refine zzContains_ok (sub := [0]) (by omega) (by decide) ⟨_, rfl, ?_⟩
  rw [idx_none h0]
  refine br_false rfl ?_
  refine Sat.st h (k := 0) rfl (Nat.le_of_ble_eq_true rfl) trivial (by first | (dsimp only [List.set]; exact rfl) | exact rfl) fun w h => ?_
  refine Sat.bx h fun rb w h => ?_
  let p0 : PS := { PS0 (some ⟨pb, 0, none⟩) with depth := -1 }
  have h : Sat σ w (p0.at b :: [] ++ ((rb, cel [] ty_rootBuilder) :: L)) := h.up1
  have hstk : Stk p0 [] [] := ⟨Sl.nil 4 ty_openBlock, rfl, by simp⟩
  refine addBlock_ok h hstk rfl (by decide) fun w p1 M hp1 hs1 h => ⟨rfl, ?_⟩
  intro X hX
  have hll := hL.len
  have e1 : p1.baseL = p0.baseL := by rw [hp1]; rfl
  have hlk1 : p1.links = none := by rw [hp1]; rfl
  have e2 : p1.lineno = 0 := by rw [hp1]; rfl
  have htx : Txts p1 [] [] := by
    have : p1.tq = none ∧ p1.tn = 0 ∧ p1.tc = 0 := by rw [hp1]; exact ⟨rfl, rfl, rfl⟩
    obtain ⟨a, b, c⟩ := this
    unfold Txts
    rw [a, b, c]
    exact ⟨Sl.nil 1 ty_P_Text, rfl, by simp⟩
  have hd : DocS σ b rb ([] ++ ((rb, cel [] ty_rootBuilder) :: L)) [] .none p1 w :=
    ⟨⟨rootV rb, none, 0, 0, 0, 0⟩, [], M, [], [], [], rfl, hs1, htx, Sl.nil 1 ty_Block, ⟨rfl, rfl⟩, h⟩
  refine lines_okR (p0 := p0) (op := op) step hX (.tail _ ho) rfl ?_ hL w p1 [] .none [] [] hlen (by rw [e2]; omega) e1 hI0 (by rw [hlk1]; exact RefsAt.nil) hd
  intro w p D lf ents RM hb hI hRM hds
  obtain ⟨m, f1, f2, f3, f4⟩ := fin D lf ents hI
  refine br_false (by rw [bs_toList, mk_toList]; rfl) ?_
  refine finishDocR_ok hds hRM f1 f2 f3 fun w p' D' ents' RM' db IM TM q n c s e hb' hcl hRM' ht hIM hn h => ⟨rfl, ?_⟩
  obtain ⟨gs, hS, hout, hIn⟩ := f4 D' ents' p'.links RM' hcl hRM'
  have hbb : p'.baseL = { p0.baseL with root := some ⟨db, 0, none⟩ } := by rw [hb', hb]
  have hpz : p'.pz = some ⟨pb, 0, none⟩ := by have := congrArg PS.pz hbb; exact this
  have hrt : p'.root = some ⟨db, 0, none⟩ := by have := congrArg PS.root hbb; exact this
  have hLL : p'.Lq = none ∧ p'.Ln = 0 ∧ p'.Lc = 0 := ⟨by have := congrArg PS.Lq hbb; exact this, by have := congrArg PS.Ln hbb; exact this, by have := congrArg PS.Lc hbb; exact this⟩
  refine ⟨_, _, _, Sat.ld h (.head _) (i := 11) rfl, ?_⟩
  refine texts_ok (op := op) (F := F) (L0 := RM') h ht hpz (by simp [ho]) rfl (fun c hc => by simp [hc]) hLL hIn fun w p2 ts hp2 hf h => ?_
  have hrt2 : p2.root = some ⟨db, 0, none⟩ := by have := congrArg PS.root hp2; rw [show p2.root = p'.root from this]; exact hrt
  unfold g_Parser_parse.k4
  refine Sat.tk h fun w h => ?_
  refine ⟨_, Sat.ld h (.head _) (i := 1) rfl, _, Sat.ld h (.head _) (i := 6) rfl, ?_⟩
  rw [hrt2]
  obtain ⟨KM, KM', hP, hcnt⟩ := docs_print hS ts hf
  refine hR w db p2.corner (docC db s e q n c p'.links :: (IM ++ KM)) (docC db s e q n c p'.links :: (IM ++ KM')) (compL gs) (doc_prints hIM (by omega) hP) hout ?_
  refine Sat.less (p2.at b :: TM ++ (RM' ++ [(rb, cel [] ty_rootBuilder)])) h fun a => ?_
  have := hcnt a
  simp only [List.append_eq, cnt_append, cnt_cons, cnt_nil] at this ⊢
  omega
end Go.Proofs.YtejiaegiijokcaaGreatDoor


/- FnFirst: the document. -/
set_option linter.unusedVariables false
namespace Go.Proofs.YtejiaegiijokcaaGreatDoor
open Go.Proofs Go.IntWalk Go.RowKit
variable {σ : Out} {w : World} {L L' : List Chunk} {R : Ending → World → Prop}
def letB2 (c : UInt8) : Bool := (decide (97 ≤ c.toNat) && decide (c.toNat ≤ 122)) || (decide (65 ≤ c.toNat) && decide (c.toNat ≤ 90))
theorem let_all : ((List.range 256).all fun n => !letB2 (UInt8.ofNat n) || (destB (UInt8.ofNat n) && !isSTN (UInt8.ofNat n) && UInt8.ofNat n != 91 && UInt8.ofNat n != 92 && UInt8.ofNat n != 93 && UInt8.ofNat n != 0 && UInt8.ofNat n != 10 && UInt8.ofNat n != 13 && (escB htmlPs (UInt8.ofNat n) == [UInt8.ofNat n]) && (escB linkPs (UInt8.ofNat n) == [UInt8.ofNat n]))) = true := by decide +kernel
theorem let_facts {c : UInt8} (h : letB2 c = true) : destB c = true ∧ isSTN c = false ∧ c ≠ 91 ∧ c ≠ 92 ∧ c ≠ 93 ∧ c ≠ 0 ∧ c ≠ 10 ∧ c ≠ 13 ∧ escB htmlPs c = [c] ∧ escB linkPs c = [c] := by
  have := List.all_eq_true.1 let_all c.toNat (List.mem_range.2 c.toNat_lt)
  rw [UInt8.ofNat_toNat, h] at this
  simp only [Bool.not_true, Bool.false_or, Bool.and_eq_true, beq_iff_eq, Bool.not_eq_true', bne_iff_ne, ne_eq] at this
  obtain ⟨⟨⟨⟨⟨⟨⟨⟨⟨h1, h2⟩, h3⟩, h4⟩, h5⟩, h6⟩, h7⟩, h8⟩, h9⟩, h10⟩ := this
  exact ⟨h1, h2, h3, h4, h5, h6, h7, h8, h9, h10⟩
theorem let_nil {o : Opt} {c : UInt8} (h : letB2 c = true) : parserOf o c = .nil := by
  have ne : ∀ d : UInt8, letB2 d = false → c ≠ d := by rintro d hd rfl; rw [h] at hd; cases hd
  unfold parserOf
  rw [if_neg (ne 92 (by decide)), if_neg (ne 96 (by decide)), if_neg (ne 60 (by decide)), if_neg (ne 91 (by decide)), if_neg (ne 33 (by decide)), if_neg (by rintro (h | h) <;> exact ne _ (by decide) h), if_neg (ne 46 (by decide)), if_neg (ne 45 (by decide)), if_neg (by rintro (h | h) <;> exact ne _ (by decide) h), if_neg (ne 126 (by decide)), if_neg (ne 10 (by decide)), if_neg (ne 38 (by decide)), if_neg (ne 58 (by decide))]
/-- A word of letters. -/
structure LetW (s : List UInt8) : Prop where
  ne : s ≠ []
  len : s.length ≤ 60
  ok : ∀ c ∈ s, letB2 c = true
theorem LetW.lab {s : List UInt8} (h : LetW s) : LabB s := by
  have hp := List.length_pos_iff.2 h.ne
  have hl := h.len
  refine ⟨h.ne, by omega, fun c hc => ?_, ?_, ?_⟩
  · have := let_facts (h.ok c hc); exact ⟨this.2.2.1, this.2.2.2.1, this.2.2.2.2.1⟩
  · rw [← getElem_getD hp]; exact (let_facts (h.ok _ (List.getElem_mem _))).2.1
  · rw [← getElem_getD (show s.length - 1 < s.length by omega)]; exact (let_facts (h.ok _ (List.getElem_mem _))).2.1
theorem norm_map : ∀ {s : List UInt8}, (∀ c ∈ s, isSTN c = false) → normGo false s = s.map lowC
  | [], _ => rfl
  | c :: s, h => by
    have hc := h c (.head _)
    have ih := norm_map (s := s) (fun d hd => h d (.tail _ hd))
    simp [normGo, hc, ih]
theorem LetW.norm {s : List UInt8} (h : LetW s) : normGo false s = s.map lowC := norm_map fun c hc => (let_facts (h.ok c hc)).2.1
theorem LetW.dest {s : List UInt8} (h : LetW s) : ∀ c ∈ (47 :: s), destB c = true ∧ isSTN c = false := by
  intro c hc
  rcases List.mem_cons.1 hc with rfl | hc
  · decide
  · have := let_facts (h.ok c hc); exact ⟨this.1, this.2.1⟩
theorem escS_all {ps : Prs} {s : List UInt8} (h : ∀ c ∈ s, escB ps c = [c]) : escS ps s = s := by
  induction s with
  | nil => rfl
  | cons c s ih => rw [escS_cons, h c (.head _), ih (fun d hd => h d (.tail _ hd))]; rfl
theorem br_line {s : List UInt8} {nl : UInt8} (hs : s.length < 10000) : (lnOf (91 :: s) nl).plain ∧ (lnOf (91 :: s) nl).cont ∧ (lnOf (91 :: s) nl).rest = 91 :: s := by
  have hp : (lnOf (91 :: s) nl).plain := plain_first (by decide) (by omega)
  have h1 : isST 91 = false := by decide
  have hpk : ((lnOf (91 :: s) nl).lead 3 false).peek = 91 := by rw [lead_first h1]; rfl
  refine ⟨hp, ⟨hp, by rw [hpk]; decide, by rw [hpk]; decide, by rw [hpk]; decide⟩, ?_⟩
  show (91 :: s).dropWhile isST = _
  rw [List.dropWhile_cons_of_neg (by decide)]
def firstLines (lab oth a b : List UInt8) : List (List UInt8 × UInt8) := [(shortT oth, 10), ([], 10), (defT lab (47 :: a), 10), (defT oth (47 :: b), 10)]
def firstT (lab oth a b : List UInt8) : List UInt8 := shortT oth ++ 10 :: ([] ++ 10 :: (defT lab (47 :: a) ++ 10 :: (defT oth (47 :: b) ++ 10 :: [])))
theorem short_mem {oth : List UInt8} {c : UInt8} (h : c ∈ shortT oth) : c = 91 ∨ c ∈ oth ∨ c = 93 := by simpa [shortT] using h
theorem def_mem {lab D : List UInt8} {c : UInt8} (h : c ∈ defT lab D) : c = 91 ∨ c ∈ lab ∨ c = 93 ∨ c = 58 ∨ c = 32 ∨ c ∈ D := by simpa [defT] using h
theorem short_no {oth : List UInt8} (h : LetW oth) {d : UInt8} (hd : d = 0 ∨ d = 10 ∨ d = 13) : d ∉ shortT oth := by
  intro hm
  rcases short_mem hm with rfl | hc | rfl
  · revert hd; decide
  · have := let_facts (h.ok d hc)
    rcases hd with rfl | rfl | rfl
    · exact this.2.2.2.2.2.1 rfl
    · exact this.2.2.2.2.2.2.1 rfl
    · exact this.2.2.2.2.2.2.2.1 rfl
  · revert hd; decide
theorem def_no {lab a : List UInt8} (h : LetW lab) (h2 : LetW a) {d : UInt8} (hd : d = 0 ∨ d = 10 ∨ d = 13) : d ∉ defT lab (47 :: a) := by
  have key : ∀ s, LetW s → d ∉ s := by
    intro s h hc
    have := let_facts (h.ok d hc)
    rcases hd with rfl | rfl | rfl
    · exact this.2.2.2.2.2.1 rfl
    · exact this.2.2.2.2.2.2.1 rfl
    · exact this.2.2.2.2.2.2.2.1 rfl
  intro hm
  rcases def_mem hm with rfl | hc | rfl | rfl | rfl | hc
  · revert hd; decide
  · exact key _ h hc
  · revert hd; decide
  · revert hd; decide
  · revert hd; decide
  · rcases List.mem_cons.1 hc with rfl | hc
    · revert hd; decide
    · exact key _ h2 hc
def firstOut (oth a : List UInt8) : List UInt8 := pOpen ++ (linkO (47 :: a) [] ++ oth ++ aEnd) ++ pClose
theorem html_first {lab oth a b : List UInt8} (hl : LetW lab) (ho : LetW oth) (ha : LetW a) (hb : LetW b) (hlow : lab.map lowC = lab) (hoth : oth.map lowC = lab) : ParsesTo optOff (firstT lab oth a b) (firstOut oth a) := by
  have n1 := hl.len; have n2 := ho.len; have n3 := ha.len; have n4 := hb.len
  have hL : LinesOf (firstT lab oth a b) (firstLines lab oth a b) :=
    .cons ⟨short_no ho (.inr (.inl rfl)), short_no ho (.inr (.inr rfl))⟩ (.cons ⟨by simp, by simp⟩ (.cons ⟨def_no hl ha (.inr (.inl rfl)), def_no hl ha (.inr (.inr rfl))⟩ (.cons ⟨def_no ho hb (.inr (.inl rfl)), def_no ho hb (.inr (.inr rfl))⟩ .nil)))
  have h0 : 0 ∉ firstT lab oth a b := by
    intro hm
    simp only [firstT, List.mem_append, List.mem_cons, List.mem_nil_iff, or_false, false_or] at hm
    rcases hm with h | h | h | h | h | h | h
    · exact short_no ho (.inl rfl) h
    · revert h; decide
    · revert h; decide
    · exact def_no hl ha (.inl rfl) h
    · revert h; decide
    · exact def_no ho hb (.inl rfl) h
    · revert h; decide
  have hsl : (shortT oth).length = oth.length + 2 := by simp [shortT]
  have hd1 : (defT lab (47 :: a)).length = lab.length + a.length + 5 := by simp [defT]; omega
  have hd2 : (defT oth (47 :: b)).length = oth.length + b.length + 5 := by simp [defT]; omega
  have htl : (firstT lab oth a b).length < 1000000 := by
    simp only [firstT, List.length_append, List.length_cons, List.length_nil, hsl, hd1, hd2]; omega
  let F : List UInt8 → List UInt8 → List UInt8 := fun _ => ab (linkO (47 :: a) [] ++ oth ++ aEnd)
  let I : List (List UInt8 × UInt8) → List DB → Leaf → List RefE → Prop := fun rem D lf ents => ents = [] ∧
    ((rem = firstLines lab oth a b ∧ D = [] ∧ lf = .none) ∨ (rem = (firstLines lab oth a b).drop 1 ∧ D = [] ∧ lf = .para [shortT oth]) ∨
     (∃ nb t s e, D = [paraDB nb t s e (shortT oth)] ∧ ((rem = (firstLines lab oth a b).drop 2 ∧ lf = .none) ∨ (rem = (firstLines lab oth a b).drop 3 ∧ lf = .para [defT lab (47 :: a)]) ∨ (rem = [] ∧ lf = .para [defT lab (47 :: a), defT oth (47 :: b)]))))
  have hfinS : Leaf.finR (.para [shortT oth]) none := by
    refine ⟨?_, ?_, ?_⟩
    · show (joinL [10] [shortT oth]).length < _; simp [joinL, hsl]; omega
    · simp [joinL, shortT]
    · show NoRef (joinL [10] [shortT oth])
      have : joinL [10] [shortT oth] = shortT oth := by simp [joinL]
      rw [this]; exact noRef_short ho.lab
  have hjD : joinL [10] [defT lab (47 :: a), defT oth (47 :: b)] = defT lab (47 :: a) ++ 10 :: defT oth (47 :: b) := by simp [joinL]
  have hDefs : DefsT (joinL [10] [defT lab (47 :: a), defT oth (47 :: b)]) [(lab, 47 :: a), (oth, 47 :: b)] := by
    rw [hjD]
    exact .cons hl.lab (by simp) ha.dest (.one ho.lab (by simp) hb.dest)
  refine parses_docR (F := F) hL h0 htl I ⟨rfl, .inl ⟨rfl, rfl, rfl⟩⟩ ?_ ?_
  · rintro l nl rem D lf ents ⟨rfl, ⟨hrem, rfl, rfl⟩ | ⟨hrem, rfl, rfl⟩ | ⟨nb, t, s, e, rfl, ⟨hrem, rfl⟩ | ⟨hrem, rfl⟩ | ⟨hrem, _⟩⟩⟩
    · simp only [firstLines, List.cons.injEq, Prod.mk.injEq] at hrem
      obtain ⟨⟨rfl, rfl⟩, rfl⟩ := hrem
      intro σ R L b rb pb p RM w hop hpz hno hM h hR
      obtain ⟨hp, _, hr⟩ := br_line (s := oth ++ [93]) (nl := 10) (by simp; omega)
      have hr : (lnOf (shortT oth) 10).rest = shortT oth := hr
      refine addLine_plain0 h hpz (List.mem_append_right _ hop) hp hno fun w p' h1 h2 h3 => ?_
      rw [hr] at h3
      exact hR w p' _ _ [] RM (PS.baseL_of h1) h2 ⟨rfl, .inr (.inl ⟨rfl, rfl, rfl⟩)⟩ (by rw [PS.links_of h1]; exact hM) h3
    · simp only [firstLines, List.drop_succ_cons, List.drop_zero, List.cons.injEq, Prod.mk.injEq] at hrem
      obtain ⟨⟨rfl, rfl⟩, rfl⟩ := hrem
      intro σ R L b rb pb p RM w hop hpz hno hM h hR
      refine addLine_blankR h hM (lnOf_ok (by simp)) rfl hfinS (by simp) (by simp [txsC]) fun w p' D' ents' RM' h1 h2 h3 hM' h4 => ?_
      obtain ⟨⟨nb, t, s, e, rfl⟩, rfl⟩ := h3
      have e1 : joinL [10] [shortT oth] = shortT oth := by simp [joinL]
      rw [e1] at h4
      exact hR w p' _ _ [] RM' h1 h2 ⟨rfl, .inr (.inr ⟨nb, t, s, e, rfl, .inl ⟨rfl, rfl⟩⟩)⟩ hM' h4
    · simp only [firstLines, List.drop_succ_cons, List.drop_zero, List.cons.injEq, Prod.mk.injEq] at hrem
      obtain ⟨⟨rfl, rfl⟩, rfl⟩ := hrem
      intro σ R L b rb pb p RM w hop hpz hno hM h hR
      obtain ⟨hp, _, hr⟩ := br_line (s := lab ++ 93 :: 58 :: 32 :: 47 :: a) (nl := 10) (by simp; omega)
      have hr : (lnOf (defT lab (47 :: a)) 10).rest = defT lab (47 :: a) := hr
      refine addLine_plain0 h hpz (List.mem_append_right _ hop) hp hno fun w p' h1 h2 h3 => ?_
      rw [hr] at h3
      exact hR w p' _ _ [] RM (PS.baseL_of h1) h2 ⟨rfl, .inr (.inr ⟨nb, t, s, e, rfl, .inr (.inl ⟨rfl, rfl⟩)⟩)⟩ (by rw [PS.links_of h1]; exact hM) h3
    · simp only [firstLines, List.drop_succ_cons, List.drop_zero, List.cons.injEq, Prod.mk.injEq] at hrem
      obtain ⟨⟨rfl, rfl⟩, rfl⟩ := hrem
      intro σ R L b' rb pb p RM w hop hpz hno hM h hR
      obtain ⟨_, hc, hr⟩ := br_line (s := oth ++ 93 :: 58 :: 32 :: 47 :: b) (nl := 10) (by simp; omega)
      have hr : (lnOf (defT oth (47 :: b)) 10).rest = defT oth (47 :: b) := hr
      refine addLine_cont h hpz (List.mem_append_right _ hop) rfl hc (by simp) fun w p' h1 h2 h3 => ?_
      rw [hr] at h3
      exact hR w p' _ _ [] RM (PS.baseL_of h1) h2 ⟨rfl, .inr (.inr ⟨nb, t, s, e, rfl, .inr (.inr ⟨rfl, rfl⟩)⟩)⟩ (by rw [PS.links_of h1]; exact hM) h3
    · cases hrem
  · rintro D lf ents ⟨rfl, ⟨hrem, rfl, rfl⟩ | ⟨hrem, rfl, rfl⟩ | ⟨nb, t, s, e, rfl, ⟨hrem, rfl⟩ | ⟨hrem, rfl⟩ | ⟨_, rfl⟩⟩⟩
    · simp [firstLines] at hrem
    · simp [firstLines] at hrem
    · simp [firstLines] at hrem
    · simp [firstLines] at hrem
    refine ⟨some _, ⟨hDefs, by rw [hjD, List.length_append, List.length_cons, hd1, hd2]; omega⟩, by simp, by simp [txsC, paraDB], ?_⟩
    rintro D' ents' lk RM' ⟨hadd, nb2, s2, e2, rfl⟩ hM'
    have hents : ∃ lb, ents' = [(lab, lb, 47 :: a)] := by
      cases hadd with
      | cons h1 h2 =>
        cases h2 with
        | cons h3 h4 =>
          cases h4
          rw [hl.norm, hlow] at h1
          rw [ho.norm, hoth] at h3
          rcases h1 with ⟨_, lb, rfl⟩ | ⟨hs, _⟩
          · rcases h3 with ⟨hn, _⟩ | ⟨_, rfl⟩
            · simp [refK, findK] at hn
            · exact ⟨lb, rfl⟩
          · simp [refK, findK] at hs
    obtain ⟨lb, rfl⟩ := hents
    refine ⟨_, .cons (paraDB_shows (F := F)) (.cons emptyDB_shows .nil), ?_, ?_⟩
    · show id (F (shortT oth) ([] ++ pOpen) ++ pClose) = firstOut oth a
      simp [F, ab, firstOut]
    · intro x hx
      simp [txsC, paraDB, emptyDB] at hx
      subst hx
      refine short_inline (o := optOff) (lb := lb) (k' := lab) rfl hM' ho.lab (fun c hc => let_nil (ho.ok c hc)) ?_ (.head _) (by simp; omega) (escS_all fun c hc => (let_facts (ho.ok c hc)).2.2.2.2.2.2.2.2.1)
      rw [ho.norm, hoth]
      simp [refK, findK]
end Go.Proofs.YtejiaegiijokcaaGreatDoor


/- Numbers in texts: digits, Atoi, ParseInt. -/
set_option linter.unusedVariables false
namespace Go.Proofs.YtejiaegiijokcaaGreatDoor
open Go.Proofs Go.IntWalk Go.RowKit
variable {σ : Out} {w : World} {L L' : List Chunk} {R : Ending → World → Prop}
theorem bytesRow_get (s : List UInt8) (c i : Nat) (hi : i < s.length) : (bytesRow (bs s) c)[i]? = some (.int .u8 (s[i].toNat : Int)) := by
  unfold bytesRow
  rw [Array.getElem?_append_left (by simp [bs, hi])]
  simp [bs, hi]
end Go.Proofs.YtejiaegiijokcaaGreatDoor


/- FnFirst: the law's walk. -/
set_option linter.unusedVariables false
namespace Go.Proofs.YtejiaegiijokcaaGreatDoor
open Go.Proofs Go.IntWalk Go.RowKit
variable {σ : Out} {w : World} {L L' : List Chunk} {R : Ending → World → Prop}
theorem plainOpt2_ok (h : Sat σ w L) (hR : ∀ w, Sat σ w L → R (.returned (optV optOff)) w) : callE P i_laws_plain #[] R w := by
  refine g_laws_plain.sound ?_
  refine Sat.bx h fun b1 w h => ?_
  repeat (first | refine nilP_some ?_ | refine Sat.tk h fun w h => ?_ | refine ⟨_, Sat.ld h (by first | assumption | (repeat (first | exact .head _ | apply List.Mem.tail))) (by exact rfl), ?_⟩ | refine ⟨_, _, _, Sat.ld h (by first | assumption | (repeat (first | exact .head _ | apply List.Mem.tail))) (by exact rfl), ?_⟩ | refine Sat.st h (k := 0) rfl (Nat.le_of_ble_eq_true rfl) trivial (by first | (dsimp only [List.set]; exact rfl) | exact rfl) fun w h => ?_ | refine Sat.st h (k := 1) rfl (Nat.le_of_ble_eq_true rfl) trivial (by first | (dsimp only [List.set]; exact rfl) | exact rfl) fun w h => ?_ | refine Sat.st h (k := 2) rfl (Nat.le_of_ble_eq_true rfl) trivial (by first | (dsimp only [List.set]; exact rfl) | exact rfl) fun w h => ?_ | refine Sat.st h (k := 3) rfl (Nat.le_of_ble_eq_true rfl) trivial (by first | (dsimp only [List.set]; exact rfl) | exact rfl) fun w h => ?_ | refine Sat.st h (k := 4) rfl (Nat.le_of_ble_eq_true rfl) trivial (by first | (dsimp only [List.set]; exact rfl) | exact rfl) fun w h => ?_ | refine Sat.st h (k := 5) rfl (Nat.le_of_ble_eq_true rfl) trivial (by first | (dsimp only [List.set]; exact rfl) | exact rfl) fun w h => ?_ | refine Sat.st h (k := 6) rfl (Nat.le_of_ble_eq_true rfl) trivial (by first | (dsimp only [List.set]; exact rfl) | exact rfl) fun w h => ?_ | refine Sat.bx h fun b0 w h => ?_)
  exact hR _ h.tail
/-- A store into a row of which bytes beyond are fixed. -/
theorem Sat.stF (h : Sat σ w L) {b i lo hi : Nat} {cs : List Value} {e : TypeId} {v : Value} {K : World → Prop} {L0 : List Chunk} (hL : L = (b, .cells cs.toArray e (lo, hi)) :: L0) (hil : i < cs.length) (hlo : i < lo) (h1 : OneCell v)
    (hK : ∀ w', Sat σ w' ((b, .cells (cs.set i v).toArray e (lo, hi)) :: L0) → K w') : stV w ⟨b, i, none⟩ v K := by
  subst hL
  have hb := h.at_ _ (.head _)
  refine ⟨h1, ⟨cs[i], ?_⟩, ?_, hK _ ?_⟩
  · rw [cell_of_heap hb]; simp [hil]
  · unfold World.frozen?
    rw [show w.heap[(⟨b, i, none⟩ : Addr).block]? = some (.cells cs.toArray e (lo, hi)) from hb]
    simp; omega
  · refine ⟨h.os, h.out, h.nodup, fun c hc => ?_⟩
    have hbl := (Array.getElem?_eq_some_iff.1 hb).1
    cases hc with
    | head =>
      simp only [World.setCell, Array.getElem?_modify, if_true]
      rw [show w.heap[b]? = some (.cells cs.toArray e (lo, hi)) from hb]
      simp
    | tail _ hc =>
      have hne : b ≠ c.1 := by
        intro hbc
        have := h.nodup
        simp only [List.map_cons, List.nodup_cons] at this
        exact this.1 (List.mem_map.2 ⟨c, hc, hbc.symm⟩)
      simp only [World.setCell, Array.getElem?_modify]
      rw [if_neg hne]
      exact h.at_ _ (.tail _ hc)
theorem convOwn_ok {s : List UInt8} (h : Sat σ w L) {K : Option Addr → Nat → Nat → World → Prop}
    (hK : ∀ w' b c (cs : List Value) lo hi, Sat σ w' ((b, .cells cs.toArray ty_uint8 (lo, hi)) :: L) → s.length ≤ cs.length → s.length ≤ lo → (∀ i (hi : i < s.length), cs[i]? = some (.int .u8 (s[i].toNat : Int))) → K (some ⟨b, 0, none⟩) s.length c w') :
    ∃ q n c w', (convert ty_string ty_S_uint8 (.string (bs s))).run P w = .ok (.slice q n c) w' ∧ K q n c w' := by
  have hrun := run_bytes_of_string (P := P) w ty_string ty_S_uint8 ty_uint8 (bs s) (by kernel_rfl) (by kernel_rfl) (by kernel_rfl)
  refine ⟨_, _, _, _, hrun, ?_⟩
  generalize hc : grownCap w (bs s).size 0 ty_uint8 = c
  have hD := h.drew
  have hsz : w.drew.heap.size = w.heap.size := rfl
  have hrl : s.length ≤ (bytesRow (bs s) c).size := by
    rcases Nat.lt_or_ge (bytesRow (bs s) c).size s.length with hlt | hge
    · have := bytesRow_get s c _ hlt
      rw [Array.getElem?_eq_none (Nat.le_refl _)] at this; cases this
    · exact hge
  have ha := hD.alO (.cells (bytesRow (bs s) c) ty_uint8 ((bytesRow (bs s) c).size, (bytesRow (bs s) c).size + 1))
  rw [bs_size]
  refine hK _ _ _ (bytesRow (bs s) c).toList (bytesRow (bs s) c).size ((bytesRow (bs s) c).size + 1) ?_ (by simpa using hrl) hrl fun i hi => ?_
  · rw [Array.toArray_toList]; exact ha
  · have := bytesRow_get s c i hi
    simpa using this
def upC (c : UInt8) : UInt8 := c - 32
theorem up_int {c : UInt8} (h : 97 ≤ c.toNat ∧ c.toNat ≤ 122) : IntKind.u8.wrap ((c.toNat : Int) - 32) = ((upC c).toNat : Int) ∧ lowC (upC c) = c ∧ letB2 (upC c) = true ∧ letB2 c = true ∧ lowC c = c := by
  have e : (upC c).toNat = c.toNat - 32 := by
    unfold upC
    rw [UInt8.toNat_sub_of_le c 32 (by rw [UInt8.le_iff_toNat_le]; show 32 ≤ c.toNat; omega)]; rfl
  refine ⟨by rw [e, u8_in _ (by omega)]; omega, ?_, ?_, ?_, ?_⟩
  · unfold lowC
    rw [if_pos (by omega)]
    unfold upC
    exact UInt8.sub_add_cancel c 32
  · unfold letB2
    rw [e, Bool.or_eq_true]
    right
    rw [Bool.and_eq_true]
    exact ⟨decide_eq_true (by omega), decide_eq_true (by omega)⟩
  · unfold letB2
    rw [Bool.or_eq_true]
    left
    rw [Bool.and_eq_true]
    exact ⟨decide_eq_true h.1, decide_eq_true h.2⟩
  · unfold lowC
    rw [if_neg (by omega)]
def isLow (s : List UInt8) : Prop := s ≠ [] ∧ s.length ≤ 60 ∧ ∀ c ∈ s, 97 ≤ c.toNat ∧ c.toNat ≤ 122
theorem isLow.toW {s : List UInt8} (h : isLow s) : LetW s := ⟨h.1, h.2.1, fun c hc => (up_int (h.2.2 c hc)).2.2.2.1⟩
theorem isLow.low {s : List UInt8} (h : isLow s) : s.map lowC = s := by
  have : ∀ t : List UInt8, (∀ c ∈ t, 97 ≤ c.toNat ∧ c.toNat ≤ 122) → t.map lowC = t := by
    intro t ht
    induction t with
    | nil => rfl
    | cons c t ih => rw [List.map_cons, (up_int (ht c (.head _))).2.2.2.2, ih (fun d hd => ht d (.tail _ hd))]
  exact this s h.2.2
theorem isLow.up {s : List UInt8} (h : isLow s) : LetW (s.map upC) ∧ (s.map upC).map lowC = s := by
  refine ⟨⟨by simpa using h.1, by simpa using h.2.1, fun c hc => ?_⟩, ?_⟩
  · obtain ⟨d, hd, rfl⟩ := List.mem_map.1 hc
    exact (up_int (h.2.2 d hd)).2.2.1
  · have : ∀ t : List UInt8, (∀ c ∈ t, 97 ≤ c.toNat ∧ c.toNat ≤ 122) → (t.map upC).map lowC = t := by
      intro t ht
      induction t with
      | nil => rfl
      | cons c t ih => rw [List.map_cons, List.map_cons, (up_int (ht c (.head _))).2.1, ih (fun d hd => ht d (.tail _ hd))]
    exact this s h.2.2
/-- The end of the law. -/
theorem first_k3 {lab a b oth : List UInt8} (hl : isLow lab) (ho : LetW oth) (ha : isLow a) (hb : isLow b) (hoth : oth.map lowC = lab) (h : Sat σ w L) (hR : ∀ w, Sat σ w L → R (.returned (.bool true)) w) : g_laws_FnFirst.k3 R (bs lab) (bs a) (bs b) (bs oth) w := by
  have n1 := hl.2.1; have n2 := ho.len; have n3 := ha.2.1; have n4 := hb.2.1
  have hmax : IntKind.i64.max = 9223372036854775807 := rfl
  have b2 : ∀ s t : List UInt8, s.length + t.length < 10000 → (((bs s).size + (bs t).size : Nat) : Int) ≤ IntKind.i64.max := by intro s t hs; rw [hmax, bs_size, bs_size]; omega
  refine plainOpt2_ok h fun w h => ⟨_, _, _, _, _, _, _, _, _, _, rfl, ?_⟩
  rw [show ByteArray.mk #[91] = bs [91] from rfl, show ByteArray.mk #[93, 10, 10, 91] = bs [93, 10, 10, 91] from rfl, show ByteArray.mk #[93, 58, 32, 47] = bs [93, 58, 32, 47] from rfl, show ByteArray.mk #[10, 91] = bs [10, 91] from rfl, show ByteArray.mk #[10] = bs [10] from rfl]
  simp only [bs_append]
  have eT : [91] ++ oth ++ [93, 10, 10, 91] ++ lab ++ [93, 58, 32, 47] ++ a ++ [10, 91] ++ oth ++ [93, 58, 32, 47] ++ b ++ [10] = firstT lab oth a b := by simp [firstT, shortT, defT]
  rw [eT]
  refine ⟨b2 _ _ (by simp; omega), b2 _ _ (by simp; omega), b2 _ _ (by simp; omega), b2 _ _ (by simp; omega), b2 _ _ (by simp; omega), b2 _ _ (by simp; omega), b2 _ _ (by simp; omega), b2 _ _ (by simp; omega), b2 _ _ (by simp; omega), b2 _ _ (by simp; omega), ?_⟩
  have hP := html_first hl.toW ho ha.toW hb.toW hl.low hoth
  have hea : escS linkPs (47 :: a) = 47 :: a := escS_all fun c hc => by
    rcases List.mem_cons.1 hc with rfl | hc
    · decide
    · exact (let_facts (ha.toW.ok c hc)).2.2.2.2.2.2.2.2.2
  have hl1 : aHref.length = 9 := rfl
  have hl2 : aEnd.length = 4 := rfl
  have hl3 : pOpen.length = 3 := rfl
  have hl4 : pClose.length = 5 := rfl
  have hlo : linkO (47 :: a) [] = aHref ++ (47 :: a) ++ [34] ++ [62] := by unfold linkO; rw [hea, if_pos rfl]; simp
  show callE P i_impl_HTML #[optV optOff, .string (bs (firstT lab oth a b))] _ w
  refine html_ok hP (by simp only [firstOut, hlo, List.length_append, List.length_cons, List.length_nil]; omega) h fun w h => ⟨_, rfl, ?_⟩
  rw [show ByteArray.mk #[60, 112, 62, 60, 97, 32, 104, 114, 101, 102, 61, 34, 47] = bs (pOpen ++ aHref ++ [47]) from rfl, show ByteArray.mk #[34, 62] = bs [34, 62] from rfl, show ByteArray.mk #[60, 47, 97, 62, 60, 47, 112, 62, 10] = bs (aEnd ++ pClose) from rfl]
  simp only [bs_append]
  refine ⟨b2 _ _ (by simp; omega), b2 _ _ (by simp; omega), b2 _ _ (by simp; omega), b2 _ _ (by simp; omega), ?_⟩
  rw [bs_toList, bs_toList]
  have e3 : firstOut oth a = pOpen ++ aHref ++ [47] ++ a ++ [34, 62] ++ oth ++ (aEnd ++ pClose) := by simp [firstOut, hlo]
  rw [e3]
  simpa using hR w h
theorem fill3 (a b c : List UInt8) : Instr.fill (fun i => some (i * 1, 1)) ((Array.range (3 * 1)).map (rowStr.z.cells[· % rowStr.z.cells.size]!)) [(0, .string (bs a)), (1, .string (bs b)), (2, .string (bs c))] = some #[.string (bs a), .string (bs b), .string (bs c)] := by kernel_rfl
theorem fnFirst_ok {x0 x1 x2 : ByteArray} {up : Bool} (h : Sat σ w L) (hR : ∀ w, Sat σ w L → R (.returned (.bool true)) w) : callE P i_laws_FnFirst #[.string x0, .string x1, .string x2, .bool up] R w := by
  rw [bs_of x0, bs_of x1, bs_of x2]
  generalize x0.data.toList = lab
  generalize x1.data.toList = a
  generalize x2.data.toList = b
  refine g_laws_FnFirst.sound ?_
  refine br_split (fun _ => hR w h) (fun hsz => ?_)
  simp only [Bool.or_eq_false_iff, decide_eq_false_iff_not, bs_size] at hsz
  have hrun := run_buildSlice (P := P) w ty_S_string ty_string 3 #[(0, .string (bs lab)), (1, .string (bs a)), (2, .string (bs b))] #[.string (bs lab), .string (bs a), .string (bs b)] rowStr.i rowStr.z rowStr.ht rowStr.hi rowStr.hz (by rw [rowStr.hs]; decide) (by rw [rowStr.hs]; decide) (by rw [rowStr.hs]; exact fill3 lab a b)
  refine ⟨_, _, _, _, hrun, ?_⟩
  have ha := h.alO (.cells #[.string (bs lab), .string (bs a), .string (bs b)] ty_string)
  generalize w.alloc (.cells #[.string (bs lab), .string (bs a), .string (bs b)] ty_string) = w1 at ha ⊢
  generalize w.heap.size = rb at ha ⊢
  have h1 : Sat σ w1 ((rb, cel (sv [lab, a, b]) ty_string) :: L) := ha
  clear h ha hrun
  have hS : Sl 1 ty_string (some ⟨rb, 0, none⟩) 3 3 (sv [lab, a, b]) [(rb, cel (sv [lab, a, b]) ty_string)] := ⟨rfl, Nat.le_refl _, .inr ⟨rb, [], rfl, by simp, rfl⟩⟩
  -- behind the checks
  have fin : isLow lab → isLow a → isLow b → br up (∃ (r5q : Option Addr), ∃ (r5n : Nat), ∃ (r5c : Nat), ∃ w6, (convert ty_string ty_S_uint8 (.string (bs lab))).run P w1 = .ok (.slice r5q r5n r5c) w6 ∧ g_laws_FnFirst.l2 R (bs lab) (bs a) (bs b) r5q r5n r5c (r5n : Int) 0 w6) (g_laws_FnFirst.k3 R (bs lab) (bs a) (bs b) (bs lab) w1) := by
    intro hl ha hb
    refine br_split (fun _ => ?_) (fun _ => first_k3 hl hl.toW ha hb hl.low h1 fun w h => hR w h.tail)
    refine convOwn_ok h1 fun w2 qb c cs lo hi h hcl hlo hcs => ?_
    intro X hX
    have key : ∀ k i (cs : List Value) w, i + k = lab.length → Sat σ w ((qb, .cells cs.toArray ty_uint8 (lo, hi)) :: ((rb, cel (sv [lab, a, b]) ty_string) :: L)) → lab.length ≤ cs.length → (∀ j (hj : j < lab.length), cs[j]? = some (.int .u8 ((if j < i then upC lab[j] else lab[j]).toNat : Int))) →
        X (bs lab) (bs a) (bs b) (some ⟨qb, 0, none⟩) lab.length c (lab.length : Int) (i : Int) w := by
      intro k
      induction k with
      | zero =>
        intro i cs w hi2 h hcl hcs
        obtain rfl : i = lab.length := hi2
        have hb0 := h.at_ _ (.head _)
        refine hX _ _ _ _ _ _ _ _ _ (br_false (by simp) ⟨bs (lab.map upC), w, ?_, ?_⟩)
        · have hlm : (lab.map upC).length = lab.length := by simp
          have := run_convert_bytes_back w ty_S_uint8 ty_string ty_uint8 ⟨qb, 0, none⟩ c (lab.map upC) (P := P) (by kernel_rfl) (by kernel_rfl) (by kernel_rfl) fun j hj => ?_
          · rw [hlm] at this; exact this
          · rw [Addr.add_zero_lit, cell_of_heap hb0]
            have hjl : j < lab.length := by rw [← hlm]; exact hj
            have := hcs j hjl
            rw [if_pos hjl] at this
            simpa using this
        · exact first_k3 hl hl.up.1 ha hb hl.up.2 h fun w h => hR w h.tail.tail
      | succ k ih =>
        intro i cs w hi2 h hcl hcs
        have hil : i < lab.length := by omega
        have hb0 := h.at_ _ (.head _)
        have hci := hcs i hil
        rw [if_neg (by omega)] at hci
        have hlr := hl.2.2 _ (List.getElem_mem hil)
        refine hX _ _ _ _ _ _ _ _ _ (br_true (by simp; omega) ⟨by omega, by omega, nilP_some ?_⟩)
        simp only [Addr.add_lit, Int.toNat_natCast, Nat.mul_one, Nat.zero_add]
        refine ⟨_, by rw [cell_of_heap hb0]; simpa using hci, by omega, by omega, nilP_some ?_⟩
        simp only [Addr.add_lit, Int.toNat_natCast, Nat.mul_one, Nat.zero_add, Nat.add_zero]
        rw [(up_int hlr).1]
        refine Sat.stF h rfl (by omega) (by omega) trivial fun w h => ?_
        rw [i64_inc (by omega)]
        refine ih (i + 1) _ w (by omega) h (by simpa using hcl) fun j hj => ?_
        rw [List.getElem?_set]
        by_cases hji : i = j
        · subst hji
          rw [if_pos rfl, if_pos (by omega), if_pos (by omega)]
        · rw [if_neg hji, hcs j hj]
          congr 3
          by_cases hlt : j < i
          · rw [if_pos hlt, if_pos (by omega)]
          · rw [if_neg hlt, if_neg (by omega)]
    exact key lab.length 0 cs w2 (by omega) h hcl fun j hj => by rw [if_neg (by omega)]; exact hcs j hj
  intro X hX
  have chk : ∀ (s : List UInt8) (n : Nat), n < 3 → [lab, a, b][n]? = some s → (isLow s → X (bs lab) (bs a) (bs b) up (some ⟨rb, 0, none⟩) 3 3 3 ((n + 1 : Nat) : Int) w1) → X (bs lab) (bs a) (bs b) up (some ⟨rb, 0, none⟩) 3 3 3 ((n : Nat) : Int) w1 := by
    intro s n hn hs hx
    have hsv : (sv [lab, a, b])[n]? = some (.string (bs s)) := by unfold sv; rw [List.getElem?_map, hs]; rfl
    refine hX _ _ _ _ _ _ _ _ _ _ (br_true (by simp; omega) ⟨by omega, by omega, ?_⟩)
    refine hS.loadAt (L := L) h1 hsv fun b' hb' hc => ?_
    simp only [Addr.add_lit, Int.toNat_natCast, Nat.mul_one, Nat.zero_add]
    refine ⟨_, hc, br_split (fun _ => hR w1 h1.tail) (fun hb2 => ?_)⟩
    simp only [Bool.or_eq_false_iff, decide_eq_false_iff_not, bs_size] at hb2
    have hne : s ≠ [] := by rintro rfl; rw [bs_toList, mk_toList] at hb2; simp at hb2
    intro Y hY
    have key : ∀ k i, i + k = s.length → (∀ j (hj : j < s.length), j < i → 97 ≤ s[j].toNat ∧ s[j].toNat ≤ 122) → Y (bs lab) (bs a) (bs b) up (bs s) (i : Int) (some ⟨rb, 0, none⟩) 3 3 3 ((n : Nat) : Int) w1 := by
      intro k
      induction k with
      | zero =>
        intro i hi hall
        refine hY _ _ _ _ _ _ _ _ _ _ _ _ (br_false (by simp; omega) ?_)
        rw [i64_inc (by omega)]
        refine hx ⟨hne, by omega, fun c hc => ?_⟩
        obtain ⟨j, hj, rfl⟩ := List.mem_iff_getElem.1 hc
        exact hall j hj (by omega)
      | succ k ih =>
        intro i hi hall
        have hil : i < s.length := by omega
        refine hY _ _ _ _ _ _ _ _ _ _ _ _ (br_true (by simp; omega) ⟨by omega, by simp; omega, fun _ => ⟨by omega, by simp; omega⟩, ?_⟩)
        rw [bt_at hil]
        refine br_split (fun _ => hR w1 h1.tail) (fun hb3 => ?_)
        simp only [Bool.or_eq_false_iff, decide_eq_false_iff_not] at hb3
        rw [i64_inc (by omega)]
        refine ih (i + 1) (by omega) fun j hj hji => ?_
        by_cases hjl : j < i
        · exact hall j hj hjl
        · obtain rfl : j = i := by omega
          omega
    exact key s.length 0 (by omega) (fun j hj h => by omega)
  refine chk lab 0 (by decide) rfl fun hl => ?_
  refine chk a 1 (by decide) rfl fun ha => ?_
  refine chk b 2 (by decide) rfl fun hb => ?_
  exact hX _ _ _ _ _ _ _ _ _ _ (br_false rfl (fin hl ha hb))
end Go.Proofs.YtejiaegiijokcaaGreatDoor

