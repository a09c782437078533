/- Part 6 of the proof of the law FnIndentColumns: for every input the law returns true, the inputs read as they did, and memory that was there is as it was; under the conditions of the given row alone. -/
import Derived.SliceStrings
import Derived.WideKeyArgs
import Derived.Below
import Derived.Deep.Slices
import Derived.ChangeArms
import Derived.Test.YtgbgadkldalkbaaGreatDoorA5
set_option linter.all false
set_option linter.unusedVariables false
namespace Go.Proofs.YtgbgadkldalkbaaGreatDoor
open Go.Proofs Go.IntWalk Go.RowKit
variable {σ : Out} {w : World} {L L' : List Chunk} {R : Ending → World → Prop}
theorem callE.mono {f : FuncId} {args : Array Value} {R R' : Ending → World → Prop} (h : callE P f args R w) (hr : ∀ e w, R e w → R' e w) : callE P f args R' w :=
  h.imp (fun ⟨a, c⟩ => ⟨a, c.mono hr⟩) fun ⟨v, w', h1, h2⟩ => ⟨v, w', h1, hr _ _ h2⟩
theorem addBlock_gen {b : Nat} {p : PS} {K : List Chunk} {t : TypeId} {v : Value} (h : Sat σ w (p.at b :: K)) (hd : 0 ≤ p.depth ∧ p.depth < 1000000)
    (hT : ∀ w, Sat σ w (p.at b :: K) → callE P i_parseState_trimStack #[.pointer (some ⟨b, 0, none⟩), .int .i64 (p.depth + 1)] (fun e w => e = .returned (.tuple #[]) ∧ ∃ (p1 : PS) (l : List OB) (M L : List Chunk), Stk p1 l M ∧ l.length < 1048575 ∧ Sat σ w (p1.at b :: M ++ L) ∧
      ∀ w (p' : PS) M', p' = { p1 with stq := p'.stq, stn := l.length + 1, stc := p'.stc } → Stk p' (l ++ [⟨.iface t v, none, 0, 0, p1.lineno, p1.lineno⟩]) M' → Sat σ w (p'.at b :: M' ++ L) → R (.returned (.tuple #[])) w) w) :
    callE P i_parseState_addBlock #[.pointer (some ⟨b, 0, none⟩), .iface t v] R w := by
  refine g_parseState_addBlock.sound ?_
  repeat (first | refine nilP_some ?_ | refine h.tk fun w h => ?_ | refine ⟨_, h.ldA, ?_⟩ | refine ⟨_, _, _, h.ldA, ?_⟩)
  rw [i64_in _ (by omega)]
  refine (hT w h).mono fun e w hh => ⟨hh.1, ?_⟩
  obtain ⟨_, p1, l, M, L, hs, hl, h, hR⟩ := hh
  have hn := hs.2.1
  repeat (first | refine nilP_some ?_ | refine h.tk fun w h => ?_ | refine ⟨_, h.ldA, ?_⟩ | refine ⟨_, _, _, h.ldA, ?_⟩)
  have h : Sat σ w (M ++ (p1.at b :: L)) := h.re (by intro _; simp only [List.append_eq, cnt_append, cnt_cons, cnt_nil] <;> omega)
  refine Sat.app1 rowOB hs.1 h (v := .agg #[.nilIface, .slice none 0 0, .int .i64 0, .int .i64 0]) rfl (by decide) (by kernel_rfl) (by omega) (by omega) (by decide) fun q' c' w M' hs' h => ?_
  have h : Sat σ w (p1.at b :: M' ++ L) := h.re (by intro _; simp only [List.append_eq, cnt_append, cnt_cons, cnt_nil] <;> omega)
  let p' : PS := { p1 with stq := q', stn := l.length + 1, stc := c' }
  rw [hn] at hs' ⊢
  (first | refine nilP_some ?_ | refine h.tk fun w h => ?_ | refine ⟨_, h.ldA, ?_⟩ | refine ⟨_, _, _, h.ldA, ?_⟩ | refine h.stA 0 fun w h => ?_ | refine h.stA 1 fun w h => ?_ | refine h.stA 2 fun w h => ?_ | refine h.stA 3 fun w h => ?_ | refine h.stA 4 fun w h => ?_ | refine h.stA 5 fun w h => ?_ | refine h.stA 6 fun w h => ?_ | refine h.bx fun b0 w h => ?_)
  (first | refine nilP_some ?_ | refine h.tk fun w h => ?_ | refine ⟨_, h.ldA, ?_⟩ | refine ⟨_, _, _, h.ldA, ?_⟩ | refine h.stA 0 fun w h => ?_ | refine h.stA 1 fun w h => ?_ | refine h.stA 2 fun w h => ?_ | refine h.stA 3 fun w h => ?_ | refine h.stA 4 fun w h => ?_ | refine h.stA 5 fun w h => ?_ | refine h.stA 6 fun w h => ?_ | refine h.bx fun b0 w h => ?_)
  have h : Sat σ w (p'.at b :: M' ++ L) := h
  have hs2 : Stk p' (l ++ [⟨.nilIface, none, 0, 0, 0, 0⟩]) M' := by
    refine ⟨?_, by simp [p'], by simp; omega⟩
    rw [obCells_snoc]
    exact hs'
  obtain ⟨sb, sp, hq, rfl, hsp⟩ := hs2.split (by simp)
  repeat (first | refine nilP_some ?_ | refine h.tk fun w h => ?_ | refine ⟨_, h.ldA, ?_⟩ | refine ⟨_, _, _, h.ldA, ?_⟩)
  rw [show p'.stn = l.length + 1 from rfl, len_dec (by omega)]
  refine ⟨by omega, by omega, ?_⟩
  rw [hq]
  refine nilP_some ?_
  dsimp only [cellV]
  simp only [Addr.add_lit, Nat.zero_add, Int.toNat_natCast, Nat.add_zero]
  have hlen : ∀ (o : OB) (sp : List Value) f, f < 4 → l.length * 4 + f < (obCells (l ++ [o]) ++ sp).length := by
    intro o sp f hf
    rw [List.length_append, obCells_length, List.length_append, List.length_singleton]; omega
  refine Sat.st h (k := 1) rfl (by have := hlen ⟨.nilIface, none, 0, 0, 0, 0⟩ sp 0 (by decide); simpa using this) trivial rfl fun w h => ?_
  have h : Sat σ w (p'.at b :: [(sb, cel (obCells (l ++ [⟨.iface t v, none, 0, 0, 0, 0⟩]) ++ sp) ty_openBlock)] ++ L) := by
    have e := stk_set (l := l) (sp := sp) (o := ⟨.nilIface, none, 0, 0, 0, 0⟩) (o' := ⟨.iface t v, none, 0, 0, 0, 0⟩) (f := 0) (v := .iface t v) (by decide) rfl
    rw [Nat.add_zero] at e
    rw [e] at h
    exact h
  repeat (first | refine nilP_some ?_ | refine h.tk fun w h => ?_ | refine ⟨_, h.ldA, ?_⟩ | refine ⟨_, _, _, h.ldA, ?_⟩)
  refine Sat.st h (k := 1) rfl (hlen _ sp 2 (by decide)) trivial rfl fun w h => ?_
  have h : Sat σ w (p'.at b :: [(sb, cel (obCells (l ++ [⟨.iface t v, none, 0, 0, p1.lineno, 0⟩]) ++ sp) ty_openBlock)] ++ L) := by
    have e := stk_set (l := l) (sp := sp) (o := ⟨.iface t v, none, 0, 0, 0, 0⟩) (o' := ⟨.iface t v, none, 0, 0, p1.lineno, 0⟩) (f := 2) (v := .int .i64 p1.lineno) (by decide) rfl
    have h := h
    rw [e] at h
    exact h
  repeat (first | refine nilP_some ?_ | refine h.tk fun w h => ?_ | refine ⟨_, h.ldA, ?_⟩ | refine ⟨_, _, _, h.ldA, ?_⟩)
  refine Sat.st h (k := 1) rfl (hlen _ sp 3 (by decide)) trivial rfl fun w h => ?_
  have h : Sat σ w (p'.at b :: [(sb, cel (obCells (l ++ [⟨.iface t v, none, 0, 0, p1.lineno, p1.lineno⟩]) ++ sp) ty_openBlock)] ++ L) := by
    have e := stk_set (l := l) (sp := sp) (o := ⟨.iface t v, none, 0, 0, p1.lineno, 0⟩) (o' := ⟨.iface t v, none, 0, 0, p1.lineno, p1.lineno⟩) (f := 3) (v := .int .i64 p1.lineno) (by decide) rfl
    have h := h
    rw [e] at h
    exact h
  refine hR _ p' _ rfl ?_ h
  refine Stk.mk' hq ?_ (by simp [p']) (by simp; omega)
  rw [← hsp, List.length_append, List.length_append, obCells_length, obCells_length, List.length_append, List.length_append]
  rfl
end Go.Proofs.YtgbgadkldalkbaaGreatDoor


set_option linter.unusedVariables false
namespace Go.Proofs.YtgbgadkldalkbaaGreatDoor
open Go.Proofs Go.IntWalk Go.RowKit
variable {σ : Out} {w : World} {L L' : List Chunk} {R : Ending → World → Prop}
def preOB (fb s e : Nat) : OB := ⟨.iface ty_P_preBuilder (.pointer (some ⟨fb, 0, none⟩)), none, 0, 0, s, e⟩
def preLeaf (ls : List (List UInt8)) : Leaf := .other fun ob M => ∃ fb s e, ob = [preOB fb s e] ∧ PreAt fb ls M
def PreDone (ls : List (List UInt8)) (d : DB) : Prop := ∃ nb s e q c SM, Sl 1 ty_string q ls.length c (sv ls) SM ∧ d = codeDB nb s e [] [] q ls.length c SM
theorem PreDone.txs {ls : List (List UInt8)} {d : DB} (h : PreDone ls d) : d.txs = [] := by
  obtain ⟨nb, s, e, q, c, SM, _, rfl⟩ := h; rfl
def DB.shows2 (F : List UInt8 → List UInt8 → List UInt8) (d : DB) (g : List UInt8 → List UInt8) : Prop :=
  ∀ ts, Filled F d.txs ts → ∃ KM', Prints "PrintHTML" d.v (d.own ++ fills d.txs ts) KM' g
theorem DB.shows.two {F : List UInt8 → List UInt8 → List UInt8} {d : DB} {g : List UInt8 → List UInt8} (h : d.shows F g) : d.shows2 F g := fun ts ht => ⟨_, h ts ht⟩
theorem PreDone.shows {G : List UInt8 → List UInt8 → List UInt8} {ls : List (List UInt8)} {d : DB} (h : PreDone ls d) (hn : ls.length < 1048576) (hl : ∀ l ∈ ls, l.length < 4294967296) : d.shows2 G (codeF [] (noEnd ls)) := by
  obtain ⟨nb, s, e, q, c, SM, hS, rfl⟩ := h
  intro ts ht
  cases ht
  have := pre_prints (nb := nb) (s := s) (e := e) hS hn hl
  exact ⟨_, this.1, fun σ R b l M L w hB h hb hR => this.2 σ R b l M L w hB (by simpa [codeDB, fills] using h) hb fun w M' hB' h => hR w M' hB' h⟩
inductive Show2 (F : List UInt8 → List UInt8 → List UInt8) : List DB → List (List UInt8 → List UInt8) → Prop where
  | nil : Show2 F [] []
  | cons {d : DB} {g : List UInt8 → List UInt8} {D : List DB} {gs : List (List UInt8 → List UInt8)} : d.shows2 F g → Show2 F D gs → Show2 F (d :: D) (g :: gs)
theorem Show2.append {F : List UInt8 → List UInt8 → List UInt8} {D E : List DB} {gs hs : List (List UInt8 → List UInt8)} (h1 : Show2 F D gs) (h2 : Show2 F E hs) : Show2 F (D ++ E) (gs ++ hs) := by
  induction h1 with
  | nil => exact h2
  | cons h _ ih => exact .cons h ih
theorem docs_printK {F : List UInt8 → List UInt8 → List UInt8} {D : List DB} {gs : List (List UInt8 → List UInt8)} (h : Show2 F D gs) : ∀ ts, Filled F (txsC D) ts →
    ∃ KM KM', PrintsL "PrintHTML" (D.map DB.v) KM KM' (compL gs) ∧ (∀ a, cnt a (ownC D ++ fills (txsC D) ts) = cnt a KM) := by
  induction h with
  | nil => intro ts ht; cases ht; exact ⟨[], [], .nil, fun a => rfl⟩
  | @cons d g D gs h1 h2 ih =>
    intro ts ht
    have e : txsC (d :: D) = d.txs ++ txsC D := by simp [txsC]
    rw [e] at ht ⊢
    obtain ⟨ts1, ts2, rfl, h3, h4⟩ := ht.split
    obtain ⟨KM, KM', h5, h6⟩ := ih ts2 h4
    obtain ⟨K1, h7⟩ := h1 ts1 h3
    refine ⟨_, _, .cons h7 h5, fun a => ?_⟩
    have := h6 a
    rw [fills_append h3, show ownC (d :: D) = d.own ++ ownC D by simp [ownC]]
    simp only [cnt_append] at this ⊢
    omega
theorem closePre_ok {b fb s e : Nat} {p : PS} {ob : List OB} {par : OB} {M FM IM : List Chunk} {inner : List Value} {ls : List (List UInt8)} (h : Sat σ w (p.at b :: M ++ (IM ++ (FM ++ L)))) (hs : Stk p (ob ++ [par] ++ [preOB fb s e]) M)
    (hI : Sl 1 ty_Block par.q par.n par.c inner IM) (hin : par.n < 1000000) (hH : PreAt fb ls FM)
    (hR : ∀ w p' M' IM' nb q c SM q' c' x, p' = { p with stn := ob.length + 1 } → Stk p' (ob ++ [{ par with q := q', n := par.n + 1, c := c' }]) M' → Sl 1 ty_string q ls.length c (sv ls) SM →
      Sl 1 ty_Block q' (par.n + 1) c' (inner ++ [.iface ty_P_CodeBlock (.pointer (some ⟨nb, 0, none⟩))]) IM' → Sat σ w (p'.at b :: M' ++ (IM' ++ (codC nb s e [] [] q ls.length c :: (SM ++ L)))) → R (.returned x) w) :
    callE P i_parseState_closeBlock #[.pointer (some ⟨b, 0, none⟩)] R w := by
  refine closeBlock_ok (ob := ob) (par := par) (o := preOB fb s e) (IM := IM) (inner := inner) (fun p1 L1 tb q => ∃ nb q1 c SM, p1 = p ∧ Sl 1 ty_string q1 ls.length c (sv ls) SM ∧ L1 = codC nb s e [] [] q1 ls.length c :: (SM ++ L) ∧ tb = ty_P_CodeBlock ∧ q = some ⟨nb, 0, none⟩) h hs rfl hI hin ?_ ?_
  · intro R' w h hk
    have h : Sat σ w (p.at b :: M ++ (FM ++ (IM ++ L))) := h.re (by intro _; simp only [List.append_eq, cnt_append, cnt_cons, cnt_nil] <;> omega)
    refine enter_meth meth_preBuild ?_
    refine preBuild_ok h hs hH fun w nb q c SM hS h => ?_
    have h : Sat σ w (p.at b :: M ++ (codC nb s e [] [] q ls.length c :: (SM ++ (IM ++ L)))) := h
    exact hk w p _ ty_P_CodeBlock _ rfl rfl rfl (by decide) ⟨nb, q, c, SM, rfl, hS, rfl, rfl, rfl⟩ (h.re (by intro _; simp only [List.append_eq, cnt_append, cnt_cons, cnt_nil] <;> omega))
  · intro w p2 M2 IM2 p1 L1 tb q q' c' hpost hp2 hs2 hI2 h
    obtain ⟨nb, q1, c, SM, rfl, hS, rfl, rfl, rfl⟩ := hpost
    exact hR w p2 M2 IM2 nb q1 c SM q' c' _ hp2 hs2 hS hI2 h
theorem closePreS {b rb : Nat} {p : PS} {D : List DB} {ls : List (List UInt8)} (h : DocS σ b rb L D (preLeaf ls) p w) (hD : D.length < 100000)
    (hR : ∀ w p' d x, p'.base = p.base → p'.depth = p.depth → p'.lineno = p.lineno → p'.stn = 1 → PreDone ls d → DocS σ b rb L (D ++ [d]) .none p' w → R (.returned x) w) :
    callE P i_parseState_closeBlock #[.pointer (some ⟨b, 0, none⟩)] R w := by
  obtain ⟨r, obs, M, TM, IM, LM, hr, hs, htx, hI, ⟨fb, s, e, rfl, hH⟩, h⟩ := h
  have hIl := hI.1
  simp only [List.length_map, Nat.mul_one] at hIl
  have h : Sat σ w (p.at b :: M ++ (IM ++ (LM ++ (TM ++ (ownC D ++ ((txsC D).map TX.chunk ++ L)))))) := h.re (by intro _; simp only [List.append_eq, cnt_append, cnt_cons, cnt_nil] <;> omega)
  refine closePre_ok (ob := []) (par := r) h hs hI (by omega) hH fun w p2 M2 IM2 nb q c SM q' c' x hp2 hs2 hS hI2 h => ?_
  refine hR w p2 (codeDB nb s e [] [] q ls.length c SM) x (by rw [hp2]; rfl) (by rw [hp2]) (by rw [hp2]) (by rw [hp2]; rfl) ⟨nb, s, e, q, c, SM, hS, rfl⟩ ?_
  refine ⟨{ r with q := q', n := r.n + 1, c := c' }, [], M2, TM, IM2, [], hr, hs2, ?_, ?_, ⟨rfl, rfl⟩, ?_⟩
  · rw [txsC_snoc, List.map_append]
    show Txts p2 ((txsC D).map TX.t ++ []) TM
    rw [List.append_nil]
    exact htx.of (by rw [hp2]) (by rw [hp2]) (by rw [hp2])
  · rw [List.map_append]; exact hI2
  · rw [ownC_snoc, txsC_snoc, List.map_append]
    show Sat σ w (p2.at b :: M2 ++ (IM2 ++ (TM ++ ([] ++ ((ownC D ++ (codC nb s e [] [] q ls.length c :: SM)) ++ (((txsC D).map TX.chunk ++ []) ++ L))))))
    exact h.re (by intro _; simp only [List.append_eq, cnt_append, cnt_cons, cnt_nil] <;> omega)
theorem DocS.stn_pre {b rb : Nat} {p : PS} {D : List DB} {ls : List (List UInt8)} (h : DocS σ b rb L D (preLeaf ls) p w) : p.stn = 2 := by
  obtain ⟨r, obs, M, TM, IM, LM, hr, hs, htx, hI, ⟨fb, s, e, rfl, hH⟩, h⟩ := h
  exact hs.2.1
theorem trim_pre {X : OA → Int → WP} {b rb : Nat} {p : PS} {D : List DB} {ls : List (List UInt8)} {k : Int} (hk : k = 0 ∨ k = 1) (hX : ∀ x0 x1 w, g_parseState_trimStack.bl1 R X x0 x1 w → X x0 x1 w) (h : DocS σ b rb L D (preLeaf ls) p w) (hD : D.length < 100000)
    (hN : ∀ w (p' : PS) d, p'.base = p.base → p'.depth = p.depth → p'.lineno = p.lineno → PreDone ls d → DocS σ b rb L (D ++ [d]) .none p' w → X (some ⟨b, 0, none⟩) k w) : X (some ⟨b, 0, none⟩) k w := by
  have hn := h.stn_pre
  have h0 := h
  obtain ⟨r, obs, M, TM, IM, LM, hr, hs, htx, hI, hH, h⟩ := h
  refine hX _ _ _ (nilP_some ?_)
  refine ⟨_, _, _, h.ldA, ?_⟩
  rw [hn]
  refine br_true (by rcases hk with rfl | rfl <;> rfl) ?_
  refine closePreS h0 hD fun w p' d x h1 h2 h3 _ hd h => ⟨_, rfl, hN w p' d h1 h2 h3 hd h⟩
theorem addLine_pre {b fb s e : Nat} {p : PS} {r : OB} {M FM : List Chunk} {ls : List (List UInt8)} {l : Ln} (h : Sat σ w (p.at b :: M ++ (FM ++ L))) (hs : Stk p [r, preOB fb s e] M) (hH : PreAt fb ls FM) (hl : l.ok) (hls : ls.length < 1048576)
    (hgo : ∀ l', l.trimSp 4 4 true = some l' → ∀ w (p' : PS) M' FM' e', p' = { p with depth := 1, corner := p'.corner } → Stk p' [r, preOB fb s e'] M' → PreAt fb (ls ++ [l'.str]) FM' → Sat σ w (p'.at b :: M' ++ (FM' ++ L)) → R (.returned (.tuple #[])) w)
    (hend : l.trimSp 4 4 true = none → ∀ w b1 b2, Sat σ w (({ p with depth := 0 } : PS).at b :: M ++ (FM ++ (l.at b1 :: l.at b2 :: L))) → g_parseState_addLine.k2 R (some ⟨b, 0, none⟩) b1 w) :
    callE P i_parseState_addLine #[.pointer (some ⟨b, 0, none⟩), l.val] R w := by
  have hn : p.stn = 2 := hs.2.1
  have hz : Ln.zero.ok := ⟨by decide, by decide, by decide, by decide⟩
  have hzb : Ln.zero.blank = true := rfl
  refine g_parseState_addLine.sound ?_
  refine Sat.bx h fun b1 w h => ?_
  repeat (first | refine nilP_some ?_ | refine h.tk fun w h => ?_ | refine ⟨_, h.ldA, ?_⟩ | refine ⟨_, _, _, h.ldA, ?_⟩ | refine h.stA 0 fun w h => ?_ | refine h.stA 1 fun w h => ?_ | refine h.stA 2 fun w h => ?_ | refine h.stA 3 fun w h => ?_ | refine h.stA 4 fun w h => ?_ | refine h.stA 5 fun w h => ?_ | refine h.stA 6 fun w h => ?_ | refine h.bx fun b0 w h => ?_)
  let p1 : PS := { p with depth := 0 }
  have h : Sat σ _ (l.at b1 :: p1.at b :: (M ++ (FM ++ L))) := h
  intro X hX
  refine hX _ _ _ ?_
  repeat (first | refine nilP_some ?_ | refine h.tk fun w h => ?_ | refine ⟨_, h.ldA, ?_⟩ | refine ⟨_, _, _, h.ldA, ?_⟩)
  rw [show p1.stn = 2 from hn]
  refine br_true rfl ?_
  repeat (first | refine nilP_some ?_ | refine h.tk fun w h => ?_ | refine ⟨_, h.ldA, ?_⟩ | refine ⟨_, _, _, h.ldA, ?_⟩ | refine h.stA 0 fun w h => ?_ | refine h.stA 1 fun w h => ?_ | refine h.stA 2 fun w h => ?_ | refine h.stA 3 fun w h => ?_ | refine h.stA 4 fun w h => ?_ | refine h.stA 5 fun w h => ?_ | refine h.stA 6 fun w h => ?_ | refine h.bx fun b0 w h => ?_)
  have h : Sat σ _ (l.at b0 :: l.at b1 :: p1.at b :: (M ++ (FM ++ L))) := h
  obtain ⟨sb, sp, hq, hM, hsp⟩ := hs.split (by simp)
  rw [show p1.stn = 2 from hn, show p1.stq = some ⟨sb, 0, none⟩ from hq]
  rw [show IntKind.i64.wrap (p1.depth + 1) = 1 from rfl]
  refine ⟨by decide, by decide, nilP_some ?_⟩
  simp only [Addr.add_lit, Nat.zero_add]
  have hmem : (sb, cel (obCells [r, preOB fb s e] ++ sp) ty_openBlock) ∈ (l.at b0 :: l.at b1 :: p1.at b :: (M ++ (FM ++ L))) := by rw [hM]; simp
  refine ⟨_, Sat.ld h hmem (stk_get (j := 1) (f := 0) (by decide) rfl), ?_⟩
  refine ⟨_, h.ldA, ?_⟩
  refine ⟨_, h.ldA, ?_⟩
  refine ⟨_, h.ldA, ?_⟩
  refine ⟨_, h.ldA, ?_⟩
  refine ⟨_, h.ldA, ?_⟩
  refine enter_meth meth_preExtend ?_
  have h : Sat σ _ (p1.at b :: (FM ++ (l.at b0 :: l.at b1 :: (M ++ L)))) := h.re (by intro _; simp only [List.append_eq, cnt_append, cnt_cons, cnt_nil] <;> omega)
  refine preExtend_ok h hH hl hls ?_ ?_
  · intro l' hl' w p2 FM' hp2 hH' h
    refine ⟨_, _, _, _, _, _, rfl, ?_⟩
    have hn2 : p2.stn = 2 := by rw [hp2]; exact hn
    have hq2 : p2.stq = some ⟨sb, 0, none⟩ := by rw [hp2]; exact hq
    have hd2 : p2.depth = 0 := by rw [hp2]
    have hl2 : p2.lineno = p.lineno := by rw [hp2]
    have h : Sat σ w (l.at b0 :: l.at b1 :: p2.at b :: (M ++ (FM' ++ L))) := h.re (by intro _; simp only [List.append_eq, cnt_append, cnt_cons, cnt_nil] <;> omega)
    refine h.stA 1 fun w h => ?_
    refine h.stA 1 fun w h => ?_
    refine h.stA 1 fun w h => ?_
    refine h.stA 1 fun w h => ?_
    refine h.stA 1 fun w h => ?_
    have h : Sat σ w (l.at b0 :: Ln.zero.at b1 :: p2.at b :: (M ++ (FM' ++ L))) := h
    refine isBlank_ok h (.head _) hl fun w h => ⟨_, rfl, ?_⟩
    have hs1 : Stk p2 [r, preOB fb s e] M := hs.of (by rw [hp2]) (by rw [hp2]) (by rw [hp2])
    have kE : ∀ x5 x59 w, Sat σ w (l.at b0 :: Ln.zero.at b1 :: p2.at b :: (M ++ (FM' ++ L))) → (∀ w M' e', Stk p2 [r, preOB fb s e'] M' → Sat σ w (l.at b0 :: Ln.zero.at b1 :: p2.at b :: (M' ++ (FM' ++ L))) →
        br (!x5) (g_parseState_addLine.k2 R (some ⟨b, 0, none⟩) b1 w) (g_parseState_addLine.k3 R X (some ⟨b, 0, none⟩) b1 w)) → g_parseState_addLine.k1 R X (some ⟨b, 0, none⟩) b1 x5 x59 w := by
      intro x5 x59 w h hk
      cases x59 with
      | false => exact br_false rfl (hk w M e hs1 h)
      | true =>
        refine br_true rfl ?_
        repeat (first | refine nilP_some ?_ | refine h.tk fun w h => ?_ | refine ⟨_, h.ldA, ?_⟩ | refine ⟨_, _, _, h.ldA, ?_⟩)
        rw [hn2, hq2, hd2, hl2]
        rw [show IntKind.i64.wrap ((0 : Int) + 1) = 1 from rfl]
        refine ⟨by decide, by decide, nilP_some ?_⟩
        simp only [Addr.add_lit, Nat.zero_add]
        rw [hM] at h
        have h : Sat σ _ (l.at b0 :: Ln.zero.at b1 :: p2.at b :: (sb, cel (obCells ([r] ++ [preOB fb s e]) ++ sp) ty_openBlock) :: (FM' ++ L)) := h
        refine Sat.st h (k := 3) rfl (by rw [List.length_append, obCells_length]; simp; omega) trivial rfl fun w h => ?_
        have h : Sat σ w (l.at b0 :: Ln.zero.at b1 :: p2.at b :: (sb, cel (obCells ([r] ++ [preOB fb s p.lineno]) ++ sp) ty_openBlock) :: (FM' ++ L)) := by
          have e0 := stk_set (l := [r]) (sp := sp) (o := preOB fb s e) (o' := preOB fb s p.lineno) (f := 3) (v := .int .i64 p.lineno) (by decide) rfl
          have h := h
          rw [← e0]
          exact h
        refine hk w [(sb, cel (obCells [r, preOB fb s p.lineno] ++ sp) ty_openBlock)] p.lineno ?_ h
        refine Stk.mk' hq2 ?_ hn2 (by simp)
        rw [show p2.stc = p.stc by rw [hp2], ← hsp, List.length_append, List.length_append, obCells_length, obCells_length]
        rfl
    have fin : ∀ x59 w, Sat σ w (l.at b0 :: Ln.zero.at b1 :: p2.at b :: (M ++ (FM' ++ L))) → g_parseState_addLine.k1 R X (some ⟨b, 0, none⟩) b1 true x59 w := by
      intro x59 w h
      refine kE true x59 w h fun w M' e' hs' h => br_false rfl ?_
      unfold g_parseState_addLine.k3
      refine nilP_some ?_
      refine ⟨_, h.ldA, ?_⟩
      refine nilP_some ?_
      rw [hd2, show IntKind.i64.wrap ((0 : Int) + 1) = 1 from rfl]
      refine Sat.st h (k := 2) rfl (by simp [PS.cells]) trivial rfl fun w h => ?_
      let p3 : PS := { p2 with depth := 1 }
      have h : Sat σ w (l.at b0 :: Ln.zero.at b1 :: p3.at b :: (M' ++ (FM' ++ L))) := h
      refine hX _ _ _ ?_
      repeat (first | refine nilP_some ?_ | refine h.tk fun w h => ?_ | refine ⟨_, h.ldA, ?_⟩ | refine ⟨_, _, _, h.ldA, ?_⟩)
      rw [show p3.stn = 2 from hn2]
      refine br_false rfl ?_
      unfold g_parseState_addLine.k2
      refine isBlank_ok (l := Ln.zero) h (.tail _ (.head _)) hz fun w h => ⟨_, rfl, ?_⟩
      refine br_true hzb (nilP_some ?_)
      refine ⟨_, h.ldA, ?_⟩
      have h : Sat σ w (p3.at b :: (l.at b0 :: Ln.zero.at b1 :: (M' ++ (FM' ++ L)))) := h.re (by intro _; simp only [List.append_eq, cnt_append, cnt_cons, cnt_nil] <;> omega)
      refine trimStack_noop h (by rw [show p3.stn = 2 from hn2]; rfl) fun w h => ⟨rfl, ?_⟩
      refine hgo l' hl' w p3 M' FM' e' (by show ({ p2 with depth := 1 } : PS) = _; rw [hp2]) (hs'.of rfl rfl rfl) hH' ?_
      exact h.less [l.at b0, Ln.zero.at b1] (by intro _; simp only [List.append_eq, cnt_append, cnt_cons, cnt_nil] <;> omega)
    exact br_split (fun _ => br_true rfl (fin _ _ h)) (fun _ => fin _ _ h)
  · intro ht w h
    refine ⟨_, _, _, _, _, _, rfl, ?_⟩
    have h : Sat σ w (l.at b0 :: l.at b1 :: p1.at b :: (M ++ (FM ++ L))) := h.re (by intro _; simp only [List.append_eq, cnt_append, cnt_cons, cnt_nil] <;> omega)
    refine h.stA 1 fun w h => ?_
    refine h.stA 1 fun w h => ?_
    refine h.stA 1 fun w h => ?_
    refine h.stA 1 fun w h => ?_
    refine h.stA 1 fun w h => ?_
    have h : Sat σ w (l.at b0 :: l.at b1 :: p1.at b :: (M ++ (FM ++ L))) := h
    refine isBlank_ok h (.head _) hl fun w h => ⟨_, rfl, ?_⟩
    have fin : g_parseState_addLine.k1 R X (some ⟨b, 0, none⟩) b1 false false w := by
      refine br_false rfl (br_true rfl ?_)
      have h : Sat σ w (p1.at b :: M ++ (FM ++ (l.at b1 :: l.at b0 :: L))) := h.re (by intro _; simp only [List.append_eq, cnt_append, cnt_cons, cnt_nil] <;> omega)
      exact hend ht w b1 b0 h
    refine br_split (fun _ => br_false rfl ?_) (fun _ => fin)
    refine ⟨_, h.ldA, ?_⟩
    refine ⟨_, h.ldA, ?_⟩
    refine ⟨_, h.ldA, ?_⟩
    refine ⟨_, h.ldA, ?_⟩
    refine ⟨_, h.ldA, ?_⟩
    refine ⟨_, h.ldA, ?_⟩
    refine ⟨_, h.ldA, ?_⟩
    refine ⟨_, h.ldA, ?_⟩
    refine ⟨_, h.ldA, ?_⟩
    refine ⟨_, h.ldA, ?_⟩
    exact ⟨_, _, neq_line l _ _ w, fin⟩
theorem addLine_pre1 {b rb : Nat} {p : PS} {D : List DB} {ls : List (List UInt8)} {l l' : Ln} (h : DocS σ b rb L D (preLeaf ls) p w) (hl : l.ok) (hls : ls.length < 1048576) (ht : l.trimSp 4 4 true = some l')
    (hR : ∀ w p', p'.base = p.base → p'.lineno = p.lineno → DocS σ b rb L D (preLeaf (ls ++ [l'.str])) p' w → R (.returned (.tuple #[])) w) :
    callE P i_parseState_addLine #[.pointer (some ⟨b, 0, none⟩), l.val] R w := by
  obtain ⟨r, obs, M, TM, IM, LM, hr, hs, htx, hI, ⟨fb, s, e, rfl, hH⟩, h⟩ := h
  have h : Sat σ w (p.at b :: M ++ (LM ++ (IM ++ (TM ++ (ownC D ++ ((txsC D).map TX.chunk ++ L)))))) := h.re (by intro _; simp only [List.append_eq, cnt_append, cnt_cons, cnt_nil] <;> omega)
  refine addLine_pre h hs hH hl hls (fun l2 h2 w p' M' FM' e' hp' hs' hH' h => ?_) (fun hx => by rw [ht] at hx; cases hx)
  obtain rfl : l' = l2 := Option.some.inj (ht.symm.trans h2)
  refine hR w p' (by rw [hp']; rfl) (by rw [hp']) ⟨r, _, M', TM, IM, FM', hr, hs', htx.of (by rw [hp']) (by rw [hp']) (by rw [hp']), hI, ⟨fb, s, e', rfl, hH'⟩, ?_⟩
  exact h.re (by intro _; simp only [List.append_eq, cnt_append, cnt_cons, cnt_nil] <;> omega)
end Go.Proofs.YtgbgadkldalkbaaGreatDoor


set_option linter.unusedVariables false
namespace Go.Proofs.YtgbgadkldalkbaaGreatDoor
open Go.Proofs Go.IntWalk Go.RowKit
variable {σ : Out} {w : World} {L L' : List Chunk} {R : Ending → World → Prop}
def noNL (l : List UInt8) : Prop := 10 ∉ l ∧ 13 ∉ l
inductive LinesOf : List UInt8 → List (List UInt8 × UInt8) → Prop where
  | nil : LinesOf [] []
  | last {l : List UInt8} : l ≠ [] → noNL l → LinesOf l [(l, 0)]
  | cons {l t : List UInt8} {ls : List (List UInt8 × UInt8)} : noNL l → LinesOf t ls → LinesOf (l ++ 10 :: t) ((l, 10) :: ls)
theorem LinesOf.no13 {t : List UInt8} {ls : List (List UInt8 × UInt8)} (h : LinesOf t ls) : 13 ∉ t := by
  induction h with
  | nil => simp
  | last h1 h2 => exact h2.2
  | cons h1 h2 ih =>
    simp only [List.mem_append, List.mem_cons, not_or]
    exact ⟨h1.2, by decide, ih⟩
theorem LinesOf.len {t : List UInt8} {ls : List (List UInt8 × UInt8)} (h : LinesOf t ls) : ls.length ≤ t.length := by
  induction h with
  | nil => simp
  | last h1 h2 => have := List.length_pos_iff.2 h1; simp; omega
  | cons h1 h2 ih => simp; omega
theorem findSub_first {A B : List UInt8} {c : UInt8} (hc : c ∉ A) : ∀ (k i : Nat), i + k = A.length → ∀ f, k < f → findSub [c] (A ++ c :: B) f i = some A.length
  | 0, i, hi, f + 1, _ => by
    obtain rfl : i = A.length := by omega
    simp only [findSub, List.length_singleton]
    rw [if_pos (by simp), List.drop_left, if_pos (by simp)]
  | k + 1, i, hi, f + 1, hf => by
    simp only [findSub, List.length_singleton]
    rw [if_pos (by simp; omega), if_neg]
    · exact findSub_first hc k (i + 1) (by omega) f (by omega)
    · intro he
      have hil : i < A.length := by omega
      rw [List.drop_append_of_le_length (by omega), List.drop_eq_getElem_cons hil, List.cons_append, List.take_succ_cons, List.take_zero] at he
      have he2 : A[i] = c := (List.cons.inj he).1
      exact hc (he2 ▸ List.getElem_mem hil)
theorem idx_first {A B : List UInt8} {c : UInt8} (hc : c ∉ A) : idx (A ++ c :: B) [c] = some A.length := by
  unfold idx
  exact findSub_first hc A.length 0 (by omega) _ (by simp; omega)
def StepOKL (L0 : List Chunk) (op : Opt) (l : List UInt8) (nl : UInt8) (D : List DB) (lf : Leaf) (J : List DB → Leaf → Prop) : Prop :=
  ∀ (σ : Out) (R : Ending → World → Prop) (L : List Chunk) (b rb pb : Nat) (p : PS) (w : World), (∀ c ∈ L0, c ∈ L) → op.at pb ∈ L → p.pz = some ⟨pb, 0, none⟩ → p.lineno < 1000000000 → DocS σ b rb L D lf p w →
    (∀ w (p' : PS) D' lf', p'.base = p.base → p'.lineno = p.lineno → J D' lf' → DocS σ b rb L D' lf' p' w → R (.returned (.tuple #[])) w) → callE P i_parseState_addLine #[.pointer (some ⟨b, 0, none⟩), (lnOf l nl).val] R w
theorem lines_okL {L0 : List Chunk} {op : Opt} {I : List (List UInt8 × UInt8) → List DB → Leaf → Prop} (step : ∀ l nl rem D lf, I ((l, nl) :: rem) D lf → StepOKL L0 op l nl D lf (I rem)) (hL0 : ∀ c ∈ L0, c ∈ L) {X : OA → BA → Nat → WP} {b rb pb : Nat} {p0 : PS}
    (hX : ∀ x0 x1 x6 w, g_Parser_parse.bl1 R X x0 x1 x6 w → X x0 x1 x6 w) (hop : op.at pb ∈ L) (hpz : p0.pz = some ⟨pb, 0, none⟩)
    (hE : ∀ w (p : PS) D lf, p.base = p0.base → I [] D lf → DocS σ b rb L D lf p w → g_Parser_parse.bl1 R X (some ⟨pb, 0, none⟩) (bs []) b w) {text : List UInt8} {ls : List (List UInt8 × UInt8)} (hL : LinesOf text ls) :
    ∀ w (p : PS) D lf, text.length < 1000000 → p.lineno + ls.length < 1000000000 → p.base = p0.base → I ls D lf → DocS σ b rb L D lf p w → X (some ⟨pb, 0, none⟩) (bs text) b w := by
  have k3 : ∀ (l : List UInt8) (nl : UInt8) (t : List UInt8) (rem : List (List UInt8 × UInt8)) w (p : PS) D lf, (∀ w (p : PS) D lf, p.lineno + rem.length < 1000000000 → p.base = p0.base → I rem D lf → DocS σ b rb L D lf p w → X (some ⟨pb, 0, none⟩) (bs t) b w) →
      p.lineno + rem.length + 1 < 1000000000 → p.base = p0.base → I ((l, nl) :: rem) D lf → DocS σ b rb L D lf p w → g_Parser_parse.k3 R X (some ⟨pb, 0, none⟩) (bs t) b (bs l) (nl.toNat : Int) w := by
    intro l nl t rem w p D lf next hno hb hI h
    obtain ⟨r, obs, M, TM, IM, LM, hr, hs, ht, hIs, hL, h⟩ := h
    unfold g_Parser_parse.k3
    refine ⟨_, Sat.ld h (.head _) (i := 3) rfl, ?_⟩
    rw [i64_inc (by omega)]
    refine h.stA 0 fun w h => ?_
    let p1 : PS := { p with lineno := p.lineno + 1 }
    have h : Sat σ w (p1.at b :: M ++ (IM ++ (TM ++ (LM ++ (ownC D ++ ((txsC D).map TX.chunk ++ L)))))) := h
    have hb1 : p1.base = p0.base := hb
    have hpz1 : p1.pz = some ⟨pb, 0, none⟩ := by
      have := congrArg PS.pz hb1
      rw [show p1.pz = p0.pz from this]; exact hpz
    refine step l nl rem D lf hI σ _ L b rb pb p1 w hL0 hop hpz1 (by show p.lineno + 1 < _; omega) ⟨r, obs, M, TM, IM, LM, hr, hs.of rfl rfl rfl, ht.of rfl rfl rfl, hIs, hL, h⟩ fun w p2 D' lf' h1 h2 h3 h4 => ⟨rfl, ?_⟩
    exact next w p2 D' lf' (by rw [h2]; show p.lineno + 1 + _ < _; omega) (h1.trans hb1) h3 h4
  induction hL with
  | nil =>
    intro w p D lf hlen hno hb hI h
    exact hX _ _ _ _ (hE w p D lf hb hI h)
  | @last l hne hnl =>
    intro w p D lf hlen hno hb hI h
    have e10 : idxInt l [10] = -1 := by unfold idxInt; rw [idx_none hnl.1]
    have e13 : idxInt l [13] = -1 := by unfold idxInt; rw [idx_none hnl.2]
    refine hX _ _ _ _ (br_true (by rw [bs_toList]; simpa using hne) ?_)
    refine zzIndex_ok (sub := [10]) (by omega) (by decide) ⟨_, rfl, ?_⟩
    refine zzIndex_ok (sub := [13]) (by omega) (by decide) ⟨_, rfl, ?_⟩
    rw [e10, e13]
    refine br_false rfl (br_false rfl ?_)
    refine k3 l 0 [] [] w p D lf ?_ (by simp at hno ⊢; omega) hb hI h
    intro w p D lf hno hb hI h
    exact hX _ _ _ _ (hE w p D lf hb hI h)
  | @cons l t ls hnl hLt ih =>
    intro w p D lf hlen hno hb hI h
    have hl13 : 13 ∉ l ++ 10 :: t := (LinesOf.cons hnl hLt).no13
    have e10 : idxInt (l ++ 10 :: t) [10] = (l.length : Nat) := by unfold idxInt; rw [idx_first hnl.1]
    have e13 : idxInt (l ++ 10 :: t) [13] = -1 := by unfold idxInt; rw [idx_none hl13]
    have hlen' : (l ++ 10 :: t).length = l.length + t.length + 1 := by simp; omega
    refine hX _ _ _ _ (br_true (by rw [bs_toList]; simp [mk_toList]) ?_)
    refine zzIndex_ok (sub := [10]) (by omega) (by decide) ⟨_, rfl, ?_⟩
    refine zzIndex_ok (sub := [13]) (by omega) (by decide) ⟨_, rfl, ?_⟩
    rw [e10, e13]
    refine br_false rfl ?_
    refine br_true (by simp) ?_
    obtain ⟨r, obs, M, TM, IM, LM, hr, hs, ht, hIs, hL, h⟩ := h
    refine Sat.tk h fun w h => ?_
    rw [i64_inc (by omega), bs_size, Int.toNat_natCast, Int.toNat_natCast, bs_ext, bs_extract, List.drop_zero, List.take_left]
    refine ⟨by omega, by rw [hlen']; omega, by omega, by rw [hlen']; omega, ?_⟩
    have ed : (l ++ 10 :: t).drop (l.length + 1) = t := by rw [List.drop_append]; simp
    rw [ed]
    refine k3 l 10 t ls w p D lf ?_ (by simp at hno ⊢; omega) hb hI ⟨r, obs, M, TM, IM, LM, hr, hs, ht, hIs, hL, h⟩
    intro w p D lf hno hb hI h
    exact ih w p D lf (by rw [hlen'] at hlen; omega) hno hb hI h
end Go.Proofs.YtgbgadkldalkbaaGreatDoor


set_option linter.unusedVariables false
namespace Go.Proofs.YtgbgadkldalkbaaGreatDoor
open Go.Proofs Go.IntWalk Go.RowKit
variable {σ : Out} {w : World} {L L' : List Chunk} {R : Ending → World → Prop}
def Bk.isRoot (f : Bk) : Prop := ∃ rb, f.ob.bd = rootV rb ∧ f.own = [(rb, cel [] ty_rootBuilder)]
def CloseAll (op : Opt) (fs : List Bk) (lf : Leaf) (Q : List DB → Prop) : Prop :=
  ∀ (σ : Out) (R : Ending → World → Prop) (L : List Chunk) (b pb : Nat) (p : PS) (w : World) (X : OA → Int → WP), (∀ x0 x1 w, g_parseState_trimStack.bl1 R X x0 x1 w → X x0 x1 w) → op.at pb ∈ L → p.pz = some ⟨pb, 0, none⟩ → DocC σ b L fs lf p w →
    (∀ w (p' : PS) root, p'.base = p.base → root.isRoot → Q root.D → DocC σ b L [root] .none p' w → X (some ⟨b, 0, none⟩) 0 w) → X (some ⟨b, 0, none⟩) 0 w
theorem CloseAll.root {op : Opt} {root : Bk} {Q : List DB → Prop} (hr : root.isRoot) (hQ : Q root.D) : CloseAll op [root] .none Q :=
  fun σ R L b pb p w X hX hop hpz h hN => hN w p root rfl hr hQ h
end Go.Proofs.YtgbgadkldalkbaaGreatDoor


set_option linter.unusedVariables false
namespace Go.Proofs.YtgbgadkldalkbaaGreatDoor
open Go.Proofs Go.IntWalk Go.RowKit
variable {σ : Out} {w : World} {L L' : List Chunk} {R : Ending → World → Prop}
theorem newSetext_ne {b d : Nat} {p : PS} {ob : List OB} {o o1 : OB} {M : List Chunk} {t t1 : TypeId} {v v1 : Value} {l : Ln} (h : Sat σ w (p.at b :: M ++ L)) (hs : Stk p (ob ++ [o]) M) (hd : p.depth = d) (hdb : d < 1000000)
    (ho1 : (ob ++ [o])[d + 1]? = some o1) (hb1 : o1.bd = .iface t1 v1) (ht1 : t1 ≠ ty_P_paraBuilder) (hb : o.bd = .iface t v) (hv : t = ty_P_paraBuilder → ∃ q, v = .pointer q) (hl : l.ok)
    (hR : ∀ w, Sat σ w (p.at b :: M ++ L) → R (.returned (.tuple #[l.val, .bool false])) w) : callE P i_newSetextHeading #[.pointer (some ⟨b, 0, none⟩), l.val] R w := by
  refine g_newSetextHeading.sound ?_
  refine Sat.bx h fun b1 w h => ?_
  refine Sat.bx h fun b3 w h => ?_
  refine Sat.bx h fun b5 w h => ?_
  repeat (first | refine nilP_some ?_ | refine h.tk fun w h => ?_ | refine ⟨_, h.ldA, ?_⟩ | refine ⟨_, _, _, h.ldA, ?_⟩ | refine h.stA 0 fun w h => ?_ | refine h.stA 1 fun w h => ?_ | refine h.stA 2 fun w h => ?_ | refine h.stA 3 fun w h => ?_ | refine h.stA 4 fun w h => ?_ | refine h.stA 5 fun w h => ?_ | refine h.stA 6 fun w h => ?_ | refine h.bx fun b0 w h => ?_)
  have h : Sat σ _ (l.at b0 :: (b5, cel [.int .i64 0] ty_int) :: zLn b3 :: l.at b1 :: (p.at b :: M ++ L)) := h
  have h : Sat σ _ (p.at b :: M ++ (l.at b0 :: (b5, cel [.int .i64 0] ty_int) :: zLn b3 :: l.at b1 :: L)) := h.re (by intro _; simp only [List.append_eq, cnt_append, cnt_cons, cnt_nil] <;> omega)
  refine nextB_ok h hs hd (by omega) fun w h => ?_
  rw [ho1]
  refine ⟨_, rfl, ?_⟩
  have fin : ∀ (q : Option Addr) w, Sat σ w (p.at b :: M ++ (l.at b0 :: (b5, cel [.int .i64 0] ty_int) :: zLn b3 :: l.at b1 :: L)) → ∃ (r21 : Option Addr), Ending.returned (.pointer q) = .returned (.pointer r21) ∧
      ∃ (r23 : Bool), ∃ w24, (do eqGuard .eql ty_blockBuilder (.tmp 12) (.tmp 15) o1.bd (.iface ty_P_paraBuilder (.pointer r21)); binOp .eql ty_blockBuilder o1.bd (.iface ty_P_paraBuilder (.pointer r21))).run P w = .ok (.bool r23) w24 ∧
      br r23 (callE P i_line_trimSetext #[.pointer (some ⟨b0, 0, none⟩), .pointer (some ⟨b5, 0, none⟩)] (fun e w26 => ∃ (r25 : Bool), e = .returned (.bool r25) ∧ g_newSetextHeading.k1 R (some ⟨b, 0, none⟩) b1 b3 b5 r25 w26) w24) (g_newSetextHeading.k1 R (some ⟨b, 0, none⟩) b1 b3 b5 false w24) := by
    intro q w h
    refine ⟨q, rfl, false, w, by rw [hb1]; exact eq_iface_ne und_bb ht1 _ _ w, br_false rfl ?_⟩
    have h : Sat σ _ (zLn b3 :: l.at b1 :: (b5, cel [.int .i64 0] ty_int) :: l.at b0 :: (p.at b :: M ++ L)) := h.re (by intro _; simp only [List.append_eq, cnt_append, cnt_cons, cnt_nil] <;> omega)
    refine br_false rfl ?_
    repeat (first | refine nilP_some ?_ | refine h.tk fun w h => ?_ | refine ⟨_, h.ldA, ?_⟩ | refine ⟨_, _, _, h.ldA, ?_⟩ | refine h.stA 0 fun w h => ?_ | refine h.stA 1 fun w h => ?_ | refine h.stA 2 fun w h => ?_ | refine h.stA 3 fun w h => ?_ | refine h.stA 4 fun w h => ?_ | refine h.stA 5 fun w h => ?_ | refine h.stA 6 fun w h => ?_ | refine h.bx fun b0 w h => ?_)
    have h : Sat σ _ (l.at b3 :: l.at b1 :: (b5, cel [.int .i64 0] ty_int) :: l.at b0 :: (p.at b :: M ++ L)) := h
    exact hR _ h.tail.tail.tail.tail
  refine top_ok h hs hb (fun w h => ?_) hv
  by_cases ht : t = ty_P_paraBuilder
  · rw [if_pos ht]
    obtain ⟨q, rfl⟩ := hv ht
    exact fin q w h
  · rw [if_neg ht]
    exact fin none w h
end Go.Proofs.YtgbgadkldalkbaaGreatDoor


set_option linter.unusedVariables false
namespace Go.Proofs.YtgbgadkldalkbaaGreatDoor
open Go.Proofs Go.IntWalk Go.RowKit
variable {σ : Out} {w : World} {L L' : List Chunk} {R : Ending → World → Prop}
structure Ln.soft (l : Ln) : Prop where
  ok : l.ok
  blank : l.blank = false
  quote : l.quote = none
  heading : l.heading = none
  hr : l.isHR = false
  bullet : isBullet (l.strip 3 0).2.peek = false
  lt : (l.lead 3 false).peek ≠ 60
  dash : (l.lead 3 false).peek ≠ 45
  eq : (l.lead 3 false).peek ≠ 61
  fence : (l.strip 3 0).2.peek ≠ 96 ∧ (l.strip 3 0).2.peek ≠ 126
theorem Ln.soft.plain {l : Ln} (h : l.soft) (hp : l.trimSp 4 4 false = none) : l.plain :=
  ⟨h.ok, h.blank, h.quote, h.heading, h.hr, LDecl.of_peek h.ok h.bullet, HDecl.of_peek h.ok h.lt, h.fence, hp⟩
theorem trimPre1 {b rb : Nat} {p : PS} {D : List DB} {ls : List (List UInt8)} (h : DocS σ b rb L D (preLeaf ls) p w) (hD : D.length < 100000)
    (hR : ∀ w (p' : PS) d, p'.base = p.base → p'.depth = p.depth → p'.lineno = p.lineno → PreDone ls d → DocS σ b rb L (D ++ [d]) .none p' w → R (.returned (.tuple #[])) w) :
    callE P i_parseState_trimStack #[.pointer (some ⟨b, 0, none⟩), .int .i64 1] R w := by
  have hn := h.stn_pre
  have h0 := h
  obtain ⟨r, obs, M, TM, IM, LM, hr, hs, htx, hI, hH, h⟩ := h
  refine g_parseState_trimStack.sound ?_
  refine nilP_some ?_
  refine ⟨_, _, _, h.ldA, ?_⟩
  rw [hn]
  refine br_false rfl ?_
  intro X hX
  refine trim_pre (.inr rfl) hX h0 hD fun w p' d h1 h2 h3 hd h => ?_
  have h0 := h
  obtain ⟨r, obs, M, TM, IM, LM, hr, hs, htx, hI, ⟨rfl, rfl⟩, h⟩ := h
  have hn : p'.stn = 1 := hs.2.1
  refine hX _ _ _ (nilP_some ?_)
  refine ⟨_, _, _, h.ldA, ?_⟩
  rw [hn]
  exact br_false rfl (hR w p' d h1 h2 h3 hd h0)
theorem newPara_pre {b rb pb : Nat} {op : Opt} {p : PS} {D : List DB} {ls : List (List UInt8)} {l : Ln} (h : DocS σ b rb L D (preLeaf ls) p w) (hd : p.depth = 0) (hpz : p.pz = some ⟨pb, 0, none⟩) (hop : op.at pb ∈ L) (hl : l.ok) (hD : D.length < 100000) (hno : p.lineno < 1000000000)
    (hR : ∀ w (p' : PS) d, p'.base = p.base → p'.lineno = p.lineno → PreDone ls d → DocS σ b rb L (D ++ [d]) (.para [l.rest]) p' w → R (.returned (.tuple #[Ln.zero.val, .bool true])) w) :
    callE P i_newPara #[.pointer (some ⟨b, 0, none⟩), l.val] R w := by
  obtain ⟨r, obs, M, TM, IM, LM, hr, hs, htx, hI, ⟨fb, s, e, rfl, hH⟩, h⟩ := h
  refine g_newPara.sound ?_
  refine Sat.bx h fun b1 w h => ?_
  refine Sat.bx h fun b3 w h => ?_
  have h : Sat σ _ (zLn b3 :: l.at b1 :: (p.at b :: M ++ (IM ++ (TM ++ (LM ++ (ownC D ++ ((txsC D).map TX.chunk ++ L))))))) := h
  have h : Sat σ _ (p.at b :: M ++ (zLn b3 :: l.at b1 :: (IM ++ (TM ++ (LM ++ (ownC D ++ ((txsC D).map TX.chunk ++ L))))))) := h.re (by intro _; simp only [List.append_eq, cnt_append, cnt_cons, cnt_nil] <;> omega)
  refine top_ok (l := [r]) h hs (o := preOB fb s e) rfl (fun w h => ?_) (fun hc => absurd hc (by decide))
  rw [if_neg (by decide)]
  refine ⟨_, rfl, ?_⟩
  repeat (first | refine nilP_some ?_ | refine h.tk fun w h => ?_ | refine ⟨_, h.ldA, ?_⟩ | refine ⟨_, _, _, h.ldA, ?_⟩)
  have h : Sat σ _ (l.at b1 :: (p.at b :: M ++ (zLn b3 :: (IM ++ (TM ++ (LM ++ (ownC D ++ ((txsC D).map TX.chunk ++ L)))))))) := h.re (by intro _; simp only [List.append_eq, cnt_append, cnt_cons, cnt_nil] <;> omega)
  refine trimSpaceString_ok h (by first | assumption | (repeat (first | exact .head _ | apply List.Mem.tail))) hl fun w h => ⟨_, rfl, ?_⟩
  refine ⟨_, w, ne_ptr_nil und_para _ _ _ w, br_false rfl (br_false rfl ?_)⟩
  have h : Sat σ _ (p.at b :: (l.at b1 :: (M ++ (zLn b3 :: (IM ++ (TM ++ (LM ++ (ownC D ++ ((txsC D).map TX.chunk ++ L))))))))) := h.re (by intro _; simp only [List.append_eq, cnt_append, cnt_cons, cnt_nil] <;> omega)
  refine Sat.tk h fun w h => ?_
  refine nilP_some ?_
  refine ⟨_, Sat.ld h (.head _) rfl, ?_⟩
  rw [hpz]
  refine nilP_some ?_
  have hm : op.at pb ∈ (p.at b :: (l.at b1 :: (M ++ (zLn b3 :: (IM ++ (TM ++ (LM ++ (ownC D ++ ((txsC D).map TX.chunk ++ L))))))))) := by simp [hop]
  refine ⟨op.table, Sat.ld h hm rfl, ?_⟩
  have fin : g_newPara.k4 R (some ⟨b, 0, none⟩) b3 none (bs ((l.text.drop l.i).dropWhile isST)) false w := by
    refine br_false rfl ⟨_, w, ne_ptr_nil und_para _ _ _ w, br_false rfl ?_⟩
    refine Sat.bx h fun qb w h => ?_
    have h : Sat σ _ ((qb, cel [.slice none 0 0, .pointer none] ty_paraBuilder) :: p.at b :: (l.at b1 :: (M ++ (zLn b3 :: (IM ++ (TM ++ (LM ++ (ownC D ++ ((txsC D).map TX.chunk ++ L))))))))) := h
    have h : Sat σ _ (p.at b :: (M ++ (IM ++ (TM ++ (LM ++ (ownC D ++ ((txsC D).map TX.chunk ++ (zLn b3 :: l.at b1 :: (qb, cel [.slice none 0 0, .pointer none] ty_paraBuilder) :: L)))))))) := h.re (by intro _; simp only [List.append_eq, cnt_append, cnt_cons, cnt_nil] <;> omega)
    refine addBlock_gen h (by rw [hd]; decide) fun w h => ?_
    rw [hd, show ((0 : Int) + 1) = 1 from rfl]
    have hds : DocS σ b rb (zLn b3 :: l.at b1 :: (qb, cel [.slice none 0 0, .pointer none] ty_paraBuilder) :: L) D (preLeaf ls) p w := ⟨r, _, M, TM, IM, LM, hr, hs, htx, hI, ⟨fb, s, e, rfl, hH⟩, h⟩
    refine trimPre1 hds hD fun w p1 d h1 h2 h3 hdn hds => ⟨rfl, ?_⟩
    obtain ⟨r, obs, M, TM, IM, LM, hr, hs, htx, hI, ⟨rfl, rfl⟩, h⟩ := hds
    refine ⟨p1, [r], M, _, hs, by simp, h, fun w p' M' hp' hs' h => ⟨rfl, ?_⟩⟩
    have h : Sat σ w (zLn b3 :: [(qb, cel [.slice none 0 0, .pointer none] ty_paraBuilder)] ++ (p'.at b :: M' ++ (IM ++ (TM ++ (ownC (D ++ [d]) ++ ((txsC (D ++ [d])).map TX.chunk ++ (l.at b1 :: L))))))) := h.re (by intro _; simp only [List.append_eq, cnt_append, cnt_cons, cnt_nil] <;> omega)
    refine para_append h (ts := []) ⟨none, 0, [], Sl.nil 1 ty_string, rfl⟩ (by decide) fun w PM hPM h => ?_
    refine hR w p' d (by rw [← h1, hp']; rfl) (by rw [← h3, hp']) hdn ⟨r, [paraOB qb p1.lineno p1.lineno], M', TM, IM, PM, hr, hs', htx.of (by rw [hp']) (by rw [hp']) (by rw [hp']), hI, ⟨qb, _, _, rfl, hPM, by rw [h3]; exact hno, by simp, by simp⟩, ?_⟩
    exact h.less [l.at b1] (by intro _; simp only [List.append_eq, cnt_append, cnt_cons, cnt_nil] <;> omega)
  exact br_split (fun _ => ⟨_, ne_ptr_nil und_para _ _ _, br_false rfl fin⟩) (fun _ => fin)
theorem decl_soft {b fb s e rb : Nat} {p : PS} {r : OB} {M : List Chunk} {l : Ln} (hs : Stk p [r, preOB fb s e] M) (hr : r.bd = rootV rb) (hd : p.depth = 0) (hl : l.soft) (hp : l.trimSp 4 4 false = none) : ∀ f ∈ newsF, Decl b p M l f := by
  intro f hf
  simp only [newsF, List.mem_cons, List.not_mem_nil, or_false] at hf
  intro σ w L R h hR
  rcases hf with rfl | rfl | rfl | rfl | rfl | rfl | rfl | rfl
  · exact newQuote_no (x := .nilIface) h hl.ok hl.quote hR
  · exact newATX_no h hl.ok hl.heading hR
  · exact newSetext_ne (d := 0) (ob := [r]) (o := preOB fb s e) (o1 := preOB fb s e) h hs hd (by decide) rfl rfl (by decide) rfl (fun hc => absurd hc (by decide)) hl.ok hR
  · exact newHR_no h hl.ok hl.hr hR
  · exact newListItem_no (d := 0) h hs hd rfl hr (by decide) hl.ok hl.bullet hR
  · exact newHTML_no h hl.ok hl.lt hR
  · exact newFence_no h hl.ok hl.fence hR
  · exact newPre_no (ob := [r]) h hs (o := preOB fb s e) rfl (fun hc => absurd hc (by decide)) hl.ok hp hR
theorem newSetext_paraS {b : Nat} {p : PS} {r : OB} {qb s e : Nat} {M : List Chunk} {l : Ln} (h : Sat σ w (p.at b :: M ++ L)) (hs : Stk p [r, paraOB qb s e] M) (hd : p.depth = 0) (hl : l.soft)
    (hR : ∀ w, Sat σ w (p.at b :: M ++ L) → R (.returned (.tuple #[l.val, .bool false])) w) : callE P i_newSetextHeading #[.pointer (some ⟨b, 0, none⟩), l.val] R w := by
  refine g_newSetextHeading.sound ?_
  refine Sat.bx h fun b1 w h => ?_
  refine Sat.bx h fun b3 w h => ?_
  refine Sat.bx h fun b5 w h => ?_
  repeat (first | refine nilP_some ?_ | refine h.tk fun w h => ?_ | refine ⟨_, h.ldA, ?_⟩ | refine ⟨_, _, _, h.ldA, ?_⟩ | refine h.stA 0 fun w h => ?_ | refine h.stA 1 fun w h => ?_ | refine h.stA 2 fun w h => ?_ | refine h.stA 3 fun w h => ?_ | refine h.stA 4 fun w h => ?_ | refine h.stA 5 fun w h => ?_ | refine h.stA 6 fun w h => ?_ | refine h.bx fun b0 w h => ?_)
  have h : Sat σ _ (l.at b0 :: (b5, cel [.int .i64 0] ty_int) :: zLn b3 :: l.at b1 :: (p.at b :: M ++ L)) := h
  have h : Sat σ _ (p.at b :: M ++ (l.at b0 :: (b5, cel [.int .i64 0] ty_int) :: zLn b3 :: l.at b1 :: L)) := h.re (by intro _; simp only [List.append_eq, cnt_append, cnt_cons, cnt_nil] <;> omega)
  refine nextB_ok (d := 0) h hs hd (by omega) fun w h => ?_
  refine ⟨_, rfl, ?_⟩
  refine top_ok (l := [r]) h hs (o := paraOB qb s e) rfl (fun w h => ?_) (fun _ => ⟨_, rfl⟩)
  rw [if_pos rfl]
  refine ⟨_, rfl, _, w, eq_para_same qb _ _ w, br_true rfl ?_⟩
  have h : Sat σ _ (l.at b0 :: (b5, cel [.int .i64 0] ty_int) :: (zLn b3 :: l.at b1 :: (p.at b :: M ++ L))) := h.re (by intro _; simp only [List.append_eq, cnt_append, cnt_cons, cnt_nil] <;> omega)
  refine trimSetext_no h hl.ok hl.dash hl.eq fun w h => ⟨_, rfl, br_false rfl ?_⟩
  have h : Sat σ _ (zLn b3 :: l.at b1 :: (b5, cel [.int .i64 0] ty_int) :: l.at b0 :: (p.at b :: M ++ L)) := h.re (by intro _; simp only [List.append_eq, cnt_append, cnt_cons, cnt_nil] <;> omega)
  repeat (first | refine nilP_some ?_ | refine h.tk fun w h => ?_ | refine ⟨_, h.ldA, ?_⟩ | refine ⟨_, _, _, h.ldA, ?_⟩ | refine h.stA 0 fun w h => ?_ | refine h.stA 1 fun w h => ?_ | refine h.stA 2 fun w h => ?_ | refine h.stA 3 fun w h => ?_ | refine h.stA 4 fun w h => ?_ | refine h.stA 5 fun w h => ?_ | refine h.stA 6 fun w h => ?_ | refine h.bx fun b0 w h => ?_)
  have h : Sat σ _ (l.at b3 :: l.at b1 :: (b5, cel [.int .i64 0] ty_int) :: l.at b0 :: (p.at b :: M ++ L)) := h
  exact hR _ h.tail.tail.tail.tail
theorem decl_softP {b : Nat} {p : PS} {r : OB} {rb qb s e : Nat} {M : List Chunk} {l : Ln} (hs : Stk p [r, paraOB qb s e] M) (hr : r.bd = rootV rb) (hd : p.depth = 0) (hl : l.soft) : ∀ f ∈ newsF, Decl b p M l f := by
  intro f hf
  simp only [newsF, List.mem_cons, List.not_mem_nil, or_false] at hf
  intro σ w L R h hR
  rcases hf with rfl | rfl | rfl | rfl | rfl | rfl | rfl | rfl
  · exact newQuote_no (x := .nilIface) h hl.ok hl.quote hR
  · exact newATX_no h hl.ok hl.heading hR
  · exact newSetext_paraS h hs hd hl hR
  · exact newHR_no h hl.ok hl.hr hR
  · exact newListItem_no (d := 0) h hs hd rfl hr (by decide) hl.ok hl.bullet hR
  · exact newHTML_no h hl.ok hl.lt hR
  · exact newFence_no h hl.ok hl.fence hR
  · exact newPre_para (ob := [r]) h hs hl.ok hR
theorem addLine_contS {b rb pb : Nat} {op : Opt} {p : PS} {D : List DB} {ls : List (List UInt8)} {l : Ln} (h : DocS σ b rb L D (.para ls) p w) (hpz : p.pz = some ⟨pb, 0, none⟩) (hop : op.at pb ∈ L) (hno : op.table = false) (hl : l.soft) (hls : ls.length < 1048569)
    (hR : ∀ w p', p'.base = p.base → p'.lineno = p.lineno → DocS σ b rb L D (.para (ls ++ [l.rest])) p' w → R (.returned (.tuple #[])) w) :
    callE P i_parseState_addLine #[.pointer (some ⟨b, 0, none⟩), l.val] R w := by
  refine addLine_open h hl.ok fun w b1 b2 p1 hp1 h => ?_
  unfold g_parseState_addLine.k2
  obtain ⟨r, obs, M, TM, IM, LM, hr, hs, ht, hI, ⟨qb, s, e, rfl, hp, hs1, hne, hln⟩, h⟩ := h
  refine isBlank_ok h (by simp) hl.ok fun w h => ⟨_, rfl, ?_⟩
  rw [hl.blank]
  refine br_false rfl ?_
  have hd1 : p1.depth = 0 := by rw [hp1]
  have hpz1 : p1.pz = some ⟨pb, 0, none⟩ := by rw [hp1]; exact hpz
  have h : Sat σ w (p1.at b :: M ++ (l.at b1 :: (IM ++ (TM ++ (LM ++ (ownC D ++ ((txsC D).map TX.chunk ++ (l.at b2 :: L)))))))) := h.re (by intro _; simp only [List.append_eq, cnt_append, cnt_cons, cnt_nil] <;> omega)
  refine bl102_decl h (decl_softP hs hr hd1 hl) fun w nb et R' h hR' => ?_
  have h : Sat σ w (p1.at b :: M ++ (LM ++ (l.at b1 :: (nb, cel newsC et) :: (IM ++ (TM ++ (ownC D ++ ((txsC D).map TX.chunk ++ (l.at b2 :: L)))))))) := h.re (by intro _; simp only [List.append_eq, cnt_append, cnt_cons, cnt_nil] <;> omega)
  have hm : op.at pb ∈ l.at b1 :: (nb, cel newsC et) :: (IM ++ (TM ++ (ownC D ++ ((txsC D).map TX.chunk ++ (l.at b2 :: L))))) := by simp [hop]
  refine newPara_cont h hs hd1 hpz1 hm hno hp hln hl.ok fun w r' e' M' PM' a1 a2 a3 a4 hs' hp' h => hR' w true ?_
  have e1 : p1.base = p.base := by rw [hp1]; rfl
  have e2 : p1.lineno = p.lineno := by rw [hp1]
  refine hR w p1 e1 e2 ⟨r', _, M', TM, IM, PM', by rw [a1]; exact hr, hs', ht, by rw [a2, a3, a4]; exact hI, ⟨qb, s, e', rfl, hp', hs1, by simp, by simp; omega⟩, ?_⟩
  exact h.less [l.at b1, (nb, cel newsC et), l.at b2] (by intro _; simp only [List.append_eq, cnt_append, cnt_cons, cnt_nil] <;> omega)
theorem addLine_pre2 {b rb pb : Nat} {op : Opt} {p : PS} {D : List DB} {ls : List (List UInt8)} {l : Ln} (h : DocS σ b rb L D (preLeaf ls) p w) (hpz : p.pz = some ⟨pb, 0, none⟩) (hop : op.at pb ∈ L) (hl : l.soft) (ht : l.trimSp 4 4 true = none) (hp : l.trimSp 4 4 false = none) (hls : ls.length < 1048576) (hD : D.length < 100000) (hno : p.lineno < 1000000000)
    (hR : ∀ w p' d, p'.base = p.base → p'.lineno = p.lineno → PreDone ls d → DocS σ b rb L (D ++ [d]) (.para [l.rest]) p' w → R (.returned (.tuple #[])) w) :
    callE P i_parseState_addLine #[.pointer (some ⟨b, 0, none⟩), l.val] R w := by
  obtain ⟨r, obs, M, TM, IM, LM, hr, hs, htx, hI, ⟨fb, s, e, rfl, hH⟩, h⟩ := h
  have h : Sat σ w (p.at b :: M ++ (LM ++ (IM ++ (TM ++ (ownC D ++ ((txsC D).map TX.chunk ++ L)))))) := h.re (by intro _; simp only [List.append_eq, cnt_append, cnt_cons, cnt_nil] <;> omega)
  refine addLine_pre h hs hH hl.ok hls (fun l2 h2 => by rw [ht] at h2; cases h2) fun _ w b1 b2 h => ?_
  have h : Sat σ w (({ p with depth := 0 } : PS).at b :: M ++ (l.at b1 :: (LM ++ (l.at b2 :: (IM ++ (TM ++ (ownC D ++ ((txsC D).map TX.chunk ++ L)))))))) := h.re (by intro _; simp only [List.append_eq, cnt_append, cnt_cons, cnt_nil] <;> omega)
  generalize hp1 : ({ p with depth := 0 } : PS) = p1 at h
  have hs1 : Stk p1 [r, preOB fb s e] M := hs.of (by rw [← hp1]) (by rw [← hp1]) (by rw [← hp1])
  unfold g_parseState_addLine.k2
  refine isBlank_ok h (by simp) hl.ok fun w h => ⟨_, rfl, ?_⟩
  rw [hl.blank]
  refine br_false rfl ?_
  refine bl102_decl h (decl_soft hs1 hr (by rw [← hp1]) hl hp) fun w nb et R' h hR' => ?_
  have hds : DocS σ b rb (l.at b1 :: (nb, cel newsC et) :: l.at b2 :: L) D (preLeaf ls) p1 w := ⟨r, _, M, TM, IM, LM, hr, hs1, htx.of (by rw [← hp1]) (by rw [← hp1]) (by rw [← hp1]), hI, ⟨fb, s, e, rfl, hH⟩, h.re (by intro _; simp only [List.append_eq, cnt_append, cnt_cons, cnt_nil] <;> omega)⟩
  refine newPara_pre (op := op) hds (by rw [← hp1]) (by rw [← hp1]; exact hpz) (by simp [hop]) hl.ok hD (by rw [← hp1]; exact hno) fun w p' d h1 h2 hd h => hR' w true ?_
  obtain ⟨r, obs, M, TM, IM, LM, hr, hs, htx, hI, hL, h⟩ := h
  refine hR w p' d (by rw [h1, ← hp1]; rfl) (by rw [h2, ← hp1]) hd ⟨r, obs, M, TM, IM, LM, hr, hs, htx, hI, hL, ?_⟩
  exact h.less [l.at b1, (nb, cel newsC et), l.at b2] (by intro _; simp only [List.append_eq, cnt_append, cnt_cons, cnt_nil] <;> omega)
theorem addLine_pre0 {b rb : Nat} {p : PS} {D : List DB} {l l' : Ln} (h : DocS σ b rb L D .none p w) (hl : l.soft) (hp : l.trimSp 4 4 false = some l') (hbl : l'.blank = false)
    (hR : ∀ w p', p'.base = p.base → p'.lineno = p.lineno → DocS σ b rb L D (preLeaf [l'.str]) p' w → R (.returned (.tuple #[])) w) :
    callE P i_parseState_addLine #[.pointer (some ⟨b, 0, none⟩), l.val] R w := by
  obtain ⟨r, obs, M, TM, IM, LM, hr, hs, ht, hI, ⟨rfl, rfl⟩, h⟩ := h
  refine g_parseState_addLine.sound ?_
  refine Sat.bx h fun b1 w h => ?_
  repeat (first | refine nilP_some ?_ | refine h.tk fun w h => ?_ | refine ⟨_, h.ldA, ?_⟩ | refine ⟨_, _, _, h.ldA, ?_⟩ | refine h.stA 0 fun w h => ?_ | refine h.stA 1 fun w h => ?_ | refine h.stA 2 fun w h => ?_ | refine h.stA 3 fun w h => ?_ | refine h.stA 4 fun w h => ?_ | refine h.stA 5 fun w h => ?_ | refine h.stA 6 fun w h => ?_ | refine h.bx fun b0 w h => ?_)
  let p1 : PS := { p with depth := 0 }
  have hs1 : Stk p1 ([] ++ [r]) M := hs
  have h : Sat σ _ (l.at b1 :: p1.at b :: (M ++ (IM ++ (TM ++ ([] ++ (ownC D ++ ((txsC D).map TX.chunk ++ L))))))) := h
  intro X hX
  refine hX _ _ _ ?_
  repeat (first | refine nilP_some ?_ | refine h.tk fun w h => ?_ | refine ⟨_, h.ldA, ?_⟩ | refine ⟨_, _, _, h.ldA, ?_⟩)
  have hn : p1.stn = 1 := hs.2.1
  rw [hn]
  refine br_false rfl ?_
  refine isBlank_ok h (by first | assumption | (repeat (first | exact .head _ | apply List.Mem.tail))) hl.ok fun w h => ⟨_, rfl, ?_⟩
  rw [hl.blank]
  refine br_false rfl ?_
  have h : Sat σ w (p1.at b :: M ++ (l.at b1 :: (IM ++ (TM ++ ([] ++ (ownC D ++ ((txsC D).map TX.chunk ++ L))))))) := h.re (by intro _; simp only [List.append_eq, cnt_append, cnt_cons, cnt_nil] <;> omega)
  refine bl102_take 7 (by decide) h ?_ fun w nb e R' h hk => ?_
  · intro j hj h5 σ w L R h hR
    match j, h5 with
    | 0, _ => exact newQuote_no (x := .nilIface) h hl.ok hl.quote hR
    | 1, _ => exact newATX_no h hl.ok hl.heading hR
    | 2, _ => exact newSetext_no h hs1 rfl rfl hr (by decide) hl.ok hR
    | 3, _ => exact newHR_no h hl.ok hl.hr hR
    | 4, _ => exact LDecl.of_peek hl.ok hl.bullet b 0 p1 [r] r M _ _ hs1 rfl rfl hr (by decide) σ w L R h hR
    | 5, _ => exact HDecl.of_peek hl.ok hl.lt b p1 [] r M _ _ hs1 hr (by decide) σ w L R h hR
    | 6, _ => exact newFence_no h hl.ok hl.fence hR
  · refine newPre_yes h hs1 (by rfl) (by simp) hr (by decide) hl.ok hp hbl fun w p' M' fb FM hp' hH hs' h => ?_
    have h : Sat σ w (l.at b1 :: (p'.at b :: M' ++ (FM ++ ((nb, cel newsC e) :: (IM ++ (TM ++ ([] ++ (ownC D ++ ((txsC D).map TX.chunk ++ L))))))))) := h.re (by intro _; simp only [List.append_eq, cnt_append, cnt_cons, cnt_nil] <;> omega)
    refine hk w _ h fun w h => ?_
    refine hR w p' (by rw [hp']; rfl) (by rw [hp']) ⟨r, [preOB fb p1.lineno p1.lineno], M', TM, IM, FM, hr, hs', ht.of (by rw [hp']) (by rw [hp']) (by rw [hp']), hI, ⟨fb, _, _, rfl, hH⟩, ?_⟩
    exact h.less [(nb, cel newsC e)] (by intro _; simp only [List.append_eq, cnt_append, cnt_cons, cnt_nil] <;> omega)
end Go.Proofs.YtgbgadkldalkbaaGreatDoor


set_option linter.unusedVariables false
set_option maxRecDepth 20000
namespace Go.Proofs.YtgbgadkldalkbaaGreatDoor
open Go.Proofs
namespace g_parseBreak
noncomputable def body : Code := bodyOf Tryz.f99
def k3 (R : EP) (x10 : Int) (x11 : Int) (x66 : Bool) (w : World) : Prop :=
 br x66
 (box w #[] ty_HardBreak fun b1 w2 =>
 R (.returned (.tuple #[.iface ty_P_HardBreak (.pointer (some ⟨b1, 0, none⟩)), .int .i64 x10, .int .i64 x11, .bool true])) w2)
 (box w #[] ty_SoftBreak fun b3 w4 =>
 R (.returned (.tuple #[.iface ty_P_SoftBreak (.pointer (some ⟨b3, 0, none⟩)), .int .i64 x10, .int .i64 x11, .bool true])) w4)

def k2 (R : EP) (x1 : BA) (x2 : Int) (x10 : Int) (x11 : Int) (w : World) : Prop :=
 ((decide (x2 ≥ 2)) = true → 0 ≤ (IntKind.i64.wrap (x2 - 1)) ∧ (IntKind.i64.wrap (x2 - 1)) < (x1.size : Int)) ∧
 (((decide (x2 ≥ 2)) && ((bt x1 (IntKind.i64.wrap (x2 - 1))) == 32)) = true → 0 ≤ (IntKind.i64.wrap (x2 - 2)) ∧ (IntKind.i64.wrap (x2 - 2)) < (x1.size : Int)) ∧
 k3 R x10 x11 (((decide (x2 ≥ 2)) && ((bt x1 (IntKind.i64.wrap (x2 - 1))) == 32)) && ((bt x1 (IntKind.i64.wrap (x2 - 2))) == 32)) w

def bl2 (R : EP) (Xa : BA → Int → Int → Int → WP) (x1 : BA) (x2 : Int) (x10 : Int) (x11 : Int) (w : World) : Prop :=
 ((decide (x11 < (x1.size : Int))) = true → 0 ≤ x11 ∧ x11 < (x1.size : Int)) ∧
 (((decide (x11 < (x1.size : Int))) && (!((bt x1 x11) == 32))) = true → 0 ≤ x11 ∧ x11 < (x1.size : Int)) ∧
 br ((decide (x11 < (x1.size : Int))) && (((bt x1 x11) == 32) || ((bt x1 x11) == 9)))
 (Xa x1 x2 x10 (IntKind.i64.wrap (x11 + 1)) w)
 (k2 R x1 x2 x10 x11 w)
def l2 (R : EP) (x1 : BA) (x2 : Int) (x10 : Int) (x11 : Int) (w : World) : Prop :=
  ∀ X : BA → Int → Int → Int → WP, (∀ x1 x2 x10 x11 w, bl2 R X x1 x2 x10 x11 w → X x1 x2 x10 x11 w) → X x1 x2 x10 x11 w

noncomputable def al2 (R : EP) (Xa : BA → Int → Int → Int → WP) : AC :=
  (.leaf (sel [1, 1, 1, 1, 0, 0, 0] body))
def k1 (R : EP) (x1 : BA) (x2 : Int) (x10 : Int) (w : World) : Prop :=
 l2 R x1 x2 x10 (IntKind.i64.wrap (x2 + 1)) w

def bl1 (R : EP) (Xb : BA → Int → Int → WP) (x1 : BA) (x2 : Int) (x10 : Int) (w : World) : Prop :=
 ((decide (x10 > 0)) = true → 0 ≤ (IntKind.i64.wrap (x10 - 1)) ∧ (IntKind.i64.wrap (x10 - 1)) < (x1.size : Int)) ∧
 (((decide (x10 > 0)) && (!((bt x1 (IntKind.i64.wrap (x10 - 1))) == 32))) = true → 0 ≤ (IntKind.i64.wrap (x10 - 1)) ∧ (IntKind.i64.wrap (x10 - 1)) < (x1.size : Int)) ∧
 br ((decide (x10 > 0)) && (((bt x1 (IntKind.i64.wrap (x10 - 1))) == 32) || ((bt x1 (IntKind.i64.wrap (x10 - 1))) == 9)))
 (Xb x1 x2 (IntKind.i64.wrap (x10 - 1)) w)
 (k1 R x1 x2 x10 w)
def l1 (R : EP) (x1 : BA) (x2 : Int) (x10 : Int) (w : World) : Prop :=
  ∀ X : BA → Int → Int → WP, (∀ x1 x2 x10 w, bl1 R X x1 x2 x10 w → X x1 x2 x10 w) → X x1 x2 x10 w

noncomputable def al1 (R : EP) (Xb : BA → Int → Int → WP) : AC :=
  (.leaf (sel [1, 1, 0, 0, 0] body))
end g_parseBreak
def g_parseBreak (R : EP) (x0 : OA) (x1 : BA) (x2 : Int) (w : World) : Prop :=
 g_parseBreak.l1 R x1 x2 x2 w

noncomputable def g_parseBreak.ac (R : EP) : AC :=
  (.seq (.leaf (sel [0] g_parseBreak.body)) (.seq (.leaf (sel [1, 0] g_parseBreak.body)) (.seq (.block 0 (.loop (leaf [(1, .s .str), (2, .s (.int .i64)), (10, .s (.int .i64))] (g_parseBreak.l1 R)) (sel [1, 1, 0, 0, 0] g_parseBreak.body))) (.mark (leaf [(1, .s .str), (2, .s (.int .i64)), (10, .s (.int .i64))] (g_parseBreak.k1 R)) (.seq (.leaf (sel [1, 1, 1, 0] g_parseBreak.body)) (.seq (.block 2 (.loop (leaf [(1, .s .str), (2, .s (.int .i64)), (10, .s (.int .i64)), (11, .s (.int .i64))] (g_parseBreak.l2 R)) (sel [1, 1, 1, 1, 0, 0, 0] g_parseBreak.body))) (.mark (leaf [(1, .s .str), (2, .s (.int .i64)), (10, .s (.int .i64)), (11, .s (.int .i64))] (g_parseBreak.k2 R)) (.seq (.seq (.leaf (sel [1, 1, 1, 1, 1, 0, 0] g_parseBreak.body)) (.mark (leaf [(10, .s (.int .i64)), (11, .s (.int .i64)), (66, .s .bool)] (g_parseBreak.k3 R)) (.leaf (sel [1, 1, 1, 1, 1, 0, 1] g_parseBreak.body)))) (.leaf (sel [1, 1, 1, 1, 1, 1] g_parseBreak.body))))))))))
theorem g_parseBreak.good (R : EP) : Good P 77 (g_parseBreak.ac R) (QF P [.tmp 6, .tmp 7, .tmp 8, .tmp 9] R) :=
  ⟨trivial, ⟨trivial, ⟨(loopG (g_parseBreak.al1 R) (g_parseBreak.bl1 R) (fun _ => by kernel_rfl) (fun Xb => trivial) (fun Xb => by intro x1 x2 x10 ρ w; kernel_rfl) (fun X h _ _ _ _ g => g X h)), ⟨⟨trivial, ⟨(loopG (g_parseBreak.al2 R) (g_parseBreak.bl2 R) (fun _ => by kernel_rfl) (fun Xa => trivial) (fun Xa => by intro x1 x2 x10 x11 ρ w; kernel_rfl) (fun X h _ _ _ _ _ g => g X h)), ⟨⟨⟨trivial, ⟨trivial, cutE (by intro x10 x11 x66 ρ w; kernel_rfl)⟩⟩, trivial⟩, cutE (by intro x1 x2 x10 x11 ρ w; kernel_rfl)⟩⟩⟩, cutE (by intro x1 x2 x10 ρ w; kernel_rfl)⟩⟩⟩⟩
theorem g_parseBreak.eq (R : EP) (x0 : OA) (x1 : BA) (x2 : Int) (w : World) : g_parseBreak R x0 x1 x2 w = vcA P 77 (g_parseBreak.ac R) (QF P [.tmp 6, .tmp 7, .tmp 8, .tmp 9] R) (fr0 [.pointer x0, .string x1, .int .i64 x2]) w := by kernel_rfl
theorem g_parseBreak.sound {R : EP} {x0 : OA} {x1 : ByteArray} {x2 : Int} {w : World} (h : g_parseBreak R x0 x1 x2 w) : callE P i_parseBreak #[.pointer x0, .string x1, .int .i64 x2] R w :=
  callE_fin (c := g_parseBreak.body) Tryz.func99 Tryz.call99 (by kernel_rfl) (by kernel_rfl) (by kernel_rfl) (by kernel_rfl) (by kernel_rfl) (g_parseBreak.good R) (g_parseBreak.eq R x0 x1 x2 w) h
namespace g_parseEscape
noncomputable def body : Code := bodyOf Tryz.f90
def k2 (R : EP) (w : World) : Prop :=
 R (.returned (.tuple #[.nilIface, .int .i64 0, .int .i64 0, .bool false])) w

def k4 (R : EP) (x2 : Int) (x11 : Int) (w : World) : Prop :=
 box w #[] ty_HardBreak fun b7 w8 =>
 R (.returned (.tuple #[.iface ty_P_HardBreak (.pointer (some ⟨b7, 0, none⟩)), .int .i64 x2, .int .i64 x11, .bool true])) w8

def bl1 (R : EP) (Xa : BA → Int → Int → WP) (x1 : BA) (x2 : Int) (x11 : Int) (w : World) : Prop :=
 ((decide (x11 < (x1.size : Int))) = true → 0 ≤ x11 ∧ x11 < (x1.size : Int)) ∧
 (((decide (x11 < (x1.size : Int))) && (!((bt x1 x11) == 32))) = true → 0 ≤ x11 ∧ x11 < (x1.size : Int)) ∧
 br ((decide (x11 < (x1.size : Int))) && (((bt x1 x11) == 32) || ((bt x1 x11) == 9)))
 (Xa x1 x2 (IntKind.i64.wrap (x11 + 1)) w)
 (k4 R x2 x11 w)
def l1 (R : EP) (x1 : BA) (x2 : Int) (x11 : Int) (w : World) : Prop :=
  ∀ X : BA → Int → Int → WP, (∀ x1 x2 x11 w, bl1 R X x1 x2 x11 w → X x1 x2 x11 w) → X x1 x2 x11 w

noncomputable def al1 (R : EP) (Xa : BA → Int → Int → WP) : AC :=
  (.leaf (sel [1, 0, 1, 0, 1, 1, 1, 0, 1, 1, 0, 0, 0] body))
def k3 (R : EP) (x1 : BA) (x2 : Int) (w : World) : Prop :=
 l1 R x1 x2 (IntKind.i64.wrap (x2 + 2)) w

def k1 (R : EP) (x0 : OA) (x1 : BA) (x2 : Int) (x46 : Bool) (w : World) : Prop :=
 br x46
 (nilP x0 fun a5 =>
 stV w ((a5.add 6).add 0) (.bool true) fun w6 =>
 k3 R x1 x2 w6)
 (k3 R x1 x2 w)

end g_parseEscape
def g_parseEscape (R : EP) (x0 : OA) (x1 : BA) (x2 : Int) (w : World) : Prop :=
 br (decide ((IntKind.i64.wrap (x2 + 1)) < (x1.size : Int)))
 (0 ≤ (IntKind.i64.wrap (x2 + 1)) ∧ (IntKind.i64.wrap (x2 + 1)) < (x1.size : Int) ∧
 callE P i_isPunct #[.int .u8 (bt x1 (IntKind.i64.wrap (x2 + 1)))] (fun e w2 => ∃ (r1 : Bool), e = .returned (.bool r1) ∧
 br r1
 (0 ≤ (IntKind.i64.wrap (x2 + 1)) ∧ (IntKind.i64.wrap (x2 + 1)) ≤ (IntKind.i64.wrap (x2 + 2)) ∧ (IntKind.i64.wrap (x2 + 2)) ≤ (x1.size : Int) ∧
 box w2 #[.string (x1.extract (Int.toNat (IntKind.i64.wrap (x2 + 1))) (Int.toNat (IntKind.i64.wrap (x2 + 2))))] ty_Escaped fun b3 w4 =>
 R (.returned (.tuple #[.iface ty_P_Escaped (.pointer (some ⟨b3, 0, none⟩)), .int .i64 x2, .int .i64 (IntKind.i64.wrap (x2 + 2)), .bool true])) w4)
 (br ((bt x1 (IntKind.i64.wrap (x2 + 1))) == 10)
 (((decide (x2 > 0)) = true → 0 ≤ (IntKind.i64.wrap (x2 - 1)) ∧ (IntKind.i64.wrap (x2 - 1)) < (x1.size : Int)) ∧
 g_parseEscape.k1 R x0 x1 x2 ((decide (x2 > 0)) && ((bt x1 (IntKind.i64.wrap (x2 - 1))) == 92)) w2)
 (g_parseEscape.k2 R w2))) w)
 (g_parseEscape.k2 R w)

noncomputable def g_parseEscape.ac (R : EP) : AC :=
  (.seq (.leaf (sel [0] g_parseEscape.body)) (.seq (.seq (.leaf (sel [1, 0, 0] g_parseEscape.body)) (.cond 16 (.seq (.leaf (sel [1, 0, 1, 0, 0] g_parseEscape.body)) (.seq (.leaf (sel [1, 0, 1, 0, 1, 0] g_parseEscape.body)) (.seq (.leaf (sel [1, 0, 1, 0, 1, 1, 0] g_parseEscape.body)) (.cond 37 (.seq (.seq (.leaf (sel [1, 0, 1, 0, 1, 1, 1, 0, 0, 0] g_parseEscape.body)) (.mark (leaf [(0, .s .ptr), (1, .s .str), (2, .s (.int .i64)), (46, .s .bool)] (g_parseEscape.k1 R)) (.leaf (sel [1, 0, 1, 0, 1, 1, 1, 0, 0, 1] g_parseEscape.body)))) (.mark (leaf [(1, .s .str), (2, .s (.int .i64))] (g_parseEscape.k3 R)) (.seq (.leaf (sel [1, 0, 1, 0, 1, 1, 1, 0, 1, 0] g_parseEscape.body)) (.seq (.block 0 (.loop (leaf [(1, .s .str), (2, .s (.int .i64)), (11, .s (.int .i64))] (g_parseEscape.l1 R)) (sel [1, 0, 1, 0, 1, 1, 1, 0, 1, 1, 0, 0, 0] g_parseEscape.body))) (.mark (leaf [(2, .s (.int .i64)), (11, .s (.int .i64))] (g_parseEscape.k4 R)) (.leaf (sel [1, 0, 1, 0, 1, 1, 1, 0, 1, 1, 1] g_parseEscape.body))))))) (.leaf (sel [1, 0, 1, 0, 1, 1, 1, 1] g_parseEscape.body)))))) (.leaf (sel [1, 0, 1, 1] g_parseEscape.body)))) (.mark (leaf [] (g_parseEscape.k2 R)) (.leaf (sel [1, 1] g_parseEscape.body)))))
theorem g_parseEscape.good (R : EP) : Good P 75 (g_parseEscape.ac R) (QF P [.tmp 6, .tmp 7, .tmp 8, .tmp 9] R) :=
  ⟨trivial, ⟨⟨trivial, ⟨⟨trivial, ⟨trivial, ⟨trivial, ⟨⟨⟨trivial, ⟨trivial, cutE (by intro x0 x1 x2 x46 ρ w; kernel_rfl)⟩⟩, ⟨⟨trivial, ⟨(loopG (g_parseEscape.al1 R) (g_parseEscape.bl1 R) (fun _ => by kernel_rfl) (fun Xa => trivial) (fun Xa => by intro x1 x2 x11 ρ w; kernel_rfl) (fun X h _ _ _ _ g => g X h)), ⟨trivial, cutE (by intro x2 x11 ρ w; kernel_rfl)⟩⟩⟩, cutE (by intro x1 x2 ρ w; kernel_rfl)⟩⟩, trivial⟩⟩⟩⟩, trivial⟩⟩, ⟨trivial, cutE (by intro ρ w; kernel_rfl)⟩⟩⟩
theorem g_parseEscape.eq (R : EP) (x0 : OA) (x1 : BA) (x2 : Int) (w : World) : g_parseEscape R x0 x1 x2 w = vcA P 75 (g_parseEscape.ac R) (QF P [.tmp 6, .tmp 7, .tmp 8, .tmp 9] R) (fr0 [.pointer x0, .string x1, .int .i64 x2]) w := by kernel_rfl
theorem g_parseEscape.sound {R : EP} {x0 : OA} {x1 : ByteArray} {x2 : Int} {w : World} (h : g_parseEscape R x0 x1 x2 w) : callE P i_parseEscape #[.pointer x0, .string x1, .int .i64 x2] R w :=
  callE_fin (c := g_parseEscape.body) Tryz.func90 Tryz.call90 (by kernel_rfl) (by kernel_rfl) (by kernel_rfl) (by kernel_rfl) (by kernel_rfl) (g_parseEscape.good R) (g_parseEscape.eq R x0 x1 x2 w) h
end Go.Proofs.YtgbgadkldalkbaaGreatDoor

set_option linter.unusedVariables false
namespace Go.Proofs.YtgbgadkldalkbaaGreatDoor
open Go.Proofs Go.IntWalk Go.RowKit
variable {σ : Out} {w : World} {L L' : List Chunk} {R : Ending → World → Prop}
theorem sub_self (s : List UInt8) (i : Nat) : sub s i i = [] := List.drop_eq_nil_of_le (by rw [List.length_take]; omega)
end Go.Proofs.YtgbgadkldalkbaaGreatDoor


set_option linter.unusedVariables false
set_option maxRecDepth 20000
namespace Go.Proofs.YtgbgadkldalkbaaGreatDoor
open Go.Proofs
namespace g_Emph_PrintHTML
noncomputable def body : Code := bodyOf Tryz.f362
def bl1 (R : EP) (Xa : OA → OA → Nat → Nat → Int → Int → WP) (x1 : OA) (x11q : OA) (x11n : Nat) (x11c : Nat) (x12 : Int) (x13 : Int) (w : World) : Prop :=
 br (decide (x13 < x12))
 (0 ≤ x13 ∧ x13 < (x11n : Int) ∧
 nilP x11q fun a5 =>
 ∃ (v6 : Value), w.cell? (a5.add (Int.toNat x13 * 1)) = some v6 ∧
 enterE P (callMethod v6 "PrintHTML" #[.pointer x1]) (fun e w8 => e = .returned (.tuple #[]) ∧
 Xa x1 x11q x11n x11c x12 (IntKind.i64.wrap (x13 + 1)) w8) w)
 (callE P i_bytes_Buffer_WriteString #[.pointer x1, .string (ByteArray.mk #[60, 47, 101, 109, 62])] (fun e w10 => ∃ (r9_0 : Int), ∃ (r9_1 : Value), e = .returned (.tuple #[.int .i64 r9_0, r9_1]) ∧
 R (.returned (.tuple #[])) w10) w)
def l1 (R : EP) (x1 : OA) (x11q : OA) (x11n : Nat) (x11c : Nat) (x12 : Int) (x13 : Int) (w : World) : Prop :=
  ∀ X : OA → OA → Nat → Nat → Int → Int → WP, (∀ x1 x11q x11n x11c x12 x13 w, bl1 R X x1 x11q x11n x11c x12 x13 w → X x1 x11q x11n x11c x12 x13 w) → X x1 x11q x11n x11c x12 x13 w

noncomputable def al1 (R : EP) (Xa : OA → OA → Nat → Nat → Int → Int → WP) : AC :=
  (.leaf (sel [1, 0, 1, 0, 0] body))
end g_Emph_PrintHTML
def g_Emph_PrintHTML (R : EP) (x0 : OA) (x1 : OA) (w : World) : Prop :=
 callE P i_bytes_Buffer_WriteString #[.pointer x1, .string (ByteArray.mk #[60, 101, 109, 62])] (fun e w2 => ∃ (r1_0 : Int), ∃ (r1_1 : Value), e = .returned (.tuple #[.int .i64 r1_0, r1_1]) ∧
 nilP x0 fun a3 =>
 ∃ (v4q : OA), ∃ (v4n : Nat), ∃ (v4c : Nat), w2.cell? (a3.add 1) = some (.slice v4q v4n v4c) ∧
 g_Emph_PrintHTML.l1 R x1 v4q v4n v4c (v4n : Int) 0 w2) w

noncomputable def g_Emph_PrintHTML.ac (R : EP) : AC :=
  (.seq (.leaf (sel [0] g_Emph_PrintHTML.body)) (.seq (.seq (.leaf (sel [1, 0, 0] g_Emph_PrintHTML.body)) (.block 0 (.loop (leaf [(1, .s .ptr), (11, .s .slice), (12, .s (.int .i64)), (13, .s (.int .i64))] (g_Emph_PrintHTML.l1 R)) (sel [1, 0, 1, 0, 0] g_Emph_PrintHTML.body)))) (.leaf (sel [1, 1] g_Emph_PrintHTML.body))))
theorem g_Emph_PrintHTML.good (R : EP) : Good P 23 (g_Emph_PrintHTML.ac R) (QF P [] R) :=
  ⟨trivial, ⟨⟨trivial, (loopG (g_Emph_PrintHTML.al1 R) (g_Emph_PrintHTML.bl1 R) (fun _ => by kernel_rfl) (fun Xa => trivial) (fun Xa => by intro x1 x11q x11n x11c x12 x13 ρ w; kernel_rfl) (fun X h _ _ _ _ _ _ _ g => g X h))⟩, trivial⟩⟩
theorem g_Emph_PrintHTML.eq (R : EP) (x0 : OA) (x1 : OA) (w : World) : g_Emph_PrintHTML R x0 x1 w = vcA P 23 (g_Emph_PrintHTML.ac R) (QF P [] R) (fr0 [.pointer x0, .pointer x1]) w := by kernel_rfl
theorem g_Emph_PrintHTML.sound {R : EP} {x0 : OA} {x1 : OA} {w : World} (h : g_Emph_PrintHTML R x0 x1 w) : callE P i_Emph_PrintHTML #[.pointer x0, .pointer x1] R w :=
  callE_fin (c := g_Emph_PrintHTML.body) Tryz.func362 Tryz.call362 (by kernel_rfl) (by kernel_rfl) (by kernel_rfl) (by kernel_rfl) (by kernel_rfl) (g_Emph_PrintHTML.good R) (g_Emph_PrintHTML.eq R x0 x1 w) h
namespace g_Strong_PrintHTML
noncomputable def body : Code := bodyOf Tryz.f366
def bl1 (R : EP) (Xa : OA → OA → Nat → Nat → Int → Int → WP) (x1 : OA) (x11q : OA) (x11n : Nat) (x11c : Nat) (x12 : Int) (x13 : Int) (w : World) : Prop :=
 br (decide (x13 < x12))
 (0 ≤ x13 ∧ x13 < (x11n : Int) ∧
 nilP x11q fun a5 =>
 ∃ (v6 : Value), w.cell? (a5.add (Int.toNat x13 * 1)) = some v6 ∧
 enterE P (callMethod v6 "PrintHTML" #[.pointer x1]) (fun e w8 => e = .returned (.tuple #[]) ∧
 Xa x1 x11q x11n x11c x12 (IntKind.i64.wrap (x13 + 1)) w8) w)
 (callE P i_bytes_Buffer_WriteString #[.pointer x1, .string (ByteArray.mk #[60, 47, 115, 116, 114, 111, 110, 103, 62])] (fun e w10 => ∃ (r9_0 : Int), ∃ (r9_1 : Value), e = .returned (.tuple #[.int .i64 r9_0, r9_1]) ∧
 R (.returned (.tuple #[])) w10) w)
def l1 (R : EP) (x1 : OA) (x11q : OA) (x11n : Nat) (x11c : Nat) (x12 : Int) (x13 : Int) (w : World) : Prop :=
  ∀ X : OA → OA → Nat → Nat → Int → Int → WP, (∀ x1 x11q x11n x11c x12 x13 w, bl1 R X x1 x11q x11n x11c x12 x13 w → X x1 x11q x11n x11c x12 x13 w) → X x1 x11q x11n x11c x12 x13 w

noncomputable def al1 (R : EP) (Xa : OA → OA → Nat → Nat → Int → Int → WP) : AC :=
  (.leaf (sel [1, 0, 1, 0, 0] body))
end g_Strong_PrintHTML
def g_Strong_PrintHTML (R : EP) (x0 : OA) (x1 : OA) (w : World) : Prop :=
 callE P i_bytes_Buffer_WriteString #[.pointer x1, .string (ByteArray.mk #[60, 115, 116, 114, 111, 110, 103, 62])] (fun e w2 => ∃ (r1_0 : Int), ∃ (r1_1 : Value), e = .returned (.tuple #[.int .i64 r1_0, r1_1]) ∧
 nilP x0 fun a3 =>
 ∃ (v4q : OA), ∃ (v4n : Nat), ∃ (v4c : Nat), w2.cell? (a3.add 1) = some (.slice v4q v4n v4c) ∧
 g_Strong_PrintHTML.l1 R x1 v4q v4n v4c (v4n : Int) 0 w2) w

noncomputable def g_Strong_PrintHTML.ac (R : EP) : AC :=
  (.seq (.leaf (sel [0] g_Strong_PrintHTML.body)) (.seq (.seq (.leaf (sel [1, 0, 0] g_Strong_PrintHTML.body)) (.block 0 (.loop (leaf [(1, .s .ptr), (11, .s .slice), (12, .s (.int .i64)), (13, .s (.int .i64))] (g_Strong_PrintHTML.l1 R)) (sel [1, 0, 1, 0, 0] g_Strong_PrintHTML.body)))) (.leaf (sel [1, 1] g_Strong_PrintHTML.body))))
theorem g_Strong_PrintHTML.good (R : EP) : Good P 23 (g_Strong_PrintHTML.ac R) (QF P [] R) :=
  ⟨trivial, ⟨⟨trivial, (loopG (g_Strong_PrintHTML.al1 R) (g_Strong_PrintHTML.bl1 R) (fun _ => by kernel_rfl) (fun Xa => trivial) (fun Xa => by intro x1 x11q x11n x11c x12 x13 ρ w; kernel_rfl) (fun X h _ _ _ _ _ _ _ g => g X h))⟩, trivial⟩⟩
theorem g_Strong_PrintHTML.eq (R : EP) (x0 : OA) (x1 : OA) (w : World) : g_Strong_PrintHTML R x0 x1 w = vcA P 23 (g_Strong_PrintHTML.ac R) (QF P [] R) (fr0 [.pointer x0, .pointer x1]) w := by kernel_rfl
theorem g_Strong_PrintHTML.sound {R : EP} {x0 : OA} {x1 : OA} {w : World} (h : g_Strong_PrintHTML R x0 x1 w) : callE P i_Strong_PrintHTML #[.pointer x0, .pointer x1] R w :=
  callE_fin (c := g_Strong_PrintHTML.body) Tryz.func366 Tryz.call366 (by kernel_rfl) (by kernel_rfl) (by kernel_rfl) (by kernel_rfl) (by kernel_rfl) (g_Strong_PrintHTML.good R) (g_Strong_PrintHTML.eq R x0 x1 w) h
end Go.Proofs.YtgbgadkldalkbaaGreatDoor

set_option linter.unusedVariables false
namespace Go.Proofs.YtgbgadkldalkbaaGreatDoor
open Go.Proofs Go.IntWalk Go.RowKit
variable {σ : Out} {w : World} {L L' : List Chunk} {R : Ending → World → Prop}
theorem meth_Strong : methB P ty_P_Strong "PrintHTML" i_Strong_PrintHTML = true := by kernel_rfl
theorem meth_Emph : methB P ty_P_Emph "PrintHTML" i_Emph_PrintHTML = true := by kernel_rfl
def oStrong : List UInt8 := [60, 115, 116, 114, 111, 110, 103, 62]
def cStrong : List UInt8 := [60, 47, 115, 116, 114, 111, 110, 103, 62]
def oEm : List UInt8 := [60, 101, 109, 62]
def cEm : List UInt8 := [60, 47, 101, 109, 62]
theorem strong_prints {b : Nat} {e : TypeId} {m : Value} {q : Option Addr} {n c : Nat} {vs : List Value} {RM KM KM' : List Chunk} {f : List UInt8 → List UInt8} (hS : Sl 1 ty_Inline q n c vs RM) (hn : n < 4611686018427387904) (hP : PrintsL "PrintHTML" vs KM KM' f) :
    Prints "PrintHTML" (.iface ty_P_Strong (.pointer (some ⟨b, 0, none⟩))) ((b, cel [m, .slice q n c] e) :: (RM ++ KM)) ((b, cel [m, .slice q n c] e) :: (RM ++ KM')) (fun l => f (l ++ oStrong) ++ cStrong) := by
  refine ⟨fun l => ?_, fun σ R bb l M L w hB h hb hR => enter_meth meth_Strong ?_⟩
  · have := hP.mono (l ++ oStrong)
    simp only [List.length_append] at *; omega
  refine g_Strong_PrintHTML.sound ?_
  have hm := hP.mono (l ++ oStrong)
  simp only [List.length_append] at hb hm
  refine writeS_ok (s := oStrong) hB h (by omega) fun w M hB h => ⟨_, _, rfl, ?_⟩
  refine nilP_some ?_
  refine ⟨_, _, _, Sat.ld h (List.mem_append_right _ (.head _)) rfl, ?_⟩
  intro X hX
  have h : Sat σ w (M ++ (RM ++ (KM ++ ((b, cel [m, .slice q n c] e) :: L)))) := h.re (by intro _; simp only [List.append_eq, cnt_append, cnt_cons, cnt_nil] <;> omega)
  refine printLoop (X := fun j w => X (some ⟨bb, 0, none⟩) q n c (n : Int) j w) (END := fun w => callE P i_bytes_Buffer_WriteString #[.pointer (some ⟨bb, 0, none⟩), .string (bs cStrong)] (fun e w10 => ∃ (r9_0 : Int), ∃ (r9_1 : Value), e = .returned (.tuple #[.int .i64 r9_0, r9_1]) ∧ R (.returned (.tuple #[])) w10) w) hS (fun j w hj => hX _ _ _ _ _ _ _ hj) hP hB h hn (by omega) fun w M' hB h => ?_
  refine writeS_ok (s := cStrong) hB h (by omega) fun w M hB h => ⟨_, _, rfl, ?_⟩
  exact hR w M hB (h.re (by intro _; simp only [List.append_eq, cnt_append, cnt_cons, cnt_nil] <;> omega))
theorem em_prints {b : Nat} {e : TypeId} {m : Value} {q : Option Addr} {n c : Nat} {vs : List Value} {RM KM KM' : List Chunk} {f : List UInt8 → List UInt8} (hS : Sl 1 ty_Inline q n c vs RM) (hn : n < 4611686018427387904) (hP : PrintsL "PrintHTML" vs KM KM' f) :
    Prints "PrintHTML" (.iface ty_P_Emph (.pointer (some ⟨b, 0, none⟩))) ((b, cel [m, .slice q n c] e) :: (RM ++ KM)) ((b, cel [m, .slice q n c] e) :: (RM ++ KM')) (fun l => f (l ++ oEm) ++ cEm) := by
  refine ⟨fun l => ?_, fun σ R bb l M L w hB h hb hR => enter_meth meth_Emph ?_⟩
  · have := hP.mono (l ++ oEm)
    simp only [List.length_append] at *; omega
  refine g_Emph_PrintHTML.sound ?_
  have hm := hP.mono (l ++ oEm)
  simp only [List.length_append] at hb hm
  refine writeS_ok (s := oEm) hB h (by omega) fun w M hB h => ⟨_, _, rfl, ?_⟩
  refine nilP_some ?_
  refine ⟨_, _, _, Sat.ld h (List.mem_append_right _ (.head _)) rfl, ?_⟩
  intro X hX
  have h : Sat σ w (M ++ (RM ++ (KM ++ ((b, cel [m, .slice q n c] e) :: L)))) := h.re (by intro _; simp only [List.append_eq, cnt_append, cnt_cons, cnt_nil] <;> omega)
  refine printLoop (X := fun j w => X (some ⟨bb, 0, none⟩) q n c (n : Int) j w) (END := fun w => callE P i_bytes_Buffer_WriteString #[.pointer (some ⟨bb, 0, none⟩), .string (bs cEm)] (fun e w10 => ∃ (r9_0 : Int), ∃ (r9_1 : Value), e = .returned (.tuple #[.int .i64 r9_0, r9_1]) ∧ R (.returned (.tuple #[])) w10) w) hS (fun j w hj => hX _ _ _ _ _ _ _ hj) hP hB h hn (by omega) fun w M' hB h => ?_
  refine writeS_ok (s := cEm) hB h (by omega) fun w M hB h => ⟨_, _, rfl, ?_⟩
  exact hR w M hB (h.re (by intro _; simp only [List.append_eq, cnt_append, cnt_cons, cnt_nil] <;> omega))
mutual
def outI : Inl → List UInt8
  | .plain s => escS htmlPs s
  | .strong _ ks => oStrong ++ outL ks ++ cStrong
  | .emph _ ks => oEm ++ outL ks ++ cEm
  | .esc s => escS htmlPs s
  | .auto t u => aHref ++ escS linkPs u ++ [34, 62] ++ escS htmlPs t ++ aEnd
  | .link ks u t _ _ => linkO u t ++ outL ks ++ aEnd
  | .soft => softT
  | .hard => hardT
  | _ => []
def outL : List Inl → List UInt8
  | [] => []
  | t :: ts => outI t ++ outL ts
end
mutual
def okI : Inl → Prop
  | .plain s => s.length < 4294967296
  | .strong _ ks => okL ks ∧ ks.length < 1073741824
  | .emph _ ks => okL ks ∧ ks.length < 1073741824
  | .esc s => s.length < 4294967296
  | .auto t u => t.length < 100000000 ∧ u.length < 100000000
  | .link ks u t _ _ => okL ks ∧ ks.length < 1073741824 ∧ u.length < 100000000 ∧ t.length < 100000000
  | .soft => True
  | .hard => True
  | _ => False
def okL : List Inl → Prop
  | [] => True
  | t :: ts => okI t ∧ okL ts
end
theorem Prints.as {m : String} {v : Value} {T T' : List Chunk} {f g : List UInt8 → List UInt8} (h : Prints m v T T' f) (e : f = g) : Prints m v T T' g := e ▸ h
theorem PrintsL.as {m : String} {v : List Value} {T T' : List Chunk} {f g : List UInt8 → List UInt8} (h : PrintsL m v T T' f) (e : f = g) : PrintsL m v T T' g := e ▸ h
mutual
theorem inl_prints : ∀ (t : Inl) (v : Value) (M : List Chunk), InlAt t v M → okI t → Prints "PrintHTML" v M M (ab (outI t))
  | .plain s, v, M, h, ho => by
    obtain ⟨b, cs, e, rfl, rfl⟩ := h
    exact plain_prints ho
  | .strong m ks, v, M, h, ho => by
    obtain ⟨b, e, q, n, c, vs, RM, KM, rfl, rfl, hS, hI⟩ := h
    have hl := hI.length
    have h0 := hS.1
    have h1 := ho.2
    refine (strong_prints hS (by omega) (inls_print ks vs KM hI ho.1)).as ?_
    funext l
    simp [ab, outI]
  | .emph m ks, v, M, h, ho => by
    obtain ⟨b, e, q, n, c, vs, RM, KM, rfl, rfl, hS, hI⟩ := h
    have hl := hI.length
    have h0 := hS.1
    have h1 := ho.2
    refine (em_prints hS (by omega) (inls_print ks vs KM hI ho.1)).as ?_
    funext l
    simp [ab, outI]
  | .esc s, v, M, h, ho => by
    obtain ⟨b, e, rfl, rfl⟩ := h
    exact esc_prints ho
  | .auto t u, v, M, h, ho => by
    obtain ⟨b, e, rfl, rfl⟩ := h
    exact auto_prints ho.1 ho.2
  | .link ks u t tc k, v, M, h, ho => by
    obtain ⟨b, e, q, n, c, vs, RM, KM, rfl, rfl, hS, hI⟩ := h
    have hl := hI.length
    have h0 := hS.1
    obtain ⟨h1, h2, h3, h4⟩ := ho
    refine (link_prints h3 h4 hS (by omega) (inls_print ks vs KM hI h1)).as ?_
    funext l
    simp [ab, outI]
  | .soft, v, M, h, ho => by
    obtain ⟨b, e, rfl, rfl⟩ := h
    exact soft_prints
  | .hard, v, M, h, ho => by
    obtain ⟨b, e, rfl, rfl⟩ := h
    exact hard_prints
  | .openP _ _, v, M, h, ho => absurd ho id
  | .emphP _ _ _ _ _, v, M, h, ho => absurd ho id
  | .code _, v, M, h, ho => absurd ho id
  | .del _ _, v, M, h, ho => absurd ho id
  | .image _ _ _ _ _, v, M, h, ho => absurd ho id
  | .tag _, v, M, h, ho => absurd ho id
  | .task _, v, M, h, ho => absurd ho id
theorem inls_print : ∀ (ts : List Inl) (vs : List Value) (M : List Chunk), InlsAt ts vs M → okL ts → PrintsL "PrintHTML" vs M M (ab (outL ts))
  | [], vs, M, h, ho => by
    obtain ⟨rfl, rfl⟩ := h
    exact PrintsL.nil.as (by funext l; simp [ab, outL])
  | t :: ts, vs, M, h, ho => by
    obtain ⟨v, vs', M1, M2, rfl, rfl, h1, h2⟩ := h
    refine (PrintsL.cons (inl_prints t v M1 h1 ho.1) (inls_print ts vs' M2 h2 ho.2)).as ?_
    funext l
    simp [ab, outL]
end
end Go.Proofs.YtgbgadkldalkbaaGreatDoor


set_option linter.unusedVariables false
namespace Go.Proofs.YtgbgadkldalkbaaGreatDoor
open Go.Proofs Go.IntWalk Go.RowKit
variable {σ : Out} {w : World} {L L' : List Chunk} {R : Ending → World → Prop}
def punB (c : UInt8) : Bool := (((decide (33 ≤ c.toNat) && decide (c.toNat ≤ 47)) || (decide (58 ≤ c.toNat) && decide (c.toNat ≤ 64))) || (decide (91 ≤ c.toNat) && decide (c.toNat ≤ 96))) || (decide (123 ≤ c.toNat) && decide (c.toNat ≤ 126))
theorem u8_cle (c : UInt8) (n : Nat) : decide ((n : Int) ≤ ((c.toNat : Nat) : Int)) = decide (n ≤ c.toNat) := by rw [decide_eq_decide]; omega
theorem u8_cge (c : UInt8) (n : Nat) : decide (((c.toNat : Nat) : Int) ≤ (n : Int)) = decide (c.toNat ≤ n) := by rw [decide_eq_decide]; omega
theorem isPunctB_ok {c : UInt8} (hR : R (.returned (.bool (punB c))) w) : callE P i_isPunct #[.int .u8 (c.toNat : Int)] R w := by
  refine g_isPunct.sound ?_
  unfold g_isPunct
  unfold punB at hR
  rw [← u8_cle c 33, ← u8_cge c 47, ← u8_cle c 58, ← u8_cge c 64, ← u8_cle c 91, ← u8_cge c 96, ← u8_cle c 123, ← u8_cge c 126] at hR
  exact hR
inductive Tok where
  | lit (c : UInt8)
  | esc (c : UInt8)
  | nl
def Tok.bytes : Tok → List UInt8
  | .lit c => [c]
  | .esc c => [92, c]
  | .nl => [10]
def Tok.out : Tok → List UInt8
  | .lit c => escB htmlPs c
  | .esc c => escB htmlPs c
  | .nl => [10]
def tokB (ts : List Tok) : List UInt8 := ts.flatMap Tok.bytes
def tokO (ts : List Tok) : List UInt8 := ts.flatMap Tok.out
theorem tokB_cons (t : Tok) (ts : List Tok) : tokB (t :: ts) = t.bytes ++ tokB ts := by simp [tokB]
theorem tokB_append (a b : List Tok) : tokB (a ++ b) = tokB a ++ tokB b := by simp [tokB]
theorem tokO_cons (t : Tok) (ts : List Tok) : tokO (t :: ts) = t.out ++ tokO ts := by simp [tokO]
theorem tokB_length (ts : List Tok) : ts.length ≤ (tokB ts).length := by
  induction ts with
  | nil => simp [tokB]
  | cons t ts ih => rw [tokB_cons, List.length_append, List.length_cons]; cases t <;> simp [Tok.bytes] <;> omega
def tokIn (pend : List UInt8) : List Tok → List Inl
  | [] => if pend = [] then [] else [.plain pend]
  | .lit c :: r => tokIn (pend ++ [c]) r
  | .esc c :: r => (if pend = [] then [] else [.plain pend]) ++ .esc [c] :: tokIn [] r
  | .nl :: r => (if pend = [] then [] else [.plain pend]) ++ .soft :: tokIn [] r
def nlOK : List Tok → Prop
  | [] => True
  | t :: ts => (match ts with
    | .nl :: _ => match t with
      | .lit c => isST c = false
      | .esc c => isST c = false
      | .nl => True
    | _ => True) ∧ (match t, ts with
    | .nl, .lit c :: _ => isST c = false
    | _, _ => True) ∧ nlOK ts
def Tok.ok (o : Opt) : Tok → Prop
  | .lit c => parserOf o c = .nil ∧ c ≠ 93
  | .esc c => punB c = true
  | .nl => True
theorem escape_leaf {b : Nat} {p : PS} {c : UInt8} {A B : List UInt8} (hc : punB c = true) (hs : (A ++ 92 :: c :: B).length < 1000000) :
    LeafOK b p (A ++ 92 :: c :: B) A.length (.func (.func i_parseEscape) #[] #[]) [] (some (.esc [c], A.length, A.length + 2)) (fun p' => p' = p) := by
  intro σ R L w _ h hR
  refine enter_fn ?_
  have hlen : (A ++ 92 :: c :: B).length = A.length + B.length + 2 := by simp; omega
  have hg : (A ++ 92 :: c :: B).getD (A.length + 1) 0 = c := by
    have := getD_mid (A ++ [92]) B c 0
    rw [show (A ++ [92] : List UInt8).length = A.length + 1 by simp] at this
    rw [← this]; simp
  refine g_parseEscape.sound ?_
  unfold g_parseEscape
  have e2 : IntKind.i64.wrap ((A.length : Int) + 2) = ((A.length + 2 : Nat) : Int) := by simp (disch := omega) only [i64_in]; omega
  rw [i64_inc (by omega), e2]
  refine br_true (by rw [bs_size, hlen]; simp; omega) ⟨by omega, by rw [bs_size, hlen]; omega, ?_⟩
  rw [bs_bt, hg]
  refine isPunctB_ok ⟨_, rfl, br_true hc ⟨by omega, by omega, by rw [bs_size, hlen]; omega, ?_⟩⟩
  have hsub := sub_mid (A ++ [92]) [c] B
  rw [show (A ++ [92] : List UInt8).length = A.length + 1 by simp] at hsub
  rw [Int.toNat_natCast, Int.toNat_natCast, bs_extract]
  have hsub' : ((A ++ 92 :: c :: B).take (A.length + 2)).drop (A.length + 1) = [c] := by
    unfold sub at hsub
    rw [← hsub]; simp
  rw [hsub']
  refine Sat.bx h fun nb w h => ?_
  exact hR w p _ _ rfl rfl ⟨nb, _, rfl, rfl⟩ h.up1
theorem break_leaf {b : Nat} {p : PS} {A B : List UInt8} (hA : ∀ k, k + 1 = A.length → isST (A.getD k 0) = false) (hB : 0 < B.length → isST (B.getD 0 0) = false) (hs : (A ++ 10 :: B).length < 1000000) :
    LeafOK b p (A ++ 10 :: B) A.length (.func (.func i_parseBreak) #[] #[]) [] (some (.soft, A.length, A.length + 1)) (fun p' => p' = p) := by
  intro σ R L w _ h hR
  refine enter_fn ?_
  have hlen : (A ++ 10 :: B).length = A.length + B.length + 1 := by simp; omega
  have hst : ∀ {c : UInt8}, isST c = false → (((c.toNat : Nat) : Int) == 32) = false ∧ (((c.toNat : Nat) : Int) == 9) = false := by
    intro c hc
    simp only [isST, Bool.or_eq_false_iff] at hc
    rw [u8b _ 32 32 rfl, u8b _ 9 9 rfl]; exact hc
  refine g_parseBreak.sound ?_
  intro X hX
  have k1 : g_parseBreak.k1 R (bs (A ++ 10 :: B)) (A.length : Nat) (A.length : Nat) w := by
    unfold g_parseBreak.k1
    rw [i64_inc (by omega)]
    intro Y hY
    have k2 : g_parseBreak.k2 R (bs (A ++ 10 :: B)) (A.length : Nat) (A.length : Nat) ((A.length + 1 : Nat) : Int) w := by
      rcases Nat.lt_or_ge A.length 2 with h2 | h2
      · have hf : decide (((A.length : Nat) : Int) ≥ 2) = false := decide_eq_false (by omega)
        unfold g_parseBreak.k2
        rw [hf]
        refine ⟨fun h => by simp at h, fun h => by simp at h, br_false rfl ?_⟩
        exact Sat.bx h fun nb w h => hR w p _ _ rfl rfl ⟨nb, _, rfl, rfl⟩ h.up1
      · have ht : decide (((A.length : Nat) : Int) ≥ 2) = true := decide_eq_true (by omega)
        have e1 : IntKind.i64.wrap ((A.length : Int) - 1) = ((A.length - 1 : Nat) : Int) := i64_dec (by omega) (by omega)
        have hc := hst (hA (A.length - 1) (by omega))
        have hg : bt (bs (A ++ 10 :: B)) ((A.length - 1 : Nat) : Int) = ((A.getD (A.length - 1) 0).toNat : Int) := by rw [bs_bt, getD_app' (by omega)]
        unfold g_parseBreak.k2
        rw [ht, e1, hg, hc.1]
        refine ⟨fun _ => ⟨by omega, by rw [bs_size, hlen]; omega⟩, fun h => by simp at h, br_false rfl ?_⟩
        exact Sat.bx h fun nb w h => hR w p _ _ rfl rfl ⟨nb, _, rfl, rfl⟩ h.up1
    rcases Nat.eq_zero_or_pos B.length with hb | hb
    · have hf : decide (((A.length + 1 : Nat) : Int) < ((bs (A ++ 10 :: B)).size : Int)) = false := decide_eq_false (by rw [bs_size, hlen]; omega)
      refine hY _ _ _ _ _ ?_
      unfold g_parseBreak.bl2
      rw [hf]
      exact ⟨fun h => by simp at h, fun h => by simp at h, br_false rfl k2⟩
    · have hc := hst (hB hb)
      have hg : bt (bs (A ++ 10 :: B)) ((A.length + 1 : Nat) : Int) = ((B.getD 0 0).toNat : Int) := by
        rw [bs_bt, getD_app (by omega), show A.length + 1 - A.length = 0 + 1 by omega, List.getD_cons_succ]
      refine hY _ _ _ _ _ ?_
      unfold g_parseBreak.bl2
      rw [hg, hc.1, hc.2]
      exact ⟨fun h => ⟨by omega, by rw [bs_size, hlen]; omega⟩, fun h => ⟨by omega, by rw [bs_size, hlen]; omega⟩, br_false (by simp) k2⟩
  rcases Nat.eq_zero_or_pos A.length with ha | ha
  · have hf : decide (((A.length : Nat) : Int) > 0) = false := decide_eq_false (by omega)
    refine hX _ _ _ _ ?_
    unfold g_parseBreak.bl1
    rw [hf]
    exact ⟨fun h => by simp at h, fun h => by simp at h, br_false rfl k1⟩
  · have e1 : IntKind.i64.wrap ((A.length : Int) - 1) = ((A.length - 1 : Nat) : Int) := i64_dec (by omega) (by omega)
    have hc := hst (hA (A.length - 1) (by omega))
    have hg : bt (bs (A ++ 10 :: B)) ((A.length - 1 : Nat) : Int) = ((A.getD (A.length - 1) 0).toNat : Int) := by rw [bs_bt, getD_app' (by omega)]
    refine hX _ _ _ _ ?_
    unfold g_parseBreak.bl1
    rw [e1, hg, hc.1, hc.2]
    exact ⟨fun h => ⟨by omega, by rw [bs_size, hlen]; omega⟩, fun h => ⟨by omega, by rw [bs_size, hlen]; omega⟩, br_false (by simp) k1⟩
theorem tokIn_kinds : ∀ (ts : List Tok) (pend : List UInt8), ∀ t ∈ tokIn pend ts, (∃ s, s ≠ [] ∧ t = .plain s) ∨ (∃ s, t = .esc s) ∨ t = .soft
  | [], pend, t, h => by
    simp only [tokIn] at h
    split at h
    · simp at h
    · rename_i hp; simp at h; exact .inl ⟨pend, hp, h⟩
  | .lit c :: r, pend, t, h => tokIn_kinds r _ t h
  | .esc c :: r, pend, t, h => by
    simp only [tokIn, List.mem_append, List.mem_cons] at h
    rcases h with h | rfl | h
    · split at h
      · simp at h
      · rename_i hp; simp at h; exact .inl ⟨pend, hp, h⟩
    · exact .inr (.inl ⟨_, rfl⟩)
    · exact tokIn_kinds r _ t h
  | .nl :: r, pend, t, h => by
    simp only [tokIn, List.mem_append, List.mem_cons] at h
    rcases h with h | rfl | h
    · split at h
      · simp at h
      · rename_i hp; simp at h; exact .inl ⟨pend, hp, h⟩
    · exact .inr (.inr rfl)
    · exact tokIn_kinds r _ t h
theorem tokIn_merge : ∀ (ts : List Tok) (pend : List UInt8), mergeM (tokIn pend ts) = tokIn pend ts
  | [], pend => by
    by_cases hp : pend = []
    · simp [tokIn, hp, mergeM, mergeGo, flushP]
    · simp [tokIn, hp, mergeM, mergeGo, flushP, Inl.plain?]
  | .lit c :: r, pend => tokIn_merge r _
  | .esc c :: r, pend => by
    have ih := tokIn_merge r []
    unfold mergeM at ih ⊢
    by_cases hp : pend = []
    · simp [tokIn, hp, mergeGo, flushP, Inl.plain?, ih]
    · simp [tokIn, hp, mergeGo, flushP, Inl.plain?, ih]
  | .nl :: r, pend => by
    have ih := tokIn_merge r []
    unfold mergeM at ih ⊢
    by_cases hp : pend = []
    · simp [tokIn, hp, mergeGo, flushP, Inl.plain?, ih]
    · simp [tokIn, hp, mergeGo, flushP, Inl.plain?, ih]
theorem outL_append : ∀ (a b : List Inl), outL (a ++ b) = outL a ++ outL b
  | [], b => rfl
  | t :: a, b => by simp only [List.cons_append, outL, outL_append a b, List.append_assoc]
theorem tokIn_out : ∀ (ts : List Tok) (pend : List UInt8), outL (tokIn pend ts) = escS htmlPs pend ++ tokO ts
  | [], pend => by
    by_cases hp : pend = []
    · simp [tokIn, hp, outL, escS, tokO]
    · simp [tokIn, hp, outL, outI, tokO]
  | .lit c :: r, pend => by
    rw [tokIn, tokIn_out r, escS_append, tokO_cons]
    simp [escS, Tok.out]
  | .esc c :: r, pend => by
    rw [tokIn, outL_append, tokO_cons]
    by_cases hp : pend = []
    · simp [hp, outL, outI, tokIn_out r [], escS, Tok.out]
    · simp [hp, outL, outI, tokIn_out r [], escS, Tok.out]
  | .nl :: r, pend => by
    rw [tokIn, outL_append, tokO_cons]
    by_cases hp : pend = []
    · simp [hp, outL, outI, tokIn_out r [], escS, Tok.out, softT]
    · simp [hp, outL, outI, tokIn_out r [], escS, Tok.out, softT]
theorem okL_append : ∀ {a b : List Inl}, okL a → okL b → okL (a ++ b)
  | [], b, _, h => h
  | t :: a, b, h1, h2 => ⟨h1.1, okL_append h1.2 h2⟩
theorem tokIn_ok : ∀ (ts : List Tok) (pend : List UInt8), pend.length + ts.length < 1000000 → okL (tokIn pend ts)
  | [], pend, h => by
    simp only [tokIn]
    split
    · trivial
    · exact ⟨by show pend.length < _; simp at h; omega, trivial⟩
  | .lit c :: r, pend, h => tokIn_ok r _ (by simp at h ⊢; omega)
  | .esc c :: r, pend, h => by
    simp only [tokIn]
    refine okL_append ?_ ⟨by show ([c] : List UInt8).length < _; simp, tokIn_ok r [] (by simp at h ⊢; omega)⟩
    split
    · trivial
    · exact ⟨by show pend.length < _; simp at h; omega, trivial⟩
  | .nl :: r, pend, h => by
    simp only [tokIn]
    refine okL_append ?_ ⟨trivial, tokIn_ok r [] (by simp at h ⊢; omega)⟩
    split
    · trivial
    · exact ⟨by show pend.length < _; simp at h; omega, trivial⟩
theorem plen_append : ∀ (a b : List Inl), plen (a ++ b) = plen a + plen b
  | [], b => by simp [plen]
  | t :: a, b => by simp only [List.cons_append, plen, plen_append a b]; omega
theorem tokIn_plen : ∀ (ts : List Tok) (pend : List UInt8), plen (tokIn pend ts) ≤ pend.length + ts.length
  | [], pend => by
    simp only [tokIn]
    split <;> simp [plen, Inl.plain?]
  | .lit c :: r, pend => by
    have := tokIn_plen r (pend ++ [c])
    simp only [tokIn, List.length_append, List.length_cons, List.length_nil] at this ⊢; omega
  | .esc c :: r, pend => by
    have := tokIn_plen r []
    simp only [tokIn, plen_append, plen, List.length_nil, List.length_cons] at this ⊢
    split <;> simp [plen, Inl.plain?] <;> omega
  | .nl :: r, pend => by
    have := tokIn_plen r []
    simp only [tokIn, plen_append, plen, List.length_nil, List.length_cons] at this ⊢
    split <;> simp [plen, Inl.plain?] <;> omega
theorem sub_snoc {A B : List UInt8} {e : Nat} (x : List UInt8) (he : e ≤ A.length) : sub (A ++ (x ++ B)) e (A.length + x.length) = sub (A ++ (x ++ B)) e A.length ++ x := by
  unfold sub
  have h1 : (A ++ (x ++ B)).take (A.length + x.length) = A ++ x := by rw [← List.append_assoc, show A.length + x.length = (A ++ x).length by simp, List.take_left]
  have h2 : (A ++ (x ++ B)).take A.length = A := List.take_left
  rw [h1, h2, List.drop_append_of_le_length he]
theorem toks_inline {o : Opt} {toks : List Tok} (hoff : o.auto = false) (hok : ∀ t ∈ toks, t.ok o) (hnl : nlOK toks) (hlen : (tokB toks).length < 1000000) (htr : trimLR isST (tokB toks) = tokB toks) (hne : toks ≠ []) :
    InlineOK o (tokB toks) (ab (tokO toks)) := by
  intro σ R b pb p L w h hpz ho hlk hR
  have htl := tokB_length toks
  refine inl_begin h (by omega) fun w h => ?_
  rw [htr] at h ⊢
  generalize hr : tokB toks = raw at h hlen htl ⊢
  intro X hX
  have hXL : LoopX R X b raw := fun _ _ _ _ _ h => hX _ _ _ _ _ _ _ _ _ h
  generalize hp0 : ({ p with s := raw, em := 0, lq := none, ln := 0, lc := 0 } : PS) = p0 at h
  have hpz0 : p0.pz = some ⟨pb, 0, none⟩ := by rw [← hp0]; exact hpz
  have hcs : p0.coreS = p.coreS := by rw [← hp0]; rfl
  suffices hat : AtI X σ b p0 raw L 0 0 [] from hat w p0 none 0 0 rfl (by rw [← hp0]) (by rw [← hp0]; rfl) h
  have hem : ∀ (e i : Nat) (ts : List Inl), e ≤ i → i ≤ raw.length → emitM raw e i ts = ts ++ (if sub raw e i = [] then [] else [.plain (sub raw e i)]) := by
    intro e i ts h1 h2
    have hsl := sub_length (s := raw) (i := e) (j := i) h2
    unfold emitM
    by_cases hei : e < i
    · rw [if_pos hei, if_neg (by intro h0; rw [h0] at hsl; simp at hsl; omega)]
    · rw [if_neg hei, if_pos (List.eq_nil_of_length_eq_zero (by omega)), List.append_nil]
  have key : ∀ (suf pre : List Tok) (e : Nat) (ts : List Inl), pre ++ suf = toks → e ≤ (tokB pre).length → ts.length ≤ pre.length * 2 → (∀ t, pre.getLast? = some t → ∀ s, suf.head? = some s → nlOK [t, s]) →
      ts ++ tokIn (sub raw e (tokB pre).length) suf = tokIn [] toks → AtI X σ b p0 raw L (tokB pre).length e ts := by
    intro suf
    induction suf with
    | nil =>
      intro pre e ts hpre he htsl _ hT
      rw [List.append_nil] at hpre
      subst hpre
      rw [hr] at he hT ⊢
      refine AtI.fin (ts' := tokIn [] pre) hXL (by omega) hpz0 ho hoff (by omega) ?_ ?_ ?_ ?_
      · rw [hem e raw.length ts he (Nat.le_refl _)]
        have : ts ++ (if sub raw e raw.length = [] then [] else [.plain (sub raw e raw.length)]) = tokIn [] pre := by rw [← hT]; rfl
        rw [this]
        refine emphOK_none fun t ht => ?_
        rcases tokIn_kinds _ _ t ht with ⟨s, _, rfl⟩ | ⟨s, rfl⟩ | rfl <;> exact ⟨by simp only [Inl.ty]; decide, by simp only [Inl.ty]; decide⟩
      · intro t ht s hs
        rcases tokIn_kinds _ _ t ht with ⟨s', hs', rfl⟩ | ⟨s', rfl⟩ | rfl
        · simp [Inl.plain?] at hs; subst hs; exact hs'
        · simp [Inl.plain?] at hs
        · simp [Inl.plain?] at hs
      · have := tokIn_plen pre []; simp at this; omega
      · intro w p' q n' c vs RM EM hp' hS hn' hI h
        rw [tokIn_merge] at hI
        have hP := inls_print _ _ _ hI (tokIn_ok pre [] (by simp; omega))
        have eo : outL (tokIn [] pre) = tokO pre := by rw [tokIn_out]; simp [escS]
        rw [eo] at hP
        exact hR w p' q n' c vs RM EM EM (hp'.trans hcs) hS hn' hP h
    | cons t suf ih =>
      intro pre e ts hpre he htsl hadj hT
      have hraw : raw = tokB pre ++ (t.bytes ++ tokB suf) := by rw [← hr, ← hpre, tokB_append, tokB_cons]
      have hl : raw.length = (tokB pre).length + (t.bytes.length + (tokB suf).length) := by rw [hraw]; simp
      have htm : t ∈ toks := by rw [← hpre]; simp
      have hokt := hok t htm
      have hpl : (tokB (pre ++ [t])).length = (tokB pre).length + t.bytes.length := by rw [tokB_append, tokB_cons]; simp [tokB]
      have hprel : pre.length + suf.length + 1 = toks.length := by rw [← hpre]; simp; omega
      have hnl2 : nlOK (t :: suf) := by
        have : ∀ (a b : List Tok), nlOK (a ++ b) → nlOK b := by
          intro a
          induction a with
          | nil => exact fun b h => h
          | cons x a iha => exact fun b h => iha b h.2.2
        exact this pre _ (by rw [hpre]; exact hnl)
      have hadj2 : ∀ t', (pre ++ [t]).getLast? = some t' → ∀ s, suf.head? = some s → nlOK [t', s] := by
        intro t' ht' s hs
        rw [List.getLast?_append] at ht'
        simp at ht'
        subst ht'
        cases suf with
        | nil => simp at hs
        | cons s' suf =>
          simp at hs; subst hs
          refine ⟨?_, ?_, ?_⟩
          · have := hnl2.1
            cases s' <;> cases t <;> first | trivial | exact this
          · have := hnl2.2.1
            cases s' <;> cases t <;> first | trivial | exact this
          · exact ⟨trivial, by cases s' <;> trivial, trivial⟩
      cases t with
      | lit c =>
        have hi : (tokB pre).length < raw.length := by rw [hl]; simp [Tok.bytes]; omega
        have hget : raw[(tokB pre).length] = c := by
          have := getD_mid (tokB pre) (tokB suf) c 0
          rw [show tokB pre ++ c :: tokB suf = raw by rw [hraw]; rfl] at this
          rw [getElem_getD hi 0]; exact this
        refine AtI.plain hXL hi (by omega) hpz0 ho (by rw [hget]; exact hokt.1) (by rw [hget]; exact hokt.2) ?_
        have := ih (pre ++ [.lit c]) e ts (by rw [← hpre]; simp) (by rw [hpl]; omega) (by simp; omega) hadj2 ?_
        · rw [hpl] at this; exact this
        · rw [hpl]
          have hs := sub_snoc (A := tokB pre) (B := tokB suf) (e := e) (Tok.lit c).bytes he
          rw [← hraw] at hs
          rw [hs]; exact hT
      | esc c =>
        have hi : (tokB pre).length < raw.length := by rw [hl]; simp [Tok.bytes]; omega
        have hraw' : raw = tokB pre ++ 92 :: c :: tokB suf := by rw [hraw]; rfl
        have hget : raw[(tokB pre).length] = 92 := by
          have := getD_mid (tokB pre) (c :: tokB suf) 92 0
          rw [← hraw'] at this
          rw [getElem_getD hi 0]; exact this
        refine AtI.leaf (Q := fun p p' => p' = p) (st := (tokB pre).length) (en := (tokB pre).length + 2) (t := .esc [c]) hXL hi (by omega) hpz0 ho (f := i_parseEscape) (by rw [hget]; rfl) (L0 := []) (by simp) (fun p _ _ => by rw [hraw']; exact escape_leaf hokt (by rw [← hraw']; omega)) rfl (by omega) (by omega) ?_
        have hlen2 : ∀ ts' : List Inl, ts'.length ≤ ts.length + 1 → ts'.length + 1 ≤ (pre.length + 1) * 2 := by intro ts' h'; omega
        have := ih (pre ++ [.esc c]) ((tokB pre).length + 2) (emitM raw e (tokB pre).length ts ++ [.esc [c]]) (by rw [← hpre]; simp) (by rw [hpl]; simp [Tok.bytes]) ?_ hadj2 ?_
        · rw [hpl] at this; exact this
        · have : (emitM raw e (tokB pre).length ts).length ≤ ts.length + 1 := by unfold emitM; split <;> simp
          simp only [List.length_append, List.length_singleton]; omega
        · rw [hpl, show (Tok.esc c).bytes.length = 2 from rfl, sub_self, hem e _ ts he (by omega)]
          rw [← hT]; simp [tokIn]
      | nl =>
        have hi : (tokB pre).length < raw.length := by rw [hl]; simp [Tok.bytes]; omega
        have hraw' : raw = tokB pre ++ 10 :: tokB suf := by rw [hraw]; rfl
        have hget : raw[(tokB pre).length] = 10 := by
          have := getD_mid (tokB pre) (tokB suf) 10 0
          rw [← hraw'] at this
          rw [getElem_getD hi 0]; exact this
        have hA : ∀ k, k + 1 = (tokB pre).length → isST ((tokB pre).getD k 0) = false := by
          intro k hk
          rcases List.eq_nil_or_concat pre with h0 | ⟨a, t', h0⟩
          · rw [h0] at hk; simp [tokB] at hk
          · rw [List.concat_eq_append] at h0
            have ha := (hadj t' (by rw [h0]; simp) .nl rfl).1
            rw [h0, tokB_append] at hk ⊢
            rw [List.length_append] at hk
            cases t' with
            | lit c =>
              have hk' : k = (tokB a).length := by simp [tokB, Tok.bytes] at hk ⊢; omega
              rw [hk', getD_app (Nat.le_refl _), Nat.sub_self]; exact ha
            | esc c =>
              have hk' : k = (tokB a).length + 1 := by simp [tokB, Tok.bytes] at hk ⊢; omega
              rw [hk', getD_app (by omega), show (tokB a).length + 1 - (tokB a).length = 1 by omega]; exact ha
            | nl =>
              have hk' : k = (tokB a).length := by simp [tokB, Tok.bytes] at hk ⊢; omega
              rw [hk', getD_app (Nat.le_refl _), Nat.sub_self]; decide
        have hB : 0 < (tokB suf).length → isST ((tokB suf).getD 0 0) = false := by
          intro _
          cases suf with
          | nil => decide
          | cons s suf =>
            cases s with
            | lit c => exact hnl2.2.1
            | esc c => rfl
            | nl => rfl
        refine AtI.leaf (Q := fun p p' => p' = p) (st := (tokB pre).length) (en := (tokB pre).length + 1) (t := .soft) hXL hi (by omega) hpz0 ho (f := i_parseBreak) (by rw [hget]; rfl) (L0 := []) (by simp) (fun p _ _ => by rw [hraw']; exact break_leaf hA hB (by rw [← hraw']; omega)) rfl (by omega) (by omega) ?_
        have := ih (pre ++ [.nl]) ((tokB pre).length + 1) (emitM raw e (tokB pre).length ts ++ [.soft]) (by rw [← hpre]; simp) (by rw [hpl]; simp [Tok.bytes]) ?_ hadj2 ?_
        · rw [hpl] at this; exact this
        · have : (emitM raw e (tokB pre).length ts).length ≤ ts.length + 1 := by unfold emitM; split <;> simp
          simp only [List.length_append, List.length_singleton]; omega
        · rw [hpl, show Tok.nl.bytes.length = 1 from rfl, sub_self, hem e _ ts he (by omega)]
          rw [← hT]; simp [tokIn]
  exact key toks [] 0 [] rfl (by simp) (by simp) (by simp) (by simp [tokB, sub_self])
end Go.Proofs.YtgbgadkldalkbaaGreatDoor


set_option linter.unusedVariables false
namespace Go.Proofs.YtgbgadkldalkbaaGreatDoor
open Go.Proofs Go.IntWalk Go.RowKit
variable {σ : Out} {w : World} {L L' : List Chunk} {R : Ending → World → Prop}
def smlB (c : UInt8) : Bool := decide (97 ≤ c.toNat) && decide (c.toNat ≤ 122)
theorem u8_all {p : UInt8 → Bool} (h : (List.range 256).all (fun n => p (UInt8.ofNat n)) = true) (c : UInt8) : p c = true := by
  have hc := c.toNat_lt
  have := (List.all_eq_true.1 h) c.toNat (List.mem_range.2 hc)
  simpa using this
theorem sml_all : (List.range 256).all (fun n => (!(smlB (UInt8.ofNat n)) || (!isST (UInt8.ofNat n) && !isSTN (UInt8.ofNat n) && UInt8.ofNat n != 93 && UInt8.ofNat n != 91 && UInt8.ofNat n != 10 && UInt8.ofNat n != 13 && UInt8.ofNat n != 0 && decide (escB htmlPs (UInt8.ofNat n) = [UInt8.ofNat n])))) = true := by kernel_rfl
theorem sml_facts {c : UInt8} (h : smlB c = true) : isST c = false ∧ isSTN c = false ∧ c ≠ 93 ∧ c ≠ 91 ∧ c ≠ 10 ∧ c ≠ 13 ∧ c ≠ 0 ∧ escB htmlPs c = [c] := by
  have := u8_all (p := fun c => (!(smlB c) || (!isST c && !isSTN c && c != 93 && c != 91 && c != 10 && c != 13 && c != 0 && decide (escB htmlPs c = [c])))) sml_all c
  simp only [h, Bool.not_true, Bool.false_or, Bool.and_eq_true, Bool.not_eq_true', bne_iff_ne, ne_eq, decide_eq_true_eq] at this
  exact ⟨this.1.1.1.1.1.1.1, this.1.1.1.1.1.1.2, this.1.1.1.1.1.2, this.1.1.1.1.2, this.1.1.1.2, this.1.1.2, this.1.2, this.2⟩
def toksW (raw : List UInt8) : List Tok := raw.map fun c => if c = 10 then .nl else .lit c
theorem toksW_B (raw : List UInt8) : tokB (toksW raw) = raw := by
  induction raw with
  | nil => rfl
  | cons c raw ih =>
    show tokB ((if c = 10 then .nl else .lit c) :: toksW raw) = _
    rw [tokB_cons, ih]
    by_cases h : c = 10
    · rw [if_pos h, h]; rfl
    · rw [if_neg h]; rfl
theorem toksW_O {raw : List UInt8} (hall : ∀ c ∈ raw, smlB c = true ∨ c = 10) : tokO (toksW raw) = raw := by
  induction raw with
  | nil => rfl
  | cons c raw ih =>
    show tokO ((if c = 10 then .nl else .lit c) :: toksW raw) = _
    rw [tokO_cons, ih fun d hd => hall d (List.mem_cons_of_mem _ hd)]
    by_cases h : c = 10
    · rw [if_pos h, h]; rfl
    · rw [if_neg h]
      have := (sml_facts ((hall c (by simp)).resolve_right h)).2.2.2.2.2.2.2
      show escB htmlPs c ++ raw = _
      rw [this]; rfl
theorem toksW_nl : ∀ {raw : List UInt8}, (∀ c ∈ raw, smlB c = true ∨ c = 10) → nlOK (toksW raw)
  | [], _ => trivial
  | [c], h => by
    show nlOK [if c = 10 then .nl else .lit c]
    by_cases hc : c = 10
    · rw [if_pos hc]; exact ⟨trivial, trivial, trivial⟩
    · rw [if_neg hc]; exact ⟨trivial, trivial, trivial⟩
  | c :: d :: raw, h => by
    have ih := toksW_nl (raw := d :: raw) fun x hx => h x (List.mem_cons_of_mem _ hx)
    have hst : ∀ x ∈ c :: d :: raw, x ≠ 10 → isST x = false := fun x hx hx10 => (sml_facts ((h x hx).resolve_right hx10)).1
    show nlOK ((if c = 10 then .nl else .lit c) :: (if d = 10 then .nl else .lit d) :: toksW raw)
    have ih : nlOK ((if d = 10 then Tok.nl else .lit d) :: toksW raw) := ih
    by_cases hc : c = 10
    · by_cases hd : d = 10
      · rw [if_pos hc, if_pos hd] at *; exact ⟨trivial, trivial, ih⟩
      · rw [if_pos hc, if_neg hd] at *; exact ⟨trivial, hst d (by simp) hd, ih⟩
    · by_cases hd : d = 10
      · rw [if_neg hc, if_pos hd] at *; exact ⟨hst c (by simp) hc, trivial, ih⟩
      · rw [if_neg hc, if_neg hd] at *; exact ⟨trivial, trivial, ih⟩
theorem noST_trim {s : List UInt8} (h : ∀ c ∈ s, isST c = false) : trimLR isST s = s := by
  have hd : ∀ t : List UInt8, (∀ c ∈ t, isST c = false) → t.dropWhile isST = t := by
    intro t ht
    cases t with
    | nil => rfl
    | cons c t => rw [List.dropWhile_cons_of_neg (by simp [ht c (by simp)])]
  unfold trimLR trimR
  rw [hd s h, hd s.reverse (by simpa using h), List.reverse_reverse]
theorem sml_pnil {c : UInt8} (h : smlB c = true) (o : Opt) : parserOf o c = .nil := by
  have ne : ∀ d : UInt8, smlB d = false → c ≠ d := by rintro d hd rfl; rw [h] at hd; cases hd
  have ne2 : ∀ d e : UInt8, smlB d = false → smlB e = false → ¬(c = d ∨ c = e) := by rintro d e hd he (hh | hh); exact ne d hd hh; exact ne e he hh
  unfold parserOf
  rw [if_neg (ne 92 rfl), if_neg (ne 96 rfl), if_neg (ne 60 rfl), if_neg (ne 91 rfl), if_neg (ne 33 rfl), if_neg (ne2 95 42 rfl rfl), if_neg (ne 46 rfl), if_neg (ne 45 rfl), if_neg (ne2 34 39 rfl rfl), if_neg (ne 126 rfl), if_neg (ne 10 rfl), if_neg (ne 38 rfl), if_neg (ne 58 rfl)]
theorem words_inline {o : Opt} (hoff : o.auto = false) {raw : List UInt8} (hall : ∀ c ∈ raw, smlB c = true ∨ c = 10) (hne : raw ≠ []) (hlen : raw.length < 1000000) : InlineOK o raw (ab raw) := by
  have hst : ∀ c ∈ raw, isST c = false := by
    intro c hc
    rcases hall c hc with h | rfl
    · exact (sml_facts h).1
    · rfl
  have hok : ∀ t ∈ toksW raw, t.ok o := by
    intro t ht
    obtain ⟨c, hc, rfl⟩ := List.mem_map.1 ht
    by_cases h : c = 10
    · rw [if_pos h]; trivial
    · rw [if_neg h]
      have hl := (hall c hc).resolve_right h
      exact ⟨sml_pnil hl o, (sml_facts hl).2.2.1⟩
  have := toks_inline (o := o) (toks := toksW raw) hoff hok (toksW_nl hall) (by rw [toksW_B]; exact hlen) (by rw [toksW_B]; exact noST_trim hst) (by simpa [toksW] using hne)
  rw [toksW_B, toksW_O hall] at this
  exact this
def WordL (s : List UInt8) : Prop := s ≠ [] ∧ ∀ c ∈ s, smlB c = true
theorem wordsJ_all {ls : List (List UInt8)} (h : ∀ l ∈ ls, WordL l) : ∀ c ∈ joinL [10] ls, smlB c = true ∨ c = 10 := by
  intro c hc
  cases ls with
  | nil => simp [joinL] at hc
  | cons l ls =>
    simp only [joinL, List.mem_append, List.mem_flatMap] at hc
    rcases hc with hc | ⟨x, hx, hc⟩
    · exact .inl ((h l (by simp)).2 c hc)
    · rcases hc with hc | hc
      · right; simpa using hc
      · exact .inl ((h x (by simp [hx])).2 c hc)
theorem wordsJ_first {ls : List (List UInt8)} (hne : ls ≠ []) (h : ∀ l ∈ ls, WordL l) : ∃ c t, joinL [10] ls = c :: t ∧ smlB c = true := by
  cases ls with
  | nil => exact absurd rfl hne
  | cons l ls =>
    obtain ⟨h1, h2⟩ := h l (by simp)
    cases l with
    | nil => exact absurd rfl h1
    | cons c t => exact ⟨c, _, rfl, h2 c (by simp)⟩
theorem wordsJ_len {N : Nat} {ls : List (List UInt8)} (h : ∀ l ∈ ls, l.length ≤ N) : (joinL [10] ls).length ≤ ls.length * (N + 1) := by
  have hf : ∀ ls : List (List UInt8), (∀ l ∈ ls, l.length ≤ N) → (ls.flatMap fun u => [10] ++ u).length ≤ ls.length * (N + 1) := by
    intro ls
    induction ls with
    | nil => intro _; simp
    | cons l ls ih =>
      intro h
      have h1 := ih fun x hx => h x (List.mem_cons_of_mem _ hx)
      have h2 := h l (by simp)
      rw [List.flatMap_cons, List.length_append, List.length_cons, Nat.add_mul]
      simp only [List.length_append, List.length_cons, List.length_nil]
      omega
  cases ls with
  | nil => simp [joinL]
  | cons l ls =>
    have h1 := hf ls fun x hx => h x (List.mem_cons_of_mem _ hx)
    have h2 := h l (by simp)
    rw [joinL, List.length_append, List.length_cons, Nat.add_mul]
    omega
theorem words_fin {N : Nat} {ls : List (List UInt8)} (hne : ls ≠ []) (h : ∀ l ∈ ls, WordL l) (hN : ∀ l ∈ ls, l.length ≤ N) (hb : ls.length * (N + 1) < 1000000) : Leaf.fin (.para ls) := by
  have hl := wordsJ_len hN
  obtain ⟨c, t, e, hc⟩ := wordsJ_first hne h
  have f := sml_facts hc
  refine ⟨by omega, by rw [e]; simp, ?_⟩
  rw [e, List.dropWhile_cons_of_neg (by simp [f.2.1])]
  simpa using f.2.2.2.1
end Go.Proofs.YtgbgadkldalkbaaGreatDoor


set_option linter.unusedVariables false
namespace Go.Proofs.YtgbgadkldalkbaaGreatDoor
open Go.Proofs Go.IntWalk Go.RowKit
variable {σ : Out} {w : World} {L L' : List Chunk} {R : Ending → World → Prop}
def CloseS (D : List DB) (lf : Leaf) (Q : List DB → Prop) : Prop :=
  ∀ (σ : Out) (R : Ending → World → Prop) (L : List Chunk) (b rb : Nat) (p : PS) (w : World) (X : OA → Int → WP), (∀ x0 x1 w, g_parseState_trimStack.bl1 R X x0 x1 w → X x0 x1 w) → DocS σ b rb L D lf p w →
    (∀ w (p' : PS) D', p'.base = p.base → Q D' → DocS σ b rb L D' .none p' w → X (some ⟨b, 0, none⟩) 0 w) → X (some ⟨b, 0, none⟩) 0 w
theorem CloseS.none {D : List DB} {Q : List DB → Prop} (hQ : Q D) : CloseS D .none Q := fun σ R L b rb p w X hX h hN => hN w p D rfl hQ h
theorem CloseS.para {D : List DB} {ls : List (List UInt8)} {Q : List DB → Prop} (hf : Leaf.fin (.para ls)) (hD : D.length < 100000) (hX : (txsC D).length < 100000) (hQ : ∀ D', LeafClosed (.para ls) D D' → Q D') : CloseS D (.para ls) Q := by
  intro σ R L b rb p w X hX' h hN
  have h0 := h
  obtain ⟨r, obs, M, TM, IM, LM, hr, hs, ht, hI, ⟨qb, s, e, rfl, hp, hs1, hne, hln⟩, h⟩ := h
  have hn : p.stn = 2 := hs.2.1
  refine hX' _ _ _ (nilP_some ?_)
  refine ⟨_, _, _, h.ldA, ?_⟩
  rw [hn]
  refine br_true rfl ?_
  exact closeLeaf_ok h0 hf.toN hD hX fun w p' D' x h1 h2 h3 h4 h5 h => ⟨_, rfl, hN w p' D' h1 (hQ D' h5) h⟩
theorem CloseS.pre {D : List DB} {ls : List (List UInt8)} {Q : List DB → Prop} (hD : D.length < 100000) (hQ : ∀ d, PreDone ls d → Q (D ++ [d])) : CloseS D (preLeaf ls) Q := by
  intro σ R L b rb p w X hX' h hN
  exact trim_pre (.inl rfl) hX' h hD fun w p' d h1 h2 h3 hd h => hN w p' _ h1 (hQ d hd) h
theorem finishS_ok {b rb : Nat} {p : PS} {D : List DB} {lf : Leaf} {Q : List DB → Prop} (hC : CloseS D lf Q) (h : DocS σ b rb L D lf p w) (hQl : ∀ D', Q D' → D'.length < 1000000)
    (hR : ∀ w (p' : PS) D' db IM TM q n c s e, p'.base = { p.base with root := some ⟨db, 0, none⟩ } → Q D' → Txts p' ((txsC D').map TX.t) TM → Sl 1 ty_Block q n c (D'.map DB.v) IM → n < 1000000 →
      Sat σ w (p'.at b :: (TM ++ ((txsC D').map TX.chunk ++ (docC db s e q n c p.links :: (IM ++ (ownC D' ++ L)))))) → R (.returned (.tuple #[])) w) :
    callE P i_parseState_trimStack #[.pointer (some ⟨b, 0, none⟩), .int .i64 0] R w := by
  refine g_parseState_trimStack.sound ?_
  have h0 := h
  obtain ⟨r, obs, M, TM, IM, LM, hr, hs, ht, hI, hL, h⟩ := h
  refine nilP_some ?_
  refine ⟨_, _, _, h.ldA, ?_⟩
  refine br_false (by simp) ?_
  intro X hX'
  refine hC σ R L b rb p w X hX' h0 fun w p1 D' hb hQ h => ?_
  obtain ⟨r, obs, M, TM, IM, LM, hr, hs, ht, hI, ⟨rfl, rfl⟩, h⟩ := h
  have hn : p1.stn = 1 := hs.2.1
  have hlk : p1.links = p.links := by have := congrArg PS.links hb; exact this
  refine hX' _ _ _ (nilP_some ?_)
  refine ⟨_, _, _, h.ldA, ?_⟩
  rw [hn]
  refine br_true rfl ?_
  refine closeRoot_ok h hs hr fun w db h => ⟨_, rfl, hX' _ _ _ (nilP_some ?_)⟩
  refine ⟨_, _, _, h.ldA, ?_⟩
  refine br_false rfl ?_
  have hIl := hI.1
  simp only [List.length_map, Nat.mul_one] at hIl
  have := hQl D' hQ
  refine hR w { p1 with stn := 0, root := some ⟨db, 0, none⟩ } D' db IM TM r.q r.n r.c r.s r.e ?_ hQ (ht.of rfl rfl rfl) hI (by omega) ?_
  · have e : ({ p1 with stn := 0, root := some ⟨db, 0, none⟩ } : PS).base = { p1.base with root := some ⟨db, 0, none⟩ } := rfl
    rw [e, hb]
  · rw [← hlk]
    have h : Sat σ w (({ p1 with stn := 0, root := some ⟨db, 0, none⟩ } : PS).at b :: M ++ (docC db r.s r.e r.q r.n r.c p1.links :: (IM ++ (TM ++ ([] ++ (ownC D' ++ ((txsC D').map TX.chunk ++ L))))))) := h
    exact h.less M (by intro _; simp only [List.append_eq, cnt_append, cnt_cons, cnt_nil] <;> omega)
theorem parses_docS {L0 : List Chunk} {op : Opt} {text out : List UInt8} {ls : List (List UInt8 × UInt8)} {F : List UInt8 → List UInt8 → List UInt8} (hL : LinesOf text ls) (h0 : 0 ∉ text) (hlen : text.length < 1000000)
    (I : List (List UInt8 × UInt8) → List DB → Leaf → Prop) (hI0 : I ls [] .none) (step : ∀ l nl rem D lf, I ((l, nl) :: rem) D lf → StepOKL L0 op l nl D lf (I rem))
    (fin : ∀ D lf, I [] D lf → CloseS D lf fun D' => D'.length < 1000000 ∧ ∃ gs, Show2 F D' gs ∧ compL gs [] = out ∧ ∀ x ∈ txsC D', InlineOK op x.raw (F x.raw)) : ParsesToL L0 op text out := by
  intro σ R L w pb hL0 h ho hR
  refine g_Parser_parse.sound ?_
  refine Sat.bx h fun b w h => ?_
  refine h.stA 0 fun w h => ?_
  have h : Sat σ w ((PS0 (some ⟨pb, 0, none⟩)).at b :: L) := h
  refine zzContains_ok (sub := [0]) (by omega) (by decide) ⟨_, rfl, ?_⟩
  rw [idx_none h0]
  refine br_false rfl ?_
  refine h.stA 0 fun w h => ?_
  refine Sat.bx h fun rb w h => ?_
  let p0 : PS := { PS0 (some ⟨pb, 0, none⟩) with depth := -1 }
  have h : Sat σ w (p0.at b :: [] ++ ((rb, cel [] ty_rootBuilder) :: L)) := h.up1
  have hstk : Stk p0 [] [] := ⟨Sl.nil 4 ty_openBlock, rfl, by simp⟩
  refine addBlock_ok h hstk rfl (by decide) fun w p1 M hp1 hs1 h => ⟨rfl, ?_⟩
  intro X hX
  have hll := hL.len
  have e1 : p1.base = p0.base := by rw [hp1]; rfl
  have e2 : p1.lineno = 0 := by rw [hp1]; rfl
  have htx : Txts p1 [] [] := by
    have : p1.tq = none ∧ p1.tn = 0 ∧ p1.tc = 0 := by rw [hp1]; exact ⟨rfl, rfl, rfl⟩
    obtain ⟨a, b, c⟩ := this
    unfold Txts
    rw [a, b, c]
    exact ⟨Sl.nil 1 ty_P_Text, rfl, by simp⟩
  have hd : DocS σ b rb ((rb, cel [] ty_rootBuilder) :: L) [] .none p1 w :=
    ⟨⟨rootV rb, none, 0, 0, 0, 0⟩, [], M, [], [], [], rfl, hs1, htx, Sl.nil 1 ty_Block, ⟨rfl, rfl⟩, h⟩
  refine lines_okL (p0 := p0) (op := op) step (fun c hc => .tail _ (hL0 c hc)) hX (.tail _ ho) rfl ?_ hL w p1 [] .none hlen (by rw [e2]; omega) e1 hI0 hd
  intro w p D lf hb hI hds
  refine br_false (by rw [bs_toList, mk_toList]; rfl) ?_
  refine finishS_ok (fin D lf hI) hds (fun D' h => h.1) fun w p' D' db IM TM q n c s e hb' hcl ht hIM hn h => ⟨rfl, ?_⟩
  obtain ⟨_, gs, hS, hout, hIn⟩ := hcl
  have hbb : p'.base = { p0.base with root := some ⟨db, 0, none⟩ } := by rw [hb', hb]
  have hpz : p'.pz = some ⟨pb, 0, none⟩ := by have := congrArg PS.pz hbb; exact this
  have hlk : p'.links = none := by have := congrArg PS.links hbb; exact this
  have hrt : p'.root = some ⟨db, 0, none⟩ := by have := congrArg PS.root hbb; exact this
  have hLL : p'.Lq = none ∧ p'.Ln = 0 ∧ p'.Lc = 0 := ⟨by have := congrArg PS.Lq hbb; exact this, by have := congrArg PS.Ln hbb; exact this, by have := congrArg PS.Lc hbb; exact this⟩
  refine ⟨_, _, _, Sat.ld h (.head _) (i := 11) rfl, ?_⟩
  refine texts_ok (op := op) (F := F) (L0 := []) h ht hpz (by simp [ho]) hlk (by simp) hLL (fun x hx => (hIn x hx).lift) fun w p2 ts hp2 hf h => ?_
  have hrt2 : p2.root = some ⟨db, 0, none⟩ := by have := congrArg PS.root hp2; rw [show p2.root = p'.root from this]; exact hrt
  unfold g_Parser_parse.k4
  refine h.tk fun w h => ?_
  refine ⟨_, Sat.ld h (.head _) (i := 1) rfl, _, Sat.ld h (.head _) (i := 6) rfl, ?_⟩
  rw [hrt2]
  obtain ⟨KM, KM', hP, hcnt⟩ := docs_printK hS ts hf
  refine hR w db p2.corner (docC db s e q n c p.links :: (IM ++ KM)) (docC db s e q n c p.links :: (IM ++ KM')) (compL gs) (doc_prints hIM (by omega) hP) hout ?_
  refine Sat.less (p2.at b :: TM ++ [(rb, cel [] ty_rootBuilder)]) h fun a => ?_
  have := hcnt a
  simp only [List.append_eq, cnt_append, cnt_cons, cnt_nil] at this ⊢
  omega
def IndW (s : List UInt8) (c : Nat) : Prop := (s = List.replicate c 32 ∧ c ≤ 7) ∨ ∃ k j, s = List.replicate k 32 ++ 9 :: List.replicate j 32 ∧ k ≤ 3 ∧ j ≤ 3 ∧ c = 4 + j
theorem tsGo_sp {mn : Nat} {e : Bool} {k n : Nat} {l : Ln} (h0 : l.sp = 0) (h : l.text[l.i]? = some 32) : l.tsGo mn e (k + 1) n = Ln.tsGo mn e k (n + 1) { l with i := l.i + 1 } := by
  have hl := (List.getElem?_eq_some_iff.1 h).1
  rw [Ln.tsGo, if_neg (by omega), if_neg (by omega), if_neg (by rw [h]; decide), if_pos h]
theorem tsGo_tab {mn : Nat} {e : Bool} {k n : Nat} {l : Ln} (h0 : l.sp = 0) (h : l.text[l.i]? = some 9) : l.tsGo mn e (k + 1) n = Ln.tsGo mn e k (n + 1) { l with sp := 3 - (l.i - l.tab) % 4, i := l.i + 1, tab := l.i + 1 } := by
  have hl := (List.getElem?_eq_some_iff.1 h).1
  rw [Ln.tsGo, if_neg (by omega), if_neg (by omega), if_pos h]
theorem tsGo_low {mn : Nat} {e : Bool} {k n : Nat} {l : Ln} {c : UInt8} (h0 : l.sp = 0) (h : l.text[l.i]? = some c) (hc : isST c = false) : l.tsGo mn e (k + 1) n = if mn ≤ n then some l else none := by
  have hl := (List.getElem?_eq_some_iff.1 h).1
  simp only [isST, Bool.or_eq_false_iff, beq_eq_false_iff_ne, ne_eq] at hc
  rw [Ln.tsGo, if_neg (by omega), if_neg (by omega), if_neg (by rw [h]; simpa using hc.2), if_neg (by rw [h]; simpa using hc.1)]
theorem tsGo_sps {mn : Nat} {e : Bool} : ∀ (m k n : Nat) {l : Ln}, l.sp = 0 → (∀ j, j < m → l.text[l.i + j]? = some 32) → l.tsGo mn e (m + k) n = Ln.tsGo mn e k (n + m) { l with i := l.i + m }
  | 0, k, n, l, h0, h => by simp
  | m + 1, k, n, l, h0, h => by
    rw [show m + 1 + k = m + k + 1 by omega, tsGo_sp h0 (by have := h 0 (by omega); simpa using this)]
    rw [tsGo_sps m k (n + 1) (by exact h0) (fun j hj => by have := h (j + 1) (by omega); rw [show l.i + 1 + j = l.i + (j + 1) by omega]; exact this)]
    congr 1
    · omega
    · simp only [Ln.mk.injEq, and_true, true_and]; omega
theorem tsGo_rem {mn : Nat} {e : Bool} : ∀ (m n : Nat) {l : Ln}, l.sp = m → l.tsGo mn e m n = some { l with sp := 0 }
  | 0, n, ⟨sp, i, tab, tx, nl⟩, h => by
    obtain rfl : sp = 0 := h
    rfl
  | m + 1, n, l, h => by
    rw [Ln.tsGo, if_pos (by omega), tsGo_rem m (n + 1) (by show l.sp - 1 = m; omega)]
theorem rep_at {k j : Nat} {s : List UInt8} (h : j < k) : (List.replicate k (32 : UInt8) ++ s)[j]? = some 32 := by
  rw [List.getElem?_append_left (by simpa using h), List.getElem?_replicate, if_pos h]
theorem rep_end {k : Nat} {c : UInt8} {s : List UInt8} : (List.replicate k (32 : UInt8) ++ c :: s)[k]? = some c := by
  rw [List.getElem?_append_right (by simp)]; simp
theorem ind_few {s : List UInt8} {c : Nat} {a nl : UInt8} {t : List UInt8} {e : Bool} (h : IndW s c) (hc : c ≤ 3) (ha : isST a = false) : (lnOf (s ++ a :: t) nl).trimSp 4 4 e = none := by
  rcases h with ⟨rfl, _⟩ | ⟨k, j, rfl, _, _, rfl⟩
  · unfold Ln.trimSp
    rw [show 4 = c + (3 - c + 1) by omega, tsGo_sps c (3 - c + 1) 0 rfl (fun j hj => by show (List.replicate c 32 ++ a :: t)[0 + j]? = _; rw [Nat.zero_add]; exact rep_at hj)]
    rw [tsGo_low rfl (c := a) (by show (List.replicate c 32 ++ a :: t)[0 + c]? = _; rw [Nat.zero_add]; exact rep_end) ha, if_neg (by omega)]
  · omega
theorem ind_more {s : List UInt8} {c : Nat} {a nl : UInt8} {t : List UInt8} {e : Bool} (h : IndW s c) (hc : 4 ≤ c) (ha : isST a = false) :
    ∃ l', (lnOf (s ++ a :: t) nl).trimSp 4 4 e = some l' ∧ l'.str = List.replicate (c - 4) 32 ++ a :: t ∧ l'.blank = false := by
  rcases h with ⟨rfl, _⟩ | ⟨k, j, rfl, hk, _, rfl⟩
  · refine ⟨⟨0, 4, 0, List.replicate c 32 ++ a :: t, nl⟩, ?_, ?_, ?_⟩
    · unfold Ln.trimSp
      rw [show (4 : Nat) = 4 + 0 by rfl, tsGo_sps 4 0 0 rfl (fun j hj => by show (List.replicate c 32 ++ a :: t)[0 + j]? = _; rw [Nat.zero_add]; exact rep_at (by omega))]
      rfl
    · show List.replicate 0 32 ++ (List.replicate c 32 ++ a :: t).drop 4 = _
      rw [List.drop_append_of_le_length (by simpa using hc), List.drop_replicate]; rfl
    · show ((List.replicate c 32 ++ a :: t).drop 4).all isST = false
      rw [List.drop_append_of_le_length (by simpa using hc), List.all_append, List.all_cons, ha]; simp
  · have ed : (List.replicate k (32 : UInt8) ++ 9 :: List.replicate j 32 ++ a :: t).drop (k + 1) = List.replicate j 32 ++ a :: t := by
      rw [List.append_assoc, List.drop_append, List.length_replicate, show k + 1 - k = 1 by omega, List.drop_eq_nil_of_le (by simp)]; rfl
    refine ⟨⟨0, k + 1, k + 1, List.replicate k 32 ++ 9 :: List.replicate j 32 ++ a :: t, nl⟩, ?_, ?_, ?_⟩
    · unfold Ln.trimSp
      have ea : List.replicate k (32 : UInt8) ++ 9 :: List.replicate j 32 ++ a :: t = List.replicate k 32 ++ 9 :: (List.replicate j 32 ++ a :: t) := by rw [List.append_assoc]; rfl
      rw [ea]
      rw [show (4 : Nat) = k + (3 - k + 1) by omega, tsGo_sps k (3 - k + 1) 0 rfl (fun j hj => by show (List.replicate k 32 ++ _)[0 + j]? = _; rw [Nat.zero_add]; exact rep_at hj)]
      rw [tsGo_tab rfl (by show (List.replicate k 32 ++ _)[0 + k]? = _; rw [Nat.zero_add]; exact rep_end)]
      rw [tsGo_rem (3 - k) _ (by show 3 - (0 + k - 0) % 4 = 3 - k; omega)]
      simp only [lnOf, Nat.zero_add]
    · show List.replicate 0 32 ++ (List.replicate k 32 ++ 9 :: List.replicate j 32 ++ a :: t).drop (k + 1) = _
      rw [ed, show 4 + j - 4 = j by omega]; rfl
    · show ((List.replicate k 32 ++ 9 :: List.replicate j 32 ++ a :: t).drop (k + 1)).all isST = false
      rw [ed, List.all_append, List.all_cons, ha]; simp
def softB (c : UInt8) : Bool := c == 32 || c == 9 || smlB c
theorem soft_all : (List.range 256).all (fun n => (!(softB (UInt8.ofNat n)) || (UInt8.ofNat n != 62 && UInt8.ofNat n != 35 && UInt8.ofNat n != 45 && UInt8.ofNat n != 95 && UInt8.ofNat n != 42 && UInt8.ofNat n != 60 && UInt8.ofNat n != 61 && UInt8.ofNat n != 96 && UInt8.ofNat n != 126 && !isBullet (UInt8.ofNat n)))) = true := by kernel_rfl
theorem soft_facts {c : UInt8} (h : softB c = true ∨ c = 0) : c ≠ 62 ∧ c ≠ 35 ∧ c ≠ 45 ∧ c ≠ 95 ∧ c ≠ 42 ∧ c ≠ 60 ∧ c ≠ 61 ∧ c ≠ 96 ∧ c ≠ 126 ∧ isBullet c = false := by
  rcases h with h | rfl
  · have := u8_all (p := fun c => (!(softB c) || (c != 62 && c != 35 && c != 45 && c != 95 && c != 42 && c != 60 && c != 61 && c != 96 && c != 126 && !isBullet c))) soft_all c
    simp only [h, Bool.not_true, Bool.false_or, Bool.and_eq_true, Bool.not_eq_true', bne_iff_ne, ne_eq] at this
    obtain ⟨⟨⟨⟨⟨⟨⟨⟨⟨a, b⟩, c⟩, d⟩, e⟩, f⟩, g⟩, h⟩, i⟩, j⟩ := this
    exact ⟨a, b, c, d, e, f, g, h, i, j⟩
  · decide
theorem soft_peek {l : Ln} (h : ∀ c ∈ l.text, softB c = true) : softB l.peek = true ∨ l.peek = 0 := by
  unfold Ln.peek
  split
  · left; rfl
  · rw [List.getD_eq_getElem?_getD]
    cases hg : l.text[l.i]? with
    | none => right; rfl
    | some c => left; exact h c (List.mem_of_getElem? hg)
theorem soft_trimC {l : Ln} (h : ∀ c ∈ l.text, softB c = true) {d : UInt8} (hd : softB d = false) : l.trimC d = none := by
  cases ht : l.trimC d with
  | none => rfl
  | some l' =>
    exfalso
    unfold Ln.trimC at ht
    split at ht
    · split at ht
      · rename_i _ h32; subst h32; revert hd; decide
      · cases ht
    · split at ht
      · rename_i _ hg; have := h d (List.mem_of_getElem? hg); rw [this] at hd; cases hd
      · cases ht
theorem Ln.strip_txt : ∀ (k n : Nat) {l : Ln}, l.ok → (l.strip k n).2.text = l.text
  | 0, n, l, h => rfl
  | k + 1, n, l, h => by
    simp only [Ln.strip]
    cases hs : l.trimSp 1 1 false with
    | none => rfl
    | some l' =>
      simp only
      rw [Ln.strip_txt k (n + 1) (Ln.trimSp_ok h hs)]
      exact (Ln.tsGo_ok 1 0 h hs).2.1
theorem soft_of {s : List UInt8} {nl : UInt8} (hs : ∀ c ∈ s, softB c = true) (hl : s.length < 1000000) (hb : s.all isST = false) : (lnOf s nl).soft := by
  have hok : (lnOf s nl).ok := lnOf_ok (by omega)
  have hlead : ((lnOf s nl).lead 3 false).text = s := (Ln.tsGo_ok 3 0 hok ((lnOf s nl).lead_eq 3 false)).2.1
  have hstrip : ((lnOf s nl).strip 3 0).2.text = s := Ln.strip_txt 3 0 hok
  have hT1 : ∀ c ∈ ((lnOf s nl).lead 3 false).text, softB c = true := by rw [hlead]; exact hs
  have hT2 : ∀ c ∈ ((lnOf s nl).strip 3 0).2.text, softB c = true := by rw [hstrip]; exact hs
  have f1 := soft_facts (soft_peek hT1)
  have f2 := soft_facts (soft_peek hT2)
  refine ⟨hok, hb, ?_, ?_, ?_, f2.2.2.2.2.2.2.2.2.2, f1.2.2.2.2.2.1, f1.2.2.1, f1.2.2.2.2.2.2.1, f2.2.2.2.2.2.2.2.1, f2.2.2.2.2.2.2.2.2.1⟩
  · unfold Ln.quote; rw [soft_trimC hT1 (by decide)]; rfl
  · unfold Ln.heading; rw [soft_trimC hT1 (by decide)]
  · unfold Ln.isHR
    simp only
    rw [if_neg]
    rintro (h | h | h)
    · exact f1.2.2.1 h
    · exact f1.2.2.2.1 h
    · exact f1.2.2.2.2.1 h
end Go.Proofs.YtgbgadkldalkbaaGreatDoor


set_option linter.unusedVariables false
namespace Go.Proofs.YtgbgadkldalkbaaGreatDoor
open Go.Proofs Go.IntWalk Go.RowKit
variable {σ : Out} {w : World} {L L' : List Chunk} {R : Ending → World → Prop}
def wdA (n : Nat) : List UInt8 := List.replicate n 97
abbrev RowT := Option (Nat × Nat)
inductive RowI : List UInt8 → RowT → Prop where
  | blank : RowI [] none
  | word {s : List UInt8} {c n : Nat} : IndW s c → 1 ≤ n → n ≤ 10 → RowI (s ++ wdA n) (some (c, n))
inductive RowsI : List (List UInt8) → List RowT → Prop where
  | nil : RowsI [] []
  | cons {l : List UInt8} {r : RowT} {ls : List (List UInt8)} {rs : List RowT} : RowI l r → RowsI ls rs → RowsI (l :: ls) (r :: rs)
theorem RowsI.snoc {l : List UInt8} {r : RowT} : ∀ {ls : List (List UInt8)} {rs : List RowT}, RowsI ls rs → RowI l r → RowsI (ls ++ [l]) (rs ++ [r])
  | _, _, .nil, h => .cons h .nil
  | _, _, .cons h1 h2, h => .cons h1 (h2.snoc h)
theorem RowsI.len {ls : List (List UInt8)} {rs : List RowT} (h : RowsI ls rs) : ls.length = rs.length := by
  induction h with
  | nil => rfl
  | cons _ _ ih => simp [ih]
abbrev IBlk := Bool × List (List UInt8)
def wdP (c n : Nat) : List UInt8 := List.replicate (c - 4) 32 ++ wdA n
def indStep : List IBlk × Option IBlk → RowT → List IBlk × Option IBlk
  | (B, none), none => (B, none)
  | (B, none), some (c, n) => if 4 ≤ c then (B, some (true, [wdP c n])) else (B, some (false, [wdA n]))
  | (B, some (true, ls)), none => (B, some (true, ls ++ [[]]))
  | (B, some (true, ls)), some (c, n) => if 4 ≤ c then (B, some (true, ls ++ [wdP c n])) else (B ++ [(true, ls)], some (false, [wdA n]))
  | (B, some (false, ls)), none => (B ++ [(false, ls)], none)
  | (B, some (false, ls)), some (_, n) => (B, some (false, ls ++ [wdA n]))
def indF : IBlk → List UInt8 → List UInt8
  | (true, ls) => codeF [] (noEnd ls)
  | (false, ls) => fun l => ab (joinL [10] ls) (l ++ pOpen) ++ pClose
def indEnd (s : List IBlk × Option IBlk) : List IBlk := s.1 ++ s.2.toList
def indOut (rows : List RowT) : List UInt8 := compL ((indEnd (rows.foldl indStep ([], none))).map indF) []
theorem wdA_word {n : Nat} (h : 1 ≤ n) : WordL (wdA n) := ⟨by unfold wdA; rw [Ne, List.replicate_eq_nil_iff]; omega, fun c hc => by rw [(List.mem_replicate.1 hc).2]; rfl⟩
theorem wdA_len (n : Nat) : (wdA n).length = n := List.length_replicate
theorem IndW.facts {s : List UInt8} {c : Nat} (h : IndW s c) : (∀ x ∈ s, x = 32 ∨ x = 9) ∧ s.length ≤ 7 ∧ c ≤ 7 := by
  rcases h with ⟨rfl, hc⟩ | ⟨k, j, rfl, hk, hj, rfl⟩
  · exact ⟨fun x hx => .inl (List.mem_replicate.1 hx).2, by simpa using hc, hc⟩
  · refine ⟨fun x hx => ?_, by simp; omega, by omega⟩
    rcases List.mem_append.1 hx with hx | hx
    · exact .inl (List.mem_replicate.1 hx).2
    · rcases List.mem_cons.1 hx with rfl | hx
      · right; rfl
      · exact .inl (List.mem_replicate.1 hx).2
theorem RowI.facts {l : List UInt8} {r : RowT} (h : RowI l r) : (∀ c ∈ l, softB c = true) ∧ l.length ≤ 20 := by
  cases h with
  | blank => exact ⟨by simp, by simp⟩
  | word hI h1 h2 =>
    obtain ⟨f1, f2, _⟩ := hI.facts
    refine ⟨fun c hc => ?_, by rw [List.length_append, wdA_len]; omega⟩
    rcases List.mem_append.1 hc with hc | hc
    · rcases f1 c hc with rfl | rfl <;> rfl
    · rw [(List.mem_replicate.1 hc).2]; rfl
theorem soft_nl {l : List UInt8} (h : ∀ c ∈ l, softB c = true) : noNL l ∧ 0 ∉ l :=
  ⟨⟨fun h0 => absurd (h _ h0) (by decide), fun h0 => absurd (h _ h0) (by decide)⟩, fun h0 => absurd (h _ h0) (by decide)⟩
def indT (ls : List (List UInt8)) : List UInt8 := ls.flatMap fun l => l ++ [10]
theorem indT_lines : ∀ {ls : List (List UInt8)} {rs : List RowT}, RowsI ls rs → LinesOf (indT ls) (ls.map fun l => (l, 10))
  | _, _, .nil => .nil
  | _, _, .cons h1 h2 => by
    unfold indT
    rw [List.flatMap_cons, List.append_assoc]
    exact .cons (soft_nl h1.facts.1).1 (indT_lines h2)
theorem indT_facts : ∀ {ls : List (List UInt8)} {rs : List RowT}, RowsI ls rs → 0 ∉ indT ls ∧ (indT ls).length ≤ ls.length * 21
  | _, _, .nil => by simp [indT]
  | _, _, .cons (l := l) (ls := ls) h1 h2 => by
    obtain ⟨i1, i2⟩ := indT_facts h2
    have f := h1.facts
    have e : indT (l :: ls) = l ++ [10] ++ indT ls := by simp [indT]
    rw [e]
    refine ⟨?_, by simp only [List.length_append, List.length_cons, List.length_nil]; omega⟩
    rw [List.mem_append, List.mem_append]
    rintro ((h0 | h0) | h0)
    · exact (soft_nl f.1).2 h0
    · simp at h0
    · exact i1 h0
theorem ind_rest {s : List UInt8} {c n : Nat} {nl : UInt8} (h : IndW s c) (h1 : 1 ≤ n) : (lnOf (s ++ wdA n) nl).rest = wdA n := by
  show (s ++ wdA n).dropWhile isST = wdA n
  have hd : ∀ u : List UInt8, (∀ x ∈ u, x = 32 ∨ x = 9) → (u ++ wdA n).dropWhile isST = (wdA n).dropWhile isST := by
    intro u
    induction u with
    | nil => intro _; rfl
    | cons x u ih =>
      intro hu
      rw [List.cons_append, List.dropWhile_cons_of_pos, ih fun y hy => hu y (List.mem_cons_of_mem _ hy)]
      rcases hu x (by simp) with rfl | rfl <;> rfl
  rw [hd s h.facts.1]
  obtain ⟨m, rfl⟩ : ∃ m, n = m + 1 := ⟨n - 1, by omega⟩
  rfl
def BlkOK (d : DB) : IBlk → Prop
  | (true, ls) => PreDone ls d ∧ ls.length ≤ 50 ∧ ∀ l ∈ ls, l.length ≤ 20
  | (false, ls) => ls ≠ [] ∧ (∀ l ∈ ls, WordL l) ∧ (∀ l ∈ ls, l.length ≤ 20) ∧ ls.length ≤ 50 ∧ ∃ nb t s e, d = paraDB nb t s e (joinL [10] ls)
inductive BlksOK : List DB → List IBlk → Prop where
  | nil : BlksOK [] []
  | snoc {D : List DB} {B : List IBlk} {d : DB} {x : IBlk} : BlksOK D B → BlkOK d x → BlksOK (D ++ [d]) (B ++ [x])
theorem BlksOK.facts {D : List DB} {B : List IBlk} (h : BlksOK D B) : D.length = B.length ∧ (txsC D).length ≤ B.length ∧ (∀ x ∈ txsC D, ∃ ls, x.raw = joinL [10] ls ∧ ls ≠ [] ∧ (∀ l ∈ ls, WordL l) ∧ (∀ l ∈ ls, l.length ≤ 20) ∧ ls.length ≤ 50) ∧ Show2 (fun raw => ab raw) D (B.map indF) := by
  induction h with
  | nil => exact ⟨rfl, by simp [txsC], by simp [txsC], .nil⟩
  | @snoc D B d x h1 h2 ih =>
    obtain ⟨i1, i2, i3, i4⟩ := ih
    rw [txsC_snoc, List.map_append, List.length_append, List.length_append, List.length_append]
    obtain ⟨k, ls⟩ := x
    cases k with
    | true =>
      obtain ⟨a, b, c⟩ := h2
      rw [a.txs, List.append_nil]
      refine ⟨by simp [i1], by simp; omega, i3, i4.append (.cons (a.shows (by omega) fun l hl => by have := c l hl; omega) .nil)⟩
    | false =>
      obtain ⟨a, b, c, e, nb, t, s, en, rfl⟩ := h2
      refine ⟨by simp [i1], by simp [paraDB]; omega, fun x hx => ?_, i4.append (.cons (DB.shows.two paraDB_shows) .nil)⟩
      rcases List.mem_append.1 hx with hx | hx
      · exact i3 x hx
      · obtain rfl := List.mem_singleton.1 hx
        exact ⟨ls, rfl, a, b, c, e⟩
def CurOK (k : Nat) (lf : Leaf) : Option IBlk → Prop
  | none => lf = .none
  | some (true, ls) => lf = preLeaf ls ∧ ls.length ≤ k ∧ ∀ l ∈ ls, l.length ≤ 20
  | some (false, ls) => lf = .para ls ∧ ls ≠ [] ∧ (∀ l ∈ ls, WordL l) ∧ (∀ l ∈ ls, l.length ≤ 20) ∧ ls.length ≤ k
def IndI (rows : List RowT) (rem : List (List UInt8 × UInt8)) (D : List DB) (lf : Leaf) : Prop :=
  ∃ k ls rs B cur, rem = ls.map (fun l => (l, 10)) ∧ RowsI ls rs ∧ k + ls.length ≤ 50 ∧ B.length ≤ k ∧ BlksOK D B ∧ CurOK k lf cur ∧ rs.foldl indStep (B, cur) = rows.foldl indStep ([], none)
theorem all_snoc {α : Type} {P : α → Prop} {l : List α} {x : α} (h : ∀ y ∈ l, P y) (hx : P x) : ∀ y ∈ l ++ [x], P y := by
  intro y hy
  rcases List.mem_append.1 hy with hy | hy
  · exact h y hy
  · rw [List.mem_singleton.1 hy]; exact hx
theorem wdP_len {c n : Nat} (hc : c ≤ 7) (hn : n ≤ 10) : (wdP c n).length ≤ 20 := by simp [wdP, wdA]; omega
theorem html_ind {ls : List (List UInt8)} {rows : List RowT} (hR : RowsI ls rows) (hl : ls.length ≤ 50) : ParsesToL [] optOff (indT ls) (indOut rows) := by
  have hf := indT_facts hR
  refine parses_docS (F := fun raw => ab raw) (indT_lines hR) hf.1 (by omega) (IndI rows) ⟨0, ls, rows, [], none, rfl, hR, by omega, Nat.le_refl _, .nil, rfl, rfl⟩ ?_ ?_
  · rintro l nl rem D lf ⟨k, ls, rs, B, cur, hrem, hRI, hk, hB, hD, hcur, hfold⟩ σ R L b rb pb p w _ hop hpz hno h hR
    cases hRI with
    | nil => cases hrem
    | @cons l0 r ls rs h1 h2 =>
      simp only [List.map_cons, List.cons.injEq, Prod.mk.injEq] at hrem
      obtain ⟨⟨rfl, rfl⟩, rfl⟩ := hrem
      have fD := hD.facts
      rw [List.length_cons] at hk
      rw [List.foldl_cons] at hfold
      have hokl : (lnOf l 10).ok := lnOf_ok (by have := h1.facts.2; omega)
      have nextI : ∀ D' lf' B' cur', indStep (B, cur) r = (B', cur') → B'.length ≤ k + 1 → BlksOK D' B' → CurOK (k + 1) lf' cur' → IndI rows (ls.map fun l => (l, 10)) D' lf' := by
        intro D' lf' B' cur' e1 e2 e3 e4
        exact ⟨k + 1, ls, rs, B', cur', rfl, h2, by omega, e2, e3, e4, by rw [← e1]; exact hfold⟩
      have curMono : ∀ c, CurOK k lf c → CurOK (k + 1) lf c := by
        intro c hc
        match c, hc with
        | none, hc => exact hc
        | some (true, ls), ⟨a, b, c⟩ => exact ⟨a, by omega, c⟩
        | some (false, ls), ⟨a, b, c, d, e⟩ => exact ⟨a, b, c, d, by omega⟩
      cases h1 with
      | blank =>
        match cur, hcur with
        | none, hcur =>
          subst hcur
          exact addLine_blank0 h hokl rfl fun w p' a1 a2 h => hR w p' D .none a1 a2 (nextI _ _ B none rfl (by omega) hD rfl) h
        | some (true, cs), ⟨hlf, c2, c3⟩ =>
          subst hlf
          refine addLine_pre1 (l' := lnOf [] 10) h hokl (by omega) rfl fun w p' a1 a2 h => hR w p' D _ a1 a2 (nextI _ _ B (some (true, cs ++ [[]])) rfl (by omega) hD ⟨rfl, by simp; omega, all_snoc c3 (by simp)⟩) h
        | some (false, cs), ⟨hlf, c2, c3, c4, c5⟩ =>
          subst hlf
          refine addLine_blankP h hokl rfl (words_fin c2 c3 c4 (by omega)) (by omega) (by omega) fun w p' D' a1 a2 a3 h => ?_
          refine hR w p' D' .none a1 a2 (nextI _ _ (B ++ [(false, cs)]) none rfl (by simp; omega) ?_ rfl) h
          obtain ⟨nb, t, s, e, rfl⟩ := a3
          exact hD.snoc ⟨c2, c3, c4, by omega, nb, t, s, e, rfl⟩
      | @word s c n hI n1 n2 =>
        have fI := hI.facts
        have hsoft : (lnOf (s ++ wdA n) 10).soft := by
          refine soft_of (RowI.word hI n1 n2).facts.1 (by have := (RowI.word hI n1 n2).facts.2; omega) ?_
          obtain ⟨m, rfl⟩ : ∃ m, n = m + 1 := ⟨n - 1, by omega⟩
          rw [List.all_append]
          show (s.all isST && (isST 97 && _)) = false
          rw [show isST 97 = false from rfl, Bool.false_and, Bool.and_false]
        have hrest := ind_rest (nl := 10) hI n1
        have hwA := wdA_word n1
        have hlA : (wdA n).length ≤ 20 := by rw [wdA_len]; omega
        have hlP := wdP_len fI.2.2 n2
        have few : ∀ e, c ≤ 3 → (lnOf (s ++ wdA n) 10).trimSp 4 4 e = none := by
          intro e hc
          obtain ⟨m, rfl⟩ : ∃ m, n = m + 1 := ⟨n - 1, by omega⟩
          exact ind_few hI hc rfl
        have more : ∀ e, 4 ≤ c → ∃ l', (lnOf (s ++ wdA n) 10).trimSp 4 4 e = some l' ∧ l'.str = wdP c n ∧ l'.blank = false := by
          intro e hc
          obtain ⟨m, rfl⟩ : ∃ m, n = m + 1 := ⟨n - 1, by omega⟩
          exact ind_more hI hc rfl
        match cur, hcur with
        | none, hcur =>
          subst hcur
          by_cases hc : 4 ≤ c
          · obtain ⟨l', t1, t2, t3⟩ := more false hc
            refine addLine_pre0 h hsoft t1 t3 fun w p' a1 a2 h => ?_
            rw [t2] at h
            exact hR w p' D _ a1 a2 (nextI _ _ B (some (true, [wdP c n])) (by simp [indStep, hc]) (by omega) hD ⟨rfl, by simp, by simpa using hlP⟩) h
          · refine addLine_plain0 h hpz hop (hsoft.plain (few false (by omega))) hno fun w p' a1 a2 h => ?_
            rw [hrest] at h
            exact hR w p' D _ a1 a2 (nextI _ _ B (some (false, [wdA n])) (by simp [indStep, hc]) (by omega) hD ⟨rfl, by simp, by simpa using hwA, by simpa using hlA, by simp⟩) h
        | some (true, cs), ⟨hlf, c2, c3⟩ =>
          subst hlf
          by_cases hc : 4 ≤ c
          · obtain ⟨l', t1, t2, t3⟩ := more true hc
            refine addLine_pre1 h hokl (by omega) t1 fun w p' a1 a2 h => ?_
            rw [t2] at h
            exact hR w p' D _ a1 a2 (nextI _ _ B (some (true, cs ++ [wdP c n])) (by simp [indStep, hc]) (by omega) hD ⟨rfl, by simp; omega, all_snoc c3 hlP⟩) h
          · refine addLine_pre2 h hpz hop hsoft (few true (by omega)) (few false (by omega)) (by omega) (by omega) hno fun w p' d a1 a2 a3 h => ?_
            rw [hrest] at h
            exact hR w p' (D ++ [d]) _ a1 a2 (nextI _ _ (B ++ [(true, cs)]) (some (false, [wdA n])) (by simp [indStep, hc]) (by simp; omega) (hD.snoc ⟨a3, by omega, c3⟩) ⟨rfl, by simp, by simpa using hwA, by simpa using hlA, by simp⟩) h
        | some (false, cs), ⟨hlf, c2, c3, c4, c5⟩ =>
          subst hlf
          refine addLine_contS h hpz hop rfl hsoft (by omega) fun w p' a1 a2 h => ?_
          rw [hrest] at h
          exact hR w p' D _ a1 a2 (nextI _ _ B (some (false, cs ++ [wdA n])) rfl (by omega) hD ⟨rfl, by simp, all_snoc c3 hwA, all_snoc c4 hlA, by simp; omega⟩) h
  · rintro D lf ⟨k, ls, rs, B, cur, hrem, hRI, hk, hB, hD, hcur, hfold⟩
    cases hRI with
    | cons _ _ => cases hrem
    | nil =>
      have hE : indOut rows = compL ((indEnd (B, cur)).map indF) [] := by unfold indOut; rw [← hfold]; rfl
      have fD := hD.facts
      have final : ∀ D' B', BlksOK D' B' → B'.length ≤ 60 → indEnd (B, cur) = B' → D'.length < 1000000 ∧ ∃ gs, Show2 (fun raw => ab raw) D' gs ∧ compL gs [] = indOut rows ∧ ∀ x ∈ txsC D', InlineOK optOff x.raw (ab x.raw) := by
        intro D' B' h1 h2 h3
        have f := h1.facts
        refine ⟨by omega, _, f.2.2.2, by rw [hE, h3], fun x hx => ?_⟩
        obtain ⟨us, e, u1, u2, u3, u4⟩ := f.2.2.1 x hx
        rw [e]
        have hlen := wordsJ_len u3
        obtain ⟨c, t, e2, _⟩ := wordsJ_first u1 u2
        exact words_inline rfl (wordsJ_all u2) (by rw [e2]; simp) (by omega)
      match cur, hcur with
      | none, hcur =>
        subst hcur
        exact CloseS.none (final D B hD (by omega) (by simp [indEnd]))
      | some (true, cs), ⟨hlf, c2, c3⟩ =>
        subst hlf
        exact CloseS.pre (by omega) fun d hd => final _ (B ++ [(true, cs)]) (hD.snoc ⟨hd, by omega, c3⟩) (by simp; omega) rfl
      | some (false, cs), ⟨hlf, c2, c3, c4, c5⟩ =>
        subst hlf
        refine CloseS.para (words_fin c2 c3 c4 (by omega)) (by omega) (by omega) fun D' a3 => ?_
        obtain ⟨nb, t, s, e, rfl⟩ := a3
        exact final _ (B ++ [(false, cs)]) (hD.snoc ⟨c2, c3, c4, by omega, nb, t, s, e, rfl⟩) (by simp; omega) rfl
end Go.Proofs.YtgbgadkldalkbaaGreatDoor


set_option linter.unusedVariables false
set_option maxRecDepth 20000
namespace Go.Proofs.YtgbgadkldalkbaaGreatDoor
open Go.Proofs
namespace g_laws_times
noncomputable def body : Code := bodyOf Tryz.f11
def bl1 (R : EP) (Xa : BA → BA → Int → Int → WP) (x0 : BA) (x5 : BA) (x6 : Int) (x7 : Int) (w : World) : Prop :=
 br (decide (x7 < x6))
 (((x5.size + x0.size : Nat) : Int) ≤ IntKind.i64.max ∧
 Xa x0 (x5 ++ x0) x6 (IntKind.i64.wrap (x7 + 1)) w)
 (R (.returned (.string x5)) w)
def l1 (R : EP) (x0 : BA) (x5 : BA) (x6 : Int) (x7 : Int) (w : World) : Prop :=
  ∀ X : BA → BA → Int → Int → WP, (∀ x0 x5 x6 x7 w, bl1 R X x0 x5 x6 x7 w → X x0 x5 x6 x7 w) → X x0 x5 x6 x7 w

noncomputable def al1 (R : EP) (Xa : BA → BA → Int → Int → WP) : AC :=
  (.leaf (sel [1, 1, 0, 1, 0, 0] body))
end g_laws_times
def g_laws_times (R : EP) (x0 : BA) (x1 : Int) (w : World) : Prop :=
 g_laws_times.l1 R x0 (ByteArray.mk #[]) x1 0 w

noncomputable def g_laws_times.ac (R : EP) : AC :=
  (.seq (.leaf (sel [0] g_laws_times.body)) (.seq (.leaf (sel [1, 0] g_laws_times.body)) (.seq (.seq (.leaf (sel [1, 1, 0, 0] g_laws_times.body)) (.block 0 (.loop (leaf [(0, .s .str), (5, .s .str), (6, .s (.int .i64)), (7, .s (.int .i64))] (g_laws_times.l1 R)) (sel [1, 1, 0, 1, 0, 0] g_laws_times.body)))) (.leaf (sel [1, 1, 1] g_laws_times.body)))))
theorem g_laws_times.good (R : EP) : Good P 14 (g_laws_times.ac R) (QF P [.tmp 4] R) :=
  ⟨trivial, ⟨trivial, ⟨⟨trivial, (loopG (g_laws_times.al1 R) (g_laws_times.bl1 R) (fun _ => by kernel_rfl) (fun Xa => trivial) (fun Xa => by intro x0 x5 x6 x7 ρ w; kernel_rfl) (fun X h _ _ _ _ _ g => g X h))⟩, trivial⟩⟩⟩
theorem g_laws_times.eq (R : EP) (x0 : BA) (x1 : Int) (w : World) : g_laws_times R x0 x1 w = vcA P 14 (g_laws_times.ac R) (QF P [.tmp 4] R) (fr0 [.string x0, .int .i64 x1]) w := by kernel_rfl
theorem g_laws_times.sound {R : EP} {x0 : ByteArray} {x1 : Int} {w : World} (h : g_laws_times R x0 x1 w) : callE P i_laws_times #[.string x0, .int .i64 x1] R w :=
  callE_fin (c := g_laws_times.body) Tryz.func11 Tryz.call11 (by kernel_rfl) (by kernel_rfl) (by kernel_rfl) (by kernel_rfl) (by kernel_rfl) (g_laws_times.good R) (g_laws_times.eq R x0 x1 w) h
end Go.Proofs.YtgbgadkldalkbaaGreatDoor

set_option linter.unusedVariables false
namespace Go.Proofs.YtgbgadkldalkbaaGreatDoor
open Go.Proofs Go.IntWalk Go.RowKit
variable {σ : Out} {w : World} {L L' : List Chunk} {R : Ending → World → Prop}
def SArg (σ : Out) (L : List Chunk) (q : Option Addr) (n : Nat) (ls : List (List UInt8)) : Prop :=
  n = ls.length ∧ ∀ i (hi : i < ls.length), ∃ a, q = some a ∧ ∀ w, Sat σ w L → w.cell? (a.add i) = some (.string (bs ls[i]))
theorem SArg.mono {q : Option Addr} {n : Nat} {ls : List (List UInt8)} (h : SArg σ L q n ls) (hL : ∀ w, Sat σ w L' → Sat σ w L) : SArg σ L' q n ls :=
  ⟨h.1, fun i hi => by obtain ⟨a, h1, h2⟩ := h.2 i hi; exact ⟨a, h1, fun w hw => h2 w (hL w hw)⟩⟩
end Go.Proofs.YtgbgadkldalkbaaGreatDoor


set_option linter.unusedVariables false
namespace Go.Proofs.YtgbgadkldalkbaaGreatDoor
open Go.Proofs Go.IntWalk Go.RowKit
variable {σ : Out} {w : World} {L L' : List Chunk} {R : Ending → World → Prop}
theorem times_ok {s : List UInt8} {n : Nat} (hn : n < 1000000) (hs : s.length < 1000000) (hR : R (.returned (.string (bs (List.replicate n s).flatten))) w) : callE P i_laws_times #[.string (bs s), .int .i64 n] R w := by
  refine g_laws_times.sound ?_
  have hmax : IntKind.i64.max = 9223372036854775807 := rfl
  intro X hX
  have hfl : ∀ k, (List.replicate k s).flatten.length = k * s.length := by intro k; simp
  have key : ∀ k i, i + k = n → X (bs s) (bs (List.replicate i s).flatten) (n : Nat) (i : Int) w := by
    intro k
    induction k with
    | zero =>
      intro i hi
      obtain rfl : i = n := hi
      exact hX _ _ _ _ _ (br_false (by simp) hR)
    | succ k ih =>
      intro i hi
      have hm : i * s.length ≤ 1000000 * 1000000 := Nat.mul_le_mul (by omega) (by omega)
      refine hX _ _ _ _ _ (br_true (by simp; omega) ⟨?_, ?_⟩)
      · rw [hmax, bs_size, bs_size, hfl]; omega
      · rw [bs_append, i64_inc (by omega)]
        have e : (List.replicate i s).flatten ++ s = (List.replicate (i + 1) s).flatten := by rw [List.replicate_succ']; simp
        rw [e]
        exact ih (i + 1) (by omega)
  exact key n 0 (by omega)
end Go.Proofs.YtgbgadkldalkbaaGreatDoor


namespace Go.Proofs.YtgbgadkldalkbaaGreatDoor
open Go.Proofs
def LArg (σ : Out) (L : List Chunk) (q : Option Addr) (n : Nat) (vs : List Bool) : Prop :=
  n = vs.length ∧ ∀ i (hi : i < vs.length), ∃ a, q = some a ∧ ∀ w, Sat σ w L → w.cell? (a.add i) = some (.bool vs[i])
def LLArg (σ : Out) (L : List Chunk) (q : Option Addr) (n : Nat) (vs : List (List Bool)) : Prop :=
  n = vs.length ∧ ∀ i (hi : i < vs.length), ∃ a q' c', q = some a ∧ (∀ w, Sat σ w L → w.cell? (a.add i) = some (.slice q' vs[i].length c')) ∧ LArg σ L q' vs[i].length vs[i]
end Go.Proofs.YtgbgadkldalkbaaGreatDoor


set_option linter.unusedVariables false
namespace Go.Proofs.YtgbgadkldalkbaaGreatDoor
open Go.Proofs
def BArg (σ : Out) (L : List Chunk) (q : Option Addr) (n : Nat) (vs : List UInt8) : Prop :=
  n = vs.length ∧ ∀ i (hi : i < vs.length), ∃ a, q = some a ∧ ∀ w, Sat σ w L → w.cell? (a.add i) = some (.int .u8 (vs[i].toNat : Int))
end Go.Proofs.YtgbgadkldalkbaaGreatDoor


set_option linter.unusedVariables false
namespace Go.Proofs.YtgbgadkldalkbaaGreatDoor
open Go.Proofs Go.IntWalk Go.RowKit
variable {σ : Out} {w : World} {L L' : List Chunk} {R : Ending → World → Prop}
def szL (ls : List (List UInt8)) : Nat := (ls.map fun l => l.length + 1).sum
theorem szL_snoc (ls : List (List UInt8)) (l : List UInt8) : szL (ls ++ [l]) = szL ls + (l.length + 1) := by simp [szL]
theorem codeOut_len (ls : List (List UInt8)) : (codeOut ls).length ≤ 8 * szL ls := by
  induction ls with
  | nil => simp [codeOut, szL]
  | cons l ls ih =>
    have h := escS_length (ps := htmlPs) (by decide) l
    have e : codeOut (l :: ls) = escS htmlPs l ++ [10] ++ codeOut ls := by simp [codeOut]
    rw [e]
    simp only [List.length_append, List.length_cons, List.length_nil, szL, List.map_cons, List.sum_cons] at ih ⊢
    omega
theorem szL_take (ls : List (List UInt8)) (k : Nat) : szL (ls.take k) ≤ szL ls := by
  conv => rhs; rw [← List.take_append_drop k ls]
  simp only [szL, List.map_append, List.sum_append]; omega
theorem joinL_sz (ls : List (List UInt8)) : (joinL [10] ls).length ≤ szL ls := by
  cases ls with
  | nil => simp [joinL]
  | cons l ls =>
    have : ∀ ls : List (List UInt8), (ls.flatMap fun u => [10] ++ u).length ≤ szL ls := by
      intro ls
      induction ls with
      | nil => simp
      | cons l ls ih =>
        rw [List.flatMap_cons]
        simp only [List.length_append, List.length_cons, List.length_nil, szL, List.map_cons, List.sum_cons] at ih ⊢
        omega
    have := this ls
    rw [joinL]
    simp only [List.length_append, szL, List.map_cons, List.sum_cons] at this ⊢
    omega
def wB (b : IBlk) : Nat := 40 + 8 * szL b.2
theorem indF_len (b : IBlk) (l : List UInt8) : l.length < (indF b l).length ∧ (indF b l).length ≤ l.length + wB b := by
  obtain ⟨k, ls⟩ := b
  cases k with
  | true =>
    have h1 := nlB_le l
    have h2 := codeOut_len (noEnd ls)
    have h3 : szL (noEnd ls) ≤ szL ls := by rw [(noEnd_pre ls).1]; exact szL_take _ _
    have e1 : preO.length = 10 := rfl
    have e2 : preC.length = 14 := rfl
    have e3 : clsT [] = [] := rfl
    simp only [indF, codeF, e3, List.length_append, e1, e2, List.length_cons, List.length_nil, wB]
    omega
  | false =>
    have h1 := joinL_sz ls
    have e1 : pOpen.length = 3 := rfl
    have e2 : pClose.length = 5 := rfl
    simp only [indF, ab, List.length_append, e1, e2, wB]
    omega
theorem compL_len : ∀ (B : List IBlk) (l : List UInt8), l.length + B.length ≤ (compL (B.map indF) l).length ∧ (compL (B.map indF) l).length ≤ l.length + (B.map wB).sum
  | [], l => by simp [compL]
  | b :: B, l => by
    have h1 := indF_len b l
    have h2 := compL_len B (indF b l)
    simp only [List.map_cons, compL, List.sum_cons, List.length_cons]
    omega
def rowOK (r : RowT) : Prop := ∀ c n, r = some (c, n) → c ≤ 7 ∧ n ≤ 10
def stM (s : List IBlk × Option IBlk) : Nat := ((indEnd s).map wB).sum
theorem stM_step (s : List IBlk × Option IBlk) (r : RowT) (h : rowOK r) : stM (indStep s r) ≤ stM s + 160 := by
  obtain ⟨B, cur⟩ := s
  match cur, r, h with
  | none, none, _ => simp [indStep]
  | none, some (c, n), h =>
    obtain ⟨h1, h2⟩ := h c n rfl
    by_cases hc : 4 ≤ c
    · simp [indStep, hc, stM, indEnd, wB, szL, wdP, wdA]; omega
    · simp [indStep, hc, stM, indEnd, wB, szL, wdP, wdA]; omega
  | some (true, ls), none, _ => simp [indStep, stM, indEnd, wB, szL_snoc]; omega
  | some (true, ls), some (c, n), h =>
    obtain ⟨h1, h2⟩ := h c n rfl
    by_cases hc : 4 ≤ c
    · simp [indStep, hc, stM, indEnd, wB, szL_snoc, wdP, wdA]; omega
    · simp [indStep, hc, stM, indEnd, wB, szL, wdP, wdA]; omega
  | some (false, ls), none, _ => simp [indStep, stM, indEnd]
  | some (false, ls), some (c, n), h =>
    obtain ⟨h1, h2⟩ := h c n rfl
    simp [indStep, stM, indEnd, wB, szL_snoc, wdA]; omega
theorem stM_fold : ∀ (rows : List RowT) (s : List IBlk × Option IBlk), (∀ r ∈ rows, rowOK r) → stM (rows.foldl indStep s) ≤ stM s + 160 * rows.length
  | [], s, _ => by simp
  | r :: rows, s, h => by
    have h1 := stM_step s r (h r (by simp))
    have h2 := stM_fold rows (indStep s r) fun x hx => h x (List.mem_cons_of_mem _ hx)
    rw [List.foldl_cons, List.length_cons]
    omega
theorem RowsI.ok {ls : List (List UInt8)} {rs : List RowT} (h : RowsI ls rs) : ∀ r ∈ rs, rowOK r := by
  induction h with
  | nil => simp
  | cons h1 _ ih =>
    intro r hr
    rcases List.mem_cons.1 hr with rfl | hr
    · intro c n he
      cases h1 with
      | blank => cases he
      | word hI n1 n2 => simp only [Option.some.injEq, Prod.mk.injEq] at he; obtain ⟨rfl, rfl⟩ := he; exact ⟨hI.facts.2.2, n2⟩
    · exact ih r hr
theorem indOut_len {ls : List (List UInt8)} {rs : List RowT} (h : RowsI ls rs) (hl : ls.length ≤ 50) : (indOut rs).length ≤ 549755813888 := by
  have h1 := (compL_len (indEnd (rs.foldl indStep ([], none))) []).2
  have h2 := stM_fold rs ([], none) h.ok
  have h3 := h.len
  have h4 : stM ([], none) = 0 := rfl
  have h5 : stM (rs.foldl indStep ([], none)) = ((indEnd (rs.foldl indStep ([], none))).map wB).sum := rfl
  unfold indOut
  simp only [List.length_nil] at h1
  omega
theorem indEnd_ne (s : List IBlk × Option IBlk) (r : RowT) (h : indEnd s ≠ [] ∨ r ≠ none) : indEnd (indStep s r) ≠ [] := by
  obtain ⟨B, cur⟩ := s
  match cur, r, h with
  | none, none, h => simpa [indStep] using h
  | none, some (c, n), _ => by_cases hc : 4 ≤ c <;> simp [indStep, hc, indEnd]
  | some (true, ls), none, _ => simp [indStep, indEnd]
  | some (true, ls), some (c, n), _ => by_cases hc : 4 ≤ c <;> simp [indStep, hc, indEnd]
  | some (false, ls), none, _ => simp [indStep, indEnd]
  | some (false, ls), some (c, n), _ => simp [indStep, indEnd]
theorem fold_ne : ∀ (rows : List RowT) (s : List IBlk × Option IBlk), (indEnd s ≠ [] ∨ ∃ r ∈ rows, r ≠ none) → indEnd (rows.foldl indStep s) ≠ []
  | [], s, h => by rcases h with h | ⟨r, hr, _⟩; exact h; cases hr
  | r :: rows, s, h => by
    rw [List.foldl_cons]
    refine fold_ne rows _ ?_
    rcases h with h | ⟨x, hx, hn⟩
    · exact .inl (indEnd_ne s r (.inl h))
    · rcases List.mem_cons.1 hx with rfl | hx
      · exact .inl (indEnd_ne s _ (.inr hn))
      · exact .inr ⟨x, hx, hn⟩
theorem indOut_nil {rows : List RowT} (h : indOut rows = []) : ∀ r ∈ rows, r = none := by
  intro r hr
  by_cases hn : r = none
  · exact hn
  · exfalso
    have h1 := fold_ne rows ([], none) (.inr ⟨r, hr, hn⟩)
    have h2 := (compL_len (indEnd (rows.foldl indStep ([], none))) []).1
    have h3 := List.length_pos_iff.2 h1
    unfold indOut at h
    rw [h] at h2
    simp only [List.length_nil] at h2; omega
theorem blank_text : ∀ {ls : List (List UInt8)} {rs : List RowT}, RowsI ls rs → (∀ r ∈ rs, r = none) → indT ls = List.replicate ls.length 10
  | _, _, .nil, _ => rfl
  | _, _, .cons (l := l) (r := r) (ls := ls) h1 h2, h => by
    have e := h r (by simp)
    cases h1 with
    | blank =>
      have := blank_text h2 fun r hr => h r (List.mem_cons_of_mem _ hr)
      show [] ++ [10] ++ indT ls = _
      rw [this, List.length_cons, List.replicate_succ]; rfl
    | word _ _ _ => cases e
def colS (c : Nat) (t : Bool) : Nat := if t then c + (4 - c % 4) else c + 1
def colB (x : List Bool) : Nat := x.foldl colS 0
def whB (x : List Bool) : List UInt8 := x.map fun t => if t then 9 else 32
theorem colB_snoc (x : List Bool) (t : Bool) : colB (x ++ [t]) = colS (colB x) t := by simp [colB]
theorem whB_snoc (x : List Bool) (t : Bool) : whB (x ++ [t]) = whB x ++ [if t then 9 else 32] := by simp [whB]
theorem colS_le (c : Nat) (t : Bool) : c < colS c t ∧ colS c t ≤ c + 4 := by unfold colS; split <;> omega
theorem ind_snoc {s : List UInt8} {c : Nat} {t : Bool} (h : IndW s c ∨ 8 ≤ c) : IndW (s ++ [if t then 9 else 32]) (colS c t) ∨ 8 ≤ colS c t := by
  rcases h with h | h
  · by_cases h8 : 8 ≤ colS c t
    · exact .inr h8
    · left
      cases t with
      | true =>
        have e : colS c true = c + (4 - c % 4) := rfl
        rw [e] at h8
        have hc : c ≤ 3 := by omega
        rcases h with ⟨rfl, _⟩ | ⟨k, j, rfl, hk, hj, rfl⟩
        · exact .inr ⟨c, 0, rfl, hc, by decide, by rw [e]; omega⟩
        · omega
      | false =>
        have e : colS c false = c + 1 := rfl
        rw [e] at h8 ⊢
        rcases h with ⟨rfl, _⟩ | ⟨k, j, rfl, hk, hj, rfl⟩
        · exact .inl ⟨by rw [List.replicate_succ']; rfl, by omega⟩
        · exact .inr ⟨k, j + 1, by rw [List.replicate_succ']; simp, hk, by omega, by omega⟩
  · right; have := colS_le c t; omega
theorem indT_snoc (ls : List (List UInt8)) (l : List UInt8) : indT (ls ++ [l]) = indT ls ++ (l ++ [10]) := by simp [indT]
theorem fits4_ok {q : Option Addr} {n c : Nat} {vs : List (List Bool)} (hA : LLArg σ L q n vs) (h : Sat σ w L) (hR : ∀ k, R (.returned (.bool k)) w) : callE P i_laws_zzFits4 #[.slice q n c] R w := by
  have hnl := hA.1
  refine g_laws_zzFits4.sound ?_
  refine br_split (fun _ => hR false) fun hn => ?_
  simp only [decide_eq_false_iff_not] at hn
  intro X hX
  have key : ∀ k i : Nat, i + k = n → X q n c (n : Int) (i : Int) w := by
    intro k
    induction k with
    | zero =>
      intro i hi
      exact hX _ _ _ _ _ _ (br_false (by simp; omega) (hR true))
    | succ k ih =>
      intro i hi
      have hil : i < vs.length := by omega
      obtain ⟨a, q', c', rfl, hc, _⟩ := hA.2 i hil
      refine hX _ _ _ _ _ _ (br_true (by simp; omega) ⟨by omega, by omega, nilP_some ?_⟩)
      simp only [Int.toNat_natCast, Nat.mul_one]
      refine ⟨_, _, _, hc w h, br_split (fun _ => hR false) fun _ => ?_⟩
      rw [i64_inc (by omega)]
      exact ih (i + 1) (by omega)
  exact key n 0 (by omega)
theorem fnIndentColumns_ok {q0 q1 : Option Addr} {n0 c0 n1 c1 : Nat} {vs : List (List Bool)} {ws : List UInt8} (hA : LLArg σ L q0 n0 vs) (hB : BArg σ L q1 n1 ws) (h : Sat σ w L) (hR : ∀ w, Sat σ w L → R (.returned (.bool true)) w) :
    callE P i_laws_FnIndentColumns #[.slice q0 n0 c0, .slice q1 n1 c1] R w := by
  have hnl := hA.1
  have hml := hB.1
  have hmax : IntKind.i64.max = 9223372036854775807 := rfl
  have mk10 : ByteArray.mk #[10] = bs [10] := rfl
  have mk9 : ByteArray.mk #[9] = bs [9] := rfl
  have mk32 : ByteArray.mk #[32] = bs [32] := rfl
  refine g_laws_FnIndentColumns.sound ?_
  refine fits4_ok hA h fun k => ⟨_, rfl, br_split (fun _ => hR w h) fun _ => ?_⟩
  unfold g_laws_FnIndentColumns.k1
  refine br_split (fun _ => hR w h) fun hsz => ?_
  simp only [Bool.or_eq_false_iff, decide_eq_false_iff_not, bne_eq_false_iff_eq] at hsz
  unfold g_laws_FnIndentColumns.k2
  intro X hX
  have key : ∀ k i w (lI lO : List (List UInt8)) (rs : List RowT), i + k = n0 → lI.length = i → RowsI lI rs → RowsI lO rs → Sat σ w L → X q1 n1 c1 (bs (indT lI)) (bs (indT lO)) q0 n0 c0 (n0 : Int) (i : Int) w := by
    intro k
    induction k with
    | zero =>
      intro i w lI lO rs hi hlI hI hO h
      have hlO : lO.length = lI.length := hO.len.trans hI.len.symm
      refine hX _ _ _ _ _ _ _ _ _ _ _ (br_false (by simp; omega) ?_)
      show callE P i_impl_HTML #[optV optOff, .string (bs (indT lI))] _ w
      refine html_okL (html_ind hI (by omega)) (by simp) (indOut_len hI (by omega)) h fun w h => ⟨_, rfl, ?_⟩
      have second : ∀ w, Sat σ w L → callE P i_impl_HTML #[optV optOff, .string (bs (indT lO))] (fun e w8 => ∃ (r7 : BA), e = .returned (.string r7) ∧ R (.returned (.bool ((bs (indOut rs)).toList == r7.toList))) w8) w := by
        intro w h
        refine html_okL (html_ind hO (by omega)) (by simp) (indOut_len hO (by omega)) h fun w h => ⟨_, rfl, ?_⟩
        rw [beq_self_eq_true]
        exact hR w h
      by_cases hz : indOut rs = []
      · refine br_false (by rw [hz, bs_toList, mk_toList]; rfl) ?_
        have hbt := blank_text hO (indOut_nil hz)
        refine only_ok (s := indT lO) (set := [10]) (n := 5000) (by rw [hbt]; simp; omega) ⟨_, rfl, br_true ?_ (second w h)⟩
        unfold onlyM
        rw [hbt]
        simp; omega
      · exact br_true (by rw [bs_toList, mk_toList]; simpa using hz) (second w h)
    | succ k ih =>
      intro i w lI lO rs hi hlI hI hO h
      have hlO : lO.length = lI.length := hO.len.trans hI.len.symm
      have fI := (indT_facts hI).2
      have fO := (indT_facts hO).2
      have hil : i < vs.length := by omega
      have hiw : i < ws.length := by omega
      obtain ⟨a0, q', c', hq0, hc, hLA⟩ := hA.2 i hil
      obtain ⟨a1, hq1, hbc⟩ := hB.2 i hiw
      generalize vs[i] = x at hc hLA
      generalize ws[i] = m at hbc
      have hm := m.toNat_lt
      refine hX _ _ _ _ _ _ _ _ _ _ _ (br_true (by simp; omega) ⟨by omega, by omega, ?_⟩)
      rw [hq0]
      refine nilP_some ?_
      simp only [Int.toNat_natCast, Nat.mul_one]
      refine ⟨_, _, _, hc w h, br_split (fun _ => hR w h) fun h6 => ?_⟩
      simp only [decide_eq_false_iff_not] at h6
      intro Y hY
      have k3 : ∀ (u wd : List UInt8) (col : Nat) (r : RowT) w, col ≤ 7 → wd.length ≤ 12 → u.length ≤ (indT lI).length + 7 → u ++ (wd ++ [10]) = indT (lI ++ [u.drop (indT lI).length ++ wd]) → RowI (u.drop (indT lI).length ++ wd) r → RowI (List.replicate col 32 ++ wd) r → Sat σ w L →
          g_laws_FnIndentColumns.k3 R X q1 n1 c1 (bs u) (bs (indT lO)) (col : Nat) (bs wd ++ bs [10]) (some a0) n0 c0 (n0 : Int) (i : Int) w := by
        intro u wd col r w hcol hwd hu he h1 h2 h
        unfold g_laws_FnIndentColumns.k3
        rw [bs_append]
        refine ⟨by rw [hmax, bs_size, bs_size]; simp; omega, ?_⟩
        rw [mk32]
        refine times_ok (s := [32]) (n := col) (by omega) (by decide) ⟨_, rfl, ?_⟩
        rw [List.flatten_replicate_singleton, bs_append, bs_append, bs_append, he]
        refine ⟨by rw [hmax, bs_size, bs_size]; simp; omega, by rw [hmax, bs_size, bs_size]; simp; omega, ?_⟩
        rw [i64_inc (by omega), ← hq0]
        have e2 : indT lO ++ (List.replicate col 32 ++ (wd ++ [10])) = indT (lO ++ [List.replicate col 32 ++ wd]) := by rw [indT_snoc]; simp
        rw [e2]
        exact ih (i + 1) w _ _ (rs ++ [r]) (by omega) (by simp [hlI]) (hI.snoc h1) (hO.snoc h2) h
      have inner : ∀ k j w, j + k = x.length → (IndW (whB (x.take j)) (colB (x.take j)) ∨ 8 ≤ colB (x.take j)) → colB (x.take j) ≤ 4 * j → Sat σ w L →
          Y q1 n1 c1 (bs (indT lI ++ whB (x.take j))) (bs (indT lO)) (i : Int) q' x.length c' ((colB (x.take j) : Nat) : Int) (some a0) n0 c0 (n0 : Int) (i : Int) q' x.length c' (x.length : Int) (j : Int) w := by
        intro k
        induction k with
        | zero =>
          intro j w hj hc hb h
          refine hY _ _ _ _ _ _ _ _ _ _ _ _ _ _ _ _ _ _ _ _ _ (br_false (by simp; omega) ?_)
          rw [List.take_of_length_le (by omega)] at hc hb ⊢
          refine br_split (fun _ => hR w h) fun h7 => ?_
          simp only [decide_eq_false_iff_not] at h7
          have hIW : IndW (whB x) (colB x) := hc.resolve_right (by omega)
          have hwl : (whB x).length = x.length := by simp [whB]
          refine ⟨by omega, by omega, ?_⟩
          rw [hq1]
          refine nilP_some ?_
          simp only [Int.toNat_natCast, Nat.mul_one]
          refine ⟨_, hbc w h, by decide, ?_⟩
          have e1 : IntKind.i64.wrap (1 + Int.tmod (IntKind.i64.wrap ((m.toNat : Nat) : Int)) 10) = ((1 + m.toNat % 10 : Nat) : Int) := by
            rw [i64_in (m.toNat : Int) (by omega), show Int.tmod ((m.toNat : Nat) : Int) 10 = ((m.toNat % 10 : Nat) : Int) from rfl, i64_in _ (by omega)]; omega
          rw [e1, show ByteArray.mk #[97] = bs [97] from rfl]
          refine times_ok (s := [97]) (n := 1 + m.toNat % 10) (by omega) (by decide) ⟨_, rfl, ?_⟩
          rw [List.flatten_replicate_singleton, mk10]
          refine ⟨by rw [hmax, bs_size, bs_size]; simp; omega, by omega, by omega, nilP_some ⟨_, hbc w h, ?_⟩⟩
          rw [← hq1]
          refine br_split (fun _ => ?_) fun _ => ?_
          · have e3 : IntKind.i64.wrap (((bs (indT lI ++ whB x)).size : Int) - (x.length : Int)) = (((indT lI).length : Nat) : Int) := by
              rw [bs_size, List.length_append, hwl, i64_in _ (by omega)]; omega
            rw [e3]
            refine ⟨by omega, by rw [bs_size, List.length_append]; omega, ?_⟩
            have e4 : (bs (indT lI ++ whB x)).extract 0 (Int.toNat (((indT lI).length : Nat) : Int)) = bs (indT lI) := by
              rw [Int.toNat_natCast, bs_extract, List.take_left, List.drop_zero]
            rw [e4]
            have := k3 (indT lI) [] 0 none w (by decide) (by simp) (by omega) (by rw [List.drop_length, indT_snoc]; rfl) (by rw [List.drop_length]; exact .blank) .blank h
            exact this
          · refine k3 (indT lI ++ whB x) (wdA (1 + m.toNat % 10)) (colB x) (some (colB x, 1 + m.toNat % 10)) w (by omega) (by rw [wdA_len]; omega) (by rw [List.length_append]; omega) ?_ ?_ ?_ h
            · rw [List.drop_left, indT_snoc]; simp
            · rw [List.drop_left]; exact .word hIW (by omega) (by omega)
            · exact .word (.inl ⟨rfl, by omega⟩) (by omega) (by omega)
        | succ k ihk =>
          intro j w hj hc hb h
          have hjl : j < x.length := by omega
          obtain ⟨a2, hq2, hbl⟩ := hLA.2 j hjl
          refine hY _ _ _ _ _ _ _ _ _ _ _ _ _ _ _ _ _ _ _ _ _ (br_true (by simp; omega) ⟨by omega, by omega, ?_⟩)
          rw [hq2]
          refine nilP_some ?_
          simp only [Int.toNat_natCast, Nat.mul_one]
          refine ⟨_, hbl w h, ?_⟩
          rw [← hq2]
          have htk : x.take (j + 1) = x.take j ++ [x[j]] := List.take_succ_eq_append_getElem hjl
          have hcs := colS_le (colB (x.take j)) x[j]
          have hwl : (whB (x.take j)).length ≤ 6 := by simp [whB]; omega
          have next := ihk (j + 1) w (by omega)
          rw [htk, colB_snoc, whB_snoc] at next
          have next := next (ind_snoc hc) (by omega) h
          cases hx : x[j] with
          | true =>
            rw [hx] at next
            refine br_true rfl ⟨by rw [hmax, bs_size, mk9, bs_size]; simp; omega, by decide, ?_⟩
            have e5 : IntKind.i64.wrap (((colB (x.take j) : Nat) : Int) + IntKind.i64.wrap (4 - Int.tmod ((colB (x.take j) : Nat) : Int) 4)) = ((colS (colB (x.take j)) true : Nat) : Int) := by
              have hlt := Nat.mod_lt (colB (x.take j)) (show 0 < 4 by decide)
              rw [show Int.tmod ((colB (x.take j) : Nat) : Int) 4 = ((colB (x.take j) % 4 : Nat) : Int) from rfl, i64_in (4 - _) (by omega), i64_in _ (by omega)]
              show _ = ((colB (x.take j) + (4 - colB (x.take j) % 4) : Nat) : Int)
              omega
            rw [e5, i64_inc (by omega), mk9, bs_append, List.append_assoc]
            exact next
          | false =>
            rw [hx] at next
            refine br_false rfl ⟨by rw [hmax, bs_size, mk32, bs_size]; simp; omega, ?_⟩
            rw [i64_inc (by omega), i64_inc (by omega), mk32, bs_append, List.append_assoc]
            exact next
      have h0 := inner x.length 0 w (by omega) (.inl (.inl ⟨rfl, by show 0 ≤ 7; decide⟩)) (by show 0 ≤ 4 * 0; decide) h
      rw [List.take_zero, show whB [] = [] from rfl, List.append_nil, show colB [] = 0 from rfl] at h0
      exact h0
  exact key n0 0 w [] [] [] (by omega) rfl .nil .nil h
end Go.Proofs.YtgbgadkldalkbaaGreatDoor


set_option linter.unusedVariables false
set_option linter.constructorNameAsVariable false
namespace Go.Proofs.YtgbgadkldalkbaaGreatDoor
open Go.Proofs Go.ChangeShapes Go.WideShapes
theorem heap_of_sat {W W' : World} (h : Sat (outOf W) W' (allBlocks W)) {b : Nat} (hb : b < W.heap.size) : W'.heap[b]? = W.heap[b]? := by
  have hm : (b, W.heap[b]) ∈ allBlocks W := List.mem_map.2 ⟨(W.heap[b], b), List.mem_zipIdx_iff_getElem?.2 (by simp [hb]), rfl⟩
  rw [h.at_ _ hm, Array.getElem?_eq_getElem hb]
theorem same_of_sat {W W' : World} (h : Sat (outOf W) W' (allBlocks W)) {p : MemPlace} (hp : p.block < W.heap.size) : W.sameAt W' p := by
  cases p with
  | cell b o => exact World.cell?_of_block (w := W) (heap_of_sat h hp)
  | map b => exact heap_of_sat h hp
theorem cell_of_sat {W W' : World} (h : Sat (outOf W) W' (allBlocks W)) {a : Addr} {v : Value} (hc : W.cell? a = some v) : W'.cell? a = some v := by
  have hb : a.block < W.heap.size := by
    rcases Nat.lt_or_ge a.block W.heap.size with hlt | hge
    · exact hlt
    · have : W.heap[a.block]? = none := Array.getElem?_eq_none hge
      unfold World.cell? at hc
      rw [this] at hc; cases hc
  rw [← hc]
  unfold World.cell?
  rw [heap_of_sat h hb]
theorem u8_of {n : Int} (h : (Lit.int .u8 n).wf = true) : ∃ m : Nat, m < 256 ∧ n = (m : Int) := by
  have h1 : (decide (IntKind.u8.min ≤ n) && decide (n ≤ IntKind.u8.max)) = true := h
  simp only [Bool.and_eq_true, decide_eq_true_eq] at h1
  have a : IntKind.u8.min = 0 := rfl
  have b : IntKind.u8.max = 255 := rfl
  rw [a, b] at h1
  exact ⟨n.toNat, by omega, by omega⟩
end Go.Proofs.YtgbgadkldalkbaaGreatDoor


set_option linter.unusedVariables false
namespace Go.Proofs.YtgbgadkldalkbaaGreatDoor
open Go.Proofs Go.ChangeShapes Go.WideShapes Go.Deep
theorem open_llarg {P : Program} {H : Type} {enc : TypeId × Value → H} {W : World} {r : Reach} {b0 : Nat} {t e e2 : TypeId} {v : Value} {d : DataW H} {ps : List MemPlace} (ht : P.underlying t = some (.slice e)) (he : P.underlying e = some (.slice e2)) (he2 : P.underlying e2 = some .bool) (hc : P.cellsOf e = 1) (hc2 : P.cellsOf e2 = 1)
    (hval : Value.okWide P W r b0 t v) (h : DataW.Trod enc P W 0 (fun _ => true) true t v d ps) : ∃ q n c vs, v = .slice q n c ∧ LLArg (outOf W) (allBlocks W) q n vs := by
  obtain ⟨a0, len, cap, rfl⟩ := okWide_slice ht hval
  obtain ⟨fuel, hf⟩ := h
  rcases open_slice1 ht hc hf with ⟨hcs, hx⟩ | ⟨a, len', cap', m, n, V, D, Pl, hcs, _, hl, hm, hz, hx, hcell⟩
  · simp [Value.cells] at hcs
    obtain ⟨rfl, rfl, rfl⟩ := hcs
    exact ⟨none, 0, 0, [], rfl, ⟨rfl, fun i hi => by simp at hi⟩⟩
  · simp [Value.cells] at hcs
    obtain ⟨rfl, rfl, rfl⟩ := hcs
    simp only [if_true] at hz
    have hin : ∀ i, i < len → ∃ us : List Bool, ∃ q' c', V i = .slice q' us.length c' ∧ LArg (outOf W) (allBlocks W) q' us.length us := by
      intro i hi
      obtain ⟨h1, h2⟩ := hcell i (by omega)
      rcases open_slice1 he hc2 h2 with ⟨hcs, _⟩ | ⟨a2, len2, cap2, m2, n2, V2, D2, Pl2, hcs, _, hl2, hm2, hz2, hx2, hcell2⟩
      · exact ⟨[], none, 0, (List.cons.inj hcs).1, rfl, fun i hi => by simp at hi⟩
      · simp only [if_true] at hz2
        refine ⟨(List.range len2).map fun j => match V2 j with | .bool k => k | _ => false, some a2, cap2, by rw [List.length_map, List.length_range]; exact (List.cons.inj hcs).1, rfl, fun j hj => ?_⟩
        simp only [List.length_map, List.length_range] at hj
        refine ⟨a2, rfl, fun w hw => ?_⟩
        obtain ⟨h3, h4⟩ := hcell2 j (by omega)
        obtain ⟨k, h5, _⟩ := DataW.trod_bool he2 h4
        have h6 : V2 j = .bool k := (List.cons.inj h5).1
        rw [cell_of_sat hw h3, List.getElem_map, List.getElem_range, h6]
    obtain ⟨U, hU⟩ := choose_lt (α := List Bool) (p := fun i us => ∃ q' c', V i = .slice q' us.length c' ∧ LArg (outOf W) (allBlocks W) q' us.length us) hin
    refine ⟨some a, len, cap, (List.range len).map U, rfl, ⟨by simp, fun i hi => ?_⟩⟩
    simp only [List.length_map, List.length_range] at hi
    obtain ⟨q', c', h1, h2⟩ := hU i hi
    refine ⟨a, q', c', rfl, fun w hw => ?_, ?_⟩
    · rw [cell_of_sat hw (hcell i (by omega)).1, h1, List.getElem_map, List.getElem_range]
    · rw [List.getElem_map, List.getElem_range]; exact h2
end Go.Proofs.YtgbgadkldalkbaaGreatDoor


set_option linter.unusedVariables false
namespace Go.Proofs.YtgbgadkldalkbaaGreatDoor
open Go.Proofs Go.ChangeShapes Go.WideShapes Go.Deep
theorem open_barg {P : Program} {H : Type} {enc : TypeId × Value → H} {W : World} {r : Reach} {b0 : Nat} {t e : TypeId} {v : Value} {d : DataW H} {ps : List MemPlace} (ht : P.underlying t = some (.slice e)) (he : P.underlying e = some (.int .u8)) (hc : P.cellsOf e = 1)
    (hval : Value.okWide P W r b0 t v) (h : DataW.Trod enc P W 0 (fun _ => true) true t v d ps) : ∃ q n c vs, v = .slice q n c ∧ BArg (outOf W) (allBlocks W) q n vs := by
  obtain ⟨a0, len, cap, rfl⟩ := okWide_slice ht hval
  obtain ⟨fuel, hf⟩ := h
  rcases open_slice1 ht hc hf with ⟨hcs, hx⟩ | ⟨a, len', cap', m, n, V, D, Pl, hcs, _, hl, hm, hz, hx, hcell⟩
  · simp [Value.cells] at hcs
    obtain ⟨rfl, rfl, rfl⟩ := hcs
    exact ⟨none, 0, 0, [], rfl, ⟨rfl, fun i hi => by simp at hi⟩⟩
  · simp [Value.cells] at hcs
    obtain ⟨rfl, rfl, rfl⟩ := hcs
    simp only [if_true] at hz
    refine ⟨some a, len, cap, (List.range len).map fun i => match V i with | .int _ n => UInt8.ofNat n.toNat | _ => 0, rfl, ⟨by simp, fun i hi => ?_⟩⟩
    simp only [List.length_map, List.length_range] at hi
    refine ⟨a, rfl, fun w hw => ?_⟩
    obtain ⟨h1, h2⟩ := hcell i (by omega)
    obtain ⟨k, h3, _, h4⟩ := DataW.trod_int he h2
    have h5 : V i = .int .u8 k := (List.cons.inj h3).1
    obtain ⟨j, hj, rfl⟩ := u8_of h4
    rw [cell_of_sat hw h1, List.getElem_map, List.getElem_range, h5]
    simp
    omega
end Go.Proofs.YtgbgadkldalkbaaGreatDoor

