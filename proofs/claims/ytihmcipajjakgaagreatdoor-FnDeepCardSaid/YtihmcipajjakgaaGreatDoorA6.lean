/- Part 6 of the proof of the law FnDeep: for every input the law returns true, the inputs read as they did, and memory that was there is as it was; under the conditions of the given row alone. -/
import Derived.SliceStrings
import Derived.WideKeyArgs
import Derived.Below
import Derived.Deep.Slices
import Derived.ChangeArms
import Derived.Test.YtihmcipajjakgaaGreatDoorA5
set_option linter.all false
set_option linter.unusedVariables false
namespace Go.Proofs.YtihmcipajjakgaaGreatDoor
open Go.Proofs Go.IntWalk Go.RowKit
variable {σ : Out} {w : World} {L L' : List Chunk} {R : Ending → World → Prop}
theorem Sl.storeAt {q : Option Addr} {n c j : Nat} {e : TypeId} {vs : List Value} {RM : List Chunk} {v : Value} {K : World → Prop} (hS : Sl 1 e q n c vs RM) (h : Sat σ w (RM ++ L)) (hj : j < vs.length) (hv : OneCell v)
    (hK : ∀ w RM', Sl 1 e q n c (vs.set j v) RM' → Sat σ w (RM' ++ L) → K w) : nilP q fun a => stV w ((a.add j).add 0) v K := by
  obtain ⟨hl, hc, ⟨rfl, rfl, _, rfl⟩ | ⟨rb, sp, rfl, rfl, hsp⟩⟩ := hS
  · exact absurd hl (by omega)
  · refine nilP_some ?_
    simp only [Addr.add_lit, Nat.zero_add, Nat.add_zero]
    refine Sat.st h (k := 0) rfl (by rw [List.length_append]; omega) hv rfl fun w h => ?_
    refine hK w [(rb, cel (vs.set j v ++ sp) e)] ⟨by simpa using hl, hc, .inr ⟨rb, sp, rfl, rfl, by simpa using hsp⟩⟩ ?_
    have e1 : (vs ++ sp).set j v = vs.set j v ++ sp := List.set_append_left _ _ hj
    rw [← e1]
    exact h
def gapD (pos : DB → Nat × Nat) : List DB → Bool
  | d :: d2 :: ds => decide ((pos d).2 + 1 < (pos d2).1) || gapD pos (d2 :: ds)
  | _ => false
def gapI (pos : DB → Nat × Nat) : List IT → Bool
  | i :: i2 :: is => decide (i.e + 1 < i2.s) || (gapD pos i.D || gapI pos (i2 :: is))
  | [i] => gapD pos i.D
  | [] => false
def tightDB (d : DB) : DB := match d.v with
  | .iface ty _ => if ty = ty_P_Paragraph then match d.txs with | [x] => ⟨.iface ty_P_Text (.pointer (some ⟨x.t, 0, none⟩)), d.own, d.txs⟩ | _ => d else d
  | _ => d
theorem tightDB_para (nb t s e : Nat) (raw : List UInt8) : tightDB (paraDB nb t s e raw) = ⟨.iface ty_P_Text (.pointer (some ⟨t, 0, none⟩)), [paraC nb s e t], [⟨t, s, e, raw⟩]⟩ := by
  unfold tightDB paraDB
  simp
theorem tightDB_other {d : DB} {ty : TypeId} {q : Option Addr} (h : d.v = .iface ty (.pointer q)) (ht : ty ≠ ty_P_Paragraph) : tightDB d = d := by
  unfold tightDB
  rw [h]
  simp [ht]
def DB.kindOK (d : DB) : Prop := (∃ nb t s e raw, d = paraDB nb t s e raw) ∨ (∃ ty q, d.v = .iface ty (.pointer q) ∧ ty ≠ ty_P_Paragraph)
theorem tightDB_own {d : DB} (h : d.kindOK) : (tightDB d).own = d.own ∧ (tightDB d).txs = d.txs := by
  rcases h with ⟨nb, t, s, e, raw, rfl⟩ | ⟨ty, q, h, ht⟩
  · rw [tightDB_para]; exact ⟨rfl, rfl⟩
  · rw [tightDB_other h ht]; exact ⟨rfl, rfl⟩
theorem ownC_tight {D : List DB} (h : ∀ d ∈ D, d.kindOK) : ownC (D.map tightDB) = ownC D ∧ txsC (D.map tightDB) = txsC D := by
  induction D with
  | nil => exact ⟨rfl, rfl⟩
  | cons d D ih =>
    obtain ⟨a, b⟩ := tightDB_own (h d (by simp))
    obtain ⟨c, e⟩ := ih fun x hx => h x (List.mem_cons_of_mem _ hx)
    constructor
    · show (tightDB d).own ++ ownC (D.map tightDB) = d.own ++ ownC D
      rw [a, c]
    · show (tightDB d).txs ++ txsC (D.map tightDB) = d.txs ++ txsC D
      rw [b, e]
inductive Ret : List IT → List IT → Prop where
  | nil : Ret [] []
  | cons {i i' : IT} {is is' : List IT} : i' = { i with D := i.D.map tightDB, IM := i'.IM } → i'.ok → Ret is is' → Ret (i :: is) (i' :: is')
theorem Ret.snoc {is is' : List IT} {i i' : IT} (h : Ret is is') (h1 : i' = { i with D := i.D.map tightDB, IM := i'.IM }) (h2 : i'.ok) : Ret (is ++ [i]) (is' ++ [i']) := by
  induction h with
  | nil => exact .cons h1 h2 .nil
  | cons a b _ ih => exact .cons a b ih
theorem Ret.vs {is is' : List IT} (h : Ret is is') : is'.map IT.v = is.map IT.v := by
  induction h with
  | nil => rfl
  | cons a b _ ih => rw [List.map_cons, List.map_cons, ih, a]; rfl
theorem Ret.len {is is' : List IT} (h : Ret is is') : is'.length = is.length := by
  induction h with
  | nil => rfl
  | cons a b _ ih => simp [ih]
theorem und_PPar : P.underlying ty_P_Paragraph = some (.pointer ty_Paragraph) := by kernel_rfl
theorem ta_para_yes (q : Option Addr) (w : World) : (Instr.typeAssert (.iface ty_P_Paragraph (.pointer q)) ty_Block ty_P_Paragraph true).run P w = .ok (.tuple #[.pointer q, .bool true]) w :=
  ta_yes (by rw [und_PPar]; intro ms h; cases h) und_PPar w
theorem ta_para_no {ty : TypeId} {v : Value} (ht : ty ≠ ty_P_Paragraph) (w : World) : (Instr.typeAssert (.iface ty v) ty_Block ty_P_Paragraph true).run P w = .ok (.tuple #[.pointer none, .bool false]) w :=
  ta_no (by rw [und_PPar]; intro ms h; cases h) und_PPar ht (i := (P.info? ty_P_Paragraph).getD default) (by kernel_rfl) (by kernel_rfl) w
theorem meth_listBuild : methB P ty_P_listBuilder "pub-paratext/pub/rscmarkdown.build" i_listBuilder_build = true := by kernel_rfl
theorem meth_itemBuild : methB P ty_P_itemBuilder "pub-paratext/pub/rscmarkdown.build" i_itemBuilder_build = true := by kernel_rfl
theorem meth_quoteBuild : methB P ty_P_quoteBuilder "pub-paratext/pub/rscmarkdown.build" i_quoteBuilder_build = true := by kernel_rfl
theorem listBuild_ok {b lb : Nat} {bul num : Int} {td : Value} {p : PS} {ob : List OB} {o : OB} {M IM : List Chunk} {items : List IT} {pos : DB → Nat × Nat} {it : Option Addr}
    (h : Sat σ w (p.at b :: M ++ (lisC lb bul num false it td :: (IM ++ (ownC (items.map IT.db) ++ L))))) (hs : Stk p (ob ++ [o]) M) (hS : Sl 1 ty_Block o.q o.n o.c (items.map IT.v) IM) (hne : items ≠ []) (hn : items.length < 1000000) (hbs : o.s < 1000000000)
    (hok : ∀ i ∈ items, i.ok ∧ ∀ d ∈ i.D, d.kindOK ∧ d.posIs (pos d).1 (pos d).2 ∧ (pos d).1 < 1000000000 ∧ (pos d).2 < 1000000000)
    (hR : ∀ w nb e (items' : List IT), (gapI pos items = true ∧ items' = items ∨ gapI pos items = false ∧ Ret items items') → (∃ i ∈ items, e = i.e) →
      Sat σ w (p.at b :: M ++ (lstC nb o.s e bul num (gapI pos items) o.q o.n o.c :: (IM ++ (ownC (items'.map IT.db) ++ L)))) → R (.returned (.iface ty_P_List (.pointer (some ⟨nb, 0, none⟩)))) w) :
    callE P i_listBuilder_build #[.pointer (some ⟨lb, 0, none⟩), .iface ty_P_parseState (.pointer (some ⟨b, 0, none⟩))] R w := by
  have hnl : o.n = items.length := by have := hS.1; simp at this; omega
  have hpl : 0 < items.length := List.length_pos_iff.2 hne
  refine g_listBuilder_build.sound ?_
  refine enter_meth meth_blocks ?_
  refine blocks_ok h hs fun w h => ⟨_, _, _, rfl, ?_⟩
  refine enter_meth meth_pos ?_
  refine pos_ok h hs fun w h => ⟨_, _, rfl, ?_⟩
  refine Sat.bx h fun b5 w h => ?_
  refine Sat.st h (k := 0) rfl (Nat.le_of_ble_eq_true rfl) trivial (by first | (dsimp only [List.set]; exact rfl) | exact rfl) fun w h => ?_
  refine Sat.st h (k := 0) rfl (Nat.le_of_ble_eq_true rfl) trivial (by first | (dsimp only [List.set]; exact rfl) | exact rfl) fun w h => ?_
  have h : Sat σ w ((b5, cel [.int .i64 o.s, .int .i64 o.e] ty_Position) :: (p.at b :: M ++ (lisC lb bul num false it td :: (IM ++ (ownC (items.map IT.db) ++ L))))) := h
  rw [hnl] at hS ⊢
  have hw1 : IntKind.i64.wrap ((items.length : Int) - 1) = ((items.length - 1 : Nat) : Int) := by rw [i64_in _ (by omega)]; omega
  rw [hw1]
  refine ⟨by omega, by omega, ?_⟩
  generalize hla : items[items.length - 1]'(by omega) = la
  have hlam : la ∈ items := by rw [← hla]; exact List.getElem_mem _
  have hIM : ∀ {K : List Chunk} {x : Chunk}, x ∈ IM → x ∈ K ++ (lisC lb bul num false it td :: (IM ++ (ownC (items.map IT.db) ++ L))) := fun hx => by simp [hx]
  refine hS.loadMem h (fun x hx => .tail _ (hIM hx)) (j := items.length - 1) (v := la.v) (by rw [List.getElem?_map, List.getElem?_eq_getElem (by omega), hla]; rfl) fun qb hq hc => ?_
  simp only [Addr.add_lit, Int.toNat_natCast, Nat.mul_one, Nat.zero_add]
  refine ⟨_, hc, ?_⟩
  have hmo : ∀ {K : List Chunk} {i : IT}, i ∈ items → ∀ x ∈ i.db.own, x ∈ K ++ (lisC lb bul num false it td :: (IM ++ (ownC (items.map IT.db) ++ L))) := fun hi x hx => by
    have := IT.own_mem hi x hx
    simp [this]
  refine la.posIs σ _ _ w (fun x hx => .tail _ (hmo hlam x hx)) h fun w h => ⟨_, _, rfl, ?_⟩
  refine Sat.st h (k := 0) rfl (Nat.le_of_ble_eq_true rfl) trivial (by first | (dsimp only [List.set]; exact rfl) | exact rfl) fun w h => ?_
  have h : Sat σ w ((b5, cel [.int .i64 o.s, .int .i64 la.e] ty_Position) :: (p.at b :: M ++ (lisC lb bul num false it td :: (IM ++ (ownC (items.map IT.db) ++ L))))) := h
  have k3 : ∀ (lo : Bool) (items' : List IT) w, (∀ w nb, Sat σ w (p.at b :: M ++ (lstC nb o.s la.e bul num lo o.q items.length o.c :: (IM ++ (ownC (items'.map IT.db) ++ L)))) → R (.returned (.iface ty_P_List (.pointer (some ⟨nb, 0, none⟩)))) w) →
      Sat σ w ((b5, cel [.int .i64 o.s, .int .i64 la.e] ty_Position) :: lisC lb bul num lo it td :: (p.at b :: M ++ (IM ++ (ownC (items'.map IT.db) ++ L)))) → g_listBuilder_build.k3 R (some ⟨lb, 0, none⟩) (.iface ty_P_parseState (.pointer (some ⟨b, 0, none⟩))) b5 w := by
    intro lo items' w hR h
    refine Sat.tk h fun w h => nilP_some (nilP_some (nilP_some ?_))
    refine ⟨_, Sat.ld h (.head _) (i := 0) rfl, _, Sat.ld h (.head _) (i := 1) rfl, _, Sat.ld h (.tail _ (.head _)) (i := 0) rfl, _, Sat.ld h (.tail _ (.head _)) (i := 1) rfl, _, Sat.ld h (.tail _ (.head _)) (i := 2) rfl, ?_⟩
    have h0 := h
    have h : Sat σ w (p.at b :: M ++ ((b5, cel [.int .i64 o.s, .int .i64 la.e] ty_Position) :: lisC lb bul num lo it td :: (IM ++ (ownC (items'.map IT.db) ++ L)))) := h.re (by intro _; simp only [List.append_eq, cnt_append, cnt_cons, cnt_nil] <;> omega)
    have hm1 : lisC lb bul num lo it td ∈ p.at b :: M ++ ((b5, cel [.int .i64 o.s, .int .i64 la.e] ty_Position) :: lisC lb bul num lo it td :: (IM ++ (ownC (items'.map IT.db) ++ L))) := by simp
    have hm5 : (b5, cel [.int .i64 o.s, .int .i64 la.e] ty_Position) ∈ p.at b :: M ++ ((b5, cel [.int .i64 o.s, .int .i64 la.e] ty_Position) :: lisC lb bul num lo it td :: (IM ++ (ownC (items'.map IT.db) ++ L))) := by simp
    refine enter_meth meth_blocks ?_
    refine blocks_ok h hs fun w h => ⟨_, _, _, rfl, h0.same h (.tail _ (.head _)) hm1 1, h0.same h (.tail _ (.head _)) hm1 1, h0.same h (.tail _ (.head _)) hm1 1, h0.same h (.head _) hm5 2, ?_⟩
    refine Sat.bx h fun nb w h => ?_
    refine hR w nb ?_
    rw [hnl] at h
    have h : Sat σ w (lstC nb o.s la.e bul num lo o.q items.length o.c :: (p.at b :: M ++ ((b5, cel [.int .i64 o.s, .int .i64 la.e] ty_Position) :: lisC lb bul num lo it td :: (IM ++ (ownC (items'.map IT.db) ++ L))))) := h
    exact h.less [(b5, cel [.int .i64 o.s, .int .i64 la.e] ty_Position), lisC lb bul num lo it td] (by intro _; simp only [List.append_eq, cnt_append, cnt_cons, cnt_nil] <;> omega)
  have l2 : ∀ w, (∀ w nb (items' : List IT), Ret items items' → Sat σ w (p.at b :: M ++ (lstC nb o.s la.e bul num false o.q items.length o.c :: (IM ++ (ownC (items'.map IT.db) ++ L)))) → R (.returned (.iface ty_P_List (.pointer (some ⟨nb, 0, none⟩)))) w) →
      Sat σ w ((b5, cel [.int .i64 o.s, .int .i64 la.e] ty_Position) :: lisC lb bul num false it td :: (p.at b :: M ++ (IM ++ (ownC (items.map IT.db) ++ L)))) →
      g_listBuilder_build.l2 R (some ⟨lb, 0, none⟩) (.iface ty_P_parseState (.pointer (some ⟨b, 0, none⟩))) b5 o.q items.length o.c (items.length : Int) 0 w := by
    intro w hR h X hX
    have key : ∀ (suf pre pre' : List IT) w, pre ++ suf = items → Ret pre pre' → Sat σ w ((b5, cel [.int .i64 o.s, .int .i64 la.e] ty_Position) :: lisC lb bul num false it td :: (p.at b :: M ++ (IM ++ (ownC ((pre' ++ suf).map IT.db) ++ L)))) →
        X (some ⟨lb, 0, none⟩) (.iface ty_P_parseState (.pointer (some ⟨b, 0, none⟩))) b5 o.q items.length o.c (items.length : Int) (pre.length : Int) w := by
      intro suf
      induction suf with
      | nil =>
        intro pre pre' w he hret h
        rw [List.append_nil] at he h
        exact hX _ _ _ _ _ _ _ _ _ (br_false (by rw [he]; simp) (k3 false pre' w (fun w nb h => hR w nb pre' (he ▸ hret) h) h))
      | cons i suf ih =>
        intro pre pre' w he hret h
        have hlt : pre.length < items.length := by rw [← he]; simp
        have him : i ∈ items := by rw [← he]; simp
        obtain ⟨hio, hid⟩ := hok i him
        have hgi : items[pre.length] = i := by simp [← he]
        refine hX _ _ _ _ _ _ _ _ _ (br_true (by simp; omega) ⟨by omega, by omega, ?_⟩)
        refine hS.loadMem h (fun x hx => by simp [hx]) (j := pre.length) (v := i.v) (by rw [List.getElem?_map, List.getElem?_eq_getElem hlt, hgi]; rfl) fun qb hq hc => ?_
        simp only [Addr.add_lit, Int.toNat_natCast, Nat.mul_one, Nat.zero_add]
        refine ⟨_, hc, some ⟨i.nb, 0, none⟩, w, ta_item _ w, nilP_some ?_⟩
        have eown : ownC ((pre' ++ i :: suf).map IT.db) = ownC (pre'.map IT.db) ++ (i.chunk :: (i.IM ++ ownC i.D) ++ ownC (suf.map IT.db)) := by
          simp [ownC, IT.db]
        rw [eown] at h
        have h : Sat σ w (i.IM ++ (i.chunk :: ((b5, cel [.int .i64 o.s, .int .i64 la.e] ty_Position) :: lisC lb bul num false it td :: (p.at b :: M ++ (IM ++ (ownC (pre'.map IT.db) ++ (ownC i.D ++ (ownC (suf.map IT.db) ++ L)))))))) := h.re (by intro _; simp only [List.append_eq, cnt_append, cnt_cons, cnt_nil] <;> omega)
        have hmc : ∀ {K : List Chunk}, i.chunk ∈ K ++ (i.chunk :: ((b5, cel [.int .i64 o.s, .int .i64 la.e] ty_Position) :: lisC lb bul num false it td :: (p.at b :: M ++ (IM ++ (ownC (pre'.map IT.db) ++ (ownC i.D ++ (ownC (suf.map IT.db) ++ L))))))) := by intro K; simp
        refine ⟨_, _, _, Sat.ld h hmc (i := 2) rfl, ?_⟩
        have hin := IT.n_eq hio
        have hilen := hio.len
        rw [hin]
        intro Y hY
        have inner : ∀ (dsuf dpre : List DB) RM w, dpre ++ dsuf = i.D → Sl 1 ty_Block i.q i.D.length i.c ((dpre.map tightDB ++ dsuf).map DB.v) RM →
            Sat σ w (RM ++ (i.chunk :: ((b5, cel [.int .i64 o.s, .int .i64 la.e] ty_Position) :: lisC lb bul num false it td :: (p.at b :: M ++ (IM ++ (ownC (pre'.map IT.db) ++ (ownC i.D ++ (ownC (suf.map IT.db) ++ L)))))))) →
            Y (some ⟨lb, 0, none⟩) (.iface ty_P_parseState (.pointer (some ⟨b, 0, none⟩))) b5 (some ⟨i.nb, 0, none⟩) o.q items.length o.c (items.length : Int) (pre.length : Int) i.q i.D.length i.c (i.D.length : Int) (dpre.length : Int) w := by
          intro dsuf
          induction dsuf with
          | nil =>
            intro dpre RM w he2 hSl h
            rw [List.append_nil] at he2 hSl
            rw [he2] at hSl
            refine hY _ _ _ _ _ _ _ _ _ _ _ _ _ _ _ (br_false (by rw [he2]; simp) ?_)
            rw [i64_inc (by omega)]
            have := ih (pre ++ [i]) (pre' ++ [{ i with D := i.D.map tightDB, IM := RM }]) w (by rw [← he]; simp) (hret.snoc rfl ⟨by simpa [hin] using hSl, by simpa using hio.len, hio.se⟩) ?_
            · rw [List.length_append, List.length_singleton] at this; exact this
            · have e2 := (ownC_tight (D := i.D) fun d hd => (hid d hd).1).1
              have e1 : ownC (((pre' ++ [{ i with D := i.D.map tightDB, IM := RM }]) ++ suf).map IT.db) = ownC (pre'.map IT.db) ++ (i.chunk :: (RM ++ ownC i.D) ++ ownC (suf.map IT.db)) := by
                rw [← e2]
                simp [ownC, IT.db, IT.chunk]
              rw [e1]
              exact h.re (by intro _; simp only [List.append_eq, cnt_append, cnt_cons, cnt_nil] <;> omega)
          | cons d dsuf ihd =>
            intro dpre RM w he2 hSl h
            have hdl : dpre.length < i.D.length := by rw [← he2]; simp
            have hdm : d ∈ i.D := by rw [← he2]; simp
            obtain ⟨hk, _, _⟩ := hid d hdm
            refine hY _ _ _ _ _ _ _ _ _ _ _ _ _ _ _ (br_true (by simp; omega) ⟨by omega, by omega, ?_⟩)
            have hget : ((dpre.map tightDB ++ d :: dsuf).map DB.v)[dpre.length]? = some d.v := by
              rw [List.getElem?_map, List.getElem?_append_right (by simp)]; simp
            refine hSl.loadAt h hget fun qb hq hc => ?_
            simp only [Addr.add_lit, Int.toNat_natCast, Nat.mul_one, Nat.zero_add]
            refine ⟨_, hc, ?_⟩
            have hset : ∀ v : Value, v = (tightDB d).v → ((dpre.map tightDB ++ d :: dsuf).map DB.v).set dpre.length v = ((dpre ++ [d]).map tightDB ++ dsuf).map DB.v := by
              rintro v rfl
              simp
            rcases hk with ⟨nb, t, s, e, raw, rfl⟩ | ⟨ty, dq, hv, hty⟩
            · refine ⟨some ⟨nb, 0, none⟩, true, w, ta_para_yes _ w, br_true rfl ?_⟩
              refine Sat.tk h fun w h => nilP_some (nilP_some ?_)
              have hmp : paraC nb s e t ∈ RM ++ (i.chunk :: ((b5, cel [.int .i64 o.s, .int .i64 la.e] ty_Position) :: lisC lb bul num false it td :: (p.at b :: M ++ (IM ++ (ownC (pre'.map IT.db) ++ (ownC i.D ++ (ownC (suf.map IT.db) ++ L))))))) := by
                have : paraC nb s e t ∈ ownC i.D := List.mem_flatMap.2 ⟨_, hdm, by simp [paraDB]⟩
                simp [this]
              refine ⟨_, _, _, Sat.ld h hmc (i := 2) rfl, _, Sat.ld h hmp (i := 2) rfl, by omega, by rw [hin]; omega, ?_⟩
              refine hSl.storeAt h (j := dpre.length) (v := .iface ty_P_Text (.pointer (some ⟨t, 0, none⟩))) (by simp) trivial fun w RM' hSl' h => ?_
              rw [hset _ (by rw [tightDB_para])] at hSl'
              rw [i64_inc (by omega)]
              have := ihd (dpre ++ [paraDB nb t s e raw]) RM' w (by rw [← he2]; simp) hSl' h
              rw [List.length_append, List.length_singleton] at this; exact this
            · rw [hv]
              refine ⟨none, false, w, ta_para_no hty w, br_false rfl ?_⟩
              rw [i64_inc (by omega)]
              have e3 : (dpre.map tightDB ++ d :: dsuf).map DB.v = ((dpre ++ [d]).map tightDB ++ dsuf).map DB.v := by simp [tightDB_other hv hty]
              rw [e3] at hSl
              have := ihd (dpre ++ [d]) RM w (by rw [← he2]; simp) hSl h
              rw [List.length_append, List.length_singleton] at this; exact this
        have hsl0 : Sl 1 ty_Block i.q i.D.length i.c (([].map tightDB ++ i.D).map DB.v) i.IM := by rw [← hin]; exact hio.sl
        exact inner i.D [] i.IM w rfl hsl0 h
    exact key items [] [] w rfl .nil h
  have k1 : ∀ w, Sat σ w ((b5, cel [.int .i64 o.s, .int .i64 la.e] ty_Position) :: lisC lb bul num (gapI pos items) it td :: (p.at b :: M ++ (IM ++ (ownC (items.map IT.db) ++ L)))) → g_listBuilder_build.k1 R (some ⟨lb, 0, none⟩) (.iface ty_P_parseState (.pointer (some ⟨b, 0, none⟩))) o.q items.length o.c b5 w := by
    intro w h
    refine nilP_some ⟨_, Sat.ld h (.tail _ (.head _)) (i := 2) rfl, ?_⟩
    rw [hnl] at hR
    cases hg : gapI pos items with
    | true =>
      rw [hg] at h hR
      exact br_false rfl (k3 true items w (fun w nb h => hR w nb la.e items (.inl ⟨rfl, rfl⟩) ⟨la, hlam, rfl⟩ h) h)
    | false =>
      rw [hg] at h hR
      exact br_true rfl (l2 w (fun w nb items' hr h => hR w nb la.e items' (.inr ⟨rfl, hr⟩) ⟨la, hlam, rfl⟩ h) h)
  intro X hX
  have kT : ∀ w, gapI pos items = true → Sat σ w ((b5, cel [.int .i64 o.s, .int .i64 la.e] ty_Position) :: (p.at b :: M ++ (lisC lb bul num false it td :: (IM ++ (ownC (items.map IT.db) ++ L))))) →
      nilP (some ⟨lb, 0, none⟩) fun a => stV w ((a.add 2).add 0) (.bool true) fun w => g_listBuilder_build.k1 R (some ⟨lb, 0, none⟩) (.iface ty_P_parseState (.pointer (some ⟨b, 0, none⟩))) o.q items.length o.c b5 w := by
    intro w hg h
    have h : Sat σ w (lisC lb bul num false it td :: (b5, cel [.int .i64 o.s, .int .i64 la.e] ty_Position) :: (p.at b :: M ++ (IM ++ (ownC (items.map IT.db) ++ L)))) := h.re (by intro _; simp only [List.append_eq, cnt_append, cnt_cons, cnt_nil] <;> omega)
    refine nilP_some ?_
    refine Sat.st h (k := 0) rfl (Nat.le_of_ble_eq_true rfl) trivial (by first | (dsimp only [List.set]; exact rfl) | exact rfl) fun w h => ?_
    refine k1 w ?_
    rw [hg]
    have h : Sat σ w (lisC lb bul num true it td :: (b5, cel [.int .i64 o.s, .int .i64 la.e] ty_Position) :: (p.at b :: M ++ (IM ++ (ownC (items.map IT.db) ++ L)))) := h
    exact h.re (by intro _; simp only [List.append_eq, cnt_append, cnt_cons, cnt_nil] <;> omega)
  have key : ∀ (suf pre : List IT) w, pre ++ suf = items → gapI pos items = gapI pos suf → Sat σ w ((b5, cel [.int .i64 o.s, .int .i64 la.e] ty_Position) :: (p.at b :: M ++ (lisC lb bul num false it td :: (IM ++ (ownC (items.map IT.db) ++ L))))) →
      X (some ⟨lb, 0, none⟩) (.iface ty_P_parseState (.pointer (some ⟨b, 0, none⟩))) o.q items.length o.c b5 o.q items.length o.c (items.length : Int) (pre.length : Int) w := by
    intro suf
    induction suf with
    | nil =>
      intro pre w he hg h
      rw [List.append_nil] at he
      subst he
      refine hX _ _ _ _ _ _ _ _ _ _ _ _ (br_false (by simp) (k1 w ?_))
      rw [hg]
      have h : Sat σ w ((b5, cel [.int .i64 o.s, .int .i64 la.e] ty_Position) :: (p.at b :: M ++ (lisC lb bul num (gapI pos []) it td :: (IM ++ (ownC (pre.map IT.db) ++ L))))) := h
      exact h.re (by intro _; simp only [List.append_eq, cnt_append, cnt_cons, cnt_nil] <;> omega)
    | cons i suf ih =>
      intro pre w he hg h
      have hlt : pre.length < items.length := by rw [← he]; simp
      have him : i ∈ items := by rw [← he]; simp
      obtain ⟨hio, hid⟩ := hok i him
      have hgi : items[pre.length] = i := by simp [← he]
      have hmoi : ∀ x ∈ i.db.own, x ∈ (b5, cel [.int .i64 o.s, .int .i64 la.e] ty_Position) :: (p.at b :: M ++ (lisC lb bul num false it td :: (IM ++ (ownC (items.map IT.db) ++ L)))) := fun x hx => .tail _ (hmo him x hx)
      refine hX _ _ _ _ _ _ _ _ _ _ _ _ (br_true (by simp; omega) ⟨by omega, by omega, ?_⟩)
      refine hS.loadMem h (fun x hx => .tail _ (hIM hx)) (j := pre.length) (v := i.v) (by rw [List.getElem?_map, List.getElem?_eq_getElem hlt, hgi]; rfl) fun qb hq hc => ?_
      simp only [Addr.add_lit, Int.toNat_natCast, Nat.mul_one, Nat.zero_add]
      refine ⟨_, hc, some ⟨i.nb, 0, none⟩, w, ta_item _ w, ?_⟩
      rw [i64_inc (by omega)]
      have inner : ∀ rest w, (gapI pos items = (gapD pos i.D || rest)) → (∀ w, gapI pos items = rest → Sat σ w ((b5, cel [.int .i64 o.s, .int .i64 la.e] ty_Position) :: (p.at b :: M ++ (lisC lb bul num false it td :: (IM ++ (ownC (items.map IT.db) ++ L))))) →
            X (some ⟨lb, 0, none⟩) (.iface ty_P_parseState (.pointer (some ⟨b, 0, none⟩))) o.q items.length o.c b5 o.q items.length o.c (items.length : Int) ((pre.length + 1 : Nat) : Int) w) →
          Sat σ w ((b5, cel [.int .i64 o.s, .int .i64 la.e] ty_Position) :: (p.at b :: M ++ (lisC lb bul num false it td :: (IM ++ (ownC (items.map IT.db) ++ L))))) →
          g_listBuilder_build.k2 R X (some ⟨lb, 0, none⟩) (.iface ty_P_parseState (.pointer (some ⟨b, 0, none⟩))) o.q items.length o.c b5 (some ⟨i.nb, 0, none⟩) o.q items.length o.c (items.length : Int) (pre.length : Int) w := by
        intro rest w hgr hnext h
        refine nilP_some ⟨_, _, _, Sat.ld h (hmoi _ (.head _)) (i := 2) rfl, ?_⟩
        have hin := IT.n_eq hio
        rw [hin]
        have hsl := hio.sl
        rw [hin] at hsl
        have hmI : ∀ x ∈ i.IM, x ∈ (b5, cel [.int .i64 o.s, .int .i64 la.e] ty_Position) :: (p.at b :: M ++ (lisC lb bul num false it td :: (IM ++ (ownC (items.map IT.db) ++ L)))) := fun x hx => hmoi x (.tail _ (List.mem_append_left _ hx))
        have hmD : ∀ d ∈ i.D, ∀ x ∈ d.own, x ∈ (b5, cel [.int .i64 o.s, .int .i64 la.e] ty_Position) :: (p.at b :: M ++ (lisC lb bul num false it td :: (IM ++ (ownC (items.map IT.db) ++ L)))) := fun d hd x hx => hmoi x (.tail _ (List.mem_append_right _ (List.mem_flatMap.2 ⟨d, hd, hx⟩)))
        intro Y hY
        have key2 : ∀ (dsuf dpre : List DB) w, dpre ++ dsuf = i.D → gapI pos items = (gapD pos dsuf || rest) → Sat σ w ((b5, cel [.int .i64 o.s, .int .i64 la.e] ty_Position) :: (p.at b :: M ++ (lisC lb bul num false it td :: (IM ++ (ownC (items.map IT.db) ++ L))))) →
            Y (some ⟨lb, 0, none⟩) (.iface ty_P_parseState (.pointer (some ⟨b, 0, none⟩))) o.q items.length o.c b5 (some ⟨i.nb, 0, none⟩) o.q items.length o.c (items.length : Int) (pre.length : Int) i.q i.D.length i.c (i.D.length : Int) (dpre.length : Int) w := by
          intro dsuf
          induction dsuf with
          | nil =>
            intro dpre w he2 hg2 h
            rw [List.append_nil] at he2
            refine hY _ _ _ _ _ _ _ _ _ _ _ _ _ _ _ _ _ _ (br_false (by rw [he2]; simp) ?_)
            rw [i64_inc (by omega)]
            exact hnext w (by rw [hg2]; rfl) h
          | cons d dsuf ihd =>
            intro dpre w he2 hg2 h
            have hdl : dpre.length < i.D.length := by rw [← he2]; simp
            have hdm : d ∈ i.D := by rw [← he2]; simp
            have hilen := hio.len
            obtain ⟨_, hp, hp1, hp2⟩ := hid d hdm
            refine hY _ _ _ _ _ _ _ _ _ _ _ _ _ _ _ _ _ _ (br_true (by simp; omega) ⟨by omega, by omega, ?_⟩)
            refine hsl.loadMem h hmI (j := dpre.length) (v := d.v) (by rw [← he2]; simp) fun qb2 hq2 hc2 => ?_
            simp only [Addr.add_lit, Int.toNat_natCast, Nat.mul_one, Nat.zero_add]
            refine ⟨_, hc2, ?_⟩
            refine hp σ _ _ w (hmD d hdm) h fun w h => ⟨_, _, rfl, nilP_some ?_⟩
            refine ⟨_, _, _, Sat.ld h (hmoi _ (.head _)) (i := 2) rfl, ?_⟩
            rw [hin, i64_inc (by omega)]
            cases dsuf with
            | nil =>
              refine br_false (by rw [← he2]; simp) ?_
              have := ihd (dpre ++ [d]) w (by rw [← he2]; simp) (by rw [hg2]; rfl) h
              rw [List.length_append, List.length_singleton] at this; exact this
            | cons d2 ds =>
              have hdl2 : dpre.length + 1 < i.D.length := by rw [← he2]; simp
              have hd2m : d2 ∈ i.D := by rw [← he2]; simp
              obtain ⟨_, hpp, hpp1, hpp2⟩ := hid d2 hd2m
              refine br_true (by simp; omega) (nilP_some ?_)
              refine ⟨_, _, _, Sat.ld h (hmoi _ (.head _)) (i := 2) rfl, by omega, by rw [hin]; omega, ?_⟩
              refine hsl.loadMem h hmI (j := dpre.length + 1) (v := d2.v) (by rw [← he2]; simp) fun qb3 hq3 hc3 => ?_
              simp only [Addr.add_lit, Int.toNat_natCast, Nat.mul_one, Nat.zero_add]
              refine ⟨_, hc3, ?_⟩
              refine hpp σ _ _ w (hmD d2 hd2m) h fun w h => ⟨_, _, rfl, ?_⟩
              rw [i64_in _ (by omega)]
              refine br_split (fun hgap => ?_) fun hgap => ?_
              · refine kT w ?_ h
                have : decide ((pos d).2 + 1 < (pos d2).1) = true := by simp at hgap ⊢; omega
                rw [hg2, gapD, this]; rfl
              · have := ihd (dpre ++ [d]) w (by rw [← he2]; simp) ?_ h
                · rw [List.length_append, List.length_singleton] at this; exact this
                · have : decide ((pos d).2 + 1 < (pos d2).1) = false := by simp at hgap ⊢; omega
                  rw [hg2, gapD, this]; rfl
        exact key2 i.D [] w rfl hgr h
      cases suf with
      | nil =>
        refine br_false (by rw [← he]; simp) ?_
        refine inner false w (by rw [hg]; simp [gapI]) (fun w hgf h => ?_) h
        have := ih (pre ++ [i]) w (by rw [← he]; simp) (by rw [hgf]; rfl) h
        rw [List.length_append, List.length_singleton] at this; exact this
      | cons i2 is =>
        have hlt2 : pre.length + 1 < items.length := by rw [← he]; simp
        have hgi2 : items[pre.length + 1] = i2 := by simp [← he]
        have hi2m : i2 ∈ items := by rw [← he]; simp
        obtain ⟨hio2, _⟩ := hok i2 hi2m
        have hse := hio.se
        have hse2 := hio2.se
        refine br_true (by simp; omega) ?_
        refine Sat.tk h fun w h => ⟨by omega, by omega, ?_⟩
        refine hS.loadMem h (fun x hx => .tail _ (hIM hx)) (j := pre.length + 1) (v := i2.v) (by rw [List.getElem?_map, List.getElem?_eq_getElem hlt2, hgi2]; rfl) fun qb3 hq3 hc3 => ?_
        simp only [Addr.add_lit, Int.toNat_natCast, Nat.mul_one, Nat.zero_add]
        refine nilP_some ⟨_, hc3, _, Sat.ld h (hmoi _ (.head _)) (i := 1) rfl, ?_⟩
        have h0 := h
        refine i2.posIs σ _ _ w (fun x hx => .tail _ (hmo hi2m x hx)) h fun w h => ⟨_, _, rfl, h0.same h (hmoi _ (.head _)) (hmoi _ (.head _)) 1, ?_⟩
        rw [i64_in _ (by omega)]
        have hgd : gapI pos (i :: i2 :: is) = (decide (i.e + 1 < i2.s) || (gapD pos i.D || gapI pos (i2 :: is))) := rfl
        refine br_split (fun hgap => ?_) fun hgap => ?_
        · refine kT w ?_ h
          have : decide (i.e + 1 < i2.s) = true := by simp at hgap ⊢; omega
          rw [hg, hgd, this]; rfl
        · have hno : decide (i.e + 1 < i2.s) = false := by simp at hgap ⊢; omega
          refine inner (gapI pos (i2 :: is)) w (by rw [hg, hgd, hno]; rfl) (fun w hgf h => ?_) h
          have := ih (pre ++ [i]) w (by rw [← he]; simp) hgf h
          rw [List.length_append, List.length_singleton] at this; exact this
  exact key items [] w rfl rfl h
end Go.Proofs.YtihmcipajjakgaaGreatDoor


set_option linter.unusedVariables false
namespace Go.Proofs.YtihmcipajjakgaaGreatDoor
open Go.Proofs Go.IntWalk Go.RowKit
variable {σ : Out} {w : World} {L L' : List Chunk} {R : Ending → World → Prop}
theorem Prints.perm {m : String} {v : Value} {T T' T1 T1' : List Chunk} {f : List UInt8 → List UInt8} (h : Prints m v T T' f) (e : ∀ a, cnt a T1 = cnt a T) (e' : ∀ a, cnt a T1' = cnt a T') : Prints m v T1 T1' f := by
  refine ⟨h.1, fun σ R b l M L w hB hS hb hR => ?_⟩
  refine h.2 σ R b l M L w hB (hS.re fun a => ?_) hb fun w M' hB hS => hR w M' hB (hS.re fun a => ?_)
  · have := e a; simp only [cnt_append]; omega
  · have := e' a; simp only [cnt_append]; omega
theorem docs_print2 {F : List UInt8 → List UInt8 → List UInt8} {D : List DB} {gs : List (List UInt8 → List UInt8)} (h : Show F D gs) : ∀ ts, Filled F (txsC D) ts →
    ∃ KM KM', PrintsL "PrintHTML" (D.map DB.v) KM KM' (compL gs) ∧ (∀ a, cnt a (ownC D ++ fills (txsC D) ts) = cnt a KM) ∧ (∀ a, cnt a (ownC D ++ fills' (txsC D) ts) = cnt a KM') := by
  induction h with
  | nil => intro ts ht; cases ht; exact ⟨[], [], .nil, fun a => rfl, fun a => rfl⟩
  | @cons d g D gs h1 h2 ih =>
    intro ts ht
    have e : txsC (d :: D) = d.txs ++ txsC D := by simp [txsC]
    rw [e] at ht ⊢
    obtain ⟨ts1, ts2, rfl, h3, h4⟩ := ht.split
    obtain ⟨KM, KM', h5, h6, h7⟩ := ih ts2 h4
    refine ⟨_, _, .cons (h1 ts1 h3) h5, fun a => ?_, fun a => ?_⟩
    · have := h6 a
      rw [fills_append h3, show ownC (d :: D) = d.own ++ ownC D by simp [ownC]]
      simp only [cnt_append] at this ⊢
      omega
    · have := h7 a
      rw [fills'_append h3, show ownC (d :: D) = d.own ++ ownC D by simp [ownC]]
      simp only [cnt_append] at this ⊢
      omega
def qutC (nb s e : Nat) (q : Option Addr) (n c : Nat) : Chunk := (nb, cel [.int .i64 s, .int .i64 e, .slice q n c] ty_Quote)
def quoDB (nb s e : Nat) (q : Option Addr) (n c : Nat) (IM : List Chunk) (D : List DB) : DB := ⟨.iface ty_P_Quote (.pointer (some ⟨nb, 0, none⟩)), qutC nb s e q n c :: (IM ++ ownC D), txsC D⟩
def bqO : List UInt8 := [60, 98, 108, 111, 99, 107, 113, 117, 111, 116, 101, 62, 10]
def bqC : List UInt8 := [60, 47, 98, 108, 111, 99, 107, 113, 117, 111, 116, 101, 62, 10]
theorem meth_Quote : methB P ty_P_Quote "PrintHTML" i_Quote_PrintHTML = true := by kernel_rfl
theorem meth_Item : methB P ty_P_Item "PrintHTML" i_Item_PrintHTML = true := by kernel_rfl
theorem meth_List : methB P ty_P_List "PrintHTML" i_List_PrintHTML = true := by kernel_rfl
theorem meth_Text : methB P ty_P_Text "PrintHTML" i_Text_PrintHTML = true := by kernel_rfl
theorem quote_prints {nb s e : Nat} {q : Option Addr} {n c : Nat} {vs : List Value} {RM KM KM' : List Chunk} {f : List UInt8 → List UInt8} (hS : Sl 1 ty_Block q n c vs RM) (hn : n < 4611686018427387904) (hP : PrintsL "PrintHTML" vs KM KM' f) :
    Prints "PrintHTML" (.iface ty_P_Quote (.pointer (some ⟨nb, 0, none⟩))) (qutC nb s e q n c :: (RM ++ KM)) (qutC nb s e q n c :: (RM ++ KM')) (fun l => f (l ++ bqO) ++ bqC) := by
  refine ⟨fun l => ?_, fun σ R b l M L w hB h hb hR => enter_meth meth_Quote ?_⟩
  · have := hP.mono (l ++ bqO)
    simp only [List.length_append] at *; omega
  refine g_Quote_PrintHTML.sound ?_
  have hm := hP.mono (l ++ bqO)
  have e1 : bqO.length = 13 := rfl
  have e2 : bqC.length = 14 := rfl
  simp only [List.length_append] at hb hm
  refine writeS_ok (s := bqO) hB h (by omega) fun w M hB h => ⟨_, _, rfl, nilP_some ?_⟩
  refine ⟨_, _, _, Sat.ld h (List.mem_append_right _ (.head _)) (i := 2) rfl, ?_⟩
  intro X hX
  have h : Sat σ w (M ++ (RM ++ (KM ++ (qutC nb s e q n c :: L)))) := h.re (by intro _; simp only [List.append_eq, cnt_append, cnt_cons, cnt_nil] <;> omega)
  refine printLoop (X := fun j w => X (some ⟨b, 0, none⟩) q n c (n : Int) j w) (END := fun w => callE P i_bytes_Buffer_WriteString #[.pointer (some ⟨b, 0, none⟩), .string (ByteArray.mk #[60, 47, 98, 108, 111, 99, 107, 113, 117, 111, 116, 101, 62, 10])] (fun e w10 => ∃ (r9_0 : Int), ∃ (r9_1 : Value), e = .returned (.tuple #[.int .i64 r9_0, r9_1]) ∧ R (.returned (.tuple #[])) w10) w) hS (fun j w hj => hX _ _ _ _ _ _ _ hj) hP hB h hn (by omega) fun w M' hB h => ?_
  refine writeS_ok (s := bqC) hB h (by omega) fun w M hB h => ⟨_, _, rfl, ?_⟩
  exact hR w M hB (h.re (by intro _; simp only [List.append_eq, cnt_append, cnt_cons, cnt_nil] <;> omega))
theorem quote_shows {F : List UInt8 → List UInt8 → List UInt8} {nb s e : Nat} {q : Option Addr} {n c : Nat} {IM : List Chunk} {D : List DB} {gs : List (List UInt8 → List UInt8)} (hS : Sl 1 ty_Block q n c (D.map DB.v) IM) (hn : n < 4611686018427387904) (hD : Show F D gs) :
    (quoDB nb s e q n c IM D).shows F (fun l => compL gs (l ++ bqO) ++ bqC) := by
  intro ts ht
  obtain ⟨KM, KM', hP, h1, h2⟩ := docs_print2 hD ts ht
  refine (quote_prints (nb := nb) (s := s) (e := e) hS hn hP).perm (fun a => ?_) fun a => ?_
  · have := h1 a
    show cnt a (qutC nb s e q n c :: (IM ++ ownC D) ++ fills (txsC D) ts) = _
    simp only [cnt_append, cnt_cons] at this ⊢; omega
  · have := h2 a
    show cnt a (qutC nb s e q n c :: (IM ++ ownC D) ++ fills' (txsC D) ts) = _
    simp only [cnt_append, cnt_cons] at this ⊢; omega
def isText : Value → Bool
  | .iface ty _ => Nat.beq ty ty_P_Text
  | _ => false
def nlT (v : Value) (l : List UInt8) : List UInt8 := if isText v then l ++ [10] else l
theorem nlT_le (v : Value) (l : List UInt8) : l.length ≤ (nlT v l).length := by unfold nlT; split <;> simp
inductive PrintsT : List Value → List Chunk → List Chunk → (List UInt8 → List UInt8) → Prop where
  | nil : PrintsT [] [] [] id
  | one {v : Value} {T T' : List Chunk} {f : List UInt8 → List UInt8} : (∃ ty q, v = .iface ty (.pointer q)) → Prints "PrintHTML" v T T' f → PrintsT [v] T T' f
  | cons {v v2 : Value} {vs : List Value} {T T' K K' : List Chunk} {f g : List UInt8 → List UInt8} : (∃ ty q, v = .iface ty (.pointer q)) → Prints "PrintHTML" v T T' f → PrintsT (v2 :: vs) K K' g → PrintsT (v :: v2 :: vs) (T ++ K) (T' ++ K') (fun l => g (nlT v (f l)))
theorem PrintsT.mono {vs : List Value} {K K' : List Chunk} {f : List UInt8 → List UInt8} (h : PrintsT vs K K' f) : ∀ l, l.length ≤ (f l).length := by
  induction h with
  | nil => exact fun l => Nat.le_refl _
  | one _ h1 => exact h1.1
  | cons _ h1 _ ih => exact fun l => Nat.le_trans (Nat.le_trans (h1.1 l) (nlT_le _ _)) (ih _)
def liO : List UInt8 := [60, 108, 105, 62]
def liC : List UInt8 := [60, 47, 108, 105, 62, 10]
def itemHd : List Value → List UInt8
  | [] => []
  | v :: _ => if isText v then [] else [10]
theorem itemHd_cons (v : Value) (vs : List Value) : itemHd (v :: vs) = if isText v then [] else [10] := rfl
theorem und_PText : P.underlying ty_P_Text = some (.pointer ty_Text) := by kernel_rfl
theorem ta_text {ty : TypeId} (q : Option Addr) (w : World) : ∃ r, (Instr.typeAssert (.iface ty (.pointer q)) ty_Block ty_P_Text true).run P w = .ok (.tuple #[.pointer r, .bool (isText (.iface ty (.pointer q)))]) w := by
  by_cases ht : ty = ty_P_Text
  · subst ht
    refine ⟨q, ?_⟩
    rw [show isText (.iface ty_P_Text (.pointer q)) = true by simp [isText]]
    exact ta_yes (by rw [und_PText]; intro ms h; cases h) und_PText w
  · refine ⟨none, ?_⟩
    have e : isText (.iface ty (.pointer q)) = false := by
      show Nat.beq ty ty_P_Text = false
      cases hb : Nat.beq ty ty_P_Text with
      | false => rfl
      | true => exact absurd (Nat.eq_of_beq_eq_true hb) ht
    rw [e]
    exact ta_no (by rw [und_PText]; intro ms h; cases h) und_PText ht (i := (P.info? ty_P_Text).getD default) (by kernel_rfl) (by kernel_rfl) w
theorem item_prints {i : IT} {vs : List Value} {KM KM' : List Chunk} {f : List UInt8 → List UInt8} (hS : Sl 1 ty_Block i.q i.n i.c vs i.IM) (hn : i.n < 1000000) (hP : PrintsT vs KM KM' f) :
    Prints "PrintHTML" i.v (i.chunk :: (i.IM ++ KM)) (i.chunk :: (i.IM ++ KM')) (fun l => f (l ++ liO ++ itemHd vs) ++ liC) := by
  refine ⟨fun l => ?_, fun σ R b l M L w hB h hb hR => enter_meth meth_Item ?_⟩
  · have := hP.mono (l ++ liO ++ itemHd vs)
    simp only [List.length_append] at *; omega
  refine g_Item_PrintHTML.sound ?_
  have hm := hP.mono (l ++ liO ++ itemHd vs)
  have e1 : liO.length = 4 := rfl
  have e2 : liC.length = 6 := rfl
  have hlen : vs.length = i.n := by have := hS.1; omega
  simp only [List.length_append] at hb hm
  refine writeS_ok (s := liO) hB h (by omega) fun w M hB h => ⟨_, _, rfl, nilP_some ?_⟩
  refine ⟨_, _, _, Sat.ld h (List.mem_append_right _ (.head _)) (i := 2) rfl, ?_⟩
  have k1 : ∀ w M, Buf b (l ++ liO ++ itemHd vs) M → Sat σ w (M ++ (i.chunk :: (i.IM ++ KM) ++ L)) → g_Item_PrintHTML.k1 R (some ⟨i.nb, 0, none⟩) (some ⟨b, 0, none⟩) w := by
    intro w M hB h
    refine nilP_some ⟨_, _, _, Sat.ld h (List.mem_append_right _ (.head _)) (i := 2) rfl, ?_⟩
    intro X hX
    have key : ∀ (vs2 : List Value) (KM KM' : List Chunk) (f : List UInt8 → List UInt8), PrintsT vs2 KM KM' f → ∀ (vs1 : List Value) (D : List Chunk) l2 M w, vs1 ++ vs2 = vs → Buf b l2 M → Sat σ w (M ++ (i.IM ++ (i.chunk :: (D ++ (KM ++ L))))) → (f l2).length + 6 ≤ 549755813888 →
        (∀ w M', Buf b (f l2 ++ liC) M' → Sat σ w (M' ++ (i.IM ++ (i.chunk :: (D ++ (KM' ++ L))))) → R (.returned (.tuple #[])) w) → X (some ⟨i.nb, 0, none⟩) (some ⟨b, 0, none⟩) i.q i.n i.c (i.n : Int) (vs1.length : Nat) w := by
      have hEnd : ∀ (vs1 : List Value) (D : List Chunk) l2 M w, vs1 = vs → Buf b l2 M → Sat σ w (M ++ (i.IM ++ (i.chunk :: (D ++ L)))) → l2.length + 6 ≤ 549755813888 → (∀ w M', Buf b (l2 ++ liC) M' → Sat σ w (M' ++ (i.IM ++ (i.chunk :: (D ++ L)))) → R (.returned (.tuple #[])) w) → X (some ⟨i.nb, 0, none⟩) (some ⟨b, 0, none⟩) i.q i.n i.c (i.n : Int) (vs1.length : Nat) w := by
        intro vs1 D l2 M w hv hB h hb hE
        refine hX _ _ _ _ _ _ _ _ (br_false (by rw [hv, hlen]; simp) ?_)
        exact writeS_ok (s := liC) hB h (by omega) fun w M hB h => ⟨_, _, rfl, hE w M hB h⟩
      have hStep : ∀ (v : Value) (rest vs1 : List Value) (D T T' K : List Chunk) (f : List UInt8 → List UInt8) l2 M w, (∃ ty q, v = .iface ty (.pointer q)) → Prints "PrintHTML" v T T' f → vs1 ++ v :: rest = vs → Buf b l2 M → Sat σ w (M ++ (i.IM ++ (i.chunk :: (D ++ (T ++ (K ++ L)))))) → (f l2).length + 1 ≤ 549755813888 →
          (∀ w M', Buf b (if rest = [] then f l2 else nlT v (f l2)) M' → Sat σ w (M' ++ (i.IM ++ (i.chunk :: ((D ++ T') ++ (K ++ L))))) → X (some ⟨i.nb, 0, none⟩) (some ⟨b, 0, none⟩) i.q i.n i.c (i.n : Int) ((vs1 ++ [v]).length : Nat) w) → X (some ⟨i.nb, 0, none⟩) (some ⟨b, 0, none⟩) i.q i.n i.c (i.n : Int) (vs1.length : Nat) w := by
        intro v rest vs1 D T T' K f l2 M w hif hp hv hB h hb hnext
        have hlt : vs1.length < i.n := by rw [← hlen, ← hv]; simp
        refine hX _ _ _ _ _ _ _ _ (br_true (by simp; omega) ⟨by omega, by omega, ?_⟩)
        refine hS.loadMem h (fun x hx => by simp [hx]) (j := vs1.length) (v := v) (by rw [← hv]; simp) fun qb hq hc => ?_
        simp only [Addr.add_lit, Int.toNat_natCast, Nat.mul_one, Nat.zero_add]
        refine ⟨_, hc, ?_⟩
        have h : Sat σ w (M ++ (T ++ (i.IM ++ (i.chunk :: (D ++ (K ++ L)))))) := h.re (by intro _; simp only [List.append_eq, cnt_append, cnt_cons, cnt_nil] <;> omega)
        refine hp.2 σ _ b l2 M _ w hB h (by omega) fun w M' hB h => ⟨rfl, nilP_some ?_⟩
        have h : Sat σ w (M' ++ (i.IM ++ (i.chunk :: ((D ++ T') ++ (K ++ L))))) := h.re (by intro _; simp only [List.append_eq, cnt_append, cnt_cons, cnt_nil] <;> omega)
        refine ⟨_, _, _, Sat.ld h (by simp : i.chunk ∈ _) (i := 2) rfl, ?_⟩
        rw [i64_inc (by omega)]
        have hl1 : ((vs1 ++ [v]).length : Nat) = vs1.length + 1 := by simp
        rw [hl1] at hnext
        cases rest with
        | nil =>
          refine br_false (by rw [← hlen, ← hv]; simp) (hnext w M' ?_ h)
          rw [if_pos rfl]; exact hB
        | cons v2 rest =>
          refine br_true (by rw [← hlen, ← hv]; simp; omega) ?_
          obtain ⟨ty, q, rfl⟩ := hif
          obtain ⟨r, hta⟩ := ta_text (ty := ty) q w
          refine ⟨r, _, w, hta, ?_⟩
          rw [if_neg (by simp)] at hnext
          cases ht : isText (.iface ty (.pointer q)) with
          | true =>
            refine br_true rfl ?_
            refine writeS_ok (s := [10]) hB h (by simp only [List.length_cons, List.length_nil]; omega) fun w M hB h => ⟨_, _, rfl, hnext w M ?_ h⟩
            unfold nlT; rw [ht]; exact hB
          | false =>
            refine br_false rfl (hnext w M' ?_ h)
            unfold nlT; rw [ht]; exact hB
      intro vs2 KM KM' f hP
      induction hP with
      | nil =>
        intro vs1 D l2 M w hv hB h hb hE
        exact hEnd vs1 D l2 M w (by simpa using hv) hB h hb hE
      | @one v T T' f hif hp =>
        intro vs1 D l2 M w hv hB h hb hE
        have h : Sat σ w (M ++ (i.IM ++ (i.chunk :: (D ++ (T ++ ([] ++ L)))))) := h
        refine hStep v [] vs1 D T T' [] f l2 M w hif hp hv hB h (by omega) fun w M' hB h => ?_
        rw [if_pos rfl] at hB
        have h : Sat σ w (M' ++ (i.IM ++ (i.chunk :: ((D ++ T') ++ L)))) := h
        exact hEnd (vs1 ++ [v]) (D ++ T') (f l2) M' w hv hB h hb (fun w M' hB h => hE w M' hB (h.re (by intro _; simp only [List.append_eq, cnt_append, cnt_cons, cnt_nil] <;> omega)))
      | @cons v v2 vs2 T T' K K' f g hif hp hP2 ih =>
        intro vs1 D l2 M w hv hB h hb hE
        have hb : (g (nlT v (f l2))).length + 6 ≤ 549755813888 := hb
        have hmo := hP2.mono (nlT v (f l2))
        have hmo2 := nlT_le v (f l2)
        have h : Sat σ w (M ++ (i.IM ++ (i.chunk :: (D ++ (T ++ (K ++ L)))))) := h.re (by intro _; simp only [List.append_eq, cnt_append, cnt_cons, cnt_nil] <;> omega)
        refine hStep v (v2 :: vs2) vs1 D T T' K f l2 M w hif hp hv hB h (by omega) fun w M' hB h => ?_
        rw [if_neg (by simp)] at hB
        exact ih (vs1 ++ [v]) (D ++ T') (nlT v (f l2)) M' w (by simpa using hv) hB h hb (fun w M' hB h => hE w M' hB (h.re (by intro _; simp only [List.append_eq, cnt_append, cnt_cons, cnt_nil] <;> omega)))
    have h : Sat σ w (M ++ (i.IM ++ (i.chunk :: ([] ++ (KM ++ L))))) := h.re (by intro _; simp only [List.append_eq, cnt_append, cnt_cons, cnt_nil] <;> omega)
    have := key vs KM KM' f hP [] [] (l ++ liO ++ itemHd vs) M w rfl hB h (by omega) fun w M' hB h => hR w M' hB (h.re (by intro _; simp only [List.append_eq, cnt_append, cnt_cons, cnt_nil] <;> omega))
    simpa using this
  cases vs with
  | nil =>
    refine br_false (by rw [← hlen]; rfl) (k1 w M ?_ h)
    show Buf b (l ++ liO ++ []) M
    rw [List.append_nil]; exact hB
  | cons v vs =>
    refine br_true (by rw [← hlen]; simp) (nilP_some ?_)
    refine ⟨_, _, _, Sat.ld h (List.mem_append_right _ (.head _)) (i := 2) rfl, by decide, by rw [← hlen]; simp, ?_⟩
    refine hS.loadMem h (fun x hx => by simp [hx]) (j := 0) (v := v) rfl fun qb hq hc => ?_
    simp only [Addr.add_lit, Int.toNat_natCast, Nat.mul_one, Nat.zero_add]
    refine ⟨_, hc, ?_⟩
    have hif : ∃ ty q, v = .iface ty (.pointer q) := by cases hP with | one hi' _ => exact hi' | cons hi' _ _ => exact hi'
    obtain ⟨ty, q, rfl⟩ := hif
    obtain ⟨r, hta⟩ := ta_text (ty := ty) q w
    refine ⟨r, _, w, hta, ?_⟩
    cases ht : isText (.iface ty (.pointer q)) with
    | true =>
      refine br_false rfl (k1 w M ?_ h)
      rw [itemHd_cons, ht]
      show Buf b (l ++ liO ++ []) M
      rw [List.append_nil]; exact hB
    | false =>
      refine br_true rfl ?_
      have hh : (itemHd (.iface ty (.pointer q) :: vs)).length = 1 := by rw [itemHd_cons, ht]; rfl
      refine writeS_ok (s := [10]) hB h (by simp only [List.length_append, List.length_cons, List.length_nil]; omega) fun w M hB h => ⟨_, _, rfl, k1 w M ?_ h⟩
      rw [itemHd_cons, ht]; exact hB
inductive ShowT (F : List UInt8 → List UInt8 → List UInt8) : List DB → (List UInt8 → List UInt8) → Prop where
  | nil : ShowT F [] id
  | one {d : DB} {f : List UInt8 → List UInt8} : d.ifc → d.shows F f → ShowT F [d] f
  | cons {d d2 : DB} {D : List DB} {f g : List UInt8 → List UInt8} : d.ifc → d.shows F f → ShowT F (d2 :: D) g → ShowT F (d :: d2 :: D) (fun l => g (nlT d.v (f l)))
theorem docs_printT {F : List UInt8 → List UInt8 → List UInt8} {D : List DB} {f : List UInt8 → List UInt8} (h : ShowT F D f) : ∀ ts, Filled F (txsC D) ts →
    ∃ KM KM', PrintsT (D.map DB.v) KM KM' f ∧ (∀ a, cnt a (ownC D ++ fills (txsC D) ts) = cnt a KM) ∧ (∀ a, cnt a (ownC D ++ fills' (txsC D) ts) = cnt a KM') := by
  induction h with
  | nil => intro ts ht; cases ht; exact ⟨[], [], .nil, fun a => rfl, fun a => rfl⟩
  | @one d f hif hs =>
    intro ts ht
    have e : txsC [d] = d.txs := by simp [txsC]
    rw [e] at ht ⊢
    exact ⟨_, _, .one hif (hs ts ht), fun a => by simp [ownC], fun a => by simp [ownC]⟩
  | @cons d d2 D f g hif hs h2 ih =>
    intro ts ht
    have e : txsC (d :: d2 :: D) = d.txs ++ txsC (d2 :: D) := by simp [txsC]
    rw [e] at ht ⊢
    obtain ⟨ts1, ts2, rfl, h3, h4⟩ := ht.split
    obtain ⟨KM, KM', h5, h6, h7⟩ := ih ts2 h4
    refine ⟨_, _, .cons hif (hs ts1 h3) h5, fun a => ?_, fun a => ?_⟩
    · have := h6 a
      rw [fills_append h3, show ownC (d :: d2 :: D) = d.own ++ ownC (d2 :: D) by simp [ownC]]
      simp only [cnt_append] at this ⊢
      omega
    · have := h7 a
      rw [fills'_append h3, show ownC (d :: d2 :: D) = d.own ++ ownC (d2 :: D) by simp [ownC]]
      simp only [cnt_append] at this ⊢
      omega
theorem item_shows {F : List UInt8 → List UInt8 → List UInt8} {i : IT} {f : List UInt8 → List UInt8} (hi : i.ok) (hD : ShowT F i.D f) : i.db.shows F (fun l => f (l ++ liO ++ itemHd (i.D.map DB.v)) ++ liC) := by
  intro ts ht
  obtain ⟨KM, KM', hP, h1, h2⟩ := docs_printT hD ts ht
  refine (item_prints hi.sl (by rw [IT.n_eq hi]; exact hi.len) hP).perm (fun a => ?_) fun a => ?_
  · have := h1 a
    show cnt a (i.chunk :: (i.IM ++ ownC i.D) ++ fills (txsC i.D) ts) = _
    simp only [cnt_append, cnt_cons] at this ⊢; omega
  · have := h2 a
    show cnt a (i.chunk :: (i.IM ++ ownC i.D) ++ fills' (txsC i.D) ts) = _
    simp only [cnt_append, cnt_cons] at this ⊢; omega
def lisDB (nb s e : Nat) (bul num : Int) (lo : Bool) (q : Option Addr) (n c : Nat) (IM : List Chunk) (items : List IT) : DB :=
  ⟨.iface ty_P_List (.pointer (some ⟨nb, 0, none⟩)), lstC nb s e bul num lo q n c :: (IM ++ ownC (items.map IT.db)), txsC (items.map IT.db)⟩
def ulO : List UInt8 := [60, 117, 108, 62, 10]
def ulC : List UInt8 := [60, 47, 117, 108, 62, 10]
theorem list_prints {nb s e : Nat} {bul num : Int} {lo : Bool} {q : Option Addr} {n c : Nat} {vs : List Value} {RM KM KM' : List Chunk} {f : List UInt8 → List UInt8} (hbul : bul ≠ 46 ∧ bul ≠ 41) (hS : Sl 1 ty_Block q n c vs RM) (hn : n < 4611686018427387904) (hP : PrintsL "PrintHTML" vs KM KM' f) :
    Prints "PrintHTML" (.iface ty_P_List (.pointer (some ⟨nb, 0, none⟩))) (lstC nb s e bul num lo q n c :: (RM ++ KM)) (lstC nb s e bul num lo q n c :: (RM ++ KM')) (fun l => f (l ++ ulO) ++ ulC) := by
  refine ⟨fun l => ?_, fun σ R b l M L w hB h hb hR => enter_meth meth_List ?_⟩
  · have := hP.mono (l ++ ulO)
    simp only [List.length_append] at *; omega
  refine g_List_PrintHTML.sound ?_
  have hm := hP.mono (l ++ ulO)
  have e1 : ulO.length = 5 := rfl
  have e2 : ulC.length = 6 := rfl
  have b1 : (bul == 46) = false := by simpa using hbul.1
  have b2 : (bul == 41) = false := by simpa using hbul.2
  simp only [List.length_append] at hb hm
  refine nilP_some ⟨_, Sat.ld h (List.mem_append_right _ (.head _)) (i := 2) rfl, br_false b1 (nilP_some ⟨_, Sat.ld h (List.mem_append_right _ (.head _)) (i := 2) rfl, ?_⟩)⟩
  rw [b2]
  refine br_false rfl ?_
  refine writeS_ok (s := ulO) hB h (by omega) fun w M hB h => ⟨_, _, rfl, nilP_some ?_⟩
  refine ⟨_, _, _, Sat.ld h (List.mem_append_right _ (.head _)) (i := 5) rfl, ?_⟩
  intro X hX
  have h : Sat σ w (M ++ (RM ++ (KM ++ (lstC nb s e bul num lo q n c :: L)))) := h.re (by intro _; simp only [List.append_eq, cnt_append, cnt_cons, cnt_nil] <;> omega)
  refine printLoop (X := fun j w => X (some ⟨nb, 0, none⟩) (some ⟨b, 0, none⟩) q n c (n : Int) j w) (END := fun w => nilP (some ⟨nb, 0, none⟩) fun a27 => ∃ (v28 : Int), w.cell? (a27.add 2) = some (.int .i32 v28) ∧
      br (v28 == 46) (g_List_PrintHTML.k3 R (some ⟨b, 0, none⟩) true w) (nilP (some ⟨nb, 0, none⟩) fun a29 => ∃ (v30 : Int), w.cell? (a29.add 2) = some (.int .i32 v30) ∧ g_List_PrintHTML.k3 R (some ⟨b, 0, none⟩) (v30 == 41) w)) hS (fun j w hj => hX _ _ _ _ _ _ _ _ hj) hP hB h hn (by omega) fun w M' hB h => ?_
  have hmem : lstC nb s e bul num lo q n c ∈ M' ++ (RM ++ (KM' ++ (lstC nb s e bul num lo q n c :: L))) := by simp
  refine nilP_some ⟨_, Sat.ld h hmem (i := 2) rfl, br_false b1 (nilP_some ⟨_, Sat.ld h hmem (i := 2) rfl, ?_⟩)⟩
  rw [b2]
  refine br_false rfl ?_
  refine writeS_ok (s := ulC) hB h (by omega) fun w M hB h => ⟨_, _, rfl, ?_⟩
  exact hR w M hB (h.re (by intro _; simp only [List.append_eq, cnt_append, cnt_cons, cnt_nil] <;> omega))
theorem list_shows {F : List UInt8 → List UInt8 → List UInt8} {nb s e : Nat} {bul num : Int} {lo : Bool} {q : Option Addr} {n c : Nat} {IM : List Chunk} {items : List IT} {gs : List (List UInt8 → List UInt8)} (hbul : bul ≠ 46 ∧ bul ≠ 41) (hS : Sl 1 ty_Block q n c (items.map IT.v) IM) (hn : n < 4611686018427387904) (hD : Show F (items.map IT.db) gs) :
    (lisDB nb s e bul num lo q n c IM items).shows F (fun l => compL gs (l ++ ulO) ++ ulC) := by
  intro ts ht
  obtain ⟨KM, KM', hP, h1, h2⟩ := docs_print2 hD ts ht
  have ev : (items.map IT.db).map DB.v = items.map IT.v := by simp [Function.comp_def, IT.db]
  rw [ev] at hP
  refine (list_prints (nb := nb) (s := s) (e := e) (num := num) (lo := lo) hbul hS hn hP).perm (fun a => ?_) fun a => ?_
  · have := h1 a
    show cnt a (lstC nb s e bul num lo q n c :: (IM ++ ownC (items.map IT.db)) ++ fills (txsC (items.map IT.db)) ts) = _
    simp only [cnt_append, cnt_cons] at this ⊢; omega
  · have := h2 a
    show cnt a (lstC nb s e bul num lo q n c :: (IM ++ ownC (items.map IT.db)) ++ fills' (txsC (items.map IT.db)) ts) = _
    simp only [cnt_append, cnt_cons] at this ⊢; omega
theorem text_shows {F : List UInt8 → List UInt8 → List UInt8} {nb t s e : Nat} {raw : List UInt8} : (tightDB (paraDB nb t s e raw)).shows F (F raw) := by
  rw [tightDB_para]
  intro ts ht
  cases ht with
  | @cons x t1 xs ts h1 h2 h3 =>
    cases h3
    rw [← h2]
    refine ⟨h1.2.2.mono, fun σ R b l M L w hB h hb hR => enter_meth meth_Text ?_⟩
    have h : Sat σ w (M ++ (textC t s e t1.q t1.n t1.c raw :: (t1.RM ++ (t1.KM ++ (paraC nb s e t :: L))))) := by
      simp only [fills, fill, List.append_nil] at h
      exact h.re (by intro _; simp only [List.append_eq, cnt_append, cnt_cons, cnt_nil] <;> omega)
    refine textPrint_ok h1.1 (by have := h1.2.1; omega) h1.2.2 hB h hb fun w M hB h => hR w M hB ?_
    simp only [fills', fill', List.append_nil]
    exact h.re (by intro _; simp only [List.append_eq, cnt_append, cnt_cons, cnt_nil] <;> omega)
end Go.Proofs.YtihmcipajjakgaaGreatDoor


set_option linter.unusedVariables false
namespace Go.Proofs.YtihmcipajjakgaaGreatDoor
open Go.Proofs Go.IntWalk Go.RowKit
variable {σ : Out} {w : World} {L L' : List Chunk} {R : Ending → World → Prop}
structure Bk where
  ob : OB
  own : List Chunk
  D : List DB
  IM : List Chunk
def Bk.ok (f : Bk) : Prop := Sl 1 ty_Block f.ob.q f.ob.n f.ob.c (f.D.map DB.v) f.IM ∧ f.D.length < 100000 ∧ f.ob.s < 1000000000 ∧ f.ob.e < 1000000000
def txc (D : List DB) : List Chunk := (txsC D).map TX.chunk
def Bk.mem (f : Bk) : List Chunk := f.IM ++ (f.own ++ (ownC f.D ++ txc f.D))
def memFs (fs : List Bk) : List Chunk := fs.flatMap Bk.mem
def txF (fs : List Bk) : List TX := fs.flatMap fun f => txsC f.D
theorem memFs_append (a b : List Bk) : memFs (a ++ b) = memFs a ++ memFs b := by simp [memFs]
theorem memFs_one (f : Bk) : memFs [f] = f.IM ++ (f.own ++ (ownC f.D ++ txc f.D)) := by simp [memFs, Bk.mem]
theorem memFs_two (f g : Bk) : memFs [f, g] = f.IM ++ (f.own ++ (ownC f.D ++ txc f.D)) ++ (g.IM ++ (g.own ++ (ownC g.D ++ txc g.D))) := by simp [memFs, Bk.mem]
theorem txF_append (a b : List Bk) : txF (a ++ b) = txF a ++ txF b := by simp [txF]
theorem txF_one (f : Bk) : txF [f] = txsC f.D := by simp [txF]
theorem txF_two (f g : Bk) : txF [f, g] = txsC f.D ++ txsC g.D := by simp [txF]
theorem txc_snoc (D : List DB) (d : DB) : txc (D ++ [d]) = txc D ++ d.txs.map TX.chunk := by simp [txc, txsC_snoc]
def DocC (σ : Out) (b : Nat) (L : List Chunk) (fs : List Bk) (lf : Leaf) (p : PS) (w : World) : Prop :=
  ∃ M TM lobs LM, Stk p (fs.map Bk.ob ++ lobs) M ∧ Txts p ((txF fs).map TX.t) TM ∧ (∀ f ∈ fs, f.ok) ∧ LeafAt lf lobs LM ∧ Sat σ w (p.at b :: M ++ (TM ++ (memFs fs ++ (LM ++ L))))
def Bk.like (f' f : Bk) : Prop := f'.ob.bd = f.ob.bd ∧ f'.ob.s = f.ob.s ∧ f'.ob.e = f.ob.e ∧ f'.own = f.own
theorem DocC.closed {b : Nat} {gs : List Bk} {par f : Bk} {p2 : PS} {M2 IM2 TM : List Chunk} {q' : Option Addr} {c' : Nat} {d : DB} {own' : List Chunk} (hok : ∀ g ∈ gs ++ [par, f], Bk.ok g) (hD : par.D.length < 99999)
    (hs2 : Stk p2 (gs.map Bk.ob ++ [{ par.ob with q := q', n := par.ob.n + 1, c := c' }]) M2) (hI2 : Sl 1 ty_Block q' (par.ob.n + 1) c' (par.D.map DB.v ++ [d.v]) IM2) (ht : Txts p2 ((txF (gs ++ [par, f])).map TX.t) TM) (htx : d.txs = txsC f.D)
    (h : Sat σ w (p2.at b :: M2 ++ (IM2 ++ (TM ++ (memFs gs ++ (own' ++ (ownC par.D ++ (txc par.D ++ (d.own ++ (txc f.D ++ L)))))))))) :
    DocC σ b L (gs ++ [⟨{ par.ob with q := q', n := par.ob.n + 1, c := c' }, own', par.D ++ [d], IM2⟩]) .none p2 w := by
  refine ⟨M2, TM, [], [], ?_, ?_, ?_, ⟨rfl, rfl⟩, ?_⟩
  · rw [List.map_append, List.append_nil]; exact hs2
  · have e : txF (gs ++ [⟨{ par.ob with q := q', n := par.ob.n + 1, c := c' }, own', par.D ++ [d], IM2⟩]) = txF (gs ++ [par, f]) := by
      rw [txF_append, txF_append, txF_one, txF_two, txsC_snoc, htx]
    rw [e]; exact ht
  · intro g hg
    rcases List.mem_append.1 hg with hg | hg
    · exact hok g (by simp [hg])
    · obtain rfl := List.mem_singleton.1 hg
      obtain ⟨_, h2, h3⟩ := hok par (by simp)
      exact ⟨by rw [List.map_append]; exact hI2, by simp; omega, h3⟩
  · rw [memFs_append, memFs_one, ownC_snoc, txc_snoc, htx]
    show Sat σ w (p2.at b :: M2 ++ (TM ++ (memFs gs ++ (IM2 ++ (own' ++ ((ownC par.D ++ d.own) ++ (txc par.D ++ txc f.D)))) ++ ([] ++ L))))
    exact h.re (by intro _; simp only [List.append_eq, cnt_append, cnt_cons, cnt_nil] <;> omega)
theorem quoteBuild_ok {b : Nat} {q1 : Option Addr} {p : PS} {ob : List OB} {o : OB} {M : List Chunk} (h : Sat σ w (p.at b :: M ++ L)) (hs : Stk p (ob ++ [o]) M)
    (hR : ∀ w nb, Sat σ w (p.at b :: M ++ (qutC nb o.s o.e o.q o.n o.c :: L)) → R (.returned (.iface ty_P_Quote (.pointer (some ⟨nb, 0, none⟩)))) w) :
    callE P i_quoteBuilder_build #[.pointer q1, .iface ty_P_parseState (.pointer (some ⟨b, 0, none⟩))] R w := by
  refine g_quoteBuilder_build.sound ?_
  refine enter_meth meth_pos ?_
  refine pos_ok h hs fun w h => ⟨_, _, rfl, ?_⟩
  refine enter_meth meth_blocks ?_
  refine blocks_ok h hs fun w h => ⟨_, _, _, rfl, ?_⟩
  refine Sat.bx h fun nb w h => hR w nb ?_
  have h : Sat σ w (qutC nb o.s o.e o.q o.n o.c :: (p.at b :: M ++ L)) := h
  exact h.re (by intro _; simp only [List.append_eq, cnt_append, cnt_cons, cnt_nil] <;> omega)
theorem itemBuild_ok {b ib lb wd : Nat} {hv : Bool} {bul num : Int} {lo : Bool} {it : Option Addr} {td : Value} {p : PS} {ob : List OB} {o : OB} {M : List Chunk} (h : Sat σ w (p.at b :: M ++ (iteC ib lb wd hv :: lisC lb bul num lo it td :: L))) (hs : Stk p (ob ++ [o]) M)
    (hR : ∀ w nb, Sat σ w (p.at b :: M ++ ((nb, cel [.int .i64 o.s, .int .i64 o.e, .slice o.q o.n o.c, .int .i64 wd] ty_Item) :: lisC lb bul num lo none td :: L)) → R (.returned (.iface ty_P_Item (.pointer (some ⟨nb, 0, none⟩)))) w) :
    callE P i_itemBuilder_build #[.pointer (some ⟨ib, 0, none⟩), .iface ty_P_parseState (.pointer (some ⟨b, 0, none⟩))] R w := by
  refine g_itemBuilder_build.sound ?_
  have h : Sat σ w (lisC lb bul num lo it td :: iteC ib lb wd hv :: (p.at b :: M ++ L)) := h.re (by intro _; simp only [List.append_eq, cnt_append, cnt_cons, cnt_nil] <;> omega)
  refine nilP_some ⟨_, Sat.ld h (.tail _ (.head _)) (i := 0) rfl, nilP_some ?_⟩
  refine Sat.st h (k := 0) rfl (Nat.le_of_ble_eq_true rfl) trivial (by first | (dsimp only [List.set]; exact rfl) | exact rfl) fun w h => ?_
  have h : Sat σ w (lisC lb bul num lo none td :: iteC ib lb wd hv :: (p.at b :: M ++ L)) := h
  refine Sat.tk h fun w h => nilP_some ⟨_, Sat.ld h (.tail _ (.head _)) (i := 1) rfl, ?_⟩
  have h0 := h
  have h : Sat σ w (p.at b :: M ++ (lisC lb bul num lo none td :: iteC ib lb wd hv :: L)) := h.re (by intro _; simp only [List.append_eq, cnt_append, cnt_cons, cnt_nil] <;> omega)
  have hm : iteC ib lb wd hv ∈ p.at b :: M ++ (lisC lb bul num lo none td :: iteC ib lb wd hv :: L) := by simp
  refine enter_meth meth_pos ?_
  refine pos_ok h hs fun w h => ⟨_, _, rfl, h0.same h (.tail _ (.head _)) hm 1, ?_⟩
  have h1 := h
  refine enter_meth meth_blocks ?_
  refine blocks_ok h hs fun w h => ⟨_, _, _, rfl, h1.same h hm hm 1, ?_⟩
  refine Sat.bx h fun nb w h => hR w nb ?_
  have h : Sat σ w ((nb, cel [.int .i64 o.s, .int .i64 o.e, .slice o.q o.n o.c, .int .i64 wd] ty_Item) :: (p.at b :: M ++ (lisC lb bul num lo none td :: iteC ib lb wd hv :: L))) := h
  exact h.less [iteC ib lb wd hv] (by intro _; simp only [List.append_eq, cnt_append, cnt_cons, cnt_nil] <;> omega)
def Bk.isQuote (f : Bk) : Prop := ∃ qb, f.ob.bd = quoV qb ∧ f.own = [quoC qb]
def Bk.isItem (f : Bk) (lb wd : Nat) (hv : Bool) : Prop := ∃ ib, f.ob.bd = iteV ib ∧ f.own = [iteC ib lb wd hv]
def Bk.isListT (f : Bk) (lb : Nat) (bul num : Int) (it : Option Addr) (td : Value) : Prop := f.ob.bd = lisV lb ∧ f.own = [lisC lb bul num false it td]
abbrev Bk.isList (f : Bk) (lb : Nat) (bul num : Int) (it : Option Addr) : Prop := f.isListT lb bul num it .nilFunc
theorem closeQuoteC {b : Nat} {gs : List Bk} {par f : Bk} {p : PS} (h : DocC σ b L (gs ++ [par, f]) .none p w) (hf : f.isQuote) (hD : par.D.length < 99999)
    (hR : ∀ w par' nb x, par'.like par → par'.D = par.D ++ [quoDB nb f.ob.s f.ob.e f.ob.q f.ob.n f.ob.c f.IM f.D] → DocC σ b L (gs ++ [par']) .none { p with stn := gs.length + 1 } w → R (.returned x) w) :
    callE P i_parseState_closeBlock #[.pointer (some ⟨b, 0, none⟩)] R w := by
  obtain ⟨M, TM, lobs, LM, hs, ht, hok, ⟨rfl, rfl⟩, h⟩ := h
  obtain ⟨qb, hbd, hown⟩ := hf
  have hs : Stk p (gs.map Bk.ob ++ [par.ob] ++ [f.ob]) M := by simpa using hs
  have hpok := (hok par (by simp)).1
  have hpn : par.ob.n = par.D.length := by have := hpok.1; simp at this; omega
  rw [memFs_append, memFs_two, hown] at h
  refine closeB_build h hs hbd fun w h => ?_
  rw [hbd]
  refine enter_meth meth_quoteBuild ?_
  refine quoteBuild_ok h hs fun w nb h => ⟨_, rfl, none, false, w, ta_list_no (by decide) w, br_false rfl ?_⟩
  have h : Sat σ w (p.at b :: M ++ (par.IM ++ (TM ++ (memFs gs ++ (par.own ++ (ownC par.D ++ (txc par.D ++ ((qutC nb f.ob.s f.ob.e f.ob.q f.ob.n f.ob.c :: (f.IM ++ ownC f.D)) ++ (txc f.D ++ (quoC qb :: L)))))))))) := h.re (by intro _; simp only [List.append_eq, cnt_append, cnt_cons, cnt_nil] <;> omega)
  refine closeB_k3 h hs hpok (by omega) fun w p2 M2 IM2 q' c' hp2 hs2 hI2 h => ?_
  have e : p2 = { p with stn := gs.length + 1 } := by rw [hp2, List.length_map]
  rw [e] at hs2 h
  refine hR w ⟨{ par.ob with q := q', n := par.ob.n + 1, c := c' }, par.own, par.D ++ [quoDB nb f.ob.s f.ob.e f.ob.q f.ob.n f.ob.c f.IM f.D], IM2⟩ nb _ ⟨rfl, rfl, rfl, rfl⟩ rfl (DocC.closed (par := par) (f := f) (d := quoDB nb f.ob.s f.ob.e f.ob.q f.ob.n f.ob.c f.IM f.D) hok hD hs2 hI2 (ht.of rfl rfl rfl) rfl ?_)
  exact h.less [quoC qb] (by intro _; simp only [quoDB, List.append_eq, cnt_append, cnt_cons, cnt_nil] <;> omega)
theorem closeItemC {b lb wd : Nat} {hv : Bool} {bul num : Int} {it : Option Addr} {td : Value} {gs : List Bk} {par f : Bk} {p : PS} (h : DocC σ b L (gs ++ [par, f]) .none p w) (hf : f.isItem lb wd hv) (hp : par.isListT lb bul num it td) (hD : par.D.length < 99999)
    (hR : ∀ w par' nb x, par'.isListT lb bul num none td → par'.ob.s = par.ob.s → par'.ob.e = par.ob.e → par'.D = par.D ++ [(IT.mk nb f.ob.s f.ob.e f.ob.q f.ob.n f.ob.c wd f.IM f.D).db] → (IT.mk nb f.ob.s f.ob.e f.ob.q f.ob.n f.ob.c wd f.IM f.D).ok → DocC σ b L (gs ++ [par']) .none { p with stn := gs.length + 1 } w → R (.returned x) w) :
    callE P i_parseState_closeBlock #[.pointer (some ⟨b, 0, none⟩)] R w := by
  obtain ⟨M, TM, lobs, LM, hs, ht, hok, ⟨rfl, rfl⟩, h⟩ := h
  obtain ⟨ib, hbd, hown⟩ := hf
  obtain ⟨pbd, pown⟩ := hp
  have hs : Stk p (gs.map Bk.ob ++ [par.ob] ++ [f.ob]) M := by simpa using hs
  have hpok := (hok par (by simp)).1
  obtain ⟨hfo1, hfo2, hfo3⟩ := hok f (by simp)
  have hpn : par.ob.n = par.D.length := by have := hpok.1; simp at this; omega
  rw [memFs_append, memFs_two, hown, pown] at h
  refine closeB_build h hs hbd fun w h => ?_
  rw [hbd]
  have h : Sat σ w (p.at b :: M ++ (iteC ib lb wd hv :: lisC lb bul num false it td :: (par.IM ++ (TM ++ (memFs gs ++ (ownC par.D ++ (txc par.D ++ (f.IM ++ (ownC f.D ++ (txc f.D ++ L)))))))))) := h.re (by intro _; simp only [List.append_eq, cnt_append, cnt_cons, cnt_nil] <;> omega)
  refine enter_meth meth_itemBuild ?_
  refine itemBuild_ok h hs fun w nb h => ⟨_, rfl, none, false, w, ta_list_no (by decide) w, br_false rfl ?_⟩
  have h : Sat σ w (p.at b :: M ++ (par.IM ++ (TM ++ (memFs gs ++ ([lisC lb bul num false none td] ++ (ownC par.D ++ (txc par.D ++ (((IT.mk nb f.ob.s f.ob.e f.ob.q f.ob.n f.ob.c wd f.IM f.D).chunk :: (f.IM ++ ownC f.D)) ++ (txc f.D ++ L))))))))) := by
    have h : Sat σ w (p.at b :: M ++ ((IT.mk nb f.ob.s f.ob.e f.ob.q f.ob.n f.ob.c wd f.IM f.D).chunk :: lisC lb bul num false none td :: (par.IM ++ (TM ++ (memFs gs ++ (ownC par.D ++ (txc par.D ++ (f.IM ++ (ownC f.D ++ (txc f.D ++ L)))))))))) := h
    exact h.re (by intro _; simp only [List.append_eq, cnt_append, cnt_cons, cnt_nil] <;> omega)
  refine closeB_k3 h hs hpok (by omega) fun w p2 M2 IM2 q' c' hp2 hs2 hI2 h => ?_
  have e : p2 = { p with stn := gs.length + 1 } := by rw [hp2, List.length_map]
  rw [e] at hs2 h
  refine hR w ⟨{ par.ob with q := q', n := par.ob.n + 1, c := c' }, [lisC lb bul num false none td], par.D ++ [(IT.mk nb f.ob.s f.ob.e f.ob.q f.ob.n f.ob.c wd f.IM f.D).db], IM2⟩ nb _ ⟨pbd, rfl⟩ rfl rfl rfl ⟨hfo1, by show f.D.length < 1000000; omega, hfo3⟩ (DocC.closed (par := par) (f := f) (d := (IT.mk nb f.ob.s f.ob.e f.ob.q f.ob.n f.ob.c wd f.IM f.D).db) hok hD hs2 hI2 (ht.of rfl rfl rfl) rfl ?_)
  exact h
theorem closeParaC {b : Nat} {gs : List Bk} {par : Bk} {p : PS} {ls : List (List UInt8)} (h : DocC σ b L (gs ++ [par]) (.para ls) p w) (hf : Leaf.finN (.para ls)) (hD : par.D.length < 99999) (hX : (txF (gs ++ [par])).length < 100000)
    (hR : ∀ w p' par' nb t s e x, p'.base = p.base → p'.depth = p.depth → p'.lineno = p.lineno → p'.stn = gs.length + 1 → par'.like par → par'.D = par.D ++ [paraDB nb t s e (joinL [10] ls)] → e = s + ls.length - 1 → s < 1000000000 → DocC σ b L (gs ++ [par']) .none p' w → R (.returned x) w) :
    callE P i_parseState_closeBlock #[.pointer (some ⟨b, 0, none⟩)] R w := by
  obtain ⟨M, TM, lobs, LM, hs, ht, hok, ⟨qb, s, e, rfl, hp, hs1, hne, hln⟩, h⟩ := h
  obtain ⟨hf1, hf2, hf3⟩ := hf
  have hs : Stk p (gs.map Bk.ob ++ [par.ob] ++ [paraOB qb s e]) M := by simpa using hs
  obtain ⟨hpok, hpok2⟩ := hok par (by simp)
  have hpn : par.ob.n = par.D.length := by have := hpok.1; simp at this; omega
  rw [memFs_append, memFs_one] at h
  have h : Sat σ w (p.at b :: M ++ (par.IM ++ (TM ++ (LM ++ (memFs gs ++ (par.own ++ (ownC par.D ++ (txc par.D ++ L)))))))) := h.re (by intro _; simp only [List.append_eq, cnt_append, cnt_cons, cnt_nil] <;> omega)
  refine closePara_ok (ob := gs.map Bk.ob) (par := par.ob) (o := paraOB qb s e) h hs rfl hpok (by omega) ht (by simp; omega) hp hne (by omega) rfl hf1 hf2 hf3 (by exact hs1) fun w p' M' IM' TM' t nb q' c' x hp' hs' ht' hI' h => ?_
  refine hR w p' ⟨{ par.ob with q := q', n := par.ob.n + 1, c := c' }, par.own, par.D ++ [paraDB nb t s (s + ls.length - 1) (joinL [10] ls)], IM'⟩ nb t s (s + ls.length - 1) x (by rw [hp']; rfl) (by rw [hp']) (by rw [hp']) (by rw [hp']; simp) ⟨rfl, rfl, rfl, rfl⟩ rfl rfl hs1 ?_
  refine ⟨M', TM', [], [], ?_, ?_, ?_, ⟨rfl, rfl⟩, ?_⟩
  · rw [List.map_append, List.append_nil]; exact hs'
  · have e : txF (gs ++ [⟨{ par.ob with q := q', n := par.ob.n + 1, c := c' }, par.own, par.D ++ [paraDB nb t s (s + ls.length - 1) (joinL [10] ls)], IM'⟩]) = txF (gs ++ [par]) ++ [⟨t, s, s + ls.length - 1, joinL [10] ls⟩] := by
      rw [txF_append, txF_append, txF_one, txF_one, txsC_snoc, List.append_assoc]; rfl
    rw [e, List.map_append]; exact ht'
  · intro g hg
    rcases List.mem_append.1 hg with hg | hg
    · exact hok g (by simp [hg])
    · obtain rfl := List.mem_singleton.1 hg
      exact ⟨by rw [List.map_append]; exact hI', by simp; omega, hpok2.2⟩
  · rw [memFs_append, memFs_one, ownC_snoc, txc_snoc]
    have h : Sat σ w (p'.at b :: M' ++ (IM' ++ (TM' ++ (paraC nb s (s + ls.length - 1) t :: textC t s (s + ls.length - 1) none 0 0 (joinL [10] ls) :: (memFs gs ++ (par.own ++ (ownC par.D ++ (txc par.D ++ L)))))))) := h
    show Sat σ w (p'.at b :: M' ++ (TM' ++ (memFs gs ++ (IM' ++ (par.own ++ ((ownC par.D ++ [paraC nb s (s + ls.length - 1) t]) ++ (txc par.D ++ [textC t s (s + ls.length - 1) none 0 0 (joinL [10] ls)])))) ++ ([] ++ L))))
    exact h.re (by intro _; simp only [List.append_eq, cnt_append, cnt_cons, cnt_nil] <;> omega)
end Go.Proofs.YtihmcipajjakgaaGreatDoor


set_option linter.unusedVariables false
namespace Go.Proofs.YtihmcipajjakgaaGreatDoor
open Go.Proofs Go.IntWalk Go.RowKit
variable {σ : Out} {w : World} {L L' : List Chunk} {R : Ending → World → Prop}
theorem DB.kindOK.ifc {d : DB} (h : d.kindOK) : d.ifc ∧ (tightDB d).ifc := by
  rcases h with ⟨nb, t, s, e, raw, rfl⟩ | ⟨ty, q, h, ht⟩
  · rw [tightDB_para]
    exact ⟨⟨_, _, rfl⟩, ⟨_, _, rfl⟩⟩
  · rw [tightDB_other h ht]
    exact ⟨⟨_, _, h⟩, ⟨_, _, h⟩⟩
theorem Ret.facts {is is' : List IT} (h : Ret is is') (hk : ∀ i ∈ is, ∀ d ∈ i.D, d.kindOK) : txsC (is'.map IT.db) = txsC (is.map IT.db) ∧ ∀ i ∈ is', i.ok ∧ ∀ d ∈ i.D, d.ifc := by
  induction h with
  | nil => exact ⟨rfl, by simp⟩
  | @cons i i' is is' h1 h2 _ ih =>
    obtain ⟨e1, e2⟩ := ih fun j hj => hk j (List.mem_cons_of_mem _ hj)
    have hki := hk i (by simp)
    have ed : i'.D = i.D.map tightDB := by rw [h1]
    refine ⟨?_, fun j hj => ?_⟩
    · show txsC i'.D ++ txsC (is'.map IT.db) = txsC i.D ++ txsC (is.map IT.db)
      rw [e1, ed, (ownC_tight hki).2]
    · rcases List.mem_cons.1 hj with rfl | hj
      · refine ⟨h2, fun d hd => ?_⟩
        rw [ed] at hd
        obtain ⟨d0, hd0, rfl⟩ := List.mem_map.1 hd
        exact (hki d0 hd0).ifc.2
      · exact e2 j hj
def Tgh (lo : Bool) (items items' : List IT) : Prop := lo = true ∧ items' = items ∨ lo = false ∧ Ret items items'
theorem closeListC {b lb pb : Nat} {op : Opt} {bul num : Int} {it : Option Addr} {gs : List Bk} {par f : Bk} {p : PS} {items : List IT} {pos : DB → Nat × Nat} (h : DocC σ b L (gs ++ [par, f]) .none p w) (hf : f.isList lb bul num it) (hfD : f.D = items.map IT.db) (hne : items ≠ [])
    (hio : ∀ i ∈ items, i.ok ∧ ∀ d ∈ i.D, d.kindOK ∧ d.posIs (pos d).1 (pos d).2 ∧ (pos d).1 < 1000000000 ∧ (pos d).2 < 1000000000) (hpz : p.pz = some ⟨pb, 0, none⟩) (hop : op.at pb ∈ L) (htask : op.task = false) (hD : par.D.length < 99999)
    (hR : ∀ w (p' : PS) par' nb e items' x, p'.base = p.base → p'.depth = p.depth → p'.lineno = p.lineno → p'.stn = gs.length + 1 → par'.like par → Tgh (gapI pos items) items items' → (∃ i ∈ items, e = i.e) → par'.D = par.D ++ [lisDB nb f.ob.s e bul num (gapI pos items) f.ob.q f.ob.n f.ob.c f.IM items'] →
      DocC σ b L (gs ++ [par']) .none p' w → R (.returned x) w) :
    callE P i_parseState_closeBlock #[.pointer (some ⟨b, 0, none⟩)] R w := by
  obtain ⟨M, TM, lobs, LM, hs, ht, hok, ⟨rfl, rfl⟩, h⟩ := h
  obtain ⟨hbd, hown⟩ := hf
  have hs : Stk p (gs.map Bk.ob ++ [par.ob] ++ [f.ob]) M := by simpa using hs
  have hpok := (hok par (by simp)).1
  obtain ⟨hfo1, hfo2, hfo3⟩ := hok f (by simp)
  have hpn : par.ob.n = par.D.length := by have := hpok.1; simp at this; omega
  have hdv : f.D.map DB.v = items.map IT.v := by rw [hfD]; simp [Function.comp_def, IT.db]
  rw [hdv] at hfo1
  have hil : items.length < 100000 := by rw [hfD] at hfo2; simpa using hfo2
  have htxf : txc f.D = (txsC (items.map IT.db)).map TX.chunk := by rw [hfD]; rfl
  rw [memFs_append, memFs_two, hown, hfD] at h
  refine closeB_build h hs hbd fun w h => ?_
  rw [hbd]
  have h : Sat σ w (p.at b :: M ++ (lisC lb bul num false it .nilFunc :: (f.IM ++ (ownC (items.map IT.db) ++ (par.IM ++ (TM ++ (memFs gs ++ (par.own ++ (ownC par.D ++ (txc par.D ++ (txc (items.map IT.db) ++ L))))))))))) := h.re (by intro _; simp only [List.append_eq, cnt_append, cnt_cons, cnt_nil] <;> omega)
  refine enter_meth meth_listBuild ?_
  refine listBuild_ok (pos := pos) h hs hfo1 hne (by omega) hfo3.1 hio fun w nb e items' htg he h => ⟨_, rfl, some ⟨nb, 0, none⟩, true, w, ta_yes (by rw [und_PList]; intro ms h; cases h) und_PList w, br_true rfl (nilP_some ?_)⟩
  have hvs : items'.map IT.v = items.map IT.v := by
    rcases htg with ⟨_, rfl⟩ | ⟨_, hr⟩
    · rfl
    · exact hr.vs
  have hfacts : txsC (items'.map IT.db) = txsC (items.map IT.db) ∧ ∀ i ∈ items', i.ok ∧ ∀ d ∈ i.D, d.ifc := by
    rcases htg with ⟨_, rfl⟩ | ⟨_, hr⟩
    · exact ⟨rfl, fun i hi => ⟨(hio i hi).1, fun d hd => ((hio i hi).2 d hd).1.ifc.1⟩⟩
    · exact hr.facts fun i hi d hd => ((hio i hi).2 d hd).1
  have hlen' : items'.length < 1000000 := by have := congrArg List.length hvs; simp at this; omega
  have k2 : ∀ (kk : Bool) w, Sat σ w (({ p with corner := kk } : PS).at b :: M ++ (lstC nb f.ob.s e bul num (gapI pos items) f.ob.q f.ob.n f.ob.c :: (f.IM ++ (ownC (items'.map IT.db) ++ (par.IM ++ (TM ++ (memFs gs ++ (par.own ++ (ownC par.D ++ (txc par.D ++ (txc (items.map IT.db) ++ L))))))))))) →
      g_parseState_closeBlock.k2 R (some ⟨b, 0, none⟩) (.iface ty_P_List (.pointer (some ⟨nb, 0, none⟩))) (some ⟨nb, 0, none⟩) w := by
    intro kk w h
    refine nilP_some ⟨_, Sat.ld h (.head _) (i := 0) rfl, ?_⟩
    rw [hpz]
    refine nilP_some ⟨_, Sat.ld h (by simp [hop] : op.at pb ∈ _) rfl, br_false htask ?_⟩
    have h : Sat σ w (({ p with corner := kk } : PS).at b :: M ++ (par.IM ++ (TM ++ (memFs gs ++ (par.own ++ (ownC par.D ++ (txc par.D ++ ((lstC nb f.ob.s e bul num (gapI pos items) f.ob.q f.ob.n f.ob.c :: (f.IM ++ ownC (items'.map IT.db))) ++ (txc f.D ++ L))))))))) := by
      rw [hfD]
      exact h.re (by intro _; simp only [List.append_eq, cnt_append, cnt_cons, cnt_nil] <;> omega)
    refine closeB_k3 h (hs.of rfl rfl rfl) hpok (by omega) fun w p2 M2 IM2 q' c' hp2 hs2 hI2 h => ?_
    have e2 : p2 = { p with corner := kk, stn := gs.length + 1 } := by rw [hp2, List.length_map]
    rw [e2] at hs2 h
    refine hR w { p with corner := kk, stn := gs.length + 1 } ⟨{ par.ob with q := q', n := par.ob.n + 1, c := c' }, par.own, par.D ++ [lisDB nb f.ob.s e bul num (gapI pos items) f.ob.q f.ob.n f.ob.c f.IM items'], IM2⟩ nb e items' _ rfl rfl rfl rfl ⟨rfl, rfl, rfl, rfl⟩ htg he rfl
      (DocC.closed (par := par) (f := f) (d := lisDB nb f.ob.s e bul num (gapI pos items) f.ob.q f.ob.n f.ob.c f.IM items') hok hD hs2 hI2 (ht.of rfl rfl rfl) ?_ ?_)
    · rw [hfD]; exact hfacts.1
    · exact h
  refine ⟨_, Sat.ld h (.head _) (i := 6) rfl, br_split (fun _ => nilP_some ?_) fun _ => ?_⟩
  · refine Sat.st h (k := 0) rfl (by simp [PS.cells]) trivial rfl fun w h => ?_
    exact k2 true w h
  · refine listCorner_ok (nb := nb) (s := f.ob.s) (e := e) (bul := bul) (num := num) (loose := gapI pos items) (items := items') (hvs ▸ hfo1) hfacts.2 hlen' h (fun x hx => ?_) fun kk => ⟨_, rfl, nilP_some ?_⟩
    · rcases List.mem_cons.1 hx with rfl | hx
      · simp
      · rcases List.mem_append.1 hx with hx | hx <;> simp [hx]
    · refine Sat.st h (k := 0) rfl (by simp [PS.cells]) trivial rfl fun w h => ?_
      exact k2 kk w h
end Go.Proofs.YtihmcipajjakgaaGreatDoor


set_option linter.unusedVariables false
namespace Go.Proofs.YtihmcipajjakgaaGreatDoor
open Go.Proofs Go.IntWalk Go.RowKit
variable {σ : Out} {w : World} {L L' : List Chunk} {R : Ending → World → Prop}
structure Ln.has (l : Ln) (c : UInt8) (rest : List UInt8) : Prop where
  ok : l.ok
  sp : l.sp = 0
  tx : l.text.drop l.i = c :: rest
theorem Ln.has.get {l : Ln} {c : UInt8} {r : List UInt8} (h : l.has c r) : l.text[l.i]? = some c := by
  have := congrArg (fun x : List UInt8 => x[0]?) h.tx
  simpa using this
theorem Ln.has.lt {l : Ln} {c : UInt8} {r : List UInt8} (h : l.has c r) : l.i < l.text.length := by
  have := congrArg List.length h.tx
  simp at this; omega
theorem Ln.has.next {l : Ln} {c d : UInt8} {r : List UInt8} (h : l.has c (d :: r)) : ({ l with i := l.i + 1 } : Ln).has d r := by
  have hlt := congrArg List.length h.tx
  simp at hlt
  refine ⟨⟨by show l.i + 1 ≤ l.text.length; omega, by show l.tab ≤ l.i + 1; have := h.ok.tab; omega, h.ok.len, h.ok.sp⟩, h.sp, ?_⟩
  show l.text.drop (l.i + 1) = d :: r
  have := congrArg (List.drop 1) h.tx
  rw [List.drop_drop] at this
  simpa [Nat.add_comm] using this
theorem Ln.has.tsGo {l : Ln} {c : UInt8} {r : List UInt8} (h : l.has c r) (hc : isST c = false) (mn k n : Nat) (e : Bool) : l.tsGo mn e (k + 1) n = if mn ≤ n then some l else none := by
  simp only [isST, Bool.or_eq_false_iff, beq_eq_false_iff_ne, ne_eq] at hc
  have hlt := h.lt
  simp [Ln.tsGo, h.sp, h.get, hc.1, hc.2, Nat.not_le.2 hlt]
theorem Ln.has.sp1 {l : Ln} {r : List UInt8} {mn : Nat} {e : Bool} (h : l.has 32 r) : l.trimSp mn 1 e = some { l with i := l.i + 1 } := by
  have hlt := h.lt
  simp [Ln.trimSp, Ln.tsGo, h.sp, h.get, Nat.not_le.2 hlt]
theorem Ln.has.lead {l : Ln} {c : UInt8} {r : List UInt8} (h : l.has c r) (hc : isST c = false) (k : Nat) (e : Bool) : l.lead (k + 1) e = l := by
  unfold Ln.lead Ln.trimSp; rw [h.tsGo hc]; rfl
theorem Ln.has.strip {l : Ln} {c : UInt8} {r : List UInt8} (h : l.has c r) (hc : isST c = false) : l.strip 3 0 = (0, l) := by
  simp only [Ln.strip, Ln.trimSp]; rw [h.tsGo hc]; rfl
theorem Ln.has.peek {l : Ln} {c : UInt8} {r : List UInt8} (h : l.has c r) : l.peek = c := by
  unfold Ln.peek
  rw [h.sp, if_neg (by decide), List.getD_eq_getElem?_getD, h.get]; rfl
theorem Ln.has.trimC {l : Ln} {c : UInt8} {r : List UInt8} (h : l.has c r) (d : UInt8) : l.trimC d = if c = d then some { l with i := l.i + 1 } else none := by
  unfold Ln.trimC
  rw [h.sp, if_neg (by decide), h.get]
  simp
theorem Ln.has.blank {l : Ln} {c : UInt8} {r : List UInt8} (h : l.has c r) (hc : isST c = false) : l.blank = false := by
  unfold Ln.blank
  rw [h.tx, List.all_cons, hc]; rfl
theorem Ln.has.plain {l : Ln} {c : UInt8} {r : List UInt8} (h : l.has c r) (hc : plainStart c = true) : l.plain := by
  simp only [plainStart, Bool.and_eq_true, Bool.not_eq_true', bne_iff_ne, ne_eq] at hc
  obtain ⟨⟨h0, h60⟩, hbu⟩ := hc
  have hst := plainStart0_st h0
  simp only [plainStart0, Bool.not_eq_true', Bool.or_eq_false_iff, beq_eq_false_iff_ne, ne_eq] at h0
  obtain ⟨⟨⟨⟨⟨⟨⟨⟨_, h62⟩, h35⟩, h95⟩, h96⟩, h126⟩, h61⟩, h45⟩, h42⟩ := h0
  have hlead : ∀ e, l.lead 3 e = l := h.lead hst 2
  have hpk : (l.lead 3 false).peek = c := by rw [hlead]; exact h.peek
  refine ⟨h.ok, h.blank hst, ?_, ?_, ?_, LDecl.of_peek h.ok (by rw [h.strip hst, h.peek]; exact hbu), HDecl.of_peek h.ok (by rw [hpk]; exact h60), ?_, ?_⟩
  · unfold Ln.quote; rw [hlead, h.trimC, if_neg h62]; rfl
  · unfold Ln.heading; rw [hlead, h.trimC, if_neg h35]
  · unfold Ln.isHR
    simp only [hlead, h.peek]
    rw [if_neg]
    rintro (hh | hh | hh)
    · exact h45 hh
    · exact h95 hh
    · exact h42 hh
  · rw [h.strip hst, h.peek]; exact ⟨h96, h126⟩
  · unfold Ln.trimSp; rw [h.tsGo hst]; rfl
theorem Ln.has.quote {l : Ln} {d : UInt8} {r : List UInt8} (h : l.has 62 (32 :: d :: r)) : l.quote = some { l with i := l.i + 2 } := by
  unfold Ln.quote
  rw [h.lead (by decide) 2, h.trimC, if_pos rfl]
  show some (Ln.lead 1 true _) = _
  unfold Ln.lead
  rw [h.next.sp1]
  rfl
theorem Ln.has.bullet {l : Ln} {c d : UInt8} {r : List UInt8} (h : l.has c (32 :: d :: r)) (hc : c = 45 ∨ c = 42 ∨ c = 43) (hd : isST d = false) : l.bullet = some (c, 2, { l with i := l.i + 2 }) := by
  have hst : isST c = false := by rcases hc with rfl | rfl | rfl <;> decide
  have h2 := h.next.next
  unfold Ln.bullet
  rw [h.strip hst]
  simp only [h.peek]
  rw [if_pos hc, h.trimC, if_pos rfl]
  show (match (Ln.trimSp 1 1 true _) with | none => none | some t2 => _) = _
  rw [h.next.sp1]
  simp only
  rw [h2.strip hd]
  simp only
  have : Ln.trimSp 1 1 true ({ l with i := l.i + 1 + 1 } : Ln) = none := by
    unfold Ln.trimSp; rw [h2.tsGo hd]; rfl
  rw [this]
theorem dropST_end {d : UInt8} (hd : isST d = false) : ∀ m : List UInt8, ∃ m3, (m ++ [d]).dropWhile isST = m3 ++ [d]
  | [] => ⟨[], by simp [hd]⟩
  | x :: m => by
    rw [List.cons_append, List.dropWhile_cons]
    split
    · exact dropST_end hd m
    · exact ⟨x :: m, rfl⟩
theorem drop_suffix {u s : List UInt8} (h : u <:+ s) : s.drop (s.length - u.length) = u := by
  obtain ⟨a, rfl⟩ := h
  rw [List.length_append, Nat.add_sub_cancel, List.drop_left]
theorem Ln.hrGo_end {c d : UInt8} : ∀ (f n : Nat) (l : Ln), l.ok → l.sp = 0 → (∃ m, l.text.drop l.i = m ++ [d]) → d ≠ c → isST d = false → l.hrGo c f n = false
  | 0, _, _, _, _, _, _, _ => rfl
  | f + 1, n, l, hl, hsp, ⟨m, hm⟩, hdc, hd => by
    cases m with
    | nil =>
      have h : l.has d [] := ⟨hl, hsp, hm⟩
      have := h.lt
      simp only [Ln.hrGo]
      rw [h.trimC, if_neg hdc]
      simp; omega
    | cons x m =>
      have h : l.has x (m ++ [d]) := ⟨hl, hsp, by rw [hm]; rfl⟩
      have hlt := h.lt
      simp only [Ln.hrGo]
      rw [h.trimC]
      by_cases hx : x = c
      · rw [if_pos hx]
        simp only
        have hnx : ∃ y m2, m ++ [d] = y :: m2 := by cases m with | nil => exact ⟨_, _, rfl⟩ | cons y m2 => exact ⟨_, _, rfl⟩
        obtain ⟨y, m2, hy⟩ := hnx
        have h1 := (hy ▸ h : l.has x (y :: m2)).next
        have hdrop : ({ l with i := l.i + 1 } : Ln).text.drop (l.i + 1) = m ++ [d] := by rw [hy]; exact h1.tx
        have hsk := Ln.skip_ok h1.ok
        refine Ln.hrGo_end f (n + 1) _ hsk rfl ?_ hdc hd
        show ∃ m3, l.text.drop (({ l with i := l.i + 1 } : Ln).skip.i) = m3 ++ [d]
        have e : l.text.drop (l.i + 1) = m ++ [d] := hdrop
        have hi : ({ l with i := l.i + 1 } : Ln).skip.i = l.text.length - ((m ++ [d]).dropWhile isST).length := by
          simp only [Ln.skip, e]
        rw [hi, drop_suffix ((List.dropWhile_suffix _).trans (e ▸ List.drop_suffix _ _))]
        exact dropST_end hd m
      · rw [if_neg hx]
        simp; omega
theorem Ln.has.isHR {l : Ln} {c d : UInt8} {r m : List UInt8} (h : l.has c r) (hc : isST c = false) (hm : c :: r = m ++ [d]) (hd : isST d = false) (hdc : d ≠ 45 ∧ d ≠ 95 ∧ d ≠ 42) : l.isHR = false := by
  unfold Ln.isHR
  simp only [h.lead hc 2, h.peek]
  split
  · rename_i hh
    refine Ln.hrGo_end _ _ l h.ok h.sp ⟨m, by rw [h.tx, hm]⟩ ?_ hd
    rcases hh with rfl | rfl | rfl
    · exact hdc.1
    · exact hdc.2.1
    · exact hdc.2.2
  · rfl
theorem decl_bullet {b : Nat} {p : PS} {ob : List OB} {o : OB} {M : List Chunk} {ty : TypeId} {v : Value} {l : Ln} {c d : UInt8} {r m : List UInt8} (hs : Stk p (ob ++ [o]) M) (hd : p.depth = ob.length) (hb : o.bd = .iface ty v) (h1 : ty ≠ ty_P_paraBuilder)
    (h : l.has c r) (hc : c = 45 ∨ c = 42 ∨ c = 43) (hm : c :: r = m ++ [d]) (hd' : isST d = false) (hdc : d ≠ 45 ∧ d ≠ 95 ∧ d ≠ 42) : ∀ j (hj : j < newsF.length), j < 4 → Decl b p M l newsF[j] := by
  have hst : isST c = false := by rcases hc with rfl | rfl | rfl <;> decide
  have h62 : c ≠ 62 := by rcases hc with rfl | rfl | rfl <;> decide
  have h35 : c ≠ 35 := by rcases hc with rfl | rfl | rfl <;> decide
  intro j hj h4 σ w L R hS hR
  match j, h4 with
  | 0, _ => exact newQuote_no (x := .nilIface) hS h.ok (by unfold Ln.quote; rw [h.lead hst 2, h.trimC, if_neg h62]; rfl) hR
  | 1, _ => exact newATX_no hS h.ok (by unfold Ln.heading; rw [h.lead hst 2, h.trimC, if_neg h35]) hR
  | 2, _ => exact newSetext_no hS hs hd rfl hb h1 h.ok hR
  | 3, _ => exact newHR_no hS h.ok (h.isHR hst hm hd' hdc) hR
end Go.Proofs.YtihmcipajjakgaaGreatDoor


set_option linter.unusedVariables false
namespace Go.Proofs.YtihmcipajjakgaaGreatDoor
open Go.Proofs Go.IntWalk Go.RowKit
variable {σ : Out} {w : World} {L L' : List Chunk} {R : Ending → World → Prop}
def Runs (R : Ending → World → Prop) (Xb : OA → Nat → WP) (b b1 : Nat) : Prop :=
  ∀ w, (∀ X : OA → Nat → WP, (∀ x0 x3 w, g_parseState_addLine.bl102 R X x0 x3 w → X x0 x3 w) → g_parseState_addLine.bl102 R X (some ⟨b, 0, none⟩) b1 w) → Xb (some ⟨b, 0, none⟩) b1 w
theorem Runs.top (b b1 : Nat) : Runs R (g_parseState_addLine.l102 R) b b1 := fun w H X hX => hX _ _ _ (H X hX)
theorem Runs.of {X : OA → Nat → WP} (hX : ∀ x0 x3 w, g_parseState_addLine.bl102 R X x0 x3 w → X x0 x3 w) (b b1 : Nat) : Runs R X b b1 := fun w H => hX _ _ _ (H X hX)
theorem pushQuoteC {Xb : OA → Nat → WP} {b b1 : Nat} {gs : List Bk} {top : Bk} {p : PS} {l l2 : Ln} {r : List UInt8} {d : UInt8} (h : DocC σ b (l.at b1 :: L) (gs ++ [top]) .none p w) (hd : p.depth = gs.length) (hgl : gs.length < 100000) (hl : l.ok) (hq : l.quote = some l2) (hl2 : l2.has d r) (hst : isST d = false) (hno : p.lineno < 1000000000)
    (hX : ∀ w (p' : PS) f, p'.base = p.base → p'.lineno = p.lineno → p'.depth = p.depth + 1 → f.isQuote → f.D = [] → DocC σ b (l2.at b1 :: L) (gs ++ [top] ++ [f]) .none p' w → Xb (some ⟨b, 0, none⟩) b1 w) : g_parseState_addLine.bl102 R Xb (some ⟨b, 0, none⟩) b1 w := by
  obtain ⟨M, TM, lobs, LM, hs, ht, hok, ⟨rfl, rfl⟩, h⟩ := h
  have hs : Stk p ((gs ++ [top]).map Bk.ob) M := by simpa using hs
  have h : Sat σ w (p.at b :: M ++ (l.at b1 :: (TM ++ (memFs (gs ++ [top]) ++ L)))) := h.re (by intro _; simp only [List.append_eq, cnt_append, cnt_cons, cnt_nil] <;> omega)
  refine bl102_pass 0 (by decide) h (fun j _ hj => absurd hj (by omega)) hl2.ok (hl2.blank hst) fun w nb e R' h hk => ?_
  show callE P i_newQuote _ R' w
  refine newQuote_yes h hs (by rw [hd]; simp) (by simp; omega) hl hq fun w p' M' qb hp' hs' h => ?_
  have hd' : p'.depth = gs.length := by rw [hp']; exact hd
  have h : Sat σ w (l.at b1 :: p'.at b :: (M' ++ (quoC qb :: ((nb, cel newsC e) :: (TM ++ (memFs (gs ++ [top]) ++ L)))))) := h.re (by intro _; simp only [List.append_eq, cnt_append, cnt_cons, cnt_nil] <;> omega)
  refine hk w _ p' (by omega) h fun w h => ?_
  refine hX w { p' with depth := p'.depth + 1 } ⟨⟨quoV qb, none, 0, 0, p.lineno, p.lineno⟩, [quoC qb], [], []⟩ (by rw [hp']; rfl) (by rw [hp']) (by rw [hp']) ⟨qb, rfl, rfl⟩ rfl ?_
  refine ⟨M', TM, [], [], ?_, ?_, ?_, ⟨rfl, rfl⟩, ?_⟩
  · rw [List.map_append, List.append_nil]; exact hs'.of rfl rfl rfl
  · rw [txF_append, txF_one]
    show Txts _ ((txF (gs ++ [top]) ++ []).map TX.t) TM
    rw [List.append_nil]
    exact ht.of (by rw [hp']) (by rw [hp']) (by rw [hp'])
  · intro g hg
    rcases List.mem_append.1 hg with hg | hg
    · exact hok g hg
    · obtain rfl := List.mem_singleton.1 hg
      exact ⟨Sl.nil 1 ty_Block, by simp, hno, hno⟩
  · rw [memFs_append (gs ++ [top]), memFs_one]
    show Sat σ w (_ :: M' ++ (TM ++ (memFs (gs ++ [top]) ++ ([] ++ ([quoC qb] ++ ([] ++ []))) ++ ([] ++ (l2.at b1 :: L)))))
    exact h.less [(nb, cel newsC e)] (by intro _; simp only [List.append_eq, cnt_append, cnt_cons, cnt_nil] <;> omega)
theorem pushListC {Xb : OA → Nat → WP} {b b1 : Nat} {gs : List Bk} {top : Bk} {p : PS} {l : Ln} {r m : List UInt8} {c d e0 : UInt8} {ty : TypeId} {v : Value} (hXb : Runs R Xb b b1) (h : DocC σ b (l.at b1 :: L) (gs ++ [top]) .none p w) (hd : p.depth = gs.length) (hgl : gs.length < 100000)
    (hbd : top.ob.bd = .iface ty v) (h1 : ty ≠ ty_P_paraBuilder) (h2 : ty ≠ ty_P_listBuilder) (hl : l.has c (32 :: d :: r)) (hc : c = 45 ∨ c = 42 ∨ c = 43) (hst : isST d = false) (hm : c :: 32 :: d :: r = m ++ [e0]) (he0 : isST e0 = false) (hdc : e0 ≠ 45 ∧ e0 ≠ 95 ∧ e0 ≠ 42) (hno : p.lineno < 1000000000)
    (hX : ∀ (X : OA → Nat → WP), (∀ x0 x3 w, g_parseState_addLine.bl102 R X x0 x3 w → X x0 x3 w) → ∀ w (p' : PS) f g lb it, p'.base = p.base → p'.lineno = p.lineno → p'.depth = p.depth + 2 → f.isList lb c.toNat 0 it → f.D = [] → g.isItem lb 2 true → g.D = [] → f.ob.s = p.lineno → g.ob.s = p.lineno → g.ob.e = p.lineno → DocC σ b (({ l with i := l.i + 2 } : Ln).at b1 :: L) (gs ++ [top] ++ [f, g]) .none p' w → X (some ⟨b, 0, none⟩) b1 w) :
    g_parseState_addLine.bl102 R Xb (some ⟨b, 0, none⟩) b1 w := by
  obtain ⟨M, TM, lobs, LM, hs, ht, hok, ⟨rfl, rfl⟩, h⟩ := h
  have hs : Stk p (gs.map Bk.ob ++ [top.ob]) M := by simpa using hs
  have hbul := hl.bullet hc hst
  have hcst : isST c = false := by rcases hc with rfl | rfl | rfl <;> decide
  have hl2 := hl.next.next
  have hb2 := hl2.blank hst
  have h : Sat σ w (p.at b :: M ++ (l.at b1 :: (TM ++ (memFs (gs ++ [top]) ++ L)))) := h.re (by intro _; simp only [List.append_eq, cnt_append, cnt_cons, cnt_nil] <;> omega)
  refine bl102_pass (l2 := l) 4 (by decide) h (decl_bullet hs (by rw [hd]; simp) hbd h1 hl hc hm he0 hdc) hl.ok (hl.blank hcst) fun w nb e R' h hk => ?_
  show callE P i_newListItem _ R' w
  refine newList_first h hs (by rw [hd]; simp) (by simp; omega) hbd h1 h2 hl.ok hbul fun w p' M' lb x2 x5 x15 x18 ib hp' hs' h => ?_
  have hd' : p'.depth = gs.length := by rw [hp']; exact hd
  rw [hb2, show (!false) = true from rfl] at h
  have h : Sat σ w (l.at b1 :: p'.at b :: (M' ++ (lisC lb c.toNat 0 false none (cloV x2 x18 x15 x5) :: (x2, cel [.pointer (some ⟨b, 0, none⟩)] ty_P_parseState) :: ({ l with i := l.i + 2 } : Ln).at x5 :: lptC x15 lb :: iptC x18 ib :: iteC ib lb 2 true :: ((nb, cel newsC e) :: (TM ++ (memFs (gs ++ [top]) ++ L)))))) := h.re (by intro _; simp only [List.append_eq, cnt_append, cnt_cons, cnt_nil] <;> omega)
  refine hk w _ p' (by omega) h fun w h => ?_
  refine hXb w fun X hX' => ?_
  let p3 : PS := { p' with depth := p'.depth + 1 }
  have hs3 : Stk p3 (gs.map Bk.ob ++ [top.ob] ++ [⟨lisV lb, none, 0, 0, p.lineno, p.lineno⟩]) M' := hs'.of rfl rfl rfl
  have hd3 : p3.depth = (gs.map Bk.ob ++ [top.ob]).length := by show p'.depth + 1 = _; rw [hd']; simp
  have h : Sat σ w (l.at b1 :: p3.at b :: (M' ++ (lisC lb c.toNat 0 false none (cloV x2 x18 x15 x5) :: (x2, cel [.pointer (some ⟨b, 0, none⟩)] ty_P_parseState) :: ({ l with i := l.i + 2 } : Ln).at x5 :: lptC x15 lb :: iptC x18 ib :: iteC ib lb 2 true :: ((nb, cel newsC e) :: (TM ++ (memFs (gs ++ [top]) ++ L)))))) := h
  have h : Sat σ w (p3.at b :: M' ++ (l.at b1 :: (lisC lb c.toNat 0 false none (cloV x2 x18 x15 x5) :: (x2, cel [.pointer (some ⟨b, 0, none⟩)] ty_P_parseState) :: ({ l with i := l.i + 2 } : Ln).at x5 :: lptC x15 lb :: iptC x18 ib :: iteC ib lb 2 true :: ((nb, cel newsC e) :: (TM ++ (memFs (gs ++ [top]) ++ L)))))) := h.re (by intro _; simp only [List.append_eq, cnt_append, cnt_cons, cnt_nil] <;> omega)
  refine bl102_pass (l2 := { l with i := l.i + 2 }) 4 (by decide) h (decl_bullet hs3 hd3 rfl (by decide) hl hc hm he0 hdc) hl2.ok hb2 fun w nb2 e2 R2 h hk2 => ?_
  show callE P i_newListItem _ R2 w
  have h : Sat σ w (p3.at b :: M' ++ (lisC lb c.toNat 0 false none (cloV x2 x18 x15 x5) :: (x2, cel [.pointer (some ⟨b, 0, none⟩)] ty_P_parseState) :: ({ l with i := l.i + 2 } : Ln).at x5 :: lptC x15 lb :: iptC x18 ib :: iteC ib lb 2 true :: (l.at b1 :: (nb2, cel newsC e2) :: (nb, cel newsC e) :: (TM ++ (memFs (gs ++ [top]) ++ L))))) := h.re (by intro _; simp only [List.append_eq, cnt_append, cnt_cons, cnt_nil] <;> omega)
  refine newList_todo (l := l) h hs3 hd3 (by simp; omega) rfl fun w p4 M4 hp4 hs4 h => ?_
  have hd4 : p4.depth = gs.length + 1 := by rw [hp4]; show p'.depth + 1 = _; rw [hd']
  have hl4 : p4.lineno = p.lineno := by rw [hp4]; show p'.lineno = _; rw [hp']
  have h : Sat σ w (l.at b1 :: p4.at b :: (M4 ++ (lisC lb c.toNat 0 false (some ⟨ib, 0, none⟩) .nilFunc :: iteC ib lb 2 true :: ((nb2, cel newsC e2) :: (nb, cel newsC e) :: (TM ++ (memFs (gs ++ [top]) ++ L)))))) := h.re (by intro _; simp only [List.append_eq, cnt_append, cnt_cons, cnt_nil] <;> omega)
  refine hk2 w _ p4 (by omega) h fun w h => ?_
  have hln3 : p3.lineno = p.lineno := by show p'.lineno = _; rw [hp']
  rw [hln3] at hs4
  refine hX X hX' w { p4 with depth := p4.depth + 1 } ⟨⟨lisV lb, none, 0, 0, p.lineno, p.lineno⟩, [lisC lb c.toNat 0 false (some ⟨ib, 0, none⟩) .nilFunc], [], []⟩ ⟨⟨iteV ib, none, 0, 0, p.lineno, p.lineno⟩, [iteC ib lb 2 true], [], []⟩ lb (some ⟨ib, 0, none⟩)
    (by rw [hp4]; show p'.base = _; rw [hp']; rfl) hl4 (by show p4.depth + 1 = _; rw [hd4, hd]; omega) ⟨rfl, rfl⟩ rfl ⟨ib, rfl, rfl⟩ rfl rfl rfl rfl ?_
  refine ⟨M4, TM, [], [], ?_, ?_, ?_, ⟨rfl, rfl⟩, ?_⟩
  · rw [List.append_nil]
    have e : (gs ++ [top] ++ [(⟨⟨lisV lb, none, 0, 0, p.lineno, p.lineno⟩, [lisC lb c.toNat 0 false (some ⟨ib, 0, none⟩) .nilFunc], [], []⟩ : Bk), ⟨⟨iteV ib, none, 0, 0, p.lineno, p.lineno⟩, [iteC ib lb 2 true], [], []⟩]).map Bk.ob = gs.map Bk.ob ++ [top.ob] ++ [⟨lisV lb, none, 0, 0, p.lineno, p.lineno⟩] ++ [⟨iteV ib, none, 0, 0, p.lineno, p.lineno⟩] := by simp
    rw [e]
    exact hs4.of rfl rfl rfl
  · rw [txF_append, txF_two]
    show Txts _ ((txF (gs ++ [top]) ++ ([] ++ [])).map TX.t) TM
    rw [List.append_nil, List.append_nil]
    exact ht.of (by show p4.tq = _; rw [hp4]; show p'.tq = _; rw [hp']) (by show p4.tn = _; rw [hp4]; show p'.tn = _; rw [hp']) (by show p4.tc = _; rw [hp4]; show p'.tc = _; rw [hp'])
  · intro g hg
    rcases List.mem_append.1 hg with hg | hg
    · exact hok g hg
    · rcases List.mem_cons.1 hg with rfl | hg
      · exact ⟨Sl.nil 1 ty_Block, by simp, hno, hno⟩
      · obtain rfl := List.mem_singleton.1 hg
        exact ⟨Sl.nil 1 ty_Block, by simp, hno, hno⟩
  · rw [memFs_append (gs ++ [top]), memFs_two]
    show Sat σ w (_ :: M4 ++ (TM ++ (memFs (gs ++ [top]) ++ (([] ++ ([lisC lb c.toNat 0 false (some ⟨ib, 0, none⟩) .nilFunc] ++ ([] ++ []))) ++ ([] ++ ([iteC ib lb 2 true] ++ ([] ++ [])))) ++ ([] ++ (({ l with i := l.i + 2 } : Ln).at b1 :: L)))))
    exact h.less [(nb, cel newsC e), (nb2, cel newsC e2)] (by intro _; simp only [List.append_eq, cnt_append, cnt_cons, cnt_nil] <;> omega)
theorem pushParaC {Xb : OA → Nat → WP} {b b1 pb : Nat} {op : Opt} {gs : List Bk} {top : Bk} {p : PS} {l : Ln} {ty : TypeId} {v : Value} (h : DocC σ b (l.at b1 :: L) (gs ++ [top]) .none p w) (hd : p.depth = gs.length) (hgl : gs.length < 100000)
    (hbd : top.ob.bd = .iface ty v) (h1 : ty ≠ ty_P_paraBuilder) (h2 : ty ≠ ty_P_listBuilder) (hl : l.plain) (hpz : p.pz = some ⟨pb, 0, none⟩) (hop : op.at pb ∈ L) (hno : p.lineno < 1000000000)
    (hR : ∀ w (p' : PS), p'.base = p.base → p'.lineno = p.lineno → DocC σ b L (gs ++ [top]) (.para [l.rest]) p' w → R (.returned (.tuple #[])) w) :
    g_parseState_addLine.bl102 R Xb (some ⟨b, 0, none⟩) b1 w := by
  obtain ⟨M, TM, lobs, LM, hs, ht, hok, ⟨rfl, rfl⟩, h⟩ := h
  have hs : Stk p (gs.map Bk.ob ++ [top.ob]) M := by simpa using hs
  have hd' : p.depth = (gs.map Bk.ob).length := by rw [hd]; simp
  have h : Sat σ w (p.at b :: M ++ (l.at b1 :: (TM ++ (memFs (gs ++ [top]) ++ L)))) := h.re (by intro _; simp only [List.append_eq, cnt_append, cnt_cons, cnt_nil] <;> omega)
  refine bl102_decl h (decl_all hs hd' hbd h1 h2 hl) fun w nb e R' h hk => ?_
  refine newPara_new (op := op) h hs hpz (by simp [hop]) hd' hbd h1 hl.ok (by simp; omega) fun w p' M' qb PM hp' hs' hPM h => ?_
  refine hk w true ?_
  refine hR w p' (by rw [hp']; rfl) (by rw [hp']) ⟨M', TM, [paraOB qb p.lineno p.lineno], PM, ?_, ht.of (by rw [hp']) (by rw [hp']) (by rw [hp']), hok, ⟨qb, p.lineno, p.lineno, rfl, hPM, hno, by simp, by simp⟩, ?_⟩
  · rw [List.map_append]; exact hs'
  · exact h.less [l.at b1, (nb, cel newsC e)] (by intro _; simp only [List.append_eq, cnt_append, cnt_cons, cnt_nil] <;> omega)
end Go.Proofs.YtihmcipajjakgaaGreatDoor


set_option linter.unusedVariables false
namespace Go.Proofs.YtihmcipajjakgaaGreatDoor
open Go.Proofs Go.IntWalk Go.RowKit
variable {σ : Out} {w : World} {L L' : List Chunk} {R : Ending → World → Prop}
def noNL (l : List UInt8) : Prop := 10 ∉ l ∧ 13 ∉ l
inductive LinesOf : List UInt8 → List (List UInt8 × UInt8) → Prop where
  | nil : LinesOf [] []
  | last {l : List UInt8} : l ≠ [] → noNL l → LinesOf l [(l, 0)]
  | cons {l t : List UInt8} {ls : List (List UInt8 × UInt8)} : noNL l → LinesOf t ls → LinesOf (l ++ 10 :: t) ((l, 10) :: ls)
theorem LinesOf.no13 {t : List UInt8} {ls : List (List UInt8 × UInt8)} (h : LinesOf t ls) : 13 ∉ t := by
  induction h with
  | nil => simp
  | last h1 h2 => exact h2.2
  | cons h1 h2 ih =>
    simp only [List.mem_append, List.mem_cons, not_or]
    exact ⟨h1.2, by decide, ih⟩
theorem LinesOf.len {t : List UInt8} {ls : List (List UInt8 × UInt8)} (h : LinesOf t ls) : ls.length ≤ t.length := by
  induction h with
  | nil => simp
  | last h1 h2 => have := List.length_pos_iff.2 h1; simp; omega
  | cons h1 h2 ih => simp; omega
theorem findSub_first {A B : List UInt8} {c : UInt8} (hc : c ∉ A) : ∀ (k i : Nat), i + k = A.length → ∀ f, k < f → findSub [c] (A ++ c :: B) f i = some A.length
  | 0, i, hi, f + 1, _ => by
    obtain rfl : i = A.length := by omega
    simp only [findSub, List.length_singleton]
    rw [if_pos (by simp), List.drop_left, if_pos (by simp)]
  | k + 1, i, hi, f + 1, hf => by
    simp only [findSub, List.length_singleton]
    rw [if_pos (by simp; omega), if_neg]
    · exact findSub_first hc k (i + 1) (by omega) f (by omega)
    · intro he
      have hil : i < A.length := by omega
      rw [List.drop_append_of_le_length (by omega), List.drop_eq_getElem_cons hil, List.cons_append, List.take_succ_cons, List.take_zero] at he
      have he2 : A[i] = c := (List.cons.inj he).1
      exact hc (he2 ▸ List.getElem_mem hil)
theorem idx_first {A B : List UInt8} {c : UInt8} (hc : c ∉ A) : idx (A ++ c :: B) [c] = some A.length := by
  unfold idx
  exact findSub_first hc A.length 0 (by omega) _ (by simp; omega)
end Go.Proofs.YtihmcipajjakgaaGreatDoor


set_option linter.unusedVariables false
namespace Go.Proofs.YtihmcipajjakgaaGreatDoor
open Go.Proofs Go.IntWalk Go.RowKit
variable {σ : Out} {w : World} {L L' : List Chunk} {R : Ending → World → Prop}
def Bk.isRoot (f : Bk) : Prop := ∃ rb, f.ob.bd = rootV rb ∧ f.own = [(rb, cel [] ty_rootBuilder)]
def CloseAll (op : Opt) (fs : List Bk) (lf : Leaf) (Q : List DB → Prop) : Prop :=
  ∀ (σ : Out) (R : Ending → World → Prop) (L : List Chunk) (b pb : Nat) (p : PS) (w : World) (X : OA → Int → WP), (∀ x0 x1 w, g_parseState_trimStack.bl1 R X x0 x1 w → X x0 x1 w) → op.at pb ∈ L → p.pz = some ⟨pb, 0, none⟩ → DocC σ b L fs lf p w →
    (∀ w (p' : PS) root, p'.base = p.base → root.isRoot → Q root.D → DocC σ b L [root] .none p' w → X (some ⟨b, 0, none⟩) 0 w) → X (some ⟨b, 0, none⟩) 0 w
theorem CloseAll.root {op : Opt} {root : Bk} {Q : List DB → Prop} (hr : root.isRoot) (hQ : Q root.D) : CloseAll op [root] .none Q :=
  fun σ R L b pb p w X hX hop hpz h hN => hN w p root rfl hr hQ h
theorem finishC_ok {op : Opt} {b pb : Nat} {p : PS} {fs : List Bk} {lf : Leaf} {Q : List DB → Prop} (hC : CloseAll op fs lf Q) (h : DocC σ b L fs lf p w) (hpz : p.pz = some ⟨pb, 0, none⟩) (hop : op.at pb ∈ L)
    (hR : ∀ w (p' : PS) D' db IM TM q n c s e, p'.base = { p.base with root := some ⟨db, 0, none⟩ } → Q D' → Txts p' ((txsC D').map TX.t) TM → Sl 1 ty_Block q n c (D'.map DB.v) IM → n < 1000000 →
      Sat σ w (p'.at b :: (TM ++ ((txsC D').map TX.chunk ++ (docC db s e q n c p.links :: (IM ++ (ownC D' ++ L)))))) → R (.returned (.tuple #[])) w) :
    callE P i_parseState_trimStack #[.pointer (some ⟨b, 0, none⟩), .int .i64 0] R w := by
  refine g_parseState_trimStack.sound ?_
  have h0 := h
  obtain ⟨M, TM, lobs, LM, hs, ht, hok, hL, h⟩ := h
  refine nilP_some ?_
  refine ⟨_, _, _, Sat.ld h (by first | assumption | (repeat (first | exact .head _ | apply List.Mem.tail))) (by exact rfl), ?_⟩
  refine br_false (by simp) ?_
  intro X hX'
  refine hC σ R L b pb p w X hX' hop hpz h0 fun w p1 root hb hroot hQ h => ?_
  obtain ⟨rb, hbd, hown⟩ := hroot
  obtain ⟨M, TM, lobs, LM, hs, ht, hok, ⟨rfl, rfl⟩, h⟩ := h
  have hs : Stk p1 [root.ob] M := hs
  have hn : p1.stn = 1 := hs.2.1
  have hlk : p1.links = p.links := by have := congrArg PS.links hb; exact this
  refine hX' _ _ _ (nilP_some ?_)
  refine ⟨_, _, _, Sat.ld h (by first | assumption | (repeat (first | exact .head _ | apply List.Mem.tail))) (by exact rfl), ?_⟩
  rw [hn]
  refine br_true rfl ?_
  refine closeRoot_ok h hs hbd fun w db h => ⟨_, rfl, hX' _ _ _ (nilP_some ?_)⟩
  refine ⟨_, _, _, Sat.ld h (by first | assumption | (repeat (first | exact .head _ | apply List.Mem.tail))) (by exact rfl), ?_⟩
  refine br_false rfl ?_
  obtain ⟨hI, hDl, _⟩ := hok root (by simp)
  have hIl := hI.1
  simp only [List.length_map, Nat.mul_one] at hIl
  rw [txF_one] at ht
  refine hR w { p1 with stn := 0, root := some ⟨db, 0, none⟩ } root.D db root.IM TM root.ob.q root.ob.n root.ob.c root.ob.s root.ob.e ?_ hQ (ht.of rfl rfl rfl) hI (by omega) ?_
  · have e : ({ p1 with stn := 0, root := some ⟨db, 0, none⟩ } : PS).base = { p1.base with root := some ⟨db, 0, none⟩ } := rfl
    rw [e, hb]
  · rw [← hlk]
    rw [memFs_one, hown] at h
    have h : Sat σ w (({ p1 with stn := 0, root := some ⟨db, 0, none⟩ } : PS).at b :: M ++ (docC db root.ob.s root.ob.e root.ob.q root.ob.n root.ob.c p1.links :: (TM ++ (root.IM ++ ([(rb, cel [] ty_rootBuilder)] ++ (ownC root.D ++ (txsC root.D).map TX.chunk)) ++ ([] ++ L))))) := h
    exact h.less (M ++ [(rb, cel [] ty_rootBuilder)]) (by intro _; simp only [List.append_eq, cnt_append, cnt_cons, cnt_nil] <;> omega)
def StepC (L0 : List Chunk) (op : Opt) (l : List UInt8) (nl : UInt8) (fs : List Bk) (lf : Leaf) (J : List Bk → Leaf → Prop) : Prop :=
  ∀ (σ : Out) (R : Ending → World → Prop) (L : List Chunk) (b pb : Nat) (p : PS) (w : World), (∀ c ∈ L0, c ∈ L) → op.at pb ∈ L → p.pz = some ⟨pb, 0, none⟩ → p.lineno < 1000000000 → DocC σ b L fs lf p w →
    (∀ w (p' : PS) fs' lf', p'.base = p.base → p'.lineno = p.lineno → J fs' lf' → DocC σ b L fs' lf' p' w → R (.returned (.tuple #[])) w) → callE P i_parseState_addLine #[.pointer (some ⟨b, 0, none⟩), (lnOf l nl).val] R w
theorem lines_okC {L0 : List Chunk} {op : Opt} {I : List (List UInt8 × UInt8) → List Bk → Leaf → Prop} (step : ∀ l nl rem fs lf, I ((l, nl) :: rem) fs lf → StepC L0 op l nl fs lf (I rem)) (hL0 : ∀ c ∈ L0, c ∈ L) {X : OA → BA → Nat → WP} {b pb : Nat} {p0 : PS}
    (hX : ∀ x0 x1 x6 w, g_Parser_parse.bl1 R X x0 x1 x6 w → X x0 x1 x6 w) (hop : op.at pb ∈ L) (hpz : p0.pz = some ⟨pb, 0, none⟩)
    (hE : ∀ w (p : PS) fs lf, p.base = p0.base → I [] fs lf → DocC σ b L fs lf p w → g_Parser_parse.bl1 R X (some ⟨pb, 0, none⟩) (bs []) b w) {text : List UInt8} {ls : List (List UInt8 × UInt8)} (hL : LinesOf text ls) :
    ∀ w (p : PS) fs lf, text.length < 1000000 → p.lineno + ls.length < 1000000000 → p.base = p0.base → I ls fs lf → DocC σ b L fs lf p w → X (some ⟨pb, 0, none⟩) (bs text) b w := by
  have k3 : ∀ (l : List UInt8) (nl : UInt8) (t : List UInt8) (rem : List (List UInt8 × UInt8)) w (p : PS) fs lf, (∀ w (p : PS) fs lf, p.lineno + rem.length < 1000000000 → p.base = p0.base → I rem fs lf → DocC σ b L fs lf p w → X (some ⟨pb, 0, none⟩) (bs t) b w) →
      p.lineno + rem.length + 1 < 1000000000 → p.base = p0.base → I ((l, nl) :: rem) fs lf → DocC σ b L fs lf p w → g_Parser_parse.k3 R X (some ⟨pb, 0, none⟩) (bs t) b (bs l) (nl.toNat : Int) w := by
    intro l nl t rem w p fs lf next hno hb hI h
    obtain ⟨M, TM, lobs, LM, hs, ht, hok, hL, h⟩ := h
    unfold g_Parser_parse.k3
    refine ⟨_, Sat.ld h (.head _) (i := 3) rfl, ?_⟩
    rw [i64_inc (by omega)]
    refine Sat.st h (k := 0) rfl (Nat.le_of_ble_eq_true rfl) trivial (by first | (dsimp only [List.set]; exact rfl) | exact rfl) fun w h => ?_
    let p1 : PS := { p with lineno := p.lineno + 1 }
    have h : Sat σ w (p1.at b :: M ++ (TM ++ (memFs fs ++ (LM ++ L)))) := h
    have hb1 : p1.base = p0.base := hb
    have hpz1 : p1.pz = some ⟨pb, 0, none⟩ := by
      have := congrArg PS.pz hb1
      rw [show p1.pz = p0.pz from this]; exact hpz
    refine step l nl rem fs lf hI σ _ L b pb p1 w hL0 hop hpz1 (by show p.lineno + 1 < _; omega) ⟨M, TM, lobs, LM, hs.of rfl rfl rfl, ht.of rfl rfl rfl, hok, hL, h⟩ fun w p2 fs' lf' h1 h2 h3 h4 => ⟨rfl, ?_⟩
    exact next w p2 fs' lf' (by rw [h2]; show p.lineno + 1 + _ < _; omega) (h1.trans hb1) h3 h4
  induction hL with
  | nil =>
    intro w p fs lf hlen hno hb hI h
    exact hX _ _ _ _ (hE w p fs lf hb hI h)
  | @last l hne hnl =>
    intro w p fs lf hlen hno hb hI h
    have e10 : idxInt l [10] = -1 := by unfold idxInt; rw [idx_none hnl.1]
    have e13 : idxInt l [13] = -1 := by unfold idxInt; rw [idx_none hnl.2]
    refine hX _ _ _ _ (br_true (by rw [bs_toList]; simpa using hne) ?_)
    refine zzIndex_ok (sub := [10]) (by omega) (by decide) ⟨_, rfl, ?_⟩
    refine zzIndex_ok (sub := [13]) (by omega) (by decide) ⟨_, rfl, ?_⟩
    rw [e10, e13]
    refine br_false rfl (br_false rfl ?_)
    refine k3 l 0 [] [] w p fs lf ?_ (by simp at hno ⊢; omega) hb hI h
    intro w p fs lf hno hb hI h
    exact hX _ _ _ _ (hE w p fs lf hb hI h)
  | @cons l t ls hnl hLt ih =>
    intro w p fs lf hlen hno hb hI h
    have hl13 : 13 ∉ l ++ 10 :: t := (LinesOf.cons hnl hLt).no13
    have e10 : idxInt (l ++ 10 :: t) [10] = (l.length : Nat) := by unfold idxInt; rw [idx_first hnl.1]
    have e13 : idxInt (l ++ 10 :: t) [13] = -1 := by unfold idxInt; rw [idx_none hl13]
    have hlen' : (l ++ 10 :: t).length = l.length + t.length + 1 := by simp; omega
    refine hX _ _ _ _ (br_true (by rw [bs_toList]; simp [mk_toList]) ?_)
    refine zzIndex_ok (sub := [10]) (by omega) (by decide) ⟨_, rfl, ?_⟩
    refine zzIndex_ok (sub := [13]) (by omega) (by decide) ⟨_, rfl, ?_⟩
    rw [e10, e13]
    refine br_false rfl ?_
    refine br_true (by simp) ?_
    obtain ⟨M, TM, lobs, LM, hs, ht, hok, hL, h⟩ := h
    refine Sat.tk h fun w h => ?_
    rw [i64_inc (by omega), bs_size, Int.toNat_natCast, Int.toNat_natCast, bs_ext, bs_extract, List.drop_zero, List.take_left]
    refine ⟨by omega, by rw [hlen']; omega, by omega, by rw [hlen']; omega, ?_⟩
    have ed : (l ++ 10 :: t).drop (l.length + 1) = t := by rw [List.drop_append]; simp
    rw [ed]
    refine k3 l 10 t ls w p fs lf ?_ (by simp at hno ⊢; omega) hb hI ⟨M, TM, lobs, LM, hs, ht, hok, hL, h⟩
    intro w p fs lf hno hb hI h
    exact ih w p fs lf (by rw [hlen'] at hlen; omega) hno hb hI h
theorem parses_docC {L0 : List Chunk} {op : Opt} {text out : List UInt8} {ls : List (List UInt8 × UInt8)} {F : List UInt8 → List UInt8 → List UInt8} (hL : LinesOf text ls) (h0 : 0 ∉ text) (hlen : text.length < 1000000)
    (I : List (List UInt8 × UInt8) → List Bk → Leaf → Prop) (hI0 : ∀ root, root.isRoot → root.D = [] → I ls [root] .none) (step : ∀ l nl rem fs lf, I ((l, nl) :: rem) fs lf → StepC L0 op l nl fs lf (I rem))
    (fin : ∀ fs lf, I [] fs lf → CloseAll op fs lf fun D => ∃ gs, Show F D gs ∧ compL gs [] = out ∧ ∀ x ∈ txsC D, InlineOK op x.raw (F x.raw)) : ParsesToL L0 op text out := by
  intro σ R L w pb hL0 h ho hR
  refine g_Parser_parse.sound ?_
  refine Sat.bx h fun b w h => ?_
  refine Sat.st h (k := 0) rfl (Nat.le_of_ble_eq_true rfl) trivial (by first | (dsimp only [List.set]; exact rfl) | exact rfl) fun w h => ?_
  have h : Sat σ w ((PS0 (some ⟨pb, 0, none⟩)).at b :: L) := h
  refine zzContains_ok (sub := [0]) (by omega) (by decide) ⟨_, rfl, ?_⟩
  rw [idx_none h0]
  refine br_false rfl ?_
  refine Sat.st h (k := 0) rfl (Nat.le_of_ble_eq_true rfl) trivial (by first | (dsimp only [List.set]; exact rfl) | exact rfl) fun w h => ?_
  refine Sat.bx h fun rb w h => ?_
  let p0 : PS := { PS0 (some ⟨pb, 0, none⟩) with depth := -1 }
  have h : Sat σ w (p0.at b :: [] ++ ((rb, cel [] ty_rootBuilder) :: L)) := h.up1
  have hstk : Stk p0 [] [] := ⟨Sl.nil 4 ty_openBlock, rfl, by simp⟩
  refine addBlock_ok h hstk rfl (by decide) fun w p1 M hp1 hs1 h => ⟨rfl, ?_⟩
  intro X hX
  have hll := hL.len
  have e1 : p1.base = p0.base := by rw [hp1]; rfl
  have e2 : p1.lineno = 0 := by rw [hp1]; rfl
  have htx : Txts p1 [] [] := by
    have : p1.tq = none ∧ p1.tn = 0 ∧ p1.tc = 0 := by rw [hp1]; exact ⟨rfl, rfl, rfl⟩
    obtain ⟨a, b, c⟩ := this
    unfold Txts
    rw [a, b, c]
    exact ⟨Sl.nil 1 ty_P_Text, rfl, by simp⟩
  let root : Bk := ⟨⟨rootV rb, none, 0, 0, 0, 0⟩, [(rb, cel [] ty_rootBuilder)], [], []⟩
  have hd : DocC σ b L [root] .none p1 w := by
    refine ⟨M, [], [], [], hs1, htx, fun f hf => ?_, ⟨rfl, rfl⟩, ?_⟩
    · obtain rfl := List.mem_singleton.1 hf
      exact ⟨Sl.nil 1 ty_Block, by simp [root], by show 0 < 1000000000; decide, by show 0 < 1000000000; decide⟩
    · have em : memFs [root] = [(rb, cel [] ty_rootBuilder)] := by simp [root, memFs_one, ownC, txc, txsC]
      rw [em]
      exact h
  refine lines_okC (p0 := p0) (op := op) step hL0 hX ho rfl ?_ hL w p1 [root] .none hlen (by rw [e2]; omega) e1 (hI0 root ⟨rb, rfl, rfl⟩ rfl) hd
  intro w p fs lf hb hI hds
  have hpz0 : p.pz = some ⟨pb, 0, none⟩ := by have := congrArg PS.pz hb; exact this
  refine br_false (by rw [bs_toList, mk_toList]; rfl) ?_
  refine finishC_ok (fin fs lf hI) hds hpz0 ho fun w p' D' db IM TM q n c s e hb' hcl ht hIM hn h => ⟨rfl, ?_⟩
  obtain ⟨gs, hS, hout, hIn⟩ := hcl
  have hbb : p'.base = { p0.base with root := some ⟨db, 0, none⟩ } := by rw [hb', hb]
  have hpz : p'.pz = some ⟨pb, 0, none⟩ := by have := congrArg PS.pz hbb; exact this
  have hlk : p'.links = none := by have := congrArg PS.links hbb; exact this
  have hrt : p'.root = some ⟨db, 0, none⟩ := by have := congrArg PS.root hbb; exact this
  have hLL : p'.Lq = none ∧ p'.Ln = 0 ∧ p'.Lc = 0 := ⟨by have := congrArg PS.Lq hbb; exact this, by have := congrArg PS.Ln hbb; exact this, by have := congrArg PS.Lc hbb; exact this⟩
  refine ⟨_, _, _, Sat.ld h (.head _) (i := 11) rfl, ?_⟩
  refine texts_ok (op := op) (F := F) (L0 := []) h ht hpz (by simp [ho]) hlk (by simp) hLL (fun x hx => (hIn x hx).lift) fun w p2 ts hp2 hf h => ?_
  have hrt2 : p2.root = some ⟨db, 0, none⟩ := by have := congrArg PS.root hp2; rw [show p2.root = p'.root from this]; exact hrt
  unfold g_Parser_parse.k4
  refine Sat.tk h fun w h => ?_
  refine ⟨_, Sat.ld h (.head _) (i := 1) rfl, _, Sat.ld h (.head _) (i := 6) rfl, ?_⟩
  rw [hrt2]
  obtain ⟨KM, KM', hP, hcnt⟩ := docs_print hS ts hf
  refine hR w db p2.corner (docC db s e q n c p.links :: (IM ++ KM)) (docC db s e q n c p.links :: (IM ++ KM')) (compL gs) (doc_prints hIM (by omega) hP) hout ?_
  refine Sat.less (p2.at b :: TM) h fun a => ?_
  have := hcnt a
  simp only [List.append_eq, cnt_append, cnt_cons, cnt_nil] at this ⊢
  omega
end Go.Proofs.YtihmcipajjakgaaGreatDoor


set_option linter.unusedVariables false
namespace Go.Proofs.YtihmcipajjakgaaGreatDoor
open Go.Proofs Go.IntWalk Go.RowKit
variable {σ : Out} {w : World} {L L' : List Chunk} {R : Ending → World → Prop}
def AtI (X : XI) (σ : Out) (b : Nat) (p0 : PS) (raw : List UInt8) (L : List Chunk) (i e : Nat) (ts : List Inl) : Prop :=
  ∀ w (p : PS) oq on oc, p.coreS = p0.coreS → p.s = raw → p.em = (e : Int) → IIn σ b p ts [] oq on oc L w → X (some ⟨b, 0, none⟩) (bs raw) oq on oc 0 false (i : Int) w
def LoopX (R : Ending → World → Prop) (X : XI) (b : Nat) (raw : List UInt8) : Prop :=
  ∀ oq on oc (i : Int) w, g_parseState_inline.bl1 R X (some ⟨b, 0, none⟩) (bs raw) oq on oc 0 false i w → X (some ⟨b, 0, none⟩) (bs raw) oq on oc 0 false i w
theorem PS.pz_of {p p0 : PS} (h : p.coreS = p0.coreS) : p.pz = p0.pz := by have := congrArg PS.pz h; exact this
theorem PS.coreS_of {p' p p0 : PS} (h1 : p'.core = p.core) (h2 : p.coreS = p0.coreS) : p'.coreS = p0.coreS := by
  rw [← h2]
  have := congrArg (fun q : PS => ({ q with s := [] } : PS)) h1
  exact this
theorem AtI.plain {X : XI} {b pb i e : Nat} {p0 : PS} {raw : List UInt8} {ts : List Inl} {o : Opt} (hX : LoopX R X b raw) (hi : i < raw.length) (hs : raw.length < 1000000000) (hpz : p0.pz = some ⟨pb, 0, none⟩) (ho : o.at pb ∈ L) (hp : parserOf o raw[i] = .nil) (h93 : raw[i] ≠ 93)
    (h : AtI X σ b p0 raw L (i + 1) e ts) : AtI X σ b p0 raw L i e ts := by
  intro w p oq on oc hc hraw he hI
  refine hX _ _ _ _ _ ?_
  obtain ⟨vs, RM, EM, OM, hS, hIn, hO, hlen, hsat⟩ := hI
  refine inl_dispatch (p := p) hi (by omega) (by rw [PS.pz_of hc, hpz]) (.head _) (.tail _ (List.mem_append_right _ (List.mem_append_right _ (List.mem_append_right _ ho)))) hsat ?_
  rw [hp]
  exact inl_none (inl_k5 hi (by omega) (.inl h93) (h w p oq on oc hc hraw he ⟨vs, RM, EM, OM, hS, hIn, hO, hlen, hsat⟩))
theorem AtI.leaf {X : XI} {b pb i e st en : Nat} {p0 : PS} {raw : List UInt8} {ts : List Inl} {o : Opt} {f : FuncId} {t : Inl} {L0 : List Chunk} {Q : PS → PS → Prop} (hX : LoopX R X b raw) (hi : i < raw.length) (hs : raw.length < 1000000000) (hpz : p0.pz = some ⟨pb, 0, none⟩) (ho : o.at pb ∈ L)
    (hp : parserOf o raw[i] = .fn f) (hL0 : ∀ c ∈ L0, c ∈ L) (hf : ∀ p : PS, p.coreS = p0.coreS → p.s = raw → LeafOK b p raw i (.func (.func f) #[] #[]) L0 (some (t, st, en)) (Q p)) (ht : t.isOpen = false) (hst : st ≤ raw.length) (hn : ts.length < 1000000000)
    (h : AtI X σ b p0 raw L en en (emitM raw e st ts ++ [t])) : AtI X σ b p0 raw L i e ts := by
  intro w p oq on oc hc hraw he hI
  refine hX _ _ _ _ _ ?_
  obtain ⟨vs, RM, EM, OM, hS, hIn, hO, hlen, hsat⟩ := hI
  refine inl_dispatch (p := p) hi (by omega) (by rw [PS.pz_of hc, hpz]) (.head _) (.tail _ (List.mem_append_right _ (List.mem_append_right _ (List.mem_append_right _ ho)))) hsat ?_
  rw [hp]
  dsimp only
  have hleaf := hf p hc hraw
  subst hraw
  refine inl_leaf ⟨vs, RM, EM, OM, hS, hIn, hO, hlen, hsat⟩ hL0 hleaf he hst hs hn (by simp) fun w p2 oq on oc hp2 hem2 _ h2 => ?_
  rw [ht] at h2
  refine h w p2 oq on oc (PS.coreS_of hp2 hc) ?_ hem2 h2
  have := congrArg PS.s hp2; exact this
theorem AtI.finA {X : XI} {b pb e : Nat} {p0 : PS} {raw : List UInt8} {ts ts' ts2 : List Inl} {o : Opt} (hX : LoopX R X b raw) (hs : raw.length < 1000000000) (hpz : p0.pz = some ⟨pb, 0, none⟩) (ho : o.at pb ∈ L) (hn : ts.length < 1000000000)
    (hE : EmphOK (emitM raw e raw.length ts) ts') (hpos : ∀ t ∈ ts', ∀ s, t.plain? = some s → s ≠ []) (hb : plen ts' < 1073741824) (hA : AutoOK o (mergeM ts') ts2)
    (hR : ∀ w (p' : PS) q n c vs RM EM, p'.coreS = p0.coreS → Sl 1 ty_Inline q n c vs RM → n < 1073741824 → InlsAt ts2 vs EM → Sat σ w (p'.at b :: (RM ++ (EM ++ L))) → R (.returned (.slice q n c)) w) :
    AtI X σ b p0 raw L raw.length e ts := by
  intro w p oq on oc hc hraw he hI
  refine hX _ _ _ _ _ ?_
  subst hraw
  exact inl_endA hI he hs hn (by rw [PS.pz_of hc, hpz]) ho hE hpos hb hA fun w p2 q n c vs RM EM hp2 hS hn hI h => hR w p2 q n c vs RM EM (PS.coreS_of hp2 hc) hS hn hI h
theorem AtI.fin {X : XI} {b pb e : Nat} {p0 : PS} {raw : List UInt8} {ts ts' : List Inl} {o : Opt} (hX : LoopX R X b raw) (hs : raw.length < 1000000000) (hpz : p0.pz = some ⟨pb, 0, none⟩) (ho : o.at pb ∈ L) (hoff : o.auto = false) (hn : ts.length < 1000000000)
    (hE : EmphOK (emitM raw e raw.length ts) ts') (hpos : ∀ t ∈ ts', ∀ s, t.plain? = some s → s ≠ []) (hb : plen ts' < 1073741824)
    (hR : ∀ w (p' : PS) q n c vs RM EM, p'.coreS = p0.coreS → Sl 1 ty_Inline q n c vs RM → n < 1073741824 → InlsAt (mergeM ts') vs EM → Sat σ w (p'.at b :: (RM ++ (EM ++ L))) → R (.returned (.slice q n c)) w) :
    AtI X σ b p0 raw L raw.length e ts :=
  AtI.finA hX hs hpz ho hn hE hpos hb (autoOK_off hoff) hR
end Go.Proofs.YtihmcipajjakgaaGreatDoor


set_option linter.unusedVariables false
namespace Go.Proofs.YtihmcipajjakgaaGreatDoor
open Go.Proofs
def optOff : Opt := ⟨false, false, false, false, false, false, false, false, false, false⟩
end Go.Proofs.YtihmcipajjakgaaGreatDoor


set_option linter.unusedVariables false
namespace Go.Proofs.YtihmcipajjakgaaGreatDoor
open Go.Proofs Go.IntWalk Go.RowKit
variable {σ : Out} {w : World} {L L' : List Chunk} {R : Ending → World → Prop}
theorem sub_self (s : List UInt8) (i : Nat) : sub s i i = [] := List.drop_eq_nil_of_le (by rw [List.length_take]; omega)
end Go.Proofs.YtihmcipajjakgaaGreatDoor


set_option linter.unusedVariables false
set_option maxRecDepth 20000
namespace Go.Proofs.YtihmcipajjakgaaGreatDoor
open Go.Proofs
namespace g_Emph_PrintHTML
noncomputable def body : Code := bodyOf Tryz.f299
def bl1 (R : EP) (Xa : OA → OA → Nat → Nat → Int → Int → WP) (x1 : OA) (x11q : OA) (x11n : Nat) (x11c : Nat) (x12 : Int) (x13 : Int) (w : World) : Prop :=
 br (decide (x13 < x12))
 (0 ≤ x13 ∧ x13 < (x11n : Int) ∧
 nilP x11q fun a5 =>
 ∃ (v6 : Value), w.cell? (a5.add (Int.toNat x13 * 1)) = some v6 ∧
 enterE P (callMethod v6 "PrintHTML" #[.pointer x1]) (fun e w8 => e = .returned (.tuple #[]) ∧
 Xa x1 x11q x11n x11c x12 (IntKind.i64.wrap (x13 + 1)) w8) w)
 (callE P i_bytes_Buffer_WriteString #[.pointer x1, .string (ByteArray.mk #[60, 47, 101, 109, 62])] (fun e w10 => ∃ (r9_0 : Int), ∃ (r9_1 : Value), e = .returned (.tuple #[.int .i64 r9_0, r9_1]) ∧
 R (.returned (.tuple #[])) w10) w)
def l1 (R : EP) (x1 : OA) (x11q : OA) (x11n : Nat) (x11c : Nat) (x12 : Int) (x13 : Int) (w : World) : Prop :=
  ∀ X : OA → OA → Nat → Nat → Int → Int → WP, (∀ x1 x11q x11n x11c x12 x13 w, bl1 R X x1 x11q x11n x11c x12 x13 w → X x1 x11q x11n x11c x12 x13 w) → X x1 x11q x11n x11c x12 x13 w

noncomputable def al1 (R : EP) (Xa : OA → OA → Nat → Nat → Int → Int → WP) : AC :=
  (.leaf (sel [1, 0, 1, 0, 0] body))
end g_Emph_PrintHTML
def g_Emph_PrintHTML (R : EP) (x0 : OA) (x1 : OA) (w : World) : Prop :=
 callE P i_bytes_Buffer_WriteString #[.pointer x1, .string (ByteArray.mk #[60, 101, 109, 62])] (fun e w2 => ∃ (r1_0 : Int), ∃ (r1_1 : Value), e = .returned (.tuple #[.int .i64 r1_0, r1_1]) ∧
 nilP x0 fun a3 =>
 ∃ (v4q : OA), ∃ (v4n : Nat), ∃ (v4c : Nat), w2.cell? (a3.add 1) = some (.slice v4q v4n v4c) ∧
 g_Emph_PrintHTML.l1 R x1 v4q v4n v4c (v4n : Int) 0 w2) w

noncomputable def g_Emph_PrintHTML.ac (R : EP) : AC :=
  (.seq (.leaf (sel [0] g_Emph_PrintHTML.body)) (.seq (.seq (.leaf (sel [1, 0, 0] g_Emph_PrintHTML.body)) (.block 0 (.loop (leaf [(1, .s .ptr), (11, .s .slice), (12, .s (.int .i64)), (13, .s (.int .i64))] (g_Emph_PrintHTML.l1 R)) (sel [1, 0, 1, 0, 0] g_Emph_PrintHTML.body)))) (.leaf (sel [1, 1] g_Emph_PrintHTML.body))))
theorem g_Emph_PrintHTML.good (R : EP) : Good P 23 (g_Emph_PrintHTML.ac R) (QF P [] R) :=
  ⟨trivial, ⟨⟨trivial, (loopG (g_Emph_PrintHTML.al1 R) (g_Emph_PrintHTML.bl1 R) (fun _ => by kernel_rfl) (fun Xa => trivial) (fun Xa => by intro x1 x11q x11n x11c x12 x13 ρ w; kernel_rfl) (fun X h _ _ _ _ _ _ _ g => g X h))⟩, trivial⟩⟩
theorem g_Emph_PrintHTML.eq (R : EP) (x0 : OA) (x1 : OA) (w : World) : g_Emph_PrintHTML R x0 x1 w = vcA P 23 (g_Emph_PrintHTML.ac R) (QF P [] R) (fr0 [.pointer x0, .pointer x1]) w := by kernel_rfl
theorem g_Emph_PrintHTML.sound {R : EP} {x0 : OA} {x1 : OA} {w : World} (h : g_Emph_PrintHTML R x0 x1 w) : callE P i_Emph_PrintHTML #[.pointer x0, .pointer x1] R w :=
  callE_fin (c := g_Emph_PrintHTML.body) Tryz.func299 Tryz.call299 (by kernel_rfl) (by kernel_rfl) (by kernel_rfl) (by kernel_rfl) (by kernel_rfl) (g_Emph_PrintHTML.good R) (g_Emph_PrintHTML.eq R x0 x1 w) h
namespace g_Strong_PrintHTML
noncomputable def body : Code := bodyOf Tryz.f307
def bl1 (R : EP) (Xa : OA → OA → Nat → Nat → Int → Int → WP) (x1 : OA) (x11q : OA) (x11n : Nat) (x11c : Nat) (x12 : Int) (x13 : Int) (w : World) : Prop :=
 br (decide (x13 < x12))
 (0 ≤ x13 ∧ x13 < (x11n : Int) ∧
 nilP x11q fun a5 =>
 ∃ (v6 : Value), w.cell? (a5.add (Int.toNat x13 * 1)) = some v6 ∧
 enterE P (callMethod v6 "PrintHTML" #[.pointer x1]) (fun e w8 => e = .returned (.tuple #[]) ∧
 Xa x1 x11q x11n x11c x12 (IntKind.i64.wrap (x13 + 1)) w8) w)
 (callE P i_bytes_Buffer_WriteString #[.pointer x1, .string (ByteArray.mk #[60, 47, 115, 116, 114, 111, 110, 103, 62])] (fun e w10 => ∃ (r9_0 : Int), ∃ (r9_1 : Value), e = .returned (.tuple #[.int .i64 r9_0, r9_1]) ∧
 R (.returned (.tuple #[])) w10) w)
def l1 (R : EP) (x1 : OA) (x11q : OA) (x11n : Nat) (x11c : Nat) (x12 : Int) (x13 : Int) (w : World) : Prop :=
  ∀ X : OA → OA → Nat → Nat → Int → Int → WP, (∀ x1 x11q x11n x11c x12 x13 w, bl1 R X x1 x11q x11n x11c x12 x13 w → X x1 x11q x11n x11c x12 x13 w) → X x1 x11q x11n x11c x12 x13 w

noncomputable def al1 (R : EP) (Xa : OA → OA → Nat → Nat → Int → Int → WP) : AC :=
  (.leaf (sel [1, 0, 1, 0, 0] body))
end g_Strong_PrintHTML
def g_Strong_PrintHTML (R : EP) (x0 : OA) (x1 : OA) (w : World) : Prop :=
 callE P i_bytes_Buffer_WriteString #[.pointer x1, .string (ByteArray.mk #[60, 115, 116, 114, 111, 110, 103, 62])] (fun e w2 => ∃ (r1_0 : Int), ∃ (r1_1 : Value), e = .returned (.tuple #[.int .i64 r1_0, r1_1]) ∧
 nilP x0 fun a3 =>
 ∃ (v4q : OA), ∃ (v4n : Nat), ∃ (v4c : Nat), w2.cell? (a3.add 1) = some (.slice v4q v4n v4c) ∧
 g_Strong_PrintHTML.l1 R x1 v4q v4n v4c (v4n : Int) 0 w2) w

noncomputable def g_Strong_PrintHTML.ac (R : EP) : AC :=
  (.seq (.leaf (sel [0] g_Strong_PrintHTML.body)) (.seq (.seq (.leaf (sel [1, 0, 0] g_Strong_PrintHTML.body)) (.block 0 (.loop (leaf [(1, .s .ptr), (11, .s .slice), (12, .s (.int .i64)), (13, .s (.int .i64))] (g_Strong_PrintHTML.l1 R)) (sel [1, 0, 1, 0, 0] g_Strong_PrintHTML.body)))) (.leaf (sel [1, 1] g_Strong_PrintHTML.body))))
theorem g_Strong_PrintHTML.good (R : EP) : Good P 23 (g_Strong_PrintHTML.ac R) (QF P [] R) :=
  ⟨trivial, ⟨⟨trivial, (loopG (g_Strong_PrintHTML.al1 R) (g_Strong_PrintHTML.bl1 R) (fun _ => by kernel_rfl) (fun Xa => trivial) (fun Xa => by intro x1 x11q x11n x11c x12 x13 ρ w; kernel_rfl) (fun X h _ _ _ _ _ _ _ g => g X h))⟩, trivial⟩⟩
theorem g_Strong_PrintHTML.eq (R : EP) (x0 : OA) (x1 : OA) (w : World) : g_Strong_PrintHTML R x0 x1 w = vcA P 23 (g_Strong_PrintHTML.ac R) (QF P [] R) (fr0 [.pointer x0, .pointer x1]) w := by kernel_rfl
theorem g_Strong_PrintHTML.sound {R : EP} {x0 : OA} {x1 : OA} {w : World} (h : g_Strong_PrintHTML R x0 x1 w) : callE P i_Strong_PrintHTML #[.pointer x0, .pointer x1] R w :=
  callE_fin (c := g_Strong_PrintHTML.body) Tryz.func307 Tryz.call307 (by kernel_rfl) (by kernel_rfl) (by kernel_rfl) (by kernel_rfl) (by kernel_rfl) (g_Strong_PrintHTML.good R) (g_Strong_PrintHTML.eq R x0 x1 w) h
end Go.Proofs.YtihmcipajjakgaaGreatDoor

set_option linter.unusedVariables false
namespace Go.Proofs.YtihmcipajjakgaaGreatDoor
open Go.Proofs Go.IntWalk Go.RowKit
variable {σ : Out} {w : World} {L L' : List Chunk} {R : Ending → World → Prop}
theorem meth_Strong : methB P ty_P_Strong "PrintHTML" i_Strong_PrintHTML = true := by kernel_rfl
theorem meth_Emph : methB P ty_P_Emph "PrintHTML" i_Emph_PrintHTML = true := by kernel_rfl
def oStrong : List UInt8 := [60, 115, 116, 114, 111, 110, 103, 62]
def cStrong : List UInt8 := [60, 47, 115, 116, 114, 111, 110, 103, 62]
def oEm : List UInt8 := [60, 101, 109, 62]
def cEm : List UInt8 := [60, 47, 101, 109, 62]
theorem strong_prints {b : Nat} {e : TypeId} {m : Value} {q : Option Addr} {n c : Nat} {vs : List Value} {RM KM KM' : List Chunk} {f : List UInt8 → List UInt8} (hS : Sl 1 ty_Inline q n c vs RM) (hn : n < 4611686018427387904) (hP : PrintsL "PrintHTML" vs KM KM' f) :
    Prints "PrintHTML" (.iface ty_P_Strong (.pointer (some ⟨b, 0, none⟩))) ((b, cel [m, .slice q n c] e) :: (RM ++ KM)) ((b, cel [m, .slice q n c] e) :: (RM ++ KM')) (fun l => f (l ++ oStrong) ++ cStrong) := by
  refine ⟨fun l => ?_, fun σ R bb l M L w hB h hb hR => enter_meth meth_Strong ?_⟩
  · have := hP.mono (l ++ oStrong)
    simp only [List.length_append] at *; omega
  refine g_Strong_PrintHTML.sound ?_
  have hm := hP.mono (l ++ oStrong)
  simp only [List.length_append] at hb hm
  refine writeS_ok (s := oStrong) hB h (by omega) fun w M hB h => ⟨_, _, rfl, ?_⟩
  refine nilP_some ?_
  refine ⟨_, _, _, Sat.ld h (List.mem_append_right _ (.head _)) rfl, ?_⟩
  intro X hX
  have h : Sat σ w (M ++ (RM ++ (KM ++ ((b, cel [m, .slice q n c] e) :: L)))) := h.re (by intro _; simp only [List.append_eq, cnt_append, cnt_cons, cnt_nil] <;> omega)
  refine printLoop (X := fun j w => X (some ⟨bb, 0, none⟩) q n c (n : Int) j w) (END := fun w => callE P i_bytes_Buffer_WriteString #[.pointer (some ⟨bb, 0, none⟩), .string (bs cStrong)] (fun e w10 => ∃ (r9_0 : Int), ∃ (r9_1 : Value), e = .returned (.tuple #[.int .i64 r9_0, r9_1]) ∧ R (.returned (.tuple #[])) w10) w) hS (fun j w hj => hX _ _ _ _ _ _ _ hj) hP hB h hn (by omega) fun w M' hB h => ?_
  refine writeS_ok (s := cStrong) hB h (by omega) fun w M hB h => ⟨_, _, rfl, ?_⟩
  exact hR w M hB (h.re (by intro _; simp only [List.append_eq, cnt_append, cnt_cons, cnt_nil] <;> omega))
theorem em_prints {b : Nat} {e : TypeId} {m : Value} {q : Option Addr} {n c : Nat} {vs : List Value} {RM KM KM' : List Chunk} {f : List UInt8 → List UInt8} (hS : Sl 1 ty_Inline q n c vs RM) (hn : n < 4611686018427387904) (hP : PrintsL "PrintHTML" vs KM KM' f) :
    Prints "PrintHTML" (.iface ty_P_Emph (.pointer (some ⟨b, 0, none⟩))) ((b, cel [m, .slice q n c] e) :: (RM ++ KM)) ((b, cel [m, .slice q n c] e) :: (RM ++ KM')) (fun l => f (l ++ oEm) ++ cEm) := by
  refine ⟨fun l => ?_, fun σ R bb l M L w hB h hb hR => enter_meth meth_Emph ?_⟩
  · have := hP.mono (l ++ oEm)
    simp only [List.length_append] at *; omega
  refine g_Emph_PrintHTML.sound ?_
  have hm := hP.mono (l ++ oEm)
  simp only [List.length_append] at hb hm
  refine writeS_ok (s := oEm) hB h (by omega) fun w M hB h => ⟨_, _, rfl, ?_⟩
  refine nilP_some ?_
  refine ⟨_, _, _, Sat.ld h (List.mem_append_right _ (.head _)) rfl, ?_⟩
  intro X hX
  have h : Sat σ w (M ++ (RM ++ (KM ++ ((b, cel [m, .slice q n c] e) :: L)))) := h.re (by intro _; simp only [List.append_eq, cnt_append, cnt_cons, cnt_nil] <;> omega)
  refine printLoop (X := fun j w => X (some ⟨bb, 0, none⟩) q n c (n : Int) j w) (END := fun w => callE P i_bytes_Buffer_WriteString #[.pointer (some ⟨bb, 0, none⟩), .string (bs cEm)] (fun e w10 => ∃ (r9_0 : Int), ∃ (r9_1 : Value), e = .returned (.tuple #[.int .i64 r9_0, r9_1]) ∧ R (.returned (.tuple #[])) w10) w) hS (fun j w hj => hX _ _ _ _ _ _ _ hj) hP hB h hn (by omega) fun w M' hB h => ?_
  refine writeS_ok (s := cEm) hB h (by omega) fun w M hB h => ⟨_, _, rfl, ?_⟩
  exact hR w M hB (h.re (by intro _; simp only [List.append_eq, cnt_append, cnt_cons, cnt_nil] <;> omega))
mutual
def outI : Inl → List UInt8
  | .plain s => escS htmlPs s
  | .strong _ ks => oStrong ++ outL ks ++ cStrong
  | .emph _ ks => oEm ++ outL ks ++ cEm
  | .esc s => escS htmlPs s
  | .auto t u => aHref ++ escS linkPs u ++ [34, 62] ++ escS htmlPs t ++ aEnd
  | .link ks u t _ _ => linkO u t ++ outL ks ++ aEnd
  | .soft => softT
  | .hard => hardT
  | _ => []
def outL : List Inl → List UInt8
  | [] => []
  | t :: ts => outI t ++ outL ts
end
mutual
def okI : Inl → Prop
  | .plain s => s.length < 4294967296
  | .strong _ ks => okL ks ∧ ks.length < 1073741824
  | .emph _ ks => okL ks ∧ ks.length < 1073741824
  | .esc s => s.length < 4294967296
  | .auto t u => t.length < 100000000 ∧ u.length < 100000000
  | .link ks u t _ _ => okL ks ∧ ks.length < 1073741824 ∧ u.length < 100000000 ∧ t.length < 100000000
  | .soft => True
  | .hard => True
  | _ => False
def okL : List Inl → Prop
  | [] => True
  | t :: ts => okI t ∧ okL ts
end
theorem Prints.as {m : String} {v : Value} {T T' : List Chunk} {f g : List UInt8 → List UInt8} (h : Prints m v T T' f) (e : f = g) : Prints m v T T' g := e ▸ h
theorem PrintsL.as {m : String} {v : List Value} {T T' : List Chunk} {f g : List UInt8 → List UInt8} (h : PrintsL m v T T' f) (e : f = g) : PrintsL m v T T' g := e ▸ h
mutual
theorem inl_prints : ∀ (t : Inl) (v : Value) (M : List Chunk), InlAt t v M → okI t → Prints "PrintHTML" v M M (ab (outI t))
  | .plain s, v, M, h, ho => by
    obtain ⟨b, cs, e, rfl, rfl⟩ := h
    exact plain_prints ho
  | .strong m ks, v, M, h, ho => by
    obtain ⟨b, e, q, n, c, vs, RM, KM, rfl, rfl, hS, hI⟩ := h
    have hl := hI.length
    have h0 := hS.1
    have h1 := ho.2
    refine (strong_prints hS (by omega) (inls_print ks vs KM hI ho.1)).as ?_
    funext l
    simp [ab, outI]
  | .emph m ks, v, M, h, ho => by
    obtain ⟨b, e, q, n, c, vs, RM, KM, rfl, rfl, hS, hI⟩ := h
    have hl := hI.length
    have h0 := hS.1
    have h1 := ho.2
    refine (em_prints hS (by omega) (inls_print ks vs KM hI ho.1)).as ?_
    funext l
    simp [ab, outI]
  | .esc s, v, M, h, ho => by
    obtain ⟨b, e, rfl, rfl⟩ := h
    exact esc_prints ho
  | .auto t u, v, M, h, ho => by
    obtain ⟨b, e, rfl, rfl⟩ := h
    exact auto_prints ho.1 ho.2
  | .link ks u t tc k, v, M, h, ho => by
    obtain ⟨b, e, q, n, c, vs, RM, KM, rfl, rfl, hS, hI⟩ := h
    have hl := hI.length
    have h0 := hS.1
    obtain ⟨h1, h2, h3, h4⟩ := ho
    refine (link_prints h3 h4 hS (by omega) (inls_print ks vs KM hI h1)).as ?_
    funext l
    simp [ab, outI]
  | .soft, v, M, h, ho => by
    obtain ⟨b, e, rfl, rfl⟩ := h
    exact soft_prints
  | .hard, v, M, h, ho => by
    obtain ⟨b, e, rfl, rfl⟩ := h
    exact hard_prints
  | .openP _ _, v, M, h, ho => absurd ho id
  | .emphP _ _ _ _ _, v, M, h, ho => absurd ho id
  | .code _, v, M, h, ho => absurd ho id
  | .del _ _, v, M, h, ho => absurd ho id
  | .image _ _ _ _ _, v, M, h, ho => absurd ho id
  | .tag _, v, M, h, ho => absurd ho id
  | .task _, v, M, h, ho => absurd ho id
theorem inls_print : ∀ (ts : List Inl) (vs : List Value) (M : List Chunk), InlsAt ts vs M → okL ts → PrintsL "PrintHTML" vs M M (ab (outL ts))
  | [], vs, M, h, ho => by
    obtain ⟨rfl, rfl⟩ := h
    exact PrintsL.nil.as (by funext l; simp [ab, outL])
  | t :: ts, vs, M, h, ho => by
    obtain ⟨v, vs', M1, M2, rfl, rfl, h1, h2⟩ := h
    refine (PrintsL.cons (inl_prints t v M1 h1 ho.1) (inls_print ts vs' M2 h2 ho.2)).as ?_
    funext l
    simp [ab, outL]
end
end Go.Proofs.YtihmcipajjakgaaGreatDoor


set_option linter.unusedVariables false
namespace Go.Proofs.YtihmcipajjakgaaGreatDoor
open Go.Proofs Go.IntWalk Go.RowKit
variable {σ : Out} {w : World} {L L' : List Chunk} {R : Ending → World → Prop}
theorem AtI.plains {X : XI} {b pb e : Nat} {p0 : PS} {raw : List UInt8} {ts : List Inl} {o : Opt} (hX : LoopX R X b raw) (hs : raw.length < 1000000000) (hpz : p0.pz = some ⟨pb, 0, none⟩) (ho : o.at pb ∈ L) :
    ∀ (k i : Nat), i + k ≤ raw.length → (∀ j (hj : j < raw.length), i ≤ j → j < i + k → parserOf o raw[j] = .nil ∧ raw[j] ≠ 93) → AtI X σ b p0 raw L (i + k) e ts → AtI X σ b p0 raw L i e ts
  | 0, i, _, _, h => h
  | k + 1, i, hk, hall, h => by
    have hi : i < raw.length := by omega
    have h0 := hall i hi (Nat.le_refl _) (by omega)
    refine AtI.plain hX hi hs hpz ho h0.1 h0.2 ?_
    refine AtI.plains hX hs hpz ho k (i + 1) (by omega) (fun j hj h1 h2 => hall j hj (by omega) (by omega)) ?_
    rw [show i + 1 + k = i + (k + 1) by omega]; exact h
theorem plainText_inline {o : Opt} {s : List UInt8} (hoff : o.auto = false) (hs : s.length < 1000000) (hall : ∀ c ∈ trimLR isST s, parserOf o c = .nil ∧ c ≠ 93) (hne : trimLR isST s ≠ []) : InlineOK o s (ab (escS htmlPs (trimLR isST s))) := by
  intro σ R b pb p L w h hpz ho hlk hR
  have htl : (trimLR isST s).length ≤ s.length := by
    unfold trimLR trimR
    have h1 := (List.dropWhile_sublist isST (l := s)).length_le
    have h2 := (List.dropWhile_sublist isST (l := (s.dropWhile isST).reverse)).length_le
    simp at h2 ⊢; omega
  refine inl_begin h (by omega) fun w h => ?_
  generalize hr : trimLR isST s = raw at h hall hne htl hR ⊢
  intro X hX
  have hXL : LoopX R X b raw := fun _ _ _ _ _ h => hX _ _ _ _ _ _ _ _ _ h
  generalize hp0 : ({ p with s := raw, em := 0, lq := none, ln := 0, lc := 0 } : PS) = p0 at h
  have hpz0 : p0.pz = some ⟨pb, 0, none⟩ := by rw [← hp0]; exact hpz
  have hcs : p0.coreS = p.coreS := by rw [← hp0]; rfl
  suffices hat : AtI X σ b p0 raw L 0 0 [] from hat w p0 none 0 0 rfl (by rw [← hp0]) (by rw [← hp0]; rfl) h
  have hpos : 0 < raw.length := List.length_pos_iff.2 hne
  refine AtI.plains hXL (by omega) hpz0 ho raw.length 0 (by omega) (fun j hj _ _ => hall _ (List.getElem_mem hj)) ?_
  rw [Nat.zero_add]
  have e1 : emitM raw 0 raw.length [] = [.plain raw] := by
    unfold emitM; rw [if_pos hpos]
    show [Inl.plain ((raw.take raw.length).drop 0)] = _
    rw [List.take_length, List.drop_zero]
  refine AtI.fin (ts' := [.plain raw]) hXL (by omega) hpz0 ho hoff (by simp) ?_ ?_ ?_ ?_
  · rw [e1]
    exact emphOK_none (by intro t ht; simp at ht; subst ht; exact ⟨by simp only [Inl.ty]; decide, by simp only [Inl.ty]; decide⟩)
  · intro t ht s hs; simp at ht; subst ht; simp [Inl.plain?] at hs; subst hs; exact hne
  · simp [plen, Inl.plain?]; omega
  · intro w p' q n' c vs RM EM hp' hS hn' hI h
    have em : mergeM [.plain raw] = [.plain raw] := by simp [mergeM, mergeGo, flushP, Inl.plain?]
    rw [em] at hI
    have hP := inls_print _ _ _ hI ⟨by show raw.length < _; omega, trivial⟩
    have eo : outL [.plain raw] = escS htmlPs raw := by simp [outL, outI]
    rw [eo] at hP
    exact hR w p' q n' c vs RM EM EM (hp'.trans hcs) hS hn' hP h
end Go.Proofs.YtihmcipajjakgaaGreatDoor


set_option linter.unusedVariables false
namespace Go.Proofs.YtihmcipajjakgaaGreatDoor
open Go.Proofs Go.IntWalk Go.RowKit
variable {σ : Out} {w : World} {L L' : List Chunk} {R : Ending → World → Prop}
inductive FF : List Bool → List Bk → Prop where
  | nil : FF [] []
  | quote {rs : List Bool} {fs : List Bk} {f : Bk} : FF rs fs → f.isQuote → f.D = [] → FF (false :: rs) (fs ++ [f])
  | list {rs : List Bool} {fs : List Bk} {f g : Bk} {lb : Nat} {it : Option Addr} : FF rs fs → f.isList lb 45 0 it → f.D = [] → g.isItem lb 2 true → g.D = [] → FF (true :: rs) (fs ++ [f, g])
theorem FF.D {rs : List Bool} {fs : List Bk} (h : FF rs fs) : ∀ f ∈ fs, f.D = [] := by
  induction h with
  | nil => simp
  | quote _ _ h1 ih =>
    intro g hg
    rcases List.mem_append.1 hg with hg | hg
    · exact ih g hg
    · obtain rfl := List.mem_singleton.1 hg; exact h1
  | list _ _ h1 _ h2 ih =>
    intro g hg
    rcases List.mem_append.1 hg with hg | hg
    · exact ih g hg
    · rcases List.mem_cons.1 hg with rfl | hg
      · exact h1
      · obtain rfl := List.mem_singleton.1 hg; exact h2
theorem FF.len {rs : List Bool} {fs : List Bk} (h : FF rs fs) : fs.length ≤ 2 * rs.length := by
  induction h with
  | nil => simp
  | quote _ _ _ ih => simp; omega
  | list _ _ _ _ _ ih => simp; omega
theorem FF.top {rs : List Bool} {fs : List Bk} {root : Bk} (h : FF rs fs) (hr : root.isRoot) : ∃ gs top ty v, root :: fs = gs ++ [top] ∧ top.ob.bd = .iface ty v ∧ ty ≠ ty_P_paraBuilder ∧ ty ≠ ty_P_listBuilder := by
  cases h with
  | nil =>
    obtain ⟨rb, hb, _⟩ := hr
    exact ⟨[], root, _, _, rfl, hb, by decide, by decide⟩
  | @quote rs fs f _ hq _ =>
    obtain ⟨qb, hb, _⟩ := hq
    exact ⟨root :: fs, f, _, _, rfl, hb, by decide, by decide⟩
  | @list rs fs f g lb it _ hl _ hg _ =>
    obtain ⟨ib, hb, _⟩ := hg
    exact ⟨root :: (fs ++ [f]), g, _, _, by simp, hb, by decide, by decide⟩
def mark1 (x : Bool) : List UInt8 := if x then [45, 32] else [62, 32]
def marks (s : List Bool) : List UInt8 := s.flatMap mark1
theorem marks_head (s : List Bool) : ∃ x r, marks s ++ [97] = x :: r ∧ isST x = false := by
  cases s with
  | nil => exact ⟨97, [], rfl, by decide⟩
  | cons a s =>
    cases a with
    | true => exact ⟨45, 32 :: (marks s ++ [97]), rfl, by decide⟩
    | false => exact ⟨62, 32 :: (marks s ++ [97]), rfl, by decide⟩
theorem deep_ok {op : Opt} {b b1 pb : Nat} {root : Bk} (hr : root.isRoot) : ∀ (s rs : List Bool) (fs : List Bk) (p : PS) (l : Ln) (w : World) (Xb : OA → Nat → WP), FF rs fs → l.ok → l.sp = 0 → l.text.drop l.i = marks s ++ [97] → DocC σ b (l.at b1 :: L) (root :: fs) .none p w → p.depth = fs.length →
    rs.length + s.length < 1000 → Runs R Xb b b1 → p.pz = some ⟨pb, 0, none⟩ → op.at pb ∈ L → p.lineno < 1000000000 →
    (∀ w (p' : PS) fs', p'.base = p.base → p'.lineno = p.lineno → FF (s.reverse ++ rs) fs' → DocC σ b L (root :: fs') (.para [[97]]) p' w → R (.returned (.tuple #[])) w) → g_parseState_addLine.bl102 R Xb (some ⟨b, 0, none⟩) b1 w
  | [], rs, fs, p, l, w, Xb, hF, hl, hsp, htx, h, hd, hlen, hXb, hpz, hop, hno, hR => by
    have hh : l.has 97 [] := ⟨hl, hsp, htx⟩
    have hfl := hF.len
    obtain ⟨gs, top, ty, v, eg, hbd, h1, h2⟩ := hF.top hr
    have hgl : gs.length = fs.length := by have := congrArg List.length eg; simp at this; omega
    rw [eg] at h
    simp only [List.length_nil] at hlen
    refine pushParaC (op := op) h (by rw [hd, hgl]) (by omega) hbd h1 h2 (hh.plain (by decide)) hpz hop hno fun w p' e1 e2 h => ?_
    have er : l.rest = [97] := by unfold Ln.rest; rw [hh.tx]; decide
    rw [er, ← eg] at h
    exact hR w p' fs e1 e2 hF h
  | false :: s, rs, fs, p, l, w, Xb, hF, hl, hsp, htx, h, hd, hlen, hXb, hpz, hop, hno, hR => by
    obtain ⟨x, r, hx, hxs⟩ := marks_head s
    have hh : l.has 62 (32 :: x :: r) := ⟨hl, hsp, by rw [htx, ← hx]; rfl⟩
    have h2 := hh.next.next
    have hfl := hF.len
    simp only [List.length_cons] at hlen
    obtain ⟨gs, top, ty, v, eg, hbd, n1, n2⟩ := hF.top hr
    have hgl : gs.length = fs.length := by have := congrArg List.length eg; simp at this; omega
    rw [eg] at h
    refine pushQuoteC h (by rw [hd, hgl]) (by omega) hl hh.quote h2 hxs hno fun w p' f e1 e2 e3 hq hD h => ?_
    rw [← eg] at h
    have e4 : p'.pz = some ⟨pb, 0, none⟩ := by have := congrArg PS.pz e1; rw [show p'.pz = p.pz from this]; exact hpz
    refine hXb w fun X hX => ?_
    refine deep_ok hr s (false :: rs) (fs ++ [f]) p' _ w X (.quote hF hq hD) h2.ok hsp ?_ h (by rw [e3, hd]; simp) (by simp; omega) (Runs.of hX b b1) e4 hop (by omega) fun w p2 fs' a1 a2 a3 h => ?_
    · rw [hx]; exact h2.tx
    · exact hR w p2 fs' (a1.trans e1) (a2.trans e2) (by simpa using a3) h
  | true :: s, rs, fs, p, l, w, Xb, hF, hl, hsp, htx, h, hd, hlen, hXb, hpz, hop, hno, hR => by
    obtain ⟨x, r, hx, hxs⟩ := marks_head s
    have hh : l.has 45 (32 :: x :: r) := ⟨hl, hsp, by rw [htx, ← hx]; rfl⟩
    have h2 := hh.next.next
    have hfl := hF.len
    simp only [List.length_cons] at hlen
    obtain ⟨gs, top, ty, v, eg, hbd, n1, n2⟩ := hF.top hr
    have hgl : gs.length = fs.length := by have := congrArg List.length eg; simp at this; omega
    rw [eg] at h
    refine pushListC (m := 45 :: 32 :: marks s) (e0 := 97) hXb h (by rw [hd, hgl]) (by omega) hbd n1 n2 hh (.inl rfl) hxs (by rw [← hx]; rfl) (by decide) (by decide) hno fun X hX w p' f g lb it e1 e2 e3 hf hfD hg hgD _ _ _ h => ?_
    rw [← eg] at h
    have e4 : p'.pz = some ⟨pb, 0, none⟩ := by have := congrArg PS.pz e1; rw [show p'.pz = p.pz from this]; exact hpz
    refine hX _ _ _ ?_
    refine deep_ok hr s (true :: rs) (fs ++ [f, g]) p' _ w X (.list hF hf hfD hg hgD) h2.ok hsp ?_ h (by rw [e3, hd]; simp) (by simp; omega) (Runs.of hX b b1) e4 hop (by omega) fun w p2 fs' a1 a2 a3 h => ?_
    · rw [hx]; exact h2.tx
    · exact hR w p2 fs' (a1.trans e1) (a2.trans e2) (by simpa using a3) h
def outF (raw : List UInt8) : List UInt8 → List UInt8 := ab (escS htmlPs (trimLR isST raw))
def pT : List UInt8 := [60, 112, 62, 97, 60, 47, 112, 62, 10]
def outer (x pa : Bool) (t : List UInt8) : List UInt8 := if x then ulO ++ liO ++ (if pa then [97] else 10 :: t) ++ liC ++ ulC else bqO ++ t ++ bqC
def wrapR : List Bool → Bool → List UInt8 → List UInt8
  | [], _, t => t
  | x :: rs, pa, t => wrapR rs false (outer x pa t)
structure Ctn (d : DB) (pa : Bool) (t : List UInt8) : Prop where
  shows : d.shows outF (ab t)
  para : pa = true → ∃ nb tt s e, d = paraDB nb tt s e [97]
  other : pa = false → ∃ ty q, d.v = .iface ty (.pointer q) ∧ ty ≠ ty_P_Paragraph ∧ ty ≠ ty_P_Text
  pos : ∃ s e, d.posIs s e ∧ s < 1000000000 ∧ e < 1000000000
  txs : ∀ x ∈ d.txs, x.raw = [97]
theorem Ctn.kind {d : DB} {pa : Bool} {t : List UInt8} (h : Ctn d pa t) : d.kindOK := by
  cases pa with
  | true => obtain ⟨nb, tt, s, e, rfl⟩ := h.para rfl; exact .inl ⟨_, _, _, _, _, rfl⟩
  | false => obtain ⟨ty, q, h1, h2, _⟩ := h.other rfl; exact .inr ⟨ty, q, h1, h2⟩
theorem DB.shows.as {F : List UInt8 → List UInt8 → List UInt8} {d : DB} {f g : List UInt8 → List UInt8} (h : d.shows F f) (e : f = g) : d.shows F g := e ▸ h
theorem ctn_quote {nb s e : Nat} {q : Option Addr} {n c : Nat} {IM : List Chunk} {d : DB} {pa : Bool} {t : List UInt8} (hS : Sl 1 ty_Block q n c [d.v] IM) (hn : n < 1000000) (hs : s < 1000000000 ∧ e < 1000000000) (h : Ctn d pa t) : Ctn (quoDB nb s e q n c IM [d]) false (outer false pa t) := by
  refine ⟨(quote_shows (nb := nb) (s := s) (e := e) (D := [d]) hS (by omega) (.cons h.shows .nil)).as ?_, fun hh => absurd hh (by decide), fun _ => ⟨ty_P_Quote, _, rfl, by decide, by decide⟩, ⟨s, e, posIs_of pos_Quote rfl (.head _), hs⟩, ?_⟩
  · funext l
    show ab t (l ++ bqO) ++ bqC = _
    simp [ab, outer]
  · intro x hx
    refine h.txs x ?_
    simpa [quoDB, txsC] using hx
theorem ctn_list {nb s e : Nat} {num : Int} {lo : Bool} {q : Option Addr} {n c : Nat} {IM : List Chunk} {i i' : IT} {d : DB} {pa : Bool} {t : List UInt8} (hS : Sl 1 ty_Block q n c [i.v] IM) (hn : n < 1000000) (hs : s < 1000000000 ∧ e < 1000000000) (h : Ctn d pa t) (hD : i.D = [d]) (hi : Ret [i] [i']) :
    Ctn (lisDB nb s e 45 num lo q n c IM [i']) false (outer true pa t) := by
  cases hi with
  | cons h1 h2 h3 =>
    have ed : i'.D = [tightDB d] := by rw [h1]; show i.D.map tightDB = _; rw [hD]; rfl
    have ev : i'.v = i.v := by rw [h1]; rfl
    have hsh : ∃ k, ShowT outF i'.D (ab k) ∧ itemHd (i'.D.map DB.v) ++ k = (if pa then [97] else 10 :: t) := by
      rw [ed]
      cases pa with
      | true =>
        obtain ⟨nb', tt, s', e', rfl⟩ := h.para rfl
        refine ⟨[97], .one h.kind.ifc.2 (text_shows.as ?_), ?_⟩
        · show outF [97] = ab [97]
          unfold outF
          rw [show escS htmlPs (trimLR isST [97]) = [97] by decide]
        · rw [tightDB_para, if_pos rfl, List.map_cons, itemHd_cons, show isText (.iface ty_P_Text (.pointer (some ⟨tt, 0, none⟩))) = true by simp [isText]]
          rfl
      | false =>
        obtain ⟨ty, q', hv, n1, n2⟩ := h.other rfl
        rw [tightDB_other hv n1]
        refine ⟨t, .one ⟨ty, q', hv⟩ h.shows, ?_⟩
        have : isText d.v = false := by
          rw [hv]
          show Nat.beq ty ty_P_Text = false
          cases hb : Nat.beq ty ty_P_Text with
          | false => rfl
          | true => exact absurd (Nat.eq_of_beq_eq_true hb) n2
        rw [List.map_cons, itemHd_cons, this]
        rfl
    obtain ⟨k, hk1, hk2⟩ := hsh
    have hit := item_shows h2 hk1
    refine ⟨(list_shows (nb := nb) (s := s) (e := e) (bul := 45) (num := num) (lo := lo) (items := [i']) ⟨by decide, by decide⟩ (by show Sl 1 ty_Block q n c [i'.v] IM; rw [ev]; exact hS) (by omega) (.cons hit .nil)).as ?_, fun hh => absurd hh (by decide), fun _ => ⟨ty_P_List, _, rfl, by decide, by decide⟩, ⟨s, e, posIs_of pos_List rfl (.head _), hs⟩, ?_⟩
    · funext l
      show (ab k (l ++ ulO ++ liO ++ itemHd (i'.D.map DB.v)) ++ liC) ++ ulC = _
      have : outer true pa t = ulO ++ liO ++ (itemHd (i'.D.map DB.v) ++ k) ++ liC ++ ulC := by rw [hk2]; rfl
      rw [this]
      simp [ab]
    · intro x hx
      refine h.txs x ?_
      have e1 : txsC [tightDB d] = d.txs := by rw [show txsC [tightDB d] = (tightDB d).txs by simp [txsC], (tightDB_own h.kind).2]
      have : x ∈ txsC i'.D := by simpa [lisDB, txsC, IT.db] using hx
      rw [ed, e1] at this
      exact this
end Go.Proofs.YtihmcipajjakgaaGreatDoor


set_option linter.unusedVariables false
namespace Go.Proofs.YtihmcipajjakgaaGreatDoor
open Go.Proofs Go.IntWalk Go.RowKit
variable {σ : Out} {w : World} {L L' : List Chunk} {R : Ending → World → Prop}
theorem trim_step {X : OA → Int → WP} {b k : Nat} {fs : List Bk} {lf : Leaf} {p : PS} (hX : ∀ x0 x1 w, g_parseState_trimStack.bl1 R X x0 x1 w → X x0 x1 w) (h : DocC σ b L fs lf p w) (hk : k < fs.length)
    (hc : callE P i_parseState_closeBlock #[.pointer (some ⟨b, 0, none⟩)] (fun e w6 => ∃ (r5 : Value), e = .returned r5 ∧ X (some ⟨b, 0, none⟩) (k : Int) w6) w) : X (some ⟨b, 0, none⟩) (k : Int) w := by
  obtain ⟨M, TM, lobs, LM, hs, ht, hok, hL, h⟩ := h
  have hn := hs.2.1
  rw [List.length_append, List.length_map] at hn
  refine hX _ _ _ (nilP_some ?_)
  refine ⟨_, _, _, Sat.ld h (by first | assumption | (repeat (first | exact .head _ | apply List.Mem.tail))) (by exact rfl), ?_⟩
  rw [hn]
  exact br_true (by simp; omega) hc
theorem snoc_of {α : Type} {l gs : List α} {a top : α} (h : l ++ [a] = gs ++ [top]) : l = gs ∧ a = top := by
  have := List.append_inj' h rfl
  exact ⟨this.1, by simpa using this.2⟩
theorem base_ln {p p' : PS} (h : p'.base = p.base) : p'.pz = p.pz := by have := congrArg PS.pz h; exact this
theorem deep_close {op : Opt} {b pb : Nat} {root : Bk} (hr : root.isRoot) (hrD : root.D = []) (htask : op.task = false) {X : OA → Int → WP} (hX : ∀ x0 x1 w, g_parseState_trimStack.bl1 R X x0 x1 w → X x0 x1 w) (hop : op.at pb ∈ L) {out : List UInt8} {p0 : PS}
    (hN : ∀ w (p' : PS) root' d pa, p'.base = p0.base → root'.isRoot → root'.D = [d] → Ctn d pa out → DocC σ b L [root'] .none p' w → X (some ⟨b, 0, none⟩) 0 w) (hpz : p0.pz = some ⟨pb, 0, none⟩) :
    ∀ (rs : List Bool) (fs gs : List Bk) (top top' : Bk) (d : DB) (pa : Bool) (t : List UInt8) (p : PS) (w : World), FF rs fs → root :: fs = gs ++ [top] → top'.like top → top'.D = [d] → Ctn d pa t → p.base = p0.base → wrapR rs pa t = out → rs.length < 1000 → DocC σ b L (gs ++ [top']) .none p w → X (some ⟨b, 0, none⟩) 0 w := by
  have hpzp : ∀ p : PS, p.base = p0.base → p.pz = some ⟨pb, 0, none⟩ := fun p hb => by rw [base_ln hb]; exact hpz
  have h0D : ∀ {rs : List Bool} {fs gs : List Bk} {par : Bk}, FF rs fs → root :: fs = gs ++ [par] → par.D = [] := by
    intro rs fs gs par hF he
    have hm : par ∈ root :: fs := by rw [he]; simp
    rcases List.mem_cons.1 hm with rfl | hm
    · exact hrD
    · exact hF.D par hm
  intro rs
  induction rs with
  | nil =>
    intro fs gs top top' d pa t p w hF he hlk hD hC hb hw hlen h
    cases hF
    have he : [] ++ [root] = gs ++ [top] := he
    obtain ⟨rfl, rfl⟩ := snoc_of he
    obtain ⟨rb, h1, h2⟩ := hr
    exact hN w p top' d pa hb ⟨rb, hlk.1.trans h1, hlk.2.2.2.trans h2⟩ hD (hw ▸ hC) h
  | cons x rs ih =>
    intro fs gs top top' d pa t p w hF he hlk hD hC hb hw hlen h
    simp only [List.length_cons] at hlen
    cases hF with
    | @quote _ fs f hF hq hfD =>
      rw [← List.cons_append] at he
      obtain ⟨rfl, rfl⟩ := snoc_of he
      obtain ⟨gs', par, ty, v, eg, _⟩ := hF.top hr
      rw [eg] at h
      have hpD := h0D hF eg
      obtain ⟨qb, q1, q2⟩ := hq
      have hfo : ∀ g ∈ gs' ++ [par] ++ [top'], Bk.ok g := h.choose_spec.choose_spec.choose_spec.choose_spec.2.2.1
      have hto := hfo top' (by simp)
      rw [List.append_assoc] at h
      refine trim_step (k := 0) hX h (by simp) ?_
      refine closeQuoteC h ⟨qb, hlk.1.trans q1, hlk.2.2.2.trans q2⟩ (by rw [hpD]; decide) fun w par' nb y e1 e2 h => ⟨_, rfl, ?_⟩
      have hn : top'.ob.n < 1000000 := by have := hto.1.1; rw [hD] at this; simp at this; omega
      have hS := hto.1
      rw [hD] at hS
      rw [hpD, hD] at e2
      exact ih fs gs' par par' _ false (outer false pa t) { p with stn := gs'.length + 1 } w hF eg e1 e2 (ctn_quote hS hn hto.2.2 hC) hb hw (by omega) h
    | @list _ fs f g lb it hF hf hfD hg hgD =>
      have he : (root :: (fs ++ [f])) ++ [g] = gs ++ [top] := by rw [← he]; simp
      obtain ⟨rfl, rfl⟩ := snoc_of he
      obtain ⟨gs', par, ty, v, eg, _⟩ := hF.top hr
      have hpD := h0D hF eg
      have hpos := hC.pos
      obtain ⟨ib, i1, i2⟩ := hg
      have h : DocC σ b L ((root :: fs) ++ [f, top']) .none p w := by simpa using h
      refine trim_step (k := 0) hX h (by simp) ?_
      refine closeItemC h ⟨ib, hlk.1.trans i1, hlk.2.2.2.trans i2⟩ hf (by rw [hfD]; decide) fun w f' nb y l1 l2 l3 l4 io h => ⟨_, rfl, ?_⟩
      rw [hfD] at l4
      generalize hii : (IT.mk nb top'.ob.s top'.ob.e top'.ob.q top'.ob.n top'.ob.c 2 top'.IM top'.D) = ii at l4 io
      have hiD : ii.D = [d] := by rw [← hii]; exact hD
      rw [eg] at h
      have hfo : ∀ g ∈ gs' ++ [par] ++ [f'], Bk.ok g := h.choose_spec.choose_spec.choose_spec.choose_spec.2.2.1
      have hto := hfo f' (by simp)
      have hS := hto.1
      rw [l4] at hS
      have hn : f'.ob.n < 1000000 := by have := hS.1; simp at this; omega
      rw [List.append_assoc] at h
      refine trim_step (k := 0) hX h (by simp) ?_
      obtain ⟨s0, e0, hp0, hp1, hp2⟩ := hpos
      refine closeListC (op := op) (pb := pb) (items := [ii]) (pos := fun _ => (s0, e0)) h l1 (by rw [l4]; rfl) (by simp) (fun i hi => ?_) (hpzp _ hb) hop htask (by rw [hpD]; decide) fun w p' par' nb2 e items' y b1 b2 b3 b4 e1 htg hie e2 h => ⟨_, rfl, ?_⟩
      · obtain rfl := List.mem_singleton.1 hi
        refine ⟨io, fun d' hd' => ?_⟩
        rw [hiD] at hd'
        obtain rfl := List.mem_singleton.1 hd'
        exact ⟨hC.kind, hp0, hp1, hp2⟩
      · have hgap : gapI (fun _ => (s0, e0)) [ii] = false := by simp [gapI, hiD, gapD]
        rw [hgap] at htg e2
        have hret : Ret [ii] items' := by
          rcases htg with ⟨hh, _⟩ | ⟨_, hh⟩
          · exact absurd hh (by decide)
          · exact hh
        obtain ⟨i', rfl⟩ : ∃ i', items' = [i'] := by
          cases hret with
          | cons _ _ hrest => cases hrest; exact ⟨_, rfl⟩
        obtain ⟨i0, hi0, rfl⟩ := hie
        obtain rfl := List.mem_singleton.1 hi0
        rw [hpD] at e2
        exact ih fs gs' par par' _ false (outer true pa t) p' w hF eg e1 e2 (ctn_list hS hn ⟨hto.2.2.1, io.se.2⟩ hC hiD hret) (b1.trans hb) hw (by omega) h
theorem ctn_para {nb tt s e : Nat} (hs : s < 1000000000) (he : e < 1000000000) : Ctn (paraDB nb tt s e [97]) true pT := by
  refine ⟨paraDB_shows.as ?_, fun _ => ⟨_, _, _, _, rfl⟩, fun hh => absurd hh (by decide), ⟨s, e, posIs_of pos_Paragraph rfl (.head _), hs, he⟩, ?_⟩
  · funext l
    show outF [97] (l ++ pOpen) ++ pClose = _
    unfold outF
    rw [show escS htmlPs (trimLR isST [97]) = [97] by decide]
    simp [ab, pOpen, pClose, pT]
  · intro x hx
    obtain rfl := List.mem_singleton.1 hx
    rfl
theorem html_deep {s : List Bool} (hs : s.length ≤ 40) : ParsesTo optOff (marks s ++ [97, 10]) (wrapR s.reverse true pT) := by
  have hm : ∀ c ∈ marks s, c = 45 ∨ c = 32 ∨ c = 62 := by
    intro c hc
    obtain ⟨x, _, hx⟩ := List.mem_flatMap.1 hc
    unfold mark1 at hx
    split at hx <;> simp at hx <;> rcases hx with rfl | rfl <;> decide
  have hml : (marks s).length ≤ 80 := by
    have : ∀ s : List Bool, (marks s).length = 2 * s.length := by
      intro s; induction s with
      | nil => rfl
      | cons a s ih => show (mark1 a ++ marks s).length = _; rw [List.length_append, ih]; cases a <;> simp [mark1] <;> omega
    rw [this]; omega
  have hno : ∀ d : UInt8, d ≠ 45 → d ≠ 32 → d ≠ 62 → d ≠ 97 → d ∉ marks s ++ [97] := by
    intro d h1 h2 h3 h4 hd
    rcases List.mem_append.1 hd with hd | hd
    · rcases hm d hd with h | h | h
      · exact h1 h
      · exact h2 h
      · exact h3 h
    · exact h4 (by simpa using hd)
  have hL : LinesOf (marks s ++ [97, 10]) [(marks s ++ [97], 10)] := by
    have := LinesOf.cons (l := marks s ++ [97]) (t := []) (ls := []) ⟨hno 10 (by decide) (by decide) (by decide) (by decide), hno 13 (by decide) (by decide) (by decide) (by decide)⟩ .nil
    simpa using this
  have key : ParsesToL [] optOff (marks s ++ [97, 10]) (wrapR s.reverse true pT) := by
    refine parses_docC (F := outF) hL (fun h0 => ?_) (by simp; omega)
      (fun rem fs lf => (rem = [(marks s ++ [97], 10)] ∧ lf = .none ∧ ∃ root, fs = [root] ∧ root.isRoot ∧ root.D = []) ∨ (rem = [] ∧ lf = .para [[97]] ∧ ∃ root fs', fs = root :: fs' ∧ root.isRoot ∧ root.D = [] ∧ FF s.reverse fs'))
      (fun root hr hD => .inl ⟨rfl, rfl, root, rfl, hr, hD⟩) ?_ ?_
    · have h0 : (0 : UInt8) ∈ (marks s ++ [97]) ++ [10] := by simpa using h0
      rcases List.mem_append.1 h0 with h0 | h0
      · exact hno 0 (by decide) (by decide) (by decide) (by decide) h0
      · exact absurd h0 (by decide)
    · rintro l nl rem fs lf (⟨hrem, rfl, root, rfl, hr, hD⟩ | ⟨hrem, _⟩) σ R L b pb p w hL0 hop hpz hno' h hR
      · simp only [List.cons.injEq, Prod.mk.injEq] at hrem
        obtain ⟨⟨rfl, rfl⟩, rfl⟩ := hrem
        obtain ⟨x, r, hx, hxs⟩ := marks_head s
        have hlo : (lnOf (marks s ++ [97]) 10).ok := lnOf_ok (by simp; omega)
        have hh : (lnOf (marks s ++ [97]) 10).has x r := ⟨hlo, rfl, hx⟩
        obtain ⟨M, TM, lobs, LM, hs', ht, hok, ⟨rfl, rfl⟩, h⟩ := h
        refine g_parseState_addLine.sound ?_
        refine Sat.bx h fun b1 w h => ?_
        repeat (first | refine nilP_some ?_ | refine Sat.tk h fun w h => ?_ | refine ⟨_, Sat.ld h (by first | assumption | (repeat (first | exact .head _ | apply List.Mem.tail))) (by exact rfl), ?_⟩ | refine ⟨_, _, _, Sat.ld h (by first | assumption | (repeat (first | exact .head _ | apply List.Mem.tail))) (by exact rfl), ?_⟩ | refine Sat.st h (k := 0) rfl (Nat.le_of_ble_eq_true rfl) trivial (by first | (dsimp only [List.set]; exact rfl) | exact rfl) fun w h => ?_ | refine Sat.st h (k := 1) rfl (Nat.le_of_ble_eq_true rfl) trivial (by first | (dsimp only [List.set]; exact rfl) | exact rfl) fun w h => ?_ | refine Sat.st h (k := 2) rfl (Nat.le_of_ble_eq_true rfl) trivial (by first | (dsimp only [List.set]; exact rfl) | exact rfl) fun w h => ?_ | refine Sat.st h (k := 3) rfl (Nat.le_of_ble_eq_true rfl) trivial (by first | (dsimp only [List.set]; exact rfl) | exact rfl) fun w h => ?_ | refine Sat.st h (k := 4) rfl (Nat.le_of_ble_eq_true rfl) trivial (by first | (dsimp only [List.set]; exact rfl) | exact rfl) fun w h => ?_ | refine Sat.st h (k := 5) rfl (Nat.le_of_ble_eq_true rfl) trivial (by first | (dsimp only [List.set]; exact rfl) | exact rfl) fun w h => ?_ | refine Sat.st h (k := 6) rfl (Nat.le_of_ble_eq_true rfl) trivial (by first | (dsimp only [List.set]; exact rfl) | exact rfl) fun w h => ?_ | refine Sat.bx h fun b0 w h => ?_)
        let p1 : PS := { p with depth := 0 }
        have h : Sat σ _ ((lnOf (marks s ++ [97]) 10).at b1 :: p1.at b :: (M ++ (TM ++ (memFs [root] ++ ([] ++ L))))) := h
        intro X hX
        refine hX _ _ _ ?_
        repeat (first | refine nilP_some ?_ | refine Sat.tk h fun w h => ?_ | refine ⟨_, Sat.ld h (by first | assumption | (repeat (first | exact .head _ | apply List.Mem.tail))) (by exact rfl), ?_⟩ | refine ⟨_, _, _, Sat.ld h (by first | assumption | (repeat (first | exact .head _ | apply List.Mem.tail))) (by exact rfl), ?_⟩)
        have hn : p1.stn = 1 := hs'.2.1
        rw [hn]
        refine br_false rfl ?_
        refine isBlank_ok h (by first | assumption | (repeat (first | exact .head _ | apply List.Mem.tail))) hlo fun w h => ⟨_, rfl, ?_⟩
        rw [hh.blank hxs]
        refine br_false rfl ?_
        have hd : DocC σ b ((lnOf (marks s ++ [97]) 10).at b1 :: L) [root] .none p1 w := ⟨M, TM, [], [], hs'.of rfl rfl rfl, ht.of rfl rfl rfl, hok, ⟨rfl, rfl⟩, h.re (by intro _; simp only [List.append_eq, cnt_append, cnt_cons, cnt_nil] <;> omega)⟩
        refine deep_ok (op := optOff) (pb := pb) hr s [] [] p1 _ w _ .nil hlo rfl rfl hd rfl (by simp; omega) (Runs.top b b1) hpz hop hno' fun w p' fs' e1 e2 e3 h => ?_
        rw [List.append_nil] at e3
        exact hR w p' _ _ e1 e2 (.inr ⟨rfl, rfl, root, fs', rfl, hr, hD, e3⟩) h
      · simp at hrem
    · rintro fs lf (⟨hrem, _⟩ | ⟨_, rfl, root, fs', rfl, hr, hD, hF⟩)
      · simp at hrem
      · intro σ R L b pb p w X hX hop hpz h hN
        have hFl := hF.len
        simp only [List.length_reverse] at hFl
        obtain ⟨gs, top, ty, v, eg, _⟩ := hF.top hr
        have htD : top.D = [] := by
          have hm : top ∈ root :: fs' := by rw [eg]; simp
          rcases List.mem_cons.1 hm with rfl | hm
          · exact hD
          · exact hF.D top hm
        have htx : txF (gs ++ [top]) = [] := by
          rw [← eg]
          have : ∀ f ∈ root :: fs', f.D = [] := by
            intro f hf
            rcases List.mem_cons.1 hf with rfl | hf
            · exact hD
            · exact hF.D f hf
          unfold txF
          rw [List.flatMap_eq_nil_iff]
          intro f hf
          rw [this f hf]; rfl
        rw [eg] at h
        have hj : joinL [10] [[97]] = ([97] : List UInt8) := rfl
        refine trim_step (k := 0) hX h (by simp) ?_
        refine closeParaC h (Leaf.fin.toN (lf := .para [[97]]) ⟨by decide, by decide, by decide⟩) (by rw [htD]; decide) (by rw [htx]; decide) fun w p' top' nb tt s1 e1 y c1 c2 c3 c4 lk lD le ls1 h => ⟨_, rfl, ?_⟩
        rw [htD, hj] at lD
        refine deep_close (op := optOff) hr hD rfl hX hop (p0 := p) (out := wrapR s.reverse true pT) (fun w p2 root' d pa b1 b2 b3 b4 h => ?_) hpz s.reverse fs' gs top top' _ true pT p' w hF eg lk lD (ctn_para ls1 (by rw [le]; simp; omega)) c1 rfl (by simp; omega) h
        refine hN w p2 root' b1 b2 ?_ h
        rw [b3]
        refine ⟨[ab (wrapR s.reverse true pT)], .cons b4.shows .nil, ?_, fun x hx => ?_⟩
        · show ab (wrapR s.reverse true pT) [] = _
          simp [ab]
        · have : x.raw = [97] := b4.txs x (by simpa [txsC] using hx)
          rw [this]
          show InlineOK optOff [97] (ab (escS htmlPs (trimLR isST [97])))
          exact plainText_inline (s := [97]) rfl (by decide) (by intro c hc; rw [show trimLR isST [97] = [97] from by decide] at hc; simp only [List.mem_singleton] at hc; subst hc; exact ⟨rfl, by decide⟩) (by decide)
  exact fun σ R L w pb => key σ R L w pb (by simp)
end Go.Proofs.YtihmcipajjakgaaGreatDoor


namespace Go.Proofs.YtihmcipajjakgaaGreatDoor
open Go.Proofs
def LArg (σ : Out) (L : List Chunk) (q : Option Addr) (n : Nat) (vs : List Bool) : Prop :=
  n = vs.length ∧ ∀ i (hi : i < vs.length), ∃ a, q = some a ∧ ∀ w, Sat σ w L → w.cell? (a.add i) = some (.bool vs[i])
end Go.Proofs.YtihmcipajjakgaaGreatDoor


set_option linter.unusedVariables false
namespace Go.Proofs.YtihmcipajjakgaaGreatDoor
open Go.Proofs Go.IntWalk Go.RowKit
variable {σ : Out} {w : World} {L L' : List Chunk} {R : Ending → World → Prop}
def deepO : List Bool → List UInt8
  | [] => pT
  | x :: s => outer x s.isEmpty (deepO s)
theorem wrapR_snoc (x : Bool) : ∀ (rs : List Bool) (pa : Bool) (t : List UInt8), wrapR (rs ++ [x]) pa t = outer x (rs.isEmpty && pa) (wrapR rs pa t)
  | [], pa, t => by simp [wrapR]
  | y :: rs, pa, t => by
    show wrapR (rs ++ [x]) false (outer y pa t) = _
    rw [wrapR_snoc x rs false (outer y pa t), Bool.and_false]
    rfl
theorem deepO_wrap (s : List Bool) : wrapR s.reverse true pT = deepO s := by
  induction s with
  | nil => rfl
  | cons x s ih =>
    rw [List.reverse_cons, wrapR_snoc, ih, Bool.and_true]
    show outer x s.reverse.isEmpty _ = outer x s.isEmpty _
    rw [List.isEmpty_reverse]
theorem deepO_len (s : List Bool) : (deepO s).length ≤ 10 + 40 * s.length := by
  induction s with
  | nil => decide
  | cons x s ih =>
    show (outer x s.isEmpty (deepO s)).length ≤ _
    unfold outer
    split
    · split <;> simp [ulO, liO, liC, ulC] <;> omega
    · simp [bqO, bqC]; omega
theorem fnDeep_ok {q : Option Addr} {n c : Nat} {s : List Bool} (hA : LArg σ L q n s) (h : Sat σ w L) (hR : ∀ w, Sat σ w L → R (.returned (.bool true)) w) : callE P i_laws_FnDeep #[.slice q n c] R w := by
  obtain ⟨hn, hcell⟩ := hA
  refine g_laws_FnDeep.sound ?_
  refine br_split (fun _ => hR _ h) fun hg => ?_
  refine br_split (fun _ => hR _ h) fun hg => ?_
  have hs : s.length ≤ 40 := by rw [hn] at hg; simp at hg; omega
  have hmax : IntKind.i64.max = 9223372036854775807 := rfl
  have b2 : ∀ s t : List UInt8, s.length + t.length < 1000000000 → (((bs s).size + (bs t).size : Nat) : Int) ≤ IntKind.i64.max := by intro s t hs; rw [hmax, bs_size, bs_size]; omega
  have hlen := deepO_len s
  have hml : ∀ s : List Bool, (marks s).length = 2 * s.length := by
    intro s; induction s with
    | nil => rfl
    | cons a s ih => show (mark1 a ++ marks s).length = _; rw [List.length_append, ih]; cases a <;> simp [mark1] <;> omega
  have k2 : ∀ (x4 x5 x9 : List UInt8), x4 ++ x9 ++ x5 = deepO s → g_laws_FnDeep.k2 R (bs (marks s)) (bs x4) (bs x5) (bs x9) w := by
    intro x4 x5 x9 he
    have hl : x4.length + x9.length + x5.length = (deepO s).length := by rw [← he]; simp; omega
    have hmls := hml s
    unfold g_laws_FnDeep.k2
    rw [show ByteArray.mk #[97, 10] = bs [97, 10] from rfl]
    simp only [bs_append]
    refine ⟨b2 _ _ (by simp; omega), ?_⟩
    show callE P i_impl_HTML #[optV optOff, .string (bs (marks s ++ [97, 10]))] _ w
    refine html_ok (html_deep hs) (by rw [deepO_wrap]; omega) h fun w h => ⟨_, rfl, b2 _ _ (by omega), b2 _ _ (by simp; omega), ?_⟩
    rw [deepO_wrap, he]
    simpa using hR w h
  intro X hX
  have key : ∀ (suf pre : List Bool) (x4 x5 : List UInt8), pre ++ suf = s → (suf ≠ [] → x4 ++ deepO suf ++ x5 = deepO s) → (suf = [] → x4 ++ (if s.getLast? = some true then [97] else pT) ++ x5 = deepO s) → x4.length + x5.length ≤ (deepO s).length →
      X q n c (bs (marks pre)) (bs x4) (bs x5) q n c (n : Int) (pre.length : Nat) w := by
    intro suf
    induction suf with
    | nil =>
      intro pre x4 x5 he _ hfin _
      rw [List.append_nil] at he
      subst he
      have hfin := hfin rfl
      refine hX _ _ _ _ _ _ _ _ _ _ _ _ (br_false (by rw [hn]; simp) ?_)
      by_cases hp0 : pre = []
      · refine br_false (by rw [hn, hp0]; rfl) ?_
        rw [hp0] at hfin
        rw [← hp0] at hfin
        exact k2 x4 x5 pT (by rw [hp0] at hfin ⊢; exact hfin)
      · have hpos : 0 < pre.length := List.length_pos_iff.2 hp0
        have hw1 : IntKind.i64.wrap ((n : Int) - 1) = ((pre.length - 1 : Nat) : Int) := by rw [i64_in _ (by omega)]; omega
        refine br_true (by rw [hn]; simp; omega) ?_
        rw [hw1]
        obtain ⟨a, rfl, hc⟩ := hcell (pre.length - 1) (by omega)
        refine ⟨by omega, by omega, nilP_some ?_⟩
        simp only [Int.toNat_natCast, Nat.mul_one]
        refine ⟨_, hc w h, ?_⟩
        have hgl : pre.getLast? = some pre[pre.length - 1] := by rw [List.getLast?_eq_getElem?]; exact List.getElem?_eq_getElem _
        rw [hgl] at hfin
        cases hv : pre[pre.length - 1] with
        | true =>
          rw [hv, if_pos rfl] at hfin
          exact br_true rfl (k2 x4 x5 [97] hfin)
        | false =>
          rw [hv, if_neg (by simp)] at hfin
          exact br_false rfl (k2 x4 x5 pT hfin)
    | cons v suf ih =>
      intro pre x4 x5 he hmid _ hbd
      have hmid := hmid (by simp)
      have hlt : pre.length < s.length := by rw [← he]; simp
      have hgv : s[pre.length] = v := by simp [← he]
      obtain ⟨a, hq, hc⟩ := hcell pre.length hlt
      have hc := hc w h
      rw [hgv] at hc
      refine hX _ _ _ _ _ _ _ _ _ _ _ _ (br_true (by rw [hn]; simp; omega) ⟨by omega, by omega, ?_⟩)
      rw [hq]
      refine nilP_some ?_
      simp only [Int.toNat_natCast, Nat.mul_one]
      refine ⟨_, hc, ?_⟩
      rw [i64_inc (by omega)]
      have hmp : marks (pre ++ [v]) = marks pre ++ mark1 v := by simp [marks]
      have hmpl := hml pre
      have hnext := fun x4 x5 => ih (pre ++ [v]) x4 x5 (by rw [← he]; simp)
      rw [hmp] at hnext
      have hpl : (pre ++ [v]).length = pre.length + 1 := by simp
      rw [hpl] at hnext
      have hlen2 : (deepO s).length ≤ 10 + 40 * s.length := hlen
      unfold g_laws_FnDeep.k1
      rw [i64_inc (by omega)]
      rw [show ByteArray.mk #[45, 32] = bs [45, 32] from rfl, show ByteArray.mk #[62, 32] = bs [62, 32] from rfl, show ByteArray.mk #[60, 117, 108, 62, 10, 60, 108, 105, 62, 10] = bs (ulO ++ liO ++ [10]) from rfl, show ByteArray.mk #[60, 117, 108, 62, 10, 60, 108, 105, 62] = bs (ulO ++ liO) from rfl,
        show ByteArray.mk #[60, 47, 108, 105, 62, 10, 60, 47, 117, 108, 62, 10] = bs (liC ++ ulC) from rfl, show ByteArray.mk #[60, 98, 108, 111, 99, 107, 113, 117, 111, 116, 101, 62, 10] = bs bqO from rfl, show ByteArray.mk #[60, 47, 98, 108, 111, 99, 107, 113, 117, 111, 116, 101, 62, 10] = bs bqC from rfl]
      simp only [bs_append]
      have l1 : ulO.length = 5 := rfl
      have l2 : liO.length = 4 := rfl
      have l3 : liC.length = 6 := rfl
      have l4 : ulC.length = 6 := rfl
      have l5 : bqO.length = 13 := rfl
      have l6 : bqC.length = 14 := rfl
      have hmid' := congrArg List.length hmid
      rw [hq] at hnext
      cases suf with
      | nil =>
        have hni : decide (((pre.length + 1 : Nat) : Int) < (n : Int)) = false := by rw [hn, ← he]; simp
        rw [hni, Bool.and_false]
        have hlast : s.getLast? = some v := by rw [← he]; simp
        refine br_false rfl ?_
        have hdO : deepO [v] = outer v true pT := rfl
        rw [hdO] at hmid hmid'
        cases v with
        | true =>
          refine br_true rfl ⟨b2 _ _ (by first | omega | (simp; omega)), b2 _ _ (by first | omega | (simp; omega)), b2 _ _ (by first | omega | (simp; omega)), ?_⟩
          refine hnext (x4 ++ (ulO ++ liO)) (liC ++ ulC ++ x5) (fun hh => absurd rfl hh) (fun _ => ?_) (by rw [← hmid]; simp [outer]; omega)
          rw [hlast, if_pos rfl, ← hmid]
          simp [outer]
        | false =>
          refine br_false rfl ⟨b2 _ _ (by first | omega | (simp; omega)), b2 _ _ (by first | omega | (simp; omega)), b2 _ _ (by first | omega | (simp; omega)), ?_⟩
          refine hnext (x4 ++ bqO) (bqC ++ x5) (fun hh => absurd rfl hh) (fun _ => ?_) (by rw [← hmid]; simp [outer]; omega)
          rw [hlast, if_neg (by simp), ← hmid]
          simp [outer]
      | cons v2 suf =>
        have hni : decide (((pre.length + 1 : Nat) : Int) < (n : Int)) = true := by rw [hn, ← he]; simp; omega
        rw [hni, Bool.and_true]
        have hdO : deepO (v :: v2 :: suf) = outer v false (deepO (v2 :: suf)) := rfl
        rw [hdO] at hmid hmid'
        cases v with
        | true =>
          refine br_true rfl ⟨b2 _ _ (by first | omega | (simp; omega)), b2 _ _ (by first | omega | (simp; omega)), b2 _ _ (by first | omega | (simp; omega)), ?_⟩
          refine hnext (x4 ++ (ulO ++ liO ++ [10])) (liC ++ ulC ++ x5) (fun _ => ?_) (fun hh => absurd hh (by simp)) (by rw [← hmid]; simp [outer]; omega)
          rw [← hmid]
          simp [outer]
        | false =>
          refine br_false rfl (br_false rfl ⟨b2 _ _ (by first | omega | (simp; omega)), b2 _ _ (by first | omega | (simp; omega)), b2 _ _ (by first | omega | (simp; omega)), ?_⟩)
          refine hnext (x4 ++ bqO) (bqC ++ x5) (fun _ => ?_) (fun hh => absurd hh (by simp)) (by rw [← hmid]; simp [outer]; omega)
          rw [← hmid]
          simp [outer]
  exact key s [] [] [] rfl (fun _ => by simp) (fun hh => by subst hh; rfl) (by simp)
end Go.Proofs.YtihmcipajjakgaaGreatDoor


set_option linter.unusedVariables false
namespace Go.Proofs.YtihmcipajjakgaaGreatDoor
open Go.Proofs Go.IntWalk Go.RowKit
variable {σ : Out} {w : World} {L L' : List Chunk} {R : Ending → World → Prop}
def punB (c : UInt8) : Bool := (((decide (33 ≤ c.toNat) && decide (c.toNat ≤ 47)) || (decide (58 ≤ c.toNat) && decide (c.toNat ≤ 64))) || (decide (91 ≤ c.toNat) && decide (c.toNat ≤ 96))) || (decide (123 ≤ c.toNat) && decide (c.toNat ≤ 126))
inductive Tok where
  | lit (c : UInt8)
  | esc (c : UInt8)
  | nl
def Tok.bytes : Tok → List UInt8
  | .lit c => [c]
  | .esc c => [92, c]
  | .nl => [10]
def Tok.out : Tok → List UInt8
  | .lit c => escB htmlPs c
  | .esc c => escB htmlPs c
  | .nl => [10]
def Tok.ok (o : Opt) : Tok → Prop
  | .lit c => parserOf o c = .nil ∧ c ≠ 93
  | .esc c => punB c = true
  | .nl => True
end Go.Proofs.YtihmcipajjakgaaGreatDoor


set_option linter.unusedVariables false
namespace Go.Proofs.YtihmcipajjakgaaGreatDoor
open Go.Proofs Go.IntWalk Go.RowKit
variable {σ : Out} {w : World} {L L' : List Chunk} {R : Ending → World → Prop}
def SArg (σ : Out) (L : List Chunk) (q : Option Addr) (n : Nat) (ls : List (List UInt8)) : Prop :=
  n = ls.length ∧ ∀ i (hi : i < ls.length), ∃ a, q = some a ∧ ∀ w, Sat σ w L → w.cell? (a.add i) = some (.string (bs ls[i]))
theorem SArg.mono {q : Option Addr} {n : Nat} {ls : List (List UInt8)} (h : SArg σ L q n ls) (hL : ∀ w, Sat σ w L' → Sat σ w L) : SArg σ L' q n ls :=
  ⟨h.1, fun i hi => by obtain ⟨a, h1, h2⟩ := h.2 i hi; exact ⟨a, h1, fun w hw => h2 w (hL w hw)⟩⟩
end Go.Proofs.YtihmcipajjakgaaGreatDoor


set_option linter.unusedVariables false
set_option linter.constructorNameAsVariable false
namespace Go.Proofs.YtihmcipajjakgaaGreatDoor
open Go.Proofs Go.ChangeShapes Go.WideShapes
theorem heap_of_sat {W W' : World} (h : Sat (outOf W) W' (allBlocks W)) {b : Nat} (hb : b < W.heap.size) : W'.heap[b]? = W.heap[b]? := by
  have hm : (b, W.heap[b]) ∈ allBlocks W := List.mem_map.2 ⟨(W.heap[b], b), List.mem_zipIdx_iff_getElem?.2 (by simp [hb]), rfl⟩
  rw [h.at_ _ hm, Array.getElem?_eq_getElem hb]
theorem same_of_sat {W W' : World} (h : Sat (outOf W) W' (allBlocks W)) {p : MemPlace} (hp : p.block < W.heap.size) : W.sameAt W' p := by
  cases p with
  | cell b o => exact World.cell?_of_block (w := W) (heap_of_sat h hp)
  | map b => exact heap_of_sat h hp
theorem cell_of_sat {W W' : World} (h : Sat (outOf W) W' (allBlocks W)) {a : Addr} {v : Value} (hc : W.cell? a = some v) : W'.cell? a = some v := by
  have hb : a.block < W.heap.size := by
    rcases Nat.lt_or_ge a.block W.heap.size with hlt | hge
    · exact hlt
    · have : W.heap[a.block]? = none := Array.getElem?_eq_none hge
      unfold World.cell? at hc
      rw [this] at hc; cases hc
  rw [← hc]
  unfold World.cell?
  rw [heap_of_sat h hb]
end Go.Proofs.YtihmcipajjakgaaGreatDoor


set_option linter.unusedVariables false
namespace Go.Proofs.YtihmcipajjakgaaGreatDoor
open Go.Proofs Go.ChangeShapes Go.WideShapes Go.Deep
theorem open_larg {P : Program} {H : Type} {enc : TypeId × Value → H} {W : World} {r : Reach} {b0 : Nat} {t e : TypeId} {v : Value} {d : DataW H} {ps : List MemPlace} (ht : P.underlying t = some (.slice e)) (he : P.underlying e = some .bool) (hc : P.cellsOf e = 1)
    (hval : Value.okWide P W r b0 t v) (h : DataW.Trod enc P W 0 (fun _ => true) true t v d ps) : ∃ q n c vs, v = .slice q n c ∧ LArg (outOf W) (allBlocks W) q n vs := by
  obtain ⟨a0, len, cap, rfl⟩ := okWide_slice ht hval
  obtain ⟨fuel, hf⟩ := h
  rcases open_slice1 ht hc hf with ⟨hcs, hx⟩ | ⟨a, len', cap', m, n, V, D, Pl, hcs, _, hl, hm, hz, hx, hcell⟩
  · simp [Value.cells] at hcs
    obtain ⟨rfl, rfl, rfl⟩ := hcs
    exact ⟨none, 0, 0, [], rfl, ⟨rfl, fun i hi => by simp at hi⟩⟩
  · simp [Value.cells] at hcs
    obtain ⟨rfl, rfl, rfl⟩ := hcs
    simp only [if_true] at hz
    refine ⟨some a, len, cap, (List.range len).map fun i => match V i with | .bool k => k | _ => false, rfl, ⟨by simp, fun i hi => ?_⟩⟩
    simp only [List.length_map, List.length_range] at hi
    refine ⟨a, rfl, fun w hw => ?_⟩
    obtain ⟨h1, h2⟩ := hcell i (by omega)
    obtain ⟨k, h3, _⟩ := DataW.trod_bool he h2
    have h5 : V i = .bool k := (List.cons.inj h3).1
    rw [cell_of_sat hw h1, List.getElem_map, List.getElem_range, h5]
end Go.Proofs.YtihmcipajjakgaaGreatDoor

