/- Part 5 of the proof of the law FnTaskList: for every input the law returns true, the inputs read as they did, and memory that was there is as it was; under the conditions of the given row alone. -/
import Derived.MapKept
import Derived.Laws.Cover3
import Derived.Test.YtgbgadkldalkbaaGreatDoorA4
set_option linter.all false
set_option linter.unusedVariables false
namespace Go.Proofs.YtgbgadkldalkbaaGreatDoor
open Go.Proofs Go.IntWalk Go.RowKit
variable {σ : Out} {w : World} {L L' : List Chunk} {R : Ending → World → Prop}
theorem Sl.storeAt {q : Option Addr} {n c j : Nat} {e : TypeId} {vs : List Value} {RM : List Chunk} {v : Value} {K : World → Prop} (hS : Sl 1 e q n c vs RM) (h : Sat σ w (RM ++ L)) (hj : j < vs.length) (hv : OneCell v)
 (hK : ∀ w RM', Sl 1 e q n c (vs.set j v) RM' → Sat σ w (RM' ++ L) → K w) : nilP q fun a => stV w ((a.add j).add 0) v K := by
 obtain ⟨hl, hc, ⟨rfl, rfl, _, rfl⟩ | ⟨rb, sp, rfl, rfl, hsp⟩⟩ := hS
 ·exact absurd hl (by omega)
 ·refine nilP_some ?_
  simp only [Addr.add_lit, Nat.zero_add, Nat.add_zero]
  refine Sat.st h (k := 0) rfl (by rw [List.length_append]; omega) hv rfl fun w h => ?_
  refine hK w [(rb, cel (vs.set j v ++ sp) e)] ⟨by simpa using hl, hc, .inr ⟨rb, sp, rfl, rfl, by simpa using hsp⟩⟩ ?_
  have e1 : (vs ++ sp).set j v = vs.set j v ++ sp := List.set_append_left _ _ hj
  rw [← e1]
  exact h
def gapD (pos : DB → Nat × Nat) : List DB → Bool
 | d :: d2 :: ds => decide ((pos d).2 + 1 < (pos d2).1) || gapD pos (d2 :: ds)
 | _ => false
def gapI (pos : DB → Nat × Nat) : List IT → Bool
 | i :: i2 :: is => decide (i.e + 1 < i2.s) || (gapD pos i.D || gapI pos (i2 :: is))
 | [i] => gapD pos i.D
 | [] => false
def tightDB (d : DB) : DB := match d.v with
 | .iface ty _ => if ty = ty_P_Paragraph then match d.txs with | [x] => ⟨.iface ty_P_Text (.pointer (some ⟨x.t, 0, none⟩)), d.own, d.txs⟩ | _ => d else d
 | _ => d
theorem tightDB_para (nb t s e : Nat) (raw : List UInt8) : tightDB (paraDB nb t s e raw) = ⟨.iface ty_P_Text (.pointer (some ⟨t, 0, none⟩)), [paraC nb s e t], [⟨t, s, e, raw⟩]⟩ := by
 unfold tightDB paraDB
 simp
theorem tightDB_other {d : DB} {ty : TypeId} {q : Option Addr} (h : d.v = .iface ty (.pointer q)) (ht : ty ≠ ty_P_Paragraph) : tightDB d = d := by
 unfold tightDB
 rw [h]
 simp [ht]
def DB.kindOK (d : DB) : Prop := (∃ nb t s e raw, d = paraDB nb t s e raw) ∨ (∃ ty q, d.v = .iface ty (.pointer q) ∧ ty ≠ ty_P_Paragraph)
theorem tightDB_own {d : DB} (h : d.kindOK) : (tightDB d).own = d.own ∧ (tightDB d).txs = d.txs := by
 rcases h with ⟨nb, t, s, e, raw, rfl⟩ | ⟨ty, q, h, ht⟩
 ·rw [tightDB_para]; exact ⟨rfl, rfl⟩
 ·rw [tightDB_other h ht]; exact ⟨rfl, rfl⟩
theorem ownC_tight {D : List DB} (h : ∀ d ∈ D, d.kindOK) : ownC (D.map tightDB) = ownC D ∧ txsC (D.map tightDB) = txsC D := by
 induction D with
 | nil => exact ⟨rfl, rfl⟩
 | cons d D ih =>
  obtain ⟨a, b⟩ := tightDB_own (h d (by simp))
  obtain ⟨c, e⟩ := ih fun x hx => h x (List.mem_cons_of_mem _ hx)
  constructor
  ·show (tightDB d).own ++ ownC (D.map tightDB) = d.own ++ ownC D
   rw [a, c]
  ·show (tightDB d).txs ++ txsC (D.map tightDB) = d.txs ++ txsC D
   rw [b, e]
inductive Ret : List IT → List IT → Prop where
 | nil : Ret [] []
 | cons {i i' : IT} {is is' : List IT} : i' = { i with D := i.D.map tightDB, IM := i'.IM } → i'.ok → Ret is is' → Ret (i :: is) (i' :: is')
theorem Ret.snoc {is is' : List IT} {i i' : IT} (h : Ret is is') (h1 : i' = { i with D := i.D.map tightDB, IM := i'.IM }) (h2 : i'.ok) : Ret (is ++ [i]) (is' ++ [i']) := by
 induction h with
 | nil => exact .cons h1 h2 .nil
 | cons a b _ ih => exact .cons a b ih
theorem Ret.vs {is is' : List IT} (h : Ret is is') : is'.map IT.v = is.map IT.v := by
 induction h with
 | nil => rfl
 | cons a b _ ih => rw [List.map_cons, List.map_cons, ih, a]; rfl
theorem und_PPar : P.underlying ty_P_Paragraph = some (.pointer ty_Paragraph) := by kernel_rfl
theorem ta_para_yes (q : Option Addr) (w : World) : (Instr.typeAssert (.iface ty_P_Paragraph (.pointer q)) ty_Block ty_P_Paragraph true).run P w = .ok (.tuple #[.pointer q, .bool true]) w :=
 ta_yes (by rw [und_PPar]; intro ms h; cases h) und_PPar w
theorem ta_para_no {ty : TypeId} {v : Value} (ht : ty ≠ ty_P_Paragraph) (w : World) : (Instr.typeAssert (.iface ty v) ty_Block ty_P_Paragraph true).run P w = .ok (.tuple #[.pointer none, .bool false]) w :=
 ta_no (by rw [und_PPar]; intro ms h; cases h) und_PPar ht (i := (P.info? ty_P_Paragraph).getD default) (by kernel_rfl) (by kernel_rfl) w
theorem meth_listBuild : methB P ty_P_listBuilder "pub-paratext/pub/rscmarkdown.build" i_listBuilder_build = true := by kernel_rfl
theorem meth_itemBuild : methB P ty_P_itemBuilder "pub-paratext/pub/rscmarkdown.build" i_itemBuilder_build = true := by kernel_rfl
theorem listBuild_ok {b lb : Nat} {bul num : Int} {td : Value} {p : PS} {ob : List OB} {o : OB} {M IM : List Chunk} {items : List IT} {pos : DB → Nat × Nat} {it : Option Addr}
 (h : Sat σ w (p.at b :: M ++ (lisC lb bul num false it td :: (IM ++ (ownC (items.map IT.db) ++ L))))) (hs : Stk p (ob ++ [o]) M) (hS : Sl 1 ty_Block o.q o.n o.c (items.map IT.v) IM) (hne : items ≠ []) (hn : items.length < 1000000) (hbs : o.s < 1000000000)
 (hok : ∀ i ∈ items, i.ok ∧ ∀ d ∈ i.D, d.kindOK ∧ d.posIs (pos d).1 (pos d).2 ∧ (pos d).1 < 1000000000 ∧ (pos d).2 < 1000000000)
 (hR : ∀ w nb e (items' : List IT), (gapI pos items = true ∧ items' = items ∨ gapI pos items = false ∧ Ret items items') → (∃ i ∈ items, e = i.e) →
  Sat σ w (p.at b :: M ++ (lstC nb o.s e bul num (gapI pos items) o.q o.n o.c :: (IM ++ (ownC (items'.map IT.db) ++ L)))) → R (.returned (.iface ty_P_List (.pointer (some ⟨nb, 0, none⟩)))) w) :
 callE P i_listBuilder_build #[.pointer (some ⟨lb, 0, none⟩), .iface ty_P_parseState (.pointer (some ⟨b, 0, none⟩))] R w := by
 have hnl : o.n = items.length := by have := hS.1; simp at this; omega
 have hpl : 0 < items.length := List.length_pos_iff.2 hne
 refine g_listBuilder_build.sound ?_
 refine enter_meth meth_blocks ?_
 refine blocks_ok h hs fun w h => ⟨_, _, _, rfl, ?_⟩
 refine enter_meth meth_pos ?_
 refine pos_ok h hs fun w h => ⟨_, _, rfl, ?_⟩
 refine Sat.bx h fun b5 w h => ?_
 refine h.stA 0 fun w h => ?_
 refine h.stA 0 fun w h => ?_
 have h : Sat σ w ((b5, cel [.int .i64 o.s, .int .i64 o.e] ty_Position) :: (p.at b :: M ++ (lisC lb bul num false it td :: (IM ++ (ownC (items.map IT.db) ++ L))))) := h
 rw [hnl] at hS ⊢
 have hw1 : IntKind.i64.wrap ((items.length : Int) - 1) = ((items.length - 1 : Nat) : Int) := by rw [i64_in _ (by omega)]; omega
 rw [hw1]
 refine ⟨by omega, by omega, ?_⟩
 generalize hla : items[items.length - 1]'(by omega) = la
 have hlam : la ∈ items := by rw [← hla]; exact List.getElem_mem _
 have hIM : ∀ {K : List Chunk} {x : Chunk}, x ∈ IM → x ∈ K ++ (lisC lb bul num false it td :: (IM ++ (ownC (items.map IT.db) ++ L))) := fun hx => by simp [hx]
 refine hS.loadMem h (fun x hx => .tail _ (hIM hx)) (j := items.length - 1) (v := la.v) (by rw [List.getElem?_map, List.getElem?_eq_getElem (by omega), hla]; rfl) fun qb hq hc => ?_
 simp only [Addr.add_lit, Int.toNat_natCast, Nat.mul_one, Nat.zero_add]
 refine ⟨_, hc, ?_⟩
 have hmo : ∀ {K : List Chunk} {i : IT}, i ∈ items → ∀ x ∈ i.db.own, x ∈ K ++ (lisC lb bul num false it td :: (IM ++ (ownC (items.map IT.db) ++ L))) := fun hi x hx => by
  have := IT.own_mem hi x hx
  simp [this]
 refine la.posIs σ _ _ w (fun x hx => .tail _ (hmo hlam x hx)) h fun w h => ⟨_, _, rfl, ?_⟩
 refine h.stA 0 fun w h => ?_
 have h : Sat σ w ((b5, cel [.int .i64 o.s, .int .i64 la.e] ty_Position) :: (p.at b :: M ++ (lisC lb bul num false it td :: (IM ++ (ownC (items.map IT.db) ++ L))))) := h
 have k3 : ∀ (lo : Bool) (items' : List IT) w, (∀ w nb, Sat σ w (p.at b :: M ++ (lstC nb o.s la.e bul num lo o.q items.length o.c :: (IM ++ (ownC (items'.map IT.db) ++ L)))) → R (.returned (.iface ty_P_List (.pointer (some ⟨nb, 0, none⟩)))) w) →
  Sat σ w ((b5, cel [.int .i64 o.s, .int .i64 la.e] ty_Position) :: lisC lb bul num lo it td :: (p.at b :: M ++ (IM ++ (ownC (items'.map IT.db) ++ L)))) → g_listBuilder_build.k3 R (some ⟨lb, 0, none⟩) (.iface ty_P_parseState (.pointer (some ⟨b, 0, none⟩))) b5 w := by
  intro lo items' w hR h
  refine Sat.tk h fun w h => nilP_some (nilP_some (nilP_some ?_))
  refine ⟨_, Sat.ld h (.head _) (i := 0) rfl, _, Sat.ld h (.head _) (i := 1) rfl, _, Sat.ld h (.tail _ (.head _)) (i := 0) rfl, _, Sat.ld h (.tail _ (.head _)) (i := 1) rfl, _, Sat.ld h (.tail _ (.head _)) (i := 2) rfl, ?_⟩
  have h0 := h
  have h : Sat σ w (p.at b :: M ++ ((b5, cel [.int .i64 o.s, .int .i64 la.e] ty_Position) :: lisC lb bul num lo it td :: (IM ++ (ownC (items'.map IT.db) ++ L)))) := h.re
  have hm1 : lisC lb bul num lo it td ∈ p.at b :: M ++ ((b5, cel [.int .i64 o.s, .int .i64 la.e] ty_Position) :: lisC lb bul num lo it td :: (IM ++ (ownC (items'.map IT.db) ++ L))) := by simp
  have hm5 : (b5, cel [.int .i64 o.s, .int .i64 la.e] ty_Position) ∈ p.at b :: M ++ ((b5, cel [.int .i64 o.s, .int .i64 la.e] ty_Position) :: lisC lb bul num lo it td :: (IM ++ (ownC (items'.map IT.db) ++ L))) := by simp
  refine enter_meth meth_blocks ?_
  refine blocks_ok h hs fun w h => ⟨_, _, _, rfl, h0.same h (.tail _ (.head _)) hm1 1, h0.same h (.tail _ (.head _)) hm1 1, h0.same h (.tail _ (.head _)) hm1 1, h0.same h (.head _) hm5 2, ?_⟩
  refine Sat.bx h fun nb w h => ?_
  refine hR w nb ?_
  rw [hnl] at h
  have h : Sat σ w (lstC nb o.s la.e bul num lo o.q items.length o.c :: (p.at b :: M ++ ((b5, cel [.int .i64 o.s, .int .i64 la.e] ty_Position) :: lisC lb bul num lo it td :: (IM ++ (ownC (items'.map IT.db) ++ L))))) := h
  exact h.less [(b5, cel [.int .i64 o.s, .int .i64 la.e] ty_Position), lisC lb bul num lo it td]
 have l2 : ∀ w, (∀ w nb (items' : List IT), Ret items items' → Sat σ w (p.at b :: M ++ (lstC nb o.s la.e bul num false o.q items.length o.c :: (IM ++ (ownC (items'.map IT.db) ++ L)))) → R (.returned (.iface ty_P_List (.pointer (some ⟨nb, 0, none⟩)))) w) →
  Sat σ w ((b5, cel [.int .i64 o.s, .int .i64 la.e] ty_Position) :: lisC lb bul num false it td :: (p.at b :: M ++ (IM ++ (ownC (items.map IT.db) ++ L)))) →
  g_listBuilder_build.l2 R (some ⟨lb, 0, none⟩) (.iface ty_P_parseState (.pointer (some ⟨b, 0, none⟩))) b5 o.q items.length o.c (items.length : Int) 0 w := by
  intro w hR h X hX
  have key : ∀ (suf pre pre' : List IT) w, pre ++ suf = items → Ret pre pre' → Sat σ w ((b5, cel [.int .i64 o.s, .int .i64 la.e] ty_Position) :: lisC lb bul num false it td :: (p.at b :: M ++ (IM ++ (ownC ((pre' ++ suf).map IT.db) ++ L)))) →
   X (some ⟨lb, 0, none⟩) (.iface ty_P_parseState (.pointer (some ⟨b, 0, none⟩))) b5 o.q items.length o.c (items.length : Int) (pre.length : Int) w := by
   intro suf
   induction suf with
   | nil =>
    intro pre pre' w he hret h
    rw [List.append_nil] at he h
    exact hX _ _ _ _ _ _ _ _ _ (br_false (by rw [he]; simp) (k3 false pre' w (fun w nb h => hR w nb pre' (he ▸ hret) h) h))
   | cons i suf ih =>
    intro pre pre' w he hret h
    have hlt : pre.length < items.length := by rw [← he]; simp
    have him : i ∈ items := by rw [← he]; simp
    obtain ⟨hio, hid⟩ := hok i him
    have hgi : items[pre.length] = i := by simp [← he]
    refine hX _ _ _ _ _ _ _ _ _ (br_true (by simp; omega) ⟨by omega, by omega, ?_⟩)
    refine hS.loadMem h (fun x hx => by simp [hx]) (j := pre.length) (v := i.v) (by rw [List.getElem?_map, List.getElem?_eq_getElem hlt, hgi]; rfl) fun qb hq hc => ?_
    simp only [Addr.add_lit, Int.toNat_natCast, Nat.mul_one, Nat.zero_add]
    refine ⟨_, hc, some ⟨i.nb, 0, none⟩, w, ta_item _ w, nilP_some ?_⟩
    have eown : ownC ((pre' ++ i :: suf).map IT.db) = ownC (pre'.map IT.db) ++ (i.chunk :: (i.IM ++ ownC i.D) ++ ownC (suf.map IT.db)) := by
     simp [ownC, IT.db]
    rw [eown] at h
    have h : Sat σ w (i.IM ++ (i.chunk :: ((b5, cel [.int .i64 o.s, .int .i64 la.e] ty_Position) :: lisC lb bul num false it td :: (p.at b :: M ++ (IM ++ (ownC (pre'.map IT.db) ++ (ownC i.D ++ (ownC (suf.map IT.db) ++ L)))))))) := h.re
    have hmc : ∀ {K : List Chunk}, i.chunk ∈ K ++ (i.chunk :: ((b5, cel [.int .i64 o.s, .int .i64 la.e] ty_Position) :: lisC lb bul num false it td :: (p.at b :: M ++ (IM ++ (ownC (pre'.map IT.db) ++ (ownC i.D ++ (ownC (suf.map IT.db) ++ L))))))) := by intro K; simp
    refine ⟨_, _, _, Sat.ld h hmc (i := 2) rfl, ?_⟩
    have hin := IT.n_eq hio
    have hilen := hio.len
    rw [hin]
    intro Y hY
    have inner : ∀ (dsuf dpre : List DB) RM w, dpre ++ dsuf = i.D → Sl 1 ty_Block i.q i.D.length i.c ((dpre.map tightDB ++ dsuf).map DB.v) RM →
     Sat σ w (RM ++ (i.chunk :: ((b5, cel [.int .i64 o.s, .int .i64 la.e] ty_Position) :: lisC lb bul num false it td :: (p.at b :: M ++ (IM ++ (ownC (pre'.map IT.db) ++ (ownC i.D ++ (ownC (suf.map IT.db) ++ L)))))))) →
     Y (some ⟨lb, 0, none⟩) (.iface ty_P_parseState (.pointer (some ⟨b, 0, none⟩))) b5 (some ⟨i.nb, 0, none⟩) o.q items.length o.c (items.length : Int) (pre.length : Int) i.q i.D.length i.c (i.D.length : Int) (dpre.length : Int) w := by
     intro dsuf
     induction dsuf with
     | nil =>
      intro dpre RM w he2 hSl h
      rw [List.append_nil] at he2 hSl
      rw [he2] at hSl
      refine hY _ _ _ _ _ _ _ _ _ _ _ _ _ _ _ (br_false (by rw [he2]; simp) ?_)
      rw [i64_inc (by omega)]
      have := ih (pre ++ [i]) (pre' ++ [{ i with D := i.D.map tightDB, IM := RM }]) w (by rw [← he]; simp) (hret.snoc rfl ⟨by simpa [hin] using hSl, by simpa using hio.len, hio.se⟩) ?_
      ·rw [List.length_append, List.length_singleton] at this; exact this
      ·have e2 := (ownC_tight (D := i.D) fun d hd => (hid d hd).1).1
       have e1 : ownC (((pre' ++ [{ i with D := i.D.map tightDB, IM := RM }]) ++ suf).map IT.db) = ownC (pre'.map IT.db) ++ (i.chunk :: (RM ++ ownC i.D) ++ ownC (suf.map IT.db)) := by
        rw [← e2]
        simp [ownC, IT.db, IT.chunk]
       rw [e1]
       exact h.re
     | cons d dsuf ihd =>
      intro dpre RM w he2 hSl h
      have hdl : dpre.length < i.D.length := by rw [← he2]; simp
      have hdm : d ∈ i.D := by rw [← he2]; simp
      obtain ⟨hk, _, _⟩ := hid d hdm
      refine hY _ _ _ _ _ _ _ _ _ _ _ _ _ _ _ (br_true (by simp; omega) ⟨by omega, by omega, ?_⟩)
      have hget : ((dpre.map tightDB ++ d :: dsuf).map DB.v)[dpre.length]? = some d.v := by
       rw [List.getElem?_map, List.getElem?_append_right (by simp)]; simp
      refine hSl.loadAt h hget fun qb hq hc => ?_
      simp only [Addr.add_lit, Int.toNat_natCast, Nat.mul_one, Nat.zero_add]
      refine ⟨_, hc, ?_⟩
      have hset : ∀ v : Value, v = (tightDB d).v → ((dpre.map tightDB ++ d :: dsuf).map DB.v).set dpre.length v = ((dpre ++ [d]).map tightDB ++ dsuf).map DB.v := by
       rintro v rfl
       simp
      rcases hk with ⟨nb, t, s, e, raw, rfl⟩ | ⟨ty, dq, hv, hty⟩
      ·refine ⟨some ⟨nb, 0, none⟩, true, w, ta_para_yes _ w, br_true rfl ?_⟩
       refine Sat.tk h fun w h => nilP_some (nilP_some ?_)
       have hmp : paraC nb s e t ∈ RM ++ (i.chunk :: ((b5, cel [.int .i64 o.s, .int .i64 la.e] ty_Position) :: lisC lb bul num false it td :: (p.at b :: M ++ (IM ++ (ownC (pre'.map IT.db) ++ (ownC i.D ++ (ownC (suf.map IT.db) ++ L))))))) := by
        have : paraC nb s e t ∈ ownC i.D := List.mem_flatMap.2 ⟨_, hdm, by simp [paraDB]⟩
        simp [this]
       refine ⟨_, _, _, Sat.ld h hmc (i := 2) rfl, _, Sat.ld h hmp (i := 2) rfl, by omega, by rw [hin]; omega, ?_⟩
       refine hSl.storeAt h (j := dpre.length) (v := .iface ty_P_Text (.pointer (some ⟨t, 0, none⟩))) (by simp) trivial fun w RM' hSl' h => ?_
       rw [hset _ (by rw [tightDB_para])] at hSl'
       rw [i64_inc (by omega)]
       have := ihd (dpre ++ [paraDB nb t s e raw]) RM' w (by rw [← he2]; simp) hSl' h
       rw [List.length_append, List.length_singleton] at this; exact this
      ·rw [hv]
       refine ⟨none, false, w, ta_para_no hty w, br_false rfl ?_⟩
       rw [i64_inc (by omega)]
       have e3 : (dpre.map tightDB ++ d :: dsuf).map DB.v = ((dpre ++ [d]).map tightDB ++ dsuf).map DB.v := by simp [tightDB_other hv hty]
       rw [e3] at hSl
       have := ihd (dpre ++ [d]) RM w (by rw [← he2]; simp) hSl h
       rw [List.length_append, List.length_singleton] at this; exact this
    have hsl0 : Sl 1 ty_Block i.q i.D.length i.c (([].map tightDB ++ i.D).map DB.v) i.IM := by rw [← hin]; exact hio.sl
    exact inner i.D [] i.IM w rfl hsl0 h
  exact key items [] [] w rfl .nil h
 have k1 : ∀ w, Sat σ w ((b5, cel [.int .i64 o.s, .int .i64 la.e] ty_Position) :: lisC lb bul num (gapI pos items) it td :: (p.at b :: M ++ (IM ++ (ownC (items.map IT.db) ++ L)))) → g_listBuilder_build.k1 R (some ⟨lb, 0, none⟩) (.iface ty_P_parseState (.pointer (some ⟨b, 0, none⟩))) o.q items.length o.c b5 w := by
  intro w h
  refine nilP_some ⟨_, Sat.ld h (.tail _ (.head _)) (i := 2) rfl, ?_⟩
  rw [hnl] at hR
  cases hg : gapI pos items with
  | true =>
   rw [hg] at h hR
   exact br_false rfl (k3 true items w (fun w nb h => hR w nb la.e items (.inl ⟨rfl, rfl⟩) ⟨la, hlam, rfl⟩ h) h)
  | false =>
   rw [hg] at h hR
   exact br_true rfl (l2 w (fun w nb items' hr h => hR w nb la.e items' (.inr ⟨rfl, hr⟩) ⟨la, hlam, rfl⟩ h) h)
 intro X hX
 have kT : ∀ w, gapI pos items = true → Sat σ w ((b5, cel [.int .i64 o.s, .int .i64 la.e] ty_Position) :: (p.at b :: M ++ (lisC lb bul num false it td :: (IM ++ (ownC (items.map IT.db) ++ L))))) →
  nilP (some ⟨lb, 0, none⟩) fun a => stV w ((a.add 2).add 0) (.bool true) fun w => g_listBuilder_build.k1 R (some ⟨lb, 0, none⟩) (.iface ty_P_parseState (.pointer (some ⟨b, 0, none⟩))) o.q items.length o.c b5 w := by
  intro w hg h
  have h : Sat σ w (lisC lb bul num false it td :: (b5, cel [.int .i64 o.s, .int .i64 la.e] ty_Position) :: (p.at b :: M ++ (IM ++ (ownC (items.map IT.db) ++ L)))) := h.re
  refine nilP_some ?_
  refine h.stA 0 fun w h => ?_
  refine k1 w ?_
  rw [hg]
  have h : Sat σ w (lisC lb bul num true it td :: (b5, cel [.int .i64 o.s, .int .i64 la.e] ty_Position) :: (p.at b :: M ++ (IM ++ (ownC (items.map IT.db) ++ L)))) := h
  exact h.re
 have key : ∀ (suf pre : List IT) w, pre ++ suf = items → gapI pos items = gapI pos suf → Sat σ w ((b5, cel [.int .i64 o.s, .int .i64 la.e] ty_Position) :: (p.at b :: M ++ (lisC lb bul num false it td :: (IM ++ (ownC (items.map IT.db) ++ L))))) →
  X (some ⟨lb, 0, none⟩) (.iface ty_P_parseState (.pointer (some ⟨b, 0, none⟩))) o.q items.length o.c b5 o.q items.length o.c (items.length : Int) (pre.length : Int) w := by
  intro suf
  induction suf with
  | nil =>
   intro pre w he hg h
   rw [List.append_nil] at he
   subst he
   refine hX _ _ _ _ _ _ _ _ _ _ _ _ (br_false (by simp) (k1 w ?_))
   rw [hg]
   have h : Sat σ w ((b5, cel [.int .i64 o.s, .int .i64 la.e] ty_Position) :: (p.at b :: M ++ (lisC lb bul num (gapI pos []) it td :: (IM ++ (ownC (pre.map IT.db) ++ L))))) := h
   exact h.re
  | cons i suf ih =>
   intro pre w he hg h
   have hlt : pre.length < items.length := by rw [← he]; simp
   have him : i ∈ items := by rw [← he]; simp
   obtain ⟨hio, hid⟩ := hok i him
   have hgi : items[pre.length] = i := by simp [← he]
   have hmoi : ∀ x ∈ i.db.own, x ∈ (b5, cel [.int .i64 o.s, .int .i64 la.e] ty_Position) :: (p.at b :: M ++ (lisC lb bul num false it td :: (IM ++ (ownC (items.map IT.db) ++ L)))) := fun x hx => .tail _ (hmo him x hx)
   refine hX _ _ _ _ _ _ _ _ _ _ _ _ (br_true (by simp; omega) ⟨by omega, by omega, ?_⟩)
   refine hS.loadMem h (fun x hx => .tail _ (hIM hx)) (j := pre.length) (v := i.v) (by rw [List.getElem?_map, List.getElem?_eq_getElem hlt, hgi]; rfl) fun qb hq hc => ?_
   simp only [Addr.add_lit, Int.toNat_natCast, Nat.mul_one, Nat.zero_add]
   refine ⟨_, hc, some ⟨i.nb, 0, none⟩, w, ta_item _ w, ?_⟩
   rw [i64_inc (by omega)]
   have inner : ∀ rest w, (gapI pos items = (gapD pos i.D || rest)) → (∀ w, gapI pos items = rest → Sat σ w ((b5, cel [.int .i64 o.s, .int .i64 la.e] ty_Position) :: (p.at b :: M ++ (lisC lb bul num false it td :: (IM ++ (ownC (items.map IT.db) ++ L))))) →
    X (some ⟨lb, 0, none⟩) (.iface ty_P_parseState (.pointer (some ⟨b, 0, none⟩))) o.q items.length o.c b5 o.q items.length o.c (items.length : Int) ((pre.length + 1 : Nat) : Int) w) →
    Sat σ w ((b5, cel [.int .i64 o.s, .int .i64 la.e] ty_Position) :: (p.at b :: M ++ (lisC lb bul num false it td :: (IM ++ (ownC (items.map IT.db) ++ L))))) →
    g_listBuilder_build.k2 R X (some ⟨lb, 0, none⟩) (.iface ty_P_parseState (.pointer (some ⟨b, 0, none⟩))) o.q items.length o.c b5 (some ⟨i.nb, 0, none⟩) o.q items.length o.c (items.length : Int) (pre.length : Int) w := by
    intro rest w hgr hnext h
    refine nilP_some ⟨_, _, _, Sat.ld h (hmoi _ (.head _)) (i := 2) rfl, ?_⟩
    have hin := IT.n_eq hio
    rw [hin]
    have hsl := hio.sl
    rw [hin] at hsl
    have hmI : ∀ x ∈ i.IM, x ∈ (b5, cel [.int .i64 o.s, .int .i64 la.e] ty_Position) :: (p.at b :: M ++ (lisC lb bul num false it td :: (IM ++ (ownC (items.map IT.db) ++ L)))) := fun x hx => hmoi x (.tail _ (List.mem_append_left _ hx))
    have hmD : ∀ d ∈ i.D, ∀ x ∈ d.own, x ∈ (b5, cel [.int .i64 o.s, .int .i64 la.e] ty_Position) :: (p.at b :: M ++ (lisC lb bul num false it td :: (IM ++ (ownC (items.map IT.db) ++ L)))) := fun d hd x hx => hmoi x (.tail _ (List.mem_append_right _ (List.mem_flatMap.2 ⟨d, hd, hx⟩)))
    intro Y hY
    have key2 : ∀ (dsuf dpre : List DB) w, dpre ++ dsuf = i.D → gapI pos items = (gapD pos dsuf || rest) → Sat σ w ((b5, cel [.int .i64 o.s, .int .i64 la.e] ty_Position) :: (p.at b :: M ++ (lisC lb bul num false it td :: (IM ++ (ownC (items.map IT.db) ++ L))))) →
     Y (some ⟨lb, 0, none⟩) (.iface ty_P_parseState (.pointer (some ⟨b, 0, none⟩))) o.q items.length o.c b5 (some ⟨i.nb, 0, none⟩) o.q items.length o.c (items.length : Int) (pre.length : Int) i.q i.D.length i.c (i.D.length : Int) (dpre.length : Int) w := by
     intro dsuf
     induction dsuf with
     | nil =>
      intro dpre w he2 hg2 h
      rw [List.append_nil] at he2
      refine hY _ _ _ _ _ _ _ _ _ _ _ _ _ _ _ _ _ _ (br_false (by rw [he2]; simp) ?_)
      rw [i64_inc (by omega)]
      exact hnext w (by rw [hg2]; rfl) h
     | cons d dsuf ihd =>
      intro dpre w he2 hg2 h
      have hdl : dpre.length < i.D.length := by rw [← he2]; simp
      have hdm : d ∈ i.D := by rw [← he2]; simp
      have hilen := hio.len
      obtain ⟨_, hp, hp1, hp2⟩ := hid d hdm
      refine hY _ _ _ _ _ _ _ _ _ _ _ _ _ _ _ _ _ _ (br_true (by simp; omega) ⟨by omega, by omega, ?_⟩)
      refine hsl.loadMem h hmI (j := dpre.length) (v := d.v) (by rw [← he2]; simp) fun qb2 hq2 hc2 => ?_
      simp only [Addr.add_lit, Int.toNat_natCast, Nat.mul_one, Nat.zero_add]
      refine ⟨_, hc2, ?_⟩
      refine hp σ _ _ w (hmD d hdm) h fun w h => ⟨_, _, rfl, nilP_some ?_⟩
      refine ⟨_, _, _, Sat.ld h (hmoi _ (.head _)) (i := 2) rfl, ?_⟩
      rw [hin, i64_inc (by omega)]
      cases dsuf with
      | nil =>
       refine br_false (by rw [← he2]; simp) ?_
       have := ihd (dpre ++ [d]) w (by rw [← he2]; simp) (by rw [hg2]; rfl) h
       rw [List.length_append, List.length_singleton] at this; exact this
      | cons d2 ds =>
       have hdl2 : dpre.length + 1 < i.D.length := by rw [← he2]; simp
       have hd2m : d2 ∈ i.D := by rw [← he2]; simp
       obtain ⟨_, hpp, hpp1, hpp2⟩ := hid d2 hd2m
       refine br_true (by simp; omega) (nilP_some ?_)
       refine ⟨_, _, _, Sat.ld h (hmoi _ (.head _)) (i := 2) rfl, by omega, by rw [hin]; omega, ?_⟩
       refine hsl.loadMem h hmI (j := dpre.length + 1) (v := d2.v) (by rw [← he2]; simp) fun qb3 hq3 hc3 => ?_
       simp only [Addr.add_lit, Int.toNat_natCast, Nat.mul_one, Nat.zero_add]
       refine ⟨_, hc3, ?_⟩
       refine hpp σ _ _ w (hmD d2 hd2m) h fun w h => ⟨_, _, rfl, ?_⟩
       rw [i64_in _ (by omega)]
       refine br_split (fun hgap => ?_) fun hgap => ?_
       ·refine kT w ?_ h
        have : decide ((pos d).2 + 1 < (pos d2).1) = true := by simp at hgap ⊢; omega
        rw [hg2, gapD, this]; rfl
       ·have := ihd (dpre ++ [d]) w (by rw [← he2]; simp) ?_ h
        ·rw [List.length_append, List.length_singleton] at this; exact this
        ·have : decide ((pos d).2 + 1 < (pos d2).1) = false := by simp at hgap ⊢; omega
         rw [hg2, gapD, this]; rfl
    exact key2 i.D [] w rfl hgr h
   cases suf with
   | nil =>
    refine br_false (by rw [← he]; simp) ?_
    refine inner false w (by rw [hg]; simp [gapI]) (fun w hgf h => ?_) h
    have := ih (pre ++ [i]) w (by rw [← he]; simp) (by rw [hgf]; rfl) h
    rw [List.length_append, List.length_singleton] at this; exact this
   | cons i2 is =>
    have hlt2 : pre.length + 1 < items.length := by rw [← he]; simp
    have hgi2 : items[pre.length + 1] = i2 := by simp [← he]
    have hi2m : i2 ∈ items := by rw [← he]; simp
    obtain ⟨hio2, _⟩ := hok i2 hi2m
    have hse := hio.se
    have hse2 := hio2.se
    refine br_true (by simp; omega) ?_
    refine Sat.tk h fun w h => ⟨by omega, by omega, ?_⟩
    refine hS.loadMem h (fun x hx => .tail _ (hIM hx)) (j := pre.length + 1) (v := i2.v) (by rw [List.getElem?_map, List.getElem?_eq_getElem hlt2, hgi2]; rfl) fun qb3 hq3 hc3 => ?_
    simp only [Addr.add_lit, Int.toNat_natCast, Nat.mul_one, Nat.zero_add]
    refine nilP_some ⟨_, hc3, _, Sat.ld h (hmoi _ (.head _)) (i := 1) rfl, ?_⟩
    have h0 := h
    refine i2.posIs σ _ _ w (fun x hx => .tail _ (hmo hi2m x hx)) h fun w h => ⟨_, _, rfl, h0.same h (hmoi _ (.head _)) (hmoi _ (.head _)) 1, ?_⟩
    rw [i64_in _ (by omega)]
    have hgd : gapI pos (i :: i2 :: is) = (decide (i.e + 1 < i2.s) || (gapD pos i.D || gapI pos (i2 :: is))) := rfl
    refine br_split (fun hgap => ?_) fun hgap => ?_
    ·refine kT w ?_ h
     have : decide (i.e + 1 < i2.s) = true := by simp at hgap ⊢; omega
     rw [hg, hgd, this]; rfl
    ·have hno : decide (i.e + 1 < i2.s) = false := by simp at hgap ⊢; omega
     refine inner (gapI pos (i2 :: is)) w (by rw [hg, hgd, hno]; rfl) (fun w hgf h => ?_) h
     have := ih (pre ++ [i]) w (by rw [← he]; simp) hgf h
     rw [List.length_append, List.length_singleton] at this; exact this
 exact key items [] w rfl rfl h
end Go.Proofs.YtgbgadkldalkbaaGreatDoor


set_option linter.unusedVariables false
namespace Go.Proofs.YtgbgadkldalkbaaGreatDoor
open Go.Proofs Go.IntWalk Go.RowKit
variable {σ : Out} {w : World} {L L' : List Chunk} {R : Ending → World → Prop}
theorem Prints.perm {m : String} {v : Value} {T T' T1 T1' : List Chunk} {f : List UInt8 → List UInt8} (h : Prints m v T T' f) (e : ∀ a, cnt a T1 = cnt a T) (e' : ∀ a, cnt a T1' = cnt a T') : Prints m v T1 T1' f := by
 refine ⟨h.1, fun σ R b l M L w hB hS hb hR => ?_⟩
 refine h.2 σ R b l M L w hB (hS.re fun a => ?_) hb fun w M' hB hS => hR w M' hB (hS.re fun a => ?_)
 ·have := e a; simp only [cnt_append]; omega
 ·have := e' a; simp only [cnt_append]; omega
theorem docs_print2 {F : List UInt8 → List UInt8 → List UInt8} {D : List DB} {gs : List (List UInt8 → List UInt8)} (h : Show F D gs) : ∀ ts, Filled F (txsC D) ts →
 ∃ KM KM', PrintsL "PrintHTML" (D.map DB.v) KM KM' (compL gs) ∧ (∀ a, cnt a (ownC D ++ fills (txsC D) ts) = cnt a KM) ∧ (∀ a, cnt a (ownC D ++ fills' (txsC D) ts) = cnt a KM') := by
 induction h with
 | nil => intro ts ht; cases ht; exact ⟨[], [], .nil, fun a => rfl, fun a => rfl⟩
 | @cons d g D gs h1 h2 ih =>
  intro ts ht
  have e : txsC (d :: D) = d.txs ++ txsC D := by simp [txsC]
  rw [e] at ht ⊢
  obtain ⟨ts1, ts2, rfl, h3, h4⟩ := ht.split
  obtain ⟨KM, KM', h5, h6, h7⟩ := ih ts2 h4
  refine ⟨_, _, .cons (h1 ts1 h3) h5, fun a => ?_, fun a => ?_⟩
  ·have := h6 a
   rw [fills_append h3, show ownC (d :: D) = d.own ++ ownC D by simp [ownC]]
   simp only [cnt_append] at this ⊢
   omega
  ·have := h7 a
   rw [fills'_append h3, show ownC (d :: D) = d.own ++ ownC D by simp [ownC]]
   simp only [cnt_append] at this ⊢
   omega
theorem meth_Item : methB P ty_P_Item "PrintHTML" i_Item_PrintHTML = true := by kernel_rfl
theorem meth_List : methB P ty_P_List "PrintHTML" i_List_PrintHTML = true := by kernel_rfl
theorem meth_Text : methB P ty_P_Text "PrintHTML" i_Text_PrintHTML = true := by kernel_rfl
def isText : Value → Bool
 | .iface ty _ => Nat.beq ty ty_P_Text
 | _ => false
def nlT (v : Value) (l : List UInt8) : List UInt8 := if isText v then l ++ [10] else l
theorem nlT_le (v : Value) (l : List UInt8) : l.length ≤ (nlT v l).length := by unfold nlT; split <;> simp
inductive PrintsT : List Value → List Chunk → List Chunk → (List UInt8 → List UInt8) → Prop where
 | nil : PrintsT [] [] [] id
 | one {v : Value} {T T' : List Chunk} {f : List UInt8 → List UInt8} : (∃ ty q, v = .iface ty (.pointer q)) → Prints "PrintHTML" v T T' f → PrintsT [v] T T' f
 | cons {v v2 : Value} {vs : List Value} {T T' K K' : List Chunk} {f g : List UInt8 → List UInt8} : (∃ ty q, v = .iface ty (.pointer q)) → Prints "PrintHTML" v T T' f → PrintsT (v2 :: vs) K K' g → PrintsT (v :: v2 :: vs) (T ++ K) (T' ++ K') (fun l => g (nlT v (f l)))
theorem PrintsT.mono {vs : List Value} {K K' : List Chunk} {f : List UInt8 → List UInt8} (h : PrintsT vs K K' f) : ∀ l, l.length ≤ (f l).length := by
 induction h with
 | nil => exact fun l => Nat.le_refl _
 | one _ h1 => exact h1.1
 | cons _ h1 _ ih => exact fun l => Nat.le_trans (Nat.le_trans (h1.1 l) (nlT_le _ _)) (ih _)
def liO : List UInt8 := [60, 108, 105, 62]
def liC : List UInt8 := [60, 47, 108, 105, 62, 10]
def itemHd : List Value → List UInt8
 | [] => []
 | v :: _ => if isText v then [] else [10]
theorem itemHd_cons (v : Value) (vs : List Value) : itemHd (v :: vs) = if isText v then [] else [10] := rfl
theorem und_PText : P.underlying ty_P_Text = some (.pointer ty_Text) := by kernel_rfl
theorem ta_text {ty : TypeId} (q : Option Addr) (w : World) : ∃ r, (Instr.typeAssert (.iface ty (.pointer q)) ty_Block ty_P_Text true).run P w = .ok (.tuple #[.pointer r, .bool (isText (.iface ty (.pointer q)))]) w := by
 by_cases ht : ty = ty_P_Text
 ·subst ht
  refine ⟨q, ?_⟩
  rw [show isText (.iface ty_P_Text (.pointer q)) = true by simp [isText]]
  exact ta_yes (by rw [und_PText]; intro ms h; cases h) und_PText w
 ·refine ⟨none, ?_⟩
  have e : isText (.iface ty (.pointer q)) = false := by
   show Nat.beq ty ty_P_Text = false
   cases hb : Nat.beq ty ty_P_Text with
   | false => rfl
   | true => exact absurd (Nat.eq_of_beq_eq_true hb) ht
  rw [e]
  exact ta_no (by rw [und_PText]; intro ms h; cases h) und_PText ht (i := (P.info? ty_P_Text).getD default) (by kernel_rfl) (by kernel_rfl) w
theorem item_prints {i : IT} {vs : List Value} {KM KM' : List Chunk} {f : List UInt8 → List UInt8} (hS : Sl 1 ty_Block i.q i.n i.c vs i.IM) (hn : i.n < 1000000) (hP : PrintsT vs KM KM' f) :
 Prints "PrintHTML" i.v (i.chunk :: (i.IM ++ KM)) (i.chunk :: (i.IM ++ KM')) (fun l => f (l ++ liO ++ itemHd vs) ++ liC) := by
 refine ⟨fun l => ?_, fun σ R b l M L w hB h hb hR => enter_meth meth_Item ?_⟩
 ·have := hP.mono (l ++ liO ++ itemHd vs)
  simp only [List.length_append] at *; omega
 refine g_Item_PrintHTML.sound ?_
 have hm := hP.mono (l ++ liO ++ itemHd vs)
 have e1 : liO.length = 4 := rfl
 have e2 : liC.length = 6 := rfl
 have hlen : vs.length = i.n := by have := hS.1; omega
 simp only [List.length_append] at hb hm
 refine writeS_ok (s := liO) hB h (by omega) fun w M hB h => ⟨_, _, rfl, nilP_some ?_⟩
 refine ⟨_, _, _, Sat.ld h (List.mem_append_right _ (.head _)) (i := 2) rfl, ?_⟩
 have k1 : ∀ w M, Buf b (l ++ liO ++ itemHd vs) M → Sat σ w (M ++ (i.chunk :: (i.IM ++ KM) ++ L)) → g_Item_PrintHTML.k1 R (some ⟨i.nb, 0, none⟩) (some ⟨b, 0, none⟩) w := by
  intro w M hB h
  refine nilP_some ⟨_, _, _, Sat.ld h (List.mem_append_right _ (.head _)) (i := 2) rfl, ?_⟩
  intro X hX
  have key : ∀ (vs2 : List Value) (KM KM' : List Chunk) (f : List UInt8 → List UInt8), PrintsT vs2 KM KM' f → ∀ (vs1 : List Value) (D : List Chunk) l2 M w, vs1 ++ vs2 = vs → Buf b l2 M → Sat σ w (M ++ (i.IM ++ (i.chunk :: (D ++ (KM ++ L))))) → (f l2).length + 6 ≤ 549755813888 →
   (∀ w M', Buf b (f l2 ++ liC) M' → Sat σ w (M' ++ (i.IM ++ (i.chunk :: (D ++ (KM' ++ L))))) → R (.returned (.tuple #[])) w) → X (some ⟨i.nb, 0, none⟩) (some ⟨b, 0, none⟩) i.q i.n i.c (i.n : Int) (vs1.length : Nat) w := by
   have hEnd : ∀ (vs1 : List Value) (D : List Chunk) l2 M w, vs1 = vs → Buf b l2 M → Sat σ w (M ++ (i.IM ++ (i.chunk :: (D ++ L)))) → l2.length + 6 ≤ 549755813888 → (∀ w M', Buf b (l2 ++ liC) M' → Sat σ w (M' ++ (i.IM ++ (i.chunk :: (D ++ L)))) → R (.returned (.tuple #[])) w) → X (some ⟨i.nb, 0, none⟩) (some ⟨b, 0, none⟩) i.q i.n i.c (i.n : Int) (vs1.length : Nat) w := by
    intro vs1 D l2 M w hv hB h hb hE
    refine hX _ _ _ _ _ _ _ _ (br_false (by rw [hv, hlen]; simp) ?_)
    exact writeS_ok (s := liC) hB h (by omega) fun w M hB h => ⟨_, _, rfl, hE w M hB h⟩
   have hStep : ∀ (v : Value) (rest vs1 : List Value) (D T T' K : List Chunk) (f : List UInt8 → List UInt8) l2 M w, (∃ ty q, v = .iface ty (.pointer q)) → Prints "PrintHTML" v T T' f → vs1 ++ v :: rest = vs → Buf b l2 M → Sat σ w (M ++ (i.IM ++ (i.chunk :: (D ++ (T ++ (K ++ L)))))) → (f l2).length + 1 ≤ 549755813888 →
    (∀ w M', Buf b (if rest = [] then f l2 else nlT v (f l2)) M' → Sat σ w (M' ++ (i.IM ++ (i.chunk :: ((D ++ T') ++ (K ++ L))))) → X (some ⟨i.nb, 0, none⟩) (some ⟨b, 0, none⟩) i.q i.n i.c (i.n : Int) ((vs1 ++ [v]).length : Nat) w) → X (some ⟨i.nb, 0, none⟩) (some ⟨b, 0, none⟩) i.q i.n i.c (i.n : Int) (vs1.length : Nat) w := by
    intro v rest vs1 D T T' K f l2 M w hif hp hv hB h hb hnext
    have hlt : vs1.length < i.n := by rw [← hlen, ← hv]; simp
    refine hX _ _ _ _ _ _ _ _ (br_true (by simp; omega) ⟨by omega, by omega, ?_⟩)
    refine hS.loadMem h (fun x hx => by simp [hx]) (j := vs1.length) (v := v) (by rw [← hv]; simp) fun qb hq hc => ?_
    simp only [Addr.add_lit, Int.toNat_natCast, Nat.mul_one, Nat.zero_add]
    refine ⟨_, hc, ?_⟩
    have h : Sat σ w (M ++ (T ++ (i.IM ++ (i.chunk :: (D ++ (K ++ L)))))) := h.re
    refine hp.2 σ _ b l2 M _ w hB h (by omega) fun w M' hB h => ⟨rfl, nilP_some ?_⟩
    have h : Sat σ w (M' ++ (i.IM ++ (i.chunk :: ((D ++ T') ++ (K ++ L))))) := h.re
    refine ⟨_, _, _, Sat.ld h (by simp : i.chunk ∈ _) (i := 2) rfl, ?_⟩
    rw [i64_inc (by omega)]
    have hl1 : ((vs1 ++ [v]).length : Nat) = vs1.length + 1 := by simp
    rw [hl1] at hnext
    cases rest with
    | nil =>
     refine br_false (by rw [← hlen, ← hv]; simp) (hnext w M' ?_ h)
     rw [if_pos rfl]; exact hB
    | cons v2 rest =>
     refine br_true (by rw [← hlen, ← hv]; simp; omega) ?_
     obtain ⟨ty, q, rfl⟩ := hif
     obtain ⟨r, hta⟩ := ta_text (ty := ty) q w
     refine ⟨r, _, w, hta, ?_⟩
     rw [if_neg (by simp)] at hnext
     cases ht : isText (.iface ty (.pointer q)) with
     | true =>
      refine br_true rfl ?_
      refine writeS_ok (s := [10]) hB h (by simp only [List.length_cons, List.length_nil]; omega) fun w M hB h => ⟨_, _, rfl, hnext w M ?_ h⟩
      unfold nlT; rw [ht]; exact hB
     | false =>
      refine br_false rfl (hnext w M' ?_ h)
      unfold nlT; rw [ht]; exact hB
   intro vs2 KM KM' f hP
   induction hP with
   | nil =>
    intro vs1 D l2 M w hv hB h hb hE
    exact hEnd vs1 D l2 M w (by simpa using hv) hB h hb hE
   | @one v T T' f hif hp =>
    intro vs1 D l2 M w hv hB h hb hE
    have h : Sat σ w (M ++ (i.IM ++ (i.chunk :: (D ++ (T ++ ([] ++ L)))))) := h
    refine hStep v [] vs1 D T T' [] f l2 M w hif hp hv hB h (by omega) fun w M' hB h => ?_
    rw [if_pos rfl] at hB
    have h : Sat σ w (M' ++ (i.IM ++ (i.chunk :: ((D ++ T') ++ L)))) := h
    exact hEnd (vs1 ++ [v]) (D ++ T') (f l2) M' w hv hB h hb (fun w M' hB h => hE w M' hB (h.re))
   | @cons v v2 vs2 T T' K K' f g hif hp hP2 ih =>
    intro vs1 D l2 M w hv hB h hb hE
    have hb : (g (nlT v (f l2))).length + 6 ≤ 549755813888 := hb
    have hmo := hP2.mono (nlT v (f l2))
    have hmo2 := nlT_le v (f l2)
    have h : Sat σ w (M ++ (i.IM ++ (i.chunk :: (D ++ (T ++ (K ++ L)))))) := h.re
    refine hStep v (v2 :: vs2) vs1 D T T' K f l2 M w hif hp hv hB h (by omega) fun w M' hB h => ?_
    rw [if_neg (by simp)] at hB
    exact ih (vs1 ++ [v]) (D ++ T') (nlT v (f l2)) M' w (by simpa using hv) hB h hb (fun w M' hB h => hE w M' hB (h.re))
  have h : Sat σ w (M ++ (i.IM ++ (i.chunk :: ([] ++ (KM ++ L))))) := h.re
  have := key vs KM KM' f hP [] [] (l ++ liO ++ itemHd vs) M w rfl hB h (by omega) fun w M' hB h => hR w M' hB (h.re)
  simpa using this
 cases vs with
 | nil =>
  refine br_false (by rw [← hlen]; rfl) (k1 w M ?_ h)
  show Buf b (l ++ liO ++ []) M
  rw [List.append_nil]; exact hB
 | cons v vs =>
  refine br_true (by rw [← hlen]; simp) (nilP_some ?_)
  refine ⟨_, _, _, Sat.ld h (List.mem_append_right _ (.head _)) (i := 2) rfl, by decide, by rw [← hlen]; simp, ?_⟩
  refine hS.loadMem h (fun x hx => by simp [hx]) (j := 0) (v := v) rfl fun qb hq hc => ?_
  simp only [Addr.add_lit, Int.toNat_natCast, Nat.mul_one, Nat.zero_add]
  refine ⟨_, hc, ?_⟩
  have hif : ∃ ty q, v = .iface ty (.pointer q) := by cases hP with | one hi' _ => exact hi' | cons hi' _ _ => exact hi'
  obtain ⟨ty, q, rfl⟩ := hif
  obtain ⟨r, hta⟩ := ta_text (ty := ty) q w
  refine ⟨r, _, w, hta, ?_⟩
  cases ht : isText (.iface ty (.pointer q)) with
  | true =>
   refine br_false rfl (k1 w M ?_ h)
   rw [itemHd_cons, ht]
   show Buf b (l ++ liO ++ []) M
   rw [List.append_nil]; exact hB
  | false =>
   refine br_true rfl ?_
   have hh : (itemHd (.iface ty (.pointer q) :: vs)).length = 1 := by rw [itemHd_cons, ht]; rfl
   refine writeS_ok (s := [10]) hB h (by simp only [List.length_append, List.length_cons, List.length_nil]; omega) fun w M hB h => ⟨_, _, rfl, k1 w M ?_ h⟩
   rw [itemHd_cons, ht]; exact hB
inductive ShowT (F : List UInt8 → List UInt8 → List UInt8) : List DB → (List UInt8 → List UInt8) → Prop where
 | nil : ShowT F [] id
 | one {d : DB} {f : List UInt8 → List UInt8} : d.ifc → d.shows F f → ShowT F [d] f
 | cons {d d2 : DB} {D : List DB} {f g : List UInt8 → List UInt8} : d.ifc → d.shows F f → ShowT F (d2 :: D) g → ShowT F (d :: d2 :: D) (fun l => g (nlT d.v (f l)))
theorem docs_printT {F : List UInt8 → List UInt8 → List UInt8} {D : List DB} {f : List UInt8 → List UInt8} (h : ShowT F D f) : ∀ ts, Filled F (txsC D) ts →
 ∃ KM KM', PrintsT (D.map DB.v) KM KM' f ∧ (∀ a, cnt a (ownC D ++ fills (txsC D) ts) = cnt a KM) ∧ (∀ a, cnt a (ownC D ++ fills' (txsC D) ts) = cnt a KM') := by
 induction h with
 | nil => intro ts ht; cases ht; exact ⟨[], [], .nil, fun a => rfl, fun a => rfl⟩
 | @one d f hif hs =>
  intro ts ht
  have e : txsC [d] = d.txs := by simp [txsC]
  rw [e] at ht ⊢
  exact ⟨_, _, .one hif (hs ts ht), fun a => by simp [ownC], fun a => by simp [ownC]⟩
 | @cons d d2 D f g hif hs h2 ih =>
  intro ts ht
  have e : txsC (d :: d2 :: D) = d.txs ++ txsC (d2 :: D) := by simp [txsC]
  rw [e] at ht ⊢
  obtain ⟨ts1, ts2, rfl, h3, h4⟩ := ht.split
  obtain ⟨KM, KM', h5, h6, h7⟩ := ih ts2 h4
  refine ⟨_, _, .cons hif (hs ts1 h3) h5, fun a => ?_, fun a => ?_⟩
  ·have := h6 a
   rw [fills_append h3, show ownC (d :: d2 :: D) = d.own ++ ownC (d2 :: D) by simp [ownC]]
   simp only [cnt_append] at this ⊢
   omega
  ·have := h7 a
   rw [fills'_append h3, show ownC (d :: d2 :: D) = d.own ++ ownC (d2 :: D) by simp [ownC]]
   simp only [cnt_append] at this ⊢
   omega
theorem item_shows {F : List UInt8 → List UInt8 → List UInt8} {i : IT} {f : List UInt8 → List UInt8} (hi : i.ok) (hD : ShowT F i.D f) : i.db.shows F (fun l => f (l ++ liO ++ itemHd (i.D.map DB.v)) ++ liC) := by
 intro ts ht
 obtain ⟨KM, KM', hP, h1, h2⟩ := docs_printT hD ts ht
 refine (item_prints hi.sl (by rw [IT.n_eq hi]; exact hi.len) hP).perm (fun a => ?_) fun a => ?_
 ·have := h1 a
  show cnt a (i.chunk :: (i.IM ++ ownC i.D) ++ fills (txsC i.D) ts) = _
  simp only [cnt_append, cnt_cons] at this ⊢; omega
 ·have := h2 a
  show cnt a (i.chunk :: (i.IM ++ ownC i.D) ++ fills' (txsC i.D) ts) = _
  simp only [cnt_append, cnt_cons] at this ⊢; omega
def lisDB (nb s e : Nat) (bul num : Int) (lo : Bool) (q : Option Addr) (n c : Nat) (IM : List Chunk) (items : List IT) : DB :=
 ⟨.iface ty_P_List (.pointer (some ⟨nb, 0, none⟩)), lstC nb s e bul num lo q n c :: (IM ++ ownC (items.map IT.db)), txsC (items.map IT.db)⟩
def ulO : List UInt8 := [60, 117, 108, 62, 10]
def ulC : List UInt8 := [60, 47, 117, 108, 62, 10]
theorem list_prints {nb s e : Nat} {bul num : Int} {lo : Bool} {q : Option Addr} {n c : Nat} {vs : List Value} {RM KM KM' : List Chunk} {f : List UInt8 → List UInt8} (hbul : bul ≠ 46 ∧ bul ≠ 41) (hS : Sl 1 ty_Block q n c vs RM) (hn : n < 4611686018427387904) (hP : PrintsL "PrintHTML" vs KM KM' f) :
 Prints "PrintHTML" (.iface ty_P_List (.pointer (some ⟨nb, 0, none⟩))) (lstC nb s e bul num lo q n c :: (RM ++ KM)) (lstC nb s e bul num lo q n c :: (RM ++ KM')) (fun l => f (l ++ ulO) ++ ulC) := by
 refine ⟨fun l => ?_, fun σ R b l M L w hB h hb hR => enter_meth meth_List ?_⟩
 ·have := hP.mono (l ++ ulO)
  simp only [List.length_append] at *; omega
 refine g_List_PrintHTML.sound ?_
 have hm := hP.mono (l ++ ulO)
 have e1 : ulO.length = 5 := rfl
 have e2 : ulC.length = 6 := rfl
 have b1 : (bul == 46) = false := by simpa using hbul.1
 have b2 : (bul == 41) = false := by simpa using hbul.2
 simp only [List.length_append] at hb hm
 refine nilP_some ⟨_, Sat.ld h (List.mem_append_right _ (.head _)) (i := 2) rfl, br_false b1 (nilP_some ⟨_, Sat.ld h (List.mem_append_right _ (.head _)) (i := 2) rfl, ?_⟩)⟩
 rw [b2]
 refine br_false rfl ?_
 refine writeS_ok (s := ulO) hB h (by omega) fun w M hB h => ⟨_, _, rfl, nilP_some ?_⟩
 refine ⟨_, _, _, Sat.ld h (List.mem_append_right _ (.head _)) (i := 5) rfl, ?_⟩
 intro X hX
 have h : Sat σ w (M ++ (RM ++ (KM ++ (lstC nb s e bul num lo q n c :: L)))) := h.re
 refine printLoop (X := fun j w => X (some ⟨nb, 0, none⟩) (some ⟨b, 0, none⟩) q n c (n : Int) j w) (END := fun w => nilP (some ⟨nb, 0, none⟩) fun a27 => ∃ (v28 : Int), w.cell? (a27.add 2) = some (.int .i32 v28) ∧
  br (v28 == 46) (g_List_PrintHTML.k3 R (some ⟨b, 0, none⟩) true w) (nilP (some ⟨nb, 0, none⟩) fun a29 => ∃ (v30 : Int), w.cell? (a29.add 2) = some (.int .i32 v30) ∧ g_List_PrintHTML.k3 R (some ⟨b, 0, none⟩) (v30 == 41) w)) hS (fun j w hj => hX _ _ _ _ _ _ _ _ hj) hP hB h hn (by omega) fun w M' hB h => ?_
 have hmem : lstC nb s e bul num lo q n c ∈ M' ++ (RM ++ (KM' ++ (lstC nb s e bul num lo q n c :: L))) := by simp
 refine nilP_some ⟨_, Sat.ld h hmem (i := 2) rfl, br_false b1 (nilP_some ⟨_, Sat.ld h hmem (i := 2) rfl, ?_⟩)⟩
 rw [b2]
 refine br_false rfl ?_
 refine writeS_ok (s := ulC) hB h (by omega) fun w M hB h => ⟨_, _, rfl, ?_⟩
 exact hR w M hB (h.re)
theorem list_shows {F : List UInt8 → List UInt8 → List UInt8} {nb s e : Nat} {bul num : Int} {lo : Bool} {q : Option Addr} {n c : Nat} {IM : List Chunk} {items : List IT} {gs : List (List UInt8 → List UInt8)} (hbul : bul ≠ 46 ∧ bul ≠ 41) (hS : Sl 1 ty_Block q n c (items.map IT.v) IM) (hn : n < 4611686018427387904) (hD : Show F (items.map IT.db) gs) :
 (lisDB nb s e bul num lo q n c IM items).shows F (fun l => compL gs (l ++ ulO) ++ ulC) := by
 intro ts ht
 obtain ⟨KM, KM', hP, h1, h2⟩ := docs_print2 hD ts ht
 have ev : (items.map IT.db).map DB.v = items.map IT.v := by simp [Function.comp_def, IT.db]
 rw [ev] at hP
 refine (list_prints (nb := nb) (s := s) (e := e) (num := num) (lo := lo) hbul hS hn hP).perm (fun a => ?_) fun a => ?_
 ·have := h1 a
  show cnt a (lstC nb s e bul num lo q n c :: (IM ++ ownC (items.map IT.db)) ++ fills (txsC (items.map IT.db)) ts) = _
  simp only [cnt_append, cnt_cons] at this ⊢; omega
 ·have := h2 a
  show cnt a (lstC nb s e bul num lo q n c :: (IM ++ ownC (items.map IT.db)) ++ fills' (txsC (items.map IT.db)) ts) = _
  simp only [cnt_append, cnt_cons] at this ⊢; omega
theorem text_shows {F : List UInt8 → List UInt8 → List UInt8} {nb t s e : Nat} {raw : List UInt8} : (tightDB (paraDB nb t s e raw)).shows F (F raw) := by
 rw [tightDB_para]
 intro ts ht
 cases ht with
 | @cons x t1 xs ts h1 h2 h3 =>
  cases h3
  rw [← h2]
  refine ⟨h1.2.2.mono, fun σ R b l M L w hB h hb hR => enter_meth meth_Text ?_⟩
  have h : Sat σ w (M ++ (textC t s e t1.q t1.n t1.c raw :: (t1.RM ++ (t1.KM ++ (paraC nb s e t :: L))))) := by
   simp only [fills, fill, List.append_nil] at h
   exact h.re
  refine textPrint_ok h1.1 (by have := h1.2.1; omega) h1.2.2 hB h hb fun w M hB h => hR w M hB ?_
  simp only [fills', fill', List.append_nil]
  exact h.re
end Go.Proofs.YtgbgadkldalkbaaGreatDoor


set_option linter.unusedVariables false
namespace Go.Proofs.YtgbgadkldalkbaaGreatDoor
open Go.Proofs Go.IntWalk Go.RowKit
variable {σ : Out} {w : World} {L L' : List Chunk} {R : Ending → World → Prop}
structure Bk where
 ob : OB
 own : List Chunk
 D : List DB
 IM : List Chunk
def Bk.ok (f : Bk) : Prop := Sl 1 ty_Block f.ob.q f.ob.n f.ob.c (f.D.map DB.v) f.IM ∧ f.D.length < 100000 ∧ f.ob.s < 1000000000 ∧ f.ob.e < 1000000000
def txc (D : List DB) : List Chunk := (txsC D).map TX.chunk
def Bk.mem (f : Bk) : List Chunk := f.IM ++ (f.own ++ (ownC f.D ++ txc f.D))
def memFs (fs : List Bk) : List Chunk := fs.flatMap Bk.mem
def txF (fs : List Bk) : List TX := fs.flatMap fun f => txsC f.D
theorem memFs_append (a b : List Bk) : memFs (a ++ b) = memFs a ++ memFs b := by simp [memFs]
theorem memFs_one (f : Bk) : memFs [f] = f.IM ++ (f.own ++ (ownC f.D ++ txc f.D)) := by simp [memFs, Bk.mem]
theorem memFs_two (f g : Bk) : memFs [f, g] = f.IM ++ (f.own ++ (ownC f.D ++ txc f.D)) ++ (g.IM ++ (g.own ++ (ownC g.D ++ txc g.D))) := by simp [memFs, Bk.mem]
theorem txF_append (a b : List Bk) : txF (a ++ b) = txF a ++ txF b := by simp [txF]
theorem txF_one (f : Bk) : txF [f] = txsC f.D := by simp [txF]
theorem txF_two (f g : Bk) : txF [f, g] = txsC f.D ++ txsC g.D := by simp [txF]
theorem txc_snoc (D : List DB) (d : DB) : txc (D ++ [d]) = txc D ++ d.txs.map TX.chunk := by simp [txc, txsC_snoc]
def DocC (σ : Out) (b : Nat) (L : List Chunk) (fs : List Bk) (lf : Leaf) (p : PS) (w : World) : Prop :=
 ∃ M TM lobs LM, Stk p (fs.map Bk.ob ++ lobs) M ∧ Txts p ((txF fs).map TX.t) TM ∧ (∀ f ∈ fs, f.ok) ∧ LeafAt lf lobs LM ∧ Sat σ w (p.at b :: M ++ (TM ++ (memFs fs ++ (LM ++ L))))
def Bk.like (f' f : Bk) : Prop := f'.ob.bd = f.ob.bd ∧ f'.ob.s = f.ob.s ∧ f'.ob.e = f.ob.e ∧ f'.own = f.own
theorem DocC.closed {b : Nat} {gs : List Bk} {par f : Bk} {p2 : PS} {M2 IM2 TM : List Chunk} {q' : Option Addr} {c' : Nat} {d : DB} {own' : List Chunk} (hok : ∀ g ∈ gs ++ [par, f], Bk.ok g) (hD : par.D.length < 99999)
 (hs2 : Stk p2 (gs.map Bk.ob ++ [{ par.ob with q := q', n := par.ob.n + 1, c := c' }]) M2) (hI2 : Sl 1 ty_Block q' (par.ob.n + 1) c' (par.D.map DB.v ++ [d.v]) IM2) (ht : Txts p2 ((txF (gs ++ [par, f])).map TX.t) TM) (htx : d.txs = txsC f.D)
 (h : Sat σ w (p2.at b :: M2 ++ (IM2 ++ (TM ++ (memFs gs ++ (own' ++ (ownC par.D ++ (txc par.D ++ (d.own ++ (txc f.D ++ L)))))))))) :
 DocC σ b L (gs ++ [⟨{ par.ob with q := q', n := par.ob.n + 1, c := c' }, own', par.D ++ [d], IM2⟩]) .none p2 w := by
 refine ⟨M2, TM, [], [], ?_, ?_, ?_, ⟨rfl, rfl⟩, ?_⟩
 ·rw [List.map_append, List.append_nil]; exact hs2
 ·have e : txF (gs ++ [⟨{ par.ob with q := q', n := par.ob.n + 1, c := c' }, own', par.D ++ [d], IM2⟩]) = txF (gs ++ [par, f]) := by
   rw [txF_append, txF_append, txF_one, txF_two, txsC_snoc, htx]
  rw [e]; exact ht
 ·intro g hg
  rcases List.mem_append.1 hg with hg | hg
  ·exact hok g (by simp [hg])
  ·obtain rfl := List.mem_singleton.1 hg
   obtain ⟨_, h2, h3⟩ := hok par (by simp)
   exact ⟨by rw [List.map_append]; exact hI2, by simp; omega, h3⟩
 ·rw [memFs_append, memFs_one, ownC_snoc, txc_snoc, htx]
  show Sat σ w (p2.at b :: M2 ++ (TM ++ (memFs gs ++ (IM2 ++ (own' ++ ((ownC par.D ++ d.own) ++ (txc par.D ++ txc f.D)))) ++ ([] ++ L))))
  exact h.re
theorem itemBuild_ok {b ib lb wd : Nat} {hv : Bool} {bul num : Int} {lo : Bool} {it : Option Addr} {td : Value} {p : PS} {ob : List OB} {o : OB} {M : List Chunk} (h : Sat σ w (p.at b :: M ++ (iteC ib lb wd hv :: lisC lb bul num lo it td :: L))) (hs : Stk p (ob ++ [o]) M)
 (hR : ∀ w nb, Sat σ w (p.at b :: M ++ ((nb, cel [.int .i64 o.s, .int .i64 o.e, .slice o.q o.n o.c, .int .i64 wd] ty_Item) :: lisC lb bul num lo none td :: L)) → R (.returned (.iface ty_P_Item (.pointer (some ⟨nb, 0, none⟩)))) w) :
 callE P i_itemBuilder_build #[.pointer (some ⟨ib, 0, none⟩), .iface ty_P_parseState (.pointer (some ⟨b, 0, none⟩))] R w := by
 refine g_itemBuilder_build.sound ?_
 have h : Sat σ w (lisC lb bul num lo it td :: iteC ib lb wd hv :: (p.at b :: M ++ L)) := h.re
 refine nilP_some ⟨_, Sat.ld h (.tail _ (.head _)) (i := 0) rfl, nilP_some ?_⟩
 refine h.stA 0 fun w h => ?_
 have h : Sat σ w (lisC lb bul num lo none td :: iteC ib lb wd hv :: (p.at b :: M ++ L)) := h
 refine Sat.tk h fun w h => nilP_some ⟨_, Sat.ld h (.tail _ (.head _)) (i := 1) rfl, ?_⟩
 have h0 := h
 have h : Sat σ w (p.at b :: M ++ (lisC lb bul num lo none td :: iteC ib lb wd hv :: L)) := h.re
 have hm : iteC ib lb wd hv ∈ p.at b :: M ++ (lisC lb bul num lo none td :: iteC ib lb wd hv :: L) := by simp
 refine enter_meth meth_pos ?_
 refine pos_ok h hs fun w h => ⟨_, _, rfl, h0.same h (.tail _ (.head _)) hm 1, ?_⟩
 have h1 := h
 refine enter_meth meth_blocks ?_
 refine blocks_ok h hs fun w h => ⟨_, _, _, rfl, h1.same h hm hm 1, ?_⟩
 refine Sat.bx h fun nb w h => hR w nb ?_
 have h : Sat σ w ((nb, cel [.int .i64 o.s, .int .i64 o.e, .slice o.q o.n o.c, .int .i64 wd] ty_Item) :: (p.at b :: M ++ (lisC lb bul num lo none td :: iteC ib lb wd hv :: L))) := h
 exact h.less [iteC ib lb wd hv]
def Bk.isItem (f : Bk) (lb wd : Nat) (hv : Bool) : Prop := ∃ ib, f.ob.bd = iteV ib ∧ f.own = [iteC ib lb wd hv]
def ItemOf (it : Option Addr) (f : Bk) (lb wd : Nat) (hv : Bool) : Prop := ∃ ib, it = some ⟨ib, 0, none⟩ ∧ f.ob.bd = iteV ib ∧ f.own = [iteC ib lb wd hv]
theorem ItemOf.item {it : Option Addr} {f : Bk} {lb wd : Nat} {hv : Bool} (h : ItemOf it f lb wd hv) : f.isItem lb wd hv := ⟨h.choose, h.choose_spec.2⟩
def Bk.isListT (f : Bk) (lb : Nat) (bul num : Int) (it : Option Addr) (td : Value) : Prop := f.ob.bd = lisV lb ∧ f.own = [lisC lb bul num false it td]
abbrev Bk.isList (f : Bk) (lb : Nat) (bul num : Int) (it : Option Addr) : Prop := f.isListT lb bul num it .nilFunc
theorem closeItemC {b lb wd : Nat} {hv : Bool} {bul num : Int} {it : Option Addr} {td : Value} {gs : List Bk} {par f : Bk} {p : PS} (h : DocC σ b L (gs ++ [par, f]) .none p w) (hf : f.isItem lb wd hv) (hp : par.isListT lb bul num it td) (hD : par.D.length < 99999)
 (hR : ∀ w par' nb x, par'.isListT lb bul num none td → par'.ob.s = par.ob.s → par'.ob.e = par.ob.e → par'.D = par.D ++ [(IT.mk nb f.ob.s f.ob.e f.ob.q f.ob.n f.ob.c wd f.IM f.D).db] → (IT.mk nb f.ob.s f.ob.e f.ob.q f.ob.n f.ob.c wd f.IM f.D).ok → DocC σ b L (gs ++ [par']) .none { p with stn := gs.length + 1 } w → R (.returned x) w) :
 callE P i_parseState_closeBlock #[.pointer (some ⟨b, 0, none⟩)] R w := by
 obtain ⟨M, TM, lobs, LM, hs, ht, hok, ⟨rfl, rfl⟩, h⟩ := h
 obtain ⟨ib, hbd, hown⟩ := hf
 obtain ⟨pbd, pown⟩ := hp
 have hs : Stk p (gs.map Bk.ob ++ [par.ob] ++ [f.ob]) M := by simpa using hs
 have hpok := (hok par (by simp)).1
 obtain ⟨hfo1, hfo2, hfo3⟩ := hok f (by simp)
 have hpn : par.ob.n = par.D.length := by have := hpok.1; simp at this; omega
 rw [memFs_append, memFs_two, hown, pown] at h
 refine closeB_build h hs hbd fun w h => ?_
 rw [hbd]
 have h : Sat σ w (p.at b :: M ++ (iteC ib lb wd hv :: lisC lb bul num false it td :: (par.IM ++ (TM ++ (memFs gs ++ (ownC par.D ++ (txc par.D ++ (f.IM ++ (ownC f.D ++ (txc f.D ++ L)))))))))) := h.re
 refine enter_meth meth_itemBuild ?_
 refine itemBuild_ok h hs fun w nb h => ⟨_, rfl, none, false, w, ta_list_no (by decide) w, br_false rfl ?_⟩
 have h : Sat σ w (p.at b :: M ++ (par.IM ++ (TM ++ (memFs gs ++ ([lisC lb bul num false none td] ++ (ownC par.D ++ (txc par.D ++ (((IT.mk nb f.ob.s f.ob.e f.ob.q f.ob.n f.ob.c wd f.IM f.D).chunk :: (f.IM ++ ownC f.D)) ++ (txc f.D ++ L))))))))) := by
  have h : Sat σ w (p.at b :: M ++ ((IT.mk nb f.ob.s f.ob.e f.ob.q f.ob.n f.ob.c wd f.IM f.D).chunk :: lisC lb bul num false none td :: (par.IM ++ (TM ++ (memFs gs ++ (ownC par.D ++ (txc par.D ++ (f.IM ++ (ownC f.D ++ (txc f.D ++ L)))))))))) := h
  exact h.re
 refine closeB_k3 h hs hpok (by omega) fun w p2 M2 IM2 q' c' hp2 hs2 hI2 h => ?_
 have e : p2 = { p with stn := gs.length + 1 } := by rw [hp2, List.length_map]
 rw [e] at hs2 h
 refine hR w ⟨{ par.ob with q := q', n := par.ob.n + 1, c := c' }, [lisC lb bul num false none td], par.D ++ [(IT.mk nb f.ob.s f.ob.e f.ob.q f.ob.n f.ob.c wd f.IM f.D).db], IM2⟩ nb _ ⟨pbd, rfl⟩ rfl rfl rfl ⟨hfo1, by show f.D.length < 1000000; omega, hfo3⟩ (DocC.closed (par := par) (f := f) (d := (IT.mk nb f.ob.s f.ob.e f.ob.q f.ob.n f.ob.c wd f.IM f.D).db) hok hD hs2 hI2 (ht.of rfl rfl rfl) rfl ?_)
 exact h
theorem closeParaC {b : Nat} {gs : List Bk} {par : Bk} {p : PS} {ls : List (List UInt8)} (h : DocC σ b L (gs ++ [par]) (.para ls) p w) (hf : Leaf.finN (.para ls)) (hD : par.D.length < 99999) (hX : (txF (gs ++ [par])).length < 100000)
 (hR : ∀ w p' par' nb t s e x, p'.base = p.base → p'.depth = p.depth → p'.lineno = p.lineno → p'.stn = gs.length + 1 → par'.like par → par'.D = par.D ++ [paraDB nb t s e (joinL [10] ls)] → e = s + ls.length - 1 → s < 1000000000 → DocC σ b L (gs ++ [par']) .none p' w → R (.returned x) w) :
 callE P i_parseState_closeBlock #[.pointer (some ⟨b, 0, none⟩)] R w := by
 obtain ⟨M, TM, lobs, LM, hs, ht, hok, ⟨qb, s, e, rfl, hp, hs1, hne, hln⟩, h⟩ := h
 obtain ⟨hf1, hf2, hf3⟩ := hf
 have hs : Stk p (gs.map Bk.ob ++ [par.ob] ++ [paraOB qb s e]) M := by simpa using hs
 obtain ⟨hpok, hpok2⟩ := hok par (by simp)
 have hpn : par.ob.n = par.D.length := by have := hpok.1; simp at this; omega
 rw [memFs_append, memFs_one] at h
 have h : Sat σ w (p.at b :: M ++ (par.IM ++ (TM ++ (LM ++ (memFs gs ++ (par.own ++ (ownC par.D ++ (txc par.D ++ L)))))))) := h.re
 refine closePara_ok (ob := gs.map Bk.ob) (par := par.ob) (o := paraOB qb s e) h hs rfl hpok (by omega) ht (by simp; omega) hp hne (by omega) rfl hf1 hf2 hf3 (by exact hs1) fun w p' M' IM' TM' t nb q' c' x hp' hs' ht' hI' h => ?_
 refine hR w p' ⟨{ par.ob with q := q', n := par.ob.n + 1, c := c' }, par.own, par.D ++ [paraDB nb t s (s + ls.length - 1) (joinL [10] ls)], IM'⟩ nb t s (s + ls.length - 1) x (by rw [hp']; rfl) (by rw [hp']) (by rw [hp']) (by rw [hp']; simp) ⟨rfl, rfl, rfl, rfl⟩ rfl rfl hs1 ?_
 refine ⟨M', TM', [], [], ?_, ?_, ?_, ⟨rfl, rfl⟩, ?_⟩
 ·rw [List.map_append, List.append_nil]; exact hs'
 ·have e : txF (gs ++ [⟨{ par.ob with q := q', n := par.ob.n + 1, c := c' }, par.own, par.D ++ [paraDB nb t s (s + ls.length - 1) (joinL [10] ls)], IM'⟩]) = txF (gs ++ [par]) ++ [⟨t, s, s + ls.length - 1, joinL [10] ls⟩] := by
   rw [txF_append, txF_append, txF_one, txF_one, txsC_snoc, List.append_assoc]; rfl
  rw [e, List.map_append]; exact ht'
 ·intro g hg
  rcases List.mem_append.1 hg with hg | hg
  ·exact hok g (by simp [hg])
  ·obtain rfl := List.mem_singleton.1 hg
   exact ⟨by rw [List.map_append]; exact hI', by simp; omega, hpok2.2⟩
 ·rw [memFs_append, memFs_one, ownC_snoc, txc_snoc]
  have h : Sat σ w (p'.at b :: M' ++ (IM' ++ (TM' ++ (paraC nb s (s + ls.length - 1) t :: textC t s (s + ls.length - 1) none 0 0 (joinL [10] ls) :: (memFs gs ++ (par.own ++ (ownC par.D ++ (txc par.D ++ L)))))))) := h
  show Sat σ w (p'.at b :: M' ++ (TM' ++ (memFs gs ++ (IM' ++ (par.own ++ ((ownC par.D ++ [paraC nb s (s + ls.length - 1) t]) ++ (txc par.D ++ [textC t s (s + ls.length - 1) none 0 0 (joinL [10] ls)])))) ++ ([] ++ L))))
  exact h.re
end Go.Proofs.YtgbgadkldalkbaaGreatDoor


set_option linter.unusedVariables false
namespace Go.Proofs.YtgbgadkldalkbaaGreatDoor
open Go.Proofs Go.IntWalk Go.RowKit
variable {σ : Out} {w : World} {L L' : List Chunk} {R : Ending → World → Prop}
theorem DB.kindOK.ifc {d : DB} (h : d.kindOK) : d.ifc ∧ (tightDB d).ifc := by
 rcases h with ⟨nb, t, s, e, raw, rfl⟩ | ⟨ty, q, h, ht⟩
 ·rw [tightDB_para]
  exact ⟨⟨_, _, rfl⟩, ⟨_, _, rfl⟩⟩
 ·rw [tightDB_other h ht]
  exact ⟨⟨_, _, h⟩, ⟨_, _, h⟩⟩
theorem Ret.facts {is is' : List IT} (h : Ret is is') (hk : ∀ i ∈ is, ∀ d ∈ i.D, d.kindOK) : txsC (is'.map IT.db) = txsC (is.map IT.db) ∧ ∀ i ∈ is', i.ok ∧ ∀ d ∈ i.D, d.ifc := by
 induction h with
 | nil => exact ⟨rfl, by simp⟩
 | @cons i i' is is' h1 h2 _ ih =>
  obtain ⟨e1, e2⟩ := ih fun j hj => hk j (List.mem_cons_of_mem _ hj)
  have hki := hk i (by simp)
  have ed : i'.D = i.D.map tightDB := by rw [h1]
  refine ⟨?_, fun j hj => ?_⟩
  ·show txsC i'.D ++ txsC (is'.map IT.db) = txsC i.D ++ txsC (is.map IT.db)
   rw [e1, ed, (ownC_tight hki).2]
  ·rcases List.mem_cons.1 hj with rfl | hj
   ·refine ⟨h2, fun d hd => ?_⟩
    rw [ed] at hd
    obtain ⟨d0, hd0, rfl⟩ := List.mem_map.1 hd
    exact (hki d0 hd0).ifc.2
   ·exact e2 j hj
def Tgh (lo : Bool) (items items' : List IT) : Prop := lo = true ∧ items' = items ∨ lo = false ∧ Ret items items'
end Go.Proofs.YtgbgadkldalkbaaGreatDoor


set_option linter.unusedVariables false
namespace Go.Proofs.YtgbgadkldalkbaaGreatDoor
open Go.Proofs Go.IntWalk Go.RowKit
variable {σ : Out} {w : World} {L L' : List Chunk} {R : Ending → World → Prop}
noncomputable def rowPL : Row P ty_S_P_List ty_P_List 1 8 :=
 ⟨(P.info? ty_P_List).getD default, ((P.info? ty_P_List).bind (·.zero)).getD default, by kernel_rfl, by kernel_rfl, by kernel_rfl, by kernel_rfl, by kernel_rfl, by kernel_rfl, by decide⟩
theorem closeListT {b lb pb : Nat} {op : Opt} {bul num : Int} {it : Option Addr} {gs : List Bk} {par f : Bk} {p : PS} {items : List IT} {pos : DB → Nat × Nat} (h : DocC σ b L (gs ++ [par, f]) .none p w) (hf : f.isList lb bul num it) (hfD : f.D = items.map IT.db) (hne : items ≠ [])
 (hio : ∀ i ∈ items, i.ok ∧ ∀ d ∈ i.D, d.kindOK ∧ d.posIs (pos d).1 (pos d).2 ∧ (pos d).1 < 1000000000 ∧ (pos d).2 < 1000000000) (hpz : p.pz = some ⟨pb, 0, none⟩) (hop : op.at pb ∈ L) (htask : op.task = true) (hLq : p.Lq = none ∧ p.Ln = 0 ∧ p.Lc = 0) (hD : par.D.length < 99999)
 (hR : ∀ w (p' : PS) par' nb e items' LM x, p'.base = { p.base with Lq := p'.Lq, Ln := 1, Lc := p'.Lc } → Sl 1 ty_P_List p'.Lq 1 p'.Lc [.pointer (some ⟨nb, 0, none⟩)] LM → p'.depth = p.depth → p'.lineno = p.lineno → p'.stn = gs.length + 1 → par'.like par → Tgh (gapI pos items) items items' → (∃ i ∈ items, e = i.e) → par'.D = par.D ++ [lisDB nb f.ob.s e bul num (gapI pos items) f.ob.q f.ob.n f.ob.c f.IM items'] →
  DocC σ b (LM ++ L) (gs ++ [par']) .none p' w → R (.returned x) w) :
 callE P i_parseState_closeBlock #[.pointer (some ⟨b, 0, none⟩)] R w := by
 obtain ⟨M, TM, lobs, LM, hs, ht, hok, ⟨rfl, rfl⟩, h⟩ := h
 obtain ⟨hbd, hown⟩ := hf
 have hs : Stk p (gs.map Bk.ob ++ [par.ob] ++ [f.ob]) M := by simpa using hs
 have hpok := (hok par (by simp)).1
 obtain ⟨hfo1, hfo2, hfo3⟩ := hok f (by simp)
 have hpn : par.ob.n = par.D.length := by have := hpok.1; simp at this; omega
 have hdv : f.D.map DB.v = items.map IT.v := by rw [hfD]; simp [Function.comp_def, IT.db]
 rw [hdv] at hfo1
 have hil : items.length < 100000 := by rw [hfD] at hfo2; simpa using hfo2
 have htxf : txc f.D = (txsC (items.map IT.db)).map TX.chunk := by rw [hfD]; rfl
 rw [memFs_append, memFs_two, hown, hfD] at h
 refine closeB_build h hs hbd fun w h => ?_
 rw [hbd]
 have h : Sat σ w (p.at b :: M ++ (lisC lb bul num false it .nilFunc :: (f.IM ++ (ownC (items.map IT.db) ++ (par.IM ++ (TM ++ (memFs gs ++ (par.own ++ (ownC par.D ++ (txc par.D ++ (txc (items.map IT.db) ++ L))))))))))) := h.re
 refine enter_meth meth_listBuild ?_
 refine listBuild_ok (pos := pos) h hs hfo1 hne (by omega) hfo3.1 hio fun w nb e items' htg he h => ⟨_, rfl, some ⟨nb, 0, none⟩, true, w, ta_yes (by rw [und_PList]; intro ms h; cases h) und_PList w, br_true rfl (nilP_some ?_)⟩
 have hvs : items'.map IT.v = items.map IT.v := by
  rcases htg with ⟨_, rfl⟩ | ⟨_, hr⟩
  ·rfl
  ·exact hr.vs
 have hfacts : txsC (items'.map IT.db) = txsC (items.map IT.db) ∧ ∀ i ∈ items', i.ok ∧ ∀ d ∈ i.D, d.ifc := by
  rcases htg with ⟨_, rfl⟩ | ⟨_, hr⟩
  ·exact ⟨rfl, fun i hi => ⟨(hio i hi).1, fun d hd => ((hio i hi).2 d hd).1.ifc.1⟩⟩
  ·exact hr.facts fun i hi d hd => ((hio i hi).2 d hd).1
 have hlen' : items'.length < 1000000 := by have := congrArg List.length hvs; simp at this; omega
 have k2 : ∀ (kk : Bool) w, Sat σ w (({ p with corner := kk } : PS).at b :: M ++ (lstC nb f.ob.s e bul num (gapI pos items) f.ob.q f.ob.n f.ob.c :: (f.IM ++ (ownC (items'.map IT.db) ++ (par.IM ++ (TM ++ (memFs gs ++ (par.own ++ (ownC par.D ++ (txc par.D ++ (txc (items.map IT.db) ++ L))))))))))) →
  g_parseState_closeBlock.k2 R (some ⟨b, 0, none⟩) (.iface ty_P_List (.pointer (some ⟨nb, 0, none⟩))) (some ⟨nb, 0, none⟩) w := by
  intro kk w h
  refine nilP_some ⟨_, Sat.ld h (.head _) (i := 0) rfl, ?_⟩
  rw [hpz]
  refine nilP_some ⟨_, Sat.ld h (by simp [hop] : op.at pb ∈ _) rfl, br_true htask (nilP_some ?_)⟩
  refine ⟨_, _, _, Sat.ld h (.head _) (i := 10) rfl, ?_⟩
  rw [hLq.1, hLq.2.1, hLq.2.2]
  refine Sat.app1 rowPL (Sl.nil 1 ty_P_List) (M := []) h (v := .pointer (some ⟨nb, 0, none⟩)) rfl (by simp [Value.cells, Value.oneCell']) (by kernel_rfl) (by decide) (by decide) (by decide) fun q' c' w LM hSL h => ?_
  rw [List.nil_append] at hSL
  refine nilP_some ?_
  have h : Sat σ w (({ p with corner := kk } : PS).at b :: (M ++ (lstC nb f.ob.s e bul num (gapI pos items) f.ob.q f.ob.n f.ob.c :: (f.IM ++ (ownC (items'.map IT.db) ++ (par.IM ++ (TM ++ (memFs gs ++ (par.own ++ (ownC par.D ++ (txc par.D ++ (txc (items.map IT.db) ++ (LM ++ L))))))))))))) := h.re
  refine h.stA 0 fun w h => ?_
  generalize hp1 : ({ p with corner := kk, Lq := q', Ln := 1, Lc := c' } : PS) = p1
  have h : Sat σ w (p1.at b :: M ++ (par.IM ++ (TM ++ (memFs gs ++ (par.own ++ (ownC par.D ++ (txc par.D ++ ((lstC nb f.ob.s e bul num (gapI pos items) f.ob.q f.ob.n f.ob.c :: (f.IM ++ ownC (items'.map IT.db))) ++ (txc f.D ++ (LM ++ L)))))))))) := by
   rw [hfD, ← hp1]
   have h : Sat σ w (({ p with corner := kk, Lq := q', Ln := 1, Lc := c' } : PS).at b :: (M ++ (lstC nb f.ob.s e bul num (gapI pos items) f.ob.q f.ob.n f.ob.c :: (f.IM ++ (ownC (items'.map IT.db) ++ (par.IM ++ (TM ++ (memFs gs ++ (par.own ++ (ownC par.D ++ (txc par.D ++ (txc (items.map IT.db) ++ (LM ++ L))))))))))))) := h
   exact h.re
  have eL : p1.Lq = q' ∧ p1.Lc = c' := by rw [← hp1]; exact ⟨rfl, rfl⟩
  refine closeB_k3 h (hs.of (by rw [← hp1]) (by rw [← hp1]) (by rw [← hp1])) hpok (by omega) fun w p2 M2 IM2 q2 c2 hp2 hs2 hI2 h => ?_
  have e2 : p2 = { p1 with stn := gs.length + 1 } := by rw [hp2, List.length_map]
  rw [e2] at hs2 h
  refine hR w { p1 with stn := gs.length + 1 } ⟨{ par.ob with q := q2, n := par.ob.n + 1, c := c2 }, par.own, par.D ++ [lisDB nb f.ob.s e bul num (gapI pos items) f.ob.q f.ob.n f.ob.c f.IM items'], IM2⟩ nb e items' LM _ (by rw [← hp1]; rfl) (by show Sl 1 ty_P_List p1.Lq 1 p1.Lc _ _; rw [eL.1, eL.2]; exact hSL) (by rw [← hp1]) (by rw [← hp1]) rfl ⟨rfl, rfl, rfl, rfl⟩ htg he rfl
   (DocC.closed (par := par) (f := f) (d := lisDB nb f.ob.s e bul num (gapI pos items) f.ob.q f.ob.n f.ob.c f.IM items') hok hD hs2 hI2 (ht.of (by rw [← hp1]) (by rw [← hp1]) (by rw [← hp1])) ?_ ?_)
  ·rw [hfD]; exact hfacts.1
  ·exact h
 refine ⟨_, Sat.ld h (.head _) (i := 6) rfl, br_split (fun _ => nilP_some ?_) fun _ => ?_⟩
 ·refine Sat.st h (k := 0) rfl (by simp [PS.cells]) trivial rfl fun w h => ?_
  exact k2 true w h
 ·refine listCorner_ok (nb := nb) (s := f.ob.s) (e := e) (bul := bul) (num := num) (loose := gapI pos items) (items := items') (hvs ▸ hfo1) hfacts.2 hlen' h (fun x hx => ?_) fun kk => ⟨_, rfl, nilP_some ?_⟩
  ·rcases List.mem_cons.1 hx with rfl | hx
   ·simp
   ·rcases List.mem_append.1 hx with hx | hx <;> simp [hx]
  ·refine Sat.st h (k := 0) rfl (by simp [PS.cells]) trivial rfl fun w h => ?_
   exact k2 kk w h
end Go.Proofs.YtgbgadkldalkbaaGreatDoor


set_option linter.unusedVariables false
set_option maxRecDepth 20000
namespace Go.Proofs.YtgbgadkldalkbaaGreatDoor
open Go.Proofs
namespace g_normalizeLabel
noncomputable def body : Code := bodyOf Tryz.f158
def k4 (R : EP) (Xa : BA → Nat → Bool → Bool → Int → WP) (x0 : BA) (x3 : Nat) (x4 x5 : Bool) (x6 x7 : Int) (w : World) : Prop :=
 br (decide (x7 ≥ 128))
 (callE P i_strings_Builder_WriteByte #[.pointer (some ⟨x3, 0, none⟩), .int .u8 x7] (fun e w14 => ∃ (r13 : Value), e = .returned r13 ∧
 Xa x0 x3 x4 true (IntKind.i64.wrap (x6 + 1)) w14) w)
 (callE P i_strings_Builder_WriteByte #[.pointer (some ⟨x3, 0, none⟩), .int .u8 x7] (fun e w16 => ∃ (r15 : Value), e = .returned r15 ∧
 Xa x0 x3 x4 x5 (IntKind.i64.wrap (x6 + 1)) w16) w)

def k3 (R : EP) (Xa : BA → Nat → Bool → Bool → Int → WP) (x0 : BA) (x3 : Nat) (x4 x5 : Bool) (x6 x7 : Int) (w : World) : Prop :=
 br ((decide (65 ≤ x7)) && (decide (x7 ≤ 90)))
 (k4 R Xa x0 x3 x4 x5 x6 (IntKind.u8.wrap (x7 + 32)) w)
 (k4 R Xa x0 x3 x4 x5 x6 x7 w)

def k2 (R : EP) (Xa : BA → Nat → Bool → Bool → Int → WP) (x0 : BA) (x3 : Nat) (x4 x5 : Bool) (x6 x7 : Int) (x40 : Bool) (w : World) : Prop :=
 br x40
 (Xa x0 x3 true x5 (IntKind.i64.wrap (x6 + 1)) w)
 (br x4
 (callE P i_strings_Builder_WriteByte #[.pointer (some ⟨x3, 0, none⟩), .int .u8 32] (fun e w12 => ∃ (r11 : Value), e = .returned r11 ∧
 k3 R Xa x0 x3 false x5 x6 x7 w12) w)
 (k3 R Xa x0 x3 x4 x5 x6 x7 w))

def bl1 (R : EP) (Xa : BA → Nat → Bool → Bool → Int → WP) (x0 : BA) (x3 : Nat) (x4 x5 : Bool) (x6 : Int) (w : World) : Prop :=
 br (decide (x6 < (x0.size : Int)))
 (0 ≤ x6 ∧ x6 < (x0.size : Int) ∧
 br ((bt x0 x6) == 32)
 (k2 R Xa x0 x3 x4 x5 x6 (bt x0 x6) true w)
 (br ((bt x0 x6) == 9)
 (k2 R Xa x0 x3 x4 x5 x6 (bt x0 x6) true w)
 (k2 R Xa x0 x3 x4 x5 x6 (bt x0 x6) ((bt x0 x6) == 10) w)))
 (callE P i_strings_Builder_String #[.pointer (some ⟨x3, 0, none⟩)] (fun e w10 => ∃ (r9 : BA), e = .returned (.string r9) ∧
 R (.returned (.string r9)) w10) w)
def l1 (R : EP) (x0 : BA) (x3 : Nat) (x4 x5 : Bool) (x6 : Int) (w : World) : Prop :=
 ∀ X : BA → Nat → Bool → Bool → Int → WP, (∀ x0 x3 x4 x5 x6 w, bl1 R X x0 x3 x4 x5 x6 w → X x0 x3 x4 x5 x6 w) → X x0 x3 x4 x5 x6 w

noncomputable def al1 (R : EP) (Xa : BA → Nat → Bool → Bool → Int → WP) : AC :=
 (.seq (.leaf (sel [1,1,1,1,1,1,0,1,0,0,0] body)) (.seq (.block 1 (.seq (.leaf (sel [1,1,1,1,1,1,0,1,0,0,1,0,0,0] body)) (.seq (.leaf (sel [1,1,1,1,1,1,0,1,0,0,1,0,0,1,0] body)) (.block 2 (.seq (.leaf (sel [1,1,1,1,1,1,0,1,0,0,1,0,0,1,1,0,0] body)) (.mark (leaf [(0, .s .str), (3, .s .loc), (4, .s .bool), (5, .s .bool), (6, .s (.int .i64)), (7, .s (.int .u8)), (40, .s .bool)] (k2 R Xa)) (.cond 40 (.leaf (sel [1,1,1,1,1,1,0,1,0,0,1,0,0,1,1,0,1,0] body)) (.seq (.leaf (sel [1,1,1,1,1,1,0,1,0,0,1,0,0,1,1,0,1,1,0] body)) (.mark (leaf [(0, .s .str), (3, .s .loc), (4, .s .bool), (5, .s .bool), (6, .s (.int .i64)), (7, .s (.int .u8))] (k3 R Xa)) (.seq (.leaf (sel [1,1,1,1,1,1,0,1,0,0,1,0,0,1,1,0,1,1,1,0] body)) (.mark (leaf [(0, .s .str), (3, .s .loc), (4, .s .bool), (5, .s .bool), (6, .s (.int .i64)), (7, .s (.int .u8))] (k4 R Xa)) (.leaf (sel [1,1,1,1,1,1,0,1,0,0,1,0,0,1,1,0,1,1,1,1] body))))))))))))) (.leaf (sel [1,1,1,1,1,1,0,1,0,0,1,1] body))))
def k1 (R : EP) (x0 : BA) (w : World) : Prop :=
 callE P i_trimSpaceTabNewline #[.string x0] (fun e w6 => ∃ (r5 : BA), e = .returned (.string r5) ∧
 box w6 #[.pointer none, .slice none 0 0] ty_strings_Builder fun b7 w8 =>
 l1 R r5 b7 false false 0 w8) w

end g_normalizeLabel
def g_normalizeLabel (R : EP) (x0 : BA) (w : World) : Prop :=
 callE P i_zzContains #[.string x0, .string (ByteArray.mk #[91])] (fun e w2 => ∃ (r1 : Bool), e = .returned (.bool r1) ∧
 br r1
 (R (.returned (.string (ByteArray.mk #[]))) w2)
 (callE P i_zzContains #[.string x0, .string (ByteArray.mk #[93])] (fun e w4 => ∃ (r3 : Bool), e = .returned (.bool r3) ∧
 br r3
 (R (.returned (.string (ByteArray.mk #[]))) w4)
 (g_normalizeLabel.k1 R x0 w4)) w2)) w

namespace g_normalizeLabel
noncomputable def ac (R : EP) : AC :=
 (.seq (.leaf (sel [0] body)) (.seq (.leaf (sel [1,0] body)) (.mark (leaf [(0, .s .str)] (k1 R)) (.seq (.leaf (sel [1,1,0] body)) (.seq (.leaf (sel [1,1,1,0] body)) (.seq (.leaf (sel [1,1,1,1,0] body)) (.seq (.leaf (sel [1,1,1,1,1,0] body)) (.seq (.seq (.leaf (sel [1,1,1,1,1,1,0,0] body)) (.block 0 (.loop (leaf [(0, .s .str), (3, .s .loc), (4, .s .bool), (5, .s .bool), (6, .s (.int .i64))] (l1 R)) (sel [1,1,1,1,1,1,0,1,0,0] body)))) (.leaf (sel [1,1,1,1,1,1,1] body))))))))))
theorem good (R : EP) : Good P 47 (ac R) (QF P [.tmp 2] R) :=
 ⟨trivial, ⟨trivial, ⟨⟨trivial, ⟨trivial, ⟨trivial, ⟨trivial, ⟨⟨trivial, (loopG (al1 R) (bl1 R) (fun _ => by kernel_rfl) (fun Xa => ⟨trivial, ⟨⟨trivial, ⟨trivial, ⟨trivial, ⟨⟨trivial, ⟨trivial, ⟨⟨trivial, ⟨trivial, cutZ⟩⟩, cutZ⟩⟩⟩, cutZ⟩⟩⟩⟩, trivial⟩⟩) (fun Xa => by intro x0 x3 x4 x5 x6 ρ w; kernel_rfl) (fun X h _ _ _ _ _ _ g => g X h))⟩, trivial⟩⟩⟩⟩⟩, cutZ⟩⟩⟩
theorem eq (R : EP) (x0 : BA) (w : World) : g_normalizeLabel R x0 w = vcA P 47 (ac R) (QF P [.tmp 2] R) (fr0 [.string x0]) w := by kernel_rfl
theorem sound {R : EP} {x0 : ByteArray} {w : World} (h : g_normalizeLabel R x0 w) : callE P i_normalizeLabel #[.string x0] R w :=
 callE_fz (c := body) Tryz.func158 Tryz.call158 (good R) (eq R x0 w) h
end g_normalizeLabel
namespace g_parseState_parseLinkClose
noncomputable def body : Code := bodyOf Tryz.f104
def k5 (R : EP) (x0 : OA) (x1 : BA) (x2 : Int) (x3 : OA) (x22 : Int) (w : World) : Prop :=
 tk w fun w29 =>
 nilP x0 fun a30 =>
 nilP x3 fun a31 =>
 ∃ (v32 : Option Nat), w29.cell? (a30.add 2) = some (.map v32) ∧
 ∃ (v33 : Int), w29.cell? (a31.add 1) = some (.int .i64 v33) ∧
 0 ≤ v33 ∧ v33 ≤ x2 ∧ x2 ≤ (x1.size : Int) ∧
 callE P i_normalizeLabel #[.string (x1.extract (Int.toNat v33) (Int.toNat x2))] (fun e w35 => ∃ (r34 : BA), e = .returned (.string r34) ∧
 SameC w29 w35 (a30.add 2) 1 ∧
 ∃ (r36_0 : OA), ∃ (r36_1 : Bool), ∃ w37, (Instr.lookup ty_map_string_P_Link (.map v32) (.string r34) true).run P w35 = .ok (.tuple #[.pointer r36_0, .bool r36_1]) w37 ∧
 br r36_1
 (tk w37 fun w38 =>
 nilP r36_0 fun a39 =>
 nilP r36_0 fun a40 =>
 nilP r36_0 fun a41 =>
 ∃ (v42 : BA), w38.cell? (a39.add 1) = some (.string v42) ∧
 ∃ (v43 : BA), w38.cell? (a40.add 2) = some (.string v43) ∧
 ∃ (v44 : Bool), w38.cell? (a41.add 4) = some (.bool v44) ∧
 box w38 #[.slice none 0 0, .string v42, .string v43, .int .u8 0, .bool v44] ty_Link fun b45 w46 =>
 R (.returned (.tuple #[.pointer (some ⟨b45, 0, none⟩), .int .i64 x22, .bool true])) w46)
 (R (.returned (.tuple #[.pointer none, .int .i64 0, .bool false])) w37)) w29

def k2 (R : EP) (x0 : OA) (x1 : BA) (x2 : Int) (x3 : OA) (w : World) : Prop :=
 0 ≤ (IntKind.i64.wrap (x2 + 1)) ∧ (IntKind.i64.wrap (x2 + 1)) ≤ (x1.size : Int) ∧
 callE P i_strings_HasPrefix #[.string (x1.extract (Int.toNat (IntKind.i64.wrap (x2 + 1))) x1.size), .string (ByteArray.mk #[91, 93])] (fun e w26 => ∃ (r25 : Bool), e = .returned (.bool r25) ∧
 br r25
 (k5 R x0 x1 x2 x3 (IntKind.i64.wrap ((IntKind.i64.wrap (x2 + 1)) + 2)) w26)
 (k5 R x0 x1 x2 x3 (IntKind.i64.wrap (x2 + 1)) w26)) w

def k7 (R : EP) (x0 : OA) (x1 : BA) (x2 : Int) (x3 : OA) (x11 : Int) (x12 x13 : BA) (x14 : Int) (x15 x96 : Bool) (w : World) : Prop :=
 br x96
 (box w #[.slice none 0 0, .string x12, .string x13, .int .u8 x14, .bool x15] ty_Link fun b49 w50 =>
 R (.returned (.tuple #[.pointer (some ⟨b49, 0, none⟩), .int .i64 (IntKind.i64.wrap (x11 + 1)), .bool true])) w50)
 (k2 R x0 x1 x2 x3 w)

def k4 (R : EP) (x0 : OA) (x1 : BA) (x2 : Int) (x3 : OA) (x11 : Int) (x12 x13 : BA) (x14 : Int) (x15 : Bool) (w : World) : Prop :=
 ((decide (x11 < (x1.size : Int))) = true → 0 ≤ x11 ∧ x11 < (x1.size : Int)) ∧
 k7 R x0 x1 x2 x3 x11 x12 x13 x14 x15 ((decide (x11 < (x1.size : Int))) && ((bt x1 x11) == 41)) w

def k6 (R : EP) (x0 : OA) (x1 : BA) (x2 : Int) (x3 : OA) (x11 : Int) (x12 x13 : BA) (x14 : Int) (x15 x16 : Bool) (w : World) : Prop :=
 br (!x16)
 (k2 R x0 x1 x2 x3 w)
 (callE P i_skipSpace #[.string x1, .int .i64 x11] (fun e w48 => ∃ (r47 : Int), e = .returned (.int .i64 r47) ∧
 k4 R x0 x1 x2 x3 r47 x12 x13 x14 x15 w48) w)

def k3 (R : EP) (x0 : OA) (x1 : BA) (x2 : Int) (x3 : OA) (x11 : Int) (x12 x13 : BA) (x14 : Int) (x15 x71 : Bool) (w : World) : Prop :=
 br x71
 (callE P i_parseLinkTitle #[.string x1, .int .i64 x11] (fun e w28 => ∃ (r27_0 : BA), ∃ (r27_1 : Int), ∃ (r27_2 : Int), ∃ (r27_3 : Bool), e = .returned (.tuple #[.string r27_0, .int .u8 r27_1, .int .i64 r27_2, .bool r27_3]) ∧
 br (r27_0.toList == (ByteArray.mk #[]).toList)
 (k6 R x0 x1 x2 x3 r27_2 x12 r27_0 r27_1 true r27_3 w28)
 (k6 R x0 x1 x2 x3 r27_2 x12 r27_0 r27_1 x15 r27_3 w28)) w)
 (k4 R x0 x1 x2 x3 x11 x12 x13 x14 x15 w)

def k1 (R : EP) (x0 : OA) (x1 : BA) (x2 : Int) (x3 : OA) (x11 : Int) (x12 x13 : BA) (x14 : Int) (x15 x49 : Bool) (w : World) : Prop :=
 br x49
 (callE P i_parseLinkDest #[.string x1, .int .i64 x11] (fun e w22 => ∃ (r21_0 : BA), ∃ (r21_1 : Int), ∃ (r21_2 : Bool), e = .returned (.tuple #[.string r21_0, .int .i64 r21_1, .bool r21_2]) ∧
 br (!r21_2)
 (k2 R x0 x1 x2 x3 w22)
 (callE P i_skipSpace #[.string x1, .int .i64 r21_1] (fun e w24 => ∃ (r23 : Int), e = .returned (.int .i64 r23) ∧
 ((decide (r23 < (x1.size : Int))) = true → 0 ≤ r23 ∧ r23 < (x1.size : Int)) ∧
 k3 R x0 x1 x2 x3 r23 r21_0 x13 x14 x15 ((decide (r23 < (x1.size : Int))) && ((bt x1 r23) != 41)) w24) w22)) w)
 (k4 R x0 x1 x2 x3 x11 x12 x13 x14 x15 w)

end g_parseState_parseLinkClose
def g_parseState_parseLinkClose (R : EP) (x0 : OA) (x1 : BA) (x2 : Int) (x3 : OA) (w : World) : Prop :=
 br (decide ((IntKind.i64.wrap (x2 + 1)) < (x1.size : Int)))
 (0 ≤ (IntKind.i64.wrap (x2 + 1)) ∧ (IntKind.i64.wrap (x2 + 1)) < (x1.size : Int) ∧
 br ((bt x1 (IntKind.i64.wrap (x2 + 1))) == 40)
 (callE P i_skipSpace #[.string x1, .int .i64 (IntKind.i64.wrap (x2 + 2))] (fun e w2 => ∃ (r1 : Int), e = .returned (.int .i64 r1) ∧
 ((decide (r1 < (x1.size : Int))) = true → 0 ≤ r1 ∧ r1 < (x1.size : Int)) ∧
 g_parseState_parseLinkClose.k1 R x0 x1 x2 x3 r1 (ByteArray.mk #[]) (ByteArray.mk #[]) 0 false ((decide (r1 < (x1.size : Int))) && ((bt x1 r1) != 41)) w2) w)
 (br ((bt x1 (IntKind.i64.wrap (x2 + 1))) == 91)
 (callE P i_parseLinkLabel #[.pointer x0, .string x1, .int .i64 (IntKind.i64.wrap (x2 + 1))] (fun e w4 => ∃ (r3_0 : BA), ∃ (r3_1 : Int), ∃ (r3_2 : Bool), e = .returned (.tuple #[.string r3_0, .int .i64 r3_1, .bool r3_2]) ∧
 br (!r3_2)
 (g_parseState_parseLinkClose.k2 R x0 x1 x2 x3 w4)
 (tk w4 fun w5 =>
 nilP x0 fun a6 =>
 ∃ (v7 : Option Nat), w5.cell? (a6.add 2) = some (.map v7) ∧
 callE P i_normalizeLabel #[.string r3_0] (fun e w9 => ∃ (r8 : BA), e = .returned (.string r8) ∧
 SameC w5 w9 (a6.add 2) 1 ∧
 ∃ (r10_0 : OA), ∃ (r10_1 : Bool), ∃ w11, (Instr.lookup ty_map_string_P_Link (.map v7) (.string r8) true).run P w9 = .ok (.tuple #[.pointer r10_0, .bool r10_1]) w11 ∧
 br r10_1
 (tk w11 fun w12 =>
 nilP r10_0 fun a13 =>
 nilP r10_0 fun a14 =>
 nilP r10_0 fun a15 =>
 ∃ (v16 : BA), w12.cell? (a13.add 1) = some (.string v16) ∧
 ∃ (v17 : BA), w12.cell? (a14.add 2) = some (.string v17) ∧
 ∃ (v18 : Bool), w12.cell? (a15.add 4) = some (.bool v18) ∧
 box w12 #[.slice none 0 0, .string v16, .string v17, .int .u8 0, .bool v18] ty_Link fun b19 w20 =>
 R (.returned (.tuple #[.pointer (some ⟨b19, 0, none⟩), .int .i64 r3_1, .bool true])) w20)
 (R (.returned (.tuple #[.pointer none, .int .i64 0, .bool false])) w11)) w5)) w)
 (g_parseState_parseLinkClose.k2 R x0 x1 x2 x3 w)))
 (g_parseState_parseLinkClose.k2 R x0 x1 x2 x3 w)

namespace g_parseState_parseLinkClose
noncomputable def ac (R : EP) : AC :=
 (.seq (.leaf (sel [0] body)) (.seq (.seq (.leaf (sel [1,0,0] body)) (.cond 29 (.seq (.leaf (sel [1,0,1,0,0] body)) (.block 0 (.seq (.leaf (sel [1,0,1,0,1,0,0] body)) (.cond 34 (.seq (.leaf (sel [1,0,1,0,1,0,1,0,0] body)) (.seq (.leaf (sel [1,0,1,0,1,0,1,0,1,0] body)) (.seq (.leaf (sel [1,0,1,0,1,0,1,0,1,1,0] body)) (.seq (.leaf (sel [1,0,1,0,1,0,1,0,1,1,1,0] body)) (.seq (.seq (.leaf (sel [1,0,1,0,1,0,1,0,1,1,1,1,0,0] body)) (.mark (leaf [(0, .s .ptr), (1, .s .str), (2, .s (.int .i64)), (3, .s .ptr), (11, .s (.int .i64)), (12, .s .str), (13, .s .str), (14, .s (.int .u8)), (15, .s .bool), (49, .s .bool)] (k1 R)) (.cond 49 (.seq (.leaf (sel [1,0,1,0,1,0,1,0,1,1,1,1,0,1,0,0] body)) (.seq (.leaf (sel [1,0,1,0,1,0,1,0,1,1,1,1,0,1,0,1,0] body)) (.seq (.leaf (sel [1,0,1,0,1,0,1,0,1,1,1,1,0,1,0,1,1,0] body)) (.seq (.leaf (sel [1,0,1,0,1,0,1,0,1,1,1,1,0,1,0,1,1,1,0] body)) (.seq (.leaf (sel [1,0,1,0,1,0,1,0,1,1,1,1,0,1,0,1,1,1,1,0] body)) (.mark (leaf [(0, .s .ptr), (1, .s .str), (2, .s (.int .i64)), (3, .s .ptr), (11, .s (.int .i64)), (12, .s .str), (13, .s .str), (14, .s (.int .u8)), (15, .s .bool), (71, .s .bool)] (k3 R)) (.cond 71 (.seq (.leaf (sel [1,0,1,0,1,0,1,0,1,1,1,1,0,1,0,1,1,1,1,1,0,0] body)) (.seq (.leaf (sel [1,0,1,0,1,0,1,0,1,1,1,1,0,1,0,1,1,1,1,1,0,1,0] body)) (.mark (leaf [(0, .s .ptr), (1, .s .str), (2, .s (.int .i64)), (3, .s .ptr), (11, .s (.int .i64)), (12, .s .str), (13, .s .str), (14, .s (.int .u8)), (15, .s .bool), (16, .s .bool)] (k6 R)) (.leaf (sel [1,0,1,0,1,0,1,0,1,1,1,1,0,1,0,1,1,1,1,1,0,1,1] body))))) (.leaf (sel [1,0,1,0,1,0,1,0,1,1,1,1,0,1,0,1,1,1,1,1,1] body))))))))) (.leaf (sel [1,0,1,0,1,0,1,0,1,1,1,1,0,1,1] body))))) (.mark (leaf [(0, .s .ptr), (1, .s .str), (2, .s (.int .i64)), (3, .s .ptr), (11, .s (.int .i64)), (12, .s .str), (13, .s .str), (14, .s (.int .u8)), (15, .s .bool)] (k4 R)) (.seq (.leaf (sel [1,0,1,0,1,0,1,0,1,1,1,1,1,0] body)) (.mark (leaf [(0, .s .ptr), (1, .s .str), (2, .s (.int .i64)), (3, .s .ptr), (11, .s (.int .i64)), (12, .s .str), (13, .s .str), (14, .s (.int .u8)), (15, .s .bool), (96, .s .bool)] (k7 R)) (.leaf (sel [1,0,1,0,1,0,1,0,1,1,1,1,1,1] body)))))))))) (.seq (.leaf (sel [1,0,1,0,1,0,1,1,0] body)) (.cond 105 (.seq (.leaf (sel [1,0,1,0,1,0,1,1,1,0,0] body)) (.seq (.leaf (sel [1,0,1,0,1,0,1,1,1,0,1,0] body)) (.seq (.seq (.draw (.pure 0 (.pure 1 (.pure 2 (.pure 4 (.load 3 (.one 5 (.one 6 (.pure 7 (.pure 8 (.pure 9 (.pure 10 (.pure 11 .done)))))))))))) (sel [1,0,1,0,1,0,1,1,1,0,1,1,0,0] body)) (.seq (.leaf (sel [1,0,1,0,1,0,1,1,1,0,1,1,0,1,0] body)) (.cond 128 (.seq (.draw (.pure 0 (.pure 1 (.pure 2 (.pure 4 (.pure 5 (.pure 6 (.pure 8 (.pure 9 (.pure 10 (.pure 14 (.load 3 (.load 7 (.load 11 (.pure 12 (.one 13 (.pure 15 (.pure 16 (.pure 17 .done)))))))))))))))))) (sel [1,0,1,0,1,0,1,1,1,0,1,1,0,1,1,0,0] body)) (.leaf (sel [1,0,1,0,1,0,1,1,1,0,1,1,0,1,1,0,1] body))) (.leaf (sel [1,0,1,0,1,0,1,1,1,0,1,1,0,1,1,1] body))))) (.leaf (sel [1,0,1,0,1,0,1,1,1,0,1,1,1] body))))) (.leaf (sel [1,0,1,0,1,0,1,1,1,1] body)))))))) (.leaf (sel [1,0,1,1] body)))) (.mark (leaf [(0, .s .ptr), (1, .s .str), (2, .s (.int .i64)), (3, .s .ptr)] (k2 R)) (.seq (.leaf (sel [1,1,0] body)) (.seq (.leaf (sel [1,1,1,0] body)) (.mark (leaf [(0, .s .ptr), (1, .s .str), (2, .s (.int .i64)), (3, .s .ptr), (22, .s (.int .i64))] (k5 R)) (.seq (.seq (.draw (.pure 0 (.pure 1 (.pure 2 (.pure 4 (.pure 5 (.pure 6 (.pure 7 (.pure 9 (.load 3 (.load 8 (.pure 10 (.one 11 (.one 12 (.pure 13 (.pure 14 (.pure 15 (.pure 16 (.pure 17 .done)))))))))))))))))) (sel [1,1,1,1,0,0] body)) (.seq (.leaf (sel [1,1,1,1,0,1,0] body)) (.cond 168 (.seq (.draw (.pure 0 (.pure 1 (.pure 2 (.pure 4 (.pure 5 (.pure 6 (.pure 8 (.pure 9 (.pure 10 (.pure 14 (.load 3 (.load 7 (.load 11 (.pure 12 (.one 13 (.pure 15 (.pure 16 (.pure 17 .done)))))))))))))))))) (sel [1,1,1,1,0,1,1,0,0] body)) (.leaf (sel [1,1,1,1,0,1,1,0,1] body))) (.leaf (sel [1,1,1,1,0,1,1,1] body))))) (.leaf (sel [1,1,1,1,1] body)))))))))
theorem good (R : EP) : Good P 184 (ac R) (QF P [.tmp 8, .tmp 9, .tmp 10] R) :=
 ⟨trivial, ⟨⟨trivial, ⟨⟨trivial, ⟨trivial, ⟨⟨trivial, ⟨trivial, ⟨trivial, ⟨trivial, ⟨⟨trivial, ⟨⟨⟨trivial, ⟨trivial, ⟨trivial, ⟨trivial, ⟨trivial, ⟨⟨⟨trivial, ⟨trivial, ⟨trivial, cutZ⟩⟩⟩, trivial⟩, cutZ⟩⟩⟩⟩⟩⟩, trivial⟩, cutZ⟩⟩, ⟨⟨trivial, ⟨trivial, cutZ⟩⟩, cutZ⟩⟩⟩⟩⟩⟩, ⟨trivial, ⟨⟨trivial, ⟨trivial, ⟨⟨⟨by kernel_rfl, by kernel_rfl, fun _ _ _ h => h⟩, ⟨trivial, ⟨⟨⟨by kernel_rfl, by kernel_rfl, fun _ _ _ h => h⟩, trivial⟩, trivial⟩⟩⟩, trivial⟩⟩⟩, trivial⟩⟩⟩⟩⟩, trivial⟩⟩, ⟨⟨trivial, ⟨trivial, ⟨⟨⟨⟨by kernel_rfl, by kernel_rfl, fun _ _ _ h => h⟩, ⟨trivial, ⟨⟨⟨by kernel_rfl, by kernel_rfl, fun _ _ _ h => h⟩, trivial⟩, trivial⟩⟩⟩, trivial⟩, cutZ⟩⟩⟩, cutZ⟩⟩⟩
theorem eq (R : EP) (x0 : OA) (x1 : BA) (x2 : Int) (x3 : OA) (w : World) : g_parseState_parseLinkClose R x0 x1 x2 x3 w = vcA P 184 (ac R) (QF P [.tmp 8, .tmp 9, .tmp 10] R) (fr0 [.pointer x0, .string x1, .int .i64 x2, .pointer x3]) w := by kernel_rfl
theorem sound {R : EP} {x0 : OA} {x1 : ByteArray} {x2 : Int} {x3 : OA} {w : World} (h : g_parseState_parseLinkClose R x0 x1 x2 x3 w) : callE P i_parseState_parseLinkClose #[.pointer x0, .string x1, .int .i64 x2, .pointer x3] R w :=
 callE_fz (c := body) Tryz.func104 Tryz.call104 (good R) (eq R x0 x1 x2 x3 w) h
end g_parseState_parseLinkClose
namespace g_trimSpaceTabNewline
noncomputable def body : Code := bodyOf Tryz.f219
def k2 (R : EP) (x0 : BA) (x4 : Int) (w : World) : Prop :=
 0 ≤ x4 ∧ x4 ≤ (x0.size : Int) ∧
 R (.returned (.string (x0.extract 0 (Int.toNat x4)))) w

def bl2 (R : EP) (Xa : BA → Int → WP) (x0 : BA) (x4 : Int) (w : World) : Prop :=
 ((decide (x4 > 0)) = true → 0 ≤ (IntKind.i64.wrap (x4 - 1)) ∧ (IntKind.i64.wrap (x4 - 1)) < (x0.size : Int)) ∧
 (((decide (x4 > 0)) && (!((bt x0 (IntKind.i64.wrap (x4 - 1))) == 32))) = true → 0 ≤ (IntKind.i64.wrap (x4 - 1)) ∧ (IntKind.i64.wrap (x4 - 1)) < (x0.size : Int)) ∧
 (((decide (x4 > 0)) && (!(((bt x0 (IntKind.i64.wrap (x4 - 1))) == 32) || ((bt x0 (IntKind.i64.wrap (x4 - 1))) == 9)))) = true → 0 ≤ (IntKind.i64.wrap (x4 - 1)) ∧ (IntKind.i64.wrap (x4 - 1)) < (x0.size : Int)) ∧
 br ((decide (x4 > 0)) && ((((bt x0 (IntKind.i64.wrap (x4 - 1))) == 32) || ((bt x0 (IntKind.i64.wrap (x4 - 1))) == 9)) || ((bt x0 (IntKind.i64.wrap (x4 - 1))) == 10)))
 (Xa x0 (IntKind.i64.wrap (x4 - 1)) w)
 (k2 R x0 x4 w)
def l2 (R : EP) (x0 : BA) (x4 : Int) (w : World) : Prop :=
 ∀ X : BA → Int → WP, (∀ x0 x4 w, bl2 R X x0 x4 w → X x0 x4 w) → X x0 x4 w

noncomputable def al2 (R : EP) (Xa : BA → Int → WP) : AC :=
 (.leaf (sel [1,1,1,1,1,0,0,0] body))
def k1 (R : EP) (x0 : BA) (x3 : Int) (w : World) : Prop :=
 0 ≤ x3 ∧ x3 ≤ (x0.size : Int) ∧
 l2 R (x0.extract (Int.toNat x3) x0.size) ((x0.extract (Int.toNat x3) x0.size).size : Int) w

def bl1 (R : EP) (Xb : BA → Int → WP) (x0 : BA) (x3 : Int) (w : World) : Prop :=
 ((decide (x3 < (x0.size : Int))) = true → 0 ≤ x3 ∧ x3 < (x0.size : Int)) ∧
 (((decide (x3 < (x0.size : Int))) && (!((bt x0 x3) == 32))) = true → 0 ≤ x3 ∧ x3 < (x0.size : Int)) ∧
 (((decide (x3 < (x0.size : Int))) && (!(((bt x0 x3) == 32) || ((bt x0 x3) == 9)))) = true → 0 ≤ x3 ∧ x3 < (x0.size : Int)) ∧
 br ((decide (x3 < (x0.size : Int))) && ((((bt x0 x3) == 32) || ((bt x0 x3) == 9)) || ((bt x0 x3) == 10)))
 (Xb x0 (IntKind.i64.wrap (x3 + 1)) w)
 (k1 R x0 x3 w)
def l1 (R : EP) (x0 : BA) (x3 : Int) (w : World) : Prop :=
 ∀ X : BA → Int → WP, (∀ x0 x3 w, bl1 R X x0 x3 w → X x0 x3 w) → X x0 x3 w

noncomputable def al1 (R : EP) (Xb : BA → Int → WP) : AC :=
 (.leaf (sel [1,1,0,0,0] body))
end g_trimSpaceTabNewline
def g_trimSpaceTabNewline (R : EP) (x0 : BA) (w : World) : Prop :=
 g_trimSpaceTabNewline.l1 R x0 0 w

namespace g_trimSpaceTabNewline
noncomputable def ac (R : EP) : AC :=
 (.seq (.leaf (sel [0] body)) (.seq (.leaf (sel [1,0] body)) (.seq (.block 0 (.loop (leaf [(0, .s .str), (3, .s (.int .i64))] (l1 R)) (sel [1,1,0,0,0] body))) (.mark (leaf [(0, .s .str), (3, .s (.int .i64))] (k1 R)) (.seq (.leaf (sel [1,1,1,0] body)) (.seq (.leaf (sel [1,1,1,1,0] body)) (.seq (.block 2 (.loop (leaf [(0, .s .str), (4, .s (.int .i64))] (l2 R)) (sel [1,1,1,1,1,0,0,0] body))) (.mark (leaf [(0, .s .str), (4, .s (.int .i64))] (k2 R)) (.leaf (sel [1,1,1,1,1,1] body))))))))))
theorem good (R : EP) : Good P 62 (ac R) (QF P [.tmp 2] R) :=
 ⟨trivial, ⟨trivial, ⟨(loopG (al1 R) (bl1 R) (fun _ => by kernel_rfl) (fun Xb => trivial) (fun Xb => by intro x0 x3 ρ w; kernel_rfl) (fun X h _ _ _ g => g X h)), ⟨⟨trivial, ⟨trivial, ⟨(loopG (al2 R) (bl2 R) (fun _ => by kernel_rfl) (fun Xa => trivial) (fun Xa => by intro x0 x4 ρ w; kernel_rfl) (fun X h _ _ _ g => g X h)), ⟨trivial, cutZ⟩⟩⟩⟩, cutZ⟩⟩⟩⟩
theorem eq (R : EP) (x0 : BA) (w : World) : g_trimSpaceTabNewline R x0 w = vcA P 62 (ac R) (QF P [.tmp 2] R) (fr0 [.string x0]) w := by kernel_rfl
theorem sound {R : EP} {x0 : ByteArray} {w : World} (h : g_trimSpaceTabNewline R x0 w) : callE P i_trimSpaceTabNewline #[.string x0] R w :=
 callE_fz (c := body) Tryz.func219 Tryz.call219 (good R) (eq R x0 w) h
end g_trimSpaceTabNewline
namespace g_parseLinkOpen
noncomputable def body : Code := bodyOf Tryz.f94
end g_parseLinkOpen
def g_parseLinkOpen (R : EP) (x0 : OA) (x1 : BA) (x2 : Int) (w : World) : Prop :=
 0 ≤ x2 ∧ x2 ≤ (IntKind.i64.wrap (x2 + 1)) ∧ (IntKind.i64.wrap (x2 + 1)) ≤ (x1.size : Int) ∧
 box w #[.string (x1.extract (Int.toNat x2) (Int.toNat (IntKind.i64.wrap (x2 + 1)))), .int .i64 (IntKind.i64.wrap (x2 + 1))] ty_openPlain fun b1 w2 =>
 R (.returned (.tuple #[.iface ty_P_openPlain (.pointer (some ⟨b1, 0, none⟩)), .int .i64 x2, .int .i64 (IntKind.i64.wrap (x2 + 1)), .bool true])) w2

namespace g_parseLinkOpen
noncomputable def ac (R : EP) : AC :=
 (.leaf (sel [] body))
theorem good (R : EP) : Good P 24 (ac R) (QF P [.tmp 6, .tmp 7, .tmp 8, .tmp 9] R) :=
 trivial
theorem eq (R : EP) (x0 : OA) (x1 : BA) (x2 : Int) (w : World) : g_parseLinkOpen R x0 x1 x2 w = vcA P 24 (ac R) (QF P [.tmp 6, .tmp 7, .tmp 8, .tmp 9] R) (fr0 [.pointer x0, .string x1, .int .i64 x2]) w := by kernel_rfl
theorem sound {R : EP} {x0 : OA} {x1 : ByteArray} {x2 : Int} {w : World} (h : g_parseLinkOpen R x0 x1 x2 w) : callE P i_parseLinkOpen #[.pointer x0, .string x1, .int .i64 x2] R w :=
 callE_fz (c := body) Tryz.func94 Tryz.call94 (good R) (eq R x0 x1 x2 w) h
end g_parseLinkOpen
end Go.Proofs.YtgbgadkldalkbaaGreatDoor

set_option linter.unusedVariables false
namespace Go.Proofs.YtgbgadkldalkbaaGreatDoor
open Go.Proofs Go.IntWalk Go.RowKit
variable {σ : Out} {w : World} {L L' : List Chunk} {R : Ending → World → Prop}
theorem PS.pz_of {p p0 : PS} (h : p.coreS = p0.coreS) : p.pz = p0.pz := by have := congrArg PS.pz h; exact this
theorem PS.coreS_of {p' p p0 : PS} (h1 : p'.core = p.core) (h2 : p.coreS = p0.coreS) : p'.coreS = p0.coreS := by
 rw [← h2]
 have := congrArg (fun q : PS => ({ q with s := [] } : PS)) h1
 exact this
end Go.Proofs.YtgbgadkldalkbaaGreatDoor


set_option linter.unusedVariables false
set_option maxRecDepth 20000
namespace Go.Proofs.YtgbgadkldalkbaaGreatDoor
open Go.Proofs
namespace g_parseState_emph_1
noncomputable def body : Code := bodyOf Tryz.f160
end g_parseState_emph_1
def g_parseState_emph_1 (R : EP) (x0 : Int) (w : World) : Prop :=
 callE P i_strings_IndexByte #[.string (ByteArray.mk #[95, 42, 126, 34, 39]), .int .u8 x0] (fun e w2 => ∃ (r1 : Int), e = .returned (.int .i64 r1) ∧
 R (.returned (.int .i64 r1)) w2) w

namespace g_parseState_emph_1
noncomputable def ac (R : EP) : AC :=
 (.leaf (sel [] body))
theorem good (R : EP) : Good P 5 (ac R) (QF P [.tmp 2] R) :=
 trivial
theorem eq (R : EP) (x0 : Int) (w : World) : g_parseState_emph_1 R x0 w = vcA P 5 (ac R) (QF P [.tmp 2] R) (fr0 [.int .u8 x0]) w := by kernel_rfl
theorem sound {R : EP} {x0 : Int} {w : World} (h : g_parseState_emph_1 R x0 w) : callE P i_parseState_emph_1 #[.int .u8 x0] R w :=
 callE_fz (c := body) Tryz.func160 Tryz.call160 (good R) (eq R x0 w) h
end g_parseState_emph_1
namespace g_parseState_emph_2
noncomputable def body : Code := bodyOf Tryz.f161
def k1 (R : EP) (Xa : Nat → Nat → Int → WP) (Xb : Nat → Nat → OA → Int → WP) (x0 x1 : Nat) (x3 : OA) (x4 : Int) (w : World) : Prop :=
 tk w fun w13 =>
 nilP x3 fun a14 =>
 nilP x3 fun a15 =>
 ∃ (v16q : OA), ∃ (v16n : Nat), ∃ (v16c : Nat), w13.cell? a14 = some (.slice v16q v16n v16c) ∧
 ∃ (v17q : OA), ∃ (v17n : Nat), ∃ (v17c : Nat), w13.cell? a15 = some (.slice v17q v17n v17c) ∧
 ∃ (r18q : OA), ∃ (r18n : Nat), ∃ (r18c : Nat), (∀ w, (Instr.sliceAt ty_S_P_emphPlain (.slice v16q v16n v16c) none (some (.int .i64 (IntKind.i64.wrap ((v17n : Int) - 1)))) none).run P w = .ok (.slice r18q r18n r18c) w) ∧
 nilP x3 fun a19 =>
 stV w13 (a19.add 0) (.slice r18q r18n r18c) fun w20 =>
 Xb x0 x1 x3 x4 w20

def bl2 (R : EP) (Xa : Nat → Nat → Int → WP) (Xb : Nat → Nat → OA → Int → WP) (x0 x1 : Nat) (x3 : OA) (x4 : Int) (w : World) : Prop :=
 tk w fun w1 =>
 nilP x3 fun a2 =>
 ∃ (v3q : OA), ∃ (v3n : Nat), ∃ (v3c : Nat), w1.cell? a2 = some (.slice v3q v3n v3c) ∧
 br (decide ((v3n : Int) > 0))
 (nilP x3 fun a4 =>
 nilP x3 fun a5 =>
 ∃ (v6q : OA), ∃ (v6n : Nat), ∃ (v6c : Nat), w1.cell? a4 = some (.slice v6q v6n v6c) ∧
 ∃ (v7q : OA), ∃ (v7n : Nat), ∃ (v7c : Nat), w1.cell? a5 = some (.slice v7q v7n v7c) ∧
 0 ≤ (IntKind.i64.wrap ((v7n : Int) - 1)) ∧ (IntKind.i64.wrap ((v7n : Int) - 1)) < (v6n : Int) ∧
 nilP v6q fun a8 =>
 ∃ (v9 : OA), w1.cell? (a8.add (Int.toNat (IntKind.i64.wrap ((v7n : Int) - 1)) * 1)) = some (.pointer v9) ∧
 nilP v9 fun a10 =>
 ∃ (v11 : Int), w1.cell? (a10.add 3) = some (.int .i64 v11) ∧
 ∃ (v12q : OA), ∃ (v12n : Nat), ∃ (v12c : Nat), w1.cell? ⟨x1, 0, none⟩ = some (.slice v12q v12n v12c) ∧
 br (decide (v11 ≥ (v12n : Int)))
 (k1 R Xa Xb x0 x1 x3 x4 w1)
 (Xa x0 x1 (IntKind.i64.wrap (x4 + 1)) w1))
 (Xa x0 x1 (IntKind.i64.wrap (x4 + 1)) w1)
def l2 (R : EP) (Xa : Nat → Nat → Int → WP) (x0 x1 : Nat) (x3 : OA) (x4 : Int) (w : World) : Prop :=
 ∀ X : Nat → Nat → OA → Int → WP, (∀ x0 x1 x3 x4 w, bl2 R Xa X x0 x1 x3 x4 w → X x0 x1 x3 x4 w) → X x0 x1 x3 x4 w

noncomputable def al2 (R : EP) (Xa : Nat → Nat → Int → WP) (Xb : Nat → Nat → OA → Int → WP) : AC :=
 (.seq (.seq (.draw (.pure 0 (.pure 1 (.load 2 (.pure 3 (.pure 4 (.pure 5 (.pure 6 (.pure 7 (.pure 9 (.pure 10 (.load 8 (.load 11 (.pure 12 (.pure 13 (.pure 14 (.load 15 (.pure 16 (.pure 17 (.load 18 (.load 19 (.pure 20 (.pure 21 (.pure 22 .done))))))))))))))))))))))) (sel [1,0,0,1,1,0,0,1,1,0,0,0,0] body)) (.leaf (sel [1,0,0,1,1,0,0,1,1,0,0,0,1] body))) (.mark (leaf [(0, .s .loc), (1, .s .loc), (3, .s .ptr), (4, .s (.int .i64))] (k1 R Xa Xb)) (.block 3 (.draw (.pure 0 (.pure 1 (.pure 2 (.pure 4 (.pure 5 (.load 3 (.load 6 (.pure 7 (.pure 8 (.pure 9 (.pure 10 (.one 11 .done)))))))))))) (sel [1,0,0,1,1,0,0,1,1,0,0,1,0] body)))))
def bl1 (R : EP) (Xa : Nat → Nat → Int → WP) (x0 x1 : Nat) (x4 : Int) (w : World) : Prop :=
 br (decide (x4 < 5))
 (0 ≤ x4 ∧ x4 < (5 : Int) ∧
 l2 R Xa x0 x1 (some ((⟨x0, 0, none⟩ : Addr).add (Int.toNat x4 * 1))) x4 w)
 (R (.returned (.tuple #[])) w)
def l1 (R : EP) (x0 x1 : Nat) (x4 : Int) (w : World) : Prop :=
 ∀ X : Nat → Nat → Int → WP, (∀ x0 x1 x4 w, bl1 R X x0 x1 x4 w → X x0 x1 x4 w) → X x0 x1 x4 w

noncomputable def al1 (R : EP) (Xa : Nat → Nat → Int → WP) : AC :=
 (.seq (.leaf (sel [1,0,0,0] body)) (.seq (.leaf (sel [1,0,0,1,0] body)) (.seq (.block 1 (.seq (.leaf (sel [1,0,0,1,1,0,0,0] body)) (.seq (.leaf (sel [1,0,0,1,1,0,0,1,0] body)) (.block 2 (.loop (leaf [(0, .s .loc), (1, .s .loc), (3, .s .ptr), (4, .s (.int .i64))] (l2 R Xa)) (sel [1,0,0,1,1,0,0,1,1,0,0] body)))))) (.leaf (sel [1,0,0,1,1,1] body)))))
end g_parseState_emph_2
def g_parseState_emph_2 (R : EP) (x0 x1 : Nat) (w : World) : Prop :=
 g_parseState_emph_2.l1 R x0 x1 0 w

namespace g_parseState_emph_2
noncomputable def ac (R : EP) : AC :=
 (.seq (.leaf (sel [0] body)) (.block 0 (.loop (leaf [(0, .s .loc), (1, .s .loc), (4, .s (.int .i64))] (l1 R)) (sel [1,0,0] body))))
theorem good (R : EP) : Good P 44 (ac R) (QF P [] R) :=
 ⟨trivial, (loopG (al1 R) (bl1 R) (fun _ => by kernel_rfl) (fun Xa => ⟨trivial, ⟨trivial, ⟨⟨trivial, ⟨trivial, (loopG (al2 R Xa) (bl2 R Xa) (fun _ => by kernel_rfl) (fun Xb => ⟨⟨⟨by kernel_rfl, by kernel_rfl, fun _ _ _ h => h⟩, trivial⟩, ⟨⟨by kernel_rfl, by kernel_rfl, fun _ _ _ h => h⟩, cutZ⟩⟩) (fun Xb => by intro x0 x1 x3 x4 ρ w; kernel_rfl) (fun X h _ _ _ _ _ g => g X h))⟩⟩, trivial⟩⟩⟩) (fun Xa => by intro x0 x1 x4 ρ w; kernel_rfl) (fun X h _ _ _ _ g => g X h))⟩
theorem eq (R : EP) (x0 x1 : Nat) (w : World) : g_parseState_emph_2 R x0 x1 w = vcA P 44 (ac R) (QF P [] R) (fr0 [.pointer (some ⟨x0, 0, none⟩), .pointer (some ⟨x1, 0, none⟩)]) w := by kernel_rfl
theorem sound {R : EP} {x0 x1 : Nat} {w : World} (h : g_parseState_emph_2 R x0 x1 w) : callE P i_parseState_emph_2 #[.pointer (some ⟨x0, 0, none⟩), .pointer (some ⟨x1, 0, none⟩)] R w :=
 callE_fz (c := body) Tryz.func161 Tryz.call161 (good R) (eq R x0 x1 w) h
end g_parseState_emph_2
end Go.Proofs.YtgbgadkldalkbaaGreatDoor

set_option linter.unusedVariables false
namespace Go.Proofs.YtgbgadkldalkbaaGreatDoor
open Go.Proofs Go.IntWalk Go.RowKit
variable {σ : Out} {w : World} {L L' : List Chunk} {R : Ending → World → Prop}
theorem Sl.trunc {e : TypeId} {q : Option Addr} {n c k : Nat} {vs : List Value} {M : List Chunk} (h : Sl 1 e q n c vs M) (hk : k ≤ n) : Sl 1 e q k c (vs.take k) M := by
 obtain ⟨hl, hnc, ⟨rfl, rfl, rfl, rfl⟩ | ⟨b, sp, rfl, rfl, h3⟩⟩ := h
 ·have : k = 0 := by omega
  subst this
  exact ⟨by simp, by omega, .inl ⟨rfl, rfl, rfl, rfl⟩⟩
 ·refine ⟨by rw [List.length_take]; omega, by omega, .inr ⟨b, vs.drop k ++ sp, rfl, ?_, ?_⟩⟩
  ·rw [← List.append_assoc, List.take_append_drop]
  ·rw [← List.append_assoc, List.take_append_drop]; exact h3
structure STK where
 q : Option Addr
 n : Nat
 c : Nat
 ent : List (Nat × Nat)
def entV (e : Nat × Nat) : Value := .pointer (some ⟨e.1, 0, none⟩)
def STK.ok (s : STK) (M : List Chunk) : Prop := Sl 1 ty_P_emphPlain s.q s.n s.c (s.ent.map entV) M
def StksAt : List STK → List Chunk → Prop
 | [], M => M = []
 | s :: S, M => ∃ M1 M2, M = M1 ++ M2 ∧ s.ok M1 ∧ StksAt S M2
theorem StksAt.split : ∀ {A : List STK} {s : STK} {B : List STK} {M : List Chunk}, StksAt (A ++ s :: B) M → ∃ M1 M2 M3, M = M1 ++ (M2 ++ M3) ∧ StksAt A M1 ∧ s.ok M2 ∧ StksAt B M3
 | [], s, B, M, h => by obtain ⟨M1, M2, rfl, h1, h2⟩ := h; exact ⟨[], M1, M2, rfl, rfl, h1, h2⟩
 | a :: A, s, B, M, h => by
  obtain ⟨M1, M2, rfl, h1, h2⟩ := h
  obtain ⟨N1, N2, N3, rfl, h3, h4, h5⟩ := h2.split
  exact ⟨M1 ++ N1, N2, N3, by simp, ⟨M1, N1, rfl, h1, h3⟩, h4, h5⟩
theorem StksAt.join : ∀ {A : List STK} {s : STK} {B : List STK} {M1 M2 M3 : List Chunk}, StksAt A M1 → s.ok M2 → StksAt B M3 → StksAt (A ++ s :: B) (M1 ++ (M2 ++ M3))
 | [], s, B, M1, M2, M3, h1, h2, h3 => by cases h1; exact ⟨M2, M3, rfl, h2, h3⟩
 | a :: A, s, B, M1, M2, M3, h1, h2, h3 => by
  obtain ⟨N1, N2, rfl, h4, h5⟩ := h1
  exact ⟨N1, N2 ++ (M2 ++ M3), by simp, h4, h5.join h2 h3⟩
def stkV (s : STK) : Value := .slice s.q s.n s.c
def stkC (b : Nat) (S : List STK) : Chunk := (b, cel (S.map stkV) ty_5_S_P_emphPlain)
def trimE (m : Nat) (es : List (Nat × Nat)) : List (Nat × Nat) := (es.reverse.dropWhile fun e => decide (m ≤ e.2)).reverse
theorem trimE_nil (m : Nat) : trimE m [] = [] := rfl
theorem trimE_snoc (m : Nat) (es : List (Nat × Nat)) (e : Nat × Nat) : trimE m (es ++ [e]) = if m ≤ e.2 then trimE m es else es ++ [e] := by
 unfold trimE
 rw [List.reverse_append]
 simp only [List.reverse_cons, List.reverse_nil, List.nil_append, List.singleton_append, List.dropWhile_cons]
 split
 ·rename_i h; rw [if_pos (by simpa using h)]
 ·rename_i h; rw [if_neg (by simpa using h)]; simp
def STK.trim (m : Nat) (s : STK) : STK := { s with n := (trimE m s.ent).length, ent := trimE m s.ent }
theorem trimE_prefix (m : Nat) (es : List (Nat × Nat)) : trimE m es = es.take (trimE m es).length := by
 have : trimE m es <+: es := by
  unfold trimE
  have := List.dropWhile_suffix (fun e : Nat × Nat => decide (m ≤ e.2)) (l := es.reverse)
  have := List.reverse_prefix.2 this
  simpa using this
 exact (List.prefix_iff_eq_take.1 this)
def EntsOK (es : List (Nat × Nat)) (L : List Chunk) : Prop := ∀ e ∈ es, ∃ cs ty, (e.1, cel cs ty) ∈ L ∧ cs[3]? = some (.int .i64 (e.2 : Nat))
noncomputable def rowEP : Row P ty_S_P_emphPlain ty_P_emphPlain 1 8 :=
 ⟨(P.info? ty_P_emphPlain).getD default, ((P.info? ty_P_emphPlain).bind (·.zero)).getD default, by kernel_rfl, by kernel_rfl, by kernel_rfl, by kernel_rfl, by kernel_rfl, by kernel_rfl, by decide⟩
theorem stk_cell {b j : Nat} {A B : List STK} {s : STK} (h : Sat σ w (stkC b (A ++ s :: B) :: L)) (hj : j = A.length) : w.cell? ⟨b, j, none⟩ = some (.slice s.q s.n s.c) := by
 refine Sat.ld h (.head _) ?_
 rw [List.map_append, List.getElem?_append_right (by simp; omega)]
 simp [hj, stkV]
theorem stk_store {b j : Nat} {A B : List STK} {s s' : STK} {K : World → Prop} (h : Sat σ w (stkC b (A ++ s :: B) :: L)) (hj : j = A.length) (hK : ∀ w', Sat σ w' (stkC b (A ++ s' :: B) :: L) → K w') : stV w ⟨b, j, none⟩ (.slice s'.q s'.n s'.c) K := by
 refine Sat.st h (k := 0) rfl (by simp; omega) trivial rfl fun w h => hK w ?_
 have e : ((A ++ s :: B).map stkV).set j (.slice s'.q s'.n s'.c) = (A ++ s' :: B).map stkV := by
  rw [List.map_append, List.map_append, List.set_append_right _ _ (by simp; omega)]
  simp [hj, stkV]
 show Sat σ w ((b, cel ((A ++ s' :: B).map stkV) ty_5_S_P_emphPlain) :: L)
 rw [← e]; exact h
theorem trimStk_ok {b3 b1 m dc : Nat} {dq : Option Addr} {S : List STK} {SM : List Chunk} (h5 : S.length = 5) (hS : StksAt S SM) (hE : ∀ s ∈ S, EntsOK s.ent L) (hsm : ∀ s ∈ S, s.ent.length < 1000000000)
 (h : Sat σ w (stkC b3 S :: (b1, cel [.slice dq m dc] ty_S_Inline) :: (SM ++ L)))
 (hR : ∀ w SM', StksAt (S.map (STK.trim m)) SM' → Sat σ w (stkC b3 (S.map (STK.trim m)) :: (b1, cel [.slice dq m dc] ty_S_Inline) :: (SM' ++ L)) → R (.returned (.tuple #[])) w) :
 callE P i_parseState_emph_2 #[.pointer (some ⟨b3, 0, none⟩), .pointer (some ⟨b1, 0, none⟩)] R w := by
 refine g_parseState_emph_2.sound ?_
 intro X hX
 have key : ∀ (B A : List STK) (SM : List Chunk) w, A.length + B.length = 5 → S = A ++ B → StksAt (A.map (STK.trim m) ++ B) SM → Sat σ w (stkC b3 (A.map (STK.trim m) ++ B) :: (b1, cel [.slice dq m dc] ty_S_Inline) :: (SM ++ L)) → X b3 b1 (A.length : Nat) w := by
  intro B
  induction B with
  | nil =>
   intro A SM w hl hSA hS h
   refine hX _ _ _ _ (br_false (by simp at hl; simp; omega) ?_)
   have e : S.map (STK.trim m) = A.map (STK.trim m) ++ [] := by rw [hSA]; simp
   rw [← e] at hS h
   exact hR w SM hS h
  | cons s B ih =>
   intro A SM w hl hSA hS h
   have hs : s ∈ S := by rw [hSA]; simp
   have hA : (A.map (STK.trim m)).length = A.length := by simp
   simp at hl
   refine hX _ _ _ _ (br_true (by simp; omega) ⟨by omega, by omega, ?_⟩)
   simp only [Addr.add_lit, Int.toNat_natCast, Nat.mul_one, Nat.zero_add]
   intro Y hY
   have inner : ∀ (es : List (Nat × Nat)) (s' : STK) (SM : List Chunk) w, s'.ent = es → EntsOK es L → es.length < 1000000000 → trimE m es = trimE m s.ent → s'.q = s.q → s'.c = s.c → StksAt (A.map (STK.trim m) ++ s' :: B) SM →
    Sat σ w (stkC b3 (A.map (STK.trim m) ++ s' :: B) :: (b1, cel [.slice dq m dc] ty_S_Inline) :: (SM ++ L)) → Y b3 b1 (some ⟨b3, A.length, none⟩) (A.length : Nat) w := by
    intro es
    induction hn : es.length generalizing es with
    | zero =>
     intro s' SM w he hok hlen ht hq hc hS h
     have he0 : es = [] := List.eq_nil_of_length_eq_zero hn
     subst he0
     obtain ⟨M1, M2, M3, rfl, h1, h2, h3⟩ := hS.split
     have hn0 : s'.n = 0 := by have := h2.1; rw [he] at this; simp at this; omega
     refine hY _ _ _ _ _ ?_
     refine h.tk fun w h => ?_
     refine nilP_some ⟨_, _, _, stk_cell h hA.symm, ?_⟩
     rw [hn0]
     refine br_false rfl ?_
     have e1 : IntKind.i64.wrap ((A.length : Int) + 1) = ((A.length + 1 : Nat) : Int) := i64_inc (by omega)
     rw [e1]
     have htr : s' = STK.trim m s := by
      unfold STK.trim
      rw [← ht]
      cases s'; simp only at he hn0 hq hc ⊢
      subst he hn0 hq hc
      try rfl
     have := ih (A ++ [s]) (M1 ++ (M2 ++ M3)) w (by simp; omega) (by rw [hSA]; simp) (by rw [List.map_append, List.append_assoc]; have := h1.join h2 h3; rw [htr] at this; exact this) (by
      rw [List.map_append, List.append_assoc]; rw [htr] at h; exact h)
     rw [List.length_append] at this
     exact this
    | succ k ihk =>
     intro s' SM w he hok hlen ht hq hc hS h
     obtain ⟨es', e, rfl⟩ : ∃ es' e, es = es' ++ [e] := by
      rcases List.eq_nil_or_concat es with rfl | ⟨es', e, rfl⟩
      ·simp at hn
      ·exact ⟨es', e, by simp⟩
     simp at hn
     obtain ⟨M1, M2, M3, rfl, h1, h2, h3⟩ := hS.split
     have hn1 : s'.n = k + 1 := by have := h2.1; rw [he] at this; simp at this; omega
     obtain ⟨cs, ty, hm, hc3⟩ := hok e (by simp)
     refine hY _ _ _ _ _ ?_
     refine h.tk fun w h => ?_
     refine nilP_some ⟨_, _, _, stk_cell h hA.symm, ?_⟩
     rw [hn1]
     refine br_true (by simp <;> omega) (nilP_some (nilP_some ?_))
     refine ⟨_, _, _, stk_cell h hA.symm, _, _, _, stk_cell h hA.symm, ?_⟩
     have e1 : IntKind.i64.wrap (((s'.n : Nat) : Int) - 1) = (k : Int) := by rw [hn1]; simp (disch := omega) only [i64_in]; omega
     rw [e1]
     refine ⟨by omega, by omega, ?_⟩
     have hvs : (s'.ent.map entV)[k]? = some (.pointer (some ⟨e.1, 0, none⟩)) := by
      rw [he, List.map_append, List.getElem?_append_right (by simp; omega)]; simp [hn, entV]
     have hM : Sat σ w (M2 ++ (stkC b3 (A.map (STK.trim m) ++ s' :: B) :: (b1, cel [.slice dq m dc] ty_S_Inline) :: (M1 ++ (M3 ++ L)))) := h.re
     refine Sl.loadAt h2 hM hvs fun rb hq' hcell => ?_
     simp only [Addr.add_lit, Int.toNat_natCast, Nat.mul_one, Nat.zero_add]
     refine ⟨_, hcell, nilP_some ?_⟩
     simp only [Addr.add_lit, Nat.zero_add]
     refine ⟨_, Sat.ld h (.tail _ (.tail _ (List.mem_append_right _ hm))) hc3, ?_⟩
     refine ⟨_, _, _, Sat.ld h (.tail _ (.head _)) rfl, ?_⟩
     rw [trimE_snoc] at ht
     by_cases hme : m ≤ e.2
     ·rw [if_pos hme] at ht
      refine br_true (by simp; omega) ?_
      refine h.tk fun w h => ?_
      refine nilP_some (nilP_some ?_)
      refine ⟨_, _, _, stk_cell h hA.symm, _, _, _, stk_cell h hA.symm, ?_⟩
      rw [e1]
      have hnc := h2.2.1
      refine ⟨_, _, _, fun w => sliceT rowEP.ht rowEP.hi _ _ _ k (by omega) w, nilP_some ?_⟩
      let s2 : STK := ⟨s'.q, k, s'.c, es'⟩
      have hs2 : s2.ok M2 := by
       have := h2.trunc (k := k) (by omega)
       rw [he, List.map_append, List.take_append_of_le_length (by rw [List.length_map]; omega), List.take_of_length_le (by rw [List.length_map]; omega)] at this
       exact this
      simp only [Addr.add_lit, Nat.zero_add, Nat.add_zero]
      refine stk_store (s' := s2) h hA.symm fun w h => ?_
      exact ihk es' hn s2 (M1 ++ (M2 ++ M3)) w rfl (fun x hx => hok x (by simp [hx])) (by first | omega | (simp at hlen; omega) | (have := hn; omega)) ht hq hc (h1.join hs2 h3) h
     ·rw [if_neg hme] at ht
      refine br_false (by simp; omega) ?_
      have e2 : IntKind.i64.wrap ((A.length : Int) + 1) = ((A.length + 1 : Nat) : Int) := i64_inc (by omega)
      rw [e2]
      have htr : s' = STK.trim m s := by
       unfold STK.trim
       rw [← ht]
       cases s'; simp only at he hn1 hq hc ⊢
       subst he hn1 hq hc; simp [hn]
      have := ih (A ++ [s]) (M1 ++ (M2 ++ M3)) w (by simp; omega) (by rw [hSA]; simp) (by rw [List.map_append, List.append_assoc]; have := h1.join h2 h3; rw [htr] at this; exact this) (by
       rw [List.map_append, List.append_assoc]; rw [htr] at h; exact h)
      rw [List.length_append] at this
      exact this
   exact inner s.ent s SM w rfl (hE s hs) (hsm s hs) rfl rfl rfl hS h
 exact key S [] SM w (by simpa using h5) rfl hS h
end Go.Proofs.YtgbgadkldalkbaaGreatDoor


set_option linter.unusedVariables false
namespace Go.Proofs.YtgbgadkldalkbaaGreatDoor
open Go.Proofs Go.IntWalk Go.RowKit
variable {σ : Out} {w : World} {L L' : List Chunk} {R : Ending → World → Prop}
def DRow (dq : Option Addr) (dc : Nat) (dvs rvs : List Value) (off : Nat) (sq : Option Addr) (sn sc : Nat) (SR RS : List Chunk) : Prop :=
 rvs.length + off = sn ∧ dvs.length ≤ dc ∧
 ((∃ rb junk sp, dq = some ⟨rb, 0, none⟩ ∧ sq = some ⟨rb, 0, none⟩ ∧ RS = [(rb, cel (dvs ++ (junk ++ (rvs ++ sp))) ty_Inline)] ∧ dvs.length + junk.length = off ∧ off + rvs.length + sp.length = dc) ∨
  (∃ DR, Sl 1 ty_Inline dq dvs.length dc dvs DR ∧ RS = DR ++ SR ∧ ∀ j v, rvs[j]? = some v → ∃ rb so scs e, sq = some ⟨rb, so, none⟩ ∧ (rb, cel scs e) ∈ SR ∧ scs[so + off + j]? = some v))
theorem DRow.read {dq sq : Option Addr} {dc off sn sc : Nat} {dvs rvs : List Value} {v : Value} {SR RS : List Chunk} (hD : DRow dq dc dvs (v :: rvs) off sq sn sc SR RS) (h : Sat σ w (RS ++ L)) : ∃ rb so, sq = some ⟨rb, so, none⟩ ∧ w.cell? ⟨rb, so + off, none⟩ = some v := by
 obtain ⟨_, _, ⟨rb, junk, sp, rfl, rfl, rfl, h1, h2⟩ | ⟨DR, hS, rfl, hr⟩⟩ := hD
 ·refine ⟨rb, 0, rfl, h.ld (.head _) ?_⟩
  rw [List.getElem?_append_right (by omega), List.getElem?_append_right (by omega), show 0 + off - dvs.length - junk.length = 0 by omega]
  rfl
 ·obtain ⟨rb, so, scs, e, rfl, hm, hc⟩ := hr 0 v rfl
  exact ⟨rb, so, rfl, h.ld (List.mem_append_left _ (List.mem_append_right _ hm)) hc⟩
theorem DRow.consume {dq sq : Option Addr} {dc off sn sc : Nat} {dvs rvs : List Value} {v : Value} {SR RS : List Chunk} (hD : DRow dq dc dvs (v :: rvs) off sq sn sc SR RS) : DRow dq dc dvs rvs (off + 1) sq sn sc SR RS := by
 obtain ⟨h0, hle, ⟨rb, junk, sp, rfl, rfl, rfl, h1, h2⟩ | ⟨DR, hS, rfl, hr⟩⟩ := hD
 ·refine ⟨by simp at h0; omega, hle, .inl ⟨rb, junk ++ [v], sp, rfl, rfl, by simp, by simp; omega, by simp at h2; omega⟩⟩
 ·refine ⟨by simp at h0; omega, hle, .inr ⟨DR, hS, rfl, fun j v' hv => ?_⟩⟩
  obtain ⟨rb, so, scs, e, h1, h2, h3⟩ := hr (j + 1) v' (by simpa using hv)
  exact ⟨rb, so, scs, e, h1, h2, by rw [← h3]; congr 1; omega⟩
theorem DRow.take {dq sq : Option Addr} {dc off sn sc k : Nat} {dvs rvs : List Value} {SR RS : List Chunk} (hD : DRow dq dc dvs rvs off sq sn sc SR RS) (hk : k ≤ dvs.length) : DRow dq dc (dvs.take k) rvs off sq sn sc SR RS := by
 obtain ⟨h0, hle, ⟨rb, junk, sp, rfl, rfl, rfl, h1, h2⟩ | ⟨DR, hS, rfl, hr⟩⟩ := hD
 ·refine ⟨h0, by rw [List.length_take]; omega, .inl ⟨rb, dvs.drop k ++ junk, sp, rfl, rfl, ?_, by rw [List.length_take, List.length_append, List.length_drop]; omega, h2⟩⟩
  have e : dvs.take k ++ ((dvs.drop k ++ junk) ++ (rvs ++ sp)) = dvs ++ (junk ++ (rvs ++ sp)) := by
   rw [List.append_assoc, ← List.append_assoc (dvs.take k), List.take_append_drop]
  rw [e]
 ·refine ⟨h0, by rw [List.length_take]; omega, .inr ⟨DR, ?_, rfl, hr⟩⟩
  have := hS.trunc (k := k) hk
  rw [List.length_take, Nat.min_eq_left hk]
  exact this
theorem DRow.app {ty : TypeId} {dq sq : Option Addr} {dc off sn sc : Nat} {dvs rvs : List Value} {SR RS : List Chunk} {t : TypeId} {b : Nat} (hD : DRow dq dc dvs rvs off sq sn sc SR RS) (h : Sat σ w (RS ++ L)) (ho : dvs.length < off) (hn : dvs.length < 1000000000)
 {C : World → Prop} (hC : ∀ w1 X, Sat σ w1 (X :: (RS ++ L)) → C w1) {K : Option Addr → Nat → Nat → World → Prop}
 (hK : ∀ dq' dc' RS' w', DRow dq' dc' (dvs ++ [ptrV t b]) rvs off sq sn sc SR RS' → Sat σ w' (RS' ++ L) → K dq' (dvs.length + 1) dc' w') :
 ∃ rq rn rc w1, (Instr.buildSlice ty_S_Inline 1 #[(0, ptrV t b)]).run P w = .ok (.slice rq rn rc) w1 ∧ C w1 ∧
  ∃ q' n' c' w2, (Builtin.append_ #[ty_S_Inline, ty_S_Inline] ty #[.slice dq dvs.length dc, .slice rq rn rc]).run P w1 = .ok (.slice q' n' c') w2 ∧ K q' n' c' w2 := by
 obtain ⟨h0, hle, ⟨rb, junk, sp, rfl, rfl, rfl, h1, h2⟩ | ⟨DR, hS, rfl, hr⟩⟩ := hD
 ·refine appRoom rowInl h (v := ptrV t b) (by simp; omega) (by omega) rfl rfl (fillI t _) (C := C) (fun w1 X hw => hC w1 X hw) fun w' h => ?_
  have hj : junk ≠ [] := by intro h; subst h; simp at h1; omega
  rw [set_mid hj] at h
  refine hK _ _ _ w' ⟨h0, by simp; omega, .inl ⟨rb, junk.drop 1, sp, rfl, rfl, rfl, ?_, h2⟩⟩ h
  have := List.length_pos_iff.2 hj
  simp; omega
 ·have hl := hS.1
  have h : Sat σ w (DR ++ (SR ++ L)) := h.re
  refine Sat.app1S rowInl hS h (v := ptrV t b) rfl (by simp [ptrV, Value.cells, Value.oneCell']) (fillI _ _) (by omega) (by omega) (by decide) (C := C) (fun w1 X hw => hC w1 X (hw.re)) fun q' c' w' M' hS' h => ?_
  refine hK q' c' (M' ++ SR) w' ⟨h0, ?_, .inr ⟨M', ?_, rfl, hr⟩⟩ (h.re)
  ·have := hS'.2.1; simp; omega
  ·rw [List.length_append]; exact hS'
theorem DRow.cells {dq sq : Option Addr} {dc off sn sc : Nat} {dvs rvs : List Value} {SR RS : List Chunk} (hD : DRow dq dc dvs rvs off sq sn sc SR RS) (h0 : 0 < dvs.length) : ∃ (rb : Nat) (cs : List Value), dq = some ⟨rb, 0, none⟩ ∧ (rb, cel cs ty_Inline) ∈ RS ∧ ∀ (j : Nat) (v : Value), dvs[j]? = some v → cs[j]? = some v := by
 obtain ⟨_, _, ⟨rb, junk, sp, rfl, rfl, rfl, h1, h2⟩ | ⟨DR, hS, rfl, hr⟩⟩ := hD
 ·exact ⟨rb, _, rfl, .head _, fun j v hv => by rw [List.getElem?_append_left (List.getElem?_eq_some_iff.1 hv).1]; exact hv⟩
 ·obtain ⟨rb, sp, rfl, rfl⟩ := hS.rowAt h0
  exact ⟨rb, _, rfl, List.mem_append_left _ (.head _), fun j v hv => by rw [List.getElem?_append_left (List.getElem?_eq_some_iff.1 hv).1]; exact hv⟩
theorem DRow.copy {dq sq : Option Addr} {dc off sn sc k : Nat} {dvs rvs : List Value} {SR RS : List Chunk} (hD : DRow dq dc dvs rvs off sq sn sc SR RS) (h : Sat σ w (RS ++ L)) (hk : k < dvs.length) (hn : dvs.length < 1000000000) (hp : ∀ v ∈ dvs, v.oneCell' = true)
 {C : World → Prop} (hC : ∀ w1 X, Sat σ w1 (X ++ (RS ++ L)) → C w1) {K : Option Addr → Nat → Nat → World → Prop}
 (hK : ∀ q n c w' M, Sl 1 ty_Inline q n c (dvs.drop k) M → Sat σ w' (M ++ (RS ++ L)) → K q n c w') :
 ∃ r1 r2 r3, (∀ w, (Instr.sliceAt ty_S_Inline (.slice dq dvs.length dc) (some (.int .i64 k)) none none).run P w = .ok (.slice r1 r2 r3) w) ∧
  ∃ q n c w', (Builtin.append_ #[ty_S_Inline, ty_S_Inline] ty_S_Inline #[.slice none 0 0, .slice r1 r2 r3]).run P w = .ok (.slice q n c) w' ∧ C w' ∧ K q n c w' := by
 obtain ⟨rb, cs, rfl, hm, hc⟩ := hD.cells (by omega)
 have hle := hD.2.1
 refine ⟨_, _, _, fun w => sliceF rowInl.ht rowInl.hi _ dvs.length dc k (by omega) w, ?_⟩
 rw [if_neg (by omega), rowInl.hs]
 simp only [Option.map_some, Addr.add_lit, Nat.zero_add, Nat.mul_one]
 have hsrc : Src P 1 ty_S_Inline (.slice (some ⟨rb, k, none⟩) (dvs.length - k) (dc - k)) (dvs.length - k) (dvs.drop k) w := by
  refine Src.ofSlice w rowInl.ht _ _ _ _ (by simp) (fun j u hu => ?_) (fun v hv => hp v (List.mem_of_mem_drop hv))
  rw [Addr.add_lit]
  refine h.ld (List.mem_append_left _ hm) (hc _ _ ?_)
  rw [List.getElem?_drop] at hu
  exact hu
 obtain ⟨q', c', w', M', hr, hS', h', _⟩ := Sat.app rowInl (ty := ty_S_Inline) (Sl.nil 1 ty_Inline) (M := []) (L := RS ++ L) h hsrc (.inl (by omega)) (by omega) (by omega)
 rw [List.nil_append] at hS'
 exact ⟨q', _, c', w', hr, hC _ M' h', hK q' _ c' w' M' hS' h'⟩
end Go.Proofs.YtgbgadkldalkbaaGreatDoor


set_option linter.unusedVariables false
namespace Go.Proofs.YtgbgadkldalkbaaGreatDoor
open Go.Proofs Go.IntWalk Go.RowKit
variable {σ : Out} {w : World} {L L' : List Chunk} {R : Ending → World → Prop}
def badEmph (co cc : Bool) (n : Int) (sco scc : Bool) (sn : Int) : Bool := (co && cc || sco && scc) && (Int.tmod (n + sn) 3 == 0 && (Int.tmod n 3 != 0 || Int.tmod sn 3 != 0))
def cand (co cc : Bool) (n : Int) (dst : List Inl) (j : Nat) : Bool := match dst[j]? with
 | some (.emphP _ sco scc _ sn) => !badEmph co cc n sco scc sn
 | _ => false
def trimN (m : Nat) (l : List Nat) : List Nat := (l.reverse.dropWhile fun e => decide (m ≤ e)).reverse
def closeGo (ix : Nat) (co cc : Bool) (n : Int) : Nat → List UInt8 → List Inl → List (List Nat) → List UInt8 × List Inl × List (List Nat)
 | 0, t, dst, st => (t, dst, st)
 | f + 1, t, dst, st => if t = [] then (t, dst, st) else match (st.getD ix []).reverse.find? (cand co cc n dst) with
  | none => (t, dst, st)
  | some j => match dst[j]? with
   | some (.emphP s sco scc si sn) =>
    let d := if 2 ≤ t.length ∧ 2 ≤ s.length then 2 else 1
    let s' := s.take (s.length - d)
    let d1 := dst.take j ++ (if s' = [] then [] else [.emphP s' sco scc si sn])
    let x := if d = 2 then Inl.strong (t.take d) (dst.drop (j + 1)) else .emph (t.take d) (dst.drop (j + 1))
    closeGo ix co cc n f (t.drop d) (d1 ++ [x]) (st.map (trimN d1.length))
   | _ => (t, dst, st)
def ixOf (c : UInt8) : Nat := if c = 95 then 0 else 1
def emphGo : List Inl → List (List Nat) → List Inl → List Inl
 | dst, _, [] => dst
 | dst, st, t :: ts => match t with
  | .openP s _ => emphGo (dst ++ [.plain s]) st ts
  | .emphP s co cc i n =>
   let ix := ixOf (s.headD 0)
   let r := if cc then closeGo ix co cc n s.length s dst st else (s, dst, st)
   if r.1 = [] then emphGo r.2.1 r.2.2 ts
   else if co then emphGo (r.2.1 ++ [.emphP r.1 co cc r.2.1.length n]) (r.2.2.set ix (r.2.2.getD ix [] ++ [r.2.1.length])) ts
   else emphGo (r.2.1 ++ [.plain r.1]) r.2.2 ts
  | t => emphGo (dst ++ [t]) st ts
def emphM (ts : List Inl) : List Inl := emphGo [] [[], [], [], [], []] ts

theorem InlsAt.get : ∀ {ts : List Inl} {vs : List Value} {M : List Chunk} {j : Nat} {t : Inl}, InlsAt ts vs M → ts[j]? = some t → ∃ v Mj, vs[j]? = some v ∧ InlAt t v Mj ∧ ∀ c ∈ Mj, c ∈ M
 | [], vs, M, j, t, h, hj => by simp at hj
 | t' :: ts, vs, M, 0, t, h, hj => by
  obtain ⟨v, vs', M1, M2, rfl, rfl, h1, h2⟩ := h
  simp at hj; subst hj
  exact ⟨v, M1, rfl, h1, fun c hc => List.mem_append_left _ hc⟩
 | t' :: ts, vs, M, j + 1, t, h, hj => by
  obtain ⟨v, vs', M1, M2, rfl, rfl, h1, h2⟩ := h
  obtain ⟨v', Mj, h3, h4, h5⟩ := h2.get (by simpa using hj)
  exact ⟨v', Mj, by simpa using h3, h4, fun c hc => List.mem_append_right _ (h5 c hc)⟩
def emC (b : Nat) (t : List UInt8) (co cc : Bool) (i n : Int) (e : TypeId) : Chunk := (b, cel [.string (bs t), .bool co, .bool cc, .int .i64 i, .int .i64 n] e)
def EntIn (dst : List Inl) (dvs : List Value) (e : Nat × Nat) : Prop := ∃ t co cc n, dst[e.2]? = some (.emphP t co cc (e.2 : Nat) n) ∧ dvs[e.2]? = some (ptrV ty_P_emphPlain e.1) ∧ 0 ≤ n ∧ n ≤ 1000000000 ∧ t ≠ [] ∧ t.length < 1000000000
def StkIn (dst : List Inl) (dvs : List Value) (S : List STK) : Prop := ∀ s ∈ S, s.ent.length < 1000000000 ∧ s.ent.Pairwise (fun a b => a.2 < b.2) ∧ ∀ e ∈ s.ent, EntIn dst dvs e
def idxs (S : List STK) : List (List Nat) := S.map fun s => s.ent.map Prod.snd
theorem ptrV_inj {t : TypeId} {a b : Nat} (h : ptrV t a = ptrV t b) : a = b := by
 simp only [ptrV, Value.iface.injEq, Value.pointer.injEq, Option.some.injEq, Addr.mk.injEq, true_and, and_true] at h
 exact h
theorem EntIn.chunk {dst : List Inl} {dvs : List Value} {DM : List Chunk} {e : Nat × Nat} (hI : InlsAt dst dvs DM) (h : EntIn dst dvs e) : ∃ t co cc n ty, dst[e.2]? = some (.emphP t co cc (e.2 : Nat) n) ∧ emC e.1 t co cc (e.2 : Nat) n ty ∈ DM ∧ 0 ≤ n ∧ n ≤ 1000000000 ∧ t ≠ [] ∧ t.length < 1000000000 := by
 obtain ⟨t, co, cc, n, h1, h2, h3, h4, h5⟩ := h
 obtain ⟨v, Mj, h6, h7, h8⟩ := hI.get h1
 rw [h2] at h6
 obtain rfl := Option.some.inj h6
 obtain ⟨b, ty, hb, rfl⟩ := h7
 have := ptrV_inj hb
 subst this
 exact ⟨t, co, cc, n, ty, h1, h8 _ (.head _), h3, h4, h5⟩
theorem trimE_lt {m : Nat} {es : List (Nat × Nat)} (h : es.Pairwise fun a b => a.2 < b.2) : ∀ e ∈ trimE m es, e.2 < m := by
 induction hn : es.length generalizing es with
 | zero => rw [List.eq_nil_of_length_eq_zero hn]; intro e he; simp [trimE_nil] at he
 | succ k ih =>
  rcases List.eq_nil_or_concat es with rfl | ⟨es', x, rfl⟩
  ·simp at hn
  ·rw [List.concat_eq_append] at *
   rw [List.pairwise_append] at h
   rw [trimE_snoc]
   split
   ·exact ih h.1 (by simp at hn; omega)
   ·rename_i hx
    intro e he
    rcases List.mem_append.1 he with he | he
    ·have := h.2.2 e he x (by simp); omega
    ·simp at he; subst he; omega
theorem trimE_sub {m : Nat} {es : List (Nat × Nat)} {e : Nat × Nat} (h : e ∈ trimE m es) : e ∈ es := by
 rw [trimE_prefix] at h
 exact List.mem_of_mem_take h
theorem trimE_len (m : Nat) (es : List (Nat × Nat)) : (trimE m es).length ≤ es.length := by
 unfold trimE
 have := (List.dropWhile_sublist (fun e : Nat × Nat => decide (m ≤ e.2)) (l := es.reverse)).length_le
 simpa using this
theorem trimE_pw {m : Nat} {es : List (Nat × Nat)} (h : es.Pairwise fun a b => a.2 < b.2) : (trimE m es).Pairwise fun a b => a.2 < b.2 := by
 rw [trimE_prefix]
 exact h.sublist (List.take_sublist ..)
theorem trimE_map (m : Nat) (es : List (Nat × Nat)) : (trimE m es).map Prod.snd = trimN m (es.map Prod.snd) := by
 unfold trimE trimN
 rw [← List.map_reverse (l := es), List.dropWhile_map, List.map_reverse]
 rfl
theorem idxs_trim (m : Nat) (S : List STK) : idxs (S.map (STK.trim m)) = (idxs S).map (trimN m) := by
 simp [idxs, STK.trim, Function.comp_def, trimE_map]

def EM (σ : Out) (b1 b3 pb : Nat) (t : List UInt8) (co cc : Bool) (pi n : Int) (pe : TypeId) (dst : List Inl) (S : List STK) (rvs : List Value) (off : Nat) (sq : Option Addr) (sn sc : Nat) (SR : List Chunk) (L : List Chunk) (w : World) : Prop :=
 ∃ dq dc dvs DM SM RS, InlsAt dst dvs DM ∧ StksAt S SM ∧ S.length = 5 ∧ StkIn dst dvs S ∧ DRow dq dc dvs rvs off sq sn sc SR RS ∧ dst.length < 1000000000 ∧
  Sat σ w (emC pb t co cc pi n pe :: stkC b3 S :: (b1, cel [.slice dq dvs.length dc] ty_S_Inline) :: (SM ++ (DM ++ (RS ++ L))))
theorem EM.tick {b1 b3 pb : Nat} {t : List UInt8} {co cc : Bool} {pi n : Int} {pe : TypeId} {dst : List Inl} {S : List STK} {rvs : List Value} {off : Nat} {sq : Option Addr} {sn sc : Nat} {SR : List Chunk} (h : EM σ b1 b3 pb t co cc pi n pe dst S rvs off sq sn sc SR L w) :
 EM σ b1 b3 pb t co cc pi n pe dst S rvs off sq sn sc SR L (tick w) := by
 obtain ⟨dq, dc, dvs, DM, SM, RS, h1, h2, h3, h4, h5, h6, h7⟩ := h
 exact ⟨dq, dc, dvs, DM, SM, RS, h1, h2, h3, h4, h5, h6, h7.tick⟩
theorem tPart {pb sb : Nat} {n sn : Int} (hn : 0 ≤ n ∧ n ≤ 1000000000) (hsn : 0 ≤ sn ∧ sn ≤ 1000000000) (h1 : w.cell? ⟨pb, 4, none⟩ = some (.int .i64 n)) (h2 : w.cell? ⟨sb, 4, none⟩ = some (.int .i64 sn)) {A B : Prop}
 (h : if Int.tmod (n + sn) 3 == 0 && (Int.tmod n 3 != 0 || Int.tmod sn 3 != 0) then A else B) :
 nilP (some (⟨pb, 0, none⟩ : Addr)) fun a62 => nilP (some (⟨sb, 0, none⟩ : Addr)) fun a63 => ∃ (v64 : Int), w.cell? (a62.add 4) = some (.int .i64 v64) ∧ ∃ (v65 : Int), w.cell? (a63.add 4) = some (.int .i64 v65) ∧
  (3 : Int) ≠ 0 ∧ br ((Int.tmod (IntKind.i64.wrap (v64 + v65)) 3) == 0)
   (nilP (some (⟨pb, 0, none⟩ : Addr)) fun a66 => ∃ (v67 : Int), w.cell? (a66.add 4) = some (.int .i64 v67) ∧ (3 : Int) ≠ 0 ∧ br ((Int.tmod v67 3) != 0) A
    (nilP (some (⟨sb, 0, none⟩ : Addr)) fun a68 => ∃ (v69 : Int), w.cell? (a68.add 4) = some (.int .i64 v69) ∧ (3 : Int) ≠ 0 ∧ br ((Int.tmod v69 3) != 0) A B)) B := by
 refine nilP_some (nilP_some ⟨n, h1, sn, h2, by decide, ?_⟩)
 rw [i64_in _ (by omega)]
 cases e1 : (Int.tmod (n + sn) 3 == 0) with
 | false => rw [e1] at h; exact br_false rfl (by simpa using h)
 | true =>
  refine br_true rfl (nilP_some ⟨n, h1, by decide, ?_⟩)
  cases e2 : (Int.tmod n 3 != 0) with
  | true => rw [e1, e2] at h; exact br_true rfl (by simpa using h)
  | false =>
   refine br_false rfl (nilP_some ⟨sn, h2, by decide, ?_⟩)
   cases e3 : (Int.tmod sn 3 != 0) with
   | true => rw [e1, e2, e3] at h; exact br_true rfl (by simpa using h)
   | false => rw [e1, e2, e3] at h; exact br_false rfl (by simpa using h)
theorem uPart {sb : Nat} {sco scc : Bool} (h1 : w.cell? ⟨sb, 1, none⟩ = some (.bool sco)) (h2 : w.cell? ⟨sb, 2, none⟩ = some (.bool scc)) {T B : Prop} (h : if sco && scc then T else B) :
 nilP (some (⟨sb, 0, none⟩ : Addr)) fun a70 => ∃ (v71 : Bool), w.cell? (a70.add 1) = some (.bool v71) ∧ br v71 (nilP (some (⟨sb, 0, none⟩ : Addr)) fun a72 => ∃ (v73 : Bool), w.cell? (a72.add 2) = some (.bool v73) ∧ br v73 T B) B := by
 refine nilP_some ⟨sco, h1, ?_⟩
 cases sco with
 | false => exact br_false rfl (by simpa using h)
 | true =>
  refine br_true rfl (nilP_some ⟨scc, h2, ?_⟩)
  cases scc with
  | false => exact br_false rfl (by simpa using h)
  | true => exact br_true rfl (by simpa using h)
end Go.Proofs.YtgbgadkldalkbaaGreatDoor


set_option linter.unusedVariables false
namespace Go.Proofs.YtgbgadkldalkbaaGreatDoor
open Go.Proofs Go.IntWalk Go.RowKit
variable {σ : Out} {w : World} {L L' : List Chunk} {R : Ending → World → Prop}
theorem tk_gen {w : World} {K A : World → Prop} (hA : A (tick w)) (h : ∀ w', A w' → K w') : tk w K := h _ hA
abbrev cl1 : Value := .func (.func i_parseState_emph_1) #[] #[]
abbrev cl2 (b3 b1 : Nat) : Value := .func (.func i_parseState_emph_2) #[] #[.pointer (some ⟨b3, 0, none⟩), .pointer (some ⟨b1, 0, none⟩)]
abbrev XA := Option Addr → Nat → Nat → Nat → Nat → Value → Value → Int → World → Prop
abbrev XB := Option Addr → Nat → Nat → Nat → Nat → Value → Value → Int → Option Addr → Option Addr → World → Prop
abbrev XC := Option Addr → Nat → Nat → Nat → Nat → Value → Value → Int → Option Addr → Option Addr → Int → World → Prop
def isEm (c : UInt8) : Prop := c = 42 ∨ c = 95
theorem bt0 {t : List UInt8} {c : UInt8} (h : t.head? = some c) : bt (bs t) 0 = (c.toNat : Int) := by
 cases t with
 | nil => simp at h
 | cons x t => simp at h; subst h; rfl
theorem head_ne {t : List UInt8} {c : UInt8} (h : t.head? = some c) : t ≠ [] := by intro h0; subst h0; simp at h
theorem head_pos {t : List UInt8} {c : UInt8} (h : t.head? = some c) : 0 < ((bs t).size : Int) := by
 cases t with
 | nil => simp at h
 | cons x t => simp
def dOf (t s : List UInt8) : Nat := if 2 ≤ t.length ∧ 2 ≤ s.length then 2 else 1

theorem search_ok {Xa : XA} {Xb : XB} {Xc : XC} {b1 b3 pb ix off : Nat} {t : List UInt8} {c : UInt8} {co cc : Bool} {pi n x10 : Int} {pe : TypeId} {dst : List Inl} {S : List STK} {s : STK} {rvs : List Value} {sq : Option Addr} {sn sc : Nat} {SR : List Chunk}
 (h : EM σ b1 b3 pb t co cc pi n pe dst S rvs off sq sn sc SR L w) (htc : t.head? = some c) (hc : isEm c) (hn : 0 ≤ n ∧ n ≤ 1000000000) (hs : S[ix]? = some s)
 (hXc : ∀ x16 w, g_parseState_emph.bl3 R Xa Xb Xc sq sn sc b1 b3 cl1 (cl2 b3 b1) x10 (some ⟨pb, 0, none⟩) (some ⟨b3, ix, none⟩) x16 w → Xc sq sn sc b1 b3 cl1 (cl2 b3 b1) x10 (some ⟨pb, 0, none⟩) (some ⟨b3, ix, none⟩) x16 w)
 (hnone : (∀ e ∈ s.ent, cand co cc n dst e.2 = false) → ∀ w, EM σ b1 b3 pb t co cc pi n pe dst S rvs off sq sn sc SR L w → g_parseState_emph.k1 R Xa sq sn sc b1 b3 cl1 (cl2 b3 b1) x10 (some ⟨pb, 0, none⟩) w)
 (hfound : ∀ es1 e es2 st sco scc sn', s.ent = es1 ++ e :: es2 → cand co cc n dst e.2 = true → (∀ x ∈ es2, cand co cc n dst x.2 = false) → dst[e.2]? = some (.emphP st sco scc (e.2 : Nat) sn') → ∀ w, EM σ b1 b3 pb t co cc pi n pe dst S rvs off sq sn sc SR L w →
  g_parseState_emph.k6 R Xa Xb Xc sq sn sc b1 b3 cl1 (cl2 b3 b1) x10 (some ⟨pb, 0, none⟩) (some ⟨b3, ix, none⟩) (some ⟨e.1, 0, none⟩) (dOf t st : Nat) w) :
 Xc sq sn sc b1 b3 cl1 (cl2 b3 b1) x10 (some ⟨pb, 0, none⟩) (some ⟨b3, ix, none⟩) (IntKind.i64.wrap ((s.n : Int) - 1)) w := by
 have hsS : s ∈ S := List.mem_of_getElem? hs
 have hsn : s.n = s.ent.length ∧ s.ent.length < 1000000000 := by
  obtain ⟨dq, dc, dvs, DM, SM, RS, h1, h2, h3, h4, h5, h6, h7⟩ := h
  obtain ⟨A, B, rfl⟩ := List.append_of_mem hsS
  obtain ⟨M1, M2, M3, rfl, _, hok, _⟩ := h2.split
  have := hok.1
  simp at this
  exact ⟨by omega, (h4 s hsS).1⟩
 have key : ∀ (es1 es2 : List (Nat × Nat)) w, s.ent = es1 ++ es2 → (∀ x ∈ es2, cand co cc n dst x.2 = false) → EM σ b1 b3 pb t co cc pi n pe dst S rvs off sq sn sc SR L w →
  Xc sq sn sc b1 b3 cl1 (cl2 b3 b1) x10 (some ⟨pb, 0, none⟩) (some ⟨b3, ix, none⟩) ((es1.length : Int) - 1) w := by
  intro es1
  induction hk : es1.length generalizing es1 with
  | zero =>
   intro es2 w he hno h
   have : es1 = [] := List.eq_nil_of_length_eq_zero hk
   subst this
   refine hXc _ _ (br_false (by simp) ?_)
   exact hnone (by rw [he]; simpa using hno) w h
  | succ k ih =>
   intro es2 w he hno h
   obtain ⟨es1', e, rfl⟩ : ∃ es' e, es1 = es' ++ [e] := by
    rcases List.eq_nil_or_concat es1 with rfl | ⟨es', e, rfl⟩
    ·simp at hk
    ·exact ⟨es', e, by simp⟩
   simp at hk
   have hx : (((k + 1 : Nat) : Int) - 1) = (k : Int) := by omega
   rw [hx]
   have hsl : s.ent.length = k + 1 + es2.length := by rw [he]; simp; omega
   have hmem : e ∈ s.ent := by rw [he]; simp
   have hnext : cand co cc n dst e.2 = false → ∀ w, EM σ b1 b3 pb t co cc pi n pe dst S rvs off sq sn sc SR L w → Xc sq sn sc b1 b3 cl1 (cl2 b3 b1) x10 (some ⟨pb, 0, none⟩) (some ⟨b3, ix, none⟩) (IntKind.i64.wrap ((k : Int) - 1)) w := by
    intro hbad w h
    rw [i64_in _ (by omega)]
    have := ih es1' hk (e :: es2) w (by rw [he]; simp) (fun x hx => (List.mem_cons.1 hx).elim (fun h => h ▸ hbad) (hno x)) h
    rw [← hk] at this ⊢
    exact this
   have h0 := h
   obtain ⟨dq, dc, dvs, DM, SM, RS, h1, h2, h3, h4, h5, h6, h7⟩ := h
   obtain ⟨st, sco, scc, sn', ty, hd, hch, hn1, hn2, hst⟩ := ((h4 s hsS).2.2 e hmem).chunk h1
   have hcand : cand co cc n dst e.2 = !badEmph co cc n sco scc sn' := by unfold cand; rw [hd]
   refine hXc _ _ (br_true (by simp) (nilP_some ?_))
   have hsc : w.cell? ⟨b3, ix, none⟩ = some (.slice s.q s.n s.c) := by
    refine Sat.ld h7 (.tail _ (.head _)) ?_
    rw [List.getElem?_map, hs]; rfl
   refine ⟨_, _, _, hsc, by omega, by omega, ?_⟩
   obtain ⟨A, B, hAB⟩ := List.append_of_mem hsS
   have h2' := h2
   rw [hAB] at h2'
   obtain ⟨M1, M2, M3, rfl, _, hok, _⟩ := h2'.split
   have hvs : (s.ent.map entV)[k]? = some (.pointer (some ⟨e.1, 0, none⟩)) := by
    rw [he]; simp [entV, hk]
   have hM : Sat σ w (M2 ++ (emC pb t co cc pi n pe :: stkC b3 S :: (b1, cel [.slice dq dvs.length dc] ty_S_Inline) :: (M1 ++ (M3 ++ (DM ++ (RS ++ L)))))) := h7.re
   refine Sl.loadAt hok hM hvs fun rb hq hcell => ?_
   simp only [Addr.add_lit, Int.toNat_natCast, Nat.mul_one, Nat.zero_add]
   refine ⟨_, hcell, ?_⟩
   refine tk_gen (A := fun w => EM σ b1 b3 pb t co cc pi n pe dst S rvs off sq sn sc SR L w ∧ Sat σ w (emC pb t co cc pi n pe :: stkC b3 S :: (b1, cel [.slice dq dvs.length dc] ty_S_Inline) :: ((M1 ++ (M2 ++ M3)) ++ (DM ++ (RS ++ L))))) ⟨h0.tick, h7.tick⟩ fun w hA => ?_
   obtain ⟨h0, h7⟩ := hA
   have hp : ∀ (k : Nat) (v : Value), ([Value.string (bs t), .bool co, .bool cc, .int .i64 pi, .int .i64 n])[k]? = some v → w.cell? ⟨pb, k, none⟩ = some v := fun k v hv => Sat.ld h7 (.head _) hv
   have hst' : ∀ (k : Nat) (v : Value), ([Value.string (bs st), .bool sco, .bool scc, .int .i64 (e.2 : Nat), .int .i64 sn'])[k]? = some v → w.cell? ⟨e.1, k, none⟩ = some v := fun k v hv =>
    Sat.ld h7 (.tail _ (.tail _ (.tail _ (List.mem_append_right _ (List.mem_append_left _ hch))))) hv
   have k3 : cand co cc n dst e.2 = true → g_parseState_emph.k3 R Xa Xb Xc sq sn sc b1 b3 cl1 (cl2 b3 b1) x10 (some ⟨pb, 0, none⟩) (some ⟨b3, ix, none⟩) (k : Int) (some ⟨e.1, 0, none⟩) w := by
    intro hgood
    have fnd := fun w h => hfound es1' e es2 st sco scc sn' (by rw [he]; simp) hgood hno hd w h
    refine tk_gen (A := fun w => EM σ b1 b3 pb t co cc pi n pe dst S rvs off sq sn sc SR L w ∧ Sat σ w (emC pb t co cc pi n pe :: stkC b3 S :: (b1, cel [.slice dq dvs.length dc] ty_S_Inline) :: ((M1 ++ (M2 ++ M3)) ++ (DM ++ (RS ++ L))))) ⟨h0.tick, h7.tick⟩ fun w hA => ?_
    obtain ⟨h0, h7⟩ := hA
    have hp : ∀ (k : Nat) (v : Value), ([Value.string (bs t), .bool co, .bool cc, .int .i64 pi, .int .i64 n])[k]? = some v → w.cell? ⟨pb, k, none⟩ = some v := fun k v hv => Sat.ld h7 (.head _) hv
    have hst' : ∀ (k : Nat) (v : Value), ([Value.string (bs st), .bool sco, .bool scc, .int .i64 (e.2 : Nat), .int .i64 sn'])[k]? = some v → w.cell? ⟨e.1, k, none⟩ = some v := fun k v hv =>
     Sat.ld h7 (.tail _ (.tail _ (.tail _ (List.mem_append_right _ (List.mem_append_left _ hch))))) hv
    refine nilP_some ⟨_, hp 0 _ rfl, by omega, head_pos htc, ?_⟩
    rw [bt0 htc]
    refine br_false (by rcases hc with rfl | rfl <;> rfl) ?_
    refine nilP_some ⟨_, hp 0 _ rfl, by omega, head_pos htc, ?_⟩
    rw [bt0 htc]
    refine br_false (by rcases hc with rfl | rfl <;> rfl) ?_
    refine nilP_some ⟨_, hp 0 _ rfl, by omega, head_pos htc, ?_⟩
    rw [bt0 htc]
    refine br_false (by rcases hc with rfl | rfl <;> rfl) ?_
    refine nilP_some ⟨_, hp 0 _ rfl, ?_⟩
    rw [bs_size]
    have fnd := fnd w h0
    unfold dOf at fnd
    by_cases ht2 : 2 ≤ t.length
    ·refine br_true (by simp; omega) (nilP_some ⟨_, hst' 0 _ rfl, ?_⟩)
     rw [bs_size]
     by_cases hs2 : 2 ≤ st.length
     ·rw [if_pos ⟨ht2, hs2⟩] at fnd
      exact br_true (by simp; omega) fnd
     ·rw [if_neg (by omega)] at fnd
      exact br_false (by simp; omega) fnd
    ·rw [if_neg (by omega)] at fnd
     exact br_false (by simp; omega) fnd
   have body : nilP (some (⟨pb, 0, none⟩ : Addr)) fun a58 => ∃ (v59 : Bool), w.cell? (a58.add 1) = some (.bool v59) ∧ br v59
    (nilP (some (⟨pb, 0, none⟩ : Addr)) fun a60 => ∃ (v61 : Bool), w.cell? (a60.add 2) = some (.bool v61) ∧ br v61
     (nilP (some (⟨pb, 0, none⟩ : Addr)) fun a62 => nilP (some (⟨e.1, 0, none⟩ : Addr)) fun a63 => ∃ (v64 : Int), w.cell? (a62.add 4) = some (.int .i64 v64) ∧ ∃ (v65 : Int), w.cell? (a63.add 4) = some (.int .i64 v65) ∧
      (3 : Int) ≠ 0 ∧ br ((Int.tmod (IntKind.i64.wrap (v64 + v65)) 3) == 0)
       (nilP (some (⟨pb, 0, none⟩ : Addr)) fun a66 => ∃ (v67 : Int), w.cell? (a66.add 4) = some (.int .i64 v67) ∧ (3 : Int) ≠ 0 ∧ br ((Int.tmod v67 3) != 0) (Xc sq sn sc b1 b3 cl1 (cl2 b3 b1) x10 (some ⟨pb, 0, none⟩) (some ⟨b3, ix, none⟩) (IntKind.i64.wrap ((k : Int) - 1)) w)
        (nilP (some (⟨e.1, 0, none⟩ : Addr)) fun a68 => ∃ (v69 : Int), w.cell? (a68.add 4) = some (.int .i64 v69) ∧ (3 : Int) ≠ 0 ∧ br ((Int.tmod v69 3) != 0) (Xc sq sn sc b1 b3 cl1 (cl2 b3 b1) x10 (some ⟨pb, 0, none⟩) (some ⟨b3, ix, none⟩) (IntKind.i64.wrap ((k : Int) - 1)) w)
         (g_parseState_emph.k3 R Xa Xb Xc sq sn sc b1 b3 cl1 (cl2 b3 b1) x10 (some ⟨pb, 0, none⟩) (some ⟨b3, ix, none⟩) (k : Int) (some ⟨e.1, 0, none⟩) w)))
       (g_parseState_emph.k3 R Xa Xb Xc sq sn sc b1 b3 cl1 (cl2 b3 b1) x10 (some ⟨pb, 0, none⟩) (some ⟨b3, ix, none⟩) (k : Int) (some ⟨e.1, 0, none⟩) w))
     (nilP (some (⟨e.1, 0, none⟩ : Addr)) fun a70 => ∃ (v71 : Bool), w.cell? (a70.add 1) = some (.bool v71) ∧ br v71 (nilP (some (⟨e.1, 0, none⟩ : Addr)) fun a72 => ∃ (v73 : Bool), w.cell? (a72.add 2) = some (.bool v73) ∧ br v73
      (nilP (some (⟨pb, 0, none⟩ : Addr)) fun a62 => nilP (some (⟨e.1, 0, none⟩ : Addr)) fun a63 => ∃ (v64 : Int), w.cell? (a62.add 4) = some (.int .i64 v64) ∧ ∃ (v65 : Int), w.cell? (a63.add 4) = some (.int .i64 v65) ∧
       (3 : Int) ≠ 0 ∧ br ((Int.tmod (IntKind.i64.wrap (v64 + v65)) 3) == 0)
        (nilP (some (⟨pb, 0, none⟩ : Addr)) fun a66 => ∃ (v67 : Int), w.cell? (a66.add 4) = some (.int .i64 v67) ∧ (3 : Int) ≠ 0 ∧ br ((Int.tmod v67 3) != 0) (Xc sq sn sc b1 b3 cl1 (cl2 b3 b1) x10 (some ⟨pb, 0, none⟩) (some ⟨b3, ix, none⟩) (IntKind.i64.wrap ((k : Int) - 1)) w)
         (nilP (some (⟨e.1, 0, none⟩ : Addr)) fun a68 => ∃ (v69 : Int), w.cell? (a68.add 4) = some (.int .i64 v69) ∧ (3 : Int) ≠ 0 ∧ br ((Int.tmod v69 3) != 0) (Xc sq sn sc b1 b3 cl1 (cl2 b3 b1) x10 (some ⟨pb, 0, none⟩) (some ⟨b3, ix, none⟩) (IntKind.i64.wrap ((k : Int) - 1)) w)
          (g_parseState_emph.k3 R Xa Xb Xc sq sn sc b1 b3 cl1 (cl2 b3 b1) x10 (some ⟨pb, 0, none⟩) (some ⟨b3, ix, none⟩) (k : Int) (some ⟨e.1, 0, none⟩) w)))
        (g_parseState_emph.k3 R Xa Xb Xc sq sn sc b1 b3 cl1 (cl2 b3 b1) x10 (some ⟨pb, 0, none⟩) (some ⟨b3, ix, none⟩) (k : Int) (some ⟨e.1, 0, none⟩) w))
      (g_parseState_emph.k3 R Xa Xb Xc sq sn sc b1 b3 cl1 (cl2 b3 b1) x10 (some ⟨pb, 0, none⟩) (some ⟨b3, ix, none⟩) (k : Int) (some ⟨e.1, 0, none⟩) w))
      (g_parseState_emph.k3 R Xa Xb Xc sq sn sc b1 b3 cl1 (cl2 b3 b1) x10 (some ⟨pb, 0, none⟩) (some ⟨b3, ix, none⟩) (k : Int) (some ⟨e.1, 0, none⟩) w)))
    (nilP (some (⟨e.1, 0, none⟩ : Addr)) fun a70 => ∃ (v71 : Bool), w.cell? (a70.add 1) = some (.bool v71) ∧ br v71 (nilP (some (⟨e.1, 0, none⟩ : Addr)) fun a72 => ∃ (v73 : Bool), w.cell? (a72.add 2) = some (.bool v73) ∧ br v73
     (nilP (some (⟨pb, 0, none⟩ : Addr)) fun a62 => nilP (some (⟨e.1, 0, none⟩ : Addr)) fun a63 => ∃ (v64 : Int), w.cell? (a62.add 4) = some (.int .i64 v64) ∧ ∃ (v65 : Int), w.cell? (a63.add 4) = some (.int .i64 v65) ∧
      (3 : Int) ≠ 0 ∧ br ((Int.tmod (IntKind.i64.wrap (v64 + v65)) 3) == 0)
       (nilP (some (⟨pb, 0, none⟩ : Addr)) fun a66 => ∃ (v67 : Int), w.cell? (a66.add 4) = some (.int .i64 v67) ∧ (3 : Int) ≠ 0 ∧ br ((Int.tmod v67 3) != 0) (Xc sq sn sc b1 b3 cl1 (cl2 b3 b1) x10 (some ⟨pb, 0, none⟩) (some ⟨b3, ix, none⟩) (IntKind.i64.wrap ((k : Int) - 1)) w)
        (nilP (some (⟨e.1, 0, none⟩ : Addr)) fun a68 => ∃ (v69 : Int), w.cell? (a68.add 4) = some (.int .i64 v69) ∧ (3 : Int) ≠ 0 ∧ br ((Int.tmod v69 3) != 0) (Xc sq sn sc b1 b3 cl1 (cl2 b3 b1) x10 (some ⟨pb, 0, none⟩) (some ⟨b3, ix, none⟩) (IntKind.i64.wrap ((k : Int) - 1)) w)
         (g_parseState_emph.k3 R Xa Xb Xc sq sn sc b1 b3 cl1 (cl2 b3 b1) x10 (some ⟨pb, 0, none⟩) (some ⟨b3, ix, none⟩) (k : Int) (some ⟨e.1, 0, none⟩) w)))
       (g_parseState_emph.k3 R Xa Xb Xc sq sn sc b1 b3 cl1 (cl2 b3 b1) x10 (some ⟨pb, 0, none⟩) (some ⟨b3, ix, none⟩) (k : Int) (some ⟨e.1, 0, none⟩) w))
     (g_parseState_emph.k3 R Xa Xb Xc sq sn sc b1 b3 cl1 (cl2 b3 b1) x10 (some ⟨pb, 0, none⟩) (some ⟨b3, ix, none⟩) (k : Int) (some ⟨e.1, 0, none⟩) w))
     (g_parseState_emph.k3 R Xa Xb Xc sq sn sc b1 b3 cl1 (cl2 b3 b1) x10 (some ⟨pb, 0, none⟩) (some ⟨b3, ix, none⟩) (k : Int) (some ⟨e.1, 0, none⟩) w)) := by
    have tp : (co && cc || sco && scc) = true → if Int.tmod (n + sn') 3 == 0 && (Int.tmod n 3 != 0 || Int.tmod sn' 3 != 0) then (Xc sq sn sc b1 b3 cl1 (cl2 b3 b1) x10 (some ⟨pb, 0, none⟩) (some ⟨b3, ix, none⟩) (IntKind.i64.wrap ((k : Int) - 1)) w)
     else (g_parseState_emph.k3 R Xa Xb Xc sq sn sc b1 b3 cl1 (cl2 b3 b1) x10 (some ⟨pb, 0, none⟩) (some ⟨b3, ix, none⟩) (k : Int) (some ⟨e.1, 0, none⟩) w) := by
     intro hcc
     split
     ·rename_i hb
      exact hnext (by rw [hcand]; unfold badEmph; rw [hcc, hb]; rfl) w h0
     ·rename_i hb
      exact k3 (by rw [hcand]; unfold badEmph; rw [hcc]; simp only [Bool.not_eq_true] at hb; rw [hb]; rfl)
    refine nilP_some ⟨co, hp 1 _ rfl, ?_⟩
    cases hco : co with
    | false => exact br_false rfl (uPart (hst' 1 _ rfl) (hst' 2 _ rfl) (by
     split
     ·rename_i hb; exact tPart hn ⟨hn1, hn2⟩ (hp 4 _ rfl) (hst' 4 _ rfl) (tp (by rw [hb]; simp))
     ·rename_i hb; simp only [Bool.not_eq_true] at hb; exact k3 (by rw [hcand]; unfold badEmph; rw [hco, hb]; rfl)))
    | true =>
     refine br_true rfl (nilP_some ⟨cc, hp 2 _ rfl, ?_⟩)
     cases hcc : cc with
     | false => exact br_false rfl (uPart (hst' 1 _ rfl) (hst' 2 _ rfl) (by
      split
      ·rename_i hb; exact tPart hn ⟨hn1, hn2⟩ (hp 4 _ rfl) (hst' 4 _ rfl) (tp (by rw [hb]; simp))
      ·rename_i hb; simp only [Bool.not_eq_true] at hb; exact k3 (by rw [hcand]; unfold badEmph; rw [hco, hcc, hb]; rfl)))
     | true => exact br_true rfl (tPart hn ⟨hn1, hn2⟩ (hp 4 _ rfl) (hst' 4 _ rfl) (tp (by rw [hco, hcc]; rfl)))
   refine nilP_some ⟨_, hp 0 _ rfl, by omega, head_pos htc, ?_⟩
   rw [bt0 htc]
   rcases hc with rfl | rfl
   ·exact br_true rfl body
   ·refine br_false rfl (nilP_some ⟨_, hp 0 _ rfl, by omega, head_pos htc, ?_⟩)
    rw [bt0 htc]
    exact br_true rfl body
 rw [hsn.1, i64_in _ (by omega)]
 exact key s.ent [] w (by simp) (by simp) h
end Go.Proofs.YtgbgadkldalkbaaGreatDoor


set_option linter.unusedVariables false
namespace Go.Proofs.YtgbgadkldalkbaaGreatDoor
open Go.Proofs Go.IntWalk Go.RowKit
variable {σ : Out} {w : World} {L L' : List Chunk} {R : Ending → World → Prop}
def cutS (st : List UInt8) (d : Nat) : List UInt8 := st.take (st.length - d)
def d1Of (dst : List Inl) (j : Nat) (s' : List UInt8) (sco scc : Bool) (si sn : Int) : List Inl := dst.take j ++ (if s' = [] then [] else [.emphP s' sco scc si sn])
def xOf (t : List UInt8) (d : Nat) (inner : List Inl) : Inl := if d = 2 then Inl.strong (t.take d) inner else .emph (t.take d) inner
theorem bs_nil_eq (s : List UInt8) : ((bs s).toList == (ByteArray.mk #[]).toList) = decide (s = []) := by
 rw [bs_toList, mk_toList, Bool.eq_iff_iff]; simp
theorem InlAt.oneCell {t : Inl} {v : Value} {M : List Chunk} (h : InlAt t v M) : v.oneCell' = true := by
 obtain ⟨b, _, _, _, rfl, _⟩ := h.ptr; rfl
theorem InlsAt.oneCell {ts : List Inl} {vs : List Value} {M : List Chunk} (h : InlsAt ts vs M) : ∀ v ∈ vs, v.oneCell' = true := by
 intro v hv
 obtain ⟨j, hj⟩ := List.mem_iff_getElem?.1 hv
 have hl := h.length
 have hjl := (List.getElem?_eq_some_iff.1 hj).1
 obtain ⟨v', Mj, h1, h2, _⟩ := h.get (List.getElem?_eq_getElem (show j < ts.length by omega))
 rw [hj] at h1
 obtain rfl := Option.some.inj h1
 exact h2.oneCell
theorem step_ok {Xa : XA} {Xb : XB} {Xc : XC} {b1 b3 pb ix off : Nat} {t st : List UInt8} {c : UInt8} {co cc sco scc : Bool} {pi n x10 sn' : Int} {pe : TypeId} {dst : List Inl} {S : List STK} {s : STK} {rvs : List Value} {sq : Option Addr} {sn sc : Nat} {SR : List Chunk} {e : Nat × Nat}
 (h : EM σ b1 b3 pb t co cc pi n pe dst S rvs off sq sn sc SR L w) (htc : t.head? = some c) (hc : isEm c) (hs : S[ix]? = some s) (hse : e ∈ s.ent) (hd : dst[e.2]? = some (.emphP st sco scc (e.2 : Nat) sn')) (hin : e.2 + 1 < dst.length) (hoff : dst.length ≤ off) (htl : t.length < 1000000000)
 (hK : ∀ w, EM σ b1 b3 pb (t.drop (dOf t st)) co cc pi n pe (d1Of dst e.2 (cutS st (dOf t st)) sco scc (e.2 : Nat) sn' ++ [xOf t (dOf t st) (dst.drop (e.2 + 1))]) (S.map (STK.trim (d1Of dst e.2 (cutS st (dOf t st)) sco scc (e.2 : Nat) sn').length)) rvs off sq sn sc SR L w →
  Xb sq sn sc b1 b3 cl1 (cl2 b3 b1) x10 (some ⟨pb, 0, none⟩) (some ⟨b3, ix, none⟩) w) :
 g_parseState_emph.k6 R Xa Xb Xc sq sn sc b1 b3 cl1 (cl2 b3 b1) x10 (some ⟨pb, 0, none⟩) (some ⟨b3, ix, none⟩) (some ⟨e.1, 0, none⟩) (dOf t st : Nat) w := by
 obtain ⟨dq, dc, dvs, DM, SM, RS, hI, hSt, h5, hSI, hD, hdl, h⟩ := h
 have hsS : s ∈ S := List.mem_of_getElem? hs
 have hEe := (hSI s hsS).2.2 e hse
 have hvl := hI.length
 have hone := hI.oneCell
 have hsp : dst = dst.take e.2 ++ (.emphP st sco scc (e.2 : Nat) sn') :: dst.drop (e.2 + 1) := by
  have hj : e.2 < dst.length := by omega
  have hg : dst[e.2] = .emphP st sco scc (e.2 : Nat) sn' := by rw [List.getElem?_eq_getElem hj] at hd; exact Option.some.inj hd
  rw [← hg, ← List.drop_eq_getElem_cons hj, List.take_append_drop]
 have hI' := hI
 rw [hsp] at hI'
 obtain ⟨vs1, v, vs2, D1, D2, D3, hdv, rfl, hI1, hv, hI3⟩ := hI'.mid
 have hl1 : vs1.length = e.2 := by have := hI1.length; rw [List.length_take] at this; omega
 obtain ⟨sb, se, rfl, rfl⟩ := hv
 have hsb : sb = e.1 := by
  obtain ⟨_, _, _, _, _, h2, _⟩ := hEe
  rw [hdv, List.getElem?_append_right (by omega), hl1] at h2
  simp at h2
  exact ptrV_inj h2
 subst hsb
 obtain ⟨hst0, hsn0, hsn1, hsl⟩ : st ≠ [] ∧ 0 ≤ sn' ∧ sn' ≤ 1000000000 ∧ st.length < 1000000000 := by
  obtain ⟨t', co', cc', n', h1, h2, h3, h4, h5⟩ := hEe
  rw [hd] at h1
  simp only [Option.some.injEq, Inl.emphP.injEq] at h1
  obtain ⟨rfl, rfl, rfl, _, rfl⟩ := h1
  exact ⟨h5.1, h3, h4, h5.2⟩
 have htp := List.length_pos_iff.2 (head_ne htc)
 have hstp := List.length_pos_iff.2 hst0
 generalize hdd : dOf t st = d at hK ⊢
 have hd12 : (d = 1 ∨ d = 2) ∧ d ≤ t.length ∧ d ≤ st.length := by
  rw [← hdd]; unfold dOf; split <;> omega
 obtain ⟨hd12, hdt, hds⟩ := hd12
 have hdrop : dvs.drop (e.2 + 1) = vs2 := by rw [hdv, List.drop_append, List.drop_eq_nil_of_le (by omega), hl1]; simp
 have htake : dvs.take e.2 = vs1 := by rw [hdv, List.take_append_of_le_length (by omega), List.take_of_length_le (by omega)]
 have htake1 : dvs.take (e.2 + 1) = vs1 ++ [ptrV ty_P_emphPlain e.1] := by
  rw [hdv, List.take_append, List.take_of_length_le (by omega), hl1]; simp
 have h : Sat σ w (emC pb t co cc pi n pe :: stkC b3 S :: (b1, cel [.slice dq dvs.length dc] ty_S_Inline) :: (SM ++ ((D1 ++ ([emC e.1 st sco scc (e.2 : Nat) sn' se] ++ D3)) ++ (RS ++ L)))) := h
 have h : Sat σ w (emC pb t co cc pi n pe :: emC e.1 st sco scc (e.2 : Nat) sn' se :: (b1, cel [.slice dq dvs.length dc] ty_S_Inline) :: stkC b3 S :: (SM ++ (D1 ++ (D3 ++ (RS ++ L))))) := h.re
 refine nilP_some ⟨_, Sat.ld h (.head _) rfl, by omega, head_pos htc, ?_⟩
 refine h.tk fun w h => ?_
 refine nilP_some (nilP_some ?_)
 refine ⟨_, Sat.ld h (.head _) rfl, by omega, by rw [bs_size]; omega, ?_⟩
 refine ⟨_, _, _, Sat.ld h (.tail _ (.tail _ (.head _))) rfl, ?_⟩
 refine ⟨_, Sat.ld h (.tail _ (.head _)) rfl, ?_⟩
 have e1 : IntKind.i64.wrap (((e.2 : Nat) : Int) + 1) = ((e.2 + 1 : Nat) : Int) := i64_inc (by omega)
 rw [e1]
 have h0 := h
 have hr : Sat σ w (RS ++ (emC pb t co cc pi n pe :: emC e.1 st sco scc (e.2 : Nat) sn' se :: (b1, cel [.slice dq dvs.length dc] ty_S_Inline) :: stkC b3 S :: (SM ++ (D1 ++ (D3 ++ L))))) := h.re
 refine hD.copy hr (k := e.2 + 1) (by omega) (by omega) hone (C := fun w1 => SameC _ w1 _ 1) (fun w1 X hw => h0.same hw (.head _) (List.mem_append_right _ (List.mem_append_right _ (.head _))) 1) fun q n2 c2 w M hSl h => ?_
 rw [hdrop] at hSl
 have h : Sat σ w (emC pb t co cc pi n pe :: emC e.1 st sco scc (e.2 : Nat) sn' se :: (b1, cel [.slice dq dvs.length dc] ty_S_Inline) :: stkC b3 S :: (SM ++ (D1 ++ (M ++ (D3 ++ (RS ++ L)))))) := h.re
 refine Sat.bx h fun xb w h => ?_
 rw [Int.toNat_natCast, bs_extract, List.drop_zero] at h
 have h : Sat σ w (emC pb t co cc pi n pe :: emC e.1 st sco scc (e.2 : Nat) sn' se :: (b1, cel [.slice dq dvs.length dc] ty_S_Inline) :: stkC b3 S :: (SM ++ (D1 ++ ((xb, cel [.string (bs (t.take d)), .slice q n2 c2] ty_Emph) :: (M ++ (D3 ++ (RS ++ L))))))) := h.re
 refine h.tk fun w h => ?_
 refine nilP_some (nilP_some ?_)
 refine ⟨_, Sat.ld h (.tail _ (.head _)) rfl, _, Sat.ld h (.tail _ (.head _)) rfl, ?_⟩
 have e2 : IntKind.i64.wrap (((bs st).size : Int) - (d : Int)) = ((st.length - d : Nat) : Int) := by rw [bs_size, i64_in _ (by omega)]; omega
 rw [e2, bs_size]
 refine ⟨by omega, by omega, nilP_some ?_⟩
 rw [Int.toNat_natCast, bs_extract, List.drop_zero]
 refine h.stA 1 fun w h => ?_
 have h : Sat σ w (emC pb t co cc pi n pe :: emC e.1 (cutS st d) sco scc (e.2 : Nat) sn' se :: (b1, cel [.slice dq dvs.length dc] ty_S_Inline) :: stkC b3 S :: (SM ++ (D1 ++ ((xb, cel [.string (bs (t.take d)), .slice q n2 c2] ty_Emph) :: (M ++ (D3 ++ (RS ++ L))))))) := h
 refine nilP_some ⟨_, Sat.ld h (.head _) rfl, by omega, by rw [bs_size]; omega, nilP_some ?_⟩
 rw [bs_size, Int.toNat_natCast, bs_ext]
 refine h.stA 0 fun w h => ?_
 have h : Sat σ w (emC pb (t.drop d) co cc pi n pe :: emC e.1 (cutS st d) sco scc (e.2 : Nat) sn' se :: (b1, cel [.slice dq dvs.length dc] ty_S_Inline) :: stkC b3 S :: (SM ++ (D1 ++ ((xb, cel [.string (bs (t.take d)), .slice q n2 c2] ty_Emph) :: (M ++ (D3 ++ (RS ++ L))))))) := h
 refine nilP_some ⟨_, Sat.ld h (.tail _ (.head _)) rfl, ?_⟩
 rw [bs_nil_eq]
 have rest : ∀ (m : Nat) w, m = (d1Of dst e.2 (cutS st d) sco scc (e.2 : Nat) sn').length → m ≤ e.2 + 1 →
  (∃ DM1, InlsAt (d1Of dst e.2 (cutS st d) sco scc (e.2 : Nat) sn') (dvs.take m) DM1 ∧ ∃ G, (∀ a, cnt a (emC e.1 (cutS st d) sco scc (e.2 : Nat) sn' se :: D1) = cnt a (G ++ DM1))) →
  Sat σ w (emC pb (t.drop d) co cc pi n pe :: emC e.1 (cutS st d) sco scc (e.2 : Nat) sn' se :: (b1, cel [.slice dq m dc] ty_S_Inline) :: stkC b3 S :: (SM ++ (D1 ++ ((xb, cel [.string (bs (t.take d)), .slice q n2 c2] ty_Emph) :: (M ++ (D3 ++ (RS ++ L))))))) →
  g_parseState_emph.k7 R Xa Xb Xc sq sn sc b1 b3 cl1 (cl2 b3 b1) x10 (some ⟨pb, 0, none⟩) (some ⟨b3, ix, none⟩) (d : Nat) ((bt (bs t) 0) == 126) (some ⟨xb, 0, none⟩) w := by
  intro m w hm hme hDM h
  obtain ⟨DM1, hI4, G, hG⟩ := hDM
  refine enter_fn ?_
  have h : Sat σ w (stkC b3 S :: (b1, cel [.slice dq m dc] ty_S_Inline) :: (SM ++ (emC e.1 (cutS st d) sco scc (e.2 : Nat) sn' se :: (D1 ++ (D3 ++ (emC pb (t.drop d) co cc pi n pe :: (xb, cel [.string (bs (t.take d)), .slice q n2 c2] ty_Emph) :: (M ++ (RS ++ L)))))))) := h.re
  have hEO : ∀ s ∈ S, EntsOK s.ent (emC e.1 (cutS st d) sco scc (e.2 : Nat) sn' se :: (D1 ++ (D3 ++ (emC pb (t.drop d) co cc pi n pe :: (xb, cel [.string (bs (t.take d)), .slice q n2 c2] ty_Emph) :: (M ++ (RS ++ L)))))) := by
   intro s' hs' x hx
   obtain ⟨t', co', cc', n', ty, h1, h2, _⟩ := ((hSI s' hs').2.2 x hx).chunk hI
   rcases List.mem_append.1 h2 with h2 | h2
   ·exact ⟨_, ty, .tail _ (List.mem_append_left _ h2), rfl⟩
   ·rcases List.mem_append.1 h2 with h2 | h2
    ·simp only [List.mem_singleton] at h2
     have hx1 : x.1 = e.1 := by have := congrArg (fun c : Chunk => c.1) h2; exact this
     have hx2 : (x.2 : Int) = (e.2 : Int) := by
      have := congrArg (fun c : Chunk => c.2) h2
      simp only [emC, cel, Obj.cells.injEq] at this
      have := congrArg Array.toList this.1
      simp only [List.cons.injEq, Value.int.injEq, true_and] at this
      exact this.2.2.2.1
     have hx3 : x.2 = e.2 := by omega
     exact ⟨_, se, by rw [hx1]; exact .head _, by rw [hx3]; rfl⟩
    ·exact ⟨_, ty, .tail _ (List.mem_append_right _ (List.mem_append_left _ h2)), rfl⟩
  refine trimStk_ok h5 hSt hEO (fun s hs => (hSI s hs).1) h fun w SM' hSt' h => ⟨rfl, ?_⟩
  rw [bt0 htc]
  refine br_false (by rcases hc with rfl | rfl <;> rfl) ?_
  have hlen1 : (dvs.take m).length = m := by rw [List.length_take]; omega
  have hD1 := hD.take (k := m) (by omega)
  have hSI' : StkIn (d1Of dst e.2 (cutS st d) sco scc (e.2 : Nat) sn' ++ [xOf t d (dst.drop (e.2 + 1))]) (dvs.take m ++ [ptrV (if d = 2 then ty_P_Strong else ty_P_Emph) xb]) (S.map (STK.trim m)) := by
   intro s' hs'
   obtain ⟨s0, hs0, rfl⟩ := List.mem_map.1 hs'
   obtain ⟨a1, a2, a3⟩ := hSI s0 hs0
   refine ⟨Nat.lt_of_le_of_lt (trimE_len m s0.ent) a1, trimE_pw a2, fun x hx => ?_⟩
   have hxm := trimE_lt a2 x hx
   obtain ⟨t', co', cc', n', g1, g2, g3, g4, g5⟩ := a3 x (trimE_sub hx)
   have hv2 : (dvs.take m ++ [ptrV (if d = 2 then ty_P_Strong else ty_P_Emph) xb])[x.2]? = some (ptrV ty_P_emphPlain x.1) := by
    rw [List.getElem?_append_left (by omega), List.getElem?_take_of_lt hxm]; exact g2
   by_cases hxe : x.2 < e.2
   ·refine ⟨t', co', cc', n', ?_, hv2, g3, g4, g5⟩
    unfold d1Of
    rw [List.append_assoc, List.getElem?_append_left (by rw [List.length_take]; omega), List.getElem?_take_of_lt hxe]
    exact g1
   ·have hxe : x.2 = e.2 := by omega
    have hne : cutS st d ≠ [] := by
     intro h0
     unfold d1Of at hm
     rw [h0, if_pos rfl, List.append_nil, List.length_take] at hm
     omega
    refine ⟨cutS st d, sco, scc, sn', ?_, hv2, hsn0, hsn1, hne, by unfold cutS; rw [List.length_take]; omega⟩
    unfold d1Of
    rw [if_neg hne, List.append_assoc, List.getElem?_append_right (by rw [List.length_take]; omega), hxe, List.length_take, Nat.min_eq_left (by omega), Nat.sub_self]
    rfl
  have fin : ∀ w (ty : TypeId), ty = (if d = 2 then ty_P_Strong else ty_P_Emph) → ∀ dq' dc' RS', DRow dq' dc' (dvs.take m ++ [ptrV ty xb]) rvs off sq sn sc SR RS' →
   Sat σ w ((b1, cel [.slice dq' (m + 1) dc'] ty_S_Inline) :: stkC b3 (S.map (STK.trim m)) :: (SM' ++ (emC e.1 (cutS st d) sco scc (e.2 : Nat) sn' se :: (D1 ++ (D3 ++ (emC pb (t.drop d) co cc pi n pe :: (xb, cel [.string (bs (t.take d)), .slice q n2 c2] ty_Emph) :: (M ++ (RS' ++ L)))))))) →
   Xb sq sn sc b1 b3 cl1 (cl2 b3 b1) x10 (some ⟨pb, 0, none⟩) (some ⟨b3, ix, none⟩) w := by
   intro w ty hty dq' dc' RS' hD' h
   subst hty
   refine hK w ⟨dq', dc', _, DM1 ++ ((xb, cel [.string (bs (t.take d)), .slice q n2 c2] ty_Emph) :: (M ++ D3)), SM', RS', hI4.append (InlsAt.one ?_), by rw [← hm]; exact hSt', by rw [List.length_map]; exact h5, by rw [← hm]; exact hSI', hD', ?_, ?_⟩
   ·unfold xOf
    split
    ·exact ⟨xb, _, q, n2, c2, vs2, M, D3, rfl, rfl, hSl, hI3⟩
    ·exact ⟨xb, _, q, n2, c2, vs2, M, D3, rfl, rfl, hSl, hI3⟩
   ·rw [List.length_append, ← hm]; simp; omega
   ·rw [List.length_append, hlen1]
    rw [← hm]
    have h : Sat σ w ((emC e.1 (cutS st d) sco scc (e.2 : Nat) sn' se :: D1) ++ (emC pb (t.drop d) co cc pi n pe :: stkC b3 (S.map (STK.trim m)) :: (b1, cel [.slice dq' (m + 1) dc'] ty_S_Inline) :: (SM' ++ (D3 ++ ((xb, cel [.string (bs (t.take d)), .slice q n2 c2] ty_Emph) :: (M ++ (RS' ++ L))))))) := h.re
    refine h.less G fun a => ?_
    have := hG a
    simp only [cnt_append, cnt_cons] at this ⊢
    simp only [List.length_singleton]
    omega
  have h : Sat σ w (RS ++ ((b1, cel [.slice dq m dc] ty_S_Inline) :: stkC b3 (S.map (STK.trim m)) :: (SM' ++ (emC e.1 (cutS st d) sco scc (e.2 : Nat) sn' se :: (D1 ++ (D3 ++ (emC pb (t.drop d) co cc pi n pe :: (xb, cel [.string (bs (t.take d)), .slice q n2 c2] ty_Emph) :: (M ++ L)))))))) := h.re
  have hb1 : w.cell? ⟨b1, 0, none⟩ = some (.slice dq m dc) := Sat.ld h (List.mem_append_right _ (.head _)) rfl
  rcases hd12 with rfl | rfl
  ·refine br_false rfl ⟨dq, m, dc, hb1, ?_⟩
   have := hD1.app (ty := ty_S_Inline) (t := ty_P_Emph) (b := xb) h (by omega) (by omega) (C := fun _ => True) (fun _ _ _ => trivial) (K := fun q' n' c' w' => stV w' ⟨b1, 0, none⟩ (.slice q' n' c') fun w => Xb sq sn sc b1 b3 cl1 (cl2 b3 b1) x10 (some ⟨pb, 0, none⟩) (some ⟨b3, ix, none⟩) w) (fun dq' dc' RS' w' hD' h => by
    have h : Sat σ w' ((b1, cel [.slice dq m dc] ty_S_Inline) :: stkC b3 (S.map (STK.trim m)) :: (SM' ++ (emC e.1 (cutS st 1) sco scc (e.2 : Nat) sn' se :: (D1 ++ (D3 ++ (emC pb (t.drop 1) co cc pi n pe :: (xb, cel [.string (bs (t.take 1)), .slice q n2 c2] ty_Emph) :: (M ++ (RS' ++ L)))))))) := h.re
    rw [hlen1]
    refine Sat.st h (k := 0) rfl (Nat.zero_lt_succ _) trivial rfl fun w h => ?_
    exact fin w ty_P_Emph rfl dq' dc' RS' hD' h)
   rw [hlen1] at this
   obtain ⟨a, b, c, w1, r1, _, r2⟩ := this
   exact ⟨a, b, c, w1, r1, r2⟩
  ·refine br_true rfl ⟨dq, m, dc, hb1, ?_⟩
   have := hD1.app (ty := ty_S_Inline) (t := ty_P_Strong) (b := xb) h (by omega) (by omega) (C := fun _ => True) (fun _ _ _ => trivial) (K := fun q' n' c' w' => stV w' ⟨b1, 0, none⟩ (.slice q' n' c') fun w => Xb sq sn sc b1 b3 cl1 (cl2 b3 b1) x10 (some ⟨pb, 0, none⟩) (some ⟨b3, ix, none⟩) w) (fun dq' dc' RS' w' hD' h => by
    have h : Sat σ w' ((b1, cel [.slice dq m dc] ty_S_Inline) :: stkC b3 (S.map (STK.trim m)) :: (SM' ++ (emC e.1 (cutS st 2) sco scc (e.2 : Nat) sn' se :: (D1 ++ (D3 ++ (emC pb (t.drop 2) co cc pi n pe :: (xb, cel [.string (bs (t.take 2)), .slice q n2 c2] ty_Emph) :: (M ++ (RS' ++ L)))))))) := h.re
    rw [hlen1]
    refine Sat.st h (k := 0) rfl (Nat.zero_lt_succ _) trivial rfl fun w h => ?_
    exact fin w ty_P_Strong rfl dq' dc' RS' hD' h)
   rw [hlen1] at this
   obtain ⟨a, b, c, w1, r1, _, r2⟩ := this
   exact ⟨a, b, c, w1, r1, r2⟩
 by_cases hcut : cutS st d = []
 ·refine br_true (by simpa using hcut) ?_
  refine h.tk fun w h => ?_
  refine nilP_some ⟨_, _, _, Sat.ld h (.tail _ (.tail _ (.head _))) rfl, _, Sat.ld h (.tail _ (.head _)) rfl, ?_⟩
  have hdle := hD.2.1
  refine ⟨_, _, _, fun w => sliceT rowInl.ht rowInl.hi _ _ _ e.2 (by omega) w, ?_⟩
  refine Sat.st h (k := 2) rfl (Nat.zero_lt_succ _) trivial rfl fun w h => ?_
  refine rest e.2 w ?_ (by omega) ⟨D1, ?_, [emC e.1 (cutS st d) sco scc (e.2 : Nat) sn' se], fun a => rfl⟩ h
  ·unfold d1Of; rw [if_pos hcut, List.append_nil, List.length_take]; omega
  ·unfold d1Of; rw [if_pos hcut, List.append_nil, htake]; exact hI1
 ·refine br_false (by simpa using hcut) ?_
  refine h.tk fun w h => ?_
  refine nilP_some ⟨_, _, _, Sat.ld h (.tail _ (.tail _ (.head _))) rfl, _, Sat.ld h (.tail _ (.head _)) rfl, ?_⟩
  have hdle := hD.2.1
  rw [e1]
  refine ⟨_, _, _, fun w => sliceT rowInl.ht rowInl.hi _ _ _ (e.2 + 1) (by omega) w, ?_⟩
  refine Sat.st h (k := 2) rfl (Nat.zero_lt_succ _) trivial rfl fun w h => ?_
  refine rest (e.2 + 1) w ?_ (by omega) ⟨D1 ++ [emC e.1 (cutS st d) sco scc (e.2 : Nat) sn' se], ?_, [], fun a => ?_⟩ h
  ·unfold d1Of; rw [if_neg hcut, List.length_append, List.length_take]; simp; omega
  ·unfold d1Of; rw [if_neg hcut, htake1]; exact hI1.append (InlsAt.one ⟨e.1, se, rfl, rfl⟩)
  ·simp only [cnt_append, cnt_cons, cnt_nil, List.nil_append]; omega
end Go.Proofs.YtgbgadkldalkbaaGreatDoor


set_option linter.unusedVariables false
namespace Go.Proofs.YtgbgadkldalkbaaGreatDoor
open Go.Proofs Go.IntWalk Go.RowKit
variable {σ : Out} {w : World} {L L' : List Chunk} {R : Ending → World → Prop}
theorem idxs_get {S : List STK} {ix : Nat} {s : STK} (hs : S[ix]? = some s) : (idxs S).getD ix [] = s.ent.map Prod.snd := by
 rw [List.getD_eq_getElem?_getD]
 simp [idxs, hs]
theorem find_none {p : Nat → Bool} {es : List (Nat × Nat)} (h : ∀ e ∈ es, p e.2 = false) : (es.map Prod.snd).reverse.find? p = none := by
 rw [List.find?_eq_none]
 intro x hx
 rw [List.mem_reverse] at hx
 obtain ⟨e, he, rfl⟩ := List.mem_map.1 hx
 simp [h e he]
theorem find_some {p : Nat → Bool} {es1 es2 : List (Nat × Nat)} {e : Nat × Nat} (h1 : p e.2 = true) (h2 : ∀ x ∈ es2, p x.2 = false) : ((es1 ++ e :: es2).map Prod.snd).reverse.find? p = some e.2 := by
 rw [List.map_append, List.reverse_append, List.map_cons, List.reverse_cons, List.append_assoc, List.find?_append, find_none h2]
 simp [h1]
def AllC (c : UInt8) (t : List UInt8) : Prop := ∀ x ∈ t, x = c
theorem AllC.head {c : UInt8} {t : List UInt8} (h : AllC c t) (ht : t ≠ []) : t.head? = some c := by
 cases t with
 | nil => exact absurd rfl ht
 | cons x t => rw [h x (by simp)]; rfl
theorem AllC.drop {c : UInt8} {t : List UInt8} (h : AllC c t) (d : Nat) : AllC c (t.drop d) := fun x hx => h x (List.mem_of_mem_drop hx)
theorem close_ok {Xa : XA} {Xb : XB} {b1 b3 pb ix off : Nat} {c : UInt8} {co cc : Bool} {pi n x10 : Int} {pe : TypeId} {rvs : List Value} {sq : Option Addr} {sn sc : Nat} {SR : List Chunk} (hix : ix < 5) (hc : isEm c) (hn : 0 ≤ n ∧ n ≤ 1000000000)
 (hXb : ∀ w, g_parseState_emph.bl2 R Xa Xb sq sn sc b1 b3 cl1 (cl2 b3 b1) x10 (some ⟨pb, 0, none⟩) (some ⟨b3, ix, none⟩) w → Xb sq sn sc b1 b3 cl1 (cl2 b3 b1) x10 (some ⟨pb, 0, none⟩) (some ⟨b3, ix, none⟩) w) :
 ∀ (f : Nat) (t : List UInt8) (dst : List Inl) (S : List STK) (w : World), t.length ≤ f → AllC c t → t.length < 1000000000 → EM σ b1 b3 pb t co cc pi n pe dst S rvs off sq sn sc SR L w → dst.length ≤ off →
  (∀ s, S[ix]? = some s → ∀ e ∈ s.ent, e.2 + 1 < dst.length) →
  (∀ t' dst' S' w, closeGo ix co cc n f t dst (idxs S) = (t', dst', idxs S') → AllC c t' → t'.length ≤ t.length → EM σ b1 b3 pb t' co cc pi n pe dst' S' rvs off sq sn sc SR L w → dst'.length ≤ off → dst'.length ≤ dst.length →
   (t' = t ∧ dst' = dst ∧ S' = S ∨ ∀ s ∈ S', ∀ e ∈ s.ent, e.2 + 1 < dst'.length) →
   g_parseState_emph.k1 R Xa sq sn sc b1 b3 cl1 (cl2 b3 b1) x10 (some ⟨pb, 0, none⟩) w) →
  Xb sq sn sc b1 b3 cl1 (cl2 b3 b1) x10 (some ⟨pb, 0, none⟩) (some ⟨b3, ix, none⟩) w := by
 intro f
 induction f with
 | zero =>
  intro t dst S w hf hall htl h hoff hlast hk1
  have ht : t = [] := List.eq_nil_of_length_eq_zero (by omega)
  subst ht
  refine hXb _ ?_
  have h0 := h
  obtain ⟨dq, dc, dvs, DM, SM, RS, _, _, _, _, _, _, h⟩ := h
  refine nilP_some ⟨_, Sat.ld h (.head _) rfl, br_false (by rw [bs_nil_eq]; rfl) ?_⟩
  exact hk1 [] dst S w rfl hall (Nat.le_refl _) h0 hoff (Nat.le_refl _) (.inl ⟨rfl, rfl, rfl⟩)
 | succ f ih =>
  intro t dst S w hf hall htl h hoff hlast hk1
  by_cases ht : t = []
  ·subst ht
   refine hXb _ ?_
   have h0 := h
   obtain ⟨dq, dc, dvs, DM, SM, RS, _, _, _, _, _, _, h⟩ := h
   refine nilP_some ⟨_, Sat.ld h (.head _) rfl, br_false (by rw [bs_nil_eq]; rfl) ?_⟩
   exact hk1 [] dst S w rfl hall (Nat.le_refl _) h0 hoff (Nat.le_refl _) (.inl ⟨rfl, rfl, rfl⟩)
  have htc := hall.head ht
  refine hXb _ ?_
  have h0 := h
  have h5 : S.length = 5 := by obtain ⟨_, _, _, _, _, _, _, _, h, _⟩ := h; exact h
  have hs : S[ix]? = some S[ix] := List.getElem?_eq_getElem (by omega)
  generalize S[ix] = s at hs
  obtain ⟨dq, dc, dvs, DM, SM, RS, _, _, _, hSI, _, _, hsat⟩ := h
  refine nilP_some ⟨_, Sat.ld hsat (.head _) rfl, br_true (by rw [bs_nil_eq]; simpa using ht) (nilP_some ?_)⟩
  have hsc : w.cell? ⟨b3, ix, none⟩ = some (.slice s.q s.n s.c) := by
   refine Sat.ld hsat (.tail _ (.head _)) ?_
   rw [List.getElem?_map, hs]; rfl
  refine ⟨_, _, _, hsc, ?_⟩
  intro Xc hXc
  refine search_ok h0 htc hc hn hs (fun x16 w hh => hXc _ _ _ _ _ _ _ _ _ _ _ _ hh) (fun hno w h => ?_) (fun es1 e es2 st sco scc sn' hes hgood hno hd w h => ?_)
  ·refine hk1 t dst S w ?_ hall (Nat.le_refl _) h hoff (Nat.le_refl _) (.inl ⟨rfl, rfl, rfl⟩)
   rw [closeGo, if_neg ht, idxs_get hs, find_none hno]
  ·have hse : e ∈ s.ent := by rw [hes]; simp
   have hin := hlast s hs e hse
   refine step_ok h htc hc hs hse hd hin hoff htl fun w h => ?_
   have hd1len : (d1Of dst e.2 (cutS st (dOf t st)) sco scc (e.2 : Nat) sn').length ≤ e.2 + 1 := by
    unfold d1Of
    rw [List.length_append, List.length_take]
    split <;> simp <;> omega
   have hdpos : 0 < dOf t st := by unfold dOf; split <;> omega
   have htp := List.length_pos_iff.2 ht
   have hent : ∀ s' ∈ S.map (STK.trim (d1Of dst e.2 (cutS st (dOf t st)) sco scc (e.2 : Nat) sn').length), ∀ x ∈ s'.ent, x.2 + 1 < (d1Of dst e.2 (cutS st (dOf t st)) sco scc (e.2 : Nat) sn' ++ [xOf t (dOf t st) (dst.drop (e.2 + 1))]).length := by
    intro s' hs' x hx
    obtain ⟨s0, hs0, rfl⟩ := List.mem_map.1 hs'
    have := trimE_lt (hSI s0 hs0).2.1 x hx
    rw [List.length_append]; simp; omega
   refine ih (t.drop (dOf t st)) _ _ w (by rw [List.length_drop]; omega) (hall.drop _) (by rw [List.length_drop]; omega) h (by rw [List.length_append]; simp; omega) (fun s' hs' => hent s' (List.mem_of_getElem? hs')) ?_
   intro t' dst' S' w hgo hall' htl' h hoff' hdl' hlast'
   refine hk1 t' dst' S' w ?_ hall' (by rw [List.length_drop] at htl'; omega) h hoff' (by rw [List.length_append] at hdl'; simp at hdl'; omega) (.inr ?_)
   ·rw [closeGo, if_neg ht, idxs_get hs, hes, find_some hgood hno]
    simp only [hd]
    rw [idxs_trim] at hgo
    exact hgo
   ·rcases hlast' with ⟨_, rfl, rfl⟩ | hl
    ·exact hent
    ·exact hl
end Go.Proofs.YtgbgadkldalkbaaGreatDoor


set_option linter.unusedVariables false
namespace Go.Proofs.YtgbgadkldalkbaaGreatDoor
open Go.Proofs Go.IntWalk Go.RowKit
variable {σ : Out} {w : World} {L L' : List Chunk} {R : Ending → World → Prop}
def headOf : Inl → Option UInt8
 | .emphP s _ _ _ _ => s.head?
 | _ => none
def wfE (ts : List Inl) : Prop := ∀ s co cc i n, Inl.emphP s co cc i n ∈ ts → s ≠ [] ∧ (∃ c, isEm c ∧ AllC c s) ∧ s.length < 1000000000 ∧ 0 ≤ n ∧ n ≤ 1000000000
def apartE : Option UInt8 → List Inl → Prop
 | _, [] => True
 | h, t :: ts => (h = none ∨ headOf t ≠ h) ∧ apartE (headOf t) ts
theorem em1_ok {c : UInt8} (hc : isEm c) (hR : R (.returned (.int .i64 (ixOf c : Nat))) w) : callE P i_parseState_emph_1 #[.int .u8 (c.toNat : Int)] R w := by
 refine g_parseState_emph_1.sound ?_
 refine indexByte2_ok (l := [95, 42, 126, 34, 39]) ⟨_, rfl, ?_⟩
 rcases hc with rfl | rfl
 ·exact hR
 ·exact hR
theorem stk_app {b3 m pb ix : Nat} {S : List STK} {s : STK} {SM : List Chunk} (h5 : S.length = 5) (hs : S[ix]? = some s) (hS : StksAt S SM) (hsm : s.ent.length < 999999999) (h : Sat σ w (stkC b3 S :: (SM ++ L)))
 {K : World → Prop} (hK : ∀ w s' SM', s'.ent = s.ent ++ [(pb, m)] → StksAt (S.set ix s') SM' → Sat σ w (stkC b3 (S.set ix s') :: (SM' ++ L)) → K w) :
 nilP (some (⟨b3, ix, none⟩ : Addr)) fun a158 => ∃ (v159q : Option Addr), ∃ (v159n : Nat), ∃ (v159c : Nat), w.cell? a158 = some (.slice v159q v159n v159c) ∧
  ∃ (r160q : Option Addr), ∃ (r160n : Nat), ∃ (r160c : Nat), ∃ w161, (Instr.buildSlice ty_S_P_emphPlain 1 #[(0, .pointer (some ⟨pb, 0, none⟩))]).run P w = .ok (.slice r160q r160n r160c) w161 ∧
  ∃ (r162q : Option Addr), ∃ (r162n : Nat), ∃ (r162c : Nat), ∃ w163, (Builtin.append_ #[ty_S_P_emphPlain, ty_S_P_emphPlain] ty_S_P_emphPlain #[.slice v159q v159n v159c, .slice r160q r160n r160c]).run P w161 = .ok (.slice r162q r162n r162c) w163 ∧
  nilP (some (⟨b3, ix, none⟩ : Addr)) fun a164 => stV w163 (a164.add 0) (.slice r162q r162n r162c) fun w165 => K w165 := by
 have hixl := (List.getElem?_eq_some_iff.1 hs).1
 have hsplit : S = S.take ix ++ s :: S.drop (ix + 1) := by
  have hg : S[ix] = s := (List.getElem?_eq_some_iff.1 hs).2
  rw [← hg, ← List.drop_eq_getElem_cons hixl, List.take_append_drop]
 have hset : ∀ s' : STK, S.set ix s' = S.take ix ++ s' :: S.drop (ix + 1) := by
  intro s'; rw [List.set_eq_take_append_cons_drop, if_pos hixl]
 have hal : (S.take ix).length = ix := by rw [List.length_take]; omega
 rw [hsplit] at hS h
 obtain ⟨M1, M2, M3, rfl, h1, h2, h3⟩ := hS.split
 have hn := h2.1
 simp at hn
 refine nilP_some ⟨_, _, _, stk_cell h hal.symm, ?_⟩
 have h : Sat σ w (M2 ++ (stkC b3 (S.take ix ++ s :: S.drop (ix + 1)) :: (M1 ++ (M3 ++ L)))) := h.re
 refine Sat.app1 rowEP h2 h (v := .pointer (some ⟨pb, 0, none⟩)) rfl (by simp [Value.cells, Value.oneCell']) (by kernel_rfl) (by omega) (by omega) (by decide) fun q' c' w' M' hS' h => ?_
 have h : Sat σ w' (stkC b3 (S.take ix ++ s :: S.drop (ix + 1)) :: (M1 ++ (M' ++ (M3 ++ L)))) := h.re
 refine nilP_some ?_
 simp only [Addr.add_lit, Nat.add_zero]
 refine stk_store (s' := ⟨q', s.n + 1, c', s.ent ++ [(pb, m)]⟩) h hal.symm fun w h => ?_
 refine hK w ⟨q', s.n + 1, c', s.ent ++ [(pb, m)]⟩ (M1 ++ (M' ++ M3)) rfl ?_ ?_
 ·rw [hset]; exact h1.join (by unfold STK.ok; rw [List.map_append]; exact hS') h3
 ·rw [hset]; exact h.re
def EM0 (σ : Out) (b1 b3 : Nat) (dst rts : List Inl) (S : List STK) (off : Nat) (sq : Option Addr) (sn sc : Nat) (SR : List Chunk) (L : List Chunk) (w : World) : Prop :=
 ∃ dq dc dvs rvs DM SM RS RM, InlsAt dst dvs DM ∧ StksAt S SM ∧ S.length = 5 ∧ StkIn dst dvs S ∧ DRow dq dc dvs rvs off sq sn sc SR RS ∧ dst.length < 999999998 ∧ InlsAt rts rvs RM ∧
  Sat σ w (stkC b3 S :: (b1, cel [.slice dq dvs.length dc] ty_S_Inline) :: (SM ++ (DM ++ (RS ++ (RM ++ L)))))
def Late (c : UInt8) (dst : List Inl) (S : List STK) : Prop := ∀ s, S[ixOf c]? = some s → ∀ e ∈ s.ent, e.2 + 1 < dst.length
theorem StkIn.lt {dst : List Inl} {dvs : List Value} {S : List STK} (h : StkIn dst dvs S) : ∀ s ∈ S, ∀ e ∈ s.ent, e.2 < dst.length := by
 intro s hs e he
 obtain ⟨t, co, cc, n, h1, _⟩ := (h s hs).2.2 e he
 exact (List.getElem?_eq_some_iff.1 h1).1
theorem StkIn.grow {dst x : List Inl} {dvs y : List Value} {S : List STK} (h : StkIn dst dvs S) : StkIn (dst ++ x) (dvs ++ y) S := by
 intro s hs
 obtain ⟨a, b, c⟩ := h s hs
 refine ⟨a, b, fun e he => ?_⟩
 obtain ⟨t, co, cc, n, h1, h2, h3⟩ := c e he
 exact ⟨t, co, cc, n, by rw [List.getElem?_append_left (List.getElem?_eq_some_iff.1 h1).1]; exact h1, by rw [List.getElem?_append_left (List.getElem?_eq_some_iff.1 h2).1]; exact h2, h3⟩
end Go.Proofs.YtgbgadkldalkbaaGreatDoor


set_option linter.unusedVariables false
namespace Go.Proofs.YtgbgadkldalkbaaGreatDoor
open Go.Proofs Go.IntWalk Go.RowKit
variable {σ : Out} {w : World} {L L' : List Chunk} {R : Ending → World → Prop}
theorem app_step {b1 b3 off b : Nat} {t : TypeId} {dq sq : Option Addr} {dc sn sc : Nat} {dvs rvs : List Value} {S : List STK} {SM DM SR RS : List Chunk} (hD : DRow dq dc dvs rvs (off + 1) sq sn sc SR RS) (hlen : dvs.length ≤ off) (hn : dvs.length < 1000000000)
 (h : Sat σ w (stkC b3 S :: (b1, cel [.slice dq dvs.length dc] ty_S_Inline) :: (SM ++ (DM ++ (RS ++ L))))) {C : World → Prop} (hC : ∀ w1 X, Sat σ w1 (X :: (stkC b3 S :: (b1, cel [.slice dq dvs.length dc] ty_S_Inline) :: (SM ++ (DM ++ (RS ++ L))))) → C w1) {K : World → Prop}
 (hK : ∀ w dq' dc' RS', DRow dq' dc' (dvs ++ [ptrV t b]) rvs (off + 1) sq sn sc SR RS' → Sat σ w (stkC b3 S :: (b1, cel [.slice dq' (dvs.length + 1) dc'] ty_S_Inline) :: (SM ++ (DM ++ (RS' ++ L)))) → K w) :
 ∃ rq rn rc w1, (Instr.buildSlice ty_S_Inline 1 #[(0, ptrV t b)]).run P w = .ok (.slice rq rn rc) w1 ∧ C w1 ∧
  ∃ q' n' c' w2, (Builtin.append_ #[ty_S_Inline, ty_S_Inline] ty_S_Inline #[.slice dq dvs.length dc, .slice rq rn rc]).run P w1 = .ok (.slice q' n' c') w2 ∧ stV w2 ⟨b1, 0, none⟩ (.slice q' n' c') K := by
 have hr : Sat σ w (RS ++ (stkC b3 S :: (b1, cel [.slice dq dvs.length dc] ty_S_Inline) :: (SM ++ (DM ++ L)))) := h.re
 refine hD.app (ty := ty_S_Inline) hr (by omega) hn (C := C) (fun w1 X hw => hC w1 X (hw.re)) (K := fun q' n' c' w2 => stV w2 ⟨b1, 0, none⟩ (.slice q' n' c') K) fun dq' dc' RS' w' hD' h => ?_
 have h : Sat σ w' (stkC b3 S :: (b1, cel [.slice dq dvs.length dc] ty_S_Inline) :: (SM ++ (DM ++ (RS' ++ L)))) := h.re
 refine Sat.st h (k := 1) rfl (Nat.zero_lt_succ _) trivial rfl fun w h => ?_
 exact hK w dq' dc' RS' hD' h
theorem nilP_of {q : Option Addr} {a : Addr} {K : Addr → Prop} (h : q = some a) (hK : K a) : nilP q K := by subst h; exact hK
theorem noC {A : Option Addr → Nat → Nat → World → Prop} {B : Option Addr → Nat → Nat → World → Prop} (h : ∃ rq rn rc w1, A rq rn rc w1 ∧ True ∧ B rq rn rc w1) : ∃ rq rn rc w1, A rq rn rc w1 ∧ B rq rn rc w1 := by
 obtain ⟨a, b, c, d, h1, _, h2⟩ := h
 exact ⟨a, b, c, d, h1, h2⟩
theorem emph_loop {Xa : XA} {b1 b3 : Nat} {sq : Option Addr} {sn sc : Nat} {SR : List Chunk} (hXa : ∀ x10 w, g_parseState_emph.bl1 R Xa sq sn sc b1 b3 cl1 (cl2 b3 b1) x10 w → Xa sq sn sc b1 b3 cl1 (cl2 b3 b1) x10 w) (hsn : sn < 999999990) (final : List Inl)
 (hR : ∀ w dq dc dvs DM RS, InlsAt final dvs DM → DRow dq dc dvs [] sn sq sn sc SR RS → dvs.length ≤ sn → Sat σ w (DM ++ (RS ++ L)) → R (.returned (.slice dq dvs.length dc)) w) :
 ∀ (rts dst : List Inl) (S : List STK) (off : Nat) (hd : Option UInt8) (w : World), EM0 σ b1 b3 dst rts S off sq sn sc SR L w → off + rts.length = sn → dst.length ≤ off → wfE rts → apartE hd rts → (∀ c, isEm c → hd ≠ some c → Late c dst S) →
  emphGo dst (idxs S) rts = final → Xa sq sn sc b1 b3 cl1 (cl2 b3 b1) (off : Int) w := by
 intro rts
 induction rts with
 | nil =>
  intro dst S off hd w h hoff hle hwf hap hlate hfin
  obtain ⟨dq, dc, dvs, rvs, DM, SM, RS, RM, hI, hSt, h5, hSI, hD, hdl, hrt, h⟩ := h
  obtain ⟨rfl, rfl⟩ := hrt
  have hvl := hI.length
  simp at hoff
  subst hoff
  refine hXa _ _ (br_false (by simp) ?_)
  refine ⟨_, _, _, Sat.ld h (.tail _ (.head _)) rfl, ?_⟩
  simp only [emphGo] at hfin
  simp only [List.nil_append] at h
  refine hR w dq dc dvs DM RS (by rw [← hfin]; exact hI) hD (by omega) ?_
  exact h.less (stkC b3 S :: (b1, cel [.slice dq dvs.length dc] ty_S_Inline) :: SM)
 | cons t rts ih =>
  intro dst S off hd w h hoff hle hwf hap hlate hfin
  obtain ⟨dq, dc, dvs, rvs, DM, SM, RS, RM, hI, hSt, h5, hSI, hD, hdl, hrt, h⟩ := h
  obtain ⟨v, rvs', M1, M2, rfl, rfl, hv, hrest⟩ := hrt
  have hvl := hI.length
  simp at hoff
  have hread : ∀ w, Sat σ w (stkC b3 S :: (b1, cel [.slice dq dvs.length dc] ty_S_Inline) :: (SM ++ (DM ++ (RS ++ ((M1 ++ M2) ++ L))))) → ∃ rb so, sq = some ⟨rb, so, none⟩ ∧ w.cell? ⟨rb, so + off, none⟩ = some v := by
   intro w h
   have h : Sat σ w (RS ++ (stkC b3 S :: (b1, cel [.slice dq dvs.length dc] ty_S_Inline) :: (SM ++ (DM ++ ((M1 ++ M2) ++ L))))) := h.re
   exact hD.read h
  have hDc := hD.consume
  have hwf' : wfE rts := fun s co cc i n hm => hwf s co cc i n (.tail _ hm)
  have e1 : IntKind.i64.wrap ((off : Int) + 1) = ((off + 1 : Nat) : Int) := i64_inc (by omega)
  have hlt := hSI.lt
  have next : ∀ w (t' : Inl) (ty : TypeId) (b : Nat) (M1' : List Chunk), InlAt t' (ptrV ty b) M1' → emphGo (dst ++ [t']) (idxs S) rts = final → ∀ dq' dc' RS', DRow dq' dc' (dvs ++ [ptrV ty b]) rvs' (off + 1) sq sn sc SR RS' →
   Sat σ w (stkC b3 S :: (b1, cel [.slice dq' (dvs.length + 1) dc'] ty_S_Inline) :: (SM ++ (DM ++ (RS' ++ (M1' ++ (M2 ++ L)))))) → Xa sq sn sc b1 b3 cl1 (cl2 b3 b1) ((off + 1 : Nat) : Int) w := by
   intro w t' ty b M1' hI1 hgo dq' dc' RS' hD' h
   refine ih (dst ++ [t']) S (off + 1) (headOf t) w ⟨dq', dc', _, rvs', DM ++ M1', SM, RS', M2, hI.append (InlsAt.one hI1), hSt, h5, hSI.grow, hD', by simp; omega, hrest, ?_⟩ (by omega) (by simp; omega) hwf' hap.2 ?_ hgo
   ·rw [List.length_append, List.length_singleton]; exact h.re
   ·intro c _ _ s hs e he
    have := hlt s (List.mem_of_getElem? hs) e he
    simp; omega
  obtain ⟨pb, cs, ce, M1', rfl, hM1⟩ := hv.ptr
  refine hXa _ _ (br_true (by simp; omega) ⟨by omega, by omega, ?_⟩)
  obtain ⟨rb, so, hsq, hcell⟩ := hread w h
  refine nilP_of hsq ?_
  simp only [Addr.add_lit, Int.toNat_natCast, Nat.mul_one]
  refine ⟨_, hcell, ?_⟩
  by_cases hto : t.ty = ty_P_openPlain
  ·-- an open bracket becomes plain
   obtain ⟨s, i, rfl⟩ : ∃ s i, t = .openP s i := by
    cases t <;> simp only [Inl.ty] at hto <;> first | exact ⟨_, _, rfl⟩ | exact absurd hto (by decide)
   have hta : (Instr.typeAssert (ptrV (Inl.openP s i).ty pb) ty_Inline ty_P_openPlain true).run P w = .ok (.tuple #[.pointer (some ⟨pb, 0, none⟩), .bool true]) w := ta_open_yes w
   refine ⟨_, _, w, hta, br_true rfl ?_⟩
   refine h.tk fun w h => ?_
   refine nilP_some ⟨_, _, _, Sat.ld h (.tail _ (.head _)) rfl, ?_⟩
   have h0 := h
   refine app_step hDc (by omega) (by omega) h (C := fun w1 => SameC _ w1 _ 1) (fun w1 X hw => h0.same hw (.tail _ (.head _)) (.tail _ (.tail _ (.head _))) 1) fun w dq' dc' RS' hD' h => ?_
   rw [e1]
   refine next w (.plain s) ty_P_Plain pb M1 ?_ (by rw [← hfin, emphGo]) dq' dc' RS' hD' (h.re)
   obtain ⟨b', e', hb', rfl⟩ := hv
   have := ptrV_inj hb'
   subst this
   exact ⟨pb, _, _, rfl, rfl⟩
  ·refine ⟨_, _, w, ta_open_no hto w, br_false rfl ⟨by omega, by omega, ?_⟩⟩
   refine nilP_of hsq ?_
   simp only [Addr.add_lit, Int.toNat_natCast, Nat.mul_one]
   refine ⟨_, hcell, ?_⟩
   by_cases hte : t.ty = ty_P_emphPlain
   ·-- a run of delimiters
    obtain ⟨s, co, cc, i, n, rfl⟩ : ∃ s co cc i n, t = .emphP s co cc i n := by
     cases t <;> simp only [Inl.ty] at hte <;> first | exact ⟨_, _, _, _, _, rfl⟩ | exact absurd hte (by decide)
    obtain ⟨b', pe, hb', rfl⟩ := hv
    have := ptrV_inj hb'
    subst this
    obtain ⟨hs0, ⟨c, hc, hall⟩, hsl, hn0, hn1⟩ := hwf s co cc i n (.head _)
    have htc := hall.head hs0
    have hhd : headOf (.emphP s co cc i n) = some c := htc
    have hhd' : hd ≠ some c := by
     rcases hap.1 with h | h
     ·rw [h]; simp
     ·rw [hhd] at h; exact fun hh => h hh.symm
    have hix : ixOf (s.headD 0) = ixOf c := by rw [List.headD_eq_head?_getD, htc]; rfl
    have hix5 : ixOf c < 5 := by rcases hc with rfl | rfl <;> decide
    have hEM : ∀ w, Sat σ w (stkC b3 S :: (b1, cel [.slice dq dvs.length dc] ty_S_Inline) :: (SM ++ (DM ++ (RS ++ (([emC pb s co cc i n pe] ++ M2) ++ L))))) → EM σ b1 b3 pb s co cc i n pe dst S rvs' (off + 1) sq sn sc SR (M2 ++ L) w := fun w h =>
     ⟨dq, dc, dvs, DM, SM, RS, hI, hSt, h5, hSI, hDc, by omega, h.re⟩
    have hta : (Instr.typeAssert (ptrV (Inl.emphP s co cc i n).ty pb) ty_Inline ty_P_emphPlain true).run P w = .ok (.tuple #[.pointer (some ⟨pb, 0, none⟩), .bool true]) w := ta_emph_yes w
    refine ⟨_, _, w, hta, br_false rfl (nilP_some ?_)⟩
    have fin : ∀ (t' : List UInt8) (dst' : List Inl) (S' : List STK) w, AllC c t' → t'.length ≤ s.length → EM σ b1 b3 pb t' co cc i n pe dst' S' rvs' (off + 1) sq sn sc SR (M2 ++ L) w → dst'.length ≤ off →
     (t' = [] → ∀ s ∈ S', ∀ e ∈ s.ent, e.2 + 1 < dst'.length) →
     (if t' = [] then emphGo dst' (idxs S') rts else if co then emphGo (dst' ++ [.emphP t' co cc dst'.length n]) ((idxs S').set (ixOf c) ((idxs S').getD (ixOf c) [] ++ [dst'.length])) rts else emphGo (dst' ++ [.plain t']) (idxs S') rts) = final →
     g_parseState_emph.k1 R Xa sq sn sc b1 b3 cl1 (cl2 b3 b1) off (some ⟨pb, 0, none⟩) w := by
     intro t' dst' S' w hall' htl' h hd' hnil hgo
     obtain ⟨dq, dc, dvs, DM, SM, RS, hI, hSt, h5, hSI, hDc, hdl, h⟩ := h
     have hvl := hI.length
     have hlt := hSI.lt
     refine nilP_some ⟨_, Sat.ld h (.head _) rfl, ?_⟩
     rw [bs_nil_eq]
     by_cases ht' : t' = []
     ·subst ht'
      rw [if_pos rfl] at hgo
      refine br_false (by simp) ?_
      rw [e1]
      refine ih dst' S' (off + 1) (some c) w ⟨dq, dc, dvs, rvs', DM, SM, RS, M2, hI, hSt, h5, hSI, hDc, by omega, hrest, ?_⟩ (by omega) (by omega) hwf' (by have := hap.2; rw [hhd] at this; exact this) ?_ hgo
      ·exact (h.tail).re
      ·intro c' _ _ s' hs' e he
       exact hnil rfl s' (List.mem_of_getElem? hs') e he
     ·rw [if_neg ht'] at hgo
      refine br_true (by simpa using ht') (nilP_some ⟨_, Sat.ld h (.head _) rfl, by omega, head_pos (hall'.head ht'), ?_⟩)
      rw [bt0 (hall'.head ht')]
      refine enter_fn ?_
      refine em1_ok hc ⟨_, rfl, by omega, by omega, nilP_some ⟨_, Sat.ld h (.head _) rfl, ?_⟩⟩
      have hno : ∀ (d : UInt8), c ≠ d → ((bs t').toList == (ByteArray.mk #[d]).toList) = false := by
       intro d hd
       rw [bs_toList, mk_toList, beq_eq_false_iff_ne]
       intro h0
       have : t' = [d] := h0
       subst this
       exact hd (hall' d (by simp)).symm
      refine br_false (hno 39 (by rcases hc with rfl | rfl <;> decide)) ?_
      refine nilP_some ⟨_, Sat.ld h (.head _) rfl, br_false (hno 34 (by rcases hc with rfl | rfl <;> decide)) ?_⟩
      simp only [Addr.add_lit, Int.toNat_natCast, Nat.mul_one, Nat.zero_add]
      refine nilP_some ⟨co, Sat.ld h (.head _) rfl, ?_⟩
      cases hco : co with
      | true =>
       rw [hco] at h hgo
       rw [if_pos rfl] at hgo
       refine br_true rfl ⟨_, _, _, Sat.ld h (.tail _ (.tail _ (.head _))) rfl, nilP_some ?_⟩
       refine Sat.st h (k := 0) rfl (Nat.le_of_ble_eq_true rfl) trivial rfl fun w h => ?_
       have h : Sat σ w (emC pb t' true cc (dvs.length : Nat) n pe :: stkC b3 S' :: (b1, cel [.slice dq dvs.length dc] ty_S_Inline) :: (SM ++ (DM ++ (RS ++ (M2 ++ L))))) := h
       refine ⟨_, _, _, Sat.ld h (.tail _ (.tail _ (.head _))) rfl, ?_⟩
       have h : Sat σ w (stkC b3 S' :: (b1, cel [.slice dq dvs.length dc] ty_S_Inline) :: (SM ++ (DM ++ (RS ++ (emC pb t' true cc (dvs.length : Nat) n pe :: (M2 ++ L)))))) := h.re
       refine noC (app_step (t := ty_P_emphPlain) (b := pb) hDc (by omega) (by omega) h (C := fun _ => True) (fun _ _ _ => trivial) fun w dq' dc' RS' hD' h => ?_)
       have hsx : S'[ixOf c]? = some S'[ixOf c] := List.getElem?_eq_getElem (by omega)
       generalize S'[ixOf c] = sx at hsx
       have hSIx := hSI sx (List.mem_of_getElem? hsx)
       have h : Sat σ w (stkC b3 S' :: (SM ++ ((b1, cel [.slice dq' (dvs.length + 1) dc'] ty_S_Inline) :: (DM ++ (RS' ++ (emC pb t' true cc (dvs.length : Nat) n pe :: (M2 ++ L))))))) := h.re
       have hentl : sx.ent.length < 999999999 := by
        have : ∀ (es : List (Nat × Nat)) (k : Nat), es.Pairwise (fun a b => a.2 < b.2) → (∀ e ∈ es, k ≤ e.2 ∧ e.2 < dst'.length) → k ≤ dst'.length → k + es.length ≤ dst'.length := by
         intro es
         induction es with
         | nil => intro k _ _ hk; simpa using hk
         | cons e es ihe =>
          intro k hp hb hk
          rw [List.pairwise_cons] at hp
          have h1 := hb e (.head _)
          have := ihe (e.2 + 1) hp.2 (fun x hx => ⟨hp.1 x hx, (hb x (.tail _ hx)).2⟩) (by omega)
          simp; omega
        have := this sx.ent 0 hSIx.2.1 (fun e he => ⟨Nat.zero_le _, hlt sx (List.mem_of_getElem? hsx) e he⟩) (Nat.zero_le _)
        omega
       refine stk_app (m := dvs.length) (pb := pb) h5 hsx hSt hentl h fun w s' SM' hs' hSt' h => ?_
       rw [e1]
       have hidx : (idxs S').set (ixOf c) ((idxs S').getD (ixOf c) [] ++ [dst'.length]) = idxs (S'.set (ixOf c) s') := by
        rw [idxs_get hsx, idxs, idxs, List.map_set, hs', List.map_append, hvl]; rfl
       rw [hidx] at hgo
       refine ih _ (S'.set (ixOf c) s') (off + 1) (some c) w ⟨dq', dc', dvs ++ [ptrV ty_P_emphPlain pb], rvs', DM ++ [emC pb t' true cc (dvs.length : Nat) n pe], SM', RS', M2, hI.append (InlsAt.one (t := .emphP t' true cc (dvs.length : Nat) n) ⟨pb, pe, rfl, rfl⟩), hSt', by rw [List.length_set]; exact h5, ?_, hD', by simp; omega, hrest, ?_⟩ (by omega) (by simp; omega) hwf' (by have := hap.2; rw [hhd] at this; exact this) ?_ (by rw [← hgo, hvl])
       ·intro s2 hs2
        rcases List.mem_or_eq_of_mem_set hs2 with hs2 | hs2
        ·exact hSI.grow s2 hs2
        ·subst hs2
         rw [hs']
         refine ⟨by simp; omega, ?_, ?_⟩
         ·rw [List.pairwise_append]
          refine ⟨hSIx.2.1, by simp, fun a ha b hb => ?_⟩
          simp at hb; subst hb
          have := hlt sx (List.mem_of_getElem? hsx) a ha
          show a.2 < dvs.length
          omega
         ·intro e he
          rcases List.mem_append.1 he with he | he
          ·obtain ⟨g1, g2, g3, g4, g5, g6, g7⟩ := hSIx.2.2 e he
           exact ⟨g1, g2, g3, g4, by rw [List.getElem?_append_left (List.getElem?_eq_some_iff.1 g5).1]; exact g5, by rw [List.getElem?_append_left (List.getElem?_eq_some_iff.1 g6).1]; exact g6, g7⟩
          ·simp at he; subst he
           exact ⟨t', true, cc, n, by show (dst' ++ _)[dvs.length]? = _; rw [hvl, List.getElem?_append_right (Nat.le_refl _)]; simp, by show (dvs ++ _)[dvs.length]? = _; simp, hn0, hn1, ht', by omega⟩
       ·rw [List.length_append, List.length_singleton]; exact h.re
       ·intro c' hc' hne s2 hs2 e he
        have hne2 : ixOf c' ≠ ixOf c := by
         intro h0
         apply hne
         rcases hc with rfl | rfl <;> rcases hc' with rfl | rfl <;> first | rfl | exact absurd h0 (by decide)
        rw [List.getElem?_set_ne (fun h => hne2 h.symm)] at hs2
        have := hlt s2 (List.mem_of_getElem? hs2) e he
        simp; omega
      | false =>
       rw [hco] at h hgo
       rw [if_neg (by simp)] at hgo
       refine br_false rfl ?_
       refine h.tk fun w h => ?_
       refine nilP_some ⟨_, _, _, Sat.ld h (.tail _ (.tail _ (.head _))) rfl, ?_⟩
       have h : Sat σ w (stkC b3 S' :: (b1, cel [.slice dq dvs.length dc] ty_S_Inline) :: (SM ++ (DM ++ (RS ++ (emC pb t' false cc i n pe :: (M2 ++ L)))))) := h.re
       have h0 := h
       refine app_step (t := ty_P_Plain) (b := pb) hDc (by omega) (by omega) h (C := fun w1 => SameC _ w1 _ 1) (fun w1 X hw => h0.same hw (.tail _ (.head _)) (.tail _ (.tail _ (.head _))) 1) fun w dq' dc' RS' hD' h => ?_
       rw [e1]
       refine ih (dst' ++ [.plain t']) S' (off + 1) (some c) w ⟨dq', dc', dvs ++ [ptrV ty_P_Plain pb], rvs', DM ++ [emC pb t' false cc i n pe], SM, RS', M2, hI.append (InlsAt.one (t := .plain t') ⟨pb, _, pe, rfl, rfl⟩), hSt, h5, hSI.grow, hD', by simp; omega, hrest, ?_⟩ (by omega) (by simp; omega) hwf' (by have := hap.2; rw [hhd] at this; exact this) ?_ hgo
       ·rw [List.length_append, List.length_singleton]; exact h.re
       ·intro c' hc' hne s2 hs2 e he
        have := hlt s2 (List.mem_of_getElem? hs2) e he
        simp; omega
    refine ⟨cc, Sat.ld h (.tail _ (.tail _ (List.mem_append_right _ (List.mem_append_right _ (List.mem_append_right _ (.head _)))))) rfl, ?_⟩
    have hfin' : (let r := if cc then closeGo (ixOf c) co cc n s.length s dst (idxs S) else (s, dst, idxs S)
     if r.1 = [] then emphGo r.2.1 r.2.2 rts else if co then emphGo (r.2.1 ++ [.emphP r.1 co cc r.2.1.length n]) (r.2.2.set (ixOf c) (r.2.2.getD (ixOf c) [] ++ [r.2.1.length])) rts else emphGo (r.2.1 ++ [.plain r.1]) r.2.2 rts) = final := by
     rw [← hfin, emphGo, hix]
    cases hcc : cc with
    | false =>
     rw [hcc] at hfin' hEM fin
     refine br_false rfl (fin s dst S w hall (Nat.le_refl _) (hEM w (by rw [hcc] at h; exact h)) hle (fun h => absurd h hs0) ?_)
     simpa using hfin'
    | true =>
     rw [hcc] at hfin' hEM fin h
     refine br_true rfl (nilP_some ⟨_, Sat.ld h (.tail _ (.tail _ (List.mem_append_right _ (List.mem_append_right _ (List.mem_append_right _ (.head _)))))) rfl, by omega, head_pos htc, ?_⟩)
     rw [bt0 htc]
     refine enter_fn ?_
     refine em1_ok hc ⟨_, rfl, by omega, by omega, ?_⟩
     simp only [Addr.add_lit, Int.toNat_natCast, Nat.mul_one, Nat.zero_add]
     intro Xb hXb
     refine close_ok hix5 hc ⟨hn0, hn1⟩ (fun w hh => hXb _ _ _ _ _ _ _ _ _ _ _ hh) s.length s dst S w (Nat.le_refl _) hall hsl (hEM w h) (by omega) (hlate c hc hhd') ?_
     intro t' dst' S' w hgo hall' htl' h hoff' hdl' hl
     refine fin t' dst' S' w hall' htl' h (by omega) ?_ ?_
     ·intro ht'
      rcases hl with ⟨hl, _⟩ | hl
      ·rw [ht'] at hl; exact absurd hl.symm hs0
      ·exact hl
     ·simp only [if_true, hgo] at hfin'
      exact hfin'
   ·-- anything else
    refine ⟨_, _, w, ta_emph_no hte w, br_true rfl ?_⟩
    refine tk_gen (A := fun w => Sat σ w (stkC b3 S :: (b1, cel [.slice dq dvs.length dc] ty_S_Inline) :: (SM ++ (DM ++ (RS ++ ((M1 ++ M2) ++ L)))))) h.tick fun w h => ?_
    refine ⟨by omega, by omega, nilP_of hsq ?_⟩
    refine ⟨_, _, _, Sat.ld h (.tail _ (.head _)) rfl, ?_⟩
    simp only [Addr.add_lit, Int.toNat_natCast, Nat.mul_one]
    obtain ⟨rb2, so2, hsq2, hcell2⟩ := hread w h
    rw [hsq] at hsq2
    simp only [Option.some.injEq, Addr.mk.injEq, and_true] at hsq2
    obtain ⟨rfl, rfl⟩ := hsq2
    refine ⟨_, hcell2, ?_⟩
    have h0 := h
    refine app_step hDc (by omega) (by omega) h (C := fun w1 => SameC _ w1 _ 1) (fun w1 X hw => h0.same hw (.tail _ (.head _)) (.tail _ (.tail _ (.head _))) 1) fun w dq' dc' RS' hD' h => ?_
    rw [e1]
    refine next w t t.ty pb M1 hv (by rw [← hfin]; cases t <;> first | rfl | exact absurd rfl hto | exact absurd rfl hte) dq' dc' RS' hD' (h.re)
end Go.Proofs.YtgbgadkldalkbaaGreatDoor


set_option linter.unusedVariables false
namespace Go.Proofs.YtgbgadkldalkbaaGreatDoor
open Go.Proofs Go.IntWalk Go.RowKit
variable {σ : Out} {w : World} {L L' : List Chunk} {R : Ending → World → Prop}
theorem DRow.same {q : Option Addr} {n c : Nat} {vs : List Value} {RM : List Chunk} (h : Sl 1 ty_Inline q n c vs RM) : DRow q c [] vs 0 q n c [] RM := by
 obtain ⟨hl, hnc, ⟨rfl, rfl, rfl, rfl⟩ | ⟨rb, sp, rfl, rfl, h3⟩⟩ := h
 ·have : vs = [] := List.eq_nil_of_length_eq_zero (by omega)
  subst this
  exact ⟨by simp, by simp, .inr ⟨[], Sl.nil 1 ty_Inline, rfl, fun j v hv => by simp at hv⟩⟩
 ·refine ⟨by omega, by simp, .inl ⟨rb, [], sp, rfl, rfl, rfl, rfl, ?_⟩⟩
  rw [List.length_append] at h3; omega
theorem DRow.done {dq sq : Option Addr} {dc off sn sc : Nat} {dvs : List Value} {RS : List Chunk} (h : DRow dq dc dvs [] off sq sn sc [] RS) : Sl 1 ty_Inline dq dvs.length dc dvs RS := by
 obtain ⟨h0, hle, ⟨rb, junk, sp, rfl, rfl, rfl, h1, h2⟩ | ⟨DR, hS, rfl, hr⟩⟩ := h
 ·refine ⟨by omega, hle, .inr ⟨rb, junk ++ sp, rfl, rfl, ?_⟩⟩
  simp only [List.length_append, List.length_nil] at h2 ⊢; omega
 ·rw [List.append_nil]; exact hS
theorem emph_ok {pq dq sq : Option Addr} {dc sn sc : Nat} {ts : List Inl} {vs : List Value} {SR RS EC : List Chunk} (hD : DRow dq dc [] vs 0 sq sn sc SR RS) (hI : InlsAt ts vs EC) (hwf : wfE ts) (hap : apartE none ts) (hn : sn < 999999990) (h : Sat σ w (RS ++ (EC ++ L)))
 (hR : ∀ w dq dc dvs DM RS, InlsAt (emphM ts) dvs DM → DRow dq dc dvs [] sn sq sn sc SR RS → dvs.length ≤ sn → Sat σ w (DM ++ (RS ++ L)) → R (.returned (.slice dq dvs.length dc)) w) :
 callE P i_parseState_emph #[.pointer pq, .slice dq 0 dc, .slice sq sn sc] R w := by
 refine g_parseState_emph.sound ?_
 refine Sat.bx h fun b1 w h => ?_
 refine Sat.bx h fun b3 w h => ?_
 intro X hX
 have hl := hI.length
 have h0 := hD.1
 let s0 : STK := ⟨none, 0, 0, []⟩
 have h : Sat σ w (stkC b3 [s0, s0, s0, s0, s0] :: (b1, cel [.slice dq 0 dc] ty_S_Inline) :: (RS ++ (EC ++ L))) := h
 have hs0 : s0.ok [] := Sl.nil 1 ty_P_emphPlain
 refine emph_loop (Xa := X) (fun x10 w hh => hX _ _ _ _ _ _ _ _ _ hh) hn (emphM ts) (fun w dq dc dvs DM RS h1 h2 h3 h4 => hR w dq dc dvs DM RS h1 h2 h3 h4) ts [] [s0, s0, s0, s0, s0] 0 none w
  ⟨dq, dc, [], vs, [], [], RS, EC, ⟨rfl, rfl⟩, ⟨[], [], rfl, hs0, [], [], rfl, hs0, [], [], rfl, hs0, [], [], rfl, hs0, [], [], rfl, hs0, rfl⟩, rfl, ?_, hD, by simp, hI, h⟩ (by omega) (by simp) hwf hap ?_ rfl
 ·intro s hs
  simp only [List.mem_cons, List.mem_nil_iff, or_false, or_self] at hs
  subst hs
  exact ⟨by show (0 : Nat) < _; decide, List.Pairwise.nil, fun e he => by cases he⟩
 ·intro c hc _ s hs e he
  have : s = s0 := by
   rcases hc with rfl | rfl
   ·exact (Option.some.inj hs).symm
   ·exact (Option.some.inj hs).symm
  subst this
  cases he
theorem emphOK_gen {ts : List Inl} (hwf : wfE ts) (hap : apartE none ts) (hts : ts.length < 999999990) : EmphOK ts (emphM ts) := by
 intro σ R pq q n c vs RM EM L w hS hI hn h hR
 have hl := hI.length
 have hn0 := hS.1
 exact emph_ok (DRow.same hS) hI hwf hap (by omega) h fun w dq dc dvs DM RS h1 h2 h3 h4 => hR w dq dvs.length dc dvs RS DM h2.done h3 h1 (h4.re)
end Go.Proofs.YtgbgadkldalkbaaGreatDoor


set_option linter.unusedVariables false
namespace Go.Proofs.YtgbgadkldalkbaaGreatDoor
open Go.Proofs
theorem getElem_getD {l : List UInt8} {i : Nat} (h : i < l.length) (d : UInt8) : l[i] = l.getD i d := by
 rw [List.getD_eq_getElem?_getD, List.getElem?_eq_getElem h]; rfl
end Go.Proofs.YtgbgadkldalkbaaGreatDoor


set_option linter.unusedVariables false
namespace Go.Proofs.YtgbgadkldalkbaaGreatDoor
open Go.Proofs Go.IntWalk Go.RowKit
variable {σ : Out} {w : World} {L L' : List Chunk} {R : Ending → World → Prop}
theorem linkOpen_leaf {b i : Nat} {p : PS} {s : List UInt8} (hs : s.length < 1000000000) (hi : i < s.length) (hc : s[i] = 91) : LeafOK b p s i (.func (.func i_parseLinkOpen) #[] #[]) [] (some (.openP [91] (i + 1), i, i + 1)) (fun p' => p' = p) := by
 intro σ R L w _ h hR
 refine enter_fn (g_parseLinkOpen.sound ?_)
 unfold g_parseLinkOpen
 rw [i64_inc (by omega)]
 refine ⟨by omega, by omega, by simp; omega, ?_⟩
 rw [Int.toNat_natCast, Int.toNat_natCast, bs_extract]
 have e : (s.take (i + 1)).drop i = [91] := by
  rw [List.take_succ_eq_append_getElem hi, List.drop_left' (by rw [List.length_take]; omega), hc]
 rw [e]
 refine Sat.bx h fun nb w h => ?_
 exact hR w p _ _ rfl rfl ⟨nb, _, rfl, rfl⟩ h.up1
def AtB (X : XI) (σ : Out) (b : Nat) (p0 : PS) (raw : List UInt8) (L : List Chunk) (i e : Nat) (ts : List Inl) (opens : List Nat) (lo : Int) : Prop :=
 ∀ w (p : PS) oq on oc, p.coreS = p0.coreS → p.s = raw → p.em = (e : Int) → IIn σ b p ts opens oq on oc L w → X (some ⟨b, 0, none⟩) (bs raw) oq on oc lo false (i : Int) w
def LoopB (R : Ending → World → Prop) (X : XI) (b : Nat) (raw : List UInt8) : Prop :=
 ∀ oq on oc lo (i : Int) w, g_parseState_inline.bl1 R X (some ⟨b, 0, none⟩) (bs raw) oq on oc lo false i w → X (some ⟨b, 0, none⟩) (bs raw) oq on oc lo false i w
theorem AtB.plain {X : XI} {b pb i e : Nat} {p0 : PS} {raw : List UInt8} {ts : List Inl} {opens : List Nat} {lo : Int} {o : Opt} (hX : LoopB R X b raw) (hi : i < raw.length) (hs : raw.length < 1000000000) (hpz : p0.pz = some ⟨pb, 0, none⟩) (ho : o.at pb ∈ L) (hp : parserOf o raw[i] = .nil) (h93 : raw[i] ≠ 93 ∨ opens = [])
 (h : AtB X σ b p0 raw L (i + 1) e ts opens lo) : AtB X σ b p0 raw L i e ts opens lo := by
 intro w p oq on oc hc hraw he hI
 refine hX _ _ _ _ _ _ ?_
 obtain ⟨vs, RM, EM, OM, hS, hIn, hO, hlen, hsat⟩ := hI
 refine inl_dispatch (p := p) hi (by omega) (by rw [PS.pz_of hc, hpz]) (.head _) (.tail _ (List.mem_append_right _ (List.mem_append_right _ (List.mem_append_right _ ho)))) hsat ?_
 rw [hp]
 have hol := hO.1
 rw [List.length_map] at hol
 exact inl_none (inl_k5 hi (by omega) (h93.imp id (by rintro rfl; simp at hol; omega)) (h w p oq on oc hc hraw he ⟨vs, RM, EM, OM, hS, hIn, hO, hlen, hsat⟩))
theorem AtB.plains {X : XI} {b pb e : Nat} {p0 : PS} {raw : List UInt8} {ts : List Inl} {opens : List Nat} {lo : Int} {o : Opt} (hX : LoopB R X b raw) (hs : raw.length < 1000000000) (hpz : p0.pz = some ⟨pb, 0, none⟩) (ho : o.at pb ∈ L) :
 ∀ (k i : Nat), i + k ≤ raw.length → (∀ j (hj : j < raw.length), i ≤ j → j < i + k → parserOf o raw[j] = .nil ∧ (raw[j] ≠ 93 ∨ opens = [])) → AtB X σ b p0 raw L (i + k) e ts opens lo → AtB X σ b p0 raw L i e ts opens lo
 | 0, i, _, _, h => h
 | k + 1, i, hk, hall, h => by
  have hi : i < raw.length := by omega
  have h0 := hall i hi (Nat.le_refl _) (by omega)
  refine AtB.plain hX hi hs hpz ho h0.1 h0.2 ?_
  refine AtB.plains hX hs hpz ho k (i + 1) (by omega) (fun j hj h1 h2 => hall j hj (by omega) (by omega)) ?_
  rw [show i + 1 + k = i + (k + 1) by omega]; exact h
theorem AtB.leaf {X : XI} {b pb i e st en : Nat} {p0 : PS} {raw : List UInt8} {ts : List Inl} {opens : List Nat} {lo : Int} {o : Opt} {f : FuncId} {t : Inl} {L0 : List Chunk} {Q : PS → PS → Prop} (hX : LoopB R X b raw) (hi : i < raw.length) (hs : raw.length < 1000000000) (hpz : p0.pz = some ⟨pb, 0, none⟩) (ho : o.at pb ∈ L)
 (hp : parserOf o raw[i] = .fn f) (hL0 : ∀ c ∈ L0, c ∈ L) (hf : ∀ p : PS, p.coreS = p0.coreS → p.s = raw → LeafOK b p raw i (.func (.func f) #[] #[]) L0 (some (t, st, en)) (Q p)) (hst : st ≤ raw.length) (hn : ts.length < 1000000000) (hon : opens.length < 1000000000)
 (h : AtB X σ b p0 raw L en en (emitM raw e st ts ++ [t]) (if t.isOpen then opens ++ [(emitM raw e st ts).length] else opens) lo) : AtB X σ b p0 raw L i e ts opens lo := by
 intro w p oq on oc hc hraw he hI
 refine hX _ _ _ _ _ _ ?_
 obtain ⟨vs, RM, EM, OM, hS, hIn, hO, hlen, hsat⟩ := hI
 refine inl_dispatch (p := p) hi (by omega) (by rw [PS.pz_of hc, hpz]) (.head _) (.tail _ (List.mem_append_right _ (List.mem_append_right _ (List.mem_append_right _ ho)))) hsat ?_
 rw [hp]
 dsimp only
 have hleaf := hf p hc hraw
 subst hraw
 refine inl_leaf ⟨vs, RM, EM, OM, hS, hIn, hO, hlen, hsat⟩ hL0 hleaf he hst hs hn hon fun w p2 oq on oc hp2 hem2 _ h2 => ?_
 refine h w p2 oq on oc (PS.coreS_of hp2 hc) ?_ hem2 h2
 have := congrArg PS.s hp2; exact this
theorem AtB.fin {X : XI} {b pb e : Nat} {p0 : PS} {raw : List UInt8} {ts ts' : List Inl} {opens : List Nat} {lo : Int} {o : Opt} (hX : LoopB R X b raw) (hs : raw.length < 1000000000) (hpz : p0.pz = some ⟨pb, 0, none⟩) (ho : o.at pb ∈ L) (hoff : o.auto = false) (hn : ts.length < 1000000000)
 (hE : EmphOK (emitM raw e raw.length ts) ts') (hpos : ∀ t ∈ ts', ∀ s, t.plain? = some s → s ≠ []) (hb : plen ts' < 1073741824)
 (hR : ∀ w (p' : PS) q n c vs RM EM, p'.coreS = p0.coreS → Sl 1 ty_Inline q n c vs RM → n < 1073741824 → InlsAt (mergeM ts') vs EM → Sat σ w (p'.at b :: (RM ++ (EM ++ L))) → R (.returned (.slice q n c)) w) :
 AtB X σ b p0 raw L raw.length e ts opens lo := by
 intro w p oq on oc hc hraw he hI
 refine hX _ _ _ _ _ _ ?_
 subst hraw
 exact inl_end hI he hs hn (by rw [PS.pz_of hc, hpz]) ho hoff hE hpos hb fun w p2 q n c vs RM EM hp2 hS hn hI h => hR w p2 q n c vs RM EM (PS.coreS_of hp2 hc) hS hn hI h
end Go.Proofs.YtgbgadkldalkbaaGreatDoor


set_option linter.unusedVariables false
namespace Go.Proofs.YtgbgadkldalkbaaGreatDoor
open Go.Proofs Go.IntWalk Go.RowKit
variable {σ : Out} {w : World} {L L' : List Chunk} {R : Ending → World → Prop}
theorem Sl.shrink {sz : Nat} {e : TypeId} {q : Option Addr} {n c m : Nat} {vs : List Value} {M : List Chunk} (h : Sl sz e q n c vs M) (hm : m ≤ n) : Sl sz e q m c (vs.take (m * sz)) M := by
 obtain ⟨h1, h2, h3⟩ := h
 have hms : m * sz ≤ n * sz := Nat.mul_le_mul_right _ hm
 refine ⟨by rw [List.length_take]; omega, by omega, ?_⟩
 rcases h3 with ⟨rfl, rfl, rfl, rfl⟩ | ⟨b, sp, rfl, rfl, h4⟩
 ·exact .inl ⟨rfl, by omega, rfl, rfl⟩
 ·refine .inr ⟨b, vs.drop (m * sz) ++ sp, rfl, ?_, ?_⟩
  ·rw [← List.append_assoc, List.take_append_drop]
  ·rw [← List.append_assoc, List.take_append_drop]; exact h4
theorem ta_open1 {v : Value} (w : World) : (Instr.typeAssert (.iface ty_P_openPlain v) ty_Inline ty_P_openPlain false).run P w = .ok v w :=
 ta_yes1 (by rw [und_open]; intro ms h; cases h) und_open w
end Go.Proofs.YtgbgadkldalkbaaGreatDoor


set_option linter.unusedVariables false
namespace Go.Proofs.YtgbgadkldalkbaaGreatDoor
open Go.Proofs Go.IntWalk Go.RowKit
variable {σ : Out} {w : World} {L L' : List Chunk} {R : Ending → World → Prop}
def plainO : Inl → Inl
 | .openP s _ => .plain s
 | t => t
def noRun : Inl → Bool
 | .emphP _ _ _ _ _ => false
 | _ => true
theorem emphGo_noRun : ∀ (ts : List Inl) (dst : List Inl) (st : List (List Nat)), (∀ t ∈ ts, noRun t = true) → emphGo dst st ts = dst ++ ts.map plainO
 | [], dst, st, _ => by simp [emphGo]
 | t :: ts, dst, st, h => by
  have ih := fun d s => emphGo_noRun ts d s (fun t' ht' => h t' (List.mem_cons_of_mem _ ht'))
  have ht := h t (.head _)
  cases t <;> first | (simp [noRun] at ht; done) | (simp only [emphGo, ih, plainO, List.map_cons, List.append_assoc, List.singleton_append])
theorem emphM_noRun {ts : List Inl} (h : ∀ t ∈ ts, noRun t = true) : emphM ts = ts.map plainO := by
 unfold emphM; rw [emphGo_noRun ts [] _ h]; rfl
theorem wfE_noRun {ts : List Inl} (h : ∀ t ∈ ts, noRun t = true) : wfE ts := by
 intro s co cc i n hm
 have := h _ hm
 simp [noRun] at this
theorem apartE_noRun : ∀ {ts : List Inl}, (∀ t ∈ ts, noRun t = true) → apartE none ts
 | [], _ => trivial
 | t :: ts, h => by
  have ih := apartE_noRun (ts := ts) (fun t' ht' => h t' (List.mem_cons_of_mem _ ht'))
  have ht := h t (.head _)
  have : headOf t = none := by cases t <;> first | (simp [noRun] at ht; done) | rfl
  exact ⟨.inl rfl, by rw [this]; exact ih⟩
theorem emphOK_noRun {ts : List Inl} (h : ∀ t ∈ ts, noRun t = true) (hts : ts.length < 999999990) : EmphOK ts (ts.map plainO) := by
 have := emphOK_gen (wfE_noRun h) (apartE_noRun h) hts
 rw [emphM_noRun h] at this; exact this
end Go.Proofs.YtgbgadkldalkbaaGreatDoor


set_option linter.unusedVariables false
namespace Go.Proofs.YtgbgadkldalkbaaGreatDoor
open Go.Proofs Go.IntWalk Go.RowKit Go.MapKept
variable {σ : Out} {w : World} {L L' : List Chunk} {R : Ending → World → Prop}
theorem und_map : P.underlying ty_map_string_P_Link = some (.map ty_string ty_P_Link) := by kernel_rfl
theorem und_mstr : P.underlying ty_string = some .string := by kernel_rfl
theorem run_zeroValue_of {P : Program} {t : TypeId} {i : TypeInfo} {z : Value} (hi : P.info? t = some i) (hz : i.zero = some z) (w : World) : (zeroValue t).run P w = .ok z w := by
 simp [zeroValue, typeInfo, hi, hz, Result.andThen]
theorem zero_link (w : World) : (zeroValue ty_P_Link).run P w = .ok (.pointer none) w := by
 have hi : P.info? ty_P_Link = some ((P.info? ty_P_Link).getD default) := by kernel_rfl
 have hz : ((P.info? ty_P_Link).getD default).zero = some (.pointer none) := by kernel_rfl
 exact run_zeroValue_of hi hz w
theorem lookup_nil (k : List UInt8) (ok : Bool) (w : World) : (Instr.lookup ty_map_string_P_Link (.map none) (.string (bs k)) ok).run P w = .ok (if ok then .tuple #[.pointer none, .bool false] else .pointer none) w := by
 cases ok <;> simp [Instr.lookup, run_underlying und_map, run_checkKey und_mstr (d := .string) (k := .string (bs k)) trivial, zero_link, Result.andThen, run_findKey und_mstr (l := []) (k := .string (bs k)) (a := none) rfl]
end Go.Proofs.YtgbgadkldalkbaaGreatDoor


set_option linter.unusedVariables false
namespace Go.Proofs.YtgbgadkldalkbaaGreatDoor
open Go.Proofs Go.IntWalk Go.RowKit
variable {σ : Out} {w : World} {L L' : List Chunk} {R : Ending → World → Prop}
theorem trimSTN_self {s : List UInt8} (hs : s.length < 4611686018427387904) (h0 : s ≠ []) (h1 : isSTN (s.getD 0 0) = false) (h2 : isSTN (s.getD (s.length - 1) 0) = false) (hR : R (.returned (.string (bs s))) w) : callE P i_trimSpaceTabNewline #[.string (bs s)] R w := by
 have hp := List.length_pos_iff.2 h0
 have nn : ∀ c : UInt8, isSTN c = false → ((((c.toNat : Int) == 32) || ((c.toNat : Int) == 9)) || ((c.toNat : Int) == 10)) = false := by
  intro c hc
  have a := u8_beq c 32; have b := u8_beq c 9; have d := u8_beq c 10
  rw [show ((c.toNat : Int) == 32) = (c == 32) from a, show ((c.toNat : Int) == 9) = (c == 9) from b, show ((c.toNat : Int) == 10) = (c == 10) from d]
  exact hc
 refine g_trimSpaceTabNewline.sound ?_
 intro X hX
 refine hX _ _ _ ⟨fun _ => ⟨by omega, by simp; omega⟩, fun _ => ⟨by omega, by simp; omega⟩, fun _ => ⟨by omega, by simp; omega⟩, ?_⟩
 rw [show (0 : Int) = ((0 : Nat) : Int) from rfl, bs_bt, nn _ h1]
 refine br_false (Bool.and_false _) ⟨by omega, by simp, ?_⟩
 rw [Int.toNat_natCast, bs_extract, bs_size, List.take_length, List.drop_zero, bs_size]
 intro Y hY
 have e1 : IntKind.i64.wrap ((s.length : Int) - 1) = ((s.length - 1 : Nat) : Int) := by rw [show ((s.length : Int) - 1) = ((s.length - 1 : Nat) : Int) by omega, i64_in _ (by omega)]
 refine hY _ _ _ ?_
 unfold g_trimSpaceTabNewline.bl2
 rw [e1, bs_bt, nn _ h2]
 refine ⟨fun _ => ⟨by omega, by simp; omega⟩, fun _ => ⟨by omega, by simp; omega⟩, fun _ => ⟨by omega, by simp; omega⟩, br_false (Bool.and_false _) ⟨by omega, by simp, ?_⟩⟩
 rw [Int.toNat_natCast, bs_extract, List.take_length, List.drop_zero]
 exact hR
theorem noRef_label {c d : UInt8} {s : List UInt8} (hl : s.length < 1000000) (h93 : c ≠ 93) (h91 : c ≠ 91) (h92 : c ≠ 92) (hst : isSTN c = false) (hd : d ≠ 58) : NoRef (91 :: c :: 93 :: d :: s) := by
 intro R w q hR
 have nb : ∀ e : UInt8, c ≠ e → ((c.toNat : Int) == (e.toNat : Int)) = false := fun e he => by rw [u8_beq]; simpa using he
 refine g_parseLinkRefDef.sound ?_
 have hp : pastSTN (91 :: c :: 93 :: d :: s) 0 = 0 := by
  unfold pastSTN; rw [List.drop_zero, List.dropWhile_cons_of_neg (by decide)]; simp
 refine skipSp_ok (i := 0) (by simp; omega) (Nat.zero_le _) ⟨_, rfl, q, w, ta_ps q w, ?_⟩
 rw [hp]
 have b0 : bt (bs (91 :: c :: 93 :: d :: s)) ((0 : Nat) : Int) = 91 := by rw [bs_bt]; rfl
 have b1 : bt (bs (91 :: c :: 93 :: d :: s)) ((1 : Nat) : Int) = (c.toNat : Int) := by rw [bs_bt]; rfl
 have b2 : bt (bs (91 :: c :: 93 :: d :: s)) ((2 : Nat) : Int) = 93 := by rw [bs_bt]; rfl
 have b3 : bt (bs (91 :: c :: 93 :: d :: s)) ((3 : Nat) : Int) = (d.toNat : Int) := by rw [bs_bt]; rfl
 refine g_parseLinkLabel.sound ?_
 refine ⟨fun _ => ⟨by decide, by simp; omega⟩, br_false (by rw [b0]; simp; omega) ?_⟩
 unfold g_parseLinkLabel.k1
 rw [show IntKind.i64.wrap (((0 : Nat) : Int) + 1) = ((1 : Nat) : Int) from rfl]
 intro X hX
 refine hX _ _ _ _ _ (br_true (by simp; omega) ⟨by decide, by simp; omega, ?_⟩)
 rw [b1]
 refine br_false (nb 93 h93) ⟨by decide, by simp; omega, ?_⟩
 refine br_false (nb 91 h91) ⟨by decide, by simp; omega, ?_⟩
 rw [show ((c.toNat : Int) == 92) = false from nb 92 h92]
 refine br_false rfl ?_
 rw [show IntKind.i64.wrap (((1 : Nat) : Int) + 1) = ((2 : Nat) : Int) from rfl]
 refine hX _ _ _ _ _ (br_true (by simp; omega) ⟨by decide, by simp; omega, ?_⟩)
 rw [b2]
 refine br_true rfl (br_false rfl ⟨by decide, by decide, by simp; omega, ?_⟩)
 have e : (bs (91 :: c :: 93 :: d :: s)).extract (Int.toNat (IntKind.i64.wrap (((0 : Nat) : Int) + 1))) (Int.toNat ((2 : Nat) : Int)) = bs [c] := by
  rw [show Int.toNat (IntKind.i64.wrap (((0 : Nat) : Int) + 1)) = 1 from rfl, show Int.toNat ((2 : Nat) : Int) = 2 from rfl, bs_extract]; rfl
 rw [e]
 refine trimSTN_self (by show 1 < _; decide) (by simp) (by simpa using hst) (by simpa using hst) ⟨_, rfl, br_true (by rw [bs_toList, mk_toList]; rfl) ⟨_, _, _, rfl, ?_⟩⟩
 rw [show IntKind.i64.wrap (((2 : Nat) : Int) + 1) = ((3 : Nat) : Int) from rfl, b3]
 refine ⟨fun _ => ⟨by decide, by simp; omega⟩, br_true ?_ hR⟩
 rw [show ((d.toNat : Int) != 58) = true from by rw [bne, show ((d.toNat : Int) == 58) = (d == 58) from u8_beq d 58]; simpa using hd]
 simp
end Go.Proofs.YtgbgadkldalkbaaGreatDoor


set_option linter.unusedVariables false
namespace Go.Proofs.YtgbgadkldalkbaaGreatDoor
open Go.Proofs Go.IntWalk Go.RowKit
variable {σ : Out} {w : World} {L L' : List Chunk} {R : Ending → World → Prop}
def lowC (c : UInt8) : UInt8 := if 65 ≤ c.toNat ∧ c.toNat ≤ 90 then c + 32 else c
def normGo : Bool → List UInt8 → List UInt8
 | _, [] => []
 | sp, c :: s => if isSTN c = true then normGo true s else (if sp = true then [32] else []) ++ lowC c :: normGo false s
theorem lowC_int {c : UInt8} (h : 65 ≤ c.toNat ∧ c.toNat ≤ 90) : IntKind.u8.wrap ((c.toNat : Int) + 32) = ((lowC c).toNat : Int) := by
 unfold lowC
 rw [if_pos h, u8_in _ (by omega)]
 have : (c + 32).toNat = c.toNat + 32 := by
  rw [UInt8.toNat_add]
  show (c.toNat + 32) % 256 = _
  omega
 rw [this]; omega
theorem normalizeLabel_ok {s : List UInt8} (hs : s.length < 100000) (h91 : (91 : UInt8) ∉ s) (h93 : (93 : UInt8) ∉ s) (h0 : s ≠ []) (h1 : isSTN (s.getD 0 0) = false) (h2 : isSTN (s.getD (s.length - 1) 0) = false) (h : Sat σ w L)
 (hR : ∀ w, Sat σ w L → R (.returned (.string (bs (normGo false s)))) w) : callE P i_normalizeLabel #[.string (bs s)] R w := by
 refine g_normalizeLabel.sound ?_
 refine zzContains_ok (sub := [91]) (by omega) (by decide) ⟨_, rfl, br_false (by rw [idx_none h91]; rfl) ?_⟩
 refine zzContains_ok (sub := [93]) (by omega) (by decide) ⟨_, rfl, br_false (by rw [idx_none h93]; rfl) ?_⟩
 refine trimSTN_self (by omega) h0 h1 h2 ⟨_, rfl, ?_⟩
 refine Sat.bx h fun b w h => ?_
 intro X hX
 have key : ∀ (rest : List UInt8) (i : Nat) (sp : Bool) (acc : List UInt8) (g hi : Bool) M w, s.drop i = rest → i ≤ s.length → acc.length ≤ 2 * i → Bld b g acc M → Sat σ w (M ++ L) → acc ++ normGo sp rest = normGo false s →
  X (bs s) b sp hi (i : Int) w := by
  intro rest
  induction rest with
  | nil =>
   intro i sp acc g hi M w hd hi2 hal hB h he
   have hlen : s.length ≤ i := by simpa using hd
   refine hX _ _ _ _ _ _ (br_false (by simp; omega) ?_)
   simp only [normGo, List.append_nil] at he
   rw [he] at hB
   exact bldStr_ok hB h (by rw [← he]; omega) fun w h => ⟨_, rfl, hR w h⟩
  | cons c rest ih =>
   intro i sp acc g hi M w hd hi2 hal hB h he
   have hil : i < s.length := by
    rcases Nat.lt_or_ge i s.length with h | h
    ·exact h
    ·rw [List.drop_eq_nil_of_le h] at hd; cases hd
   rw [List.drop_eq_getElem_cons hil] at hd
   obtain ⟨hc, hd'⟩ := List.cons.inj hd
   refine hX _ _ _ _ _ _ (br_true (by simp; omega) ⟨by omega, by simp; omega, ?_⟩)
   rw [bt_at hil, hc]
   have a := u8b c 32 32 rfl; have a9 := u8b c 9 9 rfl; have a10 := u8b c 10 10 rfl
   by_cases hst : isSTN c = true
   ·have hk : g_normalizeLabel.k2 R X (bs s) b sp hi (i : Int) (c.toNat : Int) true w := by
     refine br_true rfl ?_
     rw [i64_inc (by omega)]
     refine ih (i + 1) true acc g hi M w hd' (by omega) (by omega) hB h ?_
     rw [← he]; simp [normGo, hst]
    have hst' := hst
    unfold isSTN at hst'
    simp only [Bool.or_eq_true, beq_iff_eq] at hst'
    rcases hst' with (h3 | h3) | h3
    ·exact br_true (by rw [a, h3]; rfl) hk
    ·exact br_false (by rw [a, h3]; rfl) (br_true (by rw [a9, h3]; rfl) hk)
    ·refine br_false (by rw [a, h3]; rfl) (br_false (by rw [a9, h3]; rfl) ?_)
     rw [show ((c.toNat : Int) == 10) = true from by rw [a10, h3]; rfl]
     exact hk
   ·have hst2 : isSTN c = false := by simpa using hst
    have hst' := hst2
    unfold isSTN at hst'
    simp only [Bool.or_eq_false_iff] at hst'
    obtain ⟨⟨h3, h4⟩, h5⟩ := hst'
    refine br_false (by rw [a]; exact h3) (br_false (by rw [a9]; exact h4) ?_)
    rw [show ((c.toNat : Int) == 10) = false from by rw [a10]; exact h5]
    have hn : normGo sp (c :: rest) = (if sp = true then [32] else []) ++ lowC c :: normGo false rest := by simp [normGo, hst2]
    rw [hn] at he
    have k3 : ∀ (sp2 : Bool) (acc2 : List UInt8) g M w, sp2 = false → acc2.length ≤ 2 * i + 1 → acc2 ++ lowC c :: normGo false rest = normGo false s → Bld b g acc2 M → Sat σ w (M ++ L) → g_normalizeLabel.k3 R X (bs s) b sp2 hi (i : Int) (c.toNat : Int) w := by
     intro sp2 acc2 g M w hsp2 hal2 he2 hB h
     subst hsp2
     have k4 : ∀ (d : Int), d = ((lowC c).toNat : Int) → g_normalizeLabel.k4 R X (bs s) b false hi (i : Int) d w := by
      intro d hd2
      subst hd2
      have nx : ∀ hi2 M w, Bld b true (acc2 ++ [lowC c]) M → Sat σ w (M ++ L) → X (bs s) b false hi2 (IntKind.i64.wrap ((i : Int) + 1)) w := by
       intro hi2 M w hB h
       rw [i64_inc (by omega)]
       exact ih (i + 1) false (acc2 ++ [lowC c]) true hi2 M w hd' (by omega) (by simp; omega) hB h (by rw [← he2]; simp)
      refine br_split (fun _ => ?_) (fun _ => ?_)
      ·exact bldB_ok (k := lowC c) hB h (by omega) fun w M hB h => ⟨_, rfl, nx true M w hB h⟩
      ·exact bldB_ok (k := lowC c) hB h (by omega) fun w M hB h => ⟨_, rfl, nx hi M w hB h⟩
     refine br_split (fun hb => ?_) (fun hb => ?_)
     ·simp only [Bool.and_eq_true, decide_eq_true_eq] at hb
      exact k4 _ (lowC_int ⟨by omega, by omega⟩)
     ·refine k4 _ ?_
      have : ¬ (65 ≤ c.toNat ∧ c.toNat ≤ 90) := by
       rintro ⟨x1, x2⟩
       rw [decide_eq_true (by omega), decide_eq_true (by omega)] at hb; cases hb
      unfold lowC; rw [if_neg this]
    refine br_false rfl ?_
    cases sp with
    | true =>
     refine br_true rfl ?_
     refine bldB_ok (k := 32) hB h (by omega) fun w M hB h => ⟨_, rfl, k3 false (acc ++ [32]) true M w rfl (by simp; omega) ?_ hB h⟩
     rw [← he]; simp
    | false =>
     refine br_false rfl (k3 false acc g M w rfl (by omega) ?_ hB h)
     rw [← he]; simp
 exact key s 0 false [] false false _ w rfl (by omega) (by simp) (bldNew b) h rfl
end Go.Proofs.YtgbgadkldalkbaaGreatDoor


set_option linter.unusedVariables false
namespace Go.Proofs.YtgbgadkldalkbaaGreatDoor
open Go.Proofs Go.IntWalk Go.RowKit
variable {σ : Out} {w : World} {L L' : List Chunk} {R : Ending → World → Prop}
theorem PrintsL.as {m : String} {v : List Value} {T T' : List Chunk} {f g : List UInt8 → List UInt8} (h : PrintsL m v T T' f) (e : f = g) : PrintsL m v T T' g := e ▸ h
end Go.Proofs.YtgbgadkldalkbaaGreatDoor


set_option linter.unusedVariables false
set_option maxRecDepth 20000
namespace Go.Proofs.YtgbgadkldalkbaaGreatDoor
open Go.Proofs
namespace g_internal_stringslite_HasPrefix
noncomputable def body : Code := bodyOf Tryz.f220
end g_internal_stringslite_HasPrefix
def g_internal_stringslite_HasPrefix (R : EP) (x0 x1 : BA) (w : World) : Prop :=
 br (decide ((x0.size : Int) ≥ (x1.size : Int)))
 (0 ≤ (x1.size : Int) ∧ (x1.size : Int) ≤ (x0.size : Int) ∧
 R (.returned (.bool ((x0.extract 0 (Int.toNat (x1.size : Int))).toList == x1.toList))) w)
 (R (.returned (.bool false)) w)

namespace g_internal_stringslite_HasPrefix
noncomputable def ac (R : EP) : AC :=
 (.leaf (sel [] body))
theorem good (R : EP) : Good P 18 (ac R) (QF P [.tmp 4] R) :=
 trivial
theorem eq (R : EP) (x0 x1 : BA) (w : World) : g_internal_stringslite_HasPrefix R x0 x1 w = vcA P 18 (ac R) (QF P [.tmp 4] R) (fr0 [.string x0, .string x1]) w := by kernel_rfl
theorem sound {R : EP} {x0 x1 : ByteArray} {w : World} (h : g_internal_stringslite_HasPrefix R x0 x1 w) : callE P i_internal_stringslite_HasPrefix #[.string x0, .string x1] R w :=
 callE_fz (c := body) Tryz.func220 Tryz.call220 (good R) (eq R x0 x1 w) h
end g_internal_stringslite_HasPrefix
namespace g_strings_HasPrefix
noncomputable def body : Code := bodyOf Tryz.f159
end g_strings_HasPrefix
def g_strings_HasPrefix (R : EP) (x0 x1 : BA) (w : World) : Prop :=
 callE P i_internal_stringslite_HasPrefix #[.string x0, .string x1] (fun e w2 => ∃ (r1 : Bool), e = .returned (.bool r1) ∧
 R (.returned (.bool r1)) w2) w

namespace g_strings_HasPrefix
noncomputable def ac (R : EP) : AC :=
 (.leaf (sel [] body))
theorem good (R : EP) : Good P 8 (ac R) (QF P [.tmp 4] R) :=
 trivial
theorem eq (R : EP) (x0 x1 : BA) (w : World) : g_strings_HasPrefix R x0 x1 w = vcA P 8 (ac R) (QF P [.tmp 4] R) (fr0 [.string x0, .string x1]) w := by kernel_rfl
theorem sound {R : EP} {x0 x1 : ByteArray} {w : World} (h : g_strings_HasPrefix R x0 x1 w) : callE P i_strings_HasPrefix #[.string x0, .string x1] R w :=
 callE_fz (c := body) Tryz.func159 Tryz.call159 (good R) (eq R x0 x1 w) h
end g_strings_HasPrefix
end Go.Proofs.YtgbgadkldalkbaaGreatDoor

set_option linter.unusedVariables false
namespace Go.Proofs.YtgbgadkldalkbaaGreatDoor
open Go.Proofs Go.IntWalk Go.RowKit
variable {σ : Out} {w : World} {L L' : List Chunk} {R : Ending → World → Prop}
theorem hasPrefix_ok {s t : List UInt8} (hR : R (.returned (.bool (decide (s.take t.length = t)))) w) : callE P i_strings_HasPrefix #[.string (bs s), .string (bs t)] R w := by
 refine g_strings_HasPrefix.sound ?_
 refine g_internal_stringslite_HasPrefix.sound ?_
 by_cases hl : t.length ≤ s.length
 ·refine br_true (by simp; omega) ⟨by omega, by simp; omega, ?_⟩
  rw [bs_size, Int.toNat_natCast, bs_extract, List.drop_zero, bs_toList, bs_toList]
  have e : (s.take t.length == t) = decide (s.take t.length = t) := by rw [Bool.eq_iff_iff]; simp
  rw [e]; exact ⟨_, rfl, hR⟩
 ·refine br_false (by simp; omega) ?_
  have : decide (s.take t.length = t) = false := decide_eq_false fun h => by have := congrArg List.length h; simp at this; omega
  rw [← this]; exact ⟨_, rfl, hR⟩
end Go.Proofs.YtgbgadkldalkbaaGreatDoor


set_option linter.unusedVariables false
namespace Go.Proofs.YtgbgadkldalkbaaGreatDoor
open Go.Proofs Go.IntWalk Go.RowKit
variable {σ : Out} {w : World} {L L' : List Chunk} {R : Ending → World → Prop}
theorem sub_self (s : List UInt8) (i : Nat) : sub s i i = [] := List.drop_eq_nil_of_le (by rw [List.length_take]; omega)
end Go.Proofs.YtgbgadkldalkbaaGreatDoor


set_option linter.unusedVariables false
namespace Go.Proofs.YtgbgadkldalkbaaGreatDoor
open Go.Proofs Go.IntWalk Go.RowKit
variable {σ : Out} {w : World} {L L' : List Chunk} {R : Ending → World → Prop}
def smlB (c : UInt8) : Bool := decide (97 ≤ c.toNat) && decide (c.toNat ≤ 122)
theorem u8_all {p : UInt8 → Bool} (h : (List.range 256).all (fun n => p (UInt8.ofNat n)) = true) (c : UInt8) : p c = true := by
 have hc := c.toNat_lt
 have := (List.all_eq_true.1 h) c.toNat (List.mem_range.2 hc)
 simpa using this
theorem sml_all : (List.range 256).all (fun n => (!(smlB (UInt8.ofNat n)) || (!isST (UInt8.ofNat n) && !isSTN (UInt8.ofNat n) && UInt8.ofNat n != 93 && UInt8.ofNat n != 91 && UInt8.ofNat n != 10 && UInt8.ofNat n != 13 && UInt8.ofNat n != 0 && decide (escB htmlPs (UInt8.ofNat n) = [UInt8.ofNat n])))) = true := by kernel_rfl
theorem sml_facts {c : UInt8} (h : smlB c = true) : isST c = false ∧ isSTN c = false ∧ c ≠ 93 ∧ c ≠ 91 ∧ c ≠ 10 ∧ c ≠ 13 ∧ c ≠ 0 ∧ escB htmlPs c = [c] := by
 have := u8_all (p := fun c => (!(smlB c) || (!isST c && !isSTN c && c != 93 && c != 91 && c != 10 && c != 13 && c != 0 && decide (escB htmlPs c = [c])))) sml_all c
 simp only [h, Bool.not_true, Bool.false_or, Bool.and_eq_true, Bool.not_eq_true', bne_iff_ne, ne_eq, decide_eq_true_eq] at this
 exact ⟨this.1.1.1.1.1.1.1, this.1.1.1.1.1.1.2, this.1.1.1.1.1.2, this.1.1.1.1.2, this.1.1.1.2, this.1.1.2, this.1.2, this.2⟩
theorem sml_pnil {c : UInt8} (h : smlB c = true) (o : Opt) : parserOf o c = .nil := by
 have ne : ∀ d : UInt8, smlB d = false → c ≠ d := by rintro d hd rfl; rw [h] at hd; cases hd
 have ne2 : ∀ d e : UInt8, smlB d = false → smlB e = false → ¬(c = d ∨ c = e) := by rintro d e hd he (hh | hh); exact ne d hd hh; exact ne e he hh
 unfold parserOf
 rw [if_neg (ne 92 rfl), if_neg (ne 96 rfl), if_neg (ne 60 rfl), if_neg (ne 91 rfl), if_neg (ne 33 rfl), if_neg (ne2 95 42 rfl rfl), if_neg (ne 46 rfl), if_neg (ne 45 rfl), if_neg (ne2 34 39 rfl rfl), if_neg (ne 126 rfl), if_neg (ne 10 rfl), if_neg (ne 38 rfl), if_neg (ne 58 rfl)]
end Go.Proofs.YtgbgadkldalkbaaGreatDoor


set_option linter.unusedVariables false
set_option maxRecDepth 20000
namespace Go.Proofs.YtgbgadkldalkbaaGreatDoor
open Go.Proofs
namespace g_parseState_taskList
noncomputable def body : Code := bodyOf Tryz.f71
def k3 (R : EP) (Xa : OA → OA → Nat → Nat → Int → Int → WP) (x0 x7 : OA) (x13 : BA) (x17q : OA) (x17n x17c : Nat) (x18 x19 : Int) (x105 : Bool) (w : World) : Prop :=
 br x105
 (nilP x0 fun a29 =>
 stV w ((a29.add 6).add 0) (.bool true) fun w30 =>
 Xa x0 x17q x17n x17c x18 (IntKind.i64.wrap (x19 + 1)) w30)
 (tk w fun w31 =>
 0 ≤ (1 : Int) ∧ 1 < (x13.size : Int) ∧
 br ((bt x13 1) == 120)
 (0 ≤ (3 : Int) ∧ 3 ≤ (x13.size : Int) ∧
 nilP x7 fun a32 =>
 ∃ (v33q : OA), ∃ (v33n : Nat), ∃ (v33c : Nat), w31.cell? (a32.add 2) = some (.slice v33q v33n v33c) ∧
 ∃ (r34q : OA), ∃ (r34n : Nat), ∃ (r34c : Nat), (∀ w, (Instr.sliceAt ty_S_Inline (.slice v33q v33n v33c) (some (.int .i64 1)) none none).run P w = .ok (.slice r34q r34n r34c) w) ∧
 (box w31 #[.bool true] ty_Task fun b35 w36 =>
 SameC w31 w36 (a32.add 2) 1 ∧
 box w36 #[.string (x13.extract (Int.toNat 3) x13.size)] ty_Plain fun b37 w38 =>
 SameC w36 w38 (a32.add 2) 1 ∧
 ∃ (r39q : OA), ∃ (r39n : Nat), ∃ (r39c : Nat), ∃ w40, (Instr.buildSlice ty_S_Inline 2 #[(0, .iface ty_P_Task (.pointer (some ⟨b35, 0, none⟩))), (1, .iface ty_P_Plain (.pointer (some ⟨b37, 0, none⟩)))]).run P w38 = .ok (.slice r39q r39n r39c) w40 ∧
 SameC w38 w40 (a32.add 2) 1 ∧
 ∃ (r41q : OA), ∃ (r41n : Nat), ∃ (r41c : Nat), ∃ w42, (Builtin.append_ #[ty_S_Inline, ty_S_Inline] ty_S_Inline #[.slice r39q r39n r39c, .slice r34q r34n r34c]).run P w40 = .ok (.slice r41q r41n r41c) w42 ∧
 nilP x7 fun a43 =>
 stV w42 ((a43.add 2).add 0) (.slice r41q r41n r41c) fun w44 =>
 Xa x0 x17q x17n x17c x18 (IntKind.i64.wrap (x19 + 1)) w44) ∧
 (box w31 #[.string (x13.extract (Int.toNat 3) x13.size)] ty_Plain fun b45 w46 =>
 SameC w31 w46 (a32.add 2) 1 ∧
 box w46 #[.bool true] ty_Task fun b47 w48 =>
 SameC w46 w48 (a32.add 2) 1 ∧
 ∃ (r49q : OA), ∃ (r49n : Nat), ∃ (r49c : Nat), ∃ w50, (Instr.buildSlice ty_S_Inline 2 #[(0, .iface ty_P_Task (.pointer (some ⟨b47, 0, none⟩))), (1, .iface ty_P_Plain (.pointer (some ⟨b45, 0, none⟩)))]).run P w48 = .ok (.slice r49q r49n r49c) w50 ∧
 SameC w48 w50 (a32.add 2) 1 ∧
 ∃ (r51q : OA), ∃ (r51n : Nat), ∃ (r51c : Nat), ∃ w52, (Builtin.append_ #[ty_S_Inline, ty_S_Inline] ty_S_Inline #[.slice r49q r49n r49c, .slice r34q r34n r34c]).run P w50 = .ok (.slice r51q r51n r51c) w52 ∧
 nilP x7 fun a53 =>
 stV w52 ((a53.add 2).add 0) (.slice r51q r51n r51c) fun w54 =>
 Xa x0 x17q x17n x17c x18 (IntKind.i64.wrap (x19 + 1)) w54))
 (0 ≤ (1 : Int) ∧ 1 < (x13.size : Int) ∧
 0 ≤ (3 : Int) ∧ 3 ≤ (x13.size : Int) ∧
 nilP x7 fun a55 =>
 ∃ (v56q : OA), ∃ (v56n : Nat), ∃ (v56c : Nat), w31.cell? (a55.add 2) = some (.slice v56q v56n v56c) ∧
 ∃ (r57q : OA), ∃ (r57n : Nat), ∃ (r57c : Nat), (∀ w, (Instr.sliceAt ty_S_Inline (.slice v56q v56n v56c) (some (.int .i64 1)) none none).run P w = .ok (.slice r57q r57n r57c) w) ∧
 (box w31 #[.bool ((bt x13 1) == 88)] ty_Task fun b58 w59 =>
 SameC w31 w59 (a55.add 2) 1 ∧
 box w59 #[.string (x13.extract (Int.toNat 3) x13.size)] ty_Plain fun b60 w61 =>
 SameC w59 w61 (a55.add 2) 1 ∧
 ∃ (r62q : OA), ∃ (r62n : Nat), ∃ (r62c : Nat), ∃ w63, (Instr.buildSlice ty_S_Inline 2 #[(0, .iface ty_P_Task (.pointer (some ⟨b58, 0, none⟩))), (1, .iface ty_P_Plain (.pointer (some ⟨b60, 0, none⟩)))]).run P w61 = .ok (.slice r62q r62n r62c) w63 ∧
 SameC w61 w63 (a55.add 2) 1 ∧
 ∃ (r64q : OA), ∃ (r64n : Nat), ∃ (r64c : Nat), ∃ w65, (Builtin.append_ #[ty_S_Inline, ty_S_Inline] ty_S_Inline #[.slice r62q r62n r62c, .slice r57q r57n r57c]).run P w63 = .ok (.slice r64q r64n r64c) w65 ∧
 nilP x7 fun a66 =>
 stV w65 ((a66.add 2).add 0) (.slice r64q r64n r64c) fun w67 =>
 Xa x0 x17q x17n x17c x18 (IntKind.i64.wrap (x19 + 1)) w67) ∧
 (box w31 #[.string (x13.extract (Int.toNat 3) x13.size)] ty_Plain fun b68 w69 =>
 SameC w31 w69 (a55.add 2) 1 ∧
 box w69 #[.bool ((bt x13 1) == 88)] ty_Task fun b70 w71 =>
 SameC w69 w71 (a55.add 2) 1 ∧
 ∃ (r72q : OA), ∃ (r72n : Nat), ∃ (r72c : Nat), ∃ w73, (Instr.buildSlice ty_S_Inline 2 #[(0, .iface ty_P_Task (.pointer (some ⟨b70, 0, none⟩))), (1, .iface ty_P_Plain (.pointer (some ⟨b68, 0, none⟩)))]).run P w71 = .ok (.slice r72q r72n r72c) w73 ∧
 SameC w71 w73 (a55.add 2) 1 ∧
 ∃ (r74q : OA), ∃ (r74n : Nat), ∃ (r74c : Nat), ∃ w75, (Builtin.append_ #[ty_S_Inline, ty_S_Inline] ty_S_Inline #[.slice r72q r72n r72c, .slice r57q r57n r57c]).run P w73 = .ok (.slice r74q r74n r74c) w75 ∧
 nilP x7 fun a76 =>
 stV w75 ((a76.add 2).add 0) (.slice r74q r74n r74c) fun w77 =>
 Xa x0 x17q x17n x17c x18 (IntKind.i64.wrap (x19 + 1)) w77)))

def k2 (R : EP) (Xa : OA → OA → Nat → Nat → Int → Int → WP) (x0 x7 : OA) (x13 : BA) (x17q : OA) (x17n x17c : Nat) (x18 x19 : Int) (w : World) : Prop :=
 0 ≤ (3 : Int) ∧ 3 < (x13.size : Int) ∧
 (((bt x13 3) != 32) = true → 0 ≤ (3 : Int) ∧ 3 < (x13.size : Int)) ∧
 k3 R Xa x0 x7 x13 x17q x17n x17c x18 x19 (((bt x13 3) != 32) && ((bt x13 3) != 9)) w

def k1 (R : EP) (Xa : OA → OA → Nat → Nat → Int → Int → WP) (x0 x7 x17q : OA) (x17n x17c : Nat) (x18 x19 : Int) (w : World) : Prop :=
 nilP x7 fun a19 =>
 ∃ (v20q : OA), ∃ (v20n : Nat), ∃ (v20c : Nat), w.cell? (a19.add 2) = some (.slice v20q v20n v20c) ∧
 br (decide ((v20n : Int) < 1))
 (Xa x0 x17q x17n x17c x18 (IntKind.i64.wrap (x19 + 1)) w)
 (nilP x7 fun a21 =>
 ∃ (v22q : OA), ∃ (v22n : Nat), ∃ (v22c : Nat), w.cell? (a21.add 2) = some (.slice v22q v22n v22c) ∧
 0 ≤ (0 : Int) ∧ 0 < (v22n : Int) ∧
 nilP v22q fun a23 =>
 ∃ (v24 : Value), w.cell? (a23.add (Int.toNat 0 * 1)) = some v24 ∧
 ∃ (r25_0 : OA), ∃ (r25_1 : Bool), ∃ w26, (Instr.typeAssert v24 ty_Inline ty_P_Plain true).run P w = .ok (.tuple #[.pointer r25_0, .bool r25_1]) w26 ∧
 br (!r25_1)
 (Xa x0 x17q x17n x17c x18 (IntKind.i64.wrap (x19 + 1)) w26)
 (nilP r25_0 fun a27 =>
 ∃ (v28 : BA), w26.cell? a27 = some (.string v28) ∧
 ((!(decide ((v28.size : Int) < 4))) = true → 0 ≤ (0 : Int) ∧ 0 < (v28.size : Int)) ∧
 ((!((decide ((v28.size : Int) < 4)) || ((bt v28 0) != 91))) = true → 0 ≤ (2 : Int) ∧ 2 < (v28.size : Int)) ∧
 ((!(((decide ((v28.size : Int) < 4)) || ((bt v28 0) != 91)) || ((bt v28 2) != 93))) = true → 0 ≤ (1 : Int) ∧ 1 < (v28.size : Int)) ∧
 (((!(((decide ((v28.size : Int) < 4)) || ((bt v28 0) != 91)) || ((bt v28 2) != 93))) && ((bt v28 1) != 32)) = true → 0 ≤ (1 : Int) ∧ 1 < (v28.size : Int)) ∧
 (((!(((decide ((v28.size : Int) < 4)) || ((bt v28 0) != 91)) || ((bt v28 2) != 93))) && (((bt v28 1) != 32) && ((bt v28 1) != 120))) = true → 0 ≤ (1 : Int) ∧ 1 < (v28.size : Int)) ∧
 br ((((decide ((v28.size : Int) < 4)) || ((bt v28 0) != 91)) || ((bt v28 2) != 93)) || ((((bt v28 1) != 32) && ((bt v28 1) != 120)) && ((bt v28 1) != 88)))
 (Xa x0 x17q x17n x17c x18 (IntKind.i64.wrap (x19 + 1)) w26)
 (k2 R Xa x0 x7 v28 x17q x17n x17c x18 x19 w26)))

def bl1 (R : EP) (Xa : OA → OA → Nat → Nat → Int → Int → WP) (x0 x17q : OA) (x17n x17c : Nat) (x18 x19 : Int) (w : World) : Prop :=
 br (decide (x19 < x18))
 (0 ≤ x19 ∧ x19 < (x17n : Int) ∧
 nilP x17q fun a3 =>
 ∃ (v4 : Value), w.cell? (a3.add (Int.toNat x19 * 1)) = some v4 ∧
 ∃ (r5 : OA), ∃ w6, (Instr.typeAssert v4 ty_Block ty_P_Item false).run P w = .ok (.pointer r5) w6 ∧
 nilP r5 fun a7 =>
 ∃ (v8q : OA), ∃ (v8n : Nat), ∃ (v8c : Nat), w6.cell? (a7.add 2) = some (.slice v8q v8n v8c) ∧
 br ((v8n : Int) == 0)
 (Xa x0 x17q x17n x17c x18 (IntKind.i64.wrap (x19 + 1)) w6)
 (nilP r5 fun a9 =>
 ∃ (v10q : OA), ∃ (v10n : Nat), ∃ (v10c : Nat), w6.cell? (a9.add 2) = some (.slice v10q v10n v10c) ∧
 0 ≤ (0 : Int) ∧ 0 < (v10n : Int) ∧
 nilP v10q fun a11 =>
 ∃ (v12 : Value), w6.cell? (a11.add (Int.toNat 0 * 1)) = some v12 ∧
 ∃ (r13_0 : OA), ∃ (r13_1 : Bool), ∃ w14, (Instr.typeAssert v12 ty_Block ty_P_Paragraph true).run P w6 = .ok (.tuple #[.pointer r13_0, .bool r13_1]) w14 ∧
 br r13_1
 (nilP r13_0 fun a15 =>
 ∃ (v16 : OA), w14.cell? (a15.add 2) = some (.pointer v16) ∧
 k1 R Xa x0 v16 x17q x17n x17c x18 x19 w14)
 (∃ (r17_0 : OA), ∃ (r17_1 : Bool), ∃ w18, (Instr.typeAssert v12 ty_Block ty_P_Text true).run P w14 = .ok (.tuple #[.pointer r17_0, .bool r17_1]) w18 ∧
 br r17_1
 (k1 R Xa x0 r17_0 x17q x17n x17c x18 x19 w18)
 (Xa x0 x17q x17n x17c x18 (IntKind.i64.wrap (x19 + 1)) w18))))
 (R (.returned (.tuple #[])) w)
def l1 (R : EP) (x0 x17q : OA) (x17n x17c : Nat) (x18 x19 : Int) (w : World) : Prop :=
 ∀ X : OA → OA → Nat → Nat → Int → Int → WP, (∀ x0 x17q x17n x17c x18 x19 w, bl1 R X x0 x17q x17n x17c x18 x19 w → X x0 x17q x17n x17c x18 x19 w) → X x0 x17q x17n x17c x18 x19 w

noncomputable def al1 (R : EP) (Xa : OA → OA → Nat → Nat → Int → Int → WP) : AC :=
 (.seq (.leaf (sel [1,0,0,0] body)) (.seq (.leaf (sel [1,0,0,1,0] body)) (.seq (.block 1 (.seq (.leaf (sel [1,0,0,1,1,0,0,0] body)) (.seq (.leaf (sel [1,0,0,1,1,0,0,1,0] body)) (.seq (.leaf (sel [1,0,0,1,1,0,0,1,1,0] body)) (.seq (.leaf (sel [1,0,0,1,1,0,0,1,1,1,0] body)) (.seq (.leaf (sel [1,0,0,1,1,0,0,1,1,1,1,0] body)) (.mark (leaf [(0, .s .ptr), (7, .s .ptr), (17, .s .slice), (18, .s (.int .i64)), (19, .s (.int .i64))] (k1 R Xa)) (.seq (.leaf (sel [1,0,0,1,1,0,0,1,1,1,1,1,0] body)) (.seq (.leaf (sel [1,0,0,1,1,0,0,1,1,1,1,1,1,0] body)) (.seq (.leaf (sel [1,0,0,1,1,0,0,1,1,1,1,1,1,1,0] body)) (.seq (.leaf (sel [1,0,0,1,1,0,0,1,1,1,1,1,1,1,1,0] body)) (.seq (.leaf (sel [1,0,0,1,1,0,0,1,1,1,1,1,1,1,1,1,0] body)) (.mark (leaf [(0, .s .ptr), (7, .s .ptr), (13, .s .str), (17, .s .slice), (18, .s (.int .i64)), (19, .s (.int .i64))] (k2 R Xa)) (.seq (.seq (.leaf (sel [1,0,0,1,1,0,0,1,1,1,1,1,1,1,1,1,1,0,0] body)) (.mark (leaf [(0, .s .ptr), (7, .s .ptr), (13, .s .str), (17, .s .slice), (18, .s (.int .i64)), (19, .s (.int .i64)), (105, .s .bool)] (k3 R Xa)) (.leaf (sel [1,0,0,1,1,0,0,1,1,1,1,1,1,1,1,1,1,0,1] body)))) (.draw (.pure 0 (.pure 1 (.pure 2 (.pure 3 (.pure 4 (.pure 5 (.pure 6 (.pure 7 (.pure 8 (.pure 9 (.pure 12 (.pure 13 (.pure 14 (.pure 18 (.pure 19 (.pure 20 (.load 21 (.pure 22 (.two 10 (.pure 11 (.one 15 (.pure 16 (.one 17 (.one 23 (.pure 24 (.pure 25 (.one 26 .done)))))))) 15 (.pure 16 (.one 10 (.pure 11 (.one 17 (.one 23 (.pure 24 (.pure 25 (.one 26 .done))))))))))))))))))))))))))) (sel [1,0,0,1,1,0,0,1,1,1,1,1,1,1,1,1,1,1] body)))))))))))))))) (.leaf (sel [1,0,0,1,1,1] body)))))
end g_parseState_taskList
def g_parseState_taskList (R : EP) (x0 x1 : OA) (w : World) : Prop :=
 nilP x1 fun a1 =>
 ∃ (v2q : OA), ∃ (v2n : Nat), ∃ (v2c : Nat), w.cell? (a1.add 5) = some (.slice v2q v2n v2c) ∧
 g_parseState_taskList.l1 R x0 v2q v2n v2c (v2n : Int) 0 w

namespace g_parseState_taskList
noncomputable def ac (R : EP) : AC :=
 (.seq (.leaf (sel [0] body)) (.block 0 (.loop (leaf [(0, .s .ptr), (17, .s .slice), (18, .s (.int .i64)), (19, .s (.int .i64))] (l1 R)) (sel [1,0,0] body))))
theorem good (R : EP) : Good P 136 (ac R) (QF P [] R) :=
 ⟨trivial, (loopG (al1 R) (bl1 R) (fun _ => by kernel_rfl) (fun Xa => ⟨trivial, ⟨trivial, ⟨⟨trivial, ⟨trivial, ⟨trivial, ⟨trivial, ⟨trivial, ⟨⟨trivial, ⟨trivial, ⟨trivial, ⟨trivial, ⟨trivial, ⟨⟨⟨trivial, ⟨trivial, cutZ⟩⟩, ⟨by kernel_rfl, by kernel_rfl, fun _ _ _ h => h⟩⟩, cutZ⟩⟩⟩⟩⟩⟩, cutZ⟩⟩⟩⟩⟩⟩, trivial⟩⟩⟩) (fun Xa => by intro x0 x17q x17n x17c x18 x19 ρ w; kernel_rfl) (fun X h _ _ _ _ _ _ _ g => g X h))⟩
theorem eq (R : EP) (x0 x1 : OA) (w : World) : g_parseState_taskList R x0 x1 w = vcA P 136 (ac R) (QF P [] R) (fr0 [.pointer x0, .pointer x1]) w := by kernel_rfl
theorem sound {R : EP} {x0 x1 : OA} {w : World} (h : g_parseState_taskList R x0 x1 w) : callE P i_parseState_taskList #[.pointer x0, .pointer x1] R w :=
 callE_fz (c := body) Tryz.func71 Tryz.call71 (good R) (eq R x0 x1 w) h
end g_parseState_taskList
namespace g_Task_PrintHTML
noncomputable def body : Code := bodyOf Tryz.f345
end g_Task_PrintHTML
def g_Task_PrintHTML (R : EP) (x0 x1 : OA) (w : World) : Prop :=
 callE P i_bytes_Buffer_WriteString #[.pointer x1, .string (ByteArray.mk #[60, 105, 110, 112, 117, 116, 32])] (fun e w2 => ∃ (r1_0 : Int), ∃ (r1_1 : Value), e = .returned (.tuple #[.int .i64 r1_0, r1_1]) ∧
 nilP x0 fun a3 =>
 ∃ (v4 : Bool), w2.cell? a3 = some (.bool v4) ∧
 br v4
 (callE P i_bytes_Buffer_WriteString #[.pointer x1, .string (ByteArray.mk #[99, 104, 101, 99, 107, 101, 100, 61, 34, 34, 32])] (fun e w6 => ∃ (r5_0 : Int), ∃ (r5_1 : Value), e = .returned (.tuple #[.int .i64 r5_0, r5_1]) ∧
 callE P i_bytes_Buffer_WriteString #[.pointer x1, .string (ByteArray.mk #[100, 105, 115, 97, 98, 108, 101, 100, 61, 34, 34, 32, 116, 121, 112, 101, 61, 34, 99, 104, 101, 99, 107, 98, 111, 120, 34, 62])] (fun e w8 => ∃ (r7_0 : Int), ∃ (r7_1 : Value), e = .returned (.tuple #[.int .i64 r7_0, r7_1]) ∧
 R (.returned (.tuple #[])) w8) w6) w2)
 (callE P i_bytes_Buffer_WriteString #[.pointer x1, .string (ByteArray.mk #[100, 105, 115, 97, 98, 108, 101, 100, 61, 34, 34, 32, 116, 121, 112, 101, 61, 34, 99, 104, 101, 99, 107, 98, 111, 120, 34, 62])] (fun e w10 => ∃ (r9_0 : Int), ∃ (r9_1 : Value), e = .returned (.tuple #[.int .i64 r9_0, r9_1]) ∧
 R (.returned (.tuple #[])) w10) w2)) w

namespace g_Task_PrintHTML
noncomputable def ac (R : EP) : AC :=
 (.leaf (sel [] body))
theorem good (R : EP) : Good P 14 (ac R) (QF P [] R) :=
 trivial
theorem eq (R : EP) (x0 x1 : OA) (w : World) : g_Task_PrintHTML R x0 x1 w = vcA P 14 (ac R) (QF P [] R) (fr0 [.pointer x0, .pointer x1]) w := by kernel_rfl
theorem sound {R : EP} {x0 x1 : OA} {w : World} (h : g_Task_PrintHTML R x0 x1 w) : callE P i_Task_PrintHTML #[.pointer x0, .pointer x1] R w :=
 callE_fz (c := body) Tryz.func345 Tryz.call345 (good R) (eq R x0 x1 w) h
end g_Task_PrintHTML
end Go.Proofs.YtgbgadkldalkbaaGreatDoor

set_option linter.unusedVariables false
namespace Go.Proofs.YtgbgadkldalkbaaGreatDoor
open Go.Proofs Go.IntWalk Go.RowKit
variable {σ : Out} {w : World} {L L' : List Chunk} {R : Ending → World → Prop}
def olO : List UInt8 := [60, 111, 108, 62, 10]
def olC : List UInt8 := [60, 47, 111, 108, 62, 10]
theorem olist_prints {nb s e : Nat} {lo : Bool} {q : Option Addr} {n c : Nat} {vs : List Value} {RM KM KM' : List Chunk} {f : List UInt8 → List UInt8} (hS : Sl 1 ty_Block q n c vs RM) (hn : n < 4611686018427387904) (hP : PrintsL "PrintHTML" vs KM KM' f) :
 Prints "PrintHTML" (.iface ty_P_List (.pointer (some ⟨nb, 0, none⟩))) (lstC nb s e 46 1 lo q n c :: (RM ++ KM)) (lstC nb s e 46 1 lo q n c :: (RM ++ KM')) (fun l => f (l ++ olO) ++ olC) := by
 refine ⟨fun l => ?_, fun σ R b l M L w hB h hb hR => enter_meth meth_List ?_⟩
 ·have := hP.mono (l ++ olO)
  simp only [List.length_append] at *; omega
 refine g_List_PrintHTML.sound ?_
 have hm := hP.mono (l ++ olO)
 have e1 : olO.length = 5 := rfl
 have e2 : olC.length = 6 := rfl
 simp only [List.length_append] at hb hm
 refine nilP_some ⟨_, Sat.ld h (List.mem_append_right _ (.head _)) (i := 2) rfl, br_true rfl ?_⟩
 refine br_true rfl ?_
 refine writeS_ok (s := [60, 111, 108]) hB h (by simp only [List.length_cons, List.length_nil]; omega) fun w M hB h => ⟨_, _, rfl, nilP_some ?_⟩
 refine ⟨_, Sat.ld h (List.mem_append_right _ (.head _)) (i := 3) rfl, br_false rfl ?_⟩
 refine writeS_ok (s := [62, 10]) hB h (by simp only [List.length_append, List.length_cons, List.length_nil]; omega) fun w M hB h => ⟨_, _, rfl, nilP_some ?_⟩
 have hB : Buf b (l ++ olO) M := by
  have e0 : l ++ [60, 111, 108] ++ [62, 10] = l ++ olO := by simp [olO]
  rw [← e0]; exact hB
 refine ⟨_, _, _, Sat.ld h (List.mem_append_right _ (.head _)) (i := 5) rfl, ?_⟩
 intro X hX
 have h : Sat σ w (M ++ (RM ++ (KM ++ (lstC nb s e 46 1 lo q n c :: L)))) := h.re
 refine printLoop (X := fun j w => X (some ⟨nb, 0, none⟩) (some ⟨b, 0, none⟩) q n c (n : Int) j w) (END := fun w => nilP (some ⟨nb, 0, none⟩) fun a27 => ∃ (v28 : Int), w.cell? (a27.add 2) = some (.int .i32 v28) ∧
  br (v28 == 46) (g_List_PrintHTML.k3 R (some ⟨b, 0, none⟩) true w) (nilP (some ⟨nb, 0, none⟩) fun a29 => ∃ (v30 : Int), w.cell? (a29.add 2) = some (.int .i32 v30) ∧ g_List_PrintHTML.k3 R (some ⟨b, 0, none⟩) (v30 == 41) w)) hS (fun j w hj => hX _ _ _ _ _ _ _ _ hj) hP hB h hn (by omega) fun w M' hB h => ?_
 have hmem : lstC nb s e 46 1 lo q n c ∈ M' ++ (RM ++ (KM' ++ (lstC nb s e 46 1 lo q n c :: L))) := by simp
 refine nilP_some ⟨_, Sat.ld h hmem (i := 2) rfl, br_true rfl ?_⟩
 refine br_true rfl ?_
 refine writeS_ok (s := olC) hB h (by omega) fun w M hB h => ⟨_, _, rfl, ?_⟩
 exact hR w M hB (h.re)
theorem olist_shows {F : List UInt8 → List UInt8 → List UInt8} {nb s e : Nat} {lo : Bool} {q : Option Addr} {n c : Nat} {IM : List Chunk} {items : List IT} {gs : List (List UInt8 → List UInt8)} (hS : Sl 1 ty_Block q n c (items.map IT.v) IM) (hn : n < 4611686018427387904) (hD : Show F (items.map IT.db) gs) :
 (lisDB nb s e 46 1 lo q n c IM items).shows F (fun l => compL gs (l ++ olO) ++ olC) := by
 intro ts ht
 obtain ⟨KM, KM', hP, h1, h2⟩ := docs_print2 hD ts ht
 have ev : (items.map IT.db).map DB.v = items.map IT.v := by simp [Function.comp_def, IT.db]
 rw [ev] at hP
 refine (olist_prints (nb := nb) (s := s) (e := e) (lo := lo) hS hn hP).perm (fun a => ?_) fun a => ?_
 ·have := h1 a
  show cnt a (lstC nb s e 46 1 lo q n c :: (IM ++ ownC (items.map IT.db)) ++ fills (txsC (items.map IT.db)) ts) = _
  simp only [cnt_append, cnt_cons] at this ⊢; omega
 ·have := h2 a
  show cnt a (lstC nb s e 46 1 lo q n c :: (IM ++ ownC (items.map IT.db)) ++ fills' (txsC (items.map IT.db)) ts) = _
  simp only [cnt_append, cnt_cons] at this ⊢; omega
def boxO : List UInt8 := [60, 105, 110, 112, 117, 116, 32]
def boxX : List UInt8 := [99, 104, 101, 99, 107, 101, 100, 61, 34, 34, 32]
def boxE : List UInt8 := [100, 105, 115, 97, 98, 108, 101, 100, 61, 34, 34, 32, 116, 121, 112, 101, 61, 34, 99, 104, 101, 99, 107, 98, 111, 120, 34, 62]
def boxT (k : Bool) : List UInt8 := boxO ++ (if k then boxX else []) ++ boxE
theorem meth_Task : methB P ty_P_Task "PrintHTML" i_Task_PrintHTML = true := by kernel_rfl
def tskC (tb : Nat) (k : Bool) : Chunk := (tb, cel [.bool k] ty_Task)
theorem task_prints {tb : Nat} {k : Bool} : Prints "PrintHTML" (.iface ty_P_Task (.pointer (some ⟨tb, 0, none⟩))) [tskC tb k] [tskC tb k] (ab (boxT k)) := by
 refine ⟨ab_le _, fun σ R b l M L w hB h hb hR => enter_meth meth_Task ?_⟩
 refine g_Task_PrintHTML.sound ?_
 have hb : (l ++ boxT k).length ≤ 549755813888 := hb
 have e1 : boxO.length = 7 := rfl
 have e2 : boxX.length = 11 := rfl
 have e3 : boxE.length = 28 := rfl
 unfold boxT at hb
 simp only [List.length_append] at hb
 refine writeS_ok (s := boxO) hB h (by omega) fun w M hB h => ⟨_, _, rfl, nilP_some ?_⟩
 refine ⟨k, Sat.ld h (List.mem_append_right _ (.head _)) (i := 0) rfl, ?_⟩
 cases k with
 | true =>
  simp only [if_true] at hb
  refine br_true rfl ?_
  refine writeS_ok (s := boxX) hB h (by simp only [List.length_append]; omega) fun w M hB h => ⟨_, _, rfl, ?_⟩
  refine writeS_ok (s := boxE) hB h (by simp only [List.length_append]; omega) fun w M hB h => ⟨_, _, rfl, hR w M ?_ h⟩
  have e : l ++ boxO ++ boxX ++ boxE = ab (boxT true) l := by simp [ab, boxT]
  rw [← e]; exact hB
 | false =>
  refine br_false rfl ?_
  refine writeS_ok (s := boxE) hB h (by simp only [List.length_append]; omega) fun w M hB h => ⟨_, _, rfl, hR w M ?_ h⟩
  have e : l ++ boxO ++ boxE = ab (boxT false) l := by simp [ab, boxT]
  rw [← e]; exact hB
end Go.Proofs.YtgbgadkldalkbaaGreatDoor

