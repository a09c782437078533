/- Part 6 of the proof of the law FnItems: for every input the law returns true, the inputs read as they did, and memory that was there is as it was; under the conditions of the given row alone. -/
import Derived.Test.YtihmcipajjakgaaGreatDoorA5
set_option linter.all false
set_option linter.unusedVariables false
namespace Go.Proofs.YtihmcipajjakgaaGreatDoor
open Go.Proofs Go.IntWalk Go.RowKit
variable {σ : Out} {w : World} {L L' : List Chunk} {R : Ending → World → Prop}
theorem DB.kindOK.ifc {d : DB} (h : d.kindOK) : d.ifc ∧ (tightDB d).ifc := by
  rcases h with ⟨nb, t, s, e, raw, rfl⟩ | ⟨ty, q, h, ht⟩
  · rw [tightDB_para]
    exact ⟨⟨_, _, rfl⟩, ⟨_, _, rfl⟩⟩
  · rw [tightDB_other h ht]
    exact ⟨⟨_, _, h⟩, ⟨_, _, h⟩⟩
theorem Ret.facts {is is' : List IT} (h : Ret is is') (hk : ∀ i ∈ is, ∀ d ∈ i.D, d.kindOK) : txsC (is'.map IT.db) = txsC (is.map IT.db) ∧ ∀ i ∈ is', i.ok ∧ ∀ d ∈ i.D, d.ifc := by
  induction h with
  | nil => exact ⟨rfl, by simp⟩
  | @cons i i' is is' h1 h2 _ ih =>
    obtain ⟨e1, e2⟩ := ih fun j hj => hk j (List.mem_cons_of_mem _ hj)
    have hki := hk i (by simp)
    have ed : i'.D = i.D.map tightDB := by rw [h1]
    refine ⟨?_, fun j hj => ?_⟩
    · show txsC i'.D ++ txsC (is'.map IT.db) = txsC i.D ++ txsC (is.map IT.db)
      rw [e1, ed, (ownC_tight hki).2]
    · rcases List.mem_cons.1 hj with rfl | hj
      · refine ⟨h2, fun d hd => ?_⟩
        rw [ed] at hd
        obtain ⟨d0, hd0, rfl⟩ := List.mem_map.1 hd
        exact (hki d0 hd0).ifc.2
      · exact e2 j hj
def Tgh (lo : Bool) (items items' : List IT) : Prop := lo = true ∧ items' = items ∨ lo = false ∧ Ret items items'
theorem closeListC {b lb pb : Nat} {op : Opt} {bul num : Int} {it : Option Addr} {gs : List Bk} {par f : Bk} {p : PS} {items : List IT} {pos : DB → Nat × Nat} (h : DocC σ b L (gs ++ [par, f]) .none p w) (hf : f.isList lb bul num it) (hfD : f.D = items.map IT.db) (hne : items ≠ [])
    (hio : ∀ i ∈ items, i.ok ∧ ∀ d ∈ i.D, d.kindOK ∧ d.posIs (pos d).1 (pos d).2 ∧ (pos d).1 < 1000000000 ∧ (pos d).2 < 1000000000) (hpz : p.pz = some ⟨pb, 0, none⟩) (hop : op.at pb ∈ L) (htask : op.task = false) (hD : par.D.length < 99999)
    (hR : ∀ w (p' : PS) par' nb e items' x, p'.base = p.base → p'.depth = p.depth → p'.lineno = p.lineno → p'.stn = gs.length + 1 → par'.like par → Tgh (gapI pos items) items items' → (∃ i ∈ items, e = i.e) → par'.D = par.D ++ [lisDB nb f.ob.s e bul num (gapI pos items) f.ob.q f.ob.n f.ob.c f.IM items'] →
      DocC σ b L (gs ++ [par']) .none p' w → R (.returned x) w) :
    callE P i_parseState_closeBlock #[.pointer (some ⟨b, 0, none⟩)] R w := by
  obtain ⟨M, TM, lobs, LM, hs, ht, hok, ⟨rfl, rfl⟩, h⟩ := h
  obtain ⟨hbd, hown⟩ := hf
  have hs : Stk p (gs.map Bk.ob ++ [par.ob] ++ [f.ob]) M := by simpa using hs
  have hpok := (hok par (by simp)).1
  obtain ⟨hfo1, hfo2, hfo3⟩ := hok f (by simp)
  have hpn : par.ob.n = par.D.length := by have := hpok.1; simp at this; omega
  have hdv : f.D.map DB.v = items.map IT.v := by rw [hfD]; simp [Function.comp_def, IT.db]
  rw [hdv] at hfo1
  have hil : items.length < 100000 := by rw [hfD] at hfo2; simpa using hfo2
  have htxf : txc f.D = (txsC (items.map IT.db)).map TX.chunk := by rw [hfD]; rfl
  rw [memFs_append, memFs_two, hown, hfD] at h
  refine closeB_build h hs hbd fun w h => ?_
  rw [hbd]
  have h : Sat σ w (p.at b :: M ++ (lisC lb bul num false it .nilFunc :: (f.IM ++ (ownC (items.map IT.db) ++ (par.IM ++ (TM ++ (memFs gs ++ (par.own ++ (ownC par.D ++ (txc par.D ++ (txc (items.map IT.db) ++ L))))))))))) := h.re (by intro _; simp only [List.append_eq, cnt_append, cnt_cons, cnt_nil] <;> omega)
  refine enter_meth meth_listBuild ?_
  refine listBuild_ok (pos := pos) h hs hfo1 hne (by omega) hfo3.1 hio fun w nb e items' htg he h => ⟨_, rfl, some ⟨nb, 0, none⟩, true, w, ta_yes (by rw [und_PList]; intro ms h; cases h) und_PList w, br_true rfl (nilP_some ?_)⟩
  have hvs : items'.map IT.v = items.map IT.v := by
    rcases htg with ⟨_, rfl⟩ | ⟨_, hr⟩
    · rfl
    · exact hr.vs
  have hfacts : txsC (items'.map IT.db) = txsC (items.map IT.db) ∧ ∀ i ∈ items', i.ok ∧ ∀ d ∈ i.D, d.ifc := by
    rcases htg with ⟨_, rfl⟩ | ⟨_, hr⟩
    · exact ⟨rfl, fun i hi => ⟨(hio i hi).1, fun d hd => ((hio i hi).2 d hd).1.ifc.1⟩⟩
    · exact hr.facts fun i hi d hd => ((hio i hi).2 d hd).1
  have hlen' : items'.length < 1000000 := by have := congrArg List.length hvs; simp at this; omega
  have k2 : ∀ (kk : Bool) w, Sat σ w (({ p with corner := kk } : PS).at b :: M ++ (lstC nb f.ob.s e bul num (gapI pos items) f.ob.q f.ob.n f.ob.c :: (f.IM ++ (ownC (items'.map IT.db) ++ (par.IM ++ (TM ++ (memFs gs ++ (par.own ++ (ownC par.D ++ (txc par.D ++ (txc (items.map IT.db) ++ L))))))))))) →
      g_parseState_closeBlock.k2 R (some ⟨b, 0, none⟩) (.iface ty_P_List (.pointer (some ⟨nb, 0, none⟩))) (some ⟨nb, 0, none⟩) w := by
    intro kk w h
    refine nilP_some ⟨_, Sat.ld h (.head _) (i := 0) rfl, ?_⟩
    rw [hpz]
    refine nilP_some ⟨_, Sat.ld h (by simp [hop] : op.at pb ∈ _) rfl, br_false htask ?_⟩
    have h : Sat σ w (({ p with corner := kk } : PS).at b :: M ++ (par.IM ++ (TM ++ (memFs gs ++ (par.own ++ (ownC par.D ++ (txc par.D ++ ((lstC nb f.ob.s e bul num (gapI pos items) f.ob.q f.ob.n f.ob.c :: (f.IM ++ ownC (items'.map IT.db))) ++ (txc f.D ++ L))))))))) := by
      rw [hfD]
      exact h.re (by intro _; simp only [List.append_eq, cnt_append, cnt_cons, cnt_nil] <;> omega)
    refine closeB_k3 h (hs.of rfl rfl rfl) hpok (by omega) fun w p2 M2 IM2 q' c' hp2 hs2 hI2 h => ?_
    have e2 : p2 = { p with corner := kk, stn := gs.length + 1 } := by rw [hp2, List.length_map]
    rw [e2] at hs2 h
    refine hR w { p with corner := kk, stn := gs.length + 1 } ⟨{ par.ob with q := q', n := par.ob.n + 1, c := c' }, par.own, par.D ++ [lisDB nb f.ob.s e bul num (gapI pos items) f.ob.q f.ob.n f.ob.c f.IM items'], IM2⟩ nb e items' _ rfl rfl rfl rfl ⟨rfl, rfl, rfl, rfl⟩ htg he rfl
      (DocC.closed (par := par) (f := f) (d := lisDB nb f.ob.s e bul num (gapI pos items) f.ob.q f.ob.n f.ob.c f.IM items') hok hD hs2 hI2 (ht.of rfl rfl rfl) ?_ ?_)
    · rw [hfD]; exact hfacts.1
    · exact h
  refine ⟨_, Sat.ld h (.head _) (i := 6) rfl, br_split (fun _ => nilP_some ?_) fun _ => ?_⟩
  · refine Sat.st h (k := 0) rfl (by simp [PS.cells]) trivial rfl fun w h => ?_
    exact k2 true w h
  · refine listCorner_ok (nb := nb) (s := f.ob.s) (e := e) (bul := bul) (num := num) (loose := gapI pos items) (items := items') (hvs ▸ hfo1) hfacts.2 hlen' h (fun x hx => ?_) fun kk => ⟨_, rfl, nilP_some ?_⟩
    · rcases List.mem_cons.1 hx with rfl | hx
      · simp
      · rcases List.mem_append.1 hx with hx | hx <;> simp [hx]
    · refine Sat.st h (k := 0) rfl (by simp [PS.cells]) trivial rfl fun w h => ?_
      exact k2 kk w h
end Go.Proofs.YtihmcipajjakgaaGreatDoor


set_option linter.unusedVariables false
namespace Go.Proofs.YtihmcipajjakgaaGreatDoor
open Go.Proofs Go.IntWalk Go.RowKit
variable {σ : Out} {w : World} {L L' : List Chunk} {R : Ending → World → Prop}
structure Ln.has (l : Ln) (c : UInt8) (rest : List UInt8) : Prop where
  ok : l.ok
  sp : l.sp = 0
  tx : l.text.drop l.i = c :: rest
theorem Ln.has.get {l : Ln} {c : UInt8} {r : List UInt8} (h : l.has c r) : l.text[l.i]? = some c := by
  have := congrArg (fun x : List UInt8 => x[0]?) h.tx
  simpa using this
theorem Ln.has.lt {l : Ln} {c : UInt8} {r : List UInt8} (h : l.has c r) : l.i < l.text.length := by
  have := congrArg List.length h.tx
  simp at this; omega
theorem Ln.has.next {l : Ln} {c d : UInt8} {r : List UInt8} (h : l.has c (d :: r)) : ({ l with i := l.i + 1 } : Ln).has d r := by
  have hlt := congrArg List.length h.tx
  simp at hlt
  refine ⟨⟨by show l.i + 1 ≤ l.text.length; omega, by show l.tab ≤ l.i + 1; have := h.ok.tab; omega, h.ok.len, h.ok.sp⟩, h.sp, ?_⟩
  show l.text.drop (l.i + 1) = d :: r
  have := congrArg (List.drop 1) h.tx
  rw [List.drop_drop] at this
  simpa [Nat.add_comm] using this
theorem Ln.has.tsGo {l : Ln} {c : UInt8} {r : List UInt8} (h : l.has c r) (hc : isST c = false) (mn k n : Nat) (e : Bool) : l.tsGo mn e (k + 1) n = if mn ≤ n then some l else none := by
  simp only [isST, Bool.or_eq_false_iff, beq_eq_false_iff_ne, ne_eq] at hc
  have hlt := h.lt
  simp [Ln.tsGo, h.sp, h.get, hc.1, hc.2, Nat.not_le.2 hlt]
theorem Ln.has.sp1 {l : Ln} {r : List UInt8} {mn : Nat} {e : Bool} (h : l.has 32 r) : l.trimSp mn 1 e = some { l with i := l.i + 1 } := by
  have hlt := h.lt
  simp [Ln.trimSp, Ln.tsGo, h.sp, h.get, Nat.not_le.2 hlt]
theorem Ln.has.lead {l : Ln} {c : UInt8} {r : List UInt8} (h : l.has c r) (hc : isST c = false) (k : Nat) (e : Bool) : l.lead (k + 1) e = l := by
  unfold Ln.lead Ln.trimSp; rw [h.tsGo hc]; rfl
theorem Ln.has.strip {l : Ln} {c : UInt8} {r : List UInt8} (h : l.has c r) (hc : isST c = false) : l.strip 3 0 = (0, l) := by
  simp only [Ln.strip, Ln.trimSp]; rw [h.tsGo hc]; rfl
theorem Ln.has.peek {l : Ln} {c : UInt8} {r : List UInt8} (h : l.has c r) : l.peek = c := by
  unfold Ln.peek
  rw [h.sp, if_neg (by decide), List.getD_eq_getElem?_getD, h.get]; rfl
theorem Ln.has.trimC {l : Ln} {c : UInt8} {r : List UInt8} (h : l.has c r) (d : UInt8) : l.trimC d = if c = d then some { l with i := l.i + 1 } else none := by
  unfold Ln.trimC
  rw [h.sp, if_neg (by decide), h.get]
  simp
theorem Ln.has.blank {l : Ln} {c : UInt8} {r : List UInt8} (h : l.has c r) (hc : isST c = false) : l.blank = false := by
  unfold Ln.blank
  rw [h.tx, List.all_cons, hc]; rfl
theorem Ln.has.plain {l : Ln} {c : UInt8} {r : List UInt8} (h : l.has c r) (hc : plainStart c = true) : l.plain := by
  simp only [plainStart, Bool.and_eq_true, Bool.not_eq_true', bne_iff_ne, ne_eq] at hc
  obtain ⟨⟨h0, h60⟩, hbu⟩ := hc
  have hst := plainStart0_st h0
  simp only [plainStart0, Bool.not_eq_true', Bool.or_eq_false_iff, beq_eq_false_iff_ne, ne_eq] at h0
  obtain ⟨⟨⟨⟨⟨⟨⟨⟨_, h62⟩, h35⟩, h95⟩, h96⟩, h126⟩, h61⟩, h45⟩, h42⟩ := h0
  have hlead : ∀ e, l.lead 3 e = l := h.lead hst 2
  have hpk : (l.lead 3 false).peek = c := by rw [hlead]; exact h.peek
  refine ⟨h.ok, h.blank hst, ?_, ?_, ?_, LDecl.of_peek h.ok (by rw [h.strip hst, h.peek]; exact hbu), HDecl.of_peek h.ok (by rw [hpk]; exact h60), ?_, ?_⟩
  · unfold Ln.quote; rw [hlead, h.trimC, if_neg h62]; rfl
  · unfold Ln.heading; rw [hlead, h.trimC, if_neg h35]
  · unfold Ln.isHR
    simp only [hlead, h.peek]
    rw [if_neg]
    rintro (hh | hh | hh)
    · exact h45 hh
    · exact h95 hh
    · exact h42 hh
  · rw [h.strip hst, h.peek]; exact ⟨h96, h126⟩
  · unfold Ln.trimSp; rw [h.tsGo hst]; rfl
theorem Ln.has.quote {l : Ln} {d : UInt8} {r : List UInt8} (h : l.has 62 (32 :: d :: r)) : l.quote = some { l with i := l.i + 2 } := by
  unfold Ln.quote
  rw [h.lead (by decide) 2, h.trimC, if_pos rfl]
  show some (Ln.lead 1 true _) = _
  unfold Ln.lead
  rw [h.next.sp1]
  rfl
theorem Ln.has.bullet {l : Ln} {c d : UInt8} {r : List UInt8} (h : l.has c (32 :: d :: r)) (hc : c = 45 ∨ c = 42 ∨ c = 43) (hd : isST d = false) : l.bullet = some (c, 2, { l with i := l.i + 2 }) := by
  have hst : isST c = false := by rcases hc with rfl | rfl | rfl <;> decide
  have h2 := h.next.next
  unfold Ln.bullet
  rw [h.strip hst]
  simp only [h.peek]
  rw [if_pos hc, h.trimC, if_pos rfl]
  show (match (Ln.trimSp 1 1 true _) with | none => none | some t2 => _) = _
  rw [h.next.sp1]
  simp only
  rw [h2.strip hd]
  simp only
  have : Ln.trimSp 1 1 true ({ l with i := l.i + 1 + 1 } : Ln) = none := by
    unfold Ln.trimSp; rw [h2.tsGo hd]; rfl
  rw [this]
theorem dropST_end {d : UInt8} (hd : isST d = false) : ∀ m : List UInt8, ∃ m3, (m ++ [d]).dropWhile isST = m3 ++ [d]
  | [] => ⟨[], by simp [hd]⟩
  | x :: m => by
    rw [List.cons_append, List.dropWhile_cons]
    split
    · exact dropST_end hd m
    · exact ⟨x :: m, rfl⟩
theorem drop_suffix {u s : List UInt8} (h : u <:+ s) : s.drop (s.length - u.length) = u := by
  obtain ⟨a, rfl⟩ := h
  rw [List.length_append, Nat.add_sub_cancel, List.drop_left]
theorem Ln.hrGo_end {c d : UInt8} : ∀ (f n : Nat) (l : Ln), l.ok → l.sp = 0 → (∃ m, l.text.drop l.i = m ++ [d]) → d ≠ c → isST d = false → l.hrGo c f n = false
  | 0, _, _, _, _, _, _, _ => rfl
  | f + 1, n, l, hl, hsp, ⟨m, hm⟩, hdc, hd => by
    cases m with
    | nil =>
      have h : l.has d [] := ⟨hl, hsp, hm⟩
      have := h.lt
      simp only [Ln.hrGo]
      rw [h.trimC, if_neg hdc]
      simp; omega
    | cons x m =>
      have h : l.has x (m ++ [d]) := ⟨hl, hsp, by rw [hm]; rfl⟩
      have hlt := h.lt
      simp only [Ln.hrGo]
      rw [h.trimC]
      by_cases hx : x = c
      · rw [if_pos hx]
        simp only
        have hnx : ∃ y m2, m ++ [d] = y :: m2 := by cases m with | nil => exact ⟨_, _, rfl⟩ | cons y m2 => exact ⟨_, _, rfl⟩
        obtain ⟨y, m2, hy⟩ := hnx
        have h1 := (hy ▸ h : l.has x (y :: m2)).next
        have hdrop : ({ l with i := l.i + 1 } : Ln).text.drop (l.i + 1) = m ++ [d] := by rw [hy]; exact h1.tx
        have hsk := Ln.skip_ok h1.ok
        refine Ln.hrGo_end f (n + 1) _ hsk rfl ?_ hdc hd
        show ∃ m3, l.text.drop (({ l with i := l.i + 1 } : Ln).skip.i) = m3 ++ [d]
        have e : l.text.drop (l.i + 1) = m ++ [d] := hdrop
        have hi : ({ l with i := l.i + 1 } : Ln).skip.i = l.text.length - ((m ++ [d]).dropWhile isST).length := by
          simp only [Ln.skip, e]
        rw [hi, drop_suffix ((List.dropWhile_suffix _).trans (e ▸ List.drop_suffix _ _))]
        exact dropST_end hd m
      · rw [if_neg hx]
        simp; omega
theorem Ln.has.isHR {l : Ln} {c d : UInt8} {r m : List UInt8} (h : l.has c r) (hc : isST c = false) (hm : c :: r = m ++ [d]) (hd : isST d = false) (hdc : d ≠ 45 ∧ d ≠ 95 ∧ d ≠ 42) : l.isHR = false := by
  unfold Ln.isHR
  simp only [h.lead hc 2, h.peek]
  split
  · rename_i hh
    refine Ln.hrGo_end _ _ l h.ok h.sp ⟨m, by rw [h.tx, hm]⟩ ?_ hd
    rcases hh with rfl | rfl | rfl
    · exact hdc.1
    · exact hdc.2.1
    · exact hdc.2.2
  · rfl
theorem decl_bullet {b : Nat} {p : PS} {M : List Chunk} {l : Ln} {c : UInt8} {r : List UInt8} (hS : Decl b p M l i_newSetextHeading) (h : l.has c r) (hc : c = 45 ∨ c = 42 ∨ c = 43) (hHR : l.isHR = false) : ∀ j (hj : j < newsF.length), j < 4 → Decl b p M l newsF[j] := by
  have hst : isST c = false := by rcases hc with rfl | rfl | rfl <;> decide
  have h62 : c ≠ 62 := by rcases hc with rfl | rfl | rfl <;> decide
  have h35 : c ≠ 35 := by rcases hc with rfl | rfl | rfl <;> decide
  intro j hj h4
  match j, h4 with
  | 0, _ => exact fun σ w L R hS hR => newQuote_no (x := .nilIface) hS h.ok (by unfold Ln.quote; rw [h.lead hst 2, h.trimC, if_neg h62]; rfl) hR
  | 1, _ => exact fun σ w L R hS hR => newATX_no hS h.ok (by unfold Ln.heading; rw [h.lead hst 2, h.trimC, if_neg h35]) hR
  | 2, _ => exact hS
  | 3, _ => exact fun σ w L R hS hR => newHR_no hS h.ok hHR hR
end Go.Proofs.YtihmcipajjakgaaGreatDoor


set_option linter.unusedVariables false
namespace Go.Proofs.YtihmcipajjakgaaGreatDoor
open Go.Proofs Go.IntWalk Go.RowKit
variable {σ : Out} {w : World} {L L' : List Chunk} {R : Ending → World → Prop}
def Runs (R : Ending → World → Prop) (Xb : OA → Nat → WP) (b b1 : Nat) : Prop :=
  ∀ w, (∀ X : OA → Nat → WP, (∀ x0 x3 w, g_parseState_addLine.bl102 R X x0 x3 w → X x0 x3 w) → g_parseState_addLine.bl102 R X (some ⟨b, 0, none⟩) b1 w) → Xb (some ⟨b, 0, none⟩) b1 w
theorem Runs.top (b b1 : Nat) : Runs R (g_parseState_addLine.l102 R) b b1 := fun w H X hX => hX _ _ _ (H X hX)
theorem Runs.of {X : OA → Nat → WP} (hX : ∀ x0 x3 w, g_parseState_addLine.bl102 R X x0 x3 w → X x0 x3 w) (b b1 : Nat) : Runs R X b b1 := fun w H => hX _ _ _ (H X hX)
theorem pushListC {Xb : OA → Nat → WP} {b b1 : Nat} {gs : List Bk} {top : Bk} {p : PS} {l l2 : Ln} {r r2 : List UInt8} {c d : UInt8} {n : Nat} {ty : TypeId} {v : Value} (hXb : Runs R Xb b b1) (h : DocC σ b (l.at b1 :: L) (gs ++ [top]) .none p w) (hd : p.depth = gs.length) (hgl : gs.length < 100000)
    (hbd : top.ob.bd = .iface ty v) (h1 : ty ≠ ty_P_paraBuilder) (h2 : ty ≠ ty_P_listBuilder) (hl : l.has c r) (hc : c = 45 ∨ c = 42 ∨ c = 43) (hHR : l.isHR = false) (hbul : l.bullet = some (c, n, l2)) (hl2 : l2.has d r2) (hst : isST d = false) (hno : p.lineno < 1000000000)
    (hX : ∀ (X : OA → Nat → WP), (∀ x0 x3 w, g_parseState_addLine.bl102 R X x0 x3 w → X x0 x3 w) → ∀ w (p' : PS) f g lb it, p'.base = p.base → p'.lineno = p.lineno → p'.depth = p.depth + 2 → f.isList lb c.toNat 0 it → f.D = [] → ItemOf it g lb n true → g.D = [] → f.ob.s = p.lineno → g.ob.s = p.lineno → g.ob.e = p.lineno → DocC σ b (l2.at b1 :: L) (gs ++ [top] ++ [f, g]) .none p' w → X (some ⟨b, 0, none⟩) b1 w) :
    g_parseState_addLine.bl102 R Xb (some ⟨b, 0, none⟩) b1 w := by
  obtain ⟨M, TM, lobs, LM, hs, ht, hok, ⟨rfl, rfl⟩, h⟩ := h
  have hs : Stk p (gs.map Bk.ob ++ [top.ob]) M := by simpa using hs
  have hcst : isST c = false := by rcases hc with rfl | rfl | rfl <;> decide
  have hb2 := hl2.blank hst
  have h : Sat σ w (p.at b :: M ++ (l.at b1 :: (TM ++ (memFs (gs ++ [top]) ++ L)))) := h.re (by intro _; simp only [List.append_eq, cnt_append, cnt_cons, cnt_nil] <;> omega)
  refine bl102_pass (l2 := l) 4 (by decide) h (decl_bullet (fun σ w L R hS hR => newSetext_no hS hs (by rw [hd]) (by simp) hbd h1 hl.ok hR) hl hc hHR) hl.ok (hl.blank hcst) fun w nb e R' h hk => ?_
  show callE P i_newListItem _ R' w
  refine newList_first h hs (by rw [hd]; simp) (by simp; omega) hbd h1 h2 hl.ok hbul fun w p' M' lb x2 x5 x15 x18 ib hp' hs' h => ?_
  have hd' : p'.depth = gs.length := by rw [hp']; exact hd
  rw [hb2, show (!false) = true from rfl] at h
  have h : Sat σ w (l.at b1 :: p'.at b :: (M' ++ (lisC lb c.toNat 0 false none (cloV x2 x18 x15 x5) :: (x2, cel [.pointer (some ⟨b, 0, none⟩)] ty_P_parseState) :: l2.at x5 :: lptC x15 lb :: iptC x18 ib :: iteC ib lb n true :: ((nb, cel newsC e) :: (TM ++ (memFs (gs ++ [top]) ++ L)))))) := h.re (by intro _; simp only [List.append_eq, cnt_append, cnt_cons, cnt_nil] <;> omega)
  refine hk w _ p' (by omega) h fun w h => ?_
  refine hXb w fun X hX' => ?_
  let p3 : PS := { p' with depth := p'.depth + 1 }
  have hs3 : Stk p3 (gs.map Bk.ob ++ [top.ob] ++ [⟨lisV lb, none, 0, 0, p.lineno, p.lineno⟩]) M' := hs'.of rfl rfl rfl
  have hd3 : p3.depth = (gs.map Bk.ob ++ [top.ob]).length := by show p'.depth + 1 = _; rw [hd']; simp
  have h : Sat σ w (l.at b1 :: p3.at b :: (M' ++ (lisC lb c.toNat 0 false none (cloV x2 x18 x15 x5) :: (x2, cel [.pointer (some ⟨b, 0, none⟩)] ty_P_parseState) :: l2.at x5 :: lptC x15 lb :: iptC x18 ib :: iteC ib lb n true :: ((nb, cel newsC e) :: (TM ++ (memFs (gs ++ [top]) ++ L)))))) := h
  have h : Sat σ w (p3.at b :: M' ++ (l.at b1 :: (lisC lb c.toNat 0 false none (cloV x2 x18 x15 x5) :: (x2, cel [.pointer (some ⟨b, 0, none⟩)] ty_P_parseState) :: l2.at x5 :: lptC x15 lb :: iptC x18 ib :: iteC ib lb n true :: ((nb, cel newsC e) :: (TM ++ (memFs (gs ++ [top]) ++ L)))))) := h.re (by intro _; simp only [List.append_eq, cnt_append, cnt_cons, cnt_nil] <;> omega)
  refine bl102_pass (l2 := l2) 4 (by decide) h (decl_bullet (fun σ w L R hS hR => newSetext_no hS hs3 hd3 rfl rfl (by decide) hl.ok hR) hl hc hHR) hl2.ok hb2 fun w nb2 e2 R2 h hk2 => ?_
  show callE P i_newListItem _ R2 w
  have h : Sat σ w (p3.at b :: M' ++ (lisC lb c.toNat 0 false none (cloV x2 x18 x15 x5) :: (x2, cel [.pointer (some ⟨b, 0, none⟩)] ty_P_parseState) :: l2.at x5 :: lptC x15 lb :: iptC x18 ib :: iteC ib lb n true :: (l.at b1 :: (nb2, cel newsC e2) :: (nb, cel newsC e) :: (TM ++ (memFs (gs ++ [top]) ++ L))))) := h.re (by intro _; simp only [List.append_eq, cnt_append, cnt_cons, cnt_nil] <;> omega)
  refine newList_todo (l := l) h hs3 hd3 (by simp; omega) rfl fun w p4 M4 hp4 hs4 h => ?_
  have hd4 : p4.depth = gs.length + 1 := by rw [hp4]; show p'.depth + 1 = _; rw [hd']
  have hl4 : p4.lineno = p.lineno := by rw [hp4]; show p'.lineno = _; rw [hp']
  have h : Sat σ w (l.at b1 :: p4.at b :: (M4 ++ (lisC lb c.toNat 0 false (some ⟨ib, 0, none⟩) .nilFunc :: iteC ib lb n true :: ((nb2, cel newsC e2) :: (nb, cel newsC e) :: (TM ++ (memFs (gs ++ [top]) ++ L)))))) := h.re (by intro _; simp only [List.append_eq, cnt_append, cnt_cons, cnt_nil] <;> omega)
  refine hk2 w _ p4 (by omega) h fun w h => ?_
  have hln3 : p3.lineno = p.lineno := by show p'.lineno = _; rw [hp']
  rw [hln3] at hs4
  refine hX X hX' w { p4 with depth := p4.depth + 1 } ⟨⟨lisV lb, none, 0, 0, p.lineno, p.lineno⟩, [lisC lb c.toNat 0 false (some ⟨ib, 0, none⟩) .nilFunc], [], []⟩ ⟨⟨iteV ib, none, 0, 0, p.lineno, p.lineno⟩, [iteC ib lb n true], [], []⟩ lb (some ⟨ib, 0, none⟩)
    (by rw [hp4]; show p'.base = _; rw [hp']; rfl) hl4 (by show p4.depth + 1 = _; rw [hd4, hd]; omega) ⟨rfl, rfl⟩ rfl ⟨ib, rfl, rfl, rfl⟩ rfl rfl rfl rfl ?_
  refine ⟨M4, TM, [], [], ?_, ?_, ?_, ⟨rfl, rfl⟩, ?_⟩
  · rw [List.append_nil]
    have e : (gs ++ [top] ++ [(⟨⟨lisV lb, none, 0, 0, p.lineno, p.lineno⟩, [lisC lb c.toNat 0 false (some ⟨ib, 0, none⟩) .nilFunc], [], []⟩ : Bk), ⟨⟨iteV ib, none, 0, 0, p.lineno, p.lineno⟩, [iteC ib lb n true], [], []⟩]).map Bk.ob = gs.map Bk.ob ++ [top.ob] ++ [⟨lisV lb, none, 0, 0, p.lineno, p.lineno⟩] ++ [⟨iteV ib, none, 0, 0, p.lineno, p.lineno⟩] := by simp
    rw [e]
    exact hs4.of rfl rfl rfl
  · rw [txF_append, txF_two]
    show Txts _ ((txF (gs ++ [top]) ++ ([] ++ [])).map TX.t) TM
    rw [List.append_nil, List.append_nil]
    exact ht.of (by show p4.tq = _; rw [hp4]; show p'.tq = _; rw [hp']) (by show p4.tn = _; rw [hp4]; show p'.tn = _; rw [hp']) (by show p4.tc = _; rw [hp4]; show p'.tc = _; rw [hp'])
  · intro g hg
    rcases List.mem_append.1 hg with hg | hg
    · exact hok g hg
    · rcases List.mem_cons.1 hg with rfl | hg
      · exact ⟨Sl.nil 1 ty_Block, by simp, hno, hno⟩
      · obtain rfl := List.mem_singleton.1 hg
        exact ⟨Sl.nil 1 ty_Block, by simp, hno, hno⟩
  · rw [memFs_append (gs ++ [top]), memFs_two]
    show Sat σ w (_ :: M4 ++ (TM ++ (memFs (gs ++ [top]) ++ (([] ++ ([lisC lb c.toNat 0 false (some ⟨ib, 0, none⟩) .nilFunc] ++ ([] ++ []))) ++ ([] ++ ([iteC ib lb n true] ++ ([] ++ [])))) ++ ([] ++ (l2.at b1 :: L)))))
    exact h.less [(nb, cel newsC e), (nb2, cel newsC e2)] (by intro _; simp only [List.append_eq, cnt_append, cnt_cons, cnt_nil] <;> omega)
theorem pushParaC {Xb : OA → Nat → WP} {b b1 pb : Nat} {op : Opt} {gs : List Bk} {top : Bk} {p : PS} {l : Ln} {ty : TypeId} {v : Value} (h : DocC σ b (l.at b1 :: L) (gs ++ [top]) .none p w) (hd : p.depth = gs.length) (hgl : gs.length < 100000)
    (hbd : top.ob.bd = .iface ty v) (h1 : ty ≠ ty_P_paraBuilder) (h2 : ty ≠ ty_P_listBuilder) (hl : l.plain) (hpz : p.pz = some ⟨pb, 0, none⟩) (hop : op.at pb ∈ L) (hno : p.lineno < 1000000000)
    (hR : ∀ w (p' : PS), p'.base = p.base → p'.lineno = p.lineno → DocC σ b L (gs ++ [top]) (.para [l.rest]) p' w → R (.returned (.tuple #[])) w) :
    g_parseState_addLine.bl102 R Xb (some ⟨b, 0, none⟩) b1 w := by
  obtain ⟨M, TM, lobs, LM, hs, ht, hok, ⟨rfl, rfl⟩, h⟩ := h
  have hs : Stk p (gs.map Bk.ob ++ [top.ob]) M := by simpa using hs
  have hd' : p.depth = (gs.map Bk.ob).length := by rw [hd]; simp
  have h : Sat σ w (p.at b :: M ++ (l.at b1 :: (TM ++ (memFs (gs ++ [top]) ++ L)))) := h.re (by intro _; simp only [List.append_eq, cnt_append, cnt_cons, cnt_nil] <;> omega)
  refine bl102_decl h (decl_all hs hd' hbd h1 h2 hl) fun w nb e R' h hk => ?_
  refine newPara_new (op := op) h hs hpz (by simp [hop]) hd' hbd h1 hl.ok (by simp; omega) fun w p' M' qb PM hp' hs' hPM h => ?_
  refine hk w true ?_
  refine hR w p' (by rw [hp']; rfl) (by rw [hp']) ⟨M', TM, [paraOB qb p.lineno p.lineno], PM, ?_, ht.of (by rw [hp']) (by rw [hp']) (by rw [hp']), hok, ⟨qb, p.lineno, p.lineno, rfl, hPM, hno, by simp, by simp⟩, ?_⟩
  · rw [List.map_append]; exact hs'
  · exact h.less [l.at b1, (nb, cel newsC e)] (by intro _; simp only [List.append_eq, cnt_append, cnt_cons, cnt_nil] <;> omega)
end Go.Proofs.YtihmcipajjakgaaGreatDoor


set_option linter.unusedVariables false
namespace Go.Proofs.YtihmcipajjakgaaGreatDoor
open Go.Proofs Go.IntWalk Go.RowKit
variable {σ : Out} {w : World} {L L' : List Chunk} {R : Ending → World → Prop}
theorem startListItem_numAt {b : Nat} {q : Option Addr} {l : Ln} {c : UInt8} {s : List UInt8} (h : Sat σ w (l.at b :: L)) (hh : l.has c s) (hl : l.text.length < 1000000) (hc : digB c = true) (hn : numNo (c :: s))
    (hR : ∀ w, Sat σ w (l.at b :: L) → R (.returned (.bool false)) w) : callE P i_parseState_startListItem #[.pointer q, .pointer (some ⟨b, 0, none⟩)] R w := by
  have hcd := hc
  simp only [digB, Bool.and_eq_true, decide_eq_true_eq] at hcd
  have hst : isST c = false := by
    simp only [isST, Bool.or_eq_false_iff, beq_eq_false_iff_ne, ne_eq]
    constructor <;> (rintro rfl; revert hcd; decide)
  have hlok := hh.ok
  have htl : l.text.length = l.i + (c :: s).length := by have := congrArg List.length hh.tx; have := hh.lt; simp at *; omega
  have hgd : ∀ j, l.text.getD (l.i + j) 0 = (c :: s).getD j 0 := by intro j; rw [← hh.tx, List.getD_eq_getElem?_getD, List.getD_eq_getElem?_getD, List.getElem?_drop]
  refine g_parseState_startListItem.sound ?_
  refine Sat.bx h fun b1 w h => ?_
  repeat (first | refine nilP_some ?_ | refine h.tk fun w h => ?_ | refine ⟨_, h.ldA, ?_⟩ | refine ⟨_, _, _, h.ldA, ?_⟩ | refine h.stA 0 fun w h => ?_ | refine h.stA 1 fun w h => ?_ | refine h.stA 2 fun w h => ?_ | refine h.stA 3 fun w h => ?_ | refine h.stA 4 fun w h => ?_ | refine h.stA 5 fun w h => ?_ | refine h.stA 6 fun w h => ?_ | refine h.bx fun b0 w h => ?_)
  have h : Sat σ _ (l.at b0 :: (b1, cel [.pointer q] ty_P_parseState) :: l.at b :: L) := h
  intro X hX
  refine hX _ _ _ _ _ (br_true (by simp) ?_)
  refine YtihmcipajjakgaaGreatDoor.trimSp_ok (min := 1) (max := 1) h hlok (by decide) (by decide) ?_
  have hts : l.trimSp 1 1 false = none := by unfold Ln.trimSp; rw [hh.tsGo hst]; rfl
  rw [hts]
  intro w h
  refine ⟨_, rfl, br_true rfl ?_⟩
  refine peek_ok h (by first | assumption | (repeat (first | exact .head _ | apply List.Mem.tail))) hlok fun w h => ⟨_, rfl, ?_⟩
  rw [hh.peek]
  have ne : ∀ (d : UInt8) (n : Int), (d.toNat : Int) = n → (d.toNat < 48 ∨ 57 < d.toNat) → (((c.toNat : Nat) : Int) == n) = false := by
    intro d n hd hn
    refine beqf hd ?_
    rintro rfl; omega
  have k4 : g_parseState_startListItem.k4 R b1 b0 0 0 true w := by
    refine br_true rfl ?_
    refine ⟨_, h.ldA, ?_⟩
    intro Y hY
    have key : ∀ k j v w, j + k = (c :: s).length → (∀ m, m < j → digB ((c :: s).getD m 0) = true) → Sat σ w (l.at b0 :: (b1, cel [.pointer q] ty_P_parseState) :: l.at b :: L) → Y b1 b0 0 v ((l.i + j : Nat) : Int) w := by
      intro k
      induction k with
      | zero =>
        intro j v w hj hall h
        refine hY _ _ _ _ _ _ ?_
        refine ⟨_, h.ldA, ?_⟩
        exact br_true (by rw [bs_size]; simp; omega) (hR _ h.tail.tail)
      | succ k ih =>
        intro j v w hj hall h
        refine hY _ _ _ _ _ _ ?_
        refine ⟨_, h.ldA, ?_⟩
        refine br_false (by rw [bs_size]; simp; omega) ?_
        refine ⟨_, h.ldA, ?_⟩
        refine ⟨by omega, by rw [bs_size]; omega, ?_⟩
        have hjl : j < (c :: s).length := by omega
        rw [bs_bt, hgd]
        have hdw : (c :: s).dropWhile digB = ((c :: s).drop j).dropWhile digB := by
          have : ∀ (m : Nat) (l : List UInt8), m ≤ l.length → (∀ i, i < m → digB (l.getD i 0) = true) → l.dropWhile digB = (l.drop m).dropWhile digB := by
            intro m
            induction m with
            | zero => intro l _ _; rfl
            | succ m ihm =>
              intro l hl ha
              cases l with
              | nil => simp at hl
              | cons x l =>
                have h0 : digB x = true := ha 0 (by omega)
                rw [List.dropWhile_cons_of_pos h0, List.drop_succ_cons]
                exact ihm l (by simpa using hl) (fun i hi => ha (i + 1) (by omega))
          exact this j _ (by omega) hall
        have hget : (c :: s).getD j 0 = (c :: s)[j] := by rw [List.getD_eq_getElem?_getD, List.getElem?_eq_getElem hjl]; rfl
        rw [hget]
        generalize hd : (c :: s)[j] = d at *
        by_cases hdig : digB d = true
        · have hd' := hdig
          simp only [digB, Bool.and_eq_true, decide_eq_true_eq] at hd'
          refine br_false ?_ (br_false (by simp; omega) ?_)
          · have a1 := u8b d 46 46 rfl
            have a2 := u8b d 41 41 rfl
            rw [a1, a2]
            have b1 : d ≠ 46 := by rintro rfl; revert hd'; decide
            have b2 : d ≠ 41 := by rintro rfl; revert hd'; decide
            simp [b1, b2]
          unfold g_parseState_startListItem.k9
          refine ⟨_, h.ldA, ?_⟩
          refine br_split (fun _ => hR _ h.tail.tail) fun _ => ?_
          rw [i64_inc (by omega), show l.i + j + 1 = l.i + (j + 1) by omega]
          refine ih (j + 1) _ w (by omega) ?_ h
          intro m hm
          rcases Nat.lt_or_ge m j with h1 | h1
          · exact hall m h1
          · obtain rfl : m = j := by omega
            rw [hget]; exact hdig
        · have hdf : digB d = false := by simpa using hdig
          have hh : ((c :: s).dropWhile digB).head? = some d := by
            rw [hdw, List.drop_eq_getElem_cons hjl, hd, List.dropWhile_cons_of_neg (by simp [hdf])]; rfl
          have n1 := hn.1; have n2 := hn.2
          rw [hh] at n1 n2
          refine br_false ?_ (br_true ?_ (hR _ h.tail.tail))
          · have a1 := u8b d 46 46 rfl
            have a2 := u8b d 41 41 rfl
            rw [a1, a2]
            have b1 : d ≠ 46 := fun h => n1 (by rw [h])
            have b2 : d ≠ 41 := fun h => n2 (by rw [h])
            simp [b1, b2]
          · simp only [digB, Bool.and_eq_false_iff, decide_eq_false_iff_not] at hdf
            simp; omega
    have := key (c :: s).length 0 0 w (by simp) (fun m hm => by omega) h
    rw [Nat.add_zero] at this; exact this
  refine br_false (ne 45 45 rfl (by decide)) (br_false (ne 42 42 rfl (by decide)) ?_)
  rw [ne 43 43 rfl (by decide)]
  refine br_false rfl ?_
  have hcn : c.toNat = 48 ∨ c.toNat = 49 ∨ c.toNat = 50 ∨ c.toNat = 51 ∨ c.toNat = 52 ∨ c.toNat = 53 ∨ c.toNat = 54 ∨ c.toNat = 55 ∨ c.toNat = 56 ∨ c.toNat = 57 := by omega
  rcases hcn with e | e | e | e | e | e | e | e | e | e <;> rw [e]
  · exact br_true rfl k4
  · exact br_false rfl (br_true rfl k4)
  · exact br_false rfl (br_false rfl (br_true rfl k4))
  · exact br_false rfl (br_false rfl (br_false rfl (br_true rfl k4)))
  · exact br_false rfl (br_false rfl (br_false rfl (br_false rfl (br_true rfl k4))))
  · exact br_false rfl (br_false rfl (br_false rfl (br_false rfl (br_false rfl (br_true rfl k4)))))
  · exact br_false rfl (br_false rfl (br_false rfl (br_false rfl (br_false rfl (br_false rfl (br_true rfl k4))))))
  · exact br_false rfl (br_false rfl (br_false rfl (br_false rfl (br_false rfl (br_false rfl (br_false rfl (br_true rfl k4)))))))
  · exact br_false rfl (br_false rfl (br_false rfl (br_false rfl (br_false rfl (br_false rfl (br_false rfl (br_false rfl (br_true rfl k4))))))))
  · exact br_false rfl (br_false rfl (br_false rfl (br_false rfl (br_false rfl (br_false rfl (br_false rfl (br_false rfl (br_false rfl (by exact k4)))))))))
theorem LDecl.numAt {l : Ln} {c : UInt8} {s : List UInt8} (hh : l.has c s) (hl : l.text.length < 1000000) (hc : digB c = true) (hn : numNo (c :: s)) : LDecl l := by
  intro b d p ob o M t v hs hd ho hb ht σ w L R h hR
  refine g_newListItem.sound ?_
  refine Sat.bx h fun b1 w h => ?_
  refine Sat.bx h fun b3 w h => ?_
  have h : Sat σ w (zLn b3 :: l.at b1 :: (p.at b :: M ++ L)) := h
  have h : Sat σ w (p.at b :: M ++ (zLn b3 :: l.at b1 :: L)) := h.re (by intro _; simp only [List.append_eq, cnt_append, cnt_cons, cnt_nil] <;> omega)
  refine curB_ok h hs hd fun w h => ?_
  rw [ho]
  dsimp only
  refine ⟨_, rfl, none, false, w, by rw [hb]; exact ta_listBuilder_no ht w, br_false rfl (br_false rfl ?_)⟩
  have h : Sat σ w (l.at b1 :: zLn b3 :: p.at b :: M ++ L) := h.re (by intro _; simp only [List.append_eq, cnt_append, cnt_cons, cnt_nil] <;> omega)
  refine startListItem_numAt h hh hl hc hn fun w h => ⟨_, rfl, br_false rfl ?_⟩
  repeat (first | refine nilP_some ?_ | refine h.tk fun w h => ?_ | refine ⟨_, h.ldA, ?_⟩ | refine ⟨_, _, _, h.ldA, ?_⟩ | refine h.stA 0 fun w h => ?_ | refine h.stA 1 fun w h => ?_ | refine h.stA 2 fun w h => ?_ | refine h.stA 3 fun w h => ?_ | refine h.stA 4 fun w h => ?_ | refine h.stA 5 fun w h => ?_ | refine h.stA 6 fun w h => ?_ | refine h.bx fun b0 w h => ?_)
  exact hR _ h.tail.tail
theorem Ln.has.plain0 {l : Ln} {c : UInt8} {r : List UInt8} (h : l.has c r) (h0 : plainStart0 c = true) (hB : LDecl l) (hH : HDecl l) : l.plain := by
  have hst := plainStart0_st h0
  simp only [plainStart0, Bool.not_eq_true', Bool.or_eq_false_iff, beq_eq_false_iff_ne, ne_eq] at h0
  obtain ⟨⟨⟨⟨⟨⟨⟨⟨_, h62⟩, h35⟩, h95⟩, h96⟩, h126⟩, h61⟩, h45⟩, h42⟩ := h0
  have hlead : ∀ e, l.lead 3 e = l := h.lead hst 2
  refine ⟨h.ok, h.blank hst, ?_, ?_, ?_, hB, hH, ?_, ?_⟩
  · unfold Ln.quote; rw [hlead, h.trimC, if_neg h62]; rfl
  · unfold Ln.heading; rw [hlead, h.trimC, if_neg h35]
  · unfold Ln.isHR
    simp only [hlead, h.peek]
    rw [if_neg]
    rintro (hh | hh | hh)
    · exact h45 hh
    · exact h95 hh
    · exact h42 hh
  · rw [h.strip hst, h.peek]; exact ⟨h96, h126⟩
  · unfold Ln.trimSp; rw [h.tsGo hst]; rfl
theorem Ln.has.digit {l : Ln} {c : UInt8} {r : List UInt8} (h : l.has c r) (hl : l.text.length < 1000000) (hc : digB c = true) (hn : numNo (c :: r)) : l.plain := by
  have hcd := hc
  simp only [digB, Bool.and_eq_true, decide_eq_true_eq] at hcd
  have ne : ∀ d : UInt8, (d.toNat < 48 ∨ 57 < d.toNat) → c ≠ d := by rintro d hd rfl; omega
  have hp : plainStart0 c = true := by
    simp only [plainStart0, isST, Bool.not_eq_true', Bool.or_eq_false_iff, beq_eq_false_iff_ne, ne_eq]
    refine ⟨⟨⟨⟨⟨⟨⟨⟨⟨?_, ?_⟩, ?_⟩, ?_⟩, ?_⟩, ?_⟩, ?_⟩, ?_⟩, ?_⟩, ?_⟩ <;> exact ne _ (by decide)
  have hst := plainStart0_st hp
  exact h.plain0 hp (LDecl.numAt h hl hc hn) (HDecl.of_peek h.ok (by rw [h.lead hst 2, h.peek]; exact ne 60 (by decide)))
theorem dropST_has {d : UInt8} (hd : isST d = false) (r : List UInt8) : ∀ m : List UInt8, ∃ m3, (m ++ d :: r).dropWhile isST = m3 ++ d :: r
  | [] => ⟨[], by simp [hd]⟩
  | x :: m => by
    rw [List.cons_append, List.dropWhile_cons]
    split
    · exact dropST_has hd r m
    · exact ⟨x :: m, rfl⟩
theorem Ln.hrGo_has {c d : UInt8} {r : List UInt8} : ∀ (f n : Nat) (l : Ln), l.ok → l.sp = 0 → (∃ m, l.text.drop l.i = m ++ d :: r) → d ≠ c → isST d = false → l.hrGo c f n = false
  | 0, _, _, _, _, _, _, _ => rfl
  | f + 1, n, l, hl, hsp, ⟨m, hm⟩, hdc, hd => by
    cases m with
    | nil =>
      have h : l.has d r := ⟨hl, hsp, hm⟩
      have := h.lt
      simp only [Ln.hrGo]
      rw [h.trimC, if_neg hdc]
      simp; omega
    | cons x m =>
      have h : l.has x (m ++ d :: r) := ⟨hl, hsp, by rw [hm]; rfl⟩
      have hlt := h.lt
      simp only [Ln.hrGo]
      rw [h.trimC]
      by_cases hx : x = c
      · rw [if_pos hx]
        simp only
        have hnx : ∃ y m2, m ++ d :: r = y :: m2 := by cases m with | nil => exact ⟨_, _, rfl⟩ | cons y m2 => exact ⟨_, _, rfl⟩
        obtain ⟨y, m2, hy⟩ := hnx
        have h1 := (hy ▸ h : l.has x (y :: m2)).next
        have hdrop : ({ l with i := l.i + 1 } : Ln).text.drop (l.i + 1) = m ++ d :: r := by rw [hy]; exact h1.tx
        have hsk := Ln.skip_ok h1.ok
        refine Ln.hrGo_has (r := r) f (n + 1) _ hsk rfl ?_ hdc hd
        show ∃ m3, l.text.drop (({ l with i := l.i + 1 } : Ln).skip.i) = m3 ++ d :: r
        have e : l.text.drop (l.i + 1) = m ++ d :: r := hdrop
        have hi : ({ l with i := l.i + 1 } : Ln).skip.i = l.text.length - ((m ++ d :: r).dropWhile isST).length := by
          simp only [Ln.skip, e]
        rw [hi, drop_suffix ((List.dropWhile_suffix _).trans (e ▸ List.drop_suffix _ _))]
        exact dropST_has hd r m
      · rw [if_neg hx]
        simp; omega
theorem Ln.has.noHR {l : Ln} {c d : UInt8} {r m r2 : List UInt8} (h : l.has c r) (hc : isST c = false) (hm : c :: r = m ++ d :: r2) (hd : isST d = false) (hdc : d ≠ 45 ∧ d ≠ 95 ∧ d ≠ 42) : l.isHR = false := by
  unfold Ln.isHR
  simp only [h.lead hc 2, h.peek]
  split
  · rename_i hh
    refine Ln.hrGo_has _ _ l h.ok h.sp ⟨m, by rw [h.tx, hm]⟩ ?_ hd
    rcases hh with rfl | rfl | rfl
    · exact hdc.1
    · exact hdc.2.1
    · exact hdc.2.2
  · rfl
theorem Ln.strip_run {d : UInt8} {r : List UInt8} (hd : isST d = false) : ∀ (m n a : Nat) (t : Ln), m ≤ n → t.ok → t.sp = 0 → t.text.drop t.i = List.replicate m 32 ++ d :: r → t.strip n a = (a + m, { t with i := t.i + m }) ∧ ({ t with i := t.i + m } : Ln).has d r
  | 0, n, a, t, hm, ht, hsp, htx => by
    have hh : t.has d r := ⟨ht, hsp, htx⟩
    refine ⟨?_, hh⟩
    cases n with
    | zero => rfl
    | succ n =>
      simp only [Ln.strip, Ln.trimSp]; rw [hh.tsGo hd]; rfl
  | m + 1, 0, a, t, hm, _, _, _ => absurd hm (by omega)
  | m + 1, n + 1, a, t, hm, ht, hsp, htx => by
    have hh : t.has 32 (List.replicate m 32 ++ d :: r) := ⟨ht, hsp, by rw [htx]; rfl⟩
    have hnx : ∃ y q, List.replicate m 32 ++ d :: r = y :: q := by cases m with | zero => exact ⟨_, _, rfl⟩ | succ m => exact ⟨_, _, rfl⟩
    obtain ⟨y, q, hy⟩ := hnx
    have h1 := (hy ▸ hh : t.has 32 (y :: q)).next
    have := Ln.strip_run hd m n (a + 1) { t with i := t.i + 1 } (by omega) h1.ok hsp (by rw [hy]; exact h1.tx)
    simp only [Ln.strip]
    rw [hh.sp1]
    simp only
    rw [this.1]
    have e : t.i + 1 + m = t.i + (m + 1) := by omega
    have e2 := this.2
    simp only [e] at e2 ⊢
    exact ⟨by rw [show a + 1 + m = a + (m + 1) by omega], e2⟩
theorem Ln.has.bulletK {l : Ln} {c d : UInt8} {r : List UInt8} {k : Nat} (h : l.has c (List.replicate (k + 1) 32 ++ d :: r)) (hc : c = 45 ∨ c = 42 ∨ c = 43) (hd : isST d = false) (hk : k ≤ 3) :
    l.bullet = some (c, k + 2, { l with i := l.i + (k + 2) }) ∧ ({ l with i := l.i + (k + 2) } : Ln).has d r := by
  have hst : isST c = false := by rcases hc with rfl | rfl | rfl <;> decide
  have h1 : ({ l with i := l.i + 1 } : Ln).has 32 (List.replicate k 32 ++ d :: r) := Ln.has.next (by rw [List.replicate_succ, List.cons_append] at h; exact h)
  have hnx : ∃ y q, List.replicate k 32 ++ d :: r = y :: q := by cases k with | zero => exact ⟨_, _, rfl⟩ | succ k => exact ⟨_, _, rfl⟩
  obtain ⟨y, q, hy⟩ := hnx
  have h2 := (hy ▸ h1 : ({ l with i := l.i + 1 } : Ln).has 32 (y :: q)).next
  obtain ⟨e1, e2⟩ := Ln.strip_run hd k 3 0 ({ l with i := l.i + 1 + 1 } : Ln) hk h2.ok h.sp (by rw [hy]; exact h2.tx)
  have e : l.i + 1 + 1 + k = l.i + (k + 2) := by omega
  simp only [e] at e1 e2
  refine ⟨?_, e2⟩
  unfold Ln.bullet
  rw [h.strip hst]
  simp only [h.peek]
  rw [if_pos hc, h.trimC, if_pos rfl]
  show (match (Ln.trimSp 1 1 true _) with | none => none | some t2 => _) = _
  rw [h1.sp1]
  simp only
  rw [e1]
  simp only
  have : Ln.trimSp 1 1 true ({ l with i := l.i + (k + 2) } : Ln) = none := by
    unfold Ln.trimSp; rw [e2.tsGo hd]; rfl
  rw [this]
  simp only [Nat.zero_add, Nat.add_comm]
end Go.Proofs.YtihmcipajjakgaaGreatDoor


set_option linter.unusedVariables false
namespace Go.Proofs.YtihmcipajjakgaaGreatDoor
open Go.Proofs Go.IntWalk Go.RowKit
variable {σ : Out} {w : World} {L L' : List Chunk} {R : Ending → World → Prop}
theorem callE.mono {f : FuncId} {args : Array Value} {R R' : Ending → World → Prop} (h : callE P f args R w) (hr : ∀ e w, R e w → R' e w) : callE P f args R' w :=
  h.imp (fun ⟨a, c⟩ => ⟨a, c.mono hr⟩) fun ⟨v, w', h1, h2⟩ => ⟨v, w', h1, hr _ _ h2⟩
theorem addBlock_gen {b : Nat} {p : PS} {K : List Chunk} {t : TypeId} {v : Value} (h : Sat σ w (p.at b :: K)) (hd : 0 ≤ p.depth ∧ p.depth < 1000000)
    (hT : ∀ w, Sat σ w (p.at b :: K) → callE P i_parseState_trimStack #[.pointer (some ⟨b, 0, none⟩), .int .i64 (p.depth + 1)] (fun e w => e = .returned (.tuple #[]) ∧ ∃ (p1 : PS) (l : List OB) (M L : List Chunk), Stk p1 l M ∧ l.length < 1048575 ∧ Sat σ w (p1.at b :: M ++ L) ∧
      ∀ w (p' : PS) M', p' = { p1 with stq := p'.stq, stn := l.length + 1, stc := p'.stc } → Stk p' (l ++ [⟨.iface t v, none, 0, 0, p1.lineno, p1.lineno⟩]) M' → Sat σ w (p'.at b :: M' ++ L) → R (.returned (.tuple #[])) w) w) :
    callE P i_parseState_addBlock #[.pointer (some ⟨b, 0, none⟩), .iface t v] R w := by
  refine g_parseState_addBlock.sound ?_
  repeat (first | refine nilP_some ?_ | refine h.tk fun w h => ?_ | refine ⟨_, h.ldA, ?_⟩ | refine ⟨_, _, _, h.ldA, ?_⟩)
  rw [i64_in _ (by omega)]
  refine (hT w h).mono fun e w hh => ⟨hh.1, ?_⟩
  obtain ⟨_, p1, l, M, L, hs, hl, h, hR⟩ := hh
  have hn := hs.2.1
  repeat (first | refine nilP_some ?_ | refine h.tk fun w h => ?_ | refine ⟨_, h.ldA, ?_⟩ | refine ⟨_, _, _, h.ldA, ?_⟩)
  have h : Sat σ w (M ++ (p1.at b :: L)) := h.re (by intro _; simp only [List.append_eq, cnt_append, cnt_cons, cnt_nil] <;> omega)
  refine Sat.app1 rowOB hs.1 h (v := .agg #[.nilIface, .slice none 0 0, .int .i64 0, .int .i64 0]) rfl (by decide) (by kernel_rfl) (by omega) (by omega) (by decide) fun q' c' w M' hs' h => ?_
  have h : Sat σ w (p1.at b :: M' ++ L) := h.re (by intro _; simp only [List.append_eq, cnt_append, cnt_cons, cnt_nil] <;> omega)
  let p' : PS := { p1 with stq := q', stn := l.length + 1, stc := c' }
  rw [hn] at hs' ⊢
  (first | refine nilP_some ?_ | refine h.tk fun w h => ?_ | refine ⟨_, h.ldA, ?_⟩ | refine ⟨_, _, _, h.ldA, ?_⟩ | refine h.stA 0 fun w h => ?_ | refine h.stA 1 fun w h => ?_ | refine h.stA 2 fun w h => ?_ | refine h.stA 3 fun w h => ?_ | refine h.stA 4 fun w h => ?_ | refine h.stA 5 fun w h => ?_ | refine h.stA 6 fun w h => ?_ | refine h.bx fun b0 w h => ?_)
  (first | refine nilP_some ?_ | refine h.tk fun w h => ?_ | refine ⟨_, h.ldA, ?_⟩ | refine ⟨_, _, _, h.ldA, ?_⟩ | refine h.stA 0 fun w h => ?_ | refine h.stA 1 fun w h => ?_ | refine h.stA 2 fun w h => ?_ | refine h.stA 3 fun w h => ?_ | refine h.stA 4 fun w h => ?_ | refine h.stA 5 fun w h => ?_ | refine h.stA 6 fun w h => ?_ | refine h.bx fun b0 w h => ?_)
  have h : Sat σ w (p'.at b :: M' ++ L) := h
  have hs2 : Stk p' (l ++ [⟨.nilIface, none, 0, 0, 0, 0⟩]) M' := by
    refine ⟨?_, by simp [p'], by simp; omega⟩
    rw [obCells_snoc]
    exact hs'
  obtain ⟨sb, sp, hq, rfl, hsp⟩ := hs2.split (by simp)
  repeat (first | refine nilP_some ?_ | refine h.tk fun w h => ?_ | refine ⟨_, h.ldA, ?_⟩ | refine ⟨_, _, _, h.ldA, ?_⟩)
  rw [show p'.stn = l.length + 1 from rfl, len_dec (by omega)]
  refine ⟨by omega, by omega, ?_⟩
  rw [hq]
  refine nilP_some ?_
  dsimp only [cellV]
  simp only [Addr.add_lit, Nat.zero_add, Int.toNat_natCast, Nat.add_zero]
  have hlen : ∀ (o : OB) (sp : List Value) f, f < 4 → l.length * 4 + f < (obCells (l ++ [o]) ++ sp).length := by
    intro o sp f hf
    rw [List.length_append, obCells_length, List.length_append, List.length_singleton]; omega
  refine Sat.st h (k := 1) rfl (by have := hlen ⟨.nilIface, none, 0, 0, 0, 0⟩ sp 0 (by decide); simpa using this) trivial rfl fun w h => ?_
  have h : Sat σ w (p'.at b :: [(sb, cel (obCells (l ++ [⟨.iface t v, none, 0, 0, 0, 0⟩]) ++ sp) ty_openBlock)] ++ L) := by
    have e := stk_set (l := l) (sp := sp) (o := ⟨.nilIface, none, 0, 0, 0, 0⟩) (o' := ⟨.iface t v, none, 0, 0, 0, 0⟩) (f := 0) (v := .iface t v) (by decide) rfl
    rw [Nat.add_zero] at e
    rw [e] at h
    exact h
  repeat (first | refine nilP_some ?_ | refine h.tk fun w h => ?_ | refine ⟨_, h.ldA, ?_⟩ | refine ⟨_, _, _, h.ldA, ?_⟩)
  refine Sat.st h (k := 1) rfl (hlen _ sp 2 (by decide)) trivial rfl fun w h => ?_
  have h : Sat σ w (p'.at b :: [(sb, cel (obCells (l ++ [⟨.iface t v, none, 0, 0, p1.lineno, 0⟩]) ++ sp) ty_openBlock)] ++ L) := by
    have e := stk_set (l := l) (sp := sp) (o := ⟨.iface t v, none, 0, 0, 0, 0⟩) (o' := ⟨.iface t v, none, 0, 0, p1.lineno, 0⟩) (f := 2) (v := .int .i64 p1.lineno) (by decide) rfl
    have h := h
    rw [e] at h
    exact h
  repeat (first | refine nilP_some ?_ | refine h.tk fun w h => ?_ | refine ⟨_, h.ldA, ?_⟩ | refine ⟨_, _, _, h.ldA, ?_⟩)
  refine Sat.st h (k := 1) rfl (hlen _ sp 3 (by decide)) trivial rfl fun w h => ?_
  have h : Sat σ w (p'.at b :: [(sb, cel (obCells (l ++ [⟨.iface t v, none, 0, 0, p1.lineno, p1.lineno⟩]) ++ sp) ty_openBlock)] ++ L) := by
    have e := stk_set (l := l) (sp := sp) (o := ⟨.iface t v, none, 0, 0, p1.lineno, 0⟩) (o' := ⟨.iface t v, none, 0, 0, p1.lineno, p1.lineno⟩) (f := 3) (v := .int .i64 p1.lineno) (by decide) rfl
    have h := h
    rw [e] at h
    exact h
  refine hR _ p' _ rfl ?_ h
  refine Stk.mk' hq ?_ (by simp [p']) (by simp; omega)
  rw [← hsp, List.length_append, List.length_append, obCells_length, obCells_length, List.length_append, List.length_append]
  rfl
end Go.Proofs.YtihmcipajjakgaaGreatDoor


set_option linter.unusedVariables false
namespace Go.Proofs.YtihmcipajjakgaaGreatDoor
open Go.Proofs Go.IntWalk Go.RowKit
variable {σ : Out} {w : World} {L L' : List Chunk} {R : Ending → World → Prop}
def noNL (l : List UInt8) : Prop := 10 ∉ l ∧ 13 ∉ l
inductive LinesOf : List UInt8 → List (List UInt8 × UInt8) → Prop where
  | nil : LinesOf [] []
  | last {l : List UInt8} : l ≠ [] → noNL l → LinesOf l [(l, 0)]
  | cons {l t : List UInt8} {ls : List (List UInt8 × UInt8)} : noNL l → LinesOf t ls → LinesOf (l ++ 10 :: t) ((l, 10) :: ls)
theorem LinesOf.no13 {t : List UInt8} {ls : List (List UInt8 × UInt8)} (h : LinesOf t ls) : 13 ∉ t := by
  induction h with
  | nil => simp
  | last h1 h2 => exact h2.2
  | cons h1 h2 ih =>
    simp only [List.mem_append, List.mem_cons, not_or]
    exact ⟨h1.2, by decide, ih⟩
theorem LinesOf.len {t : List UInt8} {ls : List (List UInt8 × UInt8)} (h : LinesOf t ls) : ls.length ≤ t.length := by
  induction h with
  | nil => simp
  | last h1 h2 => have := List.length_pos_iff.2 h1; simp; omega
  | cons h1 h2 ih => simp; omega
theorem findSub_first {A B : List UInt8} {c : UInt8} (hc : c ∉ A) : ∀ (k i : Nat), i + k = A.length → ∀ f, k < f → findSub [c] (A ++ c :: B) f i = some A.length
  | 0, i, hi, f + 1, _ => by
    obtain rfl : i = A.length := by omega
    simp only [findSub, List.length_singleton]
    rw [if_pos (by simp), List.drop_left, if_pos (by simp)]
  | k + 1, i, hi, f + 1, hf => by
    simp only [findSub, List.length_singleton]
    rw [if_pos (by simp; omega), if_neg]
    · exact findSub_first hc k (i + 1) (by omega) f (by omega)
    · intro he
      have hil : i < A.length := by omega
      rw [List.drop_append_of_le_length (by omega), List.drop_eq_getElem_cons hil, List.cons_append, List.take_succ_cons, List.take_zero] at he
      have he2 : A[i] = c := (List.cons.inj he).1
      exact hc (he2 ▸ List.getElem_mem hil)
theorem idx_first {A B : List UInt8} {c : UInt8} (hc : c ∉ A) : idx (A ++ c :: B) [c] = some A.length := by
  unfold idx
  exact findSub_first hc A.length 0 (by omega) _ (by simp; omega)
end Go.Proofs.YtihmcipajjakgaaGreatDoor


set_option linter.unusedVariables false
namespace Go.Proofs.YtihmcipajjakgaaGreatDoor
open Go.Proofs Go.IntWalk Go.RowKit
variable {σ : Out} {w : World} {L L' : List Chunk} {R : Ending → World → Prop}
def Bk.isRoot (f : Bk) : Prop := ∃ rb, f.ob.bd = rootV rb ∧ f.own = [(rb, cel [] ty_rootBuilder)]
def CloseAll (op : Opt) (fs : List Bk) (lf : Leaf) (Q : List DB → Prop) : Prop :=
  ∀ (σ : Out) (R : Ending → World → Prop) (L : List Chunk) (b pb : Nat) (p : PS) (w : World) (X : OA → Int → WP), (∀ x0 x1 w, g_parseState_trimStack.bl1 R X x0 x1 w → X x0 x1 w) → op.at pb ∈ L → p.pz = some ⟨pb, 0, none⟩ → DocC σ b L fs lf p w →
    (∀ w (p' : PS) root, p'.base = p.base → root.isRoot → Q root.D → DocC σ b L [root] .none p' w → X (some ⟨b, 0, none⟩) 0 w) → X (some ⟨b, 0, none⟩) 0 w
theorem CloseAll.root {op : Opt} {root : Bk} {Q : List DB → Prop} (hr : root.isRoot) (hQ : Q root.D) : CloseAll op [root] .none Q :=
  fun σ R L b pb p w X hX hop hpz h hN => hN w p root rfl hr hQ h
theorem finishC_ok {op : Opt} {b pb : Nat} {p : PS} {fs : List Bk} {lf : Leaf} {Q : List DB → Prop} (hC : CloseAll op fs lf Q) (h : DocC σ b L fs lf p w) (hpz : p.pz = some ⟨pb, 0, none⟩) (hop : op.at pb ∈ L)
    (hR : ∀ w (p' : PS) D' db IM TM q n c s e, p'.base = { p.base with root := some ⟨db, 0, none⟩ } → Q D' → Txts p' ((txsC D').map TX.t) TM → Sl 1 ty_Block q n c (D'.map DB.v) IM → n < 1000000 →
      Sat σ w (p'.at b :: (TM ++ ((txsC D').map TX.chunk ++ (docC db s e q n c p.links :: (IM ++ (ownC D' ++ L)))))) → R (.returned (.tuple #[])) w) :
    callE P i_parseState_trimStack #[.pointer (some ⟨b, 0, none⟩), .int .i64 0] R w := by
  refine g_parseState_trimStack.sound ?_
  have h0 := h
  obtain ⟨M, TM, lobs, LM, hs, ht, hok, hL, h⟩ := h
  refine nilP_some ?_
  refine ⟨_, _, _, h.ldA, ?_⟩
  refine br_false (by simp) ?_
  intro X hX'
  refine hC σ R L b pb p w X hX' hop hpz h0 fun w p1 root hb hroot hQ h => ?_
  obtain ⟨rb, hbd, hown⟩ := hroot
  obtain ⟨M, TM, lobs, LM, hs, ht, hok, ⟨rfl, rfl⟩, h⟩ := h
  have hs : Stk p1 [root.ob] M := hs
  have hn : p1.stn = 1 := hs.2.1
  have hlk : p1.links = p.links := by have := congrArg PS.links hb; exact this
  refine hX' _ _ _ (nilP_some ?_)
  refine ⟨_, _, _, h.ldA, ?_⟩
  rw [hn]
  refine br_true rfl ?_
  refine closeRoot_ok h hs hbd fun w db h => ⟨_, rfl, hX' _ _ _ (nilP_some ?_)⟩
  refine ⟨_, _, _, h.ldA, ?_⟩
  refine br_false rfl ?_
  obtain ⟨hI, hDl, _⟩ := hok root (by simp)
  have hIl := hI.1
  simp only [List.length_map, Nat.mul_one] at hIl
  rw [txF_one] at ht
  refine hR w { p1 with stn := 0, root := some ⟨db, 0, none⟩ } root.D db root.IM TM root.ob.q root.ob.n root.ob.c root.ob.s root.ob.e ?_ hQ (ht.of rfl rfl rfl) hI (by omega) ?_
  · have e : ({ p1 with stn := 0, root := some ⟨db, 0, none⟩ } : PS).base = { p1.base with root := some ⟨db, 0, none⟩ } := rfl
    rw [e, hb]
  · rw [← hlk]
    rw [memFs_one, hown] at h
    have h : Sat σ w (({ p1 with stn := 0, root := some ⟨db, 0, none⟩ } : PS).at b :: M ++ (docC db root.ob.s root.ob.e root.ob.q root.ob.n root.ob.c p1.links :: (TM ++ (root.IM ++ ([(rb, cel [] ty_rootBuilder)] ++ (ownC root.D ++ (txsC root.D).map TX.chunk)) ++ ([] ++ L))))) := h
    exact h.less (M ++ [(rb, cel [] ty_rootBuilder)]) (by intro _; simp only [List.append_eq, cnt_append, cnt_cons, cnt_nil] <;> omega)
def StepC (L0 : List Chunk) (op : Opt) (n : Nat) (l : List UInt8) (nl : UInt8) (fs : List Bk) (lf : Leaf) (J : List Bk → Leaf → Prop) : Prop :=
  ∀ (σ : Out) (R : Ending → World → Prop) (L : List Chunk) (b pb : Nat) (p : PS) (w : World), (∀ c ∈ L0, c ∈ L) → op.at pb ∈ L → p.pz = some ⟨pb, 0, none⟩ → p.lineno = n → n < 1000000000 → DocC σ b L fs lf p w →
    (∀ w (p' : PS) fs' lf', p'.base = p.base → p'.lineno = p.lineno → J fs' lf' → DocC σ b L fs' lf' p' w → R (.returned (.tuple #[])) w) → callE P i_parseState_addLine #[.pointer (some ⟨b, 0, none⟩), (lnOf l nl).val] R w
theorem lines_okC {L0 : List Chunk} {op : Opt} {I : List (List UInt8 × UInt8) → Nat → List Bk → Leaf → Prop} (step : ∀ l nl rem n fs lf, I ((l, nl) :: rem) n fs lf → StepC L0 op (n + 1) l nl fs lf (I rem (n + 1))) (hL0 : ∀ c ∈ L0, c ∈ L) {X : OA → BA → Nat → WP} {b pb : Nat} {p0 : PS}
    (hX : ∀ x0 x1 x6 w, g_Parser_parse.bl1 R X x0 x1 x6 w → X x0 x1 x6 w) (hop : op.at pb ∈ L) (hpz : p0.pz = some ⟨pb, 0, none⟩)
    (hE : ∀ w (p : PS) fs lf, p.base = p0.base → I [] p.lineno fs lf → DocC σ b L fs lf p w → g_Parser_parse.bl1 R X (some ⟨pb, 0, none⟩) (bs []) b w) {text : List UInt8} {ls : List (List UInt8 × UInt8)} (hL : LinesOf text ls) :
    ∀ w (p : PS) fs lf, text.length < 1000000 → p.lineno + ls.length < 1000000000 → p.base = p0.base → I ls p.lineno fs lf → DocC σ b L fs lf p w → X (some ⟨pb, 0, none⟩) (bs text) b w := by
  have k3 : ∀ (l : List UInt8) (nl : UInt8) (t : List UInt8) (rem : List (List UInt8 × UInt8)) w (p : PS) fs lf, (∀ w (p : PS) fs lf, p.lineno + rem.length < 1000000000 → p.base = p0.base → I rem p.lineno fs lf → DocC σ b L fs lf p w → X (some ⟨pb, 0, none⟩) (bs t) b w) →
      p.lineno + rem.length + 1 < 1000000000 → p.base = p0.base → I ((l, nl) :: rem) p.lineno fs lf → DocC σ b L fs lf p w → g_Parser_parse.k3 R X (some ⟨pb, 0, none⟩) (bs t) b (bs l) (nl.toNat : Int) w := by
    intro l nl t rem w p fs lf next hno hb hI h
    obtain ⟨M, TM, lobs, LM, hs, ht, hok, hL, h⟩ := h
    unfold g_Parser_parse.k3
    refine ⟨_, Sat.ld h (.head _) (i := 3) rfl, ?_⟩
    rw [i64_inc (by omega)]
    refine h.stA 0 fun w h => ?_
    let p1 : PS := { p with lineno := p.lineno + 1 }
    have h : Sat σ w (p1.at b :: M ++ (TM ++ (memFs fs ++ (LM ++ L)))) := h
    have hb1 : p1.base = p0.base := hb
    have hpz1 : p1.pz = some ⟨pb, 0, none⟩ := by
      have := congrArg PS.pz hb1
      rw [show p1.pz = p0.pz from this]; exact hpz
    refine step l nl rem p.lineno fs lf hI σ _ L b pb p1 w hL0 hop hpz1 rfl (by omega) ⟨M, TM, lobs, LM, hs.of rfl rfl rfl, ht.of rfl rfl rfl, hok, hL, h⟩ fun w p2 fs' lf' h1 h2 h3 h4 => ⟨rfl, ?_⟩
    exact next w p2 fs' lf' (by rw [h2]; show p.lineno + 1 + _ < _; omega) (h1.trans hb1) (by rw [h2]; exact h3) h4
  induction hL with
  | nil =>
    intro w p fs lf hlen hno hb hI h
    exact hX _ _ _ _ (hE w p fs lf hb hI h)
  | @last l hne hnl =>
    intro w p fs lf hlen hno hb hI h
    have e10 : idxInt l [10] = -1 := by unfold idxInt; rw [idx_none hnl.1]
    have e13 : idxInt l [13] = -1 := by unfold idxInt; rw [idx_none hnl.2]
    refine hX _ _ _ _ (br_true (by rw [bs_toList]; simpa using hne) ?_)
    refine zzIndex_ok (sub := [10]) (by omega) (by decide) ⟨_, rfl, ?_⟩
    refine zzIndex_ok (sub := [13]) (by omega) (by decide) ⟨_, rfl, ?_⟩
    rw [e10, e13]
    refine br_false rfl (br_false rfl ?_)
    refine k3 l 0 [] [] w p fs lf ?_ (by simp at hno ⊢; omega) hb hI h
    intro w p fs lf hno hb hI h
    exact hX _ _ _ _ (hE w p fs lf hb hI h)
  | @cons l t ls hnl hLt ih =>
    intro w p fs lf hlen hno hb hI h
    have hl13 : 13 ∉ l ++ 10 :: t := (LinesOf.cons hnl hLt).no13
    have e10 : idxInt (l ++ 10 :: t) [10] = (l.length : Nat) := by unfold idxInt; rw [idx_first hnl.1]
    have e13 : idxInt (l ++ 10 :: t) [13] = -1 := by unfold idxInt; rw [idx_none hl13]
    have hlen' : (l ++ 10 :: t).length = l.length + t.length + 1 := by simp; omega
    refine hX _ _ _ _ (br_true (by rw [bs_toList]; simp [mk_toList]) ?_)
    refine zzIndex_ok (sub := [10]) (by omega) (by decide) ⟨_, rfl, ?_⟩
    refine zzIndex_ok (sub := [13]) (by omega) (by decide) ⟨_, rfl, ?_⟩
    rw [e10, e13]
    refine br_false rfl ?_
    refine br_true (by simp) ?_
    obtain ⟨M, TM, lobs, LM, hs, ht, hok, hL, h⟩ := h
    refine Sat.tk h fun w h => ?_
    rw [i64_inc (by omega), bs_size, Int.toNat_natCast, Int.toNat_natCast, bs_ext, bs_extract, List.drop_zero, List.take_left]
    refine ⟨by omega, by rw [hlen']; omega, by omega, by rw [hlen']; omega, ?_⟩
    have ed : (l ++ 10 :: t).drop (l.length + 1) = t := by rw [List.drop_append]; simp
    rw [ed]
    refine k3 l 10 t ls w p fs lf ?_ (by simp at hno ⊢; omega) hb hI ⟨M, TM, lobs, LM, hs, ht, hok, hL, h⟩
    intro w p fs lf hno hb hI h
    exact ih w p fs lf (by rw [hlen'] at hlen; omega) hno hb hI h
theorem parses_docC {L0 : List Chunk} {op : Opt} {text out : List UInt8} {ls : List (List UInt8 × UInt8)} {F : List UInt8 → List UInt8 → List UInt8} (hL : LinesOf text ls) (h0 : 0 ∉ text) (hlen : text.length < 1000000)
    (I : List (List UInt8 × UInt8) → Nat → List Bk → Leaf → Prop) (hI0 : ∀ root, root.isRoot → root.D = [] → I ls 0 [root] .none) (step : ∀ l nl rem n fs lf, I ((l, nl) :: rem) n fs lf → StepC L0 op (n + 1) l nl fs lf (I rem (n + 1)))
    (fin : ∀ n fs lf, I [] n fs lf → CloseAll op fs lf fun D => ∃ gs, Show F D gs ∧ compL gs [] = out ∧ ∀ x ∈ txsC D, InlineOK op x.raw (F x.raw)) : ParsesToL L0 op text out := by
  intro σ R L w pb hL0 h ho hR
  refine g_Parser_parse.sound ?_
  refine Sat.bx h fun b w h => ?_
  refine h.stA 0 fun w h => ?_
  have h : Sat σ w ((PS0 (some ⟨pb, 0, none⟩)).at b :: L) := h
  refine zzContains_ok (sub := [0]) (by omega) (by decide) ⟨_, rfl, ?_⟩
  rw [idx_none h0]
  refine br_false rfl ?_
  refine h.stA 0 fun w h => ?_
  refine Sat.bx h fun rb w h => ?_
  let p0 : PS := { PS0 (some ⟨pb, 0, none⟩) with depth := -1 }
  have h : Sat σ w (p0.at b :: [] ++ ((rb, cel [] ty_rootBuilder) :: L)) := h.up1
  have hstk : Stk p0 [] [] := ⟨Sl.nil 4 ty_openBlock, rfl, by simp⟩
  refine addBlock_ok h hstk rfl (by decide) fun w p1 M hp1 hs1 h => ⟨rfl, ?_⟩
  intro X hX
  have hll := hL.len
  have e1 : p1.base = p0.base := by rw [hp1]; rfl
  have e2 : p1.lineno = 0 := by rw [hp1]; rfl
  have htx : Txts p1 [] [] := by
    have : p1.tq = none ∧ p1.tn = 0 ∧ p1.tc = 0 := by rw [hp1]; exact ⟨rfl, rfl, rfl⟩
    obtain ⟨a, b, c⟩ := this
    unfold Txts
    rw [a, b, c]
    exact ⟨Sl.nil 1 ty_P_Text, rfl, by simp⟩
  let root : Bk := ⟨⟨rootV rb, none, 0, 0, 0, 0⟩, [(rb, cel [] ty_rootBuilder)], [], []⟩
  have hd : DocC σ b L [root] .none p1 w := by
    refine ⟨M, [], [], [], hs1, htx, fun f hf => ?_, ⟨rfl, rfl⟩, ?_⟩
    · obtain rfl := List.mem_singleton.1 hf
      exact ⟨Sl.nil 1 ty_Block, by simp [root], by show 0 < 1000000000; decide, by show 0 < 1000000000; decide⟩
    · have em : memFs [root] = [(rb, cel [] ty_rootBuilder)] := by simp [root, memFs_one, ownC, txc, txsC]
      rw [em]
      exact h
  refine lines_okC (p0 := p0) (op := op) step hL0 hX ho rfl ?_ hL w p1 [root] .none hlen (by rw [e2]; omega) e1 (by rw [e2]; exact hI0 root ⟨rb, rfl, rfl⟩ rfl) hd
  intro w p fs lf hb hI hds
  have hpz0 : p.pz = some ⟨pb, 0, none⟩ := by have := congrArg PS.pz hb; exact this
  refine br_false (by rw [bs_toList, mk_toList]; rfl) ?_
  refine finishC_ok (fin _ fs lf hI) hds hpz0 ho fun w p' D' db IM TM q n c s e hb' hcl ht hIM hn h => ⟨rfl, ?_⟩
  obtain ⟨gs, hS, hout, hIn⟩ := hcl
  have hbb : p'.base = { p0.base with root := some ⟨db, 0, none⟩ } := by rw [hb', hb]
  have hpz : p'.pz = some ⟨pb, 0, none⟩ := by have := congrArg PS.pz hbb; exact this
  have hlk : p'.links = none := by have := congrArg PS.links hbb; exact this
  have hrt : p'.root = some ⟨db, 0, none⟩ := by have := congrArg PS.root hbb; exact this
  have hLL : p'.Lq = none ∧ p'.Ln = 0 ∧ p'.Lc = 0 := ⟨by have := congrArg PS.Lq hbb; exact this, by have := congrArg PS.Ln hbb; exact this, by have := congrArg PS.Lc hbb; exact this⟩
  refine ⟨_, _, _, Sat.ld h (.head _) (i := 11) rfl, ?_⟩
  refine texts_ok (op := op) (F := F) (L0 := []) h ht hpz (by simp [ho]) hlk (by simp) hLL (fun x hx => (hIn x hx).lift) fun w p2 ts hp2 hf h => ?_
  have hrt2 : p2.root = some ⟨db, 0, none⟩ := by have := congrArg PS.root hp2; rw [show p2.root = p'.root from this]; exact hrt
  unfold g_Parser_parse.k4
  refine h.tk fun w h => ?_
  refine ⟨_, Sat.ld h (.head _) (i := 1) rfl, _, Sat.ld h (.head _) (i := 6) rfl, ?_⟩
  rw [hrt2]
  obtain ⟨KM, KM', hP, hcnt⟩ := docs_print hS ts hf
  refine hR w db p2.corner (docC db s e q n c p.links :: (IM ++ KM)) (docC db s e q n c p.links :: (IM ++ KM')) (compL gs) (doc_prints hIM (by omega) hP) hout ?_
  refine Sat.less (p2.at b :: TM) h fun a => ?_
  have := hcnt a
  simp only [List.append_eq, cnt_append, cnt_cons, cnt_nil] at this ⊢
  omega
theorem trim_step {X : OA → Int → WP} {b k : Nat} {fs : List Bk} {lf : Leaf} {p : PS} (hX : ∀ x0 x1 w, g_parseState_trimStack.bl1 R X x0 x1 w → X x0 x1 w) (h : DocC σ b L fs lf p w) (hk : k < fs.length)
    (hc : callE P i_parseState_closeBlock #[.pointer (some ⟨b, 0, none⟩)] (fun e w6 => ∃ (r5 : Value), e = .returned r5 ∧ X (some ⟨b, 0, none⟩) (k : Int) w6) w) : X (some ⟨b, 0, none⟩) (k : Int) w := by
  obtain ⟨M, TM, lobs, LM, hs, ht, hok, hL, h⟩ := h
  have hn := hs.2.1
  rw [List.length_append, List.length_map] at hn
  refine hX _ _ _ (nilP_some ?_)
  refine ⟨_, _, _, h.ldA, ?_⟩
  rw [hn]
  exact br_true (by simp; omega) hc
theorem base_ln {p p' : PS} (h : p'.base = p.base) : p'.pz = p.pz := by have := congrArg PS.pz h; exact this
end Go.Proofs.YtihmcipajjakgaaGreatDoor


set_option linter.unusedVariables false
namespace Go.Proofs.YtihmcipajjakgaaGreatDoor
open Go.Proofs Go.IntWalk Go.RowKit
variable {σ : Out} {w : World} {L L' : List Chunk} {R : Ending → World → Prop}
theorem newSetext_ne {b d : Nat} {p : PS} {ob : List OB} {o o1 : OB} {M : List Chunk} {t t1 : TypeId} {v v1 : Value} {l : Ln} (h : Sat σ w (p.at b :: M ++ L)) (hs : Stk p (ob ++ [o]) M) (hd : p.depth = d) (hdb : d < 1000000)
    (ho1 : (ob ++ [o])[d + 1]? = some o1) (hb1 : o1.bd = .iface t1 v1) (ht1 : t1 ≠ ty_P_paraBuilder) (hb : o.bd = .iface t v) (hv : t = ty_P_paraBuilder → ∃ q, v = .pointer q) (hl : l.ok)
    (hR : ∀ w, Sat σ w (p.at b :: M ++ L) → R (.returned (.tuple #[l.val, .bool false])) w) : callE P i_newSetextHeading #[.pointer (some ⟨b, 0, none⟩), l.val] R w := by
  refine g_newSetextHeading.sound ?_
  refine Sat.bx h fun b1 w h => ?_
  refine Sat.bx h fun b3 w h => ?_
  refine Sat.bx h fun b5 w h => ?_
  repeat (first | refine nilP_some ?_ | refine h.tk fun w h => ?_ | refine ⟨_, h.ldA, ?_⟩ | refine ⟨_, _, _, h.ldA, ?_⟩ | refine h.stA 0 fun w h => ?_ | refine h.stA 1 fun w h => ?_ | refine h.stA 2 fun w h => ?_ | refine h.stA 3 fun w h => ?_ | refine h.stA 4 fun w h => ?_ | refine h.stA 5 fun w h => ?_ | refine h.stA 6 fun w h => ?_ | refine h.bx fun b0 w h => ?_)
  have h : Sat σ _ (l.at b0 :: (b5, cel [.int .i64 0] ty_int) :: zLn b3 :: l.at b1 :: (p.at b :: M ++ L)) := h
  have h : Sat σ _ (p.at b :: M ++ (l.at b0 :: (b5, cel [.int .i64 0] ty_int) :: zLn b3 :: l.at b1 :: L)) := h.re (by intro _; simp only [List.append_eq, cnt_append, cnt_cons, cnt_nil] <;> omega)
  refine nextB_ok h hs hd (by omega) fun w h => ?_
  rw [ho1]
  refine ⟨_, rfl, ?_⟩
  have fin : ∀ (q : Option Addr) w, Sat σ w (p.at b :: M ++ (l.at b0 :: (b5, cel [.int .i64 0] ty_int) :: zLn b3 :: l.at b1 :: L)) → ∃ (r21 : Option Addr), Ending.returned (.pointer q) = .returned (.pointer r21) ∧
      ∃ (r23 : Bool), ∃ w24, (do eqGuard .eql ty_blockBuilder (.tmp 12) (.tmp 15) o1.bd (.iface ty_P_paraBuilder (.pointer r21)); binOp .eql ty_blockBuilder o1.bd (.iface ty_P_paraBuilder (.pointer r21))).run P w = .ok (.bool r23) w24 ∧
      br r23 (callE P i_line_trimSetext #[.pointer (some ⟨b0, 0, none⟩), .pointer (some ⟨b5, 0, none⟩)] (fun e w26 => ∃ (r25 : Bool), e = .returned (.bool r25) ∧ g_newSetextHeading.k1 R (some ⟨b, 0, none⟩) b1 b3 b5 r25 w26) w24) (g_newSetextHeading.k1 R (some ⟨b, 0, none⟩) b1 b3 b5 false w24) := by
    intro q w h
    refine ⟨q, rfl, false, w, by rw [hb1]; exact eq_iface_ne und_bb ht1 _ _ w, br_false rfl ?_⟩
    have h : Sat σ _ (zLn b3 :: l.at b1 :: (b5, cel [.int .i64 0] ty_int) :: l.at b0 :: (p.at b :: M ++ L)) := h.re (by intro _; simp only [List.append_eq, cnt_append, cnt_cons, cnt_nil] <;> omega)
    refine br_false rfl ?_
    repeat (first | refine nilP_some ?_ | refine h.tk fun w h => ?_ | refine ⟨_, h.ldA, ?_⟩ | refine ⟨_, _, _, h.ldA, ?_⟩ | refine h.stA 0 fun w h => ?_ | refine h.stA 1 fun w h => ?_ | refine h.stA 2 fun w h => ?_ | refine h.stA 3 fun w h => ?_ | refine h.stA 4 fun w h => ?_ | refine h.stA 5 fun w h => ?_ | refine h.stA 6 fun w h => ?_ | refine h.bx fun b0 w h => ?_)
    have h : Sat σ _ (l.at b3 :: l.at b1 :: (b5, cel [.int .i64 0] ty_int) :: l.at b0 :: (p.at b :: M ++ L)) := h
    exact hR _ h.tail.tail.tail.tail
  refine top_ok h hs hb (fun w h => ?_) hv
  by_cases ht : t = ty_P_paraBuilder
  · rw [if_pos ht]
    obtain ⟨q, rfl⟩ := hv ht
    exact fin q w h
  · rw [if_neg ht]
    exact fin none w h
theorem und_PiB : P.underlying ty_P_itemBuilder = some (.pointer ty_itemBuilder) := by kernel_rfl
theorem slItem_same {b b1 lb d : Nat} {num : Int} {lo : Bool} {it : Option Addr} {td : Value} {p : PS} {ob : List OB} {o : OB} {M : List Chunk} {l t : Ln} {c : UInt8} {n : Nat} (h : Sat σ w (l.at b1 :: (p.at b :: M ++ (lisC lb c.toNat num lo it td :: L)))) (hs : Stk p ob M) (hd : p.depth = d) (hdb : d < 1000000)
    (ho : ob[d + 1]? = some o) (hbd : o.bd = lisV lb) (hl : l.ok) (hb : l.bullet = some (c, n, t))
    (hR : ∀ w x2 x5 x15 x18 ib, Sat σ w (l.at b1 :: (p.at b :: M ++ (lisC lb c.toNat num lo it (cloV x2 x18 x15 x5) :: (x2, cel [.pointer (some ⟨b, 0, none⟩)] ty_P_parseState) :: t.at x5 :: lptC x15 lb :: iptC x18 ib :: iteC ib lb n (!t.blank) :: L))) → R (.returned (.bool true)) w) :
    callE P i_parseState_startListItem #[.pointer (some ⟨b, 0, none⟩), .pointer (some ⟨b1, 0, none⟩)] R w := by
  obtain ⟨ht, hn8, hc⟩ := Ln.bullet_ok hl hb
  refine slItem_k8 h hl hb fun w x5 x2 x12 t' h => ?_
  refine Sat.bx h fun x15 w h => ?_
  refine ⟨_, Sat.ld h (.tail _ (.tail _ (.head _))) (i := 0) rfl, ?_⟩
  have h : Sat σ w (p.at b :: M ++ ((x15, cel [.pointer none] ty_P_listBuilder) :: lisC lb c.toNat num lo it td :: (x2, cel [.pointer (some ⟨b, 0, none⟩)] ty_P_parseState) :: t.at x5 :: t'.at x12 :: l.at b1 :: L)) := h.re (by intro _; simp only [List.append_eq, cnt_append, cnt_cons, cnt_nil] <;> omega)
  refine nextB_ok (d := d) h hs hd (by omega) fun w h => ⟨_, rfl, ?_⟩
  rw [ho]
  dsimp only
  refine ⟨some ⟨lb, 0, none⟩, true, w, by rw [hbd]; exact ta_list_list _ w, br_true rfl ?_⟩
  have h : Sat σ w ((x15, cel [.pointer none] ty_P_listBuilder) :: lisC lb c.toNat num lo it td :: (x2, cel [.pointer (some ⟨b, 0, none⟩)] ty_P_parseState) :: t.at x5 :: (p.at b :: M ++ (t'.at x12 :: l.at b1 :: L))) := h.re (by intro _; simp only [List.append_eq, cnt_append, cnt_cons, cnt_nil] <;> omega)
  refine h.stA 0 fun w h => ?_
  have h : Sat σ w (lptC x15 lb :: lisC lb c.toNat num lo it td :: (x2, cel [.pointer (some ⟨b, 0, none⟩)] ty_P_parseState) :: t.at x5 :: (p.at b :: M ++ (t'.at x12 :: l.at b1 :: L))) := h
  refine ⟨_, Sat.ld h (.head _) (i := 0) rfl, _, _, ptrNil_eq und_PlB _ w, br_false rfl ?_⟩
  refine ⟨_, Sat.ld h (.head _) (i := 0) rfl, nilP_some ?_⟩
  refine ⟨_, Sat.ld h (.tail _ (.head _)) (i := 0) rfl, ?_⟩
  have hw : IntKind.i32.wrap ((c.toNat : Nat) : Int) = ((c.toNat : Nat) : Int) := by
    rcases hc with rfl | rfl | rfl <;> rfl
  rw [hw]
  refine br_false (by simp) ?_
  have h : Sat σ w (lisC lb c.toNat num lo it td :: t.at x5 :: lptC x15 lb :: (p.at b :: M ++ ((x2, cel [.pointer (some ⟨b, 0, none⟩)] ty_P_parseState) :: (t'.at x12 :: l.at b1 :: L)))) := h.re (by intro _; simp only [List.append_eq, cnt_append, cnt_cons, cnt_nil] <;> omega)
  refine slItem_k13 h ht fun w x18 ib h => ?_
  refine hR w x2 x5 x15 x18 ib ?_
  exact h.less [t'.at x12] (by intro _; simp only [List.append_eq, cnt_append, cnt_cons, cnt_nil] <;> omega)
theorem newList_again {b lb d : Nat} {num : Int} {lo : Bool} {it : Option Addr} {td : Value} {p : PS} {ob : List OB} {o0 o : OB} {M : List Chunk} {l t : Ln} {c : UInt8} {n : Nat} {ty : TypeId} {v : Value} (h : Sat σ w (p.at b :: M ++ (lisC lb c.toNat num lo it td :: L))) (hs : Stk p ob M) (hd : p.depth = d) (hdb : d < 1000000)
    (ho0 : ob[d]? = some o0) (hb0 : o0.bd = .iface ty v) (htl : ty ≠ ty_P_listBuilder) (ho : ob[d + 1]? = some o) (hbd : o.bd = lisV lb) (hl : l.ok) (hb : l.bullet = some (c, n, t))
    (hR : ∀ w x2 x5 x15 x18 ib, Sat σ w (p.at b :: M ++ (lisC lb c.toNat num lo it (cloV x2 x18 x15 x5) :: (x2, cel [.pointer (some ⟨b, 0, none⟩)] ty_P_parseState) :: t.at x5 :: lptC x15 lb :: iptC x18 ib :: iteC ib lb n (!t.blank) :: L)) → R (.returned (.tuple #[l.val, .bool true])) w) :
    callE P i_newListItem #[.pointer (some ⟨b, 0, none⟩), l.val] R w := by
  refine g_newListItem.sound ?_
  refine Sat.bx h fun b1 w h => ?_
  refine Sat.bx h fun b3 w h => ?_
  have h : Sat σ w (zLn b3 :: l.at b1 :: (p.at b :: M ++ (lisC lb c.toNat num lo it td :: L))) := h
  have h : Sat σ w (p.at b :: M ++ (zLn b3 :: l.at b1 :: lisC lb c.toNat num lo it td :: L)) := h.re (by intro _; simp only [List.append_eq, cnt_append, cnt_cons, cnt_nil] <;> omega)
  refine curB_ok h hs hd fun w h => ?_
  rw [ho0]
  dsimp only
  refine ⟨_, rfl, none, false, w, by rw [hb0]; exact ta_listBuilder_no htl w, br_false rfl (br_false rfl ?_)⟩
  have h : Sat σ w (l.at b1 :: (p.at b :: M ++ (lisC lb c.toNat num lo it td :: (zLn b3 :: L)))) := h.re (by intro _; simp only [List.append_eq, cnt_append, cnt_cons, cnt_nil] <;> omega)
  refine slItem_same h hs hd hdb ho hbd hl hb fun w x2 x5 x15 x18 ib h => ⟨_, rfl, br_true rfl ?_⟩
  have h : Sat σ w (zLn b3 :: l.at b1 :: (p.at b :: M ++ (lisC lb c.toNat num lo it (cloV x2 x18 x15 x5) :: (x2, cel [.pointer (some ⟨b, 0, none⟩)] ty_P_parseState) :: t.at x5 :: lptC x15 lb :: iptC x18 ib :: iteC ib lb n (!t.blank) :: L))) := h.re (by intro _; simp only [List.append_eq, cnt_append, cnt_cons, cnt_nil] <;> omega)
  repeat (first | refine nilP_some ?_ | refine h.tk fun w h => ?_ | refine ⟨_, h.ldA, ?_⟩ | refine ⟨_, _, _, h.ldA, ?_⟩ | refine h.stA 0 fun w h => ?_ | refine h.stA 1 fun w h => ?_ | refine h.stA 2 fun w h => ?_ | refine h.stA 3 fun w h => ?_ | refine h.stA 4 fun w h => ?_ | refine h.stA 5 fun w h => ?_ | refine h.stA 6 fun w h => ?_ | refine h.bx fun b0 w h => ?_)
  have h : Sat σ _ (l.at b3 :: l.at b1 :: (p.at b :: M ++ (lisC lb c.toNat num lo it (cloV x2 x18 x15 x5) :: (x2, cel [.pointer (some ⟨b, 0, none⟩)] ty_P_parseState) :: t.at x5 :: lptC x15 lb :: iptC x18 ib :: iteC ib lb n (!t.blank) :: L))) := h
  exact hR _ x2 x5 x15 x18 ib h.tail.tail
def boxesC (b x2 x5 x15 x18 lb ib n : Nat) (hv : Bool) (t : Ln) : List Chunk := [(x2, cel [.pointer (some ⟨b, 0, none⟩)] ty_P_parseState), t.at x5, lptC x15 lb, iptC x18 ib, iteC ib lb n hv]
theorem todoC {b lb x2 x5 x15 x18 ib n : Nat} {bul num : Int} {hv : Bool} {p : PS} {gs : List Bk} {lst : Bk} {rest : List Bk} {it : Option Addr} {lf : Leaf} {l t : Ln} {Post : PS → Bk → Prop}
    (h : DocC σ b (boxesC b x2 x5 x15 x18 lb ib n hv t ++ L) (gs ++ lst :: rest) lf p w) (hlst : lst.isListT lb bul num it (cloV x2 x18 x15 x5)) (hd : p.depth = gs.length) (hgl : gs.length < 100000) (hno : p.lineno < 1000000000)
    (hT : ∀ (L : List Chunk) (R' : Ending → World → Prop) w, (∀ x ∈ boxesC b x2 x5 x15 x18 lb ib n hv t, x ∈ L) → DocC σ b L (gs ++ lst :: rest) lf p w → (∀ w (p1 : PS) lst' it', Post p1 lst' → p1.base = p.base → p1.lineno = p.lineno → p1.depth = p.depth → lst'.isListT lb bul num it' (cloV x2 x18 x15 x5) → DocC σ b L (gs ++ [lst']) .none p1 w → R' (.returned (.tuple #[])) w) →
      callE P i_parseState_trimStack #[.pointer (some ⟨b, 0, none⟩), .int .i64 ((gs.length : Int) + 1)] R' w)
    (hR : ∀ w (p' : PS) p1 lst' lst'' g, Post p1 lst' → p'.base = p.base → p'.lineno = p.lineno → p'.depth = p.depth → lst''.isListT lb bul num (some ⟨ib, 0, none⟩) .nilFunc → lst''.ob = lst'.ob → lst''.D = lst'.D → ItemOf (some ⟨ib, 0, none⟩) g lb n hv → g.D = [] → g.ob.s = p.lineno → g.ob.e = p.lineno → DocC σ b L (gs ++ [lst'', g]) .none p' w → R (.returned (.tuple #[t.val, .bool true])) w) :
    callE P i_newListItem #[.pointer (some ⟨b, 0, none⟩), l.val] R w := by
  have h00 := h
  obtain ⟨M, TM, lobs, LM, hs, ht, hok, hL, h⟩ := h
  have hfo := hok lst (by simp)
  refine g_newListItem.sound ?_
  refine Sat.bx h fun b1 w h => ?_
  refine Sat.bx h fun b3 w h => ?_
  have hcur : ((gs ++ lst :: rest).map Bk.ob ++ lobs)[gs.length]? = some lst.ob := by simp
  have hmem : memFs (gs ++ lst :: rest) = memFs gs ++ (lst.IM ++ (lst.own ++ (ownC lst.D ++ txc lst.D)) ++ memFs rest) := by
    rw [memFs_append, show lst :: rest = [lst] ++ rest from rfl, memFs_append, memFs_one]
  have h : Sat σ w (zLn b3 :: l.at b1 :: (p.at b :: M ++ (TM ++ (memFs (gs ++ lst :: rest) ++ (LM ++ (boxesC b x2 x5 x15 x18 lb ib n hv t ++ L)))))) := h
  have h : Sat σ w (p.at b :: M ++ (zLn b3 :: l.at b1 :: (TM ++ (memFs (gs ++ lst :: rest) ++ (LM ++ (boxesC b x2 x5 x15 x18 lb ib n hv t ++ L)))))) := h.re (by intro _; simp only [List.append_eq, cnt_append, cnt_cons, cnt_nil] <;> omega)
  refine curB_ok h hs hd fun w h => ?_
  rw [hcur]
  dsimp only
  refine ⟨_, rfl, some ⟨lb, 0, none⟩, true, w, by rw [hlst.1]; exact ta_list_list _ w, br_true rfl (nilP_some ?_)⟩
  obtain ⟨_, _, _, hfu⟩ := isFunc_out und_fline
  have hml : lisC lb bul num false it (cloV x2 x18 x15 x5) ∈ p.at b :: M ++ (zLn b3 :: l.at b1 :: (TM ++ (memFs (gs ++ lst :: rest) ++ (LM ++ (boxesC b x2 x5 x15 x18 lb ib n hv t ++ L))))) := by rw [hmem, hlst.2]; simp
  refine ⟨_, Sat.ld h hml (i := 4) rfl, true, w, neq_func_nil hfu _ _ _ w, br_true rfl (nilP_some ?_)⟩
  refine ⟨_, Sat.ld h hml (i := 4) rfl, ?_⟩
  refine enter_fn ?_
  refine g_parseState_startListItem_1.sound ?_
  refine Sat.bx h fun b5 w h => ?_
  have h : Sat σ w (zLn b5 :: (p.at b :: M ++ (zLn b3 :: l.at b1 :: (TM ++ (memFs (gs ++ lst :: rest) ++ (LM ++ (boxesC b x2 x5 x15 x18 lb ib n hv t ++ L))))))) := h
  have hb2 : (x2, cel [.pointer (some ⟨b, 0, none⟩)] ty_P_parseState) ∈ boxesC b x2 x5 x15 x18 lb ib n hv t := .head _
  have hb18 : iptC x18 ib ∈ boxesC b x2 x5 x15 x18 lb ib n hv t := by simp [boxesC]
  have hb15 : lptC x15 lb ∈ boxesC b x2 x5 x15 x18 lb ib n hv t := by simp [boxesC]
  refine ⟨_, Sat.ld h (by simp [hb2] : (x2, cel [.pointer (some ⟨b, 0, none⟩)] ty_P_parseState) ∈ _) (i := 0) rfl, _, Sat.ld h (by simp [hb18] : iptC x18 ib ∈ _) (i := 0) rfl, ?_⟩
  let L1 : List Chunk := zLn b5 :: zLn b3 :: l.at b1 :: (boxesC b x2 x5 x15 x18 lb ib n hv t ++ L)
  have h : Sat σ w (p.at b :: (M ++ (TM ++ (memFs (gs ++ lst :: rest) ++ (LM ++ L1))))) := by
    show Sat σ w (p.at b :: (M ++ (TM ++ (memFs (gs ++ lst :: rest) ++ (LM ++ (zLn b5 :: zLn b3 :: l.at b1 :: (boxesC b x2 x5 x15 x18 lb ib n hv t ++ L)))))))
    exact h.re (by intro _; simp only [List.append_eq, cnt_append, cnt_cons, cnt_nil] <;> omega)
  refine addBlock_gen h (by omega) fun w h => ?_
  have hD1 : DocC σ b L1 (gs ++ lst :: rest) lf p w := ⟨M, TM, lobs, LM, hs, ht, hok, hL, h⟩
  rw [hd]
  refine hT L1 _ w (fun x hx => by simp [L1, hx]) hD1 fun w p1 lst' it' hpost hpb hpl hpd hl' hD => ⟨rfl, ?_⟩
  obtain ⟨M1, TM1, lobs1, LM1, hs1, ht1, hok1, ⟨rfl, rfl⟩, h⟩ := hD
  have hfo' := hok1 lst' (by simp)
  rw [memFs_append, memFs_one, hl'.2] at h
  refine ⟨p1, (gs ++ [lst']).map Bk.ob ++ [], M1, _, hs1, by simp; omega, h, fun w p' M' hp' hs' h => ⟨rfl, ?_⟩⟩
  have h : Sat σ w (lisC lb bul num false it' (cloV x2 x18 x15 x5) :: zLn b5 :: t.at x5 :: zLn b3 :: l.at b1 :: lptC x15 lb :: iptC x18 ib :: (p'.at b :: M' ++ (TM1 ++ (memFs gs ++ (lst'.IM ++ (ownC lst'.D ++ (txc lst'.D ++ ((x2, cel [.pointer (some ⟨b, 0, none⟩)] ty_P_parseState) :: iteC ib lb n hv :: L)))))))) := by
    have h : Sat σ w (p'.at b :: M' ++ (TM1 ++ (memFs gs ++ (lst'.IM ++ ([lisC lb bul num false it' (cloV x2 x18 x15 x5)] ++ (ownC lst'.D ++ txc lst'.D))) ++ ([] ++ (zLn b5 :: zLn b3 :: l.at b1 :: ((x2, cel [.pointer (some ⟨b, 0, none⟩)] ty_P_parseState) :: t.at x5 :: lptC x15 lb :: iptC x18 ib :: iteC ib lb n hv :: L)))))) := h
    exact h.re (by intro _; simp only [List.append_eq, cnt_append, cnt_cons, cnt_nil] <;> omega)
  refine ⟨_, Sat.ld h (by simp : lptC x15 lb ∈ _) (i := 0) rfl, _, Sat.ld h (by simp : iptC x18 ib ∈ _) (i := 0) rfl, nilP_some ?_⟩
  generalize hrest : (p'.at b :: M' ++ (TM1 ++ (memFs gs ++ (lst'.IM ++ (ownC lst'.D ++ (txc lst'.D ++ ((x2, cel [.pointer (some ⟨b, 0, none⟩)] ty_P_parseState) :: iteC ib lb n hv :: L))))))) = KK at h
  refine h.stA 0 fun w h => ?_
  have h : Sat σ w (t.at x5 :: zLn b5 :: lisC lb bul num false (some ⟨ib, 0, none⟩) (cloV x2 x18 x15 x5) :: zLn b3 :: l.at b1 :: lptC x15 lb :: iptC x18 ib :: KK) := by
    have h : Sat σ w (lisC lb bul num false (some ⟨ib, 0, none⟩) (cloV x2 x18 x15 x5) :: zLn b5 :: t.at x5 :: zLn b3 :: l.at b1 :: lptC x15 lb :: iptC x18 ib :: KK) := h
    exact h.re (by intro _; simp only [List.append_eq, cnt_append, cnt_cons, cnt_nil] <;> omega)
  refine ⟨_, h.ldA, ?_⟩
  refine ⟨_, h.ldA, ?_⟩
  refine ⟨_, h.ldA, ?_⟩
  refine ⟨_, h.ldA, ?_⟩
  refine ⟨_, h.ldA, ?_⟩
  refine h.stA 1 fun w h => ?_
  refine h.stA 1 fun w h => ?_
  refine h.stA 1 fun w h => ?_
  refine h.stA 1 fun w h => ?_
  refine h.stA 1 fun w h => ?_
  have h : Sat σ w (t.at x5 :: t.at b5 :: lisC lb bul num false (some ⟨ib, 0, none⟩) (cloV x2 x18 x15 x5) :: zLn b3 :: l.at b1 :: lptC x15 lb :: iptC x18 ib :: KK) := h
  have h : Sat σ w (t.at b5 :: l.at b1 :: lisC lb bul num false (some ⟨ib, 0, none⟩) (cloV x2 x18 x15 x5) :: zLn b3 :: t.at x5 :: lptC x15 lb :: iptC x18 ib :: KK) := h.re (by intro _; simp only [List.append_eq, cnt_append, cnt_cons, cnt_nil] <;> omega)
  refine ⟨_, h.ldA, ?_⟩
  refine ⟨_, h.ldA, ?_⟩
  refine ⟨_, h.ldA, ?_⟩
  refine ⟨_, h.ldA, ?_⟩
  refine ⟨_, h.ldA, ?_⟩
  refine ⟨_, _, _, _, _, rfl, ?_⟩
  refine h.stA 1 fun w h => ?_
  refine h.stA 1 fun w h => ?_
  refine h.stA 1 fun w h => ?_
  refine h.stA 1 fun w h => ?_
  refine h.stA 1 fun w h => ?_
  have h : Sat σ w (t.at b5 :: t.at b1 :: lisC lb bul num false (some ⟨ib, 0, none⟩) (cloV x2 x18 x15 x5) :: zLn b3 :: t.at x5 :: lptC x15 lb :: iptC x18 ib :: KK) := h
  refine nilP_some ?_
  refine Sat.st h (k := 2) rfl (by simp [lisC]) trivial rfl fun w h => ?_
  have h : Sat σ w (t.at b1 :: zLn b3 :: lisC lb bul num false (some ⟨ib, 0, none⟩) .nilFunc :: t.at b5 :: t.at x5 :: lptC x15 lb :: iptC x18 ib :: KK) := by
    have h : Sat σ w (t.at b5 :: t.at b1 :: lisC lb bul num false (some ⟨ib, 0, none⟩) .nilFunc :: zLn b3 :: t.at x5 :: lptC x15 lb :: iptC x18 ib :: KK) := h
    exact h.re (by intro _; simp only [List.append_eq, cnt_append, cnt_cons, cnt_nil] <;> omega)
  refine ⟨_, h.ldA, ?_⟩
  refine ⟨_, h.ldA, ?_⟩
  refine ⟨_, h.ldA, ?_⟩
  refine ⟨_, h.ldA, ?_⟩
  refine ⟨_, h.ldA, ?_⟩
  refine h.stA 1 fun w h => ?_
  refine h.stA 1 fun w h => ?_
  refine h.stA 1 fun w h => ?_
  refine h.stA 1 fun w h => ?_
  refine h.stA 1 fun w h => ?_
  have h : Sat σ w (t.at b1 :: t.at b3 :: lisC lb bul num false (some ⟨ib, 0, none⟩) .nilFunc :: t.at b5 :: t.at x5 :: lptC x15 lb :: iptC x18 ib :: KK) := h
  have h : Sat σ w (t.at b3 :: t.at b1 :: lisC lb bul num false (some ⟨ib, 0, none⟩) .nilFunc :: t.at b5 :: t.at x5 :: lptC x15 lb :: iptC x18 ib :: KK) := h.re (by intro _; simp only [List.append_eq, cnt_append, cnt_cons, cnt_nil] <;> omega)
  refine ⟨_, h.ldA, ?_⟩
  refine ⟨_, h.ldA, ?_⟩
  refine ⟨_, h.ldA, ?_⟩
  refine ⟨_, h.ldA, ?_⟩
  refine ⟨_, h.ldA, ?_⟩
  subst hrest
  have hlob : (gs ++ [lst']).map Bk.ob ++ [] = (gs ++ [lst']).map Bk.ob := List.append_nil _
  rw [hlob] at hs'
  refine hR _ p' p1 lst' ⟨lst'.ob, [lisC lb bul num false (some ⟨ib, 0, none⟩) .nilFunc], lst'.D, lst'.IM⟩ ⟨⟨iteV ib, none, 0, 0, p.lineno, p.lineno⟩, [iteC ib lb n hv], [], []⟩ hpost (by rw [hp', ← hpb]; rfl) (by rw [hp']; exact hpl) (by rw [hp']; exact hpd.trans rfl) ⟨hl'.1, rfl⟩ rfl rfl ⟨ib, rfl, rfl, rfl⟩ rfl rfl rfl ?_
  refine ⟨M', TM1, [], [], ?_, ?_, ?_, ⟨rfl, rfl⟩, ?_⟩
  · rw [List.append_nil]
    rw [hpl] at hs'
    have e : (gs ++ [(⟨lst'.ob, [lisC lb bul num false (some ⟨ib, 0, none⟩) .nilFunc], lst'.D, lst'.IM⟩ : Bk), ⟨⟨iteV ib, none, 0, 0, p.lineno, p.lineno⟩, [iteC ib lb n hv], [], []⟩]).map Bk.ob = (gs ++ [lst']).map Bk.ob ++ [⟨iteV ib, none, 0, 0, p.lineno, p.lineno⟩] := by simp
    rw [e]
    exact hs'
  · have e : txF (gs ++ [(⟨lst'.ob, [lisC lb bul num false (some ⟨ib, 0, none⟩) .nilFunc], lst'.D, lst'.IM⟩ : Bk), ⟨⟨iteV ib, none, 0, 0, p.lineno, p.lineno⟩, [iteC ib lb n hv], [], []⟩]) = txF (gs ++ [lst']) := by
      rw [txF_append, txF_append, txF_one, txF_two]
      show txF gs ++ (txsC lst'.D ++ []) = _
      rw [List.append_nil]
    rw [e]
    exact ht1.of (by rw [hp']) (by rw [hp']) (by rw [hp'])
  · intro g hg
    rcases List.mem_append.1 hg with hg | hg
    · exact hok1 g (by simp [hg])
    · rcases List.mem_cons.1 hg with rfl | hg
      · exact hfo'
      · obtain rfl := List.mem_singleton.1 hg
        exact ⟨Sl.nil 1 ty_Block, by simp, hno, hno⟩
  · rw [memFs_append gs, memFs_two]
    show Sat σ _ (_ :: M' ++ (TM1 ++ (memFs gs ++ ((lst'.IM ++ ([lisC lb bul num false (some ⟨ib, 0, none⟩) .nilFunc] ++ (ownC lst'.D ++ txc lst'.D))) ++ ([] ++ ([iteC ib lb n hv] ++ ([] ++ [])))) ++ ([] ++ L))))
    exact h.less [t.at b3, t.at b1, t.at b5, t.at x5, lptC x15 lb, iptC x18 ib, (x2, cel [.pointer (some ⟨b, 0, none⟩)] ty_P_parseState)] (by intro _; simp only [List.append_eq, cnt_append, cnt_cons, cnt_nil] <;> omega)
end Go.Proofs.YtihmcipajjakgaaGreatDoor


set_option linter.unusedVariables false
namespace Go.Proofs.YtihmcipajjakgaaGreatDoor
open Go.Proofs Go.IntWalk Go.RowKit
variable {σ : Out} {w : World} {L L' : List Chunk} {R : Ending → World → Prop}
theorem meth_listExtend : methB P ty_P_listBuilder "pub-paratext/pub/rscmarkdown.extend" i_listBuilder_extend = true := by kernel_rfl
theorem meth_itemExtend : methB P ty_P_itemBuilder "pub-paratext/pub/rscmarkdown.extend" i_itemBuilder_extend = true := by kernel_rfl
theorem ext_step {X : OA → Nat → WP} (hX : ∀ x0 x3 w, g_parseState_addLine.bl1 R X x0 x3 w → X x0 x3 w) {b b1 j : Nat} {p : PS} {ob : List OB} {o : OB} {M : List Chunk} {l l2 : Ln} {ok : Bool} (h : Sat σ w (l.at b1 :: (p.at b :: M ++ L))) (hs : Stk p ob M) (hd : p.depth = j) (hj : j < 1000000) (ho : ob[j + 1]? = some o) (hl : l.ok)
    (hE : ∀ (R' : Ending → World → Prop) b0 w, Sat σ w (l.at b0 :: l.at b1 :: (p.at b :: M ++ L)) → (∀ w, Sat σ w (l.at b0 :: l.at b1 :: (p.at b :: M ++ L)) → R' (.returned (.tuple #[l2.val, .bool ok])) w) → enterE P (callMethod o.bd "pub-paratext/pub/rscmarkdown.extend" #[.pointer (some ⟨b, 0, none⟩), l.val]) R' w)
    (hno : l.blank = true ∨ (ok = false ∧ l2 = l))
    (hgo : ok = true → ∀ w, Sat σ w (l2.at b1 :: (({ p with depth := (j : Int) + 1 } : PS).at b :: M ++ L)) → X (some ⟨b, 0, none⟩) b1 w)
    (hstop : ok = false → ∀ w, Sat σ w (l2.at b1 :: (p.at b :: M ++ L)) → g_parseState_addLine.k2 R (some ⟨b, 0, none⟩) b1 w) : X (some ⟨b, 0, none⟩) b1 w := by
  have hjl := (List.getElem?_eq_some_iff.1 ho).1
  have hlt := hs.2.2
  have hn := hs.2.1
  have hs0 := hs
  obtain ⟨sb, sp, hq, hM, hsp⟩ := hs.split (by intro he; rw [he] at hjl; simp at hjl)
  refine hX _ _ _ ?_
  have h : Sat σ w (l.at b1 :: p.at b :: (M ++ L)) := h
  refine Sat.tk h fun w h => nilP_some (nilP_some ?_)
  refine ⟨_, Sat.ld h (.tail _ (.head _)) (i := 5) rfl, _, _, _, Sat.ld h (.tail _ (.head _)) (i := 4) rfl, ?_⟩
  rw [hd, i64_in _ (by omega), hn]
  refine br_true (by simp; omega) ?_
  refine ⟨_, h.ldA, ?_⟩
  refine ⟨_, h.ldA, ?_⟩
  refine ⟨_, h.ldA, ?_⟩
  refine ⟨_, h.ldA, ?_⟩
  refine ⟨_, h.ldA, ?_⟩
  refine Sat.bx h fun b0 w h => ?_
  refine h.stA 0 fun w h => ?_
  refine h.stA 0 fun w h => ?_
  refine h.stA 0 fun w h => ?_
  refine h.stA 0 fun w h => ?_
  refine h.stA 0 fun w h => ?_
  have h : Sat σ w (l.at b0 :: l.at b1 :: p.at b :: (M ++ L)) := h
  refine Sat.tk h fun w h => nilP_some (nilP_some ?_)
  refine ⟨_, _, _, Sat.ld h (.tail _ (.tail _ (.head _))) (i := 4) rfl, _, Sat.ld h (.tail _ (.tail _ (.head _))) (i := 5) rfl, ?_⟩
  rw [hd, i64_in _ (by omega), hn, hq]
  refine ⟨by omega, by omega, nilP_some ?_⟩
  have hjt : ((j : Int) + 1).toNat = j + 1 := by omega
  rw [hjt]
  simp only [Addr.add_lit, Nat.zero_add]
  have hmem : (sb, cel (obCells ob ++ sp) ty_openBlock) ∈ (l.at b0 :: l.at b1 :: p.at b :: (M ++ L)) := by rw [hM]; simp
  refine ⟨o.bd, Sat.ld h hmem (stk_get (j := j + 1) (f := 0) (by decide) ho), ?_⟩
  have hmb : l.at b1 ∈ (l.at b0 :: l.at b1 :: p.at b :: (M ++ L)) := .tail _ (.head _)
  refine ⟨_, Sat.ld h hmb (i := 0) rfl, _, Sat.ld h hmb (i := 1) rfl, _, Sat.ld h hmb (i := 2) rfl, _, Sat.ld h hmb (i := 3) rfl, _, Sat.ld h hmb (i := 4) rfl, ?_⟩
  refine hE _ b0 w h fun w h => ⟨_, _, _, _, _, _, rfl, ?_⟩
  have h : Sat σ w (l.at b0 :: l.at b1 :: (p.at b :: M ++ L)) := h
  refine h.stA 1 fun w h => ?_
  refine h.stA 1 fun w h => ?_
  refine h.stA 1 fun w h => ?_
  refine h.stA 1 fun w h => ?_
  refine h.stA 1 fun w h => ?_
  have h : Sat σ w (l.at b0 :: l2.at b1 :: (p.at b :: M ++ L)) := h
  refine isBlank_ok h (.head _) hl fun w h => ⟨_, rfl, ?_⟩
  have fin : ∀ w, Sat σ w (l.at b0 :: l2.at b1 :: (p.at b :: M ++ L)) → g_parseState_addLine.k1 R X (some ⟨b, 0, none⟩) b1 ok false w := by
    intro w h
    refine br_false rfl ?_
    cases ok with
    | true =>
      refine br_false rfl (nilP_some ?_)
      have h : Sat σ w (l.at b0 :: l2.at b1 :: p.at b :: (M ++ L)) := h
      refine ⟨_, Sat.ld h (.tail _ (.tail _ (.head _))) (i := 5) rfl, nilP_some ?_⟩
      rw [hd, i64_in _ (by omega)]
      refine Sat.st h (k := 2) rfl (by simp [PS.cells]) trivial rfl fun w h => ?_
      have h : Sat σ w (l.at b0 :: l2.at b1 :: (({ p with depth := (j : Int) + 1 } : PS).at b :: M ++ L)) := h
      exact hgo rfl w h.tail
    | false => exact br_true rfl (hstop rfl w h.tail)
  cases hb : l.blank with
  | true => exact br_false rfl (fin w h)
  | false =>
    refine br_true rfl ?_
    obtain ⟨rfl, rfl⟩ := hno.resolve_left (by rw [hb]; decide)
    refine br_false rfl ?_
    refine ⟨_, h.ldA, ?_⟩
    refine ⟨_, h.ldA, ?_⟩
    refine ⟨_, h.ldA, ?_⟩
    refine ⟨_, h.ldA, ?_⟩
    refine ⟨_, h.ldA, ?_⟩
    refine ⟨_, h.ldA, ?_⟩
    refine ⟨_, h.ldA, ?_⟩
    refine ⟨_, h.ldA, ?_⟩
    refine ⟨_, h.ldA, ?_⟩
    refine ⟨_, h.ldA, ?_⟩
    exact ⟨_, _, neq_line l2 _ _ w, fin w h⟩
theorem listExt_ok {lb ib n : Nat} {q : Option Addr} {bul num : Int} {lo hv : Bool} {td : Value} {l l2 : Ln} {ok : Bool} (h : Sat σ w L) (hl : l.ok) (hn : n < 1000000) (h1 : lisC lb bul num lo (some ⟨ib, 0, none⟩) td ∈ L) (h2 : iteC ib lb n hv ∈ L)
    (ht : match l.trimSp n n true with | some l' => l2 = l' ∧ ok = true | none => l2 = l ∧ ok = false) (hR : ∀ w, Sat σ w L → R (.returned (.tuple #[l2.val, .bool ok])) w) :
    callE P i_listBuilder_extend #[.pointer (some ⟨lb, 0, none⟩), .pointer q, l.val] R w := by
  refine g_listBuilder_extend.sound ?_
  refine Sat.bx h fun b1 w h => ?_
  refine Sat.bx h fun b3 w h => ?_
  have h : Sat σ w (zLn b3 :: l.at b1 :: L) := h
  refine nilP_some ⟨_, Sat.ld h (.tail _ (.tail _ h1)) (i := 3) rfl, ?_⟩
  refine Sat.tk h fun w h => ⟨_, fun w => neq_ptr_nil und_PiB _ w, br_true rfl (nilP_some (nilP_some ?_))⟩
  refine ⟨_, Sat.ld h (.tail _ (.tail _ h2)) (i := 1) rfl, _, Sat.ld h (.tail _ (.tail _ h2)) (i := 1) rfl, ?_⟩
  have h : Sat σ w (l.at b1 :: zLn b3 :: L) := h.re (by intro _; simp only [List.append_eq, cnt_append, cnt_cons, cnt_nil] <;> omega)
  refine YtihmcipajjakgaaGreatDoor.trimSp_ok (min := n) (max := n) h hl (by omega) (by omega) ?_
  cases hs : l.trimSp n n true with
  | some l' =>
    rw [hs] at ht
    obtain ⟨rfl, rfl⟩ := ht
    intro w h
    refine ⟨_, rfl, br_true rfl ?_⟩
    refine ⟨_, h.ldA, ?_⟩
    refine ⟨_, h.ldA, ?_⟩
    refine ⟨_, h.ldA, ?_⟩
    refine ⟨_, h.ldA, ?_⟩
    refine ⟨_, h.ldA, ?_⟩
    refine h.stA 1 fun w h => ?_
    refine h.stA 1 fun w h => ?_
    refine h.stA 1 fun w h => ?_
    refine h.stA 1 fun w h => ?_
    refine h.stA 1 fun w h => ?_
    have h : Sat σ w (l2.at b1 :: l2.at b3 :: L) := h
    have h : Sat σ w (l2.at b3 :: l2.at b1 :: L) := h.re (by intro _; simp only [List.append_eq, cnt_append, cnt_cons, cnt_nil] <;> omega)
    refine ⟨_, h.ldA, ?_⟩
    refine ⟨_, h.ldA, ?_⟩
    refine ⟨_, h.ldA, ?_⟩
    refine ⟨_, h.ldA, ?_⟩
    refine ⟨_, h.ldA, ?_⟩
    exact hR _ h.tail.tail
  | none =>
    rw [hs] at ht
    obtain ⟨rfl, rfl⟩ := ht
    intro w h
    refine ⟨_, rfl, br_false rfl ⟨_, fun w => ptrNil_eq und_PiB _ w, br_false rfl ?_⟩⟩
    refine ⟨_, h.ldA, ?_⟩
    refine ⟨_, h.ldA, ?_⟩
    refine ⟨_, h.ldA, ?_⟩
    refine ⟨_, h.ldA, ?_⟩
    refine ⟨_, h.ldA, ?_⟩
    refine h.stA 1 fun w h => ?_
    refine h.stA 1 fun w h => ?_
    refine h.stA 1 fun w h => ?_
    refine h.stA 1 fun w h => ?_
    refine h.stA 1 fun w h => ?_
    have h : Sat σ w (l2.at b1 :: l2.at b3 :: L) := h
    have h : Sat σ w (l2.at b3 :: l2.at b1 :: L) := h.re (by intro _; simp only [List.append_eq, cnt_append, cnt_cons, cnt_nil] <;> omega)
    refine ⟨_, h.ldA, ?_⟩
    refine ⟨_, h.ldA, ?_⟩
    refine ⟨_, h.ldA, ?_⟩
    refine ⟨_, h.ldA, ?_⟩
    refine ⟨_, h.ldA, ?_⟩
    exact hR _ h.tail.tail
theorem itemExt_blank {ib lb n : Nat} {q : Option Addr} {l : Ln} (h : Sat σ w L) (hl : l.ok) (hb : l.blank = true) (h2 : iteC ib lb n true ∈ L) (hR : ∀ w, Sat σ w L → R (.returned (.tuple #[Ln.zero.val, .bool true])) w) :
    callE P i_itemBuilder_extend #[.pointer (some ⟨ib, 0, none⟩), .pointer q, l.val] R w := by
  refine g_itemBuilder_extend.sound ?_
  refine Sat.bx h fun b1 w h => ?_
  refine Sat.bx h fun b3 w h => ?_
  have h : Sat σ w (zLn b3 :: l.at b1 :: L) := h
  refine isBlank_ok h (.tail _ (.head _)) hl fun w h => ⟨_, rfl, ?_⟩
  rw [hb]
  refine br_true rfl (nilP_some ⟨_, Sat.ld h (.tail _ (.tail _ h2)) (i := 2) rfl, br_false rfl ?_⟩)
  refine isBlank_ok h (.tail _ (.head _)) hl fun w h => ⟨_, rfl, ?_⟩
  rw [hb]
  refine br_true rfl ?_
  refine h.stA 0 fun w h => ?_
  refine h.stA 0 fun w h => ?_
  refine h.stA 0 fun w h => ?_
  refine h.stA 0 fun w h => ?_
  refine h.stA 0 fun w h => ?_
  have h : Sat σ w (zLn b3 :: l.at b1 :: L) := h
  refine ⟨_, h.ldA, ?_⟩
  refine ⟨_, h.ldA, ?_⟩
  refine ⟨_, h.ldA, ?_⟩
  refine ⟨_, h.ldA, ?_⟩
  refine ⟨_, h.ldA, ?_⟩
  exact hR _ h.tail.tail
theorem trimSp_eol (n : Nat) (l : Ln) (hsp : l.sp = 0) (he : l.text.length ≤ l.i) : l.trimSp n n true = some l := by
  have key : ∀ k m, l.tsGo n true k m = some l := by
    intro k
    induction k with
    | zero => intro m; rfl
    | succ k ih =>
      intro m
      simp only [Ln.tsGo, hsp]
      rw [if_neg (by decide), if_pos ⟨he, trivial⟩]
      exact ih _
  exact key n 0
theorem trimC_run {b k : Nat} {fs : List Bk} {lf : Leaf} {p : PS} (h : DocC σ b L fs lf p w) (hk : k ≤ fs.length)
    (hX : ∀ X : OA → Int → WP, (∀ x0 x1 w, g_parseState_trimStack.bl1 R X x0 x1 w → X x0 x1 w) → X (some ⟨b, 0, none⟩) (k : Int) w) : callE P i_parseState_trimStack #[.pointer (some ⟨b, 0, none⟩), .int .i64 (k : Int)] R w := by
  obtain ⟨M, TM, lobs, LM, hs, ht, hok, hL, h⟩ := h
  have hn := hs.2.1
  rw [List.length_append, List.length_map] at hn
  refine g_parseState_trimStack.sound ?_
  refine nilP_some ?_
  refine ⟨_, _, _, h.ldA, ?_⟩
  rw [hn]
  exact br_false (by simp; omega) hX
theorem trimC_end {X : OA → Int → WP} {b k : Nat} {fs : List Bk} {p : PS} (hX : ∀ x0 x1 w, g_parseState_trimStack.bl1 R X x0 x1 w → X x0 x1 w) (h : DocC σ b L fs .none p w) (hk : fs.length = k) (hR : R (.returned (.tuple #[])) w) : X (some ⟨b, 0, none⟩) (k : Int) w := by
  obtain ⟨M, TM, lobs, LM, hs, ht, hok, ⟨rfl, rfl⟩, h⟩ := h
  have hn := hs.2.1
  rw [List.append_nil, List.length_map] at hn
  refine hX _ _ _ (nilP_some ?_)
  refine ⟨_, _, _, h.ldA, ?_⟩
  rw [hn]
  exact br_false (by simp; omega) hR
end Go.Proofs.YtihmcipajjakgaaGreatDoor


set_option linter.unusedVariables false
namespace Go.Proofs.YtihmcipajjakgaaGreatDoor
open Go.Proofs Go.IntWalk Go.RowKit
variable {σ : Out} {w : World} {L L' : List Chunk} {R : Ending → World → Prop}
theorem zero_ok : Ln.zero.ok := ⟨by decide, by decide, by decide, by decide⟩
structure BulL (l : Ln) (c : UInt8) (n : Nat) (l2 : Ln) : Prop where
  has : ∃ r, l.has c r
  bul : c = 45 ∨ c = 42 ∨ c = 43
  hr : l.isHR = false
  bt : l.bullet = some (c, n, l2)
  has2 : ∃ d r, l2.has d r ∧ isST d = false
  plain : l2.plain
theorem addLine_item0 {b pb n : Nat} {op : Opt} {p : PS} {root : Bk} {c : UInt8} {l l2 : Ln} (h : DocC σ b L [root] .none p w) (hr : root.isRoot) (hB : BulL l c n l2) (hpz : p.pz = some ⟨pb, 0, none⟩) (hop : op.at pb ∈ L) (hno : p.lineno < 1000000000)
    (hR : ∀ w (p' : PS) f g lb it, p'.base = p.base → p'.lineno = p.lineno → f.isList lb c.toNat 0 it → f.D = [] → f.ob.s = p.lineno → ItemOf it g lb n true → g.D = [] → g.ob.s = p.lineno → g.ob.e = p.lineno → DocC σ b L [root, f, g] (.para [l2.rest]) p' w → R (.returned (.tuple #[])) w) :
    callE P i_parseState_addLine #[.pointer (some ⟨b, 0, none⟩), l.val] R w := by
  obtain ⟨⟨r, hl⟩, hc, hHR, hbul, ⟨d, r2, hl2, hst⟩, hpl⟩ := hB
  have hcst : isST c = false := by rcases hc with rfl | rfl | rfl <;> decide
  obtain ⟨M, TM, lobs, LM, hs, ht, hok, ⟨rfl, rfl⟩, h⟩ := h
  obtain ⟨rb, hbd, _⟩ := hr
  refine g_parseState_addLine.sound ?_
  refine Sat.bx h fun b1 w h => ?_
  repeat (first | refine nilP_some ?_ | refine h.tk fun w h => ?_ | refine ⟨_, h.ldA, ?_⟩ | refine ⟨_, _, _, h.ldA, ?_⟩ | refine h.stA 0 fun w h => ?_ | refine h.stA 1 fun w h => ?_ | refine h.stA 2 fun w h => ?_ | refine h.stA 3 fun w h => ?_ | refine h.stA 4 fun w h => ?_ | refine h.stA 5 fun w h => ?_ | refine h.stA 6 fun w h => ?_ | refine h.bx fun b0 w h => ?_)
  let p1 : PS := { p with depth := 0 }
  have h : Sat σ _ (l.at b1 :: p1.at b :: (M ++ (TM ++ (memFs [root] ++ ([] ++ L))))) := h
  intro X hX
  refine hX _ _ _ ?_
  repeat (first | refine nilP_some ?_ | refine h.tk fun w h => ?_ | refine ⟨_, h.ldA, ?_⟩ | refine ⟨_, _, _, h.ldA, ?_⟩)
  have hn : p1.stn = 1 := hs.2.1
  rw [hn]
  refine br_false rfl ?_
  refine isBlank_ok h (by first | assumption | (repeat (first | exact .head _ | apply List.Mem.tail))) hl.ok fun w h => ⟨_, rfl, ?_⟩
  rw [hl.blank hcst]
  refine br_false rfl ?_
  have hd : DocC σ b (l.at b1 :: L) ([] ++ [root]) .none p1 w := ⟨M, TM, [], [], hs.of rfl rfl rfl, ht.of rfl rfl rfl, hok, ⟨rfl, rfl⟩, by
    show Sat σ w (p1.at b :: M ++ (TM ++ (memFs [root] ++ ([] ++ (l.at b1 :: L)))))
    exact h.re (by intro _; simp only [List.append_eq, cnt_append, cnt_cons, cnt_nil] <;> omega)⟩
  refine pushListC (Runs.top b b1) hd rfl (by simp) hbd (by decide) (by decide) hl hc hHR hbul hl2 hst hno fun X hX w p' f g lb it e1 e2 e3 hf hfD hg hgD e4 e5 e6 h => ?_
  obtain ⟨ib, hit, hgb, hgo⟩ := hg
  have hpz' : p'.pz = some ⟨pb, 0, none⟩ := by rw [base_ln e1]; exact hpz
  refine hX _ _ _ ?_
  have h : DocC σ b (l2.at b1 :: L) ([root, f] ++ [g]) .none p' w := h
  have e3 : p'.depth = 2 := by rw [e3]; rfl
  refine pushParaC (op := op) h e3 (by simp) hgb (by decide) (by decide) hpl hpz' hop (by rw [e2]; exact hno) fun w p2 a1 a2 h => ?_
  exact hR w p2 f g lb it (a1.trans e1) (a2.trans e2) hf hfD e4 ⟨ib, hit, hgb, hgo⟩ hgD e5 e6 h
def Closed1 (f g : Bk) (n : Nat) (lf : Leaf) (f' : Bk) : Prop := ∃ i : IT, f'.D = f.D ++ [i.db] ∧ i.ok ∧ i.s = g.ob.s ∧ i.e = g.ob.e ∧ f'.ob.s = f.ob.s ∧ i.wd = n ∧
  match lf with
  | .none => i.D = g.D
  | .para ls => ∃ nb t s e, i.D = g.D ++ [paraDB nb t s e (joinL [10] ls)] ∧ s < 1000000000 ∧ e = s + ls.length - 1
  | .other _ => False
theorem closeItem1 {b lb n : Nat} {hv : Bool} {bul num : Int} {it : Option Addr} {td : Value} {gs : List Bk} {f g : Bk} {p : PS} {lf : Leaf} {X : OA → Int → WP} (hX : ∀ x0 x1 w, g_parseState_trimStack.bl1 R X x0 x1 w → X x0 x1 w) {k : Nat} (hk : k ≤ gs.length + 1) (h : DocC σ b L (gs ++ [f, g]) lf p w) (hf : f.isListT lb bul num it td) (hg : g.isItem lb n hv) (hlf : lf.finN)
    (hfD : f.D.length < 99999) (hgD : g.D.length < 99999) (htx : (txF (gs ++ [f, g])).length < 100000)
    (hN : ∀ w (p' : PS) f', p'.base = p.base → p'.lineno = p.lineno → p'.depth = p.depth → f'.isListT lb bul num none td → Closed1 f g n lf f' → DocC σ b L (gs ++ [f']) .none p' w → X (some ⟨b, 0, none⟩) (k : Int) w) : X (some ⟨b, 0, none⟩) (k : Int) w := by
  cases lf with
  | other A => exact hlf.elim
  | none =>
    refine trim_step hX h (by simp; omega) ?_
    refine closeItemC h hg hf hfD fun w f' nb x l1 l2 l3 l4 io h => ⟨_, rfl, ?_⟩
    exact hN w { p with stn := gs.length + 1 } f' rfl rfl rfl l1 ⟨_, l4, io, rfl, rfl, l2, rfl, rfl⟩ h
  | para ls =>
    have e1 : gs ++ [f, g] = (gs ++ [f]) ++ [g] := by simp
    rw [e1] at h htx
    refine trim_step hX h (by simp; omega) ?_
    refine closeParaC h hlf hgD htx fun w p' g' nb t s e x b1 b2 b3 b4 lk lD le ls1 h => ⟨_, rfl, ?_⟩
    have h : DocC σ b L (gs ++ [f, g']) .none p' w := by rw [List.append_assoc] at h; exact h
    obtain ⟨ib, g1, g2⟩ := hg
    refine trim_step hX h (by simp; omega) ?_
    refine closeItemC h ⟨ib, lk.1.trans g1, lk.2.2.2.trans g2⟩ hf hfD fun w f' nb2 x2 l1 l2 l3 l4 io h => ⟨_, rfl, ?_⟩
    exact hN w { p' with stn := gs.length + 1 } f' b1 b3 b2 l1 ⟨_, l4, io, lk.2.1, lk.2.2.1, l2, rfl, nb, t, s, e, lD, ls1, le⟩ h
theorem addLine_item {b pb n lb n0 : Nat} {op : Opt} {p : PS} {root f g : Bk} {c : UInt8} {it : Option Addr} {l l2 : Ln} {lf : Leaf} (h : DocC σ b L [root, f, g] lf p w) (hr : root.isRoot) (hf : f.isList lb c.toNat 0 it) (hg : ItemOf it g lb n0 true) (hn0 : 1 ≤ n0 ∧ n0 < 100) (hB : BulL l c n l2) (hlf : lf.finN) (hpz : p.pz = some ⟨pb, 0, none⟩) (hop : op.at pb ∈ L) (hno : p.lineno < 1000000000)
    (hfD : f.D.length < 99999) (hgD : g.D.length < 99999) (htx : (txF [root, f, g]).length < 100000)
    (hR : ∀ w (p' : PS) f' g' it', p'.base = p.base → p'.lineno = p.lineno → f'.isList lb c.toNat 0 it' → Closed1 f g n0 lf f' → ItemOf it' g' lb n true → g'.D = [] → g'.ob.s = p.lineno → g'.ob.e = p.lineno → DocC σ b L [root, f', g'] (.para [l2.rest]) p' w → R (.returned (.tuple #[])) w) :
    callE P i_parseState_addLine #[.pointer (some ⟨b, 0, none⟩), l.val] R w := by
  obtain ⟨⟨r, hl⟩, hc, hHR, hbul, ⟨d, r2, hl2, hst⟩, hpl⟩ := hB
  have hcst : isST c = false := by rcases hc with rfl | rfl | rfl <;> decide
  have hb2 := hl2.blank hst
  obtain ⟨ib, hit, hgb, hgo⟩ := hg
  obtain ⟨hfb, hfo⟩ := hf
  obtain ⟨rb, hrb, hro⟩ := hr
  obtain ⟨M, TM, lobs, LM, hs, ht, hok, hL, h⟩ := h
  have hmem : memFs [root, f, g] = memFs [root] ++ (f.IM ++ ([lisC lb c.toNat 0 false it .nilFunc] ++ (ownC f.D ++ txc f.D)) ++ (g.IM ++ ([iteC ib lb n0 true] ++ (ownC g.D ++ txc g.D)))) := by
    rw [show [root, f, g] = [root] ++ [f, g] from rfl, memFs_append, memFs_two, hfo, hgo]
  obtain ⟨ob0, top, tt, tv, htop, htb, htv⟩ : ∃ ob0 top tt tv, [root, f, g].map Bk.ob ++ lobs = ob0 ++ [top] ∧ top.bd = .iface tt tv ∧ (tt = ty_P_paraBuilder → ∃ q, tv = .pointer q) := by
    cases lf with
    | other A => exact hlf.elim
    | none =>
      obtain ⟨rfl, _⟩ := hL
      exact ⟨[root.ob, f.ob], g.ob, _, _, rfl, hgb, fun hh => absurd hh (by decide)⟩
    | para ls =>
      obtain ⟨qb, s, e, rfl, _⟩ := hL
      exact ⟨[root.ob, f.ob, g.ob], paraOB qb s e, _, _, rfl, rfl, fun _ => ⟨_, rfl⟩⟩
  have hob : ∀ j, j < 3 → ([root, f, g].map Bk.ob ++ lobs)[j]? = [root.ob, f.ob, g.ob][j]? := fun j hj => List.getElem?_append_left (by simpa using hj)
  generalize hobs : [root, f, g].map Bk.ob ++ lobs = obs at hs htop hob
  refine g_parseState_addLine.sound ?_
  refine Sat.bx h fun b1 w h => ?_
  repeat (first | refine nilP_some ?_ | refine h.tk fun w h => ?_ | refine ⟨_, h.ldA, ?_⟩ | refine ⟨_, _, _, h.ldA, ?_⟩ | refine h.stA 0 fun w h => ?_ | refine h.stA 1 fun w h => ?_ | refine h.stA 2 fun w h => ?_ | refine h.stA 3 fun w h => ?_ | refine h.stA 4 fun w h => ?_ | refine h.stA 5 fun w h => ?_ | refine h.stA 6 fun w h => ?_ | refine h.bx fun b0 w h => ?_)
  let p1 : PS := { p with depth := 0 }
  have h : Sat σ _ (l.at b1 :: p1.at b :: (M ++ (TM ++ (memFs [root, f, g] ++ (LM ++ L))))) := h
  have hs1 : Stk p1 obs M := hs.of rfl rfl rfl
  intro X hX
  have hml : lisC lb c.toNat 0 false it .nilFunc ∈ memFs [root, f, g] := by rw [hmem]; simp
  have hmi : iteC ib lb n0 true ∈ memFs [root, f, g] := by rw [hmem]; simp
  refine ext_step (j := 0) (l2 := l) (ok := false) hX h hs1 rfl (by decide) (hob 1 (by decide)) hl.ok (fun R' b0 w h hk => ?_) (.inr ⟨rfl, rfl⟩) (fun hh => absurd hh (by decide)) fun _ w h => ?_
  · show enterE P (callMethod f.ob.bd _ _) R' w
    rw [hfb]
    refine enter_meth meth_listExtend ?_
    refine listExt_ok (ib := ib) (lb := lb) (n := n0) (hv := true) (bul := c.toNat) (num := 0) (lo := false) (td := .nilFunc) h hl.ok (by omega) (by rw [← hit]; simp [hml]) (by simp [hmi]) ?_ hk
    have : l.trimSp n0 n0 true = none := by
      unfold Ln.trimSp
      obtain ⟨m, rfl⟩ : ∃ m, n0 = m + 1 := ⟨n0 - 1, by omega⟩
      rw [hl.tsGo hcst]; rfl
    rw [this]; exact ⟨rfl, rfl⟩
  unfold g_parseState_addLine.k2
  refine isBlank_ok h (.head _) hl.ok fun w h => ⟨_, rfl, ?_⟩
  rw [hl.blank hcst]
  refine br_false rfl ?_
  rw [hmem] at h
  have h : Sat σ w (p1.at b :: M ++ (l.at b1 :: (lisC lb c.toNat 0 false it .nilFunc :: (TM ++ (memFs [root] ++ (f.IM ++ (ownC f.D ++ txc f.D) ++ (g.IM ++ ([iteC ib lb n0 true] ++ (ownC g.D ++ txc g.D)))) ++ (LM ++ L)))))) := h.re (by intro _; simp only [List.append_eq, cnt_append, cnt_cons, cnt_nil] <;> omega)
  have hset : ∀ (p2 : PS) (M : List Chunk) (j : Nat), j < 2 → Stk p2 obs M → p2.depth = j → Decl b p2 M l i_newSetextHeading := by
    intro p2 M j hj hs2 hd2 σ w L R hS hR
    rw [htop] at hs2 hob
    match j, hj with
    | 0, _ => exact newSetext_ne (d := 0) hS hs2 hd2 (by decide) (hob 1 (by decide)) hfb (by decide) htb htv hl.ok hR
    | 1, _ => exact newSetext_ne (d := 1) hS hs2 hd2 (by decide) (hob 2 (by decide)) hgb (by decide) htb htv hl.ok hR
  refine bl102_pass (l2 := l) 4 (by decide) h (decl_bullet (hset p1 M 0 (by decide) hs1 rfl) hl hc hHR) hl.ok (hl.blank hcst) fun w nb e R' h hk => ?_
  show callE P i_newListItem _ R' w
  have h : Sat σ w (p1.at b :: M ++ (lisC lb c.toNat 0 false it .nilFunc :: (l.at b1 :: (nb, cel newsC e) :: (TM ++ (memFs [root] ++ (f.IM ++ (ownC f.D ++ txc f.D) ++ (g.IM ++ ([iteC ib lb n0 true] ++ (ownC g.D ++ txc g.D)))) ++ (LM ++ L)))))) := h.re (by intro _; simp only [List.append_eq, cnt_append, cnt_cons, cnt_nil] <;> omega)
  refine newList_again (d := 0) h hs1 rfl (by decide) (hob 0 (by decide)) hrb (by decide) (hob 1 (by decide)) hfb hl.ok hbul fun w x2 x5 x15 x18 ib2 h => ?_
  rw [hb2, show (!false) = true from rfl] at h
  have h : Sat σ w (l.at b1 :: p1.at b :: (M ++ (lisC lb c.toNat 0 false it (cloV x2 x18 x15 x5) :: (boxesC b x2 x5 x15 x18 lb ib2 n true l2 ++ ((nb, cel newsC e) :: (TM ++ (memFs [root] ++ (f.IM ++ (ownC f.D ++ txc f.D) ++ (g.IM ++ ([iteC ib lb n0 true] ++ (ownC g.D ++ txc g.D)))) ++ (LM ++ L)))))))) := by
    have h : Sat σ w (p1.at b :: M ++ (lisC lb c.toNat 0 false it (cloV x2 x18 x15 x5) :: (boxesC b x2 x5 x15 x18 lb ib2 n true l2 ++ (l.at b1 :: (nb, cel newsC e) :: (TM ++ (memFs [root] ++ (f.IM ++ (ownC f.D ++ txc f.D) ++ (g.IM ++ ([iteC ib lb n0 true] ++ (ownC g.D ++ txc g.D)))) ++ (LM ++ L))))))) := h
    exact h.re (by intro _; simp only [List.append_eq, cnt_append, cnt_cons, cnt_nil] <;> omega)
  refine hk w _ p1 ⟨by show (0 : Int) < 1000000; decide, by show (0 : Int) ≤ 0; decide⟩ h fun w h => ?_
  refine Runs.top b b1 w fun X hX' => ?_
  let p3 : PS := { p1 with depth := p1.depth + 1 }
  let f3 : Bk := ⟨f.ob, [lisC lb c.toNat 0 false it (cloV x2 x18 x15 x5)], f.D, f.IM⟩
  have hmem3 : memFs [root, f3, g] = memFs [root] ++ (f.IM ++ ([lisC lb c.toNat 0 false it (cloV x2 x18 x15 x5)] ++ (ownC f.D ++ txc f.D)) ++ (g.IM ++ ([iteC ib lb n0 true] ++ (ownC g.D ++ txc g.D)))) := by
    rw [show [root, f3, g] = [root] ++ [f3, g] from rfl, memFs_append, memFs_two, hgo]
  have hs3 : Stk p3 obs M := hs.of rfl rfl rfl
  have h : Sat σ w (p3.at b :: M ++ (l.at b1 :: (boxesC b x2 x5 x15 x18 lb ib2 n true l2 ++ ((nb, cel newsC e) :: (TM ++ (memFs [root, f3, g] ++ (LM ++ L))))))) := by
    rw [hmem3]
    have h : Sat σ w (l.at b1 :: p3.at b :: (M ++ (lisC lb c.toNat 0 false it (cloV x2 x18 x15 x5) :: (boxesC b x2 x5 x15 x18 lb ib2 n true l2 ++ ((nb, cel newsC e) :: (TM ++ (memFs [root] ++ (f.IM ++ (ownC f.D ++ txc f.D) ++ (g.IM ++ ([iteC ib lb n0 true] ++ (ownC g.D ++ txc g.D)))) ++ (LM ++ L)))))))) := h
    exact h.re (by intro _; simp only [List.append_eq, cnt_append, cnt_cons, cnt_nil] <;> omega)
  refine bl102_pass (l2 := l2) 4 (by decide) h (decl_bullet (hset p3 M 1 (by decide) hs3 rfl) hl hc hHR) hl2.ok hb2 fun w nb2 e2 R2 h hk2 => ?_
  show callE P i_newListItem _ R2 w
  have hokf : ∀ k ∈ [root, f3, g], Bk.ok k := by
    intro k hk
    simp only [List.mem_cons, List.not_mem_nil, or_false] at hk
    rcases hk with rfl | rfl | rfl
    · exact hok _ (by simp)
    · exact hok f (by simp)
    · exact hok _ (by simp)
  have hD3 : DocC σ b (boxesC b x2 x5 x15 x18 lb ib2 n true l2 ++ (l.at b1 :: (nb2, cel newsC e2) :: (nb, cel newsC e) :: L)) ([root] ++ f3 :: [g]) lf p3 w := by
    refine ⟨M, TM, lobs, LM, ?_, ht.of rfl rfl rfl, hokf, hL, ?_⟩
    · rw [← hobs] at hs3; exact hs3
    · show Sat σ w (p3.at b :: M ++ (TM ++ (memFs [root, f3, g] ++ (LM ++ (boxesC b x2 x5 x15 x18 lb ib2 n true l2 ++ (l.at b1 :: (nb2, cel newsC e2) :: (nb, cel newsC e) :: L))))))
      exact h.re (by intro _; simp only [List.append_eq, cnt_append, cnt_cons, cnt_nil] <;> omega)
  refine todoC (Post := fun p1 lst' => Closed1 f g n0 lf lst') (l := l) hD3 ⟨hfb, rfl⟩ rfl (by simp) hno (fun L R' w _ h hk => ?_) fun w p4 p5 lst' lst'' g' hpost c1 c2 c3 hl'' hob'' hD'' hg' hgD' hgs hge h => ?_
  · show callE P i_parseState_trimStack #[.pointer (some ⟨b, 0, none⟩), .int .i64 ((2 : Nat) : Int)] R' w
    have h : DocC σ b L ([root] ++ [f3, g]) lf p3 w := h
    refine trimC_run h (by simp) fun X hX => ?_
    refine closeItem1 (k := 2) (f := f3) (g := g) (n := n0) (hv := true) (gs := [root]) hX (by simp) h ⟨hfb, rfl⟩ ⟨ib, hgb, hgo⟩ hlf hfD hgD htx fun w p' f' a1 a2 a3 a4 a5 h => ?_
    refine trimC_end hX h rfl ?_
    exact hk w p' f' none a5 a1 a2 a3 a4 h
  · have hc3 : p4.depth = 1 := by rw [c3]; rfl
    have hl4 : p4.lineno = p.lineno := c2
    have h2 : ∃ L2, Sat σ w (l.at b1 :: p4.at b :: L2) ∧ ∀ w, Sat σ w (l2.at b1 :: ({ p4 with depth := p4.depth + 1 } : PS).at b :: L2) → DocC σ b (l2.at b1 :: L) ([root, lst''] ++ [g']) .none { p4 with depth := p4.depth + 1 } w := by
      obtain ⟨M5, TM5, lobs5, LM5, hs5, ht5, hok5, ⟨rfl, rfl⟩, h⟩ := h
      refine ⟨M5 ++ (TM5 ++ (memFs ([root] ++ [lst'', g']) ++ ([] ++ ((nb2, cel newsC e2) :: (nb, cel newsC e) :: L)))), h.re (by intro _; simp only [List.append_eq, cnt_append, cnt_cons, cnt_nil] <;> omega), fun w h => ?_⟩
      refine ⟨M5, TM5, [], [], hs5.of rfl rfl rfl, ht5.of rfl rfl rfl, hok5, ⟨rfl, rfl⟩, ?_⟩
      show Sat σ w (_ :: M5 ++ (TM5 ++ (memFs ([root] ++ [lst'', g']) ++ ([] ++ (l2.at b1 :: L)))))
      exact h.less [(nb2, cel newsC e2), (nb, cel newsC e)] (by intro _; simp only [List.append_eq, cnt_append, cnt_cons, cnt_nil] <;> omega)
    obtain ⟨L2, hS, hback⟩ := h2
    refine hk2 w L2 p4 (by omega) hS fun w h => ?_
    have h := hback w h
    obtain ⟨ib3, hit3, hgb3, hgo3⟩ := hg'
    have hpz4 : p4.pz = some ⟨pb, 0, none⟩ := by rw [base_ln c1]; exact hpz
    refine hX' _ _ _ ?_
    refine pushParaC (op := op) (gs := [root, lst'']) h (by show p4.depth + 1 = _; rw [hc3]; rfl) (by simp) hgb3 (by decide) (by decide) hpl hpz4 hop (by show p4.lineno < _; omega) fun w p6 a1 a2 h => ?_
    refine hR w p6 lst'' g' (some ⟨ib2, 0, none⟩) (a1.trans c1) (a2.trans hl4) hl'' ?_ ⟨ib3, hit3, hgb3, hgo3⟩ hgD' hgs hge h
    obtain ⟨i, i1, i2, i3, i4, i5, i6⟩ := hpost
    exact ⟨i, by rw [hD'']; exact i1, i2, i3, i4, by rw [hob'']; exact i5, i6⟩
theorem addLine_blankL {b pb n lb : Nat} {p : PS} {root f g : Bk} {bul : Int} {it : Option Addr} {ls : List (List UInt8)} {nl : UInt8} (h : DocC σ b L [root, f, g] (.para ls) p w) (hf : f.isList lb bul 0 it) (hg : ItemOf it g lb n true) (hn : n < 100) (hlf : Leaf.finN (.para ls))
    (hgD : g.D.length < 99999) (htx : (txF [root, f, g]).length < 100000)
    (hR : ∀ w (p' : PS) g' nb t s e, p'.base = p.base → p'.lineno = p.lineno → g'.like g → g'.D = g.D ++ [paraDB nb t s e (joinL [10] ls)] → s < 1000000000 → e = s + ls.length - 1 → DocC σ b L [root, f, g'] .none p' w → R (.returned (.tuple #[])) w) :
    callE P i_parseState_addLine #[.pointer (some ⟨b, 0, none⟩), (lnOf [] nl).val] R w := by
  obtain ⟨ib, hit, hgb, hgo⟩ := hg
  obtain ⟨hfb, hfo⟩ := hf
  have hlo : (lnOf [] nl).ok := lnOf_ok (by simp)
  have hlb : (lnOf [] nl).blank = true := rfl
  obtain ⟨M, TM, lobs, LM, hs, ht, hok, hL, h⟩ := h
  have hL0 := hL
  obtain ⟨qb, s0, e0, rfl, hp, hs1, hne, hln⟩ := hL
  have hmem : memFs [root, f, g] = memFs [root] ++ (f.IM ++ ([lisC lb bul 0 false it .nilFunc] ++ (ownC f.D ++ txc f.D)) ++ (g.IM ++ ([iteC ib lb n true] ++ (ownC g.D ++ txc g.D)))) := by
    rw [show [root, f, g] = [root] ++ [f, g] from rfl, memFs_append, memFs_two, hfo, hgo]
  have hml : lisC lb bul 0 false it .nilFunc ∈ memFs [root, f, g] := by rw [hmem]; simp
  have hmi : iteC ib lb n true ∈ memFs [root, f, g] := by rw [hmem]; simp
  refine g_parseState_addLine.sound ?_
  refine Sat.bx h fun b1 w h => ?_
  repeat (first | refine nilP_some ?_ | refine h.tk fun w h => ?_ | refine ⟨_, h.ldA, ?_⟩ | refine ⟨_, _, _, h.ldA, ?_⟩ | refine h.stA 0 fun w h => ?_ | refine h.stA 1 fun w h => ?_ | refine h.stA 2 fun w h => ?_ | refine h.stA 3 fun w h => ?_ | refine h.stA 4 fun w h => ?_ | refine h.stA 5 fun w h => ?_ | refine h.stA 6 fun w h => ?_ | refine h.bx fun b0 w h => ?_)
  let p1 : PS := { p with depth := 0 }
  have h : Sat σ _ ((lnOf [] nl).at b1 :: p1.at b :: (M ++ (TM ++ (memFs [root, f, g] ++ (LM ++ L))))) := h
  have hs1' : Stk p1 ([root.ob, f.ob, g.ob, paraOB qb s0 e0]) M := hs.of rfl rfl rfl
  intro X hX
  refine ext_step (j := 0) (l2 := lnOf [] nl) (ok := true) hX h hs1' rfl (by decide) (o := f.ob) rfl hlo (fun R' b0 w h hk => ?_) (.inl hlb) (fun _ w h => ?_) (fun hh => absurd hh (by decide))
  · rw [hfb]
    refine enter_meth meth_listExtend ?_
    refine listExt_ok (ib := ib) (lb := lb) (n := n) (hv := true) (bul := bul) (num := 0) (lo := false) (td := .nilFunc) h hlo (by omega) (by rw [← hit]; simp [hml]) (by simp [hmi]) ?_ hk
    rw [trimSp_eol n _ rfl (by simp [lnOf])]; exact ⟨rfl, rfl⟩
  let p2 : PS := { p1 with depth := ((0 : Nat) : Int) + 1 }
  have hs2 : Stk p2 ([root.ob, f.ob, g.ob, paraOB qb s0 e0]) M := hs.of rfl rfl rfl
  refine ext_step (j := 1) (l2 := Ln.zero) (ok := true) hX (p := p2) h hs2 rfl (by decide) (o := g.ob) rfl hlo (fun R' b0 w h hk => ?_) (.inl hlb) (fun _ w h => ?_) (fun hh => absurd hh (by decide))
  · rw [hgb]
    refine enter_meth meth_itemExtend ?_
    exact itemExt_blank (lb := lb) (n := n) h hlo hlb (by simp [hmi]) hk
  let p3 : PS := { p2 with depth := ((1 : Nat) : Int) + 1 }
  have hs3 : Stk p3 ([root.ob, f.ob, g.ob, paraOB qb s0 e0]) M := hs.of rfl rfl rfl
  refine ext_step (j := 2) (l2 := Ln.zero) (ok := false) hX (p := p3) h hs3 rfl (by decide) (o := paraOB qb s0 e0) rfl zero_ok (fun R' b0 w h hk => ?_) (.inl rfl) (fun hh => absurd hh (by decide)) (fun _ w h => ?_)
  · refine enter_meth meth_paraExtend ?_
    exact paraExtend_ok h hk
  unfold g_parseState_addLine.k2
  refine isBlank_ok h (.head _) zero_ok fun w h => ⟨_, rfl, ?_⟩
  refine br_true rfl (nilP_some ?_)
  refine ⟨_, Sat.ld h (.tail _ (.head _)) (i := 5) rfl, ?_⟩
  have hD : DocC σ b (Ln.zero.at b1 :: L) ([root, f] ++ [g]) (.para ls) p3 w := ⟨M, TM, _, LM, hs3, ht.of rfl rfl rfl, hok, hL0, by
    have h : Sat σ w (Ln.zero.at b1 :: (p3.at b :: M ++ (TM ++ (memFs [root, f, g] ++ (LM ++ L))))) := h
    show Sat σ w (p3.at b :: M ++ (TM ++ (memFs [root, f, g] ++ (LM ++ (Ln.zero.at b1 :: L)))))
    exact h.re (by intro _; simp only [List.append_eq, cnt_append, cnt_cons, cnt_nil] <;> omega)⟩
  show callE P i_parseState_trimStack #[.pointer (some ⟨b, 0, none⟩), .int .i64 ((3 : Nat) : Int)] _ w
  refine trimC_run hD (by simp) fun X hX => ?_
  have hn3 : p3.stn = 4 := hs3.2.1
  obtain ⟨M9, TM9, lobs9, LM9, hs9, ht9, hok9, hL9, h9⟩ := hD
  refine hX _ _ _ (nilP_some ?_)
  refine ⟨_, _, _, Sat.ld h9 (.head _) (i := 4) rfl, ?_⟩
  rw [hn3]
  refine br_true rfl ?_
  refine closeParaC (gs := [root, f]) (par := g) ⟨M9, TM9, lobs9, LM9, hs9, ht9, hok9, hL9, h9⟩ hlf hgD htx fun w p' g' nb t s e x a1 a2 a3 a4 lk lD le ls1 h => ⟨_, rfl, ?_⟩
  refine trimC_end hX h rfl ⟨rfl, ?_⟩
  refine hR w p' g' nb t s e a1 a3 lk lD ls1 le ?_
  obtain ⟨M5, TM5, lobs5, LM5, hs5, ht5, hok5, ⟨rfl, rfl⟩, h⟩ := h
  refine ⟨M5, TM5, [], [], hs5, ht5, hok5, ⟨rfl, rfl⟩, ?_⟩
  have h : Sat σ w (p'.at b :: M5 ++ (TM5 ++ (memFs [root, f, g'] ++ ([] ++ (Ln.zero.at b1 :: L))))) := h
  exact h.less [Ln.zero.at b1] (by intro _; simp only [List.append_eq, cnt_append, cnt_cons, cnt_nil] <;> omega)
end Go.Proofs.YtihmcipajjakgaaGreatDoor


set_option linter.unusedVariables false
set_option maxRecDepth 20000
namespace Go.Proofs.YtihmcipajjakgaaGreatDoor
open Go.Proofs
namespace g_laws_ascii
noncomputable def body : Code := bodyOf Tryz.f9
def bl1 (R : EP) (Xa : BA → Bool → Int → WP) (x0 : BA) (x1 : Bool) (x5 : Int) (w : World) : Prop :=
 br (decide (x5 < (x0.size : Int)))
 (0 ≤ x5 ∧ x5 < (x0.size : Int) ∧
 ((!(decide ((bt x0 x5) < 32))) = true → 0 ≤ x5 ∧ x5 < (x0.size : Int)) ∧
 ((((decide ((bt x0 x5) < 32)) || (decide ((bt x0 x5) > 126))) && x1) = true → 0 ≤ x5 ∧ x5 < (x0.size : Int)) ∧
 br (((decide ((bt x0 x5) < 32)) || (decide ((bt x0 x5) > 126))) && (!(x1 && ((bt x0 x5) == 10))))
 (R (.returned (.bool false)) w)
 (Xa x0 x1 (IntKind.i64.wrap (x5 + 1)) w))
 (R (.returned (.bool true)) w)
def l1 (R : EP) (x0 : BA) (x1 : Bool) (x5 : Int) (w : World) : Prop :=
  ∀ X : BA → Bool → Int → WP, (∀ x0 x1 x5 w, bl1 R X x0 x1 x5 w → X x0 x1 x5 w) → X x0 x1 x5 w

noncomputable def al1 (R : EP) (Xa : BA → Bool → Int → WP) : AC :=
  (.leaf (sel [1, 0, 1, 0, 0] body))
end g_laws_ascii
def g_laws_ascii (R : EP) (x0 : BA) (x1 : Bool) (w : World) : Prop :=
 g_laws_ascii.l1 R x0 x1 0 w

noncomputable def g_laws_ascii.ac (R : EP) : AC :=
  (.seq (.leaf (sel [0] g_laws_ascii.body)) (.seq (.seq (.leaf (sel [1, 0, 0] g_laws_ascii.body)) (.block 0 (.loop (leaf [(0, .s .str), (1, .s .bool), (5, .s (.int .i64))] (g_laws_ascii.l1 R)) (sel [1, 0, 1, 0, 0] g_laws_ascii.body)))) (.leaf (sel [1, 1] g_laws_ascii.body))))
theorem g_laws_ascii.good (R : EP) : Good P 32 (g_laws_ascii.ac R) (QF P [.tmp 4] R) :=
  ⟨trivial, ⟨⟨trivial, (loopG (g_laws_ascii.al1 R) (g_laws_ascii.bl1 R) (fun _ => by kernel_rfl) (fun Xa => trivial) (fun Xa => by intro x0 x1 x5 ρ w; kernel_rfl) (fun X h _ _ _ _ g => g X h))⟩, trivial⟩⟩
theorem g_laws_ascii.eq (R : EP) (x0 : BA) (x1 : Bool) (w : World) : g_laws_ascii R x0 x1 w = vcA P 32 (g_laws_ascii.ac R) (QF P [.tmp 4] R) (fr0 [.string x0, .bool x1]) w := by kernel_rfl
theorem g_laws_ascii.sound {R : EP} {x0 : ByteArray} {x1 : Bool} {w : World} (h : g_laws_ascii R x0 x1 w) : callE P i_laws_ascii #[.string x0, .bool x1] R w :=
  callE_fin (c := g_laws_ascii.body) Tryz.func9 Tryz.call9 (by kernel_rfl) (by kernel_rfl) (by kernel_rfl) (by kernel_rfl) (by kernel_rfl) (g_laws_ascii.good R) (g_laws_ascii.eq R x0 x1 w) h
namespace g_laws_full
noncomputable def body : Code := bodyOf Tryz.f16
end g_laws_full
def g_laws_full (R : EP) (x0 : BA) (w : World) : Prop :=
 ((!(x0.toList == (ByteArray.mk #[]).toList)) = true → 0 ≤ (0 : Int) ∧ 0 < (x0.size : Int)) ∧
 (((!(x0.toList == (ByteArray.mk #[]).toList)) && ((bt x0 0) != 32)) = true → 0 ≤ (IntKind.i64.wrap ((x0.size : Int) - 1)) ∧ (IntKind.i64.wrap ((x0.size : Int) - 1)) < (x0.size : Int)) ∧
 R (.returned (.bool (((!(x0.toList == (ByteArray.mk #[]).toList)) && ((bt x0 0) != 32)) && ((bt x0 (IntKind.i64.wrap ((x0.size : Int) - 1))) != 32)))) w

noncomputable def g_laws_full.ac (R : EP) : AC :=
  (.leaf (sel [] g_laws_full.body))
theorem g_laws_full.good (R : EP) : Good P 18 (g_laws_full.ac R) (QF P [.tmp 2] R) :=
  trivial
theorem g_laws_full.eq (R : EP) (x0 : BA) (w : World) : g_laws_full R x0 w = vcA P 18 (g_laws_full.ac R) (QF P [.tmp 2] R) (fr0 [.string x0]) w := by kernel_rfl
theorem g_laws_full.sound {R : EP} {x0 : ByteArray} {w : World} (h : g_laws_full R x0 w) : callE P i_laws_full #[.string x0] R w :=
  callE_fin (c := g_laws_full.body) Tryz.func16 Tryz.call16 (by kernel_rfl) (by kernel_rfl) (by kernel_rfl) (by kernel_rfl) (by kernel_rfl) (g_laws_full.good R) (g_laws_full.eq R x0 w) h
namespace g_laws_joined
noncomputable def body : Code := bodyOf Tryz.f18
def k1 (R : EP) (Xa : BA → BA → OA → Nat → Nat → Int → Int → WP) (x1 : BA) (x5 : BA) (x7 : BA) (x8q : OA) (x8n : Nat) (x8c : Nat) (x9 : Int) (x10 : Int) (w : World) : Prop :=
 ((x5.size + x7.size : Nat) : Int) ≤ IntKind.i64.max ∧
 Xa x1 (x5 ++ x7) x8q x8n x8c x9 (IntKind.i64.wrap (x10 + 1)) w

def bl1 (R : EP) (Xa : BA → BA → OA → Nat → Nat → Int → Int → WP) (x1 : BA) (x5 : BA) (x8q : OA) (x8n : Nat) (x8c : Nat) (x9 : Int) (x10 : Int) (w : World) : Prop :=
 br (decide (x10 < x9))
 (0 ≤ x10 ∧ x10 < (x8n : Int) ∧
 nilP x8q fun a1 =>
 ∃ (v2 : BA), w.cell? (a1.add (Int.toNat x10 * 1)) = some (.string v2) ∧
 br (decide (x10 > 0))
 (((x5.size + x1.size : Nat) : Int) ≤ IntKind.i64.max ∧
 k1 R Xa x1 (x5 ++ x1) v2 x8q x8n x8c x9 x10 w)
 (k1 R Xa x1 x5 v2 x8q x8n x8c x9 x10 w))
 (R (.returned (.string x5)) w)
def l1 (R : EP) (x1 : BA) (x5 : BA) (x8q : OA) (x8n : Nat) (x8c : Nat) (x9 : Int) (x10 : Int) (w : World) : Prop :=
  ∀ X : BA → BA → OA → Nat → Nat → Int → Int → WP, (∀ x1 x5 x8q x8n x8c x9 x10 w, bl1 R X x1 x5 x8q x8n x8c x9 x10 w → X x1 x5 x8q x8n x8c x9 x10 w) → X x1 x5 x8q x8n x8c x9 x10 w

noncomputable def al1 (R : EP) (Xa : BA → BA → OA → Nat → Nat → Int → Int → WP) : AC :=
  (.seq (.leaf (sel [1, 1, 0, 1, 0, 0, 0] body)) (.seq (.leaf (sel [1, 1, 0, 1, 0, 0, 1, 0] body)) (.seq (.block 1 (.seq (.leaf (sel [1, 1, 0, 1, 0, 0, 1, 1, 0, 0, 0] body)) (.seq (.leaf (sel [1, 1, 0, 1, 0, 0, 1, 1, 0, 0, 1, 0] body)) (.mark (leaf [(1, .s .str), (5, .s .str), (7, .s .str), (8, .s .slice), (9, .s (.int .i64)), (10, .s (.int .i64))] (k1 R Xa)) (.leaf (sel [1, 1, 0, 1, 0, 0, 1, 1, 0, 0, 1, 1] body)))))) (.leaf (sel [1, 1, 0, 1, 0, 0, 1, 1, 1] body)))))
end g_laws_joined
def g_laws_joined (R : EP) (x0q : OA) (x0n : Nat) (x0c : Nat) (x1 : BA) (w : World) : Prop :=
 g_laws_joined.l1 R x1 (ByteArray.mk #[]) x0q x0n x0c (x0n : Int) 0 w

noncomputable def g_laws_joined.ac (R : EP) : AC :=
  (.seq (.leaf (sel [0] g_laws_joined.body)) (.seq (.leaf (sel [1, 0] g_laws_joined.body)) (.seq (.seq (.leaf (sel [1, 1, 0, 0] g_laws_joined.body)) (.block 0 (.loop (leaf [(1, .s .str), (5, .s .str), (8, .s .slice), (9, .s (.int .i64)), (10, .s (.int .i64))] (g_laws_joined.l1 R)) (sel [1, 1, 0, 1, 0, 0] g_laws_joined.body)))) (.leaf (sel [1, 1, 1] g_laws_joined.body)))))
theorem g_laws_joined.good (R : EP) : Good P 25 (g_laws_joined.ac R) (QF P [.tmp 4] R) :=
  ⟨trivial, ⟨trivial, ⟨⟨trivial, (loopG (g_laws_joined.al1 R) (g_laws_joined.bl1 R) (fun _ => by kernel_rfl) (fun Xa => ⟨trivial, ⟨trivial, ⟨⟨trivial, ⟨trivial, ⟨trivial, cutE (by intro x1 x5 x7 x8q x8n x8c x9 x10 ρ w; kernel_rfl)⟩⟩⟩, trivial⟩⟩⟩) (fun Xa => by intro x1 x5 x8q x8n x8c x9 x10 ρ w; kernel_rfl) (fun X h _ _ _ _ _ _ _ _ g => g X h))⟩, trivial⟩⟩⟩
theorem g_laws_joined.eq (R : EP) (x0q : OA) (x0n : Nat) (x0c : Nat) (x1 : BA) (w : World) : g_laws_joined R x0q x0n x0c x1 w = vcA P 25 (g_laws_joined.ac R) (QF P [.tmp 4] R) (fr0 [.slice x0q x0n x0c, .string x1]) w := by kernel_rfl
theorem g_laws_joined.sound {R : EP} {x0q : OA} {x0n : Nat} {x0c : Nat} {x1 : ByteArray} {w : World} (h : g_laws_joined R x0q x0n x0c x1 w) : callE P i_laws_joined #[.slice x0q x0n x0c, .string x1] R w :=
  callE_fin (c := g_laws_joined.body) Tryz.func18 Tryz.call18 (by kernel_rfl) (by kernel_rfl) (by kernel_rfl) (by kernel_rfl) (by kernel_rfl) (g_laws_joined.good R) (g_laws_joined.eq R x0q x0n x0c x1 w) h
namespace g_laws_plain
noncomputable def body : Code := bodyOf Tryz.f13
end g_laws_plain
def g_laws_plain (R : EP) (w : World) : Prop :=
 box w #[.bool false, .bool false, .bool false, .bool false, .bool false, .bool false, .bool false, .bool false, .bool false, .bool false] ty_impl_Options fun b1 w2 =>
 stV w2 ⟨b1, 0, none⟩ (.bool false) fun w3 =>
 stV w3 ⟨b1, 1, none⟩ (.bool false) fun w4 =>
 stV w4 ⟨b1, 2, none⟩ (.bool false) fun w5 =>
 stV w5 ⟨b1, 3, none⟩ (.bool false) fun w6 =>
 stV w6 ⟨b1, 4, none⟩ (.bool false) fun w7 =>
 stV w7 ⟨b1, 5, none⟩ (.bool false) fun w8 =>
 stV w8 ⟨b1, 6, none⟩ (.bool false) fun w9 =>
 stV w9 ⟨b1, 7, none⟩ (.bool false) fun w10 =>
 stV w10 ⟨b1, 8, none⟩ (.bool false) fun w11 =>
 stV w11 ⟨b1, 9, none⟩ (.bool false) fun w12 =>
 ∃ (v13 : Bool), w12.cell? ⟨b1, 0, none⟩ = some (.bool v13) ∧
 ∃ (v14 : Bool), w12.cell? ⟨b1, 1, none⟩ = some (.bool v14) ∧
 ∃ (v15 : Bool), w12.cell? ⟨b1, 2, none⟩ = some (.bool v15) ∧
 ∃ (v16 : Bool), w12.cell? ⟨b1, 3, none⟩ = some (.bool v16) ∧
 ∃ (v17 : Bool), w12.cell? ⟨b1, 4, none⟩ = some (.bool v17) ∧
 ∃ (v18 : Bool), w12.cell? ⟨b1, 5, none⟩ = some (.bool v18) ∧
 ∃ (v19 : Bool), w12.cell? ⟨b1, 6, none⟩ = some (.bool v19) ∧
 ∃ (v20 : Bool), w12.cell? ⟨b1, 7, none⟩ = some (.bool v20) ∧
 ∃ (v21 : Bool), w12.cell? ⟨b1, 8, none⟩ = some (.bool v21) ∧
 ∃ (v22 : Bool), w12.cell? ⟨b1, 9, none⟩ = some (.bool v22) ∧
 R (.returned (.agg #[.bool v13, .bool v14, .bool v15, .bool v16, .bool v17, .bool v18, .bool v19, .bool v20, .bool v21, .bool v22])) w12

noncomputable def g_laws_plain.ac (R : EP) : AC :=
  (.leaf (sel [] g_laws_plain.body))
theorem g_laws_plain.good (R : EP) : Good P 2 (g_laws_plain.ac R) (QF P [.cell 0 26] R) :=
  trivial
theorem g_laws_plain.eq (R : EP) (w : World) : g_laws_plain R w = vcA P 2 (g_laws_plain.ac R) (QF P [.cell 0 26] R) (fr0 []) w := by kernel_rfl
theorem g_laws_plain.sound {R : EP} {w : World} (h : g_laws_plain R w) : callE P i_laws_plain #[] R w :=
  callE_fin (c := g_laws_plain.body) Tryz.func13 Tryz.call13 (by kernel_rfl) (by kernel_rfl) (by kernel_rfl) (by kernel_rfl) (by kernel_rfl) (g_laws_plain.good R) (g_laws_plain.eq R w) h
namespace g_laws_slashed
noncomputable def body : Code := bodyOf Tryz.f17
def k1 (R : EP) (Xa : BA → OA → Nat → Nat → Int → WP) (x0 : BA) (x3q : OA) (x3n : Nat) (x3c : Nat) (x4 : Int) (w : World) : Prop :=
 0 ≤ x4 ∧ x4 < (x0.size : Int) ∧
 ∃ (r11q : OA), ∃ (r11n : Nat), ∃ (r11c : Nat), ∃ w12, (Instr.buildSlice ty_S_uint8 1 #[(0, .int .u8 (bt x0 x4))]).run P w = .ok (.slice r11q r11n r11c) w12 ∧
 ∃ (r13q : OA), ∃ (r13n : Nat), ∃ (r13c : Nat), ∃ w14, (Builtin.append_ #[ty_S_uint8, ty_S_uint8] ty_S_uint8 #[.slice x3q x3n x3c, .slice r11q r11n r11c]).run P w12 = .ok (.slice r13q r13n r13c) w14 ∧
 Xa x0 r13q r13n r13c (IntKind.i64.wrap (x4 + 1)) w14

def bl1 (R : EP) (Xa : BA → OA → Nat → Nat → Int → WP) (x0 : BA) (x3q : OA) (x3n : Nat) (x3c : Nat) (x4 : Int) (w : World) : Prop :=
 br (decide (x4 < (x0.size : Int)))
 (0 ≤ x4 ∧ x4 < (x0.size : Int) ∧
 callE P i_spec_IsPunct #[.int .u8 (bt x0 x4)] (fun e w4 => ∃ (r3 : Bool), e = .returned (.bool r3) ∧
 br r3
 (∃ (r5q : OA), ∃ (r5n : Nat), ∃ (r5c : Nat), ∃ w6, (Instr.buildSlice ty_S_uint8 1 #[(0, .int .u8 92)]).run P w4 = .ok (.slice r5q r5n r5c) w6 ∧
 ∃ (r7q : OA), ∃ (r7n : Nat), ∃ (r7c : Nat), ∃ w8, (Builtin.append_ #[ty_S_uint8, ty_S_uint8] ty_S_uint8 #[.slice x3q x3n x3c, .slice r5q r5n r5c]).run P w6 = .ok (.slice r7q r7n r7c) w8 ∧
 k1 R Xa x0 r7q r7n r7c x4 w8)
 (k1 R Xa x0 x3q x3n x3c x4 w4)) w)
 (∃ (r9 : BA), ∃ w10, (convert ty_S_uint8 ty_string (.slice x3q x3n x3c)).run P w = .ok (.string r9) w10 ∧
 R (.returned (.string r9)) w10)
def l1 (R : EP) (x0 : BA) (x3q : OA) (x3n : Nat) (x3c : Nat) (x4 : Int) (w : World) : Prop :=
  ∀ X : BA → OA → Nat → Nat → Int → WP, (∀ x0 x3q x3n x3c x4 w, bl1 R X x0 x3q x3n x3c x4 w → X x0 x3q x3n x3c x4 w) → X x0 x3q x3n x3c x4 w

noncomputable def al1 (R : EP) (Xa : BA → OA → Nat → Nat → Int → WP) : AC :=
  (.seq (.leaf (sel [1, 1, 0, 1, 0, 0, 0] body)) (.seq (.block 1 (.seq (.leaf (sel [1, 1, 0, 1, 0, 0, 1, 0, 0, 0] body)) (.mark (leaf [(0, .s .str), (3, .s .slice), (4, .s (.int .i64))] (k1 R Xa)) (.leaf (sel [1, 1, 0, 1, 0, 0, 1, 0, 0, 1] body))))) (.leaf (sel [1, 1, 0, 1, 0, 0, 1, 1] body))))
end g_laws_slashed
def g_laws_slashed (R : EP) (x0 : BA) (w : World) : Prop :=
 ∃ (r1q : OA), ∃ (r1n : Nat), ∃ (r1c : Nat), ∃ w2, (Instr.buildSlice ty_S_uint8 0 #[]).run P w = .ok (.slice r1q r1n r1c) w2 ∧
 g_laws_slashed.l1 R x0 r1q r1n r1c 0 w2

noncomputable def g_laws_slashed.ac (R : EP) : AC :=
  (.seq (.leaf (sel [0] g_laws_slashed.body)) (.seq (.leaf (sel [1, 0] g_laws_slashed.body)) (.seq (.seq (.leaf (sel [1, 1, 0, 0] g_laws_slashed.body)) (.block 0 (.loop (leaf [(0, .s .str), (3, .s .slice), (4, .s (.int .i64))] (g_laws_slashed.l1 R)) (sel [1, 1, 0, 1, 0, 0] g_laws_slashed.body)))) (.leaf (sel [1, 1, 1] g_laws_slashed.body)))))
theorem g_laws_slashed.good (R : EP) : Good P 27 (g_laws_slashed.ac R) (QF P [.tmp 2] R) :=
  ⟨trivial, ⟨trivial, ⟨⟨trivial, (loopG (g_laws_slashed.al1 R) (g_laws_slashed.bl1 R) (fun _ => by kernel_rfl) (fun Xa => ⟨trivial, ⟨⟨trivial, ⟨trivial, cutE (by intro x0 x3q x3n x3c x4 ρ w; kernel_rfl)⟩⟩, trivial⟩⟩) (fun Xa => by intro x0 x3q x3n x3c x4 ρ w; kernel_rfl) (fun X h _ _ _ _ _ _ g => g X h))⟩, trivial⟩⟩⟩
theorem g_laws_slashed.eq (R : EP) (x0 : BA) (w : World) : g_laws_slashed R x0 w = vcA P 27 (g_laws_slashed.ac R) (QF P [.tmp 2] R) (fr0 [.string x0]) w := by kernel_rfl
theorem g_laws_slashed.sound {R : EP} {x0 : ByteArray} {w : World} (h : g_laws_slashed R x0 w) : callE P i_laws_slashed #[.string x0] R w :=
  callE_fin (c := g_laws_slashed.body) Tryz.func17 Tryz.call17 (by kernel_rfl) (by kernel_rfl) (by kernel_rfl) (by kernel_rfl) (by kernel_rfl) (g_laws_slashed.good R) (g_laws_slashed.eq R x0 w) h
namespace g_laws_times
noncomputable def body : Code := bodyOf Tryz.f11
def bl1 (R : EP) (Xa : BA → BA → Int → Int → WP) (x0 : BA) (x5 : BA) (x6 : Int) (x7 : Int) (w : World) : Prop :=
 br (decide (x7 < x6))
 (((x5.size + x0.size : Nat) : Int) ≤ IntKind.i64.max ∧
 Xa x0 (x5 ++ x0) x6 (IntKind.i64.wrap (x7 + 1)) w)
 (R (.returned (.string x5)) w)
def l1 (R : EP) (x0 : BA) (x5 : BA) (x6 : Int) (x7 : Int) (w : World) : Prop :=
  ∀ X : BA → BA → Int → Int → WP, (∀ x0 x5 x6 x7 w, bl1 R X x0 x5 x6 x7 w → X x0 x5 x6 x7 w) → X x0 x5 x6 x7 w

noncomputable def al1 (R : EP) (Xa : BA → BA → Int → Int → WP) : AC :=
  (.leaf (sel [1, 1, 0, 1, 0, 0] body))
end g_laws_times
def g_laws_times (R : EP) (x0 : BA) (x1 : Int) (w : World) : Prop :=
 g_laws_times.l1 R x0 (ByteArray.mk #[]) x1 0 w

noncomputable def g_laws_times.ac (R : EP) : AC :=
  (.seq (.leaf (sel [0] g_laws_times.body)) (.seq (.leaf (sel [1, 0] g_laws_times.body)) (.seq (.seq (.leaf (sel [1, 1, 0, 0] g_laws_times.body)) (.block 0 (.loop (leaf [(0, .s .str), (5, .s .str), (6, .s (.int .i64)), (7, .s (.int .i64))] (g_laws_times.l1 R)) (sel [1, 1, 0, 1, 0, 0] g_laws_times.body)))) (.leaf (sel [1, 1, 1] g_laws_times.body)))))
theorem g_laws_times.good (R : EP) : Good P 14 (g_laws_times.ac R) (QF P [.tmp 4] R) :=
  ⟨trivial, ⟨trivial, ⟨⟨trivial, (loopG (g_laws_times.al1 R) (g_laws_times.bl1 R) (fun _ => by kernel_rfl) (fun Xa => trivial) (fun Xa => by intro x0 x5 x6 x7 ρ w; kernel_rfl) (fun X h _ _ _ _ _ g => g X h))⟩, trivial⟩⟩⟩
theorem g_laws_times.eq (R : EP) (x0 : BA) (x1 : Int) (w : World) : g_laws_times R x0 x1 w = vcA P 14 (g_laws_times.ac R) (QF P [.tmp 4] R) (fr0 [.string x0, .int .i64 x1]) w := by kernel_rfl
theorem g_laws_times.sound {R : EP} {x0 : ByteArray} {x1 : Int} {w : World} (h : g_laws_times R x0 x1 w) : callE P i_laws_times #[.string x0, .int .i64 x1] R w :=
  callE_fin (c := g_laws_times.body) Tryz.func11 Tryz.call11 (by kernel_rfl) (by kernel_rfl) (by kernel_rfl) (by kernel_rfl) (by kernel_rfl) (g_laws_times.good R) (g_laws_times.eq R x0 x1 w) h
namespace g_laws_zzFits2
noncomputable def body : Code := bodyOf Tryz.f15
def bl1 (R : EP) (Xa : OA → Nat → Nat → Int → Int → WP) (x8q : OA) (x8n : Nat) (x8c : Nat) (x9 : Int) (x10 : Int) (w : World) : Prop :=
 br (decide (x10 < x9))
 (0 ≤ x10 ∧ x10 < (x8n : Int) ∧
 nilP x8q fun a1 =>
 ∃ (v2 : BA), w.cell? (a1.add (Int.toNat x10 * 1)) = some (.string v2) ∧
 br (decide ((v2.size : Int) > 2147483647))
 (R (.returned (.bool false)) w)
 (Xa x8q x8n x8c x9 (IntKind.i64.wrap (x10 + 1)) w))
 (R (.returned (.bool true)) w)
def l1 (R : EP) (x8q : OA) (x8n : Nat) (x8c : Nat) (x9 : Int) (x10 : Int) (w : World) : Prop :=
  ∀ X : OA → Nat → Nat → Int → Int → WP, (∀ x8q x8n x8c x9 x10 w, bl1 R X x8q x8n x8c x9 x10 w → X x8q x8n x8c x9 x10 w) → X x8q x8n x8c x9 x10 w

noncomputable def al1 (R : EP) (Xa : OA → Nat → Nat → Int → Int → WP) : AC :=
  (.leaf (sel [1, 1, 0, 1, 0, 0] body))
end g_laws_zzFits2
def g_laws_zzFits2 (R : EP) (x0q : OA) (x0n : Nat) (x0c : Nat) (w : World) : Prop :=
 br (decide ((x0n : Int) > 2147483647))
 (R (.returned (.bool false)) w)
 (g_laws_zzFits2.l1 R x0q x0n x0c (x0n : Int) 0 w)

noncomputable def g_laws_zzFits2.ac (R : EP) : AC :=
  (.seq (.leaf (sel [0] g_laws_zzFits2.body)) (.seq (.leaf (sel [1, 0] g_laws_zzFits2.body)) (.seq (.seq (.leaf (sel [1, 1, 0, 0] g_laws_zzFits2.body)) (.block 0 (.loop (leaf [(8, .s .slice), (9, .s (.int .i64)), (10, .s (.int .i64))] (g_laws_zzFits2.l1 R)) (sel [1, 1, 0, 1, 0, 0] g_laws_zzFits2.body)))) (.leaf (sel [1, 1, 1] g_laws_zzFits2.body)))))
theorem g_laws_zzFits2.good (R : EP) : Good P 18 (g_laws_zzFits2.ac R) (QF P [.tmp 2] R) :=
  ⟨trivial, ⟨trivial, ⟨⟨trivial, (loopG (g_laws_zzFits2.al1 R) (g_laws_zzFits2.bl1 R) (fun _ => by kernel_rfl) (fun Xa => trivial) (fun Xa => by intro x8q x8n x8c x9 x10 ρ w; kernel_rfl) (fun X h _ _ _ _ _ _ g => g X h))⟩, trivial⟩⟩⟩
theorem g_laws_zzFits2.eq (R : EP) (x0q : OA) (x0n : Nat) (x0c : Nat) (w : World) : g_laws_zzFits2 R x0q x0n x0c w = vcA P 18 (g_laws_zzFits2.ac R) (QF P [.tmp 2] R) (fr0 [.slice x0q x0n x0c]) w := by kernel_rfl
theorem g_laws_zzFits2.sound {R : EP} {x0q : OA} {x0n : Nat} {x0c : Nat} {w : World} (h : g_laws_zzFits2 R x0q x0n x0c w) : callE P i_laws_zzFits2 #[.slice x0q x0n x0c] R w :=
  callE_fin (c := g_laws_zzFits2.body) Tryz.func15 Tryz.call15 (by kernel_rfl) (by kernel_rfl) (by kernel_rfl) (by kernel_rfl) (by kernel_rfl) (g_laws_zzFits2.good R) (g_laws_zzFits2.eq R x0q x0n x0c w) h
namespace g_spec_IsPunct
noncomputable def body : Code := bodyOf Tryz.f23
end g_spec_IsPunct
def g_spec_IsPunct (R : EP) (x0 : Int) (w : World) : Prop :=
 R (.returned (.bool (((((decide (x0 ≥ 33)) && (decide (x0 ≤ 47))) || ((decide (x0 ≥ 58)) && (decide (x0 ≤ 64)))) || ((decide (x0 ≥ 91)) && (decide (x0 ≤ 96)))) || ((decide (x0 ≥ 123)) && (decide (x0 ≤ 126)))))) w

noncomputable def g_spec_IsPunct.ac (R : EP) : AC :=
  (.leaf (sel [] g_spec_IsPunct.body))
theorem g_spec_IsPunct.good (R : EP) : Good P 33 (g_spec_IsPunct.ac R) (QF P [.tmp 2] R) :=
  trivial
theorem g_spec_IsPunct.eq (R : EP) (x0 : Int) (w : World) : g_spec_IsPunct R x0 w = vcA P 33 (g_spec_IsPunct.ac R) (QF P [.tmp 2] R) (fr0 [.int .u8 x0]) w := by kernel_rfl
theorem g_spec_IsPunct.sound {R : EP} {x0 : Int} {w : World} (h : g_spec_IsPunct R x0 w) : callE P i_spec_IsPunct #[.int .u8 x0] R w :=
  callE_fin (c := g_spec_IsPunct.body) Tryz.func23 Tryz.call23 (by kernel_rfl) (by kernel_rfl) (by kernel_rfl) (by kernel_rfl) (by kernel_rfl) (g_spec_IsPunct.good R) (g_spec_IsPunct.eq R x0 w) h
namespace g_isPunct
noncomputable def body : Code := bodyOf Tryz.f75
end g_isPunct
def g_isPunct (R : EP) (x0 : Int) (w : World) : Prop :=
 R (.returned (.bool (((((decide (33 ≤ x0)) && (decide (x0 ≤ 47))) || ((decide (58 ≤ x0)) && (decide (x0 ≤ 64)))) || ((decide (91 ≤ x0)) && (decide (x0 ≤ 96)))) || ((decide (123 ≤ x0)) && (decide (x0 ≤ 126)))))) w

noncomputable def g_isPunct.ac (R : EP) : AC :=
  (.leaf (sel [] g_isPunct.body))
theorem g_isPunct.good (R : EP) : Good P 33 (g_isPunct.ac R) (QF P [.tmp 2] R) :=
  trivial
theorem g_isPunct.eq (R : EP) (x0 : Int) (w : World) : g_isPunct R x0 w = vcA P 33 (g_isPunct.ac R) (QF P [.tmp 2] R) (fr0 [.int .u8 x0]) w := by kernel_rfl
theorem g_isPunct.sound {R : EP} {x0 : Int} {w : World} (h : g_isPunct R x0 w) : callE P i_isPunct #[.int .u8 x0] R w :=
  callE_fin (c := g_isPunct.body) Tryz.func75 Tryz.call75 (by kernel_rfl) (by kernel_rfl) (by kernel_rfl) (by kernel_rfl) (by kernel_rfl) (g_isPunct.good R) (g_isPunct.eq R x0 w) h
namespace g_parseBreak
noncomputable def body : Code := bodyOf Tryz.f50
def k3 (R : EP) (x10 : Int) (x11 : Int) (x66 : Bool) (w : World) : Prop :=
 br x66
 (box w #[] ty_HardBreak fun b1 w2 =>
 R (.returned (.tuple #[.iface ty_P_HardBreak (.pointer (some ⟨b1, 0, none⟩)), .int .i64 x10, .int .i64 x11, .bool true])) w2)
 (box w #[] ty_SoftBreak fun b3 w4 =>
 R (.returned (.tuple #[.iface ty_P_SoftBreak (.pointer (some ⟨b3, 0, none⟩)), .int .i64 x10, .int .i64 x11, .bool true])) w4)

def k2 (R : EP) (x1 : BA) (x2 : Int) (x10 : Int) (x11 : Int) (w : World) : Prop :=
 ((decide (x2 ≥ 2)) = true → 0 ≤ (IntKind.i64.wrap (x2 - 1)) ∧ (IntKind.i64.wrap (x2 - 1)) < (x1.size : Int)) ∧
 (((decide (x2 ≥ 2)) && ((bt x1 (IntKind.i64.wrap (x2 - 1))) == 32)) = true → 0 ≤ (IntKind.i64.wrap (x2 - 2)) ∧ (IntKind.i64.wrap (x2 - 2)) < (x1.size : Int)) ∧
 k3 R x10 x11 (((decide (x2 ≥ 2)) && ((bt x1 (IntKind.i64.wrap (x2 - 1))) == 32)) && ((bt x1 (IntKind.i64.wrap (x2 - 2))) == 32)) w

def bl2 (R : EP) (Xa : BA → Int → Int → Int → WP) (x1 : BA) (x2 : Int) (x10 : Int) (x11 : Int) (w : World) : Prop :=
 ((decide (x11 < (x1.size : Int))) = true → 0 ≤ x11 ∧ x11 < (x1.size : Int)) ∧
 (((decide (x11 < (x1.size : Int))) && (!((bt x1 x11) == 32))) = true → 0 ≤ x11 ∧ x11 < (x1.size : Int)) ∧
 br ((decide (x11 < (x1.size : Int))) && (((bt x1 x11) == 32) || ((bt x1 x11) == 9)))
 (Xa x1 x2 x10 (IntKind.i64.wrap (x11 + 1)) w)
 (k2 R x1 x2 x10 x11 w)
def l2 (R : EP) (x1 : BA) (x2 : Int) (x10 : Int) (x11 : Int) (w : World) : Prop :=
  ∀ X : BA → Int → Int → Int → WP, (∀ x1 x2 x10 x11 w, bl2 R X x1 x2 x10 x11 w → X x1 x2 x10 x11 w) → X x1 x2 x10 x11 w

noncomputable def al2 (R : EP) (Xa : BA → Int → Int → Int → WP) : AC :=
  (.leaf (sel [1, 1, 1, 1, 0, 0, 0] body))
def k1 (R : EP) (x1 : BA) (x2 : Int) (x10 : Int) (w : World) : Prop :=
 l2 R x1 x2 x10 (IntKind.i64.wrap (x2 + 1)) w

def bl1 (R : EP) (Xb : BA → Int → Int → WP) (x1 : BA) (x2 : Int) (x10 : Int) (w : World) : Prop :=
 ((decide (x10 > 0)) = true → 0 ≤ (IntKind.i64.wrap (x10 - 1)) ∧ (IntKind.i64.wrap (x10 - 1)) < (x1.size : Int)) ∧
 (((decide (x10 > 0)) && (!((bt x1 (IntKind.i64.wrap (x10 - 1))) == 32))) = true → 0 ≤ (IntKind.i64.wrap (x10 - 1)) ∧ (IntKind.i64.wrap (x10 - 1)) < (x1.size : Int)) ∧
 br ((decide (x10 > 0)) && (((bt x1 (IntKind.i64.wrap (x10 - 1))) == 32) || ((bt x1 (IntKind.i64.wrap (x10 - 1))) == 9)))
 (Xb x1 x2 (IntKind.i64.wrap (x10 - 1)) w)
 (k1 R x1 x2 x10 w)
def l1 (R : EP) (x1 : BA) (x2 : Int) (x10 : Int) (w : World) : Prop :=
  ∀ X : BA → Int → Int → WP, (∀ x1 x2 x10 w, bl1 R X x1 x2 x10 w → X x1 x2 x10 w) → X x1 x2 x10 w

noncomputable def al1 (R : EP) (Xb : BA → Int → Int → WP) : AC :=
  (.leaf (sel [1, 1, 0, 0, 0] body))
end g_parseBreak
def g_parseBreak (R : EP) (x0 : OA) (x1 : BA) (x2 : Int) (w : World) : Prop :=
 g_parseBreak.l1 R x1 x2 x2 w

noncomputable def g_parseBreak.ac (R : EP) : AC :=
  (.seq (.leaf (sel [0] g_parseBreak.body)) (.seq (.leaf (sel [1, 0] g_parseBreak.body)) (.seq (.block 0 (.loop (leaf [(1, .s .str), (2, .s (.int .i64)), (10, .s (.int .i64))] (g_parseBreak.l1 R)) (sel [1, 1, 0, 0, 0] g_parseBreak.body))) (.mark (leaf [(1, .s .str), (2, .s (.int .i64)), (10, .s (.int .i64))] (g_parseBreak.k1 R)) (.seq (.leaf (sel [1, 1, 1, 0] g_parseBreak.body)) (.seq (.block 2 (.loop (leaf [(1, .s .str), (2, .s (.int .i64)), (10, .s (.int .i64)), (11, .s (.int .i64))] (g_parseBreak.l2 R)) (sel [1, 1, 1, 1, 0, 0, 0] g_parseBreak.body))) (.mark (leaf [(1, .s .str), (2, .s (.int .i64)), (10, .s (.int .i64)), (11, .s (.int .i64))] (g_parseBreak.k2 R)) (.seq (.seq (.leaf (sel [1, 1, 1, 1, 1, 0, 0] g_parseBreak.body)) (.mark (leaf [(10, .s (.int .i64)), (11, .s (.int .i64)), (66, .s .bool)] (g_parseBreak.k3 R)) (.leaf (sel [1, 1, 1, 1, 1, 0, 1] g_parseBreak.body)))) (.leaf (sel [1, 1, 1, 1, 1, 1] g_parseBreak.body))))))))))
theorem g_parseBreak.good (R : EP) : Good P 77 (g_parseBreak.ac R) (QF P [.tmp 6, .tmp 7, .tmp 8, .tmp 9] R) :=
  ⟨trivial, ⟨trivial, ⟨(loopG (g_parseBreak.al1 R) (g_parseBreak.bl1 R) (fun _ => by kernel_rfl) (fun Xb => trivial) (fun Xb => by intro x1 x2 x10 ρ w; kernel_rfl) (fun X h _ _ _ _ g => g X h)), ⟨⟨trivial, ⟨(loopG (g_parseBreak.al2 R) (g_parseBreak.bl2 R) (fun _ => by kernel_rfl) (fun Xa => trivial) (fun Xa => by intro x1 x2 x10 x11 ρ w; kernel_rfl) (fun X h _ _ _ _ _ g => g X h)), ⟨⟨⟨trivial, ⟨trivial, cutE (by intro x10 x11 x66 ρ w; kernel_rfl)⟩⟩, trivial⟩, cutE (by intro x1 x2 x10 x11 ρ w; kernel_rfl)⟩⟩⟩, cutE (by intro x1 x2 x10 ρ w; kernel_rfl)⟩⟩⟩⟩
theorem g_parseBreak.eq (R : EP) (x0 : OA) (x1 : BA) (x2 : Int) (w : World) : g_parseBreak R x0 x1 x2 w = vcA P 77 (g_parseBreak.ac R) (QF P [.tmp 6, .tmp 7, .tmp 8, .tmp 9] R) (fr0 [.pointer x0, .string x1, .int .i64 x2]) w := by kernel_rfl
theorem g_parseBreak.sound {R : EP} {x0 : OA} {x1 : ByteArray} {x2 : Int} {w : World} (h : g_parseBreak R x0 x1 x2 w) : callE P i_parseBreak #[.pointer x0, .string x1, .int .i64 x2] R w :=
  callE_fin (c := g_parseBreak.body) Tryz.func50 Tryz.call50 (by kernel_rfl) (by kernel_rfl) (by kernel_rfl) (by kernel_rfl) (by kernel_rfl) (g_parseBreak.good R) (g_parseBreak.eq R x0 x1 x2 w) h
namespace g_parseEscape
noncomputable def body : Code := bodyOf Tryz.f41
def k2 (R : EP) (w : World) : Prop :=
 R (.returned (.tuple #[.nilIface, .int .i64 0, .int .i64 0, .bool false])) w

def k4 (R : EP) (x2 : Int) (x11 : Int) (w : World) : Prop :=
 box w #[] ty_HardBreak fun b7 w8 =>
 R (.returned (.tuple #[.iface ty_P_HardBreak (.pointer (some ⟨b7, 0, none⟩)), .int .i64 x2, .int .i64 x11, .bool true])) w8

def bl1 (R : EP) (Xa : BA → Int → Int → WP) (x1 : BA) (x2 : Int) (x11 : Int) (w : World) : Prop :=
 ((decide (x11 < (x1.size : Int))) = true → 0 ≤ x11 ∧ x11 < (x1.size : Int)) ∧
 (((decide (x11 < (x1.size : Int))) && (!((bt x1 x11) == 32))) = true → 0 ≤ x11 ∧ x11 < (x1.size : Int)) ∧
 br ((decide (x11 < (x1.size : Int))) && (((bt x1 x11) == 32) || ((bt x1 x11) == 9)))
 (Xa x1 x2 (IntKind.i64.wrap (x11 + 1)) w)
 (k4 R x2 x11 w)
def l1 (R : EP) (x1 : BA) (x2 : Int) (x11 : Int) (w : World) : Prop :=
  ∀ X : BA → Int → Int → WP, (∀ x1 x2 x11 w, bl1 R X x1 x2 x11 w → X x1 x2 x11 w) → X x1 x2 x11 w

noncomputable def al1 (R : EP) (Xa : BA → Int → Int → WP) : AC :=
  (.leaf (sel [1, 0, 1, 0, 1, 1, 1, 0, 1, 1, 0, 0, 0] body))
def k3 (R : EP) (x1 : BA) (x2 : Int) (w : World) : Prop :=
 l1 R x1 x2 (IntKind.i64.wrap (x2 + 2)) w

def k1 (R : EP) (x0 : OA) (x1 : BA) (x2 : Int) (x46 : Bool) (w : World) : Prop :=
 br x46
 (nilP x0 fun a5 =>
 stV w ((a5.add 6).add 0) (.bool true) fun w6 =>
 k3 R x1 x2 w6)
 (k3 R x1 x2 w)

end g_parseEscape
def g_parseEscape (R : EP) (x0 : OA) (x1 : BA) (x2 : Int) (w : World) : Prop :=
 br (decide ((IntKind.i64.wrap (x2 + 1)) < (x1.size : Int)))
 (0 ≤ (IntKind.i64.wrap (x2 + 1)) ∧ (IntKind.i64.wrap (x2 + 1)) < (x1.size : Int) ∧
 callE P i_isPunct #[.int .u8 (bt x1 (IntKind.i64.wrap (x2 + 1)))] (fun e w2 => ∃ (r1 : Bool), e = .returned (.bool r1) ∧
 br r1
 (0 ≤ (IntKind.i64.wrap (x2 + 1)) ∧ (IntKind.i64.wrap (x2 + 1)) ≤ (IntKind.i64.wrap (x2 + 2)) ∧ (IntKind.i64.wrap (x2 + 2)) ≤ (x1.size : Int) ∧
 box w2 #[.string (x1.extract (Int.toNat (IntKind.i64.wrap (x2 + 1))) (Int.toNat (IntKind.i64.wrap (x2 + 2))))] ty_Escaped fun b3 w4 =>
 R (.returned (.tuple #[.iface ty_P_Escaped (.pointer (some ⟨b3, 0, none⟩)), .int .i64 x2, .int .i64 (IntKind.i64.wrap (x2 + 2)), .bool true])) w4)
 (br ((bt x1 (IntKind.i64.wrap (x2 + 1))) == 10)
 (((decide (x2 > 0)) = true → 0 ≤ (IntKind.i64.wrap (x2 - 1)) ∧ (IntKind.i64.wrap (x2 - 1)) < (x1.size : Int)) ∧
 g_parseEscape.k1 R x0 x1 x2 ((decide (x2 > 0)) && ((bt x1 (IntKind.i64.wrap (x2 - 1))) == 92)) w2)
 (g_parseEscape.k2 R w2))) w)
 (g_parseEscape.k2 R w)

noncomputable def g_parseEscape.ac (R : EP) : AC :=
  (.seq (.leaf (sel [0] g_parseEscape.body)) (.seq (.seq (.leaf (sel [1, 0, 0] g_parseEscape.body)) (.cond 16 (.seq (.leaf (sel [1, 0, 1, 0, 0] g_parseEscape.body)) (.seq (.leaf (sel [1, 0, 1, 0, 1, 0] g_parseEscape.body)) (.seq (.leaf (sel [1, 0, 1, 0, 1, 1, 0] g_parseEscape.body)) (.cond 37 (.seq (.seq (.leaf (sel [1, 0, 1, 0, 1, 1, 1, 0, 0, 0] g_parseEscape.body)) (.mark (leaf [(0, .s .ptr), (1, .s .str), (2, .s (.int .i64)), (46, .s .bool)] (g_parseEscape.k1 R)) (.leaf (sel [1, 0, 1, 0, 1, 1, 1, 0, 0, 1] g_parseEscape.body)))) (.mark (leaf [(1, .s .str), (2, .s (.int .i64))] (g_parseEscape.k3 R)) (.seq (.leaf (sel [1, 0, 1, 0, 1, 1, 1, 0, 1, 0] g_parseEscape.body)) (.seq (.block 0 (.loop (leaf [(1, .s .str), (2, .s (.int .i64)), (11, .s (.int .i64))] (g_parseEscape.l1 R)) (sel [1, 0, 1, 0, 1, 1, 1, 0, 1, 1, 0, 0, 0] g_parseEscape.body))) (.mark (leaf [(2, .s (.int .i64)), (11, .s (.int .i64))] (g_parseEscape.k4 R)) (.leaf (sel [1, 0, 1, 0, 1, 1, 1, 0, 1, 1, 1] g_parseEscape.body))))))) (.leaf (sel [1, 0, 1, 0, 1, 1, 1, 1] g_parseEscape.body)))))) (.leaf (sel [1, 0, 1, 1] g_parseEscape.body)))) (.mark (leaf [] (g_parseEscape.k2 R)) (.leaf (sel [1, 1] g_parseEscape.body)))))
theorem g_parseEscape.good (R : EP) : Good P 75 (g_parseEscape.ac R) (QF P [.tmp 6, .tmp 7, .tmp 8, .tmp 9] R) :=
  ⟨trivial, ⟨⟨trivial, ⟨⟨trivial, ⟨trivial, ⟨trivial, ⟨⟨⟨trivial, ⟨trivial, cutE (by intro x0 x1 x2 x46 ρ w; kernel_rfl)⟩⟩, ⟨⟨trivial, ⟨(loopG (g_parseEscape.al1 R) (g_parseEscape.bl1 R) (fun _ => by kernel_rfl) (fun Xa => trivial) (fun Xa => by intro x1 x2 x11 ρ w; kernel_rfl) (fun X h _ _ _ _ g => g X h)), ⟨trivial, cutE (by intro x2 x11 ρ w; kernel_rfl)⟩⟩⟩, cutE (by intro x1 x2 ρ w; kernel_rfl)⟩⟩, trivial⟩⟩⟩⟩, trivial⟩⟩, ⟨trivial, cutE (by intro ρ w; kernel_rfl)⟩⟩⟩
theorem g_parseEscape.eq (R : EP) (x0 : OA) (x1 : BA) (x2 : Int) (w : World) : g_parseEscape R x0 x1 x2 w = vcA P 75 (g_parseEscape.ac R) (QF P [.tmp 6, .tmp 7, .tmp 8, .tmp 9] R) (fr0 [.pointer x0, .string x1, .int .i64 x2]) w := by kernel_rfl
theorem g_parseEscape.sound {R : EP} {x0 : OA} {x1 : ByteArray} {x2 : Int} {w : World} (h : g_parseEscape R x0 x1 x2 w) : callE P i_parseEscape #[.pointer x0, .string x1, .int .i64 x2] R w :=
  callE_fin (c := g_parseEscape.body) Tryz.func41 Tryz.call41 (by kernel_rfl) (by kernel_rfl) (by kernel_rfl) (by kernel_rfl) (by kernel_rfl) (g_parseEscape.good R) (g_parseEscape.eq R x0 x1 x2 w) h
end Go.Proofs.YtihmcipajjakgaaGreatDoor

set_option linter.unusedVariables false
namespace Go.Proofs.YtihmcipajjakgaaGreatDoor
open Go.Proofs Go.IntWalk Go.RowKit
variable {σ : Out} {w : World} {L L' : List Chunk} {R : Ending → World → Prop}
def AtI (X : XI) (σ : Out) (b : Nat) (p0 : PS) (raw : List UInt8) (L : List Chunk) (i e : Nat) (ts : List Inl) : Prop :=
  ∀ w (p : PS) oq on oc, p.coreS = p0.coreS → p.s = raw → p.em = (e : Int) → IIn σ b p ts [] oq on oc L w → X (some ⟨b, 0, none⟩) (bs raw) oq on oc 0 false (i : Int) w
def LoopX (R : Ending → World → Prop) (X : XI) (b : Nat) (raw : List UInt8) : Prop :=
  ∀ oq on oc (i : Int) w, g_parseState_inline.bl1 R X (some ⟨b, 0, none⟩) (bs raw) oq on oc 0 false i w → X (some ⟨b, 0, none⟩) (bs raw) oq on oc 0 false i w
theorem PS.pz_of {p p0 : PS} (h : p.coreS = p0.coreS) : p.pz = p0.pz := by have := congrArg PS.pz h; exact this
theorem PS.coreS_of {p' p p0 : PS} (h1 : p'.core = p.core) (h2 : p.coreS = p0.coreS) : p'.coreS = p0.coreS := by
  rw [← h2]
  have := congrArg (fun q : PS => ({ q with s := [] } : PS)) h1
  exact this
theorem AtI.plain {X : XI} {b pb i e : Nat} {p0 : PS} {raw : List UInt8} {ts : List Inl} {o : Opt} (hX : LoopX R X b raw) (hi : i < raw.length) (hs : raw.length < 1000000000) (hpz : p0.pz = some ⟨pb, 0, none⟩) (ho : o.at pb ∈ L) (hp : parserOf o raw[i] = .nil) (h93 : raw[i] ≠ 93)
    (h : AtI X σ b p0 raw L (i + 1) e ts) : AtI X σ b p0 raw L i e ts := by
  intro w p oq on oc hc hraw he hI
  refine hX _ _ _ _ _ ?_
  obtain ⟨vs, RM, EM, OM, hS, hIn, hO, hlen, hsat⟩ := hI
  refine inl_dispatch (p := p) hi (by omega) (by rw [PS.pz_of hc, hpz]) (.head _) (.tail _ (List.mem_append_right _ (List.mem_append_right _ (List.mem_append_right _ ho)))) hsat ?_
  rw [hp]
  exact inl_none (inl_k5 hi (by omega) (.inl h93) (h w p oq on oc hc hraw he ⟨vs, RM, EM, OM, hS, hIn, hO, hlen, hsat⟩))
theorem AtI.leaf {X : XI} {b pb i e st en : Nat} {p0 : PS} {raw : List UInt8} {ts : List Inl} {o : Opt} {f : FuncId} {t : Inl} {L0 : List Chunk} {Q : PS → PS → Prop} (hX : LoopX R X b raw) (hi : i < raw.length) (hs : raw.length < 1000000000) (hpz : p0.pz = some ⟨pb, 0, none⟩) (ho : o.at pb ∈ L)
    (hp : parserOf o raw[i] = .fn f) (hL0 : ∀ c ∈ L0, c ∈ L) (hf : ∀ p : PS, p.coreS = p0.coreS → p.s = raw → LeafOK b p raw i (.func (.func f) #[] #[]) L0 (some (t, st, en)) (Q p)) (ht : t.isOpen = false) (hst : st ≤ raw.length) (hn : ts.length < 1000000000)
    (h : AtI X σ b p0 raw L en en (emitM raw e st ts ++ [t])) : AtI X σ b p0 raw L i e ts := by
  intro w p oq on oc hc hraw he hI
  refine hX _ _ _ _ _ ?_
  obtain ⟨vs, RM, EM, OM, hS, hIn, hO, hlen, hsat⟩ := hI
  refine inl_dispatch (p := p) hi (by omega) (by rw [PS.pz_of hc, hpz]) (.head _) (.tail _ (List.mem_append_right _ (List.mem_append_right _ (List.mem_append_right _ ho)))) hsat ?_
  rw [hp]
  dsimp only
  have hleaf := hf p hc hraw
  subst hraw
  refine inl_leaf ⟨vs, RM, EM, OM, hS, hIn, hO, hlen, hsat⟩ hL0 hleaf he hst hs hn (by simp) fun w p2 oq on oc hp2 hem2 _ h2 => ?_
  rw [ht] at h2
  refine h w p2 oq on oc (PS.coreS_of hp2 hc) ?_ hem2 h2
  have := congrArg PS.s hp2; exact this
theorem AtI.finA {X : XI} {b pb e : Nat} {p0 : PS} {raw : List UInt8} {ts ts' ts2 : List Inl} {o : Opt} (hX : LoopX R X b raw) (hs : raw.length < 1000000000) (hpz : p0.pz = some ⟨pb, 0, none⟩) (ho : o.at pb ∈ L) (hn : ts.length < 1000000000)
    (hE : EmphOK (emitM raw e raw.length ts) ts') (hpos : ∀ t ∈ ts', ∀ s, t.plain? = some s → s ≠ []) (hb : plen ts' < 1073741824) (hA : AutoOK o (mergeM ts') ts2)
    (hR : ∀ w (p' : PS) q n c vs RM EM, p'.coreS = p0.coreS → Sl 1 ty_Inline q n c vs RM → n < 1073741824 → InlsAt ts2 vs EM → Sat σ w (p'.at b :: (RM ++ (EM ++ L))) → R (.returned (.slice q n c)) w) :
    AtI X σ b p0 raw L raw.length e ts := by
  intro w p oq on oc hc hraw he hI
  refine hX _ _ _ _ _ ?_
  subst hraw
  exact inl_endA hI he hs hn (by rw [PS.pz_of hc, hpz]) ho hE hpos hb hA fun w p2 q n c vs RM EM hp2 hS hn hI h => hR w p2 q n c vs RM EM (PS.coreS_of hp2 hc) hS hn hI h
theorem AtI.fin {X : XI} {b pb e : Nat} {p0 : PS} {raw : List UInt8} {ts ts' : List Inl} {o : Opt} (hX : LoopX R X b raw) (hs : raw.length < 1000000000) (hpz : p0.pz = some ⟨pb, 0, none⟩) (ho : o.at pb ∈ L) (hoff : o.auto = false) (hn : ts.length < 1000000000)
    (hE : EmphOK (emitM raw e raw.length ts) ts') (hpos : ∀ t ∈ ts', ∀ s, t.plain? = some s → s ≠ []) (hb : plen ts' < 1073741824)
    (hR : ∀ w (p' : PS) q n c vs RM EM, p'.coreS = p0.coreS → Sl 1 ty_Inline q n c vs RM → n < 1073741824 → InlsAt (mergeM ts') vs EM → Sat σ w (p'.at b :: (RM ++ (EM ++ L))) → R (.returned (.slice q n c)) w) :
    AtI X σ b p0 raw L raw.length e ts :=
  AtI.finA hX hs hpz ho hn hE hpos hb (autoOK_off hoff) hR
end Go.Proofs.YtihmcipajjakgaaGreatDoor


set_option linter.unusedVariables false
namespace Go.Proofs.YtihmcipajjakgaaGreatDoor
open Go.Proofs
theorem sub_length {s : List UInt8} {i j : Nat} (h : j ≤ s.length) : (sub s i j).length = j - i := by unfold sub; rw [List.length_drop, List.length_take]; omega
theorem getD_app {a b : List UInt8} {k : Nat} (h : a.length ≤ k) : (a ++ b).getD k 0 = b.getD (k - a.length) 0 := by
  rw [List.getD_eq_getElem?_getD, List.getElem?_append_right h, ← List.getD_eq_getElem?_getD]
theorem getD_app' {a b : List UInt8} {k : Nat} {d : UInt8} (h : k < a.length) : (a ++ b).getD k d = a.getD k d := by
  rw [List.getD_eq_getElem?_getD, List.getElem?_append_left h, ← List.getD_eq_getElem?_getD]
theorem sub_mid (A B C : List UInt8) : sub (A ++ (B ++ C)) A.length (A.length + B.length) = B := by
  unfold sub
  rw [← List.append_assoc, show A.length + B.length = (A ++ B).length by simp, List.take_left, List.drop_left]
theorem getD_mid (A C : List UInt8) (b d : UInt8) : (A ++ (b :: C)).getD A.length d = b := by
  rw [List.getD_eq_getElem?_getD, List.getElem?_append_right (Nat.le_refl _), Nat.sub_self]; rfl
theorem getElem_getD {l : List UInt8} {i : Nat} (h : i < l.length) (d : UInt8) : l[i] = l.getD i d := by
  rw [List.getD_eq_getElem?_getD, List.getElem?_eq_getElem h]; rfl
def optOff : Opt := ⟨false, false, false, false, false, false, false, false, false, false⟩
end Go.Proofs.YtihmcipajjakgaaGreatDoor


set_option linter.unusedVariables false
namespace Go.Proofs.YtihmcipajjakgaaGreatDoor
open Go.Proofs Go.IntWalk Go.RowKit
variable {σ : Out} {w : World} {L L' : List Chunk} {R : Ending → World → Prop}
theorem sub_self (s : List UInt8) (i : Nat) : sub s i i = [] := List.drop_eq_nil_of_le (by rw [List.length_take]; omega)
end Go.Proofs.YtihmcipajjakgaaGreatDoor


set_option linter.unusedVariables false
set_option maxRecDepth 20000
namespace Go.Proofs.YtihmcipajjakgaaGreatDoor
open Go.Proofs
namespace g_Emph_PrintHTML
noncomputable def body : Code := bodyOf Tryz.f299
def bl1 (R : EP) (Xa : OA → OA → Nat → Nat → Int → Int → WP) (x1 : OA) (x11q : OA) (x11n : Nat) (x11c : Nat) (x12 : Int) (x13 : Int) (w : World) : Prop :=
 br (decide (x13 < x12))
 (0 ≤ x13 ∧ x13 < (x11n : Int) ∧
 nilP x11q fun a5 =>
 ∃ (v6 : Value), w.cell? (a5.add (Int.toNat x13 * 1)) = some v6 ∧
 enterE P (callMethod v6 "PrintHTML" #[.pointer x1]) (fun e w8 => e = .returned (.tuple #[]) ∧
 Xa x1 x11q x11n x11c x12 (IntKind.i64.wrap (x13 + 1)) w8) w)
 (callE P i_bytes_Buffer_WriteString #[.pointer x1, .string (ByteArray.mk #[60, 47, 101, 109, 62])] (fun e w10 => ∃ (r9_0 : Int), ∃ (r9_1 : Value), e = .returned (.tuple #[.int .i64 r9_0, r9_1]) ∧
 R (.returned (.tuple #[])) w10) w)
def l1 (R : EP) (x1 : OA) (x11q : OA) (x11n : Nat) (x11c : Nat) (x12 : Int) (x13 : Int) (w : World) : Prop :=
  ∀ X : OA → OA → Nat → Nat → Int → Int → WP, (∀ x1 x11q x11n x11c x12 x13 w, bl1 R X x1 x11q x11n x11c x12 x13 w → X x1 x11q x11n x11c x12 x13 w) → X x1 x11q x11n x11c x12 x13 w

noncomputable def al1 (R : EP) (Xa : OA → OA → Nat → Nat → Int → Int → WP) : AC :=
  (.leaf (sel [1, 0, 1, 0, 0] body))
end g_Emph_PrintHTML
def g_Emph_PrintHTML (R : EP) (x0 : OA) (x1 : OA) (w : World) : Prop :=
 callE P i_bytes_Buffer_WriteString #[.pointer x1, .string (ByteArray.mk #[60, 101, 109, 62])] (fun e w2 => ∃ (r1_0 : Int), ∃ (r1_1 : Value), e = .returned (.tuple #[.int .i64 r1_0, r1_1]) ∧
 nilP x0 fun a3 =>
 ∃ (v4q : OA), ∃ (v4n : Nat), ∃ (v4c : Nat), w2.cell? (a3.add 1) = some (.slice v4q v4n v4c) ∧
 g_Emph_PrintHTML.l1 R x1 v4q v4n v4c (v4n : Int) 0 w2) w

noncomputable def g_Emph_PrintHTML.ac (R : EP) : AC :=
  (.seq (.leaf (sel [0] g_Emph_PrintHTML.body)) (.seq (.seq (.leaf (sel [1, 0, 0] g_Emph_PrintHTML.body)) (.block 0 (.loop (leaf [(1, .s .ptr), (11, .s .slice), (12, .s (.int .i64)), (13, .s (.int .i64))] (g_Emph_PrintHTML.l1 R)) (sel [1, 0, 1, 0, 0] g_Emph_PrintHTML.body)))) (.leaf (sel [1, 1] g_Emph_PrintHTML.body))))
theorem g_Emph_PrintHTML.good (R : EP) : Good P 23 (g_Emph_PrintHTML.ac R) (QF P [] R) :=
  ⟨trivial, ⟨⟨trivial, (loopG (g_Emph_PrintHTML.al1 R) (g_Emph_PrintHTML.bl1 R) (fun _ => by kernel_rfl) (fun Xa => trivial) (fun Xa => by intro x1 x11q x11n x11c x12 x13 ρ w; kernel_rfl) (fun X h _ _ _ _ _ _ _ g => g X h))⟩, trivial⟩⟩
theorem g_Emph_PrintHTML.eq (R : EP) (x0 : OA) (x1 : OA) (w : World) : g_Emph_PrintHTML R x0 x1 w = vcA P 23 (g_Emph_PrintHTML.ac R) (QF P [] R) (fr0 [.pointer x0, .pointer x1]) w := by kernel_rfl
theorem g_Emph_PrintHTML.sound {R : EP} {x0 : OA} {x1 : OA} {w : World} (h : g_Emph_PrintHTML R x0 x1 w) : callE P i_Emph_PrintHTML #[.pointer x0, .pointer x1] R w :=
  callE_fin (c := g_Emph_PrintHTML.body) Tryz.func299 Tryz.call299 (by kernel_rfl) (by kernel_rfl) (by kernel_rfl) (by kernel_rfl) (by kernel_rfl) (g_Emph_PrintHTML.good R) (g_Emph_PrintHTML.eq R x0 x1 w) h
namespace g_Strong_PrintHTML
noncomputable def body : Code := bodyOf Tryz.f307
def bl1 (R : EP) (Xa : OA → OA → Nat → Nat → Int → Int → WP) (x1 : OA) (x11q : OA) (x11n : Nat) (x11c : Nat) (x12 : Int) (x13 : Int) (w : World) : Prop :=
 br (decide (x13 < x12))
 (0 ≤ x13 ∧ x13 < (x11n : Int) ∧
 nilP x11q fun a5 =>
 ∃ (v6 : Value), w.cell? (a5.add (Int.toNat x13 * 1)) = some v6 ∧
 enterE P (callMethod v6 "PrintHTML" #[.pointer x1]) (fun e w8 => e = .returned (.tuple #[]) ∧
 Xa x1 x11q x11n x11c x12 (IntKind.i64.wrap (x13 + 1)) w8) w)
 (callE P i_bytes_Buffer_WriteString #[.pointer x1, .string (ByteArray.mk #[60, 47, 115, 116, 114, 111, 110, 103, 62])] (fun e w10 => ∃ (r9_0 : Int), ∃ (r9_1 : Value), e = .returned (.tuple #[.int .i64 r9_0, r9_1]) ∧
 R (.returned (.tuple #[])) w10) w)
def l1 (R : EP) (x1 : OA) (x11q : OA) (x11n : Nat) (x11c : Nat) (x12 : Int) (x13 : Int) (w : World) : Prop :=
  ∀ X : OA → OA → Nat → Nat → Int → Int → WP, (∀ x1 x11q x11n x11c x12 x13 w, bl1 R X x1 x11q x11n x11c x12 x13 w → X x1 x11q x11n x11c x12 x13 w) → X x1 x11q x11n x11c x12 x13 w

noncomputable def al1 (R : EP) (Xa : OA → OA → Nat → Nat → Int → Int → WP) : AC :=
  (.leaf (sel [1, 0, 1, 0, 0] body))
end g_Strong_PrintHTML
def g_Strong_PrintHTML (R : EP) (x0 : OA) (x1 : OA) (w : World) : Prop :=
 callE P i_bytes_Buffer_WriteString #[.pointer x1, .string (ByteArray.mk #[60, 115, 116, 114, 111, 110, 103, 62])] (fun e w2 => ∃ (r1_0 : Int), ∃ (r1_1 : Value), e = .returned (.tuple #[.int .i64 r1_0, r1_1]) ∧
 nilP x0 fun a3 =>
 ∃ (v4q : OA), ∃ (v4n : Nat), ∃ (v4c : Nat), w2.cell? (a3.add 1) = some (.slice v4q v4n v4c) ∧
 g_Strong_PrintHTML.l1 R x1 v4q v4n v4c (v4n : Int) 0 w2) w

noncomputable def g_Strong_PrintHTML.ac (R : EP) : AC :=
  (.seq (.leaf (sel [0] g_Strong_PrintHTML.body)) (.seq (.seq (.leaf (sel [1, 0, 0] g_Strong_PrintHTML.body)) (.block 0 (.loop (leaf [(1, .s .ptr), (11, .s .slice), (12, .s (.int .i64)), (13, .s (.int .i64))] (g_Strong_PrintHTML.l1 R)) (sel [1, 0, 1, 0, 0] g_Strong_PrintHTML.body)))) (.leaf (sel [1, 1] g_Strong_PrintHTML.body))))
theorem g_Strong_PrintHTML.good (R : EP) : Good P 23 (g_Strong_PrintHTML.ac R) (QF P [] R) :=
  ⟨trivial, ⟨⟨trivial, (loopG (g_Strong_PrintHTML.al1 R) (g_Strong_PrintHTML.bl1 R) (fun _ => by kernel_rfl) (fun Xa => trivial) (fun Xa => by intro x1 x11q x11n x11c x12 x13 ρ w; kernel_rfl) (fun X h _ _ _ _ _ _ _ g => g X h))⟩, trivial⟩⟩
theorem g_Strong_PrintHTML.eq (R : EP) (x0 : OA) (x1 : OA) (w : World) : g_Strong_PrintHTML R x0 x1 w = vcA P 23 (g_Strong_PrintHTML.ac R) (QF P [] R) (fr0 [.pointer x0, .pointer x1]) w := by kernel_rfl
theorem g_Strong_PrintHTML.sound {R : EP} {x0 : OA} {x1 : OA} {w : World} (h : g_Strong_PrintHTML R x0 x1 w) : callE P i_Strong_PrintHTML #[.pointer x0, .pointer x1] R w :=
  callE_fin (c := g_Strong_PrintHTML.body) Tryz.func307 Tryz.call307 (by kernel_rfl) (by kernel_rfl) (by kernel_rfl) (by kernel_rfl) (by kernel_rfl) (g_Strong_PrintHTML.good R) (g_Strong_PrintHTML.eq R x0 x1 w) h
end Go.Proofs.YtihmcipajjakgaaGreatDoor

set_option linter.unusedVariables false
namespace Go.Proofs.YtihmcipajjakgaaGreatDoor
open Go.Proofs Go.IntWalk Go.RowKit
variable {σ : Out} {w : World} {L L' : List Chunk} {R : Ending → World → Prop}
theorem meth_Strong : methB P ty_P_Strong "PrintHTML" i_Strong_PrintHTML = true := by kernel_rfl
theorem meth_Emph : methB P ty_P_Emph "PrintHTML" i_Emph_PrintHTML = true := by kernel_rfl
def oStrong : List UInt8 := [60, 115, 116, 114, 111, 110, 103, 62]
def cStrong : List UInt8 := [60, 47, 115, 116, 114, 111, 110, 103, 62]
def oEm : List UInt8 := [60, 101, 109, 62]
def cEm : List UInt8 := [60, 47, 101, 109, 62]
theorem strong_prints {b : Nat} {e : TypeId} {m : Value} {q : Option Addr} {n c : Nat} {vs : List Value} {RM KM KM' : List Chunk} {f : List UInt8 → List UInt8} (hS : Sl 1 ty_Inline q n c vs RM) (hn : n < 4611686018427387904) (hP : PrintsL "PrintHTML" vs KM KM' f) :
    Prints "PrintHTML" (.iface ty_P_Strong (.pointer (some ⟨b, 0, none⟩))) ((b, cel [m, .slice q n c] e) :: (RM ++ KM)) ((b, cel [m, .slice q n c] e) :: (RM ++ KM')) (fun l => f (l ++ oStrong) ++ cStrong) := by
  refine ⟨fun l => ?_, fun σ R bb l M L w hB h hb hR => enter_meth meth_Strong ?_⟩
  · have := hP.mono (l ++ oStrong)
    simp only [List.length_append] at *; omega
  refine g_Strong_PrintHTML.sound ?_
  have hm := hP.mono (l ++ oStrong)
  simp only [List.length_append] at hb hm
  refine writeS_ok (s := oStrong) hB h (by omega) fun w M hB h => ⟨_, _, rfl, ?_⟩
  refine nilP_some ?_
  refine ⟨_, _, _, Sat.ld h (List.mem_append_right _ (.head _)) rfl, ?_⟩
  intro X hX
  have h : Sat σ w (M ++ (RM ++ (KM ++ ((b, cel [m, .slice q n c] e) :: L)))) := h.re (by intro _; simp only [List.append_eq, cnt_append, cnt_cons, cnt_nil] <;> omega)
  refine printLoop (X := fun j w => X (some ⟨bb, 0, none⟩) q n c (n : Int) j w) (END := fun w => callE P i_bytes_Buffer_WriteString #[.pointer (some ⟨bb, 0, none⟩), .string (bs cStrong)] (fun e w10 => ∃ (r9_0 : Int), ∃ (r9_1 : Value), e = .returned (.tuple #[.int .i64 r9_0, r9_1]) ∧ R (.returned (.tuple #[])) w10) w) hS (fun j w hj => hX _ _ _ _ _ _ _ hj) hP hB h hn (by omega) fun w M' hB h => ?_
  refine writeS_ok (s := cStrong) hB h (by omega) fun w M hB h => ⟨_, _, rfl, ?_⟩
  exact hR w M hB (h.re (by intro _; simp only [List.append_eq, cnt_append, cnt_cons, cnt_nil] <;> omega))
theorem em_prints {b : Nat} {e : TypeId} {m : Value} {q : Option Addr} {n c : Nat} {vs : List Value} {RM KM KM' : List Chunk} {f : List UInt8 → List UInt8} (hS : Sl 1 ty_Inline q n c vs RM) (hn : n < 4611686018427387904) (hP : PrintsL "PrintHTML" vs KM KM' f) :
    Prints "PrintHTML" (.iface ty_P_Emph (.pointer (some ⟨b, 0, none⟩))) ((b, cel [m, .slice q n c] e) :: (RM ++ KM)) ((b, cel [m, .slice q n c] e) :: (RM ++ KM')) (fun l => f (l ++ oEm) ++ cEm) := by
  refine ⟨fun l => ?_, fun σ R bb l M L w hB h hb hR => enter_meth meth_Emph ?_⟩
  · have := hP.mono (l ++ oEm)
    simp only [List.length_append] at *; omega
  refine g_Emph_PrintHTML.sound ?_
  have hm := hP.mono (l ++ oEm)
  simp only [List.length_append] at hb hm
  refine writeS_ok (s := oEm) hB h (by omega) fun w M hB h => ⟨_, _, rfl, ?_⟩
  refine nilP_some ?_
  refine ⟨_, _, _, Sat.ld h (List.mem_append_right _ (.head _)) rfl, ?_⟩
  intro X hX
  have h : Sat σ w (M ++ (RM ++ (KM ++ ((b, cel [m, .slice q n c] e) :: L)))) := h.re (by intro _; simp only [List.append_eq, cnt_append, cnt_cons, cnt_nil] <;> omega)
  refine printLoop (X := fun j w => X (some ⟨bb, 0, none⟩) q n c (n : Int) j w) (END := fun w => callE P i_bytes_Buffer_WriteString #[.pointer (some ⟨bb, 0, none⟩), .string (bs cEm)] (fun e w10 => ∃ (r9_0 : Int), ∃ (r9_1 : Value), e = .returned (.tuple #[.int .i64 r9_0, r9_1]) ∧ R (.returned (.tuple #[])) w10) w) hS (fun j w hj => hX _ _ _ _ _ _ _ hj) hP hB h hn (by omega) fun w M' hB h => ?_
  refine writeS_ok (s := cEm) hB h (by omega) fun w M hB h => ⟨_, _, rfl, ?_⟩
  exact hR w M hB (h.re (by intro _; simp only [List.append_eq, cnt_append, cnt_cons, cnt_nil] <;> omega))
mutual
def outI : Inl → List UInt8
  | .plain s => escS htmlPs s
  | .strong _ ks => oStrong ++ outL ks ++ cStrong
  | .emph _ ks => oEm ++ outL ks ++ cEm
  | .esc s => escS htmlPs s
  | .auto t u => aHref ++ escS linkPs u ++ [34, 62] ++ escS htmlPs t ++ aEnd
  | .link ks u t _ _ => linkO u t ++ outL ks ++ aEnd
  | .soft => softT
  | .hard => hardT
  | _ => []
def outL : List Inl → List UInt8
  | [] => []
  | t :: ts => outI t ++ outL ts
end
mutual
def okI : Inl → Prop
  | .plain s => s.length < 4294967296
  | .strong _ ks => okL ks ∧ ks.length < 1073741824
  | .emph _ ks => okL ks ∧ ks.length < 1073741824
  | .esc s => s.length < 4294967296
  | .auto t u => t.length < 100000000 ∧ u.length < 100000000
  | .link ks u t _ _ => okL ks ∧ ks.length < 1073741824 ∧ u.length < 100000000 ∧ t.length < 100000000
  | .soft => True
  | .hard => True
  | _ => False
def okL : List Inl → Prop
  | [] => True
  | t :: ts => okI t ∧ okL ts
end
theorem Prints.as {m : String} {v : Value} {T T' : List Chunk} {f g : List UInt8 → List UInt8} (h : Prints m v T T' f) (e : f = g) : Prints m v T T' g := e ▸ h
theorem PrintsL.as {m : String} {v : List Value} {T T' : List Chunk} {f g : List UInt8 → List UInt8} (h : PrintsL m v T T' f) (e : f = g) : PrintsL m v T T' g := e ▸ h
mutual
theorem inl_prints : ∀ (t : Inl) (v : Value) (M : List Chunk), InlAt t v M → okI t → Prints "PrintHTML" v M M (ab (outI t))
  | .plain s, v, M, h, ho => by
    obtain ⟨b, cs, e, rfl, rfl⟩ := h
    exact plain_prints ho
  | .strong m ks, v, M, h, ho => by
    obtain ⟨b, e, q, n, c, vs, RM, KM, rfl, rfl, hS, hI⟩ := h
    have hl := hI.length
    have h0 := hS.1
    have h1 := ho.2
    refine (strong_prints hS (by omega) (inls_print ks vs KM hI ho.1)).as ?_
    funext l
    simp [ab, outI]
  | .emph m ks, v, M, h, ho => by
    obtain ⟨b, e, q, n, c, vs, RM, KM, rfl, rfl, hS, hI⟩ := h
    have hl := hI.length
    have h0 := hS.1
    have h1 := ho.2
    refine (em_prints hS (by omega) (inls_print ks vs KM hI ho.1)).as ?_
    funext l
    simp [ab, outI]
  | .esc s, v, M, h, ho => by
    obtain ⟨b, e, rfl, rfl⟩ := h
    exact esc_prints ho
  | .auto t u, v, M, h, ho => by
    obtain ⟨b, e, rfl, rfl⟩ := h
    exact auto_prints ho.1 ho.2
  | .link ks u t tc k, v, M, h, ho => by
    obtain ⟨b, e, q, n, c, vs, RM, KM, rfl, rfl, hS, hI⟩ := h
    have hl := hI.length
    have h0 := hS.1
    obtain ⟨h1, h2, h3, h4⟩ := ho
    refine (link_prints h3 h4 hS (by omega) (inls_print ks vs KM hI h1)).as ?_
    funext l
    simp [ab, outI]
  | .soft, v, M, h, ho => by
    obtain ⟨b, e, rfl, rfl⟩ := h
    exact soft_prints
  | .hard, v, M, h, ho => by
    obtain ⟨b, e, rfl, rfl⟩ := h
    exact hard_prints
  | .openP _ _, v, M, h, ho => absurd ho id
  | .emphP _ _ _ _ _, v, M, h, ho => absurd ho id
  | .code _, v, M, h, ho => absurd ho id
  | .del _ _, v, M, h, ho => absurd ho id
  | .image _ _ _ _ _, v, M, h, ho => absurd ho id
  | .tag _, v, M, h, ho => absurd ho id
  | .task _, v, M, h, ho => absurd ho id
theorem inls_print : ∀ (ts : List Inl) (vs : List Value) (M : List Chunk), InlsAt ts vs M → okL ts → PrintsL "PrintHTML" vs M M (ab (outL ts))
  | [], vs, M, h, ho => by
    obtain ⟨rfl, rfl⟩ := h
    exact PrintsL.nil.as (by funext l; simp [ab, outL])
  | t :: ts, vs, M, h, ho => by
    obtain ⟨v, vs', M1, M2, rfl, rfl, h1, h2⟩ := h
    refine (PrintsL.cons (inl_prints t v M1 h1 ho.1) (inls_print ts vs' M2 h2 ho.2)).as ?_
    funext l
    simp [ab, outL]
end
end Go.Proofs.YtihmcipajjakgaaGreatDoor


set_option linter.unusedVariables false
namespace Go.Proofs.YtihmcipajjakgaaGreatDoor
open Go.Proofs Go.IntWalk Go.RowKit
variable {σ : Out} {w : World} {L L' : List Chunk} {R : Ending → World → Prop}
def punB (c : UInt8) : Bool := (((decide (33 ≤ c.toNat) && decide (c.toNat ≤ 47)) || (decide (58 ≤ c.toNat) && decide (c.toNat ≤ 64))) || (decide (91 ≤ c.toNat) && decide (c.toNat ≤ 96))) || (decide (123 ≤ c.toNat) && decide (c.toNat ≤ 126))
theorem u8_cle (c : UInt8) (n : Nat) : decide ((n : Int) ≤ ((c.toNat : Nat) : Int)) = decide (n ≤ c.toNat) := by rw [decide_eq_decide]; omega
theorem u8_cge (c : UInt8) (n : Nat) : decide (((c.toNat : Nat) : Int) ≤ (n : Int)) = decide (c.toNat ≤ n) := by rw [decide_eq_decide]; omega
theorem isPunctB_ok {c : UInt8} (hR : R (.returned (.bool (punB c))) w) : callE P i_isPunct #[.int .u8 (c.toNat : Int)] R w := by
  refine g_isPunct.sound ?_
  unfold g_isPunct
  unfold punB at hR
  rw [← u8_cle c 33, ← u8_cge c 47, ← u8_cle c 58, ← u8_cge c 64, ← u8_cle c 91, ← u8_cge c 96, ← u8_cle c 123, ← u8_cge c 126] at hR
  exact hR
inductive Tok where
  | lit (c : UInt8)
  | esc (c : UInt8)
  | nl
def Tok.bytes : Tok → List UInt8
  | .lit c => [c]
  | .esc c => [92, c]
  | .nl => [10]
def Tok.out : Tok → List UInt8
  | .lit c => escB htmlPs c
  | .esc c => escB htmlPs c
  | .nl => [10]
def tokB (ts : List Tok) : List UInt8 := ts.flatMap Tok.bytes
def tokO (ts : List Tok) : List UInt8 := ts.flatMap Tok.out
theorem tokB_cons (t : Tok) (ts : List Tok) : tokB (t :: ts) = t.bytes ++ tokB ts := by simp [tokB]
theorem tokB_append (a b : List Tok) : tokB (a ++ b) = tokB a ++ tokB b := by simp [tokB]
theorem tokO_cons (t : Tok) (ts : List Tok) : tokO (t :: ts) = t.out ++ tokO ts := by simp [tokO]
theorem tokB_length (ts : List Tok) : ts.length ≤ (tokB ts).length := by
  induction ts with
  | nil => simp [tokB]
  | cons t ts ih => rw [tokB_cons, List.length_append, List.length_cons]; cases t <;> simp [Tok.bytes] <;> omega
def tokIn (pend : List UInt8) : List Tok → List Inl
  | [] => if pend = [] then [] else [.plain pend]
  | .lit c :: r => tokIn (pend ++ [c]) r
  | .esc c :: r => (if pend = [] then [] else [.plain pend]) ++ .esc [c] :: tokIn [] r
  | .nl :: r => (if pend = [] then [] else [.plain pend]) ++ .soft :: tokIn [] r
def nlOK : List Tok → Prop
  | [] => True
  | t :: ts => (match ts with
    | .nl :: _ => match t with
      | .lit c => isST c = false
      | .esc c => isST c = false
      | .nl => True
    | _ => True) ∧ (match t, ts with
    | .nl, .lit c :: _ => isST c = false
    | _, _ => True) ∧ nlOK ts
def Tok.ok (o : Opt) : Tok → Prop
  | .lit c => parserOf o c = .nil ∧ c ≠ 93
  | .esc c => punB c = true
  | .nl => True
theorem escape_leaf {b : Nat} {p : PS} {c : UInt8} {A B : List UInt8} (hc : punB c = true) (hs : (A ++ 92 :: c :: B).length < 1000000) :
    LeafOK b p (A ++ 92 :: c :: B) A.length (.func (.func i_parseEscape) #[] #[]) [] (some (.esc [c], A.length, A.length + 2)) (fun p' => p' = p) := by
  intro σ R L w _ h hR
  refine enter_fn ?_
  have hlen : (A ++ 92 :: c :: B).length = A.length + B.length + 2 := by simp; omega
  have hg : (A ++ 92 :: c :: B).getD (A.length + 1) 0 = c := by
    have := getD_mid (A ++ [92]) B c 0
    rw [show (A ++ [92] : List UInt8).length = A.length + 1 by simp] at this
    rw [← this]; simp
  refine g_parseEscape.sound ?_
  unfold g_parseEscape
  have e2 : IntKind.i64.wrap ((A.length : Int) + 2) = ((A.length + 2 : Nat) : Int) := by simp (disch := omega) only [i64_in]; omega
  rw [i64_inc (by omega), e2]
  refine br_true (by rw [bs_size, hlen]; simp; omega) ⟨by omega, by rw [bs_size, hlen]; omega, ?_⟩
  rw [bs_bt, hg]
  refine isPunctB_ok ⟨_, rfl, br_true hc ⟨by omega, by omega, by rw [bs_size, hlen]; omega, ?_⟩⟩
  have hsub := sub_mid (A ++ [92]) [c] B
  rw [show (A ++ [92] : List UInt8).length = A.length + 1 by simp] at hsub
  rw [Int.toNat_natCast, Int.toNat_natCast, bs_extract]
  have hsub' : ((A ++ 92 :: c :: B).take (A.length + 2)).drop (A.length + 1) = [c] := by
    unfold sub at hsub
    rw [← hsub]; simp
  rw [hsub']
  refine Sat.bx h fun nb w h => ?_
  exact hR w p _ _ rfl rfl ⟨nb, _, rfl, rfl⟩ h.up1
theorem break_leaf {b : Nat} {p : PS} {A B : List UInt8} (hA : ∀ k, k + 1 = A.length → isST (A.getD k 0) = false) (hB : 0 < B.length → isST (B.getD 0 0) = false) (hs : (A ++ 10 :: B).length < 1000000) :
    LeafOK b p (A ++ 10 :: B) A.length (.func (.func i_parseBreak) #[] #[]) [] (some (.soft, A.length, A.length + 1)) (fun p' => p' = p) := by
  intro σ R L w _ h hR
  refine enter_fn ?_
  have hlen : (A ++ 10 :: B).length = A.length + B.length + 1 := by simp; omega
  have hst : ∀ {c : UInt8}, isST c = false → (((c.toNat : Nat) : Int) == 32) = false ∧ (((c.toNat : Nat) : Int) == 9) = false := by
    intro c hc
    simp only [isST, Bool.or_eq_false_iff] at hc
    rw [u8b _ 32 32 rfl, u8b _ 9 9 rfl]; exact hc
  refine g_parseBreak.sound ?_
  intro X hX
  have k1 : g_parseBreak.k1 R (bs (A ++ 10 :: B)) (A.length : Nat) (A.length : Nat) w := by
    unfold g_parseBreak.k1
    rw [i64_inc (by omega)]
    intro Y hY
    have k2 : g_parseBreak.k2 R (bs (A ++ 10 :: B)) (A.length : Nat) (A.length : Nat) ((A.length + 1 : Nat) : Int) w := by
      rcases Nat.lt_or_ge A.length 2 with h2 | h2
      · have hf : decide (((A.length : Nat) : Int) ≥ 2) = false := decide_eq_false (by omega)
        unfold g_parseBreak.k2
        rw [hf]
        refine ⟨fun h => by simp at h, fun h => by simp at h, br_false rfl ?_⟩
        exact Sat.bx h fun nb w h => hR w p _ _ rfl rfl ⟨nb, _, rfl, rfl⟩ h.up1
      · have ht : decide (((A.length : Nat) : Int) ≥ 2) = true := decide_eq_true (by omega)
        have e1 : IntKind.i64.wrap ((A.length : Int) - 1) = ((A.length - 1 : Nat) : Int) := i64_dec (by omega) (by omega)
        have hc := hst (hA (A.length - 1) (by omega))
        have hg : bt (bs (A ++ 10 :: B)) ((A.length - 1 : Nat) : Int) = ((A.getD (A.length - 1) 0).toNat : Int) := by rw [bs_bt, getD_app' (by omega)]
        unfold g_parseBreak.k2
        rw [ht, e1, hg, hc.1]
        refine ⟨fun _ => ⟨by omega, by rw [bs_size, hlen]; omega⟩, fun h => by simp at h, br_false rfl ?_⟩
        exact Sat.bx h fun nb w h => hR w p _ _ rfl rfl ⟨nb, _, rfl, rfl⟩ h.up1
    rcases Nat.eq_zero_or_pos B.length with hb | hb
    · have hf : decide (((A.length + 1 : Nat) : Int) < ((bs (A ++ 10 :: B)).size : Int)) = false := decide_eq_false (by rw [bs_size, hlen]; omega)
      refine hY _ _ _ _ _ ?_
      unfold g_parseBreak.bl2
      rw [hf]
      exact ⟨fun h => by simp at h, fun h => by simp at h, br_false rfl k2⟩
    · have hc := hst (hB hb)
      have hg : bt (bs (A ++ 10 :: B)) ((A.length + 1 : Nat) : Int) = ((B.getD 0 0).toNat : Int) := by
        rw [bs_bt, getD_app (by omega), show A.length + 1 - A.length = 0 + 1 by omega, List.getD_cons_succ]
      refine hY _ _ _ _ _ ?_
      unfold g_parseBreak.bl2
      rw [hg, hc.1, hc.2]
      exact ⟨fun h => ⟨by omega, by rw [bs_size, hlen]; omega⟩, fun h => ⟨by omega, by rw [bs_size, hlen]; omega⟩, br_false (by simp) k2⟩
  rcases Nat.eq_zero_or_pos A.length with ha | ha
  · have hf : decide (((A.length : Nat) : Int) > 0) = false := decide_eq_false (by omega)
    refine hX _ _ _ _ ?_
    unfold g_parseBreak.bl1
    rw [hf]
    exact ⟨fun h => by simp at h, fun h => by simp at h, br_false rfl k1⟩
  · have e1 : IntKind.i64.wrap ((A.length : Int) - 1) = ((A.length - 1 : Nat) : Int) := i64_dec (by omega) (by omega)
    have hc := hst (hA (A.length - 1) (by omega))
    have hg : bt (bs (A ++ 10 :: B)) ((A.length - 1 : Nat) : Int) = ((A.getD (A.length - 1) 0).toNat : Int) := by rw [bs_bt, getD_app' (by omega)]
    refine hX _ _ _ _ ?_
    unfold g_parseBreak.bl1
    rw [e1, hg, hc.1, hc.2]
    exact ⟨fun h => ⟨by omega, by rw [bs_size, hlen]; omega⟩, fun h => ⟨by omega, by rw [bs_size, hlen]; omega⟩, br_false (by simp) k1⟩
theorem tokIn_kinds : ∀ (ts : List Tok) (pend : List UInt8), ∀ t ∈ tokIn pend ts, (∃ s, s ≠ [] ∧ t = .plain s) ∨ (∃ s, t = .esc s) ∨ t = .soft
  | [], pend, t, h => by
    simp only [tokIn] at h
    split at h
    · simp at h
    · rename_i hp; simp at h; exact .inl ⟨pend, hp, h⟩
  | .lit c :: r, pend, t, h => tokIn_kinds r _ t h
  | .esc c :: r, pend, t, h => by
    simp only [tokIn, List.mem_append, List.mem_cons] at h
    rcases h with h | rfl | h
    · split at h
      · simp at h
      · rename_i hp; simp at h; exact .inl ⟨pend, hp, h⟩
    · exact .inr (.inl ⟨_, rfl⟩)
    · exact tokIn_kinds r _ t h
  | .nl :: r, pend, t, h => by
    simp only [tokIn, List.mem_append, List.mem_cons] at h
    rcases h with h | rfl | h
    · split at h
      · simp at h
      · rename_i hp; simp at h; exact .inl ⟨pend, hp, h⟩
    · exact .inr (.inr rfl)
    · exact tokIn_kinds r _ t h
theorem tokIn_merge : ∀ (ts : List Tok) (pend : List UInt8), mergeM (tokIn pend ts) = tokIn pend ts
  | [], pend => by
    by_cases hp : pend = []
    · simp [tokIn, hp, mergeM, mergeGo, flushP]
    · simp [tokIn, hp, mergeM, mergeGo, flushP, Inl.plain?]
  | .lit c :: r, pend => tokIn_merge r _
  | .esc c :: r, pend => by
    have ih := tokIn_merge r []
    unfold mergeM at ih ⊢
    by_cases hp : pend = []
    · simp [tokIn, hp, mergeGo, flushP, Inl.plain?, ih]
    · simp [tokIn, hp, mergeGo, flushP, Inl.plain?, ih]
  | .nl :: r, pend => by
    have ih := tokIn_merge r []
    unfold mergeM at ih ⊢
    by_cases hp : pend = []
    · simp [tokIn, hp, mergeGo, flushP, Inl.plain?, ih]
    · simp [tokIn, hp, mergeGo, flushP, Inl.plain?, ih]
theorem outL_append : ∀ (a b : List Inl), outL (a ++ b) = outL a ++ outL b
  | [], b => rfl
  | t :: a, b => by simp only [List.cons_append, outL, outL_append a b, List.append_assoc]
theorem tokIn_out : ∀ (ts : List Tok) (pend : List UInt8), outL (tokIn pend ts) = escS htmlPs pend ++ tokO ts
  | [], pend => by
    by_cases hp : pend = []
    · simp [tokIn, hp, outL, escS, tokO]
    · simp [tokIn, hp, outL, outI, tokO]
  | .lit c :: r, pend => by
    rw [tokIn, tokIn_out r, escS_append, tokO_cons]
    simp [escS, Tok.out]
  | .esc c :: r, pend => by
    rw [tokIn, outL_append, tokO_cons]
    by_cases hp : pend = []
    · simp [hp, outL, outI, tokIn_out r [], escS, Tok.out]
    · simp [hp, outL, outI, tokIn_out r [], escS, Tok.out]
  | .nl :: r, pend => by
    rw [tokIn, outL_append, tokO_cons]
    by_cases hp : pend = []
    · simp [hp, outL, outI, tokIn_out r [], escS, Tok.out, softT]
    · simp [hp, outL, outI, tokIn_out r [], escS, Tok.out, softT]
theorem okL_append : ∀ {a b : List Inl}, okL a → okL b → okL (a ++ b)
  | [], b, _, h => h
  | t :: a, b, h1, h2 => ⟨h1.1, okL_append h1.2 h2⟩
theorem tokIn_ok : ∀ (ts : List Tok) (pend : List UInt8), pend.length + ts.length < 1000000 → okL (tokIn pend ts)
  | [], pend, h => by
    simp only [tokIn]
    split
    · trivial
    · exact ⟨by show pend.length < _; simp at h; omega, trivial⟩
  | .lit c :: r, pend, h => tokIn_ok r _ (by simp at h ⊢; omega)
  | .esc c :: r, pend, h => by
    simp only [tokIn]
    refine okL_append ?_ ⟨by show ([c] : List UInt8).length < _; simp, tokIn_ok r [] (by simp at h ⊢; omega)⟩
    split
    · trivial
    · exact ⟨by show pend.length < _; simp at h; omega, trivial⟩
  | .nl :: r, pend, h => by
    simp only [tokIn]
    refine okL_append ?_ ⟨trivial, tokIn_ok r [] (by simp at h ⊢; omega)⟩
    split
    · trivial
    · exact ⟨by show pend.length < _; simp at h; omega, trivial⟩
theorem plen_append : ∀ (a b : List Inl), plen (a ++ b) = plen a + plen b
  | [], b => by simp [plen]
  | t :: a, b => by simp only [List.cons_append, plen, plen_append a b]; omega
theorem tokIn_plen : ∀ (ts : List Tok) (pend : List UInt8), plen (tokIn pend ts) ≤ pend.length + ts.length
  | [], pend => by
    simp only [tokIn]
    split <;> simp [plen, Inl.plain?]
  | .lit c :: r, pend => by
    have := tokIn_plen r (pend ++ [c])
    simp only [tokIn, List.length_append, List.length_cons, List.length_nil] at this ⊢; omega
  | .esc c :: r, pend => by
    have := tokIn_plen r []
    simp only [tokIn, plen_append, plen, List.length_nil, List.length_cons] at this ⊢
    split <;> simp [plen, Inl.plain?] <;> omega
  | .nl :: r, pend => by
    have := tokIn_plen r []
    simp only [tokIn, plen_append, plen, List.length_nil, List.length_cons] at this ⊢
    split <;> simp [plen, Inl.plain?] <;> omega
theorem sub_snoc {A B : List UInt8} {e : Nat} (x : List UInt8) (he : e ≤ A.length) : sub (A ++ (x ++ B)) e (A.length + x.length) = sub (A ++ (x ++ B)) e A.length ++ x := by
  unfold sub
  have h1 : (A ++ (x ++ B)).take (A.length + x.length) = A ++ x := by rw [← List.append_assoc, show A.length + x.length = (A ++ x).length by simp, List.take_left]
  have h2 : (A ++ (x ++ B)).take A.length = A := List.take_left
  rw [h1, h2, List.drop_append_of_le_length he]
theorem toks_inline {o : Opt} {toks : List Tok} (hoff : o.auto = false) (hok : ∀ t ∈ toks, t.ok o) (hnl : nlOK toks) (hlen : (tokB toks).length < 1000000) (htr : trimLR isST (tokB toks) = tokB toks) (hne : toks ≠ []) :
    InlineOK o (tokB toks) (ab (tokO toks)) := by
  intro σ R b pb p L w h hpz ho hlk hR
  have htl := tokB_length toks
  refine inl_begin h (by omega) fun w h => ?_
  rw [htr] at h ⊢
  generalize hr : tokB toks = raw at h hlen htl ⊢
  intro X hX
  have hXL : LoopX R X b raw := fun _ _ _ _ _ h => hX _ _ _ _ _ _ _ _ _ h
  generalize hp0 : ({ p with s := raw, em := 0, lq := none, ln := 0, lc := 0 } : PS) = p0 at h
  have hpz0 : p0.pz = some ⟨pb, 0, none⟩ := by rw [← hp0]; exact hpz
  have hcs : p0.coreS = p.coreS := by rw [← hp0]; rfl
  suffices hat : AtI X σ b p0 raw L 0 0 [] from hat w p0 none 0 0 rfl (by rw [← hp0]) (by rw [← hp0]; rfl) h
  have hem : ∀ (e i : Nat) (ts : List Inl), e ≤ i → i ≤ raw.length → emitM raw e i ts = ts ++ (if sub raw e i = [] then [] else [.plain (sub raw e i)]) := by
    intro e i ts h1 h2
    have hsl := sub_length (s := raw) (i := e) (j := i) h2
    unfold emitM
    by_cases hei : e < i
    · rw [if_pos hei, if_neg (by intro h0; rw [h0] at hsl; simp at hsl; omega)]
    · rw [if_neg hei, if_pos (List.eq_nil_of_length_eq_zero (by omega)), List.append_nil]
  have key : ∀ (suf pre : List Tok) (e : Nat) (ts : List Inl), pre ++ suf = toks → e ≤ (tokB pre).length → ts.length ≤ pre.length * 2 → (∀ t, pre.getLast? = some t → ∀ s, suf.head? = some s → nlOK [t, s]) →
      ts ++ tokIn (sub raw e (tokB pre).length) suf = tokIn [] toks → AtI X σ b p0 raw L (tokB pre).length e ts := by
    intro suf
    induction suf with
    | nil =>
      intro pre e ts hpre he htsl _ hT
      rw [List.append_nil] at hpre
      subst hpre
      rw [hr] at he hT ⊢
      refine AtI.fin (ts' := tokIn [] pre) hXL (by omega) hpz0 ho hoff (by omega) ?_ ?_ ?_ ?_
      · rw [hem e raw.length ts he (Nat.le_refl _)]
        have : ts ++ (if sub raw e raw.length = [] then [] else [.plain (sub raw e raw.length)]) = tokIn [] pre := by rw [← hT]; rfl
        rw [this]
        refine emphOK_none fun t ht => ?_
        rcases tokIn_kinds _ _ t ht with ⟨s, _, rfl⟩ | ⟨s, rfl⟩ | rfl <;> exact ⟨by simp only [Inl.ty]; decide, by simp only [Inl.ty]; decide⟩
      · intro t ht s hs
        rcases tokIn_kinds _ _ t ht with ⟨s', hs', rfl⟩ | ⟨s', rfl⟩ | rfl
        · simp [Inl.plain?] at hs; subst hs; exact hs'
        · simp [Inl.plain?] at hs
        · simp [Inl.plain?] at hs
      · have := tokIn_plen pre []; simp at this; omega
      · intro w p' q n' c vs RM EM hp' hS hn' hI h
        rw [tokIn_merge] at hI
        have hP := inls_print _ _ _ hI (tokIn_ok pre [] (by simp; omega))
        have eo : outL (tokIn [] pre) = tokO pre := by rw [tokIn_out]; simp [escS]
        rw [eo] at hP
        exact hR w p' q n' c vs RM EM EM (hp'.trans hcs) hS hn' hP h
    | cons t suf ih =>
      intro pre e ts hpre he htsl hadj hT
      have hraw : raw = tokB pre ++ (t.bytes ++ tokB suf) := by rw [← hr, ← hpre, tokB_append, tokB_cons]
      have hl : raw.length = (tokB pre).length + (t.bytes.length + (tokB suf).length) := by rw [hraw]; simp
      have htm : t ∈ toks := by rw [← hpre]; simp
      have hokt := hok t htm
      have hpl : (tokB (pre ++ [t])).length = (tokB pre).length + t.bytes.length := by rw [tokB_append, tokB_cons]; simp [tokB]
      have hprel : pre.length + suf.length + 1 = toks.length := by rw [← hpre]; simp; omega
      have hnl2 : nlOK (t :: suf) := by
        have : ∀ (a b : List Tok), nlOK (a ++ b) → nlOK b := by
          intro a
          induction a with
          | nil => exact fun b h => h
          | cons x a iha => exact fun b h => iha b h.2.2
        exact this pre _ (by rw [hpre]; exact hnl)
      have hadj2 : ∀ t', (pre ++ [t]).getLast? = some t' → ∀ s, suf.head? = some s → nlOK [t', s] := by
        intro t' ht' s hs
        rw [List.getLast?_append] at ht'
        simp at ht'
        subst ht'
        cases suf with
        | nil => simp at hs
        | cons s' suf =>
          simp at hs; subst hs
          refine ⟨?_, ?_, ?_⟩
          · have := hnl2.1
            cases s' <;> cases t <;> first | trivial | exact this
          · have := hnl2.2.1
            cases s' <;> cases t <;> first | trivial | exact this
          · exact ⟨trivial, by cases s' <;> trivial, trivial⟩
      cases t with
      | lit c =>
        have hi : (tokB pre).length < raw.length := by rw [hl]; simp [Tok.bytes]; omega
        have hget : raw[(tokB pre).length] = c := by
          have := getD_mid (tokB pre) (tokB suf) c 0
          rw [show tokB pre ++ c :: tokB suf = raw by rw [hraw]; rfl] at this
          rw [getElem_getD hi 0]; exact this
        refine AtI.plain hXL hi (by omega) hpz0 ho (by rw [hget]; exact hokt.1) (by rw [hget]; exact hokt.2) ?_
        have := ih (pre ++ [.lit c]) e ts (by rw [← hpre]; simp) (by rw [hpl]; omega) (by simp; omega) hadj2 ?_
        · rw [hpl] at this; exact this
        · rw [hpl]
          have hs := sub_snoc (A := tokB pre) (B := tokB suf) (e := e) (Tok.lit c).bytes he
          rw [← hraw] at hs
          rw [hs]; exact hT
      | esc c =>
        have hi : (tokB pre).length < raw.length := by rw [hl]; simp [Tok.bytes]; omega
        have hraw' : raw = tokB pre ++ 92 :: c :: tokB suf := by rw [hraw]; rfl
        have hget : raw[(tokB pre).length] = 92 := by
          have := getD_mid (tokB pre) (c :: tokB suf) 92 0
          rw [← hraw'] at this
          rw [getElem_getD hi 0]; exact this
        refine AtI.leaf (Q := fun p p' => p' = p) (st := (tokB pre).length) (en := (tokB pre).length + 2) (t := .esc [c]) hXL hi (by omega) hpz0 ho (f := i_parseEscape) (by rw [hget]; rfl) (L0 := []) (by simp) (fun p _ _ => by rw [hraw']; exact escape_leaf hokt (by rw [← hraw']; omega)) rfl (by omega) (by omega) ?_
        have hlen2 : ∀ ts' : List Inl, ts'.length ≤ ts.length + 1 → ts'.length + 1 ≤ (pre.length + 1) * 2 := by intro ts' h'; omega
        have := ih (pre ++ [.esc c]) ((tokB pre).length + 2) (emitM raw e (tokB pre).length ts ++ [.esc [c]]) (by rw [← hpre]; simp) (by rw [hpl]; simp [Tok.bytes]) ?_ hadj2 ?_
        · rw [hpl] at this; exact this
        · have : (emitM raw e (tokB pre).length ts).length ≤ ts.length + 1 := by unfold emitM; split <;> simp
          simp only [List.length_append, List.length_singleton]; omega
        · rw [hpl, show (Tok.esc c).bytes.length = 2 from rfl, sub_self, hem e _ ts he (by omega)]
          rw [← hT]; simp [tokIn]
      | nl =>
        have hi : (tokB pre).length < raw.length := by rw [hl]; simp [Tok.bytes]; omega
        have hraw' : raw = tokB pre ++ 10 :: tokB suf := by rw [hraw]; rfl
        have hget : raw[(tokB pre).length] = 10 := by
          have := getD_mid (tokB pre) (tokB suf) 10 0
          rw [← hraw'] at this
          rw [getElem_getD hi 0]; exact this
        have hA : ∀ k, k + 1 = (tokB pre).length → isST ((tokB pre).getD k 0) = false := by
          intro k hk
          rcases List.eq_nil_or_concat pre with h0 | ⟨a, t', h0⟩
          · rw [h0] at hk; simp [tokB] at hk
          · rw [List.concat_eq_append] at h0
            have ha := (hadj t' (by rw [h0]; simp) .nl rfl).1
            rw [h0, tokB_append] at hk ⊢
            rw [List.length_append] at hk
            cases t' with
            | lit c =>
              have hk' : k = (tokB a).length := by simp [tokB, Tok.bytes] at hk ⊢; omega
              rw [hk', getD_app (Nat.le_refl _), Nat.sub_self]; exact ha
            | esc c =>
              have hk' : k = (tokB a).length + 1 := by simp [tokB, Tok.bytes] at hk ⊢; omega
              rw [hk', getD_app (by omega), show (tokB a).length + 1 - (tokB a).length = 1 by omega]; exact ha
            | nl =>
              have hk' : k = (tokB a).length := by simp [tokB, Tok.bytes] at hk ⊢; omega
              rw [hk', getD_app (Nat.le_refl _), Nat.sub_self]; decide
        have hB : 0 < (tokB suf).length → isST ((tokB suf).getD 0 0) = false := by
          intro _
          cases suf with
          | nil => decide
          | cons s suf =>
            cases s with
            | lit c => exact hnl2.2.1
            | esc c => rfl
            | nl => rfl
        refine AtI.leaf (Q := fun p p' => p' = p) (st := (tokB pre).length) (en := (tokB pre).length + 1) (t := .soft) hXL hi (by omega) hpz0 ho (f := i_parseBreak) (by rw [hget]; rfl) (L0 := []) (by simp) (fun p _ _ => by rw [hraw']; exact break_leaf hA hB (by rw [← hraw']; omega)) rfl (by omega) (by omega) ?_
        have := ih (pre ++ [.nl]) ((tokB pre).length + 1) (emitM raw e (tokB pre).length ts ++ [.soft]) (by rw [← hpre]; simp) (by rw [hpl]; simp [Tok.bytes]) ?_ hadj2 ?_
        · rw [hpl] at this; exact this
        · have : (emitM raw e (tokB pre).length ts).length ≤ ts.length + 1 := by unfold emitM; split <;> simp
          simp only [List.length_append, List.length_singleton]; omega
        · rw [hpl, show Tok.nl.bytes.length = 1 from rfl, sub_self, hem e _ ts he (by omega)]
          rw [← hT]; simp [tokIn]
  exact key toks [] 0 [] rfl (by simp) (by simp) (by simp) (by simp [tokB, sub_self])
end Go.Proofs.YtihmcipajjakgaaGreatDoor


set_option linter.unusedVariables false
namespace Go.Proofs.YtihmcipajjakgaaGreatDoor
open Go.Proofs Go.IntWalk Go.RowKit
variable {σ : Out} {w : World} {L L' : List Chunk} {R : Ending → World → Prop}
def SArg (σ : Out) (L : List Chunk) (q : Option Addr) (n : Nat) (ls : List (List UInt8)) : Prop :=
  n = ls.length ∧ ∀ i (hi : i < ls.length), ∃ a, q = some a ∧ ∀ w, Sat σ w L → w.cell? (a.add i) = some (.string (bs ls[i]))
theorem SArg.ofSl {q : Option Addr} {n c : Nat} {ts : List (List UInt8)} {M : List Chunk} (hS : Sl 1 ty_string q n c (sv ts) M) (hM : ∀ c ∈ M, c ∈ L) : SArg σ L q n ts := by
  have hl := hS.1
  rw [sv_length, Nat.mul_one] at hl
  refine ⟨hl.symm, fun i hi => ?_⟩
  obtain ⟨b, sp, rfl, rfl⟩ := hS.rowAt (by omega)
  refine ⟨_, rfl, fun w h => ?_⟩
  rw [Addr.add_lit, Nat.zero_add]
  exact Sat.ld h (hM _ (.head _)) (by rw [List.getElem?_append_left (by rw [sv_length]; exact hi), sv_get hi])
theorem SArg.mono {q : Option Addr} {n : Nat} {ls : List (List UInt8)} (h : SArg σ L q n ls) (hL : ∀ w, Sat σ w L' → Sat σ w L) : SArg σ L' q n ls :=
  ⟨h.1, fun i hi => by obtain ⟨a, h1, h2⟩ := h.2 i hi; exact ⟨a, h1, fun w hw => h2 w (hL w hw)⟩⟩
theorem specPunct_ok {c : UInt8} (hR : R (.returned (.bool (punB c))) w) : callE P i_spec_IsPunct #[.int .u8 (c.toNat : Int)] R w := by
  refine g_spec_IsPunct.sound ?_
  unfold g_spec_IsPunct
  unfold punB at hR
  rw [← u8_cle c 33, ← u8_cge c 47, ← u8_cle c 58, ← u8_cge c 64, ← u8_cle c 91, ← u8_cge c 96, ← u8_cle c 123, ← u8_cge c 126] at hR
  exact hR
def fullM (s : List UInt8) : Bool := !s.isEmpty && s.getD 0 0 != 32 && s.getD (s.length - 1) 0 != 32
theorem full_ok {s : List UInt8} (hs : s.length < 4611686018427387904) (hR : R (.returned (.bool (fullM s))) w) : callE P i_laws_full #[.string (bs s)] R w := by
  refine g_laws_full.sound ?_
  unfold g_laws_full
  cases s with
  | nil =>
    have e : ((bs []).toList == (ByteArray.mk #[]).toList) = true := by rw [bs_toList, mk_toList]; rfl
    rw [e]
    exact ⟨fun h => by simp at h, fun h => by simp at h, hR⟩
  | cons c t =>
    have e : ((bs (c :: t)).toList == (ByteArray.mk #[]).toList) = false := by rw [bs_toList, mk_toList]; rfl
    have hl : (c :: t).length = t.length + 1 := rfl
    have e1 : IntKind.i64.wrap (((bs (c :: t)).size : Int) - 1) = ((t.length : Nat) : Int) := by rw [bs_size, hl]; simp (disch := omega) only [i64_in]; omega
    have g1 : (bt (bs (c :: t)) 0 != 32) = (c != 32) := by
      rw [show (0 : Int) = ((0 : Nat) : Int) from rfl, bs_bt, bne, bne, u8b _ 32 32 rfl]; rfl
    have g2 : (bt (bs (c :: t)) ((t.length : Nat) : Int) != 32) = ((c :: t).getD t.length 0 != 32) := by rw [bs_bt, bne, bne, u8b _ 32 32 rfl]
    rw [e, e1, g1, g2]
    exact ⟨fun _ => ⟨by omega, by rw [bs_size, hl]; omega⟩, fun _ => ⟨by omega, by rw [bs_size, hl]; omega⟩, hR⟩
def prnB (c : UInt8) : Bool := decide (32 ≤ c.toNat) && decide (c.toNat ≤ 126)
def asciiM (s : List UInt8) (nl : Bool) : Bool := s.all fun c => prnB c || (nl && c == 10)
theorem ascii_ok {s : List UInt8} {nl : Bool} (hs : s.length < 4611686018427387904) (hR : R (.returned (.bool (asciiM s nl))) w) : callE P i_laws_ascii #[.string (bs s), .bool nl] R w := by
  refine g_laws_ascii.sound ?_
  intro X hX
  have key : ∀ k i, i + k = s.length → asciiM s nl = asciiM (s.drop i) nl → X (bs s) nl (i : Int) w := by
    intro k
    induction k with
    | zero =>
      intro i hi ha
      refine hX _ _ _ _ (br_false (by simp; omega) ?_)
      rw [List.drop_eq_nil_of_le (by omega)] at ha
      rw [ha] at hR; exact hR
    | succ k ih =>
      intro i hi ha
      have hil : i < s.length := by omega
      have hcons : asciiM (s.drop i) nl = ((prnB s[i] || (nl && s[i] == 10)) && asciiM (s.drop (i + 1)) nl) := by
        rw [List.drop_eq_getElem_cons hil]; rfl
      have e10 : (bt (bs s) (i : Int) == 10) = (s[i] == 10) := bt_beq hil 10 10 rfl
      have e1 : (decide (bt (bs s) (i : Int) < 32) || decide (bt (bs s) (i : Int) > 126)) = !prnB s[i] := by
        rw [bt_at hil, Bool.eq_iff_iff]
        simp only [prnB, Bool.or_eq_true, decide_eq_true_eq, Bool.not_eq_true', Bool.and_eq_false_iff, decide_eq_false_iff_not]
        omega
      refine hX _ _ _ _ (br_true (by simp; omega) ?_)
      rw [e1, e10]
      refine ⟨by omega, by simp; omega, fun _ => ⟨by omega, by simp; omega⟩, fun _ => ⟨by omega, by simp; omega⟩, ?_⟩
      cases hc : (prnB s[i] || (nl && s[i] == 10)) with
      | true =>
        refine br_false (by cases h1 : prnB s[i] <;> rw [h1] at hc <;> simp_all) ?_
        rw [i64_inc (by omega)]
        refine ih (i + 1) (by omega) ?_
        rw [ha, hcons, hc, Bool.true_and]
      | false =>
        refine br_true ?_ ?_
        · simp only [Bool.or_eq_false_iff] at hc
          rw [hc.1, hc.2]; rfl
        rw [ha, hcons, hc, Bool.false_and] at hR; exact hR
  exact key s.length 0 (by omega) (by rw [List.drop_zero])
def slashK (s : List UInt8) : List Tok := s.map fun c => if punB c then .esc c else .lit c
def slashT (s : List UInt8) : List UInt8 := tokB (slashK s)
theorem slashT_append (a b : List UInt8) : slashT (a ++ b) = slashT a ++ slashT b := by simp [slashT, slashK, tokB_append]
theorem slashT_one (c : UInt8) : slashT [c] = if punB c then [92, c] else [c] := by
  unfold slashT slashK
  cases h : punB c <;> simp [h, tokB, Tok.bytes]
theorem slashT_len (s : List UInt8) : (slashT s).length ≤ 2 * s.length := by
  induction s with
  | nil => simp [slashT, slashK, tokB]
  | cons c s ih =>
    rw [show c :: s = [c] ++ s from rfl, slashT_append, slashT_one, List.length_append]
    split <;> simp <;> omega
theorem run_build0 (w : World) : (Instr.buildSlice ty_S_uint8 0 #[]).run P w = .ok (.slice (some ⟨w.heap.size, 0, none⟩) 0 0) (w.alloc (.cells #[] ty_uint8)) := by
  have hi := rowU8.hi
  simp [Instr.buildSlice, run_underlying rowU8.ht, sizeOf, typeInfo, hi, Instr.fill, newRow]
  have e : ∀ f : Nat → Value, (Array.range 0).map f = #[] := fun f => Array.eq_empty_of_size_eq_zero (by simp)
  rw [e]
theorem slashed_ok {s : List UInt8} (hs : s.length < 1000000000) (h : Sat σ w L) (hR : ∀ w, Sat σ w L → R (.returned (.string (bs (slashT s)))) w) : callE P i_laws_slashed #[.string (bs s)] R w := by
  refine g_laws_slashed.sound ?_
  refine ⟨_, _, _, _, run_build0 w, ?_⟩
  have ha := h.alc [] ty_uint8
  have e3 : YtihmcipajjakgaaGreatDoor.alc w ([] : List Value).toArray ty_uint8 = w.alloc (.cells #[] ty_uint8) := rfl
  rw [e3] at ha
  generalize w.alloc (.cells #[] ty_uint8) = w1 at ha ⊢
  generalize w.heap.size = g at ha ⊢
  intro X hX
  have key : ∀ k i q c M w, i + k = s.length → By q (slashT (s.take i)).length c (slashT (s.take i)) M → Sat σ w (M ++ L) → X (bs s) q (slashT (s.take i)).length c (i : Int) w := by
    intro k
    induction k with
    | zero =>
      intro i q c M w hi hB h
      refine hX _ _ _ _ _ _ (br_false (by simp; omega) ?_)
      rw [List.take_of_length_le (by omega)] at hB ⊢
      exact ⟨_, _, hB.str h, hR w h.right⟩
    | succ k ih =>
      intro i q c M w hi hB h
      have hil : i < s.length := by omega
      have hlen := slashT_len (s.take i)
      rw [List.length_take] at hlen
      have hst : slashT (s.take (i + 1)) = slashT (s.take i) ++ slashT [s[i]] := by rw [List.take_succ_eq_append_getElem hil, slashT_append]
      refine hX _ _ _ _ _ _ (br_true (by simp; omega) ⟨by omega, by simp; omega, ?_⟩)
      rw [bt_at hil]
      refine specPunct_ok ⟨_, rfl, ?_⟩
      have k1 : ∀ q n c M w (l : List UInt8), n = l.length → By q n c l M → Sat σ w (M ++ L) → l ++ [s[i]] = slashT (s.take (i + 1)) → g_laws_slashed.k1 R X (bs s) q n c (i : Int) w := by
        intro q n c M w l hn hB h hl
        refine ⟨by omega, by simp; omega, ?_⟩
        rw [bt_at hil]
        have hll : l.length ≤ 2 * s.length := by
          have h1 := slashT_len (s.take (i + 1))
          rw [← hl, List.length_append, List.length_take] at h1
          simp at h1; omega
        refine By.app1 hB h s[i] (by omega) fun q' c' w' M' hB' h' => ?_
        rw [i64_inc (by omega)]
        have e : n + 1 = (slashT (s.take (i + 1))).length := by rw [← hl]; simp; omega
        rw [hl, e] at hB'
        rw [e]
        exact ih (i + 1) q' c' M' w' (by omega) hB' h'
      cases hp : punB s[i] with
      | true =>
        refine br_true rfl ?_
        refine By.app1 hB h 92 (by omega) fun q' c' w' M' hB' h' => ?_
        refine k1 q' _ c' M' w' (slashT (s.take i) ++ [92]) (by simp) hB' h' ?_
        rw [hst, slashT_one, hp]; simp
      | false =>
        refine br_false rfl ?_
        refine k1 q _ c M w (slashT (s.take i)) rfl hB h ?_
        rw [hst, slashT_one, hp]; simp
  exact key s.length 0 (some ⟨g, 0, none⟩) 0 [(g, cel [] ty_uint8)] w1 (by omega) ⟨by simp [slashT, slashK, tokB, bc], by simp [slashT, slashK, tokB], .inr ⟨g, [], rfl, by simp [slashT, slashK, tokB, bc], by simp [slashT, slashK, tokB, bc]⟩⟩ ha
theorem times_ok {s : List UInt8} {n : Nat} (hn : n < 1000000) (hs : s.length < 1000000) (hR : R (.returned (.string (bs (List.replicate n s).flatten))) w) : callE P i_laws_times #[.string (bs s), .int .i64 n] R w := by
  refine g_laws_times.sound ?_
  have hmax : IntKind.i64.max = 9223372036854775807 := rfl
  intro X hX
  have hfl : ∀ k, (List.replicate k s).flatten.length = k * s.length := by intro k; simp
  have key : ∀ k i, i + k = n → X (bs s) (bs (List.replicate i s).flatten) (n : Nat) (i : Int) w := by
    intro k
    induction k with
    | zero =>
      intro i hi
      obtain rfl : i = n := hi
      exact hX _ _ _ _ _ (br_false (by simp) hR)
    | succ k ih =>
      intro i hi
      have hm : i * s.length ≤ 1000000 * 1000000 := Nat.mul_le_mul (by omega) (by omega)
      refine hX _ _ _ _ _ (br_true (by simp; omega) ⟨?_, ?_⟩)
      · rw [hmax, bs_size, bs_size, hfl]; omega
      · rw [bs_append, i64_inc (by omega)]
        have e : (List.replicate i s).flatten ++ s = (List.replicate (i + 1) s).flatten := by rw [List.replicate_succ']; simp
        rw [e]
        exact ih (i + 1) (by omega)
  exact key n 0 (by omega)
theorem joinL_snoc (sep : List UInt8) (ls : List (List UInt8)) (l : List UInt8) : joinL sep (ls ++ [l]) = if ls = [] then l else joinL sep ls ++ (sep ++ l) := by
  cases ls with
  | nil => simp [joinL]
  | cons t ts => simp [joinL]
theorem joined_ok {q : Option Addr} {n c : Nat} {ls : List (List UInt8)} {sep : List UInt8} (hA : SArg σ L q n ls) (h : Sat σ w L) (hn : n < 1000000) (hb : (joinL sep ls).length < 1000000000) (hs : sep.length < 1000000)
    (hR : ∀ w, Sat σ w L → R (.returned (.string (bs (joinL sep ls)))) w) : callE P i_laws_joined #[.slice q n c, .string (bs sep)] R w := by
  refine g_laws_joined.sound ?_
  have hmax : IntKind.i64.max = 9223372036854775807 := rfl
  have hnl := hA.1
  intro X hX
  have hle : ∀ i, i ≤ ls.length → (joinL sep (ls.take i)).length ≤ (joinL sep ls).length := by
    intro i hi
    cases ls with
    | nil => simp [joinL]
    | cons t ts =>
      cases i with
      | zero => simp [joinL]
      | succ i =>
        simp only [List.take_succ_cons, joinL, List.length_append]
        have : (List.take i ts).flatMap (fun u => sep ++ u) ++ (List.drop i ts).flatMap (fun u => sep ++ u) = ts.flatMap (fun u => sep ++ u) := by
          rw [← List.flatMap_append, List.take_append_drop]
        have := congrArg List.length this
        rw [List.length_append] at this; omega
  have key : ∀ k i, i + k = n → X (bs sep) (bs (joinL sep (ls.take i))) q n c (n : Nat) (i : Int) w := by
    intro k
    induction k with
    | zero =>
      intro i hi
      refine hX _ _ _ _ _ _ _ _ (br_false (by simp; omega) ?_)
      rw [List.take_of_length_le (by omega)]; exact hR w h
    | succ k ih =>
      intro i hi
      have hil : i < ls.length := by omega
      obtain ⟨a, rfl, ha⟩ := hA.2 i hil
      have hst : joinL sep (ls.take (i + 1)) = if i = 0 then ls[i] else joinL sep (ls.take i) ++ (sep ++ ls[i]) := by
        rw [List.take_succ_eq_append_getElem hil, joinL_snoc]
        by_cases h0 : i = 0
        · subst h0; simp
        · rw [if_neg (by intro h1; have := congrArg List.length h1; rw [List.length_take, List.length_nil] at this; omega), if_neg h0]
      have hl1 := hle (i + 1) (by omega)
      have next := ih (i + 1) (by omega)
      refine hX _ _ _ _ _ _ _ _ (br_true (by simp; omega) ⟨by omega, by omega, nilP_some ?_⟩)
      rw [Int.toNat_natCast, Nat.mul_one]
      refine ⟨_, ha w h, ?_⟩
      by_cases h0 : i = 0
      · subst h0
        rw [if_pos rfl] at hst
        rw [hst] at hl1 next
        refine br_false rfl ⟨?_, ?_⟩
        · rw [hmax, bs_size, bs_size]
          show ((([] : List UInt8).length + ls[0].length : Nat) : Int) ≤ _
          simp only [List.length_nil]; omega
        · rw [bs_append, i64_inc (by omega)]
          simpa [joinL] using next
      · rw [if_neg h0] at hst
        rw [hst] at hl1 next
        simp only [List.length_append] at hl1
        refine br_true (by simp; omega) ⟨?_, ?_⟩
        · rw [hmax, bs_size, bs_size]
          have h3 := hle i (by omega)
          omega
        · refine ⟨?_, ?_⟩
          · rw [hmax, bs_append, bs_size, bs_size, List.length_append]; omega
          · rw [bs_append, bs_append, i64_inc (by omega), List.append_assoc]
            exact next
  exact key n 0 (by omega)
theorem fits2_ok {q : Option Addr} {n c : Nat} {ls : List (List UInt8)} (hA : SArg σ L q n ls) (h : Sat σ w L) (hR : (∀ l ∈ ls, l.length ≤ 2147483647) → R (.returned (.bool true)) w) (hF : R (.returned (.bool false)) w) :
    callE P i_laws_zzFits2 #[.slice q n c] R w := by
  refine g_laws_zzFits2.sound ?_
  have hnl := hA.1
  refine br_split (fun _ => hF) (fun hsz => ?_)
  simp only [decide_eq_false_iff_not] at hsz
  intro X hX
  have key : ∀ k i, i + k = n → (∀ j (hj : j < ls.length), j < i → ls[j].length ≤ 2147483647) → X q n c (n : Nat) (i : Int) w := by
    intro k
    induction k with
    | zero =>
      intro i hi ha
      refine hX _ _ _ _ _ _ (br_false (by simp; omega) (hR fun l hl => ?_))
      obtain ⟨j, hj, rfl⟩ := List.mem_iff_getElem.1 hl
      exact ha j hj (by omega)
    | succ k ih =>
      intro i hi ha
      have hil : i < ls.length := by omega
      obtain ⟨a, rfl, hc⟩ := hA.2 i hil
      refine hX _ _ _ _ _ _ (br_true (by simp; omega) ⟨by omega, by omega, nilP_some ?_⟩)
      rw [Int.toNat_natCast, Nat.mul_one]
      refine ⟨_, hc w h, br_split (fun _ => hF) (fun hf => ?_)⟩
      rw [i64_inc (by omega)]
      refine ih (i + 1) (by omega) fun j hj hji => ?_
      rcases Nat.lt_or_ge j i with h1 | h1
      · exact ha j hj h1
      · obtain rfl : j = i := by omega
        simp at hf; omega
  exact key n 0 (by omega) (fun j hj h0 => by omega)
theorem plainOpt_ok (h : Sat σ w L) (hR : ∀ w, Sat σ w L → R (.returned (optV optOff)) w) : callE P i_laws_plain #[] R w := by
  refine g_laws_plain.sound ?_
  refine Sat.bx h fun b1 w h => ?_
  repeat (first | refine nilP_some ?_ | refine h.tk fun w h => ?_ | refine ⟨_, h.ldA, ?_⟩ | refine ⟨_, _, _, h.ldA, ?_⟩ | refine h.stA 0 fun w h => ?_ | refine h.stA 1 fun w h => ?_ | refine h.stA 2 fun w h => ?_ | refine h.stA 3 fun w h => ?_ | refine h.stA 4 fun w h => ?_ | refine h.stA 5 fun w h => ?_ | refine h.stA 6 fun w h => ?_ | refine h.bx fun b0 w h => ?_)
  exact hR _ h.tail
end Go.Proofs.YtihmcipajjakgaaGreatDoor


set_option linter.unusedVariables false
namespace Go.Proofs.YtihmcipajjakgaaGreatDoor
open Go.Proofs Go.IntWalk Go.RowKit
variable {σ : Out} {w : World} {L L' : List Chunk} {R : Ending → World → Prop}
structure GoodL (s : List UInt8) : Prop where
  full : fullM s = true
  pr : ∀ c ∈ s, prnB c = true
  len : s.length ≤ 200
theorem byte_all {p : UInt8 → Bool} (h : (List.range 256).all (fun n => p (UInt8.ofNat n)) = true) (c : UInt8) : p c = true := by
  have hc := c.toNat_lt
  have := (List.all_eq_true.1 h) c.toNat (List.mem_range.2 hc)
  simpa using this
def litOK (c : UInt8) : Bool := (match parserOf optOff c with | .nil => true | _ => false) && c != 93 && c != 10 && c != 13 && c != 0 && c != 46 && c != 41 && (c == 32 || (!isST c && c != 91 && (digB c || plainStart c)))
theorem lit_all : (List.range 256).all (fun n => (!(prnB (UInt8.ofNat n)) || punB (UInt8.ofNat n) || litOK (UInt8.ofNat n))) = true := by kernel_rfl
theorem lit_of {c : UInt8} (h1 : prnB c = true) (h2 : punB c = false) : litOK c = true := by
  have := byte_all (p := fun c => (!(prnB c) || punB c || litOK c)) lit_all c
  simpa [h1, h2] using this
theorem pun_all : (List.range 256).all (fun n => (!(punB (UInt8.ofNat n)) || (!isST (UInt8.ofNat n) && UInt8.ofNat n != 10 && UInt8.ofNat n != 13 && UInt8.ofNat n != 0))) = true := by kernel_rfl
theorem pun_of {c : UInt8} (h : punB c = true) : isST c = false ∧ c ≠ 10 ∧ c ≠ 13 ∧ c ≠ 0 := by
  have := byte_all (p := fun c => (!(punB c) || (!isST c && c != 10 && c != 13 && c != 0))) pun_all c
  simpa [h, and_assoc] using this
theorem lit_facts {c : UInt8} (h1 : prnB c = true) (h2 : punB c = false) : parserOf optOff c = .nil ∧ c ≠ 93 ∧ c ≠ 10 ∧ c ≠ 13 ∧ c ≠ 0 ∧ c ≠ 46 ∧ c ≠ 41 ∧ (c = 32 ∨ (isST c = false ∧ c ≠ 91 ∧ (digB c = true ∨ plainStart c = true))) := by
  have := lit_of h1 h2
  simp only [litOK, Bool.and_eq_true, bne_iff_ne, ne_eq, Bool.or_eq_true, beq_iff_eq, Bool.not_eq_true'] at this
  obtain ⟨⟨⟨⟨⟨⟨⟨a1, a2⟩, a3⟩, a4⟩, a5⟩, a6⟩, a7⟩, a8⟩ := this
  refine ⟨?_, a2, a3, a4, a5, a6, a7, ?_⟩
  · revert a1
    cases parserOf optOff c <;> simp
  · rcases a8 with a8 | ⟨⟨b1, b2⟩, b3⟩
    · exact .inl a8
    · exact .inr ⟨b1, b2, b3⟩
theorem slashT_cons (c : UInt8) (s : List UInt8) : slashT (c :: s) = (if punB c then [92, c] else [c]) ++ slashT s := by
  rw [show c :: s = [c] ++ s from rfl, slashT_append, slashT_one]
theorem slashT_mem {s : List UInt8} (hp : ∀ c ∈ s, prnB c = true) : ∀ c ∈ slashT s, c ≠ 10 ∧ c ≠ 13 ∧ c ≠ 0 := by
  induction s with
  | nil => intro c hc; simp [slashT, slashK, tokB] at hc
  | cons x s ih =>
    intro c hc
    rw [slashT_cons, List.mem_append] at hc
    rcases hc with hc | hc
    · cases hx : punB x with
      | true =>
        rw [hx] at hc; simp at hc
        rcases hc with rfl | rfl
        · decide
        · exact (pun_of hx).2
      | false =>
        rw [hx] at hc; simp at hc; subst hc
        have := lit_facts (hp c (List.mem_cons_self ..)) hx
        exact ⟨this.2.2.1, this.2.2.2.1, this.2.2.2.2.1⟩
    · exact ih (fun d hd => hp d (List.mem_cons_of_mem _ hd)) c hc
theorem slash_num {s : List UInt8} (hp : ∀ c ∈ s, prnB c = true) : numNo (slashT s) := by
  induction s with
  | nil => exact ⟨by simp [slashT, slashK, tokB], by simp [slashT, slashK, tokB]⟩
  | cons x s ih =>
    have ih := ih (fun d hd => hp d (List.mem_cons_of_mem _ hd))
    unfold numNo at ih ⊢
    rw [slashT_cons]
    cases hx : punB x with
    | true =>
      have : (([92, x] : List UInt8) ++ slashT s).dropWhile digB = 92 :: x :: slashT s := List.dropWhile_cons_of_neg (by decide)
      simp only [if_true, this]
      exact ⟨by simp, by simp⟩
    | false =>
      simp only [Bool.false_eq_true, if_false]
      have f := lit_facts (hp x (List.mem_cons_self ..)) hx
      cases hd : digB x with
      | true => rw [List.singleton_append, List.dropWhile_cons_of_pos hd]; exact ih
      | false =>
        rw [List.singleton_append, List.dropWhile_cons_of_neg (by simp [hd])]
        simp only [List.head?_cons, ne_eq, Option.some.injEq]
        exact ⟨f.2.2.2.2.2.1, f.2.2.2.2.2.2.1⟩
theorem good_cons {s : List UInt8} (h : GoodL s) : ∃ c t, s = c :: t ∧ c ≠ 32 ∧ prnB c = true := by
  have hf := h.full
  cases s with
  | nil => simp [fullM] at hf
  | cons c t =>
    refine ⟨c, t, rfl, ?_, h.pr c (List.mem_cons_self ..)⟩
    simp [fullM] at hf
    exact hf.1
theorem good_last {s : List UInt8} (h : GoodL s) : ∃ m d, s = m ++ [d] ∧ d ≠ 32 ∧ prnB d = true := by
  obtain ⟨c, t, hs, _, _⟩ := good_cons h
  rcases List.eq_nil_or_concat s with h0 | ⟨m, d, h0⟩
  · rw [h0] at hs; cases hs
  · rw [List.concat_eq_append] at h0
    refine ⟨m, d, h0, ?_, h.pr d (by rw [h0]; simp)⟩
    have hf := h.full
    simp only [fullM, Bool.and_eq_true, bne_iff_ne, ne_eq] at hf
    have h2 := hf.2
    rw [h0, List.length_append, List.length_singleton, Nat.add_sub_cancel, getD_mid m [] d 0] at h2
    exact h2
theorem slash_first {s : List UInt8} (h : GoodL s) : ∃ c t, slashT s = c :: t ∧ isST c = false ∧ c ≠ 91 ∧ (digB c = true ∨ plainStart c = true) := by
  obtain ⟨c, t, rfl, h32, hp⟩ := good_cons h
  rw [slashT_cons]
  cases hx : punB c with
  | true => exact ⟨92, c :: slashT t, rfl, by decide, by decide, .inr (by decide)⟩
  | false =>
    have f := lit_facts hp hx
    rcases f.2.2.2.2.2.2.2 with f | f
    · exact absurd f h32
    · exact ⟨c, slashT t, rfl, f.1, f.2.1, f.2.2⟩
theorem slash_last {s : List UInt8} (h : GoodL s) : ∃ m d, slashT s = m ++ [d] ∧ isST d = false := by
  obtain ⟨m, d, rfl, h32, hp⟩ := good_last h
  rw [slashT_append, slashT_one]
  cases hx : punB d with
  | true => exact ⟨slashT m ++ [92], d, by simp, (pun_of hx).1⟩
  | false =>
    have f := lit_facts hp hx
    rcases f.2.2.2.2.2.2.2 with f | f
    · exact absurd f h32
    · exact ⟨slashT m, d, by simp, f.1⟩
theorem trim_of {s t m : List UInt8} {c d : UInt8} (h1 : s = c :: t) (h2 : s = m ++ [d]) (hc : isST c = false) (hd : isST d = false) : trimLR isST s = s := by
  unfold trimLR trimR
  have e : s.dropWhile isST = s := by rw [h1, List.dropWhile_cons_of_neg (by simp [hc])]
  rw [e, h2, List.reverse_append, List.reverse_singleton, List.singleton_append, List.dropWhile_cons_of_neg (by simp [hd])]
  simp
theorem slash_trim {s : List UInt8} (h : GoodL s) : trimLR isST (slashT s) = slashT s := by
  obtain ⟨c, t, h1, hc, _⟩ := slash_first h
  obtain ⟨m, d, h2, hd⟩ := slash_last h
  exact trim_of h1 h2 hc hd
theorem slashO (s : List UInt8) : tokO (slashK s) = escS htmlPs s := by
  induction s with
  | nil => rfl
  | cons c s ih =>
    have : slashK (c :: s) = (if punB c then .esc c else .lit c) :: slashK s := rfl
    rw [this, tokO_cons, ih, escS_cons]
    cases punB c <;> rfl
theorem slashK_ok {s : List UInt8} (hp : ∀ c ∈ s, prnB c = true) : ∀ t ∈ slashK s, t.ok optOff ∧ (∃ c, t = .lit c ∨ t = .esc c) := by
  intro t ht
  obtain ⟨c, hc, rfl⟩ := List.mem_map.1 ht
  cases hx : punB c with
  | true => exact ⟨hx, c, .inr rfl⟩
  | false =>
    have f := lit_facts (hp c hc) hx
    exact ⟨⟨f.1, f.2.1⟩, c, .inl rfl⟩
theorem nlOK_none : ∀ {ts : List Tok}, (∀ t ∈ ts, ∃ c, t = .lit c ∨ t = .esc c) → nlOK ts
  | [], _ => trivial
  | t :: ts, h => by
    have ih := nlOK_none (ts := ts) fun u hu => h u (List.mem_cons_of_mem _ hu)
    refine ⟨?_, ?_, ih⟩
    · cases ts with
      | nil => trivial
      | cons u ts =>
        obtain ⟨c, hc⟩ := h u (by simp)
        rcases hc with rfl | rfl <;> trivial
    · obtain ⟨c, hc⟩ := h t (by simp)
      rcases hc with rfl | rfl <;> trivial
theorem slash_inline {s : List UInt8} (h : GoodL s) : InlineOK optOff (slashT s) (ab (escS htmlPs s)) := by
  have hl := slashT_len s
  have h2 := h.len
  have := toks_inline (o := optOff) (toks := slashK s) rfl (fun t ht => (slashK_ok h.pr t ht).1) (nlOK_none fun t ht => (slashK_ok h.pr t ht).2) (by show (slashT s).length < _; omega) (slash_trim h) (by
    obtain ⟨c, t, rfl, _⟩ := good_cons h
    simp [slashK])
  rw [slashO] at this
  exact this
def unsl : List UInt8 → List UInt8
  | [] => []
  | [c] => [c]
  | c :: d :: s => if c = 92 then d :: unsl s else c :: unsl (d :: s)
theorem unsl_slash {s : List UInt8} : unsl (slashT s) = s := by
  induction s with
  | nil => rfl
  | cons c s ih =>
    rw [slashT_cons]
    cases hx : punB c with
    | true => simp [unsl, ih]
    | false =>
      have hc : c ≠ 92 := by rintro rfl; revert hx; decide
      simp only [Bool.false_eq_true, if_false, List.singleton_append]
      cases ht : slashT s with
      | nil => rw [ht] at ih; simp [unsl] at ih; subst ih; rfl
      | cons d t => rw [unsl, if_neg hc, ← ht, ih]
theorem slash_nl {s : List UInt8} (h : GoodL s) : noNL (slashT s) ∧ 0 ∉ slashT s ∧ slashT s ≠ [] := by
  have := slashT_mem h.pr
  obtain ⟨c, t, h1, _⟩ := slash_first h
  exact ⟨⟨fun hc => (this _ hc).1 rfl, fun hc => (this _ hc).2.1 rfl⟩, fun hc => (this _ hc).2.2 rfl, by rw [h1]; simp⟩
theorem slash_fin {s : List UInt8} (h : GoodL s) : Leaf.fin (.para [slashT s]) := by
  have hl := slashT_len s
  have h2 := h.len
  have h3 := slash_nl h
  obtain ⟨c, t, h1, h4, h5, _⟩ := slash_first h
  have e : joinL [10] [slashT s] = slashT s := by simp [joinL]
  refine ⟨by rw [e]; omega, by rw [e]; exact h3.2.2, ?_⟩
  rw [e, h1]
  have hn : isSTN c = false := by
    have h6 : c ≠ 10 := by rintro rfl; exact h3.1.1 (by rw [h1]; simp)
    simp only [isST, Bool.or_eq_false_iff] at h4
    simp only [isSTN, Bool.or_eq_false_iff]
    exact ⟨h4, by simpa using h6⟩
  rw [List.dropWhile_cons_of_neg (by simp [hn])]
  simpa using h5
theorem goodL_of {s : List UInt8} (h1 : fullM s = true) (h2 : asciiM s false = true) (h3 : s.length ≤ 200) : GoodL s := by
  refine ⟨h1, fun c hc => ?_, h3⟩
  have := (List.all_eq_true.1 h2) c hc
  simpa using this
theorem rep_flat (k : Nat) : (List.replicate k ([32] : List UInt8)).flatten = List.replicate k 32 := by
  induction k with
  | zero => rfl
  | succ k ih => rw [List.replicate_succ, List.flatten_cons, ih]; rfl
end Go.Proofs.YtihmcipajjakgaaGreatDoor


set_option linter.unusedVariables false
namespace Go.Proofs.YtihmcipajjakgaaGreatDoor
open Go.Proofs Go.IntWalk Go.RowKit
variable {σ : Out} {w : World} {L L' : List Chunk} {R : Ending → World → Prop}
def itLine (c : UInt8) (k : Nat) (s : List UInt8) : List UInt8 := c :: (List.replicate (k + 1) 32 ++ slashT s)
theorem slash_len {s : List UInt8} (h : GoodL s) : (slashT s).length ≤ 400 := by have := slashT_len s; have := h.len; omega
theorem itLine_len {c : UInt8} {k : Nat} {s : List UInt8} (h : GoodL s) (hk : k ≤ 3) : (itLine c k s).length < 1000 := by
  have := slash_len h
  simp [itLine]; omega
theorem itLine_bul {c nl : UInt8} {k : Nat} {s : List UInt8} (h : GoodL s) (hc : c = 45 ∨ c = 42 ∨ c = 43) (hk : k ≤ 3) : ∃ l2, BulL (lnOf (itLine c k s) nl) c (k + 2) l2 ∧ l2.rest = slashT s := by
  obtain ⟨d, t, hs, hst, _, hd⟩ := slash_first h
  have hcst : isST c = false := by rcases hc with rfl | rfl | rfl <;> decide
  have hlen := itLine_len (c := c) h hk
  have hlo : (lnOf (itLine c k s) nl).ok := lnOf_ok (by omega)
  have hh : (lnOf (itLine c k s) nl).has c (List.replicate (k + 1) 32 ++ d :: t) := ⟨hlo, rfl, by show (itLine c k s).drop 0 = _; unfold itLine; rw [hs]; rfl⟩
  obtain ⟨hb, h2⟩ := hh.bulletK hc hst hk
  have hdc : d ≠ 45 ∧ d ≠ 95 ∧ d ≠ 42 := by
    rcases hd with hd | hd
    · simp only [digB, Bool.and_eq_true, decide_eq_true_eq] at hd
      refine ⟨?_, ?_, ?_⟩ <;> (rintro rfl; revert hd; decide)
    · refine ⟨?_, ?_, ?_⟩ <;> (rintro rfl; revert hd; decide)
  refine ⟨_, ⟨⟨_, hh⟩, hc, hh.noHR hcst (m := c :: List.replicate (k + 1) 32) (d := d) (r2 := t) (by rfl) hst hdc, hb, ⟨d, t, h2, hst⟩, ?_⟩, ?_⟩
  · rcases hd with hd | hd
    · refine h2.digit (by show (itLine c k s).length < 1000000; omega) hd ?_
      rw [← hs]; exact slash_num h.pr
    · exact h2.plain hd
  · unfold Ln.rest
    rw [h2.tx, List.dropWhile_cons, hst, hs]
    rfl
def itStep (loose : Bool) : Nat := if loose then 2 else 1
def ItF (m : Nat) (x : List UInt8) (i : IT) : Prop := i.ok ∧ i.s = m ∧ i.e = m ∧ ∃ nb t s e, i.D = [paraDB nb t s e (slashT x)] ∧ s < 1000000000 ∧ e < 1000000000
def ItC (st : Nat) : Nat → List (List UInt8) → List IT → Prop
  | _, [], [] => True
  | m, x :: xs, i :: is => ItF m x i ∧ ItC st (m + st) xs is
  | _, _, _ => False
theorem ItC.snoc {st : Nat} {x : List UInt8} {i : IT} : ∀ {m : Nat} {xs : List (List UInt8)} {is : List IT}, ItC st m xs is → ItF (m + st * xs.length) x i → ItC st m (xs ++ [x]) (is ++ [i])
  | m, [], [], _, h2 => ⟨by simpa using h2, trivial⟩
  | m, y :: xs, j :: is, h, h2 => by
    refine ⟨h.1, ItC.snoc h.2 ?_⟩
    have e : m + st * (y :: xs).length = m + st + st * xs.length := by rw [List.length_cons, Nat.mul_add]; omega
    rw [← e]; exact h2
  | _, [], _ :: _, h, _ => h.elim
  | _, _ :: _, [], h, _ => h.elim
theorem ItC.len {st : Nat} : ∀ {m : Nat} {xs : List (List UInt8)} {is : List IT}, ItC st m xs is → is.length = xs.length
  | _, [], [], _ => rfl
  | _, _ :: xs, _ :: is, h => by simp [ItC.len h.2]
  | _, [], _ :: _, h => h.elim
  | _, _ :: _, [], h => h.elim
theorem ItC.txs {st : Nat} : ∀ {m : Nat} {xs : List (List UInt8)} {is : List IT}, ItC st m xs is → (txsC (is.map IT.db)).length = xs.length ∧ ∀ x ∈ txsC (is.map IT.db), ∃ s ∈ xs, x.raw = slashT s
  | _, [], [], _ => ⟨rfl, by simp [txsC]⟩
  | _, y :: xs, i :: is, h => by
    obtain ⟨a, c⟩ := ItC.txs h.2
    obtain ⟨_, _, _, nb, t, s, e, hD, _⟩ := h.1
    have e1 : txsC ((i :: is).map IT.db) = txsC i.D ++ txsC (is.map IT.db) := by simp [txsC, IT.db]
    have e2 : txsC i.D = [⟨t, s, e, slashT y⟩] := by rw [hD]; simp [txsC, paraDB]
    rw [e1, e2]
    refine ⟨by simp [a], fun x hx => ?_⟩
    rcases List.mem_append.1 hx with hx | hx
    · obtain rfl := List.mem_singleton.1 hx
      exact ⟨y, by simp, rfl⟩
    · obtain ⟨s, hs, hr⟩ := c x hx
      exact ⟨s, List.mem_cons_of_mem _ hs, hr⟩
  | _, [], _ :: _, h => h.elim
  | _, _ :: _, [], h => h.elim
def posP (d : DB) : Nat × Nat := match d.txs with | [x] => (x.s, x.e) | _ => (0, 0)
theorem ItC.facts {st : Nat} : ∀ {m : Nat} {xs : List (List UInt8)} {is : List IT}, ItC st m xs is → ∀ i ∈ is, i.ok ∧ ∀ d ∈ i.D, d.kindOK ∧ d.posIs (posP d).1 (posP d).2 ∧ (posP d).1 < 1000000000 ∧ (posP d).2 < 1000000000
  | _, [], [], _ => by simp
  | _, y :: xs, j :: is, h => by
    intro i hi
    rcases List.mem_cons.1 hi with rfl | hi
    · obtain ⟨ho, _, _, nb, t, s, e, hD, hs, he⟩ := h.1
      refine ⟨ho, fun d hd => ?_⟩
      rw [hD] at hd
      obtain rfl := List.mem_singleton.1 hd
      exact ⟨.inl ⟨_, _, _, _, _, rfl⟩, posIs_of pos_Paragraph rfl (.head _), hs, he⟩
    · exact ItC.facts h.2 i hi
  | _, [], _ :: _, h => h.elim
  | _, _ :: _, [], h => h.elim
theorem ItC.gap1 : ∀ {m : Nat} {xs : List (List UInt8)} {is : List IT}, ItC 1 m xs is → gapI posP is = false
  | _, [], [], _ => rfl
  | _, [x], [i], h => by
    obtain ⟨_, _, _, nb, t, s, e, hD, _⟩ := h.1
    simp [gapI, hD, gapD]
  | m, x :: x2 :: xs, i :: i2 :: is, h => by
    obtain ⟨_, _, he, nb, t, s, e, hD, _⟩ := h.1
    obtain ⟨_, hs2, _⟩ := h.2.1
    have ih := ItC.gap1 h.2
    simp only [gapI, hD, gapD, ih, Bool.or_false, decide_eq_false_iff_not]
    omega
  | _, [_], _ :: _ :: _, h => h.2.elim
  | _, _ :: _ :: _, [_], h => h.2.elim
  | _, [], _ :: _, h => h.elim
  | _, _ :: _, [], h => h.elim
theorem ItC.gap2 {m : Nat} {xs : List (List UInt8)} {is : List IT} (h : ItC 2 m xs is) (hl : 2 ≤ xs.length) : gapI posP is = true := by
  match xs, is, h, hl with
  | x :: x2 :: xs, i :: i2 :: is, h, _ =>
    obtain ⟨_, _, he, _⟩ := h.1
    obtain ⟨_, hs2, _⟩ := h.2.1
    simp only [gapI, Bool.or_eq_true, decide_eq_true_eq]
    left; omega
  | _ :: _ :: _, [_], h, _ => exact h.2.elim
  | _ :: _ :: _, [], h, _ => exact h.elim
theorem ItC.gap {loose : Bool} {m : Nat} {xs : List (List UInt8)} {is : List IT} (h : ItC (itStep loose) m xs is) (hl : 2 ≤ xs.length) : gapI posP is = loose := by
  cases loose with
  | true => exact ItC.gap2 h hl
  | false => exact ItC.gap1 h
def itemF (raw : List UInt8) : List UInt8 → List UInt8 := ab (escS htmlPs (unsl raw))
def itemOut (loose : Bool) (s : List UInt8) : List UInt8 := liO ++ (if loose then 10 :: pOpen else []) ++ escS htmlPs s ++ (if loose then pClose else []) ++ liC
theorem itemF_slash (s : List UInt8) : itemF (slashT s) = ab (escS htmlPs s) := by unfold itemF; rw [unsl_slash]
theorem compL_items (loose : Bool) : ∀ (xs : List (List UInt8)) (l : List UInt8), compL (xs.map fun s => ab (itemOut loose s)) l = l ++ xs.flatMap (itemOut loose)
  | [], l => by simp [compL]
  | x :: xs, l => by
    show compL (xs.map fun s => ab (itemOut loose s)) (ab (itemOut loose x) l) = _
    rw [compL_items loose xs]
    simp [ab]
theorem items_show : ∀ {loose : Bool} {st m : Nat} {xs : List (List UInt8)} {is is' : List IT}, ItC st m xs is → Tgh loose is is' → Show itemF (is'.map IT.db) (xs.map fun s => ab (itemOut loose s)) := by
  intro loose st m xs
  induction xs generalizing m with
  | nil =>
    intro is is' h ht
    cases is with
    | nil =>
      rcases ht with ⟨_, rfl⟩ | ⟨_, hr⟩
      · exact .nil
      · cases hr; exact .nil
    | cons i is => exact h.elim
  | cons x xs ih =>
    intro is is' h ht
    cases is with
    | nil => exact h.elim
    | cons i is =>
      obtain ⟨ho, _, _, nb, t, s, e, hD, _⟩ := h.1
      rcases ht with ⟨rfl, rfl⟩ | ⟨rfl, hr⟩
      · refine .cons ?_ (ih h.2 (.inl ⟨rfl, rfl⟩))
        have h1 : ShowT itemF i.D (fun l => itemF (slashT x) (l ++ pOpen) ++ pClose) := by
          rw [hD]; exact .one ⟨_, _, rfl⟩ paraDB_shows
        have := item_shows ho h1
        have e2 : (fun l => (fun l => itemF (slashT x) (l ++ pOpen) ++ pClose) (l ++ liO ++ itemHd (i.D.map DB.v)) ++ liC) = ab (itemOut true x) := by
          funext l
          rw [hD, itemF_slash]
          have : itemHd ([paraDB nb t s e (slashT x)].map DB.v) = [10] := by
            show itemHd [Value.iface ty_P_Paragraph (.pointer (some ⟨nb, 0, none⟩))] = [10]
            rw [itemHd_cons, show isText (.iface ty_P_Paragraph (.pointer (some ⟨nb, 0, none⟩))) = false from (by decide : Nat.beq ty_P_Paragraph ty_P_Text = false)]
            rfl
          rw [this]
          simp [ab, itemOut]
        show DB.shows itemF i.db (ab (itemOut true x))
        rw [← e2]; exact this
      · cases hr with
        | @cons _ i' _ is2 h1 h2 h3 =>
          refine .cons ?_ (ih h.2 (.inr ⟨rfl, h3⟩))
          have ed : i'.D = [tightDB (paraDB nb t s e (slashT x))] := by rw [h1]; show i.D.map tightDB = _; rw [hD]; rfl
          have hs1 : ShowT itemF i'.D (itemF (slashT x)) := by
            rw [ed]
            refine .one ?_ text_shows
            rw [tightDB_para]; exact ⟨_, _, rfl⟩
          have := item_shows h2 hs1
          have e2 : (fun l => itemF (slashT x) (l ++ liO ++ itemHd (i'.D.map DB.v)) ++ liC) = ab (itemOut false x) := by
            funext l
            rw [ed, itemF_slash, tightDB_para]
            have : itemHd ([(⟨.iface ty_P_Text (.pointer (some ⟨t, 0, none⟩)), [paraC nb s e t], [⟨t, s, e, slashT x⟩]⟩ : DB)].map DB.v) = [] := by
              show itemHd [Value.iface ty_P_Text (.pointer (some ⟨t, 0, none⟩))] = []
              rw [itemHd_cons, show isText (.iface ty_P_Text (.pointer (some ⟨t, 0, none⟩))) = true by simp [isText]]
              rfl
            rw [this]
            simp [ab, itemOut]
          show DB.shows itemF i'.db (ab (itemOut false x))
          rw [← e2]; exact this
end Go.Proofs.YtihmcipajjakgaaGreatDoor

