/- Part 6 of the proof of the law FnLabels: for every input the law returns true, the inputs read as they did, and memory that was there is as it was; under the conditions of the given row alone. -/
import Derived.Laws.StructEq
import Derived.Laws.IdiomStrings
import Derived.Test.YtejiaegiijokcaaGreatDoorA5
set_option linter.all false
set_option linter.unusedVariables false
namespace Go.Proofs.YtejiaegiijokcaaGreatDoor
open Go.Proofs Go.IntWalk Go.RowKit
variable {σ : Out} {w : World} {L L' : List Chunk} {R : Ending → World → Prop}
def emitX (s : List UInt8) (e i : Nat) : List Inl := if e < i then [.plain (sub s e i)] else []
theorem emitE_ok {b e i : Nat} {p : PS} {vs : List Value} {RM : List Chunk} (hS : Sl 1 ty_Inline p.lq p.ln p.lc vs RM) (h : Sat σ w (p.at b :: (RM ++ L))) (he : p.em = e) (hl : i ≤ p.s.length) (hn : vs.length < 1073741823)
    (hR : ∀ w (p' : PS) RM' xs XM, p'.core = p.core → p'.bt = p.bt → p'.em = ((max e i : Nat) : Int) → p'.corner = p.corner → Sl 1 ty_Inline p'.lq p'.ln p'.lc (vs ++ xs) RM' → InlsAt (emitX p.s e i) xs XM → Sat σ w (p'.at b :: (RM' ++ (XM ++ L))) → R (.returned (.tuple #[])) w) :
    callE P i_parseState_emit #[.pointer (some ⟨b, 0, none⟩), .int .i64 i] R w := by
  by_cases hi : e < i
  · have h : Sat σ w (p.at b :: RM ++ L) := h
    refine emit_ok h ⟨hS, by omega⟩ he hi hl (by omega) fun w p' M' nb hp' hS' h => ?_
    refine hR w p' M' _ [plainC nb (sub p.s e i)] (by rw [hp']; rfl) (by rw [hp']) (by rw [hp']; show ((i : Nat) : Int) = _; congr 1; omega) (by rw [hp']) hS'.1 ?_ ?_
    · unfold emitX; rw [if_pos hi]
      exact InlsAt.one ⟨nb, [], _, rfl, rfl⟩
    · have h : Sat σ w (p'.at b :: M' ++ (plainC nb (sub p.s e i) :: L)) := h
      exact h.re (by intro _; simp only [List.append_eq, cnt_append, cnt_cons, cnt_nil] <;> omega)
  · refine emit_no h (by rw [he]; omega) fun w h => ?_
    refine hR w p RM [] [] rfl rfl (by rw [he]; congr 1; omega) rfl (by rw [List.append_nil]; exact hS) ?_ h
    unfold emitX; rw [if_neg hi]; exact ⟨rfl, rfl⟩
def lnkC (lb : Nat) (inner : Value) (url title : List UInt8) (tc : UInt8) (cor : Bool) : Chunk := (lb, cel [inner, .string (bs url), .string (bs title), .int .u8 tc.toNat, .bool cor] ty_Link)
def CloseOK (b : Nat) (p : PS) (raw : List UInt8) (i : Nat) (t : List UInt8) (k : Nat) (L0 : List Chunk) (url title : List UInt8) (tc : UInt8) (cor : Bool) (en : Nat) : Prop :=
  ∀ (σ : Out) (R : Ending → World → Prop) (L : List Chunk) (w : World) (ob : Nat) (e : TypeId), (∀ c ∈ L0, c ∈ L) → (ob, cel [.string (bs t), .int .i64 k] e) ∈ L → p.at b ∈ L → Sat σ w L →
    (∀ w lb, Sat σ w (lnkC lb (.slice none 0 0) url title tc cor :: L) → R (.returned (.tuple #[.pointer (some ⟨lb, 0, none⟩), .int .i64 en, .bool true])) w) →
    callE P i_parseState_parseLinkClose #[.pointer (some ⟨b, 0, none⟩), .string (bs raw), .int .i64 i, .pointer (some ⟨ob, 0, none⟩)] R w
theorem Sl.shrink {sz : Nat} {e : TypeId} {q : Option Addr} {n c m : Nat} {vs : List Value} {M : List Chunk} (h : Sl sz e q n c vs M) (hm : m ≤ n) : Sl sz e q m c (vs.take (m * sz)) M := by
  obtain ⟨h1, h2, h3⟩ := h
  have hms : m * sz ≤ n * sz := Nat.mul_le_mul_right _ hm
  refine ⟨by rw [List.length_take]; omega, by omega, ?_⟩
  rcases h3 with ⟨rfl, rfl, rfl, rfl⟩ | ⟨b, sp, rfl, rfl, h4⟩
  · exact .inl ⟨rfl, by omega, rfl, rfl⟩
  · refine .inr ⟨b, vs.drop (m * sz) ++ sp, rfl, ?_, ?_⟩
    · rw [← List.append_assoc, List.take_append_drop]
    · rw [← List.append_assoc, List.take_append_drop]; exact h4
theorem ta_open1 {v : Value} (w : World) : (Instr.typeAssert (.iface ty_P_openPlain v) ty_Inline ty_P_openPlain false).run P w = .ok v w :=
  ta_yes1 (by rw [und_open]; intro ms h; cases h) und_open w
def closeI (img : Bool) (ks : List Inl) (url title : List UInt8) (tc : UInt8) (cor : Bool) : Inl := if img then .image ks url title tc cor else .link ks url title tc cor
theorem AtB.close {X : XI} {b pb i e en k : Nat} {p0 : PS} {raw : List UInt8} {ts1 ts2 : List Inl} {opens : List Nat} {lo : Int} {o : Opt} {t url title : List UInt8} {tc : UInt8} {cor img : Bool} {L0 : List Chunk} (hX : LoopB R X b raw) (hi : i < raw.length) (hs : raw.length < 1000000) (hc : raw[i] = 93)
    (hpz : p0.pz = some ⟨pb, 0, none⟩) (ho : o.at pb ∈ L) (hL0 : ∀ c ∈ L0, c ∈ L) (ht : t.getD 0 0 = (if img then 33 else 91)) (ht0 : t ≠ []) (hlo : img = true ∨ lo ≤ (k : Int)) (hurl : url.length < 1000000)
    (hclose : ∀ p : PS, p.coreS = p0.coreS → p.s = raw → CloseOK b p raw i t k L0 url title tc cor en) (hne : ts2 ++ emitX raw e i ≠ []) (hwf : wfE (ts2 ++ emitX raw e i)) (hap : apartE none (ts2 ++ emitX raw e i)) (hn : (ts1 ++ ts2).length < 1000000) (hon : opens.length < 1000000)
    (hnext : AtB X σ b p0 raw L en en (ts1 ++ [closeI img (emphM (ts2 ++ emitX raw e i)) url title tc cor]) opens (if img then lo else (k : Int))) :
    AtB X σ b p0 raw L i e (ts1 ++ .openP t k :: ts2) (opens ++ [ts1.length]) lo := by
  intro w p oq on oc hcS hraw he hI
  refine hX _ _ _ _ _ _ ?_
  obtain ⟨vs, RM, EM, OM, hS, hIn, hO, hlen, hsat⟩ := hI
  refine inl_dispatch (p := p) hi (by omega) (by rw [PS.pz_of hcS, hpz]) (.head _) (.tail _ (List.mem_append_right _ (List.mem_append_right _ (List.mem_append_right _ ho)))) hsat ?_
  rw [hc, show parserOf o 93 = .nil from rfl]
  refine inl_none ⟨by omega, by simp; omega, ?_⟩
  have hol := hO.1
  rw [List.length_map, List.length_append, List.length_singleton] at hol
  refine br_true (by rw [bt_beq hi 93 93 rfl, hc]; simp; omega) ?_
  have e1 : IntKind.i64.wrap ((on : Int) - 1) = ((opens.length : Nat) : Int) := by rw [show ((on : Int) - 1) = ((opens.length : Nat) : Int) by omega, i64_in _ (by omega)]
  rw [e1]
  refine ⟨by omega, by omega, ?_⟩
  have hsl := hS.1
  have hsc := hS.2.1
  have hIl := hIn.length
  simp only [List.length_append, List.length_cons] at hIl hn
  have hsat2 : Sat σ w (OM ++ (p.at b :: (RM ++ (EM ++ L)))) := hsat.re (by intro _; simp only [List.append_eq, cnt_append, cnt_cons, cnt_nil] <;> omega)
  refine hO.loadAt hsat2 (j := opens.length) (v := .int .i64 (ts1.length : Nat)) (by simp [List.map_append]) fun ob1 hq1 hc1 => ?_
  simp only [Addr.add_lit, Int.toNat_natCast, Nat.mul_one, Nat.zero_add]
  refine ⟨_, hc1, nilP_some ?_⟩
  have h := hsat
  refine ⟨_, _, _, Sat.ld h (by first | assumption | (repeat (first | exact .head _ | apply List.Mem.tail))) (by exact rfl), ?_⟩
  refine ⟨by omega, by omega, ?_⟩
  obtain ⟨vs1, v, vs2, M1, M2, M3, rfl, rfl, hI1, hIo, hI2⟩ := hIn.mid
  have hl1 := hI1.length
  have hIl2 := hI2.length
  have hvl : (vs1 ++ v :: vs2).length = vs1.length + (vs2.length + 1) := by simp
  obtain ⟨ob, oe, rfl, rfl⟩ := hIo
  have hsat3 : Sat σ w (RM ++ (p.at b :: ((M1 ++ ([(ob, cel [.string (bs t), .int .i64 k] oe)] ++ M3)) ++ (OM ++ L)))) := hsat.re (by intro _; simp only [List.append_eq, cnt_append, cnt_cons, cnt_nil] <;> omega)
  refine hS.loadAt hsat3 (j := ts1.length) (v := ptrV ty_P_openPlain ob) (by rw [List.getElem?_append_right (by omega), show ts1.length - vs1.length = 0 by omega]; rfl) fun rb hq2 hc2 => ?_
  simp only [Addr.add_lit, Int.toNat_natCast, Nat.mul_one, Nat.zero_add]
  refine ⟨_, hc2, _, _, ta_open1 w, _, _, _, _, sliceT rowInt.ht rowInt.hi oq on oc opens.length (by have := hO.2.1; omega) w, nilP_some ?_⟩
  have hmo : (ob, cel [.string (bs t), .int .i64 k] oe) ∈ p.at b :: (RM ++ ((M1 ++ ([(ob, cel [.string (bs t), .int .i64 k] oe)] ++ M3)) ++ (OM ++ L))) :=
    .tail _ (List.mem_append_right _ (List.mem_append_left _ (List.mem_append_right _ (List.mem_append_left _ (.head _)))))
  have hb0 : bt (bs t) 0 = ((t.getD 0 0).toNat : Int) := bs_bt t 0
  have htl : 0 < t.length := List.length_pos_iff.2 ht0
  refine ⟨_, Sat.ld h hmo rfl, by decide, by simp; omega, ?_⟩
  rw [hb0]
  have hOs := hO.shrink (m := opens.length) (by omega)
  rw [Nat.mul_one, List.map_append, List.take_left' (by simp)] at hOs
  have k8 : g_parseState_inline.k8 R X (some ⟨b, 0, none⟩) (bs raw) oq opens.length oc lo false (i : Int) (ts1.length : Int) (some ⟨ob, 0, none⟩) true w := by
    refine br_true rfl ?_
    have hcl := hclose p hcS hraw
    refine hcl σ _ _ w ob oe (fun c hc => .tail _ (List.mem_append_right _ (List.mem_append_right _ (List.mem_append_right _ (hL0 c hc))))) hmo (.head _) h fun w lb h => ⟨_, _, _, rfl, br_true rfl ?_⟩
    have k9 : ∀ w r, Sat σ w (({ p with corner := r } : PS).at b :: (lnkC lb (.slice none 0 0) url title tc cor :: (RM ++ ((M1 ++ ([(ob, cel [.string (bs t), .int .i64 k] oe)] ++ M3)) ++ (OM ++ L))))) →
        g_parseState_inline.k9 R X (some ⟨b, 0, none⟩) (bs raw) oq opens.length oc lo false (i : Int) (ts1.length : Int) (some ⟨ob, 0, none⟩) (some ⟨lb, 0, none⟩) (en : Int) w := by
      intro w r h
      generalize hp1 : ({ p with corner := r } : PS) = p1 at h
      have hS1 : Sl 1 ty_Inline p1.lq p1.ln p1.lc (vs1 ++ ptrV ty_P_openPlain ob :: vs2) RM := by rw [← hp1]; exact hS
      have hcS1 : p1.coreS = p0.coreS := by rw [← hp1]; exact hcS
      have hs1 : p1.s = raw := by rw [← hp1]; exact hraw
      have he1 : p1.em = (e : Int) := by rw [← hp1]; exact he
      have h : Sat σ w (p1.at b :: (RM ++ (lnkC lb (.slice none 0 0) url title tc cor :: ((M1 ++ ([(ob, cel [.string (bs t), .int .i64 k] oe)] ++ M3)) ++ (OM ++ L))))) := h.re (by intro _; simp only [List.append_eq, cnt_append, cnt_cons, cnt_nil] <;> omega)
      refine emitE_ok hS1 h he1 (by rw [hs1]; omega) (by simp only [List.length_append, List.length_cons]; omega) fun w p2 RM2 xs XM hp2 hbt2 he2 hco2 hS2 hX2 h => ⟨rfl, nilP_some ?_⟩
      rw [hs1] at hX2
      have hcS2 := PS.coreS_of hp2 hcS1
      have hs2 : p2.s = raw := by rw [← hs1]; have := congrArg PS.s hp2; exact this
      refine ⟨_, _, _, Sat.ld h (by first | assumption | (repeat (first | exact .head _ | apply List.Mem.tail))) (by exact rfl), ?_⟩
      have hsl2 := hS2.1
      have hsc2 := hS2.2.1
      have hxl := hX2.length
      have hI2x := hI2.append hX2
      have hI2l := hI2x.length
      have hpos : 0 < (ts2 ++ emitX raw e i).length := List.length_pos_iff.2 hne
      simp only [List.length_append, List.length_cons] at hsl2 hI2l hpos
      have hxn : (emitX raw e i).length ≤ 1 := by unfold emitX; split <;> simp
      rw [i64_inc (by omega)]
      refine ⟨_, _, _, _, sliceF rowInl.ht rowInl.hi p2.lq p2.ln p2.lc (ts1.length + 1) (by omega) w, ?_⟩
      rw [if_neg (by omega)]
      obtain ⟨_, _, ⟨_, h0, _⟩ | ⟨rb2, sp, hq2', hRM2, hsp⟩⟩ := hS2
      · omega
      rw [hq2']
      simp only [Option.map_some, Addr.add_lit, Nat.zero_add, rowInl.hs, Nat.mul_one]
      have hrow : vs1 ++ ptrV ty_P_openPlain ob :: vs2 ++ xs ++ sp = (vs1 ++ [ptrV ty_P_openPlain ob]) ++ ((vs2 ++ xs) ++ sp) := by simp
      rw [hrow] at hRM2 hsp
      have hD : DRow none 0 [] (vs2 ++ xs) 0 (some ⟨rb2, ts1.length + 1, none⟩) (p2.ln - (ts1.length + 1)) (p2.lc - (ts1.length + 1)) RM2 RM2 := by
        refine ⟨by simp; omega, by simp, .inr ⟨[], Sl.nil 1 ty_Inline, rfl, fun j v hv => ⟨rb2, _, (vs1 ++ [ptrV ty_P_openPlain ob]) ++ ((vs2 ++ xs) ++ sp), ty_Inline, rfl, by rw [hRM2]; exact .head _, ?_⟩⟩⟩
        rw [List.getElem?_append_right (by simp; omega), List.getElem?_append_left (by have := (List.getElem?_eq_some_iff.1 hv).1; simp at this ⊢; omega)]
        rw [← hv]; congr 1; simp; omega
      have h : Sat σ w (RM2 ++ ((M3 ++ XM) ++ (p2.at b :: (lnkC lb (.slice none 0 0) url title tc cor :: ((ob, cel [.string (bs t), .int .i64 k] oe) :: (M1 ++ (OM ++ L))))))) := h.re (by intro _; simp only [List.append_eq, cnt_append, cnt_cons, cnt_nil] <;> omega)
      refine emph_ok hD hI2x hwf hap (by omega) h fun w dq dc dvs DM RS hI3 hD3 hdl h => ⟨_, _, _, rfl, nilP_some ?_⟩
      obtain ⟨_, _, ⟨rb3, junk, sp3, _, hq3, _⟩ | ⟨DR, hSd, hRS, _⟩⟩ := hD3
      · simp at hq3
      subst hRS
      have h : Sat σ w (lnkC lb (.slice none 0 0) url title tc cor :: (DM ++ ((DR ++ RM2) ++ (p2.at b :: ((ob, cel [.string (bs t), .int .i64 k] oe) :: (M1 ++ (OM ++ L))))))) := h.re (by intro _; simp only [List.append_eq, cnt_append, cnt_cons, cnt_nil] <;> omega)
      refine Sat.st h (k := 0) rfl (Nat.le_of_ble_eq_true rfl) trivial (by first | (dsimp only [List.set]; exact rfl) | exact rfl) fun w h => ?_
      have h : Sat σ w (lnkC lb (.slice dq dvs.length dc) url title tc cor :: (DM ++ ((DR ++ RM2) ++ (p2.at b :: ((ob, cel [.string (bs t), .int .i64 k] oe) :: (M1 ++ (OM ++ L))))))) := h
      have hmo2 : (ob, cel [.string (bs t), .int .i64 k] oe) ∈ lnkC lb (.slice dq dvs.length dc) url title tc cor :: (DM ++ ((DR ++ RM2) ++ (p2.at b :: ((ob, cel [.string (bs t), .int .i64 k] oe) :: (M1 ++ (OM ++ L)))))) :=
        .tail _ (List.mem_append_right _ (List.mem_append_right _ (.tail _ (.head _))))
      refine nilP_some ⟨_, Sat.ld h hmo2 rfl, by decide, by simp; omega, ?_⟩
      rw [hb0]
      have h : Sat σ w ((rb2, cel ((vs1 ++ [ptrV ty_P_openPlain ob]) ++ ((vs2 ++ xs) ++ sp)) ty_Inline) :: (p2.at b :: ((ob, cel [.string (bs t), .int .i64 k] oe) :: (lnkC lb (.slice dq dvs.length dc) url title tc cor :: (DM ++ (DR ++ (M1 ++ (OM ++ L)))))))) := by rw [hRM2] at h; exact h.re (by intro _; simp only [List.append_eq, cnt_append, cnt_cons, cnt_nil] <;> omega)
      have k10 : ∀ w (ty : TypeId), Sat σ w ((rb2, cel ((vs1 ++ [ptrV ty lb]) ++ ((vs2 ++ xs) ++ sp)) ty_Inline) :: (p2.at b :: ((ob, cel [.string (bs t), .int .i64 k] oe) :: (lnkC lb (.slice dq dvs.length dc) url title tc cor :: (DM ++ (DR ++ (M1 ++ (OM ++ L)))))))) →
          InlAt (closeI img (emphM (ts2 ++ emitX raw e i)) url title tc cor) (ptrV ty lb) (lnkC lb (.slice dq dvs.length dc) url title tc cor :: (DR ++ DM)) →
          g_parseState_inline.k10 R X (some ⟨b, 0, none⟩) (bs raw) oq opens.length oc lo false (ts1.length : Int) (some ⟨ob, 0, none⟩) (en : Int) w := by
        intro w ty h hIL
        refine nilP_some ?_
        refine ⟨_, _, _, Sat.ld h (by first | assumption | (repeat (first | exact .head _ | apply List.Mem.tail))) (by exact rfl), ?_⟩
        rw [i64_inc (by omega)]
        refine ⟨_, _, _, _, sliceT rowInl.ht rowInl.hi p2.lq p2.ln p2.lc (ts1.length + 1) (by omega) w, nilP_some ?_⟩
        refine Sat.st h (k := 1) rfl (Nat.le_of_ble_eq_true rfl) trivial (by first | (dsimp only [List.set]; exact rfl) | exact rfl) fun w h => ?_
        let p3 : PS := { p2 with ln := ts1.length + 1 }
        have h : Sat σ w ((rb2, cel ((vs1 ++ [ptrV ty lb]) ++ ((vs2 ++ xs) ++ sp)) ty_Inline) :: (p3.at b :: ((ob, cel [.string (bs t), .int .i64 k] oe) :: (lnkC lb (.slice dq dvs.length dc) url title tc cor :: (DM ++ (DR ++ (M1 ++ (OM ++ L)))))))) := h
        have h : Sat σ w (p3.at b :: ((rb2, cel ((vs1 ++ [ptrV ty lb]) ++ ((vs2 ++ xs) ++ sp)) ty_Inline) :: ((ob, cel [.string (bs t), .int .i64 k] oe) :: (lnkC lb (.slice dq dvs.length dc) url title tc cor :: (DM ++ (DR ++ (M1 ++ (OM ++ L)))))))) := h.re (by intro _; simp only [List.append_eq, cnt_append, cnt_cons, cnt_nil] <;> omega)
        refine skipTo_ok h fun w h => ⟨rfl, nilP_some ?_⟩
        generalize hp4 : ({ p3 with em := (en : Int) } : PS) = p4 at h
        have hp4c : p4.core = p2.core := by rw [← hp4]; rfl
        have hII : ∀ w, Sat σ w (p4.at b :: ((rb2, cel ((vs1 ++ [ptrV ty lb]) ++ ((vs2 ++ xs) ++ sp)) ty_Inline) :: ((ob, cel [.string (bs t), .int .i64 k] oe) :: (lnkC lb (.slice dq dvs.length dc) url title tc cor :: (DM ++ (DR ++ (M1 ++ (OM ++ L)))))))) →
            IIn σ b p4 (ts1 ++ [closeI img (emphM (ts2 ++ emitX raw e i)) url title tc cor]) opens oq opens.length oc L w := by
          intro w h
          refine ⟨vs1 ++ [ptrV ty lb], [(rb2, cel ((vs1 ++ [ptrV ty lb]) ++ ((vs2 ++ xs) ++ sp)) ty_Inline)], M1 ++ (lnkC lb (.slice dq dvs.length dc) url title tc cor :: (DR ++ DM)), OM, ?_, hI1.append (InlsAt.one hIL), hOs, by simp; omega, ?_⟩
          · refine ⟨by rw [← hp4]; simp [p3]; omega, by rw [← hp4]; show ts1.length + 1 ≤ p2.lc; omega, .inr ⟨rb2, (vs2 ++ xs) ++ sp, by rw [← hp4]; exact hq2', rfl, ?_⟩⟩
            rw [← hp4]; show _ = p2.lc * 1
            simp only [List.length_append, List.length_singleton] at hsp ⊢; omega
          · exact h.less [(ob, cel [.string (bs t), .int .i64 k] oe)] (by intro _; simp only [List.append_eq, cnt_append, cnt_cons, cnt_nil] <;> omega)
        have hmo3 : (ob, cel [.string (bs t), .int .i64 k] oe) ∈ p4.at b :: ((rb2, cel ((vs1 ++ [ptrV ty lb]) ++ ((vs2 ++ xs) ++ sp)) ty_Inline) :: ((ob, cel [.string (bs t), .int .i64 k] oe) :: (lnkC lb (.slice dq dvs.length dc) url title tc cor :: (DM ++ (DR ++ (M1 ++ (OM ++ L))))))) := .tail _ (.tail _ (.head _))
        refine ⟨_, Sat.ld h hmo3 rfl, by decide, by simp; omega, ?_⟩
        rw [hb0]
        have hcS4 : p4.coreS = p0.coreS := PS.coreS_of hp4c hcS2
        have hs4 : p4.s = raw := by rw [← hp4]; exact hs2
        have he4 : p4.em = (en : Int) := by rw [← hp4]
        rcases Bool.eq_false_or_eq_true img with hg | hg
        · rw [hg] at ht hnext hII
          exact br_false (by rw [ht]; rfl) (hnext w p4 oq _ oc hcS4 hs4 he4 (hII w h))
        · rw [hg] at ht hnext hII
          exact br_true (by rw [ht]; rfl) (nilP_some ⟨_, Sat.ld h hmo3 rfl, hnext w p4 oq _ oc hcS4 hs4 he4 (hII w h)⟩)
      have eset : ∀ v : Value, ((vs1 ++ [ptrV ty_P_openPlain ob]) ++ ((vs2 ++ xs) ++ sp)).set ts1.length v = (vs1 ++ [v]) ++ ((vs2 ++ xs) ++ sp) := by
        intro v
        rw [← hl1, List.append_assoc, List.append_assoc, List.set_append_right _ _ (Nat.le_refl _), Nat.sub_self]; simp
      have hil : ts1.length < ((vs1 ++ [ptrV ty_P_openPlain ob]) ++ ((vs2 ++ xs) ++ sp)).length := by simp; omega
      rcases Bool.eq_false_or_eq_true img with hg | hg
      · refine br_true (by rw [ht, hg]; rfl) (nilP_some ?_)
        refine ⟨_, _, _, Sat.ld h (by first | assumption | (repeat (first | exact .head _ | apply List.Mem.tail))) (by exact rfl), ?_⟩
        refine ⟨by omega, by omega, ?_⟩
        rw [hq2']
        refine nilP_some ?_
        simp only [Addr.add_lit, Int.toNat_natCast, Nat.mul_one, Nat.zero_add, Nat.add_zero]
        refine Sat.st h (k := 0) rfl hil trivial rfl fun w h => ?_
        rw [eset] at h
        refine k10 w ty_P_Image h ?_
        rw [hg]
        exact ⟨lb, ty_Link, dq, dvs.length, dc, dvs, DR, DM, rfl, rfl, hSd, hI3⟩
      · refine br_false (by rw [ht, hg]; rfl) (nilP_some ?_)
        refine ⟨_, _, _, Sat.ld h (by first | assumption | (repeat (first | exact .head _ | apply List.Mem.tail))) (by exact rfl), ?_⟩
        refine ⟨by omega, by omega, ?_⟩
        rw [hq2']
        refine nilP_some ?_
        simp only [Addr.add_lit, Int.toNat_natCast, Nat.mul_one, Nat.zero_add, Nat.add_zero]
        refine Sat.st h (k := 0) rfl hil trivial rfl fun w h => ?_
        rw [eset] at h
        refine k10 w ty_P_Link h ?_
        rw [hg]
        exact ⟨lb, ty_Link, dq, dvs.length, dc, dvs, DR, DM, rfl, rfl, hSd, hI3⟩
    have fin : ∀ w r, Sat σ w (lnkC lb (.slice none 0 0) url title tc cor :: (({ p with corner := r } : PS).at b :: (RM ++ ((M1 ++ ([(ob, cel [.string (bs t), .int .i64 k] oe)] ++ M3)) ++ (OM ++ L))))) →
        g_parseState_inline.k9 R X (some ⟨b, 0, none⟩) (bs raw) oq opens.length oc lo false (i : Int) (ts1.length : Int) (some ⟨ob, 0, none⟩) (some ⟨lb, 0, none⟩) (en : Int) w := fun w r h => k9 w r h.up1
    refine nilP_some ⟨p.corner, Sat.ld h (.tail _ (.head _)) rfl, br_split (fun _ => nilP_some ?_) (fun _ => ?_)⟩
    · refine Sat.st h (k := 1) rfl (Nat.le_of_ble_eq_true rfl) trivial (by first | (dsimp only [List.set]; exact rfl) | exact rfl) fun w h => ?_
      exact fin _ true h
    · refine nilP_some ⟨cor, Sat.ld h (.head _) rfl, br_split (fun _ => nilP_some ?_) (fun _ => ?_)⟩
      · refine Sat.st h (k := 1) rfl (Nat.le_of_ble_eq_true rfl) trivial (by first | (dsimp only [List.set]; exact rfl) | exact rfl) fun w h => ?_
        exact fin _ true h
      · refine nilP_some ⟨bs url, Sat.ld h (.head _) rfl, ?_⟩
        refine linkCorner_ok (by omega) fun r => ⟨_, rfl, nilP_some ?_⟩
        refine Sat.st h (k := 1) rfl (Nat.le_of_ble_eq_true rfl) trivial (by first | (dsimp only [List.set]; exact rfl) | exact rfl) fun w h => ?_
        exact fin _ r h
  rcases Bool.eq_false_or_eq_true img with hg | hg
  · exact br_true (by rw [ht, hg]; rfl) k8
  · refine br_false (by rw [ht, hg]; rfl) (nilP_some ⟨_, Sat.ld h hmo rfl, ?_⟩)
    rw [decide_eq_true (hlo.resolve_left (by rw [hg]; decide))]
    exact k8
end Go.Proofs.YtejiaegiijokcaaGreatDoor


set_option linter.unusedVariables false
namespace Go.Proofs.YtejiaegiijokcaaGreatDoor
open Go.Proofs Go.IntWalk Go.RowKit
variable {σ : Out} {w : World} {L L' : List Chunk} {R : Ending → World → Prop}
def plainO : Inl → Inl
  | .openP s _ => .plain s
  | t => t
def noRun : Inl → Bool
  | .emphP _ _ _ _ _ => false
  | _ => true
theorem emphGo_noRun : ∀ (ts : List Inl) (dst : List Inl) (st : List (List Nat)), (∀ t ∈ ts, noRun t = true) → emphGo dst st ts = dst ++ ts.map plainO
  | [], dst, st, _ => by simp [emphGo]
  | t :: ts, dst, st, h => by
    have ih := fun d s => emphGo_noRun ts d s (fun t' ht' => h t' (List.mem_cons_of_mem _ ht'))
    have ht := h t (.head _)
    cases t <;> first | (simp [noRun] at ht; done) | (simp only [emphGo, ih, plainO, List.map_cons, List.append_assoc, List.singleton_append])
theorem emphM_noRun {ts : List Inl} (h : ∀ t ∈ ts, noRun t = true) : emphM ts = ts.map plainO := by
  unfold emphM; rw [emphGo_noRun ts [] _ h]; rfl
theorem wfE_noRun {ts : List Inl} (h : ∀ t ∈ ts, noRun t = true) : wfE ts := by
  intro s co cc i n hm
  have := h _ hm
  simp [noRun] at this
theorem apartE_noRun : ∀ {ts : List Inl}, (∀ t ∈ ts, noRun t = true) → apartE none ts
  | [], _ => trivial
  | t :: ts, h => by
    have ih := apartE_noRun (ts := ts) (fun t' ht' => h t' (List.mem_cons_of_mem _ ht'))
    have ht := h t (.head _)
    have : headOf t = none := by cases t <;> first | (simp [noRun] at ht; done) | rfl
    exact ⟨.inl rfl, by rw [this]; exact ih⟩
theorem emphOK_noRun {ts : List Inl} (h : ∀ t ∈ ts, noRun t = true) (hts : ts.length < 999999990) : EmphOK ts (ts.map plainO) := by
  have := emphOK_gen (wfE_noRun h) (apartE_noRun h) hts
  rw [emphM_noRun h] at this; exact this
end Go.Proofs.YtejiaegiijokcaaGreatDoor


set_option linter.unusedVariables false
namespace Go.Proofs.YtejiaegiijokcaaGreatDoor
open Go.Proofs Go.IntWalk Go.RowKit
variable {σ : Out} {w : World} {L L' : List Chunk} {R : Ending → World → Prop}
theorem pastSTN_here {s : List UInt8} {i : Nat} (hi : i < s.length) (h : isSTN (s.getD i 0) = false) : pastSTN s i = i := by
  unfold pastSTN
  rw [List.drop_eq_getElem_cons hi, List.dropWhile_cons_of_neg (by rw [getElem_getD hi 0, h]; decide)]
  simp; omega
theorem pastSTN_one {s : List UInt8} {i : Nat} (hi : i + 1 < s.length) (h0 : isSTN (s.getD i 0) = true) (h : isSTN (s.getD (i + 1) 0) = false) : pastSTN s i = i + 1 := by
  unfold pastSTN
  rw [List.drop_eq_getElem_cons (by omega), List.dropWhile_cons_of_pos (by rw [getElem_getD (by omega) 0, h0]), List.drop_eq_getElem_cons hi, List.dropWhile_cons_of_neg (by rw [getElem_getD hi 0, h]; decide)]
  simp; omega
theorem mdUnescape_plain {s : List UInt8} (hs : s.length < 4611686018427387904) (h1 : (92 : UInt8) ∉ s) (h2 : (38 : UInt8) ∉ s) (hR : R (.returned (.string (bs s))) w) : callE P i_mdUnescape #[.string (bs s)] R w := by
  refine g_mdUnescape.sound ?_
  refine zzContains_ok (sub := [92]) hs (by decide) ⟨_, rfl, br_true (by rw [idx_none h1]; rfl) ?_⟩
  exact zzContains_ok (sub := [38]) hs (by decide) ⟨_, rfl, br_true (by rw [idx_none h2]; rfl) hR⟩
def destB (c : UInt8) : Bool := c != 40 && c != 41 && c != 92 && c != 32 && c != 9 && c != 10 && c != 38 && c != 60
theorem getD_at {A B : List UInt8} {i : Nat} (h : A.length = i) (k : Nat) : (A ++ B).getD (i + k) 0 = B.getD k 0 := by
  subst h; rw [getD_app (by omega), Nat.add_sub_cancel_left]
end Go.Proofs.YtejiaegiijokcaaGreatDoor


set_option linter.unusedVariables false
namespace Go.Proofs.YtejiaegiijokcaaGreatDoor
open Go.Proofs Go.IntWalk Go.RowKit
variable {σ : Out} {w : World} {L L' : List Chunk} {R : Ending → World → Prop}
theorem trimSTN_self {s : List UInt8} (hs : s.length < 4611686018427387904) (h0 : s ≠ []) (h1 : isSTN (s.getD 0 0) = false) (h2 : isSTN (s.getD (s.length - 1) 0) = false) (hR : R (.returned (.string (bs s))) w) : callE P i_trimSpaceTabNewline #[.string (bs s)] R w := by
  have hp := List.length_pos_iff.2 h0
  have nn : ∀ c : UInt8, isSTN c = false → ((((c.toNat : Int) == 32) || ((c.toNat : Int) == 9)) || ((c.toNat : Int) == 10)) = false := by
    intro c hc
    have a := u8_beq c 32; have b := u8_beq c 9; have d := u8_beq c 10
    rw [show ((c.toNat : Int) == 32) = (c == 32) from a, show ((c.toNat : Int) == 9) = (c == 9) from b, show ((c.toNat : Int) == 10) = (c == 10) from d]
    exact hc
  refine g_trimSpaceTabNewline.sound ?_
  intro X hX
  refine hX _ _ _ ⟨fun _ => ⟨by omega, by simp; omega⟩, fun _ => ⟨by omega, by simp; omega⟩, fun _ => ⟨by omega, by simp; omega⟩, ?_⟩
  rw [show (0 : Int) = ((0 : Nat) : Int) from rfl, bs_bt, nn _ h1]
  refine br_false (Bool.and_false _) ⟨by omega, by simp, ?_⟩
  rw [Int.toNat_natCast, bs_extract, bs_size, List.take_length, List.drop_zero, bs_size]
  intro Y hY
  have e1 : IntKind.i64.wrap ((s.length : Int) - 1) = ((s.length - 1 : Nat) : Int) := by rw [show ((s.length : Int) - 1) = ((s.length - 1 : Nat) : Int) by omega, i64_in _ (by omega)]
  refine hY _ _ _ ?_
  unfold g_trimSpaceTabNewline.bl2
  rw [e1, bs_bt, nn _ h2]
  refine ⟨fun _ => ⟨by omega, by simp; omega⟩, fun _ => ⟨by omega, by simp; omega⟩, fun _ => ⟨by omega, by simp; omega⟩, br_false (Bool.and_false _) ⟨by omega, by simp, ?_⟩⟩
  rw [Int.toNat_natCast, bs_extract, List.take_length, List.drop_zero]
  exact hR
end Go.Proofs.YtejiaegiijokcaaGreatDoor


set_option linter.unusedVariables false
namespace Go.Proofs.YtejiaegiijokcaaGreatDoor
open Go.Proofs Go.IntWalk Go.RowKit
variable {σ : Out} {w : World} {L L' : List Chunk} {R : Ending → World → Prop}
abbrev RefE := List UInt8 × Nat × List UInt8
def refC (e : RefE) : Chunk := lnkC e.2.1 (.slice none 0 0) e.2.2 [] 0 false
def refK (ents : List RefE) : List (List UInt8 × Nat) := ents.map fun e => (e.1, e.2.1)
def RefsAt (lk : Option Nat) (ents : List RefE) (M : List Chunk) : Prop :=
  (lk = none ∧ ents = [] ∧ M = []) ∨ ∃ m es clock, lk = some m ∧ esOK es (refK ents) ∧ M = (m, .map es clock) :: ents.map refC
theorem RefsAt.nil : RefsAt none [] [] := .inl ⟨rfl, rfl, rfl⟩
theorem refs_lookup {lk : Option Nat} {ents : List RefE} {M : List Chunk} (hM : RefsAt lk ents M) (hML : ∀ c ∈ M, c ∈ L) (h : Sat σ w L) (k : List UInt8) (ok : Bool) :
    (Instr.lookup ty_map_string_P_Link (.map lk) (.string (bs k)) ok).run P w = .ok (if ok then .tuple #[.pointer ((findK k (refK ents)).map fun lb => ⟨lb, 0, none⟩), .bool (findK k (refK ents)).isSome] else .pointer ((findK k (refK ents)).map fun lb => ⟨lb, 0, none⟩)) w := by
  rcases hM with ⟨rfl, rfl, rfl⟩ | ⟨m, es, clock, rfl, he, rfl⟩
  · have := lookup_nil k ok w
    simpa [refK, findK] using this
  · have hb := h.at_ _ (hML _ (.head _))
    cases hk : findK k (refK ents) with
    | none => exact lookup_no hb he hk ok
    | some lb => exact lookup_yes hb he hk ok
theorem link_ok {b : Nat} {p : PS} {ents : List RefE} {M : List Chunk} {k : List UInt8} (hM : RefsAt p.links ents M) (hML : ∀ c ∈ M, c ∈ L) (hp : p.at b ∈ L) (h : Sat σ w L) (hR : R (.returned (.pointer ((findK k (refK ents)).map fun lb => ⟨lb, 0, none⟩))) w) :
    callE P i_parseState_link #[.pointer (some ⟨b, 0, none⟩), .string (bs k)] R w := by
  refine g_parseState_link.sound ?_
  refine nilP_some ⟨p.links, Sat.ld h hp rfl, _, _, refs_lookup hM hML h k false, hR⟩
theorem defineLink_ok {b lb : Nat} {p : PS} {ents : List RefE} {M : List Chunk} {k url : List UInt8} (hM : RefsAt p.links ents M) (hk : findK k (refK ents) = none) (h : Sat σ w (p.at b :: (M ++ (lnkC lb (.slice none 0 0) url [] 0 false :: L))))
    (hR : ∀ w m M', RefsAt (some m) (ents ++ [(k, lb, url)]) M' → Sat σ w (({ p with links := some m } : PS).at b :: (M' ++ L)) → R (.returned (.tuple #[])) w) :
    callE P i_parseState_defineLink #[.pointer (some ⟨b, 0, none⟩), .string (bs k), .pointer (some ⟨lb, 0, none⟩)] R w := by
  refine g_parseState_defineLink.sound ?_
  refine nilP_some ⟨p.links, Sat.ld h (.head _) rfl, p.links.isNone, w, ?_, ?_⟩
  · exact bin_eql rfl rfl (run_equal_map_nil w _ _ _ _ und_map)
  have fin : ∀ w m es clock (p1 : PS), p1 = { p with links := some m } → esOK es (refK ents) → Sat σ w (p1.at b :: (m, .map es clock) :: (ents.map refC ++ (lnkC lb (.slice none 0 0) url [] 0 false :: L))) → g_parseState_defineLink.k1 R (some ⟨b, 0, none⟩) (bs k) (some ⟨lb, 0, none⟩) w := by
    intro w m es clock p1 hp1 he h
    have hb := h.at_ _ (.tail _ (.head _))
    obtain ⟨es', clock', hrun, he'⟩ := update_new (lb := lb) hb he hk
    have hlk : p1.links = some m := by rw [hp1]
    refine nilP_some ⟨p1.links, Sat.ld h (.head _) rfl, _, by rw [hlk]; exact hrun, ?_⟩
    have h2 := h.setO (k := 1) (.map es' clock') rfl
    refine hR _ m ((m, .map es' clock') :: (ents ++ [(k, lb, url)]).map refC) (.inr ⟨m, es', clock', rfl, by simpa [refK] using he', rfl⟩) ?_
    rw [← hp1]
    have h2 : Sat σ _ (p1.at b :: (m, .map es' clock') :: (ents.map refC ++ (lnkC lb (.slice none 0 0) url [] 0 false :: L))) := h2
    rw [List.map_append]
    exact h2.re (by
      intro _
      simp only [List.append_eq, cnt_append, cnt_cons, cnt_nil, List.map_cons, List.map_nil, refC]
      omega)
  rcases hM with ⟨hlk, rfl, rfl⟩ | ⟨m, es, clock, hlk, he, rfl⟩
  · refine br_true (by rw [hlk]; rfl) ?_
    refine ⟨_, _, run_makeMap _ w, nilP_some ?_⟩
    have h2 := h.alO (.map #[] 0)
    generalize w.alloc (.map #[] 0) = w2 at h2 ⊢
    generalize w.heap.size = m at h2 ⊢
    have h : Sat σ w2 (p.at b :: (m, .map #[] 0) :: (lnkC lb (.slice none 0 0) url [] 0 false :: L)) := h2.up1
    refine Sat.st h (k := 0) rfl (Nat.le_of_ble_eq_true rfl) trivial (by first | (dsimp only [List.set]; exact rfl) | exact rfl) fun w h => ?_
    have h : Sat σ w (({ p with links := some m } : PS).at b :: (m, .map #[] 0) :: (List.map refC [] ++ (lnkC lb (.slice none 0 0) url [] 0 false :: L))) := h
    exact fin w m #[] 0 _ rfl rfl h
  · refine br_false (by rw [hlk]; rfl) ?_
    have e : p = { p with links := some m } := by rw [← hlk]
    exact fin w m es clock p e he h
def lowC (c : UInt8) : UInt8 := if 65 ≤ c.toNat ∧ c.toNat ≤ 90 then c + 32 else c
def normGo : Bool → List UInt8 → List UInt8
  | _, [] => []
  | sp, c :: s => if isSTN c = true then normGo true s else (if sp = true then [32] else []) ++ lowC c :: normGo false s
theorem lowC_int {c : UInt8} (h : 65 ≤ c.toNat ∧ c.toNat ≤ 90) : IntKind.u8.wrap ((c.toNat : Int) + 32) = ((lowC c).toNat : Int) := by
  unfold lowC
  rw [if_pos h, u8_in _ (by omega)]
  have : (c + 32).toNat = c.toNat + 32 := by
    rw [UInt8.toNat_add]
    show (c.toNat + 32) % 256 = _
    omega
  rw [this]; omega
theorem normalizeLabel_ok {s : List UInt8} (hs : s.length < 100000) (h91 : (91 : UInt8) ∉ s) (h93 : (93 : UInt8) ∉ s) (h0 : s ≠ []) (h1 : isSTN (s.getD 0 0) = false) (h2 : isSTN (s.getD (s.length - 1) 0) = false) (h : Sat σ w L)
    (hR : ∀ w, Sat σ w L → R (.returned (.string (bs (normGo false s)))) w) : callE P i_normalizeLabel #[.string (bs s)] R w := by
  refine g_normalizeLabel.sound ?_
  refine zzContains_ok (sub := [91]) (by omega) (by decide) ⟨_, rfl, br_false (by rw [idx_none h91]; rfl) ?_⟩
  refine zzContains_ok (sub := [93]) (by omega) (by decide) ⟨_, rfl, br_false (by rw [idx_none h93]; rfl) ?_⟩
  refine trimSTN_self (by omega) h0 h1 h2 ⟨_, rfl, ?_⟩
  refine Sat.bx h fun b w h => ?_
  intro X hX
  have key : ∀ (rest : List UInt8) (i : Nat) (sp : Bool) (acc : List UInt8) (g hi : Bool) M w, s.drop i = rest → i ≤ s.length → acc.length ≤ 2 * i → Bld b g acc M → Sat σ w (M ++ L) → acc ++ normGo sp rest = normGo false s →
      X (bs s) b sp hi (i : Int) w := by
    intro rest
    induction rest with
    | nil =>
      intro i sp acc g hi M w hd hi2 hal hB h he
      have hlen : s.length ≤ i := by simpa using hd
      refine hX _ _ _ _ _ _ (br_false (by simp; omega) ?_)
      simp only [normGo, List.append_nil] at he
      rw [he] at hB
      exact bldStr_ok hB h (by rw [← he]; omega) fun w h => ⟨_, rfl, hR w h⟩
    | cons c rest ih =>
      intro i sp acc g hi M w hd hi2 hal hB h he
      have hil : i < s.length := by
        rcases Nat.lt_or_ge i s.length with h | h
        · exact h
        · rw [List.drop_eq_nil_of_le h] at hd; cases hd
      rw [List.drop_eq_getElem_cons hil] at hd
      obtain ⟨hc, hd'⟩ := List.cons.inj hd
      refine hX _ _ _ _ _ _ (br_true (by simp; omega) ⟨by omega, by simp; omega, ?_⟩)
      rw [bt_at hil, hc]
      have a := u8b c 32 32 rfl; have a9 := u8b c 9 9 rfl; have a10 := u8b c 10 10 rfl
      by_cases hst : isSTN c = true
      · have hk : g_normalizeLabel.k2 R X (bs s) b sp hi (i : Int) (c.toNat : Int) true w := by
          refine br_true rfl ?_
          rw [i64_inc (by omega)]
          refine ih (i + 1) true acc g hi M w hd' (by omega) (by omega) hB h ?_
          rw [← he]; simp [normGo, hst]
        have hst' := hst
        unfold isSTN at hst'
        simp only [Bool.or_eq_true, beq_iff_eq] at hst'
        rcases hst' with (h3 | h3) | h3
        · exact br_true (by rw [a, h3]; rfl) hk
        · exact br_false (by rw [a, h3]; rfl) (br_true (by rw [a9, h3]; rfl) hk)
        · refine br_false (by rw [a, h3]; rfl) (br_false (by rw [a9, h3]; rfl) ?_)
          rw [show ((c.toNat : Int) == 10) = true from by rw [a10, h3]; rfl]
          exact hk
      · have hst2 : isSTN c = false := by simpa using hst
        have hst' := hst2
        unfold isSTN at hst'
        simp only [Bool.or_eq_false_iff] at hst'
        obtain ⟨⟨h3, h4⟩, h5⟩ := hst'
        refine br_false (by rw [a]; exact h3) (br_false (by rw [a9]; exact h4) ?_)
        rw [show ((c.toNat : Int) == 10) = false from by rw [a10]; exact h5]
        have hn : normGo sp (c :: rest) = (if sp = true then [32] else []) ++ lowC c :: normGo false rest := by simp [normGo, hst2]
        rw [hn] at he
        have k3 : ∀ (sp2 : Bool) (acc2 : List UInt8) g M w, sp2 = false → acc2.length ≤ 2 * i + 1 → acc2 ++ lowC c :: normGo false rest = normGo false s → Bld b g acc2 M → Sat σ w (M ++ L) → g_normalizeLabel.k3 R X (bs s) b sp2 hi (i : Int) (c.toNat : Int) w := by
          intro sp2 acc2 g M w hsp2 hal2 he2 hB h
          subst hsp2
          have k4 : ∀ (d : Int), d = ((lowC c).toNat : Int) → g_normalizeLabel.k4 R X (bs s) b false hi (i : Int) d w := by
            intro d hd2
            subst hd2
            have nx : ∀ hi2 M w, Bld b true (acc2 ++ [lowC c]) M → Sat σ w (M ++ L) → X (bs s) b false hi2 (IntKind.i64.wrap ((i : Int) + 1)) w := by
              intro hi2 M w hB h
              rw [i64_inc (by omega)]
              exact ih (i + 1) false (acc2 ++ [lowC c]) true hi2 M w hd' (by omega) (by simp; omega) hB h (by rw [← he2]; simp)
            refine br_split (fun _ => ?_) (fun _ => ?_)
            · exact bldB_ok (k := lowC c) hB h (by omega) fun w M hB h => ⟨_, rfl, nx true M w hB h⟩
            · exact bldB_ok (k := lowC c) hB h (by omega) fun w M hB h => ⟨_, rfl, nx hi M w hB h⟩
          refine br_split (fun hb => ?_) (fun hb => ?_)
          · simp only [Bool.and_eq_true, decide_eq_true_eq] at hb
            exact k4 _ (lowC_int ⟨by omega, by omega⟩)
          · refine k4 _ ?_
            have : ¬ (65 ≤ c.toNat ∧ c.toNat ≤ 90) := by
              rintro ⟨x1, x2⟩
              rw [decide_eq_true (by omega), decide_eq_true (by omega)] at hb; cases hb
            unfold lowC; rw [if_neg this]
        refine br_false rfl ?_
        cases sp with
        | true =>
          refine br_true rfl ?_
          refine bldB_ok (k := 32) hB h (by omega) fun w M hB h => ⟨_, rfl, k3 false (acc ++ [32]) true M w rfl (by simp; omega) ?_ hB h⟩
          rw [← he]; simp
        | false =>
          refine br_false rfl (k3 false acc g M w rfl (by omega) ?_ hB h)
          rw [← he]; simp
  exact key s 0 false [] false false _ w rfl (by omega) (by simp) (bldNew b) h rfl
end Go.Proofs.YtejiaegiijokcaaGreatDoor


set_option linter.unusedVariables false
set_option maxRecDepth 20000
namespace Go.Proofs.YtejiaegiijokcaaGreatDoor
open Go.Proofs
namespace g_parseLinkTitle
noncomputable def body : Code := bodyOf Tryz.f121
def k3 (R : EP) (w : World) : Prop :=
 R (.returned (.tuple #[.string (ByteArray.mk #[]), .int .u8 0, .int .i64 0, .bool false])) w

def k4 (R : EP) (Xa : BA → Int → Int → Int → WP) (x0 : BA) (x1 : Int) (x8 : Int) (x9 : Int) (w : World) : Prop :=
 0 ≤ x9 ∧ x9 < (x0.size : Int) ∧
 br (((bt x0 x9) == 92) && (decide ((IntKind.i64.wrap (x9 + 1)) < (x0.size : Int))))
 (Xa x0 x1 x8 (IntKind.i64.wrap ((IntKind.i64.wrap (x9 + 1)) + 1)) w)
 (Xa x0 x1 x8 (IntKind.i64.wrap (x9 + 1)) w)

def bl1 (R : EP) (Xa : BA → Int → Int → Int → WP) (x0 : BA) (x1 : Int) (x8 : Int) (x9 : Int) (w : World) : Prop :=
 br (decide (x9 < (x0.size : Int)))
 (0 ≤ x9 ∧ x9 < (x0.size : Int) ∧
 br ((bt x0 x9) == x8)
 (0 ≤ (IntKind.i64.wrap (x1 + 1)) ∧ (IntKind.i64.wrap (x1 + 1)) ≤ x9 ∧ x9 ≤ (x0.size : Int) ∧
 callE P i_mdUnescaper_Replace #[.agg #[], .string (x0.extract (Int.toNat (IntKind.i64.wrap (x1 + 1))) (Int.toNat x9))] (fun e w2 => ∃ (r1 : BA), e = .returned (.string r1) ∧
 R (.returned (.tuple #[.string r1, .int .u8 x8, .int .i64 (IntKind.i64.wrap (x9 + 1)), .bool true])) w2) w)
 (0 ≤ x9 ∧ x9 < (x0.size : Int) ∧
 br (((bt x0 x9) == 40) && (x8 == 41))
 (k3 R w)
 (k4 R Xa x0 x1 x8 x9 w)))
 (k3 R w)
def l1 (R : EP) (x0 : BA) (x1 : Int) (x8 : Int) (x9 : Int) (w : World) : Prop :=
  ∀ X : BA → Int → Int → Int → WP, (∀ x0 x1 x8 x9 w, bl1 R X x0 x1 x8 x9 w → X x0 x1 x8 x9 w) → X x0 x1 x8 x9 w

noncomputable def al1 (R : EP) (Xa : BA → Int → Int → Int → WP) : AC :=
  (.seq (.leaf (sel [1, 0, 1, 0, 1, 1, 1, 0, 0, 0] body)) (.seq (.block 1 (.seq (.leaf (sel [1, 0, 1, 0, 1, 1, 1, 0, 0, 1, 0, 0, 0] body)) (.seq (.leaf (sel [1, 0, 1, 0, 1, 1, 1, 0, 0, 1, 0, 0, 1, 0] body)) (.mark (leaf [(0, .s .str), (1, .s (.int .i64)), (8, .s (.int .u8)), (9, .s (.int .i64))] (k4 R Xa)) (.leaf (sel [1, 0, 1, 0, 1, 1, 1, 0, 0, 1, 0, 0, 1, 1] body)))))) (.leaf (sel [1, 0, 1, 0, 1, 1, 1, 0, 0, 1, 1] body))))
def k2 (R : EP) (x0 : BA) (x1 : Int) (x8 : Int) (w : World) : Prop :=
 l1 R x0 x1 x8 (IntKind.i64.wrap (x1 + 1)) w

def k1 (R : EP) (x0 : BA) (x1 : Int) (x32 : Bool) (w : World) : Prop :=
 br x32
 (0 ≤ x1 ∧ x1 < (x0.size : Int) ∧
 br ((bt x0 x1) == 40)
 (k2 R x0 x1 41 w)
 (k2 R x0 x1 (bt x0 x1) w))
 (k3 R w)

end g_parseLinkTitle
def g_parseLinkTitle (R : EP) (x0 : BA) (x1 : Int) (w : World) : Prop :=
 ((decide (x1 < (x0.size : Int))) = true → 0 ≤ x1 ∧ x1 < (x0.size : Int)) ∧
 (((decide (x1 < (x0.size : Int))) && (!((bt x0 x1) == 34))) = true → 0 ≤ x1 ∧ x1 < (x0.size : Int)) ∧
 (((decide (x1 < (x0.size : Int))) && (!(((bt x0 x1) == 34) || ((bt x0 x1) == 39)))) = true → 0 ≤ x1 ∧ x1 < (x0.size : Int)) ∧
 g_parseLinkTitle.k1 R x0 x1 ((decide (x1 < (x0.size : Int))) && ((((bt x0 x1) == 34) || ((bt x0 x1) == 39)) || ((bt x0 x1) == 40))) w

noncomputable def g_parseLinkTitle.ac (R : EP) : AC :=
  (.seq (.leaf (sel [0] g_parseLinkTitle.body)) (.seq (.seq (.leaf (sel [1, 0, 0] g_parseLinkTitle.body)) (.mark (leaf [(0, .s .str), (1, .s (.int .i64)), (32, .s .bool)] (g_parseLinkTitle.k1 R)) (.cond 32 (.seq (.leaf (sel [1, 0, 1, 0, 0] g_parseLinkTitle.body)) (.seq (.leaf (sel [1, 0, 1, 0, 1, 0] g_parseLinkTitle.body)) (.mark (leaf [(0, .s .str), (1, .s (.int .i64)), (8, .s (.int .u8))] (g_parseLinkTitle.k2 R)) (.seq (.leaf (sel [1, 0, 1, 0, 1, 1, 0] g_parseLinkTitle.body)) (.block 0 (.loop (leaf [(0, .s .str), (1, .s (.int .i64)), (8, .s (.int .u8)), (9, .s (.int .i64))] (g_parseLinkTitle.l1 R)) (sel [1, 0, 1, 0, 1, 1, 1, 0, 0] g_parseLinkTitle.body))))))) (.leaf (sel [1, 0, 1, 1] g_parseLinkTitle.body))))) (.mark (leaf [] (g_parseLinkTitle.k3 R)) (.leaf (sel [1, 1] g_parseLinkTitle.body)))))
theorem g_parseLinkTitle.good (R : EP) : Good P 83 (g_parseLinkTitle.ac R) (QF P [.tmp 4, .tmp 5, .tmp 6, .tmp 7] R) :=
  ⟨trivial, ⟨⟨trivial, ⟨⟨⟨trivial, ⟨trivial, ⟨⟨trivial, (loopG (g_parseLinkTitle.al1 R) (g_parseLinkTitle.bl1 R) (fun _ => by kernel_rfl) (fun Xa => ⟨trivial, ⟨⟨trivial, ⟨trivial, ⟨trivial, cutE (by intro x0 x1 x8 x9 ρ w; kernel_rfl)⟩⟩⟩, trivial⟩⟩) (fun Xa => by intro x0 x1 x8 x9 ρ w; kernel_rfl) (fun X h _ _ _ _ _ g => g X h))⟩, cutE (by intro x0 x1 x8 ρ w; kernel_rfl)⟩⟩⟩, trivial⟩, cutE (by intro x0 x1 x32 ρ w; kernel_rfl)⟩⟩, ⟨trivial, cutE (by intro ρ w; kernel_rfl)⟩⟩⟩
theorem g_parseLinkTitle.eq (R : EP) (x0 : BA) (x1 : Int) (w : World) : g_parseLinkTitle R x0 x1 w = vcA P 83 (g_parseLinkTitle.ac R) (QF P [.tmp 4, .tmp 5, .tmp 6, .tmp 7] R) (fr0 [.string x0, .int .i64 x1]) w := by kernel_rfl
theorem g_parseLinkTitle.sound {R : EP} {x0 : ByteArray} {x1 : Int} {w : World} (h : g_parseLinkTitle R x0 x1 w) : callE P i_parseLinkTitle #[.string x0, .int .i64 x1] R w :=
  callE_fin (c := g_parseLinkTitle.body) Tryz.func121 Tryz.call121 (by kernel_rfl) (by kernel_rfl) (by kernel_rfl) (by kernel_rfl) (by kernel_rfl) (g_parseLinkTitle.good R) (g_parseLinkTitle.eq R x0 x1 w) h
end Go.Proofs.YtejiaegiijokcaaGreatDoor

set_option linter.unusedVariables false
namespace Go.Proofs.YtejiaegiijokcaaGreatDoor
open Go.Proofs Go.IntWalk Go.RowKit
variable {σ : Out} {w : World} {L L' : List Chunk} {R : Ending → World → Prop}
theorem und_link : P.underlying ty_P_Link = some (.pointer ty_Link) := by kernel_rfl
theorem meth_psLink : methB P ty_P_parseState "pub-paratext/pub/rscmarkdown.link" i_parseState_link = true := by kernel_rfl
theorem meth_psDefine : methB P ty_P_parseState "pub-paratext/pub/rscmarkdown.defineLink" i_parseState_defineLink = true := by kernel_rfl
theorem parseLinkTitle_no {s : List UInt8} {i : Nat} (hi : i ≤ s.length) (h : i < s.length → s.getD i 0 ≠ 34 ∧ s.getD i 0 ≠ 39 ∧ s.getD i 0 ≠ 40) (hR : R (.returned (.tuple #[.string (bs []), .int .u8 0, .int .i64 0, .bool false])) w) :
    callE P i_parseLinkTitle #[.string (bs s), .int .i64 i] R w := by
  refine g_parseLinkTitle.sound ?_
  rcases Nat.lt_or_ge i s.length with hlt | hge
  · obtain ⟨h1, h2, h3⟩ := h hlt
    have nb : ∀ d : UInt8, s.getD i 0 ≠ d → (((s.getD i 0).toNat : Int) == (d.toNat : Int)) = false := fun d hd => by rw [u8_beq]; simpa using hd
    refine ⟨fun _ => ⟨by omega, by simp; omega⟩, fun _ => ⟨by omega, by simp; omega⟩, fun _ => ⟨by omega, by simp; omega⟩, ?_⟩
    rw [bs_bt]
    refine br_false ?_ hR
    rw [show (((s.getD i 0).toNat : Int) == 34) = false from nb 34 h1, show (((s.getD i 0).toNat : Int) == 39) = false from nb 39 h2, show (((s.getD i 0).toNat : Int) == 40) = false from nb 40 h3]
    exact Bool.and_false _
  · have hd : decide ((i : Int) < ((bs s).size : Int)) = false := by simp; omega
    refine ⟨fun hh => (by rw [hd] at hh; cases hh), fun hh => (by rw [hd] at hh; cases hh), fun hh => (by rw [hd] at hh; cases hh), br_false ?_ hR⟩
    rw [hd]; rfl
theorem parseLinkDest_line {s D : List UInt8} {i j : Nat} (hs : s.length < 1000000) (hij : i < j) (hj : j ≤ s.length) (hD : sub s i j = D) (hall : ∀ k, i ≤ k → k < j → destB (s.getD k 0) = true) (h10 : j < s.length → s.getD j 0 = 10)
    (hR : R (.returned (.tuple #[.string (bs D), .int .i64 j, .bool true])) w) : callE P i_parseLinkDest #[.string (bs s), .int .i64 i] R w := by
  have nb : ∀ k, i ≤ k → k < j → ∀ d : UInt8, (d = 40 ∨ d = 41 ∨ d = 92 ∨ d = 32 ∨ d = 9 ∨ d = 10 ∨ d = 60) → (bt (bs s) (k : Int) == (d.toNat : Int)) = false := by
    intro k h1 h2 d hd
    rw [bs_bt, u8_beq]
    have := hall k h1 h2
    simp only [destB, Bool.and_eq_true, bne_iff_ne, ne_eq] at this
    obtain ⟨⟨⟨⟨⟨⟨⟨c1, c2⟩, c3⟩, c4⟩, c5⟩, c6⟩, c7⟩, c8⟩ := this
    rcases hd with rfl | rfl | rfl | rfl | rfl | rfl | rfl <;> simpa using ‹_›
  refine g_parseLinkDest.sound ?_
  refine br_false (by simp; omega) ⟨by omega, by simp; omega, br_false (nb i (Nat.le_refl _) hij 60 (by decide)) ?_⟩
  intro X hX
  have hmem : ∀ c ∈ D, destB c = true := by
    intro c hc
    rw [← hD] at hc
    obtain ⟨m, hm, rfl⟩ := List.mem_iff_getElem.1 hc
    have hl := sub_length (s := s) (i := i) (j := j) (by omega)
    rw [getElem_getD hm 0]
    have e : (sub s i j).getD m 0 = s.getD (i + m) 0 := by
      unfold sub
      rw [drop_getD, List.getD_eq_getElem?_getD, List.getD_eq_getElem?_getD, List.getElem?_take_of_lt (by omega)]
    rw [e]; exact hall _ (by omega) (by omega)
  have hDl : D.length < 1000000 := by rw [← hD, sub_length (by omega)]; omega
  have fin : g_parseLinkDest.k2 R (bs s) (i : Int) (j : Int) w := by
    refine ⟨by omega, by omega, by simp; omega, ?_⟩
    rw [Int.toNat_natCast, Int.toNat_natCast, bs_extract, show (s.take j).drop i = D from hD]
    exact mdUnescape_plain (by omega) (fun h => by have := hmem _ h; revert this; decide) (fun h => by have := hmem _ h; revert this; decide) ⟨_, rfl, hR⟩
  have key : ∀ k m, m + k = j → i ≤ m → X (bs s) (i : Int) 0 (m : Int) w := by
    intro k
    induction k with
    | zero =>
      intro m hm him
      obtain rfl : m = j := hm
      rcases Nat.lt_or_ge m s.length with hlt | hge
      · have b10 : bt (bs s) (m : Int) = 10 := by rw [bs_bt, h10 hlt]; rfl
        refine hX _ _ _ _ _ (br_true (by simp; omega) ⟨by omega, by simp; omega, ?_⟩)
        rw [b10]
        exact br_false rfl (br_false rfl (br_false rfl (br_false rfl (br_false rfl (br_true rfl fin)))))
      · exact hX _ _ _ _ _ (br_false (by simp; omega) fin)
    | succ k ih =>
      intro m hm him
      have nn := nb m him (by omega)
      refine hX _ _ _ _ _ (br_true (by simp; omega) ⟨by omega, by simp; omega, ?_⟩)
      refine br_false (nn 40 (by decide)) (br_false (nn 41 (by decide)) (br_false (nn 92 (by decide)) (br_false (nn 32 (by decide)) (br_false (nn 9 (by decide)) (br_false (nn 10 (by decide)) ?_)))))
      rw [i64_inc (by omega)]
      exact ih (m + 1) (by omega) (by omega)
  exact key (j - i) i (by omega) (Nat.le_refl _)
structure LabB (lab : List UInt8) : Prop where
  ne : lab ≠ []
  len : lab.length ≤ 999
  ok : ∀ c ∈ lab, c ≠ 91 ∧ c ≠ 92 ∧ c ≠ 93
  h0 : isSTN (lab.getD 0 0) = false
  h1 : isSTN (lab.getD (lab.length - 1) 0) = false
theorem parseLinkLabel_ok {q : Option Addr} {A lab B : List UInt8} (hl : (A ++ 91 :: (lab ++ 93 :: B)).length < 1000000) (hL : LabB lab) (hR : R (.returned (.tuple #[.string (bs lab), .int .i64 ((A.length + 1 + lab.length + 1 : Nat) : Int), .bool true])) w) :
    callE P i_parseLinkLabel #[.pointer q, .string (bs (A ++ 91 :: (lab ++ 93 :: B))), .int .i64 A.length] R w := by
  generalize hs : A ++ 91 :: (lab ++ 93 :: B) = s at hl ⊢
  have hlen : s.length = A.length + 2 + lab.length + B.length := by rw [← hs]; simp; omega
  have g0 : s.getD A.length 0 = 91 := by rw [← hs]; exact getD_mid _ _ 91 0
  have gl : ∀ m (hm : m < lab.length), s.getD (A.length + 1 + m) 0 = lab[m] := by
    intro m hm
    rw [← hs, show A.length + 1 + m = A.length + (m + 1) by omega, getD_at rfl, List.getD_cons_succ, getD_app' hm, ← getElem_getD hm]
  have g1 : s.getD (A.length + 1 + lab.length) 0 = 93 := by
    rw [← hs, show A.length + 1 + lab.length = A.length + (lab.length + 1) by omega, getD_at rfl, List.getD_cons_succ]; exact getD_mid _ _ 93 0
  have nb : ∀ c d : UInt8, c ≠ d → ((c.toNat : Int) == (d.toNat : Int)) = false := fun c d hd => by rw [u8_beq]; simpa using hd
  have hlp := List.length_pos_iff.2 hL.ne
  refine g_parseLinkLabel.sound ?_
  refine ⟨fun _ => ⟨by omega, by simp; omega⟩, br_false (by rw [bs_bt, g0]; simp; omega) ?_⟩
  unfold g_parseLinkLabel.k1
  rw [i64_inc (by omega)]
  intro X hX
  have key : ∀ k m, m + k = lab.length → X q (bs s) (A.length : Int) ((A.length + 1 + m : Nat) : Int) w := by
    intro k
    induction k with
    | zero =>
      intro m hm
      obtain rfl : m = lab.length := hm
      have := hL.len
      refine hX _ _ _ _ _ (br_true (by simp; omega) ⟨by omega, by simp; omega, ?_⟩)
      rw [bs_bt, g1, i64_inc (by omega)]
      have e2 : IntKind.i64.wrap (((A.length + 1 + lab.length : Nat) : Int) - ((A.length + 1 : Nat) : Int)) = (lab.length : Int) := by rw [show (((A.length + 1 + lab.length : Nat) : Int) - ((A.length + 1 : Nat) : Int)) = (lab.length : Int) by omega, i64_in _ (by omega)]
      refine br_true rfl (br_false (by rw [e2]; simp; omega) ⟨by omega, by omega, by simp; omega, ?_⟩)
      rw [Int.toNat_natCast, Int.toNat_natCast, bs_extract]
      have es : (s.take (A.length + 1 + lab.length)).drop (A.length + 1) = lab := by
        rw [← hs, show A ++ 91 :: (lab ++ 93 :: B) = ((A ++ [91]) ++ lab) ++ 93 :: B by simp, List.take_left' (by simp; omega), List.drop_left' (by simp)]
      rw [es]
      refine trimSTN_self (by omega) hL.ne hL.h0 hL.h1 ⟨_, rfl, br_true (by rw [bs_toList, mk_toList]; cases lab with | nil => exact absurd rfl hL.ne | cons _ _ => rfl) ?_⟩
      rw [i64_inc (by omega)]
      exact hR
    | succ k ih =>
      intro m hm
      have hml : m < lab.length := by omega
      obtain ⟨c1, c2, c3⟩ := hL.ok _ (List.getElem_mem hml)
      refine hX _ _ _ _ _ (br_true (by simp; omega) ⟨by omega, by simp; omega, ?_⟩)
      rw [bs_bt, gl m hml]
      refine br_false (nb _ 93 c3) ⟨by omega, by simp; omega, ?_⟩
      refine br_false (nb _ 91 c1) ⟨by omega, by simp; omega, ?_⟩
      rw [show ((lab[m].toNat : Int) == 92) = false from nb _ 92 c2]
      refine br_false rfl ?_
      rw [i64_inc (by omega)]
      exact ih (m + 1) (by omega)
  exact key lab.length 0 (by omega)
def addRef (ents ents' : List RefE) (k D : List UInt8) : Prop := (findK k (refK ents) = none ∧ ∃ lb, ents' = ents ++ [(k, lb, D)]) ∨ ((findK k (refK ents)).isSome = true ∧ ents' = ents)
def defT (lab D : List UInt8) : List UInt8 := 91 :: (lab ++ 93 :: 58 :: 32 :: D)
def TailOK (B : List UInt8) : Prop := B = [] ∨ ∃ B', B = 10 :: B' ∧ (B' = [] ∨ ∃ c t, B' = c :: t ∧ c ≠ 34 ∧ c ≠ 39 ∧ c ≠ 40 ∧ isST c = false)
theorem parseLinkRefDef_def {b : Nat} {p : PS} {ents : List RefE} {M : List Chunk} {lab D B : List UInt8} (hM : RefsAt p.links ents M) (h : Sat σ w (p.at b :: (M ++ L))) (hl : (defT lab D ++ B).length < 100000) (hL : LabB lab) (hD0 : D ≠ []) (hD : ∀ c ∈ D, destB c = true ∧ isSTN c = false) (hB : TailOK B)
    (hR : ∀ w (p' : PS) M' ents', p' = { p with links := p'.links } → addRef ents ents' (normGo false lab) D → RefsAt p'.links ents' M' → Sat σ w (p'.at b :: (M' ++ L)) → R (.returned (.tuple #[.int .i64 (((defT lab D).length + (if B = [] then 0 else 1) : Nat) : Int), .bool true])) w) :
    callE P i_parseLinkRefDef #[.iface ty_P_parseState (.pointer (some ⟨b, 0, none⟩)), .string (bs (defT lab D ++ B))] R w := by
  have hDp := List.length_pos_iff.2 hD0
  have hdl : (defT lab D).length = lab.length + 4 + D.length := by simp [defT]; omega
  have hs : defT lab D ++ B = [] ++ 91 :: (lab ++ 93 :: (58 :: 32 :: (D ++ B))) := by simp [defT]
  have g58 : (defT lab D ++ B).getD (lab.length + 2) 0 = 58 := by
    rw [show defT lab D ++ B = (91 :: (lab ++ [93])) ++ 58 :: (32 :: (D ++ B)) by simp [defT], show lab.length + 2 = (91 :: (lab ++ [93])).length by simp]; exact getD_mid _ _ 58 0
  have g32 : (defT lab D ++ B).getD (lab.length + 3) 0 = 32 := by
    rw [show defT lab D ++ B = (91 :: (lab ++ [93, 58])) ++ 32 :: (D ++ B) by simp [defT], show lab.length + 3 = (91 :: (lab ++ [93, 58])).length by simp]; exact getD_mid _ _ 32 0
  have gD : ∀ m (hm : m < D.length), (defT lab D ++ B).getD (lab.length + 4 + m) 0 = D[m] := by
    intro m hm
    rw [show defT lab D ++ B = (91 :: (lab ++ [93, 58, 32])) ++ (D ++ B) by simp [defT], getD_at (by simp), getD_app' hm, ← getElem_getD hm]
  have hsub : sub (defT lab D ++ B) (lab.length + 4) (lab.length + 4 + D.length) = D := by
    unfold sub
    rw [List.take_left' (by omega), show defT lab D = (91 :: (lab ++ [93, 58, 32])) ++ D by simp [defT], List.drop_left' (by simp)]
  have gB : ∀ m, (defT lab D ++ B).getD (lab.length + 4 + D.length + m) 0 = B.getD m 0 := fun m => getD_at (by omega) m
  have hlen : (defT lab D ++ B).length = lab.length + 4 + D.length + B.length := by rw [List.length_append, hdl]
  have hll := hL.len
  have hlab := parseLinkLabel_ok (R := R) (w := w) (q := none) (A := []) (lab := lab) (B := 58 :: 32 :: (D ++ B))
  rw [← hs] at hlab
  have g91 : (defT lab D ++ B).getD 0 0 = 91 := rfl
  rw [hdl] at hR
  generalize defT lab D ++ B = s at hl g58 g32 gD hsub gB hlen g91 hs ⊢
  clear hlab
  refine g_parseLinkRefDef.sound ?_
  refine skipSp_ok (i := 0) (by omega) (Nat.zero_le _) ⟨_, rfl, _, w, ta_ps _ w, ?_⟩
  rw [pastSTN_here (by omega) (by rw [g91]; decide)]
  rw [hs]
  refine parseLinkLabel_ok (A := []) (by rw [← hs]; omega) hL ⟨_, _, _, rfl, ?_⟩
  rw [← hs]
  simp only [List.length_nil, Nat.zero_add]
  rw [show 1 + lab.length + 1 = lab.length + 2 by omega]
  refine ⟨fun _ => ⟨by omega, by simp; omega⟩, br_false ?_ ?_⟩
  · rw [bs_bt, g58]; simp; omega
  unfold g_parseLinkRefDef.k1
  rw [i64_inc (by omega)]
  refine skipSp_ok (by omega) (by omega) ⟨_, rfl, ?_⟩
  have gD0 := gD 0 hDp
  rw [Nat.add_zero] at gD0
  have hd0 := hD D[0] (List.getElem_mem hDp)
  rw [show lab.length + 2 + 1 = lab.length + 3 by omega, pastSTN_one (by omega) (by rw [g32]; decide) (by rw [show lab.length + 3 + 1 = lab.length + 4 by omega, gD0]; exact hd0.2)]
  rw [show lab.length + 3 + 1 = lab.length + 4 by omega]
  refine ⟨by omega, by simp; omega, ?_⟩
  have hB10 : lab.length + 4 + D.length < s.length → s.getD (lab.length + 4 + D.length) 0 = 10 := by
    intro hlt
    have := gB 0
    rw [Nat.add_zero] at this
    rw [this]
    rcases hB with rfl | ⟨B', rfl, _⟩
    · simp at hlen; omega
    · rfl
  refine parseLinkDest_line (D := D) (j := lab.length + 4 + D.length) (by omega) (by omega) (by omega) hsub (fun m h1 h2 => ?_) hB10 ⟨_, _, _, rfl, br_false rfl ?_⟩
  · obtain ⟨d, rfl⟩ : ∃ d, m = lab.length + 4 + d := ⟨m - (lab.length + 4), by omega⟩
    rw [gD d (by omega)]; exact (hD _ (List.getElem_mem _)).1
  have hk10 : ∀ (e : Nat), e ≤ 100000 → (∀ w (p' : PS) M' ents', p' = { p with links := p'.links } → addRef ents ents' (normGo false lab) D → RefsAt p'.links ents' M' → Sat σ w (p'.at b :: (M' ++ L)) → R (.returned (.tuple #[.int .i64 (e : Int), .bool true])) w) →
      g_parseLinkRefDef.k10 R (.iface ty_P_parseState (.pointer (some ⟨b, 0, none⟩))) (e : Int) (bs lab) (bs D) (ByteArray.mk #[]) 0 false w := by
    intro e he hR
    refine normalizeLabel_ok (by omega) (fun hm => (hL.ok _ hm).1 rfl) (fun hm => (hL.ok _ hm).2.2 rfl) hL.ne hL.h0 hL.h1 h fun w h => ⟨_, rfl, ?_⟩
    refine enter_meth meth_psLink ?_
    refine link_ok hM (fun c hc => .tail _ (List.mem_append_left _ hc)) (.head _) h ⟨_, rfl, _, w, ptrNil_eq und_link _ w, ?_⟩
    cases hk : findK (normGo false lab) (refK ents) with
    | none =>
      refine br_true rfl ?_
      refine Sat.bx h fun lb w h => ?_
      refine enter_meth meth_psDefine ?_
      have h : Sat σ w (p.at b :: (M ++ (lnkC lb (.slice none 0 0) D [] 0 false :: L))) := by
        have h : Sat σ w (lnkC lb (.slice none 0 0) D [] 0 false :: (p.at b :: (M ++ L))) := h
        exact h.re (by intro _; simp only [List.append_eq, cnt_append, cnt_cons, cnt_nil] <;> omega)
      refine defineLink_ok hM hk h fun w m M' hM' h => ⟨rfl, ?_⟩
      exact hR w { p with links := some m } M' _ rfl (.inl ⟨hk, lb, rfl⟩) hM' h
    | some lb =>
      refine br_false rfl ?_
      exact hR w p M ents rfl (.inr ⟨by rw [hk]; rfl, rfl⟩) hM h
  have hk7 : g_parseLinkRefDef.k7 R (.iface ty_P_parseState (.pointer (some ⟨b, 0, none⟩))) (bs s) ((lab.length + 4 + D.length : Nat) : Int) (bs lab) (bs D) (ByteArray.mk #[]) 0 false w := by
    rcases Nat.lt_or_ge (lab.length + 4 + D.length) s.length with hlt | hge
    · have hBn : B ≠ [] := by rintro rfl; simp at hlen; omega
      refine ⟨fun _ => ⟨by omega, by simp; omega⟩, br_false ?_ (br_true (by simp; omega) ?_)⟩
      · rw [bs_bt, hB10 hlt]; exact Bool.and_false _
      rw [i64_inc (by omega)]
      rw [if_neg hBn] at hR
      exact hk10 _ (by omega) hR
    · have hBn : B = [] := List.eq_nil_of_length_eq_zero (by omega)
      have hd : decide (((lab.length + 4 + D.length : Nat) : Int) < ((bs s).size : Int)) = false := by simp; omega
      refine ⟨fun hh => (by rw [hd] at hh; cases hh), br_false (by rw [hd]; rfl) (br_false hd ?_)⟩
      rw [if_pos hBn, Nat.add_zero] at hR
      exact hk10 _ (by omega) hR
  have hl2 : ∀ j : Nat, j ≤ s.length → (j < s.length → s.getD j 0 ≠ 34 ∧ s.getD j 0 ≠ 39 ∧ s.getD j 0 ≠ 40 ∧ isST (s.getD j 0) = false) → g_parseLinkRefDef.l2 R (.iface ty_P_parseState (.pointer (some ⟨b, 0, none⟩))) (bs s) ((lab.length + 4 + D.length : Nat) : Int) (bs lab) (bs D) (j : Int) (ByteArray.mk #[]) 0 false w := by
    intro j hj hc Y hY
    refine hY _ _ _ _ _ _ _ _ _ _ ?_
    rcases Nat.lt_or_ge j s.length with hlt | hge
    · obtain ⟨c1, c2, c3, c4⟩ := hc hlt
      have c4' := c4
      unfold isST at c4'
      rw [Bool.or_eq_false_iff] at c4'
      refine ⟨fun _ => ⟨by omega, by simp; omega⟩, fun _ => ⟨by omega, by simp; omega⟩, br_false ?_ ?_⟩
      · rw [bs_bt, u8b _ 32 32 rfl, u8b _ 9 9 rfl, c4'.1, c4'.2]; exact Bool.and_false _
      exact parseLinkTitle_no hj (fun _ => ⟨c1, c2, c3⟩) ⟨_, _, _, _, rfl, br_false rfl hk7⟩
    · have hd : decide ((j : Int) < ((bs s).size : Int)) = false := by simp; omega
      refine ⟨fun hh => (by rw [hd] at hh; cases hh), fun hh => (by rw [hd] at hh; cases hh), br_false (by rw [hd]; rfl) ?_⟩
      exact parseLinkTitle_no hj (fun hh => by omega) ⟨_, _, _, _, rfl, br_false rfl hk7⟩
  intro X hX
  refine hX _ _ _ _ _ _ _ ?_
  rcases Nat.lt_or_ge (lab.length + 4 + D.length) s.length with hlt | hge
  · have b10 := hB10 hlt
    refine ⟨fun _ => ⟨by omega, by simp; omega⟩, fun _ => ⟨by omega, by simp; omega⟩, br_false (by rw [bs_bt, b10]; exact Bool.and_false _) ⟨fun _ => ⟨by omega, by simp; omega⟩, ?_⟩⟩
    refine br_true (by rw [bs_bt, b10]; simp) (br_true (by simp; omega) ?_)
    refine br_true rfl ?_
    rw [i64_inc (by omega)]
    refine hl2 _ (by omega) fun hlt2 => ?_
    have hg := gB 1
    rw [show lab.length + 4 + D.length + 1 = lab.length + 4 + D.length + 1 from rfl, hg]
    rcases hB with rfl | ⟨B', rfl, rfl | ⟨c, t, rfl, c1, c2, c3, c4⟩⟩
    · simp at hlen; omega
    · simp at hlen; omega
    · exact ⟨c1, c2, c3, c4⟩
  · have hd : decide (((lab.length + 4 + D.length : Nat) : Int) < ((bs s).size : Int)) = false := by simp; omega
    refine ⟨fun hh => (by rw [hd] at hh; cases hh), fun hh => (by rw [hd] at hh; cases hh), br_false (by rw [hd]; rfl) ⟨fun hh => ?_, ?_⟩⟩
    · simp at hh; omega
    refine br_true (by simp; omega) (br_false hd (br_true rfl ?_))
    exact hl2 _ (by omega) fun hlt2 => by omega
end Go.Proofs.YtejiaegiijokcaaGreatDoor


set_option linter.unusedVariables false
set_option maxRecDepth 20000
namespace Go.Proofs.YtejiaegiijokcaaGreatDoor
open Go.Proofs
namespace g_Emph_PrintHTML
noncomputable def body : Code := bodyOf Tryz.f325
def bl1 (R : EP) (Xa : OA → OA → Nat → Nat → Int → Int → WP) (x1 : OA) (x11q : OA) (x11n : Nat) (x11c : Nat) (x12 : Int) (x13 : Int) (w : World) : Prop :=
 br (decide (x13 < x12))
 (0 ≤ x13 ∧ x13 < (x11n : Int) ∧
 nilP x11q fun a5 =>
 ∃ (v6 : Value), w.cell? (a5.add (Int.toNat x13 * 1)) = some v6 ∧
 enterE P (callMethod v6 "PrintHTML" #[.pointer x1]) (fun e w8 => e = .returned (.tuple #[]) ∧
 Xa x1 x11q x11n x11c x12 (IntKind.i64.wrap (x13 + 1)) w8) w)
 (callE P i_bytes_Buffer_WriteString #[.pointer x1, .string (ByteArray.mk #[60, 47, 101, 109, 62])] (fun e w10 => ∃ (r9_0 : Int), ∃ (r9_1 : Value), e = .returned (.tuple #[.int .i64 r9_0, r9_1]) ∧
 R (.returned (.tuple #[])) w10) w)
def l1 (R : EP) (x1 : OA) (x11q : OA) (x11n : Nat) (x11c : Nat) (x12 : Int) (x13 : Int) (w : World) : Prop :=
  ∀ X : OA → OA → Nat → Nat → Int → Int → WP, (∀ x1 x11q x11n x11c x12 x13 w, bl1 R X x1 x11q x11n x11c x12 x13 w → X x1 x11q x11n x11c x12 x13 w) → X x1 x11q x11n x11c x12 x13 w

noncomputable def al1 (R : EP) (Xa : OA → OA → Nat → Nat → Int → Int → WP) : AC :=
  (.leaf (sel [1, 0, 1, 0, 0] body))
end g_Emph_PrintHTML
def g_Emph_PrintHTML (R : EP) (x0 : OA) (x1 : OA) (w : World) : Prop :=
 callE P i_bytes_Buffer_WriteString #[.pointer x1, .string (ByteArray.mk #[60, 101, 109, 62])] (fun e w2 => ∃ (r1_0 : Int), ∃ (r1_1 : Value), e = .returned (.tuple #[.int .i64 r1_0, r1_1]) ∧
 nilP x0 fun a3 =>
 ∃ (v4q : OA), ∃ (v4n : Nat), ∃ (v4c : Nat), w2.cell? (a3.add 1) = some (.slice v4q v4n v4c) ∧
 g_Emph_PrintHTML.l1 R x1 v4q v4n v4c (v4n : Int) 0 w2) w

noncomputable def g_Emph_PrintHTML.ac (R : EP) : AC :=
  (.seq (.leaf (sel [0] g_Emph_PrintHTML.body)) (.seq (.seq (.leaf (sel [1, 0, 0] g_Emph_PrintHTML.body)) (.block 0 (.loop (leaf [(1, .s .ptr), (11, .s .slice), (12, .s (.int .i64)), (13, .s (.int .i64))] (g_Emph_PrintHTML.l1 R)) (sel [1, 0, 1, 0, 0] g_Emph_PrintHTML.body)))) (.leaf (sel [1, 1] g_Emph_PrintHTML.body))))
theorem g_Emph_PrintHTML.good (R : EP) : Good P 23 (g_Emph_PrintHTML.ac R) (QF P [] R) :=
  ⟨trivial, ⟨⟨trivial, (loopG (g_Emph_PrintHTML.al1 R) (g_Emph_PrintHTML.bl1 R) (fun _ => by kernel_rfl) (fun Xa => trivial) (fun Xa => by intro x1 x11q x11n x11c x12 x13 ρ w; kernel_rfl) (fun X h _ _ _ _ _ _ _ g => g X h))⟩, trivial⟩⟩
theorem g_Emph_PrintHTML.eq (R : EP) (x0 : OA) (x1 : OA) (w : World) : g_Emph_PrintHTML R x0 x1 w = vcA P 23 (g_Emph_PrintHTML.ac R) (QF P [] R) (fr0 [.pointer x0, .pointer x1]) w := by kernel_rfl
theorem g_Emph_PrintHTML.sound {R : EP} {x0 : OA} {x1 : OA} {w : World} (h : g_Emph_PrintHTML R x0 x1 w) : callE P i_Emph_PrintHTML #[.pointer x0, .pointer x1] R w :=
  callE_fin (c := g_Emph_PrintHTML.body) Tryz.func325 Tryz.call325 (by kernel_rfl) (by kernel_rfl) (by kernel_rfl) (by kernel_rfl) (by kernel_rfl) (g_Emph_PrintHTML.good R) (g_Emph_PrintHTML.eq R x0 x1 w) h
namespace g_Strong_PrintHTML
noncomputable def body : Code := bodyOf Tryz.f333
def bl1 (R : EP) (Xa : OA → OA → Nat → Nat → Int → Int → WP) (x1 : OA) (x11q : OA) (x11n : Nat) (x11c : Nat) (x12 : Int) (x13 : Int) (w : World) : Prop :=
 br (decide (x13 < x12))
 (0 ≤ x13 ∧ x13 < (x11n : Int) ∧
 nilP x11q fun a5 =>
 ∃ (v6 : Value), w.cell? (a5.add (Int.toNat x13 * 1)) = some v6 ∧
 enterE P (callMethod v6 "PrintHTML" #[.pointer x1]) (fun e w8 => e = .returned (.tuple #[]) ∧
 Xa x1 x11q x11n x11c x12 (IntKind.i64.wrap (x13 + 1)) w8) w)
 (callE P i_bytes_Buffer_WriteString #[.pointer x1, .string (ByteArray.mk #[60, 47, 115, 116, 114, 111, 110, 103, 62])] (fun e w10 => ∃ (r9_0 : Int), ∃ (r9_1 : Value), e = .returned (.tuple #[.int .i64 r9_0, r9_1]) ∧
 R (.returned (.tuple #[])) w10) w)
def l1 (R : EP) (x1 : OA) (x11q : OA) (x11n : Nat) (x11c : Nat) (x12 : Int) (x13 : Int) (w : World) : Prop :=
  ∀ X : OA → OA → Nat → Nat → Int → Int → WP, (∀ x1 x11q x11n x11c x12 x13 w, bl1 R X x1 x11q x11n x11c x12 x13 w → X x1 x11q x11n x11c x12 x13 w) → X x1 x11q x11n x11c x12 x13 w

noncomputable def al1 (R : EP) (Xa : OA → OA → Nat → Nat → Int → Int → WP) : AC :=
  (.leaf (sel [1, 0, 1, 0, 0] body))
end g_Strong_PrintHTML
def g_Strong_PrintHTML (R : EP) (x0 : OA) (x1 : OA) (w : World) : Prop :=
 callE P i_bytes_Buffer_WriteString #[.pointer x1, .string (ByteArray.mk #[60, 115, 116, 114, 111, 110, 103, 62])] (fun e w2 => ∃ (r1_0 : Int), ∃ (r1_1 : Value), e = .returned (.tuple #[.int .i64 r1_0, r1_1]) ∧
 nilP x0 fun a3 =>
 ∃ (v4q : OA), ∃ (v4n : Nat), ∃ (v4c : Nat), w2.cell? (a3.add 1) = some (.slice v4q v4n v4c) ∧
 g_Strong_PrintHTML.l1 R x1 v4q v4n v4c (v4n : Int) 0 w2) w

noncomputable def g_Strong_PrintHTML.ac (R : EP) : AC :=
  (.seq (.leaf (sel [0] g_Strong_PrintHTML.body)) (.seq (.seq (.leaf (sel [1, 0, 0] g_Strong_PrintHTML.body)) (.block 0 (.loop (leaf [(1, .s .ptr), (11, .s .slice), (12, .s (.int .i64)), (13, .s (.int .i64))] (g_Strong_PrintHTML.l1 R)) (sel [1, 0, 1, 0, 0] g_Strong_PrintHTML.body)))) (.leaf (sel [1, 1] g_Strong_PrintHTML.body))))
theorem g_Strong_PrintHTML.good (R : EP) : Good P 23 (g_Strong_PrintHTML.ac R) (QF P [] R) :=
  ⟨trivial, ⟨⟨trivial, (loopG (g_Strong_PrintHTML.al1 R) (g_Strong_PrintHTML.bl1 R) (fun _ => by kernel_rfl) (fun Xa => trivial) (fun Xa => by intro x1 x11q x11n x11c x12 x13 ρ w; kernel_rfl) (fun X h _ _ _ _ _ _ _ g => g X h))⟩, trivial⟩⟩
theorem g_Strong_PrintHTML.eq (R : EP) (x0 : OA) (x1 : OA) (w : World) : g_Strong_PrintHTML R x0 x1 w = vcA P 23 (g_Strong_PrintHTML.ac R) (QF P [] R) (fr0 [.pointer x0, .pointer x1]) w := by kernel_rfl
theorem g_Strong_PrintHTML.sound {R : EP} {x0 : OA} {x1 : OA} {w : World} (h : g_Strong_PrintHTML R x0 x1 w) : callE P i_Strong_PrintHTML #[.pointer x0, .pointer x1] R w :=
  callE_fin (c := g_Strong_PrintHTML.body) Tryz.func333 Tryz.call333 (by kernel_rfl) (by kernel_rfl) (by kernel_rfl) (by kernel_rfl) (by kernel_rfl) (g_Strong_PrintHTML.good R) (g_Strong_PrintHTML.eq R x0 x1 w) h
namespace g_AutoLink_PrintHTML
noncomputable def body : Code := bodyOf Tryz.f353
end g_AutoLink_PrintHTML
def g_AutoLink_PrintHTML (R : EP) (x0 : OA) (x1 : OA) (w : World) : Prop :=
 tk w fun w1 =>
 nilP x0 fun a2 =>
 nilP x0 fun a3 =>
 ∃ (v4 : BA), w1.cell? (a2.add 1) = some (.string v4) ∧
 ∃ (v5 : BA), w1.cell? a3 = some (.string v5) ∧
 callE P i_htmlLinkEscaper #[] (fun e w7 => ∃ (r6q : OA), ∃ (r6n : Nat), ∃ (r6c : Nat), e = .returned (.slice r6q r6n r6c) ∧
 SameC w1 w7 (a3) 1 ∧
 SameC w1 w7 (a2.add 1) 1 ∧
 callE P i_zzPairs_Replace #[.slice r6q r6n r6c, .string v4] (fun e w9 => ∃ (r8 : BA), e = .returned (.string r8) ∧
 SameC w7 w9 (a3) 1 ∧
 (((ByteArray.mk #[60, 97, 32, 104, 114, 101, 102, 61, 34]).size + r8.size : Nat) : Int) ≤ IntKind.i64.max ∧
 ((((ByteArray.mk #[60, 97, 32, 104, 114, 101, 102, 61, 34]) ++ r8).size + (ByteArray.mk #[34, 62]).size : Nat) : Int) ≤ IntKind.i64.max ∧
 callE P i_htmlEscaper #[] (fun e w11 => ∃ (r10q : OA), ∃ (r10n : Nat), ∃ (r10c : Nat), e = .returned (.slice r10q r10n r10c) ∧
 SameC w9 w11 (a3) 1 ∧
 callE P i_zzPairs_Replace #[.slice r10q r10n r10c, .string v5] (fun e w13 => ∃ (r12 : BA), e = .returned (.string r12) ∧
 (((((ByteArray.mk #[60, 97, 32, 104, 114, 101, 102, 61, 34]) ++ r8) ++ (ByteArray.mk #[34, 62])).size + r12.size : Nat) : Int) ≤ IntKind.i64.max ∧
 ((((((ByteArray.mk #[60, 97, 32, 104, 114, 101, 102, 61, 34]) ++ r8) ++ (ByteArray.mk #[34, 62])) ++ r12).size + (ByteArray.mk #[60, 47, 97, 62]).size : Nat) : Int) ≤ IntKind.i64.max ∧
 callE P i_bytes_Buffer_WriteString #[.pointer x1, .string (((((ByteArray.mk #[60, 97, 32, 104, 114, 101, 102, 61, 34]) ++ r8) ++ (ByteArray.mk #[34, 62])) ++ r12) ++ (ByteArray.mk #[60, 47, 97, 62]))] (fun e w15 => ∃ (r14_0 : Int), ∃ (r14_1 : Value), e = .returned (.tuple #[.int .i64 r14_0, r14_1]) ∧
 R (.returned (.tuple #[])) w15) w13) w11) w9) w7) w1

noncomputable def g_AutoLink_PrintHTML.ac (R : EP) : AC :=
  (.draw (.pure 0 (.pure 2 (.pure 3 (.pure 4 (.pure 10 (.pure 11 (.pure 12 (.load 5 (.load 13 (.one 1 (.one 6 (.pure 7 (.pure 8 (.one 9 (.one 14 (.pure 15 (.pure 16 (.one 17 .done)))))))))))))))))) (sel [] g_AutoLink_PrintHTML.body))
theorem g_AutoLink_PrintHTML.good (R : EP) : Good P 22 (g_AutoLink_PrintHTML.ac R) (QF P [] R) :=
  ⟨by kernel_rfl, by kernel_rfl, fun _ _ _ h => h⟩
theorem g_AutoLink_PrintHTML.eq (R : EP) (x0 : OA) (x1 : OA) (w : World) : g_AutoLink_PrintHTML R x0 x1 w = vcA P 22 (g_AutoLink_PrintHTML.ac R) (QF P [] R) (fr0 [.pointer x0, .pointer x1]) w := by kernel_rfl
theorem g_AutoLink_PrintHTML.sound {R : EP} {x0 : OA} {x1 : OA} {w : World} (h : g_AutoLink_PrintHTML R x0 x1 w) : callE P i_AutoLink_PrintHTML #[.pointer x0, .pointer x1] R w :=
  callE_fin (c := g_AutoLink_PrintHTML.body) Tryz.func353 Tryz.call353 (by kernel_rfl) (by kernel_rfl) (by kernel_rfl) (by kernel_rfl) (by kernel_rfl) (g_AutoLink_PrintHTML.good R) (g_AutoLink_PrintHTML.eq R x0 x1 w) h
namespace g_HardBreak_PrintHTML
noncomputable def body : Code := bodyOf Tryz.f309
end g_HardBreak_PrintHTML
def g_HardBreak_PrintHTML (R : EP) (x0 : OA) (x1 : OA) (w : World) : Prop :=
 callE P i_bytes_Buffer_WriteString #[.pointer x1, .string (ByteArray.mk #[60, 98, 114, 32, 47, 62, 10])] (fun e w2 => ∃ (r1_0 : Int), ∃ (r1_1 : Value), e = .returned (.tuple #[.int .i64 r1_0, r1_1]) ∧
 R (.returned (.tuple #[])) w2) w

noncomputable def g_HardBreak_PrintHTML.ac (R : EP) : AC :=
  (.leaf (sel [] g_HardBreak_PrintHTML.body))
theorem g_HardBreak_PrintHTML.good (R : EP) : Good P 6 (g_HardBreak_PrintHTML.ac R) (QF P [] R) :=
  trivial
theorem g_HardBreak_PrintHTML.eq (R : EP) (x0 : OA) (x1 : OA) (w : World) : g_HardBreak_PrintHTML R x0 x1 w = vcA P 6 (g_HardBreak_PrintHTML.ac R) (QF P [] R) (fr0 [.pointer x0, .pointer x1]) w := by kernel_rfl
theorem g_HardBreak_PrintHTML.sound {R : EP} {x0 : OA} {x1 : OA} {w : World} (h : g_HardBreak_PrintHTML R x0 x1 w) : callE P i_HardBreak_PrintHTML #[.pointer x0, .pointer x1] R w :=
  callE_fin (c := g_HardBreak_PrintHTML.body) Tryz.func309 Tryz.call309 (by kernel_rfl) (by kernel_rfl) (by kernel_rfl) (by kernel_rfl) (by kernel_rfl) (g_HardBreak_PrintHTML.good R) (g_HardBreak_PrintHTML.eq R x0 x1 w) h
namespace g_Link_PrintHTML
noncomputable def body : Code := bodyOf Tryz.f276
def bl1 (R : EP) (Xa : OA → OA → Nat → Nat → Int → Int → WP) (x1 : OA) (x36q : OA) (x36n : Nat) (x36c : Nat) (x37 : Int) (x38 : Int) (w : World) : Prop :=
 br (decide (x38 < x37))
 (0 ≤ x38 ∧ x38 < (x36n : Int) ∧
 nilP x36q fun a25 =>
 ∃ (v26 : Value), w.cell? (a25.add (Int.toNat x38 * 1)) = some v26 ∧
 enterE P (callMethod v26 "PrintHTML" #[.pointer x1]) (fun e w28 => e = .returned (.tuple #[]) ∧
 Xa x1 x36q x36n x36c x37 (IntKind.i64.wrap (x38 + 1)) w28) w)
 (callE P i_bytes_Buffer_WriteString #[.pointer x1, .string (ByteArray.mk #[60, 47, 97, 62])] (fun e w30 => ∃ (r29_0 : Int), ∃ (r29_1 : Value), e = .returned (.tuple #[.int .i64 r29_0, r29_1]) ∧
 R (.returned (.tuple #[])) w30) w)
def l1 (R : EP) (x1 : OA) (x36q : OA) (x36n : Nat) (x36c : Nat) (x37 : Int) (x38 : Int) (w : World) : Prop :=
  ∀ X : OA → OA → Nat → Nat → Int → Int → WP, (∀ x1 x36q x36n x36c x37 x38 w, bl1 R X x1 x36q x36n x36c x37 x38 w → X x1 x36q x36n x36c x37 x38 w) → X x1 x36q x36n x36c x37 x38 w

noncomputable def al1 (R : EP) (Xa : OA → OA → Nat → Nat → Int → Int → WP) : AC :=
  (.leaf (sel [1, 1, 1, 0, 1, 0, 0] body))
def k1 (R : EP) (x0 : OA) (x1 : OA) (w : World) : Prop :=
 callE P i_bytes_Buffer_WriteString #[.pointer x1, .string (ByteArray.mk #[62])] (fun e w22 => ∃ (r21_0 : Int), ∃ (r21_1 : Value), e = .returned (.tuple #[.int .i64 r21_0, r21_1]) ∧
 nilP x0 fun a23 =>
 ∃ (v24q : OA), ∃ (v24n : Nat), ∃ (v24c : Nat), w22.cell? a23 = some (.slice v24q v24n v24c) ∧
 l1 R x1 v24q v24n v24c (v24n : Int) 0 w22) w

end g_Link_PrintHTML
def g_Link_PrintHTML (R : EP) (x0 : OA) (x1 : OA) (w : World) : Prop :=
 tk w fun w1 =>
 nilP x0 fun a2 =>
 ∃ (v3 : BA), w1.cell? (a2.add 1) = some (.string v3) ∧
 callE P i_htmlLinkEscaper #[] (fun e w5 => ∃ (r4q : OA), ∃ (r4n : Nat), ∃ (r4c : Nat), e = .returned (.slice r4q r4n r4c) ∧
 SameC w1 w5 (a2.add 1) 1 ∧
 callE P i_zzPairs_Replace #[.slice r4q r4n r4c, .string v3] (fun e w7 => ∃ (r6 : BA), e = .returned (.string r6) ∧
 (((ByteArray.mk #[60, 97, 32, 104, 114, 101, 102, 61, 34]).size + r6.size : Nat) : Int) ≤ IntKind.i64.max ∧
 ((((ByteArray.mk #[60, 97, 32, 104, 114, 101, 102, 61, 34]) ++ r6).size + (ByteArray.mk #[34]).size : Nat) : Int) ≤ IntKind.i64.max ∧
 callE P i_bytes_Buffer_WriteString #[.pointer x1, .string (((ByteArray.mk #[60, 97, 32, 104, 114, 101, 102, 61, 34]) ++ r6) ++ (ByteArray.mk #[34]))] (fun e w9 => ∃ (r8_0 : Int), ∃ (r8_1 : Value), e = .returned (.tuple #[.int .i64 r8_0, r8_1]) ∧
 nilP x0 fun a10 =>
 ∃ (v11 : BA), w9.cell? (a10.add 2) = some (.string v11) ∧
 br (!(v11.toList == (ByteArray.mk #[]).toList))
 (tk w9 fun w12 =>
 nilP x0 fun a13 =>
 ∃ (v14 : BA), w12.cell? (a13.add 2) = some (.string v14) ∧
 callE P i_htmlQuoteEscaper #[] (fun e w16 => ∃ (r15q : OA), ∃ (r15n : Nat), ∃ (r15c : Nat), e = .returned (.slice r15q r15n r15c) ∧
 SameC w12 w16 (a13.add 2) 1 ∧
 callE P i_zzPairs_Replace #[.slice r15q r15n r15c, .string v14] (fun e w18 => ∃ (r17 : BA), e = .returned (.string r17) ∧
 (((ByteArray.mk #[32, 116, 105, 116, 108, 101, 61, 34]).size + r17.size : Nat) : Int) ≤ IntKind.i64.max ∧
 ((((ByteArray.mk #[32, 116, 105, 116, 108, 101, 61, 34]) ++ r17).size + (ByteArray.mk #[34]).size : Nat) : Int) ≤ IntKind.i64.max ∧
 callE P i_bytes_Buffer_WriteString #[.pointer x1, .string (((ByteArray.mk #[32, 116, 105, 116, 108, 101, 61, 34]) ++ r17) ++ (ByteArray.mk #[34]))] (fun e w20 => ∃ (r19_0 : Int), ∃ (r19_1 : Value), e = .returned (.tuple #[.int .i64 r19_0, r19_1]) ∧
 g_Link_PrintHTML.k1 R x0 x1 w20) w18) w16) w12)
 (g_Link_PrintHTML.k1 R x0 x1 w9)) w7) w5) w1

noncomputable def g_Link_PrintHTML.ac (R : EP) : AC :=
  (.seq (.draw (.pure 0 (.pure 2 (.pure 3 (.pure 4 (.load 5 (.one 1 (.one 6 (.pure 7 (.pure 8 (.one 9 .done)))))))))) (sel [0] g_Link_PrintHTML.body)) (.seq (.seq (.leaf (sel [1, 0, 0] g_Link_PrintHTML.body)) (.cond 20 (.draw (.pure 0 (.pure 2 (.pure 3 (.pure 4 (.load 5 (.one 1 (.one 6 (.pure 7 (.pure 8 (.one 9 .done)))))))))) (sel [1, 0, 1, 0] g_Link_PrintHTML.body)) (.leaf (sel [1, 0, 1, 1] g_Link_PrintHTML.body)))) (.mark (leaf [(0, .s .ptr), (1, .s .ptr)] (g_Link_PrintHTML.k1 R)) (.seq (.leaf (sel [1, 1, 0] g_Link_PrintHTML.body)) (.seq (.seq (.leaf (sel [1, 1, 1, 0, 0] g_Link_PrintHTML.body)) (.block 0 (.loop (leaf [(1, .s .ptr), (36, .s .slice), (37, .s (.int .i64)), (38, .s (.int .i64))] (g_Link_PrintHTML.l1 R)) (sel [1, 1, 1, 0, 1, 0, 0] g_Link_PrintHTML.body)))) (.leaf (sel [1, 1, 1, 1] g_Link_PrintHTML.body)))))))
theorem g_Link_PrintHTML.good (R : EP) : Good P 48 (g_Link_PrintHTML.ac R) (QF P [] R) :=
  ⟨⟨by kernel_rfl, by kernel_rfl, fun _ _ _ h => h⟩, ⟨⟨trivial, ⟨⟨by kernel_rfl, by kernel_rfl, fun _ _ _ h => h⟩, trivial⟩⟩, ⟨⟨trivial, ⟨⟨trivial, (loopG (g_Link_PrintHTML.al1 R) (g_Link_PrintHTML.bl1 R) (fun _ => by kernel_rfl) (fun Xa => trivial) (fun Xa => by intro x1 x36q x36n x36c x37 x38 ρ w; kernel_rfl) (fun X h _ _ _ _ _ _ _ g => g X h))⟩, trivial⟩⟩, cutE (by intro x0 x1 ρ w; kernel_rfl)⟩⟩⟩
theorem g_Link_PrintHTML.eq (R : EP) (x0 : OA) (x1 : OA) (w : World) : g_Link_PrintHTML R x0 x1 w = vcA P 48 (g_Link_PrintHTML.ac R) (QF P [] R) (fr0 [.pointer x0, .pointer x1]) w := by kernel_rfl
theorem g_Link_PrintHTML.sound {R : EP} {x0 : OA} {x1 : OA} {w : World} (h : g_Link_PrintHTML R x0 x1 w) : callE P i_Link_PrintHTML #[.pointer x0, .pointer x1] R w :=
  callE_fin (c := g_Link_PrintHTML.body) Tryz.func276 Tryz.call276 (by kernel_rfl) (by kernel_rfl) (by kernel_rfl) (by kernel_rfl) (by kernel_rfl) (g_Link_PrintHTML.good R) (g_Link_PrintHTML.eq R x0 x1 w) h
namespace g_SoftBreak_PrintHTML
noncomputable def body : Code := bodyOf Tryz.f317
end g_SoftBreak_PrintHTML
def g_SoftBreak_PrintHTML (R : EP) (x0 : OA) (x1 : OA) (w : World) : Prop :=
 callE P i_bytes_Buffer_WriteString #[.pointer x1, .string (ByteArray.mk #[10])] (fun e w2 => ∃ (r1_0 : Int), ∃ (r1_1 : Value), e = .returned (.tuple #[.int .i64 r1_0, r1_1]) ∧
 R (.returned (.tuple #[])) w2) w

noncomputable def g_SoftBreak_PrintHTML.ac (R : EP) : AC :=
  (.leaf (sel [] g_SoftBreak_PrintHTML.body))
theorem g_SoftBreak_PrintHTML.good (R : EP) : Good P 6 (g_SoftBreak_PrintHTML.ac R) (QF P [] R) :=
  trivial
theorem g_SoftBreak_PrintHTML.eq (R : EP) (x0 : OA) (x1 : OA) (w : World) : g_SoftBreak_PrintHTML R x0 x1 w = vcA P 6 (g_SoftBreak_PrintHTML.ac R) (QF P [] R) (fr0 [.pointer x0, .pointer x1]) w := by kernel_rfl
theorem g_SoftBreak_PrintHTML.sound {R : EP} {x0 : OA} {x1 : OA} {w : World} (h : g_SoftBreak_PrintHTML R x0 x1 w) : callE P i_SoftBreak_PrintHTML #[.pointer x0, .pointer x1] R w :=
  callE_fin (c := g_SoftBreak_PrintHTML.body) Tryz.func317 Tryz.call317 (by kernel_rfl) (by kernel_rfl) (by kernel_rfl) (by kernel_rfl) (by kernel_rfl) (g_SoftBreak_PrintHTML.good R) (g_SoftBreak_PrintHTML.eq R x0 x1 w) h
end Go.Proofs.YtejiaegiijokcaaGreatDoor

set_option linter.unusedVariables false
namespace Go.Proofs.YtejiaegiijokcaaGreatDoor
open Go.Proofs Go.IntWalk Go.RowKit
variable {σ : Out} {w : World} {L L' : List Chunk} {R : Ending → World → Prop}
def methB1 (P : Program) (t : TypeId) (name : String) (f : FuncId) : Bool :=
  match P.info? t with
  | some i => match i.methods.find? (·.name == name) with
    | some m => match m.path.toList with
      | [s] => s.deref && (match P.underlying s.struct with
        | some (.struct fields) => match fields[s.index]? with
          | some fd => Nat.beq fd.offset 0 && (match P.info? fd.type with
            | some ti => !(Nat.beq ti.size 0) && (match P.underlying fd.type with
              | some (.struct _) => (match m.func with | some (g, true) => Nat.beq g f | _ => false)
              | _ => false)
            | none => false)
          | none => false
        | _ => false)
      | _ => false
    | none => false
  | none => false
theorem methB1_run {P : Program} {t : TypeId} {name : String} {f : FuncId} (h : methB1 P t name f = true) (b : Nat) (fuel : Nat) (w : World) :
    (Go.method (fuel + 1) t (.pointer (some ⟨b, 0, none⟩)) name).run P w = .ok (f, .pointer (some ⟨b, 0, none⟩)) w := by
  unfold methB1 at h
  split at h
  · rename_i i hi
    split at h
    · rename_i m hm
      split at h
      · rename_i s hp
        simp only [Bool.and_eq_true] at h
        obtain ⟨hd, h⟩ := h
        split at h
        · rename_i fields hu
          split at h
          · rename_i fd hf
            simp only [Bool.and_eq_true] at h
            obtain ⟨h0, h⟩ := h
            have h0 := Nat.eq_of_beq_eq_true h0
            split at h
            · rename_i ti hti
              simp only [Bool.and_eq_true, Bool.not_eq_true'] at h
              obtain ⟨hsz, h⟩ := h
              have hsz : ti.size ≠ 0 := by intro h1; rw [h1] at hsz; simp at hsz
              split at h
              · rename_i fs hfu
                split at h
                · rename_i g hg
                  have hgf := Nat.eq_of_beq_eq_true h
                  subst hgf
                  simp [Go.method, typeInfo, hi, hm, hp, Go.follow, run_underlying hu, hf, hd, Go.Place.get, asAddr, Go.fieldPlace, sizeOf, hti, hsz, h0, hg, Go.receiverAt, run_underlying hfu, Addr.add_lit]
                · cases h
              · cases h
            · cases h
          · cases h
        · cases h
      · cases h
    · cases h
  · cases h
theorem enter_meth1 {t : TypeId} {name : String} {f : FuncId} {b : Nat} {args : Array Value} (hm : methB1 P t name f = true) (h : callE P f (#[.pointer (some ⟨b, 0, none⟩)] ++ args) R w) :
    enterE P (callMethod (.iface t (.pointer (some ⟨b, 0, none⟩))) name args) R w := by
  obtain ⟨n, hn⟩ := depth_succ P
  have hr := methB1_run hm b n w
  have e : (callMethod (.iface t (.pointer (some ⟨b, 0, none⟩))) name args).run P w = (callFunc f (#[.pointer (some ⟨b, 0, none⟩)] ++ args)).run P w := by
    simp only [callMethod, Sem.run_bind, run_program, Result.andThen_ok, hn, hr]
  unfold enterE
  rw [e]
  exact h.imp (fun h => ⟨f, _, w, h.1 _ _, h.2⟩) id
theorem meth_EscapedP : methB1 P ty_P_Escaped "PrintHTML" i_Plain_PrintHTML = true := by kernel_rfl
theorem meth_Soft : methB P ty_P_SoftBreak "PrintHTML" i_SoftBreak_PrintHTML = true := by kernel_rfl
theorem meth_Hard : methB P ty_P_HardBreak "PrintHTML" i_HardBreak_PrintHTML = true := by kernel_rfl
theorem meth_Auto : methB P ty_P_AutoLink "PrintHTML" i_AutoLink_PrintHTML = true := by kernel_rfl
theorem meth_Link : methB P ty_P_Link "PrintHTML" i_Link_PrintHTML = true := by kernel_rfl
theorem esc_prints {pb : Nat} {s : List UInt8} {cs : List Value} {e : TypeId} (hs : s.length < 4294967296) :
    Prints "PrintHTML" (.iface ty_P_Escaped (.pointer (some ⟨pb, 0, none⟩))) [(pb, cel (.string (bs s) :: cs) e)] [(pb, cel (.string (bs s) :: cs) e)] (ab (escS htmlPs s)) := by
  refine ⟨ab_le _, fun σ R b l M L w hB h hb hR => enter_meth1 meth_EscapedP ?_⟩
  exact plainPrint_ok hB h hs (Nat.le_trans (ab_le _ l) hb) hR
def softT : List UInt8 := [10]
def hardT : List UInt8 := [60, 98, 114, 32, 47, 62, 10]
theorem soft_prints {b : Nat} {T : List Chunk} : Prints "PrintHTML" (ptrV ty_P_SoftBreak b) T T (ab softT) := by
  refine ⟨ab_le _, fun σ R bb l M L w hB h hb hR => enter_meth meth_Soft ?_⟩
  refine g_SoftBreak_PrintHTML.sound ?_
  have hb' : (l ++ softT).length ≤ 549755813888 := hb
  rw [List.length_append] at hb'
  exact writeS_ok (s := softT) hB h (by omega) fun w M hB h => ⟨_, _, rfl, hR w M hB h⟩
theorem hard_prints {b : Nat} {T : List Chunk} : Prints "PrintHTML" (ptrV ty_P_HardBreak b) T T (ab hardT) := by
  refine ⟨ab_le _, fun σ R bb l M L w hB h hb hR => enter_meth meth_Hard ?_⟩
  refine g_HardBreak_PrintHTML.sound ?_
  have hb' : (l ++ hardT).length ≤ 549755813888 := hb
  rw [List.length_append] at hb'
  exact writeS_ok (s := hardT) hB h (by omega) fun w M hB h => ⟨_, _, rfl, hR w M hB h⟩
def aHref : List UInt8 := [60, 97, 32, 104, 114, 101, 102, 61, 34]
def aEnd : List UInt8 := [60, 47, 97, 62]
def tAttr : List UInt8 := [32, 116, 105, 116, 108, 101, 61, 34]
theorem linkPs8 : small8 linkPs = true := by decide
theorem linkPs_len : linkPs.length = 170 := by kernel_rfl
theorem linkReplace_ok {pb c : Nat} {e : TypeId} {s : List UInt8} (h : Sat σ w L) (hp : (pb, cel (pairC linkPs) e) ∈ L) (hs : s.length < 4294967296) (hR : ∀ w, Sat σ w L → R (.returned (.string (bs (escS linkPs s)))) w) :
    callE P i_zzPairs_Replace #[.slice (some ⟨pb, 0, none⟩) 340 c, .string (bs s)] R w := by
  have := pairsReplace_ok (c := c) (R := R) h hp linkPs8 (by rw [linkPs_len]; decide) hs hR
  rw [linkPs_len] at this
  exact this
theorem auto_prints {b : Nat} {e : TypeId} {t u : List UInt8} (ht : t.length < 100000000) (hu : u.length < 100000000) :
    Prints "PrintHTML" (ptrV ty_P_AutoLink b) [(b, cel [.string (bs t), .string (bs u)] e)] [(b, cel [.string (bs t), .string (bs u)] e)] (ab (aHref ++ escS linkPs u ++ [34, 62] ++ escS htmlPs t ++ aEnd)) := by
  refine ⟨ab_le _, fun σ R bb l M L w hB h hb hR => enter_meth meth_Auto ?_⟩
  have hmax : IntKind.i64.max = 9223372036854775807 := rfl
  have l1 := escS_length linkPs8 u
  have l2 := escS_length (ps := htmlPs) (by decide) t
  have hb' : (l ++ (aHref ++ escS linkPs u ++ [34, 62] ++ escS htmlPs t ++ aEnd)).length ≤ 549755813888 := hb
  rw [List.length_append] at hb'
  refine g_AutoLink_PrintHTML.sound ?_
  refine Sat.tk h fun w h => ?_
  refine nilP_some (nilP_some ?_)
  have hm : ∀ {M : List Chunk}, (b, cel [.string (bs t), .string (bs u)] e) ∈ M ++ ([(b, cel [.string (bs t), .string (bs u)] e)] ++ L) := List.mem_append_right _ (.head _)
  refine ⟨_, Sat.ld h (i := 1) hm rfl, _, Sat.ld h (i := 0) hm rfl, ?_⟩
  have h0 := h
  refine htmlLinkEscaper_ok h fun w eb h => ⟨_, _, _, rfl, h0.same h hm (.tail _ hm) 1, h0.same h hm (.tail _ hm) 1, ?_⟩
  have h0 := h
  refine linkReplace_ok h (.head _) (by omega) fun w h => ⟨_, rfl, h0.same h (.tail _ hm) (.tail _ hm) 1, ?_⟩
  rw [show ByteArray.mk #[60, 97, 32, 104, 114, 101, 102, 61, 34] = bs aHref from rfl, show ByteArray.mk #[34, 62] = bs [34, 62] from rfl, show ByteArray.mk #[60, 47, 97, 62] = bs aEnd from rfl, bs_append, bs_append]
  refine ⟨by rw [hmax]; simp [aHref]; omega, by rw [hmax]; simp [aHref]; omega, ?_⟩
  have h0 := h
  refine htmlEscaper_ok h fun w eb2 h => ⟨_, _, _, rfl, h0.same h (.tail _ hm) (.tail _ (.tail _ hm)) 1, ?_⟩
  refine pairsReplace_ok (ps := htmlPs) h (.head _) (by decide) (by decide) (by omega) fun w h => ⟨_, rfl, ?_⟩
  rw [bs_append, bs_append]
  refine ⟨by rw [hmax]; simp [aHref]; omega, by rw [hmax]; simp [aHref, aEnd]; omega, ?_⟩
  have h : Sat σ w (M ++ ([(b, cel [.string (bs t), .string (bs u)] e)] ++ L)) := h.tail.tail
  exact writeS_ok hB h (by omega) fun w M hB h => ⟨_, _, rfl, hR w M hB h⟩
def linkO (u t : List UInt8) : List UInt8 := aHref ++ escS linkPs u ++ [34] ++ (if t = [] then [] else tAttr ++ escS htmlPs t ++ [34]) ++ [62]
theorem link_prints {b : Nat} {e : TypeId} {u t : List UInt8} {cs : List Value} {q : Option Addr} {n c : Nat} {vs : List Value} {RM KM KM' : List Chunk} {f : List UInt8 → List UInt8} (hu : u.length < 100000000) (ht : t.length < 100000000) (hS : Sl 1 ty_Inline q n c vs RM) (hn : n < 4611686018427387904) (hP : PrintsL "PrintHTML" vs KM KM' f) :
    Prints "PrintHTML" (ptrV ty_P_Link b) ((b, cel (.slice q n c :: .string (bs u) :: .string (bs t) :: cs) e) :: (RM ++ KM)) ((b, cel (.slice q n c :: .string (bs u) :: .string (bs t) :: cs) e) :: (RM ++ KM')) (fun l => f (l ++ linkO u t) ++ aEnd) := by
  have hmax : IntKind.i64.max = 9223372036854775807 := rfl
  have l1 := escS_length linkPs8 u
  have l2 := escS_length (ps := htmlPs) (by decide) t
  refine ⟨fun l => ?_, fun σ R bb l M L w hB h hb hR => enter_meth meth_Link ?_⟩
  · have := hP.mono (l ++ linkO u t)
    simp only [List.length_append] at *; omega
  have hm := hP.mono (l ++ linkO u t)
  simp only [List.length_append] at hb hm
  refine g_Link_PrintHTML.sound ?_
  have hmem : ∀ {M : List Chunk}, (b, cel (.slice q n c :: .string (bs u) :: .string (bs t) :: cs) e) ∈ M ++ ((b, cel (.slice q n c :: .string (bs u) :: .string (bs t) :: cs) e) :: (RM ++ KM) ++ L) := List.mem_append_right _ (.head _)
  refine Sat.tk h fun w h => ?_
  refine nilP_some ⟨_, Sat.ld h (i := 1) hmem rfl, ?_⟩
  have h0 := h
  refine htmlLinkEscaper_ok h fun w eb h => ⟨_, _, _, rfl, h0.same h hmem (.tail _ hmem) 1, ?_⟩
  refine linkReplace_ok h (.head _) (by omega) fun w h => ⟨_, rfl, ?_⟩
  rw [show ByteArray.mk #[60, 97, 32, 104, 114, 101, 102, 61, 34] = bs aHref from rfl, show ByteArray.mk #[34] = bs [34] from rfl, bs_append, bs_append]
  have hlo : (linkO u t).length = (aHref ++ escS linkPs u ++ [34]).length + (if t = [] then [] else tAttr ++ escS htmlPs t ++ [34] : List UInt8).length + 1 := by simp [linkO]; omega
  refine ⟨by rw [hmax]; simp [aHref]; omega, by rw [hmax]; simp [aHref]; omega, ?_⟩
  have h : Sat σ w (M ++ ((b, cel (.slice q n c :: .string (bs u) :: .string (bs t) :: cs) e) :: (RM ++ KM) ++ L)) := h.tail
  refine writeS_ok hB h (by omega) fun w M hB h => ⟨_, _, rfl, ?_⟩
  refine nilP_some ⟨_, Sat.ld h (i := 2) hmem rfl, ?_⟩
  have k1 : ∀ w M, Buf bb (l ++ (aHref ++ escS linkPs u ++ [34] ++ (if t = [] then [] else tAttr ++ escS htmlPs t ++ [34]))) M → Sat σ w (M ++ ((b, cel (.slice q n c :: .string (bs u) :: .string (bs t) :: cs) e) :: (RM ++ KM) ++ L)) → g_Link_PrintHTML.k1 R (some ⟨b, 0, none⟩) (some ⟨bb, 0, none⟩) w := by
    intro w M hB h
    refine writeS_ok (s := [62]) hB h (by simp only [List.length_append, List.length_cons, List.length_nil] at hlo ⊢; omega) fun w M hB h => ⟨_, _, rfl, ?_⟩
    refine nilP_some ⟨_, _, _, Sat.ld h (i := 0) hmem rfl, ?_⟩
    intro X hX
    have e1 : l ++ (aHref ++ escS linkPs u ++ [34] ++ (if t = [] then [] else tAttr ++ escS htmlPs t ++ [34])) ++ [62] = l ++ linkO u t := by simp [linkO]
    rw [e1] at hB
    have h : Sat σ w (M ++ (RM ++ (KM ++ ((b, cel (.slice q n c :: .string (bs u) :: .string (bs t) :: cs) e) :: L)))) := h.re (by intro _; simp only [List.append_eq, cnt_append, cnt_cons, cnt_nil] <;> omega)
    refine printLoop (X := fun j w => X (some ⟨bb, 0, none⟩) q n c (n : Int) j w) (END := fun w => callE P i_bytes_Buffer_WriteString #[.pointer (some ⟨bb, 0, none⟩), .string (bs aEnd)] (fun e w10 => ∃ (r9_0 : Int), ∃ (r9_1 : Value), e = .returned (.tuple #[.int .i64 r9_0, r9_1]) ∧ R (.returned (.tuple #[])) w10) w) hS (fun j w hj => hX _ _ _ _ _ _ _ hj) hP hB h hn (by simp only [List.length_append] at *; omega) fun w M' hB h => ?_
    refine writeS_ok (s := aEnd) hB h (by simp only [List.length_append] at *; omega) fun w M hB h => ⟨_, _, rfl, ?_⟩
    exact hR w M hB (h.re (by intro _; simp only [List.append_eq, cnt_append, cnt_cons, cnt_nil] <;> omega))
  by_cases ht0 : t = []
  · refine br_false (by rw [ht0, bs_toList, mk_toList]; rfl) (k1 w M ?_ h)
    rw [if_pos ht0, List.append_nil]; exact hB
  · refine br_true (by rw [bs_toList, mk_toList]; simpa using ht0) ?_
    rw [if_neg ht0] at hlo
    simp only [List.length_append, List.length_cons, List.length_nil] at hlo
    refine Sat.tk h fun w h => ?_
    refine nilP_some ⟨_, Sat.ld h (i := 2) hmem rfl, ?_⟩
    have h0 := h
    refine htmlQuoteEscaper_ok h fun w eb h => ⟨_, _, _, rfl, h0.same h hmem (.tail _ hmem) 1, ?_⟩
    refine pairsReplace_ok (ps := htmlPs) h (.head _) (by decide) (by decide) (by omega) fun w h => ⟨_, rfl, ?_⟩
    rw [show ByteArray.mk #[32, 116, 105, 116, 108, 101, 61, 34] = bs tAttr from rfl, bs_append, bs_append]
    refine ⟨by rw [hmax]; simp [tAttr]; omega, by rw [hmax]; simp [tAttr]; omega, ?_⟩
    have h : Sat σ w (M ++ ((b, cel (.slice q n c :: .string (bs u) :: .string (bs t) :: cs) e) :: (RM ++ KM) ++ L)) := h.tail
    refine writeS_ok hB h (by simp only [List.length_append, List.length_cons, List.length_nil] at hlo ⊢; omega) fun w M hB h => ⟨_, _, rfl, k1 w M ?_ h⟩
    rw [if_neg ht0, ← List.append_assoc]; exact hB
end Go.Proofs.YtejiaegiijokcaaGreatDoor


set_option linter.unusedVariables false
namespace Go.Proofs.YtejiaegiijokcaaGreatDoor
open Go.Proofs Go.IntWalk Go.RowKit
variable {σ : Out} {w : World} {L L' : List Chunk} {R : Ending → World → Prop}
theorem meth_Strong : methB P ty_P_Strong "PrintHTML" i_Strong_PrintHTML = true := by kernel_rfl
theorem meth_Emph : methB P ty_P_Emph "PrintHTML" i_Emph_PrintHTML = true := by kernel_rfl
def oStrong : List UInt8 := [60, 115, 116, 114, 111, 110, 103, 62]
def cStrong : List UInt8 := [60, 47, 115, 116, 114, 111, 110, 103, 62]
def oEm : List UInt8 := [60, 101, 109, 62]
def cEm : List UInt8 := [60, 47, 101, 109, 62]
theorem strong_prints {b : Nat} {e : TypeId} {m : Value} {q : Option Addr} {n c : Nat} {vs : List Value} {RM KM KM' : List Chunk} {f : List UInt8 → List UInt8} (hS : Sl 1 ty_Inline q n c vs RM) (hn : n < 4611686018427387904) (hP : PrintsL "PrintHTML" vs KM KM' f) :
    Prints "PrintHTML" (.iface ty_P_Strong (.pointer (some ⟨b, 0, none⟩))) ((b, cel [m, .slice q n c] e) :: (RM ++ KM)) ((b, cel [m, .slice q n c] e) :: (RM ++ KM')) (fun l => f (l ++ oStrong) ++ cStrong) := by
  refine ⟨fun l => ?_, fun σ R bb l M L w hB h hb hR => enter_meth meth_Strong ?_⟩
  · have := hP.mono (l ++ oStrong)
    simp only [List.length_append] at *; omega
  refine g_Strong_PrintHTML.sound ?_
  have hm := hP.mono (l ++ oStrong)
  simp only [List.length_append] at hb hm
  refine writeS_ok (s := oStrong) hB h (by omega) fun w M hB h => ⟨_, _, rfl, ?_⟩
  refine nilP_some ?_
  refine ⟨_, _, _, Sat.ld h (List.mem_append_right _ (.head _)) rfl, ?_⟩
  intro X hX
  have h : Sat σ w (M ++ (RM ++ (KM ++ ((b, cel [m, .slice q n c] e) :: L)))) := h.re (by intro _; simp only [List.append_eq, cnt_append, cnt_cons, cnt_nil] <;> omega)
  refine printLoop (X := fun j w => X (some ⟨bb, 0, none⟩) q n c (n : Int) j w) (END := fun w => callE P i_bytes_Buffer_WriteString #[.pointer (some ⟨bb, 0, none⟩), .string (bs cStrong)] (fun e w10 => ∃ (r9_0 : Int), ∃ (r9_1 : Value), e = .returned (.tuple #[.int .i64 r9_0, r9_1]) ∧ R (.returned (.tuple #[])) w10) w) hS (fun j w hj => hX _ _ _ _ _ _ _ hj) hP hB h hn (by omega) fun w M' hB h => ?_
  refine writeS_ok (s := cStrong) hB h (by omega) fun w M hB h => ⟨_, _, rfl, ?_⟩
  exact hR w M hB (h.re (by intro _; simp only [List.append_eq, cnt_append, cnt_cons, cnt_nil] <;> omega))
theorem em_prints {b : Nat} {e : TypeId} {m : Value} {q : Option Addr} {n c : Nat} {vs : List Value} {RM KM KM' : List Chunk} {f : List UInt8 → List UInt8} (hS : Sl 1 ty_Inline q n c vs RM) (hn : n < 4611686018427387904) (hP : PrintsL "PrintHTML" vs KM KM' f) :
    Prints "PrintHTML" (.iface ty_P_Emph (.pointer (some ⟨b, 0, none⟩))) ((b, cel [m, .slice q n c] e) :: (RM ++ KM)) ((b, cel [m, .slice q n c] e) :: (RM ++ KM')) (fun l => f (l ++ oEm) ++ cEm) := by
  refine ⟨fun l => ?_, fun σ R bb l M L w hB h hb hR => enter_meth meth_Emph ?_⟩
  · have := hP.mono (l ++ oEm)
    simp only [List.length_append] at *; omega
  refine g_Emph_PrintHTML.sound ?_
  have hm := hP.mono (l ++ oEm)
  simp only [List.length_append] at hb hm
  refine writeS_ok (s := oEm) hB h (by omega) fun w M hB h => ⟨_, _, rfl, ?_⟩
  refine nilP_some ?_
  refine ⟨_, _, _, Sat.ld h (List.mem_append_right _ (.head _)) rfl, ?_⟩
  intro X hX
  have h : Sat σ w (M ++ (RM ++ (KM ++ ((b, cel [m, .slice q n c] e) :: L)))) := h.re (by intro _; simp only [List.append_eq, cnt_append, cnt_cons, cnt_nil] <;> omega)
  refine printLoop (X := fun j w => X (some ⟨bb, 0, none⟩) q n c (n : Int) j w) (END := fun w => callE P i_bytes_Buffer_WriteString #[.pointer (some ⟨bb, 0, none⟩), .string (bs cEm)] (fun e w10 => ∃ (r9_0 : Int), ∃ (r9_1 : Value), e = .returned (.tuple #[.int .i64 r9_0, r9_1]) ∧ R (.returned (.tuple #[])) w10) w) hS (fun j w hj => hX _ _ _ _ _ _ _ hj) hP hB h hn (by omega) fun w M' hB h => ?_
  refine writeS_ok (s := cEm) hB h (by omega) fun w M hB h => ⟨_, _, rfl, ?_⟩
  exact hR w M hB (h.re (by intro _; simp only [List.append_eq, cnt_append, cnt_cons, cnt_nil] <;> omega))
mutual
def outI : Inl → List UInt8
  | .plain s => escS htmlPs s
  | .strong _ ks => oStrong ++ outL ks ++ cStrong
  | .emph _ ks => oEm ++ outL ks ++ cEm
  | .esc s => escS htmlPs s
  | .auto t u => aHref ++ escS linkPs u ++ [34, 62] ++ escS htmlPs t ++ aEnd
  | .link ks u t _ _ => linkO u t ++ outL ks ++ aEnd
  | .soft => softT
  | .hard => hardT
  | _ => []
def outL : List Inl → List UInt8
  | [] => []
  | t :: ts => outI t ++ outL ts
end
mutual
def okI : Inl → Prop
  | .plain s => s.length < 4294967296
  | .strong _ ks => okL ks ∧ ks.length < 1073741824
  | .emph _ ks => okL ks ∧ ks.length < 1073741824
  | .esc s => s.length < 4294967296
  | .auto t u => t.length < 100000000 ∧ u.length < 100000000
  | .link ks u t _ _ => okL ks ∧ ks.length < 1073741824 ∧ u.length < 100000000 ∧ t.length < 100000000
  | .soft => True
  | .hard => True
  | _ => False
def okL : List Inl → Prop
  | [] => True
  | t :: ts => okI t ∧ okL ts
end
theorem Prints.as {m : String} {v : Value} {T T' : List Chunk} {f g : List UInt8 → List UInt8} (h : Prints m v T T' f) (e : f = g) : Prints m v T T' g := e ▸ h
theorem PrintsL.as {m : String} {v : List Value} {T T' : List Chunk} {f g : List UInt8 → List UInt8} (h : PrintsL m v T T' f) (e : f = g) : PrintsL m v T T' g := e ▸ h
mutual
theorem inl_prints : ∀ (t : Inl) (v : Value) (M : List Chunk), InlAt t v M → okI t → Prints "PrintHTML" v M M (ab (outI t))
  | .plain s, v, M, h, ho => by
    obtain ⟨b, cs, e, rfl, rfl⟩ := h
    exact plain_prints ho
  | .strong m ks, v, M, h, ho => by
    obtain ⟨b, e, q, n, c, vs, RM, KM, rfl, rfl, hS, hI⟩ := h
    have hl := hI.length
    have h0 := hS.1
    have h1 := ho.2
    refine (strong_prints hS (by omega) (inls_print ks vs KM hI ho.1)).as ?_
    funext l
    simp [ab, outI]
  | .emph m ks, v, M, h, ho => by
    obtain ⟨b, e, q, n, c, vs, RM, KM, rfl, rfl, hS, hI⟩ := h
    have hl := hI.length
    have h0 := hS.1
    have h1 := ho.2
    refine (em_prints hS (by omega) (inls_print ks vs KM hI ho.1)).as ?_
    funext l
    simp [ab, outI]
  | .esc s, v, M, h, ho => by
    obtain ⟨b, e, rfl, rfl⟩ := h
    exact esc_prints ho
  | .auto t u, v, M, h, ho => by
    obtain ⟨b, e, rfl, rfl⟩ := h
    exact auto_prints ho.1 ho.2
  | .link ks u t tc k, v, M, h, ho => by
    obtain ⟨b, e, q, n, c, vs, RM, KM, rfl, rfl, hS, hI⟩ := h
    have hl := hI.length
    have h0 := hS.1
    obtain ⟨h1, h2, h3, h4⟩ := ho
    refine (link_prints h3 h4 hS (by omega) (inls_print ks vs KM hI h1)).as ?_
    funext l
    simp [ab, outI]
  | .soft, v, M, h, ho => by
    obtain ⟨b, e, rfl, rfl⟩ := h
    exact soft_prints
  | .hard, v, M, h, ho => by
    obtain ⟨b, e, rfl, rfl⟩ := h
    exact hard_prints
  | .openP _ _, v, M, h, ho => absurd ho id
  | .emphP _ _ _ _ _, v, M, h, ho => absurd ho id
  | .code _, v, M, h, ho => absurd ho id
  | .del _ _, v, M, h, ho => absurd ho id
  | .image _ _ _ _ _, v, M, h, ho => absurd ho id
  | .tag _, v, M, h, ho => absurd ho id
  | .task _, v, M, h, ho => absurd ho id
theorem inls_print : ∀ (ts : List Inl) (vs : List Value) (M : List Chunk), InlsAt ts vs M → okL ts → PrintsL "PrintHTML" vs M M (ab (outL ts))
  | [], vs, M, h, ho => by
    obtain ⟨rfl, rfl⟩ := h
    exact PrintsL.nil.as (by funext l; simp [ab, outL])
  | t :: ts, vs, M, h, ho => by
    obtain ⟨v, vs', M1, M2, rfl, rfl, h1, h2⟩ := h
    refine (PrintsL.cons (inl_prints t v M1 h1 ho.1) (inls_print ts vs' M2 h2 ho.2)).as ?_
    funext l
    simp [ab, outL]
end
end Go.Proofs.YtejiaegiijokcaaGreatDoor


set_option linter.unusedVariables false
namespace Go.Proofs.YtejiaegiijokcaaGreatDoor
open Go.Proofs Go.IntWalk Go.RowKit
variable {σ : Out} {w : World} {L L' : List Chunk} {R : Ending → World → Prop}
structure RunTo (s : List UInt8) (p : UInt8 → Bool) (i j : Nat) : Prop where
  le : i ≤ j
  len : j ≤ s.length
  all : ∀ k, i ≤ k → k < j → p (s.getD k 0) = true
  stop : j < s.length → p (s.getD j 0) = false
end Go.Proofs.YtejiaegiijokcaaGreatDoor


set_option linter.unusedVariables false
namespace Go.Proofs.YtejiaegiijokcaaGreatDoor
open Go.Proofs Go.IntWalk Go.RowKit
variable {σ : Out} {w : World} {L L' : List Chunk} {R : Ending → World → Prop}
theorem RefsAt.mem {lk : Option Nat} {ents : List RefE} {RM : List Chunk} (h : RefsAt lk ents RM) {e : RefE} (he : e ∈ ents) : refC e ∈ RM := by
  rcases h with ⟨_, rfl, _⟩ | ⟨m, es, clock, _, _, rfl⟩
  · cases he
  · exact .tail _ (List.mem_map.2 ⟨e, he, rfl⟩)
end Go.Proofs.YtejiaegiijokcaaGreatDoor


set_option linter.unusedVariables false
set_option maxRecDepth 20000
namespace Go.Proofs.YtejiaegiijokcaaGreatDoor
open Go.Proofs
namespace g_line_trimSetext
noncomputable def body : Code := bodyOf Tryz.f141
def bl1 (R : EP) (Xa : OA → Nat → Int → WP) (x1 : OA) (x5 : Nat) (x6 : Int) (w : World) : Prop :=
 callE P i_line_trim #[.pointer (some ⟨x5, 0, none⟩), .int .u8 x6] (fun e w19 => ∃ (r18 : Bool), e = .returned (.bool r18) ∧
 br r18
 (Xa x1 x5 x6 w19)
 (callE P i_line_skipSpace #[.pointer (some ⟨x5, 0, none⟩)] (fun e w21 => e = .returned (.tuple #[]) ∧
 callE P i_line_eof #[.pointer (some ⟨x5, 0, none⟩)] (fun e w23 => ∃ (r22 : Bool), e = .returned (.bool r22) ∧
 br r22
 (br (x6 == 61)
 (nilP x1 fun a24 =>
 stV w23 (a24.add 0) (.int .i64 1) fun w25 =>
 R (.returned (.bool true)) w25)
 (nilP x1 fun a26 =>
 stV w23 (a26.add 0) (.int .i64 2) fun w27 =>
 R (.returned (.bool true)) w27))
 (R (.returned (.bool false)) w23)) w21) w19)) w
def l1 (R : EP) (x1 : OA) (x5 : Nat) (x6 : Int) (w : World) : Prop :=
  ∀ X : OA → Nat → Int → WP, (∀ x1 x5 x6 w, bl1 R X x1 x5 x6 w → X x1 x5 x6 w) → X x1 x5 x6 w

noncomputable def al1 (R : EP) (Xa : OA → Nat → Int → WP) : AC :=
  (.leaf (sel [1, 1, 1, 1, 0, 1, 0, 0, 0, 0] body))
def k1 (R : EP) (x1 : OA) (x5 : Nat) (x6 : Int) (x17 : Bool) (w : World) : Prop :=
 br x17
 (l1 R x1 x5 x6 w)
 (R (.returned (.bool false)) w)

end g_line_trimSetext
def g_line_trimSetext (R : EP) (x0 : OA) (x1 : OA) (w : World) : Prop :=
 nilP x0 fun a1 =>
 ∃ (v2 : Int), w.cell? (a1.add 0) = some (.int .i64 v2) ∧
 ∃ (v3 : Int), w.cell? (a1.add 1) = some (.int .i64 v3) ∧
 ∃ (v4 : Int), w.cell? (a1.add 2) = some (.int .i64 v4) ∧
 ∃ (v5 : BA), w.cell? (a1.add 3) = some (.string v5) ∧
 ∃ (v6 : Int), w.cell? (a1.add 4) = some (.int .u8 v6) ∧
 box w #[.int .i64 0, .int .i64 0, .int .i64 0, .string (ByteArray.mk #[]), .int .u8 0] ty_line fun b7 w8 =>
 stV w8 ⟨b7, 0, none⟩ (.int .i64 v2) fun w9 =>
 stV w9 ⟨b7, 1, none⟩ (.int .i64 v3) fun w10 =>
 stV w10 ⟨b7, 2, none⟩ (.int .i64 v4) fun w11 =>
 stV w11 ⟨b7, 3, none⟩ (.string v5) fun w12 =>
 stV w12 ⟨b7, 4, none⟩ (.int .u8 v6) fun w13 =>
 callE P i_line_trimSpace #[.pointer (some ⟨b7, 0, none⟩), .int .i64 0, .int .i64 3, .bool false] (fun e w15 => ∃ (r14 : Bool), e = .returned (.bool r14) ∧
 callE P i_line_peek #[.pointer (some ⟨b7, 0, none⟩)] (fun e w17 => ∃ (r16 : Int), e = .returned (.int .u8 r16) ∧
 g_line_trimSetext.k1 R x1 b7 r16 ((r16 == 45) || (r16 == 61)) w17) w15) w13

noncomputable def g_line_trimSetext.ac (R : EP) : AC :=
  (.seq (.leaf (sel [0] g_line_trimSetext.body)) (.seq (.leaf (sel [1, 0] g_line_trimSetext.body)) (.seq (.leaf (sel [1, 1, 0] g_line_trimSetext.body)) (.seq (.leaf (sel [1, 1, 1, 0] g_line_trimSetext.body)) (.seq (.seq (.leaf (sel [1, 1, 1, 1, 0, 0] g_line_trimSetext.body)) (.mark (leaf [(1, .s .ptr), (5, .s .loc), (6, .s (.int .u8)), (17, .s .bool)] (g_line_trimSetext.k1 R)) (.cond 17 (.seq (.block 0 (.loop (leaf [(1, .s .ptr), (5, .s .loc), (6, .s (.int .u8))] (g_line_trimSetext.l1 R)) (sel [1, 1, 1, 1, 0, 1, 0, 0, 0, 0] g_line_trimSetext.body))) (.leaf (sel [1, 1, 1, 1, 0, 1, 0, 1] g_line_trimSetext.body))) (.leaf (sel [1, 1, 1, 1, 0, 1, 1] g_line_trimSetext.body))))) (.leaf (sel [1, 1, 1, 1, 1] g_line_trimSetext.body)))))))
theorem g_line_trimSetext.good (R : EP) : Good P 28 (g_line_trimSetext.ac R) (QF P [.tmp 4] R) :=
  ⟨trivial, ⟨trivial, ⟨trivial, ⟨trivial, ⟨⟨trivial, ⟨⟨⟨(loopG (g_line_trimSetext.al1 R) (g_line_trimSetext.bl1 R) (fun _ => by kernel_rfl) (fun Xa => trivial) (fun Xa => by intro x1 x5 x6 ρ w; kernel_rfl) (fun X h _ _ _ _ g => g X h)), trivial⟩, trivial⟩, cutE (by intro x1 x5 x6 x17 ρ w; kernel_rfl)⟩⟩, trivial⟩⟩⟩⟩⟩
theorem g_line_trimSetext.eq (R : EP) (x0 : OA) (x1 : OA) (w : World) : g_line_trimSetext R x0 x1 w = vcA P 28 (g_line_trimSetext.ac R) (QF P [.tmp 4] R) (fr0 [.pointer x0, .pointer x1]) w := by kernel_rfl
theorem g_line_trimSetext.sound {R : EP} {x0 : OA} {x1 : OA} {w : World} (h : g_line_trimSetext R x0 x1 w) : callE P i_line_trimSetext #[.pointer x0, .pointer x1] R w :=
  callE_fin (c := g_line_trimSetext.body) Tryz.func141 Tryz.call141 (by kernel_rfl) (by kernel_rfl) (by kernel_rfl) (by kernel_rfl) (by kernel_rfl) (g_line_trimSetext.good R) (g_line_trimSetext.eq R x0 x1 w) h
namespace g_paraBuilder_extend
noncomputable def body : Code := bodyOf Tryz.f296
end g_paraBuilder_extend
def g_paraBuilder_extend (R : EP) (x0 : OA) (x1 : OA) (x2_0 : Int) (x2_1 : Int) (x2_2 : Int) (x2_3 : BA) (x2_4 : Int) (w : World) : Prop :=
 box w #[.int .i64 x2_0, .int .i64 x2_1, .int .i64 x2_2, .string x2_3, .int .u8 x2_4] ty_line fun b1 w2 =>
 box w2 #[.int .i64 0, .int .i64 0, .int .i64 0, .string (ByteArray.mk #[]), .int .u8 0] ty_line fun b3 w4 =>
 ∃ (v5 : Int), w4.cell? ⟨b1, 0, none⟩ = some (.int .i64 v5) ∧
 ∃ (v6 : Int), w4.cell? ⟨b1, 1, none⟩ = some (.int .i64 v6) ∧
 ∃ (v7 : Int), w4.cell? ⟨b1, 2, none⟩ = some (.int .i64 v7) ∧
 ∃ (v8 : BA), w4.cell? ⟨b1, 3, none⟩ = some (.string v8) ∧
 ∃ (v9 : Int), w4.cell? ⟨b1, 4, none⟩ = some (.int .u8 v9) ∧
 stV w4 ⟨b3, 0, none⟩ (.int .i64 v5) fun w10 =>
 stV w10 ⟨b3, 1, none⟩ (.int .i64 v6) fun w11 =>
 stV w11 ⟨b3, 2, none⟩ (.int .i64 v7) fun w12 =>
 stV w12 ⟨b3, 3, none⟩ (.string v8) fun w13 =>
 stV w13 ⟨b3, 4, none⟩ (.int .u8 v9) fun w14 =>
 ∃ (v15 : Int), w14.cell? ⟨b3, 0, none⟩ = some (.int .i64 v15) ∧
 ∃ (v16 : Int), w14.cell? ⟨b3, 1, none⟩ = some (.int .i64 v16) ∧
 ∃ (v17 : Int), w14.cell? ⟨b3, 2, none⟩ = some (.int .i64 v17) ∧
 ∃ (v18 : BA), w14.cell? ⟨b3, 3, none⟩ = some (.string v18) ∧
 ∃ (v19 : Int), w14.cell? ⟨b3, 4, none⟩ = some (.int .u8 v19) ∧
 R (.returned (.tuple #[.agg #[.int .i64 v15, .int .i64 v16, .int .i64 v17, .string v18, .int .u8 v19], .bool false])) w14

noncomputable def g_paraBuilder_extend.ac (R : EP) : AC :=
  (.leaf (sel [] g_paraBuilder_extend.body))
theorem g_paraBuilder_extend.good (R : EP) : Good P 9 (g_paraBuilder_extend.ac R) (QF P [.cell 6 107, .tmp 7] R) :=
  trivial
theorem g_paraBuilder_extend.eq (R : EP) (x0 : OA) (x1 : OA) (x2_0 : Int) (x2_1 : Int) (x2_2 : Int) (x2_3 : BA) (x2_4 : Int) (w : World) : g_paraBuilder_extend R x0 x1 x2_0 x2_1 x2_2 x2_3 x2_4 w = vcA P 9 (g_paraBuilder_extend.ac R) (QF P [.cell 6 107, .tmp 7] R) (fr0 [.pointer x0, .pointer x1, .agg #[.int .i64 x2_0, .int .i64 x2_1, .int .i64 x2_2, .string x2_3, .int .u8 x2_4]]) w := by kernel_rfl
theorem g_paraBuilder_extend.sound {R : EP} {x0 : OA} {x1 : OA} {x2_0 : Int} {x2_1 : Int} {x2_2 : Int} {x2_3 : ByteArray} {x2_4 : Int} {w : World} (h : g_paraBuilder_extend R x0 x1 x2_0 x2_1 x2_2 x2_3 x2_4 w) : callE P i_paraBuilder_extend #[.pointer x0, .pointer x1, .agg #[.int .i64 x2_0, .int .i64 x2_1, .int .i64 x2_2, .string x2_3, .int .u8 x2_4]] R w :=
  callE_fin (c := g_paraBuilder_extend.body) Tryz.func296 Tryz.call296 (by kernel_rfl) (by kernel_rfl) (by kernel_rfl) (by kernel_rfl) (by kernel_rfl) (g_paraBuilder_extend.good R) (g_paraBuilder_extend.eq R x0 x1 x2_0 x2_1 x2_2 x2_3 x2_4 w) h
end Go.Proofs.YtejiaegiijokcaaGreatDoor

set_option linter.unusedVariables false
namespace Go.Proofs.YtejiaegiijokcaaGreatDoor
open Go.Proofs Go.IntWalk Go.RowKit
variable {σ : Out} {w : World} {L L' : List Chunk} {R : Ending → World → Prop}
structure TX where
  t : Nat
  s : Nat
  e : Nat
  raw : List UInt8
def TX.chunk (x : TX) : Chunk := textC x.t x.s x.e none 0 0 x.raw
structure DB where
  v : Value
  own : List Chunk
  txs : List TX
def ownC (D : List DB) : List Chunk := D.flatMap DB.own
def txsC (D : List DB) : List TX := D.flatMap DB.txs
theorem ownC_snoc (D : List DB) (d : DB) : ownC (D ++ [d]) = ownC D ++ d.own := by simp [ownC]
theorem txsC_snoc (D : List DB) (d : DB) : txsC (D ++ [d]) = txsC D ++ d.txs := by simp [txsC]
def paraOB (qb s e : Nat) : OB := ⟨.iface ty_P_paraBuilder (.pointer (some ⟨qb, 0, none⟩)), none, 0, 0, s, e⟩
theorem lines_join {q : Option Addr} {n c : Nat} {ts : List (List UInt8)} {AM : List Chunk} (hS : Sl 1 ty_string q n c (ts.map fun t => .string (bs t)) AM) (h : Sat σ w (AM ++ L)) (hne : ts ≠ []) (hn : ts.length < 1048576)
    (h0 : joinL [10] ts ≠ []) (hb : (joinL [10] ts).length < 1073741824) (hR : ∀ w, Sat σ w (AM ++ L) → R (.returned (.string (bs (joinL [10] ts)))) w) : callE P i_strings_Join #[.slice q n c, .string (bs [10])] R w := by
  have hl := hS.1
  simp only [List.length_map, Nat.mul_one] at hl
  match ts, hne with
  | [t], _ =>
    obtain rfl : n = 1 := by simpa using hl.symm
    have e : joinL [10] [t] = t := by simp [joinL]
    rw [e] at hR
    exact join_one h hS hR
  | t :: u :: ts, _ =>
    exact join_ok (t := t) (ts := u :: ts) hS h (by simp) (by omega) (by decide) (List.length_pos_iff.2 h0) hb hR
theorem paraBuild_ok {b qb : Nat} {p : PS} {ob : List OB} {o : OB} {M TM PM : List Chunk} {ts : List Nat} {ls : List (List UInt8)} {s : List UInt8} (h : Sat σ w (p.at b :: M ++ (TM ++ (PM ++ L)))) (hs : Stk p (ob ++ [o]) M)
    (ht : Txts p ts TM) (hts : ts.length < 1048575) (hp : ParaAt qb ls PM) (hls : ls ≠ []) (hln : ls.length < 1048576) (hj : joinL [10] ls = s) (hl : s.length < 1073741824) (hne : s ≠ []) (hb : NoRef s) (ho : o.s < 1000000000)
    (hR : ∀ w p' TM' t nb, p' = { p with tq := p'.tq, tn := ts.length + 1, tc := p'.tc } → Txts p' (ts ++ [t]) TM' →
      Sat σ w (p'.at b :: M ++ (TM' ++ (PM ++ (paraC nb o.s (o.s + ls.length - 1) t :: textC t o.s (o.s + ls.length - 1) none 0 0 s :: L)))) → R (.returned (.iface ty_P_Paragraph (.pointer (some ⟨nb, 0, none⟩)))) w) :
    callE P i_paraBuilder_build #[.pointer (some ⟨qb, 0, none⟩), .iface ty_P_parseState (.pointer (some ⟨b, 0, none⟩))] R w := by
  obtain ⟨q, c, SM, hS, rfl⟩ := hp
  have hll : 1 ≤ ls.length := List.length_pos_iff.2 hls
  refine g_paraBuilder_build.sound ?_
  have h : Sat σ w (p.at b :: M ++ (TM ++ (((qb, cel [.slice q ls.length c, .pointer none] ty_paraBuilder) :: SM) ++ L))) := h
  have h : Sat σ w ((qb, cel [.slice q ls.length c, .pointer none] ty_paraBuilder) :: (SM ++ (p.at b :: M ++ (TM ++ L)))) := h.re (by intro _; simp only [List.append_eq, cnt_append, cnt_cons, cnt_nil] <;> omega)
  repeat (first | refine nilP_some ?_ | refine Sat.tk h fun w h => ?_ | refine ⟨_, Sat.ld h (by first | assumption | (repeat (first | exact .head _ | apply List.Mem.tail))) (by exact rfl), ?_⟩ | refine ⟨_, _, _, Sat.ld h (by first | assumption | (repeat (first | exact .head _ | apply List.Mem.tail))) (by exact rfl), ?_⟩)
  refine ⟨_, w, ne_ptr_nil und_table _ _ _ w, br_false rfl ?_⟩
  repeat (first | refine nilP_some ?_ | refine Sat.tk h fun w h => ?_ | refine ⟨_, Sat.ld h (by first | assumption | (repeat (first | exact .head _ | apply List.Mem.tail))) (by exact rfl), ?_⟩ | refine ⟨_, _, _, Sat.ld h (by first | assumption | (repeat (first | exact .head _ | apply List.Mem.tail))) (by exact rfl), ?_⟩)
  have h : Sat σ w (SM ++ ((qb, cel [.slice q ls.length c, .pointer none] ty_paraBuilder) :: (p.at b :: M ++ (TM ++ L)))) := h.re (by intro _; simp only [List.append_eq, cnt_append, cnt_cons, cnt_nil] <;> omega)
  refine lines_join hS h hls hln (by rw [hj]; exact hne) (by rw [hj]; exact hl) fun w h => ⟨_, rfl, ?_⟩
  rw [hj]
  intro X hX
  have hse : ((bs s).toList == (ByteArray.mk #[]).toList) = false := by rw [bs_toList, mk_toList]; simpa using hne
  refine hX _ _ _ _ (br_true (by rw [hse]; rfl) ?_)
  refine hb _ _ _ ⟨_, _, rfl, br_true rfl ?_⟩
  refine br_false hse ?_
  have h : Sat σ w (p.at b :: M ++ (TM ++ (SM ++ (qb, cel [.slice q ls.length c, .pointer none] ty_paraBuilder) :: L))) := h.re (by intro _; simp only [List.append_eq, cnt_append, cnt_cons, cnt_nil] <;> omega)
  refine enter_meth meth_pos ?_
  refine pos_ok h hs fun w h => ⟨_, _, rfl, ?_⟩
  refine Sat.bx h fun zb w h => ?_
  repeat (first | refine nilP_some ?_ | refine Sat.tk h fun w h => ?_ | refine ⟨_, Sat.ld h (by first | assumption | (repeat (first | exact .head _ | apply List.Mem.tail))) (by exact rfl), ?_⟩ | refine ⟨_, _, _, Sat.ld h (by first | assumption | (repeat (first | exact .head _ | apply List.Mem.tail))) (by exact rfl), ?_⟩ | refine Sat.st h (k := 0) rfl (Nat.le_of_ble_eq_true rfl) trivial (by first | (dsimp only [List.set]; exact rfl) | exact rfl) fun w h => ?_ | refine Sat.st h (k := 1) rfl (Nat.le_of_ble_eq_true rfl) trivial (by first | (dsimp only [List.set]; exact rfl) | exact rfl) fun w h => ?_ | refine Sat.st h (k := 2) rfl (Nat.le_of_ble_eq_true rfl) trivial (by first | (dsimp only [List.set]; exact rfl) | exact rfl) fun w h => ?_ | refine Sat.st h (k := 3) rfl (Nat.le_of_ble_eq_true rfl) trivial (by first | (dsimp only [List.set]; exact rfl) | exact rfl) fun w h => ?_ | refine Sat.st h (k := 4) rfl (Nat.le_of_ble_eq_true rfl) trivial (by first | (dsimp only [List.set]; exact rfl) | exact rfl) fun w h => ?_ | refine Sat.st h (k := 5) rfl (Nat.le_of_ble_eq_true rfl) trivial (by first | (dsimp only [List.set]; exact rfl) | exact rfl) fun w h => ?_ | refine Sat.st h (k := 6) rfl (Nat.le_of_ble_eq_true rfl) trivial (by first | (dsimp only [List.set]; exact rfl) | exact rfl) fun w h => ?_ | refine Sat.bx h fun b0 w h => ?_)
  have h : Sat σ _ ((zb, cel [.int .i64 o.s, .int .i64 o.e] ty_Position) :: (p.at b :: M ++ (TM ++ (SM ++ (qb, cel [.slice q ls.length c, .pointer none] ty_paraBuilder) :: L)))) := h
  have h : Sat σ _ ((zb, cel [.int .i64 o.s, .int .i64 o.e] ty_Position) :: (qb, cel [.slice q ls.length c, .pointer none] ty_paraBuilder) :: (p.at b :: M ++ (TM ++ (SM ++ L)))) := h.re (by intro _; simp only [List.append_eq, cnt_append, cnt_cons, cnt_nil] <;> omega)
  refine ⟨_, _, _, Sat.ld h (by first | assumption | (repeat (first | exact .head _ | apply List.Mem.tail))) (by exact rfl), ?_⟩
  refine Sat.st h (k := 0) rfl (Nat.le_of_ble_eq_true rfl) trivial (by first | (dsimp only [List.set]; exact rfl) | exact rfl) fun w h => ?_
  refine Sat.tk h fun w h => ?_
  refine ⟨_, Sat.ld h (by first | assumption | (repeat (first | exact .head _ | apply List.Mem.tail))) (by exact rfl), ?_⟩
  refine ⟨_, Sat.ld h (by first | assumption | (repeat (first | exact .head _ | apply List.Mem.tail))) (by exact rfl), ?_⟩
  refine ⟨_, Sat.ld h (by first | assumption | (repeat (first | exact .head _ | apply List.Mem.tail))) (by exact rfl), ?_⟩
  refine ⟨_, Sat.ld h (by first | assumption | (repeat (first | exact .head _ | apply List.Mem.tail))) (by exact rfl), ?_⟩
  have e1 : IntKind.i64.wrap (IntKind.i64.wrap ((o.s : Int) + ((ls.length : Nat) : Int)) - 1) = ((o.s + ls.length - 1 : Nat) : Int) := by
    rw [i64_in (_ + _) (by omega), i64_in _ (by omega)]; omega
  rw [e1] at h ⊢
  have h : Sat σ _ ((zb, cel [.int .i64 o.s, .int .i64 (o.s + ls.length - 1 : Nat)] ty_Position) :: (qb, cel [.slice q ls.length c, .pointer none] ty_paraBuilder) :: (p.at b :: M ++ (TM ++ (SM ++ L)))) := h
  have hz := h
  have h : Sat σ _ (p.at b :: TM ++ ((zb, cel [.int .i64 o.s, .int .i64 (o.s + ls.length - 1 : Nat)] ty_Position) :: (qb, cel [.slice q ls.length c, .pointer none] ty_paraBuilder) :: (M ++ (SM ++ L)))) := h.re (by intro _; simp only [List.append_eq, cnt_append, cnt_cons, cnt_nil] <;> omega)
  refine enter_meth meth_newText ?_
  refine newText_ok h ht hts fun w p' TM' t hp' ht' h => ⟨_, rfl, ?_⟩
  refine ⟨hz.same h (.head _) (by simp) 2, ?_⟩
  refine Sat.bx h fun nb w h => ?_
  have h : Sat σ w (paraC nb o.s (o.s + ls.length - 1) t :: (p'.at b :: TM' ++ (textC t o.s (o.s + ls.length - 1) none 0 0 s :: ((zb, cel [.int .i64 o.s, .int .i64 (o.s + ls.length - 1 : Nat)] ty_Position) :: (qb, cel [.slice q ls.length c, .pointer none] ty_paraBuilder) :: (M ++ (SM ++ L)))))) := h
  refine hR w p' TM' t nb hp' ht' ?_
  have h := Sat.less (L' := p'.at b :: M ++ (TM' ++ (((qb, cel [.slice q ls.length c, .pointer none] ty_paraBuilder) :: SM) ++ (paraC nb o.s (o.s + ls.length - 1) t :: textC t o.s (o.s + ls.length - 1) none 0 0 s :: L)))) [(zb, cel [.int .i64 o.s, .int .i64 (o.s + ls.length - 1 : Nat)] ty_Position)] h (by intro _; simp only [List.append_eq, cnt_append, cnt_cons, cnt_nil] <;> omega)
  exact h
theorem closePara_ok {b qb : Nat} {p : PS} {ob : List OB} {par o : OB} {M TM PM IM : List Chunk} {inner : List Value} {ts : List Nat} {ls : List (List UInt8)} {s : List UInt8} (h : Sat σ w (p.at b :: M ++ (IM ++ (TM ++ (PM ++ L))))) (hs : Stk p (ob ++ [par] ++ [o]) M)
    (ho : o.bd = .iface ty_P_paraBuilder (.pointer (some ⟨qb, 0, none⟩))) (hI : Sl 1 ty_Block par.q par.n par.c inner IM) (hin : par.n < 1000000)
    (ht : Txts p ts TM) (hts : ts.length < 1048575) (hp : ParaAt qb ls PM) (hls : ls ≠ []) (hln : ls.length < 1048576) (hj : joinL [10] ls = s) (hl : s.length < 1073741824) (hne : s ≠ []) (hb : NoRef s) (hos : o.s < 1000000000)
    (hR : ∀ w p' M' IM' TM' t nb q' c' x, p' = { p with stn := ob.length + 1, tq := p'.tq, tn := ts.length + 1, tc := p'.tc } → Stk p' (ob ++ [{ par with q := q', n := par.n + 1, c := c' }]) M' → Txts p' (ts ++ [t]) TM' →
      Sl 1 ty_Block q' (par.n + 1) c' (inner ++ [.iface ty_P_Paragraph (.pointer (some ⟨nb, 0, none⟩))]) IM' →
      Sat σ w (p'.at b :: M' ++ (IM' ++ (TM' ++ (paraC nb o.s (o.s + ls.length - 1) t :: textC t o.s (o.s + ls.length - 1) none 0 0 s :: L)))) → R (.returned x) w) :
    callE P i_parseState_closeBlock #[.pointer (some ⟨b, 0, none⟩)] R w := by
  refine closeBlock_ok (ob := ob) (par := par) (IM := IM) (inner := inner) (fun p1 L1 tb q => ∃ TM' t nb, p1 = { p with tq := p1.tq, tn := ts.length + 1, tc := p1.tc } ∧ Txts p1 (ts ++ [t]) TM' ∧
      L1 = TM' ++ (PM ++ (paraC nb o.s (o.s + ls.length - 1) t :: textC t o.s (o.s + ls.length - 1) none 0 0 s :: L)) ∧ tb = ty_P_Paragraph ∧ q = some ⟨nb, 0, none⟩) h hs ho hI hin ?_ ?_
  · intro R' w h hk
    rw [ho]
    have h : Sat σ w (p.at b :: M ++ (TM ++ (PM ++ (IM ++ L)))) := h.re (by intro _; simp only [List.append_eq, cnt_append, cnt_cons, cnt_nil] <;> omega)
    refine enter_meth meth_paraBuild ?_
    refine paraBuild_ok (ob := ob ++ [par]) (o := o) (ts := ts) h hs ht hts hp hls hln hj hl hne hb hos fun w p' TM' t nb hp' ht' h => ?_
    exact hk w p' _ ty_P_Paragraph _ (by rw [hp']) (by rw [hp']) (by rw [hp']) (by decide) ⟨TM', t, nb, hp', ht', rfl, rfl, rfl⟩ (h.re (by intro _; simp only [List.append_eq, cnt_append, cnt_cons, cnt_nil] <;> omega))
  · intro w p2 M2 IM2 p1 L1 tb q q' c' hpost hp2 hs2 hI2 h
    obtain ⟨TM', t, nb, hp1, ht1, rfl, rfl, rfl⟩ := hpost
    refine hR w p2 M2 IM2 TM' t nb q' c' _ ?_ hs2 (ht1.of (by rw [hp2]) (by rw [hp2]) (by rw [hp2])) hI2 (h.less PM (by intro _; simp only [List.append_eq, cnt_append, cnt_cons, cnt_nil] <;> omega))
    rw [hp2, hp1]
end Go.Proofs.YtejiaegiijokcaaGreatDoor


set_option linter.unusedVariables false
namespace Go.Proofs.YtejiaegiijokcaaGreatDoor
open Go.Proofs Go.IntWalk Go.RowKit
variable {σ : Out} {w : World} {L L' : List Chunk} {R : Ending → World → Prop}
inductive Leaf where
  | none
  | para (ls : List (List UInt8))
def LeafAt : Leaf → List OB → List Chunk → Prop
  | .none, ob, M => ob = [] ∧ M = []
  | .para ls, ob, M => ∃ qb s e, ob = [paraOB qb s e] ∧ ParaAt qb ls M ∧ s < 1000000000 ∧ ls ≠ [] ∧ ls.length < 1048570
def rootV (rb : Nat) : Value := .iface ty_P_rootBuilder (.pointer (some ⟨rb, 0, none⟩))
def DocS (σ : Out) (b rb : Nat) (L : List Chunk) (D : List DB) (lf : Leaf) (p : PS) (w : World) : Prop :=
  ∃ r obs M TM IM LM, r.bd = rootV rb ∧ Stk p (r :: obs) M ∧ Txts p ((txsC D).map TX.t) TM ∧ Sl 1 ty_Block r.q r.n r.c (D.map DB.v) IM ∧ LeafAt lf obs LM ∧
    Sat σ w (p.at b :: M ++ (IM ++ (TM ++ (LM ++ (ownC D ++ ((txsC D).map TX.chunk ++ L))))))
def PS.base (p : PS) : PS := { p with lineno := 0, stq := none, stn := 0, stc := 0, depth := 0, corner := false, tq := none, tn := 0, tc := 0 }
def paraDB (nb t s e : Nat) (raw : List UInt8) : DB := ⟨.iface ty_P_Paragraph (.pointer (some ⟨nb, 0, none⟩)), [paraC nb s e t], [⟨t, s, e, raw⟩]⟩
def LeafClosed (lf : Leaf) (D : List DB) (D' : List DB) : Prop :=
  match lf with
  | .none => D' = D
  | .para ls => ∃ nb t s e, D' = D ++ [paraDB nb t s e (joinL [10] ls)]
def Leaf.fin : Leaf → Prop
  | .none => True
  | .para ls => (joinL [10] ls).length < 1073741824 ∧ joinL [10] ls ≠ [] ∧ ((joinL [10] ls).dropWhile isSTN).head? ≠ some 91
def Leaf.finN : Leaf → Prop
  | .none => True
  | .para ls => (joinL [10] ls).length < 1073741824 ∧ joinL [10] ls ≠ [] ∧ NoRef (joinL [10] ls)
theorem closeLeaf_ok {b rb : Nat} {p : PS} {D : List DB} {ls : List (List UInt8)} (h : DocS σ b rb L D (.para ls) p w) (hf : Leaf.finN (.para ls)) (hD : D.length < 100000) (hX : (txsC D).length < 100000)
    (hR : ∀ w p' D' x, p'.base = p.base → p'.depth = p.depth → p'.lineno = p.lineno → p'.stn = 1 → LeafClosed (.para ls) D D' → DocS σ b rb L D' .none p' w → R (.returned x) w) :
    callE P i_parseState_closeBlock #[.pointer (some ⟨b, 0, none⟩)] R w := by
  obtain ⟨r, obs, M, TM, IM, LM, hr, hs, ht, hI, ⟨qb, s, e, rfl, hp, hs1, hne, hln⟩, h⟩ := h
  obtain ⟨hf1, hf2, hf3⟩ := hf
  have hIl := hI.1
  simp only [List.length_map, Nat.mul_one] at hIl
  refine closePara_ok (ob := []) (par := r) (o := paraOB qb s e) h hs rfl hI (by omega) ht (by simp; omega) hp hne (by omega) rfl hf1 hf2 hf3 (by exact hs1) fun w p' M' IM' TM' t nb q' c' x hp' hs' ht' hI' h => ?_
  refine hR w p' (D ++ [paraDB nb t s (s + ls.length - 1) (joinL [10] ls)]) x (by rw [hp']; rfl) (by rw [hp']) (by rw [hp']) (by rw [hp']; rfl) ⟨nb, t, s, _, rfl⟩ ?_
  refine ⟨{ r with q := q', n := r.n + 1, c := c' }, [], M', TM', IM', [], hr, hs', ?_, ?_, ⟨rfl, rfl⟩, ?_⟩
  · rw [txsC_snoc, List.map_append]; exact ht'
  · rw [List.map_append]; exact hI'
  · rw [ownC_snoc, txsC_snoc, List.map_append]
    have h : Sat σ w (p'.at b :: M' ++ (IM' ++ (TM' ++ (paraC nb s (s + ls.length - 1) t :: textC t s (s + ls.length - 1) none 0 0 (joinL [10] ls) :: (ownC D ++ ((txsC D).map TX.chunk ++ L)))))) := h
    show Sat σ w (p'.at b :: M' ++ (IM' ++ (TM' ++ ([] ++ ((ownC D ++ [paraC nb s (s + ls.length - 1) t]) ++ (((txsC D).map TX.chunk ++ [textC t s (s + ls.length - 1) none 0 0 (joinL [10] ls)]) ++ L))))))
    exact h.re (by intro _; simp only [List.append_eq, cnt_append, cnt_cons, cnt_nil] <;> omega)
theorem DocS.upd {b rb : Nat} {D : List DB} {lf : Leaf} {p p' : PS} {w' : World} (h : DocS σ b rb L D lf p w) (h1 : p'.stq = p.stq) (h2 : p'.stn = p.stn) (h3 : p'.stc = p.stc) (h4 : p'.tq = p.tq) (h5 : p'.tn = p.tn) (h6 : p'.tc = p.tc)
    (hw : ∀ K, Sat σ w (p.at b :: K) → Sat σ w' (p'.at b :: K)) : DocS σ b rb L D lf p' w' := by
  obtain ⟨r, obs, M, TM, IM, LM, hr, hs, ht, hI, hL, h⟩ := h
  exact ⟨r, obs, M, TM, IM, LM, hr, hs.of h1 h2 h3, ht.of h4 h5 h6, hI, hL, hw _ h⟩
theorem meth_paraExtend : methB P ty_P_paraBuilder "pub-paratext/pub/rscmarkdown.extend" i_paraBuilder_extend = true := by kernel_rfl
theorem paraExtend_ok {q1 q2 : Option Addr} {l : Ln} (h : Sat σ w L) (hR : ∀ w, Sat σ w L → R (.returned (.tuple #[l.val, .bool false])) w) : callE P i_paraBuilder_extend #[.pointer q1, .pointer q2, l.val] R w := by
  refine g_paraBuilder_extend.sound ?_
  refine Sat.bx h fun b1 w h => ?_
  refine Sat.bx h fun b3 w h => ?_
  repeat (first | refine nilP_some ?_ | refine Sat.tk h fun w h => ?_ | refine ⟨_, Sat.ld h (by first | assumption | (repeat (first | exact .head _ | apply List.Mem.tail))) (by exact rfl), ?_⟩ | refine ⟨_, _, _, Sat.ld h (by first | assumption | (repeat (first | exact .head _ | apply List.Mem.tail))) (by exact rfl), ?_⟩ | refine Sat.st h (k := 0) rfl (Nat.le_of_ble_eq_true rfl) trivial (by first | (dsimp only [List.set]; exact rfl) | exact rfl) fun w h => ?_ | refine Sat.st h (k := 1) rfl (Nat.le_of_ble_eq_true rfl) trivial (by first | (dsimp only [List.set]; exact rfl) | exact rfl) fun w h => ?_ | refine Sat.st h (k := 2) rfl (Nat.le_of_ble_eq_true rfl) trivial (by first | (dsimp only [List.set]; exact rfl) | exact rfl) fun w h => ?_ | refine Sat.st h (k := 3) rfl (Nat.le_of_ble_eq_true rfl) trivial (by first | (dsimp only [List.set]; exact rfl) | exact rfl) fun w h => ?_ | refine Sat.st h (k := 4) rfl (Nat.le_of_ble_eq_true rfl) trivial (by first | (dsimp only [List.set]; exact rfl) | exact rfl) fun w h => ?_ | refine Sat.st h (k := 5) rfl (Nat.le_of_ble_eq_true rfl) trivial (by first | (dsimp only [List.set]; exact rfl) | exact rfl) fun w h => ?_ | refine Sat.st h (k := 6) rfl (Nat.le_of_ble_eq_true rfl) trivial (by first | (dsimp only [List.set]; exact rfl) | exact rfl) fun w h => ?_ | refine Sat.bx h fun b0 w h => ?_)
  exact hR _ h.tail.tail
theorem lineFields : (P.fieldsOf ty_line).toList.map (fun f => (f.name == "_", f.type, f.offset)) = [(false, ty_int, 0), (false, ty_int, 1), (false, ty_int, 2), (false, ty_string, 3), (false, ty_uint8, 4)] := by kernel_rfl
theorem eqFields_run {xs ys : Array Value} : ∀ {fs : List Field} {gs : List (TypeId × Nat)}, fs.map (fun f => (f.name == "_", f.type, f.offset)) = gs.map (fun g => (false, g.1, g.2)) →
    (∀ g ∈ gs, ∃ v, (part g.1 xs g.2).run P w = .ok v w ∧ (part g.1 ys g.2).run P w = .ok v w ∧ (Op.equalIn 9999 g.1 v v).run P w = .ok true w) → (Op.eqFields 9999 xs ys fs).run P w = .ok true w
  | [], [], _, _ => rfl
  | [], g :: gs, h, _ => by simp at h
  | f :: fs, [], h, _ => by simp at h
  | f :: fs, g :: gs, h, hg => by
    simp only [List.map_cons, List.cons.injEq, Prod.mk.injEq] at h
    obtain ⟨⟨h1, h2, h3⟩, h4⟩ := h
    obtain ⟨v, e1, e2, e3⟩ := hg g (List.mem_cons_self ..)
    have ih := eqFields_run h4 (fun g' hg' => hg g' (List.mem_cons_of_mem _ hg'))
    have hn : f.name ≠ "_" := by simpa using h1
    rw [← h2, ← h3] at e1 e2
    rw [← h2] at e3
    simp only [Op.eqFields, ne_eq, hn, not_false_eq_true, if_true, Sem.run_bind, e1, e2, e3, Result.andThen_ok, Bool.not_true, Bool.false_eq_true, if_false]
    exact ih
theorem und_int : P.underlying ty_int = some (.int .i64) := by kernel_rfl
theorem und_u8 : P.underlying ty_uint8 = some (.int .u8) := by kernel_rfl
theorem und_str : P.underlying ty_string = some .string := by kernel_rfl
theorem part_line {t : TypeId} {d : TypeDesc} (hd : P.underlying t = some d) (h1 : ∀ f, d ≠ .struct f) (h2 : ∀ n e, d ≠ .array n e) {cs : Array Value} {k : Nat} {v : Value} (hv : cs[k]? = some v) (w : World) : (part t cs k).run P w = .ok v w := by
  cases d <;> first | exact absurd rfl (h1 _) | exact absurd rfl (h2 _ _) | simp [part, isAgg, run_underlying hd, hv]
theorem fld_int {t : TypeId} {k : IntKind} (hu : P.underlying t = some (.int k)) {cs : Array Value} {i : Nat} {a : Int} (hv : cs[i]? = some (.int k a)) : ∃ v, (part t cs i).run P w = .ok v w ∧ (part t cs i).run P w = .ok v w ∧ (Op.equalIn 9999 t v v).run P w = .ok true w := by
  have hp := part_line hu (fun _ h => by cases h) (fun _ _ h => by cases h) hv w
  exact ⟨_, hp, hp, by rw [run_equalIn_int w 9998 t k k a a hu, beq_self_eq_true]⟩
theorem fld_str {cs : Array Value} {i : Nat} {a : ByteArray} (hv : cs[i]? = some (.string a)) : ∃ v, (part ty_string cs i).run P w = .ok v w ∧ (part ty_string cs i).run P w = .ok v w ∧ (Op.equalIn 9999 ty_string v v).run P w = .ok true w := by
  have hp := part_line und_str (fun _ h => by cases h) (fun _ _ h => by cases h) hv w
  exact ⟨_, hp, hp, by rw [run_equalIn_string w 9998 ty_string a a und_str, beq_self_eq_true]⟩
theorem neq_line (l : Ln) (x y : Operand) (w : World) : (do eqGuard .neq ty_line x y l.val l.val; binOp .neq ty_line l.val l.val).run P w = .ok (.bool false) w := by
  have hg : (eqGuard .neq ty_line x y l.val l.val).run P w = .ok () w := run_eqGuard_agg w .neq ty_line x y _ _ (by kernel_rfl)
  have hb := run_neq_struct (P := P) w ty_line #[.int .i64 l.sp, .int .i64 l.i, .int .i64 l.tab, .string (bs l.text), .int .u8 l.nl.toNat] #[.int .i64 l.sp, .int .i64 l.i, .int .i64 l.tab, .string (bs l.text), .int .u8 l.nl.toNat]
  have he : (Op.equalIn 10000 ty_line (.agg #[.int .i64 l.sp, .int .i64 l.i, .int .i64 l.tab, .string (bs l.text), .int .u8 l.nl.toNat]) (.agg #[.int .i64 l.sp, .int .i64 l.i, .int .i64 l.tab, .string (bs l.text), .int .u8 l.nl.toNat])).run P w = .ok true w := by
    rw [run_equalIn_struct w 9999 ty_line _ _ (by kernel_rfl) (by kernel_rfl)]
    refine eqFields_run (gs := [(ty_int, 0), (ty_int, 1), (ty_int, 2), (ty_string, 3), (ty_uint8, 4)]) lineFields ?_
    intro g hg
    simp only [List.mem_cons, List.mem_nil_iff, or_false] at hg
    rcases hg with rfl | rfl | rfl | rfl | rfl
    · exact fld_int und_int rfl
    · exact fld_int und_int rfl
    · exact fld_int und_int rfl
    · exact fld_str rfl
    · exact fld_int und_u8 rfl
  rw [Sem.run_bind, hg, Result.andThen_ok]
  refine hb.trans ?_
  rw [he]; rfl
theorem addLine_open {b rb : Nat} {p : PS} {D : List DB} {ls : List (List UInt8)} {l : Ln} (h : DocS σ b rb L D (.para ls) p w) (hl : l.ok)
    (hR : ∀ w b1 b2 p', p' = { p with depth := 0 } → DocS σ b rb (l.at b1 :: l.at b2 :: L) D (.para ls) p' w → g_parseState_addLine.k2 R (some ⟨b, 0, none⟩) b1 w) :
    callE P i_parseState_addLine #[.pointer (some ⟨b, 0, none⟩), l.val] R w := by
  obtain ⟨r, obs, M, TM, IM, LM, hr, hs, ht, hI, ⟨qb, s, e, rfl, hp, hs1, hne, hln⟩, h⟩ := h
  have hn : p.stn = 2 := hs.2.1
  refine g_parseState_addLine.sound ?_
  refine Sat.bx h fun b1 w h => ?_
  repeat (first | refine nilP_some ?_ | refine Sat.tk h fun w h => ?_ | refine ⟨_, Sat.ld h (by first | assumption | (repeat (first | exact .head _ | apply List.Mem.tail))) (by exact rfl), ?_⟩ | refine ⟨_, _, _, Sat.ld h (by first | assumption | (repeat (first | exact .head _ | apply List.Mem.tail))) (by exact rfl), ?_⟩ | refine Sat.st h (k := 0) rfl (Nat.le_of_ble_eq_true rfl) trivial (by first | (dsimp only [List.set]; exact rfl) | exact rfl) fun w h => ?_ | refine Sat.st h (k := 1) rfl (Nat.le_of_ble_eq_true rfl) trivial (by first | (dsimp only [List.set]; exact rfl) | exact rfl) fun w h => ?_ | refine Sat.st h (k := 2) rfl (Nat.le_of_ble_eq_true rfl) trivial (by first | (dsimp only [List.set]; exact rfl) | exact rfl) fun w h => ?_ | refine Sat.st h (k := 3) rfl (Nat.le_of_ble_eq_true rfl) trivial (by first | (dsimp only [List.set]; exact rfl) | exact rfl) fun w h => ?_ | refine Sat.st h (k := 4) rfl (Nat.le_of_ble_eq_true rfl) trivial (by first | (dsimp only [List.set]; exact rfl) | exact rfl) fun w h => ?_ | refine Sat.st h (k := 5) rfl (Nat.le_of_ble_eq_true rfl) trivial (by first | (dsimp only [List.set]; exact rfl) | exact rfl) fun w h => ?_ | refine Sat.st h (k := 6) rfl (Nat.le_of_ble_eq_true rfl) trivial (by first | (dsimp only [List.set]; exact rfl) | exact rfl) fun w h => ?_ | refine Sat.bx h fun b0 w h => ?_)
  let p1 : PS := { p with depth := 0 }
  have h : Sat σ _ (l.at b1 :: p1.at b :: (M ++ (IM ++ (TM ++ (LM ++ (ownC D ++ ((txsC D).map TX.chunk ++ L))))))) := h
  intro X hX
  refine hX _ _ _ ?_
  repeat (first | refine nilP_some ?_ | refine Sat.tk h fun w h => ?_ | refine ⟨_, Sat.ld h (by first | assumption | (repeat (first | exact .head _ | apply List.Mem.tail))) (by exact rfl), ?_⟩ | refine ⟨_, _, _, Sat.ld h (by first | assumption | (repeat (first | exact .head _ | apply List.Mem.tail))) (by exact rfl), ?_⟩)
  rw [show p1.stn = 2 from hn]
  refine br_true rfl ?_
  repeat (first | refine nilP_some ?_ | refine Sat.tk h fun w h => ?_ | refine ⟨_, Sat.ld h (by first | assumption | (repeat (first | exact .head _ | apply List.Mem.tail))) (by exact rfl), ?_⟩ | refine ⟨_, _, _, Sat.ld h (by first | assumption | (repeat (first | exact .head _ | apply List.Mem.tail))) (by exact rfl), ?_⟩ | refine Sat.st h (k := 0) rfl (Nat.le_of_ble_eq_true rfl) trivial (by first | (dsimp only [List.set]; exact rfl) | exact rfl) fun w h => ?_ | refine Sat.st h (k := 1) rfl (Nat.le_of_ble_eq_true rfl) trivial (by first | (dsimp only [List.set]; exact rfl) | exact rfl) fun w h => ?_ | refine Sat.st h (k := 2) rfl (Nat.le_of_ble_eq_true rfl) trivial (by first | (dsimp only [List.set]; exact rfl) | exact rfl) fun w h => ?_ | refine Sat.st h (k := 3) rfl (Nat.le_of_ble_eq_true rfl) trivial (by first | (dsimp only [List.set]; exact rfl) | exact rfl) fun w h => ?_ | refine Sat.st h (k := 4) rfl (Nat.le_of_ble_eq_true rfl) trivial (by first | (dsimp only [List.set]; exact rfl) | exact rfl) fun w h => ?_ | refine Sat.st h (k := 5) rfl (Nat.le_of_ble_eq_true rfl) trivial (by first | (dsimp only [List.set]; exact rfl) | exact rfl) fun w h => ?_ | refine Sat.st h (k := 6) rfl (Nat.le_of_ble_eq_true rfl) trivial (by first | (dsimp only [List.set]; exact rfl) | exact rfl) fun w h => ?_ | refine Sat.bx h fun b0 w h => ?_)
  have h : Sat σ _ (l.at b0 :: l.at b1 :: p1.at b :: (M ++ (IM ++ (TM ++ (LM ++ (ownC D ++ ((txsC D).map TX.chunk ++ L))))))) := h
  obtain ⟨sb, sp, hq, hM, hsp⟩ := hs.split (by simp)
  rw [show p1.stn = 2 from hn, show p1.stq = some ⟨sb, 0, none⟩ from hq]
  rw [show IntKind.i64.wrap (p1.depth + 1) = 1 from rfl]
  refine ⟨by decide, by decide, nilP_some ?_⟩
  simp only [Addr.add_lit, Nat.zero_add]
  have hmem : (sb, cel (obCells [r, paraOB qb s e] ++ sp) ty_openBlock) ∈ (l.at b0 :: l.at b1 :: p1.at b :: (M ++ (IM ++ (TM ++ (LM ++ (ownC D ++ ((txsC D).map TX.chunk ++ L))))))) := by rw [hM]; simp
  refine ⟨_, Sat.ld h hmem (stk_get (j := 1) (f := 0) (by decide) rfl), ?_⟩
  refine ⟨_, Sat.ld h (by first | assumption | (repeat (first | exact .head _ | apply List.Mem.tail))) (by exact rfl), ?_⟩
  refine ⟨_, Sat.ld h (by first | assumption | (repeat (first | exact .head _ | apply List.Mem.tail))) (by exact rfl), ?_⟩
  refine ⟨_, Sat.ld h (by first | assumption | (repeat (first | exact .head _ | apply List.Mem.tail))) (by exact rfl), ?_⟩
  refine ⟨_, Sat.ld h (by first | assumption | (repeat (first | exact .head _ | apply List.Mem.tail))) (by exact rfl), ?_⟩
  refine ⟨_, Sat.ld h (by first | assumption | (repeat (first | exact .head _ | apply List.Mem.tail))) (by exact rfl), ?_⟩
  refine enter_meth meth_paraExtend ?_
  refine paraExtend_ok h fun w h => ⟨_, _, _, _, _, _, rfl, ?_⟩
  refine Sat.st h (k := 1) rfl (Nat.le_of_ble_eq_true rfl) trivial (by first | (dsimp only [List.set]; exact rfl) | exact rfl) fun w h => ?_
  refine Sat.st h (k := 1) rfl (Nat.le_of_ble_eq_true rfl) trivial (by first | (dsimp only [List.set]; exact rfl) | exact rfl) fun w h => ?_
  refine Sat.st h (k := 1) rfl (Nat.le_of_ble_eq_true rfl) trivial (by first | (dsimp only [List.set]; exact rfl) | exact rfl) fun w h => ?_
  refine Sat.st h (k := 1) rfl (Nat.le_of_ble_eq_true rfl) trivial (by first | (dsimp only [List.set]; exact rfl) | exact rfl) fun w h => ?_
  refine Sat.st h (k := 1) rfl (Nat.le_of_ble_eq_true rfl) trivial (by first | (dsimp only [List.set]; exact rfl) | exact rfl) fun w h => ?_
  have h : Sat σ w (l.at b0 :: l.at b1 :: p1.at b :: (M ++ (IM ++ (TM ++ (LM ++ (ownC D ++ ((txsC D).map TX.chunk ++ L))))))) := h
  refine isBlank_ok h (by first | assumption | (repeat (first | exact .head _ | apply List.Mem.tail))) hl fun w h => ⟨_, rfl, ?_⟩
  have fin : g_parseState_addLine.k1 R X (some ⟨b, 0, none⟩) b1 false false w := by
    refine br_false rfl (br_true rfl ?_)
    exact hR w b1 b0 p1 rfl ⟨r, _, M, TM, IM, LM, hr, hs.of rfl rfl rfl, ht.of rfl rfl rfl, hI, ⟨qb, s, e, rfl, hp, hs1, hne, hln⟩, h.re (by intro _; simp only [List.append_eq, cnt_append, cnt_cons, cnt_nil] <;> omega)⟩
  refine br_split (fun _ => br_false rfl ?_) (fun _ => fin)
  refine ⟨_, Sat.ld h (by first | assumption | (repeat (first | exact .head _ | apply List.Mem.tail))) (by exact rfl), ?_⟩
  refine ⟨_, Sat.ld h (by first | assumption | (repeat (first | exact .head _ | apply List.Mem.tail))) (by exact rfl), ?_⟩
  refine ⟨_, Sat.ld h (by first | assumption | (repeat (first | exact .head _ | apply List.Mem.tail))) (by exact rfl), ?_⟩
  refine ⟨_, Sat.ld h (by first | assumption | (repeat (first | exact .head _ | apply List.Mem.tail))) (by exact rfl), ?_⟩
  refine ⟨_, Sat.ld h (by first | assumption | (repeat (first | exact .head _ | apply List.Mem.tail))) (by exact rfl), ?_⟩
  refine ⟨_, Sat.ld h (by first | assumption | (repeat (first | exact .head _ | apply List.Mem.tail))) (by exact rfl), ?_⟩
  refine ⟨_, Sat.ld h (by first | assumption | (repeat (first | exact .head _ | apply List.Mem.tail))) (by exact rfl), ?_⟩
  refine ⟨_, Sat.ld h (by first | assumption | (repeat (first | exact .head _ | apply List.Mem.tail))) (by exact rfl), ?_⟩
  refine ⟨_, Sat.ld h (by first | assumption | (repeat (first | exact .head _ | apply List.Mem.tail))) (by exact rfl), ?_⟩
  refine ⟨_, Sat.ld h (by first | assumption | (repeat (first | exact .head _ | apply List.Mem.tail))) (by exact rfl), ?_⟩
  exact ⟨_, _, neq_line l _ _ w, fin⟩
end Go.Proofs.YtejiaegiijokcaaGreatDoor


set_option linter.unusedVariables false
namespace Go.Proofs.YtejiaegiijokcaaGreatDoor
open Go.Proofs Go.IntWalk Go.RowKit
variable {σ : Out} {w : World} {L L' : List Chunk} {R : Ending → World → Prop}
theorem news_rounds {Xb : OA → Nat → WP} {Y : OA → Nat → OA → Nat → Nat → Int → Int → WP} {b b1 nb : Nat} {e : TypeId} {p : PS} {M : List Chunk} {l : Ln}
    (hY : ∀ x0 x3 x86q x86n x86c x87 x88 w, g_parseState_addLine.bl2 R Xb Y x0 x3 x86q x86n x86c x87 x88 w → Y x0 x3 x86q x86n x86c x87 x88 w) (i : Nat) :
    ∀ (k : Nat) w, i ≤ 8 → k ≤ i → (∀ j (hj : j < newsF.length), k ≤ j → j < i → Decl b p M l newsF[j]) → Sat σ w (p.at b :: M ++ (l.at b1 :: (nb, cel newsC e) :: L)) →
      (∀ w, Sat σ w (p.at b :: M ++ (l.at b1 :: (nb, cel newsC e) :: L)) → Y (some ⟨b, 0, none⟩) b1 (some ⟨nb, 0, none⟩) 8 8 8 (i : Nat) w) → Y (some ⟨b, 0, none⟩) b1 (some ⟨nb, 0, none⟩) 8 8 8 (k : Nat) w := by
  intro k
  generalize hm : i - k = m
  induction m generalizing k with
  | zero =>
    intro w hi hk hd h hE
    obtain rfl : k = i := by omega
    exact hE w h
  | succ m ih =>
    intro w hi hk hd h hE
    refine hY _ _ _ _ _ _ _ _ (br_true (by simp; omega) ⟨by omega, by omega, ?_⟩)
    have hl : k < newsF.length := by show k < 8; omega
    have hf := List.getElem?_eq_getElem hl
    refine nilP_some ?_
    simp only [Addr.add_lit, Nat.zero_add, Int.toNat_natCast, Nat.mul_one]
    have h : Sat σ w (l.at b1 :: (nb, cel newsC e) :: (p.at b :: (M ++ L))) := h.re (by intro _; simp only [List.append_eq, cnt_append, cnt_cons, cnt_nil] <;> omega)
    refine ⟨_, Sat.ld h (.tail _ (.head _)) (newsC_get hf), ?_⟩
    refine ⟨_, Sat.ld h (.head _) rfl, _, Sat.ld h (.head _) rfl, _, Sat.ld h (.head _) rfl, _, Sat.ld h (.head _) rfl, _, Sat.ld h (.head _) rfl, ?_⟩
    have h : Sat σ w (p.at b :: M ++ (l.at b1 :: (nb, cel newsC e) :: L)) := h.re (by intro _; simp only [List.append_eq, cnt_append, cnt_cons, cnt_nil] <;> omega)
    refine enter_fn ?_
    refine hd k hl (Nat.le_refl _) (by omega) σ w _ _ h fun w h => ⟨_, _, _, _, _, _, rfl, ?_⟩
    repeat (first | refine nilP_some ?_ | refine Sat.tk h fun w h => ?_ | refine ⟨_, Sat.ld h (by first | assumption | (repeat (first | exact .head _ | apply List.Mem.tail))) (by exact rfl), ?_⟩ | refine ⟨_, _, _, Sat.ld h (by first | assumption | (repeat (first | exact .head _ | apply List.Mem.tail))) (by exact rfl), ?_⟩ | refine Sat.st h (k := 0) rfl (Nat.le_of_ble_eq_true rfl) trivial (by first | (dsimp only [List.set]; exact rfl) | exact rfl) fun w h => ?_ | refine Sat.st h (k := 1) rfl (Nat.le_of_ble_eq_true rfl) trivial (by first | (dsimp only [List.set]; exact rfl) | exact rfl) fun w h => ?_ | refine Sat.st h (k := 2) rfl (Nat.le_of_ble_eq_true rfl) trivial (by first | (dsimp only [List.set]; exact rfl) | exact rfl) fun w h => ?_ | refine Sat.st h (k := 3) rfl (Nat.le_of_ble_eq_true rfl) trivial (by first | (dsimp only [List.set]; exact rfl) | exact rfl) fun w h => ?_ | refine Sat.st h (k := 4) rfl (Nat.le_of_ble_eq_true rfl) trivial (by first | (dsimp only [List.set]; exact rfl) | exact rfl) fun w h => ?_ | refine Sat.st h (k := 5) rfl (Nat.le_of_ble_eq_true rfl) trivial (by first | (dsimp only [List.set]; exact rfl) | exact rfl) fun w h => ?_ | refine Sat.st h (k := 6) rfl (Nat.le_of_ble_eq_true rfl) trivial (by first | (dsimp only [List.set]; exact rfl) | exact rfl) fun w h => ?_ | refine Sat.bx h fun b0 w h => ?_)
    rw [i64_inc (by omega)]
    have h : Sat σ _ (l.at b0 :: (p.at b :: M ++ (l.at b1 :: (nb, cel newsC e) :: L))) := h
    exact ih (k + 1) (by omega) _ hi (by omega) (fun j hj h1 h2 => hd j hj (by omega) h2) h.tail hE
theorem bl102_decl {Xb : OA → Nat → WP} {b b1 : Nat} {p : PS} {M : List Chunk} {l : Ln} (h : Sat σ w (p.at b :: M ++ (l.at b1 :: L))) (hd : ∀ f ∈ newsF, Decl b p M l f)
    (hP : ∀ w nb e (R' : Ending → World → Prop), Sat σ w (p.at b :: M ++ (l.at b1 :: (nb, cel newsC e) :: L)) → (∀ w k, R (.returned (.tuple #[])) w → R' (.returned (.tuple #[Ln.zero.val, .bool k])) w) → callE P i_newPara #[.pointer (some ⟨b, 0, none⟩), l.val] R' w) :
    g_parseState_addLine.bl102 R Xb (some ⟨b, 0, none⟩) b1 w := by
  refine news_ok h fun w nb e h => ⟨_, _, _, rfl, ?_⟩
  intro Y hY
  have h : Sat σ w (p.at b :: M ++ (l.at b1 :: (nb, cel newsC e) :: L)) := h.re (by intro _; simp only [List.append_eq, cnt_append, cnt_cons, cnt_nil] <;> omega)
  refine news_rounds hY 8 0 w (by omega) (by omega) (fun j hj _ _ => hd _ (List.getElem_mem hj)) h fun w h => ?_
  refine hY _ _ _ _ _ _ _ _ (br_false (by simp) ?_)
  have hm : l.at b1 ∈ p.at b :: M ++ (l.at b1 :: (nb, cel newsC e) :: L) := by simp
  refine ⟨_, Sat.ld h hm (i := 0) rfl, _, Sat.ld h hm (i := 1) rfl, _, Sat.ld h hm (i := 2) rfl, _, Sat.ld h hm (i := 3) rfl, _, Sat.ld h hm (i := 4) rfl, ?_⟩
  exact hP w nb e _ h fun w k hR => ⟨_, _, _, _, _, _, rfl, hR⟩
def Ln.rest (l : Ln) : List UInt8 := (l.text.drop l.i).dropWhile isST
theorem addLine_plain0 {b rb pb : Nat} {op : Opt} {p : PS} {D : List DB} {l : Ln} (h : DocS σ b rb L D .none p w) (hpz : p.pz = some ⟨pb, 0, none⟩) (hop : op.at pb ∈ L) (hl : l.plain) (hno : p.lineno < 1000000000)
    (hR : ∀ w p', p'.base = p.base → p'.lineno = p.lineno → DocS σ b rb L D (.para [l.rest]) p' w → R (.returned (.tuple #[])) w) :
    callE P i_parseState_addLine #[.pointer (some ⟨b, 0, none⟩), l.val] R w := by
  obtain ⟨r, obs, M, TM, IM, LM, hr, hs, ht, hI, ⟨rfl, rfl⟩, h⟩ := h
  have hm : op.at pb ∈ IM ++ (TM ++ ([] ++ (ownC D ++ ((txsC D).map TX.chunk ++ L)))) := by
    simp only [List.mem_append]; exact .inr (.inr (.inr (.inr (.inr hop))))
  refine addLine_para (op := op) h hs hpz hm hr (by decide) (by decide) hl fun w p' M' qb PM hp' hs' hPM h => ?_
  have e1 : p'.base = p.base := by rw [hp']; rfl
  have e2 : p'.lineno = p.lineno := by rw [hp']
  have e3 : p'.tq = p.tq := by rw [hp']
  have e4 : p'.tn = p.tn := by rw [hp']
  have e5 : p'.tc = p.tc := by rw [hp']
  have h : Sat σ w (p'.at b :: M' ++ (IM ++ (TM ++ (PM ++ (ownC D ++ ((txsC D).map TX.chunk ++ L)))))) := h.re (by intro _; simp only [List.append_eq, cnt_append, cnt_cons, cnt_nil] <;> omega)
  exact hR w p' e1 e2 ⟨r, _, M', TM, IM, PM, hr, hs', ht.of e3 e4 e5, hI, ⟨qb, p.lineno, p.lineno, rfl, hPM, hno, by simp, by simp⟩, h⟩
theorem trimSetext_no {b nb : Nat} {l : Ln} {v : Int} {e : TypeId} (h : Sat σ w (l.at b :: (nb, cel [.int .i64 v] e) :: L)) (hl : l.ok) (h1 : (l.lead 3 false).peek ≠ 45) (h2 : (l.lead 3 false).peek ≠ 61)
    (hR : ∀ w, Sat σ w (l.at b :: (nb, cel [.int .i64 v] e) :: L) → R (.returned (.bool false)) w) : callE P i_line_trimSetext #[.pointer (some ⟨b, 0, none⟩), .pointer (some ⟨nb, 0, none⟩)] R w := by
  refine g_line_trimSetext.sound ?_
  repeat (first | refine nilP_some ?_ | refine Sat.tk h fun w h => ?_ | refine ⟨_, Sat.ld h (by first | assumption | (repeat (first | exact .head _ | apply List.Mem.tail))) (by exact rfl), ?_⟩ | refine ⟨_, _, _, Sat.ld h (by first | assumption | (repeat (first | exact .head _ | apply List.Mem.tail))) (by exact rfl), ?_⟩ | refine Sat.st h (k := 0) rfl (Nat.le_of_ble_eq_true rfl) trivial (by first | (dsimp only [List.set]; exact rfl) | exact rfl) fun w h => ?_ | refine Sat.st h (k := 1) rfl (Nat.le_of_ble_eq_true rfl) trivial (by first | (dsimp only [List.set]; exact rfl) | exact rfl) fun w h => ?_ | refine Sat.st h (k := 2) rfl (Nat.le_of_ble_eq_true rfl) trivial (by first | (dsimp only [List.set]; exact rfl) | exact rfl) fun w h => ?_ | refine Sat.st h (k := 3) rfl (Nat.le_of_ble_eq_true rfl) trivial (by first | (dsimp only [List.set]; exact rfl) | exact rfl) fun w h => ?_ | refine Sat.st h (k := 4) rfl (Nat.le_of_ble_eq_true rfl) trivial (by first | (dsimp only [List.set]; exact rfl) | exact rfl) fun w h => ?_ | refine Sat.st h (k := 5) rfl (Nat.le_of_ble_eq_true rfl) trivial (by first | (dsimp only [List.set]; exact rfl) | exact rfl) fun w h => ?_ | refine Sat.st h (k := 6) rfl (Nat.le_of_ble_eq_true rfl) trivial (by first | (dsimp only [List.set]; exact rfl) | exact rfl) fun w h => ?_ | refine Sat.bx h fun b0 w h => ?_)
  have h : Sat σ _ (l.at b0 :: l.at b :: (nb, cel [.int .i64 v] e) :: L) := h
  refine lead_ok (max := 3) h hl (by decide) fun w h => ⟨_, rfl, ?_⟩
  refine peek_ok h (by first | assumption | (repeat (first | exact .head _ | apply List.Mem.tail))) (Ln.lead_ok hl) fun w h => ⟨_, rfl, ?_⟩
  rw [u8b _ 45 45 rfl, u8b _ 61 61 rfl]
  exact br_false (by simp [h1, h2]) (hR _ h.tail)
theorem eq_iface_same {t u e : TypeId} {i j : TypeInfo} {ms : Array (String × TypeId)} (hu : P.underlying t = some (.interface ms)) (hi : P.info? u = some i) (hc : i.comparable = true) (hp : P.underlying u = some (.pointer e)) (hj : P.info? e = some j) (hs : j.size ≠ 0) (b : Nat) (x y : Operand) (w : World) :
    (do eqGuard .eql t x y (.iface u (.pointer (some ⟨b, 0, none⟩))) (.iface u (.pointer (some ⟨b, 0, none⟩))); binOp .eql t (.iface u (.pointer (some ⟨b, 0, none⟩))) (.iface u (.pointer (some ⟨b, 0, none⟩)))).run P w = .ok (.bool true) w := by
  refine bin_eq rfl rfl ?_
  have h2 : ∀ d, (Op.equalIn (d + 1) u (.pointer (some ⟨b, 0, none⟩)) (.pointer (some ⟨b, 0, none⟩))).run P w = .ok true w := fun d => by
    simp [Op.equalIn, run_underlying hp, sizeOf, typeInfo, hj, hs, sameAddr]
  have h1 : ∀ d, (Op.equalIn (d + 2) t (.iface u (.pointer (some ⟨b, 0, none⟩))) (.iface u (.pointer (some ⟨b, 0, none⟩)))).run P w = .ok true w := fun d => by
    rw [Op.equalIn]
    simp [run_underlying hu, typeInfo, hi, hc, h2]
  exact h1 9998
theorem eq_para_same (b : Nat) (x y : Operand) (w : World) :
    (do eqGuard .eql ty_blockBuilder x y (.iface ty_P_paraBuilder (.pointer (some ⟨b, 0, none⟩))) (.iface ty_P_paraBuilder (.pointer (some ⟨b, 0, none⟩))); binOp .eql ty_blockBuilder (.iface ty_P_paraBuilder (.pointer (some ⟨b, 0, none⟩))) (.iface ty_P_paraBuilder (.pointer (some ⟨b, 0, none⟩)))).run P w = .ok (.bool true) w :=
  eq_iface_same und_bb (i := (P.info? ty_P_paraBuilder).getD default) (j := (P.info? ty_paraBuilder).getD default) (by kernel_rfl) (by kernel_rfl) und_para (by kernel_rfl) (by rw [show ((P.info? ty_paraBuilder).getD default).size = 2 by kernel_rfl]; decide) b x y w
structure Ln.cont (l : Ln) : Prop where
  plain : l.plain
  lt : (l.lead 3 false).peek ≠ 60
  dash : (l.lead 3 false).peek ≠ 45
  eq : (l.lead 3 false).peek ≠ 61
theorem newSetext_para {b : Nat} {p : PS} {r : OB} {qb s e : Nat} {M : List Chunk} {l : Ln} (h : Sat σ w (p.at b :: M ++ L)) (hs : Stk p [r, paraOB qb s e] M) (hd : p.depth = 0) (hl : l.cont)
    (hR : ∀ w, Sat σ w (p.at b :: M ++ L) → R (.returned (.tuple #[l.val, .bool false])) w) : callE P i_newSetextHeading #[.pointer (some ⟨b, 0, none⟩), l.val] R w := by
  refine g_newSetextHeading.sound ?_
  refine Sat.bx h fun b1 w h => ?_
  refine Sat.bx h fun b3 w h => ?_
  refine Sat.bx h fun b5 w h => ?_
  repeat (first | refine nilP_some ?_ | refine Sat.tk h fun w h => ?_ | refine ⟨_, Sat.ld h (by first | assumption | (repeat (first | exact .head _ | apply List.Mem.tail))) (by exact rfl), ?_⟩ | refine ⟨_, _, _, Sat.ld h (by first | assumption | (repeat (first | exact .head _ | apply List.Mem.tail))) (by exact rfl), ?_⟩ | refine Sat.st h (k := 0) rfl (Nat.le_of_ble_eq_true rfl) trivial (by first | (dsimp only [List.set]; exact rfl) | exact rfl) fun w h => ?_ | refine Sat.st h (k := 1) rfl (Nat.le_of_ble_eq_true rfl) trivial (by first | (dsimp only [List.set]; exact rfl) | exact rfl) fun w h => ?_ | refine Sat.st h (k := 2) rfl (Nat.le_of_ble_eq_true rfl) trivial (by first | (dsimp only [List.set]; exact rfl) | exact rfl) fun w h => ?_ | refine Sat.st h (k := 3) rfl (Nat.le_of_ble_eq_true rfl) trivial (by first | (dsimp only [List.set]; exact rfl) | exact rfl) fun w h => ?_ | refine Sat.st h (k := 4) rfl (Nat.le_of_ble_eq_true rfl) trivial (by first | (dsimp only [List.set]; exact rfl) | exact rfl) fun w h => ?_ | refine Sat.st h (k := 5) rfl (Nat.le_of_ble_eq_true rfl) trivial (by first | (dsimp only [List.set]; exact rfl) | exact rfl) fun w h => ?_ | refine Sat.st h (k := 6) rfl (Nat.le_of_ble_eq_true rfl) trivial (by first | (dsimp only [List.set]; exact rfl) | exact rfl) fun w h => ?_ | refine Sat.bx h fun b0 w h => ?_)
  have h : Sat σ _ (l.at b0 :: (b5, cel [.int .i64 0] ty_int) :: zLn b3 :: l.at b1 :: (p.at b :: M ++ L)) := h
  have h : Sat σ _ (p.at b :: M ++ (l.at b0 :: (b5, cel [.int .i64 0] ty_int) :: zLn b3 :: l.at b1 :: L)) := h.re (by intro _; simp only [List.append_eq, cnt_append, cnt_cons, cnt_nil] <;> omega)
  refine nextB_ok (d := 0) h hs hd (by omega) fun w h => ?_
  refine ⟨_, rfl, ?_⟩
  refine top_ok (l := [r]) h hs (o := paraOB qb s e) rfl (fun w h => ?_) (fun _ => ⟨_, rfl⟩)
  rw [if_pos rfl]
  refine ⟨_, rfl, _, w, eq_para_same qb _ _ w, br_true rfl ?_⟩
  have h : Sat σ _ (l.at b0 :: (b5, cel [.int .i64 0] ty_int) :: (zLn b3 :: l.at b1 :: (p.at b :: M ++ L))) := h.re (by intro _; simp only [List.append_eq, cnt_append, cnt_cons, cnt_nil] <;> omega)
  refine trimSetext_no h hl.plain.ok hl.dash hl.eq fun w h => ⟨_, rfl, br_false rfl ?_⟩
  have h : Sat σ _ (zLn b3 :: l.at b1 :: (b5, cel [.int .i64 0] ty_int) :: l.at b0 :: (p.at b :: M ++ L)) := h.re (by intro _; simp only [List.append_eq, cnt_append, cnt_cons, cnt_nil] <;> omega)
  repeat (first | refine nilP_some ?_ | refine Sat.tk h fun w h => ?_ | refine ⟨_, Sat.ld h (by first | assumption | (repeat (first | exact .head _ | apply List.Mem.tail))) (by exact rfl), ?_⟩ | refine ⟨_, _, _, Sat.ld h (by first | assumption | (repeat (first | exact .head _ | apply List.Mem.tail))) (by exact rfl), ?_⟩ | refine Sat.st h (k := 0) rfl (Nat.le_of_ble_eq_true rfl) trivial (by first | (dsimp only [List.set]; exact rfl) | exact rfl) fun w h => ?_ | refine Sat.st h (k := 1) rfl (Nat.le_of_ble_eq_true rfl) trivial (by first | (dsimp only [List.set]; exact rfl) | exact rfl) fun w h => ?_ | refine Sat.st h (k := 2) rfl (Nat.le_of_ble_eq_true rfl) trivial (by first | (dsimp only [List.set]; exact rfl) | exact rfl) fun w h => ?_ | refine Sat.st h (k := 3) rfl (Nat.le_of_ble_eq_true rfl) trivial (by first | (dsimp only [List.set]; exact rfl) | exact rfl) fun w h => ?_ | refine Sat.st h (k := 4) rfl (Nat.le_of_ble_eq_true rfl) trivial (by first | (dsimp only [List.set]; exact rfl) | exact rfl) fun w h => ?_ | refine Sat.st h (k := 5) rfl (Nat.le_of_ble_eq_true rfl) trivial (by first | (dsimp only [List.set]; exact rfl) | exact rfl) fun w h => ?_ | refine Sat.st h (k := 6) rfl (Nat.le_of_ble_eq_true rfl) trivial (by first | (dsimp only [List.set]; exact rfl) | exact rfl) fun w h => ?_ | refine Sat.bx h fun b0 w h => ?_)
  have h : Sat σ _ (l.at b3 :: l.at b1 :: (b5, cel [.int .i64 0] ty_int) :: l.at b0 :: (p.at b :: M ++ L)) := h
  exact hR _ h.tail.tail.tail.tail
theorem decl_cont {b : Nat} {p : PS} {r : OB} {rb qb s e : Nat} {M : List Chunk} {l : Ln} (hs : Stk p [r, paraOB qb s e] M) (hr : r.bd = rootV rb) (hd : p.depth = 0) (hl : l.cont) : ∀ f ∈ newsF, Decl b p M l f := by
  intro f hf
  have hp := hl.plain
  simp only [newsF, List.mem_cons, List.not_mem_nil, or_false] at hf
  intro σ w L R h hR
  rcases hf with rfl | rfl | rfl | rfl | rfl | rfl | rfl | rfl
  · exact newQuote_no (x := .nilIface) h hp.ok hp.quote hR
  · exact newATX_no h hp.ok hp.heading hR
  · exact newSetext_para h hs hd hl hR
  · exact newHR_no h hp.ok hp.hr hR
  · exact hp.bullet b 0 p [r, paraOB qb s e] r M ty_P_rootBuilder _ hs hd rfl hr (by decide) σ w L R h hR
  · exact newHTML_no h hp.ok hl.lt hR
  · exact newFence_no h hp.ok hp.fence hR
  · exact newPre_no (ob := [r]) h hs (o := paraOB qb s e) rfl (fun _ => ⟨_, rfl⟩) hp.ok hp.pre hR
end Go.Proofs.YtejiaegiijokcaaGreatDoor


set_option linter.unusedVariables false
namespace Go.Proofs.YtejiaegiijokcaaGreatDoor
open Go.Proofs Go.IntWalk Go.RowKit
variable {σ : Out} {w : World} {L L' : List Chunk} {R : Ending → World → Prop}
theorem newPara_cont {b pb qb s e : Nat} {op : Opt} {p : PS} {r : OB} {M PM : List Chunk} {ls : List (List UInt8)} {l : Ln} (h : Sat σ w (p.at b :: M ++ (PM ++ L))) (hs : Stk p [r, paraOB qb s e] M) (hd : p.depth = 0) (hpz : p.pz = some ⟨pb, 0, none⟩) (hop : op.at pb ∈ L) (hno : op.table = false)
    (hp : ParaAt qb ls PM) (hls : ls.length < 1048570) (hl : l.ok)
    (hR : ∀ w r' e' M' PM', r'.bd = r.bd → r'.q = r.q → r'.n = r.n → r'.c = r.c → Stk p [r', paraOB qb s e'] M' → ParaAt qb (ls ++ [l.rest]) PM' → Sat σ w (p.at b :: M' ++ (PM' ++ L)) → R (.returned (.tuple #[Ln.zero.val, .bool true])) w) :
    callE P i_newPara #[.pointer (some ⟨b, 0, none⟩), l.val] R w := by
  have hn : p.stn = 2 := hs.2.1
  obtain ⟨sb, sp, hq, rfl, hsp⟩ := hs.split (by simp)
  have hp0 := hp
  obtain ⟨q, c, TM, hS, rfl⟩ := hp
  refine g_newPara.sound ?_
  refine Sat.bx h fun b1 w h => ?_
  refine Sat.bx h fun b3 w h => ?_
  have h : Sat σ w (zLn b3 :: l.at b1 :: (p.at b :: [(sb, cel (obCells [r, paraOB qb s e] ++ sp) ty_openBlock)] ++ (((qb, cel [.slice q ls.length c, .pointer none] ty_paraBuilder) :: TM) ++ L))) := h
  have h : Sat σ w (p.at b :: [(sb, cel (obCells [r, paraOB qb s e] ++ sp) ty_openBlock)] ++ (zLn b3 :: l.at b1 :: (((qb, cel [.slice q ls.length c, .pointer none] ty_paraBuilder) :: TM) ++ L))) := h.re (by intro _; simp only [List.append_eq, cnt_append, cnt_cons, cnt_nil] <;> omega)
  refine top_ok (l := [r]) h hs (o := paraOB qb s e) rfl (fun w h => ?_) (fun _ => ⟨_, rfl⟩)
  rw [if_pos rfl]
  refine ⟨_, rfl, ?_⟩
  repeat (first | refine nilP_some ?_ | refine Sat.tk h fun w h => ?_ | refine ⟨_, Sat.ld h (by first | assumption | (repeat (first | exact .head _ | apply List.Mem.tail))) (by exact rfl), ?_⟩ | refine ⟨_, _, _, Sat.ld h (by first | assumption | (repeat (first | exact .head _ | apply List.Mem.tail))) (by exact rfl), ?_⟩)
  have hm : l.at b1 ∈ p.at b :: [(sb, cel (obCells [r, paraOB qb s e] ++ sp) ty_openBlock)] ++ (zLn b3 :: l.at b1 :: (((qb, cel [.slice q ls.length c, .pointer none] ty_paraBuilder) :: TM) ++ L)) := by simp
  refine trimSpaceString_ok h hm hl fun w h => ⟨_, rfl, ?_⟩
  rw [show (l.text.drop l.i).dropWhile isST = l.rest from rfl]
  refine ⟨_, w, ne_ptr_nil und_para _ _ _ w, br_true rfl (nilP_some ?_)⟩
  simp only [Addr.add_lit, Nat.zero_add]
  have hmq : (qb, cel [.slice q ls.length c, .pointer none] ty_paraBuilder) ∈ p.at b :: [(sb, cel (obCells [r, paraOB qb s e] ++ sp) ty_openBlock)] ++ (zLn b3 :: l.at b1 :: (((qb, cel [.slice q ls.length c, .pointer none] ty_paraBuilder) :: TM) ++ L)) := by simp
  refine ⟨_, Sat.ld h hmq rfl, _, w, ne_ptr_nil und_table _ _ _ w, br_false rfl ?_⟩
  unfold g_newPara.k3
  refine Sat.tk h fun w h => ?_
  refine nilP_some ⟨_, Sat.ld h (.head _) rfl, ?_⟩
  rw [hpz]
  refine nilP_some ?_
  simp only [Addr.add_lit, Nat.zero_add]
  have hmo : op.at pb ∈ p.at b :: [(sb, cel (obCells [r, paraOB qb s e] ++ sp) ty_openBlock)] ++ (zLn b3 :: l.at b1 :: (((qb, cel [.slice q ls.length c, .pointer none] ty_paraBuilder) :: TM) ++ L)) := by simp [hop]
  refine ⟨op.table, Sat.ld h hmo rfl, br_false hno ?_⟩
  unfold g_newPara.k4
  refine br_false rfl ⟨_, w, ne_ptr_nil und_para _ _ _ w, br_true rfl (nilP_some ?_)⟩
  simp only [Addr.add_lit, Nat.zero_add]
  refine ⟨_, Sat.ld h (.head _) rfl, ?_⟩
  rw [hd]
  intro X hX
  have h : Sat σ w (p.at b :: (sb, cel (obCells [r, paraOB qb s e] ++ sp) ty_openBlock) :: (zLn b3 :: l.at b1 :: (((qb, cel [.slice q ls.length c, .pointer none] ty_paraBuilder) :: TM) ++ L))) := h
  have hlen : ∀ o o' : OB, (obCells [o, o'] ++ sp).length = 8 + sp.length := by intro o o'; rw [List.length_append, obCells_length]; rfl
  refine hX _ _ _ _ _ _ (nilP_some ?_)
  refine ⟨_, _, _, Sat.ld h (by first | assumption | (repeat (first | exact .head _ | apply List.Mem.tail))) (by exact rfl), ?_⟩
  rw [hn]
  refine br_true rfl ?_
  refine Sat.tk h fun w h => ?_
  refine nilP_some (nilP_some ?_)
  refine ⟨_, _, _, Sat.ld h (by first | assumption | (repeat (first | exact .head _ | apply List.Mem.tail))) (by exact rfl), ?_⟩
  refine ⟨_, Sat.ld h (by first | assumption | (repeat (first | exact .head _ | apply List.Mem.tail))) (by exact rfl), ?_⟩
  rw [hn, hq]
  refine ⟨by decide, by decide, nilP_some ?_⟩
  simp only [Addr.add_lit, Nat.zero_add]
  refine Sat.st h (k := 1) rfl (by rw [hlen]; show 3 < _; omega) trivial rfl fun w h => ?_
  have h : Sat σ w (p.at b :: (sb, cel (obCells [{ r with e := p.lineno }, paraOB qb s e] ++ sp) ty_openBlock) :: (zLn b3 :: l.at b1 :: (((qb, cel [.slice q ls.length c, .pointer none] ty_paraBuilder) :: TM) ++ L))) := h
  refine hX _ _ _ _ _ _ (nilP_some ?_)
  refine ⟨_, _, _, Sat.ld h (by first | assumption | (repeat (first | exact .head _ | apply List.Mem.tail))) (by exact rfl), ?_⟩
  rw [hn, show IntKind.i64.wrap (0 + 1) = 1 from rfl]
  refine br_true rfl ?_
  refine Sat.tk h fun w h => ?_
  refine nilP_some (nilP_some ?_)
  refine ⟨_, _, _, Sat.ld h (by first | assumption | (repeat (first | exact .head _ | apply List.Mem.tail))) (by exact rfl), ?_⟩
  refine ⟨_, Sat.ld h (by first | assumption | (repeat (first | exact .head _ | apply List.Mem.tail))) (by exact rfl), ?_⟩
  rw [hn, hq]
  refine ⟨by decide, by decide, nilP_some ?_⟩
  simp only [Addr.add_lit, Nat.zero_add]
  refine Sat.st h (k := 1) rfl (by rw [hlen]; show 7 < _; omega) trivial rfl fun w h => ?_
  have h : Sat σ w (p.at b :: (sb, cel (obCells [{ r with e := p.lineno }, paraOB qb s p.lineno] ++ sp) ty_openBlock) :: (zLn b3 :: l.at b1 :: (((qb, cel [.slice q ls.length c, .pointer none] ty_paraBuilder) :: TM) ++ L))) := h
  refine hX _ _ _ _ _ _ (nilP_some ?_)
  refine ⟨_, _, _, Sat.ld h (by first | assumption | (repeat (first | exact .head _ | apply List.Mem.tail))) (by exact rfl), ?_⟩
  rw [hn, show IntKind.i64.wrap (1 + 1) = 2 from rfl]
  refine br_false rfl ?_
  have h : Sat σ w (zLn b3 :: ((qb, cel [.slice q ls.length c, .pointer none] ty_paraBuilder) :: TM) ++ (p.at b :: (sb, cel (obCells [{ r with e := p.lineno }, paraOB qb s p.lineno] ++ sp) ty_openBlock) :: (l.at b1 :: L))) := h.re (by intro _; simp only [List.append_eq, cnt_append, cnt_cons, cnt_nil] <;> omega)
  refine para_append h hp0 (by omega) fun w PM' hp' h => ?_
  refine hR w { r with e := p.lineno } p.lineno [(sb, cel (obCells [{ r with e := p.lineno }, paraOB qb s p.lineno] ++ sp) ty_openBlock)] PM' rfl rfl rfl rfl (Stk.mk' hq ?_ (by rw [hn]; rfl) (by simp)) hp' (h.less [l.at b1] (by intro _; simp only [List.append_eq, cnt_append, cnt_cons, cnt_nil] <;> omega))
  rw [← hsp, hlen, hlen]
theorem addLine_cont {b rb pb : Nat} {op : Opt} {p : PS} {D : List DB} {ls : List (List UInt8)} {l : Ln} (h : DocS σ b rb L D (.para ls) p w) (hpz : p.pz = some ⟨pb, 0, none⟩) (hop : op.at pb ∈ L) (hno : op.table = false) (hl : l.cont) (hls : ls.length < 1048569)
    (hR : ∀ w p', p'.base = p.base → p'.lineno = p.lineno → DocS σ b rb L D (.para (ls ++ [l.rest])) p' w → R (.returned (.tuple #[])) w) :
    callE P i_parseState_addLine #[.pointer (some ⟨b, 0, none⟩), l.val] R w := by
  refine addLine_open h hl.plain.ok fun w b1 b2 p1 hp1 h => ?_
  unfold g_parseState_addLine.k2
  obtain ⟨r, obs, M, TM, IM, LM, hr, hs, ht, hI, ⟨qb, s, e, rfl, hp, hs1, hne, hln⟩, h⟩ := h
  refine isBlank_ok h (by simp) hl.plain.ok fun w h => ⟨_, rfl, ?_⟩
  rw [hl.plain.blank]
  refine br_false rfl ?_
  have hd1 : p1.depth = 0 := by rw [hp1]
  have hpz1 : p1.pz = some ⟨pb, 0, none⟩ := by rw [hp1]; exact hpz
  have h : Sat σ w (p1.at b :: M ++ (l.at b1 :: (IM ++ (TM ++ (LM ++ (ownC D ++ ((txsC D).map TX.chunk ++ (l.at b2 :: L)))))))) := h.re (by intro _; simp only [List.append_eq, cnt_append, cnt_cons, cnt_nil] <;> omega)
  refine bl102_decl h (decl_cont hs hr hd1 hl) fun w nb et R' h hR' => ?_
  have h : Sat σ w (p1.at b :: M ++ (LM ++ (l.at b1 :: (nb, cel newsC et) :: (IM ++ (TM ++ (ownC D ++ ((txsC D).map TX.chunk ++ (l.at b2 :: L)))))))) := h.re (by intro _; simp only [List.append_eq, cnt_append, cnt_cons, cnt_nil] <;> omega)
  have hm : op.at pb ∈ l.at b1 :: (nb, cel newsC et) :: (IM ++ (TM ++ (ownC D ++ ((txsC D).map TX.chunk ++ (l.at b2 :: L))))) := by simp [hop]
  refine newPara_cont h hs hd1 hpz1 hm hno hp hln hl.plain.ok fun w r' e' M' PM' a1 a2 a3 a4 hs' hp' h => hR' w true ?_
  have e1 : p1.base = p.base := by rw [hp1]; rfl
  have e2 : p1.lineno = p.lineno := by rw [hp1]
  refine hR w p1 e1 e2 ⟨r', _, M', TM, IM, PM', by rw [a1]; exact hr, hs', ht, by rw [a2, a3, a4]; exact hI, ⟨qb, s, e', rfl, hp', hs1, by simp, by simp; omega⟩, ?_⟩
  exact h.less [l.at b1, (nb, cel newsC et), l.at b2] (by intro _; simp only [List.append_eq, cnt_append, cnt_cons, cnt_nil] <;> omega)
end Go.Proofs.YtejiaegiijokcaaGreatDoor


set_option linter.unusedVariables false
namespace Go.Proofs.YtejiaegiijokcaaGreatDoor
open Go.Proofs Go.IntWalk Go.RowKit
variable {σ : Out} {w : World} {L L' : List Chunk} {R : Ending → World → Prop}
structure TF where
  q : Option Addr
  n : Nat
  c : Nat
  vs : List Value
  RM : List Chunk
  KM : List Chunk
  KM' : List Chunk
  f : List UInt8 → List UInt8
def TF.ok (t : TF) : Prop := Sl 1 ty_Inline t.q t.n t.c t.vs t.RM ∧ t.n < 1073741824 ∧ PrintsL "PrintHTML" t.vs t.KM t.KM' t.f
def fill (x : TX) (t : TF) : List Chunk := textC x.t x.s x.e t.q t.n t.c x.raw :: (t.RM ++ t.KM)
def fill' (x : TX) (t : TF) : List Chunk := textC x.t x.s x.e t.q t.n t.c x.raw :: (t.RM ++ t.KM')
def fills : List TX → List TF → List Chunk
  | x :: xs, t :: ts => fill x t ++ fills xs ts
  | _, _ => []
def fills' : List TX → List TF → List Chunk
  | x :: xs, t :: ts => fill' x t ++ fills' xs ts
  | _, _ => []
inductive Filled (F : List UInt8 → List UInt8 → List UInt8) : List TX → List TF → Prop where
  | nil : Filled F [] []
  | cons {x : TX} {t : TF} {xs : List TX} {ts : List TF} : t.ok → t.f = F x.raw → Filled F xs ts → Filled F (x :: xs) (t :: ts)
theorem Filled.split {F : List UInt8 → List UInt8 → List UInt8} : ∀ {xs ys : List TX} {ts : List TF}, Filled F (xs ++ ys) ts → ∃ ts1 ts2, ts = ts1 ++ ts2 ∧ Filled F xs ts1 ∧ Filled F ys ts2
  | [], ys, ts, h => ⟨[], ts, rfl, .nil, h⟩
  | x :: xs, ys, ts, h => by
    cases h with
    | cons h1 h2 h3 =>
      obtain ⟨ts1, ts2, rfl, h4, h5⟩ := h3.split
      exact ⟨_ :: ts1, ts2, rfl, .cons h1 h2 h4, h5⟩
theorem Filled.append {F : List UInt8 → List UInt8 → List UInt8} {xs ys : List TX} {ts us : List TF} (h1 : Filled F xs ts) (h2 : Filled F ys us) : Filled F (xs ++ ys) (ts ++ us) := by
  induction h1 with
  | nil => exact h2
  | cons a b _ ih => exact .cons a b ih
theorem fills_append {F : List UInt8 → List UInt8 → List UInt8} : ∀ {xs ys : List TX} {ts us : List TF}, Filled F xs ts → fills (xs ++ ys) (ts ++ us) = fills xs ts ++ fills ys us
  | _, _, _, _, .nil => rfl
  | _, _, _, _, .cons h1 h2 h3 => by simp only [List.cons_append, fills, List.append_assoc]; rw [fills_append h3]
def DB.shows (F : List UInt8 → List UInt8 → List UInt8) (d : DB) (g : List UInt8 → List UInt8) : Prop :=
  ∀ ts, Filled F d.txs ts → Prints "PrintHTML" d.v (d.own ++ fills d.txs ts) (d.own ++ fills' d.txs ts) g
inductive Show (F : List UInt8 → List UInt8 → List UInt8) : List DB → List (List UInt8 → List UInt8) → Prop where
  | nil : Show F [] []
  | cons {d : DB} {g : List UInt8 → List UInt8} {D : List DB} {gs : List (List UInt8 → List UInt8)} : d.shows F g → Show F D gs → Show F (d :: D) (g :: gs)
theorem Show.append {F : List UInt8 → List UInt8 → List UInt8} {D E : List DB} {gs hs : List (List UInt8 → List UInt8)} (h1 : Show F D gs) (h2 : Show F E hs) : Show F (D ++ E) (gs ++ hs) := by
  induction h1 with
  | nil => exact h2
  | cons h _ ih => exact .cons h ih
def compL : List (List UInt8 → List UInt8) → List UInt8 → List UInt8
  | [], l => l
  | g :: gs, l => compL gs (g l)
theorem docs_print {F : List UInt8 → List UInt8 → List UInt8} {D : List DB} {gs : List (List UInt8 → List UInt8)} (h : Show F D gs) : ∀ ts, Filled F (txsC D) ts →
    ∃ KM KM', PrintsL "PrintHTML" (D.map DB.v) KM KM' (compL gs) ∧ (∀ a, cnt a (ownC D ++ fills (txsC D) ts) = cnt a KM) := by
  induction h with
  | nil => intro ts ht; cases ht; exact ⟨[], [], .nil, fun a => rfl⟩
  | @cons d g D gs h1 h2 ih =>
    intro ts ht
    have e : txsC (d :: D) = d.txs ++ txsC D := by simp [txsC]
    rw [e] at ht ⊢
    obtain ⟨ts1, ts2, rfl, h3, h4⟩ := ht.split
    obtain ⟨KM, KM', h5, h6⟩ := ih ts2 h4
    refine ⟨_, _, .cons (h1 ts1 h3) h5, fun a => ?_⟩
    have := h6 a
    rw [fills_append h3, show ownC (d :: D) = d.own ++ ownC D by simp [ownC]]
    simp only [cnt_append] at this ⊢
    omega
theorem paraDB_shows {F : List UInt8 → List UInt8 → List UInt8} {nb t s e : Nat} {raw : List UInt8} : (paraDB nb t s e raw).shows F (fun l => F raw (l ++ pOpen) ++ pClose) := by
  intro ts ht
  cases ht with
  | cons h1 h2 h3 =>
    cases h3
    rw [← h2]
    have := para_prints (nb := nb) (t := t) (s := s) (e := e) (s' := s) (e' := e) (raw := raw) h1.1 (by have := h1.2.1; omega) h1.2.2
    simpa [paraDB, fills, fills', fill, fill'] using this
theorem texts_ok {b pb : Nat} {op : Opt} {F : List UInt8 → List UInt8 → List UInt8} {p : PS} {xs : List TX} {TM L0 : List Chunk} {lk : Option Nat} (h : Sat σ w (p.at b :: (TM ++ (xs.map TX.chunk ++ L)))) (ht : Txts p (xs.map TX.t) TM) (hpz : p.pz = some ⟨pb, 0, none⟩) (ho : op.at pb ∈ L) (hlk : p.links = lk) (hL0 : ∀ c ∈ L0, c ∈ L)
    (hLL : p.Lq = none ∧ p.Ln = 0 ∧ p.Lc = 0) (hI : ∀ x ∈ xs, InlineOKG lk L0 op x.raw (F x.raw))
    (hR : ∀ w (p' : PS) ts, p'.coreS = p.coreS → Filled F xs ts → Sat σ w (p'.at b :: (TM ++ (fills xs ts ++ L))) → g_Parser_parse.k4 R b w) :
    g_Parser_parse.l2 R (some ⟨pb, 0, none⟩) b p.tq p.tn p.tc (p.tn : Nat) 0 w := by
  have hn : p.tn = xs.length := by rw [ht.2.1, List.length_map]
  have hx : xs.length < 1048576 := by have := ht.2.2; rwa [List.length_map] at this
  intro Y hY
  have h00 := h
  clear h
  have key : ∀ (xs2 xs1 : List TX) ts1 w (p1 : PS), xs1 ++ xs2 = xs → p1.coreS = p.coreS → Filled F xs1 ts1 → Sat σ w (p1.at b :: (TM ++ (fills xs1 ts1 ++ (xs2.map TX.chunk ++ L)))) → Y (some ⟨pb, 0, none⟩) b p.tq p.tn p.tc (p.tn : Nat) (xs1.length : Nat) w := by
    intro xs2
    induction xs2 with
    | nil =>
      intro xs1 ts1 w p1 hxs hp1 hf h
      rw [List.append_nil] at hxs
      subst hxs
      have e1 : p1.Lq = none := by have := congrArg PS.Lq hp1; rw [show p1.Lq = p.Lq from this]; exact hLL.1
      have e2 : p1.Ln = 0 := by have := congrArg PS.Ln hp1; rw [show p1.Ln = p.Ln from this]; exact hLL.2.1
      have e3 : p1.Lc = 0 := by have := congrArg PS.Lc hp1; rw [show p1.Lc = p.Lc from this]; exact hLL.2.2
      have h : Sat σ w (p1.at b :: (TM ++ (fills xs1 ts1 ++ L))) := h
      have hm : op.at pb ∈ p1.at b :: (TM ++ (fills xs1 ts1 ++ L)) := by simp [ho]
      have fin : g_Parser_parse.k4 R b w := hR w p1 ts1 hp1 hf h
      refine hY _ _ _ _ _ _ _ _ (br_false (by simp; omega) (nilP_some ?_))
      simp only [Addr.add_lit, Nat.zero_add]
      refine ⟨op.task, Sat.ld h hm rfl, br_split (fun _ => ?_) (fun _ => fin)⟩
      refine ⟨_, _, _, Sat.ld h (.head _) (i := 10) rfl, ?_⟩
      rw [e1, e2, e3]
      intro Z hZ
      exact hZ _ _ _ _ _ _ _ (br_false rfl fin)
    | cons x xs2 ih =>
      intro xs1 ts1 w p1 hxs hp1 hf h
      have hlt : xs1.length < xs.length := by rw [← hxs]; simp
      obtain ⟨rb, sp, htq, rfl⟩ := ht.1.rowAt (by omega)
      refine hY _ _ _ _ _ _ _ _ (br_true (by simp; omega) ⟨by omega, by omega, ?_⟩)
      rw [htq]
      refine nilP_some ?_
      simp only [Addr.add_lit, Nat.zero_add, Int.toNat_natCast, Nat.mul_one]
      have hget : ((xs.map TX.t).map (fun t => Value.pointer (some ⟨t, 0, none⟩)) ++ sp)[xs1.length]? = some (.pointer (some ⟨x.t, 0, none⟩)) := by
        rw [List.getElem?_append_left (by simp; omega), ← hxs]; simp
      refine ⟨_, Sat.ld h (.tail _ (.head _)) hget, nilP_some ?_⟩
      simp only [Addr.add_lit, Nat.zero_add]
      have h : Sat σ w (p1.at b :: (x.chunk :: ([(rb, cel ((xs.map TX.t).map (fun t => Value.pointer (some ⟨t, 0, none⟩)) ++ sp) ty_P_Text)] ++ (fills xs1 ts1 ++ (xs2.map TX.chunk ++ L))))) := by
        rw [List.map_cons] at h
        exact h.re (by intro _; simp only [List.append_eq, cnt_append, cnt_cons, cnt_nil] <;> omega)
      refine ⟨_, Sat.ld h (.tail _ (.head _)) (i := 3) rfl, ?_⟩
      have hc : p1.pz = some ⟨pb, 0, none⟩ := by have := congrArg PS.pz hp1; rw [show p1.pz = p.pz from this]; exact hpz
      have hk : p1.links = lk := by have := congrArg PS.links hp1; rw [show p1.links = p.links from this]; exact hlk
      refine hI x (by rw [← hxs]; simp) σ _ b pb p1 _ w (fun c hc => by simp [hL0 c hc]) h hc (by simp [ho]) hk fun w p2 q n c vs RM KM KM' hp2 hS hn2 hP h => ⟨_, _, _, rfl, nilP_some ?_⟩
      have h : Sat σ w (textC x.t x.s x.e none 0 0 x.raw :: (p2.at b :: (RM ++ (KM ++ ([(rb, cel ((xs.map TX.t).map (fun t => Value.pointer (some ⟨t, 0, none⟩)) ++ sp) ty_P_Text)] ++ (fills xs1 ts1 ++ (xs2.map TX.chunk ++ L))))))) := by
        have h : Sat σ w (p2.at b :: (RM ++ (KM ++ (textC x.t x.s x.e none 0 0 x.raw :: ([(rb, cel ((xs.map TX.t).map (fun t => Value.pointer (some ⟨t, 0, none⟩)) ++ sp) ty_P_Text)] ++ (fills xs1 ts1 ++ (xs2.map TX.chunk ++ L))))))) := h
        exact h.re (by intro _; simp only [List.append_eq, cnt_append, cnt_cons, cnt_nil] <;> omega)
      refine Sat.st h (k := 0) rfl (Nat.le_of_ble_eq_true rfl) trivial (by first | (dsimp only [List.set]; exact rfl) | exact rfl) fun w h => ?_
      have h : Sat σ w (textC x.t x.s x.e q n c x.raw :: (p2.at b :: (RM ++ (KM ++ ([(rb, cel ((xs.map TX.t).map (fun t => Value.pointer (some ⟨t, 0, none⟩)) ++ sp) ty_P_Text)] ++ (fills xs1 ts1 ++ (xs2.map TX.chunk ++ L))))))) := h
      rw [i64_inc (by omega)]
      have hf2 : Filled F (xs1 ++ [x]) (ts1 ++ [⟨q, n, c, vs, RM, KM, KM', F x.raw⟩]) := hf.append (.cons ⟨hS, hn2, hP⟩ rfl .nil)
      have := ih (xs1 ++ [x]) _ w p2 (by rw [← hxs]; simp) (hp2.trans hp1) hf2 ?_
      · rw [List.length_append, List.length_singleton, htq] at this; exact this
      · rw [fills_append hf]
        show Sat σ w (p2.at b :: ([(rb, cel ((xs.map TX.t).map (fun t => Value.pointer (some ⟨t, 0, none⟩)) ++ sp) ty_P_Text)] ++ ((fills xs1 ts1 ++ ((textC x.t x.s x.e q n c x.raw :: (RM ++ KM)) ++ [])) ++ (xs2.map TX.chunk ++ L))))
        exact h.re (by intro _; simp only [List.append_eq, cnt_append, cnt_cons, cnt_nil] <;> omega)
  exact key xs [] [] w p rfl rfl .nil h00
end Go.Proofs.YtejiaegiijokcaaGreatDoor


set_option linter.unusedVariables false
namespace Go.Proofs.YtejiaegiijokcaaGreatDoor
open Go.Proofs Go.IntWalk Go.RowKit
variable {σ : Out} {w : World} {L L' : List Chunk} {R : Ending → World → Prop}
def noNL (l : List UInt8) : Prop := 10 ∉ l ∧ 13 ∉ l
inductive LinesOf : List UInt8 → List (List UInt8 × UInt8) → Prop where
  | nil : LinesOf [] []
  | last {l : List UInt8} : l ≠ [] → noNL l → LinesOf l [(l, 0)]
  | cons {l t : List UInt8} {ls : List (List UInt8 × UInt8)} : noNL l → LinesOf t ls → LinesOf (l ++ 10 :: t) ((l, 10) :: ls)
theorem LinesOf.no13 {t : List UInt8} {ls : List (List UInt8 × UInt8)} (h : LinesOf t ls) : 13 ∉ t := by
  induction h with
  | nil => simp
  | last h1 h2 => exact h2.2
  | cons h1 h2 ih =>
    simp only [List.mem_append, List.mem_cons, not_or]
    exact ⟨h1.2, by decide, ih⟩
theorem LinesOf.len {t : List UInt8} {ls : List (List UInt8 × UInt8)} (h : LinesOf t ls) : ls.length ≤ t.length := by
  induction h with
  | nil => simp
  | last h1 h2 => have := List.length_pos_iff.2 h1; simp; omega
  | cons h1 h2 ih => simp; omega
theorem findSub_first {A B : List UInt8} {c : UInt8} (hc : c ∉ A) : ∀ (k i : Nat), i + k = A.length → ∀ f, k < f → findSub [c] (A ++ c :: B) f i = some A.length
  | 0, i, hi, f + 1, _ => by
    obtain rfl : i = A.length := by omega
    simp only [findSub, List.length_singleton]
    rw [if_pos (by simp), List.drop_left, if_pos (by simp)]
  | k + 1, i, hi, f + 1, hf => by
    simp only [findSub, List.length_singleton]
    rw [if_pos (by simp; omega), if_neg]
    · exact findSub_first hc k (i + 1) (by omega) f (by omega)
    · intro he
      have hil : i < A.length := by omega
      rw [List.drop_append_of_le_length (by omega), List.drop_eq_getElem_cons hil, List.cons_append, List.take_succ_cons, List.take_zero] at he
      have he2 : A[i] = c := (List.cons.inj he).1
      exact hc (he2 ▸ List.getElem_mem hil)
theorem idx_first {A B : List UInt8} {c : UInt8} (hc : c ∉ A) : idx (A ++ c :: B) [c] = some A.length := by
  unfold idx
  exact findSub_first hc A.length 0 (by omega) _ (by simp; omega)
end Go.Proofs.YtejiaegiijokcaaGreatDoor


set_option linter.unusedVariables false
namespace Go.Proofs.YtejiaegiijokcaaGreatDoor
open Go.Proofs Go.IntWalk Go.RowKit
variable {σ : Out} {w : World} {L L' : List Chunk} {R : Ending → World → Prop}
theorem bs_tailD (s : List UInt8) (i : Nat) : (bs s).extract i (bs s).size = bs (s.drop i) := by rw [bs_size, bs_extract, List.take_length]
inductive DefsT : List UInt8 → List (List UInt8 × List UInt8) → Prop where
  | one {lab D : List UInt8} : LabB lab → D ≠ [] → (∀ c ∈ D, destB c = true ∧ isSTN c = false) → DefsT (defT lab D) [(lab, D)]
  | cons {lab D s : List UInt8} {ds : List (List UInt8 × List UInt8)} : LabB lab → D ≠ [] → (∀ c ∈ D, destB c = true ∧ isSTN c = false) → DefsT s ds → DefsT (defT lab D ++ 10 :: s) ((lab, D) :: ds)
theorem DefsT.head {s : List UInt8} {ds : List (List UInt8 × List UInt8)} (h : DefsT s ds) : ∃ t, s = 91 :: t := by
  cases h <;> exact ⟨_, rfl⟩
inductive addRefs : List RefE → List (List UInt8 × List UInt8) → List RefE → Prop where
  | nil {e : List RefE} : addRefs e [] e
  | cons {e e1 e2 : List RefE} {lab D : List UInt8} {ds : List (List UInt8 × List UInt8)} : addRef e e1 (normGo false lab) D → addRefs e1 ds e2 → addRefs e ((lab, D) :: ds) e2
def emptyC (nb s e : Nat) : Chunk := (nb, cel [.int .i64 s, .int .i64 e] ty_Empty)
theorem paraDefs_ok {b qb : Nat} {p : PS} {ob : List OB} {o : OB} {M RM PM : List Chunk} {ents : List RefE} {ls : List (List UInt8)} {s : List UInt8} {ds : List (List UInt8 × List UInt8)} (h : Sat σ w (p.at b :: M ++ (RM ++ (PM ++ L)))) (hs : Stk p (ob ++ [o]) M)
    (hM : RefsAt p.links ents RM) (hp : ParaAt qb ls PM) (hls : ls ≠ []) (hln : ls.length < 1048576) (hj : joinL [10] ls = s) (hl : s.length < 100000) (hD : DefsT s ds)
    (hR : ∀ w (p' : PS) RM' ents' nb, p' = { p with links := p'.links } → addRefs ents ds ents' → RefsAt p'.links ents' RM' → Sat σ w (p'.at b :: M ++ (RM' ++ (PM ++ (emptyC nb o.s o.e :: L)))) → R (.returned (.iface ty_P_Empty (.pointer (some ⟨nb, 0, none⟩)))) w) :
    callE P i_paraBuilder_build #[.pointer (some ⟨qb, 0, none⟩), .iface ty_P_parseState (.pointer (some ⟨b, 0, none⟩))] R w := by
  obtain ⟨q, c, SM, hS, rfl⟩ := hp
  have hsne : s ≠ [] := by obtain ⟨t, rfl⟩ := hD.head; simp
  refine g_paraBuilder_build.sound ?_
  have h : Sat σ w ((qb, cel [.slice q ls.length c, .pointer none] ty_paraBuilder) :: (SM ++ (p.at b :: M ++ (RM ++ L)))) := h.re (by intro _; simp only [List.append_eq, cnt_append, cnt_cons, cnt_nil] <;> omega)
  repeat (first | refine nilP_some ?_ | refine Sat.tk h fun w h => ?_ | refine ⟨_, Sat.ld h (by first | assumption | (repeat (first | exact .head _ | apply List.Mem.tail))) (by exact rfl), ?_⟩ | refine ⟨_, _, _, Sat.ld h (by first | assumption | (repeat (first | exact .head _ | apply List.Mem.tail))) (by exact rfl), ?_⟩)
  refine ⟨_, w, ne_ptr_nil und_table _ _ _ w, br_false rfl ?_⟩
  repeat (first | refine nilP_some ?_ | refine Sat.tk h fun w h => ?_ | refine ⟨_, Sat.ld h (by first | assumption | (repeat (first | exact .head _ | apply List.Mem.tail))) (by exact rfl), ?_⟩ | refine ⟨_, _, _, Sat.ld h (by first | assumption | (repeat (first | exact .head _ | apply List.Mem.tail))) (by exact rfl), ?_⟩)
  have h : Sat σ w (SM ++ ((qb, cel [.slice q ls.length c, .pointer none] ty_paraBuilder) :: (p.at b :: M ++ (RM ++ L)))) := h.re (by intro _; simp only [List.append_eq, cnt_append, cnt_cons, cnt_nil] <;> omega)
  refine lines_join hS h hls hln (by rw [hj]; exact hsne) (by rw [hj]; omega) fun w h => ⟨_, rfl, ?_⟩
  rw [hj]
  intro X hX
  generalize hK : ((qb, cel [.slice q ls.length c, .pointer none] ty_paraBuilder) :: SM : List Chunk) = PM at hR
  have h : Sat σ w (p.at b :: (RM ++ (M ++ (PM ++ L)))) := by rw [← hK]; exact h.re (by intro _; simp only [List.append_eq, cnt_append, cnt_cons, cnt_nil] <;> omega)
  have fin : ∀ w (p1 : PS) RM1 ents1, p1 = { p with links := p1.links } → addRefs ents ds ents1 → RefsAt p1.links ents1 RM1 → Sat σ w (p1.at b :: (RM1 ++ (M ++ (PM ++ L)))) →
      X (some ⟨qb, 0, none⟩) (.iface ty_P_parseState (.pointer (some ⟨b, 0, none⟩))) (bs []) w := by
    intro w p1 RM1 ents1 hp1 ha hM1 h
    refine hX _ _ _ _ (br_false (by rw [bs_toList, mk_toList]; rfl) (br_true (by rw [bs_toList, mk_toList]; rfl) ?_))
    have hs1 : Stk p1 (ob ++ [o]) M := hs.of (by rw [hp1]) (by rw [hp1]) (by rw [hp1])
    have h : Sat σ w (p1.at b :: M ++ (RM1 ++ (PM ++ L))) := h.re (by intro _; simp only [List.append_eq, cnt_append, cnt_cons, cnt_nil] <;> omega)
    refine enter_meth meth_pos ?_
    refine pos_ok h hs1 fun w h => ⟨_, _, rfl, ?_⟩
    refine Sat.bx h fun nb w h => ?_
    have h : Sat σ w (emptyC nb o.s o.e :: (p1.at b :: M ++ (RM1 ++ (PM ++ L)))) := h
    exact hR w p1 RM1 ents1 nb hp1 ha hM1 (h.re (by intro _; simp only [List.append_eq, cnt_append, cnt_cons, cnt_nil] <;> omega))
  have key : ∀ (s : List UInt8) (ds2 : List (List UInt8 × List UInt8)), DefsT s ds2 → s.length < 100000 → ∀ w (p1 : PS) RM1 ents1, p1 = { p with links := p1.links } → (∀ e2, addRefs ents1 ds2 e2 → addRefs ents ds e2) → RefsAt p1.links ents1 RM1 → Sat σ w (p1.at b :: (RM1 ++ (M ++ (PM ++ L)))) →
      X (some ⟨qb, 0, none⟩) (.iface ty_P_parseState (.pointer (some ⟨b, 0, none⟩))) (bs s) w := by
    intro s ds2 hD2
    induction hD2 with
    | @one lab D h1 h2 h3 =>
      intro hl w p1 RM1 ents1 hp1 ha hM1 h
      refine hX _ _ _ _ (br_true (by rw [bs_toList, mk_toList]; rfl) ?_)
      have hdef := fun {R : Ending → World → Prop} => parseLinkRefDef_def (R := R) (B := []) hM1 h (by rw [List.append_nil]; exact hl) h1 h2 h3 (.inl rfl)
      rw [List.append_nil] at hdef
      refine hdef fun w p2 M2 ents2 hp2 ha2 hM2 h => ⟨_, _, rfl, br_false rfl ?_⟩
      rw [if_pos rfl, Nat.add_zero]
      refine skipSp_ok (by omega) (Nat.le_refl _) ⟨_, rfl, ?_⟩
      have hp0 : pastSTN (defT lab D) (defT lab D).length = (defT lab D).length := by unfold pastSTN; rw [List.drop_length]; rfl
      rw [hp0]
      refine ⟨by omega, by simp, ?_⟩
      rw [Int.toNat_natCast, bs_tailD, List.drop_length]
      exact fin w p2 M2 ents2 (by rw [hp2, hp1]) (ha _ (.cons ha2 .nil)) hM2 h
    | @cons lab D s ds3 h1 h2 h3 h4 ih =>
      intro hl w p1 RM1 ents1 hp1 ha hM1 h
      obtain ⟨t, hst⟩ := h4.head
      have hTail : TailOK (10 :: s) := .inr ⟨s, rfl, .inr ⟨91, t, hst, by decide, by decide, by decide, by decide⟩⟩
      refine hX _ _ _ _ (br_true (by rw [bs_toList, mk_toList]; rfl) ?_)
      have hdef := fun {R : Ending → World → Prop} => parseLinkRefDef_def (R := R) (B := 10 :: s) hM1 h hl h1 h2 h3 hTail
      refine hdef fun w p2 M2 ents2 hp2 ha2 hM2 h => ⟨_, _, rfl, br_false rfl ?_⟩
      rw [if_neg (by simp)]
      have hlen : (defT lab D ++ 10 :: s).length = (defT lab D).length + 1 + s.length := by simp; omega
      have hsl : 0 < s.length := by rw [hst]; simp
      refine skipSp_ok (by omega) (by omega) ⟨_, rfl, ?_⟩
      have hg : (defT lab D ++ 10 :: s).getD ((defT lab D).length + 1) 0 = 91 := by rw [getD_at rfl, hst]; rfl
      rw [pastSTN_here (by omega) (by rw [hg]; decide)]
      refine ⟨by omega, by simp; omega, ?_⟩
      rw [Int.toNat_natCast, bs_tailD]
      have hdr : (defT lab D ++ 10 :: s).drop ((defT lab D).length + 1) = s := by rw [List.drop_append]; simp
      rw [hdr]
      exact ih (by omega) w p2 M2 ents2 (by rw [hp2, hp1]) (fun e2 h => ha _ (.cons ha2 h)) hM2 h
  exact key s ds hD hl w p RM ents rfl (fun e2 h => h) hM h
end Go.Proofs.YtejiaegiijokcaaGreatDoor


set_option linter.unusedVariables false
namespace Go.Proofs.YtejiaegiijokcaaGreatDoor
open Go.Proofs Go.IntWalk Go.RowKit
variable {σ : Out} {w : World} {L L' : List Chunk} {R : Ending → World → Prop}
theorem close_ref {b k : Nat} {p : PS} {ents : List RefE} {RM : List Chunk} {A lab B t k' url : List UInt8} {lb : Nat} (hM : RefsAt p.links ents RM) (hl : (A ++ 93 :: 91 :: (lab ++ 93 :: B)).length < 100000) (hL : LabB lab) (hf : findK (normGo false lab) (refK ents) = some lb) (he : (k', lb, url) ∈ ents) :
    CloseOK b p (A ++ 93 :: 91 :: (lab ++ 93 :: B)) A.length t k RM url [] 0 false (A.length + 3 + lab.length) := by
  intro σ R L w ob oe hL0 hob hp h hR
  have hll := hL.len
  have hs : A ++ 93 :: 91 :: (lab ++ 93 :: B) = (A ++ [93]) ++ 91 :: (lab ++ 93 :: B) := by simp
  have hlen : (A ++ 93 :: 91 :: (lab ++ 93 :: B)).length = A.length + 3 + lab.length + B.length := by simp; omega
  have g1 : (A ++ 93 :: 91 :: (lab ++ 93 :: B)).getD (A.length + 1) 0 = 91 := by rw [getD_at rfl]; rfl
  have hlk : refC (k', lb, url) ∈ L := hL0 _ (hM.mem he)
  have hla : (A ++ [93]).length = A.length + 1 := by simp
  generalize hr : A ++ 93 :: 91 :: (lab ++ 93 :: B) = s at hl hs hlen g1 ⊢
  refine g_parseState_parseLinkClose.sound ?_
  unfold g_parseState_parseLinkClose
  rw [i64_inc (by omega)]
  refine br_true (by simp; omega) ⟨by omega, by simp; omega, ?_⟩
  rw [bs_bt, g1]
  refine br_false rfl (br_true rfl ?_)
  rw [hs, ← hla]
  refine parseLinkLabel_ok (by rw [← hs]; omega) hL ⟨_, _, _, rfl, br_false rfl ?_⟩
  rw [hla]
  refine h.tk fun w h => nilP_some ?_
  refine ⟨p.links, Sat.ld h hp rfl, ?_⟩
  have h0 := h
  refine normalizeLabel_ok (by omega) (fun hm => (hL.ok _ hm).1 rfl) (fun hm => (hL.ok _ hm).2.2 rfl) hL.ne hL.h0 hL.h1 h fun w h => ⟨_, rfl, h0.same h hp hp 1, ?_⟩
  have hlu := refs_lookup hM hL0 h (normGo false lab) true
  rw [if_pos rfl] at hlu
  refine ⟨_, _, _, hlu, ?_⟩
  rw [hf]
  refine br_true rfl (h.tk fun w h => nilP_some (nilP_some (nilP_some ?_)))
  refine ⟨bs url, Sat.ld h hlk (i := 1) rfl, bs [], Sat.ld h hlk (i := 2) rfl, false, Sat.ld h hlk (i := 4) rfl, ?_⟩
  rw [show A.length + 1 + 1 + lab.length + 1 = A.length + 3 + lab.length by omega]
  exact Sat.bx h fun nb w h => hR w nb h
theorem findK_mem {k : List UInt8} {lb : Nat} : ∀ {e : List RefE}, findK k (refK e) = some lb → ∃ x ∈ e, x.1 = k ∧ x.2.1 = lb
  | [], h => by simp [refK, findK] at h
  | x :: e, h => by
    simp only [refK, List.map_cons, findK] at h
    split at h
    · rename_i hk
      exact ⟨x, .head _, hk, Option.some.inj h⟩
    · obtain ⟨y, hy, h1⟩ := findK_mem (e := e) h
      exact ⟨y, .tail _ hy, h1⟩
theorem findK_app {k : List UInt8} : ∀ {e : List RefE} {f : List RefE}, (findK k (refK e)).isSome = true → (findK k (refK (e ++ f))).isSome = true
  | [], f, h => by simp [refK, findK] at h
  | x :: e, f, h => by
    simp only [refK, List.map_cons, List.cons_append, findK] at h ⊢
    split
    · rfl
    · rename_i hk
      rw [if_neg hk] at h
      exact findK_app (e := e) (f := f) h
theorem findK_last {k : List UInt8} {lb : Nat} {D : List UInt8} : ∀ {e : List RefE}, (findK k (refK (e ++ [(k, lb, D)]))).isSome = true
  | [] => by simp [refK, findK]
  | x :: e => by
    simp only [refK, List.map_cons, List.cons_append, findK]
    split
    · rfl
    · exact findK_last (e := e)
theorem addRef_keeps {e e' : List RefE} {k D k2 : List UInt8} (h : addRef e e' k D) (h2 : (findK k2 (refK e)).isSome = true) : (findK k2 (refK e')).isSome = true := by
  rcases h with ⟨_, lb, rfl⟩ | ⟨_, rfl⟩
  · exact findK_app h2
  · exact h2
theorem addRefs_keeps {e e' : List RefE} {ds : List (List UInt8 × List UInt8)} {k2 : List UInt8} (h : addRefs e ds e') (h2 : (findK k2 (refK e)).isSome = true) : (findK k2 (refK e')).isSome = true := by
  induction h with
  | nil => exact h2
  | cons h3 _ ih => exact ih (addRef_keeps h3 h2)
theorem addRefs_all {e e' : List RefE} {ds : List (List UInt8 × List UInt8)} (h : addRefs e ds e') : ∀ d ∈ ds, (findK (normGo false d.1) (refK e')).isSome = true := by
  induction h with
  | nil => intro d hd; cases hd
  | cons h3 h4 ih =>
    intro d hd
    rcases List.mem_cons.1 hd with rfl | hd
    · refine addRefs_keeps h4 ?_
      rcases h3 with ⟨_, lb, rfl⟩ | ⟨h5, rfl⟩
      · exact findK_last
      · exact h5
    · exact ih d hd
theorem addRefs_sound {e e' : List RefE} {ds : List (List UInt8 × List UInt8)} (h : addRefs e ds e') : ∀ x ∈ e', x ∈ e ∨ ∃ d ∈ ds, x.1 = normGo false d.1 ∧ x.2.2 = d.2 := by
  induction h with
  | nil => intro x hx; exact .inl hx
  | @cons e e1 e2 lab D ds h3 h4 ih =>
    intro x hx
    rcases ih x hx with h5 | ⟨d, hd, h5⟩
    · rcases h3 with ⟨_, lb, rfl⟩ | ⟨_, rfl⟩
      · rcases List.mem_append.1 h5 with h6 | h6
        · exact .inl h6
        · simp at h6; subst h6; exact .inr ⟨(lab, D), .head _, rfl, rfl⟩
      · exact .inl h5
    · exact .inr ⟨d, .tail _ hd, h5⟩
theorem addRefs_find {e' : List RefE} {ds : List (List UInt8 × List UInt8)} (h : addRefs [] ds e') (huniq : ∀ d ∈ ds, ∀ d2 ∈ ds, normGo false d.1 = normGo false d2.1 → d.2 = d2.2) {d : List UInt8 × List UInt8} (hd : d ∈ ds) :
    ∃ lb k', findK (normGo false d.1) (refK e') = some lb ∧ (k', lb, d.2) ∈ e' := by
  obtain ⟨lb, hlb⟩ := Option.isSome_iff_exists.1 (addRefs_all h d hd)
  obtain ⟨x, hx, h1, h2⟩ := findK_mem hlb
  rcases addRefs_sound h x hx with h3 | ⟨d2, hd2, h4, h5⟩
  · cases h3
  · have := huniq d hd d2 hd2 (by rw [← h4, h1])
    refine ⟨lb, x.1, hlb, ?_⟩
    rw [this, ← h5, ← h2]; exact hx
end Go.Proofs.YtejiaegiijokcaaGreatDoor


set_option linter.unusedVariables false
set_option maxRecDepth 20000
namespace Go.Proofs.YtejiaegiijokcaaGreatDoor
open Go.Proofs
namespace g_laws_word
noncomputable def body : Code := bodyOf Tryz.f11
end g_laws_word
def g_laws_word (R : EP) (x0 : BA) (w : World) : Prop :=
 br (!(x0.toList == (ByteArray.mk #[]).toList))
 (callE P i_laws_only #[.string x0, .string (ByteArray.mk #[97, 98, 122, 48, 49, 57]), .int .i64 20] (fun e w2 => ∃ (r1 : Bool), e = .returned (.bool r1) ∧
 R (.returned (.bool r1)) w2) w)
 (R (.returned (.bool false)) w)

noncomputable def g_laws_word.ac (R : EP) : AC :=
  (.leaf (sel [] g_laws_word.body))
theorem g_laws_word.good (R : EP) : Good P 9 (g_laws_word.ac R) (QF P [.tmp 2] R) :=
  trivial
theorem g_laws_word.eq (R : EP) (x0 : BA) (w : World) : g_laws_word R x0 w = vcA P 9 (g_laws_word.ac R) (QF P [.tmp 2] R) (fr0 [.string x0]) w := by kernel_rfl
theorem g_laws_word.sound {R : EP} {x0 : ByteArray} {w : World} (h : g_laws_word R x0 w) : callE P i_laws_word #[.string x0] R w :=
  callE_fin (c := g_laws_word.body) Tryz.func11 Tryz.call11 (by kernel_rfl) (by kernel_rfl) (by kernel_rfl) (by kernel_rfl) (by kernel_rfl) (g_laws_word.good R) (g_laws_word.eq R x0 w) h
end Go.Proofs.YtejiaegiijokcaaGreatDoor

set_option linter.unusedVariables false
namespace Go.Proofs.YtejiaegiijokcaaGreatDoor
open Go.Proofs Go.IntWalk Go.RowKit
variable {σ : Out} {w : World} {L L' : List Chunk} {R : Ending → World → Prop}
def wordM (s : List UInt8) : Bool := !s.isEmpty && onlyM s [97, 98, 122, 48, 49, 57] 20
theorem word_ok {s : List UInt8} (hs : s.length < 4611686018427387904) (hR : R (.returned (.bool (wordM s))) w) : callE P i_laws_word #[.string (bs s)] R w := by
  refine g_laws_word.sound ?_
  cases hs0 : s with
  | nil => subst hs0; exact br_false (by rw [bs_toList, mk_toList]; rfl) hR
  | cons c t =>
    rw [← hs0]
    refine br_true (by rw [bs_toList, mk_toList, hs0]; rfl) ?_
    refine only_ok (set := [97, 98, 122, 48, 49, 57]) (n := 20) hs ⟨_, rfl, ?_⟩
    have : wordM s = onlyM s [97, 98, 122, 48, 49, 57] 20 := by unfold wordM; rw [hs0]; rfl
    rw [← this]; exact hR
end Go.Proofs.YtejiaegiijokcaaGreatDoor


set_option linter.unusedVariables false
namespace Go.Proofs.YtejiaegiijokcaaGreatDoor
open Go.Proofs Go.IntWalk Go.RowKit
variable {σ : Out} {w : World} {L L' : List Chunk} {R : Ending → World → Prop}
def labT (a : List UInt8) (d : UInt8) : List UInt8 := a ++ [32, 32, d]
def refT1 (a : List UInt8) (d : UInt8) : List UInt8 := 32 :: 91 :: 116 :: 93 :: 91 :: (labT a d ++ [93])
def refsT (a : List UInt8) : List UInt8 → List UInt8
  | [] => []
  | d :: ds => refT1 a d ++ refsT a ds
def linkD (d : UInt8) : Inl := closeI false [.plain [116]] [47, 117, d] [] 0 false
def refsI : List UInt8 → List UInt8 → List Inl
  | _, [] => []
  | pd, d :: ds => .plain (pd ++ [32]) :: linkD d :: refsI [] ds
def refOut (d : UInt8) : List UInt8 := 32 :: (linkO [47, 117, d] [] ++ [116] ++ aEnd)
theorem labT_len (a : List UInt8) (d : UInt8) : (labT a d).length = a.length + 3 := by simp [labT]
theorem refT1_len (a : List UInt8) (d : UInt8) : (refT1 a d).length = a.length + 9 := by simp [refT1, labT_len]
theorem refsT_len (a : List UInt8) : ∀ ds : List UInt8, (refsT a ds).length = (a.length + 9) * ds.length
  | [] => rfl
  | d :: ds => by rw [refsT, List.length_append, refT1_len, refsT_len a ds, List.length_cons, Nat.mul_add]; omega
theorem refsI_merge : ∀ (ds pd : List UInt8), mergeGo [] (refsI pd ds) = refsI pd ds
  | [], pd => rfl
  | d :: ds, pd => by
    show flushP ([] ++ [pd ++ [32]]) ++ linkD d :: mergeGo [] (refsI [] ds) = _
    rw [refsI_merge ds []]
    simp [flushP, refsI]
theorem refsI_facts : ∀ (ds pd : List UInt8), (∀ t ∈ refsI pd ds, noRun t = true ∧ plainO t = t ∧ ∀ s, t.plain? = some s → s ≠ []) ∧ plen (refsI pd ds) ≤ pd.length + ds.length ∧ (refsI pd ds).length = 2 * ds.length
  | [], pd => ⟨(by intro t ht; cases ht), by simp [refsI, plen], rfl⟩
  | d :: ds, pd => by
    obtain ⟨h1, h2, h3⟩ := refsI_facts ds []
    refine ⟨?_, ?_, ?_⟩
    · intro t ht
      rcases List.mem_cons.1 ht with rfl | ht
      · exact ⟨rfl, rfl, fun s hs => by simp [Inl.plain?] at hs; subst hs; simp⟩
      rcases List.mem_cons.1 ht with rfl | ht
      · exact ⟨rfl, rfl, fun s hs => by simp [linkD, closeI, Inl.plain?] at hs⟩
      · exact h1 t ht
    · simp only [refsI, plen, linkD, closeI, Inl.plain?, Bool.false_eq_true, if_false, List.length_append, List.length_cons, List.length_nil] at h2 ⊢
      omega
    · simp only [refsI, List.length_cons, h3]; omega
theorem refsI_ok : ∀ (ds pd : List UInt8), pd.length < 1000 → okL (refsI pd ds)
  | [], pd, _ => trivial
  | d :: ds, pd, h => ⟨by show (pd ++ [32]).length < _; simp; omega, ⟨⟨by show ([116] : List UInt8).length < _; decide, trivial⟩, by simp, by simp, by simp⟩, refsI_ok ds [] (by simp)⟩
theorem refsI_out : ∀ (ds pd : List UInt8), ds ≠ [] → escS htmlPs (pd ++ [32]) = pd ++ [32] → outL (refsI pd ds) = pd ++ ds.flatMap refOut
  | [], pd, h, _ => absurd rfl h
  | d :: ds, pd, _, he => by
    have h1 : outI (linkD d) = linkO [47, 117, d] [] ++ [116] ++ aEnd := by
      show linkO [47, 117, d] [] ++ (escS htmlPs [116] ++ []) ++ aEnd = _
      rw [show escS htmlPs [116] = [116] from by decide]; simp
    show escS htmlPs (pd ++ [32]) ++ (outI (linkD d) ++ outL (refsI [] ds)) = _
    rw [he, h1]
    by_cases hd : ds = []
    · subst hd; simp [refsI, outL, refOut]
    · rw [refsI_out ds [] hd (by decide)]
      simp [refOut]
structure LabP (a ds : List UInt8) : Prop where
  w : wordM a = true
  n : ds.length ≤ 20
  n0 : ds ≠ []
  d : ∀ c ∈ ds, 48 ≤ c.toNat ∧ c.toNat ≤ 57
theorem word_mem {a : List UInt8} (h : wordM a = true) : a ≠ [] ∧ a.length ≤ 20 ∧ ∀ c ∈ a, c = 97 ∨ c = 98 ∨ c = 122 ∨ c = 48 ∨ c = 49 ∨ c = 57 := by
  simp only [wordM, Bool.and_eq_true, Bool.not_eq_true', onlyM, decide_eq_true_eq, List.all_eq_true] at h
  refine ⟨by rintro rfl; simp at h, h.2.1, fun c hc => by simpa using h.2.2 c hc⟩
theorem dig_ne {d e : UInt8} (h : 48 ≤ d.toNat ∧ d.toNat ≤ 57) (he : e.toNat < 48 ∨ 57 < e.toNat) : d ≠ e := by rintro rfl; omega
theorem dig_stn {d : UInt8} (h : 48 ≤ d.toNat ∧ d.toNat ≤ 57) : isSTN d = false := by
  unfold isSTN
  have h1 := dig_ne h (e := 32) (by decide); have h2 := dig_ne h (e := 9) (by decide); have h3 := dig_ne h (e := 10) (by decide)
  simp [h1, h2, h3]
theorem lab_ok {a sp : List UInt8} {d : UInt8} (ha : wordM a = true) (hsp : sp = [32] ∨ sp = [32, 32]) (hd : 48 ≤ d.toNat ∧ d.toNat ≤ 57) : LabB (a ++ (sp ++ [d])) ∧ normGo false (a ++ (sp ++ [d])) = a ++ [32, d] := by
  obtain ⟨h0, hl, hm⟩ := word_mem ha
  have hp := List.length_pos_iff.2 h0
  have hst : ∀ c ∈ a, isSTN c = false := fun c hc => by rcases hm c hc with rfl | rfl | rfl | rfl | rfl | rfl <;> decide
  have hlow : ∀ c ∈ a, lowC c = c := fun c hc => by rcases hm c hc with rfl | rfl | rfl | rfl | rfl | rfl <;> decide
  have hdl : lowC d = d := by unfold lowC; rw [if_neg (by omega)]
  have hds := dig_stn hd
  refine ⟨⟨by simp [h0], by rcases hsp with rfl | rfl <;> simp <;> omega, ?_, ?_, ?_⟩, ?_⟩
  · intro c hc
    simp only [List.mem_append, List.mem_singleton] at hc
    rcases hc with hc | hc | rfl
    · rcases hm c hc with rfl | rfl | rfl | rfl | rfl | rfl <;> decide
    · have : c = 32 := by rcases hsp with rfl | rfl <;> simpa using hc
      subst this; decide
    · exact ⟨dig_ne hd (by decide), dig_ne hd (by decide), dig_ne hd (by decide)⟩
  · rw [getD_app' hp, ← getElem_getD hp]; exact hst _ (List.getElem_mem _)
  · have : (a ++ (sp ++ [d])).getD ((a ++ (sp ++ [d])).length - 1) 0 = d := by
      rw [← List.append_assoc, show ((a ++ sp) ++ [d]).length - 1 = (a ++ sp).length by simp]; exact getD_mid (a ++ sp) [] d 0
    rw [this]; exact hds
  · have key : ∀ t : List UInt8, (∀ c ∈ t, isSTN c = false ∧ lowC c = c) → ∀ r, normGo false (t ++ r) = t ++ normGo false r := by
      intro t ht r
      induction t with
      | nil => rfl
      | cons c t ih =>
        have h1 := ht c (.head _)
        have := ih (fun d hd => ht d (.tail _ hd))
        simp [normGo, h1.1, h1.2, this]
    rw [key a (fun c hc => ⟨hst c hc, hlow c hc⟩)]
    rcases hsp with rfl | rfl <;> simp [normGo, hds, hdl, show isSTN 32 = true from rfl]
theorem refs_inline {o : Opt} {lk : Option Nat} {ents : List RefE} {RM : List Chunk} {a ds : List UInt8} (hoff : o.auto = false) (hP : LabP a ds) (hM : RefsAt lk ents RM)
    (hf : ∀ d ∈ ds, ∃ lb k', findK (normGo false (labT a d)) (refK ents) = some lb ∧ (k', lb, [47, 117, d]) ∈ ents) : InlineOKG lk RM o (120 :: refsT a ds) (ab (120 :: ds.flatMap refOut)) := by
  intro σ R b pb p L w hL0 h hpz ho hlk hR
  obtain ⟨ha0, hal, ham⟩ := word_mem hP.w
  have hn := hP.n
  have hrl := refsT_len a ds
  have hrl2 : (refsT a ds).length ≤ 580 := by
    rw [hrl]
    have h1 : a.length + 9 ≤ 29 := by omega
    calc (a.length + 9) * ds.length ≤ 29 * 20 := Nat.mul_le_mul h1 hn
      _ = 580 := rfl
  have hlast : ∃ P, 120 :: refsT a ds = P ++ [93] := by
    have : ∀ ds : List UInt8, ds ≠ [] → ∃ P, refsT a ds = P ++ [93] := by
      intro ds
      induction ds with
      | nil => intro h; exact absurd rfl h
      | cons d ds ih =>
        intro _
        by_cases hd : ds = []
        · subst hd; exact ⟨32 :: 91 :: 116 :: 93 :: 91 :: labT a d, by simp [refsT, refT1]⟩
        · obtain ⟨P, hP⟩ := ih hd
          exact ⟨refT1 a d ++ P, by simp [refsT, hP]⟩
    obtain ⟨P, hP⟩ := this ds hP.n0
    exact ⟨120 :: P, by rw [hP]; rfl⟩
  have htr : trimLR isST (120 :: refsT a ds) = 120 :: refsT a ds := by
    obtain ⟨P, hP⟩ := hlast
    unfold trimLR trimR
    rw [List.dropWhile_cons_of_neg (by decide), hP, List.reverse_append, List.reverse_singleton, List.singleton_append, List.dropWhile_cons_of_neg (by decide)]
    simp
  refine inl_begin h (by simp; omega) fun w h => ?_
  rw [htr] at h ⊢
  have hraw0 : (120 :: refsT a ds) = [120] ++ refsT a ds := rfl
  have hrawl : (120 :: refsT a ds).length < 1000 := by simp; omega
  generalize hr : 120 :: refsT a ds = raw at h hraw0 hrawl ⊢
  intro X hX
  have hXL : LoopB R X b raw := fun _ _ _ _ _ _ h => hX _ _ _ _ _ _ _ _ _ h
  generalize hp0 : ({ p with s := raw, em := 0, lq := none, ln := 0, lc := 0 } : PS) = p0 at h
  have hpz0 : p0.pz = some ⟨pb, 0, none⟩ := by rw [← hp0]; exact hpz
  have hlk0 : p0.links = lk := by rw [← hp0]; exact hlk
  have hcs : p0.coreS = p.coreS := by rw [← hp0]; rfl
  suffices hat : AtB X σ b p0 raw L 0 0 [] [] 0 from hat w p0 none 0 0 rfl (by rw [← hp0]) (by rw [← hp0]; rfl) h
  have gi : ∀ k (hk : k < raw.length) (c : UInt8), raw.getD k 0 = c → raw[k] = c := fun k hk c hc => by rw [getElem_getD hk 0]; exact hc
  have em : ∀ ts, emitM raw raw.length raw.length ts = ts := fun ts => by unfold emitM; rw [if_neg (by omega)]
  obtain ⟨hI1, hI2, hI3⟩ := refsI_facts ds [120]
  have base : ∀ lo, AtB X σ b p0 raw L raw.length raw.length (refsI [120] ds) [] lo := by
    intro lo
    have hpm : (refsI [120] ds).map plainO = refsI [120] ds := by
      have : ∀ l : List Inl, (∀ t ∈ l, plainO t = t) → l.map plainO = l := by
        intro l hl
        induction l with
        | nil => rfl
        | cons t l ih => rw [List.map_cons, hl t (.head _), ih (fun x hx => hl x (.tail _ hx))]
      exact this _ fun t ht => (hI1 t ht).2.1
    have hE := emphOK_noRun (ts := refsI [120] ds) (fun t ht => (hI1 t ht).1) (by omega)
    rw [hpm] at hE
    refine AtB.fin (ts' := refsI [120] ds) hXL (by omega) hpz0 ho hoff (by omega) (by rw [em]; exact hE) (fun t ht => (hI1 t ht).2.2) (by simp at hI2; omega) ?_
    intro w p' q n' c vs RM' EM hp' hS hn' hI h
    have hm : mergeM (refsI [120] ds) = refsI [120] ds := refsI_merge ds [120]
    rw [hm] at hI
    have hPr := inls_print _ _ _ hI (refsI_ok ds [120] (by decide))
    rw [refsI_out ds [120] hP.n0 (by decide)] at hPr
    exact hR w p' q n' c vs RM' EM EM (hp'.trans hcs) hS hn' hPr h
  have key : ∀ (ds2 Q pd : List UInt8) (e : Nat) (ts : List Inl) (lo : Int), raw = Q ++ refsT a ds2 → sub raw e Q.length = pd → e ≤ Q.length → lo ≤ (Q.length : Int) → (ds2 = [] → e = Q.length) → ts ++ refsI pd ds2 = refsI [120] ds → (∀ d ∈ ds2, d ∈ ds) →
      AtB X σ b p0 raw L Q.length e ts [] lo := by
    intro ds2
    induction ds2 with
    | nil =>
      intro Q pd e ts lo hq _ _ _ he hts _
      have hQ : Q = raw := by rw [hq]; simp [refsT]
      rw [he rfl, hQ]
      rw [show ts = refsI [120] ds by rw [← hts]; simp [refsI]]
      exact base lo
    | cons d ds2 ih =>
      intro Q pd e ts lo hq hsub heQ hlo _ hts hmem
      have hdd := hP.d d (hmem d (.head _))
      obtain ⟨hlab, hnorm⟩ := lab_ok (d := d) hP.w (sp := [32, 32]) (.inr rfl) hdd
      have hlabe : a ++ ([32, 32] ++ [d]) = labT a d := by simp [labT]
      rw [hlabe] at hlab hnorm
      obtain ⟨lb, k', hf1, hf2⟩ := hf d (hmem d (.head _))
      have hq2 : raw = Q ++ (32 :: 91 :: 116 :: 93 :: 91 :: (labT a d ++ 93 :: refsT a ds2)) := by rw [hq]; simp [refsT, refT1]
      have hql : raw.length = Q.length + 6 + (labT a d).length + (refsT a ds2).length := by rw [hq2]; simp; omega
      have gq : ∀ k, raw.getD (Q.length + k) 0 = (32 :: 91 :: 116 :: 93 :: 91 :: (labT a d ++ 93 :: refsT a ds2) : List UInt8).getD k 0 := fun k => by rw [hq2]; exact getD_at rfl k
      have c0 := gi Q.length (by omega) 32 (by have := gq 0; rw [Nat.add_zero] at this; rw [this]; rfl)
      have c1 := gi (Q.length + 1) (by omega) 91 (by rw [gq 1]; rfl)
      have c2 := gi (Q.length + 2) (by omega) 116 (by rw [gq 2]; rfl)
      have c3 := gi (Q.length + 3) (by omega) 93 (by rw [gq 3]; rfl)
      have htl : ts.length ≤ 2 * ds.length := by have := congrArg List.length hts; rw [List.length_append, hI3] at this; omega
      have hsub2 : sub raw e (Q.length + 1) = pd ++ [32] := by
        unfold sub at hsub ⊢
        rw [hq2] at hsub ⊢
        rw [List.take_left' rfl] at hsub
        rw [show Q ++ (32 :: 91 :: 116 :: 93 :: 91 :: (labT a d ++ 93 :: refsT a ds2)) = (Q ++ [32]) ++ (91 :: 116 :: 93 :: 91 :: (labT a d ++ 93 :: refsT a ds2)) by simp, List.take_left' (by simp), List.drop_append_of_le_length heQ, hsub]
      have hx : emitX raw (Q.length + 2) (Q.length + 3) = [.plain [116]] := by
        unfold emitX; rw [if_pos (by omega)]
        have : sub raw (Q.length + 2) (Q.length + 3) = [116] := by
          unfold sub
          rw [hq2, show Q ++ (32 :: 91 :: 116 :: 93 :: 91 :: (labT a d ++ 93 :: refsT a ds2)) = ((Q ++ [32, 91]) ++ [116]) ++ (93 :: 91 :: (labT a d ++ 93 :: refsT a ds2)) by simp, List.take_left' (by simp), List.drop_left' (by simp)]
        rw [this]
      have hnr : ∀ t ∈ [] ++ emitX raw (Q.length + 2) (Q.length + 3), noRun t = true := by rw [hx]; intro t ht; simp at ht; subst ht; rfl
      have s4 : AtB X σ b p0 raw L (Q.length + 6 + (labT a d).length) (Q.length + 6 + (labT a d).length) ((ts ++ [.plain (pd ++ [32])]) ++ [linkD d]) [] ((Q.length + 2 : Nat) : Int) := by
        have hQ' : (Q ++ refT1 a d).length = Q.length + 6 + (labT a d).length := by simp [refT1]; omega
        have := ih (Q ++ refT1 a d) [] (Q ++ refT1 a d).length ((ts ++ [.plain (pd ++ [32])]) ++ [linkD d]) ((Q.length + 2 : Nat) : Int) (by rw [hq]; simp [refsT]) (by unfold sub; rw [List.drop_eq_nil_of_le (by rw [List.length_take]; omega)]) (Nat.le_refl _) (by rw [hQ']; omega) (fun _ => rfl) (by rw [← hts]; simp [refsI]) (fun x hx => hmem x (.tail _ hx))
        rw [hQ'] at this; exact this
      have hcl : ∀ p : PS, p.coreS = p0.coreS → p.s = raw → CloseOK b p raw (Q.length + 3) [91] (Q.length + 2) RM [47, 117, d] [] 0 false (Q.length + 6 + (labT a d).length) := by
        intro p hp _
        have hk : p.links = p0.links := by have := congrArg PS.links hp; exact this
        have hq3 : raw = (Q ++ [32, 91, 116]) ++ 93 :: 91 :: (labT a d ++ 93 :: refsT a ds2) := by rw [hq2]; simp
        have := close_ref (b := b) (p := p) (t := [91]) (k := Q.length + 2) (A := Q ++ [32, 91, 116]) (lab := labT a d) (B := refsT a ds2) (by rw [hk, hlk0]; exact hM) (by rw [← hq3]; omega) hlab hf1 hf2
        rw [← hq3] at this
        have hA : (Q ++ [32, 91, 116]).length = Q.length + 3 := by simp
        rw [hA, show Q.length + 3 + 3 + (labT a d).length = Q.length + 6 + (labT a d).length by omega] at this
        exact this
      have s3 : AtB X σ b p0 raw L (Q.length + 3) (Q.length + 2) ((ts ++ [.plain (pd ++ [32])]) ++ [.openP [91] (Q.length + 2)]) [(ts ++ [Inl.plain (pd ++ [32])]).length] lo := by
        refine AtB.close (i := Q.length + 3) (e := Q.length + 2) (lo := lo) (ts1 := ts ++ [.plain (pd ++ [32])]) (ts2 := []) (opens := []) (k := Q.length + 2) (t := [91]) (img := false) (en := Q.length + 6 + (labT a d).length) (url := [47, 117, d]) (title := []) (tc := 0) (cor := false) (L0 := RM) hXL (by omega) (by omega) c3 hpz0 ho hL0 rfl (by simp) (.inr (by omega)) (by simp) hcl (by rw [hx]; simp) (wfE_noRun hnr) (apartE_noRun hnr) (by simp; omega) (by simp) ?_
        rw [emphM_noRun hnr, hx]
        exact s4
      have s2 : AtB X σ b p0 raw L (Q.length + 2) (Q.length + 2) ((ts ++ [.plain (pd ++ [32])]) ++ [.openP [91] (Q.length + 2)]) [(ts ++ [Inl.plain (pd ++ [32])]).length] lo :=
        AtB.plain hXL (by omega) (by omega) hpz0 ho (by rw [c2]; rfl) (.inl (by rw [c2]; decide)) s3
      have hem : emitM raw e (Q.length + 1) ts = ts ++ [.plain (pd ++ [32])] := by unfold emitM; rw [if_pos (by omega), hsub2]
      have s1 : AtB X σ b p0 raw L (Q.length + 1) e ts [] lo := by
        refine AtB.leaf (Q := fun p p' => p' = p) hXL (by omega) (by omega) hpz0 ho (f := i_parseLinkOpen) (by rw [c1]; rfl) (L0 := []) (st := Q.length + 1) (en := Q.length + 2) (t := .openP [91] (Q.length + 2)) (by simp) (fun p _ _ => linkOpen_leaf (by omega) (by omega) c1) (by omega) (by omega) (by decide) ?_
        rw [hem]
        exact s2
      exact AtB.plain hXL (by omega) (by omega) hpz0 ho (by rw [c0]; rfl) (.inr rfl) s1
  have h1 : AtB X σ b p0 raw L 1 0 [] [] 0 := key ds [120] [120] 0 [] 0 hraw0 (by rw [hraw0]; rfl) (by decide) (by decide) (fun h => absurd h hP.n0) rfl (fun d hd => hd)
  have c := gi 0 (by rw [hraw0]; simp) 120 (by rw [hraw0]; rfl)
  exact AtB.plain hXL (by rw [hraw0]; simp) (by omega) hpz0 ho (by rw [c]; rfl) (.inr rfl) h1
end Go.Proofs.YtejiaegiijokcaaGreatDoor


set_option linter.unusedVariables false
set_option maxRecDepth 20000
namespace Go.Proofs.YtejiaegiijokcaaGreatDoor
open Go.Proofs
namespace g_Empty_PrintHTML
noncomputable def body : Code := bodyOf Tryz.f366
end g_Empty_PrintHTML
def g_Empty_PrintHTML (R : EP) (x0 : OA) (x1 : OA) (w : World) : Prop :=
 R (.returned (.tuple #[])) w

noncomputable def g_Empty_PrintHTML.ac (R : EP) : AC :=
  (.leaf (sel [] g_Empty_PrintHTML.body))
theorem g_Empty_PrintHTML.good (R : EP) : Good P 4 (g_Empty_PrintHTML.ac R) (QF P [] R) :=
  trivial
theorem g_Empty_PrintHTML.eq (R : EP) (x0 : OA) (x1 : OA) (w : World) : g_Empty_PrintHTML R x0 x1 w = vcA P 4 (g_Empty_PrintHTML.ac R) (QF P [] R) (fr0 [.pointer x0, .pointer x1]) w := by kernel_rfl
theorem g_Empty_PrintHTML.sound {R : EP} {x0 : OA} {x1 : OA} {w : World} (h : g_Empty_PrintHTML R x0 x1 w) : callE P i_Empty_PrintHTML #[.pointer x0, .pointer x1] R w :=
  callE_fin (c := g_Empty_PrintHTML.body) Tryz.func366 Tryz.call366 (by kernel_rfl) (by kernel_rfl) (by kernel_rfl) (by kernel_rfl) (by kernel_rfl) (g_Empty_PrintHTML.good R) (g_Empty_PrintHTML.eq R x0 x1 w) h
end Go.Proofs.YtejiaegiijokcaaGreatDoor

set_option linter.unusedVariables false
namespace Go.Proofs.YtejiaegiijokcaaGreatDoor
open Go.Proofs Go.IntWalk Go.RowKit
variable {σ : Out} {w : World} {L L' : List Chunk} {R : Ending → World → Prop}
def PS.baseL (p : PS) : PS := { p.base with links := none }
theorem PS.baseL_of {p p' : PS} (h : p'.base = p.base) : p'.baseL = p.baseL := congrArg (fun q : PS => ({ q with links := none } : PS)) h
theorem PS.links_of {p p' : PS} (h : p'.base = p.base) : p'.links = p.links := by have := congrArg PS.links h; exact this
def emptyDB (nb s e : Nat) : DB := ⟨.iface ty_P_Empty (.pointer (some ⟨nb, 0, none⟩)), [emptyC nb s e], []⟩
abbrev Mode := Option (List (List UInt8 × List UInt8))
def Leaf.finR : Leaf → Mode → Prop
  | lf, Option.none => lf.finN
  | .none, Option.some _ => False
  | .para ls, Option.some ds => DefsT (joinL [10] ls) ds ∧ (joinL [10] ls).length < 100000
def ClosedR (lf : Leaf) (m : Mode) (ents : List RefE) (D D' : List DB) (ents' : List RefE) : Prop :=
  match m with
  | none => LeafClosed lf D D' ∧ ents' = ents
  | some ds => addRefs ents ds ents' ∧ ∃ nb s e, D' = D ++ [emptyDB nb s e]
theorem closeLeafR_ok {b rb : Nat} {p : PS} {D : List DB} {ents : List RefE} {RM : List Chunk} {m : Mode} {ls : List (List UInt8)} (h : DocS σ b rb (RM ++ L) D (.para ls) p w) (hM : RefsAt p.links ents RM) (hf : Leaf.finR (.para ls) m) (hD : D.length < 100000) (hX : (txsC D).length < 100000)
    (hR : ∀ w p' D' ents' RM' x, p'.baseL = p.baseL → p'.depth = p.depth → p'.lineno = p.lineno → p'.stn = 1 → ClosedR (.para ls) m ents D D' ents' → RefsAt p'.links ents' RM' → DocS σ b rb (RM' ++ L) D' .none p' w → R (.returned x) w) :
    callE P i_parseState_closeBlock #[.pointer (some ⟨b, 0, none⟩)] R w := by
  cases m with
  | none => exact closeLeaf_ok h hf hD hX fun w p' D' x h1 h2 h3 h4 h5 h => hR w p' D' ents RM x (PS.baseL_of h1) h2 h3 h4 ⟨h5, rfl⟩ (by rw [PS.links_of h1]; exact hM) h
  | some ds =>
    obtain ⟨hds, hl⟩ := hf
    obtain ⟨r, obs, M, TM, IM, LM, hr, hs, ht, hI, ⟨qb, s, e, rfl, hp, hs1, hne, hln⟩, h⟩ := h
    have hIl := hI.1
    simp only [List.length_map, Nat.mul_one] at hIl
    refine closeBlock_ok (ob := []) (par := r) (o := paraOB qb s e) (IM := IM) (inner := D.map DB.v) (fun p1 L1 tb q => ∃ RM' ents' nb, p1 = { p with links := p1.links } ∧ addRefs ents ds ents' ∧ RefsAt p1.links ents' RM' ∧
      L1 = emptyC nb s e :: (LM ++ (TM ++ (ownC D ++ ((txsC D).map TX.chunk ++ (RM' ++ L))))) ∧ tb = ty_P_Empty ∧ q = some ⟨nb, 0, none⟩) h hs rfl hI (by omega) ?_ ?_
    · intro R' w h hk
      have h : Sat σ w (p.at b :: M ++ (RM ++ (LM ++ (IM ++ (TM ++ (ownC D ++ ((txsC D).map TX.chunk ++ L))))))) := h.re (by intro _; simp only [List.append_eq, cnt_append, cnt_cons, cnt_nil] <;> omega)
      refine enter_meth meth_paraBuild ?_
      refine paraDefs_ok (ob := [r]) (o := paraOB qb s e) h hs hM hp hne (by omega) rfl hl hds fun w p' RM' ents' nb hp' ha hM' h => ?_
      have h : Sat σ w (p'.at b :: M ++ (RM' ++ (LM ++ (emptyC nb s e :: (IM ++ (TM ++ (ownC D ++ ((txsC D).map TX.chunk ++ L)))))))) := h
      exact hk w p' _ ty_P_Empty _ (by rw [hp']) (by rw [hp']) (by rw [hp']) (by decide) ⟨RM', ents', nb, hp', ha, hM', rfl, rfl, rfl⟩ (h.re (by intro _; simp only [List.append_eq, cnt_append, cnt_cons, cnt_nil] <;> omega))
    · intro w p2 M2 IM2 p1 L1 tb q q' c' hpost hp2 hs2 hI2 h
      obtain ⟨RM', ents', nb, hp1, ha, hM', rfl, rfl, rfl⟩ := hpost
      have e1 : p2 = { p with links := p2.links, stn := 1 } := by rw [hp2, hp1]; rfl
      have hlk : p2.links = p1.links := by rw [hp2]
      refine hR w p2 (D ++ [emptyDB nb s e]) ents' RM' _ (by rw [e1]; rfl) (by rw [e1]) (by rw [e1]) (by rw [e1]) ⟨ha, nb, s, e, rfl⟩ (by rw [hlk]; exact hM') ?_
      refine ⟨{ r with q := q', n := r.n + 1, c := c' }, [], M2, TM, IM2, [], hr, hs2, ?_, ?_, ⟨rfl, rfl⟩, ?_⟩
      · rw [txsC_snoc, List.map_append]
        show Txts p2 ((txsC D).map TX.t ++ []) TM
        rw [List.append_nil]
        exact ht.of (by rw [e1]) (by rw [e1]) (by rw [e1])
      · rw [List.map_append]; exact hI2
      · rw [ownC_snoc, txsC_snoc, List.map_append]
        show Sat σ w (p2.at b :: M2 ++ (IM2 ++ (TM ++ ([] ++ ((ownC D ++ [emptyC nb s e]) ++ (((txsC D).map TX.chunk ++ []) ++ (RM' ++ L)))))))
        exact h.less LM (by intro _; simp only [List.append_eq, cnt_append, cnt_cons, cnt_nil] <;> omega)
theorem trimLeafR_ok {b rb : Nat} {p : PS} {D : List DB} {lf : Leaf} {ents : List RefE} {RM : List Chunk} {m : Mode} (h : DocS σ b rb (RM ++ L) D lf p w) (hM : RefsAt p.links ents RM) (hf : lf.finR m) (hD : D.length < 100000) (hX : (txsC D).length < 100000)
    (hR : ∀ w p' D' ents' RM', p'.baseL = p.baseL → p'.depth = p.depth → p'.lineno = p.lineno → p'.stn = 1 → ClosedR lf m ents D D' ents' → RefsAt p'.links ents' RM' → DocS σ b rb (RM' ++ L) D' .none p' w → R (.returned (.tuple #[])) w) :
    callE P i_parseState_trimStack #[.pointer (some ⟨b, 0, none⟩), .int .i64 1] R w := by
  cases lf with
  | none =>
    have hc0 : ClosedR .none m ents D D ents := by cases m with
      | none => exact ⟨rfl, rfl⟩
      | some ds => exact hf.elim
    obtain ⟨r, obs, M, TM, IM, LM, hr, hs, ht, hI, ⟨rfl, rfl⟩, h⟩ := h
    have hn := hs.2.1
    refine trimStack_noop h (by rw [hn]; rfl) fun w h => ?_
    exact hR w p D ents RM rfl rfl rfl hn hc0 hM ⟨r, [], M, TM, IM, [], hr, hs, ht, hI, ⟨rfl, rfl⟩, h⟩
  | para ls =>
    have h0 := h
    obtain ⟨r, obs, M, TM, IM, LM, hr, hs, ht, hI, ⟨qb, s, e, rfl, hp, hs1, hne, hln⟩, h⟩ := h
    have hn : p.stn = 2 := hs.2.1
    refine g_parseState_trimStack.sound ?_
    refine nilP_some ?_
    refine ⟨_, _, _, Sat.ld h (by first | assumption | (repeat (first | exact .head _ | apply List.Mem.tail))) (by exact rfl), ?_⟩
    rw [hn]
    refine br_false rfl ?_
    intro X hX'
    refine hX' _ _ _ (nilP_some ?_)
    refine ⟨_, _, _, Sat.ld h (by first | assumption | (repeat (first | exact .head _ | apply List.Mem.tail))) (by exact rfl), ?_⟩
    rw [hn]
    refine br_true rfl ?_
    refine closeLeafR_ok h0 hM hf hD hX fun w p' D' ents' RM' x h1 h2 h3 h4 h5 hM' h => ⟨_, rfl, ?_⟩
    have h0 := h
    obtain ⟨r, obs, M, TM, IM, LM, hr, hs, ht, hI, hL, h⟩ := h
    refine hX' _ _ _ (nilP_some ?_)
    refine ⟨_, _, _, Sat.ld h (by first | assumption | (repeat (first | exact .head _ | apply List.Mem.tail))) (by exact rfl), ?_⟩
    rw [h4]
    exact br_false rfl (hR w p' D' ents' RM' h1 h2 h3 h4 h5 hM' h0)
theorem addLine_blankR {b rb : Nat} {p : PS} {D : List DB} {ents : List RefE} {RM : List Chunk} {m : Mode} {ls : List (List UInt8)} {l : Ln} (h : DocS σ b rb (RM ++ L) D (.para ls) p w) (hM : RefsAt p.links ents RM) (hl : l.ok) (hb : l.blank = true) (hf : Leaf.finR (.para ls) m) (hD : D.length < 100000) (hX : (txsC D).length < 100000)
    (hR : ∀ w p' D' ents' RM', p'.baseL = p.baseL → p'.lineno = p.lineno → ClosedR (.para ls) m ents D D' ents' → RefsAt p'.links ents' RM' → DocS σ b rb (RM' ++ L) D' .none p' w → R (.returned (.tuple #[])) w) :
    callE P i_parseState_addLine #[.pointer (some ⟨b, 0, none⟩), l.val] R w := by
  refine addLine_open h hl fun w b1 b2 p1 hp1 h => ?_
  unfold g_parseState_addLine.k2
  obtain ⟨r, obs, M, TM, IM, LM, hr, hs, ht, hI, hL, h⟩ := h
  refine isBlank_ok h (by simp) hl fun w h => ⟨_, rfl, ?_⟩
  rw [hb]
  refine br_true rfl (nilP_some ?_)
  refine ⟨_, Sat.ld h (by first | assumption | (repeat (first | exact .head _ | apply List.Mem.tail))) (by exact rfl), ?_⟩
  rw [show p1.depth = 0 by rw [hp1], show IntKind.i64.wrap (0 + 1) = 1 from rfl]
  have hh : DocS σ b rb (RM ++ (l.at b1 :: l.at b2 :: L)) D (.para ls) p1 w := ⟨r, obs, M, TM, IM, LM, hr, hs, ht, hI, hL, h.re (by intro _; simp only [List.append_eq, cnt_append, cnt_cons, cnt_nil] <;> omega)⟩
  refine trimLeafR_ok hh (by rw [hp1]; exact hM) hf hD hX fun w p' D' ents' RM' h1 h2 h3 h4 h5 hM' h => ⟨rfl, ?_⟩
  refine hR w p' D' ents' RM' (by rw [h1, hp1]; rfl) (by rw [h3, hp1]) h5 hM' ?_
  obtain ⟨r, obs, M, TM, IM, LM, hr, hs, ht, hI, hL, h⟩ := h
  exact ⟨r, obs, M, TM, IM, LM, hr, hs, ht, hI, hL, h.less [l.at b1, l.at b2] (by intro _; simp only [List.append_eq, cnt_append, cnt_cons, cnt_nil] <;> omega)⟩
theorem finishDocR_ok {b rb : Nat} {p : PS} {D : List DB} {lf : Leaf} {ents : List RefE} {RM : List Chunk} {m : Mode} (h : DocS σ b rb (RM ++ L) D lf p w) (hM : RefsAt p.links ents RM) (hf : lf.finR m) (hD : D.length < 100000) (hX : (txsC D).length < 100000)
    (hR : ∀ w (p' : PS) D' ents' RM' db IM TM q n c s e, p'.baseL = { p.baseL with root := some ⟨db, 0, none⟩ } → ClosedR lf m ents D D' ents' → RefsAt p'.links ents' RM' → Txts p' ((txsC D').map TX.t) TM → Sl 1 ty_Block q n c (D'.map DB.v) IM → n < 1000000 →
      Sat σ w (p'.at b :: (TM ++ ((txsC D').map TX.chunk ++ (docC db s e q n c p'.links :: (IM ++ (ownC D' ++ (RM' ++ L))))))) → R (.returned (.tuple #[])) w) :
    callE P i_parseState_trimStack #[.pointer (some ⟨b, 0, none⟩), .int .i64 0] R w := by
  refine g_parseState_trimStack.sound ?_
  have root : ∀ {X : OA → Int → WP} {w} {p1 : PS} {D' ents' RM'}, (∀ x0 x1 w, g_parseState_trimStack.bl1 R X x0 x1 w → X x0 x1 w) → p1.baseL = p.baseL → ClosedR lf m ents D D' ents' → RefsAt p1.links ents' RM' → DocS σ b rb (RM' ++ L) D' .none p1 w → X (some ⟨b, 0, none⟩) 0 w := by
    intro X w p1 D' ents' RM' hX' hb hcl hM' h
    obtain ⟨r, obs, M, TM, IM, LM, hr, hs, ht, hI, ⟨rfl, rfl⟩, h⟩ := h
    have hn : p1.stn = 1 := hs.2.1
    refine hX' _ _ _ (nilP_some ?_)
    refine ⟨_, _, _, Sat.ld h (by first | assumption | (repeat (first | exact .head _ | apply List.Mem.tail))) (by exact rfl), ?_⟩
    rw [hn]
    refine br_true rfl ?_
    refine closeRoot_ok h hs hr fun w db h => ⟨_, rfl, hX' _ _ _ (nilP_some ?_)⟩
    refine ⟨_, _, _, Sat.ld h (by first | assumption | (repeat (first | exact .head _ | apply List.Mem.tail))) (by exact rfl), ?_⟩
    refine br_false rfl ?_
    have hIl := hI.1
    simp only [List.length_map, Nat.mul_one] at hIl
    have hDl : D'.length < 1000000 := by
      cases m with
      | none =>
        obtain ⟨hcl, _⟩ := hcl
        cases lf with
        | none => rw [show D' = D from hcl]; omega
        | para ls => obtain ⟨nb, t, s, e, rfl⟩ := hcl; simp; omega
      | some ds => obtain ⟨_, nb, s, e, rfl⟩ := hcl; simp; omega
    refine hR w { p1 with stn := 0, root := some ⟨db, 0, none⟩ } D' ents' RM' db IM TM r.q r.n r.c r.s r.e ?_ hcl hM' (ht.of rfl rfl rfl) hI (by omega) ?_
    · have e : ({ p1 with stn := 0, root := some ⟨db, 0, none⟩ } : PS).baseL = { p1.baseL with root := some ⟨db, 0, none⟩ } := rfl
      rw [e, hb]
    · have h : Sat σ w (({ p1 with stn := 0, root := some ⟨db, 0, none⟩ } : PS).at b :: M ++ (docC db r.s r.e r.q r.n r.c p1.links :: (IM ++ (TM ++ ([] ++ (ownC D' ++ ((txsC D').map TX.chunk ++ (RM' ++ L)))))))) := h
      exact h.less M (by intro _; simp only [List.append_eq, cnt_append, cnt_cons, cnt_nil] <;> omega)
  have h0 := h
  obtain ⟨r, obs, M, TM, IM, LM, hr, hs, ht, hI, hL, h⟩ := h
  refine nilP_some ?_
  refine ⟨_, _, _, Sat.ld h (by first | assumption | (repeat (first | exact .head _ | apply List.Mem.tail))) (by exact rfl), ?_⟩
  refine br_false (by simp) ?_
  intro X hX'
  cases lf with
  | none =>
    have hc0 : ClosedR .none m ents D D ents := by cases m with
      | none => exact ⟨rfl, rfl⟩
      | some ds => exact hf.elim
    exact root hX' rfl hc0 hM h0
  | para ls =>
    obtain ⟨qb, s, e, rfl, hp, hs1, hne, hln⟩ := hL
    have hn : p.stn = 2 := hs.2.1
    refine hX' _ _ _ (nilP_some ?_)
    refine ⟨_, _, _, Sat.ld h (by first | assumption | (repeat (first | exact .head _ | apply List.Mem.tail))) (by exact rfl), ?_⟩
    rw [hn]
    refine br_true rfl ?_
    exact closeLeafR_ok h0 hM hf hD hX fun w p' D' ents' RM' x h1 h2 h3 h4 h5 hM' h => ⟨_, rfl, root hX' h1 h5 hM' h⟩
theorem meth_Empty : methB P ty_P_Empty "PrintHTML" i_Empty_PrintHTML = true := by kernel_rfl
theorem emptyDB_shows {F : List UInt8 → List UInt8 → List UInt8} {nb s e : Nat} : (emptyDB nb s e).shows F id := by
  intro ts ht
  cases ht
  refine ⟨fun l => Nat.le_refl _, fun σ R b l M L w hB h hb hR => enter_meth meth_Empty ?_⟩
  refine g_Empty_PrintHTML.sound ?_
  exact hR w M hB h
def StepR (op : Opt) (l : List UInt8) (nl : UInt8) (D : List DB) (lf : Leaf) (ents : List RefE) (J : List DB → Leaf → List RefE → Prop) : Prop :=
  ∀ (σ : Out) (R : Ending → World → Prop) (L : List Chunk) (b rb pb : Nat) (p : PS) (RM : List Chunk) (w : World), op.at pb ∈ L → p.pz = some ⟨pb, 0, none⟩ → p.lineno < 1000000000 → RefsAt p.links ents RM → DocS σ b rb (RM ++ L) D lf p w →
    (∀ w (p' : PS) D' lf' ents' RM', p'.baseL = p.baseL → p'.lineno = p.lineno → J D' lf' ents' → RefsAt p'.links ents' RM' → DocS σ b rb (RM' ++ L) D' lf' p' w → R (.returned (.tuple #[])) w) → callE P i_parseState_addLine #[.pointer (some ⟨b, 0, none⟩), (lnOf l nl).val] R w
theorem lines_okR {op : Opt} {I : List (List UInt8 × UInt8) → List DB → Leaf → List RefE → Prop} (step : ∀ l nl rem D lf ents, I ((l, nl) :: rem) D lf ents → StepR op l nl D lf ents (I rem)) {X : OA → BA → Nat → WP} {b rb pb : Nat} {p0 : PS}
    (hX : ∀ x0 x1 x6 w, g_Parser_parse.bl1 R X x0 x1 x6 w → X x0 x1 x6 w) (hop : op.at pb ∈ L) (hpz : p0.pz = some ⟨pb, 0, none⟩)
    (hE : ∀ w (p : PS) D lf ents RM, p.baseL = p0.baseL → I [] D lf ents → RefsAt p.links ents RM → DocS σ b rb (RM ++ L) D lf p w → g_Parser_parse.bl1 R X (some ⟨pb, 0, none⟩) (bs []) b w) {text : List UInt8} {ls : List (List UInt8 × UInt8)} (hL : LinesOf text ls) :
    ∀ w (p : PS) D lf ents RM, text.length < 1000000 → p.lineno + ls.length < 1000000000 → p.baseL = p0.baseL → I ls D lf ents → RefsAt p.links ents RM → DocS σ b rb (RM ++ L) D lf p w → X (some ⟨pb, 0, none⟩) (bs text) b w := by
  have k3 : ∀ (l : List UInt8) (nl : UInt8) (t : List UInt8) (rem : List (List UInt8 × UInt8)) w (p : PS) D lf ents RM, (∀ w (p : PS) D lf ents RM, p.lineno + rem.length < 1000000000 → p.baseL = p0.baseL → I rem D lf ents → RefsAt p.links ents RM → DocS σ b rb (RM ++ L) D lf p w → X (some ⟨pb, 0, none⟩) (bs t) b w) →
      p.lineno + rem.length + 1 < 1000000000 → p.baseL = p0.baseL → I ((l, nl) :: rem) D lf ents → RefsAt p.links ents RM → DocS σ b rb (RM ++ L) D lf p w → g_Parser_parse.k3 R X (some ⟨pb, 0, none⟩) (bs t) b (bs l) (nl.toNat : Int) w := by
    intro l nl t rem w p D lf ents RM next hno hb hI hRM h
    obtain ⟨r, obs, M, TM, IM, LM, hr, hs, ht, hIs, hL, h⟩ := h
    unfold g_Parser_parse.k3
    refine ⟨_, Sat.ld h (.head _) (i := 3) rfl, ?_⟩
    rw [i64_inc (by omega)]
    refine Sat.st h (k := 0) rfl (Nat.le_of_ble_eq_true rfl) trivial (by first | (dsimp only [List.set]; exact rfl) | exact rfl) fun w h => ?_
    let p1 : PS := { p with lineno := p.lineno + 1 }
    have h : Sat σ w (p1.at b :: M ++ (IM ++ (TM ++ (LM ++ (ownC D ++ ((txsC D).map TX.chunk ++ (RM ++ L))))))) := h
    have hb1 : p1.baseL = p0.baseL := hb
    have hpz1 : p1.pz = some ⟨pb, 0, none⟩ := by
      have := congrArg PS.pz hb1
      rw [show p1.pz = p0.pz from this]; exact hpz
    refine step l nl rem D lf ents hI σ _ L b rb pb p1 RM w hop hpz1 (by show p.lineno + 1 < _; omega) hRM ⟨r, obs, M, TM, IM, LM, hr, hs.of rfl rfl rfl, ht.of rfl rfl rfl, hIs, hL, h⟩ fun w p2 D' lf' ents' RM' h1 h2 h3 hRM' h4 => ⟨rfl, ?_⟩
    exact next w p2 D' lf' ents' RM' (by rw [h2]; show p.lineno + 1 + _ < _; omega) (h1.trans hb1) h3 hRM' h4
  induction hL with
  | nil =>
    intro w p D lf ents RM hlen hno hb hI hRM h
    exact hX _ _ _ _ (hE w p D lf ents RM hb hI hRM h)
  | @last l hne hnl =>
    intro w p D lf ents RM hlen hno hb hI hRM h
    have e10 : idxInt l [10] = -1 := by unfold idxInt; rw [idx_none hnl.1]
    have e13 : idxInt l [13] = -1 := by unfold idxInt; rw [idx_none hnl.2]
    refine hX _ _ _ _ (br_true (by rw [bs_toList]; simpa using hne) ?_)
    refine zzIndex_ok (sub := [10]) (by omega) (by decide) ⟨_, rfl, ?_⟩
    refine zzIndex_ok (sub := [13]) (by omega) (by decide) ⟨_, rfl, ?_⟩
    rw [e10, e13]
    refine br_false rfl (br_false rfl ?_)
    refine k3 l 0 [] [] w p D lf ents RM ?_ (by simp at hno ⊢; omega) hb hI hRM h
    intro w p D lf ents RM hno hb hI hRM h
    exact hX _ _ _ _ (hE w p D lf ents RM hb hI hRM h)
  | @cons l t ls hnl hLt ih =>
    intro w p D lf ents RM hlen hno hb hI hRM h
    have hl13 : 13 ∉ l ++ 10 :: t := (LinesOf.cons hnl hLt).no13
    have e10 : idxInt (l ++ 10 :: t) [10] = (l.length : Nat) := by unfold idxInt; rw [idx_first hnl.1]
    have e13 : idxInt (l ++ 10 :: t) [13] = -1 := by unfold idxInt; rw [idx_none hl13]
    have hlen' : (l ++ 10 :: t).length = l.length + t.length + 1 := by simp; omega
    refine hX _ _ _ _ (br_true (by rw [bs_toList]; simp [mk_toList]) ?_)
    refine zzIndex_ok (sub := [10]) (by omega) (by decide) ⟨_, rfl, ?_⟩
    refine zzIndex_ok (sub := [13]) (by omega) (by decide) ⟨_, rfl, ?_⟩
    rw [e10, e13]
    refine br_false rfl ?_
    refine br_true (by simp) ?_
    obtain ⟨r, obs, M, TM, IM, LM, hr, hs, ht, hIs, hL, h⟩ := h
    refine Sat.tk h fun w h => ?_
    rw [i64_inc (by omega), bs_size, Int.toNat_natCast, Int.toNat_natCast, bs_ext, bs_extract, List.drop_zero, List.take_left]
    refine ⟨by omega, by rw [hlen']; omega, by omega, by rw [hlen']; omega, ?_⟩
    have ed : (l ++ 10 :: t).drop (l.length + 1) = t := by rw [List.drop_append]; simp
    rw [ed]
    refine k3 l 10 t ls w p D lf ents RM ?_ (by simp at hno ⊢; omega) hb hI hRM ⟨r, obs, M, TM, IM, LM, hr, hs, ht, hIs, hL, h⟩
    intro w p D lf ents RM hno hb hI hRM h
    exact ih w p D lf ents RM (by rw [hlen'] at hlen; omega) hno hb hI hRM h
theorem parses_docR {op : Opt} {text out : List UInt8} {ls : List (List UInt8 × UInt8)} {F : List UInt8 → List UInt8 → List UInt8} (hL : LinesOf text ls) (h0 : 0 ∉ text) (hlen : text.length < 1000000)
    (I : List (List UInt8 × UInt8) → List DB → Leaf → List RefE → Prop) (hI0 : I ls [] .none []) (step : ∀ l nl rem D lf ents, I ((l, nl) :: rem) D lf ents → StepR op l nl D lf ents (I rem))
    (fin : ∀ D lf ents, I [] D lf ents → ∃ m, lf.finR m ∧ D.length < 100000 ∧ (txsC D).length < 100000 ∧ ∀ D' ents' lk RM', ClosedR lf m ents D D' ents' → RefsAt lk ents' RM' → ∃ gs, Show F D' gs ∧ compL gs [] = out ∧ ∀ x ∈ txsC D', InlineOKG lk RM' op x.raw (F x.raw)) : ParsesTo op text out := by
  intro σ R L w pb h ho hR
  refine g_Parser_parse.sound ?_
  refine Sat.bx h fun b w h => ?_
  refine Sat.st h (k := 0) rfl (Nat.le_of_ble_eq_true rfl) trivial (by first | (dsimp only [List.set]; exact rfl) | exact rfl) fun w h => ?_
  have h : Sat σ w ((PS0 (some ⟨pb, 0, none⟩)).at b :: L) := h
  refine zzContains_ok (sub := [0]) (by omega) (by decide) ⟨_, rfl, ?_⟩
  rw [idx_none h0]
  refine br_false rfl ?_
  refine Sat.st h (k := 0) rfl (Nat.le_of_ble_eq_true rfl) trivial (by first | (dsimp only [List.set]; exact rfl) | exact rfl) fun w h => ?_
  refine Sat.bx h fun rb w h => ?_
  let p0 : PS := { PS0 (some ⟨pb, 0, none⟩) with depth := -1 }
  have h : Sat σ w (p0.at b :: [] ++ ((rb, cel [] ty_rootBuilder) :: L)) := h.up1
  have hstk : Stk p0 [] [] := ⟨Sl.nil 4 ty_openBlock, rfl, by simp⟩
  refine addBlock_ok h hstk rfl (by decide) fun w p1 M hp1 hs1 h => ⟨rfl, ?_⟩
  intro X hX
  have hll := hL.len
  have e1 : p1.baseL = p0.baseL := by rw [hp1]; rfl
  have hlk1 : p1.links = none := by rw [hp1]; rfl
  have e2 : p1.lineno = 0 := by rw [hp1]; rfl
  have htx : Txts p1 [] [] := by
    have : p1.tq = none ∧ p1.tn = 0 ∧ p1.tc = 0 := by rw [hp1]; exact ⟨rfl, rfl, rfl⟩
    obtain ⟨a, b, c⟩ := this
    unfold Txts
    rw [a, b, c]
    exact ⟨Sl.nil 1 ty_P_Text, rfl, by simp⟩
  have hd : DocS σ b rb ([] ++ ((rb, cel [] ty_rootBuilder) :: L)) [] .none p1 w :=
    ⟨⟨rootV rb, none, 0, 0, 0, 0⟩, [], M, [], [], [], rfl, hs1, htx, Sl.nil 1 ty_Block, ⟨rfl, rfl⟩, h⟩
  refine lines_okR (p0 := p0) (op := op) step hX (.tail _ ho) rfl ?_ hL w p1 [] .none [] [] hlen (by rw [e2]; omega) e1 hI0 (by rw [hlk1]; exact RefsAt.nil) hd
  intro w p D lf ents RM hb hI hRM hds
  obtain ⟨m, f1, f2, f3, f4⟩ := fin D lf ents hI
  refine br_false (by rw [bs_toList, mk_toList]; rfl) ?_
  refine finishDocR_ok hds hRM f1 f2 f3 fun w p' D' ents' RM' db IM TM q n c s e hb' hcl hRM' ht hIM hn h => ⟨rfl, ?_⟩
  obtain ⟨gs, hS, hout, hIn⟩ := f4 D' ents' p'.links RM' hcl hRM'
  have hbb : p'.baseL = { p0.baseL with root := some ⟨db, 0, none⟩ } := by rw [hb', hb]
  have hpz : p'.pz = some ⟨pb, 0, none⟩ := by have := congrArg PS.pz hbb; exact this
  have hrt : p'.root = some ⟨db, 0, none⟩ := by have := congrArg PS.root hbb; exact this
  have hLL : p'.Lq = none ∧ p'.Ln = 0 ∧ p'.Lc = 0 := ⟨by have := congrArg PS.Lq hbb; exact this, by have := congrArg PS.Ln hbb; exact this, by have := congrArg PS.Lc hbb; exact this⟩
  refine ⟨_, _, _, Sat.ld h (.head _) (i := 11) rfl, ?_⟩
  refine texts_ok (op := op) (F := F) (L0 := RM') h ht hpz (by simp [ho]) rfl (fun c hc => by simp [hc]) hLL hIn fun w p2 ts hp2 hf h => ?_
  have hrt2 : p2.root = some ⟨db, 0, none⟩ := by have := congrArg PS.root hp2; rw [show p2.root = p'.root from this]; exact hrt
  unfold g_Parser_parse.k4
  refine Sat.tk h fun w h => ?_
  refine ⟨_, Sat.ld h (.head _) (i := 1) rfl, _, Sat.ld h (.head _) (i := 6) rfl, ?_⟩
  rw [hrt2]
  obtain ⟨KM, KM', hP, hcnt⟩ := docs_print hS ts hf
  refine hR w db p2.corner (docC db s e q n c p'.links :: (IM ++ KM)) (docC db s e q n c p'.links :: (IM ++ KM')) (compL gs) (doc_prints hIM (by omega) hP) hout ?_
  refine Sat.less (p2.at b :: TM ++ (RM' ++ [(rb, cel [] ty_rootBuilder)])) h fun a => ?_
  have := hcnt a
  simp only [List.append_eq, cnt_append, cnt_cons, cnt_nil] at this ⊢
  omega
end Go.Proofs.YtejiaegiijokcaaGreatDoor

