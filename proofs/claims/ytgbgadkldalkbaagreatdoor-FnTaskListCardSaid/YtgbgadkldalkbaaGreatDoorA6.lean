/- Part 6 of the proof of the law FnTaskList: for every input the law returns true, the inputs read as they did, and memory that was there is as it was; under the conditions of the given row alone. -/
import Derived.Test.YtgbgadkldalkbaaGreatDoorA5
set_option linter.all false
set_option linter.unusedVariables false
namespace Go.Proofs.YtgbgadkldalkbaaGreatDoor
open Go.Proofs Go.IntWalk Go.RowKit
variable {σ : Out} {w : World} {L L' : List Chunk} {R : Ending → World → Prop}
inductive KR : List UInt8 → Prop where
 | word (c : UInt8) : KR [c]
 | op (c : UInt8) : KR [91, 32, 93, 32, c]
 | done (c : UInt8) : KR [91, 120, 93, 32, c]
def tkOut (raw : List UInt8) : List UInt8 := match raw with
 | [91, 32, 93, 32, c] => boxT false ++ escS htmlPs [32, c]
 | [91, 120, 93, 32, c] => boxT true ++ escS htmlPs [32, c]
 | r => escS htmlPs r
theorem tkOut_word (c : UInt8) : tkOut [c] = escS htmlPs [c] := by
 unfold tkOut
 split <;> first | rfl | (rename_i h; simp at h)
def tkF (raw : List UInt8) : List UInt8 → List UInt8 := ab (tkOut raw)
inductive ItX : List IT → List TX → Prop where
 | nil : ItX [] []
 | cons {i : IT} {x : TX} {is : List IT} {xs : List TX} {d : DB} : i.ok → i.D = [d] → d.v = .iface ty_P_Text (.pointer (some ⟨x.t, 0, none⟩)) → ItX is xs → ItX (i :: is) (x :: xs)
structure PlainT (x : TX) (t : TF) : Prop where
 n : t.n = 1
 at_ : ∃ pb cs e, t.vs = [ptrV ty_P_Plain pb] ∧ t.KM = [(pb, cel (.string (bs x.raw) :: cs) e)]
 sl : Sl 1 ty_Inline t.q t.n t.c t.vs t.RM
inductive PlainTs : List TX → List TF → Prop where
 | nil : PlainTs [] []
 | cons {x : TX} {t : TF} {xs : List TX} {ts : List TF} : PlainT x t → PlainTs xs ts → PlainTs (x :: xs) (t :: ts)
theorem PlainTs.snoc {x : TX} {t : TF} : ∀ {xs : List TX} {ts : List TF}, PlainTs xs ts → PlainT x t → PlainTs (xs ++ [x]) (ts ++ [t])
 | _, _, .nil, h => .cons h .nil
 | _, _, .cons h1 h2, h => .cons h1 (h2.snoc h)
theorem fillsP_append : ∀ {xs ys : List TX} {ts us : List TF}, PlainTs xs ts → fills (xs ++ ys) (ts ++ us) = fills xs ts ++ fills ys us
 | _, _, _, _, .nil => rfl
 | _, _, _, _, .cons h1 h2 => by simp only [List.cons_append, fills, List.append_assoc]; rw [fillsP_append h2]
theorem und_PPara : P.underlying ty_P_Paragraph = some (.pointer ty_Paragraph) := by kernel_rfl
theorem fillTP (a b : Nat) : Instr.fill (fun i => some (i * 1, 1)) ((Array.range (2 * 1)).map ((((P.info? ty_Inline).bind (·.zero)).getD default).cells[· % (((P.info? ty_Inline).bind (·.zero)).getD default).cells.size]!)) [(0, .iface ty_P_Task (.pointer (some ⟨a, 0, none⟩))), (1, .iface ty_P_Plain (.pointer (some ⟨b, 0, none⟩)))] =
 some [Value.iface ty_P_Task (.pointer (some ⟨a, 0, none⟩)), .iface ty_P_Plain (.pointer (some ⟨b, 0, none⟩))].toArray := by kernel_rfl
theorem taskList_ok {b nb s e n c : Nat} {bul num : Int} {lo : Bool} {p : PS} {q : Option Addr} {items : List IT} {IM : List Chunk} {xs : List TX} {ts : List TF} (h : Sat σ w (p.at b :: (fills xs ts ++ L))) (hS : Sl 1 ty_Block q n c (items.map IT.v) IM) (hn : items.length < 1000000)
 (hI : ItX items xs) (hP : PlainTs xs ts) (hK : ∀ x ∈ xs, KR x.raw) (hM : ∀ y ∈ lstC nb s e bul num lo q n c :: (IM ++ ownC (items.map IT.db)), y ∈ L)
 (hR : ∀ w ts', Filled tkF xs ts' → Sat σ w (p.at b :: (fills xs ts' ++ L)) → R (.returned (.tuple #[])) w) : callE P i_parseState_taskList #[.pointer (some ⟨b, 0, none⟩), .pointer (some ⟨nb, 0, none⟩)] R w := by
 have hnl : n = items.length := by have := hS.1; simp at this; omega
 refine g_parseState_taskList.sound ?_
 have hml : lstC nb s e bul num lo q n c ∈ p.at b :: (fills xs ts ++ L) := .tail _ (List.mem_append_right _ (hM _ (.head _)))
 refine nilP_some ⟨_, _, _, Sat.ld h hml (i := 5) rfl, ?_⟩
 intro X hX
 have key : ∀ (items2 : List IT) (xs2 : List TX), ItX items2 xs2 → ∀ (ts2 : List TF) (items1 : List IT) (xs1 : List TX) (ts1 : List TF) w, items1 ++ items2 = items → xs1 ++ xs2 = xs → PlainTs xs2 ts2 → Filled tkF xs1 ts1 →
  Sat σ w (p.at b :: (fills xs1 ts1 ++ (fills xs2 ts2 ++ L))) → X (some ⟨b, 0, none⟩) q n c (n : Int) (items1.length : Nat) w := by
  intro items2 xs2 hI2
  induction hI2 with
  | nil =>
   intro ts2 items1 xs1 ts1 w he hx hP9 hf h9
   cases hP9
   rw [List.append_nil] at he hx
   subst he hx
   exact hX _ _ _ _ _ _ _ (br_false (by simp; omega) (hR w ts1 hf h9))
  | @cons i x is xs3 d hio hD hdv _ ih =>
   intro ts2 items1 xs1 ts1 w he hx hP2 hf h
   cases hP2 with
   | @cons _ t _ ts3 hPt hPr =>
    obtain ⟨htn, ⟨pb, cs, ce, hvs, hKM⟩, htS⟩ := hPt
    have hlt : items1.length < items.length := by rw [← he]; simp
    have hget : items[items1.length] = i := by simp only [← he]; rw [List.getElem_append_right (Nat.le_refl _)]; simp
    have him : i ∈ items := by rw [← he]; simp
    have hin : i.n = 1 := by rw [IT.n_eq hio, hD]; rfl
    have hkr : KR x.raw := hK x (by rw [← hx]; simp)
    have hmo : ∀ y ∈ i.db.own, y ∈ L := fun y hy => hM y (.tail _ (List.mem_append_right _ (IT.own_mem him y hy)))
    have hLm : ∀ y ∈ L, y ∈ p.at b :: (fills xs1 ts1 ++ (fills (x :: xs3) (t :: ts3) ++ L)) := fun y hy => by simp [hy]
    have next : ∀ w t', t'.ok → t'.f = tkF x.raw → Sat σ w (p.at b :: (fills xs1 ts1 ++ (fill x t' ++ (fills xs3 ts3 ++ L)))) → X (some ⟨b, 0, none⟩) q n c (n : Int) (IntKind.i64.wrap (((items1.length : Nat) : Int) + 1)) w := by
     intro w t' ho hf' h
     rw [i64_inc (by omega)]
     have hf2 : Filled tkF (xs1 ++ [x]) (ts1 ++ [t']) := hf.append (.cons ho hf' .nil)
     have := ih ts3 (items1 ++ [i]) (xs1 ++ [x]) (ts1 ++ [t']) w (by rw [← he]; simp) (by rw [← hx]; simp) hPr hf2 ?_
     ·rw [List.length_append, List.length_singleton] at this; exact this
     ·rw [fills_append hf]
      show Sat σ w (p.at b :: ((fills xs1 ts1 ++ (fill x t' ++ [])) ++ (fills xs3 ts3 ++ L)))
      exact h.re
    refine hX _ _ _ _ _ _ _ (br_true (by simp; omega) ⟨by omega, by omega, ?_⟩)
    refine hS.loadMem h (fun y hy => hLm y (hM y (.tail _ (List.mem_append_left _ hy)))) (j := items1.length) (v := i.v) (by simp [hlt, hget]) fun qb hq hc => ?_
    simp only [Addr.add_lit, Int.toNat_natCast, Nat.mul_one, Nat.zero_add]
    have hmc := hLm _ (hmo i.chunk (.head _))
    refine ⟨_, hc, some ⟨i.nb, 0, none⟩, w, ta_item _ w, nilP_some ⟨_, _, _, Sat.ld h hmc (i := 2) rfl, ?_⟩⟩
    rw [hin]
    refine br_false rfl (nilP_some ⟨_, _, _, Sat.ld h hmc (i := 2) rfl, by decide, by rw [hin]; decide, ?_⟩)
    refine hio.sl.loadMem h (fun y hy => hLm y (hmo y (.tail _ (List.mem_append_left _ hy)))) (j := 0) (v := d.v) (by simp [hD]) fun qb2 hq2 hc2 => ?_
    simp only [Addr.add_lit, Int.toNat_natCast, Nat.mul_one, Nat.zero_add]
    rw [hdv] at hc2
    refine ⟨_, hc2, none, false, w, ta_no (by rw [und_PPara]; intro ms h; cases h) und_PPara (by decide) (i := (P.info? ty_P_Paragraph).getD default) (by kernel_rfl) (by kernel_rfl) w, br_false rfl ?_⟩
    refine ⟨some ⟨x.t, 0, none⟩, true, w, ta_yes (by rw [und_PText]; intro ms h; cases h) und_PText w, br_true rfl ?_⟩
    unfold g_parseState_taskList.k1
    have h : Sat σ w (textC x.t x.s x.e t.q t.n t.c x.raw :: (t.RM ++ (t.KM ++ (p.at b :: (fills xs1 ts1 ++ (fills xs3 ts3 ++ L)))))) := by
     have h : Sat σ w (p.at b :: (fills xs1 ts1 ++ ((textC x.t x.s x.e t.q t.n t.c x.raw :: (t.RM ++ t.KM)) ++ fills xs3 ts3 ++ L))) := h
     exact h.re
    refine nilP_some ⟨_, _, _, Sat.ld h (.head _) (i := 2) rfl, ?_⟩
    rw [htn]
    refine br_false rfl (nilP_some ⟨_, _, _, Sat.ld h (.head _) (i := 2) rfl, by decide, by rw [htn]; decide, ?_⟩)
    have h2 : Sat σ w (t.RM ++ (textC x.t x.s x.e t.q t.n t.c x.raw :: (t.KM ++ (p.at b :: (fills xs1 ts1 ++ (fills xs3 ts3 ++ L)))))) := h.re
    refine htS.loadAt h2 (j := 0) (v := ptrV ty_P_Plain pb) (by rw [hvs]; rfl) fun rb hrq hrc => ?_
    simp only [Addr.add_lit, Int.toNat_natCast, Nat.mul_one, Nat.zero_add]
    refine ⟨_, hrc, _, _, _, ta_plain_yes w, br_false rfl (nilP_some ?_)⟩
    have hmk : (pb, cel (.string (bs x.raw) :: cs) ce) ∈ textC x.t x.s x.e t.q t.n t.c x.raw :: (t.RM ++ (t.KM ++ (p.at b :: (fills xs1 ts1 ++ (fills xs3 ts3 ++ L))))) := by rw [hKM]; simp
    refine ⟨_, Sat.ld h hmk (i := 0) rfl, ?_⟩
    have tail : ∀ (k : Bool) (r : List UInt8) (tb pb2 : Nat) w, tkOut x.raw = boxT k ++ escS htmlPs r → r.length < 100 → Sat σ w (textC x.t x.s x.e t.q t.n t.c x.raw :: tskC tb k :: plainC pb2 r :: (t.RM ++ (t.KM ++ (p.at b :: (fills xs1 ts1 ++ (fills xs3 ts3 ++ L)))))) →
     ∃ (r39q : OA), ∃ (r39n : Nat), ∃ (r39c : Nat), ∃ w40, (Instr.buildSlice ty_S_Inline 2 #[(0, .iface ty_P_Task (.pointer (some ⟨tb, 0, none⟩))), (1, .iface ty_P_Plain (.pointer (some ⟨pb2, 0, none⟩)))]).run P w = .ok (.slice r39q r39n r39c) w40 ∧
     SameC w w40 ((⟨x.t, 0, none⟩ : Addr).add 2) 1 ∧
     ∃ (r41q : OA), ∃ (r41n : Nat), ∃ (r41c : Nat), ∃ w42, (Builtin.append_ #[ty_S_Inline, ty_S_Inline] ty_S_Inline #[.slice r39q r39n r39c, .slice (if t.c = 1 then t.q else t.q.map (·.add (1 * rowInl.i.size))) (t.n - 1) (t.c - 1)]).run P w40 = .ok (.slice r41q r41n r41c) w42 ∧
     nilP (some ⟨x.t, 0, none⟩) fun a43 => stV w42 ((a43.add 2).add 0) (.slice r41q r41n r41c) fun w44 => X (some ⟨b, 0, none⟩) q n c (n : Int) (IntKind.i64.wrap (((items1.length : Nat) : Int) + 1)) w44 := by
     intro k r tb pb2 w hout hrl h
     have h0 := h
     refine buildR (cs := [Value.iface ty_P_Task (.pointer (some ⟨tb, 0, none⟩)), .iface ty_P_Plain (.pointer (some ⟨pb2, 0, none⟩))]) h (by kernel_rfl) (by kernel_rfl) (by kernel_rfl) (by kernel_rfl) (by decide) (by decide) (fillTP tb pb2) fun nb2 w h => ⟨h0.same h (.head _) (.tail _ (.head _)) 1, ?_⟩
     have hq0 : ∃ a, (if t.c = 1 then t.q else t.q.map (·.add (1 * rowInl.i.size))) = some a := by rw [hrq]; split <;> exact ⟨_, rfl⟩
     obtain ⟨a0, ha0⟩ := hq0
     have hsrc : Src P 1 ty_S_Inline (.slice (if t.c = 1 then t.q else t.q.map (·.add (1 * rowInl.i.size))) (t.n - 1) (t.c - 1)) 0 [] w := by
      rw [ha0, htn]; exact Src.ofSlice w rowInl.ht _ 0 _ [] (by simp) (fun j u hu => by simp at hu) (fun u hu => by cases hu)
     have hS2 : Sl 1 ty_Inline (some ⟨nb2, 0, none⟩) 2 2 [Value.iface ty_P_Task (.pointer (some ⟨tb, 0, none⟩)), .iface ty_P_Plain (.pointer (some ⟨pb2, 0, none⟩))] [(nb2, cel [Value.iface ty_P_Task (.pointer (some ⟨tb, 0, none⟩)), .iface ty_P_Plain (.pointer (some ⟨pb2, 0, none⟩))] ty_Inline)] :=
      ⟨rfl, Nat.le_refl _, .inr ⟨nb2, [], rfl, by simp, rfl⟩⟩
     have h : Sat σ w ([(nb2, cel [Value.iface ty_P_Task (.pointer (some ⟨tb, 0, none⟩)), .iface ty_P_Plain (.pointer (some ⟨pb2, 0, none⟩))] ty_Inline)] ++ (textC x.t x.s x.e t.q t.n t.c x.raw :: tskC tb k :: plainC pb2 r :: (t.RM ++ (t.KM ++ (p.at b :: (fills xs1 ts1 ++ (fills xs3 ts3 ++ L))))))) := h
     obtain ⟨q4, c4, w4, M4, hrun, hS4, h, hq4, _⟩ := Sat.app rowInl hS2 (ty := ty_S_Inline) h hsrc (.inr (by simp)) (by decide) (by decide)
     refine ⟨q4, 2, c4, w4, hrun, nilP_some ?_⟩
     have h : Sat σ w4 (textC x.t x.s x.e t.q t.n t.c x.raw :: (M4 ++ (tskC tb k :: plainC pb2 r :: (t.RM ++ (t.KM ++ (p.at b :: (fills xs1 ts1 ++ (fills xs3 ts3 ++ L)))))))) := h.re
     refine h.stA 0 fun w h => ?_
     have h : Sat σ w (textC x.t x.s x.e q4 2 c4 x.raw :: (M4 ++ (tskC tb k :: plainC pb2 r :: (t.RM ++ (t.KM ++ (p.at b :: (fills xs1 ts1 ++ (fills xs3 ts3 ++ L)))))))) := h
     rw [List.append_nil] at hS4
     refine next w ⟨q4, 2, c4, _, M4, [tskC tb k] ++ ([plainC pb2 r] ++ []), [tskC tb k] ++ ([plainC pb2 r] ++ []), tkF x.raw⟩ ⟨hS4, by show 2 < _; decide, ?_⟩ rfl ?_
     ·have := PrintsL.cons (task_prints (tb := tb) (k := k)) (PrintsL.cons (plain_prints (pb := pb2) (s := r) (cs := []) (e := ty_Plain) (by omega)) .nil)
      refine this.as ?_
      funext l
      show (l ++ boxT k) ++ escS htmlPs r = l ++ tkOut x.raw
      rw [hout, List.append_assoc]
     ·show Sat σ w (p.at b :: (fills xs1 ts1 ++ ((textC x.t x.s x.e q4 2 c4 x.raw :: (M4 ++ ([tskC tb k] ++ ([plainC pb2 r] ++ [])))) ++ (fills xs3 ts3 ++ L))))
      exact h.less (t.RM ++ t.KM)
    have hsl : ∀ w, (Instr.sliceAt ty_S_Inline (.slice t.q t.n t.c) (some (.int .i64 1)) none none).run P w = .ok (.slice (if t.c = 1 then t.q else t.q.map (·.add (1 * rowInl.i.size))) (t.n - 1) (t.c - 1)) w := fun w => sliceF rowInl.ht rowInl.hi t.q t.n t.c 1 (by omega) w
    generalize hraw : x.raw = raw at hkr
    cases hkr with
    | word cc =>
     refine ⟨fun _ => ⟨by decide, by rw [bs_size]; simp⟩, fun hh => absurd hh (by rw [bs_size]; simp), fun hh => absurd hh (by rw [bs_size]; simp), fun hh => absurd hh (by rw [bs_size]; simp), fun hh => absurd hh (by rw [bs_size]; simp), br_true (by rw [bs_size]; simp) ?_⟩
     refine next w ⟨t.q, t.n, t.c, t.vs, t.RM, t.KM, t.KM, tkF x.raw⟩ ⟨htS, by show t.n < _; rw [htn]; decide, ?_⟩ rfl ?_
     ·show PrintsL "PrintHTML" t.vs t.KM t.KM (tkF x.raw)
      rw [hvs, hKM, hraw]
      have := PrintsL.cons (plain_prints (pb := pb) (s := [cc]) (cs := cs) (e := ce) (by simp)) .nil
      exact this.as (by funext l; show l ++ escS htmlPs [cc] = l ++ tkOut [cc]; rw [tkOut_word])
     ·show Sat σ w (p.at b :: (fills xs1 ts1 ++ ((textC x.t x.s x.e t.q t.n t.c x.raw :: (t.RM ++ t.KM)) ++ (fills xs3 ts3 ++ L))))
      exact h.re
    | op cc =>
     have b0 : bt (bs [91, 32, 93, 32, cc]) 0 = 91 := by rw [show (0 : Int) = ((0 : Nat) : Int) from rfl, bs_bt]; rfl
     have b1 : bt (bs [91, 32, 93, 32, cc]) 1 = 32 := by rw [show (1 : Int) = ((1 : Nat) : Int) from rfl, bs_bt]; rfl
     have b2 : bt (bs [91, 32, 93, 32, cc]) 2 = 93 := by rw [show (2 : Int) = ((2 : Nat) : Int) from rfl, bs_bt]; rfl
     have b3 : bt (bs [91, 32, 93, 32, cc]) 3 = 32 := by rw [show (3 : Int) = ((3 : Nat) : Int) from rfl, bs_bt]; rfl
     have bz : (bs [91, 32, 93, 32, cc]).size = 5 := by rw [bs_size]; rfl
     have hx3 : (bs [91, 32, 93, 32, cc]).extract (Int.toNat 3) (bs [91, 32, 93, 32, cc]).size = bs [32, cc] := by rw [bz, bs_extract]; rfl
     have hto : tkOut x.raw = boxT false ++ escS htmlPs [32, cc] := by rw [hraw]; rfl
     refine ⟨fun _ => ⟨by decide, by rw [bz]; decide⟩, fun _ => ⟨by decide, by rw [bz]; decide⟩, fun _ => ⟨by decide, by rw [bz]; decide⟩, fun _ => ⟨by decide, by rw [bz]; decide⟩, fun _ => ⟨by decide, by rw [bz]; decide⟩, ?_⟩
     rw [b0, b1, b2, bz]
     refine br_false rfl ?_
     unfold g_parseState_taskList.k2
     rw [b3, bz]
     refine ⟨by decide, by decide, fun _ => ⟨by decide, by decide⟩, br_false rfl ?_⟩
     refine Sat.tk h fun w h => ⟨by decide, by rw [bz]; decide, ?_⟩
     rw [b1]
     refine br_false rfl ⟨by decide, by rw [bz]; decide, by decide, by rw [bz]; decide, nilP_some ⟨_, _, _, Sat.ld h (.head _) (i := 2) rfl, _, _, _, hsl, ?_⟩⟩
     rw [hx3]
     have h0 := h
     refine ⟨?_, ?_⟩
     ·refine Sat.bx h fun tb w h => ⟨h0.same h (.head _) (.tail _ (.head _)) 1, ?_⟩
      have h1 := h
      refine Sat.bx h fun pb2 w h => ⟨h1.same h (.tail _ (.head _)) (.tail _ (.tail _ (.head _))) 1, ?_⟩
      have h : Sat σ w (plainC pb2 [32, cc] :: tskC tb false :: textC x.t x.s x.e t.q t.n t.c x.raw :: (t.RM ++ (t.KM ++ (p.at b :: (fills xs1 ts1 ++ (fills xs3 ts3 ++ L)))))) := h
      exact tail false [32, cc] tb pb2 w hto (by simp) (h.re)
     ·refine Sat.bx h fun pb2 w h => ⟨h0.same h (.head _) (.tail _ (.head _)) 1, ?_⟩
      have h1 := h
      refine Sat.bx h fun tb w h => ⟨h1.same h (.tail _ (.head _)) (.tail _ (.tail _ (.head _))) 1, ?_⟩
      have h : Sat σ w (tskC tb false :: plainC pb2 [32, cc] :: textC x.t x.s x.e t.q t.n t.c x.raw :: (t.RM ++ (t.KM ++ (p.at b :: (fills xs1 ts1 ++ (fills xs3 ts3 ++ L)))))) := h
      exact tail false [32, cc] tb pb2 w hto (by simp) (h.re)
    | done cc =>
     have b0 : bt (bs [91, 120, 93, 32, cc]) 0 = 91 := by rw [show (0 : Int) = ((0 : Nat) : Int) from rfl, bs_bt]; rfl
     have b1 : bt (bs [91, 120, 93, 32, cc]) 1 = 120 := by rw [show (1 : Int) = ((1 : Nat) : Int) from rfl, bs_bt]; rfl
     have b2 : bt (bs [91, 120, 93, 32, cc]) 2 = 93 := by rw [show (2 : Int) = ((2 : Nat) : Int) from rfl, bs_bt]; rfl
     have b3 : bt (bs [91, 120, 93, 32, cc]) 3 = 32 := by rw [show (3 : Int) = ((3 : Nat) : Int) from rfl, bs_bt]; rfl
     have bz : (bs [91, 120, 93, 32, cc]).size = 5 := by rw [bs_size]; rfl
     have hx3 : (bs [91, 120, 93, 32, cc]).extract (Int.toNat 3) (bs [91, 120, 93, 32, cc]).size = bs [32, cc] := by rw [bz, bs_extract]; rfl
     have hto : tkOut x.raw = boxT true ++ escS htmlPs [32, cc] := by rw [hraw]; rfl
     refine ⟨fun _ => ⟨by decide, by rw [bz]; decide⟩, fun _ => ⟨by decide, by rw [bz]; decide⟩, fun _ => ⟨by decide, by rw [bz]; decide⟩, fun _ => ⟨by decide, by rw [bz]; decide⟩, fun _ => ⟨by decide, by rw [bz]; decide⟩, ?_⟩
     rw [b0, b1, b2, bz]
     refine br_false rfl ?_
     unfold g_parseState_taskList.k2
     rw [b3, bz]
     refine ⟨by decide, by decide, fun _ => ⟨by decide, by decide⟩, br_false rfl ?_⟩
     refine Sat.tk h fun w h => ⟨by decide, by rw [bz]; decide, ?_⟩
     rw [b1]
     refine br_true rfl ⟨by decide, by rw [bz]; decide, nilP_some ⟨_, _, _, Sat.ld h (.head _) (i := 2) rfl, _, _, _, hsl, ?_⟩⟩
     rw [hx3]
     have h0 := h
     refine ⟨?_, ?_⟩
     ·refine Sat.bx h fun tb w h => ⟨h0.same h (.head _) (.tail _ (.head _)) 1, ?_⟩
      have h1 := h
      refine Sat.bx h fun pb2 w h => ⟨h1.same h (.tail _ (.head _)) (.tail _ (.tail _ (.head _))) 1, ?_⟩
      have h : Sat σ w (plainC pb2 [32, cc] :: tskC tb true :: textC x.t x.s x.e t.q t.n t.c x.raw :: (t.RM ++ (t.KM ++ (p.at b :: (fills xs1 ts1 ++ (fills xs3 ts3 ++ L)))))) := h
      exact tail true [32, cc] tb pb2 w hto (by simp) (h.re)
     ·refine Sat.bx h fun pb2 w h => ⟨h0.same h (.head _) (.tail _ (.head _)) 1, ?_⟩
      have h1 := h
      refine Sat.bx h fun tb w h => ⟨h1.same h (.tail _ (.head _)) (.tail _ (.tail _ (.head _))) 1, ?_⟩
      have h : Sat σ w (tskC tb true :: plainC pb2 [32, cc] :: textC x.t x.s x.e t.q t.n t.c x.raw :: (t.RM ++ (t.KM ++ (p.at b :: (fills xs1 ts1 ++ (fills xs3 ts3 ++ L)))))) := h
      exact tail true [32, cc] tb pb2 w hto (by simp) (h.re)
 exact key items xs hI ts [] [] [] w rfl rfl hP .nil h
end Go.Proofs.YtgbgadkldalkbaaGreatDoor


set_option linter.unusedVariables false
namespace Go.Proofs.YtgbgadkldalkbaaGreatDoor
open Go.Proofs Go.IntWalk Go.RowKit
variable {σ : Out} {w : World} {L L' : List Chunk} {R : Ending → World → Prop}
theorem trimSTN_sp (hR : R (.returned (.string (bs []))) w) : callE P i_trimSpaceTabNewline #[.string (bs [32])] R w := by
 refine g_trimSpaceTabNewline.sound ?_
 have b0 : bt (bs [32]) 0 = 32 := by rw [show (0 : Int) = ((0 : Nat) : Int) from rfl, bs_bt]; rfl
 have bz : (bs [32]).size = 1 := by rw [bs_size]; rfl
 intro X hX
 refine hX _ _ _ ⟨fun _ => ⟨by decide, by rw [bz]; decide⟩, fun _ => ⟨by decide, by rw [bz]; decide⟩, fun _ => ⟨by decide, by rw [bz]; decide⟩, ?_⟩
 rw [b0, bz]
 refine br_true rfl ?_
 rw [show IntKind.i64.wrap (0 + 1) = 1 from rfl]
 refine hX _ _ _ ⟨fun hh => absurd hh (by rw [bz]; decide), fun hh => absurd hh (by rw [bz]; simp), fun hh => absurd hh (by rw [bz]; simp), ?_⟩
 rw [bz]
 refine br_false (by simp) ⟨by decide, by rw [bz]; decide, ?_⟩
 have e : (bs [32]).extract (Int.toNat 1) (bs [32]).size = bs [] := by rw [bz, bs_extract]; rfl
 rw [e, show (bs []).size = 0 from by rw [bs_size]; rfl]
 intro Y hY
 refine hY _ _ _ ⟨fun hh => absurd hh (by decide), fun hh => absurd hh (by simp), fun hh => absurd hh (by simp), br_false (by simp) ⟨by decide, by decide, ?_⟩⟩
 have e2 : (bs []).extract 0 (Int.toNat ((0 : Nat) : Int)) = bs [] := by rw [bs_extract]; rfl
 rw [e2]; exact hR
theorem norm_box {a : UInt8} (ha : a = 32 ∨ a = 120) (h : Sat σ w L) (hR : ∀ w s, Sat σ w L → R (.returned (.string (bs s))) w) : callE P i_normalizeLabel #[.string (bs [a])] R w := by
 rcases ha with rfl | rfl
 ·refine g_normalizeLabel.sound ?_
  refine zzContains_ok (sub := [91]) (by decide) (by decide) ⟨_, rfl, br_false (by rw [idx_none (by decide)]; rfl) ?_⟩
  refine zzContains_ok (sub := [93]) (by decide) (by decide) ⟨_, rfl, br_false (by rw [idx_none (by decide)]; rfl) ?_⟩
  refine trimSTN_sp ⟨_, rfl, ?_⟩
  refine Sat.bx h fun b w h => ?_
  intro X hX
  refine hX _ _ _ _ _ _ (br_false (by rw [bs_size]; rfl) ?_)
  exact bldStr_ok (bldNew b) h (by decide) fun w h => ⟨_, rfl, hR w [] h⟩
 ·exact normalizeLabel_ok (by decide) (by decide) (by decide) (by decide) (by decide) (by decide) h fun w h => hR w _ h
theorem close_box {b ob : Nat} {oe : TypeId} {p : PS} {a c : UInt8} (ha : a = 32 ∨ a = 120) (hlk : p.links = none) (hob : (ob, cel [.string (bs [91]), .int .i64 1] oe) ∈ L) (hp : p.at b ∈ L) (h : Sat σ w L)
 (hR : ∀ w, Sat σ w L → R (.returned (.tuple #[.pointer none, .int .i64 0, .bool false])) w) : callE P i_parseState_parseLinkClose #[.pointer (some ⟨b, 0, none⟩), .string (bs [91, a, 93, 32, c]), .int .i64 2, .pointer (some ⟨ob, 0, none⟩)] R w := by
 have bz : (bs [91, a, 93, 32, c]).size = 5 := by rw [bs_size]; rfl
 have b3 : bt (bs [91, a, 93, 32, c]) 3 = 32 := by rw [show (3 : Int) = ((3 : Nat) : Int) from rfl, bs_bt]; rfl
 refine g_parseState_parseLinkClose.sound ?_
 unfold g_parseState_parseLinkClose
 rw [show IntKind.i64.wrap (2 + 1) = 3 from rfl, bz]
 refine br_true rfl ⟨by decide, by decide, ?_⟩
 rw [b3]
 refine br_false rfl (br_false rfl ?_)
 unfold g_parseState_parseLinkClose.k2
 rw [show IntKind.i64.wrap (2 + 1) = 3 from rfl]
 refine ⟨by decide, by rw [bz]; decide, ?_⟩
 have e : (bs [91, a, 93, 32, c]).extract (Int.toNat 3) (bs [91, a, 93, 32, c]).size = bs [32, c] := by rw [bz, bs_extract]; rfl
 rw [e]
 refine hasPrefix_ok (t := [91, 93]) ⟨_, rfl, br_false (by simp) ?_⟩
 refine h.tk fun w h => nilP_some (nilP_some ?_)
 refine ⟨p.links, Sat.ld h hp rfl, 1, Sat.ld h hob rfl, by decide, by decide, by rw [bz]; decide, ?_⟩
 have e2 : (bs [91, a, 93, 32, c]).extract (Int.toNat 1) (Int.toNat 2) = bs [a] := by rw [bs_extract]; rfl
 rw [e2]
 have h0 := h
 refine norm_box ha h fun w s h => ⟨_, rfl, h0.same h hp hp 1, ?_⟩
 have hlu := lookup_nil s true w
 rw [hlk]
 exact ⟨_, _, _, hlu, br_false rfl (hR w h)⟩
theorem AtB.no {X : XI} {b pb i e k : Nat} {p0 : PS} {raw : List UInt8} {ts1 ts2 : List Inl} {opens : List Nat} {lo : Int} {o : Opt} {t : List UInt8} (hX : LoopB R X b raw) (hi : i < raw.length) (hs : raw.length < 1000000) (hc : raw[i] = 93)
 (hpz : p0.pz = some ⟨pb, 0, none⟩) (ho : o.at pb ∈ L) (ht : t.getD 0 0 = 91) (ht0 : t ≠ []) (hlo : lo ≤ (k : Int))
 (hclose : ∀ (p : PS) (R' : Ending → World → Prop) (L' : List Chunk) w ob oe, p.coreS = p0.coreS → p.s = raw → (ob, cel [.string (bs t), .int .i64 k] oe) ∈ L' → p.at b ∈ L' → Sat σ w L' → (∀ w, Sat σ w L' → R' (.returned (.tuple #[.pointer none, .int .i64 0, .bool false])) w) → callE P i_parseState_parseLinkClose #[.pointer (some ⟨b, 0, none⟩), .string (bs raw), .int .i64 i, .pointer (some ⟨ob, 0, none⟩)] R' w)
 (hn : (ts1 ++ ts2).length < 1000000) (hon : opens.length < 1000000)
 (hnext : AtB X σ b p0 raw L (i + 1) e (ts1 ++ .openP t k :: ts2) opens lo) :
 AtB X σ b p0 raw L i e (ts1 ++ .openP t k :: ts2) (opens ++ [ts1.length]) lo := by
 intro w p oq on oc hcS hraw he hI
 refine hX _ _ _ _ _ _ ?_
 obtain ⟨vs, RM, EM, OM, hS, hIn, hO, hlen, hsat⟩ := hI
 refine inl_dispatch (p := p) hi (by omega) (by rw [PS.pz_of hcS, hpz]) (.head _) (.tail _ (List.mem_append_right _ (List.mem_append_right _ (List.mem_append_right _ ho)))) hsat ?_
 rw [hc, show parserOf o 93 = .nil from rfl]
 refine inl_none ⟨by omega, by simp; omega, ?_⟩
 have hol := hO.1
 rw [List.length_map, List.length_append, List.length_singleton] at hol
 refine br_true (by rw [bt_beq hi 93 93 rfl, hc]; simp; omega) ?_
 have e1 : IntKind.i64.wrap ((on : Int) - 1) = ((opens.length : Nat) : Int) := by rw [show ((on : Int) - 1) = ((opens.length : Nat) : Int) by omega, i64_in _ (by omega)]
 rw [e1]
 refine ⟨by omega, by omega, ?_⟩
 have hsl := hS.1
 have hsc := hS.2.1
 have hIl := hIn.length
 simp only [List.length_append, List.length_cons] at hIl hn
 have hsat2 : Sat σ w (OM ++ (p.at b :: (RM ++ (EM ++ L)))) := hsat.re
 refine hO.loadAt hsat2 (j := opens.length) (v := .int .i64 (ts1.length : Nat)) (by simp [List.map_append]) fun ob1 hq1 hc1 => ?_
 simp only [Addr.add_lit, Int.toNat_natCast, Nat.mul_one, Nat.zero_add]
 refine ⟨_, hc1, nilP_some ?_⟩
 have h := hsat
 refine ⟨_, _, _, h.ldA, ?_⟩
 refine ⟨by omega, by omega, ?_⟩
 have hIn0 := hIn
 obtain ⟨vs1, v, vs2, M1, M2, M3, rfl, rfl, hI1, hIo, hI2⟩ := hIn.mid
 have hl1 := hI1.length
 obtain ⟨ob, oe, rfl, rfl⟩ := hIo
 have hsat3 : Sat σ w (RM ++ (p.at b :: ((M1 ++ ([(ob, cel [.string (bs t), .int .i64 k] oe)] ++ M3)) ++ (OM ++ L)))) := hsat.re
 refine hS.loadAt hsat3 (j := ts1.length) (v := ptrV ty_P_openPlain ob) (by rw [List.getElem?_append_right (by omega), show ts1.length - vs1.length = 0 by omega]; rfl) fun rb hq2 hc2 => ?_
 simp only [Addr.add_lit, Int.toNat_natCast, Nat.mul_one, Nat.zero_add]
 refine ⟨_, hc2, _, _, ta_open1 w, _, _, _, _, sliceT rowInt.ht rowInt.hi oq on oc opens.length (by have := hO.2.1; omega) w, nilP_some ?_⟩
 have hmo : (ob, cel [.string (bs t), .int .i64 k] oe) ∈ p.at b :: (RM ++ ((M1 ++ ([(ob, cel [.string (bs t), .int .i64 k] oe)] ++ M3)) ++ (OM ++ L))) :=
  .tail _ (List.mem_append_right _ (List.mem_append_left _ (List.mem_append_right _ (List.mem_append_left _ (.head _)))))
 have hb0 : bt (bs t) 0 = ((t.getD 0 0).toNat : Int) := bs_bt t 0
 have htl : 0 < t.length := List.length_pos_iff.2 ht0
 refine ⟨_, Sat.ld h hmo rfl, by decide, by simp; omega, ?_⟩
 rw [hb0]
 have hOs := hO.shrink (m := opens.length) (by omega)
 rw [Nat.mul_one, List.map_append, List.take_left' (by simp)] at hOs
 refine br_false (by rw [ht]; rfl) (nilP_some ⟨_, Sat.ld h hmo rfl, ?_⟩)
 rw [decide_eq_true hlo]
 refine br_true rfl ?_
 refine hclose p _ _ w ob oe hcS hraw hmo (.head _) h fun w h => ⟨_, _, _, rfl, br_false rfl ?_⟩
 rw [i64_inc (by omega)]
 exact hnext w p oq _ oc hcS hraw he ⟨_, RM, _, OM, hS, hIn0, hOs, hlen, h⟩
def InlinePl (o : Opt) (s : List UInt8) : Prop :=
 ∀ (σ : Out) (R : Ending → World → Prop) (b pb : Nat) (p : PS) (L : List Chunk) (w : World), Sat σ w (p.at b :: L) → p.pz = some ⟨pb, 0, none⟩ → o.at pb ∈ L → p.links = none →
  (∀ w (p' : PS) q c pb2 cs e RM, p'.coreS = p.coreS → Sl 1 ty_Inline q 1 c [ptrV ty_P_Plain pb2] RM → Sat σ w (p'.at b :: (RM ++ ([(pb2, cel (.string (bs s) :: cs) e)] ++ L))) → R (.returned (.slice q 1 c)) w) →
  callE P i_parseState_inline #[.pointer (some ⟨b, 0, none⟩), .string (bs s)] R w
theorem inls_one {s : List UInt8} {vs : List Value} {M : List Chunk} (h : InlsAt [.plain s] vs M) : ∃ b cs e, vs = [ptrV ty_P_Plain b] ∧ M = [(b, cel (.string (bs s) :: cs) e)] := by
 obtain ⟨v, vs', M1, M2, rfl, rfl, ⟨b, cs, e, rfl, rfl⟩, rfl, rfl⟩ := h
 exact ⟨b, cs, e, rfl, rfl⟩
theorem inl_box {o : Opt} {a c : UInt8} (hoff : o.auto = false) (ha : a = 32 ∨ a = 120) (hc : smlB c = true) : InlinePl o [91, a, 93, 32, c] := by
 intro σ R b pb p L w h hpz ho hlk hR
 have hst := (sml_facts hc).1
 have h93 := (sml_facts hc).2.2.1
 have htr : trimLR isST [91, a, 93, 32, c] = [91, a, 93, 32, c] := by
  unfold trimLR trimR
  have e1 : [91, a, 93, 32, c].dropWhile isST = [91, a, 93, 32, c] := rfl
  rw [e1, show [91, a, 93, 32, c].reverse = c :: [32, 93, a, 91] from rfl, List.dropWhile_cons_of_neg (by simp [hst])]
  rfl
 refine inl_begin h (by show 5 < _; decide) fun w h => ?_
 rw [htr] at h ⊢
 have hg : ∀ k (hk : k < [91, a, 93, 32, c].length), [91, a, 93, 32, c][k]'hk = [91, a, 93, 32, c].getD k 0 := fun k hk => getElem_getD hk 0
 have hcl := fun (p : PS) (hp : p.links = none) => @close_box (a := a) (c := c) (b := b) (p := p)
 intro X hX
 have hXL : LoopB R X b [91, a, 93, 32, c] := fun _ _ _ _ _ _ h => hX _ _ _ _ _ _ _ _ _ h
 generalize hp0 : ({ p with s := [91, a, 93, 32, c], em := 0, lq := none, ln := 0, lc := 0 } : PS) = p0 at h
 have hpz0 : p0.pz = some ⟨pb, 0, none⟩ := by rw [← hp0]; exact hpz
 have hlk0 : p0.links = none := by rw [← hp0]; exact hlk
 have hcs : p0.coreS = p.coreS := by rw [← hp0]; rfl
 suffices hat : AtB X σ b p0 [91, a, 93, 32, c] L 0 0 [] [] 0 from hat w p0 none 0 0 rfl (by rw [← hp0]) (by rw [← hp0]; rfl) h
 have hem : emitM [91, a, 93, 32, c] 1 5 [.openP [91] 1] = [.openP [91] 1, .plain [a, 93, 32, c]] := rfl
 have hnr : ∀ t ∈ [Inl.openP [91] 1, .plain [a, 93, 32, c]], noRun t = true := by
  intro t ht
  simp only [List.mem_cons, List.not_mem_nil, or_false] at ht
  rcases ht with rfl | rfl <;> rfl
 have s3 : AtB X σ b p0 [91, a, 93, 32, c] L 5 1 [.openP [91] 1] [] 0 := by
  refine AtB.fin (raw := [91, a, 93, 32, c]) (ts' := [.plain [91], .plain [a, 93, 32, c]]) hXL (by show 5 < _; decide) hpz0 ho hoff (by show 1 < _; decide) ?_ ?_ (by simp [plen, Inl.plain?]) ?_
  ·show EmphOK (emitM [91, a, 93, 32, c] 1 5 [.openP [91] 1]) _
   rw [hem]
   exact emphOK_noRun hnr (by simp)
  ·intro t ht s hs
   simp only [List.mem_cons, List.not_mem_nil, or_false] at ht
   rcases ht with rfl | rfl <;> (simp [Inl.plain?] at hs; subst hs; simp)
  ·intro w p' q n' c' vs RM EM hp' hS hn' hI h
   have hm : mergeM [.plain [91], .plain [a, 93, 32, c]] = [.plain [91, a, 93, 32, c]] := rfl
   rw [hm] at hI
   obtain ⟨pb2, cs, e, rfl, rfl⟩ := inls_one hI
   have hn1 : n' = 1 := by have := hS.1; simp at this; omega
   subst hn1
   exact hR w p' q c' pb2 cs e RM (hp'.trans hcs) hS h
 have s2 : AtB X σ b p0 [91, a, 93, 32, c] L 2 1 [.openP [91] 1] [0] 0 := by
  refine AtB.no (ts1 := []) (ts2 := []) (opens := []) (k := 1) (t := [91]) hXL (by show 2 < 5; decide) (by show 5 < _; decide) rfl hpz0 ho rfl (by decide) (by decide) ?_ (by decide) (by decide) ?_
  ·intro p9 R' L' w ob oe h1 h2 h3 h4 h5 h6
   exact close_box ha (by have := congrArg PS.links h1; exact this.trans hlk0) h3 h4 h5 h6
  ·refine AtB.plains hXL (by show 5 < _; decide) hpz0 ho 2 3 (by show 5 ≤ 5; decide) (fun j hj h1 h2 => ?_) s3
   have : j = 3 ∨ j = 4 := by omega
   rcases this with rfl | rfl
   ·exact ⟨rfl, .inr rfl⟩
   ·exact ⟨sml_pnil hc o, .inr rfl⟩
 have s1 : AtB X σ b p0 [91, a, 93, 32, c] L 1 1 [.openP [91] 1] [0] 0 := by
  refine AtB.plains hXL (by show 5 < _; decide) hpz0 ho 1 1 (by show 2 ≤ 5; decide) (fun j hj h1 h2 => ?_) s2
  obtain rfl : j = 1 := by omega
  show parserOf o a = .nil ∧ (a ≠ 93 ∨ _)
  rcases ha with rfl | rfl
  ·exact ⟨rfl, .inl (by decide)⟩
  ·exact ⟨sml_pnil rfl o, .inl (by decide)⟩
 exact AtB.leaf (Q := fun p p' => p' = p) hXL (by show 0 < 5; decide) (by show 5 < _; decide) hpz0 ho (f := i_parseLinkOpen) rfl (L0 := []) (by simp) (fun p _ _ => linkOpen_leaf (by show 5 < _; decide) (by show 0 < 5; decide) rfl) (by show 0 ≤ 5; decide) (by show 0 < _; decide) (by show 0 < _; decide) s1
theorem inl_word1 {o : Opt} {c : UInt8} (hoff : o.auto = false) (hc : smlB c = true) : InlinePl o [c] := by
 intro σ R b pb p L w h hpz ho hlk hR
 have hst := (sml_facts hc).1
 have htr : trimLR isST [c] = [c] := by
  unfold trimLR trimR
  simp [List.dropWhile, hst]
 refine inl_begin h (by show 1 < _; decide) fun w h => ?_
 rw [htr] at h ⊢
 intro X hX
 have hXL : LoopB R X b [c] := fun _ _ _ _ _ _ h => hX _ _ _ _ _ _ _ _ _ h
 generalize hp0 : ({ p with s := [c], em := 0, lq := none, ln := 0, lc := 0 } : PS) = p0 at h
 have hpz0 : p0.pz = some ⟨pb, 0, none⟩ := by rw [← hp0]; exact hpz
 have hcs : p0.coreS = p.coreS := by rw [← hp0]; rfl
 suffices hat : AtB X σ b p0 [c] L 0 0 [] [] 0 from hat w p0 none 0 0 rfl (by rw [← hp0]) (by rw [← hp0]; rfl) h
 have hem : emitM [c] 0 1 [] = [.plain [c]] := rfl
 have hnr : ∀ t ∈ [Inl.plain [c]], noRun t = true := by
  intro t ht
  simp only [List.mem_cons, List.not_mem_nil, or_false] at ht
  subst ht; rfl
 refine AtB.plains hXL (by show 1 < _; decide) hpz0 ho 1 0 (by show 1 ≤ 1; decide) (fun j hj h1 h2 => ?_) ?_
 ·obtain rfl : j = 0 := by omega
  exact ⟨sml_pnil hc o, .inr rfl⟩
 ·refine AtB.fin (raw := [c]) (ts' := [.plain [c]]) hXL (by show 1 < _; decide) hpz0 ho hoff (by show 0 < _; decide) ?_ ?_ (by simp [plen, Inl.plain?]) ?_
  ·show EmphOK (emitM [c] 0 1 []) _
   rw [hem]
   exact emphOK_noRun hnr (by simp)
  ·intro t ht s hs
   simp only [List.mem_cons, List.not_mem_nil, or_false] at ht
   subst ht; simp [Inl.plain?] at hs; subst hs; simp
  ·intro w p' q n' c' vs RM EM hp' hS hn' hI h
   have hm : mergeM [.plain [c]] = [.plain [c]] := rfl
   rw [hm] at hI
   obtain ⟨pb2, cs, e, rfl, rfl⟩ := inls_one hI
   have hn1 : n' = 1 := by have := hS.1; simp at this; omega
   subst hn1
   exact hR w p' q c' pb2 cs e RM (hp'.trans hcs) hS h
theorem noRef_box {a c : UInt8} (ha : a = 32 ∨ a = 120) : NoRef [91, a, 93, 32, c] := by
 rcases ha with rfl | rfl
 ·intro R w q hR
  refine g_parseLinkRefDef.sound ?_
  have hp : pastSTN [91, 32, 93, 32, c] 0 = 0 := by
   unfold pastSTN; rw [List.drop_zero, List.dropWhile_cons_of_neg (by decide)]; simp
  refine skipSp_ok (i := 0) (by show 5 < _; decide) (Nat.zero_le _) ⟨_, rfl, q, w, ta_ps q w, ?_⟩
  rw [hp]
  have bz : (bs [91, 32, 93, 32, c]).size = 5 := by rw [bs_size]; rfl
  have b0 : bt (bs [91, 32, 93, 32, c]) ((0 : Nat) : Int) = 91 := by rw [bs_bt]; rfl
  have b1 : bt (bs [91, 32, 93, 32, c]) ((1 : Nat) : Int) = 32 := by rw [bs_bt]; rfl
  have b2 : bt (bs [91, 32, 93, 32, c]) ((2 : Nat) : Int) = 93 := by rw [bs_bt]; rfl
  refine g_parseLinkLabel.sound ?_
  refine ⟨fun _ => ⟨by decide, by rw [bz]; decide⟩, br_false (by rw [b0, bz]; rfl) ?_⟩
  unfold g_parseLinkLabel.k1
  rw [show IntKind.i64.wrap (((0 : Nat) : Int) + 1) = ((1 : Nat) : Int) from rfl]
  intro X hX
  refine hX _ _ _ _ _ (br_true (by rw [bz]; rfl) ⟨by decide, by rw [bz]; decide, ?_⟩)
  rw [b1]
  refine br_false rfl ⟨by decide, by rw [bz]; decide, ?_⟩
  refine br_false rfl ⟨by decide, by rw [bz]; decide, ?_⟩
  refine br_false rfl ?_
  rw [show IntKind.i64.wrap (((1 : Nat) : Int) + 1) = ((2 : Nat) : Int) from rfl]
  refine hX _ _ _ _ _ (br_true (by rw [bz]; rfl) ⟨by decide, by rw [bz]; decide, ?_⟩)
  rw [b2]
  refine br_true rfl (br_false rfl ⟨by decide, by decide, by rw [bz]; decide, ?_⟩)
  have e : (bs [91, 32, 93, 32, c]).extract (Int.toNat (IntKind.i64.wrap (((0 : Nat) : Int) + 1))) (Int.toNat ((2 : Nat) : Int)) = bs [32] := by
   rw [show Int.toNat (IntKind.i64.wrap (((0 : Nat) : Int) + 1)) = 1 from rfl, show Int.toNat ((2 : Nat) : Int) = 2 from rfl, bs_extract]; rfl
  rw [e]
  refine trimSTN_sp ⟨_, rfl, br_false (by rw [bs_toList, mk_toList]; rfl) ?_⟩
  refine ⟨_, _, _, rfl, fun hh => absurd hh (by simp), br_true rfl hR⟩
 ·exact noRef_label (by simp) (by decide) (by decide) (by decide) (by decide) (by decide)
end Go.Proofs.YtgbgadkldalkbaaGreatDoor


set_option linter.unusedVariables false
set_option maxRecDepth 20000
namespace Go.Proofs.YtgbgadkldalkbaaGreatDoor
open Go.Proofs
namespace g_listBuilder_extend
noncomputable def body : Code := bodyOf Tryz.f400
end g_listBuilder_extend
def g_listBuilder_extend (R : EP) (x0 x1 : OA) (x2_0 x2_1 x2_2 : Int) (x2_3 : BA) (x2_4 : Int) (w : World) : Prop :=
 box w #[.int .i64 x2_0, .int .i64 x2_1, .int .i64 x2_2, .string x2_3, .int .u8 x2_4] ty_line fun b1 w2 =>
 box w2 #[.int .i64 0, .int .i64 0, .int .i64 0, .string (ByteArray.mk #[]), .int .u8 0] ty_line fun b3 w4 =>
 nilP x0 fun a5 =>
 ∃ (v6 : OA), w4.cell? (a5.add 3) = some (.pointer v6) ∧
 tk w4 fun w7 =>
 ∃ (r8 : Bool), (∀ w, (do eqGuard .neq ty_P_itemBuilder (.tmp 13) (.const (.pointer none)) (.pointer v6) (.pointer none); binOp .neq ty_P_itemBuilder (.pointer v6) (.pointer none)).run P w = .ok (.bool r8) w) ∧
 br r8
 (nilP v6 fun a9 =>
 nilP v6 fun a10 =>
 ∃ (v11 : Int), w7.cell? (a9.add 1) = some (.int .i64 v11) ∧
 ∃ (v12 : Int), w7.cell? (a10.add 1) = some (.int .i64 v12) ∧
 callE P i_line_trimSpace #[.pointer (some ⟨b1, 0, none⟩), .int .i64 v11, .int .i64 v12, .bool true] (fun e w14 => ∃ (r13 : Bool), e = .returned (.bool r13) ∧
 br r13
 (∃ (v15 : Int), w14.cell? ⟨b1, 0, none⟩ = some (.int .i64 v15) ∧
 ∃ (v16 : Int), w14.cell? ⟨b1, 1, none⟩ = some (.int .i64 v16) ∧
 ∃ (v17 : Int), w14.cell? ⟨b1, 2, none⟩ = some (.int .i64 v17) ∧
 ∃ (v18 : BA), w14.cell? ⟨b1, 3, none⟩ = some (.string v18) ∧
 ∃ (v19 : Int), w14.cell? ⟨b1, 4, none⟩ = some (.int .u8 v19) ∧
 stV w14 ⟨b3, 0, none⟩ (.int .i64 v15) fun w20 =>
 stV w20 ⟨b3, 1, none⟩ (.int .i64 v16) fun w21 =>
 stV w21 ⟨b3, 2, none⟩ (.int .i64 v17) fun w22 =>
 stV w22 ⟨b3, 3, none⟩ (.string v18) fun w23 =>
 stV w23 ⟨b3, 4, none⟩ (.int .u8 v19) fun w24 =>
 ∃ (v25 : Int), w24.cell? ⟨b3, 0, none⟩ = some (.int .i64 v25) ∧
 ∃ (v26 : Int), w24.cell? ⟨b3, 1, none⟩ = some (.int .i64 v26) ∧
 ∃ (v27 : Int), w24.cell? ⟨b3, 2, none⟩ = some (.int .i64 v27) ∧
 ∃ (v28 : BA), w24.cell? ⟨b3, 3, none⟩ = some (.string v28) ∧
 ∃ (v29 : Int), w24.cell? ⟨b3, 4, none⟩ = some (.int .u8 v29) ∧
 R (.returned (.tuple #[.agg #[.int .i64 v25, .int .i64 v26, .int .i64 v27, .string v28, .int .u8 v29], .bool true])) w24)
 (∃ (r30 : Bool), (∀ w, (do eqGuard .eql ty_P_itemBuilder (.tmp 27) (.const (.pointer none)) (.pointer v6) (.pointer none); binOp .eql ty_P_itemBuilder (.pointer v6) (.pointer none)).run P w = .ok (.bool r30) w) ∧
 br r30
 (callE P i_line_isBlank #[.pointer (some ⟨b1, 0, none⟩)] (fun e w32 => ∃ (r31 : Bool), e = .returned (.bool r31) ∧
 br r31
 (∃ (v33 : Int), w32.cell? ⟨b1, 0, none⟩ = some (.int .i64 v33) ∧
 ∃ (v34 : Int), w32.cell? ⟨b1, 1, none⟩ = some (.int .i64 v34) ∧
 ∃ (v35 : Int), w32.cell? ⟨b1, 2, none⟩ = some (.int .i64 v35) ∧
 ∃ (v36 : BA), w32.cell? ⟨b1, 3, none⟩ = some (.string v36) ∧
 ∃ (v37 : Int), w32.cell? ⟨b1, 4, none⟩ = some (.int .u8 v37) ∧
 stV w32 ⟨b3, 0, none⟩ (.int .i64 v33) fun w38 =>
 stV w38 ⟨b3, 1, none⟩ (.int .i64 v34) fun w39 =>
 stV w39 ⟨b3, 2, none⟩ (.int .i64 v35) fun w40 =>
 stV w40 ⟨b3, 3, none⟩ (.string v36) fun w41 =>
 stV w41 ⟨b3, 4, none⟩ (.int .u8 v37) fun w42 =>
 ∃ (v43 : Int), w42.cell? ⟨b3, 0, none⟩ = some (.int .i64 v43) ∧
 ∃ (v44 : Int), w42.cell? ⟨b3, 1, none⟩ = some (.int .i64 v44) ∧
 ∃ (v45 : Int), w42.cell? ⟨b3, 2, none⟩ = some (.int .i64 v45) ∧
 ∃ (v46 : BA), w42.cell? ⟨b3, 3, none⟩ = some (.string v46) ∧
 ∃ (v47 : Int), w42.cell? ⟨b3, 4, none⟩ = some (.int .u8 v47) ∧
 R (.returned (.tuple #[.agg #[.int .i64 v43, .int .i64 v44, .int .i64 v45, .string v46, .int .u8 v47], .bool true])) w42)
 (∃ (v48 : Int), w32.cell? ⟨b1, 0, none⟩ = some (.int .i64 v48) ∧
 ∃ (v49 : Int), w32.cell? ⟨b1, 1, none⟩ = some (.int .i64 v49) ∧
 ∃ (v50 : Int), w32.cell? ⟨b1, 2, none⟩ = some (.int .i64 v50) ∧
 ∃ (v51 : BA), w32.cell? ⟨b1, 3, none⟩ = some (.string v51) ∧
 ∃ (v52 : Int), w32.cell? ⟨b1, 4, none⟩ = some (.int .u8 v52) ∧
 stV w32 ⟨b3, 0, none⟩ (.int .i64 v48) fun w53 =>
 stV w53 ⟨b3, 1, none⟩ (.int .i64 v49) fun w54 =>
 stV w54 ⟨b3, 2, none⟩ (.int .i64 v50) fun w55 =>
 stV w55 ⟨b3, 3, none⟩ (.string v51) fun w56 =>
 stV w56 ⟨b3, 4, none⟩ (.int .u8 v52) fun w57 =>
 ∃ (v58 : Int), w57.cell? ⟨b3, 0, none⟩ = some (.int .i64 v58) ∧
 ∃ (v59 : Int), w57.cell? ⟨b3, 1, none⟩ = some (.int .i64 v59) ∧
 ∃ (v60 : Int), w57.cell? ⟨b3, 2, none⟩ = some (.int .i64 v60) ∧
 ∃ (v61 : BA), w57.cell? ⟨b3, 3, none⟩ = some (.string v61) ∧
 ∃ (v62 : Int), w57.cell? ⟨b3, 4, none⟩ = some (.int .u8 v62) ∧
 R (.returned (.tuple #[.agg #[.int .i64 v58, .int .i64 v59, .int .i64 v60, .string v61, .int .u8 v62], .bool false])) w57)) w14)
 (∃ (v63 : Int), w14.cell? ⟨b1, 0, none⟩ = some (.int .i64 v63) ∧
 ∃ (v64 : Int), w14.cell? ⟨b1, 1, none⟩ = some (.int .i64 v64) ∧
 ∃ (v65 : Int), w14.cell? ⟨b1, 2, none⟩ = some (.int .i64 v65) ∧
 ∃ (v66 : BA), w14.cell? ⟨b1, 3, none⟩ = some (.string v66) ∧
 ∃ (v67 : Int), w14.cell? ⟨b1, 4, none⟩ = some (.int .u8 v67) ∧
 stV w14 ⟨b3, 0, none⟩ (.int .i64 v63) fun w68 =>
 stV w68 ⟨b3, 1, none⟩ (.int .i64 v64) fun w69 =>
 stV w69 ⟨b3, 2, none⟩ (.int .i64 v65) fun w70 =>
 stV w70 ⟨b3, 3, none⟩ (.string v66) fun w71 =>
 stV w71 ⟨b3, 4, none⟩ (.int .u8 v67) fun w72 =>
 ∃ (v73 : Int), w72.cell? ⟨b3, 0, none⟩ = some (.int .i64 v73) ∧
 ∃ (v74 : Int), w72.cell? ⟨b3, 1, none⟩ = some (.int .i64 v74) ∧
 ∃ (v75 : Int), w72.cell? ⟨b3, 2, none⟩ = some (.int .i64 v75) ∧
 ∃ (v76 : BA), w72.cell? ⟨b3, 3, none⟩ = some (.string v76) ∧
 ∃ (v77 : Int), w72.cell? ⟨b3, 4, none⟩ = some (.int .u8 v77) ∧
 R (.returned (.tuple #[.agg #[.int .i64 v73, .int .i64 v74, .int .i64 v75, .string v76, .int .u8 v77], .bool false])) w72))) w7)
 (∃ (r78 : Bool), (∀ w, (do eqGuard .eql ty_P_itemBuilder (.tmp 27) (.const (.pointer none)) (.pointer v6) (.pointer none); binOp .eql ty_P_itemBuilder (.pointer v6) (.pointer none)).run P w = .ok (.bool r78) w) ∧
 br r78
 (callE P i_line_isBlank #[.pointer (some ⟨b1, 0, none⟩)] (fun e w80 => ∃ (r79 : Bool), e = .returned (.bool r79) ∧
 br r79
 (∃ (v81 : Int), w80.cell? ⟨b1, 0, none⟩ = some (.int .i64 v81) ∧
 ∃ (v82 : Int), w80.cell? ⟨b1, 1, none⟩ = some (.int .i64 v82) ∧
 ∃ (v83 : Int), w80.cell? ⟨b1, 2, none⟩ = some (.int .i64 v83) ∧
 ∃ (v84 : BA), w80.cell? ⟨b1, 3, none⟩ = some (.string v84) ∧
 ∃ (v85 : Int), w80.cell? ⟨b1, 4, none⟩ = some (.int .u8 v85) ∧
 stV w80 ⟨b3, 0, none⟩ (.int .i64 v81) fun w86 =>
 stV w86 ⟨b3, 1, none⟩ (.int .i64 v82) fun w87 =>
 stV w87 ⟨b3, 2, none⟩ (.int .i64 v83) fun w88 =>
 stV w88 ⟨b3, 3, none⟩ (.string v84) fun w89 =>
 stV w89 ⟨b3, 4, none⟩ (.int .u8 v85) fun w90 =>
 ∃ (v91 : Int), w90.cell? ⟨b3, 0, none⟩ = some (.int .i64 v91) ∧
 ∃ (v92 : Int), w90.cell? ⟨b3, 1, none⟩ = some (.int .i64 v92) ∧
 ∃ (v93 : Int), w90.cell? ⟨b3, 2, none⟩ = some (.int .i64 v93) ∧
 ∃ (v94 : BA), w90.cell? ⟨b3, 3, none⟩ = some (.string v94) ∧
 ∃ (v95 : Int), w90.cell? ⟨b3, 4, none⟩ = some (.int .u8 v95) ∧
 R (.returned (.tuple #[.agg #[.int .i64 v91, .int .i64 v92, .int .i64 v93, .string v94, .int .u8 v95], .bool true])) w90)
 (∃ (v96 : Int), w80.cell? ⟨b1, 0, none⟩ = some (.int .i64 v96) ∧
 ∃ (v97 : Int), w80.cell? ⟨b1, 1, none⟩ = some (.int .i64 v97) ∧
 ∃ (v98 : Int), w80.cell? ⟨b1, 2, none⟩ = some (.int .i64 v98) ∧
 ∃ (v99 : BA), w80.cell? ⟨b1, 3, none⟩ = some (.string v99) ∧
 ∃ (v100 : Int), w80.cell? ⟨b1, 4, none⟩ = some (.int .u8 v100) ∧
 stV w80 ⟨b3, 0, none⟩ (.int .i64 v96) fun w101 =>
 stV w101 ⟨b3, 1, none⟩ (.int .i64 v97) fun w102 =>
 stV w102 ⟨b3, 2, none⟩ (.int .i64 v98) fun w103 =>
 stV w103 ⟨b3, 3, none⟩ (.string v99) fun w104 =>
 stV w104 ⟨b3, 4, none⟩ (.int .u8 v100) fun w105 =>
 ∃ (v106 : Int), w105.cell? ⟨b3, 0, none⟩ = some (.int .i64 v106) ∧
 ∃ (v107 : Int), w105.cell? ⟨b3, 1, none⟩ = some (.int .i64 v107) ∧
 ∃ (v108 : Int), w105.cell? ⟨b3, 2, none⟩ = some (.int .i64 v108) ∧
 ∃ (v109 : BA), w105.cell? ⟨b3, 3, none⟩ = some (.string v109) ∧
 ∃ (v110 : Int), w105.cell? ⟨b3, 4, none⟩ = some (.int .u8 v110) ∧
 R (.returned (.tuple #[.agg #[.int .i64 v106, .int .i64 v107, .int .i64 v108, .string v109, .int .u8 v110], .bool false])) w105)) w7)
 (∃ (v111 : Int), w7.cell? ⟨b1, 0, none⟩ = some (.int .i64 v111) ∧
 ∃ (v112 : Int), w7.cell? ⟨b1, 1, none⟩ = some (.int .i64 v112) ∧
 ∃ (v113 : Int), w7.cell? ⟨b1, 2, none⟩ = some (.int .i64 v113) ∧
 ∃ (v114 : BA), w7.cell? ⟨b1, 3, none⟩ = some (.string v114) ∧
 ∃ (v115 : Int), w7.cell? ⟨b1, 4, none⟩ = some (.int .u8 v115) ∧
 stV w7 ⟨b3, 0, none⟩ (.int .i64 v111) fun w116 =>
 stV w116 ⟨b3, 1, none⟩ (.int .i64 v112) fun w117 =>
 stV w117 ⟨b3, 2, none⟩ (.int .i64 v113) fun w118 =>
 stV w118 ⟨b3, 3, none⟩ (.string v114) fun w119 =>
 stV w119 ⟨b3, 4, none⟩ (.int .u8 v115) fun w120 =>
 ∃ (v121 : Int), w120.cell? ⟨b3, 0, none⟩ = some (.int .i64 v121) ∧
 ∃ (v122 : Int), w120.cell? ⟨b3, 1, none⟩ = some (.int .i64 v122) ∧
 ∃ (v123 : Int), w120.cell? ⟨b3, 2, none⟩ = some (.int .i64 v123) ∧
 ∃ (v124 : BA), w120.cell? ⟨b3, 3, none⟩ = some (.string v124) ∧
 ∃ (v125 : Int), w120.cell? ⟨b3, 4, none⟩ = some (.int .u8 v125) ∧
 R (.returned (.tuple #[.agg #[.int .i64 v121, .int .i64 v122, .int .i64 v123, .string v124, .int .u8 v125], .bool false])) w120))

namespace g_listBuilder_extend
noncomputable def ac (R : EP) : AC :=
 (.seq (.leaf (sel [0] body)) (.seq (.leaf (sel [1,0] body)) (.seq (.seq (.draw (.pure 0 (.pure 1 (.pure 2 (.pure 3 (.pure 4 (.pure 5 (.pure 7 (.pure 8 (.pure 9 (.load 6 (.load 10 (.one 11 (.pure 12 (.pure 13 (.pure 14 (.pure 15 (.pure 16 (.one 17 (.pure 18 (.pure 19 .done)))))))))))))))))))) (sel [1,1,0,0] body)) (.leaf (sel [1,1,0,1] body))) (.leaf (sel [1,1,1] body)))))
theorem good (R : EP) : Good P 35 (ac R) (QF P [.cell 6 159, .tmp 7] R) :=
 ⟨trivial, ⟨trivial, ⟨⟨⟨by kernel_rfl, by kernel_rfl, fun _ _ _ h => h⟩, trivial⟩, trivial⟩⟩⟩
theorem eq (R : EP) (x0 x1 : OA) (x2_0 x2_1 x2_2 : Int) (x2_3 : BA) (x2_4 : Int) (w : World) : g_listBuilder_extend R x0 x1 x2_0 x2_1 x2_2 x2_3 x2_4 w = vcA P 35 (ac R) (QF P [.cell 6 159, .tmp 7] R) (fr0 [.pointer x0, .pointer x1, .agg #[.int .i64 x2_0, .int .i64 x2_1, .int .i64 x2_2, .string x2_3, .int .u8 x2_4]]) w := by kernel_rfl
theorem sound {R : EP} {x0 x1 : OA} {x2_0 x2_1 x2_2 : Int} {x2_3 : ByteArray} {x2_4 : Int} {w : World} (h : g_listBuilder_extend R x0 x1 x2_0 x2_1 x2_2 x2_3 x2_4 w) : callE P i_listBuilder_extend #[.pointer x0, .pointer x1, .agg #[.int .i64 x2_0, .int .i64 x2_1, .int .i64 x2_2, .string x2_3, .int .u8 x2_4]] R w :=
 callE_fz (c := body) Tryz.func400 Tryz.call400 (good R) (eq R x0 x1 x2_0 x2_1 x2_2 x2_3 x2_4 w) h
end g_listBuilder_extend
end Go.Proofs.YtgbgadkldalkbaaGreatDoor

set_option linter.unusedVariables false
namespace Go.Proofs.YtgbgadkldalkbaaGreatDoor
open Go.Proofs Go.IntWalk Go.RowKit
variable {σ : Out} {w : World} {L L' : List Chunk} {R : Ending → World → Prop}
structure Ln.has (l : Ln) (c : UInt8) (rest : List UInt8) : Prop where
 ok : l.ok
 sp : l.sp = 0
 tx : l.text.drop l.i = c :: rest
theorem Ln.has.get {l : Ln} {c : UInt8} {r : List UInt8} (h : l.has c r) : l.text[l.i]? = some c := by
 have := congrArg (fun x : List UInt8 => x[0]?) h.tx
 simpa using this
theorem Ln.has.lt {l : Ln} {c : UInt8} {r : List UInt8} (h : l.has c r) : l.i < l.text.length := by
 have := congrArg List.length h.tx
 simp at this; omega
theorem Ln.has.next {l : Ln} {c d : UInt8} {r : List UInt8} (h : l.has c (d :: r)) : ({ l with i := l.i + 1 } : Ln).has d r := by
 have hlt := congrArg List.length h.tx
 simp at hlt
 refine ⟨⟨by show l.i + 1 ≤ l.text.length; omega, by show l.tab ≤ l.i + 1; have := h.ok.tab; omega, h.ok.len, h.ok.sp⟩, h.sp, ?_⟩
 show l.text.drop (l.i + 1) = d :: r
 have := congrArg (List.drop 1) h.tx
 rw [List.drop_drop] at this
 simpa [Nat.add_comm] using this
theorem Ln.has.tsGo {l : Ln} {c : UInt8} {r : List UInt8} (h : l.has c r) (hc : isST c = false) (mn k n : Nat) (e : Bool) : l.tsGo mn e (k + 1) n = if mn ≤ n then some l else none := by
 simp only [isST, Bool.or_eq_false_iff, beq_eq_false_iff_ne, ne_eq] at hc
 have hlt := h.lt
 simp [Ln.tsGo, h.sp, h.get, hc.1, hc.2, Nat.not_le.2 hlt]
theorem Ln.has.sp1 {l : Ln} {r : List UInt8} {mn : Nat} {e : Bool} (h : l.has 32 r) : l.trimSp mn 1 e = some { l with i := l.i + 1 } := by
 have hlt := h.lt
 simp [Ln.trimSp, Ln.tsGo, h.sp, h.get, Nat.not_le.2 hlt]
theorem Ln.has.lead {l : Ln} {c : UInt8} {r : List UInt8} (h : l.has c r) (hc : isST c = false) (k : Nat) (e : Bool) : l.lead (k + 1) e = l := by
 unfold Ln.lead Ln.trimSp; rw [h.tsGo hc]; rfl
theorem Ln.has.strip {l : Ln} {c : UInt8} {r : List UInt8} (h : l.has c r) (hc : isST c = false) : l.strip 3 0 = (0, l) := by
 simp only [Ln.strip, Ln.trimSp]; rw [h.tsGo hc]; rfl
theorem Ln.has.peek {l : Ln} {c : UInt8} {r : List UInt8} (h : l.has c r) : l.peek = c := by
 unfold Ln.peek
 rw [h.sp, if_neg (by decide), List.getD_eq_getElem?_getD, h.get]; rfl
theorem Ln.has.trimC {l : Ln} {c : UInt8} {r : List UInt8} (h : l.has c r) (d : UInt8) : l.trimC d = if c = d then some { l with i := l.i + 1 } else none := by
 unfold Ln.trimC
 rw [h.sp, if_neg (by decide), h.get]
 simp
theorem Ln.has.blank {l : Ln} {c : UInt8} {r : List UInt8} (h : l.has c r) (hc : isST c = false) : l.blank = false := by
 unfold Ln.blank
 rw [h.tx, List.all_cons, hc]; rfl
theorem Ln.has.plain {l : Ln} {c : UInt8} {r : List UInt8} (h : l.has c r) (hc : plainStart c = true) : l.plain := by
 simp only [plainStart, Bool.and_eq_true, Bool.not_eq_true', bne_iff_ne, ne_eq] at hc
 obtain ⟨⟨h0, h60⟩, hbu⟩ := hc
 have hst := plainStart0_st h0
 simp only [plainStart0, Bool.not_eq_true', Bool.or_eq_false_iff, beq_eq_false_iff_ne, ne_eq] at h0
 obtain ⟨⟨⟨⟨⟨⟨⟨⟨_, h62⟩, h35⟩, h95⟩, h96⟩, h126⟩, h61⟩, h45⟩, h42⟩ := h0
 have hlead : ∀ e, l.lead 3 e = l := h.lead hst 2
 have hpk : (l.lead 3 false).peek = c := by rw [hlead]; exact h.peek
 refine ⟨h.ok, h.blank hst, ?_, ?_, ?_, LDecl.of_peek h.ok (by rw [h.strip hst, h.peek]; exact hbu), HDecl.of_peek h.ok (by rw [hpk]; exact h60), ?_, ?_⟩
 ·unfold Ln.quote; rw [hlead, h.trimC, if_neg h62]; rfl
 ·unfold Ln.heading; rw [hlead, h.trimC, if_neg h35]
 ·unfold Ln.isHR
  simp only [hlead, h.peek]
  rw [if_neg]
  rintro (hh | hh | hh)
  ·exact h45 hh
  ·exact h95 hh
  ·exact h42 hh
 ·rw [h.strip hst, h.peek]; exact ⟨h96, h126⟩
 ·unfold Ln.trimSp; rw [h.tsGo hst]; rfl
theorem Ln.has.bullet {l : Ln} {c d : UInt8} {r : List UInt8} (h : l.has c (32 :: d :: r)) (hc : c = 45 ∨ c = 42 ∨ c = 43) (hd : isST d = false) : l.bullet = some (c, 2, { l with i := l.i + 2 }) := by
 have hst : isST c = false := by rcases hc with rfl | rfl | rfl <;> decide
 have h2 := h.next.next
 unfold Ln.bullet
 rw [h.strip hst]
 simp only [h.peek]
 rw [if_pos hc, h.trimC, if_pos rfl]
 show (match (Ln.trimSp 1 1 true _) with | none => none | some t2 => _) = _
 rw [h.next.sp1]
 simp only
 rw [h2.strip hd]
 simp only
 have : Ln.trimSp 1 1 true ({ l with i := l.i + 1 + 1 } : Ln) = none := by
  unfold Ln.trimSp; rw [h2.tsGo hd]; rfl
 rw [this]
theorem drop_suffix {u s : List UInt8} (h : u <:+ s) : s.drop (s.length - u.length) = u := by
 obtain ⟨a, rfl⟩ := h
 rw [List.length_append, Nat.add_sub_cancel, List.drop_left]
theorem decl_bullet {b : Nat} {p : PS} {M : List Chunk} {l : Ln} {c : UInt8} {r : List UInt8} (hS : Decl b p M l i_newSetextHeading) (h : l.has c r) (hc : MarkC c) (hHR : l.isHR = false) : ∀ j (hj : j < newsF.length), j < 4 → Decl b p M l newsF[j] := by
 obtain ⟨hst, h62, h35⟩ := hc
 intro j hj h4
 match j, h4 with
 | 0, _ => exact fun σ w L R hS hR => newQuote_no (x := .nilIface) hS h.ok (by unfold Ln.quote; rw [h.lead hst 2, h.trimC, if_neg h62]; rfl) hR
 | 1, _ => exact fun σ w L R hS hR => newATX_no hS h.ok (by unfold Ln.heading; rw [h.lead hst 2, h.trimC, if_neg h35]) hR
 | 2, _ => exact hS
 | 3, _ => exact fun σ w L R hS hR => newHR_no hS h.ok hHR hR
end Go.Proofs.YtgbgadkldalkbaaGreatDoor


set_option linter.unusedVariables false
namespace Go.Proofs.YtgbgadkldalkbaaGreatDoor
open Go.Proofs Go.IntWalk Go.RowKit
variable {σ : Out} {w : World} {L L' : List Chunk} {R : Ending → World → Prop}
def Runs (R : Ending → World → Prop) (Xb : OA → Nat → WP) (b b1 : Nat) : Prop :=
 ∀ w, (∀ X : OA → Nat → WP, (∀ x0 x3 w, g_parseState_addLine.bl102 R X x0 x3 w → X x0 x3 w) → g_parseState_addLine.bl102 R X (some ⟨b, 0, none⟩) b1 w) → Xb (some ⟨b, 0, none⟩) b1 w
theorem Runs.top (b b1 : Nat) : Runs R (g_parseState_addLine.l102 R) b b1 := fun w H X hX => hX _ _ _ (H X hX)
theorem pushListC {Xb : OA → Nat → WP} {b b1 : Nat} {gs : List Bk} {top : Bk} {p : PS} {l l2 : Ln} {r r2 : List UInt8} {x c d : UInt8} {num n : Nat} {ty : TypeId} {v : Value} (hXb : Runs R Xb b b1) (h : DocC σ b (l.at b1 :: L) (gs ++ [top]) .none p w) (hd : p.depth = gs.length) (hgl : gs.length < 100000)
 (hbd : top.ob.bd = .iface ty v) (h1 : ty ≠ ty_P_paraBuilder) (h2 : ty ≠ ty_P_listBuilder) (hl : l.has x r) (hc : MarkC x) (hHR : l.isHR = false) (hbul : Marks l c num n l2) (hl2 : l2.has d r2) (hst : isST d = false) (hno : p.lineno < 1000000000)
 (hX : ∀ (X : OA → Nat → WP), (∀ x0 x3 w, g_parseState_addLine.bl102 R X x0 x3 w → X x0 x3 w) → ∀ w (p' : PS) f g lb it, p'.base = p.base → p'.lineno = p.lineno → p'.depth = p.depth + 2 → f.isList lb c.toNat (num : Nat) it → f.D = [] → ItemOf it g lb n true → g.D = [] → f.ob.s = p.lineno → g.ob.s = p.lineno → g.ob.e = p.lineno → DocC σ b (l2.at b1 :: L) (gs ++ [top] ++ [f, g]) .none p' w → X (some ⟨b, 0, none⟩) b1 w) :
 g_parseState_addLine.bl102 R Xb (some ⟨b, 0, none⟩) b1 w := by
 obtain ⟨M, TM, lobs, LM, hs, ht, hok, ⟨rfl, rfl⟩, h⟩ := h
 have hs : Stk p (gs.map Bk.ob ++ [top.ob]) M := by simpa using hs
 have hcst : isST x = false := hc.1
 have hb2 := hl2.blank hst
 have h : Sat σ w (p.at b :: M ++ (l.at b1 :: (TM ++ (memFs (gs ++ [top]) ++ L)))) := h.re
 refine bl102_pass (l2 := l) 4 (by decide) h (decl_bullet (fun σ w L R hS hR => newSetext_no hS hs (by rw [hd]) (by simp) hbd h1 hl.ok hR) hl hc hHR) hl.ok (hl.blank hcst) fun w nb e R' h hk => ?_
 show callE P i_newListItem _ R' w
 refine newList_first h hs (by rw [hd]; simp) (by simp; omega) hbd h1 h2 hl.ok hbul fun w p' M' lb x2 x5 x15 x18 ib hp' hs' h => ?_
 have hd' : p'.depth = gs.length := by rw [hp']; exact hd
 rw [hb2, show (!false) = true from rfl] at h
 have h : Sat σ w (l.at b1 :: p'.at b :: (M' ++ (lisC lb c.toNat (num : Nat) false none (cloV x2 x18 x15 x5) :: (x2, cel [.pointer (some ⟨b, 0, none⟩)] ty_P_parseState) :: l2.at x5 :: lptC x15 lb :: iptC x18 ib :: iteC ib lb n true :: ((nb, cel newsC e) :: (TM ++ (memFs (gs ++ [top]) ++ L)))))) := h.re
 refine hk w _ p' (by omega) h fun w h => ?_
 refine hXb w fun X hX' => ?_
 let p3 : PS := { p' with depth := p'.depth + 1 }
 have hs3 : Stk p3 (gs.map Bk.ob ++ [top.ob] ++ [⟨lisV lb, none, 0, 0, p.lineno, p.lineno⟩]) M' := hs'.of rfl rfl rfl
 have hd3 : p3.depth = (gs.map Bk.ob ++ [top.ob]).length := by show p'.depth + 1 = _; rw [hd']; simp
 have h : Sat σ w (l.at b1 :: p3.at b :: (M' ++ (lisC lb c.toNat (num : Nat) false none (cloV x2 x18 x15 x5) :: (x2, cel [.pointer (some ⟨b, 0, none⟩)] ty_P_parseState) :: l2.at x5 :: lptC x15 lb :: iptC x18 ib :: iteC ib lb n true :: ((nb, cel newsC e) :: (TM ++ (memFs (gs ++ [top]) ++ L)))))) := h
 have h : Sat σ w (p3.at b :: M' ++ (l.at b1 :: (lisC lb c.toNat (num : Nat) false none (cloV x2 x18 x15 x5) :: (x2, cel [.pointer (some ⟨b, 0, none⟩)] ty_P_parseState) :: l2.at x5 :: lptC x15 lb :: iptC x18 ib :: iteC ib lb n true :: ((nb, cel newsC e) :: (TM ++ (memFs (gs ++ [top]) ++ L)))))) := h.re
 refine bl102_pass (l2 := l2) 4 (by decide) h (decl_bullet (fun σ w L R hS hR => newSetext_no hS hs3 hd3 rfl rfl (by decide) hl.ok hR) hl hc hHR) hl2.ok hb2 fun w nb2 e2 R2 h hk2 => ?_
 show callE P i_newListItem _ R2 w
 have h : Sat σ w (p3.at b :: M' ++ (lisC lb c.toNat (num : Nat) false none (cloV x2 x18 x15 x5) :: (x2, cel [.pointer (some ⟨b, 0, none⟩)] ty_P_parseState) :: l2.at x5 :: lptC x15 lb :: iptC x18 ib :: iteC ib lb n true :: (l.at b1 :: (nb2, cel newsC e2) :: (nb, cel newsC e) :: (TM ++ (memFs (gs ++ [top]) ++ L))))) := h.re
 refine newList_todo (l := l) h hs3 hd3 (by simp; omega) rfl fun w p4 M4 hp4 hs4 h => ?_
 have hd4 : p4.depth = gs.length + 1 := by rw [hp4]; show p'.depth + 1 = _; rw [hd']
 have hl4 : p4.lineno = p.lineno := by rw [hp4]; show p'.lineno = _; rw [hp']
 have h : Sat σ w (l.at b1 :: p4.at b :: (M4 ++ (lisC lb c.toNat (num : Nat) false (some ⟨ib, 0, none⟩) .nilFunc :: iteC ib lb n true :: ((nb2, cel newsC e2) :: (nb, cel newsC e) :: (TM ++ (memFs (gs ++ [top]) ++ L)))))) := h.re
 refine hk2 w _ p4 (by omega) h fun w h => ?_
 have hln3 : p3.lineno = p.lineno := by show p'.lineno = _; rw [hp']
 rw [hln3] at hs4
 refine hX X hX' w { p4 with depth := p4.depth + 1 } ⟨⟨lisV lb, none, 0, 0, p.lineno, p.lineno⟩, [lisC lb c.toNat (num : Nat) false (some ⟨ib, 0, none⟩) .nilFunc], [], []⟩ ⟨⟨iteV ib, none, 0, 0, p.lineno, p.lineno⟩, [iteC ib lb n true], [], []⟩ lb (some ⟨ib, 0, none⟩)
  (by rw [hp4]; show p'.base = _; rw [hp']; rfl) hl4 (by show p4.depth + 1 = _; rw [hd4, hd]; omega) ⟨rfl, rfl⟩ rfl ⟨ib, rfl, rfl, rfl⟩ rfl rfl rfl rfl ?_
 refine ⟨M4, TM, [], [], ?_, ?_, ?_, ⟨rfl, rfl⟩, ?_⟩
 ·rw [List.append_nil]
  have e : (gs ++ [top] ++ [(⟨⟨lisV lb, none, 0, 0, p.lineno, p.lineno⟩, [lisC lb c.toNat (num : Nat) false (some ⟨ib, 0, none⟩) .nilFunc], [], []⟩ : Bk), ⟨⟨iteV ib, none, 0, 0, p.lineno, p.lineno⟩, [iteC ib lb n true], [], []⟩]).map Bk.ob = gs.map Bk.ob ++ [top.ob] ++ [⟨lisV lb, none, 0, 0, p.lineno, p.lineno⟩] ++ [⟨iteV ib, none, 0, 0, p.lineno, p.lineno⟩] := by simp
  rw [e]
  exact hs4.of rfl rfl rfl
 ·rw [txF_append, txF_two]
  show Txts _ ((txF (gs ++ [top]) ++ ([] ++ [])).map TX.t) TM
  rw [List.append_nil, List.append_nil]
  exact ht.of (by show p4.tq = _; rw [hp4]; show p'.tq = _; rw [hp']) (by show p4.tn = _; rw [hp4]; show p'.tn = _; rw [hp']) (by show p4.tc = _; rw [hp4]; show p'.tc = _; rw [hp'])
 ·intro g hg
  rcases List.mem_append.1 hg with hg | hg
  ·exact hok g hg
  ·rcases List.mem_cons.1 hg with rfl | hg
   ·exact ⟨Sl.nil 1 ty_Block, by simp, hno, hno⟩
   ·obtain rfl := List.mem_singleton.1 hg
    exact ⟨Sl.nil 1 ty_Block, by simp, hno, hno⟩
 ·rw [memFs_append (gs ++ [top]), memFs_two]
  show Sat σ w (_ :: M4 ++ (TM ++ (memFs (gs ++ [top]) ++ (([] ++ ([lisC lb c.toNat (num : Nat) false (some ⟨ib, 0, none⟩) .nilFunc] ++ ([] ++ []))) ++ ([] ++ ([iteC ib lb n true] ++ ([] ++ [])))) ++ ([] ++ (l2.at b1 :: L)))))
  exact h.less [(nb, cel newsC e), (nb2, cel newsC e2)]
theorem pushParaC {Xb : OA → Nat → WP} {b b1 pb : Nat} {op : Opt} {gs : List Bk} {top : Bk} {p : PS} {l : Ln} {ty : TypeId} {v : Value} (h : DocC σ b (l.at b1 :: L) (gs ++ [top]) .none p w) (hd : p.depth = gs.length) (hgl : gs.length < 100000)
 (hbd : top.ob.bd = .iface ty v) (h1 : ty ≠ ty_P_paraBuilder) (h2 : ty ≠ ty_P_listBuilder) (hl : l.plain) (hpz : p.pz = some ⟨pb, 0, none⟩) (hop : op.at pb ∈ L) (hno : p.lineno < 1000000000)
 (hR : ∀ w (p' : PS), p'.base = p.base → p'.lineno = p.lineno → DocC σ b L (gs ++ [top]) (.para [l.rest]) p' w → R (.returned (.tuple #[])) w) :
 g_parseState_addLine.bl102 R Xb (some ⟨b, 0, none⟩) b1 w := by
 obtain ⟨M, TM, lobs, LM, hs, ht, hok, ⟨rfl, rfl⟩, h⟩ := h
 have hs : Stk p (gs.map Bk.ob ++ [top.ob]) M := by simpa using hs
 have hd' : p.depth = (gs.map Bk.ob).length := by rw [hd]; simp
 have h : Sat σ w (p.at b :: M ++ (l.at b1 :: (TM ++ (memFs (gs ++ [top]) ++ L)))) := h.re
 refine bl102_decl h (decl_all hs hd' hbd h1 h2 hl) fun w nb e R' h hk => ?_
 refine newPara_new (op := op) h hs hpz (by simp [hop]) hd' hbd h1 hl.ok (by simp; omega) fun w p' M' qb PM hp' hs' hPM h => ?_
 refine hk w true ?_
 refine hR w p' (by rw [hp']; rfl) (by rw [hp']) ⟨M', TM, [paraOB qb p.lineno p.lineno], PM, ?_, ht.of (by rw [hp']) (by rw [hp']) (by rw [hp']), hok, ⟨qb, p.lineno, p.lineno, rfl, hPM, hno, by simp, by simp⟩, ?_⟩
 ·rw [List.map_append]; exact hs'
 ·exact h.less [l.at b1, (nb, cel newsC e)]
end Go.Proofs.YtgbgadkldalkbaaGreatDoor


set_option linter.unusedVariables false
namespace Go.Proofs.YtgbgadkldalkbaaGreatDoor
open Go.Proofs Go.IntWalk Go.RowKit
variable {σ : Out} {w : World} {L L' : List Chunk} {R : Ending → World → Prop}
theorem dropST_has {d : UInt8} (hd : isST d = false) (r : List UInt8) : ∀ m : List UInt8, ∃ m3, (m ++ d :: r).dropWhile isST = m3 ++ d :: r
 | [] => ⟨[], by simp [hd]⟩
 | x :: m => by
  rw [List.cons_append, List.dropWhile_cons]
  split
  ·exact dropST_has hd r m
  ·exact ⟨x :: m, rfl⟩
theorem Ln.hrGo_has {c d : UInt8} {r : List UInt8} : ∀ (f n : Nat) (l : Ln), l.ok → l.sp = 0 → (∃ m, l.text.drop l.i = m ++ d :: r) → d ≠ c → isST d = false → l.hrGo c f n = false
 | 0, _, _, _, _, _, _, _ => rfl
 | f + 1, n, l, hl, hsp, ⟨m, hm⟩, hdc, hd => by
  cases m with
  | nil =>
   have h : l.has d r := ⟨hl, hsp, hm⟩
   have := h.lt
   simp only [Ln.hrGo]
   rw [h.trimC, if_neg hdc]
   simp; omega
  | cons x m =>
   have h : l.has x (m ++ d :: r) := ⟨hl, hsp, by rw [hm]; rfl⟩
   have hlt := h.lt
   simp only [Ln.hrGo]
   rw [h.trimC]
   by_cases hx : x = c
   ·rw [if_pos hx]
    simp only
    have hnx : ∃ y m2, m ++ d :: r = y :: m2 := by cases m with | nil => exact ⟨_, _, rfl⟩ | cons y m2 => exact ⟨_, _, rfl⟩
    obtain ⟨y, m2, hy⟩ := hnx
    have h1 := (hy ▸ h : l.has x (y :: m2)).next
    have hdrop : ({ l with i := l.i + 1 } : Ln).text.drop (l.i + 1) = m ++ d :: r := by rw [hy]; exact h1.tx
    have hsk := Ln.skip_ok h1.ok
    refine Ln.hrGo_has (r := r) f (n + 1) _ hsk rfl ?_ hdc hd
    show ∃ m3, l.text.drop (({ l with i := l.i + 1 } : Ln).skip.i) = m3 ++ d :: r
    have e : l.text.drop (l.i + 1) = m ++ d :: r := hdrop
    have hi : ({ l with i := l.i + 1 } : Ln).skip.i = l.text.length - ((m ++ d :: r).dropWhile isST).length := by
     simp only [Ln.skip, e]
    rw [hi, drop_suffix ((List.dropWhile_suffix _).trans (e ▸ List.drop_suffix _ _))]
    exact dropST_has hd r m
   ·rw [if_neg hx]
    simp; omega
theorem Ln.has.noHR {l : Ln} {c d : UInt8} {r m r2 : List UInt8} (h : l.has c r) (hc : isST c = false) (hm : c :: r = m ++ d :: r2) (hd : isST d = false) (hdc : d ≠ 45 ∧ d ≠ 95 ∧ d ≠ 42) : l.isHR = false := by
 unfold Ln.isHR
 simp only [h.lead hc 2, h.peek]
 split
 ·rename_i hh
  refine Ln.hrGo_has _ _ l h.ok h.sp ⟨m, by rw [h.tx, hm]⟩ ?_ hd
  rcases hh with rfl | rfl | rfl
  ·exact hdc.1
  ·exact hdc.2.1
  ·exact hdc.2.2
 ·rfl
end Go.Proofs.YtgbgadkldalkbaaGreatDoor


set_option linter.unusedVariables false
namespace Go.Proofs.YtgbgadkldalkbaaGreatDoor
open Go.Proofs Go.IntWalk Go.RowKit
variable {σ : Out} {w : World} {L L' : List Chunk} {R : Ending → World → Prop}
theorem callE.mono {f : FuncId} {args : Array Value} {R R' : Ending → World → Prop} (h : callE P f args R w) (hr : ∀ e w, R e w → R' e w) : callE P f args R' w :=
 h.imp (fun ⟨a, c⟩ => ⟨a, c.mono hr⟩) fun ⟨v, w', h1, h2⟩ => ⟨v, w', h1, hr _ _ h2⟩
theorem addBlock_gen {b : Nat} {p : PS} {K : List Chunk} {t : TypeId} {v : Value} (h : Sat σ w (p.at b :: K)) (hd : 0 ≤ p.depth ∧ p.depth < 1000000)
 (hT : ∀ w, Sat σ w (p.at b :: K) → callE P i_parseState_trimStack #[.pointer (some ⟨b, 0, none⟩), .int .i64 (p.depth + 1)] (fun e w => e = .returned (.tuple #[]) ∧ ∃ (p1 : PS) (l : List OB) (M L : List Chunk), Stk p1 l M ∧ l.length < 1048575 ∧ Sat σ w (p1.at b :: M ++ L) ∧
  ∀ w (p' : PS) M', p' = { p1 with stq := p'.stq, stn := l.length + 1, stc := p'.stc } → Stk p' (l ++ [⟨.iface t v, none, 0, 0, p1.lineno, p1.lineno⟩]) M' → Sat σ w (p'.at b :: M' ++ L) → R (.returned (.tuple #[])) w) w) :
 callE P i_parseState_addBlock #[.pointer (some ⟨b, 0, none⟩), .iface t v] R w := by
 refine g_parseState_addBlock.sound ?_
 repeat (first | refine nilP_some ?_ | refine h.tk fun w h => ?_ | refine ⟨_, h.ldA, ?_⟩ | refine ⟨_, _, _, h.ldA, ?_⟩)
 rw [i64_in _ (by omega)]
 refine (hT w h).mono fun e w hh => ⟨hh.1, ?_⟩
 obtain ⟨_, p1, l, M, L, hs, hl, h, hR⟩ := hh
 have hn := hs.2.1
 repeat (first | refine nilP_some ?_ | refine h.tk fun w h => ?_ | refine ⟨_, h.ldA, ?_⟩ | refine ⟨_, _, _, h.ldA, ?_⟩)
 have h : Sat σ w (M ++ (p1.at b :: L)) := h.re
 refine Sat.app1 rowOB hs.1 h (v := .agg #[.nilIface, .slice none 0 0, .int .i64 0, .int .i64 0]) rfl (by decide) (by kernel_rfl) (by omega) (by omega) (by decide) fun q' c' w M' hs' h => ?_
 have h : Sat σ w (p1.at b :: M' ++ L) := h.re
 let p' : PS := { p1 with stq := q', stn := l.length + 1, stc := c' }
 rw [hn] at hs' ⊢
 (first | refine nilP_some ?_ | refine h.tk fun w h => ?_ | refine ⟨_, h.ldA, ?_⟩ | refine ⟨_, _, _, h.ldA, ?_⟩ | refine h.stA 0 fun w h => ?_ | refine h.stA 1 fun w h => ?_ | refine h.stA 2 fun w h => ?_ | refine h.stA 3 fun w h => ?_ | refine h.stA 4 fun w h => ?_ | refine h.stA 5 fun w h => ?_ | refine h.stA 6 fun w h => ?_ | refine h.bx fun b0 w h => ?_)
 (first | refine nilP_some ?_ | refine h.tk fun w h => ?_ | refine ⟨_, h.ldA, ?_⟩ | refine ⟨_, _, _, h.ldA, ?_⟩ | refine h.stA 0 fun w h => ?_ | refine h.stA 1 fun w h => ?_ | refine h.stA 2 fun w h => ?_ | refine h.stA 3 fun w h => ?_ | refine h.stA 4 fun w h => ?_ | refine h.stA 5 fun w h => ?_ | refine h.stA 6 fun w h => ?_ | refine h.bx fun b0 w h => ?_)
 have h : Sat σ w (p'.at b :: M' ++ L) := h
 have hs2 : Stk p' (l ++ [⟨.nilIface, none, 0, 0, 0, 0⟩]) M' := by
  refine ⟨?_, by simp [p'], by simp; omega⟩
  rw [obCells_snoc]
  exact hs'
 obtain ⟨sb, sp, hq, rfl, hsp⟩ := hs2.split (by simp)
 repeat (first | refine nilP_some ?_ | refine h.tk fun w h => ?_ | refine ⟨_, h.ldA, ?_⟩ | refine ⟨_, _, _, h.ldA, ?_⟩)
 rw [show p'.stn = l.length + 1 from rfl, len_dec (by omega)]
 refine ⟨by omega, by omega, ?_⟩
 rw [hq]
 refine nilP_some ?_
 dsimp only [cellV]
 simp only [Addr.add_lit, Nat.zero_add, Int.toNat_natCast, Nat.add_zero]
 have hlen : ∀ (o : OB) (sp : List Value) f, f < 4 → l.length * 4 + f < (obCells (l ++ [o]) ++ sp).length := by
  intro o sp f hf
  rw [List.length_append, obCells_length, List.length_append, List.length_singleton]; omega
 refine Sat.st h (k := 1) rfl (by have := hlen ⟨.nilIface, none, 0, 0, 0, 0⟩ sp 0 (by decide); simpa using this) trivial rfl fun w h => ?_
 have h : Sat σ w (p'.at b :: [(sb, cel (obCells (l ++ [⟨.iface t v, none, 0, 0, 0, 0⟩]) ++ sp) ty_openBlock)] ++ L) := by
  have e := stk_set (l := l) (sp := sp) (o := ⟨.nilIface, none, 0, 0, 0, 0⟩) (o' := ⟨.iface t v, none, 0, 0, 0, 0⟩) (f := 0) (v := .iface t v) (by decide) rfl
  rw [Nat.add_zero] at e
  rw [e] at h
  exact h
 repeat (first | refine nilP_some ?_ | refine h.tk fun w h => ?_ | refine ⟨_, h.ldA, ?_⟩ | refine ⟨_, _, _, h.ldA, ?_⟩)
 refine Sat.st h (k := 1) rfl (hlen _ sp 2 (by decide)) trivial rfl fun w h => ?_
 have h : Sat σ w (p'.at b :: [(sb, cel (obCells (l ++ [⟨.iface t v, none, 0, 0, p1.lineno, 0⟩]) ++ sp) ty_openBlock)] ++ L) := by
  have e := stk_set (l := l) (sp := sp) (o := ⟨.iface t v, none, 0, 0, 0, 0⟩) (o' := ⟨.iface t v, none, 0, 0, p1.lineno, 0⟩) (f := 2) (v := .int .i64 p1.lineno) (by decide) rfl
  have h := h
  rw [e] at h
  exact h
 repeat (first | refine nilP_some ?_ | refine h.tk fun w h => ?_ | refine ⟨_, h.ldA, ?_⟩ | refine ⟨_, _, _, h.ldA, ?_⟩)
 refine Sat.st h (k := 1) rfl (hlen _ sp 3 (by decide)) trivial rfl fun w h => ?_
 have h : Sat σ w (p'.at b :: [(sb, cel (obCells (l ++ [⟨.iface t v, none, 0, 0, p1.lineno, p1.lineno⟩]) ++ sp) ty_openBlock)] ++ L) := by
  have e := stk_set (l := l) (sp := sp) (o := ⟨.iface t v, none, 0, 0, p1.lineno, 0⟩) (o' := ⟨.iface t v, none, 0, 0, p1.lineno, p1.lineno⟩) (f := 3) (v := .int .i64 p1.lineno) (by decide) rfl
  have h := h
  rw [e] at h
  exact h
 refine hR _ p' _ rfl ?_ h
 refine Stk.mk' hq ?_ (by simp [p']) (by simp; omega)
 rw [← hsp, List.length_append, List.length_append, obCells_length, obCells_length, List.length_append, List.length_append]
 rfl
end Go.Proofs.YtgbgadkldalkbaaGreatDoor


set_option linter.unusedVariables false
namespace Go.Proofs.YtgbgadkldalkbaaGreatDoor
open Go.Proofs Go.IntWalk Go.RowKit
variable {σ : Out} {w : World} {L L' : List Chunk} {R : Ending → World → Prop}
def noNL (l : List UInt8) : Prop := 10 ∉ l ∧ 13 ∉ l
inductive LinesOf : List UInt8 → List (List UInt8 × UInt8) → Prop where
 | nil : LinesOf [] []
 | last {l : List UInt8} : l ≠ [] → noNL l → LinesOf l [(l, 0)]
 | cons {l t : List UInt8} {ls : List (List UInt8 × UInt8)} : noNL l → LinesOf t ls → LinesOf (l ++ 10 :: t) ((l, 10) :: ls)
theorem LinesOf.no13 {t : List UInt8} {ls : List (List UInt8 × UInt8)} (h : LinesOf t ls) : 13 ∉ t := by
 induction h with
 | nil => simp
 | last h1 h2 => exact h2.2
 | cons h1 h2 ih =>
  simp only [List.mem_append, List.mem_cons, not_or]
  exact ⟨h1.2, by decide, ih⟩
theorem LinesOf.len {t : List UInt8} {ls : List (List UInt8 × UInt8)} (h : LinesOf t ls) : ls.length ≤ t.length := by
 induction h with
 | nil => simp
 | last h1 h2 => have := List.length_pos_iff.2 h1; simp; omega
 | cons h1 h2 ih => simp; omega
theorem findSub_first {A B : List UInt8} {c : UInt8} (hc : c ∉ A) : ∀ (k i : Nat), i + k = A.length → ∀ f, k < f → findSub [c] (A ++ c :: B) f i = some A.length
 | 0, i, hi, f + 1, _ => by
  obtain rfl : i = A.length := by omega
  simp only [findSub, List.length_singleton]
  rw [if_pos (by simp), List.drop_left, if_pos (by simp)]
 | k + 1, i, hi, f + 1, hf => by
  simp only [findSub, List.length_singleton]
  rw [if_pos (by simp; omega), if_neg]
  ·exact findSub_first hc k (i + 1) (by omega) f (by omega)
  ·intro he
   have hil : i < A.length := by omega
   rw [List.drop_append_of_le_length (by omega), List.drop_eq_getElem_cons hil, List.cons_append, List.take_succ_cons, List.take_zero] at he
   have he2 : A[i] = c := (List.cons.inj he).1
   exact hc (he2 ▸ List.getElem_mem hil)
theorem idx_first {A B : List UInt8} {c : UInt8} (hc : c ∉ A) : idx (A ++ c :: B) [c] = some A.length := by
 unfold idx
 exact findSub_first hc A.length 0 (by omega) _ (by simp; omega)
end Go.Proofs.YtgbgadkldalkbaaGreatDoor


set_option linter.unusedVariables false
namespace Go.Proofs.YtgbgadkldalkbaaGreatDoor
open Go.Proofs Go.IntWalk Go.RowKit
variable {σ : Out} {w : World} {L L' : List Chunk} {R : Ending → World → Prop}
def Bk.isRoot (f : Bk) : Prop := ∃ rb, f.ob.bd = rootV rb ∧ f.own = [(rb, cel [] ty_rootBuilder)]
def StepC (L0 : List Chunk) (op : Opt) (n : Nat) (l : List UInt8) (nl : UInt8) (fs : List Bk) (lf : Leaf) (J : List Bk → Leaf → Prop) : Prop :=
 ∀ (σ : Out) (R : Ending → World → Prop) (L : List Chunk) (b pb : Nat) (p : PS) (w : World), (∀ c ∈ L0, c ∈ L) → op.at pb ∈ L → p.pz = some ⟨pb, 0, none⟩ → p.lineno = n → n < 1000000000 → DocC σ b L fs lf p w →
  (∀ w (p' : PS) fs' lf', p'.base = p.base → p'.lineno = p.lineno → J fs' lf' → DocC σ b L fs' lf' p' w → R (.returned (.tuple #[])) w) → callE P i_parseState_addLine #[.pointer (some ⟨b, 0, none⟩), (lnOf l nl).val] R w
theorem lines_okC {L0 : List Chunk} {op : Opt} {I : List (List UInt8 × UInt8) → Nat → List Bk → Leaf → Prop} (step : ∀ l nl rem n fs lf, I ((l, nl) :: rem) n fs lf → StepC L0 op (n + 1) l nl fs lf (I rem (n + 1))) (hL0 : ∀ c ∈ L0, c ∈ L) {X : OA → BA → Nat → WP} {b pb : Nat} {p0 : PS}
 (hX : ∀ x0 x1 x6 w, g_Parser_parse.bl1 R X x0 x1 x6 w → X x0 x1 x6 w) (hop : op.at pb ∈ L) (hpz : p0.pz = some ⟨pb, 0, none⟩)
 (hE : ∀ w (p : PS) fs lf, p.base = p0.base → I [] p.lineno fs lf → DocC σ b L fs lf p w → g_Parser_parse.bl1 R X (some ⟨pb, 0, none⟩) (bs []) b w) {text : List UInt8} {ls : List (List UInt8 × UInt8)} (hL : LinesOf text ls) :
 ∀ w (p : PS) fs lf, text.length < 1000000 → p.lineno + ls.length < 1000000000 → p.base = p0.base → I ls p.lineno fs lf → DocC σ b L fs lf p w → X (some ⟨pb, 0, none⟩) (bs text) b w := by
 have k3 : ∀ (l : List UInt8) (nl : UInt8) (t : List UInt8) (rem : List (List UInt8 × UInt8)) w (p : PS) fs lf, (∀ w (p : PS) fs lf, p.lineno + rem.length < 1000000000 → p.base = p0.base → I rem p.lineno fs lf → DocC σ b L fs lf p w → X (some ⟨pb, 0, none⟩) (bs t) b w) →
  p.lineno + rem.length + 1 < 1000000000 → p.base = p0.base → I ((l, nl) :: rem) p.lineno fs lf → DocC σ b L fs lf p w → g_Parser_parse.k3 R X (some ⟨pb, 0, none⟩) (bs t) b (bs l) (nl.toNat : Int) w := by
  intro l nl t rem w p fs lf next hno hb hI h
  obtain ⟨M, TM, lobs, LM, hs, ht, hok, hL, h⟩ := h
  unfold g_Parser_parse.k3
  refine ⟨_, Sat.ld h (.head _) (i := 3) rfl, ?_⟩
  rw [i64_inc (by omega)]
  refine h.stA 0 fun w h => ?_
  let p1 : PS := { p with lineno := p.lineno + 1 }
  have h : Sat σ w (p1.at b :: M ++ (TM ++ (memFs fs ++ (LM ++ L)))) := h
  have hb1 : p1.base = p0.base := hb
  have hpz1 : p1.pz = some ⟨pb, 0, none⟩ := by
   have := congrArg PS.pz hb1
   rw [show p1.pz = p0.pz from this]; exact hpz
  refine step l nl rem p.lineno fs lf hI σ _ L b pb p1 w hL0 hop hpz1 rfl (by omega) ⟨M, TM, lobs, LM, hs.of rfl rfl rfl, ht.of rfl rfl rfl, hok, hL, h⟩ fun w p2 fs' lf' h1 h2 h3 h4 => ⟨rfl, ?_⟩
  exact next w p2 fs' lf' (by rw [h2]; show p.lineno + 1 + _ < _; omega) (h1.trans hb1) (by rw [h2]; exact h3) h4
 induction hL with
 | nil =>
  intro w p fs lf hlen hno hb hI h
  exact hX _ _ _ _ (hE w p fs lf hb hI h)
 | @last l hne hnl =>
  intro w p fs lf hlen hno hb hI h
  have e10 : idxInt l [10] = -1 := by unfold idxInt; rw [idx_none hnl.1]
  have e13 : idxInt l [13] = -1 := by unfold idxInt; rw [idx_none hnl.2]
  refine hX _ _ _ _ (br_true (by rw [bs_toList]; simpa using hne) ?_)
  refine zzIndex_ok (sub := [10]) (by omega) (by decide) ⟨_, rfl, ?_⟩
  refine zzIndex_ok (sub := [13]) (by omega) (by decide) ⟨_, rfl, ?_⟩
  rw [e10, e13]
  refine br_false rfl (br_false rfl ?_)
  refine k3 l 0 [] [] w p fs lf ?_ (by simp at hno ⊢; omega) hb hI h
  intro w p fs lf hno hb hI h
  exact hX _ _ _ _ (hE w p fs lf hb hI h)
 | @cons l t ls hnl hLt ih =>
  intro w p fs lf hlen hno hb hI h
  have hl13 : 13 ∉ l ++ 10 :: t := (LinesOf.cons hnl hLt).no13
  have e10 : idxInt (l ++ 10 :: t) [10] = (l.length : Nat) := by unfold idxInt; rw [idx_first hnl.1]
  have e13 : idxInt (l ++ 10 :: t) [13] = -1 := by unfold idxInt; rw [idx_none hl13]
  have hlen' : (l ++ 10 :: t).length = l.length + t.length + 1 := by simp; omega
  refine hX _ _ _ _ (br_true (by rw [bs_toList]; simp [mk_toList]) ?_)
  refine zzIndex_ok (sub := [10]) (by omega) (by decide) ⟨_, rfl, ?_⟩
  refine zzIndex_ok (sub := [13]) (by omega) (by decide) ⟨_, rfl, ?_⟩
  rw [e10, e13]
  refine br_false rfl ?_
  refine br_true (by simp) ?_
  obtain ⟨M, TM, lobs, LM, hs, ht, hok, hL, h⟩ := h
  refine Sat.tk h fun w h => ?_
  rw [i64_inc (by omega), bs_size, Int.toNat_natCast, Int.toNat_natCast, bs_ext, bs_extract, List.drop_zero, List.take_left]
  refine ⟨by omega, by rw [hlen']; omega, by omega, by rw [hlen']; omega, ?_⟩
  have ed : (l ++ 10 :: t).drop (l.length + 1) = t := by rw [List.drop_append]; simp
  rw [ed]
  refine k3 l 10 t ls w p fs lf ?_ (by simp at hno ⊢; omega) hb hI ⟨M, TM, lobs, LM, hs, ht, hok, hL, h⟩
  intro w p fs lf hno hb hI h
  exact ih w p fs lf (by rw [hlen'] at hlen; omega) hno hb hI h
theorem trim_step {X : OA → Int → WP} {b k : Nat} {fs : List Bk} {lf : Leaf} {p : PS} (hX : ∀ x0 x1 w, g_parseState_trimStack.bl1 R X x0 x1 w → X x0 x1 w) (h : DocC σ b L fs lf p w) (hk : k < fs.length)
 (hc : callE P i_parseState_closeBlock #[.pointer (some ⟨b, 0, none⟩)] (fun e w6 => ∃ (r5 : Value), e = .returned r5 ∧ X (some ⟨b, 0, none⟩) (k : Int) w6) w) : X (some ⟨b, 0, none⟩) (k : Int) w := by
 obtain ⟨M, TM, lobs, LM, hs, ht, hok, hL, h⟩ := h
 have hn := hs.2.1
 rw [List.length_append, List.length_map] at hn
 refine hX _ _ _ (nilP_some ?_)
 refine ⟨_, _, _, h.ldA, ?_⟩
 rw [hn]
 exact br_true (by simp; omega) hc
theorem base_ln {p p' : PS} (h : p'.base = p.base) : p'.pz = p.pz := by have := congrArg PS.pz h; exact this
end Go.Proofs.YtgbgadkldalkbaaGreatDoor


set_option linter.unusedVariables false
namespace Go.Proofs.YtgbgadkldalkbaaGreatDoor
open Go.Proofs Go.IntWalk Go.RowKit
variable {σ : Out} {w : World} {L L' : List Chunk} {R : Ending → World → Prop}
theorem newSetext_ne {b d : Nat} {p : PS} {ob : List OB} {o o1 : OB} {M : List Chunk} {t t1 : TypeId} {v v1 : Value} {l : Ln} (h : Sat σ w (p.at b :: M ++ L)) (hs : Stk p (ob ++ [o]) M) (hd : p.depth = d) (hdb : d < 1000000)
 (ho1 : (ob ++ [o])[d + 1]? = some o1) (hb1 : o1.bd = .iface t1 v1) (ht1 : t1 ≠ ty_P_paraBuilder) (hb : o.bd = .iface t v) (hv : t = ty_P_paraBuilder → ∃ q, v = .pointer q) (hl : l.ok)
 (hR : ∀ w, Sat σ w (p.at b :: M ++ L) → R (.returned (.tuple #[l.val, .bool false])) w) : callE P i_newSetextHeading #[.pointer (some ⟨b, 0, none⟩), l.val] R w := by
 refine g_newSetextHeading.sound ?_
 refine Sat.bx h fun b1 w h => ?_
 refine Sat.bx h fun b3 w h => ?_
 refine Sat.bx h fun b5 w h => ?_
 repeat (first | refine nilP_some ?_ | refine h.tk fun w h => ?_ | refine ⟨_, h.ldA, ?_⟩ | refine ⟨_, _, _, h.ldA, ?_⟩ | refine h.stA 0 fun w h => ?_ | refine h.stA 1 fun w h => ?_ | refine h.stA 2 fun w h => ?_ | refine h.stA 3 fun w h => ?_ | refine h.stA 4 fun w h => ?_ | refine h.stA 5 fun w h => ?_ | refine h.stA 6 fun w h => ?_ | refine h.bx fun b0 w h => ?_)
 have h : Sat σ _ (l.at b0 :: (b5, cel [.int .i64 0] ty_int) :: zLn b3 :: l.at b1 :: (p.at b :: M ++ L)) := h
 have h : Sat σ _ (p.at b :: M ++ (l.at b0 :: (b5, cel [.int .i64 0] ty_int) :: zLn b3 :: l.at b1 :: L)) := h.re
 refine nextB_ok h hs hd (by omega) fun w h => ?_
 rw [ho1]
 refine ⟨_, rfl, ?_⟩
 have fin : ∀ (q : Option Addr) w, Sat σ w (p.at b :: M ++ (l.at b0 :: (b5, cel [.int .i64 0] ty_int) :: zLn b3 :: l.at b1 :: L)) → ∃ (r21 : Option Addr), Ending.returned (.pointer q) = .returned (.pointer r21) ∧
  ∃ (r23 : Bool), ∃ w24, (do eqGuard .eql ty_blockBuilder (.tmp 12) (.tmp 15) o1.bd (.iface ty_P_paraBuilder (.pointer r21)); binOp .eql ty_blockBuilder o1.bd (.iface ty_P_paraBuilder (.pointer r21))).run P w = .ok (.bool r23) w24 ∧
  br r23 (callE P i_line_trimSetext #[.pointer (some ⟨b0, 0, none⟩), .pointer (some ⟨b5, 0, none⟩)] (fun e w26 => ∃ (r25 : Bool), e = .returned (.bool r25) ∧ g_newSetextHeading.k1 R (some ⟨b, 0, none⟩) b1 b3 b5 r25 w26) w24) (g_newSetextHeading.k1 R (some ⟨b, 0, none⟩) b1 b3 b5 false w24) := by
  intro q w h
  refine ⟨q, rfl, false, w, by rw [hb1]; exact eq_iface_ne und_bb ht1 _ _ w, br_false rfl ?_⟩
  have h : Sat σ _ (zLn b3 :: l.at b1 :: (b5, cel [.int .i64 0] ty_int) :: l.at b0 :: (p.at b :: M ++ L)) := h.re
  refine br_false rfl ?_
  repeat (first | refine nilP_some ?_ | refine h.tk fun w h => ?_ | refine ⟨_, h.ldA, ?_⟩ | refine ⟨_, _, _, h.ldA, ?_⟩ | refine h.stA 0 fun w h => ?_ | refine h.stA 1 fun w h => ?_ | refine h.stA 2 fun w h => ?_ | refine h.stA 3 fun w h => ?_ | refine h.stA 4 fun w h => ?_ | refine h.stA 5 fun w h => ?_ | refine h.stA 6 fun w h => ?_ | refine h.bx fun b0 w h => ?_)
  have h : Sat σ _ (l.at b3 :: l.at b1 :: (b5, cel [.int .i64 0] ty_int) :: l.at b0 :: (p.at b :: M ++ L)) := h
  exact hR _ h.tail.tail.tail.tail
 refine top_ok h hs hb (fun w h => ?_) hv
 by_cases ht : t = ty_P_paraBuilder
 ·rw [if_pos ht]
  obtain ⟨q, rfl⟩ := hv ht
  exact fin q w h
 ·rw [if_neg ht]
  exact fin none w h
theorem und_PiB : P.underlying ty_P_itemBuilder = some (.pointer ty_itemBuilder) := by kernel_rfl
theorem slItem_same {b b1 lb d : Nat} {num : Int} {lo : Bool} {it : Option Addr} {td : Value} {p : PS} {ob : List OB} {o : OB} {M : List Chunk} {l t : Ln} {c : UInt8} {n1 n : Nat} (h : Sat σ w (l.at b1 :: (p.at b :: M ++ (lisC lb c.toNat num lo it td :: L)))) (hs : Stk p ob M) (hd : p.depth = d) (hdb : d < 1000000)
 (ho : ob[d + 1]? = some o) (hbd : o.bd = lisV lb) (hl : l.ok) (hb : Marks l c n1 n t)
 (hR : ∀ w x2 x5 x15 x18 ib, Sat σ w (l.at b1 :: (p.at b :: M ++ (lisC lb c.toNat num lo it (cloV x2 x18 x15 x5) :: (x2, cel [.pointer (some ⟨b, 0, none⟩)] ty_P_parseState) :: t.at x5 :: lptC x15 lb :: iptC x18 ib :: iteC ib lb n (!t.blank) :: L))) → R (.returned (.bool true)) w) :
 callE P i_parseState_startListItem #[.pointer (some ⟨b, 0, none⟩), .pointer (some ⟨b1, 0, none⟩)] R w := by
 have ht := hb.ok
 refine hb.run h fun w x5 x2 x12 t' h => ?_
 refine Sat.bx h fun x15 w h => ?_
 refine ⟨_, Sat.ld h (.tail _ (.tail _ (.head _))) (i := 0) rfl, ?_⟩
 have h : Sat σ w (p.at b :: M ++ ((x15, cel [.pointer none] ty_P_listBuilder) :: lisC lb c.toNat num lo it td :: (x2, cel [.pointer (some ⟨b, 0, none⟩)] ty_P_parseState) :: t.at x5 :: t'.at x12 :: l.at b1 :: L)) := h.re
 refine nextB_ok (d := d) h hs hd (by omega) fun w h => ⟨_, rfl, ?_⟩
 rw [ho]
 dsimp only
 refine ⟨some ⟨lb, 0, none⟩, true, w, by rw [hbd]; exact ta_list_list _ w, br_true rfl ?_⟩
 have h : Sat σ w ((x15, cel [.pointer none] ty_P_listBuilder) :: lisC lb c.toNat num lo it td :: (x2, cel [.pointer (some ⟨b, 0, none⟩)] ty_P_parseState) :: t.at x5 :: (p.at b :: M ++ (t'.at x12 :: l.at b1 :: L))) := h.re
 refine h.stA 0 fun w h => ?_
 have h : Sat σ w (lptC x15 lb :: lisC lb c.toNat num lo it td :: (x2, cel [.pointer (some ⟨b, 0, none⟩)] ty_P_parseState) :: t.at x5 :: (p.at b :: M ++ (t'.at x12 :: l.at b1 :: L))) := h
 refine ⟨_, Sat.ld h (.head _) (i := 0) rfl, _, _, ptrNil_eq und_PlB _ w, br_false rfl ?_⟩
 refine ⟨_, Sat.ld h (.head _) (i := 0) rfl, nilP_some ?_⟩
 refine ⟨_, Sat.ld h (.tail _ (.head _)) (i := 0) rfl, ?_⟩
 rw [i32_u8]
 refine br_false (by simp) ?_
 have h : Sat σ w (lisC lb c.toNat num lo it td :: t.at x5 :: lptC x15 lb :: (p.at b :: M ++ ((x2, cel [.pointer (some ⟨b, 0, none⟩)] ty_P_parseState) :: (t'.at x12 :: l.at b1 :: L)))) := h.re
 refine slItem_k13 h ht fun w x18 ib h => ?_
 refine hR w x2 x5 x15 x18 ib ?_
 exact h.less [t'.at x12]
theorem newList_again {b lb d : Nat} {num : Int} {lo : Bool} {it : Option Addr} {td : Value} {p : PS} {ob : List OB} {o0 o : OB} {M : List Chunk} {l t : Ln} {c : UInt8} {n1 n : Nat} {ty : TypeId} {v : Value} (h : Sat σ w (p.at b :: M ++ (lisC lb c.toNat num lo it td :: L))) (hs : Stk p ob M) (hd : p.depth = d) (hdb : d < 1000000)
 (ho0 : ob[d]? = some o0) (hb0 : o0.bd = .iface ty v) (htl : ty ≠ ty_P_listBuilder) (ho : ob[d + 1]? = some o) (hbd : o.bd = lisV lb) (hl : l.ok) (hb : Marks l c n1 n t)
 (hR : ∀ w x2 x5 x15 x18 ib, Sat σ w (p.at b :: M ++ (lisC lb c.toNat num lo it (cloV x2 x18 x15 x5) :: (x2, cel [.pointer (some ⟨b, 0, none⟩)] ty_P_parseState) :: t.at x5 :: lptC x15 lb :: iptC x18 ib :: iteC ib lb n (!t.blank) :: L)) → R (.returned (.tuple #[l.val, .bool true])) w) :
 callE P i_newListItem #[.pointer (some ⟨b, 0, none⟩), l.val] R w := by
 refine g_newListItem.sound ?_
 refine Sat.bx h fun b1 w h => ?_
 refine Sat.bx h fun b3 w h => ?_
 have h : Sat σ w (zLn b3 :: l.at b1 :: (p.at b :: M ++ (lisC lb c.toNat num lo it td :: L))) := h
 have h : Sat σ w (p.at b :: M ++ (zLn b3 :: l.at b1 :: lisC lb c.toNat num lo it td :: L)) := h.re
 refine curB_ok h hs hd fun w h => ?_
 rw [ho0]
 dsimp only
 refine ⟨_, rfl, none, false, w, by rw [hb0]; exact ta_listBuilder_no htl w, br_false rfl (br_false rfl ?_)⟩
 have h : Sat σ w (l.at b1 :: (p.at b :: M ++ (lisC lb c.toNat num lo it td :: (zLn b3 :: L)))) := h.re
 refine slItem_same h hs hd hdb ho hbd hl hb fun w x2 x5 x15 x18 ib h => ⟨_, rfl, br_true rfl ?_⟩
 have h : Sat σ w (zLn b3 :: l.at b1 :: (p.at b :: M ++ (lisC lb c.toNat num lo it (cloV x2 x18 x15 x5) :: (x2, cel [.pointer (some ⟨b, 0, none⟩)] ty_P_parseState) :: t.at x5 :: lptC x15 lb :: iptC x18 ib :: iteC ib lb n (!t.blank) :: L))) := h.re
 repeat (first | refine nilP_some ?_ | refine h.tk fun w h => ?_ | refine ⟨_, h.ldA, ?_⟩ | refine ⟨_, _, _, h.ldA, ?_⟩ | refine h.stA 0 fun w h => ?_ | refine h.stA 1 fun w h => ?_ | refine h.stA 2 fun w h => ?_ | refine h.stA 3 fun w h => ?_ | refine h.stA 4 fun w h => ?_ | refine h.stA 5 fun w h => ?_ | refine h.stA 6 fun w h => ?_ | refine h.bx fun b0 w h => ?_)
 have h : Sat σ _ (l.at b3 :: l.at b1 :: (p.at b :: M ++ (lisC lb c.toNat num lo it (cloV x2 x18 x15 x5) :: (x2, cel [.pointer (some ⟨b, 0, none⟩)] ty_P_parseState) :: t.at x5 :: lptC x15 lb :: iptC x18 ib :: iteC ib lb n (!t.blank) :: L))) := h
 exact hR _ x2 x5 x15 x18 ib h.tail.tail
def boxesC (b x2 x5 x15 x18 lb ib n : Nat) (hv : Bool) (t : Ln) : List Chunk := [(x2, cel [.pointer (some ⟨b, 0, none⟩)] ty_P_parseState), t.at x5, lptC x15 lb, iptC x18 ib, iteC ib lb n hv]
theorem todoC {b lb x2 x5 x15 x18 ib n : Nat} {bul num : Int} {hv : Bool} {p : PS} {gs : List Bk} {lst : Bk} {rest : List Bk} {it : Option Addr} {lf : Leaf} {l t : Ln} {Post : PS → Bk → Prop}
 (h : DocC σ b (boxesC b x2 x5 x15 x18 lb ib n hv t ++ L) (gs ++ lst :: rest) lf p w) (hlst : lst.isListT lb bul num it (cloV x2 x18 x15 x5)) (hd : p.depth = gs.length) (hgl : gs.length < 100000) (hno : p.lineno < 1000000000)
 (hT : ∀ (L : List Chunk) (R' : Ending → World → Prop) w, (∀ x ∈ boxesC b x2 x5 x15 x18 lb ib n hv t, x ∈ L) → DocC σ b L (gs ++ lst :: rest) lf p w → (∀ w (p1 : PS) lst' it', Post p1 lst' → p1.base = p.base → p1.lineno = p.lineno → p1.depth = p.depth → lst'.isListT lb bul num it' (cloV x2 x18 x15 x5) → DocC σ b L (gs ++ [lst']) .none p1 w → R' (.returned (.tuple #[])) w) →
  callE P i_parseState_trimStack #[.pointer (some ⟨b, 0, none⟩), .int .i64 ((gs.length : Int) + 1)] R' w)
 (hR : ∀ w (p' : PS) p1 lst' lst'' g, Post p1 lst' → p'.base = p.base → p'.lineno = p.lineno → p'.depth = p.depth → lst''.isListT lb bul num (some ⟨ib, 0, none⟩) .nilFunc → lst''.ob = lst'.ob → lst''.D = lst'.D → ItemOf (some ⟨ib, 0, none⟩) g lb n hv → g.D = [] → g.ob.s = p.lineno → g.ob.e = p.lineno → DocC σ b L (gs ++ [lst'', g]) .none p' w → R (.returned (.tuple #[t.val, .bool true])) w) :
 callE P i_newListItem #[.pointer (some ⟨b, 0, none⟩), l.val] R w := by
 have h00 := h
 obtain ⟨M, TM, lobs, LM, hs, ht, hok, hL, h⟩ := h
 have hfo := hok lst (by simp)
 refine g_newListItem.sound ?_
 refine Sat.bx h fun b1 w h => ?_
 refine Sat.bx h fun b3 w h => ?_
 have hcur : ((gs ++ lst :: rest).map Bk.ob ++ lobs)[gs.length]? = some lst.ob := by simp
 have hmem : memFs (gs ++ lst :: rest) = memFs gs ++ (lst.IM ++ (lst.own ++ (ownC lst.D ++ txc lst.D)) ++ memFs rest) := by
  rw [memFs_append, show lst :: rest = [lst] ++ rest from rfl, memFs_append, memFs_one]
 have h : Sat σ w (zLn b3 :: l.at b1 :: (p.at b :: M ++ (TM ++ (memFs (gs ++ lst :: rest) ++ (LM ++ (boxesC b x2 x5 x15 x18 lb ib n hv t ++ L)))))) := h
 have h : Sat σ w (p.at b :: M ++ (zLn b3 :: l.at b1 :: (TM ++ (memFs (gs ++ lst :: rest) ++ (LM ++ (boxesC b x2 x5 x15 x18 lb ib n hv t ++ L)))))) := h.re
 refine curB_ok h hs hd fun w h => ?_
 rw [hcur]
 dsimp only
 refine ⟨_, rfl, some ⟨lb, 0, none⟩, true, w, by rw [hlst.1]; exact ta_list_list _ w, br_true rfl (nilP_some ?_)⟩
 obtain ⟨_, _, _, hfu⟩ := isFunc_out und_fline
 have hml : lisC lb bul num false it (cloV x2 x18 x15 x5) ∈ p.at b :: M ++ (zLn b3 :: l.at b1 :: (TM ++ (memFs (gs ++ lst :: rest) ++ (LM ++ (boxesC b x2 x5 x15 x18 lb ib n hv t ++ L))))) := by rw [hmem, hlst.2]; simp
 refine ⟨_, Sat.ld h hml (i := 4) rfl, true, w, neq_func_nil hfu _ _ _ w, br_true rfl (nilP_some ?_)⟩
 refine ⟨_, Sat.ld h hml (i := 4) rfl, ?_⟩
 refine enter_fn ?_
 refine g_parseState_startListItem_1.sound ?_
 refine Sat.bx h fun b5 w h => ?_
 have h : Sat σ w (zLn b5 :: (p.at b :: M ++ (zLn b3 :: l.at b1 :: (TM ++ (memFs (gs ++ lst :: rest) ++ (LM ++ (boxesC b x2 x5 x15 x18 lb ib n hv t ++ L))))))) := h
 have hb2 : (x2, cel [.pointer (some ⟨b, 0, none⟩)] ty_P_parseState) ∈ boxesC b x2 x5 x15 x18 lb ib n hv t := .head _
 have hb18 : iptC x18 ib ∈ boxesC b x2 x5 x15 x18 lb ib n hv t := by simp [boxesC]
 have hb15 : lptC x15 lb ∈ boxesC b x2 x5 x15 x18 lb ib n hv t := by simp [boxesC]
 refine ⟨_, Sat.ld h (by simp [hb2] : (x2, cel [.pointer (some ⟨b, 0, none⟩)] ty_P_parseState) ∈ _) (i := 0) rfl, _, Sat.ld h (by simp [hb18] : iptC x18 ib ∈ _) (i := 0) rfl, ?_⟩
 let L1 : List Chunk := zLn b5 :: zLn b3 :: l.at b1 :: (boxesC b x2 x5 x15 x18 lb ib n hv t ++ L)
 have h : Sat σ w (p.at b :: (M ++ (TM ++ (memFs (gs ++ lst :: rest) ++ (LM ++ L1))))) := by
  show Sat σ w (p.at b :: (M ++ (TM ++ (memFs (gs ++ lst :: rest) ++ (LM ++ (zLn b5 :: zLn b3 :: l.at b1 :: (boxesC b x2 x5 x15 x18 lb ib n hv t ++ L)))))))
  exact h.re
 refine addBlock_gen h (by omega) fun w h => ?_
 have hD1 : DocC σ b L1 (gs ++ lst :: rest) lf p w := ⟨M, TM, lobs, LM, hs, ht, hok, hL, h⟩
 rw [hd]
 refine hT L1 _ w (fun x hx => by simp [L1, hx]) hD1 fun w p1 lst' it' hpost hpb hpl hpd hl' hD => ⟨rfl, ?_⟩
 obtain ⟨M1, TM1, lobs1, LM1, hs1, ht1, hok1, ⟨rfl, rfl⟩, h⟩ := hD
 have hfo' := hok1 lst' (by simp)
 rw [memFs_append, memFs_one, hl'.2] at h
 refine ⟨p1, (gs ++ [lst']).map Bk.ob ++ [], M1, _, hs1, by simp; omega, h, fun w p' M' hp' hs' h => ⟨rfl, ?_⟩⟩
 have h : Sat σ w (lisC lb bul num false it' (cloV x2 x18 x15 x5) :: zLn b5 :: t.at x5 :: zLn b3 :: l.at b1 :: lptC x15 lb :: iptC x18 ib :: (p'.at b :: M' ++ (TM1 ++ (memFs gs ++ (lst'.IM ++ (ownC lst'.D ++ (txc lst'.D ++ ((x2, cel [.pointer (some ⟨b, 0, none⟩)] ty_P_parseState) :: iteC ib lb n hv :: L)))))))) := by
  have h : Sat σ w (p'.at b :: M' ++ (TM1 ++ (memFs gs ++ (lst'.IM ++ ([lisC lb bul num false it' (cloV x2 x18 x15 x5)] ++ (ownC lst'.D ++ txc lst'.D))) ++ ([] ++ (zLn b5 :: zLn b3 :: l.at b1 :: ((x2, cel [.pointer (some ⟨b, 0, none⟩)] ty_P_parseState) :: t.at x5 :: lptC x15 lb :: iptC x18 ib :: iteC ib lb n hv :: L)))))) := h
  exact h.re
 refine ⟨_, Sat.ld h (by simp : lptC x15 lb ∈ _) (i := 0) rfl, _, Sat.ld h (by simp : iptC x18 ib ∈ _) (i := 0) rfl, nilP_some ?_⟩
 generalize hrest : (p'.at b :: M' ++ (TM1 ++ (memFs gs ++ (lst'.IM ++ (ownC lst'.D ++ (txc lst'.D ++ ((x2, cel [.pointer (some ⟨b, 0, none⟩)] ty_P_parseState) :: iteC ib lb n hv :: L))))))) = KK at h
 refine h.stA 0 fun w h => ?_
 have h : Sat σ w (t.at x5 :: zLn b5 :: lisC lb bul num false (some ⟨ib, 0, none⟩) (cloV x2 x18 x15 x5) :: zLn b3 :: l.at b1 :: lptC x15 lb :: iptC x18 ib :: KK) := by
  have h : Sat σ w (lisC lb bul num false (some ⟨ib, 0, none⟩) (cloV x2 x18 x15 x5) :: zLn b5 :: t.at x5 :: zLn b3 :: l.at b1 :: lptC x15 lb :: iptC x18 ib :: KK) := h
  exact h.re
 refine ⟨_, h.ldA, ?_⟩
 refine ⟨_, h.ldA, ?_⟩
 refine ⟨_, h.ldA, ?_⟩
 refine ⟨_, h.ldA, ?_⟩
 refine ⟨_, h.ldA, ?_⟩
 refine h.stA 1 fun w h => ?_
 refine h.stA 1 fun w h => ?_
 refine h.stA 1 fun w h => ?_
 refine h.stA 1 fun w h => ?_
 refine h.stA 1 fun w h => ?_
 have h : Sat σ w (t.at x5 :: t.at b5 :: lisC lb bul num false (some ⟨ib, 0, none⟩) (cloV x2 x18 x15 x5) :: zLn b3 :: l.at b1 :: lptC x15 lb :: iptC x18 ib :: KK) := h
 have h : Sat σ w (t.at b5 :: l.at b1 :: lisC lb bul num false (some ⟨ib, 0, none⟩) (cloV x2 x18 x15 x5) :: zLn b3 :: t.at x5 :: lptC x15 lb :: iptC x18 ib :: KK) := h.re
 refine ⟨_, h.ldA, ?_⟩
 refine ⟨_, h.ldA, ?_⟩
 refine ⟨_, h.ldA, ?_⟩
 refine ⟨_, h.ldA, ?_⟩
 refine ⟨_, h.ldA, ?_⟩
 refine ⟨_, _, _, _, _, rfl, ?_⟩
 refine h.stA 1 fun w h => ?_
 refine h.stA 1 fun w h => ?_
 refine h.stA 1 fun w h => ?_
 refine h.stA 1 fun w h => ?_
 refine h.stA 1 fun w h => ?_
 have h : Sat σ w (t.at b5 :: t.at b1 :: lisC lb bul num false (some ⟨ib, 0, none⟩) (cloV x2 x18 x15 x5) :: zLn b3 :: t.at x5 :: lptC x15 lb :: iptC x18 ib :: KK) := h
 refine nilP_some ?_
 refine Sat.st h (k := 2) rfl (by simp [lisC]) trivial rfl fun w h => ?_
 have h : Sat σ w (t.at b1 :: zLn b3 :: lisC lb bul num false (some ⟨ib, 0, none⟩) .nilFunc :: t.at b5 :: t.at x5 :: lptC x15 lb :: iptC x18 ib :: KK) := by
  have h : Sat σ w (t.at b5 :: t.at b1 :: lisC lb bul num false (some ⟨ib, 0, none⟩) .nilFunc :: zLn b3 :: t.at x5 :: lptC x15 lb :: iptC x18 ib :: KK) := h
  exact h.re
 refine ⟨_, h.ldA, ?_⟩
 refine ⟨_, h.ldA, ?_⟩
 refine ⟨_, h.ldA, ?_⟩
 refine ⟨_, h.ldA, ?_⟩
 refine ⟨_, h.ldA, ?_⟩
 refine h.stA 1 fun w h => ?_
 refine h.stA 1 fun w h => ?_
 refine h.stA 1 fun w h => ?_
 refine h.stA 1 fun w h => ?_
 refine h.stA 1 fun w h => ?_
 have h : Sat σ w (t.at b1 :: t.at b3 :: lisC lb bul num false (some ⟨ib, 0, none⟩) .nilFunc :: t.at b5 :: t.at x5 :: lptC x15 lb :: iptC x18 ib :: KK) := h
 have h : Sat σ w (t.at b3 :: t.at b1 :: lisC lb bul num false (some ⟨ib, 0, none⟩) .nilFunc :: t.at b5 :: t.at x5 :: lptC x15 lb :: iptC x18 ib :: KK) := h.re
 refine ⟨_, h.ldA, ?_⟩
 refine ⟨_, h.ldA, ?_⟩
 refine ⟨_, h.ldA, ?_⟩
 refine ⟨_, h.ldA, ?_⟩
 refine ⟨_, h.ldA, ?_⟩
 subst hrest
 have hlob : (gs ++ [lst']).map Bk.ob ++ [] = (gs ++ [lst']).map Bk.ob := List.append_nil _
 rw [hlob] at hs'
 refine hR _ p' p1 lst' ⟨lst'.ob, [lisC lb bul num false (some ⟨ib, 0, none⟩) .nilFunc], lst'.D, lst'.IM⟩ ⟨⟨iteV ib, none, 0, 0, p.lineno, p.lineno⟩, [iteC ib lb n hv], [], []⟩ hpost (by rw [hp', ← hpb]; rfl) (by rw [hp']; exact hpl) (by rw [hp']; exact hpd.trans rfl) ⟨hl'.1, rfl⟩ rfl rfl ⟨ib, rfl, rfl, rfl⟩ rfl rfl rfl ?_
 refine ⟨M', TM1, [], [], ?_, ?_, ?_, ⟨rfl, rfl⟩, ?_⟩
 ·rw [List.append_nil]
  rw [hpl] at hs'
  have e : (gs ++ [(⟨lst'.ob, [lisC lb bul num false (some ⟨ib, 0, none⟩) .nilFunc], lst'.D, lst'.IM⟩ : Bk), ⟨⟨iteV ib, none, 0, 0, p.lineno, p.lineno⟩, [iteC ib lb n hv], [], []⟩]).map Bk.ob = (gs ++ [lst']).map Bk.ob ++ [⟨iteV ib, none, 0, 0, p.lineno, p.lineno⟩] := by simp
  rw [e]
  exact hs'
 ·have e : txF (gs ++ [(⟨lst'.ob, [lisC lb bul num false (some ⟨ib, 0, none⟩) .nilFunc], lst'.D, lst'.IM⟩ : Bk), ⟨⟨iteV ib, none, 0, 0, p.lineno, p.lineno⟩, [iteC ib lb n hv], [], []⟩]) = txF (gs ++ [lst']) := by
   rw [txF_append, txF_append, txF_one, txF_two]
   show txF gs ++ (txsC lst'.D ++ []) = _
   rw [List.append_nil]
  rw [e]
  exact ht1.of (by rw [hp']) (by rw [hp']) (by rw [hp'])
 ·intro g hg
  rcases List.mem_append.1 hg with hg | hg
  ·exact hok1 g (by simp [hg])
  ·rcases List.mem_cons.1 hg with rfl | hg
   ·exact hfo'
   ·obtain rfl := List.mem_singleton.1 hg
    exact ⟨Sl.nil 1 ty_Block, by simp, hno, hno⟩
 ·rw [memFs_append gs, memFs_two]
  show Sat σ _ (_ :: M' ++ (TM1 ++ (memFs gs ++ ((lst'.IM ++ ([lisC lb bul num false (some ⟨ib, 0, none⟩) .nilFunc] ++ (ownC lst'.D ++ txc lst'.D))) ++ ([] ++ ([iteC ib lb n hv] ++ ([] ++ [])))) ++ ([] ++ L))))
  exact h.less [t.at b3, t.at b1, t.at b5, t.at x5, lptC x15 lb, iptC x18 ib, (x2, cel [.pointer (some ⟨b, 0, none⟩)] ty_P_parseState)]
end Go.Proofs.YtgbgadkldalkbaaGreatDoor


set_option linter.unusedVariables false
namespace Go.Proofs.YtgbgadkldalkbaaGreatDoor
open Go.Proofs Go.IntWalk Go.RowKit
variable {σ : Out} {w : World} {L L' : List Chunk} {R : Ending → World → Prop}
theorem meth_listExtend : methB P ty_P_listBuilder "pub-paratext/pub/rscmarkdown.extend" i_listBuilder_extend = true := by kernel_rfl
theorem ext_step {X : OA → Nat → WP} (hX : ∀ x0 x3 w, g_parseState_addLine.bl1 R X x0 x3 w → X x0 x3 w) {b b1 j : Nat} {p : PS} {ob : List OB} {o : OB} {M : List Chunk} {l l2 : Ln} {ok : Bool} (h : Sat σ w (l.at b1 :: (p.at b :: M ++ L))) (hs : Stk p ob M) (hd : p.depth = j) (hj : j < 1000000) (ho : ob[j + 1]? = some o) (hl : l.ok)
 (hE : ∀ (R' : Ending → World → Prop) b0 w, Sat σ w (l.at b0 :: l.at b1 :: (p.at b :: M ++ L)) → (∀ w, Sat σ w (l.at b0 :: l.at b1 :: (p.at b :: M ++ L)) → R' (.returned (.tuple #[l2.val, .bool ok])) w) → enterE P (callMethod o.bd "pub-paratext/pub/rscmarkdown.extend" #[.pointer (some ⟨b, 0, none⟩), l.val]) R' w)
 (hno : l.blank = true ∨ (ok = false ∧ l2 = l))
 (hgo : ok = true → ∀ w, Sat σ w (l2.at b1 :: (({ p with depth := (j : Int) + 1 } : PS).at b :: M ++ L)) → X (some ⟨b, 0, none⟩) b1 w)
 (hstop : ok = false → ∀ w, Sat σ w (l2.at b1 :: (p.at b :: M ++ L)) → g_parseState_addLine.k2 R (some ⟨b, 0, none⟩) b1 w) : X (some ⟨b, 0, none⟩) b1 w := by
 have hjl := (List.getElem?_eq_some_iff.1 ho).1
 have hlt := hs.2.2
 have hn := hs.2.1
 have hs0 := hs
 obtain ⟨sb, sp, hq, hM, hsp⟩ := hs.split (by intro he; rw [he] at hjl; simp at hjl)
 refine hX _ _ _ ?_
 have h : Sat σ w (l.at b1 :: p.at b :: (M ++ L)) := h
 refine Sat.tk h fun w h => nilP_some (nilP_some ?_)
 refine ⟨_, Sat.ld h (.tail _ (.head _)) (i := 5) rfl, _, _, _, Sat.ld h (.tail _ (.head _)) (i := 4) rfl, ?_⟩
 rw [hd, i64_in _ (by omega), hn]
 refine br_true (by simp; omega) ?_
 refine ⟨_, h.ldA, ?_⟩
 refine ⟨_, h.ldA, ?_⟩
 refine ⟨_, h.ldA, ?_⟩
 refine ⟨_, h.ldA, ?_⟩
 refine ⟨_, h.ldA, ?_⟩
 refine Sat.bx h fun b0 w h => ?_
 refine h.stA 0 fun w h => ?_
 refine h.stA 0 fun w h => ?_
 refine h.stA 0 fun w h => ?_
 refine h.stA 0 fun w h => ?_
 refine h.stA 0 fun w h => ?_
 have h : Sat σ w (l.at b0 :: l.at b1 :: p.at b :: (M ++ L)) := h
 refine Sat.tk h fun w h => nilP_some (nilP_some ?_)
 refine ⟨_, _, _, Sat.ld h (.tail _ (.tail _ (.head _))) (i := 4) rfl, _, Sat.ld h (.tail _ (.tail _ (.head _))) (i := 5) rfl, ?_⟩
 rw [hd, i64_in _ (by omega), hn, hq]
 refine ⟨by omega, by omega, nilP_some ?_⟩
 have hjt : ((j : Int) + 1).toNat = j + 1 := by omega
 rw [hjt]
 simp only [Addr.add_lit, Nat.zero_add]
 have hmem : (sb, cel (obCells ob ++ sp) ty_openBlock) ∈ (l.at b0 :: l.at b1 :: p.at b :: (M ++ L)) := by rw [hM]; simp
 refine ⟨o.bd, Sat.ld h hmem (stk_get (j := j + 1) (f := 0) (by decide) ho), ?_⟩
 have hmb : l.at b1 ∈ (l.at b0 :: l.at b1 :: p.at b :: (M ++ L)) := .tail _ (.head _)
 refine ⟨_, Sat.ld h hmb (i := 0) rfl, _, Sat.ld h hmb (i := 1) rfl, _, Sat.ld h hmb (i := 2) rfl, _, Sat.ld h hmb (i := 3) rfl, _, Sat.ld h hmb (i := 4) rfl, ?_⟩
 refine hE _ b0 w h fun w h => ⟨_, _, _, _, _, _, rfl, ?_⟩
 have h : Sat σ w (l.at b0 :: l.at b1 :: (p.at b :: M ++ L)) := h
 refine h.stA 1 fun w h => ?_
 refine h.stA 1 fun w h => ?_
 refine h.stA 1 fun w h => ?_
 refine h.stA 1 fun w h => ?_
 refine h.stA 1 fun w h => ?_
 have h : Sat σ w (l.at b0 :: l2.at b1 :: (p.at b :: M ++ L)) := h
 refine isBlank_ok h (.head _) hl fun w h => ⟨_, rfl, ?_⟩
 have fin : ∀ w, Sat σ w (l.at b0 :: l2.at b1 :: (p.at b :: M ++ L)) → g_parseState_addLine.k1 R X (some ⟨b, 0, none⟩) b1 ok false w := by
  intro w h
  refine br_false rfl ?_
  cases ok with
  | true =>
   refine br_false rfl (nilP_some ?_)
   have h : Sat σ w (l.at b0 :: l2.at b1 :: p.at b :: (M ++ L)) := h
   refine ⟨_, Sat.ld h (.tail _ (.tail _ (.head _))) (i := 5) rfl, nilP_some ?_⟩
   rw [hd, i64_in _ (by omega)]
   refine Sat.st h (k := 2) rfl (by simp [PS.cells]) trivial rfl fun w h => ?_
   have h : Sat σ w (l.at b0 :: l2.at b1 :: (({ p with depth := (j : Int) + 1 } : PS).at b :: M ++ L)) := h
   exact hgo rfl w h.tail
  | false => exact br_true rfl (hstop rfl w h.tail)
 cases hb : l.blank with
 | true => exact br_false rfl (fin w h)
 | false =>
  refine br_true rfl ?_
  obtain ⟨rfl, rfl⟩ := hno.resolve_left (by rw [hb]; decide)
  refine br_false rfl ?_
  refine ⟨_, h.ldA, ?_⟩
  refine ⟨_, h.ldA, ?_⟩
  refine ⟨_, h.ldA, ?_⟩
  refine ⟨_, h.ldA, ?_⟩
  refine ⟨_, h.ldA, ?_⟩
  refine ⟨_, h.ldA, ?_⟩
  refine ⟨_, h.ldA, ?_⟩
  refine ⟨_, h.ldA, ?_⟩
  refine ⟨_, h.ldA, ?_⟩
  refine ⟨_, h.ldA, ?_⟩
  exact ⟨_, _, neq_line l2 _ _ w, fin w h⟩
theorem listExt_ok {lb ib n : Nat} {q : Option Addr} {bul num : Int} {lo hv : Bool} {td : Value} {l l2 : Ln} {ok : Bool} (h : Sat σ w L) (hl : l.ok) (hn : n < 1000000) (h1 : lisC lb bul num lo (some ⟨ib, 0, none⟩) td ∈ L) (h2 : iteC ib lb n hv ∈ L)
 (ht : match l.trimSp n n true with | some l' => l2 = l' ∧ ok = true | none => l2 = l ∧ ok = false) (hR : ∀ w, Sat σ w L → R (.returned (.tuple #[l2.val, .bool ok])) w) :
 callE P i_listBuilder_extend #[.pointer (some ⟨lb, 0, none⟩), .pointer q, l.val] R w := by
 refine g_listBuilder_extend.sound ?_
 refine Sat.bx h fun b1 w h => ?_
 refine Sat.bx h fun b3 w h => ?_
 have h : Sat σ w (zLn b3 :: l.at b1 :: L) := h
 refine nilP_some ⟨_, Sat.ld h (.tail _ (.tail _ h1)) (i := 3) rfl, ?_⟩
 refine Sat.tk h fun w h => ⟨_, fun w => neq_ptr_nil und_PiB _ w, br_true rfl (nilP_some (nilP_some ?_))⟩
 refine ⟨_, Sat.ld h (.tail _ (.tail _ h2)) (i := 1) rfl, _, Sat.ld h (.tail _ (.tail _ h2)) (i := 1) rfl, ?_⟩
 have h : Sat σ w (l.at b1 :: zLn b3 :: L) := h.re
 refine YtgbgadkldalkbaaGreatDoor.trimSp_ok (min := n) (max := n) h hl (by omega) (by omega) ?_
 cases hs : l.trimSp n n true with
 | some l' =>
  rw [hs] at ht
  obtain ⟨rfl, rfl⟩ := ht
  intro w h
  refine ⟨_, rfl, br_true rfl ?_⟩
  refine ⟨_, h.ldA, ?_⟩
  refine ⟨_, h.ldA, ?_⟩
  refine ⟨_, h.ldA, ?_⟩
  refine ⟨_, h.ldA, ?_⟩
  refine ⟨_, h.ldA, ?_⟩
  refine h.stA 1 fun w h => ?_
  refine h.stA 1 fun w h => ?_
  refine h.stA 1 fun w h => ?_
  refine h.stA 1 fun w h => ?_
  refine h.stA 1 fun w h => ?_
  have h : Sat σ w (l2.at b1 :: l2.at b3 :: L) := h
  have h : Sat σ w (l2.at b3 :: l2.at b1 :: L) := h.re
  refine ⟨_, h.ldA, ?_⟩
  refine ⟨_, h.ldA, ?_⟩
  refine ⟨_, h.ldA, ?_⟩
  refine ⟨_, h.ldA, ?_⟩
  refine ⟨_, h.ldA, ?_⟩
  exact hR _ h.tail.tail
 | none =>
  rw [hs] at ht
  obtain ⟨rfl, rfl⟩ := ht
  intro w h
  refine ⟨_, rfl, br_false rfl ⟨_, fun w => ptrNil_eq und_PiB _ w, br_false rfl ?_⟩⟩
  refine ⟨_, h.ldA, ?_⟩
  refine ⟨_, h.ldA, ?_⟩
  refine ⟨_, h.ldA, ?_⟩
  refine ⟨_, h.ldA, ?_⟩
  refine ⟨_, h.ldA, ?_⟩
  refine h.stA 1 fun w h => ?_
  refine h.stA 1 fun w h => ?_
  refine h.stA 1 fun w h => ?_
  refine h.stA 1 fun w h => ?_
  refine h.stA 1 fun w h => ?_
  have h : Sat σ w (l2.at b1 :: l2.at b3 :: L) := h
  have h : Sat σ w (l2.at b3 :: l2.at b1 :: L) := h.re
  refine ⟨_, h.ldA, ?_⟩
  refine ⟨_, h.ldA, ?_⟩
  refine ⟨_, h.ldA, ?_⟩
  refine ⟨_, h.ldA, ?_⟩
  refine ⟨_, h.ldA, ?_⟩
  exact hR _ h.tail.tail
theorem trimC_run {b k : Nat} {fs : List Bk} {lf : Leaf} {p : PS} (h : DocC σ b L fs lf p w) (hk : k ≤ fs.length)
 (hX : ∀ X : OA → Int → WP, (∀ x0 x1 w, g_parseState_trimStack.bl1 R X x0 x1 w → X x0 x1 w) → X (some ⟨b, 0, none⟩) (k : Int) w) : callE P i_parseState_trimStack #[.pointer (some ⟨b, 0, none⟩), .int .i64 (k : Int)] R w := by
 obtain ⟨M, TM, lobs, LM, hs, ht, hok, hL, h⟩ := h
 have hn := hs.2.1
 rw [List.length_append, List.length_map] at hn
 refine g_parseState_trimStack.sound ?_
 refine nilP_some ?_
 refine ⟨_, _, _, h.ldA, ?_⟩
 rw [hn]
 exact br_false (by simp; omega) hX
theorem trimC_end {X : OA → Int → WP} {b k : Nat} {fs : List Bk} {p : PS} (hX : ∀ x0 x1 w, g_parseState_trimStack.bl1 R X x0 x1 w → X x0 x1 w) (h : DocC σ b L fs .none p w) (hk : fs.length = k) (hR : R (.returned (.tuple #[])) w) : X (some ⟨b, 0, none⟩) (k : Int) w := by
 obtain ⟨M, TM, lobs, LM, hs, ht, hok, ⟨rfl, rfl⟩, h⟩ := h
 have hn := hs.2.1
 rw [List.append_nil, List.length_map] at hn
 refine hX _ _ _ (nilP_some ?_)
 refine ⟨_, _, _, h.ldA, ?_⟩
 rw [hn]
 exact br_false (by simp; omega) hR
end Go.Proofs.YtgbgadkldalkbaaGreatDoor


set_option linter.unusedVariables false
namespace Go.Proofs.YtgbgadkldalkbaaGreatDoor
open Go.Proofs Go.IntWalk Go.RowKit
variable {σ : Out} {w : World} {L L' : List Chunk} {R : Ending → World → Prop}
structure BulL (l : Ln) (c : UInt8) (num n : Nat) (l2 : Ln) : Prop where
 has : ∃ x r, l.has x r ∧ MarkC x
 hr : l.isHR = false
 bt : Marks l c num n l2
 has2 : ∃ d r, l2.has d r ∧ isST d = false
 plain : l2.plain
theorem addLine_item0 {b pb num n : Nat} {op : Opt} {p : PS} {root : Bk} {c : UInt8} {l l2 : Ln} (h : DocC σ b L [root] .none p w) (hr : root.isRoot) (hB : BulL l c num n l2) (hpz : p.pz = some ⟨pb, 0, none⟩) (hop : op.at pb ∈ L) (hno : p.lineno < 1000000000)
 (hR : ∀ w (p' : PS) f g lb it, p'.base = p.base → p'.lineno = p.lineno → f.isList lb c.toNat (num : Nat) it → f.D = [] → f.ob.s = p.lineno → ItemOf it g lb n true → g.D = [] → g.ob.s = p.lineno → g.ob.e = p.lineno → DocC σ b L [root, f, g] (.para [l2.rest]) p' w → R (.returned (.tuple #[])) w) :
 callE P i_parseState_addLine #[.pointer (some ⟨b, 0, none⟩), l.val] R w := by
 obtain ⟨⟨x, r, hl, hc⟩, hHR, hbul, ⟨d, r2, hl2, hst⟩, hpl⟩ := hB
 have hcst : isST x = false := hc.1
 obtain ⟨M, TM, lobs, LM, hs, ht, hok, ⟨rfl, rfl⟩, h⟩ := h
 obtain ⟨rb, hbd, _⟩ := hr
 refine g_parseState_addLine.sound ?_
 refine Sat.bx h fun b1 w h => ?_
 repeat (first | refine nilP_some ?_ | refine h.tk fun w h => ?_ | refine ⟨_, h.ldA, ?_⟩ | refine ⟨_, _, _, h.ldA, ?_⟩ | refine h.stA 0 fun w h => ?_ | refine h.stA 1 fun w h => ?_ | refine h.stA 2 fun w h => ?_ | refine h.stA 3 fun w h => ?_ | refine h.stA 4 fun w h => ?_ | refine h.stA 5 fun w h => ?_ | refine h.stA 6 fun w h => ?_ | refine h.bx fun b0 w h => ?_)
 let p1 : PS := { p with depth := 0 }
 have h : Sat σ _ (l.at b1 :: p1.at b :: (M ++ (TM ++ (memFs [root] ++ ([] ++ L))))) := h
 intro X hX
 refine hX _ _ _ ?_
 repeat (first | refine nilP_some ?_ | refine h.tk fun w h => ?_ | refine ⟨_, h.ldA, ?_⟩ | refine ⟨_, _, _, h.ldA, ?_⟩)
 have hn : p1.stn = 1 := hs.2.1
 rw [hn]
 refine br_false rfl ?_
 refine isBlank_ok h (by first | assumption | (repeat (first | exact .head _ | apply List.Mem.tail))) hl.ok fun w h => ⟨_, rfl, ?_⟩
 rw [hl.blank hcst]
 refine br_false rfl ?_
 have hd : DocC σ b (l.at b1 :: L) ([] ++ [root]) .none p1 w := ⟨M, TM, [], [], hs.of rfl rfl rfl, ht.of rfl rfl rfl, hok, ⟨rfl, rfl⟩, by
  show Sat σ w (p1.at b :: M ++ (TM ++ (memFs [root] ++ ([] ++ (l.at b1 :: L)))))
  exact h.re⟩
 refine pushListC (Runs.top b b1) hd rfl (by simp) hbd (by decide) (by decide) hl hc hHR hbul hl2 hst hno fun X hX w p' f g lb it e1 e2 e3 hf hfD hg hgD e4 e5 e6 h => ?_
 obtain ⟨ib, hit, hgb, hgo⟩ := hg
 have hpz' : p'.pz = some ⟨pb, 0, none⟩ := by rw [base_ln e1]; exact hpz
 refine hX _ _ _ ?_
 have h : DocC σ b (l2.at b1 :: L) ([root, f] ++ [g]) .none p' w := h
 have e3 : p'.depth = 2 := by rw [e3]; rfl
 refine pushParaC (op := op) h e3 (by simp) hgb (by decide) (by decide) hpl hpz' hop (by rw [e2]; exact hno) fun w p2 a1 a2 h => ?_
 exact hR w p2 f g lb it (a1.trans e1) (a2.trans e2) hf hfD e4 ⟨ib, hit, hgb, hgo⟩ hgD e5 e6 h
def Closed1 (f g : Bk) (n : Nat) (lf : Leaf) (f' : Bk) : Prop := ∃ i : IT, f'.D = f.D ++ [i.db] ∧ i.ok ∧ i.s = g.ob.s ∧ i.e = g.ob.e ∧ f'.ob.s = f.ob.s ∧ i.wd = n ∧
 match lf with
 | .none => i.D = g.D
 | .para ls => ∃ nb t s e, i.D = g.D ++ [paraDB nb t s e (joinL [10] ls)] ∧ s < 1000000000 ∧ e = s + ls.length - 1
 | .other _ => False
theorem closeItem1 {b lb n : Nat} {hv : Bool} {bul num : Int} {it : Option Addr} {td : Value} {gs : List Bk} {f g : Bk} {p : PS} {lf : Leaf} {X : OA → Int → WP} (hX : ∀ x0 x1 w, g_parseState_trimStack.bl1 R X x0 x1 w → X x0 x1 w) {k : Nat} (hk : k ≤ gs.length + 1) (h : DocC σ b L (gs ++ [f, g]) lf p w) (hf : f.isListT lb bul num it td) (hg : g.isItem lb n hv) (hlf : lf.finN)
 (hfD : f.D.length < 99999) (hgD : g.D.length < 99999) (htx : (txF (gs ++ [f, g])).length < 100000)
 (hN : ∀ w (p' : PS) f', p'.base = p.base → p'.lineno = p.lineno → p'.depth = p.depth → f'.isListT lb bul num none td → Closed1 f g n lf f' → DocC σ b L (gs ++ [f']) .none p' w → X (some ⟨b, 0, none⟩) (k : Int) w) : X (some ⟨b, 0, none⟩) (k : Int) w := by
 cases lf with
 | other A => exact hlf.elim
 | none =>
  refine trim_step hX h (by simp; omega) ?_
  refine closeItemC h hg hf hfD fun w f' nb x l1 l2 l3 l4 io h => ⟨_, rfl, ?_⟩
  exact hN w { p with stn := gs.length + 1 } f' rfl rfl rfl l1 ⟨_, l4, io, rfl, rfl, l2, rfl, rfl⟩ h
 | para ls =>
  have e1 : gs ++ [f, g] = (gs ++ [f]) ++ [g] := by simp
  rw [e1] at h htx
  refine trim_step hX h (by simp; omega) ?_
  refine closeParaC h hlf hgD htx fun w p' g' nb t s e x b1 b2 b3 b4 lk lD le ls1 h => ⟨_, rfl, ?_⟩
  have h : DocC σ b L (gs ++ [f, g']) .none p' w := by rw [List.append_assoc] at h; exact h
  obtain ⟨ib, g1, g2⟩ := hg
  refine trim_step hX h (by simp; omega) ?_
  refine closeItemC h ⟨ib, lk.1.trans g1, lk.2.2.2.trans g2⟩ hf hfD fun w f' nb2 x2 l1 l2 l3 l4 io h => ⟨_, rfl, ?_⟩
  exact hN w { p' with stn := gs.length + 1 } f' b1 b3 b2 l1 ⟨_, l4, io, lk.2.1, lk.2.2.1, l2, rfl, nb, t, s, e, lD, ls1, le⟩ h
theorem addLine_item {b pb num n1 n lb n0 : Nat} {op : Opt} {p : PS} {root f g : Bk} {c : UInt8} {it : Option Addr} {l l2 : Ln} {lf : Leaf} (h : DocC σ b L [root, f, g] lf p w) (hr : root.isRoot) (hf : f.isList lb c.toNat (num : Nat) it) (hg : ItemOf it g lb n0 true) (hn0 : 1 ≤ n0 ∧ n0 < 100) (hB : BulL l c n1 n l2) (hlf : lf.finN) (hpz : p.pz = some ⟨pb, 0, none⟩) (hop : op.at pb ∈ L) (hno : p.lineno < 1000000000)
 (hfD : f.D.length < 99999) (hgD : g.D.length < 99999) (htx : (txF [root, f, g]).length < 100000)
 (hR : ∀ w (p' : PS) f' g' it', p'.base = p.base → p'.lineno = p.lineno → f'.isList lb c.toNat (num : Nat) it' → Closed1 f g n0 lf f' → ItemOf it' g' lb n true → g'.D = [] → g'.ob.s = p.lineno → g'.ob.e = p.lineno → DocC σ b L [root, f', g'] (.para [l2.rest]) p' w → R (.returned (.tuple #[])) w) :
 callE P i_parseState_addLine #[.pointer (some ⟨b, 0, none⟩), l.val] R w := by
 obtain ⟨⟨x, r, hl, hc⟩, hHR, hbul, ⟨d, r2, hl2, hst⟩, hpl⟩ := hB
 have hcst : isST x = false := hc.1
 have hb2 := hl2.blank hst
 obtain ⟨ib, hit, hgb, hgo⟩ := hg
 obtain ⟨hfb, hfo⟩ := hf
 obtain ⟨rb, hrb, hro⟩ := hr
 obtain ⟨M, TM, lobs, LM, hs, ht, hok, hL, h⟩ := h
 have hmem : memFs [root, f, g] = memFs [root] ++ (f.IM ++ ([lisC lb c.toNat (num : Nat) false it .nilFunc] ++ (ownC f.D ++ txc f.D)) ++ (g.IM ++ ([iteC ib lb n0 true] ++ (ownC g.D ++ txc g.D)))) := by
  rw [show [root, f, g] = [root] ++ [f, g] from rfl, memFs_append, memFs_two, hfo, hgo]
 obtain ⟨ob0, top, tt, tv, htop, htb, htv⟩ : ∃ ob0 top tt tv, [root, f, g].map Bk.ob ++ lobs = ob0 ++ [top] ∧ top.bd = .iface tt tv ∧ (tt = ty_P_paraBuilder → ∃ q, tv = .pointer q) := by
  cases lf with
  | other A => exact hlf.elim
  | none =>
   obtain ⟨rfl, _⟩ := hL
   exact ⟨[root.ob, f.ob], g.ob, _, _, rfl, hgb, fun hh => absurd hh (by decide)⟩
  | para ls =>
   obtain ⟨qb, s, e, rfl, _⟩ := hL
   exact ⟨[root.ob, f.ob, g.ob], paraOB qb s e, _, _, rfl, rfl, fun _ => ⟨_, rfl⟩⟩
 have hob : ∀ j, j < 3 → ([root, f, g].map Bk.ob ++ lobs)[j]? = [root.ob, f.ob, g.ob][j]? := fun j hj => List.getElem?_append_left (by simpa using hj)
 generalize hobs : [root, f, g].map Bk.ob ++ lobs = obs at hs htop hob
 refine g_parseState_addLine.sound ?_
 refine Sat.bx h fun b1 w h => ?_
 repeat (first | refine nilP_some ?_ | refine h.tk fun w h => ?_ | refine ⟨_, h.ldA, ?_⟩ | refine ⟨_, _, _, h.ldA, ?_⟩ | refine h.stA 0 fun w h => ?_ | refine h.stA 1 fun w h => ?_ | refine h.stA 2 fun w h => ?_ | refine h.stA 3 fun w h => ?_ | refine h.stA 4 fun w h => ?_ | refine h.stA 5 fun w h => ?_ | refine h.stA 6 fun w h => ?_ | refine h.bx fun b0 w h => ?_)
 let p1 : PS := { p with depth := 0 }
 have h : Sat σ _ (l.at b1 :: p1.at b :: (M ++ (TM ++ (memFs [root, f, g] ++ (LM ++ L))))) := h
 have hs1 : Stk p1 obs M := hs.of rfl rfl rfl
 intro X hX
 have hml : lisC lb c.toNat (num : Nat) false it .nilFunc ∈ memFs [root, f, g] := by rw [hmem]; simp
 have hmi : iteC ib lb n0 true ∈ memFs [root, f, g] := by rw [hmem]; simp
 refine ext_step (j := 0) (l2 := l) (ok := false) hX h hs1 rfl (by decide) (hob 1 (by decide)) hl.ok (fun R' b0 w h hk => ?_) (.inr ⟨rfl, rfl⟩) (fun hh => absurd hh (by decide)) fun _ w h => ?_
 ·show enterE P (callMethod f.ob.bd _ _) R' w
  rw [hfb]
  refine enter_meth meth_listExtend ?_
  refine listExt_ok (ib := ib) (lb := lb) (n := n0) (hv := true) (bul := c.toNat) (num := (num : Nat)) (lo := false) (td := .nilFunc) h hl.ok (by omega) (by rw [← hit]; simp [hml]) (by simp [hmi]) ?_ hk
  have : l.trimSp n0 n0 true = none := by
   unfold Ln.trimSp
   obtain ⟨m, rfl⟩ : ∃ m, n0 = m + 1 := ⟨n0 - 1, by omega⟩
   rw [hl.tsGo hcst]; rfl
  rw [this]; exact ⟨rfl, rfl⟩
 unfold g_parseState_addLine.k2
 refine isBlank_ok h (.head _) hl.ok fun w h => ⟨_, rfl, ?_⟩
 rw [hl.blank hcst]
 refine br_false rfl ?_
 rw [hmem] at h
 have h : Sat σ w (p1.at b :: M ++ (l.at b1 :: (lisC lb c.toNat (num : Nat) false it .nilFunc :: (TM ++ (memFs [root] ++ (f.IM ++ (ownC f.D ++ txc f.D) ++ (g.IM ++ ([iteC ib lb n0 true] ++ (ownC g.D ++ txc g.D)))) ++ (LM ++ L)))))) := h.re
 have hset : ∀ (p2 : PS) (M : List Chunk) (j : Nat), j < 2 → Stk p2 obs M → p2.depth = j → Decl b p2 M l i_newSetextHeading := by
  intro p2 M j hj hs2 hd2 σ w L R hS hR
  rw [htop] at hs2 hob
  match j, hj with
  | 0, _ => exact newSetext_ne (d := 0) hS hs2 hd2 (by decide) (hob 1 (by decide)) hfb (by decide) htb htv hl.ok hR
  | 1, _ => exact newSetext_ne (d := 1) hS hs2 hd2 (by decide) (hob 2 (by decide)) hgb (by decide) htb htv hl.ok hR
 refine bl102_pass (l2 := l) 4 (by decide) h (decl_bullet (hset p1 M 0 (by decide) hs1 rfl) hl hc hHR) hl.ok (hl.blank hcst) fun w nb e R' h hk => ?_
 show callE P i_newListItem _ R' w
 have h : Sat σ w (p1.at b :: M ++ (lisC lb c.toNat (num : Nat) false it .nilFunc :: (l.at b1 :: (nb, cel newsC e) :: (TM ++ (memFs [root] ++ (f.IM ++ (ownC f.D ++ txc f.D) ++ (g.IM ++ ([iteC ib lb n0 true] ++ (ownC g.D ++ txc g.D)))) ++ (LM ++ L)))))) := h.re
 refine newList_again (d := 0) h hs1 rfl (by decide) (hob 0 (by decide)) hrb (by decide) (hob 1 (by decide)) hfb hl.ok hbul fun w x2 x5 x15 x18 ib2 h => ?_
 rw [hb2, show (!false) = true from rfl] at h
 have h : Sat σ w (l.at b1 :: p1.at b :: (M ++ (lisC lb c.toNat (num : Nat) false it (cloV x2 x18 x15 x5) :: (boxesC b x2 x5 x15 x18 lb ib2 n true l2 ++ ((nb, cel newsC e) :: (TM ++ (memFs [root] ++ (f.IM ++ (ownC f.D ++ txc f.D) ++ (g.IM ++ ([iteC ib lb n0 true] ++ (ownC g.D ++ txc g.D)))) ++ (LM ++ L)))))))) := by
  have h : Sat σ w (p1.at b :: M ++ (lisC lb c.toNat (num : Nat) false it (cloV x2 x18 x15 x5) :: (boxesC b x2 x5 x15 x18 lb ib2 n true l2 ++ (l.at b1 :: (nb, cel newsC e) :: (TM ++ (memFs [root] ++ (f.IM ++ (ownC f.D ++ txc f.D) ++ (g.IM ++ ([iteC ib lb n0 true] ++ (ownC g.D ++ txc g.D)))) ++ (LM ++ L))))))) := h
  exact h.re
 refine hk w _ p1 ⟨by show (0 : Int) < 1000000; decide, by show (0 : Int) ≤ 0; decide⟩ h fun w h => ?_
 refine Runs.top b b1 w fun X hX' => ?_
 let p3 : PS := { p1 with depth := p1.depth + 1 }
 let f3 : Bk := ⟨f.ob, [lisC lb c.toNat (num : Nat) false it (cloV x2 x18 x15 x5)], f.D, f.IM⟩
 have hmem3 : memFs [root, f3, g] = memFs [root] ++ (f.IM ++ ([lisC lb c.toNat (num : Nat) false it (cloV x2 x18 x15 x5)] ++ (ownC f.D ++ txc f.D)) ++ (g.IM ++ ([iteC ib lb n0 true] ++ (ownC g.D ++ txc g.D)))) := by
  rw [show [root, f3, g] = [root] ++ [f3, g] from rfl, memFs_append, memFs_two, hgo]
 have hs3 : Stk p3 obs M := hs.of rfl rfl rfl
 have h : Sat σ w (p3.at b :: M ++ (l.at b1 :: (boxesC b x2 x5 x15 x18 lb ib2 n true l2 ++ ((nb, cel newsC e) :: (TM ++ (memFs [root, f3, g] ++ (LM ++ L))))))) := by
  rw [hmem3]
  have h : Sat σ w (l.at b1 :: p3.at b :: (M ++ (lisC lb c.toNat (num : Nat) false it (cloV x2 x18 x15 x5) :: (boxesC b x2 x5 x15 x18 lb ib2 n true l2 ++ ((nb, cel newsC e) :: (TM ++ (memFs [root] ++ (f.IM ++ (ownC f.D ++ txc f.D) ++ (g.IM ++ ([iteC ib lb n0 true] ++ (ownC g.D ++ txc g.D)))) ++ (LM ++ L)))))))) := h
  exact h.re
 refine bl102_pass (l2 := l2) 4 (by decide) h (decl_bullet (hset p3 M 1 (by decide) hs3 rfl) hl hc hHR) hl2.ok hb2 fun w nb2 e2 R2 h hk2 => ?_
 show callE P i_newListItem _ R2 w
 have hokf : ∀ k ∈ [root, f3, g], Bk.ok k := by
  intro k hk
  simp only [List.mem_cons, List.not_mem_nil, or_false] at hk
  rcases hk with rfl | rfl | rfl
  ·exact hok _ (by simp)
  ·exact hok f (by simp)
  ·exact hok _ (by simp)
 have hD3 : DocC σ b (boxesC b x2 x5 x15 x18 lb ib2 n true l2 ++ (l.at b1 :: (nb2, cel newsC e2) :: (nb, cel newsC e) :: L)) ([root] ++ f3 :: [g]) lf p3 w := by
  refine ⟨M, TM, lobs, LM, ?_, ht.of rfl rfl rfl, hokf, hL, ?_⟩
  ·rw [← hobs] at hs3; exact hs3
  ·show Sat σ w (p3.at b :: M ++ (TM ++ (memFs [root, f3, g] ++ (LM ++ (boxesC b x2 x5 x15 x18 lb ib2 n true l2 ++ (l.at b1 :: (nb2, cel newsC e2) :: (nb, cel newsC e) :: L))))))
   exact h.re
 refine todoC (Post := fun p1 lst' => Closed1 f g n0 lf lst') (l := l) hD3 ⟨hfb, rfl⟩ rfl (by simp) hno (fun L R' w _ h hk => ?_) fun w p4 p5 lst' lst'' g' hpost c1 c2 c3 hl'' hob'' hD'' hg' hgD' hgs hge h => ?_
 ·show callE P i_parseState_trimStack #[.pointer (some ⟨b, 0, none⟩), .int .i64 ((2 : Nat) : Int)] R' w
  have h : DocC σ b L ([root] ++ [f3, g]) lf p3 w := h
  refine trimC_run h (by simp) fun X hX => ?_
  refine closeItem1 (k := 2) (f := f3) (g := g) (n := n0) (hv := true) (gs := [root]) hX (by simp) h ⟨hfb, rfl⟩ ⟨ib, hgb, hgo⟩ hlf hfD hgD htx fun w p' f' a1 a2 a3 a4 a5 h => ?_
  refine trimC_end hX h rfl ?_
  exact hk w p' f' none a5 a1 a2 a3 a4 h
 ·have hc3 : p4.depth = 1 := by rw [c3]; rfl
  have hl4 : p4.lineno = p.lineno := c2
  have h2 : ∃ L2, Sat σ w (l.at b1 :: p4.at b :: L2) ∧ ∀ w, Sat σ w (l2.at b1 :: ({ p4 with depth := p4.depth + 1 } : PS).at b :: L2) → DocC σ b (l2.at b1 :: L) ([root, lst''] ++ [g']) .none { p4 with depth := p4.depth + 1 } w := by
   obtain ⟨M5, TM5, lobs5, LM5, hs5, ht5, hok5, ⟨rfl, rfl⟩, h⟩ := h
   refine ⟨M5 ++ (TM5 ++ (memFs ([root] ++ [lst'', g']) ++ ([] ++ ((nb2, cel newsC e2) :: (nb, cel newsC e) :: L)))), h.re, fun w h => ?_⟩
   refine ⟨M5, TM5, [], [], hs5.of rfl rfl rfl, ht5.of rfl rfl rfl, hok5, ⟨rfl, rfl⟩, ?_⟩
   show Sat σ w (_ :: M5 ++ (TM5 ++ (memFs ([root] ++ [lst'', g']) ++ ([] ++ (l2.at b1 :: L)))))
   exact h.less [(nb2, cel newsC e2), (nb, cel newsC e)]
  obtain ⟨L2, hS, hback⟩ := h2
  refine hk2 w L2 p4 (by omega) hS fun w h => ?_
  have h := hback w h
  obtain ⟨ib3, hit3, hgb3, hgo3⟩ := hg'
  have hpz4 : p4.pz = some ⟨pb, 0, none⟩ := by rw [base_ln c1]; exact hpz
  refine hX' _ _ _ ?_
  refine pushParaC (op := op) (gs := [root, lst'']) h (by show p4.depth + 1 = _; rw [hc3]; rfl) (by simp) hgb3 (by decide) (by decide) hpl hpz4 hop (by show p4.lineno < _; omega) fun w p6 a1 a2 h => ?_
  refine hR w p6 lst'' g' (some ⟨ib2, 0, none⟩) (a1.trans c1) (a2.trans hl4) hl'' ?_ ⟨ib3, hit3, hgb3, hgo3⟩ hgD' hgs hge h
  obtain ⟨i, i1, i2, i3, i4, i5, i6⟩ := hpost
  exact ⟨i, by rw [hD'']; exact i1, i2, i3, i4, by rw [hob'']; exact i5, i6⟩
end Go.Proofs.YtgbgadkldalkbaaGreatDoor


set_option linter.unusedVariables false
namespace Go.Proofs.YtgbgadkldalkbaaGreatDoor
open Go.Proofs Go.IntWalk Go.RowKit
variable {σ : Out} {w : World} {L L' : List Chunk} {R : Ending → World → Prop}
def ItG (m : Nat) (x : List UInt8) (i : IT) : Prop := i.ok ∧ i.s = m ∧ i.e = m ∧ ∃ nb t s e, i.D = [paraDB nb t s e (x)] ∧ s < 1000000000 ∧ e < 1000000000
def ItR (st : Nat) : Nat → List (List UInt8) → List IT → Prop
 | _, [], [] => True
 | m, x :: xs, i :: is => ItG m x i ∧ ItR st (m + st) xs is
 | _, _, _ => False
theorem ItR.snoc {st : Nat} {x : List UInt8} {i : IT} : ∀ {m : Nat} {xs : List (List UInt8)} {is : List IT}, ItR st m xs is → ItG (m + st * xs.length) x i → ItR st m (xs ++ [x]) (is ++ [i])
 | m, [], [], _, h2 => ⟨by simpa using h2, trivial⟩
 | m, y :: xs, j :: is, h, h2 => by
  refine ⟨h.1, ItR.snoc h.2 ?_⟩
  have e : m + st * (y :: xs).length = m + st + st * xs.length := by rw [List.length_cons, Nat.mul_add]; omega
  rw [← e]; exact h2
 | _, [], _ :: _, h, _ => h.elim
 | _, _ :: _, [], h, _ => h.elim
theorem ItR.len {st : Nat} : ∀ {m : Nat} {xs : List (List UInt8)} {is : List IT}, ItR st m xs is → is.length = xs.length
 | _, [], [], _ => rfl
 | _, _ :: xs, _ :: is, h => by simp [ItR.len h.2]
 | _, [], _ :: _, h => h.elim
 | _, _ :: _, [], h => h.elim
theorem ItR.txs {st : Nat} : ∀ {m : Nat} {xs : List (List UInt8)} {is : List IT}, ItR st m xs is → (txsC (is.map IT.db)).length = xs.length ∧ ∀ x ∈ txsC (is.map IT.db), ∃ s ∈ xs, x.raw = s
 | _, [], [], _ => ⟨rfl, by simp [txsC]⟩
 | _, y :: xs, i :: is, h => by
  obtain ⟨a, c⟩ := ItR.txs h.2
  obtain ⟨_, _, _, nb, t, s, e, hD, _⟩ := h.1
  have e1 : txsC ((i :: is).map IT.db) = txsC i.D ++ txsC (is.map IT.db) := by simp [txsC, IT.db]
  have e2 : txsC i.D = [⟨t, s, e, y⟩] := by rw [hD]; simp [txsC, paraDB]
  rw [e1, e2]
  refine ⟨by simp [a], fun x hx => ?_⟩
  rcases List.mem_append.1 hx with hx | hx
  ·obtain rfl := List.mem_singleton.1 hx
   exact ⟨y, by simp, rfl⟩
  ·obtain ⟨s, hs, hr⟩ := c x hx
   exact ⟨s, List.mem_cons_of_mem _ hs, hr⟩
 | _, [], _ :: _, h => h.elim
 | _, _ :: _, [], h => h.elim
def posQ (d : DB) : Nat × Nat := match d.txs with | [x] => (x.s, x.e) | _ => (0, 0)
theorem ItR.facts {st : Nat} : ∀ {m : Nat} {xs : List (List UInt8)} {is : List IT}, ItR st m xs is → ∀ i ∈ is, i.ok ∧ ∀ d ∈ i.D, d.kindOK ∧ d.posIs (posQ d).1 (posQ d).2 ∧ (posQ d).1 < 1000000000 ∧ (posQ d).2 < 1000000000
 | _, [], [], _ => by simp
 | _, y :: xs, j :: is, h => by
  intro i hi
  rcases List.mem_cons.1 hi with rfl | hi
  ·obtain ⟨ho, _, _, nb, t, s, e, hD, hs, he⟩ := h.1
   refine ⟨ho, fun d hd => ?_⟩
   rw [hD] at hd
   obtain rfl := List.mem_singleton.1 hd
   exact ⟨.inl ⟨_, _, _, _, _, rfl⟩, posIs_of pos_Paragraph rfl (.head _), hs, he⟩
  ·exact ItR.facts h.2 i hi
 | _, [], _ :: _, h => h.elim
 | _, _ :: _, [], h => h.elim
theorem ItR.gap1 : ∀ {m : Nat} {xs : List (List UInt8)} {is : List IT}, ItR 1 m xs is → gapI posQ is = false
 | _, [], [], _ => rfl
 | _, [x], [i], h => by
  obtain ⟨_, _, _, nb, t, s, e, hD, _⟩ := h.1
  simp [gapI, hD, gapD]
 | m, x :: x2 :: xs, i :: i2 :: is, h => by
  obtain ⟨_, _, he, nb, t, s, e, hD, _⟩ := h.1
  obtain ⟨_, hs2, _⟩ := h.2.1
  have ih := ItR.gap1 h.2
  simp only [gapI, hD, gapD, ih, Bool.or_false, decide_eq_false_iff_not]
  omega
 | _, [_], _ :: _ :: _, h => h.2.elim
 | _, _ :: _ :: _, [_], h => h.2.elim
 | _, [], _ :: _, h => h.elim
 | _, _ :: _, [], h => h.elim
end Go.Proofs.YtgbgadkldalkbaaGreatDoor


set_option linter.unusedVariables false
namespace Go.Proofs.YtgbgadkldalkbaaGreatDoor
open Go.Proofs Go.IntWalk Go.RowKit
variable {σ : Out} {w : World} {L L' : List Chunk} {R : Ending → World → Prop}
def numV (ds : List UInt8) : Nat := ds.foldl (fun a c => a * 10 + (c.toNat - 48)) 0
theorem numV_snoc (ds : List UInt8) (c : UInt8) : numV (ds ++ [c]) = numV ds * 10 + (c.toNat - 48) := by simp [numV]
theorem numV_lt : ∀ (n : Nat) (ds : List UInt8), ds.length = n → (∀ c ∈ ds, digB c = true) → numV ds < 10 ^ n := by
 intro n
 induction n with
 | zero => intro ds h _; obtain rfl := List.eq_nil_of_length_eq_zero h; decide
 | succ n ih =>
  intro ds h hd
  obtain ⟨m, c, rfl⟩ : ∃ m c, ds = m ++ [c] := by
   have hne : ds ≠ [] := by intro h0; rw [h0] at h; simp at h
   exact ⟨ds.dropLast, ds.getLast hne, (List.dropLast_concat_getLast hne).symm⟩
  have h1 := ih m (by simpa using h) fun x hx => hd x (by simp [hx])
  have h2 := hd c (by simp)
  simp only [digB, Bool.and_eq_true, decide_eq_true_eq] at h2
  rw [numV_snoc, Nat.pow_succ]
  omega
theorem slItem_k3 {b b0 b1 n0 num : Nat} {q : Option Addr} {l t1 : Ln} {c d : UInt8} {r : List UInt8} (h : Sat σ w (t1.at b0 :: (b1, cel [.pointer q] ty_P_parseState) :: l.at b :: L)) (h1 : t1.has 32 (d :: r)) (hd : isST d = false) (hn0 : n0 ≤ 90)
 (hK : ∀ w b2 (t' : Ln), Sat σ w (({ t1 with i := t1.i + 1 } : Ln).at b0 :: (b1, cel [.pointer q] ty_P_parseState) :: t'.at b2 :: l.at b :: L) → g_parseState_startListItem.k8 R b1 b0 ((n0 + 1 : Nat) : Int) (c.toNat : Int) (num : Nat) w) :
 g_parseState_startListItem.k3 R b1 b0 (n0 : Nat) (c.toNat : Int) (num : Nat) w := by
 have h2 := h1.next
 generalize ht2 : ({ t1 with i := t1.i + 1 } : Ln) = t2 at h2 hK
 have hnone : ∀ e, t2.trimSp 1 1 e = none := by intro e; unfold Ln.trimSp; rw [h2.tsGo hd]; rfl
 refine YtgbgadkldalkbaaGreatDoor.trimSp_ok (min := 1) (max := 1) h h1.ok (by decide) (by decide) ?_
 rw [h1.sp1, ht2]
 intro w h
 refine ⟨_, rfl, br_false rfl ?_⟩
 refine ⟨_, h.ldA, ?_⟩
 refine ⟨_, h.ldA, ?_⟩
 refine ⟨_, h.ldA, ?_⟩
 refine ⟨_, h.ldA, ?_⟩
 refine ⟨_, h.ldA, ?_⟩
 refine Sat.bx h fun b2 w h => ?_
 refine h.stA 0 fun w h => ?_
 refine h.stA 0 fun w h => ?_
 refine h.stA 0 fun w h => ?_
 refine h.stA 0 fun w h => ?_
 refine h.stA 0 fun w h => ?_
 have h : Sat σ w (t2.at b2 :: t2.at b0 :: (b1, cel [.pointer q] ty_P_parseState) :: l.at b :: L) := h
 rw [i64_inc (by omega)]
 intro X hX
 refine hX _ _ _ _ _ _ _ _ _ (br_true (by decide) ?_)
 refine YtgbgadkldalkbaaGreatDoor.trimSp_ok (min := 1) (max := 1) h h2.ok (by decide) (by decide) ?_
 rw [hnone]
 intro w h
 refine ⟨_, rfl, br_false rfl ?_⟩
 unfold g_parseState_startListItem.k6
 refine YtgbgadkldalkbaaGreatDoor.trimSp_ok (min := 1) (max := 1) h h2.ok (by decide) (by decide) ?_
 rw [hnone]
 intro w h
 refine ⟨_, rfl, br_true rfl ?_⟩
 refine ⟨_, h.ldA, ?_⟩
 refine ⟨_, h.ldA, ?_⟩
 refine ⟨_, h.ldA, ?_⟩
 refine ⟨_, h.ldA, ?_⟩
 refine ⟨_, h.ldA, ?_⟩
 refine h.stA 1 fun w h => ?_
 refine h.stA 1 fun w h => ?_
 refine h.stA 1 fun w h => ?_
 refine h.stA 1 fun w h => ?_
 refine h.stA 1 fun w h => ?_
 rw [show ((n0 + 1 : Nat) : Int) + 0 = ((n0 + 1 : Nat) : Int) by omega, i64_in _ (by omega)]
 have h : Sat σ w (t2.at b2 :: t2.at b0 :: (b1, cel [.pointer q] ty_P_parseState) :: l.at b :: L) := h
 exact hK w b2 t2 (h.re)
theorem Ln.has.skip {l : Ln} {x : UInt8} {s : List UInt8} (h : l.has x s) : ∀ (m : Nat) {y : UInt8} {u : List UInt8}, (x :: s).drop m = y :: u → ({ l with i := l.i + m } : Ln).has y u
 | 0, y, u, he => by
  simp only [List.drop_zero, List.cons.injEq] at he
  obtain ⟨rfl, rfl⟩ := he
  exact h
 | m + 1, y, u, he => by
  have hlt : m < (x :: s).length := by
   rcases Nat.lt_or_ge m (x :: s).length with h1 | h1
   ·exact h1
   ·rw [List.drop_eq_nil_of_le (by omega)] at he; cases he
  have e1 : (x :: s).drop m = (x :: s)[m] :: (x :: s).drop (m + 1) := List.drop_eq_getElem_cons hlt
  rw [he] at e1
  have := (Ln.has.skip h m e1).next
  simpa [Nat.add_assoc] using this
theorem Ln.has.number {l : Ln} {x : UInt8} {ds r : List UInt8} {d : UInt8} (hh : l.has x (ds ++ 46 :: 32 :: d :: r)) (hl : l.text.length < 1000000) (hx : ∀ c ∈ x :: ds, digB c = true) (hlen : ds.length ≤ 8) (hd : isST d = false) :
 Marks l 46 (numV (x :: ds)) (ds.length + 3) { l with i := l.i + (ds.length + 3) } ∧ ({ l with i := l.i + (ds.length + 3) } : Ln).has d r := by
 have hD : x :: (ds ++ 46 :: 32 :: d :: r) = (x :: ds) ++ 46 :: 32 :: d :: r := rfl
 have hm1 : ({ l with i := l.i + (ds.length + 2) } : Ln).has 32 (d :: r) := hh.skip (ds.length + 2) (by rw [hD, List.drop_append, List.drop_eq_nil_of_le (by simp), List.length_cons, show ds.length + 2 - (ds.length + 1) = 1 by omega]; rfl)
 have hm2 : ({ l with i := l.i + (ds.length + 3) } : Ln).has d r := hm1.next
 refine ⟨⟨hm2.ok, by omega, ?_⟩, hm2⟩
 intro σ w L R b q h hK
 have hcd := hx x (by simp)
 simp only [digB, Bool.and_eq_true, decide_eq_true_eq] at hcd
 have hst : isST x = false := by
  simp only [isST, Bool.or_eq_false_iff, beq_eq_false_iff_ne, ne_eq]
  constructor <;> (rintro rfl; revert hcd; decide)
 have hlok := hh.ok
 have htl : l.text.length = l.i + (ds.length + 1 + (3 + r.length)) := by have := congrArg List.length hh.tx; have := hh.lt; simp at *; omega
 have hgd : ∀ j, l.text.getD (l.i + j) 0 = ((x :: ds) ++ 46 :: 32 :: d :: r).getD j 0 := by intro j; rw [← hD, ← hh.tx, List.getD_eq_getElem?_getD, List.getD_eq_getElem?_getD, List.getElem?_drop]
 refine g_parseState_startListItem.sound ?_
 refine Sat.bx h fun b1 w h => ?_
 repeat (first | refine nilP_some ?_ | refine h.tk fun w h => ?_ | refine ⟨_, h.ldA, ?_⟩ | refine ⟨_, _, _, h.ldA, ?_⟩ | refine h.stA 0 fun w h => ?_ | refine h.stA 1 fun w h => ?_ | refine h.stA 2 fun w h => ?_ | refine h.stA 3 fun w h => ?_ | refine h.stA 4 fun w h => ?_ | refine h.stA 5 fun w h => ?_ | refine h.stA 6 fun w h => ?_ | refine h.bx fun b0 w h => ?_)
 have h : Sat σ _ (l.at b0 :: (b1, cel [.pointer q] ty_P_parseState) :: l.at b :: L) := h
 intro X hX
 refine hX _ _ _ _ _ (br_true (by simp) ?_)
 refine YtgbgadkldalkbaaGreatDoor.trimSp_ok (min := 1) (max := 1) h hlok (by decide) (by decide) ?_
 have hts : l.trimSp 1 1 false = none := by unfold Ln.trimSp; rw [hh.tsGo hst]; rfl
 rw [hts]
 intro w h
 refine ⟨_, rfl, br_true rfl ?_⟩
 refine peek_ok h (by first | assumption | (repeat (first | exact .head _ | apply List.Mem.tail))) hlok fun w h => ⟨_, rfl, ?_⟩
 rw [hh.peek]
 have ne : ∀ (d : UInt8) (n : Int), (d.toNat : Int) = n → (d.toNat < 48 ∨ 57 < d.toNat) → (((x.toNat : Nat) : Int) == n) = false := by
  intro d n hd hn
  refine beqf hd ?_
  rintro rfl; omega
 have k4 : g_parseState_startListItem.k4 R b1 b0 0 0 true w := by
  refine br_true rfl ?_
  refine ⟨_, h.ldA, ?_⟩
  intro Y hY
  have key : ∀ k j w, j + k = (x :: ds).length → Sat σ w (l.at b0 :: (b1, cel [.pointer q] ty_P_parseState) :: l.at b :: L) → Y b1 b0 0 ((numV ((x :: ds).take j) : Nat) : Int) ((l.i + j : Nat) : Int) w := by
   intro k
   induction k with
   | zero =>
    intro j w hj h
    have hj' : j = ds.length + 1 := by simpa using hj
    refine hY _ _ _ _ _ _ ?_
    refine ⟨_, h.ldA, ?_⟩
    refine br_false (by rw [bs_size]; simp; omega) ?_
    refine ⟨_, h.ldA, ?_⟩
    refine ⟨by omega, by rw [bs_size]; omega, ?_⟩
    rw [bs_bt, hgd]
    have hget : ((x :: ds) ++ 46 :: 32 :: d :: r).getD j 0 = 46 := by
     rw [List.getD_eq_getElem?_getD, List.getElem?_append_right (by simp; omega), List.length_cons, show j - (ds.length + 1) = 0 by omega]; rfl
    rw [hget]
    refine br_true rfl ?_
    refine ⟨_, h.ldA, ?_⟩
    rw [i64_inc (by omega)]
    refine h.stA 0 fun w h => ?_
    rw [List.take_of_length_le (by simp; omega)]
    have e1 : IntKind.i64.wrap (0 + IntKind.i64.wrap (((l.i + j + 1 : Nat) : Int) - ((l.i : Nat) : Int))) = ((ds.length + 2 : Nat) : Int) := by
     rw [i64_in (_ - _) (by omega), i64_in _ (by omega)]; omega
    rw [e1]
    have h : Sat σ w (({ l with i := l.i + (ds.length + 2) } : Ln).at b0 :: (b1, cel [.pointer q] ty_P_parseState) :: l.at b :: L) := by
     rw [hj', show l.i + (ds.length + 1) + 1 = l.i + (ds.length + 2) by omega] at h
     exact h
    refine slItem_k3 (c := 46) (l := l) h hm1 hd (by omega) fun w b2 t' h => ?_
    exact hK w b0 b1 b2 t' h
   | succ k ih =>
    intro j w hj h
    have hjl : j < (x :: ds).length := by omega
    have hj8 : j ≤ 8 := by simp at hjl; omega
    refine hY _ _ _ _ _ _ ?_
    refine ⟨_, h.ldA, ?_⟩
    refine br_false (by rw [bs_size]; simp at hjl; simp; omega) ?_
    refine ⟨_, h.ldA, ?_⟩
    refine ⟨by omega, by rw [bs_size]; simp at hjl; omega, ?_⟩
    rw [bs_bt, hgd]
    have hget : ((x :: ds) ++ 46 :: 32 :: d :: r).getD j 0 = (x :: ds)[j] := by rw [List.getD_eq_getElem?_getD, List.getElem?_append_left hjl, List.getElem?_eq_getElem hjl]; rfl
    rw [hget]
    have htk : (x :: ds).take (j + 1) = (x :: ds).take j ++ [(x :: ds)[j]] := List.take_succ_eq_append_getElem hjl
    have hdig := hx _ (List.getElem_mem hjl)
    have hnv := numV_lt j ((x :: ds).take j) (by simp at hjl ⊢; omega) fun c hc => hx c (List.mem_of_mem_take hc)
    have hnv2 : numV ((x :: ds).take j) < 10 ^ 8 := Nat.lt_of_lt_of_le hnv (Nat.pow_le_pow_right (by decide) hj8)
    generalize (x :: ds)[j] = dg at *
    have hd' := hdig
    simp only [digB, Bool.and_eq_true, decide_eq_true_eq] at hd'
    refine br_false ?_ (br_false (by simp; omega) ?_)
    ·have a1 := u8b dg 46 46 rfl
     have a2 := u8b dg 41 41 rfl
     rw [a1, a2]
     have b1 : dg ≠ 46 := by rintro rfl; revert hd'; decide
     have b2 : dg ≠ 41 := by rintro rfl; revert hd'; decide
     simp [b1, b2]
    unfold g_parseState_startListItem.k9
    refine ⟨_, h.ldA, ?_⟩
    refine br_false ?_ ?_
    ·rw [i64_in _ (by omega)]; simp; omega
    rw [i64_inc (by omega), show l.i + j + 1 = l.i + (j + 1) by omega]
    have e2 : IntKind.i64.wrap (IntKind.i64.wrap (IntKind.i64.wrap (((numV ((x :: ds).take j) : Nat) : Int) * 10) + IntKind.i64.wrap ((dg.toNat : Nat) : Int)) - 48) = ((numV ((x :: ds).take (j + 1)) : Nat) : Int) := by
     have h10 : (10 : Nat) ^ 8 = 100000000 := rfl
     rw [htk, numV_snoc]
     rw [i64_in (_ * 10) (by omega), i64_in ((dg.toNat : Nat) : Int) (by omega), i64_in (_ + _) (by omega), i64_in _ (by omega)]
     omega
    rw [e2]
    exact ih (j + 1) w (by omega) h
  have := key (x :: ds).length 0 w (by simp) h
  rw [Nat.add_zero] at this; exact this
 refine br_false (ne 45 45 rfl (by decide)) (br_false (ne 42 42 rfl (by decide)) ?_)
 rw [ne 43 43 rfl (by decide)]
 refine br_false rfl ?_
 have hcn : x.toNat = 48 ∨ x.toNat = 49 ∨ x.toNat = 50 ∨ x.toNat = 51 ∨ x.toNat = 52 ∨ x.toNat = 53 ∨ x.toNat = 54 ∨ x.toNat = 55 ∨ x.toNat = 56 ∨ x.toNat = 57 := by omega
 rcases hcn with e | e | e | e | e | e | e | e | e | e <;> rw [e]
 ·exact br_true rfl k4
 ·exact br_false rfl (br_true rfl k4)
 ·exact br_false rfl (br_false rfl (br_true rfl k4))
 ·exact br_false rfl (br_false rfl (br_false rfl (br_true rfl k4)))
 ·exact br_false rfl (br_false rfl (br_false rfl (br_false rfl (br_true rfl k4))))
 ·exact br_false rfl (br_false rfl (br_false rfl (br_false rfl (br_false rfl (br_true rfl k4)))))
 ·exact br_false rfl (br_false rfl (br_false rfl (br_false rfl (br_false rfl (br_false rfl (br_true rfl k4))))))
 ·exact br_false rfl (br_false rfl (br_false rfl (br_false rfl (br_false rfl (br_false rfl (br_false rfl (br_true rfl k4)))))))
 ·exact br_false rfl (br_false rfl (br_false rfl (br_false rfl (br_false rfl (br_false rfl (br_false rfl (br_false rfl (br_true rfl k4))))))))
 ·exact br_false rfl (br_false rfl (br_false rfl (br_false rfl (br_false rfl (br_false rfl (br_false rfl (br_false rfl (br_false rfl (by exact k4)))))))))
end Go.Proofs.YtgbgadkldalkbaaGreatDoor


set_option linter.unusedVariables false
namespace Go.Proofs.YtgbgadkldalkbaaGreatDoor
open Go.Proofs Go.IntWalk Go.RowKit
variable {σ : Out} {w : World} {L L' : List Chunk} {R : Ending → World → Prop}
theorem texts_task {b pb nb s0 e0 n0 c0 : Nat} {bul num : Int} {lo : Bool} {q0 : Option Addr} {items : List IT} {IM0 : List Chunk} {op : Opt} {p : PS} {xs : List TX} {TM LM : List Chunk} (h : Sat σ w (p.at b :: (TM ++ (xs.map TX.chunk ++ L)))) (ht : Txts p (xs.map TX.t) TM) (hpz : p.pz = some ⟨pb, 0, none⟩) (ho : op.at pb ∈ L) (htask : op.task = true) (hlk : p.links = none)
 (hLL : Sl 1 ty_P_List p.Lq 1 p.Lc [.pointer (some ⟨nb, 0, none⟩)] LM) (hLn : p.Ln = 1) (hLM : ∀ x ∈ LM, x ∈ L) (hI : ∀ x ∈ xs, InlinePl op x.raw)
 (hS : Sl 1 ty_Block q0 n0 c0 (items.map IT.v) IM0) (hn0 : items.length < 1000000) (hX : ItX items xs) (hK : ∀ x ∈ xs, KR x.raw) (hM : ∀ y ∈ lstC nb s0 e0 bul num lo q0 n0 c0 :: (IM0 ++ ownC (items.map IT.db)), y ∈ L)
 (hR : ∀ w (p' : PS) ts, p'.coreS = p.coreS → Filled tkF xs ts → Sat σ w (p'.at b :: (TM ++ (fills xs ts ++ L))) → g_Parser_parse.k4 R b w) :
 g_Parser_parse.l2 R (some ⟨pb, 0, none⟩) b p.tq p.tn p.tc (p.tn : Nat) 0 w := by
 have hn : p.tn = xs.length := by rw [ht.2.1, List.length_map]
 have hx : xs.length < 1048576 := by have := ht.2.2; rwa [List.length_map] at this
 intro Y hY
 have h00 := h
 clear h
 have key : ∀ (xs2 xs1 : List TX) ts1 w (p1 : PS), xs1 ++ xs2 = xs → p1.coreS = p.coreS → PlainTs xs1 ts1 → Sat σ w (p1.at b :: (TM ++ (fills xs1 ts1 ++ (xs2.map TX.chunk ++ L)))) → Y (some ⟨pb, 0, none⟩) b p.tq p.tn p.tc (p.tn : Nat) (xs1.length : Nat) w := by
  intro xs2
  induction xs2 with
  | nil =>
   intro xs1 ts1 w p1 hxs hp1 hf h9
   rw [List.append_nil] at hxs
   subst hxs
   have e1 : p1.Lq = p.Lq := by have := congrArg PS.Lq hp1; exact this
   have e2 : p1.Ln = 1 := by have := congrArg PS.Ln hp1; exact this.trans hLn
   have e3 : p1.Lc = p.Lc := by have := congrArg PS.Lc hp1; exact this
   have h : Sat σ w (p1.at b :: (TM ++ (fills xs1 ts1 ++ L))) := h9
   have hm : op.at pb ∈ p1.at b :: (TM ++ (fills xs1 ts1 ++ L)) := by simp [ho]
   refine hY _ _ _ _ _ _ _ _ (br_false (by simp; omega) (nilP_some ?_))
   simp only [Addr.add_lit, Nat.zero_add]
   refine ⟨op.task, Sat.ld h hm rfl, br_true htask ?_⟩
   refine ⟨_, _, _, Sat.ld h (.head _) (i := 10) rfl, ?_⟩
   rw [e1, e2, e3]
   intro Z hZ
   refine hZ _ _ _ _ _ _ _ (br_true rfl ⟨by decide, by decide, ?_⟩)
   refine hLL.loadMem h (fun y hy => by simp [hLM y hy]) (j := 0) rfl fun qb hq hc => ?_
   simp only [Addr.add_lit, Int.toNat_natCast, Nat.mul_one, Nat.zero_add]
   refine ⟨_, hc, ?_⟩
   have h : Sat σ w (p1.at b :: (fills xs1 ts1 ++ (TM ++ L))) := h.re
   refine taskList_ok (nb := nb) (s := s0) (e := e0) (bul := bul) (num := num) (lo := lo) h hS hn0 hX hf hK (fun y hy => List.mem_append_right _ (hM y hy)) fun w ts' hf' h => ⟨rfl, ?_⟩
   refine hZ _ _ _ _ _ _ _ (br_false rfl ?_)
   exact hR w p1 ts' hp1 hf' (h.re)
  | cons x xs2 ih =>
   intro xs1 ts1 w p1 hxs hp1 hf h
   have hlt : xs1.length < xs.length := by rw [← hxs]; simp
   obtain ⟨rb, sp, htq, rfl⟩ := ht.1.rowAt (by omega)
   refine hY _ _ _ _ _ _ _ _ (br_true (by simp; omega) ⟨by omega, by omega, ?_⟩)
   rw [htq]
   refine nilP_some ?_
   simp only [Addr.add_lit, Nat.zero_add, Int.toNat_natCast, Nat.mul_one]
   have hget : ((xs.map TX.t).map (fun t => Value.pointer (some ⟨t, 0, none⟩)) ++ sp)[xs1.length]? = some (.pointer (some ⟨x.t, 0, none⟩)) := by
    rw [List.getElem?_append_left (by simp; omega), ← hxs]; simp
   refine ⟨_, Sat.ld h (.tail _ (.head _)) hget, nilP_some ?_⟩
   simp only [Addr.add_lit, Nat.zero_add]
   have h : Sat σ w (p1.at b :: (x.chunk :: ([(rb, cel ((xs.map TX.t).map (fun t => Value.pointer (some ⟨t, 0, none⟩)) ++ sp) ty_P_Text)] ++ (fills xs1 ts1 ++ (xs2.map TX.chunk ++ L))))) := by
    rw [List.map_cons] at h
    exact h.re
   refine ⟨_, Sat.ld h (.tail _ (.head _)) (i := 3) rfl, ?_⟩
   have hc : p1.pz = some ⟨pb, 0, none⟩ := by have := congrArg PS.pz hp1; rw [show p1.pz = p.pz from this]; exact hpz
   have hk : p1.links = none := by have := congrArg PS.links hp1; rw [show p1.links = p.links from this]; exact hlk
   refine hI x (by rw [← hxs]; simp) σ _ b pb p1 _ w h hc (by simp [ho]) hk fun w p2 q c pb2 cs e RM hp2 hS2 h => ⟨_, _, _, rfl, nilP_some ?_⟩
   have h : Sat σ w (textC x.t x.s x.e none 0 0 x.raw :: (p2.at b :: (RM ++ ([(pb2, cel (.string (bs x.raw) :: cs) e)] ++ ([(rb, cel ((xs.map TX.t).map (fun t => Value.pointer (some ⟨t, 0, none⟩)) ++ sp) ty_P_Text)] ++ (fills xs1 ts1 ++ (xs2.map TX.chunk ++ L))))))) := by
    have h : Sat σ w (p2.at b :: (RM ++ ([(pb2, cel (.string (bs x.raw) :: cs) e)] ++ (textC x.t x.s x.e none 0 0 x.raw :: ([(rb, cel ((xs.map TX.t).map (fun t => Value.pointer (some ⟨t, 0, none⟩)) ++ sp) ty_P_Text)] ++ (fills xs1 ts1 ++ (xs2.map TX.chunk ++ L))))))) := h
    exact h.re
   refine h.stA 0 fun w h => ?_
   have h : Sat σ w (textC x.t x.s x.e q 1 c x.raw :: (p2.at b :: (RM ++ ([(pb2, cel (.string (bs x.raw) :: cs) e)] ++ ([(rb, cel ((xs.map TX.t).map (fun t => Value.pointer (some ⟨t, 0, none⟩)) ++ sp) ty_P_Text)] ++ (fills xs1 ts1 ++ (xs2.map TX.chunk ++ L))))))) := h
   rw [i64_inc (by omega)]
   have hf2 : PlainTs (xs1 ++ [x]) (ts1 ++ [⟨q, 1, c, [ptrV ty_P_Plain pb2], RM, [(pb2, cel (.string (bs x.raw) :: cs) e)], [], id⟩]) := hf.snoc ⟨rfl, ⟨pb2, cs, e, rfl, rfl⟩, hS2⟩
   have := ih (xs1 ++ [x]) _ w p2 (by rw [← hxs]; simp) (hp2.trans hp1) hf2 ?_
   ·rw [List.length_append, List.length_singleton, htq] at this; exact this
   ·rw [fillsP_append hf]
    show Sat σ w (p2.at b :: ([(rb, cel ((xs.map TX.t).map (fun t => Value.pointer (some ⟨t, 0, none⟩)) ++ sp) ty_P_Text)] ++ ((fills xs1 ts1 ++ ((textC x.t x.s x.e q 1 c x.raw :: (RM ++ [(pb2, cel (.string (bs x.raw) :: cs) e)])) ++ [])) ++ (xs2.map TX.chunk ++ L))))
    exact h.re
 exact key xs [] [] w p rfl rfl .nil h00
theorem tight_itemX : ∀ {m : Nat} {raws : List (List UInt8)} {is is' : List IT}, ItR 1 m raws is → Ret is is' → ItX is' (txsC (is'.map IT.db)) ∧ (txsC (is'.map IT.db)).map TX.raw = raws := by
 intro m raws
 induction raws generalizing m with
 | nil =>
  intro is is' h hr
  cases is with
  | nil => cases hr; exact ⟨.nil, rfl⟩
  | cons i is => exact h.elim
 | cons x raws ih =>
  intro is is' h hr
  cases is with
  | nil => exact h.elim
  | cons i is =>
   obtain ⟨ho, _, _, nb, t, s, e, hD, _⟩ := h.1
   cases hr with
   | @cons _ i' _ is2 h1 h2 h3 =>
    obtain ⟨a1, a2⟩ := ih h.2 h3
    have ed : i'.D = [⟨.iface ty_P_Text (.pointer (some ⟨t, 0, none⟩)), [paraC nb s e t], [⟨t, s, e, x⟩]⟩] := by rw [h1]; show i.D.map tightDB = _; rw [hD]; rfl
    have e1 : txsC ((i' :: is2).map IT.db) = ⟨t, s, e, x⟩ :: txsC (is2.map IT.db) := by
     have e2 : txsC ((i' :: is2).map IT.db) = txsC i'.D ++ txsC (is2.map IT.db) := by simp [txsC, IT.db]
     rw [e2, ed]; simp [txsC]
    rw [e1]
    exact ⟨.cons h2 ed rfl a1, by rw [List.map_cons, a2]⟩
def tkIt (raw : List UInt8) : List UInt8 := liO ++ tkOut raw ++ liC
theorem tight_show : ∀ {m : Nat} {raws : List (List UInt8)} {is is' : List IT}, ItR 1 m raws is → Ret is is' → Show tkF (is'.map IT.db) (raws.map fun raw => ab (tkIt raw)) := by
 intro m raws
 induction raws generalizing m with
 | nil =>
  intro is is' h hr
  cases is with
  | nil => cases hr; exact .nil
  | cons i is => exact h.elim
 | cons x raws ih =>
  intro is is' h hr
  cases is with
  | nil => exact h.elim
  | cons i is =>
   obtain ⟨ho, _, _, nb, t, s, e, hD, _⟩ := h.1
   cases hr with
   | @cons _ i' _ is2 h1 h2 h3 =>
    refine .cons ?_ (ih h.2 h3)
    have ed : i'.D = [tightDB (paraDB nb t s e x)] := by rw [h1]; show i.D.map tightDB = _; rw [hD]; rfl
    have hs1 : ShowT tkF i'.D (tkF x) := by
     rw [ed]
     refine .one ?_ text_shows
     rw [tightDB_para]; exact ⟨_, _, rfl⟩
    have := item_shows h2 hs1
    have e2 : (fun l => tkF x (l ++ liO ++ itemHd (i'.D.map DB.v)) ++ liC) = ab (tkIt x) := by
     funext l
     rw [ed, tightDB_para]
     have : itemHd ([(⟨.iface ty_P_Text (.pointer (some ⟨t, 0, none⟩)), [paraC nb s e t], [⟨t, s, e, x⟩]⟩ : DB)].map DB.v) = [] := by
      show itemHd [Value.iface ty_P_Text (.pointer (some ⟨t, 0, none⟩))] = []
      rw [itemHd_cons, show isText (.iface ty_P_Text (.pointer (some ⟨t, 0, none⟩))) = true by simp [isText]]
      rfl
     rw [this]
     simp [ab, tkF, tkIt]
    show DB.shows tkF i'.db (ab (tkIt x))
    rw [← e2]; exact this
theorem compL_tk : ∀ (xs : List (List UInt8)) (l : List UInt8), compL (xs.map fun s => ab (tkIt s)) l = l ++ xs.flatMap tkIt
 | [], l => by simp [compL]
 | x :: xs, l => by
  show compL (xs.map fun s => ab (tkIt s)) (ab (tkIt x) l) = _
  rw [compL_tk xs]
  simp [ab]
end Go.Proofs.YtgbgadkldalkbaaGreatDoor


set_option linter.unusedVariables false
namespace Go.Proofs.YtgbgadkldalkbaaGreatDoor
open Go.Proofs Go.IntWalk Go.RowKit
variable {σ : Out} {w : World} {L L' : List Chunk} {R : Ending → World → Prop}
structure TkRaw (op : Opt) (raw : List UInt8) : Prop where
 kr : KR raw
 inl : InlinePl op raw
 fin : Leaf.finN (.para [raw])
structure TkLine (c : UInt8) (num : Nat) (l raw : List UInt8) : Prop where
 bul : ∃ n l2, BulL (lnOf l 10) c num n l2 ∧ l2.rest = raw ∧ 1 ≤ n ∧ n < 100
 nl : noNL l
 z : 0 ∉ l
 len : l.length ≤ 100
inductive TkLs (op : Opt) (c : UInt8) (nf : Nat → Nat) : Nat → List (List UInt8) → List (List UInt8) → Prop where
 | nil {m : Nat} : TkLs op c nf m [] []
 | cons {m : Nat} {l raw : List UInt8} {ls raws : List (List UInt8)} : TkLine c (nf m) l raw → TkRaw op raw → TkLs op c nf (m + 1) ls raws → TkLs op c nf m (l :: ls) (raw :: raws)
theorem TkLs.len {op : Opt} {c : UInt8} {nf : Nat → Nat} {m : Nat} {ls raws : List (List UInt8)} (h : TkLs op c nf m ls raws) : ls.length = raws.length := by
 induction h with
 | nil => rfl
 | cons _ _ _ ih => simp [ih]
theorem TkLs.raw {op : Opt} {c : UInt8} {nf : Nat → Nat} {m : Nat} {ls raws : List (List UInt8)} (h : TkLs op c nf m ls raws) : ∀ r ∈ raws, TkRaw op r := by
 induction h with
 | nil => simp
 | cons _ h2 _ ih =>
  intro r hr
  rcases List.mem_cons.1 hr with rfl | hr
  ·exact h2
  ·exact ih r hr
def tkT (ls : List (List UInt8)) : List UInt8 := ls.flatMap fun l => l ++ [10]
theorem TkLs.lines {op : Opt} {c : UInt8} {nf : Nat → Nat} {m : Nat} {ls raws : List (List UInt8)} (h : TkLs op c nf m ls raws) : LinesOf (tkT ls) (ls.map fun l => (l, 10)) ∧ 0 ∉ tkT ls ∧ (tkT ls).length ≤ ls.length * 101 := by
 induction h with
 | nil => exact ⟨.nil, by simp [tkT], by simp [tkT]⟩
 | @cons m l raw ls raws h1 _ _ ih =>
  have e : tkT (l :: ls) = l ++ 10 :: tkT ls := by simp [tkT]
  have := h1.len
  rw [e]
  refine ⟨.cons h1.nl ih.1, ?_, by simp only [List.length_append, List.length_cons]; omega⟩
  rw [List.mem_append, List.mem_cons]
  rintro (h0 | h0 | h0)
  ·exact h1.z h0
  ·cases h0
  ·exact ih.2.1 h0
def TkI (op : Opt) (c : UInt8) (nf : Nat → Nat) (lines raws : List (List UInt8)) (rem : List (List UInt8 × UInt8)) (n : Nat) (fs : List Bk) (lf : Leaf) : Prop :=
 (rem = lines.map (fun l => (l, 10)) ∧ n = 0 ∧ lf = .none ∧ ∃ root, fs = [root] ∧ root.isRoot ∧ root.D = []) ∨
 ∃ root f g lb it pre cur sufL suf its n0, fs = [root, f, g] ∧ root.isRoot ∧ root.D = [] ∧ f.isList lb c.toNat (nf 0 : Nat) it ∧ ItemOf it g lb n0 true ∧ (1 ≤ n0 ∧ n0 < 100) ∧ pre ++ cur :: suf = raws ∧ TkLs op c nf (pre.length + 1) sufL suf ∧ rem = sufL.map (fun l => (l, 10)) ∧
  f.D = its.map IT.db ∧ ItR 1 1 pre its ∧ g.ob.s = 1 + pre.length ∧ g.ob.e = g.ob.s ∧ lf = .para [cur] ∧ g.D = [] ∧ n = g.ob.s
theorem joinL_one1 (s : List UInt8) : joinL [10] [s] = s := by simp [joinL]
theorem tk_step {op : Opt} {c : UInt8} {nf : Nat → Nat} {lines raws : List (List UInt8)} (hT : TkLs op c nf 0 lines raws) (hlen : raws.length ≤ 20) {l : List UInt8} {nl : UInt8} {rem : List (List UInt8 × UInt8)} {n : Nat} {fs : List Bk} {lf : Leaf} (hI : TkI op c nf lines raws ((l, nl) :: rem) n fs lf) :
 StepC [] op (n + 1) l nl fs lf (TkI op c nf lines raws rem (n + 1)) := by
 intro σ R L b pb p w _ hop hpz hln hn9 h hR
 rcases hI with ⟨hrem, rfl, rfl, root, rfl, hr, hD⟩ | ⟨root, f, g, lb, it, pre, cur, sufL, suf, its, n0, rfl, hr, hrD, hf, hg, hn0, he, hsuf, hrem, hfD, hIt, hgs, hge, rfl, hgD, rfl⟩
 ·cases hT with
  | nil => cases hrem
  | @cons _ l0 raw ls rs h1 h2 h3 =>
   simp only [List.map_cons, List.cons.injEq, Prod.mk.injEq] at hrem
   obtain ⟨⟨rfl, rfl⟩, rfl⟩ := hrem
   obtain ⟨n1, l2, hB, hrest, hn1⟩ := h1.bul
   refine addLine_item0 (op := op) h hr hB hpz hop (by omega) fun w p' f g lb it b1 b2 hf hfD hfs hgI hgD hgs hge h => ?_
   rw [hrest] at h
   exact hR w p' [root, f, g] (.para [raw]) b1 b2 (.inr ⟨root, f, g, lb, it, [], raw, ls, rs, [], n1, rfl, hr, hD, hf, hgI, hn1, rfl, h3, rfl, by rw [hfD]; rfl, trivial, by rw [hgs, hln]; simp, by rw [hge, hgs], rfl, hgD, by rw [hgs, hln]⟩) h
 ·cases hsuf with
  | nil => cases hrem
  | @cons _ l0 raw ls rs h1 h2 h3 =>
   simp only [List.map_cons, List.cons.injEq, Prod.mk.injEq] at hrem
   obtain ⟨⟨rfl, rfl⟩, rfl⟩ := hrem
   obtain ⟨n1, l2, hB, hrest, hn1⟩ := h1.bul
   have hpl := congrArg List.length he
   simp only [List.length_append, List.length_cons] at hpl
   have hil := hIt.len
   have hitx := hIt.txs
   have hcur : TkRaw op cur := hT.raw cur (by rw [← he]; simp)
   refine addLine_item (op := op) (pb := pb) (n := n1) (l2 := l2) h hr hf hg hn0 hB hcur.fin hpz hop (by omega) (by rw [hfD]; simp; omega) (by rw [hgD]; decide) ?_ fun w p' f' g' it' b1 b2 hf' hcl hg' hgD' hgs' hge' h => ?_
   ·have : txF [root, f, g] = txsC root.D ++ (txsC f.D ++ (txsC g.D ++ [])) := rfl
    rw [this, hrD, hfD, hgD]
    simp only [List.length_append, show txsC ([] : List DB) = [] from rfl, List.length_nil]
    omega
   ·obtain ⟨i, i1, i2, i3, i4, i5, i6, i7⟩ := hcl
    obtain ⟨nb, t, s, e, hD, hs, he2⟩ := i7
    rw [hgD, joinL_one1] at hD
    rw [hrest] at h
    have hItG : ItG (1 + 1 * pre.length) cur i := ⟨i2, by rw [i3, hgs]; omega, by rw [i4, hge, hgs]; omega, nb, t, s, e, hD, hs, by rw [he2]; simp; omega⟩
    refine hR w p' [root, f', g'] (.para [raw]) b1 b2 (.inr ⟨root, f', g', lb, it', pre ++ [cur], raw, ls, rs, its ++ [i], n1, rfl, hr, hrD, hf', hg', hn1, by rw [← he]; simp, ?_, rfl, ?_, hIt.snoc hItG, ?_, ?_, rfl, hgD', ?_⟩) h
    ·rw [List.length_append, List.length_singleton]; exact h3
    ·rw [i1, hfD]; simp
    ·rw [hgs', hln, hgs, List.length_append, List.length_singleton]; omega
    ·rw [hge', hgs']
    ·rw [hgs', hln]
theorem tk_finish {b pb : Nat} {op : Opt} {c : UInt8} {nf : Nat → Nat} {lines raws : List (List UInt8)} {n : Nat} {fs : List Bk} {lf : Leaf} {p : PS} (hT : TkLs op c nf 0 lines raws) (hne : raws ≠ []) (hlen : raws.length ≤ 20) (hI : TkI op c nf lines raws [] n fs lf) (h : DocC σ b L fs lf p w) (hpz : p.pz = some ⟨pb, 0, none⟩) (hop : op.at pb ∈ L) (htask : op.task = true) (hLq : p.Lq = none ∧ p.Ln = 0 ∧ p.Lc = 0)
 (hR : ∀ w (p' : PS) nb s e q1 n1 c1 IM1 is is' db IM TM LM q n c0 s0 e0, p'.base = { p.base with root := some ⟨db, 0, none⟩, Lq := p'.Lq, Ln := 1, Lc := p'.Lc } → Sl 1 ty_P_List p'.Lq 1 p'.Lc [.pointer (some ⟨nb, 0, none⟩)] LM → ItR 1 1 raws is → Ret is is' → Sl 1 ty_Block q1 n1 c1 (is'.map IT.v) IM1 → n1 < 1000000 →
  Txts p' ((txsC (is'.map IT.db)).map TX.t) TM → Sl 1 ty_Block q n c0 [(lisDB nb s e c.toNat (nf 0 : Nat) false q1 n1 c1 IM1 is').v] IM → n < 1000000 →
  Sat σ w (p'.at b :: (TM ++ ((txsC (is'.map IT.db)).map TX.chunk ++ (docC db s0 e0 q n c0 p.links :: (IM ++ ((lisDB nb s e c.toNat (nf 0 : Nat) false q1 n1 c1 IM1 is').own ++ (LM ++ L))))))) → R (.returned (.tuple #[])) w) :
 callE P i_parseState_trimStack #[.pointer (some ⟨b, 0, none⟩), .int .i64 0] R w := by
 rcases hI with ⟨hrem, _⟩ | ⟨root, f, g, lb, it, pre, cur, sufL, suf, its, n0, rfl, hr, hrD, hf, hg, hn0, he, hsuf, hrem, hfD, hIt, hgs, hge, rfl, hgD, rfl⟩
 ·have h1 := hT.len
  have h2 := congrArg List.length hrem
  simp only [List.length_nil, List.length_map] at h2
  exact absurd (List.eq_nil_of_length_eq_zero (by omega)) hne
 have hs0 : suf = [] := by
  have h1 := hsuf.len
  have h2 := congrArg List.length hrem
  simp only [List.length_nil, List.length_map] at h2
  exact List.eq_nil_of_length_eq_zero (by omega)
 subst hs0
 have hpl := congrArg List.length he
 simp only [List.length_append, List.length_cons] at hpl
 have hil := hIt.len
 have hitx := hIt.txs
 have hcur : TkRaw op cur := hT.raw cur (by rw [← he]; simp)
 refine g_parseState_trimStack.sound ?_
 have h0 := h
 obtain ⟨M, TM, lobs, LM, hs, ht, hok, hL, h⟩ := h
 refine nilP_some ?_
 refine ⟨_, _, _, h.ldA, ?_⟩
 refine br_false (by simp) ?_
 intro X hX
 refine closeItem1 (k := 0) (gs := [root]) (n := n0) (hv := true) hX (by omega) h0 hf hg.item hcur.fin (by rw [hfD]; simp; omega) (by rw [hgD]; decide) ?_ fun w p1 f' b1 b2 b3 hf' hcl h => ?_
 ·have : txF ([root] ++ [f, g]) = txsC root.D ++ (txsC f.D ++ (txsC g.D ++ [])) := rfl
  rw [this, hrD, hfD, hgD]
  simp only [List.length_append, show txsC ([] : List DB) = [] from rfl, List.length_nil]
  omega
 obtain ⟨i, i1, i2, i3, i4, i5, i6, i7⟩ := hcl
 obtain ⟨nb, tt, s, e, hiD, hs9, hse⟩ := i7
 rw [hgD, joinL_one1] at hiD
 have hItG : ItG (1 + 1 * pre.length) cur i := ⟨i2, by rw [i3, hgs]; omega, by rw [i4, hge, hgs]; omega, nb, tt, s, e, hiD, hs9, by rw [hse]; simp; omega⟩
 have hAll : ItR 1 1 raws (its ++ [i]) := by rw [← he]; exact hIt.snoc hItG
 have hgap := hAll.gap1
 have hfD' : f'.D = (its ++ [i]).map IT.db := by rw [i1, hfD]; simp
 have h : DocC σ b L ([] ++ [root, f']) .none p1 w := h
 have hok' : ∀ q ∈ [root, f'], Bk.ok q := h.choose_spec.choose_spec.choose_spec.choose_spec.2.2.1
 obtain ⟨hfo1, hfo2, _⟩ := hok' f' (by simp)
 have hfn : f'.ob.n < 1000000 := by have := hfo1.1; rw [hfD'] at this; simp at this; omega
 have hLq1 : p1.Lq = none ∧ p1.Ln = 0 ∧ p1.Lc = 0 := ⟨by have := congrArg PS.Lq b1; exact this.trans hLq.1, by have := congrArg PS.Ln b1; exact this.trans hLq.2.1, by have := congrArg PS.Lc b1; exact this.trans hLq.2.2⟩
 refine trim_step (k := 0) hX h (by simp) ?_
 refine closeListT (op := op) (pb := pb) (pos := posQ) h hf' hfD' (by simp) hAll.facts (by rw [base_ln b1]; exact hpz) hop htask hLq1 (by rw [hrD]; decide) fun w p2 root' nb2 e2 items' LM2 x c1 cS c2 c3 c4 lk htg hie hrD' h => ⟨_, rfl, ?_⟩
 rw [hgap] at htg hrD'
 rw [hrD] at hrD'
 have hret : Ret (its ++ [i]) items' := by
  rcases htg with ⟨hh, _⟩ | ⟨_, hr⟩
  ·cases hh
  ·exact hr
 have hSl : Sl 1 ty_Block f'.ob.q f'.ob.n f'.ob.c (items'.map IT.v) f'.IM := by
  rw [hret.vs]
  have : f'.D.map DB.v = (its ++ [i]).map IT.v := by rw [hfD']; simp [Function.comp_def, IT.db]
  rw [← this]; exact hfo1
 obtain ⟨rb, r1, r2⟩ := hr
 have hbd' : root'.ob.bd = rootV rb := lk.1.trans r1
 have hown' : root'.own = [(rb, cel [] ty_rootBuilder)] := lk.2.2.2.trans r2
 obtain ⟨M, TM, lobs, LM3, hs, ht, hok, ⟨rfl, rfl⟩, h⟩ := h
 have hs : Stk p2 [root'.ob] M := hs
 have hn : p2.stn = 1 := hs.2.1
 have hlk : p2.links = p.links := by
  have a := congrArg PS.links c1
  have b := congrArg PS.links b1
  exact Eq.trans a b
 refine hX _ _ _ (nilP_some ?_)
 refine ⟨_, _, _, h.ldA, ?_⟩
 rw [hn]
 refine br_true rfl ?_
 refine closeRoot_ok h hs hbd' fun w db h => ⟨_, rfl, hX _ _ _ (nilP_some ?_)⟩
 refine ⟨_, _, _, h.ldA, ?_⟩
 refine br_false rfl ?_
 obtain ⟨hI2, hDl, _⟩ := hok root' (by simp)
 have hIl := hI2.1
 simp only [List.length_map, Nat.mul_one] at hIl
 rw [hrD'] at hI2 hDl hIl
 have htx : txF ([] ++ [root']) = txsC (items'.map IT.db) := by
  show txsC root'.D ++ [] = _
  rw [hrD']; simp [txsC, lisDB]
 rw [htx] at ht
 refine hR w { p2 with stn := 0, root := some ⟨db, 0, none⟩ } nb2 f'.ob.s e2 f'.ob.q f'.ob.n f'.ob.c f'.IM (its ++ [i]) items' db root'.IM TM LM2 root'.ob.q root'.ob.n root'.ob.c root'.ob.s root'.ob.e ?_ cS hAll hret hSl hfn (ht.of rfl rfl rfl) hI2 ?_ ?_
 ·have e : ({ p2 with stn := 0, root := some ⟨db, 0, none⟩ } : PS).base = { p2.base with root := some ⟨db, 0, none⟩ } := rfl
  rw [e, c1, b1]
 ·simp at hIl; omega
 ·rw [← hlk]
  have hm : memFs ([] ++ [root']) = root'.IM ++ ([(rb, cel [] ty_rootBuilder)] ++ ((lisDB nb2 f'.ob.s e2 c.toNat (nf 0 : Nat) false f'.ob.q f'.ob.n f'.ob.c f'.IM items').own ++ (txsC (items'.map IT.db)).map TX.chunk)) := by
   show memFs [root'] = _
   rw [memFs_one, hown', hrD']
   simp [ownC, txc, txsC, lisDB]
  rw [hm] at h
  have h : Sat σ w (({ p2 with stn := 0, root := some ⟨db, 0, none⟩ } : PS).at b :: M ++ (docC db root'.ob.s root'.ob.e root'.ob.q root'.ob.n root'.ob.c p2.links :: (TM ++ (root'.IM ++ ([(rb, cel [] ty_rootBuilder)] ++ ((lisDB nb2 f'.ob.s e2 c.toNat (nf 0 : Nat) false f'.ob.q f'.ob.n f'.ob.c f'.IM items').own ++ (txsC (items'.map IT.db)).map TX.chunk)) ++ ([] ++ (LM2 ++ L)))))) := h
  exact h.less (M ++ [(rb, cel [] ty_rootBuilder)])
end Go.Proofs.YtgbgadkldalkbaaGreatDoor


set_option linter.unusedVariables false
namespace Go.Proofs.YtgbgadkldalkbaaGreatDoor
open Go.Proofs Go.IntWalk Go.RowKit
variable {σ : Out} {w : World} {L L' : List Chunk} {R : Ending → World → Prop}
def TkMark (c : UInt8) (n0 : Nat) (O C : List UInt8) : Prop := (c = 45 ∧ n0 = 0 ∧ O = ulO ∧ C = ulC) ∨ (c = 46 ∧ n0 = 1 ∧ O = olO ∧ C = olC)
theorem html_tasks {op : Opt} {c : UInt8} {nf : Nat → Nat} {O C : List UInt8} {lines raws : List (List UInt8)} (htask : op.task = true) (hm : TkMark c (nf 0) O C) (hT : TkLs op c nf 0 lines raws) (hne : raws ≠ []) (hlen : raws.length ≤ 20) :
 ParsesTo op (tkT lines) (O ++ raws.flatMap tkIt ++ C) := by
 obtain ⟨hL, h00, htl⟩ := hT.lines
 have hlr := hT.len
 intro σ R L w pb h ho hR
 refine g_Parser_parse.sound ?_
 refine Sat.bx h fun b w h => ?_
 refine h.stA 0 fun w h => ?_
 have h : Sat σ w ((PS0 (some ⟨pb, 0, none⟩)).at b :: L) := h
 refine zzContains_ok (sub := [0]) (by omega) (by decide) ⟨_, rfl, ?_⟩
 rw [idx_none h00]
 refine br_false rfl ?_
 refine h.stA 0 fun w h => ?_
 refine Sat.bx h fun rb w h => ?_
 let p0 : PS := { PS0 (some ⟨pb, 0, none⟩) with depth := -1 }
 have h : Sat σ w (p0.at b :: [] ++ ((rb, cel [] ty_rootBuilder) :: L)) := h.up1
 have hstk : Stk p0 [] [] := ⟨Sl.nil 4 ty_openBlock, rfl, by simp⟩
 refine addBlock_ok h hstk rfl (by decide) fun w p1 M hp1 hs1 h => ⟨rfl, ?_⟩
 intro X hX
 have hll := hL.len
 have e1 : p1.base = p0.base := by rw [hp1]; rfl
 have e2 : p1.lineno = 0 := by rw [hp1]; rfl
 have htx : Txts p1 [] [] := by
  have : p1.tq = none ∧ p1.tn = 0 ∧ p1.tc = 0 := by rw [hp1]; exact ⟨rfl, rfl, rfl⟩
  obtain ⟨a, b, c⟩ := this
  unfold Txts
  rw [a, b, c]
  exact ⟨Sl.nil 1 ty_P_Text, rfl, by simp⟩
 let root : Bk := ⟨⟨rootV rb, none, 0, 0, 0, 0⟩, [(rb, cel [] ty_rootBuilder)], [], []⟩
 have hd : DocC σ b L [root] .none p1 w := by
  refine ⟨M, [], [], [], hs1, htx, fun f hf => ?_, ⟨rfl, rfl⟩, ?_⟩
  ·obtain rfl := List.mem_singleton.1 hf
   exact ⟨Sl.nil 1 ty_Block, by simp [root], by show 0 < 1000000000; decide, by show 0 < 1000000000; decide⟩
  ·have em : memFs [root] = [(rb, cel [] ty_rootBuilder)] := by simp [root, memFs_one, ownC, txc, txsC]
   rw [em]
   exact h
 refine lines_okC (L0 := []) (p0 := p0) (op := op) (I := TkI op c nf lines raws) (fun l nl rem n fs lf hI => tk_step hT hlen hI) (by simp) hX ho rfl ?_ hL w p1 [root] .none (by omega) (by rw [e2]; omega) e1 (by rw [e2]; exact .inl ⟨rfl, rfl, rfl, root, rfl, ⟨rb, rfl, rfl⟩, rfl⟩) hd
 intro w p fs lf hb hI hds
 have hpz0 : p.pz = some ⟨pb, 0, none⟩ := by have := congrArg PS.pz hb; exact this
 have hLq0 : p.Lq = none ∧ p.Ln = 0 ∧ p.Lc = 0 := ⟨by have := congrArg PS.Lq hb; exact this, by have := congrArg PS.Ln hb; exact this, by have := congrArg PS.Lc hb; exact this⟩
 have hlk0 : p.links = none := by have := congrArg PS.links hb; exact this
 refine br_false (by rw [bs_toList, mk_toList]; rfl) ?_
 refine tk_finish hT hne hlen hI hds hpz0 ho htask hLq0 fun w p' nb s e q1 n1 c1 IM1 is is' db IM TM LM q n c0 s0 e0 hb' hLL hIt hret hS1 hn1 ht hIM hn h => ⟨rfl, ?_⟩
 have hpz : p'.pz = some ⟨pb, 0, none⟩ := by have := congrArg PS.pz hb'; exact this.trans hpz0
 have hlk : p'.links = none := by have := congrArg PS.links hb'; exact this.trans hlk0
 have hrt : p'.root = some ⟨db, 0, none⟩ := by have := congrArg PS.root hb'; exact this
 have hLn : p'.Ln = 1 := by have := congrArg PS.Ln hb'; exact this
 obtain ⟨hIX, hraw⟩ := tight_itemX hIt hret
 have hlen' : is'.length < 1000000 := by have := hS1.1; simp at this; omega
 have hxr : ∀ x ∈ txsC (is'.map IT.db), TkRaw op x.raw := fun x hx => hT.raw _ (by rw [← hraw]; exact List.mem_map_of_mem hx)
 refine ⟨_, _, _, Sat.ld h (.head _) (i := 11) rfl, ?_⟩
 refine texts_task (nb := nb) (s0 := s) (e0 := e) (bul := c.toNat) (num := (nf 0 : Nat)) (lo := false) h ht hpz (by simp [ho]) htask hlk hLL hLn (fun x hx => by simp [hx]) (fun x hx => (hxr x hx).inl) hS1 hlen' hIX (fun x hx => (hxr x hx).kr) (fun y hy => ?_) fun w p2 ts hp2 hf h => ?_
 ·have : y ∈ (lisDB nb s e c.toNat (nf 0 : Nat) false q1 n1 c1 IM1 is').own := hy
  simp [this]
 have hrt2 : p2.root = some ⟨db, 0, none⟩ := by have := congrArg PS.root hp2; rw [show p2.root = p'.root from this]; exact hrt
 unfold g_Parser_parse.k4
 refine h.tk fun w h => ?_
 refine ⟨_, Sat.ld h (.head _) (i := 1) rfl, _, Sat.ld h (.head _) (i := 6) rfl, ?_⟩
 rw [hrt2]
 have hsh := tight_show hIt hret
 have hSh : Show tkF [lisDB nb s e c.toNat (nf 0 : Nat) false q1 n1 c1 IM1 is'] [fun l => compL (raws.map fun raw => ab (tkIt raw)) (l ++ O) ++ C] := by
  refine .cons ?_ .nil
  rcases hm with ⟨rfl, h0, rfl, rfl⟩ | ⟨rfl, h0, rfl, rfl⟩
  ·exact list_shows (by decide) hS1 (by omega) hsh
  ·rw [h0]
   exact olist_shows hS1 (by omega) hsh
 have hf' : Filled tkF (txsC [lisDB nb s e c.toNat (nf 0 : Nat) false q1 n1 c1 IM1 is']) ts := by
  have : txsC [lisDB nb s e c.toNat (nf 0 : Nat) false q1 n1 c1 IM1 is'] = txsC (is'.map IT.db) := by simp [txsC, lisDB]
  rw [this]; exact hf
 obtain ⟨KM, KM', hP, hcnt⟩ := docs_print hSh ts hf'
 refine hR w db p2.corner (docC db s0 e0 q n c0 p.links :: (IM ++ KM)) (docC db s0 e0 q n c0 p.links :: (IM ++ KM')) (compL [fun l => compL (raws.map fun raw => ab (tkIt raw)) (l ++ O) ++ C]) (doc_prints hIM (by omega) hP) ?_ ?_
 ·show compL (raws.map fun raw => ab (tkIt raw)) ([] ++ O) ++ C = _
  rw [compL_tk]; simp
 ·refine Sat.less (p2.at b :: (TM ++ LM)) h fun a => ?_
  have := hcnt a
  have e3 : txsC [lisDB nb s e c.toNat (nf 0 : Nat) false q1 n1 c1 IM1 is'] = txsC (is'.map IT.db) := by simp [txsC, lisDB]
  have e4 : ownC [lisDB nb s e c.toNat (nf 0 : Nat) false q1 n1 c1 IM1 is'] = (lisDB nb s e c.toNat (nf 0 : Nat) false q1 n1 c1 IM1 is').own := by simp [ownC]
  rw [e3, e4] at this
  simp only [List.append_eq, cnt_append, cnt_cons, cnt_nil] at this ⊢
  omega
end Go.Proofs.YtgbgadkldalkbaaGreatDoor


set_option linter.unusedVariables false
set_option maxRecDepth 20000
namespace Go.Proofs.YtgbgadkldalkbaaGreatDoor
open Go.Proofs
namespace g_spec_BlockHTML
noncomputable def body : Code := bodyOf Tryz.f9
end g_spec_BlockHTML
def g_spec_BlockHTML (R : EP) (x0_0 : Int) (x0_1 x0_2 : BA) (x0_3 : Int) (x0_4 : BA) (x0_5 : Bool) (x0_6q : OA) (x0_6n x0_6c : Nat) (x0_7q : OA) (x0_7n x0_7c : Nat) (x0_8 x0_9 : Int) (w : World) : Prop :=
 box w (N10.C {a0 := x0_0, a1 := x0_1, a2 := x0_2, a3 := x0_3, a4 := x0_4, a5 := x0_5, q6 := x0_6q, n6 := x0_6n, c6 := x0_6c, q7 := x0_7q, n7 := x0_7n, c7 := x0_7c, a8 := x0_8, a9 := x0_9}) ty_spec_Node fun b1 w2 =>
 ∃ (v3 : Int), w2.cell? ⟨b1, 0, none⟩ = some (.int .i64 v3) ∧
 br (v3 == 1)
 (∃ (v4q : OA), ∃ (v4n : Nat), ∃ (v4c : Nat), w2.cell? ⟨b1, 7, none⟩ = some (.slice v4q v4n v4c) ∧
 callE P i_spec_BlocksHTML #[.slice v4q v4n v4c] (fun e w6 => ∃ (r5 : BA), e = .returned (.string r5) ∧
 R (.returned (.string r5)) w6) w2)
 (br (v3 == 2)
 (∃ (v7q : OA), ∃ (v7n : Nat), ∃ (v7c : Nat), w2.cell? ⟨b1, 7, none⟩ = some (.slice v7q v7n v7c) ∧
 callE P i_spec_BlocksHTML #[.slice v7q v7n v7c] (fun e w9 => ∃ (r8 : BA), e = .returned (.string r8) ∧
 (((ByteArray.mk #[60, 98, 108, 111, 99, 107, 113, 117, 111, 116, 101, 62, 10]).size + r8.size : Nat) : Int) ≤ IntKind.i64.max ∧
 ((((ByteArray.mk #[60, 98, 108, 111, 99, 107, 113, 117, 111, 116, 101, 62, 10]) ++ r8).size + (ByteArray.mk #[60, 47, 98, 108, 111, 99, 107, 113, 117, 111, 116, 101, 62, 10]).size : Nat) : Int) ≤ IntKind.i64.max ∧
 R (.returned (.string (((ByteArray.mk #[60, 98, 108, 111, 99, 107, 113, 117, 111, 116, 101, 62, 10]) ++ r8) ++ (ByteArray.mk #[60, 47, 98, 108, 111, 99, 107, 113, 117, 111, 116, 101, 62, 10])))) w9) w2)
 (br (v3 == 3)
 (ldB10 w2 b1 fun m10 =>
 callE P i_spec_listHTML #[m10.V] (fun e w21 => ∃ (r20 : BA), e = .returned (.string r20) ∧
 R (.returned (.string r20)) w21) w2)
 (br (v3 == 5)
 (∃ (v22 : Int), w2.cell? ⟨b1, 3, none⟩ = some (.int .i64 v22) ∧
 callE P i_spec_digits #[.int .i64 v22] (fun e w24 => ∃ (r23 : BA), e = .returned (.string r23) ∧
 (((ByteArray.mk #[104]).size + r23.size : Nat) : Int) ≤ IntKind.i64.max ∧
 (((ByteArray.mk #[60]).size + ((ByteArray.mk #[104]) ++ r23).size : Nat) : Int) ≤ IntKind.i64.max ∧
 ((((ByteArray.mk #[60]) ++ ((ByteArray.mk #[104]) ++ r23)).size + (ByteArray.mk #[62]).size : Nat) : Int) ≤ IntKind.i64.max ∧
 ∃ (v25q : OA), ∃ (v25n : Nat), ∃ (v25c : Nat), w24.cell? ⟨b1, 7, none⟩ = some (.slice v25q v25n v25c) ∧
 callE P i_spec_InlinesHTML #[.slice v25q v25n v25c] (fun e w27 => ∃ (r26 : BA), e = .returned (.string r26) ∧
 (((((ByteArray.mk #[60]) ++ ((ByteArray.mk #[104]) ++ r23)) ++ (ByteArray.mk #[62])).size + r26.size : Nat) : Int) ≤ IntKind.i64.max ∧
 ((((((ByteArray.mk #[60]) ++ ((ByteArray.mk #[104]) ++ r23)) ++ (ByteArray.mk #[62])) ++ r26).size + (ByteArray.mk #[60, 47]).size : Nat) : Int) ≤ IntKind.i64.max ∧
 (((((((ByteArray.mk #[60]) ++ ((ByteArray.mk #[104]) ++ r23)) ++ (ByteArray.mk #[62])) ++ r26) ++ (ByteArray.mk #[60, 47])).size + ((ByteArray.mk #[104]) ++ r23).size : Nat) : Int) ≤ IntKind.i64.max ∧
 ((((((((ByteArray.mk #[60]) ++ ((ByteArray.mk #[104]) ++ r23)) ++ (ByteArray.mk #[62])) ++ r26) ++ (ByteArray.mk #[60, 47])) ++ ((ByteArray.mk #[104]) ++ r23)).size + (ByteArray.mk #[62, 10]).size : Nat) : Int) ≤ IntKind.i64.max ∧
 R (.returned (.string (((((((ByteArray.mk #[60]) ++ ((ByteArray.mk #[104]) ++ r23)) ++ (ByteArray.mk #[62])) ++ r26) ++ (ByteArray.mk #[60, 47])) ++ ((ByteArray.mk #[104]) ++ r23)) ++ (ByteArray.mk #[62, 10])))) w27) w24) w2)
 (br (v3 == 6)
 (∃ (v28q : OA), ∃ (v28n : Nat), ∃ (v28c : Nat), w2.cell? ⟨b1, 7, none⟩ = some (.slice v28q v28n v28c) ∧
 callE P i_spec_InlinesHTML #[.slice v28q v28n v28c] (fun e w30 => ∃ (r29 : BA), e = .returned (.string r29) ∧
 (((ByteArray.mk #[60, 112, 62]).size + r29.size : Nat) : Int) ≤ IntKind.i64.max ∧
 ((((ByteArray.mk #[60, 112, 62]) ++ r29).size + (ByteArray.mk #[60, 47, 112, 62, 10]).size : Nat) : Int) ≤ IntKind.i64.max ∧
 R (.returned (.string (((ByteArray.mk #[60, 112, 62]) ++ r29) ++ (ByteArray.mk #[60, 47, 112, 62, 10])))) w30) w2)
 (br (v3 == 7)
 (tk w2 fun w31 =>
 ∃ (v32 : BA), w31.cell? ⟨b1, 2, none⟩ = some (.string v32) ∧
 ∃ (v33 : BA), w31.cell? ⟨b1, 1, none⟩ = some (.string v33) ∧
 callE P i_spec_language #[.string v32] (fun e w35 => ∃ (r34 : BA), e = .returned (.string r34) ∧
 SameC w31 w35 ⟨b1, 1, none⟩ 1 ∧
 (((ByteArray.mk #[60, 112, 114, 101, 62, 60, 99, 111, 100, 101]).size + r34.size : Nat) : Int) ≤ IntKind.i64.max ∧
 ((((ByteArray.mk #[60, 112, 114, 101, 62, 60, 99, 111, 100, 101]) ++ r34).size + (ByteArray.mk #[62]).size : Nat) : Int) ≤ IntKind.i64.max ∧
 callE P i_spec_EscapeHTML #[.string v33] (fun e w37 => ∃ (r36 : BA), e = .returned (.string r36) ∧
 (((((ByteArray.mk #[60, 112, 114, 101, 62, 60, 99, 111, 100, 101]) ++ r34) ++ (ByteArray.mk #[62])).size + r36.size : Nat) : Int) ≤ IntKind.i64.max ∧
 ((((((ByteArray.mk #[60, 112, 114, 101, 62, 60, 99, 111, 100, 101]) ++ r34) ++ (ByteArray.mk #[62])) ++ r36).size + (ByteArray.mk #[60, 47, 99, 111, 100, 101, 62, 60, 47, 112, 114, 101, 62, 10]).size : Nat) : Int) ≤ IntKind.i64.max ∧
 R (.returned (.string (((((ByteArray.mk #[60, 112, 114, 101, 62, 60, 99, 111, 100, 101]) ++ r34) ++ (ByteArray.mk #[62])) ++ r36) ++ (ByteArray.mk #[60, 47, 99, 111, 100, 101, 62, 60, 47, 112, 114, 101, 62, 10])))) w37) w35) w31)
 (br (v3 == 8)
 (∃ (v38 : BA), w2.cell? ⟨b1, 1, none⟩ = some (.string v38) ∧
 R (.returned (.string v38)) w2)
 (br (v3 == 9)
 (R (.returned (.string (ByteArray.mk #[60, 104, 114, 32, 47, 62, 10]))) w2)
 (br (v3 == 10)
 (ldB10 w2 b1 fun m39 =>
 callE P i_spec_tableHTML #[m39.V] (fun e w50 => ∃ (r49 : BA), e = .returned (.string r49) ∧
 R (.returned (.string r49)) w50) w2)
 (R (.returned (.string (ByteArray.mk #[]))) w2)))))))))

namespace g_spec_BlockHTML
noncomputable def ac (R : EP) : AC :=
 (.seq (.leaf (sel [0] body)) (.seq (.seq (.leaf (sel [1,0,0] body)) (.block 0 (.seq (.leaf (sel [1,0,1,0,0] body)) (.cond 6 (.leaf (sel [1,0,1,0,1,0] body)) (.seq (.leaf (sel [1,0,1,0,1,1,0] body)) (.cond 11 (.leaf (sel [1,0,1,0,1,1,1,0] body)) (.seq (.leaf (sel [1,0,1,0,1,1,1,1,0] body)) (.cond 18 (.leaf (sel [1,0,1,0,1,1,1,1,1,0] body)) (.seq (.leaf (sel [1,0,1,0,1,1,1,1,1,1,0] body)) (.cond 22 (.leaf (sel [1,0,1,0,1,1,1,1,1,1,1,0] body)) (.seq (.leaf (sel [1,0,1,0,1,1,1,1,1,1,1,1,0] body)) (.cond 39 (.leaf (sel [1,0,1,0,1,1,1,1,1,1,1,1,1,0] body)) (.seq (.leaf (sel [1,0,1,0,1,1,1,1,1,1,1,1,1,1,0] body)) (.cond 46 (.seq (.draw (.pure 0 (.pure 5 (.load 1 (.load 6 (.one 2 (.pure 3 (.pure 4 (.one 7 (.pure 8 (.pure 9 (.pure 10 .done))))))))))) (sel [1,0,1,0,1,1,1,1,1,1,1,1,1,1,1,0,0] body)) (.leaf (sel [1,0,1,0,1,1,1,1,1,1,1,1,1,1,1,0,1] body))) (.leaf (sel [1,0,1,0,1,1,1,1,1,1,1,1,1,1,1,1] body)))))))))))))))) (.leaf (sel [1,1] body))))
theorem good (R : EP) : Good P 68 (ac R) (QF P [.tmp 2] R) :=
 ⟨trivial, ⟨⟨trivial, ⟨trivial, ⟨trivial, ⟨trivial, ⟨trivial, ⟨trivial, ⟨trivial, ⟨trivial, ⟨trivial, ⟨trivial, ⟨trivial, ⟨trivial, ⟨⟨⟨by kernel_rfl, by kernel_rfl, fun _ _ _ h => h⟩, trivial⟩, trivial⟩⟩⟩⟩⟩⟩⟩⟩⟩⟩⟩⟩⟩, trivial⟩⟩
theorem eq (R : EP) (x0_0 : Int) (x0_1 x0_2 : BA) (x0_3 : Int) (x0_4 : BA) (x0_5 : Bool) (x0_6q : OA) (x0_6n x0_6c : Nat) (x0_7q : OA) (x0_7n x0_7c : Nat) (x0_8 x0_9 : Int) (w : World) : g_spec_BlockHTML R x0_0 x0_1 x0_2 x0_3 x0_4 x0_5 x0_6q x0_6n x0_6c x0_7q x0_7n x0_7c x0_8 x0_9 w = vcA P 68 (ac R) (QF P [.tmp 2] R) (fr0 [(N10.V {a0 := x0_0, a1 := x0_1, a2 := x0_2, a3 := x0_3, a4 := x0_4, a5 := x0_5, q6 := x0_6q, n6 := x0_6n, c6 := x0_6c, q7 := x0_7q, n7 := x0_7n, c7 := x0_7c, a8 := x0_8, a9 := x0_9})]) w := by kernel_rfl
theorem sound {R : EP} {x0_0 : Int} {x0_1 x0_2 : ByteArray} {x0_3 : Int} {x0_4 : ByteArray} {x0_5 : Bool} {x0_6q : OA} {x0_6n x0_6c : Nat} {x0_7q : OA} {x0_7n x0_7c : Nat} {x0_8 x0_9 : Int} {w : World} (h : g_spec_BlockHTML R x0_0 x0_1 x0_2 x0_3 x0_4 x0_5 x0_6q x0_6n x0_6c x0_7q x0_7n x0_7c x0_8 x0_9 w) : callE P i_spec_BlockHTML #[(N10.V {a0 := x0_0, a1 := x0_1, a2 := x0_2, a3 := x0_3, a4 := x0_4, a5 := x0_5, q6 := x0_6q, n6 := x0_6n, c6 := x0_6c, q7 := x0_7q, n7 := x0_7n, c7 := x0_7c, a8 := x0_8, a9 := x0_9})] R w :=
 callE_fz (c := body) Tryz.func9 Tryz.call9 (good R) (eq R x0_0 x0_1 x0_2 x0_3 x0_4 x0_5 x0_6q x0_6n x0_6c x0_7q x0_7n x0_7c x0_8 x0_9 w) h
end g_spec_BlockHTML
namespace g_spec_InlinesHTML
noncomputable def body : Code := bodyOf Tryz.f29
def bl1 (R : EP) (Xa : OA → Nat → Nat → BA → Int → WP) (x0q : OA) (x0n x0c : Nat) (x3 : BA) (x4 : Int) (w : World) : Prop :=
 br (decide (x4 < (x0n : Int)))
 (0 ≤ x4 ∧ x4 < (x0n : Int) ∧
 nilP x0q fun a1 =>
 ldA10 w (a1.add (Int.toNat x4 * 10)) fun m2 =>
 callE P i_spec_inlineHTML #[m2.V] (fun e w13 => ∃ (r12 : BA), e = .returned (.string r12) ∧
 ((x3.size + r12.size : Nat) : Int) ≤ IntKind.i64.max ∧
 Xa x0q x0n x0c (x3 ++ r12) (IntKind.i64.wrap (x4 + 1)) w13) w)
 (R (.returned (.string x3)) w)
def l1 (R : EP) (x0q : OA) (x0n x0c : Nat) (x3 : BA) (x4 : Int) (w : World) : Prop :=
 ∀ X : OA → Nat → Nat → BA → Int → WP, (∀ x0q x0n x0c x3 x4 w, bl1 R X x0q x0n x0c x3 x4 w → X x0q x0n x0c x3 x4 w) → X x0q x0n x0c x3 x4 w

noncomputable def al1 (R : EP) (Xa : OA → Nat → Nat → BA → Int → WP) : AC :=
 (.leaf (sel [1,1,0,1,0,0] body))
end g_spec_InlinesHTML
def g_spec_InlinesHTML (R : EP) (x0q : OA) (x0n x0c : Nat) (w : World) : Prop :=
 g_spec_InlinesHTML.l1 R x0q x0n x0c (ByteArray.mk #[]) 0 w

namespace g_spec_InlinesHTML
noncomputable def ac (R : EP) : AC :=
 (.seq (.leaf (sel [0] body)) (.seq (.leaf (sel [1,0] body)) (.seq (.seq (.leaf (sel [1,1,0,0] body)) (.block 0 (.loop (leaf [(0, .s .slice), (3, .s .str), (4, .s (.int .i64))] (l1 R)) (sel [1,1,0,1,0,0] body)))) (.leaf (sel [1,1,1] body)))))
theorem good (R : EP) : Good P 19 (ac R) (QF P [.tmp 2] R) :=
 ⟨trivial, ⟨trivial, ⟨⟨trivial, (loopG (al1 R) (bl1 R) (fun _ => by kernel_rfl) (fun Xa => trivial) (fun Xa => by intro x0q x0n x0c x3 x4 ρ w; kernel_rfl) (fun X h _ _ _ _ _ _ g => g X h))⟩, trivial⟩⟩⟩
theorem eq (R : EP) (x0q : OA) (x0n x0c : Nat) (w : World) : g_spec_InlinesHTML R x0q x0n x0c w = vcA P 19 (ac R) (QF P [.tmp 2] R) (fr0 [.slice x0q x0n x0c]) w := by kernel_rfl
theorem sound {R : EP} {x0q : OA} {x0n x0c : Nat} {w : World} (h : g_spec_InlinesHTML R x0q x0n x0c w) : callE P i_spec_InlinesHTML #[.slice x0q x0n x0c] R w :=
 callE_fz (c := body) Tryz.func29 Tryz.call29 (good R) (eq R x0q x0n x0c w) h
end g_spec_InlinesHTML
namespace g_spec_inlineHTML
noncomputable def body : Code := bodyOf Tryz.f47
end g_spec_inlineHTML
def g_spec_inlineHTML (R : EP) (x0_0 : Int) (x0_1 x0_2 : BA) (x0_3 : Int) (x0_4 : BA) (x0_5 : Bool) (x0_6q : OA) (x0_6n x0_6c : Nat) (x0_7q : OA) (x0_7n x0_7c : Nat) (x0_8 x0_9 : Int) (w : World) : Prop :=
 box w (N10.C {a0 := x0_0, a1 := x0_1, a2 := x0_2, a3 := x0_3, a4 := x0_4, a5 := x0_5, q6 := x0_6q, n6 := x0_6n, c6 := x0_6c, q7 := x0_7q, n7 := x0_7n, c7 := x0_7c, a8 := x0_8, a9 := x0_9}) ty_spec_Node fun b1 w2 =>
 ∃ (v3 : Int), w2.cell? ⟨b1, 0, none⟩ = some (.int .i64 v3) ∧
 br (v3 == 20)
 (∃ (v4 : BA), w2.cell? ⟨b1, 1, none⟩ = some (.string v4) ∧
 callE P i_spec_EscapeHTML #[.string v4] (fun e w6 => ∃ (r5 : BA), e = .returned (.string r5) ∧
 R (.returned (.string r5)) w6) w2)
 (br (v3 == 21)
 (R (.returned (.string (ByteArray.mk #[10]))) w2)
 (br (v3 == 22)
 (R (.returned (.string (ByteArray.mk #[60, 98, 114, 32, 47, 62, 10]))) w2)
 (br (v3 == 23)
 (∃ (v7 : BA), w2.cell? ⟨b1, 1, none⟩ = some (.string v7) ∧
 callE P i_spec_EscapeHTML #[.string v7] (fun e w9 => ∃ (r8 : BA), e = .returned (.string r8) ∧
 (((ByteArray.mk #[60, 99, 111, 100, 101, 62]).size + r8.size : Nat) : Int) ≤ IntKind.i64.max ∧
 ((((ByteArray.mk #[60, 99, 111, 100, 101, 62]) ++ r8).size + (ByteArray.mk #[60, 47, 99, 111, 100, 101, 62]).size : Nat) : Int) ≤ IntKind.i64.max ∧
 R (.returned (.string (((ByteArray.mk #[60, 99, 111, 100, 101, 62]) ++ r8) ++ (ByteArray.mk #[60, 47, 99, 111, 100, 101, 62])))) w9) w2)
 (br (v3 == 24)
 (∃ (v10q : OA), ∃ (v10n : Nat), ∃ (v10c : Nat), w2.cell? ⟨b1, 7, none⟩ = some (.slice v10q v10n v10c) ∧
 callE P i_spec_InlinesHTML #[.slice v10q v10n v10c] (fun e w12 => ∃ (r11 : BA), e = .returned (.string r11) ∧
 (((ByteArray.mk #[60, 101, 109, 62]).size + r11.size : Nat) : Int) ≤ IntKind.i64.max ∧
 ((((ByteArray.mk #[60, 101, 109, 62]) ++ r11).size + (ByteArray.mk #[60, 47, 101, 109, 62]).size : Nat) : Int) ≤ IntKind.i64.max ∧
 R (.returned (.string (((ByteArray.mk #[60, 101, 109, 62]) ++ r11) ++ (ByteArray.mk #[60, 47, 101, 109, 62])))) w12) w2)
 (br (v3 == 25)
 (∃ (v13q : OA), ∃ (v13n : Nat), ∃ (v13c : Nat), w2.cell? ⟨b1, 7, none⟩ = some (.slice v13q v13n v13c) ∧
 callE P i_spec_InlinesHTML #[.slice v13q v13n v13c] (fun e w15 => ∃ (r14 : BA), e = .returned (.string r14) ∧
 (((ByteArray.mk #[60, 115, 116, 114, 111, 110, 103, 62]).size + r14.size : Nat) : Int) ≤ IntKind.i64.max ∧
 ((((ByteArray.mk #[60, 115, 116, 114, 111, 110, 103, 62]) ++ r14).size + (ByteArray.mk #[60, 47, 115, 116, 114, 111, 110, 103, 62]).size : Nat) : Int) ≤ IntKind.i64.max ∧
 R (.returned (.string (((ByteArray.mk #[60, 115, 116, 114, 111, 110, 103, 62]) ++ r14) ++ (ByteArray.mk #[60, 47, 115, 116, 114, 111, 110, 103, 62])))) w15) w2)
 (br (v3 == 26)
 (∃ (v16q : OA), ∃ (v16n : Nat), ∃ (v16c : Nat), w2.cell? ⟨b1, 7, none⟩ = some (.slice v16q v16n v16c) ∧
 callE P i_spec_InlinesHTML #[.slice v16q v16n v16c] (fun e w18 => ∃ (r17 : BA), e = .returned (.string r17) ∧
 (((ByteArray.mk #[60, 100, 101, 108, 62]).size + r17.size : Nat) : Int) ≤ IntKind.i64.max ∧
 ((((ByteArray.mk #[60, 100, 101, 108, 62]) ++ r17).size + (ByteArray.mk #[60, 47, 100, 101, 108, 62]).size : Nat) : Int) ≤ IntKind.i64.max ∧
 R (.returned (.string (((ByteArray.mk #[60, 100, 101, 108, 62]) ++ r17) ++ (ByteArray.mk #[60, 47, 100, 101, 108, 62])))) w18) w2)
 (br (v3 == 27)
 (tk w2 fun w19 =>
 ∃ (v20 : BA), w19.cell? ⟨b1, 1, none⟩ = some (.string v20) ∧
 ∃ (v21 : BA), w19.cell? ⟨b1, 2, none⟩ = some (.string v21) ∧
 ∃ (v22q : OA), ∃ (v22n : Nat), ∃ (v22c : Nat), w19.cell? ⟨b1, 7, none⟩ = some (.slice v22q v22n v22c) ∧
 callE P i_spec_EscapeURL #[.string v20] (fun e w24 => ∃ (r23 : BA), e = .returned (.string r23) ∧
 SameC w19 w24 ⟨b1, 7, none⟩ 1 ∧
 SameC w19 w24 ⟨b1, 2, none⟩ 1 ∧
 (((ByteArray.mk #[60, 97, 32, 104, 114, 101, 102, 61, 34]).size + r23.size : Nat) : Int) ≤ IntKind.i64.max ∧
 ((((ByteArray.mk #[60, 97, 32, 104, 114, 101, 102, 61, 34]) ++ r23).size + (ByteArray.mk #[34]).size : Nat) : Int) ≤ IntKind.i64.max ∧
 callE P i_spec_titleAttr #[.string v21] (fun e w26 => ∃ (r25 : BA), e = .returned (.string r25) ∧
 SameC w24 w26 ⟨b1, 7, none⟩ 1 ∧
 (((((ByteArray.mk #[60, 97, 32, 104, 114, 101, 102, 61, 34]) ++ r23) ++ (ByteArray.mk #[34])).size + r25.size : Nat) : Int) ≤ IntKind.i64.max ∧
 ((((((ByteArray.mk #[60, 97, 32, 104, 114, 101, 102, 61, 34]) ++ r23) ++ (ByteArray.mk #[34])) ++ r25).size + (ByteArray.mk #[62]).size : Nat) : Int) ≤ IntKind.i64.max ∧
 callE P i_spec_InlinesHTML #[.slice v22q v22n v22c] (fun e w28 => ∃ (r27 : BA), e = .returned (.string r27) ∧
 (((((((ByteArray.mk #[60, 97, 32, 104, 114, 101, 102, 61, 34]) ++ r23) ++ (ByteArray.mk #[34])) ++ r25) ++ (ByteArray.mk #[62])).size + r27.size : Nat) : Int) ≤ IntKind.i64.max ∧
 ((((((((ByteArray.mk #[60, 97, 32, 104, 114, 101, 102, 61, 34]) ++ r23) ++ (ByteArray.mk #[34])) ++ r25) ++ (ByteArray.mk #[62])) ++ r27).size + (ByteArray.mk #[60, 47, 97, 62]).size : Nat) : Int) ≤ IntKind.i64.max ∧
 R (.returned (.string (((((((ByteArray.mk #[60, 97, 32, 104, 114, 101, 102, 61, 34]) ++ r23) ++ (ByteArray.mk #[34])) ++ r25) ++ (ByteArray.mk #[62])) ++ r27) ++ (ByteArray.mk #[60, 47, 97, 62])))) w28) w26) w24) w19)
 (br (v3 == 28)
 (tk w2 fun w29 =>
 ∃ (v30 : BA), w29.cell? ⟨b1, 1, none⟩ = some (.string v30) ∧
 ∃ (v31q : OA), ∃ (v31n : Nat), ∃ (v31c : Nat), w29.cell? ⟨b1, 7, none⟩ = some (.slice v31q v31n v31c) ∧
 ∃ (v32 : BA), w29.cell? ⟨b1, 2, none⟩ = some (.string v32) ∧
 callE P i_spec_EscapeURL #[.string v30] (fun e w34 => ∃ (r33 : BA), e = .returned (.string r33) ∧
 SameC w29 w34 ⟨b1, 2, none⟩ 1 ∧
 SameC w29 w34 ⟨b1, 7, none⟩ 1 ∧
 (((ByteArray.mk #[60, 105, 109, 103, 32, 115, 114, 99, 61, 34]).size + r33.size : Nat) : Int) ≤ IntKind.i64.max ∧
 ((((ByteArray.mk #[60, 105, 109, 103, 32, 115, 114, 99, 61, 34]) ++ r33).size + (ByteArray.mk #[34, 32, 97, 108, 116, 61, 34]).size : Nat) : Int) ≤ IntKind.i64.max ∧
 callE P i_spec_Words #[.slice v31q v31n v31c] (fun e w36 => ∃ (r35 : BA), e = .returned (.string r35) ∧
 SameC w34 w36 ⟨b1, 2, none⟩ 1 ∧
 callE P i_spec_EscapeHTML #[.string r35] (fun e w38 => ∃ (r37 : BA), e = .returned (.string r37) ∧
 SameC w36 w38 ⟨b1, 2, none⟩ 1 ∧
 (((((ByteArray.mk #[60, 105, 109, 103, 32, 115, 114, 99, 61, 34]) ++ r33) ++ (ByteArray.mk #[34, 32, 97, 108, 116, 61, 34])).size + r37.size : Nat) : Int) ≤ IntKind.i64.max ∧
 ((((((ByteArray.mk #[60, 105, 109, 103, 32, 115, 114, 99, 61, 34]) ++ r33) ++ (ByteArray.mk #[34, 32, 97, 108, 116, 61, 34])) ++ r37).size + (ByteArray.mk #[34]).size : Nat) : Int) ≤ IntKind.i64.max ∧
 callE P i_spec_titleAttr #[.string v32] (fun e w40 => ∃ (r39 : BA), e = .returned (.string r39) ∧
 (((((((ByteArray.mk #[60, 105, 109, 103, 32, 115, 114, 99, 61, 34]) ++ r33) ++ (ByteArray.mk #[34, 32, 97, 108, 116, 61, 34])) ++ r37) ++ (ByteArray.mk #[34])).size + r39.size : Nat) : Int) ≤ IntKind.i64.max ∧
 ((((((((ByteArray.mk #[60, 105, 109, 103, 32, 115, 114, 99, 61, 34]) ++ r33) ++ (ByteArray.mk #[34, 32, 97, 108, 116, 61, 34])) ++ r37) ++ (ByteArray.mk #[34])) ++ r39).size + (ByteArray.mk #[32, 47, 62]).size : Nat) : Int) ≤ IntKind.i64.max ∧
 R (.returned (.string (((((((ByteArray.mk #[60, 105, 109, 103, 32, 115, 114, 99, 61, 34]) ++ r33) ++ (ByteArray.mk #[34, 32, 97, 108, 116, 61, 34])) ++ r37) ++ (ByteArray.mk #[34])) ++ r39) ++ (ByteArray.mk #[32, 47, 62])))) w40) w38) w36) w34) w29)
 (∃ (v41 : BA), w2.cell? ⟨b1, 1, none⟩ = some (.string v41) ∧
 R (.returned (.string v41)) w2)))))))))

namespace g_spec_inlineHTML
noncomputable def ac (R : EP) : AC :=
 (.seq (.leaf (sel [0] body)) (.seq (.seq (.leaf (sel [1,0,0] body)) (.block 0 (.seq (.leaf (sel [1,0,1,0,0] body)) (.cond 5 (.leaf (sel [1,0,1,0,1,0] body)) (.seq (.leaf (sel [1,0,1,0,1,1,0] body)) (.cond 10 (.leaf (sel [1,0,1,0,1,1,1,0] body)) (.seq (.leaf (sel [1,0,1,0,1,1,1,1,0] body)) (.cond 12 (.leaf (sel [1,0,1,0,1,1,1,1,1,0] body)) (.seq (.leaf (sel [1,0,1,0,1,1,1,1,1,1,0] body)) (.cond 14 (.leaf (sel [1,0,1,0,1,1,1,1,1,1,1,0] body)) (.seq (.leaf (sel [1,0,1,0,1,1,1,1,1,1,1,1,0] body)) (.cond 21 (.leaf (sel [1,0,1,0,1,1,1,1,1,1,1,1,1,0] body)) (.seq (.leaf (sel [1,0,1,0,1,1,1,1,1,1,1,1,1,1,0] body)) (.cond 28 (.leaf (sel [1,0,1,0,1,1,1,1,1,1,1,1,1,1,1,0] body)) (.seq (.leaf (sel [1,0,1,0,1,1,1,1,1,1,1,1,1,1,1,1,0] body)) (.cond 35 (.leaf (sel [1,0,1,0,1,1,1,1,1,1,1,1,1,1,1,1,1,0] body)) (.seq (.leaf (sel [1,0,1,0,1,1,1,1,1,1,1,1,1,1,1,1,1,1,0] body)) (.cond 42 (.seq (.draw (.pure 0 (.pure 5 (.pure 10 (.load 1 (.load 6 (.load 11 (.one 2 (.pure 3 (.pure 4 (.one 7 (.pure 8 (.pure 9 (.one 12 (.pure 13 (.pure 14 (.pure 15 .done)))))))))))))))) (sel [1,0,1,0,1,1,1,1,1,1,1,1,1,1,1,1,1,1,1,0,0] body)) (.leaf (sel [1,0,1,0,1,1,1,1,1,1,1,1,1,1,1,1,1,1,1,0,1] body))) (.seq (.leaf (sel [1,0,1,0,1,1,1,1,1,1,1,1,1,1,1,1,1,1,1,1,0] body)) (.cond 59 (.seq (.draw (.pure 0 (.pure 5 (.pure 11 (.load 1 (.load 6 (.load 12 (.one 2 (.pure 3 (.pure 4 (.one 7 (.one 8 (.pure 9 (.pure 10 (.one 13 (.pure 14 (.pure 15 (.pure 16 .done))))))))))))))))) (sel [1,0,1,0,1,1,1,1,1,1,1,1,1,1,1,1,1,1,1,1,1,0,0] body)) (.leaf (sel [1,0,1,0,1,1,1,1,1,1,1,1,1,1,1,1,1,1,1,1,1,0,1] body))) (.leaf (sel [1,0,1,0,1,1,1,1,1,1,1,1,1,1,1,1,1,1,1,1,1,1] body)))))))))))))))))))))) (.leaf (sel [1,1] body))))
theorem good (R : EP) : Good P 79 (ac R) (QF P [.tmp 2] R) :=
 ⟨trivial, ⟨⟨trivial, ⟨trivial, ⟨trivial, ⟨trivial, ⟨trivial, ⟨trivial, ⟨trivial, ⟨trivial, ⟨trivial, ⟨trivial, ⟨trivial, ⟨trivial, ⟨trivial, ⟨trivial, ⟨trivial, ⟨trivial, ⟨⟨⟨by kernel_rfl, by kernel_rfl, fun _ _ _ h => h⟩, trivial⟩, ⟨trivial, ⟨⟨⟨by kernel_rfl, by kernel_rfl, fun _ _ _ h => h⟩, trivial⟩, trivial⟩⟩⟩⟩⟩⟩⟩⟩⟩⟩⟩⟩⟩⟩⟩⟩⟩⟩⟩, trivial⟩⟩
theorem eq (R : EP) (x0_0 : Int) (x0_1 x0_2 : BA) (x0_3 : Int) (x0_4 : BA) (x0_5 : Bool) (x0_6q : OA) (x0_6n x0_6c : Nat) (x0_7q : OA) (x0_7n x0_7c : Nat) (x0_8 x0_9 : Int) (w : World) : g_spec_inlineHTML R x0_0 x0_1 x0_2 x0_3 x0_4 x0_5 x0_6q x0_6n x0_6c x0_7q x0_7n x0_7c x0_8 x0_9 w = vcA P 79 (ac R) (QF P [.tmp 2] R) (fr0 [(N10.V {a0 := x0_0, a1 := x0_1, a2 := x0_2, a3 := x0_3, a4 := x0_4, a5 := x0_5, q6 := x0_6q, n6 := x0_6n, c6 := x0_6c, q7 := x0_7q, n7 := x0_7n, c7 := x0_7c, a8 := x0_8, a9 := x0_9})]) w := by kernel_rfl
theorem sound {R : EP} {x0_0 : Int} {x0_1 x0_2 : ByteArray} {x0_3 : Int} {x0_4 : ByteArray} {x0_5 : Bool} {x0_6q : OA} {x0_6n x0_6c : Nat} {x0_7q : OA} {x0_7n x0_7c : Nat} {x0_8 x0_9 : Int} {w : World} (h : g_spec_inlineHTML R x0_0 x0_1 x0_2 x0_3 x0_4 x0_5 x0_6q x0_6n x0_6c x0_7q x0_7n x0_7c x0_8 x0_9 w) : callE P i_spec_inlineHTML #[(N10.V {a0 := x0_0, a1 := x0_1, a2 := x0_2, a3 := x0_3, a4 := x0_4, a5 := x0_5, q6 := x0_6q, n6 := x0_6n, c6 := x0_6c, q7 := x0_7q, n7 := x0_7n, c7 := x0_7c, a8 := x0_8, a9 := x0_9})] R w :=
 callE_fz (c := body) Tryz.func47 Tryz.call47 (good R) (eq R x0_0 x0_1 x0_2 x0_3 x0_4 x0_5 x0_6q x0_6n x0_6c x0_7q x0_7n x0_7c x0_8 x0_9 w) h
end g_spec_inlineHTML
namespace g_spec_itemHTML
noncomputable def body : Code := bodyOf Tryz.f46
def k2 (R : EP) (Xa : Bool → Nat → BA → BA → Int → WP) (x1 : Bool) (x2 : Nat) (x5 x6 : BA) (x7 : Int) (x9 : BA) (w : World) : Prop :=
 br x1
 (((x5.size + (ByteArray.mk #[60, 112, 62]).size : Nat) : Int) ≤ IntKind.i64.max ∧
 (((x5 ++ (ByteArray.mk #[60, 112, 62])).size + x9.size : Nat) : Int) ≤ IntKind.i64.max ∧
 ((((x5 ++ (ByteArray.mk #[60, 112, 62])) ++ x9).size + (ByteArray.mk #[60, 47, 112, 62, 10]).size : Nat) : Int) ≤ IntKind.i64.max ∧
 Xa x1 x2 (((x5 ++ (ByteArray.mk #[60, 112, 62])) ++ x9) ++ (ByteArray.mk #[60, 47, 112, 62, 10])) x6 (IntKind.i64.wrap (x7 + 1)) w)
 (((x5.size + x9.size : Nat) : Int) ≤ IntKind.i64.max ∧
 ∃ (v51q : OA), ∃ (v51n : Nat), ∃ (v51c : Nat), w.cell? ⟨x2, 7, none⟩ = some (.slice v51q v51n v51c) ∧
 br (decide ((IntKind.i64.wrap (x7 + 1)) < (v51n : Int)))
 ((((x5 ++ x9).size + (ByteArray.mk #[10]).size : Nat) : Int) ≤ IntKind.i64.max ∧
 Xa x1 x2 ((x5 ++ x9) ++ (ByteArray.mk #[10])) x6 (IntKind.i64.wrap (x7 + 1)) w)
 (Xa x1 x2 (x5 ++ x9) x6 (IntKind.i64.wrap (x7 + 1)) w))

def bl1 (R : EP) (Xa : Bool → Nat → BA → BA → Int → WP) (x1 : Bool) (x2 : Nat) (x5 x6 : BA) (x7 : Int) (w : World) : Prop :=
 ∃ (v10q : OA), ∃ (v10n : Nat), ∃ (v10c : Nat), w.cell? ⟨x2, 7, none⟩ = some (.slice v10q v10n v10c) ∧
 br (decide (x7 < (v10n : Int)))
 (∃ (v11q : OA), ∃ (v11n : Nat), ∃ (v11c : Nat), w.cell? ⟨x2, 7, none⟩ = some (.slice v11q v11n v11c) ∧
 0 ≤ x7 ∧ x7 < (v11n : Int) ∧
 nilP v11q fun a12 =>
 ldA10 w (a12.add (Int.toNat x7 * 10)) fun m13 =>
 box w (N10.C {}) ty_spec_Node fun b23 w24 =>
 st10 w24 b23 m13 fun w34 =>
 ∃ (v35 : Int), w34.cell? ⟨b23, 0, none⟩ = some (.int .i64 v35) ∧
 br (v35 != 6)
 (ldB10 w34 b23 fun m36 =>
 callE P i_spec_BlockHTML #[m36.V] (fun e w47 => ∃ (r46 : BA), e = .returned (.string r46) ∧
 ((x5.size + r46.size : Nat) : Int) ≤ IntKind.i64.max ∧
 Xa x1 x2 (x5 ++ r46) x6 (IntKind.i64.wrap (x7 + 1)) w47) w34)
 (∃ (v48q : OA), ∃ (v48n : Nat), ∃ (v48c : Nat), w34.cell? ⟨b23, 7, none⟩ = some (.slice v48q v48n v48c) ∧
 callE P i_spec_InlinesHTML #[.slice v48q v48n v48c] (fun e w50 => ∃ (r49 : BA), e = .returned (.string r49) ∧
 br (x7 == 0)
 (((x6.size + r49.size : Nat) : Int) ≤ IntKind.i64.max ∧
 k2 R Xa x1 x2 x5 x6 x7 (x6 ++ r49) w50)
 (k2 R Xa x1 x2 x5 x6 x7 r49 w50)) w34))
 (((x5.size + (ByteArray.mk #[60, 47, 108, 105, 62, 10]).size : Nat) : Int) ≤ IntKind.i64.max ∧
 R (.returned (.string (x5 ++ (ByteArray.mk #[60, 47, 108, 105, 62, 10])))) w)
def l1 (R : EP) (x1 : Bool) (x2 : Nat) (x5 x6 : BA) (x7 : Int) (w : World) : Prop :=
 ∀ X : Bool → Nat → BA → BA → Int → WP, (∀ x1 x2 x5 x6 x7 w, bl1 R X x1 x2 x5 x6 x7 w → X x1 x2 x5 x6 x7 w) → X x1 x2 x5 x6 x7 w

noncomputable def al1 (R : EP) (Xa : Bool → Nat → BA → BA → Int → WP) : AC :=
 (.seq (.leaf (sel [1,1,1,1,0,1,0,0,0] body)) (.seq (.block 1 (.seq (.leaf (sel [1,1,1,1,0,1,0,0,1,0,0,0] body)) (.seq (.leaf (sel [1,1,1,1,0,1,0,0,1,0,0,1,0] body)) (.seq (.leaf (sel [1,1,1,1,0,1,0,0,1,0,0,1,1,0] body)) (.seq (.leaf (sel [1,1,1,1,0,1,0,0,1,0,0,1,1,1,0] body)) (.mark (leaf [(1, .s .bool), (2, .s .loc), (5, .s .str), (6, .s .str), (7, .s (.int .i64)), (9, .s .str)] (k2 R Xa)) (.leaf (sel [1,1,1,1,0,1,0,0,1,0,0,1,1,1,1] body)))))))) (.leaf (sel [1,1,1,1,0,1,0,0,1,1] body))))
def k1 (R : EP) (x1 : Bool) (x2 : Nat) (x5 : BA) (w : World) : Prop :=
 ∃ (v7 : Int), w.cell? ⟨x2, 3, none⟩ = some (.int .i64 v7) ∧
 callE P i_spec_taskHTML #[.int .i64 v7] (fun e w9 => ∃ (r8 : BA), e = .returned (.string r8) ∧
 l1 R x1 x2 x5 r8 0 w9) w

end g_spec_itemHTML
def g_spec_itemHTML (R : EP) (x0_0 : Int) (x0_1 x0_2 : BA) (x0_3 : Int) (x0_4 : BA) (x0_5 : Bool) (x0_6q : OA) (x0_6n x0_6c : Nat) (x0_7q : OA) (x0_7n x0_7c : Nat) (x0_8 x0_9 : Int) (x1 : Bool) (w : World) : Prop :=
 box w (N10.C {a0 := x0_0, a1 := x0_1, a2 := x0_2, a3 := x0_3, a4 := x0_4, a5 := x0_5, q6 := x0_6q, n6 := x0_6n, c6 := x0_6c, q7 := x0_7q, n7 := x0_7n, c7 := x0_7c, a8 := x0_8, a9 := x0_9}) ty_spec_Node fun b1 w2 =>
 ∃ (v3q : OA), ∃ (v3n : Nat), ∃ (v3c : Nat), w2.cell? ⟨b1, 7, none⟩ = some (.slice v3q v3n v3c) ∧
 br (decide ((v3n : Int) > 0))
 (br x1
 ((((ByteArray.mk #[60, 108, 105, 62]).size + (ByteArray.mk #[10]).size : Nat) : Int) ≤ IntKind.i64.max ∧
 g_spec_itemHTML.k1 R x1 b1 ((ByteArray.mk #[60, 108, 105, 62]) ++ (ByteArray.mk #[10])) w2)
 (∃ (v4q : OA), ∃ (v4n : Nat), ∃ (v4c : Nat), w2.cell? ⟨b1, 7, none⟩ = some (.slice v4q v4n v4c) ∧
 0 ≤ (0 : Int) ∧ 0 < (v4n : Int) ∧
 nilP v4q fun a5 =>
 ∃ (v6 : Int), w2.cell? (a5.add (Int.toNat 0 * 10)) = some (.int .i64 v6) ∧
 br (v6 != 6)
 ((((ByteArray.mk #[60, 108, 105, 62]).size + (ByteArray.mk #[10]).size : Nat) : Int) ≤ IntKind.i64.max ∧
 g_spec_itemHTML.k1 R x1 b1 ((ByteArray.mk #[60, 108, 105, 62]) ++ (ByteArray.mk #[10])) w2)
 (g_spec_itemHTML.k1 R x1 b1 (ByteArray.mk #[60, 108, 105, 62]) w2)))
 (g_spec_itemHTML.k1 R x1 b1 (ByteArray.mk #[60, 108, 105, 62]) w2)

namespace g_spec_itemHTML
noncomputable def ac (R : EP) : AC :=
 (.seq (.leaf (sel [0] body)) (.seq (.leaf (sel [1,0] body)) (.seq (.leaf (sel [1,1,0] body)) (.mark (leaf [(1, .s .bool), (2, .s .loc), (5, .s .str)] (k1 R)) (.seq (.leaf (sel [1,1,1,0] body)) (.seq (.seq (.leaf (sel [1,1,1,1,0,0] body)) (.block 0 (.loop (leaf [(1, .s .bool), (2, .s .loc), (5, .s .str), (6, .s .str), (7, .s (.int .i64))] (l1 R)) (sel [1,1,1,1,0,1,0,0] body)))) (.leaf (sel [1,1,1,1,1] body))))))))
theorem good (R : EP) : Good P 76 (ac R) (QF P [.tmp 4] R) :=
 ⟨trivial, ⟨trivial, ⟨trivial, ⟨⟨trivial, ⟨⟨trivial, (loopG (al1 R) (bl1 R) (fun _ => by kernel_rfl) (fun Xa => ⟨trivial, ⟨⟨trivial, ⟨trivial, ⟨trivial, ⟨trivial, ⟨trivial, cutZ⟩⟩⟩⟩⟩, trivial⟩⟩) (fun Xa => by intro x1 x2 x5 x6 x7 ρ w; kernel_rfl) (fun X h _ _ _ _ _ _ g => g X h))⟩, trivial⟩⟩, cutZ⟩⟩⟩⟩
theorem eq (R : EP) (x0_0 : Int) (x0_1 x0_2 : BA) (x0_3 : Int) (x0_4 : BA) (x0_5 : Bool) (x0_6q : OA) (x0_6n x0_6c : Nat) (x0_7q : OA) (x0_7n x0_7c : Nat) (x0_8 x0_9 : Int) (x1 : Bool) (w : World) : g_spec_itemHTML R x0_0 x0_1 x0_2 x0_3 x0_4 x0_5 x0_6q x0_6n x0_6c x0_7q x0_7n x0_7c x0_8 x0_9 x1 w = vcA P 76 (ac R) (QF P [.tmp 4] R) (fr0 [(N10.V {a0 := x0_0, a1 := x0_1, a2 := x0_2, a3 := x0_3, a4 := x0_4, a5 := x0_5, q6 := x0_6q, n6 := x0_6n, c6 := x0_6c, q7 := x0_7q, n7 := x0_7n, c7 := x0_7c, a8 := x0_8, a9 := x0_9}), .bool x1]) w := by kernel_rfl
theorem sound {R : EP} {x0_0 : Int} {x0_1 x0_2 : ByteArray} {x0_3 : Int} {x0_4 : ByteArray} {x0_5 : Bool} {x0_6q : OA} {x0_6n x0_6c : Nat} {x0_7q : OA} {x0_7n x0_7c : Nat} {x0_8 x0_9 : Int} {x1 : Bool} {w : World} (h : g_spec_itemHTML R x0_0 x0_1 x0_2 x0_3 x0_4 x0_5 x0_6q x0_6n x0_6c x0_7q x0_7n x0_7c x0_8 x0_9 x1 w) : callE P i_spec_itemHTML #[(N10.V {a0 := x0_0, a1 := x0_1, a2 := x0_2, a3 := x0_3, a4 := x0_4, a5 := x0_5, q6 := x0_6q, n6 := x0_6n, c6 := x0_6c, q7 := x0_7q, n7 := x0_7n, c7 := x0_7c, a8 := x0_8, a9 := x0_9}), .bool x1] R w :=
 callE_fz (c := body) Tryz.func46 Tryz.call46 (good R) (eq R x0_0 x0_1 x0_2 x0_3 x0_4 x0_5 x0_6q x0_6n x0_6c x0_7q x0_7n x0_7c x0_8 x0_9 x1 w) h
end g_spec_itemHTML
namespace g_spec_listHTML
noncomputable def body : Code := bodyOf Tryz.f27
def bl1 (R : EP) (Xa : Nat → BA → BA → Int → WP) (x1 : Nat) (x3 x5 : BA) (x6 : Int) (w : World) : Prop :=
 ∃ (v8q : OA), ∃ (v8n : Nat), ∃ (v8c : Nat), w.cell? ⟨x1, 7, none⟩ = some (.slice v8q v8n v8c) ∧
 br (decide (x6 < (v8n : Int)))
 (tk w fun w9 =>
 ∃ (v10q : OA), ∃ (v10n : Nat), ∃ (v10c : Nat), w9.cell? ⟨x1, 7, none⟩ = some (.slice v10q v10n v10c) ∧
 0 ≤ x6 ∧ x6 < (v10n : Int) ∧
 nilP v10q fun a11 =>
 ldA10 w9 (a11.add (Int.toNat x6 * 10)) fun m12 =>
 ∃ (v22 : Bool), w9.cell? ⟨x1, 5, none⟩ = some (.bool v22) ∧
 callE P i_spec_itemHTML #[m12.V, .bool v22] (fun e w24 => ∃ (r23 : BA), e = .returned (.string r23) ∧
 ((x5.size + r23.size : Nat) : Int) ≤ IntKind.i64.max ∧
 Xa x1 x3 (x5 ++ r23) (IntKind.i64.wrap (x6 + 1)) w24) w9)
 (((x5.size + (ByteArray.mk #[60, 47]).size : Nat) : Int) ≤ IntKind.i64.max ∧
 (((x5 ++ (ByteArray.mk #[60, 47])).size + x3.size : Nat) : Int) ≤ IntKind.i64.max ∧
 ((((x5 ++ (ByteArray.mk #[60, 47])) ++ x3).size + (ByteArray.mk #[62, 10]).size : Nat) : Int) ≤ IntKind.i64.max ∧
 R (.returned (.string (((x5 ++ (ByteArray.mk #[60, 47])) ++ x3) ++ (ByteArray.mk #[62, 10])))) w)
def l1 (R : EP) (x1 : Nat) (x3 x5 : BA) (x6 : Int) (w : World) : Prop :=
 ∀ X : Nat → BA → BA → Int → WP, (∀ x1 x3 x5 x6 w, bl1 R X x1 x3 x5 x6 w → X x1 x3 x5 x6 w) → X x1 x3 x5 x6 w

noncomputable def al1 (R : EP) (Xa : Nat → BA → BA → Int → WP) : AC :=
 (.seq (.leaf (sel [1,1,1,1,1,0,1,0,0,0] body)) (.seq (.block 1 (.draw (.pure 0 (.pure 1 (.pure 3 (.pure 6 (.load 2 (.pure 4 (.load 5 (.load 7 (.one 8 (.pure 9 (.pure 10 .done))))))))))) (sel [1,1,1,1,1,0,1,0,0,1,0,0] body))) (.leaf (sel [1,1,1,1,1,0,1,0,0,1,1] body))))
def k1 (R : EP) (x1 : Nat) (x3 x4 : BA) (w : World) : Prop :=
 (((ByteArray.mk #[60]).size + x3.size : Nat) : Int) ≤ IntKind.i64.max ∧
 ((((ByteArray.mk #[60]) ++ x3).size + x4.size : Nat) : Int) ≤ IntKind.i64.max ∧
 (((((ByteArray.mk #[60]) ++ x3) ++ x4).size + (ByteArray.mk #[62, 10]).size : Nat) : Int) ≤ IntKind.i64.max ∧
 l1 R x1 x3 ((((ByteArray.mk #[60]) ++ x3) ++ x4) ++ (ByteArray.mk #[62, 10])) 0 w

end g_spec_listHTML
def g_spec_listHTML (R : EP) (x0_0 : Int) (x0_1 x0_2 : BA) (x0_3 : Int) (x0_4 : BA) (x0_5 : Bool) (x0_6q : OA) (x0_6n x0_6c : Nat) (x0_7q : OA) (x0_7n x0_7c : Nat) (x0_8 x0_9 : Int) (w : World) : Prop :=
 box w (N10.C {a0 := x0_0, a1 := x0_1, a2 := x0_2, a3 := x0_3, a4 := x0_4, a5 := x0_5, q6 := x0_6q, n6 := x0_6n, c6 := x0_6c, q7 := x0_7q, n7 := x0_7n, c7 := x0_7c, a8 := x0_8, a9 := x0_9}) ty_spec_Node fun b1 w2 =>
 ∃ (v3 : Int), w2.cell? ⟨b1, 3, none⟩ = some (.int .i64 v3) ∧
 br (decide (v3 ≥ 0))
 (∃ (v4 : Int), w2.cell? ⟨b1, 3, none⟩ = some (.int .i64 v4) ∧
 br (v4 != 1)
 (∃ (v5 : Int), w2.cell? ⟨b1, 3, none⟩ = some (.int .i64 v5) ∧
 callE P i_spec_digits #[.int .i64 v5] (fun e w7 => ∃ (r6 : BA), e = .returned (.string r6) ∧
 (((ByteArray.mk #[32, 115, 116, 97, 114, 116, 61, 34]).size + r6.size : Nat) : Int) ≤ IntKind.i64.max ∧
 ((((ByteArray.mk #[32, 115, 116, 97, 114, 116, 61, 34]) ++ r6).size + (ByteArray.mk #[34]).size : Nat) : Int) ≤ IntKind.i64.max ∧
 g_spec_listHTML.k1 R b1 (ByteArray.mk #[111, 108]) (((ByteArray.mk #[32, 115, 116, 97, 114, 116, 61, 34]) ++ r6) ++ (ByteArray.mk #[34])) w7) w2)
 (g_spec_listHTML.k1 R b1 (ByteArray.mk #[111, 108]) (ByteArray.mk #[]) w2))
 (g_spec_listHTML.k1 R b1 (ByteArray.mk #[117, 108]) (ByteArray.mk #[]) w2)

namespace g_spec_listHTML
noncomputable def ac (R : EP) : AC :=
 (.seq (.leaf (sel [0] body)) (.seq (.leaf (sel [1,0] body)) (.seq (.leaf (sel [1,1,0] body)) (.seq (.leaf (sel [1,1,1,0] body)) (.mark (leaf [(1, .s .loc), (3, .s .str), (4, .s .str)] (k1 R)) (.seq (.leaf (sel [1,1,1,1,0] body)) (.seq (.seq (.leaf (sel [1,1,1,1,1,0,0] body)) (.block 0 (.loop (leaf [(1, .s .loc), (3, .s .str), (5, .s .str), (6, .s (.int .i64))] (l1 R)) (sel [1,1,1,1,1,0,1,0,0] body)))) (.leaf (sel [1,1,1,1,1,1] body)))))))))
theorem good (R : EP) : Good P 45 (ac R) (QF P [.tmp 2] R) :=
 ⟨trivial, ⟨trivial, ⟨trivial, ⟨trivial, ⟨⟨trivial, ⟨⟨trivial, (loopG (al1 R) (bl1 R) (fun _ => by kernel_rfl) (fun Xa => ⟨trivial, ⟨⟨by kernel_rfl, by kernel_rfl, fun _ _ _ h => h⟩, trivial⟩⟩) (fun Xa => by intro x1 x3 x5 x6 ρ w; kernel_rfl) (fun X h _ _ _ _ _ g => g X h))⟩, trivial⟩⟩, cutZ⟩⟩⟩⟩⟩
theorem eq (R : EP) (x0_0 : Int) (x0_1 x0_2 : BA) (x0_3 : Int) (x0_4 : BA) (x0_5 : Bool) (x0_6q : OA) (x0_6n x0_6c : Nat) (x0_7q : OA) (x0_7n x0_7c : Nat) (x0_8 x0_9 : Int) (w : World) : g_spec_listHTML R x0_0 x0_1 x0_2 x0_3 x0_4 x0_5 x0_6q x0_6n x0_6c x0_7q x0_7n x0_7c x0_8 x0_9 w = vcA P 45 (ac R) (QF P [.tmp 2] R) (fr0 [(N10.V {a0 := x0_0, a1 := x0_1, a2 := x0_2, a3 := x0_3, a4 := x0_4, a5 := x0_5, q6 := x0_6q, n6 := x0_6n, c6 := x0_6c, q7 := x0_7q, n7 := x0_7n, c7 := x0_7c, a8 := x0_8, a9 := x0_9})]) w := by kernel_rfl
theorem sound {R : EP} {x0_0 : Int} {x0_1 x0_2 : ByteArray} {x0_3 : Int} {x0_4 : ByteArray} {x0_5 : Bool} {x0_6q : OA} {x0_6n x0_6c : Nat} {x0_7q : OA} {x0_7n x0_7c : Nat} {x0_8 x0_9 : Int} {w : World} (h : g_spec_listHTML R x0_0 x0_1 x0_2 x0_3 x0_4 x0_5 x0_6q x0_6n x0_6c x0_7q x0_7n x0_7c x0_8 x0_9 w) : callE P i_spec_listHTML #[(N10.V {a0 := x0_0, a1 := x0_1, a2 := x0_2, a3 := x0_3, a4 := x0_4, a5 := x0_5, q6 := x0_6q, n6 := x0_6n, c6 := x0_6c, q7 := x0_7q, n7 := x0_7n, c7 := x0_7c, a8 := x0_8, a9 := x0_9})] R w :=
 callE_fz (c := body) Tryz.func27 Tryz.call27 (good R) (eq R x0_0 x0_1 x0_2 x0_3 x0_4 x0_5 x0_6q x0_6n x0_6c x0_7q x0_7n x0_7c x0_8 x0_9 w) h
end g_spec_listHTML
namespace g_spec_taskHTML
noncomputable def body : Code := bodyOf Tryz.f72
end g_spec_taskHTML
def g_spec_taskHTML (R : EP) (x0 : Int) (w : World) : Prop :=
 br (x0 == 1)
 (R (.returned (.string (ByteArray.mk #[60, 105, 110, 112, 117, 116, 32, 100, 105, 115, 97, 98, 108, 101, 100, 61, 34, 34, 32, 116, 121, 112, 101, 61, 34, 99, 104, 101, 99, 107, 98, 111, 120, 34, 62, 32]))) w)
 (br (x0 == 2)
 (R (.returned (.string (ByteArray.mk #[60, 105, 110, 112, 117, 116, 32, 99, 104, 101, 99, 107, 101, 100, 61, 34, 34, 32, 100, 105, 115, 97, 98, 108, 101, 100, 61, 34, 34, 32, 116, 121, 112, 101, 61, 34, 99, 104, 101, 99, 107, 98, 111, 120, 34, 62, 32]))) w)
 (R (.returned (.string (ByteArray.mk #[]))) w))

namespace g_spec_taskHTML
noncomputable def ac (R : EP) : AC :=
 (.leaf (sel [] body))
theorem good (R : EP) : Good P 8 (ac R) (QF P [.tmp 2] R) :=
 trivial
theorem eq (R : EP) (x0 : Int) (w : World) : g_spec_taskHTML R x0 w = vcA P 8 (ac R) (QF P [.tmp 2] R) (fr0 [.int .i64 x0]) w := by kernel_rfl
theorem sound {R : EP} {x0 : Int} {w : World} (h : g_spec_taskHTML R x0 w) : callE P i_spec_taskHTML #[.int .i64 x0] R w :=
 callE_fz (c := body) Tryz.func72 Tryz.call72 (good R) (eq R x0 w) h
end g_spec_taskHTML
namespace g_spec_EscapeHTML
noncomputable def body : Code := bodyOf Tryz.f31
def bl1 (R : EP) (Xa : BA → BA → Int → WP) (x0 x3 : BA) (x4 : Int) (w : World) : Prop :=
 br (decide (x4 < (x0.size : Int)))
 (0 ≤ x4 ∧ x4 < (x0.size : Int) ∧
 br ((bt x0 x4) == 38)
 (((x3.size + (ByteArray.mk #[38, 97, 109, 112, 59]).size : Nat) : Int) ≤ IntKind.i64.max ∧
 Xa x0 (x3 ++ (ByteArray.mk #[38, 97, 109, 112, 59])) (IntKind.i64.wrap (x4 + 1)) w)
 (br ((bt x0 x4) == 60)
 (((x3.size + (ByteArray.mk #[38, 108, 116, 59]).size : Nat) : Int) ≤ IntKind.i64.max ∧
 Xa x0 (x3 ++ (ByteArray.mk #[38, 108, 116, 59])) (IntKind.i64.wrap (x4 + 1)) w)
 (br ((bt x0 x4) == 62)
 (((x3.size + (ByteArray.mk #[38, 103, 116, 59]).size : Nat) : Int) ≤ IntKind.i64.max ∧
 Xa x0 (x3 ++ (ByteArray.mk #[38, 103, 116, 59])) (IntKind.i64.wrap (x4 + 1)) w)
 (br ((bt x0 x4) == 34)
 (((x3.size + (ByteArray.mk #[38, 113, 117, 111, 116, 59]).size : Nat) : Int) ≤ IntKind.i64.max ∧
 Xa x0 (x3 ++ (ByteArray.mk #[38, 113, 117, 111, 116, 59])) (IntKind.i64.wrap (x4 + 1)) w)
 (0 ≤ x4 ∧ x4 ≤ (IntKind.i64.wrap (x4 + 1)) ∧ (IntKind.i64.wrap (x4 + 1)) ≤ (x0.size : Int) ∧
 ((x3.size + (x0.extract (Int.toNat x4) (Int.toNat (IntKind.i64.wrap (x4 + 1)))).size : Nat) : Int) ≤ IntKind.i64.max ∧
 Xa x0 (x3 ++ (x0.extract (Int.toNat x4) (Int.toNat (IntKind.i64.wrap (x4 + 1))))) (IntKind.i64.wrap (x4 + 1)) w)))))
 (R (.returned (.string x3)) w)
def l1 (R : EP) (x0 x3 : BA) (x4 : Int) (w : World) : Prop :=
 ∀ X : BA → BA → Int → WP, (∀ x0 x3 x4 w, bl1 R X x0 x3 x4 w → X x0 x3 x4 w) → X x0 x3 x4 w

noncomputable def al1 (R : EP) (Xa : BA → BA → Int → WP) : AC :=
 (.leaf (sel [1,1,0,1,0,0] body))
end g_spec_EscapeHTML
def g_spec_EscapeHTML (R : EP) (x0 : BA) (w : World) : Prop :=
 g_spec_EscapeHTML.l1 R x0 (ByteArray.mk #[]) 0 w

namespace g_spec_EscapeHTML
noncomputable def ac (R : EP) : AC :=
 (.seq (.leaf (sel [0] body)) (.seq (.leaf (sel [1,0] body)) (.seq (.seq (.leaf (sel [1,1,0,0] body)) (.block 0 (.loop (leaf [(0, .s .str), (3, .s .str), (4, .s (.int .i64))] (l1 R)) (sel [1,1,0,1,0,0] body)))) (.leaf (sel [1,1,1] body)))))
theorem good (R : EP) : Good P 38 (ac R) (QF P [.tmp 2] R) :=
 ⟨trivial, ⟨trivial, ⟨⟨trivial, (loopG (al1 R) (bl1 R) (fun _ => by kernel_rfl) (fun Xa => trivial) (fun Xa => by intro x0 x3 x4 ρ w; kernel_rfl) (fun X h _ _ _ _ g => g X h))⟩, trivial⟩⟩⟩
theorem eq (R : EP) (x0 : BA) (w : World) : g_spec_EscapeHTML R x0 w = vcA P 38 (ac R) (QF P [.tmp 2] R) (fr0 [.string x0]) w := by kernel_rfl
theorem sound {R : EP} {x0 : ByteArray} {w : World} (h : g_spec_EscapeHTML R x0 w) : callE P i_spec_EscapeHTML #[.string x0] R w :=
 callE_fz (c := body) Tryz.func31 Tryz.call31 (good R) (eq R x0 w) h
end g_spec_EscapeHTML
end Go.Proofs.YtgbgadkldalkbaaGreatDoor

set_option linter.unusedVariables false
namespace Go.Proofs.YtgbgadkldalkbaaGreatDoor
open Go.Proofs Go.IntWalk Go.RowKit
variable {σ : Out} {w : World} {L L' : List Chunk} {R : Ending → World → Prop}
theorem escB_cases (c : UInt8) : (c = 38 ∧ escB htmlPs c = [38, 97, 109, 112, 59]) ∨ (c = 60 ∧ escB htmlPs c = [38, 108, 116, 59]) ∨ (c = 62 ∧ escB htmlPs c = [38, 103, 116, 59]) ∨ (c = 34 ∧ escB htmlPs c = [38, 113, 117, 111, 116, 59]) ∨ (c ≠ 38 ∧ c ≠ 60 ∧ c ≠ 62 ∧ c ≠ 34 ∧ escB htmlPs c = [c]) := by
 by_cases h1 : c = 38
 ·subst h1; exact .inl ⟨rfl, by decide⟩
 by_cases h2 : c = 60
 ·subst h2; exact .inr (.inl ⟨rfl, by decide⟩)
 by_cases h3 : c = 62
 ·subst h3; exact .inr (.inr (.inl ⟨rfl, by decide⟩))
 by_cases h4 : c = 34
 ·subst h4; exact .inr (.inr (.inr (.inl ⟨rfl, by decide⟩)))
 refine .inr (.inr (.inr (.inr ⟨h1, h2, h3, h4, ?_⟩)))
 have ne : ∀ d : UInt8, c ≠ d → (d == c) = false := fun d hd => by simpa using fun h => hd h.symm
 unfold escB htmlPs
 simp [List.find?, ne 34 h4, ne 38 h1, ne 60 h2, ne 62 h3]
theorem escHTML_ok {s : List UInt8} (hs : s.length < 1000000000) (hR : R (.returned (.string (bs (escS htmlPs s)))) w) : callE P i_spec_EscapeHTML #[.string (bs s)] R w := by
 refine g_spec_EscapeHTML.sound ?_
 intro X hX
 have hmax : IntKind.i64.max = 9223372036854775807 := rfl
 have key : ∀ k i, i + k = s.length → X (bs s) (bs (escS htmlPs (s.take i))) (i : Int) w := by
  intro k
  induction k with
  | zero =>
   intro i hi
   refine hX _ _ _ _ (br_false (by simp; omega) ?_)
   rw [List.take_of_length_le (by omega)]; exact hR
  | succ k ih =>
   intro i hi
   have hil : i < s.length := by omega
   have hlen := escS_length (ps := htmlPs) (by decide) (s.take i)
   rw [List.length_take] at hlen
   have hst : escS htmlPs (s.take (i + 1)) = escS htmlPs (s.take i) ++ escB htmlPs s[i] := by
    rw [List.take_succ_eq_append_getElem hil, escS_append]; simp [escS]
   have next := ih (i + 1) (by omega)
   rw [hst] at next
   refine hX _ _ _ _ (br_true (by simp; omega) ⟨by omega, by simp; omega, ?_⟩)
   rw [bt_beq hil 38 38 rfl, bt_beq hil 60 60 rfl, bt_beq hil 62 62 rfl, bt_beq hil 34 34 rfl, i64_inc (by omega)]
   rw [show ByteArray.mk #[38, 97, 109, 112, 59] = bs [38, 97, 109, 112, 59] from rfl, show ByteArray.mk #[38, 108, 116, 59] = bs [38, 108, 116, 59] from rfl, show ByteArray.mk #[38, 103, 116, 59] = bs [38, 103, 116, 59] from rfl, show ByteArray.mk #[38, 113, 117, 111, 116, 59] = bs [38, 113, 117, 111, 116, 59] from rfl]
   rcases escB_cases s[i] with ⟨h, he⟩ | ⟨h, he⟩ | ⟨h, he⟩ | ⟨h, he⟩ | ⟨h1, h2, h3, h4, he⟩
   ·rw [he] at next
    refine br_true (by simpa using h) ⟨by rw [hmax]; simp; omega, ?_⟩
    rw [bs_append]; exact next
   ·rw [he] at next
    refine br_false (by rw [h]; decide) (br_true (by simpa using h) ⟨by rw [hmax]; simp; omega, ?_⟩)
    rw [bs_append]; exact next
   ·rw [he] at next
    refine br_false (by rw [h]; decide) (br_false (by rw [h]; decide) (br_true (by simpa using h) ⟨by rw [hmax]; simp; omega, ?_⟩))
    rw [bs_append]; exact next
   ·rw [he] at next
    refine br_false (by rw [h]; decide) (br_false (by rw [h]; decide) (br_false (by rw [h]; decide) (br_true (by simpa using h) ⟨by rw [hmax]; simp; omega, ?_⟩)))
    rw [bs_append]; exact next
   ·rw [he] at next
    refine br_false (by simpa using h1) (br_false (by simpa using h2) (br_false (by simpa using h3) (br_false (by simpa using h4) ?_)))
    have e1 : (s.take (i + 1)).drop i = [s[i]] := by
     rw [List.take_succ_eq_append_getElem hil, List.drop_append_of_le_length (by rw [List.length_take]; omega), List.drop_eq_nil_of_le (by rw [List.length_take]; omega)]; rfl
    rw [Int.toNat_natCast, Int.toNat_natCast, bs_extract, e1, bs_append]
    refine ⟨by omega, by omega, by simp; omega, by rw [hmax]; simp; omega, next⟩
 exact key s.length 0 (by omega)
end Go.Proofs.YtgbgadkldalkbaaGreatDoor


set_option linter.unusedVariables false
namespace Go.Proofs.YtgbgadkldalkbaaGreatDoor
open Go.Proofs Go.IntWalk Go.RowKit
variable {σ : Out} {w : World} {L L' : List Chunk} {R : Ending → World → Prop}
noncomputable def rowNode : Row P ty_S_spec_Node ty_spec_Node 10 136 :=
 ⟨(P.info? ty_spec_Node).getD default, ((P.info? ty_spec_Node).bind (·.zero)).getD default, by kernel_rfl, by kernel_rfl, by kernel_rfl, by kernel_rfl, by kernel_rfl, by kernel_rfl, by decide⟩
def ndC (k : Int) (t : List UInt8) (num : Int) (ch : List UInt8) (q : Option Addr) (n c : Nat) : List Value :=
 [.int .i64 k, .string (bs t), .string (bs []), .int .i64 num, .string (bs ch), .bool false, .slice none 0 0, .slice q n c, .int .i64 0, .int .i64 0]
abbrev ndV (k : Int) (t : List UInt8) (num : Int) (ch : List UInt8) (q : Option Addr) (n c : Nat) : Value :=
 .agg #[.int .i64 k, .string (bs t), .string (bs []), .int .i64 num, .string (bs ch), .bool false, .slice none 0 0, .slice q n c, .int .i64 0, .int .i64 0]
structure TI where
 k : Nat
 c : UInt8
 b1 : Nat
 b2 : Nat
def TI.cells (t : TI) : List Value := ndC 4 [] t.k [] (some ⟨t.b1, 0, none⟩) 1 1
def TI.own (t : TI) : List Chunk := [(t.b1, cel (ndC 6 [] 0 [] (some ⟨t.b2, 0, none⟩) 1 1) ty_spec_Node), (t.b2, cel (ndC 20 [t.c] 0 [] none 0 0) ty_spec_Node)]
def tiC (ts : List TI) : List Value := ts.flatMap TI.cells
def tiOwn (ts : List TI) : List Chunk := ts.flatMap TI.own
def boxS (k : Nat) : List UInt8 := if k = 1 then boxT false ++ [32] else if k = 2 then boxT true ++ [32] else []
def tiOut (t : TI) : List UInt8 := liO ++ (boxS t.k ++ escS htmlPs [t.c]) ++ liC
theorem tiC_length (ts : List TI) : (tiC ts).length = ts.length * 10 := by
 induction ts with
 | nil => rfl
 | cons t ts ih =>
  have : tiC (t :: ts) = t.cells ++ tiC ts := by simp [tiC]
  rw [this, List.length_append, ih, List.length_cons, Nat.add_mul]
  show 10 + _ = _
  omega
theorem tiC_get {f : Nat} {v : Value} (hf : f < 10) : ∀ {ts : List TI} {j : Nat} (hj : j < ts.length), ts[j].cells[f]? = some v → (tiC ts)[j * 10 + f]? = some v
 | t :: ts, 0, _, h => by
  have : tiC (t :: ts) = t.cells ++ tiC ts := by simp [tiC]
  rw [this, List.getElem?_append_left (by show 0 * 10 + f < 10; omega)]
  simpa using h
 | t :: ts, j + 1, hj, h => by
  have : tiC (t :: ts) = t.cells ++ tiC ts := by simp [tiC]
  rw [this, List.getElem?_append_right (by show 10 ≤ _; omega), show (j + 1) * 10 + f - t.cells.length = j * 10 + f by show (j + 1) * 10 + f - 10 = _; omega]
  exact tiC_get hf (by simpa using hj) (by simpa using h)
theorem inl_word {b : Nat} {c : UInt8} (h : Sat σ w L) (hm : (b, cel (ndC 20 [c] 0 [] none 0 0) ty_spec_Node) ∈ L) (hR : ∀ w, Sat σ w L → R (.returned (.string (bs (escS htmlPs [c])))) w) : callE P i_spec_InlinesHTML #[.slice (some ⟨b, 0, none⟩) 1 1] R w := by
 have hmax : IntKind.i64.max = 9223372036854775807 := rfl
 have hel := escS_length (ps := htmlPs) (by decide) [c]
 simp only [List.length_cons, List.length_nil] at hel
 refine g_spec_InlinesHTML.sound ?_
 intro X hX
 refine hX _ _ _ _ _ _ (br_true rfl ⟨by decide, by decide, nilP_some ?_⟩)
 simp only [Addr.add_lit, Nat.zero_add, Nat.add_zero, show Int.toNat 0 = 0 from rfl, Nat.zero_mul]
 refine ⟨_, Sat.ld h hm (i := 0) rfl, _, Sat.ld h hm (i := 1) rfl, _, Sat.ld h hm (i := 2) rfl, _, Sat.ld h hm (i := 3) rfl, _, Sat.ld h hm (i := 4) rfl, _, Sat.ld h hm (i := 5) rfl, _, _, _, Sat.ld h hm (i := 6) rfl, _, _, _, Sat.ld h hm (i := 7) rfl, _, Sat.ld h hm (i := 8) rfl, _, Sat.ld h hm (i := 9) rfl, ?_⟩
 refine g_spec_inlineHTML.sound ?_
 refine Sat.bx h fun b1 w h => ?_
 refine ⟨_, Sat.ld h (.head _) (i := 0) rfl, br_true rfl ⟨_, Sat.ld h (.head _) (i := 1) rfl, ?_⟩⟩
 refine escHTML_ok (by show 1 < _; decide) ⟨_, rfl, _, rfl, ?_⟩
 rw [show ByteArray.mk #[] = bs [] from rfl, bs_append, List.nil_append]
 refine ⟨by rw [hmax, bs_size, bs_size]; simp only [List.length_nil]; omega, ?_⟩
 rw [show IntKind.i64.wrap (0 + 1) = 1 from rfl]
 refine hX _ _ _ _ _ _ (br_false rfl ?_)
 exact hR _ h.tail
theorem boxS_len (k : Nat) : (boxS k).length ≤ 60 := by
 unfold boxS
 split
 ·decide
 ·split <;> decide
theorem taskH_ok {k : Nat} (hk : k < 3) (hR : R (.returned (.string (bs (boxS k)))) w) : callE P i_spec_taskHTML #[.int .i64 (k : Nat)] R w := by
 refine g_spec_taskHTML.sound ?_
 have h3 : k = 0 ∨ k = 1 ∨ k = 2 := by omega
 rcases h3 with rfl | rfl | rfl
 ·exact br_false rfl (br_false rfl hR)
 ·exact br_true rfl hR
 ·exact br_false rfl (br_true rfl hR)
theorem itemH_ok {t : TI} (hk : t.k < 3) (h : Sat σ w L) (hM : ∀ x ∈ t.own, x ∈ L) (hR : ∀ w, Sat σ w L → R (.returned (.string (bs (tiOut t)))) w) : callE P i_spec_itemHTML #[ndV 4 [] t.k [] (some ⟨t.b1, 0, none⟩) 1 1, .bool false] R w := by
 have hmax : IntKind.i64.max = 9223372036854775807 := rfl
 have hel := escS_length (ps := htmlPs) (by decide) [t.c]
 simp only [List.length_cons, List.length_nil] at hel
 have hbl := boxS_len t.k
 have hm1 : (t.b1, cel (ndC 6 [] 0 [] (some ⟨t.b2, 0, none⟩) 1 1) ty_spec_Node) ∈ L := hM _ (.head _)
 have hm2 : (t.b2, cel (ndC 20 [t.c] 0 [] none 0 0) ty_spec_Node) ∈ L := hM _ (.tail _ (.head _))
 refine g_spec_itemHTML.sound ?_
 refine Sat.bx h fun bx w h => ?_
 have h : Sat σ w ((bx, cel (ndC 4 [] t.k [] (some ⟨t.b1, 0, none⟩) 1 1) ty_spec_Node) :: L) := h
 refine ⟨_, _, _, Sat.ld h (.head _) (i := 7) rfl, br_true rfl (br_false rfl ⟨_, _, _, Sat.ld h (.head _) (i := 7) rfl, by decide, by decide, nilP_some ?_⟩)⟩
 simp only [Addr.add_lit, Nat.zero_add, Nat.add_zero, show Int.toNat 0 = 0 from rfl, Nat.zero_mul]
 refine ⟨_, Sat.ld h (.tail _ hm1) (i := 0) rfl, br_false rfl ?_⟩
 unfold g_spec_itemHTML.k1
 refine ⟨_, Sat.ld h (.head _) (i := 3) rfl, ?_⟩
 refine taskH_ok hk ⟨_, rfl, ?_⟩
 intro X hX
 refine hX _ _ _ _ _ _ ⟨_, _, _, Sat.ld h (.head _) (i := 7) rfl, br_true rfl ⟨_, _, _, Sat.ld h (.head _) (i := 7) rfl, by decide, by decide, nilP_some ?_⟩⟩
 simp only [Addr.add_lit, Nat.zero_add, Nat.add_zero, show Int.toNat 0 = 0 from rfl, Nat.zero_mul]
 refine ⟨_, Sat.ld h (.tail _ hm1) (i := 0) rfl, _, Sat.ld h (.tail _ hm1) (i := 1) rfl, _, Sat.ld h (.tail _ hm1) (i := 2) rfl, _, Sat.ld h (.tail _ hm1) (i := 3) rfl, _, Sat.ld h (.tail _ hm1) (i := 4) rfl, _, Sat.ld h (.tail _ hm1) (i := 5) rfl, _, _, _, Sat.ld h (.tail _ hm1) (i := 6) rfl, _, _, _, Sat.ld h (.tail _ hm1) (i := 7) rfl, _, Sat.ld h (.tail _ hm1) (i := 8) rfl, _, Sat.ld h (.tail _ hm1) (i := 9) rfl, ?_⟩
 refine Sat.bx h fun by_ w h => ?_
 refine h.stA 0 fun w h => ?_
 refine h.stA 0 fun w h => ?_
 refine h.stA 0 fun w h => ?_
 refine h.stA 0 fun w h => ?_
 refine h.stA 0 fun w h => ?_
 refine h.stA 0 fun w h => ?_
 refine h.stA 0 fun w h => ?_
 refine h.stA 0 fun w h => ?_
 refine h.stA 0 fun w h => ?_
 refine h.stA 0 fun w h => ?_
 have h : Sat σ w ((by_, cel (ndC 6 [] 0 [] (some ⟨t.b2, 0, none⟩) 1 1) ty_spec_Node) :: (bx, cel (ndC 4 [] t.k [] (some ⟨t.b1, 0, none⟩) 1 1) ty_spec_Node) :: L) := h
 refine ⟨_, Sat.ld h (.head _) (i := 0) rfl, br_false rfl ⟨_, _, _, Sat.ld h (.head _) (i := 7) rfl, ?_⟩⟩
 refine inl_word h (.tail _ (.tail _ hm2)) fun w h => ⟨_, rfl, br_true rfl ?_⟩
 rw [bs_append, show ByteArray.mk #[60, 108, 105, 62] = bs liO from rfl]
 have e1 : liO.length = 4 := rfl
 have e2 : liC.length = 6 := rfl
 refine ⟨by rw [hmax, bs_size, bs_size]; omega, ?_⟩
 unfold g_spec_itemHTML.k2
 rw [bs_append]
 refine br_false rfl ⟨by rw [hmax, bs_size, bs_size, List.length_append]; omega, _, _, _, Sat.ld h (.tail _ (.head _)) (i := 7) rfl, br_false rfl ?_⟩
 rw [show IntKind.i64.wrap (0 + 1) = 1 from rfl]
 refine hX _ _ _ _ _ _ ⟨_, _, _, Sat.ld h (.tail _ (.head _)) (i := 7) rfl, br_false rfl ?_⟩
 rw [show ByteArray.mk #[60, 47, 108, 105, 62, 10] = bs liC from rfl, bs_append]
 refine ⟨by rw [hmax, bs_size, bs_size]; simp only [List.length_append]; omega, ?_⟩
 exact hR _ h.tail.tail
theorem tiOut_len (t : TI) : (tiOut t).length ≤ 100 := by
 have hel := escS_length (ps := htmlPs) (by decide) [t.c]
 have hbl := boxS_len t.k
 have e1 : liO.length = 4 := rfl
 have e2 : liC.length = 6 := rfl
 simp only [tiOut, List.length_append, List.length_cons, List.length_nil] at hel ⊢
 omega
theorem tiOuts_len (ts : List TI) : (ts.flatMap tiOut).length ≤ ts.length * 100 := by
 induction ts with
 | nil => simp
 | cons t ts ih =>
  have := tiOut_len t
  rw [List.flatMap_cons, List.length_append, List.length_cons]; omega
theorem listH_ok {q : Option Addr} {n c : Nat} {ts : List TI} {M : List Chunk} {num : Int} {ch O C : List UInt8} (hnum : (num = -1 ∧ O = ulO ∧ C = ulC) ∨ (num = 1 ∧ O = olO ∧ C = olC)) (hS : Sl 10 ty_spec_Node q n c (tiC ts) M) (hk : ∀ t ∈ ts, t.k < 3) (hlen : ts.length ≤ 20) (h : Sat σ w L) (hM : ∀ x ∈ M ++ tiOwn ts, x ∈ L)
 (hR : ∀ w, Sat σ w L → R (.returned (.string (bs (O ++ ts.flatMap tiOut ++ C)))) w) : callE P i_spec_BlockHTML #[ndV 3 [] num ch q n c] R w := by
 have hmax : IntKind.i64.max = 9223372036854775807 := rfl
 have hn : n = ts.length := by have := hS.1; rw [tiC_length] at this; omega
 refine g_spec_BlockHTML.sound ?_
 refine Sat.bx h fun bx w h => ?_
 have h : Sat σ w ((bx, cel (ndC 3 [] num ch q n c) ty_spec_Node) :: L) := h
 refine ⟨_, Sat.ld h (.head _) (i := 0) rfl, br_false rfl (br_false rfl (br_true rfl ?_))⟩
 refine ⟨_, Sat.ld h (.head _) (i := 0) rfl, _, Sat.ld h (.head _) (i := 1) rfl, _, Sat.ld h (.head _) (i := 2) rfl, _, Sat.ld h (.head _) (i := 3) rfl, _, Sat.ld h (.head _) (i := 4) rfl, _, Sat.ld h (.head _) (i := 5) rfl, _, _, _, Sat.ld h (.head _) (i := 6) rfl, _, _, _, Sat.ld h (.head _) (i := 7) rfl, _, Sat.ld h (.head _) (i := 8) rfl, _, Sat.ld h (.head _) (i := 9) rfl, ?_⟩
 refine g_spec_listHTML.sound ?_
 refine Sat.bx h fun b2 w h => ?_
 have h : Sat σ w ((b2, cel (ndC 3 [] num ch q n c) ty_spec_Node) :: (bx, cel (ndC 3 [] num ch q n c) ty_spec_Node) :: L) := h
 have k1 : ∀ (tag : List UInt8), tag.length = 2 → [60] ++ tag ++ [] ++ [62, 10] = O → [60, 47] ++ tag ++ [62, 10] = C → g_spec_listHTML.k1 (fun e w21 => ∃ (r20 : BA), e = .returned (.string r20) ∧ R (.returned (.string r20)) w21) b2 (bs tag) (bs []) w := by
  intro tag htag hO hC
  have m60 : ByteArray.mk #[60] = bs [60] := rfl
  have m62 : ByteArray.mk #[62, 10] = bs [62, 10] := rfl
  have m47 : ByteArray.mk #[60, 47] = bs [60, 47] := rfl
  unfold g_spec_listHTML.k1
  rw [m60, m62, bs_append, bs_append, bs_append]
  refine ⟨by rw [hmax, bs_size, bs_size]; simp; omega, by rw [hmax, bs_size, bs_size]; simp; omega, by rw [hmax, bs_size, bs_size]; simp; omega, ?_⟩
  rw [hO]
  have hOl : O.length = 5 := by rw [← hO]; simp [htag]
  intro X hX
  have key : ∀ k j w, j + k = ts.length → Sat σ w ((b2, cel (ndC 3 [] num ch q n c) ty_spec_Node) :: (bx, cel (ndC 3 [] num ch q n c) ty_spec_Node) :: L) → X b2 (bs tag) (bs (O ++ (ts.take j).flatMap tiOut)) (j : Int) w := by
   intro k
   induction k with
   | zero =>
    intro j w hj h
    rw [List.take_of_length_le (by omega)]
    have hol := tiOuts_len ts
    refine hX _ _ _ _ _ ⟨_, _, _, Sat.ld h (.head _) (i := 7) rfl, br_false (by simp; omega) ?_⟩
    rw [m47, m62, bs_append, bs_append, bs_append]
    refine ⟨by rw [hmax, bs_size, bs_size]; simp only [List.length_append, List.length_cons, List.length_nil]; omega, by rw [hmax, bs_size, bs_size]; simp only [List.length_append, List.length_cons, List.length_nil]; omega, by rw [hmax, bs_size, bs_size]; simp only [List.length_append, List.length_cons, List.length_nil]; omega, _, rfl, ?_⟩
    have e : O ++ ts.flatMap tiOut ++ [60, 47] ++ tag ++ [62, 10] = O ++ ts.flatMap tiOut ++ C := by rw [← hC]; simp
    rw [e]
    exact hR _ h.tail.tail
   | succ k ih =>
    intro j w hj h
    have hjl : j < ts.length := by omega
    have htm := List.getElem_mem hjl
    have hol := tiOuts_len (ts.take j)
    have htl : (ts.take j).length = j := by rw [List.length_take]; omega
    refine hX _ _ _ _ _ ⟨_, _, _, Sat.ld h (.head _) (i := 7) rfl, br_true (by simp; omega) ?_⟩
    refine Sat.tk h fun w h => ⟨_, _, _, Sat.ld h (.head _) (i := 7) rfl, by omega, by omega, ?_⟩
    obtain ⟨hl, hnc, ⟨rfl, rfl, _, _⟩ | ⟨rb, sp, rfl, hMr, _⟩⟩ := hS
    ·omega
    refine nilP_some ?_
    have hmr : (rb, cel (tiC ts ++ sp) ty_spec_Node) ∈ (b2, cel (ndC 3 [] num ch (some ⟨rb, 0, none⟩) n c) ty_spec_Node) :: (bx, cel (ndC 3 [] num ch (some ⟨rb, 0, none⟩) n c) ty_spec_Node) :: L := .tail _ (.tail _ (hM _ (List.mem_append_left _ (by rw [hMr]; exact .head _))))
    have ld : ∀ {f : Nat} {v : Value}, f < 10 → ts[j].cells[f]? = some v → w.cell? ⟨rb, j * 10 + f, none⟩ = some v := fun {f v} hf hv => Sat.ld h hmr (by rw [List.getElem?_append_left (by rw [tiC_length]; omega)]; exact tiC_get hf hjl hv)
    simp only [Addr.add_lit, Nat.zero_add, Int.toNat_natCast]
    refine ⟨_, ld (f := 0) (by decide) rfl, _, ld (f := 1) (by decide) rfl, _, ld (f := 2) (by decide) rfl, _, ld (f := 3) (by decide) rfl, _, ld (f := 4) (by decide) rfl, _, ld (f := 5) (by decide) rfl, _, _, _, ld (f := 6) (by decide) rfl, _, _, _, ld (f := 7) (by decide) rfl, _, ld (f := 8) (by decide) rfl, _, ld (f := 9) (by decide) rfl, ?_⟩
    refine ⟨_, Sat.ld h (.head _) (i := 5) rfl, ?_⟩
    refine itemH_ok (t := ts[j]) (hk _ htm) h (fun x hx => .tail _ (.tail _ (hM x (List.mem_append_right _ (List.mem_flatMap.2 ⟨_, htm, hx⟩))))) fun w h => ⟨_, rfl, ?_⟩
    have hto := tiOut_len ts[j]
    rw [bs_append, i64_inc (by omega)]
    refine ⟨by rw [hmax, bs_size, bs_size]; simp only [List.length_append]; omega, ?_⟩
    have e : O ++ (ts.take j).flatMap tiOut ++ tiOut ts[j] = O ++ (ts.take (j + 1)).flatMap tiOut := by
     rw [List.take_succ_eq_append_getElem hjl, List.flatMap_append, List.flatMap_cons, List.flatMap_nil, List.append_nil, List.append_assoc]
    rw [e]
    exact ih (j + 1) w (by omega) h
  have := key ts.length 0 w (by omega) h
  rw [List.take_zero, List.flatMap_nil, List.append_nil] at this
  exact this
 refine ⟨_, Sat.ld h (.head _) (i := 3) rfl, ?_⟩
 rcases hnum with ⟨rfl, rfl, rfl⟩ | ⟨rfl, rfl, rfl⟩
 ·exact br_false rfl (k1 [117, 108] rfl rfl rfl)
 ·exact br_true rfl ⟨_, Sat.ld h (.head _) (i := 3) rfl, br_false rfl (k1 [111, 108] rfl rfl rfl)⟩
end Go.Proofs.YtgbgadkldalkbaaGreatDoor


set_option linter.unusedVariables false
namespace Go.Proofs.YtgbgadkldalkbaaGreatDoor
open Go.Proofs
def BArg (σ : Out) (L : List Chunk) (q : Option Addr) (n : Nat) (vs : List UInt8) : Prop :=
 n = vs.length ∧ ∀ i (hi : i < vs.length), ∃ a, q = some a ∧ ∀ w, Sat σ w L → w.cell? (a.add i) = some (.int .u8 (vs[i].toNat : Int))
end Go.Proofs.YtgbgadkldalkbaaGreatDoor

