/- Part 5 of the proof of the law FnLazyAnywhere: for every input the law returns true, the inputs read as they did, and memory that was there is as it was; under the conditions of the given row alone. -/
import Derived.Test.YtgbgadkldalkbaaGreatDoorA4
set_option linter.all false
set_option linter.unusedVariables false
namespace Go.Proofs.YtgbgadkldalkbaaGreatDoor
open Go.Proofs Go.IntWalk Go.RowKit
variable {σ : Out} {w : World} {L L' : List Chunk} {R : Ending → World → Prop}
theorem newList_first {b : Nat} {p : PS} {ob : List OB} {o : OB} {M : List Chunk} {l t : Ln} {c : UInt8} {num n : Nat} {ty : TypeId} {v : Value} (h : Sat σ w (p.at b :: M ++ L)) (hs : Stk p (ob ++ [o]) M) (hd : p.depth = ob.length) (hob : ob.length < 1048570)
 (ho : o.bd = .iface ty v) (hty : ty ≠ ty_P_paraBuilder) (htl : ty ≠ ty_P_listBuilder) (hl : l.ok) (hb : Marks l c num n t)
 (hR : ∀ w p' M' lb x2 x5 x15 x18 ib, p' = { p with stq := p'.stq, stn := ob.length + 2, stc := p'.stc } → Stk p' (ob ++ [o] ++ [⟨lisV lb, none, 0, 0, p.lineno, p.lineno⟩]) M' →
  Sat σ w (p'.at b :: M' ++ (lisC lb c.toNat (num : Nat) false none (cloV x2 x18 x15 x5) :: (x2, cel [.pointer (some ⟨b, 0, none⟩)] ty_P_parseState) :: t.at x5 :: lptC x15 lb :: iptC x18 ib :: iteC ib lb n (!t.blank) :: L)) → R (.returned (.tuple #[l.val, .bool true])) w) :
 callE P i_newListItem #[.pointer (some ⟨b, 0, none⟩), l.val] R w := by
 refine g_newListItem.sound ?_
 refine Sat.bx h fun b1 w h => ?_
 refine Sat.bx h fun b3 w h => ?_
 have h : Sat σ w (zLn b3 :: l.at b1 :: (p.at b :: M ++ L)) := h
 have h : Sat σ w (p.at b :: M ++ (zLn b3 :: l.at b1 :: L)) := h.re
 refine curB_ok h hs hd fun w h => ?_
 rw [last_get]
 dsimp only
 refine ⟨_, rfl, none, false, w, by rw [ho]; exact ta_listBuilder_no htl w, br_false rfl (br_false rfl ?_)⟩
 have h : Sat σ w (l.at b1 :: (p.at b :: M ++ (zLn b3 :: L))) := h.re
 refine slItem_new h hs hd hob ho hty hl hb fun w p' M' lb x2 x5 x15 x18 ib hp' hs' h => ⟨_, rfl, br_true rfl ?_⟩
 have h : Sat σ w (zLn b3 :: l.at b1 :: (p'.at b :: M' ++ (lisC lb c.toNat (num : Nat) false none (cloV x2 x18 x15 x5) :: (x2, cel [.pointer (some ⟨b, 0, none⟩)] ty_P_parseState) :: t.at x5 :: lptC x15 lb :: iptC x18 ib :: iteC ib lb n (!t.blank) :: L))) := h.re
 repeat (first | refine nilP_some ?_ | refine h.tk fun w h => ?_ | refine ⟨_, h.ldA, ?_⟩ | refine ⟨_, _, _, h.ldA, ?_⟩ | refine h.stA 0 fun w h => ?_ | refine h.stA 1 fun w h => ?_ | refine h.stA 2 fun w h => ?_ | refine h.stA 3 fun w h => ?_ | refine h.stA 4 fun w h => ?_ | refine h.stA 5 fun w h => ?_ | refine h.stA 6 fun w h => ?_ | refine h.bx fun b0 w h => ?_)
 have h : Sat σ _ (l.at b3 :: l.at b1 :: (p'.at b :: M' ++ (lisC lb c.toNat (num : Nat) false none (cloV x2 x18 x15 x5) :: (x2, cel [.pointer (some ⟨b, 0, none⟩)] ty_P_parseState) :: t.at x5 :: lptC x15 lb :: iptC x18 ib :: iteC ib lb n (!t.blank) :: L))) := h
 exact hR _ p' M' lb x2 x5 x15 x18 ib hp' hs' h.tail.tail
theorem und_fline : isFuncB P ty_func_line = true := by kernel_rfl
theorem newList_todo {b lb x2 x5 x15 x18 ib n : Nat} {bul num : Int} {loose hv : Bool} {item : Option Addr} {p : PS} {ob : List OB} {o : OB} {M : List Chunk} {l t : Ln}
 (h : Sat σ w (p.at b :: M ++ (lisC lb bul num loose item (cloV x2 x18 x15 x5) :: (x2, cel [.pointer (some ⟨b, 0, none⟩)] ty_P_parseState) :: t.at x5 :: lptC x15 lb :: iptC x18 ib :: iteC ib lb n hv :: L)))
 (hs : Stk p (ob ++ [o]) M) (hd : p.depth = ob.length) (hob : ob.length < 1048570) (ho : o.bd = lisV lb)
 (hR : ∀ w p' M', p' = { p with stq := p'.stq, stn := ob.length + 2, stc := p'.stc } → Stk p' (ob ++ [o] ++ [⟨iteV ib, none, 0, 0, p.lineno, p.lineno⟩]) M' →
  Sat σ w (p'.at b :: M' ++ (lisC lb bul num loose (some ⟨ib, 0, none⟩) .nilFunc :: iteC ib lb n hv :: L)) → R (.returned (.tuple #[t.val, .bool true])) w) :
 callE P i_newListItem #[.pointer (some ⟨b, 0, none⟩), l.val] R w := by
 refine g_newListItem.sound ?_
 refine Sat.bx h fun b1 w h => ?_
 refine Sat.bx h fun b3 w h => ?_
 have h : Sat σ w (zLn b3 :: l.at b1 :: (p.at b :: M ++ (lisC lb bul num loose item (cloV x2 x18 x15 x5) :: (x2, cel [.pointer (some ⟨b, 0, none⟩)] ty_P_parseState) :: t.at x5 :: lptC x15 lb :: iptC x18 ib :: iteC ib lb n hv :: L))) := h
 have h : Sat σ w (p.at b :: M ++ (zLn b3 :: l.at b1 :: lisC lb bul num loose item (cloV x2 x18 x15 x5) :: (x2, cel [.pointer (some ⟨b, 0, none⟩)] ty_P_parseState) :: t.at x5 :: lptC x15 lb :: iptC x18 ib :: iteC ib lb n hv :: L)) := h.re
 refine curB_ok h hs hd fun w h => ?_
 rw [last_get]
 dsimp only
 have h : Sat σ w (lisC lb bul num loose item (cloV x2 x18 x15 x5) :: zLn b3 :: l.at b1 :: (p.at b :: M ++ ((x2, cel [.pointer (some ⟨b, 0, none⟩)] ty_P_parseState) :: t.at x5 :: lptC x15 lb :: iptC x18 ib :: iteC ib lb n hv :: L))) := h.re
 refine ⟨_, rfl, some ⟨lb, 0, none⟩, true, w, by rw [ho]; exact ta_list_list _ w, br_true rfl (nilP_some ?_)⟩
 obtain ⟨_, _, _, hfu⟩ := isFunc_out und_fline
 refine ⟨_, Sat.ld h (.head _) (i := 4) rfl, true, w, neq_func_nil hfu _ _ _ w, br_true rfl (nilP_some ?_)⟩
 refine ⟨_, Sat.ld h (.head _) (i := 4) rfl, ?_⟩
 refine enter_fn ?_
 refine g_parseState_startListItem_1.sound ?_
 refine Sat.bx h fun b5 w h => ?_
 have h : Sat σ w (p.at b :: M ++ (zLn b5 :: lisC lb bul num loose item (cloV x2 x18 x15 x5) :: zLn b3 :: l.at b1 :: (x2, cel [.pointer (some ⟨b, 0, none⟩)] ty_P_parseState) :: t.at x5 :: lptC x15 lb :: iptC x18 ib :: iteC ib lb n hv :: L)) := by
  have h : Sat σ w (zLn b5 :: lisC lb bul num loose item (cloV x2 x18 x15 x5) :: zLn b3 :: l.at b1 :: (p.at b :: M ++ ((x2, cel [.pointer (some ⟨b, 0, none⟩)] ty_P_parseState) :: t.at x5 :: lptC x15 lb :: iptC x18 ib :: iteC ib lb n hv :: L))) := h
  exact h.re
 have hm2 : (x2, cel [.pointer (some ⟨b, 0, none⟩)] ty_P_parseState) ∈ p.at b :: M ++ (zLn b5 :: lisC lb bul num loose item (cloV x2 x18 x15 x5) :: zLn b3 :: l.at b1 :: (x2, cel [.pointer (some ⟨b, 0, none⟩)] ty_P_parseState) :: t.at x5 :: lptC x15 lb :: iptC x18 ib :: iteC ib lb n hv :: L) := by simp
 have hm18 : iptC x18 ib ∈ p.at b :: M ++ (zLn b5 :: lisC lb bul num loose item (cloV x2 x18 x15 x5) :: zLn b3 :: l.at b1 :: (x2, cel [.pointer (some ⟨b, 0, none⟩)] ty_P_parseState) :: t.at x5 :: lptC x15 lb :: iptC x18 ib :: iteC ib lb n hv :: L) := by simp
 refine ⟨_, Sat.ld h hm2 (i := 0) rfl, _, Sat.ld h hm18 (i := 0) rfl, ?_⟩
 refine addBlock_ok h hs (by simp; omega) (by simp; omega) fun w p' M' hp' hs' h => ⟨rfl, ?_⟩
 have h : Sat σ w (lisC lb bul num loose item (cloV x2 x18 x15 x5) :: zLn b5 :: t.at x5 :: zLn b3 :: l.at b1 :: lptC x15 lb :: iptC x18 ib :: (p'.at b :: M' ++ ((x2, cel [.pointer (some ⟨b, 0, none⟩)] ty_P_parseState) :: iteC ib lb n hv :: L))) := h.re
 refine ⟨_, Sat.ld h (by simp : lptC x15 lb ∈ _) (i := 0) rfl, _, Sat.ld h (by simp : iptC x18 ib ∈ _) (i := 0) rfl, nilP_some ?_⟩
 refine h.stA 0 fun w h => ?_
 have h : Sat σ w (t.at x5 :: zLn b5 :: lisC lb bul num loose (some ⟨ib, 0, none⟩) (cloV x2 x18 x15 x5) :: zLn b3 :: l.at b1 :: lptC x15 lb :: iptC x18 ib :: (p'.at b :: M' ++ ((x2, cel [.pointer (some ⟨b, 0, none⟩)] ty_P_parseState) :: iteC ib lb n hv :: L))) := by
  have h : Sat σ w (lisC lb bul num loose (some ⟨ib, 0, none⟩) (cloV x2 x18 x15 x5) :: zLn b5 :: t.at x5 :: zLn b3 :: l.at b1 :: lptC x15 lb :: iptC x18 ib :: (p'.at b :: M' ++ ((x2, cel [.pointer (some ⟨b, 0, none⟩)] ty_P_parseState) :: iteC ib lb n hv :: L))) := h
  exact h.re
 refine ⟨_, h.ldA, ?_⟩
 refine ⟨_, h.ldA, ?_⟩
 refine ⟨_, h.ldA, ?_⟩
 refine ⟨_, h.ldA, ?_⟩
 refine ⟨_, h.ldA, ?_⟩
 refine h.stA 1 fun w h => ?_
 refine h.stA 1 fun w h => ?_
 refine h.stA 1 fun w h => ?_
 refine h.stA 1 fun w h => ?_
 refine h.stA 1 fun w h => ?_
 have h : Sat σ w (t.at x5 :: t.at b5 :: lisC lb bul num loose (some ⟨ib, 0, none⟩) (cloV x2 x18 x15 x5) :: zLn b3 :: l.at b1 :: lptC x15 lb :: iptC x18 ib :: (p'.at b :: M' ++ ((x2, cel [.pointer (some ⟨b, 0, none⟩)] ty_P_parseState) :: iteC ib lb n hv :: L))) := h
 have h : Sat σ w (t.at b5 :: l.at b1 :: lisC lb bul num loose (some ⟨ib, 0, none⟩) (cloV x2 x18 x15 x5) :: zLn b3 :: t.at x5 :: lptC x15 lb :: iptC x18 ib :: (p'.at b :: M' ++ ((x2, cel [.pointer (some ⟨b, 0, none⟩)] ty_P_parseState) :: iteC ib lb n hv :: L))) := h.re
 refine ⟨_, h.ldA, ?_⟩
 refine ⟨_, h.ldA, ?_⟩
 refine ⟨_, h.ldA, ?_⟩
 refine ⟨_, h.ldA, ?_⟩
 refine ⟨_, h.ldA, ?_⟩
 refine ⟨_, _, _, _, _, rfl, ?_⟩
 refine h.stA 1 fun w h => ?_
 refine h.stA 1 fun w h => ?_
 refine h.stA 1 fun w h => ?_
 refine h.stA 1 fun w h => ?_
 refine h.stA 1 fun w h => ?_
 have h : Sat σ w (t.at b5 :: t.at b1 :: lisC lb bul num loose (some ⟨ib, 0, none⟩) (cloV x2 x18 x15 x5) :: zLn b3 :: t.at x5 :: lptC x15 lb :: iptC x18 ib :: (p'.at b :: M' ++ ((x2, cel [.pointer (some ⟨b, 0, none⟩)] ty_P_parseState) :: iteC ib lb n hv :: L))) := h
 refine nilP_some ?_
 refine Sat.st h (k := 2) rfl (by simp [lisC]) trivial rfl fun w h => ?_
 have h : Sat σ w (t.at b1 :: zLn b3 :: lisC lb bul num loose (some ⟨ib, 0, none⟩) .nilFunc :: t.at b5 :: t.at x5 :: lptC x15 lb :: iptC x18 ib :: (p'.at b :: M' ++ ((x2, cel [.pointer (some ⟨b, 0, none⟩)] ty_P_parseState) :: iteC ib lb n hv :: L))) := by
  have h : Sat σ w (t.at b5 :: t.at b1 :: lisC lb bul num loose (some ⟨ib, 0, none⟩) .nilFunc :: zLn b3 :: t.at x5 :: lptC x15 lb :: iptC x18 ib :: (p'.at b :: M' ++ ((x2, cel [.pointer (some ⟨b, 0, none⟩)] ty_P_parseState) :: iteC ib lb n hv :: L))) := h
  exact h.re
 refine ⟨_, h.ldA, ?_⟩
 refine ⟨_, h.ldA, ?_⟩
 refine ⟨_, h.ldA, ?_⟩
 refine ⟨_, h.ldA, ?_⟩
 refine ⟨_, h.ldA, ?_⟩
 refine h.stA 1 fun w h => ?_
 refine h.stA 1 fun w h => ?_
 refine h.stA 1 fun w h => ?_
 refine h.stA 1 fun w h => ?_
 refine h.stA 1 fun w h => ?_
 have h : Sat σ w (t.at b1 :: t.at b3 :: lisC lb bul num loose (some ⟨ib, 0, none⟩) .nilFunc :: t.at b5 :: t.at x5 :: lptC x15 lb :: iptC x18 ib :: (p'.at b :: M' ++ ((x2, cel [.pointer (some ⟨b, 0, none⟩)] ty_P_parseState) :: iteC ib lb n hv :: L))) := h
 have h : Sat σ w (t.at b3 :: t.at b1 :: lisC lb bul num loose (some ⟨ib, 0, none⟩) .nilFunc :: t.at b5 :: t.at x5 :: lptC x15 lb :: iptC x18 ib :: (p'.at b :: M' ++ ((x2, cel [.pointer (some ⟨b, 0, none⟩)] ty_P_parseState) :: iteC ib lb n hv :: L))) := h.re
 refine ⟨_, h.ldA, ?_⟩
 refine ⟨_, h.ldA, ?_⟩
 refine ⟨_, h.ldA, ?_⟩
 refine ⟨_, h.ldA, ?_⟩
 refine ⟨_, h.ldA, ?_⟩
 refine hR _ p' M' (by rw [hp']; simp) hs' ?_
 exact h.less [t.at b3, t.at b1, t.at b5, t.at x5, lptC x15 lb, iptC x18 ib, (x2, cel [.pointer (some ⟨b, 0, none⟩)] ty_P_parseState)]
end Go.Proofs.YtgbgadkldalkbaaGreatDoor


set_option linter.unusedVariables false
namespace Go.Proofs.YtgbgadkldalkbaaGreatDoor
open Go.Proofs Go.IntWalk Go.RowKit
variable {σ : Out} {w : World} {L L' : List Chunk} {R : Ending → World → Prop}
theorem Sl.loadMem {q : Option Addr} {n c j : Nat} {e : TypeId} {vs : List Value} {RM : List Chunk} {v : Value} {K : Addr → Prop} (hS : Sl 1 e q n c vs RM) (h : Sat σ w L) (hM : ∀ x ∈ RM, x ∈ L) (hj : vs[j]? = some v)
 (hK : ∀ b, q = some ⟨b, 0, none⟩ → w.cell? ⟨b, j, none⟩ = some v → K ⟨b, 0, none⟩) : nilP q K := by
 obtain ⟨hl, _, ⟨rfl, rfl, _, _⟩ | ⟨rb, sp, rfl, rfl, _⟩⟩ := hS
 ·have := (List.getElem?_eq_some_iff.1 hj).1; omega
 ·refine nilP_some (hK rb rfl (h.ld (hM _ (.head _)) ?_))
  rw [List.getElem?_append_left (List.getElem?_eq_some_iff.1 hj).1]; exact hj
theorem closeB_k3 {b : Nat} {p1 : PS} {ob : List OB} {par o : OB} {M IM L1 : List Chunk} {inner : List Value} {tb : TypeId} {q : Option Addr} (h : Sat σ w (p1.at b :: M ++ (IM ++ L1))) (hs : Stk p1 (ob ++ [par] ++ [o]) M) (hI : Sl 1 ty_Block par.q par.n par.c inner IM) (hin : par.n < 1000000)
 (hR : ∀ w p2 M2 IM2 q' c', p2 = { p1 with stn := ob.length + 1 } → Stk p2 (ob ++ [{ par with q := q', n := par.n + 1, c := c' }]) M2 → Sl 1 ty_Block q' (par.n + 1) c' (inner ++ [.iface tb (.pointer q)]) IM2 →
  Sat σ w (p2.at b :: M2 ++ (IM2 ++ L1)) → R (.returned (.iface tb (.pointer q))) w) : g_parseState_closeBlock.k3 R (some ⟨b, 0, none⟩) (.iface tb (.pointer q)) w := by
 have hlt := hs.2.2
 have hn1 := hs.2.1
 have hcap := hs.1.2.1
 obtain ⟨sb, sp, hq1, rfl, hsp⟩ := hs.split (by simp)
 simp only [List.length_append, List.length_singleton] at hn1 hlt
 rw [hn1] at hcap
 unfold g_parseState_closeBlock.k3
 refine h.tk fun w h => ?_
 refine nilP_some (nilP_some ?_)
 refine ⟨_, _, _, h.ldA, ?_⟩
 refine ⟨_, _, _, h.ldA, ?_⟩
 rw [hn1, len_dec (by omega), hq1]
 refine ⟨_, _, _, fun w => sliceTo rowOB.ht rowOB.hi sb (ob.length + 1 + 1) p1.stc (ob.length + 1) (by omega) hcap w, ?_⟩
 refine nilP_some ?_
 refine h.stA 0 fun w h => ?_
 let p2 : PS := { p1 with stq := some ⟨sb, 0, none⟩, stn := ob.length + 1 }
 have hp2 : p2 = { p1 with stn := ob.length + 1 } := by simp only [p2, ← hq1]
 have h : Sat σ w (p2.at b :: [(sb, cel (obCells (ob ++ [par]) ++ (o.cells ++ sp)) ty_openBlock)] ++ (IM ++ L1)) := by
  rw [obCells_snoc, List.append_assoc] at h
  exact h
 refine nilP_some ?_
 refine ⟨_, _, _, h.ldA, ?_⟩
 refine br_true (by simp [p2]) ?_
 refine h.tk fun w h => ?_
 refine nilP_some (nilP_some ?_)
 refine ⟨_, _, _, h.ldA, ?_⟩
 refine ⟨_, _, _, h.ldA, ?_⟩
 rw [show p2.stn = ob.length + 1 from rfl, len_dec (by omega), show p2.stq = some ⟨sb, 0, none⟩ from rfl]
 refine ⟨by omega, by omega, nilP_some ?_⟩
 simp only [Addr.add_lit, Nat.zero_add, Int.toNat_natCast, Nat.add_zero]
 refine ⟨_, _, _, Sat.ld h (.tail _ (.head _)) (stk_get (f := 1) (by decide) (last_get par)), ?_⟩
 have h : Sat σ _ (IM ++ (p2.at b :: (sb, cel (obCells (ob ++ [par]) ++ (o.cells ++ sp)) ty_openBlock) :: L1)) := h.re
 refine Sat.app1 rowBlock hI h (v := .iface tb (.pointer q)) rfl (by simp [Value.cells, Value.oneCell']) (by kernel_rfl) (by omega) (by omega) (by decide) fun q' c' w IM2 hI' h => ?_
 have h : Sat σ _ (p2.at b :: (sb, cel (obCells (ob ++ [par]) ++ (o.cells ++ sp)) ty_openBlock) :: (IM2 ++ L1)) := h.re
 refine Sat.st h (k := 1) rfl (by rw [List.length_append, obCells_length, List.length_append, List.length_singleton]; omega) trivial rfl fun w h => ?_
 have e := stk_set (l := ob) (sp := o.cells ++ sp) (o := par) (o' := { par with q := q', n := par.n + 1, c := c' }) (f := 1) (v := .slice q' (par.n + 1) c') (by decide) rfl
 have h : Sat σ w (p2.at b :: (sb, cel (obCells (ob ++ [{ par with q := q', n := par.n + 1, c := c' }]) ++ (o.cells ++ sp)) ty_openBlock) :: (IM2 ++ L1)) := by
  rw [← e]; exact h
 have hs2 : Stk p2 (ob ++ [{ par with q := q', n := par.n + 1, c := c' }]) [(sb, cel (obCells (ob ++ [{ par with q := q', n := par.n + 1, c := c' }]) ++ (o.cells ++ sp)) ty_openBlock)] := by
  refine Stk.mk' rfl ?_ (by simp [p2]) (by simp; omega)
  show _ = p1.stc * 4
  rw [← hsp]
  simp only [List.length_append, obCells_length, List.length_singleton, OB.cells, List.length_cons, List.length_nil]
  omega
 refine hR w p2 _ IM2 q' c' hp2 hs2 hI' h
theorem closeB_build {b : Nat} {p : PS} {ob : List OB} {o : OB} {M : List Chunk} {t : TypeId} {v : Value} (h : Sat σ w (p.at b :: M ++ L)) (hs : Stk p (ob ++ [o]) M) (ho : o.bd = .iface t v)
 (hb : ∀ w, Sat σ w (p.at b :: M ++ L) → enterE P (callMethod o.bd "pub-paratext/pub/rscmarkdown.build" #[.iface ty_P_parseState (.pointer (some ⟨b, 0, none⟩))]) (fun e w15 => ∃ (r14 : Value), e = .returned r14 ∧
  ∃ (r16_0 : Option Addr), ∃ (r16_1 : Bool), ∃ w17, (Instr.typeAssert r14 ty_Block ty_P_List true).run P w15 = .ok (.tuple #[.pointer r16_0, .bool r16_1]) w17 ∧
  br r16_1 (nilP (some ⟨b, 0, none⟩) fun a18 => ∃ (v19 : Bool), w17.cell? (a18.add 6) = some (.bool v19) ∧ br v19
   (nilP (some ⟨b, 0, none⟩) fun a20 => stV w17 ((a20.add 6).add 0) (.bool true) fun w21 => g_parseState_closeBlock.k2 R (some ⟨b, 0, none⟩) r14 r16_0 w21)
   (callE P i_listCorner #[.pointer r16_0] (fun e w23 => ∃ (r22 : Bool), e = .returned (.bool r22) ∧ nilP (some ⟨b, 0, none⟩) fun a24 => stV w23 ((a24.add 6).add 0) (.bool r22) fun w25 => g_parseState_closeBlock.k2 R (some ⟨b, 0, none⟩) r14 r16_0 w25) w17))
   (g_parseState_closeBlock.k3 R (some ⟨b, 0, none⟩) r14 w17)) w) : callE P i_parseState_closeBlock #[.pointer (some ⟨b, 0, none⟩)] R w := by
 have hlt := hs.2.2
 have hn := hs.2.1
 obtain ⟨sb, sp, hq, rfl, hsp⟩ := hs.split (by simp)
 simp only [List.length_append, List.length_singleton] at hn hlt
 refine g_parseState_closeBlock.sound ?_
 refine h.tk fun w h => ?_
 refine nilP_some (nilP_some ?_)
 refine ⟨_, _, _, h.ldA, ?_⟩
 refine ⟨_, _, _, h.ldA, ?_⟩
 rw [hn, len_dec (by omega)]
 refine ⟨by omega, by omega, ?_⟩
 rw [hq]
 refine nilP_some ?_
 simp only [Addr.add_lit, Nat.zero_add, Int.toNat_natCast]
 refine ⟨o.bd, Sat.ld h (.tail _ (.head _)) (stk_get (f := 0) (by decide) (last_get o)), false, w, by rw [ho]; exact eq_iface_nil und_bb _ _ w, br_false rfl ?_⟩
 refine nilP_some ?_
 refine ⟨o.bd, Sat.ld h (.tail _ (.head _)) (stk_get (f := 0) (by decide) (last_get o)), ?_⟩
 exact hb _ h
structure IT where
 nb : Nat
 s : Nat
 e : Nat
 q : Option Addr
 n : Nat
 c : Nat
 wd : Nat
 IM : List Chunk
 D : List DB
def IT.chunk (i : IT) : Chunk := (i.nb, cel [.int .i64 i.s, .int .i64 i.e, .slice i.q i.n i.c, .int .i64 i.wd] ty_Item)
def IT.v (i : IT) : Value := .iface ty_P_Item (.pointer (some ⟨i.nb, 0, none⟩))
def IT.db (i : IT) : DB := ⟨i.v, i.chunk :: (i.IM ++ ownC i.D), txsC i.D⟩
structure IT.ok (i : IT) : Prop where
 sl : Sl 1 ty_Block i.q i.n i.c (i.D.map DB.v) i.IM
 len : i.D.length < 1000000
 se : i.s < 1000000000 ∧ i.e < 1000000000
theorem IT.n_eq {i : IT} (h : i.ok) : i.n = i.D.length := by have := h.sl.1; simp at this; omega
theorem IT.posIs (i : IT) : i.db.posIs i.s i.e := posIs_of pos_Item rfl (.head _)
def DB.ifc (d : DB) : Prop := ∃ ty q, d.v = .iface ty (.pointer q)
def lstC (nb s e : Nat) (bul num : Int) (loose : Bool) (q : Option Addr) (n c : Nat) : Chunk := (nb, cel [.int .i64 s, .int .i64 e, .int .i32 bul, .int .i64 num, .bool loose, .slice q n c] ty_List)
theorem ta_any {t e xt : TypeId} {q : Option Addr} {ty : TypeId} {i : TypeInfo} (hu : P.underlying t = some (.pointer e)) (hi : P.info? t = some i) (hz : i.zero = some (.pointer none)) (w : World) :
 ∃ r k, (Instr.typeAssert (.iface ty (.pointer q)) xt t true).run P w = .ok (.tuple #[.pointer r, .bool k]) w := by
 by_cases ht : ty = t
 ·subst ht
  exact ⟨q, true, ta_yes (by rw [hu]; intro ms h; cases h) hu w⟩
 ·exact ⟨none, false, ta_no (by rw [hu]; intro ms h; cases h) hu ht hi hz w⟩
theorem und_PList : P.underlying ty_P_List = some (.pointer ty_List) := by kernel_rfl
theorem und_PTB : P.underlying ty_P_ThematicBreak = some (.pointer ty_ThematicBreak) := by kernel_rfl
theorem und_PCB : P.underlying ty_P_CodeBlock = some (.pointer ty_CodeBlock) := by kernel_rfl
theorem und_PItem : P.underlying ty_P_Item = some (.pointer ty_Item) := by kernel_rfl
theorem ta_item (q : Option Addr) (w : World) : (Instr.typeAssert (.iface ty_P_Item (.pointer q)) ty_Block ty_P_Item false).run P w = .ok (.pointer q) w := by
 simp [Instr.typeAssert, run_underlying und_PItem]
theorem IT.own_mem {items : List IT} {i : IT} (hi : i ∈ items) : ∀ x ∈ i.db.own, x ∈ ownC (items.map IT.db) := by
 intro x hx
 exact List.mem_flatMap.2 ⟨i.db, List.mem_map_of_mem hi, hx⟩
theorem listCorner_ok {nb s e : Nat} {bul num : Int} {loose : Bool} {q : Option Addr} {n c : Nat} {items : List IT} {IM : List Chunk} (hS : Sl 1 ty_Block q n c (items.map IT.v) IM) (hok : ∀ i ∈ items, i.ok ∧ ∀ d ∈ i.D, d.ifc) (hn : items.length < 1000000)
 (h : Sat σ w L) (hL : ∀ x ∈ lstC nb s e bul num loose q n c :: (IM ++ ownC (items.map IT.db)), x ∈ L) (hR : ∀ k, R (.returned (.bool k)) w) : callE P i_listCorner #[.pointer (some ⟨nb, 0, none⟩)] R w := by
 have hnl : n = items.length := by have := hS.1; simp at this; omega
 refine g_listCorner.sound ?_
 refine nilP_some ⟨_, _, _, Sat.ld h (hL _ (.head _)) (i := 5) rfl, ?_⟩
 intro X hX
 have key : ∀ k j : Nat, j + k = items.length → X q n c (n : Int) (j : Int) w := by
  intro k
  induction k with
  | zero =>
   intro j hj
   exact hX _ _ _ _ _ _ (br_false (by simp; omega) (hR false))
  | succ k ih =>
   intro j hj
   have hjl : j < items.length := by omega
   have him := List.getElem_mem hjl
   generalize hgi : items[j] = i at him
   obtain ⟨hio, hid⟩ := hok i him
   have hmo : ∀ x ∈ i.db.own, x ∈ L := fun x hx => hL x (.tail _ (List.mem_append_right _ (IT.own_mem him x hx)))
   have hmc : i.chunk ∈ L := hmo _ (.head _)
   have hmI : ∀ x ∈ i.IM, x ∈ L := fun x hx => hmo x (.tail _ (List.mem_append_left _ hx))
   refine hX _ _ _ _ _ _ (br_true (by simp; omega) ⟨by omega, by omega, ?_⟩)
   refine hS.loadMem h (fun x hx => hL x (.tail _ (List.mem_append_left _ hx))) (j := j) (v := i.v) (by simp [hjl, hgi]) fun qb hq hc => ?_
   simp only [Addr.add_lit, Int.toNat_natCast, Nat.mul_one, Nat.zero_add]
   refine ⟨_, hc, some ⟨i.nb, 0, none⟩, w, ta_item _ w, nilP_some ?_⟩
   refine ⟨_, _, _, Sat.ld h hmc (i := 2) rfl, ?_⟩
   rw [IT.n_eq hio]
   refine br_split (fun _ => hR true) fun hne => nilP_some ?_
   have hpos : 0 < i.D.length := by have : i.D.length ≠ 0 := by simpa using hne
                                    omega
   obtain ⟨ty, dq, hdv⟩ := hid i.D[0] (List.getElem_mem hpos)
   refine ⟨_, _, _, Sat.ld h hmc (i := 2) rfl, by decide, by rw [IT.n_eq hio]; omega, ?_⟩
   refine hio.sl.loadMem h hmI (j := 0) (v := i.D[0].v) (by simp [hpos]) fun qb2 hq2 hc2 => ?_
   simp only [Addr.add_lit, Int.toNat_natCast, Nat.mul_one, Nat.zero_add]
   rw [hdv] at hc2
   obtain ⟨r1, k1, e1⟩ := ta_any (xt := ty_Block) (q := dq) (ty := ty) und_PList (i := (P.info? ty_P_List).getD default) (by kernel_rfl) (by kernel_rfl) w
   obtain ⟨r2, k2, e2⟩ := ta_any (xt := ty_Block) (q := dq) (ty := ty) und_PTB (i := (P.info? ty_P_ThematicBreak).getD default) (by kernel_rfl) (by kernel_rfl) w
   obtain ⟨r3, k3, e3⟩ := ta_any (xt := ty_Block) (q := dq) (ty := ty) und_PCB (i := (P.info? ty_P_CodeBlock).getD default) (by kernel_rfl) (by kernel_rfl) w
   refine ⟨_, hc2, r1, k1, w, e1, r2, k2, w, e2, r3, k3, w, e3, ?_⟩
   refine br_split (fun _ => hR true) fun _ => ?_
   rw [i64_inc (by omega)]
   exact ih (j + 1) (by omega)
 exact key items.length 0 (by omega)
end Go.Proofs.YtgbgadkldalkbaaGreatDoor


set_option linter.unusedVariables false
namespace Go.Proofs.YtgbgadkldalkbaaGreatDoor
open Go.Proofs Go.IntWalk Go.RowKit
variable {σ : Out} {w : World} {L L' : List Chunk} {R : Ending → World → Prop}
theorem Sl.storeAt {q : Option Addr} {n c j : Nat} {e : TypeId} {vs : List Value} {RM : List Chunk} {v : Value} {K : World → Prop} (hS : Sl 1 e q n c vs RM) (h : Sat σ w (RM ++ L)) (hj : j < vs.length) (hv : OneCell v)
 (hK : ∀ w RM', Sl 1 e q n c (vs.set j v) RM' → Sat σ w (RM' ++ L) → K w) : nilP q fun a => stV w ((a.add j).add 0) v K := by
 obtain ⟨hl, hc, ⟨rfl, rfl, _, rfl⟩ | ⟨rb, sp, rfl, rfl, hsp⟩⟩ := hS
 ·exact absurd hl (by omega)
 ·refine nilP_some ?_
  simp only [Addr.add_lit, Nat.zero_add, Nat.add_zero]
  refine Sat.st h (k := 0) rfl (by rw [List.length_append]; omega) hv rfl fun w h => ?_
  refine hK w [(rb, cel (vs.set j v ++ sp) e)] ⟨by simpa using hl, hc, .inr ⟨rb, sp, rfl, rfl, by simpa using hsp⟩⟩ ?_
  have e1 : (vs ++ sp).set j v = vs.set j v ++ sp := List.set_append_left _ _ hj
  rw [← e1]
  exact h
def gapD (pos : DB → Nat × Nat) : List DB → Bool
 | d :: d2 :: ds => decide ((pos d).2 + 1 < (pos d2).1) || gapD pos (d2 :: ds)
 | _ => false
def gapI (pos : DB → Nat × Nat) : List IT → Bool
 | i :: i2 :: is => decide (i.e + 1 < i2.s) || (gapD pos i.D || gapI pos (i2 :: is))
 | [i] => gapD pos i.D
 | [] => false
def tightDB (d : DB) : DB := match d.v with
 | .iface ty _ => if ty = ty_P_Paragraph then match d.txs with | [x] => ⟨.iface ty_P_Text (.pointer (some ⟨x.t, 0, none⟩)), d.own, d.txs⟩ | _ => d else d
 | _ => d
theorem tightDB_para (nb t s e : Nat) (raw : List UInt8) : tightDB (paraDB nb t s e raw) = ⟨.iface ty_P_Text (.pointer (some ⟨t, 0, none⟩)), [paraC nb s e t], [⟨t, s, e, raw⟩]⟩ := by
 unfold tightDB paraDB
 simp
theorem tightDB_other {d : DB} {ty : TypeId} {q : Option Addr} (h : d.v = .iface ty (.pointer q)) (ht : ty ≠ ty_P_Paragraph) : tightDB d = d := by
 unfold tightDB
 rw [h]
 simp [ht]
def DB.kindOK (d : DB) : Prop := (∃ nb t s e raw, d = paraDB nb t s e raw) ∨ (∃ ty q, d.v = .iface ty (.pointer q) ∧ ty ≠ ty_P_Paragraph)
theorem tightDB_own {d : DB} (h : d.kindOK) : (tightDB d).own = d.own ∧ (tightDB d).txs = d.txs := by
 rcases h with ⟨nb, t, s, e, raw, rfl⟩ | ⟨ty, q, h, ht⟩
 ·rw [tightDB_para]; exact ⟨rfl, rfl⟩
 ·rw [tightDB_other h ht]; exact ⟨rfl, rfl⟩
theorem ownC_tight {D : List DB} (h : ∀ d ∈ D, d.kindOK) : ownC (D.map tightDB) = ownC D ∧ txsC (D.map tightDB) = txsC D := by
 induction D with
 | nil => exact ⟨rfl, rfl⟩
 | cons d D ih =>
  obtain ⟨a, b⟩ := tightDB_own (h d (by simp))
  obtain ⟨c, e⟩ := ih fun x hx => h x (List.mem_cons_of_mem _ hx)
  constructor
  ·show (tightDB d).own ++ ownC (D.map tightDB) = d.own ++ ownC D
   rw [a, c]
  ·show (tightDB d).txs ++ txsC (D.map tightDB) = d.txs ++ txsC D
   rw [b, e]
inductive Ret : List IT → List IT → Prop where
 | nil : Ret [] []
 | cons {i i' : IT} {is is' : List IT} : i' = { i with D := i.D.map tightDB, IM := i'.IM } → i'.ok → Ret is is' → Ret (i :: is) (i' :: is')
theorem Ret.snoc {is is' : List IT} {i i' : IT} (h : Ret is is') (h1 : i' = { i with D := i.D.map tightDB, IM := i'.IM }) (h2 : i'.ok) : Ret (is ++ [i]) (is' ++ [i']) := by
 induction h with
 | nil => exact .cons h1 h2 .nil
 | cons a b _ ih => exact .cons a b ih
theorem Ret.vs {is is' : List IT} (h : Ret is is') : is'.map IT.v = is.map IT.v := by
 induction h with
 | nil => rfl
 | cons a b _ ih => rw [List.map_cons, List.map_cons, ih, a]; rfl
theorem und_PPar : P.underlying ty_P_Paragraph = some (.pointer ty_Paragraph) := by kernel_rfl
theorem ta_para_yes (q : Option Addr) (w : World) : (Instr.typeAssert (.iface ty_P_Paragraph (.pointer q)) ty_Block ty_P_Paragraph true).run P w = .ok (.tuple #[.pointer q, .bool true]) w :=
 ta_yes (by rw [und_PPar]; intro ms h; cases h) und_PPar w
theorem ta_para_no {ty : TypeId} {v : Value} (ht : ty ≠ ty_P_Paragraph) (w : World) : (Instr.typeAssert (.iface ty v) ty_Block ty_P_Paragraph true).run P w = .ok (.tuple #[.pointer none, .bool false]) w :=
 ta_no (by rw [und_PPar]; intro ms h; cases h) und_PPar ht (i := (P.info? ty_P_Paragraph).getD default) (by kernel_rfl) (by kernel_rfl) w
theorem meth_listBuild : methB P ty_P_listBuilder "pub-paratext/pub/rscmarkdown.build" i_listBuilder_build = true := by kernel_rfl
theorem meth_itemBuild : methB P ty_P_itemBuilder "pub-paratext/pub/rscmarkdown.build" i_itemBuilder_build = true := by kernel_rfl
theorem meth_quoteBuild : methB P ty_P_quoteBuilder "pub-paratext/pub/rscmarkdown.build" i_quoteBuilder_build = true := by kernel_rfl
theorem listBuild_ok {b lb : Nat} {bul num : Int} {td : Value} {p : PS} {ob : List OB} {o : OB} {M IM : List Chunk} {items : List IT} {pos : DB → Nat × Nat} {it : Option Addr}
 (h : Sat σ w (p.at b :: M ++ (lisC lb bul num false it td :: (IM ++ (ownC (items.map IT.db) ++ L))))) (hs : Stk p (ob ++ [o]) M) (hS : Sl 1 ty_Block o.q o.n o.c (items.map IT.v) IM) (hne : items ≠ []) (hn : items.length < 1000000) (hbs : o.s < 1000000000)
 (hok : ∀ i ∈ items, i.ok ∧ ∀ d ∈ i.D, d.kindOK ∧ d.posIs (pos d).1 (pos d).2 ∧ (pos d).1 < 1000000000 ∧ (pos d).2 < 2000000000)
 (hR : ∀ w nb e (items' : List IT), (gapI pos items = true ∧ items' = items ∨ gapI pos items = false ∧ Ret items items') → (∃ i ∈ items, e = i.e) →
  Sat σ w (p.at b :: M ++ (lstC nb o.s e bul num (gapI pos items) o.q o.n o.c :: (IM ++ (ownC (items'.map IT.db) ++ L)))) → R (.returned (.iface ty_P_List (.pointer (some ⟨nb, 0, none⟩)))) w) :
 callE P i_listBuilder_build #[.pointer (some ⟨lb, 0, none⟩), .iface ty_P_parseState (.pointer (some ⟨b, 0, none⟩))] R w := by
 have hnl : o.n = items.length := by have := hS.1; simp at this; omega
 have hpl : 0 < items.length := List.length_pos_iff.2 hne
 refine g_listBuilder_build.sound ?_
 refine enter_meth meth_blocks ?_
 refine blocks_ok h hs fun w h => ⟨_, _, _, rfl, ?_⟩
 refine enter_meth meth_pos ?_
 refine pos_ok h hs fun w h => ⟨_, _, rfl, ?_⟩
 refine Sat.bx h fun b5 w h => ?_
 refine h.stA 0 fun w h => ?_
 refine h.stA 0 fun w h => ?_
 have h : Sat σ w ((b5, cel [.int .i64 o.s, .int .i64 o.e] ty_Position) :: (p.at b :: M ++ (lisC lb bul num false it td :: (IM ++ (ownC (items.map IT.db) ++ L))))) := h
 rw [hnl] at hS ⊢
 have hw1 : IntKind.i64.wrap ((items.length : Int) - 1) = ((items.length - 1 : Nat) : Int) := by rw [i64_in _ (by omega)]; omega
 rw [hw1]
 refine ⟨by omega, by omega, ?_⟩
 generalize hla : items[items.length - 1]'(by omega) = la
 have hlam : la ∈ items := by rw [← hla]; exact List.getElem_mem _
 have hIM : ∀ {K : List Chunk} {x : Chunk}, x ∈ IM → x ∈ K ++ (lisC lb bul num false it td :: (IM ++ (ownC (items.map IT.db) ++ L))) := fun hx => by simp [hx]
 refine hS.loadMem h (fun x hx => .tail _ (hIM hx)) (j := items.length - 1) (v := la.v) (by rw [List.getElem?_map, List.getElem?_eq_getElem (by omega), hla]; rfl) fun qb hq hc => ?_
 simp only [Addr.add_lit, Int.toNat_natCast, Nat.mul_one, Nat.zero_add]
 refine ⟨_, hc, ?_⟩
 have hmo : ∀ {K : List Chunk} {i : IT}, i ∈ items → ∀ x ∈ i.db.own, x ∈ K ++ (lisC lb bul num false it td :: (IM ++ (ownC (items.map IT.db) ++ L))) := fun hi x hx => by
  have := IT.own_mem hi x hx
  simp [this]
 refine la.posIs σ _ _ w (fun x hx => .tail _ (hmo hlam x hx)) h fun w h => ⟨_, _, rfl, ?_⟩
 refine h.stA 0 fun w h => ?_
 have h : Sat σ w ((b5, cel [.int .i64 o.s, .int .i64 la.e] ty_Position) :: (p.at b :: M ++ (lisC lb bul num false it td :: (IM ++ (ownC (items.map IT.db) ++ L))))) := h
 have k3 : ∀ (lo : Bool) (items' : List IT) w, (∀ w nb, Sat σ w (p.at b :: M ++ (lstC nb o.s la.e bul num lo o.q items.length o.c :: (IM ++ (ownC (items'.map IT.db) ++ L)))) → R (.returned (.iface ty_P_List (.pointer (some ⟨nb, 0, none⟩)))) w) →
  Sat σ w ((b5, cel [.int .i64 o.s, .int .i64 la.e] ty_Position) :: lisC lb bul num lo it td :: (p.at b :: M ++ (IM ++ (ownC (items'.map IT.db) ++ L)))) → g_listBuilder_build.k3 R (some ⟨lb, 0, none⟩) (.iface ty_P_parseState (.pointer (some ⟨b, 0, none⟩))) b5 w := by
  intro lo items' w hR h
  refine Sat.tk h fun w h => nilP_some (nilP_some (nilP_some ?_))
  refine ⟨_, Sat.ld h (.head _) (i := 0) rfl, _, Sat.ld h (.head _) (i := 1) rfl, _, Sat.ld h (.tail _ (.head _)) (i := 0) rfl, _, Sat.ld h (.tail _ (.head _)) (i := 1) rfl, _, Sat.ld h (.tail _ (.head _)) (i := 2) rfl, ?_⟩
  have h0 := h
  have h : Sat σ w (p.at b :: M ++ ((b5, cel [.int .i64 o.s, .int .i64 la.e] ty_Position) :: lisC lb bul num lo it td :: (IM ++ (ownC (items'.map IT.db) ++ L)))) := h.re
  have hm1 : lisC lb bul num lo it td ∈ p.at b :: M ++ ((b5, cel [.int .i64 o.s, .int .i64 la.e] ty_Position) :: lisC lb bul num lo it td :: (IM ++ (ownC (items'.map IT.db) ++ L))) := by simp
  have hm5 : (b5, cel [.int .i64 o.s, .int .i64 la.e] ty_Position) ∈ p.at b :: M ++ ((b5, cel [.int .i64 o.s, .int .i64 la.e] ty_Position) :: lisC lb bul num lo it td :: (IM ++ (ownC (items'.map IT.db) ++ L))) := by simp
  refine enter_meth meth_blocks ?_
  refine blocks_ok h hs fun w h => ⟨_, _, _, rfl, h0.same h (.tail _ (.head _)) hm1 1, h0.same h (.tail _ (.head _)) hm1 1, h0.same h (.tail _ (.head _)) hm1 1, h0.same h (.head _) hm5 2, ?_⟩
  refine Sat.bx h fun nb w h => ?_
  refine hR w nb ?_
  rw [hnl] at h
  have h : Sat σ w (lstC nb o.s la.e bul num lo o.q items.length o.c :: (p.at b :: M ++ ((b5, cel [.int .i64 o.s, .int .i64 la.e] ty_Position) :: lisC lb bul num lo it td :: (IM ++ (ownC (items'.map IT.db) ++ L))))) := h
  exact h.less [(b5, cel [.int .i64 o.s, .int .i64 la.e] ty_Position), lisC lb bul num lo it td]
 have l2 : ∀ w, (∀ w nb (items' : List IT), Ret items items' → Sat σ w (p.at b :: M ++ (lstC nb o.s la.e bul num false o.q items.length o.c :: (IM ++ (ownC (items'.map IT.db) ++ L)))) → R (.returned (.iface ty_P_List (.pointer (some ⟨nb, 0, none⟩)))) w) →
  Sat σ w ((b5, cel [.int .i64 o.s, .int .i64 la.e] ty_Position) :: lisC lb bul num false it td :: (p.at b :: M ++ (IM ++ (ownC (items.map IT.db) ++ L)))) →
  g_listBuilder_build.l2 R (some ⟨lb, 0, none⟩) (.iface ty_P_parseState (.pointer (some ⟨b, 0, none⟩))) b5 o.q items.length o.c (items.length : Int) 0 w := by
  intro w hR h X hX
  have key : ∀ (suf pre pre' : List IT) w, pre ++ suf = items → Ret pre pre' → Sat σ w ((b5, cel [.int .i64 o.s, .int .i64 la.e] ty_Position) :: lisC lb bul num false it td :: (p.at b :: M ++ (IM ++ (ownC ((pre' ++ suf).map IT.db) ++ L)))) →
   X (some ⟨lb, 0, none⟩) (.iface ty_P_parseState (.pointer (some ⟨b, 0, none⟩))) b5 o.q items.length o.c (items.length : Int) (pre.length : Int) w := by
   intro suf
   induction suf with
   | nil =>
    intro pre pre' w he hret h
    rw [List.append_nil] at he h
    exact hX _ _ _ _ _ _ _ _ _ (br_false (by rw [he]; simp) (k3 false pre' w (fun w nb h => hR w nb pre' (he ▸ hret) h) h))
   | cons i suf ih =>
    intro pre pre' w he hret h
    have hlt : pre.length < items.length := by rw [← he]; simp
    have him : i ∈ items := by rw [← he]; simp
    obtain ⟨hio, hid⟩ := hok i him
    have hgi : items[pre.length] = i := by simp [← he]
    refine hX _ _ _ _ _ _ _ _ _ (br_true (by simp; omega) ⟨by omega, by omega, ?_⟩)
    refine hS.loadMem h (fun x hx => by simp [hx]) (j := pre.length) (v := i.v) (by rw [List.getElem?_map, List.getElem?_eq_getElem hlt, hgi]; rfl) fun qb hq hc => ?_
    simp only [Addr.add_lit, Int.toNat_natCast, Nat.mul_one, Nat.zero_add]
    refine ⟨_, hc, some ⟨i.nb, 0, none⟩, w, ta_item _ w, nilP_some ?_⟩
    have eown : ownC ((pre' ++ i :: suf).map IT.db) = ownC (pre'.map IT.db) ++ (i.chunk :: (i.IM ++ ownC i.D) ++ ownC (suf.map IT.db)) := by
     simp [ownC, IT.db]
    rw [eown] at h
    have h : Sat σ w (i.IM ++ (i.chunk :: ((b5, cel [.int .i64 o.s, .int .i64 la.e] ty_Position) :: lisC lb bul num false it td :: (p.at b :: M ++ (IM ++ (ownC (pre'.map IT.db) ++ (ownC i.D ++ (ownC (suf.map IT.db) ++ L)))))))) := h.re
    have hmc : ∀ {K : List Chunk}, i.chunk ∈ K ++ (i.chunk :: ((b5, cel [.int .i64 o.s, .int .i64 la.e] ty_Position) :: lisC lb bul num false it td :: (p.at b :: M ++ (IM ++ (ownC (pre'.map IT.db) ++ (ownC i.D ++ (ownC (suf.map IT.db) ++ L))))))) := by intro K; simp
    refine ⟨_, _, _, Sat.ld h hmc (i := 2) rfl, ?_⟩
    have hin := IT.n_eq hio
    have hilen := hio.len
    rw [hin]
    intro Y hY
    have inner : ∀ (dsuf dpre : List DB) RM w, dpre ++ dsuf = i.D → Sl 1 ty_Block i.q i.D.length i.c ((dpre.map tightDB ++ dsuf).map DB.v) RM →
     Sat σ w (RM ++ (i.chunk :: ((b5, cel [.int .i64 o.s, .int .i64 la.e] ty_Position) :: lisC lb bul num false it td :: (p.at b :: M ++ (IM ++ (ownC (pre'.map IT.db) ++ (ownC i.D ++ (ownC (suf.map IT.db) ++ L)))))))) →
     Y (some ⟨lb, 0, none⟩) (.iface ty_P_parseState (.pointer (some ⟨b, 0, none⟩))) b5 (some ⟨i.nb, 0, none⟩) o.q items.length o.c (items.length : Int) (pre.length : Int) i.q i.D.length i.c (i.D.length : Int) (dpre.length : Int) w := by
     intro dsuf
     induction dsuf with
     | nil =>
      intro dpre RM w he2 hSl h
      rw [List.append_nil] at he2 hSl
      rw [he2] at hSl
      refine hY _ _ _ _ _ _ _ _ _ _ _ _ _ _ _ (br_false (by rw [he2]; simp) ?_)
      rw [i64_inc (by omega)]
      have := ih (pre ++ [i]) (pre' ++ [{ i with D := i.D.map tightDB, IM := RM }]) w (by rw [← he]; simp) (hret.snoc rfl ⟨by simpa [hin] using hSl, by simpa using hio.len, hio.se⟩) ?_
      ·rw [List.length_append, List.length_singleton] at this; exact this
      ·have e2 := (ownC_tight (D := i.D) fun d hd => (hid d hd).1).1
       have e1 : ownC (((pre' ++ [{ i with D := i.D.map tightDB, IM := RM }]) ++ suf).map IT.db) = ownC (pre'.map IT.db) ++ (i.chunk :: (RM ++ ownC i.D) ++ ownC (suf.map IT.db)) := by
        rw [← e2]
        simp [ownC, IT.db, IT.chunk]
       rw [e1]
       exact h.re
     | cons d dsuf ihd =>
      intro dpre RM w he2 hSl h
      have hdl : dpre.length < i.D.length := by rw [← he2]; simp
      have hdm : d ∈ i.D := by rw [← he2]; simp
      obtain ⟨hk, _, _⟩ := hid d hdm
      refine hY _ _ _ _ _ _ _ _ _ _ _ _ _ _ _ (br_true (by simp; omega) ⟨by omega, by omega, ?_⟩)
      have hget : ((dpre.map tightDB ++ d :: dsuf).map DB.v)[dpre.length]? = some d.v := by
       rw [List.getElem?_map, List.getElem?_append_right (by simp)]; simp
      refine hSl.loadAt h hget fun qb hq hc => ?_
      simp only [Addr.add_lit, Int.toNat_natCast, Nat.mul_one, Nat.zero_add]
      refine ⟨_, hc, ?_⟩
      have hset : ∀ v : Value, v = (tightDB d).v → ((dpre.map tightDB ++ d :: dsuf).map DB.v).set dpre.length v = ((dpre ++ [d]).map tightDB ++ dsuf).map DB.v := by
       rintro v rfl
       simp
      rcases hk with ⟨nb, t, s, e, raw, rfl⟩ | ⟨ty, dq, hv, hty⟩
      ·refine ⟨some ⟨nb, 0, none⟩, true, w, ta_para_yes _ w, br_true rfl ?_⟩
       refine Sat.tk h fun w h => nilP_some (nilP_some ?_)
       have hmp : paraC nb s e t ∈ RM ++ (i.chunk :: ((b5, cel [.int .i64 o.s, .int .i64 la.e] ty_Position) :: lisC lb bul num false it td :: (p.at b :: M ++ (IM ++ (ownC (pre'.map IT.db) ++ (ownC i.D ++ (ownC (suf.map IT.db) ++ L))))))) := by
        have : paraC nb s e t ∈ ownC i.D := List.mem_flatMap.2 ⟨_, hdm, by simp [paraDB]⟩
        simp [this]
       refine ⟨_, _, _, Sat.ld h hmc (i := 2) rfl, _, Sat.ld h hmp (i := 2) rfl, by omega, by rw [hin]; omega, ?_⟩
       refine hSl.storeAt h (j := dpre.length) (v := .iface ty_P_Text (.pointer (some ⟨t, 0, none⟩))) (by simp) trivial fun w RM' hSl' h => ?_
       rw [hset _ (by rw [tightDB_para])] at hSl'
       rw [i64_inc (by omega)]
       have := ihd (dpre ++ [paraDB nb t s e raw]) RM' w (by rw [← he2]; simp) hSl' h
       rw [List.length_append, List.length_singleton] at this; exact this
      ·rw [hv]
       refine ⟨none, false, w, ta_para_no hty w, br_false rfl ?_⟩
       rw [i64_inc (by omega)]
       have e3 : (dpre.map tightDB ++ d :: dsuf).map DB.v = ((dpre ++ [d]).map tightDB ++ dsuf).map DB.v := by simp [tightDB_other hv hty]
       rw [e3] at hSl
       have := ihd (dpre ++ [d]) RM w (by rw [← he2]; simp) hSl h
       rw [List.length_append, List.length_singleton] at this; exact this
    have hsl0 : Sl 1 ty_Block i.q i.D.length i.c (([].map tightDB ++ i.D).map DB.v) i.IM := by rw [← hin]; exact hio.sl
    exact inner i.D [] i.IM w rfl hsl0 h
  exact key items [] [] w rfl .nil h
 have k1 : ∀ w, Sat σ w ((b5, cel [.int .i64 o.s, .int .i64 la.e] ty_Position) :: lisC lb bul num (gapI pos items) it td :: (p.at b :: M ++ (IM ++ (ownC (items.map IT.db) ++ L)))) → g_listBuilder_build.k1 R (some ⟨lb, 0, none⟩) (.iface ty_P_parseState (.pointer (some ⟨b, 0, none⟩))) o.q items.length o.c b5 w := by
  intro w h
  refine nilP_some ⟨_, Sat.ld h (.tail _ (.head _)) (i := 2) rfl, ?_⟩
  rw [hnl] at hR
  cases hg : gapI pos items with
  | true =>
   rw [hg] at h hR
   exact br_false rfl (k3 true items w (fun w nb h => hR w nb la.e items (.inl ⟨rfl, rfl⟩) ⟨la, hlam, rfl⟩ h) h)
  | false =>
   rw [hg] at h hR
   exact br_true rfl (l2 w (fun w nb items' hr h => hR w nb la.e items' (.inr ⟨rfl, hr⟩) ⟨la, hlam, rfl⟩ h) h)
 intro X hX
 have kT : ∀ w, gapI pos items = true → Sat σ w ((b5, cel [.int .i64 o.s, .int .i64 la.e] ty_Position) :: (p.at b :: M ++ (lisC lb bul num false it td :: (IM ++ (ownC (items.map IT.db) ++ L))))) →
  nilP (some ⟨lb, 0, none⟩) fun a => stV w ((a.add 2).add 0) (.bool true) fun w => g_listBuilder_build.k1 R (some ⟨lb, 0, none⟩) (.iface ty_P_parseState (.pointer (some ⟨b, 0, none⟩))) o.q items.length o.c b5 w := by
  intro w hg h
  have h : Sat σ w (lisC lb bul num false it td :: (b5, cel [.int .i64 o.s, .int .i64 la.e] ty_Position) :: (p.at b :: M ++ (IM ++ (ownC (items.map IT.db) ++ L)))) := h.re
  refine nilP_some ?_
  refine h.stA 0 fun w h => ?_
  refine k1 w ?_
  rw [hg]
  have h : Sat σ w (lisC lb bul num true it td :: (b5, cel [.int .i64 o.s, .int .i64 la.e] ty_Position) :: (p.at b :: M ++ (IM ++ (ownC (items.map IT.db) ++ L)))) := h
  exact h.re
 have key : ∀ (suf pre : List IT) w, pre ++ suf = items → gapI pos items = gapI pos suf → Sat σ w ((b5, cel [.int .i64 o.s, .int .i64 la.e] ty_Position) :: (p.at b :: M ++ (lisC lb bul num false it td :: (IM ++ (ownC (items.map IT.db) ++ L))))) →
  X (some ⟨lb, 0, none⟩) (.iface ty_P_parseState (.pointer (some ⟨b, 0, none⟩))) o.q items.length o.c b5 o.q items.length o.c (items.length : Int) (pre.length : Int) w := by
  intro suf
  induction suf with
  | nil =>
   intro pre w he hg h
   rw [List.append_nil] at he
   subst he
   refine hX _ _ _ _ _ _ _ _ _ _ _ _ (br_false (by simp) (k1 w ?_))
   rw [hg]
   have h : Sat σ w ((b5, cel [.int .i64 o.s, .int .i64 la.e] ty_Position) :: (p.at b :: M ++ (lisC lb bul num (gapI pos []) it td :: (IM ++ (ownC (pre.map IT.db) ++ L))))) := h
   exact h.re
  | cons i suf ih =>
   intro pre w he hg h
   have hlt : pre.length < items.length := by rw [← he]; simp
   have him : i ∈ items := by rw [← he]; simp
   obtain ⟨hio, hid⟩ := hok i him
   have hgi : items[pre.length] = i := by simp [← he]
   have hmoi : ∀ x ∈ i.db.own, x ∈ (b5, cel [.int .i64 o.s, .int .i64 la.e] ty_Position) :: (p.at b :: M ++ (lisC lb bul num false it td :: (IM ++ (ownC (items.map IT.db) ++ L)))) := fun x hx => .tail _ (hmo him x hx)
   refine hX _ _ _ _ _ _ _ _ _ _ _ _ (br_true (by simp; omega) ⟨by omega, by omega, ?_⟩)
   refine hS.loadMem h (fun x hx => .tail _ (hIM hx)) (j := pre.length) (v := i.v) (by rw [List.getElem?_map, List.getElem?_eq_getElem hlt, hgi]; rfl) fun qb hq hc => ?_
   simp only [Addr.add_lit, Int.toNat_natCast, Nat.mul_one, Nat.zero_add]
   refine ⟨_, hc, some ⟨i.nb, 0, none⟩, w, ta_item _ w, ?_⟩
   rw [i64_inc (by omega)]
   have inner : ∀ rest w, (gapI pos items = (gapD pos i.D || rest)) → (∀ w, gapI pos items = rest → Sat σ w ((b5, cel [.int .i64 o.s, .int .i64 la.e] ty_Position) :: (p.at b :: M ++ (lisC lb bul num false it td :: (IM ++ (ownC (items.map IT.db) ++ L))))) →
    X (some ⟨lb, 0, none⟩) (.iface ty_P_parseState (.pointer (some ⟨b, 0, none⟩))) o.q items.length o.c b5 o.q items.length o.c (items.length : Int) ((pre.length + 1 : Nat) : Int) w) →
    Sat σ w ((b5, cel [.int .i64 o.s, .int .i64 la.e] ty_Position) :: (p.at b :: M ++ (lisC lb bul num false it td :: (IM ++ (ownC (items.map IT.db) ++ L))))) →
    g_listBuilder_build.k2 R X (some ⟨lb, 0, none⟩) (.iface ty_P_parseState (.pointer (some ⟨b, 0, none⟩))) o.q items.length o.c b5 (some ⟨i.nb, 0, none⟩) o.q items.length o.c (items.length : Int) (pre.length : Int) w := by
    intro rest w hgr hnext h
    refine nilP_some ⟨_, _, _, Sat.ld h (hmoi _ (.head _)) (i := 2) rfl, ?_⟩
    have hin := IT.n_eq hio
    rw [hin]
    have hsl := hio.sl
    rw [hin] at hsl
    have hmI : ∀ x ∈ i.IM, x ∈ (b5, cel [.int .i64 o.s, .int .i64 la.e] ty_Position) :: (p.at b :: M ++ (lisC lb bul num false it td :: (IM ++ (ownC (items.map IT.db) ++ L)))) := fun x hx => hmoi x (.tail _ (List.mem_append_left _ hx))
    have hmD : ∀ d ∈ i.D, ∀ x ∈ d.own, x ∈ (b5, cel [.int .i64 o.s, .int .i64 la.e] ty_Position) :: (p.at b :: M ++ (lisC lb bul num false it td :: (IM ++ (ownC (items.map IT.db) ++ L)))) := fun d hd x hx => hmoi x (.tail _ (List.mem_append_right _ (List.mem_flatMap.2 ⟨d, hd, hx⟩)))
    intro Y hY
    have key2 : ∀ (dsuf dpre : List DB) w, dpre ++ dsuf = i.D → gapI pos items = (gapD pos dsuf || rest) → Sat σ w ((b5, cel [.int .i64 o.s, .int .i64 la.e] ty_Position) :: (p.at b :: M ++ (lisC lb bul num false it td :: (IM ++ (ownC (items.map IT.db) ++ L))))) →
     Y (some ⟨lb, 0, none⟩) (.iface ty_P_parseState (.pointer (some ⟨b, 0, none⟩))) o.q items.length o.c b5 (some ⟨i.nb, 0, none⟩) o.q items.length o.c (items.length : Int) (pre.length : Int) i.q i.D.length i.c (i.D.length : Int) (dpre.length : Int) w := by
     intro dsuf
     induction dsuf with
     | nil =>
      intro dpre w he2 hg2 h
      rw [List.append_nil] at he2
      refine hY _ _ _ _ _ _ _ _ _ _ _ _ _ _ _ _ _ _ (br_false (by rw [he2]; simp) ?_)
      rw [i64_inc (by omega)]
      exact hnext w (by rw [hg2]; rfl) h
     | cons d dsuf ihd =>
      intro dpre w he2 hg2 h
      have hdl : dpre.length < i.D.length := by rw [← he2]; simp
      have hdm : d ∈ i.D := by rw [← he2]; simp
      have hilen := hio.len
      obtain ⟨_, hp, hp1, hp2⟩ := hid d hdm
      refine hY _ _ _ _ _ _ _ _ _ _ _ _ _ _ _ _ _ _ (br_true (by simp; omega) ⟨by omega, by omega, ?_⟩)
      refine hsl.loadMem h hmI (j := dpre.length) (v := d.v) (by rw [← he2]; simp) fun qb2 hq2 hc2 => ?_
      simp only [Addr.add_lit, Int.toNat_natCast, Nat.mul_one, Nat.zero_add]
      refine ⟨_, hc2, ?_⟩
      refine hp σ _ _ w (hmD d hdm) h fun w h => ⟨_, _, rfl, nilP_some ?_⟩
      refine ⟨_, _, _, Sat.ld h (hmoi _ (.head _)) (i := 2) rfl, ?_⟩
      rw [hin, i64_inc (by omega)]
      cases dsuf with
      | nil =>
       refine br_false (by rw [← he2]; simp) ?_
       have := ihd (dpre ++ [d]) w (by rw [← he2]; simp) (by rw [hg2]; rfl) h
       rw [List.length_append, List.length_singleton] at this; exact this
      | cons d2 ds =>
       have hdl2 : dpre.length + 1 < i.D.length := by rw [← he2]; simp
       have hd2m : d2 ∈ i.D := by rw [← he2]; simp
       obtain ⟨_, hpp, hpp1, hpp2⟩ := hid d2 hd2m
       refine br_true (by simp; omega) (nilP_some ?_)
       refine ⟨_, _, _, Sat.ld h (hmoi _ (.head _)) (i := 2) rfl, by omega, by rw [hin]; omega, ?_⟩
       refine hsl.loadMem h hmI (j := dpre.length + 1) (v := d2.v) (by rw [← he2]; simp) fun qb3 hq3 hc3 => ?_
       simp only [Addr.add_lit, Int.toNat_natCast, Nat.mul_one, Nat.zero_add]
       refine ⟨_, hc3, ?_⟩
       refine hpp σ _ _ w (hmD d2 hd2m) h fun w h => ⟨_, _, rfl, ?_⟩
       rw [i64_in _ (by omega)]
       refine br_split (fun hgap => ?_) fun hgap => ?_
       ·refine kT w ?_ h
        have : decide ((pos d).2 + 1 < (pos d2).1) = true := by simp at hgap ⊢; omega
        rw [hg2, gapD, this]; rfl
       ·have := ihd (dpre ++ [d]) w (by rw [← he2]; simp) ?_ h
        ·rw [List.length_append, List.length_singleton] at this; exact this
        ·have : decide ((pos d).2 + 1 < (pos d2).1) = false := by simp at hgap ⊢; omega
         rw [hg2, gapD, this]; rfl
    exact key2 i.D [] w rfl hgr h
   cases suf with
   | nil =>
    refine br_false (by rw [← he]; simp) ?_
    refine inner false w (by rw [hg]; simp [gapI]) (fun w hgf h => ?_) h
    have := ih (pre ++ [i]) w (by rw [← he]; simp) (by rw [hgf]; rfl) h
    rw [List.length_append, List.length_singleton] at this; exact this
   | cons i2 is =>
    have hlt2 : pre.length + 1 < items.length := by rw [← he]; simp
    have hgi2 : items[pre.length + 1] = i2 := by simp [← he]
    have hi2m : i2 ∈ items := by rw [← he]; simp
    obtain ⟨hio2, _⟩ := hok i2 hi2m
    have hse := hio.se
    have hse2 := hio2.se
    refine br_true (by simp; omega) ?_
    refine Sat.tk h fun w h => ⟨by omega, by omega, ?_⟩
    refine hS.loadMem h (fun x hx => .tail _ (hIM hx)) (j := pre.length + 1) (v := i2.v) (by rw [List.getElem?_map, List.getElem?_eq_getElem hlt2, hgi2]; rfl) fun qb3 hq3 hc3 => ?_
    simp only [Addr.add_lit, Int.toNat_natCast, Nat.mul_one, Nat.zero_add]
    refine nilP_some ⟨_, hc3, _, Sat.ld h (hmoi _ (.head _)) (i := 1) rfl, ?_⟩
    have h0 := h
    refine i2.posIs σ _ _ w (fun x hx => .tail _ (hmo hi2m x hx)) h fun w h => ⟨_, _, rfl, h0.same h (hmoi _ (.head _)) (hmoi _ (.head _)) 1, ?_⟩
    rw [i64_in _ (by omega)]
    have hgd : gapI pos (i :: i2 :: is) = (decide (i.e + 1 < i2.s) || (gapD pos i.D || gapI pos (i2 :: is))) := rfl
    refine br_split (fun hgap => ?_) fun hgap => ?_
    ·refine kT w ?_ h
     have : decide (i.e + 1 < i2.s) = true := by simp at hgap ⊢; omega
     rw [hg, hgd, this]; rfl
    ·have hno : decide (i.e + 1 < i2.s) = false := by simp at hgap ⊢; omega
     refine inner (gapI pos (i2 :: is)) w (by rw [hg, hgd, hno]; rfl) (fun w hgf h => ?_) h
     have := ih (pre ++ [i]) w (by rw [← he]; simp) hgf h
     rw [List.length_append, List.length_singleton] at this; exact this
 exact key items [] w rfl rfl h
end Go.Proofs.YtgbgadkldalkbaaGreatDoor


set_option linter.unusedVariables false
namespace Go.Proofs.YtgbgadkldalkbaaGreatDoor
open Go.Proofs Go.IntWalk Go.RowKit
variable {σ : Out} {w : World} {L L' : List Chunk} {R : Ending → World → Prop}
def qutC (nb s e : Nat) (q : Option Addr) (n c : Nat) : Chunk := (nb, cel [.int .i64 s, .int .i64 e, .slice q n c] ty_Quote)
def quoDB (nb s e : Nat) (q : Option Addr) (n c : Nat) (IM : List Chunk) (D : List DB) : DB := ⟨.iface ty_P_Quote (.pointer (some ⟨nb, 0, none⟩)), qutC nb s e q n c :: (IM ++ ownC D), txsC D⟩
def lisDB (nb s e : Nat) (bul num : Int) (lo : Bool) (q : Option Addr) (n c : Nat) (IM : List Chunk) (items : List IT) : DB :=
 ⟨.iface ty_P_List (.pointer (some ⟨nb, 0, none⟩)), lstC nb s e bul num lo q n c :: (IM ++ ownC (items.map IT.db)), txsC (items.map IT.db)⟩
end Go.Proofs.YtgbgadkldalkbaaGreatDoor


set_option linter.unusedVariables false
namespace Go.Proofs.YtgbgadkldalkbaaGreatDoor
open Go.Proofs Go.IntWalk Go.RowKit
variable {σ : Out} {w : World} {L L' : List Chunk} {R : Ending → World → Prop}
structure Bk where
 ob : OB
 own : List Chunk
 D : List DB
 IM : List Chunk
def Bk.ok (f : Bk) : Prop := Sl 1 ty_Block f.ob.q f.ob.n f.ob.c (f.D.map DB.v) f.IM ∧ f.D.length < 100000 ∧ f.ob.s < 1000000000 ∧ f.ob.e < 1000000000
def txc (D : List DB) : List Chunk := (txsC D).map TX.chunk
def Bk.mem (f : Bk) : List Chunk := f.IM ++ (f.own ++ (ownC f.D ++ txc f.D))
def memFs (fs : List Bk) : List Chunk := fs.flatMap Bk.mem
def txF (fs : List Bk) : List TX := fs.flatMap fun f => txsC f.D
theorem memFs_append (a b : List Bk) : memFs (a ++ b) = memFs a ++ memFs b := by simp [memFs]
theorem memFs_one (f : Bk) : memFs [f] = f.IM ++ (f.own ++ (ownC f.D ++ txc f.D)) := by simp [memFs, Bk.mem]
theorem memFs_two (f g : Bk) : memFs [f, g] = f.IM ++ (f.own ++ (ownC f.D ++ txc f.D)) ++ (g.IM ++ (g.own ++ (ownC g.D ++ txc g.D))) := by simp [memFs, Bk.mem]
theorem txF_append (a b : List Bk) : txF (a ++ b) = txF a ++ txF b := by simp [txF]
theorem txF_one (f : Bk) : txF [f] = txsC f.D := by simp [txF]
theorem txF_two (f g : Bk) : txF [f, g] = txsC f.D ++ txsC g.D := by simp [txF]
theorem txc_snoc (D : List DB) (d : DB) : txc (D ++ [d]) = txc D ++ d.txs.map TX.chunk := by simp [txc, txsC_snoc]
def DocC (σ : Out) (b : Nat) (L : List Chunk) (fs : List Bk) (lf : Leaf) (p : PS) (w : World) : Prop :=
 ∃ M TM lobs LM, Stk p (fs.map Bk.ob ++ lobs) M ∧ Txts p ((txF fs).map TX.t) TM ∧ (∀ f ∈ fs, f.ok) ∧ LeafAt lf lobs LM ∧ Sat σ w (p.at b :: M ++ (TM ++ (memFs fs ++ (LM ++ L))))
def Bk.like (f' f : Bk) : Prop := f'.ob.bd = f.ob.bd ∧ f'.ob.s = f.ob.s ∧ f'.ob.e = f.ob.e ∧ f'.own = f.own
theorem DocC.closed {b : Nat} {gs : List Bk} {par f : Bk} {p2 : PS} {M2 IM2 TM : List Chunk} {q' : Option Addr} {c' : Nat} {d : DB} {own' : List Chunk} (hok : ∀ g ∈ gs ++ [par, f], Bk.ok g) (hD : par.D.length < 99999)
 (hs2 : Stk p2 (gs.map Bk.ob ++ [{ par.ob with q := q', n := par.ob.n + 1, c := c' }]) M2) (hI2 : Sl 1 ty_Block q' (par.ob.n + 1) c' (par.D.map DB.v ++ [d.v]) IM2) (ht : Txts p2 ((txF (gs ++ [par, f])).map TX.t) TM) (htx : d.txs = txsC f.D)
 (h : Sat σ w (p2.at b :: M2 ++ (IM2 ++ (TM ++ (memFs gs ++ (own' ++ (ownC par.D ++ (txc par.D ++ (d.own ++ (txc f.D ++ L)))))))))) :
 DocC σ b L (gs ++ [⟨{ par.ob with q := q', n := par.ob.n + 1, c := c' }, own', par.D ++ [d], IM2⟩]) .none p2 w := by
 refine ⟨M2, TM, [], [], ?_, ?_, ?_, ⟨rfl, rfl⟩, ?_⟩
 ·rw [List.map_append, List.append_nil]; exact hs2
 ·have e : txF (gs ++ [⟨{ par.ob with q := q', n := par.ob.n + 1, c := c' }, own', par.D ++ [d], IM2⟩]) = txF (gs ++ [par, f]) := by
   rw [txF_append, txF_append, txF_one, txF_two, txsC_snoc, htx]
  rw [e]; exact ht
 ·intro g hg
  rcases List.mem_append.1 hg with hg | hg
  ·exact hok g (by simp [hg])
  ·obtain rfl := List.mem_singleton.1 hg
   obtain ⟨_, h2, h3⟩ := hok par (by simp)
   exact ⟨by rw [List.map_append]; exact hI2, by simp; omega, h3⟩
 ·rw [memFs_append, memFs_one, ownC_snoc, txc_snoc, htx]
  show Sat σ w (p2.at b :: M2 ++ (TM ++ (memFs gs ++ (IM2 ++ (own' ++ ((ownC par.D ++ d.own) ++ (txc par.D ++ txc f.D)))) ++ ([] ++ L))))
  exact h.re
theorem quoteBuild_ok {b : Nat} {q1 : Option Addr} {p : PS} {ob : List OB} {o : OB} {M : List Chunk} (h : Sat σ w (p.at b :: M ++ L)) (hs : Stk p (ob ++ [o]) M)
 (hR : ∀ w nb, Sat σ w (p.at b :: M ++ (qutC nb o.s o.e o.q o.n o.c :: L)) → R (.returned (.iface ty_P_Quote (.pointer (some ⟨nb, 0, none⟩)))) w) :
 callE P i_quoteBuilder_build #[.pointer q1, .iface ty_P_parseState (.pointer (some ⟨b, 0, none⟩))] R w := by
 refine g_quoteBuilder_build.sound ?_
 refine enter_meth meth_pos ?_
 refine pos_ok h hs fun w h => ⟨_, _, rfl, ?_⟩
 refine enter_meth meth_blocks ?_
 refine blocks_ok h hs fun w h => ⟨_, _, _, rfl, ?_⟩
 refine Sat.bx h fun nb w h => hR w nb ?_
 have h : Sat σ w (qutC nb o.s o.e o.q o.n o.c :: (p.at b :: M ++ L)) := h
 exact h.re
theorem itemBuild_ok {b ib lb wd : Nat} {hv : Bool} {bul num : Int} {lo : Bool} {it : Option Addr} {td : Value} {p : PS} {ob : List OB} {o : OB} {M : List Chunk} (h : Sat σ w (p.at b :: M ++ (iteC ib lb wd hv :: lisC lb bul num lo it td :: L))) (hs : Stk p (ob ++ [o]) M)
 (hR : ∀ w nb, Sat σ w (p.at b :: M ++ ((nb, cel [.int .i64 o.s, .int .i64 o.e, .slice o.q o.n o.c, .int .i64 wd] ty_Item) :: lisC lb bul num lo none td :: L)) → R (.returned (.iface ty_P_Item (.pointer (some ⟨nb, 0, none⟩)))) w) :
 callE P i_itemBuilder_build #[.pointer (some ⟨ib, 0, none⟩), .iface ty_P_parseState (.pointer (some ⟨b, 0, none⟩))] R w := by
 refine g_itemBuilder_build.sound ?_
 have h : Sat σ w (lisC lb bul num lo it td :: iteC ib lb wd hv :: (p.at b :: M ++ L)) := h.re
 refine nilP_some ⟨_, Sat.ld h (.tail _ (.head _)) (i := 0) rfl, nilP_some ?_⟩
 refine h.stA 0 fun w h => ?_
 have h : Sat σ w (lisC lb bul num lo none td :: iteC ib lb wd hv :: (p.at b :: M ++ L)) := h
 refine Sat.tk h fun w h => nilP_some ⟨_, Sat.ld h (.tail _ (.head _)) (i := 1) rfl, ?_⟩
 have h0 := h
 have h : Sat σ w (p.at b :: M ++ (lisC lb bul num lo none td :: iteC ib lb wd hv :: L)) := h.re
 have hm : iteC ib lb wd hv ∈ p.at b :: M ++ (lisC lb bul num lo none td :: iteC ib lb wd hv :: L) := by simp
 refine enter_meth meth_pos ?_
 refine pos_ok h hs fun w h => ⟨_, _, rfl, h0.same h (.tail _ (.head _)) hm 1, ?_⟩
 have h1 := h
 refine enter_meth meth_blocks ?_
 refine blocks_ok h hs fun w h => ⟨_, _, _, rfl, h1.same h hm hm 1, ?_⟩
 refine Sat.bx h fun nb w h => hR w nb ?_
 have h : Sat σ w ((nb, cel [.int .i64 o.s, .int .i64 o.e, .slice o.q o.n o.c, .int .i64 wd] ty_Item) :: (p.at b :: M ++ (lisC lb bul num lo none td :: iteC ib lb wd hv :: L))) := h
 exact h.less [iteC ib lb wd hv]
def Bk.isQuote (f : Bk) : Prop := ∃ qb, f.ob.bd = quoV qb ∧ f.own = [quoC qb]
def Bk.isItem (f : Bk) (lb wd : Nat) (hv : Bool) : Prop := ∃ ib, f.ob.bd = iteV ib ∧ f.own = [iteC ib lb wd hv]
def ItemOf (it : Option Addr) (f : Bk) (lb wd : Nat) (hv : Bool) : Prop := ∃ ib, it = some ⟨ib, 0, none⟩ ∧ f.ob.bd = iteV ib ∧ f.own = [iteC ib lb wd hv]
theorem ItemOf.item {it : Option Addr} {f : Bk} {lb wd : Nat} {hv : Bool} (h : ItemOf it f lb wd hv) : f.isItem lb wd hv := ⟨h.choose, h.choose_spec.2⟩
def Bk.isListT (f : Bk) (lb : Nat) (bul num : Int) (it : Option Addr) (td : Value) : Prop := f.ob.bd = lisV lb ∧ f.own = [lisC lb bul num false it td]
abbrev Bk.isList (f : Bk) (lb : Nat) (bul num : Int) (it : Option Addr) : Prop := f.isListT lb bul num it .nilFunc
theorem closeQuoteC {b : Nat} {gs : List Bk} {par f : Bk} {p : PS} (h : DocC σ b L (gs ++ [par, f]) .none p w) (hf : f.isQuote) (hD : par.D.length < 99999)
 (hR : ∀ w par' nb x, par'.like par → par'.D = par.D ++ [quoDB nb f.ob.s f.ob.e f.ob.q f.ob.n f.ob.c f.IM f.D] → DocC σ b L (gs ++ [par']) .none { p with stn := gs.length + 1 } w → R (.returned x) w) :
 callE P i_parseState_closeBlock #[.pointer (some ⟨b, 0, none⟩)] R w := by
 obtain ⟨M, TM, lobs, LM, hs, ht, hok, ⟨rfl, rfl⟩, h⟩ := h
 obtain ⟨qb, hbd, hown⟩ := hf
 have hs : Stk p (gs.map Bk.ob ++ [par.ob] ++ [f.ob]) M := by simpa using hs
 have hpok := (hok par (by simp)).1
 have hpn : par.ob.n = par.D.length := by have := hpok.1; simp at this; omega
 rw [memFs_append, memFs_two, hown] at h
 refine closeB_build h hs hbd fun w h => ?_
 rw [hbd]
 refine enter_meth meth_quoteBuild ?_
 refine quoteBuild_ok h hs fun w nb h => ⟨_, rfl, none, false, w, ta_list_no (by decide) w, br_false rfl ?_⟩
 have h : Sat σ w (p.at b :: M ++ (par.IM ++ (TM ++ (memFs gs ++ (par.own ++ (ownC par.D ++ (txc par.D ++ ((qutC nb f.ob.s f.ob.e f.ob.q f.ob.n f.ob.c :: (f.IM ++ ownC f.D)) ++ (txc f.D ++ (quoC qb :: L)))))))))) := h.re
 refine closeB_k3 h hs hpok (by omega) fun w p2 M2 IM2 q' c' hp2 hs2 hI2 h => ?_
 have e : p2 = { p with stn := gs.length + 1 } := by rw [hp2, List.length_map]
 rw [e] at hs2 h
 refine hR w ⟨{ par.ob with q := q', n := par.ob.n + 1, c := c' }, par.own, par.D ++ [quoDB nb f.ob.s f.ob.e f.ob.q f.ob.n f.ob.c f.IM f.D], IM2⟩ nb _ ⟨rfl, rfl, rfl, rfl⟩ rfl (DocC.closed (par := par) (f := f) (d := quoDB nb f.ob.s f.ob.e f.ob.q f.ob.n f.ob.c f.IM f.D) hok hD hs2 hI2 (ht.of rfl rfl rfl) rfl ?_)
 exact h.less [quoC qb] (by intro _; simp only [quoDB, List.append_eq, cnt_append, cnt_cons, cnt_nil] <;> omega)
theorem closeItemC {b lb wd : Nat} {hv : Bool} {bul num : Int} {it : Option Addr} {td : Value} {gs : List Bk} {par f : Bk} {p : PS} (h : DocC σ b L (gs ++ [par, f]) .none p w) (hf : f.isItem lb wd hv) (hp : par.isListT lb bul num it td) (hD : par.D.length < 99999)
 (hR : ∀ w par' nb x, par'.isListT lb bul num none td → par'.ob.s = par.ob.s → par'.ob.e = par.ob.e → par'.D = par.D ++ [(IT.mk nb f.ob.s f.ob.e f.ob.q f.ob.n f.ob.c wd f.IM f.D).db] → (IT.mk nb f.ob.s f.ob.e f.ob.q f.ob.n f.ob.c wd f.IM f.D).ok → DocC σ b L (gs ++ [par']) .none { p with stn := gs.length + 1 } w → R (.returned x) w) :
 callE P i_parseState_closeBlock #[.pointer (some ⟨b, 0, none⟩)] R w := by
 obtain ⟨M, TM, lobs, LM, hs, ht, hok, ⟨rfl, rfl⟩, h⟩ := h
 obtain ⟨ib, hbd, hown⟩ := hf
 obtain ⟨pbd, pown⟩ := hp
 have hs : Stk p (gs.map Bk.ob ++ [par.ob] ++ [f.ob]) M := by simpa using hs
 have hpok := (hok par (by simp)).1
 obtain ⟨hfo1, hfo2, hfo3⟩ := hok f (by simp)
 have hpn : par.ob.n = par.D.length := by have := hpok.1; simp at this; omega
 rw [memFs_append, memFs_two, hown, pown] at h
 refine closeB_build h hs hbd fun w h => ?_
 rw [hbd]
 have h : Sat σ w (p.at b :: M ++ (iteC ib lb wd hv :: lisC lb bul num false it td :: (par.IM ++ (TM ++ (memFs gs ++ (ownC par.D ++ (txc par.D ++ (f.IM ++ (ownC f.D ++ (txc f.D ++ L)))))))))) := h.re
 refine enter_meth meth_itemBuild ?_
 refine itemBuild_ok h hs fun w nb h => ⟨_, rfl, none, false, w, ta_list_no (by decide) w, br_false rfl ?_⟩
 have h : Sat σ w (p.at b :: M ++ (par.IM ++ (TM ++ (memFs gs ++ ([lisC lb bul num false none td] ++ (ownC par.D ++ (txc par.D ++ (((IT.mk nb f.ob.s f.ob.e f.ob.q f.ob.n f.ob.c wd f.IM f.D).chunk :: (f.IM ++ ownC f.D)) ++ (txc f.D ++ L))))))))) := by
  have h : Sat σ w (p.at b :: M ++ ((IT.mk nb f.ob.s f.ob.e f.ob.q f.ob.n f.ob.c wd f.IM f.D).chunk :: lisC lb bul num false none td :: (par.IM ++ (TM ++ (memFs gs ++ (ownC par.D ++ (txc par.D ++ (f.IM ++ (ownC f.D ++ (txc f.D ++ L)))))))))) := h
  exact h.re
 refine closeB_k3 h hs hpok (by omega) fun w p2 M2 IM2 q' c' hp2 hs2 hI2 h => ?_
 have e : p2 = { p with stn := gs.length + 1 } := by rw [hp2, List.length_map]
 rw [e] at hs2 h
 refine hR w ⟨{ par.ob with q := q', n := par.ob.n + 1, c := c' }, [lisC lb bul num false none td], par.D ++ [(IT.mk nb f.ob.s f.ob.e f.ob.q f.ob.n f.ob.c wd f.IM f.D).db], IM2⟩ nb _ ⟨pbd, rfl⟩ rfl rfl rfl ⟨hfo1, by show f.D.length < 1000000; omega, hfo3⟩ (DocC.closed (par := par) (f := f) (d := (IT.mk nb f.ob.s f.ob.e f.ob.q f.ob.n f.ob.c wd f.IM f.D).db) hok hD hs2 hI2 (ht.of rfl rfl rfl) rfl ?_)
 exact h
theorem closeParaC {b : Nat} {gs : List Bk} {par : Bk} {p : PS} {ls : List (List UInt8)} (h : DocC σ b L (gs ++ [par]) (.para ls) p w) (hf : Leaf.finN (.para ls)) (hD : par.D.length < 99999) (hX : (txF (gs ++ [par])).length < 100000)
 (hR : ∀ w p' par' nb t s e x, p'.base = p.base → p'.depth = p.depth → p'.lineno = p.lineno → p'.stn = gs.length + 1 → par'.like par → par'.D = par.D ++ [paraDB nb t s e (joinL [10] ls)] → e = s + ls.length - 1 → s < 1000000000 → DocC σ b L (gs ++ [par']) .none p' w → R (.returned x) w) :
 callE P i_parseState_closeBlock #[.pointer (some ⟨b, 0, none⟩)] R w := by
 obtain ⟨M, TM, lobs, LM, hs, ht, hok, ⟨qb, s, e, rfl, hp, hs1, hne, hln⟩, h⟩ := h
 obtain ⟨hf1, hf2, hf3⟩ := hf
 have hs : Stk p (gs.map Bk.ob ++ [par.ob] ++ [paraOB qb s e]) M := by simpa using hs
 obtain ⟨hpok, hpok2⟩ := hok par (by simp)
 have hpn : par.ob.n = par.D.length := by have := hpok.1; simp at this; omega
 rw [memFs_append, memFs_one] at h
 have h : Sat σ w (p.at b :: M ++ (par.IM ++ (TM ++ (LM ++ (memFs gs ++ (par.own ++ (ownC par.D ++ (txc par.D ++ L)))))))) := h.re
 refine closePara_ok (ob := gs.map Bk.ob) (par := par.ob) (o := paraOB qb s e) h hs rfl hpok (by omega) ht (by simp; omega) hp hne (by omega) rfl hf1 hf2 hf3 (by exact hs1) fun w p' M' IM' TM' t nb q' c' x hp' hs' ht' hI' h => ?_
 refine hR w p' ⟨{ par.ob with q := q', n := par.ob.n + 1, c := c' }, par.own, par.D ++ [paraDB nb t s (s + ls.length - 1) (joinL [10] ls)], IM'⟩ nb t s (s + ls.length - 1) x (by rw [hp']; rfl) (by rw [hp']) (by rw [hp']) (by rw [hp']; simp) ⟨rfl, rfl, rfl, rfl⟩ rfl rfl hs1 ?_
 refine ⟨M', TM', [], [], ?_, ?_, ?_, ⟨rfl, rfl⟩, ?_⟩
 ·rw [List.map_append, List.append_nil]; exact hs'
 ·have e : txF (gs ++ [⟨{ par.ob with q := q', n := par.ob.n + 1, c := c' }, par.own, par.D ++ [paraDB nb t s (s + ls.length - 1) (joinL [10] ls)], IM'⟩]) = txF (gs ++ [par]) ++ [⟨t, s, s + ls.length - 1, joinL [10] ls⟩] := by
   rw [txF_append, txF_append, txF_one, txF_one, txsC_snoc, List.append_assoc]; rfl
  rw [e, List.map_append]; exact ht'
 ·intro g hg
  rcases List.mem_append.1 hg with hg | hg
  ·exact hok g (by simp [hg])
  ·obtain rfl := List.mem_singleton.1 hg
   exact ⟨by rw [List.map_append]; exact hI', by simp; omega, hpok2.2⟩
 ·rw [memFs_append, memFs_one, ownC_snoc, txc_snoc]
  have h : Sat σ w (p'.at b :: M' ++ (IM' ++ (TM' ++ (paraC nb s (s + ls.length - 1) t :: textC t s (s + ls.length - 1) none 0 0 (joinL [10] ls) :: (memFs gs ++ (par.own ++ (ownC par.D ++ (txc par.D ++ L)))))))) := h
  show Sat σ w (p'.at b :: M' ++ (TM' ++ (memFs gs ++ (IM' ++ (par.own ++ ((ownC par.D ++ [paraC nb s (s + ls.length - 1) t]) ++ (txc par.D ++ [textC t s (s + ls.length - 1) none 0 0 (joinL [10] ls)])))) ++ ([] ++ L))))
  exact h.re
end Go.Proofs.YtgbgadkldalkbaaGreatDoor


set_option linter.unusedVariables false
namespace Go.Proofs.YtgbgadkldalkbaaGreatDoor
open Go.Proofs Go.IntWalk Go.RowKit
variable {σ : Out} {w : World} {L L' : List Chunk} {R : Ending → World → Prop}
theorem DB.kindOK.ifc {d : DB} (h : d.kindOK) : d.ifc ∧ (tightDB d).ifc := by
 rcases h with ⟨nb, t, s, e, raw, rfl⟩ | ⟨ty, q, h, ht⟩
 ·rw [tightDB_para]
  exact ⟨⟨_, _, rfl⟩, ⟨_, _, rfl⟩⟩
 ·rw [tightDB_other h ht]
  exact ⟨⟨_, _, h⟩, ⟨_, _, h⟩⟩
theorem Ret.facts {is is' : List IT} (h : Ret is is') (hk : ∀ i ∈ is, ∀ d ∈ i.D, d.kindOK) : txsC (is'.map IT.db) = txsC (is.map IT.db) ∧ ∀ i ∈ is', i.ok ∧ ∀ d ∈ i.D, d.ifc := by
 induction h with
 | nil => exact ⟨rfl, by simp⟩
 | @cons i i' is is' h1 h2 _ ih =>
  obtain ⟨e1, e2⟩ := ih fun j hj => hk j (List.mem_cons_of_mem _ hj)
  have hki := hk i (by simp)
  have ed : i'.D = i.D.map tightDB := by rw [h1]
  refine ⟨?_, fun j hj => ?_⟩
  ·show txsC i'.D ++ txsC (is'.map IT.db) = txsC i.D ++ txsC (is.map IT.db)
   rw [e1, ed, (ownC_tight hki).2]
  ·rcases List.mem_cons.1 hj with rfl | hj
   ·refine ⟨h2, fun d hd => ?_⟩
    rw [ed] at hd
    obtain ⟨d0, hd0, rfl⟩ := List.mem_map.1 hd
    exact (hki d0 hd0).ifc.2
   ·exact e2 j hj
def Tgh (lo : Bool) (items items' : List IT) : Prop := lo = true ∧ items' = items ∨ lo = false ∧ Ret items items'
theorem closeListC {b lb pb : Nat} {op : Opt} {bul num : Int} {it : Option Addr} {gs : List Bk} {par f : Bk} {p : PS} {items : List IT} {pos : DB → Nat × Nat} (h : DocC σ b L (gs ++ [par, f]) .none p w) (hf : f.isList lb bul num it) (hfD : f.D = items.map IT.db) (hne : items ≠ [])
 (hio : ∀ i ∈ items, i.ok ∧ ∀ d ∈ i.D, d.kindOK ∧ d.posIs (pos d).1 (pos d).2 ∧ (pos d).1 < 1000000000 ∧ (pos d).2 < 2000000000) (hpz : p.pz = some ⟨pb, 0, none⟩) (hop : op.at pb ∈ L) (htask : op.task = false) (hD : par.D.length < 99999)
 (hR : ∀ w (p' : PS) par' nb e items' x, p'.base = p.base → p'.depth = p.depth → p'.lineno = p.lineno → p'.stn = gs.length + 1 → par'.like par → Tgh (gapI pos items) items items' → (∃ i ∈ items, e = i.e) → par'.D = par.D ++ [lisDB nb f.ob.s e bul num (gapI pos items) f.ob.q f.ob.n f.ob.c f.IM items'] →
  DocC σ b L (gs ++ [par']) .none p' w → R (.returned x) w) :
 callE P i_parseState_closeBlock #[.pointer (some ⟨b, 0, none⟩)] R w := by
 obtain ⟨M, TM, lobs, LM, hs, ht, hok, ⟨rfl, rfl⟩, h⟩ := h
 obtain ⟨hbd, hown⟩ := hf
 have hs : Stk p (gs.map Bk.ob ++ [par.ob] ++ [f.ob]) M := by simpa using hs
 have hpok := (hok par (by simp)).1
 obtain ⟨hfo1, hfo2, hfo3⟩ := hok f (by simp)
 have hpn : par.ob.n = par.D.length := by have := hpok.1; simp at this; omega
 have hdv : f.D.map DB.v = items.map IT.v := by rw [hfD]; simp [Function.comp_def, IT.db]
 rw [hdv] at hfo1
 have hil : items.length < 100000 := by rw [hfD] at hfo2; simpa using hfo2
 have htxf : txc f.D = (txsC (items.map IT.db)).map TX.chunk := by rw [hfD]; rfl
 rw [memFs_append, memFs_two, hown, hfD] at h
 refine closeB_build h hs hbd fun w h => ?_
 rw [hbd]
 have h : Sat σ w (p.at b :: M ++ (lisC lb bul num false it .nilFunc :: (f.IM ++ (ownC (items.map IT.db) ++ (par.IM ++ (TM ++ (memFs gs ++ (par.own ++ (ownC par.D ++ (txc par.D ++ (txc (items.map IT.db) ++ L))))))))))) := h.re
 refine enter_meth meth_listBuild ?_
 refine listBuild_ok (pos := pos) h hs hfo1 hne (by omega) hfo3.1 hio fun w nb e items' htg he h => ⟨_, rfl, some ⟨nb, 0, none⟩, true, w, ta_yes (by rw [und_PList]; intro ms h; cases h) und_PList w, br_true rfl (nilP_some ?_)⟩
 have hvs : items'.map IT.v = items.map IT.v := by
  rcases htg with ⟨_, rfl⟩ | ⟨_, hr⟩
  ·rfl
  ·exact hr.vs
 have hfacts : txsC (items'.map IT.db) = txsC (items.map IT.db) ∧ ∀ i ∈ items', i.ok ∧ ∀ d ∈ i.D, d.ifc := by
  rcases htg with ⟨_, rfl⟩ | ⟨_, hr⟩
  ·exact ⟨rfl, fun i hi => ⟨(hio i hi).1, fun d hd => ((hio i hi).2 d hd).1.ifc.1⟩⟩
  ·exact hr.facts fun i hi d hd => ((hio i hi).2 d hd).1
 have hlen' : items'.length < 1000000 := by have := congrArg List.length hvs; simp at this; omega
 have k2 : ∀ (kk : Bool) w, Sat σ w (({ p with corner := kk } : PS).at b :: M ++ (lstC nb f.ob.s e bul num (gapI pos items) f.ob.q f.ob.n f.ob.c :: (f.IM ++ (ownC (items'.map IT.db) ++ (par.IM ++ (TM ++ (memFs gs ++ (par.own ++ (ownC par.D ++ (txc par.D ++ (txc (items.map IT.db) ++ L))))))))))) →
  g_parseState_closeBlock.k2 R (some ⟨b, 0, none⟩) (.iface ty_P_List (.pointer (some ⟨nb, 0, none⟩))) (some ⟨nb, 0, none⟩) w := by
  intro kk w h
  refine nilP_some ⟨_, Sat.ld h (.head _) (i := 0) rfl, ?_⟩
  rw [hpz]
  refine nilP_some ⟨_, Sat.ld h (by simp [hop] : op.at pb ∈ _) rfl, br_false htask ?_⟩
  have h : Sat σ w (({ p with corner := kk } : PS).at b :: M ++ (par.IM ++ (TM ++ (memFs gs ++ (par.own ++ (ownC par.D ++ (txc par.D ++ ((lstC nb f.ob.s e bul num (gapI pos items) f.ob.q f.ob.n f.ob.c :: (f.IM ++ ownC (items'.map IT.db))) ++ (txc f.D ++ L))))))))) := by
   rw [hfD]
   exact h.re
  refine closeB_k3 h (hs.of rfl rfl rfl) hpok (by omega) fun w p2 M2 IM2 q' c' hp2 hs2 hI2 h => ?_
  have e2 : p2 = { p with corner := kk, stn := gs.length + 1 } := by rw [hp2, List.length_map]
  rw [e2] at hs2 h
  refine hR w { p with corner := kk, stn := gs.length + 1 } ⟨{ par.ob with q := q', n := par.ob.n + 1, c := c' }, par.own, par.D ++ [lisDB nb f.ob.s e bul num (gapI pos items) f.ob.q f.ob.n f.ob.c f.IM items'], IM2⟩ nb e items' _ rfl rfl rfl rfl ⟨rfl, rfl, rfl, rfl⟩ htg he rfl
   (DocC.closed (par := par) (f := f) (d := lisDB nb f.ob.s e bul num (gapI pos items) f.ob.q f.ob.n f.ob.c f.IM items') hok hD hs2 hI2 (ht.of rfl rfl rfl) ?_ ?_)
  ·rw [hfD]; exact hfacts.1
  ·exact h
 refine ⟨_, Sat.ld h (.head _) (i := 6) rfl, br_split (fun _ => nilP_some ?_) fun _ => ?_⟩
 ·refine Sat.st h (k := 0) rfl (by simp [PS.cells]) trivial rfl fun w h => ?_
  exact k2 true w h
 ·refine listCorner_ok (nb := nb) (s := f.ob.s) (e := e) (bul := bul) (num := num) (loose := gapI pos items) (items := items') (hvs ▸ hfo1) hfacts.2 hlen' h (fun x hx => ?_) fun kk => ⟨_, rfl, nilP_some ?_⟩
  ·rcases List.mem_cons.1 hx with rfl | hx
   ·simp
   ·rcases List.mem_append.1 hx with hx | hx <;> simp [hx]
  ·refine Sat.st h (k := 0) rfl (by simp [PS.cells]) trivial rfl fun w h => ?_
   exact k2 kk w h
end Go.Proofs.YtgbgadkldalkbaaGreatDoor


set_option linter.unusedVariables false
namespace Go.Proofs.YtgbgadkldalkbaaGreatDoor
open Go.Proofs Go.IntWalk Go.RowKit
variable {σ : Out} {w : World} {L L' : List Chunk} {R : Ending → World → Prop}
structure Ln.has (l : Ln) (c : UInt8) (rest : List UInt8) : Prop where
 ok : l.ok
 sp : l.sp = 0
 tx : l.text.drop l.i = c :: rest
theorem Ln.has.get {l : Ln} {c : UInt8} {r : List UInt8} (h : l.has c r) : l.text[l.i]? = some c := by
 have := congrArg (fun x : List UInt8 => x[0]?) h.tx
 simpa using this
theorem Ln.has.lt {l : Ln} {c : UInt8} {r : List UInt8} (h : l.has c r) : l.i < l.text.length := by
 have := congrArg List.length h.tx
 simp at this; omega
theorem Ln.has.next {l : Ln} {c d : UInt8} {r : List UInt8} (h : l.has c (d :: r)) : ({ l with i := l.i + 1 } : Ln).has d r := by
 have hlt := congrArg List.length h.tx
 simp at hlt
 refine ⟨⟨by show l.i + 1 ≤ l.text.length; omega, by show l.tab ≤ l.i + 1; have := h.ok.tab; omega, h.ok.len, h.ok.sp⟩, h.sp, ?_⟩
 show l.text.drop (l.i + 1) = d :: r
 have := congrArg (List.drop 1) h.tx
 rw [List.drop_drop] at this
 simpa [Nat.add_comm] using this
theorem Ln.has.tsGo {l : Ln} {c : UInt8} {r : List UInt8} (h : l.has c r) (hc : isST c = false) (mn k n : Nat) (e : Bool) : l.tsGo mn e (k + 1) n = if mn ≤ n then some l else none := by
 simp only [isST, Bool.or_eq_false_iff, beq_eq_false_iff_ne, ne_eq] at hc
 have hlt := h.lt
 simp [Ln.tsGo, h.sp, h.get, hc.1, hc.2, Nat.not_le.2 hlt]
theorem Ln.has.sp1 {l : Ln} {r : List UInt8} {mn : Nat} {e : Bool} (h : l.has 32 r) : l.trimSp mn 1 e = some { l with i := l.i + 1 } := by
 have hlt := h.lt
 simp [Ln.trimSp, Ln.tsGo, h.sp, h.get, Nat.not_le.2 hlt]
theorem Ln.has.lead {l : Ln} {c : UInt8} {r : List UInt8} (h : l.has c r) (hc : isST c = false) (k : Nat) (e : Bool) : l.lead (k + 1) e = l := by
 unfold Ln.lead Ln.trimSp; rw [h.tsGo hc]; rfl
theorem Ln.has.strip {l : Ln} {c : UInt8} {r : List UInt8} (h : l.has c r) (hc : isST c = false) : l.strip 3 0 = (0, l) := by
 simp only [Ln.strip, Ln.trimSp]; rw [h.tsGo hc]; rfl
theorem Ln.has.peek {l : Ln} {c : UInt8} {r : List UInt8} (h : l.has c r) : l.peek = c := by
 unfold Ln.peek
 rw [h.sp, if_neg (by decide), List.getD_eq_getElem?_getD, h.get]; rfl
theorem Ln.has.trimC {l : Ln} {c : UInt8} {r : List UInt8} (h : l.has c r) (d : UInt8) : l.trimC d = if c = d then some { l with i := l.i + 1 } else none := by
 unfold Ln.trimC
 rw [h.sp, if_neg (by decide), h.get]
 simp
theorem Ln.has.blank {l : Ln} {c : UInt8} {r : List UInt8} (h : l.has c r) (hc : isST c = false) : l.blank = false := by
 unfold Ln.blank
 rw [h.tx, List.all_cons, hc]; rfl
theorem Ln.has.plain {l : Ln} {c : UInt8} {r : List UInt8} (h : l.has c r) (hc : plainStart c = true) : l.plain := by
 simp only [plainStart, Bool.and_eq_true, Bool.not_eq_true', bne_iff_ne, ne_eq] at hc
 obtain ⟨⟨h0, h60⟩, hbu⟩ := hc
 have hst := plainStart0_st h0
 simp only [plainStart0, Bool.not_eq_true', Bool.or_eq_false_iff, beq_eq_false_iff_ne, ne_eq] at h0
 obtain ⟨⟨⟨⟨⟨⟨⟨⟨_, h62⟩, h35⟩, h95⟩, h96⟩, h126⟩, h61⟩, h45⟩, h42⟩ := h0
 have hlead : ∀ e, l.lead 3 e = l := h.lead hst 2
 have hpk : (l.lead 3 false).peek = c := by rw [hlead]; exact h.peek
 refine ⟨h.ok, h.blank hst, ?_, ?_, ?_, LDecl.of_peek h.ok (by rw [h.strip hst, h.peek]; exact hbu), HDecl.of_peek h.ok (by rw [hpk]; exact h60), ?_, ?_⟩
 ·unfold Ln.quote; rw [hlead, h.trimC, if_neg h62]; rfl
 ·unfold Ln.heading; rw [hlead, h.trimC, if_neg h35]
 ·unfold Ln.isHR
  simp only [hlead, h.peek]
  rw [if_neg]
  rintro (hh | hh | hh)
  ·exact h45 hh
  ·exact h95 hh
  ·exact h42 hh
 ·rw [h.strip hst, h.peek]; exact ⟨h96, h126⟩
 ·unfold Ln.trimSp; rw [h.tsGo hst]; rfl
theorem Ln.has.quote {l : Ln} {d : UInt8} {r : List UInt8} (h : l.has 62 (32 :: d :: r)) : l.quote = some { l with i := l.i + 2 } := by
 unfold Ln.quote
 rw [h.lead (by decide) 2, h.trimC, if_pos rfl]
 show some (Ln.lead 1 true _) = _
 unfold Ln.lead
 rw [h.next.sp1]
 rfl
theorem Ln.has.bullet {l : Ln} {c d : UInt8} {r : List UInt8} (h : l.has c (32 :: d :: r)) (hc : c = 45 ∨ c = 42 ∨ c = 43) (hd : isST d = false) : l.bullet = some (c, 2, { l with i := l.i + 2 }) := by
 have hst : isST c = false := by rcases hc with rfl | rfl | rfl <;> decide
 have h2 := h.next.next
 unfold Ln.bullet
 rw [h.strip hst]
 simp only [h.peek]
 rw [if_pos hc, h.trimC, if_pos rfl]
 show (match (Ln.trimSp 1 1 true _) with | none => none | some t2 => _) = _
 rw [h.next.sp1]
 simp only
 rw [h2.strip hd]
 simp only
 have : Ln.trimSp 1 1 true ({ l with i := l.i + 1 + 1 } : Ln) = none := by
  unfold Ln.trimSp; rw [h2.tsGo hd]; rfl
 rw [this]
theorem drop_suffix {u s : List UInt8} (h : u <:+ s) : s.drop (s.length - u.length) = u := by
 obtain ⟨a, rfl⟩ := h
 rw [List.length_append, Nat.add_sub_cancel, List.drop_left]
theorem decl_bullet {b : Nat} {p : PS} {M : List Chunk} {l : Ln} {c : UInt8} {r : List UInt8} (hS : Decl b p M l i_newSetextHeading) (h : l.has c r) (hc : MarkC c) (hHR : l.isHR = false) : ∀ j (hj : j < newsF.length), j < 4 → Decl b p M l newsF[j] := by
 obtain ⟨hst, h62, h35⟩ := hc
 intro j hj h4
 match j, h4 with
 | 0, _ => exact fun σ w L R hS hR => newQuote_no (x := .nilIface) hS h.ok (by unfold Ln.quote; rw [h.lead hst 2, h.trimC, if_neg h62]; rfl) hR
 | 1, _ => exact fun σ w L R hS hR => newATX_no hS h.ok (by unfold Ln.heading; rw [h.lead hst 2, h.trimC, if_neg h35]) hR
 | 2, _ => exact hS
 | 3, _ => exact fun σ w L R hS hR => newHR_no hS h.ok hHR hR
end Go.Proofs.YtgbgadkldalkbaaGreatDoor


set_option linter.unusedVariables false
namespace Go.Proofs.YtgbgadkldalkbaaGreatDoor
open Go.Proofs Go.IntWalk Go.RowKit
variable {σ : Out} {w : World} {L L' : List Chunk} {R : Ending → World → Prop}
def Runs (R : Ending → World → Prop) (Xb : OA → Nat → WP) (b b1 : Nat) : Prop :=
 ∀ w, (∀ X : OA → Nat → WP, (∀ x0 x3 w, g_parseState_addLine.bl102 R X x0 x3 w → X x0 x3 w) → g_parseState_addLine.bl102 R X (some ⟨b, 0, none⟩) b1 w) → Xb (some ⟨b, 0, none⟩) b1 w
theorem Runs.top (b b1 : Nat) : Runs R (g_parseState_addLine.l102 R) b b1 := fun w H X hX => hX _ _ _ (H X hX)
theorem Runs.of {X : OA → Nat → WP} (hX : ∀ x0 x3 w, g_parseState_addLine.bl102 R X x0 x3 w → X x0 x3 w) (b b1 : Nat) : Runs R X b b1 := fun w H => hX _ _ _ (H X hX)
theorem pushQuoteC {Xb : OA → Nat → WP} {b b1 : Nat} {gs : List Bk} {top : Bk} {p : PS} {l l2 : Ln} {r : List UInt8} {d : UInt8} (h : DocC σ b (l.at b1 :: L) (gs ++ [top]) .none p w) (hd : p.depth = gs.length) (hgl : gs.length < 100000) (hl : l.ok) (hq : l.quote = some l2) (hl2 : l2.has d r) (hst : isST d = false) (hno : p.lineno < 1000000000)
 (hX : ∀ w (p' : PS) f, p'.base = p.base → p'.lineno = p.lineno → p'.depth = p.depth + 1 → f.isQuote → f.D = [] → DocC σ b (l2.at b1 :: L) (gs ++ [top] ++ [f]) .none p' w → Xb (some ⟨b, 0, none⟩) b1 w) : g_parseState_addLine.bl102 R Xb (some ⟨b, 0, none⟩) b1 w := by
 obtain ⟨M, TM, lobs, LM, hs, ht, hok, ⟨rfl, rfl⟩, h⟩ := h
 have hs : Stk p ((gs ++ [top]).map Bk.ob) M := by simpa using hs
 have h : Sat σ w (p.at b :: M ++ (l.at b1 :: (TM ++ (memFs (gs ++ [top]) ++ L)))) := h.re
 refine bl102_pass 0 (by decide) h (fun j _ hj => absurd hj (by omega)) hl2.ok (hl2.blank hst) fun w nb e R' h hk => ?_
 show callE P i_newQuote _ R' w
 refine newQuote_yes h hs (by rw [hd]; simp) (by simp; omega) hl hq fun w p' M' qb hp' hs' h => ?_
 have hd' : p'.depth = gs.length := by rw [hp']; exact hd
 have h : Sat σ w (l.at b1 :: p'.at b :: (M' ++ (quoC qb :: ((nb, cel newsC e) :: (TM ++ (memFs (gs ++ [top]) ++ L)))))) := h.re
 refine hk w _ p' (by omega) h fun w h => ?_
 refine hX w { p' with depth := p'.depth + 1 } ⟨⟨quoV qb, none, 0, 0, p.lineno, p.lineno⟩, [quoC qb], [], []⟩ (by rw [hp']; rfl) (by rw [hp']) (by rw [hp']) ⟨qb, rfl, rfl⟩ rfl ?_
 refine ⟨M', TM, [], [], ?_, ?_, ?_, ⟨rfl, rfl⟩, ?_⟩
 ·rw [List.map_append, List.append_nil]; exact hs'.of rfl rfl rfl
 ·rw [txF_append, txF_one]
  show Txts _ ((txF (gs ++ [top]) ++ []).map TX.t) TM
  rw [List.append_nil]
  exact ht.of (by rw [hp']) (by rw [hp']) (by rw [hp'])
 ·intro g hg
  rcases List.mem_append.1 hg with hg | hg
  ·exact hok g hg
  ·obtain rfl := List.mem_singleton.1 hg
   exact ⟨Sl.nil 1 ty_Block, by simp, hno, hno⟩
 ·rw [memFs_append (gs ++ [top]), memFs_one]
  show Sat σ w (_ :: M' ++ (TM ++ (memFs (gs ++ [top]) ++ ([] ++ ([quoC qb] ++ ([] ++ []))) ++ ([] ++ (l2.at b1 :: L)))))
  exact h.less [(nb, cel newsC e)]
theorem pushListC {Xb : OA → Nat → WP} {b b1 : Nat} {gs : List Bk} {top : Bk} {p : PS} {l l2 : Ln} {r r2 : List UInt8} {x c d : UInt8} {num n : Nat} {ty : TypeId} {v : Value} (hXb : Runs R Xb b b1) (h : DocC σ b (l.at b1 :: L) (gs ++ [top]) .none p w) (hd : p.depth = gs.length) (hgl : gs.length < 100000)
 (hbd : top.ob.bd = .iface ty v) (h1 : ty ≠ ty_P_paraBuilder) (h2 : ty ≠ ty_P_listBuilder) (hl : l.has x r) (hc : MarkC x) (hHR : l.isHR = false) (hbul : Marks l c num n l2) (hl2 : l2.has d r2) (hst : isST d = false) (hno : p.lineno < 1000000000)
 (hX : ∀ (X : OA → Nat → WP), (∀ x0 x3 w, g_parseState_addLine.bl102 R X x0 x3 w → X x0 x3 w) → ∀ w (p' : PS) f g lb it, p'.base = p.base → p'.lineno = p.lineno → p'.depth = p.depth + 2 → f.isList lb c.toNat (num : Nat) it → f.D = [] → ItemOf it g lb n true → g.D = [] → f.ob.s = p.lineno → g.ob.s = p.lineno → g.ob.e = p.lineno → DocC σ b (l2.at b1 :: L) (gs ++ [top] ++ [f, g]) .none p' w → X (some ⟨b, 0, none⟩) b1 w) :
 g_parseState_addLine.bl102 R Xb (some ⟨b, 0, none⟩) b1 w := by
 obtain ⟨M, TM, lobs, LM, hs, ht, hok, ⟨rfl, rfl⟩, h⟩ := h
 have hs : Stk p (gs.map Bk.ob ++ [top.ob]) M := by simpa using hs
 have hcst : isST x = false := hc.1
 have hb2 := hl2.blank hst
 have h : Sat σ w (p.at b :: M ++ (l.at b1 :: (TM ++ (memFs (gs ++ [top]) ++ L)))) := h.re
 refine bl102_pass (l2 := l) 4 (by decide) h (decl_bullet (fun σ w L R hS hR => newSetext_no hS hs (by rw [hd]) (by simp) hbd h1 hl.ok hR) hl hc hHR) hl.ok (hl.blank hcst) fun w nb e R' h hk => ?_
 show callE P i_newListItem _ R' w
 refine newList_first h hs (by rw [hd]; simp) (by simp; omega) hbd h1 h2 hl.ok hbul fun w p' M' lb x2 x5 x15 x18 ib hp' hs' h => ?_
 have hd' : p'.depth = gs.length := by rw [hp']; exact hd
 rw [hb2, show (!false) = true from rfl] at h
 have h : Sat σ w (l.at b1 :: p'.at b :: (M' ++ (lisC lb c.toNat (num : Nat) false none (cloV x2 x18 x15 x5) :: (x2, cel [.pointer (some ⟨b, 0, none⟩)] ty_P_parseState) :: l2.at x5 :: lptC x15 lb :: iptC x18 ib :: iteC ib lb n true :: ((nb, cel newsC e) :: (TM ++ (memFs (gs ++ [top]) ++ L)))))) := h.re
 refine hk w _ p' (by omega) h fun w h => ?_
 refine hXb w fun X hX' => ?_
 let p3 : PS := { p' with depth := p'.depth + 1 }
 have hs3 : Stk p3 (gs.map Bk.ob ++ [top.ob] ++ [⟨lisV lb, none, 0, 0, p.lineno, p.lineno⟩]) M' := hs'.of rfl rfl rfl
 have hd3 : p3.depth = (gs.map Bk.ob ++ [top.ob]).length := by show p'.depth + 1 = _; rw [hd']; simp
 have h : Sat σ w (l.at b1 :: p3.at b :: (M' ++ (lisC lb c.toNat (num : Nat) false none (cloV x2 x18 x15 x5) :: (x2, cel [.pointer (some ⟨b, 0, none⟩)] ty_P_parseState) :: l2.at x5 :: lptC x15 lb :: iptC x18 ib :: iteC ib lb n true :: ((nb, cel newsC e) :: (TM ++ (memFs (gs ++ [top]) ++ L)))))) := h
 have h : Sat σ w (p3.at b :: M' ++ (l.at b1 :: (lisC lb c.toNat (num : Nat) false none (cloV x2 x18 x15 x5) :: (x2, cel [.pointer (some ⟨b, 0, none⟩)] ty_P_parseState) :: l2.at x5 :: lptC x15 lb :: iptC x18 ib :: iteC ib lb n true :: ((nb, cel newsC e) :: (TM ++ (memFs (gs ++ [top]) ++ L)))))) := h.re
 refine bl102_pass (l2 := l2) 4 (by decide) h (decl_bullet (fun σ w L R hS hR => newSetext_no hS hs3 hd3 rfl rfl (by decide) hl.ok hR) hl hc hHR) hl2.ok hb2 fun w nb2 e2 R2 h hk2 => ?_
 show callE P i_newListItem _ R2 w
 have h : Sat σ w (p3.at b :: M' ++ (lisC lb c.toNat (num : Nat) false none (cloV x2 x18 x15 x5) :: (x2, cel [.pointer (some ⟨b, 0, none⟩)] ty_P_parseState) :: l2.at x5 :: lptC x15 lb :: iptC x18 ib :: iteC ib lb n true :: (l.at b1 :: (nb2, cel newsC e2) :: (nb, cel newsC e) :: (TM ++ (memFs (gs ++ [top]) ++ L))))) := h.re
 refine newList_todo (l := l) h hs3 hd3 (by simp; omega) rfl fun w p4 M4 hp4 hs4 h => ?_
 have hd4 : p4.depth = gs.length + 1 := by rw [hp4]; show p'.depth + 1 = _; rw [hd']
 have hl4 : p4.lineno = p.lineno := by rw [hp4]; show p'.lineno = _; rw [hp']
 have h : Sat σ w (l.at b1 :: p4.at b :: (M4 ++ (lisC lb c.toNat (num : Nat) false (some ⟨ib, 0, none⟩) .nilFunc :: iteC ib lb n true :: ((nb2, cel newsC e2) :: (nb, cel newsC e) :: (TM ++ (memFs (gs ++ [top]) ++ L)))))) := h.re
 refine hk2 w _ p4 (by omega) h fun w h => ?_
 have hln3 : p3.lineno = p.lineno := by show p'.lineno = _; rw [hp']
 rw [hln3] at hs4
 refine hX X hX' w { p4 with depth := p4.depth + 1 } ⟨⟨lisV lb, none, 0, 0, p.lineno, p.lineno⟩, [lisC lb c.toNat (num : Nat) false (some ⟨ib, 0, none⟩) .nilFunc], [], []⟩ ⟨⟨iteV ib, none, 0, 0, p.lineno, p.lineno⟩, [iteC ib lb n true], [], []⟩ lb (some ⟨ib, 0, none⟩)
  (by rw [hp4]; show p'.base = _; rw [hp']; rfl) hl4 (by show p4.depth + 1 = _; rw [hd4, hd]; omega) ⟨rfl, rfl⟩ rfl ⟨ib, rfl, rfl, rfl⟩ rfl rfl rfl rfl ?_
 refine ⟨M4, TM, [], [], ?_, ?_, ?_, ⟨rfl, rfl⟩, ?_⟩
 ·rw [List.append_nil]
  have e : (gs ++ [top] ++ [(⟨⟨lisV lb, none, 0, 0, p.lineno, p.lineno⟩, [lisC lb c.toNat (num : Nat) false (some ⟨ib, 0, none⟩) .nilFunc], [], []⟩ : Bk), ⟨⟨iteV ib, none, 0, 0, p.lineno, p.lineno⟩, [iteC ib lb n true], [], []⟩]).map Bk.ob = gs.map Bk.ob ++ [top.ob] ++ [⟨lisV lb, none, 0, 0, p.lineno, p.lineno⟩] ++ [⟨iteV ib, none, 0, 0, p.lineno, p.lineno⟩] := by simp
  rw [e]
  exact hs4.of rfl rfl rfl
 ·rw [txF_append, txF_two]
  show Txts _ ((txF (gs ++ [top]) ++ ([] ++ [])).map TX.t) TM
  rw [List.append_nil, List.append_nil]
  exact ht.of (by show p4.tq = _; rw [hp4]; show p'.tq = _; rw [hp']) (by show p4.tn = _; rw [hp4]; show p'.tn = _; rw [hp']) (by show p4.tc = _; rw [hp4]; show p'.tc = _; rw [hp'])
 ·intro g hg
  rcases List.mem_append.1 hg with hg | hg
  ·exact hok g hg
  ·rcases List.mem_cons.1 hg with rfl | hg
   ·exact ⟨Sl.nil 1 ty_Block, by simp, hno, hno⟩
   ·obtain rfl := List.mem_singleton.1 hg
    exact ⟨Sl.nil 1 ty_Block, by simp, hno, hno⟩
 ·rw [memFs_append (gs ++ [top]), memFs_two]
  show Sat σ w (_ :: M4 ++ (TM ++ (memFs (gs ++ [top]) ++ (([] ++ ([lisC lb c.toNat (num : Nat) false (some ⟨ib, 0, none⟩) .nilFunc] ++ ([] ++ []))) ++ ([] ++ ([iteC ib lb n true] ++ ([] ++ [])))) ++ ([] ++ (l2.at b1 :: L)))))
  exact h.less [(nb, cel newsC e), (nb2, cel newsC e2)]
theorem pushParaC {Xb : OA → Nat → WP} {b b1 pb : Nat} {op : Opt} {gs : List Bk} {top : Bk} {p : PS} {l : Ln} {ty : TypeId} {v : Value} (h : DocC σ b (l.at b1 :: L) (gs ++ [top]) .none p w) (hd : p.depth = gs.length) (hgl : gs.length < 100000)
 (hbd : top.ob.bd = .iface ty v) (h1 : ty ≠ ty_P_paraBuilder) (h2 : ty ≠ ty_P_listBuilder) (hl : l.plain) (hpz : p.pz = some ⟨pb, 0, none⟩) (hop : op.at pb ∈ L) (hno : p.lineno < 1000000000)
 (hR : ∀ w (p' : PS), p'.base = p.base → p'.lineno = p.lineno → DocC σ b L (gs ++ [top]) (.para [l.rest]) p' w → R (.returned (.tuple #[])) w) :
 g_parseState_addLine.bl102 R Xb (some ⟨b, 0, none⟩) b1 w := by
 obtain ⟨M, TM, lobs, LM, hs, ht, hok, ⟨rfl, rfl⟩, h⟩ := h
 have hs : Stk p (gs.map Bk.ob ++ [top.ob]) M := by simpa using hs
 have hd' : p.depth = (gs.map Bk.ob).length := by rw [hd]; simp
 have h : Sat σ w (p.at b :: M ++ (l.at b1 :: (TM ++ (memFs (gs ++ [top]) ++ L)))) := h.re
 refine bl102_decl h (decl_all hs hd' hbd h1 h2 hl) fun w nb e R' h hk => ?_
 refine newPara_new (op := op) h hs hpz (by simp [hop]) hd' hbd h1 hl.ok (by simp; omega) fun w p' M' qb PM hp' hs' hPM h => ?_
 refine hk w true ?_
 refine hR w p' (by rw [hp']; rfl) (by rw [hp']) ⟨M', TM, [paraOB qb p.lineno p.lineno], PM, ?_, ht.of (by rw [hp']) (by rw [hp']) (by rw [hp']), hok, ⟨qb, p.lineno, p.lineno, rfl, hPM, hno, by simp, by simp⟩, ?_⟩
 ·rw [List.map_append]; exact hs'
 ·exact h.less [l.at b1, (nb, cel newsC e)]
end Go.Proofs.YtgbgadkldalkbaaGreatDoor


set_option linter.unusedVariables false
namespace Go.Proofs.YtgbgadkldalkbaaGreatDoor
open Go.Proofs Go.IntWalk Go.RowKit
variable {σ : Out} {w : World} {L L' : List Chunk} {R : Ending → World → Prop}
theorem dropST_has {d : UInt8} (hd : isST d = false) (r : List UInt8) : ∀ m : List UInt8, ∃ m3, (m ++ d :: r).dropWhile isST = m3 ++ d :: r
 | [] => ⟨[], by simp [hd]⟩
 | x :: m => by
  rw [List.cons_append, List.dropWhile_cons]
  split
  ·exact dropST_has hd r m
  ·exact ⟨x :: m, rfl⟩
theorem Ln.hrGo_has {c d : UInt8} {r : List UInt8} : ∀ (f n : Nat) (l : Ln), l.ok → l.sp = 0 → (∃ m, l.text.drop l.i = m ++ d :: r) → d ≠ c → isST d = false → l.hrGo c f n = false
 | 0, _, _, _, _, _, _, _ => rfl
 | f + 1, n, l, hl, hsp, ⟨m, hm⟩, hdc, hd => by
  cases m with
  | nil =>
   have h : l.has d r := ⟨hl, hsp, hm⟩
   have := h.lt
   simp only [Ln.hrGo]
   rw [h.trimC, if_neg hdc]
   simp; omega
  | cons x m =>
   have h : l.has x (m ++ d :: r) := ⟨hl, hsp, by rw [hm]; rfl⟩
   have hlt := h.lt
   simp only [Ln.hrGo]
   rw [h.trimC]
   by_cases hx : x = c
   ·rw [if_pos hx]
    simp only
    have hnx : ∃ y m2, m ++ d :: r = y :: m2 := by cases m with | nil => exact ⟨_, _, rfl⟩ | cons y m2 => exact ⟨_, _, rfl⟩
    obtain ⟨y, m2, hy⟩ := hnx
    have h1 := (hy ▸ h : l.has x (y :: m2)).next
    have hdrop : ({ l with i := l.i + 1 } : Ln).text.drop (l.i + 1) = m ++ d :: r := by rw [hy]; exact h1.tx
    have hsk := Ln.skip_ok h1.ok
    refine Ln.hrGo_has (r := r) f (n + 1) _ hsk rfl ?_ hdc hd
    show ∃ m3, l.text.drop (({ l with i := l.i + 1 } : Ln).skip.i) = m3 ++ d :: r
    have e : l.text.drop (l.i + 1) = m ++ d :: r := hdrop
    have hi : ({ l with i := l.i + 1 } : Ln).skip.i = l.text.length - ((m ++ d :: r).dropWhile isST).length := by
     simp only [Ln.skip, e]
    rw [hi, drop_suffix ((List.dropWhile_suffix _).trans (e ▸ List.drop_suffix _ _))]
    exact dropST_has hd r m
   ·rw [if_neg hx]
    simp; omega
theorem Ln.has.noHR {l : Ln} {c d : UInt8} {r m r2 : List UInt8} (h : l.has c r) (hc : isST c = false) (hm : c :: r = m ++ d :: r2) (hd : isST d = false) (hdc : d ≠ 45 ∧ d ≠ 95 ∧ d ≠ 42) : l.isHR = false := by
 unfold Ln.isHR
 simp only [h.lead hc 2, h.peek]
 split
 ·rename_i hh
  refine Ln.hrGo_has _ _ l h.ok h.sp ⟨m, by rw [h.tx, hm]⟩ ?_ hd
  rcases hh with rfl | rfl | rfl
  ·exact hdc.1
  ·exact hdc.2.1
  ·exact hdc.2.2
 ·rfl
end Go.Proofs.YtgbgadkldalkbaaGreatDoor


set_option linter.unusedVariables false
namespace Go.Proofs.YtgbgadkldalkbaaGreatDoor
open Go.Proofs Go.IntWalk Go.RowKit
variable {σ : Out} {w : World} {L L' : List Chunk} {R : Ending → World → Prop}
def noNL (l : List UInt8) : Prop := 10 ∉ l ∧ 13 ∉ l
inductive LinesOf : List UInt8 → List (List UInt8 × UInt8) → Prop where
 | nil : LinesOf [] []
 | last {l : List UInt8} : l ≠ [] → noNL l → LinesOf l [(l, 0)]
 | cons {l t : List UInt8} {ls : List (List UInt8 × UInt8)} : noNL l → LinesOf t ls → LinesOf (l ++ 10 :: t) ((l, 10) :: ls)
theorem LinesOf.no13 {t : List UInt8} {ls : List (List UInt8 × UInt8)} (h : LinesOf t ls) : 13 ∉ t := by
 induction h with
 | nil => simp
 | last h1 h2 => exact h2.2
 | cons h1 h2 ih =>
  simp only [List.mem_append, List.mem_cons, not_or]
  exact ⟨h1.2, by decide, ih⟩
theorem LinesOf.len {t : List UInt8} {ls : List (List UInt8 × UInt8)} (h : LinesOf t ls) : ls.length ≤ t.length := by
 induction h with
 | nil => simp
 | last h1 h2 => have := List.length_pos_iff.2 h1; simp; omega
 | cons h1 h2 ih => simp; omega
theorem findSub_first {A B : List UInt8} {c : UInt8} (hc : c ∉ A) : ∀ (k i : Nat), i + k = A.length → ∀ f, k < f → findSub [c] (A ++ c :: B) f i = some A.length
 | 0, i, hi, f + 1, _ => by
  obtain rfl : i = A.length := by omega
  simp only [findSub, List.length_singleton]
  rw [if_pos (by simp), List.drop_left, if_pos (by simp)]
 | k + 1, i, hi, f + 1, hf => by
  simp only [findSub, List.length_singleton]
  rw [if_pos (by simp; omega), if_neg]
  ·exact findSub_first hc k (i + 1) (by omega) f (by omega)
  ·intro he
   have hil : i < A.length := by omega
   rw [List.drop_append_of_le_length (by omega), List.drop_eq_getElem_cons hil, List.cons_append, List.take_succ_cons, List.take_zero] at he
   have he2 : A[i] = c := (List.cons.inj he).1
   exact hc (he2 ▸ List.getElem_mem hil)
theorem idx_first {A B : List UInt8} {c : UInt8} (hc : c ∉ A) : idx (A ++ c :: B) [c] = some A.length := by
 unfold idx
 exact findSub_first hc A.length 0 (by omega) _ (by simp; omega)
end Go.Proofs.YtgbgadkldalkbaaGreatDoor


set_option linter.unusedVariables false
namespace Go.Proofs.YtgbgadkldalkbaaGreatDoor
open Go.Proofs Go.IntWalk Go.RowKit
variable {σ : Out} {w : World} {L L' : List Chunk} {R : Ending → World → Prop}
def Bk.isRoot (f : Bk) : Prop := ∃ rb, f.ob.bd = rootV rb ∧ f.own = [(rb, cel [] ty_rootBuilder)]
def CloseAll (op : Opt) (fs : List Bk) (lf : Leaf) (Q : List DB → Prop) : Prop :=
 ∀ (σ : Out) (R : Ending → World → Prop) (L : List Chunk) (b pb : Nat) (p : PS) (w : World) (X : OA → Int → WP), (∀ x0 x1 w, g_parseState_trimStack.bl1 R X x0 x1 w → X x0 x1 w) → op.at pb ∈ L → p.pz = some ⟨pb, 0, none⟩ → DocC σ b L fs lf p w →
  (∀ w (p' : PS) root, p'.base = p.base → root.isRoot → Q root.D → DocC σ b L [root] .none p' w → X (some ⟨b, 0, none⟩) 0 w) → X (some ⟨b, 0, none⟩) 0 w
theorem finishC_ok {op : Opt} {b pb : Nat} {p : PS} {fs : List Bk} {lf : Leaf} {Q : List DB → Prop} (hC : CloseAll op fs lf Q) (h : DocC σ b L fs lf p w) (hpz : p.pz = some ⟨pb, 0, none⟩) (hop : op.at pb ∈ L)
 (hR : ∀ w (p' : PS) D' db IM TM q n c s e, p'.base = { p.base with root := some ⟨db, 0, none⟩ } → Q D' → Txts p' ((txsC D').map TX.t) TM → Sl 1 ty_Block q n c (D'.map DB.v) IM → n < 1000000 →
  Sat σ w (p'.at b :: (TM ++ ((txsC D').map TX.chunk ++ (docC db s e q n c p.links :: (IM ++ (ownC D' ++ L)))))) → R (.returned (.tuple #[])) w) :
 callE P i_parseState_trimStack #[.pointer (some ⟨b, 0, none⟩), .int .i64 0] R w := by
 refine g_parseState_trimStack.sound ?_
 have h0 := h
 obtain ⟨M, TM, lobs, LM, hs, ht, hok, hL, h⟩ := h
 refine nilP_some ?_
 refine ⟨_, _, _, h.ldA, ?_⟩
 refine br_false (by simp) ?_
 intro X hX'
 refine hC σ R L b pb p w X hX' hop hpz h0 fun w p1 root hb hroot hQ h => ?_
 obtain ⟨rb, hbd, hown⟩ := hroot
 obtain ⟨M, TM, lobs, LM, hs, ht, hok, ⟨rfl, rfl⟩, h⟩ := h
 have hs : Stk p1 [root.ob] M := hs
 have hn : p1.stn = 1 := hs.2.1
 have hlk : p1.links = p.links := by have := congrArg PS.links hb; exact this
 refine hX' _ _ _ (nilP_some ?_)
 refine ⟨_, _, _, h.ldA, ?_⟩
 rw [hn]
 refine br_true rfl ?_
 refine closeRoot_ok h hs hbd fun w db h => ⟨_, rfl, hX' _ _ _ (nilP_some ?_)⟩
 refine ⟨_, _, _, h.ldA, ?_⟩
 refine br_false rfl ?_
 obtain ⟨hI, hDl, _⟩ := hok root (by simp)
 have hIl := hI.1
 simp only [List.length_map, Nat.mul_one] at hIl
 rw [txF_one] at ht
 refine hR w { p1 with stn := 0, root := some ⟨db, 0, none⟩ } root.D db root.IM TM root.ob.q root.ob.n root.ob.c root.ob.s root.ob.e ?_ hQ (ht.of rfl rfl rfl) hI (by omega) ?_
 ·have e : ({ p1 with stn := 0, root := some ⟨db, 0, none⟩ } : PS).base = { p1.base with root := some ⟨db, 0, none⟩ } := rfl
  rw [e, hb]
 ·rw [← hlk]
  rw [memFs_one, hown] at h
  have h : Sat σ w (({ p1 with stn := 0, root := some ⟨db, 0, none⟩ } : PS).at b :: M ++ (docC db root.ob.s root.ob.e root.ob.q root.ob.n root.ob.c p1.links :: (TM ++ (root.IM ++ ([(rb, cel [] ty_rootBuilder)] ++ (ownC root.D ++ (txsC root.D).map TX.chunk)) ++ ([] ++ L))))) := h
  exact h.less (M ++ [(rb, cel [] ty_rootBuilder)])
def StepC (L0 : List Chunk) (op : Opt) (n : Nat) (l : List UInt8) (nl : UInt8) (fs : List Bk) (lf : Leaf) (J : List Bk → Leaf → Prop) : Prop :=
 ∀ (σ : Out) (R : Ending → World → Prop) (L : List Chunk) (b pb : Nat) (p : PS) (w : World), (∀ c ∈ L0, c ∈ L) → op.at pb ∈ L → p.pz = some ⟨pb, 0, none⟩ → p.lineno = n → n < 1000000000 → DocC σ b L fs lf p w →
  (∀ w (p' : PS) fs' lf', p'.base = p.base → p'.lineno = p.lineno → J fs' lf' → DocC σ b L fs' lf' p' w → R (.returned (.tuple #[])) w) → callE P i_parseState_addLine #[.pointer (some ⟨b, 0, none⟩), (lnOf l nl).val] R w
theorem lines_okC {L0 : List Chunk} {op : Opt} {I : List (List UInt8 × UInt8) → Nat → List Bk → Leaf → Prop} (step : ∀ l nl rem n fs lf, I ((l, nl) :: rem) n fs lf → StepC L0 op (n + 1) l nl fs lf (I rem (n + 1))) (hL0 : ∀ c ∈ L0, c ∈ L) {X : OA → BA → Nat → WP} {b pb : Nat} {p0 : PS}
 (hX : ∀ x0 x1 x6 w, g_Parser_parse.bl1 R X x0 x1 x6 w → X x0 x1 x6 w) (hop : op.at pb ∈ L) (hpz : p0.pz = some ⟨pb, 0, none⟩)
 (hE : ∀ w (p : PS) fs lf, p.base = p0.base → I [] p.lineno fs lf → DocC σ b L fs lf p w → g_Parser_parse.bl1 R X (some ⟨pb, 0, none⟩) (bs []) b w) {text : List UInt8} {ls : List (List UInt8 × UInt8)} (hL : LinesOf text ls) :
 ∀ w (p : PS) fs lf, text.length < 1000000 → p.lineno + ls.length < 1000000000 → p.base = p0.base → I ls p.lineno fs lf → DocC σ b L fs lf p w → X (some ⟨pb, 0, none⟩) (bs text) b w := by
 have k3 : ∀ (l : List UInt8) (nl : UInt8) (t : List UInt8) (rem : List (List UInt8 × UInt8)) w (p : PS) fs lf, (∀ w (p : PS) fs lf, p.lineno + rem.length < 1000000000 → p.base = p0.base → I rem p.lineno fs lf → DocC σ b L fs lf p w → X (some ⟨pb, 0, none⟩) (bs t) b w) →
  p.lineno + rem.length + 1 < 1000000000 → p.base = p0.base → I ((l, nl) :: rem) p.lineno fs lf → DocC σ b L fs lf p w → g_Parser_parse.k3 R X (some ⟨pb, 0, none⟩) (bs t) b (bs l) (nl.toNat : Int) w := by
  intro l nl t rem w p fs lf next hno hb hI h
  obtain ⟨M, TM, lobs, LM, hs, ht, hok, hL, h⟩ := h
  unfold g_Parser_parse.k3
  refine ⟨_, Sat.ld h (.head _) (i := 3) rfl, ?_⟩
  rw [i64_inc (by omega)]
  refine h.stA 0 fun w h => ?_
  let p1 : PS := { p with lineno := p.lineno + 1 }
  have h : Sat σ w (p1.at b :: M ++ (TM ++ (memFs fs ++ (LM ++ L)))) := h
  have hb1 : p1.base = p0.base := hb
  have hpz1 : p1.pz = some ⟨pb, 0, none⟩ := by
   have := congrArg PS.pz hb1
   rw [show p1.pz = p0.pz from this]; exact hpz
  refine step l nl rem p.lineno fs lf hI σ _ L b pb p1 w hL0 hop hpz1 rfl (by omega) ⟨M, TM, lobs, LM, hs.of rfl rfl rfl, ht.of rfl rfl rfl, hok, hL, h⟩ fun w p2 fs' lf' h1 h2 h3 h4 => ⟨rfl, ?_⟩
  exact next w p2 fs' lf' (by rw [h2]; show p.lineno + 1 + _ < _; omega) (h1.trans hb1) (by rw [h2]; exact h3) h4
 induction hL with
 | nil =>
  intro w p fs lf hlen hno hb hI h
  exact hX _ _ _ _ (hE w p fs lf hb hI h)
 | @last l hne hnl =>
  intro w p fs lf hlen hno hb hI h
  have e10 : idxInt l [10] = -1 := by unfold idxInt; rw [idx_none hnl.1]
  have e13 : idxInt l [13] = -1 := by unfold idxInt; rw [idx_none hnl.2]
  refine hX _ _ _ _ (br_true (by rw [bs_toList]; simpa using hne) ?_)
  refine zzIndex_ok (sub := [10]) (by omega) (by decide) ⟨_, rfl, ?_⟩
  refine zzIndex_ok (sub := [13]) (by omega) (by decide) ⟨_, rfl, ?_⟩
  rw [e10, e13]
  refine br_false rfl (br_false rfl ?_)
  refine k3 l 0 [] [] w p fs lf ?_ (by simp at hno ⊢; omega) hb hI h
  intro w p fs lf hno hb hI h
  exact hX _ _ _ _ (hE w p fs lf hb hI h)
 | @cons l t ls hnl hLt ih =>
  intro w p fs lf hlen hno hb hI h
  have hl13 : 13 ∉ l ++ 10 :: t := (LinesOf.cons hnl hLt).no13
  have e10 : idxInt (l ++ 10 :: t) [10] = (l.length : Nat) := by unfold idxInt; rw [idx_first hnl.1]
  have e13 : idxInt (l ++ 10 :: t) [13] = -1 := by unfold idxInt; rw [idx_none hl13]
  have hlen' : (l ++ 10 :: t).length = l.length + t.length + 1 := by simp; omega
  refine hX _ _ _ _ (br_true (by rw [bs_toList]; simp [mk_toList]) ?_)
  refine zzIndex_ok (sub := [10]) (by omega) (by decide) ⟨_, rfl, ?_⟩
  refine zzIndex_ok (sub := [13]) (by omega) (by decide) ⟨_, rfl, ?_⟩
  rw [e10, e13]
  refine br_false rfl ?_
  refine br_true (by simp) ?_
  obtain ⟨M, TM, lobs, LM, hs, ht, hok, hL, h⟩ := h
  refine Sat.tk h fun w h => ?_
  rw [i64_inc (by omega), bs_size, Int.toNat_natCast, Int.toNat_natCast, bs_ext, bs_extract, List.drop_zero, List.take_left]
  refine ⟨by omega, by rw [hlen']; omega, by omega, by rw [hlen']; omega, ?_⟩
  have ed : (l ++ 10 :: t).drop (l.length + 1) = t := by rw [List.drop_append]; simp
  rw [ed]
  refine k3 l 10 t ls w p fs lf ?_ (by simp at hno ⊢; omega) hb hI ⟨M, TM, lobs, LM, hs, ht, hok, hL, h⟩
  intro w p fs lf hno hb hI h
  exact ih w p fs lf (by rw [hlen'] at hlen; omega) hno hb hI h
theorem trim_step {X : OA → Int → WP} {b k : Nat} {fs : List Bk} {lf : Leaf} {p : PS} (hX : ∀ x0 x1 w, g_parseState_trimStack.bl1 R X x0 x1 w → X x0 x1 w) (h : DocC σ b L fs lf p w) (hk : k < fs.length)
 (hc : callE P i_parseState_closeBlock #[.pointer (some ⟨b, 0, none⟩)] (fun e w6 => ∃ (r5 : Value), e = .returned r5 ∧ X (some ⟨b, 0, none⟩) (k : Int) w6) w) : X (some ⟨b, 0, none⟩) (k : Int) w := by
 obtain ⟨M, TM, lobs, LM, hs, ht, hok, hL, h⟩ := h
 have hn := hs.2.1
 rw [List.length_append, List.length_map] at hn
 refine hX _ _ _ (nilP_some ?_)
 refine ⟨_, _, _, h.ldA, ?_⟩
 rw [hn]
 exact br_true (by simp; omega) hc
theorem snoc_of {α : Type} {l gs : List α} {a top : α} (h : l ++ [a] = gs ++ [top]) : l = gs ∧ a = top := by
 have := List.append_inj' h rfl
 exact ⟨this.1, by simpa using this.2⟩
theorem base_ln {p p' : PS} (h : p'.base = p.base) : p'.pz = p.pz := by have := congrArg PS.pz h; exact this
end Go.Proofs.YtgbgadkldalkbaaGreatDoor


set_option linter.unusedVariables false
namespace Go.Proofs.YtgbgadkldalkbaaGreatDoor
open Go.Proofs Go.IntWalk Go.RowKit
variable {σ : Out} {w : World} {L L' : List Chunk} {R : Ending → World → Prop}
theorem newSetext_ne {b d : Nat} {p : PS} {ob : List OB} {o o1 : OB} {M : List Chunk} {t t1 : TypeId} {v v1 : Value} {l : Ln} (h : Sat σ w (p.at b :: M ++ L)) (hs : Stk p (ob ++ [o]) M) (hd : p.depth = d) (hdb : d < 1000000)
 (ho1 : (ob ++ [o])[d + 1]? = some o1) (hb1 : o1.bd = .iface t1 v1) (ht1 : t1 ≠ ty_P_paraBuilder) (hb : o.bd = .iface t v) (hv : t = ty_P_paraBuilder → ∃ q, v = .pointer q) (hl : l.ok)
 (hR : ∀ w, Sat σ w (p.at b :: M ++ L) → R (.returned (.tuple #[l.val, .bool false])) w) : callE P i_newSetextHeading #[.pointer (some ⟨b, 0, none⟩), l.val] R w := by
 refine g_newSetextHeading.sound ?_
 refine Sat.bx h fun b1 w h => ?_
 refine Sat.bx h fun b3 w h => ?_
 refine Sat.bx h fun b5 w h => ?_
 repeat (first | refine nilP_some ?_ | refine h.tk fun w h => ?_ | refine ⟨_, h.ldA, ?_⟩ | refine ⟨_, _, _, h.ldA, ?_⟩ | refine h.stA 0 fun w h => ?_ | refine h.stA 1 fun w h => ?_ | refine h.stA 2 fun w h => ?_ | refine h.stA 3 fun w h => ?_ | refine h.stA 4 fun w h => ?_ | refine h.stA 5 fun w h => ?_ | refine h.stA 6 fun w h => ?_ | refine h.bx fun b0 w h => ?_)
 have h : Sat σ _ (l.at b0 :: (b5, cel [.int .i64 0] ty_int) :: zLn b3 :: l.at b1 :: (p.at b :: M ++ L)) := h
 have h : Sat σ _ (p.at b :: M ++ (l.at b0 :: (b5, cel [.int .i64 0] ty_int) :: zLn b3 :: l.at b1 :: L)) := h.re
 refine nextB_ok h hs hd (by omega) fun w h => ?_
 rw [ho1]
 refine ⟨_, rfl, ?_⟩
 have fin : ∀ (q : Option Addr) w, Sat σ w (p.at b :: M ++ (l.at b0 :: (b5, cel [.int .i64 0] ty_int) :: zLn b3 :: l.at b1 :: L)) → ∃ (r21 : Option Addr), Ending.returned (.pointer q) = .returned (.pointer r21) ∧
  ∃ (r23 : Bool), ∃ w24, (do eqGuard .eql ty_blockBuilder (.tmp 12) (.tmp 15) o1.bd (.iface ty_P_paraBuilder (.pointer r21)); binOp .eql ty_blockBuilder o1.bd (.iface ty_P_paraBuilder (.pointer r21))).run P w = .ok (.bool r23) w24 ∧
  br r23 (callE P i_line_trimSetext #[.pointer (some ⟨b0, 0, none⟩), .pointer (some ⟨b5, 0, none⟩)] (fun e w26 => ∃ (r25 : Bool), e = .returned (.bool r25) ∧ g_newSetextHeading.k1 R (some ⟨b, 0, none⟩) b1 b3 b5 r25 w26) w24) (g_newSetextHeading.k1 R (some ⟨b, 0, none⟩) b1 b3 b5 false w24) := by
  intro q w h
  refine ⟨q, rfl, false, w, by rw [hb1]; exact eq_iface_ne und_bb ht1 _ _ w, br_false rfl ?_⟩
  have h : Sat σ _ (zLn b3 :: l.at b1 :: (b5, cel [.int .i64 0] ty_int) :: l.at b0 :: (p.at b :: M ++ L)) := h.re
  refine br_false rfl ?_
  repeat (first | refine nilP_some ?_ | refine h.tk fun w h => ?_ | refine ⟨_, h.ldA, ?_⟩ | refine ⟨_, _, _, h.ldA, ?_⟩ | refine h.stA 0 fun w h => ?_ | refine h.stA 1 fun w h => ?_ | refine h.stA 2 fun w h => ?_ | refine h.stA 3 fun w h => ?_ | refine h.stA 4 fun w h => ?_ | refine h.stA 5 fun w h => ?_ | refine h.stA 6 fun w h => ?_ | refine h.bx fun b0 w h => ?_)
  have h : Sat σ _ (l.at b3 :: l.at b1 :: (b5, cel [.int .i64 0] ty_int) :: l.at b0 :: (p.at b :: M ++ L)) := h
  exact hR _ h.tail.tail.tail.tail
 refine top_ok h hs hb (fun w h => ?_) hv
 by_cases ht : t = ty_P_paraBuilder
 ·rw [if_pos ht]
  obtain ⟨q, rfl⟩ := hv ht
  exact fin q w h
 ·rw [if_neg ht]
  exact fin none w h
theorem und_PiB : P.underlying ty_P_itemBuilder = some (.pointer ty_itemBuilder) := by kernel_rfl
end Go.Proofs.YtgbgadkldalkbaaGreatDoor


set_option linter.unusedVariables false
namespace Go.Proofs.YtgbgadkldalkbaaGreatDoor
open Go.Proofs Go.IntWalk Go.RowKit
variable {σ : Out} {w : World} {L L' : List Chunk} {R : Ending → World → Prop}
theorem meth_listExtend : methB P ty_P_listBuilder "pub-paratext/pub/rscmarkdown.extend" i_listBuilder_extend = true := by kernel_rfl
theorem meth_itemExtend : methB P ty_P_itemBuilder "pub-paratext/pub/rscmarkdown.extend" i_itemBuilder_extend = true := by kernel_rfl
theorem ext_step {X : OA → Nat → WP} (hX : ∀ x0 x3 w, g_parseState_addLine.bl1 R X x0 x3 w → X x0 x3 w) {b b1 j : Nat} {p : PS} {ob : List OB} {o : OB} {M : List Chunk} {l l2 : Ln} {ok : Bool} (h : Sat σ w (l.at b1 :: (p.at b :: M ++ L))) (hs : Stk p ob M) (hd : p.depth = j) (hj : j < 1000000) (ho : ob[j + 1]? = some o) (hl : l.ok)
 (hE : ∀ (R' : Ending → World → Prop) b0 w, Sat σ w (l.at b0 :: l.at b1 :: (p.at b :: M ++ L)) → (∀ w, Sat σ w (l.at b0 :: l.at b1 :: (p.at b :: M ++ L)) → R' (.returned (.tuple #[l2.val, .bool ok])) w) → enterE P (callMethod o.bd "pub-paratext/pub/rscmarkdown.extend" #[.pointer (some ⟨b, 0, none⟩), l.val]) R' w)
 (hno : l.blank = true ∨ (ok = false ∧ l2 = l))
 (hgo : ok = true → ∀ w, Sat σ w (l2.at b1 :: (({ p with depth := (j : Int) + 1 } : PS).at b :: M ++ L)) → X (some ⟨b, 0, none⟩) b1 w)
 (hstop : ok = false → ∀ w, Sat σ w (l2.at b1 :: (p.at b :: M ++ L)) → g_parseState_addLine.k2 R (some ⟨b, 0, none⟩) b1 w) : X (some ⟨b, 0, none⟩) b1 w := by
 have hjl := (List.getElem?_eq_some_iff.1 ho).1
 have hlt := hs.2.2
 have hn := hs.2.1
 have hs0 := hs
 obtain ⟨sb, sp, hq, hM, hsp⟩ := hs.split (by intro he; rw [he] at hjl; simp at hjl)
 refine hX _ _ _ ?_
 have h : Sat σ w (l.at b1 :: p.at b :: (M ++ L)) := h
 refine Sat.tk h fun w h => nilP_some (nilP_some ?_)
 refine ⟨_, Sat.ld h (.tail _ (.head _)) (i := 5) rfl, _, _, _, Sat.ld h (.tail _ (.head _)) (i := 4) rfl, ?_⟩
 rw [hd, i64_in _ (by omega), hn]
 refine br_true (by simp; omega) ?_
 refine ⟨_, h.ldA, ?_⟩
 refine ⟨_, h.ldA, ?_⟩
 refine ⟨_, h.ldA, ?_⟩
 refine ⟨_, h.ldA, ?_⟩
 refine ⟨_, h.ldA, ?_⟩
 refine Sat.bx h fun b0 w h => ?_
 refine h.stA 0 fun w h => ?_
 refine h.stA 0 fun w h => ?_
 refine h.stA 0 fun w h => ?_
 refine h.stA 0 fun w h => ?_
 refine h.stA 0 fun w h => ?_
 have h : Sat σ w (l.at b0 :: l.at b1 :: p.at b :: (M ++ L)) := h
 refine Sat.tk h fun w h => nilP_some (nilP_some ?_)
 refine ⟨_, _, _, Sat.ld h (.tail _ (.tail _ (.head _))) (i := 4) rfl, _, Sat.ld h (.tail _ (.tail _ (.head _))) (i := 5) rfl, ?_⟩
 rw [hd, i64_in _ (by omega), hn, hq]
 refine ⟨by omega, by omega, nilP_some ?_⟩
 have hjt : ((j : Int) + 1).toNat = j + 1 := by omega
 rw [hjt]
 simp only [Addr.add_lit, Nat.zero_add]
 have hmem : (sb, cel (obCells ob ++ sp) ty_openBlock) ∈ (l.at b0 :: l.at b1 :: p.at b :: (M ++ L)) := by rw [hM]; simp
 refine ⟨o.bd, Sat.ld h hmem (stk_get (j := j + 1) (f := 0) (by decide) ho), ?_⟩
 have hmb : l.at b1 ∈ (l.at b0 :: l.at b1 :: p.at b :: (M ++ L)) := .tail _ (.head _)
 refine ⟨_, Sat.ld h hmb (i := 0) rfl, _, Sat.ld h hmb (i := 1) rfl, _, Sat.ld h hmb (i := 2) rfl, _, Sat.ld h hmb (i := 3) rfl, _, Sat.ld h hmb (i := 4) rfl, ?_⟩
 refine hE _ b0 w h fun w h => ⟨_, _, _, _, _, _, rfl, ?_⟩
 have h : Sat σ w (l.at b0 :: l.at b1 :: (p.at b :: M ++ L)) := h
 refine h.stA 1 fun w h => ?_
 refine h.stA 1 fun w h => ?_
 refine h.stA 1 fun w h => ?_
 refine h.stA 1 fun w h => ?_
 refine h.stA 1 fun w h => ?_
 have h : Sat σ w (l.at b0 :: l2.at b1 :: (p.at b :: M ++ L)) := h
 refine isBlank_ok h (.head _) hl fun w h => ⟨_, rfl, ?_⟩
 have fin : ∀ w, Sat σ w (l.at b0 :: l2.at b1 :: (p.at b :: M ++ L)) → g_parseState_addLine.k1 R X (some ⟨b, 0, none⟩) b1 ok false w := by
  intro w h
  refine br_false rfl ?_
  cases ok with
  | true =>
   refine br_false rfl (nilP_some ?_)
   have h : Sat σ w (l.at b0 :: l2.at b1 :: p.at b :: (M ++ L)) := h
   refine ⟨_, Sat.ld h (.tail _ (.tail _ (.head _))) (i := 5) rfl, nilP_some ?_⟩
   rw [hd, i64_in _ (by omega)]
   refine Sat.st h (k := 2) rfl (by simp [PS.cells]) trivial rfl fun w h => ?_
   have h : Sat σ w (l.at b0 :: l2.at b1 :: (({ p with depth := (j : Int) + 1 } : PS).at b :: M ++ L)) := h
   exact hgo rfl w h.tail
  | false => exact br_true rfl (hstop rfl w h.tail)
 cases hb : l.blank with
 | true => exact br_false rfl (fin w h)
 | false =>
  refine br_true rfl ?_
  obtain ⟨rfl, rfl⟩ := hno.resolve_left (by rw [hb]; decide)
  refine br_false rfl ?_
  refine ⟨_, h.ldA, ?_⟩
  refine ⟨_, h.ldA, ?_⟩
  refine ⟨_, h.ldA, ?_⟩
  refine ⟨_, h.ldA, ?_⟩
  refine ⟨_, h.ldA, ?_⟩
  refine ⟨_, h.ldA, ?_⟩
  refine ⟨_, h.ldA, ?_⟩
  refine ⟨_, h.ldA, ?_⟩
  refine ⟨_, h.ldA, ?_⟩
  refine ⟨_, h.ldA, ?_⟩
  exact ⟨_, _, neq_line l2 _ _ w, fin w h⟩
theorem listExt_ok {lb ib n : Nat} {q : Option Addr} {bul num : Int} {lo hv : Bool} {td : Value} {l l2 : Ln} {ok : Bool} (h : Sat σ w L) (hl : l.ok) (hn : n < 1000000) (h1 : lisC lb bul num lo (some ⟨ib, 0, none⟩) td ∈ L) (h2 : iteC ib lb n hv ∈ L)
 (ht : match l.trimSp n n true with | some l' => l2 = l' ∧ ok = true | none => l2 = l ∧ ok = false) (hR : ∀ w, Sat σ w L → R (.returned (.tuple #[l2.val, .bool ok])) w) :
 callE P i_listBuilder_extend #[.pointer (some ⟨lb, 0, none⟩), .pointer q, l.val] R w := by
 refine g_listBuilder_extend.sound ?_
 refine Sat.bx h fun b1 w h => ?_
 refine Sat.bx h fun b3 w h => ?_
 have h : Sat σ w (zLn b3 :: l.at b1 :: L) := h
 refine nilP_some ⟨_, Sat.ld h (.tail _ (.tail _ h1)) (i := 3) rfl, ?_⟩
 refine Sat.tk h fun w h => ⟨_, fun w => neq_ptr_nil und_PiB _ w, br_true rfl (nilP_some (nilP_some ?_))⟩
 refine ⟨_, Sat.ld h (.tail _ (.tail _ h2)) (i := 1) rfl, _, Sat.ld h (.tail _ (.tail _ h2)) (i := 1) rfl, ?_⟩
 have h : Sat σ w (l.at b1 :: zLn b3 :: L) := h.re
 refine YtgbgadkldalkbaaGreatDoor.trimSp_ok (min := n) (max := n) h hl (by omega) (by omega) ?_
 cases hs : l.trimSp n n true with
 | some l' =>
  rw [hs] at ht
  obtain ⟨rfl, rfl⟩ := ht
  intro w h
  refine ⟨_, rfl, br_true rfl ?_⟩
  refine ⟨_, h.ldA, ?_⟩
  refine ⟨_, h.ldA, ?_⟩
  refine ⟨_, h.ldA, ?_⟩
  refine ⟨_, h.ldA, ?_⟩
  refine ⟨_, h.ldA, ?_⟩
  refine h.stA 1 fun w h => ?_
  refine h.stA 1 fun w h => ?_
  refine h.stA 1 fun w h => ?_
  refine h.stA 1 fun w h => ?_
  refine h.stA 1 fun w h => ?_
  have h : Sat σ w (l2.at b1 :: l2.at b3 :: L) := h
  have h : Sat σ w (l2.at b3 :: l2.at b1 :: L) := h.re
  refine ⟨_, h.ldA, ?_⟩
  refine ⟨_, h.ldA, ?_⟩
  refine ⟨_, h.ldA, ?_⟩
  refine ⟨_, h.ldA, ?_⟩
  refine ⟨_, h.ldA, ?_⟩
  exact hR _ h.tail.tail
 | none =>
  rw [hs] at ht
  obtain ⟨rfl, rfl⟩ := ht
  intro w h
  refine ⟨_, rfl, br_false rfl ⟨_, fun w => ptrNil_eq und_PiB _ w, br_false rfl ?_⟩⟩
  refine ⟨_, h.ldA, ?_⟩
  refine ⟨_, h.ldA, ?_⟩
  refine ⟨_, h.ldA, ?_⟩
  refine ⟨_, h.ldA, ?_⟩
  refine ⟨_, h.ldA, ?_⟩
  refine h.stA 1 fun w h => ?_
  refine h.stA 1 fun w h => ?_
  refine h.stA 1 fun w h => ?_
  refine h.stA 1 fun w h => ?_
  refine h.stA 1 fun w h => ?_
  have h : Sat σ w (l2.at b1 :: l2.at b3 :: L) := h
  have h : Sat σ w (l2.at b3 :: l2.at b1 :: L) := h.re
  refine ⟨_, h.ldA, ?_⟩
  refine ⟨_, h.ldA, ?_⟩
  refine ⟨_, h.ldA, ?_⟩
  refine ⟨_, h.ldA, ?_⟩
  refine ⟨_, h.ldA, ?_⟩
  exact hR _ h.tail.tail
end Go.Proofs.YtgbgadkldalkbaaGreatDoor


set_option linter.unusedVariables false
namespace Go.Proofs.YtgbgadkldalkbaaGreatDoor
open Go.Proofs Go.IntWalk Go.RowKit
variable {σ : Out} {w : World} {L L' : List Chunk} {R : Ending → World → Prop}
def OB.setE (o : OB) (m : Nat) : OB := { o with e := m }
theorem at_split {α : Type} {l : List α} {j : Nat} {o : α} (ho : l[j]? = some o) : ∃ a c, l = a ++ o :: c ∧ a.length = j := by
 obtain ⟨hj, he⟩ := List.getElem?_eq_some_iff.1 ho
 refine ⟨l.take j, l.drop (j + 1), ?_, by simp; omega⟩
 rw [← he, ← List.drop_eq_getElem_cons hj, List.take_append_drop]
theorem stk_setE {ob : List OB} {sp : List Value} {j m : Nat} {o : OB} (ho : ob[j]? = some o) : (obCells ob ++ sp).set (j * 4 + 3) (.int .i64 (m : Nat)) = obCells (ob.set j (o.setE m)) ++ sp := by
 obtain ⟨a, c, rfl, rfl⟩ := at_split ho
 have e1 : ∀ x y : List OB, obCells (x ++ y) = obCells x ++ obCells y := by intro x y; simp [obCells]
 have e2 : ∀ x : OB, ∀ y : List OB, obCells (x :: y) = x.cells ++ obCells y := by intro x y; simp [obCells]
 rw [List.set_append_right _ _ (Nat.le_refl _), Nat.sub_self, List.set_cons_zero, e1, e1, e2, e2, List.append_assoc, List.set_append_right _ _ (by rw [obCells_length]; omega), obCells_length, show a.length * 4 + 3 - a.length * 4 = 3 by omega,
  List.append_assoc, List.append_assoc, List.append_assoc]
 congr 1
theorem Stk.setE {p : PS} {ob : List OB} {sb : Nat} {sp : List Value} {j m : Nat} {o : OB} (hq : p.stq = some ⟨sb, 0, none⟩) (hn : p.stn = ob.length) (hl : ob.length < 1048576) (hsp : (obCells ob ++ sp).length = p.stc * 4) (ho : ob[j]? = some o) :
 Stk p (ob.set j (o.setE m)) [(sb, cel (obCells (ob.set j (o.setE m)) ++ sp) ty_openBlock)] := by
 refine Stk.mk' hq ?_ (by rw [List.length_set]; exact hn) (by rw [List.length_set]; exact hl)
 rw [← hsp, List.length_append, List.length_append, obCells_length, obCells_length, List.length_set]
theorem ext_stepE {X : OA → Nat → WP} (hX : ∀ x0 x3 w, g_parseState_addLine.bl1 R X x0 x3 w → X x0 x3 w) {b b1 j : Nat} {p : PS} {ob : List OB} {o : OB} {M : List Chunk} {l l2 : Ln} (h : Sat σ w (l.at b1 :: (p.at b :: M ++ L))) (hs : Stk p ob M) (hd : p.depth = j) (hj : j < 1000000) (ho : ob[j + 1]? = some o) (hl : l.ok) (hb : l.blank = false)
 (hE : ∀ (R' : Ending → World → Prop) b0 w, Sat σ w (l.at b0 :: l.at b1 :: (p.at b :: M ++ L)) → (∀ w, Sat σ w (l.at b0 :: l.at b1 :: (p.at b :: M ++ L)) → R' (.returned (.tuple #[l2.val, .bool true])) w) → enterE P (callMethod o.bd "pub-paratext/pub/rscmarkdown.extend" #[.pointer (some ⟨b, 0, none⟩), l.val]) R' w)
 (hgo : ∀ w M', Stk ({ p with depth := (j : Int) + 1 } : PS) (ob.set (j + 1) (o.setE p.lineno)) M' → Sat σ w (l2.at b1 :: (({ p with depth := (j : Int) + 1 } : PS).at b :: M' ++ L)) → X (some ⟨b, 0, none⟩) b1 w) : X (some ⟨b, 0, none⟩) b1 w := by
 have hjl := (List.getElem?_eq_some_iff.1 ho).1
 have hlt := hs.2.2
 have hn := hs.2.1
 have hs0 := hs
 obtain ⟨sb, sp, hq, hM, hsp⟩ := hs.split (by intro he; rw [he] at hjl; simp at hjl)
 refine hX _ _ _ ?_
 have h : Sat σ w (l.at b1 :: p.at b :: (M ++ L)) := h
 refine Sat.tk h fun w h => nilP_some (nilP_some ?_)
 refine ⟨_, Sat.ld h (.tail _ (.head _)) (i := 5) rfl, _, _, _, Sat.ld h (.tail _ (.head _)) (i := 4) rfl, ?_⟩
 rw [hd, i64_in _ (by omega), hn]
 refine br_true (by simp; omega) ?_
 refine ⟨_, h.ldA, ?_⟩
 refine ⟨_, h.ldA, ?_⟩
 refine ⟨_, h.ldA, ?_⟩
 refine ⟨_, h.ldA, ?_⟩
 refine ⟨_, h.ldA, ?_⟩
 refine Sat.bx h fun b0 w h => ?_
 refine h.stA 0 fun w h => ?_
 refine h.stA 0 fun w h => ?_
 refine h.stA 0 fun w h => ?_
 refine h.stA 0 fun w h => ?_
 refine h.stA 0 fun w h => ?_
 have h : Sat σ w (l.at b0 :: l.at b1 :: p.at b :: (M ++ L)) := h
 refine Sat.tk h fun w h => nilP_some (nilP_some ?_)
 refine ⟨_, _, _, Sat.ld h (.tail _ (.tail _ (.head _))) (i := 4) rfl, _, Sat.ld h (.tail _ (.tail _ (.head _))) (i := 5) rfl, ?_⟩
 rw [hd, i64_in _ (by omega), hn, hq]
 refine ⟨by omega, by omega, nilP_some ?_⟩
 have hjt : ((j : Int) + 1).toNat = j + 1 := by omega
 rw [hjt]
 simp only [Addr.add_lit, Nat.zero_add]
 have hmem : (sb, cel (obCells ob ++ sp) ty_openBlock) ∈ (l.at b0 :: l.at b1 :: p.at b :: (M ++ L)) := by rw [hM]; simp
 refine ⟨o.bd, Sat.ld h hmem (stk_get (j := j + 1) (f := 0) (by decide) ho), ?_⟩
 have hmb : l.at b1 ∈ (l.at b0 :: l.at b1 :: p.at b :: (M ++ L)) := .tail _ (.head _)
 refine ⟨_, Sat.ld h hmb (i := 0) rfl, _, Sat.ld h hmb (i := 1) rfl, _, Sat.ld h hmb (i := 2) rfl, _, Sat.ld h hmb (i := 3) rfl, _, Sat.ld h hmb (i := 4) rfl, ?_⟩
 refine hE _ b0 w h fun w h => ⟨_, _, _, _, _, _, rfl, ?_⟩
 have h : Sat σ w (l.at b0 :: l.at b1 :: (p.at b :: M ++ L)) := h
 refine h.stA 1 fun w h => ?_
 refine h.stA 1 fun w h => ?_
 refine h.stA 1 fun w h => ?_
 refine h.stA 1 fun w h => ?_
 refine h.stA 1 fun w h => ?_
 have h : Sat σ w (l.at b0 :: l2.at b1 :: (p.at b :: M ++ L)) := h
 refine isBlank_ok h (.head _) hl fun w h => ⟨_, rfl, ?_⟩
 rw [hb]
 refine br_true rfl (br_true rfl ?_)
 unfold g_parseState_addLine.k1
 have h : Sat σ w (l.at b0 :: l2.at b1 :: p.at b :: (M ++ L)) := h
 refine br_true rfl (h.tk fun w h => nilP_some (nilP_some (nilP_some ?_)))
 have hmp : p.at b ∈ (l.at b0 :: l2.at b1 :: p.at b :: (M ++ L)) := .tail _ (.tail _ (.head _))
 refine ⟨_, _, _, Sat.ld h hmp (i := 4) rfl, _, Sat.ld h hmp (i := 5) rfl, _, Sat.ld h hmp (i := 3) rfl, ?_⟩
 rw [hd, i64_in _ (by omega), hn, hq]
 refine ⟨by omega, by omega, nilP_some ?_⟩
 rw [hjt]
 simp only [Addr.add_lit, Nat.zero_add, Nat.add_zero]
 have h : Sat σ w ((sb, cel (obCells ob ++ sp) ty_openBlock) :: l.at b0 :: l2.at b1 :: p.at b :: L) := by
  rw [hM] at h
  exact h.re
 refine Sat.st h (k := 0) rfl (by rw [List.length_append, obCells_length]; omega) trivial rfl fun w h => ?_
 rw [stk_setE ho] at h
 have h : Sat σ w ((sb, cel (obCells (ob.set (j + 1) (o.setE p.lineno)) ++ sp) ty_openBlock) :: l.at b0 :: l2.at b1 :: p.at b :: L) := h
 refine br_false rfl (nilP_some ?_)
 have hmp : p.at b ∈ ((sb, cel (obCells (ob.set (j + 1) (o.setE p.lineno)) ++ sp) ty_openBlock) :: l.at b0 :: l2.at b1 :: p.at b :: L) := .tail _ (.tail _ (.tail _ (.head _)))
 refine ⟨_, Sat.ld h hmp (i := 5) rfl, nilP_some ?_⟩
 rw [hd, i64_in _ (by omega)]
 refine Sat.st h (k := 3) rfl (by simp [PS.cells]) trivial rfl fun w h => ?_
 have h : Sat σ w ((sb, cel (obCells (ob.set (j + 1) (o.setE p.lineno)) ++ sp) ty_openBlock) :: l.at b0 :: l2.at b1 :: ({ p with depth := (j : Int) + 1 } : PS).at b :: L) := h
 refine hgo w [(sb, cel (obCells (ob.set (j + 1) (o.setE p.lineno)) ++ sp) ty_openBlock)] (Stk.setE hq hn hlt hsp ho) ?_
 exact h.less [l.at b0]
theorem newPara_contG {b pb qb d : Nat} {op : Opt} {p : PS} {fs : List OB} {o : OB} {M PM : List Chunk} {ls : List (List UInt8)} {l : Ln} (h : Sat σ w (p.at b :: M ++ (PM ++ L))) (hs : Stk p (fs ++ [o]) M) (hbd : o.bd = .iface ty_P_paraBuilder (.pointer (some ⟨qb, 0, none⟩))) (hd : p.depth = d) (hdl : d ≤ fs.length) (hpz : p.pz = some ⟨pb, 0, none⟩) (hop : op.at pb ∈ L) (hno : op.table = false)
 (hp : ParaAt qb ls PM) (hls : ls.length < 1048570) (hl : l.ok)
 (hR : ∀ w M' PM', Stk p ((fs ++ [o]).take d ++ ((fs ++ [o]).drop d).map (·.setE p.lineno)) M' → ParaAt qb (ls ++ [l.rest]) PM' → Sat σ w (p.at b :: M' ++ (PM' ++ L)) → R (.returned (.tuple #[Ln.zero.val, .bool true])) w) :
 callE P i_newPara #[.pointer (some ⟨b, 0, none⟩), l.val] R w := by
 have hn : p.stn = fs.length + 1 := by rw [hs.2.1]; simp
 have hlt := hs.2.2
 rw [List.length_append, List.length_singleton] at hlt
 obtain ⟨sb, sp, hq, rfl, hsp⟩ := hs.split (by simp)
 have hp0 := hp
 obtain ⟨q, c, TM, hS, rfl⟩ := hp
 refine g_newPara.sound ?_
 refine Sat.bx h fun b1 w h => ?_
 refine Sat.bx h fun b3 w h => ?_
 have h : Sat σ w (zLn b3 :: l.at b1 :: (p.at b :: [(sb, cel (obCells (fs ++ [o]) ++ sp) ty_openBlock)] ++ (((qb, cel [.slice q ls.length c, .pointer none] ty_paraBuilder) :: TM) ++ L))) := h
 have h : Sat σ w (p.at b :: [(sb, cel (obCells (fs ++ [o]) ++ sp) ty_openBlock)] ++ (zLn b3 :: l.at b1 :: (((qb, cel [.slice q ls.length c, .pointer none] ty_paraBuilder) :: TM) ++ L))) := h.re
 refine top_ok (l := fs) h hs (o := o) hbd (fun w h => ?_) (fun _ => ⟨_, rfl⟩)
 rw [if_pos rfl]
 refine ⟨_, rfl, ?_⟩
 repeat (first | refine nilP_some ?_ | refine h.tk fun w h => ?_ | refine ⟨_, h.ldA, ?_⟩ | refine ⟨_, _, _, h.ldA, ?_⟩)
 have hm : l.at b1 ∈ p.at b :: [(sb, cel (obCells (fs ++ [o]) ++ sp) ty_openBlock)] ++ (zLn b3 :: l.at b1 :: (((qb, cel [.slice q ls.length c, .pointer none] ty_paraBuilder) :: TM) ++ L)) := by simp
 refine trimSpaceString_ok h hm hl fun w h => ⟨_, rfl, ?_⟩
 rw [show (l.text.drop l.i).dropWhile isST = l.rest from rfl]
 refine ⟨_, w, ne_ptr_nil und_para _ _ _ w, br_true rfl (nilP_some ?_)⟩
 simp only [Addr.add_lit, Nat.zero_add]
 have hmq : (qb, cel [.slice q ls.length c, .pointer none] ty_paraBuilder) ∈ p.at b :: [(sb, cel (obCells (fs ++ [o]) ++ sp) ty_openBlock)] ++ (zLn b3 :: l.at b1 :: (((qb, cel [.slice q ls.length c, .pointer none] ty_paraBuilder) :: TM) ++ L)) := by simp
 refine ⟨_, Sat.ld h hmq rfl, _, w, ne_ptr_nil und_table _ _ _ w, br_false rfl ?_⟩
 unfold g_newPara.k3
 refine Sat.tk h fun w h => ?_
 refine nilP_some ⟨_, Sat.ld h (.head _) rfl, ?_⟩
 rw [hpz]
 refine nilP_some ?_
 simp only [Addr.add_lit, Nat.zero_add]
 have hmo : op.at pb ∈ p.at b :: [(sb, cel (obCells (fs ++ [o]) ++ sp) ty_openBlock)] ++ (zLn b3 :: l.at b1 :: (((qb, cel [.slice q ls.length c, .pointer none] ty_paraBuilder) :: TM) ++ L)) := by simp [hop]
 refine ⟨op.table, Sat.ld h hmo rfl, br_false hno ?_⟩
 unfold g_newPara.k4
 refine br_false rfl ⟨_, w, ne_ptr_nil und_para _ _ _ w, br_true rfl (nilP_some ?_)⟩
 simp only [Addr.add_lit, Nat.zero_add]
 refine ⟨_, Sat.ld h (.head _) (i := 5) rfl, ?_⟩
 rw [hd]
 intro X hX
 have key : ∀ (k i : Nat) w, i + k = fs.length + 1 → d ≤ i → Sat σ w ((sb, cel (obCells ((fs ++ [o]).take d ++ (((fs ++ [o]).drop d).take (i - d)).map (·.setE p.lineno) ++ (fs ++ [o]).drop i) ++ sp) ty_openBlock) :: p.at b :: (zLn b3 :: l.at b1 :: (((qb, cel [.slice q ls.length c, .pointer none] ty_paraBuilder) :: TM) ++ L))) →
  X (some ⟨b, 0, none⟩) b3 (some ⟨qb, 0, none⟩) (bs l.rest) (i : Nat) w := by
  intro k
  induction k with
  | zero =>
   intro i w hi hdi h
   refine hX _ _ _ _ _ _ (nilP_some ?_)
   refine ⟨_, _, _, Sat.ld h (.tail _ (.head _)) (i := 4) rfl, ?_⟩
   rw [hn]
   refine br_false (by simp; omega) ?_
   have e0 : (fs ++ [o]).drop i = [] := List.drop_eq_nil_of_le (by simp; omega)
   have e1 : ((fs ++ [o]).drop d).take (i - d) = (fs ++ [o]).drop d := List.take_of_length_le (by simp; omega)
   rw [e0, e1, List.append_nil] at h
   have h : Sat σ w (zLn b3 :: ((qb, cel [.slice q ls.length c, .pointer none] ty_paraBuilder) :: TM) ++ (p.at b :: (sb, cel (obCells ((fs ++ [o]).take d ++ ((fs ++ [o]).drop d).map (·.setE p.lineno)) ++ sp) ty_openBlock) :: (l.at b1 :: L))) := h.re
   refine para_append h hp0 (by omega) fun w PM' hp' h => ?_
   have hln : ((fs ++ [o]).take d ++ ((fs ++ [o]).drop d).map (·.setE p.lineno)).length = fs.length + 1 := by
    rw [List.length_append, List.length_map, ← List.length_append, List.take_append_drop]; simp
   refine hR w [(sb, cel (obCells ((fs ++ [o]).take d ++ ((fs ++ [o]).drop d).map (·.setE p.lineno)) ++ sp) ty_openBlock)] PM' (Stk.mk' hq ?_ (by rw [hn, hln]) (by rw [hln]; omega)) hp' (h.less [l.at b1])
   rw [← hsp, List.length_append, List.length_append, obCells_length, obCells_length, hln]; simp
  | succ k ih =>
   intro i w hi hdi h
   have hil : i < (fs ++ [o]).length := by simp; omega
   have e0 := List.drop_eq_getElem_cons hil
   have hpre : ((fs ++ [o]).take d ++ (((fs ++ [o]).drop d).take (i - d)).map (·.setE p.lineno)).length = i := by
    simp only [List.length_append, List.length_map, List.length_take, List.length_drop] at hil ⊢
    omega
   refine hX _ _ _ _ _ _ (nilP_some ?_)
   refine ⟨_, _, _, Sat.ld h (.tail _ (.head _)) (i := 4) rfl, ?_⟩
   rw [hn]
   refine br_true (by simp; omega) (h.tk fun w h => nilP_some (nilP_some ?_))
   refine ⟨_, _, _, Sat.ld h (.tail _ (.head _)) (i := 4) rfl, _, Sat.ld h (.tail _ (.head _)) (i := 3) rfl, ?_⟩
   rw [hn, hq]
   refine ⟨by omega, by omega, nilP_some ?_⟩
   simp only [Addr.add_lit, Nat.zero_add, Nat.add_zero, Int.toNat_natCast]
   have hget : ((fs ++ [o]).take d ++ (((fs ++ [o]).drop d).take (i - d)).map (·.setE p.lineno) ++ (fs ++ [o]).drop i)[i]? = some (fs ++ [o])[i] := by
    rw [List.getElem?_append_right (by omega), hpre, Nat.sub_self, e0]; rfl
   refine Sat.st h (k := 0) rfl (by rw [List.length_append, obCells_length, List.length_append, hpre, e0, List.length_cons]; omega) trivial rfl fun w h => ?_
   rw [stk_setE hget] at h
   have eset : ((fs ++ [o]).take d ++ (((fs ++ [o]).drop d).take (i - d)).map (·.setE p.lineno) ++ (fs ++ [o]).drop i).set i ((fs ++ [o])[i].setE p.lineno) = (fs ++ [o]).take d ++ (((fs ++ [o]).drop d).take (i + 1 - d)).map (·.setE p.lineno) ++ (fs ++ [o]).drop (i + 1) := by
    rw [List.set_append_right _ _ (by omega), hpre, Nat.sub_self, e0, List.set_cons_zero]
    have hid : i - d < ((fs ++ [o]).drop d).length := by rw [List.length_drop]; omega
    have e2 : ((fs ++ [o]).drop d).take (i + 1 - d) = ((fs ++ [o]).drop d).take (i - d) ++ [(fs ++ [o])[i]] := by
     rw [show i + 1 - d = i - d + 1 by omega, List.take_succ_eq_append_getElem hid]
     congr 2
     rw [List.getElem_drop]
     congr 1
     omega
    rw [e2, List.map_append]
    simp
   rw [eset] at h
   rw [i64_inc (by omega)]
   exact ih (i + 1) w (by omega) (by omega) h
 have e3 : (fs ++ [o]).take d ++ (((fs ++ [o]).drop d).take (d - d)).map (·.setE p.lineno) ++ (fs ++ [o]).drop d = fs ++ [o] := by rw [Nat.sub_self]; simp
 refine key (fs.length + 1 - d) d w (by omega) (Nat.le_refl _) ?_
 rw [e3]
 exact h.re
end Go.Proofs.YtgbgadkldalkbaaGreatDoor


set_option linter.unusedVariables false
namespace Go.Proofs.YtgbgadkldalkbaaGreatDoor
open Go.Proofs Go.IntWalk Go.RowKit
variable {σ : Out} {w : World} {L L' : List Chunk} {R : Ending → World → Prop}
inductive FF : List Bool → List Bk → Prop where
 | nil : FF [] []
 | quote {rs : List Bool} {fs : List Bk} {f : Bk} : FF rs fs → f.isQuote → f.D = [] → FF (false :: rs) (fs ++ [f])
 | list {rs : List Bool} {fs : List Bk} {f g : Bk} {lb : Nat} {it : Option Addr} : FF rs fs → f.isList lb 45 0 it → f.D = [] → g.isItem lb 2 true → g.D = [] → FF (true :: rs) (fs ++ [f, g])
theorem FF.D {rs : List Bool} {fs : List Bk} (h : FF rs fs) : ∀ f ∈ fs, f.D = [] := by
 induction h with
 | nil => simp
 | quote _ _ h1 ih =>
  intro g hg
  rcases List.mem_append.1 hg with hg | hg
  ·exact ih g hg
  ·obtain rfl := List.mem_singleton.1 hg; exact h1
 | list _ _ h1 _ h2 ih =>
  intro g hg
  rcases List.mem_append.1 hg with hg | hg
  ·exact ih g hg
  ·rcases List.mem_cons.1 hg with rfl | hg
   ·exact h1
   ·obtain rfl := List.mem_singleton.1 hg; exact h2
theorem FF.len {rs : List Bool} {fs : List Bk} (h : FF rs fs) : fs.length ≤ 2 * rs.length := by
 induction h with
 | nil => simp
 | quote _ _ _ ih => simp; omega
 | list _ _ _ _ _ ih => simp; omega
theorem FF.top {rs : List Bool} {fs : List Bk} {root : Bk} (h : FF rs fs) (hr : root.isRoot) : ∃ gs top ty v, root :: fs = gs ++ [top] ∧ top.ob.bd = .iface ty v ∧ ty ≠ ty_P_paraBuilder ∧ ty ≠ ty_P_listBuilder := by
 cases h with
 | nil =>
  obtain ⟨rb, hb, _⟩ := hr
  exact ⟨[], root, _, _, rfl, hb, by decide, by decide⟩
 | @quote rs fs f _ hq _ =>
  obtain ⟨qb, hb, _⟩ := hq
  exact ⟨root :: fs, f, _, _, rfl, hb, by decide, by decide⟩
 | @list rs fs f g lb it _ hl _ hg _ =>
  obtain ⟨ib, hb, _⟩ := hg
  exact ⟨root :: (fs ++ [f]), g, _, _, by simp, hb, by decide, by decide⟩
def mark1 (x : Bool) : List UInt8 := if x then [45, 32] else [62, 32]
def marks (s : List Bool) : List UInt8 := s.flatMap mark1
end Go.Proofs.YtgbgadkldalkbaaGreatDoor


set_option linter.unusedVariables false
namespace Go.Proofs.YtgbgadkldalkbaaGreatDoor
open Go.Proofs Go.IntWalk Go.RowKit
variable {σ : Out} {w : World} {L L' : List Chunk} {R : Ending → World → Prop}
theorem newSetext_paraG {b d qb : Nat} {p : PS} {fs : List OB} {o : OB} {M : List Chunk} {l : Ln} (h : Sat σ w (p.at b :: M ++ L)) (hs : Stk p (fs ++ [o]) M) (ho : o.bd = .iface ty_P_paraBuilder (.pointer (some ⟨qb, 0, none⟩))) (hd : p.depth = d) (hdl : d + 1 = fs.length) (hl : l.cont)
 (hR : ∀ w, Sat σ w (p.at b :: M ++ L) → R (.returned (.tuple #[l.val, .bool false])) w) : callE P i_newSetextHeading #[.pointer (some ⟨b, 0, none⟩), l.val] R w := by
 have hlt := hs.2.2
 rw [List.length_append, List.length_singleton] at hlt
 refine g_newSetextHeading.sound ?_
 refine Sat.bx h fun b1 w h => ?_
 refine Sat.bx h fun b3 w h => ?_
 refine Sat.bx h fun b5 w h => ?_
 repeat (first | refine nilP_some ?_ | refine h.tk fun w h => ?_ | refine ⟨_, h.ldA, ?_⟩ | refine ⟨_, _, _, h.ldA, ?_⟩ | refine h.stA 0 fun w h => ?_ | refine h.stA 1 fun w h => ?_ | refine h.stA 2 fun w h => ?_ | refine h.stA 3 fun w h => ?_ | refine h.stA 4 fun w h => ?_ | refine h.stA 5 fun w h => ?_ | refine h.stA 6 fun w h => ?_ | refine h.bx fun b0 w h => ?_)
 have h : Sat σ _ (l.at b0 :: (b5, cel [.int .i64 0] ty_int) :: zLn b3 :: l.at b1 :: (p.at b :: M ++ L)) := h
 have h : Sat σ _ (p.at b :: M ++ (l.at b0 :: (b5, cel [.int .i64 0] ty_int) :: zLn b3 :: l.at b1 :: L)) := h.re
 refine nextB_ok (d := d) h hs hd (by omega) fun w h => ?_
 have hget : (fs ++ [o])[d + 1]? = some o := by rw [hdl]; simp
 rw [hget]
 dsimp only
 rw [ho]
 refine ⟨_, rfl, ?_⟩
 refine top_ok (l := fs) h hs (o := o) ho (fun w h => ?_) (fun _ => ⟨_, rfl⟩)
 rw [if_pos rfl]
 refine ⟨_, rfl, _, w, eq_para_same qb _ _ w, br_true rfl ?_⟩
 have h : Sat σ _ (l.at b0 :: (b5, cel [.int .i64 0] ty_int) :: (zLn b3 :: l.at b1 :: (p.at b :: M ++ L))) := h.re
 refine trimSetext_no h hl.plain.ok hl.dash hl.eq fun w h => ⟨_, rfl, br_false rfl ?_⟩
 have h : Sat σ _ (zLn b3 :: l.at b1 :: (b5, cel [.int .i64 0] ty_int) :: l.at b0 :: (p.at b :: M ++ L)) := h.re
 repeat (first | refine nilP_some ?_ | refine h.tk fun w h => ?_ | refine ⟨_, h.ldA, ?_⟩ | refine ⟨_, _, _, h.ldA, ?_⟩ | refine h.stA 0 fun w h => ?_ | refine h.stA 1 fun w h => ?_ | refine h.stA 2 fun w h => ?_ | refine h.stA 3 fun w h => ?_ | refine h.stA 4 fun w h => ?_ | refine h.stA 5 fun w h => ?_ | refine h.stA 6 fun w h => ?_ | refine h.bx fun b0 w h => ?_)
 have h : Sat σ _ (l.at b3 :: l.at b1 :: (b5, cel [.int .i64 0] ty_int) :: l.at b0 :: (p.at b :: M ++ L)) := h
 exact hR _ h.tail.tail.tail.tail
theorem decl_contG {b d qb : Nat} {p : PS} {fs : List OB} {o od : OB} {M : List Chunk} {l : Ln} {td : TypeId} {vd : Value} (hs : Stk p (fs ++ [o]) M) (ho : o.bd = .iface ty_P_paraBuilder (.pointer (some ⟨qb, 0, none⟩))) (hd : p.depth = d) (hdb : d < 1000000) (hdl : d < fs.length) (hod : fs[d]? = some od) (hbd : od.bd = .iface td vd) (htd : td ≠ ty_P_listBuilder)
 (hnx : ∀ o1, fs[d + 1]? = some o1 → ∃ t v, o1.bd = .iface t v ∧ t ≠ ty_P_paraBuilder) (hl : l.cont) : ∀ f ∈ newsF, Decl b p M l f := by
 have hlt := hs.2.2
 rw [List.length_append, List.length_singleton] at hlt
 intro f hf
 have hp := hl.plain
 simp only [newsF, List.mem_cons, List.not_mem_nil, or_false] at hf
 intro σ w L R h hR
 rcases hf with rfl | rfl | rfl | rfl | rfl | rfl | rfl | rfl
 ·exact newQuote_no (x := .nilIface) h hp.ok hp.quote hR
 ·exact newATX_no h hp.ok hp.heading hR
 ·by_cases he : d + 1 = fs.length
  ·exact newSetext_paraG h hs ho hd he hl hR
  ·have hl1 : d + 1 < fs.length := by omega
   obtain ⟨t, v, h1, h2⟩ := hnx _ (List.getElem?_eq_getElem hl1)
   exact newSetext_ne (ob := fs) (o := o) (o1 := fs[d + 1]) (t1 := t) (v1 := v) h hs hd (by omega) (by rw [List.getElem?_append_left hl1]; exact List.getElem?_eq_getElem hl1) h1 h2 ho (fun _ => ⟨_, rfl⟩) hp.ok hR
 ·exact newHR_no h hp.ok hp.hr hR
 ·exact hp.bullet b d p (fs ++ [o]) od M td vd hs hd (by rw [List.getElem?_append_left hdl]; exact hod) hbd htd σ w L R h hR
 ·exact newHTML_no h hp.ok hl.lt hR
 ·exact newFence_no h hp.ok hp.fence hR
 ·exact newPre_no (ob := fs) h hs (o := o) ho (fun _ => ⟨_, rfl⟩) hp.ok hp.pre hR
def Bk.sim (f f' : Bk) : Prop := (∃ m, f'.ob = f.ob.setE m) ∧ f'.own = f.own ∧ f'.D = f.D ∧ f'.IM = f.IM ∧ f'.ob.e < 1000000000
inductive Sims : List Bk → List Bk → Prop where
 | nil : Sims [] []
 | cons {f f' : Bk} {fs fs' : List Bk} : f.sim f' → Sims fs fs' → Sims (f :: fs) (f' :: fs')
theorem Bk.sim.rfl' {f : Bk} (h : f.ob.e < 1000000000) : f.sim f := ⟨⟨f.ob.e, rfl⟩, rfl, rfl, rfl, h⟩
theorem Bk.sim.root {f f' : Bk} (h : f.sim f') (hr : f.isRoot) : f'.isRoot := by
 obtain ⟨⟨m, a1⟩, a2, _⟩ := h
 obtain ⟨rb, h1, h2⟩ := hr
 exact ⟨rb, by rw [a1]; exact h1, a2.trans h2⟩
theorem Sims.refl : ∀ {fs : List Bk}, (∀ f ∈ fs, f.ob.e < 1000000000) → Sims fs fs
 | [], _ => .nil
 | f :: fs, h => .cons (Bk.sim.rfl' (h f (by simp))) (Sims.refl fun g hg => h g (by simp [hg]))
theorem Sims.len {fs gs : List Bk} (h : Sims fs gs) : gs.length = fs.length := by
 induction h with
 | nil => rfl
 | cons _ _ ih => simp [ih]
theorem Sims.append {fs gs fs2 gs2 : List Bk} (h : Sims fs gs) (h2 : Sims fs2 gs2) : Sims (fs ++ fs2) (gs ++ gs2) := by
 induction h with
 | nil => exact h2
 | cons a _ ih => exact .cons a ih
theorem Sims.mem {fs gs : List Bk} (h : Sims fs gs) : memFs gs = memFs fs ∧ txF gs = txF fs := by
 induction h with
 | nil => exact ⟨rfl, rfl⟩
 | @cons f f' fs fs' a _ ih =>
  obtain ⟨_, a2, a3, a4, _⟩ := a
  refine ⟨?_, ?_⟩
  ·have e : ∀ (g : Bk) (l : List Bk), memFs (g :: l) = g.mem ++ memFs l := fun g l => by simp [memFs]
   rw [e, e, ih.1, Bk.mem, Bk.mem, a2, a3, a4]
  ·have e : ∀ (g : Bk) (l : List Bk), txF (g :: l) = txsC g.D ++ txF l := fun g l => by simp [txF]
   rw [e, e, ih.2, a3]
theorem Bk.sim.ok {f f' : Bk} (h : f.sim f') (ho : f.ok) : f'.ok := by
 obtain ⟨⟨m, a1⟩, a2, a3, a4, a5⟩ := h
 obtain ⟨o1, o2, o3, o4⟩ := ho
 refine ⟨?_, by rw [a3]; exact o2, by rw [a1]; exact o3, a5⟩
 rw [a1, a3, a4]; exact o1
theorem Sims.ok {fs gs : List Bk} (h : Sims fs gs) (ho : ∀ f ∈ fs, f.ok) : ∀ f ∈ gs, f.ok := by
 induction h with
 | nil => simp
 | cons a _ ih =>
  intro g hg
  rcases List.mem_cons.1 hg with rfl | hg
  ·exact a.ok (ho _ (by simp))
  ·exact ih (fun f hf => ho f (by simp [hf])) g hg
theorem Bk.sim.quote {f f' : Bk} (h : f.sim f') (hq : f.isQuote) : f'.isQuote := by
 obtain ⟨⟨m, a1⟩, a2, _⟩ := h
 obtain ⟨qb, h1, h2⟩ := hq
 exact ⟨qb, by rw [a1]; exact h1, a2.trans h2⟩
theorem Bk.sim.list {f f' : Bk} {lb : Nat} {bul num : Int} {it : OA} {td : Value} (h : f.sim f') (hq : f.isListT lb bul num it td) : f'.isListT lb bul num it td := by
 obtain ⟨⟨m, a1⟩, a2, _⟩ := h
 obtain ⟨h1, h2⟩ := hq
 exact ⟨by rw [a1]; exact h1, a2.trans h2⟩
theorem Bk.sim.itemOf {f f' : Bk} {lb wd : Nat} {it : OA} {hv : Bool} (h : f.sim f') (hq : ItemOf it f lb wd hv) : ItemOf it f' lb wd hv := by
 obtain ⟨⟨m, a1⟩, a2, _⟩ := h
 obtain ⟨ib, h1, h2, h3⟩ := hq
 exact ⟨ib, h1, by rw [a1]; exact h2, a2.trans h3⟩
theorem contG {b b1 d pb : Nat} {op : Opt} {Xb : OA → Nat → WP} {fs : List Bk} {fd : Bk} {td : TypeId} {vd : Value} {p : PS} {ls : List (List UInt8)} {l : Ln} (h : DocC σ b (l.at b1 :: L) fs (.para ls) p w) (hd : p.depth = d) (hdb : d < 1000000) (hfd : fs[d]? = some fd) (hbd : fd.ob.bd = .iface td vd) (htd : td ≠ ty_P_listBuilder)
 (hnx : ∀ f1, fs[d + 1]? = some f1 → ∃ t v, f1.ob.bd = .iface t v ∧ t ≠ ty_P_paraBuilder) (hl : l.cont) (hls : ls.length < 1048569) (hpz : p.pz = some ⟨pb, 0, none⟩) (hop : op.at pb ∈ L) (hno : op.table = false) (hln : p.lineno < 1000000000)
 (hR : ∀ w fs', Sims fs fs' → DocC σ b L fs' (.para (ls ++ [l.rest])) p w → R (.returned (.tuple #[])) w) : g_parseState_addLine.bl102 R Xb (some ⟨b, 0, none⟩) b1 w := by
 obtain ⟨M, TM, lobs, LM, hs, ht, hok, ⟨qb, s, e, rfl, hp, hs1, hne, hll⟩, h⟩ := h
 have hdl := (List.getElem?_eq_some_iff.1 hfd).1
 have h : Sat σ w (p.at b :: M ++ (l.at b1 :: (TM ++ (memFs fs ++ (LM ++ L))))) := h.re
 refine bl102_decl h (decl_contG (fs := fs.map Bk.ob) hs rfl hd hdb (by simpa using hdl) (by rw [List.getElem?_map, hfd]; rfl) hbd htd (fun o1 ho1 => ?_) hl) fun w nb et R' h hR' => ?_
 ·rw [List.getElem?_map] at ho1
  cases hf1 : fs[d + 1]? with
  | none => rw [hf1] at ho1; cases ho1
  | some f1 =>
   rw [hf1] at ho1
   obtain rfl := Option.some.inj ho1
   exact hnx f1 hf1
 have h : Sat σ w (p.at b :: M ++ (LM ++ (l.at b1 :: (nb, cel newsC et) :: (TM ++ (memFs fs ++ L))))) := h.re
 have hm : op.at pb ∈ l.at b1 :: (nb, cel newsC et) :: (TM ++ (memFs fs ++ L)) := by simp [hop]
 refine newPara_contG (d := d) h hs rfl hd (by simp; omega) hpz hm hno hp (by omega) hl.plain.ok fun w M' PM' hs' hp' h => hR' w true ?_
 let fs' := fs.take d ++ (fs.drop d).map fun f => ({ f with ob := f.ob.setE p.lineno } : Bk)
 have hsim : Sims fs fs' := by
  have e1 : Sims (fs.take d ++ fs.drop d) fs' := by
   refine Sims.append (Sims.refl fun f hf => (hok f (List.mem_of_mem_take hf)).2.2.2) ?_
   have : ∀ gs : List Bk, Sims gs (gs.map fun f => ({ f with ob := f.ob.setE p.lineno } : Bk)) := by
    intro gs
    induction gs with
    | nil => exact .nil
    | cons g gs ih => exact .cons ⟨⟨_, rfl⟩, rfl, rfl, rfl, hln⟩ ih
   exact this _
  rwa [List.take_append_drop] at e1
 have eob : (fs.map Bk.ob ++ [paraOB qb s e]).take d ++ ((fs.map Bk.ob ++ [paraOB qb s e]).drop d).map (·.setE p.lineno) = fs'.map Bk.ob ++ [paraOB qb s p.lineno] := by
  rw [List.take_append_of_le_length (by simp; omega), List.drop_append_of_le_length (by simp; omega), List.map_append, ← List.map_take, ← List.map_drop, List.map_append, List.append_assoc]
  congr 1
  rw [List.map_map, List.map_map]
  rfl
 rw [eob] at hs'
 obtain ⟨m1, m2⟩ := hsim.mem
 refine hR w fs' hsim ⟨M', TM, _, PM', hs', by rw [m2]; exact ht, hsim.ok hok, ⟨qb, s, p.lineno, rfl, hp', hs1, by simp, by simp; omega⟩, ?_⟩
 rw [m1]
 exact h.less [l.at b1, (nb, cel newsC et)]
end Go.Proofs.YtgbgadkldalkbaaGreatDoor


set_option linter.unusedVariables false
namespace Go.Proofs.YtgbgadkldalkbaaGreatDoor
open Go.Proofs Go.IntWalk Go.RowKit
variable {σ : Out} {w : World} {L L' : List Chunk} {R : Ending → World → Prop}
theorem meth_quoteExtend : methB P ty_P_quoteBuilder "pub-paratext/pub/rscmarkdown.extend" i_quoteBuilder_extend = true := by kernel_rfl
theorem quoteExt_ok {q1 q2 : OA} {l l2 : Ln} {ok : Bool} (h : Sat σ w L) (hl : l.ok) (hq : match l.quote with | some l' => l2 = l' ∧ ok = true | none => l2 = l ∧ ok = false) (hR : ∀ w, Sat σ w L → R (.returned (.tuple #[l2.val, .bool ok])) w) :
 callE P i_quoteBuilder_extend #[.pointer q1, .pointer q2, l.val] R w := by
 refine g_quoteBuilder_extend.sound ?_
 refine Sat.bx h fun b1 w h => ?_
 refine Sat.bx h fun b3 w h => ?_
 have h : Sat σ w (zLn b3 :: l.at b1 :: L) := h
 refine ⟨_, h.ldA, ?_⟩
 refine ⟨_, h.ldA, ?_⟩
 refine ⟨_, h.ldA, ?_⟩
 refine ⟨_, h.ldA, ?_⟩
 refine ⟨_, h.ldA, ?_⟩
 have fin : ∀ w, Sat σ w (zLn b3 :: l.at b1 :: L) → ∃ (r10_0_0 : Int), ∃ (r10_0_1 : Int), ∃ (r10_0_2 : Int), ∃ (r10_0_3 : BA), ∃ (r10_0_4 : Int), ∃ (r10_1 : Bool), (Ending.returned (.tuple #[l2.val, .bool ok])) = .returned (.tuple #[.agg #[.int .i64 r10_0_0, .int .i64 r10_0_1, .int .i64 r10_0_2, .string r10_0_3, .int .u8 r10_0_4], .bool r10_1]) ∧
  stV w ⟨b3, 0, none⟩ (.int .i64 r10_0_0) fun w12 => stV w12 ⟨b3, 1, none⟩ (.int .i64 r10_0_1) fun w13 => stV w13 ⟨b3, 2, none⟩ (.int .i64 r10_0_2) fun w14 => stV w14 ⟨b3, 3, none⟩ (.string r10_0_3) fun w15 => stV w15 ⟨b3, 4, none⟩ (.int .u8 r10_0_4) fun w16 =>
  ∃ (v17 : Int), w16.cell? ⟨b3, 0, none⟩ = some (.int .i64 v17) ∧ ∃ (v18 : Int), w16.cell? ⟨b3, 1, none⟩ = some (.int .i64 v18) ∧ ∃ (v19 : Int), w16.cell? ⟨b3, 2, none⟩ = some (.int .i64 v19) ∧ ∃ (v20 : BA), w16.cell? ⟨b3, 3, none⟩ = some (.string v20) ∧ ∃ (v21 : Int), w16.cell? ⟨b3, 4, none⟩ = some (.int .u8 v21) ∧
  R (.returned (.tuple #[.agg #[.int .i64 v17, .int .i64 v18, .int .i64 v19, .string v20, .int .u8 v21], .bool r10_1])) w16 := by
  intro w h
  refine ⟨_, _, _, _, _, _, rfl, ?_⟩
  refine h.stA 0 fun w h => ?_
  refine h.stA 0 fun w h => ?_
  refine h.stA 0 fun w h => ?_
  refine h.stA 0 fun w h => ?_
  refine h.stA 0 fun w h => ?_
  have h : Sat σ w (l2.at b3 :: l.at b1 :: L) := h
  refine ⟨_, h.ldA, ?_⟩
  refine ⟨_, h.ldA, ?_⟩
  refine ⟨_, h.ldA, ?_⟩
  refine ⟨_, h.ldA, ?_⟩
  refine ⟨_, h.ldA, ?_⟩
  exact hR w h.tail.tail
 refine trimQuote_ok (l := l) h hl ?_
 cases hx : l.quote with
 | some l' =>
  rw [hx] at hq
  obtain ⟨rfl, rfl⟩ := hq
  exact fin
 | none =>
  rw [hx] at hq
  obtain ⟨rfl, rfl⟩ := hq
  exact fin
theorem itemExt_line {ib lb n : Nat} {q : OA} {l : Ln} (h : Sat σ w L) (hl : l.ok) (hb : l.blank = false) (h2 : iteC ib lb n true ∈ L) (hR : ∀ w, Sat σ w L → R (.returned (.tuple #[l.val, .bool true])) w) :
 callE P i_itemBuilder_extend #[.pointer (some ⟨ib, 0, none⟩), .pointer q, l.val] R w := by
 obtain ⟨A, B, rfl⟩ := List.append_of_mem h2
 refine g_itemBuilder_extend.sound ?_
 refine Sat.bx h fun b1 w h => ?_
 refine Sat.bx h fun b3 w h => ?_
 have h : Sat σ w (zLn b3 :: l.at b1 :: (A ++ iteC ib lb n true :: B)) := h
 refine isBlank_ok h (.tail _ (.head _)) hl fun w h => ⟨_, rfl, ?_⟩
 rw [hb]
 refine br_false rfl ?_
 unfold g_itemBuilder_extend.k1
 refine isBlank_ok h (.tail _ (.head _)) hl fun w h => ⟨_, rfl, ?_⟩
 rw [hb]
 refine br_false rfl ?_
 refine isBlank_ok h (.tail _ (.head _)) hl fun w h => ⟨_, rfl, ?_⟩
 rw [hb]
 refine br_true rfl (nilP_some ?_)
 have h : Sat σ w (iteC ib lb n true :: zLn b3 :: l.at b1 :: (A ++ B)) := h.re
 refine Sat.st h (k := 0) rfl (by show 2 < 3; decide) trivial rfl fun w h => ?_
 have h : Sat σ w (iteC ib lb n true :: zLn b3 :: l.at b1 :: (A ++ B)) := h
 have h : Sat σ w (zLn b3 :: l.at b1 :: (A ++ iteC ib lb n true :: B)) := h.re
 refine ⟨_, h.ldA, ?_⟩
 refine ⟨_, h.ldA, ?_⟩
 refine ⟨_, h.ldA, ?_⟩
 refine ⟨_, h.ldA, ?_⟩
 refine ⟨_, h.ldA, ?_⟩
 refine h.stA 0 fun w h => ?_
 refine h.stA 0 fun w h => ?_
 refine h.stA 0 fun w h => ?_
 refine h.stA 0 fun w h => ?_
 refine h.stA 0 fun w h => ?_
 have h : Sat σ w (l.at b3 :: l.at b1 :: (A ++ iteC ib lb n true :: B)) := h
 refine ⟨_, h.ldA, ?_⟩
 refine ⟨_, h.ldA, ?_⟩
 refine ⟨_, h.ldA, ?_⟩
 refine ⟨_, h.ldA, ?_⟩
 refine ⟨_, h.ldA, ?_⟩
 exact hR w h.tail.tail
theorem ext_docE {X : OA → Nat → WP} (hX : ∀ x0 x3 w, g_parseState_addLine.bl1 R X x0 x3 w → X x0 x3 w) {b b1 j : Nat} {p : PS} {fs : List Bk} {f : Bk} {lf : Leaf} {l l2 : Ln} (h : DocC σ b (l.at b1 :: L) fs lf p w) (hd : p.depth = j) (hj : j < 1000000) (hf : fs[j + 1]? = some f) (hl : l.ok) (hb : l.blank = false) (hln : p.lineno < 1000000000)
 (hE : ∀ (R' : Ending → World → Prop) K w, (∀ c ∈ f.own, c ∈ K) → (∀ g ∈ fs, ∀ c ∈ g.own, c ∈ K) → Sat σ w K → (∀ w, Sat σ w K → R' (.returned (.tuple #[l2.val, .bool true])) w) → enterE P (callMethod f.ob.bd "pub-paratext/pub/rscmarkdown.extend" #[.pointer (some ⟨b, 0, none⟩), l.val]) R' w)
 (hgo : ∀ w fs', Sims fs fs' → DocC σ b (l2.at b1 :: L) fs' lf { p with depth := (j : Int) + 1 } w → X (some ⟨b, 0, none⟩) b1 w) : X (some ⟨b, 0, none⟩) b1 w := by
 obtain ⟨M, TM, lobs, LM, hs, ht, hok, hL, h⟩ := h
 have hfl := (List.getElem?_eq_some_iff.1 hf).1
 have hmf : ∀ g ∈ fs, ∀ c ∈ g.own, c ∈ memFs fs := by
  intro g hg c hc
  unfold memFs
  exact List.mem_flatMap.2 ⟨g, hg, by unfold Bk.mem; simp [hc]⟩
 have hof : (fs.map Bk.ob ++ lobs)[j + 1]? = some f.ob := by rw [List.getElem?_append_left (by simpa using hfl), List.getElem?_map, hf]; rfl
 have h : Sat σ w (l.at b1 :: (p.at b :: M ++ (TM ++ (memFs fs ++ (LM ++ L))))) := h.re
 refine ext_stepE (l2 := l2) hX h hs hd hj hof hl hb (fun R' b0 w h hk => ?_) fun w M' hs' h => ?_
 ·have hsub : ∀ g ∈ fs, ∀ c ∈ g.own, c ∈ (l.at b0 :: l.at b1 :: (p.at b :: M ++ (TM ++ (memFs fs ++ (LM ++ L))))) := fun g hg c hc => by simp [hmf g hg c hc]
  exact hE R' _ w (hsub f (List.mem_of_getElem? hf)) hsub h hk
 ·obtain ⟨a, c, e, ha⟩ := at_split hf
  let fs' := a ++ ({ f with ob := f.ob.setE p.lineno } : Bk) :: c
  have hsim : Sims fs fs' := by
   rw [e]
   refine Sims.append (Sims.refl fun g hg => (hok g (by rw [e]; simp [hg])).2.2.2) (.cons ⟨⟨_, rfl⟩, rfl, rfl, rfl, hln⟩ (Sims.refl fun g hg => (hok g (by rw [e]; simp [hg])).2.2.2))
  have eob : (fs.map Bk.ob ++ lobs).set (j + 1) (f.ob.setE p.lineno) = fs'.map Bk.ob ++ lobs := by
   rw [List.set_append_left _ _ (by simpa using hfl), e, List.map_append, List.set_append_right _ _ (by simp; omega), List.length_map, ha, Nat.sub_self]
   simp [fs']
  rw [eob] at hs'
  obtain ⟨m1, m2⟩ := hsim.mem
  refine hgo w fs' hsim ⟨M', TM, lobs, LM, hs', ?_, hsim.ok hok, hL, ?_⟩
  ·rw [m2]; exact ht.of rfl rfl rfl
  ·rw [m1]; exact h.re
theorem stop_doc {X : OA → Nat → WP} (hX : ∀ x0 x3 w, g_parseState_addLine.bl1 R X x0 x3 w → X x0 x3 w) {b b1 j : Nat} {p : PS} {fs : List Bk} {f : Bk} {lf : Leaf} {l : Ln} (h : DocC σ b (l.at b1 :: L) fs lf p w) (hd : p.depth = j) (hj : j < 1000000) (hf : fs[j + 1]? = some f) (hl : l.ok) (hb : l.blank = false)
 (hE : ∀ (R' : Ending → World → Prop) K w, (∀ c ∈ f.own, c ∈ K) → (∀ g ∈ fs, ∀ c ∈ g.own, c ∈ K) → Sat σ w K → (∀ w, Sat σ w K → R' (.returned (.tuple #[l.val, .bool false])) w) → enterE P (callMethod f.ob.bd "pub-paratext/pub/rscmarkdown.extend" #[.pointer (some ⟨b, 0, none⟩), l.val]) R' w)
 (hgo : ∀ w, DocC σ b (l.at b1 :: L) fs lf p w → g_parseState_addLine.bl102 R (g_parseState_addLine.l102 R) (some ⟨b, 0, none⟩) b1 w) : X (some ⟨b, 0, none⟩) b1 w := by
 obtain ⟨M, TM, lobs, LM, hs, ht, hok, hL, h⟩ := h
 have hfl := (List.getElem?_eq_some_iff.1 hf).1
 have hmf : ∀ g ∈ fs, ∀ c ∈ g.own, c ∈ memFs fs := by
  intro g hg c hc
  unfold memFs
  exact List.mem_flatMap.2 ⟨g, hg, by unfold Bk.mem; simp [hc]⟩
 have hof : (fs.map Bk.ob ++ lobs)[j + 1]? = some f.ob := by rw [List.getElem?_append_left (by simpa using hfl), List.getElem?_map, hf]; rfl
 have h : Sat σ w (l.at b1 :: (p.at b :: M ++ (TM ++ (memFs fs ++ (LM ++ L))))) := h.re
 refine ext_step (l2 := l) (ok := false) hX h hs hd hj hof hl (fun R' b0 w h hk => ?_) (.inr ⟨rfl, rfl⟩) (fun hh => absurd hh (by decide)) fun _ w h => ?_
 ·have hsub : ∀ g ∈ fs, ∀ c ∈ g.own, c ∈ (l.at b0 :: l.at b1 :: (p.at b :: M ++ (TM ++ (memFs fs ++ (LM ++ L))))) := fun g hg c hc => by simp [hmf g hg c hc]
  exact hE R' _ w (hsub f (List.mem_of_getElem? hf)) hsub h hk
 ·unfold g_parseState_addLine.k2
  refine isBlank_ok h (.head _) hl fun w h => ⟨_, rfl, ?_⟩
  rw [hb]
  exact br_false rfl (hgo w ⟨M, TM, lobs, LM, hs, ht, hok, hL, h.re⟩)
theorem stop_para {X : OA → Nat → WP} (hX : ∀ x0 x3 w, g_parseState_addLine.bl1 R X x0 x3 w → X x0 x3 w) {b b1 j : Nat} {p : PS} {fs : List Bk} {ls : List (List UInt8)} {l : Ln} (h : DocC σ b (l.at b1 :: L) fs (.para ls) p w) (hd : p.depth = j) (hj : j < 1000000) (hf : j + 1 = fs.length) (hl : l.ok) (hb : l.blank = false)
 (hgo : ∀ w, DocC σ b (l.at b1 :: L) fs (.para ls) p w → g_parseState_addLine.bl102 R (g_parseState_addLine.l102 R) (some ⟨b, 0, none⟩) b1 w) : X (some ⟨b, 0, none⟩) b1 w := by
 obtain ⟨M, TM, lobs, LM, hs, ht, hok, hL, h⟩ := h
 have hL0 := hL
 obtain ⟨qb, s, e, rfl, hp, hs1, hne, hll⟩ := hL
 have hof : (fs.map Bk.ob ++ [paraOB qb s e])[j + 1]? = some (paraOB qb s e) := by rw [hf]; simp
 have h : Sat σ w (l.at b1 :: (p.at b :: M ++ (TM ++ (memFs fs ++ (LM ++ L))))) := h.re
 refine ext_step (l2 := l) (ok := false) hX h hs hd hj hof hl (fun R' b0 w h hk => ?_) (.inr ⟨rfl, rfl⟩) (fun hh => absurd hh (by decide)) fun _ w h => ?_
 ·refine enter_meth meth_paraExtend ?_
  exact paraExtend_ok h hk
 ·unfold g_parseState_addLine.k2
  refine isBlank_ok h (.head _) hl fun w h => ⟨_, rfl, ?_⟩
  rw [hb]
  exact br_false rfl (hgo w ⟨M, TM, _, LM, hs, ht, hok, hL0, h.re⟩)
end Go.Proofs.YtgbgadkldalkbaaGreatDoor


set_option linter.unusedVariables false
namespace Go.Proofs.YtgbgadkldalkbaaGreatDoor
open Go.Proofs Go.IntWalk Go.RowKit
variable {σ : Out} {w : World} {L L' : List Chunk} {R : Ending → World → Prop}
inductive FO : List Bool → List Bk → Prop where
 | nil : FO [] []
 | quote {s : List Bool} {fs : List Bk} {f : Bk} : f.isQuote → f.D = [] → FO s fs → FO (false :: s) (f :: fs)
 | list {s : List Bool} {fs : List Bk} {f g : Bk} {lb : Nat} {it : Option Addr} : f.isList lb 45 0 it → f.D = [] → ItemOf it g lb 2 true → g.D = [] → FO s fs → FO (true :: s) (f :: g :: fs)
theorem FO.append {s t : List Bool} {fs gs : List Bk} (h : FO s fs) (h2 : FO t gs) : FO (s ++ t) (fs ++ gs) := by
 induction h with
 | nil => exact h2
 | quote a b _ ih => exact .quote a b ih
 | list a b c d _ ih => exact .list a b c d ih
theorem FO.toFF {s : List Bool} {fs : List Bk} (h : FO s fs) : ∀ {rs : List Bool} {gs : List Bk}, FF rs gs → FF (s.reverse ++ rs) (gs ++ fs) := by
 induction h with
 | nil => intro rs gs h2; simpa using h2
 | quote a b _ ih =>
  intro rs gs h2
  have := ih (.quote h2 a b)
  simpa using this
 | list a b c d _ ih =>
  intro rs gs h2
  have := ih (.list h2 a b c.item d)
  simpa using this
theorem FO.ff {s : List Bool} {fs : List Bk} (h : FO s fs) : FF s.reverse fs := by
 have := h.toFF .nil
 simpa using this
theorem FO.sims {s : List Bool} {fs : List Bk} (h : FO s fs) : ∀ {gs : List Bk}, Sims fs gs → FO s gs := by
 induction h with
 | nil => intro gs h2; cases h2; exact .nil
 | quote a b _ ih =>
  intro gs h2
  cases h2 with
  | cons k h3 => exact .quote (k.quote a) (k.2.2.1.trans b) (ih h3)
 | list a b c d _ ih =>
  intro gs h2
  cases h2 with
  | cons k h3 =>
   cases h3 with
   | cons k2 h4 => exact .list (k.list a) (k.2.2.1.trans b) (k2.itemOf c) (k2.2.2.1.trans d) (ih h4)
theorem FO.len {s : List Bool} {fs : List Bk} (h : FO s fs) : fs.length ≤ 2 * s.length := by
 have := h.ff.len
 simpa using this
structure Wd (s : List UInt8) : Prop where
 ne : s ≠ []
 let_ : ∀ c ∈ s, 97 ≤ c.toNat ∧ c.toNat ≤ 122
 len : s.length ≤ 40
theorem letter_facts {c : UInt8} (h : 97 ≤ c.toNat ∧ c.toNat ≤ 122) : plainStart c = true ∧ isST c = false ∧ c ≠ 45 ∧ c ≠ 95 ∧ c ≠ 42 ∧ c ≠ 60 ∧ c ≠ 61 ∧ c ≠ 10 ∧ c ≠ 13 ∧ c ≠ 0 := by
 have : (List.range 256).all (fun n => (!(decide (97 ≤ n) && decide (n ≤ 122))) || (plainStart (UInt8.ofNat n) && !isST (UInt8.ofNat n) && UInt8.ofNat n != 45 && UInt8.ofNat n != 95 && UInt8.ofNat n != 42 && UInt8.ofNat n != 60 && UInt8.ofNat n != 61 && UInt8.ofNat n != 10 && UInt8.ofNat n != 13 && UInt8.ofNat n != 0)) = true := by kernel_rfl
 have := List.all_eq_true.1 this c.toNat (List.mem_range.2 c.toNat_lt)
 rw [UInt8.ofNat_toNat] at this
 simpa [h.1, h.2, and_assoc] using this
theorem Wd.cons {s : List UInt8} (h : Wd s) : ∃ c r, s = c :: r ∧ (97 ≤ c.toNat ∧ c.toNat ≤ 122) := by
 cases s with
 | nil => exact absurd rfl h.ne
 | cons c r => exact ⟨c, r, rfl, h.let_ c (by simp)⟩
theorem marksW_head (s : List Bool) {c : UInt8} {r : List UInt8} (hc : isST c = false) : ∃ x q, marks s ++ c :: r = x :: q ∧ isST x = false := by
 cases s with
 | nil => exact ⟨c, r, rfl, hc⟩
 | cons a s =>
  cases a with
  | true => exact ⟨45, 32 :: (marks s ++ c :: r), rfl, by decide⟩
  | false => exact ⟨62, 32 :: (marks s ++ c :: r), rfl, by decide⟩
theorem deepW_ok {op : Opt} {b b1 pb : Nat} {root : Bk} {wd : List UInt8} (hr : root.isRoot) (hw : Wd wd) : ∀ (s s1 : List Bool) (fs : List Bk) (p : PS) (l : Ln) (w : World) (Xb : OA → Nat → WP), FO s1 fs → l.ok → l.sp = 0 → l.text.drop l.i = marks s ++ wd → DocC σ b (l.at b1 :: L) (root :: fs) .none p w → p.depth = fs.length →
 s1.length + s.length < 1000 → Runs R Xb b b1 → p.pz = some ⟨pb, 0, none⟩ → op.at pb ∈ L → p.lineno < 1000000000 →
 (∀ w (p' : PS) fs', p'.base = p.base → p'.lineno = p.lineno → FO (s1 ++ s) fs' → DocC σ b L (root :: fs') (.para [wd]) p' w → R (.returned (.tuple #[])) w) → g_parseState_addLine.bl102 R Xb (some ⟨b, 0, none⟩) b1 w
 | [], s1, fs, p, l, w, Xb, hF, hl, hsp, htx, h, hd, hlen, hXb, hpz, hop, hno, hR => by
  obtain ⟨c, r, rfl, hc⟩ := hw.cons
  obtain ⟨c1, c2, _⟩ := letter_facts hc
  have hh : l.has c r := ⟨hl, hsp, htx⟩
  have hfl := hF.len
  obtain ⟨gs, top, ty, v, eg, hbd, h1, h2⟩ := hF.ff.top hr
  have hgl : gs.length = fs.length := by have := congrArg List.length eg; simp at this; omega
  rw [eg] at h
  simp only [List.length_nil] at hlen
  refine pushParaC (op := op) h (by rw [hd, hgl]) (by omega) hbd h1 h2 (hh.plain c1) hpz hop hno fun w p' e1 e2 h => ?_
  have er : l.rest = c :: r := by unfold Ln.rest; rw [hh.tx, List.dropWhile_cons_of_neg (by simp [c2])]
  rw [er, ← eg] at h
  exact hR w p' fs e1 e2 (by rw [List.append_nil]; exact hF) h
 | false :: s, s1, fs, p, l, w, Xb, hF, hl, hsp, htx, h, hd, hlen, hXb, hpz, hop, hno, hR => by
  obtain ⟨c, r0, hwd, hc⟩ := hw.cons
  obtain ⟨c1, c2, _⟩ := letter_facts hc
  obtain ⟨x, r, hx, hxs⟩ := marksW_head s (r := r0) c2
  rw [← hwd] at hx
  have hh : l.has 62 (32 :: x :: r) := ⟨hl, hsp, by rw [htx, ← hx]; rfl⟩
  have h2 := hh.next.next
  have hfl := hF.len
  simp only [List.length_cons] at hlen
  obtain ⟨gs, top, ty, v, eg, hbd, n1, n2⟩ := hF.ff.top hr
  have hgl : gs.length = fs.length := by have := congrArg List.length eg; simp at this; omega
  rw [eg] at h
  refine pushQuoteC h (by rw [hd, hgl]) (by omega) hl hh.quote h2 hxs hno fun w p' f e1 e2 e3 hq hD h => ?_
  rw [← eg] at h
  have e4 : p'.pz = some ⟨pb, 0, none⟩ := by have := congrArg PS.pz e1; rw [show p'.pz = p.pz from this]; exact hpz
  refine hXb w fun X hX => ?_
  refine deepW_ok hr hw s (s1 ++ [false]) (fs ++ [f]) p' _ w X (hF.append (.quote hq hD .nil)) h2.ok hsp ?_ h (by rw [e3, hd]; simp) (by simp; omega) (Runs.of hX b b1) e4 hop (by omega) fun w p2 fs' a1 a2 a3 h => ?_
  ·rw [hx]; exact h2.tx
  ·exact hR w p2 fs' (a1.trans e1) (a2.trans e2) (by simpa using a3) h
 | true :: s, s1, fs, p, l, w, Xb, hF, hl, hsp, htx, h, hd, hlen, hXb, hpz, hop, hno, hR => by
  obtain ⟨c, r0, hwd, hc⟩ := hw.cons
  obtain ⟨c1, c2, c3, c4, c5, _⟩ := letter_facts hc
  obtain ⟨x, r, hx, hxs⟩ := marksW_head s (r := r0) c2
  rw [← hwd] at hx
  have hh : l.has 45 (32 :: x :: r) := ⟨hl, hsp, by rw [htx, ← hx]; rfl⟩
  have h2 := hh.next.next
  have hfl := hF.len
  simp only [List.length_cons] at hlen
  obtain ⟨gs, top, ty, v, eg, hbd, n1, n2⟩ := hF.ff.top hr
  have hgl : gs.length = fs.length := by have := congrArg List.length eg; simp at this; omega
  rw [eg] at h
  have hHR : l.isHR = false := hh.noHR (m := 45 :: 32 :: marks s) (d := c) (r2 := r0) (by decide) (by rw [← hx, hwd]; rfl) c2 ⟨c3, c4, c5⟩
  refine pushListC hXb h (by rw [hd, hgl]) (by omega) hbd n1 n2 hh (markC_bul (.inl rfl)) hHR (Ln.marks hh.ok (hh.bullet (.inl rfl) hxs)) h2 hxs hno fun X hX w p' f g lb it e1 e2 e3 hf hfD hg hgD _ _ _ h => ?_
  rw [← eg] at h
  have e4 : p'.pz = some ⟨pb, 0, none⟩ := by have := congrArg PS.pz e1; rw [show p'.pz = p.pz from this]; exact hpz
  refine hX _ _ _ ?_
  refine deepW_ok hr hw s (s1 ++ [true]) (fs ++ [f, g]) p' _ w X (hF.append (.list hf hfD hg hgD .nil)) h2.ok hsp ?_ h (by rw [e3, hd]; simp) (by simp; omega) (Runs.of hX b b1) e4 hop (by omega) fun w p2 fs' a1 a2 a3 h => ?_
  ·rw [hx]; exact h2.tx
  ·exact hR w p2 fs' (a1.trans e1) (a2.trans e2) (by simpa using a3) h
end Go.Proofs.YtgbgadkldalkbaaGreatDoor


set_option linter.unusedVariables false
namespace Go.Proofs.YtgbgadkldalkbaaGreatDoor
open Go.Proofs Go.IntWalk Go.RowKit
variable {σ : Out} {w : World} {L L' : List Chunk} {R : Ending → World → Prop}
def pmark (x : Bool) : List UInt8 := if x then [32, 32] else [62, 32]
def pmarks (s : List Bool) : List UInt8 := s.flatMap pmark
theorem Ln.blank_no {l : Ln} {m r : List UInt8} {c : UInt8} (h : l.text.drop l.i = m ++ c :: r) (hc : isST c = false) : l.blank = false := by
 unfold Ln.blank
 rw [h, List.all_append, List.all_cons, hc]; simp
theorem Ln.has.trim2 {l : Ln} {d : UInt8} {r : List UInt8} (h : l.has 32 (32 :: d :: r)) : l.trimSp 2 2 true = some { l with i := l.i + 2 } := by
 have h2 := h.next
 have l1 := h.lt
 have l2 := h2.lt
 have g1 := h.get
 have g2 := h2.get
 have s1 := h.sp
 simp only at l2 g2
 simp [Ln.trimSp, Ln.tsGo, s1, g1, g2, Nat.not_le.2 l1, Nat.not_le.2 l2]
theorem Ln.has.trim2_no {l : Ln} {c : UInt8} {r : List UInt8} (h : l.has c r) (hc : isST c = false) : l.trimSp 2 2 true = none := by
 unfold Ln.trimSp
 rw [h.tsGo hc]; rfl
theorem Wd.cont {wd : List UInt8} (hw : Wd wd) {l : Ln} (hl : l.ok) (hsp : l.sp = 0) (htx : l.text.drop l.i = wd) : l.cont ∧ l.rest = wd ∧ l.blank = false ∧ l.quote = none ∧ l.trimSp 2 2 true = none := by
 obtain ⟨c, r, rfl, hc⟩ := hw.cons
 obtain ⟨c1, c2, c3, c4, c5, c6, c7, _⟩ := letter_facts hc
 have hh : l.has c r := ⟨hl, hsp, htx⟩
 have hp := hh.plain c1
 have hpk : (l.lead 3 false).peek = c := by rw [hh.lead c2 2]; exact hh.peek
 refine ⟨⟨hp, by rw [hpk]; exact c6, by rw [hpk]; exact c3, by rw [hpk]; exact c7⟩, ?_, hh.blank c2, hp.quote, hh.trim2_no c2⟩
 unfold Ln.rest
 rw [htx, List.dropWhile_cons_of_neg (by simp [c2])]
theorem sims_app {a : List Bk} : ∀ {c fs : List Bk}, Sims (a ++ c) fs → ∃ a' c', fs = a' ++ c' ∧ Sims a a' ∧ Sims c c' := by
 induction a with
 | nil => intro c fs h; exact ⟨[], fs, rfl, .nil, h⟩
 | cons x a ih =>
  intro c fs h
  cases h with
  | cons k h2 =>
   obtain ⟨a', c', rfl, h3, h4⟩ := ih h2
   exact ⟨_ :: a', c', rfl, .cons k h3, h4⟩
theorem pmarks_split (s : List Bool) {wd : List UInt8} (hw : Wd wd) : ∃ d r, pmarks s ++ wd = d :: r := by
 obtain ⟨c, r, rfl, _⟩ := hw.cons
 cases s with
 | nil => exact ⟨c, r, rfl⟩
 | cons x s => cases x <;> exact ⟨_, _, rfl⟩
theorem walkG {X : OA → Nat → WP} (hX : ∀ x0 x3 w, g_parseState_addLine.bl1 R X x0 x3 w → X x0 x3 w) {op : Opt} {b b1 pb : Nat} {wd : List UInt8} {ls : List (List UInt8)} (hw : Wd wd) (hls : ls.length < 1048569) (hop : op.at pb ∈ L) (hnt : op.table = false) {S : List Bool} :
 ∀ (s2 : List Bool) (n : Nat) (s1 : List Bool) (root : Bk) (fs1 fs2 : List Bk) (p : PS) (l : Ln) (w : World), root.isRoot → FO s1 fs1 → FO s2 fs2 → s1 ++ s2 = S → S.length < 1000 → n ≤ s2.length → l.ok → l.sp = 0 → l.text.drop l.i = pmarks (s2.take n) ++ wd →
  DocC σ b (l.at b1 :: L) (root :: (fs1 ++ fs2)) (.para ls) p w → p.depth = (fs1.length : Nat) → p.pz = some ⟨pb, 0, none⟩ → p.lineno < 1000000000 →
  (∀ w (p' : PS) root' fs', p'.base = p.base → p'.lineno = p.lineno → root'.isRoot → root'.D = root.D → FO S fs' → DocC σ b L (root' :: fs') (.para (ls ++ [wd])) p' w → R (.returned (.tuple #[])) w) → X (some ⟨b, 0, none⟩) b1 w := by
 intro s2
 have fin : ∀ (s2 s1 : List Bool) (root : Bk) (fs1 fs2 : List Bk) (p : PS) (l : Ln) (w : World), root.isRoot → FO s1 fs1 → FO s2 fs2 → s1 ++ s2 = S → S.length < 1000 → l.ok → l.sp = 0 → l.text.drop l.i = wd →
  DocC σ b (l.at b1 :: L) (root :: (fs1 ++ fs2)) (.para ls) p w → p.depth = (fs1.length : Nat) → p.pz = some ⟨pb, 0, none⟩ → p.lineno < 1000000000 →
  (∀ w (p' : PS) root' fs', p'.base = p.base → p'.lineno = p.lineno → root'.isRoot → root'.D = root.D → FO S fs' → DocC σ b L (root' :: fs') (.para (ls ++ [wd])) p' w → R (.returned (.tuple #[])) w) → X (some ⟨b, 0, none⟩) b1 w := by
  intro s2 s1 root fs1 fs2 p l w hr hF1 hF2 hS hSl hl hsp htx h hd hpz hln hR
  obtain ⟨hcont, hrest, hbl, hq, ht2⟩ := hw.cont hl hsp htx
  have hl1 := hF1.len
  have hl2 := hF2.len
  have hSlen := congrArg List.length hS
  simp only [List.length_append] at hSlen
  obtain ⟨gs, top, ty, v, eg, hbd, n1, n2⟩ := hF1.ff.top hr
  have hgl : gs.length = fs1.length := by have := congrArg List.length eg; simp at this; omega
  have efs : root :: (fs1 ++ fs2) = gs ++ top :: fs2 := by rw [← List.cons_append, eg]; simp
  have hget : (root :: (fs1 ++ fs2))[fs1.length]? = some top := by rw [efs, ← hgl]; simp
  have hget1 : ∀ j, (root :: (fs1 ++ fs2))[fs1.length + 1 + j]? = fs2[j]? := by
   intro j
   rw [efs, ← hgl, List.getElem?_append_right (by omega), show gs.length + 1 + j - gs.length = j + 1 by omega, List.getElem?_cons_succ]
  have go : ∀ (hnx : ∀ f1, fs2[0]? = some f1 → ∃ t v, f1.ob.bd = .iface t v ∧ t ≠ ty_P_paraBuilder) w, DocC σ b (l.at b1 :: L) (root :: (fs1 ++ fs2)) (.para ls) p w → g_parseState_addLine.bl102 R (g_parseState_addLine.l102 R) (some ⟨b, 0, none⟩) b1 w := by
   intro hnx w h
   refine contG (d := fs1.length) h hd (by omega) hget hbd n2 (fun f1 hf1 => hnx f1 (by rw [← hget1 0]; exact hf1)) hcont hls hpz hop hnt hln fun w fs' hsim h => ?_
   rw [hrest] at h
   cases hsim with
   | @cons _ root' _ fs'' k1 k2 => exact hR w p root' fs'' rfl rfl (k1.root hr) k1.2.2.1 (hS ▸ (hF1.append hF2).sims k2) h
  cases hF2 with
  | nil =>
   rw [List.append_nil] at h go hget1
   exact stop_para (j := fs1.length) hX h hd (by omega) (by simp) hl hbl (go (fun f1 h1 => by simp at h1))
  | @quote s2' fs2' f hfq hfD hF2' =>
   have hf := hget1 0
   obtain ⟨qb, q1, q2⟩ := hfq
   refine stop_doc (j := fs1.length) hX h hd (by omega) hf hl hbl (fun R' K w _ _ h hk => ?_) (go (fun f1 h1 => ?_))
   ·rw [q1]
    refine enter_meth meth_quoteExtend ?_
    exact quoteExt_ok h hl (by rw [hq]; exact ⟨rfl, rfl⟩) hk
   ·obtain rfl := Option.some.inj h1
    exact ⟨_, _, q1, by decide⟩
  | @list s2' fs2' f g lb it hfl hfD hg hgD hF2' =>
   have hf := hget1 0
   have hgm : g ∈ root :: (fs1 ++ f :: g :: fs2') := by simp
   obtain ⟨ib, i1, i2, i3⟩ := hg
   obtain ⟨f1, f2⟩ := hfl
   refine stop_doc (j := fs1.length) hX h hd (by omega) hf hl hbl (fun R' K w hfo hall h hk => ?_) (go (fun f1' h1 => ?_))
   ·rw [f1]
    refine enter_meth meth_listExtend ?_
    refine listExt_ok (ib := ib) (lb := lb) (n := 2) (hv := true) (bul := 45) (num := 0) (lo := false) (td := .nilFunc) h hl (by omega) ?_ ?_ (by rw [ht2]; exact ⟨rfl, rfl⟩) hk
    ·rw [← i1]; exact hfo _ (by rw [f2]; exact .head _)
    ·exact hall g hgm _ (by rw [i3]; exact .head _)
   ·obtain rfl := Option.some.inj h1
    exact ⟨_, _, f1, by decide⟩
 induction s2 with
 | nil =>
  intro n s1 root fs1 fs2 p l w hr hF1 hF2 hS hSl hn hl hsp htx h hd hpz hln hR
  have htx : l.text.drop l.i = wd := by rw [htx]; simp [pmarks]
  exact fin [] s1 root fs1 fs2 p l w hr hF1 hF2 hS hSl hl hsp htx h hd hpz hln hR
 | cons x s2 ih =>
  intro n s1 root fs1 fs2 p l w hr hF1 hF2 hS hSl hn hl hsp htx h hd hpz hln hR
  cases n with
  | zero =>
   have htx : l.text.drop l.i = wd := by rw [htx]; simp [pmarks]
   exact fin (x :: s2) s1 root fs1 fs2 p l w hr hF1 hF2 hS hSl hl hsp htx h hd hpz hln hR
  | succ n =>
   simp only [List.length_cons] at hn
   have hl1 := hF1.len
   have hl2 := hF2.len
   have hSlen := congrArg List.length hS
   simp only [List.length_append, List.length_cons] at hSlen hl2
   obtain ⟨c0, r0, hwd, hc0⟩ := hw.cons
   obtain ⟨_, c2, _⟩ := letter_facts hc0
   obtain ⟨d, r, hdr⟩ := pmarks_split (s2.take n) hw
   have hbl : l.blank = false := by
    refine Ln.blank_no (m := pmarks ((x :: s2).take (n + 1))) (c := c0) (r := r0) ?_ c2
    rw [htx, hwd]
   cases hF2 with
   | @quote _ fs2' f hfq hfD hF2' =>
    have hh : l.has 62 (32 :: d :: r) := ⟨hl, hsp, by rw [htx, ← hdr]; rfl⟩
    have h2 := hh.next.next
    have hf : (root :: (fs1 ++ f :: fs2'))[fs1.length + 1]? = some f := by simp
    obtain ⟨qb, q1, q2⟩ := hfq
    refine ext_docE (l2 := { l with i := l.i + 1 + 1 }) hX h hd (by omega) hf hl hbl hln (fun R' K w _ _ h hk => ?_) fun w fs' hsim h => ?_
    ·rw [q1]
     refine enter_meth meth_quoteExtend ?_
     exact quoteExt_ok h hl (by rw [hh.quote]; exact ⟨rfl, rfl⟩) hk
    ·have e : root :: (fs1 ++ f :: fs2') = (root :: (fs1 ++ [f])) ++ fs2' := by simp
     rw [e] at hsim
     obtain ⟨a', c', rfl, k1, k2⟩ := sims_app hsim
     cases k1 with
     | @cons _ root' _ fa kr k3 =>
      have hFa : FO (s1 ++ [false]) fa := (hF1.append (.quote ⟨qb, q1, q2⟩ hfD .nil)).sims k3
      have hla : fa.length = fs1.length + 1 := by rw [k3.len]; simp
      refine ih n (s1 ++ [false]) root' fa c' { p with depth := ((fs1.length : Nat) : Int) + 1 } { l with i := l.i + 1 + 1 } w (kr.root hr) hFa (hF2'.sims k2) (by rw [← hS]; simp) hSl (by omega) h2.ok hsp ?_ h ?_ hpz hln fun w p' root2 fs2 a1 a2 a3 a4 a5 h => ?_
      ·rw [h2.tx, ← hdr]
      ·show ((fs1.length : Nat) : Int) + 1 = _; rw [hla]; omega
      ·exact hR w p' root2 fs2 a1 a2 a3 (a4.trans kr.2.2.1) a5 h
   | @list _ fs2' f g lb it hfl hfD hg hgD hF2' =>
    have hh : l.has 32 (32 :: d :: r) := ⟨hl, hsp, by rw [htx, ← hdr]; rfl⟩
    have h2 := hh.next.next
    have hf : (root :: (fs1 ++ f :: g :: fs2'))[fs1.length + 1]? = some f := by simp
    have hgm : g ∈ root :: (fs1 ++ f :: g :: fs2') := by simp
    have hg0 := hg
    obtain ⟨ib, i1, i2, i3⟩ := hg
    have hfl0 := hfl
    obtain ⟨f1, f2⟩ := hfl
    refine ext_docE (l2 := { l with i := l.i + 1 + 1 }) hX h hd (by omega) hf hl hbl hln (fun R' K w hfo hall h hk => ?_) fun w fs' hsim h => ?_
    ·rw [f1]
     refine enter_meth meth_listExtend ?_
     refine listExt_ok (ib := ib) (lb := lb) (n := 2) (hv := true) (bul := 45) (num := 0) (lo := false) (td := .nilFunc) h hl (by omega) ?_ ?_ (by rw [hh.trim2]; exact ⟨rfl, rfl⟩) hk
     ·rw [← i1]; exact hfo _ (by rw [f2]; exact .head _)
     ·exact hall g hgm _ (by rw [i3]; exact .head _)
    ·have e : root :: (fs1 ++ f :: g :: fs2') = (root :: (fs1 ++ [f])) ++ g :: fs2' := by simp
     rw [e] at hsim
     obtain ⟨a', c', rfl, k1, k2⟩ := sims_app hsim
     cases k1 with
     | @cons _ root' _ fa kr k3 =>
      cases k2 with
      | @cons _ g' _ c'' kg k4 =>
       have hla : fa.length = fs1.length + 1 := by rw [k3.len]; simp
       have hg' := kg.itemOf hg0
       have hbl2 : ({ l with i := l.i + 1 + 1 } : Ln).blank = false := by
        refine Ln.blank_no (m := pmarks (s2.take n)) (c := c0) (r := r0) ?_ c2
        rw [h2.tx, ← hdr, hwd]
       have hgi : (root' :: fa ++ g' :: c'')[fs1.length + 1 + 1]? = some g' := by
        rw [List.getElem?_append_right (by simp; omega)]
        simp [hla]
       obtain ⟨ib', j1, j2, j3⟩ := hg'
       refine ext_docE (j := fs1.length + 1) (l2 := { l with i := l.i + 1 + 1 }) hX h (by show ((fs1.length : Nat) : Int) + 1 = _; omega) (by omega) hgi h2.ok hbl2 hln (fun R' K w hgo hall h hk => ?_) fun w fs' hsim2 h => ?_
       ·rw [j2]
        refine enter_meth meth_itemExtend ?_
        exact itemExt_line (lb := lb) (n := 2) h h2.ok hbl2 (hgo _ (by rw [j3]; exact .head _)) hk
       ·have e : root' :: fa ++ g' :: c'' = (root' :: (fa ++ [g'])) ++ c'' := by simp
        rw [e] at hsim2
        obtain ⟨a2, c2', rfl, m1, m2⟩ := sims_app hsim2
        cases m1 with
        | @cons _ root2 _ fb mr m3 =>
         have hFb : FO (s1 ++ [true]) fb := by
          have h0 : FO (s1 ++ [true]) (fs1 ++ [f, g]) := hF1.append (.list hfl0 hfD hg0 hgD .nil)
          have e0 : fs1 ++ [f, g] = (fs1 ++ [f]) ++ [g] := by simp
          rw [e0] at h0
          exact (h0.sims (k3.append (.cons kg .nil))).sims m3
         have hlb : fb.length = fs1.length + 2 := by rw [m3.len]; simp [hla]
         refine ih n (s1 ++ [true]) root2 fb c2' _ { l with i := l.i + 1 + 1 } w (mr.root (kr.root hr)) hFb ((hF2'.sims k4).sims m2) (by rw [← hS]; simp) hSl (by omega) h2.ok hsp ?_ h ?_ hpz hln fun w p' root3 fs3 a1 a2 a3 a4 a5 h => ?_
         ·rw [h2.tx, ← hdr]
         ·show ((fs1.length + 1 : Nat) : Int) + 1 = _; rw [hlb]; omega
         ·exact hR w p' root3 fs3 a1 a2 a3 (a4.trans (mr.2.2.1.trans kr.2.2.1)) a5 h
end Go.Proofs.YtgbgadkldalkbaaGreatDoor


set_option linter.unusedVariables false
set_option maxRecDepth 20000
namespace Go.Proofs.YtgbgadkldalkbaaGreatDoor
open Go.Proofs
namespace g_impl_Parse
noncomputable def body : Code := bodyOf Tryz.f17
end g_impl_Parse
def g_impl_Parse (R : EP) (x0_0 x0_1 : Bool) (x0_2 x0_3 : Bool) (x0_4 x0_5 : Bool) (x0_6 x0_7 : Bool) (x0_8 x0_9 : Bool) (x1 : BA) (w : World) : Prop :=
 box w #[.bool x0_0, .bool x0_1, .bool x0_2, .bool x0_3, .bool x0_4, .bool x0_5, .bool x0_6, .bool x0_7, .bool x0_8, .bool x0_9] ty_impl_Options fun b1 w2 =>
 box w2 (N16.C {}) ty_impl_Node fun b3 w4 =>
 ∃ (v5 : Bool), w4.cell? ⟨b1, 0, none⟩ = some (.bool v5) ∧
 ∃ (v6 : Bool), w4.cell? ⟨b1, 1, none⟩ = some (.bool v6) ∧
 ∃ (v7 : Bool), w4.cell? ⟨b1, 2, none⟩ = some (.bool v7) ∧
 ∃ (v8 : Bool), w4.cell? ⟨b1, 3, none⟩ = some (.bool v8) ∧
 ∃ (v9 : Bool), w4.cell? ⟨b1, 4, none⟩ = some (.bool v9) ∧
 ∃ (v10 : Bool), w4.cell? ⟨b1, 5, none⟩ = some (.bool v10) ∧
 ∃ (v11 : Bool), w4.cell? ⟨b1, 6, none⟩ = some (.bool v11) ∧
 ∃ (v12 : Bool), w4.cell? ⟨b1, 7, none⟩ = some (.bool v12) ∧
 ∃ (v13 : Bool), w4.cell? ⟨b1, 8, none⟩ = some (.bool v13) ∧
 ∃ (v14 : Bool), w4.cell? ⟨b1, 9, none⟩ = some (.bool v14) ∧
 callE P i_impl_parser #[.agg #[.bool v5, .bool v6, .bool v7, .bool v8, .bool v9, .bool v10, .bool v11, .bool v12, .bool v13, .bool v14]] (fun e w16 => ∃ (r15 : OA), e = .returned (.pointer r15) ∧
 callE P i_Parser_Parse #[.pointer r15, .string x1] (fun e w18 => ∃ (r17 : OA), e = .returned (.pointer r17) ∧
 callE P i_impl_block #[.iface ty_P_Document (.pointer r17)] (fun e w20 => rt16 e fun r19 =>
 st16 w20 b3 r19 fun w36 =>
 ldB16 w36 b3 fun m37 =>
 R (.returned (m37.V)) w36) w18) w16) w4

namespace g_impl_Parse
noncomputable def ac (R : EP) : AC :=
 (.leaf (sel [] body))
theorem good (R : EP) : Good P 11 (ac R) (QF P [.cell 4 48] R) :=
 trivial
theorem eq (R : EP) (x0_0 x0_1 : Bool) (x0_2 x0_3 : Bool) (x0_4 x0_5 : Bool) (x0_6 x0_7 : Bool) (x0_8 x0_9 : Bool) (x1 : BA) (w : World) : g_impl_Parse R x0_0 x0_1 x0_2 x0_3 x0_4 x0_5 x0_6 x0_7 x0_8 x0_9 x1 w = vcA P 11 (ac R) (QF P [.cell 4 48] R) (fr0 [.agg #[.bool x0_0, .bool x0_1, .bool x0_2, .bool x0_3, .bool x0_4, .bool x0_5, .bool x0_6, .bool x0_7, .bool x0_8, .bool x0_9], .string x1]) w := by kernel_rfl
theorem sound {R : EP} {x0_0 x0_1 : Bool} {x0_2 x0_3 : Bool} {x0_4 x0_5 : Bool} {x0_6 x0_7 : Bool} {x0_8 x0_9 : Bool} {x1 : ByteArray} {w : World} (h : g_impl_Parse R x0_0 x0_1 x0_2 x0_3 x0_4 x0_5 x0_6 x0_7 x0_8 x0_9 x1 w) : callE P i_impl_Parse #[.agg #[.bool x0_0, .bool x0_1, .bool x0_2, .bool x0_3, .bool x0_4, .bool x0_5, .bool x0_6, .bool x0_7, .bool x0_8, .bool x0_9], .string x1] R w :=
 callE_fz (c := body) Tryz.func17 Tryz.call17 (good R) (eq R x0_0 x0_1 x0_2 x0_3 x0_4 x0_5 x0_6 x0_7 x0_8 x0_9 x1 w) h
end g_impl_Parse
namespace g_ZZWidth
noncomputable def body : Code := bodyOf Tryz.f58
end g_ZZWidth
def g_ZZWidth (R : EP) (x0 : OA) (w : World) : Prop :=
 nilP x0 fun a1 =>
 ∃ (v2 : Int), w.cell? (a1.add 3) = some (.int .i64 v2) ∧
 R (.returned (.int .i64 v2)) w

namespace g_ZZWidth
noncomputable def ac (R : EP) : AC :=
 (.leaf (sel [] body))
theorem good (R : EP) : Good P 7 (ac R) (QF P [.tmp 2] R) :=
 trivial
theorem eq (R : EP) (x0 : OA) (w : World) : g_ZZWidth R x0 w = vcA P 7 (ac R) (QF P [.tmp 2] R) (fr0 [.pointer x0]) w := by kernel_rfl
theorem sound {R : EP} {x0 : OA} {w : World} (h : g_ZZWidth R x0 w) : callE P i_ZZWidth #[.pointer x0] R w :=
 callE_fz (c := body) Tryz.func58 Tryz.call58 (good R) (eq R x0 w) h
end g_ZZWidth
namespace g_impl_block
noncomputable def body : Code := bodyOf Tryz.f41
def bl1 (R : EP) (Xa : Nat → Nat → Value → WP) (x2 x4 : Nat) (x45 : Value) (w : World) : Prop :=
 (∃ w641, (Instr.next x45 false ty_).run P w = .ok (.tuple #[.bool false]) w641 ∧
 ∃ (v642q : OA), ∃ (v642n : Nat), ∃ (v642c : Nat), w641.cell? ⟨x4, 15, none⟩ = some (.slice v642q v642n v642c) ∧
 callE P i_slices_SortFunc_impl_Def_impl_Def #[.slice v642q v642n v642c, .func (.func i_impl_block_1) #[] #[]] (fun e w644 => e = .returned (.tuple #[]) ∧
 ldB16 w644 x4 fun m645 =>
 st16 w644 x2 m645 fun w676 =>
 ldB16 w676 x2 fun m677 =>
 R (.returned (m677.V)) w676) w641) ∨
 (∃ (r693_0 : Value), ∃ (r693_1 : Value), ∃ w694, (Instr.next x45 false ty_).run P w = .ok (.tuple #[.bool true, r693_0, r693_1]) w694 ∧
 False)
def l1 (R : EP) (x2 x4 : Nat) (x45 : Value) (w : World) : Prop :=
 ∀ X : Nat → Nat → Value → WP, (∀ x2 x4 x45 w, bl1 R X x2 x4 x45 w → X x2 x4 x45 w) → X x2 x4 x45 w

noncomputable def al1 (R : EP) (Xa : Nat → Nat → Value → WP) : AC :=
 (.seq (.leaf (sel [1,1,1,0,1,0,1,0,1,1,0,1,0,0,0] body)) (.seq (.leaf (sel [1,1,1,0,1,0,1,0,1,1,0,1,0,0,1,0] body)) (.block 2 (.seq (.leaf (sel [1,1,1,0,1,0,1,0,1,1,0,1,0,0,1,1,0,0] body)) (.draw (.pure 0 (.pure 2 (.pure 3 (.pure 4 (.pure 5 (.pure 7 (.pure 8 (.pure 9 (.pure 11 (.pure 12 (.pure 13 (.load 1 (.load 6 (.load 10 (.load 14 (.one 15 (.pure 16 (.one 17 (.one 18 (.pure 19 (.one 20 .done))))))))))))))))))))) (sel [1,1,1,0,1,0,1,0,1,1,0,1,0,0,1,1,0,1] body))))))
def k1 (R : EP) (x2 x4 : Nat) (x9 : OA) (x117 : Bool) (w : World) : Prop :=
 br x117
 (nilP x9 fun a695 =>
 ∃ (v696 : Int), w.cell? (a695.add 3) = some (.int .i64 v696) ∧
 stV w ⟨x4, 3, none⟩ (.int .i64 v696) fun w697 =>
 ldB16 w697 x4 fun m698 =>
 st16 w697 x2 m698 fun w729 =>
 ldB16 w729 x2 fun m730 =>
 R (.returned (m730.V)) w729)
 (ldB16 w x4 fun m746 =>
 st16 w x2 m746 fun w777 =>
 ldB16 w777 x2 fun m778 =>
 R (.returned (m778.V)) w777)

def bl3 (R : EP) (Xb : Nat → Nat → OA → Nat → Nat → Int → Int → WP) (x2 x4 : Nat) (x252q : OA) (x252n x252c : Nat) (x253 x254 : Int) (w : World) : Prop :=
 br (decide (x254 < x253))
 (0 ≤ x254 ∧ x254 < (x252n : Int) ∧
 nilP x252q fun a809 =>
 ∃ (v810q : OA), ∃ (v810n : Nat), ∃ (v810c : Nat), w.cell? (a809.add (Int.toNat x254 * 1)) = some (.slice v810q v810n v810c) ∧
 tk w fun w811 =>
 ∃ (v812q : OA), ∃ (v812n : Nat), ∃ (v812c : Nat), w811.cell? ⟨x4, 7, none⟩ = some (.slice v812q v812n v812c) ∧
 callE P i_impl_row #[.slice v810q v810n v810c] (fun e w814 => rt16 e fun r813 =>
 SameC w811 w814 ⟨x4, 7, none⟩ 1 ∧
 ∃ (r815q : OA), ∃ (r815n : Nat), ∃ (r815c : Nat), ∃ w816, (Instr.buildSlice ty_S_impl_Node 1 #[(0, r813.V)]).run P w814 = .ok (.slice r815q r815n r815c) w816 ∧
 SameC w814 w816 ⟨x4, 7, none⟩ 1 ∧
 ∃ (r817q : OA), ∃ (r817n : Nat), ∃ (r817c : Nat), ∃ w818, (Builtin.append_ #[ty_S_impl_Node, ty_S_impl_Node] ty_S_impl_Node #[.slice v812q v812n v812c, .slice r815q r815n r815c]).run P w816 = .ok (.slice r817q r817n r817c) w818 ∧
 stV w818 ⟨x4, 7, none⟩ (.slice r817q r817n r817c) fun w819 =>
 Xb x2 x4 x252q x252n x252c x253 (IntKind.i64.wrap (x254 + 1)) w819) w811)
 (ldB16 w x4 fun m820 =>
 st16 w x2 m820 fun w851 =>
 ldB16 w851 x2 fun m852 =>
 R (.returned (m852.V)) w851)
def l3 (R : EP) (x2 x4 : Nat) (x252q : OA) (x252n x252c : Nat) (x253 x254 : Int) (w : World) : Prop :=
 ∀ X : Nat → Nat → OA → Nat → Nat → Int → Int → WP, (∀ x2 x4 x252q x252n x252c x253 x254 w, bl3 R X x2 x4 x252q x252n x252c x253 x254 w → X x2 x4 x252q x252n x252c x253 x254 w) → X x2 x4 x252q x252n x252c x253 x254 w

noncomputable def al3 (R : EP) (Xb : Nat → Nat → OA → Nat → Nat → Int → Int → WP) : AC :=
 (.seq (.leaf (sel [1,1,1,0,1,0,1,1,1,1,1,1,1,1,1,1,1,1,1,1,1,1,1,1,1,1,1,0,1,1,1,1,0,0,0] body)) (.seq (.leaf (sel [1,1,1,0,1,0,1,1,1,1,1,1,1,1,1,1,1,1,1,1,1,1,1,1,1,1,1,0,1,1,1,1,0,0,1,0] body)) (.seq (.block 6 (.seq (.leaf (sel [1,1,1,0,1,0,1,1,1,1,1,1,1,1,1,1,1,1,1,1,1,1,1,1,1,1,1,0,1,1,1,1,0,0,1,1,0,0,0] body)) (.draw (.pure 0 (.pure 2 (.load 1 (.one 3 (.one 4 (.one 5 (.pure 6 (.one 7 .done)))))))) (sel [1,1,1,0,1,0,1,1,1,1,1,1,1,1,1,1,1,1,1,1,1,1,1,1,1,1,1,0,1,1,1,1,0,0,1,1,0,0,1] body)))) (.leaf (sel [1,1,1,0,1,0,1,1,1,1,1,1,1,1,1,1,1,1,1,1,1,1,1,1,1,1,1,0,1,1,1,1,0,0,1,1,1] body)))))
def bl2 (R : EP) (Xc : Nat → Nat → OA → OA → Nat → Nat → Int → Int → WP) (x2 x4 : Nat) (x17 x234q : OA) (x234n x234c : Nat) (x235 x236 : Int) (w : World) : Prop :=
 br (decide (x236 < x235))
 (0 ≤ x236 ∧ x236 < (x234n : Int) ∧
 nilP x234q fun a794 =>
 ∃ (v795 : BA), w.cell? (a794.add (Int.toNat x236 * 1)) = some (.string v795) ∧
 tk w fun w796 =>
 ∃ (v797q : OA), ∃ (v797n : Nat), ∃ (v797c : Nat), w796.cell? ⟨x4, 6, none⟩ = some (.slice v797q v797n v797c) ∧
 ∃ (r798q : OA), ∃ (r798n : Nat), ∃ (r798c : Nat), ∃ w799, (Instr.buildSlice ty_S_string 4 #[(0, .string (ByteArray.mk #[])), (1, .string (ByteArray.mk #[108, 101, 102, 116])), (2, .string (ByteArray.mk #[99, 101, 110, 116, 101, 114])), (3, .string (ByteArray.mk #[114, 105, 103, 104, 116]))]).run P w796 = .ok (.slice r798q r798n r798c) w799 ∧
 SameC w796 w799 ⟨x4, 6, none⟩ 1 ∧
 callE P i_slices_Index_string_string #[.slice r798q r798n r798c, .string v795] (fun e w801 => ∃ (r800 : Int), e = .returned (.int .i64 r800) ∧
 SameC w799 w801 ⟨x4, 6, none⟩ 1 ∧
 ∃ (r802q : OA), ∃ (r802n : Nat), ∃ (r802c : Nat), ∃ w803, (Instr.buildSlice ty_S_int 1 #[(0, .int .i64 r800)]).run P w801 = .ok (.slice r802q r802n r802c) w803 ∧
 SameC w801 w803 ⟨x4, 6, none⟩ 1 ∧
 ∃ (r804q : OA), ∃ (r804n : Nat), ∃ (r804c : Nat), ∃ w805, (Builtin.append_ #[ty_S_int, ty_S_int] ty_S_int #[.slice v797q v797n v797c, .slice r802q r802n r802c]).run P w803 = .ok (.slice r804q r804n r804c) w805 ∧
 stV w805 ⟨x4, 6, none⟩ (.slice r804q r804n r804c) fun w806 =>
 Xc x2 x4 x17 x234q x234n x234c x235 (IntKind.i64.wrap (x236 + 1)) w806) w799)
 (nilP x17 fun a807 =>
 ∃ (v808q : OA), ∃ (v808n : Nat), ∃ (v808c : Nat), w.cell? (a807.add 4) = some (.slice v808q v808n v808c) ∧
 l3 R x2 x4 v808q v808n v808c (v808n : Int) 0 w)
def l2 (R : EP) (x2 x4 : Nat) (x17 x234q : OA) (x234n x234c : Nat) (x235 x236 : Int) (w : World) : Prop :=
 ∀ X : Nat → Nat → OA → OA → Nat → Nat → Int → Int → WP, (∀ x2 x4 x17 x234q x234n x234c x235 x236 w, bl2 R X x2 x4 x17 x234q x234n x234c x235 x236 w → X x2 x4 x17 x234q x234n x234c x235 x236 w) → X x2 x4 x17 x234q x234n x234c x235 x236 w

noncomputable def al2 (R : EP) (Xc : Nat → Nat → OA → OA → Nat → Nat → Int → Int → WP) : AC :=
 (.seq (.leaf (sel [1,1,1,0,1,0,1,1,1,1,1,1,1,1,1,1,1,1,1,1,1,1,1,1,1,1,1,0,1,1,0,1,0,0,0] body)) (.seq (.leaf (sel [1,1,1,0,1,0,1,1,1,1,1,1,1,1,1,1,1,1,1,1,1,1,1,1,1,1,1,0,1,1,0,1,0,0,1,0] body)) (.seq (.block 4 (.seq (.leaf (sel [1,1,1,0,1,0,1,1,1,1,1,1,1,1,1,1,1,1,1,1,1,1,1,1,1,1,1,0,1,1,0,1,0,0,1,1,0,0,0] body)) (.draw (.pure 0 (.pure 3 (.load 1 (.one 2 (.one 4 (.one 5 (.one 6 (.pure 7 (.one 8 .done))))))))) (sel [1,1,1,0,1,0,1,1,1,1,1,1,1,1,1,1,1,1,1,1,1,1,1,1,1,1,1,0,1,1,0,1,0,0,1,1,0,0,1] body)))) (.leaf (sel [1,1,1,0,1,0,1,1,1,1,1,1,1,1,1,1,1,1,1,1,1,1,1,1,1,1,1,0,1,1,0,1,0,0,1,1,1] body)))))
end g_impl_block
def g_impl_block (R : EP) (x0 : Value) (w : World) : Prop :=
 box w (N16.C {}) ty_impl_Node fun b1 w2 =>
 enterE P (callMethod x0 "Pos" #[]) (fun e w4 => ∃ (r3_0 : Int), ∃ (r3_1 : Int), e = .returned (.agg #[.int .i64 r3_0, .int .i64 r3_1]) ∧
 box w4 #[.int .i64 0, .int .i64 0] ty_Position fun b5 w6 =>
 stV w6 ⟨b5, 0, none⟩ (.int .i64 r3_0) fun w7 =>
 stV w7 ⟨b5, 1, none⟩ (.int .i64 r3_1) fun w8 =>
 ∃ (v9 : Int), w8.cell? ⟨b5, 0, none⟩ = some (.int .i64 v9) ∧
 ∃ (v10 : Int), w8.cell? ⟨b5, 1, none⟩ = some (.int .i64 v10) ∧
 box w8 (N16.C {}) ty_impl_Node fun b11 w12 =>
 st16 w12 b11 {a8 := v9, a9 := v10} fun w28 =>
 ∃ (r29_0 : OA), ∃ (r29_1 : Bool), ∃ w30, (Instr.typeAssert x0 ty_Block ty_P_Document true).run P w28 = .ok (.tuple #[.pointer r29_0, .bool r29_1]) w30 ∧
 br r29_1
 (nilP r29_0 fun a31 =>
 ∃ (v32q : OA), ∃ (v32n : Nat), ∃ (v32c : Nat), w30.cell? (a31.add 2) = some (.slice v32q v32n v32c) ∧
 callE P i_impl_blocks #[.slice v32q v32n v32c] (fun e w34 => ∃ (r33q : OA), ∃ (r33n : Nat), ∃ (r33c : Nat), e = .returned (.slice r33q r33n r33c) ∧
 stV w34 ⟨b11, 0, none⟩ (.int .i64 1) fun w35 =>
 stV w35 ⟨b11, 7, none⟩ (.slice r33q r33n r33c) fun w36 =>
 nilP r29_0 fun a37 =>
 ∃ (v38 : Option Nat), w36.cell? (a37.add 3) = some (.map v38) ∧
 ∃ (r39 : Value), ∃ w40, (Instr.range ty_map_string_P_Link (.map v38)).run P w36 = .ok r39 w40 ∧
 g_impl_block.l1 R b1 b11 r39 w40) w30)
 (∃ (r41_0 : OA), ∃ (r41_1 : Bool), ∃ w42, (Instr.typeAssert x0 ty_Block ty_P_Quote true).run P w30 = .ok (.tuple #[.pointer r41_0, .bool r41_1]) w42 ∧
 br r41_1
 (nilP r41_0 fun a43 =>
 ∃ (v44q : OA), ∃ (v44n : Nat), ∃ (v44c : Nat), w42.cell? (a43.add 2) = some (.slice v44q v44n v44c) ∧
 callE P i_impl_blocks #[.slice v44q v44n v44c] (fun e w46 => ∃ (r45q : OA), ∃ (r45n : Nat), ∃ (r45c : Nat), e = .returned (.slice r45q r45n r45c) ∧
 stV w46 ⟨b11, 0, none⟩ (.int .i64 2) fun w47 =>
 stV w47 ⟨b11, 7, none⟩ (.slice r45q r45n r45c) fun w48 =>
 ldB16 w48 b11 fun m49 =>
 st16 w48 b1 m49 fun w80 =>
 ldB16 w80 b1 fun m81 =>
 R (.returned (m81.V)) w80) w42)
 (∃ (r97_0 : OA), ∃ (r97_1 : Bool), ∃ w98, (Instr.typeAssert x0 ty_Block ty_P_List true).run P w42 = .ok (.tuple #[.pointer r97_0, .bool r97_1]) w98 ∧
 br r97_1
 (tk w98 fun w99 =>
 nilP r97_0 fun a100 =>
 nilP r97_0 fun a101 =>
 nilP r97_0 fun a102 =>
 ∃ (v103 : Int), w99.cell? (a100.add 2) = some (.int .i32 v103) ∧
 ∃ (v104 : Bool), w99.cell? (a101.add 4) = some (.bool v104) ∧
 ∃ (v105q : OA), ∃ (v105n : Nat), ∃ (v105c : Nat), w99.cell? (a102.add 5) = some (.slice v105q v105n v105c) ∧
 callE P i_impl_blocks #[.slice v105q v105n v105c] (fun e w107 => ∃ (r106q : OA), ∃ (r106n : Nat), ∃ (r106c : Nat), e = .returned (.slice r106q r106n r106c) ∧
 SameC w99 w107 (a101.add 4) 1 ∧
 SameC w99 w107 (a100.add 2) 1 ∧
 stV w107 ⟨b11, 0, none⟩ (.int .i64 3) fun w108 =>
 SameC w107 w108 (a101.add 4) 1 ∧
 SameC w107 w108 (a100.add 2) 1 ∧
 stV w108 ⟨b11, 3, none⟩ (.int .i64 (-1)) fun w109 =>
 SameC w108 w109 (a101.add 4) 1 ∧
 SameC w108 w109 (a100.add 2) 1 ∧
 stV w109 ⟨b11, 4, none⟩ (.string (Utf8.encode v103)) fun w110 =>
 SameC w109 w110 (a101.add 4) 1 ∧
 stV w110 ⟨b11, 5, none⟩ (.bool v104) fun w111 =>
 stV w111 ⟨b11, 7, none⟩ (.slice r106q r106n r106c) fun w112 =>
 nilP r97_0 fun a113 =>
 ∃ (v114 : Int), w112.cell? (a113.add 2) = some (.int .i32 v114) ∧
 br (v114 == 46)
 (g_impl_block.k1 R b1 b11 r97_0 true w112)
 (nilP r97_0 fun a115 =>
 ∃ (v116 : Int), w112.cell? (a115.add 2) = some (.int .i32 v116) ∧
 g_impl_block.k1 R b1 b11 r97_0 (v116 == 41) w112)) w99)
 (∃ (r117_0 : OA), ∃ (r117_1 : Bool), ∃ w118, (Instr.typeAssert x0 ty_Block ty_P_Item true).run P w98 = .ok (.tuple #[.pointer r117_0, .bool r117_1]) w118 ∧
 br r117_1
 (tk w118 fun w119 =>
 nilP r117_0 fun a120 =>
 ∃ (v121q : OA), ∃ (v121n : Nat), ∃ (v121c : Nat), w119.cell? (a120.add 2) = some (.slice v121q v121n v121c) ∧
 callE P i_ZZWidth #[.pointer r117_0] (fun e w123 => ∃ (r122 : Int), e = .returned (.int .i64 r122) ∧
 SameC w119 w123 (a120.add 2) 1 ∧
 callE P i_impl_blocks #[.slice v121q v121n v121c] (fun e w125 => ∃ (r124q : OA), ∃ (r124n : Nat), ∃ (r124c : Nat), e = .returned (.slice r124q r124n r124c) ∧
 stV w125 ⟨b11, 0, none⟩ (.int .i64 4) fun w126 =>
 stV w126 ⟨b11, 11, none⟩ (.int .i64 r122) fun w127 =>
 stV w127 ⟨b11, 7, none⟩ (.slice r124q r124n r124c) fun w128 =>
 ldB16 w128 b11 fun m129 =>
 st16 w128 b1 m129 fun w160 =>
 ldB16 w160 b1 fun m161 =>
 R (.returned (m161.V)) w160) w123) w119)
 (∃ (r177_0 : OA), ∃ (r177_1 : Bool), ∃ w178, (Instr.typeAssert x0 ty_Block ty_P_Heading true).run P w118 = .ok (.tuple #[.pointer r177_0, .bool r177_1]) w178 ∧
 br r177_1
 (tk w178 fun w179 =>
 nilP r177_0 fun a180 =>
 nilP r177_0 fun a181 =>
 nilP r177_0 fun a182 =>
 ∃ (v183 : Int), w179.cell? (a180.add 2) = some (.int .i64 v183) ∧
 ∃ (v184 : BA), w179.cell? (a181.add 4) = some (.string v184) ∧
 ∃ (v185 : OA), w179.cell? (a182.add 3) = some (.pointer v185) ∧
 nilP v185 fun a186 =>
 ∃ (v187q : OA), ∃ (v187n : Nat), ∃ (v187c : Nat), w179.cell? (a186.add 2) = some (.slice v187q v187n v187c) ∧
 callE P i_impl_inlines #[.slice v187q v187n v187c] (fun e w189 => ∃ (r188q : OA), ∃ (r188n : Nat), ∃ (r188c : Nat), e = .returned (.slice r188q r188n r188c) ∧
 SameC w179 w189 (a181.add 4) 1 ∧
 SameC w179 w189 (a180.add 2) 1 ∧
 stV w189 ⟨b11, 0, none⟩ (.int .i64 5) fun w190 =>
 SameC w189 w190 (a181.add 4) 1 ∧
 SameC w189 w190 (a180.add 2) 1 ∧
 stV w190 ⟨b11, 3, none⟩ (.int .i64 v183) fun w191 =>
 SameC w190 w191 (a181.add 4) 1 ∧
 stV w191 ⟨b11, 2, none⟩ (.string v184) fun w192 =>
 stV w192 ⟨b11, 7, none⟩ (.slice r188q r188n r188c) fun w193 =>
 ldB16 w193 b11 fun m194 =>
 st16 w193 b1 m194 fun w225 =>
 ldB16 w225 b1 fun m226 =>
 R (.returned (m226.V)) w225) w179)
 (∃ (r242_0 : OA), ∃ (r242_1 : Bool), ∃ w243, (Instr.typeAssert x0 ty_Block ty_P_Paragraph true).run P w178 = .ok (.tuple #[.pointer r242_0, .bool r242_1]) w243 ∧
 br r242_1
 (nilP r242_0 fun a244 =>
 ∃ (v245 : OA), w243.cell? (a244.add 2) = some (.pointer v245) ∧
 nilP v245 fun a246 =>
 ∃ (v247q : OA), ∃ (v247n : Nat), ∃ (v247c : Nat), w243.cell? (a246.add 2) = some (.slice v247q v247n v247c) ∧
 callE P i_impl_inlines #[.slice v247q v247n v247c] (fun e w249 => ∃ (r248q : OA), ∃ (r248n : Nat), ∃ (r248c : Nat), e = .returned (.slice r248q r248n r248c) ∧
 stV w249 ⟨b11, 0, none⟩ (.int .i64 6) fun w250 =>
 stV w250 ⟨b11, 7, none⟩ (.slice r248q r248n r248c) fun w251 =>
 ldB16 w251 b11 fun m252 =>
 st16 w251 b1 m252 fun w283 =>
 ldB16 w283 b1 fun m284 =>
 R (.returned (m284.V)) w283) w243)
 (∃ (r300_0 : OA), ∃ (r300_1 : Bool), ∃ w301, (Instr.typeAssert x0 ty_Block ty_P_Text true).run P w243 = .ok (.tuple #[.pointer r300_0, .bool r300_1]) w301 ∧
 br r300_1
 (nilP r300_0 fun a302 =>
 ∃ (v303q : OA), ∃ (v303n : Nat), ∃ (v303c : Nat), w301.cell? (a302.add 2) = some (.slice v303q v303n v303c) ∧
 callE P i_impl_inlines #[.slice v303q v303n v303c] (fun e w305 => ∃ (r304q : OA), ∃ (r304n : Nat), ∃ (r304c : Nat), e = .returned (.slice r304q r304n r304c) ∧
 stV w305 ⟨b11, 0, none⟩ (.int .i64 6) fun w306 =>
 stV w306 ⟨b11, 12, none⟩ (.bool true) fun w307 =>
 stV w307 ⟨b11, 7, none⟩ (.slice r304q r304n r304c) fun w308 =>
 ldB16 w308 b11 fun m309 =>
 st16 w308 b1 m309 fun w340 =>
 ldB16 w340 b1 fun m341 =>
 R (.returned (m341.V)) w340) w301)
 (∃ (r357_0 : OA), ∃ (r357_1 : Bool), ∃ w358, (Instr.typeAssert x0 ty_Block ty_P_CodeBlock true).run P w301 = .ok (.tuple #[.pointer r357_0, .bool r357_1]) w358 ∧
 br r357_1
 (tk w358 fun w359 =>
 nilP r357_0 fun a360 =>
 nilP r357_0 fun a361 =>
 nilP r357_0 fun a362 =>
 ∃ (v363 : BA), w359.cell? (a360.add 3) = some (.string v363) ∧
 ∃ (v364 : BA), w359.cell? (a361.add 2) = some (.string v364) ∧
 ∃ (v365q : OA), ∃ (v365n : Nat), ∃ (v365c : Nat), w359.cell? (a362.add 4) = some (.slice v365q v365n v365c) ∧
 callE P i_impl_lines #[.slice v365q v365n v365c] (fun e w367 => ∃ (r366 : BA), e = .returned (.string r366) ∧
 SameC w359 w367 (a361.add 2) 1 ∧
 SameC w359 w367 (a360.add 3) 1 ∧
 stV w367 ⟨b11, 0, none⟩ (.int .i64 7) fun w368 =>
 SameC w367 w368 (a361.add 2) 1 ∧
 SameC w367 w368 (a360.add 3) 1 ∧
 stV w368 ⟨b11, 2, none⟩ (.string v363) fun w369 =>
 SameC w368 w369 (a361.add 2) 1 ∧
 stV w369 ⟨b11, 10, none⟩ (.string v364) fun w370 =>
 stV w370 ⟨b11, 1, none⟩ (.string r366) fun w371 =>
 ldB16 w371 b11 fun m372 =>
 st16 w371 b1 m372 fun w403 =>
 ldB16 w403 b1 fun m404 =>
 R (.returned (m404.V)) w403) w359)
 (∃ (r420_0 : OA), ∃ (r420_1 : Bool), ∃ w421, (Instr.typeAssert x0 ty_Block ty_P_HTMLBlock true).run P w358 = .ok (.tuple #[.pointer r420_0, .bool r420_1]) w421 ∧
 br r420_1
 (nilP r420_0 fun a422 =>
 ∃ (v423q : OA), ∃ (v423n : Nat), ∃ (v423c : Nat), w421.cell? (a422.add 2) = some (.slice v423q v423n v423c) ∧
 callE P i_impl_lines #[.slice v423q v423n v423c] (fun e w425 => ∃ (r424 : BA), e = .returned (.string r424) ∧
 stV w425 ⟨b11, 0, none⟩ (.int .i64 8) fun w426 =>
 stV w426 ⟨b11, 1, none⟩ (.string r424) fun w427 =>
 ldB16 w427 b11 fun m428 =>
 st16 w427 b1 m428 fun w459 =>
 ldB16 w459 b1 fun m460 =>
 R (.returned (m460.V)) w459) w421)
 (∃ (r476_0 : OA), ∃ (r476_1 : Bool), ∃ w477, (Instr.typeAssert x0 ty_Block ty_P_ThematicBreak true).run P w421 = .ok (.tuple #[.pointer r476_0, .bool r476_1]) w477 ∧
 br r476_1
 (callE P i_ZZRaw #[.pointer r476_0] (fun e w479 => ∃ (r478 : BA), e = .returned (.string r478) ∧
 stV w479 ⟨b11, 0, none⟩ (.int .i64 9) fun w480 =>
 stV w480 ⟨b11, 10, none⟩ (.string r478) fun w481 =>
 ldB16 w481 b11 fun m482 =>
 st16 w481 b1 m482 fun w513 =>
 ldB16 w513 b1 fun m514 =>
 R (.returned (m514.V)) w513) w477)
 (∃ (r530_0 : OA), ∃ (r530_1 : Bool), ∃ w531, (Instr.typeAssert x0 ty_Block ty_P_Table true).run P w477 = .ok (.tuple #[.pointer r530_0, .bool r530_1]) w531 ∧
 br r530_1
 (nilP r530_0 fun a532 =>
 ∃ (v533q : OA), ∃ (v533n : Nat), ∃ (v533c : Nat), w531.cell? (a532.add 2) = some (.slice v533q v533n v533c) ∧
 callE P i_impl_row #[.slice v533q v533n v533c] (fun e w535 => rt16 e fun r534 =>
 ∃ (r536q : OA), ∃ (r536n : Nat), ∃ (r536c : Nat), ∃ w537, (Instr.buildSlice ty_S_impl_Node 1 #[(0, r534.V)]).run P w535 = .ok (.slice r536q r536n r536c) w537 ∧
 stV w537 ⟨b11, 0, none⟩ (.int .i64 10) fun w538 =>
 stV w538 ⟨b11, 7, none⟩ (.slice r536q r536n r536c) fun w539 =>
 nilP r530_0 fun a540 =>
 ∃ (v541q : OA), ∃ (v541n : Nat), ∃ (v541c : Nat), w539.cell? (a540.add 3) = some (.slice v541q v541n v541c) ∧
 g_impl_block.l2 R b1 b11 r530_0 v541q v541n v541c (v541n : Int) 0 w539) w531)
 (∃ (r542_0 : OA), ∃ (r542_1 : Bool), ∃ w543, (Instr.typeAssert x0 ty_Block ty_P_Empty true).run P w531 = .ok (.tuple #[.pointer r542_0, .bool r542_1]) w543 ∧
 br r542_1
 (stV w543 ⟨b11, 0, none⟩ (.int .i64 13) fun w544 =>
 ldB16 w544 b11 fun m545 =>
 st16 w544 b1 m545 fun w576 =>
 ldB16 w576 b1 fun m577 =>
 R (.returned (m577.V)) w576)
 (ldB16 w543 b11 fun m593 =>
 st16 w543 b1 m593 fun w624 =>
 ldB16 w624 b1 fun m625 =>
 R (.returned (m625.V)) w624))))))))))))) w2

namespace g_impl_block
noncomputable def ac (R : EP) : AC :=
 (.seq (.leaf (sel [0] body)) (.seq (.leaf (sel [1,0] body)) (.seq (.leaf (sel [1,1,0] body)) (.seq (.seq (.leaf (sel [1,1,1,0,0] body)) (.block 0 (.seq (.leaf (sel [1,1,1,0,1,0,0] body)) (.cond 32 (.seq (.leaf (sel [1,1,1,0,1,0,1,0,0] body)) (.seq (.leaf (sel [1,1,1,0,1,0,1,0,1,0] body)) (.seq (.seq (.leaf (sel [1,1,1,0,1,0,1,0,1,1,0,0] body)) (.block 1 (.loop (leaf [(2, .s .loc), (4, .s .loc), (45, .s .any)] (l1 R)) (sel [1,1,1,0,1,0,1,0,1,1,0,1,0,0] body)))) (.leaf (sel [1,1,1,0,1,0,1,0,1,1,1] body))))) (.seq (.leaf (sel [1,1,1,0,1,0,1,1,0] body)) (.cond 75 (.leaf (sel [1,1,1,0,1,0,1,1,1,0] body)) (.seq (.leaf (sel [1,1,1,0,1,0,1,1,1,1,0] body)) (.cond 85 (.seq (.leaf (sel [1,1,1,0,1,0,1,1,1,1,1,0,0] body)) (.seq (.draw (.pure 0 (.pure 1 (.pure 2 (.pure 5 (.pure 6 (.pure 7 (.pure 9 (.pure 10 (.pure 11 (.pure 14 (.load 3 (.pure 4 (.load 8 (.load 12 (.one 13 (.one 15 (.pure 16 (.one 17 (.pure 18 (.one 19 (.pure 20 (.one 21 (.pure 22 (.one 23 .done)))))))))))))))))))))))) (sel [1,1,1,0,1,0,1,1,1,1,1,0,1,0] body)) (.seq (.leaf (sel [1,1,1,0,1,0,1,1,1,1,1,0,1,1,0] body)) (.mark (leaf [(2, .s .loc), (4, .s .loc), (9, .s .ptr), (117, .s .bool)] (k1 R)) (.leaf (sel [1,1,1,0,1,0,1,1,1,1,1,0,1,1,1] body)))))) (.seq (.leaf (sel [1,1,1,0,1,0,1,1,1,1,1,1,0] body)) (.cond 124 (.seq (.leaf (sel [1,1,1,0,1,0,1,1,1,1,1,1,1,0,0] body)) (.draw (.pure 0 (.pure 2 (.pure 3 (.pure 4 (.pure 7 (.load 5 (.one 1 (.one 6 (.one 8 (.pure 9 (.one 10 (.pure 11 (.one 12 .done))))))))))))) (sel [1,1,1,0,1,0,1,1,1,1,1,1,1,0,1] body))) (.seq (.leaf (sel [1,1,1,0,1,0,1,1,1,1,1,1,1,1,0] body)) (.cond 137 (.seq (.leaf (sel [1,1,1,0,1,0,1,1,1,1,1,1,1,1,1,0,0] body)) (.draw (.pure 0 (.pure 1 (.pure 2 (.pure 4 (.pure 5 (.pure 6 (.pure 8 (.pure 9 (.pure 10 (.pure 16 (.load 3 (.load 7 (.load 11 (.pure 12 (.pure 13 (.load 14 (.one 15 (.one 17 (.pure 18 (.one 19 (.pure 20 (.one 21 (.pure 22 (.one 23 .done)))))))))))))))))))))))) (sel [1,1,1,0,1,0,1,1,1,1,1,1,1,1,1,0,1] body))) (.seq (.leaf (sel [1,1,1,0,1,0,1,1,1,1,1,1,1,1,1,1,0] body)) (.cond 160 (.leaf (sel [1,1,1,0,1,0,1,1,1,1,1,1,1,1,1,1,1,0] body)) (.seq (.leaf (sel [1,1,1,0,1,0,1,1,1,1,1,1,1,1,1,1,1,1,0] body)) (.cond 173 (.leaf (sel [1,1,1,0,1,0,1,1,1,1,1,1,1,1,1,1,1,1,1,0] body)) (.seq (.leaf (sel [1,1,1,0,1,0,1,1,1,1,1,1,1,1,1,1,1,1,1,1,0] body)) (.cond 184 (.seq (.leaf (sel [1,1,1,0,1,0,1,1,1,1,1,1,1,1,1,1,1,1,1,1,1,0,0] body)) (.draw (.pure 0 (.pure 1 (.pure 2 (.pure 4 (.pure 5 (.pure 6 (.pure 8 (.pure 9 (.pure 10 (.pure 13 (.load 3 (.load 7 (.load 11 (.one 12 (.one 14 (.pure 15 (.one 16 (.pure 17 (.one 18 (.pure 19 (.one 20 .done))))))))))))))))))))) (sel [1,1,1,0,1,0,1,1,1,1,1,1,1,1,1,1,1,1,1,1,1,0,1] body))) (.seq (.leaf (sel [1,1,1,0,1,0,1,1,1,1,1,1,1,1,1,1,1,1,1,1,1,1,0] body)) (.cond 204 (.leaf (sel [1,1,1,0,1,0,1,1,1,1,1,1,1,1,1,1,1,1,1,1,1,1,1,0] body)) (.seq (.leaf (sel [1,1,1,0,1,0,1,1,1,1,1,1,1,1,1,1,1,1,1,1,1,1,1,1,0] body)) (.cond 214 (.leaf (sel [1,1,1,0,1,0,1,1,1,1,1,1,1,1,1,1,1,1,1,1,1,1,1,1,1,0] body)) (.seq (.leaf (sel [1,1,1,0,1,0,1,1,1,1,1,1,1,1,1,1,1,1,1,1,1,1,1,1,1,1,0] body)) (.cond 221 (.seq (.leaf (sel [1,1,1,0,1,0,1,1,1,1,1,1,1,1,1,1,1,1,1,1,1,1,1,1,1,1,1,0,0] body)) (.seq (.leaf (sel [1,1,1,0,1,0,1,1,1,1,1,1,1,1,1,1,1,1,1,1,1,1,1,1,1,1,1,0,1,0] body)) (.seq (.seq (.leaf (sel [1,1,1,0,1,0,1,1,1,1,1,1,1,1,1,1,1,1,1,1,1,1,1,1,1,1,1,0,1,1,0,0] body)) (.block 3 (.loop (leaf [(2, .s .loc), (4, .s .loc), (17, .s .ptr), (234, .s .slice), (235, .s (.int .i64)), (236, .s (.int .i64))] (l2 R)) (sel [1,1,1,0,1,0,1,1,1,1,1,1,1,1,1,1,1,1,1,1,1,1,1,1,1,1,1,0,1,1,0,1,0,0] body)))) (.seq (.leaf (sel [1,1,1,0,1,0,1,1,1,1,1,1,1,1,1,1,1,1,1,1,1,1,1,1,1,1,1,0,1,1,1,0] body)) (.block 5 (.loop (leaf [(2, .s .loc), (4, .s .loc), (252, .s .slice), (253, .s (.int .i64)), (254, .s (.int .i64))] (l3 R)) (sel [1,1,1,0,1,0,1,1,1,1,1,1,1,1,1,1,1,1,1,1,1,1,1,1,1,1,1,0,1,1,1,1,0,0] body))))))) (.leaf (sel [1,1,1,0,1,0,1,1,1,1,1,1,1,1,1,1,1,1,1,1,1,1,1,1,1,1,1,1] body)))))))))))))))))))))))))) (.leaf (sel [1,1,1,1] body))))))
theorem good (R : EP) : Good P 271 (ac R) (QF P [.cell 2 48] R) :=
 ⟨trivial, ⟨trivial, ⟨trivial, ⟨⟨trivial, ⟨trivial, ⟨⟨trivial, ⟨trivial, ⟨⟨trivial, (loopG (al1 R) (bl1 R) (fun _ => by kernel_rfl) (fun Xa => ⟨trivial, ⟨trivial, ⟨trivial, ⟨by kernel_rfl, by kernel_rfl, fun _ _ _ h => h⟩⟩⟩⟩) (fun Xa => by intro x2 x4 x45 ρ w; kernel_rfl) (fun X h _ _ _ _ g => g X h))⟩, trivial⟩⟩⟩, ⟨trivial, ⟨trivial, ⟨trivial, ⟨⟨trivial, ⟨⟨by kernel_rfl, by kernel_rfl, fun _ _ _ h => h⟩, ⟨trivial, ⟨trivial, cutZ⟩⟩⟩⟩, ⟨trivial, ⟨⟨trivial, ⟨by kernel_rfl, by kernel_rfl, fun _ _ _ h => h⟩⟩, ⟨trivial, ⟨⟨trivial, ⟨by kernel_rfl, by kernel_rfl, fun _ _ _ h => h⟩⟩, ⟨trivial, ⟨trivial, ⟨trivial, ⟨trivial, ⟨trivial, ⟨⟨trivial, ⟨by kernel_rfl, by kernel_rfl, fun _ _ _ h => h⟩⟩, ⟨trivial, ⟨trivial, ⟨trivial, ⟨trivial, ⟨trivial, ⟨⟨trivial, ⟨trivial, ⟨⟨trivial, (loopG (al2 R) (bl2 R) (fun _ => by kernel_rfl) (fun Xc => ⟨trivial, ⟨trivial, ⟨⟨trivial, ⟨by kernel_rfl, by kernel_rfl, fun _ _ _ h => h⟩⟩, trivial⟩⟩⟩) (fun Xc => by intro x2 x4 x17 x234q x234n x234c x235 x236 ρ w; kernel_rfl) (fun X h _ _ _ _ _ _ _ _ _ g => g X h))⟩, ⟨trivial, (loopG (al3 R) (bl3 R) (fun _ => by kernel_rfl) (fun Xb => ⟨trivial, ⟨trivial, ⟨⟨trivial, ⟨by kernel_rfl, by kernel_rfl, fun _ _ _ h => h⟩⟩, trivial⟩⟩⟩) (fun Xb => by intro x2 x4 x252q x252n x252c x253 x254 ρ w; kernel_rfl) (fun X h _ _ _ _ _ _ _ _ g => g X h))⟩⟩⟩⟩, trivial⟩⟩⟩⟩⟩⟩⟩⟩⟩⟩⟩⟩⟩⟩⟩⟩⟩⟩⟩⟩⟩⟩⟩, trivial⟩⟩⟩⟩
theorem eq (R : EP) (x0 : Value) (w : World) : g_impl_block R x0 w = vcA P 271 (ac R) (QF P [.cell 2 48] R) (fr0 [x0]) w := by kernel_rfl
theorem sound {R : EP} {x0 : Value} {w : World} (h : g_impl_block R x0 w) : callE P i_impl_block #[x0] R w :=
 callE_fz (c := body) Tryz.func41 Tryz.call41 (good R) (eq R x0 w) h
end g_impl_block
namespace g_math_bits_Len
noncomputable def body : Code := bodyOf Tryz.f79
end g_math_bits_Len
def g_math_bits_Len (R : EP) (x0 : Int) (w : World) : Prop :=
 callE P i_math_bits_Len64 #[.int .u64 x0] (fun e w2 => ∃ (r1 : Int), e = .returned (.int .i64 r1) ∧
 R (.returned (.int .i64 r1)) w2) w

namespace g_math_bits_Len
noncomputable def ac (R : EP) : AC :=
 (.leaf (sel [] body))
theorem good (R : EP) : Good P 8 (ac R) (QF P [.tmp 2] R) :=
 trivial
theorem eq (R : EP) (x0 : Int) (w : World) : g_math_bits_Len R x0 w = vcA P 8 (ac R) (QF P [.tmp 2] R) (fr0 [.int .u64 x0]) w := by kernel_rfl
theorem sound {R : EP} {x0 : Int} {w : World} (h : g_math_bits_Len R x0 w) : callE P i_math_bits_Len #[.int .u64 x0] R w :=
 callE_fz (c := body) Tryz.func79 Tryz.call79 (good R) (eq R x0 w) h
end g_math_bits_Len
namespace g_math_bits_Len64
noncomputable def body : Code := bodyOf Tryz.f119
def k3 (R : EP) (x0 x2 : Int) (w : World) : Prop :=
 0 ≤ (IntKind.u8.wrap x0) ∧ (IntKind.u8.wrap x0) < ((ByteArray.mk #[0, 1, 2, 2, 3, 3, 3, 3, 4, 4, 4, 4, 4, 4, 4, 4, 5, 5, 5, 5, 5, 5, 5, 5, 5, 5, 5, 5, 5, 5, 5, 5, 6, 6, 6, 6, 6, 6, 6, 6, 6, 6, 6, 6, 6, 6, 6, 6, 6, 6, 6, 6, 6, 6, 6, 6, 6, 6, 6, 6, 6, 6, 6, 6, 7, 7, 7, 7, 7, 7, 7, 7, 7, 7, 7, 7, 7, 7, 7, 7, 7, 7, 7, 7, 7, 7, 7, 7, 7, 7, 7, 7, 7, 7, 7, 7, 7, 7, 7, 7, 7, 7, 7, 7, 7, 7, 7, 7, 7, 7, 7, 7, 7, 7, 7, 7, 7, 7, 7, 7, 7, 7, 7, 7, 7, 7, 7, 7, 8, 8, 8, 8, 8, 8, 8, 8, 8, 8, 8, 8, 8, 8, 8, 8, 8, 8, 8, 8, 8, 8, 8, 8, 8, 8, 8, 8, 8, 8, 8, 8, 8, 8, 8, 8, 8, 8, 8, 8, 8, 8, 8, 8, 8, 8, 8, 8, 8, 8, 8, 8, 8, 8, 8, 8, 8, 8, 8, 8, 8, 8, 8, 8, 8, 8, 8, 8, 8, 8, 8, 8, 8, 8, 8, 8, 8, 8, 8, 8, 8, 8, 8, 8, 8, 8, 8, 8, 8, 8, 8, 8, 8, 8, 8, 8, 8, 8, 8, 8, 8, 8, 8, 8, 8, 8, 8, 8, 8, 8, 8, 8, 8, 8, 8, 8, 8, 8, 8, 8, 8, 8, 8, 8, 8, 8, 8, 8]).size : Int) ∧
 R (.returned (.int .i64 (IntKind.i64.wrap (x2 + (IntKind.i64.wrap (bt (ByteArray.mk #[0, 1, 2, 2, 3, 3, 3, 3, 4, 4, 4, 4, 4, 4, 4, 4, 5, 5, 5, 5, 5, 5, 5, 5, 5, 5, 5, 5, 5, 5, 5, 5, 6, 6, 6, 6, 6, 6, 6, 6, 6, 6, 6, 6, 6, 6, 6, 6, 6, 6, 6, 6, 6, 6, 6, 6, 6, 6, 6, 6, 6, 6, 6, 6, 7, 7, 7, 7, 7, 7, 7, 7, 7, 7, 7, 7, 7, 7, 7, 7, 7, 7, 7, 7, 7, 7, 7, 7, 7, 7, 7, 7, 7, 7, 7, 7, 7, 7, 7, 7, 7, 7, 7, 7, 7, 7, 7, 7, 7, 7, 7, 7, 7, 7, 7, 7, 7, 7, 7, 7, 7, 7, 7, 7, 7, 7, 7, 7, 8, 8, 8, 8, 8, 8, 8, 8, 8, 8, 8, 8, 8, 8, 8, 8, 8, 8, 8, 8, 8, 8, 8, 8, 8, 8, 8, 8, 8, 8, 8, 8, 8, 8, 8, 8, 8, 8, 8, 8, 8, 8, 8, 8, 8, 8, 8, 8, 8, 8, 8, 8, 8, 8, 8, 8, 8, 8, 8, 8, 8, 8, 8, 8, 8, 8, 8, 8, 8, 8, 8, 8, 8, 8, 8, 8, 8, 8, 8, 8, 8, 8, 8, 8, 8, 8, 8, 8, 8, 8, 8, 8, 8, 8, 8, 8, 8, 8, 8, 8, 8, 8, 8, 8, 8, 8, 8, 8, 8, 8, 8, 8, 8, 8, 8, 8, 8, 8, 8, 8, 8, 8, 8, 8, 8, 8, 8, 8]) (IntKind.u8.wrap x0))))))) w

def k2 (R : EP) (x0 x2 : Int) (w : World) : Prop :=
 br (decide (x0 ≥ 256))
 (0 ≤ (8 : Int) ∧
 k3 R (Int.fdiv x0 (2 ^ (min (Int.toNat 8) 64))) (IntKind.i64.wrap (x2 + 8)) w)
 (k3 R x0 x2 w)

def k1 (R : EP) (x0 x2 : Int) (w : World) : Prop :=
 br (decide (x0 ≥ 65536))
 (0 ≤ (16 : Int) ∧
 k2 R (Int.fdiv x0 (2 ^ (min (Int.toNat 16) 64))) (IntKind.i64.wrap (x2 + 16)) w)
 (k2 R x0 x2 w)

end g_math_bits_Len64
def g_math_bits_Len64 (R : EP) (x0 : Int) (w : World) : Prop :=
 br (decide (x0 ≥ 4294967296))
 (0 ≤ (32 : Int) ∧
 g_math_bits_Len64.k1 R (Int.fdiv x0 (2 ^ (min (Int.toNat 32) 64))) 32 w)
 (g_math_bits_Len64.k1 R x0 0 w)

namespace g_math_bits_Len64
noncomputable def ac (R : EP) : AC :=
 (.seq (.leaf (sel [0] body)) (.seq (.leaf (sel [1,0] body)) (.mark (leaf [(0, .s (.int .u64)), (2, .s (.int .i64))] (k1 R)) (.seq (.leaf (sel [1,1,0] body)) (.mark (leaf [(0, .s (.int .u64)), (2, .s (.int .i64))] (k2 R)) (.seq (.leaf (sel [1,1,1,0] body)) (.mark (leaf [(0, .s (.int .u64)), (2, .s (.int .i64))] (k3 R)) (.leaf (sel [1,1,1,1] body)))))))))
theorem good (R : EP) : Good P 25 (ac R) (QF P [.tmp 2] R) :=
 ⟨trivial, ⟨trivial, ⟨⟨trivial, ⟨⟨trivial, ⟨trivial, cutZ⟩⟩, cutZ⟩⟩, cutZ⟩⟩⟩
theorem eq (R : EP) (x0 : Int) (w : World) : g_math_bits_Len64 R x0 w = vcA P 25 (ac R) (QF P [.tmp 2] R) (fr0 [.int .u64 x0]) w := by kernel_rfl
theorem sound {R : EP} {x0 : Int} {w : World} (h : g_math_bits_Len64 R x0 w) : callE P i_math_bits_Len64 #[.int .u64 x0] R w :=
 callE_fz (c := body) Tryz.func119 Tryz.call119 (good R) (eq R x0 w) h
end g_math_bits_Len64
namespace g_slices_SortFunc_impl_Def_impl_Def
noncomputable def body : Code := bodyOf Tryz.f55
end g_slices_SortFunc_impl_Def_impl_Def
def g_slices_SortFunc_impl_Def_impl_Def (R : EP) (x0q : OA) (x0n x0c : Nat) (x1 : Value) (w : World) : Prop :=
 callE P i_math_bits_Len #[.int .u64 (IntKind.u64.wrap (x0n : Int))] (fun e w2 => ∃ (r1 : Int), e = .returned (.int .i64 r1) ∧
 callE P i_slices_pdqsortCmpFunc_impl_Def #[.slice x0q x0n x0c, .int .i64 0, .int .i64 (x0n : Int), .int .i64 r1, x1] (fun e w4 => e = .returned (.tuple #[]) ∧
 R (.returned (.tuple #[])) w4) w2) w

namespace g_slices_SortFunc_impl_Def_impl_Def
noncomputable def ac (R : EP) : AC :=
 (.leaf (sel [] body))
theorem good (R : EP) : Good P 14 (ac R) (QF P [] R) :=
 trivial
theorem eq (R : EP) (x0q : OA) (x0n x0c : Nat) (x1 : Value) (w : World) : g_slices_SortFunc_impl_Def_impl_Def R x0q x0n x0c x1 w = vcA P 14 (ac R) (QF P [] R) (fr0 [.slice x0q x0n x0c, x1]) w := by kernel_rfl
theorem sound {R : EP} {x0q : OA} {x0n x0c : Nat} {x1 : Value} {w : World} (h : g_slices_SortFunc_impl_Def_impl_Def R x0q x0n x0c x1 w) : callE P i_slices_SortFunc_impl_Def_impl_Def #[.slice x0q x0n x0c, x1] R w :=
 callE_fz (c := body) Tryz.func55 Tryz.call55 (good R) (eq R x0q x0n x0c x1 w) h
end g_slices_SortFunc_impl_Def_impl_Def
namespace g_slices_insertionSortCmpFunc_impl_Def
noncomputable def body : Code := bodyOf Tryz.f110
def k1 (R : EP) (Xa : OA → Nat → Nat → Int → Int → Value → Int → WP) (Xb : OA → Nat → Nat → Int → Int → Value → Int → Int → WP) (x0q : OA) (x0n x0c : Nat) (x1 x2 : Int) (x3 : Value) (x8 x9 : Int) (w : World) : Prop :=
 tk w fun w14 =>
 0 ≤ (IntKind.i64.wrap (x9 - 1)) ∧ (IntKind.i64.wrap (x9 - 1)) < (x0n : Int) ∧
 nilP x0q fun a15 =>
 0 ≤ x9 ∧ x9 < (x0n : Int) ∧
 nilP x0q fun a16 =>
 ∃ (v17 : BA), w14.cell? ((a15.add (Int.toNat (IntKind.i64.wrap (x9 - 1)) * 4)).add 0) = some (.string v17) ∧
 ∃ (v18 : BA), w14.cell? ((a15.add (Int.toNat (IntKind.i64.wrap (x9 - 1)) * 4)).add 1) = some (.string v18) ∧
 ∃ (v19 : BA), w14.cell? ((a15.add (Int.toNat (IntKind.i64.wrap (x9 - 1)) * 4)).add 2) = some (.string v19) ∧
 ∃ (v20 : BA), w14.cell? ((a15.add (Int.toNat (IntKind.i64.wrap (x9 - 1)) * 4)).add 3) = some (.string v20) ∧
 ∃ (v21 : BA), w14.cell? ((a16.add (Int.toNat x9 * 4)).add 0) = some (.string v21) ∧
 ∃ (v22 : BA), w14.cell? ((a16.add (Int.toNat x9 * 4)).add 1) = some (.string v22) ∧
 ∃ (v23 : BA), w14.cell? ((a16.add (Int.toNat x9 * 4)).add 2) = some (.string v23) ∧
 ∃ (v24 : BA), w14.cell? ((a16.add (Int.toNat x9 * 4)).add 3) = some (.string v24) ∧
 0 ≤ x9 ∧ x9 < (x0n : Int) ∧
 nilP x0q fun a25 =>
 stV w14 ((a25.add (Int.toNat x9 * 4)).add 0) (.string v17) fun w26 =>
 stV w26 ((a25.add (Int.toNat x9 * 4)).add 1) (.string v18) fun w27 =>
 stV w27 ((a25.add (Int.toNat x9 * 4)).add 2) (.string v19) fun w28 =>
 stV w28 ((a25.add (Int.toNat x9 * 4)).add 3) (.string v20) fun w29 =>
 0 ≤ (IntKind.i64.wrap (x9 - 1)) ∧ (IntKind.i64.wrap (x9 - 1)) < (x0n : Int) ∧
 nilP x0q fun a30 =>
 stV w29 ((a30.add (Int.toNat (IntKind.i64.wrap (x9 - 1)) * 4)).add 0) (.string v21) fun w31 =>
 stV w31 ((a30.add (Int.toNat (IntKind.i64.wrap (x9 - 1)) * 4)).add 1) (.string v22) fun w32 =>
 stV w32 ((a30.add (Int.toNat (IntKind.i64.wrap (x9 - 1)) * 4)).add 2) (.string v23) fun w33 =>
 stV w33 ((a30.add (Int.toNat (IntKind.i64.wrap (x9 - 1)) * 4)).add 3) (.string v24) fun w34 =>
 Xb x0q x0n x0c x1 x2 x3 x8 (IntKind.i64.wrap (x9 - 1)) w34

def bl2 (R : EP) (Xa : OA → Nat → Nat → Int → Int → Value → Int → WP) (Xb : OA → Nat → Nat → Int → Int → Value → Int → Int → WP) (x0q : OA) (x0n x0c : Nat) (x1 x2 : Int) (x3 : Value) (x8 x9 : Int) (w : World) : Prop :=
 tk w fun w1 =>
 br (decide (x9 > x1))
 (0 ≤ x9 ∧ x9 < (x0n : Int) ∧
 nilP x0q fun a2 =>
 0 ≤ (IntKind.i64.wrap (x9 - 1)) ∧ (IntKind.i64.wrap (x9 - 1)) < (x0n : Int) ∧
 nilP x0q fun a3 =>
 ∃ (v4 : BA), w1.cell? ((a2.add (Int.toNat x9 * 4)).add 0) = some (.string v4) ∧
 ∃ (v5 : BA), w1.cell? ((a2.add (Int.toNat x9 * 4)).add 1) = some (.string v5) ∧
 ∃ (v6 : BA), w1.cell? ((a2.add (Int.toNat x9 * 4)).add 2) = some (.string v6) ∧
 ∃ (v7 : BA), w1.cell? ((a2.add (Int.toNat x9 * 4)).add 3) = some (.string v7) ∧
 ∃ (v8 : BA), w1.cell? ((a3.add (Int.toNat (IntKind.i64.wrap (x9 - 1)) * 4)).add 0) = some (.string v8) ∧
 ∃ (v9 : BA), w1.cell? ((a3.add (Int.toNat (IntKind.i64.wrap (x9 - 1)) * 4)).add 1) = some (.string v9) ∧
 ∃ (v10 : BA), w1.cell? ((a3.add (Int.toNat (IntKind.i64.wrap (x9 - 1)) * 4)).add 2) = some (.string v10) ∧
 ∃ (v11 : BA), w1.cell? ((a3.add (Int.toNat (IntKind.i64.wrap (x9 - 1)) * 4)).add 3) = some (.string v11) ∧
 enterE P (do let d ← Deferred.ofValue x3 #[.agg #[.string v4, .string v5, .string v6, .string v7], .agg #[.string v8, .string v9, .string v10, .string v11]]; invoke d.target d.args) (fun e w13 => ∃ (r12 : Int), e = .returned (.int .i64 r12) ∧
 br (decide (r12 < 0))
 (k1 R Xa Xb x0q x0n x0c x1 x2 x3 x8 x9 w13)
 (Xa x0q x0n x0c x1 x2 x3 (IntKind.i64.wrap (x8 + 1)) w13)) w1)
 (Xa x0q x0n x0c x1 x2 x3 (IntKind.i64.wrap (x8 + 1)) w1)
def l2 (R : EP) (Xa : OA → Nat → Nat → Int → Int → Value → Int → WP) (x0q : OA) (x0n x0c : Nat) (x1 x2 : Int) (x3 : Value) (x8 x9 : Int) (w : World) : Prop :=
 ∀ X : OA → Nat → Nat → Int → Int → Value → Int → Int → WP, (∀ x0q x0n x0c x1 x2 x3 x8 x9 w, bl2 R Xa X x0q x0n x0c x1 x2 x3 x8 x9 w → X x0q x0n x0c x1 x2 x3 x8 x9 w) → X x0q x0n x0c x1 x2 x3 x8 x9 w

noncomputable def al2 (R : EP) (Xa : OA → Nat → Nat → Int → Int → Value → Int → WP) (Xb : OA → Nat → Nat → Int → Int → Value → Int → Int → WP) : AC :=
 (.seq (.seq (.draw (.pure 0 (.pure 1 (.pure 2 (.pure 3 (.pure 4 (.pure 5 (.pure 6 (.pure 7 (.pure 9 (.pure 10 (.pure 11 (.pure 12 (.load 8 (.load 13 (.one 14 (.pure 15 (.pure 16 .done))))))))))))))))) (sel [1,0,0,1,0,0,1,0,0,0,0] body)) (.leaf (sel [1,0,0,1,0,0,1,0,0,0,1] body))) (.mark (leaf [(0, .s .slice), (1, .s (.int .i64)), (2, .s (.int .i64)), (3, .s .any), (8, .s (.int .i64)), (9, .s (.int .i64))] (k1 R Xa Xb)) (.seq (.block 3 (.draw (.pure 0 (.pure 1 (.pure 2 (.pure 3 (.pure 4 (.pure 5 (.pure 6 (.pure 7 (.pure 8 (.pure 10 (.pure 11 (.pure 12 (.load 9 (.load 13 (.pure 14 (.one 15 (.pure 16 (.one 17 .done)))))))))))))))))) (sel [1,0,0,1,0,0,1,0,0,1,0,0] body))) (.leaf (sel [1,0,0,1,0,0,1,0,0,1,1] body)))))
def bl1 (R : EP) (Xa : OA → Nat → Nat → Int → Int → Value → Int → WP) (x0q : OA) (x0n x0c : Nat) (x1 x2 : Int) (x3 : Value) (x8 : Int) (w : World) : Prop :=
 br (decide (x8 < x2))
 (l2 R Xa x0q x0n x0c x1 x2 x3 x8 x8 w)
 (R (.returned (.tuple #[])) w)
def l1 (R : EP) (x0q : OA) (x0n x0c : Nat) (x1 x2 : Int) (x3 : Value) (x8 : Int) (w : World) : Prop :=
 ∀ X : OA → Nat → Nat → Int → Int → Value → Int → WP, (∀ x0q x0n x0c x1 x2 x3 x8 w, bl1 R X x0q x0n x0c x1 x2 x3 x8 w → X x0q x0n x0c x1 x2 x3 x8 w) → X x0q x0n x0c x1 x2 x3 x8 w

noncomputable def al1 (R : EP) (Xa : OA → Nat → Nat → Int → Int → Value → Int → WP) : AC :=
 (.seq (.leaf (sel [1,0,0,0] body)) (.seq (.block 1 (.seq (.leaf (sel [1,0,0,1,0,0,0] body)) (.block 2 (.loop (leaf [(0, .s .slice), (1, .s (.int .i64)), (2, .s (.int .i64)), (3, .s .any), (8, .s (.int .i64)), (9, .s (.int .i64))] (l2 R Xa)) (sel [1,0,0,1,0,0,1,0,0] body))))) (.leaf (sel [1,0,0,1,1] body))))
end g_slices_insertionSortCmpFunc_impl_Def
def g_slices_insertionSortCmpFunc_impl_Def (R : EP) (x0q : OA) (x0n x0c : Nat) (x1 x2 : Int) (x3 : Value) (w : World) : Prop :=
 g_slices_insertionSortCmpFunc_impl_Def.l1 R x0q x0n x0c x1 x2 x3 (IntKind.i64.wrap (x1 + 1)) w

namespace g_slices_insertionSortCmpFunc_impl_Def
noncomputable def ac (R : EP) : AC :=
 (.seq (.leaf (sel [0] body)) (.block 0 (.loop (leaf [(0, .s .slice), (1, .s (.int .i64)), (2, .s (.int .i64)), (3, .s .any), (8, .s (.int .i64))] (l1 R)) (sel [1,0,0] body))))
theorem good (R : EP) : Good P 53 (ac R) (QF P [] R) :=
 ⟨trivial, (loopG (al1 R) (bl1 R) (fun _ => by kernel_rfl) (fun Xa => ⟨trivial, ⟨⟨trivial, (loopG (al2 R Xa) (bl2 R Xa) (fun _ => by kernel_rfl) (fun Xb => ⟨⟨⟨by kernel_rfl, by kernel_rfl, fun _ _ _ h => h⟩, trivial⟩, ⟨⟨⟨by kernel_rfl, by kernel_rfl, fun _ _ _ h => h⟩, trivial⟩, cutZ⟩⟩) (fun Xb => by intro x0q x0n x0c x1 x2 x3 x8 x9 ρ w; kernel_rfl) (fun X h _ _ _ _ _ _ _ _ _ g => g X h))⟩, trivial⟩⟩) (fun Xa => by intro x0q x0n x0c x1 x2 x3 x8 ρ w; kernel_rfl) (fun X h _ _ _ _ _ _ _ _ g => g X h))⟩
theorem eq (R : EP) (x0q : OA) (x0n x0c : Nat) (x1 x2 : Int) (x3 : Value) (w : World) : g_slices_insertionSortCmpFunc_impl_Def R x0q x0n x0c x1 x2 x3 w = vcA P 53 (ac R) (QF P [] R) (fr0 [.slice x0q x0n x0c, .int .i64 x1, .int .i64 x2, x3]) w := by kernel_rfl
theorem sound {R : EP} {x0q : OA} {x0n x0c : Nat} {x1 x2 : Int} {x3 : Value} {w : World} (h : g_slices_insertionSortCmpFunc_impl_Def R x0q x0n x0c x1 x2 x3 w) : callE P i_slices_insertionSortCmpFunc_impl_Def #[.slice x0q x0n x0c, .int .i64 x1, .int .i64 x2, x3] R w :=
 callE_fz (c := body) Tryz.func110 Tryz.call110 (good R) (eq R x0q x0n x0c x1 x2 x3 w) h
end g_slices_insertionSortCmpFunc_impl_Def
namespace g_slices_pdqsortCmpFunc_impl_Def
noncomputable def body : Code := bodyOf Tryz.f78
def k5 (R : EP) (Xa : OA → Nat → Nat → Int → Int → Int → Value → Bool → Bool → WP) (x0q : OA) (x0n x0c : Nat) (x1 x2 x3 : Int) (x4 : Value) (x10 x11 : Bool) (x12 x13 : Int) (x97 : Bool) (w : World) : Prop :=
 br x97
 (callE P i_slices_partitionEqualCmpFunc_impl_Def #[.slice x0q x0n x0c, .int .i64 x1, .int .i64 x2, .int .i64 x13, x4] (fun e w27 => ∃ (r26 : Int), e = .returned (.int .i64 r26) ∧
 Xa x0q x0n x0c r26 x2 x3 x4 x10 x11 w27) w)
 (callE P i_slices_partitionCmpFunc_impl_Def #[.slice x0q x0n x0c, .int .i64 x1, .int .i64 x2, .int .i64 x13, x4] (fun e w29 => ∃ (r28_0 : Int), ∃ (r28_1 : Bool), e = .returned (.tuple #[.int .i64 r28_0, .bool r28_1]) ∧
 (8 : Int) ≠ 0 ∧
 br (decide ((IntKind.i64.wrap (r28_0 - x1)) < (IntKind.i64.wrap (x2 - r28_0))))
 (callE P i_slices_pdqsortCmpFunc_impl_Def #[.slice x0q x0n x0c, .int .i64 x1, .int .i64 r28_0, .int .i64 x3, x4] (fun e w31 => e = .returned (.tuple #[]) ∧
 Xa x0q x0n x0c (IntKind.i64.wrap (r28_0 + 1)) x2 x3 x4 (decide ((IntKind.i64.wrap (r28_0 - x1)) ≥ (IntKind.i64.wrap (Int.tdiv x12 8)))) r28_1 w31) w29)
 (callE P i_slices_pdqsortCmpFunc_impl_Def #[.slice x0q x0n x0c, .int .i64 (IntKind.i64.wrap (r28_0 + 1)), .int .i64 x2, .int .i64 x3, x4] (fun e w33 => e = .returned (.tuple #[]) ∧
 Xa x0q x0n x0c x1 r28_0 x3 x4 (decide ((IntKind.i64.wrap (x2 - r28_0)) ≥ (IntKind.i64.wrap (Int.tdiv x12 8)))) r28_1 w33) w29)) w)

def k4 (R : EP) (Xa : OA → Nat → Nat → Int → Int → Int → Value → Bool → Bool → WP) (x0q : OA) (x0n x0c : Nat) (x1 x2 x3 : Int) (x4 : Value) (x10 x11 : Bool) (x12 x13 : Int) (w : World) : Prop :=
 tk w fun w13 =>
 br (decide (x1 > 0))
 (0 ≤ (IntKind.i64.wrap (x1 - 1)) ∧ (IntKind.i64.wrap (x1 - 1)) < (x0n : Int) ∧
 nilP x0q fun a14 =>
 0 ≤ x13 ∧ x13 < (x0n : Int) ∧
 nilP x0q fun a15 =>
 ∃ (v16 : BA), w13.cell? ((a14.add (Int.toNat (IntKind.i64.wrap (x1 - 1)) * 4)).add 0) = some (.string v16) ∧
 ∃ (v17 : BA), w13.cell? ((a14.add (Int.toNat (IntKind.i64.wrap (x1 - 1)) * 4)).add 1) = some (.string v17) ∧
 ∃ (v18 : BA), w13.cell? ((a14.add (Int.toNat (IntKind.i64.wrap (x1 - 1)) * 4)).add 2) = some (.string v18) ∧
 ∃ (v19 : BA), w13.cell? ((a14.add (Int.toNat (IntKind.i64.wrap (x1 - 1)) * 4)).add 3) = some (.string v19) ∧
 ∃ (v20 : BA), w13.cell? ((a15.add (Int.toNat x13 * 4)).add 0) = some (.string v20) ∧
 ∃ (v21 : BA), w13.cell? ((a15.add (Int.toNat x13 * 4)).add 1) = some (.string v21) ∧
 ∃ (v22 : BA), w13.cell? ((a15.add (Int.toNat x13 * 4)).add 2) = some (.string v22) ∧
 ∃ (v23 : BA), w13.cell? ((a15.add (Int.toNat x13 * 4)).add 3) = some (.string v23) ∧
 enterE P (do let d ← Deferred.ofValue x4 #[.agg #[.string v16, .string v17, .string v18, .string v19], .agg #[.string v20, .string v21, .string v22, .string v23]]; invoke d.target d.args) (fun e w25 => ∃ (r24 : Int), e = .returned (.int .i64 r24) ∧
 k5 R Xa x0q x0n x0c x1 x2 x3 x4 x10 x11 x12 x13 (!(decide (r24 < 0))) w25) w13)
 (k5 R Xa x0q x0n x0c x1 x2 x3 x4 x10 x11 x12 x13 false w13)

def k3 (R : EP) (Xa : OA → Nat → Nat → Int → Int → Int → Value → Bool → Bool → WP) (x0q : OA) (x0n x0c : Nat) (x1 x2 x3 : Int) (x4 : Value) (x10 x11 : Bool) (x12 x13 : Int) (x75 : Bool) (w : World) : Prop :=
 br x75
 (callE P i_slices_partialInsertionSortCmpFunc_impl_Def #[.slice x0q x0n x0c, .int .i64 x1, .int .i64 x2, x4] (fun e w12 => ∃ (r11 : Bool), e = .returned (.bool r11) ∧
 br r11
 (R (.returned (.tuple #[])) w12)
 (k4 R Xa x0q x0n x0c x1 x2 x3 x4 x10 x11 x12 x13 w12)) w)
 (k4 R Xa x0q x0n x0c x1 x2 x3 x4 x10 x11 x12 x13 w)

def k2 (R : EP) (Xa : OA → Nat → Nat → Int → Int → Int → Value → Bool → Bool → WP) (x0q : OA) (x0n x0c : Nat) (x1 x2 x3 : Int) (x4 : Value) (x10 x11 : Bool) (x12 x13 x14 : Int) (w : World) : Prop :=
 k3 R Xa x0q x0n x0c x1 x2 x3 x4 x10 x11 x12 x13 ((x10 && x11) && (x14 == 1)) w

def k1 (R : EP) (Xa : OA → Nat → Nat → Int → Int → Int → Value → Bool → Bool → WP) (x0q : OA) (x0n x0c : Nat) (x1 x2 x3 : Int) (x4 : Value) (x10 x11 : Bool) (x12 : Int) (w : World) : Prop :=
 callE P i_slices_choosePivotCmpFunc_impl_Def #[.slice x0q x0n x0c, .int .i64 x1, .int .i64 x2, x4] (fun e w8 => ∃ (r7_0 : Int), ∃ (r7_1 : Int), e = .returned (.tuple #[.int .i64 r7_0, .int .i64 r7_1]) ∧
 br (r7_1 == 2)
 (callE P i_slices_reverseRangeCmpFunc_impl_Def #[.slice x0q x0n x0c, .int .i64 x1, .int .i64 x2, x4] (fun e w10 => e = .returned (.tuple #[]) ∧
 k2 R Xa x0q x0n x0c x1 x2 x3 x4 x10 x11 x12 (IntKind.i64.wrap ((IntKind.i64.wrap (x2 - 1)) - (IntKind.i64.wrap (r7_0 - x1)))) 1 w10) w8)
 (k2 R Xa x0q x0n x0c x1 x2 x3 x4 x10 x11 x12 r7_0 r7_1 w8)) w

def bl1 (R : EP) (Xa : OA → Nat → Nat → Int → Int → Int → Value → Bool → Bool → WP) (x0q : OA) (x0n x0c : Nat) (x1 x2 x3 : Int) (x4 : Value) (x10 x11 : Bool) (w : World) : Prop :=
 br (decide ((IntKind.i64.wrap (x2 - x1)) ≤ 12))
 (callE P i_slices_insertionSortCmpFunc_impl_Def #[.slice x0q x0n x0c, .int .i64 x1, .int .i64 x2, x4] (fun e w2 => e = .returned (.tuple #[]) ∧
 R (.returned (.tuple #[])) w2) w)
 (br (x3 == 0)
 (callE P i_slices_heapSortCmpFunc_impl_Def #[.slice x0q x0n x0c, .int .i64 x1, .int .i64 x2, x4] (fun e w4 => e = .returned (.tuple #[]) ∧
 R (.returned (.tuple #[])) w4) w)
 (br (!x10)
 (callE P i_slices_breakPatternsCmpFunc_impl_Def #[.slice x0q x0n x0c, .int .i64 x1, .int .i64 x2, x4] (fun e w6 => e = .returned (.tuple #[]) ∧
 k1 R Xa x0q x0n x0c x1 x2 (IntKind.i64.wrap (x3 - 1)) x4 x10 x11 (IntKind.i64.wrap (x2 - x1)) w6) w)
 (k1 R Xa x0q x0n x0c x1 x2 x3 x4 x10 x11 (IntKind.i64.wrap (x2 - x1)) w)))
def l1 (R : EP) (x0q : OA) (x0n x0c : Nat) (x1 x2 x3 : Int) (x4 : Value) (x10 x11 : Bool) (w : World) : Prop :=
 ∀ X : OA → Nat → Nat → Int → Int → Int → Value → Bool → Bool → WP, (∀ x0q x0n x0c x1 x2 x3 x4 x10 x11 w, bl1 R X x0q x0n x0c x1 x2 x3 x4 x10 x11 w → X x0q x0n x0c x1 x2 x3 x4 x10 x11 w) → X x0q x0n x0c x1 x2 x3 x4 x10 x11 w

noncomputable def al1 (R : EP) (Xa : OA → Nat → Nat → Int → Int → Int → Value → Bool → Bool → WP) : AC :=
 (.block 1 (.seq (.leaf (sel [1,1,0,0,0,0] body)) (.seq (.leaf (sel [1,1,0,0,0,1,0] body)) (.seq (.leaf (sel [1,1,0,0,0,1,1,0] body)) (.seq (.leaf (sel [1,1,0,0,0,1,1,1,0] body)) (.mark (leaf [(0, .s .slice), (1, .s (.int .i64)), (2, .s (.int .i64)), (3, .s (.int .i64)), (4, .s .any), (10, .s .bool), (11, .s .bool), (12, .s (.int .i64))] (k1 R Xa)) (.seq (.leaf (sel [1,1,0,0,0,1,1,1,1,0] body)) (.seq (.leaf (sel [1,1,0,0,0,1,1,1,1,1,0] body)) (.mark (leaf [(0, .s .slice), (1, .s (.int .i64)), (2, .s (.int .i64)), (3, .s (.int .i64)), (4, .s .any), (10, .s .bool), (11, .s .bool), (12, .s (.int .i64)), (13, .s (.int .i64)), (14, .s (.int .i64))] (k2 R Xa)) (.seq (.seq (.leaf (sel [1,1,0,0,0,1,1,1,1,1,1,0,0] body)) (.mark (leaf [(0, .s .slice), (1, .s (.int .i64)), (2, .s (.int .i64)), (3, .s (.int .i64)), (4, .s .any), (10, .s .bool), (11, .s .bool), (12, .s (.int .i64)), (13, .s (.int .i64)), (75, .s .bool)] (k3 R Xa)) (.leaf (sel [1,1,0,0,0,1,1,1,1,1,1,0,1] body)))) (.mark (leaf [(0, .s .slice), (1, .s (.int .i64)), (2, .s (.int .i64)), (3, .s (.int .i64)), (4, .s .any), (10, .s .bool), (11, .s .bool), (12, .s (.int .i64)), (13, .s (.int .i64))] (k4 R Xa)) (.seq (.seq (.draw (.pure 0 (.pure 1 (.pure 2 (.pure 3 (.pure 4 (.pure 5 (.pure 6 (.pure 7 (.pure 9 (.pure 10 (.pure 11 (.load 8 (.load 12 (.one 13 (.pure 14 (.pure 15 (.pure 16 .done))))))))))))))))) (sel [1,1,0,0,0,1,1,1,1,1,1,1,0,0] body)) (.mark (leaf [(0, .s .slice), (1, .s (.int .i64)), (2, .s (.int .i64)), (3, .s (.int .i64)), (4, .s .any), (10, .s .bool), (11, .s .bool), (12, .s (.int .i64)), (13, .s (.int .i64)), (97, .s .bool)] (k5 R Xa)) (.leaf (sel [1,1,0,0,0,1,1,1,1,1,1,1,0,1] body)))) (.leaf (sel [1,1,0,0,0,1,1,1,1,1,1,1,1] body))))))))))))))
end g_slices_pdqsortCmpFunc_impl_Def
def g_slices_pdqsortCmpFunc_impl_Def (R : EP) (x0q : OA) (x0n x0c : Nat) (x1 x2 x3 : Int) (x4 : Value) (w : World) : Prop :=
 g_slices_pdqsortCmpFunc_impl_Def.l1 R x0q x0n x0c x1 x2 x3 x4 true true w

namespace g_slices_pdqsortCmpFunc_impl_Def
noncomputable def ac (R : EP) : AC :=
 (.seq (.leaf (sel [0] body)) (.seq (.leaf (sel [1,0] body)) (.block 0 (.loop (leaf [(0, .s .slice), (1, .s (.int .i64)), (2, .s (.int .i64)), (3, .s (.int .i64)), (4, .s .any), (10, .s .bool), (11, .s .bool)] (l1 R)) (sel [1,1,0,0] body)))))
theorem good (R : EP) : Good P 148 (ac R) (QF P [] R) :=
 ⟨trivial, ⟨trivial, (loopG (al1 R) (bl1 R) (fun _ => by kernel_rfl) (fun Xa => ⟨trivial, ⟨trivial, ⟨trivial, ⟨trivial, ⟨⟨trivial, ⟨trivial, ⟨⟨⟨trivial, ⟨trivial, cutZ⟩⟩, ⟨⟨⟨⟨by kernel_rfl, by kernel_rfl, fun _ _ _ h => h⟩, ⟨trivial, cutZ⟩⟩, trivial⟩, cutZ⟩⟩, cutZ⟩⟩⟩, cutZ⟩⟩⟩⟩⟩) (fun Xa => by intro x0q x0n x0c x1 x2 x3 x4 x10 x11 ρ w; kernel_rfl) (fun X h _ _ _ _ _ _ _ _ _ _ g => g X h))⟩⟩
theorem eq (R : EP) (x0q : OA) (x0n x0c : Nat) (x1 x2 x3 : Int) (x4 : Value) (w : World) : g_slices_pdqsortCmpFunc_impl_Def R x0q x0n x0c x1 x2 x3 x4 w = vcA P 148 (ac R) (QF P [] R) (fr0 [.slice x0q x0n x0c, .int .i64 x1, .int .i64 x2, .int .i64 x3, x4]) w := by kernel_rfl
theorem sound {R : EP} {x0q : OA} {x0n x0c : Nat} {x1 x2 x3 : Int} {x4 : Value} {w : World} (h : g_slices_pdqsortCmpFunc_impl_Def R x0q x0n x0c x1 x2 x3 x4 w) : callE P i_slices_pdqsortCmpFunc_impl_Def #[.slice x0q x0n x0c, .int .i64 x1, .int .i64 x2, .int .i64 x3, x4] R w :=
 callE_fz (c := body) Tryz.func78 Tryz.call78 (good R) (eq R x0q x0n x0c x1 x2 x3 x4 w) h
end g_slices_pdqsortCmpFunc_impl_Def
namespace g_ZZPlain
noncomputable def body : Code := bodyOf Tryz.f121
end g_ZZPlain
def g_ZZPlain (R : EP) (x0 : Value) (w : World) : Prop :=
 callE P i_toPlain #[x0] (fun e w2 => ∃ (r1 : OA), e = .returned (.pointer r1) ∧
 R (.returned (.pointer r1)) w2) w

namespace g_ZZPlain
noncomputable def ac (R : EP) : AC :=
 (.leaf (sel [] body))
theorem good (R : EP) : Good P 5 (ac R) (QF P [.tmp 2] R) :=
 trivial
theorem eq (R : EP) (x0 : Value) (w : World) : g_ZZPlain R x0 w = vcA P 5 (ac R) (QF P [.tmp 2] R) (fr0 [x0]) w := by kernel_rfl
theorem sound {R : EP} {x0 : Value} {w : World} (h : g_ZZPlain R x0 w) : callE P i_ZZPlain #[x0] R w :=
 callE_fz (c := body) Tryz.func121 Tryz.call121 (good R) (eq R x0 w) h
end g_ZZPlain
namespace g_impl_inline
noncomputable def body : Code := bodyOf Tryz.f81
end g_impl_inline
def g_impl_inline (R : EP) (x0 : Value) (w : World) : Prop :=
 box w (N16.C {}) ty_impl_Node fun b1 w2 =>
 callE P i_ZZPlain #[x0] (fun e w4 => ∃ (r3 : OA), e = .returned (.pointer r3) ∧
 ∃ (r5 : Bool), ∃ w6, (do eqGuard .neq ty_P_Plain (.tmp 19) (.const (.pointer none)) (.pointer r3) (.pointer none); binOp .neq ty_P_Plain (.pointer r3) (.pointer none)).run P w4 = .ok (.bool r5) w6 ∧
 br r5
 (nilP r3 fun a7 =>
 ∃ (v8 : BA), w6.cell? a7 = some (.string v8) ∧
 st16 w6 b1 {a0 := 20, a1 := v8} fun w24 =>
 ldB16 w24 b1 fun m25 =>
 R (.returned (m25.V)) w24)
 (∃ (r41_0 : OA), ∃ (r41_1 : Bool), ∃ w42, (Instr.typeAssert x0 ty_Inline ty_P_Escaped true).run P w6 = .ok (.tuple #[.pointer r41_0, .bool r41_1]) w42 ∧
 br r41_1
 (nilP r41_0 fun a43 =>
 ∃ (v44 : BA), w42.cell? a43 = some (.string v44) ∧
 st16 w42 b1 {a0 := 20, a1 := v44, a13 := true} fun w60 =>
 ldB16 w60 b1 fun m61 =>
 R (.returned (m61.V)) w60)
 (∃ (r77_0 : OA), ∃ (r77_1 : Bool), ∃ w78, (Instr.typeAssert x0 ty_Inline ty_P_SoftBreak true).run P w42 = .ok (.tuple #[.pointer r77_0, .bool r77_1]) w78 ∧
 br r77_1
 (st16 w78 b1 {a0 := 21} fun w94 =>
 ldB16 w94 b1 fun m95 =>
 R (.returned (m95.V)) w94)
 (∃ (r111_0 : OA), ∃ (r111_1 : Bool), ∃ w112, (Instr.typeAssert x0 ty_Inline ty_P_HardBreak true).run P w78 = .ok (.tuple #[.pointer r111_0, .bool r111_1]) w112 ∧
 br r111_1
 (st16 w112 b1 {a0 := 22} fun w128 =>
 ldB16 w128 b1 fun m129 =>
 R (.returned (m129.V)) w128)
 (∃ (r145_0 : OA), ∃ (r145_1 : Bool), ∃ w146, (Instr.typeAssert x0 ty_Inline ty_P_Code true).run P w112 = .ok (.tuple #[.pointer r145_0, .bool r145_1]) w146 ∧
 br r145_1
 (nilP r145_0 fun a147 =>
 ∃ (v148 : BA), w146.cell? a147 = some (.string v148) ∧
 st16 w146 b1 {a0 := 23, a1 := v148} fun w164 =>
 ldB16 w164 b1 fun m165 =>
 R (.returned (m165.V)) w164)
 (∃ (r181_0 : OA), ∃ (r181_1 : Bool), ∃ w182, (Instr.typeAssert x0 ty_Inline ty_P_Emph true).run P w146 = .ok (.tuple #[.pointer r181_0, .bool r181_1]) w182 ∧
 br r181_1
 (tk w182 fun w183 =>
 nilP r181_0 fun a184 =>
 nilP r181_0 fun a185 =>
 ∃ (v186 : BA), w183.cell? a184 = some (.string v186) ∧
 ∃ (v187q : OA), ∃ (v187n : Nat), ∃ (v187c : Nat), w183.cell? (a185.add 1) = some (.slice v187q v187n v187c) ∧
 callE P i_impl_inlines #[.slice v187q v187n v187c] (fun e w189 => ∃ (r188q : OA), ∃ (r188n : Nat), ∃ (r188c : Nat), e = .returned (.slice r188q r188n r188c) ∧
 SameC w183 w189 (a184) 1 ∧
 st16 w189 b1 {a0 := 24, q7 := r188q, n7 := r188n, c7 := r188c, a10 := v186} fun w205 =>
 ldB16 w205 b1 fun m206 =>
 R (.returned (m206.V)) w205) w183)
 (∃ (r222_0 : OA), ∃ (r222_1 : Bool), ∃ w223, (Instr.typeAssert x0 ty_Inline ty_P_Strong true).run P w182 = .ok (.tuple #[.pointer r222_0, .bool r222_1]) w223 ∧
 br r222_1
 (tk w223 fun w224 =>
 nilP r222_0 fun a225 =>
 nilP r222_0 fun a226 =>
 ∃ (v227 : BA), w224.cell? a225 = some (.string v227) ∧
 ∃ (v228q : OA), ∃ (v228n : Nat), ∃ (v228c : Nat), w224.cell? (a226.add 1) = some (.slice v228q v228n v228c) ∧
 callE P i_impl_inlines #[.slice v228q v228n v228c] (fun e w230 => ∃ (r229q : OA), ∃ (r229n : Nat), ∃ (r229c : Nat), e = .returned (.slice r229q r229n r229c) ∧
 SameC w224 w230 (a225) 1 ∧
 st16 w230 b1 {a0 := 25, q7 := r229q, n7 := r229n, c7 := r229c, a10 := v227} fun w246 =>
 ldB16 w246 b1 fun m247 =>
 R (.returned (m247.V)) w246) w224)
 (∃ (r263_0 : OA), ∃ (r263_1 : Bool), ∃ w264, (Instr.typeAssert x0 ty_Inline ty_P_Del true).run P w223 = .ok (.tuple #[.pointer r263_0, .bool r263_1]) w264 ∧
 br r263_1
 (tk w264 fun w265 =>
 nilP r263_0 fun a266 =>
 nilP r263_0 fun a267 =>
 ∃ (v268 : BA), w265.cell? a266 = some (.string v268) ∧
 ∃ (v269q : OA), ∃ (v269n : Nat), ∃ (v269c : Nat), w265.cell? (a267.add 1) = some (.slice v269q v269n v269c) ∧
 callE P i_impl_inlines #[.slice v269q v269n v269c] (fun e w271 => ∃ (r270q : OA), ∃ (r270n : Nat), ∃ (r270c : Nat), e = .returned (.slice r270q r270n r270c) ∧
 SameC w265 w271 (a266) 1 ∧
 st16 w271 b1 {a0 := 26, q7 := r270q, n7 := r270n, c7 := r270c, a10 := v268} fun w287 =>
 ldB16 w287 b1 fun m288 =>
 R (.returned (m288.V)) w287) w265)
 (∃ (r304_0 : OA), ∃ (r304_1 : Bool), ∃ w305, (Instr.typeAssert x0 ty_Inline ty_P_Link true).run P w264 = .ok (.tuple #[.pointer r304_0, .bool r304_1]) w305 ∧
 br r304_1
 (tk w305 fun w306 =>
 nilP r304_0 fun a307 =>
 nilP r304_0 fun a308 =>
 nilP r304_0 fun a309 =>
 nilP r304_0 fun a310 =>
 ∃ (v311 : BA), w306.cell? (a307.add 1) = some (.string v311) ∧
 ∃ (v312 : BA), w306.cell? (a308.add 2) = some (.string v312) ∧
 ∃ (v313 : Int), w306.cell? (a309.add 3) = some (.int .u8 v313) ∧
 ∃ (v314q : OA), ∃ (v314n : Nat), ∃ (v314c : Nat), w306.cell? a310 = some (.slice v314q v314n v314c) ∧
 callE P i_impl_mark #[.int .u8 v313] (fun e w316 => ∃ (r315 : BA), e = .returned (.string r315) ∧
 SameC w306 w316 (a310) 1 ∧
 SameC w306 w316 (a308.add 2) 1 ∧
 SameC w306 w316 (a307.add 1) 1 ∧
 callE P i_impl_inlines #[.slice v314q v314n v314c] (fun e w318 => ∃ (r317q : OA), ∃ (r317n : Nat), ∃ (r317c : Nat), e = .returned (.slice r317q r317n r317c) ∧
 SameC w316 w318 (a308.add 2) 1 ∧
 SameC w316 w318 (a307.add 1) 1 ∧
 st16 w318 b1 {a0 := 27, a1 := v311, a2 := v312, q7 := r317q, n7 := r317n, c7 := r317c, a10 := r315} fun w334 =>
 ldB16 w334 b1 fun m335 =>
 R (.returned (m335.V)) w334) w316) w306)
 (∃ (r351_0 : OA), ∃ (r351_1 : Bool), ∃ w352, (Instr.typeAssert x0 ty_Inline ty_P_Image true).run P w305 = .ok (.tuple #[.pointer r351_0, .bool r351_1]) w352 ∧
 br r351_1
 (tk w352 fun w353 =>
 nilP r351_0 fun a354 =>
 nilP r351_0 fun a355 =>
 nilP r351_0 fun a356 =>
 nilP r351_0 fun a357 =>
 ∃ (v358 : BA), w353.cell? (a354.add 1) = some (.string v358) ∧
 ∃ (v359 : BA), w353.cell? (a355.add 2) = some (.string v359) ∧
 ∃ (v360 : Int), w353.cell? (a356.add 3) = some (.int .u8 v360) ∧
 ∃ (v361q : OA), ∃ (v361n : Nat), ∃ (v361c : Nat), w353.cell? a357 = some (.slice v361q v361n v361c) ∧
 callE P i_impl_mark #[.int .u8 v360] (fun e w363 => ∃ (r362 : BA), e = .returned (.string r362) ∧
 SameC w353 w363 (a357) 1 ∧
 SameC w353 w363 (a355.add 2) 1 ∧
 SameC w353 w363 (a354.add 1) 1 ∧
 callE P i_impl_inlines #[.slice v361q v361n v361c] (fun e w365 => ∃ (r364q : OA), ∃ (r364n : Nat), ∃ (r364c : Nat), e = .returned (.slice r364q r364n r364c) ∧
 SameC w363 w365 (a355.add 2) 1 ∧
 SameC w363 w365 (a354.add 1) 1 ∧
 st16 w365 b1 {a0 := 28, a1 := v358, a2 := v359, q7 := r364q, n7 := r364n, c7 := r364c, a10 := r362} fun w381 =>
 ldB16 w381 b1 fun m382 =>
 R (.returned (m382.V)) w381) w363) w353)
 (∃ (r398_0 : OA), ∃ (r398_1 : Bool), ∃ w399, (Instr.typeAssert x0 ty_Inline ty_P_AutoLink true).run P w352 = .ok (.tuple #[.pointer r398_0, .bool r398_1]) w399 ∧
 br r398_1
 (tk w399 fun w400 =>
 nilP r398_0 fun a401 =>
 nilP r398_0 fun a402 =>
 ∃ (v403 : BA), w400.cell? (a401.add 1) = some (.string v403) ∧
 ∃ (v404 : BA), w400.cell? a402 = some (.string v404) ∧
 ∃ (r405q : OA), ∃ (r405n : Nat), ∃ (r405c : Nat), ∃ w406, (Instr.buildSlice ty_S_impl_Node 1 #[(0, (N16.V {a0 := 20, a1 := v404}))]).run P w400 = .ok (.slice r405q r405n r405c) w406 ∧
 SameC w400 w406 (a401.add 1) 1 ∧
 st16 w406 b1 {a0 := 27, a1 := v403, q7 := r405q, n7 := r405n, c7 := r405c, a14 := true} fun w422 =>
 ldB16 w422 b1 fun m423 =>
 R (.returned (m423.V)) w422)
 (∃ (r439_0 : OA), ∃ (r439_1 : Bool), ∃ w440, (Instr.typeAssert x0 ty_Inline ty_P_HTMLTag true).run P w399 = .ok (.tuple #[.pointer r439_0, .bool r439_1]) w440 ∧
 br r439_1
 (nilP r439_0 fun a441 =>
 ∃ (v442 : BA), w440.cell? a441 = some (.string v442) ∧
 st16 w440 b1 {a0 := 29, a1 := v442} fun w458 =>
 ldB16 w458 b1 fun m459 =>
 R (.returned (m459.V)) w458)
 (∃ (r475_0 : OA), ∃ (r475_1 : Bool), ∃ w476, (Instr.typeAssert x0 ty_Inline ty_P_Task true).run P w440 = .ok (.tuple #[.pointer r475_0, .bool r475_1]) w476 ∧
 br r475_1
 (nilP r475_0 fun a477 =>
 ∃ (v478 : Bool), w476.cell? a477 = some (.bool v478) ∧
 br v478
 (st16 w476 b1 {a0 := 30, a3 := 2} fun w494 =>
 ldB16 w494 b1 fun m495 =>
 R (.returned (m495.V)) w494)
 (st16 w476 b1 {a0 := 30, a3 := 1} fun w526 =>
 ldB16 w526 b1 fun m527 =>
 R (.returned (m527.V)) w526))
 (∃ (r543_0 : OA), ∃ (r543_1 : Bool), ∃ w544, (Instr.typeAssert x0 ty_Inline ty_P_Emoji true).run P w476 = .ok (.tuple #[.pointer r543_0, .bool r543_1]) w544 ∧
 br r543_1
 (tk w544 fun w545 =>
 nilP r543_0 fun a546 =>
 nilP r543_0 fun a547 =>
 ∃ (v548 : BA), w545.cell? (a546.add 1) = some (.string v548) ∧
 ∃ (v549 : BA), w545.cell? a547 = some (.string v549) ∧
 st16 w545 b1 {a0 := 31, a1 := v548, a10 := v549} fun w565 =>
 ldB16 w565 b1 fun m566 =>
 R (.returned (m566.V)) w565)
 (st16 w544 b1 {} fun w597 =>
 ldB16 w597 b1 fun m598 =>
 R (.returned (m598.V)) w597))))))))))))))) w2

namespace g_impl_inline
noncomputable def ac (R : EP) : AC :=
 (.seq (.leaf (sel [0] body)) (.seq (.leaf (sel [1,0] body)) (.seq (.seq (.leaf (sel [1,1,0,0] body)) (.block 0 (.seq (.leaf (sel [1,1,0,1,0,0] body)) (.cond 28 (.leaf (sel [1,1,0,1,0,1,0] body)) (.seq (.leaf (sel [1,1,0,1,0,1,1,0] body)) (.cond 37 (.leaf (sel [1,1,0,1,0,1,1,1,0] body)) (.seq (.leaf (sel [1,1,0,1,0,1,1,1,1,0] body)) (.cond 41 (.leaf (sel [1,1,0,1,0,1,1,1,1,1,0] body)) (.seq (.leaf (sel [1,1,0,1,0,1,1,1,1,1,1,0] body)) (.cond 45 (.leaf (sel [1,1,0,1,0,1,1,1,1,1,1,1,0] body)) (.seq (.leaf (sel [1,1,0,1,0,1,1,1,1,1,1,1,1,0] body)) (.cond 53 (.seq (.leaf (sel [1,1,0,1,0,1,1,1,1,1,1,1,1,1,0,0] body)) (.seq (.draw (.pure 0 (.pure 1 (.pure 2 (.pure 4 (.pure 5 (.pure 6 (.load 3 (.load 7 (.one 8 (.pure 9 (.one 10 .done))))))))))) (sel [1,1,0,1,0,1,1,1,1,1,1,1,1,1,0,1,0] body)) (.leaf (sel [1,1,0,1,0,1,1,1,1,1,1,1,1,1,0,1,1] body)))) (.seq (.leaf (sel [1,1,0,1,0,1,1,1,1,1,1,1,1,1,1,0] body)) (.cond 66 (.seq (.leaf (sel [1,1,0,1,0,1,1,1,1,1,1,1,1,1,1,1,0,0] body)) (.seq (.draw (.pure 0 (.pure 1 (.pure 2 (.pure 4 (.pure 5 (.pure 6 (.load 3 (.load 7 (.one 8 (.pure 9 (.one 10 .done))))))))))) (sel [1,1,0,1,0,1,1,1,1,1,1,1,1,1,1,1,0,1,0] body)) (.leaf (sel [1,1,0,1,0,1,1,1,1,1,1,1,1,1,1,1,0,1,1] body)))) (.seq (.leaf (sel [1,1,0,1,0,1,1,1,1,1,1,1,1,1,1,1,1,0] body)) (.cond 79 (.seq (.leaf (sel [1,1,0,1,0,1,1,1,1,1,1,1,1,1,1,1,1,1,0,0] body)) (.seq (.draw (.pure 0 (.pure 1 (.pure 2 (.pure 4 (.pure 5 (.pure 6 (.load 3 (.load 7 (.one 8 (.pure 9 (.one 10 .done))))))))))) (sel [1,1,0,1,0,1,1,1,1,1,1,1,1,1,1,1,1,1,0,1,0] body)) (.leaf (sel [1,1,0,1,0,1,1,1,1,1,1,1,1,1,1,1,1,1,0,1,1] body)))) (.seq (.leaf (sel [1,1,0,1,0,1,1,1,1,1,1,1,1,1,1,1,1,1,1,0] body)) (.cond 92 (.seq (.leaf (sel [1,1,0,1,0,1,1,1,1,1,1,1,1,1,1,1,1,1,1,1,0,0] body)) (.seq (.draw (.pure 0 (.pure 1 (.pure 2 (.pure 4 (.pure 5 (.pure 6 (.pure 8 (.pure 9 (.pure 10 (.pure 13 (.pure 14 (.pure 15 (.load 3 (.load 7 (.load 11 (.load 16 (.one 12 (.one 17 (.pure 18 (.one 19 .done)))))))))))))))))))) (sel [1,1,0,1,0,1,1,1,1,1,1,1,1,1,1,1,1,1,1,1,0,1,0] body)) (.leaf (sel [1,1,0,1,0,1,1,1,1,1,1,1,1,1,1,1,1,1,1,1,0,1,1] body)))) (.seq (.leaf (sel [1,1,0,1,0,1,1,1,1,1,1,1,1,1,1,1,1,1,1,1,1,0] body)) (.cond 114 (.seq (.leaf (sel [1,1,0,1,0,1,1,1,1,1,1,1,1,1,1,1,1,1,1,1,1,1,0,0] body)) (.seq (.draw (.pure 0 (.pure 1 (.pure 2 (.pure 4 (.pure 5 (.pure 6 (.pure 8 (.pure 9 (.pure 10 (.pure 13 (.pure 14 (.pure 15 (.load 3 (.load 7 (.load 11 (.load 16 (.one 12 (.one 17 (.pure 18 (.one 19 .done)))))))))))))))))))) (sel [1,1,0,1,0,1,1,1,1,1,1,1,1,1,1,1,1,1,1,1,1,1,0,1,0] body)) (.leaf (sel [1,1,0,1,0,1,1,1,1,1,1,1,1,1,1,1,1,1,1,1,1,1,0,1,1] body)))) (.seq (.leaf (sel [1,1,0,1,0,1,1,1,1,1,1,1,1,1,1,1,1,1,1,1,1,1,1,0] body)) (.cond 136 (.seq (.leaf (sel [1,1,0,1,0,1,1,1,1,1,1,1,1,1,1,1,1,1,1,1,1,1,1,1,0,0] body)) (.seq (.draw (.pure 0 (.pure 1 (.pure 2 (.pure 4 (.pure 5 (.pure 6 (.load 3 (.load 7 (.pure 8 (.one 9 (.pure 10 (.one 11 .done)))))))))))) (sel [1,1,0,1,0,1,1,1,1,1,1,1,1,1,1,1,1,1,1,1,1,1,1,1,0,1,0] body)) (.leaf (sel [1,1,0,1,0,1,1,1,1,1,1,1,1,1,1,1,1,1,1,1,1,1,1,1,0,1,1] body)))) (.seq (.leaf (sel [1,1,0,1,0,1,1,1,1,1,1,1,1,1,1,1,1,1,1,1,1,1,1,1,1,0] body)) (.cond 150 (.leaf (sel [1,1,0,1,0,1,1,1,1,1,1,1,1,1,1,1,1,1,1,1,1,1,1,1,1,1,0] body)) (.seq (.leaf (sel [1,1,0,1,0,1,1,1,1,1,1,1,1,1,1,1,1,1,1,1,1,1,1,1,1,1,1,0] body)) (.cond 158 (.leaf (sel [1,1,0,1,0,1,1,1,1,1,1,1,1,1,1,1,1,1,1,1,1,1,1,1,1,1,1,1,0] body)) (.seq (.leaf (sel [1,1,0,1,0,1,1,1,1,1,1,1,1,1,1,1,1,1,1,1,1,1,1,1,1,1,1,1,1,0] body)) (.cond 167 (.seq (.leaf (sel [1,1,0,1,0,1,1,1,1,1,1,1,1,1,1,1,1,1,1,1,1,1,1,1,1,1,1,1,1,1,0,0] body)) (.seq (.draw (.pure 0 (.pure 1 (.pure 2 (.pure 4 (.pure 5 (.pure 6 (.load 3 (.load 7 (.pure 8 (.one 9 .done)))))))))) (sel [1,1,0,1,0,1,1,1,1,1,1,1,1,1,1,1,1,1,1,1,1,1,1,1,1,1,1,1,1,1,0,1,0] body)) (.leaf (sel [1,1,0,1,0,1,1,1,1,1,1,1,1,1,1,1,1,1,1,1,1,1,1,1,1,1,1,1,1,1,0,1,1] body)))) (.leaf (sel [1,1,0,1,0,1,1,1,1,1,1,1,1,1,1,1,1,1,1,1,1,1,1,1,1,1,1,1,1,1,1] body)))))))))))))))))))))))))))))) (.leaf (sel [1,1,1] body)))))
theorem good (R : EP) : Good P 179 (ac R) (QF P [.cell 2 48] R) :=
 ⟨trivial, ⟨trivial, ⟨⟨trivial, ⟨trivial, ⟨trivial, ⟨trivial, ⟨trivial, ⟨trivial, ⟨trivial, ⟨trivial, ⟨trivial, ⟨trivial, ⟨⟨trivial, ⟨⟨by kernel_rfl, by kernel_rfl, fun _ _ _ h => h⟩, trivial⟩⟩, ⟨trivial, ⟨⟨trivial, ⟨⟨by kernel_rfl, by kernel_rfl, fun _ _ _ h => h⟩, trivial⟩⟩, ⟨trivial, ⟨⟨trivial, ⟨⟨by kernel_rfl, by kernel_rfl, fun _ _ _ h => h⟩, trivial⟩⟩, ⟨trivial, ⟨⟨trivial, ⟨⟨by kernel_rfl, by kernel_rfl, fun _ _ _ h => h⟩, trivial⟩⟩, ⟨trivial, ⟨⟨trivial, ⟨⟨by kernel_rfl, by kernel_rfl, fun _ _ _ h => h⟩, trivial⟩⟩, ⟨trivial, ⟨⟨trivial, ⟨⟨by kernel_rfl, by kernel_rfl, fun _ _ _ h => h⟩, trivial⟩⟩, ⟨trivial, ⟨trivial, ⟨trivial, ⟨trivial, ⟨trivial, ⟨⟨trivial, ⟨⟨by kernel_rfl, by kernel_rfl, fun _ _ _ h => h⟩, trivial⟩⟩, trivial⟩⟩⟩⟩⟩⟩⟩⟩⟩⟩⟩⟩⟩⟩⟩⟩⟩⟩⟩⟩⟩⟩⟩⟩⟩⟩⟩, trivial⟩⟩⟩
theorem eq (R : EP) (x0 : Value) (w : World) : g_impl_inline R x0 w = vcA P 179 (ac R) (QF P [.cell 2 48] R) (fr0 [x0]) w := by kernel_rfl
theorem sound {R : EP} {x0 : Value} {w : World} (h : g_impl_inline R x0 w) : callE P i_impl_inline #[x0] R w :=
 callE_fz (c := body) Tryz.func81 Tryz.call81 (good R) (eq R x0 w) h
end g_impl_inline
namespace g_impl_mark
noncomputable def body : Code := bodyOf Tryz.f54
end g_impl_mark
def g_impl_mark (R : EP) (x0 : Int) (w : World) : Prop :=
 br (x0 == 0)
 (R (.returned (.string (ByteArray.mk #[]))) w)
 (∃ (r1q : OA), ∃ (r1n : Nat), ∃ (r1c : Nat), ∃ w2, (Instr.buildSlice ty_S_uint8 1 #[(0, .int .u8 x0)]).run P w = .ok (.slice r1q r1n r1c) w2 ∧
 ∃ (r3 : BA), ∃ w4, (convert ty_S_uint8 ty_string (.slice r1q r1n r1c)).run P w2 = .ok (.string r3) w4 ∧
 R (.returned (.string r3)) w4)

namespace g_impl_mark
noncomputable def ac (R : EP) : AC :=
 (.leaf (sel [] body))
theorem good (R : EP) : Good P 8 (ac R) (QF P [.tmp 2] R) :=
 trivial
theorem eq (R : EP) (x0 : Int) (w : World) : g_impl_mark R x0 w = vcA P 8 (ac R) (QF P [.tmp 2] R) (fr0 [.int .u8 x0]) w := by kernel_rfl
theorem sound {R : EP} {x0 : Int} {w : World} (h : g_impl_mark R x0 w) : callE P i_impl_mark #[.int .u8 x0] R w :=
 callE_fz (c := body) Tryz.func54 Tryz.call54 (good R) (eq R x0 w) h
end g_impl_mark
namespace g_impl_blocks
noncomputable def body : Code := bodyOf Tryz.f53
def bl1 (R : EP) (Xa : OA → Nat → Nat → OA → Nat → Nat → Int → Int → WP) (x3q : OA) (x3n x3c : Nat) (x6q : OA) (x6n x6c : Nat) (x7 x8 : Int) (w : World) : Prop :=
 br (decide (x8 < x7))
 (0 ≤ x8 ∧ x8 < (x6n : Int) ∧
 nilP x6q fun a1 =>
 ∃ (v2 : Value), w.cell? (a1.add (Int.toNat x8 * 1)) = some v2 ∧
 callE P i_impl_block #[v2] (fun e w4 => rt16 e fun r3 =>
 ∃ (r5q : OA), ∃ (r5n : Nat), ∃ (r5c : Nat), ∃ w6, (Instr.buildSlice ty_S_impl_Node 1 #[(0, r3.V)]).run P w4 = .ok (.slice r5q r5n r5c) w6 ∧
 ∃ (r7q : OA), ∃ (r7n : Nat), ∃ (r7c : Nat), ∃ w8, (Builtin.append_ #[ty_S_impl_Node, ty_S_impl_Node] ty_S_impl_Node #[.slice x3q x3n x3c, .slice r5q r5n r5c]).run P w6 = .ok (.slice r7q r7n r7c) w8 ∧
 Xa r7q r7n r7c x6q x6n x6c x7 (IntKind.i64.wrap (x8 + 1)) w8) w)
 (R (.returned (.slice x3q x3n x3c)) w)
def l1 (R : EP) (x3q : OA) (x3n x3c : Nat) (x6q : OA) (x6n x6c : Nat) (x7 x8 : Int) (w : World) : Prop :=
 ∀ X : OA → Nat → Nat → OA → Nat → Nat → Int → Int → WP, (∀ x3q x3n x3c x6q x6n x6c x7 x8 w, bl1 R X x3q x3n x3c x6q x6n x6c x7 x8 w → X x3q x3n x3c x6q x6n x6c x7 x8 w) → X x3q x3n x3c x6q x6n x6c x7 x8 w

noncomputable def al1 (R : EP) (Xa : OA → Nat → Nat → OA → Nat → Nat → Int → Int → WP) : AC :=
 (.leaf (sel [1,1,0,1,0,0] body))
end g_impl_blocks
def g_impl_blocks (R : EP) (x0q : OA) (x0n x0c : Nat) (w : World) : Prop :=
 g_impl_blocks.l1 R none 0 0 x0q x0n x0c (x0n : Int) 0 w

namespace g_impl_blocks
noncomputable def ac (R : EP) : AC :=
 (.seq (.leaf (sel [0] body)) (.seq (.leaf (sel [1,0] body)) (.seq (.seq (.leaf (sel [1,1,0,0] body)) (.block 0 (.loop (leaf [(3, .s .slice), (6, .s .slice), (7, .s (.int .i64)), (8, .s (.int .i64))] (l1 R)) (sel [1,1,0,1,0,0] body)))) (.leaf (sel [1,1,1] body)))))
theorem good (R : EP) : Good P 19 (ac R) (QF P [.tmp 2] R) :=
 ⟨trivial, ⟨trivial, ⟨⟨trivial, (loopG (al1 R) (bl1 R) (fun _ => by kernel_rfl) (fun Xa => trivial) (fun Xa => by intro x3q x3n x3c x6q x6n x6c x7 x8 ρ w; kernel_rfl) (fun X h _ _ _ _ _ _ _ _ _ g => g X h))⟩, trivial⟩⟩⟩
theorem eq (R : EP) (x0q : OA) (x0n x0c : Nat) (w : World) : g_impl_blocks R x0q x0n x0c w = vcA P 19 (ac R) (QF P [.tmp 2] R) (fr0 [.slice x0q x0n x0c]) w := by kernel_rfl
theorem sound {R : EP} {x0q : OA} {x0n x0c : Nat} {w : World} (h : g_impl_blocks R x0q x0n x0c w) : callE P i_impl_blocks #[.slice x0q x0n x0c] R w :=
 callE_fz (c := body) Tryz.func53 Tryz.call53 (good R) (eq R x0q x0n x0c w) h
end g_impl_blocks
end Go.Proofs.YtgbgadkldalkbaaGreatDoor
