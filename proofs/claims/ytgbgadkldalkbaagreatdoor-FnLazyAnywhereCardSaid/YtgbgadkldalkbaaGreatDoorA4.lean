/- Part 4 of the proof of the law FnLazyAnywhere: for every input the law returns true, the inputs read as they did, and memory that was there is as it was; under the conditions of the given row alone. -/
import Derived.Lib.UnsafeStr
import Derived.Lib.BufferWrite
import Derived.Lib.BufferRead
import Derived.Laws.IdiomStrings
import Derived.Laws.MakeOwn
import Derived.Laws.Slices
import Derived.Shelf.Bytes.GrowSlice
import Derived.Laws.Externs
import Derived.Lib.Bytealg
import Derived.Lib.MakeNoZero
import Derived.Lib.Builder
import Derived.Laws.StructEq
import Derived.Test.YtgbgadkldalkbaaGreatDoorA3
set_option linter.all false
set_option linter.unusedVariables false
namespace Go.Proofs.YtgbgadkldalkbaaGreatDoor
open Go.Proofs Go.IntWalk
variable {σ : Out} {w : World} {L L' : List Chunk} {R : Ending → World → Prop}

noncomputable def rowU8 : Row P ty_S_uint8 ty_uint8 1 1 :=
 ⟨(P.info? ty_uint8).getD default, ((P.info? ty_uint8).bind (·.zero)).getD default, by kernel_rfl, by kernel_rfl, by kernel_rfl, by kernel_rfl, by kernel_rfl, by kernel_rfl, by decide⟩
def bc (l : List UInt8) : List Value := l.map fun c => .int .u8 (c.toNat : Int)
@[simp] theorem bc_length (l : List UInt8) : (bc l).length = l.length := by simp [bc]
theorem bc_append (a b : List UInt8) : bc (a ++ b) = bc a ++ bc b := by simp [bc]
theorem bc_get {l : List UInt8} {j : Nat} (h : j < l.length) : (bc l)[j]? = some (.int .u8 (l[j].toNat : Int)) := by simp [bc, h]
abbrev By (q : Option Addr) (n c : Nat) (l : List UInt8) (M : List Chunk) : Prop := Sl 1 ty_uint8 q n c (bc l) M
theorem By.nil : By none 0 0 [] [] := Sl.nil 1 ty_uint8

theorem byteCells_bs (s : List UInt8) : Go.byteCells (bs s) = bc s := by
 simp [Go.byteCells, bc, bs]
theorem By.appS {q : Option Addr} {n c : Nat} {l : List UInt8} {M : List Chunk} (hS : By q n c l M) (h : Sat σ w (M ++ L)) (s : List UInt8) (h0 : s ≠ [] ∨ q ≠ none) (hb : n + s.length ≤ 1099511627776)
 {K : Option Addr → Nat → Nat → World → Prop} (hK : ∀ q' c' w' M', By q' (n + s.length) c' (l ++ s) M' → Sat σ w' (M' ++ L) → q' ≠ none → c ≤ c' → K q' (n + s.length) c' w') :
 ∃ q' n' c' w', (Builtin.append_ #[ty_S_uint8, ty_string] ty_S_uint8 #[.slice q n c, .string (bs s)]).run P w = .ok (.slice q' n' c') w' ∧ K q' n' c' w' := by
 have hsrc := Src.ofString (P := P) (w := w) (tx := ty_string) (by kernel_rfl) (bs s)
 rw [bs_size, byteCells_bs] at hsrc
 have h0' : 0 < s.length ∨ q ≠ none := by
  rcases h0 with h | h
  ·exact .inl (List.length_pos_iff.2 h)
  ·exact .inr h
 obtain ⟨q', c', w', M', hr, hS', h', h1, h2⟩ := Sat.app rowU8 (ty := ty_S_uint8) hS h hsrc h0' (by omega) (by omega)
 refine ⟨q', _, c', w', hr, hK q' c' w' M' ?_ h' h1 h2⟩
 show Sl _ _ _ _ _ (bc (l ++ s)) _
 rw [bc_append]
 exact hS'
theorem sliceLH {P : Program} {t e : TypeId} {i : TypeInfo} (ht : P.underlying t = some (.slice e)) (hi : P.info? e = some i) (a : Option Addr) (n c l m : Nat) (h1 : l ≤ m) (h2 : m ≤ c) (w : World) :
 (Instr.sliceAt t (.slice a n c) (some (.int .i64 l)) (some (.int .i64 m)) none).run P w = .ok (.slice (if c = l then a else a.map (·.add (l * i.size))) (m - l) (c - l)) w := by
 simp [Instr.sliceAt, Instr.slice, Instr.sliceBounds, run_underlying ht, sizeOf, typeInfo, hi, run_sliceBound w .i64 (m : Int) c .sliceAcap (by omega) (by omega), run_sliceBound w .i64 (l : Int) m .sliceB (by omega) (by omega)]
theorem sliceF {P : Program} {t e : TypeId} {i : TypeInfo} (ht : P.underlying t = some (.slice e)) (hi : P.info? e = some i) (a : Option Addr) (n c l : Nat) (h1 : l ≤ n) (w : World) :
 (Instr.sliceAt t (.slice a n c) (some (.int .i64 l)) none none).run P w = .ok (.slice (if c = l then a else a.map (·.add (l * i.size))) (n - l) (c - l)) w := by
 simp [Instr.sliceAt, Instr.slice, Instr.sliceBounds, run_underlying ht, sizeOf, typeInfo, hi, run_sliceBound w .i64 (l : Int) n .sliceB (by omega) (by omega)]
theorem sliceT {P : Program} {t e : TypeId} {i : TypeInfo} (ht : P.underlying t = some (.slice e)) (hi : P.info? e = some i) (a : Option Addr) (n c m : Nat) (h2 : m ≤ c) (w : World) :
 (Instr.sliceAt t (.slice a n c) none (some (.int .i64 m)) none).run P w = .ok (.slice a m c) w := by
 have e1 : ∀ a : Addr, a.add 0 = a := fun a => rfl
 simp [Instr.sliceAt, Instr.slice, Instr.sliceBounds, run_underlying ht, sizeOf, typeInfo, hi, run_sliceBound w .i64 (m : Int) c .sliceAcap (by omega) (by omega), e1]

theorem capRun {P : Program} (t ty : TypeId) (q : Option Addr) (n c : Nat) (e : TypeId) (ht : P.underlying t = some (.slice e)) (w : World) : (Builtin.cap_ #[t] ty #[.slice q n c]).run P w = .ok (.int .i64 c) w := by
 simp [Builtin.cap_, underlying, ht, goInt]
abbrev bufC (b : Nat) (q : Option Addr) (n c : Nat) (lr : Int) : Chunk := (b, cel [.slice q n c, .int .i64 0, .int .i8 lr] ty_bytes_Buffer)
def Buf (b : Nat) (l : List UInt8) (M : List Chunk) : Prop := ∃ q c lr M0, M = bufC b q l.length c lr :: M0 ∧ By q l.length c l M0 ∧ c ≤ 9223372036854775807
end Go.Proofs.YtgbgadkldalkbaaGreatDoor


set_option linter.unusedVariables false
set_option maxRecDepth 20000
namespace Go.Proofs.YtgbgadkldalkbaaGreatDoor
open Go.Proofs
noncomputable abbrev x_internal_abi_NoEscape : Func := Tryz.f172
theorem xf_internal_abi_NoEscape : P.funcs[i_internal_abi_NoEscape]? = some x_internal_abi_NoEscape := Tryz.func172
noncomputable abbrev x_internal_bytealg_MakeNoZero : Func := Tryz.f256
theorem xf_internal_bytealg_MakeNoZero : P.funcs[i_internal_bytealg_MakeNoZero]? = some x_internal_bytealg_MakeNoZero := Tryz.func256
end Go.Proofs.YtgbgadkldalkbaaGreatDoor


set_option linter.unusedVariables false
namespace Go.Proofs.YtgbgadkldalkbaaGreatDoor
open Go.Proofs Go.IntWalk
variable {σ : Out} {w : World} {L L' : List Chunk} {R : Ending → World → Prop}

theorem ext_of {f : FuncId} {fn : Func} {e : Array Value → Sem Value} {args : Array Value} {v : Value} {w' : World} (hf : P.funcs[f]? = some fn) (hname : (fn.name == "runtime.NumGoroutine") = false)
 (hb : fn.body.isNone = true) (hn : Extern.findNext fn = none) (he : Extern.find fn = some e) (hr : (e args).run P w = .ok v w') (h : R (.returned v) w') : callE P f args R w := by
 refine .inr ⟨v, w', ?_, h⟩
 rw [run_callFunc_extern hf hname hb hn he, hr]
 rfl
theorem noEscape_ok {x : Value} (h : R (.returned x) w) : callE P i_internal_abi_NoEscape #[x] R w :=
 ext_of (e := Extern.AbiNoEscape.same) xf_internal_abi_NoEscape (by kernel_rfl) (by kernel_rfl) (by kernel_rfl) (by kernel_rfl) rfl h
end Go.Proofs.YtgbgadkldalkbaaGreatDoor


set_option linter.unusedVariables false
namespace Go.Proofs.YtgbgadkldalkbaaGreatDoor
open Go.Proofs
theorem bin_eql {P : Program} {t : TypeId} {a b : Value} {r : Bool} {w : World} {x y : Operand} (h1 : (eqGuard .eql t x y a b).run P w = .ok () w) (h2 : binOp .eql t a b = (do pure (.bool (← Op.equal t a b))))
 (h : (Op.equal t a b).run P w = .ok r w) : (do eqGuard .eql t x y a b; binOp .eql t a b).run P w = .ok (.bool r) w := by
 rw [h2]
 simp only [Sem.run_bind, h1, h, Result.andThen_ok]
 rfl
theorem bin_neq {P : Program} {t : TypeId} {a b : Value} {r : Bool} {w : World} {x y : Operand} (h1 : (eqGuard .neq t x y a b).run P w = .ok () w) (h2 : binOp .neq t a b = (do pure (.bool (!(← Op.equal t a b)))))
 (h : (Op.equal t a b).run P w = .ok r w) : (do eqGuard .neq t x y a b; binOp .neq t a b).run P w = .ok (.bool (!r)) w := by
 rw [h2]
 simp only [Sem.run_bind, h1, h, Result.andThen_ok]
 rfl
variable {P : Program}
theorem equal_ptr_nil {t e : TypeId} (hu : P.underlying t = some (.pointer e)) (q : Option Addr) (w : World) : (Op.equal t (.pointer q) (.pointer none)).run P w = .ok q.isNone w :=
 have h : ∀ d, (Op.equalIn (d + 1) t (.pointer q) (.pointer none)).run P w = .ok q.isNone w := fun d => by
  cases q <;> simp [Op.equalIn, run_underlying hu]
 h 9999
theorem ptrNil_eq {t e : TypeId} {x y : Operand} (hu : P.underlying t = some (.pointer e)) (q : Option Addr) (w : World) :
 (do eqGuard .eql t x y (.pointer q) (.pointer none); binOp .eql t (.pointer q) (.pointer none)).run P w = .ok (.bool q.isNone) w :=
 bin_eql rfl rfl (equal_ptr_nil hu q w)
theorem neq_ptr_nil {t e : TypeId} {x y : Operand} (hu : P.underlying t = some (.pointer e)) (q : Option Addr) (w : World) :
 (do eqGuard .neq t x y (.pointer q) (.pointer none); binOp .neq t (.pointer q) (.pointer none)).run P w = .ok (.bool (!q.isNone)) w :=
 bin_neq rfl rfl (equal_ptr_nil hu q w)
theorem equal_ptr_same {t e : TypeId} (hu : P.underlying t = some (.pointer e)) {i : TypeInfo} (hi : P.info? e = some i) (hs : i.size ≠ 0) (b : Nat) (w : World) : (Op.equal t (.pointer (some ⟨b, 0, none⟩)) (.pointer (some ⟨b, 0, none⟩))).run P w = .ok true w :=
 have h : ∀ d, (Op.equalIn (d + 1) t (.pointer (some ⟨b, 0, none⟩)) (.pointer (some ⟨b, 0, none⟩))).run P w = .ok true w := fun d => by
  simp [Op.equalIn, run_underlying hu, sizeOf, typeInfo, hi, hs, sameAddr]
 h 9999
theorem neq_ptr_same {t e : TypeId} {x y : Operand} (hu : P.underlying t = some (.pointer e)) {i : TypeInfo} (hi : P.info? e = some i) (hs : i.size ≠ 0) (b : Nat) (w : World) :
 (do eqGuard .neq t x y (.pointer (some ⟨b, 0, none⟩)) (.pointer (some ⟨b, 0, none⟩)); binOp .neq t (.pointer (some ⟨b, 0, none⟩)) (.pointer (some ⟨b, 0, none⟩))).run P w = .ok (.bool false) w :=
 bin_neq rfl rfl (equal_ptr_same hu hi hs b w)
theorem neq_func_nil {t : TypeId} {ps rs : Array TypeId} {vr : Bool} {x y : Operand} (hu : P.underlying t = some (.func ps rs vr)) (k : FuncId) (f g : Array Value) (w : World) :
 (do eqGuard .neq t x y (.func (.func k) f g) .nilFunc; binOp .neq t (.func (.func k) f g) .nilFunc).run P w = .ok (.bool true) w := by
 have h : ∀ d, (Op.equalIn (d + 1) t (.func (.func k) f g) .nilFunc).run P w = .ok false w := fun d => by
  simp [Op.equalIn, run_underlying hu]
 exact bin_neq rfl rfl (h 9999)
theorem neq_nil_nil {t : TypeId} {ps rs : Array TypeId} {vr : Bool} {x y : Operand} (hu : P.underlying t = some (.func ps rs vr)) (w : World) :
 (do eqGuard .neq t x y .nilFunc .nilFunc; binOp .neq t .nilFunc .nilFunc).run P w = .ok (.bool false) w := by
 have h : ∀ d, (Op.equalIn (d + 1) t .nilFunc .nilFunc).run P w = .ok true w := fun d => by
  simp [Op.equalIn, run_underlying hu]
 exact bin_neq rfl rfl (h 9999)
end Go.Proofs.YtgbgadkldalkbaaGreatDoor


set_option linter.unusedVariables false
namespace Go.Proofs.YtgbgadkldalkbaaGreatDoor
open Go.Proofs Go.IntWalk Go.RowKit
variable {σ : Out} {w : World} {L L' : List Chunk} {R : Ending → World → Prop}

theorem By.raw {q : Option Addr} {n c : Nat} {l : List UInt8} {M : List Chunk} (h : By q n c l M) : (q = none ∧ n = 0 ∧ c = 0 ∧ M = []) ∨ ∃ b sp, q = some ⟨b, 0, none⟩ ∧ M = [(b, cel (bc l ++ sp) ty_uint8)] ∧ (bc l ++ sp).length = c := by
 obtain ⟨_, _, h | ⟨b, sp, h1, h2, h3⟩⟩ := h
 ·exact .inl h
 ·exact .inr ⟨b, sp, h1, h2, by omega⟩
end Go.Proofs.YtgbgadkldalkbaaGreatDoor


set_option linter.unusedVariables false
namespace Go.Proofs.YtgbgadkldalkbaaGreatDoor
open Go.Proofs Go.IntWalk Go.RowKit
variable {σ : Out} {w : World} {L L' : List Chunk} {R : Ending → World → Prop}
abbrev bldC (b : Nat) (p q : Option Addr) (n c : Nat) : Chunk := (b, cel [.pointer p, .slice q n c] ty_strings_Builder)
def Bld (b : Nat) (g : Bool) (l : List UInt8) (M : List Chunk) : Prop :=
 ∃ p q c M0, M = bldC b p q l.length c :: M0 ∧ By q l.length c l M0 ∧ (p = none ∨ p = some ⟨b, 0, none⟩) ∧ q.isSome = g ∧ (g = true → 0 < c)
theorem bldNew (b : Nat) : Bld b false [] [(b, cel [.pointer none, .slice none 0 0] ty_strings_Builder)] := ⟨none, none, 0, [], rfl, By.nil, .inl rfl, rfl, by simp⟩
theorem Sat.shape (h : Sat σ w L) {b : Nat} {cs : List Value} {e : TypeId} (hm : (b, cel cs e) ∈ L) : w.shape? b = some (e, cs.length) := by
 have := h.at_ _ hm
 simp only [cel] at this
 simp [World.shape?, this]
theorem copyCheck_ok {b : Nat} {p q : Option Addr} {n c : Nat} (h : Sat σ w (bldC b p q n c :: L)) (hp : p = none ∨ p = some ⟨b, 0, none⟩)
 (hR : ∀ w, Sat σ w (bldC b (some ⟨b, 0, none⟩) q n c :: L) → R (.returned (.tuple #[])) w) : callE P i_strings_Builder_copyCheck #[.pointer (some ⟨b, 0, none⟩)] R w := by
 have hu : P.underlying ty_P_strings_Builder = some (.pointer ty_strings_Builder) := by kernel_rfl
 have hun : P.underlying ty_unsafe_Pointer = some .unsafePointer := by kernel_rfl
 have hi : P.info? ty_strings_Builder = some ((P.info? ty_strings_Builder).getD default) := by kernel_rfl
 have hs : ((P.info? ty_strings_Builder).getD default).size = 2 := by kernel_rfl
 have hsh := h.shape (.head _)
 refine g_strings_Builder_copyCheck.sound ?_
 refine nilP_some ?_
 refine ⟨_, h.ldA, ?_⟩
 refine ⟨_, _, ptrNil_eq hu _ w, ?_⟩
 rcases hp with rfl | rfl
 ·refine br_true rfl ?_
  refine ⟨_, _, Lib.run_to_unsafe w ⟨b, 0, none⟩ hu hun hi (by rw [hs]; decide) hsh (Nat.zero_lt_succ _), ?_⟩
  refine noEscape_ok ⟨_, rfl, ?_⟩
  refine ⟨_, _, Lib.run_from_unsafe w ⟨b, 0, none⟩ hun hu hi hsh (by kernel_rfl), ?_⟩
  refine nilP_some ?_
  refine h.stA 0 fun w h => ?_
  exact hR _ h
 ·refine br_false rfl ?_
  refine nilP_some ?_
  refine ⟨_, h.ldA, ?_⟩
  refine ⟨_, _, neq_ptr_same hu hi (by rw [hs]; decide) b w, br_false rfl ?_⟩
  exact hR _ h
theorem bldS_ok {b : Nat} {g : Bool} {l s : List UInt8} {M : List Chunk} (hB : Bld b g l M) (h : Sat σ w (M ++ L)) (h0 : s ≠ [] ∨ g = true) (hb : l.length + s.length ≤ 1099511627776)
 (hR : ∀ w M', Bld b true (l ++ s) M' → Sat σ w (M' ++ L) → R (.returned (.tuple #[.int .i64 s.length, .nilIface])) w) : callE P i_strings_Builder_WriteString #[.pointer (some ⟨b, 0, none⟩), .string (bs s)] R w := by
 obtain ⟨p, q, c, M0, rfl, hS, hp, hg, hc⟩ := hB
 refine g_strings_Builder_WriteString.sound ?_
 refine copyCheck_ok h hp fun w h => ⟨rfl, ?_⟩
 refine nilP_some ?_
 refine ⟨_, _, _, h.ldA, ?_⟩
 have h : Sat σ w (M0 ++ (bldC b (some ⟨b, 0, none⟩) q l.length c :: L)) := h.re
 have h0' : s ≠ [] ∨ q ≠ none := h0.imp id (fun hg1 => by rw [← hg] at hg1; intro h; rw [h] at hg1; cases hg1)
 refine hS.appS h s h0' hb fun q' c' w M' hS' h hq' hcc => ?_
 have h : Sat σ w (bldC b (some ⟨b, 0, none⟩) q l.length c :: (M' ++ L)) := h.re
 refine nilP_some ?_
 refine h.stA 0 fun w h => ?_
 rw [bs_size]
 have hc' : 0 < c' := by
  rcases h0 with h0 | h0
  ·have := hS'.2.1
   have := List.length_pos_iff.2 h0
   omega
  ·have := hc h0; omega
 rw [← List.length_append] at hS'
 refine hR w (bldC b (some ⟨b, 0, none⟩) q' (l ++ s).length c' :: M') ⟨_, _, _, _, rfl, hS', .inr rfl, Option.isSome_iff_ne_none.2 hq', fun _ => hc'⟩ ?_
 rw [List.length_append]
 exact h
theorem Sat.freeze {b : Nat} {cs : List Value} {e : TypeId} (h : Sat σ w ((b, cel cs e) :: L)) (n : Nat) : Sat σ (w.freeze ⟨b, 0, none⟩ n) L := by
 unfold World.freeze
 split
 ·exact h.tail
 ·refine ⟨h.os, h.out, h.tail.nodup, fun c hc => ?_⟩
  have hne : b ≠ c.1 := by
   intro h1
   have := h.nodup
   simp only [List.map_cons, List.nodup_cons] at this
   exact this.1 (by rw [h1]; exact List.mem_map.2 ⟨c, hc, rfl⟩)
  simp only [Array.getElem?_modify, if_neg hne]
  exact h.at_ _ (.tail _ hc)
theorem bldStr_ok {b : Nat} {g : Bool} {l : List UInt8} {M : List Chunk} (hB : Bld b g l M) (h : Sat σ w (M ++ L)) (hl : l.length < 4611686018427387904) (hR : ∀ w, Sat σ w L → R (.returned (.string (bs l))) w) :
 callE P i_strings_Builder_String #[.pointer (some ⟨b, 0, none⟩)] R w := by
 obtain ⟨p, q, c, M0, rfl, hS, hp, hg, hc⟩ := hB
 refine g_strings_Builder_String.sound ?_
 refine h.tk fun w h => ?_
 refine nilP_some (nilP_some ?_)
 refine ⟨_, _, _, h.ldA, ?_⟩
 refine ⟨_, _, _, h.ldA, ?_⟩
 rcases hS.raw with ⟨rfl, hl0, rfl, rfl⟩ | ⟨gb, sp, rfl, rfl, h3⟩
 ·obtain rfl := List.eq_nil_of_length_eq_zero hl0
  refine ⟨_, _, Lib.run_unsafeSliceData_nil (P := P) (w := w) _ _ _ _, fun _ _ => rfl, ?_⟩
  refine ⟨_, _, Lib.run_unsafeString_none (P := P) (w := w) _ _ _ _, hR _ h.tail⟩
 ·refine ⟨_, _, Lib.run_unsafeSliceData_row (P := P) (w := w) _ _ _ _ _ (by have := hc (by rw [← hg]; rfl); omega), fun _ _ => rfl, ?_⟩
  have h' : Sat σ w ((gb, cel (bc l ++ sp) ty_uint8) :: L) := h.tail
  by_cases hl0 : l = []
  ·subst hl0
   refine ⟨_, _, Lib.run_unsafeString_none (P := P) (w := w) _ _ _ _, hR _ h'.tail⟩
  ·refine ⟨_, _, Lib.run_unsafeString_row (w := w) ty_P_uint8 ty_int ty_string ty_uint8 (by kernel_rfl) (by kernel_rfl) gb _ (h'.shape (.head _)) l hl0 (by simp) (by omega) (fun j x hj => ?_), hR _ (h'.freeze _)⟩
   rw [Addr.add_zero_lit]
   have hj' := (List.getElem?_eq_some_iff.1 hj).1
   refine h'.ld (.head _) ?_
   rw [List.getElem?_append_left (by rw [bc_length]; exact hj'), bc_get hj']
   rw [(List.getElem?_eq_some_iff.1 hj).2]
end Go.Proofs.YtgbgadkldalkbaaGreatDoor


set_option linter.unusedVariables false
namespace Go.Proofs.YtgbgadkldalkbaaGreatDoor
open Go.Proofs Go.IntWalk Go.RowKit
variable {σ : Out} {w : World} {L L' : List Chunk} {R : Ending → World → Prop}
abbrev Prs := List (UInt8 × List UInt8)
def escB (ps : Prs) (c : UInt8) : List UInt8 := match ps.find? (fun p => p.1 == c) with | some p => p.2 | none => [c]
def htmlPs : Prs := [(34, [38, 113, 117, 111, 116, 59]), (38, [38, 97, 109, 112, 59]), (60, [38, 108, 116, 59]), (62, [38, 103, 116, 59])]
end Go.Proofs.YtgbgadkldalkbaaGreatDoor


set_option linter.unusedVariables false
namespace Go.Proofs.YtgbgadkldalkbaaGreatDoor
open Go.Proofs Go.IntWalk Go.RowKit
variable {σ : Out} {w : World} {L L' : List Chunk} {R : Ending → World → Prop}
def Prints (m : String) (v : Value) (T T' : List Chunk) (f : List UInt8 → List UInt8) : Prop :=
 (∀ l, l.length ≤ (f l).length) ∧
 ∀ (σ : Out) (R : Ending → World → Prop) b l M L w, Buf b l M → Sat σ w (M ++ (T ++ L)) → (f l).length ≤ 549755813888 →
  (∀ w M', Buf b (f l) M' → Sat σ w (M' ++ (T' ++ L)) → R (.returned (.tuple #[])) w) → enterE P (callMethod v m #[.pointer (some ⟨b, 0, none⟩)]) R w
inductive PrintsL (m : String) : List Value → List Chunk → List Chunk → (List UInt8 → List UInt8) → Prop where
 | nil : PrintsL m [] [] [] id
 | cons {v : Value} {vs : List Value} {T T' K K' : List Chunk} {f g : List UInt8 → List UInt8} : Prints m v T T' f → PrintsL m vs K K' g → PrintsL m (v :: vs) (T ++ K) (T' ++ K') (g ∘ f)
end Go.Proofs.YtgbgadkldalkbaaGreatDoor


set_option linter.unusedVariables false
namespace Go.Proofs.YtgbgadkldalkbaaGreatDoor
open Go.Proofs Go.IntWalk Go.RowKit
variable {σ : Out} {w : World} {L L' : List Chunk} {R : Ending → World → Prop}
theorem appRoom {t ty e : TypeId} {bytes : Nat} (r : Row P t e 1 bytes) {b k c : Nat} {cs : List Value} (h : Sat σ w ((b, cel cs e) :: L)) (hk : k < cs.length) (hc : k < c) {v : Value} (hv : v.cells = #[v]) (h1 : v.oneCell' = true)
 (hfill : Instr.fill (fun i => some (i * 1, 1)) ((Array.range (1 * 1)).map (r.z.cells[· % r.z.cells.size]!)) [(0, v)] = some v.cells)
 {K : Option Addr → Nat → Nat → World → Prop} {C : World → Prop} (hC : ∀ w1 X, Sat σ w1 (X :: ((b, cel cs e) :: L)) → C w1) (hK : ∀ w', Sat σ w' ((b, cel (cs.set k v) e) :: L) → K (some ⟨b, 0, none⟩) (k + 1) c w') :
 ∃ rq rn rc w1, (Instr.buildSlice t 1 #[(0, v)]).run P w = .ok (.slice rq rn rc) w1 ∧ C w1 ∧
  ∃ q' n' c' w2, (Builtin.append_ #[t, t] ty #[.slice (some ⟨b, 0, none⟩) k c, .slice rq rn rc]).run P w1 = .ok (.slice q' n' c') w2 ∧ K q' n' c' w2 := by
 have hrun := run_buildSlice (P := P) w t e 1 #[(0, v)] v.cells r.i r.z r.ht r.hi r.hz (by rw [r.hs]; omega) (by rw [r.hs]; omega) (by rw [r.hs]; exact hfill)
 refine ⟨_, _, _, _, hrun, ?_⟩
 have ha := h.alc v.cells.toList e
 have e3 : YtgbgadkldalkbaaGreatDoor.alc w v.cells.toList.toArray e = w.alloc (.cells v.cells e) := by rw [Array.toArray_toList]; rfl
 rw [e3] at ha
 generalize hw1 : w.alloc (.cells v.cells e) = w1 at ha ⊢
 generalize w.heap.size = nb at ha ⊢
 rw [hv] at ha
 have hs : Src P 1 t (.slice (some ⟨nb, 0, none⟩) 1 1) 1 [v] w1 := by
  refine Src.ofSlice w1 r.ht _ 1 1 _ (by simp) (fun j u hu => ?_) (by simp [h1])
  rw [show (Addr.add ⟨nb, 0, none⟩ j) = ⟨nb, j, none⟩ from Addr.add_zero_lit nb j]
  exact ha.ld (List.mem_cons_self ..) hu
 have hs' : Src P r.i.size t (.slice (some ⟨nb, 0, none⟩) 1 1) 1 [v] w1 := by rw [r.hs]; exact hs
 refine ⟨hC _ _ ha, _, _, _, _, run_append_room_src w1 t t ty e r.i r.ht r.hi b 0 k c _ 1 [v] hs' (by omega) ?_ ?_, hK _ ?_⟩
 ·intro j hj
  simp at hj
  subst hj
  rw [r.hs, Nat.zero_add, Nat.mul_one, Nat.add_zero, ha.ld (.tail _ (.head _)) (List.getElem?_eq_getElem hk)]
  rfl
 ·exact fun j hj => ha.not_frozen (.tail _ (.head _))
 ·rw [r.hs]
  have hb : Sat σ w1 ((b, cel cs e) :: (nb, cel [v] e) :: L) := ha.up1
  have := setCells_sat hb (0 + k * 1) [v] (by simp; omega)
  rw [Nat.zero_add, Nat.mul_one] at this ⊢
  have e1 : cs.take k ++ [v] ++ cs.drop (k + 1) = cs.set k v := by
   rw [List.set_eq_take_append_cons_drop, if_pos hk]; simp
  rw [show [v].length = 1 from rfl, e1] at this
  exact this.less [(nb, cel [v] e)]
theorem appRoom' {t ty e : TypeId} {bytes : Nat} (r : Row P t e 1 bytes) {b k c : Nat} {cs : List Value} (h : Sat σ w ((b, cel cs e) :: L)) (hk : k < cs.length) (hc : k < c) {v : Value} (hv : v.cells = #[v]) (h1 : v.oneCell' = true)
 (hfill : Instr.fill (fun i => some (i * 1, 1)) ((Array.range (1 * 1)).map (r.z.cells[· % r.z.cells.size]!)) [(0, v)] = some v.cells)
 {K : Option Addr → Nat → Nat → World → Prop} (hK : ∀ w', Sat σ w' ((b, cel (cs.set k v) e) :: L) → K (some ⟨b, 0, none⟩) (k + 1) c w') :
 ∃ rq rn rc w1, (Instr.buildSlice t 1 #[(0, v)]).run P w = .ok (.slice rq rn rc) w1 ∧
  ∃ q' n' c' w2, (Builtin.append_ #[t, t] ty #[.slice (some ⟨b, 0, none⟩) k c, .slice rq rn rc]).run P w1 = .ok (.slice q' n' c') w2 ∧ K q' n' c' w2 := by
 obtain ⟨rq, rn, rc, w1, h1, _, h2⟩ := appRoom (ty := ty) r h hk hc hv h1 hfill (C := fun _ => True) (fun _ _ _ => trivial) hK
 exact ⟨rq, rn, rc, w1, h1, h2⟩

inductive Inl where
 | plain (s : List UInt8)
 | openP (s : List UInt8) (i : Nat)
 | emphP (s : List UInt8) (co cc : Bool) (i n : Int)
 | esc (s : List UInt8)
 | code (s : List UInt8)
 | strong (m : List UInt8) (ks : List Inl)
 | del (m : List UInt8) (ks : List Inl)
 | emph (m : List UInt8) (ks : List Inl)
 | link (ks : List Inl) (url title : List UInt8) (tc : UInt8) (corner : Bool)
 | image (ks : List Inl) (url title : List UInt8) (tc : UInt8) (corner : Bool)
 | auto (text url : List UInt8)
 | tag (s : List UInt8)
 | hard
 | soft
 | task (b : Bool)
def ptrV (t : TypeId) (b : Nat) : Value := .iface t (.pointer (some ⟨b, 0, none⟩))
mutual
def InlAt : Inl → Value → List Chunk → Prop
 | .plain s, v, M => ∃ b cs e, v = ptrV ty_P_Plain b ∧ M = [(b, cel (.string (bs s) :: cs) e)]
 | .openP s i, v, M => ∃ b e, v = ptrV ty_P_openPlain b ∧ M = [(b, cel [.string (bs s), .int .i64 i] e)]
 | .emphP s co cc i n, v, M => ∃ b e, v = ptrV ty_P_emphPlain b ∧ M = [(b, cel [.string (bs s), .bool co, .bool cc, .int .i64 i, .int .i64 n] e)]
 | .esc s, v, M => ∃ b e, v = ptrV ty_P_Escaped b ∧ M = [(b, cel [.string (bs s)] e)]
 | .code s, v, M => ∃ b e, v = ptrV ty_P_Code b ∧ M = [(b, cel [.string (bs s)] e)]
 | .strong m ks, v, M => ∃ b e q n c vs RM KM, v = ptrV ty_P_Strong b ∧ M = (b, cel [.string (bs m), .slice q n c] e) :: (RM ++ KM) ∧ Sl 1 ty_Inline q n c vs RM ∧ InlsAt ks vs KM
 | .del m ks, v, M => ∃ b e q n c vs RM KM, v = ptrV ty_P_Del b ∧ M = (b, cel [.string (bs m), .slice q n c] e) :: (RM ++ KM) ∧ Sl 1 ty_Inline q n c vs RM ∧ InlsAt ks vs KM
 | .emph m ks, v, M => ∃ b e q n c vs RM KM, v = ptrV ty_P_Emph b ∧ M = (b, cel [.string (bs m), .slice q n c] e) :: (RM ++ KM) ∧ Sl 1 ty_Inline q n c vs RM ∧ InlsAt ks vs KM
 | .link ks u t tc k, v, M => ∃ b e q n c vs RM KM, v = ptrV ty_P_Link b ∧ M = (b, cel [.slice q n c, .string (bs u), .string (bs t), .int .u8 tc.toNat, .bool k] e) :: (RM ++ KM) ∧ Sl 1 ty_Inline q n c vs RM ∧ InlsAt ks vs KM
 | .image ks u t tc k, v, M => ∃ b e q n c vs RM KM, v = ptrV ty_P_Image b ∧ M = (b, cel [.slice q n c, .string (bs u), .string (bs t), .int .u8 tc.toNat, .bool k] e) :: (RM ++ KM) ∧ Sl 1 ty_Inline q n c vs RM ∧ InlsAt ks vs KM
 | .auto t u, v, M => ∃ b e, v = ptrV ty_P_AutoLink b ∧ M = [(b, cel [.string (bs t), .string (bs u)] e)]
 | .tag s, v, M => ∃ b e, v = ptrV ty_P_HTMLTag b ∧ M = [(b, cel [.string (bs s)] e)]
 | .hard, v, M => ∃ b e, v = ptrV ty_P_HardBreak b ∧ M = [(b, cel [] e)]
 | .soft, v, M => ∃ b e, v = ptrV ty_P_SoftBreak b ∧ M = [(b, cel [] e)]
 | .task k, v, M => ∃ b e, v = ptrV ty_P_Task b ∧ M = [(b, cel [.bool k] e)]
def InlsAt : List Inl → List Value → List Chunk → Prop
 | [], vs, M => vs = [] ∧ M = []
 | t :: ts, vs, M => ∃ v vs' M1 M2, vs = v :: vs' ∧ M = M1 ++ M2 ∧ InlAt t v M1 ∧ InlsAt ts vs' M2
end
theorem InlsAt.append : ∀ {a b : List Inl} {vs us : List Value} {M N : List Chunk}, InlsAt a vs M → InlsAt b us N → InlsAt (a ++ b) (vs ++ us) (M ++ N)
 | [], b, vs, us, M, N, h1, h2 => by obtain ⟨rfl, rfl⟩ := h1; exact h2
 | t :: a, b, vs, us, M, N, h1, h2 => by
  obtain ⟨v, vs', M1, M2, rfl, rfl, h3, h4⟩ := h1
  exact ⟨v, vs' ++ us, M1, M2 ++ N, rfl, by simp, h3, h4.append h2⟩
theorem InlsAt.split : ∀ {a b : List Inl} {vs : List Value} {M : List Chunk}, InlsAt (a ++ b) vs M → ∃ vs1 vs2 M1 M2, vs = vs1 ++ vs2 ∧ M = M1 ++ M2 ∧ InlsAt a vs1 M1 ∧ InlsAt b vs2 M2
 | [], b, vs, M, h => ⟨[], vs, [], M, rfl, rfl, ⟨rfl, rfl⟩, h⟩
 | t :: a, b, vs, M, h => by
  obtain ⟨v, vs', M1, M2, rfl, rfl, h3, h4⟩ := h
  obtain ⟨vs1, vs2, N1, N2, rfl, rfl, h5, h6⟩ := h4.split
  exact ⟨v :: vs1, vs2, M1 ++ N1, N2, rfl, by simp, ⟨v, vs1, M1, N1, rfl, rfl, h3, h5⟩, h6⟩
theorem InlsAt.one {t : Inl} {v : Value} {M : List Chunk} (h : InlAt t v M) : InlsAt [t] [v] M := ⟨v, [], M, [], rfl, by simp, h, rfl, rfl⟩
theorem InlsAt.length : ∀ {a : List Inl} {vs : List Value} {M : List Chunk}, InlsAt a vs M → vs.length = a.length
 | [], vs, M, h => by rw [h.1]; rfl
 | t :: a, vs, M, h => by
  obtain ⟨v, vs', M1, M2, rfl, rfl, h3, h4⟩ := h
  simp [h4.length]
def Inl.ty : Inl → TypeId
 | .plain _ => ty_P_Plain | .openP _ _ => ty_P_openPlain | .emphP _ _ _ _ _ => ty_P_emphPlain | .esc _ => ty_P_Escaped | .code _ => ty_P_Code | .strong _ _ => ty_P_Strong | .del _ _ => ty_P_Del | .emph _ _ => ty_P_Emph
 | .link _ _ _ _ _ => ty_P_Link | .image _ _ _ _ _ => ty_P_Image | .auto _ _ => ty_P_AutoLink | .tag _ => ty_P_HTMLTag | .hard => ty_P_HardBreak | .soft => ty_P_SoftBreak | .task _ => ty_P_Task
theorem InlAt.ptr {t : Inl} {v : Value} {M : List Chunk} (h : InlAt t v M) : ∃ b cs e M', v = ptrV t.ty b ∧ M = (b, cel cs e) :: M' := by
 cases t <;> first
  | (obtain ⟨b, cs, e, rfl, rfl⟩ := h; exact ⟨b, _, _, [], rfl, rfl⟩)
  | (obtain ⟨b, e, rfl, rfl⟩ := h; exact ⟨b, _, _, [], rfl, rfl⟩)
  | (obtain ⟨b, e, q, n, c, vs, RM, KM, rfl, rfl, _⟩ := h; exact ⟨b, _, _, _, rfl, rfl⟩)
end Go.Proofs.YtgbgadkldalkbaaGreatDoor


set_option linter.unusedVariables false
namespace Go.Proofs.YtgbgadkldalkbaaGreatDoor
open Go.Proofs Go.IntWalk Go.RowKit
variable {σ : Out} {w : World} {L L' : List Chunk} {R : Ending → World → Prop}
theorem und_open : P.underlying ty_P_openPlain = some (.pointer ty_openPlain) := by kernel_rfl
theorem und_emph : P.underlying ty_P_emphPlain = some (.pointer ty_emphPlain) := by kernel_rfl
theorem und_plain : P.underlying ty_P_Plain = some (.pointer ty_Plain) := by kernel_rfl
theorem ta_open_no {t : TypeId} {v : Value} (ht : t ≠ ty_P_openPlain) (w : World) : (Instr.typeAssert (.iface t v) ty_Inline ty_P_openPlain true).run P w = .ok (.tuple #[.pointer none, .bool false]) w :=
 ta_no (by rw [und_open]; intro ms h; cases h) und_open ht (i := (P.info? ty_P_openPlain).getD default) (by kernel_rfl) (by kernel_rfl) w
theorem ta_emph_no {t : TypeId} {v : Value} (ht : t ≠ ty_P_emphPlain) (w : World) : (Instr.typeAssert (.iface t v) ty_Inline ty_P_emphPlain true).run P w = .ok (.tuple #[.pointer none, .bool false]) w :=
 ta_no (by rw [und_emph]; intro ms h; cases h) und_emph ht (i := (P.info? ty_P_emphPlain).getD default) (by kernel_rfl) (by kernel_rfl) w
theorem ta_plain_no {t : TypeId} {v : Value} (ht : t ≠ ty_P_Plain) (w : World) : (Instr.typeAssert (.iface t v) ty_Inline ty_P_Plain true).run P w = .ok (.tuple #[.pointer none, .bool false]) w :=
 ta_no (by rw [und_plain]; intro ms h; cases h) und_plain ht (i := (P.info? ty_P_Plain).getD default) (by kernel_rfl) (by kernel_rfl) w
theorem ta_open_yes {v : Value} (w : World) : (Instr.typeAssert (.iface ty_P_openPlain v) ty_Inline ty_P_openPlain true).run P w = .ok (.tuple #[v, .bool true]) w :=
 ta_yes (by rw [und_open]; intro ms h; cases h) und_open w
theorem ta_emph_yes {v : Value} (w : World) : (Instr.typeAssert (.iface ty_P_emphPlain v) ty_Inline ty_P_emphPlain true).run P w = .ok (.tuple #[v, .bool true]) w :=
 ta_yes (by rw [und_emph]; intro ms h; cases h) und_emph w
theorem ta_plain_yes {v : Value} (w : World) : (Instr.typeAssert (.iface ty_P_Plain v) ty_Inline ty_P_Plain true).run P w = .ok (.tuple #[v, .bool true]) w :=
 ta_yes (by rw [und_plain]; intro ms h; cases h) und_plain w
theorem fillI (t : TypeId) (q : Option Addr) : Instr.fill (fun i => some (i * 1, 1)) ((Array.range (1 * 1)).map (rowInl.z.cells[· % rowInl.z.cells.size]!)) [(0, .iface t (.pointer q))] = some #[.iface t (.pointer q)] := by kernel_rfl

theorem Sl.loadAt {q : Option Addr} {n c j : Nat} {e : TypeId} {vs : List Value} {RM : List Chunk} {v : Value} {K : Addr → Prop} (hS : Sl 1 e q n c vs RM) (h : Sat σ w (RM ++ L)) (hj : vs[j]? = some v)
 (hK : ∀ b, q = some ⟨b, 0, none⟩ → w.cell? ⟨b, j, none⟩ = some v → K ⟨b, 0, none⟩) : nilP q K := by
 obtain ⟨hl, _, ⟨rfl, rfl, _, _⟩ | ⟨rb, sp, rfl, rfl, _⟩⟩ := hS
 ·have := (List.getElem?_eq_some_iff.1 hj).1; omega
 ·refine nilP_some (hK rb rfl (h.ld (.head _) ?_))
  rw [List.getElem?_append_left (List.getElem?_eq_some_iff.1 hj).1]; exact hj

theorem emph_none_ok {pq q : Option Addr} {n c : Nat} {vs : List Value} {ts : List Inl} {RM EM : List Chunk} (hS : Sl 1 ty_Inline q n c vs RM) (hI : InlsAt ts vs EM) (hno : ∀ t ∈ ts, t.ty ≠ ty_P_openPlain ∧ t.ty ≠ ty_P_emphPlain) (hn : n < 4611686018427387904)
 (h : Sat σ w (RM ++ (EM ++ L))) (hR : ∀ w, Sat σ w (RM ++ (EM ++ L)) → R (.returned (.slice q n c)) w) : callE P i_parseState_emph #[.pointer pq, .slice q 0 c, .slice q n c] R w := by
 refine g_parseState_emph.sound ?_
 refine Sat.bx h fun b1 w h => ?_
 refine Sat.bx h fun b3 w h => ?_
 intro X hX
 have hl := hS.1
 have hlen := hI.length
 have hcell : ∀ (j : Nat) (hj : j < n), ∃ t b, t ≠ ty_P_openPlain ∧ t ≠ ty_P_emphPlain ∧ vs[j]? = some (ptrV t b) := by
  intro j hj
  have hj2 : j < ts.length := by omega
  have hsp : ts = ts.take j ++ (ts[j] :: ts.drop (j + 1)) := by rw [← List.drop_eq_getElem_cons hj2, List.take_append_drop]
  rw [hsp] at hI
  obtain ⟨vs1, vs2, M1, M2, rfl, rfl, h1, h2⟩ := hI.split
  obtain ⟨v, vs', N1, N2, rfl, rfl, h3, h4⟩ := h2
  obtain ⟨b, cs, e, M', rfl, rfl⟩ := h3.ptr
  have := h1.length
  rw [List.length_take, Nat.min_eq_left (by omega)] at this
  exact ⟨_, b, (hno _ (List.getElem_mem hj2)).1, (hno _ (List.getElem_mem hj2)).2, by rw [List.getElem?_append_right (by omega), this]; simp⟩
 have key : ∀ k j w, j + k = n → Sat σ w ((b3, cel [.slice none 0 0, .slice none 0 0, .slice none 0 0, .slice none 0 0, .slice none 0 0] ty_5_S_P_emphPlain) :: (b1, cel [.slice q j c] ty_S_Inline) :: (RM ++ (EM ++ L))) →
  X q n c b1 b3 (.func (.func i_parseState_emph_1) #[] #[]) (.func (.func i_parseState_emph_2) #[] #[.pointer (some ⟨b3, 0, none⟩), .pointer (some ⟨b1, 0, none⟩)]) (j : Int) w := by
  intro k
  induction k with
  | zero =>
   intro j w hj h
   refine hX _ _ _ _ _ _ _ _ _ (br_false (by simp; omega) ?_)
   refine ⟨_, _, _, h.ldA, ?_⟩
   rw [show j = n by omega]
   exact hR w h.tail.tail
  | succ k ih =>
   intro j w hj h
   obtain ⟨t, pb, h1, h2, h3⟩ := hcell j (by omega)
   refine hX _ _ _ _ _ _ _ _ _ (br_true (by simp; omega) ⟨by omega, by omega, ?_⟩)
   have hS0 := hS
   obtain ⟨_, hnc, ⟨rfl, rfl, _, _⟩ | ⟨rb, sp, rfl, rfl, hsp⟩⟩ := hS
   ·omega
   refine nilP_some ?_
   simp only [Addr.add_lit, Int.toNat_natCast, Nat.mul_one, Nat.zero_add]
   have hg : (vs ++ sp)[j]? = some (ptrV t pb) := by rw [List.getElem?_append_left (by omega)]; exact h3
   refine ⟨_, Sat.ld h (.tail _ (.tail _ (.head _))) hg, _, _, _, ta_open_no h1 w, br_false rfl ?_⟩
   refine ⟨by omega, by omega, nilP_some ?_⟩
   simp only [Addr.add_lit, Int.toNat_natCast, Nat.mul_one, Nat.zero_add]
   refine ⟨_, Sat.ld h (.tail _ (.tail _ (.head _))) hg, _, _, _, ta_emph_no h2 w, br_true rfl ?_⟩
   refine h.tk fun w h => ?_
   refine ⟨by omega, by omega, nilP_some ?_⟩
   refine ⟨_, _, _, h.ldA, ?_⟩
   simp only [Addr.add_lit, Int.toNat_natCast, Nat.mul_one, Nat.zero_add]
   refine ⟨_, Sat.ld h (.tail _ (.tail _ (.head _))) hg, ?_⟩
   have h0 := h
   have h : Sat σ w ((rb, cel (vs ++ sp) ty_Inline) :: (b1, cel [.slice (some ⟨rb, 0, none⟩) j c] ty_S_Inline) :: (b3, cel [.slice none 0 0, .slice none 0 0, .slice none 0 0, .slice none 0 0, .slice none 0 0] ty_5_S_P_emphPlain) :: (EM ++ L)) := h.re
   refine appRoom rowInl h (v := ptrV t pb) (by rw [List.length_append]; omega) (by omega) rfl rfl (fillI t _) (C := fun w1 => SameC _ w1 _ 1) (fun w1 X h' => h0.same h' (.tail _ (.head _)) (.tail _ (.tail _ (.head _))) 1) fun w h => ?_
   rw [show (vs ++ sp).set j (ptrV t pb) = vs ++ sp from by
    apply List.ext_getElem?; intro i; rw [List.getElem?_set]; split
    ·rename_i hi; subst hi; rw [if_pos (by rw [List.length_append]; omega), hg]
    ·rfl] at h
   refine h.stA 1 fun w h => ?_
   rw [i64_inc (by omega)]
   refine ih (j + 1) w (by omega) ?_
   have h : Sat σ w ((rb, cel (vs ++ sp) ty_Inline) :: (b1, cel [.slice (some ⟨rb, 0, none⟩) (j + 1) c] ty_S_Inline) :: (b3, cel [.slice none 0 0, .slice none 0 0, .slice none 0 0, .slice none 0 0, .slice none 0 0] ty_5_S_P_emphPlain) :: (EM ++ L)) := h
   exact h.re
 exact key n 0 w (by omega) h
end Go.Proofs.YtgbgadkldalkbaaGreatDoor


set_option linter.unusedVariables false
set_option maxRecDepth 20000
namespace Go.Proofs.YtgbgadkldalkbaaGreatDoor
open Go.Proofs
namespace g_strings_Builder_Grow
noncomputable def body : Code := bodyOf Tryz.f212
def k1 (R : EP) (x0 : OA) (x1 : Int) (w : World) : Prop :=
 tk w fun w3 =>
 nilP x0 fun a4 =>
 nilP x0 fun a5 =>
 ∃ (v6q : OA), ∃ (v6n : Nat), ∃ (v6c : Nat), w3.cell? (a4.add 1) = some (.slice v6q v6n v6c) ∧
 ∃ (v7q : OA), ∃ (v7n : Nat), ∃ (v7c : Nat), w3.cell? (a5.add 1) = some (.slice v7q v7n v7c) ∧
 ∃ (r8 : Int), ∃ w9, (Builtin.cap_ #[ty_S_uint8] ty_int #[.slice v6q v6n v6c]).run P w3 = .ok (.int .i64 r8) w9 ∧
 SameC w3 w9 (a5.add 1) 1 ∧
 br (decide ((IntKind.i64.wrap (r8 - (v7n : Int))) < x1))
 (callE P i_strings_Builder_grow #[.pointer x0, .int .i64 x1] (fun e w11 => e = .returned (.tuple #[]) ∧
 R (.returned (.tuple #[])) w11) w9)
 (R (.returned (.tuple #[])) w9)

end g_strings_Builder_Grow
def g_strings_Builder_Grow (R : EP) (x0 : OA) (x1 : Int) (w : World) : Prop :=
 callE P i_strings_Builder_copyCheck #[.pointer x0] (fun e w2 => e = .returned (.tuple #[]) ∧
 br (decide (x1 < 0))
 (False)
 (g_strings_Builder_Grow.k1 R x0 x1 w2)) w

namespace g_strings_Builder_Grow
noncomputable def ac (R : EP) : AC :=
 (.seq (.leaf (sel [0] body)) (.seq (.leaf (sel [1,0] body)) (.mark (leaf [(0, .s .ptr), (1, .s (.int .i64))] (k1 R)) (.seq (.draw (.pure 0 (.pure 1 (.pure 2 (.pure 5 (.pure 6 (.pure 7 (.pure 11 (.load 3 (.load 8 (.pure 9 (.one 4 (.pure 10 (.pure 12 .done))))))))))))) (sel [1,1,0] body)) (.leaf (sel [1,1,1] body))))))
theorem good (R : EP) : Good P 25 (ac R) (QF P [] R) :=
 ⟨trivial, ⟨trivial, ⟨⟨⟨by kernel_rfl, by kernel_rfl, fun _ _ _ h => h⟩, trivial⟩, cutZ⟩⟩⟩
theorem eq (R : EP) (x0 : OA) (x1 : Int) (w : World) : g_strings_Builder_Grow R x0 x1 w = vcA P 25 (ac R) (QF P [] R) (fr0 [.pointer x0, .int .i64 x1]) w := by kernel_rfl
theorem sound {R : EP} {x0 : OA} {x1 : Int} {w : World} (h : g_strings_Builder_Grow R x0 x1 w) : callE P i_strings_Builder_Grow #[.pointer x0, .int .i64 x1] R w :=
 callE_fz (c := body) Tryz.func212 Tryz.call212 (good R) (eq R x0 x1 w) h
end g_strings_Builder_Grow
namespace g_strings_Builder_grow
noncomputable def body : Code := bodyOf Tryz.f244
end g_strings_Builder_grow
def g_strings_Builder_grow (R : EP) (x0 : OA) (x1 : Int) (w : World) : Prop :=
 tk w fun w1 =>
 nilP x0 fun a2 =>
 nilP x0 fun a3 =>
 ∃ (v4q : OA), ∃ (v4n : Nat), ∃ (v4c : Nat), w1.cell? (a2.add 1) = some (.slice v4q v4n v4c) ∧
 ∃ (v5q : OA), ∃ (v5n : Nat), ∃ (v5c : Nat), w1.cell? (a3.add 1) = some (.slice v5q v5n v5c) ∧
 ∃ (r6 : Int), ∃ w7, (Builtin.cap_ #[ty_S_uint8] ty_int #[.slice v4q v4n v4c]).run P w1 = .ok (.int .i64 r6) w7 ∧
 SameC w1 w7 (a3.add 1) 1 ∧
 callE P i_internal_bytealg_MakeNoZero #[.int .i64 (IntKind.i64.wrap ((IntKind.i64.wrap (2 * r6)) + x1))] (fun e w9 => ∃ (r8q : OA), ∃ (r8n : Nat), ∃ (r8c : Nat), e = .returned (.slice r8q r8n r8c) ∧
 SameC w7 w9 (a3.add 1) 1 ∧
 ∃ (r10q : OA), ∃ (r10n : Nat), ∃ (r10c : Nat), (∀ w, (Instr.sliceAt ty_S_uint8 (.slice r8q r8n r8c) none (some (.int .i64 (v5n : Int))) none).run P w = .ok (.slice r10q r10n r10c) w) ∧
 nilP x0 fun a11 =>
 ∃ (v12q : OA), ∃ (v12n : Nat), ∃ (v12c : Nat), w9.cell? (a11.add 1) = some (.slice v12q v12n v12c) ∧
 ∃ (r13 : Int), ∃ w14, (Builtin.copy_ #[ty_S_uint8, ty_S_uint8] ty_int #[.slice r10q r10n r10c, .slice v12q v12n v12c]).run P w9 = .ok (.int .i64 r13) w14 ∧
 nilP x0 fun a15 =>
 stV w14 ((a15.add 1).add 0) (.slice r10q r10n r10c) fun w16 =>
 R (.returned (.tuple #[])) w16) w7

namespace g_strings_Builder_grow
noncomputable def ac (R : EP) : AC :=
 (.seq (.draw (.pure 0 (.pure 1 (.pure 2 (.pure 6 (.pure 9 (.pure 10 (.pure 11 (.load 3 (.load 12 (.pure 13 (.one 4 (.pure 5 (.pure 7 (.one 8 (.pure 14 (.pure 15 .done)))))))))))))))) (sel [0] body)) (.leaf (sel [1] body)))
theorem good (R : EP) : Good P 30 (ac R) (QF P [] R) :=
 ⟨⟨by kernel_rfl, by kernel_rfl, fun _ _ _ h => h⟩, trivial⟩
theorem eq (R : EP) (x0 : OA) (x1 : Int) (w : World) : g_strings_Builder_grow R x0 x1 w = vcA P 30 (ac R) (QF P [] R) (fr0 [.pointer x0, .int .i64 x1]) w := by kernel_rfl
theorem sound {R : EP} {x0 : OA} {x1 : Int} {w : World} (h : g_strings_Builder_grow R x0 x1 w) : callE P i_strings_Builder_grow #[.pointer x0, .int .i64 x1] R w :=
 callE_fz (c := body) Tryz.func244 Tryz.call244 (good R) (eq R x0 x1 w) h
end g_strings_Builder_grow
end Go.Proofs.YtgbgadkldalkbaaGreatDoor

set_option linter.unusedVariables false
namespace Go.Proofs.YtgbgadkldalkbaaGreatDoor
open Go.Proofs Go.IntWalk Go.RowKit
variable {σ : Out} {w : World} {L L' : List Chunk} {R : Ending → World → Prop}
theorem makeNoZero_ok {n : Nat} (hn : n ≤ 1099511627776) (h : Sat σ w L) (hR : ∀ w b cs, n ≤ cs.length → cs.length ≤ 9223372036854775807 → Sat σ w ((b, cel cs ty_uint8) :: L) → R (.returned (.slice (some ⟨b, 0, none⟩) n cs.length)) w) :
 callE P i_internal_bytealg_MakeNoZero #[.int .i64 n] R w := by
 obtain ⟨cs, hr, h1, h2⟩ := Lib.run_makeNoZero (P := P) w x_internal_bytealg_MakeNoZero.params ty_S_uint8 ty_uint8 rowU8.ht n (by omega)
 refine ext_of (e := Extern.BytealgMakeNoZero.makeNoZero x_internal_bytealg_MakeNoZero.params #[ty_S_uint8]) xf_internal_bytealg_MakeNoZero (by kernel_rfl) (by kernel_rfl) (by kernel_rfl) (by kernel_rfl) hr ?_
 have hd : Sat σ w.drew.drew L := h.drew.drew
 have ha := hd.alc cs.toList ty_uint8
 have e3 : YtgbgadkldalkbaaGreatDoor.alc w.drew.drew cs.toList.toArray ty_uint8 = w.drew.drew.alloc (.cells cs ty_uint8) := by rw [Array.toArray_toList]; rfl
 rw [e3] at ha
 have h3 := h2 (by unfold maxLen; omega)
 unfold maxLen at h3
 exact hR _ _ cs.toList (by simpa using h1) (by simpa using h3) ha
theorem copyNone (w : World) (b c : Nat) : (Builtin.copy_ #[ty_S_uint8, ty_S_uint8] ty_int #[.slice (some ⟨b, 0, none⟩) 0 c, .slice none 0 0]).run P w = .ok (.int .i64 0) w := by
 have h : P.underlying ty_S_uint8 = some (.slice ty_uint8) := rowU8.ht
 have h2 : P.info? ty_uint8 = some rowU8.i := rowU8.hi
 have h4 : (Builtin.lenOf (.slice none 0 0)).run P w = .ok 0 w := rfl
 have h5 : rowU8.i.size = 1 := rowU8.hs
 have h6 : (Builtin.firstCells 1 0 (.slice none 0 0)).run P w = .ok #[] w := run_firstCells_none w 1 0 0 0
 simp [Builtin.copy_, run_underlying h, sizeOf, typeInfo, h2, goInt, h4, h5, h6, storeCells]
theorem bldGrow_ok {b n : Nat} {M : List Chunk} (hB : Bld b false [] M) (h : Sat σ w (M ++ L)) (hn : 0 < n) (hn2 : n ≤ 1099511627776) (hR : ∀ w M', Bld b true [] M' → Sat σ w (M' ++ L) → R (.returned (.tuple #[])) w) :
 callE P i_strings_Builder_Grow #[.pointer (some ⟨b, 0, none⟩), .int .i64 n] R w := by
 obtain ⟨p, q, c, M0, rfl, hS, hp, hg, hc⟩ := hB
 have hq : q = none := by cases q <;> simp_all
 subst hq
 obtain ⟨_, _, ⟨_, _, rfl, rfl⟩ | ⟨_, _, h, _⟩⟩ := hS
 rotate_left
 ·cases h
 refine g_strings_Builder_Grow.sound ?_
 refine copyCheck_ok h hp fun w h => ⟨rfl, br_false (by simp) ?_⟩
 refine h.tk fun w h => ?_
 refine nilP_some (nilP_some ?_)
 refine ⟨_, _, _, h.ldA, ?_⟩
 refine ⟨_, _, _, h.ldA, ?_⟩
 refine ⟨_, _, capRun _ _ _ _ _ _ rowU8.ht w, fun _ _ => rfl, ?_⟩
 refine br_true (by simp (disch := omega) only [i64_in]; simp; omega) ?_
 refine g_strings_Builder_grow.sound ?_
 refine h.tk fun w h => ?_
 refine nilP_some (nilP_some ?_)
 refine ⟨_, _, _, h.ldA, ?_⟩
 refine ⟨_, _, _, h.ldA, ?_⟩
 refine ⟨_, _, capRun _ _ _ _ _ _ rowU8.ht w, fun _ _ => rfl, ?_⟩
 have e1 : IntKind.i64.wrap (IntKind.i64.wrap (2 * ((0 : Nat) : Int)) + (n : Int)) = (n : Int) := by rw [i64_in (2 * _) (by omega), i64_in _ (by omega)]; omega
 rw [e1]
 have h0 := h
 refine makeNoZero_ok hn2 h fun w rb cs h1 h2 h => ⟨_, _, _, rfl, h0.same h (.head _) (.tail _ (.head _)) 1, ?_⟩
 refine ⟨_, _, _, fun w => sliceT rowU8.ht rowU8.hi _ n cs.length 0 (by omega) w, ?_⟩
 refine nilP_some ?_
 refine ⟨_, _, _, h.ldA, ?_⟩
 refine ⟨_, _, copyNone w rb cs.length, ?_⟩
 refine nilP_some ?_
 refine h.stA 1 fun w h => ?_
 have h : Sat σ w ((rb, cel cs ty_uint8) :: bldC b (some ⟨b, 0, none⟩) (some ⟨rb, 0, none⟩) 0 cs.length :: L) := h
 refine ⟨rfl, hR w [bldC b (some ⟨b, 0, none⟩) (some ⟨rb, 0, none⟩) 0 cs.length, (rb, cel cs ty_uint8)] ⟨_, _, _, _, rfl, ⟨by simp [bc], by omega, .inr ⟨rb, cs, rfl, by simp [bc], by simp [bc]⟩⟩, .inr rfl, rfl, fun _ => by omega⟩ ?_⟩
 exact h.re
def sv (ts : List (List UInt8)) : List Value := ts.map fun t => .string (bs t)
@[simp] theorem sv_length (ts : List (List UInt8)) : (sv ts).length = ts.length := by simp [sv]
theorem sv_get {ts : List (List UInt8)} {j : Nat} (h : j < ts.length) : (sv ts)[j]? = some (.string (bs ts[j])) := by simp [sv, h]
def joinL (sep : List UInt8) : List (List UInt8) → List UInt8
 | [] => []
 | t :: ts => t ++ ts.flatMap (fun u => sep ++ u)
def sumL (ts : List (List UInt8)) : Nat := (ts.map List.length).sum
theorem joinL_length (sep : List UInt8) (t : List UInt8) (ts : List (List UInt8)) : (joinL sep (t :: ts)).length = t.length + sumL ts + ts.length * sep.length := by
 simp only [joinL, List.length_append, sumL]
 induction ts with
 | nil => simp
 | cons u ts ih => simp only [List.flatMap_cons, List.length_append, List.map_cons, List.sum_cons, List.length_cons] at *; rw [Nat.add_mul]; omega
theorem Sl.rowAt {e : TypeId} {q : Option Addr} {n c : Nat} {vs : List Value} {M : List Chunk} (hS : Sl 1 e q n c vs M) (hn : 0 < n) : ∃ b sp, q = some ⟨b, 0, none⟩ ∧ M = [(b, cel (vs ++ sp) e)] := by
 obtain ⟨_, _, ⟨_, h, _, _⟩ | ⟨b, sp, h1, h2, _⟩⟩ := hS
 ·omega
 ·exact ⟨b, sp, h1, h2⟩
theorem join_ok {q : Option Addr} {n c : Nat} {t : List UInt8} {ts : List (List UInt8)} {AM : List Chunk} {sep : List UInt8} (hS : Sl 1 ty_string q n c (sv (t :: ts)) AM) (h : Sat σ w (AM ++ L)) (hne : 1 ≤ ts.length) (hn : n < 1073741824) (hsep : sep.length < 65536)
 (h0 : 0 < (joinL sep (t :: ts)).length) (hb : (joinL sep (t :: ts)).length < 1073741824) (hR : ∀ w, Sat σ w (AM ++ L) → R (.returned (.string (bs (joinL sep (t :: ts))))) w) : callE P i_strings_Join #[.slice q n c, .string (bs sep)] R w := by
 have hl := hS.1
 rw [sv_length, List.length_cons] at hl
 have hjl := joinL_length sep t ts
 refine g_strings_Join.sound ?_
 obtain ⟨rb, sp, rfl, rfl⟩ := hS.rowAt (by omega)
 refine br_false (by simp; omega) (br_false (by simp; omega) ?_)
 have fin : ∀ w, Sat σ w ([(rb, cel (sv (t :: ts) ++ sp) ty_string)] ++ L) → box w #[.pointer none, .slice none 0 0] ty_strings_Builder fun b5 w6 =>
  callE P i_strings_Builder_Grow #[.pointer (some ⟨b5, 0, none⟩), .int .i64 (((joinL sep (t :: ts)).length : Nat) : Int)] (fun e w8 => e = .returned (.tuple #[]) ∧
  0 ≤ (0 : Int) ∧ 0 < (n : Int) ∧
  nilP (some (⟨rb, 0, none⟩ : Addr)) fun a9 =>
  ∃ (v10 : ByteArray), w8.cell? (a9.add (Int.toNat 0 * 1)) = some (.string v10) ∧
  callE P i_strings_Builder_WriteString #[.pointer (some ⟨b5, 0, none⟩), .string v10] (fun e w12 => ∃ (r11_0 : Int), ∃ (r11_1 : Value), e = .returned (.tuple #[.int .i64 r11_0, r11_1]) ∧
  ∃ (r13q : Option Addr), ∃ (r13n : Nat), ∃ (r13c : Nat), ∃ w14, (Instr.sliceAt ty_S_string (.slice (some ⟨rb, 0, none⟩) n c) (some (.int .i64 1)) none none).run P w12 = .ok (.slice r13q r13n r13c) w14 ∧
  g_strings_Join.l2 R (bs sep) b5 r13q r13n r13c (r13n : Int) 0 w14) w8) w6 := by
  intro w h
  refine Sat.bx h fun b w h => ?_
  refine bldGrow_ok (bldNew b) h h0 (by omega) fun w M hB h => ⟨rfl, by omega, by omega, nilP_some ?_⟩
  refine ⟨bs t, Sat.ld h (List.mem_append_right _ (.head _)) rfl, ?_⟩
  refine bldS_ok hB h (.inr rfl) (by simp; omega) fun w M hB h => ⟨_, _, rfl, ?_⟩
  refine ⟨_, _, _, _, sliceF rowStr.ht rowStr.hi _ n c 1 (by omega) w, ?_⟩
  have hnc := hS.2.1
  rw [if_neg (by omega), rowStr.hs]
  simp only [Option.map_some, Addr.add_lit, Nat.zero_add, Nat.mul_one]
  rw [List.nil_append] at hB
  intro Y hY
  have key : ∀ k j (l : List UInt8) M w, j + k = ts.length → Bld b true l M → Sat σ w (M ++ ([(rb, cel (sv (t :: ts) ++ sp) ty_string)] ++ L)) → l ++ (ts.drop j).flatMap (fun u => sep ++ u) = joinL sep (t :: ts) →
   Y (bs sep) b (some ⟨rb, 1, none⟩) (n - 1) (c - 1) ((n - 1 : Nat) : Int) (j : Int) w := by
   intro k
   induction k with
   | zero =>
    intro j l M w hj hB h hl2
    rw [List.drop_eq_nil_of_le (by omega)] at hl2
    simp only [List.flatMap_nil, List.append_nil] at hl2
    refine hY _ _ _ _ _ _ _ _ (br_false (by simp; omega) ?_)
    refine bldStr_ok hB h (by rw [hl2]; omega) fun w h => ⟨_, rfl, ?_⟩
    rw [hl2]
    exact hR w h
   | succ k ih =>
    intro j l M w hj hB h hl2
    have hjl : j < ts.length := by omega
    rw [List.drop_eq_getElem_cons hjl, List.flatMap_cons, ← List.append_assoc, ← List.append_assoc] at hl2
    have hlb : (l ++ sep ++ ts[j]).length ≤ (joinL sep (t :: ts)).length := by rw [← hl2]; simp only [List.length_append]; omega
    simp only [List.length_append] at hlb
    refine hY _ _ _ _ _ _ _ _ (br_true (by simp; omega) ⟨by omega, by omega, nilP_some ?_⟩)
    simp only [Addr.add_lit, Int.toNat_natCast, Nat.mul_one]
    have hg : (sv (t :: ts) ++ sp)[1 + j]? = some (.string (bs ts[j])) := by
     rw [List.getElem?_append_left (by simp; omega), show 1 + j = j + 1 by omega, sv_get (by simp; omega)]; rfl
    refine ⟨_, Sat.ld h (List.mem_append_right _ (.head _)) hg, ?_⟩
    refine bldS_ok hB h (.inr rfl) (by omega) fun w M hB h => ⟨_, _, rfl, ?_⟩
    refine bldS_ok hB h (.inr rfl) (by simp; omega) fun w M hB h => ⟨_, _, rfl, ?_⟩
    rw [i64_inc (by omega)]
    exact ih (j + 1) _ M w (by omega) hB h hl2
  exact key ts.length 0 t M w (by omega) hB h rfl
 have sum : ∀ w (a : Nat), a = ts.length * sep.length → Sat σ w ([(rb, cel (sv (t :: ts) ++ sp) ty_string)] ++ L) → g_strings_Join.k2 R (some ⟨rb, 0, none⟩) n c (bs sep) (a : Int) w := by
  intro w a ha h X hX
  have key : ∀ k j (s : Nat), j + k = (t :: ts).length → s + sumL ((t :: ts).drop j) = (joinL sep (t :: ts)).length → X (some ⟨rb, 0, none⟩) n c (bs sep) (s : Int) (some ⟨rb, 0, none⟩) n c (n : Int) (j : Int) w := by
   intro k
   induction k with
   | zero =>
    intro j s hj hs
    rw [List.drop_eq_nil_of_le (by omega)] at hs
    simp only [sumL, List.map_nil, List.sum_nil, Nat.add_zero] at hs
    subst hs
    refine hX _ _ _ _ _ _ _ _ _ _ _ (br_false (by simp at hj; simp; omega) ?_)
    exact fin w h
   | succ k ih =>
    intro j s hj hs
    have hjl : j < (t :: ts).length := by omega
    rw [List.drop_eq_getElem_cons hjl] at hs
    simp only [sumL, List.map_cons, List.sum_cons] at hs
    have hjn : j < n := by simp at hjl; omega
    refine hX _ _ _ _ _ _ _ _ _ _ _ (br_true (by simp; omega) ⟨by omega, by omega, nilP_some ?_⟩)
    simp only [Addr.add_lit, Int.toNat_natCast, Nat.mul_one, Nat.zero_add]
    have hg : (sv (t :: ts) ++ sp)[j]? = some (.string (bs (t :: ts)[j])) := by
     rw [List.getElem?_append_left (by simp at hjl ⊢; omega), sv_get hjl]
    refine ⟨_, Sat.ld h (.head _) hg, ?_⟩
    rw [bs_size]
    refine br_false (by simp (disch := omega) only [i64_in]; simp; omega) ?_
    show X _ _ _ _ _ _ _ _ _ _ w
    rw [i64_inc (by omega), bs_size, i64_in _ (by omega), show (s : Int) + ((t :: ts)[j].length : Nat) = ((s + (t :: ts)[j].length : Nat) : Int) by omega]
    exact ih (j + 1) _ (by omega) (by simp only [sumL]; omega)
  refine key (t :: ts).length 0 a (by omega) ?_
  rw [hjl, ha]
  simp [sumL]
  omega
 have hmul : ts.length * sep.length < 1073741824 := by omega
 by_cases hs0 : sep = []
 ·subst hs0
  refine br_false (by simp) ?_
  exact sum w 0 (by simp) h
 ·refine br_true (by simpa using List.length_pos_iff.2 hs0) ?_
  have hn1 : IntKind.i64.wrap ((n : Int) - 1) = ((ts.length : Nat) : Int) := by simp (disch := omega) only [i64_in]; omega
  refine ⟨by rw [hn1]; omega, br_false ?_ ?_⟩
  ·rw [hn1]
   have hq : Int.tdiv 9223372036854775807 (ts.length : Int) = ((9223372036854775807 / ts.length : Nat) : Int) := by
    rw [Int.tdiv_eq_ediv_of_nonneg (by omega)]; simp
   rw [hq]
   have hge : 65536 ≤ 9223372036854775807 / ts.length := by
    rw [Nat.le_div_iff_mul_le (by omega)]; omega
   have hle : 9223372036854775807 / ts.length ≤ 9223372036854775807 := Nat.div_le_self _ _
   rw [i64_in _ (by omega), bs_size]
   exact decide_eq_false (by omega)
  ·show g_strings_Join.k2 R _ n c (bs sep) _ w
   rw [hn1, bs_size]
   have : IntKind.i64.wrap (0 + IntKind.i64.wrap ((sep.length : Int) * (ts.length : Int))) = ((ts.length * sep.length : Nat) : Int) := by
    have e : ((sep.length : Int) * (ts.length : Int)) = ((ts.length * sep.length : Nat) : Int) := by rw [Nat.mul_comm]; simp
    generalize ts.length * sep.length = m at hmul e ⊢
    rw [e, i64_in (m : Int) (by omega), Int.zero_add, i64_in (m : Int) (by omega)]
   rw [this]
   exact sum w _ rfl h
end Go.Proofs.YtgbgadkldalkbaaGreatDoor


set_option linter.unusedVariables false
namespace Go.Proofs.YtgbgadkldalkbaaGreatDoor
open Go.Proofs Go.IntWalk Go.RowKit
variable {σ : Out} {w : World} {L L' : List Chunk} {R : Ending → World → Prop}
def Inl.plain? : Inl → Option (List UInt8)
 | .plain s => some s
 | .openP s _ => some s
 | .emphP s _ _ _ _ => some s
 | _ => none
theorem toPlain_yes {t : Inl} {v : Value} {M : List Chunk} {s : List UInt8} (hI : InlAt t v M) (hs : t.plain? = some s) (hR : ∀ b cs e, M = [(b, cel (.string (bs s) :: cs) e)] → R (.returned (.pointer (some ⟨b, 0, none⟩))) w) : callE P i_toPlain #[v] R w := by
 refine g_toPlain.sound ?_
 cases t <;> simp only [Inl.plain?, Option.some.injEq, reduceCtorEq] at hs <;> subst hs
 ·obtain ⟨b, cs, e, rfl, rfl⟩ := hI
  exact ⟨_, _, _, ta_plain_yes w, br_true rfl (hR b _ _ rfl)⟩
 ·obtain ⟨b, e, rfl, rfl⟩ := hI
  exact ⟨_, _, _, ta_plain_no (by decide) w, br_false rfl ⟨_, _, _, ta_emph_no (by decide) w, br_false rfl ⟨_, _, _, ta_open_yes w, br_true rfl (nilP_some (hR b _ _ rfl))⟩⟩⟩
 ·obtain ⟨b, e, rfl, rfl⟩ := hI
  exact ⟨_, _, _, ta_plain_no (by decide) w, br_false rfl ⟨_, _, _, ta_emph_yes w, br_true rfl (nilP_some (hR b _ _ rfl))⟩⟩
theorem Inl.not_plain {t : Inl} (h : t.plain? = none) : t.ty ≠ ty_P_Plain ∧ t.ty ≠ ty_P_openPlain ∧ t.ty ≠ ty_P_emphPlain := by
 cases t <;> simp only [Inl.plain?, reduceCtorEq] at h <;> (simp only [Inl.ty]; decide)
theorem toPlain_no {t : Inl} {v : Value} {M : List Chunk} (hI : InlAt t v M) (hs : t.plain? = none) (hR : R (.returned (.pointer none)) w) : callE P i_toPlain #[v] R w := by
 refine g_toPlain.sound ?_
 obtain ⟨h1, h2, h3⟩ := Inl.not_plain hs
 obtain ⟨b, cs, e, M', rfl, _⟩ := hI.ptr
 exact ⟨_, _, _, ta_plain_no h1 w, br_false rfl ⟨_, _, _, ta_emph_no h3 w, br_false rfl ⟨_, _, _, ta_open_no h2 w, br_false rfl hR⟩⟩⟩

theorem joinL_nil : ∀ us : List (List UInt8), joinL [] us = us.flatten
 | [] => rfl
 | u :: us => by simp [joinL, List.flatten_cons, List.flatMap_id']
theorem InlsAt.mid {a : List Inl} {t : Inl} {b : List Inl} {vs : List Value} {M : List Chunk} (h : InlsAt (a ++ t :: b) vs M) : ∃ vs1 v vs2 M1 M2 M3, vs = vs1 ++ v :: vs2 ∧ M = M1 ++ (M2 ++ M3) ∧ InlsAt a vs1 M1 ∧ InlAt t v M2 ∧ InlsAt b vs2 M3 := by
 obtain ⟨vs1, vs2, M1, M2, rfl, rfl, h1, h2⟩ := h.split
 obtain ⟨v, vs', N1, N2, rfl, rfl, h3, h4⟩ := h2
 exact ⟨vs1, v, vs', M1, N1, N2, rfl, rfl, h1, h3, h4⟩
theorem fillS (t : List UInt8) : Instr.fill (fun i => some (i * 1, 1)) ((Array.range (1 * 1)).map (rowStr.z.cells[· % rowStr.z.cells.size]!)) [(0, .string (bs t))] = some #[.string (bs t)] := by kernel_rfl

theorem mergePlain1_ok {rb s m c : Nat} {cs : List Value} {e : TypeId} {vs : List Value} {ts : List Inl} {us : List (List UInt8)} {EM : List Chunk} (hI : InlsAt ts vs EM) (hu : ts.map Inl.plain? = us.map some) (hm : vs.length = m) (h1 : 1 ≤ m) (hmb : m < 1073741824)
 (hcs : ∀ j (hj : j < m), cs[s + j]? = vs[j]?) (hpos : 0 < us.flatten.length) (hb : us.flatten.length < 1073741824) (h : Sat σ w ((rb, cel cs e) :: (EM ++ L)))
 (hR : ∀ w b EM', InlAt (.plain us.flatten) (ptrV ty_P_Plain b) EM' → Sat σ w ((rb, cel cs e) :: (EM' ++ L)) → R (.returned (.pointer (some ⟨b, 0, none⟩))) w) :
 callE P i_mergePlain1 #[.slice (some ⟨rb, s, none⟩) m c] R w := by
 have hlt := hI.length
 have hul : us.length = ts.length := by have := congrArg List.length hu; simpa using this.symm
 refine g_mergePlain1.sound ?_
 have get : ∀ j, j < m → ∃ t v a b M1 M2 M3 u, ts = a ++ t :: b ∧ EM = M1 ++ (M2 ++ M3) ∧ InlAt t v M2 ∧ t.plain? = some u ∧ us[j]? = some u ∧ cs[s + j]? = some v ∧ a.length = j := by
  intro j hj
  have hjt : j < ts.length := by omega
  have hsp : ts = ts.take j ++ (ts[j] :: ts.drop (j + 1)) := by rw [← List.drop_eq_getElem_cons hjt, List.take_append_drop]
  have hju : j < us.length := by omega
  have hp : ts[j].plain? = some us[j] := by
   have := congrArg (fun l => l[j]?) hu
   simpa [hjt, hju] using this
  have hI' := hI
  rw [hsp] at hI'
  obtain ⟨vs1, v, vs2, M1, M2, M3, rfl, rfl, h1, h2, h3⟩ := hI'.mid
  have hl1 := h1.length
  rw [List.length_take, Nat.min_eq_left (by omega)] at hl1
  refine ⟨ts[j], v, ts.take j, ts.drop (j + 1), M1, M2, M3, us[j], hsp, rfl, h2, hp, List.getElem?_eq_getElem hju, ?_, ?_⟩
  ·rw [hcs j hj, List.getElem?_append_right (by omega), hl1]; simp
  ·rw [List.length_take]; omega
 by_cases hm1 : m = 1
 ·refine br_true (by simp [hm1]) ⟨by omega, by omega, nilP_some ?_⟩
  obtain ⟨t, v, a, b, M1, M2, M3, u, rfl, rfl, h2, hp, hu0, hc0, ha⟩ := get 0 (by omega)
  have hb0 : b = [] := by
   simp only [List.length_append, List.length_cons, ha] at hlt
   exact List.eq_nil_of_length_eq_zero (by omega)
  have ha0 : a = [] := List.eq_nil_of_length_eq_zero ha
  subst hb0 ha0
  obtain ⟨us0, rfl⟩ : ∃ x, us = [x] := by
   simp at hul
   match us, hul with
   | [x], _ => exact ⟨x, rfl⟩
  obtain rfl : us0 = u := by simpa using hu0
  simp only [Addr.add_lit, Int.toNat_zero, Nat.zero_mul, Nat.add_zero]
  refine ⟨v, Sat.ld h (.head _) hc0, ?_⟩
  refine toPlain_yes h2 hp fun bb ccs ee hM => ⟨_, rfl, ?_⟩
  refine hR w bb M2 ?_ ?_
  ·rw [hM]; exact ⟨bb, ccs, ee, rfl, by simp⟩
  ·exact h.less (M1 ++ M3)
 ·refine br_false (by simp; omega) ?_
  intro X hX
  have key : ∀ k j (q : Option Addr) (n c' : Nat) AM w, j + k = m → Sl 1 ty_string q n c' (sv (us.take j)) AM → Sat σ w (AM ++ ((rb, cel cs e) :: (EM ++ L))) → X q n c' (some ⟨rb, s, none⟩) m c (m : Int) (j : Int) w := by
   intro k
   induction k with
   | zero =>
    intro j q n c' AM w hj hS h
    refine hX _ _ _ _ _ _ _ _ _ (br_false (by simp; omega) ?_)
    rw [List.take_of_length_le (by omega)] at hS
    cases us with
    | nil => simp at hul; omega
    | cons u us =>
     have hn := hS.1
     rw [sv_length] at hn
     simp at hul hn
     have hjl := joinL_nil (u :: us)
     refine join_ok (sep := []) hS h (by omega) (by omega) (by simp) (by rw [hjl]; exact hpos) (by rw [hjl]; exact hb) fun w h => ⟨_, rfl, ?_⟩
     rw [hjl]
     refine Sat.bx h fun pb w h => ?_
     refine hR w pb [(pb, cel [.string (bs (u :: us).flatten)] ty_Plain)] ⟨pb, [], _, rfl, rfl⟩ ?_
     exact h.less (AM ++ EM)
   | succ k ih =>
    intro j q n c' AM w hj hS h
    have hjm : j < m := by omega
    have hju : j < us.length := by omega
    refine hX _ _ _ _ _ _ _ _ _ (br_true (by simp; omega) ⟨by omega, by omega, nilP_some ?_⟩)
    obtain ⟨t, v, a, b, M1, M2, M3, u, rfl, rfl, h2, hp, hu0, hc0, ha⟩ := get j hjm
    simp only [Addr.add_lit, Int.toNat_natCast, Nat.mul_one]
    refine ⟨v, Sat.ld h (List.mem_append_right _ (.head _)) hc0, ?_⟩
    refine toPlain_yes h2 hp fun bb ccs ee hM => ⟨_, rfl, nilP_some ?_⟩
    subst hM
    refine ⟨_, Sat.ld h (List.mem_append_right _ (.tail _ (List.mem_append_left _ (List.mem_append_right _ (.head _))))) rfl, ?_⟩
    have hn := hS.1
    rw [sv_length, List.length_take] at hn
    refine Sat.app1 rowStr hS h (v := .string (bs u)) rfl (by simp [Value.cells, Value.oneCell']) (fillS u) (by omega) (by omega) (by decide) fun q' c'' w' M' hS' h => ?_
    rw [i64_inc (by omega)]
    refine ih (j + 1) q' (n + 1) c'' M' w' (by omega) ?_ h
    have e : sv (us.take (j + 1)) = sv (us.take j) ++ [.string (bs u)] := by
     rw [List.take_succ_eq_append_getElem hju]
     have : us[j] = u := by rw [List.getElem?_eq_getElem hju] at hu0; exact Option.some.inj hu0
     simp [sv, this]
    rw [e]; exact hS'
  exact key m 0 none 0 0 [] w (by omega) (Sl.nil 1 ty_string) h
end Go.Proofs.YtgbgadkldalkbaaGreatDoor


set_option linter.unusedVariables false
namespace Go.Proofs.YtgbgadkldalkbaaGreatDoor
open Go.Proofs Go.IntWalk Go.RowKit
variable {σ : Out} {w : World} {L L' : List Chunk} {R : Ending → World → Prop}
def flushP (p : List (List UInt8)) : List Inl := if p = [] then [] else [.plain p.flatten]
def mergeGo : List (List UInt8) → List Inl → List Inl
 | p, [] => flushP p
 | p, t :: ts => match t.plain? with
  | some s => mergeGo (p ++ [s]) ts
  | none => flushP p ++ t :: mergeGo [] ts
def mergeM (ts : List Inl) : List Inl := mergeGo [] ts
def plen : List Inl → Nat
 | [] => 0
 | t :: ts => (match t.plain? with | some s => s.length | none => 0) + plen ts
theorem set_mid {α : Type} {A B C : List α} {v : α} (hB : B ≠ []) : (A ++ (B ++ C)).set A.length v = (A ++ [v]) ++ (B.drop 1 ++ C) := by
 cases B with
 | nil => exact absurd rfl hB
 | cons x B => simp [List.set_append_right]
theorem fillP (v : Value) (hv : ∃ t b, v = ptrV t b) : Instr.fill (fun i => some (i * 1, 1)) ((Array.range (1 * 1)).map (rowInl.z.cells[· % rowInl.z.cells.size]!)) [(0, v)] = some v.cells := by
 obtain ⟨t, b, rfl⟩ := hv
 exact fillI t _
theorem und_PP : P.underlying ty_P_Plain = some (.pointer ty_Plain) := und_plain

theorem mergePlain_ok {pq q : Option Addr} {n c : Nat} {vs : List Value} {ts : List Inl} {RM EM : List Chunk} (hS : Sl 1 ty_Inline q n c vs RM) (hI : InlsAt ts vs EM) (hpos : ∀ t ∈ ts, ∀ s, t.plain? = some s → s ≠ []) (hb : plen ts < 1073741824) (hn : n < 1073741823)
 (h : Sat σ w (RM ++ (EM ++ L)))
 (hR : ∀ w n' vs' RM' EM', Sl 1 ty_Inline q n' c vs' RM' → n' ≤ n → InlsAt (mergeM ts) vs' EM' → Sat σ w (RM' ++ (EM' ++ L)) → R (.returned (.slice q n' c)) w) : callE P i_parseState_mergePlain #[.pointer pq, .slice q n c] R w := by
 have hl := hS.1
 have hnc := hS.2.1
 have htl := hI.length
 refine g_parseState_mergePlain.sound ?_
 refine ⟨_, _, _, _, sliceT rowInl.ht rowInl.hi q n c 0 (by omega) w, ?_⟩
 intro X hX
 obtain ⟨_, _, ⟨rfl, rfl, rfl, rfl⟩ | ⟨rb, sp, rfl, rfl, hsp⟩⟩ := hS
 ·have hts : ts = [] := List.eq_nil_of_length_eq_zero (by omega)
  subst hts
  refine hX _ _ _ _ _ _ _ _ _ (br_false rfl ?_)
  refine br_false rfl (br_true rfl ?_)
  exact hR w 0 [] [] [] (Sl.nil 1 ty_Inline) (by omega) ⟨rfl, rfl⟩ (h.sub (by rw [List.nil_append]; exact List.sublist_append_right _ _))
 have hlen0 : vs.length = n := by omega
 have key : ∀ (rts : List Inl) (pts : List Inl) (us : List (List UInt8)) (ots : List Inl) (ovs junk pvs rvs : List Value) (OM PM RM : List Chunk) w,
  InlsAt ots ovs OM → InlsAt pts pvs PM → InlsAt rts rvs RM → pts.map Inl.plain? = us.map some → (∀ u ∈ us, u ≠ []) → (∀ t ∈ rts, ∀ s, t.plain? = some s → s ≠ []) → us.flatten.length + plen rts < 1073741824 →
  ovs.length + junk.length + pvs.length + rvs.length = n → mergeM ts = ots ++ mergeGo us rts →
  Sat σ w ((rb, cel (ovs ++ (junk ++ (pvs ++ (rvs ++ sp)))) ty_Inline) :: (OM ++ (PM ++ (RM ++ L)))) →
  X (some ⟨rb, 0, none⟩) n c (some ⟨rb, 0, none⟩) ovs.length c ((ovs.length + junk.length : Nat) : Int) ((ovs.length + junk.length + pvs.length : Nat) : Int) w := by
  intro rts
  induction rts with
  | nil =>
   intro pts us ots ovs junk pvs rvs OM PM RM w hO hP hRt hu hune hrne hbb hlen hm h
   obtain ⟨rfl, rfl⟩ := hRt
   have hpl := hP.length
   have hul : us.length = pts.length := by have := congrArg List.length hu; simpa using this.symm
   simp only [List.length_nil, Nat.add_zero] at hlen
   refine hX _ _ _ _ _ _ _ _ _ (br_false (by simp; omega) ?_)
   by_cases hp0 : pvs = []
   ·subst hp0
    have hpts : pts = [] := by cases pts with
     | nil => rfl
     | cons _ _ => simp at hpl
    subst hpts
    have hus : us = [] := by cases us with
     | nil => rfl
     | cons _ _ => simp at hul
    subst hus
    obtain ⟨_, rfl⟩ := hP
    refine br_false (by simp) (br_true (by simp at hlen ⊢; omega) ?_)
    refine hR w ovs.length ovs [(rb, cel (ovs ++ (junk ++ sp)) ty_Inline)] OM ⟨by omega, by omega, .inr ⟨rb, junk ++ sp, rfl, rfl, ?_⟩⟩ (by omega) ?_ ?_
    ·simp only [List.length_append] at hsp ⊢; simp at hlen; omega
    ·rw [hm]; simpa [mergeGo, flushP] using hO
    ·simp only [List.nil_append] at h; exact h.re
   ·have hpos1 : 0 < pvs.length := List.length_pos_iff.2 hp0
    refine br_true (by simp; omega) ?_
    refine ⟨_, _, _, _, sliceLH rowInl.ht rowInl.hi _ n c _ _ (by omega) (by omega) w, ?_⟩
    rw [if_neg (by omega), rowInl.hs]
    simp only [Option.map_some, Addr.add_lit, Nat.zero_add, Nat.mul_one]
    have hune0 : us ≠ [] := by intro h0; subst h0; simp at hul; omega
    have hfl : 0 < us.flatten.length := by
     cases us with
     | nil => exact absurd rfl hune0
     | cons u us =>
      have := List.length_pos_iff.2 (hune u (.head _))
      simp only [List.flatten_cons, List.length_append]; omega
    have h : Sat σ w ((rb, cel (ovs ++ (junk ++ (pvs ++ ([] ++ sp)))) ty_Inline) :: (PM ++ (OM ++ L))) := h.re
    refine mergePlain1_ok (us := us) hP hu (by omega) (by omega) (by omega) ?_ hfl (by simp only [plen] at hbb; omega) h fun w nb EM' hN h => ⟨_, rfl, ?_⟩
    ·intro j hj
     rw [List.getElem?_append_right (by omega), List.getElem?_append_right (by omega), List.getElem?_append_left (by omega)]
     congr 1; omega
    have h : Sat σ w ((rb, cel (ovs ++ ((junk ++ pvs) ++ sp)) ty_Inline) :: (EM' ++ (OM ++ L))) := by
     have e : ovs ++ (junk ++ (pvs ++ ([] ++ sp))) = ovs ++ ((junk ++ pvs) ++ sp) := by simp
     rw [← e]; exact h
    refine appRoom' rowInl h (v := ptrV ty_P_Plain nb) (by simp; omega) (by omega) rfl rfl (fillI _ _) fun w h => ?_
    rw [set_mid (by simp [hp0])] at h
    refine br_true (by simp; omega) ?_
    refine hR w (ovs.length + 1) (ovs ++ [ptrV ty_P_Plain nb]) [(rb, cel ((ovs ++ [ptrV ty_P_Plain nb]) ++ ((junk ++ pvs).drop 1 ++ sp)) ty_Inline)] (OM ++ EM') ⟨by simp, by omega, .inr ⟨rb, _, rfl, rfl, ?_⟩⟩ (by omega) ?_ ?_
    ·simp only [List.length_append, List.length_drop, List.length_singleton] at hsp ⊢; omega
    ·rw [hm]
     simp only [mergeGo, flushP, if_neg hune0]
     exact hO.append (InlsAt.one hN)
    ·exact h.re
  | cons t rts ih =>
   intro pts us ots ovs junk pvs rvs OM PM RM w hO hP hRt hu hune hrne hbb hlen hm h
   have hpl := hP.length
   have hul : us.length = pts.length := by have := congrArg List.length hu; simpa using this.symm
   obtain ⟨v, rvs', M1, M2, rfl, rfl, hv, hrest⟩ := hRt
   simp only [List.length_cons] at hlen
   refine hX _ _ _ _ _ _ _ _ _ (br_true (by simp; omega) ⟨by omega, by omega, nilP_some ?_⟩)
   simp only [Addr.add_lit, Int.toNat_natCast, Nat.mul_one, Nat.zero_add]
   have hg : (ovs ++ (junk ++ (pvs ++ (v :: rvs' ++ sp))))[ovs.length + junk.length + pvs.length]? = some v := by
    rw [List.getElem?_append_right (by omega), List.getElem?_append_right (by omega), List.getElem?_append_right (by omega)]
    rw [show ovs.length + junk.length + pvs.length - ovs.length - junk.length - pvs.length = 0 by omega]
    rfl
   refine ⟨v, Sat.ld h (.head _) hg, ?_⟩
   cases hpt : t.plain? with
   | some u =>
    refine toPlain_yes hv hpt fun bb ccs ee hM => ⟨_, rfl, ?_⟩
    refine ⟨_, _, neq_ptr_nil und_PP _ w, br_true rfl ?_⟩
    rw [i64_inc (by omega)]
    have := ih (pts ++ [t]) (us ++ [u]) ots ovs junk (pvs ++ [v]) rvs' OM (PM ++ M1) M2 w hO (hP.append (InlsAt.one hv)) hrest (by simp [hu, hpt])
     (by intro x hx; rcases List.mem_append.1 hx with hx | hx
         ·exact hune x hx
         ·simp at hx; subst hx; exact hrne t (.head _) _ hpt)
     (fun t' ht' => hrne t' (.tail _ ht')) (by simp only [plen, hpt] at hbb; simp only [List.flatten_append, List.flatten_cons, List.flatten_nil, List.length_append, List.append_nil]; omega) (by simp; omega) (by rw [hm, mergeGo, hpt]) ?_
    ·simp only [List.length_append, List.length_singleton, ← Nat.add_assoc] at this
     exact this
    ·have e : ovs ++ (junk ++ (pvs ++ [v] ++ (rvs' ++ sp))) = ovs ++ (junk ++ (pvs ++ (v :: rvs' ++ sp))) := by simp
     rw [e]; exact h.re
   | none =>
    refine toPlain_no hv hpt ⟨_, rfl, ?_⟩
    refine ⟨_, _, neq_ptr_nil und_PP _ w, br_false rfl ?_⟩
    have hvp : ∃ t b, v = ptrV t b := by obtain ⟨b, _, _, _, h, _⟩ := hv.ptr; exact ⟨_, b, h⟩
    have hv1 : v.cells = #[v] ∧ v.oneCell' = true := by obtain ⟨t, b, rfl⟩ := hvp; exact ⟨rfl, rfl⟩
    have fin : ∀ (ots' : List Inl) (ovs' junk' : List Value) (OM' : List Chunk) w, InlsAt ots' ovs' OM' → mergeM ts = ots' ++ t :: mergeGo [] rts → ovs'.length + junk'.length = ovs.length + junk.length + pvs.length →
     Sat σ w ((rb, cel (ovs' ++ (junk' ++ (v :: rvs' ++ sp))) ty_Inline) :: (OM' ++ (M1 ++ (M2 ++ L)))) →
     g_parseState_mergePlain.k2 R X (some ⟨rb, 0, none⟩) n c (some ⟨rb, 0, none⟩) ovs'.length c ((ovs.length + junk.length + pvs.length : Nat) : Int) w := by
     intro ots' ovs' junk' OM' w hO' hm' hl' h
     refine br_false (by simp; omega) ⟨by omega, by omega, nilP_some ?_⟩
     simp only [Addr.add_lit, Int.toNat_natCast, Nat.mul_one, Nat.zero_add]
     have hg : (ovs' ++ (junk' ++ (v :: rvs' ++ sp)))[ovs.length + junk.length + pvs.length]? = some v := by
      rw [List.getElem?_append_right (by omega), List.getElem?_append_right (by omega)]
      rw [show ovs.length + junk.length + pvs.length - ovs'.length - junk'.length = 0 by omega]
      rfl
     refine ⟨v, Sat.ld h (.head _) hg, ?_⟩
     have e : ovs' ++ (junk' ++ (v :: rvs' ++ sp)) = ovs' ++ ((junk' ++ [v]) ++ (rvs' ++ sp)) := by simp
     rw [e] at h
     refine appRoom' rowInl h (v := v) (by simp; omega) (by omega) hv1.1 hv1.2 (fillP v hvp) fun w h => ?_
     rw [set_mid (by simp)] at h
     have e1 : IntKind.i64.wrap (((ovs.length + junk.length + pvs.length : Nat) : Int) + 1) = ((ovs.length + junk.length + pvs.length + 1 : Nat) : Int) := i64_inc (by omega)
     rw [e1]
     have := ih [] [] (ots' ++ [t]) (ovs' ++ [v]) ((junk' ++ [v]).drop 1) [] rvs' (OM' ++ M1) [] M2 w (hO'.append (InlsAt.one hv)) ⟨rfl, rfl⟩ hrest rfl (by simp) (fun t' ht' => hrne t' (.tail _ ht')) (by simp only [plen, hpt] at hbb; simp; omega)
      (by simp; omega) (by rw [hm']; simp) ?_
     ·simp only [List.length_append, List.length_singleton, List.length_drop, List.length_nil, Nat.add_zero] at this
      have e2 : ovs'.length + 1 + (junk'.length + 1 - 1) = ovs.length + junk.length + pvs.length + 1 := by omega
      rw [e2] at this
      exact this
     ·rw [List.nil_append]
      exact h.re
    by_cases hp0 : pvs = []
    ·subst hp0
     have hpts : pts = [] := by cases pts with
      | nil => rfl
      | cons _ _ => simp at hpl
     subst hpts
     have hus : us = [] := by cases us with
      | nil => rfl
      | cons _ _ => simp at hul
     subst hus
     obtain ⟨_, rfl⟩ := hP
     refine br_false (by simp) ?_
     refine fin ots ovs junk OM w hO (by rw [hm, mergeGo, hpt]; rfl) (by simp) ?_
     simp only [List.nil_append] at h
     exact h.re
    ·have hpos1 : 0 < pvs.length := List.length_pos_iff.2 hp0
     refine br_true (by simp; omega) ?_
     refine ⟨_, _, _, _, sliceLH rowInl.ht rowInl.hi _ n c _ _ (by omega) (by omega) w, ?_⟩
     rw [if_neg (by omega), rowInl.hs]
     simp only [Option.map_some, Addr.add_lit, Nat.zero_add, Nat.mul_one]
     have hune0 : us ≠ [] := by intro h0; subst h0; simp at hul; omega
     have hfl : 0 < us.flatten.length := by
      cases us with
      | nil => exact absurd rfl hune0
      | cons u us =>
       have := List.length_pos_iff.2 (hune u (.head _))
       simp only [List.flatten_cons, List.length_append]; omega
     have h : Sat σ w ((rb, cel (ovs ++ (junk ++ (pvs ++ (v :: rvs' ++ sp)))) ty_Inline) :: (PM ++ (OM ++ (M1 ++ (M2 ++ L))))) := h.re
     refine mergePlain1_ok (us := us) hP hu (by omega) (by omega) (by omega) ?_ hfl (by simp only [plen] at hbb; omega) h fun w nb EM' hN h => ⟨_, rfl, ?_⟩
     ·intro j hj
      rw [List.getElem?_append_right (by omega), List.getElem?_append_right (by omega), List.getElem?_append_left (by omega)]
      congr 1; omega
     have h : Sat σ w ((rb, cel (ovs ++ ((junk ++ pvs) ++ (v :: rvs' ++ sp))) ty_Inline) :: (EM' ++ (OM ++ (M1 ++ (M2 ++ L))))) := by
      have e : ovs ++ (junk ++ (pvs ++ (v :: rvs' ++ sp))) = ovs ++ ((junk ++ pvs) ++ (v :: rvs' ++ sp)) := by simp
      rw [← e]; exact h
     refine appRoom' rowInl h (v := ptrV ty_P_Plain nb) (by simp; omega) (by omega) rfl rfl (fillI _ _) fun w h => ?_
     rw [set_mid (by simp [hp0])] at h
     have := fin (ots ++ [.plain us.flatten]) (ovs ++ [ptrV ty_P_Plain nb]) ((junk ++ pvs).drop 1) (OM ++ EM') w (hO.append (InlsAt.one hN)) (by rw [hm, mergeGo, hpt]; simp [flushP, hune0]) (by simp; omega) (h.re)
     simp only [List.length_append, List.length_singleton] at this
     exact this
 have := key ts [] [] [] [] [] [] vs [] [] EM w ⟨rfl, rfl⟩ ⟨rfl, rfl⟩ hI rfl (by simp) hpos (by simpa using hb) (by simpa using hlen0) rfl (by simp only [List.nil_append]; exact h.re)
 exact this
end Go.Proofs.YtgbgadkldalkbaaGreatDoor


set_option linter.unusedVariables false
namespace Go.Proofs.YtgbgadkldalkbaaGreatDoor
open Go.Proofs Go.IntWalk Go.RowKit
variable {σ : Out} {w : World} {L L' : List Chunk} {R : Ending → World → Prop}
inductive PK where
 | nil
 | fn (f : FuncId)
 | code
def parserOf (o : Opt) (c : UInt8) : PK :=
 if c = 92 then .fn i_parseEscape else if c = 96 then .code else if c = 60 then .fn i_parseAutoLinkOrHTML else if c = 91 then .fn i_parseLinkOpen else if c = 33 then .fn i_parseImageOpen
 else if c = 95 ∨ c = 42 then .fn i_parseEmph else if c = 46 then (if o.dot then .fn i_parseDot else .nil) else if c = 45 then (if o.dash then .fn i_parseDash else .nil)
 else if c = 34 ∨ c = 39 then (if o.quote then .fn i_parseEmph else .nil) else if c = 126 then (if o.strike then .fn i_parseEmph else .nil) else if c = 10 then .fn i_parseBreak
 else if c = 38 then .fn i_parseHTMLEntity else if c = 58 then (if o.emoji then .fn i_parseEmoji else .nil) else .nil
abbrev XI := Option Addr → ByteArray → Option Addr → Nat → Nat → Int → Bool → Int → World → Prop
theorem inl_dispatch {X : XI} {b pb : Nat} {p : PS} {o : Opt} {s : List UInt8} {oq : Option Addr} {on oc : Nat} {lo : Int} {bk : Bool} {i : Nat} (hi : i < s.length) (hs : s.length < 4611686018427387904) (hpz : p.pz = some ⟨pb, 0, none⟩) (hp : p.at b ∈ L) (ho : o.at pb ∈ L) (h : Sat σ w L)
 (hK : match parserOf o s[i] with
  | .nil => g_parseState_inline.k1 R X (some ⟨b, 0, none⟩) (bs s) oq on oc lo bk i .nilFunc w
  | .fn f => g_parseState_inline.k1 R X (some ⟨b, 0, none⟩) (bs s) oq on oc lo bk i (.func (.func f) #[] #[]) w
  | .code => br (!bk) (callE P i_backtickParser_reset #[.pointer (some ⟨b, 12, none⟩)] (fun e w11 => e = .returned (.tuple #[]) ∧ g_parseState_inline.k1 R X (some ⟨b, 0, none⟩) (bs s) oq on oc lo true i (.func (.func i_backtickParser_parseCodeSpan) #[.pointer (some ⟨b, 12, none⟩)] #[]) w11) w)
   (g_parseState_inline.k1 R X (some ⟨b, 0, none⟩) (bs s) oq on oc lo bk i (.func (.func i_backtickParser_parseCodeSpan) #[.pointer (some ⟨b, 12, none⟩)] #[]) w)) :
 g_parseState_inline.bl1 R X (some ⟨b, 0, none⟩) (bs s) oq on oc lo bk i w := by
 have hld0 : w.cell? ⟨b, 0, none⟩ = some (.pointer (some ⟨pb, 0, none⟩)) := by rw [← hpz]; exact Sat.ld h hp rfl
 refine br_true (by simp; omega) ⟨by omega, by simp; omega, ?_⟩
 unfold parserOf at hK
 have hne : ∀ (d : UInt8) (m : Int), (d.toNat : Int) = m → ¬ s[i] = d → (bt (bs s) (i : Int) == m) = false := by
  intro d m hm hd; rw [bt_beq hi d m hm]; simpa using hd
 have hye : ∀ (d : UInt8) (m : Int), (d.toNat : Int) = m → s[i] = d → (bt (bs s) (i : Int) == m) = true := by
  intro d m hm hd; rw [bt_beq hi d m hm]; simpa using hd
 by_cases h92 : s[i] = 92
 ·rw [if_pos h92] at hK; exact br_true (hye 92 92 rfl h92) hK
 rw [if_neg h92] at hK; refine br_false (hne 92 92 rfl h92) ?_
 by_cases h96 : s[i] = 96
 ·rw [if_pos h96] at hK
  refine br_true (hye 96 96 rfl h96) ?_
  cases bk with
  | true => exact br_false rfl (nilP_some hK)
  | false => exact br_true rfl (nilP_some (by
   have hK : callE P i_backtickParser_reset #[.pointer (some ⟨b, 12, none⟩)] _ w := hK
   exact hK))
 rw [if_neg h96] at hK; refine br_false (hne 96 96 rfl h96) ?_
 by_cases h60 : s[i] = 60
 ·rw [if_pos h60] at hK; exact br_true (hye 60 60 rfl h60) hK
 rw [if_neg h60] at hK; refine br_false (hne 60 60 rfl h60) ?_
 by_cases h91 : s[i] = 91
 ·rw [if_pos h91] at hK; exact br_true (hye 91 91 rfl h91) hK
 rw [if_neg h91] at hK; refine br_false (hne 91 91 rfl h91) ?_
 by_cases h33 : s[i] = 33
 ·rw [if_pos h33] at hK; exact br_true (hye 33 33 rfl h33) hK
 rw [if_neg h33] at hK; refine br_false (hne 33 33 rfl h33) ?_
 by_cases h95 : s[i] = 95
 ·rw [if_pos (.inl h95)] at hK; exact br_true (hye 95 95 rfl h95) (br_true rfl hK)
 refine br_false (hne 95 95 rfl h95) ?_
 by_cases h42 : s[i] = 42
 ·rw [if_pos (.inr h42)] at hK; exact br_true (hye 42 42 rfl h42) hK
 rw [if_neg (by simp [h95, h42])] at hK; refine br_false (hne 42 42 rfl h42) ?_
 have opt : ∀ {A B : Prop} (k : Nat) (v : Bool), o.cells[k]? = some (.bool v) → (v = true → A) → (v = false → B) →
  nilP (some (⟨b, 0, none⟩ : Addr)) fun a53 => ∃ (v54 : Option Addr), w.cell? a53 = some (.pointer v54) ∧ nilP v54 fun a55 => ∃ (v56 : Bool), w.cell? (a55.add k) = some (.bool v56) ∧ br v56 A B := by
  intro A B k v hv hA hB
  refine nilP_some ⟨_, hld0, nilP_some ?_⟩
  simp only [Addr.add_lit, Nat.zero_add]
  exact ⟨v, Sat.ld h ho hv, br_split hA hB⟩
 by_cases h46 : s[i] = 46
 ·rw [if_pos h46] at hK
  refine br_true (hye 46 46 rfl h46) (opt 7 o.dot rfl (fun hv => ?_) (fun hv => ?_))
  ·rw [if_pos hv] at hK; exact hK
  ·rw [if_neg (by simp [hv])] at hK; exact hK
 rw [if_neg h46] at hK; refine br_false (hne 46 46 rfl h46) ?_
 by_cases h45 : s[i] = 45
 ·rw [if_pos h45] at hK
  refine br_true (hye 45 45 rfl h45) (opt 8 o.dash rfl (fun hv => ?_) (fun hv => ?_))
  ·rw [if_pos hv] at hK; exact hK
  ·rw [if_neg (by simp [hv])] at hK; exact hK
 rw [if_neg h45] at hK; refine br_false (hne 45 45 rfl h45) ?_
 by_cases h34 : s[i] = 34
 ·rw [if_pos (.inl h34)] at hK
  refine br_true (hye 34 34 rfl h34) (br_true rfl (opt 9 o.quote rfl (fun hv => ?_) (fun hv => ?_)))
  ·rw [if_pos hv] at hK; exact hK
  ·rw [if_neg (by simp [hv])] at hK; exact hK
 refine br_false (hne 34 34 rfl h34) ?_
 by_cases h39 : s[i] = 39
 ·rw [if_pos (.inr h39)] at hK
  refine br_true (hye 39 39 rfl h39) (opt 9 o.quote rfl (fun hv => ?_) (fun hv => ?_))
  ·rw [if_pos hv] at hK; exact hK
  ·rw [if_neg (by simp [hv])] at hK; exact hK
 rw [if_neg (by simp [h34, h39])] at hK; refine br_false (hne 39 39 rfl h39) ?_
 by_cases h126 : s[i] = 126
 ·rw [if_pos h126] at hK
  refine br_true (hye 126 126 rfl h126) (opt 1 o.strike rfl (fun hv => ?_) (fun hv => ?_))
  ·rw [if_pos hv] at hK; exact hK
  ·rw [if_neg (by simp [hv])] at hK; exact hK
 rw [if_neg h126] at hK; refine br_false (hne 126 126 rfl h126) ?_
 by_cases h10 : s[i] = 10
 ·rw [if_pos h10] at hK; exact br_true (hye 10 10 rfl h10) hK
 rw [if_neg h10] at hK; refine br_false (hne 10 10 rfl h10) ?_
 by_cases h38 : s[i] = 38
 ·rw [if_pos h38] at hK; exact br_true (hye 38 38 rfl h38) hK
 rw [if_neg h38] at hK; refine br_false (hne 38 38 rfl h38) ?_
 by_cases h58 : s[i] = 58
 ·rw [if_pos h58] at hK
  refine br_true (hye 58 58 rfl h58) (opt 6 o.emoji rfl (fun hv => ?_) (fun hv => ?_))
  ·rw [if_pos hv] at hK; exact hK
  ·rw [if_neg (by simp [hv])] at hK; exact hK
 rw [if_neg h58] at hK; exact br_false (hne 58 58 rfl h58) hK
end Go.Proofs.YtgbgadkldalkbaaGreatDoor


set_option linter.unusedVariables false
namespace Go.Proofs.YtgbgadkldalkbaaGreatDoor
open Go.Proofs Go.IntWalk Go.RowKit
variable {σ : Out} {w : World} {L L' : List Chunk} {R : Ending → World → Prop}
def PS.core (p : PS) : PS := { p with em := 0, lq := none, ln := 0, lc := 0, corner := false, bt := [] }
def PS.core2 (p : PS) : PS := { p with corner := false, bt := [] }
theorem PS.core_of2 {p p' : PS} (h : p'.core2 = p.core2) : p'.core = p.core := by
 have := congrArg PS.core h
 simpa [PS.core, PS.core2] using this
def IIn (σ : Out) (b : Nat) (p : PS) (ts : List Inl) (opens : List Nat) (oq : Option Addr) (on oc : Nat) (L : List Chunk) (w : World) : Prop :=
 ∃ vs RM EM OM, Sl 1 ty_Inline p.lq p.ln p.lc vs RM ∧ InlsAt ts vs EM ∧ Sl 1 ty_int oq on oc (opens.map fun (n : Nat) => Value.int .i64 n) OM ∧ ts.length < 1073741824 ∧ Sat σ w (p.at b :: (RM ++ (EM ++ (OM ++ L))))
def sub (s : List UInt8) (i j : Nat) : List UInt8 := (s.take j).drop i
def emitM (s : List UInt8) (em i : Nat) (ts : List Inl) : List Inl := if em < i then ts ++ [.plain (sub s em i)] else ts
theorem emitI_ok {b e i : Nat} {p : PS} {ts : List Inl} {opens : List Nat} {oq : Option Addr} {on oc : Nat} (h : IIn σ b p ts opens oq on oc L w) (he : p.em = e) (hl : i ≤ p.s.length) (hn : ts.length < 1073741823)
 (hR : ∀ w p', p'.core = p.core → p'.bt = p.bt → p'.em = ((max e i : Nat) : Int) → IIn σ b p' (emitM p.s e i ts) opens oq on oc L w → R (.returned (.tuple #[])) w) :
 callE P i_parseState_emit #[.pointer (some ⟨b, 0, none⟩), .int .i64 i] R w := by
 obtain ⟨vs, RM, EM, OM, hS, hI, hO, hlen, h⟩ := h
 have hvl := hI.length
 by_cases hi : e < i
 ·have h : Sat σ w (p.at b :: RM ++ (EM ++ (OM ++ L))) := h
  refine emit_ok (L := EM ++ (OM ++ L)) h ⟨hS, by omega⟩ he hi hl (by omega) fun w p' M' nb hp' hS' h => ?_
  refine hR w p' (by rw [hp']; rfl) (by rw [hp']) (by rw [hp']; show ((i : Nat) : Int) = _; congr 1; omega) ⟨_, M', EM ++ [plainC nb (sub p.s e i)], OM, hS'.1, ?_, hO, ?_, ?_⟩
  ·unfold emitM; rw [if_pos hi]
   exact hI.append (InlsAt.one ⟨nb, [], _, rfl, rfl⟩)
  ·unfold emitM; rw [if_pos hi]; simp; omega
  ·have h : Sat σ w (p'.at b :: M' ++ (plainC nb (sub p.s e i) :: (EM ++ (OM ++ L)))) := h
   exact h.re
 ·refine emit_no h (by rw [he]; omega) fun w h => ?_
  refine hR w p rfl rfl (by rw [he]; congr 1; omega) ⟨vs, RM, EM, OM, hS, ?_, hO, ?_, h⟩
  ·unfold emitM; rw [if_neg hi]; exact hI
  ·unfold emitM; rw [if_neg hi]; exact hlen

def LeafOK (b : Nat) (p : PS) (s : List UInt8) (i : Nat) (fv : Value) (L0 : List Chunk) (res : Option (Inl × Nat × Nat)) (Q : PS → Prop) : Prop :=
 ∀ (σ : Out) (R : Ending → World → Prop) (L : List Chunk) (w : World), (∀ c ∈ L0, c ∈ L) → Sat σ w (p.at b :: L) →
  (match res with
   | none => ∀ w p' v x y, p'.core2 = p.core2 → Q p' → Sat σ w (p'.at b :: L) → R (.returned (.tuple #[v, .int .i64 x, .int .i64 y, .bool false])) w
   | some (t, st, en) => ∀ w p' v TM, p'.core2 = p.core2 → Q p' → InlAt t v TM → Sat σ w (p'.at b :: (TM ++ L)) → R (.returned (.tuple #[v, .int .i64 st, .int .i64 en, .bool true])) w) →
  enterE P (do let d ← Deferred.ofValue fv #[.pointer (some ⟨b, 0, none⟩), .string (bs s), .int .i64 i]; invoke d.target d.args) R w
def isFuncB (P : Program) (t : TypeId) : Bool := match P.underlying t with | some (.func _ _ _) => true | _ => false
theorem isFunc_out {P : Program} {t : TypeId} (h : isFuncB P t = true) : ∃ ps rs vr, P.underlying t = some (.func ps rs vr) := by
 unfold isFuncB at h
 split at h
 ·rename_i a b c hd; exact ⟨_, _, _, hd⟩
 ·cases h
theorem und_pf : isFuncB P ty_func_P_parseState_string_int_I_18a27a = true := by kernel_rfl
theorem neq_pf {x y : Operand} (k : FuncId) (f g : Array Value) (w : World) :
 (do eqGuard .neq ty_func_P_parseState_string_int_I_18a27a x y (.func (.func k) f g) .nilFunc; binOp .neq ty_func_P_parseState_string_int_I_18a27a (.func (.func k) f g) .nilFunc).run P w = .ok (.bool true) w := by
 obtain ⟨_, _, _, h⟩ := isFunc_out und_pf
 exact neq_func_nil h k f g w
theorem neq_pn {x y : Operand} (w : World) :
 (do eqGuard .neq ty_func_P_parseState_string_int_I_18a27a x y .nilFunc .nilFunc; binOp .neq ty_func_P_parseState_string_int_I_18a27a .nilFunc .nilFunc).run P w = .ok (.bool false) w := by
 obtain ⟨_, _, _, h⟩ := isFunc_out und_pf
 exact neq_nil_nil h w
def Inl.isOpen : Inl → Bool
 | .openP _ _ => true
 | _ => false
theorem Inl.ty_open {t : Inl} (h : t.isOpen = false) : t.ty ≠ ty_P_openPlain := by
 cases t <;> simp only [Inl.isOpen, reduceCtorEq] at h <;> (simp only [Inl.ty]; decide)
noncomputable def rowInt : Row P ty_S_int ty_int 1 8 :=
 ⟨(P.info? ty_int).getD default, ((P.info? ty_int).bind (·.zero)).getD default, by kernel_rfl, by kernel_rfl, by kernel_rfl, by kernel_rfl, by kernel_rfl, by kernel_rfl, by decide⟩
theorem fillN (n : Nat) : Instr.fill (fun i => some (i * 1, 1)) ((Array.range (1 * 1)).map (rowInt.z.cells[· % rowInt.z.cells.size]!)) [(0, .int .i64 n)] = some #[.int .i64 n] := by kernel_rfl
theorem inl_leaf {X : XI} {b i e st en : Nat} {p : PS} {ts : List Inl} {opens : List Nat} {oq : Option Addr} {on oc : Nat} {lo : Int} {bk : Bool} {f : FuncId} {fr cp : Array Value} {t : Inl} {L0 : List Chunk} {Q : PS → Prop}
 (h : IIn σ b p ts opens oq on oc L w) (hL0 : ∀ c ∈ L0, c ∈ L) (hf : LeafOK b p p.s i (.func (.func f) fr cp) L0 (some (t, st, en)) Q) (he : p.em = e) (hst : st ≤ p.s.length) (hs : p.s.length < 1000000000) (hn : ts.length < 1000000000) (hon : opens.length < 1000000000)
 (hK : ∀ w p' oq on oc, p'.core = p.core → p'.em = (en : Int) → (∃ p'', Q p'' ∧ p'.bt = p''.bt) → IIn σ b p' (emitM p.s e st ts ++ [t]) (if t.isOpen then opens ++ [(emitM p.s e st ts).length] else opens) oq on oc L w → X (some ⟨b, 0, none⟩) (bs p.s) oq on oc lo bk en w) :
 g_parseState_inline.k1 R X (some ⟨b, 0, none⟩) (bs p.s) oq on oc lo bk i (.func (.func f) fr cp) w := by
 refine ⟨_, _, neq_pf f fr cp w, br_true rfl ?_⟩
 obtain ⟨vs, RM, EM, OM, hS, hI, hO, hlen, h⟩ := h
 have hcl : ∀ c ∈ L0, c ∈ RM ++ (EM ++ (OM ++ L)) := fun c hc => List.mem_append_right _ (List.mem_append_right _ (List.mem_append_right _ (hL0 c hc)))
 refine hf σ _ (RM ++ (EM ++ (OM ++ L))) w hcl h fun w p1 v TM hp1 hq1 ht h => ⟨_, _, _, _, rfl, br_true rfl ?_⟩
 have hc1 := PS.core_of2 hp1
 have e1 : p1.lq = p.lq := by have := congrArg PS.lq hp1; exact this
 have e2 : p1.ln = p.ln := by have := congrArg PS.ln hp1; exact this
 have e3 : p1.lc = p.lc := by have := congrArg PS.lc hp1; exact this
 have e4 : p1.s = p.s := by have := congrArg PS.s hp1; exact this
 have e5 : p1.em = e := by have := congrArg PS.em hp1; rw [← he]; exact this
 have hI1 : IIn σ b p1 ts opens oq on oc (TM ++ L) w := ⟨vs, RM, EM, OM, by rw [e1, e2, e3]; exact hS, hI, hO, hlen, h.re⟩
 refine emitI_ok hI1 e5 (by rw [e4]; exact hst) (by omega) fun w p2 hp2 hbt he2 h2 => ⟨rfl, ?_⟩
 rw [e4] at h2
 obtain ⟨pb, cs, ee, TM', rfl, rfl⟩ := ht.ptr
 have hc2 : p2.core = p.core := hp2.trans hc1
 have hs2 : p2.s = p.s := by have := congrArg PS.s hc2; exact this
 have elen : (emitM p.s e st ts).length ≤ ts.length + 1 := by unfold emitM; split <;> simp
 have fin : ∀ w oq on oc opens', opens' = (if t.isOpen then opens ++ [(emitM p.s e st ts).length] else opens) → IIn σ b p2 (emitM p.s e st ts) opens' oq on oc (((pb, cel cs ee) :: TM') ++ L) w →
  g_parseState_inline.k4 R X (some ⟨b, 0, none⟩) (bs p.s) oq on oc lo bk (ptrV t.ty pb) en w := by
  intro w oq on oc opens' ho h
  obtain ⟨vs, RM, EM, OM, hS, hI, hO, hlen, h⟩ := h
  have hvl := hI.length
  have hn0 := hS.1
  refine nilP_some ?_
  refine ⟨_, _, _, h.ldA, ?_⟩
  have h : Sat σ w (RM ++ (p2.at b :: (EM ++ (OM ++ (((pb, cel cs ee) :: TM') ++ L))))) := h.re
  refine Sat.app1 rowInl hS h (v := ptrV t.ty pb) rfl (by simp [ptrV, Value.cells, Value.oneCell']) (fillI _ _) (by omega) (by omega) (by decide) fun q' c' w' M' hS' h => ?_
  have h : Sat σ w' (p2.at b :: (M' ++ (EM ++ (OM ++ (((pb, cel cs ee) :: TM') ++ L))))) := h.re
  refine nilP_some ?_
  refine h.stA 0 fun w h => ?_
  let p3 : PS := { p2 with lq := q', ln := p2.ln + 1, lc := c' }
  have h : Sat σ w (p3.at b :: (M' ++ (EM ++ (OM ++ (((pb, cel cs ee) :: TM') ++ L))))) := h
  refine skipTo_ok h fun w h => ⟨rfl, ?_⟩
  refine hK w { p3 with em := en } oq on oc (by rw [← hc2]; rfl) rfl ⟨p1, hq1, hbt⟩ ⟨_, M', EM ++ ((pb, cel cs ee) :: TM'), OM, hS', ?_, by rw [← ho]; exact hO, by simp; omega, h.re⟩
  exact hI.append (InlsAt.one ht)
 cases hto : t.isOpen with
 | false =>
  refine ⟨_, _, w, ta_open_no (Inl.ty_open hto) w, br_false rfl ?_⟩
  exact fin w oq on oc opens (by rw [hto]; rfl) h2
 | true =>
  have hty : t.ty = ty_P_openPlain := by cases t <;> simp only [Inl.isOpen, reduceCtorEq] at hto; rfl
  have hta : (Instr.typeAssert (ptrV t.ty pb) ty_Inline ty_P_openPlain true).run P w = .ok (.tuple #[.pointer (some ⟨pb, 0, none⟩), .bool true]) w := by
   rw [hty]; exact ta_open_yes w
  refine ⟨_, _, w, hta, br_true rfl ?_⟩
  obtain ⟨vs, RM, EM, OM, hS, hI, hO, hlen, h⟩ := h2
  have hvl := hI.length
  have hn0 := hS.1
  have hol := hO.1
  rw [List.length_map] at hol
  refine nilP_some ?_
  refine ⟨_, _, _, h.ldA, ?_⟩
  have h : Sat σ w (OM ++ (p2.at b :: (RM ++ (EM ++ (((pb, cel cs ee) :: TM') ++ L))))) := h.re
  have hln : p2.ln = (emitM p.s e st ts).length := by omega
  rw [hln]
  generalize hm : (emitM p.s e st ts).length = m at fin elen hln ⊢
  refine Sat.app1 rowInt hO h (v := .int .i64 (m : Nat)) rfl (by simp [Value.cells, Value.oneCell']) (fillN m) (by omega) (by omega) (by decide) fun q' c' w' M' hO' h => ?_
  refine fin w' q' _ c' _ (by rw [hto] <;> rfl) ⟨vs, RM, EM, M', hS, hI, ?_, hlen, h.re⟩
  rw [if_pos rfl, List.map_append]; exact hO'
theorem inl_k5 {X : XI} {b i : Nat} {s : List UInt8} {oq : Option Addr} {on oc : Nat} {lo : Int} {bk : Bool} (hi : i < s.length) (hs : s.length < 4611686018427387904) (hc : s[i] ≠ 93 ∨ on = 0)
 (hK : X (some ⟨b, 0, none⟩) (bs s) oq on oc lo bk ((i + 1 : Nat) : Int) w) : g_parseState_inline.k5 R X (some ⟨b, 0, none⟩) (bs s) oq on oc lo bk i w := by
 refine ⟨by omega, by simp; omega, ?_⟩
 refine br_false ?_ ?_
 ·rw [bt_beq hi 93 93 rfl]
  rcases hc with hc | hc
  ·simp [hc]
  ·simp [hc]
 ·rw [i64_inc (by omega)]; exact hK
theorem inl_none {X : XI} {b i : Nat} {s : List UInt8} {oq : Option Addr} {on oc : Nat} {lo : Int} {bk : Bool} (hK : g_parseState_inline.k5 R X (some ⟨b, 0, none⟩) (bs s) oq on oc lo bk i w) :
 g_parseState_inline.k1 R X (some ⟨b, 0, none⟩) (bs s) oq on oc lo bk i .nilFunc w :=
 ⟨_, _, neq_pn w, br_false rfl hK⟩
end Go.Proofs.YtgbgadkldalkbaaGreatDoor


set_option linter.unusedVariables false
namespace Go.Proofs.YtgbgadkldalkbaaGreatDoor
open Go.Proofs Go.IntWalk Go.RowKit
variable {σ : Out} {w : World} {L L' : List Chunk} {R : Ending → World → Prop}
def EmphOK (ts ts' : List Inl) : Prop :=
 ∀ (σ : Out) (R : Ending → World → Prop) (pq q : Option Addr) (n c : Nat) vs RM EM L w, Sl 1 ty_Inline q n c vs RM → InlsAt ts vs EM → n < 1073741823 → Sat σ w (RM ++ (EM ++ L)) →
  (∀ w q' n' c' vs' RM' EM', Sl 1 ty_Inline q' n' c' vs' RM' → n' ≤ n → InlsAt ts' vs' EM' → Sat σ w (RM' ++ (EM' ++ L)) → R (.returned (.slice q' n' c')) w) →
  callE P i_parseState_emph #[.pointer pq, .slice q 0 c, .slice q n c] R w
theorem emphOK_none {ts : List Inl} (hno : ∀ t ∈ ts, t.ty ≠ ty_P_openPlain ∧ t.ty ≠ ty_P_emphPlain) : EmphOK ts ts := by
 intro σ R pq q n c vs RM EM L w hS hI hn h hR
 exact emph_none_ok hS hI hno (by omega) h fun w h => hR w q n c vs RM EM hS (Nat.le_refl _) hI h
theorem autoOff_ok {b pb : Nat} {p : PS} {o : Opt} {q : Option Addr} {n c : Nat} (hpz : p.pz = some ⟨pb, 0, none⟩) (hp : p.at b ∈ L) (ho : o.at pb ∈ L) (hoff : o.auto = false) (h : Sat σ w L) (hR : R (.returned (.slice q n c)) w) :
 callE P i_parseState_autoLinkText #[.pointer (some ⟨b, 0, none⟩), .slice q n c] R w := by
 refine g_parseState_autoLinkText.sound ?_
 refine nilP_some ⟨_, by rw [← hpz]; exact Sat.ld h hp rfl, nilP_some ?_⟩
 simp only [Addr.add_lit, Nat.zero_add]
 exact ⟨o.auto, Sat.ld h ho rfl, br_true (by rw [hoff]; rfl) hR⟩
def AutoOK (o : Opt) (ts ts' : List Inl) : Prop :=
 ∀ (σ : Out) (R : Ending → World → Prop) (b pb : Nat) (p : PS) (q : Option Addr) (n c : Nat) (vs : List Value) (RM EM L : List Chunk) (w : World), p.pz = some ⟨pb, 0, none⟩ → p.at b ∈ L → o.at pb ∈ L → Sl 1 ty_Inline q n c vs RM → n < 1073741824 → InlsAt ts vs EM → Sat σ w (RM ++ (EM ++ L)) →
  (∀ w q' n' c' vs' RM' EM', Sl 1 ty_Inline q' n' c' vs' RM' → n' < 1073741824 → InlsAt ts' vs' EM' → Sat σ w (RM' ++ (EM' ++ L)) → R (.returned (.slice q' n' c')) w) →
  callE P i_parseState_autoLinkText #[.pointer (some ⟨b, 0, none⟩), .slice q n c] R w
theorem autoOK_off {o : Opt} {ts : List Inl} (hoff : o.auto = false) : AutoOK o ts ts := fun σ R b pb p q n c vs RM EM L w hpz hp ho hS hn hI h hR =>
 autoOff_ok hpz (List.mem_append_right _ (List.mem_append_right _ hp)) (List.mem_append_right _ (List.mem_append_right _ ho)) hoff h (hR w q n c vs RM EM hS hn hI h)
theorem inl_endA {X : XI} {b pb e : Nat} {p : PS} {o : Opt} {ts ts' ts2 : List Inl} {opens : List Nat} {oq : Option Addr} {on oc : Nat} {lo : Int} {bk : Bool} (h : IIn σ b p ts opens oq on oc L w) (he : p.em = e) (hs : p.s.length < 1000000000)
 (hn : ts.length < 1000000000) (hpz : p.pz = some ⟨pb, 0, none⟩) (ho : o.at pb ∈ L) (hE : EmphOK (emitM p.s e p.s.length ts) ts') (hpos : ∀ t ∈ ts', ∀ s, t.plain? = some s → s ≠ []) (hb : plen ts' < 1073741824) (hA : AutoOK o (mergeM ts') ts2)
 (hR : ∀ w (p' : PS) q n c vs RM EM, p'.core = p.core → Sl 1 ty_Inline q n c vs RM → n < 1073741824 → InlsAt ts2 vs EM → Sat σ w (p'.at b :: (RM ++ (EM ++ L))) → R (.returned (.slice q n c)) w) :
 g_parseState_inline.bl1 R X (some ⟨b, 0, none⟩) (bs p.s) oq on oc lo bk (p.s.length : Nat) w := by
 have elen : (emitM p.s e p.s.length ts).length ≤ ts.length + 1 := by unfold emitM; split <;> simp
 refine br_false (by simp) ?_
 rw [bs_size]
 refine emitI_ok h he (Nat.le_refl _) (by omega) fun w p1 hp1 _ _ h => ⟨rfl, ?_⟩
 obtain ⟨vs, RM, EM, OM, hS, hI, hO, hlen, h⟩ := h
 have hvl := hI.length
 have hn0 := hS.1
 have hnc := hS.2.1
 have c1 : p1.pz = p.pz := by have := congrArg PS.pz hp1; exact this
 refine h.tk fun w h => ?_
 refine nilP_some (nilP_some ?_)
 refine ⟨_, _, _, h.ldA, ?_⟩
 refine ⟨_, _, _, fun w => sliceT rowInl.ht rowInl.hi _ _ _ 0 (by omega) w, ?_⟩
 refine ⟨_, _, _, h.ldA, ?_⟩
 have h : Sat σ w (RM ++ (EM ++ (p1.at b :: (OM ++ L)))) := h.re
 refine hE σ _ _ p1.lq p1.ln p1.lc vs RM EM _ w hS hI (by omega) h fun w q' n' c' vs' RM' EM' hS' hnn hI' h => ⟨_, _, _, rfl, nilP_some ?_⟩
 have h : Sat σ w (p1.at b :: (RM' ++ (EM' ++ (OM ++ L)))) := h.re
 refine h.stA 0 fun w h => ?_
 let p2 : PS := { p1 with lq := q', ln := n', lc := c' }
 have h : Sat σ w (p2.at b :: (RM' ++ (EM' ++ (OM ++ L)))) := h
 refine nilP_some ?_
 refine ⟨_, _, _, h.ldA, ?_⟩
 have h : Sat σ w (RM' ++ (EM' ++ (p2.at b :: (OM ++ L)))) := h.re
 refine mergePlain_ok (n := n') hS' hI' hpos hb (by omega) h fun w n2 vs2 RM2 EM2 hS2 hn2 hI2 h => ⟨_, _, _, rfl, nilP_some ?_⟩
 have h : Sat σ w (p2.at b :: (RM2 ++ (EM2 ++ (OM ++ L)))) := h.re
 refine h.stA 0 fun w h => ?_
 let p3 : PS := { p1 with lq := q', ln := n2, lc := c' }
 have h : Sat σ w (p3.at b :: (RM2 ++ (EM2 ++ (OM ++ L)))) := h
 refine nilP_some ?_
 refine ⟨_, _, _, h.ldA, ?_⟩
 have h : Sat σ w (RM2 ++ (EM2 ++ (p3.at b :: (OM ++ L)))) := h.re
 refine hA σ _ b pb p3 q' n2 c' vs2 RM2 EM2 _ w (by rw [← hpz, ← c1]) (.head _) (.tail _ (List.mem_append_right _ ho)) hS2 (by omega) hI2 h fun w q3 n3 c3 vs3 RM3 EM3 hS3 hn3 hI3 h => ⟨_, _, _, rfl, nilP_some ?_⟩
 have h : Sat σ w (p3.at b :: (RM3 ++ (EM3 ++ (OM ++ L)))) := h.re
 refine h.stA 0 fun w h => ?_
 refine nilP_some ?_
 refine ⟨_, _, _, h.ldA, ?_⟩
 let p4 : PS := { p1 with lq := q3, ln := n3, lc := c3 }
 have h : Sat σ w (p4.at b :: (RM3 ++ (EM3 ++ (OM ++ L)))) := h
 exact hR w p4 q3 n3 c3 vs3 RM3 EM3 (by rw [← hp1]; rfl) hS3 hn3 hI3 (h.less OM)
theorem inl_begin {b : Nat} {p : PS} {raw : List UInt8} (h : Sat σ w (p.at b :: L)) (hl : raw.length < 4611686018427387904)
 (hK : ∀ w, IIn σ b { p with s := trimLR isST raw, em := 0, lq := none, ln := 0, lc := 0 } [] [] none 0 0 L w → g_parseState_inline.l1 R (some ⟨b, 0, none⟩) (bs (trimLR isST raw)) none 0 0 0 false 0 w) :
 callE P i_parseState_inline #[.pointer (some ⟨b, 0, none⟩), .string (bs raw)] R w := by
 refine g_parseState_inline.sound ?_
 refine trimSpaceTab_ok hl ⟨_, rfl, nilP_some ?_⟩
 refine h.stA 0 fun w h => ?_
 refine nilP_some ?_
 refine h.stA 0 fun w h => ?_
 refine nilP_some ?_
 refine h.stA 0 fun w h => ?_
 exact hK w ⟨[], [], [], [], Sl.nil _ _, ⟨rfl, rfl⟩, Sl.nil _ _, by simp, h⟩
end Go.Proofs.YtgbgadkldalkbaaGreatDoor


set_option linter.unusedVariables false
namespace Go.Proofs.YtgbgadkldalkbaaGreatDoor
open Go.Proofs Go.IntWalk
variable {σ : Out} {w : World} {L L' : List Chunk} {R : Ending → World → Prop}
def lnOf (s : List UInt8) (nl : UInt8 := 0) : Ln := ⟨0, 0, 0, s, nl⟩
def plainStart0 (c : UInt8) : Bool := !(isST c || c == 62 || c == 35 || c == 95 || c == 96 || c == 126 || c == 61 || c == 45 || c == 42)
def plainStart (c : UInt8) : Bool := plainStart0 c && c != 60 && !isBullet c
theorem lnOf_ok {nl : UInt8} {s : List UInt8} (hs : s.length < 1000000000) : (lnOf s nl).ok := ⟨by simp [lnOf], by simp [lnOf], by simp [lnOf]; omega, by simp [lnOf]⟩
theorem plainStart0_st {c : UInt8} (hc : plainStart0 c = true) : isST c = false := by
 simp only [plainStart0, Bool.not_eq_true', Bool.or_eq_false_iff] at hc
 exact hc.1.1.1.1.1.1.1.1
end Go.Proofs.YtgbgadkldalkbaaGreatDoor


set_option linter.unusedVariables false
namespace Go.Proofs.YtgbgadkldalkbaaGreatDoor
open Go.Proofs Go.IntWalk Go.RowKit
variable {σ : Out} {w : World} {L L' : List Chunk} {R : Ending → World → Prop}
def PS.coreS (p : PS) : PS := ({ p with s := [] } : PS).core
def PS0 (pz : Option Addr) : PS := ⟨pz, none, none, 0, none, 0, 0, 0, false, [], 0, none, 0, 0, none, 0, 0, none, 0, 0, List.replicate 80 (.int .i64 0) ++ [.bool false]⟩
end Go.Proofs.YtgbgadkldalkbaaGreatDoor


set_option linter.unusedVariables false
namespace Go.Proofs.YtgbgadkldalkbaaGreatDoor
open Go.Proofs Go.IntWalk Go.RowKit
variable {σ : Out} {w : World} {L L' : List Chunk} {R : Ending → World → Prop}
def optV (o : Opt) : Value := .agg #[.bool o.strike, .bool o.task, .bool o.auto, .bool o.http, .bool o.table, .bool o.dot, .bool o.dash, .bool o.quote, .bool o.ids, .bool o.emoji]
theorem parser_ok {o : Opt} (h : Sat σ w L) (hR : ∀ w pb, Sat σ w (o.at pb :: L) → R (.returned (.pointer (some ⟨pb, 0, none⟩))) w) : callE P i_impl_parser #[optV o] R w := by
 refine g_impl_parser.sound ?_
 refine Sat.bx h fun b w h => ?_
 have ld : ∀ (k : Nat) (v : Bool), ([Value.bool o.strike, .bool o.task, .bool o.auto, .bool o.http, .bool o.table, .bool o.dot, .bool o.dash, .bool o.quote, .bool o.ids, .bool o.emoji])[k]? = some (.bool v) → w.cell? ⟨b, k, none⟩ = some (.bool v) := fun k v hv => Sat.ld h (.head _) hv
 refine ⟨_, ld 8 _ rfl, _, ld 0 _ rfl, _, ld 1 _ rfl, _, ld 2 _ rfl, _, ld 3 _ rfl, _, ld 4 _ rfl, _, ld 9 _ rfl, _, ld 5 _ rfl, _, ld 6 _ rfl, _, ld 7 _ rfl, ?_⟩
 refine Sat.bx h fun pb w h => hR w pb ?_
 have h : Sat σ w (o.at pb :: (b, cel [Value.bool o.strike, .bool o.task, .bool o.auto, .bool o.http, .bool o.table, .bool o.dot, .bool o.dash, .bool o.quote, .bool o.ids, .bool o.emoji] ty_impl_Options) :: L) := h
 exact (h.less [(b, cel [Value.bool o.strike, .bool o.task, .bool o.auto, .bool o.http, .bool o.table, .bool o.dot, .bool o.dash, .bool o.quote, .bool o.ids, .bool o.emoji] ty_impl_Options)])
theorem bs_of (b : ByteArray) : b = bs b.data.toList := by
 cases b; rfl
end Go.Proofs.YtgbgadkldalkbaaGreatDoor


set_option linter.unusedVariables false
set_option maxRecDepth 20000
namespace Go.Proofs.YtgbgadkldalkbaaGreatDoor
open Go.Proofs
namespace g_isPunct
noncomputable def body : Code := bodyOf Tryz.f138
end g_isPunct
def g_isPunct (R : EP) (x0 : Int) (w : World) : Prop :=
 R (.returned (.bool (((((decide (33 ≤ x0)) && (decide (x0 ≤ 47))) || ((decide (58 ≤ x0)) && (decide (x0 ≤ 64)))) || ((decide (91 ≤ x0)) && (decide (x0 ≤ 96)))) || ((decide (123 ≤ x0)) && (decide (x0 ≤ 126)))))) w

namespace g_isPunct
noncomputable def ac (R : EP) : AC :=
 (.leaf (sel [] body))
theorem good (R : EP) : Good P 33 (ac R) (QF P [.tmp 2] R) :=
 trivial
theorem eq (R : EP) (x0 : Int) (w : World) : g_isPunct R x0 w = vcA P 33 (ac R) (QF P [.tmp 2] R) (fr0 [.int .u8 x0]) w := by kernel_rfl
theorem sound {R : EP} {x0 : Int} {w : World} (h : g_isPunct R x0 w) : callE P i_isPunct #[.int .u8 x0] R w :=
 callE_fz (c := body) Tryz.func138 Tryz.call138 (good R) (eq R x0 w) h
end g_isPunct
namespace g_parseBreak
noncomputable def body : Code := bodyOf Tryz.f99
def k3 (R : EP) (x10 x11 : Int) (x66 : Bool) (w : World) : Prop :=
 br x66
 (box w #[] ty_HardBreak fun b1 w2 =>
 R (.returned (.tuple #[.iface ty_P_HardBreak (.pointer (some ⟨b1, 0, none⟩)), .int .i64 x10, .int .i64 x11, .bool true])) w2)
 (box w #[] ty_SoftBreak fun b3 w4 =>
 R (.returned (.tuple #[.iface ty_P_SoftBreak (.pointer (some ⟨b3, 0, none⟩)), .int .i64 x10, .int .i64 x11, .bool true])) w4)

def k2 (R : EP) (x1 : BA) (x2 x10 x11 : Int) (w : World) : Prop :=
 ((decide (x2 ≥ 2)) = true → 0 ≤ (IntKind.i64.wrap (x2 - 1)) ∧ (IntKind.i64.wrap (x2 - 1)) < (x1.size : Int)) ∧
 (((decide (x2 ≥ 2)) && ((bt x1 (IntKind.i64.wrap (x2 - 1))) == 32)) = true → 0 ≤ (IntKind.i64.wrap (x2 - 2)) ∧ (IntKind.i64.wrap (x2 - 2)) < (x1.size : Int)) ∧
 k3 R x10 x11 (((decide (x2 ≥ 2)) && ((bt x1 (IntKind.i64.wrap (x2 - 1))) == 32)) && ((bt x1 (IntKind.i64.wrap (x2 - 2))) == 32)) w

def bl2 (R : EP) (Xa : BA → Int → Int → Int → WP) (x1 : BA) (x2 x10 x11 : Int) (w : World) : Prop :=
 ((decide (x11 < (x1.size : Int))) = true → 0 ≤ x11 ∧ x11 < (x1.size : Int)) ∧
 (((decide (x11 < (x1.size : Int))) && (!((bt x1 x11) == 32))) = true → 0 ≤ x11 ∧ x11 < (x1.size : Int)) ∧
 br ((decide (x11 < (x1.size : Int))) && (((bt x1 x11) == 32) || ((bt x1 x11) == 9)))
 (Xa x1 x2 x10 (IntKind.i64.wrap (x11 + 1)) w)
 (k2 R x1 x2 x10 x11 w)
def l2 (R : EP) (x1 : BA) (x2 x10 x11 : Int) (w : World) : Prop :=
 ∀ X : BA → Int → Int → Int → WP, (∀ x1 x2 x10 x11 w, bl2 R X x1 x2 x10 x11 w → X x1 x2 x10 x11 w) → X x1 x2 x10 x11 w

noncomputable def al2 (R : EP) (Xa : BA → Int → Int → Int → WP) : AC :=
 (.leaf (sel [1,1,1,1,0,0,0] body))
def k1 (R : EP) (x1 : BA) (x2 x10 : Int) (w : World) : Prop :=
 l2 R x1 x2 x10 (IntKind.i64.wrap (x2 + 1)) w

def bl1 (R : EP) (Xb : BA → Int → Int → WP) (x1 : BA) (x2 x10 : Int) (w : World) : Prop :=
 ((decide (x10 > 0)) = true → 0 ≤ (IntKind.i64.wrap (x10 - 1)) ∧ (IntKind.i64.wrap (x10 - 1)) < (x1.size : Int)) ∧
 (((decide (x10 > 0)) && (!((bt x1 (IntKind.i64.wrap (x10 - 1))) == 32))) = true → 0 ≤ (IntKind.i64.wrap (x10 - 1)) ∧ (IntKind.i64.wrap (x10 - 1)) < (x1.size : Int)) ∧
 br ((decide (x10 > 0)) && (((bt x1 (IntKind.i64.wrap (x10 - 1))) == 32) || ((bt x1 (IntKind.i64.wrap (x10 - 1))) == 9)))
 (Xb x1 x2 (IntKind.i64.wrap (x10 - 1)) w)
 (k1 R x1 x2 x10 w)
def l1 (R : EP) (x1 : BA) (x2 x10 : Int) (w : World) : Prop :=
 ∀ X : BA → Int → Int → WP, (∀ x1 x2 x10 w, bl1 R X x1 x2 x10 w → X x1 x2 x10 w) → X x1 x2 x10 w

noncomputable def al1 (R : EP) (Xb : BA → Int → Int → WP) : AC :=
 (.leaf (sel [1,1,0,0,0] body))
end g_parseBreak
def g_parseBreak (R : EP) (x0 : OA) (x1 : BA) (x2 : Int) (w : World) : Prop :=
 g_parseBreak.l1 R x1 x2 x2 w

namespace g_parseBreak
noncomputable def ac (R : EP) : AC :=
 (.seq (.leaf (sel [0] body)) (.seq (.leaf (sel [1,0] body)) (.seq (.block 0 (.loop (leaf [(1, .s .str), (2, .s (.int .i64)), (10, .s (.int .i64))] (l1 R)) (sel [1,1,0,0,0] body))) (.mark (leaf [(1, .s .str), (2, .s (.int .i64)), (10, .s (.int .i64))] (k1 R)) (.seq (.leaf (sel [1,1,1,0] body)) (.seq (.block 2 (.loop (leaf [(1, .s .str), (2, .s (.int .i64)), (10, .s (.int .i64)), (11, .s (.int .i64))] (l2 R)) (sel [1,1,1,1,0,0,0] body))) (.mark (leaf [(1, .s .str), (2, .s (.int .i64)), (10, .s (.int .i64)), (11, .s (.int .i64))] (k2 R)) (.seq (.seq (.leaf (sel [1,1,1,1,1,0,0] body)) (.mark (leaf [(10, .s (.int .i64)), (11, .s (.int .i64)), (66, .s .bool)] (k3 R)) (.leaf (sel [1,1,1,1,1,0,1] body)))) (.leaf (sel [1,1,1,1,1,1] body))))))))))
theorem good (R : EP) : Good P 77 (ac R) (QF P [.tmp 6, .tmp 7, .tmp 8, .tmp 9] R) :=
 ⟨trivial, ⟨trivial, ⟨(loopG (al1 R) (bl1 R) (fun _ => by kernel_rfl) (fun Xb => trivial) (fun Xb => by intro x1 x2 x10 ρ w; kernel_rfl) (fun X h _ _ _ _ g => g X h)), ⟨⟨trivial, ⟨(loopG (al2 R) (bl2 R) (fun _ => by kernel_rfl) (fun Xa => trivial) (fun Xa => by intro x1 x2 x10 x11 ρ w; kernel_rfl) (fun X h _ _ _ _ _ g => g X h)), ⟨⟨⟨trivial, ⟨trivial, cutZ⟩⟩, trivial⟩, cutZ⟩⟩⟩, cutZ⟩⟩⟩⟩
theorem eq (R : EP) (x0 : OA) (x1 : BA) (x2 : Int) (w : World) : g_parseBreak R x0 x1 x2 w = vcA P 77 (ac R) (QF P [.tmp 6, .tmp 7, .tmp 8, .tmp 9] R) (fr0 [.pointer x0, .string x1, .int .i64 x2]) w := by kernel_rfl
theorem sound {R : EP} {x0 : OA} {x1 : ByteArray} {x2 : Int} {w : World} (h : g_parseBreak R x0 x1 x2 w) : callE P i_parseBreak #[.pointer x0, .string x1, .int .i64 x2] R w :=
 callE_fz (c := body) Tryz.func99 Tryz.call99 (good R) (eq R x0 x1 x2 w) h
end g_parseBreak
namespace g_parseEscape
noncomputable def body : Code := bodyOf Tryz.f90
def k2 (R : EP) (w : World) : Prop :=
 R (.returned (.tuple #[.nilIface, .int .i64 0, .int .i64 0, .bool false])) w

def k4 (R : EP) (x2 x11 : Int) (w : World) : Prop :=
 box w #[] ty_HardBreak fun b7 w8 =>
 R (.returned (.tuple #[.iface ty_P_HardBreak (.pointer (some ⟨b7, 0, none⟩)), .int .i64 x2, .int .i64 x11, .bool true])) w8

def bl1 (R : EP) (Xa : BA → Int → Int → WP) (x1 : BA) (x2 x11 : Int) (w : World) : Prop :=
 ((decide (x11 < (x1.size : Int))) = true → 0 ≤ x11 ∧ x11 < (x1.size : Int)) ∧
 (((decide (x11 < (x1.size : Int))) && (!((bt x1 x11) == 32))) = true → 0 ≤ x11 ∧ x11 < (x1.size : Int)) ∧
 br ((decide (x11 < (x1.size : Int))) && (((bt x1 x11) == 32) || ((bt x1 x11) == 9)))
 (Xa x1 x2 (IntKind.i64.wrap (x11 + 1)) w)
 (k4 R x2 x11 w)
def l1 (R : EP) (x1 : BA) (x2 x11 : Int) (w : World) : Prop :=
 ∀ X : BA → Int → Int → WP, (∀ x1 x2 x11 w, bl1 R X x1 x2 x11 w → X x1 x2 x11 w) → X x1 x2 x11 w

noncomputable def al1 (R : EP) (Xa : BA → Int → Int → WP) : AC :=
 (.leaf (sel [1,0,1,0,1,1,1,0,1,1,0,0,0] body))
def k3 (R : EP) (x1 : BA) (x2 : Int) (w : World) : Prop :=
 l1 R x1 x2 (IntKind.i64.wrap (x2 + 2)) w

def k1 (R : EP) (x0 : OA) (x1 : BA) (x2 : Int) (x46 : Bool) (w : World) : Prop :=
 br x46
 (nilP x0 fun a5 =>
 stV w ((a5.add 6).add 0) (.bool true) fun w6 =>
 k3 R x1 x2 w6)
 (k3 R x1 x2 w)

end g_parseEscape
def g_parseEscape (R : EP) (x0 : OA) (x1 : BA) (x2 : Int) (w : World) : Prop :=
 br (decide ((IntKind.i64.wrap (x2 + 1)) < (x1.size : Int)))
 (0 ≤ (IntKind.i64.wrap (x2 + 1)) ∧ (IntKind.i64.wrap (x2 + 1)) < (x1.size : Int) ∧
 callE P i_isPunct #[.int .u8 (bt x1 (IntKind.i64.wrap (x2 + 1)))] (fun e w2 => ∃ (r1 : Bool), e = .returned (.bool r1) ∧
 br r1
 (0 ≤ (IntKind.i64.wrap (x2 + 1)) ∧ (IntKind.i64.wrap (x2 + 1)) ≤ (IntKind.i64.wrap (x2 + 2)) ∧ (IntKind.i64.wrap (x2 + 2)) ≤ (x1.size : Int) ∧
 box w2 #[.string (x1.extract (Int.toNat (IntKind.i64.wrap (x2 + 1))) (Int.toNat (IntKind.i64.wrap (x2 + 2))))] ty_Escaped fun b3 w4 =>
 R (.returned (.tuple #[.iface ty_P_Escaped (.pointer (some ⟨b3, 0, none⟩)), .int .i64 x2, .int .i64 (IntKind.i64.wrap (x2 + 2)), .bool true])) w4)
 (br ((bt x1 (IntKind.i64.wrap (x2 + 1))) == 10)
 (((decide (x2 > 0)) = true → 0 ≤ (IntKind.i64.wrap (x2 - 1)) ∧ (IntKind.i64.wrap (x2 - 1)) < (x1.size : Int)) ∧
 g_parseEscape.k1 R x0 x1 x2 ((decide (x2 > 0)) && ((bt x1 (IntKind.i64.wrap (x2 - 1))) == 92)) w2)
 (g_parseEscape.k2 R w2))) w)
 (g_parseEscape.k2 R w)

namespace g_parseEscape
noncomputable def ac (R : EP) : AC :=
 (.seq (.leaf (sel [0] body)) (.seq (.seq (.leaf (sel [1,0,0] body)) (.cond 16 (.seq (.leaf (sel [1,0,1,0,0] body)) (.seq (.leaf (sel [1,0,1,0,1,0] body)) (.seq (.leaf (sel [1,0,1,0,1,1,0] body)) (.cond 37 (.seq (.seq (.leaf (sel [1,0,1,0,1,1,1,0,0,0] body)) (.mark (leaf [(0, .s .ptr), (1, .s .str), (2, .s (.int .i64)), (46, .s .bool)] (k1 R)) (.leaf (sel [1,0,1,0,1,1,1,0,0,1] body)))) (.mark (leaf [(1, .s .str), (2, .s (.int .i64))] (k3 R)) (.seq (.leaf (sel [1,0,1,0,1,1,1,0,1,0] body)) (.seq (.block 0 (.loop (leaf [(1, .s .str), (2, .s (.int .i64)), (11, .s (.int .i64))] (l1 R)) (sel [1,0,1,0,1,1,1,0,1,1,0,0,0] body))) (.mark (leaf [(2, .s (.int .i64)), (11, .s (.int .i64))] (k4 R)) (.leaf (sel [1,0,1,0,1,1,1,0,1,1,1] body))))))) (.leaf (sel [1,0,1,0,1,1,1,1] body)))))) (.leaf (sel [1,0,1,1] body)))) (.mark (leaf [] (k2 R)) (.leaf (sel [1,1] body)))))
theorem good (R : EP) : Good P 75 (ac R) (QF P [.tmp 6, .tmp 7, .tmp 8, .tmp 9] R) :=
 ⟨trivial, ⟨⟨trivial, ⟨⟨trivial, ⟨trivial, ⟨trivial, ⟨⟨⟨trivial, ⟨trivial, cutZ⟩⟩, ⟨⟨trivial, ⟨(loopG (al1 R) (bl1 R) (fun _ => by kernel_rfl) (fun Xa => trivial) (fun Xa => by intro x1 x2 x11 ρ w; kernel_rfl) (fun X h _ _ _ _ g => g X h)), ⟨trivial, cutZ⟩⟩⟩, cutZ⟩⟩, trivial⟩⟩⟩⟩, trivial⟩⟩, ⟨trivial, cutZ⟩⟩⟩
theorem eq (R : EP) (x0 : OA) (x1 : BA) (x2 : Int) (w : World) : g_parseEscape R x0 x1 x2 w = vcA P 75 (ac R) (QF P [.tmp 6, .tmp 7, .tmp 8, .tmp 9] R) (fr0 [.pointer x0, .string x1, .int .i64 x2]) w := by kernel_rfl
theorem sound {R : EP} {x0 : OA} {x1 : ByteArray} {x2 : Int} {w : World} (h : g_parseEscape R x0 x1 x2 w) : callE P i_parseEscape #[.pointer x0, .string x1, .int .i64 x2] R w :=
 callE_fz (c := body) Tryz.func90 Tryz.call90 (good R) (eq R x0 x1 x2 w) h
end g_parseEscape
end Go.Proofs.YtgbgadkldalkbaaGreatDoor

set_option linter.unusedVariables false
namespace Go.Proofs.YtgbgadkldalkbaaGreatDoor
open Go.Proofs Go.IntWalk Go.RowKit
variable {σ : Out} {w : World} {L L' : List Chunk} {R : Ending → World → Prop}
def AtI (X : XI) (σ : Out) (b : Nat) (p0 : PS) (raw : List UInt8) (L : List Chunk) (i e : Nat) (ts : List Inl) : Prop :=
 ∀ w (p : PS) oq on oc, p.coreS = p0.coreS → p.s = raw → p.em = (e : Int) → IIn σ b p ts [] oq on oc L w → X (some ⟨b, 0, none⟩) (bs raw) oq on oc 0 false (i : Int) w
def LoopX (R : Ending → World → Prop) (X : XI) (b : Nat) (raw : List UInt8) : Prop :=
 ∀ oq on oc (i : Int) w, g_parseState_inline.bl1 R X (some ⟨b, 0, none⟩) (bs raw) oq on oc 0 false i w → X (some ⟨b, 0, none⟩) (bs raw) oq on oc 0 false i w
theorem PS.pz_of {p p0 : PS} (h : p.coreS = p0.coreS) : p.pz = p0.pz := by have := congrArg PS.pz h; exact this
theorem PS.coreS_of {p' p p0 : PS} (h1 : p'.core = p.core) (h2 : p.coreS = p0.coreS) : p'.coreS = p0.coreS := by
 rw [← h2]
 have := congrArg (fun q : PS => ({ q with s := [] } : PS)) h1
 exact this
theorem AtI.plain {X : XI} {b pb i e : Nat} {p0 : PS} {raw : List UInt8} {ts : List Inl} {o : Opt} (hX : LoopX R X b raw) (hi : i < raw.length) (hs : raw.length < 1000000000) (hpz : p0.pz = some ⟨pb, 0, none⟩) (ho : o.at pb ∈ L) (hp : parserOf o raw[i] = .nil) (h93 : raw[i] ≠ 93)
 (h : AtI X σ b p0 raw L (i + 1) e ts) : AtI X σ b p0 raw L i e ts := by
 intro w p oq on oc hc hraw he hI
 refine hX _ _ _ _ _ ?_
 obtain ⟨vs, RM, EM, OM, hS, hIn, hO, hlen, hsat⟩ := hI
 refine inl_dispatch (p := p) hi (by omega) (by rw [PS.pz_of hc, hpz]) (.head _) (.tail _ (List.mem_append_right _ (List.mem_append_right _ (List.mem_append_right _ ho)))) hsat ?_
 rw [hp]
 exact inl_none (inl_k5 hi (by omega) (.inl h93) (h w p oq on oc hc hraw he ⟨vs, RM, EM, OM, hS, hIn, hO, hlen, hsat⟩))
theorem AtI.leaf {X : XI} {b pb i e st en : Nat} {p0 : PS} {raw : List UInt8} {ts : List Inl} {o : Opt} {f : FuncId} {t : Inl} {L0 : List Chunk} {Q : PS → PS → Prop} (hX : LoopX R X b raw) (hi : i < raw.length) (hs : raw.length < 1000000000) (hpz : p0.pz = some ⟨pb, 0, none⟩) (ho : o.at pb ∈ L)
 (hp : parserOf o raw[i] = .fn f) (hL0 : ∀ c ∈ L0, c ∈ L) (hf : ∀ p : PS, p.coreS = p0.coreS → p.s = raw → LeafOK b p raw i (.func (.func f) #[] #[]) L0 (some (t, st, en)) (Q p)) (ht : t.isOpen = false) (hst : st ≤ raw.length) (hn : ts.length < 1000000000)
 (h : AtI X σ b p0 raw L en en (emitM raw e st ts ++ [t])) : AtI X σ b p0 raw L i e ts := by
 intro w p oq on oc hc hraw he hI
 refine hX _ _ _ _ _ ?_
 obtain ⟨vs, RM, EM, OM, hS, hIn, hO, hlen, hsat⟩ := hI
 refine inl_dispatch (p := p) hi (by omega) (by rw [PS.pz_of hc, hpz]) (.head _) (.tail _ (List.mem_append_right _ (List.mem_append_right _ (List.mem_append_right _ ho)))) hsat ?_
 rw [hp]
 dsimp only
 have hleaf := hf p hc hraw
 subst hraw
 refine inl_leaf ⟨vs, RM, EM, OM, hS, hIn, hO, hlen, hsat⟩ hL0 hleaf he hst hs hn (by simp) fun w p2 oq on oc hp2 hem2 _ h2 => ?_
 rw [ht] at h2
 refine h w p2 oq on oc (PS.coreS_of hp2 hc) ?_ hem2 h2
 have := congrArg PS.s hp2; exact this
theorem AtI.finA {X : XI} {b pb e : Nat} {p0 : PS} {raw : List UInt8} {ts ts' ts2 : List Inl} {o : Opt} (hX : LoopX R X b raw) (hs : raw.length < 1000000000) (hpz : p0.pz = some ⟨pb, 0, none⟩) (ho : o.at pb ∈ L) (hn : ts.length < 1000000000)
 (hE : EmphOK (emitM raw e raw.length ts) ts') (hpos : ∀ t ∈ ts', ∀ s, t.plain? = some s → s ≠ []) (hb : plen ts' < 1073741824) (hA : AutoOK o (mergeM ts') ts2)
 (hR : ∀ w (p' : PS) q n c vs RM EM, p'.coreS = p0.coreS → Sl 1 ty_Inline q n c vs RM → n < 1073741824 → InlsAt ts2 vs EM → Sat σ w (p'.at b :: (RM ++ (EM ++ L))) → R (.returned (.slice q n c)) w) :
 AtI X σ b p0 raw L raw.length e ts := by
 intro w p oq on oc hc hraw he hI
 refine hX _ _ _ _ _ ?_
 subst hraw
 exact inl_endA hI he hs hn (by rw [PS.pz_of hc, hpz]) ho hE hpos hb hA fun w p2 q n c vs RM EM hp2 hS hn hI h => hR w p2 q n c vs RM EM (PS.coreS_of hp2 hc) hS hn hI h
theorem AtI.fin {X : XI} {b pb e : Nat} {p0 : PS} {raw : List UInt8} {ts ts' : List Inl} {o : Opt} (hX : LoopX R X b raw) (hs : raw.length < 1000000000) (hpz : p0.pz = some ⟨pb, 0, none⟩) (ho : o.at pb ∈ L) (hoff : o.auto = false) (hn : ts.length < 1000000000)
 (hE : EmphOK (emitM raw e raw.length ts) ts') (hpos : ∀ t ∈ ts', ∀ s, t.plain? = some s → s ≠ []) (hb : plen ts' < 1073741824)
 (hR : ∀ w (p' : PS) q n c vs RM EM, p'.coreS = p0.coreS → Sl 1 ty_Inline q n c vs RM → n < 1073741824 → InlsAt (mergeM ts') vs EM → Sat σ w (p'.at b :: (RM ++ (EM ++ L))) → R (.returned (.slice q n c)) w) :
 AtI X σ b p0 raw L raw.length e ts :=
 AtI.finA hX hs hpz ho hn hE hpos hb (autoOK_off hoff) hR
end Go.Proofs.YtgbgadkldalkbaaGreatDoor


set_option linter.unusedVariables false
namespace Go.Proofs.YtgbgadkldalkbaaGreatDoor
open Go.Proofs
theorem sub_length {s : List UInt8} {i j : Nat} (h : j ≤ s.length) : (sub s i j).length = j - i := by unfold sub; rw [List.length_drop, List.length_take]; omega
theorem getD_app {a b : List UInt8} {k : Nat} (h : a.length ≤ k) : (a ++ b).getD k 0 = b.getD (k - a.length) 0 := by
 rw [List.getD_eq_getElem?_getD, List.getElem?_append_right h, ← List.getD_eq_getElem?_getD]
theorem getD_app' {a b : List UInt8} {k : Nat} {d : UInt8} (h : k < a.length) : (a ++ b).getD k d = a.getD k d := by
 rw [List.getD_eq_getElem?_getD, List.getElem?_append_left h, ← List.getD_eq_getElem?_getD]
theorem sub_mid (A B C : List UInt8) : sub (A ++ (B ++ C)) A.length (A.length + B.length) = B := by
 unfold sub
 rw [← List.append_assoc, show A.length + B.length = (A ++ B).length by simp, List.take_left, List.drop_left]
theorem getD_mid (A C : List UInt8) (b d : UInt8) : (A ++ (b :: C)).getD A.length d = b := by
 rw [List.getD_eq_getElem?_getD, List.getElem?_append_right (Nat.le_refl _), Nat.sub_self]; rfl
theorem getElem_getD {l : List UInt8} {i : Nat} (h : i < l.length) (d : UInt8) : l[i] = l.getD i d := by
 rw [List.getD_eq_getElem?_getD, List.getElem?_eq_getElem h]; rfl
def optOff : Opt := ⟨false, false, false, false, false, false, false, false, false, false⟩
end Go.Proofs.YtgbgadkldalkbaaGreatDoor


set_option linter.unusedVariables false
namespace Go.Proofs.YtgbgadkldalkbaaGreatDoor
open Go.Proofs Go.IntWalk Go.RowKit
variable {σ : Out} {w : World} {L L' : List Chunk} {R : Ending → World → Prop}
theorem sub_self (s : List UInt8) (i : Nat) : sub s i i = [] := List.drop_eq_nil_of_le (by rw [List.length_take]; omega)
end Go.Proofs.YtgbgadkldalkbaaGreatDoor


set_option linter.unusedVariables false
namespace Go.Proofs.YtgbgadkldalkbaaGreatDoor
open Go.Proofs Go.IntWalk Go.RowKit
variable {σ : Out} {w : World} {L L' : List Chunk} {R : Ending → World → Prop}
def punB (c : UInt8) : Bool := (((decide (33 ≤ c.toNat) && decide (c.toNat ≤ 47)) || (decide (58 ≤ c.toNat) && decide (c.toNat ≤ 64))) || (decide (91 ≤ c.toNat) && decide (c.toNat ≤ 96))) || (decide (123 ≤ c.toNat) && decide (c.toNat ≤ 126))
theorem u8_cle (c : UInt8) (n : Nat) : decide ((n : Int) ≤ ((c.toNat : Nat) : Int)) = decide (n ≤ c.toNat) := by rw [decide_eq_decide]; omega
theorem u8_cge (c : UInt8) (n : Nat) : decide (((c.toNat : Nat) : Int) ≤ (n : Int)) = decide (c.toNat ≤ n) := by rw [decide_eq_decide]; omega
theorem isPunctB_ok {c : UInt8} (hR : R (.returned (.bool (punB c))) w) : callE P i_isPunct #[.int .u8 (c.toNat : Int)] R w := by
 refine g_isPunct.sound ?_
 unfold g_isPunct
 unfold punB at hR
 rw [← u8_cle c 33, ← u8_cge c 47, ← u8_cle c 58, ← u8_cge c 64, ← u8_cle c 91, ← u8_cge c 96, ← u8_cle c 123, ← u8_cge c 126] at hR
 exact hR
inductive Tok where
 | lit (c : UInt8)
 | esc (c : UInt8)
 | nl
def Tok.bytes : Tok → List UInt8
 | .lit c => [c]
 | .esc c => [92, c]
 | .nl => [10]
def tokB (ts : List Tok) : List UInt8 := ts.flatMap Tok.bytes
theorem tokB_cons (t : Tok) (ts : List Tok) : tokB (t :: ts) = t.bytes ++ tokB ts := by simp [tokB]
theorem tokB_append (a b : List Tok) : tokB (a ++ b) = tokB a ++ tokB b := by simp [tokB]
theorem tokB_length (ts : List Tok) : ts.length ≤ (tokB ts).length := by
 induction ts with
 | nil => simp [tokB]
 | cons t ts ih => rw [tokB_cons, List.length_append, List.length_cons]; cases t <;> simp [Tok.bytes] <;> omega
def tokIn (pend : List UInt8) : List Tok → List Inl
 | [] => if pend = [] then [] else [.plain pend]
 | .lit c :: r => tokIn (pend ++ [c]) r
 | .esc c :: r => (if pend = [] then [] else [.plain pend]) ++ .esc [c] :: tokIn [] r
 | .nl :: r => (if pend = [] then [] else [.plain pend]) ++ .soft :: tokIn [] r
def nlOK : List Tok → Prop
 | [] => True
 | t :: ts => (match ts with
  | .nl :: _ => match t with
   | .lit c => isST c = false
   | .esc c => isST c = false
   | .nl => True
  | _ => True) ∧ (match t, ts with
  | .nl, .lit c :: _ => isST c = false
  | _, _ => True) ∧ nlOK ts
def Tok.ok (o : Opt) : Tok → Prop
 | .lit c => parserOf o c = .nil ∧ c ≠ 93
 | .esc c => punB c = true
 | .nl => True
theorem escape_leaf {b : Nat} {p : PS} {c : UInt8} {A B : List UInt8} (hc : punB c = true) (hs : (A ++ 92 :: c :: B).length < 1000000) :
 LeafOK b p (A ++ 92 :: c :: B) A.length (.func (.func i_parseEscape) #[] #[]) [] (some (.esc [c], A.length, A.length + 2)) (fun p' => p' = p) := by
 intro σ R L w _ h hR
 refine enter_fn ?_
 have hlen : (A ++ 92 :: c :: B).length = A.length + B.length + 2 := by simp; omega
 have hg : (A ++ 92 :: c :: B).getD (A.length + 1) 0 = c := by
  have := getD_mid (A ++ [92]) B c 0
  rw [show (A ++ [92] : List UInt8).length = A.length + 1 by simp] at this
  rw [← this]; simp
 refine g_parseEscape.sound ?_
 unfold g_parseEscape
 have e2 : IntKind.i64.wrap ((A.length : Int) + 2) = ((A.length + 2 : Nat) : Int) := by simp (disch := omega) only [i64_in]; omega
 rw [i64_inc (by omega), e2]
 refine br_true (by rw [bs_size, hlen]; simp; omega) ⟨by omega, by rw [bs_size, hlen]; omega, ?_⟩
 rw [bs_bt, hg]
 refine isPunctB_ok ⟨_, rfl, br_true hc ⟨by omega, by omega, by rw [bs_size, hlen]; omega, ?_⟩⟩
 have hsub := sub_mid (A ++ [92]) [c] B
 rw [show (A ++ [92] : List UInt8).length = A.length + 1 by simp] at hsub
 rw [Int.toNat_natCast, Int.toNat_natCast, bs_extract]
 have hsub' : ((A ++ 92 :: c :: B).take (A.length + 2)).drop (A.length + 1) = [c] := by
  unfold sub at hsub
  rw [← hsub]; simp
 rw [hsub']
 refine Sat.bx h fun nb w h => ?_
 exact hR w p _ _ rfl rfl ⟨nb, _, rfl, rfl⟩ h.up1
theorem break_leaf {b : Nat} {p : PS} {A B : List UInt8} (hA : ∀ k, k + 1 = A.length → isST (A.getD k 0) = false) (hB : 0 < B.length → isST (B.getD 0 0) = false) (hs : (A ++ 10 :: B).length < 1000000) :
 LeafOK b p (A ++ 10 :: B) A.length (.func (.func i_parseBreak) #[] #[]) [] (some (.soft, A.length, A.length + 1)) (fun p' => p' = p) := by
 intro σ R L w _ h hR
 refine enter_fn ?_
 have hlen : (A ++ 10 :: B).length = A.length + B.length + 1 := by simp; omega
 have hst : ∀ {c : UInt8}, isST c = false → (((c.toNat : Nat) : Int) == 32) = false ∧ (((c.toNat : Nat) : Int) == 9) = false := by
  intro c hc
  simp only [isST, Bool.or_eq_false_iff] at hc
  rw [u8b _ 32 32 rfl, u8b _ 9 9 rfl]; exact hc
 refine g_parseBreak.sound ?_
 intro X hX
 have k1 : g_parseBreak.k1 R (bs (A ++ 10 :: B)) (A.length : Nat) (A.length : Nat) w := by
  unfold g_parseBreak.k1
  rw [i64_inc (by omega)]
  intro Y hY
  have k2 : g_parseBreak.k2 R (bs (A ++ 10 :: B)) (A.length : Nat) (A.length : Nat) ((A.length + 1 : Nat) : Int) w := by
   rcases Nat.lt_or_ge A.length 2 with h2 | h2
   ·have hf : decide (((A.length : Nat) : Int) ≥ 2) = false := decide_eq_false (by omega)
    unfold g_parseBreak.k2
    rw [hf]
    refine ⟨fun h => by simp at h, fun h => by simp at h, br_false rfl ?_⟩
    exact Sat.bx h fun nb w h => hR w p _ _ rfl rfl ⟨nb, _, rfl, rfl⟩ h.up1
   ·have ht : decide (((A.length : Nat) : Int) ≥ 2) = true := decide_eq_true (by omega)
    have e1 : IntKind.i64.wrap ((A.length : Int) - 1) = ((A.length - 1 : Nat) : Int) := i64_dec (by omega) (by omega)
    have hc := hst (hA (A.length - 1) (by omega))
    have hg : bt (bs (A ++ 10 :: B)) ((A.length - 1 : Nat) : Int) = ((A.getD (A.length - 1) 0).toNat : Int) := by rw [bs_bt, getD_app' (by omega)]
    unfold g_parseBreak.k2
    rw [ht, e1, hg, hc.1]
    refine ⟨fun _ => ⟨by omega, by rw [bs_size, hlen]; omega⟩, fun h => by simp at h, br_false rfl ?_⟩
    exact Sat.bx h fun nb w h => hR w p _ _ rfl rfl ⟨nb, _, rfl, rfl⟩ h.up1
  rcases Nat.eq_zero_or_pos B.length with hb | hb
  ·have hf : decide (((A.length + 1 : Nat) : Int) < ((bs (A ++ 10 :: B)).size : Int)) = false := decide_eq_false (by rw [bs_size, hlen]; omega)
   refine hY _ _ _ _ _ ?_
   unfold g_parseBreak.bl2
   rw [hf]
   exact ⟨fun h => by simp at h, fun h => by simp at h, br_false rfl k2⟩
  ·have hc := hst (hB hb)
   have hg : bt (bs (A ++ 10 :: B)) ((A.length + 1 : Nat) : Int) = ((B.getD 0 0).toNat : Int) := by
    rw [bs_bt, getD_app (by omega), show A.length + 1 - A.length = 0 + 1 by omega, List.getD_cons_succ]
   refine hY _ _ _ _ _ ?_
   unfold g_parseBreak.bl2
   rw [hg, hc.1, hc.2]
   exact ⟨fun h => ⟨by omega, by rw [bs_size, hlen]; omega⟩, fun h => ⟨by omega, by rw [bs_size, hlen]; omega⟩, br_false (by simp) k2⟩
 rcases Nat.eq_zero_or_pos A.length with ha | ha
 ·have hf : decide (((A.length : Nat) : Int) > 0) = false := decide_eq_false (by omega)
  refine hX _ _ _ _ ?_
  unfold g_parseBreak.bl1
  rw [hf]
  exact ⟨fun h => by simp at h, fun h => by simp at h, br_false rfl k1⟩
 ·have e1 : IntKind.i64.wrap ((A.length : Int) - 1) = ((A.length - 1 : Nat) : Int) := i64_dec (by omega) (by omega)
  have hc := hst (hA (A.length - 1) (by omega))
  have hg : bt (bs (A ++ 10 :: B)) ((A.length - 1 : Nat) : Int) = ((A.getD (A.length - 1) 0).toNat : Int) := by rw [bs_bt, getD_app' (by omega)]
  refine hX _ _ _ _ ?_
  unfold g_parseBreak.bl1
  rw [e1, hg, hc.1, hc.2]
  exact ⟨fun h => ⟨by omega, by rw [bs_size, hlen]; omega⟩, fun h => ⟨by omega, by rw [bs_size, hlen]; omega⟩, br_false (by simp) k1⟩
theorem tokIn_kinds : ∀ (ts : List Tok) (pend : List UInt8), ∀ t ∈ tokIn pend ts, (∃ s, s ≠ [] ∧ t = .plain s) ∨ (∃ s, t = .esc s) ∨ t = .soft
 | [], pend, t, h => by
  simp only [tokIn] at h
  split at h
  ·simp at h
  ·rename_i hp; simp at h; exact .inl ⟨pend, hp, h⟩
 | .lit c :: r, pend, t, h => tokIn_kinds r _ t h
 | .esc c :: r, pend, t, h => by
  simp only [tokIn, List.mem_append, List.mem_cons] at h
  rcases h with h | rfl | h
  ·split at h
   ·simp at h
   ·rename_i hp; simp at h; exact .inl ⟨pend, hp, h⟩
  ·exact .inr (.inl ⟨_, rfl⟩)
  ·exact tokIn_kinds r _ t h
 | .nl :: r, pend, t, h => by
  simp only [tokIn, List.mem_append, List.mem_cons] at h
  rcases h with h | rfl | h
  ·split at h
   ·simp at h
   ·rename_i hp; simp at h; exact .inl ⟨pend, hp, h⟩
  ·exact .inr (.inr rfl)
  ·exact tokIn_kinds r _ t h
theorem tokIn_merge : ∀ (ts : List Tok) (pend : List UInt8), mergeM (tokIn pend ts) = tokIn pend ts
 | [], pend => by
  by_cases hp : pend = []
  ·simp [tokIn, hp, mergeM, mergeGo, flushP]
  ·simp [tokIn, hp, mergeM, mergeGo, flushP, Inl.plain?]
 | .lit c :: r, pend => tokIn_merge r _
 | .esc c :: r, pend => by
  have ih := tokIn_merge r []
  unfold mergeM at ih ⊢
  by_cases hp : pend = []
  ·simp [tokIn, hp, mergeGo, flushP, Inl.plain?, ih]
  ·simp [tokIn, hp, mergeGo, flushP, Inl.plain?, ih]
 | .nl :: r, pend => by
  have ih := tokIn_merge r []
  unfold mergeM at ih ⊢
  by_cases hp : pend = []
  ·simp [tokIn, hp, mergeGo, flushP, Inl.plain?, ih]
  ·simp [tokIn, hp, mergeGo, flushP, Inl.plain?, ih]
theorem plen_append : ∀ (a b : List Inl), plen (a ++ b) = plen a + plen b
 | [], b => by simp [plen]
 | t :: a, b => by simp only [List.cons_append, plen, plen_append a b]; omega
theorem tokIn_plen : ∀ (ts : List Tok) (pend : List UInt8), plen (tokIn pend ts) ≤ pend.length + ts.length
 | [], pend => by
  simp only [tokIn]
  split <;> simp [plen, Inl.plain?]
 | .lit c :: r, pend => by
  have := tokIn_plen r (pend ++ [c])
  simp only [tokIn, List.length_append, List.length_cons, List.length_nil] at this ⊢; omega
 | .esc c :: r, pend => by
  have := tokIn_plen r []
  simp only [tokIn, plen_append, plen, List.length_nil, List.length_cons] at this ⊢
  split <;> simp [plen, Inl.plain?] <;> omega
 | .nl :: r, pend => by
  have := tokIn_plen r []
  simp only [tokIn, plen_append, plen, List.length_nil, List.length_cons] at this ⊢
  split <;> simp [plen, Inl.plain?] <;> omega
theorem sub_snoc {A B : List UInt8} {e : Nat} (x : List UInt8) (he : e ≤ A.length) : sub (A ++ (x ++ B)) e (A.length + x.length) = sub (A ++ (x ++ B)) e A.length ++ x := by
 unfold sub
 have h1 : (A ++ (x ++ B)).take (A.length + x.length) = A ++ x := by rw [← List.append_assoc, show A.length + x.length = (A ++ x).length by simp, List.take_left]
 have h2 : (A ++ (x ++ B)).take A.length = A := List.take_left
 rw [h1, h2, List.drop_append_of_le_length he]
end Go.Proofs.YtgbgadkldalkbaaGreatDoor


set_option linter.unusedVariables false
namespace Go.Proofs.YtgbgadkldalkbaaGreatDoor
open Go.Proofs Go.IntWalk Go.RowKit
variable {σ : Out} {w : World} {L L' : List Chunk} {R : Ending → World → Prop}
def SArg (σ : Out) (L : List Chunk) (q : Option Addr) (n : Nat) (ls : List (List UInt8)) : Prop :=
 n = ls.length ∧ ∀ i (hi : i < ls.length), ∃ a, q = some a ∧ ∀ w, Sat σ w L → w.cell? (a.add i) = some (.string (bs ls[i]))
theorem SArg.ofSl {q : Option Addr} {n c : Nat} {ts : List (List UInt8)} {M : List Chunk} (hS : Sl 1 ty_string q n c (sv ts) M) (hM : ∀ c ∈ M, c ∈ L) : SArg σ L q n ts := by
 have hl := hS.1
 rw [sv_length, Nat.mul_one] at hl
 refine ⟨hl.symm, fun i hi => ?_⟩
 obtain ⟨b, sp, rfl, rfl⟩ := hS.rowAt (by omega)
 refine ⟨_, rfl, fun w h => ?_⟩
 rw [Addr.add_lit, Nat.zero_add]
 exact Sat.ld h (hM _ (.head _)) (by rw [List.getElem?_append_left (by rw [sv_length]; exact hi), sv_get hi])
theorem SArg.mono {q : Option Addr} {n : Nat} {ls : List (List UInt8)} (h : SArg σ L q n ls) (hL : ∀ w, Sat σ w L' → Sat σ w L) : SArg σ L' q n ls :=
 ⟨h.1, fun i hi => by obtain ⟨a, h1, h2⟩ := h.2 i hi; exact ⟨a, h1, fun w hw => h2 w (hL w hw)⟩⟩
end Go.Proofs.YtgbgadkldalkbaaGreatDoor


set_option linter.unusedVariables false
namespace Go.Proofs.YtgbgadkldalkbaaGreatDoor
open Go.Proofs Go.IntWalk Go.RowKit
variable {σ : Out} {w : World} {L L' : List Chunk} {R : Ending → World → Prop}
theorem joinL_snoc (sep : List UInt8) (ls : List (List UInt8)) (l : List UInt8) : joinL sep (ls ++ [l]) = if ls = [] then l else joinL sep ls ++ (sep ++ l) := by
 cases ls with
 | nil => simp [joinL]
 | cons t ts => simp [joinL]
theorem joined_ok {q : Option Addr} {n c : Nat} {ls : List (List UInt8)} {sep : List UInt8} (hA : SArg σ L q n ls) (h : Sat σ w L) (hn : n < 1000000) (hb : (joinL sep ls).length < 1000000000) (hs : sep.length < 1000000)
 (hR : ∀ w, Sat σ w L → R (.returned (.string (bs (joinL sep ls)))) w) : callE P i_laws_joined #[.slice q n c, .string (bs sep)] R w := by
 refine g_laws_joined.sound ?_
 have hmax : IntKind.i64.max = 9223372036854775807 := rfl
 have hnl := hA.1
 intro X hX
 have hle : ∀ i, i ≤ ls.length → (joinL sep (ls.take i)).length ≤ (joinL sep ls).length := by
  intro i hi
  cases ls with
  | nil => simp [joinL]
  | cons t ts =>
   cases i with
   | zero => simp [joinL]
   | succ i =>
    simp only [List.take_succ_cons, joinL, List.length_append]
    have : (List.take i ts).flatMap (fun u => sep ++ u) ++ (List.drop i ts).flatMap (fun u => sep ++ u) = ts.flatMap (fun u => sep ++ u) := by
     rw [← List.flatMap_append, List.take_append_drop]
    have := congrArg List.length this
    rw [List.length_append] at this; omega
 have key : ∀ k i, i + k = n → X (bs sep) (bs (joinL sep (ls.take i))) q n c (n : Nat) (i : Int) w := by
  intro k
  induction k with
  | zero =>
   intro i hi
   refine hX _ _ _ _ _ _ _ _ (br_false (by simp; omega) ?_)
   rw [List.take_of_length_le (by omega)]; exact hR w h
  | succ k ih =>
   intro i hi
   have hil : i < ls.length := by omega
   obtain ⟨a, rfl, ha⟩ := hA.2 i hil
   have hst : joinL sep (ls.take (i + 1)) = if i = 0 then ls[i] else joinL sep (ls.take i) ++ (sep ++ ls[i]) := by
    rw [List.take_succ_eq_append_getElem hil, joinL_snoc]
    by_cases h0 : i = 0
    ·subst h0; simp
    ·rw [if_neg (by intro h1; have := congrArg List.length h1; rw [List.length_take, List.length_nil] at this; omega), if_neg h0]
   have hl1 := hle (i + 1) (by omega)
   have next := ih (i + 1) (by omega)
   refine hX _ _ _ _ _ _ _ _ (br_true (by simp; omega) ⟨by omega, by omega, nilP_some ?_⟩)
   rw [Int.toNat_natCast, Nat.mul_one]
   refine ⟨_, ha w h, ?_⟩
   by_cases h0 : i = 0
   ·subst h0
    rw [if_pos rfl] at hst
    rw [hst] at hl1 next
    refine br_false rfl ⟨?_, ?_⟩
    ·rw [hmax, bs_size, bs_size]
     show ((([] : List UInt8).length + ls[0].length : Nat) : Int) ≤ _
     simp only [List.length_nil]; omega
    ·rw [bs_append, i64_inc (by omega)]
     simpa [joinL] using next
   ·rw [if_neg h0] at hst
    rw [hst] at hl1 next
    simp only [List.length_append] at hl1
    refine br_true (by simp; omega) ⟨?_, ?_⟩
    ·rw [hmax, bs_size, bs_size]
     have h3 := hle i (by omega)
     omega
    ·refine ⟨?_, ?_⟩
     ·rw [hmax, bs_append, bs_size, bs_size, List.length_append]; omega
     ·rw [bs_append, bs_append, i64_inc (by omega), List.append_assoc]
      exact next
 exact key n 0 (by omega)
end Go.Proofs.YtgbgadkldalkbaaGreatDoor


namespace Go.Proofs.YtgbgadkldalkbaaGreatDoor
open Go.Proofs
def LArg (σ : Out) (L : List Chunk) (q : Option Addr) (n : Nat) (vs : List Bool) : Prop :=
 n = vs.length ∧ ∀ i (hi : i < vs.length), ∃ a, q = some a ∧ ∀ w, Sat σ w L → w.cell? (a.add i) = some (.bool vs[i])
end Go.Proofs.YtgbgadkldalkbaaGreatDoor


set_option linter.unusedVariables false
namespace Go.Proofs.YtgbgadkldalkbaaGreatDoor
open Go.Proofs
def BArg (σ : Out) (L : List Chunk) (q : Option Addr) (n : Nat) (vs : List UInt8) : Prop :=
 n = vs.length ∧ ∀ i (hi : i < vs.length), ∃ a, q = some a ∧ ∀ w, Sat σ w L → w.cell? (a.add i) = some (.int .u8 (vs[i].toNat : Int))
end Go.Proofs.YtgbgadkldalkbaaGreatDoor


set_option linter.unusedVariables false
set_option maxRecDepth 20000
namespace Go.Proofs.YtgbgadkldalkbaaGreatDoor
open Go.Proofs
namespace g_itemBuilder_extend
noncomputable def body : Code := bodyOf Tryz.f402
def k1 (R : EP) (x0 : OA) (x5 x6 : Nat) (w : World) : Prop :=
 callE P i_line_isBlank #[.pointer (some ⟨x5, 0, none⟩)] (fun e w25 => ∃ (r24 : Bool), e = .returned (.bool r24) ∧
 br r24
 (stV w25 ⟨x6, 0, none⟩ (.int .i64 0) fun w26 =>
 stV w26 ⟨x6, 1, none⟩ (.int .i64 0) fun w27 =>
 stV w27 ⟨x6, 2, none⟩ (.int .i64 0) fun w28 =>
 stV w28 ⟨x6, 3, none⟩ (.string (ByteArray.mk #[])) fun w29 =>
 stV w29 ⟨x6, 4, none⟩ (.int .u8 0) fun w30 =>
 ∃ (v31 : Int), w30.cell? ⟨x6, 0, none⟩ = some (.int .i64 v31) ∧
 ∃ (v32 : Int), w30.cell? ⟨x6, 1, none⟩ = some (.int .i64 v32) ∧
 ∃ (v33 : Int), w30.cell? ⟨x6, 2, none⟩ = some (.int .i64 v33) ∧
 ∃ (v34 : BA), w30.cell? ⟨x6, 3, none⟩ = some (.string v34) ∧
 ∃ (v35 : Int), w30.cell? ⟨x6, 4, none⟩ = some (.int .u8 v35) ∧
 R (.returned (.tuple #[.agg #[.int .i64 v31, .int .i64 v32, .int .i64 v33, .string v34, .int .u8 v35], .bool true])) w30)
 (callE P i_line_isBlank #[.pointer (some ⟨x5, 0, none⟩)] (fun e w37 => ∃ (r36 : Bool), e = .returned (.bool r36) ∧
 br (!r36)
 (nilP x0 fun a38 =>
 stV w37 ((a38.add 2).add 0) (.bool true) fun w39 =>
 ∃ (v40 : Int), w39.cell? ⟨x5, 0, none⟩ = some (.int .i64 v40) ∧
 ∃ (v41 : Int), w39.cell? ⟨x5, 1, none⟩ = some (.int .i64 v41) ∧
 ∃ (v42 : Int), w39.cell? ⟨x5, 2, none⟩ = some (.int .i64 v42) ∧
 ∃ (v43 : BA), w39.cell? ⟨x5, 3, none⟩ = some (.string v43) ∧
 ∃ (v44 : Int), w39.cell? ⟨x5, 4, none⟩ = some (.int .u8 v44) ∧
 stV w39 ⟨x6, 0, none⟩ (.int .i64 v40) fun w45 =>
 stV w45 ⟨x6, 1, none⟩ (.int .i64 v41) fun w46 =>
 stV w46 ⟨x6, 2, none⟩ (.int .i64 v42) fun w47 =>
 stV w47 ⟨x6, 3, none⟩ (.string v43) fun w48 =>
 stV w48 ⟨x6, 4, none⟩ (.int .u8 v44) fun w49 =>
 ∃ (v50 : Int), w49.cell? ⟨x6, 0, none⟩ = some (.int .i64 v50) ∧
 ∃ (v51 : Int), w49.cell? ⟨x6, 1, none⟩ = some (.int .i64 v51) ∧
 ∃ (v52 : Int), w49.cell? ⟨x6, 2, none⟩ = some (.int .i64 v52) ∧
 ∃ (v53 : BA), w49.cell? ⟨x6, 3, none⟩ = some (.string v53) ∧
 ∃ (v54 : Int), w49.cell? ⟨x6, 4, none⟩ = some (.int .u8 v54) ∧
 R (.returned (.tuple #[.agg #[.int .i64 v50, .int .i64 v51, .int .i64 v52, .string v53, .int .u8 v54], .bool true])) w49)
 (∃ (v55 : Int), w37.cell? ⟨x5, 0, none⟩ = some (.int .i64 v55) ∧
 ∃ (v56 : Int), w37.cell? ⟨x5, 1, none⟩ = some (.int .i64 v56) ∧
 ∃ (v57 : Int), w37.cell? ⟨x5, 2, none⟩ = some (.int .i64 v57) ∧
 ∃ (v58 : BA), w37.cell? ⟨x5, 3, none⟩ = some (.string v58) ∧
 ∃ (v59 : Int), w37.cell? ⟨x5, 4, none⟩ = some (.int .u8 v59) ∧
 stV w37 ⟨x6, 0, none⟩ (.int .i64 v55) fun w60 =>
 stV w60 ⟨x6, 1, none⟩ (.int .i64 v56) fun w61 =>
 stV w61 ⟨x6, 2, none⟩ (.int .i64 v57) fun w62 =>
 stV w62 ⟨x6, 3, none⟩ (.string v58) fun w63 =>
 stV w63 ⟨x6, 4, none⟩ (.int .u8 v59) fun w64 =>
 ∃ (v65 : Int), w64.cell? ⟨x6, 0, none⟩ = some (.int .i64 v65) ∧
 ∃ (v66 : Int), w64.cell? ⟨x6, 1, none⟩ = some (.int .i64 v66) ∧
 ∃ (v67 : Int), w64.cell? ⟨x6, 2, none⟩ = some (.int .i64 v67) ∧
 ∃ (v68 : BA), w64.cell? ⟨x6, 3, none⟩ = some (.string v68) ∧
 ∃ (v69 : Int), w64.cell? ⟨x6, 4, none⟩ = some (.int .u8 v69) ∧
 R (.returned (.tuple #[.agg #[.int .i64 v65, .int .i64 v66, .int .i64 v67, .string v68, .int .u8 v69], .bool true])) w64)) w25)) w

end g_itemBuilder_extend
def g_itemBuilder_extend (R : EP) (x0 x1 : OA) (x2_0 x2_1 x2_2 : Int) (x2_3 : BA) (x2_4 : Int) (w : World) : Prop :=
 box w #[.int .i64 x2_0, .int .i64 x2_1, .int .i64 x2_2, .string x2_3, .int .u8 x2_4] ty_line fun b1 w2 =>
 box w2 #[.int .i64 0, .int .i64 0, .int .i64 0, .string (ByteArray.mk #[]), .int .u8 0] ty_line fun b3 w4 =>
 callE P i_line_isBlank #[.pointer (some ⟨b1, 0, none⟩)] (fun e w6 => ∃ (r5 : Bool), e = .returned (.bool r5) ∧
 br r5
 (nilP x0 fun a7 =>
 ∃ (v8 : Bool), w6.cell? (a7.add 2) = some (.bool v8) ∧
 br (!v8)
 (∃ (v9 : Int), w6.cell? ⟨b1, 0, none⟩ = some (.int .i64 v9) ∧
 ∃ (v10 : Int), w6.cell? ⟨b1, 1, none⟩ = some (.int .i64 v10) ∧
 ∃ (v11 : Int), w6.cell? ⟨b1, 2, none⟩ = some (.int .i64 v11) ∧
 ∃ (v12 : BA), w6.cell? ⟨b1, 3, none⟩ = some (.string v12) ∧
 ∃ (v13 : Int), w6.cell? ⟨b1, 4, none⟩ = some (.int .u8 v13) ∧
 stV w6 ⟨b3, 0, none⟩ (.int .i64 v9) fun w14 =>
 stV w14 ⟨b3, 1, none⟩ (.int .i64 v10) fun w15 =>
 stV w15 ⟨b3, 2, none⟩ (.int .i64 v11) fun w16 =>
 stV w16 ⟨b3, 3, none⟩ (.string v12) fun w17 =>
 stV w17 ⟨b3, 4, none⟩ (.int .u8 v13) fun w18 =>
 ∃ (v19 : Int), w18.cell? ⟨b3, 0, none⟩ = some (.int .i64 v19) ∧
 ∃ (v20 : Int), w18.cell? ⟨b3, 1, none⟩ = some (.int .i64 v20) ∧
 ∃ (v21 : Int), w18.cell? ⟨b3, 2, none⟩ = some (.int .i64 v21) ∧
 ∃ (v22 : BA), w18.cell? ⟨b3, 3, none⟩ = some (.string v22) ∧
 ∃ (v23 : Int), w18.cell? ⟨b3, 4, none⟩ = some (.int .u8 v23) ∧
 R (.returned (.tuple #[.agg #[.int .i64 v19, .int .i64 v20, .int .i64 v21, .string v22, .int .u8 v23], .bool false])) w18)
 (g_itemBuilder_extend.k1 R x0 b1 b3 w6))
 (g_itemBuilder_extend.k1 R x0 b1 b3 w6)) w4

namespace g_itemBuilder_extend
noncomputable def ac (R : EP) : AC :=
 (.seq (.leaf (sel [0] body)) (.seq (.leaf (sel [1,0] body)) (.mark (leaf [(0, .s .ptr), (5, .s .loc), (6, .s .loc)] (k1 R)) (.leaf (sel [1,1] body)))))
theorem good (R : EP) : Good P 25 (ac R) (QF P [.cell 6 159, .tmp 7] R) :=
 ⟨trivial, ⟨trivial, ⟨trivial, cutZ⟩⟩⟩
theorem eq (R : EP) (x0 x1 : OA) (x2_0 x2_1 x2_2 : Int) (x2_3 : BA) (x2_4 : Int) (w : World) : g_itemBuilder_extend R x0 x1 x2_0 x2_1 x2_2 x2_3 x2_4 w = vcA P 25 (ac R) (QF P [.cell 6 159, .tmp 7] R) (fr0 [.pointer x0, .pointer x1, .agg #[.int .i64 x2_0, .int .i64 x2_1, .int .i64 x2_2, .string x2_3, .int .u8 x2_4]]) w := by kernel_rfl
theorem sound {R : EP} {x0 x1 : OA} {x2_0 x2_1 x2_2 : Int} {x2_3 : ByteArray} {x2_4 : Int} {w : World} (h : g_itemBuilder_extend R x0 x1 x2_0 x2_1 x2_2 x2_3 x2_4 w) : callE P i_itemBuilder_extend #[.pointer x0, .pointer x1, .agg #[.int .i64 x2_0, .int .i64 x2_1, .int .i64 x2_2, .string x2_3, .int .u8 x2_4]] R w :=
 callE_fz (c := body) Tryz.func402 Tryz.call402 (good R) (eq R x0 x1 x2_0 x2_1 x2_2 x2_3 x2_4 w) h
end g_itemBuilder_extend
namespace g_quoteBuilder_extend
noncomputable def body : Code := bodyOf Tryz.f398
end g_quoteBuilder_extend
def g_quoteBuilder_extend (R : EP) (x0 x1 : OA) (x2_0 x2_1 x2_2 : Int) (x2_3 : BA) (x2_4 : Int) (w : World) : Prop :=
 box w #[.int .i64 x2_0, .int .i64 x2_1, .int .i64 x2_2, .string x2_3, .int .u8 x2_4] ty_line fun b1 w2 =>
 box w2 #[.int .i64 0, .int .i64 0, .int .i64 0, .string (ByteArray.mk #[]), .int .u8 0] ty_line fun b3 w4 =>
 ∃ (v5 : Int), w4.cell? ⟨b1, 0, none⟩ = some (.int .i64 v5) ∧
 ∃ (v6 : Int), w4.cell? ⟨b1, 1, none⟩ = some (.int .i64 v6) ∧
 ∃ (v7 : Int), w4.cell? ⟨b1, 2, none⟩ = some (.int .i64 v7) ∧
 ∃ (v8 : BA), w4.cell? ⟨b1, 3, none⟩ = some (.string v8) ∧
 ∃ (v9 : Int), w4.cell? ⟨b1, 4, none⟩ = some (.int .u8 v9) ∧
 callE P i_trimQuote #[.agg #[.int .i64 v5, .int .i64 v6, .int .i64 v7, .string v8, .int .u8 v9]] (fun e w11 => ∃ (r10_0_0 : Int), ∃ (r10_0_1 : Int), ∃ (r10_0_2 : Int), ∃ (r10_0_3 : BA), ∃ (r10_0_4 : Int), ∃ (r10_1 : Bool), e = .returned (.tuple #[.agg #[.int .i64 r10_0_0, .int .i64 r10_0_1, .int .i64 r10_0_2, .string r10_0_3, .int .u8 r10_0_4], .bool r10_1]) ∧
 stV w11 ⟨b3, 0, none⟩ (.int .i64 r10_0_0) fun w12 =>
 stV w12 ⟨b3, 1, none⟩ (.int .i64 r10_0_1) fun w13 =>
 stV w13 ⟨b3, 2, none⟩ (.int .i64 r10_0_2) fun w14 =>
 stV w14 ⟨b3, 3, none⟩ (.string r10_0_3) fun w15 =>
 stV w15 ⟨b3, 4, none⟩ (.int .u8 r10_0_4) fun w16 =>
 ∃ (v17 : Int), w16.cell? ⟨b3, 0, none⟩ = some (.int .i64 v17) ∧
 ∃ (v18 : Int), w16.cell? ⟨b3, 1, none⟩ = some (.int .i64 v18) ∧
 ∃ (v19 : Int), w16.cell? ⟨b3, 2, none⟩ = some (.int .i64 v19) ∧
 ∃ (v20 : BA), w16.cell? ⟨b3, 3, none⟩ = some (.string v20) ∧
 ∃ (v21 : Int), w16.cell? ⟨b3, 4, none⟩ = some (.int .u8 v21) ∧
 R (.returned (.tuple #[.agg #[.int .i64 v17, .int .i64 v18, .int .i64 v19, .string v20, .int .u8 v21], .bool r10_1])) w16) w4

namespace g_quoteBuilder_extend
noncomputable def ac (R : EP) : AC :=
 (.leaf (sel [] body))
theorem good (R : EP) : Good P 12 (ac R) (QF P [.cell 6 159, .tmp 7] R) :=
 trivial
theorem eq (R : EP) (x0 x1 : OA) (x2_0 x2_1 x2_2 : Int) (x2_3 : BA) (x2_4 : Int) (w : World) : g_quoteBuilder_extend R x0 x1 x2_0 x2_1 x2_2 x2_3 x2_4 w = vcA P 12 (ac R) (QF P [.cell 6 159, .tmp 7] R) (fr0 [.pointer x0, .pointer x1, .agg #[.int .i64 x2_0, .int .i64 x2_1, .int .i64 x2_2, .string x2_3, .int .u8 x2_4]]) w := by kernel_rfl
theorem sound {R : EP} {x0 x1 : OA} {x2_0 x2_1 x2_2 : Int} {x2_3 : ByteArray} {x2_4 : Int} {w : World} (h : g_quoteBuilder_extend R x0 x1 x2_0 x2_1 x2_2 x2_3 x2_4 w) : callE P i_quoteBuilder_extend #[.pointer x0, .pointer x1, .agg #[.int .i64 x2_0, .int .i64 x2_1, .int .i64 x2_2, .string x2_3, .int .u8 x2_4]] R w :=
 callE_fz (c := body) Tryz.func398 Tryz.call398 (good R) (eq R x0 x1 x2_0 x2_1 x2_2 x2_3 x2_4 w) h
end g_quoteBuilder_extend
namespace g_listBuilder_extend
noncomputable def body : Code := bodyOf Tryz.f400
end g_listBuilder_extend
def g_listBuilder_extend (R : EP) (x0 x1 : OA) (x2_0 x2_1 x2_2 : Int) (x2_3 : BA) (x2_4 : Int) (w : World) : Prop :=
 box w #[.int .i64 x2_0, .int .i64 x2_1, .int .i64 x2_2, .string x2_3, .int .u8 x2_4] ty_line fun b1 w2 =>
 box w2 #[.int .i64 0, .int .i64 0, .int .i64 0, .string (ByteArray.mk #[]), .int .u8 0] ty_line fun b3 w4 =>
 nilP x0 fun a5 =>
 ∃ (v6 : OA), w4.cell? (a5.add 3) = some (.pointer v6) ∧
 tk w4 fun w7 =>
 ∃ (r8 : Bool), (∀ w, (do eqGuard .neq ty_P_itemBuilder (.tmp 13) (.const (.pointer none)) (.pointer v6) (.pointer none); binOp .neq ty_P_itemBuilder (.pointer v6) (.pointer none)).run P w = .ok (.bool r8) w) ∧
 br r8
 (nilP v6 fun a9 =>
 nilP v6 fun a10 =>
 ∃ (v11 : Int), w7.cell? (a9.add 1) = some (.int .i64 v11) ∧
 ∃ (v12 : Int), w7.cell? (a10.add 1) = some (.int .i64 v12) ∧
 callE P i_line_trimSpace #[.pointer (some ⟨b1, 0, none⟩), .int .i64 v11, .int .i64 v12, .bool true] (fun e w14 => ∃ (r13 : Bool), e = .returned (.bool r13) ∧
 br r13
 (∃ (v15 : Int), w14.cell? ⟨b1, 0, none⟩ = some (.int .i64 v15) ∧
 ∃ (v16 : Int), w14.cell? ⟨b1, 1, none⟩ = some (.int .i64 v16) ∧
 ∃ (v17 : Int), w14.cell? ⟨b1, 2, none⟩ = some (.int .i64 v17) ∧
 ∃ (v18 : BA), w14.cell? ⟨b1, 3, none⟩ = some (.string v18) ∧
 ∃ (v19 : Int), w14.cell? ⟨b1, 4, none⟩ = some (.int .u8 v19) ∧
 stV w14 ⟨b3, 0, none⟩ (.int .i64 v15) fun w20 =>
 stV w20 ⟨b3, 1, none⟩ (.int .i64 v16) fun w21 =>
 stV w21 ⟨b3, 2, none⟩ (.int .i64 v17) fun w22 =>
 stV w22 ⟨b3, 3, none⟩ (.string v18) fun w23 =>
 stV w23 ⟨b3, 4, none⟩ (.int .u8 v19) fun w24 =>
 ∃ (v25 : Int), w24.cell? ⟨b3, 0, none⟩ = some (.int .i64 v25) ∧
 ∃ (v26 : Int), w24.cell? ⟨b3, 1, none⟩ = some (.int .i64 v26) ∧
 ∃ (v27 : Int), w24.cell? ⟨b3, 2, none⟩ = some (.int .i64 v27) ∧
 ∃ (v28 : BA), w24.cell? ⟨b3, 3, none⟩ = some (.string v28) ∧
 ∃ (v29 : Int), w24.cell? ⟨b3, 4, none⟩ = some (.int .u8 v29) ∧
 R (.returned (.tuple #[.agg #[.int .i64 v25, .int .i64 v26, .int .i64 v27, .string v28, .int .u8 v29], .bool true])) w24)
 (∃ (r30 : Bool), (∀ w, (do eqGuard .eql ty_P_itemBuilder (.tmp 27) (.const (.pointer none)) (.pointer v6) (.pointer none); binOp .eql ty_P_itemBuilder (.pointer v6) (.pointer none)).run P w = .ok (.bool r30) w) ∧
 br r30
 (callE P i_line_isBlank #[.pointer (some ⟨b1, 0, none⟩)] (fun e w32 => ∃ (r31 : Bool), e = .returned (.bool r31) ∧
 br r31
 (∃ (v33 : Int), w32.cell? ⟨b1, 0, none⟩ = some (.int .i64 v33) ∧
 ∃ (v34 : Int), w32.cell? ⟨b1, 1, none⟩ = some (.int .i64 v34) ∧
 ∃ (v35 : Int), w32.cell? ⟨b1, 2, none⟩ = some (.int .i64 v35) ∧
 ∃ (v36 : BA), w32.cell? ⟨b1, 3, none⟩ = some (.string v36) ∧
 ∃ (v37 : Int), w32.cell? ⟨b1, 4, none⟩ = some (.int .u8 v37) ∧
 stV w32 ⟨b3, 0, none⟩ (.int .i64 v33) fun w38 =>
 stV w38 ⟨b3, 1, none⟩ (.int .i64 v34) fun w39 =>
 stV w39 ⟨b3, 2, none⟩ (.int .i64 v35) fun w40 =>
 stV w40 ⟨b3, 3, none⟩ (.string v36) fun w41 =>
 stV w41 ⟨b3, 4, none⟩ (.int .u8 v37) fun w42 =>
 ∃ (v43 : Int), w42.cell? ⟨b3, 0, none⟩ = some (.int .i64 v43) ∧
 ∃ (v44 : Int), w42.cell? ⟨b3, 1, none⟩ = some (.int .i64 v44) ∧
 ∃ (v45 : Int), w42.cell? ⟨b3, 2, none⟩ = some (.int .i64 v45) ∧
 ∃ (v46 : BA), w42.cell? ⟨b3, 3, none⟩ = some (.string v46) ∧
 ∃ (v47 : Int), w42.cell? ⟨b3, 4, none⟩ = some (.int .u8 v47) ∧
 R (.returned (.tuple #[.agg #[.int .i64 v43, .int .i64 v44, .int .i64 v45, .string v46, .int .u8 v47], .bool true])) w42)
 (∃ (v48 : Int), w32.cell? ⟨b1, 0, none⟩ = some (.int .i64 v48) ∧
 ∃ (v49 : Int), w32.cell? ⟨b1, 1, none⟩ = some (.int .i64 v49) ∧
 ∃ (v50 : Int), w32.cell? ⟨b1, 2, none⟩ = some (.int .i64 v50) ∧
 ∃ (v51 : BA), w32.cell? ⟨b1, 3, none⟩ = some (.string v51) ∧
 ∃ (v52 : Int), w32.cell? ⟨b1, 4, none⟩ = some (.int .u8 v52) ∧
 stV w32 ⟨b3, 0, none⟩ (.int .i64 v48) fun w53 =>
 stV w53 ⟨b3, 1, none⟩ (.int .i64 v49) fun w54 =>
 stV w54 ⟨b3, 2, none⟩ (.int .i64 v50) fun w55 =>
 stV w55 ⟨b3, 3, none⟩ (.string v51) fun w56 =>
 stV w56 ⟨b3, 4, none⟩ (.int .u8 v52) fun w57 =>
 ∃ (v58 : Int), w57.cell? ⟨b3, 0, none⟩ = some (.int .i64 v58) ∧
 ∃ (v59 : Int), w57.cell? ⟨b3, 1, none⟩ = some (.int .i64 v59) ∧
 ∃ (v60 : Int), w57.cell? ⟨b3, 2, none⟩ = some (.int .i64 v60) ∧
 ∃ (v61 : BA), w57.cell? ⟨b3, 3, none⟩ = some (.string v61) ∧
 ∃ (v62 : Int), w57.cell? ⟨b3, 4, none⟩ = some (.int .u8 v62) ∧
 R (.returned (.tuple #[.agg #[.int .i64 v58, .int .i64 v59, .int .i64 v60, .string v61, .int .u8 v62], .bool false])) w57)) w14)
 (∃ (v63 : Int), w14.cell? ⟨b1, 0, none⟩ = some (.int .i64 v63) ∧
 ∃ (v64 : Int), w14.cell? ⟨b1, 1, none⟩ = some (.int .i64 v64) ∧
 ∃ (v65 : Int), w14.cell? ⟨b1, 2, none⟩ = some (.int .i64 v65) ∧
 ∃ (v66 : BA), w14.cell? ⟨b1, 3, none⟩ = some (.string v66) ∧
 ∃ (v67 : Int), w14.cell? ⟨b1, 4, none⟩ = some (.int .u8 v67) ∧
 stV w14 ⟨b3, 0, none⟩ (.int .i64 v63) fun w68 =>
 stV w68 ⟨b3, 1, none⟩ (.int .i64 v64) fun w69 =>
 stV w69 ⟨b3, 2, none⟩ (.int .i64 v65) fun w70 =>
 stV w70 ⟨b3, 3, none⟩ (.string v66) fun w71 =>
 stV w71 ⟨b3, 4, none⟩ (.int .u8 v67) fun w72 =>
 ∃ (v73 : Int), w72.cell? ⟨b3, 0, none⟩ = some (.int .i64 v73) ∧
 ∃ (v74 : Int), w72.cell? ⟨b3, 1, none⟩ = some (.int .i64 v74) ∧
 ∃ (v75 : Int), w72.cell? ⟨b3, 2, none⟩ = some (.int .i64 v75) ∧
 ∃ (v76 : BA), w72.cell? ⟨b3, 3, none⟩ = some (.string v76) ∧
 ∃ (v77 : Int), w72.cell? ⟨b3, 4, none⟩ = some (.int .u8 v77) ∧
 R (.returned (.tuple #[.agg #[.int .i64 v73, .int .i64 v74, .int .i64 v75, .string v76, .int .u8 v77], .bool false])) w72))) w7)
 (∃ (r78 : Bool), (∀ w, (do eqGuard .eql ty_P_itemBuilder (.tmp 27) (.const (.pointer none)) (.pointer v6) (.pointer none); binOp .eql ty_P_itemBuilder (.pointer v6) (.pointer none)).run P w = .ok (.bool r78) w) ∧
 br r78
 (callE P i_line_isBlank #[.pointer (some ⟨b1, 0, none⟩)] (fun e w80 => ∃ (r79 : Bool), e = .returned (.bool r79) ∧
 br r79
 (∃ (v81 : Int), w80.cell? ⟨b1, 0, none⟩ = some (.int .i64 v81) ∧
 ∃ (v82 : Int), w80.cell? ⟨b1, 1, none⟩ = some (.int .i64 v82) ∧
 ∃ (v83 : Int), w80.cell? ⟨b1, 2, none⟩ = some (.int .i64 v83) ∧
 ∃ (v84 : BA), w80.cell? ⟨b1, 3, none⟩ = some (.string v84) ∧
 ∃ (v85 : Int), w80.cell? ⟨b1, 4, none⟩ = some (.int .u8 v85) ∧
 stV w80 ⟨b3, 0, none⟩ (.int .i64 v81) fun w86 =>
 stV w86 ⟨b3, 1, none⟩ (.int .i64 v82) fun w87 =>
 stV w87 ⟨b3, 2, none⟩ (.int .i64 v83) fun w88 =>
 stV w88 ⟨b3, 3, none⟩ (.string v84) fun w89 =>
 stV w89 ⟨b3, 4, none⟩ (.int .u8 v85) fun w90 =>
 ∃ (v91 : Int), w90.cell? ⟨b3, 0, none⟩ = some (.int .i64 v91) ∧
 ∃ (v92 : Int), w90.cell? ⟨b3, 1, none⟩ = some (.int .i64 v92) ∧
 ∃ (v93 : Int), w90.cell? ⟨b3, 2, none⟩ = some (.int .i64 v93) ∧
 ∃ (v94 : BA), w90.cell? ⟨b3, 3, none⟩ = some (.string v94) ∧
 ∃ (v95 : Int), w90.cell? ⟨b3, 4, none⟩ = some (.int .u8 v95) ∧
 R (.returned (.tuple #[.agg #[.int .i64 v91, .int .i64 v92, .int .i64 v93, .string v94, .int .u8 v95], .bool true])) w90)
 (∃ (v96 : Int), w80.cell? ⟨b1, 0, none⟩ = some (.int .i64 v96) ∧
 ∃ (v97 : Int), w80.cell? ⟨b1, 1, none⟩ = some (.int .i64 v97) ∧
 ∃ (v98 : Int), w80.cell? ⟨b1, 2, none⟩ = some (.int .i64 v98) ∧
 ∃ (v99 : BA), w80.cell? ⟨b1, 3, none⟩ = some (.string v99) ∧
 ∃ (v100 : Int), w80.cell? ⟨b1, 4, none⟩ = some (.int .u8 v100) ∧
 stV w80 ⟨b3, 0, none⟩ (.int .i64 v96) fun w101 =>
 stV w101 ⟨b3, 1, none⟩ (.int .i64 v97) fun w102 =>
 stV w102 ⟨b3, 2, none⟩ (.int .i64 v98) fun w103 =>
 stV w103 ⟨b3, 3, none⟩ (.string v99) fun w104 =>
 stV w104 ⟨b3, 4, none⟩ (.int .u8 v100) fun w105 =>
 ∃ (v106 : Int), w105.cell? ⟨b3, 0, none⟩ = some (.int .i64 v106) ∧
 ∃ (v107 : Int), w105.cell? ⟨b3, 1, none⟩ = some (.int .i64 v107) ∧
 ∃ (v108 : Int), w105.cell? ⟨b3, 2, none⟩ = some (.int .i64 v108) ∧
 ∃ (v109 : BA), w105.cell? ⟨b3, 3, none⟩ = some (.string v109) ∧
 ∃ (v110 : Int), w105.cell? ⟨b3, 4, none⟩ = some (.int .u8 v110) ∧
 R (.returned (.tuple #[.agg #[.int .i64 v106, .int .i64 v107, .int .i64 v108, .string v109, .int .u8 v110], .bool false])) w105)) w7)
 (∃ (v111 : Int), w7.cell? ⟨b1, 0, none⟩ = some (.int .i64 v111) ∧
 ∃ (v112 : Int), w7.cell? ⟨b1, 1, none⟩ = some (.int .i64 v112) ∧
 ∃ (v113 : Int), w7.cell? ⟨b1, 2, none⟩ = some (.int .i64 v113) ∧
 ∃ (v114 : BA), w7.cell? ⟨b1, 3, none⟩ = some (.string v114) ∧
 ∃ (v115 : Int), w7.cell? ⟨b1, 4, none⟩ = some (.int .u8 v115) ∧
 stV w7 ⟨b3, 0, none⟩ (.int .i64 v111) fun w116 =>
 stV w116 ⟨b3, 1, none⟩ (.int .i64 v112) fun w117 =>
 stV w117 ⟨b3, 2, none⟩ (.int .i64 v113) fun w118 =>
 stV w118 ⟨b3, 3, none⟩ (.string v114) fun w119 =>
 stV w119 ⟨b3, 4, none⟩ (.int .u8 v115) fun w120 =>
 ∃ (v121 : Int), w120.cell? ⟨b3, 0, none⟩ = some (.int .i64 v121) ∧
 ∃ (v122 : Int), w120.cell? ⟨b3, 1, none⟩ = some (.int .i64 v122) ∧
 ∃ (v123 : Int), w120.cell? ⟨b3, 2, none⟩ = some (.int .i64 v123) ∧
 ∃ (v124 : BA), w120.cell? ⟨b3, 3, none⟩ = some (.string v124) ∧
 ∃ (v125 : Int), w120.cell? ⟨b3, 4, none⟩ = some (.int .u8 v125) ∧
 R (.returned (.tuple #[.agg #[.int .i64 v121, .int .i64 v122, .int .i64 v123, .string v124, .int .u8 v125], .bool false])) w120))

namespace g_listBuilder_extend
noncomputable def ac (R : EP) : AC :=
 (.seq (.leaf (sel [0] body)) (.seq (.leaf (sel [1,0] body)) (.seq (.seq (.draw (.pure 0 (.pure 1 (.pure 2 (.pure 3 (.pure 4 (.pure 5 (.pure 7 (.pure 8 (.pure 9 (.load 6 (.load 10 (.one 11 (.pure 12 (.pure 13 (.pure 14 (.pure 15 (.pure 16 (.one 17 (.pure 18 (.pure 19 .done)))))))))))))))))))) (sel [1,1,0,0] body)) (.leaf (sel [1,1,0,1] body))) (.leaf (sel [1,1,1] body)))))
theorem good (R : EP) : Good P 35 (ac R) (QF P [.cell 6 159, .tmp 7] R) :=
 ⟨trivial, ⟨trivial, ⟨⟨⟨by kernel_rfl, by kernel_rfl, fun _ _ _ h => h⟩, trivial⟩, trivial⟩⟩⟩
theorem eq (R : EP) (x0 x1 : OA) (x2_0 x2_1 x2_2 : Int) (x2_3 : BA) (x2_4 : Int) (w : World) : g_listBuilder_extend R x0 x1 x2_0 x2_1 x2_2 x2_3 x2_4 w = vcA P 35 (ac R) (QF P [.cell 6 159, .tmp 7] R) (fr0 [.pointer x0, .pointer x1, .agg #[.int .i64 x2_0, .int .i64 x2_1, .int .i64 x2_2, .string x2_3, .int .u8 x2_4]]) w := by kernel_rfl
theorem sound {R : EP} {x0 x1 : OA} {x2_0 x2_1 x2_2 : Int} {x2_3 : ByteArray} {x2_4 : Int} {w : World} (h : g_listBuilder_extend R x0 x1 x2_0 x2_1 x2_2 x2_3 x2_4 w) : callE P i_listBuilder_extend #[.pointer x0, .pointer x1, .agg #[.int .i64 x2_0, .int .i64 x2_1, .int .i64 x2_2, .string x2_3, .int .u8 x2_4]] R w :=
 callE_fz (c := body) Tryz.func400 Tryz.call400 (good R) (eq R x0 x1 x2_0 x2_1 x2_2 x2_3 x2_4 w) h
end g_listBuilder_extend
namespace g_parseState_startListItem_1
noncomputable def body : Code := bodyOf Tryz.f231
end g_parseState_startListItem_1
def g_parseState_startListItem_1 (R : EP) (x0 x1 : Nat) (x2 x3 : Nat) (w : World) : Prop :=
 box w #[.int .i64 0, .int .i64 0, .int .i64 0, .string (ByteArray.mk #[]), .int .u8 0] ty_line fun b1 w2 =>
 ∃ (v3 : OA), w2.cell? ⟨x0, 0, none⟩ = some (.pointer v3) ∧
 ∃ (v4 : OA), w2.cell? ⟨x1, 0, none⟩ = some (.pointer v4) ∧
 callE P i_parseState_addBlock #[.pointer v3, .iface ty_P_itemBuilder (.pointer v4)] (fun e w6 => e = .returned (.tuple #[]) ∧
 ∃ (v7 : OA), w6.cell? ⟨x2, 0, none⟩ = some (.pointer v7) ∧
 ∃ (v8 : OA), w6.cell? ⟨x1, 0, none⟩ = some (.pointer v8) ∧
 nilP v7 fun a9 =>
 stV w6 ((a9.add 3).add 0) (.pointer v8) fun w10 =>
 ∃ (v11 : Int), w10.cell? ⟨x3, 0, none⟩ = some (.int .i64 v11) ∧
 ∃ (v12 : Int), w10.cell? ⟨x3, 1, none⟩ = some (.int .i64 v12) ∧
 ∃ (v13 : Int), w10.cell? ⟨x3, 2, none⟩ = some (.int .i64 v13) ∧
 ∃ (v14 : BA), w10.cell? ⟨x3, 3, none⟩ = some (.string v14) ∧
 ∃ (v15 : Int), w10.cell? ⟨x3, 4, none⟩ = some (.int .u8 v15) ∧
 stV w10 ⟨b1, 0, none⟩ (.int .i64 v11) fun w16 =>
 stV w16 ⟨b1, 1, none⟩ (.int .i64 v12) fun w17 =>
 stV w17 ⟨b1, 2, none⟩ (.int .i64 v13) fun w18 =>
 stV w18 ⟨b1, 3, none⟩ (.string v14) fun w19 =>
 stV w19 ⟨b1, 4, none⟩ (.int .u8 v15) fun w20 =>
 ∃ (v21 : Int), w20.cell? ⟨b1, 0, none⟩ = some (.int .i64 v21) ∧
 ∃ (v22 : Int), w20.cell? ⟨b1, 1, none⟩ = some (.int .i64 v22) ∧
 ∃ (v23 : Int), w20.cell? ⟨b1, 2, none⟩ = some (.int .i64 v23) ∧
 ∃ (v24 : BA), w20.cell? ⟨b1, 3, none⟩ = some (.string v24) ∧
 ∃ (v25 : Int), w20.cell? ⟨b1, 4, none⟩ = some (.int .u8 v25) ∧
 R (.returned (.agg #[.int .i64 v21, .int .i64 v22, .int .i64 v23, .string v24, .int .u8 v25])) w20) w2

namespace g_parseState_startListItem_1
noncomputable def ac (R : EP) : AC :=
 (.leaf (sel [] body))
theorem good (R : EP) : Good P 14 (ac R) (QF P [.cell 4 159] R) :=
 trivial
theorem eq (R : EP) (x0 x1 : Nat) (x2 x3 : Nat) (w : World) : g_parseState_startListItem_1 R x0 x1 x2 x3 w = vcA P 14 (ac R) (QF P [.cell 4 159] R) (fr0 [.pointer (some ⟨x0, 0, none⟩), .pointer (some ⟨x1, 0, none⟩), .pointer (some ⟨x2, 0, none⟩), .pointer (some ⟨x3, 0, none⟩)]) w := by kernel_rfl
theorem sound {R : EP} {x0 x1 : Nat} {x2 x3 : Nat} {w : World} (h : g_parseState_startListItem_1 R x0 x1 x2 x3 w) : callE P i_parseState_startListItem_1 #[.pointer (some ⟨x0, 0, none⟩), .pointer (some ⟨x1, 0, none⟩), .pointer (some ⟨x2, 0, none⟩), .pointer (some ⟨x3, 0, none⟩)] R w :=
 callE_fz (c := body) Tryz.func231 Tryz.call231 (good R) (eq R x0 x1 x2 x3 w) h
end g_parseState_startListItem_1
namespace g_itemBuilder_build
noncomputable def body : Code := bodyOf Tryz.f401
end g_itemBuilder_build
def g_itemBuilder_build (R : EP) (x0 : OA) (x1 : Value) (w : World) : Prop :=
 nilP x0 fun a1 =>
 ∃ (v2 : OA), w.cell? a1 = some (.pointer v2) ∧
 nilP v2 fun a3 =>
 stV w ((a3.add 3).add 0) (.pointer none) fun w4 =>
 tk w4 fun w5 =>
 nilP x0 fun a6 =>
 ∃ (v7 : Int), w5.cell? (a6.add 1) = some (.int .i64 v7) ∧
 enterE P (callMethod x1 "pub-paratext/pub/rscmarkdown.pos" #[]) (fun e w9 => ∃ (r8_0 : Int), ∃ (r8_1 : Int), e = .returned (.agg #[.int .i64 r8_0, .int .i64 r8_1]) ∧
 SameC w5 w9 (a6.add 1) 1 ∧
 enterE P (callMethod x1 "pub-paratext/pub/rscmarkdown.blocks" #[]) (fun e w11 => ∃ (r10q : OA), ∃ (r10n : Nat), ∃ (r10c : Nat), e = .returned (.slice r10q r10n r10c) ∧
 SameC w9 w11 (a6.add 1) 1 ∧
 box w11 #[.int .i64 r8_0, .int .i64 r8_1, .slice r10q r10n r10c, .int .i64 v7] ty_Item fun b12 w13 =>
 R (.returned (.iface ty_P_Item (.pointer (some ⟨b12, 0, none⟩)))) w13) w9) w5

namespace g_itemBuilder_build
noncomputable def ac (R : EP) : AC :=
 (.seq (.leaf (sel [0] body)) (.seq (.leaf (sel [1,0] body)) (.seq (.draw (.pure 0 (.pure 2 (.pure 4 (.pure 5 (.pure 6 (.load 7 (.one 1 (.one 3 (.pure 8 (.one 9 (.pure 10 (.pure 11 .done)))))))))))) (sel [1,1,0] body)) (.leaf (sel [1,1,1] body)))))
theorem good (R : EP) : Good P 22 (ac R) (QF P [.tmp 4] R) :=
 ⟨trivial, ⟨trivial, ⟨⟨by kernel_rfl, by kernel_rfl, fun _ _ _ h => h⟩, trivial⟩⟩⟩
theorem eq (R : EP) (x0 : OA) (x1 : Value) (w : World) : g_itemBuilder_build R x0 x1 w = vcA P 22 (ac R) (QF P [.tmp 4] R) (fr0 [.pointer x0, x1]) w := by kernel_rfl
theorem sound {R : EP} {x0 : OA} {x1 : Value} {w : World} (h : g_itemBuilder_build R x0 x1 w) : callE P i_itemBuilder_build #[.pointer x0, x1] R w :=
 callE_fz (c := body) Tryz.func401 Tryz.call401 (good R) (eq R x0 x1 w) h
end g_itemBuilder_build
namespace g_quoteBuilder_build
noncomputable def body : Code := bodyOf Tryz.f397
end g_quoteBuilder_build
def g_quoteBuilder_build (R : EP) (x0 : OA) (x1 : Value) (w : World) : Prop :=
 enterE P (callMethod x1 "pub-paratext/pub/rscmarkdown.pos" #[]) (fun e w2 => ∃ (r1_0 : Int), ∃ (r1_1 : Int), e = .returned (.agg #[.int .i64 r1_0, .int .i64 r1_1]) ∧
 enterE P (callMethod x1 "pub-paratext/pub/rscmarkdown.blocks" #[]) (fun e w4 => ∃ (r3q : OA), ∃ (r3n : Nat), ∃ (r3c : Nat), e = .returned (.slice r3q r3n r3c) ∧
 box w4 #[.int .i64 r1_0, .int .i64 r1_1, .slice r3q r3n r3c] ty_Quote fun b5 w6 =>
 R (.returned (.iface ty_P_Quote (.pointer (some ⟨b5, 0, none⟩)))) w6) w2) w

namespace g_quoteBuilder_build
noncomputable def ac (R : EP) : AC :=
 (.leaf (sel [] body))
theorem good (R : EP) : Good P 12 (ac R) (QF P [.tmp 4] R) :=
 trivial
theorem eq (R : EP) (x0 : OA) (x1 : Value) (w : World) : g_quoteBuilder_build R x0 x1 w = vcA P 12 (ac R) (QF P [.tmp 4] R) (fr0 [.pointer x0, x1]) w := by kernel_rfl
theorem sound {R : EP} {x0 : OA} {x1 : Value} {w : World} (h : g_quoteBuilder_build R x0 x1 w) : callE P i_quoteBuilder_build #[.pointer x0, x1] R w :=
 callE_fz (c := body) Tryz.func397 Tryz.call397 (good R) (eq R x0 x1 w) h
end g_quoteBuilder_build
namespace g_listBuilder_build
noncomputable def body : Code := bodyOf Tryz.f399
def k3 (R : EP) (x0 : OA) (x1 : Value) (x6 : Nat) (w : World) : Prop :=
 tk w fun w37 =>
 nilP x0 fun a38 =>
 nilP x0 fun a39 =>
 nilP x0 fun a40 =>
 ∃ (v41 : Int), w37.cell? ⟨x6, 0, none⟩ = some (.int .i64 v41) ∧
 ∃ (v42 : Int), w37.cell? ⟨x6, 1, none⟩ = some (.int .i64 v42) ∧
 ∃ (v43 : Int), w37.cell? a38 = some (.int .i32 v43) ∧
 ∃ (v44 : Int), w37.cell? (a39.add 1) = some (.int .i64 v44) ∧
 ∃ (v45 : Bool), w37.cell? (a40.add 2) = some (.bool v45) ∧
 enterE P (callMethod x1 "pub-paratext/pub/rscmarkdown.blocks" #[]) (fun e w47 => ∃ (r46q : OA), ∃ (r46n : Nat), ∃ (r46c : Nat), e = .returned (.slice r46q r46n r46c) ∧
 SameC w37 w47 (a40.add 2) 1 ∧
 SameC w37 w47 (a39.add 1) 1 ∧
 SameC w37 w47 (a38) 1 ∧
 SameC w37 w47 ⟨x6, 0, none⟩ 2 ∧
 box w47 #[.int .i64 v41, .int .i64 v42, .int .i32 v43, .int .i64 v44, .bool v45, .slice r46q r46n r46c] ty_List fun b48 w49 =>
 R (.returned (.iface ty_P_List (.pointer (some ⟨b48, 0, none⟩)))) w49) w37

def bl4 (R : EP) (Xa : OA → Value → Nat → OA → Nat → Nat → Int → Int → WP) (Xb : OA → Value → Nat → OA → OA → Nat → Nat → Int → Int → OA → Nat → Nat → Int → Int → WP) (x0 : OA) (x1 : Value) (x6 : Nat) (x15 x108q : OA) (x108n x108c : Nat) (x109 x110 : Int) (x119q : OA) (x119n x119c : Nat) (x120 x121 : Int) (w : World) : Prop :=
 br (decide (x121 < x120))
 (0 ≤ x121 ∧ x121 < (x119n : Int) ∧
 nilP x119q fun a64 =>
 ∃ (v65 : Value), w.cell? (a64.add (Int.toNat x121 * 1)) = some v65 ∧
 ∃ (r66_0 : OA), ∃ (r66_1 : Bool), ∃ w67, (Instr.typeAssert v65 ty_Block ty_P_Paragraph true).run P w = .ok (.tuple #[.pointer r66_0, .bool r66_1]) w67 ∧
 br r66_1
 (tk w67 fun w68 =>
 nilP x15 fun a69 =>
 nilP r66_0 fun a70 =>
 ∃ (v71q : OA), ∃ (v71n : Nat), ∃ (v71c : Nat), w68.cell? (a69.add 2) = some (.slice v71q v71n v71c) ∧
 ∃ (v72 : OA), w68.cell? (a70.add 2) = some (.pointer v72) ∧
 0 ≤ x121 ∧ x121 < (v71n : Int) ∧
 nilP v71q fun a73 =>
 stV w68 ((a73.add (Int.toNat x121 * 1)).add 0) (.iface ty_P_Text (.pointer v72)) fun w74 =>
 Xb x0 x1 x6 x15 x108q x108n x108c x109 x110 x119q x119n x119c x120 (IntKind.i64.wrap (x121 + 1)) w74)
 (Xb x0 x1 x6 x15 x108q x108n x108c x109 x110 x119q x119n x119c x120 (IntKind.i64.wrap (x121 + 1)) w67))
 (Xa x0 x1 x6 x108q x108n x108c x109 (IntKind.i64.wrap (x110 + 1)) w)
def l4 (R : EP) (Xa : OA → Value → Nat → OA → Nat → Nat → Int → Int → WP) (x0 : OA) (x1 : Value) (x6 : Nat) (x15 x108q : OA) (x108n x108c : Nat) (x109 x110 : Int) (x119q : OA) (x119n x119c : Nat) (x120 x121 : Int) (w : World) : Prop :=
 ∀ X : OA → Value → Nat → OA → OA → Nat → Nat → Int → Int → OA → Nat → Nat → Int → Int → WP, (∀ x0 x1 x6 x15 x108q x108n x108c x109 x110 x119q x119n x119c x120 x121 w, bl4 R Xa X x0 x1 x6 x15 x108q x108n x108c x109 x110 x119q x119n x119c x120 x121 w → X x0 x1 x6 x15 x108q x108n x108c x109 x110 x119q x119n x119c x120 x121 w) → X x0 x1 x6 x15 x108q x108n x108c x109 x110 x119q x119n x119c x120 x121 w

noncomputable def al4 (R : EP) (Xa : OA → Value → Nat → OA → Nat → Nat → Int → Int → WP) (Xb : OA → Value → Nat → OA → OA → Nat → Nat → Int → Int → OA → Nat → Nat → Int → Int → WP) : AC :=
 (.seq (.leaf (sel [1,0,1,1,1,1,1,0,1,0,1,0,0,1,1,0,0,1,1,1,0,0,0] body)) (.seq (.leaf (sel [1,0,1,1,1,1,1,0,1,0,1,0,0,1,1,0,0,1,1,1,0,0,1,0] body)) (.seq (.block 7 (.seq (.leaf (sel [1,0,1,1,1,1,1,0,1,0,1,0,0,1,1,0,0,1,1,1,0,0,1,1,0,0,0] body)) (.seq (.leaf (sel [1,0,1,1,1,1,1,0,1,0,1,0,0,1,1,0,0,1,1,1,0,0,1,1,0,0,1,0] body)) (.seq (.leaf (sel [1,0,1,1,1,1,1,0,1,0,1,0,0,1,1,0,0,1,1,1,0,0,1,1,0,0,1,1,0] body)) (.cond 131 (.draw (.pure 0 (.pure 1 (.pure 2 (.pure 4 (.pure 5 (.pure 6 (.pure 7 (.load 3 (.load 8 (.pure 9 (.pure 10 (.one 11 .done)))))))))))) (sel [1,0,1,1,1,1,1,0,1,0,1,0,0,1,1,0,0,1,1,1,0,0,1,1,0,0,1,1,1,0] body)) (.leaf (sel [1,0,1,1,1,1,1,0,1,0,1,0,0,1,1,0,0,1,1,1,0,0,1,1,0,0,1,1,1,1] body))))))) (.leaf (sel [1,0,1,1,1,1,1,0,1,0,1,0,0,1,1,0,0,1,1,1,0,0,1,1,1] body)))))
def bl2 (R : EP) (Xa : OA → Value → Nat → OA → Nat → Nat → Int → Int → WP) (x0 : OA) (x1 : Value) (x6 : Nat) (x108q : OA) (x108n x108c : Nat) (x109 x110 : Int) (w : World) : Prop :=
 br (decide (x110 < x109))
 (0 ≤ x110 ∧ x110 < (x108n : Int) ∧
 nilP x108q fun a31 =>
 ∃ (v32 : Value), w.cell? (a31.add (Int.toNat x110 * 1)) = some v32 ∧
 ∃ (r33 : OA), ∃ w34, (Instr.typeAssert v32 ty_Block ty_P_Item false).run P w = .ok (.pointer r33) w34 ∧
 nilP r33 fun a35 =>
 ∃ (v36q : OA), ∃ (v36n : Nat), ∃ (v36c : Nat), w34.cell? (a35.add 2) = some (.slice v36q v36n v36c) ∧
 l4 R Xa x0 x1 x6 r33 x108q x108n x108c x109 x110 v36q v36n v36c (v36n : Int) 0 w34)
 (k3 R x0 x1 x6 w)
def l2 (R : EP) (x0 : OA) (x1 : Value) (x6 : Nat) (x108q : OA) (x108n x108c : Nat) (x109 x110 : Int) (w : World) : Prop :=
 ∀ X : OA → Value → Nat → OA → Nat → Nat → Int → Int → WP, (∀ x0 x1 x6 x108q x108n x108c x109 x110 w, bl2 R X x0 x1 x6 x108q x108n x108c x109 x110 w → X x0 x1 x6 x108q x108n x108c x109 x110 w) → X x0 x1 x6 x108q x108n x108c x109 x110 w

noncomputable def al2 (R : EP) (Xa : OA → Value → Nat → OA → Nat → Nat → Int → Int → WP) : AC :=
 (.seq (.leaf (sel [1,0,1,1,1,1,1,0,1,0,1,0,0,0] body)) (.seq (.leaf (sel [1,0,1,1,1,1,1,0,1,0,1,0,0,1,0] body)) (.seq (.block 5 (.seq (.leaf (sel [1,0,1,1,1,1,1,0,1,0,1,0,0,1,1,0,0,0] body)) (.seq (.leaf (sel [1,0,1,1,1,1,1,0,1,0,1,0,0,1,1,0,0,1,0] body)) (.seq (.leaf (sel [1,0,1,1,1,1,1,0,1,0,1,0,0,1,1,0,0,1,1,0] body)) (.block 6 (.loop (leaf [(0, .s .ptr), (1, .s .any), (6, .s .loc), (15, .s .ptr), (108, .s .slice), (109, .s (.int .i64)), (110, .s (.int .i64)), (119, .s .slice), (120, .s (.int .i64)), (121, .s (.int .i64))] (l4 R Xa)) (sel [1,0,1,1,1,1,1,0,1,0,1,0,0,1,1,0,0,1,1,1,0,0] body))))))) (.leaf (sel [1,0,1,1,1,1,1,0,1,0,1,0,0,1,1,1] body)))))
def k1 (R : EP) (x0 : OA) (x1 : Value) (x5q : OA) (x5n x5c x6 : Nat) (w : World) : Prop :=
 nilP x0 fun a27 =>
 ∃ (v28 : Bool), w.cell? (a27.add 2) = some (.bool v28) ∧
 br (!v28)
 (l2 R x0 x1 x6 x5q x5n x5c (x5n : Int) 0 w)
 (k3 R x0 x1 x6 w)

def bl3 (R : EP) (Xc : OA → Value → OA → Nat → Nat → Nat → OA → Nat → Nat → Int → Int → WP) (Xd : OA → Value → OA → Nat → Nat → Nat → OA → OA → Nat → Nat → Int → Int → OA → Nat → Nat → Int → Int → WP) (x0 : OA) (x1 : Value) (x5q : OA) (x5n x5c x6 : Nat) (x9 x33q : OA) (x33n x33c : Nat) (x34 x35 : Int) (x67q : OA) (x67n x67c : Nat) (x68 x69 : Int) (w : World) : Prop :=
 br (decide (x69 < x68))
 (0 ≤ x69 ∧ x69 < (x67n : Int) ∧
 nilP x67q fun a50 =>
 ∃ (v51 : Value), w.cell? (a50.add (Int.toNat x69 * 1)) = some v51 ∧
 enterE P (callMethod v51 "Pos" #[]) (fun e w53 => ∃ (r52_0 : Int), ∃ (r52_1 : Int), e = .returned (.agg #[.int .i64 r52_0, .int .i64 r52_1]) ∧
 nilP x9 fun a54 =>
 ∃ (v55q : OA), ∃ (v55n : Nat), ∃ (v55c : Nat), w53.cell? (a54.add 2) = some (.slice v55q v55n v55c) ∧
 br (decide ((IntKind.i64.wrap (x69 + 1)) < (v55n : Int)))
 (nilP x9 fun a56 =>
 ∃ (v57q : OA), ∃ (v57n : Nat), ∃ (v57c : Nat), w53.cell? (a56.add 2) = some (.slice v57q v57n v57c) ∧
 0 ≤ (IntKind.i64.wrap (x69 + 1)) ∧ (IntKind.i64.wrap (x69 + 1)) < (v57n : Int) ∧
 nilP v57q fun a58 =>
 ∃ (v59 : Value), w53.cell? (a58.add (Int.toNat (IntKind.i64.wrap (x69 + 1)) * 1)) = some v59 ∧
 enterE P (callMethod v59 "Pos" #[]) (fun e w61 => ∃ (r60_0 : Int), ∃ (r60_1 : Int), e = .returned (.agg #[.int .i64 r60_0, .int .i64 r60_1]) ∧
 br (decide ((IntKind.i64.wrap (r60_0 - r52_1)) > 1))
 (nilP x0 fun a62 =>
 stV w61 ((a62.add 2).add 0) (.bool true) fun w63 =>
 k1 R x0 x1 x5q x5n x5c x6 w63)
 (Xd x0 x1 x5q x5n x5c x6 x9 x33q x33n x33c x34 x35 x67q x67n x67c x68 (IntKind.i64.wrap (x69 + 1)) w61)) w53)
 (Xd x0 x1 x5q x5n x5c x6 x9 x33q x33n x33c x34 x35 x67q x67n x67c x68 (IntKind.i64.wrap (x69 + 1)) w53)) w)
 (Xc x0 x1 x5q x5n x5c x6 x33q x33n x33c x34 (IntKind.i64.wrap (x35 + 1)) w)
def l3 (R : EP) (Xc : OA → Value → OA → Nat → Nat → Nat → OA → Nat → Nat → Int → Int → WP) (x0 : OA) (x1 : Value) (x5q : OA) (x5n x5c x6 : Nat) (x9 x33q : OA) (x33n x33c : Nat) (x34 x35 : Int) (x67q : OA) (x67n x67c : Nat) (x68 x69 : Int) (w : World) : Prop :=
 ∀ X : OA → Value → OA → Nat → Nat → Nat → OA → OA → Nat → Nat → Int → Int → OA → Nat → Nat → Int → Int → WP, (∀ x0 x1 x5q x5n x5c x6 x9 x33q x33n x33c x34 x35 x67q x67n x67c x68 x69 w, bl3 R Xc X x0 x1 x5q x5n x5c x6 x9 x33q x33n x33c x34 x35 x67q x67n x67c x68 x69 w → X x0 x1 x5q x5n x5c x6 x9 x33q x33n x33c x34 x35 x67q x67n x67c x68 x69 w) → X x0 x1 x5q x5n x5c x6 x9 x33q x33n x33c x34 x35 x67q x67n x67c x68 x69 w

noncomputable def al3 (R : EP) (Xc : OA → Value → OA → Nat → Nat → Nat → OA → Nat → Nat → Int → Int → WP) (Xd : OA → Value → OA → Nat → Nat → Nat → OA → OA → Nat → Nat → Int → Int → OA → Nat → Nat → Int → Int → WP) : AC :=
 (.leaf (sel [1,0,1,1,1,1,0,1,0,0,1,1,0,0,1,1,1,1,0,0] body))
def k2 (R : EP) (Xc : OA → Value → OA → Nat → Nat → Nat → OA → Nat → Nat → Int → Int → WP) (x0 : OA) (x1 : Value) (x5q : OA) (x5n x5c x6 : Nat) (x9 x33q : OA) (x33n x33c : Nat) (x34 x35 : Int) (w : World) : Prop :=
 nilP x9 fun a29 =>
 ∃ (v30q : OA), ∃ (v30n : Nat), ∃ (v30c : Nat), w.cell? (a29.add 2) = some (.slice v30q v30n v30c) ∧
 l3 R Xc x0 x1 x5q x5n x5c x6 x9 x33q x33n x33c x34 x35 v30q v30n v30c (v30n : Int) 0 w

def bl1 (R : EP) (Xc : OA → Value → OA → Nat → Nat → Nat → OA → Nat → Nat → Int → Int → WP) (x0 : OA) (x1 : Value) (x5q : OA) (x5n x5c x6 : Nat) (x33q : OA) (x33n x33c : Nat) (x34 x35 : Int) (w : World) : Prop :=
 br (decide (x35 < x34))
 (0 ≤ x35 ∧ x35 < (x33n : Int) ∧
 nilP x33q fun a14 =>
 ∃ (v15 : Value), w.cell? (a14.add (Int.toNat x35 * 1)) = some v15 ∧
 ∃ (r16 : OA), ∃ w17, (Instr.typeAssert v15 ty_Block ty_P_Item false).run P w = .ok (.pointer r16) w17 ∧
 br (decide ((IntKind.i64.wrap (x35 + 1)) < (x5n : Int)))
 (tk w17 fun w18 =>
 0 ≤ (IntKind.i64.wrap (x35 + 1)) ∧ (IntKind.i64.wrap (x35 + 1)) < (x5n : Int) ∧
 nilP x5q fun a19 =>
 nilP r16 fun a20 =>
 ∃ (v21 : Value), w18.cell? (a19.add (Int.toNat (IntKind.i64.wrap (x35 + 1)) * 1)) = some v21 ∧
 ∃ (v22 : Int), w18.cell? (a20.add 1) = some (.int .i64 v22) ∧
 enterE P (callMethod v21 "Pos" #[]) (fun e w24 => ∃ (r23_0 : Int), ∃ (r23_1 : Int), e = .returned (.agg #[.int .i64 r23_0, .int .i64 r23_1]) ∧
 SameC w18 w24 (a20.add 1) 1 ∧
 br (decide ((IntKind.i64.wrap (r23_0 - v22)) > 1))
 (nilP x0 fun a25 =>
 stV w24 ((a25.add 2).add 0) (.bool true) fun w26 =>
 k1 R x0 x1 x5q x5n x5c x6 w26)
 (k2 R Xc x0 x1 x5q x5n x5c x6 r16 x33q x33n x33c x34 x35 w24)) w18)
 (k2 R Xc x0 x1 x5q x5n x5c x6 r16 x33q x33n x33c x34 x35 w17))
 (k1 R x0 x1 x5q x5n x5c x6 w)
def l1 (R : EP) (x0 : OA) (x1 : Value) (x5q : OA) (x5n x5c x6 : Nat) (x33q : OA) (x33n x33c : Nat) (x34 x35 : Int) (w : World) : Prop :=
 ∀ X : OA → Value → OA → Nat → Nat → Nat → OA → Nat → Nat → Int → Int → WP, (∀ x0 x1 x5q x5n x5c x6 x33q x33n x33c x34 x35 w, bl1 R X x0 x1 x5q x5n x5c x6 x33q x33n x33c x34 x35 w → X x0 x1 x5q x5n x5c x6 x33q x33n x33c x34 x35 w) → X x0 x1 x5q x5n x5c x6 x33q x33n x33c x34 x35 w

noncomputable def al1 (R : EP) (Xc : OA → Value → OA → Nat → Nat → Nat → OA → Nat → Nat → Int → Int → WP) : AC :=
 (.seq (.leaf (sel [1,0,1,1,1,1,0,1,0,0,0] body)) (.seq (.leaf (sel [1,0,1,1,1,1,0,1,0,0,1,0] body)) (.seq (.block 1 (.seq (.leaf (sel [1,0,1,1,1,1,0,1,0,0,1,1,0,0,0] body)) (.seq (.leaf (sel [1,0,1,1,1,1,0,1,0,0,1,1,0,0,1,0] body)) (.seq (.seq (.leaf (sel [1,0,1,1,1,1,0,1,0,0,1,1,0,0,1,1,0,0] body)) (.cond 46 (.seq (.draw (.pure 0 (.pure 1 (.pure 2 (.pure 3 (.pure 7 (.pure 8 (.pure 9 (.pure 10 (.load 4 (.load 11 (.one 5 (.pure 6 (.pure 12 (.pure 13 .done)))))))))))))) (sel [1,0,1,1,1,1,0,1,0,0,1,1,0,0,1,1,0,1,0,0] body)) (.leaf (sel [1,0,1,1,1,1,0,1,0,0,1,1,0,0,1,1,0,1,0,1] body))) (.leaf (sel [1,0,1,1,1,1,0,1,0,0,1,1,0,0,1,1,0,1,1] body)))) (.mark (leaf [(0, .s .ptr), (1, .s .any), (5, .s .slice), (6, .s .loc), (9, .s .ptr), (33, .s .slice), (34, .s (.int .i64)), (35, .s (.int .i64))] (k2 R Xc)) (.seq (.leaf (sel [1,0,1,1,1,1,0,1,0,0,1,1,0,0,1,1,1,0] body)) (.block 2 (.loop (leaf [(0, .s .ptr), (1, .s .any), (5, .s .slice), (6, .s .loc), (9, .s .ptr), (33, .s .slice), (34, .s (.int .i64)), (35, .s (.int .i64)), (67, .s .slice), (68, .s (.int .i64)), (69, .s (.int .i64))] (l3 R Xc)) (sel [1,0,1,1,1,1,0,1,0,0,1,1,0,0,1,1,1,1,0,0] body))))))))) (.leaf (sel [1,0,1,1,1,1,0,1,0,0,1,1,1] body)))))
end g_listBuilder_build
def g_listBuilder_build (R : EP) (x0 : OA) (x1 : Value) (w : World) : Prop :=
 enterE P (callMethod x1 "pub-paratext/pub/rscmarkdown.blocks" #[]) (fun e w2 => ∃ (r1q : OA), ∃ (r1n : Nat), ∃ (r1c : Nat), e = .returned (.slice r1q r1n r1c) ∧
 enterE P (callMethod x1 "pub-paratext/pub/rscmarkdown.pos" #[]) (fun e w4 => ∃ (r3_0 : Int), ∃ (r3_1 : Int), e = .returned (.agg #[.int .i64 r3_0, .int .i64 r3_1]) ∧
 box w4 #[.int .i64 0, .int .i64 0] ty_Position fun b5 w6 =>
 stV w6 ⟨b5, 0, none⟩ (.int .i64 r3_0) fun w7 =>
 stV w7 ⟨b5, 1, none⟩ (.int .i64 r3_1) fun w8 =>
 0 ≤ (IntKind.i64.wrap ((r1n : Int) - 1)) ∧ (IntKind.i64.wrap ((r1n : Int) - 1)) < (r1n : Int) ∧
 nilP r1q fun a9 =>
 ∃ (v10 : Value), w8.cell? (a9.add (Int.toNat (IntKind.i64.wrap ((r1n : Int) - 1)) * 1)) = some v10 ∧
 enterE P (callMethod v10 "Pos" #[]) (fun e w12 => ∃ (r11_0 : Int), ∃ (r11_1 : Int), e = .returned (.agg #[.int .i64 r11_0, .int .i64 r11_1]) ∧
 stV w12 ⟨b5, 1, none⟩ (.int .i64 r11_1) fun w13 =>
 g_listBuilder_build.l1 R x0 x1 r1q r1n r1c b5 r1q r1n r1c (r1n : Int) 0 w13) w8) w2) w

namespace g_listBuilder_build
noncomputable def ac (R : EP) : AC :=
 (.seq (.leaf (sel [0] body)) (.scope (.seq (.leaf (sel [1,0,0] body)) (.seq (.leaf (sel [1,0,1,0] body)) (.seq (.leaf (sel [1,0,1,1,0] body)) (.seq (.leaf (sel [1,0,1,1,1,0] body)) (.seq (.seq (.leaf (sel [1,0,1,1,1,1,0,0] body)) (.block 0 (.loop (leaf [(0, .s .ptr), (1, .s .any), (5, .s .slice), (6, .s .loc), (33, .s .slice), (34, .s (.int .i64)), (35, .s (.int .i64))] (l1 R)) (sel [1,0,1,1,1,1,0,1,0,0] body)))) (.mark (leaf [(0, .s .ptr), (1, .s .any), (5, .s .slice), (6, .s .loc)] (k1 R)) (.seq (.seq (.leaf (sel [1,0,1,1,1,1,1,0,0] body)) (.cond 107 (.seq (.leaf (sel [1,0,1,1,1,1,1,0,1,0,0] body)) (.block 4 (.loop (leaf [(0, .s .ptr), (1, .s .any), (6, .s .loc), (108, .s .slice), (109, .s (.int .i64)), (110, .s (.int .i64))] (l2 R)) (sel [1,0,1,1,1,1,1,0,1,0,1,0,0] body)))) (.leaf (sel [1,0,1,1,1,1,1,0,1,1] body)))) (.mark (leaf [(0, .s .ptr), (1, .s .any), (6, .s .loc)] (k3 R)) (.seq (.draw (.pure 1 (.pure 2 (.pure 3 (.pure 5 (.pure 6 (.pure 7 (.pure 9 (.pure 10 (.pure 11 (.pure 13 (.load 0 (.load 4 (.load 8 (.load 12 (.one 14 (.pure 15 (.one 16 (.pure 17 (.pure 18 .done))))))))))))))))))) (sel [1,0,1,1,1,1,1,1,0] body)) (.leaf (sel [1,0,1,1,1,1,1,1,1] body)))))))))))))
theorem good (R : EP) : Good P 163 (ac R) (QF P [.tmp 4] R) :=
 ⟨trivial, ⟨trivial, ⟨trivial, ⟨trivial, ⟨trivial, ⟨⟨trivial, (loopG (al1 R) (bl1 R) (fun _ => by kernel_rfl) (fun Xc => ⟨trivial, ⟨trivial, ⟨⟨trivial, ⟨trivial, ⟨⟨trivial, ⟨⟨⟨by kernel_rfl, by kernel_rfl, fun _ _ _ h => h⟩, trivial⟩, trivial⟩⟩, ⟨⟨trivial, (loopG (al3 R Xc) (bl3 R Xc) (fun _ => by kernel_rfl) (fun Xd => trivial) (fun Xd => by intro x0 x1 x5q x5n x5c x6 x9 x33q x33n x33c x34 x35 x67q x67n x67c x68 x69 ρ w; kernel_rfl) (fun X h _ _ _ _ _ _ _ _ _ _ _ _ _ _ _ _ _ _ g => g X h))⟩, cutZ⟩⟩⟩⟩, trivial⟩⟩⟩) (fun Xc => by intro x0 x1 x5q x5n x5c x6 x33q x33n x33c x34 x35 ρ w; kernel_rfl) (fun X h _ _ _ _ _ _ _ _ _ _ _ _ g => g X h))⟩, ⟨⟨⟨trivial, ⟨⟨trivial, (loopG (al2 R) (bl2 R) (fun _ => by kernel_rfl) (fun Xa => ⟨trivial, ⟨trivial, ⟨⟨trivial, ⟨trivial, ⟨trivial, (loopG (al4 R Xa) (bl4 R Xa) (fun _ => by kernel_rfl) (fun Xb => ⟨trivial, ⟨trivial, ⟨⟨trivial, ⟨trivial, ⟨trivial, ⟨⟨by kernel_rfl, by kernel_rfl, fun _ _ _ h => h⟩, trivial⟩⟩⟩⟩, trivial⟩⟩⟩) (fun Xb => by intro x0 x1 x6 x15 x108q x108n x108c x109 x110 x119q x119n x119c x120 x121 ρ w; kernel_rfl) (fun X h _ _ _ _ _ _ _ _ _ _ _ _ _ _ _ g => g X h))⟩⟩⟩, trivial⟩⟩⟩) (fun Xa => by intro x0 x1 x6 x108q x108n x108c x109 x110 ρ w; kernel_rfl) (fun X h _ _ _ _ _ _ _ _ _ g => g X h))⟩, trivial⟩⟩, ⟨⟨⟨by kernel_rfl, by kernel_rfl, fun _ _ _ h => h⟩, trivial⟩, cutZ⟩⟩, cutZ⟩⟩⟩⟩⟩⟩⟩
theorem eq (R : EP) (x0 : OA) (x1 : Value) (w : World) : g_listBuilder_build R x0 x1 w = vcA P 163 (ac R) (QF P [.tmp 4] R) (fr0 [.pointer x0, x1]) w := by kernel_rfl
theorem sound {R : EP} {x0 : OA} {x1 : Value} {w : World} (h : g_listBuilder_build R x0 x1 w) : callE P i_listBuilder_build #[.pointer x0, x1] R w :=
 callE_fz (c := body) Tryz.func399 Tryz.call399 (good R) (eq R x0 x1 w) h
end g_listBuilder_build
namespace g_listCorner
noncomputable def body : Code := bodyOf Tryz.f137
def bl1 (R : EP) (Xa : OA → Nat → Nat → Int → Int → WP) (x9q : OA) (x9n x9c : Nat) (x10 x11 : Int) (w : World) : Prop :=
 br (decide (x11 < x10))
 (0 ≤ x11 ∧ x11 < (x9n : Int) ∧
 nilP x9q fun a3 =>
 ∃ (v4 : Value), w.cell? (a3.add (Int.toNat x11 * 1)) = some v4 ∧
 ∃ (r5 : OA), ∃ w6, (Instr.typeAssert v4 ty_Block ty_P_Item false).run P w = .ok (.pointer r5) w6 ∧
 nilP r5 fun a7 =>
 ∃ (v8q : OA), ∃ (v8n : Nat), ∃ (v8c : Nat), w6.cell? (a7.add 2) = some (.slice v8q v8n v8c) ∧
 br ((v8n : Int) == 0)
 (R (.returned (.bool true)) w6)
 (nilP r5 fun a9 =>
 ∃ (v10q : OA), ∃ (v10n : Nat), ∃ (v10c : Nat), w6.cell? (a9.add 2) = some (.slice v10q v10n v10c) ∧
 0 ≤ (0 : Int) ∧ 0 < (v10n : Int) ∧
 nilP v10q fun a11 =>
 ∃ (v12 : Value), w6.cell? (a11.add (Int.toNat 0 * 1)) = some v12 ∧
 ∃ (r13_0 : OA), ∃ (r13_1 : Bool), ∃ w14, (Instr.typeAssert v12 ty_Block ty_P_List true).run P w6 = .ok (.tuple #[.pointer r13_0, .bool r13_1]) w14 ∧
 ∃ (r15_0 : OA), ∃ (r15_1 : Bool), ∃ w16, (Instr.typeAssert v12 ty_Block ty_P_ThematicBreak true).run P w14 = .ok (.tuple #[.pointer r15_0, .bool r15_1]) w16 ∧
 ∃ (r17_0 : OA), ∃ (r17_1 : Bool), ∃ w18, (Instr.typeAssert v12 ty_Block ty_P_CodeBlock true).run P w16 = .ok (.tuple #[.pointer r17_0, .bool r17_1]) w18 ∧
 br (r13_1 || (r15_1 || r17_1))
 (R (.returned (.bool true)) w18)
 (Xa x9q x9n x9c x10 (IntKind.i64.wrap (x11 + 1)) w18)))
 (R (.returned (.bool false)) w)
def l1 (R : EP) (x9q : OA) (x9n x9c : Nat) (x10 x11 : Int) (w : World) : Prop :=
 ∀ X : OA → Nat → Nat → Int → Int → WP, (∀ x9q x9n x9c x10 x11 w, bl1 R X x9q x9n x9c x10 x11 w → X x9q x9n x9c x10 x11 w) → X x9q x9n x9c x10 x11 w

noncomputable def al1 (R : EP) (Xa : OA → Nat → Nat → Int → Int → WP) : AC :=
 (.leaf (sel [1,0,1,0,0] body))
end g_listCorner
def g_listCorner (R : EP) (x0 : OA) (w : World) : Prop :=
 nilP x0 fun a1 =>
 ∃ (v2q : OA), ∃ (v2n : Nat), ∃ (v2c : Nat), w.cell? (a1.add 5) = some (.slice v2q v2n v2c) ∧
 g_listCorner.l1 R v2q v2n v2c (v2n : Int) 0 w

namespace g_listCorner
noncomputable def ac (R : EP) : AC :=
 (.seq (.leaf (sel [0] body)) (.seq (.seq (.leaf (sel [1,0,0] body)) (.block 0 (.loop (leaf [(9, .s .slice), (10, .s (.int .i64)), (11, .s (.int .i64))] (l1 R)) (sel [1,0,1,0,0] body)))) (.leaf (sel [1,1] body))))
theorem good (R : EP) : Good P 41 (ac R) (QF P [.tmp 2] R) :=
 ⟨trivial, ⟨⟨trivial, (loopG (al1 R) (bl1 R) (fun _ => by kernel_rfl) (fun Xa => trivial) (fun Xa => by intro x9q x9n x9c x10 x11 ρ w; kernel_rfl) (fun X h _ _ _ _ _ _ g => g X h))⟩, trivial⟩⟩
theorem eq (R : EP) (x0 : OA) (w : World) : g_listCorner R x0 w = vcA P 41 (ac R) (QF P [.tmp 2] R) (fr0 [.pointer x0]) w := by kernel_rfl
theorem sound {R : EP} {x0 : OA} {w : World} (h : g_listCorner R x0 w) : callE P i_listCorner #[.pointer x0] R w :=
 callE_fz (c := body) Tryz.func137 Tryz.call137 (good R) (eq R x0 w) h
end g_listCorner
namespace g_Position_Pos
noncomputable def body : Code := bodyOf Tryz.f291
end g_Position_Pos
def g_Position_Pos (R : EP) (x0_0 x0_1 : Int) (w : World) : Prop :=
 box w #[.int .i64 x0_0, .int .i64 x0_1] ty_Position fun b1 w2 =>
 box w2 #[.int .i64 0, .int .i64 0] ty_Position fun b3 w4 =>
 ∃ (v5 : Int), w4.cell? ⟨b1, 0, none⟩ = some (.int .i64 v5) ∧
 ∃ (v6 : Int), w4.cell? ⟨b1, 1, none⟩ = some (.int .i64 v6) ∧
 stV w4 ⟨b3, 0, none⟩ (.int .i64 v5) fun w7 =>
 stV w7 ⟨b3, 1, none⟩ (.int .i64 v6) fun w8 =>
 ∃ (v9 : Int), w8.cell? ⟨b3, 0, none⟩ = some (.int .i64 v9) ∧
 ∃ (v10 : Int), w8.cell? ⟨b3, 1, none⟩ = some (.int .i64 v10) ∧
 R (.returned (.agg #[.int .i64 v9, .int .i64 v10])) w8

namespace g_Position_Pos
noncomputable def ac (R : EP) : AC :=
 (.leaf (sel [] body))
theorem good (R : EP) : Good P 4 (ac R) (QF P [.cell 2 90] R) :=
 trivial
theorem eq (R : EP) (x0_0 x0_1 : Int) (w : World) : g_Position_Pos R x0_0 x0_1 w = vcA P 4 (ac R) (QF P [.cell 2 90] R) (fr0 [.agg #[.int .i64 x0_0, .int .i64 x0_1]]) w := by kernel_rfl
theorem sound {R : EP} {x0_0 x0_1 : Int} {w : World} (h : g_Position_Pos R x0_0 x0_1 w) : callE P i_Position_Pos #[.agg #[.int .i64 x0_0, .int .i64 x0_1]] R w :=
 callE_fz (c := body) Tryz.func291 Tryz.call291 (good R) (eq R x0_0 x0_1 w) h
end g_Position_Pos
namespace g_line_trimSetext
noncomputable def body : Code := bodyOf Tryz.f183
def bl1 (R : EP) (Xa : OA → Nat → Int → WP) (x1 : OA) (x5 : Nat) (x6 : Int) (w : World) : Prop :=
 callE P i_line_trim #[.pointer (some ⟨x5, 0, none⟩), .int .u8 x6] (fun e w19 => ∃ (r18 : Bool), e = .returned (.bool r18) ∧
 br r18
 (Xa x1 x5 x6 w19)
 (callE P i_line_skipSpace #[.pointer (some ⟨x5, 0, none⟩)] (fun e w21 => e = .returned (.tuple #[]) ∧
 callE P i_line_eof #[.pointer (some ⟨x5, 0, none⟩)] (fun e w23 => ∃ (r22 : Bool), e = .returned (.bool r22) ∧
 br r22
 (br (x6 == 61)
 (nilP x1 fun a24 =>
 stV w23 (a24.add 0) (.int .i64 1) fun w25 =>
 R (.returned (.bool true)) w25)
 (nilP x1 fun a26 =>
 stV w23 (a26.add 0) (.int .i64 2) fun w27 =>
 R (.returned (.bool true)) w27))
 (R (.returned (.bool false)) w23)) w21) w19)) w
def l1 (R : EP) (x1 : OA) (x5 : Nat) (x6 : Int) (w : World) : Prop :=
 ∀ X : OA → Nat → Int → WP, (∀ x1 x5 x6 w, bl1 R X x1 x5 x6 w → X x1 x5 x6 w) → X x1 x5 x6 w

noncomputable def al1 (R : EP) (Xa : OA → Nat → Int → WP) : AC :=
 (.leaf (sel [1,1,1,1,0,1,0,0,0,0] body))
def k1 (R : EP) (x1 : OA) (x5 : Nat) (x6 : Int) (x17 : Bool) (w : World) : Prop :=
 br x17
 (l1 R x1 x5 x6 w)
 (R (.returned (.bool false)) w)

end g_line_trimSetext
def g_line_trimSetext (R : EP) (x0 x1 : OA) (w : World) : Prop :=
 nilP x0 fun a1 =>
 ∃ (v2 : Int), w.cell? (a1.add 0) = some (.int .i64 v2) ∧
 ∃ (v3 : Int), w.cell? (a1.add 1) = some (.int .i64 v3) ∧
 ∃ (v4 : Int), w.cell? (a1.add 2) = some (.int .i64 v4) ∧
 ∃ (v5 : BA), w.cell? (a1.add 3) = some (.string v5) ∧
 ∃ (v6 : Int), w.cell? (a1.add 4) = some (.int .u8 v6) ∧
 box w #[.int .i64 0, .int .i64 0, .int .i64 0, .string (ByteArray.mk #[]), .int .u8 0] ty_line fun b7 w8 =>
 stV w8 ⟨b7, 0, none⟩ (.int .i64 v2) fun w9 =>
 stV w9 ⟨b7, 1, none⟩ (.int .i64 v3) fun w10 =>
 stV w10 ⟨b7, 2, none⟩ (.int .i64 v4) fun w11 =>
 stV w11 ⟨b7, 3, none⟩ (.string v5) fun w12 =>
 stV w12 ⟨b7, 4, none⟩ (.int .u8 v6) fun w13 =>
 callE P i_line_trimSpace #[.pointer (some ⟨b7, 0, none⟩), .int .i64 0, .int .i64 3, .bool false] (fun e w15 => ∃ (r14 : Bool), e = .returned (.bool r14) ∧
 callE P i_line_peek #[.pointer (some ⟨b7, 0, none⟩)] (fun e w17 => ∃ (r16 : Int), e = .returned (.int .u8 r16) ∧
 g_line_trimSetext.k1 R x1 b7 r16 ((r16 == 45) || (r16 == 61)) w17) w15) w13

namespace g_line_trimSetext
noncomputable def ac (R : EP) : AC :=
 (.seq (.leaf (sel [0] body)) (.seq (.leaf (sel [1,0] body)) (.seq (.leaf (sel [1,1,0] body)) (.seq (.leaf (sel [1,1,1,0] body)) (.seq (.seq (.leaf (sel [1,1,1,1,0,0] body)) (.mark (leaf [(1, .s .ptr), (5, .s .loc), (6, .s (.int .u8)), (17, .s .bool)] (k1 R)) (.cond 17 (.seq (.block 0 (.loop (leaf [(1, .s .ptr), (5, .s .loc), (6, .s (.int .u8))] (l1 R)) (sel [1,1,1,1,0,1,0,0,0,0] body))) (.leaf (sel [1,1,1,1,0,1,0,1] body))) (.leaf (sel [1,1,1,1,0,1,1] body))))) (.leaf (sel [1,1,1,1,1] body)))))))
theorem good (R : EP) : Good P 28 (ac R) (QF P [.tmp 4] R) :=
 ⟨trivial, ⟨trivial, ⟨trivial, ⟨trivial, ⟨⟨trivial, ⟨⟨⟨(loopG (al1 R) (bl1 R) (fun _ => by kernel_rfl) (fun Xa => trivial) (fun Xa => by intro x1 x5 x6 ρ w; kernel_rfl) (fun X h _ _ _ _ g => g X h)), trivial⟩, trivial⟩, cutZ⟩⟩, trivial⟩⟩⟩⟩⟩
theorem eq (R : EP) (x0 x1 : OA) (w : World) : g_line_trimSetext R x0 x1 w = vcA P 28 (ac R) (QF P [.tmp 4] R) (fr0 [.pointer x0, .pointer x1]) w := by kernel_rfl
theorem sound {R : EP} {x0 x1 : OA} {w : World} (h : g_line_trimSetext R x0 x1 w) : callE P i_line_trimSetext #[.pointer x0, .pointer x1] R w :=
 callE_fz (c := body) Tryz.func183 Tryz.call183 (good R) (eq R x0 x1 w) h
end g_line_trimSetext
namespace g_paraBuilder_extend
noncomputable def body : Code := bodyOf Tryz.f386
end g_paraBuilder_extend
def g_paraBuilder_extend (R : EP) (x0 x1 : OA) (x2_0 x2_1 x2_2 : Int) (x2_3 : BA) (x2_4 : Int) (w : World) : Prop :=
 box w #[.int .i64 x2_0, .int .i64 x2_1, .int .i64 x2_2, .string x2_3, .int .u8 x2_4] ty_line fun b1 w2 =>
 box w2 #[.int .i64 0, .int .i64 0, .int .i64 0, .string (ByteArray.mk #[]), .int .u8 0] ty_line fun b3 w4 =>
 ∃ (v5 : Int), w4.cell? ⟨b1, 0, none⟩ = some (.int .i64 v5) ∧
 ∃ (v6 : Int), w4.cell? ⟨b1, 1, none⟩ = some (.int .i64 v6) ∧
 ∃ (v7 : Int), w4.cell? ⟨b1, 2, none⟩ = some (.int .i64 v7) ∧
 ∃ (v8 : BA), w4.cell? ⟨b1, 3, none⟩ = some (.string v8) ∧
 ∃ (v9 : Int), w4.cell? ⟨b1, 4, none⟩ = some (.int .u8 v9) ∧
 stV w4 ⟨b3, 0, none⟩ (.int .i64 v5) fun w10 =>
 stV w10 ⟨b3, 1, none⟩ (.int .i64 v6) fun w11 =>
 stV w11 ⟨b3, 2, none⟩ (.int .i64 v7) fun w12 =>
 stV w12 ⟨b3, 3, none⟩ (.string v8) fun w13 =>
 stV w13 ⟨b3, 4, none⟩ (.int .u8 v9) fun w14 =>
 ∃ (v15 : Int), w14.cell? ⟨b3, 0, none⟩ = some (.int .i64 v15) ∧
 ∃ (v16 : Int), w14.cell? ⟨b3, 1, none⟩ = some (.int .i64 v16) ∧
 ∃ (v17 : Int), w14.cell? ⟨b3, 2, none⟩ = some (.int .i64 v17) ∧
 ∃ (v18 : BA), w14.cell? ⟨b3, 3, none⟩ = some (.string v18) ∧
 ∃ (v19 : Int), w14.cell? ⟨b3, 4, none⟩ = some (.int .u8 v19) ∧
 R (.returned (.tuple #[.agg #[.int .i64 v15, .int .i64 v16, .int .i64 v17, .string v18, .int .u8 v19], .bool false])) w14

namespace g_paraBuilder_extend
noncomputable def ac (R : EP) : AC :=
 (.leaf (sel [] body))
theorem good (R : EP) : Good P 9 (ac R) (QF P [.cell 6 159, .tmp 7] R) :=
 trivial
theorem eq (R : EP) (x0 x1 : OA) (x2_0 x2_1 x2_2 : Int) (x2_3 : BA) (x2_4 : Int) (w : World) : g_paraBuilder_extend R x0 x1 x2_0 x2_1 x2_2 x2_3 x2_4 w = vcA P 9 (ac R) (QF P [.cell 6 159, .tmp 7] R) (fr0 [.pointer x0, .pointer x1, .agg #[.int .i64 x2_0, .int .i64 x2_1, .int .i64 x2_2, .string x2_3, .int .u8 x2_4]]) w := by kernel_rfl
theorem sound {R : EP} {x0 x1 : OA} {x2_0 x2_1 x2_2 : Int} {x2_3 : ByteArray} {x2_4 : Int} {w : World} (h : g_paraBuilder_extend R x0 x1 x2_0 x2_1 x2_2 x2_3 x2_4 w) : callE P i_paraBuilder_extend #[.pointer x0, .pointer x1, .agg #[.int .i64 x2_0, .int .i64 x2_1, .int .i64 x2_2, .string x2_3, .int .u8 x2_4]] R w :=
 callE_fz (c := body) Tryz.func386 Tryz.call386 (good R) (eq R x0 x1 x2_0 x2_1 x2_2 x2_3 x2_4 w) h
end g_paraBuilder_extend
end Go.Proofs.YtgbgadkldalkbaaGreatDoor

set_option linter.unusedVariables false
namespace Go.Proofs.YtgbgadkldalkbaaGreatDoor
open Go.Proofs Go.IntWalk Go.RowKit
variable {σ : Out} {w : World} {L L' : List Chunk} {R : Ending → World → Prop}
structure TX where
 t : Nat
 s : Nat
 e : Nat
 raw : List UInt8
def TX.chunk (x : TX) : Chunk := textC x.t x.s x.e none 0 0 x.raw
structure DB where
 v : Value
 own : List Chunk
 txs : List TX
def ownC (D : List DB) : List Chunk := D.flatMap DB.own
def txsC (D : List DB) : List TX := D.flatMap DB.txs
theorem ownC_snoc (D : List DB) (d : DB) : ownC (D ++ [d]) = ownC D ++ d.own := by simp [ownC]
theorem txsC_snoc (D : List DB) (d : DB) : txsC (D ++ [d]) = txsC D ++ d.txs := by simp [txsC]
def paraOB (qb s e : Nat) : OB := ⟨.iface ty_P_paraBuilder (.pointer (some ⟨qb, 0, none⟩)), none, 0, 0, s, e⟩
theorem lines_join {q : Option Addr} {n c : Nat} {ts : List (List UInt8)} {AM : List Chunk} (hS : Sl 1 ty_string q n c (ts.map fun t => .string (bs t)) AM) (h : Sat σ w (AM ++ L)) (hne : ts ≠ []) (hn : ts.length < 1048576)
 (h0 : joinL [10] ts ≠ []) (hb : (joinL [10] ts).length < 1073741824) (hR : ∀ w, Sat σ w (AM ++ L) → R (.returned (.string (bs (joinL [10] ts)))) w) : callE P i_strings_Join #[.slice q n c, .string (bs [10])] R w := by
 have hl := hS.1
 simp only [List.length_map, Nat.mul_one] at hl
 match ts, hne with
 | [t], _ =>
  obtain rfl : n = 1 := by simpa using hl.symm
  have e : joinL [10] [t] = t := by simp [joinL]
  rw [e] at hR
  exact join_one h hS hR
 | t :: u :: ts, _ =>
  exact join_ok (t := t) (ts := u :: ts) hS h (by simp) (by omega) (by decide) (List.length_pos_iff.2 h0) hb hR
theorem paraBuild_ok {b qb : Nat} {p : PS} {ob : List OB} {o : OB} {M TM PM : List Chunk} {ts : List Nat} {ls : List (List UInt8)} {s : List UInt8} (h : Sat σ w (p.at b :: M ++ (TM ++ (PM ++ L)))) (hs : Stk p (ob ++ [o]) M)
 (ht : Txts p ts TM) (hts : ts.length < 1048575) (hp : ParaAt qb ls PM) (hls : ls ≠ []) (hln : ls.length < 1048576) (hj : joinL [10] ls = s) (hl : s.length < 1073741824) (hne : s ≠ []) (hb : NoRef s) (ho : o.s < 1000000000)
 (hR : ∀ w p' TM' t nb, p' = { p with tq := p'.tq, tn := ts.length + 1, tc := p'.tc } → Txts p' (ts ++ [t]) TM' →
  Sat σ w (p'.at b :: M ++ (TM' ++ (PM ++ (paraC nb o.s (o.s + ls.length - 1) t :: textC t o.s (o.s + ls.length - 1) none 0 0 s :: L)))) → R (.returned (.iface ty_P_Paragraph (.pointer (some ⟨nb, 0, none⟩)))) w) :
 callE P i_paraBuilder_build #[.pointer (some ⟨qb, 0, none⟩), .iface ty_P_parseState (.pointer (some ⟨b, 0, none⟩))] R w := by
 obtain ⟨q, c, SM, hS, rfl⟩ := hp
 have hll : 1 ≤ ls.length := List.length_pos_iff.2 hls
 refine g_paraBuilder_build.sound ?_
 have h : Sat σ w (p.at b :: M ++ (TM ++ (((qb, cel [.slice q ls.length c, .pointer none] ty_paraBuilder) :: SM) ++ L))) := h
 have h : Sat σ w ((qb, cel [.slice q ls.length c, .pointer none] ty_paraBuilder) :: (SM ++ (p.at b :: M ++ (TM ++ L)))) := h.re
 repeat (first | refine nilP_some ?_ | refine h.tk fun w h => ?_ | refine ⟨_, h.ldA, ?_⟩ | refine ⟨_, _, _, h.ldA, ?_⟩)
 refine ⟨_, w, ne_ptr_nil und_table _ _ _ w, br_false rfl ?_⟩
 repeat (first | refine nilP_some ?_ | refine h.tk fun w h => ?_ | refine ⟨_, h.ldA, ?_⟩ | refine ⟨_, _, _, h.ldA, ?_⟩)
 have h : Sat σ w (SM ++ ((qb, cel [.slice q ls.length c, .pointer none] ty_paraBuilder) :: (p.at b :: M ++ (TM ++ L)))) := h.re
 refine lines_join hS h hls hln (by rw [hj]; exact hne) (by rw [hj]; exact hl) fun w h => ⟨_, rfl, ?_⟩
 rw [hj]
 intro X hX
 have hse : ((bs s).toList == (ByteArray.mk #[]).toList) = false := by rw [bs_toList, mk_toList]; simpa using hne
 refine hX _ _ _ _ (br_true (by rw [hse]; rfl) ?_)
 refine hb _ _ _ ⟨_, _, rfl, br_true rfl ?_⟩
 refine br_false hse ?_
 have h : Sat σ w (p.at b :: M ++ (TM ++ (SM ++ (qb, cel [.slice q ls.length c, .pointer none] ty_paraBuilder) :: L))) := h.re
 refine enter_meth meth_pos ?_
 refine pos_ok h hs fun w h => ⟨_, _, rfl, ?_⟩
 refine Sat.bx h fun zb w h => ?_
 repeat (first | refine nilP_some ?_ | refine h.tk fun w h => ?_ | refine ⟨_, h.ldA, ?_⟩ | refine ⟨_, _, _, h.ldA, ?_⟩ | refine h.stA 0 fun w h => ?_ | refine h.stA 1 fun w h => ?_ | refine h.stA 2 fun w h => ?_ | refine h.stA 3 fun w h => ?_ | refine h.stA 4 fun w h => ?_ | refine h.stA 5 fun w h => ?_ | refine h.stA 6 fun w h => ?_ | refine h.bx fun b0 w h => ?_)
 have h : Sat σ _ ((zb, cel [.int .i64 o.s, .int .i64 o.e] ty_Position) :: (p.at b :: M ++ (TM ++ (SM ++ (qb, cel [.slice q ls.length c, .pointer none] ty_paraBuilder) :: L)))) := h
 have h : Sat σ _ ((zb, cel [.int .i64 o.s, .int .i64 o.e] ty_Position) :: (qb, cel [.slice q ls.length c, .pointer none] ty_paraBuilder) :: (p.at b :: M ++ (TM ++ (SM ++ L)))) := h.re
 refine ⟨_, _, _, h.ldA, ?_⟩
 refine h.stA 0 fun w h => ?_
 refine h.tk fun w h => ?_
 refine ⟨_, h.ldA, ?_⟩
 refine ⟨_, h.ldA, ?_⟩
 refine ⟨_, h.ldA, ?_⟩
 refine ⟨_, h.ldA, ?_⟩
 have e1 : IntKind.i64.wrap (IntKind.i64.wrap ((o.s : Int) + ((ls.length : Nat) : Int)) - 1) = ((o.s + ls.length - 1 : Nat) : Int) := by
  rw [i64_in (_ + _) (by omega), i64_in _ (by omega)]; omega
 rw [e1] at h ⊢
 have h : Sat σ _ ((zb, cel [.int .i64 o.s, .int .i64 (o.s + ls.length - 1 : Nat)] ty_Position) :: (qb, cel [.slice q ls.length c, .pointer none] ty_paraBuilder) :: (p.at b :: M ++ (TM ++ (SM ++ L)))) := h
 have hz := h
 have h : Sat σ _ (p.at b :: TM ++ ((zb, cel [.int .i64 o.s, .int .i64 (o.s + ls.length - 1 : Nat)] ty_Position) :: (qb, cel [.slice q ls.length c, .pointer none] ty_paraBuilder) :: (M ++ (SM ++ L)))) := h.re
 refine enter_meth meth_newText ?_
 refine newText_ok h ht hts fun w p' TM' t hp' ht' h => ⟨_, rfl, ?_⟩
 refine ⟨hz.same h (.head _) (by simp) 2, ?_⟩
 refine Sat.bx h fun nb w h => ?_
 have h : Sat σ w (paraC nb o.s (o.s + ls.length - 1) t :: (p'.at b :: TM' ++ (textC t o.s (o.s + ls.length - 1) none 0 0 s :: ((zb, cel [.int .i64 o.s, .int .i64 (o.s + ls.length - 1 : Nat)] ty_Position) :: (qb, cel [.slice q ls.length c, .pointer none] ty_paraBuilder) :: (M ++ (SM ++ L)))))) := h
 refine hR w p' TM' t nb hp' ht' ?_
 have h := Sat.less (L' := p'.at b :: M ++ (TM' ++ (((qb, cel [.slice q ls.length c, .pointer none] ty_paraBuilder) :: SM) ++ (paraC nb o.s (o.s + ls.length - 1) t :: textC t o.s (o.s + ls.length - 1) none 0 0 s :: L)))) [(zb, cel [.int .i64 o.s, .int .i64 (o.s + ls.length - 1 : Nat)] ty_Position)] h
 exact h
theorem closePara_ok {b qb : Nat} {p : PS} {ob : List OB} {par o : OB} {M TM PM IM : List Chunk} {inner : List Value} {ts : List Nat} {ls : List (List UInt8)} {s : List UInt8} (h : Sat σ w (p.at b :: M ++ (IM ++ (TM ++ (PM ++ L))))) (hs : Stk p (ob ++ [par] ++ [o]) M)
 (ho : o.bd = .iface ty_P_paraBuilder (.pointer (some ⟨qb, 0, none⟩))) (hI : Sl 1 ty_Block par.q par.n par.c inner IM) (hin : par.n < 1000000)
 (ht : Txts p ts TM) (hts : ts.length < 1048575) (hp : ParaAt qb ls PM) (hls : ls ≠ []) (hln : ls.length < 1048576) (hj : joinL [10] ls = s) (hl : s.length < 1073741824) (hne : s ≠ []) (hb : NoRef s) (hos : o.s < 1000000000)
 (hR : ∀ w p' M' IM' TM' t nb q' c' x, p' = { p with stn := ob.length + 1, tq := p'.tq, tn := ts.length + 1, tc := p'.tc } → Stk p' (ob ++ [{ par with q := q', n := par.n + 1, c := c' }]) M' → Txts p' (ts ++ [t]) TM' →
  Sl 1 ty_Block q' (par.n + 1) c' (inner ++ [.iface ty_P_Paragraph (.pointer (some ⟨nb, 0, none⟩))]) IM' →
  Sat σ w (p'.at b :: M' ++ (IM' ++ (TM' ++ (paraC nb o.s (o.s + ls.length - 1) t :: textC t o.s (o.s + ls.length - 1) none 0 0 s :: L)))) → R (.returned x) w) :
 callE P i_parseState_closeBlock #[.pointer (some ⟨b, 0, none⟩)] R w := by
 refine closeBlock_ok (ob := ob) (par := par) (IM := IM) (inner := inner) (fun p1 L1 tb q => ∃ TM' t nb, p1 = { p with tq := p1.tq, tn := ts.length + 1, tc := p1.tc } ∧ Txts p1 (ts ++ [t]) TM' ∧
  L1 = TM' ++ (PM ++ (paraC nb o.s (o.s + ls.length - 1) t :: textC t o.s (o.s + ls.length - 1) none 0 0 s :: L)) ∧ tb = ty_P_Paragraph ∧ q = some ⟨nb, 0, none⟩) h hs ho hI hin ?_ ?_
 ·intro R' w h hk
  rw [ho]
  have h : Sat σ w (p.at b :: M ++ (TM ++ (PM ++ (IM ++ L)))) := h.re
  refine enter_meth meth_paraBuild ?_
  refine paraBuild_ok (ob := ob ++ [par]) (o := o) (ts := ts) h hs ht hts hp hls hln hj hl hne hb hos fun w p' TM' t nb hp' ht' h => ?_
  exact hk w p' _ ty_P_Paragraph _ (by rw [hp']) (by rw [hp']) (by rw [hp']) (by decide) ⟨TM', t, nb, hp', ht', rfl, rfl, rfl⟩ (h.re)
 ·intro w p2 M2 IM2 p1 L1 tb q q' c' hpost hp2 hs2 hI2 h
  obtain ⟨TM', t, nb, hp1, ht1, rfl, rfl, rfl⟩ := hpost
  refine hR w p2 M2 IM2 TM' t nb q' c' _ ?_ hs2 (ht1.of (by rw [hp2]) (by rw [hp2]) (by rw [hp2])) hI2 (h.less PM)
  rw [hp2, hp1]
end Go.Proofs.YtgbgadkldalkbaaGreatDoor


set_option linter.unusedVariables false
namespace Go.Proofs.YtgbgadkldalkbaaGreatDoor
open Go.Proofs Go.IntWalk Go.RowKit
variable {σ : Out} {w : World} {L L' : List Chunk} {R : Ending → World → Prop}
inductive Leaf where
 | none
 | para (ls : List (List UInt8))
 | other (A : List OB → List Chunk → Prop)
def LeafAt : Leaf → List OB → List Chunk → Prop
 | .none, ob, M => ob = [] ∧ M = []
 | .para ls, ob, M => ∃ qb s e, ob = [paraOB qb s e] ∧ ParaAt qb ls M ∧ s < 1000000000 ∧ ls ≠ [] ∧ ls.length < 1048570
 | .other A, ob, M => A ob M
def rootV (rb : Nat) : Value := .iface ty_P_rootBuilder (.pointer (some ⟨rb, 0, none⟩))
def PS.base (p : PS) : PS := { p with lineno := 0, stq := none, stn := 0, stc := 0, depth := 0, corner := false, tq := none, tn := 0, tc := 0 }
def paraDB (nb t s e : Nat) (raw : List UInt8) : DB := ⟨.iface ty_P_Paragraph (.pointer (some ⟨nb, 0, none⟩)), [paraC nb s e t], [⟨t, s, e, raw⟩]⟩
def Leaf.fin : Leaf → Prop
 | .none => True
 | .para ls => (joinL [10] ls).length < 1073741824 ∧ joinL [10] ls ≠ [] ∧ ((joinL [10] ls).dropWhile isSTN).head? ≠ some 91
 | .other _ => False
def Leaf.finN : Leaf → Prop
 | .none => True
 | .para ls => (joinL [10] ls).length < 1073741824 ∧ joinL [10] ls ≠ [] ∧ NoRef (joinL [10] ls)
 | .other _ => False
theorem Leaf.fin.toN {lf : Leaf} (h : lf.fin) : lf.finN := by
 cases lf with
 | none => trivial
 | para ls => exact ⟨h.1, h.2.1, noRef_of (by have := h.1; omega) h.2.2⟩
 | other A => exact h
theorem meth_paraExtend : methB P ty_P_paraBuilder "pub-paratext/pub/rscmarkdown.extend" i_paraBuilder_extend = true := by kernel_rfl
theorem paraExtend_ok {q1 q2 : Option Addr} {l : Ln} (h : Sat σ w L) (hR : ∀ w, Sat σ w L → R (.returned (.tuple #[l.val, .bool false])) w) : callE P i_paraBuilder_extend #[.pointer q1, .pointer q2, l.val] R w := by
 refine g_paraBuilder_extend.sound ?_
 refine Sat.bx h fun b1 w h => ?_
 refine Sat.bx h fun b3 w h => ?_
 repeat (first | refine nilP_some ?_ | refine h.tk fun w h => ?_ | refine ⟨_, h.ldA, ?_⟩ | refine ⟨_, _, _, h.ldA, ?_⟩ | refine h.stA 0 fun w h => ?_ | refine h.stA 1 fun w h => ?_ | refine h.stA 2 fun w h => ?_ | refine h.stA 3 fun w h => ?_ | refine h.stA 4 fun w h => ?_ | refine h.stA 5 fun w h => ?_ | refine h.stA 6 fun w h => ?_ | refine h.bx fun b0 w h => ?_)
 exact hR _ h.tail.tail
theorem lineFields : (P.fieldsOf ty_line).toList.map (fun f => (f.name == "_", f.type, f.offset)) = [(false, ty_int, 0), (false, ty_int, 1), (false, ty_int, 2), (false, ty_string, 3), (false, ty_uint8, 4)] := by kernel_rfl
theorem eqFields_run {xs ys : Array Value} : ∀ {fs : List Field} {gs : List (TypeId × Nat)}, fs.map (fun f => (f.name == "_", f.type, f.offset)) = gs.map (fun g => (false, g.1, g.2)) →
 (∀ g ∈ gs, ∃ v, (part g.1 xs g.2).run P w = .ok v w ∧ (part g.1 ys g.2).run P w = .ok v w ∧ (Op.equalIn 9999 g.1 v v).run P w = .ok true w) → (Op.eqFields 9999 xs ys fs).run P w = .ok true w
 | [], [], _, _ => rfl
 | [], g :: gs, h, _ => by simp at h
 | f :: fs, [], h, _ => by simp at h
 | f :: fs, g :: gs, h, hg => by
  simp only [List.map_cons, List.cons.injEq, Prod.mk.injEq] at h
  obtain ⟨⟨h1, h2, h3⟩, h4⟩ := h
  obtain ⟨v, e1, e2, e3⟩ := hg g (List.mem_cons_self ..)
  have ih := eqFields_run h4 (fun g' hg' => hg g' (List.mem_cons_of_mem _ hg'))
  have hn : f.name ≠ "_" := by simpa using h1
  rw [← h2, ← h3] at e1 e2
  rw [← h2] at e3
  simp only [Op.eqFields, ne_eq, hn, not_false_eq_true, if_true, Sem.run_bind, e1, e2, e3, Result.andThen_ok, Bool.not_true, Bool.false_eq_true, if_false]
  exact ih
theorem und_int : P.underlying ty_int = some (.int .i64) := by kernel_rfl
theorem und_u8 : P.underlying ty_uint8 = some (.int .u8) := by kernel_rfl
theorem und_str : P.underlying ty_string = some .string := by kernel_rfl
theorem part_line {t : TypeId} {d : TypeDesc} (hd : P.underlying t = some d) (h1 : ∀ f, d ≠ .struct f) (h2 : ∀ n e, d ≠ .array n e) {cs : Array Value} {k : Nat} {v : Value} (hv : cs[k]? = some v) (w : World) : (part t cs k).run P w = .ok v w := by
 cases d <;> first | exact absurd rfl (h1 _) | exact absurd rfl (h2 _ _) | simp [part, isAgg, run_underlying hd, hv]
theorem fld_int {t : TypeId} {k : IntKind} (hu : P.underlying t = some (.int k)) {cs : Array Value} {i : Nat} {a : Int} (hv : cs[i]? = some (.int k a)) : ∃ v, (part t cs i).run P w = .ok v w ∧ (part t cs i).run P w = .ok v w ∧ (Op.equalIn 9999 t v v).run P w = .ok true w := by
 have hp := part_line hu (fun _ h => by cases h) (fun _ _ h => by cases h) hv w
 exact ⟨_, hp, hp, by rw [run_equalIn_int w 9998 t k k a a hu, beq_self_eq_true]⟩
theorem fld_str {cs : Array Value} {i : Nat} {a : ByteArray} (hv : cs[i]? = some (.string a)) : ∃ v, (part ty_string cs i).run P w = .ok v w ∧ (part ty_string cs i).run P w = .ok v w ∧ (Op.equalIn 9999 ty_string v v).run P w = .ok true w := by
 have hp := part_line und_str (fun _ h => by cases h) (fun _ _ h => by cases h) hv w
 exact ⟨_, hp, hp, by rw [run_equalIn_string w 9998 ty_string a a und_str, beq_self_eq_true]⟩
theorem neq_line (l : Ln) (x y : Operand) (w : World) : (do eqGuard .neq ty_line x y l.val l.val; binOp .neq ty_line l.val l.val).run P w = .ok (.bool false) w := by
 have hg : (eqGuard .neq ty_line x y l.val l.val).run P w = .ok () w := run_eqGuard_agg w .neq ty_line x y _ _ (by kernel_rfl)
 have hb := run_neq_struct (P := P) w ty_line #[.int .i64 l.sp, .int .i64 l.i, .int .i64 l.tab, .string (bs l.text), .int .u8 l.nl.toNat] #[.int .i64 l.sp, .int .i64 l.i, .int .i64 l.tab, .string (bs l.text), .int .u8 l.nl.toNat]
 have he : (Op.equalIn 10000 ty_line (.agg #[.int .i64 l.sp, .int .i64 l.i, .int .i64 l.tab, .string (bs l.text), .int .u8 l.nl.toNat]) (.agg #[.int .i64 l.sp, .int .i64 l.i, .int .i64 l.tab, .string (bs l.text), .int .u8 l.nl.toNat])).run P w = .ok true w := by
  rw [run_equalIn_struct w 9999 ty_line _ _ (by kernel_rfl) (by kernel_rfl)]
  refine eqFields_run (gs := [(ty_int, 0), (ty_int, 1), (ty_int, 2), (ty_string, 3), (ty_uint8, 4)]) lineFields ?_
  intro g hg
  simp only [List.mem_cons, List.mem_nil_iff, or_false] at hg
  rcases hg with rfl | rfl | rfl | rfl | rfl
  ·exact fld_int und_int rfl
  ·exact fld_int und_int rfl
  ·exact fld_int und_int rfl
  ·exact fld_str rfl
  ·exact fld_int und_u8 rfl
 rw [Sem.run_bind, hg, Result.andThen_ok]
 refine hb.trans ?_
 rw [he]; rfl
end Go.Proofs.YtgbgadkldalkbaaGreatDoor


set_option linter.unusedVariables false
namespace Go.Proofs.YtgbgadkldalkbaaGreatDoor
open Go.Proofs Go.IntWalk Go.RowKit
variable {σ : Out} {w : World} {L L' : List Chunk} {R : Ending → World → Prop}
theorem news_rounds {Xb : OA → Nat → WP} {Y : OA → Nat → OA → Nat → Nat → Int → Int → WP} {b b1 nb : Nat} {e : TypeId} {p : PS} {M : List Chunk} {l : Ln}
 (hY : ∀ x0 x3 x86q x86n x86c x87 x88 w, g_parseState_addLine.bl2 R Xb Y x0 x3 x86q x86n x86c x87 x88 w → Y x0 x3 x86q x86n x86c x87 x88 w) (i : Nat) :
 ∀ (k : Nat) w, i ≤ 8 → k ≤ i → (∀ j (hj : j < newsF.length), k ≤ j → j < i → Decl b p M l newsF[j]) → Sat σ w (p.at b :: M ++ (l.at b1 :: (nb, cel newsC e) :: L)) →
  (∀ w, Sat σ w (p.at b :: M ++ (l.at b1 :: (nb, cel newsC e) :: L)) → Y (some ⟨b, 0, none⟩) b1 (some ⟨nb, 0, none⟩) 8 8 8 (i : Nat) w) → Y (some ⟨b, 0, none⟩) b1 (some ⟨nb, 0, none⟩) 8 8 8 (k : Nat) w := by
 intro k
 generalize hm : i - k = m
 induction m generalizing k with
 | zero =>
  intro w hi hk hd h hE
  obtain rfl : k = i := by omega
  exact hE w h
 | succ m ih =>
  intro w hi hk hd h hE
  refine hY _ _ _ _ _ _ _ _ (br_true (by simp; omega) ⟨by omega, by omega, ?_⟩)
  have hl : k < newsF.length := by show k < 8; omega
  have hf := List.getElem?_eq_getElem hl
  refine nilP_some ?_
  simp only [Addr.add_lit, Nat.zero_add, Int.toNat_natCast, Nat.mul_one]
  have h : Sat σ w (l.at b1 :: (nb, cel newsC e) :: (p.at b :: (M ++ L))) := h.re
  refine ⟨_, Sat.ld h (.tail _ (.head _)) (newsC_get hf), ?_⟩
  refine ⟨_, Sat.ld h (.head _) rfl, _, Sat.ld h (.head _) rfl, _, Sat.ld h (.head _) rfl, _, Sat.ld h (.head _) rfl, _, Sat.ld h (.head _) rfl, ?_⟩
  have h : Sat σ w (p.at b :: M ++ (l.at b1 :: (nb, cel newsC e) :: L)) := h.re
  refine enter_fn ?_
  refine hd k hl (Nat.le_refl _) (by omega) σ w _ _ h fun w h => ⟨_, _, _, _, _, _, rfl, ?_⟩
  repeat (first | refine nilP_some ?_ | refine h.tk fun w h => ?_ | refine ⟨_, h.ldA, ?_⟩ | refine ⟨_, _, _, h.ldA, ?_⟩ | refine h.stA 0 fun w h => ?_ | refine h.stA 1 fun w h => ?_ | refine h.stA 2 fun w h => ?_ | refine h.stA 3 fun w h => ?_ | refine h.stA 4 fun w h => ?_ | refine h.stA 5 fun w h => ?_ | refine h.stA 6 fun w h => ?_ | refine h.bx fun b0 w h => ?_)
  rw [i64_inc (by omega)]
  have h : Sat σ _ (l.at b0 :: (p.at b :: M ++ (l.at b1 :: (nb, cel newsC e) :: L))) := h
  exact ih (k + 1) (by omega) _ hi (by omega) (fun j hj h1 h2 => hd j hj (by omega) h2) h.tail hE
theorem bl102_decl {Xb : OA → Nat → WP} {b b1 : Nat} {p : PS} {M : List Chunk} {l : Ln} (h : Sat σ w (p.at b :: M ++ (l.at b1 :: L))) (hd : ∀ f ∈ newsF, Decl b p M l f)
 (hP : ∀ w nb e (R' : Ending → World → Prop), Sat σ w (p.at b :: M ++ (l.at b1 :: (nb, cel newsC e) :: L)) → (∀ w k, R (.returned (.tuple #[])) w → R' (.returned (.tuple #[Ln.zero.val, .bool k])) w) → callE P i_newPara #[.pointer (some ⟨b, 0, none⟩), l.val] R' w) :
 g_parseState_addLine.bl102 R Xb (some ⟨b, 0, none⟩) b1 w := by
 refine news_ok h fun w nb e h => ⟨_, _, _, rfl, ?_⟩
 intro Y hY
 have h : Sat σ w (p.at b :: M ++ (l.at b1 :: (nb, cel newsC e) :: L)) := h.re
 refine news_rounds hY 8 0 w (by omega) (by omega) (fun j hj _ _ => hd _ (List.getElem_mem hj)) h fun w h => ?_
 refine hY _ _ _ _ _ _ _ _ (br_false (by simp) ?_)
 have hm : l.at b1 ∈ p.at b :: M ++ (l.at b1 :: (nb, cel newsC e) :: L) := by simp
 refine ⟨_, Sat.ld h hm (i := 0) rfl, _, Sat.ld h hm (i := 1) rfl, _, Sat.ld h hm (i := 2) rfl, _, Sat.ld h hm (i := 3) rfl, _, Sat.ld h hm (i := 4) rfl, ?_⟩
 exact hP w nb e _ h fun w k hR => ⟨_, _, _, _, _, _, rfl, hR⟩
def Ln.rest (l : Ln) : List UInt8 := (l.text.drop l.i).dropWhile isST
theorem trimSetext_no {b nb : Nat} {l : Ln} {v : Int} {e : TypeId} (h : Sat σ w (l.at b :: (nb, cel [.int .i64 v] e) :: L)) (hl : l.ok) (h1 : (l.lead 3 false).peek ≠ 45) (h2 : (l.lead 3 false).peek ≠ 61)
 (hR : ∀ w, Sat σ w (l.at b :: (nb, cel [.int .i64 v] e) :: L) → R (.returned (.bool false)) w) : callE P i_line_trimSetext #[.pointer (some ⟨b, 0, none⟩), .pointer (some ⟨nb, 0, none⟩)] R w := by
 refine g_line_trimSetext.sound ?_
 repeat (first | refine nilP_some ?_ | refine h.tk fun w h => ?_ | refine ⟨_, h.ldA, ?_⟩ | refine ⟨_, _, _, h.ldA, ?_⟩ | refine h.stA 0 fun w h => ?_ | refine h.stA 1 fun w h => ?_ | refine h.stA 2 fun w h => ?_ | refine h.stA 3 fun w h => ?_ | refine h.stA 4 fun w h => ?_ | refine h.stA 5 fun w h => ?_ | refine h.stA 6 fun w h => ?_ | refine h.bx fun b0 w h => ?_)
 have h : Sat σ _ (l.at b0 :: l.at b :: (nb, cel [.int .i64 v] e) :: L) := h
 refine lead_ok (max := 3) h hl (by decide) fun w h => ⟨_, rfl, ?_⟩
 refine peek_ok h (by first | assumption | (repeat (first | exact .head _ | apply List.Mem.tail))) (Ln.lead_ok hl) fun w h => ⟨_, rfl, ?_⟩
 rw [u8b _ 45 45 rfl, u8b _ 61 61 rfl]
 exact br_false (by simp [h1, h2]) (hR _ h.tail)
theorem eq_iface_same {t u e : TypeId} {i j : TypeInfo} {ms : Array (String × TypeId)} (hu : P.underlying t = some (.interface ms)) (hi : P.info? u = some i) (hc : i.comparable = true) (hp : P.underlying u = some (.pointer e)) (hj : P.info? e = some j) (hs : j.size ≠ 0) (b : Nat) (x y : Operand) (w : World) :
 (do eqGuard .eql t x y (.iface u (.pointer (some ⟨b, 0, none⟩))) (.iface u (.pointer (some ⟨b, 0, none⟩))); binOp .eql t (.iface u (.pointer (some ⟨b, 0, none⟩))) (.iface u (.pointer (some ⟨b, 0, none⟩)))).run P w = .ok (.bool true) w := by
 refine bin_eq rfl rfl ?_
 have h2 : ∀ d, (Op.equalIn (d + 1) u (.pointer (some ⟨b, 0, none⟩)) (.pointer (some ⟨b, 0, none⟩))).run P w = .ok true w := fun d => by
  simp [Op.equalIn, run_underlying hp, sizeOf, typeInfo, hj, hs, sameAddr]
 have h1 : ∀ d, (Op.equalIn (d + 2) t (.iface u (.pointer (some ⟨b, 0, none⟩))) (.iface u (.pointer (some ⟨b, 0, none⟩)))).run P w = .ok true w := fun d => by
  rw [Op.equalIn]
  simp [run_underlying hu, typeInfo, hi, hc, h2]
 exact h1 9998
theorem eq_para_same (b : Nat) (x y : Operand) (w : World) :
 (do eqGuard .eql ty_blockBuilder x y (.iface ty_P_paraBuilder (.pointer (some ⟨b, 0, none⟩))) (.iface ty_P_paraBuilder (.pointer (some ⟨b, 0, none⟩))); binOp .eql ty_blockBuilder (.iface ty_P_paraBuilder (.pointer (some ⟨b, 0, none⟩))) (.iface ty_P_paraBuilder (.pointer (some ⟨b, 0, none⟩)))).run P w = .ok (.bool true) w :=
 eq_iface_same und_bb (i := (P.info? ty_P_paraBuilder).getD default) (j := (P.info? ty_paraBuilder).getD default) (by kernel_rfl) (by kernel_rfl) und_para (by kernel_rfl) (by rw [show ((P.info? ty_paraBuilder).getD default).size = 2 by kernel_rfl]; decide) b x y w
structure Ln.cont (l : Ln) : Prop where
 plain : l.plain
 lt : (l.lead 3 false).peek ≠ 60
 dash : (l.lead 3 false).peek ≠ 45
 eq : (l.lead 3 false).peek ≠ 61
end Go.Proofs.YtgbgadkldalkbaaGreatDoor


set_option linter.unusedVariables false
namespace Go.Proofs.YtgbgadkldalkbaaGreatDoor
open Go.Proofs Go.IntWalk Go.RowKit
variable {σ : Out} {w : World} {L L' : List Chunk} {R : Ending → World → Prop}
structure TF where
 q : Option Addr
 n : Nat
 c : Nat
 vs : List Value
 RM : List Chunk
 KM : List Chunk
 KM' : List Chunk
 f : List UInt8 → List UInt8
def TF.ok (t : TF) : Prop := Sl 1 ty_Inline t.q t.n t.c t.vs t.RM ∧ t.n < 1073741824 ∧ PrintsL "PrintHTML" t.vs t.KM t.KM' t.f
def fill (x : TX) (t : TF) : List Chunk := textC x.t x.s x.e t.q t.n t.c x.raw :: (t.RM ++ t.KM)
end Go.Proofs.YtgbgadkldalkbaaGreatDoor


set_option linter.unusedVariables false
namespace Go.Proofs.YtgbgadkldalkbaaGreatDoor
open Go.Proofs Go.IntWalk Go.RowKit
variable {σ : Out} {w : World} {L L' : List Chunk} {R : Ending → World → Prop}
def methVB (P : Program) (t : TypeId) (name : String) (f : FuncId) : Bool :=
 match P.info? t with
 | some i => match i.methods.find? (·.name == name) with
  | some m => match m.path.toList with
   | [s] => s.deref && (match P.underlying s.struct with
    | some (.struct fields) => match fields[s.index]? with
     | some fd => Nat.beq fd.offset 0 && (match P.info? fd.type with
      | some ti => Nat.beq ti.size 2 && (match P.underlying fd.type with
       | some (.struct _) => (match m.func with | some (g, false) => Nat.beq g f | _ => false)
       | _ => false)
      | none => false)
     | none => false
    | _ => false)
   | _ => false
  | none => false
 | none => false
theorem methVB_run {P : Program} {t : TypeId} {name : String} {f : FuncId} (h : methVB P t name f = true) (b : Nat) (fuel : Nat) (w : World) {x y : Value} (hx : w.cell? ⟨b, 0, none⟩ = some x) (hy : w.cell? ⟨b, 1, none⟩ = some y) :
 (Go.method (fuel + 1) t (.pointer (some ⟨b, 0, none⟩)) name).run P w = .ok (f, .agg #[x, y]) w := by
 have hld : (loadCells ⟨b, 0, none⟩ 2).run P w = .ok #[x, y] w := by
  refine run_loadCells_list (P := P) (w := w) ⟨b, 0, none⟩ [x, y] ?_
  intro j v hj
  match j, hj with
  | 0, hj => cases hj; simpa [Addr.add] using hx
  | 1, hj => cases hj; simpa [Addr.add] using hy
 unfold methVB at h
 split at h
 ·rename_i i hi
  split at h
  ·rename_i m hm
   split at h
   ·rename_i s hp
    simp only [Bool.and_eq_true] at h
    obtain ⟨hd, h⟩ := h
    split at h
    ·rename_i fields hu
     split at h
     ·rename_i fd hf
      simp only [Bool.and_eq_true] at h
      obtain ⟨h0, h⟩ := h
      have h0 := Nat.eq_of_beq_eq_true h0
      split at h
      ·rename_i ti hti
       simp only [Bool.and_eq_true] at h
       obtain ⟨hsz, h⟩ := h
       have hsz := Nat.eq_of_beq_eq_true hsz
       split at h
       ·rename_i fs hfu
        split at h
        ·rename_i g hg
         have hgf := Nat.eq_of_beq_eq_true h
         subst hgf
         simp [Go.method, typeInfo, hi, hm, hp, Go.follow, run_underlying hu, hf, hd, Go.Place.get, asAddr, Go.fieldPlace, sizeOf, hti, hsz, h0, hg, Go.receiverAt, run_underlying hfu, Addr.add_lit, loadVar, isAgg, hld]
        ·cases h
       ·cases h
      ·cases h
     ·cases h
    ·cases h
   ·cases h
  ·cases h
 ·cases h
theorem enter_methV {t : TypeId} {name : String} {f : FuncId} {b : Nat} {args : Array Value} {x y : Value} (hm : methVB P t name f = true) (hx : w.cell? ⟨b, 0, none⟩ = some x) (hy : w.cell? ⟨b, 1, none⟩ = some y) (h : callE P f (#[.agg #[x, y]] ++ args) R w) :
 enterE P (callMethod (.iface t (.pointer (some ⟨b, 0, none⟩))) name args) R w := by
 obtain ⟨n, hn⟩ := depth_succ P
 have hr := methVB_run hm b n w hx hy
 have e : (callMethod (.iface t (.pointer (some ⟨b, 0, none⟩))) name args).run P w = (callFunc f (#[.agg #[x, y]] ++ args)).run P w := by
  simp only [callMethod, Sem.run_bind, run_program, Result.andThen_ok, hn, hr]
 unfold enterE
 rw [e]
 exact h.imp (fun h => ⟨f, _, w, h.1 _ _, h.2⟩) id
theorem position_ok {s e : Int} (h : Sat σ w L) (hR : ∀ w, Sat σ w L → R (.returned (.agg #[.int .i64 s, .int .i64 e])) w) : callE P i_Position_Pos #[.agg #[.int .i64 s, .int .i64 e]] R w := by
 refine g_Position_Pos.sound ?_
 refine Sat.bx h fun b1 w h => ?_
 refine Sat.bx h fun b3 w h => ?_
 repeat (first | refine nilP_some ?_ | refine h.tk fun w h => ?_ | refine ⟨_, h.ldA, ?_⟩ | refine ⟨_, _, _, h.ldA, ?_⟩ | refine h.stA 0 fun w h => ?_ | refine h.stA 1 fun w h => ?_ | refine h.stA 2 fun w h => ?_ | refine h.stA 3 fun w h => ?_ | refine h.stA 4 fun w h => ?_ | refine h.stA 5 fun w h => ?_ | refine h.stA 6 fun w h => ?_ | refine h.bx fun b0 w h => ?_)
 exact hR _ h.tail.tail
theorem pos_Paragraph : methVB P ty_P_Paragraph "Pos" i_Position_Pos = true := by kernel_rfl
theorem pos_Item : methVB P ty_P_Item "Pos" i_Position_Pos = true := by kernel_rfl
theorem pos_List : methVB P ty_P_List "Pos" i_Position_Pos = true := by kernel_rfl
theorem pos_Quote : methVB P ty_P_Quote "Pos" i_Position_Pos = true := by kernel_rfl
def DB.posIs (d : DB) (s e : Nat) : Prop :=
 ∀ (σ : Out) (R : Ending → World → Prop) (L : List Chunk) (w : World), (∀ c ∈ d.own, c ∈ L) → Sat σ w L → (∀ w, Sat σ w L → R (.returned (.agg #[.int .i64 s, .int .i64 e])) w) → enterE P (callMethod d.v "Pos" #[]) R w
theorem posIs_of {t : TypeId} {b s e : Nat} {cs : List Value} {ty : TypeId} {d : DB} (hm : methVB P t "Pos" i_Position_Pos = true) (hv : d.v = .iface t (.pointer (some ⟨b, 0, none⟩))) (ho : (b, cel (.int .i64 s :: .int .i64 e :: cs) ty) ∈ d.own) : d.posIs s e := by
 intro σ R L w hL h hR
 rw [hv]
 have hmem := hL _ ho
 exact enter_methV hm (Sat.ld h hmem (i := 0) rfl) (Sat.ld h hmem (i := 1) rfl) (position_ok h hR)
end Go.Proofs.YtgbgadkldalkbaaGreatDoor


set_option linter.unusedVariables false
namespace Go.Proofs.YtgbgadkldalkbaaGreatDoor
open Go.Proofs Go.IntWalk Go.RowKit
variable {σ : Out} {w : World} {L L' : List Chunk} {R : Ending → World → Prop}
theorem bl102_pass {Xb : OA → Nat → WP} {b b1 : Nat} {p : PS} {M : List Chunk} {l l2 : Ln} (i : Nat) (hi : i < newsF.length) (h : Sat σ w (p.at b :: M ++ (l.at b1 :: L))) (hd : ∀ j (hj : j < newsF.length), j < i → Decl b p M l newsF[j]) (hl2 : l2.ok) (hb2 : l2.blank = false)
 (hP : ∀ w nb e (R' : Ending → World → Prop), Sat σ w (p.at b :: M ++ (l.at b1 :: (nb, cel newsC e) :: L)) →
  (∀ w L2 (p2 : PS), p2.depth < 1000000 ∧ 0 ≤ p2.depth → Sat σ w (l.at b1 :: p2.at b :: L2) → (∀ w, Sat σ w (l2.at b1 :: ({ p2 with depth := p2.depth + 1 } : PS).at b :: L2) → Xb (some ⟨b, 0, none⟩) b1 w) → R' (.returned (.tuple #[l2.val, .bool true])) w) → callE P newsF[i] #[.pointer (some ⟨b, 0, none⟩), l.val] R' w) :
 g_parseState_addLine.bl102 R Xb (some ⟨b, 0, none⟩) b1 w := by
 have hi8 : i < 8 := hi
 refine news_ok h fun w nb e h => ⟨_, _, _, rfl, ?_⟩
 intro Y hY
 have h : Sat σ w (p.at b :: M ++ (l.at b1 :: (nb, cel newsC e) :: L)) := h.re
 refine news_rounds hY i 0 w (by omega) (by omega) (fun j hj _ h2 => hd j hj h2) h fun w h => ?_
 refine hY _ _ _ _ _ _ _ _ (br_true (by simp; omega) ⟨by omega, by omega, ?_⟩)
 have hf := List.getElem?_eq_getElem hi
 refine nilP_some ?_
 simp only [Addr.add_lit, Nat.zero_add, Int.toNat_natCast, Nat.mul_one]
 have h : Sat σ w (l.at b1 :: (nb, cel newsC e) :: (p.at b :: (M ++ L))) := h.re
 refine ⟨_, Sat.ld h (.tail _ (.head _)) (newsC_get hf), ?_⟩
 refine ⟨_, Sat.ld h (.head _) rfl, _, Sat.ld h (.head _) rfl, _, Sat.ld h (.head _) rfl, _, Sat.ld h (.head _) rfl, _, Sat.ld h (.head _) rfl, ?_⟩
 have h : Sat σ w (p.at b :: M ++ (l.at b1 :: (nb, cel newsC e) :: L)) := h.re
 refine enter_fn ?_
 refine hP w nb e _ h fun w L2 p2 hdep h hX => ⟨_, _, _, _, _, _, rfl, ?_⟩
 refine Sat.bx h fun b85 w h => ?_
 refine h.stA 0 fun w h => ?_
 refine h.stA 0 fun w h => ?_
 refine h.stA 0 fun w h => ?_
 refine h.stA 0 fun w h => ?_
 refine h.stA 0 fun w h => ?_
 have h : Sat σ w (l2.at b85 :: l.at b1 :: p2.at b :: L2) := h
 refine br_true rfl ?_
 refine ⟨_, h.ldA, ?_⟩
 refine ⟨_, h.ldA, ?_⟩
 refine ⟨_, h.ldA, ?_⟩
 refine ⟨_, h.ldA, ?_⟩
 refine ⟨_, h.ldA, ?_⟩
 refine h.stA 1 fun w h => ?_
 refine h.stA 1 fun w h => ?_
 refine h.stA 1 fun w h => ?_
 refine h.stA 1 fun w h => ?_
 refine h.stA 1 fun w h => ?_
 have h : Sat σ w (l2.at b85 :: l2.at b1 :: p2.at b :: L2) := h
 refine isBlank_ok h (.tail _ (.head _)) hl2 fun w h => ⟨_, rfl, ?_⟩
 rw [hb2]
 refine br_false rfl (nilP_some ?_)
 refine ⟨_, h.ldA, ?_⟩
 refine nilP_some ?_
 rw [i64_in _ (by omega)]
 refine Sat.st h (k := 2) rfl (by simp [PS.cells]) trivial rfl fun w h => ?_
 have h : Sat σ w (l2.at b85 :: l2.at b1 :: ({ p2 with depth := p2.depth + 1 } : PS).at b :: L2) := h
 exact hX w h.tail
def quoC (qb : Nat) : Chunk := (qb, cel [] ty_quoteBuilder)
def quoV (qb : Nat) : Value := .iface ty_P_quoteBuilder (.pointer (some ⟨qb, 0, none⟩))
theorem newQuote_yes {b : Nat} {p : PS} {ob : List OB} {M : List Chunk} {l l2 : Ln} (h : Sat σ w (p.at b :: M ++ L)) (hs : Stk p ob M) (hd : p.depth + 1 = ob.length) (hob : ob.length < 1048575) (hl : l.ok) (hq : l.quote = some l2)
 (hR : ∀ w p' M' qb, p' = { p with stq := p'.stq, stn := ob.length + 1, stc := p'.stc } → Stk p' (ob ++ [⟨quoV qb, none, 0, 0, p.lineno, p.lineno⟩]) M' → Sat σ w (p'.at b :: M' ++ (quoC qb :: L)) → R (.returned (.tuple #[l2.val, .bool true])) w) :
 callE P i_newQuote #[.pointer (some ⟨b, 0, none⟩), l.val] R w := by
 refine g_newQuote.sound ?_
 refine Sat.bx h fun b1 w h => ?_
 refine Sat.bx h fun b3 w h => ?_
 repeat (first | refine nilP_some ?_ | refine h.tk fun w h => ?_ | refine ⟨_, h.ldA, ?_⟩ | refine ⟨_, _, _, h.ldA, ?_⟩)
 have h : Sat σ _ (zLn b3 :: l.at b1 :: (p.at b :: M ++ L)) := h
 refine trimQuote_ok h hl ?_
 rw [hq]
 intro w h
 refine ⟨_, _, _, _, _, _, rfl, ?_⟩
 refine Sat.bx h fun b12 w h => ?_
 refine h.stA 0 fun w h => ?_
 refine h.stA 0 fun w h => ?_
 refine h.stA 0 fun w h => ?_
 refine h.stA 0 fun w h => ?_
 refine h.stA 0 fun w h => ?_
 refine br_true rfl ?_
 refine Sat.bx h fun qb w h => ?_
 have h : Sat σ w (quoC qb :: l2.at b12 :: zLn b3 :: l.at b1 :: (p.at b :: M ++ L)) := h
 have h : Sat σ w (p.at b :: M ++ (quoC qb :: l2.at b12 :: zLn b3 :: l.at b1 :: L)) := h.re
 refine addBlock_ok h hs hd hob fun w p' M' hp' hs' h => ⟨rfl, ?_⟩
 have h : Sat σ w (zLn b3 :: l2.at b12 :: (p'.at b :: M' ++ (quoC qb :: l.at b1 :: L))) := h.re
 repeat (first | refine nilP_some ?_ | refine h.tk fun w h => ?_ | refine ⟨_, h.ldA, ?_⟩ | refine ⟨_, _, _, h.ldA, ?_⟩ | refine h.stA 0 fun w h => ?_ | refine h.stA 1 fun w h => ?_ | refine h.stA 2 fun w h => ?_ | refine h.stA 3 fun w h => ?_ | refine h.stA 4 fun w h => ?_ | refine h.stA 5 fun w h => ?_ | refine h.stA 6 fun w h => ?_ | refine h.bx fun b0 w h => ?_)
 refine hR _ p' M' qb hp' hs' ?_
 have h : Sat σ _ (l2.at b3 :: l2.at b12 :: (p'.at b :: M' ++ (quoC qb :: l.at b1 :: L))) := h
 exact h.less [l2.at b3, l2.at b12, l.at b1]
end Go.Proofs.YtgbgadkldalkbaaGreatDoor


set_option linter.unusedVariables false
namespace Go.Proofs.YtgbgadkldalkbaaGreatDoor
open Go.Proofs Go.IntWalk Go.RowKit
variable {σ : Out} {w : World} {L L' : List Chunk} {R : Ending → World → Prop}
def Ln.bullet (l : Ln) : Option (UInt8 × Nat × Ln) :=
 if (l.strip 3 0).2.peek = 45 ∨ (l.strip 3 0).2.peek = 42 ∨ (l.strip 3 0).2.peek = 43 then
  match ((l.strip 3 0).2.trimC (l.strip 3 0).2.peek).bind (·.trimSp 1 1 true) with
  | none => none
  | some t2 => match (t2.strip 3 0).2.trimSp 1 1 true with
   | none => some ((l.strip 3 0).2.peek, (l.strip 3 0).1 + 2 + (t2.strip 3 0).1, (t2.strip 3 0).2)
   | some _ => some ((l.strip 3 0).2.peek, (l.strip 3 0).1 + 2, t2)
 else none
theorem Ln.bullet_ok {l t : Ln} {c : UInt8} {n : Nat} (hl : l.ok) (h : l.bullet = some (c, n, t)) : t.ok ∧ n ≤ 8 ∧ (c = 45 ∨ c = 42 ∨ c = 43) := by
 unfold Ln.bullet at h
 have h0 := Ln.strip_ok 3 0 hl
 split at h
 ·rename_i hc
  split at h
  ·cases h
  ·rename_i t2 h2
   obtain ⟨t1, e1, e2⟩ := Option.bind_eq_some_iff.1 h2
   have o2 := Ln.trimSp_ok (Ln.trimC_ok h0.1 e1) e2
   have h3 := Ln.strip_ok 3 0 o2
   split at h
   ·simp only [Option.some.injEq, Prod.mk.injEq] at h
    obtain ⟨rfl, rfl, rfl⟩ := h
    exact ⟨h3.1, by omega, hc⟩
   ·simp only [Option.some.injEq, Prod.mk.injEq] at h
    obtain ⟨rfl, rfl, rfl⟩ := h
    exact ⟨o2, by omega, hc⟩
 ·cases h
theorem slItem_k8 {b : Nat} {q : Option Addr} {l t : Ln} {c : UInt8} {n : Nat} (h : Sat σ w (l.at b :: L)) (hl : l.ok) (hb : l.bullet = some (c, n, t))
 (hK : ∀ w b0 b1 b2 (t' : Ln), Sat σ w (t.at b0 :: (b1, cel [.pointer q] ty_P_parseState) :: t'.at b2 :: l.at b :: L) → g_parseState_startListItem.k8 R b1 b0 (n : Nat) (c.toNat : Int) 0 w) :
 callE P i_parseState_startListItem #[.pointer q, .pointer (some ⟨b, 0, none⟩)] R w := by
 refine g_parseState_startListItem.sound ?_
 refine Sat.bx h fun b1 w h => ?_
 repeat (first | refine nilP_some ?_ | refine h.tk fun w h => ?_ | refine ⟨_, h.ldA, ?_⟩ | refine ⟨_, _, _, h.ldA, ?_⟩ | refine h.stA 0 fun w h => ?_ | refine h.stA 1 fun w h => ?_ | refine h.stA 2 fun w h => ?_ | refine h.stA 3 fun w h => ?_ | refine h.stA 4 fun w h => ?_ | refine h.stA 5 fun w h => ?_ | refine h.stA 6 fun w h => ?_ | refine h.bx fun b0 w h => ?_)
 have h : Sat σ _ (l.at b0 :: (b1, cel [.pointer q] ty_P_parseState) :: l.at b :: L) := h
 have k6 : ∀ (t2 t3 : Ln) (n0 m : Nat) b2 w, n0 ≤ 100 → m ≤ 100 → t2.ok → t3.ok → (match t3.trimSp 1 1 true with | none => some (c, n0 + m, t3) | some _ => some (c, n0, t2)) = some (c, n, t) →
  Sat σ w (t2.at b0 :: (b1, cel [.pointer q] ty_P_parseState) :: t3.at b2 :: l.at b :: L) → g_parseState_startListItem.k6 R b1 b0 (n0 : Nat) (c.toNat : Int) 0 b2 (m : Nat) w := by
  intro t2 t3 n0 m b2 w hn0 hm o2 o3 he h
  have h : Sat σ w (t3.at b2 :: t2.at b0 :: (b1, cel [.pointer q] ty_P_parseState) :: l.at b :: L) := h.re
  refine YtgbgadkldalkbaaGreatDoor.trimSp_ok (min := 1) (max := 1) h o3 (by decide) (by decide) ?_
  cases hs : t3.trimSp 1 1 true with
  | none =>
   rw [hs] at he
   simp only [Option.some.injEq, Prod.mk.injEq, true_and] at he
   obtain ⟨rfl, rfl⟩ := he
   intro w h
   refine ⟨_, rfl, br_true rfl ?_⟩
   refine ⟨_, h.ldA, ?_⟩
   refine ⟨_, h.ldA, ?_⟩
   refine ⟨_, h.ldA, ?_⟩
   refine ⟨_, h.ldA, ?_⟩
   refine ⟨_, h.ldA, ?_⟩
   refine h.stA 1 fun w h => ?_
   refine h.stA 1 fun w h => ?_
   refine h.stA 1 fun w h => ?_
   refine h.stA 1 fun w h => ?_
   refine h.stA 1 fun w h => ?_
   rw [show ((n0 : Nat) : Int) + ((m : Nat) : Int) = ((n0 + m : Nat) : Int) by omega, i64_in _ (by omega)]
   have h : Sat σ w (t3.at b2 :: t3.at b0 :: (b1, cel [.pointer q] ty_P_parseState) :: l.at b :: L) := h
   exact hK w b0 b1 b2 t3 (h.re)
  | some t4 =>
   rw [hs] at he
   simp only [Option.some.injEq, Prod.mk.injEq, true_and] at he
   obtain ⟨rfl, rfl⟩ := he
   intro w h
   refine ⟨_, rfl, br_false rfl ?_⟩
   exact hK w b0 b1 b2 t4 (h.re)
 have fin : ∀ (n0 : Nat) (t0 : Ln) w, t0.ok → n0 ≤ 3 → l.strip 3 0 = (n0, t0) → Sat σ w (t0.at b0 :: (b1, cel [.pointer q] ty_P_parseState) :: l.at b :: L) → g_parseState_startListItem.k1 R b1 b0 (n0 : Nat) w := by
  intro n0 t0 w o0 hn0 hst h
  unfold Ln.bullet at hb
  rw [hst] at hb
  simp only at hb
  split at hb
  case isFalse => cases hb
  rename_i hc
  refine peek_ok h (by first | assumption | (repeat (first | exact .head _ | apply List.Mem.tail))) o0 fun w h => ⟨_, rfl, ?_⟩
  split at hb
  case h_1 => cases hb
  rename_i t2 h2
  obtain ⟨t1, e1, e2⟩ := Option.bind_eq_some_iff.1 h2
  have ec : t0.peek = c := by
   split at hb <;> simp only [Option.some.injEq, Prod.mk.injEq] at hb <;> exact hb.1
  rw [ec] at hc e1 hb ⊢
  have o1 := Ln.trimC_ok o0 e1
  have o2 := Ln.trimSp_ok o1 e2
  have k2 : g_parseState_startListItem.k2 R b1 b0 (n0 : Nat) (c.toNat : Int) 0 (c.toNat : Int) true w := by
   refine br_true rfl ?_
   refine trimC_ok (c := c) rfl h o0 ?_
   rw [e1]
   intro w h
   refine ⟨_, rfl, ?_⟩
   unfold g_parseState_startListItem.k3
   refine YtgbgadkldalkbaaGreatDoor.trimSp_ok (min := 1) (max := 1) h o1 (by decide) (by decide) ?_
   rw [e2]
   intro w h
   refine ⟨_, rfl, br_false rfl ?_⟩
   refine ⟨_, h.ldA, ?_⟩
   refine ⟨_, h.ldA, ?_⟩
   refine ⟨_, h.ldA, ?_⟩
   refine ⟨_, h.ldA, ?_⟩
   refine ⟨_, h.ldA, ?_⟩
   refine Sat.bx h fun b2 w h => ?_
   refine h.stA 0 fun w h => ?_
   refine h.stA 0 fun w h => ?_
   refine h.stA 0 fun w h => ?_
   refine h.stA 0 fun w h => ?_
   refine h.stA 0 fun w h => ?_
   have h : Sat σ w (t2.at b2 :: t2.at b0 :: (b1, cel [.pointer q] ty_P_parseState) :: l.at b :: L) := h
   rw [i64_inc (by omega), i64_inc (by omega)]
   intro X hX
   have loop : ∀ k m (t3 : Ln) w, t3.ok → k + m = 3 → t3.strip k m = t2.strip 3 0 → Sat σ w (t3.at b2 :: t2.at b0 :: (b1, cel [.pointer q] ty_P_parseState) :: l.at b :: L) → X b1 b0 ((n0 + 1 + 1 : Nat) : Int) (c.toNat : Int) 0 b2 (m : Nat) (m : Nat) w := by
    intro k m t3 w o3 hk hs3 h
    induction k generalizing m t3 w with
    | zero =>
     have hs3 : (m, t3) = t2.strip 3 0 := hs3
     refine hX _ _ _ _ _ _ _ _ _ (br_false (by simp; omega) ?_)
     rw [← hs3] at hb
     exact k6 t2 t3 (n0 + 1 + 1) m b2 w (by omega) (by omega) o2 o3 hb (h.re)
    | succ k ih =>
     refine hX _ _ _ _ _ _ _ _ _ (br_true (by simp; omega) ?_)
     refine YtgbgadkldalkbaaGreatDoor.trimSp_ok (min := 1) (max := 1) h o3 (by decide) (by decide) ?_
     simp only [Ln.strip] at hs3
     cases hs : t3.trimSp 1 1 false with
     | none =>
      rw [hs] at hs3
      have hs3 : (m, t3) = t2.strip 3 0 := hs3
      rw [← hs3] at hb
      exact fun w h => ⟨_, rfl, br_false rfl (k6 t2 t3 (n0 + 1 + 1) m b2 w (by omega) (by omega) o2 o3 hb (h.re))⟩
     | some t' =>
      rw [hs] at hs3
      intro w h
      refine ⟨_, rfl, br_true rfl ?_⟩
      unfold g_parseState_startListItem.k5
      rw [i64_inc (by omega)]
      exact ih (m + 1) t' w (Ln.trimSp_ok o3 hs) (by omega) hs3 h
   exact loop 3 0 t2 w o2 rfl rfl h
  by_cases h45 : c = 45
  ·subst h45; exact br_true rfl k2
  refine br_false (beqf (d := 45) rfl h45) ?_
  by_cases h42 : c = 42
  ·subst h42; exact br_true rfl k2
  refine br_false (beqf (d := 42) rfl h42) ?_
  have h43 : c = 43 := by
   rcases hc with h | h | h
   ·exact absurd h h45
   ·exact absurd h h42
   ·exact h
  rw [show (((c.toNat : Nat) : Int) == 43) = true by rw [h43]; rfl]
  exact k2
 intro X hX
 have loop : ∀ k n (t : Ln) w, t.ok → k + n = 3 → t.strip k n = l.strip 3 0 → Sat σ w (t.at b0 :: (b1, cel [.pointer q] ty_P_parseState) :: l.at b :: L) → X b1 b0 n n w := by
  intro k n t w ht hk hp h
  induction k generalizing n t w with
  | zero => exact hX _ _ _ _ _ (br_false (by simp; omega) (fin n t w ht (by omega) hp.symm h))
  | succ k ih =>
   refine hX _ _ _ _ _ (br_true (by simp; omega) ?_)
   refine YtgbgadkldalkbaaGreatDoor.trimSp_ok (min := 1) (max := 1) h ht (by decide) (by decide) ?_
   simp only [Ln.strip] at hp
   cases hs : t.trimSp 1 1 false with
   | none =>
    rw [hs] at hp
    exact fun w h => ⟨_, rfl, br_true rfl (fin n t w ht (by omega) hp.symm h)⟩
   | some t' =>
    rw [hs] at hp
    intro w h
    refine ⟨_, rfl, br_false rfl ?_⟩
    rw [i64_inc (by omega)]
    exact ih (n + 1) t' w (Ln.trimSp_ok ht hs) (by omega) hp h
 exact loop 3 0 l _ hl rfl rfl h
structure Marks (l : Ln) (c : UInt8) (num n : Nat) (t : Ln) : Prop where
 ok : t.ok
 wd : n ≤ 100
 run : ∀ {σ : Out} {w : World} {L : List Chunk} {R : Ending → World → Prop} {b : Nat} {q : Option Addr}, Sat σ w (l.at b :: L) →
  (∀ w b0 b1 b2 (t' : Ln), Sat σ w (t.at b0 :: (b1, cel [.pointer q] ty_P_parseState) :: t'.at b2 :: l.at b :: L) → g_parseState_startListItem.k8 R b1 b0 (n : Nat) (c.toNat : Int) (num : Nat) w) →
  callE P i_parseState_startListItem #[.pointer q, .pointer (some ⟨b, 0, none⟩)] R w
theorem Ln.marks {l t : Ln} {c : UInt8} {n : Nat} (hl : l.ok) (hb : l.bullet = some (c, n, t)) : Marks l c 0 n t := by
 obtain ⟨ht, hn8, _⟩ := Ln.bullet_ok hl hb
 exact ⟨ht, by omega, fun h hK => slItem_k8 h hl hb hK⟩
def MarkC (x : UInt8) : Prop := isST x = false ∧ x ≠ 62 ∧ x ≠ 35
theorem markC_bul {c : UInt8} (hc : c = 45 ∨ c = 42 ∨ c = 43) : MarkC c := by rcases hc with rfl | rfl | rfl <;> exact ⟨by decide, by decide, by decide⟩
theorem i32_u8 (c : UInt8) : IntKind.i32.wrap ((c.toNat : Nat) : Int) = ((c.toNat : Nat) : Int) := by
 have := List.all_eq_true.1 (show (List.range 256).all (fun n => IntKind.i32.wrap (n : Int) == (n : Int)) = true by kernel_rfl) c.toNat (List.mem_range.2 c.toNat_lt)
 simpa using this
end Go.Proofs.YtgbgadkldalkbaaGreatDoor


set_option linter.unusedVariables false
namespace Go.Proofs.YtgbgadkldalkbaaGreatDoor
open Go.Proofs Go.IntWalk Go.RowKit
variable {σ : Out} {w : World} {L L' : List Chunk} {R : Ending → World → Prop}
def lisC (lb : Nat) (bul num : Int) (loose : Bool) (item : Option Addr) (todo : Value) : Chunk := (lb, cel [.int .i32 bul, .int .i64 num, .bool loose, .pointer item, todo] ty_listBuilder)
def lisV (lb : Nat) : Value := .iface ty_P_listBuilder (.pointer (some ⟨lb, 0, none⟩))
def iteC (ib lb n : Nat) (hv : Bool) : Chunk := (ib, cel [.pointer (some ⟨lb, 0, none⟩), .int .i64 n, .bool hv] ty_itemBuilder)
def iteV (ib : Nat) : Value := .iface ty_P_itemBuilder (.pointer (some ⟨ib, 0, none⟩))
def cloV (x2 x18 x15 x5 : Nat) : Value := .func (.func i_parseState_startListItem_1) #[] #[.pointer (some ⟨x2, 0, none⟩), .pointer (some ⟨x18, 0, none⟩), .pointer (some ⟨x15, 0, none⟩), .pointer (some ⟨x5, 0, none⟩)]
abbrev lptC (x lb : Nat) : Chunk := (x, cel [.pointer (some ⟨lb, 0, none⟩)] ty_P_listBuilder)
abbrev iptC (x ib : Nat) : Chunk := (x, cel [.pointer (some ⟨ib, 0, none⟩)] ty_P_itemBuilder)
theorem slItem_k13 {x2 x5 x15 lb n : Nat} {bul num : Int} {loose : Bool} {item : Option Addr} {td : Value} {t : Ln} (h : Sat σ w (lisC lb bul num loose item td :: t.at x5 :: lptC x15 lb :: L)) (ht : t.ok)
 (hR : ∀ w x18 ib, Sat σ w (lisC lb bul num loose item (cloV x2 x18 x15 x5) :: t.at x5 :: lptC x15 lb :: iptC x18 ib :: iteC ib lb n (!t.blank) :: L) → R (.returned (.bool true)) w) :
 g_parseState_startListItem.k13 R x2 x5 (n : Nat) x15 w := by
 have k14 : ∀ w x18 ib, Sat σ w (lisC lb bul num loose item td :: t.at x5 :: lptC x15 lb :: iptC x18 ib :: iteC ib lb n (!t.blank) :: L) → g_parseState_startListItem.k14 R x2 x5 x15 x18 w := by
  intro w x18 ib h
  refine ⟨_, Sat.ld h (.tail _ (.tail _ (.head _))) (i := 0) rfl, nilP_some ?_⟩
  refine h.stA 0 fun w h => ?_
  exact hR w x18 ib h
 have hm : lptC x15 lb ∈ (lisC lb bul num loose item td :: t.at x5 :: lptC x15 lb :: L) := .tail _ (.tail _ (.head _))
 refine Sat.tk h fun w h => ⟨some ⟨lb, 0, none⟩, Sat.ld h hm (i := 0) rfl, ?_, ?_⟩
 ·have h0 := h
  refine isBlank_ok h (.tail _ (.head _)) ht fun w h => ⟨_, rfl, h0.same h hm hm 1, ?_, ?_⟩
  ·refine Sat.bx h fun ib w h => ?_
   have h1 := h
   refine Sat.bx h fun x18 w h => ⟨h1.same h (.tail _ hm) (.tail _ (.tail _ hm)) 1, ?_⟩
   refine h.stA 0 fun w h => ?_
   have h : Sat σ w (iptC x18 ib :: iteC ib lb n (!t.blank) :: (lisC lb bul num loose item td :: t.at x5 :: lptC x15 lb :: L)) := h
   exact k14 w x18 ib (h.re)
  ·have h1 := h
   refine Sat.bx h fun x18 w h => ⟨h1.same h hm (.tail _ hm) 1, ?_⟩
   refine Sat.bx h fun ib w h => ?_
   have h : Sat σ w ((x18, cel [.pointer none] ty_P_itemBuilder) :: iteC ib lb n (!t.blank) :: (lisC lb bul num loose item td :: t.at x5 :: lptC x15 lb :: L)) := h.re (by intro _; simp only [iteC, List.append_eq, cnt_append, cnt_cons, cnt_nil] <;> omega)
   refine h.stA 0 fun w h => ?_
   have h : Sat σ w (iptC x18 ib :: iteC ib lb n (!t.blank) :: (lisC lb bul num loose item td :: t.at x5 :: lptC x15 lb :: L)) := h
   exact k14 w x18 ib (h.re)
 ·have h1 := h
  refine Sat.bx h fun x18 w h => ⟨h1.same h hm (.tail _ hm) 1, ?_⟩
  have h0 := h
  refine isBlank_ok h (.tail _ (.tail _ (.head _))) ht fun w h => ⟨_, rfl, h0.same h (.tail _ hm) (.tail _ hm) 1, ?_⟩
  refine Sat.bx h fun ib w h => ?_
  have h : Sat σ w ((x18, cel [.pointer none] ty_P_itemBuilder) :: iteC ib lb n (!t.blank) :: (lisC lb bul num loose item td :: t.at x5 :: lptC x15 lb :: L)) := h.re (by intro _; simp only [iteC, List.append_eq, cnt_append, cnt_cons, cnt_nil] <;> omega)
  refine h.stA 0 fun w h => ?_
  have h : Sat σ w (iptC x18 ib :: iteC ib lb n (!t.blank) :: (lisC lb bul num loose item td :: t.at x5 :: lptC x15 lb :: L)) := h
  exact k14 w x18 ib (h.re)
theorem und_PlB : P.underlying ty_P_listBuilder = some (.pointer ty_listBuilder) := by kernel_rfl
theorem und_PpB : P.underlying ty_P_paraBuilder = some (.pointer ty_paraBuilder) := by kernel_rfl
theorem ta_nil_list (w : World) : (Instr.typeAssert .nilIface ty_blockBuilder ty_P_listBuilder true).run P w = .ok (.tuple #[.pointer none, .bool false]) w := by
 have hi : P.info? ty_P_listBuilder = some ((P.info? ty_P_listBuilder).getD default) := by kernel_rfl
 have hz : ((P.info? ty_P_listBuilder).getD default).zero = some (.pointer none) := by kernel_rfl
 generalize (P.info? ty_P_listBuilder).getD default = i at hi hz
 simp [Instr.typeAssert, run_underlying und_PlB, zeroValue, typeInfo, hi, hz]
theorem ta_list_list (q : Option Addr) (w : World) : (Instr.typeAssert (.iface ty_P_listBuilder (.pointer q)) ty_blockBuilder ty_P_listBuilder true).run P w = .ok (.tuple #[.pointer q, .bool true]) w :=
 ta_yes (by rw [und_PlB]; intro ms h; cases h) und_PlB w
theorem slItem_new {b b1 : Nat} {p : PS} {ob : List OB} {o : OB} {M : List Chunk} {l t : Ln} {c : UInt8} {num n : Nat} {ty : TypeId} {v : Value} (h : Sat σ w (l.at b1 :: (p.at b :: M ++ L))) (hs : Stk p (ob ++ [o]) M) (hd : p.depth = ob.length) (hob : ob.length < 1048570)
 (ho : o.bd = .iface ty v) (hty : ty ≠ ty_P_paraBuilder) (hl : l.ok) (hb : Marks l c num n t)
 (hR : ∀ w p' M' lb x2 x5 x15 x18 ib, p' = { p with stq := p'.stq, stn := ob.length + 2, stc := p'.stc } → Stk p' (ob ++ [o] ++ [⟨lisV lb, none, 0, 0, p.lineno, p.lineno⟩]) M' →
  Sat σ w (l.at b1 :: (p'.at b :: M' ++ (lisC lb c.toNat (num : Nat) false none (cloV x2 x18 x15 x5) :: (x2, cel [.pointer (some ⟨b, 0, none⟩)] ty_P_parseState) :: t.at x5 :: lptC x15 lb :: iptC x18 ib :: iteC ib lb n (!t.blank) :: L))) → R (.returned (.bool true)) w) :
 callE P i_parseState_startListItem #[.pointer (some ⟨b, 0, none⟩), .pointer (some ⟨b1, 0, none⟩)] R w := by
 have ht := hb.ok
 refine hb.run h fun w x5 x2 x12 t' h => ?_
 refine Sat.bx h fun x15 w h => ?_
 refine ⟨_, Sat.ld h (.tail _ (.tail _ (.head _))) (i := 0) rfl, ?_⟩
 have h : Sat σ w (p.at b :: M ++ ((x15, cel [.pointer none] ty_P_listBuilder) :: (x2, cel [.pointer (some ⟨b, 0, none⟩)] ty_P_parseState) :: t.at x5 :: t'.at x12 :: l.at b1 :: L)) := h.re
 refine nextB_ok (d := ob.length) h hs hd (by omega) fun w h => ⟨_, rfl, ?_⟩
 rw [List.getElem?_eq_none (by simp)]
 refine ⟨none, false, w, ta_nil_list w, br_false rfl ?_⟩
 have h : Sat σ w ((x15, cel [.pointer none] ty_P_listBuilder) :: (x2, cel [.pointer (some ⟨b, 0, none⟩)] ty_P_parseState) :: t.at x5 :: (p.at b :: M ++ (t'.at x12 :: l.at b1 :: L))) := h.re
 refine ⟨_, Sat.ld h (.head _) (i := 0) rfl, _, _, ptrNil_eq und_PlB _ w, br_true rfl (br_true rfl ?_)⟩
 refine ⟨_, Sat.ld h (.head _) (i := 0) rfl, _, _, ptrNil_eq und_PlB _ w, br_true rfl ?_⟩
 refine ⟨_, Sat.ld h (.tail _ (.head _)) (i := 0) rfl, ?_⟩
 have h : Sat σ w (p.at b :: M ++ ((x15, cel [.pointer none] ty_P_listBuilder) :: (x2, cel [.pointer (some ⟨b, 0, none⟩)] ty_P_parseState) :: t.at x5 :: t'.at x12 :: l.at b1 :: L)) := h.re
 refine top_ok h hs ho (fun w h => ?_) (fun hh => absurd hh hty)
 rw [if_neg hty]
 refine ⟨none, rfl, _, w, neq_ptr_nil und_PpB none w, br_false rfl (br_false rfl ?_)⟩
 refine Sat.bx h fun lb w h => ?_
 have h : Sat σ w ((x15, cel [.pointer none] ty_P_listBuilder) :: (lb, cel [.int .i32 (IntKind.i32.wrap (c.toNat : Nat)), .int .i64 (num : Nat), .bool false, .pointer none, .nilFunc] ty_listBuilder) :: (x2, cel [.pointer (some ⟨b, 0, none⟩)] ty_P_parseState) :: t.at x5 :: (p.at b :: M ++ (t'.at x12 :: l.at b1 :: L))) := h.re
 refine h.stA 0 fun w h => ?_
 rw [i32_u8] at h
 have h : Sat σ w (lptC x15 lb :: lisC lb c.toNat (num : Nat) false none .nilFunc :: (x2, cel [.pointer (some ⟨b, 0, none⟩)] ty_P_parseState) :: t.at x5 :: (p.at b :: M ++ (t'.at x12 :: l.at b1 :: L))) := h
 refine ⟨_, Sat.ld h (.tail _ (.tail _ (.head _))) (i := 0) rfl, _, Sat.ld h (.head _) (i := 0) rfl, ?_⟩
 have h : Sat σ w (p.at b :: M ++ (lptC x15 lb :: lisC lb c.toNat (num : Nat) false none .nilFunc :: (x2, cel [.pointer (some ⟨b, 0, none⟩)] ty_P_parseState) :: t.at x5 :: (t'.at x12 :: l.at b1 :: L))) := h.re
 refine addBlock_ok h hs (by simp; omega) (by simp; omega) fun w p' M' hp' hs' h => ⟨rfl, ?_⟩
 have h : Sat σ w (lisC lb c.toNat (num : Nat) false none .nilFunc :: t.at x5 :: lptC x15 lb :: (p'.at b :: M' ++ ((x2, cel [.pointer (some ⟨b, 0, none⟩)] ty_P_parseState) :: (t'.at x12 :: l.at b1 :: L)))) := h.re
 refine slItem_k13 h ht fun w x18 ib h => ?_
 refine hR w p' M' lb x2 x5 x15 x18 ib (by rw [hp']; simp) hs' ?_
 exact h.less [t'.at x12]
end Go.Proofs.YtgbgadkldalkbaaGreatDoor

