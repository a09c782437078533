/- Part 3 of the proof of the law FnKeptTree: for every input the law returns true, the inputs read as they did, and memory that was there is as it was; under the conditions of the given row alone. -/
import Derived.Lib.UnsafeStr
import Derived.Lib.BufferWrite
import Derived.Lib.BufferRead
import Derived.Laws.IdiomStrings
import Derived.Laws.MakeOwn
import Derived.Laws.Slices
import Derived.Shelf.Bytes.GrowSlice
import Derived.Laws.Externs
import Derived.Lib.Bytealg
import Derived.Lib.MakeNoZero
import Derived.Lib.Builder
import Derived.Laws.StructEq
import Derived.Laws.RangeString
import Derived.Test.YtgbgadkldalkbaaGreatDoorA2
set_option linter.all false
set_option linter.unusedVariables false
namespace Go.Proofs.YtgbgadkldalkbaaGreatDoor
open Go.Proofs Go.IntWalk
variable {σ : Out} {w : World} {L L' : List Chunk} {R : Ending → World → Prop}

def docC (db s e : Nat) (q : Option Addr) (n c : Nat) (links : Option Nat) : Chunk := (db, cel [.int .i64 s, .int .i64 e, .slice q n c, .map links] ty_Document)
theorem rootBuild_ok {b : Nat} {rq : Option Addr} {p : PS} {ob : List OB} {o : OB} {M : List Chunk} (h : Sat σ w (p.at b :: M ++ L)) (hs : Stk p (ob ++ [o]) M)
 (hR : ∀ w db, Sat σ w (p.at b :: M ++ (docC db o.s o.e o.q o.n o.c p.links :: L)) → R (.returned (.iface ty_P_Document (.pointer (some ⟨db, 0, none⟩)))) w) :
 callE P i_rootBuilder_build #[.pointer rq, .iface ty_P_parseState (.pointer (some ⟨b, 0, none⟩))] R w := by
 refine g_rootBuilder_build.sound ?_
 refine h.tk fun w h => ?_
 refine ⟨_, ta_ps _, nilP_some ?_⟩
 refine ⟨_, h.ldA, ?_⟩
 have h0 := h
 refine enter_meth meth_pos ?_
 refine pos_ok h hs fun w h => ⟨_, _, rfl, h0.same h (.head _) (.head _) 1, ?_⟩
 have h1 := h
 refine enter_meth meth_blocks ?_
 refine blocks_ok h hs fun w h => ⟨_, _, _, rfl, h1.same h (.head _) (.head _) 1, ?_⟩
 refine Sat.bx h fun db w h => ?_
 have h : Sat σ w (docC db o.s o.e o.q o.n o.c p.links :: (p.at b :: M ++ L)) := h
 exact hR w db (h.re)
theorem ta_doc (q : Option Addr) (w : World) : (Instr.typeAssert (.iface ty_P_Document (.pointer q)) ty_Block ty_P_Document false).run P w = .ok (.pointer q) w := by
 have hund : P.underlying ty_P_Document = some (.pointer ty_Document) := by kernel_rfl
 exact ta_yes1 (by rw [hund]; intro ms h; cases h) hund w
theorem closeRoot_ok {b rb : Nat} {p : PS} {o : OB} {M : List Chunk} (h : Sat σ w (p.at b :: M ++ L)) (hs : Stk p [o] M) (ho : o.bd = .iface ty_P_rootBuilder (.pointer (some ⟨rb, 0, none⟩)))
 (hR : ∀ w db, Sat σ w ({ p with stn := 0, root := some ⟨db, 0, none⟩ }.at b :: M ++ (docC db o.s o.e o.q o.n o.c p.links :: L)) → R (.returned (.iface ty_P_Document (.pointer (some ⟨db, 0, none⟩)))) w) :
 callE P i_parseState_closeBlock #[.pointer (some ⟨b, 0, none⟩)] R w := by
 have hn := hs.2.1
 have hs' : Stk p ([] ++ [o]) M := hs
 obtain ⟨sb, sp, hq, rfl, hsp⟩ := hs.split (by simp)
 simp only [List.length_singleton] at hn
 refine g_parseState_closeBlock.sound ?_
 refine h.tk fun w h => ?_
 refine nilP_some (nilP_some ?_)
 refine ⟨_, _, _, h.ldA, ?_⟩
 refine ⟨_, _, _, h.ldA, ?_⟩
 rw [hn, show IntKind.i64.wrap (((1 : Nat) : Int) - 1) = ((0 : Nat) : Int) from rfl]
 refine ⟨by omega, by omega, ?_⟩
 rw [hq]
 refine nilP_some ?_
 simp only [Addr.add_lit, Nat.zero_add, Int.toNat_natCast, Nat.zero_mul]
 have hg : (([] : List OB) ++ [o])[0]? = some o := rfl
 refine ⟨o.bd, Sat.ld h (.tail _ (.head _)) rfl, false, w, by rw [ho]; exact eq_iface_nil und_bb _ _ w, br_false rfl ?_⟩
 refine nilP_some ?_
 refine ⟨o.bd, Sat.ld h (.tail _ (.head _)) rfl, ?_⟩
 rw [ho]
 refine enter_meth meth_rootBuild ?_
 refine rootBuild_ok (ob := []) h hs' fun w db h => ⟨_, rfl, none, false, w, ta_list_no (by decide) w, br_false rfl ?_⟩
 refine h.tk fun w h => ?_
 refine nilP_some (nilP_some ?_)
 refine ⟨_, _, _, h.ldA, ?_⟩
 refine ⟨_, _, _, h.ldA, ?_⟩
 have hcap : 1 ≤ p.stc := by have := hs.1.2.1; rw [hn] at this; exact this
 rw [hn, show IntKind.i64.wrap (((1 : Nat) : Int) - 1) = ((0 : Nat) : Int) from rfl, hq]
 refine ⟨_, _, _, fun w => sliceTo rowOB.ht rowOB.hi sb 1 p.stc 0 (by omega) hcap w, ?_⟩
 refine nilP_some ?_
 refine h.stA 0 fun w h => ?_
 refine nilP_some ?_
 refine ⟨_, _, _, h.ldA, ?_⟩
 refine br_false rfl ?_
 refine ⟨_, _, ta_doc _ _, nilP_some ?_⟩
 refine h.stA 0 fun w h => ?_
 refine hR _ db ?_
 have e : ({ p with stn := 0, root := some ⟨db, 0, none⟩ } : PS) = { p with stq := some ⟨sb, 0, none⟩, stn := 0, root := some ⟨db, 0, none⟩ } := by rw [← hq]
 rw [e]
 exact h
end Go.Proofs.YtgbgadkldalkbaaGreatDoor


set_option linter.unusedVariables false
set_option maxRecDepth 20000
namespace Go.Proofs.YtgbgadkldalkbaaGreatDoor
open Go.Proofs
namespace g_strings_Builder_String
noncomputable def body : Code := bodyOf Tryz.f84
end g_strings_Builder_String
def g_strings_Builder_String (R : EP) (x0 : OA) (w : World) : Prop :=
 tk w fun w1 =>
 nilP x0 fun a2 =>
 nilP x0 fun a3 =>
 ∃ (v4q : OA), ∃ (v4n : Nat), ∃ (v4c : Nat), w1.cell? (a2.add 1) = some (.slice v4q v4n v4c) ∧
 ∃ (v5q : OA), ∃ (v5n : Nat), ∃ (v5c : Nat), w1.cell? (a3.add 1) = some (.slice v5q v5n v5c) ∧
 ∃ (r6 : OA), ∃ w7, (Builtin.unsafeSliceData_ #[ty_S_uint8] ty_P_uint8 #[.slice v4q v4n v4c]).run P w1 = .ok (.pointer r6) w7 ∧
 SameC w1 w7 (a3.add 1) 1 ∧
 ∃ (r8 : BA), ∃ w9, (Builtin.unsafeString_ #[ty_P_uint8, ty_int] ty_string #[.pointer r6, .int .i64 (v5n : Int)]).run P w7 = .ok (.string r8) w9 ∧
 R (.returned (.string r8)) w9

namespace g_strings_Builder_String
noncomputable def ac (R : EP) : AC :=
 (.seq (.leaf (sel [0] body)) (.seq (.draw (.pure 0 (.pure 1 (.pure 2 (.pure 5 (.pure 6 (.pure 7 (.load 3 (.load 8 (.pure 9 (.one 4 (.one 10 (.pure 11 .done)))))))))))) (sel [1,0] body)) (.leaf (sel [1,1] body))))
theorem good (R : EP) : Good P 14 (ac R) (QF P [.tmp 2] R) :=
 ⟨trivial, ⟨⟨by kernel_rfl, by kernel_rfl, fun _ _ _ h => h⟩, trivial⟩⟩
theorem eq (R : EP) (x0 : OA) (w : World) : g_strings_Builder_String R x0 w = vcA P 14 (ac R) (QF P [.tmp 2] R) (fr0 [.pointer x0]) w := by kernel_rfl
theorem sound {R : EP} {x0 : OA} {w : World} (h : g_strings_Builder_String R x0 w) : callE P i_strings_Builder_String #[.pointer x0] R w :=
 callE_fz (c := body) Tryz.func84 Tryz.call84 (good R) (eq R x0 w) h
end g_strings_Builder_String
namespace g_strings_Builder_WriteByte
noncomputable def body : Code := bodyOf Tryz.f83
end g_strings_Builder_WriteByte
def g_strings_Builder_WriteByte (R : EP) (x0 : OA) (x1 : Int) (w : World) : Prop :=
 callE P i_strings_Builder_copyCheck #[.pointer x0] (fun e w2 => e = .returned (.tuple #[]) ∧
 nilP x0 fun a3 =>
 ∃ (v4q : OA), ∃ (v4n : Nat), ∃ (v4c : Nat), w2.cell? (a3.add 1) = some (.slice v4q v4n v4c) ∧
 ∃ (r5q : OA), ∃ (r5n : Nat), ∃ (r5c : Nat), ∃ w6, (Instr.buildSlice ty_S_uint8 1 #[(0, .int .u8 x1)]).run P w2 = .ok (.slice r5q r5n r5c) w6 ∧
 ∃ (r7q : OA), ∃ (r7n : Nat), ∃ (r7c : Nat), ∃ w8, (Builtin.append_ #[ty_S_uint8, ty_S_uint8] ty_S_uint8 #[.slice v4q v4n v4c, .slice r5q r5n r5c]).run P w6 = .ok (.slice r7q r7n r7c) w8 ∧
 nilP x0 fun a9 =>
 stV w8 ((a9.add 1).add 0) (.slice r7q r7n r7c) fun w10 =>
 R (.returned .nilIface) w10) w

namespace g_strings_Builder_WriteByte
noncomputable def ac (R : EP) : AC :=
 (.leaf (sel [] body))
theorem good (R : EP) : Good P 17 (ac R) (QF P [.tmp 4] R) :=
 trivial
theorem eq (R : EP) (x0 : OA) (x1 : Int) (w : World) : g_strings_Builder_WriteByte R x0 x1 w = vcA P 17 (ac R) (QF P [.tmp 4] R) (fr0 [.pointer x0, .int .u8 x1]) w := by kernel_rfl
theorem sound {R : EP} {x0 : OA} {x1 : Int} {w : World} (h : g_strings_Builder_WriteByte R x0 x1 w) : callE P i_strings_Builder_WriteByte #[.pointer x0, .int .u8 x1] R w :=
 callE_fz (c := body) Tryz.func83 Tryz.call83 (good R) (eq R x0 x1 w) h
end g_strings_Builder_WriteByte
namespace g_strings_Builder_WriteString
noncomputable def body : Code := bodyOf Tryz.f82
end g_strings_Builder_WriteString
def g_strings_Builder_WriteString (R : EP) (x0 : OA) (x1 : BA) (w : World) : Prop :=
 callE P i_strings_Builder_copyCheck #[.pointer x0] (fun e w2 => e = .returned (.tuple #[]) ∧
 nilP x0 fun a3 =>
 ∃ (v4q : OA), ∃ (v4n : Nat), ∃ (v4c : Nat), w2.cell? (a3.add 1) = some (.slice v4q v4n v4c) ∧
 ∃ (r5q : OA), ∃ (r5n : Nat), ∃ (r5c : Nat), ∃ w6, (Builtin.append_ #[ty_S_uint8, ty_string] ty_S_uint8 #[.slice v4q v4n v4c, .string x1]).run P w2 = .ok (.slice r5q r5n r5c) w6 ∧
 nilP x0 fun a7 =>
 stV w6 ((a7.add 1).add 0) (.slice r5q r5n r5c) fun w8 =>
 R (.returned (.tuple #[.int .i64 (x1.size : Int), .nilIface])) w8) w

namespace g_strings_Builder_WriteString
noncomputable def ac (R : EP) : AC :=
 (.leaf (sel [] body))
theorem good (R : EP) : Good P 19 (ac R) (QF P [.tmp 4, .tmp 5] R) :=
 trivial
theorem eq (R : EP) (x0 : OA) (x1 : BA) (w : World) : g_strings_Builder_WriteString R x0 x1 w = vcA P 19 (ac R) (QF P [.tmp 4, .tmp 5] R) (fr0 [.pointer x0, .string x1]) w := by kernel_rfl
theorem sound {R : EP} {x0 : OA} {x1 : ByteArray} {w : World} (h : g_strings_Builder_WriteString R x0 x1 w) : callE P i_strings_Builder_WriteString #[.pointer x0, .string x1] R w :=
 callE_fz (c := body) Tryz.func82 Tryz.call82 (good R) (eq R x0 x1 w) h
end g_strings_Builder_WriteString
namespace g_strings_Builder_copyCheck
noncomputable def body : Code := bodyOf Tryz.f122
end g_strings_Builder_copyCheck
def g_strings_Builder_copyCheck (R : EP) (x0 : OA) (w : World) : Prop :=
 nilP x0 fun a1 =>
 ∃ (v2 : OA), w.cell? a1 = some (.pointer v2) ∧
 ∃ (r3 : Bool), ∃ w4, (do eqGuard .eql ty_P_strings_Builder (.tmp 5) (.const (.pointer none)) (.pointer v2) (.pointer none); binOp .eql ty_P_strings_Builder (.pointer v2) (.pointer none)).run P w = .ok (.bool r3) w4 ∧
 br r3
 (∃ (r5 : OA), ∃ w6, (convert ty_P_strings_Builder ty_unsafe_Pointer (.pointer x0)).run P w4 = .ok (.pointer r5) w6 ∧
 callE P i_internal_abi_NoEscape #[.pointer r5] (fun e w8 => ∃ (r7 : OA), e = .returned (.pointer r7) ∧
 ∃ (r9 : OA), ∃ w10, (convert ty_unsafe_Pointer ty_P_strings_Builder (.pointer r7)).run P w8 = .ok (.pointer r9) w10 ∧
 nilP x0 fun a11 =>
 stV w10 (a11.add 0) (.pointer r9) fun w12 =>
 R (.returned (.tuple #[])) w12) w6)
 (nilP x0 fun a13 =>
 ∃ (v14 : OA), w4.cell? a13 = some (.pointer v14) ∧
 ∃ (r15 : Bool), ∃ w16, (do eqGuard .neq ty_P_strings_Builder (.tmp 17) (.tmp 18) (.pointer v14) (.pointer x0); binOp .neq ty_P_strings_Builder (.pointer v14) (.pointer x0)).run P w4 = .ok (.bool r15) w16 ∧
 br r15
 (False)
 (R (.returned (.tuple #[])) w16))

namespace g_strings_Builder_copyCheck
noncomputable def ac (R : EP) : AC :=
 (.leaf (sel [] body))
theorem good (R : EP) : Good P 20 (ac R) (QF P [] R) :=
 trivial
theorem eq (R : EP) (x0 : OA) (w : World) : g_strings_Builder_copyCheck R x0 w = vcA P 20 (ac R) (QF P [] R) (fr0 [.pointer x0]) w := by kernel_rfl
theorem sound {R : EP} {x0 : OA} {w : World} (h : g_strings_Builder_copyCheck R x0 w) : callE P i_strings_Builder_copyCheck #[.pointer x0] R w :=
 callE_fz (c := body) Tryz.func122 Tryz.call122 (good R) (eq R x0 w) h
end g_strings_Builder_copyCheck
end Go.Proofs.YtgbgadkldalkbaaGreatDoor

set_option linter.unusedVariables false
namespace Go.Proofs.YtgbgadkldalkbaaGreatDoor
open Go.Proofs Go.IntWalk
variable {σ : Out} {w : World} {L L' : List Chunk} {R : Ending → World → Prop}

noncomputable def rowU8 : Row P ty_S_uint8 ty_uint8 1 1 :=
 ⟨(P.info? ty_uint8).getD default, ((P.info? ty_uint8).bind (·.zero)).getD default, by kernel_rfl, by kernel_rfl, by kernel_rfl, by kernel_rfl, by kernel_rfl, by kernel_rfl, by decide⟩
def bc (l : List UInt8) : List Value := l.map fun c => .int .u8 (c.toNat : Int)
@[simp] theorem bc_length (l : List UInt8) : (bc l).length = l.length := by simp [bc]
theorem bc_append (a b : List UInt8) : bc (a ++ b) = bc a ++ bc b := by simp [bc]
theorem bc_get {l : List UInt8} {j : Nat} (h : j < l.length) : (bc l)[j]? = some (.int .u8 (l[j].toNat : Int)) := by simp [bc, h]
abbrev By (q : Option Addr) (n c : Nat) (l : List UInt8) (M : List Chunk) : Prop := Sl 1 ty_uint8 q n c (bc l) M
theorem By.len {q : Option Addr} {n c : Nat} {l : List UInt8} {M : List Chunk} (h : By q n c l M) : n = l.length := by
 have := h.1
 rw [bc_length] at this
 omega
theorem By.nil : By none 0 0 [] [] := Sl.nil 1 ty_uint8

theorem byteCells_bs (s : List UInt8) : Go.byteCells (bs s) = bc s := by
 simp [Go.byteCells, bc, bs]
theorem By.appS {q : Option Addr} {n c : Nat} {l : List UInt8} {M : List Chunk} (hS : By q n c l M) (h : Sat σ w (M ++ L)) (s : List UInt8) (h0 : s ≠ [] ∨ q ≠ none) (hb : n + s.length ≤ 1099511627776)
 {K : Option Addr → Nat → Nat → World → Prop} (hK : ∀ q' c' w' M', By q' (n + s.length) c' (l ++ s) M' → Sat σ w' (M' ++ L) → q' ≠ none → c ≤ c' → K q' (n + s.length) c' w') :
 ∃ q' n' c' w', (Builtin.append_ #[ty_S_uint8, ty_string] ty_S_uint8 #[.slice q n c, .string (bs s)]).run P w = .ok (.slice q' n' c') w' ∧ K q' n' c' w' := by
 have hsrc := Src.ofString (P := P) (w := w) (tx := ty_string) (by kernel_rfl) (bs s)
 rw [bs_size, byteCells_bs] at hsrc
 have h0' : 0 < s.length ∨ q ≠ none := by
  rcases h0 with h | h
  ·exact .inl (List.length_pos_iff.2 h)
  ·exact .inr h
 obtain ⟨q', c', w', M', hr, hS', h', h1, h2⟩ := Sat.app rowU8 (ty := ty_S_uint8) hS h hsrc h0' (by omega) (by omega)
 refine ⟨q', _, c', w', hr, hK q' c' w' M' ?_ h' h1 h2⟩
 show Sl _ _ _ _ _ (bc (l ++ s)) _
 rw [bc_append]
 exact hS'
theorem By.app1 {q : Option Addr} {n c : Nat} {l : List UInt8} {M : List Chunk} (hS : By q n c l M) (h : Sat σ w (M ++ L)) (k : UInt8) (hb : n + 1 ≤ 1099511627776)
 {K : Option Addr → Nat → Nat → World → Prop} (hK : ∀ q' c' w' M', By q' (n + 1) c' (l ++ [k]) M' → Sat σ w' (M' ++ L) → K q' (n + 1) c' w') :
 ∃ rq rn rc w1, (Instr.buildSlice ty_S_uint8 1 #[(0, .int .u8 (k.toNat : Int))]).run P w = .ok (.slice rq rn rc) w1 ∧
 ∃ q' n' c' w', (Builtin.append_ #[ty_S_uint8, ty_S_uint8] ty_S_uint8 #[.slice q n c, .slice rq rn rc]).run P w1 = .ok (.slice q' n' c') w' ∧ K q' n' c' w' := by
 refine Sat.app1 rowU8 hS h (v := .int .u8 (k.toNat : Int)) rfl (by simp [Value.cells, Value.oneCell']) (by kernel_rfl) (by omega) (by omega) (by decide) fun q' c' w' M' h1 h2 => hK q' c' w' M' ?_ h2
 show Sl _ _ _ _ _ (bc (l ++ [k])) _
 rw [bc_append]
 exact h1
theorem By.str {q : Option Addr} {n c : Nat} {l : List UInt8} {M : List Chunk} (hS : By q n c l M) (h : Sat σ w (M ++ L)) :
 (convert ty_S_uint8 ty_string (.slice q n c)).run P w = .ok (.string (bs l)) w := by
 have hn := hS.len
 subst hn
 obtain ⟨_, _, ⟨rfl, hn0, rfl, rfl⟩ | ⟨b, sp, rfl, rfl, h3⟩⟩ := hS
 ·obtain rfl := List.eq_nil_of_length_eq_zero hn0
  exact Lib.run_convert_nil_bytes w _ _ ty_uint8 0 (by kernel_rfl) (by kernel_rfl) (by kernel_rfl)
 ·refine run_convert_bytes_back w _ _ ty_uint8 ⟨b, 0, none⟩ c l (by kernel_rfl) (by kernel_rfl) (by kernel_rfl) fun j hj => ?_
  rw [Addr.add_zero_lit]
  refine h.ld (.head _) ?_
  rw [List.getElem?_append_left (by rw [bc_length]; exact hj), bc_get hj]
end Go.Proofs.YtgbgadkldalkbaaGreatDoor


set_option linter.unusedVariables false
set_option maxRecDepth 20000
namespace Go.Proofs.YtgbgadkldalkbaaGreatDoor
open Go.Proofs
noncomputable abbrev x_internal_abi_NoEscape : Func := Tryz.f172
theorem xf_internal_abi_NoEscape : P.funcs[i_internal_abi_NoEscape]? = some x_internal_abi_NoEscape := Tryz.func172
end Go.Proofs.YtgbgadkldalkbaaGreatDoor


set_option linter.unusedVariables false
namespace Go.Proofs.YtgbgadkldalkbaaGreatDoor
open Go.Proofs Go.IntWalk
variable {σ : Out} {w : World} {L L' : List Chunk} {R : Ending → World → Prop}

theorem ext_of {f : FuncId} {fn : Func} {e : Array Value → Sem Value} {args : Array Value} {v : Value} {w' : World} (hf : P.funcs[f]? = some fn) (hname : (fn.name == "runtime.NumGoroutine") = false)
 (hb : fn.body.isNone = true) (hn : Extern.findNext fn = none) (he : Extern.find fn = some e) (hr : (e args).run P w = .ok v w') (h : R (.returned v) w') : callE P f args R w := by
 refine .inr ⟨v, w', ?_, h⟩
 rw [run_callFunc_extern hf hname hb hn he, hr]
 rfl
theorem noEscape_ok {x : Value} (h : R (.returned x) w) : callE P i_internal_abi_NoEscape #[x] R w :=
 ext_of (e := Extern.AbiNoEscape.same) xf_internal_abi_NoEscape (by kernel_rfl) (by kernel_rfl) (by kernel_rfl) (by kernel_rfl) rfl h
end Go.Proofs.YtgbgadkldalkbaaGreatDoor


set_option linter.unusedVariables false
namespace Go.Proofs.YtgbgadkldalkbaaGreatDoor
open Go.Proofs
theorem bin_eql {P : Program} {t : TypeId} {a b : Value} {r : Bool} {w : World} {x y : Operand} (h1 : (eqGuard .eql t x y a b).run P w = .ok () w) (h2 : binOp .eql t a b = (do pure (.bool (← Op.equal t a b))))
 (h : (Op.equal t a b).run P w = .ok r w) : (do eqGuard .eql t x y a b; binOp .eql t a b).run P w = .ok (.bool r) w := by
 rw [h2]
 simp only [Sem.run_bind, h1, h, Result.andThen_ok]
 rfl
theorem bin_neq {P : Program} {t : TypeId} {a b : Value} {r : Bool} {w : World} {x y : Operand} (h1 : (eqGuard .neq t x y a b).run P w = .ok () w) (h2 : binOp .neq t a b = (do pure (.bool (!(← Op.equal t a b)))))
 (h : (Op.equal t a b).run P w = .ok r w) : (do eqGuard .neq t x y a b; binOp .neq t a b).run P w = .ok (.bool (!r)) w := by
 rw [h2]
 simp only [Sem.run_bind, h1, h, Result.andThen_ok]
 rfl
variable {P : Program}
theorem equal_ptr_nil {t e : TypeId} (hu : P.underlying t = some (.pointer e)) (q : Option Addr) (w : World) : (Op.equal t (.pointer q) (.pointer none)).run P w = .ok q.isNone w :=
 have h : ∀ d, (Op.equalIn (d + 1) t (.pointer q) (.pointer none)).run P w = .ok q.isNone w := fun d => by
  cases q <;> simp [Op.equalIn, run_underlying hu]
 h 9999
theorem ptrNil_eq {t e : TypeId} {x y : Operand} (hu : P.underlying t = some (.pointer e)) (q : Option Addr) (w : World) :
 (do eqGuard .eql t x y (.pointer q) (.pointer none); binOp .eql t (.pointer q) (.pointer none)).run P w = .ok (.bool q.isNone) w :=
 bin_eql rfl rfl (equal_ptr_nil hu q w)
theorem equal_ptr_same {t e : TypeId} (hu : P.underlying t = some (.pointer e)) {i : TypeInfo} (hi : P.info? e = some i) (hs : i.size ≠ 0) (b : Nat) (w : World) : (Op.equal t (.pointer (some ⟨b, 0, none⟩)) (.pointer (some ⟨b, 0, none⟩))).run P w = .ok true w :=
 have h : ∀ d, (Op.equalIn (d + 1) t (.pointer (some ⟨b, 0, none⟩)) (.pointer (some ⟨b, 0, none⟩))).run P w = .ok true w := fun d => by
  simp [Op.equalIn, run_underlying hu, sizeOf, typeInfo, hi, hs, sameAddr]
 h 9999
theorem neq_ptr_same {t e : TypeId} {x y : Operand} (hu : P.underlying t = some (.pointer e)) {i : TypeInfo} (hi : P.info? e = some i) (hs : i.size ≠ 0) (b : Nat) (w : World) :
 (do eqGuard .neq t x y (.pointer (some ⟨b, 0, none⟩)) (.pointer (some ⟨b, 0, none⟩)); binOp .neq t (.pointer (some ⟨b, 0, none⟩)) (.pointer (some ⟨b, 0, none⟩))).run P w = .ok (.bool false) w :=
 bin_neq rfl rfl (equal_ptr_same hu hi hs b w)
theorem neq_func_nil {t : TypeId} {ps rs : Array TypeId} {vr : Bool} {x y : Operand} (hu : P.underlying t = some (.func ps rs vr)) (k : FuncId) (f g : Array Value) (w : World) :
 (do eqGuard .neq t x y (.func (.func k) f g) .nilFunc; binOp .neq t (.func (.func k) f g) .nilFunc).run P w = .ok (.bool true) w := by
 have h : ∀ d, (Op.equalIn (d + 1) t (.func (.func k) f g) .nilFunc).run P w = .ok false w := fun d => by
  simp [Op.equalIn, run_underlying hu]
 exact bin_neq rfl rfl (h 9999)
theorem neq_nil_nil {t : TypeId} {ps rs : Array TypeId} {vr : Bool} {x y : Operand} (hu : P.underlying t = some (.func ps rs vr)) (w : World) :
 (do eqGuard .neq t x y .nilFunc .nilFunc; binOp .neq t .nilFunc .nilFunc).run P w = .ok (.bool false) w := by
 have h : ∀ d, (Op.equalIn (d + 1) t .nilFunc .nilFunc).run P w = .ok true w := fun d => by
  simp [Op.equalIn, run_underlying hu]
 exact bin_neq rfl rfl (h 9999)
end Go.Proofs.YtgbgadkldalkbaaGreatDoor


set_option linter.unusedVariables false
namespace Go.Proofs.YtgbgadkldalkbaaGreatDoor
open Go.Proofs Go.IntWalk Go.RowKit
variable {σ : Out} {w : World} {L L' : List Chunk} {R : Ending → World → Prop}

theorem By.raw {q : Option Addr} {n c : Nat} {l : List UInt8} {M : List Chunk} (h : By q n c l M) : (q = none ∧ n = 0 ∧ c = 0 ∧ M = []) ∨ ∃ b sp, q = some ⟨b, 0, none⟩ ∧ M = [(b, cel (bc l ++ sp) ty_uint8)] ∧ (bc l ++ sp).length = c := by
 obtain ⟨_, _, h | ⟨b, sp, h1, h2, h3⟩⟩ := h
 ·exact .inl h
 ·exact .inr ⟨b, sp, h1, h2, by omega⟩
end Go.Proofs.YtgbgadkldalkbaaGreatDoor


set_option linter.unusedVariables false
namespace Go.Proofs.YtgbgadkldalkbaaGreatDoor
open Go.Proofs Go.IntWalk Go.RowKit
variable {σ : Out} {w : World} {L L' : List Chunk} {R : Ending → World → Prop}
abbrev bldC (b : Nat) (p q : Option Addr) (n c : Nat) : Chunk := (b, cel [.pointer p, .slice q n c] ty_strings_Builder)
def Bld (b : Nat) (g : Bool) (l : List UInt8) (M : List Chunk) : Prop :=
 ∃ p q c M0, M = bldC b p q l.length c :: M0 ∧ By q l.length c l M0 ∧ (p = none ∨ p = some ⟨b, 0, none⟩) ∧ q.isSome = g ∧ (g = true → 0 < c)
theorem bldNew (b : Nat) : Bld b false [] [(b, cel [.pointer none, .slice none 0 0] ty_strings_Builder)] := ⟨none, none, 0, [], rfl, By.nil, .inl rfl, rfl, by simp⟩
theorem Sat.shape (h : Sat σ w L) {b : Nat} {cs : List Value} {e : TypeId} (hm : (b, cel cs e) ∈ L) : w.shape? b = some (e, cs.length) := by
 have := h.at_ _ hm
 simp only [cel] at this
 simp [World.shape?, this]
theorem copyCheck_ok {b : Nat} {p q : Option Addr} {n c : Nat} (h : Sat σ w (bldC b p q n c :: L)) (hp : p = none ∨ p = some ⟨b, 0, none⟩)
 (hR : ∀ w, Sat σ w (bldC b (some ⟨b, 0, none⟩) q n c :: L) → R (.returned (.tuple #[])) w) : callE P i_strings_Builder_copyCheck #[.pointer (some ⟨b, 0, none⟩)] R w := by
 have hu : P.underlying ty_P_strings_Builder = some (.pointer ty_strings_Builder) := by kernel_rfl
 have hun : P.underlying ty_unsafe_Pointer = some .unsafePointer := by kernel_rfl
 have hi : P.info? ty_strings_Builder = some ((P.info? ty_strings_Builder).getD default) := by kernel_rfl
 have hs : ((P.info? ty_strings_Builder).getD default).size = 2 := by kernel_rfl
 have hsh := h.shape (.head _)
 refine g_strings_Builder_copyCheck.sound ?_
 refine nilP_some ?_
 refine ⟨_, h.ldA, ?_⟩
 refine ⟨_, _, ptrNil_eq hu _ w, ?_⟩
 rcases hp with rfl | rfl
 ·refine br_true rfl ?_
  refine ⟨_, _, Lib.run_to_unsafe w ⟨b, 0, none⟩ hu hun hi (by rw [hs]; decide) hsh (Nat.zero_lt_succ _), ?_⟩
  refine noEscape_ok ⟨_, rfl, ?_⟩
  refine ⟨_, _, Lib.run_from_unsafe w ⟨b, 0, none⟩ hun hu hi hsh (by kernel_rfl), ?_⟩
  refine nilP_some ?_
  refine h.stA 0 fun w h => ?_
  exact hR _ h
 ·refine br_false rfl ?_
  refine nilP_some ?_
  refine ⟨_, h.ldA, ?_⟩
  refine ⟨_, _, neq_ptr_same hu hi (by rw [hs]; decide) b w, br_false rfl ?_⟩
  exact hR _ h
theorem bldS_ok {b : Nat} {g : Bool} {l s : List UInt8} {M : List Chunk} (hB : Bld b g l M) (h : Sat σ w (M ++ L)) (h0 : s ≠ [] ∨ g = true) (hb : l.length + s.length ≤ 1099511627776)
 (hR : ∀ w M', Bld b true (l ++ s) M' → Sat σ w (M' ++ L) → R (.returned (.tuple #[.int .i64 s.length, .nilIface])) w) : callE P i_strings_Builder_WriteString #[.pointer (some ⟨b, 0, none⟩), .string (bs s)] R w := by
 obtain ⟨p, q, c, M0, rfl, hS, hp, hg, hc⟩ := hB
 refine g_strings_Builder_WriteString.sound ?_
 refine copyCheck_ok h hp fun w h => ⟨rfl, ?_⟩
 refine nilP_some ?_
 refine ⟨_, _, _, h.ldA, ?_⟩
 have h : Sat σ w (M0 ++ (bldC b (some ⟨b, 0, none⟩) q l.length c :: L)) := h.re
 have h0' : s ≠ [] ∨ q ≠ none := h0.imp id (fun hg1 => by rw [← hg] at hg1; intro h; rw [h] at hg1; cases hg1)
 refine hS.appS h s h0' hb fun q' c' w M' hS' h hq' hcc => ?_
 have h : Sat σ w (bldC b (some ⟨b, 0, none⟩) q l.length c :: (M' ++ L)) := h.re
 refine nilP_some ?_
 refine h.stA 0 fun w h => ?_
 rw [bs_size]
 have hc' : 0 < c' := by
  rcases h0 with h0 | h0
  ·have := hS'.2.1
   have := List.length_pos_iff.2 h0
   omega
  ·have := hc h0; omega
 rw [← List.length_append] at hS'
 refine hR w (bldC b (some ⟨b, 0, none⟩) q' (l ++ s).length c' :: M') ⟨_, _, _, _, rfl, hS', .inr rfl, Option.isSome_iff_ne_none.2 hq', fun _ => hc'⟩ ?_
 rw [List.length_append]
 exact h
theorem bldB_ok {b : Nat} {g : Bool} {l : List UInt8} {k : UInt8} {M : List Chunk} (hB : Bld b g l M) (h : Sat σ w (M ++ L)) (hb : l.length + 1 ≤ 1099511627776)
 (hR : ∀ w M', Bld b true (l ++ [k]) M' → Sat σ w (M' ++ L) → R (.returned .nilIface) w) : callE P i_strings_Builder_WriteByte #[.pointer (some ⟨b, 0, none⟩), .int .u8 (k.toNat : Int)] R w := by
 obtain ⟨p, q, c, M0, rfl, hS, hp, hg, hc⟩ := hB
 refine g_strings_Builder_WriteByte.sound ?_
 refine copyCheck_ok h hp fun w h => ⟨rfl, ?_⟩
 refine nilP_some ?_
 refine ⟨_, _, _, h.ldA, ?_⟩
 have h : Sat σ w (M0 ++ (bldC b (some ⟨b, 0, none⟩) q l.length c :: L)) := h.re
 refine hS.app1 h k hb fun q' c' w M' hS' h => ?_
 have h : Sat σ w (bldC b (some ⟨b, 0, none⟩) q l.length c :: (M' ++ L)) := h.re
 refine nilP_some ?_
 refine h.stA 0 fun w h => ?_
 have hq' : q'.isSome = true := by
  rcases hS'.raw with ⟨_, h2, _, _⟩ | ⟨b', sp, rfl, _, _⟩
  ·omega
  ·rfl
 refine hR w (bldC b (some ⟨b, 0, none⟩) q' (l ++ [k]).length c' :: M') ⟨_, _, _, _, rfl, by rw [List.length_append]; exact hS', .inr rfl, hq', fun _ => by have := hS'.2.1; omega⟩ ?_
 rw [List.length_append]
 exact h
theorem Sat.freeze {b : Nat} {cs : List Value} {e : TypeId} (h : Sat σ w ((b, cel cs e) :: L)) (n : Nat) : Sat σ (w.freeze ⟨b, 0, none⟩ n) L := by
 unfold World.freeze
 split
 ·exact h.tail
 ·refine ⟨h.os, h.out, h.tail.nodup, fun c hc => ?_⟩
  have hne : b ≠ c.1 := by
   intro h1
   have := h.nodup
   simp only [List.map_cons, List.nodup_cons] at this
   exact this.1 (by rw [h1]; exact List.mem_map.2 ⟨c, hc, rfl⟩)
  simp only [Array.getElem?_modify, if_neg hne]
  exact h.at_ _ (.tail _ hc)
theorem bldStr_ok {b : Nat} {g : Bool} {l : List UInt8} {M : List Chunk} (hB : Bld b g l M) (h : Sat σ w (M ++ L)) (hl : l.length < 4611686018427387904) (hR : ∀ w, Sat σ w L → R (.returned (.string (bs l))) w) :
 callE P i_strings_Builder_String #[.pointer (some ⟨b, 0, none⟩)] R w := by
 obtain ⟨p, q, c, M0, rfl, hS, hp, hg, hc⟩ := hB
 refine g_strings_Builder_String.sound ?_
 refine h.tk fun w h => ?_
 refine nilP_some (nilP_some ?_)
 refine ⟨_, _, _, h.ldA, ?_⟩
 refine ⟨_, _, _, h.ldA, ?_⟩
 rcases hS.raw with ⟨rfl, hl0, rfl, rfl⟩ | ⟨gb, sp, rfl, rfl, h3⟩
 ·obtain rfl := List.eq_nil_of_length_eq_zero hl0
  refine ⟨_, _, Lib.run_unsafeSliceData_nil (P := P) (w := w) _ _ _ _, fun _ _ => rfl, ?_⟩
  refine ⟨_, _, Lib.run_unsafeString_none (P := P) (w := w) _ _ _ _, hR _ h.tail⟩
 ·refine ⟨_, _, Lib.run_unsafeSliceData_row (P := P) (w := w) _ _ _ _ _ (by have := hc (by rw [← hg]; rfl); omega), fun _ _ => rfl, ?_⟩
  have h' : Sat σ w ((gb, cel (bc l ++ sp) ty_uint8) :: L) := h.tail
  by_cases hl0 : l = []
  ·subst hl0
   refine ⟨_, _, Lib.run_unsafeString_none (P := P) (w := w) _ _ _ _, hR _ h'.tail⟩
  ·refine ⟨_, _, Lib.run_unsafeString_row (w := w) ty_P_uint8 ty_int ty_string ty_uint8 (by kernel_rfl) (by kernel_rfl) gb _ (h'.shape (.head _)) l hl0 (by simp) (by omega) (fun j x hj => ?_), hR _ (h'.freeze _)⟩
   rw [Addr.add_zero_lit]
   have hj' := (List.getElem?_eq_some_iff.1 hj).1
   refine h'.ld (.head _) ?_
   rw [List.getElem?_append_left (by rw [bc_length]; exact hj'), bc_get hj']
   rw [(List.getElem?_eq_some_iff.1 hj).2]
end Go.Proofs.YtgbgadkldalkbaaGreatDoor


set_option linter.unusedVariables false
namespace Go.Proofs.YtgbgadkldalkbaaGreatDoor
open Go.Proofs Go.IntWalk Go.RowKit
variable {σ : Out} {w : World} {L L' : List Chunk} {R : Ending → World → Prop}
theorem buildR {t e : TypeId} {n : Nat} {ps : Array (Nat × Value)} {cs : List Value} (h : Sat σ w L) (ht : P.underlying t = some (.slice e)) (hi : P.info? e = some ((P.info? e).getD default))
 (hz : ((P.info? e).getD default).zero = some (((P.info? e).bind (·.zero)).getD default)) (hs : ((P.info? e).getD default).size = 1) (hn : n ≤ 1000) (hn0 : n ≠ 0)
 (hfill : Instr.fill (fun i => some (i * 1, 1)) ((Array.range (n * 1)).map ((((P.info? e).bind (·.zero)).getD default).cells[· % (((P.info? e).bind (·.zero)).getD default).cells.size]!)) ps.toList = some cs.toArray) {K : Option Addr → Nat → Nat → World → Prop}
 (hK : ∀ b w, Sat σ w ((b, cel cs e) :: L) → K (some ⟨b, 0, none⟩) n n w) : ∃ rq rn rc w1, (Instr.buildSlice t n ps).run P w = .ok (.slice rq rn rc) w1 ∧ K rq rn rc w1 := by
 have hrun := run_buildSlice (P := P) w t e n ps cs.toArray _ _ ht hi hz (by rw [hs]; omega) (by rw [hs]; omega) (by rw [hs]; exact hfill)
 exact ⟨_, _, _, _, hrun, hK _ _ (h.alc cs e)⟩
end Go.Proofs.YtgbgadkldalkbaaGreatDoor


set_option linter.unusedVariables false
namespace Go.Proofs.YtgbgadkldalkbaaGreatDoor
open Go.Proofs Go.IntWalk Go.RowKit
variable {σ : Out} {w : World} {L L' : List Chunk} {R : Ending → World → Prop}
inductive Inl where
 | plain (s : List UInt8)
 | openP (s : List UInt8) (i : Nat)
 | emphP (s : List UInt8) (co cc : Bool) (i n : Int)
 | esc (s : List UInt8)
 | code (s : List UInt8)
 | strong (m : List UInt8) (ks : List Inl)
 | del (m : List UInt8) (ks : List Inl)
 | emph (m : List UInt8) (ks : List Inl)
 | link (ks : List Inl) (url title : List UInt8) (tc : UInt8) (corner : Bool)
 | image (ks : List Inl) (url title : List UInt8) (tc : UInt8) (corner : Bool)
 | auto (text url : List UInt8)
 | tag (s : List UInt8)
 | hard
 | soft
 | task (b : Bool)
def ptrV (t : TypeId) (b : Nat) : Value := .iface t (.pointer (some ⟨b, 0, none⟩))
mutual
def InlAt : Inl → Value → List Chunk → Prop
 | .plain s, v, M => ∃ b cs e, v = ptrV ty_P_Plain b ∧ M = [(b, cel (.string (bs s) :: cs) e)]
 | .openP s i, v, M => ∃ b e, v = ptrV ty_P_openPlain b ∧ M = [(b, cel [.string (bs s), .int .i64 i] e)]
 | .emphP s co cc i n, v, M => ∃ b e, v = ptrV ty_P_emphPlain b ∧ M = [(b, cel [.string (bs s), .bool co, .bool cc, .int .i64 i, .int .i64 n] e)]
 | .esc s, v, M => ∃ b e, v = ptrV ty_P_Escaped b ∧ M = [(b, cel [.string (bs s)] e)]
 | .code s, v, M => ∃ b e, v = ptrV ty_P_Code b ∧ M = [(b, cel [.string (bs s)] e)]
 | .strong m ks, v, M => ∃ b e q n c vs RM KM, v = ptrV ty_P_Strong b ∧ M = (b, cel [.string (bs m), .slice q n c] e) :: (RM ++ KM) ∧ Sl 1 ty_Inline q n c vs RM ∧ InlsAt ks vs KM
 | .del m ks, v, M => ∃ b e q n c vs RM KM, v = ptrV ty_P_Del b ∧ M = (b, cel [.string (bs m), .slice q n c] e) :: (RM ++ KM) ∧ Sl 1 ty_Inline q n c vs RM ∧ InlsAt ks vs KM
 | .emph m ks, v, M => ∃ b e q n c vs RM KM, v = ptrV ty_P_Emph b ∧ M = (b, cel [.string (bs m), .slice q n c] e) :: (RM ++ KM) ∧ Sl 1 ty_Inline q n c vs RM ∧ InlsAt ks vs KM
 | .link ks u t tc k, v, M => ∃ b e q n c vs RM KM, v = ptrV ty_P_Link b ∧ M = (b, cel [.slice q n c, .string (bs u), .string (bs t), .int .u8 tc.toNat, .bool k] e) :: (RM ++ KM) ∧ Sl 1 ty_Inline q n c vs RM ∧ InlsAt ks vs KM
 | .image ks u t tc k, v, M => ∃ b e q n c vs RM KM, v = ptrV ty_P_Image b ∧ M = (b, cel [.slice q n c, .string (bs u), .string (bs t), .int .u8 tc.toNat, .bool k] e) :: (RM ++ KM) ∧ Sl 1 ty_Inline q n c vs RM ∧ InlsAt ks vs KM
 | .auto t u, v, M => ∃ b e, v = ptrV ty_P_AutoLink b ∧ M = [(b, cel [.string (bs t), .string (bs u)] e)]
 | .tag s, v, M => ∃ b e, v = ptrV ty_P_HTMLTag b ∧ M = [(b, cel [.string (bs s)] e)]
 | .hard, v, M => ∃ b e, v = ptrV ty_P_HardBreak b ∧ M = [(b, cel [] e)]
 | .soft, v, M => ∃ b e, v = ptrV ty_P_SoftBreak b ∧ M = [(b, cel [] e)]
 | .task k, v, M => ∃ b e, v = ptrV ty_P_Task b ∧ M = [(b, cel [.bool k] e)]
def InlsAt : List Inl → List Value → List Chunk → Prop
 | [], vs, M => vs = [] ∧ M = []
 | t :: ts, vs, M => ∃ v vs' M1 M2, vs = v :: vs' ∧ M = M1 ++ M2 ∧ InlAt t v M1 ∧ InlsAt ts vs' M2
end
end Go.Proofs.YtgbgadkldalkbaaGreatDoor


set_option linter.unusedVariables false
namespace Go.Proofs.YtgbgadkldalkbaaGreatDoor
open Go.Proofs Go.IntWalk Go.RowKit
variable {σ : Out} {w : World} {L L' : List Chunk} {R : Ending → World → Prop}
theorem ld16_mk {A : Nat → Addr} {v : N16} {K : N16 → Prop} (h : ∀ i u, v.C[i]? = some u → w.cell? (A i) = some u) (hK : K v) : ld16 w A K :=
 ⟨_, h 0 _ rfl, _, h 1 _ rfl, _, h 2 _ rfl, _, h 3 _ rfl, _, h 4 _ rfl, _, h 5 _ rfl, _, _, _, h 6 _ rfl, _, _, _, h 7 _ rfl, _, h 8 _ rfl, _, h 9 _ rfl, _, h 10 _ rfl, _, h 11 _ rfl, _, h 12 _ rfl, _, h 13 _ rfl, _, h 14 _ rfl, _, _, _, h 15 _ rfl, hK⟩
theorem ld10_mk {A : Nat → Addr} {v : N10} {K : N10 → Prop} (h : ∀ i u, v.C[i]? = some u → w.cell? (A i) = some u) (hK : K v) : ld10 w A K :=
 ⟨_, h 0 _ rfl, _, h 1 _ rfl, _, h 2 _ rfl, _, h 3 _ rfl, _, h 4 _ rfl, _, h 5 _ rfl, _, _, _, h 6 _ rfl, _, _, _, h 7 _ rfl, _, h 8 _ rfl, _, h 9 _ rfl, hK⟩
theorem Sat.ldB16 (h : Sat σ w L) {b : Nat} {e : TypeId} (v : N16) {K : N16 → Prop} (hm : (b, cel v.C.toList e) ∈ L) (hK : K v) : ldB16 w b K :=
 ld16_mk (fun i u hu => h.ld hm (by rw [Array.getElem?_toList]; exact hu)) hK
theorem Sat.ldB10 (h : Sat σ w L) {b : Nat} {e : TypeId} (v : N10) {K : N10 → Prop} (hm : (b, cel v.C.toList e) ∈ L) (hK : K v) : ldB10 w b K :=
 ld10_mk (fun i u hu => h.ld hm (by rw [Array.getElem?_toList]; exact hu)) hK
theorem row_get {pre mid suf : List Value} {i o : Nat} {u : Value} (ho : pre.length = o) (hu : mid[i]? = some u) : (pre ++ (mid ++ suf))[o + i]? = some u := by
 have hi := (List.getElem?_eq_some_iff.1 hu).1
 rw [List.getElem?_append_right (by omega), show o + i - pre.length = i by omega, List.getElem?_append_left hi]
 exact hu
theorem Sat.ldA16 (h : Sat σ w L) {b o : Nat} {pre suf : List Value} {e : TypeId} (v : N16) {K : N16 → Prop} (hm : (b, cel (pre ++ (v.C.toList ++ suf)) e) ∈ L) (ho : pre.length = o) (hK : K v) : ldA16 w ⟨b, o, none⟩ K :=
 ld16_mk (fun i u hu => by rw [Addr.add_lit]; exact h.ld hm (row_get ho (by rw [Array.getElem?_toList]; exact hu))) hK
theorem Sat.ldA10 (h : Sat σ w L) {b o : Nat} {pre suf : List Value} {e : TypeId} (v : N10) {K : N10 → Prop} (hm : (b, cel (pre ++ (v.C.toList ++ suf)) e) ∈ L) (ho : pre.length = o) (hK : K v) : ldA10 w ⟨b, o, none⟩ K :=
 ld10_mk (fun i u hu => by rw [Addr.add_lit]; exact h.ld hm (row_get ho (by rw [Array.getElem?_toList]; exact hu))) hK
def stAll : List Value → Nat → Nat → World → (World → Prop) → Prop
 | [], b, i, w, K => K w
 | v :: vs, b, i, w, K => stV w ⟨b, i, none⟩ v fun w => stAll vs b (i + 1) w K
theorem set_self {α : Type} {l : List α} {k : Nat} {a : α} (h : l[k]? = some a) : l.set k a = l := by
 refine List.ext_getElem? fun i => ?_
 rw [List.getElem?_set]
 split
 ·subst_vars
  rw [if_pos (List.getElem?_eq_some_iff.1 h).1, h]
 ·rfl
theorem Sat.stAll {k b : Nat} {e : TypeId} {K : World → Prop} (hk : k < L.length) : ∀ (vs old pre : List Value) (w : World), Sat σ w (L.set k (b, cel (pre ++ old) e)) → old.length = vs.length → (∀ v ∈ vs, OneCell v) → (∀ w', Sat σ w' (L.set k (b, cel (pre ++ vs) e)) → K w') → stAll vs b pre.length w K
 | [], old, pre, w, h, hl, h1, hK => by
  obtain rfl : old = [] := List.eq_nil_of_length_eq_zero (by simpa using hl)
  exact hK w h
 | v :: vs, o :: old, pre, w, h, hl, h1, hK => by
  refine h.st (k := k) (L' := L.set k (b, cel ((pre ++ [v]) ++ old) e)) (List.getElem?_set_self hk) (by simp) (h1 v (by simp)) ?_ fun w h => ?_
  ·rw [List.set_set, List.set_append_right _ _ (Nat.le_refl _), Nat.sub_self]
   simp
  ·have := Sat.stAll hk vs old (pre ++ [v]) w h (by simpa using hl) (fun u hu => h1 u (by simp [hu])) (fun w' h' => hK w' (by simpa using h'))
   rw [List.length_append] at this
   exact this
theorem Sat.st16 (h : Sat σ w L) (k : Nat) {b : Nat} {e : TypeId} (u v : N16) {K : World → Prop} (hK : ∀ w', Sat σ w' L' → K w') (hk : L[k]? = some (b, cel u.C.toList e) := by exact rfl) (hL : L.set k (b, cel v.C.toList e) = L' := by first | (dsimp only [List.set]; exact rfl) | exact rfl) : st16 w b v K := by
 have hs : Sat σ w (L.set k (b, cel ([] ++ u.C.toList) e)) := by rw [List.nil_append, set_self hk]; exact h
 refine Sat.stAll (List.getElem?_eq_some_iff.1 hk).1 v.C.toList u.C.toList [] w hs rfl ?_ (fun w' h' => hK w' (by rw [← hL]; exact h'))
 intro x hx
 simp only [N16.C, List.mem_cons, List.not_mem_nil, or_false] at hx
 rcases hx with rfl | rfl | rfl | rfl | rfl | rfl | rfl | rfl | rfl | rfl | rfl | rfl | rfl | rfl | rfl | rfl <;> trivial
theorem Sat.st10 (h : Sat σ w L) (k : Nat) {b : Nat} {e : TypeId} (u v : N10) {K : World → Prop} (hK : ∀ w', Sat σ w' L' → K w') (hk : L[k]? = some (b, cel u.C.toList e) := by exact rfl) (hL : L.set k (b, cel v.C.toList e) = L' := by first | (dsimp only [List.set]; exact rfl) | exact rfl) : st10 w b v K := by
 have hs : Sat σ w (L.set k (b, cel ([] ++ u.C.toList) e)) := by rw [List.nil_append, set_self hk]; exact h
 refine Sat.stAll (List.getElem?_eq_some_iff.1 hk).1 v.C.toList u.C.toList [] w hs rfl ?_ (fun w' h' => hK w' (by rw [← hL]; exact h'))
 intro x hx
 simp only [N10.C, List.mem_cons, List.not_mem_nil, or_false] at hx
 rcases hx with rfl | rfl | rfl | rfl | rfl | rfl | rfl | rfl | rfl | rfl <;> trivial
theorem rt16_mk {v : N16} {K : N16 → Prop} (hK : K v) : rt16 (.returned v.V) K := ⟨_, _, _, _, _, _, _, _, _, _, _, _, _, _, _, _, _, _, _, _, _, _, rfl, hK⟩
theorem rt10_mk {v : N10} {K : N10 → Prop} (hK : K v) : rt10 (.returned v.V) K := ⟨_, _, _, _, _, _, _, _, _, _, _, _, _, _, rfl, hK⟩
end Go.Proofs.YtgbgadkldalkbaaGreatDoor


set_option linter.unusedVariables false
namespace Go.Proofs.YtgbgadkldalkbaaGreatDoor
open Go.Proofs Go.IntWalk Go.RowKit
variable {σ : Out} {w : World} {L L' : List Chunk} {R : Ending → World → Prop}
structure IH where
 kind : Nat
 text : List UInt8 := []
 title : List UInt8 := []
 num : Int := 0
 char : List UInt8 := []
 loose : Bool := false
 s : Nat := 0
 e : Nat := 0
 mark : List UInt8 := []
 width : Nat := 0
 tight : Bool := false
 escaped : Bool := false
 auto : Bool := false
inductive IN where
 | mk (h : IH) (kids : List IN)
def IN.h : IN → IH
 | .mk h _ => h
structure NH where
 kind : Nat
 text : List UInt8 := []
 title : List UInt8 := []
 num : Int := 0
 char : List UInt8 := []
 loose : Bool := false
 s : Nat := 0
 e : Nat := 0
inductive ND where
 | mk (h : NH) (kids : List ND)
def ND.h : ND → NH
 | .mk h _ => h
abbrev IH.nd (h : IH) (q : OA) (n c : Nat) : N16 := ⟨h.kind, bs h.text, bs h.title, h.num, bs h.char, h.loose, none, 0, 0, q, n, c, h.s, h.e, bs h.mark, h.width, h.tight, h.escaped, h.auto, none, 0, 0⟩
abbrev NH.nd (h : NH) (qa : OA) (ca : Nat) (q : OA) (n c : Nat) : N10 := ⟨h.kind, bs h.text, bs h.title, h.num, bs h.char, h.loose, qa, 0, ca, q, n, c, h.s, h.e⟩
abbrev IH.cells (h : IH) (q : OA) (n c : Nat) : List Value := (h.nd q n c).C.toList
abbrev NH.cells (h : NH) (qa : OA) (ca : Nat) (q : OA) (n c : Nat) : List Value := (h.nd qa ca q n c).C.toList
def IH.ok (h : IH) : Prop := h.text.length < 1073741824 ∧ h.title.length < 1073741824 ∧ h.char.length < 1073741824 ∧ h.mark.length < 1073741824
inductive INs : List IN → List Value → List Chunk → Prop where
 | nil : INs [] [] []
 | cons {h : IH} {ks xs : List IN} {q : OA} {n c : Nat} {vs us : List Value} {RM KM XM : List Chunk} : h.ok → n < 1073741824 → INs ks vs KM → Sl 16 ty_impl_Node q n c vs RM → INs xs us XM → INs (.mk h ks :: xs) (h.cells q n c ++ us) ((RM ++ KM) ++ XM)
inductive NDs : List ND → List Value → List Chunk → Prop where
 | nil : NDs [] [] []
 | cons {h : NH} {ks xs : List ND} {qa : OA} {ca : Nat} {q : OA} {n c : Nat} {vs us : List Value} {RM KM XM : List Chunk} : n < 1073741824 → NDs ks vs KM → Sl 10 ty_spec_Node q n c vs RM → NDs xs us XM → NDs (.mk h ks :: xs) (h.cells qa ca q n c ++ us) ((RM ++ KM) ++ XM)
theorem NDs.len {xs : List ND} {vs : List Value} {M : List Chunk} (h : NDs xs vs M) : vs.length = xs.length * 10 := by
 induction h with
 | nil => rfl
 | cons _ _ _ _ _ ih => rw [List.length_append, ih, List.length_cons, Nat.succ_mul, Nat.add_comm]; rfl
theorem INs.append {xs ys : List IN} {vs us : List Value} {M N : List Chunk} (h : INs xs vs M) (h2 : INs ys us N) : INs (xs ++ ys) (vs ++ us) (M ++ N) := by
 induction h with
 | nil => exact h2
 | cons a1 a2 a3 a4 _ _ ih =>
  rw [List.append_assoc, List.append_assoc]
  exact .cons a1 a2 a3 a4 ih
theorem NDs.append {xs ys : List ND} {vs us : List Value} {M N : List Chunk} (h : NDs xs vs M) (h2 : NDs ys us N) : NDs (xs ++ ys) (vs ++ us) (M ++ N) := by
 induction h with
 | nil => exact h2
 | cons a1 a2 a3 _ _ ih =>
  rw [List.append_assoc, List.append_assoc]
  exact .cons a1 a2 a3 ih
theorem NDs.one {h : NH} {ks : List ND} {qa : OA} {ca : Nat} {q : OA} {n c : Nat} {vs : List Value} {RM KM : List Chunk} (b : n < 1073741824) (d : NDs ks vs KM) (e : Sl 10 ty_spec_Node q n c vs RM) : NDs [.mk h ks] (h.cells qa ca q n c) (RM ++ KM) := by
 have := NDs.cons (h := h) (qa := qa) (ca := ca) b d e .nil
 rwa [List.append_nil, List.append_nil] at this
def putN : List ND → ND → List ND
 | [], x => [x]
 | [.mk h ks], x => if x.h.kind = 20 ∧ h.kind = 20 then [.mk { h with text := h.text ++ x.h.text } ks] else [.mk h ks, x]
 | a :: b :: l, x => a :: putN (b :: l) x
def bareH (h : IH) : NH := { kind := h.kind, text := if h.kind = 6 ∨ h.kind = 5 ∨ h.kind = 12 then [] else h.text, title := h.title, num := h.num, char := h.char, loose := h.loose }
mutual
def bareN : IN → ND
 | .mk h ks => .mk (bareH h) (bareL [] ks)
def bareL : List ND → List IN → List ND
 | acc, [] => acc
 | acc, k :: ks => bareL (if k.h.kind = 13 then acc else putN acc (bareN k)) ks
end
end Go.Proofs.YtgbgadkldalkbaaGreatDoor


set_option linter.unusedVariables false
namespace Go.Proofs.YtgbgadkldalkbaaGreatDoor
open Go.Proofs Go.IntWalk Go.RowKit
variable {σ : Out} {w : World} {L L' : List Chunk} {R : Ending → World → Prop}
noncomputable def rowND : Row P ty_S_spec_Node ty_spec_Node 10 136 :=
 ⟨(P.info? ty_spec_Node).getD default, ((P.info? ty_spec_Node).bind (·.zero)).getD default, by kernel_rfl, by kernel_rfl, by kernel_rfl, by kernel_rfl, by kernel_rfl, by kernel_rfl, by decide⟩
theorem fillND (v : N10) : Instr.fill (fun i => some (i * 10, 10)) ((Array.range (1 * 10)).map (rowND.z.cells[· % rowND.z.cells.size]!)) [(0, v.V)] = some v.C := by kernel_rfl
theorem one10 (v : N10) : ∀ u ∈ v.V.cells.toList, u.oneCell' = true := by
 intro x hx
 simp only [N10.V, Value.cells, N10.C, List.mem_cons, List.not_mem_nil, or_false] at hx
 rcases hx with rfl | rfl | rfl | rfl | rfl | rfl | rfl | rfl | rfl | rfl <;> rfl
def NodeDt (x : ND) (v : N10) (M : List Chunk) : Prop := ∃ h ks qa ca q n c vs RM KM, x = .mk h ks ∧ v = h.nd qa ca q n c ∧ M = RM ++ KM ∧ n < 1073741824 ∧ NDs ks vs KM ∧ Sl 10 ty_spec_Node q n c vs RM
theorem NodeDt.cons {x : ND} {xs : List ND} {v : N10} {us : List Value} {M XM : List Chunk} (h : NodeDt x v M) (h2 : NDs xs us XM) : NDs (x :: xs) (v.C.toList ++ us) (M ++ XM) := by
 obtain ⟨h0, ks, qa, ca, q, n, c, vs, RM, KM, rfl, rfl, rfl, b, d, e⟩ := h
 exact .cons b d e h2
theorem NodeDt.one {x : ND} {v : N10} {M : List Chunk} (h : NodeDt x v M) : NDs [x] v.C.toList M := by
 have := h.cons .nil
 rwa [List.append_nil, List.append_nil] at this
theorem NodeDt.kind {x : ND} {v : N10} {M : List Chunk} (h : NodeDt x v M) : v.a0 = (x.h.kind : Int) ∧ v.a1 = bs x.h.text := by
 obtain ⟨h0, ks, qa, ca, q, n, c, vs, RM, KM, rfl, rfl, rfl, _⟩ := h
 exact ⟨rfl, rfl⟩
theorem NDs.snoc : ∀ {pre : List ND} {y : ND} {vs : List Value} {M : List Chunk}, NDs (pre ++ [y]) vs M → ∃ vs1 M1 u M2, vs = vs1 ++ u.C.toList ∧ M = M1 ++ M2 ∧ NDs pre vs1 M1 ∧ NodeDt y u M2
 | [], y, vs, M, h => by
  cases h with
  | @cons h0 ks _ qa ca q n c vs us RM KM XM a b d e =>
   cases e
   refine ⟨[], [], h0.nd qa ca q n c, RM ++ KM, ?_, ?_, .nil, ⟨h0, ks, qa, ca, q, n, c, vs, RM, KM, rfl, rfl, rfl, a, b, d⟩⟩
   ·rw [List.nil_append, List.append_nil]
   ·rw [List.nil_append, List.append_nil]
 | x :: pre, y, vs, M, h => by
  cases h with
  | @cons h0 ks _ qa ca q n c vs us RM KM XM a b d e =>
   obtain ⟨vs1, M1, u, M2, rfl, rfl, h1, h2⟩ := NDs.snoc e
   refine ⟨_, _, u, M2, ?_, ?_, NDs.cons (qa := qa) (ca := ca) a b d h1, h2⟩
   ·simp only [List.append_assoc]
   ·simp only [List.append_assoc]
def tsum : List ND → Nat
 | [] => 0
 | x :: xs => x.h.text.length + tsum xs
theorem tsum_append (a b : List ND) : tsum (a ++ b) = tsum a + tsum b := by
 induction a with
 | nil => simp [tsum]
 | cons x a ih => rw [List.cons_append, tsum, tsum, ih, Nat.add_assoc]
theorem putN_snoc (pre : List ND) (h : NH) (ks : List ND) (x : ND) : putN (pre ++ [.mk h ks]) x = if x.h.kind = 20 ∧ h.kind = 20 then pre ++ [.mk { h with text := h.text ++ x.h.text } ks] else pre ++ [.mk h ks, x] := by
 induction pre with
 | nil => rfl
 | cons a pre ih =>
  have e : putN (a :: (pre ++ [.mk h ks])) x = a :: putN (pre ++ [.mk h ks]) x := by
   obtain ⟨a1, a2⟩ := a
   cases pre with
   | nil => rfl
   | cons b pre => rfl
  rw [List.cons_append, e, ih]
  split <;> rfl
theorem putN_sum (acc : List ND) (x : ND) : tsum (putN acc x) = tsum acc + x.h.text.length := by
 rcases List.eq_nil_or_concat acc with rfl | ⟨pre, ⟨h, ks⟩, rfl⟩
 ·show x.h.text.length + 0 = 0 + _
  omega
 ·rw [List.concat_eq_append, putN_snoc]
  split
  ·rw [tsum_append, tsum_append]
   show tsum pre + ((h.text ++ x.h.text).length + 0) = tsum pre + (h.text.length + 0) + _
   rw [List.length_append]; omega
  ·rw [tsum_append, tsum_append]
   show tsum pre + (h.text.length + (x.h.text.length + 0)) = tsum pre + (h.text.length + 0) + _
   omega
theorem put_ok {acc : List ND} {x : ND} {q : OA} {n c : Nat} {vs : List Value} {RM KM M : List Chunk} {u : N10} (hI : NDs acc vs KM) (hS : Sl 10 ty_spec_Node q n c vs RM) (hx : NodeDt x u M) (hn : n < 1073741823) (hsum : tsum acc + x.h.text.length < 4611686018427387904)
 (h : Sat σ w (RM ++ (KM ++ (M ++ L)))) (hR : ∀ w q' n' c' vs' RM' KM', n' ≤ n + 1 → NDs (putN acc x) vs' KM' → Sl 10 ty_spec_Node q' n' c' vs' RM' → Sat σ w (RM' ++ (KM' ++ L)) → R (.returned (.slice q' n' c')) w) :
 callE P i_laws_put #[.slice q n c, u.V] R w := by
 have hmax : IntKind.i64.max = 9223372036854775807 := rfl
 have hlen := hI.len
 have hl := hS.1
 have hna : n = acc.length := by omega
 obtain ⟨hk, ht⟩ := hx.kind
 refine g_laws_put.sound ?_
 refine Sat.bx h fun b1 w h => ?_
 have h : Sat σ w ((b1, cel u.C.toList ty_spec_Node) :: (RM ++ (KM ++ (M ++ L)))) := h
 have happ : acc = [] ∨ putN acc x = acc ++ [x] → ∀ i w, Sat σ w ((b1, cel u.C.toList ty_spec_Node) :: (RM ++ (KM ++ (M ++ L)))) → g_laws_put.k1 R q n c b1 i false w := by
  intro he i w h
  refine br_false rfl (h.ldB10 u (.head _) ?_)
  have h : Sat σ w (RM ++ (KM ++ (M ++ ((b1, cel u.C.toList ty_spec_Node) :: L)))) := h.re
  refine Sat.app1 rowND hS h (v := u.V) rfl (one10 u) (fillND u) (by omega) (by omega) (by decide) fun q' c' w RM' hS' h => ?_
  have e : putN acc x = acc ++ [x] := by
   rcases he with rfl | he
   ·rfl
   ·exact he
  refine hR w q' (n + 1) c' _ RM' (KM ++ M) (Nat.le_refl _) (by rw [e]; exact hI.append hx.one) hS' ?_
  exact h.less [(b1, cel u.C.toList ty_spec_Node)]
 rcases List.eq_nil_or_concat acc with rfl | ⟨pre, y, rfl⟩
 ·have hn0 : n = 0 := hna
  subst hn0
  exact br_false rfl (happ (.inl rfl) _ w h)
 rw [List.concat_eq_append] at *
 have hn1 : n = pre.length + 1 := by rw [hna]; simp
 have ew : IntKind.i64.wrap ((n : Int) - 1) = (pre.length : Nat) := by rw [i64_dec (by omega) (by omega), hn1]; rfl
 have hI0 := hI
 obtain ⟨vs1, M1, v, M2, rfl, rfl, hI1, hy⟩ := hI.snoc
 have hl1 := hI1.len
 obtain ⟨h0, ks, qa, ca, q0, n0, c0, us, RM0, KM0, rfl, rfl, rfl, y1, y2, y3⟩ := hy
 have e2 := putN_snoc pre h0 ks x
 rw [ew]
 refine br_true (by simp) ⟨_, Sat.ld h (.head _) (i := 0) rfl, ?_⟩
 have hnot : ¬ (x.h.kind = 20 ∧ h0.kind = 20) → putN (pre ++ [.mk h0 ks]) x = (pre ++ [.mk h0 ks]) ++ [x] := by
  intro hc
  rw [e2, if_neg hc]; simp
 refine br_split (fun h20 => ?_) (fun h20 => ?_)
 ·have hx20 : x.h.kind = 20 := by
   rw [hk] at h20
   have := eq_of_beq h20
   omega
  refine ⟨by omega, by omega, ?_⟩
  have hS0 := hS
  obtain ⟨_, _, ⟨rfl, hz, _, _⟩ | ⟨rb, sp, rfl, rfl, hsp⟩⟩ := hS0
  ·omega
  refine nilP_some ?_
  simp only [Addr.add_lit, Int.toNat_natCast, Nat.zero_add]
  have hrow : ∀ (i : Nat) (z : Value), (h0.nd qa ca q0 n0 c0).C.toList[i]? = some z → (vs1 ++ (h0.nd qa ca q0 n0 c0).C.toList ++ sp)[pre.length * 10 + i]? = some z := by
   intro i z hz
   rw [List.append_assoc]
   exact row_get hl1 hz
  refine ⟨_, Sat.ld h (.tail _ (.head _)) (hrow 0 _ rfl), ?_⟩
  by_cases hy20 : h0.kind = 20
  ·rw [show (((h0.kind : Nat) : Int) == 20) = true by rw [hy20]; rfl]
   refine br_true rfl (h.tk fun w h => ⟨by omega, by omega, nilP_some ?_⟩)
   simp only [Addr.add_lit, Int.toNat_natCast, Nat.zero_add]
   refine ⟨_, Sat.ld h (.tail _ (.head _)) (hrow 1 _ rfl), _, Sat.ld h (.head _) (i := 1) rfl, ?_⟩
   rw [ht, bs_append]
   rw [tsum_append] at hsum
   have hs2 : tsum [.mk h0 ks] = h0.text.length + 0 := rfl
   refine ⟨by rw [hmax, bs_size, bs_size]; omega, by omega, by omega, nilP_some ?_⟩
   simp only [Addr.add_lit, Int.toNat_natCast, Nat.zero_add, Nat.add_zero]
   have hset : (vs1 ++ (h0.nd qa ca q0 n0 c0).C.toList ++ sp).set (pre.length * 10 + 1) (.string (bs (h0.text ++ x.h.text))) = vs1 ++ (NH.nd { h0 with text := h0.text ++ x.h.text } qa ca q0 n0 c0).C.toList ++ sp := by
    rw [List.append_assoc, List.set_append_right _ _ (by omega), show pre.length * 10 + 1 - vs1.length = 1 by omega, List.append_assoc]
    rfl
   refine Sat.st h (k := 1) rfl (by have := (List.getElem?_eq_some_iff.1 (hrow 1 _ rfl)).1; exact this) trivial rfl fun w h => ?_
   rw [hset] at h
   have h : Sat σ w ((b1, cel u.C.toList ty_spec_Node) :: ([(rb, cel (vs1 ++ (NH.nd { h0 with text := h0.text ++ x.h.text } qa ca q0 n0 c0).C.toList ++ sp) ty_spec_Node)] ++ (M1 ++ (RM0 ++ KM0) ++ (M ++ L)))) := h
   refine hR w _ n c (vs1 ++ (NH.nd { h0 with text := h0.text ++ x.h.text } qa ca q0 n0 c0).C.toList) [(rb, cel (vs1 ++ (NH.nd { h0 with text := h0.text ++ x.h.text } qa ca q0 n0 c0).C.toList ++ sp) ty_spec_Node)] (M1 ++ (RM0 ++ KM0)) (by omega) ?_ ⟨?_, hS.2.1, .inr ⟨rb, sp, rfl, rfl, ?_⟩⟩ ?_
   ·rw [e2, if_pos ⟨hx20, hy20⟩]
    exact hI1.append (NodeDt.one ⟨_, ks, qa, ca, q0, n0, c0, us, RM0, KM0, rfl, rfl, rfl, y1, y2, y3⟩)
   ·rw [List.length_append]; rw [List.length_append] at hl; exact hl
   ·rw [List.length_append, List.length_append] at hsp ⊢; exact hsp
   ·exact h.less ((b1, cel u.C.toList ty_spec_Node) :: M)
  ·rw [show (((h0.kind : Nat) : Int) == 20) = false by rw [beq_eq_false_iff_ne]; omega]
   exact happ (.inr (hnot (fun hc => hy20 hc.2))) _ w h
 ·refine happ (.inr (hnot (fun hc => ?_))) _ w h
  rw [hk, hc.1] at h20
  exact absurd h20 (by decide)
end Go.Proofs.YtgbgadkldalkbaaGreatDoor


set_option linter.unusedVariables false
namespace Go.Proofs.YtgbgadkldalkbaaGreatDoor
open Go.Proofs Go.IntWalk Go.RowKit
variable {σ : Out} {w : World} {L L' : List Chunk} {R : Ending → World → Prop}
noncomputable def rowI64 : Row P ty_S_int ty_int 1 8 :=
 ⟨(P.info? ty_int).getD default, ((P.info? ty_int).bind (·.zero)).getD default, by kernel_rfl, by kernel_rfl, by kernel_rfl, by kernel_rfl, by kernel_rfl, by kernel_rfl, by decide⟩
theorem run_build0i (w : World) : (Instr.buildSlice ty_S_int 0 #[]).run P w = .ok (.slice (some ⟨w.heap.size, 0, none⟩) 0 0) (w.alloc (.cells #[] ty_int)) := by
 have hi := rowI64.hi
 simp [Instr.buildSlice, run_underlying rowI64.ht, sizeOf, typeInfo, hi, Instr.fill, newRow]
 have e : ∀ f : Nat → Value, (Array.range 0).map f = #[] := fun f => Array.eq_empty_of_size_eq_zero (by simp)
 rw [e]
theorem Sat.build0 (h : Sat σ w L) {K : OA → Nat → Nat → World → Prop} (hK : ∀ b w', Sat σ w' ((b, cel [] ty_int) :: L) → K (some ⟨b, 0, none⟩) 0 0 w') : ∃ (q : OA), ∃ (n : Nat), ∃ (c : Nat), ∃ w', (Instr.buildSlice ty_S_int 0 #[]).run P w = .ok (.slice q n c) w' ∧ K q n c w' :=
 ⟨_, _, _, _, run_build0i w, hK _ _ (h.alc [] ty_int)⟩
theorem Sat.app0 {b : Nat} {qa : OA} {ca : Nat} (h : Sat σ w ((b, cel [] ty_int) :: L)) {K : OA → Nat → Nat → World → Prop} (hK : ∀ q c w', Sat σ w' L → K q 0 c w') : ∃ (q : OA), ∃ (n : Nat), ∃ (c : Nat), ∃ w', (Builtin.append_ #[ty_S_int, ty_S_int] ty_S_int #[.slice (some ⟨b, 0, none⟩) 0 0, .slice qa 0 ca]).run P w = .ok (.slice q n c) w' ∧ K q n c w' := by
 have hs : Src P 1 ty_S_int (.slice qa 0 ca) 0 [] w := by
  cases qa with
  | none => exact Src.ofNil w rowI64.ht ca
  | some a => exact Src.ofSlice w rowI64.ht a 0 ca [] rfl (fun j u hu => by simp at hu) (by simp)
 obtain ⟨q', c', w', M', hr, hS', h', _⟩ := Sat.app rowI64 (M := [(b, cel [] ty_int)]) (tx := ty_S_int) (ty := ty_S_int) (n := 0) (c := 0) (vs := []) ⟨rfl, Nat.le_refl _, .inr ⟨b, [], rfl, rfl, rfl⟩⟩ h hs (.inr (by simp)) (by decide) (by decide)
 exact ⟨q', 0, c', w', hr, hK q' c' w' h'.right⟩
def BareG (x : IN) (v : N16) (T : List Chunk) : Prop :=
 ∀ (σ : Out) (R : Ending → World → Prop) (L : List Chunk) (w : World), Sat σ w (T ++ L) → (∀ w u M, NodeDt (bareN x) u M → Sat σ w (M ++ (T ++ L)) → R (.returned u.V) w) → callE P i_laws_bare #[v.V] R w
inductive BareGs : List IN → List Value → List Chunk → Prop where
 | nil : BareGs [] [] []
 | cons {x : IN} {xs : List IN} {v : N16} {us : List Value} {T K : List Chunk} : BareG x v T → v.a0 = (x.h.kind : Int) → x.h.text.length < 1073741824 → BareGs xs us K → BareGs (x :: xs) (v.C.toList ++ us) (T ++ K)
theorem BareGs.len {xs : List IN} {vs : List Value} {M : List Chunk} (h : BareGs xs vs M) : vs.length = xs.length * 16 := by
 induction h with
 | nil => rfl
 | cons _ _ _ _ ih => rw [List.length_append, ih, List.length_cons, Nat.succ_mul, Nat.add_comm]; rfl
theorem bareH_text (h : IH) : (bareH h).text.length ≤ h.text.length := by
 unfold bareH
 dsimp only
 split
 ·exact Nat.zero_le _
 ·exact Nat.le_refl _
theorem bareN_h (x : IN) : (bareN x).h = bareH x.h := by
 obtain ⟨h, ks⟩ := x
 rw [bareN]; rfl
theorem bare_loop {ks : List IN} {q : OA} {n c : Nat} {vs : List Value} {RM KM : List Chunk} {b1 b3 bo : Nat} {h0 : IH} {H : NH} {qa : OA} {ca : Nat} (hG : BareGs ks vs KM) (hS : Sl 16 ty_impl_Node q n c vs RM) (hn : n < 1073741824)
 (h : Sat σ w ((bo, cel (H.nd qa ca none 0 0).C.toList ty_spec_Node) :: (b1, cel (h0.nd q n c).C.toList ty_impl_Node) :: (b3, cel (N10.C {}).toList ty_spec_Node) :: (RM ++ KM ++ L)))
 (hR : ∀ w u M, NodeDt (.mk H (bareL [] ks)) u M → Sat σ w (M ++ (RM ++ KM ++ L)) → R (.returned u.V) w) : g_laws_bare.l1 R b3 bo q n c (n : Int) 0 w := by
 have hl := hS.1
 have hGl := hG.len
 intro X hX
 have key : ∀ (xs2 : List IN) (vs2 : List Value) (K : List Chunk), BareGs xs2 vs2 K → ∀ (acc : List ND) (vs1 : List Value) (D : List Chunk) (j : Nat) oq oc us OM NM w, vs1 ++ vs2 = vs → vs1.length = j * 16 → j + xs2.length = n → bareL acc xs2 = bareL [] ks → acc.length ≤ j → tsum acc ≤ j * 1073741824 →
  NDs acc us NM → Sl 10 ty_spec_Node oq acc.length oc us OM → Sat σ w ((bo, cel (H.nd qa ca oq acc.length oc).C.toList ty_spec_Node) :: (b1, cel (h0.nd q n c).C.toList ty_impl_Node) :: (b3, cel (N10.C {}).toList ty_spec_Node) :: (OM ++ NM ++ (RM ++ (D ++ (K ++ L))))) →
  (∀ w u M, NodeDt (.mk H (bareL [] ks)) u M → Sat σ w (M ++ (RM ++ (D ++ (K ++ L)))) → R (.returned u.V) w) → X b3 bo q n c (n : Int) (j : Nat) w := by
  intro xs2 vs2 K hG
  induction hG with
  | nil =>
   intro acc vs1 D j oq oc us OM NM w hv h1 hj hb hal hts hI hO h hR
   simp only [List.length_nil, Nat.add_zero] at hj
   refine hX _ _ _ _ _ _ _ _ (br_false (by simp; omega) ?_)
   refine h.ldB10 _ (.head _) ?_
   refine h.st10 2 {} (H.nd qa ca oq acc.length oc) fun w h => ?_
   refine h.ldB10 _ (.tail _ (.tail _ (.head _))) ?_
   have e : bareL acc [] = acc := by rw [bareL]
   rw [← hb, e] at hR
   refine hR w _ (OM ++ NM) ⟨H, acc, qa, ca, oq, acc.length, oc, us, OM, NM, rfl, rfl, rfl, by omega, hI, hO⟩ ?_
   have h : Sat σ w ((bo, cel (H.nd qa ca oq acc.length oc).C.toList ty_spec_Node) :: (b1, cel (h0.nd q n c).C.toList ty_impl_Node) :: (b3, cel (H.nd qa ca oq acc.length oc).C.toList ty_spec_Node) :: (OM ++ NM ++ (RM ++ (D ++ ([] ++ L))))) := h
   exact h.tail.tail.tail
  | @cons x xs2 v us2 T K g1 g2 g3 g4 ih =>
   intro acc vs1 D j oq oc us OM NM w hv h1 hj hb hal hts hI hO h hR
   simp only [List.length_cons] at hj
   have hjn : j < n := by omega
   refine hX _ _ _ _ _ _ _ _ (br_true (by simp; omega) ⟨by omega, by omega, ?_⟩)
   have hS0 := hS
   obtain ⟨_, _, ⟨rfl, hz, _, _⟩ | ⟨rb, sp, rfl, rfl, hsp⟩⟩ := hS0
   ·omega
   refine nilP_some ?_
   simp only [Addr.add_lit, Int.toNat_natCast, Nat.zero_add]
   have erow : vs ++ sp = vs1 ++ (v.C.toList ++ (us2 ++ sp)) := by rw [← hv]; simp only [List.append_assoc]
   refine Sat.ldA16 h v (b := rb) (pre := vs1) (suf := us2 ++ sp) (e := ty_impl_Node) (by rw [← erow]; simp) h1 ?_
   refine Sat.bx h fun bk w h => ?_
   have h : Sat σ w ((bk, cel (N16.C {}).toList ty_impl_Node) :: (bo, cel (H.nd qa ca oq acc.length oc).C.toList ty_spec_Node) :: (b1, cel (h0.nd (some ⟨rb, 0, none⟩) n c).C.toList ty_impl_Node) :: (b3, cel (N10.C {}).toList ty_spec_Node) :: (OM ++ NM ++ ([(rb, cel (vs ++ sp) ty_impl_Node)] ++ (D ++ (T ++ K ++ L))))) := h
   refine h.st16 0 {} v fun w h => ⟨_, Sat.ld h (.head _) (i := 0) rfl, ?_⟩
   rw [g2]
   have eb : bareL acc (x :: xs2) = bareL (if x.h.kind = 13 then acc else putN acc (bareN x)) xs2 := by rw [bareL]
   rw [eb] at hb
   have hv' : (vs1 ++ v.C.toList) ++ us2 = vs := by rw [← hv]; simp only [List.append_assoc]
   have h1' : (vs1 ++ v.C.toList).length = (j + 1) * 16 := by rw [List.length_append, h1, Nat.succ_mul]; rfl
   by_cases h13 : x.h.kind = 13
   ·rw [if_pos h13] at hb
    refine br_false (by rw [h13]; rfl) ?_
    rw [i64_inc (by omega)]
    have hj2 : j + 1 + xs2.length = n := by rw [← hj]; exact Nat.add_right_comm j 1 _
    refine ih acc (vs1 ++ v.C.toList) (D ++ T) (j + 1) oq oc us OM NM w hv' h1' hj2 hb (Nat.le_succ_of_le hal) (Nat.le_trans hts (Nat.mul_le_mul_right _ (Nat.le_succ j))) hI hO ?_ (fun w u M hN h => hR w u M hN h.re)
    exact Sat.less [(bk, cel v.C.toList ty_impl_Node)] h
   ·rw [if_neg h13] at hb
    refine br_true (by simp; omega) (h.tk fun w h => ?_)
    refine ⟨_, _, _, Sat.ld h (.tail _ (.head _)) (i := 7) rfl, ?_⟩
    refine h.ldB16 v (.head _) ?_
    have hlt := hjn
    have hx1 : (bareN x).h.text.length ≤ x.h.text.length := by rw [bareN_h]; exact bareH_text x.h
    have h : Sat σ w (T ++ ((bk, cel v.C.toList ty_impl_Node) :: (bo, cel (H.nd qa ca oq acc.length oc).C.toList ty_spec_Node) :: (b1, cel (h0.nd (some ⟨rb, 0, none⟩) n c).C.toList ty_impl_Node) :: (b3, cel (N10.C {}).toList ty_spec_Node) :: (OM ++ NM ++ ([(rb, cel (vs ++ sp) ty_impl_Node)] ++ (D ++ (K ++ L)))))) := h.re
    have h00 := h
    refine g1 σ _ _ w h fun w u M hN h => rt10_mk ⟨?_, ?_⟩
    ·exact h00.same h (List.mem_append_right _ (.tail _ (.head _))) (List.mem_append_right _ (List.mem_append_right _ (.tail _ (.head _)))) 1
    have h : Sat σ w (OM ++ (NM ++ (M ++ ((bo, cel (H.nd qa ca oq acc.length oc).C.toList ty_spec_Node) :: (bk, cel v.C.toList ty_impl_Node) :: (b1, cel (h0.nd (some ⟨rb, 0, none⟩) n c).C.toList ty_impl_Node) :: (b3, cel (N10.C {}).toList ty_spec_Node) :: ([(rb, cel (vs ++ sp) ty_impl_Node)] ++ (D ++ (T ++ (K ++ L)))))))) := h.re
    refine put_ok (n := acc.length) hI hO hN (by omega) (by omega) h fun w q' n' c' vs' RM' KM' hn' hI' hO' h => ⟨_, _, _, rfl, ?_⟩
    have hn2 : n' = (putN acc (bareN x)).length := by have a := hI'.len; have b := hO'.1; omega
    subst hn2
    have h : Sat σ w ((bo, cel (H.nd qa ca oq acc.length oc).C.toList ty_spec_Node) :: (RM' ++ (KM' ++ ((bk, cel v.C.toList ty_impl_Node) :: (b1, cel (h0.nd (some ⟨rb, 0, none⟩) n c).C.toList ty_impl_Node) :: (b3, cel (N10.C {}).toList ty_spec_Node) :: ([(rb, cel (vs ++ sp) ty_impl_Node)] ++ (D ++ (T ++ (K ++ L)))))))) := h.re
    refine Sat.st h (k := 0) rfl (by show 7 < 10; decide) trivial rfl fun w h => ?_
    have h : Sat σ w ((bo, cel (H.nd qa ca q' (putN acc (bareN x)).length c').C.toList ty_spec_Node) :: (RM' ++ (KM' ++ ((bk, cel v.C.toList ty_impl_Node) :: (b1, cel (h0.nd (some ⟨rb, 0, none⟩) n c).C.toList ty_impl_Node) :: (b3, cel (N10.C {}).toList ty_spec_Node) :: ([(rb, cel (vs ++ sp) ty_impl_Node)] ++ (D ++ (T ++ (K ++ L)))))))) := h
    rw [i64_inc (by omega)]
    have hsum := putN_sum acc (bareN x)
    refine ih (putN acc (bareN x)) (vs1 ++ v.C.toList) (D ++ T) (j + 1) q' c' vs' RM' KM' w hv' h1' (by omega) hb (by omega) (by omega) hI' hO' ?_ (fun w u M hN h => hR w u M hN h.re)
    exact Sat.less [(bk, cel v.C.toList ty_impl_Node)] h
 exact key ks vs KM hG [] [] [] 0 none 0 [] [] [] w rfl rfl (by omega) rfl (Nat.le_refl _) (Nat.le_refl _) .nil (Sl.nil 10 ty_spec_Node) (by simpa using h) (fun w u M hN h => hR w u M hN (by simpa using h))
end Go.Proofs.YtgbgadkldalkbaaGreatDoor


set_option linter.unusedVariables false
namespace Go.Proofs.YtgbgadkldalkbaaGreatDoor
open Go.Proofs Go.IntWalk Go.RowKit
variable {σ : Out} {w : World} {L L' : List Chunk} {R : Ending → World → Prop}
def IH.fenced (h : IH) : Prop := h.kind = 7 → h.mark ≠ []
theorem kind_eq (k d : Nat) : (((k : Nat) : Int) == (d : Int)) = decide (k = d) := by
 rw [Bool.eq_iff_iff, beq_iff_eq, decide_eq_true_eq]; omega
theorem bare_node {h0 : IH} {ks : List IN} {q : OA} {n c : Nat} {vs : List Value} {RM KM : List Chunk} (hG : BareGs ks vs KM) (hS : Sl 16 ty_impl_Node q n c vs RM) (hn : n < 1073741824) (hf : h0.fenced) : BareG (.mk h0 ks) (h0.nd q n c) (RM ++ KM) := by
 intro σ R L w h hR
 refine g_laws_bare.sound ?_
 refine Sat.bx h fun b1 w h => ?_
 refine Sat.bx h fun b3 w h => h.tk fun w h => ?_
 have h : Sat σ w ((b3, cel (N10.C {}).toList ty_spec_Node) :: (b1, cel (h0.nd q n c).C.toList ty_impl_Node) :: (RM ++ KM ++ L)) := h
 let H1 : NH := { kind := h0.kind, text := h0.text, title := h0.title, num := h0.num, char := h0.char, loose := h0.loose }
 have fin : ∀ bo qa ca w, Sat σ w ((bo, cel (H1.nd qa ca none 0 0).C.toList ty_spec_Node) :: (b3, cel (N10.C {}).toList ty_spec_Node) :: (b1, cel (h0.nd q n c).C.toList ty_impl_Node) :: (RM ++ KM ++ L)) → g_laws_bare.k1 R b1 b3 bo w := by
  intro bo qa ca w h
  have k2 : ∀ w, Sat σ w ((bo, cel ((bareH h0).nd qa ca none 0 0).C.toList ty_spec_Node) :: (b3, cel (N10.C {}).toList ty_spec_Node) :: (b1, cel (h0.nd q n c).C.toList ty_impl_Node) :: (RM ++ KM ++ L)) → g_laws_bare.k2 R b1 b3 bo w := by
   intro w h
   have k4 : ∀ w, Sat σ w ((bo, cel ((bareH h0).nd qa ca none 0 0).C.toList ty_spec_Node) :: (b3, cel (N10.C {}).toList ty_spec_Node) :: (b1, cel (h0.nd q n c).C.toList ty_impl_Node) :: (RM ++ KM ++ L)) → g_laws_bare.k4 R b1 b3 bo w := by
    intro w h
    refine ⟨_, _, _, Sat.ld h (.tail _ (.tail _ (.head _))) (i := 7) rfl, ?_⟩
    refine bare_loop (b1 := b1) (qa := qa) (ca := ca) (H := bareH h0) (h0 := h0) hG hS hn (h.re) fun w u M hN h => hR w u M ?_ h
    rw [bareN]; exact hN
   refine ⟨_, Sat.ld h (.tail _ (.tail _ (.head _))) (i := 0) rfl, br_split (fun h7 => ?_) (fun _ => br_false rfl (k4 w h))⟩
   refine ⟨_, Sat.ld h (.tail _ (.tail _ (.head _))) (i := 10) rfl, br_false ?_ (k4 w h)⟩
   have h7 : (((h0.kind : Nat) : Int) == ((7 : Nat) : Int)) = true := h7
   rw [kind_eq, decide_eq_true_eq] at h7
   have := hf h7
   rw [bs_toList]
   have e : (ByteArray.mk #[]).toList = [] := bs_toList []
   rw [e]
   simpa using this
  have hno : h0.kind ≠ 6 → h0.kind ≠ 5 → h0.kind ≠ 12 → bareH h0 = H1 := by
   intro a b d
   unfold bareH
   rw [if_neg (by omega)]
  have hyes : h0.kind = 6 ∨ h0.kind = 5 ∨ h0.kind = 12 → bareH h0 = { H1 with text := [] } := by
   intro a
   unfold bareH
   rw [if_pos a]
  have hst : (h0.kind = 6 ∨ h0.kind = 5 ∨ h0.kind = 12) → stV w ⟨bo, 1, none⟩ (.string (ByteArray.mk #[])) fun w => g_laws_bare.k2 R b1 b3 bo w := by
   intro a
   refine Sat.st h (k := 0) rfl (by show 1 < 10; decide) trivial rfl fun w h => k2 w ?_
   rw [hyes a]
   exact h
  refine ⟨_, Sat.ld h (.tail _ (.tail _ (.head _))) (i := 0) rfl, br_split (fun h6 => ?_) fun h6 => ?_⟩
  ·have h6 : (((h0.kind : Nat) : Int) == ((6 : Nat) : Int)) = true := h6
   rw [kind_eq, decide_eq_true_eq] at h6
   exact hst (.inl h6)
  have h6 : (((h0.kind : Nat) : Int) == ((6 : Nat) : Int)) = false := h6
  rw [kind_eq, decide_eq_false_iff_not] at h6
  refine ⟨_, Sat.ld h (.tail _ (.tail _ (.head _))) (i := 0) rfl, br_split (fun h5 => ?_) fun h5 => ?_⟩
  ·have h5 : (((h0.kind : Nat) : Int) == ((5 : Nat) : Int)) = true := h5
   rw [kind_eq, decide_eq_true_eq] at h5
   exact hst (.inr (.inl h5))
  have h5 : (((h0.kind : Nat) : Int) == ((5 : Nat) : Int)) = false := h5
  rw [kind_eq, decide_eq_false_iff_not] at h5
  refine ⟨_, Sat.ld h (.tail _ (.tail _ (.head _))) (i := 0) rfl, br_split (fun h12 => ?_) fun h12 => ?_⟩
  ·have h12 : (((h0.kind : Nat) : Int) == ((12 : Nat) : Int)) = true := h12
   rw [kind_eq, decide_eq_true_eq] at h12
   exact hst (.inr (.inr h12))
  have h12 : (((h0.kind : Nat) : Int) == ((12 : Nat) : Int)) = false := h12
  rw [kind_eq, decide_eq_false_iff_not] at h12
  refine k2 w ?_
  rw [hno h6 h5 h12]
  exact h
 have hm : (b1, cel (h0.nd q n c).C.toList ty_impl_Node) ∈ ((b3, cel (N10.C {}).toList ty_spec_Node) :: (b1, cel (h0.nd q n c).C.toList ty_impl_Node) :: (RM ++ KM ++ L)) := .tail _ (.head _)
 refine ⟨_, Sat.ld h hm (i := 0) rfl, _, Sat.ld h hm (i := 1) rfl, _, Sat.ld h hm (i := 2) rfl, _, Sat.ld h hm (i := 3) rfl, _, Sat.ld h hm (i := 4) rfl, _, Sat.ld h hm (i := 5) rfl, _, _, _, Sat.ld h hm (i := 6) rfl, ?_, ?_⟩
 ·refine h.build0 fun br_ w1 h1 => ?_
  have hm1 : (b1, cel (h0.nd q n c).C.toList ty_impl_Node) ∈ ((br_, cel [] ty_int) :: (b3, cel (N10.C {}).toList ty_spec_Node) :: (b1, cel (h0.nd q n c).C.toList ty_impl_Node) :: (RM ++ KM ++ L)) := .tail _ (.tail _ (.head _))
  have s1 : ∀ i, SameC w w1 ⟨b1, i, none⟩ 1 := fun i => h.same h1 hm hm1 1
  refine ⟨s1 6, s1 5, s1 4, s1 3, s1 2, s1 1, s1 0, ?_, ?_⟩
  ·refine h1.app0 fun qa ca w2 h2 => ?_
   have s2 : ∀ i, SameC w1 w2 ⟨b1, i, none⟩ 1 := fun i => h1.same h2 hm1 hm 1
   refine ⟨s2 5, s2 4, s2 3, s2 2, s2 1, s2 0, ?_⟩
   refine Sat.bx h2 fun bo w3 h3 => ?_
   have h3 : Sat σ w3 ((bo, cel (N10.C {}).toList ty_spec_Node) :: (b3, cel (N10.C {}).toList ty_spec_Node) :: (b1, cel (h0.nd q n c).C.toList ty_impl_Node) :: (RM ++ KM ++ L)) := h3
   have s3 : ∀ i, SameC w2 w3 ⟨b1, i, none⟩ 1 := fun i => h2.same h3 hm (.tail _ hm) 1
   refine ⟨s3 6, s3 5, s3 4, s3 3, s3 2, s3 1, s3 0, ?_⟩
   exact h3.st10 0 {} (H1.nd qa ca none 0 0) fun w h => fin bo qa ca w h
  ·refine Sat.bx h1 fun bo w3 h3 => ?_
   have h3 : Sat σ w3 ((bo, cel (N10.C {}).toList ty_spec_Node) :: (br_, cel [] ty_int) :: (b3, cel (N10.C {}).toList ty_spec_Node) :: (b1, cel (h0.nd q n c).C.toList ty_impl_Node) :: (RM ++ KM ++ L)) := h3
   have s3 : ∀ i, SameC w1 w3 ⟨b1, i, none⟩ 1 := fun i => h1.same h3 hm1 (.tail _ hm1) 1
   refine ⟨s3 6, s3 5, s3 4, s3 3, s3 2, s3 1, s3 0, ?_⟩
   refine h3.up1.app0 fun qa ca w2 h2 => ?_
   have s2 : ∀ i, SameC w3 w2 ⟨b1, i, none⟩ 1 := fun i => h3.same h2 (.tail _ hm1) (.tail _ hm) 1
   refine ⟨s2 5, s2 4, s2 3, s2 2, s2 1, s2 0, ?_⟩
   exact h2.st10 0 {} (H1.nd qa ca none 0 0) fun w h => fin bo qa ca w h
 ·refine Sat.bx h fun bo w1 h1 => ?_
  have h1 : Sat σ w1 ((bo, cel (N10.C {}).toList ty_spec_Node) :: (b3, cel (N10.C {}).toList ty_spec_Node) :: (b1, cel (h0.nd q n c).C.toList ty_impl_Node) :: (RM ++ KM ++ L)) := h1
  have s1 : ∀ i, SameC w w1 ⟨b1, i, none⟩ 1 := fun i => h.same h1 hm (.tail _ hm) 1
  refine ⟨s1 6, s1 5, s1 4, s1 3, s1 2, s1 1, s1 0, ?_⟩
  refine h1.build0 fun br_ w2 h2 => ?_
  have s2 : ∀ i, SameC w1 w2 ⟨b1, i, none⟩ 1 := fun i => h1.same h2 (.tail _ hm) (.tail _ (.tail _ hm)) 1
  refine ⟨s2 6, s2 5, s2 4, s2 3, s2 2, s2 1, s2 0, ?_⟩
  refine h2.app0 fun qa ca w3 h3 => ?_
  have s3 : ∀ i, SameC w2 w3 ⟨b1, i, none⟩ 1 := fun i => h2.same h3 (.tail _ (.tail _ hm)) (.tail _ hm) 1
  refine ⟨s3 5, s3 4, s3 3, s3 2, s3 1, s3 0, ?_⟩
  exact h3.st10 0 {} (H1.nd qa ca none 0 0) fun w h => fin bo qa ca w h
mutual
def IN.fenced : IN → Prop
 | .mk h ks => h.fenced ∧ fencedL ks
def fencedL : List IN → Prop
 | [] => True
 | k :: ks => k.fenced ∧ fencedL ks
end
theorem fenced_mk {h : IH} {ks : List IN} : (IN.mk h ks).fenced ↔ h.fenced ∧ fencedL ks := by rw [IN.fenced]
theorem fenced_cons {k : IN} {ks : List IN} : fencedL (k :: ks) ↔ k.fenced ∧ fencedL ks := by rw [fencedL]
theorem bareGs {xs : List IN} {vs : List Value} {M : List Chunk} (h : INs xs vs M) : fencedL xs → BareGs xs vs M := by
 induction h with
 | nil => exact fun _ => .nil
 | cons a1 a2 a3 a4 a5 ih1 ih2 =>
  intro hf
  obtain ⟨f1, f2⟩ := fenced_cons.1 hf
  obtain ⟨f3, f4⟩ := fenced_mk.1 f1
  exact .cons (bare_node (ih1 f4) a4 a2 f3) rfl a1.1 (ih2 f2)
end Go.Proofs.YtgbgadkldalkbaaGreatDoor


set_option linter.unusedVariables false
set_option maxRecDepth 20000
namespace Go.Proofs.YtgbgadkldalkbaaGreatDoor
open Go.Proofs
namespace g_Parser_Parse
noncomputable def body : Code := bodyOf Tryz.f25
end g_Parser_Parse
def g_Parser_Parse (R : EP) (x0 : OA) (x1 : BA) (w : World) : Prop :=
 callE P i_Parser_parse #[.pointer x0, .string x1] (fun e w2 => ∃ (r1_0 : OA), ∃ (r1_1 : Bool), e = .returned (.tuple #[.pointer r1_0, .bool r1_1]) ∧
 R (.returned (.pointer r1_0)) w2) w

namespace g_Parser_Parse
noncomputable def ac (R : EP) : AC :=
 (.leaf (sel [] body))
theorem good (R : EP) : Good P 14 (ac R) (QF P [.tmp 4] R) :=
 trivial
theorem eq (R : EP) (x0 : OA) (x1 : BA) (w : World) : g_Parser_Parse R x0 x1 w = vcA P 14 (ac R) (QF P [.tmp 4] R) (fr0 [.pointer x0, .string x1]) w := by kernel_rfl
theorem sound {R : EP} {x0 : OA} {x1 : ByteArray} {w : World} (h : g_Parser_Parse R x0 x1 w) : callE P i_Parser_Parse #[.pointer x0, .string x1] R w :=
 callE_fz (c := body) Tryz.func25 Tryz.call25 (good R) (eq R x0 x1 w) h
end g_Parser_Parse
namespace g_Parser_parse
noncomputable def body : Code := bodyOf Tryz.f45
def k3 (R : EP) (Xa : OA → BA → Nat → WP) (x0 : OA) (x1 : BA) (x6 : Nat) (x7 : BA) (x10 : Int) (w : World) : Prop :=
 ∃ (v33 : Int), w.cell? ⟨x6, 3, none⟩ = some (.int .i64 v33) ∧
 stV w ⟨x6, 3, none⟩ (.int .i64 (IntKind.i64.wrap (v33 + 1))) fun w34 =>
 callE P i_parseState_addLine #[.pointer (some ⟨x6, 0, none⟩), .agg #[.int .i64 0, .int .i64 0, .int .i64 0, .string x7, .int .u8 x10]] (fun e w36 => e = .returned (.tuple #[]) ∧
 Xa x0 x1 x6 w36) w34

def k4 (R : EP) (x6 : Nat) (w : World) : Prop :=
 tk w fun w41 =>
 ∃ (v42 : OA), w41.cell? ⟨x6, 1, none⟩ = some (.pointer v42) ∧
 ∃ (v43 : Bool), w41.cell? ⟨x6, 6, none⟩ = some (.bool v43) ∧
 R (.returned (.tuple #[.pointer v42, .bool v43])) w41

def k2 (R : EP) (Xa : OA → BA → Nat → WP) (x0 : OA) (x1 : BA) (x6 : Nat) (x8 x9 x10 : Int) (x34 : Bool) (w : World) : Prop :=
 br x34
 (0 ≤ x9 ∧ x9 ≤ (x1.size : Int) ∧
 br (x8 == (IntKind.i64.wrap (x9 + 1)))
 (0 ≤ (IntKind.i64.wrap (x9 + 2)) ∧ (IntKind.i64.wrap (x9 + 2)) ≤ (x1.size : Int) ∧
 k3 R Xa x0 (x1.extract (Int.toNat (IntKind.i64.wrap (x9 + 2))) x1.size) x6 (x1.extract 0 (Int.toNat x9)) 23 w)
 (0 ≤ (IntKind.i64.wrap (x9 + 1)) ∧ (IntKind.i64.wrap (x9 + 1)) ≤ (x1.size : Int) ∧
 k3 R Xa x0 (x1.extract (Int.toNat (IntKind.i64.wrap (x9 + 1))) x1.size) x6 (x1.extract 0 (Int.toNat x9)) 13 w))
 (br (decide (x8 ≥ 0))
 (tk w fun w21 =>
 0 ≤ x8 ∧ x8 ≤ (x1.size : Int) ∧
 0 ≤ (IntKind.i64.wrap (x8 + 1)) ∧ (IntKind.i64.wrap (x8 + 1)) ≤ (x1.size : Int) ∧
 k3 R Xa x0 (x1.extract (Int.toNat (IntKind.i64.wrap (x8 + 1))) x1.size) x6 (x1.extract 0 (Int.toNat x8)) 10 w21)
 (k3 R Xa x0 (ByteArray.mk #[]) x6 x1 x10 w))

def bl3 (R : EP) (Xb : Nat → OA → Nat → Nat → Int → Int → WP) (x6 : Nat) (x101q : OA) (x101n x101c : Nat) (x102 x103 : Int) (w : World) : Prop :=
 br (decide (x103 < x102))
 (0 ≤ x103 ∧ x103 < (x101n : Int) ∧
 nilP x101q fun a37 =>
 ∃ (v38 : OA), w.cell? (a37.add (Int.toNat x103 * 1)) = some (.pointer v38) ∧
 callE P i_parseState_taskList #[.pointer (some ⟨x6, 0, none⟩), .pointer v38] (fun e w40 => e = .returned (.tuple #[]) ∧
 Xb x6 x101q x101n x101c x102 (IntKind.i64.wrap (x103 + 1)) w40) w)
 (k4 R x6 w)
def l3 (R : EP) (x6 : Nat) (x101q : OA) (x101n x101c : Nat) (x102 x103 : Int) (w : World) : Prop :=
 ∀ X : Nat → OA → Nat → Nat → Int → Int → WP, (∀ x6 x101q x101n x101c x102 x103 w, bl3 R X x6 x101q x101n x101c x102 x103 w → X x6 x101q x101n x101c x102 x103 w) → X x6 x101q x101n x101c x102 x103 w

noncomputable def al3 (R : EP) (Xb : Nat → OA → Nat → Nat → Int → Int → WP) : AC :=
 (.leaf (sel [1,1,1,1,1,1,1,1,1,0,1,0,1,0,0] body))
def bl2 (R : EP) (Xc : OA → Nat → OA → Nat → Nat → Int → Int → WP) (x0 : OA) (x6 : Nat) (x81q : OA) (x81n x81c : Nat) (x82 x83 : Int) (w : World) : Prop :=
 br (decide (x83 < x82))
 (0 ≤ x83 ∧ x83 < (x81n : Int) ∧
 nilP x81q fun a22 =>
 ∃ (v23 : OA), w.cell? (a22.add (Int.toNat x83 * 1)) = some (.pointer v23) ∧
 nilP v23 fun a24 =>
 ∃ (v25 : BA), w.cell? (a24.add 3) = some (.string v25) ∧
 callE P i_parseState_inline #[.pointer (some ⟨x6, 0, none⟩), .string v25] (fun e w27 => ∃ (r26q : OA), ∃ (r26n : Nat), ∃ (r26c : Nat), e = .returned (.slice r26q r26n r26c) ∧
 nilP v23 fun a28 =>
 stV w27 ((a28.add 2).add 0) (.slice r26q r26n r26c) fun w29 =>
 Xc x0 x6 x81q x81n x81c x82 (IntKind.i64.wrap (x83 + 1)) w29) w)
 (nilP x0 fun a30 =>
 ∃ (v31 : Bool), w.cell? (a30.add 2) = some (.bool v31) ∧
 br v31
 (∃ (v32q : OA), ∃ (v32n : Nat), ∃ (v32c : Nat), w.cell? ⟨x6, 10, none⟩ = some (.slice v32q v32n v32c) ∧
 l3 R x6 v32q v32n v32c (v32n : Int) 0 w)
 (k4 R x6 w))
def l2 (R : EP) (x0 : OA) (x6 : Nat) (x81q : OA) (x81n x81c : Nat) (x82 x83 : Int) (w : World) : Prop :=
 ∀ X : OA → Nat → OA → Nat → Nat → Int → Int → WP, (∀ x0 x6 x81q x81n x81c x82 x83 w, bl2 R X x0 x6 x81q x81n x81c x82 x83 w → X x0 x6 x81q x81n x81c x82 x83 w) → X x0 x6 x81q x81n x81c x82 x83 w

noncomputable def al2 (R : EP) (Xc : OA → Nat → OA → Nat → Nat → Int → Int → WP) : AC :=
 (.leaf (sel [1,1,1,1,1,1,1,1,0,1,0,0] body))
def bl1 (R : EP) (Xa : OA → BA → Nat → WP) (x0 : OA) (x1 : BA) (x6 : Nat) (w : World) : Prop :=
 br (!(x1.toList == (ByteArray.mk #[]).toList))
 (callE P i_zzIndex #[.string x1, .string (ByteArray.mk #[10])] (fun e w15 => ∃ (r14 : Int), e = .returned (.int .i64 r14) ∧
 callE P i_zzIndex #[.string x1, .string (ByteArray.mk #[13])] (fun e w17 => ∃ (r16 : Int), e = .returned (.int .i64 r16) ∧
 k2 R Xa x0 x1 x6 r14 r16 0 ((decide (r16 ≥ 0)) && ((decide (r14 < 0)) || (decide (r16 < r14)))) w17) w15) w)
 (callE P i_parseState_trimStack #[.pointer (some ⟨x6, 0, none⟩), .int .i64 0] (fun e w19 => e = .returned (.tuple #[]) ∧
 ∃ (v20q : OA), ∃ (v20n : Nat), ∃ (v20c : Nat), w19.cell? ⟨x6, 11, none⟩ = some (.slice v20q v20n v20c) ∧
 l2 R x0 x6 v20q v20n v20c (v20n : Int) 0 w19) w)
def l1 (R : EP) (x0 : OA) (x1 : BA) (x6 : Nat) (w : World) : Prop :=
 ∀ X : OA → BA → Nat → WP, (∀ x0 x1 x6 w, bl1 R X x0 x1 x6 w → X x0 x1 x6 w) → X x0 x1 x6 w

noncomputable def al1 (R : EP) (Xa : OA → BA → Nat → WP) : AC :=
 (.seq (.leaf (sel [1,1,1,1,1,1,0,0,0,0] body)) (.block 1 (.seq (.leaf (sel [1,1,1,1,1,1,0,0,0,1,0,0] body)) (.seq (.leaf (sel [1,1,1,1,1,1,0,0,0,1,0,1,0] body)) (.seq (.leaf (sel [1,1,1,1,1,1,0,0,0,1,0,1,1,0] body)) (.seq (.leaf (sel [1,1,1,1,1,1,0,0,0,1,0,1,1,1,0] body)) (.seq (.block 2 (.seq (.leaf (sel [1,1,1,1,1,1,0,0,0,1,0,1,1,1,1,0,0,0] body)) (.mark (leaf [(0, .s .ptr), (1, .s .str), (6, .s .loc), (8, .s (.int .i64)), (9, .s (.int .i64)), (10, .s (.int .u8)), (34, .s .bool)] (k2 R Xa)) (.cond 34 (.leaf (sel [1,1,1,1,1,1,0,0,0,1,0,1,1,1,1,0,0,1,0] body)) (.seq (.leaf (sel [1,1,1,1,1,1,0,0,0,1,0,1,1,1,1,0,0,1,1,0] body)) (.cond 61 (.seq (.draw (.pure 0 (.pure 1 (.pure 2 (.pure 3 (.pure 4 (.pure 5 (.pure 6 (.pure 7 (.pure 8 .done))))))))) (sel [1,1,1,1,1,1,0,0,0,1,0,1,1,1,1,0,0,1,1,1,0,0] body)) (.leaf (sel [1,1,1,1,1,1,0,0,0,1,0,1,1,1,1,0,0,1,1,1,0,1] body))) (.leaf (sel [1,1,1,1,1,1,0,0,0,1,0,1,1,1,1,0,0,1,1,1,1] body)))))))) (.mark (leaf [(0, .s .ptr), (1, .s .str), (6, .s .loc), (7, .s .str), (10, .s (.int .u8))] (k3 R Xa)) (.leaf (sel [1,1,1,1,1,1,0,0,0,1,0,1,1,1,1,1] body))))))))))
def k1 (R : EP) (x0 : OA) (x1 : BA) (x6 : Nat) (w : World) : Prop :=
 stV w ⟨x6, 5, none⟩ (.int .i64 (-1)) fun w9 =>
 box w9 #[] ty_rootBuilder fun b10 w11 =>
 callE P i_parseState_addBlock #[.pointer (some ⟨x6, 0, none⟩), .iface ty_P_rootBuilder (.pointer (some ⟨b10, 0, none⟩))] (fun e w13 => e = .returned (.tuple #[]) ∧
 l1 R x0 x1 x6 w13) w11

end g_Parser_parse
def g_Parser_parse (R : EP) (x0 : OA) (x1 : BA) (w : World) : Prop :=
 box w #[.pointer none, .pointer none, .map none, .int .i64 0, .slice none 0 0, .int .i64 0, .bool false, .string (ByteArray.mk #[]), .int .i64 0, .slice none 0 0, .slice none 0 0, .slice none 0 0, .int .i64 0, .int .i64 0, .int .i64 0, .int .i64 0, .int .i64 0, .int .i64 0, .int .i64 0, .int .i64 0, .int .i64 0, .int .i64 0, .int .i64 0, .int .i64 0, .int .i64 0, .int .i64 0, .int .i64 0, .int .i64 0, .int .i64 0, .int .i64 0, .int .i64 0, .int .i64 0, .int .i64 0, .int .i64 0, .int .i64 0, .int .i64 0, .int .i64 0, .int .i64 0, .int .i64 0, .int .i64 0, .int .i64 0, .int .i64 0, .int .i64 0, .int .i64 0, .int .i64 0, .int .i64 0, .int .i64 0, .int .i64 0, .int .i64 0, .int .i64 0, .int .i64 0, .int .i64 0, .int .i64 0, .int .i64 0, .int .i64 0, .int .i64 0, .int .i64 0, .int .i64 0, .int .i64 0, .int .i64 0, .int .i64 0, .int .i64 0, .int .i64 0, .int .i64 0, .int .i64 0, .int .i64 0, .int .i64 0, .int .i64 0, .int .i64 0, .int .i64 0, .int .i64 0, .int .i64 0, .int .i64 0, .int .i64 0, .int .i64 0, .int .i64 0, .int .i64 0, .int .i64 0, .int .i64 0, .int .i64 0, .int .i64 0, .int .i64 0, .int .i64 0, .int .i64 0, .int .i64 0, .int .i64 0, .int .i64 0, .int .i64 0, .int .i64 0, .int .i64 0, .int .i64 0, .int .i64 0, .bool false] ty_parseState fun b1 w2 =>
 stV w2 ⟨b1, 0, none⟩ (.pointer x0) fun w3 =>
 callE P i_zzContains #[.string x1, .string (ByteArray.mk #[0])] (fun e w5 => ∃ (r4 : Bool), e = .returned (.bool r4) ∧
 br r4
 (callE P i_zzReplaceAll #[.string x1, .string (ByteArray.mk #[0]), .string (ByteArray.mk #[239, 191, 189])] (fun e w7 => ∃ (r6 : BA), e = .returned (.string r6) ∧
 stV w7 ⟨b1, 6, none⟩ (.bool true) fun w8 =>
 g_Parser_parse.k1 R x0 r6 b1 w8) w5)
 (g_Parser_parse.k1 R x0 x1 b1 w5)) w3

namespace g_Parser_parse
noncomputable def ac (R : EP) : AC :=
 (.seq (.leaf (sel [0] body)) (.seq (.leaf (sel [1,0] body)) (.seq (.leaf (sel [1,1,0] body)) (.seq (.leaf (sel [1,1,1,0] body)) (.mark (leaf [(0, .s .ptr), (1, .s .str), (6, .s .loc)] (k1 R)) (.seq (.leaf (sel [1,1,1,1,0] body)) (.seq (.leaf (sel [1,1,1,1,1,0] body)) (.seq (.block 0 (.loop (leaf [(0, .s .ptr), (1, .s .str), (6, .s .loc)] (l1 R)) (sel [1,1,1,1,1,1,0,0,0] body))) (.seq (.leaf (sel [1,1,1,1,1,1,1,0] body)) (.seq (.seq (.leaf (sel [1,1,1,1,1,1,1,1,0,0] body)) (.block 3 (.loop (leaf [(0, .s .ptr), (6, .s .loc), (81, .s .slice), (82, .s (.int .i64)), (83, .s (.int .i64))] (l2 R)) (sel [1,1,1,1,1,1,1,1,0,1,0,0] body)))) (.seq (.seq (.leaf (sel [1,1,1,1,1,1,1,1,1,0,0] body)) (.cond 99 (.seq (.leaf (sel [1,1,1,1,1,1,1,1,1,0,1,0,0] body)) (.block 5 (.loop (leaf [(6, .s .loc), (101, .s .slice), (102, .s (.int .i64)), (103, .s (.int .i64))] (l3 R)) (sel [1,1,1,1,1,1,1,1,1,0,1,0,1,0,0] body)))) (.leaf (sel [1,1,1,1,1,1,1,1,1,0,1,1] body)))) (.mark (leaf [(6, .s .loc)] (k4 R)) (.seq (.draw (.pure 0 (.pure 2 (.load 1 (.pure 4 (.load 3 (.pure 5 .done)))))) (sel [1,1,1,1,1,1,1,1,1,1,0] body)) (.leaf (sel [1,1,1,1,1,1,1,1,1,1,1] body)))))))))))))))
theorem good (R : EP) : Good P 114 (ac R) (QF P [.tmp 4, .tmp 5] R) :=
 ⟨trivial, ⟨trivial, ⟨trivial, ⟨trivial, ⟨⟨trivial, ⟨trivial, ⟨(loopG (al1 R) (bl1 R) (fun _ => by kernel_rfl) (fun Xa => ⟨trivial, ⟨trivial, ⟨trivial, ⟨trivial, ⟨trivial, ⟨⟨trivial, ⟨⟨trivial, ⟨trivial, ⟨⟨⟨by kernel_rfl, by kernel_rfl, fun _ _ _ h => h⟩, trivial⟩, trivial⟩⟩⟩, cutZ⟩⟩, ⟨trivial, cutZ⟩⟩⟩⟩⟩⟩⟩) (fun Xa => by intro x0 x1 x6 ρ w; kernel_rfl) (fun X h _ _ _ _ g => g X h)), ⟨trivial, ⟨⟨trivial, (loopG (al2 R) (bl2 R) (fun _ => by kernel_rfl) (fun Xc => trivial) (fun Xc => by intro x0 x6 x81q x81n x81c x82 x83 ρ w; kernel_rfl) (fun X h _ _ _ _ _ _ _ _ g => g X h))⟩, ⟨⟨trivial, ⟨⟨trivial, (loopG (al3 R) (bl3 R) (fun _ => by kernel_rfl) (fun Xb => trivial) (fun Xb => by intro x6 x101q x101n x101c x102 x103 ρ w; kernel_rfl) (fun X h _ _ _ _ _ _ _ g => g X h))⟩, trivial⟩⟩, ⟨⟨⟨by kernel_rfl, by kernel_rfl, fun _ _ _ h => h⟩, trivial⟩, cutZ⟩⟩⟩⟩⟩⟩⟩, cutZ⟩⟩⟩⟩⟩
theorem eq (R : EP) (x0 : OA) (x1 : BA) (w : World) : g_Parser_parse R x0 x1 w = vcA P 114 (ac R) (QF P [.tmp 4, .tmp 5] R) (fr0 [.pointer x0, .string x1]) w := by kernel_rfl
theorem sound {R : EP} {x0 : OA} {x1 : ByteArray} {w : World} (h : g_Parser_parse R x0 x1 w) : callE P i_Parser_parse #[.pointer x0, .string x1] R w :=
 callE_fz (c := body) Tryz.func45 Tryz.call45 (good R) (eq R x0 x1 w) h
end g_Parser_parse
namespace g_impl_Parse
noncomputable def body : Code := bodyOf Tryz.f17
end g_impl_Parse
def g_impl_Parse (R : EP) (x0_0 x0_1 : Bool) (x0_2 x0_3 : Bool) (x0_4 x0_5 : Bool) (x0_6 x0_7 : Bool) (x0_8 x0_9 : Bool) (x1 : BA) (w : World) : Prop :=
 box w #[.bool x0_0, .bool x0_1, .bool x0_2, .bool x0_3, .bool x0_4, .bool x0_5, .bool x0_6, .bool x0_7, .bool x0_8, .bool x0_9] ty_impl_Options fun b1 w2 =>
 box w2 (N16.C {}) ty_impl_Node fun b3 w4 =>
 ∃ (v5 : Bool), w4.cell? ⟨b1, 0, none⟩ = some (.bool v5) ∧
 ∃ (v6 : Bool), w4.cell? ⟨b1, 1, none⟩ = some (.bool v6) ∧
 ∃ (v7 : Bool), w4.cell? ⟨b1, 2, none⟩ = some (.bool v7) ∧
 ∃ (v8 : Bool), w4.cell? ⟨b1, 3, none⟩ = some (.bool v8) ∧
 ∃ (v9 : Bool), w4.cell? ⟨b1, 4, none⟩ = some (.bool v9) ∧
 ∃ (v10 : Bool), w4.cell? ⟨b1, 5, none⟩ = some (.bool v10) ∧
 ∃ (v11 : Bool), w4.cell? ⟨b1, 6, none⟩ = some (.bool v11) ∧
 ∃ (v12 : Bool), w4.cell? ⟨b1, 7, none⟩ = some (.bool v12) ∧
 ∃ (v13 : Bool), w4.cell? ⟨b1, 8, none⟩ = some (.bool v13) ∧
 ∃ (v14 : Bool), w4.cell? ⟨b1, 9, none⟩ = some (.bool v14) ∧
 callE P i_impl_parser #[.agg #[.bool v5, .bool v6, .bool v7, .bool v8, .bool v9, .bool v10, .bool v11, .bool v12, .bool v13, .bool v14]] (fun e w16 => ∃ (r15 : OA), e = .returned (.pointer r15) ∧
 callE P i_Parser_Parse #[.pointer r15, .string x1] (fun e w18 => ∃ (r17 : OA), e = .returned (.pointer r17) ∧
 callE P i_impl_block #[.iface ty_P_Document (.pointer r17)] (fun e w20 => rt16 e fun r19 =>
 st16 w20 b3 r19 fun w36 =>
 ldB16 w36 b3 fun m37 =>
 R (.returned (m37.V)) w36) w18) w16) w4

namespace g_impl_Parse
noncomputable def ac (R : EP) : AC :=
 (.leaf (sel [] body))
theorem good (R : EP) : Good P 11 (ac R) (QF P [.cell 4 48] R) :=
 trivial
theorem eq (R : EP) (x0_0 x0_1 : Bool) (x0_2 x0_3 : Bool) (x0_4 x0_5 : Bool) (x0_6 x0_7 : Bool) (x0_8 x0_9 : Bool) (x1 : BA) (w : World) : g_impl_Parse R x0_0 x0_1 x0_2 x0_3 x0_4 x0_5 x0_6 x0_7 x0_8 x0_9 x1 w = vcA P 11 (ac R) (QF P [.cell 4 48] R) (fr0 [.agg #[.bool x0_0, .bool x0_1, .bool x0_2, .bool x0_3, .bool x0_4, .bool x0_5, .bool x0_6, .bool x0_7, .bool x0_8, .bool x0_9], .string x1]) w := by kernel_rfl
theorem sound {R : EP} {x0_0 x0_1 : Bool} {x0_2 x0_3 : Bool} {x0_4 x0_5 : Bool} {x0_6 x0_7 : Bool} {x0_8 x0_9 : Bool} {x1 : ByteArray} {w : World} (h : g_impl_Parse R x0_0 x0_1 x0_2 x0_3 x0_4 x0_5 x0_6 x0_7 x0_8 x0_9 x1 w) : callE P i_impl_Parse #[.agg #[.bool x0_0, .bool x0_1, .bool x0_2, .bool x0_3, .bool x0_4, .bool x0_5, .bool x0_6, .bool x0_7, .bool x0_8, .bool x0_9], .string x1] R w :=
 callE_fz (c := body) Tryz.func17 Tryz.call17 (good R) (eq R x0_0 x0_1 x0_2 x0_3 x0_4 x0_5 x0_6 x0_7 x0_8 x0_9 x1 w) h
end g_impl_Parse
namespace g_impl_block
noncomputable def body : Code := bodyOf Tryz.f41
def bl1 (R : EP) (Xa : Nat → Nat → Value → WP) (x2 x4 : Nat) (x45 : Value) (w : World) : Prop :=
 (∃ w641, (Instr.next x45 false ty_).run P w = .ok (.tuple #[.bool false]) w641 ∧
 ∃ (v642q : OA), ∃ (v642n : Nat), ∃ (v642c : Nat), w641.cell? ⟨x4, 15, none⟩ = some (.slice v642q v642n v642c) ∧
 callE P i_slices_SortFunc_impl_Def_impl_Def #[.slice v642q v642n v642c, .func (.func i_impl_block_1) #[] #[]] (fun e w644 => e = .returned (.tuple #[]) ∧
 ldB16 w644 x4 fun m645 =>
 st16 w644 x2 m645 fun w676 =>
 ldB16 w676 x2 fun m677 =>
 R (.returned (m677.V)) w676) w641) ∨
 (∃ (r693_0 : Value), ∃ (r693_1 : Value), ∃ w694, (Instr.next x45 false ty_).run P w = .ok (.tuple #[.bool true, r693_0, r693_1]) w694 ∧
 False)
def l1 (R : EP) (x2 x4 : Nat) (x45 : Value) (w : World) : Prop :=
 ∀ X : Nat → Nat → Value → WP, (∀ x2 x4 x45 w, bl1 R X x2 x4 x45 w → X x2 x4 x45 w) → X x2 x4 x45 w

noncomputable def al1 (R : EP) (Xa : Nat → Nat → Value → WP) : AC :=
 (.seq (.leaf (sel [1,1,1,0,1,0,1,0,1,1,0,1,0,0,0] body)) (.seq (.leaf (sel [1,1,1,0,1,0,1,0,1,1,0,1,0,0,1,0] body)) (.block 2 (.seq (.leaf (sel [1,1,1,0,1,0,1,0,1,1,0,1,0,0,1,1,0,0] body)) (.draw (.pure 0 (.pure 2 (.pure 3 (.pure 4 (.pure 5 (.pure 7 (.pure 8 (.pure 9 (.pure 11 (.pure 12 (.pure 13 (.load 1 (.load 6 (.load 10 (.load 14 (.one 15 (.pure 16 (.one 17 (.one 18 (.pure 19 (.one 20 .done))))))))))))))))))))) (sel [1,1,1,0,1,0,1,0,1,1,0,1,0,0,1,1,0,1] body))))))
def k1 (R : EP) (x2 x4 : Nat) (x9 : OA) (x117 : Bool) (w : World) : Prop :=
 br x117
 (nilP x9 fun a695 =>
 ∃ (v696 : Int), w.cell? (a695.add 3) = some (.int .i64 v696) ∧
 stV w ⟨x4, 3, none⟩ (.int .i64 v696) fun w697 =>
 ldB16 w697 x4 fun m698 =>
 st16 w697 x2 m698 fun w729 =>
 ldB16 w729 x2 fun m730 =>
 R (.returned (m730.V)) w729)
 (ldB16 w x4 fun m746 =>
 st16 w x2 m746 fun w777 =>
 ldB16 w777 x2 fun m778 =>
 R (.returned (m778.V)) w777)

def bl3 (R : EP) (Xb : Nat → Nat → OA → Nat → Nat → Int → Int → WP) (x2 x4 : Nat) (x252q : OA) (x252n x252c : Nat) (x253 x254 : Int) (w : World) : Prop :=
 br (decide (x254 < x253))
 (0 ≤ x254 ∧ x254 < (x252n : Int) ∧
 nilP x252q fun a809 =>
 ∃ (v810q : OA), ∃ (v810n : Nat), ∃ (v810c : Nat), w.cell? (a809.add (Int.toNat x254 * 1)) = some (.slice v810q v810n v810c) ∧
 tk w fun w811 =>
 ∃ (v812q : OA), ∃ (v812n : Nat), ∃ (v812c : Nat), w811.cell? ⟨x4, 7, none⟩ = some (.slice v812q v812n v812c) ∧
 callE P i_impl_row #[.slice v810q v810n v810c] (fun e w814 => rt16 e fun r813 =>
 SameC w811 w814 ⟨x4, 7, none⟩ 1 ∧
 ∃ (r815q : OA), ∃ (r815n : Nat), ∃ (r815c : Nat), ∃ w816, (Instr.buildSlice ty_S_impl_Node 1 #[(0, r813.V)]).run P w814 = .ok (.slice r815q r815n r815c) w816 ∧
 SameC w814 w816 ⟨x4, 7, none⟩ 1 ∧
 ∃ (r817q : OA), ∃ (r817n : Nat), ∃ (r817c : Nat), ∃ w818, (Builtin.append_ #[ty_S_impl_Node, ty_S_impl_Node] ty_S_impl_Node #[.slice v812q v812n v812c, .slice r815q r815n r815c]).run P w816 = .ok (.slice r817q r817n r817c) w818 ∧
 stV w818 ⟨x4, 7, none⟩ (.slice r817q r817n r817c) fun w819 =>
 Xb x2 x4 x252q x252n x252c x253 (IntKind.i64.wrap (x254 + 1)) w819) w811)
 (ldB16 w x4 fun m820 =>
 st16 w x2 m820 fun w851 =>
 ldB16 w851 x2 fun m852 =>
 R (.returned (m852.V)) w851)
def l3 (R : EP) (x2 x4 : Nat) (x252q : OA) (x252n x252c : Nat) (x253 x254 : Int) (w : World) : Prop :=
 ∀ X : Nat → Nat → OA → Nat → Nat → Int → Int → WP, (∀ x2 x4 x252q x252n x252c x253 x254 w, bl3 R X x2 x4 x252q x252n x252c x253 x254 w → X x2 x4 x252q x252n x252c x253 x254 w) → X x2 x4 x252q x252n x252c x253 x254 w

noncomputable def al3 (R : EP) (Xb : Nat → Nat → OA → Nat → Nat → Int → Int → WP) : AC :=
 (.seq (.leaf (sel [1,1,1,0,1,0,1,1,1,1,1,1,1,1,1,1,1,1,1,1,1,1,1,1,1,1,1,0,1,1,1,1,0,0,0] body)) (.seq (.leaf (sel [1,1,1,0,1,0,1,1,1,1,1,1,1,1,1,1,1,1,1,1,1,1,1,1,1,1,1,0,1,1,1,1,0,0,1,0] body)) (.seq (.block 6 (.seq (.leaf (sel [1,1,1,0,1,0,1,1,1,1,1,1,1,1,1,1,1,1,1,1,1,1,1,1,1,1,1,0,1,1,1,1,0,0,1,1,0,0,0] body)) (.draw (.pure 0 (.pure 2 (.load 1 (.one 3 (.one 4 (.one 5 (.pure 6 (.one 7 .done)))))))) (sel [1,1,1,0,1,0,1,1,1,1,1,1,1,1,1,1,1,1,1,1,1,1,1,1,1,1,1,0,1,1,1,1,0,0,1,1,0,0,1] body)))) (.leaf (sel [1,1,1,0,1,0,1,1,1,1,1,1,1,1,1,1,1,1,1,1,1,1,1,1,1,1,1,0,1,1,1,1,0,0,1,1,1] body)))))
def bl2 (R : EP) (Xc : Nat → Nat → OA → OA → Nat → Nat → Int → Int → WP) (x2 x4 : Nat) (x17 x234q : OA) (x234n x234c : Nat) (x235 x236 : Int) (w : World) : Prop :=
 br (decide (x236 < x235))
 (0 ≤ x236 ∧ x236 < (x234n : Int) ∧
 nilP x234q fun a794 =>
 ∃ (v795 : BA), w.cell? (a794.add (Int.toNat x236 * 1)) = some (.string v795) ∧
 tk w fun w796 =>
 ∃ (v797q : OA), ∃ (v797n : Nat), ∃ (v797c : Nat), w796.cell? ⟨x4, 6, none⟩ = some (.slice v797q v797n v797c) ∧
 ∃ (r798q : OA), ∃ (r798n : Nat), ∃ (r798c : Nat), ∃ w799, (Instr.buildSlice ty_S_string 4 #[(0, .string (ByteArray.mk #[])), (1, .string (ByteArray.mk #[108, 101, 102, 116])), (2, .string (ByteArray.mk #[99, 101, 110, 116, 101, 114])), (3, .string (ByteArray.mk #[114, 105, 103, 104, 116]))]).run P w796 = .ok (.slice r798q r798n r798c) w799 ∧
 SameC w796 w799 ⟨x4, 6, none⟩ 1 ∧
 callE P i_slices_Index_string_string #[.slice r798q r798n r798c, .string v795] (fun e w801 => ∃ (r800 : Int), e = .returned (.int .i64 r800) ∧
 SameC w799 w801 ⟨x4, 6, none⟩ 1 ∧
 ∃ (r802q : OA), ∃ (r802n : Nat), ∃ (r802c : Nat), ∃ w803, (Instr.buildSlice ty_S_int 1 #[(0, .int .i64 r800)]).run P w801 = .ok (.slice r802q r802n r802c) w803 ∧
 SameC w801 w803 ⟨x4, 6, none⟩ 1 ∧
 ∃ (r804q : OA), ∃ (r804n : Nat), ∃ (r804c : Nat), ∃ w805, (Builtin.append_ #[ty_S_int, ty_S_int] ty_S_int #[.slice v797q v797n v797c, .slice r802q r802n r802c]).run P w803 = .ok (.slice r804q r804n r804c) w805 ∧
 stV w805 ⟨x4, 6, none⟩ (.slice r804q r804n r804c) fun w806 =>
 Xc x2 x4 x17 x234q x234n x234c x235 (IntKind.i64.wrap (x236 + 1)) w806) w799)
 (nilP x17 fun a807 =>
 ∃ (v808q : OA), ∃ (v808n : Nat), ∃ (v808c : Nat), w.cell? (a807.add 4) = some (.slice v808q v808n v808c) ∧
 l3 R x2 x4 v808q v808n v808c (v808n : Int) 0 w)
def l2 (R : EP) (x2 x4 : Nat) (x17 x234q : OA) (x234n x234c : Nat) (x235 x236 : Int) (w : World) : Prop :=
 ∀ X : Nat → Nat → OA → OA → Nat → Nat → Int → Int → WP, (∀ x2 x4 x17 x234q x234n x234c x235 x236 w, bl2 R X x2 x4 x17 x234q x234n x234c x235 x236 w → X x2 x4 x17 x234q x234n x234c x235 x236 w) → X x2 x4 x17 x234q x234n x234c x235 x236 w

noncomputable def al2 (R : EP) (Xc : Nat → Nat → OA → OA → Nat → Nat → Int → Int → WP) : AC :=
 (.seq (.leaf (sel [1,1,1,0,1,0,1,1,1,1,1,1,1,1,1,1,1,1,1,1,1,1,1,1,1,1,1,0,1,1,0,1,0,0,0] body)) (.seq (.leaf (sel [1,1,1,0,1,0,1,1,1,1,1,1,1,1,1,1,1,1,1,1,1,1,1,1,1,1,1,0,1,1,0,1,0,0,1,0] body)) (.seq (.block 4 (.seq (.leaf (sel [1,1,1,0,1,0,1,1,1,1,1,1,1,1,1,1,1,1,1,1,1,1,1,1,1,1,1,0,1,1,0,1,0,0,1,1,0,0,0] body)) (.draw (.pure 0 (.pure 3 (.load 1 (.one 2 (.one 4 (.one 5 (.one 6 (.pure 7 (.one 8 .done))))))))) (sel [1,1,1,0,1,0,1,1,1,1,1,1,1,1,1,1,1,1,1,1,1,1,1,1,1,1,1,0,1,1,0,1,0,0,1,1,0,0,1] body)))) (.leaf (sel [1,1,1,0,1,0,1,1,1,1,1,1,1,1,1,1,1,1,1,1,1,1,1,1,1,1,1,0,1,1,0,1,0,0,1,1,1] body)))))
end g_impl_block
def g_impl_block (R : EP) (x0 : Value) (w : World) : Prop :=
 box w (N16.C {}) ty_impl_Node fun b1 w2 =>
 enterE P (callMethod x0 "Pos" #[]) (fun e w4 => ∃ (r3_0 : Int), ∃ (r3_1 : Int), e = .returned (.agg #[.int .i64 r3_0, .int .i64 r3_1]) ∧
 box w4 #[.int .i64 0, .int .i64 0] ty_Position fun b5 w6 =>
 stV w6 ⟨b5, 0, none⟩ (.int .i64 r3_0) fun w7 =>
 stV w7 ⟨b5, 1, none⟩ (.int .i64 r3_1) fun w8 =>
 ∃ (v9 : Int), w8.cell? ⟨b5, 0, none⟩ = some (.int .i64 v9) ∧
 ∃ (v10 : Int), w8.cell? ⟨b5, 1, none⟩ = some (.int .i64 v10) ∧
 box w8 (N16.C {}) ty_impl_Node fun b11 w12 =>
 st16 w12 b11 {a8 := v9, a9 := v10} fun w28 =>
 ∃ (r29_0 : OA), ∃ (r29_1 : Bool), ∃ w30, (Instr.typeAssert x0 ty_Block ty_P_Document true).run P w28 = .ok (.tuple #[.pointer r29_0, .bool r29_1]) w30 ∧
 br r29_1
 (nilP r29_0 fun a31 =>
 ∃ (v32q : OA), ∃ (v32n : Nat), ∃ (v32c : Nat), w30.cell? (a31.add 2) = some (.slice v32q v32n v32c) ∧
 callE P i_impl_blocks #[.slice v32q v32n v32c] (fun e w34 => ∃ (r33q : OA), ∃ (r33n : Nat), ∃ (r33c : Nat), e = .returned (.slice r33q r33n r33c) ∧
 stV w34 ⟨b11, 0, none⟩ (.int .i64 1) fun w35 =>
 stV w35 ⟨b11, 7, none⟩ (.slice r33q r33n r33c) fun w36 =>
 nilP r29_0 fun a37 =>
 ∃ (v38 : Option Nat), w36.cell? (a37.add 3) = some (.map v38) ∧
 ∃ (r39 : Value), ∃ w40, (Instr.range ty_map_string_P_Link (.map v38)).run P w36 = .ok r39 w40 ∧
 g_impl_block.l1 R b1 b11 r39 w40) w30)
 (∃ (r41_0 : OA), ∃ (r41_1 : Bool), ∃ w42, (Instr.typeAssert x0 ty_Block ty_P_Quote true).run P w30 = .ok (.tuple #[.pointer r41_0, .bool r41_1]) w42 ∧
 br r41_1
 (nilP r41_0 fun a43 =>
 ∃ (v44q : OA), ∃ (v44n : Nat), ∃ (v44c : Nat), w42.cell? (a43.add 2) = some (.slice v44q v44n v44c) ∧
 callE P i_impl_blocks #[.slice v44q v44n v44c] (fun e w46 => ∃ (r45q : OA), ∃ (r45n : Nat), ∃ (r45c : Nat), e = .returned (.slice r45q r45n r45c) ∧
 stV w46 ⟨b11, 0, none⟩ (.int .i64 2) fun w47 =>
 stV w47 ⟨b11, 7, none⟩ (.slice r45q r45n r45c) fun w48 =>
 ldB16 w48 b11 fun m49 =>
 st16 w48 b1 m49 fun w80 =>
 ldB16 w80 b1 fun m81 =>
 R (.returned (m81.V)) w80) w42)
 (∃ (r97_0 : OA), ∃ (r97_1 : Bool), ∃ w98, (Instr.typeAssert x0 ty_Block ty_P_List true).run P w42 = .ok (.tuple #[.pointer r97_0, .bool r97_1]) w98 ∧
 br r97_1
 (tk w98 fun w99 =>
 nilP r97_0 fun a100 =>
 nilP r97_0 fun a101 =>
 nilP r97_0 fun a102 =>
 ∃ (v103 : Int), w99.cell? (a100.add 2) = some (.int .i32 v103) ∧
 ∃ (v104 : Bool), w99.cell? (a101.add 4) = some (.bool v104) ∧
 ∃ (v105q : OA), ∃ (v105n : Nat), ∃ (v105c : Nat), w99.cell? (a102.add 5) = some (.slice v105q v105n v105c) ∧
 callE P i_impl_blocks #[.slice v105q v105n v105c] (fun e w107 => ∃ (r106q : OA), ∃ (r106n : Nat), ∃ (r106c : Nat), e = .returned (.slice r106q r106n r106c) ∧
 SameC w99 w107 (a101.add 4) 1 ∧
 SameC w99 w107 (a100.add 2) 1 ∧
 stV w107 ⟨b11, 0, none⟩ (.int .i64 3) fun w108 =>
 SameC w107 w108 (a101.add 4) 1 ∧
 SameC w107 w108 (a100.add 2) 1 ∧
 stV w108 ⟨b11, 3, none⟩ (.int .i64 (-1)) fun w109 =>
 SameC w108 w109 (a101.add 4) 1 ∧
 SameC w108 w109 (a100.add 2) 1 ∧
 stV w109 ⟨b11, 4, none⟩ (.string (Utf8.encode v103)) fun w110 =>
 SameC w109 w110 (a101.add 4) 1 ∧
 stV w110 ⟨b11, 5, none⟩ (.bool v104) fun w111 =>
 stV w111 ⟨b11, 7, none⟩ (.slice r106q r106n r106c) fun w112 =>
 nilP r97_0 fun a113 =>
 ∃ (v114 : Int), w112.cell? (a113.add 2) = some (.int .i32 v114) ∧
 br (v114 == 46)
 (g_impl_block.k1 R b1 b11 r97_0 true w112)
 (nilP r97_0 fun a115 =>
 ∃ (v116 : Int), w112.cell? (a115.add 2) = some (.int .i32 v116) ∧
 g_impl_block.k1 R b1 b11 r97_0 (v116 == 41) w112)) w99)
 (∃ (r117_0 : OA), ∃ (r117_1 : Bool), ∃ w118, (Instr.typeAssert x0 ty_Block ty_P_Item true).run P w98 = .ok (.tuple #[.pointer r117_0, .bool r117_1]) w118 ∧
 br r117_1
 (tk w118 fun w119 =>
 nilP r117_0 fun a120 =>
 ∃ (v121q : OA), ∃ (v121n : Nat), ∃ (v121c : Nat), w119.cell? (a120.add 2) = some (.slice v121q v121n v121c) ∧
 callE P i_ZZWidth #[.pointer r117_0] (fun e w123 => ∃ (r122 : Int), e = .returned (.int .i64 r122) ∧
 SameC w119 w123 (a120.add 2) 1 ∧
 callE P i_impl_blocks #[.slice v121q v121n v121c] (fun e w125 => ∃ (r124q : OA), ∃ (r124n : Nat), ∃ (r124c : Nat), e = .returned (.slice r124q r124n r124c) ∧
 stV w125 ⟨b11, 0, none⟩ (.int .i64 4) fun w126 =>
 stV w126 ⟨b11, 11, none⟩ (.int .i64 r122) fun w127 =>
 stV w127 ⟨b11, 7, none⟩ (.slice r124q r124n r124c) fun w128 =>
 ldB16 w128 b11 fun m129 =>
 st16 w128 b1 m129 fun w160 =>
 ldB16 w160 b1 fun m161 =>
 R (.returned (m161.V)) w160) w123) w119)
 (∃ (r177_0 : OA), ∃ (r177_1 : Bool), ∃ w178, (Instr.typeAssert x0 ty_Block ty_P_Heading true).run P w118 = .ok (.tuple #[.pointer r177_0, .bool r177_1]) w178 ∧
 br r177_1
 (tk w178 fun w179 =>
 nilP r177_0 fun a180 =>
 nilP r177_0 fun a181 =>
 nilP r177_0 fun a182 =>
 ∃ (v183 : Int), w179.cell? (a180.add 2) = some (.int .i64 v183) ∧
 ∃ (v184 : BA), w179.cell? (a181.add 4) = some (.string v184) ∧
 ∃ (v185 : OA), w179.cell? (a182.add 3) = some (.pointer v185) ∧
 nilP v185 fun a186 =>
 ∃ (v187q : OA), ∃ (v187n : Nat), ∃ (v187c : Nat), w179.cell? (a186.add 2) = some (.slice v187q v187n v187c) ∧
 callE P i_impl_inlines #[.slice v187q v187n v187c] (fun e w189 => ∃ (r188q : OA), ∃ (r188n : Nat), ∃ (r188c : Nat), e = .returned (.slice r188q r188n r188c) ∧
 SameC w179 w189 (a181.add 4) 1 ∧
 SameC w179 w189 (a180.add 2) 1 ∧
 stV w189 ⟨b11, 0, none⟩ (.int .i64 5) fun w190 =>
 SameC w189 w190 (a181.add 4) 1 ∧
 SameC w189 w190 (a180.add 2) 1 ∧
 stV w190 ⟨b11, 3, none⟩ (.int .i64 v183) fun w191 =>
 SameC w190 w191 (a181.add 4) 1 ∧
 stV w191 ⟨b11, 2, none⟩ (.string v184) fun w192 =>
 stV w192 ⟨b11, 7, none⟩ (.slice r188q r188n r188c) fun w193 =>
 ldB16 w193 b11 fun m194 =>
 st16 w193 b1 m194 fun w225 =>
 ldB16 w225 b1 fun m226 =>
 R (.returned (m226.V)) w225) w179)
 (∃ (r242_0 : OA), ∃ (r242_1 : Bool), ∃ w243, (Instr.typeAssert x0 ty_Block ty_P_Paragraph true).run P w178 = .ok (.tuple #[.pointer r242_0, .bool r242_1]) w243 ∧
 br r242_1
 (nilP r242_0 fun a244 =>
 ∃ (v245 : OA), w243.cell? (a244.add 2) = some (.pointer v245) ∧
 nilP v245 fun a246 =>
 ∃ (v247q : OA), ∃ (v247n : Nat), ∃ (v247c : Nat), w243.cell? (a246.add 2) = some (.slice v247q v247n v247c) ∧
 callE P i_impl_inlines #[.slice v247q v247n v247c] (fun e w249 => ∃ (r248q : OA), ∃ (r248n : Nat), ∃ (r248c : Nat), e = .returned (.slice r248q r248n r248c) ∧
 stV w249 ⟨b11, 0, none⟩ (.int .i64 6) fun w250 =>
 stV w250 ⟨b11, 7, none⟩ (.slice r248q r248n r248c) fun w251 =>
 ldB16 w251 b11 fun m252 =>
 st16 w251 b1 m252 fun w283 =>
 ldB16 w283 b1 fun m284 =>
 R (.returned (m284.V)) w283) w243)
 (∃ (r300_0 : OA), ∃ (r300_1 : Bool), ∃ w301, (Instr.typeAssert x0 ty_Block ty_P_Text true).run P w243 = .ok (.tuple #[.pointer r300_0, .bool r300_1]) w301 ∧
 br r300_1
 (nilP r300_0 fun a302 =>
 ∃ (v303q : OA), ∃ (v303n : Nat), ∃ (v303c : Nat), w301.cell? (a302.add 2) = some (.slice v303q v303n v303c) ∧
 callE P i_impl_inlines #[.slice v303q v303n v303c] (fun e w305 => ∃ (r304q : OA), ∃ (r304n : Nat), ∃ (r304c : Nat), e = .returned (.slice r304q r304n r304c) ∧
 stV w305 ⟨b11, 0, none⟩ (.int .i64 6) fun w306 =>
 stV w306 ⟨b11, 12, none⟩ (.bool true) fun w307 =>
 stV w307 ⟨b11, 7, none⟩ (.slice r304q r304n r304c) fun w308 =>
 ldB16 w308 b11 fun m309 =>
 st16 w308 b1 m309 fun w340 =>
 ldB16 w340 b1 fun m341 =>
 R (.returned (m341.V)) w340) w301)
 (∃ (r357_0 : OA), ∃ (r357_1 : Bool), ∃ w358, (Instr.typeAssert x0 ty_Block ty_P_CodeBlock true).run P w301 = .ok (.tuple #[.pointer r357_0, .bool r357_1]) w358 ∧
 br r357_1
 (tk w358 fun w359 =>
 nilP r357_0 fun a360 =>
 nilP r357_0 fun a361 =>
 nilP r357_0 fun a362 =>
 ∃ (v363 : BA), w359.cell? (a360.add 3) = some (.string v363) ∧
 ∃ (v364 : BA), w359.cell? (a361.add 2) = some (.string v364) ∧
 ∃ (v365q : OA), ∃ (v365n : Nat), ∃ (v365c : Nat), w359.cell? (a362.add 4) = some (.slice v365q v365n v365c) ∧
 callE P i_impl_lines #[.slice v365q v365n v365c] (fun e w367 => ∃ (r366 : BA), e = .returned (.string r366) ∧
 SameC w359 w367 (a361.add 2) 1 ∧
 SameC w359 w367 (a360.add 3) 1 ∧
 stV w367 ⟨b11, 0, none⟩ (.int .i64 7) fun w368 =>
 SameC w367 w368 (a361.add 2) 1 ∧
 SameC w367 w368 (a360.add 3) 1 ∧
 stV w368 ⟨b11, 2, none⟩ (.string v363) fun w369 =>
 SameC w368 w369 (a361.add 2) 1 ∧
 stV w369 ⟨b11, 10, none⟩ (.string v364) fun w370 =>
 stV w370 ⟨b11, 1, none⟩ (.string r366) fun w371 =>
 ldB16 w371 b11 fun m372 =>
 st16 w371 b1 m372 fun w403 =>
 ldB16 w403 b1 fun m404 =>
 R (.returned (m404.V)) w403) w359)
 (∃ (r420_0 : OA), ∃ (r420_1 : Bool), ∃ w421, (Instr.typeAssert x0 ty_Block ty_P_HTMLBlock true).run P w358 = .ok (.tuple #[.pointer r420_0, .bool r420_1]) w421 ∧
 br r420_1
 (nilP r420_0 fun a422 =>
 ∃ (v423q : OA), ∃ (v423n : Nat), ∃ (v423c : Nat), w421.cell? (a422.add 2) = some (.slice v423q v423n v423c) ∧
 callE P i_impl_lines #[.slice v423q v423n v423c] (fun e w425 => ∃ (r424 : BA), e = .returned (.string r424) ∧
 stV w425 ⟨b11, 0, none⟩ (.int .i64 8) fun w426 =>
 stV w426 ⟨b11, 1, none⟩ (.string r424) fun w427 =>
 ldB16 w427 b11 fun m428 =>
 st16 w427 b1 m428 fun w459 =>
 ldB16 w459 b1 fun m460 =>
 R (.returned (m460.V)) w459) w421)
 (∃ (r476_0 : OA), ∃ (r476_1 : Bool), ∃ w477, (Instr.typeAssert x0 ty_Block ty_P_ThematicBreak true).run P w421 = .ok (.tuple #[.pointer r476_0, .bool r476_1]) w477 ∧
 br r476_1
 (callE P i_ZZRaw #[.pointer r476_0] (fun e w479 => ∃ (r478 : BA), e = .returned (.string r478) ∧
 stV w479 ⟨b11, 0, none⟩ (.int .i64 9) fun w480 =>
 stV w480 ⟨b11, 10, none⟩ (.string r478) fun w481 =>
 ldB16 w481 b11 fun m482 =>
 st16 w481 b1 m482 fun w513 =>
 ldB16 w513 b1 fun m514 =>
 R (.returned (m514.V)) w513) w477)
 (∃ (r530_0 : OA), ∃ (r530_1 : Bool), ∃ w531, (Instr.typeAssert x0 ty_Block ty_P_Table true).run P w477 = .ok (.tuple #[.pointer r530_0, .bool r530_1]) w531 ∧
 br r530_1
 (nilP r530_0 fun a532 =>
 ∃ (v533q : OA), ∃ (v533n : Nat), ∃ (v533c : Nat), w531.cell? (a532.add 2) = some (.slice v533q v533n v533c) ∧
 callE P i_impl_row #[.slice v533q v533n v533c] (fun e w535 => rt16 e fun r534 =>
 ∃ (r536q : OA), ∃ (r536n : Nat), ∃ (r536c : Nat), ∃ w537, (Instr.buildSlice ty_S_impl_Node 1 #[(0, r534.V)]).run P w535 = .ok (.slice r536q r536n r536c) w537 ∧
 stV w537 ⟨b11, 0, none⟩ (.int .i64 10) fun w538 =>
 stV w538 ⟨b11, 7, none⟩ (.slice r536q r536n r536c) fun w539 =>
 nilP r530_0 fun a540 =>
 ∃ (v541q : OA), ∃ (v541n : Nat), ∃ (v541c : Nat), w539.cell? (a540.add 3) = some (.slice v541q v541n v541c) ∧
 g_impl_block.l2 R b1 b11 r530_0 v541q v541n v541c (v541n : Int) 0 w539) w531)
 (∃ (r542_0 : OA), ∃ (r542_1 : Bool), ∃ w543, (Instr.typeAssert x0 ty_Block ty_P_Empty true).run P w531 = .ok (.tuple #[.pointer r542_0, .bool r542_1]) w543 ∧
 br r542_1
 (stV w543 ⟨b11, 0, none⟩ (.int .i64 13) fun w544 =>
 ldB16 w544 b11 fun m545 =>
 st16 w544 b1 m545 fun w576 =>
 ldB16 w576 b1 fun m577 =>
 R (.returned (m577.V)) w576)
 (ldB16 w543 b11 fun m593 =>
 st16 w543 b1 m593 fun w624 =>
 ldB16 w624 b1 fun m625 =>
 R (.returned (m625.V)) w624))))))))))))) w2

namespace g_impl_block
noncomputable def ac (R : EP) : AC :=
 (.seq (.leaf (sel [0] body)) (.seq (.leaf (sel [1,0] body)) (.seq (.leaf (sel [1,1,0] body)) (.seq (.seq (.leaf (sel [1,1,1,0,0] body)) (.block 0 (.seq (.leaf (sel [1,1,1,0,1,0,0] body)) (.cond 32 (.seq (.leaf (sel [1,1,1,0,1,0,1,0,0] body)) (.seq (.leaf (sel [1,1,1,0,1,0,1,0,1,0] body)) (.seq (.seq (.leaf (sel [1,1,1,0,1,0,1,0,1,1,0,0] body)) (.block 1 (.loop (leaf [(2, .s .loc), (4, .s .loc), (45, .s .any)] (l1 R)) (sel [1,1,1,0,1,0,1,0,1,1,0,1,0,0] body)))) (.leaf (sel [1,1,1,0,1,0,1,0,1,1,1] body))))) (.seq (.leaf (sel [1,1,1,0,1,0,1,1,0] body)) (.cond 75 (.leaf (sel [1,1,1,0,1,0,1,1,1,0] body)) (.seq (.leaf (sel [1,1,1,0,1,0,1,1,1,1,0] body)) (.cond 85 (.seq (.leaf (sel [1,1,1,0,1,0,1,1,1,1,1,0,0] body)) (.seq (.draw (.pure 0 (.pure 1 (.pure 2 (.pure 5 (.pure 6 (.pure 7 (.pure 9 (.pure 10 (.pure 11 (.pure 14 (.load 3 (.pure 4 (.load 8 (.load 12 (.one 13 (.one 15 (.pure 16 (.one 17 (.pure 18 (.one 19 (.pure 20 (.one 21 (.pure 22 (.one 23 .done)))))))))))))))))))))))) (sel [1,1,1,0,1,0,1,1,1,1,1,0,1,0] body)) (.seq (.leaf (sel [1,1,1,0,1,0,1,1,1,1,1,0,1,1,0] body)) (.mark (leaf [(2, .s .loc), (4, .s .loc), (9, .s .ptr), (117, .s .bool)] (k1 R)) (.leaf (sel [1,1,1,0,1,0,1,1,1,1,1,0,1,1,1] body)))))) (.seq (.leaf (sel [1,1,1,0,1,0,1,1,1,1,1,1,0] body)) (.cond 124 (.seq (.leaf (sel [1,1,1,0,1,0,1,1,1,1,1,1,1,0,0] body)) (.draw (.pure 0 (.pure 2 (.pure 3 (.pure 4 (.pure 7 (.load 5 (.one 1 (.one 6 (.one 8 (.pure 9 (.one 10 (.pure 11 (.one 12 .done))))))))))))) (sel [1,1,1,0,1,0,1,1,1,1,1,1,1,0,1] body))) (.seq (.leaf (sel [1,1,1,0,1,0,1,1,1,1,1,1,1,1,0] body)) (.cond 137 (.seq (.leaf (sel [1,1,1,0,1,0,1,1,1,1,1,1,1,1,1,0,0] body)) (.draw (.pure 0 (.pure 1 (.pure 2 (.pure 4 (.pure 5 (.pure 6 (.pure 8 (.pure 9 (.pure 10 (.pure 16 (.load 3 (.load 7 (.load 11 (.pure 12 (.pure 13 (.load 14 (.one 15 (.one 17 (.pure 18 (.one 19 (.pure 20 (.one 21 (.pure 22 (.one 23 .done)))))))))))))))))))))))) (sel [1,1,1,0,1,0,1,1,1,1,1,1,1,1,1,0,1] body))) (.seq (.leaf (sel [1,1,1,0,1,0,1,1,1,1,1,1,1,1,1,1,0] body)) (.cond 160 (.leaf (sel [1,1,1,0,1,0,1,1,1,1,1,1,1,1,1,1,1,0] body)) (.seq (.leaf (sel [1,1,1,0,1,0,1,1,1,1,1,1,1,1,1,1,1,1,0] body)) (.cond 173 (.leaf (sel [1,1,1,0,1,0,1,1,1,1,1,1,1,1,1,1,1,1,1,0] body)) (.seq (.leaf (sel [1,1,1,0,1,0,1,1,1,1,1,1,1,1,1,1,1,1,1,1,0] body)) (.cond 184 (.seq (.leaf (sel [1,1,1,0,1,0,1,1,1,1,1,1,1,1,1,1,1,1,1,1,1,0,0] body)) (.draw (.pure 0 (.pure 1 (.pure 2 (.pure 4 (.pure 5 (.pure 6 (.pure 8 (.pure 9 (.pure 10 (.pure 13 (.load 3 (.load 7 (.load 11 (.one 12 (.one 14 (.pure 15 (.one 16 (.pure 17 (.one 18 (.pure 19 (.one 20 .done))))))))))))))))))))) (sel [1,1,1,0,1,0,1,1,1,1,1,1,1,1,1,1,1,1,1,1,1,0,1] body))) (.seq (.leaf (sel [1,1,1,0,1,0,1,1,1,1,1,1,1,1,1,1,1,1,1,1,1,1,0] body)) (.cond 204 (.leaf (sel [1,1,1,0,1,0,1,1,1,1,1,1,1,1,1,1,1,1,1,1,1,1,1,0] body)) (.seq (.leaf (sel [1,1,1,0,1,0,1,1,1,1,1,1,1,1,1,1,1,1,1,1,1,1,1,1,0] body)) (.cond 214 (.leaf (sel [1,1,1,0,1,0,1,1,1,1,1,1,1,1,1,1,1,1,1,1,1,1,1,1,1,0] body)) (.seq (.leaf (sel [1,1,1,0,1,0,1,1,1,1,1,1,1,1,1,1,1,1,1,1,1,1,1,1,1,1,0] body)) (.cond 221 (.seq (.leaf (sel [1,1,1,0,1,0,1,1,1,1,1,1,1,1,1,1,1,1,1,1,1,1,1,1,1,1,1,0,0] body)) (.seq (.leaf (sel [1,1,1,0,1,0,1,1,1,1,1,1,1,1,1,1,1,1,1,1,1,1,1,1,1,1,1,0,1,0] body)) (.seq (.seq (.leaf (sel [1,1,1,0,1,0,1,1,1,1,1,1,1,1,1,1,1,1,1,1,1,1,1,1,1,1,1,0,1,1,0,0] body)) (.block 3 (.loop (leaf [(2, .s .loc), (4, .s .loc), (17, .s .ptr), (234, .s .slice), (235, .s (.int .i64)), (236, .s (.int .i64))] (l2 R)) (sel [1,1,1,0,1,0,1,1,1,1,1,1,1,1,1,1,1,1,1,1,1,1,1,1,1,1,1,0,1,1,0,1,0,0] body)))) (.seq (.leaf (sel [1,1,1,0,1,0,1,1,1,1,1,1,1,1,1,1,1,1,1,1,1,1,1,1,1,1,1,0,1,1,1,0] body)) (.block 5 (.loop (leaf [(2, .s .loc), (4, .s .loc), (252, .s .slice), (253, .s (.int .i64)), (254, .s (.int .i64))] (l3 R)) (sel [1,1,1,0,1,0,1,1,1,1,1,1,1,1,1,1,1,1,1,1,1,1,1,1,1,1,1,0,1,1,1,1,0,0] body))))))) (.leaf (sel [1,1,1,0,1,0,1,1,1,1,1,1,1,1,1,1,1,1,1,1,1,1,1,1,1,1,1,1] body)))))))))))))))))))))))))) (.leaf (sel [1,1,1,1] body))))))
theorem good (R : EP) : Good P 271 (ac R) (QF P [.cell 2 48] R) :=
 ⟨trivial, ⟨trivial, ⟨trivial, ⟨⟨trivial, ⟨trivial, ⟨⟨trivial, ⟨trivial, ⟨⟨trivial, (loopG (al1 R) (bl1 R) (fun _ => by kernel_rfl) (fun Xa => ⟨trivial, ⟨trivial, ⟨trivial, ⟨by kernel_rfl, by kernel_rfl, fun _ _ _ h => h⟩⟩⟩⟩) (fun Xa => by intro x2 x4 x45 ρ w; kernel_rfl) (fun X h _ _ _ _ g => g X h))⟩, trivial⟩⟩⟩, ⟨trivial, ⟨trivial, ⟨trivial, ⟨⟨trivial, ⟨⟨by kernel_rfl, by kernel_rfl, fun _ _ _ h => h⟩, ⟨trivial, ⟨trivial, cutZ⟩⟩⟩⟩, ⟨trivial, ⟨⟨trivial, ⟨by kernel_rfl, by kernel_rfl, fun _ _ _ h => h⟩⟩, ⟨trivial, ⟨⟨trivial, ⟨by kernel_rfl, by kernel_rfl, fun _ _ _ h => h⟩⟩, ⟨trivial, ⟨trivial, ⟨trivial, ⟨trivial, ⟨trivial, ⟨⟨trivial, ⟨by kernel_rfl, by kernel_rfl, fun _ _ _ h => h⟩⟩, ⟨trivial, ⟨trivial, ⟨trivial, ⟨trivial, ⟨trivial, ⟨⟨trivial, ⟨trivial, ⟨⟨trivial, (loopG (al2 R) (bl2 R) (fun _ => by kernel_rfl) (fun Xc => ⟨trivial, ⟨trivial, ⟨⟨trivial, ⟨by kernel_rfl, by kernel_rfl, fun _ _ _ h => h⟩⟩, trivial⟩⟩⟩) (fun Xc => by intro x2 x4 x17 x234q x234n x234c x235 x236 ρ w; kernel_rfl) (fun X h _ _ _ _ _ _ _ _ _ g => g X h))⟩, ⟨trivial, (loopG (al3 R) (bl3 R) (fun _ => by kernel_rfl) (fun Xb => ⟨trivial, ⟨trivial, ⟨⟨trivial, ⟨by kernel_rfl, by kernel_rfl, fun _ _ _ h => h⟩⟩, trivial⟩⟩⟩) (fun Xb => by intro x2 x4 x252q x252n x252c x253 x254 ρ w; kernel_rfl) (fun X h _ _ _ _ _ _ _ _ g => g X h))⟩⟩⟩⟩, trivial⟩⟩⟩⟩⟩⟩⟩⟩⟩⟩⟩⟩⟩⟩⟩⟩⟩⟩⟩⟩⟩⟩⟩, trivial⟩⟩⟩⟩
theorem eq (R : EP) (x0 : Value) (w : World) : g_impl_block R x0 w = vcA P 271 (ac R) (QF P [.cell 2 48] R) (fr0 [x0]) w := by kernel_rfl
theorem sound {R : EP} {x0 : Value} {w : World} (h : g_impl_block R x0 w) : callE P i_impl_block #[x0] R w :=
 callE_fz (c := body) Tryz.func41 Tryz.call41 (good R) (eq R x0 w) h
end g_impl_block
namespace g_impl_lines
noncomputable def body : Code := bodyOf Tryz.f60
def bl1 (R : EP) (Xa : Nat → OA → Nat → Nat → Int → Int → WP) (x3 : Nat) (x6q : OA) (x6n x6c : Nat) (x7 x8 : Int) (w : World) : Prop :=
 br (decide (x8 < x7))
 (0 ≤ x8 ∧ x8 < (x6n : Int) ∧
 nilP x6q fun a3 =>
 ∃ (v4 : BA), w.cell? (a3.add (Int.toNat x8 * 1)) = some (.string v4) ∧
 callE P i_strings_Builder_WriteString #[.pointer (some ⟨x3, 0, none⟩), .string v4] (fun e w6 => ∃ (r5_0 : Int), ∃ (r5_1 : Value), e = .returned (.tuple #[.int .i64 r5_0, r5_1]) ∧
 callE P i_strings_Builder_WriteByte #[.pointer (some ⟨x3, 0, none⟩), .int .u8 10] (fun e w8 => ∃ (r7 : Value), e = .returned r7 ∧
 Xa x3 x6q x6n x6c x7 (IntKind.i64.wrap (x8 + 1)) w8) w6) w)
 (callE P i_strings_Builder_String #[.pointer (some ⟨x3, 0, none⟩)] (fun e w10 => ∃ (r9 : BA), e = .returned (.string r9) ∧
 R (.returned (.string r9)) w10) w)
def l1 (R : EP) (x3 : Nat) (x6q : OA) (x6n x6c : Nat) (x7 x8 : Int) (w : World) : Prop :=
 ∀ X : Nat → OA → Nat → Nat → Int → Int → WP, (∀ x3 x6q x6n x6c x7 x8 w, bl1 R X x3 x6q x6n x6c x7 x8 w → X x3 x6q x6n x6c x7 x8 w) → X x3 x6q x6n x6c x7 x8 w

noncomputable def al1 (R : EP) (Xa : Nat → OA → Nat → Nat → Int → Int → WP) : AC :=
 (.leaf (sel [1,1,0,1,0,0] body))
end g_impl_lines
def g_impl_lines (R : EP) (x0q : OA) (x0n x0c : Nat) (w : World) : Prop :=
 box w #[.pointer none, .slice none 0 0] ty_strings_Builder fun b1 w2 =>
 g_impl_lines.l1 R b1 x0q x0n x0c (x0n : Int) 0 w2

namespace g_impl_lines
noncomputable def ac (R : EP) : AC :=
 (.seq (.leaf (sel [0] body)) (.seq (.leaf (sel [1,0] body)) (.seq (.seq (.leaf (sel [1,1,0,0] body)) (.block 0 (.loop (leaf [(3, .s .loc), (6, .s .slice), (7, .s (.int .i64)), (8, .s (.int .i64))] (l1 R)) (sel [1,1,0,1,0,0] body)))) (.leaf (sel [1,1,1] body)))))
theorem good (R : EP) : Good P 17 (ac R) (QF P [.tmp 2] R) :=
 ⟨trivial, ⟨trivial, ⟨⟨trivial, (loopG (al1 R) (bl1 R) (fun _ => by kernel_rfl) (fun Xa => trivial) (fun Xa => by intro x3 x6q x6n x6c x7 x8 ρ w; kernel_rfl) (fun X h _ _ _ _ _ _ _ g => g X h))⟩, trivial⟩⟩⟩
theorem eq (R : EP) (x0q : OA) (x0n x0c : Nat) (w : World) : g_impl_lines R x0q x0n x0c w = vcA P 17 (ac R) (QF P [.tmp 2] R) (fr0 [.slice x0q x0n x0c]) w := by kernel_rfl
theorem sound {R : EP} {x0q : OA} {x0n x0c : Nat} {w : World} (h : g_impl_lines R x0q x0n x0c w) : callE P i_impl_lines #[.slice x0q x0n x0c] R w :=
 callE_fz (c := body) Tryz.func60 Tryz.call60 (good R) (eq R x0q x0n x0c w) h
end g_impl_lines
namespace g_math_bits_Len
noncomputable def body : Code := bodyOf Tryz.f79
end g_math_bits_Len
def g_math_bits_Len (R : EP) (x0 : Int) (w : World) : Prop :=
 callE P i_math_bits_Len64 #[.int .u64 x0] (fun e w2 => ∃ (r1 : Int), e = .returned (.int .i64 r1) ∧
 R (.returned (.int .i64 r1)) w2) w

namespace g_math_bits_Len
noncomputable def ac (R : EP) : AC :=
 (.leaf (sel [] body))
theorem good (R : EP) : Good P 8 (ac R) (QF P [.tmp 2] R) :=
 trivial
theorem eq (R : EP) (x0 : Int) (w : World) : g_math_bits_Len R x0 w = vcA P 8 (ac R) (QF P [.tmp 2] R) (fr0 [.int .u64 x0]) w := by kernel_rfl
theorem sound {R : EP} {x0 : Int} {w : World} (h : g_math_bits_Len R x0 w) : callE P i_math_bits_Len #[.int .u64 x0] R w :=
 callE_fz (c := body) Tryz.func79 Tryz.call79 (good R) (eq R x0 w) h
end g_math_bits_Len
namespace g_math_bits_Len64
noncomputable def body : Code := bodyOf Tryz.f119
def k3 (R : EP) (x0 x2 : Int) (w : World) : Prop :=
 0 ≤ (IntKind.u8.wrap x0) ∧ (IntKind.u8.wrap x0) < ((ByteArray.mk #[0, 1, 2, 2, 3, 3, 3, 3, 4, 4, 4, 4, 4, 4, 4, 4, 5, 5, 5, 5, 5, 5, 5, 5, 5, 5, 5, 5, 5, 5, 5, 5, 6, 6, 6, 6, 6, 6, 6, 6, 6, 6, 6, 6, 6, 6, 6, 6, 6, 6, 6, 6, 6, 6, 6, 6, 6, 6, 6, 6, 6, 6, 6, 6, 7, 7, 7, 7, 7, 7, 7, 7, 7, 7, 7, 7, 7, 7, 7, 7, 7, 7, 7, 7, 7, 7, 7, 7, 7, 7, 7, 7, 7, 7, 7, 7, 7, 7, 7, 7, 7, 7, 7, 7, 7, 7, 7, 7, 7, 7, 7, 7, 7, 7, 7, 7, 7, 7, 7, 7, 7, 7, 7, 7, 7, 7, 7, 7, 8, 8, 8, 8, 8, 8, 8, 8, 8, 8, 8, 8, 8, 8, 8, 8, 8, 8, 8, 8, 8, 8, 8, 8, 8, 8, 8, 8, 8, 8, 8, 8, 8, 8, 8, 8, 8, 8, 8, 8, 8, 8, 8, 8, 8, 8, 8, 8, 8, 8, 8, 8, 8, 8, 8, 8, 8, 8, 8, 8, 8, 8, 8, 8, 8, 8, 8, 8, 8, 8, 8, 8, 8, 8, 8, 8, 8, 8, 8, 8, 8, 8, 8, 8, 8, 8, 8, 8, 8, 8, 8, 8, 8, 8, 8, 8, 8, 8, 8, 8, 8, 8, 8, 8, 8, 8, 8, 8, 8, 8, 8, 8, 8, 8, 8, 8, 8, 8, 8, 8, 8, 8, 8, 8, 8, 8, 8, 8]).size : Int) ∧
 R (.returned (.int .i64 (IntKind.i64.wrap (x2 + (IntKind.i64.wrap (bt (ByteArray.mk #[0, 1, 2, 2, 3, 3, 3, 3, 4, 4, 4, 4, 4, 4, 4, 4, 5, 5, 5, 5, 5, 5, 5, 5, 5, 5, 5, 5, 5, 5, 5, 5, 6, 6, 6, 6, 6, 6, 6, 6, 6, 6, 6, 6, 6, 6, 6, 6, 6, 6, 6, 6, 6, 6, 6, 6, 6, 6, 6, 6, 6, 6, 6, 6, 7, 7, 7, 7, 7, 7, 7, 7, 7, 7, 7, 7, 7, 7, 7, 7, 7, 7, 7, 7, 7, 7, 7, 7, 7, 7, 7, 7, 7, 7, 7, 7, 7, 7, 7, 7, 7, 7, 7, 7, 7, 7, 7, 7, 7, 7, 7, 7, 7, 7, 7, 7, 7, 7, 7, 7, 7, 7, 7, 7, 7, 7, 7, 7, 8, 8, 8, 8, 8, 8, 8, 8, 8, 8, 8, 8, 8, 8, 8, 8, 8, 8, 8, 8, 8, 8, 8, 8, 8, 8, 8, 8, 8, 8, 8, 8, 8, 8, 8, 8, 8, 8, 8, 8, 8, 8, 8, 8, 8, 8, 8, 8, 8, 8, 8, 8, 8, 8, 8, 8, 8, 8, 8, 8, 8, 8, 8, 8, 8, 8, 8, 8, 8, 8, 8, 8, 8, 8, 8, 8, 8, 8, 8, 8, 8, 8, 8, 8, 8, 8, 8, 8, 8, 8, 8, 8, 8, 8, 8, 8, 8, 8, 8, 8, 8, 8, 8, 8, 8, 8, 8, 8, 8, 8, 8, 8, 8, 8, 8, 8, 8, 8, 8, 8, 8, 8, 8, 8, 8, 8, 8, 8]) (IntKind.u8.wrap x0))))))) w

def k2 (R : EP) (x0 x2 : Int) (w : World) : Prop :=
 br (decide (x0 ≥ 256))
 (0 ≤ (8 : Int) ∧
 k3 R (Int.fdiv x0 (2 ^ (min (Int.toNat 8) 64))) (IntKind.i64.wrap (x2 + 8)) w)
 (k3 R x0 x2 w)

def k1 (R : EP) (x0 x2 : Int) (w : World) : Prop :=
 br (decide (x0 ≥ 65536))
 (0 ≤ (16 : Int) ∧
 k2 R (Int.fdiv x0 (2 ^ (min (Int.toNat 16) 64))) (IntKind.i64.wrap (x2 + 16)) w)
 (k2 R x0 x2 w)

end g_math_bits_Len64
def g_math_bits_Len64 (R : EP) (x0 : Int) (w : World) : Prop :=
 br (decide (x0 ≥ 4294967296))
 (0 ≤ (32 : Int) ∧
 g_math_bits_Len64.k1 R (Int.fdiv x0 (2 ^ (min (Int.toNat 32) 64))) 32 w)
 (g_math_bits_Len64.k1 R x0 0 w)

namespace g_math_bits_Len64
noncomputable def ac (R : EP) : AC :=
 (.seq (.leaf (sel [0] body)) (.seq (.leaf (sel [1,0] body)) (.mark (leaf [(0, .s (.int .u64)), (2, .s (.int .i64))] (k1 R)) (.seq (.leaf (sel [1,1,0] body)) (.mark (leaf [(0, .s (.int .u64)), (2, .s (.int .i64))] (k2 R)) (.seq (.leaf (sel [1,1,1,0] body)) (.mark (leaf [(0, .s (.int .u64)), (2, .s (.int .i64))] (k3 R)) (.leaf (sel [1,1,1,1] body)))))))))
theorem good (R : EP) : Good P 25 (ac R) (QF P [.tmp 2] R) :=
 ⟨trivial, ⟨trivial, ⟨⟨trivial, ⟨⟨trivial, ⟨trivial, cutZ⟩⟩, cutZ⟩⟩, cutZ⟩⟩⟩
theorem eq (R : EP) (x0 : Int) (w : World) : g_math_bits_Len64 R x0 w = vcA P 25 (ac R) (QF P [.tmp 2] R) (fr0 [.int .u64 x0]) w := by kernel_rfl
theorem sound {R : EP} {x0 : Int} {w : World} (h : g_math_bits_Len64 R x0 w) : callE P i_math_bits_Len64 #[.int .u64 x0] R w :=
 callE_fz (c := body) Tryz.func119 Tryz.call119 (good R) (eq R x0 w) h
end g_math_bits_Len64
namespace g_slices_SortFunc_impl_Def_impl_Def
noncomputable def body : Code := bodyOf Tryz.f55
end g_slices_SortFunc_impl_Def_impl_Def
def g_slices_SortFunc_impl_Def_impl_Def (R : EP) (x0q : OA) (x0n x0c : Nat) (x1 : Value) (w : World) : Prop :=
 callE P i_math_bits_Len #[.int .u64 (IntKind.u64.wrap (x0n : Int))] (fun e w2 => ∃ (r1 : Int), e = .returned (.int .i64 r1) ∧
 callE P i_slices_pdqsortCmpFunc_impl_Def #[.slice x0q x0n x0c, .int .i64 0, .int .i64 (x0n : Int), .int .i64 r1, x1] (fun e w4 => e = .returned (.tuple #[]) ∧
 R (.returned (.tuple #[])) w4) w2) w

namespace g_slices_SortFunc_impl_Def_impl_Def
noncomputable def ac (R : EP) : AC :=
 (.leaf (sel [] body))
theorem good (R : EP) : Good P 14 (ac R) (QF P [] R) :=
 trivial
theorem eq (R : EP) (x0q : OA) (x0n x0c : Nat) (x1 : Value) (w : World) : g_slices_SortFunc_impl_Def_impl_Def R x0q x0n x0c x1 w = vcA P 14 (ac R) (QF P [] R) (fr0 [.slice x0q x0n x0c, x1]) w := by kernel_rfl
theorem sound {R : EP} {x0q : OA} {x0n x0c : Nat} {x1 : Value} {w : World} (h : g_slices_SortFunc_impl_Def_impl_Def R x0q x0n x0c x1 w) : callE P i_slices_SortFunc_impl_Def_impl_Def #[.slice x0q x0n x0c, x1] R w :=
 callE_fz (c := body) Tryz.func55 Tryz.call55 (good R) (eq R x0q x0n x0c x1 w) h
end g_slices_SortFunc_impl_Def_impl_Def
namespace g_slices_insertionSortCmpFunc_impl_Def
noncomputable def body : Code := bodyOf Tryz.f110
def k1 (R : EP) (Xa : OA → Nat → Nat → Int → Int → Value → Int → WP) (Xb : OA → Nat → Nat → Int → Int → Value → Int → Int → WP) (x0q : OA) (x0n x0c : Nat) (x1 x2 : Int) (x3 : Value) (x8 x9 : Int) (w : World) : Prop :=
 tk w fun w14 =>
 0 ≤ (IntKind.i64.wrap (x9 - 1)) ∧ (IntKind.i64.wrap (x9 - 1)) < (x0n : Int) ∧
 nilP x0q fun a15 =>
 0 ≤ x9 ∧ x9 < (x0n : Int) ∧
 nilP x0q fun a16 =>
 ∃ (v17 : BA), w14.cell? ((a15.add (Int.toNat (IntKind.i64.wrap (x9 - 1)) * 4)).add 0) = some (.string v17) ∧
 ∃ (v18 : BA), w14.cell? ((a15.add (Int.toNat (IntKind.i64.wrap (x9 - 1)) * 4)).add 1) = some (.string v18) ∧
 ∃ (v19 : BA), w14.cell? ((a15.add (Int.toNat (IntKind.i64.wrap (x9 - 1)) * 4)).add 2) = some (.string v19) ∧
 ∃ (v20 : BA), w14.cell? ((a15.add (Int.toNat (IntKind.i64.wrap (x9 - 1)) * 4)).add 3) = some (.string v20) ∧
 ∃ (v21 : BA), w14.cell? ((a16.add (Int.toNat x9 * 4)).add 0) = some (.string v21) ∧
 ∃ (v22 : BA), w14.cell? ((a16.add (Int.toNat x9 * 4)).add 1) = some (.string v22) ∧
 ∃ (v23 : BA), w14.cell? ((a16.add (Int.toNat x9 * 4)).add 2) = some (.string v23) ∧
 ∃ (v24 : BA), w14.cell? ((a16.add (Int.toNat x9 * 4)).add 3) = some (.string v24) ∧
 0 ≤ x9 ∧ x9 < (x0n : Int) ∧
 nilP x0q fun a25 =>
 stV w14 ((a25.add (Int.toNat x9 * 4)).add 0) (.string v17) fun w26 =>
 stV w26 ((a25.add (Int.toNat x9 * 4)).add 1) (.string v18) fun w27 =>
 stV w27 ((a25.add (Int.toNat x9 * 4)).add 2) (.string v19) fun w28 =>
 stV w28 ((a25.add (Int.toNat x9 * 4)).add 3) (.string v20) fun w29 =>
 0 ≤ (IntKind.i64.wrap (x9 - 1)) ∧ (IntKind.i64.wrap (x9 - 1)) < (x0n : Int) ∧
 nilP x0q fun a30 =>
 stV w29 ((a30.add (Int.toNat (IntKind.i64.wrap (x9 - 1)) * 4)).add 0) (.string v21) fun w31 =>
 stV w31 ((a30.add (Int.toNat (IntKind.i64.wrap (x9 - 1)) * 4)).add 1) (.string v22) fun w32 =>
 stV w32 ((a30.add (Int.toNat (IntKind.i64.wrap (x9 - 1)) * 4)).add 2) (.string v23) fun w33 =>
 stV w33 ((a30.add (Int.toNat (IntKind.i64.wrap (x9 - 1)) * 4)).add 3) (.string v24) fun w34 =>
 Xb x0q x0n x0c x1 x2 x3 x8 (IntKind.i64.wrap (x9 - 1)) w34

def bl2 (R : EP) (Xa : OA → Nat → Nat → Int → Int → Value → Int → WP) (Xb : OA → Nat → Nat → Int → Int → Value → Int → Int → WP) (x0q : OA) (x0n x0c : Nat) (x1 x2 : Int) (x3 : Value) (x8 x9 : Int) (w : World) : Prop :=
 tk w fun w1 =>
 br (decide (x9 > x1))
 (0 ≤ x9 ∧ x9 < (x0n : Int) ∧
 nilP x0q fun a2 =>
 0 ≤ (IntKind.i64.wrap (x9 - 1)) ∧ (IntKind.i64.wrap (x9 - 1)) < (x0n : Int) ∧
 nilP x0q fun a3 =>
 ∃ (v4 : BA), w1.cell? ((a2.add (Int.toNat x9 * 4)).add 0) = some (.string v4) ∧
 ∃ (v5 : BA), w1.cell? ((a2.add (Int.toNat x9 * 4)).add 1) = some (.string v5) ∧
 ∃ (v6 : BA), w1.cell? ((a2.add (Int.toNat x9 * 4)).add 2) = some (.string v6) ∧
 ∃ (v7 : BA), w1.cell? ((a2.add (Int.toNat x9 * 4)).add 3) = some (.string v7) ∧
 ∃ (v8 : BA), w1.cell? ((a3.add (Int.toNat (IntKind.i64.wrap (x9 - 1)) * 4)).add 0) = some (.string v8) ∧
 ∃ (v9 : BA), w1.cell? ((a3.add (Int.toNat (IntKind.i64.wrap (x9 - 1)) * 4)).add 1) = some (.string v9) ∧
 ∃ (v10 : BA), w1.cell? ((a3.add (Int.toNat (IntKind.i64.wrap (x9 - 1)) * 4)).add 2) = some (.string v10) ∧
 ∃ (v11 : BA), w1.cell? ((a3.add (Int.toNat (IntKind.i64.wrap (x9 - 1)) * 4)).add 3) = some (.string v11) ∧
 enterE P (do let d ← Deferred.ofValue x3 #[.agg #[.string v4, .string v5, .string v6, .string v7], .agg #[.string v8, .string v9, .string v10, .string v11]]; invoke d.target d.args) (fun e w13 => ∃ (r12 : Int), e = .returned (.int .i64 r12) ∧
 br (decide (r12 < 0))
 (k1 R Xa Xb x0q x0n x0c x1 x2 x3 x8 x9 w13)
 (Xa x0q x0n x0c x1 x2 x3 (IntKind.i64.wrap (x8 + 1)) w13)) w1)
 (Xa x0q x0n x0c x1 x2 x3 (IntKind.i64.wrap (x8 + 1)) w1)
def l2 (R : EP) (Xa : OA → Nat → Nat → Int → Int → Value → Int → WP) (x0q : OA) (x0n x0c : Nat) (x1 x2 : Int) (x3 : Value) (x8 x9 : Int) (w : World) : Prop :=
 ∀ X : OA → Nat → Nat → Int → Int → Value → Int → Int → WP, (∀ x0q x0n x0c x1 x2 x3 x8 x9 w, bl2 R Xa X x0q x0n x0c x1 x2 x3 x8 x9 w → X x0q x0n x0c x1 x2 x3 x8 x9 w) → X x0q x0n x0c x1 x2 x3 x8 x9 w

noncomputable def al2 (R : EP) (Xa : OA → Nat → Nat → Int → Int → Value → Int → WP) (Xb : OA → Nat → Nat → Int → Int → Value → Int → Int → WP) : AC :=
 (.seq (.seq (.draw (.pure 0 (.pure 1 (.pure 2 (.pure 3 (.pure 4 (.pure 5 (.pure 6 (.pure 7 (.pure 9 (.pure 10 (.pure 11 (.pure 12 (.load 8 (.load 13 (.one 14 (.pure 15 (.pure 16 .done))))))))))))))))) (sel [1,0,0,1,0,0,1,0,0,0,0] body)) (.leaf (sel [1,0,0,1,0,0,1,0,0,0,1] body))) (.mark (leaf [(0, .s .slice), (1, .s (.int .i64)), (2, .s (.int .i64)), (3, .s .any), (8, .s (.int .i64)), (9, .s (.int .i64))] (k1 R Xa Xb)) (.seq (.block 3 (.draw (.pure 0 (.pure 1 (.pure 2 (.pure 3 (.pure 4 (.pure 5 (.pure 6 (.pure 7 (.pure 8 (.pure 10 (.pure 11 (.pure 12 (.load 9 (.load 13 (.pure 14 (.one 15 (.pure 16 (.one 17 .done)))))))))))))))))) (sel [1,0,0,1,0,0,1,0,0,1,0,0] body))) (.leaf (sel [1,0,0,1,0,0,1,0,0,1,1] body)))))
def bl1 (R : EP) (Xa : OA → Nat → Nat → Int → Int → Value → Int → WP) (x0q : OA) (x0n x0c : Nat) (x1 x2 : Int) (x3 : Value) (x8 : Int) (w : World) : Prop :=
 br (decide (x8 < x2))
 (l2 R Xa x0q x0n x0c x1 x2 x3 x8 x8 w)
 (R (.returned (.tuple #[])) w)
def l1 (R : EP) (x0q : OA) (x0n x0c : Nat) (x1 x2 : Int) (x3 : Value) (x8 : Int) (w : World) : Prop :=
 ∀ X : OA → Nat → Nat → Int → Int → Value → Int → WP, (∀ x0q x0n x0c x1 x2 x3 x8 w, bl1 R X x0q x0n x0c x1 x2 x3 x8 w → X x0q x0n x0c x1 x2 x3 x8 w) → X x0q x0n x0c x1 x2 x3 x8 w

noncomputable def al1 (R : EP) (Xa : OA → Nat → Nat → Int → Int → Value → Int → WP) : AC :=
 (.seq (.leaf (sel [1,0,0,0] body)) (.seq (.block 1 (.seq (.leaf (sel [1,0,0,1,0,0,0] body)) (.block 2 (.loop (leaf [(0, .s .slice), (1, .s (.int .i64)), (2, .s (.int .i64)), (3, .s .any), (8, .s (.int .i64)), (9, .s (.int .i64))] (l2 R Xa)) (sel [1,0,0,1,0,0,1,0,0] body))))) (.leaf (sel [1,0,0,1,1] body))))
end g_slices_insertionSortCmpFunc_impl_Def
def g_slices_insertionSortCmpFunc_impl_Def (R : EP) (x0q : OA) (x0n x0c : Nat) (x1 x2 : Int) (x3 : Value) (w : World) : Prop :=
 g_slices_insertionSortCmpFunc_impl_Def.l1 R x0q x0n x0c x1 x2 x3 (IntKind.i64.wrap (x1 + 1)) w

namespace g_slices_insertionSortCmpFunc_impl_Def
noncomputable def ac (R : EP) : AC :=
 (.seq (.leaf (sel [0] body)) (.block 0 (.loop (leaf [(0, .s .slice), (1, .s (.int .i64)), (2, .s (.int .i64)), (3, .s .any), (8, .s (.int .i64))] (l1 R)) (sel [1,0,0] body))))
theorem good (R : EP) : Good P 53 (ac R) (QF P [] R) :=
 ⟨trivial, (loopG (al1 R) (bl1 R) (fun _ => by kernel_rfl) (fun Xa => ⟨trivial, ⟨⟨trivial, (loopG (al2 R Xa) (bl2 R Xa) (fun _ => by kernel_rfl) (fun Xb => ⟨⟨⟨by kernel_rfl, by kernel_rfl, fun _ _ _ h => h⟩, trivial⟩, ⟨⟨⟨by kernel_rfl, by kernel_rfl, fun _ _ _ h => h⟩, trivial⟩, cutZ⟩⟩) (fun Xb => by intro x0q x0n x0c x1 x2 x3 x8 x9 ρ w; kernel_rfl) (fun X h _ _ _ _ _ _ _ _ _ g => g X h))⟩, trivial⟩⟩) (fun Xa => by intro x0q x0n x0c x1 x2 x3 x8 ρ w; kernel_rfl) (fun X h _ _ _ _ _ _ _ _ g => g X h))⟩
theorem eq (R : EP) (x0q : OA) (x0n x0c : Nat) (x1 x2 : Int) (x3 : Value) (w : World) : g_slices_insertionSortCmpFunc_impl_Def R x0q x0n x0c x1 x2 x3 w = vcA P 53 (ac R) (QF P [] R) (fr0 [.slice x0q x0n x0c, .int .i64 x1, .int .i64 x2, x3]) w := by kernel_rfl
theorem sound {R : EP} {x0q : OA} {x0n x0c : Nat} {x1 x2 : Int} {x3 : Value} {w : World} (h : g_slices_insertionSortCmpFunc_impl_Def R x0q x0n x0c x1 x2 x3 w) : callE P i_slices_insertionSortCmpFunc_impl_Def #[.slice x0q x0n x0c, .int .i64 x1, .int .i64 x2, x3] R w :=
 callE_fz (c := body) Tryz.func110 Tryz.call110 (good R) (eq R x0q x0n x0c x1 x2 x3 w) h
end g_slices_insertionSortCmpFunc_impl_Def
namespace g_slices_pdqsortCmpFunc_impl_Def
noncomputable def body : Code := bodyOf Tryz.f78
def k5 (R : EP) (Xa : OA → Nat → Nat → Int → Int → Int → Value → Bool → Bool → WP) (x0q : OA) (x0n x0c : Nat) (x1 x2 x3 : Int) (x4 : Value) (x10 x11 : Bool) (x12 x13 : Int) (x97 : Bool) (w : World) : Prop :=
 br x97
 (callE P i_slices_partitionEqualCmpFunc_impl_Def #[.slice x0q x0n x0c, .int .i64 x1, .int .i64 x2, .int .i64 x13, x4] (fun e w27 => ∃ (r26 : Int), e = .returned (.int .i64 r26) ∧
 Xa x0q x0n x0c r26 x2 x3 x4 x10 x11 w27) w)
 (callE P i_slices_partitionCmpFunc_impl_Def #[.slice x0q x0n x0c, .int .i64 x1, .int .i64 x2, .int .i64 x13, x4] (fun e w29 => ∃ (r28_0 : Int), ∃ (r28_1 : Bool), e = .returned (.tuple #[.int .i64 r28_0, .bool r28_1]) ∧
 (8 : Int) ≠ 0 ∧
 br (decide ((IntKind.i64.wrap (r28_0 - x1)) < (IntKind.i64.wrap (x2 - r28_0))))
 (callE P i_slices_pdqsortCmpFunc_impl_Def #[.slice x0q x0n x0c, .int .i64 x1, .int .i64 r28_0, .int .i64 x3, x4] (fun e w31 => e = .returned (.tuple #[]) ∧
 Xa x0q x0n x0c (IntKind.i64.wrap (r28_0 + 1)) x2 x3 x4 (decide ((IntKind.i64.wrap (r28_0 - x1)) ≥ (IntKind.i64.wrap (Int.tdiv x12 8)))) r28_1 w31) w29)
 (callE P i_slices_pdqsortCmpFunc_impl_Def #[.slice x0q x0n x0c, .int .i64 (IntKind.i64.wrap (r28_0 + 1)), .int .i64 x2, .int .i64 x3, x4] (fun e w33 => e = .returned (.tuple #[]) ∧
 Xa x0q x0n x0c x1 r28_0 x3 x4 (decide ((IntKind.i64.wrap (x2 - r28_0)) ≥ (IntKind.i64.wrap (Int.tdiv x12 8)))) r28_1 w33) w29)) w)

def k4 (R : EP) (Xa : OA → Nat → Nat → Int → Int → Int → Value → Bool → Bool → WP) (x0q : OA) (x0n x0c : Nat) (x1 x2 x3 : Int) (x4 : Value) (x10 x11 : Bool) (x12 x13 : Int) (w : World) : Prop :=
 tk w fun w13 =>
 br (decide (x1 > 0))
 (0 ≤ (IntKind.i64.wrap (x1 - 1)) ∧ (IntKind.i64.wrap (x1 - 1)) < (x0n : Int) ∧
 nilP x0q fun a14 =>
 0 ≤ x13 ∧ x13 < (x0n : Int) ∧
 nilP x0q fun a15 =>
 ∃ (v16 : BA), w13.cell? ((a14.add (Int.toNat (IntKind.i64.wrap (x1 - 1)) * 4)).add 0) = some (.string v16) ∧
 ∃ (v17 : BA), w13.cell? ((a14.add (Int.toNat (IntKind.i64.wrap (x1 - 1)) * 4)).add 1) = some (.string v17) ∧
 ∃ (v18 : BA), w13.cell? ((a14.add (Int.toNat (IntKind.i64.wrap (x1 - 1)) * 4)).add 2) = some (.string v18) ∧
 ∃ (v19 : BA), w13.cell? ((a14.add (Int.toNat (IntKind.i64.wrap (x1 - 1)) * 4)).add 3) = some (.string v19) ∧
 ∃ (v20 : BA), w13.cell? ((a15.add (Int.toNat x13 * 4)).add 0) = some (.string v20) ∧
 ∃ (v21 : BA), w13.cell? ((a15.add (Int.toNat x13 * 4)).add 1) = some (.string v21) ∧
 ∃ (v22 : BA), w13.cell? ((a15.add (Int.toNat x13 * 4)).add 2) = some (.string v22) ∧
 ∃ (v23 : BA), w13.cell? ((a15.add (Int.toNat x13 * 4)).add 3) = some (.string v23) ∧
 enterE P (do let d ← Deferred.ofValue x4 #[.agg #[.string v16, .string v17, .string v18, .string v19], .agg #[.string v20, .string v21, .string v22, .string v23]]; invoke d.target d.args) (fun e w25 => ∃ (r24 : Int), e = .returned (.int .i64 r24) ∧
 k5 R Xa x0q x0n x0c x1 x2 x3 x4 x10 x11 x12 x13 (!(decide (r24 < 0))) w25) w13)
 (k5 R Xa x0q x0n x0c x1 x2 x3 x4 x10 x11 x12 x13 false w13)

def k3 (R : EP) (Xa : OA → Nat → Nat → Int → Int → Int → Value → Bool → Bool → WP) (x0q : OA) (x0n x0c : Nat) (x1 x2 x3 : Int) (x4 : Value) (x10 x11 : Bool) (x12 x13 : Int) (x75 : Bool) (w : World) : Prop :=
 br x75
 (callE P i_slices_partialInsertionSortCmpFunc_impl_Def #[.slice x0q x0n x0c, .int .i64 x1, .int .i64 x2, x4] (fun e w12 => ∃ (r11 : Bool), e = .returned (.bool r11) ∧
 br r11
 (R (.returned (.tuple #[])) w12)
 (k4 R Xa x0q x0n x0c x1 x2 x3 x4 x10 x11 x12 x13 w12)) w)
 (k4 R Xa x0q x0n x0c x1 x2 x3 x4 x10 x11 x12 x13 w)

def k2 (R : EP) (Xa : OA → Nat → Nat → Int → Int → Int → Value → Bool → Bool → WP) (x0q : OA) (x0n x0c : Nat) (x1 x2 x3 : Int) (x4 : Value) (x10 x11 : Bool) (x12 x13 x14 : Int) (w : World) : Prop :=
 k3 R Xa x0q x0n x0c x1 x2 x3 x4 x10 x11 x12 x13 ((x10 && x11) && (x14 == 1)) w

def k1 (R : EP) (Xa : OA → Nat → Nat → Int → Int → Int → Value → Bool → Bool → WP) (x0q : OA) (x0n x0c : Nat) (x1 x2 x3 : Int) (x4 : Value) (x10 x11 : Bool) (x12 : Int) (w : World) : Prop :=
 callE P i_slices_choosePivotCmpFunc_impl_Def #[.slice x0q x0n x0c, .int .i64 x1, .int .i64 x2, x4] (fun e w8 => ∃ (r7_0 : Int), ∃ (r7_1 : Int), e = .returned (.tuple #[.int .i64 r7_0, .int .i64 r7_1]) ∧
 br (r7_1 == 2)
 (callE P i_slices_reverseRangeCmpFunc_impl_Def #[.slice x0q x0n x0c, .int .i64 x1, .int .i64 x2, x4] (fun e w10 => e = .returned (.tuple #[]) ∧
 k2 R Xa x0q x0n x0c x1 x2 x3 x4 x10 x11 x12 (IntKind.i64.wrap ((IntKind.i64.wrap (x2 - 1)) - (IntKind.i64.wrap (r7_0 - x1)))) 1 w10) w8)
 (k2 R Xa x0q x0n x0c x1 x2 x3 x4 x10 x11 x12 r7_0 r7_1 w8)) w

def bl1 (R : EP) (Xa : OA → Nat → Nat → Int → Int → Int → Value → Bool → Bool → WP) (x0q : OA) (x0n x0c : Nat) (x1 x2 x3 : Int) (x4 : Value) (x10 x11 : Bool) (w : World) : Prop :=
 br (decide ((IntKind.i64.wrap (x2 - x1)) ≤ 12))
 (callE P i_slices_insertionSortCmpFunc_impl_Def #[.slice x0q x0n x0c, .int .i64 x1, .int .i64 x2, x4] (fun e w2 => e = .returned (.tuple #[]) ∧
 R (.returned (.tuple #[])) w2) w)
 (br (x3 == 0)
 (callE P i_slices_heapSortCmpFunc_impl_Def #[.slice x0q x0n x0c, .int .i64 x1, .int .i64 x2, x4] (fun e w4 => e = .returned (.tuple #[]) ∧
 R (.returned (.tuple #[])) w4) w)
 (br (!x10)
 (callE P i_slices_breakPatternsCmpFunc_impl_Def #[.slice x0q x0n x0c, .int .i64 x1, .int .i64 x2, x4] (fun e w6 => e = .returned (.tuple #[]) ∧
 k1 R Xa x0q x0n x0c x1 x2 (IntKind.i64.wrap (x3 - 1)) x4 x10 x11 (IntKind.i64.wrap (x2 - x1)) w6) w)
 (k1 R Xa x0q x0n x0c x1 x2 x3 x4 x10 x11 (IntKind.i64.wrap (x2 - x1)) w)))
def l1 (R : EP) (x0q : OA) (x0n x0c : Nat) (x1 x2 x3 : Int) (x4 : Value) (x10 x11 : Bool) (w : World) : Prop :=
 ∀ X : OA → Nat → Nat → Int → Int → Int → Value → Bool → Bool → WP, (∀ x0q x0n x0c x1 x2 x3 x4 x10 x11 w, bl1 R X x0q x0n x0c x1 x2 x3 x4 x10 x11 w → X x0q x0n x0c x1 x2 x3 x4 x10 x11 w) → X x0q x0n x0c x1 x2 x3 x4 x10 x11 w

noncomputable def al1 (R : EP) (Xa : OA → Nat → Nat → Int → Int → Int → Value → Bool → Bool → WP) : AC :=
 (.block 1 (.seq (.leaf (sel [1,1,0,0,0,0] body)) (.seq (.leaf (sel [1,1,0,0,0,1,0] body)) (.seq (.leaf (sel [1,1,0,0,0,1,1,0] body)) (.seq (.leaf (sel [1,1,0,0,0,1,1,1,0] body)) (.mark (leaf [(0, .s .slice), (1, .s (.int .i64)), (2, .s (.int .i64)), (3, .s (.int .i64)), (4, .s .any), (10, .s .bool), (11, .s .bool), (12, .s (.int .i64))] (k1 R Xa)) (.seq (.leaf (sel [1,1,0,0,0,1,1,1,1,0] body)) (.seq (.leaf (sel [1,1,0,0,0,1,1,1,1,1,0] body)) (.mark (leaf [(0, .s .slice), (1, .s (.int .i64)), (2, .s (.int .i64)), (3, .s (.int .i64)), (4, .s .any), (10, .s .bool), (11, .s .bool), (12, .s (.int .i64)), (13, .s (.int .i64)), (14, .s (.int .i64))] (k2 R Xa)) (.seq (.seq (.leaf (sel [1,1,0,0,0,1,1,1,1,1,1,0,0] body)) (.mark (leaf [(0, .s .slice), (1, .s (.int .i64)), (2, .s (.int .i64)), (3, .s (.int .i64)), (4, .s .any), (10, .s .bool), (11, .s .bool), (12, .s (.int .i64)), (13, .s (.int .i64)), (75, .s .bool)] (k3 R Xa)) (.leaf (sel [1,1,0,0,0,1,1,1,1,1,1,0,1] body)))) (.mark (leaf [(0, .s .slice), (1, .s (.int .i64)), (2, .s (.int .i64)), (3, .s (.int .i64)), (4, .s .any), (10, .s .bool), (11, .s .bool), (12, .s (.int .i64)), (13, .s (.int .i64))] (k4 R Xa)) (.seq (.seq (.draw (.pure 0 (.pure 1 (.pure 2 (.pure 3 (.pure 4 (.pure 5 (.pure 6 (.pure 7 (.pure 9 (.pure 10 (.pure 11 (.load 8 (.load 12 (.one 13 (.pure 14 (.pure 15 (.pure 16 .done))))))))))))))))) (sel [1,1,0,0,0,1,1,1,1,1,1,1,0,0] body)) (.mark (leaf [(0, .s .slice), (1, .s (.int .i64)), (2, .s (.int .i64)), (3, .s (.int .i64)), (4, .s .any), (10, .s .bool), (11, .s .bool), (12, .s (.int .i64)), (13, .s (.int .i64)), (97, .s .bool)] (k5 R Xa)) (.leaf (sel [1,1,0,0,0,1,1,1,1,1,1,1,0,1] body)))) (.leaf (sel [1,1,0,0,0,1,1,1,1,1,1,1,1] body))))))))))))))
end g_slices_pdqsortCmpFunc_impl_Def
def g_slices_pdqsortCmpFunc_impl_Def (R : EP) (x0q : OA) (x0n x0c : Nat) (x1 x2 x3 : Int) (x4 : Value) (w : World) : Prop :=
 g_slices_pdqsortCmpFunc_impl_Def.l1 R x0q x0n x0c x1 x2 x3 x4 true true w

namespace g_slices_pdqsortCmpFunc_impl_Def
noncomputable def ac (R : EP) : AC :=
 (.seq (.leaf (sel [0] body)) (.seq (.leaf (sel [1,0] body)) (.block 0 (.loop (leaf [(0, .s .slice), (1, .s (.int .i64)), (2, .s (.int .i64)), (3, .s (.int .i64)), (4, .s .any), (10, .s .bool), (11, .s .bool)] (l1 R)) (sel [1,1,0,0] body)))))
theorem good (R : EP) : Good P 148 (ac R) (QF P [] R) :=
 ⟨trivial, ⟨trivial, (loopG (al1 R) (bl1 R) (fun _ => by kernel_rfl) (fun Xa => ⟨trivial, ⟨trivial, ⟨trivial, ⟨trivial, ⟨⟨trivial, ⟨trivial, ⟨⟨⟨trivial, ⟨trivial, cutZ⟩⟩, ⟨⟨⟨⟨by kernel_rfl, by kernel_rfl, fun _ _ _ h => h⟩, ⟨trivial, cutZ⟩⟩, trivial⟩, cutZ⟩⟩, cutZ⟩⟩⟩, cutZ⟩⟩⟩⟩⟩) (fun Xa => by intro x0q x0n x0c x1 x2 x3 x4 x10 x11 ρ w; kernel_rfl) (fun X h _ _ _ _ _ _ _ _ _ _ g => g X h))⟩⟩
theorem eq (R : EP) (x0q : OA) (x0n x0c : Nat) (x1 x2 x3 : Int) (x4 : Value) (w : World) : g_slices_pdqsortCmpFunc_impl_Def R x0q x0n x0c x1 x2 x3 x4 w = vcA P 148 (ac R) (QF P [] R) (fr0 [.slice x0q x0n x0c, .int .i64 x1, .int .i64 x2, .int .i64 x3, x4]) w := by kernel_rfl
theorem sound {R : EP} {x0q : OA} {x0n x0c : Nat} {x1 x2 x3 : Int} {x4 : Value} {w : World} (h : g_slices_pdqsortCmpFunc_impl_Def R x0q x0n x0c x1 x2 x3 x4 w) : callE P i_slices_pdqsortCmpFunc_impl_Def #[.slice x0q x0n x0c, .int .i64 x1, .int .i64 x2, .int .i64 x3, x4] R w :=
 callE_fz (c := body) Tryz.func78 Tryz.call78 (good R) (eq R x0q x0n x0c x1 x2 x3 x4 w) h
end g_slices_pdqsortCmpFunc_impl_Def
namespace g_impl_blocks
noncomputable def body : Code := bodyOf Tryz.f53
def bl1 (R : EP) (Xa : OA → Nat → Nat → OA → Nat → Nat → Int → Int → WP) (x3q : OA) (x3n x3c : Nat) (x6q : OA) (x6n x6c : Nat) (x7 x8 : Int) (w : World) : Prop :=
 br (decide (x8 < x7))
 (0 ≤ x8 ∧ x8 < (x6n : Int) ∧
 nilP x6q fun a1 =>
 ∃ (v2 : Value), w.cell? (a1.add (Int.toNat x8 * 1)) = some v2 ∧
 callE P i_impl_block #[v2] (fun e w4 => rt16 e fun r3 =>
 ∃ (r5q : OA), ∃ (r5n : Nat), ∃ (r5c : Nat), ∃ w6, (Instr.buildSlice ty_S_impl_Node 1 #[(0, r3.V)]).run P w4 = .ok (.slice r5q r5n r5c) w6 ∧
 ∃ (r7q : OA), ∃ (r7n : Nat), ∃ (r7c : Nat), ∃ w8, (Builtin.append_ #[ty_S_impl_Node, ty_S_impl_Node] ty_S_impl_Node #[.slice x3q x3n x3c, .slice r5q r5n r5c]).run P w6 = .ok (.slice r7q r7n r7c) w8 ∧
 Xa r7q r7n r7c x6q x6n x6c x7 (IntKind.i64.wrap (x8 + 1)) w8) w)
 (R (.returned (.slice x3q x3n x3c)) w)
def l1 (R : EP) (x3q : OA) (x3n x3c : Nat) (x6q : OA) (x6n x6c : Nat) (x7 x8 : Int) (w : World) : Prop :=
 ∀ X : OA → Nat → Nat → OA → Nat → Nat → Int → Int → WP, (∀ x3q x3n x3c x6q x6n x6c x7 x8 w, bl1 R X x3q x3n x3c x6q x6n x6c x7 x8 w → X x3q x3n x3c x6q x6n x6c x7 x8 w) → X x3q x3n x3c x6q x6n x6c x7 x8 w

noncomputable def al1 (R : EP) (Xa : OA → Nat → Nat → OA → Nat → Nat → Int → Int → WP) : AC :=
 (.leaf (sel [1,1,0,1,0,0] body))
end g_impl_blocks
def g_impl_blocks (R : EP) (x0q : OA) (x0n x0c : Nat) (w : World) : Prop :=
 g_impl_blocks.l1 R none 0 0 x0q x0n x0c (x0n : Int) 0 w

namespace g_impl_blocks
noncomputable def ac (R : EP) : AC :=
 (.seq (.leaf (sel [0] body)) (.seq (.leaf (sel [1,0] body)) (.seq (.seq (.leaf (sel [1,1,0,0] body)) (.block 0 (.loop (leaf [(3, .s .slice), (6, .s .slice), (7, .s (.int .i64)), (8, .s (.int .i64))] (l1 R)) (sel [1,1,0,1,0,0] body)))) (.leaf (sel [1,1,1] body)))))
theorem good (R : EP) : Good P 19 (ac R) (QF P [.tmp 2] R) :=
 ⟨trivial, ⟨trivial, ⟨⟨trivial, (loopG (al1 R) (bl1 R) (fun _ => by kernel_rfl) (fun Xa => trivial) (fun Xa => by intro x3q x3n x3c x6q x6n x6c x7 x8 ρ w; kernel_rfl) (fun X h _ _ _ _ _ _ _ _ _ g => g X h))⟩, trivial⟩⟩⟩
theorem eq (R : EP) (x0q : OA) (x0n x0c : Nat) (w : World) : g_impl_blocks R x0q x0n x0c w = vcA P 19 (ac R) (QF P [.tmp 2] R) (fr0 [.slice x0q x0n x0c]) w := by kernel_rfl
theorem sound {R : EP} {x0q : OA} {x0n x0c : Nat} {w : World} (h : g_impl_blocks R x0q x0n x0c w) : callE P i_impl_blocks #[.slice x0q x0n x0c] R w :=
 callE_fz (c := body) Tryz.func53 Tryz.call53 (good R) (eq R x0q x0n x0c w) h
end g_impl_blocks
end Go.Proofs.YtgbgadkldalkbaaGreatDoor

set_option linter.unusedVariables false
namespace Go.Proofs.YtgbgadkldalkbaaGreatDoor
open Go.Proofs Go.IntWalk Go.RowKit
variable {σ : Out} {w : World} {L L' : List Chunk} {R : Ending → World → Prop}
theorem Sl.loadAt {q : Option Addr} {n c j : Nat} {e : TypeId} {vs : List Value} {RM : List Chunk} {v : Value} {K : Addr → Prop} (hS : Sl 1 e q n c vs RM) (h : Sat σ w (RM ++ L)) (hj : vs[j]? = some v)
 (hK : ∀ b, q = some ⟨b, 0, none⟩ → w.cell? ⟨b, j, none⟩ = some v → K ⟨b, 0, none⟩) : nilP q K := by
 obtain ⟨hl, _, ⟨rfl, rfl, _, _⟩ | ⟨rb, sp, rfl, rfl, _⟩⟩ := hS
 ·have := (List.getElem?_eq_some_iff.1 hj).1; omega
 ·refine nilP_some (hK rb rfl (h.ld (.head _) ?_))
  rw [List.getElem?_append_left (List.getElem?_eq_some_iff.1 hj).1]; exact hj

end Go.Proofs.YtgbgadkldalkbaaGreatDoor


set_option linter.unusedVariables false
namespace Go.Proofs.YtgbgadkldalkbaaGreatDoor
open Go.Proofs Go.IntWalk Go.RowKit
variable {σ : Out} {w : World} {L L' : List Chunk} {R : Ending → World → Prop}
def sv (ts : List (List UInt8)) : List Value := ts.map fun t => .string (bs t)
@[simp] theorem sv_length (ts : List (List UInt8)) : (sv ts).length = ts.length := by simp [sv]
theorem sv_get {ts : List (List UInt8)} {j : Nat} (h : j < ts.length) : (sv ts)[j]? = some (.string (bs ts[j])) := by simp [sv, h]
theorem Sl.rowAt {e : TypeId} {q : Option Addr} {n c : Nat} {vs : List Value} {M : List Chunk} (hS : Sl 1 e q n c vs M) (hn : 0 < n) : ∃ b sp, q = some ⟨b, 0, none⟩ ∧ M = [(b, cel (vs ++ sp) e)] := by
 obtain ⟨_, _, ⟨_, h, _, _⟩ | ⟨b, sp, h1, h2, _⟩⟩ := hS
 ·omega
 ·exact ⟨b, sp, h1, h2⟩
end Go.Proofs.YtgbgadkldalkbaaGreatDoor


set_option linter.unusedVariables false
namespace Go.Proofs.YtgbgadkldalkbaaGreatDoor
open Go.Proofs Go.IntWalk Go.RowKit
variable {σ : Out} {w : World} {L L' : List Chunk} {R : Ending → World → Prop}
theorem fillS (t : List UInt8) : Instr.fill (fun i => some (i * 1, 1)) ((Array.range (1 * 1)).map (rowStr.z.cells[· % rowStr.z.cells.size]!)) [(0, .string (bs t))] = some #[.string (bs t)] := by kernel_rfl

end Go.Proofs.YtgbgadkldalkbaaGreatDoor


set_option linter.unusedVariables false
namespace Go.Proofs.YtgbgadkldalkbaaGreatDoor
open Go.Proofs Go.IntWalk Go.RowKit
variable {σ : Out} {w : World} {L L' : List Chunk} {R : Ending → World → Prop}
noncomputable def rowIN : Row P ty_S_impl_Node ty_impl_Node 16 192 :=
 ⟨(P.info? ty_impl_Node).getD default, ((P.info? ty_impl_Node).bind (·.zero)).getD default, by kernel_rfl, by kernel_rfl, by kernel_rfl, by kernel_rfl, by kernel_rfl, by kernel_rfl, by decide⟩
theorem fillIN (v : N16) : Instr.fill (fun i => some (i * 16, 16)) ((Array.range (1 * 16)).map (rowIN.z.cells[· % rowIN.z.cells.size]!)) [(0, v.V)] = some v.C := by kernel_rfl
theorem one16 (v : N16) : ∀ u ∈ v.V.cells.toList, u.oneCell' = true := by
 intro x hx
 simp only [N16.V, Value.cells, N16.C, List.mem_cons, List.not_mem_nil, or_false] at hx
 rcases hx with rfl | rfl | rfl | rfl | rfl | rfl | rfl | rfl | rfl | rfl | rfl | rfl | rfl | rfl | rfl | rfl <;> rfl
def NodeAt (x : IN) (v : N16) (M : List Chunk) : Prop := ∃ h ks q n c vs RM KM, x = .mk h ks ∧ v = h.nd q n c ∧ M = RM ++ KM ∧ h.ok ∧ n < 1073741824 ∧ INs ks vs KM ∧ Sl 16 ty_impl_Node q n c vs RM
theorem NodeAt.cons {x : IN} {xs : List IN} {v : N16} {us : List Value} {M XM : List Chunk} (h : NodeAt x v M) (h2 : INs xs us XM) : INs (x :: xs) (v.C.toList ++ us) (M ++ XM) := by
 obtain ⟨h0, ks, q, n, c, vs, RM, KM, rfl, rfl, rfl, a, b, d, e⟩ := h
 exact .cons a b d e h2
theorem NodeAt.leaf {h : IH} (a : h.ok) : NodeAt (.mk h []) (h.nd none 0 0) [] := ⟨h, [], none, 0, 0, [], [], [], rfl, rfl, rfl, a, by decide, .nil, Sl.nil 16 ty_impl_Node⟩
def Gives (f : FuncId) (x : IN) (v : Value) (T : List Chunk) : Prop :=
 ∀ (σ : Out) (R : Ending → World → Prop) (L : List Chunk) (w : World), Sat σ w (T ++ L) → (∀ w u M, NodeAt x u M → Sat σ w (M ++ (T ++ L)) → R (.returned u.V) w) → callE P f #[v] R w
inductive GivesL (f : FuncId) : List IN → List Value → List Chunk → Prop where
 | nil : GivesL f [] [] []
 | cons {x : IN} {v : Value} {T : List Chunk} {xs : List IN} {vs : List Value} {K : List Chunk} : Gives f x v T → GivesL f xs vs K → GivesL f (x :: xs) (v :: vs) (T ++ K)
theorem nodesLoop {f : FuncId} {X : OA → Nat → Nat → OA → Nat → Nat → Int → Int → WP} {q : OA} {n c : Nat} {e : TypeId} {xs : List IN} {vs : List Value} {RM KM : List Chunk} (hS : Sl 1 e q n c vs RM)
 (hX : ∀ oq on oc (j : Int) w, br (decide (j < (n : Int))) (0 ≤ j ∧ j < (n : Int) ∧ nilP q fun a => ∃ (v : Value), w.cell? (a.add (Int.toNat j * 1)) = some v ∧
  callE P f #[v] (fun e w4 => rt16 e fun r3 => ∃ (r5q : OA), ∃ (r5n : Nat), ∃ (r5c : Nat), ∃ w6, (Instr.buildSlice ty_S_impl_Node 1 #[(0, r3.V)]).run P w4 = .ok (.slice r5q r5n r5c) w6 ∧
   ∃ (r7q : OA), ∃ (r7n : Nat), ∃ (r7c : Nat), ∃ w8, (Builtin.append_ #[ty_S_impl_Node, ty_S_impl_Node] ty_S_impl_Node #[.slice oq on oc, .slice r5q r5n r5c]).run P w6 = .ok (.slice r7q r7n r7c) w8 ∧ X r7q r7n r7c q n c (n : Int) (IntKind.i64.wrap (j + 1)) w8) w)
  (R (.returned (.slice oq on oc)) w) → X oq on oc q n c (n : Int) j w)
 (hG : GivesL f xs vs KM) (h : Sat σ w (RM ++ (KM ++ L))) (hn : n < 1073741824)
 (hE : ∀ w q' n' c' us OM NM, n' < 1073741824 → INs xs us NM → Sl 16 ty_impl_Node q' n' c' us OM → Sat σ w (OM ++ NM ++ (RM ++ (KM ++ L))) → R (.returned (.slice q' n' c')) w) : X none 0 0 q n c (n : Int) 0 w := by
 have hl := hS.1
 have key : ∀ (xs2 : List IN) (vs2 : List Value) (KM : List Chunk), GivesL f xs2 vs2 KM → ∀ (xs1 : List IN) (vs1 : List Value) (D : List Chunk) oq oc us OM NM w, vs1 ++ vs2 = vs → vs1.length = xs1.length → INs xs1 us NM → Sl 16 ty_impl_Node oq xs1.length oc us OM → Sat σ w (OM ++ NM ++ (RM ++ (D ++ (KM ++ L)))) →
  (∀ w q' n' c' us OM NM, n' < 1073741824 → INs (xs1 ++ xs2) us NM → Sl 16 ty_impl_Node q' n' c' us OM → Sat σ w (OM ++ NM ++ (RM ++ (D ++ (KM ++ L)))) → R (.returned (.slice q' n' c')) w) → X oq xs1.length oc q n c (n : Int) (vs1.length : Nat) w := by
  intro xs2 vs2 KM hG
  induction hG with
  | nil =>
   intro xs1 vs1 D oq oc us OM NM w hv hx hI hO h hE
   refine hX _ _ _ _ _ (br_false ?_ ?_)
   ·rw [← hv] at hl
    simp at hl
    simp; omega
   ·have : xs1.length < 1073741824 := by rw [← hv] at hl; simp at hl; omega
    rw [List.append_nil] at hE
    exact hE w oq xs1.length oc us OM NM this hI hO h
  | @cons x v T xs2 vs2 K h1 h2 ih =>
   intro xs1 vs1 D oq oc us OM NM w hv hx hI hO h hE
   have hlen : vs1.length < n := by rw [← hv] at hl; simp at hl; omega
   refine hX _ _ _ _ _ (br_true (by simp; omega) ⟨by omega, by omega, ?_⟩)
   have hv1 : vs[vs1.length]? = some v := by rw [← hv]; simp
   have hS0 := hS
   obtain ⟨_, _, ⟨rfl, h0, _, _⟩ | ⟨rb, sp, rfl, rfl, _⟩⟩ := hS0
   ·omega
   refine nilP_some ?_
   simp only [Addr.add_lit, Int.toNat_natCast, Nat.mul_one, Nat.zero_add]
   refine ⟨v, Sat.ld h (List.mem_append_right _ (.head _)) ?_, ?_⟩
   ·rw [List.getElem?_append_left (List.getElem?_eq_some_iff.1 hv1).1]; exact hv1
   have h : Sat σ w (T ++ (OM ++ NM ++ ([(rb, cel (vs ++ sp) e)] ++ (D ++ (K ++ L))))) := h.re
   refine h1 σ _ _ w h fun w u M hN h => rt16_mk ?_
   have h : Sat σ w (OM ++ (M ++ (T ++ (NM ++ ([(rb, cel (vs ++ sp) e)] ++ (D ++ (K ++ L))))))) := h.re
   refine Sat.app1 rowIN hO h (v := u.V) rfl (one16 u) (fillIN u) (by omega) (by omega) (by decide) fun q' c' w OM' hO' h => ?_
   rw [i64_inc (by omega)]
   have hI' : INs (xs1 ++ [x]) (us ++ u.V.cells.toList) (NM ++ M) := by
    have := hI.append (hN.cons .nil)
    rw [List.append_nil, List.append_nil] at this
    exact this
   have h : Sat σ w (OM' ++ (NM ++ M) ++ ([(rb, cel (vs ++ sp) e)] ++ ((D ++ T) ++ (K ++ L)))) := h.re
   have := ih (xs1 ++ [x]) (vs1 ++ [v]) (D ++ T) q' c' _ OM' (NM ++ M) w (by simpa using hv) (by simp [hx]) hI' (by rw [List.length_append]; exact hO') h (fun w q' n' c' us OM NM a b d h => hE w q' n' c' us OM NM a (by simpa using b) d (h.re))
   simpa using this
 exact key xs vs KM hG [] [] [] none 0 [] [] [] w rfl rfl .nil (Sl.nil 16 ty_impl_Node) h hE
theorem nblocks_ok {q : OA} {n c : Nat} {e : TypeId} {xs : List IN} {vs : List Value} {RM KM : List Chunk} (hS : Sl 1 e q n c vs RM) (hG : GivesL i_impl_block xs vs KM) (h : Sat σ w (RM ++ (KM ++ L))) (hn : n < 1073741824)
 (hR : ∀ w q' n' c' us OM NM, n' < 1073741824 → INs xs us NM → Sl 16 ty_impl_Node q' n' c' us OM → Sat σ w (OM ++ NM ++ (RM ++ (KM ++ L))) → R (.returned (.slice q' n' c')) w) : callE P i_impl_blocks #[.slice q n c] R w := by
 refine g_impl_blocks.sound ?_
 intro X hX
 exact nodesLoop (f := i_impl_block) hS (fun oq on oc j w hh => hX _ _ _ _ _ _ _ _ _ hh) hG h hn hR
def isPtrB (P : Program) (a : TypeId) : Bool :=
 match P.underlying a, P.info? a with
 | some (.pointer _), some i => match i.zero with
  | some (.pointer none) => true
  | _ => false
 | _, _ => false
theorem isPtr_out {a : TypeId} (h : isPtrB P a = true) : ∃ e i, P.underlying a = some (.pointer e) ∧ P.info? a = some i ∧ i.zero = some (.pointer none) := by
 unfold isPtrB at h
 split at h
 ·rename_i e i h1 h2
  split at h
  ·rename_i h3
   exact ⟨e, i, h1, h2, h3⟩
  ·exact absurd h (by decide)
 ·exact absurd h (by decide)
theorem taP_no {t a xt : TypeId} {v : Value} (ha : isPtrB P a = true) (hne : t ≠ a) (w : World) : (Instr.typeAssert (.iface t v) xt a true).run P w = .ok (.tuple #[.pointer none, .bool false]) w := by
 obtain ⟨e, i, h1, h2, h3⟩ := isPtr_out ha
 exact ta_no (by rw [h1]; intro ms h; cases h) h1 hne h2 h3 w
theorem taP_yes {a xt : TypeId} {v : Value} (ha : isPtrB P a = true) (w : World) : (Instr.typeAssert (.iface a v) xt a true).run P w = .ok (.tuple #[v, .bool true]) w := by
 obtain ⟨e, i, h1, h2, h3⟩ := isPtr_out ha
 exact ta_yes (by rw [h1]; intro ms h; cases h) h1 w
end Go.Proofs.YtgbgadkldalkbaaGreatDoor


set_option linter.unusedVariables false
namespace Go.Proofs.YtgbgadkldalkbaaGreatDoor
open Go.Proofs Go.IntWalk Go.RowKit
variable {σ : Out} {w : World} {L L' : List Chunk} {R : Ending → World → Prop}
theorem nil_lt : ([] : List UInt8).length < 1073741824 := by decide
end Go.Proofs.YtgbgadkldalkbaaGreatDoor


set_option linter.unusedVariables false
set_option maxRecDepth 20000
namespace Go.Proofs.YtgbgadkldalkbaaGreatDoor
open Go.Proofs
namespace g_Position_Pos
noncomputable def body : Code := bodyOf Tryz.f291
end g_Position_Pos
def g_Position_Pos (R : EP) (x0_0 x0_1 : Int) (w : World) : Prop :=
 box w #[.int .i64 x0_0, .int .i64 x0_1] ty_Position fun b1 w2 =>
 box w2 #[.int .i64 0, .int .i64 0] ty_Position fun b3 w4 =>
 ∃ (v5 : Int), w4.cell? ⟨b1, 0, none⟩ = some (.int .i64 v5) ∧
 ∃ (v6 : Int), w4.cell? ⟨b1, 1, none⟩ = some (.int .i64 v6) ∧
 stV w4 ⟨b3, 0, none⟩ (.int .i64 v5) fun w7 =>
 stV w7 ⟨b3, 1, none⟩ (.int .i64 v6) fun w8 =>
 ∃ (v9 : Int), w8.cell? ⟨b3, 0, none⟩ = some (.int .i64 v9) ∧
 ∃ (v10 : Int), w8.cell? ⟨b3, 1, none⟩ = some (.int .i64 v10) ∧
 R (.returned (.agg #[.int .i64 v9, .int .i64 v10])) w8

namespace g_Position_Pos
noncomputable def ac (R : EP) : AC :=
 (.leaf (sel [] body))
theorem good (R : EP) : Good P 4 (ac R) (QF P [.cell 2 90] R) :=
 trivial
theorem eq (R : EP) (x0_0 x0_1 : Int) (w : World) : g_Position_Pos R x0_0 x0_1 w = vcA P 4 (ac R) (QF P [.cell 2 90] R) (fr0 [.agg #[.int .i64 x0_0, .int .i64 x0_1]]) w := by kernel_rfl
theorem sound {R : EP} {x0_0 x0_1 : Int} {w : World} (h : g_Position_Pos R x0_0 x0_1 w) : callE P i_Position_Pos #[.agg #[.int .i64 x0_0, .int .i64 x0_1]] R w :=
 callE_fz (c := body) Tryz.func291 Tryz.call291 (good R) (eq R x0_0 x0_1 w) h
end g_Position_Pos
end Go.Proofs.YtgbgadkldalkbaaGreatDoor

set_option linter.unusedVariables false
namespace Go.Proofs.YtgbgadkldalkbaaGreatDoor
open Go.Proofs Go.IntWalk
variable {σ : Out} {w : World} {L L' : List Chunk} {R : Ending → World → Prop}
def lnOf (s : List UInt8) (nl : UInt8 := 0) : Ln := ⟨0, 0, 0, s, nl⟩
theorem lnOf_ok {nl : UInt8} {s : List UInt8} (hs : s.length < 1000000000) : (lnOf s nl).ok := ⟨by simp [lnOf], by simp [lnOf], by simp [lnOf]; omega, by simp [lnOf]⟩
end Go.Proofs.YtgbgadkldalkbaaGreatDoor


set_option linter.unusedVariables false
namespace Go.Proofs.YtgbgadkldalkbaaGreatDoor
open Go.Proofs Go.IntWalk Go.RowKit
variable {σ : Out} {w : World} {L L' : List Chunk} {R : Ending → World → Prop}
structure TX where
 t : Nat
 s : Nat
 e : Nat
 raw : List UInt8
def TX.chunk (x : TX) : Chunk := textC x.t x.s x.e none 0 0 x.raw
structure DB where
 v : Value
 own : List Chunk
 txs : List TX
def ownC (D : List DB) : List Chunk := D.flatMap DB.own
def txsC (D : List DB) : List TX := D.flatMap DB.txs
theorem ownC_snoc (D : List DB) (d : DB) : ownC (D ++ [d]) = ownC D ++ d.own := by simp [ownC]
theorem txsC_snoc (D : List DB) (d : DB) : txsC (D ++ [d]) = txsC D ++ d.txs := by simp [txsC]
def paraOB (qb s e : Nat) : OB := ⟨.iface ty_P_paraBuilder (.pointer (some ⟨qb, 0, none⟩)), none, 0, 0, s, e⟩
end Go.Proofs.YtgbgadkldalkbaaGreatDoor


set_option linter.unusedVariables false
namespace Go.Proofs.YtgbgadkldalkbaaGreatDoor
open Go.Proofs Go.IntWalk Go.RowKit
variable {σ : Out} {w : World} {L L' : List Chunk} {R : Ending → World → Prop}
inductive Leaf where
 | none
 | para (ls : List (List UInt8))
 | other (A : List OB → List Chunk → Prop)
def LeafAt : Leaf → List OB → List Chunk → Prop
 | .none, ob, M => ob = [] ∧ M = []
 | .para ls, ob, M => ∃ qb s e, ob = [paraOB qb s e] ∧ ParaAt qb ls M ∧ s < 1000000000 ∧ ls ≠ [] ∧ ls.length < 1048570
 | .other A, ob, M => A ob M
def rootV (rb : Nat) : Value := .iface ty_P_rootBuilder (.pointer (some ⟨rb, 0, none⟩))
def PS.base (p : PS) : PS := { p with lineno := 0, stq := none, stn := 0, stc := 0, depth := 0, corner := false, tq := none, tn := 0, tc := 0 }
theorem lineFields : (P.fieldsOf ty_line).toList.map (fun f => (f.name == "_", f.type, f.offset)) = [(false, ty_int, 0), (false, ty_int, 1), (false, ty_int, 2), (false, ty_string, 3), (false, ty_uint8, 4)] := by kernel_rfl
theorem und_int : P.underlying ty_int = some (.int .i64) := by kernel_rfl
theorem und_u8 : P.underlying ty_uint8 = some (.int .u8) := by kernel_rfl
theorem und_str : P.underlying ty_string = some .string := by kernel_rfl
theorem part_line {t : TypeId} {d : TypeDesc} (hd : P.underlying t = some d) (h1 : ∀ f, d ≠ .struct f) (h2 : ∀ n e, d ≠ .array n e) {cs : Array Value} {k : Nat} {v : Value} (hv : cs[k]? = some v) (w : World) : (part t cs k).run P w = .ok v w := by
 cases d <;> first | exact absurd rfl (h1 _) | exact absurd rfl (h2 _ _) | simp [part, isAgg, run_underlying hd, hv]
end Go.Proofs.YtgbgadkldalkbaaGreatDoor


set_option linter.unusedVariables false
namespace Go.Proofs.YtgbgadkldalkbaaGreatDoor
open Go.Proofs Go.IntWalk Go.RowKit
variable {σ : Out} {w : World} {L L' : List Chunk} {R : Ending → World → Prop}
theorem news_rounds {Xb : OA → Nat → WP} {Y : OA → Nat → OA → Nat → Nat → Int → Int → WP} {b b1 nb : Nat} {e : TypeId} {p : PS} {M : List Chunk} {l : Ln}
 (hY : ∀ x0 x3 x86q x86n x86c x87 x88 w, g_parseState_addLine.bl2 R Xb Y x0 x3 x86q x86n x86c x87 x88 w → Y x0 x3 x86q x86n x86c x87 x88 w) (i : Nat) :
 ∀ (k : Nat) w, i ≤ 8 → k ≤ i → (∀ j (hj : j < newsF.length), k ≤ j → j < i → Decl b p M l newsF[j]) → Sat σ w (p.at b :: M ++ (l.at b1 :: (nb, cel newsC e) :: L)) →
  (∀ w, Sat σ w (p.at b :: M ++ (l.at b1 :: (nb, cel newsC e) :: L)) → Y (some ⟨b, 0, none⟩) b1 (some ⟨nb, 0, none⟩) 8 8 8 (i : Nat) w) → Y (some ⟨b, 0, none⟩) b1 (some ⟨nb, 0, none⟩) 8 8 8 (k : Nat) w := by
 intro k
 generalize hm : i - k = m
 induction m generalizing k with
 | zero =>
  intro w hi hk hd h hE
  obtain rfl : k = i := by omega
  exact hE w h
 | succ m ih =>
  intro w hi hk hd h hE
  refine hY _ _ _ _ _ _ _ _ (br_true (by simp; omega) ⟨by omega, by omega, ?_⟩)
  have hl : k < newsF.length := by show k < 8; omega
  have hf := List.getElem?_eq_getElem hl
  refine nilP_some ?_
  simp only [Addr.add_lit, Nat.zero_add, Int.toNat_natCast, Nat.mul_one]
  have h : Sat σ w (l.at b1 :: (nb, cel newsC e) :: (p.at b :: (M ++ L))) := h.re
  refine ⟨_, Sat.ld h (.tail _ (.head _)) (newsC_get hf), ?_⟩
  refine ⟨_, Sat.ld h (.head _) rfl, _, Sat.ld h (.head _) rfl, _, Sat.ld h (.head _) rfl, _, Sat.ld h (.head _) rfl, _, Sat.ld h (.head _) rfl, ?_⟩
  have h : Sat σ w (p.at b :: M ++ (l.at b1 :: (nb, cel newsC e) :: L)) := h.re
  refine enter_fn ?_
  refine hd k hl (Nat.le_refl _) (by omega) σ w _ _ h fun w h => ⟨_, _, _, _, _, _, rfl, ?_⟩
  repeat (first | refine nilP_some ?_ | refine h.tk fun w h => ?_ | refine ⟨_, h.ldA, ?_⟩ | refine ⟨_, _, _, h.ldA, ?_⟩ | refine h.stA 0 fun w h => ?_ | refine h.stA 1 fun w h => ?_ | refine h.stA 2 fun w h => ?_ | refine h.stA 3 fun w h => ?_ | refine h.stA 4 fun w h => ?_ | refine h.stA 5 fun w h => ?_ | refine h.stA 6 fun w h => ?_ | refine h.bx fun b0 w h => ?_)
  rw [i64_inc (by omega)]
  have h : Sat σ _ (l.at b0 :: (p.at b :: M ++ (l.at b1 :: (nb, cel newsC e) :: L))) := h
  exact ih (k + 1) (by omega) _ hi (by omega) (fun j hj h1 h2 => hd j hj (by omega) h2) h.tail hE
theorem bl102_take {Xb : OA → Nat → WP} {b b1 : Nat} {p : PS} {M : List Chunk} {l : Ln} (i : Nat) (hi : i < newsF.length) (h : Sat σ w (p.at b :: M ++ (l.at b1 :: L))) (hd : ∀ j (hj : j < newsF.length), j < i → Decl b p M l newsF[j])
 (hP : ∀ w nb e (R' : Ending → World → Prop), Sat σ w (p.at b :: M ++ (l.at b1 :: (nb, cel newsC e) :: L)) →
  (∀ w L2, Sat σ w (l.at b1 :: L2) → (∀ w, Sat σ w L2 → R (.returned (.tuple #[])) w) → R' (.returned (.tuple #[Ln.zero.val, .bool true])) w) → callE P newsF[i] #[.pointer (some ⟨b, 0, none⟩), l.val] R' w) :
 g_parseState_addLine.bl102 R Xb (some ⟨b, 0, none⟩) b1 w := by
 have hi8 : i < 8 := hi
 refine news_ok h fun w nb e h => ⟨_, _, _, rfl, ?_⟩
 intro Y hY
 have h : Sat σ w (p.at b :: M ++ (l.at b1 :: (nb, cel newsC e) :: L)) := h.re
 refine news_rounds hY i 0 w (by omega) (by omega) (fun j hj _ h2 => hd j hj h2) h fun w h => ?_
 refine hY _ _ _ _ _ _ _ _ (br_true (by simp; omega) ⟨by omega, by omega, ?_⟩)
 have hf := List.getElem?_eq_getElem hi
 refine nilP_some ?_
 simp only [Addr.add_lit, Nat.zero_add, Int.toNat_natCast, Nat.mul_one]
 have h : Sat σ w (l.at b1 :: (nb, cel newsC e) :: (p.at b :: (M ++ L))) := h.re
 refine ⟨_, Sat.ld h (.tail _ (.head _)) (newsC_get hf), ?_⟩
 refine ⟨_, Sat.ld h (.head _) rfl, _, Sat.ld h (.head _) rfl, _, Sat.ld h (.head _) rfl, _, Sat.ld h (.head _) rfl, _, Sat.ld h (.head _) rfl, ?_⟩
 have h : Sat σ w (p.at b :: M ++ (l.at b1 :: (nb, cel newsC e) :: L)) := h.re
 refine enter_fn ?_
 refine hP w nb e _ h fun w L2 h hR => ⟨_, _, _, _, _, _, rfl, ?_⟩
 refine Sat.bx h fun b85 w h => ?_
 refine h.stA 0 fun w h => ?_
 refine h.stA 0 fun w h => ?_
 refine h.stA 0 fun w h => ?_
 refine h.stA 0 fun w h => ?_
 refine h.stA 0 fun w h => ?_
 have h : Sat σ w (Ln.zero.at b85 :: l.at b1 :: L2) := h
 refine br_true rfl ?_
 refine ⟨_, h.ldA, ?_⟩
 refine ⟨_, h.ldA, ?_⟩
 refine ⟨_, h.ldA, ?_⟩
 refine ⟨_, h.ldA, ?_⟩
 refine ⟨_, h.ldA, ?_⟩
 refine h.stA 1 fun w h => ?_
 refine h.stA 1 fun w h => ?_
 refine h.stA 1 fun w h => ?_
 refine h.stA 1 fun w h => ?_
 refine h.stA 1 fun w h => ?_
 have h : Sat σ w (Ln.zero.at b85 :: Ln.zero.at b1 :: L2) := h
 refine isBlank_ok (l := Ln.zero) h (.tail _ (.head _)) ⟨by decide, by decide, by decide, by decide⟩ fun w h => ⟨_, rfl, ?_⟩
 exact br_true rfl (hR _ h.tail.tail)
end Go.Proofs.YtgbgadkldalkbaaGreatDoor


set_option linter.unusedVariables false
namespace Go.Proofs.YtgbgadkldalkbaaGreatDoor
open Go.Proofs Go.IntWalk Go.RowKit
variable {σ : Out} {w : World} {L L' : List Chunk} {R : Ending → World → Prop}
def PS.core (p : PS) : PS := { p with em := 0, lq := none, ln := 0, lc := 0, corner := false, bt := [] }
def sub (s : List UInt8) (i j : Nat) : List UInt8 := (s.take j).drop i
def isFuncB (P : Program) (t : TypeId) : Bool := match P.underlying t with | some (.func _ _ _) => true | _ => false
theorem isFunc_out {P : Program} {t : TypeId} (h : isFuncB P t = true) : ∃ ps rs vr, P.underlying t = some (.func ps rs vr) := by
 unfold isFuncB at h
 split at h
 ·rename_i a b c hd; exact ⟨_, _, _, hd⟩
 ·cases h
end Go.Proofs.YtgbgadkldalkbaaGreatDoor


set_option linter.unusedVariables false
namespace Go.Proofs.YtgbgadkldalkbaaGreatDoor
open Go.Proofs Go.IntWalk Go.RowKit
variable {σ : Out} {w : World} {L L' : List Chunk} {R : Ending → World → Prop}
def PS.coreS (p : PS) : PS := ({ p with s := [] } : PS).core
def PS0 (pz : Option Addr) : PS := ⟨pz, none, none, 0, none, 0, 0, 0, false, [], 0, none, 0, 0, none, 0, 0, none, 0, 0, List.replicate 80 (.int .i64 0) ++ [.bool false]⟩
end Go.Proofs.YtgbgadkldalkbaaGreatDoor


set_option linter.unusedVariables false
set_option maxRecDepth 20000
namespace Go.Proofs.YtgbgadkldalkbaaGreatDoor
open Go.Proofs
namespace g_impl_parser
noncomputable def body : Code := bodyOf Tryz.f24
end g_impl_parser
def g_impl_parser (R : EP) (x0_0 x0_1 : Bool) (x0_2 x0_3 : Bool) (x0_4 x0_5 : Bool) (x0_6 x0_7 : Bool) (x0_8 x0_9 : Bool) (w : World) : Prop :=
 box w #[.bool x0_0, .bool x0_1, .bool x0_2, .bool x0_3, .bool x0_4, .bool x0_5, .bool x0_6, .bool x0_7, .bool x0_8, .bool x0_9] ty_impl_Options fun b1 w2 =>
 ∃ (v3 : Bool), w2.cell? ⟨b1, 8, none⟩ = some (.bool v3) ∧
 ∃ (v4 : Bool), w2.cell? ⟨b1, 0, none⟩ = some (.bool v4) ∧
 ∃ (v5 : Bool), w2.cell? ⟨b1, 1, none⟩ = some (.bool v5) ∧
 ∃ (v6 : Bool), w2.cell? ⟨b1, 2, none⟩ = some (.bool v6) ∧
 ∃ (v7 : Bool), w2.cell? ⟨b1, 3, none⟩ = some (.bool v7) ∧
 ∃ (v8 : Bool), w2.cell? ⟨b1, 4, none⟩ = some (.bool v8) ∧
 ∃ (v9 : Bool), w2.cell? ⟨b1, 9, none⟩ = some (.bool v9) ∧
 ∃ (v10 : Bool), w2.cell? ⟨b1, 5, none⟩ = some (.bool v10) ∧
 ∃ (v11 : Bool), w2.cell? ⟨b1, 6, none⟩ = some (.bool v11) ∧
 ∃ (v12 : Bool), w2.cell? ⟨b1, 7, none⟩ = some (.bool v12) ∧
 box w2 #[.bool v3, .bool v4, .bool v5, .bool v6, .bool v7, .bool v8, .bool v9, .bool v10, .bool v11, .bool v12] ty_Parser fun b13 w14 =>
 R (.returned (.pointer (some ⟨b13, 0, none⟩))) w14

namespace g_impl_parser
noncomputable def ac (R : EP) : AC :=
 (.leaf (sel [] body))
theorem good (R : EP) : Good P 25 (ac R) (QF P [.tmp 2] R) :=
 trivial
theorem eq (R : EP) (x0_0 x0_1 : Bool) (x0_2 x0_3 : Bool) (x0_4 x0_5 : Bool) (x0_6 x0_7 : Bool) (x0_8 x0_9 : Bool) (w : World) : g_impl_parser R x0_0 x0_1 x0_2 x0_3 x0_4 x0_5 x0_6 x0_7 x0_8 x0_9 w = vcA P 25 (ac R) (QF P [.tmp 2] R) (fr0 [.agg #[.bool x0_0, .bool x0_1, .bool x0_2, .bool x0_3, .bool x0_4, .bool x0_5, .bool x0_6, .bool x0_7, .bool x0_8, .bool x0_9]]) w := by kernel_rfl
theorem sound {R : EP} {x0_0 x0_1 : Bool} {x0_2 x0_3 : Bool} {x0_4 x0_5 : Bool} {x0_6 x0_7 : Bool} {x0_8 x0_9 : Bool} {w : World} (h : g_impl_parser R x0_0 x0_1 x0_2 x0_3 x0_4 x0_5 x0_6 x0_7 x0_8 x0_9 w) : callE P i_impl_parser #[.agg #[.bool x0_0, .bool x0_1, .bool x0_2, .bool x0_3, .bool x0_4, .bool x0_5, .bool x0_6, .bool x0_7, .bool x0_8, .bool x0_9]] R w :=
 callE_fz (c := body) Tryz.func24 Tryz.call24 (good R) (eq R x0_0 x0_1 x0_2 x0_3 x0_4 x0_5 x0_6 x0_7 x0_8 x0_9 w) h
end g_impl_parser
end Go.Proofs.YtgbgadkldalkbaaGreatDoor

set_option linter.unusedVariables false
namespace Go.Proofs.YtgbgadkldalkbaaGreatDoor
open Go.Proofs Go.IntWalk Go.RowKit
variable {σ : Out} {w : World} {L L' : List Chunk} {R : Ending → World → Prop}
def optV (o : Opt) : Value := .agg #[.bool o.strike, .bool o.task, .bool o.auto, .bool o.http, .bool o.table, .bool o.dot, .bool o.dash, .bool o.quote, .bool o.ids, .bool o.emoji]
theorem parser_ok {o : Opt} (h : Sat σ w L) (hR : ∀ w pb, Sat σ w (o.at pb :: L) → R (.returned (.pointer (some ⟨pb, 0, none⟩))) w) : callE P i_impl_parser #[optV o] R w := by
 refine g_impl_parser.sound ?_
 refine Sat.bx h fun b w h => ?_
 have ld : ∀ (k : Nat) (v : Bool), ([Value.bool o.strike, .bool o.task, .bool o.auto, .bool o.http, .bool o.table, .bool o.dot, .bool o.dash, .bool o.quote, .bool o.ids, .bool o.emoji])[k]? = some (.bool v) → w.cell? ⟨b, k, none⟩ = some (.bool v) := fun k v hv => Sat.ld h (.head _) hv
 refine ⟨_, ld 8 _ rfl, _, ld 0 _ rfl, _, ld 1 _ rfl, _, ld 2 _ rfl, _, ld 3 _ rfl, _, ld 4 _ rfl, _, ld 9 _ rfl, _, ld 5 _ rfl, _, ld 6 _ rfl, _, ld 7 _ rfl, ?_⟩
 refine Sat.bx h fun pb w h => hR w pb ?_
 have h : Sat σ w (o.at pb :: (b, cel [Value.bool o.strike, .bool o.task, .bool o.auto, .bool o.http, .bool o.table, .bool o.dot, .bool o.dash, .bool o.quote, .bool o.ids, .bool o.emoji] ty_impl_Options) :: L) := h
 exact (h.less [(b, cel [Value.bool o.strike, .bool o.task, .bool o.auto, .bool o.http, .bool o.table, .bool o.dot, .bool o.dash, .bool o.quote, .bool o.ids, .bool o.emoji] ty_impl_Options)])
theorem bs_of (b : ByteArray) : b = bs b.data.toList := by
 cases b; rfl
end Go.Proofs.YtgbgadkldalkbaaGreatDoor


set_option linter.unusedVariables false
namespace Go.Proofs.YtgbgadkldalkbaaGreatDoor
open Go.Proofs Go.IntWalk Go.RowKit
variable {σ : Out} {w : World} {L L' : List Chunk} {R : Ending → World → Prop}
structure TF where
 q : Option Addr
 n : Nat
 c : Nat
 vs : List Value
 RM : List Chunk
 KM : List Chunk
 KM' : List Chunk
 f : List UInt8 → List UInt8
def fill (x : TX) (t : TF) : List Chunk := textC x.t x.s x.e t.q t.n t.c x.raw :: (t.RM ++ t.KM)
end Go.Proofs.YtgbgadkldalkbaaGreatDoor


set_option linter.unusedVariables false
namespace Go.Proofs.YtgbgadkldalkbaaGreatDoor
open Go.Proofs Go.IntWalk Go.RowKit
variable {σ : Out} {w : World} {L L' : List Chunk} {R : Ending → World → Prop}
def methVB (P : Program) (t : TypeId) (name : String) (f : FuncId) : Bool :=
 match P.info? t with
 | some i => match i.methods.find? (·.name == name) with
  | some m => match m.path.toList with
   | [s] => s.deref && (match P.underlying s.struct with
    | some (.struct fields) => match fields[s.index]? with
     | some fd => Nat.beq fd.offset 0 && (match P.info? fd.type with
      | some ti => Nat.beq ti.size 2 && (match P.underlying fd.type with
       | some (.struct _) => (match m.func with | some (g, false) => Nat.beq g f | _ => false)
       | _ => false)
      | none => false)
     | none => false
    | _ => false)
   | _ => false
  | none => false
 | none => false
theorem methVB_run {P : Program} {t : TypeId} {name : String} {f : FuncId} (h : methVB P t name f = true) (b : Nat) (fuel : Nat) (w : World) {x y : Value} (hx : w.cell? ⟨b, 0, none⟩ = some x) (hy : w.cell? ⟨b, 1, none⟩ = some y) :
 (Go.method (fuel + 1) t (.pointer (some ⟨b, 0, none⟩)) name).run P w = .ok (f, .agg #[x, y]) w := by
 have hld : (loadCells ⟨b, 0, none⟩ 2).run P w = .ok #[x, y] w := by
  refine run_loadCells_list (P := P) (w := w) ⟨b, 0, none⟩ [x, y] ?_
  intro j v hj
  match j, hj with
  | 0, hj => cases hj; simpa [Addr.add] using hx
  | 1, hj => cases hj; simpa [Addr.add] using hy
 unfold methVB at h
 split at h
 ·rename_i i hi
  split at h
  ·rename_i m hm
   split at h
   ·rename_i s hp
    simp only [Bool.and_eq_true] at h
    obtain ⟨hd, h⟩ := h
    split at h
    ·rename_i fields hu
     split at h
     ·rename_i fd hf
      simp only [Bool.and_eq_true] at h
      obtain ⟨h0, h⟩ := h
      have h0 := Nat.eq_of_beq_eq_true h0
      split at h
      ·rename_i ti hti
       simp only [Bool.and_eq_true] at h
       obtain ⟨hsz, h⟩ := h
       have hsz := Nat.eq_of_beq_eq_true hsz
       split at h
       ·rename_i fs hfu
        split at h
        ·rename_i g hg
         have hgf := Nat.eq_of_beq_eq_true h
         subst hgf
         simp [Go.method, typeInfo, hi, hm, hp, Go.follow, run_underlying hu, hf, hd, Go.Place.get, asAddr, Go.fieldPlace, sizeOf, hti, hsz, h0, hg, Go.receiverAt, run_underlying hfu, Addr.add_lit, loadVar, isAgg, hld]
        ·cases h
       ·cases h
      ·cases h
     ·cases h
    ·cases h
   ·cases h
  ·cases h
 ·cases h
theorem enter_methV {t : TypeId} {name : String} {f : FuncId} {b : Nat} {args : Array Value} {x y : Value} (hm : methVB P t name f = true) (hx : w.cell? ⟨b, 0, none⟩ = some x) (hy : w.cell? ⟨b, 1, none⟩ = some y) (h : callE P f (#[.agg #[x, y]] ++ args) R w) :
 enterE P (callMethod (.iface t (.pointer (some ⟨b, 0, none⟩))) name args) R w := by
 obtain ⟨n, hn⟩ := depth_succ P
 have hr := methVB_run hm b n w hx hy
 have e : (callMethod (.iface t (.pointer (some ⟨b, 0, none⟩))) name args).run P w = (callFunc f (#[.agg #[x, y]] ++ args)).run P w := by
  simp only [callMethod, Sem.run_bind, run_program, Result.andThen_ok, hn, hr]
 unfold enterE
 rw [e]
 exact h.imp (fun h => ⟨f, _, w, h.1 _ _, h.2⟩) id
theorem position_ok {s e : Int} (h : Sat σ w L) (hR : ∀ w, Sat σ w L → R (.returned (.agg #[.int .i64 s, .int .i64 e])) w) : callE P i_Position_Pos #[.agg #[.int .i64 s, .int .i64 e]] R w := by
 refine g_Position_Pos.sound ?_
 refine Sat.bx h fun b1 w h => ?_
 refine Sat.bx h fun b3 w h => ?_
 repeat (first | refine nilP_some ?_ | refine h.tk fun w h => ?_ | refine ⟨_, h.ldA, ?_⟩ | refine ⟨_, _, _, h.ldA, ?_⟩ | refine h.stA 0 fun w h => ?_ | refine h.stA 1 fun w h => ?_ | refine h.stA 2 fun w h => ?_ | refine h.stA 3 fun w h => ?_ | refine h.stA 4 fun w h => ?_ | refine h.stA 5 fun w h => ?_ | refine h.stA 6 fun w h => ?_ | refine h.bx fun b0 w h => ?_)
 exact hR _ h.tail.tail
def DB.posIs (d : DB) (s e : Nat) : Prop :=
 ∀ (σ : Out) (R : Ending → World → Prop) (L : List Chunk) (w : World), (∀ c ∈ d.own, c ∈ L) → Sat σ w L → (∀ w, Sat σ w L → R (.returned (.agg #[.int .i64 s, .int .i64 e])) w) → enterE P (callMethod d.v "Pos" #[]) R w
theorem posIs_of {t : TypeId} {b s e : Nat} {cs : List Value} {ty : TypeId} {d : DB} (hm : methVB P t "Pos" i_Position_Pos = true) (hv : d.v = .iface t (.pointer (some ⟨b, 0, none⟩))) (ho : (b, cel (.int .i64 s :: .int .i64 e :: cs) ty) ∈ d.own) : d.posIs s e := by
 intro σ R L w hL h hR
 rw [hv]
 have hmem := hL _ ho
 exact enter_methV hm (Sat.ld h hmem (i := 0) rfl) (Sat.ld h hmem (i := 1) rfl) (position_ok h hR)
end Go.Proofs.YtgbgadkldalkbaaGreatDoor


set_option linter.unusedVariables false
set_option maxRecDepth 20000
namespace Go.Proofs.YtgbgadkldalkbaaGreatDoor
open Go.Proofs
namespace g_htmlBuilder_build
noncomputable def body : Code := bodyOf Tryz.f407
end g_htmlBuilder_build
def g_htmlBuilder_build (R : EP) (x0 : OA) (x1 : Value) (w : World) : Prop :=
 tk w fun w1 =>
 nilP x0 fun a2 =>
 ∃ (v3q : OA), ∃ (v3n : Nat), ∃ (v3c : Nat), w1.cell? (a2.add 1) = some (.slice v3q v3n v3c) ∧
 enterE P (callMethod x1 "pub-paratext/pub/rscmarkdown.pos" #[]) (fun e w5 => ∃ (r4_0 : Int), ∃ (r4_1 : Int), e = .returned (.agg #[.int .i64 r4_0, .int .i64 r4_1]) ∧
 SameC w1 w5 (a2.add 1) 1 ∧
 box w5 #[.int .i64 r4_0, .int .i64 r4_1, .slice v3q v3n v3c] ty_HTMLBlock fun b6 w7 =>
 R (.returned (.iface ty_P_HTMLBlock (.pointer (some ⟨b6, 0, none⟩)))) w7) w1

namespace g_htmlBuilder_build
noncomputable def ac (R : EP) : AC :=
 (.seq (.leaf (sel [0] body)) (.seq (.draw (.pure 0 (.pure 2 (.pure 3 (.pure 4 (.load 5 (.one 1 (.pure 6 (.one 7 (.pure 8 (.pure 9 .done)))))))))) (sel [1,0] body)) (.leaf (sel [1,1] body))))
theorem good (R : EP) : Good P 14 (ac R) (QF P [.tmp 4] R) :=
 ⟨trivial, ⟨⟨by kernel_rfl, by kernel_rfl, fun _ _ _ h => h⟩, trivial⟩⟩
theorem eq (R : EP) (x0 : OA) (x1 : Value) (w : World) : g_htmlBuilder_build R x0 x1 w = vcA P 14 (ac R) (QF P [.tmp 4] R) (fr0 [.pointer x0, x1]) w := by kernel_rfl
theorem sound {R : EP} {x0 : OA} {x1 : Value} {w : World} (h : g_htmlBuilder_build R x0 x1 w) : callE P i_htmlBuilder_build #[.pointer x0, x1] R w :=
 callE_fz (c := body) Tryz.func407 Tryz.call407 (good R) (eq R x0 x1 w) h
end g_htmlBuilder_build
namespace g_htmlBuilder_extend
noncomputable def body : Code := bodyOf Tryz.f408
def k1 (R : EP) (x0 : OA) (x5 x6 : Nat) (w : World) : Prop :=
 callE P i_line_string #[.pointer (some ⟨x5, 0, none⟩)] (fun e w25 => ∃ (r24 : BA), e = .returned (.string r24) ∧
 nilP x0 fun a26 =>
 ∃ (v27q : OA), ∃ (v27n : Nat), ∃ (v27c : Nat), w25.cell? (a26.add 1) = some (.slice v27q v27n v27c) ∧
 ∃ (r28q : OA), ∃ (r28n : Nat), ∃ (r28c : Nat), ∃ w29, (Instr.buildSlice ty_S_string 1 #[(0, .string r24)]).run P w25 = .ok (.slice r28q r28n r28c) w29 ∧
 ∃ (r30q : OA), ∃ (r30n : Nat), ∃ (r30c : Nat), ∃ w31, (Builtin.append_ #[ty_S_string, ty_S_string] ty_S_string #[.slice v27q v27n v27c, .slice r28q r28n r28c]).run P w29 = .ok (.slice r30q r30n r30c) w31 ∧
 nilP x0 fun a32 =>
 stV w31 ((a32.add 1).add 0) (.slice r30q r30n r30c) fun w33 =>
 nilP x0 fun a34 =>
 ∃ (v35 : Value), w33.cell? (a34.add 2) = some v35 ∧
 ∃ (r36 : Bool), ∃ w37, (do eqGuard .neq ty_func_string_bool (.tmp 31) (.const .nilFunc) v35 .nilFunc; binOp .neq ty_func_string_bool v35 .nilFunc).run P w33 = .ok (.bool r36) w37 ∧
 br r36
 (nilP x0 fun a38 =>
 ∃ (v39 : Value), w37.cell? (a38.add 2) = some v39 ∧
 enterE P (do let d ← Deferred.ofValue v39 #[.string r24]; invoke d.target d.args) (fun e w41 => ∃ (r40 : Bool), e = .returned (.bool r40) ∧
 br r40
 (stV w41 ⟨x6, 0, none⟩ (.int .i64 0) fun w42 =>
 stV w42 ⟨x6, 1, none⟩ (.int .i64 0) fun w43 =>
 stV w43 ⟨x6, 2, none⟩ (.int .i64 0) fun w44 =>
 stV w44 ⟨x6, 3, none⟩ (.string (ByteArray.mk #[])) fun w45 =>
 stV w45 ⟨x6, 4, none⟩ (.int .u8 0) fun w46 =>
 ∃ (v47 : Int), w46.cell? ⟨x6, 0, none⟩ = some (.int .i64 v47) ∧
 ∃ (v48 : Int), w46.cell? ⟨x6, 1, none⟩ = some (.int .i64 v48) ∧
 ∃ (v49 : Int), w46.cell? ⟨x6, 2, none⟩ = some (.int .i64 v49) ∧
 ∃ (v50 : BA), w46.cell? ⟨x6, 3, none⟩ = some (.string v50) ∧
 ∃ (v51 : Int), w46.cell? ⟨x6, 4, none⟩ = some (.int .u8 v51) ∧
 R (.returned (.tuple #[.agg #[.int .i64 v47, .int .i64 v48, .int .i64 v49, .string v50, .int .u8 v51], .bool false])) w46)
 (stV w41 ⟨x6, 0, none⟩ (.int .i64 0) fun w52 =>
 stV w52 ⟨x6, 1, none⟩ (.int .i64 0) fun w53 =>
 stV w53 ⟨x6, 2, none⟩ (.int .i64 0) fun w54 =>
 stV w54 ⟨x6, 3, none⟩ (.string (ByteArray.mk #[])) fun w55 =>
 stV w55 ⟨x6, 4, none⟩ (.int .u8 0) fun w56 =>
 ∃ (v57 : Int), w56.cell? ⟨x6, 0, none⟩ = some (.int .i64 v57) ∧
 ∃ (v58 : Int), w56.cell? ⟨x6, 1, none⟩ = some (.int .i64 v58) ∧
 ∃ (v59 : Int), w56.cell? ⟨x6, 2, none⟩ = some (.int .i64 v59) ∧
 ∃ (v60 : BA), w56.cell? ⟨x6, 3, none⟩ = some (.string v60) ∧
 ∃ (v61 : Int), w56.cell? ⟨x6, 4, none⟩ = some (.int .u8 v61) ∧
 R (.returned (.tuple #[.agg #[.int .i64 v57, .int .i64 v58, .int .i64 v59, .string v60, .int .u8 v61], .bool true])) w56)) w37)
 (stV w37 ⟨x6, 0, none⟩ (.int .i64 0) fun w62 =>
 stV w62 ⟨x6, 1, none⟩ (.int .i64 0) fun w63 =>
 stV w63 ⟨x6, 2, none⟩ (.int .i64 0) fun w64 =>
 stV w64 ⟨x6, 3, none⟩ (.string (ByteArray.mk #[])) fun w65 =>
 stV w65 ⟨x6, 4, none⟩ (.int .u8 0) fun w66 =>
 ∃ (v67 : Int), w66.cell? ⟨x6, 0, none⟩ = some (.int .i64 v67) ∧
 ∃ (v68 : Int), w66.cell? ⟨x6, 1, none⟩ = some (.int .i64 v68) ∧
 ∃ (v69 : Int), w66.cell? ⟨x6, 2, none⟩ = some (.int .i64 v69) ∧
 ∃ (v70 : BA), w66.cell? ⟨x6, 3, none⟩ = some (.string v70) ∧
 ∃ (v71 : Int), w66.cell? ⟨x6, 4, none⟩ = some (.int .u8 v71) ∧
 R (.returned (.tuple #[.agg #[.int .i64 v67, .int .i64 v68, .int .i64 v69, .string v70, .int .u8 v71], .bool true])) w66)) w

end g_htmlBuilder_extend
def g_htmlBuilder_extend (R : EP) (x0 x1 : OA) (x2_0 x2_1 x2_2 : Int) (x2_3 : BA) (x2_4 : Int) (w : World) : Prop :=
 box w #[.int .i64 x2_0, .int .i64 x2_1, .int .i64 x2_2, .string x2_3, .int .u8 x2_4] ty_line fun b1 w2 =>
 box w2 #[.int .i64 0, .int .i64 0, .int .i64 0, .string (ByteArray.mk #[]), .int .u8 0] ty_line fun b3 w4 =>
 nilP x0 fun a5 =>
 ∃ (v6 : Bool), w4.cell? a5 = some (.bool v6) ∧
 br v6
 (callE P i_line_isBlank #[.pointer (some ⟨b1, 0, none⟩)] (fun e w8 => ∃ (r7 : Bool), e = .returned (.bool r7) ∧
 br r7
 (∃ (v9 : Int), w8.cell? ⟨b1, 0, none⟩ = some (.int .i64 v9) ∧
 ∃ (v10 : Int), w8.cell? ⟨b1, 1, none⟩ = some (.int .i64 v10) ∧
 ∃ (v11 : Int), w8.cell? ⟨b1, 2, none⟩ = some (.int .i64 v11) ∧
 ∃ (v12 : BA), w8.cell? ⟨b1, 3, none⟩ = some (.string v12) ∧
 ∃ (v13 : Int), w8.cell? ⟨b1, 4, none⟩ = some (.int .u8 v13) ∧
 stV w8 ⟨b3, 0, none⟩ (.int .i64 v9) fun w14 =>
 stV w14 ⟨b3, 1, none⟩ (.int .i64 v10) fun w15 =>
 stV w15 ⟨b3, 2, none⟩ (.int .i64 v11) fun w16 =>
 stV w16 ⟨b3, 3, none⟩ (.string v12) fun w17 =>
 stV w17 ⟨b3, 4, none⟩ (.int .u8 v13) fun w18 =>
 ∃ (v19 : Int), w18.cell? ⟨b3, 0, none⟩ = some (.int .i64 v19) ∧
 ∃ (v20 : Int), w18.cell? ⟨b3, 1, none⟩ = some (.int .i64 v20) ∧
 ∃ (v21 : Int), w18.cell? ⟨b3, 2, none⟩ = some (.int .i64 v21) ∧
 ∃ (v22 : BA), w18.cell? ⟨b3, 3, none⟩ = some (.string v22) ∧
 ∃ (v23 : Int), w18.cell? ⟨b3, 4, none⟩ = some (.int .u8 v23) ∧
 R (.returned (.tuple #[.agg #[.int .i64 v19, .int .i64 v20, .int .i64 v21, .string v22, .int .u8 v23], .bool false])) w18)
 (g_htmlBuilder_extend.k1 R x0 b1 b3 w8)) w4)
 (g_htmlBuilder_extend.k1 R x0 b1 b3 w4)

namespace g_htmlBuilder_extend
noncomputable def ac (R : EP) : AC :=
 (.seq (.leaf (sel [0] body)) (.seq (.leaf (sel [1,0] body)) (.mark (leaf [(0, .s .ptr), (5, .s .loc), (6, .s .loc)] (k1 R)) (.leaf (sel [1,1] body)))))
theorem good (R : EP) : Good P 43 (ac R) (QF P [.cell 6 159, .tmp 7] R) :=
 ⟨trivial, ⟨trivial, ⟨trivial, cutZ⟩⟩⟩
theorem eq (R : EP) (x0 x1 : OA) (x2_0 x2_1 x2_2 : Int) (x2_3 : BA) (x2_4 : Int) (w : World) : g_htmlBuilder_extend R x0 x1 x2_0 x2_1 x2_2 x2_3 x2_4 w = vcA P 43 (ac R) (QF P [.cell 6 159, .tmp 7] R) (fr0 [.pointer x0, .pointer x1, .agg #[.int .i64 x2_0, .int .i64 x2_1, .int .i64 x2_2, .string x2_3, .int .u8 x2_4]]) w := by kernel_rfl
theorem sound {R : EP} {x0 x1 : OA} {x2_0 x2_1 x2_2 : Int} {x2_3 : ByteArray} {x2_4 : Int} {w : World} (h : g_htmlBuilder_extend R x0 x1 x2_0 x2_1 x2_2 x2_3 x2_4 w) : callE P i_htmlBuilder_extend #[.pointer x0, .pointer x1, .agg #[.int .i64 x2_0, .int .i64 x2_1, .int .i64 x2_2, .string x2_3, .int .u8 x2_4]] R w :=
 callE_fz (c := body) Tryz.func408 Tryz.call408 (good R) (eq R x0 x1 x2_0 x2_1 x2_2 x2_3 x2_4 w) h
end g_htmlBuilder_extend
namespace g_parseState_startHTML_1
noncomputable def body : Code := bodyOf Tryz.f232
end g_parseState_startHTML_1
def g_parseState_startHTML_1 (R : EP) (x0 : BA) (x1 : Nat) (w : World) : Prop :=
 ∃ (v1 : BA), w.cell? ⟨x1, 0, none⟩ = some (.string v1) ∧
 callE P i_zzContains #[.string x0, .string v1] (fun e w3 => ∃ (r2 : Bool), e = .returned (.bool r2) ∧
 R (.returned (.bool r2)) w3) w

namespace g_parseState_startHTML_1
noncomputable def ac (R : EP) : AC :=
 (.leaf (sel [] body))
theorem good (R : EP) : Good P 7 (ac R) (QF P [.tmp 3] R) :=
 trivial
theorem eq (R : EP) (x0 : BA) (x1 : Nat) (w : World) : g_parseState_startHTML_1 R x0 x1 w = vcA P 7 (ac R) (QF P [.tmp 3] R) (fr0 [.string x0, .pointer (some ⟨x1, 0, none⟩)]) w := by kernel_rfl
theorem sound {R : EP} {x0 : ByteArray} {x1 : Nat} {w : World} (h : g_parseState_startHTML_1 R x0 x1 w) : callE P i_parseState_startHTML_1 #[.string x0, .pointer (some ⟨x1, 0, none⟩)] R w :=
 callE_fz (c := body) Tryz.func232 Tryz.call232 (good R) (eq R x0 x1 w) h
end g_parseState_startHTML_1
end Go.Proofs.YtgbgadkldalkbaaGreatDoor

set_option linter.unusedVariables false
namespace Go.Proofs.YtgbgadkldalkbaaGreatDoor
open Go.Proofs Go.IntWalk Go.RowKit
variable {σ : Out} {w : World} {L L' : List Chunk} {R : Ending → World → Prop}
def htmC (hb : Nat) (q : Option Addr) (n c eb : Nat) : Chunk := (hb, cel [.bool false, .slice q n c, .func (.func i_parseState_startHTML_1) #[] #[.pointer (some ⟨eb, 0, none⟩)]] ty_htmlBuilder)
def HtmAt (hb : Nat) (en : List UInt8) (ls : List (List UInt8)) (M : List Chunk) : Prop :=
 ∃ q c SM eb, Sl 1 ty_string q ls.length c (sv ls) SM ∧ M = htmC hb q ls.length c eb :: (SM ++ [(eb, cel [.string (bs en)] ty_string)])
theorem und_fsb : isFuncB P ty_func_string_bool = true := by kernel_rfl
theorem endFn_ok {eb : Nat} {en t : List UInt8} (h : Sat σ w L) (hm : (eb, cel [.string (bs en)] ty_string) ∈ L) (ht : t.length < 4611686018427387904) (hen : en.length < 4611686018427387904) (hR : R (.returned (.bool (idx t en).isSome)) w) :
 enterE P (do let d ← Deferred.ofValue (.func (.func i_parseState_startHTML_1) #[] #[.pointer (some ⟨eb, 0, none⟩)]) #[.string (bs t)]; invoke d.target d.args) R w := by
 refine enter_fn ?_
 refine g_parseState_startHTML_1.sound ?_
 exact ⟨_, Sat.ld h hm rfl, zzContains_ok ht hen ⟨_, rfl, hR⟩⟩
theorem meth_htmExtend : methB P ty_P_htmlBuilder "pub-paratext/pub/rscmarkdown.extend" i_htmlBuilder_extend = true := by kernel_rfl
theorem meth_htmBuild : methB P ty_P_htmlBuilder "pub-paratext/pub/rscmarkdown.build" i_htmlBuilder_build = true := by kernel_rfl
def hblC (nb s e : Nat) (q : Option Addr) (n c : Nat) : Chunk := (nb, cel [.int .i64 s, .int .i64 e, .slice q n c] ty_HTMLBlock)
def rawOut (ls : List (List UInt8)) : List UInt8 := ls.flatMap fun l => l ++ [10]
end Go.Proofs.YtgbgadkldalkbaaGreatDoor


set_option linter.unusedVariables false
namespace Go.Proofs.YtgbgadkldalkbaaGreatDoor
open Go.Proofs Go.IntWalk Go.RowKit
variable {σ : Out} {w : World} {L L' : List Chunk} {R : Ending → World → Prop}
theorem rawOut_snoc (ls : List (List UInt8)) (l : List UInt8) : rawOut (ls ++ [l]) = rawOut ls ++ l ++ [10] := by unfold rawOut; simp
theorem ilines_ok {q : OA} {c : Nat} {ls : List (List UInt8)} {SM : List Chunk} (hS : Sl 1 ty_string q ls.length c (sv ls) SM) (h : Sat σ w (SM ++ L)) (hn : ls.length < 1048576) (hb : (rawOut ls).length < 1073741824) (hne : ls.head? ≠ some [])
 (hR : ∀ w, Sat σ w (SM ++ L) → R (.returned (.string (bs (rawOut ls)))) w) : callE P i_impl_lines #[.slice q ls.length c] R w := by
 refine g_impl_lines.sound ?_
 refine Sat.bx h fun b w h => ?_
 intro X hX
 have key : ∀ k j g M w, j + k = ls.length → (g = true ∨ j = 0) → Bld b g (rawOut (ls.take j)) M → Sat σ w (M ++ (SM ++ L)) → X b q ls.length c (ls.length : Int) (j : Int) w := by
  intro k
  induction k with
  | zero =>
   intro j g M w hj hg hB h
   rw [List.take_of_length_le (by omega)] at hB
   refine hX _ _ _ _ _ _ _ (br_false (by simp; omega) ?_)
   exact bldStr_ok hB h (by omega) fun w h => ⟨_, rfl, hR w h⟩
  | succ k ih =>
   intro j g M w hj hg hB h
   have hjl : j < ls.length := by omega
   have hst : rawOut (ls.take (j + 1)) = rawOut (ls.take j) ++ ls[j] ++ [10] := by rw [List.take_succ_eq_append_getElem hjl, rawOut_snoc]
   have hle : (rawOut (ls.take (j + 1))).length ≤ (rawOut ls).length := by
    have : rawOut ls = rawOut (ls.take (j + 1)) ++ rawOut (ls.drop (j + 1)) := by unfold rawOut; rw [← List.flatMap_append, List.take_append_drop]
    rw [this, List.length_append]; omega
   rw [hst] at hle
   simp only [List.length_append, List.length_cons, List.length_nil] at hle
   have hS2 : Sat σ w (SM ++ (M ++ L)) := h.re
   refine hX _ _ _ _ _ _ _ (br_true (by simp; omega) ⟨by omega, by omega, ?_⟩)
   refine hS.loadAt hS2 (sv_get hjl) fun qb hq hc => ?_
   simp only [Addr.add_lit, Int.toNat_natCast, Nat.mul_one, Nat.zero_add]
   refine ⟨_, hc, ?_⟩
   have hne0 : ls[j] ≠ [] ∨ g = true := by
    rcases hg with hg | rfl
    ·exact .inr hg
    ·left
     intro he
     apply hne
     rw [List.head?_eq_getElem?, List.getElem?_eq_getElem hjl, he]
   refine bldS_ok (s := ls[j]) hB h hne0 (by omega) fun w M hB h => ⟨_, _, rfl, ?_⟩
   refine bldB_ok (k := 10) hB h (by simp only [List.length_append]; omega) fun w M hB h => ⟨_, rfl, ?_⟩
   rw [i64_inc (by omega)]
   refine ih (j + 1) true M w (by omega) (.inl rfl) ?_ h
   rw [hst]; exact hB
 exact key ls.length 0 false _ w (by omega) (.inr rfl) (bldNew b) h
theorem und_mapPL : ∃ k v, P.underlying ty_map_string_P_Link = some (.map k v) := ⟨ty_string, ty_P_Link, by kernel_rfl⟩
theorem Sat.alo (h : Sat σ w L) (o : Obj) : Sat σ (w.alloc o) ((w.heap.size, o) :: L) := by
 refine ⟨h.os, h.out, ?_, ?_⟩
 ·simp only [List.map_cons, List.nodup_cons]
  refine ⟨fun hm => ?_, h.nodup⟩
  obtain ⟨c, hc, he⟩ := List.mem_map.1 hm
  exact Nat.lt_irrefl _ (he ▸ h.lt hc)
 ·intro c hc
  cases hc with
  | head => exact (Array.getElem?_push_size ..).trans rfl
  | tail _ hc =>
   have := h.lt hc
   show (w.heap.push o)[c.1]? = some c.2
   rw [Array.getElem?_push_lt this, ← Array.getElem?_eq_getElem this]
   exact h.at_ _ hc
theorem run_range_nil (w : World) : (Instr.range ty_map_string_P_Link (.map none)).run P w = .ok (.pointer (some ⟨w.heap.size, 0, none⟩)) (w.alloc (.mapIter none 0 #[] 0)) := by
 obtain ⟨k, v, hu⟩ := und_mapPL
 unfold Instr.range
 rw [Sem.run_bind, run_underlying hu]
 rfl
theorem run_next_nil {b : Nat} {t : TypeId} (h : w.heap[b]? = some (.mapIter none 0 #[] 0)) : (Instr.next (.pointer (some ⟨b, 0, none⟩)) false t).run P w = .ok (.tuple #[.bool false]) w := by
 have hg : (getObj b).run P w = .ok (.mapIter none 0 #[] 0) w := by simp [getObj, Sem.run, h]
 simp [Instr.next, hg]
theorem len0_ok (hR : R (.returned (.int .i64 0)) w) : callE P i_math_bits_Len #[.int .u64 0] R w := by
 refine g_math_bits_Len.sound ?_
 refine g_math_bits_Len64.sound ?_
 refine br_false rfl (br_false rfl (br_false rfl ?_))
 unfold g_math_bits_Len64.k3
 generalize hT : ByteArray.mk _ = T
 have e0 : IntKind.u8.wrap 0 = ((0 : Nat) : Int) := rfl
 have e1 : T.size = 256 := by rw [← hT]; kernel_rfl
 have e2 : bt T ((0 : Nat) : Int) = 0 := by rw [← hT]; kernel_rfl
 rw [e0, e1, e2]
 exact ⟨by decide, by decide, _, rfl, hR⟩
theorem sort0_ok {f : Value} (hR : R (.returned (.tuple #[])) w) : callE P i_slices_SortFunc_impl_Def_impl_Def #[.slice none 0 0, f] R w := by
 refine g_slices_SortFunc_impl_Def_impl_Def.sound ?_
 refine len0_ok ⟨_, rfl, ?_⟩
 refine g_slices_pdqsortCmpFunc_impl_Def.sound ?_
 intro X hX
 refine hX _ _ _ _ _ _ _ _ _ _ (br_true rfl ?_)
 refine g_slices_insertionSortCmpFunc_impl_Def.sound ?_
 intro Y hY
 exact hY _ _ _ _ _ _ _ _ (br_false rfl ⟨rfl, rfl, hR⟩)
theorem block_start {t : TypeId} {b s e : Nat} {cs : List Value} {ty : TypeId} {K : Nat → Nat → World → Prop} (hm : methVB P t "Pos" i_Position_Pos = true) (h : Sat σ w L) (hc : (b, cel (.int .i64 s :: .int .i64 e :: cs) ty) ∈ L)
 (hK : ∀ b1 b11 w, Sat σ w ((b11, cel (N16.C {a8 := s, a9 := e}).toList ty_impl_Node) :: (b1, cel (N16.C {}).toList ty_impl_Node) :: L) → K b1 b11 w) :
 box w (N16.C {}) ty_impl_Node fun b1 w2 => enterE P (callMethod (.iface t (.pointer (some ⟨b, 0, none⟩))) "Pos" #[]) (fun e w4 => ∃ (r3_0 : Int), ∃ (r3_1 : Int), e = .returned (.agg #[.int .i64 r3_0, .int .i64 r3_1]) ∧
  box w4 #[.int .i64 0, .int .i64 0] ty_Position fun b5 w6 => stV w6 ⟨b5, 0, none⟩ (.int .i64 r3_0) fun w7 => stV w7 ⟨b5, 1, none⟩ (.int .i64 r3_1) fun w8 => ∃ (v9 : Int), w8.cell? ⟨b5, 0, none⟩ = some (.int .i64 v9) ∧ ∃ (v10 : Int), w8.cell? ⟨b5, 1, none⟩ = some (.int .i64 v10) ∧
  box w8 (N16.C {}) ty_impl_Node fun b11 w12 => st16 w12 b11 {a8 := v9, a9 := v10} fun w28 => K b1 b11 w28) w2 := by
 refine Sat.bx h fun b1 w h => ?_
 have hp : DB.posIs ⟨.iface t (.pointer (some ⟨b, 0, none⟩)), [(b, cel (.int .i64 s :: .int .i64 e :: cs) ty)], []⟩ s e := posIs_of hm rfl (.head _)
 refine hp σ _ _ w (fun c hc' => .tail _ (by rw [List.mem_singleton.1 hc']; exact hc)) h fun w h => ⟨_, _, rfl, ?_⟩
 refine Sat.bx h fun b5 w h => ?_
 refine h.stA 0 fun w h => ?_
 refine h.stA 0 fun w h => ?_
 refine ⟨_, Sat.ld h (.head _) (i := 0) rfl, _, Sat.ld h (.head _) (i := 1) rfl, ?_⟩
 refine Sat.bx h fun b11 w h => ?_
 have h : Sat σ w ((b11, cel (N16.C {}).toList ty_impl_Node) :: (b5, cel [.int .i64 s, .int .i64 e] ty_Position) :: (b1, cel (N16.C {}).toList ty_impl_Node) :: L) := h
 refine h.st16 0 {} {a8 := s, a9 := e} fun w h => hK b1 b11 w ?_
 exact h.sub (.cons_cons _ (.cons _ (List.Sublist.refl _)))
theorem node_fin2 {u v : N16} {x : IN} {b1 b11 : Nat} {NM K : List Chunk} (hN : NodeAt x v NM) (h : Sat σ w ((b11, cel v.C.toList ty_impl_Node) :: (b1, cel u.C.toList ty_impl_Node) :: (NM ++ K))) (hR : ∀ w u M, NodeAt x u M → Sat σ w (M ++ K) → R (.returned u.V) w) :
 ldB16 w b11 fun m => st16 w b1 m fun w1 => ldB16 w1 b1 fun m1 => R (.returned m1.V) w1 :=
 h.ldB16 v (.head _) (h.st16 1 u v fun w h => h.ldB16 v (.tail _ (.head _)) (hR w v NM hN h.tail.tail))
end Go.Proofs.YtgbgadkldalkbaaGreatDoor


set_option linter.unusedVariables false
namespace Go.Proofs.YtgbgadkldalkbaaGreatDoor
open Go.Proofs
theorem getElem_getD {l : List UInt8} {i : Nat} (h : i < l.length) (d : UInt8) : l[i] = l.getD i d := by
 rw [List.getD_eq_getElem?_getD, List.getElem?_eq_getElem h]; rfl
def optOff : Opt := ⟨false, false, false, false, false, false, false, false, false, false⟩
end Go.Proofs.YtgbgadkldalkbaaGreatDoor


set_option linter.unusedVariables false
namespace Go.Proofs.YtgbgadkldalkbaaGreatDoor
open Go.Proofs Go.IntWalk Go.RowKit
variable {σ : Out} {w : World} {L L' : List Chunk} {R : Ending → World → Prop}
def tkS (tk : UInt8 → List UInt8) (s : List UInt8) : List UInt8 := s.flatMap tk
@[simp] theorem tkS_nil (tk : UInt8 → List UInt8) : tkS tk [] = [] := rfl
@[simp] theorem tkS_cons (tk : UInt8 → List UInt8) (c : UInt8) (s : List UInt8) : tkS tk (c :: s) = tk c ++ tkS tk s := List.flatMap_cons ..
@[simp] theorem tkS_append (tk : UInt8 → List UInt8) (s t : List UInt8) : tkS tk (s ++ t) = tkS tk s ++ tkS tk t := List.flatMap_append ..
end Go.Proofs.YtgbgadkldalkbaaGreatDoor


set_option linter.unusedVariables false
set_option maxRecDepth 20000
namespace Go.Proofs.YtgbgadkldalkbaaGreatDoor
open Go.Proofs
namespace g_internal_stringslite_HasPrefix
noncomputable def body : Code := bodyOf Tryz.f220
end g_internal_stringslite_HasPrefix
def g_internal_stringslite_HasPrefix (R : EP) (x0 x1 : BA) (w : World) : Prop :=
 br (decide ((x0.size : Int) ≥ (x1.size : Int)))
 (0 ≤ (x1.size : Int) ∧ (x1.size : Int) ≤ (x0.size : Int) ∧
 R (.returned (.bool ((x0.extract 0 (Int.toNat (x1.size : Int))).toList == x1.toList))) w)
 (R (.returned (.bool false)) w)

namespace g_internal_stringslite_HasPrefix
noncomputable def ac (R : EP) : AC :=
 (.leaf (sel [] body))
theorem good (R : EP) : Good P 18 (ac R) (QF P [.tmp 4] R) :=
 trivial
theorem eq (R : EP) (x0 x1 : BA) (w : World) : g_internal_stringslite_HasPrefix R x0 x1 w = vcA P 18 (ac R) (QF P [.tmp 4] R) (fr0 [.string x0, .string x1]) w := by kernel_rfl
theorem sound {R : EP} {x0 x1 : ByteArray} {w : World} (h : g_internal_stringslite_HasPrefix R x0 x1 w) : callE P i_internal_stringslite_HasPrefix #[.string x0, .string x1] R w :=
 callE_fz (c := body) Tryz.func220 Tryz.call220 (good R) (eq R x0 x1 w) h
end g_internal_stringslite_HasPrefix
namespace g_isLDH
noncomputable def body : Code := bodyOf Tryz.f238
end g_isLDH
def g_isLDH (R : EP) (x0 : Int) (w : World) : Prop :=
 callE P i_isLetterDigit #[.int .u8 x0] (fun e w2 => ∃ (r1 : Bool), e = .returned (.bool r1) ∧
 R (.returned (.bool (r1 || (x0 == 45)))) w2) w

namespace g_isLDH
noncomputable def ac (R : EP) : AC :=
 (.leaf (sel [] body))
theorem good (R : EP) : Good P 9 (ac R) (QF P [.tmp 2] R) :=
 trivial
theorem eq (R : EP) (x0 : Int) (w : World) : g_isLDH R x0 w = vcA P 9 (ac R) (QF P [.tmp 2] R) (fr0 [.int .u8 x0]) w := by kernel_rfl
theorem sound {R : EP} {x0 : Int} {w : World} (h : g_isLDH R x0 w) : callE P i_isLDH #[.int .u8 x0] R w :=
 callE_fz (c := body) Tryz.func238 Tryz.call238 (good R) (eq R x0 w) h
end g_isLDH
namespace g_isLetter
noncomputable def body : Code := bodyOf Tryz.f191
end g_isLetter
def g_isLetter (R : EP) (x0 : Int) (w : World) : Prop :=
 R (.returned (.bool (((decide (65 ≤ x0)) && (decide (x0 ≤ 90))) || ((decide (97 ≤ x0)) && (decide (x0 ≤ 122)))))) w

namespace g_isLetter
noncomputable def ac (R : EP) : AC :=
 (.leaf (sel [] body))
theorem good (R : EP) : Good P 17 (ac R) (QF P [.tmp 2] R) :=
 trivial
theorem eq (R : EP) (x0 : Int) (w : World) : g_isLetter R x0 w = vcA P 17 (ac R) (QF P [.tmp 2] R) (fr0 [.int .u8 x0]) w := by kernel_rfl
theorem sound {R : EP} {x0 : Int} {w : World} (h : g_isLetter R x0 w) : callE P i_isLetter #[.int .u8 x0] R w :=
 callE_fz (c := body) Tryz.func191 Tryz.call191 (good R) (eq R x0 w) h
end g_isLetter
namespace g_isLetterDigit
noncomputable def body : Code := bodyOf Tryz.f179
end g_isLetterDigit
def g_isLetterDigit (R : EP) (x0 : Int) (w : World) : Prop :=
 R (.returned (.bool ((((decide (65 ≤ x0)) && (decide (x0 ≤ 90))) || ((decide (97 ≤ x0)) && (decide (x0 ≤ 122)))) || ((decide (48 ≤ x0)) && (decide (x0 ≤ 57)))))) w

namespace g_isLetterDigit
noncomputable def ac (R : EP) : AC :=
 (.leaf (sel [] body))
theorem good (R : EP) : Good P 25 (ac R) (QF P [.tmp 2] R) :=
 trivial
theorem eq (R : EP) (x0 : Int) (w : World) : g_isLetterDigit R x0 w = vcA P 25 (ac R) (QF P [.tmp 2] R) (fr0 [.int .u8 x0]) w := by kernel_rfl
theorem sound {R : EP} {x0 : Int} {w : World} (h : g_isLetterDigit R x0 w) : callE P i_isLetterDigit #[.int .u8 x0] R w :=
 callE_fz (c := body) Tryz.func179 Tryz.call179 (good R) (eq R x0 w) h
end g_isLetterDigit
namespace g_parseTagName
noncomputable def body : Code := bodyOf Tryz.f239
def k2 (R : EP) (x0 : BA) (x1 x7 : Int) (w : World) : Prop :=
 0 ≤ x1 ∧ x1 ≤ x7 ∧ x7 ≤ (x0.size : Int) ∧
 R (.returned (.tuple #[.string (x0.extract (Int.toNat x1) (Int.toNat x7)), .int .i64 x7, .bool true])) w

def bl1 (R : EP) (Xa : BA → Int → Int → WP) (x0 : BA) (x1 x7 : Int) (w : World) : Prop :=
 ((decide (x7 < (x0.size : Int))) = true → 0 ≤ x7 ∧ x7 < (x0.size : Int)) ∧
 br (decide (x7 < (x0.size : Int)))
 (callE P i_isLDH #[.int .u8 (bt x0 x7)] (fun e w4 => ∃ (r3 : Bool), e = .returned (.bool r3) ∧
 br r3
 (Xa x0 x1 (IntKind.i64.wrap (x7 + 1)) w4)
 (k2 R x0 x1 x7 w4)) w)
 (k2 R x0 x1 x7 w)
def l1 (R : EP) (x0 : BA) (x1 x7 : Int) (w : World) : Prop :=
 ∀ X : BA → Int → Int → WP, (∀ x0 x1 x7 w, bl1 R X x0 x1 x7 w → X x0 x1 x7 w) → X x0 x1 x7 w

noncomputable def al1 (R : EP) (Xa : BA → Int → Int → WP) : AC :=
 (.leaf (sel [1,0,1,0,1,0,0,0] body))
def k1 (R : EP) (x0 : BA) (x1 : Int) (x17 : Bool) (w : World) : Prop :=
 br x17
 (l1 R x0 x1 (IntKind.i64.wrap (x1 + 1)) w)
 (R (.returned (.tuple #[.string (ByteArray.mk #[]), .int .i64 0, .bool false])) w)

end g_parseTagName
def g_parseTagName (R : EP) (x0 : BA) (x1 : Int) (w : World) : Prop :=
 ((decide (x1 < (x0.size : Int))) = true → 0 ≤ x1 ∧ x1 < (x0.size : Int)) ∧
 br (decide (x1 < (x0.size : Int)))
 (callE P i_isLetter #[.int .u8 (bt x0 x1)] (fun e w2 => ∃ (r1 : Bool), e = .returned (.bool r1) ∧
 g_parseTagName.k1 R x0 x1 r1 w2) w)
 (g_parseTagName.k1 R x0 x1 false w)

namespace g_parseTagName
noncomputable def ac (R : EP) : AC :=
 (.seq (.leaf (sel [0] body)) (.seq (.seq (.leaf (sel [1,0,0] body)) (.mark (leaf [(0, .s .str), (1, .s (.int .i64)), (17, .s .bool)] (k1 R)) (.cond 17 (.seq (.leaf (sel [1,0,1,0,0] body)) (.seq (.block 0 (.loop (leaf [(0, .s .str), (1, .s (.int .i64)), (7, .s (.int .i64))] (l1 R)) (sel [1,0,1,0,1,0,0,0] body))) (.mark (leaf [(0, .s .str), (1, .s (.int .i64)), (7, .s (.int .i64))] (k2 R)) (.leaf (sel [1,0,1,0,1,1] body))))) (.leaf (sel [1,0,1,1] body))))) (.leaf (sel [1,1] body))))
theorem good (R : EP) : Good P 37 (ac R) (QF P [.tmp 4, .tmp 5, .tmp 6] R) :=
 ⟨trivial, ⟨⟨trivial, ⟨⟨⟨trivial, ⟨(loopG (al1 R) (bl1 R) (fun _ => by kernel_rfl) (fun Xa => trivial) (fun Xa => by intro x0 x1 x7 ρ w; kernel_rfl) (fun X h _ _ _ _ g => g X h)), ⟨trivial, cutZ⟩⟩⟩, trivial⟩, cutZ⟩⟩, trivial⟩⟩
theorem eq (R : EP) (x0 : BA) (x1 : Int) (w : World) : g_parseTagName R x0 x1 w = vcA P 37 (ac R) (QF P [.tmp 4, .tmp 5, .tmp 6] R) (fr0 [.string x0, .int .i64 x1]) w := by kernel_rfl
theorem sound {R : EP} {x0 : ByteArray} {x1 : Int} {w : World} (h : g_parseTagName R x0 x1 w) : callE P i_parseTagName #[.string x0, .int .i64 x1] R w :=
 callE_fz (c := body) Tryz.func239 Tryz.call239 (good R) (eq R x0 x1 w) h
end g_parseTagName
namespace g_strings_HasPrefix
noncomputable def body : Code := bodyOf Tryz.f159
end g_strings_HasPrefix
def g_strings_HasPrefix (R : EP) (x0 x1 : BA) (w : World) : Prop :=
 callE P i_internal_stringslite_HasPrefix #[.string x0, .string x1] (fun e w2 => ∃ (r1 : Bool), e = .returned (.bool r1) ∧
 R (.returned (.bool r1)) w2) w

namespace g_strings_HasPrefix
noncomputable def ac (R : EP) : AC :=
 (.leaf (sel [] body))
theorem good (R : EP) : Good P 8 (ac R) (QF P [.tmp 4] R) :=
 trivial
theorem eq (R : EP) (x0 x1 : BA) (w : World) : g_strings_HasPrefix R x0 x1 w = vcA P 8 (ac R) (QF P [.tmp 4] R) (fr0 [.string x0, .string x1]) w := by kernel_rfl
theorem sound {R : EP} {x0 x1 : ByteArray} {w : World} (h : g_strings_HasPrefix R x0 x1 w) : callE P i_strings_HasPrefix #[.string x0, .string x1] R w :=
 callE_fz (c := body) Tryz.func159 Tryz.call159 (good R) (eq R x0 x1 w) h
end g_strings_HasPrefix
end Go.Proofs.YtgbgadkldalkbaaGreatDoor

set_option linter.unusedVariables false
namespace Go.Proofs.YtgbgadkldalkbaaGreatDoor
open Go.Proofs Go.IntWalk Go.RowKit
variable {σ : Out} {w : World} {L L' : List Chunk} {R : Ending → World → Prop}
theorem u8_le' (c : UInt8) (n : Nat) : decide ((n : Int) ≤ ((c.toNat : Nat) : Int)) = decide (n ≤ c.toNat) := by rw [decide_eq_decide]; omega
theorem u8_ge' (c : UInt8) (n : Nat) : decide (((c.toNat : Nat) : Int) ≤ (n : Int)) = decide (c.toNat ≤ n) := by rw [decide_eq_decide]; omega
def letB (c : UInt8) : Bool := (decide (65 ≤ c.toNat) && decide (c.toNat ≤ 90)) || (decide (97 ≤ c.toNat) && decide (c.toNat ≤ 122))
def ldigB (c : UInt8) : Bool := letB c || (decide (48 ≤ c.toNat) && decide (c.toNat ≤ 57))
def ldhB (c : UInt8) : Bool := ldigB c || c == 45
theorem isLetter_ok {c : UInt8} (hR : R (.returned (.bool (letB c))) w) : callE P i_isLetter #[.int .u8 (c.toNat : Int)] R w := by
 refine g_isLetter.sound ?_
 unfold g_isLetter
 have e : (((decide ((65 : Int) ≤ ((c.toNat : Nat) : Int))) && (decide (((c.toNat : Nat) : Int) ≤ 90))) || ((decide ((97 : Int) ≤ ((c.toNat : Nat) : Int))) && (decide (((c.toNat : Nat) : Int) ≤ 122)))) = letB c := by
  unfold letB
  rw [← u8_le' c 65, ← u8_ge' c 90, ← u8_le' c 97, ← u8_ge' c 122]; rfl
 rw [e]; exact hR
theorem isLetterDigit_ok {c : UInt8} (hR : R (.returned (.bool (ldigB c))) w) : callE P i_isLetterDigit #[.int .u8 (c.toNat : Int)] R w := by
 refine g_isLetterDigit.sound ?_
 unfold g_isLetterDigit
 have e : ((((decide ((65 : Int) ≤ ((c.toNat : Nat) : Int))) && (decide (((c.toNat : Nat) : Int) ≤ 90))) || ((decide ((97 : Int) ≤ ((c.toNat : Nat) : Int))) && (decide (((c.toNat : Nat) : Int) ≤ 122)))) || ((decide ((48 : Int) ≤ ((c.toNat : Nat) : Int))) && (decide (((c.toNat : Nat) : Int) ≤ 57)))) = ldigB c := by
  unfold ldigB letB
  rw [← u8_le' c 65, ← u8_ge' c 90, ← u8_le' c 97, ← u8_ge' c 122, ← u8_le' c 48, ← u8_ge' c 57]; rfl
 rw [e]; exact hR
theorem isLDH_ok {c : UInt8} (hR : R (.returned (.bool (ldhB c))) w) : callE P i_isLDH #[.int .u8 (c.toNat : Int)] R w := by
 refine g_isLDH.sound ?_
 refine isLetterDigit_ok ⟨_, rfl, ?_⟩
 rw [u8b c 45 45 rfl]
 exact hR
theorem hasPrefix_ok {s t : List UInt8} (hR : R (.returned (.bool (decide (s.take t.length = t)))) w) : callE P i_strings_HasPrefix #[.string (bs s), .string (bs t)] R w := by
 refine g_strings_HasPrefix.sound ?_
 refine g_internal_stringslite_HasPrefix.sound ?_
 by_cases hl : t.length ≤ s.length
 ·refine br_true (by simp; omega) ⟨by omega, by simp; omega, ?_⟩
  rw [bs_size, Int.toNat_natCast, bs_extract, List.drop_zero, bs_toList, bs_toList]
  have e : (s.take t.length == t) = decide (s.take t.length = t) := by rw [Bool.eq_iff_iff]; simp
  rw [e]; exact ⟨_, rfl, hR⟩
 ·refine br_false (by simp; omega) ?_
  have : decide (s.take t.length = t) = false := decide_eq_false fun h => by have := congrArg List.length h; simp at this; omega
  rw [← this]; exact ⟨_, rfl, hR⟩
structure RunTo (s : List UInt8) (p : UInt8 → Bool) (i j : Nat) : Prop where
 le : i ≤ j
 len : j ≤ s.length
 all : ∀ k, i ≤ k → k < j → p (s.getD k 0) = true
 stop : j < s.length → p (s.getD j 0) = false
theorem bt_get (s : List UInt8) (i : Nat) : bt (bs s) (i : Int) = ((s.getD i 0).toNat : Int) := bs_bt s i
theorem parseTagName_ok {s : List UInt8} {i j : Nat} (hs : s.length < 1000000000) (hi : i < s.length) (hl : letB (s.getD i 0) = true) (hr : RunTo s ldhB (i + 1) j) (hR : R (.returned (.tuple #[.string (bs (sub s i j)), .int .i64 j, .bool true])) w) :
 callE P i_parseTagName #[.string (bs s), .int .i64 i] R w := by
 refine g_parseTagName.sound ?_
 refine ⟨fun _ => ⟨by omega, by simp; omega⟩, br_true (by simp; omega) ?_⟩
 rw [bt_get]
 refine isLetter_ok ⟨_, rfl, br_true hl ?_⟩
 rw [i64_inc (by omega)]
 intro X hX
 have hj := hr.len
 have key : ∀ k m, m + k = j → i + 1 ≤ m → X (bs s) (i : Int) (m : Int) w := by
  intro k
  induction k with
  | zero =>
   intro m hm hm1
   obtain rfl : m = j := hm
   have fin : g_parseTagName.k2 R (bs s) (i : Int) (m : Int) w := by
    refine ⟨by omega, by omega, by simp; omega, ?_⟩
    rw [Int.toNat_natCast, Int.toNat_natCast, bs_extract]
    exact hR
   rcases Nat.lt_or_ge m s.length with hlt | hge
   ·refine hX _ _ _ _ ⟨fun _ => ⟨by omega, by simp; omega⟩, br_true (by simp; omega) ?_⟩
    rw [bt_get]
    exact isLDH_ok ⟨_, rfl, br_false (hr.stop hlt) fin⟩
   ·exact hX _ _ _ _ ⟨fun h => absurd h (by simp; omega), br_false (by simp; omega) fin⟩
  | succ k ih =>
   intro m hm hm1
   refine hX _ _ _ _ ⟨fun _ => ⟨by omega, by simp; omega⟩, br_true (by simp; omega) ?_⟩
   rw [bt_get]
   refine isLDH_ok ⟨_, rfl, br_true (hr.all m hm1 (by omega)) ?_⟩
   rw [i64_inc (by omega)]
   exact ih (m + 1) (by omega) (by omega)
 have := hr.le
 exact key (j - (i + 1)) (i + 1) (by omega) (Nat.le_refl _)
end Go.Proofs.YtgbgadkldalkbaaGreatDoor


set_option linter.unusedVariables false
namespace Go.Proofs.YtgbgadkldalkbaaGreatDoor
open Go.Proofs Go.IntWalk Go.RowKit
variable {σ : Out} {w : World} {L L' : List Chunk} {R : Ending → World → Prop}
theorem pos_HTMLBlock : methVB P ty_P_HTMLBlock "Pos" i_Position_Pos = true := by kernel_rfl
theorem pos_Document : methVB P ty_P_Document "Pos" i_Position_Pos = true := by kernel_rfl
abbrev bkV (t : TypeId) (nb : Nat) : Value := .iface t (.pointer (some ⟨nb, 0, none⟩))
theorem gives_html {nb s e : Nat} {q : OA} {c : Nat} {ls : List (List UInt8)} {SM : List Chunk} (hS : Sl 1 ty_string q ls.length c (sv ls) SM) (hn : ls.length < 1048576) (hb : (rawOut ls).length < 1073741824) (hne : ls.head? ≠ some []) :
 Gives i_impl_block (.mk { kind := 8, text := rawOut ls, s := s, e := e } []) (bkV ty_P_HTMLBlock nb) (hblC nb s e q ls.length c :: SM) := by
 intro σ R L w h hR
 refine g_impl_block.sound ?_
 refine block_start pos_HTMLBlock h (.head _) fun b1 b11 w h => ?_
 refine ⟨_, _, _, taP_no (by kernel_rfl) (by decide) w, br_false rfl ?_⟩
 refine ⟨_, _, _, taP_no (by kernel_rfl) (by decide) w, br_false rfl ?_⟩
 refine ⟨_, _, _, taP_no (by kernel_rfl) (by decide) w, br_false rfl ?_⟩
 refine ⟨_, _, _, taP_no (by kernel_rfl) (by decide) w, br_false rfl ?_⟩
 refine ⟨_, _, _, taP_no (by kernel_rfl) (by decide) w, br_false rfl ?_⟩
 refine ⟨_, _, _, taP_no (by kernel_rfl) (by decide) w, br_false rfl ?_⟩
 refine ⟨_, _, _, taP_no (by kernel_rfl) (by decide) w, br_false rfl ?_⟩
 refine ⟨_, _, _, taP_no (by kernel_rfl) (by decide) w, br_false rfl ?_⟩
 refine ⟨_, _, _, taP_yes (by kernel_rfl) w, br_true rfl ?_⟩
 refine nilP_some ⟨_, _, _, Sat.ld h (.tail _ (.tail _ (.head _))) (i := 2) rfl, ?_⟩
 have h : Sat σ w (SM ++ ((b11, cel (N16.C {a8 := s, a9 := e}).toList ty_impl_Node) :: (b1, cel (N16.C {}).toList ty_impl_Node) :: hblC nb s e q ls.length c :: L)) := h.re
 refine ilines_ok hS h hn hb hne fun w h => ⟨_, rfl, ?_⟩
 have h : Sat σ w ((b11, cel (N16.C {a8 := s, a9 := e}).toList ty_impl_Node) :: (b1, cel (N16.C {}).toList ty_impl_Node) :: (hblC nb s e q ls.length c :: SM ++ L)) := h.re
 refine Sat.st h (k := 0) rfl (by show 0 < 16; decide) trivial rfl fun w h => ?_
 refine Sat.st h (k := 0) rfl (by show 1 < 16; decide) trivial rfl fun w h => ?_
 exact node_fin2 (v := IH.nd { kind := 8, text := rawOut ls, s := s, e := e } none 0 0) (u := {}) (NM := []) (NodeAt.leaf ⟨hb, nil_lt, nil_lt, nil_lt⟩) h hR
theorem gives_doc {db s e : Nat} {q : OA} {n c : Nat} {vs : List Value} {IM KM : List Chunk} {xs : List IN} (hS : Sl 1 ty_Block q n c vs IM) (hG : GivesL i_impl_block xs vs KM) (hn : n < 1073741824) :
 Gives i_impl_block (.mk { kind := 1, s := s, e := e } xs) (bkV ty_P_Document db) (docC db s e q n c none :: (IM ++ KM)) := by
 intro σ R L w h hR
 refine g_impl_block.sound ?_
 refine block_start pos_Document h (.head _) fun b1 b11 w h => ?_
 refine ⟨_, _, _, taP_yes (by kernel_rfl) w, br_true rfl ?_⟩
 refine nilP_some ⟨_, _, _, Sat.ld h (.tail _ (.tail _ (.head _))) (i := 2) rfl, ?_⟩
 have h : Sat σ w (IM ++ (KM ++ ((b11, cel (N16.C {a8 := s, a9 := e}).toList ty_impl_Node) :: (b1, cel (N16.C {}).toList ty_impl_Node) :: docC db s e q n c none :: L))) := h.re
 refine nblocks_ok hS hG h hn fun w q' n' c' us OM NM hn' hIN hO h => ⟨_, _, _, rfl, ?_⟩
 have h : Sat σ w ((b11, cel (N16.C {a8 := s, a9 := e}).toList ty_impl_Node) :: (b1, cel (N16.C {}).toList ty_impl_Node) :: ((OM ++ NM) ++ (docC db s e q n c none :: (IM ++ KM) ++ L))) := h.re
 refine Sat.st h (k := 0) rfl (by show 0 < 16; decide) trivial rfl fun w h => ?_
 refine Sat.st h (k := 0) rfl (by show 7 < 16; decide) trivial rfl fun w h => ?_
 have h : Sat σ w ((b11, cel (IH.nd { kind := 1, s := s, e := e } q' n' c').C.toList ty_impl_Node) :: (b1, cel (N16.C {}).toList ty_impl_Node) :: ((OM ++ NM) ++ (docC db s e q n c none :: (IM ++ KM) ++ L))) := h
 have hmd : docC db s e q n c none ∈ ((b11, cel (IH.nd { kind := 1, s := s, e := e } q' n' c').C.toList ty_impl_Node) :: (b1, cel (N16.C {}).toList ty_impl_Node) :: ((OM ++ NM) ++ (docC db s e q n c none :: (IM ++ KM) ++ L))) := by simp
 refine nilP_some ⟨_, Sat.ld h hmd (i := 3) rfl, _, _, run_range_nil w, ?_⟩
 have h := h.alo (.mapIter none 0 #[] 0)
 generalize hit : w.alloc (.mapIter none 0 #[] 0) = w at h ⊢
 intro X hX
 refine hX _ _ _ _ (.inl ⟨_, run_next_nil (h.at_ _ (.head _)), ?_⟩)
 have h := h.tail
 refine ⟨_, _, _, Sat.ld h (.head _) (i := 15) rfl, ?_⟩
 refine sort0_ok ⟨rfl, ?_⟩
 exact node_fin2 (v := IH.nd { kind := 1, s := s, e := e } q' n' c') (u := {}) (NM := OM ++ NM) ⟨_, xs, q', n', c', us, OM, NM, rfl, rfl, rfl, ⟨nil_lt, nil_lt, nil_lt, nil_lt⟩, hn', hIN, hO⟩ h hR
end Go.Proofs.YtgbgadkldalkbaaGreatDoor


set_option linter.unusedVariables false
namespace Go.Proofs.YtgbgadkldalkbaaGreatDoor
open Go.Proofs Go.IntWalk Go.RowKit
variable {σ : Out} {w : World} {L L' : List Chunk} {R : Ending → World → Prop}
structure Bk where
 ob : OB
 own : List Chunk
 D : List DB
 IM : List Chunk
def Bk.ok (f : Bk) : Prop := Sl 1 ty_Block f.ob.q f.ob.n f.ob.c (f.D.map DB.v) f.IM ∧ f.D.length < 100000 ∧ f.ob.s < 1000000000 ∧ f.ob.e < 1000000000
def txc (D : List DB) : List Chunk := (txsC D).map TX.chunk
def Bk.mem (f : Bk) : List Chunk := f.IM ++ (f.own ++ (ownC f.D ++ txc f.D))
def memFs (fs : List Bk) : List Chunk := fs.flatMap Bk.mem
def txF (fs : List Bk) : List TX := fs.flatMap fun f => txsC f.D
theorem memFs_one (f : Bk) : memFs [f] = f.IM ++ (f.own ++ (ownC f.D ++ txc f.D)) := by simp [memFs, Bk.mem]
theorem txF_one (f : Bk) : txF [f] = txsC f.D := by simp [txF]
def DocC (σ : Out) (b : Nat) (L : List Chunk) (fs : List Bk) (lf : Leaf) (p : PS) (w : World) : Prop :=
 ∃ M TM lobs LM, Stk p (fs.map Bk.ob ++ lobs) M ∧ Txts p ((txF fs).map TX.t) TM ∧ (∀ f ∈ fs, f.ok) ∧ LeafAt lf lobs LM ∧ Sat σ w (p.at b :: M ++ (TM ++ (memFs fs ++ (LM ++ L))))
end Go.Proofs.YtgbgadkldalkbaaGreatDoor


set_option linter.unusedVariables false
namespace Go.Proofs.YtgbgadkldalkbaaGreatDoor
open Go.Proofs Go.IntWalk Go.RowKit
variable {σ : Out} {w : World} {L L' : List Chunk} {R : Ending → World → Prop}
def noNL (l : List UInt8) : Prop := 10 ∉ l ∧ 13 ∉ l
inductive LinesOf : List UInt8 → List (List UInt8 × UInt8) → Prop where
 | nil : LinesOf [] []
 | last {l : List UInt8} : l ≠ [] → noNL l → LinesOf l [(l, 0)]
 | cons {l t : List UInt8} {ls : List (List UInt8 × UInt8)} : noNL l → LinesOf t ls → LinesOf (l ++ 10 :: t) ((l, 10) :: ls)
theorem LinesOf.no13 {t : List UInt8} {ls : List (List UInt8 × UInt8)} (h : LinesOf t ls) : 13 ∉ t := by
 induction h with
 | nil => simp
 | last h1 h2 => exact h2.2
 | cons h1 h2 ih =>
  simp only [List.mem_append, List.mem_cons, not_or]
  exact ⟨h1.2, by decide, ih⟩
theorem LinesOf.len {t : List UInt8} {ls : List (List UInt8 × UInt8)} (h : LinesOf t ls) : ls.length ≤ t.length := by
 induction h with
 | nil => simp
 | last h1 h2 => have := List.length_pos_iff.2 h1; simp; omega
 | cons h1 h2 ih => simp; omega
theorem findSub_first {A B : List UInt8} {c : UInt8} (hc : c ∉ A) : ∀ (k i : Nat), i + k = A.length → ∀ f, k < f → findSub [c] (A ++ c :: B) f i = some A.length
 | 0, i, hi, f + 1, _ => by
  obtain rfl : i = A.length := by omega
  simp only [findSub, List.length_singleton]
  rw [if_pos (by simp), List.drop_left, if_pos (by simp)]
 | k + 1, i, hi, f + 1, hf => by
  simp only [findSub, List.length_singleton]
  rw [if_pos (by simp; omega), if_neg]
  ·exact findSub_first hc k (i + 1) (by omega) f (by omega)
  ·intro he
   have hil : i < A.length := by omega
   rw [List.drop_append_of_le_length (by omega), List.drop_eq_getElem_cons hil, List.cons_append, List.take_succ_cons, List.take_zero] at he
   have he2 : A[i] = c := (List.cons.inj he).1
   exact hc (he2 ▸ List.getElem_mem hil)
theorem idx_first {A B : List UInt8} {c : UInt8} (hc : c ∉ A) : idx (A ++ c :: B) [c] = some A.length := by
 unfold idx
 exact findSub_first hc A.length 0 (by omega) _ (by simp; omega)
end Go.Proofs.YtgbgadkldalkbaaGreatDoor


set_option linter.unusedVariables false
namespace Go.Proofs.YtgbgadkldalkbaaGreatDoor
open Go.Proofs Go.IntWalk Go.RowKit
variable {σ : Out} {w : World} {L L' : List Chunk} {R : Ending → World → Prop}
def Bk.isRoot (f : Bk) : Prop := ∃ rb, f.ob.bd = rootV rb ∧ f.own = [(rb, cel [] ty_rootBuilder)]
def CloseAll (op : Opt) (fs : List Bk) (lf : Leaf) (Q : List DB → Prop) : Prop :=
 ∀ (σ : Out) (R : Ending → World → Prop) (L : List Chunk) (b pb : Nat) (p : PS) (w : World) (X : OA → Int → WP), (∀ x0 x1 w, g_parseState_trimStack.bl1 R X x0 x1 w → X x0 x1 w) → op.at pb ∈ L → p.pz = some ⟨pb, 0, none⟩ → DocC σ b L fs lf p w →
  (∀ w (p' : PS) root, p'.base = p.base → root.isRoot → Q root.D → DocC σ b L [root] .none p' w → X (some ⟨b, 0, none⟩) 0 w) → X (some ⟨b, 0, none⟩) 0 w
theorem CloseAll.root {op : Opt} {root : Bk} {Q : List DB → Prop} (hr : root.isRoot) (hQ : Q root.D) : CloseAll op [root] .none Q :=
 fun σ R L b pb p w X hX hop hpz h hN => hN w p root rfl hr hQ h
theorem finishC_ok {op : Opt} {b pb : Nat} {p : PS} {fs : List Bk} {lf : Leaf} {Q : List DB → Prop} (hC : CloseAll op fs lf Q) (h : DocC σ b L fs lf p w) (hpz : p.pz = some ⟨pb, 0, none⟩) (hop : op.at pb ∈ L)
 (hR : ∀ w (p' : PS) D' db IM TM q n c s e, p'.base = { p.base with root := some ⟨db, 0, none⟩ } → Q D' → Txts p' ((txsC D').map TX.t) TM → Sl 1 ty_Block q n c (D'.map DB.v) IM → n < 1000000 →
  Sat σ w (p'.at b :: (TM ++ ((txsC D').map TX.chunk ++ (docC db s e q n c p.links :: (IM ++ (ownC D' ++ L)))))) → R (.returned (.tuple #[])) w) :
 callE P i_parseState_trimStack #[.pointer (some ⟨b, 0, none⟩), .int .i64 0] R w := by
 refine g_parseState_trimStack.sound ?_
 have h0 := h
 obtain ⟨M, TM, lobs, LM, hs, ht, hok, hL, h⟩ := h
 refine nilP_some ?_
 refine ⟨_, _, _, h.ldA, ?_⟩
 refine br_false (by simp) ?_
 intro X hX'
 refine hC σ R L b pb p w X hX' hop hpz h0 fun w p1 root hb hroot hQ h => ?_
 obtain ⟨rb, hbd, hown⟩ := hroot
 obtain ⟨M, TM, lobs, LM, hs, ht, hok, ⟨rfl, rfl⟩, h⟩ := h
 have hs : Stk p1 [root.ob] M := hs
 have hn : p1.stn = 1 := hs.2.1
 have hlk : p1.links = p.links := by have := congrArg PS.links hb; exact this
 refine hX' _ _ _ (nilP_some ?_)
 refine ⟨_, _, _, h.ldA, ?_⟩
 rw [hn]
 refine br_true rfl ?_
 refine closeRoot_ok h hs hbd fun w db h => ⟨_, rfl, hX' _ _ _ (nilP_some ?_)⟩
 refine ⟨_, _, _, h.ldA, ?_⟩
 refine br_false rfl ?_
 obtain ⟨hI, hDl, _⟩ := hok root (by simp)
 have hIl := hI.1
 simp only [List.length_map, Nat.mul_one] at hIl
 rw [txF_one] at ht
 refine hR w { p1 with stn := 0, root := some ⟨db, 0, none⟩ } root.D db root.IM TM root.ob.q root.ob.n root.ob.c root.ob.s root.ob.e ?_ hQ (ht.of rfl rfl rfl) hI (by omega) ?_
 ·have e : ({ p1 with stn := 0, root := some ⟨db, 0, none⟩ } : PS).base = { p1.base with root := some ⟨db, 0, none⟩ } := rfl
  rw [e, hb]
 ·rw [← hlk]
  rw [memFs_one, hown] at h
  have h : Sat σ w (({ p1 with stn := 0, root := some ⟨db, 0, none⟩ } : PS).at b :: M ++ (docC db root.ob.s root.ob.e root.ob.q root.ob.n root.ob.c p1.links :: (TM ++ (root.IM ++ ([(rb, cel [] ty_rootBuilder)] ++ (ownC root.D ++ (txsC root.D).map TX.chunk)) ++ ([] ++ L))))) := h
  exact h.less (M ++ [(rb, cel [] ty_rootBuilder)])
def StepC (L0 : List Chunk) (op : Opt) (n : Nat) (l : List UInt8) (nl : UInt8) (fs : List Bk) (lf : Leaf) (J : List Bk → Leaf → Prop) : Prop :=
 ∀ (σ : Out) (R : Ending → World → Prop) (L : List Chunk) (b pb : Nat) (p : PS) (w : World), (∀ c ∈ L0, c ∈ L) → op.at pb ∈ L → p.pz = some ⟨pb, 0, none⟩ → p.lineno = n → n < 1000000000 → DocC σ b L fs lf p w →
  (∀ w (p' : PS) fs' lf', p'.base = p.base → p'.lineno = p.lineno → J fs' lf' → DocC σ b L fs' lf' p' w → R (.returned (.tuple #[])) w) → callE P i_parseState_addLine #[.pointer (some ⟨b, 0, none⟩), (lnOf l nl).val] R w
theorem lines_okC {L0 : List Chunk} {op : Opt} {I : List (List UInt8 × UInt8) → Nat → List Bk → Leaf → Prop} (step : ∀ l nl rem n fs lf, I ((l, nl) :: rem) n fs lf → StepC L0 op (n + 1) l nl fs lf (I rem (n + 1))) (hL0 : ∀ c ∈ L0, c ∈ L) {X : OA → BA → Nat → WP} {b pb : Nat} {p0 : PS}
 (hX : ∀ x0 x1 x6 w, g_Parser_parse.bl1 R X x0 x1 x6 w → X x0 x1 x6 w) (hop : op.at pb ∈ L) (hpz : p0.pz = some ⟨pb, 0, none⟩)
 (hE : ∀ w (p : PS) fs lf, p.base = p0.base → I [] p.lineno fs lf → DocC σ b L fs lf p w → g_Parser_parse.bl1 R X (some ⟨pb, 0, none⟩) (bs []) b w) {text : List UInt8} {ls : List (List UInt8 × UInt8)} (hL : LinesOf text ls) :
 ∀ w (p : PS) fs lf, text.length < 1000000 → p.lineno + ls.length < 1000000000 → p.base = p0.base → I ls p.lineno fs lf → DocC σ b L fs lf p w → X (some ⟨pb, 0, none⟩) (bs text) b w := by
 have k3 : ∀ (l : List UInt8) (nl : UInt8) (t : List UInt8) (rem : List (List UInt8 × UInt8)) w (p : PS) fs lf, (∀ w (p : PS) fs lf, p.lineno + rem.length < 1000000000 → p.base = p0.base → I rem p.lineno fs lf → DocC σ b L fs lf p w → X (some ⟨pb, 0, none⟩) (bs t) b w) →
  p.lineno + rem.length + 1 < 1000000000 → p.base = p0.base → I ((l, nl) :: rem) p.lineno fs lf → DocC σ b L fs lf p w → g_Parser_parse.k3 R X (some ⟨pb, 0, none⟩) (bs t) b (bs l) (nl.toNat : Int) w := by
  intro l nl t rem w p fs lf next hno hb hI h
  obtain ⟨M, TM, lobs, LM, hs, ht, hok, hL, h⟩ := h
  unfold g_Parser_parse.k3
  refine ⟨_, Sat.ld h (.head _) (i := 3) rfl, ?_⟩
  rw [i64_inc (by omega)]
  refine h.stA 0 fun w h => ?_
  let p1 : PS := { p with lineno := p.lineno + 1 }
  have h : Sat σ w (p1.at b :: M ++ (TM ++ (memFs fs ++ (LM ++ L)))) := h
  have hb1 : p1.base = p0.base := hb
  have hpz1 : p1.pz = some ⟨pb, 0, none⟩ := by
   have := congrArg PS.pz hb1
   rw [show p1.pz = p0.pz from this]; exact hpz
  refine step l nl rem p.lineno fs lf hI σ _ L b pb p1 w hL0 hop hpz1 rfl (by omega) ⟨M, TM, lobs, LM, hs.of rfl rfl rfl, ht.of rfl rfl rfl, hok, hL, h⟩ fun w p2 fs' lf' h1 h2 h3 h4 => ⟨rfl, ?_⟩
  exact next w p2 fs' lf' (by rw [h2]; show p.lineno + 1 + _ < _; omega) (h1.trans hb1) (by rw [h2]; exact h3) h4
 induction hL with
 | nil =>
  intro w p fs lf hlen hno hb hI h
  exact hX _ _ _ _ (hE w p fs lf hb hI h)
 | @last l hne hnl =>
  intro w p fs lf hlen hno hb hI h
  have e10 : idxInt l [10] = -1 := by unfold idxInt; rw [idx_none hnl.1]
  have e13 : idxInt l [13] = -1 := by unfold idxInt; rw [idx_none hnl.2]
  refine hX _ _ _ _ (br_true (by rw [bs_toList]; simpa using hne) ?_)
  refine zzIndex_ok (sub := [10]) (by omega) (by decide) ⟨_, rfl, ?_⟩
  refine zzIndex_ok (sub := [13]) (by omega) (by decide) ⟨_, rfl, ?_⟩
  rw [e10, e13]
  refine br_false rfl (br_false rfl ?_)
  refine k3 l 0 [] [] w p fs lf ?_ (by simp at hno ⊢; omega) hb hI h
  intro w p fs lf hno hb hI h
  exact hX _ _ _ _ (hE w p fs lf hb hI h)
 | @cons l t ls hnl hLt ih =>
  intro w p fs lf hlen hno hb hI h
  have hl13 : 13 ∉ l ++ 10 :: t := (LinesOf.cons hnl hLt).no13
  have e10 : idxInt (l ++ 10 :: t) [10] = (l.length : Nat) := by unfold idxInt; rw [idx_first hnl.1]
  have e13 : idxInt (l ++ 10 :: t) [13] = -1 := by unfold idxInt; rw [idx_none hl13]
  have hlen' : (l ++ 10 :: t).length = l.length + t.length + 1 := by simp; omega
  refine hX _ _ _ _ (br_true (by rw [bs_toList]; simp [mk_toList]) ?_)
  refine zzIndex_ok (sub := [10]) (by omega) (by decide) ⟨_, rfl, ?_⟩
  refine zzIndex_ok (sub := [13]) (by omega) (by decide) ⟨_, rfl, ?_⟩
  rw [e10, e13]
  refine br_false rfl ?_
  refine br_true (by simp) ?_
  obtain ⟨M, TM, lobs, LM, hs, ht, hok, hL, h⟩ := h
  refine Sat.tk h fun w h => ?_
  rw [i64_inc (by omega), bs_size, Int.toNat_natCast, Int.toNat_natCast, bs_ext, bs_extract, List.drop_zero, List.take_left]
  refine ⟨by omega, by rw [hlen']; omega, by omega, by rw [hlen']; omega, ?_⟩
  have ed : (l ++ 10 :: t).drop (l.length + 1) = t := by rw [List.drop_append]; simp
  rw [ed]
  refine k3 l 10 t ls w p fs lf ?_ (by simp at hno ⊢; omega) hb hI ⟨M, TM, lobs, LM, hs, ht, hok, hL, h⟩
  intro w p fs lf hno hb hI h
  exact ih w p fs lf (by rw [hlen'] at hlen; omega) hno hb hI h
theorem trim_step {X : OA → Int → WP} {b k : Nat} {fs : List Bk} {lf : Leaf} {p : PS} (hX : ∀ x0 x1 w, g_parseState_trimStack.bl1 R X x0 x1 w → X x0 x1 w) (h : DocC σ b L fs lf p w) (hk : k < fs.length)
 (hc : callE P i_parseState_closeBlock #[.pointer (some ⟨b, 0, none⟩)] (fun e w6 => ∃ (r5 : Value), e = .returned r5 ∧ X (some ⟨b, 0, none⟩) (k : Int) w6) w) : X (some ⟨b, 0, none⟩) (k : Int) w := by
 obtain ⟨M, TM, lobs, LM, hs, ht, hok, hL, h⟩ := h
 have hn := hs.2.1
 rw [List.length_append, List.length_map] at hn
 refine hX _ _ _ (nilP_some ?_)
 refine ⟨_, _, _, h.ldA, ?_⟩
 rw [hn]
 exact br_true (by simp; omega) hc
end Go.Proofs.YtgbgadkldalkbaaGreatDoor


set_option linter.unusedVariables false
namespace Go.Proofs.YtgbgadkldalkbaaGreatDoor
open Go.Proofs Go.IntWalk Go.RowKit
variable {σ : Out} {w : World} {L L' : List Chunk} {R : Ending → World → Prop}
structure TI2 where
 q : OA
 n : Nat
 c : Nat
 vs : List Value
 RM : List Chunk
 KM : List Chunk
 ts : List Inl
def TI2.ok (t : TI2) : Prop := Sl 1 ty_Inline t.q t.n t.c t.vs t.RM ∧ t.n < 1073741824 ∧ InlsAt t.ts t.vs t.KM
def fillTI (x : TX) (t : TI2) : List Chunk := textC x.t x.s x.e t.q t.n t.c x.raw :: (t.RM ++ t.KM)
def fillsI : List TX → List TI2 → List Chunk
 | x :: xs, t :: ts => fillTI x t ++ fillsI xs ts
 | _, _ => []
inductive FilledI (G : List UInt8 → List Inl) : List TX → List TI2 → Prop where
 | nil : FilledI G [] []
 | cons {x : TX} {t : TI2} {xs : List TX} {ts : List TI2} : t.ok → t.ts = G x.raw → FilledI G xs ts → FilledI G (x :: xs) (t :: ts)
theorem FilledI.split {G : List UInt8 → List Inl} : ∀ {xs ys : List TX} {ts : List TI2}, FilledI G (xs ++ ys) ts → ∃ ts1 ts2, ts = ts1 ++ ts2 ∧ FilledI G xs ts1 ∧ FilledI G ys ts2
 | [], ys, ts, h => ⟨[], ts, rfl, .nil, h⟩
 | x :: xs, ys, ts, h => by
  cases h with
  | cons h1 h2 h3 =>
   obtain ⟨ts1, ts2, rfl, h4, h5⟩ := h3.split
   exact ⟨_ :: ts1, ts2, rfl, .cons h1 h2 h4, h5⟩
theorem FilledI.append {G : List UInt8 → List Inl} {xs ys : List TX} {ts us : List TI2} (h1 : FilledI G xs ts) (h2 : FilledI G ys us) : FilledI G (xs ++ ys) (ts ++ us) := by
 induction h1 with
 | nil => exact h2
 | cons a b _ ih => exact .cons a b ih
theorem fillsI_append {G : List UInt8 → List Inl} : ∀ {xs ys : List TX} {ts us : List TI2}, FilledI G xs ts → fillsI (xs ++ ys) (ts ++ us) = fillsI xs ts ++ fillsI ys us
 | _, _, _, _, .nil => rfl
 | _, _, _, _, .cons h1 h2 h3 => by simp only [List.cons_append, fillsI, List.append_assoc]; rw [fillsI_append h3]
def InlineI (lk : Option Nat) (L0 : List Chunk) (op : Opt) (s : List UInt8) (ts : List Inl) : Prop :=
 ∀ (σ : Out) (R : Ending → World → Prop) (b pb : Nat) (p : PS) (L : List Chunk) (w : World), (∀ c ∈ L0, c ∈ L) → Sat σ w (p.at b :: L) → p.pz = some ⟨pb, 0, none⟩ → op.at pb ∈ L → p.links = lk →
  (∀ w (p' : PS) q n c vs RM KM, p'.coreS = p.coreS → Sl 1 ty_Inline q n c vs RM → n < 1073741824 → InlsAt ts vs KM → Sat σ w (p'.at b :: (RM ++ (KM ++ L))) → R (.returned (.slice q n c)) w) →
  callE P i_parseState_inline #[.pointer (some ⟨b, 0, none⟩), .string (bs s)] R w
theorem texts_okI {b pb : Nat} {op : Opt} {G : List UInt8 → List Inl} {p : PS} {xs : List TX} {TM L0 : List Chunk} {lk : Option Nat} (h : Sat σ w (p.at b :: (TM ++ (xs.map TX.chunk ++ L)))) (ht : Txts p (xs.map TX.t) TM) (hpz : p.pz = some ⟨pb, 0, none⟩) (ho : op.at pb ∈ L) (hlk : p.links = lk) (hL0 : ∀ c ∈ L0, c ∈ L)
 (hLL : p.Lq = none ∧ p.Ln = 0 ∧ p.Lc = 0) (hI : ∀ x ∈ xs, InlineI lk L0 op x.raw (G x.raw))
 (hR : ∀ w (p' : PS) ts, p'.coreS = p.coreS → FilledI G xs ts → Sat σ w (p'.at b :: (TM ++ (fillsI xs ts ++ L))) → g_Parser_parse.k4 R b w) :
 g_Parser_parse.l2 R (some ⟨pb, 0, none⟩) b p.tq p.tn p.tc (p.tn : Nat) 0 w := by
 have hn : p.tn = xs.length := by rw [ht.2.1, List.length_map]
 have hx : xs.length < 1048576 := by have := ht.2.2; rwa [List.length_map] at this
 intro Y hY
 have h00 := h
 clear h
 have key : ∀ (xs2 xs1 : List TX) ts1 w (p1 : PS), xs1 ++ xs2 = xs → p1.coreS = p.coreS → FilledI G xs1 ts1 → Sat σ w (p1.at b :: (TM ++ (fillsI xs1 ts1 ++ (xs2.map TX.chunk ++ L)))) → Y (some ⟨pb, 0, none⟩) b p.tq p.tn p.tc (p.tn : Nat) (xs1.length : Nat) w := by
  intro xs2
  induction xs2 with
  | nil =>
   intro xs1 ts1 w p1 hxs hp1 hf h
   rw [List.append_nil] at hxs
   subst hxs
   have e1 : p1.Lq = none := by have := congrArg PS.Lq hp1; rw [show p1.Lq = p.Lq from this]; exact hLL.1
   have e2 : p1.Ln = 0 := by have := congrArg PS.Ln hp1; rw [show p1.Ln = p.Ln from this]; exact hLL.2.1
   have e3 : p1.Lc = 0 := by have := congrArg PS.Lc hp1; rw [show p1.Lc = p.Lc from this]; exact hLL.2.2
   have h : Sat σ w (p1.at b :: (TM ++ (fillsI xs1 ts1 ++ L))) := h
   have hm : op.at pb ∈ p1.at b :: (TM ++ (fillsI xs1 ts1 ++ L)) := by simp [ho]
   have fin : g_Parser_parse.k4 R b w := hR w p1 ts1 hp1 hf h
   refine hY _ _ _ _ _ _ _ _ (br_false (by simp; omega) (nilP_some ?_))
   simp only [Addr.add_lit, Nat.zero_add]
   refine ⟨op.task, Sat.ld h hm rfl, br_split (fun _ => ?_) (fun _ => fin)⟩
   refine ⟨_, _, _, Sat.ld h (.head _) (i := 10) rfl, ?_⟩
   rw [e1, e2, e3]
   intro Z hZ
   exact hZ _ _ _ _ _ _ _ (br_false rfl fin)
  | cons x xs2 ih =>
   intro xs1 ts1 w p1 hxs hp1 hf h
   have hlt : xs1.length < xs.length := by rw [← hxs]; simp
   obtain ⟨rb, sp, htq, rfl⟩ := ht.1.rowAt (by omega)
   refine hY _ _ _ _ _ _ _ _ (br_true (by simp; omega) ⟨by omega, by omega, ?_⟩)
   rw [htq]
   refine nilP_some ?_
   simp only [Addr.add_lit, Nat.zero_add, Int.toNat_natCast, Nat.mul_one]
   have hget : ((xs.map TX.t).map (fun t => Value.pointer (some ⟨t, 0, none⟩)) ++ sp)[xs1.length]? = some (.pointer (some ⟨x.t, 0, none⟩)) := by
    rw [List.getElem?_append_left (by simp; omega), ← hxs]; simp
   refine ⟨_, Sat.ld h (.tail _ (.head _)) hget, nilP_some ?_⟩
   simp only [Addr.add_lit, Nat.zero_add]
   have h : Sat σ w (p1.at b :: (x.chunk :: ([(rb, cel ((xs.map TX.t).map (fun t => Value.pointer (some ⟨t, 0, none⟩)) ++ sp) ty_P_Text)] ++ (fillsI xs1 ts1 ++ (xs2.map TX.chunk ++ L))))) := by
    rw [List.map_cons] at h
    exact h.re
   refine ⟨_, Sat.ld h (.tail _ (.head _)) (i := 3) rfl, ?_⟩
   have hc : p1.pz = some ⟨pb, 0, none⟩ := by have := congrArg PS.pz hp1; rw [show p1.pz = p.pz from this]; exact hpz
   have hk : p1.links = lk := by have := congrArg PS.links hp1; rw [show p1.links = p.links from this]; exact hlk
   refine hI x (by rw [← hxs]; simp) σ _ b pb p1 _ w (fun c hc => by simp [hL0 c hc]) h hc (by simp [ho]) hk fun w p2 q n c vs RM KM hp2 hS hn2 hP h => ⟨_, _, _, rfl, nilP_some ?_⟩
   have h : Sat σ w (textC x.t x.s x.e none 0 0 x.raw :: (p2.at b :: (RM ++ (KM ++ ([(rb, cel ((xs.map TX.t).map (fun t => Value.pointer (some ⟨t, 0, none⟩)) ++ sp) ty_P_Text)] ++ (fillsI xs1 ts1 ++ (xs2.map TX.chunk ++ L))))))) := by
    have h : Sat σ w (p2.at b :: (RM ++ (KM ++ (textC x.t x.s x.e none 0 0 x.raw :: ([(rb, cel ((xs.map TX.t).map (fun t => Value.pointer (some ⟨t, 0, none⟩)) ++ sp) ty_P_Text)] ++ (fillsI xs1 ts1 ++ (xs2.map TX.chunk ++ L))))))) := h
    exact h.re
   refine h.stA 0 fun w h => ?_
   have h : Sat σ w (textC x.t x.s x.e q n c x.raw :: (p2.at b :: (RM ++ (KM ++ ([(rb, cel ((xs.map TX.t).map (fun t => Value.pointer (some ⟨t, 0, none⟩)) ++ sp) ty_P_Text)] ++ (fillsI xs1 ts1 ++ (xs2.map TX.chunk ++ L))))))) := h
   rw [i64_inc (by omega)]
   have hf2 : FilledI G (xs1 ++ [x]) (ts1 ++ [⟨q, n, c, vs, RM, KM, G x.raw⟩]) := hf.append (.cons ⟨hS, hn2, hP⟩ rfl .nil)
   have := ih (xs1 ++ [x]) _ w p2 (by rw [← hxs]; simp) (hp2.trans hp1) hf2 ?_
   ·rw [List.length_append, List.length_singleton, htq] at this; exact this
   ·rw [fillsI_append hf]
    show Sat σ w (p2.at b :: ([(rb, cel ((xs.map TX.t).map (fun t => Value.pointer (some ⟨t, 0, none⟩)) ++ sp) ty_P_Text)] ++ ((fillsI xs1 ts1 ++ ((textC x.t x.s x.e q n c x.raw :: (RM ++ KM)) ++ [])) ++ (xs2.map TX.chunk ++ L))))
    exact h.re
 exact key xs [] [] w p rfl rfl .nil h00
def DB.tree (G : List UInt8 → List Inl) (d : DB) (x : IN) : Prop := ∀ ts, FilledI G d.txs ts → ∃ T, Gives i_impl_block x d.v T ∧ ∀ a, cnt a (d.own ++ fillsI d.txs ts) = cnt a T
inductive Trees (G : List UInt8 → List Inl) : List DB → List IN → Prop where
 | nil : Trees G [] []
 | cons {d : DB} {x : IN} {D : List DB} {xs : List IN} : d.tree G x → Trees G D xs → Trees G (d :: D) (x :: xs)
theorem docs_tree {G : List UInt8 → List Inl} {D : List DB} {xs : List IN} (h : Trees G D xs) : ∀ ts, FilledI G (txsC D) ts → ∃ KM, GivesL i_impl_block xs (D.map DB.v) KM ∧ ∀ a, cnt a (ownC D ++ fillsI (txsC D) ts) = cnt a KM := by
 induction h with
 | nil => intro ts ht; cases ht; exact ⟨[], .nil, fun a => rfl⟩
 | @cons d x D xs h1 h2 ih =>
  intro ts ht
  have e : txsC (d :: D) = d.txs ++ txsC D := by simp [txsC]
  rw [e] at ht ⊢
  obtain ⟨ts1, ts2, rfl, h3, h4⟩ := ht.split
  obtain ⟨KM, h5, h6⟩ := ih ts2 h4
  obtain ⟨T, h7, h8⟩ := h1 ts1 h3
  refine ⟨_, .cons h7 h5, fun a => ?_⟩
  have := h6 a
  have := h8 a
  rw [fillsI_append h3, show ownC (d :: D) = d.own ++ ownC D by simp [ownC]]
  simp only [cnt_append] at *
  omega
end Go.Proofs.YtgbgadkldalkbaaGreatDoor


set_option linter.unusedVariables false
namespace Go.Proofs.YtgbgadkldalkbaaGreatDoor
open Go.Proofs Go.IntWalk Go.RowKit
variable {σ : Out} {w : World} {L L' : List Chunk} {R : Ending → World → Prop}
def ParsesT (L0 : List Chunk) (op : Opt) (text : List UInt8) (Pq : List IN → Prop) : Prop :=
 ∀ (σ : Out) (R : Ending → World → Prop) (L : List Chunk) (w : World) (pb : Nat), (∀ c ∈ L0, c ∈ L) → Sat σ w L → op.at pb ∈ L →
  (∀ w db k s e xs DM, Gives i_impl_block (.mk { kind := 1, s := s, e := e } xs) (bkV ty_P_Document db) DM → Pq xs → Sat σ w (DM ++ L) → R (.returned (.tuple #[.pointer (some ⟨db, 0, none⟩), .bool k])) w) →
  callE P i_Parser_parse #[.pointer (some ⟨pb, 0, none⟩), .string (bs text)] R w
theorem parses_docT {L0 : List Chunk} {op : Opt} {text : List UInt8} {ls : List (List UInt8 × UInt8)} {G : List UInt8 → List Inl} {Pq : List IN → Prop} (hL : LinesOf text ls) (h0 : 0 ∉ text) (hlen : text.length < 1000000)
 (I : List (List UInt8 × UInt8) → Nat → List Bk → Leaf → Prop) (hI0 : ∀ root, root.isRoot → root.D = [] → I ls 0 [root] .none) (step : ∀ l nl rem n fs lf, I ((l, nl) :: rem) n fs lf → StepC L0 op (n + 1) l nl fs lf (I rem (n + 1)))
 (fin : ∀ n fs lf, I [] n fs lf → CloseAll op fs lf fun D => ∃ xs, Trees G D xs ∧ Pq xs ∧ ∀ x ∈ txsC D, InlineI none [] op x.raw (G x.raw)) : ParsesT L0 op text Pq := by
 intro σ R L w pb hL0 h ho hR
 refine g_Parser_parse.sound ?_
 refine Sat.bx h fun b w h => ?_
 refine h.stA 0 fun w h => ?_
 have h : Sat σ w ((PS0 (some ⟨pb, 0, none⟩)).at b :: L) := h
 refine zzContains_ok (sub := [0]) (by omega) (by decide) ⟨_, rfl, ?_⟩
 rw [idx_none h0]
 refine br_false rfl ?_
 refine h.stA 0 fun w h => ?_
 refine Sat.bx h fun rb w h => ?_
 let p0 : PS := { PS0 (some ⟨pb, 0, none⟩) with depth := -1 }
 have h : Sat σ w (p0.at b :: [] ++ ((rb, cel [] ty_rootBuilder) :: L)) := h.up1
 have hstk : Stk p0 [] [] := ⟨Sl.nil 4 ty_openBlock, rfl, by simp⟩
 refine addBlock_ok h hstk rfl (by decide) fun w p1 M hp1 hs1 h => ⟨rfl, ?_⟩
 intro X hX
 have hll := hL.len
 have e1 : p1.base = p0.base := by rw [hp1]; rfl
 have e2 : p1.lineno = 0 := by rw [hp1]; rfl
 have htx : Txts p1 [] [] := by
  have : p1.tq = none ∧ p1.tn = 0 ∧ p1.tc = 0 := by rw [hp1]; exact ⟨rfl, rfl, rfl⟩
  obtain ⟨a, b, c⟩ := this
  unfold Txts
  rw [a, b, c]
  exact ⟨Sl.nil 1 ty_P_Text, rfl, by simp⟩
 let root : Bk := ⟨⟨rootV rb, none, 0, 0, 0, 0⟩, [(rb, cel [] ty_rootBuilder)], [], []⟩
 have hd : DocC σ b L [root] .none p1 w := by
  refine ⟨M, [], [], [], hs1, htx, fun f hf => ?_, ⟨rfl, rfl⟩, ?_⟩
  ·obtain rfl := List.mem_singleton.1 hf
   exact ⟨Sl.nil 1 ty_Block, by simp [root], by show 0 < 1000000000; decide, by show 0 < 1000000000; decide⟩
  ·have em : memFs [root] = [(rb, cel [] ty_rootBuilder)] := by simp [root, memFs_one, ownC, txc, txsC]
   rw [em]
   exact h
 refine lines_okC (p0 := p0) (op := op) step hL0 hX ho rfl ?_ hL w p1 [root] .none hlen (by rw [e2]; omega) e1 (by rw [e2]; exact hI0 root ⟨rb, rfl, rfl⟩ rfl) hd
 intro w p fs lf hb hI hds
 have hpz0 : p.pz = some ⟨pb, 0, none⟩ := by have := congrArg PS.pz hb; exact this
 refine br_false (by rw [bs_toList, mk_toList]; rfl) ?_
 refine finishC_ok (fin _ fs lf hI) hds hpz0 ho fun w p' D' db IM TM q n c s e hb' hcl ht hIM hn h => ⟨rfl, ?_⟩
 obtain ⟨xs, hS, hout, hIn⟩ := hcl
 have hbb : p'.base = { p0.base with root := some ⟨db, 0, none⟩ } := by rw [hb', hb]
 have hpz : p'.pz = some ⟨pb, 0, none⟩ := by have := congrArg PS.pz hbb; exact this
 have hlk : p'.links = none := by have := congrArg PS.links hbb; exact this
 have hlk0 : p.links = none := by have := congrArg PS.links hb; exact this
 have hrt : p'.root = some ⟨db, 0, none⟩ := by have := congrArg PS.root hbb; exact this
 have hLL : p'.Lq = none ∧ p'.Ln = 0 ∧ p'.Lc = 0 := ⟨by have := congrArg PS.Lq hbb; exact this, by have := congrArg PS.Ln hbb; exact this, by have := congrArg PS.Lc hbb; exact this⟩
 refine ⟨_, _, _, Sat.ld h (.head _) (i := 11) rfl, ?_⟩
 refine texts_okI (op := op) (G := G) (L0 := []) h ht hpz (by simp [ho]) hlk (by simp) hLL hIn fun w p2 ts hp2 hf h => ?_
 have hrt2 : p2.root = some ⟨db, 0, none⟩ := by have := congrArg PS.root hp2; rw [show p2.root = p'.root from this]; exact hrt
 unfold g_Parser_parse.k4
 refine h.tk fun w h => ?_
 refine ⟨_, Sat.ld h (.head _) (i := 1) rfl, _, Sat.ld h (.head _) (i := 6) rfl, ?_⟩
 rw [hrt2]
 obtain ⟨KM, hG, hcnt⟩ := docs_tree hS ts hf
 rw [hlk0] at h
 refine hR w db p2.corner s e xs (docC db s e q n c none :: (IM ++ KM)) (gives_doc hIM hG (by omega)) hout ?_
 refine Sat.less (p2.at b :: TM) h fun a => ?_
 have := hcnt a
 simp only [List.append_eq, cnt_append, cnt_cons, cnt_nil] at this ⊢
 omega
theorem parseT_ok {op : Opt} {text : List UInt8} {Pq : List IN → Prop} (hP : ParsesT [] op text Pq) (h : Sat σ w L) (hR : ∀ w u M s e xs, NodeAt (.mk { kind := 1, s := s, e := e } xs) u M → Pq xs → Sat σ w (M ++ L) → R (.returned u.V) w) :
 callE P i_impl_Parse #[optV op, .string (bs text)] R w := by
 refine g_impl_Parse.sound ?_
 refine Sat.bx h fun b w h => ?_
 refine Sat.bx h fun b3 w h => ?_
 have ld : ∀ (k : Nat) (v : Bool), ([Value.bool op.strike, .bool op.task, .bool op.auto, .bool op.http, .bool op.table, .bool op.dot, .bool op.dash, .bool op.quote, .bool op.ids, .bool op.emoji])[k]? = some (.bool v) → w.cell? ⟨b, k, none⟩ = some (.bool v) := fun k v hv => Sat.ld h (.tail _ (.head _)) hv
 refine ⟨_, ld 0 _ rfl, _, ld 1 _ rfl, _, ld 2 _ rfl, _, ld 3 _ rfl, _, ld 4 _ rfl, _, ld 5 _ rfl, _, ld 6 _ rfl, _, ld 7 _ rfl, _, ld 8 _ rfl, _, ld 9 _ rfl, ?_⟩
 refine parser_ok (o := op) h fun w pb h => ⟨_, rfl, ?_⟩
 refine g_Parser_Parse.sound ?_
 refine hP σ _ _ w pb (by simp) h (.head _) fun w db k s e xs DM hG hq h => ⟨_, _, rfl, _, rfl, ?_⟩
 refine hG σ _ _ w h fun w u M hN h => rt16_mk ?_
 generalize hob : ((b, cel [Value.bool op.strike, .bool op.task, .bool op.auto, .bool op.http, .bool op.table, .bool op.dot, .bool op.dash, .bool op.quote, .bool op.ids, .bool op.emoji] ty_impl_Options) : Chunk) = ob at h
 have h : Sat σ w (M ++ (DM ++ (op.at pb :: (b3, cel (N16.C {}).toList ty_impl_Node) :: ob :: L))) := by rw [← hob]; rw [← hob] at h; exact h
 have h : Sat σ w ((b3, cel (N16.C {}).toList ty_impl_Node) :: (M ++ (DM ++ (op.at pb :: ob :: L)))) := h.re
 refine h.st16 0 {} u fun w h => h.ldB16 u (.head _) ?_
 refine hR w u M s e xs hN hq ?_
 exact h.less ((b3, cel u.C.toList ty_impl_Node) :: op.at pb :: ob :: DM)
end Go.Proofs.YtgbgadkldalkbaaGreatDoor


set_option linter.unusedVariables false
namespace Go.Proofs.YtgbgadkldalkbaaGreatDoor
open Go.Proofs Go.IntWalk Go.RowKit
variable {σ : Out} {w : World} {L L' : List Chunk} {R : Ending → World → Prop}
theorem Sat.buildN (h : Sat σ w L) (v : N10) {K : OA → Nat → Nat → World → Prop} (hK : ∀ b w', Sat σ w' ((b, cel v.C.toList ty_spec_Node) :: L) → K (some ⟨b, 0, none⟩) 1 1 w') :
 ∃ (q : OA), ∃ (n : Nat), ∃ (c : Nat), ∃ w', (Instr.buildSlice ty_S_spec_Node 1 #[(0, v.V)]).run P w = .ok (.slice q n c) w' ∧ K q n c w' := by
 have hrun := run_buildSlice (P := P) w ty_S_spec_Node ty_spec_Node 1 #[(0, v.V)] v.V.cells rowND.i rowND.z rowND.ht rowND.hi rowND.hz (by rw [rowND.hs]; decide) (by rw [rowND.hs]; decide) (by rw [rowND.hs]; exact fillND v)
 refine ⟨_, _, _, _, hrun, ?_⟩
 have ha := h.alc v.C.toList ty_spec_Node
 have e3 : YtgbgadkldalkbaaGreatDoor.alc w v.C.toList.toArray ty_spec_Node = w.alloc (.cells v.V.cells ty_spec_Node) := rfl
 rw [e3] at ha
 exact hK _ _ ha
theorem slN {b : Nat} {v : N10} : Sl 10 ty_spec_Node (some ⟨b, 0, none⟩) 1 1 v.C.toList [(b, cel v.C.toList ty_spec_Node)] := ⟨rfl, Nat.le_refl _, .inr ⟨b, [], rfl, by rw [List.append_nil], rfl⟩⟩
theorem bareAt {x : IN} {u : N16} {M : List Chunk} (hN : NodeAt x u M) (hf : x.fenced) : BareG x u M := by
 obtain ⟨h, ks, q, n, c, vs, RM, KM, rfl, rfl, rfl, a, b, d, e⟩ := hN
 obtain ⟨f1, f2⟩ := fenced_mk.1 hf
 exact bare_node (bareGs d f2) e b f1
end Go.Proofs.YtgbgadkldalkbaaGreatDoor

