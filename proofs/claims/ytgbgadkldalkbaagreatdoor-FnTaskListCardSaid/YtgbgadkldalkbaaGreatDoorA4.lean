/- Part 4 of the proof of the law FnTaskList: for every input the law returns true, the inputs read as they did, and memory that was there is as it was; under the conditions of the given row alone. -/
import Derived.Laws.StructEq
import Derived.Test.YtgbgadkldalkbaaGreatDoorA3
set_option linter.all false
set_option linter.unusedVariables false
set_option maxRecDepth 20000
namespace Go.Proofs.YtgbgadkldalkbaaGreatDoor
open Go.Proofs
namespace g_strings_Builder_grow
noncomputable def body : Code := bodyOf Tryz.f244
end g_strings_Builder_grow
def g_strings_Builder_grow (R : EP) (x0 : OA) (x1 : Int) (w : World) : Prop :=
 tk w fun w1 =>
 nilP x0 fun a2 =>
 nilP x0 fun a3 =>
 ∃ (v4q : OA), ∃ (v4n : Nat), ∃ (v4c : Nat), w1.cell? (a2.add 1) = some (.slice v4q v4n v4c) ∧
 ∃ (v5q : OA), ∃ (v5n : Nat), ∃ (v5c : Nat), w1.cell? (a3.add 1) = some (.slice v5q v5n v5c) ∧
 ∃ (r6 : Int), ∃ w7, (Builtin.cap_ #[ty_S_uint8] ty_int #[.slice v4q v4n v4c]).run P w1 = .ok (.int .i64 r6) w7 ∧
 SameC w1 w7 (a3.add 1) 1 ∧
 callE P i_internal_bytealg_MakeNoZero #[.int .i64 (IntKind.i64.wrap ((IntKind.i64.wrap (2 * r6)) + x1))] (fun e w9 => ∃ (r8q : OA), ∃ (r8n : Nat), ∃ (r8c : Nat), e = .returned (.slice r8q r8n r8c) ∧
 SameC w7 w9 (a3.add 1) 1 ∧
 ∃ (r10q : OA), ∃ (r10n : Nat), ∃ (r10c : Nat), (∀ w, (Instr.sliceAt ty_S_uint8 (.slice r8q r8n r8c) none (some (.int .i64 (v5n : Int))) none).run P w = .ok (.slice r10q r10n r10c) w) ∧
 nilP x0 fun a11 =>
 ∃ (v12q : OA), ∃ (v12n : Nat), ∃ (v12c : Nat), w9.cell? (a11.add 1) = some (.slice v12q v12n v12c) ∧
 ∃ (r13 : Int), ∃ w14, (Builtin.copy_ #[ty_S_uint8, ty_S_uint8] ty_int #[.slice r10q r10n r10c, .slice v12q v12n v12c]).run P w9 = .ok (.int .i64 r13) w14 ∧
 nilP x0 fun a15 =>
 stV w14 ((a15.add 1).add 0) (.slice r10q r10n r10c) fun w16 =>
 R (.returned (.tuple #[])) w16) w7

namespace g_strings_Builder_grow
noncomputable def ac (R : EP) : AC :=
 (.seq (.draw (.pure 0 (.pure 1 (.pure 2 (.pure 6 (.pure 9 (.pure 10 (.pure 11 (.load 3 (.load 12 (.pure 13 (.one 4 (.pure 5 (.pure 7 (.one 8 (.pure 14 (.pure 15 .done)))))))))))))))) (sel [0] body)) (.leaf (sel [1] body)))
theorem good (R : EP) : Good P 30 (ac R) (QF P [] R) :=
 ⟨⟨by kernel_rfl, by kernel_rfl, fun _ _ _ h => h⟩, trivial⟩
theorem eq (R : EP) (x0 : OA) (x1 : Int) (w : World) : g_strings_Builder_grow R x0 x1 w = vcA P 30 (ac R) (QF P [] R) (fr0 [.pointer x0, .int .i64 x1]) w := by kernel_rfl
theorem sound {R : EP} {x0 : OA} {x1 : Int} {w : World} (h : g_strings_Builder_grow R x0 x1 w) : callE P i_strings_Builder_grow #[.pointer x0, .int .i64 x1] R w :=
 callE_fz (c := body) Tryz.func244 Tryz.call244 (good R) (eq R x0 x1 w) h
end g_strings_Builder_grow
end Go.Proofs.YtgbgadkldalkbaaGreatDoor

set_option linter.unusedVariables false
namespace Go.Proofs.YtgbgadkldalkbaaGreatDoor
open Go.Proofs Go.IntWalk Go.RowKit
variable {σ : Out} {w : World} {L L' : List Chunk} {R : Ending → World → Prop}
theorem makeNoZero_ok {n : Nat} (hn : n ≤ 1099511627776) (h : Sat σ w L) (hR : ∀ w b cs, n ≤ cs.length → cs.length ≤ 9223372036854775807 → Sat σ w ((b, cel cs ty_uint8) :: L) → R (.returned (.slice (some ⟨b, 0, none⟩) n cs.length)) w) :
 callE P i_internal_bytealg_MakeNoZero #[.int .i64 n] R w := by
 obtain ⟨cs, hr, h1, h2⟩ := Lib.run_makeNoZero (P := P) w x_internal_bytealg_MakeNoZero.params ty_S_uint8 ty_uint8 rowU8.ht n (by omega)
 refine ext_of (e := Extern.BytealgMakeNoZero.makeNoZero x_internal_bytealg_MakeNoZero.params #[ty_S_uint8]) xf_internal_bytealg_MakeNoZero (by kernel_rfl) (by kernel_rfl) (by kernel_rfl) (by kernel_rfl) hr ?_
 have hd : Sat σ w.drew.drew L := h.drew.drew
 have ha := hd.alc cs.toList ty_uint8
 have e3 : YtgbgadkldalkbaaGreatDoor.alc w.drew.drew cs.toList.toArray ty_uint8 = w.drew.drew.alloc (.cells cs ty_uint8) := by rw [Array.toArray_toList]; rfl
 rw [e3] at ha
 have h3 := h2 (by unfold maxLen; omega)
 unfold maxLen at h3
 exact hR _ _ cs.toList (by simpa using h1) (by simpa using h3) ha
theorem copyNone (w : World) (b c : Nat) : (Builtin.copy_ #[ty_S_uint8, ty_S_uint8] ty_int #[.slice (some ⟨b, 0, none⟩) 0 c, .slice none 0 0]).run P w = .ok (.int .i64 0) w := by
 have h : P.underlying ty_S_uint8 = some (.slice ty_uint8) := rowU8.ht
 have h2 : P.info? ty_uint8 = some rowU8.i := rowU8.hi
 have h4 : (Builtin.lenOf (.slice none 0 0)).run P w = .ok 0 w := rfl
 have h5 : rowU8.i.size = 1 := rowU8.hs
 have h6 : (Builtin.firstCells 1 0 (.slice none 0 0)).run P w = .ok #[] w := run_firstCells_none w 1 0 0 0
 simp [Builtin.copy_, run_underlying h, sizeOf, typeInfo, h2, goInt, h4, h5, h6, storeCells]
theorem bldGrow_ok {b n : Nat} {M : List Chunk} (hB : Bld b false [] M) (h : Sat σ w (M ++ L)) (hn : 0 < n) (hn2 : n ≤ 1099511627776) (hR : ∀ w M', Bld b true [] M' → Sat σ w (M' ++ L) → R (.returned (.tuple #[])) w) :
 callE P i_strings_Builder_Grow #[.pointer (some ⟨b, 0, none⟩), .int .i64 n] R w := by
 obtain ⟨p, q, c, M0, rfl, hS, hp, hg, hc⟩ := hB
 have hq : q = none := by cases q <;> simp_all
 subst hq
 obtain ⟨_, _, ⟨_, _, rfl, rfl⟩ | ⟨_, _, h, _⟩⟩ := hS
 rotate_left
 ·cases h
 refine g_strings_Builder_Grow.sound ?_
 refine copyCheck_ok h hp fun w h => ⟨rfl, br_false (by simp) ?_⟩
 refine h.tk fun w h => ?_
 refine nilP_some (nilP_some ?_)
 refine ⟨_, _, _, h.ldA, ?_⟩
 refine ⟨_, _, _, h.ldA, ?_⟩
 refine ⟨_, _, capRun _ _ _ _ _ _ rowU8.ht w, fun _ _ => rfl, ?_⟩
 refine br_true (by simp (disch := omega) only [i64_in]; simp; omega) ?_
 refine g_strings_Builder_grow.sound ?_
 refine h.tk fun w h => ?_
 refine nilP_some (nilP_some ?_)
 refine ⟨_, _, _, h.ldA, ?_⟩
 refine ⟨_, _, _, h.ldA, ?_⟩
 refine ⟨_, _, capRun _ _ _ _ _ _ rowU8.ht w, fun _ _ => rfl, ?_⟩
 have e1 : IntKind.i64.wrap (IntKind.i64.wrap (2 * ((0 : Nat) : Int)) + (n : Int)) = (n : Int) := by rw [i64_in (2 * _) (by omega), i64_in _ (by omega)]; omega
 rw [e1]
 have h0 := h
 refine makeNoZero_ok hn2 h fun w rb cs h1 h2 h => ⟨_, _, _, rfl, h0.same h (.head _) (.tail _ (.head _)) 1, ?_⟩
 refine ⟨_, _, _, fun w => sliceT rowU8.ht rowU8.hi _ n cs.length 0 (by omega) w, ?_⟩
 refine nilP_some ?_
 refine ⟨_, _, _, h.ldA, ?_⟩
 refine ⟨_, _, copyNone w rb cs.length, ?_⟩
 refine nilP_some ?_
 refine h.stA 1 fun w h => ?_
 have h : Sat σ w ((rb, cel cs ty_uint8) :: bldC b (some ⟨b, 0, none⟩) (some ⟨rb, 0, none⟩) 0 cs.length :: L) := h
 refine ⟨rfl, hR w [bldC b (some ⟨b, 0, none⟩) (some ⟨rb, 0, none⟩) 0 cs.length, (rb, cel cs ty_uint8)] ⟨_, _, _, _, rfl, ⟨by simp [bc], by omega, .inr ⟨rb, cs, rfl, by simp [bc], by simp [bc]⟩⟩, .inr rfl, rfl, fun _ => by omega⟩ ?_⟩
 exact h.re
def sv (ts : List (List UInt8)) : List Value := ts.map fun t => .string (bs t)
@[simp] theorem sv_length (ts : List (List UInt8)) : (sv ts).length = ts.length := by simp [sv]
theorem sv_get {ts : List (List UInt8)} {j : Nat} (h : j < ts.length) : (sv ts)[j]? = some (.string (bs ts[j])) := by simp [sv, h]
def joinL (sep : List UInt8) : List (List UInt8) → List UInt8
 | [] => []
 | t :: ts => t ++ ts.flatMap (fun u => sep ++ u)
def sumL (ts : List (List UInt8)) : Nat := (ts.map List.length).sum
theorem joinL_length (sep : List UInt8) (t : List UInt8) (ts : List (List UInt8)) : (joinL sep (t :: ts)).length = t.length + sumL ts + ts.length * sep.length := by
 simp only [joinL, List.length_append, sumL]
 induction ts with
 | nil => simp
 | cons u ts ih => simp only [List.flatMap_cons, List.length_append, List.map_cons, List.sum_cons, List.length_cons] at *; rw [Nat.add_mul]; omega
theorem Sl.rowAt {e : TypeId} {q : Option Addr} {n c : Nat} {vs : List Value} {M : List Chunk} (hS : Sl 1 e q n c vs M) (hn : 0 < n) : ∃ b sp, q = some ⟨b, 0, none⟩ ∧ M = [(b, cel (vs ++ sp) e)] := by
 obtain ⟨_, _, ⟨_, h, _, _⟩ | ⟨b, sp, h1, h2, _⟩⟩ := hS
 ·omega
 ·exact ⟨b, sp, h1, h2⟩
theorem join_ok {q : Option Addr} {n c : Nat} {t : List UInt8} {ts : List (List UInt8)} {AM : List Chunk} {sep : List UInt8} (hS : Sl 1 ty_string q n c (sv (t :: ts)) AM) (h : Sat σ w (AM ++ L)) (hne : 1 ≤ ts.length) (hn : n < 1073741824) (hsep : sep.length < 65536)
 (h0 : 0 < (joinL sep (t :: ts)).length) (hb : (joinL sep (t :: ts)).length < 1073741824) (hR : ∀ w, Sat σ w (AM ++ L) → R (.returned (.string (bs (joinL sep (t :: ts))))) w) : callE P i_strings_Join #[.slice q n c, .string (bs sep)] R w := by
 have hl := hS.1
 rw [sv_length, List.length_cons] at hl
 have hjl := joinL_length sep t ts
 refine g_strings_Join.sound ?_
 obtain ⟨rb, sp, rfl, rfl⟩ := hS.rowAt (by omega)
 refine br_false (by simp; omega) (br_false (by simp; omega) ?_)
 have fin : ∀ w, Sat σ w ([(rb, cel (sv (t :: ts) ++ sp) ty_string)] ++ L) → box w #[.pointer none, .slice none 0 0] ty_strings_Builder fun b5 w6 =>
  callE P i_strings_Builder_Grow #[.pointer (some ⟨b5, 0, none⟩), .int .i64 (((joinL sep (t :: ts)).length : Nat) : Int)] (fun e w8 => e = .returned (.tuple #[]) ∧
  0 ≤ (0 : Int) ∧ 0 < (n : Int) ∧
  nilP (some (⟨rb, 0, none⟩ : Addr)) fun a9 =>
  ∃ (v10 : ByteArray), w8.cell? (a9.add (Int.toNat 0 * 1)) = some (.string v10) ∧
  callE P i_strings_Builder_WriteString #[.pointer (some ⟨b5, 0, none⟩), .string v10] (fun e w12 => ∃ (r11_0 : Int), ∃ (r11_1 : Value), e = .returned (.tuple #[.int .i64 r11_0, r11_1]) ∧
  ∃ (r13q : Option Addr), ∃ (r13n : Nat), ∃ (r13c : Nat), ∃ w14, (Instr.sliceAt ty_S_string (.slice (some ⟨rb, 0, none⟩) n c) (some (.int .i64 1)) none none).run P w12 = .ok (.slice r13q r13n r13c) w14 ∧
  g_strings_Join.l2 R (bs sep) b5 r13q r13n r13c (r13n : Int) 0 w14) w8) w6 := by
  intro w h
  refine Sat.bx h fun b w h => ?_
  refine bldGrow_ok (bldNew b) h h0 (by omega) fun w M hB h => ⟨rfl, by omega, by omega, nilP_some ?_⟩
  refine ⟨bs t, Sat.ld h (List.mem_append_right _ (.head _)) rfl, ?_⟩
  refine bldS_ok hB h (.inr rfl) (by simp; omega) fun w M hB h => ⟨_, _, rfl, ?_⟩
  refine ⟨_, _, _, _, sliceF rowStr.ht rowStr.hi _ n c 1 (by omega) w, ?_⟩
  have hnc := hS.2.1
  rw [if_neg (by omega), rowStr.hs]
  simp only [Option.map_some, Addr.add_lit, Nat.zero_add, Nat.mul_one]
  rw [List.nil_append] at hB
  intro Y hY
  have key : ∀ k j (l : List UInt8) M w, j + k = ts.length → Bld b true l M → Sat σ w (M ++ ([(rb, cel (sv (t :: ts) ++ sp) ty_string)] ++ L)) → l ++ (ts.drop j).flatMap (fun u => sep ++ u) = joinL sep (t :: ts) →
   Y (bs sep) b (some ⟨rb, 1, none⟩) (n - 1) (c - 1) ((n - 1 : Nat) : Int) (j : Int) w := by
   intro k
   induction k with
   | zero =>
    intro j l M w hj hB h hl2
    rw [List.drop_eq_nil_of_le (by omega)] at hl2
    simp only [List.flatMap_nil, List.append_nil] at hl2
    refine hY _ _ _ _ _ _ _ _ (br_false (by simp; omega) ?_)
    refine bldStr_ok hB h (by rw [hl2]; omega) fun w h => ⟨_, rfl, ?_⟩
    rw [hl2]
    exact hR w h
   | succ k ih =>
    intro j l M w hj hB h hl2
    have hjl : j < ts.length := by omega
    rw [List.drop_eq_getElem_cons hjl, List.flatMap_cons, ← List.append_assoc, ← List.append_assoc] at hl2
    have hlb : (l ++ sep ++ ts[j]).length ≤ (joinL sep (t :: ts)).length := by rw [← hl2]; simp only [List.length_append]; omega
    simp only [List.length_append] at hlb
    refine hY _ _ _ _ _ _ _ _ (br_true (by simp; omega) ⟨by omega, by omega, nilP_some ?_⟩)
    simp only [Addr.add_lit, Int.toNat_natCast, Nat.mul_one]
    have hg : (sv (t :: ts) ++ sp)[1 + j]? = some (.string (bs ts[j])) := by
     rw [List.getElem?_append_left (by simp; omega), show 1 + j = j + 1 by omega, sv_get (by simp; omega)]; rfl
    refine ⟨_, Sat.ld h (List.mem_append_right _ (.head _)) hg, ?_⟩
    refine bldS_ok hB h (.inr rfl) (by omega) fun w M hB h => ⟨_, _, rfl, ?_⟩
    refine bldS_ok hB h (.inr rfl) (by simp; omega) fun w M hB h => ⟨_, _, rfl, ?_⟩
    rw [i64_inc (by omega)]
    exact ih (j + 1) _ M w (by omega) hB h hl2
  exact key ts.length 0 t M w (by omega) hB h rfl
 have sum : ∀ w (a : Nat), a = ts.length * sep.length → Sat σ w ([(rb, cel (sv (t :: ts) ++ sp) ty_string)] ++ L) → g_strings_Join.k2 R (some ⟨rb, 0, none⟩) n c (bs sep) (a : Int) w := by
  intro w a ha h X hX
  have key : ∀ k j (s : Nat), j + k = (t :: ts).length → s + sumL ((t :: ts).drop j) = (joinL sep (t :: ts)).length → X (some ⟨rb, 0, none⟩) n c (bs sep) (s : Int) (some ⟨rb, 0, none⟩) n c (n : Int) (j : Int) w := by
   intro k
   induction k with
   | zero =>
    intro j s hj hs
    rw [List.drop_eq_nil_of_le (by omega)] at hs
    simp only [sumL, List.map_nil, List.sum_nil, Nat.add_zero] at hs
    subst hs
    refine hX _ _ _ _ _ _ _ _ _ _ _ (br_false (by simp at hj; simp; omega) ?_)
    exact fin w h
   | succ k ih =>
    intro j s hj hs
    have hjl : j < (t :: ts).length := by omega
    rw [List.drop_eq_getElem_cons hjl] at hs
    simp only [sumL, List.map_cons, List.sum_cons] at hs
    have hjn : j < n := by simp at hjl; omega
    refine hX _ _ _ _ _ _ _ _ _ _ _ (br_true (by simp; omega) ⟨by omega, by omega, nilP_some ?_⟩)
    simp only [Addr.add_lit, Int.toNat_natCast, Nat.mul_one, Nat.zero_add]
    have hg : (sv (t :: ts) ++ sp)[j]? = some (.string (bs (t :: ts)[j])) := by
     rw [List.getElem?_append_left (by simp at hjl ⊢; omega), sv_get hjl]
    refine ⟨_, Sat.ld h (.head _) hg, ?_⟩
    rw [bs_size]
    refine br_false (by simp (disch := omega) only [i64_in]; simp; omega) ?_
    show X _ _ _ _ _ _ _ _ _ _ w
    rw [i64_inc (by omega), bs_size, i64_in _ (by omega), show (s : Int) + ((t :: ts)[j].length : Nat) = ((s + (t :: ts)[j].length : Nat) : Int) by omega]
    exact ih (j + 1) _ (by omega) (by simp only [sumL]; omega)
  refine key (t :: ts).length 0 a (by omega) ?_
  rw [hjl, ha]
  simp [sumL]
  omega
 have hmul : ts.length * sep.length < 1073741824 := by omega
 by_cases hs0 : sep = []
 ·subst hs0
  refine br_false (by simp) ?_
  exact sum w 0 (by simp) h
 ·refine br_true (by simpa using List.length_pos_iff.2 hs0) ?_
  have hn1 : IntKind.i64.wrap ((n : Int) - 1) = ((ts.length : Nat) : Int) := by simp (disch := omega) only [i64_in]; omega
  refine ⟨by rw [hn1]; omega, br_false ?_ ?_⟩
  ·rw [hn1]
   have hq : Int.tdiv 9223372036854775807 (ts.length : Int) = ((9223372036854775807 / ts.length : Nat) : Int) := by
    rw [Int.tdiv_eq_ediv_of_nonneg (by omega)]; simp
   rw [hq]
   have hge : 65536 ≤ 9223372036854775807 / ts.length := by
    rw [Nat.le_div_iff_mul_le (by omega)]; omega
   have hle : 9223372036854775807 / ts.length ≤ 9223372036854775807 := Nat.div_le_self _ _
   rw [i64_in _ (by omega), bs_size]
   exact decide_eq_false (by omega)
  ·show g_strings_Join.k2 R _ n c (bs sep) _ w
   rw [hn1, bs_size]
   have : IntKind.i64.wrap (0 + IntKind.i64.wrap ((sep.length : Int) * (ts.length : Int))) = ((ts.length * sep.length : Nat) : Int) := by
    have e : ((sep.length : Int) * (ts.length : Int)) = ((ts.length * sep.length : Nat) : Int) := by rw [Nat.mul_comm]; simp
    generalize ts.length * sep.length = m at hmul e ⊢
    rw [e, i64_in (m : Int) (by omega), Int.zero_add, i64_in (m : Int) (by omega)]
   rw [this]
   exact sum w _ rfl h
end Go.Proofs.YtgbgadkldalkbaaGreatDoor


set_option linter.unusedVariables false
namespace Go.Proofs.YtgbgadkldalkbaaGreatDoor
open Go.Proofs Go.IntWalk Go.RowKit
variable {σ : Out} {w : World} {L L' : List Chunk} {R : Ending → World → Prop}
structure TX where
 t : Nat
 s : Nat
 e : Nat
 raw : List UInt8
def TX.chunk (x : TX) : Chunk := textC x.t x.s x.e none 0 0 x.raw
structure DB where
 v : Value
 own : List Chunk
 txs : List TX
def ownC (D : List DB) : List Chunk := D.flatMap DB.own
def txsC (D : List DB) : List TX := D.flatMap DB.txs
theorem ownC_snoc (D : List DB) (d : DB) : ownC (D ++ [d]) = ownC D ++ d.own := by simp [ownC]
theorem txsC_snoc (D : List DB) (d : DB) : txsC (D ++ [d]) = txsC D ++ d.txs := by simp [txsC]
def paraOB (qb s e : Nat) : OB := ⟨.iface ty_P_paraBuilder (.pointer (some ⟨qb, 0, none⟩)), none, 0, 0, s, e⟩
theorem lines_join {q : Option Addr} {n c : Nat} {ts : List (List UInt8)} {AM : List Chunk} (hS : Sl 1 ty_string q n c (ts.map fun t => .string (bs t)) AM) (h : Sat σ w (AM ++ L)) (hne : ts ≠ []) (hn : ts.length < 1048576)
 (h0 : joinL [10] ts ≠ []) (hb : (joinL [10] ts).length < 1073741824) (hR : ∀ w, Sat σ w (AM ++ L) → R (.returned (.string (bs (joinL [10] ts)))) w) : callE P i_strings_Join #[.slice q n c, .string (bs [10])] R w := by
 have hl := hS.1
 simp only [List.length_map, Nat.mul_one] at hl
 match ts, hne with
 | [t], _ =>
  obtain rfl : n = 1 := by simpa using hl.symm
  have e : joinL [10] [t] = t := by simp [joinL]
  rw [e] at hR
  exact join_one h hS hR
 | t :: u :: ts, _ =>
  exact join_ok (t := t) (ts := u :: ts) hS h (by simp) (by omega) (by decide) (List.length_pos_iff.2 h0) hb hR
theorem paraBuild_ok {b qb : Nat} {p : PS} {ob : List OB} {o : OB} {M TM PM : List Chunk} {ts : List Nat} {ls : List (List UInt8)} {s : List UInt8} (h : Sat σ w (p.at b :: M ++ (TM ++ (PM ++ L)))) (hs : Stk p (ob ++ [o]) M)
 (ht : Txts p ts TM) (hts : ts.length < 1048575) (hp : ParaAt qb ls PM) (hls : ls ≠ []) (hln : ls.length < 1048576) (hj : joinL [10] ls = s) (hl : s.length < 1073741824) (hne : s ≠ []) (hb : NoRef s) (ho : o.s < 1000000000)
 (hR : ∀ w p' TM' t nb, p' = { p with tq := p'.tq, tn := ts.length + 1, tc := p'.tc } → Txts p' (ts ++ [t]) TM' →
  Sat σ w (p'.at b :: M ++ (TM' ++ (PM ++ (paraC nb o.s (o.s + ls.length - 1) t :: textC t o.s (o.s + ls.length - 1) none 0 0 s :: L)))) → R (.returned (.iface ty_P_Paragraph (.pointer (some ⟨nb, 0, none⟩)))) w) :
 callE P i_paraBuilder_build #[.pointer (some ⟨qb, 0, none⟩), .iface ty_P_parseState (.pointer (some ⟨b, 0, none⟩))] R w := by
 obtain ⟨q, c, SM, hS, rfl⟩ := hp
 have hll : 1 ≤ ls.length := List.length_pos_iff.2 hls
 refine g_paraBuilder_build.sound ?_
 have h : Sat σ w (p.at b :: M ++ (TM ++ (((qb, cel [.slice q ls.length c, .pointer none] ty_paraBuilder) :: SM) ++ L))) := h
 have h : Sat σ w ((qb, cel [.slice q ls.length c, .pointer none] ty_paraBuilder) :: (SM ++ (p.at b :: M ++ (TM ++ L)))) := h.re
 repeat (first | refine nilP_some ?_ | refine h.tk fun w h => ?_ | refine ⟨_, h.ldA, ?_⟩ | refine ⟨_, _, _, h.ldA, ?_⟩)
 refine ⟨_, w, ne_ptr_nil und_table _ _ _ w, br_false rfl ?_⟩
 repeat (first | refine nilP_some ?_ | refine h.tk fun w h => ?_ | refine ⟨_, h.ldA, ?_⟩ | refine ⟨_, _, _, h.ldA, ?_⟩)
 have h : Sat σ w (SM ++ ((qb, cel [.slice q ls.length c, .pointer none] ty_paraBuilder) :: (p.at b :: M ++ (TM ++ L)))) := h.re
 refine lines_join hS h hls hln (by rw [hj]; exact hne) (by rw [hj]; exact hl) fun w h => ⟨_, rfl, ?_⟩
 rw [hj]
 intro X hX
 have hse : ((bs s).toList == (ByteArray.mk #[]).toList) = false := by rw [bs_toList, mk_toList]; simpa using hne
 refine hX _ _ _ _ (br_true (by rw [hse]; rfl) ?_)
 refine hb _ _ _ ⟨_, _, rfl, br_true rfl ?_⟩
 refine br_false hse ?_
 have h : Sat σ w (p.at b :: M ++ (TM ++ (SM ++ (qb, cel [.slice q ls.length c, .pointer none] ty_paraBuilder) :: L))) := h.re
 refine enter_meth meth_pos ?_
 refine pos_ok h hs fun w h => ⟨_, _, rfl, ?_⟩
 refine Sat.bx h fun zb w h => ?_
 repeat (first | refine nilP_some ?_ | refine h.tk fun w h => ?_ | refine ⟨_, h.ldA, ?_⟩ | refine ⟨_, _, _, h.ldA, ?_⟩ | refine h.stA 0 fun w h => ?_ | refine h.stA 1 fun w h => ?_ | refine h.stA 2 fun w h => ?_ | refine h.stA 3 fun w h => ?_ | refine h.stA 4 fun w h => ?_ | refine h.stA 5 fun w h => ?_ | refine h.stA 6 fun w h => ?_ | refine h.bx fun b0 w h => ?_)
 have h : Sat σ _ ((zb, cel [.int .i64 o.s, .int .i64 o.e] ty_Position) :: (p.at b :: M ++ (TM ++ (SM ++ (qb, cel [.slice q ls.length c, .pointer none] ty_paraBuilder) :: L)))) := h
 have h : Sat σ _ ((zb, cel [.int .i64 o.s, .int .i64 o.e] ty_Position) :: (qb, cel [.slice q ls.length c, .pointer none] ty_paraBuilder) :: (p.at b :: M ++ (TM ++ (SM ++ L)))) := h.re
 refine ⟨_, _, _, h.ldA, ?_⟩
 refine h.stA 0 fun w h => ?_
 refine h.tk fun w h => ?_
 refine ⟨_, h.ldA, ?_⟩
 refine ⟨_, h.ldA, ?_⟩
 refine ⟨_, h.ldA, ?_⟩
 refine ⟨_, h.ldA, ?_⟩
 have e1 : IntKind.i64.wrap (IntKind.i64.wrap ((o.s : Int) + ((ls.length : Nat) : Int)) - 1) = ((o.s + ls.length - 1 : Nat) : Int) := by
  rw [i64_in (_ + _) (by omega), i64_in _ (by omega)]; omega
 rw [e1] at h ⊢
 have h : Sat σ _ ((zb, cel [.int .i64 o.s, .int .i64 (o.s + ls.length - 1 : Nat)] ty_Position) :: (qb, cel [.slice q ls.length c, .pointer none] ty_paraBuilder) :: (p.at b :: M ++ (TM ++ (SM ++ L)))) := h
 have hz := h
 have h : Sat σ _ (p.at b :: TM ++ ((zb, cel [.int .i64 o.s, .int .i64 (o.s + ls.length - 1 : Nat)] ty_Position) :: (qb, cel [.slice q ls.length c, .pointer none] ty_paraBuilder) :: (M ++ (SM ++ L)))) := h.re
 refine enter_meth meth_newText ?_
 refine newText_ok h ht hts fun w p' TM' t hp' ht' h => ⟨_, rfl, ?_⟩
 refine ⟨hz.same h (.head _) (by simp) 2, ?_⟩
 refine Sat.bx h fun nb w h => ?_
 have h : Sat σ w (paraC nb o.s (o.s + ls.length - 1) t :: (p'.at b :: TM' ++ (textC t o.s (o.s + ls.length - 1) none 0 0 s :: ((zb, cel [.int .i64 o.s, .int .i64 (o.s + ls.length - 1 : Nat)] ty_Position) :: (qb, cel [.slice q ls.length c, .pointer none] ty_paraBuilder) :: (M ++ (SM ++ L)))))) := h
 refine hR w p' TM' t nb hp' ht' ?_
 have h := Sat.less (L' := p'.at b :: M ++ (TM' ++ (((qb, cel [.slice q ls.length c, .pointer none] ty_paraBuilder) :: SM) ++ (paraC nb o.s (o.s + ls.length - 1) t :: textC t o.s (o.s + ls.length - 1) none 0 0 s :: L)))) [(zb, cel [.int .i64 o.s, .int .i64 (o.s + ls.length - 1 : Nat)] ty_Position)] h
 exact h
theorem closePara_ok {b qb : Nat} {p : PS} {ob : List OB} {par o : OB} {M TM PM IM : List Chunk} {inner : List Value} {ts : List Nat} {ls : List (List UInt8)} {s : List UInt8} (h : Sat σ w (p.at b :: M ++ (IM ++ (TM ++ (PM ++ L))))) (hs : Stk p (ob ++ [par] ++ [o]) M)
 (ho : o.bd = .iface ty_P_paraBuilder (.pointer (some ⟨qb, 0, none⟩))) (hI : Sl 1 ty_Block par.q par.n par.c inner IM) (hin : par.n < 1000000)
 (ht : Txts p ts TM) (hts : ts.length < 1048575) (hp : ParaAt qb ls PM) (hls : ls ≠ []) (hln : ls.length < 1048576) (hj : joinL [10] ls = s) (hl : s.length < 1073741824) (hne : s ≠ []) (hb : NoRef s) (hos : o.s < 1000000000)
 (hR : ∀ w p' M' IM' TM' t nb q' c' x, p' = { p with stn := ob.length + 1, tq := p'.tq, tn := ts.length + 1, tc := p'.tc } → Stk p' (ob ++ [{ par with q := q', n := par.n + 1, c := c' }]) M' → Txts p' (ts ++ [t]) TM' →
  Sl 1 ty_Block q' (par.n + 1) c' (inner ++ [.iface ty_P_Paragraph (.pointer (some ⟨nb, 0, none⟩))]) IM' →
  Sat σ w (p'.at b :: M' ++ (IM' ++ (TM' ++ (paraC nb o.s (o.s + ls.length - 1) t :: textC t o.s (o.s + ls.length - 1) none 0 0 s :: L)))) → R (.returned x) w) :
 callE P i_parseState_closeBlock #[.pointer (some ⟨b, 0, none⟩)] R w := by
 refine closeBlock_ok (ob := ob) (par := par) (IM := IM) (inner := inner) (fun p1 L1 tb q => ∃ TM' t nb, p1 = { p with tq := p1.tq, tn := ts.length + 1, tc := p1.tc } ∧ Txts p1 (ts ++ [t]) TM' ∧
  L1 = TM' ++ (PM ++ (paraC nb o.s (o.s + ls.length - 1) t :: textC t o.s (o.s + ls.length - 1) none 0 0 s :: L)) ∧ tb = ty_P_Paragraph ∧ q = some ⟨nb, 0, none⟩) h hs ho hI hin ?_ ?_
 ·intro R' w h hk
  rw [ho]
  have h : Sat σ w (p.at b :: M ++ (TM ++ (PM ++ (IM ++ L)))) := h.re
  refine enter_meth meth_paraBuild ?_
  refine paraBuild_ok (ob := ob ++ [par]) (o := o) (ts := ts) h hs ht hts hp hls hln hj hl hne hb hos fun w p' TM' t nb hp' ht' h => ?_
  exact hk w p' _ ty_P_Paragraph _ (by rw [hp']) (by rw [hp']) (by rw [hp']) (by decide) ⟨TM', t, nb, hp', ht', rfl, rfl, rfl⟩ (h.re)
 ·intro w p2 M2 IM2 p1 L1 tb q q' c' hpost hp2 hs2 hI2 h
  obtain ⟨TM', t, nb, hp1, ht1, rfl, rfl, rfl⟩ := hpost
  refine hR w p2 M2 IM2 TM' t nb q' c' _ ?_ hs2 (ht1.of (by rw [hp2]) (by rw [hp2]) (by rw [hp2])) hI2 (h.less PM)
  rw [hp2, hp1]
end Go.Proofs.YtgbgadkldalkbaaGreatDoor


set_option linter.unusedVariables false
namespace Go.Proofs.YtgbgadkldalkbaaGreatDoor
open Go.Proofs Go.IntWalk Go.RowKit
variable {σ : Out} {w : World} {L L' : List Chunk} {R : Ending → World → Prop}
inductive Leaf where
 | none
 | para (ls : List (List UInt8))
 | other (A : List OB → List Chunk → Prop)
def LeafAt : Leaf → List OB → List Chunk → Prop
 | .none, ob, M => ob = [] ∧ M = []
 | .para ls, ob, M => ∃ qb s e, ob = [paraOB qb s e] ∧ ParaAt qb ls M ∧ s < 1000000000 ∧ ls ≠ [] ∧ ls.length < 1048570
 | .other A, ob, M => A ob M
def rootV (rb : Nat) : Value := .iface ty_P_rootBuilder (.pointer (some ⟨rb, 0, none⟩))
def PS.base (p : PS) : PS := { p with lineno := 0, stq := none, stn := 0, stc := 0, depth := 0, corner := false, tq := none, tn := 0, tc := 0 }
def paraDB (nb t s e : Nat) (raw : List UInt8) : DB := ⟨.iface ty_P_Paragraph (.pointer (some ⟨nb, 0, none⟩)), [paraC nb s e t], [⟨t, s, e, raw⟩]⟩
def Leaf.finN : Leaf → Prop
 | .none => True
 | .para ls => (joinL [10] ls).length < 1073741824 ∧ joinL [10] ls ≠ [] ∧ NoRef (joinL [10] ls)
 | .other _ => False
theorem lineFields : (P.fieldsOf ty_line).toList.map (fun f => (f.name == "_", f.type, f.offset)) = [(false, ty_int, 0), (false, ty_int, 1), (false, ty_int, 2), (false, ty_string, 3), (false, ty_uint8, 4)] := by kernel_rfl
theorem eqFields_run {xs ys : Array Value} : ∀ {fs : List Field} {gs : List (TypeId × Nat)}, fs.map (fun f => (f.name == "_", f.type, f.offset)) = gs.map (fun g => (false, g.1, g.2)) →
 (∀ g ∈ gs, ∃ v, (part g.1 xs g.2).run P w = .ok v w ∧ (part g.1 ys g.2).run P w = .ok v w ∧ (Op.equalIn 9999 g.1 v v).run P w = .ok true w) → (Op.eqFields 9999 xs ys fs).run P w = .ok true w
 | [], [], _, _ => rfl
 | [], g :: gs, h, _ => by simp at h
 | f :: fs, [], h, _ => by simp at h
 | f :: fs, g :: gs, h, hg => by
  simp only [List.map_cons, List.cons.injEq, Prod.mk.injEq] at h
  obtain ⟨⟨h1, h2, h3⟩, h4⟩ := h
  obtain ⟨v, e1, e2, e3⟩ := hg g (List.mem_cons_self ..)
  have ih := eqFields_run h4 (fun g' hg' => hg g' (List.mem_cons_of_mem _ hg'))
  have hn : f.name ≠ "_" := by simpa using h1
  rw [← h2, ← h3] at e1 e2
  rw [← h2] at e3
  simp only [Op.eqFields, ne_eq, hn, not_false_eq_true, if_true, Sem.run_bind, e1, e2, e3, Result.andThen_ok, Bool.not_true, Bool.false_eq_true, if_false]
  exact ih
theorem und_int : P.underlying ty_int = some (.int .i64) := by kernel_rfl
theorem und_u8 : P.underlying ty_uint8 = some (.int .u8) := by kernel_rfl
theorem und_str : P.underlying ty_string = some .string := by kernel_rfl
theorem part_line {t : TypeId} {d : TypeDesc} (hd : P.underlying t = some d) (h1 : ∀ f, d ≠ .struct f) (h2 : ∀ n e, d ≠ .array n e) {cs : Array Value} {k : Nat} {v : Value} (hv : cs[k]? = some v) (w : World) : (part t cs k).run P w = .ok v w := by
 cases d <;> first | exact absurd rfl (h1 _) | exact absurd rfl (h2 _ _) | simp [part, isAgg, run_underlying hd, hv]
theorem fld_int {t : TypeId} {k : IntKind} (hu : P.underlying t = some (.int k)) {cs : Array Value} {i : Nat} {a : Int} (hv : cs[i]? = some (.int k a)) : ∃ v, (part t cs i).run P w = .ok v w ∧ (part t cs i).run P w = .ok v w ∧ (Op.equalIn 9999 t v v).run P w = .ok true w := by
 have hp := part_line hu (fun _ h => by cases h) (fun _ _ h => by cases h) hv w
 exact ⟨_, hp, hp, by rw [run_equalIn_int w 9998 t k k a a hu, beq_self_eq_true]⟩
theorem fld_str {cs : Array Value} {i : Nat} {a : ByteArray} (hv : cs[i]? = some (.string a)) : ∃ v, (part ty_string cs i).run P w = .ok v w ∧ (part ty_string cs i).run P w = .ok v w ∧ (Op.equalIn 9999 ty_string v v).run P w = .ok true w := by
 have hp := part_line und_str (fun _ h => by cases h) (fun _ _ h => by cases h) hv w
 exact ⟨_, hp, hp, by rw [run_equalIn_string w 9998 ty_string a a und_str, beq_self_eq_true]⟩
theorem neq_line (l : Ln) (x y : Operand) (w : World) : (do eqGuard .neq ty_line x y l.val l.val; binOp .neq ty_line l.val l.val).run P w = .ok (.bool false) w := by
 have hg : (eqGuard .neq ty_line x y l.val l.val).run P w = .ok () w := run_eqGuard_agg w .neq ty_line x y _ _ (by kernel_rfl)
 have hb := run_neq_struct (P := P) w ty_line #[.int .i64 l.sp, .int .i64 l.i, .int .i64 l.tab, .string (bs l.text), .int .u8 l.nl.toNat] #[.int .i64 l.sp, .int .i64 l.i, .int .i64 l.tab, .string (bs l.text), .int .u8 l.nl.toNat]
 have he : (Op.equalIn 10000 ty_line (.agg #[.int .i64 l.sp, .int .i64 l.i, .int .i64 l.tab, .string (bs l.text), .int .u8 l.nl.toNat]) (.agg #[.int .i64 l.sp, .int .i64 l.i, .int .i64 l.tab, .string (bs l.text), .int .u8 l.nl.toNat])).run P w = .ok true w := by
  rw [run_equalIn_struct w 9999 ty_line _ _ (by kernel_rfl) (by kernel_rfl)]
  refine eqFields_run (gs := [(ty_int, 0), (ty_int, 1), (ty_int, 2), (ty_string, 3), (ty_uint8, 4)]) lineFields ?_
  intro g hg
  simp only [List.mem_cons, List.mem_nil_iff, or_false] at hg
  rcases hg with rfl | rfl | rfl | rfl | rfl
  ·exact fld_int und_int rfl
  ·exact fld_int und_int rfl
  ·exact fld_int und_int rfl
  ·exact fld_str rfl
  ·exact fld_int und_u8 rfl
 rw [Sem.run_bind, hg, Result.andThen_ok]
 refine hb.trans ?_
 rw [he]; rfl
end Go.Proofs.YtgbgadkldalkbaaGreatDoor


set_option linter.unusedVariables false
namespace Go.Proofs.YtgbgadkldalkbaaGreatDoor
open Go.Proofs Go.IntWalk Go.RowKit
variable {σ : Out} {w : World} {L L' : List Chunk} {R : Ending → World → Prop}
theorem news_rounds {Xb : OA → Nat → WP} {Y : OA → Nat → OA → Nat → Nat → Int → Int → WP} {b b1 nb : Nat} {e : TypeId} {p : PS} {M : List Chunk} {l : Ln}
 (hY : ∀ x0 x3 x86q x86n x86c x87 x88 w, g_parseState_addLine.bl2 R Xb Y x0 x3 x86q x86n x86c x87 x88 w → Y x0 x3 x86q x86n x86c x87 x88 w) (i : Nat) :
 ∀ (k : Nat) w, i ≤ 8 → k ≤ i → (∀ j (hj : j < newsF.length), k ≤ j → j < i → Decl b p M l newsF[j]) → Sat σ w (p.at b :: M ++ (l.at b1 :: (nb, cel newsC e) :: L)) →
  (∀ w, Sat σ w (p.at b :: M ++ (l.at b1 :: (nb, cel newsC e) :: L)) → Y (some ⟨b, 0, none⟩) b1 (some ⟨nb, 0, none⟩) 8 8 8 (i : Nat) w) → Y (some ⟨b, 0, none⟩) b1 (some ⟨nb, 0, none⟩) 8 8 8 (k : Nat) w := by
 intro k
 generalize hm : i - k = m
 induction m generalizing k with
 | zero =>
  intro w hi hk hd h hE
  obtain rfl : k = i := by omega
  exact hE w h
 | succ m ih =>
  intro w hi hk hd h hE
  refine hY _ _ _ _ _ _ _ _ (br_true (by simp; omega) ⟨by omega, by omega, ?_⟩)
  have hl : k < newsF.length := by show k < 8; omega
  have hf := List.getElem?_eq_getElem hl
  refine nilP_some ?_
  simp only [Addr.add_lit, Nat.zero_add, Int.toNat_natCast, Nat.mul_one]
  have h : Sat σ w (l.at b1 :: (nb, cel newsC e) :: (p.at b :: (M ++ L))) := h.re
  refine ⟨_, Sat.ld h (.tail _ (.head _)) (newsC_get hf), ?_⟩
  refine ⟨_, Sat.ld h (.head _) rfl, _, Sat.ld h (.head _) rfl, _, Sat.ld h (.head _) rfl, _, Sat.ld h (.head _) rfl, _, Sat.ld h (.head _) rfl, ?_⟩
  have h : Sat σ w (p.at b :: M ++ (l.at b1 :: (nb, cel newsC e) :: L)) := h.re
  refine enter_fn ?_
  refine hd k hl (Nat.le_refl _) (by omega) σ w _ _ h fun w h => ⟨_, _, _, _, _, _, rfl, ?_⟩
  repeat (first | refine nilP_some ?_ | refine h.tk fun w h => ?_ | refine ⟨_, h.ldA, ?_⟩ | refine ⟨_, _, _, h.ldA, ?_⟩ | refine h.stA 0 fun w h => ?_ | refine h.stA 1 fun w h => ?_ | refine h.stA 2 fun w h => ?_ | refine h.stA 3 fun w h => ?_ | refine h.stA 4 fun w h => ?_ | refine h.stA 5 fun w h => ?_ | refine h.stA 6 fun w h => ?_ | refine h.bx fun b0 w h => ?_)
  rw [i64_inc (by omega)]
  have h : Sat σ _ (l.at b0 :: (p.at b :: M ++ (l.at b1 :: (nb, cel newsC e) :: L))) := h
  exact ih (k + 1) (by omega) _ hi (by omega) (fun j hj h1 h2 => hd j hj (by omega) h2) h.tail hE
theorem bl102_decl {Xb : OA → Nat → WP} {b b1 : Nat} {p : PS} {M : List Chunk} {l : Ln} (h : Sat σ w (p.at b :: M ++ (l.at b1 :: L))) (hd : ∀ f ∈ newsF, Decl b p M l f)
 (hP : ∀ w nb e (R' : Ending → World → Prop), Sat σ w (p.at b :: M ++ (l.at b1 :: (nb, cel newsC e) :: L)) → (∀ w k, R (.returned (.tuple #[])) w → R' (.returned (.tuple #[Ln.zero.val, .bool k])) w) → callE P i_newPara #[.pointer (some ⟨b, 0, none⟩), l.val] R' w) :
 g_parseState_addLine.bl102 R Xb (some ⟨b, 0, none⟩) b1 w := by
 refine news_ok h fun w nb e h => ⟨_, _, _, rfl, ?_⟩
 intro Y hY
 have h : Sat σ w (p.at b :: M ++ (l.at b1 :: (nb, cel newsC e) :: L)) := h.re
 refine news_rounds hY 8 0 w (by omega) (by omega) (fun j hj _ _ => hd _ (List.getElem_mem hj)) h fun w h => ?_
 refine hY _ _ _ _ _ _ _ _ (br_false (by simp) ?_)
 have hm : l.at b1 ∈ p.at b :: M ++ (l.at b1 :: (nb, cel newsC e) :: L) := by simp
 refine ⟨_, Sat.ld h hm (i := 0) rfl, _, Sat.ld h hm (i := 1) rfl, _, Sat.ld h hm (i := 2) rfl, _, Sat.ld h hm (i := 3) rfl, _, Sat.ld h hm (i := 4) rfl, ?_⟩
 exact hP w nb e _ h fun w k hR => ⟨_, _, _, _, _, _, rfl, hR⟩
def Ln.rest (l : Ln) : List UInt8 := (l.text.drop l.i).dropWhile isST
end Go.Proofs.YtgbgadkldalkbaaGreatDoor


set_option linter.unusedVariables false
set_option maxRecDepth 20000
namespace Go.Proofs.YtgbgadkldalkbaaGreatDoor
open Go.Proofs
namespace g_parseState_autoLinkText
noncomputable def body : Code := bodyOf Tryz.f108
def k1 (R : EP) (Xa : OA → OA → Nat → Nat → OA → Nat → Nat → OA → Nat → Nat → Int → Int → WP) (x0 x1q : OA) (x1n x1c : Nat) (x5q : OA) (x5n x5c : Nat) (x9q : OA) (x9n x9c : Nat) (x22q : OA) (x22n x22c : Nat) (x23 x24 : Int) (w : World) : Prop :=
 ∃ (r47q : OA), ∃ (r47n : Nat), ∃ (r47c : Nat), ∃ w48, (Builtin.append_ #[ty_S_Inline, ty_S_Inline] ty_S_Inline #[.slice x5q x5n x5c, .slice x9q x9n x9c]).run P w = .ok (.slice r47q r47n r47c) w48 ∧
 Xa x0 x1q x1n x1c r47q r47n r47c x22q x22n x22c x23 (IntKind.i64.wrap (x24 + 1)) w48

def k2 (R : EP) (Xa : OA → OA → Nat → Nat → OA → Nat → Nat → OA → Nat → Nat → Int → Int → WP) (x0 x1q : OA) (x1n x1c : Nat) (x5q : OA) (x5n x5c : Nat) (x7 : Value) (x22q : OA) (x22n x22c : Nat) (x23 x24 : Int) (w : World) : Prop :=
 ∃ (r49 : Bool), ∃ w50, (do eqGuard .neq ty_S_Inline (.tmp 87) (.const (.slice none 0 0)) (.slice x5q x5n x5c) (.slice none 0 0); binOp .neq ty_S_Inline (.slice x5q x5n x5c) (.slice none 0 0)).run P w = .ok (.bool r49) w50 ∧
 br r49
 (∃ (r51q : OA), ∃ (r51n : Nat), ∃ (r51c : Nat), ∃ w52, (Instr.buildSlice ty_S_Inline 1 #[(0, x7)]).run P w50 = .ok (.slice r51q r51n r51c) w52 ∧
 ∃ (r53q : OA), ∃ (r53n : Nat), ∃ (r53c : Nat), ∃ w54, (Builtin.append_ #[ty_S_Inline, ty_S_Inline] ty_S_Inline #[.slice x5q x5n x5c, .slice r51q r51n r51c]).run P w52 = .ok (.slice r53q r53n r53c) w54 ∧
 Xa x0 x1q x1n x1c r53q r53n r53c x22q x22n x22c x23 (IntKind.i64.wrap (x24 + 1)) w54)
 (Xa x0 x1q x1n x1c x5q x5n x5c x22q x22n x22c x23 (IntKind.i64.wrap (x24 + 1)) w50)

def bl1 (R : EP) (Xa : OA → OA → Nat → Nat → OA → Nat → Nat → OA → Nat → Nat → Int → Int → WP) (x0 x1q : OA) (x1n x1c : Nat) (x5q : OA) (x5n x5c : Nat) (x22q : OA) (x22n x22c : Nat) (x23 x24 : Int) (w : World) : Prop :=
 br (decide (x24 < x23))
 (0 ≤ x24 ∧ x24 < (x22n : Int) ∧
 nilP x22q fun a5 =>
 ∃ (v6 : Value), w.cell? (a5.add (Int.toNat x24 * 1)) = some v6 ∧
 ∃ (r7_0 : OA), ∃ (r7_1 : Bool), ∃ w8, (Instr.typeAssert v6 ty_Inline ty_P_Plain true).run P w = .ok (.tuple #[.pointer r7_0, .bool r7_1]) w8 ∧
 br r7_1
 (nilP r7_0 fun a9 =>
 ∃ (v10 : BA), w8.cell? a9 = some (.string v10) ∧
 callE P i_parseState_autoLinkPlain #[.pointer x0, .string v10] (fun e w12 => ∃ (r11q : OA), ∃ (r11n : Nat), ∃ (r11c : Nat), e = .returned (.slice r11q r11n r11c) ∧
 ∃ (r13 : Bool), ∃ w14, (do eqGuard .neq ty_S_Inline (.tmp 39) (.const (.slice none 0 0)) (.slice r11q r11n r11c) (.slice none 0 0); binOp .neq ty_S_Inline (.slice r11q r11n r11c) (.slice none 0 0)).run P w12 = .ok (.bool r13) w14 ∧
 br r13
 (∃ (r15 : Bool), ∃ w16, (do eqGuard .eql ty_S_Inline (.tmp 41) (.const (.slice none 0 0)) (.slice x5q x5n x5c) (.slice none 0 0); binOp .eql ty_S_Inline (.slice x5q x5n x5c) (.slice none 0 0)).run P w14 = .ok (.bool r15) w16 ∧
 br r15
 (∃ (r17q : OA), ∃ (r17n : Nat), ∃ (r17c : Nat), ∃ w18, (Instr.sliceAt ty_S_Inline (.slice x1q x1n x1c) none (some (.int .i64 x24)) none).run P w16 = .ok (.slice r17q r17n r17c) w18 ∧
 ∃ (r19q : OA), ∃ (r19n : Nat), ∃ (r19c : Nat), ∃ w20, (Builtin.append_ #[ty_S_Inline, ty_S_Inline] ty_S_Inline #[.slice x5q x5n x5c, .slice r17q r17n r17c]).run P w18 = .ok (.slice r19q r19n r19c) w20 ∧
 k1 R Xa x0 x1q x1n x1c r19q r19n r19c r11q r11n r11c x22q x22n x22c x23 x24 w20)
 (k1 R Xa x0 x1q x1n x1c x5q x5n x5c r11q r11n r11c x22q x22n x22c x23 x24 w16))
 (k2 R Xa x0 x1q x1n x1c x5q x5n x5c v6 x22q x22n x22c x23 x24 w14)) w8)
 (∃ (r21_0 : OA), ∃ (r21_1 : Bool), ∃ w22, (Instr.typeAssert v6 ty_Inline ty_P_Strong true).run P w8 = .ok (.tuple #[.pointer r21_0, .bool r21_1]) w22 ∧
 br r21_1
 (nilP r21_0 fun a23 =>
 ∃ (v24q : OA), ∃ (v24n : Nat), ∃ (v24c : Nat), w22.cell? (a23.add 1) = some (.slice v24q v24n v24c) ∧
 callE P i_parseState_autoLinkText #[.pointer x0, .slice v24q v24n v24c] (fun e w26 => ∃ (r25q : OA), ∃ (r25n : Nat), ∃ (r25c : Nat), e = .returned (.slice r25q r25n r25c) ∧
 nilP r21_0 fun a27 =>
 stV w26 ((a27.add 1).add 0) (.slice r25q r25n r25c) fun w28 =>
 k2 R Xa x0 x1q x1n x1c x5q x5n x5c v6 x22q x22n x22c x23 x24 w28) w22)
 (∃ (r29_0 : OA), ∃ (r29_1 : Bool), ∃ w30, (Instr.typeAssert v6 ty_Inline ty_P_Del true).run P w22 = .ok (.tuple #[.pointer r29_0, .bool r29_1]) w30 ∧
 br r29_1
 (nilP r29_0 fun a31 =>
 ∃ (v32q : OA), ∃ (v32n : Nat), ∃ (v32c : Nat), w30.cell? (a31.add 1) = some (.slice v32q v32n v32c) ∧
 callE P i_parseState_autoLinkText #[.pointer x0, .slice v32q v32n v32c] (fun e w34 => ∃ (r33q : OA), ∃ (r33n : Nat), ∃ (r33c : Nat), e = .returned (.slice r33q r33n r33c) ∧
 nilP r29_0 fun a35 =>
 stV w34 ((a35.add 1).add 0) (.slice r33q r33n r33c) fun w36 =>
 k2 R Xa x0 x1q x1n x1c x5q x5n x5c v6 x22q x22n x22c x23 x24 w36) w30)
 (∃ (r37_0 : OA), ∃ (r37_1 : Bool), ∃ w38, (Instr.typeAssert v6 ty_Inline ty_P_Emph true).run P w30 = .ok (.tuple #[.pointer r37_0, .bool r37_1]) w38 ∧
 br r37_1
 (nilP r37_0 fun a39 =>
 ∃ (v40q : OA), ∃ (v40n : Nat), ∃ (v40c : Nat), w38.cell? (a39.add 1) = some (.slice v40q v40n v40c) ∧
 callE P i_parseState_autoLinkText #[.pointer x0, .slice v40q v40n v40c] (fun e w42 => ∃ (r41q : OA), ∃ (r41n : Nat), ∃ (r41c : Nat), e = .returned (.slice r41q r41n r41c) ∧
 nilP r37_0 fun a43 =>
 stV w42 ((a43.add 1).add 0) (.slice r41q r41n r41c) fun w44 =>
 k2 R Xa x0 x1q x1n x1c x5q x5n x5c v6 x22q x22n x22c x23 x24 w44) w38)
 (k2 R Xa x0 x1q x1n x1c x5q x5n x5c v6 x22q x22n x22c x23 x24 w38)))))
 (∃ (r45 : Bool), ∃ w46, (do eqGuard .eql ty_S_Inline (.tmp 94) (.const (.slice none 0 0)) (.slice x5q x5n x5c) (.slice none 0 0); binOp .eql ty_S_Inline (.slice x5q x5n x5c) (.slice none 0 0)).run P w = .ok (.bool r45) w46 ∧
 br r45
 (R (.returned (.slice x1q x1n x1c)) w46)
 (R (.returned (.slice x5q x5n x5c)) w46))
def l1 (R : EP) (x0 x1q : OA) (x1n x1c : Nat) (x5q : OA) (x5n x5c : Nat) (x22q : OA) (x22n x22c : Nat) (x23 x24 : Int) (w : World) : Prop :=
 ∀ X : OA → OA → Nat → Nat → OA → Nat → Nat → OA → Nat → Nat → Int → Int → WP, (∀ x0 x1q x1n x1c x5q x5n x5c x22q x22n x22c x23 x24 w, bl1 R X x0 x1q x1n x1c x5q x5n x5c x22q x22n x22c x23 x24 w → X x0 x1q x1n x1c x5q x5n x5c x22q x22n x22c x23 x24 w) → X x0 x1q x1n x1c x5q x5n x5c x22q x22n x22c x23 x24 w

noncomputable def al1 (R : EP) (Xa : OA → OA → Nat → Nat → OA → Nat → Nat → OA → Nat → Nat → Int → Int → WP) : AC :=
 (.seq (.leaf (sel [1,1,1,0,1,0,0,0] body)) (.seq (.leaf (sel [1,1,1,0,1,0,0,1,0] body)) (.seq (.block 1 (.seq (.leaf (sel [1,1,1,0,1,0,0,1,1,0,0,0] body)) (.seq (.seq (.leaf (sel [1,1,1,0,1,0,0,1,1,0,0,1,0,0] body)) (.block 2 (.seq (.leaf (sel [1,1,1,0,1,0,0,1,1,0,0,1,0,1,0,0] body)) (.cond 31 (.seq (.leaf (sel [1,1,1,0,1,0,0,1,1,0,0,1,0,1,0,1,0,0] body)) (.seq (.leaf (sel [1,1,1,0,1,0,0,1,1,0,0,1,0,1,0,1,0,1,0] body)) (.seq (.leaf (sel [1,1,1,0,1,0,0,1,1,0,0,1,0,1,0,1,0,1,1,0] body)) (.cond 40 (.seq (.leaf (sel [1,1,1,0,1,0,0,1,1,0,0,1,0,1,0,1,0,1,1,1,0,0] body)) (.mark (leaf [(0, .s .ptr), (1, .s .slice), (5, .s .slice), (9, .s .slice), (22, .s .slice), (23, .s (.int .i64)), (24, .s (.int .i64))] (k1 R Xa)) (.leaf (sel [1,1,1,0,1,0,0,1,1,0,0,1,0,1,0,1,0,1,1,1,0,1] body)))) (.leaf (sel [1,1,1,0,1,0,0,1,1,0,0,1,0,1,0,1,0,1,1,1,1] body)))))) (.leaf (sel [1,1,1,0,1,0,0,1,1,0,0,1,0,1,0,1,1] body)))))) (.mark (leaf [(0, .s .ptr), (1, .s .slice), (5, .s .slice), (7, .s .any), (22, .s .slice), (23, .s (.int .i64)), (24, .s (.int .i64))] (k2 R Xa)) (.leaf (sel [1,1,1,0,1,0,0,1,1,0,0,1,1] body)))))) (.leaf (sel [1,1,1,0,1,0,0,1,1,1] body)))))
end g_parseState_autoLinkText
def g_parseState_autoLinkText (R : EP) (x0 x1q : OA) (x1n x1c : Nat) (w : World) : Prop :=
 nilP x0 fun a1 =>
 ∃ (v2 : OA), w.cell? a1 = some (.pointer v2) ∧
 nilP v2 fun a3 =>
 ∃ (v4 : Bool), w.cell? (a3.add 3) = some (.bool v4) ∧
 br (!v4)
 (R (.returned (.slice x1q x1n x1c)) w)
 (g_parseState_autoLinkText.l1 R x0 x1q x1n x1c none 0 0 x1q x1n x1c (x1n : Int) 0 w)

namespace g_parseState_autoLinkText
noncomputable def ac (R : EP) : AC :=
 (.seq (.leaf (sel [0] body)) (.seq (.leaf (sel [1,0] body)) (.seq (.leaf (sel [1,1,0] body)) (.seq (.seq (.leaf (sel [1,1,1,0,0] body)) (.block 0 (.loop (leaf [(0, .s .ptr), (1, .s .slice), (5, .s .slice), (22, .s .slice), (23, .s (.int .i64)), (24, .s (.int .i64))] (l1 R)) (sel [1,1,1,0,1,0,0] body)))) (.leaf (sel [1,1,1,1] body))))))
theorem good (R : EP) : Good P 98 (ac R) (QF P [.tmp 4] R) :=
 ⟨trivial, ⟨trivial, ⟨trivial, ⟨⟨trivial, (loopG (al1 R) (bl1 R) (fun _ => by kernel_rfl) (fun Xa => ⟨trivial, ⟨trivial, ⟨⟨trivial, ⟨⟨trivial, ⟨trivial, ⟨⟨trivial, ⟨trivial, ⟨trivial, ⟨⟨trivial, ⟨trivial, cutZ⟩⟩, trivial⟩⟩⟩⟩, trivial⟩⟩⟩, ⟨trivial, cutZ⟩⟩⟩, trivial⟩⟩⟩) (fun Xa => by intro x0 x1q x1n x1c x5q x5n x5c x22q x22n x22c x23 x24 ρ w; kernel_rfl) (fun X h _ _ _ _ _ _ _ _ _ _ _ _ _ g => g X h))⟩, trivial⟩⟩⟩⟩
theorem eq (R : EP) (x0 x1q : OA) (x1n x1c : Nat) (w : World) : g_parseState_autoLinkText R x0 x1q x1n x1c w = vcA P 98 (ac R) (QF P [.tmp 4] R) (fr0 [.pointer x0, .slice x1q x1n x1c]) w := by kernel_rfl
theorem sound {R : EP} {x0 x1q : OA} {x1n x1c : Nat} {w : World} (h : g_parseState_autoLinkText R x0 x1q x1n x1c w) : callE P i_parseState_autoLinkText #[.pointer x0, .slice x1q x1n x1c] R w :=
 callE_fz (c := body) Tryz.func108 Tryz.call108 (good R) (eq R x0 x1q x1n x1c w) h
end g_parseState_autoLinkText
namespace g_parseState_inline
noncomputable def body : Code := bodyOf Tryz.f70
def k4 (R : EP) (Xa : OA → BA → OA → Nat → Nat → Int → Bool → Int → WP) (x0 : OA) (x1 : BA) (x5q : OA) (x5n x5c : Nat) (x6 : Int) (x7 : Bool) (x10 : Value) (x12 : Int) (w : World) : Prop :=
 nilP x0 fun a61 =>
 ∃ (v62q : OA), ∃ (v62n : Nat), ∃ (v62c : Nat), w.cell? (a61.add 9) = some (.slice v62q v62n v62c) ∧
 ∃ (r63q : OA), ∃ (r63n : Nat), ∃ (r63c : Nat), ∃ w64, (Instr.buildSlice ty_S_Inline 1 #[(0, x10)]).run P w = .ok (.slice r63q r63n r63c) w64 ∧
 ∃ (r65q : OA), ∃ (r65n : Nat), ∃ (r65c : Nat), ∃ w66, (Builtin.append_ #[ty_S_Inline, ty_S_Inline] ty_S_Inline #[.slice v62q v62n v62c, .slice r63q r63n r63c]).run P w64 = .ok (.slice r65q r65n r65c) w66 ∧
 nilP x0 fun a67 =>
 stV w66 ((a67.add 9).add 0) (.slice r65q r65n r65c) fun w68 =>
 callE P i_parseState_skip #[.pointer x0, .int .i64 x12] (fun e w70 => e = .returned (.tuple #[]) ∧
 Xa x0 x1 x5q x5n x5c x6 x7 x12 w70) w68

def k10 (R : EP) (Xa : OA → BA → OA → Nat → Nat → Int → Bool → Int → WP) (x0 : OA) (x1 : BA) (x5q : OA) (x5n x5c : Nat) (x6 : Int) (x7 : Bool) (x16 : Int) (x17 : OA) (x19 : Int) (w : World) : Prop :=
 nilP x0 fun a133 =>
 ∃ (v134q : OA), ∃ (v134n : Nat), ∃ (v134c : Nat), w.cell? (a133.add 9) = some (.slice v134q v134n v134c) ∧
 ∃ (r135q : OA), ∃ (r135n : Nat), ∃ (r135c : Nat), ∃ w136, (Instr.sliceAt ty_S_Inline (.slice v134q v134n v134c) none (some (.int .i64 (IntKind.i64.wrap (x16 + 1)))) none).run P w = .ok (.slice r135q r135n r135c) w136 ∧
 nilP x0 fun a137 =>
 stV w136 ((a137.add 9).add 0) (.slice r135q r135n r135c) fun w138 =>
 callE P i_parseState_skip #[.pointer x0, .int .i64 x19] (fun e w140 => e = .returned (.tuple #[]) ∧
 nilP x17 fun a141 =>
 ∃ (v142 : BA), w140.cell? a141 = some (.string v142) ∧
 0 ≤ (0 : Int) ∧ 0 < (v142.size : Int) ∧
 br ((bt v142 0) == 91)
 (nilP x17 fun a143 =>
 ∃ (v144 : Int), w140.cell? (a143.add 1) = some (.int .i64 v144) ∧
 Xa x0 x1 x5q x5n x5c v144 x7 x19 w140)
 (Xa x0 x1 x5q x5n x5c x6 x7 x19 w140)) w138

def k9 (R : EP) (Xa : OA → BA → OA → Nat → Nat → Int → Bool → Int → WP) (x0 : OA) (x1 : BA) (x5q : OA) (x5n x5c : Nat) (x6 : Int) (x7 : Bool) (x8 x16 : Int) (x17 x18 : OA) (x19 : Int) (w : World) : Prop :=
 callE P i_parseState_emit #[.pointer x0, .int .i64 x8] (fun e w114 => e = .returned (.tuple #[]) ∧
 nilP x0 fun a115 =>
 ∃ (v116q : OA), ∃ (v116n : Nat), ∃ (v116c : Nat), w114.cell? (a115.add 9) = some (.slice v116q v116n v116c) ∧
 ∃ (r117q : OA), ∃ (r117n : Nat), ∃ (r117c : Nat), ∃ w118, (Instr.sliceAt ty_S_Inline (.slice v116q v116n v116c) (some (.int .i64 (IntKind.i64.wrap (x16 + 1)))) none none).run P w114 = .ok (.slice r117q r117n r117c) w118 ∧
 callE P i_parseState_emph #[.pointer x0, .slice none 0 0, .slice r117q r117n r117c] (fun e w120 => ∃ (r119q : OA), ∃ (r119n : Nat), ∃ (r119c : Nat), e = .returned (.slice r119q r119n r119c) ∧
 nilP x18 fun a121 =>
 stV w120 (a121.add 0) (.slice r119q r119n r119c) fun w122 =>
 nilP x17 fun a123 =>
 ∃ (v124 : BA), w122.cell? a123 = some (.string v124) ∧
 0 ≤ (0 : Int) ∧ 0 < (v124.size : Int) ∧
 br ((bt v124 0) == 33)
 (nilP x0 fun a125 =>
 ∃ (v126q : OA), ∃ (v126n : Nat), ∃ (v126c : Nat), w122.cell? (a125.add 9) = some (.slice v126q v126n v126c) ∧
 0 ≤ x16 ∧ x16 < (v126n : Int) ∧
 nilP v126q fun a127 =>
 stV w122 ((a127.add (Int.toNat x16 * 1)).add 0) (.iface ty_P_Image (.pointer x18)) fun w128 =>
 k10 R Xa x0 x1 x5q x5n x5c x6 x7 x16 x17 x19 w128)
 (nilP x0 fun a129 =>
 ∃ (v130q : OA), ∃ (v130n : Nat), ∃ (v130c : Nat), w122.cell? (a129.add 9) = some (.slice v130q v130n v130c) ∧
 0 ≤ x16 ∧ x16 < (v130n : Int) ∧
 nilP v130q fun a131 =>
 stV w122 ((a131.add (Int.toNat x16 * 1)).add 0) (.iface ty_P_Link (.pointer x18)) fun w132 =>
 k10 R Xa x0 x1 x5q x5n x5c x6 x7 x16 x17 x19 w132)) w118) w

def k8 (R : EP) (Xa : OA → BA → OA → Nat → Nat → Int → Bool → Int → WP) (x0 : OA) (x1 : BA) (x5q : OA) (x5n x5c : Nat) (x6 : Int) (x7 : Bool) (x8 x16 : Int) (x17 : OA) (x199 : Bool) (w : World) : Prop :=
 br x199
 (callE P i_parseState_parseLinkClose #[.pointer x0, .string x1, .int .i64 x8, .pointer x17] (fun e w98 => ∃ (r97_0 : OA), ∃ (r97_1 : Int), ∃ (r97_2 : Bool), e = .returned (.tuple #[.pointer r97_0, .int .i64 r97_1, .bool r97_2]) ∧
 br r97_2
 (nilP x0 fun a99 =>
 ∃ (v100 : Bool), w98.cell? (a99.add 6) = some (.bool v100) ∧
 br v100
 (nilP x0 fun a101 =>
 stV w98 ((a101.add 6).add 0) (.bool true) fun w102 =>
 k9 R Xa x0 x1 x5q x5n x5c x6 x7 x8 x16 x17 r97_0 r97_1 w102)
 (nilP r97_0 fun a103 =>
 ∃ (v104 : Bool), w98.cell? (a103.add 4) = some (.bool v104) ∧
 br v104
 (nilP x0 fun a105 =>
 stV w98 ((a105.add 6).add 0) (.bool true) fun w106 =>
 k9 R Xa x0 x1 x5q x5n x5c x6 x7 x8 x16 x17 r97_0 r97_1 w106)
 (nilP r97_0 fun a107 =>
 ∃ (v108 : BA), w98.cell? (a107.add 1) = some (.string v108) ∧
 callE P i_linkCorner #[.string v108] (fun e w110 => ∃ (r109 : Bool), e = .returned (.bool r109) ∧
 nilP x0 fun a111 =>
 stV w110 ((a111.add 6).add 0) (.bool r109) fun w112 =>
 k9 R Xa x0 x1 x5q x5n x5c x6 x7 x8 x16 x17 r97_0 r97_1 w112) w98)))
 (Xa x0 x1 x5q x5n x5c x6 x7 (IntKind.i64.wrap (x8 + 1)) w98)) w)
 (Xa x0 x1 x5q x5n x5c x6 x7 (IntKind.i64.wrap (x8 + 1)) w)

def k7 (R : EP) (Xa : OA → BA → OA → Nat → Nat → Int → Bool → Int → WP) (x0 : OA) (x1 : BA) (x5q : OA) (x5n x5c : Nat) (x6 : Int) (x7 : Bool) (x8 : Int) (x165 : Bool) (w : World) : Prop :=
 br x165
 (0 ≤ (IntKind.i64.wrap ((x5n : Int) - 1)) ∧ (IntKind.i64.wrap ((x5n : Int) - 1)) < (x5n : Int) ∧
 nilP x5q fun a83 =>
 ∃ (v84 : Int), w.cell? (a83.add (Int.toNat (IntKind.i64.wrap ((x5n : Int) - 1)) * 1)) = some (.int .i64 v84) ∧
 nilP x0 fun a85 =>
 ∃ (v86q : OA), ∃ (v86n : Nat), ∃ (v86c : Nat), w.cell? (a85.add 9) = some (.slice v86q v86n v86c) ∧
 0 ≤ v84 ∧ v84 < (v86n : Int) ∧
 nilP v86q fun a87 =>
 ∃ (v88 : Value), w.cell? (a87.add (Int.toNat v84 * 1)) = some v88 ∧
 ∃ (r89 : OA), ∃ w90, (Instr.typeAssert v88 ty_Inline ty_P_openPlain false).run P w = .ok (.pointer r89) w90 ∧
 ∃ (r91q : OA), ∃ (r91n : Nat), ∃ (r91c : Nat), ∃ w92, (Instr.sliceAt ty_S_int (.slice x5q x5n x5c) none (some (.int .i64 (IntKind.i64.wrap ((x5n : Int) - 1)))) none).run P w90 = .ok (.slice r91q r91n r91c) w92 ∧
 nilP r89 fun a93 =>
 ∃ (v94 : BA), w92.cell? a93 = some (.string v94) ∧
 0 ≤ (0 : Int) ∧ 0 < (v94.size : Int) ∧
 br ((bt v94 0) == 33)
 (k8 R Xa x0 x1 r91q r91n r91c x6 x7 x8 v84 r89 true w92)
 (nilP r89 fun a95 =>
 ∃ (v96 : Int), w92.cell? (a95.add 1) = some (.int .i64 v96) ∧
 k8 R Xa x0 x1 r91q r91n r91c x6 x7 x8 v84 r89 (decide (x6 ≤ v96)) w92))
 (Xa x0 x1 x5q x5n x5c x6 x7 (IntKind.i64.wrap (x8 + 1)) w)

def k5 (R : EP) (Xa : OA → BA → OA → Nat → Nat → Int → Bool → Int → WP) (x0 : OA) (x1 : BA) (x5q : OA) (x5n x5c : Nat) (x6 : Int) (x7 : Bool) (x8 : Int) (w : World) : Prop :=
 0 ≤ x8 ∧ x8 < (x1.size : Int) ∧
 k7 R Xa x0 x1 x5q x5n x5c x6 x7 x8 (((bt x1 x8) == 93) && (decide ((x5n : Int) > 0))) w

def k1 (R : EP) (Xa : OA → BA → OA → Nat → Nat → Int → Bool → Int → WP) (x0 : OA) (x1 : BA) (x5q : OA) (x5n x5c : Nat) (x6 : Int) (x7 : Bool) (x8 : Int) (x9 : Value) (w : World) : Prop :=
 ∃ (r38 : Bool), ∃ w39, (do eqGuard .neq ty_func_P_parseState_string_int_I_18a27a (.tmp 113) (.const .nilFunc) x9 .nilFunc; binOp .neq ty_func_P_parseState_string_int_I_18a27a x9 .nilFunc).run P w = .ok (.bool r38) w39 ∧
 br r38
 (enterE P (do let d ← Deferred.ofValue x9 #[.pointer x0, .string x1, .int .i64 x8]; invoke d.target d.args) (fun e w41 => ∃ (r40_0 : Value), ∃ (r40_1 : Int), ∃ (r40_2 : Int), ∃ (r40_3 : Bool), e = .returned (.tuple #[r40_0, .int .i64 r40_1, .int .i64 r40_2, .bool r40_3]) ∧
 br r40_3
 (callE P i_parseState_emit #[.pointer x0, .int .i64 r40_1] (fun e w43 => e = .returned (.tuple #[]) ∧
 ∃ (r44_0 : OA), ∃ (r44_1 : Bool), ∃ w45, (Instr.typeAssert r40_0 ty_Inline ty_P_openPlain true).run P w43 = .ok (.tuple #[.pointer r44_0, .bool r44_1]) w45 ∧
 br r44_1
 (nilP x0 fun a46 =>
 ∃ (v47q : OA), ∃ (v47n : Nat), ∃ (v47c : Nat), w45.cell? (a46.add 9) = some (.slice v47q v47n v47c) ∧
 ∃ (r48q : OA), ∃ (r48n : Nat), ∃ (r48c : Nat), ∃ w49, (Instr.buildSlice ty_S_int 1 #[(0, .int .i64 (v47n : Int))]).run P w45 = .ok (.slice r48q r48n r48c) w49 ∧
 ∃ (r50q : OA), ∃ (r50n : Nat), ∃ (r50c : Nat), ∃ w51, (Builtin.append_ #[ty_S_int, ty_S_int] ty_S_int #[.slice x5q x5n x5c, .slice r48q r48n r48c]).run P w49 = .ok (.slice r50q r50n r50c) w51 ∧
 k4 R Xa x0 x1 r50q r50n r50c x6 x7 r40_0 r40_2 w51)
 (k4 R Xa x0 x1 x5q x5n x5c x6 x7 r40_0 r40_2 w45)) w41)
 (k5 R Xa x0 x1 x5q x5n x5c x6 x7 x8 w41)) w39)
 (k5 R Xa x0 x1 x5q x5n x5c x6 x7 x8 w39)

def k2 (R : EP) (Xa : OA → BA → OA → Nat → Nat → Int → Bool → Int → WP) (x0 : OA) (x1 : BA) (x5q : OA) (x5n x5c : Nat) (x6 : Int) (x7 : Bool) (x8 : Int) (w : World) : Prop :=
 nilP x0 fun a52 =>
 k1 R Xa x0 x1 x5q x5n x5c x6 x7 x8 (.func (.func i_backtickParser_parseCodeSpan) #[.pointer (some (a52.add 12))] #[]) w

def k6 (R : EP) (Xa : OA → BA → OA → Nat → Nat → Int → Bool → Int → WP) (x0 : OA) (x1 : BA) (x5q : OA) (x5n x5c : Nat) (x6 : Int) (x7 : Bool) (x8 : Int) (x9 : Value) (x39 : Int) (x81 : Bool) (w : World) : Prop :=
 br x81
 (nilP x0 fun a71 =>
 ∃ (v72 : OA), w.cell? a71 = some (.pointer v72) ∧
 nilP v72 fun a73 =>
 ∃ (v74 : Bool), w.cell? (a73.add 9) = some (.bool v74) ∧
 br v74
 (k1 R Xa x0 x1 x5q x5n x5c x6 x7 x8 (.func (.func i_parseEmph) #[] #[]) w)
 (k1 R Xa x0 x1 x5q x5n x5c x6 x7 x8 x9 w))
 (br (x39 == 126)
 (nilP x0 fun a75 =>
 ∃ (v76 : OA), w.cell? a75 = some (.pointer v76) ∧
 nilP v76 fun a77 =>
 ∃ (v78 : Bool), w.cell? (a77.add 1) = some (.bool v78) ∧
 br v78
 (k1 R Xa x0 x1 x5q x5n x5c x6 x7 x8 (.func (.func i_parseEmph) #[] #[]) w)
 (k1 R Xa x0 x1 x5q x5n x5c x6 x7 x8 x9 w))
 (br (x39 == 10)
 (k1 R Xa x0 x1 x5q x5n x5c x6 x7 x8 (.func (.func i_parseBreak) #[] #[]) w)
 (br (x39 == 38)
 (k1 R Xa x0 x1 x5q x5n x5c x6 x7 x8 (.func (.func i_parseHTMLEntity) #[] #[]) w)
 (br (x39 == 58)
 (nilP x0 fun a79 =>
 ∃ (v80 : OA), w.cell? a79 = some (.pointer v80) ∧
 nilP v80 fun a81 =>
 ∃ (v82 : Bool), w.cell? (a81.add 6) = some (.bool v82) ∧
 br v82
 (k1 R Xa x0 x1 x5q x5n x5c x6 x7 x8 (.func (.func i_parseEmoji) #[] #[]) w)
 (k1 R Xa x0 x1 x5q x5n x5c x6 x7 x8 x9 w))
 (k1 R Xa x0 x1 x5q x5n x5c x6 x7 x8 x9 w)))))

def k3 (R : EP) (Xa : OA → BA → OA → Nat → Nat → Int → Bool → Int → WP) (x0 : OA) (x1 : BA) (x5q : OA) (x5n x5c : Nat) (x6 : Int) (x7 : Bool) (x8 : Int) (x9 : Value) (x39 : Int) (x60 : Bool) (w : World) : Prop :=
 br x60
 (k1 R Xa x0 x1 x5q x5n x5c x6 x7 x8 (.func (.func i_parseEmph) #[] #[]) w)
 (br (x39 == 46)
 (nilP x0 fun a53 =>
 ∃ (v54 : OA), w.cell? a53 = some (.pointer v54) ∧
 nilP v54 fun a55 =>
 ∃ (v56 : Bool), w.cell? (a55.add 7) = some (.bool v56) ∧
 br v56
 (k1 R Xa x0 x1 x5q x5n x5c x6 x7 x8 (.func (.func i_parseDot) #[] #[]) w)
 (k1 R Xa x0 x1 x5q x5n x5c x6 x7 x8 x9 w))
 (br (x39 == 45)
 (nilP x0 fun a57 =>
 ∃ (v58 : OA), w.cell? a57 = some (.pointer v58) ∧
 nilP v58 fun a59 =>
 ∃ (v60 : Bool), w.cell? (a59.add 8) = some (.bool v60) ∧
 br v60
 (k1 R Xa x0 x1 x5q x5n x5c x6 x7 x8 (.func (.func i_parseDash) #[] #[]) w)
 (k1 R Xa x0 x1 x5q x5n x5c x6 x7 x8 x9 w))
 (br (x39 == 34)
 (k6 R Xa x0 x1 x5q x5n x5c x6 x7 x8 x9 x39 true w)
 (k6 R Xa x0 x1 x5q x5n x5c x6 x7 x8 x9 x39 (x39 == 39) w))))

def bl1 (R : EP) (Xa : OA → BA → OA → Nat → Nat → Int → Bool → Int → WP) (x0 : OA) (x1 : BA) (x5q : OA) (x5n x5c : Nat) (x6 : Int) (x7 : Bool) (x8 : Int) (w : World) : Prop :=
 br (decide (x8 < (x1.size : Int)))
 (0 ≤ x8 ∧ x8 < (x1.size : Int) ∧
 br ((bt x1 x8) == 92)
 (k1 R Xa x0 x1 x5q x5n x5c x6 x7 x8 (.func (.func i_parseEscape) #[] #[]) w)
 (br ((bt x1 x8) == 96)
 (br (!x7)
 (nilP x0 fun a9 =>
 callE P i_backtickParser_reset #[.pointer (some (a9.add 12))] (fun e w11 => e = .returned (.tuple #[]) ∧
 k2 R Xa x0 x1 x5q x5n x5c x6 true x8 w11) w)
 (k2 R Xa x0 x1 x5q x5n x5c x6 x7 x8 w))
 (br ((bt x1 x8) == 60)
 (k1 R Xa x0 x1 x5q x5n x5c x6 x7 x8 (.func (.func i_parseAutoLinkOrHTML) #[] #[]) w)
 (br ((bt x1 x8) == 91)
 (k1 R Xa x0 x1 x5q x5n x5c x6 x7 x8 (.func (.func i_parseLinkOpen) #[] #[]) w)
 (br ((bt x1 x8) == 33)
 (k1 R Xa x0 x1 x5q x5n x5c x6 x7 x8 (.func (.func i_parseImageOpen) #[] #[]) w)
 (br ((bt x1 x8) == 95)
 (k3 R Xa x0 x1 x5q x5n x5c x6 x7 x8 .nilFunc (bt x1 x8) true w)
 (k3 R Xa x0 x1 x5q x5n x5c x6 x7 x8 .nilFunc (bt x1 x8) ((bt x1 x8) == 42) w)))))))
 (callE P i_parseState_emit #[.pointer x0, .int .i64 (x1.size : Int)] (fun e w13 => e = .returned (.tuple #[]) ∧
 tk w13 fun w14 =>
 nilP x0 fun a15 =>
 nilP x0 fun a16 =>
 ∃ (v17q : OA), ∃ (v17n : Nat), ∃ (v17c : Nat), w14.cell? (a15.add 9) = some (.slice v17q v17n v17c) ∧
 ∃ (r18q : OA), ∃ (r18n : Nat), ∃ (r18c : Nat), (∀ w, (Instr.sliceAt ty_S_Inline (.slice v17q v17n v17c) none (some (.int .i64 0)) none).run P w = .ok (.slice r18q r18n r18c) w) ∧
 ∃ (v19q : OA), ∃ (v19n : Nat), ∃ (v19c : Nat), w14.cell? (a16.add 9) = some (.slice v19q v19n v19c) ∧
 callE P i_parseState_emph #[.pointer x0, .slice r18q r18n r18c, .slice v19q v19n v19c] (fun e w21 => ∃ (r20q : OA), ∃ (r20n : Nat), ∃ (r20c : Nat), e = .returned (.slice r20q r20n r20c) ∧
 nilP x0 fun a22 =>
 stV w21 ((a22.add 9).add 0) (.slice r20q r20n r20c) fun w23 =>
 nilP x0 fun a24 =>
 ∃ (v25q : OA), ∃ (v25n : Nat), ∃ (v25c : Nat), w23.cell? (a24.add 9) = some (.slice v25q v25n v25c) ∧
 callE P i_parseState_mergePlain #[.pointer x0, .slice v25q v25n v25c] (fun e w27 => ∃ (r26q : OA), ∃ (r26n : Nat), ∃ (r26c : Nat), e = .returned (.slice r26q r26n r26c) ∧
 nilP x0 fun a28 =>
 stV w27 ((a28.add 9).add 0) (.slice r26q r26n r26c) fun w29 =>
 nilP x0 fun a30 =>
 ∃ (v31q : OA), ∃ (v31n : Nat), ∃ (v31c : Nat), w29.cell? (a30.add 9) = some (.slice v31q v31n v31c) ∧
 callE P i_parseState_autoLinkText #[.pointer x0, .slice v31q v31n v31c] (fun e w33 => ∃ (r32q : OA), ∃ (r32n : Nat), ∃ (r32c : Nat), e = .returned (.slice r32q r32n r32c) ∧
 nilP x0 fun a34 =>
 stV w33 ((a34.add 9).add 0) (.slice r32q r32n r32c) fun w35 =>
 nilP x0 fun a36 =>
 ∃ (v37q : OA), ∃ (v37n : Nat), ∃ (v37c : Nat), w35.cell? (a36.add 9) = some (.slice v37q v37n v37c) ∧
 R (.returned (.slice v37q v37n v37c)) w35) w29) w23) w14) w)
def l1 (R : EP) (x0 : OA) (x1 : BA) (x5q : OA) (x5n x5c : Nat) (x6 : Int) (x7 : Bool) (x8 : Int) (w : World) : Prop :=
 ∀ X : OA → BA → OA → Nat → Nat → Int → Bool → Int → WP, (∀ x0 x1 x5q x5n x5c x6 x7 x8 w, bl1 R X x0 x1 x5q x5n x5c x6 x7 x8 w → X x0 x1 x5q x5n x5c x6 x7 x8 w) → X x0 x1 x5q x5n x5c x6 x7 x8 w

noncomputable def al1 (R : EP) (Xa : OA → BA → OA → Nat → Nat → Int → Bool → Int → WP) : AC :=
 (.seq (.leaf (sel [1,1,1,1,1,1,1,1,1,0,0,0,0] body)) (.block 1 (.seq (.leaf (sel [1,1,1,1,1,1,1,1,1,0,0,0,1,0,0] body)) (.seq (.seq (.leaf (sel [1,1,1,1,1,1,1,1,1,0,0,0,1,0,1,0,0] body)) (.block 2 (.seq (.leaf (sel [1,1,1,1,1,1,1,1,1,0,0,0,1,0,1,0,1,0,0] body)) (.cond 40 (.leaf (sel [1,1,1,1,1,1,1,1,1,0,0,0,1,0,1,0,1,0,1,0] body)) (.seq (.leaf (sel [1,1,1,1,1,1,1,1,1,0,0,0,1,0,1,0,1,0,1,1,0] body)) (.cond 42 (.seq (.leaf (sel [1,1,1,1,1,1,1,1,1,0,0,0,1,0,1,0,1,0,1,1,1,0,0] body)) (.mark (leaf [(0, .s .ptr), (1, .s .str), (5, .s .slice), (6, .s (.int .i64)), (7, .s .bool), (8, .s (.int .i64))] (k2 R Xa)) (.leaf (sel [1,1,1,1,1,1,1,1,1,0,0,0,1,0,1,0,1,0,1,1,1,0,1] body)))) (.seq (.leaf (sel [1,1,1,1,1,1,1,1,1,0,0,0,1,0,1,0,1,0,1,1,1,1,0] body)) (.cond 54 (.leaf (sel [1,1,1,1,1,1,1,1,1,0,0,0,1,0,1,0,1,0,1,1,1,1,1,0] body)) (.seq (.leaf (sel [1,1,1,1,1,1,1,1,1,0,0,0,1,0,1,0,1,0,1,1,1,1,1,1,0] body)) (.cond 56 (.leaf (sel [1,1,1,1,1,1,1,1,1,0,0,0,1,0,1,0,1,0,1,1,1,1,1,1,1,0] body)) (.seq (.leaf (sel [1,1,1,1,1,1,1,1,1,0,0,0,1,0,1,0,1,0,1,1,1,1,1,1,1,1,0] body)) (.cond 58 (.leaf (sel [1,1,1,1,1,1,1,1,1,0,0,0,1,0,1,0,1,0,1,1,1,1,1,1,1,1,1,0] body)) (.seq (.leaf (sel [1,1,1,1,1,1,1,1,1,0,0,0,1,0,1,0,1,0,1,1,1,1,1,1,1,1,1,1,0] body)) (.mark (leaf [(0, .s .ptr), (1, .s .str), (5, .s .slice), (6, .s (.int .i64)), (7, .s .bool), (8, .s (.int .i64)), (9, .s .any), (39, .s (.int .u8)), (60, .s .bool)] (k3 R Xa)) (.cond 60 (.leaf (sel [1,1,1,1,1,1,1,1,1,0,0,0,1,0,1,0,1,0,1,1,1,1,1,1,1,1,1,1,1,0] body)) (.seq (.leaf (sel [1,1,1,1,1,1,1,1,1,0,0,0,1,0,1,0,1,0,1,1,1,1,1,1,1,1,1,1,1,1,0] body)) (.cond 63 (.leaf (sel [1,1,1,1,1,1,1,1,1,0,0,0,1,0,1,0,1,0,1,1,1,1,1,1,1,1,1,1,1,1,1,0] body)) (.seq (.leaf (sel [1,1,1,1,1,1,1,1,1,0,0,0,1,0,1,0,1,0,1,1,1,1,1,1,1,1,1,1,1,1,1,1,0] body)) (.cond 72 (.leaf (sel [1,1,1,1,1,1,1,1,1,0,0,0,1,0,1,0,1,0,1,1,1,1,1,1,1,1,1,1,1,1,1,1,1,0] body)) (.seq (.leaf (sel [1,1,1,1,1,1,1,1,1,0,0,0,1,0,1,0,1,0,1,1,1,1,1,1,1,1,1,1,1,1,1,1,1,1,0] body)) (.mark (leaf [(0, .s .ptr), (1, .s .str), (5, .s .slice), (6, .s (.int .i64)), (7, .s .bool), (8, .s (.int .i64)), (9, .s .any), (39, .s (.int .u8)), (81, .s .bool)] (k6 R Xa)) (.leaf (sel [1,1,1,1,1,1,1,1,1,0,0,0,1,0,1,0,1,0,1,1,1,1,1,1,1,1,1,1,1,1,1,1,1,1,1] body))))))))))))))))))))))) (.mark (leaf [(0, .s .ptr), (1, .s .str), (5, .s .slice), (6, .s (.int .i64)), (7, .s .bool), (8, .s (.int .i64)), (9, .s .any)] (k1 R Xa)) (.seq (.seq (.leaf (sel [1,1,1,1,1,1,1,1,1,0,0,0,1,0,1,1,0,0] body)) (.cond 114 (.seq (.leaf (sel [1,1,1,1,1,1,1,1,1,0,0,0,1,0,1,1,0,1,0,0] body)) (.seq (.leaf (sel [1,1,1,1,1,1,1,1,1,0,0,0,1,0,1,1,0,1,0,1,0] body)) (.cond 125 (.seq (.leaf (sel [1,1,1,1,1,1,1,1,1,0,0,0,1,0,1,1,0,1,0,1,1,0,0] body)) (.seq (.leaf (sel [1,1,1,1,1,1,1,1,1,0,0,0,1,0,1,1,0,1,0,1,1,0,1,0] body)) (.mark (leaf [(0, .s .ptr), (1, .s .str), (5, .s .slice), (6, .s (.int .i64)), (7, .s .bool), (10, .s .any), (12, .s (.int .i64))] (k4 R Xa)) (.leaf (sel [1,1,1,1,1,1,1,1,1,0,0,0,1,0,1,1,0,1,0,1,1,0,1,1] body))))) (.leaf (sel [1,1,1,1,1,1,1,1,1,0,0,0,1,0,1,1,0,1,0,1,1,1] body))))) (.leaf (sel [1,1,1,1,1,1,1,1,1,0,0,0,1,0,1,1,0,1,1] body)))) (.mark (leaf [(0, .s .ptr), (1, .s .str), (5, .s .slice), (6, .s (.int .i64)), (7, .s .bool), (8, .s (.int .i64))] (k5 R Xa)) (.seq (.seq (.leaf (sel [1,1,1,1,1,1,1,1,1,0,0,0,1,0,1,1,1,0,0] body)) (.mark (leaf [(0, .s .ptr), (1, .s .str), (5, .s .slice), (6, .s (.int .i64)), (7, .s .bool), (8, .s (.int .i64)), (165, .s .bool)] (k7 R Xa)) (.cond 165 (.seq (.leaf (sel [1,1,1,1,1,1,1,1,1,0,0,0,1,0,1,1,1,0,1,0,0] body)) (.seq (.leaf (sel [1,1,1,1,1,1,1,1,1,0,0,0,1,0,1,1,1,0,1,0,1,0] body)) (.seq (.leaf (sel [1,1,1,1,1,1,1,1,1,0,0,0,1,0,1,1,1,0,1,0,1,1,0] body)) (.seq (.leaf (sel [1,1,1,1,1,1,1,1,1,0,0,0,1,0,1,1,1,0,1,0,1,1,1,0] body)) (.mark (leaf [(0, .s .ptr), (1, .s .str), (5, .s .slice), (6, .s (.int .i64)), (7, .s .bool), (8, .s (.int .i64)), (16, .s (.int .i64)), (17, .s .ptr), (199, .s .bool)] (k8 R Xa)) (.cond 199 (.seq (.leaf (sel [1,1,1,1,1,1,1,1,1,0,0,0,1,0,1,1,1,0,1,0,1,1,1,1,0,0] body)) (.seq (.leaf (sel [1,1,1,1,1,1,1,1,1,0,0,0,1,0,1,1,1,0,1,0,1,1,1,1,0,1,0] body)) (.cond 209 (.seq (.leaf (sel [1,1,1,1,1,1,1,1,1,0,0,0,1,0,1,1,1,0,1,0,1,1,1,1,0,1,1,0,0] body)) (.mark (leaf [(0, .s .ptr), (1, .s .str), (5, .s .slice), (6, .s (.int .i64)), (7, .s .bool), (8, .s (.int .i64)), (16, .s (.int .i64)), (17, .s .ptr), (18, .s .ptr), (19, .s (.int .i64))] (k9 R Xa)) (.seq (.leaf (sel [1,1,1,1,1,1,1,1,1,0,0,0,1,0,1,1,1,0,1,0,1,1,1,1,0,1,1,0,1,0] body)) (.seq (.leaf (sel [1,1,1,1,1,1,1,1,1,0,0,0,1,0,1,1,1,0,1,0,1,1,1,1,0,1,1,0,1,1,0] body)) (.seq (.leaf (sel [1,1,1,1,1,1,1,1,1,0,0,0,1,0,1,1,1,0,1,0,1,1,1,1,0,1,1,0,1,1,1,0] body)) (.mark (leaf [(0, .s .ptr), (1, .s .str), (5, .s .slice), (6, .s (.int .i64)), (7, .s .bool), (16, .s (.int .i64)), (17, .s .ptr), (19, .s (.int .i64))] (k10 R Xa)) (.leaf (sel [1,1,1,1,1,1,1,1,1,0,0,0,1,0,1,1,1,0,1,0,1,1,1,1,0,1,1,0,1,1,1,1] body)))))))) (.leaf (sel [1,1,1,1,1,1,1,1,1,0,0,0,1,0,1,1,1,0,1,0,1,1,1,1,0,1,1,1] body))))) (.leaf (sel [1,1,1,1,1,1,1,1,1,0,0,0,1,0,1,1,1,0,1,0,1,1,1,1,1] body)))))))) (.leaf (sel [1,1,1,1,1,1,1,1,1,0,0,0,1,0,1,1,1,0,1,1] body))))) (.leaf (sel [1,1,1,1,1,1,1,1,1,0,0,0,1,0,1,1,1,1] body))))))))))
end g_parseState_inline
def g_parseState_inline (R : EP) (x0 : OA) (x1 : BA) (w : World) : Prop :=
 callE P i_trimSpaceTab #[.string x1] (fun e w2 => ∃ (r1 : BA), e = .returned (.string r1) ∧
 nilP x0 fun a3 =>
 stV w2 ((a3.add 7).add 0) (.string r1) fun w4 =>
 nilP x0 fun a5 =>
 stV w4 ((a5.add 9).add 0) (.slice none 0 0) fun w6 =>
 nilP x0 fun a7 =>
 stV w6 ((a7.add 8).add 0) (.int .i64 0) fun w8 =>
 g_parseState_inline.l1 R x0 r1 none 0 0 0 false 0 w8) w

namespace g_parseState_inline
noncomputable def ac (R : EP) : AC :=
 (.seq (.leaf (sel [0] body)) (.seq (.leaf (sel [1,0] body)) (.seq (.leaf (sel [1,1,0] body)) (.seq (.leaf (sel [1,1,1,0] body)) (.seq (.leaf (sel [1,1,1,1,0] body)) (.seq (.leaf (sel [1,1,1,1,1,0] body)) (.seq (.leaf (sel [1,1,1,1,1,1,0] body)) (.seq (.leaf (sel [1,1,1,1,1,1,1,0] body)) (.seq (.leaf (sel [1,1,1,1,1,1,1,1,0] body)) (.seq (.block 0 (.loop (leaf [(0, .s .ptr), (1, .s .str), (5, .s .slice), (6, .s (.int .i64)), (7, .s .bool), (8, .s (.int .i64))] (l1 R)) (sel [1,1,1,1,1,1,1,1,1,0,0,0] body))) (.seq (.leaf (sel [1,1,1,1,1,1,1,1,1,1,0] body)) (.seq (.draw (.pure 0 (.pure 1 (.pure 2 (.pure 3 (.pure 4 (.pure 7 (.pure 8 (.pure 9 (.load 5 (.pure 6 (.load 10 (.one 11 (.pure 12 (.pure 13 (.one 14 .done))))))))))))))) (sel [1,1,1,1,1,1,1,1,1,1,1,0] body)) (.leaf (sel [1,1,1,1,1,1,1,1,1,1,1,1] body))))))))))))))
theorem good (R : EP) : Good P 335 (ac R) (QF P [.tmp 4] R) :=
 ⟨trivial, ⟨trivial, ⟨trivial, ⟨trivial, ⟨trivial, ⟨trivial, ⟨trivial, ⟨trivial, ⟨trivial, ⟨(loopG (al1 R) (bl1 R) (fun _ => by kernel_rfl) (fun Xa => ⟨trivial, ⟨trivial, ⟨⟨trivial, ⟨trivial, ⟨trivial, ⟨trivial, ⟨⟨trivial, ⟨trivial, cutZ⟩⟩, ⟨trivial, ⟨trivial, ⟨trivial, ⟨trivial, ⟨trivial, ⟨trivial, ⟨trivial, ⟨⟨trivial, ⟨trivial, ⟨trivial, ⟨trivial, ⟨trivial, ⟨trivial, ⟨trivial, cutZ⟩⟩⟩⟩⟩⟩⟩, cutZ⟩⟩⟩⟩⟩⟩⟩⟩⟩⟩⟩⟩⟩, ⟨⟨⟨trivial, ⟨⟨trivial, ⟨trivial, ⟨⟨trivial, ⟨trivial, ⟨trivial, cutZ⟩⟩⟩, trivial⟩⟩⟩, trivial⟩⟩, ⟨⟨⟨trivial, ⟨⟨⟨trivial, ⟨trivial, ⟨trivial, ⟨trivial, ⟨⟨⟨trivial, ⟨trivial, ⟨⟨trivial, ⟨⟨trivial, ⟨trivial, ⟨trivial, ⟨trivial, cutZ⟩⟩⟩⟩, cutZ⟩⟩, trivial⟩⟩⟩, trivial⟩, cutZ⟩⟩⟩⟩⟩, trivial⟩, cutZ⟩⟩, trivial⟩, cutZ⟩⟩, cutZ⟩⟩⟩⟩) (fun Xa => by intro x0 x1 x5q x5n x5c x6 x7 x8 ρ w; kernel_rfl) (fun X h _ _ _ _ _ _ _ _ _ g => g X h)), ⟨trivial, ⟨⟨by kernel_rfl, by kernel_rfl, fun _ _ _ h => h⟩, trivial⟩⟩⟩⟩⟩⟩⟩⟩⟩⟩⟩⟩
theorem eq (R : EP) (x0 : OA) (x1 : BA) (w : World) : g_parseState_inline R x0 x1 w = vcA P 335 (ac R) (QF P [.tmp 4] R) (fr0 [.pointer x0, .string x1]) w := by kernel_rfl
theorem sound {R : EP} {x0 : OA} {x1 : ByteArray} {w : World} (h : g_parseState_inline R x0 x1 w) : callE P i_parseState_inline #[.pointer x0, .string x1] R w :=
 callE_fz (c := body) Tryz.func70 Tryz.call70 (good R) (eq R x0 x1 w) h
end g_parseState_inline
namespace g_parseState_mergePlain
noncomputable def body : Code := bodyOf Tryz.f107
def k2 (R : EP) (Xa : OA → Nat → Nat → OA → Nat → Nat → Int → Int → WP) (x1q : OA) (x1n x1c : Nat) (x5q : OA) (x5n x5c : Nat) (x7 : Int) (w : World) : Prop :=
 br (decide (x7 ≥ (x1n : Int)))
 (R (.returned (.slice x5q x5n x5c)) w)
 (0 ≤ x7 ∧ x7 < (x1n : Int) ∧
 nilP x1q fun a17 =>
 ∃ (v18 : Value), w.cell? (a17.add (Int.toNat x7 * 1)) = some v18 ∧
 ∃ (r19q : OA), ∃ (r19n : Nat), ∃ (r19c : Nat), ∃ w20, (Instr.buildSlice ty_S_Inline 1 #[(0, v18)]).run P w = .ok (.slice r19q r19n r19c) w20 ∧
 ∃ (r21q : OA), ∃ (r21n : Nat), ∃ (r21c : Nat), ∃ w22, (Builtin.append_ #[ty_S_Inline, ty_S_Inline] ty_S_Inline #[.slice x5q x5n x5c, .slice r19q r19n r19c]).run P w20 = .ok (.slice r21q r21n r21c) w22 ∧
 Xa x1q x1n x1c r21q r21n r21c (IntKind.i64.wrap (x7 + 1)) (IntKind.i64.wrap (x7 + 1)) w22)

def k1 (R : EP) (Xa : OA → Nat → Nat → OA → Nat → Nat → Int → Int → WP) (x1q : OA) (x1n x1c : Nat) (x5q : OA) (x5n x5c : Nat) (x6 x7 : Int) (w : World) : Prop :=
 br (decide (x6 < x7))
 (∃ (r9q : OA), ∃ (r9n : Nat), ∃ (r9c : Nat), ∃ w10, (Instr.sliceAt ty_S_Inline (.slice x1q x1n x1c) (some (.int .i64 x6)) (some (.int .i64 x7)) none).run P w = .ok (.slice r9q r9n r9c) w10 ∧
 callE P i_mergePlain1 #[.slice r9q r9n r9c] (fun e w12 => ∃ (r11 : OA), e = .returned (.pointer r11) ∧
 ∃ (r13q : OA), ∃ (r13n : Nat), ∃ (r13c : Nat), ∃ w14, (Instr.buildSlice ty_S_Inline 1 #[(0, .iface ty_P_Plain (.pointer r11))]).run P w12 = .ok (.slice r13q r13n r13c) w14 ∧
 ∃ (r15q : OA), ∃ (r15n : Nat), ∃ (r15c : Nat), ∃ w16, (Builtin.append_ #[ty_S_Inline, ty_S_Inline] ty_S_Inline #[.slice x5q x5n x5c, .slice r13q r13n r13c]).run P w14 = .ok (.slice r15q r15n r15c) w16 ∧
 k2 R Xa x1q x1n x1c r15q r15n r15c x7 w16) w10)
 (k2 R Xa x1q x1n x1c x5q x5n x5c x7 w)

def bl1 (R : EP) (Xa : OA → Nat → Nat → OA → Nat → Nat → Int → Int → WP) (x1q : OA) (x1n x1c : Nat) (x5q : OA) (x5n x5c : Nat) (x6 x7 : Int) (w : World) : Prop :=
 br (decide (x7 < (x1n : Int)))
 (0 ≤ x7 ∧ x7 < (x1n : Int) ∧
 nilP x1q fun a3 =>
 ∃ (v4 : Value), w.cell? (a3.add (Int.toNat x7 * 1)) = some v4 ∧
 callE P i_toPlain #[v4] (fun e w6 => ∃ (r5 : OA), e = .returned (.pointer r5) ∧
 ∃ (r7 : Bool), ∃ w8, (do eqGuard .neq ty_P_Plain (.tmp 21) (.const (.pointer none)) (.pointer r5) (.pointer none); binOp .neq ty_P_Plain (.pointer r5) (.pointer none)).run P w6 = .ok (.bool r7) w8 ∧
 br r7
 (Xa x1q x1n x1c x5q x5n x5c x6 (IntKind.i64.wrap (x7 + 1)) w8)
 (k1 R Xa x1q x1n x1c x5q x5n x5c x6 x7 w8)) w)
 (k1 R Xa x1q x1n x1c x5q x5n x5c x6 x7 w)
def l1 (R : EP) (x1q : OA) (x1n x1c : Nat) (x5q : OA) (x5n x5c : Nat) (x6 x7 : Int) (w : World) : Prop :=
 ∀ X : OA → Nat → Nat → OA → Nat → Nat → Int → Int → WP, (∀ x1q x1n x1c x5q x5n x5c x6 x7 w, bl1 R X x1q x1n x1c x5q x5n x5c x6 x7 w → X x1q x1n x1c x5q x5n x5c x6 x7 w) → X x1q x1n x1c x5q x5n x5c x6 x7 w

noncomputable def al1 (R : EP) (Xa : OA → Nat → Nat → OA → Nat → Nat → Int → Int → WP) : AC :=
 (.seq (.block 1 (.seq (.leaf (sel [1,1,1,0,1,0,0,0,0,0] body)) (.mark (leaf [(1, .s .slice), (5, .s .slice), (6, .s (.int .i64)), (7, .s (.int .i64))] (k1 R Xa)) (.seq (.leaf (sel [1,1,1,0,1,0,0,0,0,1,0] body)) (.mark (leaf [(1, .s .slice), (5, .s .slice), (7, .s (.int .i64))] (k2 R Xa)) (.leaf (sel [1,1,1,0,1,0,0,0,0,1,1] body))))))) (.leaf (sel [1,1,1,0,1,0,0,1] body)))
end g_parseState_mergePlain
def g_parseState_mergePlain (R : EP) (x0 x1q : OA) (x1n x1c : Nat) (w : World) : Prop :=
 ∃ (r1q : OA), ∃ (r1n : Nat), ∃ (r1c : Nat), ∃ w2, (Instr.sliceAt ty_S_Inline (.slice x1q x1n x1c) none (some (.int .i64 0)) none).run P w = .ok (.slice r1q r1n r1c) w2 ∧
 g_parseState_mergePlain.l1 R x1q x1n x1c r1q r1n r1c 0 0 w2

namespace g_parseState_mergePlain
noncomputable def ac (R : EP) : AC :=
 (.seq (.leaf (sel [0] body)) (.seq (.leaf (sel [1,0] body)) (.seq (.leaf (sel [1,1,0] body)) (.seq (.seq (.leaf (sel [1,1,1,0,0] body)) (.block 0 (.loop (leaf [(1, .s .slice), (5, .s .slice), (6, .s (.int .i64)), (7, .s (.int .i64))] (l1 R)) (sel [1,1,1,0,1,0,0] body)))) (.leaf (sel [1,1,1,1] body))))))
theorem good (R : EP) : Good P 50 (ac R) (QF P [.tmp 4] R) :=
 ⟨trivial, ⟨trivial, ⟨trivial, ⟨⟨trivial, (loopG (al1 R) (bl1 R) (fun _ => by kernel_rfl) (fun Xa => ⟨⟨trivial, ⟨⟨trivial, ⟨trivial, cutZ⟩⟩, cutZ⟩⟩, trivial⟩) (fun Xa => by intro x1q x1n x1c x5q x5n x5c x6 x7 ρ w; kernel_rfl) (fun X h _ _ _ _ _ _ _ _ _ g => g X h))⟩, trivial⟩⟩⟩⟩
theorem eq (R : EP) (x0 x1q : OA) (x1n x1c : Nat) (w : World) : g_parseState_mergePlain R x0 x1q x1n x1c w = vcA P 50 (ac R) (QF P [.tmp 4] R) (fr0 [.pointer x0, .slice x1q x1n x1c]) w := by kernel_rfl
theorem sound {R : EP} {x0 x1q : OA} {x1n x1c : Nat} {w : World} (h : g_parseState_mergePlain R x0 x1q x1n x1c w) : callE P i_parseState_mergePlain #[.pointer x0, .slice x1q x1n x1c] R w :=
 callE_fz (c := body) Tryz.func107 Tryz.call107 (good R) (eq R x0 x1q x1n x1c w) h
end g_parseState_mergePlain
namespace g_mergePlain1
noncomputable def body : Code := bodyOf Tryz.f163
def bl1 (R : EP) (Xa : OA → Nat → Nat → OA → Nat → Nat → Int → Int → WP) (x3q : OA) (x3n x3c : Nat) (x13q : OA) (x13n x13c : Nat) (x14 x15 : Int) (w : World) : Prop :=
 br (decide (x15 < x14))
 (0 ≤ x15 ∧ x15 < (x13n : Int) ∧
 nilP x13q fun a5 =>
 ∃ (v6 : Value), w.cell? (a5.add (Int.toNat x15 * 1)) = some v6 ∧
 callE P i_toPlain #[v6] (fun e w8 => ∃ (r7 : OA), e = .returned (.pointer r7) ∧
 nilP r7 fun a9 =>
 ∃ (v10 : BA), w8.cell? a9 = some (.string v10) ∧
 ∃ (r11q : OA), ∃ (r11n : Nat), ∃ (r11c : Nat), ∃ w12, (Instr.buildSlice ty_S_string 1 #[(0, .string v10)]).run P w8 = .ok (.slice r11q r11n r11c) w12 ∧
 ∃ (r13q : OA), ∃ (r13n : Nat), ∃ (r13c : Nat), ∃ w14, (Builtin.append_ #[ty_S_string, ty_S_string] ty_S_string #[.slice x3q x3n x3c, .slice r11q r11n r11c]).run P w12 = .ok (.slice r13q r13n r13c) w14 ∧
 Xa r13q r13n r13c x13q x13n x13c x14 (IntKind.i64.wrap (x15 + 1)) w14) w)
 (callE P i_strings_Join #[.slice x3q x3n x3c, .string (ByteArray.mk #[])] (fun e w16 => ∃ (r15 : BA), e = .returned (.string r15) ∧
 box w16 #[.string r15] ty_Plain fun b17 w18 =>
 R (.returned (.pointer (some ⟨b17, 0, none⟩))) w18) w)
def l1 (R : EP) (x3q : OA) (x3n x3c : Nat) (x13q : OA) (x13n x13c : Nat) (x14 x15 : Int) (w : World) : Prop :=
 ∀ X : OA → Nat → Nat → OA → Nat → Nat → Int → Int → WP, (∀ x3q x3n x3c x13q x13n x13c x14 x15 w, bl1 R X x3q x3n x3c x13q x13n x13c x14 x15 w → X x3q x3n x3c x13q x13n x13c x14 x15 w) → X x3q x3n x3c x13q x13n x13c x14 x15 w

noncomputable def al1 (R : EP) (Xa : OA → Nat → Nat → OA → Nat → Nat → Int → Int → WP) : AC :=
 (.leaf (sel [1,1,1,0,1,0,0] body))
end g_mergePlain1
def g_mergePlain1 (R : EP) (x0q : OA) (x0n x0c : Nat) (w : World) : Prop :=
 br ((x0n : Int) == 1)
 (0 ≤ (0 : Int) ∧ 0 < (x0n : Int) ∧
 nilP x0q fun a1 =>
 ∃ (v2 : Value), w.cell? (a1.add (Int.toNat 0 * 1)) = some v2 ∧
 callE P i_toPlain #[v2] (fun e w4 => ∃ (r3 : OA), e = .returned (.pointer r3) ∧
 R (.returned (.pointer r3)) w4) w)
 (g_mergePlain1.l1 R none 0 0 x0q x0n x0c (x0n : Int) 0 w)

namespace g_mergePlain1
noncomputable def ac (R : EP) : AC :=
 (.seq (.leaf (sel [0] body)) (.seq (.leaf (sel [1,0] body)) (.seq (.leaf (sel [1,1,0] body)) (.seq (.seq (.leaf (sel [1,1,1,0,0] body)) (.block 0 (.loop (leaf [(3, .s .slice), (13, .s .slice), (14, .s (.int .i64)), (15, .s (.int .i64))] (l1 R)) (sel [1,1,1,0,1,0,0] body)))) (.leaf (sel [1,1,1,1] body))))))
theorem good (R : EP) : Good P 32 (ac R) (QF P [.tmp 2] R) :=
 ⟨trivial, ⟨trivial, ⟨trivial, ⟨⟨trivial, (loopG (al1 R) (bl1 R) (fun _ => by kernel_rfl) (fun Xa => trivial) (fun Xa => by intro x3q x3n x3c x13q x13n x13c x14 x15 ρ w; kernel_rfl) (fun X h _ _ _ _ _ _ _ _ _ g => g X h))⟩, trivial⟩⟩⟩⟩
theorem eq (R : EP) (x0q : OA) (x0n x0c : Nat) (w : World) : g_mergePlain1 R x0q x0n x0c w = vcA P 32 (ac R) (QF P [.tmp 2] R) (fr0 [.slice x0q x0n x0c]) w := by kernel_rfl
theorem sound {R : EP} {x0q : OA} {x0n x0c : Nat} {w : World} (h : g_mergePlain1 R x0q x0n x0c w) : callE P i_mergePlain1 #[.slice x0q x0n x0c] R w :=
 callE_fz (c := body) Tryz.func163 Tryz.call163 (good R) (eq R x0q x0n x0c w) h
end g_mergePlain1
namespace g_toPlain
noncomputable def body : Code := bodyOf Tryz.f162
end g_toPlain
def g_toPlain (R : EP) (x0 : Value) (w : World) : Prop :=
 ∃ (r1_0 : OA), ∃ (r1_1 : Bool), ∃ w2, (Instr.typeAssert x0 ty_Inline ty_P_Plain true).run P w = .ok (.tuple #[.pointer r1_0, .bool r1_1]) w2 ∧
 br r1_1
 (R (.returned (.pointer r1_0)) w2)
 (∃ (r3_0 : OA), ∃ (r3_1 : Bool), ∃ w4, (Instr.typeAssert x0 ty_Inline ty_P_emphPlain true).run P w2 = .ok (.tuple #[.pointer r3_0, .bool r3_1]) w4 ∧
 br r3_1
 (nilP r3_0 fun a5 =>
 R (.returned (.pointer (some a5))) w4)
 (∃ (r6_0 : OA), ∃ (r6_1 : Bool), ∃ w7, (Instr.typeAssert x0 ty_Inline ty_P_openPlain true).run P w4 = .ok (.tuple #[.pointer r6_0, .bool r6_1]) w7 ∧
 br r6_1
 (nilP r6_0 fun a8 =>
 R (.returned (.pointer (some a8))) w7)
 (R (.returned (.pointer none)) w7)))

namespace g_toPlain
noncomputable def ac (R : EP) : AC :=
 (.leaf (sel [] body))
theorem good (R : EP) : Good P 23 (ac R) (QF P [.tmp 2] R) :=
 trivial
theorem eq (R : EP) (x0 : Value) (w : World) : g_toPlain R x0 w = vcA P 23 (ac R) (QF P [.tmp 2] R) (fr0 [x0]) w := by kernel_rfl
theorem sound {R : EP} {x0 : Value} {w : World} (h : g_toPlain R x0 w) : callE P i_toPlain #[x0] R w :=
 callE_fz (c := body) Tryz.func162 Tryz.call162 (good R) (eq R x0 w) h
end g_toPlain
namespace g_parseState_emph
noncomputable def body : Code := bodyOf Tryz.f106
def k4 (R : EP) (Xa : OA → Nat → Nat → Nat → Nat → Value → Value → Int → WP) (x2q : OA) (x2n x2c : Nat) (x4 x7 : Nat) (x8 x9 : Value) (x10 : Int) (x13 x21 : OA) (w : World) : Prop :=
 nilP x13 fun a147 =>
 ∃ (v148 : Bool), w.cell? (a147.add 1) = some (.bool v148) ∧
 br v148
 (∃ (v149q : OA), ∃ (v149n : Nat), ∃ (v149c : Nat), w.cell? ⟨x4, 0, none⟩ = some (.slice v149q v149n v149c) ∧
 nilP x13 fun a150 =>
 stV w ((a150.add 3).add 0) (.int .i64 (v149n : Int)) fun w151 =>
 ∃ (v152q : OA), ∃ (v152n : Nat), ∃ (v152c : Nat), w151.cell? ⟨x4, 0, none⟩ = some (.slice v152q v152n v152c) ∧
 ∃ (r153q : OA), ∃ (r153n : Nat), ∃ (r153c : Nat), ∃ w154, (Instr.buildSlice ty_S_Inline 1 #[(0, .iface ty_P_emphPlain (.pointer x13))]).run P w151 = .ok (.slice r153q r153n r153c) w154 ∧
 ∃ (r155q : OA), ∃ (r155n : Nat), ∃ (r155c : Nat), ∃ w156, (Builtin.append_ #[ty_S_Inline, ty_S_Inline] ty_S_Inline #[.slice v152q v152n v152c, .slice r153q r153n r153c]).run P w154 = .ok (.slice r155q r155n r155c) w156 ∧
 stV w156 ⟨x4, 0, none⟩ (.slice r155q r155n r155c) fun w157 =>
 nilP x21 fun a158 =>
 ∃ (v159q : OA), ∃ (v159n : Nat), ∃ (v159c : Nat), w157.cell? a158 = some (.slice v159q v159n v159c) ∧
 ∃ (r160q : OA), ∃ (r160n : Nat), ∃ (r160c : Nat), ∃ w161, (Instr.buildSlice ty_S_P_emphPlain 1 #[(0, .pointer x13)]).run P w157 = .ok (.slice r160q r160n r160c) w161 ∧
 ∃ (r162q : OA), ∃ (r162n : Nat), ∃ (r162c : Nat), ∃ w163, (Builtin.append_ #[ty_S_P_emphPlain, ty_S_P_emphPlain] ty_S_P_emphPlain #[.slice v159q v159n v159c, .slice r160q r160n r160c]).run P w161 = .ok (.slice r162q r162n r162c) w163 ∧
 nilP x21 fun a164 =>
 stV w163 (a164.add 0) (.slice r162q r162n r162c) fun w165 =>
 Xa x2q x2n x2c x4 x7 x8 x9 (IntKind.i64.wrap (x10 + 1)) w165)
 (tk w fun w166 =>
 nilP x13 fun a167 =>
 ∃ (v168q : OA), ∃ (v168n : Nat), ∃ (v168c : Nat), w166.cell? ⟨x4, 0, none⟩ = some (.slice v168q v168n v168c) ∧
 ∃ (r169q : OA), ∃ (r169n : Nat), ∃ (r169c : Nat), ∃ w170, (Instr.buildSlice ty_S_Inline 1 #[(0, .iface ty_P_Plain (.pointer (some a167)))]).run P w166 = .ok (.slice r169q r169n r169c) w170 ∧
 SameC w166 w170 ⟨x4, 0, none⟩ 1 ∧
 ∃ (r171q : OA), ∃ (r171n : Nat), ∃ (r171c : Nat), ∃ w172, (Builtin.append_ #[ty_S_Inline, ty_S_Inline] ty_S_Inline #[.slice v168q v168n v168c, .slice r169q r169n r169c]).run P w170 = .ok (.slice r171q r171n r171c) w172 ∧
 stV w172 ⟨x4, 0, none⟩ (.slice r171q r171n r171c) fun w173 =>
 Xa x2q x2n x2c x4 x7 x8 x9 (IntKind.i64.wrap (x10 + 1)) w173)

def k7 (R : EP) (Xa : OA → Nat → Nat → Nat → Nat → Value → Value → Int → WP) (Xb : OA → Nat → Nat → Nat → Nat → Value → Value → Int → OA → OA → WP) (Xc : OA → Nat → Nat → Nat → Nat → Value → Value → Int → OA → OA → Int → WP) (x2q : OA) (x2n x2c : Nat) (x4 x7 : Nat) (x8 x9 : Value) (x10 : Int) (x13 x15 : OA) (x18 : Int) (x19 : Bool) (x20 : OA) (w : World) : Prop :=
 enterE P (do let d ← Deferred.ofValue x9 #[]; invoke d.target d.args) (fun e w267 => e = .returned (.tuple #[]) ∧
 br x19
 (∃ (v268q : OA), ∃ (v268n : Nat), ∃ (v268c : Nat), w267.cell? ⟨x4, 0, none⟩ = some (.slice v268q v268n v268c) ∧
 ∃ (r269q : OA), ∃ (r269n : Nat), ∃ (r269c : Nat), ∃ w270, (Instr.buildSlice ty_S_Inline 1 #[(0, .iface ty_P_Del (.pointer x20))]).run P w267 = .ok (.slice r269q r269n r269c) w270 ∧
 ∃ (r271q : OA), ∃ (r271n : Nat), ∃ (r271c : Nat), ∃ w272, (Builtin.append_ #[ty_S_Inline, ty_S_Inline] ty_S_Inline #[.slice v268q v268n v268c, .slice r269q r269n r269c]).run P w270 = .ok (.slice r271q r271n r271c) w272 ∧
 stV w272 ⟨x4, 0, none⟩ (.slice r271q r271n r271c) fun w273 =>
 Xb x2q x2n x2c x4 x7 x8 x9 x10 x13 x15 w273)
 (br (x18 == 2)
 (∃ (v274q : OA), ∃ (v274n : Nat), ∃ (v274c : Nat), w267.cell? ⟨x4, 0, none⟩ = some (.slice v274q v274n v274c) ∧
 ∃ (r275q : OA), ∃ (r275n : Nat), ∃ (r275c : Nat), ∃ w276, (Instr.buildSlice ty_S_Inline 1 #[(0, .iface ty_P_Strong (.pointer x20))]).run P w267 = .ok (.slice r275q r275n r275c) w276 ∧
 ∃ (r277q : OA), ∃ (r277n : Nat), ∃ (r277c : Nat), ∃ w278, (Builtin.append_ #[ty_S_Inline, ty_S_Inline] ty_S_Inline #[.slice v274q v274n v274c, .slice r275q r275n r275c]).run P w276 = .ok (.slice r277q r277n r277c) w278 ∧
 stV w278 ⟨x4, 0, none⟩ (.slice r277q r277n r277c) fun w279 =>
 Xb x2q x2n x2c x4 x7 x8 x9 x10 x13 x15 w279)
 (∃ (v280q : OA), ∃ (v280n : Nat), ∃ (v280c : Nat), w267.cell? ⟨x4, 0, none⟩ = some (.slice v280q v280n v280c) ∧
 ∃ (r281q : OA), ∃ (r281n : Nat), ∃ (r281c : Nat), ∃ w282, (Instr.buildSlice ty_S_Inline 1 #[(0, .iface ty_P_Emph (.pointer x20))]).run P w267 = .ok (.slice r281q r281n r281c) w282 ∧
 ∃ (r283q : OA), ∃ (r283n : Nat), ∃ (r283c : Nat), ∃ w284, (Builtin.append_ #[ty_S_Inline, ty_S_Inline] ty_S_Inline #[.slice v280q v280n v280c, .slice r281q r281n r281c]).run P w282 = .ok (.slice r283q r283n r283c) w284 ∧
 stV w284 ⟨x4, 0, none⟩ (.slice r283q r283n r283c) fun w285 =>
 Xb x2q x2n x2c x4 x7 x8 x9 x10 x13 x15 w285))) w

def k2 (R : EP) (Xa : OA → Nat → Nat → Nat → Nat → Value → Value → Int → WP) (x2q : OA) (x2n x2c : Nat) (x4 x7 : Nat) (x8 x9 : Value) (x10 : Int) (x13 x21 : OA) (w : World) : Prop :=
 nilP x13 fun a132 =>
 ∃ (v133 : BA), w.cell? a132 = some (.string v133) ∧
 br (v133.toList == (ByteArray.mk #[34]).toList)
 (nilP x13 fun a134 =>
 ∃ (v135 : Bool), w.cell? (a134.add 2) = some (.bool v135) ∧
 br v135
 (nilP x13 fun a136 =>
 stV w (a136.add 0) (.string (ByteArray.mk #[226, 128, 157])) fun w137 =>
 k4 R Xa x2q x2n x2c x4 x7 x8 x9 x10 x13 x21 w137)
 (nilP x13 fun a138 =>
 stV w (a138.add 0) (.string (ByteArray.mk #[226, 128, 156])) fun w139 =>
 k4 R Xa x2q x2n x2c x4 x7 x8 x9 x10 x13 x21 w139))
 (k4 R Xa x2q x2n x2c x4 x7 x8 x9 x10 x13 x21 w)

def k6 (R : EP) (Xa : OA → Nat → Nat → Nat → Nat → Value → Value → Int → WP) (Xb : OA → Nat → Nat → Nat → Nat → Value → Value → Int → OA → OA → WP) (Xc : OA → Nat → Nat → Nat → Nat → Value → Value → Int → OA → OA → Int → WP) (x2q : OA) (x2n x2c : Nat) (x4 x7 : Nat) (x8 x9 : Value) (x10 : Int) (x13 x15 x17 : OA) (x18 : Int) (w : World) : Prop :=
 nilP x13 fun a228 =>
 ∃ (v229 : BA), w.cell? a228 = some (.string v229) ∧
 0 ≤ (0 : Int) ∧ 0 < (v229.size : Int) ∧
 tk w fun w230 =>
 nilP x13 fun a231 =>
 nilP x17 fun a232 =>
 ∃ (v233 : BA), w230.cell? a231 = some (.string v233) ∧
 0 ≤ x18 ∧ x18 ≤ (v233.size : Int) ∧
 ∃ (v234q : OA), ∃ (v234n : Nat), ∃ (v234c : Nat), w230.cell? ⟨x4, 0, none⟩ = some (.slice v234q v234n v234c) ∧
 ∃ (v235 : Int), w230.cell? (a232.add 3) = some (.int .i64 v235) ∧
 ∃ (r236q : OA), ∃ (r236n : Nat), ∃ (r236c : Nat), (∀ w, (Instr.sliceAt ty_S_Inline (.slice v234q v234n v234c) (some (.int .i64 (IntKind.i64.wrap (v235 + 1)))) none none).run P w = .ok (.slice r236q r236n r236c) w) ∧
 ∃ (r237q : OA), ∃ (r237n : Nat), ∃ (r237c : Nat), ∃ w238, (Builtin.append_ #[ty_S_Inline, ty_S_Inline] ty_S_Inline #[.slice none 0 0, .slice r236q r236n r236c]).run P w230 = .ok (.slice r237q r237n r237c) w238 ∧
 SameC w230 w238 (a231) 1 ∧
 box w238 #[.string (v233.extract 0 (Int.toNat x18)), .slice r237q r237n r237c] ty_Emph fun b239 w240 =>
 tk w240 fun w241 =>
 nilP x17 fun a242 =>
 nilP x17 fun a243 =>
 ∃ (v244 : BA), w241.cell? a242 = some (.string v244) ∧
 ∃ (v245 : BA), w241.cell? a243 = some (.string v245) ∧
 0 ≤ (IntKind.i64.wrap ((v245.size : Int) - x18)) ∧ (IntKind.i64.wrap ((v245.size : Int) - x18)) ≤ (v244.size : Int) ∧
 nilP x17 fun a246 =>
 stV w241 (a246.add 0) (.string (v244.extract 0 (Int.toNat (IntKind.i64.wrap ((v245.size : Int) - x18))))) fun w247 =>
 nilP x13 fun a248 =>
 ∃ (v249 : BA), w247.cell? a248 = some (.string v249) ∧
 0 ≤ x18 ∧ x18 ≤ (v249.size : Int) ∧
 nilP x13 fun a250 =>
 stV w247 (a250.add 0) (.string (v249.extract (Int.toNat x18) v249.size)) fun w251 =>
 nilP x17 fun a252 =>
 ∃ (v253 : BA), w251.cell? a252 = some (.string v253) ∧
 br (v253.toList == (ByteArray.mk #[]).toList)
 (tk w251 fun w254 =>
 nilP x17 fun a255 =>
 ∃ (v256q : OA), ∃ (v256n : Nat), ∃ (v256c : Nat), w254.cell? ⟨x4, 0, none⟩ = some (.slice v256q v256n v256c) ∧
 ∃ (v257 : Int), w254.cell? (a255.add 3) = some (.int .i64 v257) ∧
 ∃ (r258q : OA), ∃ (r258n : Nat), ∃ (r258c : Nat), (∀ w, (Instr.sliceAt ty_S_Inline (.slice v256q v256n v256c) none (some (.int .i64 v257)) none).run P w = .ok (.slice r258q r258n r258c) w) ∧
 stV w254 ⟨x4, 0, none⟩ (.slice r258q r258n r258c) fun w259 =>
 k7 R Xa Xb Xc x2q x2n x2c x4 x7 x8 x9 x10 x13 x15 x18 ((bt v229 0) == 126) (some ⟨b239, 0, none⟩) w259)
 (tk w251 fun w260 =>
 nilP x17 fun a261 =>
 ∃ (v262q : OA), ∃ (v262n : Nat), ∃ (v262c : Nat), w260.cell? ⟨x4, 0, none⟩ = some (.slice v262q v262n v262c) ∧
 ∃ (v263 : Int), w260.cell? (a261.add 3) = some (.int .i64 v263) ∧
 ∃ (r264q : OA), ∃ (r264n : Nat), ∃ (r264c : Nat), (∀ w, (Instr.sliceAt ty_S_Inline (.slice v262q v262n v262c) none (some (.int .i64 (IntKind.i64.wrap (v263 + 1)))) none).run P w = .ok (.slice r264q r264n r264c) w) ∧
 stV w260 ⟨x4, 0, none⟩ (.slice r264q r264n r264c) fun w265 =>
 k7 R Xa Xb Xc x2q x2n x2c x4 x7 x8 x9 x10 x13 x15 x18 ((bt v229 0) == 126) (some ⟨b239, 0, none⟩) w265)

def k1 (R : EP) (Xa : OA → Nat → Nat → Nat → Nat → Value → Value → Int → WP) (x2q : OA) (x2n x2c : Nat) (x4 x7 : Nat) (x8 x9 : Value) (x10 : Int) (x13 : OA) (w : World) : Prop :=
 nilP x13 fun a41 =>
 ∃ (v42 : BA), w.cell? a41 = some (.string v42) ∧
 br (!(v42.toList == (ByteArray.mk #[]).toList))
 (nilP x13 fun a43 =>
 ∃ (v44 : BA), w.cell? a43 = some (.string v44) ∧
 0 ≤ (0 : Int) ∧ 0 < (v44.size : Int) ∧
 enterE P (do let d ← Deferred.ofValue x8 #[.int .u8 (bt v44 0)]; invoke d.target d.args) (fun e w46 => ∃ (r45 : Int), e = .returned (.int .i64 r45) ∧
 0 ≤ r45 ∧ r45 < (5 : Int) ∧
 nilP x13 fun a47 =>
 ∃ (v48 : BA), w46.cell? a47 = some (.string v48) ∧
 br (v48.toList == (ByteArray.mk #[39]).toList)
 (nilP x13 fun a49 =>
 stV w46 (a49.add 0) (.string (ByteArray.mk #[226, 128, 153])) fun w50 =>
 k2 R Xa x2q x2n x2c x4 x7 x8 x9 x10 x13 (some ((⟨x7, 0, none⟩ : Addr).add (Int.toNat r45 * 1))) w50)
 (k2 R Xa x2q x2n x2c x4 x7 x8 x9 x10 x13 (some ((⟨x7, 0, none⟩ : Addr).add (Int.toNat r45 * 1))) w46)) w)
 (Xa x2q x2n x2c x4 x7 x8 x9 (IntKind.i64.wrap (x10 + 1)) w)

def k5 (R : EP) (Xa : OA → Nat → Nat → Nat → Nat → Value → Value → Int → WP) (Xb : OA → Nat → Nat → Nat → Nat → Value → Value → Int → OA → OA → WP) (Xc : OA → Nat → Nat → Nat → Nat → Value → Value → Int → OA → OA → Int → WP) (x2q : OA) (x2n x2c : Nat) (x4 x7 : Nat) (x8 x9 : Value) (x10 : Int) (x13 x15 : OA) (x16 : Int) (x17 : OA) (w : World) : Prop :=
 nilP x13 fun a174 =>
 ∃ (v175 : BA), w.cell? a174 = some (.string v175) ∧
 0 ≤ (0 : Int) ∧ 0 < (v175.size : Int) ∧
 br ((bt v175 0) == 34)
 (tk w fun w176 =>
 nilP x17 fun a177 =>
 ∃ (v178q : OA), ∃ (v178n : Nat), ∃ (v178c : Nat), w176.cell? ⟨x4, 0, none⟩ = some (.slice v178q v178n v178c) ∧
 ∃ (v179 : Int), w176.cell? (a177.add 3) = some (.int .i64 v179) ∧
 0 ≤ v179 ∧ v179 < (v178n : Int) ∧
 nilP v178q fun a180 =>
 ∃ (v181 : Value), w176.cell? (a180.add (Int.toNat v179 * 1)) = some v181 ∧
 ∃ (r182 : OA), (∀ w, (Instr.typeAssert v181 ty_Inline ty_P_emphPlain false).run P w = .ok (.pointer r182) w) ∧
 nilP r182 fun a183 =>
 stV w176 (a183.add 0) (.string (ByteArray.mk #[226, 128, 156])) fun w184 =>
 nilP x13 fun a185 =>
 stV w184 (a185.add 0) (.string (ByteArray.mk #[226, 128, 157])) fun w186 =>
 ∃ (v187q : OA), ∃ (v187n : Nat), ∃ (v187c : Nat), w186.cell? ⟨x4, 0, none⟩ = some (.slice v187q v187n v187c) ∧
 ∃ (r188q : OA), ∃ (r188n : Nat), ∃ (r188c : Nat), ∃ w189, (Instr.buildSlice ty_S_Inline 1 #[(0, .iface ty_P_emphPlain (.pointer x13))]).run P w186 = .ok (.slice r188q r188n r188c) w189 ∧
 ∃ (r190q : OA), ∃ (r190n : Nat), ∃ (r190c : Nat), ∃ w191, (Builtin.append_ #[ty_S_Inline, ty_S_Inline] ty_S_Inline #[.slice v187q v187n v187c, .slice r188q r188n r188c]).run P w189 = .ok (.slice r190q r190n r190c) w191 ∧
 stV w191 ⟨x4, 0, none⟩ (.slice r190q r190n r190c) fun w192 =>
 nilP x15 fun a193 =>
 ∃ (v194q : OA), ∃ (v194n : Nat), ∃ (v194c : Nat), w192.cell? a193 = some (.slice v194q v194n v194c) ∧
 ∃ (r195q : OA), ∃ (r195n : Nat), ∃ (r195c : Nat), ∃ w196, (Instr.sliceAt ty_S_P_emphPlain (.slice v194q v194n v194c) none (some (.int .i64 x16)) none).run P w192 = .ok (.slice r195q r195n r195c) w196 ∧
 nilP x15 fun a197 =>
 stV w196 (a197.add 0) (.slice r195q r195n r195c) fun w198 =>
 Xa x2q x2n x2c x4 x7 x8 x9 (IntKind.i64.wrap (x10 + 1)) w198)
 (nilP x13 fun a199 =>
 ∃ (v200 : BA), w.cell? a199 = some (.string v200) ∧
 0 ≤ (0 : Int) ∧ 0 < (v200.size : Int) ∧
 br ((bt v200 0) == 39)
 (tk w fun w201 =>
 nilP x17 fun a202 =>
 ∃ (v203q : OA), ∃ (v203n : Nat), ∃ (v203c : Nat), w201.cell? ⟨x4, 0, none⟩ = some (.slice v203q v203n v203c) ∧
 ∃ (v204 : Int), w201.cell? (a202.add 3) = some (.int .i64 v204) ∧
 0 ≤ v204 ∧ v204 < (v203n : Int) ∧
 nilP v203q fun a205 =>
 ∃ (v206 : Value), w201.cell? (a205.add (Int.toNat v204 * 1)) = some v206 ∧
 ∃ (r207 : OA), (∀ w, (Instr.typeAssert v206 ty_Inline ty_P_emphPlain false).run P w = .ok (.pointer r207) w) ∧
 nilP r207 fun a208 =>
 stV w201 (a208.add 0) (.string (ByteArray.mk #[226, 128, 152])) fun w209 =>
 nilP x13 fun a210 =>
 stV w209 (a210.add 0) (.string (ByteArray.mk #[226, 128, 153])) fun w211 =>
 ∃ (v212q : OA), ∃ (v212n : Nat), ∃ (v212c : Nat), w211.cell? ⟨x4, 0, none⟩ = some (.slice v212q v212n v212c) ∧
 ∃ (r213q : OA), ∃ (r213n : Nat), ∃ (r213c : Nat), ∃ w214, (Instr.buildSlice ty_S_Inline 1 #[(0, .iface ty_P_emphPlain (.pointer x13))]).run P w211 = .ok (.slice r213q r213n r213c) w214 ∧
 ∃ (r215q : OA), ∃ (r215n : Nat), ∃ (r215c : Nat), ∃ w216, (Builtin.append_ #[ty_S_Inline, ty_S_Inline] ty_S_Inline #[.slice v212q v212n v212c, .slice r213q r213n r213c]).run P w214 = .ok (.slice r215q r215n r215c) w216 ∧
 stV w216 ⟨x4, 0, none⟩ (.slice r215q r215n r215c) fun w217 =>
 nilP x15 fun a218 =>
 ∃ (v219q : OA), ∃ (v219n : Nat), ∃ (v219c : Nat), w217.cell? a218 = some (.slice v219q v219n v219c) ∧
 ∃ (r220q : OA), ∃ (r220n : Nat), ∃ (r220c : Nat), ∃ w221, (Instr.sliceAt ty_S_P_emphPlain (.slice v219q v219n v219c) none (some (.int .i64 x16)) none).run P w217 = .ok (.slice r220q r220n r220c) w221 ∧
 nilP x15 fun a222 =>
 stV w221 (a222.add 0) (.slice r220q r220n r220c) fun w223 =>
 Xa x2q x2n x2c x4 x7 x8 x9 (IntKind.i64.wrap (x10 + 1)) w223)
 (nilP x13 fun a224 =>
 ∃ (v225 : BA), w.cell? a224 = some (.string v225) ∧
 br (decide ((v225.size : Int) ≥ 2))
 (nilP x17 fun a226 =>
 ∃ (v227 : BA), w.cell? a226 = some (.string v227) ∧
 br (decide ((v227.size : Int) ≥ 2))
 (k6 R Xa Xb Xc x2q x2n x2c x4 x7 x8 x9 x10 x13 x15 x17 2 w)
 (k6 R Xa Xb Xc x2q x2n x2c x4 x7 x8 x9 x10 x13 x15 x17 1 w))
 (k6 R Xa Xb Xc x2q x2n x2c x4 x7 x8 x9 x10 x13 x15 x17 1 w)))

def k3 (R : EP) (Xa : OA → Nat → Nat → Nat → Nat → Value → Value → Int → WP) (Xb : OA → Nat → Nat → Nat → Nat → Value → Value → Int → OA → OA → WP) (Xc : OA → Nat → Nat → Nat → Nat → Value → Value → Int → OA → OA → Int → WP) (x2q : OA) (x2n x2c : Nat) (x4 x7 : Nat) (x8 x9 : Value) (x10 : Int) (x13 x15 : OA) (x16 : Int) (x17 : OA) (w : World) : Prop :=
 tk w fun w140 =>
 nilP x13 fun a141 =>
 ∃ (v142 : BA), w140.cell? a141 = some (.string v142) ∧
 0 ≤ (0 : Int) ∧ 0 < (v142.size : Int) ∧
 br ((bt v142 0) == 126)
 (nilP x13 fun a143 =>
 nilP x17 fun a144 =>
 ∃ (v145 : BA), w140.cell? a143 = some (.string v145) ∧
 ∃ (v146 : BA), w140.cell? a144 = some (.string v146) ∧
 br ((v145.size : Int) != (v146.size : Int))
 (Xc x2q x2n x2c x4 x7 x8 x9 x10 x13 x15 (IntKind.i64.wrap (x16 - 1)) w140)
 (k5 R Xa Xb Xc x2q x2n x2c x4 x7 x8 x9 x10 x13 x15 x16 x17 w140))
 (k5 R Xa Xb Xc x2q x2n x2c x4 x7 x8 x9 x10 x13 x15 x16 x17 w140)

def bl3 (R : EP) (Xa : OA → Nat → Nat → Nat → Nat → Value → Value → Int → WP) (Xb : OA → Nat → Nat → Nat → Nat → Value → Value → Int → OA → OA → WP) (Xc : OA → Nat → Nat → Nat → Nat → Value → Value → Int → OA → OA → Int → WP) (x2q : OA) (x2n x2c : Nat) (x4 x7 : Nat) (x8 x9 : Value) (x10 : Int) (x13 x15 : OA) (x16 : Int) (w : World) : Prop :=
 br (decide (x16 ≥ 0))
 (nilP x15 fun a51 =>
 ∃ (v52q : OA), ∃ (v52n : Nat), ∃ (v52c : Nat), w.cell? a51 = some (.slice v52q v52n v52c) ∧
 0 ≤ x16 ∧ x16 < (v52n : Int) ∧
 nilP v52q fun a53 =>
 ∃ (v54 : OA), w.cell? (a53.add (Int.toNat x16 * 1)) = some (.pointer v54) ∧
 tk w fun w55 =>
 nilP x13 fun a56 =>
 ∃ (v57 : BA), w55.cell? a56 = some (.string v57) ∧
 0 ≤ (0 : Int) ∧ 0 < (v57.size : Int) ∧
 br ((bt v57 0) == 42)
 (nilP x13 fun a58 =>
 ∃ (v59 : Bool), w55.cell? (a58.add 1) = some (.bool v59) ∧
 br v59
 (nilP x13 fun a60 =>
 ∃ (v61 : Bool), w55.cell? (a60.add 2) = some (.bool v61) ∧
 br v61
 (nilP x13 fun a62 =>
 nilP v54 fun a63 =>
 ∃ (v64 : Int), w55.cell? (a62.add 4) = some (.int .i64 v64) ∧
 ∃ (v65 : Int), w55.cell? (a63.add 4) = some (.int .i64 v65) ∧
 (3 : Int) ≠ 0 ∧
 br ((Int.tmod (IntKind.i64.wrap (v64 + v65)) 3) == 0)
 (nilP x13 fun a66 =>
 ∃ (v67 : Int), w55.cell? (a66.add 4) = some (.int .i64 v67) ∧
 (3 : Int) ≠ 0 ∧
 br ((Int.tmod v67 3) != 0)
 (Xc x2q x2n x2c x4 x7 x8 x9 x10 x13 x15 (IntKind.i64.wrap (x16 - 1)) w55)
 (nilP v54 fun a68 =>
 ∃ (v69 : Int), w55.cell? (a68.add 4) = some (.int .i64 v69) ∧
 (3 : Int) ≠ 0 ∧
 br ((Int.tmod v69 3) != 0)
 (Xc x2q x2n x2c x4 x7 x8 x9 x10 x13 x15 (IntKind.i64.wrap (x16 - 1)) w55)
 (k3 R Xa Xb Xc x2q x2n x2c x4 x7 x8 x9 x10 x13 x15 x16 v54 w55)))
 (k3 R Xa Xb Xc x2q x2n x2c x4 x7 x8 x9 x10 x13 x15 x16 v54 w55))
 (nilP v54 fun a70 =>
 ∃ (v71 : Bool), w55.cell? (a70.add 1) = some (.bool v71) ∧
 br v71
 (nilP v54 fun a72 =>
 ∃ (v73 : Bool), w55.cell? (a72.add 2) = some (.bool v73) ∧
 br v73
 (nilP x13 fun a74 =>
 nilP v54 fun a75 =>
 ∃ (v76 : Int), w55.cell? (a74.add 4) = some (.int .i64 v76) ∧
 ∃ (v77 : Int), w55.cell? (a75.add 4) = some (.int .i64 v77) ∧
 (3 : Int) ≠ 0 ∧
 br ((Int.tmod (IntKind.i64.wrap (v76 + v77)) 3) == 0)
 (nilP x13 fun a78 =>
 ∃ (v79 : Int), w55.cell? (a78.add 4) = some (.int .i64 v79) ∧
 (3 : Int) ≠ 0 ∧
 br ((Int.tmod v79 3) != 0)
 (Xc x2q x2n x2c x4 x7 x8 x9 x10 x13 x15 (IntKind.i64.wrap (x16 - 1)) w55)
 (nilP v54 fun a80 =>
 ∃ (v81 : Int), w55.cell? (a80.add 4) = some (.int .i64 v81) ∧
 (3 : Int) ≠ 0 ∧
 br ((Int.tmod v81 3) != 0)
 (Xc x2q x2n x2c x4 x7 x8 x9 x10 x13 x15 (IntKind.i64.wrap (x16 - 1)) w55)
 (k3 R Xa Xb Xc x2q x2n x2c x4 x7 x8 x9 x10 x13 x15 x16 v54 w55)))
 (k3 R Xa Xb Xc x2q x2n x2c x4 x7 x8 x9 x10 x13 x15 x16 v54 w55))
 (k3 R Xa Xb Xc x2q x2n x2c x4 x7 x8 x9 x10 x13 x15 x16 v54 w55))
 (k3 R Xa Xb Xc x2q x2n x2c x4 x7 x8 x9 x10 x13 x15 x16 v54 w55)))
 (nilP v54 fun a82 =>
 ∃ (v83 : Bool), w55.cell? (a82.add 1) = some (.bool v83) ∧
 br v83
 (nilP v54 fun a84 =>
 ∃ (v85 : Bool), w55.cell? (a84.add 2) = some (.bool v85) ∧
 br v85
 (nilP x13 fun a86 =>
 nilP v54 fun a87 =>
 ∃ (v88 : Int), w55.cell? (a86.add 4) = some (.int .i64 v88) ∧
 ∃ (v89 : Int), w55.cell? (a87.add 4) = some (.int .i64 v89) ∧
 (3 : Int) ≠ 0 ∧
 br ((Int.tmod (IntKind.i64.wrap (v88 + v89)) 3) == 0)
 (nilP x13 fun a90 =>
 ∃ (v91 : Int), w55.cell? (a90.add 4) = some (.int .i64 v91) ∧
 (3 : Int) ≠ 0 ∧
 br ((Int.tmod v91 3) != 0)
 (Xc x2q x2n x2c x4 x7 x8 x9 x10 x13 x15 (IntKind.i64.wrap (x16 - 1)) w55)
 (nilP v54 fun a92 =>
 ∃ (v93 : Int), w55.cell? (a92.add 4) = some (.int .i64 v93) ∧
 (3 : Int) ≠ 0 ∧
 br ((Int.tmod v93 3) != 0)
 (Xc x2q x2n x2c x4 x7 x8 x9 x10 x13 x15 (IntKind.i64.wrap (x16 - 1)) w55)
 (k3 R Xa Xb Xc x2q x2n x2c x4 x7 x8 x9 x10 x13 x15 x16 v54 w55)))
 (k3 R Xa Xb Xc x2q x2n x2c x4 x7 x8 x9 x10 x13 x15 x16 v54 w55))
 (k3 R Xa Xb Xc x2q x2n x2c x4 x7 x8 x9 x10 x13 x15 x16 v54 w55))
 (k3 R Xa Xb Xc x2q x2n x2c x4 x7 x8 x9 x10 x13 x15 x16 v54 w55)))
 (nilP x13 fun a94 =>
 ∃ (v95 : BA), w55.cell? a94 = some (.string v95) ∧
 0 ≤ (0 : Int) ∧ 0 < (v95.size : Int) ∧
 br ((bt v95 0) == 95)
 (nilP x13 fun a96 =>
 ∃ (v97 : Bool), w55.cell? (a96.add 1) = some (.bool v97) ∧
 br v97
 (nilP x13 fun a98 =>
 ∃ (v99 : Bool), w55.cell? (a98.add 2) = some (.bool v99) ∧
 br v99
 (nilP x13 fun a100 =>
 nilP v54 fun a101 =>
 ∃ (v102 : Int), w55.cell? (a100.add 4) = some (.int .i64 v102) ∧
 ∃ (v103 : Int), w55.cell? (a101.add 4) = some (.int .i64 v103) ∧
 (3 : Int) ≠ 0 ∧
 br ((Int.tmod (IntKind.i64.wrap (v102 + v103)) 3) == 0)
 (nilP x13 fun a104 =>
 ∃ (v105 : Int), w55.cell? (a104.add 4) = some (.int .i64 v105) ∧
 (3 : Int) ≠ 0 ∧
 br ((Int.tmod v105 3) != 0)
 (Xc x2q x2n x2c x4 x7 x8 x9 x10 x13 x15 (IntKind.i64.wrap (x16 - 1)) w55)
 (nilP v54 fun a106 =>
 ∃ (v107 : Int), w55.cell? (a106.add 4) = some (.int .i64 v107) ∧
 (3 : Int) ≠ 0 ∧
 br ((Int.tmod v107 3) != 0)
 (Xc x2q x2n x2c x4 x7 x8 x9 x10 x13 x15 (IntKind.i64.wrap (x16 - 1)) w55)
 (k3 R Xa Xb Xc x2q x2n x2c x4 x7 x8 x9 x10 x13 x15 x16 v54 w55)))
 (k3 R Xa Xb Xc x2q x2n x2c x4 x7 x8 x9 x10 x13 x15 x16 v54 w55))
 (nilP v54 fun a108 =>
 ∃ (v109 : Bool), w55.cell? (a108.add 1) = some (.bool v109) ∧
 br v109
 (nilP v54 fun a110 =>
 ∃ (v111 : Bool), w55.cell? (a110.add 2) = some (.bool v111) ∧
 br v111
 (nilP x13 fun a112 =>
 nilP v54 fun a113 =>
 ∃ (v114 : Int), w55.cell? (a112.add 4) = some (.int .i64 v114) ∧
 ∃ (v115 : Int), w55.cell? (a113.add 4) = some (.int .i64 v115) ∧
 (3 : Int) ≠ 0 ∧
 br ((Int.tmod (IntKind.i64.wrap (v114 + v115)) 3) == 0)
 (nilP x13 fun a116 =>
 ∃ (v117 : Int), w55.cell? (a116.add 4) = some (.int .i64 v117) ∧
 (3 : Int) ≠ 0 ∧
 br ((Int.tmod v117 3) != 0)
 (Xc x2q x2n x2c x4 x7 x8 x9 x10 x13 x15 (IntKind.i64.wrap (x16 - 1)) w55)
 (nilP v54 fun a118 =>
 ∃ (v119 : Int), w55.cell? (a118.add 4) = some (.int .i64 v119) ∧
 (3 : Int) ≠ 0 ∧
 br ((Int.tmod v119 3) != 0)
 (Xc x2q x2n x2c x4 x7 x8 x9 x10 x13 x15 (IntKind.i64.wrap (x16 - 1)) w55)
 (k3 R Xa Xb Xc x2q x2n x2c x4 x7 x8 x9 x10 x13 x15 x16 v54 w55)))
 (k3 R Xa Xb Xc x2q x2n x2c x4 x7 x8 x9 x10 x13 x15 x16 v54 w55))
 (k3 R Xa Xb Xc x2q x2n x2c x4 x7 x8 x9 x10 x13 x15 x16 v54 w55))
 (k3 R Xa Xb Xc x2q x2n x2c x4 x7 x8 x9 x10 x13 x15 x16 v54 w55)))
 (nilP v54 fun a120 =>
 ∃ (v121 : Bool), w55.cell? (a120.add 1) = some (.bool v121) ∧
 br v121
 (nilP v54 fun a122 =>
 ∃ (v123 : Bool), w55.cell? (a122.add 2) = some (.bool v123) ∧
 br v123
 (nilP x13 fun a124 =>
 nilP v54 fun a125 =>
 ∃ (v126 : Int), w55.cell? (a124.add 4) = some (.int .i64 v126) ∧
 ∃ (v127 : Int), w55.cell? (a125.add 4) = some (.int .i64 v127) ∧
 (3 : Int) ≠ 0 ∧
 br ((Int.tmod (IntKind.i64.wrap (v126 + v127)) 3) == 0)
 (nilP x13 fun a128 =>
 ∃ (v129 : Int), w55.cell? (a128.add 4) = some (.int .i64 v129) ∧
 (3 : Int) ≠ 0 ∧
 br ((Int.tmod v129 3) != 0)
 (Xc x2q x2n x2c x4 x7 x8 x9 x10 x13 x15 (IntKind.i64.wrap (x16 - 1)) w55)
 (nilP v54 fun a130 =>
 ∃ (v131 : Int), w55.cell? (a130.add 4) = some (.int .i64 v131) ∧
 (3 : Int) ≠ 0 ∧
 br ((Int.tmod v131 3) != 0)
 (Xc x2q x2n x2c x4 x7 x8 x9 x10 x13 x15 (IntKind.i64.wrap (x16 - 1)) w55)
 (k3 R Xa Xb Xc x2q x2n x2c x4 x7 x8 x9 x10 x13 x15 x16 v54 w55)))
 (k3 R Xa Xb Xc x2q x2n x2c x4 x7 x8 x9 x10 x13 x15 x16 v54 w55))
 (k3 R Xa Xb Xc x2q x2n x2c x4 x7 x8 x9 x10 x13 x15 x16 v54 w55))
 (k3 R Xa Xb Xc x2q x2n x2c x4 x7 x8 x9 x10 x13 x15 x16 v54 w55)))
 (k3 R Xa Xb Xc x2q x2n x2c x4 x7 x8 x9 x10 x13 x15 x16 v54 w55)))
 (k1 R Xa x2q x2n x2c x4 x7 x8 x9 x10 x13 w)
def l3 (R : EP) (Xa : OA → Nat → Nat → Nat → Nat → Value → Value → Int → WP) (Xb : OA → Nat → Nat → Nat → Nat → Value → Value → Int → OA → OA → WP) (x2q : OA) (x2n x2c : Nat) (x4 x7 : Nat) (x8 x9 : Value) (x10 : Int) (x13 x15 : OA) (x16 : Int) (w : World) : Prop :=
 ∀ X : OA → Nat → Nat → Nat → Nat → Value → Value → Int → OA → OA → Int → WP, (∀ x2q x2n x2c x4 x7 x8 x9 x10 x13 x15 x16 w, bl3 R Xa Xb X x2q x2n x2c x4 x7 x8 x9 x10 x13 x15 x16 w → X x2q x2n x2c x4 x7 x8 x9 x10 x13 x15 x16 w) → X x2q x2n x2c x4 x7 x8 x9 x10 x13 x15 x16 w

noncomputable def al3 (R : EP) (Xa : OA → Nat → Nat → Nat → Nat → Value → Value → Int → WP) (Xb : OA → Nat → Nat → Nat → Nat → Value → Value → Int → OA → OA → WP) (Xc : OA → Nat → Nat → Nat → Nat → Value → Value → Int → OA → OA → Int → WP) : AC :=
 (.seq (.leaf (sel [1,0,1,1,1,1,0,1,0,0,1,0,0,1,1,1,0,1,0,0,1,1,0,0,1,0,0,1,0,0,0] body)) (.seq (.block 5 (.seq (.leaf (sel [1,0,1,1,1,1,0,1,0,0,1,0,0,1,1,1,0,1,0,0,1,1,0,0,1,0,0,1,0,0,1,0,0,0] body)) (.seq (.seq (.draw (.pure 0 (.pure 1 (.pure 2 (.pure 3 (.load 4 (.pure 5 (.pure 6 (.pure 7 (.pure 8 (.pure 9 (.pure 10 (.pure 11 (.load 12 (.pure 13 (.pure 14 (.pure 15 (.pure 16 (.pure 17 (.pure 18 (.pure 19 (.load 20 (.pure 21 (.pure 22 (.pure 23 (.pure 24 (.load 25 (.pure 26 (.pure 27 (.pure 28 (.pure 29 (.pure 30 (.load 31 (.pure 32 (.pure 33 (.pure 34 (.pure 35 (.load 36 (.pure 37 (.pure 38 (.pure 39 (.pure 40 (.pure 41 (.pure 42 (.pure 43 (.pure 45 (.pure 46 (.pure 47 (.load 44 (.load 48 (.pure 49 (.pure 50 (.pure 51 (.pure 52 (.pure 53 (.pure 54 (.pure 55 (.pure 56 (.load 57 (.pure 58 (.pure 59 (.pure 60 (.pure 61 (.pure 62 (.pure 63 (.load 64 (.pure 65 (.pure 66 (.pure 67 (.pure 68 .done))))))))))))))))))))))))))))))))))))))))))))))))))))))))))))))))))))) (sel [1,0,1,1,1,1,0,1,0,0,1,0,0,1,1,1,0,1,0,0,1,1,0,0,1,0,0,1,0,0,1,0,0,1,0,0] body)) (.leaf (sel [1,0,1,1,1,1,0,1,0,0,1,0,0,1,1,1,0,1,0,0,1,1,0,0,1,0,0,1,0,0,1,0,0,1,0,1] body))) (.mark (leaf [(2, .s .slice), (4, .s .loc), (7, .s .loc), (8, .s .any), (9, .s .any), (10, .s (.int .i64)), (13, .s .ptr), (15, .s .ptr), (16, .s (.int .i64)), (17, .s .ptr)] (k3 R Xa Xb Xc)) (.seq (.seq (.draw (.pure 0 (.pure 1 (.pure 2 (.pure 3 (.load 4 (.pure 5 (.pure 6 (.pure 7 (.pure 8 (.pure 9 (.pure 10 (.pure 11 (.pure 14 (.pure 15 (.pure 16 (.pure 17 (.load 12 (.pure 13 (.load 18 (.pure 19 (.pure 20 (.pure 21 .done)))))))))))))))))))))) (sel [1,0,1,1,1,1,0,1,0,0,1,0,0,1,1,1,0,1,0,0,1,1,0,0,1,0,0,1,0,0,1,0,0,1,1,0,0] body)) (.leaf (sel [1,0,1,1,1,1,0,1,0,0,1,0,0,1,1,1,0,1,0,0,1,1,0,0,1,0,0,1,0,0,1,0,0,1,1,0,1] body))) (.mark (leaf [(2, .s .slice), (4, .s .loc), (7, .s .loc), (8, .s .any), (9, .s .any), (10, .s (.int .i64)), (13, .s .ptr), (15, .s .ptr), (16, .s (.int .i64)), (17, .s .ptr)] (k5 R Xa Xb Xc)) (.seq (.seq (.leaf (sel [1,0,1,1,1,1,0,1,0,0,1,0,0,1,1,1,0,1,0,0,1,1,0,0,1,0,0,1,0,0,1,0,0,1,1,1,0,0] body)) (.cond 193 (.seq (.draw (.pure 1 (.pure 2 (.pure 3 (.load 0 (.load 4 (.pure 5 (.load 6 (.pure 7 (.pure 8 (.pure 9 (.pure 10 (.one 11 .done)))))))))))) (sel [1,0,1,1,1,1,0,1,0,0,1,0,0,1,1,1,0,1,0,0,1,1,0,0,1,0,0,1,0,0,1,0,0,1,1,1,0,1,0,0] body)) (.leaf (sel [1,0,1,1,1,1,0,1,0,0,1,0,0,1,1,1,0,1,0,0,1,1,0,0,1,0,0,1,0,0,1,0,0,1,1,1,0,1,0,1] body))) (.leaf (sel [1,0,1,1,1,1,0,1,0,0,1,0,0,1,1,1,0,1,0,0,1,1,0,0,1,0,0,1,0,0,1,0,0,1,1,1,0,1,1] body)))) (.seq (.seq (.leaf (sel [1,0,1,1,1,1,0,1,0,0,1,0,0,1,1,1,0,1,0,0,1,1,0,0,1,0,0,1,0,0,1,0,0,1,1,1,1,0,0] body)) (.cond 227 (.seq (.draw (.pure 1 (.pure 2 (.pure 3 (.load 0 (.load 4 (.pure 5 (.load 6 (.pure 7 (.pure 8 (.pure 9 (.pure 10 (.one 11 .done)))))))))))) (sel [1,0,1,1,1,1,0,1,0,0,1,0,0,1,1,1,0,1,0,0,1,1,0,0,1,0,0,1,0,0,1,0,0,1,1,1,1,0,1,0,0] body)) (.leaf (sel [1,0,1,1,1,1,0,1,0,0,1,0,0,1,1,1,0,1,0,0,1,1,0,0,1,0,0,1,0,0,1,0,0,1,1,1,1,0,1,0,1] body))) (.leaf (sel [1,0,1,1,1,1,0,1,0,0,1,0,0,1,1,1,0,1,0,0,1,1,0,0,1,0,0,1,0,0,1,0,0,1,1,1,1,0,1,1] body)))) (.seq (.leaf (sel [1,0,1,1,1,1,0,1,0,0,1,0,0,1,1,1,0,1,0,0,1,1,0,0,1,0,0,1,0,0,1,0,0,1,1,1,1,1,0] body)) (.seq (.leaf (sel [1,0,1,1,1,1,0,1,0,0,1,0,0,1,1,1,0,1,0,0,1,1,0,0,1,0,0,1,0,0,1,0,0,1,1,1,1,1,1,0] body)) (.mark (leaf [(2, .s .slice), (4, .s .loc), (7, .s .loc), (8, .s .any), (9, .s .any), (10, .s (.int .i64)), (13, .s .ptr), (15, .s .ptr), (17, .s .ptr), (18, .s (.int .i64))] (k6 R Xa Xb Xc)) (.seq (.leaf (sel [1,0,1,1,1,1,0,1,0,0,1,0,0,1,1,1,0,1,0,0,1,1,0,0,1,0,0,1,0,0,1,0,0,1,1,1,1,1,1,1,0] body)) (.seq (.draw (.pure 0 (.pure 1 (.pure 2 (.pure 3 (.pure 5 (.pure 8 (.pure 9 (.pure 10 (.load 4 (.pure 6 (.load 7 (.load 11 (.pure 12 (.pure 13 (.one 14 (.pure 15 (.one 16 (.pure 17 .done)))))))))))))))))) (sel [1,0,1,1,1,1,0,1,0,0,1,0,0,1,1,1,0,1,0,0,1,1,0,0,1,0,0,1,0,0,1,0,0,1,1,1,1,1,1,1,1,0] body)) (.seq (.draw (.pure 0 (.pure 1 (.pure 2 (.pure 3 (.pure 4 (.pure 6 (.pure 7 (.pure 8 (.pure 9 (.pure 12 (.load 5 (.load 10 (.pure 11 (.pure 13 (.pure 14 (.pure 15 (.pure 16 (.pure 17 (.one 18 .done))))))))))))))))))) (sel [1,0,1,1,1,1,0,1,0,0,1,0,0,1,1,1,0,1,0,0,1,1,0,0,1,0,0,1,0,0,1,0,0,1,1,1,1,1,1,1,1,1,0] body)) (.seq (.leaf (sel [1,0,1,1,1,1,0,1,0,0,1,0,0,1,1,1,0,1,0,0,1,1,0,0,1,0,0,1,0,0,1,0,0,1,1,1,1,1,1,1,1,1,1,0] body)) (.seq (.seq (.leaf (sel [1,0,1,1,1,1,0,1,0,0,1,0,0,1,1,1,0,1,0,0,1,1,0,0,1,0,0,1,0,0,1,0,0,1,1,1,1,1,1,1,1,1,1,1,0,0] body)) (.cond 329 (.draw (.pure 1 (.pure 2 (.pure 3 (.load 0 (.load 4 (.pure 5 (.one 6 .done))))))) (sel [1,0,1,1,1,1,0,1,0,0,1,0,0,1,1,1,0,1,0,0,1,1,0,0,1,0,0,1,0,0,1,0,0,1,1,1,1,1,1,1,1,1,1,1,0,1,0] body)) (.draw (.pure 1 (.pure 2 (.pure 3 (.load 0 (.load 4 (.pure 5 (.pure 6 (.one 7 .done)))))))) (sel [1,0,1,1,1,1,0,1,0,0,1,0,0,1,1,1,0,1,0,0,1,1,0,0,1,0,0,1,0,0,1,0,0,1,1,1,1,1,1,1,1,1,1,1,0,1,1] body)))) (.mark (leaf [(2, .s .slice), (4, .s .loc), (7, .s .loc), (8, .s .any), (9, .s .any), (10, .s (.int .i64)), (13, .s .ptr), (15, .s .ptr), (18, .s (.int .i64)), (19, .s .bool), (20, .s .ptr)] (k7 R Xa Xb Xc)) (.leaf (sel [1,0,1,1,1,1,0,1,0,0,1,0,0,1,1,1,0,1,0,0,1,1,0,0,1,0,0,1,0,0,1,0,0,1,1,1,1,1,1,1,1,1,1,1,1] body))))))))))))))))))) (.leaf (sel [1,0,1,1,1,1,0,1,0,0,1,0,0,1,1,1,0,1,0,0,1,1,0,0,1,0,0,1,0,0,1,1] body))))
def bl2 (R : EP) (Xa : OA → Nat → Nat → Nat → Nat → Value → Value → Int → WP) (Xb : OA → Nat → Nat → Nat → Nat → Value → Value → Int → OA → OA → WP) (x2q : OA) (x2n x2c : Nat) (x4 x7 : Nat) (x8 x9 : Value) (x10 : Int) (x13 x15 : OA) (w : World) : Prop :=
 nilP x13 fun a37 =>
 ∃ (v38 : BA), w.cell? a37 = some (.string v38) ∧
 br (!(v38.toList == (ByteArray.mk #[]).toList))
 (nilP x15 fun a39 =>
 ∃ (v40q : OA), ∃ (v40n : Nat), ∃ (v40c : Nat), w.cell? a39 = some (.slice v40q v40n v40c) ∧
 l3 R Xa Xb x2q x2n x2c x4 x7 x8 x9 x10 x13 x15 (IntKind.i64.wrap ((v40n : Int) - 1)) w)
 (k1 R Xa x2q x2n x2c x4 x7 x8 x9 x10 x13 w)
def l2 (R : EP) (Xa : OA → Nat → Nat → Nat → Nat → Value → Value → Int → WP) (x2q : OA) (x2n x2c : Nat) (x4 x7 : Nat) (x8 x9 : Value) (x10 : Int) (x13 x15 : OA) (w : World) : Prop :=
 ∀ X : OA → Nat → Nat → Nat → Nat → Value → Value → Int → OA → OA → WP, (∀ x2q x2n x2c x4 x7 x8 x9 x10 x13 x15 w, bl2 R Xa X x2q x2n x2c x4 x7 x8 x9 x10 x13 x15 w → X x2q x2n x2c x4 x7 x8 x9 x10 x13 x15 w) → X x2q x2n x2c x4 x7 x8 x9 x10 x13 x15 w

noncomputable def al2 (R : EP) (Xa : OA → Nat → Nat → Nat → Nat → Value → Value → Int → WP) (Xb : OA → Nat → Nat → Nat → Nat → Value → Value → Int → OA → OA → WP) : AC :=
 (.seq (.leaf (sel [1,0,1,1,1,1,0,1,0,0,1,0,0,1,1,1,0,1,0,0,1,1,0,0,0] body)) (.block 3 (.seq (.seq (.leaf (sel [1,0,1,1,1,1,0,1,0,0,1,0,0,1,1,1,0,1,0,0,1,1,0,0,1,0,0,0] body)) (.block 4 (.loop (leaf [(2, .s .slice), (4, .s .loc), (7, .s .loc), (8, .s .any), (9, .s .any), (10, .s (.int .i64)), (13, .s .ptr), (15, .s .ptr), (16, .s (.int .i64))] (l3 R Xa Xb)) (sel [1,0,1,1,1,1,0,1,0,0,1,0,0,1,1,1,0,1,0,0,1,1,0,0,1,0,0,1,0,0] body)))) (.leaf (sel [1,0,1,1,1,1,0,1,0,0,1,0,0,1,1,1,0,1,0,0,1,1,0,0,1,0,1] body)))))
def bl1 (R : EP) (Xa : OA → Nat → Nat → Nat → Nat → Value → Value → Int → WP) (x2q : OA) (x2n x2c : Nat) (x4 x7 : Nat) (x8 x9 : Value) (x10 : Int) (w : World) : Prop :=
 br (decide (x10 < (x2n : Int)))
 (0 ≤ x10 ∧ x10 < (x2n : Int) ∧
 nilP x2q fun a5 =>
 ∃ (v6 : Value), w.cell? (a5.add (Int.toNat x10 * 1)) = some v6 ∧
 ∃ (r7_0 : OA), ∃ (r7_1 : Bool), ∃ w8, (Instr.typeAssert v6 ty_Inline ty_P_openPlain true).run P w = .ok (.tuple #[.pointer r7_0, .bool r7_1]) w8 ∧
 br r7_1
 (tk w8 fun w9 =>
 nilP r7_0 fun a10 =>
 ∃ (v11q : OA), ∃ (v11n : Nat), ∃ (v11c : Nat), w9.cell? ⟨x4, 0, none⟩ = some (.slice v11q v11n v11c) ∧
 ∃ (r12q : OA), ∃ (r12n : Nat), ∃ (r12c : Nat), ∃ w13, (Instr.buildSlice ty_S_Inline 1 #[(0, .iface ty_P_Plain (.pointer (some a10)))]).run P w9 = .ok (.slice r12q r12n r12c) w13 ∧
 SameC w9 w13 ⟨x4, 0, none⟩ 1 ∧
 ∃ (r14q : OA), ∃ (r14n : Nat), ∃ (r14c : Nat), ∃ w15, (Builtin.append_ #[ty_S_Inline, ty_S_Inline] ty_S_Inline #[.slice v11q v11n v11c, .slice r12q r12n r12c]).run P w13 = .ok (.slice r14q r14n r14c) w15 ∧
 stV w15 ⟨x4, 0, none⟩ (.slice r14q r14n r14c) fun w16 =>
 Xa x2q x2n x2c x4 x7 x8 x9 (IntKind.i64.wrap (x10 + 1)) w16)
 (0 ≤ x10 ∧ x10 < (x2n : Int) ∧
 nilP x2q fun a17 =>
 ∃ (v18 : Value), w8.cell? (a17.add (Int.toNat x10 * 1)) = some v18 ∧
 ∃ (r19_0 : OA), ∃ (r19_1 : Bool), ∃ w20, (Instr.typeAssert v18 ty_Inline ty_P_emphPlain true).run P w8 = .ok (.tuple #[.pointer r19_0, .bool r19_1]) w20 ∧
 br (!r19_1)
 (tk w20 fun w21 =>
 0 ≤ x10 ∧ x10 < (x2n : Int) ∧
 nilP x2q fun a22 =>
 ∃ (v23q : OA), ∃ (v23n : Nat), ∃ (v23c : Nat), w21.cell? ⟨x4, 0, none⟩ = some (.slice v23q v23n v23c) ∧
 ∃ (v24 : Value), w21.cell? (a22.add (Int.toNat x10 * 1)) = some v24 ∧
 ∃ (r25q : OA), ∃ (r25n : Nat), ∃ (r25c : Nat), ∃ w26, (Instr.buildSlice ty_S_Inline 1 #[(0, v24)]).run P w21 = .ok (.slice r25q r25n r25c) w26 ∧
 SameC w21 w26 ⟨x4, 0, none⟩ 1 ∧
 ∃ (r27q : OA), ∃ (r27n : Nat), ∃ (r27c : Nat), ∃ w28, (Builtin.append_ #[ty_S_Inline, ty_S_Inline] ty_S_Inline #[.slice v23q v23n v23c, .slice r25q r25n r25c]).run P w26 = .ok (.slice r27q r27n r27c) w28 ∧
 stV w28 ⟨x4, 0, none⟩ (.slice r27q r27n r27c) fun w29 =>
 Xa x2q x2n x2c x4 x7 x8 x9 (IntKind.i64.wrap (x10 + 1)) w29)
 (nilP r19_0 fun a30 =>
 ∃ (v31 : Bool), w20.cell? (a30.add 2) = some (.bool v31) ∧
 br v31
 (nilP r19_0 fun a32 =>
 ∃ (v33 : BA), w20.cell? a32 = some (.string v33) ∧
 0 ≤ (0 : Int) ∧ 0 < (v33.size : Int) ∧
 enterE P (do let d ← Deferred.ofValue x8 #[.int .u8 (bt v33 0)]; invoke d.target d.args) (fun e w35 => ∃ (r34 : Int), e = .returned (.int .i64 r34) ∧
 0 ≤ r34 ∧ r34 < (5 : Int) ∧
 l2 R Xa x2q x2n x2c x4 x7 x8 x9 x10 r19_0 (some ((⟨x7, 0, none⟩ : Addr).add (Int.toNat r34 * 1))) w35) w20)
 (k1 R Xa x2q x2n x2c x4 x7 x8 x9 x10 r19_0 w20))))
 (∃ (v36q : OA), ∃ (v36n : Nat), ∃ (v36c : Nat), w.cell? ⟨x4, 0, none⟩ = some (.slice v36q v36n v36c) ∧
 R (.returned (.slice v36q v36n v36c)) w)
def l1 (R : EP) (x2q : OA) (x2n x2c : Nat) (x4 x7 : Nat) (x8 x9 : Value) (x10 : Int) (w : World) : Prop :=
 ∀ X : OA → Nat → Nat → Nat → Nat → Value → Value → Int → WP, (∀ x2q x2n x2c x4 x7 x8 x9 x10 w, bl1 R X x2q x2n x2c x4 x7 x8 x9 x10 w → X x2q x2n x2c x4 x7 x8 x9 x10 w) → X x2q x2n x2c x4 x7 x8 x9 x10 w

noncomputable def al1 (R : EP) (Xa : OA → Nat → Nat → Nat → Nat → Value → Value → Int → WP) : AC :=
 (.seq (.leaf (sel [1,0,1,1,1,1,0,1,0,0,0] body)) (.seq (.block 1 (.seq (.seq (.leaf (sel [1,0,1,1,1,1,0,1,0,0,1,0,0,0,0] body)) (.seq (.leaf (sel [1,0,1,1,1,1,0,1,0,0,1,0,0,0,1,0] body)) (.cond 37 (.seq (.draw (.pure 1 (.pure 2 (.pure 3 (.pure 4 (.load 0 (.one 5 (.one 6 (.one 7 .done)))))))) (sel [1,0,1,1,1,1,0,1,0,0,1,0,0,0,1,1,0,0] body)) (.leaf (sel [1,0,1,1,1,1,0,1,0,0,1,0,0,0,1,1,0,1] body))) (.leaf (sel [1,0,1,1,1,1,0,1,0,0,1,0,0,0,1,1,1] body))))) (.seq (.leaf (sel [1,0,1,1,1,1,0,1,0,0,1,0,0,1,0] body)) (.seq (.seq (.leaf (sel [1,0,1,1,1,1,0,1,0,0,1,0,0,1,1,0,0] body)) (.cond 54 (.seq (.draw (.pure 1 (.pure 2 (.pure 3 (.load 0 (.load 4 (.one 5 (.one 6 (.one 7 .done)))))))) (sel [1,0,1,1,1,1,0,1,0,0,1,0,0,1,1,0,1,0,0] body)) (.leaf (sel [1,0,1,1,1,1,0,1,0,0,1,0,0,1,1,0,1,0,1] body))) (.leaf (sel [1,0,1,1,1,1,0,1,0,0,1,0,0,1,1,0,1,1] body)))) (.seq (.seq (.leaf (sel [1,0,1,1,1,1,0,1,0,0,1,0,0,1,1,1,0,0] body)) (.cond 65 (.scope (.seq (.leaf (sel [1,0,1,1,1,1,0,1,0,0,1,0,0,1,1,1,0,1,0,0,0] body)) (.seq (.leaf (sel [1,0,1,1,1,1,0,1,0,0,1,0,0,1,1,1,0,1,0,0,1,0] body)) (.block 2 (.loop (leaf [(2, .s .slice), (4, .s .loc), (7, .s .loc), (8, .s .any), (9, .s .any), (10, .s (.int .i64)), (13, .s .ptr), (15, .s .ptr)] (l2 R Xa)) (sel [1,0,1,1,1,1,0,1,0,0,1,0,0,1,1,1,0,1,0,0,1,1,0,0] body)))))) (.leaf (sel [1,0,1,1,1,1,0,1,0,0,1,0,0,1,1,1,0,1,1] body)))) (.mark (leaf [(2, .s .slice), (4, .s .loc), (7, .s .loc), (8, .s .any), (9, .s .any), (10, .s (.int .i64)), (13, .s .ptr)] (k1 R Xa)) (.seq (.leaf (sel [1,0,1,1,1,1,0,1,0,0,1,0,0,1,1,1,1,0] body)) (.cond 368 (.seq (.leaf (sel [1,0,1,1,1,1,0,1,0,0,1,0,0,1,1,1,1,1,0,0] body)) (.seq (.leaf (sel [1,0,1,1,1,1,0,1,0,0,1,0,0,1,1,1,1,1,0,1,0] body)) (.mark (leaf [(2, .s .slice), (4, .s .loc), (7, .s .loc), (8, .s .any), (9, .s .any), (10, .s (.int .i64)), (13, .s .ptr), (21, .s .ptr)] (k2 R Xa)) (.seq (.leaf (sel [1,0,1,1,1,1,0,1,0,0,1,0,0,1,1,1,1,1,0,1,1,0] body)) (.mark (leaf [(2, .s .slice), (4, .s .loc), (7, .s .loc), (8, .s .any), (9, .s .any), (10, .s (.int .i64)), (13, .s .ptr), (21, .s .ptr)] (k4 R Xa)) (.seq (.leaf (sel [1,0,1,1,1,1,0,1,0,0,1,0,0,1,1,1,1,1,0,1,1,1,0] body)) (.cond 409 (.leaf (sel [1,0,1,1,1,1,0,1,0,0,1,0,0,1,1,1,1,1,0,1,1,1,1,0] body)) (.draw (.pure 1 (.pure 2 (.pure 3 (.pure 4 (.load 0 (.one 5 (.one 6 (.one 7 .done)))))))) (sel [1,0,1,1,1,1,0,1,0,0,1,0,0,1,1,1,1,1,0,1,1,1,1,1] body))))))))) (.leaf (sel [1,0,1,1,1,1,0,1,0,0,1,0,0,1,1,1,1,1,1] body)))))))))) (.leaf (sel [1,0,1,1,1,1,0,1,0,0,1,1] body))))
end g_parseState_emph
def g_parseState_emph (R : EP) (x0 x1q : OA) (x1n x1c : Nat) (x2q : OA) (x2n x2c : Nat) (w : World) : Prop :=
 box w #[.slice x1q x1n x1c] ty_S_Inline fun b1 w2 =>
 box w2 #[.slice none 0 0, .slice none 0 0, .slice none 0 0, .slice none 0 0, .slice none 0 0] ty_5_S_P_emphPlain fun b3 w4 =>
 g_parseState_emph.l1 R x2q x2n x2c b1 b3 (.func (.func i_parseState_emph_1) #[] #[]) (.func (.func i_parseState_emph_2) #[] #[.pointer (some ⟨b3, 0, none⟩), .pointer (some ⟨b1, 0, none⟩)]) 0 w4

namespace g_parseState_emph
noncomputable def ac (R : EP) : AC :=
 (.seq (.leaf (sel [0] body)) (.scope (.seq (.leaf (sel [1,0,0] body)) (.seq (.leaf (sel [1,0,1,0] body)) (.seq (.leaf (sel [1,0,1,1,0] body)) (.seq (.leaf (sel [1,0,1,1,1,0] body)) (.seq (.seq (.leaf (sel [1,0,1,1,1,1,0,0] body)) (.block 0 (.loop (leaf [(2, .s .slice), (4, .s .loc), (7, .s .loc), (8, .s .any), (9, .s .any), (10, .s (.int .i64))] (l1 R)) (sel [1,0,1,1,1,1,0,1,0,0] body)))) (.leaf (sel [1,0,1,1,1,1,1] body)))))))))
theorem good (R : EP) : Good P 436 (ac R) (QF P [.tmp 6] R) :=
 ⟨trivial, ⟨trivial, ⟨trivial, ⟨trivial, ⟨trivial, ⟨⟨trivial, (loopG (al1 R) (bl1 R) (fun _ => by kernel_rfl) (fun Xa => ⟨trivial, ⟨⟨⟨trivial, ⟨trivial, ⟨⟨⟨by kernel_rfl, by kernel_rfl, fun _ _ _ h => h⟩, trivial⟩, trivial⟩⟩⟩, ⟨trivial, ⟨⟨trivial, ⟨⟨⟨by kernel_rfl, by kernel_rfl, fun _ _ _ h => h⟩, trivial⟩, trivial⟩⟩, ⟨⟨trivial, ⟨⟨trivial, ⟨trivial, (loopG (al2 R Xa) (bl2 R Xa) (fun _ => by kernel_rfl) (fun Xb => ⟨trivial, ⟨⟨trivial, (loopG (al3 R Xa Xb) (bl3 R Xa Xb) (fun _ => by kernel_rfl) (fun Xc => ⟨trivial, ⟨⟨trivial, ⟨⟨⟨by kernel_rfl, by kernel_rfl, fun _ _ _ h => h⟩, trivial⟩, ⟨⟨⟨⟨by kernel_rfl, by kernel_rfl, fun _ _ _ h => h⟩, trivial⟩, ⟨⟨⟨trivial, ⟨⟨⟨by kernel_rfl, by kernel_rfl, fun _ _ _ h => h⟩, trivial⟩, trivial⟩⟩, ⟨⟨trivial, ⟨⟨⟨by kernel_rfl, by kernel_rfl, fun _ _ _ h => h⟩, trivial⟩, trivial⟩⟩, ⟨trivial, ⟨trivial, ⟨⟨trivial, ⟨⟨by kernel_rfl, by kernel_rfl, fun _ _ _ h => h⟩, ⟨⟨by kernel_rfl, by kernel_rfl, fun _ _ _ h => h⟩, ⟨trivial, ⟨⟨trivial, ⟨⟨by kernel_rfl, by kernel_rfl, fun _ _ _ h => h⟩, ⟨by kernel_rfl, by kernel_rfl, fun _ _ _ h => h⟩⟩⟩, ⟨trivial, cutZ⟩⟩⟩⟩⟩⟩, cutZ⟩⟩⟩⟩⟩, cutZ⟩⟩, cutZ⟩⟩⟩, trivial⟩⟩) (fun Xc => by intro x2q x2n x2c x4 x7 x8 x9 x10 x13 x15 x16 ρ w; kernel_rfl) (fun X h _ _ _ _ _ _ _ _ _ _ _ _ g => g X h))⟩, trivial⟩⟩) (fun Xb => by intro x2q x2n x2c x4 x7 x8 x9 x10 x13 x15 ρ w; kernel_rfl) (fun X h _ _ _ _ _ _ _ _ _ _ _ g => g X h))⟩⟩, trivial⟩⟩, ⟨⟨trivial, ⟨⟨trivial, ⟨trivial, ⟨⟨trivial, ⟨⟨trivial, ⟨trivial, ⟨by kernel_rfl, by kernel_rfl, fun _ _ _ h => h⟩⟩⟩, cutZ⟩⟩, cutZ⟩⟩⟩, trivial⟩⟩, cutZ⟩⟩⟩⟩⟩, trivial⟩⟩) (fun Xa => by intro x2q x2n x2c x4 x7 x8 x9 x10 ρ w; kernel_rfl) (fun X h _ _ _ _ _ _ _ _ _ g => g X h))⟩, trivial⟩⟩⟩⟩⟩⟩
theorem eq (R : EP) (x0 x1q : OA) (x1n x1c : Nat) (x2q : OA) (x2n x2c : Nat) (w : World) : g_parseState_emph R x0 x1q x1n x1c x2q x2n x2c w = vcA P 436 (ac R) (QF P [.tmp 6] R) (fr0 [.pointer x0, .slice x1q x1n x1c, .slice x2q x2n x2c]) w := by kernel_rfl
theorem sound {R : EP} {x0 x1q : OA} {x1n x1c : Nat} {x2q : OA} {x2n x2c : Nat} {w : World} (h : g_parseState_emph R x0 x1q x1n x1c x2q x2n x2c w) : callE P i_parseState_emph #[.pointer x0, .slice x1q x1n x1c, .slice x2q x2n x2c] R w :=
 callE_fz (c := body) Tryz.func106 Tryz.call106 (good R) (eq R x0 x1q x1n x1c x2q x2n x2c w) h
end g_parseState_emph
end Go.Proofs.YtgbgadkldalkbaaGreatDoor

set_option linter.unusedVariables false
namespace Go.Proofs.YtgbgadkldalkbaaGreatDoor
open Go.Proofs Go.IntWalk Go.RowKit
variable {σ : Out} {w : World} {L L' : List Chunk} {R : Ending → World → Prop}
theorem und_open : P.underlying ty_P_openPlain = some (.pointer ty_openPlain) := by kernel_rfl
theorem und_emph : P.underlying ty_P_emphPlain = some (.pointer ty_emphPlain) := by kernel_rfl
theorem und_plain : P.underlying ty_P_Plain = some (.pointer ty_Plain) := by kernel_rfl
theorem ta_open_no {t : TypeId} {v : Value} (ht : t ≠ ty_P_openPlain) (w : World) : (Instr.typeAssert (.iface t v) ty_Inline ty_P_openPlain true).run P w = .ok (.tuple #[.pointer none, .bool false]) w :=
 ta_no (by rw [und_open]; intro ms h; cases h) und_open ht (i := (P.info? ty_P_openPlain).getD default) (by kernel_rfl) (by kernel_rfl) w
theorem ta_emph_no {t : TypeId} {v : Value} (ht : t ≠ ty_P_emphPlain) (w : World) : (Instr.typeAssert (.iface t v) ty_Inline ty_P_emphPlain true).run P w = .ok (.tuple #[.pointer none, .bool false]) w :=
 ta_no (by rw [und_emph]; intro ms h; cases h) und_emph ht (i := (P.info? ty_P_emphPlain).getD default) (by kernel_rfl) (by kernel_rfl) w
theorem ta_plain_no {t : TypeId} {v : Value} (ht : t ≠ ty_P_Plain) (w : World) : (Instr.typeAssert (.iface t v) ty_Inline ty_P_Plain true).run P w = .ok (.tuple #[.pointer none, .bool false]) w :=
 ta_no (by rw [und_plain]; intro ms h; cases h) und_plain ht (i := (P.info? ty_P_Plain).getD default) (by kernel_rfl) (by kernel_rfl) w
theorem ta_open_yes {v : Value} (w : World) : (Instr.typeAssert (.iface ty_P_openPlain v) ty_Inline ty_P_openPlain true).run P w = .ok (.tuple #[v, .bool true]) w :=
 ta_yes (by rw [und_open]; intro ms h; cases h) und_open w
theorem ta_emph_yes {v : Value} (w : World) : (Instr.typeAssert (.iface ty_P_emphPlain v) ty_Inline ty_P_emphPlain true).run P w = .ok (.tuple #[v, .bool true]) w :=
 ta_yes (by rw [und_emph]; intro ms h; cases h) und_emph w
theorem ta_plain_yes {v : Value} (w : World) : (Instr.typeAssert (.iface ty_P_Plain v) ty_Inline ty_P_Plain true).run P w = .ok (.tuple #[v, .bool true]) w :=
 ta_yes (by rw [und_plain]; intro ms h; cases h) und_plain w
theorem fillI (t : TypeId) (q : Option Addr) : Instr.fill (fun i => some (i * 1, 1)) ((Array.range (1 * 1)).map (rowInl.z.cells[· % rowInl.z.cells.size]!)) [(0, .iface t (.pointer q))] = some #[.iface t (.pointer q)] := by kernel_rfl

theorem Sl.loadAt {q : Option Addr} {n c j : Nat} {e : TypeId} {vs : List Value} {RM : List Chunk} {v : Value} {K : Addr → Prop} (hS : Sl 1 e q n c vs RM) (h : Sat σ w (RM ++ L)) (hj : vs[j]? = some v)
 (hK : ∀ b, q = some ⟨b, 0, none⟩ → w.cell? ⟨b, j, none⟩ = some v → K ⟨b, 0, none⟩) : nilP q K := by
 obtain ⟨hl, _, ⟨rfl, rfl, _, _⟩ | ⟨rb, sp, rfl, rfl, _⟩⟩ := hS
 ·have := (List.getElem?_eq_some_iff.1 hj).1; omega
 ·refine nilP_some (hK rb rfl (h.ld (.head _) ?_))
  rw [List.getElem?_append_left (List.getElem?_eq_some_iff.1 hj).1]; exact hj

end Go.Proofs.YtgbgadkldalkbaaGreatDoor


set_option linter.unusedVariables false
namespace Go.Proofs.YtgbgadkldalkbaaGreatDoor
open Go.Proofs Go.IntWalk Go.RowKit
variable {σ : Out} {w : World} {L L' : List Chunk} {R : Ending → World → Prop}
def Inl.plain? : Inl → Option (List UInt8)
 | .plain s => some s
 | .openP s _ => some s
 | .emphP s _ _ _ _ => some s
 | _ => none
theorem toPlain_yes {t : Inl} {v : Value} {M : List Chunk} {s : List UInt8} (hI : InlAt t v M) (hs : t.plain? = some s) (hR : ∀ b cs e, M = [(b, cel (.string (bs s) :: cs) e)] → R (.returned (.pointer (some ⟨b, 0, none⟩))) w) : callE P i_toPlain #[v] R w := by
 refine g_toPlain.sound ?_
 cases t <;> simp only [Inl.plain?, Option.some.injEq, reduceCtorEq] at hs <;> subst hs
 ·obtain ⟨b, cs, e, rfl, rfl⟩ := hI
  exact ⟨_, _, _, ta_plain_yes w, br_true rfl (hR b _ _ rfl)⟩
 ·obtain ⟨b, e, rfl, rfl⟩ := hI
  exact ⟨_, _, _, ta_plain_no (by decide) w, br_false rfl ⟨_, _, _, ta_emph_no (by decide) w, br_false rfl ⟨_, _, _, ta_open_yes w, br_true rfl (nilP_some (hR b _ _ rfl))⟩⟩⟩
 ·obtain ⟨b, e, rfl, rfl⟩ := hI
  exact ⟨_, _, _, ta_plain_no (by decide) w, br_false rfl ⟨_, _, _, ta_emph_yes w, br_true rfl (nilP_some (hR b _ _ rfl))⟩⟩
theorem Inl.not_plain {t : Inl} (h : t.plain? = none) : t.ty ≠ ty_P_Plain ∧ t.ty ≠ ty_P_openPlain ∧ t.ty ≠ ty_P_emphPlain := by
 cases t <;> simp only [Inl.plain?, reduceCtorEq] at h <;> (simp only [Inl.ty]; decide)
theorem toPlain_no {t : Inl} {v : Value} {M : List Chunk} (hI : InlAt t v M) (hs : t.plain? = none) (hR : R (.returned (.pointer none)) w) : callE P i_toPlain #[v] R w := by
 refine g_toPlain.sound ?_
 obtain ⟨h1, h2, h3⟩ := Inl.not_plain hs
 obtain ⟨b, cs, e, M', rfl, _⟩ := hI.ptr
 exact ⟨_, _, _, ta_plain_no h1 w, br_false rfl ⟨_, _, _, ta_emph_no h3 w, br_false rfl ⟨_, _, _, ta_open_no h2 w, br_false rfl hR⟩⟩⟩

theorem joinL_nil : ∀ us : List (List UInt8), joinL [] us = us.flatten
 | [] => rfl
 | u :: us => by simp [joinL, List.flatten_cons, List.flatMap_id']
theorem InlsAt.mid {a : List Inl} {t : Inl} {b : List Inl} {vs : List Value} {M : List Chunk} (h : InlsAt (a ++ t :: b) vs M) : ∃ vs1 v vs2 M1 M2 M3, vs = vs1 ++ v :: vs2 ∧ M = M1 ++ (M2 ++ M3) ∧ InlsAt a vs1 M1 ∧ InlAt t v M2 ∧ InlsAt b vs2 M3 := by
 obtain ⟨vs1, vs2, M1, M2, rfl, rfl, h1, h2⟩ := h.split
 obtain ⟨v, vs', N1, N2, rfl, rfl, h3, h4⟩ := h2
 exact ⟨vs1, v, vs', M1, N1, N2, rfl, rfl, h1, h3, h4⟩
theorem fillS (t : List UInt8) : Instr.fill (fun i => some (i * 1, 1)) ((Array.range (1 * 1)).map (rowStr.z.cells[· % rowStr.z.cells.size]!)) [(0, .string (bs t))] = some #[.string (bs t)] := by kernel_rfl

theorem mergePlain1_ok {rb s m c : Nat} {cs : List Value} {e : TypeId} {vs : List Value} {ts : List Inl} {us : List (List UInt8)} {EM : List Chunk} (hI : InlsAt ts vs EM) (hu : ts.map Inl.plain? = us.map some) (hm : vs.length = m) (h1 : 1 ≤ m) (hmb : m < 1073741824)
 (hcs : ∀ j (hj : j < m), cs[s + j]? = vs[j]?) (hpos : 0 < us.flatten.length) (hb : us.flatten.length < 1073741824) (h : Sat σ w ((rb, cel cs e) :: (EM ++ L)))
 (hR : ∀ w b EM', InlAt (.plain us.flatten) (ptrV ty_P_Plain b) EM' → Sat σ w ((rb, cel cs e) :: (EM' ++ L)) → R (.returned (.pointer (some ⟨b, 0, none⟩))) w) :
 callE P i_mergePlain1 #[.slice (some ⟨rb, s, none⟩) m c] R w := by
 have hlt := hI.length
 have hul : us.length = ts.length := by have := congrArg List.length hu; simpa using this.symm
 refine g_mergePlain1.sound ?_
 have get : ∀ j, j < m → ∃ t v a b M1 M2 M3 u, ts = a ++ t :: b ∧ EM = M1 ++ (M2 ++ M3) ∧ InlAt t v M2 ∧ t.plain? = some u ∧ us[j]? = some u ∧ cs[s + j]? = some v ∧ a.length = j := by
  intro j hj
  have hjt : j < ts.length := by omega
  have hsp : ts = ts.take j ++ (ts[j] :: ts.drop (j + 1)) := by rw [← List.drop_eq_getElem_cons hjt, List.take_append_drop]
  have hju : j < us.length := by omega
  have hp : ts[j].plain? = some us[j] := by
   have := congrArg (fun l => l[j]?) hu
   simpa [hjt, hju] using this
  have hI' := hI
  rw [hsp] at hI'
  obtain ⟨vs1, v, vs2, M1, M2, M3, rfl, rfl, h1, h2, h3⟩ := hI'.mid
  have hl1 := h1.length
  rw [List.length_take, Nat.min_eq_left (by omega)] at hl1
  refine ⟨ts[j], v, ts.take j, ts.drop (j + 1), M1, M2, M3, us[j], hsp, rfl, h2, hp, List.getElem?_eq_getElem hju, ?_, ?_⟩
  ·rw [hcs j hj, List.getElem?_append_right (by omega), hl1]; simp
  ·rw [List.length_take]; omega
 by_cases hm1 : m = 1
 ·refine br_true (by simp [hm1]) ⟨by omega, by omega, nilP_some ?_⟩
  obtain ⟨t, v, a, b, M1, M2, M3, u, rfl, rfl, h2, hp, hu0, hc0, ha⟩ := get 0 (by omega)
  have hb0 : b = [] := by
   simp only [List.length_append, List.length_cons, ha] at hlt
   exact List.eq_nil_of_length_eq_zero (by omega)
  have ha0 : a = [] := List.eq_nil_of_length_eq_zero ha
  subst hb0 ha0
  obtain ⟨us0, rfl⟩ : ∃ x, us = [x] := by
   simp at hul
   match us, hul with
   | [x], _ => exact ⟨x, rfl⟩
  obtain rfl : us0 = u := by simpa using hu0
  simp only [Addr.add_lit, Int.toNat_zero, Nat.zero_mul, Nat.add_zero]
  refine ⟨v, Sat.ld h (.head _) hc0, ?_⟩
  refine toPlain_yes h2 hp fun bb ccs ee hM => ⟨_, rfl, ?_⟩
  refine hR w bb M2 ?_ ?_
  ·rw [hM]; exact ⟨bb, ccs, ee, rfl, by simp⟩
  ·exact h.less (M1 ++ M3)
 ·refine br_false (by simp; omega) ?_
  intro X hX
  have key : ∀ k j (q : Option Addr) (n c' : Nat) AM w, j + k = m → Sl 1 ty_string q n c' (sv (us.take j)) AM → Sat σ w (AM ++ ((rb, cel cs e) :: (EM ++ L))) → X q n c' (some ⟨rb, s, none⟩) m c (m : Int) (j : Int) w := by
   intro k
   induction k with
   | zero =>
    intro j q n c' AM w hj hS h
    refine hX _ _ _ _ _ _ _ _ _ (br_false (by simp; omega) ?_)
    rw [List.take_of_length_le (by omega)] at hS
    cases us with
    | nil => simp at hul; omega
    | cons u us =>
     have hn := hS.1
     rw [sv_length] at hn
     simp at hul hn
     have hjl := joinL_nil (u :: us)
     refine join_ok (sep := []) hS h (by omega) (by omega) (by simp) (by rw [hjl]; exact hpos) (by rw [hjl]; exact hb) fun w h => ⟨_, rfl, ?_⟩
     rw [hjl]
     refine Sat.bx h fun pb w h => ?_
     refine hR w pb [(pb, cel [.string (bs (u :: us).flatten)] ty_Plain)] ⟨pb, [], _, rfl, rfl⟩ ?_
     exact h.less (AM ++ EM)
   | succ k ih =>
    intro j q n c' AM w hj hS h
    have hjm : j < m := by omega
    have hju : j < us.length := by omega
    refine hX _ _ _ _ _ _ _ _ _ (br_true (by simp; omega) ⟨by omega, by omega, nilP_some ?_⟩)
    obtain ⟨t, v, a, b, M1, M2, M3, u, rfl, rfl, h2, hp, hu0, hc0, ha⟩ := get j hjm
    simp only [Addr.add_lit, Int.toNat_natCast, Nat.mul_one]
    refine ⟨v, Sat.ld h (List.mem_append_right _ (.head _)) hc0, ?_⟩
    refine toPlain_yes h2 hp fun bb ccs ee hM => ⟨_, rfl, nilP_some ?_⟩
    subst hM
    refine ⟨_, Sat.ld h (List.mem_append_right _ (.tail _ (List.mem_append_left _ (List.mem_append_right _ (.head _))))) rfl, ?_⟩
    have hn := hS.1
    rw [sv_length, List.length_take] at hn
    refine Sat.app1 rowStr hS h (v := .string (bs u)) rfl (by simp [Value.cells, Value.oneCell']) (fillS u) (by omega) (by omega) (by decide) fun q' c'' w' M' hS' h => ?_
    rw [i64_inc (by omega)]
    refine ih (j + 1) q' (n + 1) c'' M' w' (by omega) ?_ h
    have e : sv (us.take (j + 1)) = sv (us.take j) ++ [.string (bs u)] := by
     rw [List.take_succ_eq_append_getElem hju]
     have : us[j] = u := by rw [List.getElem?_eq_getElem hju] at hu0; exact Option.some.inj hu0
     simp [sv, this]
    rw [e]; exact hS'
  exact key m 0 none 0 0 [] w (by omega) (Sl.nil 1 ty_string) h
end Go.Proofs.YtgbgadkldalkbaaGreatDoor


set_option linter.unusedVariables false
namespace Go.Proofs.YtgbgadkldalkbaaGreatDoor
open Go.Proofs Go.IntWalk Go.RowKit
variable {σ : Out} {w : World} {L L' : List Chunk} {R : Ending → World → Prop}
def flushP (p : List (List UInt8)) : List Inl := if p = [] then [] else [.plain p.flatten]
def mergeGo : List (List UInt8) → List Inl → List Inl
 | p, [] => flushP p
 | p, t :: ts => match t.plain? with
  | some s => mergeGo (p ++ [s]) ts
  | none => flushP p ++ t :: mergeGo [] ts
def mergeM (ts : List Inl) : List Inl := mergeGo [] ts
def plen : List Inl → Nat
 | [] => 0
 | t :: ts => (match t.plain? with | some s => s.length | none => 0) + plen ts
theorem set_mid {α : Type} {A B C : List α} {v : α} (hB : B ≠ []) : (A ++ (B ++ C)).set A.length v = (A ++ [v]) ++ (B.drop 1 ++ C) := by
 cases B with
 | nil => exact absurd rfl hB
 | cons x B => simp [List.set_append_right]
theorem fillP (v : Value) (hv : ∃ t b, v = ptrV t b) : Instr.fill (fun i => some (i * 1, 1)) ((Array.range (1 * 1)).map (rowInl.z.cells[· % rowInl.z.cells.size]!)) [(0, v)] = some v.cells := by
 obtain ⟨t, b, rfl⟩ := hv
 exact fillI t _
theorem und_PP : P.underlying ty_P_Plain = some (.pointer ty_Plain) := und_plain

theorem mergePlain_ok {pq q : Option Addr} {n c : Nat} {vs : List Value} {ts : List Inl} {RM EM : List Chunk} (hS : Sl 1 ty_Inline q n c vs RM) (hI : InlsAt ts vs EM) (hpos : ∀ t ∈ ts, ∀ s, t.plain? = some s → s ≠ []) (hb : plen ts < 1073741824) (hn : n < 1073741823)
 (h : Sat σ w (RM ++ (EM ++ L)))
 (hR : ∀ w n' vs' RM' EM', Sl 1 ty_Inline q n' c vs' RM' → n' ≤ n → InlsAt (mergeM ts) vs' EM' → Sat σ w (RM' ++ (EM' ++ L)) → R (.returned (.slice q n' c)) w) : callE P i_parseState_mergePlain #[.pointer pq, .slice q n c] R w := by
 have hl := hS.1
 have hnc := hS.2.1
 have htl := hI.length
 refine g_parseState_mergePlain.sound ?_
 refine ⟨_, _, _, _, sliceT rowInl.ht rowInl.hi q n c 0 (by omega) w, ?_⟩
 intro X hX
 obtain ⟨_, _, ⟨rfl, rfl, rfl, rfl⟩ | ⟨rb, sp, rfl, rfl, hsp⟩⟩ := hS
 ·have hts : ts = [] := List.eq_nil_of_length_eq_zero (by omega)
  subst hts
  refine hX _ _ _ _ _ _ _ _ _ (br_false rfl ?_)
  refine br_false rfl (br_true rfl ?_)
  exact hR w 0 [] [] [] (Sl.nil 1 ty_Inline) (by omega) ⟨rfl, rfl⟩ (h.sub (by rw [List.nil_append]; exact List.sublist_append_right _ _))
 have hlen0 : vs.length = n := by omega
 have key : ∀ (rts : List Inl) (pts : List Inl) (us : List (List UInt8)) (ots : List Inl) (ovs junk pvs rvs : List Value) (OM PM RM : List Chunk) w,
  InlsAt ots ovs OM → InlsAt pts pvs PM → InlsAt rts rvs RM → pts.map Inl.plain? = us.map some → (∀ u ∈ us, u ≠ []) → (∀ t ∈ rts, ∀ s, t.plain? = some s → s ≠ []) → us.flatten.length + plen rts < 1073741824 →
  ovs.length + junk.length + pvs.length + rvs.length = n → mergeM ts = ots ++ mergeGo us rts →
  Sat σ w ((rb, cel (ovs ++ (junk ++ (pvs ++ (rvs ++ sp)))) ty_Inline) :: (OM ++ (PM ++ (RM ++ L)))) →
  X (some ⟨rb, 0, none⟩) n c (some ⟨rb, 0, none⟩) ovs.length c ((ovs.length + junk.length : Nat) : Int) ((ovs.length + junk.length + pvs.length : Nat) : Int) w := by
  intro rts
  induction rts with
  | nil =>
   intro pts us ots ovs junk pvs rvs OM PM RM w hO hP hRt hu hune hrne hbb hlen hm h
   obtain ⟨rfl, rfl⟩ := hRt
   have hpl := hP.length
   have hul : us.length = pts.length := by have := congrArg List.length hu; simpa using this.symm
   simp only [List.length_nil, Nat.add_zero] at hlen
   refine hX _ _ _ _ _ _ _ _ _ (br_false (by simp; omega) ?_)
   by_cases hp0 : pvs = []
   ·subst hp0
    have hpts : pts = [] := by cases pts with
     | nil => rfl
     | cons _ _ => simp at hpl
    subst hpts
    have hus : us = [] := by cases us with
     | nil => rfl
     | cons _ _ => simp at hul
    subst hus
    obtain ⟨_, rfl⟩ := hP
    refine br_false (by simp) (br_true (by simp at hlen ⊢; omega) ?_)
    refine hR w ovs.length ovs [(rb, cel (ovs ++ (junk ++ sp)) ty_Inline)] OM ⟨by omega, by omega, .inr ⟨rb, junk ++ sp, rfl, rfl, ?_⟩⟩ (by omega) ?_ ?_
    ·simp only [List.length_append] at hsp ⊢; simp at hlen; omega
    ·rw [hm]; simpa [mergeGo, flushP] using hO
    ·simp only [List.nil_append] at h; exact h.re
   ·have hpos1 : 0 < pvs.length := List.length_pos_iff.2 hp0
    refine br_true (by simp; omega) ?_
    refine ⟨_, _, _, _, sliceLH rowInl.ht rowInl.hi _ n c _ _ (by omega) (by omega) w, ?_⟩
    rw [if_neg (by omega), rowInl.hs]
    simp only [Option.map_some, Addr.add_lit, Nat.zero_add, Nat.mul_one]
    have hune0 : us ≠ [] := by intro h0; subst h0; simp at hul; omega
    have hfl : 0 < us.flatten.length := by
     cases us with
     | nil => exact absurd rfl hune0
     | cons u us =>
      have := List.length_pos_iff.2 (hune u (.head _))
      simp only [List.flatten_cons, List.length_append]; omega
    have h : Sat σ w ((rb, cel (ovs ++ (junk ++ (pvs ++ ([] ++ sp)))) ty_Inline) :: (PM ++ (OM ++ L))) := h.re
    refine mergePlain1_ok (us := us) hP hu (by omega) (by omega) (by omega) ?_ hfl (by simp only [plen] at hbb; omega) h fun w nb EM' hN h => ⟨_, rfl, ?_⟩
    ·intro j hj
     rw [List.getElem?_append_right (by omega), List.getElem?_append_right (by omega), List.getElem?_append_left (by omega)]
     congr 1; omega
    have h : Sat σ w ((rb, cel (ovs ++ ((junk ++ pvs) ++ sp)) ty_Inline) :: (EM' ++ (OM ++ L))) := by
     have e : ovs ++ (junk ++ (pvs ++ ([] ++ sp))) = ovs ++ ((junk ++ pvs) ++ sp) := by simp
     rw [← e]; exact h
    refine appRoom' rowInl h (v := ptrV ty_P_Plain nb) (by simp; omega) (by omega) rfl rfl (fillI _ _) fun w h => ?_
    rw [set_mid (by simp [hp0])] at h
    refine br_true (by simp; omega) ?_
    refine hR w (ovs.length + 1) (ovs ++ [ptrV ty_P_Plain nb]) [(rb, cel ((ovs ++ [ptrV ty_P_Plain nb]) ++ ((junk ++ pvs).drop 1 ++ sp)) ty_Inline)] (OM ++ EM') ⟨by simp, by omega, .inr ⟨rb, _, rfl, rfl, ?_⟩⟩ (by omega) ?_ ?_
    ·simp only [List.length_append, List.length_drop, List.length_singleton] at hsp ⊢; omega
    ·rw [hm]
     simp only [mergeGo, flushP, if_neg hune0]
     exact hO.append (InlsAt.one hN)
    ·exact h.re
  | cons t rts ih =>
   intro pts us ots ovs junk pvs rvs OM PM RM w hO hP hRt hu hune hrne hbb hlen hm h
   have hpl := hP.length
   have hul : us.length = pts.length := by have := congrArg List.length hu; simpa using this.symm
   obtain ⟨v, rvs', M1, M2, rfl, rfl, hv, hrest⟩ := hRt
   simp only [List.length_cons] at hlen
   refine hX _ _ _ _ _ _ _ _ _ (br_true (by simp; omega) ⟨by omega, by omega, nilP_some ?_⟩)
   simp only [Addr.add_lit, Int.toNat_natCast, Nat.mul_one, Nat.zero_add]
   have hg : (ovs ++ (junk ++ (pvs ++ (v :: rvs' ++ sp))))[ovs.length + junk.length + pvs.length]? = some v := by
    rw [List.getElem?_append_right (by omega), List.getElem?_append_right (by omega), List.getElem?_append_right (by omega)]
    rw [show ovs.length + junk.length + pvs.length - ovs.length - junk.length - pvs.length = 0 by omega]
    rfl
   refine ⟨v, Sat.ld h (.head _) hg, ?_⟩
   cases hpt : t.plain? with
   | some u =>
    refine toPlain_yes hv hpt fun bb ccs ee hM => ⟨_, rfl, ?_⟩
    refine ⟨_, _, neq_ptr_nil und_PP _ w, br_true rfl ?_⟩
    rw [i64_inc (by omega)]
    have := ih (pts ++ [t]) (us ++ [u]) ots ovs junk (pvs ++ [v]) rvs' OM (PM ++ M1) M2 w hO (hP.append (InlsAt.one hv)) hrest (by simp [hu, hpt])
     (by intro x hx; rcases List.mem_append.1 hx with hx | hx
         ·exact hune x hx
         ·simp at hx; subst hx; exact hrne t (.head _) _ hpt)
     (fun t' ht' => hrne t' (.tail _ ht')) (by simp only [plen, hpt] at hbb; simp only [List.flatten_append, List.flatten_cons, List.flatten_nil, List.length_append, List.append_nil]; omega) (by simp; omega) (by rw [hm, mergeGo, hpt]) ?_
    ·simp only [List.length_append, List.length_singleton, ← Nat.add_assoc] at this
     exact this
    ·have e : ovs ++ (junk ++ (pvs ++ [v] ++ (rvs' ++ sp))) = ovs ++ (junk ++ (pvs ++ (v :: rvs' ++ sp))) := by simp
     rw [e]; exact h.re
   | none =>
    refine toPlain_no hv hpt ⟨_, rfl, ?_⟩
    refine ⟨_, _, neq_ptr_nil und_PP _ w, br_false rfl ?_⟩
    have hvp : ∃ t b, v = ptrV t b := by obtain ⟨b, _, _, _, h, _⟩ := hv.ptr; exact ⟨_, b, h⟩
    have hv1 : v.cells = #[v] ∧ v.oneCell' = true := by obtain ⟨t, b, rfl⟩ := hvp; exact ⟨rfl, rfl⟩
    have fin : ∀ (ots' : List Inl) (ovs' junk' : List Value) (OM' : List Chunk) w, InlsAt ots' ovs' OM' → mergeM ts = ots' ++ t :: mergeGo [] rts → ovs'.length + junk'.length = ovs.length + junk.length + pvs.length →
     Sat σ w ((rb, cel (ovs' ++ (junk' ++ (v :: rvs' ++ sp))) ty_Inline) :: (OM' ++ (M1 ++ (M2 ++ L)))) →
     g_parseState_mergePlain.k2 R X (some ⟨rb, 0, none⟩) n c (some ⟨rb, 0, none⟩) ovs'.length c ((ovs.length + junk.length + pvs.length : Nat) : Int) w := by
     intro ots' ovs' junk' OM' w hO' hm' hl' h
     refine br_false (by simp; omega) ⟨by omega, by omega, nilP_some ?_⟩
     simp only [Addr.add_lit, Int.toNat_natCast, Nat.mul_one, Nat.zero_add]
     have hg : (ovs' ++ (junk' ++ (v :: rvs' ++ sp)))[ovs.length + junk.length + pvs.length]? = some v := by
      rw [List.getElem?_append_right (by omega), List.getElem?_append_right (by omega)]
      rw [show ovs.length + junk.length + pvs.length - ovs'.length - junk'.length = 0 by omega]
      rfl
     refine ⟨v, Sat.ld h (.head _) hg, ?_⟩
     have e : ovs' ++ (junk' ++ (v :: rvs' ++ sp)) = ovs' ++ ((junk' ++ [v]) ++ (rvs' ++ sp)) := by simp
     rw [e] at h
     refine appRoom' rowInl h (v := v) (by simp; omega) (by omega) hv1.1 hv1.2 (fillP v hvp) fun w h => ?_
     rw [set_mid (by simp)] at h
     have e1 : IntKind.i64.wrap (((ovs.length + junk.length + pvs.length : Nat) : Int) + 1) = ((ovs.length + junk.length + pvs.length + 1 : Nat) : Int) := i64_inc (by omega)
     rw [e1]
     have := ih [] [] (ots' ++ [t]) (ovs' ++ [v]) ((junk' ++ [v]).drop 1) [] rvs' (OM' ++ M1) [] M2 w (hO'.append (InlsAt.one hv)) ⟨rfl, rfl⟩ hrest rfl (by simp) (fun t' ht' => hrne t' (.tail _ ht')) (by simp only [plen, hpt] at hbb; simp; omega)
      (by simp; omega) (by rw [hm']; simp) ?_
     ·simp only [List.length_append, List.length_singleton, List.length_drop, List.length_nil, Nat.add_zero] at this
      have e2 : ovs'.length + 1 + (junk'.length + 1 - 1) = ovs.length + junk.length + pvs.length + 1 := by omega
      rw [e2] at this
      exact this
     ·rw [List.nil_append]
      exact h.re
    by_cases hp0 : pvs = []
    ·subst hp0
     have hpts : pts = [] := by cases pts with
      | nil => rfl
      | cons _ _ => simp at hpl
     subst hpts
     have hus : us = [] := by cases us with
      | nil => rfl
      | cons _ _ => simp at hul
     subst hus
     obtain ⟨_, rfl⟩ := hP
     refine br_false (by simp) ?_
     refine fin ots ovs junk OM w hO (by rw [hm, mergeGo, hpt]; rfl) (by simp) ?_
     simp only [List.nil_append] at h
     exact h.re
    ·have hpos1 : 0 < pvs.length := List.length_pos_iff.2 hp0
     refine br_true (by simp; omega) ?_
     refine ⟨_, _, _, _, sliceLH rowInl.ht rowInl.hi _ n c _ _ (by omega) (by omega) w, ?_⟩
     rw [if_neg (by omega), rowInl.hs]
     simp only [Option.map_some, Addr.add_lit, Nat.zero_add, Nat.mul_one]
     have hune0 : us ≠ [] := by intro h0; subst h0; simp at hul; omega
     have hfl : 0 < us.flatten.length := by
      cases us with
      | nil => exact absurd rfl hune0
      | cons u us =>
       have := List.length_pos_iff.2 (hune u (.head _))
       simp only [List.flatten_cons, List.length_append]; omega
     have h : Sat σ w ((rb, cel (ovs ++ (junk ++ (pvs ++ (v :: rvs' ++ sp)))) ty_Inline) :: (PM ++ (OM ++ (M1 ++ (M2 ++ L))))) := h.re
     refine mergePlain1_ok (us := us) hP hu (by omega) (by omega) (by omega) ?_ hfl (by simp only [plen] at hbb; omega) h fun w nb EM' hN h => ⟨_, rfl, ?_⟩
     ·intro j hj
      rw [List.getElem?_append_right (by omega), List.getElem?_append_right (by omega), List.getElem?_append_left (by omega)]
      congr 1; omega
     have h : Sat σ w ((rb, cel (ovs ++ ((junk ++ pvs) ++ (v :: rvs' ++ sp))) ty_Inline) :: (EM' ++ (OM ++ (M1 ++ (M2 ++ L))))) := by
      have e : ovs ++ (junk ++ (pvs ++ (v :: rvs' ++ sp))) = ovs ++ ((junk ++ pvs) ++ (v :: rvs' ++ sp)) := by simp
      rw [← e]; exact h
     refine appRoom' rowInl h (v := ptrV ty_P_Plain nb) (by simp; omega) (by omega) rfl rfl (fillI _ _) fun w h => ?_
     rw [set_mid (by simp [hp0])] at h
     have := fin (ots ++ [.plain us.flatten]) (ovs ++ [ptrV ty_P_Plain nb]) ((junk ++ pvs).drop 1) (OM ++ EM') w (hO.append (InlsAt.one hN)) (by rw [hm, mergeGo, hpt]; simp [flushP, hune0]) (by simp; omega) (h.re)
     simp only [List.length_append, List.length_singleton] at this
     exact this
 have := key ts [] [] [] [] [] [] vs [] [] EM w ⟨rfl, rfl⟩ ⟨rfl, rfl⟩ hI rfl (by simp) hpos (by simpa using hb) (by simpa using hlen0) rfl (by simp only [List.nil_append]; exact h.re)
 exact this
end Go.Proofs.YtgbgadkldalkbaaGreatDoor


set_option linter.unusedVariables false
namespace Go.Proofs.YtgbgadkldalkbaaGreatDoor
open Go.Proofs Go.IntWalk Go.RowKit
variable {σ : Out} {w : World} {L L' : List Chunk} {R : Ending → World → Prop}
inductive PK where
 | nil
 | fn (f : FuncId)
 | code
def parserOf (o : Opt) (c : UInt8) : PK :=
 if c = 92 then .fn i_parseEscape else if c = 96 then .code else if c = 60 then .fn i_parseAutoLinkOrHTML else if c = 91 then .fn i_parseLinkOpen else if c = 33 then .fn i_parseImageOpen
 else if c = 95 ∨ c = 42 then .fn i_parseEmph else if c = 46 then (if o.dot then .fn i_parseDot else .nil) else if c = 45 then (if o.dash then .fn i_parseDash else .nil)
 else if c = 34 ∨ c = 39 then (if o.quote then .fn i_parseEmph else .nil) else if c = 126 then (if o.strike then .fn i_parseEmph else .nil) else if c = 10 then .fn i_parseBreak
 else if c = 38 then .fn i_parseHTMLEntity else if c = 58 then (if o.emoji then .fn i_parseEmoji else .nil) else .nil
abbrev XI := Option Addr → ByteArray → Option Addr → Nat → Nat → Int → Bool → Int → World → Prop
theorem inl_dispatch {X : XI} {b pb : Nat} {p : PS} {o : Opt} {s : List UInt8} {oq : Option Addr} {on oc : Nat} {lo : Int} {bk : Bool} {i : Nat} (hi : i < s.length) (hs : s.length < 4611686018427387904) (hpz : p.pz = some ⟨pb, 0, none⟩) (hp : p.at b ∈ L) (ho : o.at pb ∈ L) (h : Sat σ w L)
 (hK : match parserOf o s[i] with
  | .nil => g_parseState_inline.k1 R X (some ⟨b, 0, none⟩) (bs s) oq on oc lo bk i .nilFunc w
  | .fn f => g_parseState_inline.k1 R X (some ⟨b, 0, none⟩) (bs s) oq on oc lo bk i (.func (.func f) #[] #[]) w
  | .code => br (!bk) (callE P i_backtickParser_reset #[.pointer (some ⟨b, 12, none⟩)] (fun e w11 => e = .returned (.tuple #[]) ∧ g_parseState_inline.k1 R X (some ⟨b, 0, none⟩) (bs s) oq on oc lo true i (.func (.func i_backtickParser_parseCodeSpan) #[.pointer (some ⟨b, 12, none⟩)] #[]) w11) w)
   (g_parseState_inline.k1 R X (some ⟨b, 0, none⟩) (bs s) oq on oc lo bk i (.func (.func i_backtickParser_parseCodeSpan) #[.pointer (some ⟨b, 12, none⟩)] #[]) w)) :
 g_parseState_inline.bl1 R X (some ⟨b, 0, none⟩) (bs s) oq on oc lo bk i w := by
 have hld0 : w.cell? ⟨b, 0, none⟩ = some (.pointer (some ⟨pb, 0, none⟩)) := by rw [← hpz]; exact Sat.ld h hp rfl
 refine br_true (by simp; omega) ⟨by omega, by simp; omega, ?_⟩
 unfold parserOf at hK
 have hne : ∀ (d : UInt8) (m : Int), (d.toNat : Int) = m → ¬ s[i] = d → (bt (bs s) (i : Int) == m) = false := by
  intro d m hm hd; rw [bt_beq hi d m hm]; simpa using hd
 have hye : ∀ (d : UInt8) (m : Int), (d.toNat : Int) = m → s[i] = d → (bt (bs s) (i : Int) == m) = true := by
  intro d m hm hd; rw [bt_beq hi d m hm]; simpa using hd
 by_cases h92 : s[i] = 92
 ·rw [if_pos h92] at hK; exact br_true (hye 92 92 rfl h92) hK
 rw [if_neg h92] at hK; refine br_false (hne 92 92 rfl h92) ?_
 by_cases h96 : s[i] = 96
 ·rw [if_pos h96] at hK
  refine br_true (hye 96 96 rfl h96) ?_
  cases bk with
  | true => exact br_false rfl (nilP_some hK)
  | false => exact br_true rfl (nilP_some (by
   have hK : callE P i_backtickParser_reset #[.pointer (some ⟨b, 12, none⟩)] _ w := hK
   exact hK))
 rw [if_neg h96] at hK; refine br_false (hne 96 96 rfl h96) ?_
 by_cases h60 : s[i] = 60
 ·rw [if_pos h60] at hK; exact br_true (hye 60 60 rfl h60) hK
 rw [if_neg h60] at hK; refine br_false (hne 60 60 rfl h60) ?_
 by_cases h91 : s[i] = 91
 ·rw [if_pos h91] at hK; exact br_true (hye 91 91 rfl h91) hK
 rw [if_neg h91] at hK; refine br_false (hne 91 91 rfl h91) ?_
 by_cases h33 : s[i] = 33
 ·rw [if_pos h33] at hK; exact br_true (hye 33 33 rfl h33) hK
 rw [if_neg h33] at hK; refine br_false (hne 33 33 rfl h33) ?_
 by_cases h95 : s[i] = 95
 ·rw [if_pos (.inl h95)] at hK; exact br_true (hye 95 95 rfl h95) (br_true rfl hK)
 refine br_false (hne 95 95 rfl h95) ?_
 by_cases h42 : s[i] = 42
 ·rw [if_pos (.inr h42)] at hK; exact br_true (hye 42 42 rfl h42) hK
 rw [if_neg (by simp [h95, h42])] at hK; refine br_false (hne 42 42 rfl h42) ?_
 have opt : ∀ {A B : Prop} (k : Nat) (v : Bool), o.cells[k]? = some (.bool v) → (v = true → A) → (v = false → B) →
  nilP (some (⟨b, 0, none⟩ : Addr)) fun a53 => ∃ (v54 : Option Addr), w.cell? a53 = some (.pointer v54) ∧ nilP v54 fun a55 => ∃ (v56 : Bool), w.cell? (a55.add k) = some (.bool v56) ∧ br v56 A B := by
  intro A B k v hv hA hB
  refine nilP_some ⟨_, hld0, nilP_some ?_⟩
  simp only [Addr.add_lit, Nat.zero_add]
  exact ⟨v, Sat.ld h ho hv, br_split hA hB⟩
 by_cases h46 : s[i] = 46
 ·rw [if_pos h46] at hK
  refine br_true (hye 46 46 rfl h46) (opt 7 o.dot rfl (fun hv => ?_) (fun hv => ?_))
  ·rw [if_pos hv] at hK; exact hK
  ·rw [if_neg (by simp [hv])] at hK; exact hK
 rw [if_neg h46] at hK; refine br_false (hne 46 46 rfl h46) ?_
 by_cases h45 : s[i] = 45
 ·rw [if_pos h45] at hK
  refine br_true (hye 45 45 rfl h45) (opt 8 o.dash rfl (fun hv => ?_) (fun hv => ?_))
  ·rw [if_pos hv] at hK; exact hK
  ·rw [if_neg (by simp [hv])] at hK; exact hK
 rw [if_neg h45] at hK; refine br_false (hne 45 45 rfl h45) ?_
 by_cases h34 : s[i] = 34
 ·rw [if_pos (.inl h34)] at hK
  refine br_true (hye 34 34 rfl h34) (br_true rfl (opt 9 o.quote rfl (fun hv => ?_) (fun hv => ?_)))
  ·rw [if_pos hv] at hK; exact hK
  ·rw [if_neg (by simp [hv])] at hK; exact hK
 refine br_false (hne 34 34 rfl h34) ?_
 by_cases h39 : s[i] = 39
 ·rw [if_pos (.inr h39)] at hK
  refine br_true (hye 39 39 rfl h39) (opt 9 o.quote rfl (fun hv => ?_) (fun hv => ?_))
  ·rw [if_pos hv] at hK; exact hK
  ·rw [if_neg (by simp [hv])] at hK; exact hK
 rw [if_neg (by simp [h34, h39])] at hK; refine br_false (hne 39 39 rfl h39) ?_
 by_cases h126 : s[i] = 126
 ·rw [if_pos h126] at hK
  refine br_true (hye 126 126 rfl h126) (opt 1 o.strike rfl (fun hv => ?_) (fun hv => ?_))
  ·rw [if_pos hv] at hK; exact hK
  ·rw [if_neg (by simp [hv])] at hK; exact hK
 rw [if_neg h126] at hK; refine br_false (hne 126 126 rfl h126) ?_
 by_cases h10 : s[i] = 10
 ·rw [if_pos h10] at hK; exact br_true (hye 10 10 rfl h10) hK
 rw [if_neg h10] at hK; refine br_false (hne 10 10 rfl h10) ?_
 by_cases h38 : s[i] = 38
 ·rw [if_pos h38] at hK; exact br_true (hye 38 38 rfl h38) hK
 rw [if_neg h38] at hK; refine br_false (hne 38 38 rfl h38) ?_
 by_cases h58 : s[i] = 58
 ·rw [if_pos h58] at hK
  refine br_true (hye 58 58 rfl h58) (opt 6 o.emoji rfl (fun hv => ?_) (fun hv => ?_))
  ·rw [if_pos hv] at hK; exact hK
  ·rw [if_neg (by simp [hv])] at hK; exact hK
 rw [if_neg h58] at hK; exact br_false (hne 58 58 rfl h58) hK
end Go.Proofs.YtgbgadkldalkbaaGreatDoor


set_option linter.unusedVariables false
namespace Go.Proofs.YtgbgadkldalkbaaGreatDoor
open Go.Proofs Go.IntWalk Go.RowKit
variable {σ : Out} {w : World} {L L' : List Chunk} {R : Ending → World → Prop}
def PS.core (p : PS) : PS := { p with em := 0, lq := none, ln := 0, lc := 0, corner := false, bt := [] }
def PS.core2 (p : PS) : PS := { p with corner := false, bt := [] }
theorem PS.core_of2 {p p' : PS} (h : p'.core2 = p.core2) : p'.core = p.core := by
 have := congrArg PS.core h
 simpa [PS.core, PS.core2] using this
def IIn (σ : Out) (b : Nat) (p : PS) (ts : List Inl) (opens : List Nat) (oq : Option Addr) (on oc : Nat) (L : List Chunk) (w : World) : Prop :=
 ∃ vs RM EM OM, Sl 1 ty_Inline p.lq p.ln p.lc vs RM ∧ InlsAt ts vs EM ∧ Sl 1 ty_int oq on oc (opens.map fun (n : Nat) => Value.int .i64 n) OM ∧ ts.length < 1073741824 ∧ Sat σ w (p.at b :: (RM ++ (EM ++ (OM ++ L))))
def sub (s : List UInt8) (i j : Nat) : List UInt8 := (s.take j).drop i
def emitM (s : List UInt8) (em i : Nat) (ts : List Inl) : List Inl := if em < i then ts ++ [.plain (sub s em i)] else ts
theorem emitI_ok {b e i : Nat} {p : PS} {ts : List Inl} {opens : List Nat} {oq : Option Addr} {on oc : Nat} (h : IIn σ b p ts opens oq on oc L w) (he : p.em = e) (hl : i ≤ p.s.length) (hn : ts.length < 1073741823)
 (hR : ∀ w p', p'.core = p.core → p'.bt = p.bt → p'.em = ((max e i : Nat) : Int) → IIn σ b p' (emitM p.s e i ts) opens oq on oc L w → R (.returned (.tuple #[])) w) :
 callE P i_parseState_emit #[.pointer (some ⟨b, 0, none⟩), .int .i64 i] R w := by
 obtain ⟨vs, RM, EM, OM, hS, hI, hO, hlen, h⟩ := h
 have hvl := hI.length
 by_cases hi : e < i
 ·have h : Sat σ w (p.at b :: RM ++ (EM ++ (OM ++ L))) := h
  refine emit_ok (L := EM ++ (OM ++ L)) h ⟨hS, by omega⟩ he hi hl (by omega) fun w p' M' nb hp' hS' h => ?_
  refine hR w p' (by rw [hp']; rfl) (by rw [hp']) (by rw [hp']; show ((i : Nat) : Int) = _; congr 1; omega) ⟨_, M', EM ++ [plainC nb (sub p.s e i)], OM, hS'.1, ?_, hO, ?_, ?_⟩
  ·unfold emitM; rw [if_pos hi]
   exact hI.append (InlsAt.one ⟨nb, [], _, rfl, rfl⟩)
  ·unfold emitM; rw [if_pos hi]; simp; omega
  ·have h : Sat σ w (p'.at b :: M' ++ (plainC nb (sub p.s e i) :: (EM ++ (OM ++ L)))) := h
   exact h.re
 ·refine emit_no h (by rw [he]; omega) fun w h => ?_
  refine hR w p rfl rfl (by rw [he]; congr 1; omega) ⟨vs, RM, EM, OM, hS, ?_, hO, ?_, h⟩
  ·unfold emitM; rw [if_neg hi]; exact hI
  ·unfold emitM; rw [if_neg hi]; exact hlen

def LeafOK (b : Nat) (p : PS) (s : List UInt8) (i : Nat) (fv : Value) (L0 : List Chunk) (res : Option (Inl × Nat × Nat)) (Q : PS → Prop) : Prop :=
 ∀ (σ : Out) (R : Ending → World → Prop) (L : List Chunk) (w : World), (∀ c ∈ L0, c ∈ L) → Sat σ w (p.at b :: L) →
  (match res with
   | none => ∀ w p' v x y, p'.core2 = p.core2 → Q p' → Sat σ w (p'.at b :: L) → R (.returned (.tuple #[v, .int .i64 x, .int .i64 y, .bool false])) w
   | some (t, st, en) => ∀ w p' v TM, p'.core2 = p.core2 → Q p' → InlAt t v TM → Sat σ w (p'.at b :: (TM ++ L)) → R (.returned (.tuple #[v, .int .i64 st, .int .i64 en, .bool true])) w) →
  enterE P (do let d ← Deferred.ofValue fv #[.pointer (some ⟨b, 0, none⟩), .string (bs s), .int .i64 i]; invoke d.target d.args) R w
def isFuncB (P : Program) (t : TypeId) : Bool := match P.underlying t with | some (.func _ _ _) => true | _ => false
theorem isFunc_out {P : Program} {t : TypeId} (h : isFuncB P t = true) : ∃ ps rs vr, P.underlying t = some (.func ps rs vr) := by
 unfold isFuncB at h
 split at h
 ·rename_i a b c hd; exact ⟨_, _, _, hd⟩
 ·cases h
theorem und_pf : isFuncB P ty_func_P_parseState_string_int_I_18a27a = true := by kernel_rfl
theorem neq_pf {x y : Operand} (k : FuncId) (f g : Array Value) (w : World) :
 (do eqGuard .neq ty_func_P_parseState_string_int_I_18a27a x y (.func (.func k) f g) .nilFunc; binOp .neq ty_func_P_parseState_string_int_I_18a27a (.func (.func k) f g) .nilFunc).run P w = .ok (.bool true) w := by
 obtain ⟨_, _, _, h⟩ := isFunc_out und_pf
 exact neq_func_nil h k f g w
theorem neq_pn {x y : Operand} (w : World) :
 (do eqGuard .neq ty_func_P_parseState_string_int_I_18a27a x y .nilFunc .nilFunc; binOp .neq ty_func_P_parseState_string_int_I_18a27a .nilFunc .nilFunc).run P w = .ok (.bool false) w := by
 obtain ⟨_, _, _, h⟩ := isFunc_out und_pf
 exact neq_nil_nil h w
def Inl.isOpen : Inl → Bool
 | .openP _ _ => true
 | _ => false
theorem Inl.ty_open {t : Inl} (h : t.isOpen = false) : t.ty ≠ ty_P_openPlain := by
 cases t <;> simp only [Inl.isOpen, reduceCtorEq] at h <;> (simp only [Inl.ty]; decide)
noncomputable def rowInt : Row P ty_S_int ty_int 1 8 :=
 ⟨(P.info? ty_int).getD default, ((P.info? ty_int).bind (·.zero)).getD default, by kernel_rfl, by kernel_rfl, by kernel_rfl, by kernel_rfl, by kernel_rfl, by kernel_rfl, by decide⟩
theorem fillN (n : Nat) : Instr.fill (fun i => some (i * 1, 1)) ((Array.range (1 * 1)).map (rowInt.z.cells[· % rowInt.z.cells.size]!)) [(0, .int .i64 n)] = some #[.int .i64 n] := by kernel_rfl
theorem inl_leaf {X : XI} {b i e st en : Nat} {p : PS} {ts : List Inl} {opens : List Nat} {oq : Option Addr} {on oc : Nat} {lo : Int} {bk : Bool} {f : FuncId} {fr cp : Array Value} {t : Inl} {L0 : List Chunk} {Q : PS → Prop}
 (h : IIn σ b p ts opens oq on oc L w) (hL0 : ∀ c ∈ L0, c ∈ L) (hf : LeafOK b p p.s i (.func (.func f) fr cp) L0 (some (t, st, en)) Q) (he : p.em = e) (hst : st ≤ p.s.length) (hs : p.s.length < 1000000000) (hn : ts.length < 1000000000) (hon : opens.length < 1000000000)
 (hK : ∀ w p' oq on oc, p'.core = p.core → p'.em = (en : Int) → (∃ p'', Q p'' ∧ p'.bt = p''.bt) → IIn σ b p' (emitM p.s e st ts ++ [t]) (if t.isOpen then opens ++ [(emitM p.s e st ts).length] else opens) oq on oc L w → X (some ⟨b, 0, none⟩) (bs p.s) oq on oc lo bk en w) :
 g_parseState_inline.k1 R X (some ⟨b, 0, none⟩) (bs p.s) oq on oc lo bk i (.func (.func f) fr cp) w := by
 refine ⟨_, _, neq_pf f fr cp w, br_true rfl ?_⟩
 obtain ⟨vs, RM, EM, OM, hS, hI, hO, hlen, h⟩ := h
 have hcl : ∀ c ∈ L0, c ∈ RM ++ (EM ++ (OM ++ L)) := fun c hc => List.mem_append_right _ (List.mem_append_right _ (List.mem_append_right _ (hL0 c hc)))
 refine hf σ _ (RM ++ (EM ++ (OM ++ L))) w hcl h fun w p1 v TM hp1 hq1 ht h => ⟨_, _, _, _, rfl, br_true rfl ?_⟩
 have hc1 := PS.core_of2 hp1
 have e1 : p1.lq = p.lq := by have := congrArg PS.lq hp1; exact this
 have e2 : p1.ln = p.ln := by have := congrArg PS.ln hp1; exact this
 have e3 : p1.lc = p.lc := by have := congrArg PS.lc hp1; exact this
 have e4 : p1.s = p.s := by have := congrArg PS.s hp1; exact this
 have e5 : p1.em = e := by have := congrArg PS.em hp1; rw [← he]; exact this
 have hI1 : IIn σ b p1 ts opens oq on oc (TM ++ L) w := ⟨vs, RM, EM, OM, by rw [e1, e2, e3]; exact hS, hI, hO, hlen, h.re⟩
 refine emitI_ok hI1 e5 (by rw [e4]; exact hst) (by omega) fun w p2 hp2 hbt he2 h2 => ⟨rfl, ?_⟩
 rw [e4] at h2
 obtain ⟨pb, cs, ee, TM', rfl, rfl⟩ := ht.ptr
 have hc2 : p2.core = p.core := hp2.trans hc1
 have hs2 : p2.s = p.s := by have := congrArg PS.s hc2; exact this
 have elen : (emitM p.s e st ts).length ≤ ts.length + 1 := by unfold emitM; split <;> simp
 have fin : ∀ w oq on oc opens', opens' = (if t.isOpen then opens ++ [(emitM p.s e st ts).length] else opens) → IIn σ b p2 (emitM p.s e st ts) opens' oq on oc (((pb, cel cs ee) :: TM') ++ L) w →
  g_parseState_inline.k4 R X (some ⟨b, 0, none⟩) (bs p.s) oq on oc lo bk (ptrV t.ty pb) en w := by
  intro w oq on oc opens' ho h
  obtain ⟨vs, RM, EM, OM, hS, hI, hO, hlen, h⟩ := h
  have hvl := hI.length
  have hn0 := hS.1
  refine nilP_some ?_
  refine ⟨_, _, _, h.ldA, ?_⟩
  have h : Sat σ w (RM ++ (p2.at b :: (EM ++ (OM ++ (((pb, cel cs ee) :: TM') ++ L))))) := h.re
  refine Sat.app1 rowInl hS h (v := ptrV t.ty pb) rfl (by simp [ptrV, Value.cells, Value.oneCell']) (fillI _ _) (by omega) (by omega) (by decide) fun q' c' w' M' hS' h => ?_
  have h : Sat σ w' (p2.at b :: (M' ++ (EM ++ (OM ++ (((pb, cel cs ee) :: TM') ++ L))))) := h.re
  refine nilP_some ?_
  refine h.stA 0 fun w h => ?_
  let p3 : PS := { p2 with lq := q', ln := p2.ln + 1, lc := c' }
  have h : Sat σ w (p3.at b :: (M' ++ (EM ++ (OM ++ (((pb, cel cs ee) :: TM') ++ L))))) := h
  refine skipTo_ok h fun w h => ⟨rfl, ?_⟩
  refine hK w { p3 with em := en } oq on oc (by rw [← hc2]; rfl) rfl ⟨p1, hq1, hbt⟩ ⟨_, M', EM ++ ((pb, cel cs ee) :: TM'), OM, hS', ?_, by rw [← ho]; exact hO, by simp; omega, h.re⟩
  exact hI.append (InlsAt.one ht)
 cases hto : t.isOpen with
 | false =>
  refine ⟨_, _, w, ta_open_no (Inl.ty_open hto) w, br_false rfl ?_⟩
  exact fin w oq on oc opens (by rw [hto]; rfl) h2
 | true =>
  have hty : t.ty = ty_P_openPlain := by cases t <;> simp only [Inl.isOpen, reduceCtorEq] at hto; rfl
  have hta : (Instr.typeAssert (ptrV t.ty pb) ty_Inline ty_P_openPlain true).run P w = .ok (.tuple #[.pointer (some ⟨pb, 0, none⟩), .bool true]) w := by
   rw [hty]; exact ta_open_yes w
  refine ⟨_, _, w, hta, br_true rfl ?_⟩
  obtain ⟨vs, RM, EM, OM, hS, hI, hO, hlen, h⟩ := h2
  have hvl := hI.length
  have hn0 := hS.1
  have hol := hO.1
  rw [List.length_map] at hol
  refine nilP_some ?_
  refine ⟨_, _, _, h.ldA, ?_⟩
  have h : Sat σ w (OM ++ (p2.at b :: (RM ++ (EM ++ (((pb, cel cs ee) :: TM') ++ L))))) := h.re
  have hln : p2.ln = (emitM p.s e st ts).length := by omega
  rw [hln]
  generalize hm : (emitM p.s e st ts).length = m at fin elen hln ⊢
  refine Sat.app1 rowInt hO h (v := .int .i64 (m : Nat)) rfl (by simp [Value.cells, Value.oneCell']) (fillN m) (by omega) (by omega) (by decide) fun q' c' w' M' hO' h => ?_
  refine fin w' q' _ c' _ (by rw [hto] <;> rfl) ⟨vs, RM, EM, M', hS, hI, ?_, hlen, h.re⟩
  rw [if_pos rfl, List.map_append]; exact hO'
theorem inl_k5 {X : XI} {b i : Nat} {s : List UInt8} {oq : Option Addr} {on oc : Nat} {lo : Int} {bk : Bool} (hi : i < s.length) (hs : s.length < 4611686018427387904) (hc : s[i] ≠ 93 ∨ on = 0)
 (hK : X (some ⟨b, 0, none⟩) (bs s) oq on oc lo bk ((i + 1 : Nat) : Int) w) : g_parseState_inline.k5 R X (some ⟨b, 0, none⟩) (bs s) oq on oc lo bk i w := by
 refine ⟨by omega, by simp; omega, ?_⟩
 refine br_false ?_ ?_
 ·rw [bt_beq hi 93 93 rfl]
  rcases hc with hc | hc
  ·simp [hc]
  ·simp [hc]
 ·rw [i64_inc (by omega)]; exact hK
theorem inl_none {X : XI} {b i : Nat} {s : List UInt8} {oq : Option Addr} {on oc : Nat} {lo : Int} {bk : Bool} (hK : g_parseState_inline.k5 R X (some ⟨b, 0, none⟩) (bs s) oq on oc lo bk i w) :
 g_parseState_inline.k1 R X (some ⟨b, 0, none⟩) (bs s) oq on oc lo bk i .nilFunc w :=
 ⟨_, _, neq_pn w, br_false rfl hK⟩
end Go.Proofs.YtgbgadkldalkbaaGreatDoor


set_option linter.unusedVariables false
namespace Go.Proofs.YtgbgadkldalkbaaGreatDoor
open Go.Proofs Go.IntWalk Go.RowKit
variable {σ : Out} {w : World} {L L' : List Chunk} {R : Ending → World → Prop}
def EmphOK (ts ts' : List Inl) : Prop :=
 ∀ (σ : Out) (R : Ending → World → Prop) (pq q : Option Addr) (n c : Nat) vs RM EM L w, Sl 1 ty_Inline q n c vs RM → InlsAt ts vs EM → n < 1073741823 → Sat σ w (RM ++ (EM ++ L)) →
  (∀ w q' n' c' vs' RM' EM', Sl 1 ty_Inline q' n' c' vs' RM' → n' ≤ n → InlsAt ts' vs' EM' → Sat σ w (RM' ++ (EM' ++ L)) → R (.returned (.slice q' n' c')) w) →
  callE P i_parseState_emph #[.pointer pq, .slice q 0 c, .slice q n c] R w
theorem autoOff_ok {b pb : Nat} {p : PS} {o : Opt} {q : Option Addr} {n c : Nat} (hpz : p.pz = some ⟨pb, 0, none⟩) (hp : p.at b ∈ L) (ho : o.at pb ∈ L) (hoff : o.auto = false) (h : Sat σ w L) (hR : R (.returned (.slice q n c)) w) :
 callE P i_parseState_autoLinkText #[.pointer (some ⟨b, 0, none⟩), .slice q n c] R w := by
 refine g_parseState_autoLinkText.sound ?_
 refine nilP_some ⟨_, by rw [← hpz]; exact Sat.ld h hp rfl, nilP_some ?_⟩
 simp only [Addr.add_lit, Nat.zero_add]
 exact ⟨o.auto, Sat.ld h ho rfl, br_true (by rw [hoff]; rfl) hR⟩
def AutoOK (o : Opt) (ts ts' : List Inl) : Prop :=
 ∀ (σ : Out) (R : Ending → World → Prop) (b pb : Nat) (p : PS) (q : Option Addr) (n c : Nat) (vs : List Value) (RM EM L : List Chunk) (w : World), p.pz = some ⟨pb, 0, none⟩ → p.at b ∈ L → o.at pb ∈ L → Sl 1 ty_Inline q n c vs RM → n < 1073741824 → InlsAt ts vs EM → Sat σ w (RM ++ (EM ++ L)) →
  (∀ w q' n' c' vs' RM' EM', Sl 1 ty_Inline q' n' c' vs' RM' → n' < 1073741824 → InlsAt ts' vs' EM' → Sat σ w (RM' ++ (EM' ++ L)) → R (.returned (.slice q' n' c')) w) →
  callE P i_parseState_autoLinkText #[.pointer (some ⟨b, 0, none⟩), .slice q n c] R w
theorem autoOK_off {o : Opt} {ts : List Inl} (hoff : o.auto = false) : AutoOK o ts ts := fun σ R b pb p q n c vs RM EM L w hpz hp ho hS hn hI h hR =>
 autoOff_ok hpz (List.mem_append_right _ (List.mem_append_right _ hp)) (List.mem_append_right _ (List.mem_append_right _ ho)) hoff h (hR w q n c vs RM EM hS hn hI h)
theorem inl_endA {X : XI} {b pb e : Nat} {p : PS} {o : Opt} {ts ts' ts2 : List Inl} {opens : List Nat} {oq : Option Addr} {on oc : Nat} {lo : Int} {bk : Bool} (h : IIn σ b p ts opens oq on oc L w) (he : p.em = e) (hs : p.s.length < 1000000000)
 (hn : ts.length < 1000000000) (hpz : p.pz = some ⟨pb, 0, none⟩) (ho : o.at pb ∈ L) (hE : EmphOK (emitM p.s e p.s.length ts) ts') (hpos : ∀ t ∈ ts', ∀ s, t.plain? = some s → s ≠ []) (hb : plen ts' < 1073741824) (hA : AutoOK o (mergeM ts') ts2)
 (hR : ∀ w (p' : PS) q n c vs RM EM, p'.core = p.core → Sl 1 ty_Inline q n c vs RM → n < 1073741824 → InlsAt ts2 vs EM → Sat σ w (p'.at b :: (RM ++ (EM ++ L))) → R (.returned (.slice q n c)) w) :
 g_parseState_inline.bl1 R X (some ⟨b, 0, none⟩) (bs p.s) oq on oc lo bk (p.s.length : Nat) w := by
 have elen : (emitM p.s e p.s.length ts).length ≤ ts.length + 1 := by unfold emitM; split <;> simp
 refine br_false (by simp) ?_
 rw [bs_size]
 refine emitI_ok h he (Nat.le_refl _) (by omega) fun w p1 hp1 _ _ h => ⟨rfl, ?_⟩
 obtain ⟨vs, RM, EM, OM, hS, hI, hO, hlen, h⟩ := h
 have hvl := hI.length
 have hn0 := hS.1
 have hnc := hS.2.1
 have c1 : p1.pz = p.pz := by have := congrArg PS.pz hp1; exact this
 refine h.tk fun w h => ?_
 refine nilP_some (nilP_some ?_)
 refine ⟨_, _, _, h.ldA, ?_⟩
 refine ⟨_, _, _, fun w => sliceT rowInl.ht rowInl.hi _ _ _ 0 (by omega) w, ?_⟩
 refine ⟨_, _, _, h.ldA, ?_⟩
 have h : Sat σ w (RM ++ (EM ++ (p1.at b :: (OM ++ L)))) := h.re
 refine hE σ _ _ p1.lq p1.ln p1.lc vs RM EM _ w hS hI (by omega) h fun w q' n' c' vs' RM' EM' hS' hnn hI' h => ⟨_, _, _, rfl, nilP_some ?_⟩
 have h : Sat σ w (p1.at b :: (RM' ++ (EM' ++ (OM ++ L)))) := h.re
 refine h.stA 0 fun w h => ?_
 let p2 : PS := { p1 with lq := q', ln := n', lc := c' }
 have h : Sat σ w (p2.at b :: (RM' ++ (EM' ++ (OM ++ L)))) := h
 refine nilP_some ?_
 refine ⟨_, _, _, h.ldA, ?_⟩
 have h : Sat σ w (RM' ++ (EM' ++ (p2.at b :: (OM ++ L)))) := h.re
 refine mergePlain_ok (n := n') hS' hI' hpos hb (by omega) h fun w n2 vs2 RM2 EM2 hS2 hn2 hI2 h => ⟨_, _, _, rfl, nilP_some ?_⟩
 have h : Sat σ w (p2.at b :: (RM2 ++ (EM2 ++ (OM ++ L)))) := h.re
 refine h.stA 0 fun w h => ?_
 let p3 : PS := { p1 with lq := q', ln := n2, lc := c' }
 have h : Sat σ w (p3.at b :: (RM2 ++ (EM2 ++ (OM ++ L)))) := h
 refine nilP_some ?_
 refine ⟨_, _, _, h.ldA, ?_⟩
 have h : Sat σ w (RM2 ++ (EM2 ++ (p3.at b :: (OM ++ L)))) := h.re
 refine hA σ _ b pb p3 q' n2 c' vs2 RM2 EM2 _ w (by rw [← hpz, ← c1]) (.head _) (.tail _ (List.mem_append_right _ ho)) hS2 (by omega) hI2 h fun w q3 n3 c3 vs3 RM3 EM3 hS3 hn3 hI3 h => ⟨_, _, _, rfl, nilP_some ?_⟩
 have h : Sat σ w (p3.at b :: (RM3 ++ (EM3 ++ (OM ++ L)))) := h.re
 refine h.stA 0 fun w h => ?_
 refine nilP_some ?_
 refine ⟨_, _, _, h.ldA, ?_⟩
 let p4 : PS := { p1 with lq := q3, ln := n3, lc := c3 }
 have h : Sat σ w (p4.at b :: (RM3 ++ (EM3 ++ (OM ++ L)))) := h
 exact hR w p4 q3 n3 c3 vs3 RM3 EM3 (by rw [← hp1]; rfl) hS3 hn3 hI3 (h.less OM)
theorem inl_end {X : XI} {b pb e : Nat} {p : PS} {o : Opt} {ts ts' : List Inl} {opens : List Nat} {oq : Option Addr} {on oc : Nat} {lo : Int} {bk : Bool} (h : IIn σ b p ts opens oq on oc L w) (he : p.em = e) (hs : p.s.length < 1000000000)
 (hn : ts.length < 1000000000) (hpz : p.pz = some ⟨pb, 0, none⟩) (ho : o.at pb ∈ L) (hoff : o.auto = false) (hE : EmphOK (emitM p.s e p.s.length ts) ts') (hpos : ∀ t ∈ ts', ∀ s, t.plain? = some s → s ≠ []) (hb : plen ts' < 1073741824)
 (hR : ∀ w (p' : PS) q n c vs RM EM, p'.core = p.core → Sl 1 ty_Inline q n c vs RM → n < 1073741824 → InlsAt (mergeM ts') vs EM → Sat σ w (p'.at b :: (RM ++ (EM ++ L))) → R (.returned (.slice q n c)) w) :
 g_parseState_inline.bl1 R X (some ⟨b, 0, none⟩) (bs p.s) oq on oc lo bk (p.s.length : Nat) w :=
 inl_endA h he hs hn hpz ho hE hpos hb (autoOK_off hoff) hR
theorem inl_begin {b : Nat} {p : PS} {raw : List UInt8} (h : Sat σ w (p.at b :: L)) (hl : raw.length < 4611686018427387904)
 (hK : ∀ w, IIn σ b { p with s := trimLR isST raw, em := 0, lq := none, ln := 0, lc := 0 } [] [] none 0 0 L w → g_parseState_inline.l1 R (some ⟨b, 0, none⟩) (bs (trimLR isST raw)) none 0 0 0 false 0 w) :
 callE P i_parseState_inline #[.pointer (some ⟨b, 0, none⟩), .string (bs raw)] R w := by
 refine g_parseState_inline.sound ?_
 refine trimSpaceTab_ok hl ⟨_, rfl, nilP_some ?_⟩
 refine h.stA 0 fun w h => ?_
 refine nilP_some ?_
 refine h.stA 0 fun w h => ?_
 refine nilP_some ?_
 refine h.stA 0 fun w h => ?_
 exact hK w ⟨[], [], [], [], Sl.nil _ _, ⟨rfl, rfl⟩, Sl.nil _ _, by simp, h⟩
end Go.Proofs.YtgbgadkldalkbaaGreatDoor


set_option linter.unusedVariables false
namespace Go.Proofs.YtgbgadkldalkbaaGreatDoor
open Go.Proofs Go.IntWalk Go.RowKit
variable {σ : Out} {w : World} {L L' : List Chunk} {R : Ending → World → Prop}
def PS.coreS (p : PS) : PS := ({ p with s := [] } : PS).core
def PS0 (pz : Option Addr) : PS := ⟨pz, none, none, 0, none, 0, 0, 0, false, [], 0, none, 0, 0, none, 0, 0, none, 0, 0, List.replicate 80 (.int .i64 0) ++ [.bool false]⟩
end Go.Proofs.YtgbgadkldalkbaaGreatDoor


set_option linter.unusedVariables false
set_option maxRecDepth 20000
namespace Go.Proofs.YtgbgadkldalkbaaGreatDoor
open Go.Proofs
namespace g_Parser_Parse
noncomputable def body : Code := bodyOf Tryz.f25
end g_Parser_Parse
def g_Parser_Parse (R : EP) (x0 : OA) (x1 : BA) (w : World) : Prop :=
 callE P i_Parser_parse #[.pointer x0, .string x1] (fun e w2 => ∃ (r1_0 : OA), ∃ (r1_1 : Bool), e = .returned (.tuple #[.pointer r1_0, .bool r1_1]) ∧
 R (.returned (.pointer r1_0)) w2) w

namespace g_Parser_Parse
noncomputable def ac (R : EP) : AC :=
 (.leaf (sel [] body))
theorem good (R : EP) : Good P 14 (ac R) (QF P [.tmp 4] R) :=
 trivial
theorem eq (R : EP) (x0 : OA) (x1 : BA) (w : World) : g_Parser_Parse R x0 x1 w = vcA P 14 (ac R) (QF P [.tmp 4] R) (fr0 [.pointer x0, .string x1]) w := by kernel_rfl
theorem sound {R : EP} {x0 : OA} {x1 : ByteArray} {w : World} (h : g_Parser_Parse R x0 x1 w) : callE P i_Parser_Parse #[.pointer x0, .string x1] R w :=
 callE_fz (c := body) Tryz.func25 Tryz.call25 (good R) (eq R x0 x1 w) h
end g_Parser_Parse
namespace g_impl_HTML
noncomputable def body : Code := bodyOf Tryz.f8
end g_impl_HTML
def g_impl_HTML (R : EP) (x0_0 x0_1 : Bool) (x0_2 x0_3 : Bool) (x0_4 x0_5 : Bool) (x0_6 x0_7 : Bool) (x0_8 x0_9 : Bool) (x1 : BA) (w : World) : Prop :=
 box w #[.bool x0_0, .bool x0_1, .bool x0_2, .bool x0_3, .bool x0_4, .bool x0_5, .bool x0_6, .bool x0_7, .bool x0_8, .bool x0_9] ty_impl_Options fun b1 w2 =>
 ∃ (v3 : Bool), w2.cell? ⟨b1, 0, none⟩ = some (.bool v3) ∧
 ∃ (v4 : Bool), w2.cell? ⟨b1, 1, none⟩ = some (.bool v4) ∧
 ∃ (v5 : Bool), w2.cell? ⟨b1, 2, none⟩ = some (.bool v5) ∧
 ∃ (v6 : Bool), w2.cell? ⟨b1, 3, none⟩ = some (.bool v6) ∧
 ∃ (v7 : Bool), w2.cell? ⟨b1, 4, none⟩ = some (.bool v7) ∧
 ∃ (v8 : Bool), w2.cell? ⟨b1, 5, none⟩ = some (.bool v8) ∧
 ∃ (v9 : Bool), w2.cell? ⟨b1, 6, none⟩ = some (.bool v9) ∧
 ∃ (v10 : Bool), w2.cell? ⟨b1, 7, none⟩ = some (.bool v10) ∧
 ∃ (v11 : Bool), w2.cell? ⟨b1, 8, none⟩ = some (.bool v11) ∧
 ∃ (v12 : Bool), w2.cell? ⟨b1, 9, none⟩ = some (.bool v12) ∧
 callE P i_impl_parser #[.agg #[.bool v3, .bool v4, .bool v5, .bool v6, .bool v7, .bool v8, .bool v9, .bool v10, .bool v11, .bool v12]] (fun e w14 => ∃ (r13 : OA), e = .returned (.pointer r13) ∧
 callE P i_Parser_Parse #[.pointer r13, .string x1] (fun e w16 => ∃ (r15 : OA), e = .returned (.pointer r15) ∧
 callE P i_ToHTML #[.iface ty_P_Document (.pointer r15)] (fun e w18 => ∃ (r17 : BA), e = .returned (.string r17) ∧
 R (.returned (.string r17)) w18) w16) w14) w2

namespace g_impl_HTML
noncomputable def ac (R : EP) : AC :=
 (.leaf (sel [] body))
theorem good (R : EP) : Good P 11 (ac R) (QF P [.tmp 4] R) :=
 trivial
theorem eq (R : EP) (x0_0 x0_1 : Bool) (x0_2 x0_3 : Bool) (x0_4 x0_5 : Bool) (x0_6 x0_7 : Bool) (x0_8 x0_9 : Bool) (x1 : BA) (w : World) : g_impl_HTML R x0_0 x0_1 x0_2 x0_3 x0_4 x0_5 x0_6 x0_7 x0_8 x0_9 x1 w = vcA P 11 (ac R) (QF P [.tmp 4] R) (fr0 [.agg #[.bool x0_0, .bool x0_1, .bool x0_2, .bool x0_3, .bool x0_4, .bool x0_5, .bool x0_6, .bool x0_7, .bool x0_8, .bool x0_9], .string x1]) w := by kernel_rfl
theorem sound {R : EP} {x0_0 x0_1 : Bool} {x0_2 x0_3 : Bool} {x0_4 x0_5 : Bool} {x0_6 x0_7 : Bool} {x0_8 x0_9 : Bool} {x1 : ByteArray} {w : World} (h : g_impl_HTML R x0_0 x0_1 x0_2 x0_3 x0_4 x0_5 x0_6 x0_7 x0_8 x0_9 x1 w) : callE P i_impl_HTML #[.agg #[.bool x0_0, .bool x0_1, .bool x0_2, .bool x0_3, .bool x0_4, .bool x0_5, .bool x0_6, .bool x0_7, .bool x0_8, .bool x0_9], .string x1] R w :=
 callE_fz (c := body) Tryz.func8 Tryz.call8 (good R) (eq R x0_0 x0_1 x0_2 x0_3 x0_4 x0_5 x0_6 x0_7 x0_8 x0_9 x1 w) h
end g_impl_HTML
namespace g_impl_parser
noncomputable def body : Code := bodyOf Tryz.f24
end g_impl_parser
def g_impl_parser (R : EP) (x0_0 x0_1 : Bool) (x0_2 x0_3 : Bool) (x0_4 x0_5 : Bool) (x0_6 x0_7 : Bool) (x0_8 x0_9 : Bool) (w : World) : Prop :=
 box w #[.bool x0_0, .bool x0_1, .bool x0_2, .bool x0_3, .bool x0_4, .bool x0_5, .bool x0_6, .bool x0_7, .bool x0_8, .bool x0_9] ty_impl_Options fun b1 w2 =>
 ∃ (v3 : Bool), w2.cell? ⟨b1, 8, none⟩ = some (.bool v3) ∧
 ∃ (v4 : Bool), w2.cell? ⟨b1, 0, none⟩ = some (.bool v4) ∧
 ∃ (v5 : Bool), w2.cell? ⟨b1, 1, none⟩ = some (.bool v5) ∧
 ∃ (v6 : Bool), w2.cell? ⟨b1, 2, none⟩ = some (.bool v6) ∧
 ∃ (v7 : Bool), w2.cell? ⟨b1, 3, none⟩ = some (.bool v7) ∧
 ∃ (v8 : Bool), w2.cell? ⟨b1, 4, none⟩ = some (.bool v8) ∧
 ∃ (v9 : Bool), w2.cell? ⟨b1, 9, none⟩ = some (.bool v9) ∧
 ∃ (v10 : Bool), w2.cell? ⟨b1, 5, none⟩ = some (.bool v10) ∧
 ∃ (v11 : Bool), w2.cell? ⟨b1, 6, none⟩ = some (.bool v11) ∧
 ∃ (v12 : Bool), w2.cell? ⟨b1, 7, none⟩ = some (.bool v12) ∧
 box w2 #[.bool v3, .bool v4, .bool v5, .bool v6, .bool v7, .bool v8, .bool v9, .bool v10, .bool v11, .bool v12] ty_Parser fun b13 w14 =>
 R (.returned (.pointer (some ⟨b13, 0, none⟩))) w14

namespace g_impl_parser
noncomputable def ac (R : EP) : AC :=
 (.leaf (sel [] body))
theorem good (R : EP) : Good P 25 (ac R) (QF P [.tmp 2] R) :=
 trivial
theorem eq (R : EP) (x0_0 x0_1 : Bool) (x0_2 x0_3 : Bool) (x0_4 x0_5 : Bool) (x0_6 x0_7 : Bool) (x0_8 x0_9 : Bool) (w : World) : g_impl_parser R x0_0 x0_1 x0_2 x0_3 x0_4 x0_5 x0_6 x0_7 x0_8 x0_9 w = vcA P 25 (ac R) (QF P [.tmp 2] R) (fr0 [.agg #[.bool x0_0, .bool x0_1, .bool x0_2, .bool x0_3, .bool x0_4, .bool x0_5, .bool x0_6, .bool x0_7, .bool x0_8, .bool x0_9]]) w := by kernel_rfl
theorem sound {R : EP} {x0_0 x0_1 : Bool} {x0_2 x0_3 : Bool} {x0_4 x0_5 : Bool} {x0_6 x0_7 : Bool} {x0_8 x0_9 : Bool} {w : World} (h : g_impl_parser R x0_0 x0_1 x0_2 x0_3 x0_4 x0_5 x0_6 x0_7 x0_8 x0_9 w) : callE P i_impl_parser #[.agg #[.bool x0_0, .bool x0_1, .bool x0_2, .bool x0_3, .bool x0_4, .bool x0_5, .bool x0_6, .bool x0_7, .bool x0_8, .bool x0_9]] R w :=
 callE_fz (c := body) Tryz.func24 Tryz.call24 (good R) (eq R x0_0 x0_1 x0_2 x0_3 x0_4 x0_5 x0_6 x0_7 x0_8 x0_9 w) h
end g_impl_parser
end Go.Proofs.YtgbgadkldalkbaaGreatDoor

set_option linter.unusedVariables false
namespace Go.Proofs.YtgbgadkldalkbaaGreatDoor
open Go.Proofs Go.IntWalk Go.RowKit
variable {σ : Out} {w : World} {L L' : List Chunk} {R : Ending → World → Prop}
def optV (o : Opt) : Value := .agg #[.bool o.strike, .bool o.task, .bool o.auto, .bool o.http, .bool o.table, .bool o.dot, .bool o.dash, .bool o.quote, .bool o.ids, .bool o.emoji]
theorem parser_ok {o : Opt} (h : Sat σ w L) (hR : ∀ w pb, Sat σ w (o.at pb :: L) → R (.returned (.pointer (some ⟨pb, 0, none⟩))) w) : callE P i_impl_parser #[optV o] R w := by
 refine g_impl_parser.sound ?_
 refine Sat.bx h fun b w h => ?_
 have ld : ∀ (k : Nat) (v : Bool), ([Value.bool o.strike, .bool o.task, .bool o.auto, .bool o.http, .bool o.table, .bool o.dot, .bool o.dash, .bool o.quote, .bool o.ids, .bool o.emoji])[k]? = some (.bool v) → w.cell? ⟨b, k, none⟩ = some (.bool v) := fun k v hv => Sat.ld h (.head _) hv
 refine ⟨_, ld 8 _ rfl, _, ld 0 _ rfl, _, ld 1 _ rfl, _, ld 2 _ rfl, _, ld 3 _ rfl, _, ld 4 _ rfl, _, ld 9 _ rfl, _, ld 5 _ rfl, _, ld 6 _ rfl, _, ld 7 _ rfl, ?_⟩
 refine Sat.bx h fun pb w h => hR w pb ?_
 have h : Sat σ w (o.at pb :: (b, cel [Value.bool o.strike, .bool o.task, .bool o.auto, .bool o.http, .bool o.table, .bool o.dot, .bool o.dash, .bool o.quote, .bool o.ids, .bool o.emoji] ty_impl_Options) :: L) := h
 exact (h.less [(b, cel [Value.bool o.strike, .bool o.task, .bool o.auto, .bool o.http, .bool o.table, .bool o.dot, .bool o.dash, .bool o.quote, .bool o.ids, .bool o.emoji] ty_impl_Options)])
def ParsesTo (o : Opt) (raw out : List UInt8) : Prop :=
 ∀ (σ : Out) (R : Ending → World → Prop) (L : List Chunk) (w : World) (pb : Nat), Sat σ w L → o.at pb ∈ L →
  (∀ w db k DM DM' f, Prints "PrintHTML" (.iface ty_P_Document (.pointer (some ⟨db, 0, none⟩))) DM DM' f → f [] = out → Sat σ w (DM ++ L) → R (.returned (.tuple #[.pointer (some ⟨db, 0, none⟩), .bool k])) w) →
  callE P i_Parser_parse #[.pointer (some ⟨pb, 0, none⟩), .string (bs raw)] R w
def ParsesToL (L0 : List Chunk) (o : Opt) (raw out : List UInt8) : Prop :=
 ∀ (σ : Out) (R : Ending → World → Prop) (L : List Chunk) (w : World) (pb : Nat), (∀ c ∈ L0, c ∈ L) → Sat σ w L → o.at pb ∈ L →
  (∀ w db k DM DM' f, Prints "PrintHTML" (.iface ty_P_Document (.pointer (some ⟨db, 0, none⟩))) DM DM' f → f [] = out → Sat σ w (DM ++ L) → R (.returned (.tuple #[.pointer (some ⟨db, 0, none⟩), .bool k])) w) →
  callE P i_Parser_parse #[.pointer (some ⟨pb, 0, none⟩), .string (bs raw)] R w
theorem ParsesTo.lift {o : Opt} {raw out : List UInt8} (h : ParsesTo o raw out) : ParsesToL [] o raw out := fun σ R L w pb _ => h σ R L w pb
theorem html_okL {L0 : List Chunk} {o : Opt} {raw out : List UInt8} (hP : ParsesToL L0 o raw out) (hL0 : ∀ c ∈ L0, c ∈ L) (hout : out.length ≤ 549755813888) (h : Sat σ w L) (hR : ∀ w, Sat σ w L → R (.returned (.string (bs out))) w) : callE P i_impl_HTML #[optV o, .string (bs raw)] R w := by
 refine g_impl_HTML.sound ?_
 refine Sat.bx h fun b w h => ?_
 have ld : ∀ (k : Nat) (v : Bool), ([Value.bool o.strike, .bool o.task, .bool o.auto, .bool o.http, .bool o.table, .bool o.dot, .bool o.dash, .bool o.quote, .bool o.ids, .bool o.emoji])[k]? = some (.bool v) → w.cell? ⟨b, k, none⟩ = some (.bool v) := fun k v hv => Sat.ld h (.head _) hv
 refine ⟨_, ld 0 _ rfl, _, ld 1 _ rfl, _, ld 2 _ rfl, _, ld 3 _ rfl, _, ld 4 _ rfl, _, ld 5 _ rfl, _, ld 6 _ rfl, _, ld 7 _ rfl, _, ld 8 _ rfl, _, ld 9 _ rfl, ?_⟩
 refine parser_ok h fun w pb h => ⟨_, rfl, ?_⟩
 refine g_Parser_Parse.sound ?_
 refine hP σ _ _ w pb (fun c hc => .tail _ (.tail _ (hL0 c hc))) h (.head _) fun w db k DM DM' f hf hfo h => ⟨_, _, rfl, _, rfl, ?_⟩
 subst hfo
 refine toHTML_ok hf h hout fun w h => ⟨_, rfl, hR w ?_⟩
 exact h.less (DM' ++ (o.at pb :: [(b, cel [Value.bool o.strike, .bool o.task, .bool o.auto, .bool o.http, .bool o.table, .bool o.dot, .bool o.dash, .bool o.quote, .bool o.ids, .bool o.emoji] ty_impl_Options)]))
theorem html_ok {o : Opt} {raw out : List UInt8} (hP : ParsesTo o raw out) (hout : out.length ≤ 549755813888) (h : Sat σ w L) (hR : ∀ w, Sat σ w L → R (.returned (.string (bs out))) w) : callE P i_impl_HTML #[optV o, .string (bs raw)] R w :=
 html_okL hP.lift (by simp) hout h hR
end Go.Proofs.YtgbgadkldalkbaaGreatDoor


set_option linter.unusedVariables false
namespace Go.Proofs.YtgbgadkldalkbaaGreatDoor
open Go.Proofs Go.IntWalk Go.RowKit
variable {σ : Out} {w : World} {L L' : List Chunk} {R : Ending → World → Prop}
structure TF where
 q : Option Addr
 n : Nat
 c : Nat
 vs : List Value
 RM : List Chunk
 KM : List Chunk
 KM' : List Chunk
 f : List UInt8 → List UInt8
def TF.ok (t : TF) : Prop := Sl 1 ty_Inline t.q t.n t.c t.vs t.RM ∧ t.n < 1073741824 ∧ PrintsL "PrintHTML" t.vs t.KM t.KM' t.f
def fill (x : TX) (t : TF) : List Chunk := textC x.t x.s x.e t.q t.n t.c x.raw :: (t.RM ++ t.KM)
def fill' (x : TX) (t : TF) : List Chunk := textC x.t x.s x.e t.q t.n t.c x.raw :: (t.RM ++ t.KM')
def fills : List TX → List TF → List Chunk
 | x :: xs, t :: ts => fill x t ++ fills xs ts
 | _, _ => []
def fills' : List TX → List TF → List Chunk
 | x :: xs, t :: ts => fill' x t ++ fills' xs ts
 | _, _ => []
inductive Filled (F : List UInt8 → List UInt8 → List UInt8) : List TX → List TF → Prop where
 | nil : Filled F [] []
 | cons {x : TX} {t : TF} {xs : List TX} {ts : List TF} : t.ok → t.f = F x.raw → Filled F xs ts → Filled F (x :: xs) (t :: ts)
theorem Filled.split {F : List UInt8 → List UInt8 → List UInt8} : ∀ {xs ys : List TX} {ts : List TF}, Filled F (xs ++ ys) ts → ∃ ts1 ts2, ts = ts1 ++ ts2 ∧ Filled F xs ts1 ∧ Filled F ys ts2
 | [], ys, ts, h => ⟨[], ts, rfl, .nil, h⟩
 | x :: xs, ys, ts, h => by
  cases h with
  | cons h1 h2 h3 =>
   obtain ⟨ts1, ts2, rfl, h4, h5⟩ := h3.split
   exact ⟨_ :: ts1, ts2, rfl, .cons h1 h2 h4, h5⟩
theorem Filled.append {F : List UInt8 → List UInt8 → List UInt8} {xs ys : List TX} {ts us : List TF} (h1 : Filled F xs ts) (h2 : Filled F ys us) : Filled F (xs ++ ys) (ts ++ us) := by
 induction h1 with
 | nil => exact h2
 | cons a b _ ih => exact .cons a b ih
theorem fills_append {F : List UInt8 → List UInt8 → List UInt8} : ∀ {xs ys : List TX} {ts us : List TF}, Filled F xs ts → fills (xs ++ ys) (ts ++ us) = fills xs ts ++ fills ys us
 | _, _, _, _, .nil => rfl
 | _, _, _, _, .cons h1 h2 h3 => by simp only [List.cons_append, fills, List.append_assoc]; rw [fills_append h3]
theorem fills'_append {F : List UInt8 → List UInt8 → List UInt8} : ∀ {xs ys : List TX} {ts us : List TF}, Filled F xs ts → fills' (xs ++ ys) (ts ++ us) = fills' xs ts ++ fills' ys us
 | _, _, _, _, .nil => rfl
 | _, _, _, _, .cons h1 h2 h3 => by simp only [List.cons_append, fills', List.append_assoc]; rw [fills'_append h3]
def DB.shows (F : List UInt8 → List UInt8 → List UInt8) (d : DB) (g : List UInt8 → List UInt8) : Prop :=
 ∀ ts, Filled F d.txs ts → Prints "PrintHTML" d.v (d.own ++ fills d.txs ts) (d.own ++ fills' d.txs ts) g
inductive Show (F : List UInt8 → List UInt8 → List UInt8) : List DB → List (List UInt8 → List UInt8) → Prop where
 | nil : Show F [] []
 | cons {d : DB} {g : List UInt8 → List UInt8} {D : List DB} {gs : List (List UInt8 → List UInt8)} : d.shows F g → Show F D gs → Show F (d :: D) (g :: gs)
def compL : List (List UInt8 → List UInt8) → List UInt8 → List UInt8
 | [], l => l
 | g :: gs, l => compL gs (g l)
theorem docs_print {F : List UInt8 → List UInt8 → List UInt8} {D : List DB} {gs : List (List UInt8 → List UInt8)} (h : Show F D gs) : ∀ ts, Filled F (txsC D) ts →
 ∃ KM KM', PrintsL "PrintHTML" (D.map DB.v) KM KM' (compL gs) ∧ (∀ a, cnt a (ownC D ++ fills (txsC D) ts) = cnt a KM) := by
 induction h with
 | nil => intro ts ht; cases ht; exact ⟨[], [], .nil, fun a => rfl⟩
 | @cons d g D gs h1 h2 ih =>
  intro ts ht
  have e : txsC (d :: D) = d.txs ++ txsC D := by simp [txsC]
  rw [e] at ht ⊢
  obtain ⟨ts1, ts2, rfl, h3, h4⟩ := ht.split
  obtain ⟨KM, KM', h5, h6⟩ := ih ts2 h4
  refine ⟨_, _, .cons (h1 ts1 h3) h5, fun a => ?_⟩
  have := h6 a
  rw [fills_append h3, show ownC (d :: D) = d.own ++ ownC D by simp [ownC]]
  simp only [cnt_append] at this ⊢
  omega
end Go.Proofs.YtgbgadkldalkbaaGreatDoor


set_option linter.unusedVariables false
namespace Go.Proofs.YtgbgadkldalkbaaGreatDoor
open Go.Proofs Go.IntWalk Go.RowKit
variable {σ : Out} {w : World} {L L' : List Chunk} {R : Ending → World → Prop}
def methVB (P : Program) (t : TypeId) (name : String) (f : FuncId) : Bool :=
 match P.info? t with
 | some i => match i.methods.find? (·.name == name) with
  | some m => match m.path.toList with
   | [s] => s.deref && (match P.underlying s.struct with
    | some (.struct fields) => match fields[s.index]? with
     | some fd => Nat.beq fd.offset 0 && (match P.info? fd.type with
      | some ti => Nat.beq ti.size 2 && (match P.underlying fd.type with
       | some (.struct _) => (match m.func with | some (g, false) => Nat.beq g f | _ => false)
       | _ => false)
      | none => false)
     | none => false
    | _ => false)
   | _ => false
  | none => false
 | none => false
theorem methVB_run {P : Program} {t : TypeId} {name : String} {f : FuncId} (h : methVB P t name f = true) (b : Nat) (fuel : Nat) (w : World) {x y : Value} (hx : w.cell? ⟨b, 0, none⟩ = some x) (hy : w.cell? ⟨b, 1, none⟩ = some y) :
 (Go.method (fuel + 1) t (.pointer (some ⟨b, 0, none⟩)) name).run P w = .ok (f, .agg #[x, y]) w := by
 have hld : (loadCells ⟨b, 0, none⟩ 2).run P w = .ok #[x, y] w := by
  refine run_loadCells_list (P := P) (w := w) ⟨b, 0, none⟩ [x, y] ?_
  intro j v hj
  match j, hj with
  | 0, hj => cases hj; simpa [Addr.add] using hx
  | 1, hj => cases hj; simpa [Addr.add] using hy
 unfold methVB at h
 split at h
 ·rename_i i hi
  split at h
  ·rename_i m hm
   split at h
   ·rename_i s hp
    simp only [Bool.and_eq_true] at h
    obtain ⟨hd, h⟩ := h
    split at h
    ·rename_i fields hu
     split at h
     ·rename_i fd hf
      simp only [Bool.and_eq_true] at h
      obtain ⟨h0, h⟩ := h
      have h0 := Nat.eq_of_beq_eq_true h0
      split at h
      ·rename_i ti hti
       simp only [Bool.and_eq_true] at h
       obtain ⟨hsz, h⟩ := h
       have hsz := Nat.eq_of_beq_eq_true hsz
       split at h
       ·rename_i fs hfu
        split at h
        ·rename_i g hg
         have hgf := Nat.eq_of_beq_eq_true h
         subst hgf
         simp [Go.method, typeInfo, hi, hm, hp, Go.follow, run_underlying hu, hf, hd, Go.Place.get, asAddr, Go.fieldPlace, sizeOf, hti, hsz, h0, hg, Go.receiverAt, run_underlying hfu, Addr.add_lit, loadVar, isAgg, hld]
        ·cases h
       ·cases h
      ·cases h
     ·cases h
    ·cases h
   ·cases h
  ·cases h
 ·cases h
theorem enter_methV {t : TypeId} {name : String} {f : FuncId} {b : Nat} {args : Array Value} {x y : Value} (hm : methVB P t name f = true) (hx : w.cell? ⟨b, 0, none⟩ = some x) (hy : w.cell? ⟨b, 1, none⟩ = some y) (h : callE P f (#[.agg #[x, y]] ++ args) R w) :
 enterE P (callMethod (.iface t (.pointer (some ⟨b, 0, none⟩))) name args) R w := by
 obtain ⟨n, hn⟩ := depth_succ P
 have hr := methVB_run hm b n w hx hy
 have e : (callMethod (.iface t (.pointer (some ⟨b, 0, none⟩))) name args).run P w = (callFunc f (#[.agg #[x, y]] ++ args)).run P w := by
  simp only [callMethod, Sem.run_bind, run_program, Result.andThen_ok, hn, hr]
 unfold enterE
 rw [e]
 exact h.imp (fun h => ⟨f, _, w, h.1 _ _, h.2⟩) id
theorem position_ok {s e : Int} (h : Sat σ w L) (hR : ∀ w, Sat σ w L → R (.returned (.agg #[.int .i64 s, .int .i64 e])) w) : callE P i_Position_Pos #[.agg #[.int .i64 s, .int .i64 e]] R w := by
 refine g_Position_Pos.sound ?_
 refine Sat.bx h fun b1 w h => ?_
 refine Sat.bx h fun b3 w h => ?_
 repeat (first | refine nilP_some ?_ | refine h.tk fun w h => ?_ | refine ⟨_, h.ldA, ?_⟩ | refine ⟨_, _, _, h.ldA, ?_⟩ | refine h.stA 0 fun w h => ?_ | refine h.stA 1 fun w h => ?_ | refine h.stA 2 fun w h => ?_ | refine h.stA 3 fun w h => ?_ | refine h.stA 4 fun w h => ?_ | refine h.stA 5 fun w h => ?_ | refine h.stA 6 fun w h => ?_ | refine h.bx fun b0 w h => ?_)
 exact hR _ h.tail.tail
theorem pos_Paragraph : methVB P ty_P_Paragraph "Pos" i_Position_Pos = true := by kernel_rfl
theorem pos_Item : methVB P ty_P_Item "Pos" i_Position_Pos = true := by kernel_rfl
def DB.posIs (d : DB) (s e : Nat) : Prop :=
 ∀ (σ : Out) (R : Ending → World → Prop) (L : List Chunk) (w : World), (∀ c ∈ d.own, c ∈ L) → Sat σ w L → (∀ w, Sat σ w L → R (.returned (.agg #[.int .i64 s, .int .i64 e])) w) → enterE P (callMethod d.v "Pos" #[]) R w
theorem posIs_of {t : TypeId} {b s e : Nat} {cs : List Value} {ty : TypeId} {d : DB} (hm : methVB P t "Pos" i_Position_Pos = true) (hv : d.v = .iface t (.pointer (some ⟨b, 0, none⟩))) (ho : (b, cel (.int .i64 s :: .int .i64 e :: cs) ty) ∈ d.own) : d.posIs s e := by
 intro σ R L w hL h hR
 rw [hv]
 have hmem := hL _ ho
 exact enter_methV hm (Sat.ld h hmem (i := 0) rfl) (Sat.ld h hmem (i := 1) rfl) (position_ok h hR)
end Go.Proofs.YtgbgadkldalkbaaGreatDoor


set_option linter.unusedVariables false
set_option maxRecDepth 20000
namespace Go.Proofs.YtgbgadkldalkbaaGreatDoor
open Go.Proofs
namespace g_parseState_startListItem_1
noncomputable def body : Code := bodyOf Tryz.f231
end g_parseState_startListItem_1
def g_parseState_startListItem_1 (R : EP) (x0 x1 : Nat) (x2 x3 : Nat) (w : World) : Prop :=
 box w #[.int .i64 0, .int .i64 0, .int .i64 0, .string (ByteArray.mk #[]), .int .u8 0] ty_line fun b1 w2 =>
 ∃ (v3 : OA), w2.cell? ⟨x0, 0, none⟩ = some (.pointer v3) ∧
 ∃ (v4 : OA), w2.cell? ⟨x1, 0, none⟩ = some (.pointer v4) ∧
 callE P i_parseState_addBlock #[.pointer v3, .iface ty_P_itemBuilder (.pointer v4)] (fun e w6 => e = .returned (.tuple #[]) ∧
 ∃ (v7 : OA), w6.cell? ⟨x2, 0, none⟩ = some (.pointer v7) ∧
 ∃ (v8 : OA), w6.cell? ⟨x1, 0, none⟩ = some (.pointer v8) ∧
 nilP v7 fun a9 =>
 stV w6 ((a9.add 3).add 0) (.pointer v8) fun w10 =>
 ∃ (v11 : Int), w10.cell? ⟨x3, 0, none⟩ = some (.int .i64 v11) ∧
 ∃ (v12 : Int), w10.cell? ⟨x3, 1, none⟩ = some (.int .i64 v12) ∧
 ∃ (v13 : Int), w10.cell? ⟨x3, 2, none⟩ = some (.int .i64 v13) ∧
 ∃ (v14 : BA), w10.cell? ⟨x3, 3, none⟩ = some (.string v14) ∧
 ∃ (v15 : Int), w10.cell? ⟨x3, 4, none⟩ = some (.int .u8 v15) ∧
 stV w10 ⟨b1, 0, none⟩ (.int .i64 v11) fun w16 =>
 stV w16 ⟨b1, 1, none⟩ (.int .i64 v12) fun w17 =>
 stV w17 ⟨b1, 2, none⟩ (.int .i64 v13) fun w18 =>
 stV w18 ⟨b1, 3, none⟩ (.string v14) fun w19 =>
 stV w19 ⟨b1, 4, none⟩ (.int .u8 v15) fun w20 =>
 ∃ (v21 : Int), w20.cell? ⟨b1, 0, none⟩ = some (.int .i64 v21) ∧
 ∃ (v22 : Int), w20.cell? ⟨b1, 1, none⟩ = some (.int .i64 v22) ∧
 ∃ (v23 : Int), w20.cell? ⟨b1, 2, none⟩ = some (.int .i64 v23) ∧
 ∃ (v24 : BA), w20.cell? ⟨b1, 3, none⟩ = some (.string v24) ∧
 ∃ (v25 : Int), w20.cell? ⟨b1, 4, none⟩ = some (.int .u8 v25) ∧
 R (.returned (.agg #[.int .i64 v21, .int .i64 v22, .int .i64 v23, .string v24, .int .u8 v25])) w20) w2

namespace g_parseState_startListItem_1
noncomputable def ac (R : EP) : AC :=
 (.leaf (sel [] body))
theorem good (R : EP) : Good P 14 (ac R) (QF P [.cell 4 159] R) :=
 trivial
theorem eq (R : EP) (x0 x1 : Nat) (x2 x3 : Nat) (w : World) : g_parseState_startListItem_1 R x0 x1 x2 x3 w = vcA P 14 (ac R) (QF P [.cell 4 159] R) (fr0 [.pointer (some ⟨x0, 0, none⟩), .pointer (some ⟨x1, 0, none⟩), .pointer (some ⟨x2, 0, none⟩), .pointer (some ⟨x3, 0, none⟩)]) w := by kernel_rfl
theorem sound {R : EP} {x0 x1 : Nat} {x2 x3 : Nat} {w : World} (h : g_parseState_startListItem_1 R x0 x1 x2 x3 w) : callE P i_parseState_startListItem_1 #[.pointer (some ⟨x0, 0, none⟩), .pointer (some ⟨x1, 0, none⟩), .pointer (some ⟨x2, 0, none⟩), .pointer (some ⟨x3, 0, none⟩)] R w :=
 callE_fz (c := body) Tryz.func231 Tryz.call231 (good R) (eq R x0 x1 x2 x3 w) h
end g_parseState_startListItem_1
end Go.Proofs.YtgbgadkldalkbaaGreatDoor

set_option linter.unusedVariables false
namespace Go.Proofs.YtgbgadkldalkbaaGreatDoor
open Go.Proofs Go.IntWalk Go.RowKit
variable {σ : Out} {w : World} {L L' : List Chunk} {R : Ending → World → Prop}
theorem bl102_pass {Xb : OA → Nat → WP} {b b1 : Nat} {p : PS} {M : List Chunk} {l l2 : Ln} (i : Nat) (hi : i < newsF.length) (h : Sat σ w (p.at b :: M ++ (l.at b1 :: L))) (hd : ∀ j (hj : j < newsF.length), j < i → Decl b p M l newsF[j]) (hl2 : l2.ok) (hb2 : l2.blank = false)
 (hP : ∀ w nb e (R' : Ending → World → Prop), Sat σ w (p.at b :: M ++ (l.at b1 :: (nb, cel newsC e) :: L)) →
  (∀ w L2 (p2 : PS), p2.depth < 1000000 ∧ 0 ≤ p2.depth → Sat σ w (l.at b1 :: p2.at b :: L2) → (∀ w, Sat σ w (l2.at b1 :: ({ p2 with depth := p2.depth + 1 } : PS).at b :: L2) → Xb (some ⟨b, 0, none⟩) b1 w) → R' (.returned (.tuple #[l2.val, .bool true])) w) → callE P newsF[i] #[.pointer (some ⟨b, 0, none⟩), l.val] R' w) :
 g_parseState_addLine.bl102 R Xb (some ⟨b, 0, none⟩) b1 w := by
 have hi8 : i < 8 := hi
 refine news_ok h fun w nb e h => ⟨_, _, _, rfl, ?_⟩
 intro Y hY
 have h : Sat σ w (p.at b :: M ++ (l.at b1 :: (nb, cel newsC e) :: L)) := h.re
 refine news_rounds hY i 0 w (by omega) (by omega) (fun j hj _ h2 => hd j hj h2) h fun w h => ?_
 refine hY _ _ _ _ _ _ _ _ (br_true (by simp; omega) ⟨by omega, by omega, ?_⟩)
 have hf := List.getElem?_eq_getElem hi
 refine nilP_some ?_
 simp only [Addr.add_lit, Nat.zero_add, Int.toNat_natCast, Nat.mul_one]
 have h : Sat σ w (l.at b1 :: (nb, cel newsC e) :: (p.at b :: (M ++ L))) := h.re
 refine ⟨_, Sat.ld h (.tail _ (.head _)) (newsC_get hf), ?_⟩
 refine ⟨_, Sat.ld h (.head _) rfl, _, Sat.ld h (.head _) rfl, _, Sat.ld h (.head _) rfl, _, Sat.ld h (.head _) rfl, _, Sat.ld h (.head _) rfl, ?_⟩
 have h : Sat σ w (p.at b :: M ++ (l.at b1 :: (nb, cel newsC e) :: L)) := h.re
 refine enter_fn ?_
 refine hP w nb e _ h fun w L2 p2 hdep h hX => ⟨_, _, _, _, _, _, rfl, ?_⟩
 refine Sat.bx h fun b85 w h => ?_
 refine h.stA 0 fun w h => ?_
 refine h.stA 0 fun w h => ?_
 refine h.stA 0 fun w h => ?_
 refine h.stA 0 fun w h => ?_
 refine h.stA 0 fun w h => ?_
 have h : Sat σ w (l2.at b85 :: l.at b1 :: p2.at b :: L2) := h
 refine br_true rfl ?_
 refine ⟨_, h.ldA, ?_⟩
 refine ⟨_, h.ldA, ?_⟩
 refine ⟨_, h.ldA, ?_⟩
 refine ⟨_, h.ldA, ?_⟩
 refine ⟨_, h.ldA, ?_⟩
 refine h.stA 1 fun w h => ?_
 refine h.stA 1 fun w h => ?_
 refine h.stA 1 fun w h => ?_
 refine h.stA 1 fun w h => ?_
 refine h.stA 1 fun w h => ?_
 have h : Sat σ w (l2.at b85 :: l2.at b1 :: p2.at b :: L2) := h
 refine isBlank_ok h (.tail _ (.head _)) hl2 fun w h => ⟨_, rfl, ?_⟩
 rw [hb2]
 refine br_false rfl (nilP_some ?_)
 refine ⟨_, h.ldA, ?_⟩
 refine nilP_some ?_
 rw [i64_in _ (by omega)]
 refine Sat.st h (k := 2) rfl (by simp [PS.cells]) trivial rfl fun w h => ?_
 have h : Sat σ w (l2.at b85 :: l2.at b1 :: ({ p2 with depth := p2.depth + 1 } : PS).at b :: L2) := h
 exact hX w h.tail
end Go.Proofs.YtgbgadkldalkbaaGreatDoor


set_option linter.unusedVariables false
namespace Go.Proofs.YtgbgadkldalkbaaGreatDoor
open Go.Proofs Go.IntWalk Go.RowKit
variable {σ : Out} {w : World} {L L' : List Chunk} {R : Ending → World → Prop}
def Ln.bullet (l : Ln) : Option (UInt8 × Nat × Ln) :=
 if (l.strip 3 0).2.peek = 45 ∨ (l.strip 3 0).2.peek = 42 ∨ (l.strip 3 0).2.peek = 43 then
  match ((l.strip 3 0).2.trimC (l.strip 3 0).2.peek).bind (·.trimSp 1 1 true) with
  | none => none
  | some t2 => match (t2.strip 3 0).2.trimSp 1 1 true with
   | none => some ((l.strip 3 0).2.peek, (l.strip 3 0).1 + 2 + (t2.strip 3 0).1, (t2.strip 3 0).2)
   | some _ => some ((l.strip 3 0).2.peek, (l.strip 3 0).1 + 2, t2)
 else none
theorem Ln.bullet_ok {l t : Ln} {c : UInt8} {n : Nat} (hl : l.ok) (h : l.bullet = some (c, n, t)) : t.ok ∧ n ≤ 8 ∧ (c = 45 ∨ c = 42 ∨ c = 43) := by
 unfold Ln.bullet at h
 have h0 := Ln.strip_ok 3 0 hl
 split at h
 ·rename_i hc
  split at h
  ·cases h
  ·rename_i t2 h2
   obtain ⟨t1, e1, e2⟩ := Option.bind_eq_some_iff.1 h2
   have o2 := Ln.trimSp_ok (Ln.trimC_ok h0.1 e1) e2
   have h3 := Ln.strip_ok 3 0 o2
   split at h
   ·simp only [Option.some.injEq, Prod.mk.injEq] at h
    obtain ⟨rfl, rfl, rfl⟩ := h
    exact ⟨h3.1, by omega, hc⟩
   ·simp only [Option.some.injEq, Prod.mk.injEq] at h
    obtain ⟨rfl, rfl, rfl⟩ := h
    exact ⟨o2, by omega, hc⟩
 ·cases h
theorem slItem_k8 {b : Nat} {q : Option Addr} {l t : Ln} {c : UInt8} {n : Nat} (h : Sat σ w (l.at b :: L)) (hl : l.ok) (hb : l.bullet = some (c, n, t))
 (hK : ∀ w b0 b1 b2 (t' : Ln), Sat σ w (t.at b0 :: (b1, cel [.pointer q] ty_P_parseState) :: t'.at b2 :: l.at b :: L) → g_parseState_startListItem.k8 R b1 b0 (n : Nat) (c.toNat : Int) 0 w) :
 callE P i_parseState_startListItem #[.pointer q, .pointer (some ⟨b, 0, none⟩)] R w := by
 refine g_parseState_startListItem.sound ?_
 refine Sat.bx h fun b1 w h => ?_
 repeat (first | refine nilP_some ?_ | refine h.tk fun w h => ?_ | refine ⟨_, h.ldA, ?_⟩ | refine ⟨_, _, _, h.ldA, ?_⟩ | refine h.stA 0 fun w h => ?_ | refine h.stA 1 fun w h => ?_ | refine h.stA 2 fun w h => ?_ | refine h.stA 3 fun w h => ?_ | refine h.stA 4 fun w h => ?_ | refine h.stA 5 fun w h => ?_ | refine h.stA 6 fun w h => ?_ | refine h.bx fun b0 w h => ?_)
 have h : Sat σ _ (l.at b0 :: (b1, cel [.pointer q] ty_P_parseState) :: l.at b :: L) := h
 have k6 : ∀ (t2 t3 : Ln) (n0 m : Nat) b2 w, n0 ≤ 100 → m ≤ 100 → t2.ok → t3.ok → (match t3.trimSp 1 1 true with | none => some (c, n0 + m, t3) | some _ => some (c, n0, t2)) = some (c, n, t) →
  Sat σ w (t2.at b0 :: (b1, cel [.pointer q] ty_P_parseState) :: t3.at b2 :: l.at b :: L) → g_parseState_startListItem.k6 R b1 b0 (n0 : Nat) (c.toNat : Int) 0 b2 (m : Nat) w := by
  intro t2 t3 n0 m b2 w hn0 hm o2 o3 he h
  have h : Sat σ w (t3.at b2 :: t2.at b0 :: (b1, cel [.pointer q] ty_P_parseState) :: l.at b :: L) := h.re
  refine YtgbgadkldalkbaaGreatDoor.trimSp_ok (min := 1) (max := 1) h o3 (by decide) (by decide) ?_
  cases hs : t3.trimSp 1 1 true with
  | none =>
   rw [hs] at he
   simp only [Option.some.injEq, Prod.mk.injEq, true_and] at he
   obtain ⟨rfl, rfl⟩ := he
   intro w h
   refine ⟨_, rfl, br_true rfl ?_⟩
   refine ⟨_, h.ldA, ?_⟩
   refine ⟨_, h.ldA, ?_⟩
   refine ⟨_, h.ldA, ?_⟩
   refine ⟨_, h.ldA, ?_⟩
   refine ⟨_, h.ldA, ?_⟩
   refine h.stA 1 fun w h => ?_
   refine h.stA 1 fun w h => ?_
   refine h.stA 1 fun w h => ?_
   refine h.stA 1 fun w h => ?_
   refine h.stA 1 fun w h => ?_
   rw [show ((n0 : Nat) : Int) + ((m : Nat) : Int) = ((n0 + m : Nat) : Int) by omega, i64_in _ (by omega)]
   have h : Sat σ w (t3.at b2 :: t3.at b0 :: (b1, cel [.pointer q] ty_P_parseState) :: l.at b :: L) := h
   exact hK w b0 b1 b2 t3 (h.re)
  | some t4 =>
   rw [hs] at he
   simp only [Option.some.injEq, Prod.mk.injEq, true_and] at he
   obtain ⟨rfl, rfl⟩ := he
   intro w h
   refine ⟨_, rfl, br_false rfl ?_⟩
   exact hK w b0 b1 b2 t4 (h.re)
 have fin : ∀ (n0 : Nat) (t0 : Ln) w, t0.ok → n0 ≤ 3 → l.strip 3 0 = (n0, t0) → Sat σ w (t0.at b0 :: (b1, cel [.pointer q] ty_P_parseState) :: l.at b :: L) → g_parseState_startListItem.k1 R b1 b0 (n0 : Nat) w := by
  intro n0 t0 w o0 hn0 hst h
  unfold Ln.bullet at hb
  rw [hst] at hb
  simp only at hb
  split at hb
  case isFalse => cases hb
  rename_i hc
  refine peek_ok h (by first | assumption | (repeat (first | exact .head _ | apply List.Mem.tail))) o0 fun w h => ⟨_, rfl, ?_⟩
  split at hb
  case h_1 => cases hb
  rename_i t2 h2
  obtain ⟨t1, e1, e2⟩ := Option.bind_eq_some_iff.1 h2
  have ec : t0.peek = c := by
   split at hb <;> simp only [Option.some.injEq, Prod.mk.injEq] at hb <;> exact hb.1
  rw [ec] at hc e1 hb ⊢
  have o1 := Ln.trimC_ok o0 e1
  have o2 := Ln.trimSp_ok o1 e2
  have k2 : g_parseState_startListItem.k2 R b1 b0 (n0 : Nat) (c.toNat : Int) 0 (c.toNat : Int) true w := by
   refine br_true rfl ?_
   refine trimC_ok (c := c) rfl h o0 ?_
   rw [e1]
   intro w h
   refine ⟨_, rfl, ?_⟩
   unfold g_parseState_startListItem.k3
   refine YtgbgadkldalkbaaGreatDoor.trimSp_ok (min := 1) (max := 1) h o1 (by decide) (by decide) ?_
   rw [e2]
   intro w h
   refine ⟨_, rfl, br_false rfl ?_⟩
   refine ⟨_, h.ldA, ?_⟩
   refine ⟨_, h.ldA, ?_⟩
   refine ⟨_, h.ldA, ?_⟩
   refine ⟨_, h.ldA, ?_⟩
   refine ⟨_, h.ldA, ?_⟩
   refine Sat.bx h fun b2 w h => ?_
   refine h.stA 0 fun w h => ?_
   refine h.stA 0 fun w h => ?_
   refine h.stA 0 fun w h => ?_
   refine h.stA 0 fun w h => ?_
   refine h.stA 0 fun w h => ?_
   have h : Sat σ w (t2.at b2 :: t2.at b0 :: (b1, cel [.pointer q] ty_P_parseState) :: l.at b :: L) := h
   rw [i64_inc (by omega), i64_inc (by omega)]
   intro X hX
   have loop : ∀ k m (t3 : Ln) w, t3.ok → k + m = 3 → t3.strip k m = t2.strip 3 0 → Sat σ w (t3.at b2 :: t2.at b0 :: (b1, cel [.pointer q] ty_P_parseState) :: l.at b :: L) → X b1 b0 ((n0 + 1 + 1 : Nat) : Int) (c.toNat : Int) 0 b2 (m : Nat) (m : Nat) w := by
    intro k m t3 w o3 hk hs3 h
    induction k generalizing m t3 w with
    | zero =>
     have hs3 : (m, t3) = t2.strip 3 0 := hs3
     refine hX _ _ _ _ _ _ _ _ _ (br_false (by simp; omega) ?_)
     rw [← hs3] at hb
     exact k6 t2 t3 (n0 + 1 + 1) m b2 w (by omega) (by omega) o2 o3 hb (h.re)
    | succ k ih =>
     refine hX _ _ _ _ _ _ _ _ _ (br_true (by simp; omega) ?_)
     refine YtgbgadkldalkbaaGreatDoor.trimSp_ok (min := 1) (max := 1) h o3 (by decide) (by decide) ?_
     simp only [Ln.strip] at hs3
     cases hs : t3.trimSp 1 1 false with
     | none =>
      rw [hs] at hs3
      have hs3 : (m, t3) = t2.strip 3 0 := hs3
      rw [← hs3] at hb
      exact fun w h => ⟨_, rfl, br_false rfl (k6 t2 t3 (n0 + 1 + 1) m b2 w (by omega) (by omega) o2 o3 hb (h.re))⟩
     | some t' =>
      rw [hs] at hs3
      intro w h
      refine ⟨_, rfl, br_true rfl ?_⟩
      unfold g_parseState_startListItem.k5
      rw [i64_inc (by omega)]
      exact ih (m + 1) t' w (Ln.trimSp_ok o3 hs) (by omega) hs3 h
   exact loop 3 0 t2 w o2 rfl rfl h
  by_cases h45 : c = 45
  ·subst h45; exact br_true rfl k2
  refine br_false (beqf (d := 45) rfl h45) ?_
  by_cases h42 : c = 42
  ·subst h42; exact br_true rfl k2
  refine br_false (beqf (d := 42) rfl h42) ?_
  have h43 : c = 43 := by
   rcases hc with h | h | h
   ·exact absurd h h45
   ·exact absurd h h42
   ·exact h
  rw [show (((c.toNat : Nat) : Int) == 43) = true by rw [h43]; rfl]
  exact k2
 intro X hX
 have loop : ∀ k n (t : Ln) w, t.ok → k + n = 3 → t.strip k n = l.strip 3 0 → Sat σ w (t.at b0 :: (b1, cel [.pointer q] ty_P_parseState) :: l.at b :: L) → X b1 b0 n n w := by
  intro k n t w ht hk hp h
  induction k generalizing n t w with
  | zero => exact hX _ _ _ _ _ (br_false (by simp; omega) (fin n t w ht (by omega) hp.symm h))
  | succ k ih =>
   refine hX _ _ _ _ _ (br_true (by simp; omega) ?_)
   refine YtgbgadkldalkbaaGreatDoor.trimSp_ok (min := 1) (max := 1) h ht (by decide) (by decide) ?_
   simp only [Ln.strip] at hp
   cases hs : t.trimSp 1 1 false with
   | none =>
    rw [hs] at hp
    exact fun w h => ⟨_, rfl, br_true rfl (fin n t w ht (by omega) hp.symm h)⟩
   | some t' =>
    rw [hs] at hp
    intro w h
    refine ⟨_, rfl, br_false rfl ?_⟩
    rw [i64_inc (by omega)]
    exact ih (n + 1) t' w (Ln.trimSp_ok ht hs) (by omega) hp h
 exact loop 3 0 l _ hl rfl rfl h
structure Marks (l : Ln) (c : UInt8) (num n : Nat) (t : Ln) : Prop where
 ok : t.ok
 wd : n ≤ 100
 run : ∀ {σ : Out} {w : World} {L : List Chunk} {R : Ending → World → Prop} {b : Nat} {q : Option Addr}, Sat σ w (l.at b :: L) →
  (∀ w b0 b1 b2 (t' : Ln), Sat σ w (t.at b0 :: (b1, cel [.pointer q] ty_P_parseState) :: t'.at b2 :: l.at b :: L) → g_parseState_startListItem.k8 R b1 b0 (n : Nat) (c.toNat : Int) (num : Nat) w) →
  callE P i_parseState_startListItem #[.pointer q, .pointer (some ⟨b, 0, none⟩)] R w
theorem Ln.marks {l t : Ln} {c : UInt8} {n : Nat} (hl : l.ok) (hb : l.bullet = some (c, n, t)) : Marks l c 0 n t := by
 obtain ⟨ht, hn8, _⟩ := Ln.bullet_ok hl hb
 exact ⟨ht, by omega, fun h hK => slItem_k8 h hl hb hK⟩
def MarkC (x : UInt8) : Prop := isST x = false ∧ x ≠ 62 ∧ x ≠ 35
theorem markC_bul {c : UInt8} (hc : c = 45 ∨ c = 42 ∨ c = 43) : MarkC c := by rcases hc with rfl | rfl | rfl <;> exact ⟨by decide, by decide, by decide⟩
theorem i32_u8 (c : UInt8) : IntKind.i32.wrap ((c.toNat : Nat) : Int) = ((c.toNat : Nat) : Int) := by
 have := List.all_eq_true.1 (show (List.range 256).all (fun n => IntKind.i32.wrap (n : Int) == (n : Int)) = true by kernel_rfl) c.toNat (List.mem_range.2 c.toNat_lt)
 simpa using this
end Go.Proofs.YtgbgadkldalkbaaGreatDoor


set_option linter.unusedVariables false
namespace Go.Proofs.YtgbgadkldalkbaaGreatDoor
open Go.Proofs Go.IntWalk Go.RowKit
variable {σ : Out} {w : World} {L L' : List Chunk} {R : Ending → World → Prop}
def lisC (lb : Nat) (bul num : Int) (loose : Bool) (item : Option Addr) (todo : Value) : Chunk := (lb, cel [.int .i32 bul, .int .i64 num, .bool loose, .pointer item, todo] ty_listBuilder)
def lisV (lb : Nat) : Value := .iface ty_P_listBuilder (.pointer (some ⟨lb, 0, none⟩))
def iteC (ib lb n : Nat) (hv : Bool) : Chunk := (ib, cel [.pointer (some ⟨lb, 0, none⟩), .int .i64 n, .bool hv] ty_itemBuilder)
def iteV (ib : Nat) : Value := .iface ty_P_itemBuilder (.pointer (some ⟨ib, 0, none⟩))
def cloV (x2 x18 x15 x5 : Nat) : Value := .func (.func i_parseState_startListItem_1) #[] #[.pointer (some ⟨x2, 0, none⟩), .pointer (some ⟨x18, 0, none⟩), .pointer (some ⟨x15, 0, none⟩), .pointer (some ⟨x5, 0, none⟩)]
abbrev lptC (x lb : Nat) : Chunk := (x, cel [.pointer (some ⟨lb, 0, none⟩)] ty_P_listBuilder)
abbrev iptC (x ib : Nat) : Chunk := (x, cel [.pointer (some ⟨ib, 0, none⟩)] ty_P_itemBuilder)
theorem slItem_k13 {x2 x5 x15 lb n : Nat} {bul num : Int} {loose : Bool} {item : Option Addr} {td : Value} {t : Ln} (h : Sat σ w (lisC lb bul num loose item td :: t.at x5 :: lptC x15 lb :: L)) (ht : t.ok)
 (hR : ∀ w x18 ib, Sat σ w (lisC lb bul num loose item (cloV x2 x18 x15 x5) :: t.at x5 :: lptC x15 lb :: iptC x18 ib :: iteC ib lb n (!t.blank) :: L) → R (.returned (.bool true)) w) :
 g_parseState_startListItem.k13 R x2 x5 (n : Nat) x15 w := by
 have k14 : ∀ w x18 ib, Sat σ w (lisC lb bul num loose item td :: t.at x5 :: lptC x15 lb :: iptC x18 ib :: iteC ib lb n (!t.blank) :: L) → g_parseState_startListItem.k14 R x2 x5 x15 x18 w := by
  intro w x18 ib h
  refine ⟨_, Sat.ld h (.tail _ (.tail _ (.head _))) (i := 0) rfl, nilP_some ?_⟩
  refine h.stA 0 fun w h => ?_
  exact hR w x18 ib h
 have hm : lptC x15 lb ∈ (lisC lb bul num loose item td :: t.at x5 :: lptC x15 lb :: L) := .tail _ (.tail _ (.head _))
 refine Sat.tk h fun w h => ⟨some ⟨lb, 0, none⟩, Sat.ld h hm (i := 0) rfl, ?_, ?_⟩
 ·have h0 := h
  refine isBlank_ok h (.tail _ (.head _)) ht fun w h => ⟨_, rfl, h0.same h hm hm 1, ?_, ?_⟩
  ·refine Sat.bx h fun ib w h => ?_
   have h1 := h
   refine Sat.bx h fun x18 w h => ⟨h1.same h (.tail _ hm) (.tail _ (.tail _ hm)) 1, ?_⟩
   refine h.stA 0 fun w h => ?_
   have h : Sat σ w (iptC x18 ib :: iteC ib lb n (!t.blank) :: (lisC lb bul num loose item td :: t.at x5 :: lptC x15 lb :: L)) := h
   exact k14 w x18 ib (h.re)
  ·have h1 := h
   refine Sat.bx h fun x18 w h => ⟨h1.same h hm (.tail _ hm) 1, ?_⟩
   refine Sat.bx h fun ib w h => ?_
   have h : Sat σ w ((x18, cel [.pointer none] ty_P_itemBuilder) :: iteC ib lb n (!t.blank) :: (lisC lb bul num loose item td :: t.at x5 :: lptC x15 lb :: L)) := h.re (by intro _; simp only [iteC, List.append_eq, cnt_append, cnt_cons, cnt_nil] <;> omega)
   refine h.stA 0 fun w h => ?_
   have h : Sat σ w (iptC x18 ib :: iteC ib lb n (!t.blank) :: (lisC lb bul num loose item td :: t.at x5 :: lptC x15 lb :: L)) := h
   exact k14 w x18 ib (h.re)
 ·have h1 := h
  refine Sat.bx h fun x18 w h => ⟨h1.same h hm (.tail _ hm) 1, ?_⟩
  have h0 := h
  refine isBlank_ok h (.tail _ (.tail _ (.head _))) ht fun w h => ⟨_, rfl, h0.same h (.tail _ hm) (.tail _ hm) 1, ?_⟩
  refine Sat.bx h fun ib w h => ?_
  have h : Sat σ w ((x18, cel [.pointer none] ty_P_itemBuilder) :: iteC ib lb n (!t.blank) :: (lisC lb bul num loose item td :: t.at x5 :: lptC x15 lb :: L)) := h.re (by intro _; simp only [iteC, List.append_eq, cnt_append, cnt_cons, cnt_nil] <;> omega)
  refine h.stA 0 fun w h => ?_
  have h : Sat σ w (iptC x18 ib :: iteC ib lb n (!t.blank) :: (lisC lb bul num loose item td :: t.at x5 :: lptC x15 lb :: L)) := h
  exact k14 w x18 ib (h.re)
theorem und_PlB : P.underlying ty_P_listBuilder = some (.pointer ty_listBuilder) := by kernel_rfl
theorem und_PpB : P.underlying ty_P_paraBuilder = some (.pointer ty_paraBuilder) := by kernel_rfl
theorem ta_nil_list (w : World) : (Instr.typeAssert .nilIface ty_blockBuilder ty_P_listBuilder true).run P w = .ok (.tuple #[.pointer none, .bool false]) w := by
 have hi : P.info? ty_P_listBuilder = some ((P.info? ty_P_listBuilder).getD default) := by kernel_rfl
 have hz : ((P.info? ty_P_listBuilder).getD default).zero = some (.pointer none) := by kernel_rfl
 generalize (P.info? ty_P_listBuilder).getD default = i at hi hz
 simp [Instr.typeAssert, run_underlying und_PlB, zeroValue, typeInfo, hi, hz]
theorem ta_list_list (q : Option Addr) (w : World) : (Instr.typeAssert (.iface ty_P_listBuilder (.pointer q)) ty_blockBuilder ty_P_listBuilder true).run P w = .ok (.tuple #[.pointer q, .bool true]) w :=
 ta_yes (by rw [und_PlB]; intro ms h; cases h) und_PlB w
theorem slItem_new {b b1 : Nat} {p : PS} {ob : List OB} {o : OB} {M : List Chunk} {l t : Ln} {c : UInt8} {num n : Nat} {ty : TypeId} {v : Value} (h : Sat σ w (l.at b1 :: (p.at b :: M ++ L))) (hs : Stk p (ob ++ [o]) M) (hd : p.depth = ob.length) (hob : ob.length < 1048570)
 (ho : o.bd = .iface ty v) (hty : ty ≠ ty_P_paraBuilder) (hl : l.ok) (hb : Marks l c num n t)
 (hR : ∀ w p' M' lb x2 x5 x15 x18 ib, p' = { p with stq := p'.stq, stn := ob.length + 2, stc := p'.stc } → Stk p' (ob ++ [o] ++ [⟨lisV lb, none, 0, 0, p.lineno, p.lineno⟩]) M' →
  Sat σ w (l.at b1 :: (p'.at b :: M' ++ (lisC lb c.toNat (num : Nat) false none (cloV x2 x18 x15 x5) :: (x2, cel [.pointer (some ⟨b, 0, none⟩)] ty_P_parseState) :: t.at x5 :: lptC x15 lb :: iptC x18 ib :: iteC ib lb n (!t.blank) :: L))) → R (.returned (.bool true)) w) :
 callE P i_parseState_startListItem #[.pointer (some ⟨b, 0, none⟩), .pointer (some ⟨b1, 0, none⟩)] R w := by
 have ht := hb.ok
 refine hb.run h fun w x5 x2 x12 t' h => ?_
 refine Sat.bx h fun x15 w h => ?_
 refine ⟨_, Sat.ld h (.tail _ (.tail _ (.head _))) (i := 0) rfl, ?_⟩
 have h : Sat σ w (p.at b :: M ++ ((x15, cel [.pointer none] ty_P_listBuilder) :: (x2, cel [.pointer (some ⟨b, 0, none⟩)] ty_P_parseState) :: t.at x5 :: t'.at x12 :: l.at b1 :: L)) := h.re
 refine nextB_ok (d := ob.length) h hs hd (by omega) fun w h => ⟨_, rfl, ?_⟩
 rw [List.getElem?_eq_none (by simp)]
 refine ⟨none, false, w, ta_nil_list w, br_false rfl ?_⟩
 have h : Sat σ w ((x15, cel [.pointer none] ty_P_listBuilder) :: (x2, cel [.pointer (some ⟨b, 0, none⟩)] ty_P_parseState) :: t.at x5 :: (p.at b :: M ++ (t'.at x12 :: l.at b1 :: L))) := h.re
 refine ⟨_, Sat.ld h (.head _) (i := 0) rfl, _, _, ptrNil_eq und_PlB _ w, br_true rfl (br_true rfl ?_)⟩
 refine ⟨_, Sat.ld h (.head _) (i := 0) rfl, _, _, ptrNil_eq und_PlB _ w, br_true rfl ?_⟩
 refine ⟨_, Sat.ld h (.tail _ (.head _)) (i := 0) rfl, ?_⟩
 have h : Sat σ w (p.at b :: M ++ ((x15, cel [.pointer none] ty_P_listBuilder) :: (x2, cel [.pointer (some ⟨b, 0, none⟩)] ty_P_parseState) :: t.at x5 :: t'.at x12 :: l.at b1 :: L)) := h.re
 refine top_ok h hs ho (fun w h => ?_) (fun hh => absurd hh hty)
 rw [if_neg hty]
 refine ⟨none, rfl, _, w, neq_ptr_nil und_PpB none w, br_false rfl (br_false rfl ?_)⟩
 refine Sat.bx h fun lb w h => ?_
 have h : Sat σ w ((x15, cel [.pointer none] ty_P_listBuilder) :: (lb, cel [.int .i32 (IntKind.i32.wrap (c.toNat : Nat)), .int .i64 (num : Nat), .bool false, .pointer none, .nilFunc] ty_listBuilder) :: (x2, cel [.pointer (some ⟨b, 0, none⟩)] ty_P_parseState) :: t.at x5 :: (p.at b :: M ++ (t'.at x12 :: l.at b1 :: L))) := h.re
 refine h.stA 0 fun w h => ?_
 rw [i32_u8] at h
 have h : Sat σ w (lptC x15 lb :: lisC lb c.toNat (num : Nat) false none .nilFunc :: (x2, cel [.pointer (some ⟨b, 0, none⟩)] ty_P_parseState) :: t.at x5 :: (p.at b :: M ++ (t'.at x12 :: l.at b1 :: L))) := h
 refine ⟨_, Sat.ld h (.tail _ (.tail _ (.head _))) (i := 0) rfl, _, Sat.ld h (.head _) (i := 0) rfl, ?_⟩
 have h : Sat σ w (p.at b :: M ++ (lptC x15 lb :: lisC lb c.toNat (num : Nat) false none .nilFunc :: (x2, cel [.pointer (some ⟨b, 0, none⟩)] ty_P_parseState) :: t.at x5 :: (t'.at x12 :: l.at b1 :: L))) := h.re
 refine addBlock_ok h hs (by simp; omega) (by simp; omega) fun w p' M' hp' hs' h => ⟨rfl, ?_⟩
 have h : Sat σ w (lisC lb c.toNat (num : Nat) false none .nilFunc :: t.at x5 :: lptC x15 lb :: (p'.at b :: M' ++ ((x2, cel [.pointer (some ⟨b, 0, none⟩)] ty_P_parseState) :: (t'.at x12 :: l.at b1 :: L)))) := h.re
 refine slItem_k13 h ht fun w x18 ib h => ?_
 refine hR w p' M' lb x2 x5 x15 x18 ib (by rw [hp']; simp) hs' ?_
 exact h.less [t'.at x12]
end Go.Proofs.YtgbgadkldalkbaaGreatDoor


set_option linter.unusedVariables false
namespace Go.Proofs.YtgbgadkldalkbaaGreatDoor
open Go.Proofs Go.IntWalk Go.RowKit
variable {σ : Out} {w : World} {L L' : List Chunk} {R : Ending → World → Prop}
theorem newList_first {b : Nat} {p : PS} {ob : List OB} {o : OB} {M : List Chunk} {l t : Ln} {c : UInt8} {num n : Nat} {ty : TypeId} {v : Value} (h : Sat σ w (p.at b :: M ++ L)) (hs : Stk p (ob ++ [o]) M) (hd : p.depth = ob.length) (hob : ob.length < 1048570)
 (ho : o.bd = .iface ty v) (hty : ty ≠ ty_P_paraBuilder) (htl : ty ≠ ty_P_listBuilder) (hl : l.ok) (hb : Marks l c num n t)
 (hR : ∀ w p' M' lb x2 x5 x15 x18 ib, p' = { p with stq := p'.stq, stn := ob.length + 2, stc := p'.stc } → Stk p' (ob ++ [o] ++ [⟨lisV lb, none, 0, 0, p.lineno, p.lineno⟩]) M' →
  Sat σ w (p'.at b :: M' ++ (lisC lb c.toNat (num : Nat) false none (cloV x2 x18 x15 x5) :: (x2, cel [.pointer (some ⟨b, 0, none⟩)] ty_P_parseState) :: t.at x5 :: lptC x15 lb :: iptC x18 ib :: iteC ib lb n (!t.blank) :: L)) → R (.returned (.tuple #[l.val, .bool true])) w) :
 callE P i_newListItem #[.pointer (some ⟨b, 0, none⟩), l.val] R w := by
 refine g_newListItem.sound ?_
 refine Sat.bx h fun b1 w h => ?_
 refine Sat.bx h fun b3 w h => ?_
 have h : Sat σ w (zLn b3 :: l.at b1 :: (p.at b :: M ++ L)) := h
 have h : Sat σ w (p.at b :: M ++ (zLn b3 :: l.at b1 :: L)) := h.re
 refine curB_ok h hs hd fun w h => ?_
 rw [last_get]
 dsimp only
 refine ⟨_, rfl, none, false, w, by rw [ho]; exact ta_listBuilder_no htl w, br_false rfl (br_false rfl ?_)⟩
 have h : Sat σ w (l.at b1 :: (p.at b :: M ++ (zLn b3 :: L))) := h.re
 refine slItem_new h hs hd hob ho hty hl hb fun w p' M' lb x2 x5 x15 x18 ib hp' hs' h => ⟨_, rfl, br_true rfl ?_⟩
 have h : Sat σ w (zLn b3 :: l.at b1 :: (p'.at b :: M' ++ (lisC lb c.toNat (num : Nat) false none (cloV x2 x18 x15 x5) :: (x2, cel [.pointer (some ⟨b, 0, none⟩)] ty_P_parseState) :: t.at x5 :: lptC x15 lb :: iptC x18 ib :: iteC ib lb n (!t.blank) :: L))) := h.re
 repeat (first | refine nilP_some ?_ | refine h.tk fun w h => ?_ | refine ⟨_, h.ldA, ?_⟩ | refine ⟨_, _, _, h.ldA, ?_⟩ | refine h.stA 0 fun w h => ?_ | refine h.stA 1 fun w h => ?_ | refine h.stA 2 fun w h => ?_ | refine h.stA 3 fun w h => ?_ | refine h.stA 4 fun w h => ?_ | refine h.stA 5 fun w h => ?_ | refine h.stA 6 fun w h => ?_ | refine h.bx fun b0 w h => ?_)
 have h : Sat σ _ (l.at b3 :: l.at b1 :: (p'.at b :: M' ++ (lisC lb c.toNat (num : Nat) false none (cloV x2 x18 x15 x5) :: (x2, cel [.pointer (some ⟨b, 0, none⟩)] ty_P_parseState) :: t.at x5 :: lptC x15 lb :: iptC x18 ib :: iteC ib lb n (!t.blank) :: L))) := h
 exact hR _ p' M' lb x2 x5 x15 x18 ib hp' hs' h.tail.tail
theorem und_fline : isFuncB P ty_func_line = true := by kernel_rfl
theorem newList_todo {b lb x2 x5 x15 x18 ib n : Nat} {bul num : Int} {loose hv : Bool} {item : Option Addr} {p : PS} {ob : List OB} {o : OB} {M : List Chunk} {l t : Ln}
 (h : Sat σ w (p.at b :: M ++ (lisC lb bul num loose item (cloV x2 x18 x15 x5) :: (x2, cel [.pointer (some ⟨b, 0, none⟩)] ty_P_parseState) :: t.at x5 :: lptC x15 lb :: iptC x18 ib :: iteC ib lb n hv :: L)))
 (hs : Stk p (ob ++ [o]) M) (hd : p.depth = ob.length) (hob : ob.length < 1048570) (ho : o.bd = lisV lb)
 (hR : ∀ w p' M', p' = { p with stq := p'.stq, stn := ob.length + 2, stc := p'.stc } → Stk p' (ob ++ [o] ++ [⟨iteV ib, none, 0, 0, p.lineno, p.lineno⟩]) M' →
  Sat σ w (p'.at b :: M' ++ (lisC lb bul num loose (some ⟨ib, 0, none⟩) .nilFunc :: iteC ib lb n hv :: L)) → R (.returned (.tuple #[t.val, .bool true])) w) :
 callE P i_newListItem #[.pointer (some ⟨b, 0, none⟩), l.val] R w := by
 refine g_newListItem.sound ?_
 refine Sat.bx h fun b1 w h => ?_
 refine Sat.bx h fun b3 w h => ?_
 have h : Sat σ w (zLn b3 :: l.at b1 :: (p.at b :: M ++ (lisC lb bul num loose item (cloV x2 x18 x15 x5) :: (x2, cel [.pointer (some ⟨b, 0, none⟩)] ty_P_parseState) :: t.at x5 :: lptC x15 lb :: iptC x18 ib :: iteC ib lb n hv :: L))) := h
 have h : Sat σ w (p.at b :: M ++ (zLn b3 :: l.at b1 :: lisC lb bul num loose item (cloV x2 x18 x15 x5) :: (x2, cel [.pointer (some ⟨b, 0, none⟩)] ty_P_parseState) :: t.at x5 :: lptC x15 lb :: iptC x18 ib :: iteC ib lb n hv :: L)) := h.re
 refine curB_ok h hs hd fun w h => ?_
 rw [last_get]
 dsimp only
 have h : Sat σ w (lisC lb bul num loose item (cloV x2 x18 x15 x5) :: zLn b3 :: l.at b1 :: (p.at b :: M ++ ((x2, cel [.pointer (some ⟨b, 0, none⟩)] ty_P_parseState) :: t.at x5 :: lptC x15 lb :: iptC x18 ib :: iteC ib lb n hv :: L))) := h.re
 refine ⟨_, rfl, some ⟨lb, 0, none⟩, true, w, by rw [ho]; exact ta_list_list _ w, br_true rfl (nilP_some ?_)⟩
 obtain ⟨_, _, _, hfu⟩ := isFunc_out und_fline
 refine ⟨_, Sat.ld h (.head _) (i := 4) rfl, true, w, neq_func_nil hfu _ _ _ w, br_true rfl (nilP_some ?_)⟩
 refine ⟨_, Sat.ld h (.head _) (i := 4) rfl, ?_⟩
 refine enter_fn ?_
 refine g_parseState_startListItem_1.sound ?_
 refine Sat.bx h fun b5 w h => ?_
 have h : Sat σ w (p.at b :: M ++ (zLn b5 :: lisC lb bul num loose item (cloV x2 x18 x15 x5) :: zLn b3 :: l.at b1 :: (x2, cel [.pointer (some ⟨b, 0, none⟩)] ty_P_parseState) :: t.at x5 :: lptC x15 lb :: iptC x18 ib :: iteC ib lb n hv :: L)) := by
  have h : Sat σ w (zLn b5 :: lisC lb bul num loose item (cloV x2 x18 x15 x5) :: zLn b3 :: l.at b1 :: (p.at b :: M ++ ((x2, cel [.pointer (some ⟨b, 0, none⟩)] ty_P_parseState) :: t.at x5 :: lptC x15 lb :: iptC x18 ib :: iteC ib lb n hv :: L))) := h
  exact h.re
 have hm2 : (x2, cel [.pointer (some ⟨b, 0, none⟩)] ty_P_parseState) ∈ p.at b :: M ++ (zLn b5 :: lisC lb bul num loose item (cloV x2 x18 x15 x5) :: zLn b3 :: l.at b1 :: (x2, cel [.pointer (some ⟨b, 0, none⟩)] ty_P_parseState) :: t.at x5 :: lptC x15 lb :: iptC x18 ib :: iteC ib lb n hv :: L) := by simp
 have hm18 : iptC x18 ib ∈ p.at b :: M ++ (zLn b5 :: lisC lb bul num loose item (cloV x2 x18 x15 x5) :: zLn b3 :: l.at b1 :: (x2, cel [.pointer (some ⟨b, 0, none⟩)] ty_P_parseState) :: t.at x5 :: lptC x15 lb :: iptC x18 ib :: iteC ib lb n hv :: L) := by simp
 refine ⟨_, Sat.ld h hm2 (i := 0) rfl, _, Sat.ld h hm18 (i := 0) rfl, ?_⟩
 refine addBlock_ok h hs (by simp; omega) (by simp; omega) fun w p' M' hp' hs' h => ⟨rfl, ?_⟩
 have h : Sat σ w (lisC lb bul num loose item (cloV x2 x18 x15 x5) :: zLn b5 :: t.at x5 :: zLn b3 :: l.at b1 :: lptC x15 lb :: iptC x18 ib :: (p'.at b :: M' ++ ((x2, cel [.pointer (some ⟨b, 0, none⟩)] ty_P_parseState) :: iteC ib lb n hv :: L))) := h.re
 refine ⟨_, Sat.ld h (by simp : lptC x15 lb ∈ _) (i := 0) rfl, _, Sat.ld h (by simp : iptC x18 ib ∈ _) (i := 0) rfl, nilP_some ?_⟩
 refine h.stA 0 fun w h => ?_
 have h : Sat σ w (t.at x5 :: zLn b5 :: lisC lb bul num loose (some ⟨ib, 0, none⟩) (cloV x2 x18 x15 x5) :: zLn b3 :: l.at b1 :: lptC x15 lb :: iptC x18 ib :: (p'.at b :: M' ++ ((x2, cel [.pointer (some ⟨b, 0, none⟩)] ty_P_parseState) :: iteC ib lb n hv :: L))) := by
  have h : Sat σ w (lisC lb bul num loose (some ⟨ib, 0, none⟩) (cloV x2 x18 x15 x5) :: zLn b5 :: t.at x5 :: zLn b3 :: l.at b1 :: lptC x15 lb :: iptC x18 ib :: (p'.at b :: M' ++ ((x2, cel [.pointer (some ⟨b, 0, none⟩)] ty_P_parseState) :: iteC ib lb n hv :: L))) := h
  exact h.re
 refine ⟨_, h.ldA, ?_⟩
 refine ⟨_, h.ldA, ?_⟩
 refine ⟨_, h.ldA, ?_⟩
 refine ⟨_, h.ldA, ?_⟩
 refine ⟨_, h.ldA, ?_⟩
 refine h.stA 1 fun w h => ?_
 refine h.stA 1 fun w h => ?_
 refine h.stA 1 fun w h => ?_
 refine h.stA 1 fun w h => ?_
 refine h.stA 1 fun w h => ?_
 have h : Sat σ w (t.at x5 :: t.at b5 :: lisC lb bul num loose (some ⟨ib, 0, none⟩) (cloV x2 x18 x15 x5) :: zLn b3 :: l.at b1 :: lptC x15 lb :: iptC x18 ib :: (p'.at b :: M' ++ ((x2, cel [.pointer (some ⟨b, 0, none⟩)] ty_P_parseState) :: iteC ib lb n hv :: L))) := h
 have h : Sat σ w (t.at b5 :: l.at b1 :: lisC lb bul num loose (some ⟨ib, 0, none⟩) (cloV x2 x18 x15 x5) :: zLn b3 :: t.at x5 :: lptC x15 lb :: iptC x18 ib :: (p'.at b :: M' ++ ((x2, cel [.pointer (some ⟨b, 0, none⟩)] ty_P_parseState) :: iteC ib lb n hv :: L))) := h.re
 refine ⟨_, h.ldA, ?_⟩
 refine ⟨_, h.ldA, ?_⟩
 refine ⟨_, h.ldA, ?_⟩
 refine ⟨_, h.ldA, ?_⟩
 refine ⟨_, h.ldA, ?_⟩
 refine ⟨_, _, _, _, _, rfl, ?_⟩
 refine h.stA 1 fun w h => ?_
 refine h.stA 1 fun w h => ?_
 refine h.stA 1 fun w h => ?_
 refine h.stA 1 fun w h => ?_
 refine h.stA 1 fun w h => ?_
 have h : Sat σ w (t.at b5 :: t.at b1 :: lisC lb bul num loose (some ⟨ib, 0, none⟩) (cloV x2 x18 x15 x5) :: zLn b3 :: t.at x5 :: lptC x15 lb :: iptC x18 ib :: (p'.at b :: M' ++ ((x2, cel [.pointer (some ⟨b, 0, none⟩)] ty_P_parseState) :: iteC ib lb n hv :: L))) := h
 refine nilP_some ?_
 refine Sat.st h (k := 2) rfl (by simp [lisC]) trivial rfl fun w h => ?_
 have h : Sat σ w (t.at b1 :: zLn b3 :: lisC lb bul num loose (some ⟨ib, 0, none⟩) .nilFunc :: t.at b5 :: t.at x5 :: lptC x15 lb :: iptC x18 ib :: (p'.at b :: M' ++ ((x2, cel [.pointer (some ⟨b, 0, none⟩)] ty_P_parseState) :: iteC ib lb n hv :: L))) := by
  have h : Sat σ w (t.at b5 :: t.at b1 :: lisC lb bul num loose (some ⟨ib, 0, none⟩) .nilFunc :: zLn b3 :: t.at x5 :: lptC x15 lb :: iptC x18 ib :: (p'.at b :: M' ++ ((x2, cel [.pointer (some ⟨b, 0, none⟩)] ty_P_parseState) :: iteC ib lb n hv :: L))) := h
  exact h.re
 refine ⟨_, h.ldA, ?_⟩
 refine ⟨_, h.ldA, ?_⟩
 refine ⟨_, h.ldA, ?_⟩
 refine ⟨_, h.ldA, ?_⟩
 refine ⟨_, h.ldA, ?_⟩
 refine h.stA 1 fun w h => ?_
 refine h.stA 1 fun w h => ?_
 refine h.stA 1 fun w h => ?_
 refine h.stA 1 fun w h => ?_
 refine h.stA 1 fun w h => ?_
 have h : Sat σ w (t.at b1 :: t.at b3 :: lisC lb bul num loose (some ⟨ib, 0, none⟩) .nilFunc :: t.at b5 :: t.at x5 :: lptC x15 lb :: iptC x18 ib :: (p'.at b :: M' ++ ((x2, cel [.pointer (some ⟨b, 0, none⟩)] ty_P_parseState) :: iteC ib lb n hv :: L))) := h
 have h : Sat σ w (t.at b3 :: t.at b1 :: lisC lb bul num loose (some ⟨ib, 0, none⟩) .nilFunc :: t.at b5 :: t.at x5 :: lptC x15 lb :: iptC x18 ib :: (p'.at b :: M' ++ ((x2, cel [.pointer (some ⟨b, 0, none⟩)] ty_P_parseState) :: iteC ib lb n hv :: L))) := h.re
 refine ⟨_, h.ldA, ?_⟩
 refine ⟨_, h.ldA, ?_⟩
 refine ⟨_, h.ldA, ?_⟩
 refine ⟨_, h.ldA, ?_⟩
 refine ⟨_, h.ldA, ?_⟩
 refine hR _ p' M' (by rw [hp']; simp) hs' ?_
 exact h.less [t.at b3, t.at b1, t.at b5, t.at x5, lptC x15 lb, iptC x18 ib, (x2, cel [.pointer (some ⟨b, 0, none⟩)] ty_P_parseState)]
end Go.Proofs.YtgbgadkldalkbaaGreatDoor


set_option linter.unusedVariables false
namespace Go.Proofs.YtgbgadkldalkbaaGreatDoor
open Go.Proofs Go.IntWalk Go.RowKit
variable {σ : Out} {w : World} {L L' : List Chunk} {R : Ending → World → Prop}
theorem Sl.loadMem {q : Option Addr} {n c j : Nat} {e : TypeId} {vs : List Value} {RM : List Chunk} {v : Value} {K : Addr → Prop} (hS : Sl 1 e q n c vs RM) (h : Sat σ w L) (hM : ∀ x ∈ RM, x ∈ L) (hj : vs[j]? = some v)
 (hK : ∀ b, q = some ⟨b, 0, none⟩ → w.cell? ⟨b, j, none⟩ = some v → K ⟨b, 0, none⟩) : nilP q K := by
 obtain ⟨hl, _, ⟨rfl, rfl, _, _⟩ | ⟨rb, sp, rfl, rfl, _⟩⟩ := hS
 ·have := (List.getElem?_eq_some_iff.1 hj).1; omega
 ·refine nilP_some (hK rb rfl (h.ld (hM _ (.head _)) ?_))
  rw [List.getElem?_append_left (List.getElem?_eq_some_iff.1 hj).1]; exact hj
theorem closeB_k3 {b : Nat} {p1 : PS} {ob : List OB} {par o : OB} {M IM L1 : List Chunk} {inner : List Value} {tb : TypeId} {q : Option Addr} (h : Sat σ w (p1.at b :: M ++ (IM ++ L1))) (hs : Stk p1 (ob ++ [par] ++ [o]) M) (hI : Sl 1 ty_Block par.q par.n par.c inner IM) (hin : par.n < 1000000)
 (hR : ∀ w p2 M2 IM2 q' c', p2 = { p1 with stn := ob.length + 1 } → Stk p2 (ob ++ [{ par with q := q', n := par.n + 1, c := c' }]) M2 → Sl 1 ty_Block q' (par.n + 1) c' (inner ++ [.iface tb (.pointer q)]) IM2 →
  Sat σ w (p2.at b :: M2 ++ (IM2 ++ L1)) → R (.returned (.iface tb (.pointer q))) w) : g_parseState_closeBlock.k3 R (some ⟨b, 0, none⟩) (.iface tb (.pointer q)) w := by
 have hlt := hs.2.2
 have hn1 := hs.2.1
 have hcap := hs.1.2.1
 obtain ⟨sb, sp, hq1, rfl, hsp⟩ := hs.split (by simp)
 simp only [List.length_append, List.length_singleton] at hn1 hlt
 rw [hn1] at hcap
 unfold g_parseState_closeBlock.k3
 refine h.tk fun w h => ?_
 refine nilP_some (nilP_some ?_)
 refine ⟨_, _, _, h.ldA, ?_⟩
 refine ⟨_, _, _, h.ldA, ?_⟩
 rw [hn1, len_dec (by omega), hq1]
 refine ⟨_, _, _, fun w => sliceTo rowOB.ht rowOB.hi sb (ob.length + 1 + 1) p1.stc (ob.length + 1) (by omega) hcap w, ?_⟩
 refine nilP_some ?_
 refine h.stA 0 fun w h => ?_
 let p2 : PS := { p1 with stq := some ⟨sb, 0, none⟩, stn := ob.length + 1 }
 have hp2 : p2 = { p1 with stn := ob.length + 1 } := by simp only [p2, ← hq1]
 have h : Sat σ w (p2.at b :: [(sb, cel (obCells (ob ++ [par]) ++ (o.cells ++ sp)) ty_openBlock)] ++ (IM ++ L1)) := by
  rw [obCells_snoc, List.append_assoc] at h
  exact h
 refine nilP_some ?_
 refine ⟨_, _, _, h.ldA, ?_⟩
 refine br_true (by simp [p2]) ?_
 refine h.tk fun w h => ?_
 refine nilP_some (nilP_some ?_)
 refine ⟨_, _, _, h.ldA, ?_⟩
 refine ⟨_, _, _, h.ldA, ?_⟩
 rw [show p2.stn = ob.length + 1 from rfl, len_dec (by omega), show p2.stq = some ⟨sb, 0, none⟩ from rfl]
 refine ⟨by omega, by omega, nilP_some ?_⟩
 simp only [Addr.add_lit, Nat.zero_add, Int.toNat_natCast, Nat.add_zero]
 refine ⟨_, _, _, Sat.ld h (.tail _ (.head _)) (stk_get (f := 1) (by decide) (last_get par)), ?_⟩
 have h : Sat σ _ (IM ++ (p2.at b :: (sb, cel (obCells (ob ++ [par]) ++ (o.cells ++ sp)) ty_openBlock) :: L1)) := h.re
 refine Sat.app1 rowBlock hI h (v := .iface tb (.pointer q)) rfl (by simp [Value.cells, Value.oneCell']) (by kernel_rfl) (by omega) (by omega) (by decide) fun q' c' w IM2 hI' h => ?_
 have h : Sat σ _ (p2.at b :: (sb, cel (obCells (ob ++ [par]) ++ (o.cells ++ sp)) ty_openBlock) :: (IM2 ++ L1)) := h.re
 refine Sat.st h (k := 1) rfl (by rw [List.length_append, obCells_length, List.length_append, List.length_singleton]; omega) trivial rfl fun w h => ?_
 have e := stk_set (l := ob) (sp := o.cells ++ sp) (o := par) (o' := { par with q := q', n := par.n + 1, c := c' }) (f := 1) (v := .slice q' (par.n + 1) c') (by decide) rfl
 have h : Sat σ w (p2.at b :: (sb, cel (obCells (ob ++ [{ par with q := q', n := par.n + 1, c := c' }]) ++ (o.cells ++ sp)) ty_openBlock) :: (IM2 ++ L1)) := by
  rw [← e]; exact h
 have hs2 : Stk p2 (ob ++ [{ par with q := q', n := par.n + 1, c := c' }]) [(sb, cel (obCells (ob ++ [{ par with q := q', n := par.n + 1, c := c' }]) ++ (o.cells ++ sp)) ty_openBlock)] := by
  refine Stk.mk' rfl ?_ (by simp [p2]) (by simp; omega)
  show _ = p1.stc * 4
  rw [← hsp]
  simp only [List.length_append, obCells_length, List.length_singleton, OB.cells, List.length_cons, List.length_nil]
  omega
 refine hR w p2 _ IM2 q' c' hp2 hs2 hI' h
theorem closeB_build {b : Nat} {p : PS} {ob : List OB} {o : OB} {M : List Chunk} {t : TypeId} {v : Value} (h : Sat σ w (p.at b :: M ++ L)) (hs : Stk p (ob ++ [o]) M) (ho : o.bd = .iface t v)
 (hb : ∀ w, Sat σ w (p.at b :: M ++ L) → enterE P (callMethod o.bd "pub-paratext/pub/rscmarkdown.build" #[.iface ty_P_parseState (.pointer (some ⟨b, 0, none⟩))]) (fun e w15 => ∃ (r14 : Value), e = .returned r14 ∧
  ∃ (r16_0 : Option Addr), ∃ (r16_1 : Bool), ∃ w17, (Instr.typeAssert r14 ty_Block ty_P_List true).run P w15 = .ok (.tuple #[.pointer r16_0, .bool r16_1]) w17 ∧
  br r16_1 (nilP (some ⟨b, 0, none⟩) fun a18 => ∃ (v19 : Bool), w17.cell? (a18.add 6) = some (.bool v19) ∧ br v19
   (nilP (some ⟨b, 0, none⟩) fun a20 => stV w17 ((a20.add 6).add 0) (.bool true) fun w21 => g_parseState_closeBlock.k2 R (some ⟨b, 0, none⟩) r14 r16_0 w21)
   (callE P i_listCorner #[.pointer r16_0] (fun e w23 => ∃ (r22 : Bool), e = .returned (.bool r22) ∧ nilP (some ⟨b, 0, none⟩) fun a24 => stV w23 ((a24.add 6).add 0) (.bool r22) fun w25 => g_parseState_closeBlock.k2 R (some ⟨b, 0, none⟩) r14 r16_0 w25) w17))
   (g_parseState_closeBlock.k3 R (some ⟨b, 0, none⟩) r14 w17)) w) : callE P i_parseState_closeBlock #[.pointer (some ⟨b, 0, none⟩)] R w := by
 have hlt := hs.2.2
 have hn := hs.2.1
 obtain ⟨sb, sp, hq, rfl, hsp⟩ := hs.split (by simp)
 simp only [List.length_append, List.length_singleton] at hn hlt
 refine g_parseState_closeBlock.sound ?_
 refine h.tk fun w h => ?_
 refine nilP_some (nilP_some ?_)
 refine ⟨_, _, _, h.ldA, ?_⟩
 refine ⟨_, _, _, h.ldA, ?_⟩
 rw [hn, len_dec (by omega)]
 refine ⟨by omega, by omega, ?_⟩
 rw [hq]
 refine nilP_some ?_
 simp only [Addr.add_lit, Nat.zero_add, Int.toNat_natCast]
 refine ⟨o.bd, Sat.ld h (.tail _ (.head _)) (stk_get (f := 0) (by decide) (last_get o)), false, w, by rw [ho]; exact eq_iface_nil und_bb _ _ w, br_false rfl ?_⟩
 refine nilP_some ?_
 refine ⟨o.bd, Sat.ld h (.tail _ (.head _)) (stk_get (f := 0) (by decide) (last_get o)), ?_⟩
 exact hb _ h
structure IT where
 nb : Nat
 s : Nat
 e : Nat
 q : Option Addr
 n : Nat
 c : Nat
 wd : Nat
 IM : List Chunk
 D : List DB
def IT.chunk (i : IT) : Chunk := (i.nb, cel [.int .i64 i.s, .int .i64 i.e, .slice i.q i.n i.c, .int .i64 i.wd] ty_Item)
def IT.v (i : IT) : Value := .iface ty_P_Item (.pointer (some ⟨i.nb, 0, none⟩))
def IT.db (i : IT) : DB := ⟨i.v, i.chunk :: (i.IM ++ ownC i.D), txsC i.D⟩
structure IT.ok (i : IT) : Prop where
 sl : Sl 1 ty_Block i.q i.n i.c (i.D.map DB.v) i.IM
 len : i.D.length < 1000000
 se : i.s < 1000000000 ∧ i.e < 1000000000
theorem IT.n_eq {i : IT} (h : i.ok) : i.n = i.D.length := by have := h.sl.1; simp at this; omega
theorem IT.posIs (i : IT) : i.db.posIs i.s i.e := posIs_of pos_Item rfl (.head _)
def DB.ifc (d : DB) : Prop := ∃ ty q, d.v = .iface ty (.pointer q)
def lstC (nb s e : Nat) (bul num : Int) (loose : Bool) (q : Option Addr) (n c : Nat) : Chunk := (nb, cel [.int .i64 s, .int .i64 e, .int .i32 bul, .int .i64 num, .bool loose, .slice q n c] ty_List)
theorem ta_any {t e xt : TypeId} {q : Option Addr} {ty : TypeId} {i : TypeInfo} (hu : P.underlying t = some (.pointer e)) (hi : P.info? t = some i) (hz : i.zero = some (.pointer none)) (w : World) :
 ∃ r k, (Instr.typeAssert (.iface ty (.pointer q)) xt t true).run P w = .ok (.tuple #[.pointer r, .bool k]) w := by
 by_cases ht : ty = t
 ·subst ht
  exact ⟨q, true, ta_yes (by rw [hu]; intro ms h; cases h) hu w⟩
 ·exact ⟨none, false, ta_no (by rw [hu]; intro ms h; cases h) hu ht hi hz w⟩
theorem und_PList : P.underlying ty_P_List = some (.pointer ty_List) := by kernel_rfl
theorem und_PTB : P.underlying ty_P_ThematicBreak = some (.pointer ty_ThematicBreak) := by kernel_rfl
theorem und_PCB : P.underlying ty_P_CodeBlock = some (.pointer ty_CodeBlock) := by kernel_rfl
theorem und_PItem : P.underlying ty_P_Item = some (.pointer ty_Item) := by kernel_rfl
theorem ta_item (q : Option Addr) (w : World) : (Instr.typeAssert (.iface ty_P_Item (.pointer q)) ty_Block ty_P_Item false).run P w = .ok (.pointer q) w := by
 simp [Instr.typeAssert, run_underlying und_PItem]
theorem IT.own_mem {items : List IT} {i : IT} (hi : i ∈ items) : ∀ x ∈ i.db.own, x ∈ ownC (items.map IT.db) := by
 intro x hx
 exact List.mem_flatMap.2 ⟨i.db, List.mem_map_of_mem hi, hx⟩
theorem listCorner_ok {nb s e : Nat} {bul num : Int} {loose : Bool} {q : Option Addr} {n c : Nat} {items : List IT} {IM : List Chunk} (hS : Sl 1 ty_Block q n c (items.map IT.v) IM) (hok : ∀ i ∈ items, i.ok ∧ ∀ d ∈ i.D, d.ifc) (hn : items.length < 1000000)
 (h : Sat σ w L) (hL : ∀ x ∈ lstC nb s e bul num loose q n c :: (IM ++ ownC (items.map IT.db)), x ∈ L) (hR : ∀ k, R (.returned (.bool k)) w) : callE P i_listCorner #[.pointer (some ⟨nb, 0, none⟩)] R w := by
 have hnl : n = items.length := by have := hS.1; simp at this; omega
 refine g_listCorner.sound ?_
 refine nilP_some ⟨_, _, _, Sat.ld h (hL _ (.head _)) (i := 5) rfl, ?_⟩
 intro X hX
 have key : ∀ k j : Nat, j + k = items.length → X q n c (n : Int) (j : Int) w := by
  intro k
  induction k with
  | zero =>
   intro j hj
   exact hX _ _ _ _ _ _ (br_false (by simp; omega) (hR false))
  | succ k ih =>
   intro j hj
   have hjl : j < items.length := by omega
   have him := List.getElem_mem hjl
   generalize hgi : items[j] = i at him
   obtain ⟨hio, hid⟩ := hok i him
   have hmo : ∀ x ∈ i.db.own, x ∈ L := fun x hx => hL x (.tail _ (List.mem_append_right _ (IT.own_mem him x hx)))
   have hmc : i.chunk ∈ L := hmo _ (.head _)
   have hmI : ∀ x ∈ i.IM, x ∈ L := fun x hx => hmo x (.tail _ (List.mem_append_left _ hx))
   refine hX _ _ _ _ _ _ (br_true (by simp; omega) ⟨by omega, by omega, ?_⟩)
   refine hS.loadMem h (fun x hx => hL x (.tail _ (List.mem_append_left _ hx))) (j := j) (v := i.v) (by simp [hjl, hgi]) fun qb hq hc => ?_
   simp only [Addr.add_lit, Int.toNat_natCast, Nat.mul_one, Nat.zero_add]
   refine ⟨_, hc, some ⟨i.nb, 0, none⟩, w, ta_item _ w, nilP_some ?_⟩
   refine ⟨_, _, _, Sat.ld h hmc (i := 2) rfl, ?_⟩
   rw [IT.n_eq hio]
   refine br_split (fun _ => hR true) fun hne => nilP_some ?_
   have hpos : 0 < i.D.length := by have : i.D.length ≠ 0 := by simpa using hne
                                    omega
   obtain ⟨ty, dq, hdv⟩ := hid i.D[0] (List.getElem_mem hpos)
   refine ⟨_, _, _, Sat.ld h hmc (i := 2) rfl, by decide, by rw [IT.n_eq hio]; omega, ?_⟩
   refine hio.sl.loadMem h hmI (j := 0) (v := i.D[0].v) (by simp [hpos]) fun qb2 hq2 hc2 => ?_
   simp only [Addr.add_lit, Int.toNat_natCast, Nat.mul_one, Nat.zero_add]
   rw [hdv] at hc2
   obtain ⟨r1, k1, e1⟩ := ta_any (xt := ty_Block) (q := dq) (ty := ty) und_PList (i := (P.info? ty_P_List).getD default) (by kernel_rfl) (by kernel_rfl) w
   obtain ⟨r2, k2, e2⟩ := ta_any (xt := ty_Block) (q := dq) (ty := ty) und_PTB (i := (P.info? ty_P_ThematicBreak).getD default) (by kernel_rfl) (by kernel_rfl) w
   obtain ⟨r3, k3, e3⟩ := ta_any (xt := ty_Block) (q := dq) (ty := ty) und_PCB (i := (P.info? ty_P_CodeBlock).getD default) (by kernel_rfl) (by kernel_rfl) w
   refine ⟨_, hc2, r1, k1, w, e1, r2, k2, w, e2, r3, k3, w, e3, ?_⟩
   refine br_split (fun _ => hR true) fun _ => ?_
   rw [i64_inc (by omega)]
   exact ih (j + 1) (by omega)
 exact key items.length 0 (by omega)
end Go.Proofs.YtgbgadkldalkbaaGreatDoor

