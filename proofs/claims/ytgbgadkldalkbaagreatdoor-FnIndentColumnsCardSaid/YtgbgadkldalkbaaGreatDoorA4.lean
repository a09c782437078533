/- Part 4 of the proof of the law FnIndentColumns: for every input the law returns true, the inputs read as they did, and memory that was there is as it was; under the conditions of the given row alone. -/
import Derived.Laws.Slices
import Derived.Lib.UnsafeStr
import Derived.Lib.BufferWrite
import Derived.Lib.BufferRead
import Derived.Laws.IdiomStrings
import Derived.Laws.MakeOwn
import Derived.Shelf.Bytes.GrowSlice
import Derived.Laws.Externs
import Derived.Lib.Bytealg
import Derived.Lib.MakeNoZero
import Derived.Lib.Builder
import Derived.Test.YtgbgadkldalkbaaGreatDoorA3
set_option linter.all false
set_option linter.unusedVariables false
namespace Go.Proofs.YtgbgadkldalkbaaGreatDoor
open Go.Proofs Go.IntWalk
variable {σ : Out} {w : World} {L L' : List Chunk} {R : Ending → World → Prop}

def findSub (sub l : List UInt8) : Nat → Nat → Option Nat
  | 0, _ => none
  | k + 1, i => if i + sub.length ≤ l.length then (if (l.drop i).take sub.length = sub then some i else findSub sub l k (i + 1)) else none
def idx (l sub : List UInt8) : Option Nat := findSub sub l (l.length + 1) 0
def idxInt (l sub : List UInt8) : Int := match idx l sub with
  | some i => (i : Int)
  | none => -1
theorem zzIndex_ok {l sub : List UInt8} (hl : l.length < 4611686018427387904) (hs : sub.length < 4611686018427387904) (hR : R (.returned (.int .i64 (idxInt l sub))) w) : callE P i_zzIndex #[.string (bs l), .string (bs sub)] R w := by
  refine g_zzIndex.sound ?_
  intro X hX
  have loop : ∀ (k i : Nat), l.length < k + i → i ≤ l.length + 1 → (match findSub sub l k i with | some i => (i : Int) | none => -1) = idxInt l sub → X (bs l) (bs sub) i w := by
    intro k
    induction k with
    | zero =>
      intro i hk hi he
      have hw : IntKind.i64.wrap ((i : Int) + (sub.length : Int)) = ((i + sub.length : Nat) : Int) := by rw [i64_in _ (by omega)]; omega
      refine hX _ _ _ _ (br_false (by rw [bs_size, bs_size, hw]; simp; omega) ?_)
      rw [← he] at hR
      exact hR
    | succ k ih =>
      intro i hk hi he
      have hw : IntKind.i64.wrap ((i : Int) + (sub.length : Int)) = ((i + sub.length : Nat) : Int) := by rw [i64_in _ (by omega)]; omega
      simp only [findSub] at he
      by_cases h1 : i + sub.length ≤ l.length
      · rw [if_pos h1] at he
        refine hX _ _ _ _ (br_true (by rw [bs_size, bs_size, hw]; simp; omega) ?_)
        rw [bs_size, bs_size, hw]
        refine ⟨by omega, by omega, by omega, ?_⟩
        rw [Int.toNat_natCast, Int.toNat_natCast, bs_extract, bs_toList, bs_toList]
        have ht : (l.take (i + sub.length)).drop i = (l.drop i).take sub.length := by rw [List.drop_take]; congr 1; omega
        rw [ht]
        by_cases h2 : (l.drop i).take sub.length = sub
        · rw [if_pos h2] at he
          rw [← he] at hR
          exact br_true (by simpa using h2) hR
        · rw [if_neg h2] at he
          refine br_false (by simpa using h2) ?_
          rw [i64_inc (by omega)]
          exact ih (i + 1) (by omega) (by omega) he
      · rw [if_neg h1] at he
        refine hX _ _ _ _ (br_false (by rw [bs_size, bs_size, hw]; simp; omega) ?_)
        rw [← he] at hR
        exact hR
  exact loop (l.length + 1) 0 (by omega) (by omega) rfl
theorem zzContains_ok {l sub : List UInt8} (hl : l.length < 4611686018427387904) (hs : sub.length < 4611686018427387904) (hR : R (.returned (.bool (idx l sub).isSome)) w) : callE P i_zzContains #[.string (bs l), .string (bs sub)] R w := by
  refine g_zzContains.sound ?_
  refine zzIndex_ok hl hs ⟨_, rfl, ?_⟩
  have : decide (idxInt l sub ≥ 0) = (idx l sub).isSome := by
    unfold idxInt
    cases idx l sub with
    | none => rfl
    | some i => simp
  rw [this]
  exact hR
theorem findSub_none {c : UInt8} {l : List UInt8} (hc : c ∉ l) : ∀ k i, findSub [c] l k i = none
  | 0, i => rfl
  | k + 1, i => by
    simp only [findSub]
    split
    · rename_i h
      simp only [List.length_singleton] at h
      rw [if_neg]
      · exact findSub_none hc k (i + 1)
      · intro he
        have hm : c ∈ (l.drop i).take 1 := by
          have he' : (l.drop i).take 1 = [c] := he
          rw [he']; exact List.mem_singleton.2 rfl
        exact hc (List.mem_of_mem_drop (List.mem_of_mem_take hm))
    · rfl
theorem idx_none {c : UInt8} {l : List UInt8} (hc : c ∉ l) : idx l [c] = none := findSub_none hc _ _
end Go.Proofs.YtgbgadkldalkbaaGreatDoor


set_option linter.unusedVariables false
namespace Go.Proofs.YtgbgadkldalkbaaGreatDoor
open Go.Proofs Go.IntWalk
variable {σ : Out} {w : World} {L L' : List Chunk} {R : Ending → World → Prop}

def methB (P : Program) (t : TypeId) (name : String) (f : FuncId) : Bool :=
  match P.info? t, P.underlying t with
  | some i, some (.pointer _) => match i.methods.find? (·.name == name) with
    | some m => m.path.isEmpty && (match m.func with | some (g, true) => Nat.beq g f | _ => false)
    | none => false
  | _, _ => false
theorem methB_run {P : Program} {t : TypeId} {name : String} {f : FuncId} (h : methB P t name f = true) (q : Option Addr) (fuel : Nat) (w : World) :
    (Go.method (fuel + 1) t (.pointer q) name).run P w = .ok (f, .pointer q) w := by
  unfold methB at h
  split at h
  · rename_i i e hi hu
    split at h
    · rename_i m hm
      simp only [Bool.and_eq_true] at h
      obtain ⟨hp, h⟩ := h
      split at h
      · rename_i g hf
        have hg := Nat.eq_of_beq_eq_true h
        subst hg
        have hp' : m.path = #[] := by simpa using hp
        simp [Go.method, typeInfo, hi, hm, hp', Go.follow, hf, Go.receiverAt, run_underlying hu, Go.Place.get]
      · cases h
    · cases h
  · cases h
theorem depth_succ (P : Program) : ∃ n, P.types.size + Made.depth = n + 1 := by
  have h : 0 < Made.depth := by decide
  exact ⟨P.types.size + (Made.depth - 1), by omega⟩
theorem enter_meth {t : TypeId} {name : String} {f : FuncId} {q : Option Addr} {args : Array Value} (hm : methB P t name f = true) (h : callE P f (#[.pointer q] ++ args) R w) :
    enterE P (callMethod (.iface t (.pointer q)) name args) R w := by
  obtain ⟨n, hn⟩ := depth_succ P
  have hr := methB_run hm q n w
  have e : (callMethod (.iface t (.pointer q)) name args).run P w = (callFunc f (#[.pointer q] ++ args)).run P w := by
    simp only [callMethod, Sem.run_bind, run_program, Result.andThen_ok, hn, hr]
  unfold enterE
  rw [e]
  exact h.imp (fun h => ⟨f, _, w, h.1 _ _, h.2⟩) id
theorem Sat.same {σ' : Out} {w w' : World} {L L' : List Chunk} (h : Sat σ w L) (h' : Sat σ' w' L') {b i : Nat} {o : Obj} (hm : (b, o) ∈ L) (hm' : (b, o) ∈ L') (n : Nat) : SameC w w' ⟨b, i, none⟩ n := by
  intro k _
  rw [Addr.add_lit]
  unfold World.cell?
  rw [h.at_ _ hm, h'.at_ _ hm']
theorem meth_pos : methB P ty_P_parseState "pub-paratext/pub/rscmarkdown.pos" i_parseState_pos = true := by kernel_rfl
theorem meth_blocks : methB P ty_P_parseState "pub-paratext/pub/rscmarkdown.blocks" i_parseState_blocks = true := by kernel_rfl
theorem meth_newText : methB P ty_P_parseState "pub-paratext/pub/rscmarkdown.newText" i_parseState_newText = true := by kernel_rfl
theorem meth_paraBuild : methB P ty_P_paraBuilder "pub-paratext/pub/rscmarkdown.build" i_paraBuilder_build = true := by kernel_rfl
theorem meth_rootBuild : methB P ty_P_rootBuilder "pub-paratext/pub/rscmarkdown.build" i_rootBuilder_build = true := by kernel_rfl
end Go.Proofs.YtgbgadkldalkbaaGreatDoor


set_option linter.unusedVariables false
namespace Go.Proofs.YtgbgadkldalkbaaGreatDoor
open Go.Proofs Go.IntWalk
variable {σ : Out} {w : World} {L L' : List Chunk} {R : Ending → World → Prop}

def isSTN (c : UInt8) : Bool := c == 32 || c == 9 || c == 10
def pastSTN (l : List UInt8) (i : Nat) : Nat := l.length - ((l.drop i).dropWhile isSTN).length
theorem skipSp_ok {l : List UInt8} {i : Nat} (hl : l.length < 4611686018427387904) (hi : i ≤ l.length) (hR : R (.returned (.int .i64 (pastSTN l i))) w) : callE P i_skipSpace #[.string (bs l), .int .i64 i] R w := by
  refine g_skipSpace.sound ?_
  intro X hX
  refine scanF (l := l) (X := fun i => X (bs l) (i : Int) w) (p := isSTN) (fun i hi hp hx => hX _ _ _ ?_) i hi (fun j hj hf he => hX _ _ _ ?_)
  · refine ⟨fun _ => ⟨by omega, by simp; omega⟩, fun _ => ⟨by omega, by simp; omega⟩, fun _ => ⟨by omega, by simp; omega⟩, br_true ?_ ?_⟩
    · rw [bt_beq hi 32 32 rfl, bt_beq hi 9 9 rfl, bt_beq hi 10 10 rfl]
      simpa [hi, isSTN] using hp
    · rw [i64_inc (by omega)]; exact hx
  · have hlt : ∀ {b : Bool}, (decide ((j : Int) < ((bs l).size : Int)) && b) = true → j < l.length := by
      intro b h
      simp only [Bool.and_eq_true, decide_eq_true_eq, bs_size] at h
      omega
    refine ⟨fun h => ⟨by omega, by simpa using h⟩, fun h => ⟨by omega, by have := hlt h; simp; omega⟩, fun h => ⟨by omega, by have := hlt h; simp; omega⟩, br_false ?_ ?_⟩
    · by_cases hi' : j < l.length
      · rw [bt_beq hi' 32 32 rfl, bt_beq hi' 9 9 rfl, bt_beq hi' 10 10 rfl]
        simpa [hi', isSTN] using hf hi'
      · simp [hi']
    · have : pastSTN l i = j := by
        rw [pastSTN, ← he, List.length_drop]; omega
      rw [← this]; exact hR

theorem ta_yes1 {t xt : TypeId} {v : Value} (hu : ∀ ms, P.underlying t ≠ some (.interface ms)) {d : TypeDesc} (hd : P.underlying t = some d) (w : World) :
    (Instr.typeAssert (.iface t v) xt t false).run P w = .ok v w := by
  cases d <;> first | (exact absurd hd (hu _)) | simp [Instr.typeAssert, run_underlying hd]
theorem und_ps : P.underlying ty_P_parseState = some (.pointer ty_parseState) := by kernel_rfl
theorem ta_ps (q : Option Addr) (w : World) : (Instr.typeAssert (.iface ty_P_parseState (.pointer q)) ty_buildState ty_P_parseState false).run P w = .ok (.pointer q) w :=
  ta_yes1 (by rw [und_ps]; intro ms h; cases h) und_ps w

theorem parseLinkRefDef_no {q : Option Addr} {l : List UInt8} (hl : l.length < 4611686018427387904) (hb : (l.dropWhile isSTN).head? ≠ some 91) (hR : R (.returned (.tuple #[.int .i64 0, .bool false])) w) :
    callE P i_parseLinkRefDef #[.iface ty_P_parseState (.pointer q), .string (bs l)] R w := by
  refine g_parseLinkRefDef.sound ?_
  refine skipSp_ok (i := 0) hl (Nat.zero_le _) ⟨_, rfl, q, w, ta_ps q w, ?_⟩
  generalize hj : pastSTN l 0 = j
  have hle : (l.dropWhile isSTN).length ≤ l.length := (List.dropWhile_sublist isSTN).length_le
  have hjd : j + (l.dropWhile isSTN).length = l.length := by rw [← hj, pastSTN, List.drop_zero]; omega
  have hsuf : l.drop j = l.dropWhile isSTN := by
    obtain ⟨pre, hp⟩ := List.dropWhile_suffix isSTN (l := l)
    have hpl : pre.length = j := by have := congrArg List.length hp; simp at this; omega
    exact (congrArg (List.drop j) hp).symm.trans (by rw [← hpl, List.drop_left])
  refine g_parseLinkLabel.sound ?_
  have hlt : (!(decide ((j : Int) ≥ ((bs l).size : Int)))) = true → j < l.length := by
    intro h; simp at h; exact h
  refine ⟨fun h => ⟨by omega, by have := hlt h; simp; omega⟩, br_true ?_ ⟨_, _, _, rfl, ?_⟩⟩
  · by_cases hjl : j < l.length
    · have : l[j] ≠ 91 := by
        intro h91
        apply hb
        rw [← hsuf, List.drop_eq_getElem_cons hjl, h91]
        rfl
      rw [bne, bt_beq hjl 91 91 rfl]
      simp [this]
    · simp; omega
  · refine ⟨fun h => by simp at h, br_true rfl hR⟩

def NoRef (l : List UInt8) : Prop := ∀ (R : Ending → World → Prop) (w : World) (q : Option Addr), R (.returned (.tuple #[.int .i64 0, .bool false])) w → callE P i_parseLinkRefDef #[.iface ty_P_parseState (.pointer q), .string (bs l)] R w
theorem noRef_of {l : List UInt8} (hl : l.length < 4611686018427387904) (hb : (l.dropWhile isSTN).head? ≠ some 91) : NoRef l := fun _ _ _ hR => parseLinkRefDef_no hl hb hR
theorem join_one {q : Option Addr} {c : Nat} {s sep : List UInt8} {TM : List Chunk} (h : Sat σ w (TM ++ L)) (hS : Sl 1 ty_string q 1 c [.string (bs s)] TM)
    (hR : ∀ w, Sat σ w (TM ++ L) → R (.returned (.string (bs s))) w) : callE P i_strings_Join #[.slice q 1 c, .string (bs sep)] R w := by
  refine g_strings_Join.sound ?_
  obtain ⟨_, _, hz | ⟨tb, sp, rfl, rfl, _⟩⟩ := hS
  · omega
  · refine br_false rfl (br_true rfl ⟨by decide, by decide, nilP_some ?_⟩)
    exact ⟨_, Sat.ld h (.head _) rfl, hR _ h⟩
end Go.Proofs.YtgbgadkldalkbaaGreatDoor


set_option linter.unusedVariables false
namespace Go.Proofs.YtgbgadkldalkbaaGreatDoor
open Go.Proofs Go.IntWalk
variable {σ : Out} {w : World} {L L' : List Chunk} {R : Ending → World → Prop}

theorem pos_ok {b : Nat} {p : PS} {l : List OB} {o : OB} {M : List Chunk} (h : Sat σ w (p.at b :: M ++ L)) (hs : Stk p (l ++ [o]) M)
    (hR : ∀ w, Sat σ w (p.at b :: M ++ L) → R (.returned (.agg #[.int .i64 o.s, .int .i64 o.e])) w) : callE P i_parseState_pos #[.pointer (some ⟨b, 0, none⟩)] R w := by
  obtain ⟨sb, sp, hq, rfl, hsp⟩ := hs.split (by simp)
  have hn := hs.2.1
  have hlt := hs.2.2
  rw [List.length_append, List.length_singleton] at hn hlt
  refine g_parseState_pos.sound ?_
  refine Sat.bx h fun b1 w h => ?_
  repeat (first | refine nilP_some ?_ | refine h.tk fun w h => ?_ | refine ⟨_, h.ldA, ?_⟩ | refine ⟨_, _, _, h.ldA, ?_⟩)
  rw [hn, len_dec (by omega)]
  refine ⟨by omega, by omega, ?_⟩
  rw [hq]
  refine nilP_some ?_
  simp only [Addr.add_lit, Nat.zero_add, Int.toNat_natCast, Nat.add_zero]
  refine ⟨_, Sat.ld h (by first | assumption | (repeat (first | exact .head _ | apply List.Mem.tail))) (stk_get (f := 2) (by decide) (last_get o)), ?_⟩
  refine ⟨_, Sat.ld h (by first | assumption | (repeat (first | exact .head _ | apply List.Mem.tail))) (stk_get (f := 3) (by decide) (last_get o)), ?_⟩
  repeat (first | refine nilP_some ?_ | refine h.tk fun w h => ?_ | refine ⟨_, h.ldA, ?_⟩ | refine ⟨_, _, _, h.ldA, ?_⟩ | refine h.stA 0 fun w h => ?_ | refine h.stA 1 fun w h => ?_ | refine h.stA 2 fun w h => ?_ | refine h.stA 3 fun w h => ?_ | refine h.stA 4 fun w h => ?_ | refine h.stA 5 fun w h => ?_ | refine h.stA 6 fun w h => ?_ | refine h.bx fun b0 w h => ?_)
  exact hR _ h.tail

noncomputable def rowText : Row P ty_S_P_Text ty_P_Text 1 8 :=
  ⟨(P.info? ty_P_Text).getD default, ((P.info? ty_P_Text).bind (·.zero)).getD default, by kernel_rfl, by kernel_rfl, by kernel_rfl, by kernel_rfl, by kernel_rfl, by kernel_rfl, by decide⟩
def Txts (p : PS) (ts : List Nat) (M : List Chunk) : Prop := Sl 1 ty_P_Text p.tq p.tn p.tc (ts.map fun t => .pointer (some ⟨t, 0, none⟩)) M ∧ p.tn = ts.length ∧ ts.length < 1048576
def textC (t : Nat) (s e : Nat) (q : Option Addr) (n c : Nat) (raw : List UInt8) : Chunk := (t, cel [.int .i64 s, .int .i64 e, .slice q n c, .string (bs raw)] ty_Text)
theorem newText_ok {b s e : Nat} {p : PS} {ts : List Nat} {TM : List Chunk} {raw : List UInt8} (h : Sat σ w (p.at b :: TM ++ L)) (ht : Txts p ts TM) (hlen : ts.length < 1048575)
    (hR : ∀ w p' TM' t, p' = { p with tq := p'.tq, tn := ts.length + 1, tc := p'.tc } → Txts p' (ts ++ [t]) TM' → Sat σ w (p'.at b :: TM' ++ (textC t s e none 0 0 raw :: L)) →
      R (.returned (.pointer (some ⟨t, 0, none⟩))) w) :
    callE P i_parseState_newText #[.pointer (some ⟨b, 0, none⟩), .agg #[.int .i64 s, .int .i64 e], .string (bs raw)] R w := by
  have hn := ht.2.1
  refine g_parseState_newText.sound ?_
  refine Sat.bx h fun b1 w h => ?_
  repeat (first | refine nilP_some ?_ | refine h.tk fun w h => ?_ | refine ⟨_, h.ldA, ?_⟩ | refine ⟨_, _, _, h.ldA, ?_⟩)
  refine Sat.bx h fun t w h => ?_
  repeat (first | refine nilP_some ?_ | refine h.tk fun w h => ?_ | refine ⟨_, h.ldA, ?_⟩ | refine ⟨_, _, _, h.ldA, ?_⟩)
  have h : Sat σ w (textC t s e none 0 0 raw :: (b1, cel [.int .i64 s, .int .i64 e] ty_Position) :: (p.at b :: TM ++ L)) := h
  have h : Sat σ w (TM ++ (p.at b :: textC t s e none 0 0 raw :: L)) := h.less [(b1, cel [.int .i64 s, .int .i64 e] ty_Position)] (by intro _; simp only [List.append_eq, cnt_append, cnt_cons, cnt_nil] <;> omega)
  refine Sat.app1 rowText ht.1 h (v := .pointer (some ⟨t, 0, none⟩)) rfl (by simp [Value.cells, Value.oneCell']) (by kernel_rfl) (by omega) (by omega) (by decide) fun q' c' w TM' hS' h => ?_
  have h : Sat σ w (p.at b :: TM' ++ (textC t s e none 0 0 raw :: L)) := h.re (by intro _; simp only [List.append_eq, cnt_append, cnt_cons, cnt_nil] <;> omega)
  rw [hn] at hS' ⊢
  let p' : PS := { p with tq := q', tn := ts.length + 1, tc := c' }
  repeat (first | refine nilP_some ?_ | refine h.tk fun w h => ?_ | refine ⟨_, h.ldA, ?_⟩ | refine ⟨_, _, _, h.ldA, ?_⟩ | refine h.stA 0 fun w h => ?_ | refine h.stA 1 fun w h => ?_ | refine h.stA 2 fun w h => ?_ | refine h.stA 3 fun w h => ?_ | refine h.stA 4 fun w h => ?_ | refine h.stA 5 fun w h => ?_ | refine h.stA 6 fun w h => ?_ | refine h.bx fun b0 w h => ?_)
  refine hR _ p' TM' t rfl ⟨?_, by simp [p'], by simp; omega⟩ h
  rw [List.map_append]
  exact hS'
end Go.Proofs.YtgbgadkldalkbaaGreatDoor


set_option linter.unusedVariables false
namespace Go.Proofs.YtgbgadkldalkbaaGreatDoor
open Go.Proofs Go.IntWalk
variable {σ : Out} {w : World} {L L' : List Chunk} {R : Ending → World → Prop}

theorem und_table : P.underlying ty_P_tableBuilder = some (.pointer ty_tableBuilder) := by kernel_rfl
def paraC (nb s e t : Nat) : Chunk := (nb, cel [.int .i64 s, .int .i64 e, .pointer (some ⟨t, 0, none⟩)] ty_Paragraph)
theorem Stk.of {p p' : PS} {l : List OB} {M : List Chunk} (h : Stk p l M) (h1 : p'.stq = p.stq) (h2 : p'.stn = p.stn) (h3 : p'.stc = p.stc) : Stk p' l M := by
  unfold Stk at *; rw [h1, h2, h3]; exact h
theorem Txts.of {p p' : PS} {l : List Nat} {M : List Chunk} (h : Txts p l M) (h1 : p'.tq = p.tq) (h2 : p'.tn = p.tn) (h3 : p'.tc = p.tc) : Txts p' l M := by
  unfold Txts at *; rw [h1, h2, h3]; exact h
end Go.Proofs.YtgbgadkldalkbaaGreatDoor


set_option linter.unusedVariables false
namespace Go.Proofs.YtgbgadkldalkbaaGreatDoor
open Go.Proofs Go.IntWalk
variable {σ : Out} {w : World} {L L' : List Chunk} {R : Ending → World → Prop}

theorem equalIn_iface_nil {t u : TypeId} {v : Value} {ms : Array (String × TypeId)} (hu : P.underlying t = some (.interface ms)) (d : Nat) (w : World) :
    (Op.equalIn (d + 1) t (.iface u v) .nilIface).run P w = .ok false w := by
  simp [Op.equalIn, run_underlying hu]
theorem eq_iface_nil {t u : TypeId} {v : Value} {ms : Array (String × TypeId)} (hu : P.underlying t = some (.interface ms)) (x y : Operand) (w : World) :
    (do eqGuard .eql t x y (.iface u v) .nilIface; binOp .eql t (.iface u v) .nilIface).run P w = .ok (.bool false) w :=
  bin_eq rfl rfl (equalIn_iface_nil hu 9999 w)
theorem ta_list_no {t : TypeId} {v : Value} (ht : t ≠ ty_P_List) (w : World) :
    (Instr.typeAssert (.iface t v) ty_Block ty_P_List true).run P w = .ok (.tuple #[.pointer none, .bool false]) w := by
  have hund : P.underlying ty_P_List = some (.pointer ty_List) := by kernel_rfl
  exact ta_no (by rw [hund]; intro ms h; cases h) hund ht (i := (P.info? ty_P_List).getD default) (by kernel_rfl) (by kernel_rfl) w
theorem sliceTo {P : Program} {t e : TypeId} {i : TypeInfo} (ht : P.underlying t = some (.slice e)) (hi : P.info? e = some i) (b n c m : Nat) (hm : m ≤ n) (hc : n ≤ c) (w : World) :
    (Instr.sliceAt t (.slice (some ⟨b, 0, none⟩) n c) none (some (.int .i64 m)) none).run P w = .ok (.slice (some ⟨b, 0, none⟩) m c) w := by
  have h1 : ¬ ((m : Int) < 0) := by omega
  have h2 : ¬ ((c : Int) < (m : Int)) := by omega
  simp [Instr.sliceAt, Instr.slice, Instr.sliceBounds, run_underlying ht, sizeOf, typeInfo, hi, run_sliceBound w .i64 (m : Int) c .sliceAcap (by omega) (by omega), Addr.add_lit]
end Go.Proofs.YtgbgadkldalkbaaGreatDoor


set_option linter.unusedVariables false
namespace Go.Proofs.YtgbgadkldalkbaaGreatDoor
open Go.Proofs Go.IntWalk
variable {σ : Out} {w : World} {L L' : List Chunk} {R : Ending → World → Prop}

noncomputable def rowBlock : Row P ty_S_Block ty_Block 1 16 :=
  ⟨(P.info? ty_Block).getD default, ((P.info? ty_Block).bind (·.zero)).getD default, by kernel_rfl, by kernel_rfl, by kernel_rfl, by kernel_rfl, by kernel_rfl, by kernel_rfl, by decide⟩
theorem closeBlock_ok {b : Nat} {p : PS} {ob : List OB} {par o : OB} {M IM : List Chunk} {inner : List Value} {t : TypeId} {v : Value} (Post : PS → List Chunk → TypeId → Option Addr → Prop)
    (h : Sat σ w (p.at b :: M ++ (IM ++ L))) (hs : Stk p (ob ++ [par] ++ [o]) M) (ho : o.bd = .iface t v) (hI : Sl 1 ty_Block par.q par.n par.c inner IM) (hin : par.n < 1000000)
    (hb : ∀ (R' : Ending → World → Prop) w, Sat σ w (p.at b :: M ++ (IM ++ L)) →
      (∀ w p1 L1 tb q, p1.stq = p.stq → p1.stn = p.stn → p1.stc = p.stc → tb ≠ ty_P_List → Post p1 L1 tb q → Sat σ w (p1.at b :: M ++ (IM ++ L1)) → R' (.returned (.iface tb (.pointer q))) w) →
      enterE P (callMethod o.bd "pub-paratext/pub/rscmarkdown.build" #[.iface ty_P_parseState (.pointer (some ⟨b, 0, none⟩))]) R' w)
    (hR : ∀ w p2 M2 IM2 p1 L1 tb q q' c', Post p1 L1 tb q → p2 = { p1 with stn := ob.length + 1 } → Stk p2 (ob ++ [{ par with q := q', n := par.n + 1, c := c' }]) M2 →
      Sl 1 ty_Block q' (par.n + 1) c' (inner ++ [.iface tb (.pointer q)]) IM2 → Sat σ w (p2.at b :: M2 ++ (IM2 ++ L1)) → R (.returned (.iface tb (.pointer q))) w) :
    callE P i_parseState_closeBlock #[.pointer (some ⟨b, 0, none⟩)] R w := by
  have hlt := hs.2.2
  have hn := hs.2.1
  obtain ⟨sb, sp, hq, rfl, hsp⟩ := hs.split (by simp)
  simp only [List.length_append, List.length_singleton] at hn hlt
  refine g_parseState_closeBlock.sound ?_
  refine h.tk fun w h => ?_
  refine nilP_some (nilP_some ?_)
  refine ⟨_, _, _, h.ldA, ?_⟩
  refine ⟨_, _, _, h.ldA, ?_⟩
  rw [hn, len_dec (by omega)]
  refine ⟨by omega, by omega, ?_⟩
  rw [hq]
  refine nilP_some ?_
  simp only [Addr.add_lit, Nat.zero_add, Int.toNat_natCast]
  have hg : ((ob ++ [par]) ++ [o])[ob.length + 1]? = some o := by simp
  refine ⟨o.bd, Sat.ld h (.tail _ (.head _)) (stk_get (f := 0) (by decide) hg), false, w, by rw [ho]; exact eq_iface_nil und_bb _ _ w, br_false rfl ?_⟩
  refine nilP_some ?_
  refine ⟨o.bd, Sat.ld h (.tail _ (.head _)) (stk_get (f := 0) (by decide) hg), ?_⟩
  refine hb _ w h fun w p1 L1 tb q h1 h2 h3 htb hpost h => ⟨_, rfl, none, false, w, ta_list_no htb w, br_false rfl ?_⟩
  have hq1 : p1.stq = some ⟨sb, 0, none⟩ := by rw [h1, hq]
  have hn1 : p1.stn = ob.length + 1 + 1 := by rw [h2, hn]
  refine h.tk fun w h => ?_
  refine nilP_some (nilP_some ?_)
  refine ⟨_, _, _, h.ldA, ?_⟩
  refine ⟨_, _, _, h.ldA, ?_⟩
  rw [hn1, len_dec (by omega), hq1]
  have hcap : ob.length + 1 + 1 ≤ p1.stc := by have := hs.1.2.1; rw [hn] at this; rw [h3]; exact this
  refine ⟨_, _, _, fun w => sliceTo rowOB.ht rowOB.hi sb (ob.length + 1 + 1) p1.stc (ob.length + 1) (by omega) hcap w, ?_⟩
  refine nilP_some ?_
  refine h.stA 0 fun w h => ?_
  let p2 : PS := { p1 with stq := some ⟨sb, 0, none⟩, stn := ob.length + 1 }
  have hp2 : p2 = { p1 with stn := ob.length + 1 } := by simp only [p2, ← hq1]
  have h : Sat σ w (p2.at b :: [(sb, cel (obCells (ob ++ [par]) ++ (o.cells ++ sp)) ty_openBlock)] ++ (IM ++ L1)) := by
    rw [obCells_snoc, List.append_assoc] at h
    exact h
  refine nilP_some ?_
  refine ⟨_, _, _, h.ldA, ?_⟩
  refine br_true (by simp [p2]) ?_
  refine h.tk fun w h => ?_
  refine nilP_some (nilP_some ?_)
  refine ⟨_, _, _, h.ldA, ?_⟩
  refine ⟨_, _, _, h.ldA, ?_⟩
  rw [show p2.stn = ob.length + 1 from rfl, len_dec (by omega), show p2.stq = some ⟨sb, 0, none⟩ from rfl]
  refine ⟨by omega, by omega, nilP_some ?_⟩
  simp only [Addr.add_lit, Nat.zero_add, Int.toNat_natCast, Nat.add_zero]
  refine ⟨_, _, _, Sat.ld h (.tail _ (.head _)) (stk_get (f := 1) (by decide) (last_get par)), ?_⟩
  have h : Sat σ _ (IM ++ (p2.at b :: (sb, cel (obCells (ob ++ [par]) ++ (o.cells ++ sp)) ty_openBlock) :: L1)) := h.re (by intro _; simp only [List.append_eq, cnt_append, cnt_cons, cnt_nil] <;> omega)
  refine Sat.app1 rowBlock hI h (v := .iface tb (.pointer q)) rfl (by simp [Value.cells, Value.oneCell']) (by kernel_rfl) (by omega) (by omega) (by decide) fun q' c' w IM2 hI' h => ?_
  have h : Sat σ _ (p2.at b :: (sb, cel (obCells (ob ++ [par]) ++ (o.cells ++ sp)) ty_openBlock) :: (IM2 ++ L1)) := h.re (by intro _; simp only [List.append_eq, cnt_append, cnt_cons, cnt_nil] <;> omega)
  refine Sat.st h (k := 1) rfl (by rw [List.length_append, obCells_length, List.length_append, List.length_singleton]; omega) trivial rfl fun w h => ?_
  have e := stk_set (l := ob) (sp := o.cells ++ sp) (o := par) (o' := { par with q := q', n := par.n + 1, c := c' }) (f := 1) (v := .slice q' (par.n + 1) c') (by decide) rfl
  have h : Sat σ w (p2.at b :: (sb, cel (obCells (ob ++ [{ par with q := q', n := par.n + 1, c := c' }]) ++ (o.cells ++ sp)) ty_openBlock) :: (IM2 ++ L1)) := by
    rw [← e]; exact h
  have hs2 : Stk p2 (ob ++ [{ par with q := q', n := par.n + 1, c := c' }]) [(sb, cel (obCells (ob ++ [{ par with q := q', n := par.n + 1, c := c' }]) ++ (o.cells ++ sp)) ty_openBlock)] := by
    refine Stk.mk' rfl ?_ (by simp [p2]) (by simp; omega)
    show _ = p1.stc * 4
    rw [h3, ← hsp]
    simp only [List.length_append, obCells_length, List.length_singleton, OB.cells, List.length_cons, List.length_nil]
    omega
  refine hR w p2 _ IM2 p1 L1 tb q q' c' hpost hp2 hs2 hI' h
end Go.Proofs.YtgbgadkldalkbaaGreatDoor


set_option linter.unusedVariables false
namespace Go.Proofs.YtgbgadkldalkbaaGreatDoor
open Go.Proofs Go.IntWalk
variable {σ : Out} {w : World} {L L' : List Chunk} {R : Ending → World → Prop}

def docC (db s e : Nat) (q : Option Addr) (n c : Nat) (links : Option Nat) : Chunk := (db, cel [.int .i64 s, .int .i64 e, .slice q n c, .map links] ty_Document)
theorem rootBuild_ok {b : Nat} {rq : Option Addr} {p : PS} {ob : List OB} {o : OB} {M : List Chunk} (h : Sat σ w (p.at b :: M ++ L)) (hs : Stk p (ob ++ [o]) M)
    (hR : ∀ w db, Sat σ w (p.at b :: M ++ (docC db o.s o.e o.q o.n o.c p.links :: L)) → R (.returned (.iface ty_P_Document (.pointer (some ⟨db, 0, none⟩)))) w) :
    callE P i_rootBuilder_build #[.pointer rq, .iface ty_P_parseState (.pointer (some ⟨b, 0, none⟩))] R w := by
  refine g_rootBuilder_build.sound ?_
  refine h.tk fun w h => ?_
  refine ⟨_, ta_ps _, nilP_some ?_⟩
  refine ⟨_, h.ldA, ?_⟩
  have h0 := h
  refine enter_meth meth_pos ?_
  refine pos_ok h hs fun w h => ⟨_, _, rfl, h0.same h (.head _) (.head _) 1, ?_⟩
  have h1 := h
  refine enter_meth meth_blocks ?_
  refine blocks_ok h hs fun w h => ⟨_, _, _, rfl, h1.same h (.head _) (.head _) 1, ?_⟩
  refine Sat.bx h fun db w h => ?_
  have h : Sat σ w (docC db o.s o.e o.q o.n o.c p.links :: (p.at b :: M ++ L)) := h
  exact hR w db (h.re (by intro _; simp only [List.append_eq, cnt_append, cnt_cons, cnt_nil] <;> omega))
theorem ta_doc (q : Option Addr) (w : World) : (Instr.typeAssert (.iface ty_P_Document (.pointer q)) ty_Block ty_P_Document false).run P w = .ok (.pointer q) w := by
  have hund : P.underlying ty_P_Document = some (.pointer ty_Document) := by kernel_rfl
  exact ta_yes1 (by rw [hund]; intro ms h; cases h) hund w
theorem closeRoot_ok {b rb : Nat} {p : PS} {o : OB} {M : List Chunk} (h : Sat σ w (p.at b :: M ++ L)) (hs : Stk p [o] M) (ho : o.bd = .iface ty_P_rootBuilder (.pointer (some ⟨rb, 0, none⟩)))
    (hR : ∀ w db, Sat σ w ({ p with stn := 0, root := some ⟨db, 0, none⟩ }.at b :: M ++ (docC db o.s o.e o.q o.n o.c p.links :: L)) → R (.returned (.iface ty_P_Document (.pointer (some ⟨db, 0, none⟩)))) w) :
    callE P i_parseState_closeBlock #[.pointer (some ⟨b, 0, none⟩)] R w := by
  have hn := hs.2.1
  have hs' : Stk p ([] ++ [o]) M := hs
  obtain ⟨sb, sp, hq, rfl, hsp⟩ := hs.split (by simp)
  simp only [List.length_singleton] at hn
  refine g_parseState_closeBlock.sound ?_
  refine h.tk fun w h => ?_
  refine nilP_some (nilP_some ?_)
  refine ⟨_, _, _, h.ldA, ?_⟩
  refine ⟨_, _, _, h.ldA, ?_⟩
  rw [hn, show IntKind.i64.wrap (((1 : Nat) : Int) - 1) = ((0 : Nat) : Int) from rfl]
  refine ⟨by omega, by omega, ?_⟩
  rw [hq]
  refine nilP_some ?_
  simp only [Addr.add_lit, Nat.zero_add, Int.toNat_natCast, Nat.zero_mul]
  have hg : (([] : List OB) ++ [o])[0]? = some o := rfl
  refine ⟨o.bd, Sat.ld h (.tail _ (.head _)) rfl, false, w, by rw [ho]; exact eq_iface_nil und_bb _ _ w, br_false rfl ?_⟩
  refine nilP_some ?_
  refine ⟨o.bd, Sat.ld h (.tail _ (.head _)) rfl, ?_⟩
  rw [ho]
  refine enter_meth meth_rootBuild ?_
  refine rootBuild_ok (ob := []) h hs' fun w db h => ⟨_, rfl, none, false, w, ta_list_no (by decide) w, br_false rfl ?_⟩
  refine h.tk fun w h => ?_
  refine nilP_some (nilP_some ?_)
  refine ⟨_, _, _, h.ldA, ?_⟩
  refine ⟨_, _, _, h.ldA, ?_⟩
  have hcap : 1 ≤ p.stc := by have := hs.1.2.1; rw [hn] at this; exact this
  rw [hn, show IntKind.i64.wrap (((1 : Nat) : Int) - 1) = ((0 : Nat) : Int) from rfl, hq]
  refine ⟨_, _, _, fun w => sliceTo rowOB.ht rowOB.hi sb 1 p.stc 0 (by omega) hcap w, ?_⟩
  refine nilP_some ?_
  refine h.stA 0 fun w h => ?_
  refine nilP_some ?_
  refine ⟨_, _, _, h.ldA, ?_⟩
  refine br_false rfl ?_
  refine ⟨_, _, ta_doc _ _, nilP_some ?_⟩
  refine h.stA 0 fun w h => ?_
  refine hR _ db ?_
  have e : ({ p with stn := 0, root := some ⟨db, 0, none⟩ } : PS) = { p with stq := some ⟨sb, 0, none⟩, stn := 0, root := some ⟨db, 0, none⟩ } := by rw [← hq]
  rw [e]
  exact h
end Go.Proofs.YtgbgadkldalkbaaGreatDoor


set_option linter.unusedVariables false
namespace Go.Proofs.YtgbgadkldalkbaaGreatDoor
open Go.Proofs Go.IntWalk
variable {σ : Out} {w : World} {L L' : List Chunk} {R : Ending → World → Prop}

noncomputable def rowInl : Row P ty_S_Inline ty_Inline 1 16 :=
  ⟨(P.info? ty_Inline).getD default, ((P.info? ty_Inline).bind (·.zero)).getD default, by kernel_rfl, by kernel_rfl, by kernel_rfl, by kernel_rfl, by kernel_rfl, by kernel_rfl, by decide⟩
def Inls (p : PS) (vs : List Value) (M : List Chunk) : Prop := Sl 1 ty_Inline p.lq p.ln p.lc vs M ∧ vs.length < 4294967296
def plainC (b : Nat) (s : List UInt8) : Chunk := (b, cel [.string (bs s)] ty_Plain)

theorem skipTo_ok {b : Nat} {p : PS} {i : Int} (h : Sat σ w (p.at b :: L)) (hR : ∀ w, Sat σ w ({ p with em := i }.at b :: L) → R (.returned (.tuple #[])) w) :
    callE P i_parseState_skip #[.pointer (some ⟨b, 0, none⟩), .int .i64 i] R w := by
  refine g_parseState_skip.sound ?_
  refine nilP_some ?_
  refine h.stA 0 fun w h => ?_
  exact hR _ h
theorem emit_no {b : Nat} {p : PS} {i : Int} (h : Sat σ w (p.at b :: L)) (hi : i ≤ p.em) (hR : ∀ w, Sat σ w (p.at b :: L) → R (.returned (.tuple #[])) w) :
    callE P i_parseState_emit #[.pointer (some ⟨b, 0, none⟩), .int .i64 i] R w := by
  refine g_parseState_emit.sound ?_
  refine nilP_some ?_
  refine ⟨_, h.ldA, ?_⟩
  exact br_false (by simpa using hi) (hR _ h)
theorem emit_ok {b i e : Nat} {p : PS} {vs : List Value} {M : List Chunk} (h : Sat σ w (p.at b :: M ++ L)) (hv : Inls p vs M) (he : p.em = e) (hi : e < i) (hl : i ≤ p.s.length) (hn : vs.length < 4294967295)
    (hR : ∀ w p' M' nb, p' = { p with em := i, lq := p'.lq, ln := vs.length + 1, lc := p'.lc } → Inls p' (vs ++ [.iface ty_P_Plain (.pointer (some ⟨nb, 0, none⟩))]) M' →
      Sat σ w (p'.at b :: M' ++ (plainC nb ((p.s.take i).drop e) :: L)) → R (.returned (.tuple #[])) w) :
    callE P i_parseState_emit #[.pointer (some ⟨b, 0, none⟩), .int .i64 i] R w := by
  have hln : p.ln = vs.length := by have := hv.1.1; omega
  refine g_parseState_emit.sound ?_
  refine nilP_some ?_
  refine ⟨_, h.ldA, ?_⟩
  rw [he]
  refine br_true (by simpa using hi) ?_
  refine h.tk fun w h => ?_
  refine nilP_some (nilP_some (nilP_some ?_))
  refine ⟨_, _, _, h.ldA, ?_⟩
  refine ⟨_, h.ldA, ?_⟩
  refine ⟨_, h.ldA, ?_⟩
  rw [he]
  refine ⟨by omega, by omega, by simp; omega, ?_⟩
  rw [Int.toNat_natCast, Int.toNat_natCast, bs_extract]
  have h0 := h
  refine Sat.bx h fun nb w h => ?_
  refine ⟨h0.same h (.head _) (.tail _ (.head _)) 1, ?_⟩
  have h : Sat σ w (M ++ (p.at b :: plainC nb ((p.s.take i).drop e) :: L)) := Sat.re (L := plainC nb ((p.s.take i).drop e) :: (p.at b :: M ++ L)) h (by intro _; simp only [List.append_eq, cnt_append, cnt_cons, cnt_nil] <;> omega)
  have hs0 := h0
  refine Sat.app1S rowInl hv.1 h (v := .iface ty_P_Plain (.pointer (some ⟨nb, 0, none⟩))) rfl (by simp [Value.cells, Value.oneCell']) (by kernel_rfl) (by omega) (by omega) (by decide)
    (C := fun w1 => SameC _ w1 _ 1) (fun w1 X h' => Sat.same h h' (b := b) (o := cel p.cells ty_parseState) (by simp) (by simp) 1) fun q' c' w M' hS' h => ?_
  have h : Sat σ w (p.at b :: M' ++ (plainC nb ((p.s.take i).drop e) :: L)) := h.re (by intro _; simp only [List.append_eq, cnt_append, cnt_cons, cnt_nil] <;> omega)
  let p' : PS := { p with em := i, lq := q', ln := p.ln + 1, lc := c' }
  refine nilP_some ?_
  refine h.stA 0 fun w h => ?_
  refine nilP_some ?_
  refine h.stA 0 fun w h => ?_
  refine hR _ p' M' nb (by simp [p', hln]) ⟨hS', by simp; omega⟩ h
end Go.Proofs.YtgbgadkldalkbaaGreatDoor


set_option linter.unusedVariables false
set_option maxRecDepth 20000
namespace Go.Proofs.YtgbgadkldalkbaaGreatDoor
open Go.Proofs
namespace g_Document_PrintHTML
noncomputable def body : Code := bodyOf Tryz.f292
def bl1 (R : EP) (Xa : OA → OA → Nat → Nat → Int → Int → WP) (x1 : OA) (x9q : OA) (x9n : Nat) (x9c : Nat) (x10 : Int) (x11 : Int) (w : World) : Prop :=
 br (decide (x11 < x10))
 (0 ≤ x11 ∧ x11 < (x9n : Int) ∧
 nilP x9q fun a3 =>
 ∃ (v4 : Value), w.cell? (a3.add (Int.toNat x11 * 1)) = some v4 ∧
 enterE P (callMethod v4 "PrintHTML" #[.pointer x1]) (fun e w6 => e = .returned (.tuple #[]) ∧
 Xa x1 x9q x9n x9c x10 (IntKind.i64.wrap (x11 + 1)) w6) w)
 (R (.returned (.tuple #[])) w)
def l1 (R : EP) (x1 : OA) (x9q : OA) (x9n : Nat) (x9c : Nat) (x10 : Int) (x11 : Int) (w : World) : Prop :=
  ∀ X : OA → OA → Nat → Nat → Int → Int → WP, (∀ x1 x9q x9n x9c x10 x11 w, bl1 R X x1 x9q x9n x9c x10 x11 w → X x1 x9q x9n x9c x10 x11 w) → X x1 x9q x9n x9c x10 x11 w

noncomputable def al1 (R : EP) (Xa : OA → OA → Nat → Nat → Int → Int → WP) : AC :=
  (.leaf (sel [1, 0, 0] body))
end g_Document_PrintHTML
def g_Document_PrintHTML (R : EP) (x0 : OA) (x1 : OA) (w : World) : Prop :=
 nilP x0 fun a1 =>
 ∃ (v2q : OA), ∃ (v2n : Nat), ∃ (v2c : Nat), w.cell? (a1.add 2) = some (.slice v2q v2n v2c) ∧
 g_Document_PrintHTML.l1 R x1 v2q v2n v2c (v2n : Int) 0 w

noncomputable def g_Document_PrintHTML.ac (R : EP) : AC :=
  (.seq (.leaf (sel [0] g_Document_PrintHTML.body)) (.block 0 (.loop (leaf [(1, .s .ptr), (9, .s .slice), (10, .s (.int .i64)), (11, .s (.int .i64))] (g_Document_PrintHTML.l1 R)) (sel [1, 0, 0] g_Document_PrintHTML.body))))
theorem g_Document_PrintHTML.good (R : EP) : Good P 19 (g_Document_PrintHTML.ac R) (QF P [] R) :=
  ⟨trivial, (loopG (g_Document_PrintHTML.al1 R) (g_Document_PrintHTML.bl1 R) (fun _ => by kernel_rfl) (fun Xa => trivial) (fun Xa => by intro x1 x9q x9n x9c x10 x11 ρ w; kernel_rfl) (fun X h _ _ _ _ _ _ _ g => g X h))⟩
theorem g_Document_PrintHTML.eq (R : EP) (x0 : OA) (x1 : OA) (w : World) : g_Document_PrintHTML R x0 x1 w = vcA P 19 (g_Document_PrintHTML.ac R) (QF P [] R) (fr0 [.pointer x0, .pointer x1]) w := by kernel_rfl
theorem g_Document_PrintHTML.sound {R : EP} {x0 : OA} {x1 : OA} {w : World} (h : g_Document_PrintHTML R x0 x1 w) : callE P i_Document_PrintHTML #[.pointer x0, .pointer x1] R w :=
  callE_fin (c := g_Document_PrintHTML.body) Tryz.func292 Tryz.call292 (by kernel_rfl) (by kernel_rfl) (by kernel_rfl) (by kernel_rfl) (by kernel_rfl) (g_Document_PrintHTML.good R) (g_Document_PrintHTML.eq R x0 x1 w) h
namespace g_Paragraph_PrintHTML
noncomputable def body : Code := bodyOf Tryz.f317
end g_Paragraph_PrintHTML
def g_Paragraph_PrintHTML (R : EP) (x0 : OA) (x1 : OA) (w : World) : Prop :=
 callE P i_bytes_Buffer_WriteString #[.pointer x1, .string (ByteArray.mk #[60, 112, 62])] (fun e w2 => ∃ (r1_0 : Int), ∃ (r1_1 : Value), e = .returned (.tuple #[.int .i64 r1_0, r1_1]) ∧
 nilP x0 fun a3 =>
 ∃ (v4 : OA), w2.cell? (a3.add 2) = some (.pointer v4) ∧
 callE P i_Text_PrintHTML #[.pointer v4, .pointer x1] (fun e w6 => e = .returned (.tuple #[]) ∧
 callE P i_bytes_Buffer_WriteString #[.pointer x1, .string (ByteArray.mk #[60, 47, 112, 62, 10])] (fun e w8 => ∃ (r7_0 : Int), ∃ (r7_1 : Value), e = .returned (.tuple #[.int .i64 r7_0, r7_1]) ∧
 R (.returned (.tuple #[])) w8) w6) w2) w

noncomputable def g_Paragraph_PrintHTML.ac (R : EP) : AC :=
  (.leaf (sel [] g_Paragraph_PrintHTML.body))
theorem g_Paragraph_PrintHTML.good (R : EP) : Good P 14 (g_Paragraph_PrintHTML.ac R) (QF P [] R) :=
  trivial
theorem g_Paragraph_PrintHTML.eq (R : EP) (x0 : OA) (x1 : OA) (w : World) : g_Paragraph_PrintHTML R x0 x1 w = vcA P 14 (g_Paragraph_PrintHTML.ac R) (QF P [] R) (fr0 [.pointer x0, .pointer x1]) w := by kernel_rfl
theorem g_Paragraph_PrintHTML.sound {R : EP} {x0 : OA} {x1 : OA} {w : World} (h : g_Paragraph_PrintHTML R x0 x1 w) : callE P i_Paragraph_PrintHTML #[.pointer x0, .pointer x1] R w :=
  callE_fin (c := g_Paragraph_PrintHTML.body) Tryz.func317 Tryz.call317 (by kernel_rfl) (by kernel_rfl) (by kernel_rfl) (by kernel_rfl) (by kernel_rfl) (g_Paragraph_PrintHTML.good R) (g_Paragraph_PrintHTML.eq R x0 x1 w) h
namespace g_Text_PrintHTML
noncomputable def body : Code := bodyOf Tryz.f315
def bl1 (R : EP) (Xa : OA → OA → Nat → Nat → Int → Int → WP) (x1 : OA) (x9q : OA) (x9n : Nat) (x9c : Nat) (x10 : Int) (x11 : Int) (w : World) : Prop :=
 br (decide (x11 < x10))
 (0 ≤ x11 ∧ x11 < (x9n : Int) ∧
 nilP x9q fun a3 =>
 ∃ (v4 : Value), w.cell? (a3.add (Int.toNat x11 * 1)) = some v4 ∧
 enterE P (callMethod v4 "PrintHTML" #[.pointer x1]) (fun e w6 => e = .returned (.tuple #[]) ∧
 Xa x1 x9q x9n x9c x10 (IntKind.i64.wrap (x11 + 1)) w6) w)
 (R (.returned (.tuple #[])) w)
def l1 (R : EP) (x1 : OA) (x9q : OA) (x9n : Nat) (x9c : Nat) (x10 : Int) (x11 : Int) (w : World) : Prop :=
  ∀ X : OA → OA → Nat → Nat → Int → Int → WP, (∀ x1 x9q x9n x9c x10 x11 w, bl1 R X x1 x9q x9n x9c x10 x11 w → X x1 x9q x9n x9c x10 x11 w) → X x1 x9q x9n x9c x10 x11 w

noncomputable def al1 (R : EP) (Xa : OA → OA → Nat → Nat → Int → Int → WP) : AC :=
  (.leaf (sel [1, 0, 0] body))
end g_Text_PrintHTML
def g_Text_PrintHTML (R : EP) (x0 : OA) (x1 : OA) (w : World) : Prop :=
 nilP x0 fun a1 =>
 ∃ (v2q : OA), ∃ (v2n : Nat), ∃ (v2c : Nat), w.cell? (a1.add 2) = some (.slice v2q v2n v2c) ∧
 g_Text_PrintHTML.l1 R x1 v2q v2n v2c (v2n : Int) 0 w

noncomputable def g_Text_PrintHTML.ac (R : EP) : AC :=
  (.seq (.leaf (sel [0] g_Text_PrintHTML.body)) (.block 0 (.loop (leaf [(1, .s .ptr), (9, .s .slice), (10, .s (.int .i64)), (11, .s (.int .i64))] (g_Text_PrintHTML.l1 R)) (sel [1, 0, 0] g_Text_PrintHTML.body))))
theorem g_Text_PrintHTML.good (R : EP) : Good P 19 (g_Text_PrintHTML.ac R) (QF P [] R) :=
  ⟨trivial, (loopG (g_Text_PrintHTML.al1 R) (g_Text_PrintHTML.bl1 R) (fun _ => by kernel_rfl) (fun Xa => trivial) (fun Xa => by intro x1 x9q x9n x9c x10 x11 ρ w; kernel_rfl) (fun X h _ _ _ _ _ _ _ g => g X h))⟩
theorem g_Text_PrintHTML.eq (R : EP) (x0 : OA) (x1 : OA) (w : World) : g_Text_PrintHTML R x0 x1 w = vcA P 19 (g_Text_PrintHTML.ac R) (QF P [] R) (fr0 [.pointer x0, .pointer x1]) w := by kernel_rfl
theorem g_Text_PrintHTML.sound {R : EP} {x0 : OA} {x1 : OA} {w : World} (h : g_Text_PrintHTML R x0 x1 w) : callE P i_Text_PrintHTML #[.pointer x0, .pointer x1] R w :=
  callE_fin (c := g_Text_PrintHTML.body) Tryz.func315 Tryz.call315 (by kernel_rfl) (by kernel_rfl) (by kernel_rfl) (by kernel_rfl) (by kernel_rfl) (g_Text_PrintHTML.good R) (g_Text_PrintHTML.eq R x0 x1 w) h
namespace g_ToHTML
noncomputable def body : Code := bodyOf Tryz.f23
end g_ToHTML
def g_ToHTML (R : EP) (x0 : Value) (w : World) : Prop :=
 box w #[.slice none 0 0, .int .i64 0, .int .i8 0] ty_bytes_Buffer fun b1 w2 =>
 enterE P (callMethod x0 "PrintHTML" #[.pointer (some ⟨b1, 0, none⟩)]) (fun e w4 => e = .returned (.tuple #[]) ∧
 callE P i_bytes_Buffer_String #[.pointer (some ⟨b1, 0, none⟩)] (fun e w6 => ∃ (r5 : BA), e = .returned (.string r5) ∧
 R (.returned (.string r5)) w6) w4) w2

noncomputable def g_ToHTML.ac (R : EP) : AC :=
  (.leaf (sel [] g_ToHTML.body))
theorem g_ToHTML.good (R : EP) : Good P 7 (g_ToHTML.ac R) (QF P [.tmp 2] R) :=
  trivial
theorem g_ToHTML.eq (R : EP) (x0 : Value) (w : World) : g_ToHTML R x0 w = vcA P 7 (g_ToHTML.ac R) (QF P [.tmp 2] R) (fr0 [x0]) w := by kernel_rfl
theorem g_ToHTML.sound {R : EP} {x0 : Value} {w : World} (h : g_ToHTML R x0 w) : callE P i_ToHTML #[x0] R w :=
  callE_fin (c := g_ToHTML.body) Tryz.func23 Tryz.call23 (by kernel_rfl) (by kernel_rfl) (by kernel_rfl) (by kernel_rfl) (by kernel_rfl) (g_ToHTML.good R) (g_ToHTML.eq R x0 w) h
namespace g_Plain_PrintHTML
noncomputable def body : Code := bodyOf Tryz.f337
end g_Plain_PrintHTML
def g_Plain_PrintHTML (R : EP) (x0 : OA) (x1 : OA) (w : World) : Prop :=
 tk w fun w1 =>
 nilP x0 fun a2 =>
 ∃ (v3 : BA), w1.cell? a2 = some (.string v3) ∧
 callE P i_htmlEscaper #[] (fun e w5 => ∃ (r4q : OA), ∃ (r4n : Nat), ∃ (r4c : Nat), e = .returned (.slice r4q r4n r4c) ∧
 SameC w1 w5 (a2) 1 ∧
 callE P i_zzPairs_WriteString #[.slice r4q r4n r4c, .pointer x1, .string v3] (fun e w7 => e = .returned (.tuple #[]) ∧
 R (.returned (.tuple #[])) w7) w5) w1

noncomputable def g_Plain_PrintHTML.ac (R : EP) : AC :=
  (.draw (.pure 1 (.pure 2 (.pure 3 (.pure 4 (.load 5 (.one 0 (.one 6 .done))))))) (sel [] g_Plain_PrintHTML.body))
theorem g_Plain_PrintHTML.good (R : EP) : Good P 11 (g_Plain_PrintHTML.ac R) (QF P [] R) :=
  ⟨by kernel_rfl, by kernel_rfl, fun _ _ _ h => h⟩
theorem g_Plain_PrintHTML.eq (R : EP) (x0 : OA) (x1 : OA) (w : World) : g_Plain_PrintHTML R x0 x1 w = vcA P 11 (g_Plain_PrintHTML.ac R) (QF P [] R) (fr0 [.pointer x0, .pointer x1]) w := by kernel_rfl
theorem g_Plain_PrintHTML.sound {R : EP} {x0 : OA} {x1 : OA} {w : World} (h : g_Plain_PrintHTML R x0 x1 w) : callE P i_Plain_PrintHTML #[.pointer x0, .pointer x1] R w :=
  callE_fin (c := g_Plain_PrintHTML.body) Tryz.func337 Tryz.call337 (by kernel_rfl) (by kernel_rfl) (by kernel_rfl) (by kernel_rfl) (by kernel_rfl) (g_Plain_PrintHTML.good R) (g_Plain_PrintHTML.eq R x0 x1 w) h
namespace g_htmlEscaper
noncomputable def body : Code := bodyOf Tryz.f322
end g_htmlEscaper
def g_htmlEscaper (R : EP) (w : World) : Prop :=
 ∃ (r1q : OA), ∃ (r1n : Nat), ∃ (r1c : Nat), ∃ w2, (Instr.buildSlice ty_zzPairs 8 #[(0, .string (ByteArray.mk #[34])), (1, .string (ByteArray.mk #[38, 113, 117, 111, 116, 59])), (2, .string (ByteArray.mk #[38])), (3, .string (ByteArray.mk #[38, 97, 109, 112, 59])), (4, .string (ByteArray.mk #[60])), (5, .string (ByteArray.mk #[38, 108, 116, 59])), (6, .string (ByteArray.mk #[62])), (7, .string (ByteArray.mk #[38, 103, 116, 59]))]).run P w = .ok (.slice r1q r1n r1c) w2 ∧
 R (.returned (.slice r1q r1n r1c)) w2

noncomputable def g_htmlEscaper.ac (R : EP) : AC :=
  (.leaf (sel [] g_htmlEscaper.body))
theorem g_htmlEscaper.good (R : EP) : Good P 2 (g_htmlEscaper.ac R) (QF P [.tmp 0] R) :=
  trivial
theorem g_htmlEscaper.eq (R : EP) (w : World) : g_htmlEscaper R w = vcA P 2 (g_htmlEscaper.ac R) (QF P [.tmp 0] R) (fr0 []) w := by kernel_rfl
theorem g_htmlEscaper.sound {R : EP} {w : World} (h : g_htmlEscaper R w) : callE P i_htmlEscaper #[] R w :=
  callE_fin (c := g_htmlEscaper.body) Tryz.func322 Tryz.call322 (by kernel_rfl) (by kernel_rfl) (by kernel_rfl) (by kernel_rfl) (by kernel_rfl) (g_htmlEscaper.good R) (g_htmlEscaper.eq R w) h
namespace g_htmlLinkEscaper
noncomputable def body : Code := bodyOf Tryz.f297
end g_htmlLinkEscaper
def g_htmlLinkEscaper (R : EP) (w : World) : Prop :=
 ∃ (r1q : OA), ∃ (r1n : Nat), ∃ (r1c : Nat), ∃ w2, (Instr.buildSlice ty_zzPairs 340 #[(0, .string (ByteArray.mk #[34])), (1, .string (ByteArray.mk #[37, 50, 50])), (2, .string (ByteArray.mk #[38])), (3, .string (ByteArray.mk #[38, 97, 109, 112, 59])), (4, .string (ByteArray.mk #[60])), (5, .string (ByteArray.mk #[37, 51, 67])), (6, .string (ByteArray.mk #[62])), (7, .string (ByteArray.mk #[37, 51, 69])), (8, .string (ByteArray.mk #[92])), (9, .string (ByteArray.mk #[37, 53, 67])), (10, .string (ByteArray.mk #[32])), (11, .string (ByteArray.mk #[37, 50, 48])), (12, .string (ByteArray.mk #[96])), (13, .string (ByteArray.mk #[37, 54, 48])), (14, .string (ByteArray.mk #[91])), (15, .string (ByteArray.mk #[37, 53, 66])), (16, .string (ByteArray.mk #[93])), (17, .string (ByteArray.mk #[37, 53, 68])), (18, .string (ByteArray.mk #[94])), (19, .string (ByteArray.mk #[37, 53, 69])), (20, .string (ByteArray.mk #[123])), (21, .string (ByteArray.mk #[37, 55, 66])), (22, .string (ByteArray.mk #[125])), (23, .string (ByteArray.mk #[37, 55, 68])), (24, .string (ByteArray.mk #[0])), (25, .string (ByteArray.mk #[37, 48, 48])), (26, .string (ByteArray.mk #[1])), (27, .string (ByteArray.mk #[37, 48, 49])), (28, .string (ByteArray.mk #[2])), (29, .string (ByteArray.mk #[37, 48, 50])), (30, .string (ByteArray.mk #[3])), (31, .string (ByteArray.mk #[37, 48, 51])), (32, .string (ByteArray.mk #[4])), (33, .string (ByteArray.mk #[37, 48, 52])), (34, .string (ByteArray.mk #[5])), (35, .string (ByteArray.mk #[37, 48, 53])), (36, .string (ByteArray.mk #[6])), (37, .string (ByteArray.mk #[37, 48, 54])), (38, .string (ByteArray.mk #[7])), (39, .string (ByteArray.mk #[37, 48, 55])), (40, .string (ByteArray.mk #[8])), (41, .string (ByteArray.mk #[37, 48, 56])), (42, .string (ByteArray.mk #[11])), (43, .string (ByteArray.mk #[37, 48, 66])), (44, .string (ByteArray.mk #[12])), (45, .string (ByteArray.mk #[37, 48, 67])), (46, .string (ByteArray.mk #[14])), (47, .string (ByteArray.mk #[37, 48, 69])), (48, .string (ByteArray.mk #[15])), (49, .string (ByteArray.mk #[37, 48, 70])), (50, .string (ByteArray.mk #[16])), (51, .string (ByteArray.mk #[37, 49, 48])), (52, .string (ByteArray.mk #[17])), (53, .string (ByteArray.mk #[37, 49, 49])), (54, .string (ByteArray.mk #[18])), (55, .string (ByteArray.mk #[37, 49, 50])), (56, .string (ByteArray.mk #[19])), (57, .string (ByteArray.mk #[37, 49, 51])), (58, .string (ByteArray.mk #[20])), (59, .string (ByteArray.mk #[37, 49, 52])), (60, .string (ByteArray.mk #[21])), (61, .string (ByteArray.mk #[37, 49, 53])), (62, .string (ByteArray.mk #[22])), (63, .string (ByteArray.mk #[37, 49, 54])), (64, .string (ByteArray.mk #[23])), (65, .string (ByteArray.mk #[37, 49, 55])), (66, .string (ByteArray.mk #[24])), (67, .string (ByteArray.mk #[37, 49, 56])), (68, .string (ByteArray.mk #[25])), (69, .string (ByteArray.mk #[37, 49, 57])), (70, .string (ByteArray.mk #[26])), (71, .string (ByteArray.mk #[37, 49, 65])), (72, .string (ByteArray.mk #[27])), (73, .string (ByteArray.mk #[37, 49, 66])), (74, .string (ByteArray.mk #[28])), (75, .string (ByteArray.mk #[37, 49, 67])), (76, .string (ByteArray.mk #[29])), (77, .string (ByteArray.mk #[37, 49, 68])), (78, .string (ByteArray.mk #[30])), (79, .string (ByteArray.mk #[37, 49, 69])), (80, .string (ByteArray.mk #[31])), (81, .string (ByteArray.mk #[37, 49, 70])), (82, .string (ByteArray.mk #[127])), (83, .string (ByteArray.mk #[37, 55, 70])), (84, .string (ByteArray.mk #[128])), (85, .string (ByteArray.mk #[37, 56, 48])), (86, .string (ByteArray.mk #[129])), (87, .string (ByteArray.mk #[37, 56, 49])), (88, .string (ByteArray.mk #[130])), (89, .string (ByteArray.mk #[37, 56, 50])), (90, .string (ByteArray.mk #[131])), (91, .string (ByteArray.mk #[37, 56, 51])), (92, .string (ByteArray.mk #[132])), (93, .string (ByteArray.mk #[37, 56, 52])), (94, .string (ByteArray.mk #[133])), (95, .string (ByteArray.mk #[37, 56, 53])), (96, .string (ByteArray.mk #[134])), (97, .string (ByteArray.mk #[37, 56, 54])), (98, .string (ByteArray.mk #[135])), (99, .string (ByteArray.mk #[37, 56, 55])), (100, .string (ByteArray.mk #[136])), (101, .string (ByteArray.mk #[37, 56, 56])), (102, .string (ByteArray.mk #[137])), (103, .string (ByteArray.mk #[37, 56, 57])), (104, .string (ByteArray.mk #[138])), (105, .string (ByteArray.mk #[37, 56, 65])), (106, .string (ByteArray.mk #[139])), (107, .string (ByteArray.mk #[37, 56, 66])), (108, .string (ByteArray.mk #[140])), (109, .string (ByteArray.mk #[37, 56, 67])), (110, .string (ByteArray.mk #[141])), (111, .string (ByteArray.mk #[37, 56, 68])), (112, .string (ByteArray.mk #[142])), (113, .string (ByteArray.mk #[37, 56, 69])), (114, .string (ByteArray.mk #[143])), (115, .string (ByteArray.mk #[37, 56, 70])), (116, .string (ByteArray.mk #[144])), (117, .string (ByteArray.mk #[37, 57, 48])), (118, .string (ByteArray.mk #[145])), (119, .string (ByteArray.mk #[37, 57, 49])), (120, .string (ByteArray.mk #[146])), (121, .string (ByteArray.mk #[37, 57, 50])), (122, .string (ByteArray.mk #[147])), (123, .string (ByteArray.mk #[37, 57, 51])), (124, .string (ByteArray.mk #[148])), (125, .string (ByteArray.mk #[37, 57, 52])), (126, .string (ByteArray.mk #[149])), (127, .string (ByteArray.mk #[37, 57, 53])), (128, .string (ByteArray.mk #[150])), (129, .string (ByteArray.mk #[37, 57, 54])), (130, .string (ByteArray.mk #[151])), (131, .string (ByteArray.mk #[37, 57, 55])), (132, .string (ByteArray.mk #[152])), (133, .string (ByteArray.mk #[37, 57, 56])), (134, .string (ByteArray.mk #[153])), (135, .string (ByteArray.mk #[37, 57, 57])), (136, .string (ByteArray.mk #[154])), (137, .string (ByteArray.mk #[37, 57, 65])), (138, .string (ByteArray.mk #[155])), (139, .string (ByteArray.mk #[37, 57, 66])), (140, .string (ByteArray.mk #[156])), (141, .string (ByteArray.mk #[37, 57, 67])), (142, .string (ByteArray.mk #[157])), (143, .string (ByteArray.mk #[37, 57, 68])), (144, .string (ByteArray.mk #[158])), (145, .string (ByteArray.mk #[37, 57, 69])), (146, .string (ByteArray.mk #[159])), (147, .string (ByteArray.mk #[37, 57, 70])), (148, .string (ByteArray.mk #[160])), (149, .string (ByteArray.mk #[37, 65, 48])), (150, .string (ByteArray.mk #[161])), (151, .string (ByteArray.mk #[37, 65, 49])), (152, .string (ByteArray.mk #[162])), (153, .string (ByteArray.mk #[37, 65, 50])), (154, .string (ByteArray.mk #[163])), (155, .string (ByteArray.mk #[37, 65, 51])), (156, .string (ByteArray.mk #[164])), (157, .string (ByteArray.mk #[37, 65, 52])), (158, .string (ByteArray.mk #[165])), (159, .string (ByteArray.mk #[37, 65, 53])), (160, .string (ByteArray.mk #[166])), (161, .string (ByteArray.mk #[37, 65, 54])), (162, .string (ByteArray.mk #[167])), (163, .string (ByteArray.mk #[37, 65, 55])), (164, .string (ByteArray.mk #[168])), (165, .string (ByteArray.mk #[37, 65, 56])), (166, .string (ByteArray.mk #[169])), (167, .string (ByteArray.mk #[37, 65, 57])), (168, .string (ByteArray.mk #[170])), (169, .string (ByteArray.mk #[37, 65, 65])), (170, .string (ByteArray.mk #[171])), (171, .string (ByteArray.mk #[37, 65, 66])), (172, .string (ByteArray.mk #[172])), (173, .string (ByteArray.mk #[37, 65, 67])), (174, .string (ByteArray.mk #[173])), (175, .string (ByteArray.mk #[37, 65, 68])), (176, .string (ByteArray.mk #[174])), (177, .string (ByteArray.mk #[37, 65, 69])), (178, .string (ByteArray.mk #[175])), (179, .string (ByteArray.mk #[37, 65, 70])), (180, .string (ByteArray.mk #[176])), (181, .string (ByteArray.mk #[37, 66, 48])), (182, .string (ByteArray.mk #[177])), (183, .string (ByteArray.mk #[37, 66, 49])), (184, .string (ByteArray.mk #[178])), (185, .string (ByteArray.mk #[37, 66, 50])), (186, .string (ByteArray.mk #[179])), (187, .string (ByteArray.mk #[37, 66, 51])), (188, .string (ByteArray.mk #[180])), (189, .string (ByteArray.mk #[37, 66, 52])), (190, .string (ByteArray.mk #[181])), (191, .string (ByteArray.mk #[37, 66, 53])), (192, .string (ByteArray.mk #[182])), (193, .string (ByteArray.mk #[37, 66, 54])), (194, .string (ByteArray.mk #[183])), (195, .string (ByteArray.mk #[37, 66, 55])), (196, .string (ByteArray.mk #[184])), (197, .string (ByteArray.mk #[37, 66, 56])), (198, .string (ByteArray.mk #[185])), (199, .string (ByteArray.mk #[37, 66, 57])), (200, .string (ByteArray.mk #[186])), (201, .string (ByteArray.mk #[37, 66, 65])), (202, .string (ByteArray.mk #[187])), (203, .string (ByteArray.mk #[37, 66, 66])), (204, .string (ByteArray.mk #[188])), (205, .string (ByteArray.mk #[37, 66, 67])), (206, .string (ByteArray.mk #[189])), (207, .string (ByteArray.mk #[37, 66, 68])), (208, .string (ByteArray.mk #[190])), (209, .string (ByteArray.mk #[37, 66, 69])), (210, .string (ByteArray.mk #[191])), (211, .string (ByteArray.mk #[37, 66, 70])), (212, .string (ByteArray.mk #[192])), (213, .string (ByteArray.mk #[37, 67, 48])), (214, .string (ByteArray.mk #[193])), (215, .string (ByteArray.mk #[37, 67, 49])), (216, .string (ByteArray.mk #[194])), (217, .string (ByteArray.mk #[37, 67, 50])), (218, .string (ByteArray.mk #[195])), (219, .string (ByteArray.mk #[37, 67, 51])), (220, .string (ByteArray.mk #[196])), (221, .string (ByteArray.mk #[37, 67, 52])), (222, .string (ByteArray.mk #[197])), (223, .string (ByteArray.mk #[37, 67, 53])), (224, .string (ByteArray.mk #[198])), (225, .string (ByteArray.mk #[37, 67, 54])), (226, .string (ByteArray.mk #[199])), (227, .string (ByteArray.mk #[37, 67, 55])), (228, .string (ByteArray.mk #[200])), (229, .string (ByteArray.mk #[37, 67, 56])), (230, .string (ByteArray.mk #[201])), (231, .string (ByteArray.mk #[37, 67, 57])), (232, .string (ByteArray.mk #[202])), (233, .string (ByteArray.mk #[37, 67, 65])), (234, .string (ByteArray.mk #[203])), (235, .string (ByteArray.mk #[37, 67, 66])), (236, .string (ByteArray.mk #[204])), (237, .string (ByteArray.mk #[37, 67, 67])), (238, .string (ByteArray.mk #[205])), (239, .string (ByteArray.mk #[37, 67, 68])), (240, .string (ByteArray.mk #[206])), (241, .string (ByteArray.mk #[37, 67, 69])), (242, .string (ByteArray.mk #[207])), (243, .string (ByteArray.mk #[37, 67, 70])), (244, .string (ByteArray.mk #[208])), (245, .string (ByteArray.mk #[37, 68, 48])), (246, .string (ByteArray.mk #[209])), (247, .string (ByteArray.mk #[37, 68, 49])), (248, .string (ByteArray.mk #[210])), (249, .string (ByteArray.mk #[37, 68, 50])), (250, .string (ByteArray.mk #[211])), (251, .string (ByteArray.mk #[37, 68, 51])), (252, .string (ByteArray.mk #[212])), (253, .string (ByteArray.mk #[37, 68, 52])), (254, .string (ByteArray.mk #[213])), (255, .string (ByteArray.mk #[37, 68, 53])), (256, .string (ByteArray.mk #[214])), (257, .string (ByteArray.mk #[37, 68, 54])), (258, .string (ByteArray.mk #[215])), (259, .string (ByteArray.mk #[37, 68, 55])), (260, .string (ByteArray.mk #[216])), (261, .string (ByteArray.mk #[37, 68, 56])), (262, .string (ByteArray.mk #[217])), (263, .string (ByteArray.mk #[37, 68, 57])), (264, .string (ByteArray.mk #[218])), (265, .string (ByteArray.mk #[37, 68, 65])), (266, .string (ByteArray.mk #[219])), (267, .string (ByteArray.mk #[37, 68, 66])), (268, .string (ByteArray.mk #[220])), (269, .string (ByteArray.mk #[37, 68, 67])), (270, .string (ByteArray.mk #[221])), (271, .string (ByteArray.mk #[37, 68, 68])), (272, .string (ByteArray.mk #[222])), (273, .string (ByteArray.mk #[37, 68, 69])), (274, .string (ByteArray.mk #[223])), (275, .string (ByteArray.mk #[37, 68, 70])), (276, .string (ByteArray.mk #[224])), (277, .string (ByteArray.mk #[37, 69, 48])), (278, .string (ByteArray.mk #[225])), (279, .string (ByteArray.mk #[37, 69, 49])), (280, .string (ByteArray.mk #[226])), (281, .string (ByteArray.mk #[37, 69, 50])), (282, .string (ByteArray.mk #[227])), (283, .string (ByteArray.mk #[37, 69, 51])), (284, .string (ByteArray.mk #[228])), (285, .string (ByteArray.mk #[37, 69, 52])), (286, .string (ByteArray.mk #[229])), (287, .string (ByteArray.mk #[37, 69, 53])), (288, .string (ByteArray.mk #[230])), (289, .string (ByteArray.mk #[37, 69, 54])), (290, .string (ByteArray.mk #[231])), (291, .string (ByteArray.mk #[37, 69, 55])), (292, .string (ByteArray.mk #[232])), (293, .string (ByteArray.mk #[37, 69, 56])), (294, .string (ByteArray.mk #[233])), (295, .string (ByteArray.mk #[37, 69, 57])), (296, .string (ByteArray.mk #[234])), (297, .string (ByteArray.mk #[37, 69, 65])), (298, .string (ByteArray.mk #[235])), (299, .string (ByteArray.mk #[37, 69, 66])), (300, .string (ByteArray.mk #[236])), (301, .string (ByteArray.mk #[37, 69, 67])), (302, .string (ByteArray.mk #[237])), (303, .string (ByteArray.mk #[37, 69, 68])), (304, .string (ByteArray.mk #[238])), (305, .string (ByteArray.mk #[37, 69, 69])), (306, .string (ByteArray.mk #[239])), (307, .string (ByteArray.mk #[37, 69, 70])), (308, .string (ByteArray.mk #[240])), (309, .string (ByteArray.mk #[37, 70, 48])), (310, .string (ByteArray.mk #[241])), (311, .string (ByteArray.mk #[37, 70, 49])), (312, .string (ByteArray.mk #[242])), (313, .string (ByteArray.mk #[37, 70, 50])), (314, .string (ByteArray.mk #[243])), (315, .string (ByteArray.mk #[37, 70, 51])), (316, .string (ByteArray.mk #[244])), (317, .string (ByteArray.mk #[37, 70, 52])), (318, .string (ByteArray.mk #[245])), (319, .string (ByteArray.mk #[37, 70, 53])), (320, .string (ByteArray.mk #[246])), (321, .string (ByteArray.mk #[37, 70, 54])), (322, .string (ByteArray.mk #[247])), (323, .string (ByteArray.mk #[37, 70, 55])), (324, .string (ByteArray.mk #[248])), (325, .string (ByteArray.mk #[37, 70, 56])), (326, .string (ByteArray.mk #[249])), (327, .string (ByteArray.mk #[37, 70, 57])), (328, .string (ByteArray.mk #[250])), (329, .string (ByteArray.mk #[37, 70, 65])), (330, .string (ByteArray.mk #[251])), (331, .string (ByteArray.mk #[37, 70, 66])), (332, .string (ByteArray.mk #[252])), (333, .string (ByteArray.mk #[37, 70, 67])), (334, .string (ByteArray.mk #[253])), (335, .string (ByteArray.mk #[37, 70, 68])), (336, .string (ByteArray.mk #[254])), (337, .string (ByteArray.mk #[37, 70, 69])), (338, .string (ByteArray.mk #[255])), (339, .string (ByteArray.mk #[37, 70, 70]))]).run P w = .ok (.slice r1q r1n r1c) w2 ∧
 R (.returned (.slice r1q r1n r1c)) w2

noncomputable def g_htmlLinkEscaper.ac (R : EP) : AC :=
  (.leaf (sel [] g_htmlLinkEscaper.body))
theorem g_htmlLinkEscaper.good (R : EP) : Good P 2 (g_htmlLinkEscaper.ac R) (QF P [.tmp 0] R) :=
  trivial
theorem g_htmlLinkEscaper.eq (R : EP) (w : World) : g_htmlLinkEscaper R w = vcA P 2 (g_htmlLinkEscaper.ac R) (QF P [.tmp 0] R) (fr0 []) w := by kernel_rfl
theorem g_htmlLinkEscaper.sound {R : EP} {w : World} (h : g_htmlLinkEscaper R w) : callE P i_htmlLinkEscaper #[] R w :=
  callE_fin (c := g_htmlLinkEscaper.body) Tryz.func297 Tryz.call297 (by kernel_rfl) (by kernel_rfl) (by kernel_rfl) (by kernel_rfl) (by kernel_rfl) (g_htmlLinkEscaper.good R) (g_htmlLinkEscaper.eq R w) h
namespace g_htmlQuoteEscaper
noncomputable def body : Code := bodyOf Tryz.f299
end g_htmlQuoteEscaper
def g_htmlQuoteEscaper (R : EP) (w : World) : Prop :=
 ∃ (r1q : OA), ∃ (r1n : Nat), ∃ (r1c : Nat), ∃ w2, (Instr.buildSlice ty_zzPairs 8 #[(0, .string (ByteArray.mk #[34])), (1, .string (ByteArray.mk #[38, 113, 117, 111, 116, 59])), (2, .string (ByteArray.mk #[38])), (3, .string (ByteArray.mk #[38, 97, 109, 112, 59])), (4, .string (ByteArray.mk #[60])), (5, .string (ByteArray.mk #[38, 108, 116, 59])), (6, .string (ByteArray.mk #[62])), (7, .string (ByteArray.mk #[38, 103, 116, 59]))]).run P w = .ok (.slice r1q r1n r1c) w2 ∧
 R (.returned (.slice r1q r1n r1c)) w2

noncomputable def g_htmlQuoteEscaper.ac (R : EP) : AC :=
  (.leaf (sel [] g_htmlQuoteEscaper.body))
theorem g_htmlQuoteEscaper.good (R : EP) : Good P 2 (g_htmlQuoteEscaper.ac R) (QF P [.tmp 0] R) :=
  trivial
theorem g_htmlQuoteEscaper.eq (R : EP) (w : World) : g_htmlQuoteEscaper R w = vcA P 2 (g_htmlQuoteEscaper.ac R) (QF P [.tmp 0] R) (fr0 []) w := by kernel_rfl
theorem g_htmlQuoteEscaper.sound {R : EP} {w : World} (h : g_htmlQuoteEscaper R w) : callE P i_htmlQuoteEscaper #[] R w :=
  callE_fin (c := g_htmlQuoteEscaper.body) Tryz.func299 Tryz.call299 (by kernel_rfl) (by kernel_rfl) (by kernel_rfl) (by kernel_rfl) (by kernel_rfl) (g_htmlQuoteEscaper.good R) (g_htmlQuoteEscaper.eq R w) h
namespace g_zzPairs_Replace
noncomputable def body : Code := bodyOf Tryz.f298
end g_zzPairs_Replace
def g_zzPairs_Replace (R : EP) (x0q : OA) (x0n : Nat) (x0c : Nat) (x1 : BA) (w : World) : Prop :=
 box w #[.slice none 0 0, .int .i64 0, .int .i8 0] ty_bytes_Buffer fun b1 w2 =>
 callE P i_zzPairs_WriteString #[.slice x0q x0n x0c, .pointer (some ⟨b1, 0, none⟩), .string x1] (fun e w4 => e = .returned (.tuple #[]) ∧
 callE P i_bytes_Buffer_String #[.pointer (some ⟨b1, 0, none⟩)] (fun e w6 => ∃ (r5 : BA), e = .returned (.string r5) ∧
 R (.returned (.string r5)) w6) w4) w2

noncomputable def g_zzPairs_Replace.ac (R : EP) : AC :=
  (.leaf (sel [] g_zzPairs_Replace.body))
theorem g_zzPairs_Replace.good (R : EP) : Good P 10 (g_zzPairs_Replace.ac R) (QF P [.tmp 4] R) :=
  trivial
theorem g_zzPairs_Replace.eq (R : EP) (x0q : OA) (x0n : Nat) (x0c : Nat) (x1 : BA) (w : World) : g_zzPairs_Replace R x0q x0n x0c x1 w = vcA P 10 (g_zzPairs_Replace.ac R) (QF P [.tmp 4] R) (fr0 [.slice x0q x0n x0c, .string x1]) w := by kernel_rfl
theorem g_zzPairs_Replace.sound {R : EP} {x0q : OA} {x0n : Nat} {x0c : Nat} {x1 : ByteArray} {w : World} (h : g_zzPairs_Replace R x0q x0n x0c x1 w) : callE P i_zzPairs_Replace #[.slice x0q x0n x0c, .string x1] R w :=
  callE_fin (c := g_zzPairs_Replace.body) Tryz.func298 Tryz.call298 (by kernel_rfl) (by kernel_rfl) (by kernel_rfl) (by kernel_rfl) (by kernel_rfl) (g_zzPairs_Replace.good R) (g_zzPairs_Replace.eq R x0q x0n x0c x1 w) h
namespace g_zzPairs_WriteString
noncomputable def body : Code := bodyOf Tryz.f302
def bl2 (R : EP) (X0_1_1_0 : OA → Nat → Nat → OA → BA → Int → WP) (X0_1_1_0_0_1_0_0_0_1_0 : OA → Nat → Nat → OA → BA → Int → Int → WP) (x0q : OA) (x0n : Nat) (x0c : Nat) (x1 : OA) (x2 : BA) (x6 : Int) (x7 : Int) (w : World) : Prop :=
 br (decide (x7 < (x0n : Int)))
 (tk w fun w1 =>
 0 ≤ x6 ∧ x6 < (x2.size : Int) ∧
 0 ≤ x7 ∧ x7 < (x0n : Int) ∧
 nilP x0q fun a2 =>
 ∃ (v3 : BA), w1.cell? (a2.add (Int.toNat x7 * 1)) = some (.string v3) ∧
 0 ≤ (0 : Int) ∧ 0 < (v3.size : Int) ∧
 br ((bt x2 x6) == (bt v3 0))
 (0 ≤ (IntKind.i64.wrap (x7 + 1)) ∧ (IntKind.i64.wrap (x7 + 1)) < (x0n : Int) ∧
 nilP x0q fun a4 =>
 ∃ (v5 : BA), w1.cell? (a4.add (Int.toNat (IntKind.i64.wrap (x7 + 1)) * 1)) = some (.string v5) ∧
 callE P i_bytes_Buffer_WriteString #[.pointer x1, .string v5] (fun e w7 => ∃ (r6_0 : Int), ∃ (r6_1 : Value), e = .returned (.tuple #[.int .i64 r6_0, r6_1]) ∧
 X0_1_1_0 x0q x0n x0c x1 x2 (IntKind.i64.wrap (x6 + 1)) w7) w1)
 (X0_1_1_0_0_1_0_0_0_1_0 x0q x0n x0c x1 x2 x6 (IntKind.i64.wrap (x7 + 2)) w1))
 (0 ≤ x6 ∧ x6 < (x2.size : Int) ∧
 callE P i_bytes_Buffer_WriteByte #[.pointer x1, .int .u8 (bt x2 x6)] (fun e w9 => ∃ (r8 : Value), e = .returned r8 ∧
 X0_1_1_0 x0q x0n x0c x1 x2 (IntKind.i64.wrap (x6 + 1)) w9) w)
def l2 (R : EP) (X0_1_1_0 : OA → Nat → Nat → OA → BA → Int → WP) (x0q : OA) (x0n : Nat) (x0c : Nat) (x1 : OA) (x2 : BA) (x6 : Int) (x7 : Int) (w : World) : Prop :=
  ∀ X : OA → Nat → Nat → OA → BA → Int → Int → WP, (∀ x0q x0n x0c x1 x2 x6 x7 w, bl2 R X0_1_1_0 X x0q x0n x0c x1 x2 x6 x7 w → X x0q x0n x0c x1 x2 x6 x7 w) → X x0q x0n x0c x1 x2 x6 x7 w

noncomputable def al2 (R : EP) (X0_1_1_0 : OA → Nat → Nat → OA → BA → Int → WP) (X0_1_1_0_0_1_0_0_0_1_0 : OA → Nat → Nat → OA → BA → Int → Int → WP) : AC :=
  (.seq (.leaf (sel [0, 1, 1, 0, 0, 1, 0, 0, 0, 1, 0, 0, 0] body)) (.seq (.block 3 (.seq (.draw (.pure 0 (.pure 1 (.pure 2 (.pure 3 (.pure 4 (.pure 5 (.load 6 (.pure 7 (.pure 8 .done))))))))) (sel [0, 1, 1, 0, 0, 1, 0, 0, 0, 1, 0, 0, 1, 0, 0, 0] body)) (.leaf (sel [0, 1, 1, 0, 0, 1, 0, 0, 0, 1, 0, 0, 1, 0, 0, 1] body)))) (.leaf (sel [0, 1, 1, 0, 0, 1, 0, 0, 0, 1, 0, 0, 1, 1] body))))
def bl1 (R : EP) (X0_1_1_0 : OA → Nat → Nat → OA → BA → Int → WP) (x0q : OA) (x0n : Nat) (x0c : Nat) (x1 : OA) (x2 : BA) (x6 : Int) (w : World) : Prop :=
 br (decide (x6 < (x2.size : Int)))
 (l2 R X0_1_1_0 x0q x0n x0c x1 x2 x6 0 w)
 (R (.returned (.tuple #[])) w)
def l1 (R : EP) (x0q : OA) (x0n : Nat) (x0c : Nat) (x1 : OA) (x2 : BA) (x6 : Int) (w : World) : Prop :=
  ∀ X : OA → Nat → Nat → OA → BA → Int → WP, (∀ x0q x0n x0c x1 x2 x6 w, bl1 R X x0q x0n x0c x1 x2 x6 w → X x0q x0n x0c x1 x2 x6 w) → X x0q x0n x0c x1 x2 x6 w

noncomputable def al1 (R : EP) (X0_1_1_0 : OA → Nat → Nat → OA → BA → Int → WP) : AC :=
  (.seq (.leaf (sel [0, 1, 1, 0, 0, 0] body)) (.seq (.block 1 (.seq (.seq (.leaf (sel [0, 1, 1, 0, 0, 1, 0, 0, 0, 0] body)) (.block 2 (.loop (leaf [(0, .s .slice), (1, .s .ptr), (2, .s .str), (6, .s (.int .i64)), (7, .s (.int .i64))] (l2 R X0_1_1_0)) (sel [0, 1, 1, 0, 0, 1, 0, 0, 0, 1, 0, 0] body)))) (.leaf (sel [0, 1, 1, 0, 0, 1, 0, 0, 1] body)))) (.leaf (sel [0, 1, 1, 0, 0, 1, 1] body))))
end g_zzPairs_WriteString
def g_zzPairs_WriteString (R : EP) (x0q : OA) (x0n : Nat) (x0c : Nat) (x1 : OA) (x2 : BA) (w : World) : Prop :=
 g_zzPairs_WriteString.l1 R x0q x0n x0c x1 x2 0 w

noncomputable def g_zzPairs_WriteString.ac (R : EP) : AC :=
  (.scope (.seq (.leaf (sel [0, 0] g_zzPairs_WriteString.body)) (.seq (.leaf (sel [0, 1, 0] g_zzPairs_WriteString.body)) (.block 0 (.loop (leaf [(0, .s .slice), (1, .s .ptr), (2, .s .str), (6, .s (.int .i64))] (g_zzPairs_WriteString.l1 R)) (sel [0, 1, 1, 0, 0] g_zzPairs_WriteString.body))))))
theorem g_zzPairs_WriteString.good (R : EP) : Good P 41 (g_zzPairs_WriteString.ac R) (QF P [] R) :=
  ⟨trivial, ⟨trivial, (loopG (g_zzPairs_WriteString.al1 R) (g_zzPairs_WriteString.bl1 R) (fun _ => by kernel_rfl) (fun X0_1_1_0 => ⟨trivial, ⟨⟨⟨trivial, (loopG (g_zzPairs_WriteString.al2 R X0_1_1_0) (g_zzPairs_WriteString.bl2 R X0_1_1_0) (fun _ => by kernel_rfl) (fun X0_1_1_0_0_1_0_0_0_1_0 => ⟨trivial, ⟨⟨⟨by kernel_rfl, by kernel_rfl, fun _ _ _ h => h⟩, trivial⟩, trivial⟩⟩) (fun X0_1_1_0_0_1_0_0_0_1_0 => by intro x0q x0n x0c x1 x2 x6 x7 ρ w; kernel_rfl) (fun X h _ _ _ _ _ _ _ _ g => g X h))⟩, trivial⟩, trivial⟩⟩) (fun X0_1_1_0 => by intro x0q x0n x0c x1 x2 x6 ρ w; kernel_rfl) (fun X h _ _ _ _ _ _ _ g => g X h))⟩⟩
theorem g_zzPairs_WriteString.eq (R : EP) (x0q : OA) (x0n : Nat) (x0c : Nat) (x1 : OA) (x2 : BA) (w : World) : g_zzPairs_WriteString R x0q x0n x0c x1 x2 w = vcA P 41 (g_zzPairs_WriteString.ac R) (QF P [] R) (fr0 [.slice x0q x0n x0c, .pointer x1, .string x2]) w := by kernel_rfl
theorem g_zzPairs_WriteString.sound {R : EP} {x0q : OA} {x0n : Nat} {x0c : Nat} {x1 : OA} {x2 : ByteArray} {w : World} (h : g_zzPairs_WriteString R x0q x0n x0c x1 x2 w) : callE P i_zzPairs_WriteString #[.slice x0q x0n x0c, .pointer x1, .string x2] R w :=
  callE_fin (c := g_zzPairs_WriteString.body) Tryz.func302 Tryz.call302 (by kernel_rfl) (by kernel_rfl) (by kernel_rfl) (by kernel_rfl) (by kernel_rfl) (g_zzPairs_WriteString.good R) (g_zzPairs_WriteString.eq R x0q x0n x0c x1 x2 w) h
namespace g_strings_Builder_String
noncomputable def body : Code := bodyOf Tryz.f84
end g_strings_Builder_String
def g_strings_Builder_String (R : EP) (x0 : OA) (w : World) : Prop :=
 tk w fun w1 =>
 nilP x0 fun a2 =>
 nilP x0 fun a3 =>
 ∃ (v4q : OA), ∃ (v4n : Nat), ∃ (v4c : Nat), w1.cell? (a2.add 1) = some (.slice v4q v4n v4c) ∧
 ∃ (v5q : OA), ∃ (v5n : Nat), ∃ (v5c : Nat), w1.cell? (a3.add 1) = some (.slice v5q v5n v5c) ∧
 ∃ (r6 : OA), ∃ w7, (Builtin.unsafeSliceData_ #[ty_S_uint8] ty_P_uint8 #[.slice v4q v4n v4c]).run P w1 = .ok (.pointer r6) w7 ∧
 SameC w1 w7 (a3.add 1) 1 ∧
 ∃ (r8 : BA), ∃ w9, (Builtin.unsafeString_ #[ty_P_uint8, ty_int] ty_string #[.pointer r6, .int .i64 (v5n : Int)]).run P w7 = .ok (.string r8) w9 ∧
 R (.returned (.string r8)) w9

noncomputable def g_strings_Builder_String.ac (R : EP) : AC :=
  (.seq (.leaf (sel [0] g_strings_Builder_String.body)) (.seq (.draw (.pure 0 (.pure 1 (.pure 2 (.pure 5 (.pure 6 (.pure 7 (.load 3 (.load 8 (.pure 9 (.one 4 (.one 10 (.pure 11 .done)))))))))))) (sel [1, 0] g_strings_Builder_String.body)) (.leaf (sel [1, 1] g_strings_Builder_String.body))))
theorem g_strings_Builder_String.good (R : EP) : Good P 14 (g_strings_Builder_String.ac R) (QF P [.tmp 2] R) :=
  ⟨trivial, ⟨⟨by kernel_rfl, by kernel_rfl, fun _ _ _ h => h⟩, trivial⟩⟩
theorem g_strings_Builder_String.eq (R : EP) (x0 : OA) (w : World) : g_strings_Builder_String R x0 w = vcA P 14 (g_strings_Builder_String.ac R) (QF P [.tmp 2] R) (fr0 [.pointer x0]) w := by kernel_rfl
theorem g_strings_Builder_String.sound {R : EP} {x0 : OA} {w : World} (h : g_strings_Builder_String R x0 w) : callE P i_strings_Builder_String #[.pointer x0] R w :=
  callE_fin (c := g_strings_Builder_String.body) Tryz.func84 Tryz.call84 (by kernel_rfl) (by kernel_rfl) (by kernel_rfl) (by kernel_rfl) (by kernel_rfl) (g_strings_Builder_String.good R) (g_strings_Builder_String.eq R x0 w) h
namespace g_strings_Builder_WriteString
noncomputable def body : Code := bodyOf Tryz.f82
end g_strings_Builder_WriteString
def g_strings_Builder_WriteString (R : EP) (x0 : OA) (x1 : BA) (w : World) : Prop :=
 callE P i_strings_Builder_copyCheck #[.pointer x0] (fun e w2 => e = .returned (.tuple #[]) ∧
 nilP x0 fun a3 =>
 ∃ (v4q : OA), ∃ (v4n : Nat), ∃ (v4c : Nat), w2.cell? (a3.add 1) = some (.slice v4q v4n v4c) ∧
 ∃ (r5q : OA), ∃ (r5n : Nat), ∃ (r5c : Nat), ∃ w6, (Builtin.append_ #[ty_S_uint8, ty_string] ty_S_uint8 #[.slice v4q v4n v4c, .string x1]).run P w2 = .ok (.slice r5q r5n r5c) w6 ∧
 nilP x0 fun a7 =>
 stV w6 ((a7.add 1).add 0) (.slice r5q r5n r5c) fun w8 =>
 R (.returned (.tuple #[.int .i64 (x1.size : Int), .nilIface])) w8) w

noncomputable def g_strings_Builder_WriteString.ac (R : EP) : AC :=
  (.leaf (sel [] g_strings_Builder_WriteString.body))
theorem g_strings_Builder_WriteString.good (R : EP) : Good P 19 (g_strings_Builder_WriteString.ac R) (QF P [.tmp 4, .tmp 5] R) :=
  trivial
theorem g_strings_Builder_WriteString.eq (R : EP) (x0 : OA) (x1 : BA) (w : World) : g_strings_Builder_WriteString R x0 x1 w = vcA P 19 (g_strings_Builder_WriteString.ac R) (QF P [.tmp 4, .tmp 5] R) (fr0 [.pointer x0, .string x1]) w := by kernel_rfl
theorem g_strings_Builder_WriteString.sound {R : EP} {x0 : OA} {x1 : ByteArray} {w : World} (h : g_strings_Builder_WriteString R x0 x1 w) : callE P i_strings_Builder_WriteString #[.pointer x0, .string x1] R w :=
  callE_fin (c := g_strings_Builder_WriteString.body) Tryz.func82 Tryz.call82 (by kernel_rfl) (by kernel_rfl) (by kernel_rfl) (by kernel_rfl) (by kernel_rfl) (g_strings_Builder_WriteString.good R) (g_strings_Builder_WriteString.eq R x0 x1 w) h
namespace g_strings_Builder_copyCheck
noncomputable def body : Code := bodyOf Tryz.f122
end g_strings_Builder_copyCheck
def g_strings_Builder_copyCheck (R : EP) (x0 : OA) (w : World) : Prop :=
 nilP x0 fun a1 =>
 ∃ (v2 : OA), w.cell? a1 = some (.pointer v2) ∧
 ∃ (r3 : Bool), ∃ w4, (do eqGuard .eql ty_P_strings_Builder (.tmp 5) (.const (.pointer none)) (.pointer v2) (.pointer none); binOp .eql ty_P_strings_Builder (.pointer v2) (.pointer none)).run P w = .ok (.bool r3) w4 ∧
 br r3
 (∃ (r5 : OA), ∃ w6, (convert ty_P_strings_Builder ty_unsafe_Pointer (.pointer x0)).run P w4 = .ok (.pointer r5) w6 ∧
 callE P i_internal_abi_NoEscape #[.pointer r5] (fun e w8 => ∃ (r7 : OA), e = .returned (.pointer r7) ∧
 ∃ (r9 : OA), ∃ w10, (convert ty_unsafe_Pointer ty_P_strings_Builder (.pointer r7)).run P w8 = .ok (.pointer r9) w10 ∧
 nilP x0 fun a11 =>
 stV w10 (a11.add 0) (.pointer r9) fun w12 =>
 R (.returned (.tuple #[])) w12) w6)
 (nilP x0 fun a13 =>
 ∃ (v14 : OA), w4.cell? a13 = some (.pointer v14) ∧
 ∃ (r15 : Bool), ∃ w16, (do eqGuard .neq ty_P_strings_Builder (.tmp 17) (.tmp 18) (.pointer v14) (.pointer x0); binOp .neq ty_P_strings_Builder (.pointer v14) (.pointer x0)).run P w4 = .ok (.bool r15) w16 ∧
 br r15
 (False)
 (R (.returned (.tuple #[])) w16))

noncomputable def g_strings_Builder_copyCheck.ac (R : EP) : AC :=
  (.leaf (sel [] g_strings_Builder_copyCheck.body))
theorem g_strings_Builder_copyCheck.good (R : EP) : Good P 20 (g_strings_Builder_copyCheck.ac R) (QF P [] R) :=
  trivial
theorem g_strings_Builder_copyCheck.eq (R : EP) (x0 : OA) (w : World) : g_strings_Builder_copyCheck R x0 w = vcA P 20 (g_strings_Builder_copyCheck.ac R) (QF P [] R) (fr0 [.pointer x0]) w := by kernel_rfl
theorem g_strings_Builder_copyCheck.sound {R : EP} {x0 : OA} {w : World} (h : g_strings_Builder_copyCheck R x0 w) : callE P i_strings_Builder_copyCheck #[.pointer x0] R w :=
  callE_fin (c := g_strings_Builder_copyCheck.body) Tryz.func122 Tryz.call122 (by kernel_rfl) (by kernel_rfl) (by kernel_rfl) (by kernel_rfl) (by kernel_rfl) (g_strings_Builder_copyCheck.good R) (g_strings_Builder_copyCheck.eq R x0 w) h
namespace g_bytes_Buffer_String
noncomputable def body : Code := bodyOf Tryz.f44
end g_bytes_Buffer_String
def g_bytes_Buffer_String (R : EP) (x0 : OA) (w : World) : Prop :=
 ∃ (r1 : Bool), ∃ w2, (do eqGuard .eql ty_P_bytes_Buffer (.tmp 3) (.const (.pointer none)) (.pointer x0) (.pointer none); binOp .eql ty_P_bytes_Buffer (.pointer x0) (.pointer none)).run P w = .ok (.bool r1) w2 ∧
 br r1
 (R (.returned (.string (ByteArray.mk #[60, 110, 105, 108, 62]))) w2)
 (tk w2 fun w3 =>
 nilP x0 fun a4 =>
 nilP x0 fun a5 =>
 ∃ (v6q : OA), ∃ (v6n : Nat), ∃ (v6c : Nat), w3.cell? a4 = some (.slice v6q v6n v6c) ∧
 ∃ (v7 : Int), w3.cell? (a5.add 1) = some (.int .i64 v7) ∧
 ∃ (r8q : OA), ∃ (r8n : Nat), ∃ (r8c : Nat), (∀ w, (Instr.sliceAt ty_S_uint8 (.slice v6q v6n v6c) (some (.int .i64 v7)) none none).run P w = .ok (.slice r8q r8n r8c) w) ∧
 ∃ (r9 : BA), ∃ w10, (convert ty_S_uint8 ty_string (.slice r8q r8n r8c)).run P w3 = .ok (.string r9) w10 ∧
 R (.returned (.string r9)) w10)

noncomputable def g_bytes_Buffer_String.ac (R : EP) : AC :=
  (.seq (.leaf (sel [0] g_bytes_Buffer_String.body)) (.seq (.leaf (sel [1, 0] g_bytes_Buffer_String.body)) (.seq (.draw (.pure 0 (.pure 1 (.pure 2 (.pure 4 (.pure 5 (.pure 6 (.load 3 (.load 7 (.pure 8 (.one 9 (.pure 10 .done))))))))))) (sel [1, 1, 0] g_bytes_Buffer_String.body)) (.leaf (sel [1, 1, 1] g_bytes_Buffer_String.body)))))
theorem g_bytes_Buffer_String.good (R : EP) : Good P 15 (g_bytes_Buffer_String.ac R) (QF P [.tmp 2] R) :=
  ⟨trivial, ⟨trivial, ⟨⟨by kernel_rfl, by kernel_rfl, fun _ _ _ h => h⟩, trivial⟩⟩⟩
theorem g_bytes_Buffer_String.eq (R : EP) (x0 : OA) (w : World) : g_bytes_Buffer_String R x0 w = vcA P 15 (g_bytes_Buffer_String.ac R) (QF P [.tmp 2] R) (fr0 [.pointer x0]) w := by kernel_rfl
theorem g_bytes_Buffer_String.sound {R : EP} {x0 : OA} {w : World} (h : g_bytes_Buffer_String R x0 w) : callE P i_bytes_Buffer_String #[.pointer x0] R w :=
  callE_fin (c := g_bytes_Buffer_String.body) Tryz.func44 Tryz.call44 (by kernel_rfl) (by kernel_rfl) (by kernel_rfl) (by kernel_rfl) (by kernel_rfl) (g_bytes_Buffer_String.good R) (g_bytes_Buffer_String.eq R x0 w) h
namespace g_bytes_Buffer_WriteByte
noncomputable def body : Code := bodyOf Tryz.f305
def k1 (R : EP) (x0 : OA) (x1 : Int) (x5 : Int) (w : World) : Prop :=
 nilP x0 fun a7 =>
 ∃ (v8q : OA), ∃ (v8n : Nat), ∃ (v8c : Nat), w.cell? a7 = some (.slice v8q v8n v8c) ∧
 0 ≤ x5 ∧ x5 < (v8n : Int) ∧
 nilP v8q fun a9 =>
 stV w ((a9.add (Int.toNat x5 * 1)).add 0) (.int .u8 x1) fun w10 =>
 R (.returned .nilIface) w10

end g_bytes_Buffer_WriteByte
def g_bytes_Buffer_WriteByte (R : EP) (x0 : OA) (x1 : Int) (w : World) : Prop :=
 nilP x0 fun a1 =>
 stV w ((a1.add 2).add 0) (.int .i8 0) fun w2 =>
 callE P i_bytes_Buffer_tryGrowByReslice #[.pointer x0, .int .i64 1] (fun e w4 => ∃ (r3_0 : Int), ∃ (r3_1 : Bool), e = .returned (.tuple #[.int .i64 r3_0, .bool r3_1]) ∧
 br (!r3_1)
 (callE P i_bytes_Buffer_grow #[.pointer x0, .int .i64 1] (fun e w6 => ∃ (r5 : Int), e = .returned (.int .i64 r5) ∧
 g_bytes_Buffer_WriteByte.k1 R x0 x1 r5 w6) w4)
 (g_bytes_Buffer_WriteByte.k1 R x0 x1 r3_0 w4)) w2

noncomputable def g_bytes_Buffer_WriteByte.ac (R : EP) : AC :=
  (.seq (.leaf (sel [0] g_bytes_Buffer_WriteByte.body)) (.seq (.leaf (sel [1, 0] g_bytes_Buffer_WriteByte.body)) (.seq (.leaf (sel [1, 1, 0] g_bytes_Buffer_WriteByte.body)) (.seq (.leaf (sel [1, 1, 1, 0] g_bytes_Buffer_WriteByte.body)) (.mark (leaf [(0, .s .ptr), (1, .s (.int .u8)), (5, .s (.int .i64))] (g_bytes_Buffer_WriteByte.k1 R)) (.leaf (sel [1, 1, 1, 1] g_bytes_Buffer_WriteByte.body)))))))
theorem g_bytes_Buffer_WriteByte.good (R : EP) : Good P 26 (g_bytes_Buffer_WriteByte.ac R) (QF P [.tmp 4] R) :=
  ⟨trivial, ⟨trivial, ⟨trivial, ⟨trivial, ⟨trivial, cutE (by intro x0 x1 x5 ρ w; kernel_rfl)⟩⟩⟩⟩⟩
theorem g_bytes_Buffer_WriteByte.eq (R : EP) (x0 : OA) (x1 : Int) (w : World) : g_bytes_Buffer_WriteByte R x0 x1 w = vcA P 26 (g_bytes_Buffer_WriteByte.ac R) (QF P [.tmp 4] R) (fr0 [.pointer x0, .int .u8 x1]) w := by kernel_rfl
theorem g_bytes_Buffer_WriteByte.sound {R : EP} {x0 : OA} {x1 : Int} {w : World} (h : g_bytes_Buffer_WriteByte R x0 x1 w) : callE P i_bytes_Buffer_WriteByte #[.pointer x0, .int .u8 x1] R w :=
  callE_fin (c := g_bytes_Buffer_WriteByte.body) Tryz.func305 Tryz.call305 (by kernel_rfl) (by kernel_rfl) (by kernel_rfl) (by kernel_rfl) (by kernel_rfl) (g_bytes_Buffer_WriteByte.good R) (g_bytes_Buffer_WriteByte.eq R x0 x1 w) h
namespace g_bytes_Buffer_WriteString
noncomputable def body : Code := bodyOf Tryz.f296
def k1 (R : EP) (x0 : OA) (x1 : BA) (x6 : Int) (w : World) : Prop :=
 nilP x0 fun a7 =>
 ∃ (v8q : OA), ∃ (v8n : Nat), ∃ (v8c : Nat), w.cell? a7 = some (.slice v8q v8n v8c) ∧
 ∃ (r9q : OA), ∃ (r9n : Nat), ∃ (r9c : Nat), ∃ w10, (Instr.sliceAt ty_S_uint8 (.slice v8q v8n v8c) (some (.int .i64 x6)) none none).run P w = .ok (.slice r9q r9n r9c) w10 ∧
 ∃ (r11 : Int), ∃ w12, (Builtin.copy_ #[ty_S_uint8, ty_string] ty_int #[.slice r9q r9n r9c, .string x1]).run P w10 = .ok (.int .i64 r11) w12 ∧
 R (.returned (.tuple #[.int .i64 r11, .nilIface])) w12

end g_bytes_Buffer_WriteString
def g_bytes_Buffer_WriteString (R : EP) (x0 : OA) (x1 : BA) (w : World) : Prop :=
 nilP x0 fun a1 =>
 stV w ((a1.add 2).add 0) (.int .i8 0) fun w2 =>
 callE P i_bytes_Buffer_tryGrowByReslice #[.pointer x0, .int .i64 (x1.size : Int)] (fun e w4 => ∃ (r3_0 : Int), ∃ (r3_1 : Bool), e = .returned (.tuple #[.int .i64 r3_0, .bool r3_1]) ∧
 br (!r3_1)
 (callE P i_bytes_Buffer_grow #[.pointer x0, .int .i64 (x1.size : Int)] (fun e w6 => ∃ (r5 : Int), e = .returned (.int .i64 r5) ∧
 g_bytes_Buffer_WriteString.k1 R x0 x1 r5 w6) w4)
 (g_bytes_Buffer_WriteString.k1 R x0 x1 r3_0 w4)) w2

noncomputable def g_bytes_Buffer_WriteString.ac (R : EP) : AC :=
  (.seq (.leaf (sel [0] g_bytes_Buffer_WriteString.body)) (.seq (.leaf (sel [1, 0] g_bytes_Buffer_WriteString.body)) (.seq (.leaf (sel [1, 1, 0] g_bytes_Buffer_WriteString.body)) (.seq (.leaf (sel [1, 1, 1, 0] g_bytes_Buffer_WriteString.body)) (.mark (leaf [(0, .s .ptr), (1, .s .str), (6, .s (.int .i64))] (g_bytes_Buffer_WriteString.k1 R)) (.leaf (sel [1, 1, 1, 1] g_bytes_Buffer_WriteString.body)))))))
theorem g_bytes_Buffer_WriteString.good (R : EP) : Good P 32 (g_bytes_Buffer_WriteString.ac R) (QF P [.tmp 4, .tmp 5] R) :=
  ⟨trivial, ⟨trivial, ⟨trivial, ⟨trivial, ⟨trivial, cutE (by intro x0 x1 x6 ρ w; kernel_rfl)⟩⟩⟩⟩⟩
theorem g_bytes_Buffer_WriteString.eq (R : EP) (x0 : OA) (x1 : BA) (w : World) : g_bytes_Buffer_WriteString R x0 x1 w = vcA P 32 (g_bytes_Buffer_WriteString.ac R) (QF P [.tmp 4, .tmp 5] R) (fr0 [.pointer x0, .string x1]) w := by kernel_rfl
theorem g_bytes_Buffer_WriteString.sound {R : EP} {x0 : OA} {x1 : ByteArray} {w : World} (h : g_bytes_Buffer_WriteString R x0 x1 w) : callE P i_bytes_Buffer_WriteString #[.pointer x0, .string x1] R w :=
  callE_fin (c := g_bytes_Buffer_WriteString.body) Tryz.func296 Tryz.call296 (by kernel_rfl) (by kernel_rfl) (by kernel_rfl) (by kernel_rfl) (by kernel_rfl) (g_bytes_Buffer_WriteString.good R) (g_bytes_Buffer_WriteString.eq R x0 x1 w) h
namespace g_bytes_Buffer_grow
noncomputable def body : Code := bodyOf Tryz.f301
def k3 (R : EP) (x0 : OA) (x1 : Int) (x5 : Int) (w : World) : Prop :=
 nilP x0 fun a44 =>
 stV w ((a44.add 1).add 0) (.int .i64 0) fun w45 =>
 nilP x0 fun a46 =>
 ∃ (v47q : OA), ∃ (v47n : Nat), ∃ (v47c : Nat), w45.cell? a46 = some (.slice v47q v47n v47c) ∧
 ∃ (r48q : OA), ∃ (r48n : Nat), ∃ (r48c : Nat), ∃ w49, (Instr.sliceAt ty_S_uint8 (.slice v47q v47n v47c) none (some (.int .i64 (IntKind.i64.wrap (x5 + x1)))) none).run P w45 = .ok (.slice r48q r48n r48c) w49 ∧
 nilP x0 fun a50 =>
 stV w49 (a50.add 0) (.slice r48q r48n r48c) fun w51 =>
 R (.returned (.int .i64 x5)) w51

def k2 (R : EP) (x0 : OA) (x1 : Int) (x5 : Int) (x38 : Bool) (w : World) : Prop :=
 br x38
 (∃ (r13q : OA), ∃ (r13n : Nat), ∃ (r13c : Nat), ∃ w14, (Instr.makeSlice ty_S_uint8 (.int .i64 x1) (.int .i64 64)).run P w = .ok (.slice r13q r13n r13c) w14 ∧
 nilP x0 fun a15 =>
 stV w14 (a15.add 0) (.slice r13q r13n r13c) fun w16 =>
 R (.returned (.int .i64 0)) w16)
 (nilP x0 fun a17 =>
 ∃ (v18q : OA), ∃ (v18n : Nat), ∃ (v18c : Nat), w.cell? a17 = some (.slice v18q v18n v18c) ∧
 ∃ (r19 : Int), ∃ w20, (Builtin.cap_ #[ty_S_uint8] ty_int #[.slice v18q v18n v18c]).run P w = .ok (.int .i64 r19) w20 ∧
 (2 : Int) ≠ 0 ∧
 br (decide (x1 ≤ (IntKind.i64.wrap ((IntKind.i64.wrap (Int.tdiv r19 2)) - x5))))
 (tk w20 fun w21 =>
 nilP x0 fun a22 =>
 nilP x0 fun a23 =>
 nilP x0 fun a24 =>
 ∃ (v25q : OA), ∃ (v25n : Nat), ∃ (v25c : Nat), w21.cell? a22 = some (.slice v25q v25n v25c) ∧
 ∃ (v26q : OA), ∃ (v26n : Nat), ∃ (v26c : Nat), w21.cell? a23 = some (.slice v26q v26n v26c) ∧
 ∃ (v27 : Int), w21.cell? (a24.add 1) = some (.int .i64 v27) ∧
 ∃ (r28q : OA), ∃ (r28n : Nat), ∃ (r28c : Nat), (∀ w, (Instr.sliceAt ty_S_uint8 (.slice v26q v26n v26c) (some (.int .i64 v27)) none none).run P w = .ok (.slice r28q r28n r28c) w) ∧
 ∃ (r29 : Int), ∃ w30, (Builtin.copy_ #[ty_S_uint8, ty_S_uint8] ty_int #[.slice v25q v25n v25c, .slice r28q r28n r28c]).run P w21 = .ok (.int .i64 r29) w30 ∧
 k3 R x0 x1 x5 w30)
 (br (decide (r19 > (IntKind.i64.wrap ((IntKind.i64.wrap (9223372036854775807 - r19)) - x1))))
 (∃ (v31 : Value), w20.cell? ⟨9, 0, none⟩ = some v31 ∧
 False)
 (tk w20 fun w32 =>
 nilP x0 fun a33 =>
 nilP x0 fun a34 =>
 nilP x0 fun a35 =>
 ∃ (v36q : OA), ∃ (v36n : Nat), ∃ (v36c : Nat), w32.cell? a33 = some (.slice v36q v36n v36c) ∧
 ∃ (v37 : Int), w32.cell? (a34.add 1) = some (.int .i64 v37) ∧
 ∃ (r38q : OA), ∃ (r38n : Nat), ∃ (r38c : Nat), (∀ w, (Instr.sliceAt ty_S_uint8 (.slice v36q v36n v36c) (some (.int .i64 v37)) none none).run P w = .ok (.slice r38q r38n r38c) w) ∧
 ∃ (v39 : Int), w32.cell? (a35.add 1) = some (.int .i64 v39) ∧
 callE P i_bytes_growSlice #[.slice r38q r38n r38c, .int .i64 (IntKind.i64.wrap (v39 + x1))] (fun e w41 => ∃ (r40q : OA), ∃ (r40n : Nat), ∃ (r40c : Nat), e = .returned (.slice r40q r40n r40c) ∧
 nilP x0 fun a42 =>
 stV w41 (a42.add 0) (.slice r40q r40n r40c) fun w43 =>
 k3 R x0 x1 x5 w43) w32)))

def k1 (R : EP) (x0 : OA) (x1 : Int) (x5 : Int) (w : World) : Prop :=
 callE P i_bytes_Buffer_tryGrowByReslice #[.pointer x0, .int .i64 x1] (fun e w8 => ∃ (r7_0 : Int), ∃ (r7_1 : Bool), e = .returned (.tuple #[.int .i64 r7_0, .bool r7_1]) ∧
 br r7_1
 (R (.returned (.int .i64 r7_0)) w8)
 (nilP x0 fun a9 =>
 ∃ (v10q : OA), ∃ (v10n : Nat), ∃ (v10c : Nat), w8.cell? a9 = some (.slice v10q v10n v10c) ∧
 ∃ (r11 : Bool), ∃ w12, (do eqGuard .eql ty_S_uint8 (.tmp 33) (.const (.slice none 0 0)) (.slice v10q v10n v10c) (.slice none 0 0); binOp .eql ty_S_uint8 (.slice v10q v10n v10c) (.slice none 0 0)).run P w8 = .ok (.bool r11) w12 ∧
 k2 R x0 x1 x5 (r11 && (decide (x1 ≤ 64))) w12)) w

end g_bytes_Buffer_grow
def g_bytes_Buffer_grow (R : EP) (x0 : OA) (x1 : Int) (w : World) : Prop :=
 callE P i_bytes_Buffer_Len #[.pointer x0] (fun e w2 => ∃ (r1 : Int), e = .returned (.int .i64 r1) ∧
 br (r1 == 0)
 (nilP x0 fun a3 =>
 ∃ (v4 : Int), w2.cell? (a3.add 1) = some (.int .i64 v4) ∧
 br (v4 != 0)
 (callE P i_bytes_Buffer_Reset #[.pointer x0] (fun e w6 => e = .returned (.tuple #[]) ∧
 g_bytes_Buffer_grow.k1 R x0 x1 r1 w6) w2)
 (g_bytes_Buffer_grow.k1 R x0 x1 r1 w2))
 (g_bytes_Buffer_grow.k1 R x0 x1 r1 w2)) w

noncomputable def g_bytes_Buffer_grow.ac (R : EP) : AC :=
  (.seq (.leaf (sel [0] g_bytes_Buffer_grow.body)) (.seq (.leaf (sel [1, 0] g_bytes_Buffer_grow.body)) (.seq (.leaf (sel [1, 1, 0] g_bytes_Buffer_grow.body)) (.mark (leaf [(0, .s .ptr), (1, .s (.int .i64)), (5, .s (.int .i64))] (g_bytes_Buffer_grow.k1 R)) (.seq (.leaf (sel [1, 1, 1, 0] g_bytes_Buffer_grow.body)) (.seq (.seq (.leaf (sel [1, 1, 1, 1, 0, 0] g_bytes_Buffer_grow.body)) (.mark (leaf [(0, .s .ptr), (1, .s (.int .i64)), (5, .s (.int .i64)), (38, .s .bool)] (g_bytes_Buffer_grow.k2 R)) (.leaf (sel [1, 1, 1, 1, 0, 1] g_bytes_Buffer_grow.body)))) (.seq (.leaf (sel [1, 1, 1, 1, 1, 0] g_bytes_Buffer_grow.body)) (.seq (.seq (.leaf (sel [1, 1, 1, 1, 1, 1, 0, 0] g_bytes_Buffer_grow.body)) (.cond 54 (.draw (.pure 0 (.pure 1 (.pure 2 (.pure 4 (.pure 5 (.pure 6 (.pure 8 (.pure 9 (.pure 10 (.load 3 (.load 7 (.load 11 (.pure 12 (.one 13 .done)))))))))))))) (sel [1, 1, 1, 1, 1, 1, 0, 1, 0] g_bytes_Buffer_grow.body)) (.seq (.leaf (sel [1, 1, 1, 1, 1, 1, 0, 1, 1, 0] g_bytes_Buffer_grow.body)) (.cond 74 (.leaf (sel [1, 1, 1, 1, 1, 1, 0, 1, 1, 1, 0] g_bytes_Buffer_grow.body)) (.draw (.pure 0 (.pure 1 (.pure 2 (.pure 3 (.pure 5 (.pure 6 (.pure 7 (.pure 10 (.pure 11 (.pure 12 (.pure 14 (.load 4 (.load 8 (.pure 9 (.load 13 (.pure 15 (.one 16 (.pure 17 (.pure 18 (.one 19 .done)))))))))))))))))))) (sel [1, 1, 1, 1, 1, 1, 0, 1, 1, 1, 1] g_bytes_Buffer_grow.body)))))) (.mark (leaf [(0, .s .ptr), (1, .s (.int .i64)), (5, .s (.int .i64))] (g_bytes_Buffer_grow.k3 R)) (.leaf (sel [1, 1, 1, 1, 1, 1, 1] g_bytes_Buffer_grow.body)))))))))))
theorem g_bytes_Buffer_grow.good (R : EP) : Good P 110 (g_bytes_Buffer_grow.ac R) (QF P [.tmp 4] R) :=
  ⟨trivial, ⟨trivial, ⟨trivial, ⟨⟨trivial, ⟨⟨trivial, ⟨trivial, cutE (by intro x0 x1 x5 x38 ρ w; kernel_rfl)⟩⟩, ⟨trivial, ⟨⟨trivial, ⟨⟨by kernel_rfl, by kernel_rfl, fun _ _ _ h => h⟩, ⟨trivial, ⟨trivial, ⟨by kernel_rfl, by kernel_rfl, fun _ _ _ h => h⟩⟩⟩⟩⟩, ⟨trivial, cutE (by intro x0 x1 x5 ρ w; kernel_rfl)⟩⟩⟩⟩⟩, cutE (by intro x0 x1 x5 ρ w; kernel_rfl)⟩⟩⟩⟩
theorem g_bytes_Buffer_grow.eq (R : EP) (x0 : OA) (x1 : Int) (w : World) : g_bytes_Buffer_grow R x0 x1 w = vcA P 110 (g_bytes_Buffer_grow.ac R) (QF P [.tmp 4] R) (fr0 [.pointer x0, .int .i64 x1]) w := by kernel_rfl
theorem g_bytes_Buffer_grow.sound {R : EP} {x0 : OA} {x1 : Int} {w : World} (h : g_bytes_Buffer_grow R x0 x1 w) : callE P i_bytes_Buffer_grow #[.pointer x0, .int .i64 x1] R w :=
  callE_fin (c := g_bytes_Buffer_grow.body) Tryz.func301 Tryz.call301 (by kernel_rfl) (by kernel_rfl) (by kernel_rfl) (by kernel_rfl) (by kernel_rfl) (g_bytes_Buffer_grow.good R) (g_bytes_Buffer_grow.eq R x0 x1 w) h
namespace g_internal_stringslite_IndexByte
noncomputable def body : Code := bodyOf Tryz.f50
end g_internal_stringslite_IndexByte
def g_internal_stringslite_IndexByte (R : EP) (x0 : BA) (x1 : Int) (w : World) : Prop :=
 callE P i_internal_bytealg_IndexByteString #[.string x0, .int .u8 x1] (fun e w2 => ∃ (r1 : Int), e = .returned (.int .i64 r1) ∧
 R (.returned (.int .i64 r1)) w2) w

noncomputable def g_internal_stringslite_IndexByte.ac (R : EP) : AC :=
  (.leaf (sel [] g_internal_stringslite_IndexByte.body))
theorem g_internal_stringslite_IndexByte.good (R : EP) : Good P 8 (g_internal_stringslite_IndexByte.ac R) (QF P [.tmp 4] R) :=
  trivial
theorem g_internal_stringslite_IndexByte.eq (R : EP) (x0 : BA) (x1 : Int) (w : World) : g_internal_stringslite_IndexByte R x0 x1 w = vcA P 8 (g_internal_stringslite_IndexByte.ac R) (QF P [.tmp 4] R) (fr0 [.string x0, .int .u8 x1]) w := by kernel_rfl
theorem g_internal_stringslite_IndexByte.sound {R : EP} {x0 : ByteArray} {x1 : Int} {w : World} (h : g_internal_stringslite_IndexByte R x0 x1 w) : callE P i_internal_stringslite_IndexByte #[.string x0, .int .u8 x1] R w :=
  callE_fin (c := g_internal_stringslite_IndexByte.body) Tryz.func50 Tryz.call50 (by kernel_rfl) (by kernel_rfl) (by kernel_rfl) (by kernel_rfl) (by kernel_rfl) (g_internal_stringslite_IndexByte.good R) (g_internal_stringslite_IndexByte.eq R x0 x1 w) h
namespace g_strings_IndexByte
noncomputable def body : Code := bodyOf Tryz.f33
end g_strings_IndexByte
def g_strings_IndexByte (R : EP) (x0 : BA) (x1 : Int) (w : World) : Prop :=
 callE P i_internal_stringslite_IndexByte #[.string x0, .int .u8 x1] (fun e w2 => ∃ (r1 : Int), e = .returned (.int .i64 r1) ∧
 R (.returned (.int .i64 r1)) w2) w

noncomputable def g_strings_IndexByte.ac (R : EP) : AC :=
  (.leaf (sel [] g_strings_IndexByte.body))
theorem g_strings_IndexByte.good (R : EP) : Good P 8 (g_strings_IndexByte.ac R) (QF P [.tmp 4] R) :=
  trivial
theorem g_strings_IndexByte.eq (R : EP) (x0 : BA) (x1 : Int) (w : World) : g_strings_IndexByte R x0 x1 w = vcA P 8 (g_strings_IndexByte.ac R) (QF P [.tmp 4] R) (fr0 [.string x0, .int .u8 x1]) w := by kernel_rfl
theorem g_strings_IndexByte.sound {R : EP} {x0 : ByteArray} {x1 : Int} {w : World} (h : g_strings_IndexByte R x0 x1 w) : callE P i_strings_IndexByte #[.string x0, .int .u8 x1] R w :=
  callE_fin (c := g_strings_IndexByte.body) Tryz.func33 Tryz.call33 (by kernel_rfl) (by kernel_rfl) (by kernel_rfl) (by kernel_rfl) (by kernel_rfl) (g_strings_IndexByte.good R) (g_strings_IndexByte.eq R x0 x1 w) h
namespace g_bytes_Buffer_Len
noncomputable def body : Code := bodyOf Tryz.f303
end g_bytes_Buffer_Len
def g_bytes_Buffer_Len (R : EP) (x0 : OA) (w : World) : Prop :=
 tk w fun w1 =>
 nilP x0 fun a2 =>
 nilP x0 fun a3 =>
 ∃ (v4q : OA), ∃ (v4n : Nat), ∃ (v4c : Nat), w1.cell? a2 = some (.slice v4q v4n v4c) ∧
 ∃ (v5 : Int), w1.cell? (a3.add 1) = some (.int .i64 v5) ∧
 R (.returned (.int .i64 (IntKind.i64.wrap ((v4n : Int) - v5)))) w1

noncomputable def g_bytes_Buffer_Len.ac (R : EP) : AC :=
  (.seq (.leaf (sel [0] g_bytes_Buffer_Len.body)) (.seq (.draw (.pure 0 (.pure 1 (.pure 2 (.pure 5 (.pure 6 (.pure 7 (.load 3 (.pure 4 (.load 8 (.pure 9 (.pure 10 .done))))))))))) (sel [1, 0] g_bytes_Buffer_Len.body)) (.leaf (sel [1, 1] g_bytes_Buffer_Len.body))))
theorem g_bytes_Buffer_Len.good (R : EP) : Good P 13 (g_bytes_Buffer_Len.ac R) (QF P [.tmp 2] R) :=
  ⟨trivial, ⟨⟨by kernel_rfl, by kernel_rfl, fun _ _ _ h => h⟩, trivial⟩⟩
theorem g_bytes_Buffer_Len.eq (R : EP) (x0 : OA) (w : World) : g_bytes_Buffer_Len R x0 w = vcA P 13 (g_bytes_Buffer_Len.ac R) (QF P [.tmp 2] R) (fr0 [.pointer x0]) w := by kernel_rfl
theorem g_bytes_Buffer_Len.sound {R : EP} {x0 : OA} {w : World} (h : g_bytes_Buffer_Len R x0 w) : callE P i_bytes_Buffer_Len #[.pointer x0] R w :=
  callE_fin (c := g_bytes_Buffer_Len.body) Tryz.func303 Tryz.call303 (by kernel_rfl) (by kernel_rfl) (by kernel_rfl) (by kernel_rfl) (by kernel_rfl) (g_bytes_Buffer_Len.good R) (g_bytes_Buffer_Len.eq R x0 w) h
namespace g_bytes_Buffer_tryGrowByReslice
noncomputable def body : Code := bodyOf Tryz.f300
end g_bytes_Buffer_tryGrowByReslice
def g_bytes_Buffer_tryGrowByReslice (R : EP) (x0 : OA) (x1 : Int) (w : World) : Prop :=
 nilP x0 fun a1 =>
 ∃ (v2q : OA), ∃ (v2n : Nat), ∃ (v2c : Nat), w.cell? a1 = some (.slice v2q v2n v2c) ∧
 nilP x0 fun a3 =>
 ∃ (v4q : OA), ∃ (v4n : Nat), ∃ (v4c : Nat), w.cell? a3 = some (.slice v4q v4n v4c) ∧
 ∃ (r5 : Int), ∃ w6, (Builtin.cap_ #[ty_S_uint8] ty_int #[.slice v4q v4n v4c]).run P w = .ok (.int .i64 r5) w6 ∧
 br (decide (x1 ≤ (IntKind.i64.wrap (r5 - (v2n : Int)))))
 (nilP x0 fun a7 =>
 ∃ (v8q : OA), ∃ (v8n : Nat), ∃ (v8c : Nat), w6.cell? a7 = some (.slice v8q v8n v8c) ∧
 ∃ (r9q : OA), ∃ (r9n : Nat), ∃ (r9c : Nat), ∃ w10, (Instr.sliceAt ty_S_uint8 (.slice v8q v8n v8c) none (some (.int .i64 (IntKind.i64.wrap ((v2n : Int) + x1)))) none).run P w6 = .ok (.slice r9q r9n r9c) w10 ∧
 nilP x0 fun a11 =>
 stV w10 (a11.add 0) (.slice r9q r9n r9c) fun w12 =>
 R (.returned (.tuple #[.int .i64 (v2n : Int), .bool true])) w12)
 (R (.returned (.tuple #[.int .i64 0, .bool false])) w6)

noncomputable def g_bytes_Buffer_tryGrowByReslice.ac (R : EP) : AC :=
  (.leaf (sel [] g_bytes_Buffer_tryGrowByReslice.body))
theorem g_bytes_Buffer_tryGrowByReslice.good (R : EP) : Good P 33 (g_bytes_Buffer_tryGrowByReslice.ac R) (QF P [.tmp 4, .tmp 5] R) :=
  trivial
theorem g_bytes_Buffer_tryGrowByReslice.eq (R : EP) (x0 : OA) (x1 : Int) (w : World) : g_bytes_Buffer_tryGrowByReslice R x0 x1 w = vcA P 33 (g_bytes_Buffer_tryGrowByReslice.ac R) (QF P [.tmp 4, .tmp 5] R) (fr0 [.pointer x0, .int .i64 x1]) w := by kernel_rfl
theorem g_bytes_Buffer_tryGrowByReslice.sound {R : EP} {x0 : OA} {x1 : Int} {w : World} (h : g_bytes_Buffer_tryGrowByReslice R x0 x1 w) : callE P i_bytes_Buffer_tryGrowByReslice #[.pointer x0, .int .i64 x1] R w :=
  callE_fin (c := g_bytes_Buffer_tryGrowByReslice.body) Tryz.func300 Tryz.call300 (by kernel_rfl) (by kernel_rfl) (by kernel_rfl) (by kernel_rfl) (by kernel_rfl) (g_bytes_Buffer_tryGrowByReslice.good R) (g_bytes_Buffer_tryGrowByReslice.eq R x0 x1 w) h
end Go.Proofs.YtgbgadkldalkbaaGreatDoor

set_option linter.unusedVariables false
namespace Go.Proofs.YtgbgadkldalkbaaGreatDoor
open Go.Proofs Go.IntWalk
variable {σ : Out} {w : World} {L L' : List Chunk} {R : Ending → World → Prop}

noncomputable def rowU8 : Row P ty_S_uint8 ty_uint8 1 1 :=
  ⟨(P.info? ty_uint8).getD default, ((P.info? ty_uint8).bind (·.zero)).getD default, by kernel_rfl, by kernel_rfl, by kernel_rfl, by kernel_rfl, by kernel_rfl, by kernel_rfl, by decide⟩
def bc (l : List UInt8) : List Value := l.map fun c => .int .u8 (c.toNat : Int)
@[simp] theorem bc_length (l : List UInt8) : (bc l).length = l.length := by simp [bc]
theorem bc_append (a b : List UInt8) : bc (a ++ b) = bc a ++ bc b := by simp [bc]
theorem bc_get {l : List UInt8} {j : Nat} (h : j < l.length) : (bc l)[j]? = some (.int .u8 (l[j].toNat : Int)) := by simp [bc, h]
theorem bc_one {l : List UInt8} : ∀ v ∈ bc l, v.oneCell' = true := by
  intro v hv
  obtain ⟨c, _, rfl⟩ := List.mem_map.1 hv
  rfl
abbrev By (q : Option Addr) (n c : Nat) (l : List UInt8) (M : List Chunk) : Prop := Sl 1 ty_uint8 q n c (bc l) M
theorem By.len {q : Option Addr} {n c : Nat} {l : List UInt8} {M : List Chunk} (h : By q n c l M) : n = l.length := by
  have := h.1
  rw [bc_length] at this
  omega
theorem By.nil : By none 0 0 [] [] := Sl.nil 1 ty_uint8

theorem byteCells_bs (s : List UInt8) : Go.byteCells (bs s) = bc s := by
  simp [Go.byteCells, bc, bs]
theorem By.appS {q : Option Addr} {n c : Nat} {l : List UInt8} {M : List Chunk} (hS : By q n c l M) (h : Sat σ w (M ++ L)) (s : List UInt8) (h0 : s ≠ [] ∨ q ≠ none) (hb : n + s.length ≤ 1099511627776)
    {K : Option Addr → Nat → Nat → World → Prop} (hK : ∀ q' c' w' M', By q' (n + s.length) c' (l ++ s) M' → Sat σ w' (M' ++ L) → q' ≠ none → c ≤ c' → K q' (n + s.length) c' w') :
    ∃ q' n' c' w', (Builtin.append_ #[ty_S_uint8, ty_string] ty_S_uint8 #[.slice q n c, .string (bs s)]).run P w = .ok (.slice q' n' c') w' ∧ K q' n' c' w' := by
  have hsrc := Src.ofString (P := P) (w := w) (tx := ty_string) (by kernel_rfl) (bs s)
  rw [bs_size, byteCells_bs] at hsrc
  have h0' : 0 < s.length ∨ q ≠ none := by
    rcases h0 with h | h
    · exact .inl (List.length_pos_iff.2 h)
    · exact .inr h
  obtain ⟨q', c', w', M', hr, hS', h', h1, h2⟩ := Sat.app rowU8 (ty := ty_S_uint8) hS h hsrc h0' (by omega) (by omega)
  refine ⟨q', _, c', w', hr, hK q' c' w' M' ?_ h' h1 h2⟩
  show Sl _ _ _ _ _ (bc (l ++ s)) _
  rw [bc_append]
  exact hS'
theorem By.app1 {q : Option Addr} {n c : Nat} {l : List UInt8} {M : List Chunk} (hS : By q n c l M) (h : Sat σ w (M ++ L)) (k : UInt8) (hb : n + 1 ≤ 1099511627776)
    {K : Option Addr → Nat → Nat → World → Prop} (hK : ∀ q' c' w' M', By q' (n + 1) c' (l ++ [k]) M' → Sat σ w' (M' ++ L) → K q' (n + 1) c' w') :
    ∃ rq rn rc w1, (Instr.buildSlice ty_S_uint8 1 #[(0, .int .u8 (k.toNat : Int))]).run P w = .ok (.slice rq rn rc) w1 ∧
    ∃ q' n' c' w', (Builtin.append_ #[ty_S_uint8, ty_S_uint8] ty_S_uint8 #[.slice q n c, .slice rq rn rc]).run P w1 = .ok (.slice q' n' c') w' ∧ K q' n' c' w' := by
  refine Sat.app1 rowU8 hS h (v := .int .u8 (k.toNat : Int)) rfl (by simp [Value.cells, Value.oneCell']) (by kernel_rfl) (by omega) (by omega) (by decide) fun q' c' w' M' h1 h2 => hK q' c' w' M' ?_ h2
  show Sl _ _ _ _ _ (bc (l ++ [k])) _
  rw [bc_append]
  exact h1
theorem By.str {q : Option Addr} {n c : Nat} {l : List UInt8} {M : List Chunk} (hS : By q n c l M) (h : Sat σ w (M ++ L)) :
    (convert ty_S_uint8 ty_string (.slice q n c)).run P w = .ok (.string (bs l)) w := by
  have hn := hS.len
  subst hn
  obtain ⟨_, _, ⟨rfl, hn0, rfl, rfl⟩ | ⟨b, sp, rfl, rfl, h3⟩⟩ := hS
  · obtain rfl := List.eq_nil_of_length_eq_zero hn0
    exact Lib.run_convert_nil_bytes w _ _ ty_uint8 0 (by kernel_rfl) (by kernel_rfl) (by kernel_rfl)
  · refine run_convert_bytes_back w _ _ ty_uint8 ⟨b, 0, none⟩ c l (by kernel_rfl) (by kernel_rfl) (by kernel_rfl) fun j hj => ?_
    rw [Addr.add_zero_lit]
    refine h.ld (.head _) ?_
    rw [List.getElem?_append_left (by rw [bc_length]; exact hj), bc_get hj]
theorem sliceLH {P : Program} {t e : TypeId} {i : TypeInfo} (ht : P.underlying t = some (.slice e)) (hi : P.info? e = some i) (a : Option Addr) (n c l m : Nat) (h1 : l ≤ m) (h2 : m ≤ c) (w : World) :
    (Instr.sliceAt t (.slice a n c) (some (.int .i64 l)) (some (.int .i64 m)) none).run P w = .ok (.slice (if c = l then a else a.map (·.add (l * i.size))) (m - l) (c - l)) w := by
  simp [Instr.sliceAt, Instr.slice, Instr.sliceBounds, run_underlying ht, sizeOf, typeInfo, hi, run_sliceBound w .i64 (m : Int) c .sliceAcap (by omega) (by omega), run_sliceBound w .i64 (l : Int) m .sliceB (by omega) (by omega)]
theorem sliceF {P : Program} {t e : TypeId} {i : TypeInfo} (ht : P.underlying t = some (.slice e)) (hi : P.info? e = some i) (a : Option Addr) (n c l : Nat) (h1 : l ≤ n) (w : World) :
    (Instr.sliceAt t (.slice a n c) (some (.int .i64 l)) none none).run P w = .ok (.slice (if c = l then a else a.map (·.add (l * i.size))) (n - l) (c - l)) w := by
  simp [Instr.sliceAt, Instr.slice, Instr.sliceBounds, run_underlying ht, sizeOf, typeInfo, hi, run_sliceBound w .i64 (l : Int) n .sliceB (by omega) (by omega)]
theorem sliceT {P : Program} {t e : TypeId} {i : TypeInfo} (ht : P.underlying t = some (.slice e)) (hi : P.info? e = some i) (a : Option Addr) (n c m : Nat) (h2 : m ≤ c) (w : World) :
    (Instr.sliceAt t (.slice a n c) none (some (.int .i64 m)) none).run P w = .ok (.slice a m c) w := by
  have e1 : ∀ a : Addr, a.add 0 = a := fun a => rfl
  simp [Instr.sliceAt, Instr.slice, Instr.sliceBounds, run_underlying ht, sizeOf, typeInfo, hi, run_sliceBound w .i64 (m : Int) c .sliceAcap (by omega) (by omega), e1]

theorem capRun {P : Program} (t ty : TypeId) (q : Option Addr) (n c : Nat) (e : TypeId) (ht : P.underlying t = some (.slice e)) (w : World) : (Builtin.cap_ #[t] ty #[.slice q n c]).run P w = .ok (.int .i64 c) w := by
  simp [Builtin.cap_, underlying, ht, goInt]
abbrev bufC (b : Nat) (q : Option Addr) (n c : Nat) (lr : Int) : Chunk := (b, cel [.slice q n c, .int .i64 0, .int .i8 lr] ty_bytes_Buffer)
def Buf (b : Nat) (l : List UInt8) (M : List Chunk) : Prop := ∃ q c lr M0, M = bufC b q l.length c lr :: M0 ∧ By q l.length c l M0 ∧ c ≤ 9223372036854775807
theorem tryGrow_ok {b : Nat} {q : Option Addr} {n c m : Nat} {lr : Int} (h : Sat σ w (bufC b q n c lr :: L)) (hnc : n ≤ c) (hc : c ≤ 9223372036854775807) (hn : n < 4611686018427387904) (hm : m < 4611686018427387904)
    (h1 : n + m ≤ c → ∀ w, Sat σ w (bufC b q (n + m) c lr :: L) → R (.returned (.tuple #[.int .i64 n, .bool true])) w)
    (h0 : c < n + m → ∀ w, Sat σ w (bufC b q n c lr :: L) → R (.returned (.tuple #[.int .i64 0, .bool false])) w) :
    callE P i_bytes_Buffer_tryGrowByReslice #[.pointer (some ⟨b, 0, none⟩), .int .i64 m] R w := by
  refine g_bytes_Buffer_tryGrowByReslice.sound ?_
  refine nilP_some ?_
  refine ⟨_, _, _, h.ldA, ?_⟩
  refine nilP_some ?_
  refine ⟨_, _, _, h.ldA, ?_⟩
  refine ⟨_, _, capRun _ _ _ _ _ _ rowU8.ht w, ?_⟩
  rw [i64_in _ (by omega)]
  by_cases hm' : n + m ≤ c
  · refine br_true (by simp; omega) ?_
    refine nilP_some ?_
    refine ⟨_, _, _, h.ldA, ?_⟩
    rw [i64_in _ (by omega), show ((n : Int) + m) = ((n + m : Nat) : Int) by omega]
    refine ⟨_, _, _, _, sliceT rowU8.ht rowU8.hi q n c (n + m) hm' w, ?_⟩
    refine nilP_some ?_
    refine h.stA 0 fun w h => ?_
    exact h1 hm' _ h
  · refine br_false (by simp; omega) ?_
    exact h0 (by omega) _ h
theorem bufLen_ok {b : Nat} {q : Option Addr} {n c : Nat} {lr : Int} (h : Sat σ w (bufC b q n c lr :: L)) (hn : n < 4611686018427387904) (hR : ∀ w, Sat σ w (bufC b q n c lr :: L) → R (.returned (.int .i64 n)) w) :
    callE P i_bytes_Buffer_Len #[.pointer (some ⟨b, 0, none⟩)] R w := by
  refine g_bytes_Buffer_Len.sound ?_
  refine h.tk fun w h => ?_
  refine nilP_some (nilP_some ?_)
  refine ⟨_, _, _, h.ldA, ?_⟩
  refine ⟨_, h.ldA, ?_⟩
  rw [i64_in _ (by omega), Int.sub_zero]
  exact hR _ h
end Go.Proofs.YtgbgadkldalkbaaGreatDoor


set_option linter.unusedVariables false
set_option maxRecDepth 20000
namespace Go.Proofs.YtgbgadkldalkbaaGreatDoor
open Go.Proofs
noncomputable abbrev x_internal_bytealg_IndexByteString : Func := Tryz.f77
theorem xf_internal_bytealg_IndexByteString : P.funcs[i_internal_bytealg_IndexByteString]? = some x_internal_bytealg_IndexByteString := Tryz.func77
noncomputable abbrev x_internal_abi_NoEscape : Func := Tryz.f172
theorem xf_internal_abi_NoEscape : P.funcs[i_internal_abi_NoEscape]? = some x_internal_abi_NoEscape := Tryz.func172
noncomputable abbrev x_internal_bytealg_MakeNoZero : Func := Tryz.f256
theorem xf_internal_bytealg_MakeNoZero : P.funcs[i_internal_bytealg_MakeNoZero]? = some x_internal_bytealg_MakeNoZero := Tryz.func256
theorem cf_bytes_growSlice : ∀ args w, (callFunc i_bytes_growSlice args).run P w = .ok (.enter i_bytes_growSlice args) w := Tryz.call304
end Go.Proofs.YtgbgadkldalkbaaGreatDoor


set_option linter.unusedVariables false
namespace Go.Proofs.YtgbgadkldalkbaaGreatDoor
open Go.Proofs Go.Shelf
def lays290_ren : Go.Shelf.Ren := ⟨fun | 290 => 304 | 324 => 306 | n => n, fun | 37 => 22 | 3 => 3 | 0 => 0 | 4 => 4 | 20 => 20 | 75 => 174 | 5 => 5 | 80 => 80 | 9 => 9 | n => n, fun | 14 => 9 | n => n⟩
theorem lays290 : Go.Proofs.LaysM.n290 Tryz.prog lays290_ren := {
  mixed := by kernel_rfl
  f290 := Tryz.func304.trans (congrArg some (by kernel_rfl))
  f324 := Tryz.func306.trans (congrArg some (by kernel_rfl))
  t0 := Tryz.underlying0
  a0 := Tryz.isAgg0
  z0 := Tryz.sizeOf0
  v0 := Tryz.zeroValue0
  t3 := Tryz.underlying3
  a3 := Tryz.isAgg3
  z3 := Tryz.sizeOf3
  v3 := Tryz.zeroValue3
  t4 := Tryz.underlying4
  a4 := Tryz.isAgg4
  z4 := Tryz.sizeOf4
  v4 := Tryz.zeroValue4
  t20 := Tryz.underlying20
  a20 := Tryz.isAgg20
  z20 := Tryz.sizeOf20
  v20 := Tryz.zeroValue20
  t37 := Tryz.underlying22
  a37 := Tryz.isAgg22
  z37 := Tryz.sizeOf22
  v37 := Tryz.zeroValue22
  t75 := Tryz.underlying174
  a75 := Tryz.isAgg174
  z75 := Tryz.sizeOf174
  v75 := Tryz.zeroValue174
  g14 := by kernel_rfl
  t5 := Tryz.underlying5
  a5 := Tryz.isAgg5
  z5 := Tryz.sizeOf5
  v5 := Tryz.zeroValue5
  t9 := Tryz.underlying9
  a9 := Tryz.isAgg9
  z9 := Tryz.sizeOf9
  v9 := Tryz.zeroValue9
  t80 := Tryz.underlying80
  a80 := Tryz.isAgg80
  z80 := Tryz.sizeOf80
  v80 := Tryz.zeroValue80
  i0 := by kernel_rfl
  i3 := by kernel_rfl
  i4 := by kernel_rfl
  i5 := by kernel_rfl
  i9 := by kernel_rfl
  i20 := by kernel_rfl
  i37 := by kernel_rfl
  i75 := by kernel_rfl
  i80 := by kernel_rfl
  m14 := by kernel_rfl }
end Go.Proofs.YtgbgadkldalkbaaGreatDoor


set_option linter.unusedVariables false
namespace Go.Proofs.YtgbgadkldalkbaaGreatDoor
open Go.Proofs Go.IntWalk
variable {σ : Out} {w : World} {L L' : List Chunk} {R : Ending → World → Prop}

theorem ext_of {f : FuncId} {fn : Func} {e : Array Value → Sem Value} {args : Array Value} {v : Value} {w' : World} (hf : P.funcs[f]? = some fn) (hname : (fn.name == "runtime.NumGoroutine") = false)
    (hb : fn.body.isNone = true) (hn : Extern.findNext fn = none) (he : Extern.find fn = some e) (hr : (e args).run P w = .ok v w') (h : R (.returned v) w') : callE P f args R w := by
  refine .inr ⟨v, w', ?_, h⟩
  rw [run_callFunc_extern hf hname hb hn he, hr]
  rfl
theorem noEscape_ok {x : Value} (h : R (.returned x) w) : callE P i_internal_abi_NoEscape #[x] R w :=
  ext_of (e := Extern.AbiNoEscape.same) xf_internal_abi_NoEscape (by kernel_rfl) (by kernel_rfl) (by kernel_rfl) (by kernel_rfl) rfl h
def idxB (l : List UInt8) (c : UInt8) : Int := Lib.indexByte l c
theorem indexByte_ok {l : List UInt8} {c : UInt8} (h : R (.returned (.int .i64 (idxB l c))) w) : callE P i_internal_bytealg_IndexByteString #[.string (bs l), .int .u8 (c.toNat : Int)] R w := by
  refine ext_of (e := Extern.BytealgIndexByte.indexByte) xf_internal_bytealg_IndexByteString (by kernel_rfl) (by kernel_rfl) (by kernel_rfl) (by kernel_rfl) (Lib.run_indexByteString _ _ w) ?_
  have e : ((c.toNat : Int)).toNat.toUInt8 = c := by simp
  rw [e]
  exact h
theorem indexByte2_ok {l : List UInt8} {c : UInt8} (h : R (.returned (.int .i64 (idxB l c))) w) : callE P i_strings_IndexByte #[.string (bs l), .int .u8 (c.toNat : Int)] R w := by
  refine g_strings_IndexByte.sound ?_
  refine g_internal_stringslite_IndexByte.sound ?_
  refine indexByte_ok ⟨_, rfl, ⟨_, rfl, h⟩⟩
theorem idxB_nonneg : ∀ {l : List UInt8} {c : UInt8}, 0 ≤ idxB l c ↔ c ∈ l
  | [], c => by simp [idxB, Lib.indexByte]
  | b :: l, c => by
    have ih := @idxB_nonneg l c
    have h2 := Lib.indexByte_ge l c
    unfold idxB at *
    simp only [Lib.indexByte, List.mem_cons]
    split
    · rename_i hb; simp at hb; simp [hb]
    · rename_i hb
      simp at hb
      have hb' : ¬ c = b := fun h => hb h.symm
      simp only [hb', false_or]
      split
      · rename_i hm; simp at hm; rw [hm] at ih; rw [← ih]
      · rw [← ih]; rename_i hm; simp at hm; omega
end Go.Proofs.YtgbgadkldalkbaaGreatDoor


set_option linter.unusedVariables false
namespace Go.Proofs.YtgbgadkldalkbaaGreatDoor
open Go.Proofs
theorem bin_eql {P : Program} {t : TypeId} {a b : Value} {r : Bool} {w : World} {x y : Operand} (h1 : (eqGuard .eql t x y a b).run P w = .ok () w) (h2 : binOp .eql t a b = (do pure (.bool (← Op.equal t a b))))
    (h : (Op.equal t a b).run P w = .ok r w) : (do eqGuard .eql t x y a b; binOp .eql t a b).run P w = .ok (.bool r) w := by
  rw [h2]
  simp only [Sem.run_bind, h1, h, Result.andThen_ok]
  rfl
theorem bin_neq {P : Program} {t : TypeId} {a b : Value} {r : Bool} {w : World} {x y : Operand} (h1 : (eqGuard .neq t x y a b).run P w = .ok () w) (h2 : binOp .neq t a b = (do pure (.bool (!(← Op.equal t a b)))))
    (h : (Op.equal t a b).run P w = .ok r w) : (do eqGuard .neq t x y a b; binOp .neq t a b).run P w = .ok (.bool (!r)) w := by
  rw [h2]
  simp only [Sem.run_bind, h1, h, Result.andThen_ok]
  rfl
variable {P : Program}
theorem equal_slice_nil {t e : TypeId} (hu : P.underlying t = some (.slice e)) (q : Option Addr) (n c : Nat) (w : World) : (Op.equal t (.slice q n c) (.slice none 0 0)).run P w = .ok q.isNone w :=
  have h : ∀ d, (Op.equalIn (d + 1) t (.slice q n c) (.slice none 0 0)).run P w = .ok q.isNone w := fun d => by
    cases q <;> simp [Op.equalIn, run_underlying hu]
  h 9999
theorem eq_slice_nil {t e : TypeId} {x y : Operand} (hu : P.underlying t = some (.slice e)) (q : Option Addr) (n c : Nat) (w : World) :
    (do eqGuard .eql t x y (.slice q n c) (.slice none 0 0); binOp .eql t (.slice q n c) (.slice none 0 0)).run P w = .ok (.bool q.isNone) w :=
  bin_eql rfl rfl (equal_slice_nil hu q n c w)
theorem equal_ptr_nil {t e : TypeId} (hu : P.underlying t = some (.pointer e)) (q : Option Addr) (w : World) : (Op.equal t (.pointer q) (.pointer none)).run P w = .ok q.isNone w :=
  have h : ∀ d, (Op.equalIn (d + 1) t (.pointer q) (.pointer none)).run P w = .ok q.isNone w := fun d => by
    cases q <;> simp [Op.equalIn, run_underlying hu]
  h 9999
theorem ptrNil_eq {t e : TypeId} {x y : Operand} (hu : P.underlying t = some (.pointer e)) (q : Option Addr) (w : World) :
    (do eqGuard .eql t x y (.pointer q) (.pointer none); binOp .eql t (.pointer q) (.pointer none)).run P w = .ok (.bool q.isNone) w :=
  bin_eql rfl rfl (equal_ptr_nil hu q w)
theorem neq_ptr_nil {t e : TypeId} {x y : Operand} (hu : P.underlying t = some (.pointer e)) (q : Option Addr) (w : World) :
    (do eqGuard .neq t x y (.pointer q) (.pointer none); binOp .neq t (.pointer q) (.pointer none)).run P w = .ok (.bool (!q.isNone)) w :=
  bin_neq rfl rfl (equal_ptr_nil hu q w)
theorem equal_ptr_same {t e : TypeId} (hu : P.underlying t = some (.pointer e)) {i : TypeInfo} (hi : P.info? e = some i) (hs : i.size ≠ 0) (b : Nat) (w : World) : (Op.equal t (.pointer (some ⟨b, 0, none⟩)) (.pointer (some ⟨b, 0, none⟩))).run P w = .ok true w :=
  have h : ∀ d, (Op.equalIn (d + 1) t (.pointer (some ⟨b, 0, none⟩)) (.pointer (some ⟨b, 0, none⟩))).run P w = .ok true w := fun d => by
    simp [Op.equalIn, run_underlying hu, sizeOf, typeInfo, hi, hs, sameAddr]
  h 9999
theorem neq_ptr_same {t e : TypeId} {x y : Operand} (hu : P.underlying t = some (.pointer e)) {i : TypeInfo} (hi : P.info? e = some i) (hs : i.size ≠ 0) (b : Nat) (w : World) :
    (do eqGuard .neq t x y (.pointer (some ⟨b, 0, none⟩)) (.pointer (some ⟨b, 0, none⟩)); binOp .neq t (.pointer (some ⟨b, 0, none⟩)) (.pointer (some ⟨b, 0, none⟩))).run P w = .ok (.bool false) w :=
  bin_neq rfl rfl (equal_ptr_same hu hi hs b w)
theorem neq_func_nil {t : TypeId} {ps rs : Array TypeId} {vr : Bool} {x y : Operand} (hu : P.underlying t = some (.func ps rs vr)) (k : FuncId) (f g : Array Value) (w : World) :
    (do eqGuard .neq t x y (.func (.func k) f g) .nilFunc; binOp .neq t (.func (.func k) f g) .nilFunc).run P w = .ok (.bool true) w := by
  have h : ∀ d, (Op.equalIn (d + 1) t (.func (.func k) f g) .nilFunc).run P w = .ok false w := fun d => by
    simp [Op.equalIn, run_underlying hu]
  exact bin_neq rfl rfl (h 9999)
theorem neq_nil_nil {t : TypeId} {ps rs : Array TypeId} {vr : Bool} {x y : Operand} (hu : P.underlying t = some (.func ps rs vr)) (w : World) :
    (do eqGuard .neq t x y .nilFunc .nilFunc; binOp .neq t .nilFunc .nilFunc).run P w = .ok (.bool false) w := by
  have h : ∀ d, (Op.equalIn (d + 1) t .nilFunc .nilFunc).run P w = .ok true w := fun d => by
    simp [Op.equalIn, run_underlying hu]
  exact bin_neq rfl rfl (h 9999)
end Go.Proofs.YtgbgadkldalkbaaGreatDoor


set_option linter.unusedVariables false
namespace Go.Proofs.YtgbgadkldalkbaaGreatDoor
open Go.Proofs Go.IntWalk Go.RowKit
variable {σ : Out} {w : World} {L L' : List Chunk} {R : Ending → World → Prop}

theorem Sat.newRow (h : Sat σ w L) {w' : World} (hb : Below w.heap.size w w') {cs : Array Value} {e : TypeId} (hr : w'.heap[w.heap.size]? = some (.cells cs e)) : Sat σ w' ((w.heap.size, cel cs.toList e) :: L) := by
  refine ⟨hb.os.trans h.os, hb.output.trans h.out, ?_, ?_⟩
  · simp only [List.map_cons, List.nodup_cons]
    refine ⟨fun hm => ?_, h.nodup⟩
    obtain ⟨c, hc, he⟩ := List.mem_map.1 hm
    exact Nat.lt_irrefl _ (he ▸ h.lt hc)
  · intro c hc
    cases hc with
    | head => simpa [cel] using hr
    | tail _ hc =>
      rw [hb.block _ (h.lt hc)]
      exact h.at_ _ hc
theorem callE_calls {f : FuncId} {args : Array Value} (hc : ∀ args w, (callFunc f args).run P w = .ok (.enter f args) w) (h : Calls P f args w R) : callE P f args R w := .inl ⟨hc, h⟩

theorem growSlice_ok {q : Option Addr} {n c m : Nat} {l : List UInt8} {M : List Chunk} (hS : By q n c l M) (h : Sat σ w (M ++ L)) (hm : 1 ≤ m) (hcm : c < n + m) (hb : n + m ≤ 1099511627776)
    (hR : ∀ w b c' sp, n + m ≤ c' → c' ≤ 9223372036854775807 → By (some ⟨b, 0, none⟩) n c' l [(b, cel (bc l ++ sp) ty_uint8)] → Sat σ w ((b, cel (bc l ++ sp) ty_uint8) :: (M ++ L)) → R (.returned (.slice (some ⟨b, 0, none⟩) n c')) w) :
    callE P i_bytes_growSlice #[.slice q n c, .int .i64 m] R w := by
  have hn := hS.len
  have hS0 := hS
  obtain ⟨hl, hnc, ⟨rfl, rfl, rfl, rfl⟩ | ⟨b, sp, rfl, rfl, h3⟩⟩ := hS
  · have hl0 : l = [] := List.eq_nil_of_length_eq_zero (by omega)
    subst hl0
    refine callE_calls cf_bytes_growSlice ((Any.bytes_growSlice_nil (P := P) lays290 m w hm (by omega)).mono ?_)
    rintro e w' ⟨cap2, cells, rfl, hr, hsz, hge, hle, hbl⟩
    have := h.newRow hbl hr
    have ht5 : lays290_ren.t 5 = ty_uint8 := rfl
    rw [ht5] at this
    refine hR w' _ cap2 cells.toList (by omega) (by unfold maxLen at hle; exact hle) ⟨by simp [bc], by omega, .inr ⟨_, cells.toList, rfl, rfl, ?_⟩⟩ this
    simp [bc, hsz]
  · have hg := h.at_ _ (.head _)
    refine callE_calls cf_bytes_growSlice ((Any.bytes_growSlice_row (P := P) lays290 b n c m (bc l ++ sp).toArray w hg (by simpa using h3) hnc hm (by omega) (by omega) ?_).mono ?_)
    · intro v hv
      rw [hn] at hv
      rw [show (bc l ++ sp).toArray.toList.take l.length = bc l from by rw [← bc_length l]; simp] at hv
      exact bc_one v hv
    · rintro e w' ⟨cap2, cells, rfl, hr, hsz, htk, hge, hle, hbl⟩
      have htk' : cells.toList.take n = bc l := by rw [htk, hn, ← bc_length l]; simp
      have hcs : cells.toList = bc l ++ cells.toList.drop n := by rw [← htk', List.take_append_drop]
      have := h.newRow hbl hr
      rw [hcs] at this
      refine hR w' _ cap2 (cells.toList.drop n) hge (by unfold maxLen at hle; exact hle) ⟨by simp; omega, by omega, .inr ⟨_, _, rfl, rfl, ?_⟩⟩ this
      rw [← hcs, Array.length_toList]; omega
theorem By.raw {q : Option Addr} {n c : Nat} {l : List UInt8} {M : List Chunk} (h : By q n c l M) : (q = none ∧ n = 0 ∧ c = 0 ∧ M = []) ∨ ∃ b sp, q = some ⟨b, 0, none⟩ ∧ M = [(b, cel (bc l ++ sp) ty_uint8)] ∧ (bc l ++ sp).length = c := by
  obtain ⟨_, _, h | ⟨b, sp, h1, h2, h3⟩⟩ := h
  · exact .inl h
  · exact .inr ⟨b, sp, h1, h2, by omega⟩
theorem grow_ok {b : Nat} {q : Option Addr} {c m : Nat} {lr : Int} {l : List UInt8} {M : List Chunk} (h : Sat σ w (bufC b q l.length c lr :: (M ++ L))) (hS : By q l.length c l M) (hm : 1 ≤ m) (hcm : c < l.length + m) (hb : l.length + m ≤ 1099511627776)
    (hR : ∀ w g c' sp lr, l.length + m ≤ c' → c' ≤ 9223372036854775807 → (bc l ++ sp).length = c' → Sat σ w (bufC b (some ⟨g, 0, none⟩) (l.length + m) c' lr :: (g, cel (bc l ++ sp) ty_uint8) :: L) → R (.returned (.int .i64 l.length)) w) :
    callE P i_bytes_Buffer_grow #[.pointer (some ⟨b, 0, none⟩), .int .i64 m] R w := by
  have hnc := hS.2.1
  refine g_bytes_Buffer_grow.sound ?_
  refine bufLen_ok h (by omega) fun w h => ⟨_, rfl, ?_⟩
  have key2 : ∀ w, Sat σ w (bufC b q l.length c lr :: (M ++ L)) → 1 ≤ m → tk w fun w32 =>
      nilP (some ⟨b, 0, none⟩) fun a33 => nilP (some ⟨b, 0, none⟩) fun a34 => nilP (some ⟨b, 0, none⟩) fun a35 =>
      ∃ (v36q : Option Addr), ∃ (v36n : Nat), ∃ (v36c : Nat), w32.cell? a33 = some (.slice v36q v36n v36c) ∧
      ∃ (v37 : Int), w32.cell? (a34.add 1) = some (.int .i64 v37) ∧
      ∃ (r38q : Option Addr), ∃ (r38n : Nat), ∃ (r38c : Nat), (∀ w, (Instr.sliceAt ty_S_uint8 (.slice v36q v36n v36c) (some (.int .i64 v37)) none none).run P w = .ok (.slice r38q r38n r38c) w) ∧
      ∃ (v39 : Int), w32.cell? (a35.add 1) = some (.int .i64 v39) ∧
      callE P i_bytes_growSlice #[.slice r38q r38n r38c, .int .i64 (IntKind.i64.wrap (v39 + (m : Int)))] (fun e w41 => ∃ (r40q : Option Addr), ∃ (r40n : Nat), ∃ (r40c : Nat), e = .returned (.slice r40q r40n r40c) ∧
      nilP (some ⟨b, 0, none⟩) fun a42 => stV w41 (a42.add 0) (.slice r40q r40n r40c) fun w43 => g_bytes_Buffer_grow.k3 R (some ⟨b, 0, none⟩) m l.length w43) w32 := by
    intro w h _
    refine h.tk fun w h => ?_
    refine nilP_some (nilP_some (nilP_some ?_))
    refine ⟨_, _, _, h.ldA, ?_⟩
    refine ⟨_, h.ldA, ?_⟩
    refine ⟨_, _, _, fun w => sliceF rowU8.ht rowU8.hi q l.length c 0 (by omega) w, ?_⟩
    refine ⟨_, h.ldA, ?_⟩
    rw [Int.zero_add, i64_in _ (by omega)]
    have e0 : (if c = 0 then q else q.map (·.add (0 * rowU8.i.size))) = q := by
      rw [Nat.zero_mul]
      split
      · rfl
      · cases q <;> rfl
    rw [e0, Nat.sub_zero, Nat.sub_zero]
    have h : Sat σ w (M ++ (bufC b q l.length c lr :: L)) := h.re (by intro _; simp only [List.append_eq, cnt_append, cnt_cons, cnt_nil] <;> omega)
    refine growSlice_ok hS h hm hcm hb fun w g c' sp h1 h2 h3 h => ⟨_, _, _, rfl, nilP_some ?_⟩
    have h : Sat σ w (bufC b q l.length c lr :: (g, cel (bc l ++ sp) ty_uint8) :: (M ++ L)) := h.re (by intro _; simp only [List.append_eq, cnt_append, cnt_cons, cnt_nil] <;> omega)
    refine h.stA 0 fun w h => ?_
    refine nilP_some ?_
    refine h.stA 0 fun w h => ?_
    refine nilP_some ?_
    refine ⟨_, _, _, h.ldA, ?_⟩
    rw [i64_in _ (by omega), show ((l.length : Int) + m) = ((l.length + m : Nat) : Int) by omega]
    refine ⟨_, _, _, _, sliceT rowU8.ht rowU8.hi _ _ c' (l.length + m) h1 w, ?_⟩
    refine nilP_some ?_
    refine h.stA 0 fun w h => ?_
    have h4 : (bc l ++ sp).length = c' := by
      obtain ⟨_, _, ⟨h, _⟩ | ⟨b', sp', e1, e2, h3⟩⟩ := h3
      · cases h
      · simp only [List.cons.injEq, Prod.mk.injEq] at e2
        have : cel (bc l ++ sp) ty_uint8 = cel (bc l ++ sp') ty_uint8 := e2.1.2
        simp only [cel, Obj.cells.injEq, and_true] at this
        have e3 : bc l ++ sp = bc l ++ sp' := by simpa using congrArg Array.toList this
        rw [e3]; omega
    refine hR w g c' sp lr h1 h2 h4 ?_
    have h : Sat σ w (bufC b (some ⟨g, 0, none⟩) (l.length + m) c' lr :: (g, cel (bc l ++ sp) ty_uint8) :: (M ++ L)) := h
    exact h.less M (by intro _; simp only [List.append_eq, cnt_append, cnt_cons, cnt_nil] <;> omega)
  have key : ∀ w, Sat σ w (bufC b q l.length c lr :: (M ++ L)) → g_bytes_Buffer_grow.k1 R (some ⟨b, 0, none⟩) m l.length w := by
    intro w h
    refine tryGrow_ok h hnc (by omega) (by omega) (by omega) (fun hh => absurd hh (by omega)) fun _ w h => ⟨_, _, rfl, ?_⟩
    refine br_false rfl ?_
    refine nilP_some ?_
    refine ⟨_, _, _, h.ldA, ?_⟩
    refine ⟨_, _, eq_slice_nil rowU8.ht q _ c w, ?_⟩
    rcases hS.raw with ⟨rfl, hl0, rfl, rfl⟩ | ⟨g, sp, rfl, rfl, h3⟩
    · obtain rfl := List.eq_nil_of_length_eq_zero hl0
      by_cases h64 : m ≤ 64
      · refine br_true (by simp; omega) ?_
        have hmk := run_makeSlice (P := P) (w := w) ty_S_uint8 ty_uint8 rowU8.i rowU8.z rowU8.ht rowU8.hi rowU8.hz .i64 .i64 (m : Int) 64 (by omega) (by omega) (by rw [rowU8.hs]; decide) (by rw [rowU8.hb]; decide) (by omega)
        refine ⟨_, _, _, _, hmk, nilP_some ?_⟩
        rw [rowU8.hs]
        have hal := h.alc (madeCells rowU8.z.cells ((64 : Int).toNat * 1)).toList ty_uint8
        rw [show YtgbgadkldalkbaaGreatDoor.alc w (madeCells rowU8.z.cells ((64 : Int).toNat * 1)).toList.toArray ty_uint8 = w.alloc (.cells (madeCells rowU8.z.cells ((64 : Int).toNat * 1)) ty_uint8) from by rw [Array.toArray_toList]; rfl] at hal
        generalize w.heap.size = g at hal ⊢
        refine Sat.st hal (k := 1) rfl (Nat.le_of_ble_eq_true rfl) trivial rfl fun w h => ?_
        refine hR w g 64 (madeCells rowU8.z.cells ((64 : Int).toNat * 1)).toList lr (by simpa using h64) (by omega) ?_ ?_
        · show ([] ++ (madeCells rowU8.z.cells ((64 : Int).toNat * 1)).toList).length = 64
          rw [List.nil_append, Array.length_toList, size_madeCells]; decide
        · have e : m = ([] : List UInt8).length + m := by simp
          rw [← e]
          have h : Sat σ w ((g, cel (madeCells rowU8.z.cells ((64 : Int).toNat * 1)).toList ty_uint8) :: bufC b (some ⟨g, 0, none⟩) m 64 lr :: L) := h
          exact h.up1
      · refine br_false (by simp; omega) ?_
        refine nilP_some ?_
        refine ⟨_, _, _, h.ldA, ?_⟩
        refine ⟨_, _, capRun _ _ _ _ _ _ rowU8.ht w, by decide, ?_⟩
        refine br_false (by rw [show Int.tdiv ((0 : Nat) : Int) 2 = 0 from rfl]; simp (disch := omega) only [i64_in]; simp; omega) ?_
        refine br_false (by simp (disch := omega) only [i64_in]; simp; omega) ?_
        exact key2 w h (by omega)
    · refine br_false (by simp) ?_
      refine nilP_some ?_
      refine ⟨_, _, _, h.ldA, ?_⟩
      refine ⟨_, _, capRun _ _ _ _ _ _ rowU8.ht w, by decide, ?_⟩
      have hd : Int.tdiv (c : Int) 2 = ((c / 2 : Nat) : Int) := by rw [Int.tdiv_eq_ediv_of_nonneg (by omega)]; omega
      rw [hd]
      refine br_false (by simp (disch := omega) only [i64_in]; simp; omega) ?_
      refine br_false (by simp (disch := omega) only [i64_in]; simp; omega) ?_
      exact key2 w h (by omega)
  refine br_split (fun h0 => ?_) (fun _ => key w h)
  refine nilP_some ?_
  refine ⟨_, h.ldA, ?_⟩
  exact br_false rfl (key w h)
theorem u8size : (P.info? ty_uint8).map (·.size) = some 1 := by kernel_rfl
theorem byS_mk {b n c : Nat} {l : List UInt8} {sp : List Value} (hn : n = l.length) (h : (bc l ++ sp).length = c) : By (some ⟨b, 0, none⟩) n c l [(b, cel (bc l ++ sp) ty_uint8)] := by
  refine ⟨by rw [bc_length]; omega, ?_, .inr ⟨b, sp, rfl, rfl, by omega⟩⟩
  rw [List.length_append, bc_length] at h
  omega
theorem Sat.row {g : Nat} {cs : List Value} {e : TypeId} (h : Sat σ w ((g, cel cs e) :: L)) (o : Nat) (vs : List Value) (hl : o + vs.length ≤ cs.length) :
    Sat σ (w.setRow g (cs.take o ++ vs ++ cs.drop (o + vs.length)).toArray) ((g, cel (cs.take o ++ vs ++ cs.drop (o + vs.length)) e) :: L) := by
  have hg := h.at_ _ (.head _)
  refine ⟨h.os, h.out, h.nodup, fun c hc => ?_⟩
  cases hc with
  | head =>
    simp only [World.setRow, Array.getElem?_modify, if_true]
    rw [show w.heap[g]? = _ from hg]
    simp [cel]
  | tail _ hc =>
    have hne : g ≠ c.1 := by
      intro h1
      have := h.nodup
      simp only [List.map_cons, List.nodup_cons] at this
      exact this.1 (by rw [h1]; exact List.mem_map.2 ⟨c, hc, rfl⟩)
    simp only [World.setRow, Array.getElem?_modify, if_neg hne]
    exact h.at_ _ (.tail _ hc)
theorem writeK_ok {b g c : Nat} {lr : Int} {l s : List UInt8} {sp : List Value} (h : Sat σ w (bufC b (some ⟨g, 0, none⟩) (l.length + s.length) c lr :: (g, cel (bc l ++ sp) ty_uint8) :: L)) (hc : (bc l ++ sp).length = c) (hle : l.length + s.length ≤ c) (hc2 : c ≤ 9223372036854775807)
    (hR : ∀ w M, Buf b (l ++ s) M → Sat σ w (M ++ L) → R (.returned (.tuple #[.int .i64 s.length, .nilIface])) w) : g_bytes_Buffer_WriteString.k1 R (some ⟨b, 0, none⟩) (bs s) l.length w := by
  refine nilP_some ?_
  refine ⟨_, _, _, h.ldA, ?_⟩
  refine ⟨_, _, _, _, sliceF rowU8.ht rowU8.hi _ (l.length + s.length) c l.length (by omega) w, ?_⟩
  have h : Sat σ w ((g, cel (bc l ++ sp) ty_uint8) :: bufC b (some ⟨g, 0, none⟩) (l.length + s.length) c lr :: L) := h.up1
  have hg := h.at_ _ (.head _)
  by_cases h0 : c = l.length
  · have hs : s = [] := List.eq_nil_of_length_eq_zero (by omega)
    subst hs
    rw [if_pos h0]
    have hcp := Lib.run_copy_row_string (P := P) w ty_S_uint8 ty_string ty_int ty_uint8 g 0 (l.length + ([] : List UInt8).length - l.length) (c - l.length) (bs []) (bc l ++ sp).toArray ty_uint8 rowU8.ht u8size hg (by simp) (by simp)
    refine ⟨_, _, hcp, ?_⟩
    have hrow := h.row 0 [] (by simp)
    have e1 : ((bc l ++ sp).toArray.toList.take 0 ++ Lib.byteCells (bs []).data.toList ++ (bc l ++ sp).toArray.toList.drop (0 + (bs []).size)) = (bc l ++ sp).take 0 ++ [] ++ (bc l ++ sp).drop (0 + ([] : List Value).length) := by
      simp [Lib.byteCells]
    rw [e1]
    have e2 : (bc l ++ sp).take 0 ++ [] ++ (bc l ++ sp).drop (0 + ([] : List Value).length) = bc l ++ sp := by simp
    rw [e2] at hrow ⊢
    refine hR _ (bufC b (some ⟨g, 0, none⟩) (l ++ []).length c lr :: [(g, cel (bc (l ++ []) ++ sp) ty_uint8)]) ⟨_, c, lr, _, rfl, byS_mk rfl (by rw [List.append_nil]; exact hc), hc2⟩ ?_
    rw [List.append_nil]
    exact hrow.up1
  · rw [if_neg h0]
    rw [rowU8.hs, Nat.mul_one]
    have e1 : (some (⟨g, 0, none⟩ : Addr)).map (·.add l.length) = some ⟨g, l.length, none⟩ := by simp [Addr.add_zero_lit]
    rw [e1]
    have hcp := Lib.run_copy_row_string (P := P) w ty_S_uint8 ty_string ty_int ty_uint8 g l.length (l.length + s.length - l.length) (c - l.length) (bs s) (bc l ++ sp).toArray ty_uint8 rowU8.ht u8size hg (by simp) (by simp at hc ⊢; omega)
    refine ⟨_, _, hcp, ?_⟩
    have hb : Lib.byteCells (bs s).data.toList = bc s := by simp [Lib.byteCells, bc, bs]
    rw [hb, bs_size]
    have hrow := h.row l.length (bc s) (by simp at hc ⊢; omega)
    rw [bc_length] at hrow
    have e2 : (bc l ++ sp).take l.length = bc l := by rw [← bc_length l, List.take_left]
    have e3 : (bc l ++ sp).drop (l.length + s.length) = sp.drop s.length := by
      rw [List.drop_append, List.drop_eq_nil_of_le (by rw [bc_length]; omega), bc_length, Nat.add_sub_cancel_left]; rfl
    rw [e2, e3] at hrow
    refine hR _ (bufC b (some ⟨g, 0, none⟩) (l ++ s).length c lr :: [(g, cel (bc (l ++ s) ++ sp.drop s.length) ty_uint8)]) ⟨_, c, lr, _, rfl, byS_mk rfl ?_, hc2⟩ ?_
    · simp at hc ⊢; omega
    · rw [List.length_append, bc_append]
      simp only [e2, e3]
      exact hrow.up1
end Go.Proofs.YtgbgadkldalkbaaGreatDoor


set_option linter.unusedVariables false
namespace Go.Proofs.YtgbgadkldalkbaaGreatDoor
open Go.Proofs Go.IntWalk Go.RowKit
variable {σ : Out} {w : World} {L L' : List Chunk} {R : Ending → World → Prop}
theorem copyNil (w : World) : (Builtin.copy_ #[ty_S_uint8, ty_string] ty_int #[.slice none 0 0, .string (bs [])]).run P w = .ok (.int .i64 0) w := by
  have h : P.underlying ty_S_uint8 = some (.slice ty_uint8) := rowU8.ht
  have h2 : P.info? ty_uint8 = some rowU8.i := rowU8.hi
  have h3 := firstCells_string (P := P) (bs []) w
  have h4 : (Builtin.lenOf (.string (bs []))).run P w = .ok 0 w := rfl
  have h5 : rowU8.i.size = 1 := rowU8.hs
  have h6 : (Builtin.firstCells 1 0 (.string (bs []))).run P w = .ok (Go.byteCells (bs [])).toArray w := h3
  simp [Builtin.copy_, run_underlying h, sizeOf, typeInfo, h2, goInt, h4, h5, h6]
theorem writeS_ok {b : Nat} {l s : List UInt8} {M : List Chunk} (hB : Buf b l M) (h : Sat σ w (M ++ L)) (hb : l.length + s.length ≤ 1099511627776)
    (hR : ∀ w M', Buf b (l ++ s) M' → Sat σ w (M' ++ L) → R (.returned (.tuple #[.int .i64 s.length, .nilIface])) w) : callE P i_bytes_Buffer_WriteString #[.pointer (some ⟨b, 0, none⟩), .string (bs s)] R w := by
  obtain ⟨q, c, lr, M0, rfl, hS, hc⟩ := hB
  have hnc := hS.2.1
  refine g_bytes_Buffer_WriteString.sound ?_
  refine nilP_some ?_
  refine h.stA 0 fun w h => ?_
  have h : Sat σ w (bufC b q l.length c 0 :: (M0 ++ L)) := h
  rw [bs_size]
  refine tryGrow_ok h hnc hc (by omega) (by omega) (fun hh w h => ⟨_, _, rfl, br_false rfl ?_⟩) (fun hh w h => ⟨_, _, rfl, br_true rfl ?_⟩)
  · rcases hS.raw with ⟨rfl, hl0, rfl, rfl⟩ | ⟨g, sp, rfl, rfl, h3⟩
    · obtain rfl := List.eq_nil_of_length_eq_zero hl0
      obtain rfl : s = [] := List.eq_nil_of_length_eq_zero (by simpa using hh)
      refine nilP_some ?_
      refine ⟨_, _, _, h.ldA, ?_⟩
      refine ⟨_, _, _, _, sliceF rowU8.ht rowU8.hi none 0 0 0 (by omega) w, ?_⟩
      refine ⟨_, _, copyNil w, ?_⟩
      exact hR w _ ⟨none, 0, 0, [], rfl, By.nil, by omega⟩ h
    · exact writeK_ok h h3 hh hc fun w M' hB h => hR w M' hB h
  · refine grow_ok h hS (by omega) hh hb fun w g c' sp lr h1 h2 h3 h => ⟨_, rfl, ?_⟩
    exact writeK_ok h h3 h1 h2 fun w M' hB h => hR w M' hB h
theorem writeB_ok {b : Nat} {l : List UInt8} {k : UInt8} {M : List Chunk} (hB : Buf b l M) (h : Sat σ w (M ++ L)) (hb : l.length + 1 ≤ 1099511627776)
    (hR : ∀ w M', Buf b (l ++ [k]) M' → Sat σ w (M' ++ L) → R (.returned .nilIface) w) : callE P i_bytes_Buffer_WriteByte #[.pointer (some ⟨b, 0, none⟩), .int .u8 (k.toNat : Int)] R w := by
  obtain ⟨q, c, lr, M0, rfl, hS, hc⟩ := hB
  have hnc := hS.2.1
  refine g_bytes_Buffer_WriteByte.sound ?_
  refine nilP_some ?_
  refine h.stA 0 fun w h => ?_
  have h : Sat σ w (bufC b q l.length c 0 :: (M0 ++ L)) := h
  have key : ∀ w g c' sp lr, l.length + 1 ≤ c' → c' ≤ 9223372036854775807 → (bc l ++ sp).length = c' → Sat σ w (bufC b (some ⟨g, 0, none⟩) (l.length + 1) c' lr :: (g, cel (bc l ++ sp) ty_uint8) :: L) →
      g_bytes_Buffer_WriteByte.k1 R (some ⟨b, 0, none⟩) (k.toNat : Int) (l.length : Int) w := by
    intro w g c' sp lr h1 h2 h3 h
    refine nilP_some ?_
    refine ⟨_, _, _, h.ldA, ?_⟩
    refine ⟨by omega, by omega, nilP_some ?_⟩
    simp only [Addr.add_lit, Int.toNat_natCast, Nat.mul_one, Nat.zero_add, Nat.add_zero]
    simp only [List.length_append, bc_length] at h3
    refine Sat.st h (k := 1) rfl (by simp; omega) trivial rfl fun w h => ?_
    have e : (bc l ++ sp).set l.length (.int .u8 (k.toNat : Int)) = bc (l ++ [k]) ++ sp.drop 1 := by
      rw [List.set_append_right _ _ (by simp), bc_length, Nat.sub_self, bc_append]
      cases sp with
      | nil => simp at h3; omega
      | cons x sp => simp [bc]
    have h : Sat σ w (bufC b (some ⟨g, 0, none⟩) (l.length + 1) c' lr :: (g, cel ((bc l ++ sp).set l.length (.int .u8 (k.toNat : Int))) ty_uint8) :: L) := h
    rw [e] at h
    refine hR w (bufC b (some ⟨g, 0, none⟩) (l ++ [k]).length c' lr :: [(g, cel (bc (l ++ [k]) ++ sp.drop 1) ty_uint8)]) ⟨_, c', lr, _, rfl, byS_mk rfl (by simp; omega), h2⟩ ?_
    rw [List.length_append]
    exact h
  refine tryGrow_ok (m := 1) h hnc hc (by omega) (by omega) (fun hh w h => ⟨_, _, rfl, br_false rfl ?_⟩) (fun hh w h => ⟨_, _, rfl, br_true rfl ?_⟩)
  · rcases hS.raw with ⟨rfl, hl0, rfl, rfl⟩ | ⟨g, sp, rfl, rfl, h3⟩
    · omega
    · exact key w g c sp 0 hh hc h3 h
  · exact grow_ok (m := 1) h hS (by omega) hh hb fun w g c' sp lr h1 h2 h3 h => ⟨_, rfl, key w g c' sp lr h1 h2 h3 h⟩
theorem bufStr_ok {b : Nat} {l : List UInt8} {M : List Chunk} (hB : Buf b l M) (h : Sat σ w (M ++ L)) (hR : ∀ w, Sat σ w (M ++ L) → R (.returned (.string (bs l))) w) :
    callE P i_bytes_Buffer_String #[.pointer (some ⟨b, 0, none⟩)] R w := by
  obtain ⟨q, c, lr, M0, rfl, hS, hc⟩ := hB
  refine g_bytes_Buffer_String.sound ?_
  refine ⟨_, _, ptrNil_eq (e := ty_bytes_Buffer) (by kernel_rfl) _ w, br_false rfl ?_⟩
  refine h.tk fun w h => ?_
  refine nilP_some (nilP_some ?_)
  refine ⟨_, _, _, h.ldA, ?_⟩
  refine ⟨_, h.ldA, ?_⟩
  refine ⟨_, _, _, fun w => sliceF rowU8.ht rowU8.hi q l.length c 0 (by omega) w, ?_⟩
  have e0 : (if c = 0 then q else q.map (·.add (0 * rowU8.i.size))) = q := by
    rw [Nat.zero_mul]
    split
    · rfl
    · cases q <;> rfl
  rw [e0, Nat.sub_zero, Nat.sub_zero]
  have h' : Sat σ w (M0 ++ (bufC b q l.length c lr :: L)) := h.re (by intro _; simp only [List.append_eq, cnt_append, cnt_cons, cnt_nil] <;> omega)
  exact ⟨_, _, hS.str h', hR w h⟩
theorem bufNew (b : Nat) : Buf b [] [(b, cel [.slice none 0 0, .int .i64 0, .int .i8 0] ty_bytes_Buffer)] := ⟨none, 0, 0, [], rfl, By.nil, by omega⟩
end Go.Proofs.YtgbgadkldalkbaaGreatDoor


set_option linter.unusedVariables false
namespace Go.Proofs.YtgbgadkldalkbaaGreatDoor
open Go.Proofs Go.IntWalk Go.RowKit
variable {σ : Out} {w : World} {L L' : List Chunk} {R : Ending → World → Prop}
abbrev bldC (b : Nat) (p q : Option Addr) (n c : Nat) : Chunk := (b, cel [.pointer p, .slice q n c] ty_strings_Builder)
def Bld (b : Nat) (g : Bool) (l : List UInt8) (M : List Chunk) : Prop :=
  ∃ p q c M0, M = bldC b p q l.length c :: M0 ∧ By q l.length c l M0 ∧ (p = none ∨ p = some ⟨b, 0, none⟩) ∧ q.isSome = g ∧ (g = true → 0 < c)
theorem bldNew (b : Nat) : Bld b false [] [(b, cel [.pointer none, .slice none 0 0] ty_strings_Builder)] := ⟨none, none, 0, [], rfl, By.nil, .inl rfl, rfl, by simp⟩
theorem Sat.shape (h : Sat σ w L) {b : Nat} {cs : List Value} {e : TypeId} (hm : (b, cel cs e) ∈ L) : w.shape? b = some (e, cs.length) := by
  have := h.at_ _ hm
  simp only [cel] at this
  simp [World.shape?, this]
theorem copyCheck_ok {b : Nat} {p q : Option Addr} {n c : Nat} (h : Sat σ w (bldC b p q n c :: L)) (hp : p = none ∨ p = some ⟨b, 0, none⟩)
    (hR : ∀ w, Sat σ w (bldC b (some ⟨b, 0, none⟩) q n c :: L) → R (.returned (.tuple #[])) w) : callE P i_strings_Builder_copyCheck #[.pointer (some ⟨b, 0, none⟩)] R w := by
  have hu : P.underlying ty_P_strings_Builder = some (.pointer ty_strings_Builder) := by kernel_rfl
  have hun : P.underlying ty_unsafe_Pointer = some .unsafePointer := by kernel_rfl
  have hi : P.info? ty_strings_Builder = some ((P.info? ty_strings_Builder).getD default) := by kernel_rfl
  have hs : ((P.info? ty_strings_Builder).getD default).size = 2 := by kernel_rfl
  have hsh := h.shape (.head _)
  refine g_strings_Builder_copyCheck.sound ?_
  refine nilP_some ?_
  refine ⟨_, h.ldA, ?_⟩
  refine ⟨_, _, ptrNil_eq hu _ w, ?_⟩
  rcases hp with rfl | rfl
  · refine br_true rfl ?_
    refine ⟨_, _, Lib.run_to_unsafe w ⟨b, 0, none⟩ hu hun hi (by rw [hs]; decide) hsh (Nat.zero_lt_succ _), ?_⟩
    refine noEscape_ok ⟨_, rfl, ?_⟩
    refine ⟨_, _, Lib.run_from_unsafe w ⟨b, 0, none⟩ hun hu hi hsh (by kernel_rfl), ?_⟩
    refine nilP_some ?_
    refine h.stA 0 fun w h => ?_
    exact hR _ h
  · refine br_false rfl ?_
    refine nilP_some ?_
    refine ⟨_, h.ldA, ?_⟩
    refine ⟨_, _, neq_ptr_same hu hi (by rw [hs]; decide) b w, br_false rfl ?_⟩
    exact hR _ h
theorem bldS_ok {b : Nat} {g : Bool} {l s : List UInt8} {M : List Chunk} (hB : Bld b g l M) (h : Sat σ w (M ++ L)) (h0 : s ≠ [] ∨ g = true) (hb : l.length + s.length ≤ 1099511627776)
    (hR : ∀ w M', Bld b true (l ++ s) M' → Sat σ w (M' ++ L) → R (.returned (.tuple #[.int .i64 s.length, .nilIface])) w) : callE P i_strings_Builder_WriteString #[.pointer (some ⟨b, 0, none⟩), .string (bs s)] R w := by
  obtain ⟨p, q, c, M0, rfl, hS, hp, hg, hc⟩ := hB
  refine g_strings_Builder_WriteString.sound ?_
  refine copyCheck_ok h hp fun w h => ⟨rfl, ?_⟩
  refine nilP_some ?_
  refine ⟨_, _, _, h.ldA, ?_⟩
  have h : Sat σ w (M0 ++ (bldC b (some ⟨b, 0, none⟩) q l.length c :: L)) := h.re (by intro _; simp only [List.append_eq, cnt_append, cnt_cons, cnt_nil] <;> omega)
  have h0' : s ≠ [] ∨ q ≠ none := h0.imp id (fun hg1 => by rw [← hg] at hg1; intro h; rw [h] at hg1; cases hg1)
  refine hS.appS h s h0' hb fun q' c' w M' hS' h hq' hcc => ?_
  have h : Sat σ w (bldC b (some ⟨b, 0, none⟩) q l.length c :: (M' ++ L)) := h.re (by intro _; simp only [List.append_eq, cnt_append, cnt_cons, cnt_nil] <;> omega)
  refine nilP_some ?_
  refine h.stA 0 fun w h => ?_
  rw [bs_size]
  have hc' : 0 < c' := by
    rcases h0 with h0 | h0
    · have := hS'.2.1
      have := List.length_pos_iff.2 h0
      omega
    · have := hc h0; omega
  rw [← List.length_append] at hS'
  refine hR w (bldC b (some ⟨b, 0, none⟩) q' (l ++ s).length c' :: M') ⟨_, _, _, _, rfl, hS', .inr rfl, Option.isSome_iff_ne_none.2 hq', fun _ => hc'⟩ ?_
  rw [List.length_append]
  exact h
theorem Sat.freeze {b : Nat} {cs : List Value} {e : TypeId} (h : Sat σ w ((b, cel cs e) :: L)) (n : Nat) : Sat σ (w.freeze ⟨b, 0, none⟩ n) L := by
  unfold World.freeze
  split
  · exact h.tail
  · refine ⟨h.os, h.out, h.tail.nodup, fun c hc => ?_⟩
    have hne : b ≠ c.1 := by
      intro h1
      have := h.nodup
      simp only [List.map_cons, List.nodup_cons] at this
      exact this.1 (by rw [h1]; exact List.mem_map.2 ⟨c, hc, rfl⟩)
    simp only [Array.getElem?_modify, if_neg hne]
    exact h.at_ _ (.tail _ hc)
theorem bldStr_ok {b : Nat} {g : Bool} {l : List UInt8} {M : List Chunk} (hB : Bld b g l M) (h : Sat σ w (M ++ L)) (hl : l.length < 4611686018427387904) (hR : ∀ w, Sat σ w L → R (.returned (.string (bs l))) w) :
    callE P i_strings_Builder_String #[.pointer (some ⟨b, 0, none⟩)] R w := by
  obtain ⟨p, q, c, M0, rfl, hS, hp, hg, hc⟩ := hB
  refine g_strings_Builder_String.sound ?_
  refine h.tk fun w h => ?_
  refine nilP_some (nilP_some ?_)
  refine ⟨_, _, _, h.ldA, ?_⟩
  refine ⟨_, _, _, h.ldA, ?_⟩
  rcases hS.raw with ⟨rfl, hl0, rfl, rfl⟩ | ⟨gb, sp, rfl, rfl, h3⟩
  · obtain rfl := List.eq_nil_of_length_eq_zero hl0
    refine ⟨_, _, Lib.run_unsafeSliceData_nil (P := P) (w := w) _ _ _ _, fun _ _ => rfl, ?_⟩
    refine ⟨_, _, Lib.run_unsafeString_none (P := P) (w := w) _ _ _ _, hR _ h.tail⟩
  · refine ⟨_, _, Lib.run_unsafeSliceData_row (P := P) (w := w) _ _ _ _ _ (by have := hc (by rw [← hg]; rfl); omega), fun _ _ => rfl, ?_⟩
    have h' : Sat σ w ((gb, cel (bc l ++ sp) ty_uint8) :: L) := h.tail
    by_cases hl0 : l = []
    · subst hl0
      refine ⟨_, _, Lib.run_unsafeString_none (P := P) (w := w) _ _ _ _, hR _ h'.tail⟩
    · refine ⟨_, _, Lib.run_unsafeString_row (w := w) ty_P_uint8 ty_int ty_string ty_uint8 (by kernel_rfl) (by kernel_rfl) gb _ (h'.shape (.head _)) l hl0 (by simp) (by omega) (fun j x hj => ?_), hR _ (h'.freeze _)⟩
      rw [Addr.add_zero_lit]
      have hj' := (List.getElem?_eq_some_iff.1 hj).1
      refine h'.ld (.head _) ?_
      rw [List.getElem?_append_left (by rw [bc_length]; exact hj'), bc_get hj']
      rw [(List.getElem?_eq_some_iff.1 hj).2]
end Go.Proofs.YtgbgadkldalkbaaGreatDoor


set_option linter.unusedVariables false
namespace Go.Proofs.YtgbgadkldalkbaaGreatDoor
open Go.Proofs Go.IntWalk Go.RowKit
variable {σ : Out} {w : World} {L L' : List Chunk} {R : Ending → World → Prop}
abbrev Prs := List (UInt8 × List UInt8)
def escB (ps : Prs) (c : UInt8) : List UInt8 := match ps.find? (fun p => p.1 == c) with | some p => p.2 | none => [c]
def escS (ps : Prs) (s : List UInt8) : List UInt8 := s.flatMap (escB ps)
def pairC : Prs → List Value
  | [] => []
  | p :: ps => .string (bs [p.1]) :: .string (bs p.2) :: pairC ps
theorem pairC_key : ∀ {ps : Prs} {j : Nat} (h : j < ps.length), (pairC ps)[2 * j]? = some (.string (bs [ps[j].1]))
  | p :: ps, 0, h => rfl
  | p :: ps, j + 1, h => by
    rw [show 2 * (j + 1) = 2 * j + 1 + 1 by omega]
    simp only [pairC, List.getElem?_cons_succ, List.getElem_cons_succ]
    exact pairC_key (by simpa using h)
theorem pairC_val : ∀ {ps : Prs} {j : Nat} (h : j < ps.length), (pairC ps)[2 * j + 1]? = some (.string (bs ps[j].2))
  | p :: ps, 0, h => rfl
  | p :: ps, j + 1, h => by
    rw [show 2 * (j + 1) + 1 = 2 * j + 1 + 1 + 1 by omega]
    simp only [pairC, List.getElem?_cons_succ, List.getElem_cons_succ]
    exact pairC_val (by simpa using h)
def small8 (ps : Prs) : Bool := ps.all fun p => p.2.length ≤ 8
theorem escB_length {ps : Prs} (h : small8 ps = true) (c : UInt8) : (escB ps c).length ≤ 8 := by
  unfold escB
  split
  · rename_i p hp
    have := List.mem_of_find?_eq_some hp
    simpa using (List.all_eq_true.1 h) p this
  · simp
theorem escS_length {ps : Prs} (h : small8 ps = true) : ∀ s : List UInt8, (escS ps s).length ≤ 8 * s.length
  | [] => by simp [escS]
  | c :: s => by
    have := escS_length h s
    have := escB_length h c
    simp only [escS, List.flatMap_cons, List.length_append, List.length_cons] at *
    omega
theorem escS_cons (ps : Prs) (c : UInt8) (s : List UInt8) : escS ps (c :: s) = escB ps c ++ escS ps s := by simp [escS]
theorem escS_append (ps : Prs) (s t : List UInt8) : escS ps (s ++ t) = escS ps s ++ escS ps t := by simp [escS]

theorem writePairs_ok {b pb c : Nat} {e : TypeId} {l s : List UInt8} {ps : Prs} {M : List Chunk} (hB : Buf b l M) (h : Sat σ w (M ++ L)) (hp : (pb, cel (pairC ps) e) ∈ L) (h8 : small8 ps = true) (hpl : ps.length < 100000)
    (hs : s.length < 4611686018427387904) (hb : l.length + 8 * s.length ≤ 1099511627776)
    (hR : ∀ w M', Buf b (l ++ escS ps s) M' → Sat σ w (M' ++ L) → R (.returned (.tuple #[])) w) :
    callE P i_zzPairs_WriteString #[.slice (some ⟨pb, 0, none⟩) (2 * ps.length) c, .pointer (some ⟨b, 0, none⟩), .string (bs s)] R w := by
  refine g_zzPairs_WriteString.sound ?_
  intro X hX
  have key : ∀ k i l w M, i + k = s.length → Buf b l M → Sat σ w (M ++ L) → l.length + 8 * k ≤ 1099511627776 → (∀ w M', Buf b (l ++ escS ps (s.drop i)) M' → Sat σ w (M' ++ L) → R (.returned (.tuple #[])) w) →
      X (some ⟨pb, 0, none⟩) (2 * ps.length) c (some ⟨b, 0, none⟩) (bs s) i w := by
    intro k
    induction k with
    | zero =>
      intro i l w M hi hB h hb hR
      refine hX _ _ _ _ _ _ _ (br_false (by simp; omega) ?_)
      refine hR w M ?_ h
      rw [List.drop_eq_nil_of_le (by omega)]
      simpa [escS] using hB
    | succ k ih =>
      intro i l w M hi hB h hb hR
      have hil : i < s.length := by omega
      rw [List.drop_eq_getElem_cons hil, escS_cons, ← List.append_assoc] at hR
      have hlen8 := escB_length h8 s[i]
      refine hX _ _ _ _ _ _ _ (br_true (by simp; omega) ?_)
      intro Y hY
      have key2 : ∀ m j w, j + m = ps.length → ps.find? (fun p => p.1 == s[i]) = (ps.drop j).find? (fun p => p.1 == s[i]) → Sat σ w (M ++ L) → Y (some ⟨pb, 0, none⟩) (2 * ps.length) c (some ⟨b, 0, none⟩) (bs s) i ((2 * j : Nat) : Int) w := by
        intro m
        induction m with
        | zero =>
          intro j w hj hf h
          refine hY _ _ _ _ _ _ _ _ (br_false (by simp; omega) ?_)
          refine ⟨by omega, by simp; omega, ?_⟩
          rw [bt_at hil]
          have he : escB ps s[i] = [s[i]] := by
            unfold escB
            rw [hf, List.drop_eq_nil_of_le (by omega)]
            rfl
          rw [he] at hR hlen8
          refine writeB_ok hB h (by omega) fun w M' hB h => ⟨_, rfl, ?_⟩
          rw [i64_inc (by omega)]
          exact ih (i + 1) _ w M' (by omega) hB h (by simp; omega) hR
        | succ m ihm =>
          intro j w hj hf h
          have hjl : j < ps.length := by omega
          refine hY _ _ _ _ _ _ _ _ (br_true (by simp; omega) ?_)
          refine h.tk fun w h => ?_
          refine ⟨by omega, by simp; omega, by omega, by omega, nilP_some ?_⟩
          simp only [Addr.add_lit, Int.toNat_natCast, Nat.mul_one, Nat.zero_add]
          refine ⟨_, Sat.ld h (List.mem_append_right _ hp) (pairC_key hjl), by omega, by simp, ?_⟩
          rw [bt_at hil, show bt (bs [ps[j].1]) 0 = (ps[j].1.toNat : Int) from rfl, u8_beq]
          by_cases hk : s[i] = ps[j].1
          · refine br_true (by simp [hk]) ?_
            have e1 : IntKind.i64.wrap (((2 * j : Nat) : Int) + 1) = ((2 * j + 1 : Nat) : Int) := i64_inc (by omega)
            rw [e1]
            refine ⟨by omega, by omega, nilP_some ?_⟩
            simp only [Addr.add_lit, Int.toNat_natCast, Nat.mul_one, Nat.zero_add]
            refine ⟨_, Sat.ld h (List.mem_append_right _ hp) (pairC_val hjl), ?_⟩
            have he : escB ps s[i] = ps[j].2 := by
              unfold escB
              rw [hf, List.drop_eq_getElem_cons hjl, List.find?_cons_of_pos (by simp [hk])]
            rw [he] at hR hlen8
            refine writeS_ok hB h (by omega) fun w M' hB h => ⟨_, _, rfl, ?_⟩
            rw [i64_inc (by omega)]
            exact ih (i + 1) _ w M' (by omega) hB h (by simp; omega) hR
          · refine br_false (by simpa using hk) ?_
            have e1 : IntKind.i64.wrap (((2 * j : Nat) : Int) + 2) = ((2 * (j + 1) : Nat) : Int) := by simp (disch := omega) only [i64_in]; omega
            rw [e1]
            refine ihm (j + 1) w (by omega) ?_ h
            rw [hf, List.drop_eq_getElem_cons hjl, List.find?_cons_of_neg (by simpa using fun h => hk h.symm)]
      exact key2 ps.length 0 w (by omega) (by rw [List.drop_zero]) h
  exact key s.length 0 l w M (by omega) hB h hb (by rw [List.drop_zero]; exact hR)

theorem pairsReplace_ok {pb c : Nat} {e : TypeId} {s : List UInt8} {ps : Prs} (h : Sat σ w L) (hp : (pb, cel (pairC ps) e) ∈ L) (h8 : small8 ps = true) (hpl : ps.length < 100000) (hs : s.length < 4294967296)
    (hR : ∀ w, Sat σ w L → R (.returned (.string (bs (escS ps s)))) w) :
    callE P i_zzPairs_Replace #[.slice (some ⟨pb, 0, none⟩) (2 * ps.length) c, .string (bs s)] R w := by
  refine g_zzPairs_Replace.sound ?_
  refine Sat.bx h fun b w h => ?_
  refine writePairs_ok (bufNew b) h hp h8 hpl (by omega) (by simp; omega) fun w M hB h => ⟨rfl, ?_⟩
  rw [List.nil_append] at hB
  exact bufStr_ok hB h fun w h => ⟨_, rfl, hR w (h.less M (by intro _; simp only [List.append_eq, cnt_append, cnt_cons, cnt_nil] <;> omega))⟩

theorem buildR {t e : TypeId} {n : Nat} {ps : Array (Nat × Value)} {cs : List Value} (h : Sat σ w L) (ht : P.underlying t = some (.slice e)) (hi : P.info? e = some ((P.info? e).getD default))
    (hz : ((P.info? e).getD default).zero = some (((P.info? e).bind (·.zero)).getD default)) (hs : ((P.info? e).getD default).size = 1) (hn : n ≤ 1000) (hn0 : n ≠ 0)
    (hfill : Instr.fill (fun i => some (i * 1, 1)) ((Array.range (n * 1)).map ((((P.info? e).bind (·.zero)).getD default).cells[· % (((P.info? e).bind (·.zero)).getD default).cells.size]!)) ps.toList = some cs.toArray) {K : Option Addr → Nat → Nat → World → Prop}
    (hK : ∀ b w, Sat σ w ((b, cel cs e) :: L) → K (some ⟨b, 0, none⟩) n n w) : ∃ rq rn rc w1, (Instr.buildSlice t n ps).run P w = .ok (.slice rq rn rc) w1 ∧ K rq rn rc w1 := by
  have hrun := run_buildSlice (P := P) w t e n ps cs.toArray _ _ ht hi hz (by rw [hs]; omega) (by rw [hs]; omega) (by rw [hs]; exact hfill)
  exact ⟨_, _, _, _, hrun, hK _ _ (h.alc cs e)⟩
def htmlPs : Prs := [(34, [38, 113, 117, 111, 116, 59]), (38, [38, 97, 109, 112, 59]), (60, [38, 108, 116, 59]), (62, [38, 103, 116, 59])]
def linkPs : Prs := [(34, [37, 50, 50]), (38, [38, 97, 109, 112, 59]), (60, [37, 51, 67]), (62, [37, 51, 69]), (92, [37, 53, 67]), (32, [37, 50, 48]), (96, [37, 54, 48]), (91, [37, 53, 66]), (93, [37, 53, 68]), (94, [37, 53, 69]), (123, [37, 55, 66]), (125, [37, 55, 68]), (0, [37, 48, 48]), (1, [37, 48, 49]), (2, [37, 48, 50]), (3, [37, 48, 51]), (4, [37, 48, 52]), (5, [37, 48, 53]), (6, [37, 48, 54]), (7, [37, 48, 55]), (8, [37, 48, 56]), (11, [37, 48, 66]), (12, [37, 48, 67]), (14, [37, 48, 69]), (15, [37, 48, 70]), (16, [37, 49, 48]), (17, [37, 49, 49]), (18, [37, 49, 50]), (19, [37, 49, 51]), (20, [37, 49, 52]), (21, [37, 49, 53]), (22, [37, 49, 54]), (23, [37, 49, 55]), (24, [37, 49, 56]), (25, [37, 49, 57]), (26, [37, 49, 65]), (27, [37, 49, 66]), (28, [37, 49, 67]), (29, [37, 49, 68]), (30, [37, 49, 69]), (31, [37, 49, 70]), (127, [37, 55, 70]), (128, [37, 56, 48]), (129, [37, 56, 49]), (130, [37, 56, 50]), (131, [37, 56, 51]), (132, [37, 56, 52]), (133, [37, 56, 53]), (134, [37, 56, 54]), (135, [37, 56, 55]), (136, [37, 56, 56]), (137, [37, 56, 57]), (138, [37, 56, 65]), (139, [37, 56, 66]), (140, [37, 56, 67]), (141, [37, 56, 68]), (142, [37, 56, 69]), (143, [37, 56, 70]), (144, [37, 57, 48]), (145, [37, 57, 49]), (146, [37, 57, 50]), (147, [37, 57, 51]), (148, [37, 57, 52]), (149, [37, 57, 53]), (150, [37, 57, 54]), (151, [37, 57, 55]), (152, [37, 57, 56]), (153, [37, 57, 57]), (154, [37, 57, 65]), (155, [37, 57, 66]), (156, [37, 57, 67]), (157, [37, 57, 68]), (158, [37, 57, 69]), (159, [37, 57, 70]), (160, [37, 65, 48]), (161, [37, 65, 49]), (162, [37, 65, 50]), (163, [37, 65, 51]), (164, [37, 65, 52]), (165, [37, 65, 53]), (166, [37, 65, 54]), (167, [37, 65, 55]), (168, [37, 65, 56]), (169, [37, 65, 57]), (170, [37, 65, 65]), (171, [37, 65, 66]), (172, [37, 65, 67]), (173, [37, 65, 68]), (174, [37, 65, 69]), (175, [37, 65, 70]), (176, [37, 66, 48]), (177, [37, 66, 49]), (178, [37, 66, 50]), (179, [37, 66, 51]), (180, [37, 66, 52]), (181, [37, 66, 53]), (182, [37, 66, 54]), (183, [37, 66, 55]), (184, [37, 66, 56]), (185, [37, 66, 57]), (186, [37, 66, 65]), (187, [37, 66, 66]), (188, [37, 66, 67]), (189, [37, 66, 68]), (190, [37, 66, 69]), (191, [37, 66, 70]), (192, [37, 67, 48]), (193, [37, 67, 49]), (194, [37, 67, 50]), (195, [37, 67, 51]), (196, [37, 67, 52]), (197, [37, 67, 53]), (198, [37, 67, 54]), (199, [37, 67, 55]), (200, [37, 67, 56]), (201, [37, 67, 57]), (202, [37, 67, 65]), (203, [37, 67, 66]), (204, [37, 67, 67]), (205, [37, 67, 68]), (206, [37, 67, 69]), (207, [37, 67, 70]), (208, [37, 68, 48]), (209, [37, 68, 49]), (210, [37, 68, 50]), (211, [37, 68, 51]), (212, [37, 68, 52]), (213, [37, 68, 53]), (214, [37, 68, 54]), (215, [37, 68, 55]), (216, [37, 68, 56]), (217, [37, 68, 57]), (218, [37, 68, 65]), (219, [37, 68, 66]), (220, [37, 68, 67]), (221, [37, 68, 68]), (222, [37, 68, 69]), (223, [37, 68, 70]), (224, [37, 69, 48]), (225, [37, 69, 49]), (226, [37, 69, 50]), (227, [37, 69, 51]), (228, [37, 69, 52]), (229, [37, 69, 53]), (230, [37, 69, 54]), (231, [37, 69, 55]), (232, [37, 69, 56]), (233, [37, 69, 57]), (234, [37, 69, 65]), (235, [37, 69, 66]), (236, [37, 69, 67]), (237, [37, 69, 68]), (238, [37, 69, 69]), (239, [37, 69, 70]), (240, [37, 70, 48]), (241, [37, 70, 49]), (242, [37, 70, 50]), (243, [37, 70, 51]), (244, [37, 70, 52]), (245, [37, 70, 53]), (246, [37, 70, 54]), (247, [37, 70, 55]), (248, [37, 70, 56]), (249, [37, 70, 57]), (250, [37, 70, 65]), (251, [37, 70, 66]), (252, [37, 70, 67]), (253, [37, 70, 68]), (254, [37, 70, 69]), (255, [37, 70, 70])]
theorem buildPairs {n : Nat} {ps : Array (Nat × Value)} (pr : Prs) (h : Sat σ w L) (hn : n ≤ 1000) (hn0 : n ≠ 0)
    (hfill : Instr.fill (fun i => some (i * 1, 1)) ((Array.range (n * 1)).map ((((P.info? ty_string).bind (·.zero)).getD default).cells[· % (((P.info? ty_string).bind (·.zero)).getD default).cells.size]!)) ps.toList = some (pairC pr).toArray) {K : Option Addr → Nat → Nat → World → Prop}
    (hK : ∀ b w, Sat σ w ((b, cel (pairC pr) ty_string) :: L) → K (some ⟨b, 0, none⟩) n n w) : ∃ rq rn rc w1, (Instr.buildSlice ty_zzPairs n ps).run P w = .ok (.slice rq rn rc) w1 ∧ K rq rn rc w1 :=
  buildR h (by kernel_rfl) (by kernel_rfl) (by kernel_rfl) (by kernel_rfl) hn hn0 hfill hK
theorem htmlEscaper_ok (h : Sat σ w L) (hR : ∀ w b, Sat σ w ((b, cel (pairC htmlPs) ty_string) :: L) → R (.returned (.slice (some ⟨b, 0, none⟩) 8 8)) w) : callE P i_htmlEscaper #[] R w := by
  refine g_htmlEscaper.sound ?_
  exact buildPairs htmlPs h (by decide) (by decide) (by kernel_rfl) fun b w h => hR w b h
theorem htmlQuoteEscaper_ok (h : Sat σ w L) (hR : ∀ w b, Sat σ w ((b, cel (pairC htmlPs) ty_string) :: L) → R (.returned (.slice (some ⟨b, 0, none⟩) 8 8)) w) : callE P i_htmlQuoteEscaper #[] R w := by
  refine g_htmlQuoteEscaper.sound ?_
  exact buildPairs htmlPs h (by decide) (by decide) (by kernel_rfl) fun b w h => hR w b h
theorem htmlLinkEscaper_ok (h : Sat σ w L) (hR : ∀ w b, Sat σ w ((b, cel (pairC linkPs) ty_string) :: L) → R (.returned (.slice (some ⟨b, 0, none⟩) 340 340)) w) : callE P i_htmlLinkEscaper #[] R w := by
  refine g_htmlLinkEscaper.sound ?_
  exact buildPairs linkPs h (by decide) (by decide) (by kernel_rfl) fun b w h => hR w b h
end Go.Proofs.YtgbgadkldalkbaaGreatDoor


set_option linter.unusedVariables false
namespace Go.Proofs.YtgbgadkldalkbaaGreatDoor
open Go.Proofs Go.IntWalk Go.RowKit
variable {σ : Out} {w : World} {L L' : List Chunk} {R : Ending → World → Prop}
def Prints (m : String) (v : Value) (T T' : List Chunk) (f : List UInt8 → List UInt8) : Prop :=
  (∀ l, l.length ≤ (f l).length) ∧
  ∀ (σ : Out) (R : Ending → World → Prop) b l M L w, Buf b l M → Sat σ w (M ++ (T ++ L)) → (f l).length ≤ 549755813888 →
    (∀ w M', Buf b (f l) M' → Sat σ w (M' ++ (T' ++ L)) → R (.returned (.tuple #[])) w) → enterE P (callMethod v m #[.pointer (some ⟨b, 0, none⟩)]) R w
inductive PrintsL (m : String) : List Value → List Chunk → List Chunk → (List UInt8 → List UInt8) → Prop where
  | nil : PrintsL m [] [] [] id
  | cons {v : Value} {vs : List Value} {T T' K K' : List Chunk} {f g : List UInt8 → List UInt8} : Prints m v T T' f → PrintsL m vs K K' g → PrintsL m (v :: vs) (T ++ K) (T' ++ K') (g ∘ f)
theorem PrintsL.mono {m : String} {vs : List Value} {K K' : List Chunk} {f : List UInt8 → List UInt8} (h : PrintsL m vs K K' f) : ∀ l, l.length ≤ (f l).length := by
  induction h with
  | nil => exact fun l => Nat.le_refl _
  | cons h1 _ ih => exact fun l => Nat.le_trans (h1.1 l) (ih _)
theorem printLoop {m : String} {b : Nat} {X : Int → World → Prop} {q : Option Addr} {n c : Nat} {e : TypeId} {vs : List Value} {RM KM KM' M : List Chunk} {l : List UInt8} {f : List UInt8 → List UInt8} {END : World → Prop} (hS : Sl 1 e q n c vs RM)
    (hX : ∀ (j : Int) w, br (decide (j < (n : Int))) (0 ≤ j ∧ j < (n : Int) ∧ nilP q fun a => ∃ (v : Value), w.cell? (a.add (Int.toNat j * 1)) = some v ∧
      enterE P (callMethod v m #[.pointer (some ⟨b, 0, none⟩)]) (fun e w' => e = .returned (.tuple #[]) ∧ X (IntKind.i64.wrap (j + 1)) w') w) (END w) → X j w)
    (hP : PrintsL m vs KM KM' f) (hB : Buf b l M) (h : Sat σ w (M ++ (RM ++ (KM ++ L)))) (hn : n < 4611686018427387904) (hb : (f l).length ≤ 549755813888)
    (hE : ∀ w M', Buf b (f l) M' → Sat σ w (M' ++ (RM ++ (KM' ++ L))) → END w) : X 0 w := by
  have hl := hS.1
  have key : ∀ (vs2 : List Value) (KM KM' : List Chunk) (f : List UInt8 → List UInt8), PrintsL m vs2 KM KM' f → ∀ (vs1 : List Value) (D : List Chunk) l M w, vs1 ++ vs2 = vs → Buf b l M → Sat σ w (M ++ (RM ++ (D ++ (KM ++ L)))) → (f l).length ≤ 549755813888 →
      (∀ w M', Buf b (f l) M' → Sat σ w (M' ++ (RM ++ (D ++ (KM' ++ L)))) → END w) → X (vs1.length : Nat) w := by
    intro vs2 KM KM' f hP
    induction hP with
    | nil =>
      intro vs1 D l M w hv hB h hb hE
      refine hX _ _ (br_false ?_ (hE w M hB h))
      rw [← hv] at hl
      simp at hl
      simp; omega
    | @cons v vs2 T T' K K' f g h1 h2 ih =>
      intro vs1 D l M w hv hB h hb hE
      have hlen : vs1.length < n := by rw [← hv] at hl; simp at hl; omega
      refine hX _ _ (br_true (by simp; omega) ⟨by omega, by omega, ?_⟩)
      have hv1 : vs[vs1.length]? = some v := by rw [← hv]; simp
      obtain ⟨_, _, ⟨rfl, h0, _, _⟩ | ⟨rb, sp, rfl, rfl, _⟩⟩ := hS
      · omega
      · refine nilP_some ?_
        simp only [Addr.add_lit, Int.toNat_natCast, Nat.mul_one, Nat.zero_add]
        refine ⟨v, Sat.ld h (List.mem_append_right _ (.head _)) ?_, ?_⟩
        · rw [List.getElem?_append_left (List.getElem?_eq_some_iff.1 hv1).1]; exact hv1
        · have hmono := h2.mono (f l)
          have h : Sat σ w (M ++ (T ++ ((rb, cel (vs ++ sp) e) :: (D ++ (K ++ L))))) := h.re (by intro _; simp only [List.append_eq, cnt_append, cnt_cons, cnt_nil] <;> omega)
          refine h1.2 σ _ b l M _ w hB h (Nat.le_trans hmono hb) fun w M' hB h => ⟨rfl, ?_⟩
          have h : Sat σ w (M' ++ ([(rb, cel (vs ++ sp) e)] ++ ((D ++ T') ++ (K ++ L)))) := h.re (by intro _; simp only [List.append_eq, cnt_append, cnt_cons, cnt_nil] <;> omega)
          rw [i64_inc (by omega)]
          have := ih (vs1 ++ [v]) (D ++ T') (f l) M' w (by simpa using hv) hB h hb (fun w M' hB h => hE w M' hB (h.re (by intro _; simp only [List.append_eq, cnt_append, cnt_cons, cnt_nil] <;> omega)))
          simpa using this
  exact key vs KM KM' f hP [] [] l M w rfl hB h hb hE

def ab (s : List UInt8) : List UInt8 → List UInt8 := fun l => l ++ s
theorem ab_le (s l : List UInt8) : l.length ≤ (ab s l).length := by simp [ab]
theorem meth_Plain : methB P ty_P_Plain "PrintHTML" i_Plain_PrintHTML = true := by kernel_rfl
theorem plainPrint_ok {b pb : Nat} {l s : List UInt8} {cs : List Value} {e : TypeId} {M : List Chunk} (hB : Buf b l M) (h : Sat σ w (M ++ ((pb, cel (.string (bs s) :: cs) e) :: L))) (hs : s.length < 4294967296) (hb : l.length ≤ 549755813888)
    (hR : ∀ w M', Buf b (l ++ escS htmlPs s) M' → Sat σ w (M' ++ ((pb, cel (.string (bs s) :: cs) e) :: L)) → R (.returned (.tuple #[])) w) :
    callE P i_Plain_PrintHTML #[.pointer (some ⟨pb, 0, none⟩), .pointer (some ⟨b, 0, none⟩)] R w := by
  refine g_Plain_PrintHTML.sound ?_
  refine h.tk fun w h => ?_
  refine nilP_some ?_
  refine ⟨_, Sat.ld h (List.mem_append_right _ (.head _)) rfl, ?_⟩
  refine htmlEscaper_ok h fun w1 eb h1 => ⟨_, _, _, rfl, h.same h1 (List.mem_append_right _ (.head _)) (.tail _ (List.mem_append_right _ (.head _))) 1, ?_⟩
  have h1 : Sat σ w1 (M ++ ((eb, cel (pairC htmlPs) ty_string) :: (pb, cel (.string (bs s) :: cs) e) :: L)) := h1.re (by intro _; simp only [List.append_eq, cnt_append, cnt_cons, cnt_nil] <;> omega)
  refine writePairs_ok (ps := htmlPs) hB h1 (.head _) (by decide) (by decide) (by omega) (by omega) fun w M' hB h => ⟨rfl, hR w M' hB ?_⟩
  exact h.less [(eb, cel (pairC htmlPs) ty_string)] (by intro _; simp only [List.append_eq, cnt_append, cnt_cons, cnt_nil] <;> omega)
theorem plain_prints {pb : Nat} {s : List UInt8} {cs : List Value} {e : TypeId} (hs : s.length < 4294967296) :
    Prints "PrintHTML" (.iface ty_P_Plain (.pointer (some ⟨pb, 0, none⟩))) [(pb, cel (.string (bs s) :: cs) e)] [(pb, cel (.string (bs s) :: cs) e)] (ab (escS htmlPs s)) := by
  refine ⟨ab_le _, fun σ R b l M L w hB h hb hR => enter_meth meth_Plain ?_⟩
  exact plainPrint_ok hB h hs (Nat.le_trans (ab_le _ l) hb) hR
end Go.Proofs.YtgbgadkldalkbaaGreatDoor


set_option linter.unusedVariables false
namespace Go.Proofs.YtgbgadkldalkbaaGreatDoor
open Go.Proofs Go.IntWalk Go.RowKit
variable {σ : Out} {w : World} {L L' : List Chunk} {R : Ending → World → Prop}
theorem textPrint_ok {b t s e : Nat} {q : Option Addr} {n c : Nat} {raw : List UInt8} {vs : List Value} {RM KM KM' M : List Chunk} {l : List UInt8} {f : List UInt8 → List UInt8} (hS : Sl 1 ty_Inline q n c vs RM) (hn : n < 4611686018427387904)
    (hP : PrintsL "PrintHTML" vs KM KM' f) (hB : Buf b l M) (h : Sat σ w (M ++ (textC t s e q n c raw :: (RM ++ (KM ++ L))))) (hb : (f l).length ≤ 549755813888)
    (hR : ∀ w M', Buf b (f l) M' → Sat σ w (M' ++ (textC t s e q n c raw :: (RM ++ (KM' ++ L)))) → R (.returned (.tuple #[])) w) :
    callE P i_Text_PrintHTML #[.pointer (some ⟨t, 0, none⟩), .pointer (some ⟨b, 0, none⟩)] R w := by
  refine g_Text_PrintHTML.sound ?_
  refine nilP_some ?_
  refine ⟨_, _, _, Sat.ld h (List.mem_append_right _ (.head _)) rfl, ?_⟩
  intro X hX
  have h : Sat σ w (M ++ (RM ++ (KM ++ (textC t s e q n c raw :: L)))) := h.re (by intro _; simp only [List.append_eq, cnt_append, cnt_cons, cnt_nil] <;> omega)
  refine printLoop (X := fun j w => X (some ⟨b, 0, none⟩) q n c (n : Int) j w) (END := fun w => R (.returned (.tuple #[])) w) hS (fun j w hj => hX _ _ _ _ _ _ _ hj) hP hB h hn hb fun w M' hB h => ?_
  exact hR w M' hB (h.re (by intro _; simp only [List.append_eq, cnt_append, cnt_cons, cnt_nil] <;> omega))
theorem meth_Paragraph : methB P ty_P_Paragraph "PrintHTML" i_Paragraph_PrintHTML = true := by kernel_rfl
theorem meth_Document : methB P ty_P_Document "PrintHTML" i_Document_PrintHTML = true := by kernel_rfl
def pOpen : List UInt8 := [60, 112, 62]
def pClose : List UInt8 := [60, 47, 112, 62, 10]
theorem para_prints {nb t s e : Nat} {s' e' : Nat} {q : Option Addr} {n c : Nat} {raw : List UInt8} {vs : List Value} {RM KM KM' : List Chunk} {f : List UInt8 → List UInt8} (hS : Sl 1 ty_Inline q n c vs RM) (hn : n < 4611686018427387904)
    (hP : PrintsL "PrintHTML" vs KM KM' f) :
    Prints "PrintHTML" (.iface ty_P_Paragraph (.pointer (some ⟨nb, 0, none⟩))) (paraC nb s e t :: textC t s' e' q n c raw :: (RM ++ KM)) (paraC nb s e t :: textC t s' e' q n c raw :: (RM ++ KM')) (fun l => f (l ++ pOpen) ++ pClose) := by
  refine ⟨fun l => ?_, fun σ R b l M L w hB h hb hR => enter_meth meth_Paragraph ?_⟩
  · have := hP.mono (l ++ pOpen)
    simp only [List.length_append] at *; omega
  refine g_Paragraph_PrintHTML.sound ?_
  have hm := hP.mono (l ++ pOpen)
  simp only [List.length_append] at hb hm
  refine writeS_ok (s := pOpen) hB h (by omega) fun w M hB h => ⟨_, _, rfl, ?_⟩
  refine nilP_some ?_
  refine ⟨_, Sat.ld h (List.mem_append_right _ (.head _)) rfl, ?_⟩
  have h : Sat σ w (M ++ (textC t s' e' q n c raw :: (RM ++ (KM ++ (paraC nb s e t :: L))))) := h.re (by intro _; simp only [List.append_eq, cnt_append, cnt_cons, cnt_nil] <;> omega)
  refine textPrint_ok hS hn hP hB h (by omega) fun w M hB h => ⟨rfl, ?_⟩
  refine writeS_ok (s := pClose) hB h (by omega) fun w M hB h => ⟨_, _, rfl, ?_⟩
  exact hR w M hB (h.re (by intro _; simp only [List.append_eq, cnt_append, cnt_cons, cnt_nil] <;> omega))
theorem doc_prints {db s e : Nat} {q : Option Addr} {n c : Nat} {lk : Option Nat} {vs : List Value} {RM KM KM' : List Chunk} {f : List UInt8 → List UInt8} (hS : Sl 1 ty_Block q n c vs RM) (hn : n < 4611686018427387904)
    (hP : PrintsL "PrintHTML" vs KM KM' f) :
    Prints "PrintHTML" (.iface ty_P_Document (.pointer (some ⟨db, 0, none⟩))) (docC db s e q n c lk :: (RM ++ KM)) (docC db s e q n c lk :: (RM ++ KM')) f := by
  refine ⟨hP.mono, fun σ R b l M L w hB h hb hR => enter_meth meth_Document ?_⟩
  refine g_Document_PrintHTML.sound ?_
  refine nilP_some ?_
  refine ⟨_, _, _, Sat.ld h (List.mem_append_right _ (.head _)) rfl, ?_⟩
  intro X hX
  have h : Sat σ w (M ++ (RM ++ (KM ++ (docC db s e q n c lk :: L)))) := h.re (by intro _; simp only [List.append_eq, cnt_append, cnt_cons, cnt_nil] <;> omega)
  refine printLoop (X := fun j w => X (some ⟨b, 0, none⟩) q n c (n : Int) j w) (END := fun w => R (.returned (.tuple #[])) w) hS (fun j w hj => hX _ _ _ _ _ _ _ hj) hP hB h hn hb fun w M' hB h => ?_
  exact hR w M' hB (h.re (by intro _; simp only [List.append_eq, cnt_append, cnt_cons, cnt_nil] <;> omega))
theorem toHTML_ok {v : Value} {T T' : List Chunk} {f : List UInt8 → List UInt8} (hP : Prints "PrintHTML" v T T' f) (h : Sat σ w (T ++ L)) (hb : (f []).length ≤ 549755813888)
    (hR : ∀ w, Sat σ w (T' ++ L) → R (.returned (.string (bs (f [])))) w) : callE P i_ToHTML #[v] R w := by
  refine g_ToHTML.sound ?_
  refine Sat.bx h fun b w h => ?_
  refine hP.2 σ _ b [] _ L w (bufNew b) h hb fun w M hB h => ⟨rfl, ?_⟩
  exact bufStr_ok hB h fun w h => ⟨_, rfl, hR w (h.less M (by intro _; simp only [List.append_eq, cnt_append, cnt_cons, cnt_nil] <;> omega))⟩
end Go.Proofs.YtgbgadkldalkbaaGreatDoor


set_option linter.unusedVariables false
namespace Go.Proofs.YtgbgadkldalkbaaGreatDoor
open Go.Proofs Go.IntWalk Go.RowKit
variable {σ : Out} {w : World} {L L' : List Chunk} {R : Ending → World → Prop}
theorem appRoom {t ty e : TypeId} {bytes : Nat} (r : Row P t e 1 bytes) {b k c : Nat} {cs : List Value} (h : Sat σ w ((b, cel cs e) :: L)) (hk : k < cs.length) (hc : k < c) {v : Value} (hv : v.cells = #[v]) (h1 : v.oneCell' = true)
    (hfill : Instr.fill (fun i => some (i * 1, 1)) ((Array.range (1 * 1)).map (r.z.cells[· % r.z.cells.size]!)) [(0, v)] = some v.cells)
    {K : Option Addr → Nat → Nat → World → Prop} {C : World → Prop} (hC : ∀ w1 X, Sat σ w1 (X :: ((b, cel cs e) :: L)) → C w1) (hK : ∀ w', Sat σ w' ((b, cel (cs.set k v) e) :: L) → K (some ⟨b, 0, none⟩) (k + 1) c w') :
    ∃ rq rn rc w1, (Instr.buildSlice t 1 #[(0, v)]).run P w = .ok (.slice rq rn rc) w1 ∧ C w1 ∧
      ∃ q' n' c' w2, (Builtin.append_ #[t, t] ty #[.slice (some ⟨b, 0, none⟩) k c, .slice rq rn rc]).run P w1 = .ok (.slice q' n' c') w2 ∧ K q' n' c' w2 := by
  have hrun := run_buildSlice (P := P) w t e 1 #[(0, v)] v.cells r.i r.z r.ht r.hi r.hz (by rw [r.hs]; omega) (by rw [r.hs]; omega) (by rw [r.hs]; exact hfill)
  refine ⟨_, _, _, _, hrun, ?_⟩
  have ha := h.alc v.cells.toList e
  have e3 : YtgbgadkldalkbaaGreatDoor.alc w v.cells.toList.toArray e = w.alloc (.cells v.cells e) := by rw [Array.toArray_toList]; rfl
  rw [e3] at ha
  generalize hw1 : w.alloc (.cells v.cells e) = w1 at ha ⊢
  generalize w.heap.size = nb at ha ⊢
  rw [hv] at ha
  have hs : Src P 1 t (.slice (some ⟨nb, 0, none⟩) 1 1) 1 [v] w1 := by
    refine Src.ofSlice w1 r.ht _ 1 1 _ (by simp) (fun j u hu => ?_) (by simp [h1])
    rw [show (Addr.add ⟨nb, 0, none⟩ j) = ⟨nb, j, none⟩ from Addr.add_zero_lit nb j]
    exact ha.ld (List.mem_cons_self ..) hu
  have hs' : Src P r.i.size t (.slice (some ⟨nb, 0, none⟩) 1 1) 1 [v] w1 := by rw [r.hs]; exact hs
  refine ⟨hC _ _ ha, _, _, _, _, run_append_room_src w1 t t ty e r.i r.ht r.hi b 0 k c _ 1 [v] hs' (by omega) ?_ ?_, hK _ ?_⟩
  · intro j hj
    simp at hj
    subst hj
    rw [r.hs, Nat.zero_add, Nat.mul_one, Nat.add_zero, ha.ld (.tail _ (.head _)) (List.getElem?_eq_getElem hk)]
    rfl
  · exact fun j hj => ha.not_frozen (.tail _ (.head _))
  · rw [r.hs]
    have hb : Sat σ w1 ((b, cel cs e) :: (nb, cel [v] e) :: L) := ha.up1
    have := setCells_sat hb (0 + k * 1) [v] (by simp; omega)
    rw [Nat.zero_add, Nat.mul_one] at this ⊢
    have e1 : cs.take k ++ [v] ++ cs.drop (k + 1) = cs.set k v := by
      rw [List.set_eq_take_append_cons_drop, if_pos hk]; simp
    rw [show [v].length = 1 from rfl, e1] at this
    exact this.less [(nb, cel [v] e)] (by intro _; simp only [List.append_eq, cnt_append, cnt_cons, cnt_nil] <;> omega)
theorem appRoom' {t ty e : TypeId} {bytes : Nat} (r : Row P t e 1 bytes) {b k c : Nat} {cs : List Value} (h : Sat σ w ((b, cel cs e) :: L)) (hk : k < cs.length) (hc : k < c) {v : Value} (hv : v.cells = #[v]) (h1 : v.oneCell' = true)
    (hfill : Instr.fill (fun i => some (i * 1, 1)) ((Array.range (1 * 1)).map (r.z.cells[· % r.z.cells.size]!)) [(0, v)] = some v.cells)
    {K : Option Addr → Nat → Nat → World → Prop} (hK : ∀ w', Sat σ w' ((b, cel (cs.set k v) e) :: L) → K (some ⟨b, 0, none⟩) (k + 1) c w') :
    ∃ rq rn rc w1, (Instr.buildSlice t 1 #[(0, v)]).run P w = .ok (.slice rq rn rc) w1 ∧
      ∃ q' n' c' w2, (Builtin.append_ #[t, t] ty #[.slice (some ⟨b, 0, none⟩) k c, .slice rq rn rc]).run P w1 = .ok (.slice q' n' c') w2 ∧ K q' n' c' w2 := by
  obtain ⟨rq, rn, rc, w1, h1, _, h2⟩ := appRoom (ty := ty) r h hk hc hv h1 hfill (C := fun _ => True) (fun _ _ _ => trivial) hK
  exact ⟨rq, rn, rc, w1, h1, h2⟩

inductive Inl where
  | plain (s : List UInt8)
  | openP (s : List UInt8) (i : Nat)
  | emphP (s : List UInt8) (co cc : Bool) (i n : Int)
  | esc (s : List UInt8)
  | code (s : List UInt8)
  | strong (m : List UInt8) (ks : List Inl)
  | del (m : List UInt8) (ks : List Inl)
  | emph (m : List UInt8) (ks : List Inl)
  | link (ks : List Inl) (url title : List UInt8) (tc : UInt8) (corner : Bool)
  | image (ks : List Inl) (url title : List UInt8) (tc : UInt8) (corner : Bool)
  | auto (text url : List UInt8)
  | tag (s : List UInt8)
  | hard
  | soft
  | task (b : Bool)
def ptrV (t : TypeId) (b : Nat) : Value := .iface t (.pointer (some ⟨b, 0, none⟩))
mutual
def InlAt : Inl → Value → List Chunk → Prop
  | .plain s, v, M => ∃ b cs e, v = ptrV ty_P_Plain b ∧ M = [(b, cel (.string (bs s) :: cs) e)]
  | .openP s i, v, M => ∃ b e, v = ptrV ty_P_openPlain b ∧ M = [(b, cel [.string (bs s), .int .i64 i] e)]
  | .emphP s co cc i n, v, M => ∃ b e, v = ptrV ty_P_emphPlain b ∧ M = [(b, cel [.string (bs s), .bool co, .bool cc, .int .i64 i, .int .i64 n] e)]
  | .esc s, v, M => ∃ b e, v = ptrV ty_P_Escaped b ∧ M = [(b, cel [.string (bs s)] e)]
  | .code s, v, M => ∃ b e, v = ptrV ty_P_Code b ∧ M = [(b, cel [.string (bs s)] e)]
  | .strong m ks, v, M => ∃ b e q n c vs RM KM, v = ptrV ty_P_Strong b ∧ M = (b, cel [.string (bs m), .slice q n c] e) :: (RM ++ KM) ∧ Sl 1 ty_Inline q n c vs RM ∧ InlsAt ks vs KM
  | .del m ks, v, M => ∃ b e q n c vs RM KM, v = ptrV ty_P_Del b ∧ M = (b, cel [.string (bs m), .slice q n c] e) :: (RM ++ KM) ∧ Sl 1 ty_Inline q n c vs RM ∧ InlsAt ks vs KM
  | .emph m ks, v, M => ∃ b e q n c vs RM KM, v = ptrV ty_P_Emph b ∧ M = (b, cel [.string (bs m), .slice q n c] e) :: (RM ++ KM) ∧ Sl 1 ty_Inline q n c vs RM ∧ InlsAt ks vs KM
  | .link ks u t tc k, v, M => ∃ b e q n c vs RM KM, v = ptrV ty_P_Link b ∧ M = (b, cel [.slice q n c, .string (bs u), .string (bs t), .int .u8 tc.toNat, .bool k] e) :: (RM ++ KM) ∧ Sl 1 ty_Inline q n c vs RM ∧ InlsAt ks vs KM
  | .image ks u t tc k, v, M => ∃ b e q n c vs RM KM, v = ptrV ty_P_Image b ∧ M = (b, cel [.slice q n c, .string (bs u), .string (bs t), .int .u8 tc.toNat, .bool k] e) :: (RM ++ KM) ∧ Sl 1 ty_Inline q n c vs RM ∧ InlsAt ks vs KM
  | .auto t u, v, M => ∃ b e, v = ptrV ty_P_AutoLink b ∧ M = [(b, cel [.string (bs t), .string (bs u)] e)]
  | .tag s, v, M => ∃ b e, v = ptrV ty_P_HTMLTag b ∧ M = [(b, cel [.string (bs s)] e)]
  | .hard, v, M => ∃ b e, v = ptrV ty_P_HardBreak b ∧ M = [(b, cel [] e)]
  | .soft, v, M => ∃ b e, v = ptrV ty_P_SoftBreak b ∧ M = [(b, cel [] e)]
  | .task k, v, M => ∃ b e, v = ptrV ty_P_Task b ∧ M = [(b, cel [.bool k] e)]
def InlsAt : List Inl → List Value → List Chunk → Prop
  | [], vs, M => vs = [] ∧ M = []
  | t :: ts, vs, M => ∃ v vs' M1 M2, vs = v :: vs' ∧ M = M1 ++ M2 ∧ InlAt t v M1 ∧ InlsAt ts vs' M2
end
theorem InlsAt.append : ∀ {a b : List Inl} {vs us : List Value} {M N : List Chunk}, InlsAt a vs M → InlsAt b us N → InlsAt (a ++ b) (vs ++ us) (M ++ N)
  | [], b, vs, us, M, N, h1, h2 => by obtain ⟨rfl, rfl⟩ := h1; exact h2
  | t :: a, b, vs, us, M, N, h1, h2 => by
    obtain ⟨v, vs', M1, M2, rfl, rfl, h3, h4⟩ := h1
    exact ⟨v, vs' ++ us, M1, M2 ++ N, rfl, by simp, h3, h4.append h2⟩
theorem InlsAt.split : ∀ {a b : List Inl} {vs : List Value} {M : List Chunk}, InlsAt (a ++ b) vs M → ∃ vs1 vs2 M1 M2, vs = vs1 ++ vs2 ∧ M = M1 ++ M2 ∧ InlsAt a vs1 M1 ∧ InlsAt b vs2 M2
  | [], b, vs, M, h => ⟨[], vs, [], M, rfl, rfl, ⟨rfl, rfl⟩, h⟩
  | t :: a, b, vs, M, h => by
    obtain ⟨v, vs', M1, M2, rfl, rfl, h3, h4⟩ := h
    obtain ⟨vs1, vs2, N1, N2, rfl, rfl, h5, h6⟩ := h4.split
    exact ⟨v :: vs1, vs2, M1 ++ N1, N2, rfl, by simp, ⟨v, vs1, M1, N1, rfl, rfl, h3, h5⟩, h6⟩
theorem InlsAt.one {t : Inl} {v : Value} {M : List Chunk} (h : InlAt t v M) : InlsAt [t] [v] M := ⟨v, [], M, [], rfl, by simp, h, rfl, rfl⟩
theorem InlsAt.length : ∀ {a : List Inl} {vs : List Value} {M : List Chunk}, InlsAt a vs M → vs.length = a.length
  | [], vs, M, h => by rw [h.1]; rfl
  | t :: a, vs, M, h => by
    obtain ⟨v, vs', M1, M2, rfl, rfl, h3, h4⟩ := h
    simp [h4.length]
def Inl.ty : Inl → TypeId
  | .plain _ => ty_P_Plain | .openP _ _ => ty_P_openPlain | .emphP _ _ _ _ _ => ty_P_emphPlain | .esc _ => ty_P_Escaped | .code _ => ty_P_Code | .strong _ _ => ty_P_Strong | .del _ _ => ty_P_Del | .emph _ _ => ty_P_Emph
  | .link _ _ _ _ _ => ty_P_Link | .image _ _ _ _ _ => ty_P_Image | .auto _ _ => ty_P_AutoLink | .tag _ => ty_P_HTMLTag | .hard => ty_P_HardBreak | .soft => ty_P_SoftBreak | .task _ => ty_P_Task
theorem InlAt.ptr {t : Inl} {v : Value} {M : List Chunk} (h : InlAt t v M) : ∃ b cs e M', v = ptrV t.ty b ∧ M = (b, cel cs e) :: M' := by
  cases t <;> first
    | (obtain ⟨b, cs, e, rfl, rfl⟩ := h; exact ⟨b, _, _, [], rfl, rfl⟩)
    | (obtain ⟨b, e, rfl, rfl⟩ := h; exact ⟨b, _, _, [], rfl, rfl⟩)
    | (obtain ⟨b, e, q, n, c, vs, RM, KM, rfl, rfl, _⟩ := h; exact ⟨b, _, _, _, rfl, rfl⟩)
end Go.Proofs.YtgbgadkldalkbaaGreatDoor


set_option linter.unusedVariables false
namespace Go.Proofs.YtgbgadkldalkbaaGreatDoor
open Go.Proofs Go.IntWalk Go.RowKit
variable {σ : Out} {w : World} {L L' : List Chunk} {R : Ending → World → Prop}
theorem und_open : P.underlying ty_P_openPlain = some (.pointer ty_openPlain) := by kernel_rfl
theorem und_emph : P.underlying ty_P_emphPlain = some (.pointer ty_emphPlain) := by kernel_rfl
theorem und_plain : P.underlying ty_P_Plain = some (.pointer ty_Plain) := by kernel_rfl
theorem ta_open_no {t : TypeId} {v : Value} (ht : t ≠ ty_P_openPlain) (w : World) : (Instr.typeAssert (.iface t v) ty_Inline ty_P_openPlain true).run P w = .ok (.tuple #[.pointer none, .bool false]) w :=
  ta_no (by rw [und_open]; intro ms h; cases h) und_open ht (i := (P.info? ty_P_openPlain).getD default) (by kernel_rfl) (by kernel_rfl) w
theorem ta_emph_no {t : TypeId} {v : Value} (ht : t ≠ ty_P_emphPlain) (w : World) : (Instr.typeAssert (.iface t v) ty_Inline ty_P_emphPlain true).run P w = .ok (.tuple #[.pointer none, .bool false]) w :=
  ta_no (by rw [und_emph]; intro ms h; cases h) und_emph ht (i := (P.info? ty_P_emphPlain).getD default) (by kernel_rfl) (by kernel_rfl) w
theorem ta_plain_no {t : TypeId} {v : Value} (ht : t ≠ ty_P_Plain) (w : World) : (Instr.typeAssert (.iface t v) ty_Inline ty_P_Plain true).run P w = .ok (.tuple #[.pointer none, .bool false]) w :=
  ta_no (by rw [und_plain]; intro ms h; cases h) und_plain ht (i := (P.info? ty_P_Plain).getD default) (by kernel_rfl) (by kernel_rfl) w
theorem ta_open_yes {v : Value} (w : World) : (Instr.typeAssert (.iface ty_P_openPlain v) ty_Inline ty_P_openPlain true).run P w = .ok (.tuple #[v, .bool true]) w :=
  ta_yes (by rw [und_open]; intro ms h; cases h) und_open w
theorem ta_emph_yes {v : Value} (w : World) : (Instr.typeAssert (.iface ty_P_emphPlain v) ty_Inline ty_P_emphPlain true).run P w = .ok (.tuple #[v, .bool true]) w :=
  ta_yes (by rw [und_emph]; intro ms h; cases h) und_emph w
theorem ta_plain_yes {v : Value} (w : World) : (Instr.typeAssert (.iface ty_P_Plain v) ty_Inline ty_P_Plain true).run P w = .ok (.tuple #[v, .bool true]) w :=
  ta_yes (by rw [und_plain]; intro ms h; cases h) und_plain w
theorem fillI (t : TypeId) (q : Option Addr) : Instr.fill (fun i => some (i * 1, 1)) ((Array.range (1 * 1)).map (rowInl.z.cells[· % rowInl.z.cells.size]!)) [(0, .iface t (.pointer q))] = some #[.iface t (.pointer q)] := by kernel_rfl

theorem Sl.loadAt {q : Option Addr} {n c j : Nat} {e : TypeId} {vs : List Value} {RM : List Chunk} {v : Value} {K : Addr → Prop} (hS : Sl 1 e q n c vs RM) (h : Sat σ w (RM ++ L)) (hj : vs[j]? = some v)
    (hK : ∀ b, q = some ⟨b, 0, none⟩ → w.cell? ⟨b, j, none⟩ = some v → K ⟨b, 0, none⟩) : nilP q K := by
  obtain ⟨hl, _, ⟨rfl, rfl, _, _⟩ | ⟨rb, sp, rfl, rfl, _⟩⟩ := hS
  · have := (List.getElem?_eq_some_iff.1 hj).1; omega
  · refine nilP_some (hK rb rfl (h.ld (.head _) ?_))
    rw [List.getElem?_append_left (List.getElem?_eq_some_iff.1 hj).1]; exact hj

theorem emph_none_ok {pq q : Option Addr} {n c : Nat} {vs : List Value} {ts : List Inl} {RM EM : List Chunk} (hS : Sl 1 ty_Inline q n c vs RM) (hI : InlsAt ts vs EM) (hno : ∀ t ∈ ts, t.ty ≠ ty_P_openPlain ∧ t.ty ≠ ty_P_emphPlain) (hn : n < 4611686018427387904)
    (h : Sat σ w (RM ++ (EM ++ L))) (hR : ∀ w, Sat σ w (RM ++ (EM ++ L)) → R (.returned (.slice q n c)) w) : callE P i_parseState_emph #[.pointer pq, .slice q 0 c, .slice q n c] R w := by
  refine g_parseState_emph.sound ?_
  refine Sat.bx h fun b1 w h => ?_
  refine Sat.bx h fun b3 w h => ?_
  intro X hX
  have hl := hS.1
  have hlen := hI.length
  have hcell : ∀ (j : Nat) (hj : j < n), ∃ t b, t ≠ ty_P_openPlain ∧ t ≠ ty_P_emphPlain ∧ vs[j]? = some (ptrV t b) := by
    intro j hj
    have hj2 : j < ts.length := by omega
    have hsp : ts = ts.take j ++ (ts[j] :: ts.drop (j + 1)) := by rw [← List.drop_eq_getElem_cons hj2, List.take_append_drop]
    rw [hsp] at hI
    obtain ⟨vs1, vs2, M1, M2, rfl, rfl, h1, h2⟩ := hI.split
    obtain ⟨v, vs', N1, N2, rfl, rfl, h3, h4⟩ := h2
    obtain ⟨b, cs, e, M', rfl, rfl⟩ := h3.ptr
    have := h1.length
    rw [List.length_take, Nat.min_eq_left (by omega)] at this
    exact ⟨_, b, (hno _ (List.getElem_mem hj2)).1, (hno _ (List.getElem_mem hj2)).2, by rw [List.getElem?_append_right (by omega), this]; simp⟩
  have key : ∀ k j w, j + k = n → Sat σ w ((b3, cel [.slice none 0 0, .slice none 0 0, .slice none 0 0, .slice none 0 0, .slice none 0 0] ty_5_S_P_emphPlain) :: (b1, cel [.slice q j c] ty_S_Inline) :: (RM ++ (EM ++ L))) →
      X q n c b1 b3 (.func (.func i_parseState_emph_1) #[] #[]) (.func (.func i_parseState_emph_2) #[] #[.pointer (some ⟨b3, 0, none⟩), .pointer (some ⟨b1, 0, none⟩)]) (j : Int) w := by
    intro k
    induction k with
    | zero =>
      intro j w hj h
      refine hX _ _ _ _ _ _ _ _ _ (br_false (by simp; omega) ?_)
      refine ⟨_, _, _, h.ldA, ?_⟩
      rw [show j = n by omega]
      exact hR w h.tail.tail
    | succ k ih =>
      intro j w hj h
      obtain ⟨t, pb, h1, h2, h3⟩ := hcell j (by omega)
      refine hX _ _ _ _ _ _ _ _ _ (br_true (by simp; omega) ⟨by omega, by omega, ?_⟩)
      have hS0 := hS
      obtain ⟨_, hnc, ⟨rfl, rfl, _, _⟩ | ⟨rb, sp, rfl, rfl, hsp⟩⟩ := hS
      · omega
      refine nilP_some ?_
      simp only [Addr.add_lit, Int.toNat_natCast, Nat.mul_one, Nat.zero_add]
      have hg : (vs ++ sp)[j]? = some (ptrV t pb) := by rw [List.getElem?_append_left (by omega)]; exact h3
      refine ⟨_, Sat.ld h (.tail _ (.tail _ (.head _))) hg, _, _, _, ta_open_no h1 w, br_false rfl ?_⟩
      refine ⟨by omega, by omega, nilP_some ?_⟩
      simp only [Addr.add_lit, Int.toNat_natCast, Nat.mul_one, Nat.zero_add]
      refine ⟨_, Sat.ld h (.tail _ (.tail _ (.head _))) hg, _, _, _, ta_emph_no h2 w, br_true rfl ?_⟩
      refine h.tk fun w h => ?_
      refine ⟨by omega, by omega, nilP_some ?_⟩
      refine ⟨_, _, _, h.ldA, ?_⟩
      simp only [Addr.add_lit, Int.toNat_natCast, Nat.mul_one, Nat.zero_add]
      refine ⟨_, Sat.ld h (.tail _ (.tail _ (.head _))) hg, ?_⟩
      have h0 := h
      have h : Sat σ w ((rb, cel (vs ++ sp) ty_Inline) :: (b1, cel [.slice (some ⟨rb, 0, none⟩) j c] ty_S_Inline) :: (b3, cel [.slice none 0 0, .slice none 0 0, .slice none 0 0, .slice none 0 0, .slice none 0 0] ty_5_S_P_emphPlain) :: (EM ++ L)) := h.re (by intro _; simp only [List.append_eq, cnt_append, cnt_cons, cnt_nil] <;> omega)
      refine appRoom rowInl h (v := ptrV t pb) (by rw [List.length_append]; omega) (by omega) rfl rfl (fillI t _) (C := fun w1 => SameC _ w1 _ 1) (fun w1 X h' => h0.same h' (.tail _ (.head _)) (.tail _ (.tail _ (.head _))) 1) fun w h => ?_
      rw [show (vs ++ sp).set j (ptrV t pb) = vs ++ sp from by
        apply List.ext_getElem?; intro i; rw [List.getElem?_set]; split
        · rename_i hi; subst hi; rw [if_pos (by rw [List.length_append]; omega), hg]
        · rfl] at h
      refine h.stA 1 fun w h => ?_
      rw [i64_inc (by omega)]
      refine ih (j + 1) w (by omega) ?_
      have h : Sat σ w ((rb, cel (vs ++ sp) ty_Inline) :: (b1, cel [.slice (some ⟨rb, 0, none⟩) (j + 1) c] ty_S_Inline) :: (b3, cel [.slice none 0 0, .slice none 0 0, .slice none 0 0, .slice none 0 0, .slice none 0 0] ty_5_S_P_emphPlain) :: (EM ++ L)) := h
      exact h.re (by intro _; simp only [List.append_eq, cnt_append, cnt_cons, cnt_nil] <;> omega)
  exact key n 0 w (by omega) h
end Go.Proofs.YtgbgadkldalkbaaGreatDoor


set_option linter.unusedVariables false
set_option maxRecDepth 20000
namespace Go.Proofs.YtgbgadkldalkbaaGreatDoor
open Go.Proofs
namespace g_strings_Builder_Grow
noncomputable def body : Code := bodyOf Tryz.f212
def k1 (R : EP) (x0 : OA) (x1 : Int) (w : World) : Prop :=
 tk w fun w3 =>
 nilP x0 fun a4 =>
 nilP x0 fun a5 =>
 ∃ (v6q : OA), ∃ (v6n : Nat), ∃ (v6c : Nat), w3.cell? (a4.add 1) = some (.slice v6q v6n v6c) ∧
 ∃ (v7q : OA), ∃ (v7n : Nat), ∃ (v7c : Nat), w3.cell? (a5.add 1) = some (.slice v7q v7n v7c) ∧
 ∃ (r8 : Int), ∃ w9, (Builtin.cap_ #[ty_S_uint8] ty_int #[.slice v6q v6n v6c]).run P w3 = .ok (.int .i64 r8) w9 ∧
 SameC w3 w9 (a5.add 1) 1 ∧
 br (decide ((IntKind.i64.wrap (r8 - (v7n : Int))) < x1))
 (callE P i_strings_Builder_grow #[.pointer x0, .int .i64 x1] (fun e w11 => e = .returned (.tuple #[]) ∧
 R (.returned (.tuple #[])) w11) w9)
 (R (.returned (.tuple #[])) w9)

end g_strings_Builder_Grow
def g_strings_Builder_Grow (R : EP) (x0 : OA) (x1 : Int) (w : World) : Prop :=
 callE P i_strings_Builder_copyCheck #[.pointer x0] (fun e w2 => e = .returned (.tuple #[]) ∧
 br (decide (x1 < 0))
 (False)
 (g_strings_Builder_Grow.k1 R x0 x1 w2)) w

noncomputable def g_strings_Builder_Grow.ac (R : EP) : AC :=
  (.seq (.leaf (sel [0] g_strings_Builder_Grow.body)) (.seq (.leaf (sel [1, 0] g_strings_Builder_Grow.body)) (.mark (leaf [(0, .s .ptr), (1, .s (.int .i64))] (g_strings_Builder_Grow.k1 R)) (.seq (.draw (.pure 0 (.pure 1 (.pure 2 (.pure 5 (.pure 6 (.pure 7 (.pure 11 (.load 3 (.load 8 (.pure 9 (.one 4 (.pure 10 (.pure 12 .done))))))))))))) (sel [1, 1, 0] g_strings_Builder_Grow.body)) (.leaf (sel [1, 1, 1] g_strings_Builder_Grow.body))))))
theorem g_strings_Builder_Grow.good (R : EP) : Good P 25 (g_strings_Builder_Grow.ac R) (QF P [] R) :=
  ⟨trivial, ⟨trivial, ⟨⟨⟨by kernel_rfl, by kernel_rfl, fun _ _ _ h => h⟩, trivial⟩, cutE (by intro x0 x1 ρ w; kernel_rfl)⟩⟩⟩
theorem g_strings_Builder_Grow.eq (R : EP) (x0 : OA) (x1 : Int) (w : World) : g_strings_Builder_Grow R x0 x1 w = vcA P 25 (g_strings_Builder_Grow.ac R) (QF P [] R) (fr0 [.pointer x0, .int .i64 x1]) w := by kernel_rfl
theorem g_strings_Builder_Grow.sound {R : EP} {x0 : OA} {x1 : Int} {w : World} (h : g_strings_Builder_Grow R x0 x1 w) : callE P i_strings_Builder_Grow #[.pointer x0, .int .i64 x1] R w :=
  callE_fin (c := g_strings_Builder_Grow.body) Tryz.func212 Tryz.call212 (by kernel_rfl) (by kernel_rfl) (by kernel_rfl) (by kernel_rfl) (by kernel_rfl) (g_strings_Builder_Grow.good R) (g_strings_Builder_Grow.eq R x0 x1 w) h
namespace g_strings_Builder_grow
noncomputable def body : Code := bodyOf Tryz.f244
end g_strings_Builder_grow
def g_strings_Builder_grow (R : EP) (x0 : OA) (x1 : Int) (w : World) : Prop :=
 tk w fun w1 =>
 nilP x0 fun a2 =>
 nilP x0 fun a3 =>
 ∃ (v4q : OA), ∃ (v4n : Nat), ∃ (v4c : Nat), w1.cell? (a2.add 1) = some (.slice v4q v4n v4c) ∧
 ∃ (v5q : OA), ∃ (v5n : Nat), ∃ (v5c : Nat), w1.cell? (a3.add 1) = some (.slice v5q v5n v5c) ∧
 ∃ (r6 : Int), ∃ w7, (Builtin.cap_ #[ty_S_uint8] ty_int #[.slice v4q v4n v4c]).run P w1 = .ok (.int .i64 r6) w7 ∧
 SameC w1 w7 (a3.add 1) 1 ∧
 callE P i_internal_bytealg_MakeNoZero #[.int .i64 (IntKind.i64.wrap ((IntKind.i64.wrap (2 * r6)) + x1))] (fun e w9 => ∃ (r8q : OA), ∃ (r8n : Nat), ∃ (r8c : Nat), e = .returned (.slice r8q r8n r8c) ∧
 SameC w7 w9 (a3.add 1) 1 ∧
 ∃ (r10q : OA), ∃ (r10n : Nat), ∃ (r10c : Nat), (∀ w, (Instr.sliceAt ty_S_uint8 (.slice r8q r8n r8c) none (some (.int .i64 (v5n : Int))) none).run P w = .ok (.slice r10q r10n r10c) w) ∧
 nilP x0 fun a11 =>
 ∃ (v12q : OA), ∃ (v12n : Nat), ∃ (v12c : Nat), w9.cell? (a11.add 1) = some (.slice v12q v12n v12c) ∧
 ∃ (r13 : Int), ∃ w14, (Builtin.copy_ #[ty_S_uint8, ty_S_uint8] ty_int #[.slice r10q r10n r10c, .slice v12q v12n v12c]).run P w9 = .ok (.int .i64 r13) w14 ∧
 nilP x0 fun a15 =>
 stV w14 ((a15.add 1).add 0) (.slice r10q r10n r10c) fun w16 =>
 R (.returned (.tuple #[])) w16) w7

noncomputable def g_strings_Builder_grow.ac (R : EP) : AC :=
  (.seq (.draw (.pure 0 (.pure 1 (.pure 2 (.pure 6 (.pure 9 (.pure 10 (.pure 11 (.load 3 (.load 12 (.pure 13 (.one 4 (.pure 5 (.pure 7 (.one 8 (.pure 14 (.pure 15 .done)))))))))))))))) (sel [0] g_strings_Builder_grow.body)) (.leaf (sel [1] g_strings_Builder_grow.body)))
theorem g_strings_Builder_grow.good (R : EP) : Good P 30 (g_strings_Builder_grow.ac R) (QF P [] R) :=
  ⟨⟨by kernel_rfl, by kernel_rfl, fun _ _ _ h => h⟩, trivial⟩
theorem g_strings_Builder_grow.eq (R : EP) (x0 : OA) (x1 : Int) (w : World) : g_strings_Builder_grow R x0 x1 w = vcA P 30 (g_strings_Builder_grow.ac R) (QF P [] R) (fr0 [.pointer x0, .int .i64 x1]) w := by kernel_rfl
theorem g_strings_Builder_grow.sound {R : EP} {x0 : OA} {x1 : Int} {w : World} (h : g_strings_Builder_grow R x0 x1 w) : callE P i_strings_Builder_grow #[.pointer x0, .int .i64 x1] R w :=
  callE_fin (c := g_strings_Builder_grow.body) Tryz.func244 Tryz.call244 (by kernel_rfl) (by kernel_rfl) (by kernel_rfl) (by kernel_rfl) (by kernel_rfl) (g_strings_Builder_grow.good R) (g_strings_Builder_grow.eq R x0 x1 w) h
end Go.Proofs.YtgbgadkldalkbaaGreatDoor

set_option linter.unusedVariables false
namespace Go.Proofs.YtgbgadkldalkbaaGreatDoor
open Go.Proofs Go.IntWalk Go.RowKit
variable {σ : Out} {w : World} {L L' : List Chunk} {R : Ending → World → Prop}
theorem makeNoZero_ok {n : Nat} (hn : n ≤ 1099511627776) (h : Sat σ w L) (hR : ∀ w b cs, n ≤ cs.length → cs.length ≤ 9223372036854775807 → Sat σ w ((b, cel cs ty_uint8) :: L) → R (.returned (.slice (some ⟨b, 0, none⟩) n cs.length)) w) :
    callE P i_internal_bytealg_MakeNoZero #[.int .i64 n] R w := by
  obtain ⟨cs, hr, h1, h2⟩ := Lib.run_makeNoZero (P := P) w x_internal_bytealg_MakeNoZero.params ty_S_uint8 ty_uint8 rowU8.ht n (by omega)
  refine ext_of (e := Extern.BytealgMakeNoZero.makeNoZero x_internal_bytealg_MakeNoZero.params #[ty_S_uint8]) xf_internal_bytealg_MakeNoZero (by kernel_rfl) (by kernel_rfl) (by kernel_rfl) (by kernel_rfl) hr ?_
  have hd : Sat σ w.drew.drew L := h.drew.drew
  have ha := hd.alc cs.toList ty_uint8
  have e3 : YtgbgadkldalkbaaGreatDoor.alc w.drew.drew cs.toList.toArray ty_uint8 = w.drew.drew.alloc (.cells cs ty_uint8) := by rw [Array.toArray_toList]; rfl
  rw [e3] at ha
  have h3 := h2 (by unfold maxLen; omega)
  unfold maxLen at h3
  exact hR _ _ cs.toList (by simpa using h1) (by simpa using h3) ha
theorem copyNone (w : World) (b c : Nat) : (Builtin.copy_ #[ty_S_uint8, ty_S_uint8] ty_int #[.slice (some ⟨b, 0, none⟩) 0 c, .slice none 0 0]).run P w = .ok (.int .i64 0) w := by
  have h : P.underlying ty_S_uint8 = some (.slice ty_uint8) := rowU8.ht
  have h2 : P.info? ty_uint8 = some rowU8.i := rowU8.hi
  have h4 : (Builtin.lenOf (.slice none 0 0)).run P w = .ok 0 w := rfl
  have h5 : rowU8.i.size = 1 := rowU8.hs
  have h6 : (Builtin.firstCells 1 0 (.slice none 0 0)).run P w = .ok #[] w := run_firstCells_none w 1 0 0 0
  simp [Builtin.copy_, run_underlying h, sizeOf, typeInfo, h2, goInt, h4, h5, h6, storeCells]
theorem bldGrow_ok {b n : Nat} {M : List Chunk} (hB : Bld b false [] M) (h : Sat σ w (M ++ L)) (hn : 0 < n) (hn2 : n ≤ 1099511627776) (hR : ∀ w M', Bld b true [] M' → Sat σ w (M' ++ L) → R (.returned (.tuple #[])) w) :
    callE P i_strings_Builder_Grow #[.pointer (some ⟨b, 0, none⟩), .int .i64 n] R w := by
  obtain ⟨p, q, c, M0, rfl, hS, hp, hg, hc⟩ := hB
  have hq : q = none := by cases q <;> simp_all
  subst hq
  obtain ⟨_, _, ⟨_, _, rfl, rfl⟩ | ⟨_, _, h, _⟩⟩ := hS
  rotate_left
  · cases h
  refine g_strings_Builder_Grow.sound ?_
  refine copyCheck_ok h hp fun w h => ⟨rfl, br_false (by simp) ?_⟩
  refine h.tk fun w h => ?_
  refine nilP_some (nilP_some ?_)
  refine ⟨_, _, _, h.ldA, ?_⟩
  refine ⟨_, _, _, h.ldA, ?_⟩
  refine ⟨_, _, capRun _ _ _ _ _ _ rowU8.ht w, fun _ _ => rfl, ?_⟩
  refine br_true (by simp (disch := omega) only [i64_in]; simp; omega) ?_
  refine g_strings_Builder_grow.sound ?_
  refine h.tk fun w h => ?_
  refine nilP_some (nilP_some ?_)
  refine ⟨_, _, _, h.ldA, ?_⟩
  refine ⟨_, _, _, h.ldA, ?_⟩
  refine ⟨_, _, capRun _ _ _ _ _ _ rowU8.ht w, fun _ _ => rfl, ?_⟩
  have e1 : IntKind.i64.wrap (IntKind.i64.wrap (2 * ((0 : Nat) : Int)) + (n : Int)) = (n : Int) := by rw [i64_in (2 * _) (by omega), i64_in _ (by omega)]; omega
  rw [e1]
  have h0 := h
  refine makeNoZero_ok hn2 h fun w rb cs h1 h2 h => ⟨_, _, _, rfl, h0.same h (.head _) (.tail _ (.head _)) 1, ?_⟩
  refine ⟨_, _, _, fun w => sliceT rowU8.ht rowU8.hi _ n cs.length 0 (by omega) w, ?_⟩
  refine nilP_some ?_
  refine ⟨_, _, _, h.ldA, ?_⟩
  refine ⟨_, _, copyNone w rb cs.length, ?_⟩
  refine nilP_some ?_
  refine h.stA 1 fun w h => ?_
  have h : Sat σ w ((rb, cel cs ty_uint8) :: bldC b (some ⟨b, 0, none⟩) (some ⟨rb, 0, none⟩) 0 cs.length :: L) := h
  refine ⟨rfl, hR w [bldC b (some ⟨b, 0, none⟩) (some ⟨rb, 0, none⟩) 0 cs.length, (rb, cel cs ty_uint8)] ⟨_, _, _, _, rfl, ⟨by simp [bc], by omega, .inr ⟨rb, cs, rfl, by simp [bc], by simp [bc]⟩⟩, .inr rfl, rfl, fun _ => by omega⟩ ?_⟩
  exact h.re (by intro _; simp only [List.append_eq, cnt_append, cnt_cons, cnt_nil] <;> omega)
def sv (ts : List (List UInt8)) : List Value := ts.map fun t => .string (bs t)
@[simp] theorem sv_length (ts : List (List UInt8)) : (sv ts).length = ts.length := by simp [sv]
theorem sv_get {ts : List (List UInt8)} {j : Nat} (h : j < ts.length) : (sv ts)[j]? = some (.string (bs ts[j])) := by simp [sv, h]
def joinL (sep : List UInt8) : List (List UInt8) → List UInt8
  | [] => []
  | t :: ts => t ++ ts.flatMap (fun u => sep ++ u)
def sumL (ts : List (List UInt8)) : Nat := (ts.map List.length).sum
theorem joinL_length (sep : List UInt8) (t : List UInt8) (ts : List (List UInt8)) : (joinL sep (t :: ts)).length = t.length + sumL ts + ts.length * sep.length := by
  simp only [joinL, List.length_append, sumL]
  induction ts with
  | nil => simp
  | cons u ts ih => simp only [List.flatMap_cons, List.length_append, List.map_cons, List.sum_cons, List.length_cons] at *; rw [Nat.add_mul]; omega
theorem Sl.rowAt {e : TypeId} {q : Option Addr} {n c : Nat} {vs : List Value} {M : List Chunk} (hS : Sl 1 e q n c vs M) (hn : 0 < n) : ∃ b sp, q = some ⟨b, 0, none⟩ ∧ M = [(b, cel (vs ++ sp) e)] := by
  obtain ⟨_, _, ⟨_, h, _, _⟩ | ⟨b, sp, h1, h2, _⟩⟩ := hS
  · omega
  · exact ⟨b, sp, h1, h2⟩
theorem join_ok {q : Option Addr} {n c : Nat} {t : List UInt8} {ts : List (List UInt8)} {AM : List Chunk} {sep : List UInt8} (hS : Sl 1 ty_string q n c (sv (t :: ts)) AM) (h : Sat σ w (AM ++ L)) (hne : 1 ≤ ts.length) (hn : n < 1073741824) (hsep : sep.length < 65536)
    (h0 : 0 < (joinL sep (t :: ts)).length) (hb : (joinL sep (t :: ts)).length < 1073741824) (hR : ∀ w, Sat σ w (AM ++ L) → R (.returned (.string (bs (joinL sep (t :: ts))))) w) : callE P i_strings_Join #[.slice q n c, .string (bs sep)] R w := by
  have hl := hS.1
  rw [sv_length, List.length_cons] at hl
  have hjl := joinL_length sep t ts
  refine g_strings_Join.sound ?_
  obtain ⟨rb, sp, rfl, rfl⟩ := hS.rowAt (by omega)
  refine br_false (by simp; omega) (br_false (by simp; omega) ?_)
  have fin : ∀ w, Sat σ w ([(rb, cel (sv (t :: ts) ++ sp) ty_string)] ++ L) → box w #[.pointer none, .slice none 0 0] ty_strings_Builder fun b5 w6 =>
      callE P i_strings_Builder_Grow #[.pointer (some ⟨b5, 0, none⟩), .int .i64 (((joinL sep (t :: ts)).length : Nat) : Int)] (fun e w8 => e = .returned (.tuple #[]) ∧
      0 ≤ (0 : Int) ∧ 0 < (n : Int) ∧
      nilP (some (⟨rb, 0, none⟩ : Addr)) fun a9 =>
      ∃ (v10 : ByteArray), w8.cell? (a9.add (Int.toNat 0 * 1)) = some (.string v10) ∧
      callE P i_strings_Builder_WriteString #[.pointer (some ⟨b5, 0, none⟩), .string v10] (fun e w12 => ∃ (r11_0 : Int), ∃ (r11_1 : Value), e = .returned (.tuple #[.int .i64 r11_0, r11_1]) ∧
      ∃ (r13q : Option Addr), ∃ (r13n : Nat), ∃ (r13c : Nat), ∃ w14, (Instr.sliceAt ty_S_string (.slice (some ⟨rb, 0, none⟩) n c) (some (.int .i64 1)) none none).run P w12 = .ok (.slice r13q r13n r13c) w14 ∧
      g_strings_Join.l2 R (bs sep) b5 r13q r13n r13c (r13n : Int) 0 w14) w8) w6 := by
    intro w h
    refine Sat.bx h fun b w h => ?_
    refine bldGrow_ok (bldNew b) h h0 (by omega) fun w M hB h => ⟨rfl, by omega, by omega, nilP_some ?_⟩
    refine ⟨bs t, Sat.ld h (List.mem_append_right _ (.head _)) rfl, ?_⟩
    refine bldS_ok hB h (.inr rfl) (by simp; omega) fun w M hB h => ⟨_, _, rfl, ?_⟩
    refine ⟨_, _, _, _, sliceF rowStr.ht rowStr.hi _ n c 1 (by omega) w, ?_⟩
    have hnc := hS.2.1
    rw [if_neg (by omega), rowStr.hs]
    simp only [Option.map_some, Addr.add_lit, Nat.zero_add, Nat.mul_one]
    rw [List.nil_append] at hB
    intro Y hY
    have key : ∀ k j (l : List UInt8) M w, j + k = ts.length → Bld b true l M → Sat σ w (M ++ ([(rb, cel (sv (t :: ts) ++ sp) ty_string)] ++ L)) → l ++ (ts.drop j).flatMap (fun u => sep ++ u) = joinL sep (t :: ts) →
        Y (bs sep) b (some ⟨rb, 1, none⟩) (n - 1) (c - 1) ((n - 1 : Nat) : Int) (j : Int) w := by
      intro k
      induction k with
      | zero =>
        intro j l M w hj hB h hl2
        rw [List.drop_eq_nil_of_le (by omega)] at hl2
        simp only [List.flatMap_nil, List.append_nil] at hl2
        refine hY _ _ _ _ _ _ _ _ (br_false (by simp; omega) ?_)
        refine bldStr_ok hB h (by rw [hl2]; omega) fun w h => ⟨_, rfl, ?_⟩
        rw [hl2]
        exact hR w h
      | succ k ih =>
        intro j l M w hj hB h hl2
        have hjl : j < ts.length := by omega
        rw [List.drop_eq_getElem_cons hjl, List.flatMap_cons, ← List.append_assoc, ← List.append_assoc] at hl2
        have hlb : (l ++ sep ++ ts[j]).length ≤ (joinL sep (t :: ts)).length := by rw [← hl2]; simp only [List.length_append]; omega
        simp only [List.length_append] at hlb
        refine hY _ _ _ _ _ _ _ _ (br_true (by simp; omega) ⟨by omega, by omega, nilP_some ?_⟩)
        simp only [Addr.add_lit, Int.toNat_natCast, Nat.mul_one]
        have hg : (sv (t :: ts) ++ sp)[1 + j]? = some (.string (bs ts[j])) := by
          rw [List.getElem?_append_left (by simp; omega), show 1 + j = j + 1 by omega, sv_get (by simp; omega)]; rfl
        refine ⟨_, Sat.ld h (List.mem_append_right _ (.head _)) hg, ?_⟩
        refine bldS_ok hB h (.inr rfl) (by omega) fun w M hB h => ⟨_, _, rfl, ?_⟩
        refine bldS_ok hB h (.inr rfl) (by simp; omega) fun w M hB h => ⟨_, _, rfl, ?_⟩
        rw [i64_inc (by omega)]
        exact ih (j + 1) _ M w (by omega) hB h hl2
    exact key ts.length 0 t M w (by omega) hB h rfl
  have sum : ∀ w (a : Nat), a = ts.length * sep.length → Sat σ w ([(rb, cel (sv (t :: ts) ++ sp) ty_string)] ++ L) → g_strings_Join.k2 R (some ⟨rb, 0, none⟩) n c (bs sep) (a : Int) w := by
    intro w a ha h X hX
    have key : ∀ k j (s : Nat), j + k = (t :: ts).length → s + sumL ((t :: ts).drop j) = (joinL sep (t :: ts)).length → X (some ⟨rb, 0, none⟩) n c (bs sep) (s : Int) (some ⟨rb, 0, none⟩) n c (n : Int) (j : Int) w := by
      intro k
      induction k with
      | zero =>
        intro j s hj hs
        rw [List.drop_eq_nil_of_le (by omega)] at hs
        simp only [sumL, List.map_nil, List.sum_nil, Nat.add_zero] at hs
        subst hs
        refine hX _ _ _ _ _ _ _ _ _ _ _ (br_false (by simp at hj; simp; omega) ?_)
        exact fin w h
      | succ k ih =>
        intro j s hj hs
        have hjl : j < (t :: ts).length := by omega
        rw [List.drop_eq_getElem_cons hjl] at hs
        simp only [sumL, List.map_cons, List.sum_cons] at hs
        have hjn : j < n := by simp at hjl; omega
        refine hX _ _ _ _ _ _ _ _ _ _ _ (br_true (by simp; omega) ⟨by omega, by omega, nilP_some ?_⟩)
        simp only [Addr.add_lit, Int.toNat_natCast, Nat.mul_one, Nat.zero_add]
        have hg : (sv (t :: ts) ++ sp)[j]? = some (.string (bs (t :: ts)[j])) := by
          rw [List.getElem?_append_left (by simp at hjl ⊢; omega), sv_get hjl]
        refine ⟨_, Sat.ld h (.head _) hg, ?_⟩
        rw [bs_size]
        refine br_false (by simp (disch := omega) only [i64_in]; simp; omega) ?_
        show X _ _ _ _ _ _ _ _ _ _ w
        rw [i64_inc (by omega), bs_size, i64_in _ (by omega), show (s : Int) + ((t :: ts)[j].length : Nat) = ((s + (t :: ts)[j].length : Nat) : Int) by omega]
        exact ih (j + 1) _ (by omega) (by simp only [sumL]; omega)
    refine key (t :: ts).length 0 a (by omega) ?_
    rw [hjl, ha]
    simp [sumL]
    omega
  have hmul : ts.length * sep.length < 1073741824 := by omega
  by_cases hs0 : sep = []
  · subst hs0
    refine br_false (by simp) ?_
    exact sum w 0 (by simp) h
  · refine br_true (by simpa using List.length_pos_iff.2 hs0) ?_
    have hn1 : IntKind.i64.wrap ((n : Int) - 1) = ((ts.length : Nat) : Int) := by simp (disch := omega) only [i64_in]; omega
    refine ⟨by rw [hn1]; omega, br_false ?_ ?_⟩
    · rw [hn1]
      have hq : Int.tdiv 9223372036854775807 (ts.length : Int) = ((9223372036854775807 / ts.length : Nat) : Int) := by
        rw [Int.tdiv_eq_ediv_of_nonneg (by omega)]; simp
      rw [hq]
      have hge : 65536 ≤ 9223372036854775807 / ts.length := by
        rw [Nat.le_div_iff_mul_le (by omega)]; omega
      have hle : 9223372036854775807 / ts.length ≤ 9223372036854775807 := Nat.div_le_self _ _
      rw [i64_in _ (by omega), bs_size]
      exact decide_eq_false (by omega)
    · show g_strings_Join.k2 R _ n c (bs sep) _ w
      rw [hn1, bs_size]
      have : IntKind.i64.wrap (0 + IntKind.i64.wrap ((sep.length : Int) * (ts.length : Int))) = ((ts.length * sep.length : Nat) : Int) := by
        have e : ((sep.length : Int) * (ts.length : Int)) = ((ts.length * sep.length : Nat) : Int) := by rw [Nat.mul_comm]; simp
        generalize ts.length * sep.length = m at hmul e ⊢
        rw [e, i64_in (m : Int) (by omega), Int.zero_add, i64_in (m : Int) (by omega)]
      rw [this]
      exact sum w _ rfl h
end Go.Proofs.YtgbgadkldalkbaaGreatDoor


set_option linter.unusedVariables false
namespace Go.Proofs.YtgbgadkldalkbaaGreatDoor
open Go.Proofs Go.IntWalk Go.RowKit
variable {σ : Out} {w : World} {L L' : List Chunk} {R : Ending → World → Prop}
def Inl.plain? : Inl → Option (List UInt8)
  | .plain s => some s
  | .openP s _ => some s
  | .emphP s _ _ _ _ => some s
  | _ => none
theorem toPlain_yes {t : Inl} {v : Value} {M : List Chunk} {s : List UInt8} (hI : InlAt t v M) (hs : t.plain? = some s) (hR : ∀ b cs e, M = [(b, cel (.string (bs s) :: cs) e)] → R (.returned (.pointer (some ⟨b, 0, none⟩))) w) : callE P i_toPlain #[v] R w := by
  refine g_toPlain.sound ?_
  cases t <;> simp only [Inl.plain?, Option.some.injEq, reduceCtorEq] at hs <;> subst hs
  · obtain ⟨b, cs, e, rfl, rfl⟩ := hI
    exact ⟨_, _, _, ta_plain_yes w, br_true rfl (hR b _ _ rfl)⟩
  · obtain ⟨b, e, rfl, rfl⟩ := hI
    exact ⟨_, _, _, ta_plain_no (by decide) w, br_false rfl ⟨_, _, _, ta_emph_no (by decide) w, br_false rfl ⟨_, _, _, ta_open_yes w, br_true rfl (nilP_some (hR b _ _ rfl))⟩⟩⟩
  · obtain ⟨b, e, rfl, rfl⟩ := hI
    exact ⟨_, _, _, ta_plain_no (by decide) w, br_false rfl ⟨_, _, _, ta_emph_yes w, br_true rfl (nilP_some (hR b _ _ rfl))⟩⟩
theorem Inl.not_plain {t : Inl} (h : t.plain? = none) : t.ty ≠ ty_P_Plain ∧ t.ty ≠ ty_P_openPlain ∧ t.ty ≠ ty_P_emphPlain := by
  cases t <;> simp only [Inl.plain?, reduceCtorEq] at h <;> (simp only [Inl.ty]; decide)
theorem toPlain_no {t : Inl} {v : Value} {M : List Chunk} (hI : InlAt t v M) (hs : t.plain? = none) (hR : R (.returned (.pointer none)) w) : callE P i_toPlain #[v] R w := by
  refine g_toPlain.sound ?_
  obtain ⟨h1, h2, h3⟩ := Inl.not_plain hs
  obtain ⟨b, cs, e, M', rfl, _⟩ := hI.ptr
  exact ⟨_, _, _, ta_plain_no h1 w, br_false rfl ⟨_, _, _, ta_emph_no h3 w, br_false rfl ⟨_, _, _, ta_open_no h2 w, br_false rfl hR⟩⟩⟩

theorem joinL_nil : ∀ us : List (List UInt8), joinL [] us = us.flatten
  | [] => rfl
  | u :: us => by simp [joinL, List.flatten_cons, List.flatMap_id']
theorem InlsAt.mid {a : List Inl} {t : Inl} {b : List Inl} {vs : List Value} {M : List Chunk} (h : InlsAt (a ++ t :: b) vs M) : ∃ vs1 v vs2 M1 M2 M3, vs = vs1 ++ v :: vs2 ∧ M = M1 ++ (M2 ++ M3) ∧ InlsAt a vs1 M1 ∧ InlAt t v M2 ∧ InlsAt b vs2 M3 := by
  obtain ⟨vs1, vs2, M1, M2, rfl, rfl, h1, h2⟩ := h.split
  obtain ⟨v, vs', N1, N2, rfl, rfl, h3, h4⟩ := h2
  exact ⟨vs1, v, vs', M1, N1, N2, rfl, rfl, h1, h3, h4⟩
theorem fillS (t : List UInt8) : Instr.fill (fun i => some (i * 1, 1)) ((Array.range (1 * 1)).map (rowStr.z.cells[· % rowStr.z.cells.size]!)) [(0, .string (bs t))] = some #[.string (bs t)] := by kernel_rfl

theorem mergePlain1_ok {rb s m c : Nat} {cs : List Value} {e : TypeId} {vs : List Value} {ts : List Inl} {us : List (List UInt8)} {EM : List Chunk} (hI : InlsAt ts vs EM) (hu : ts.map Inl.plain? = us.map some) (hm : vs.length = m) (h1 : 1 ≤ m) (hmb : m < 1073741824)
    (hcs : ∀ j (hj : j < m), cs[s + j]? = vs[j]?) (hpos : 0 < us.flatten.length) (hb : us.flatten.length < 1073741824) (h : Sat σ w ((rb, cel cs e) :: (EM ++ L)))
    (hR : ∀ w b EM', InlAt (.plain us.flatten) (ptrV ty_P_Plain b) EM' → Sat σ w ((rb, cel cs e) :: (EM' ++ L)) → R (.returned (.pointer (some ⟨b, 0, none⟩))) w) :
    callE P i_mergePlain1 #[.slice (some ⟨rb, s, none⟩) m c] R w := by
  have hlt := hI.length
  have hul : us.length = ts.length := by have := congrArg List.length hu; simpa using this.symm
  refine g_mergePlain1.sound ?_
  have get : ∀ j, j < m → ∃ t v a b M1 M2 M3 u, ts = a ++ t :: b ∧ EM = M1 ++ (M2 ++ M3) ∧ InlAt t v M2 ∧ t.plain? = some u ∧ us[j]? = some u ∧ cs[s + j]? = some v ∧ a.length = j := by
    intro j hj
    have hjt : j < ts.length := by omega
    have hsp : ts = ts.take j ++ (ts[j] :: ts.drop (j + 1)) := by rw [← List.drop_eq_getElem_cons hjt, List.take_append_drop]
    have hju : j < us.length := by omega
    have hp : ts[j].plain? = some us[j] := by
      have := congrArg (fun l => l[j]?) hu
      simpa [hjt, hju] using this
    have hI' := hI
    rw [hsp] at hI'
    obtain ⟨vs1, v, vs2, M1, M2, M3, rfl, rfl, h1, h2, h3⟩ := hI'.mid
    have hl1 := h1.length
    rw [List.length_take, Nat.min_eq_left (by omega)] at hl1
    refine ⟨ts[j], v, ts.take j, ts.drop (j + 1), M1, M2, M3, us[j], hsp, rfl, h2, hp, List.getElem?_eq_getElem hju, ?_, ?_⟩
    · rw [hcs j hj, List.getElem?_append_right (by omega), hl1]; simp
    · rw [List.length_take]; omega
  by_cases hm1 : m = 1
  · refine br_true (by simp [hm1]) ⟨by omega, by omega, nilP_some ?_⟩
    obtain ⟨t, v, a, b, M1, M2, M3, u, rfl, rfl, h2, hp, hu0, hc0, ha⟩ := get 0 (by omega)
    have hb0 : b = [] := by
      simp only [List.length_append, List.length_cons, ha] at hlt
      exact List.eq_nil_of_length_eq_zero (by omega)
    have ha0 : a = [] := List.eq_nil_of_length_eq_zero ha
    subst hb0 ha0
    obtain ⟨us0, rfl⟩ : ∃ x, us = [x] := by
      simp at hul
      match us, hul with
      | [x], _ => exact ⟨x, rfl⟩
    obtain rfl : us0 = u := by simpa using hu0
    simp only [Addr.add_lit, Int.toNat_zero, Nat.zero_mul, Nat.add_zero]
    refine ⟨v, Sat.ld h (.head _) hc0, ?_⟩
    refine toPlain_yes h2 hp fun bb ccs ee hM => ⟨_, rfl, ?_⟩
    refine hR w bb M2 ?_ ?_
    · rw [hM]; exact ⟨bb, ccs, ee, rfl, by simp⟩
    · exact h.less (M1 ++ M3) (by intro _; simp only [List.append_eq, cnt_append, cnt_cons, cnt_nil] <;> omega)
  · refine br_false (by simp; omega) ?_
    intro X hX
    have key : ∀ k j (q : Option Addr) (n c' : Nat) AM w, j + k = m → Sl 1 ty_string q n c' (sv (us.take j)) AM → Sat σ w (AM ++ ((rb, cel cs e) :: (EM ++ L))) → X q n c' (some ⟨rb, s, none⟩) m c (m : Int) (j : Int) w := by
      intro k
      induction k with
      | zero =>
        intro j q n c' AM w hj hS h
        refine hX _ _ _ _ _ _ _ _ _ (br_false (by simp; omega) ?_)
        rw [List.take_of_length_le (by omega)] at hS
        cases us with
        | nil => simp at hul; omega
        | cons u us =>
          have hn := hS.1
          rw [sv_length] at hn
          simp at hul hn
          have hjl := joinL_nil (u :: us)
          refine join_ok (sep := []) hS h (by omega) (by omega) (by simp) (by rw [hjl]; exact hpos) (by rw [hjl]; exact hb) fun w h => ⟨_, rfl, ?_⟩
          rw [hjl]
          refine Sat.bx h fun pb w h => ?_
          refine hR w pb [(pb, cel [.string (bs (u :: us).flatten)] ty_Plain)] ⟨pb, [], _, rfl, rfl⟩ ?_
          exact h.less (AM ++ EM) (by intro _; simp only [List.append_eq, cnt_append, cnt_cons, cnt_nil] <;> omega)
      | succ k ih =>
        intro j q n c' AM w hj hS h
        have hjm : j < m := by omega
        have hju : j < us.length := by omega
        refine hX _ _ _ _ _ _ _ _ _ (br_true (by simp; omega) ⟨by omega, by omega, nilP_some ?_⟩)
        obtain ⟨t, v, a, b, M1, M2, M3, u, rfl, rfl, h2, hp, hu0, hc0, ha⟩ := get j hjm
        simp only [Addr.add_lit, Int.toNat_natCast, Nat.mul_one]
        refine ⟨v, Sat.ld h (List.mem_append_right _ (.head _)) hc0, ?_⟩
        refine toPlain_yes h2 hp fun bb ccs ee hM => ⟨_, rfl, nilP_some ?_⟩
        subst hM
        refine ⟨_, Sat.ld h (List.mem_append_right _ (.tail _ (List.mem_append_left _ (List.mem_append_right _ (.head _))))) rfl, ?_⟩
        have hn := hS.1
        rw [sv_length, List.length_take] at hn
        refine Sat.app1 rowStr hS h (v := .string (bs u)) rfl (by simp [Value.cells, Value.oneCell']) (fillS u) (by omega) (by omega) (by decide) fun q' c'' w' M' hS' h => ?_
        rw [i64_inc (by omega)]
        refine ih (j + 1) q' (n + 1) c'' M' w' (by omega) ?_ h
        have e : sv (us.take (j + 1)) = sv (us.take j) ++ [.string (bs u)] := by
          rw [List.take_succ_eq_append_getElem hju]
          have : us[j] = u := by rw [List.getElem?_eq_getElem hju] at hu0; exact Option.some.inj hu0
          simp [sv, this]
        rw [e]; exact hS'
    exact key m 0 none 0 0 [] w (by omega) (Sl.nil 1 ty_string) h
end Go.Proofs.YtgbgadkldalkbaaGreatDoor


set_option linter.unusedVariables false
namespace Go.Proofs.YtgbgadkldalkbaaGreatDoor
open Go.Proofs Go.IntWalk Go.RowKit
variable {σ : Out} {w : World} {L L' : List Chunk} {R : Ending → World → Prop}
def flushP (p : List (List UInt8)) : List Inl := if p = [] then [] else [.plain p.flatten]
def mergeGo : List (List UInt8) → List Inl → List Inl
  | p, [] => flushP p
  | p, t :: ts => match t.plain? with
    | some s => mergeGo (p ++ [s]) ts
    | none => flushP p ++ t :: mergeGo [] ts
def mergeM (ts : List Inl) : List Inl := mergeGo [] ts
def plen : List Inl → Nat
  | [] => 0
  | t :: ts => (match t.plain? with | some s => s.length | none => 0) + plen ts
theorem set_mid {α : Type} {A B C : List α} {v : α} (hB : B ≠ []) : (A ++ (B ++ C)).set A.length v = (A ++ [v]) ++ (B.drop 1 ++ C) := by
  cases B with
  | nil => exact absurd rfl hB
  | cons x B => simp [List.set_append_right]
theorem fillP (v : Value) (hv : ∃ t b, v = ptrV t b) : Instr.fill (fun i => some (i * 1, 1)) ((Array.range (1 * 1)).map (rowInl.z.cells[· % rowInl.z.cells.size]!)) [(0, v)] = some v.cells := by
  obtain ⟨t, b, rfl⟩ := hv
  exact fillI t _
theorem und_PP : P.underlying ty_P_Plain = some (.pointer ty_Plain) := und_plain

theorem mergePlain_ok {pq q : Option Addr} {n c : Nat} {vs : List Value} {ts : List Inl} {RM EM : List Chunk} (hS : Sl 1 ty_Inline q n c vs RM) (hI : InlsAt ts vs EM) (hpos : ∀ t ∈ ts, ∀ s, t.plain? = some s → s ≠ []) (hb : plen ts < 1073741824) (hn : n < 1073741823)
    (h : Sat σ w (RM ++ (EM ++ L)))
    (hR : ∀ w n' vs' RM' EM', Sl 1 ty_Inline q n' c vs' RM' → n' ≤ n → InlsAt (mergeM ts) vs' EM' → Sat σ w (RM' ++ (EM' ++ L)) → R (.returned (.slice q n' c)) w) : callE P i_parseState_mergePlain #[.pointer pq, .slice q n c] R w := by
  have hl := hS.1
  have hnc := hS.2.1
  have htl := hI.length
  refine g_parseState_mergePlain.sound ?_
  refine ⟨_, _, _, _, sliceT rowInl.ht rowInl.hi q n c 0 (by omega) w, ?_⟩
  intro X hX
  obtain ⟨_, _, ⟨rfl, rfl, rfl, rfl⟩ | ⟨rb, sp, rfl, rfl, hsp⟩⟩ := hS
  · have hts : ts = [] := List.eq_nil_of_length_eq_zero (by omega)
    subst hts
    refine hX _ _ _ _ _ _ _ _ _ (br_false rfl ?_)
    refine br_false rfl (br_true rfl ?_)
    exact hR w 0 [] [] [] (Sl.nil 1 ty_Inline) (by omega) ⟨rfl, rfl⟩ (h.sub (by rw [List.nil_append]; exact List.sublist_append_right _ _))
  have hlen0 : vs.length = n := by omega
  have key : ∀ (rts : List Inl) (pts : List Inl) (us : List (List UInt8)) (ots : List Inl) (ovs junk pvs rvs : List Value) (OM PM RM : List Chunk) w,
      InlsAt ots ovs OM → InlsAt pts pvs PM → InlsAt rts rvs RM → pts.map Inl.plain? = us.map some → (∀ u ∈ us, u ≠ []) → (∀ t ∈ rts, ∀ s, t.plain? = some s → s ≠ []) → us.flatten.length + plen rts < 1073741824 →
      ovs.length + junk.length + pvs.length + rvs.length = n → mergeM ts = ots ++ mergeGo us rts →
      Sat σ w ((rb, cel (ovs ++ (junk ++ (pvs ++ (rvs ++ sp)))) ty_Inline) :: (OM ++ (PM ++ (RM ++ L)))) →
      X (some ⟨rb, 0, none⟩) n c (some ⟨rb, 0, none⟩) ovs.length c ((ovs.length + junk.length : Nat) : Int) ((ovs.length + junk.length + pvs.length : Nat) : Int) w := by
    intro rts
    induction rts with
    | nil =>
      intro pts us ots ovs junk pvs rvs OM PM RM w hO hP hRt hu hune hrne hbb hlen hm h
      obtain ⟨rfl, rfl⟩ := hRt
      have hpl := hP.length
      have hul : us.length = pts.length := by have := congrArg List.length hu; simpa using this.symm
      simp only [List.length_nil, Nat.add_zero] at hlen
      refine hX _ _ _ _ _ _ _ _ _ (br_false (by simp; omega) ?_)
      by_cases hp0 : pvs = []
      · subst hp0
        have hpts : pts = [] := by cases pts with
          | nil => rfl
          | cons _ _ => simp at hpl
        subst hpts
        have hus : us = [] := by cases us with
          | nil => rfl
          | cons _ _ => simp at hul
        subst hus
        obtain ⟨_, rfl⟩ := hP
        refine br_false (by simp) (br_true (by simp at hlen ⊢; omega) ?_)
        refine hR w ovs.length ovs [(rb, cel (ovs ++ (junk ++ sp)) ty_Inline)] OM ⟨by omega, by omega, .inr ⟨rb, junk ++ sp, rfl, rfl, ?_⟩⟩ (by omega) ?_ ?_
        · simp only [List.length_append] at hsp ⊢; simp at hlen; omega
        · rw [hm]; simpa [mergeGo, flushP] using hO
        · simp only [List.nil_append] at h; exact h.re (by intro _; simp only [List.append_eq, cnt_append, cnt_cons, cnt_nil] <;> omega)
      · have hpos1 : 0 < pvs.length := List.length_pos_iff.2 hp0
        refine br_true (by simp; omega) ?_
        refine ⟨_, _, _, _, sliceLH rowInl.ht rowInl.hi _ n c _ _ (by omega) (by omega) w, ?_⟩
        rw [if_neg (by omega), rowInl.hs]
        simp only [Option.map_some, Addr.add_lit, Nat.zero_add, Nat.mul_one]
        have hune0 : us ≠ [] := by intro h0; subst h0; simp at hul; omega
        have hfl : 0 < us.flatten.length := by
          cases us with
          | nil => exact absurd rfl hune0
          | cons u us =>
            have := List.length_pos_iff.2 (hune u (.head _))
            simp only [List.flatten_cons, List.length_append]; omega
        have h : Sat σ w ((rb, cel (ovs ++ (junk ++ (pvs ++ ([] ++ sp)))) ty_Inline) :: (PM ++ (OM ++ L))) := h.re (by intro _; simp only [List.append_eq, cnt_append, cnt_cons, cnt_nil] <;> omega)
        refine mergePlain1_ok (us := us) hP hu (by omega) (by omega) (by omega) ?_ hfl (by simp only [plen] at hbb; omega) h fun w nb EM' hN h => ⟨_, rfl, ?_⟩
        · intro j hj
          rw [List.getElem?_append_right (by omega), List.getElem?_append_right (by omega), List.getElem?_append_left (by omega)]
          congr 1; omega
        have h : Sat σ w ((rb, cel (ovs ++ ((junk ++ pvs) ++ sp)) ty_Inline) :: (EM' ++ (OM ++ L))) := by
          have e : ovs ++ (junk ++ (pvs ++ ([] ++ sp))) = ovs ++ ((junk ++ pvs) ++ sp) := by simp
          rw [← e]; exact h
        refine appRoom' rowInl h (v := ptrV ty_P_Plain nb) (by simp; omega) (by omega) rfl rfl (fillI _ _) fun w h => ?_
        rw [set_mid (by simp [hp0])] at h
        refine br_true (by simp; omega) ?_
        refine hR w (ovs.length + 1) (ovs ++ [ptrV ty_P_Plain nb]) [(rb, cel ((ovs ++ [ptrV ty_P_Plain nb]) ++ ((junk ++ pvs).drop 1 ++ sp)) ty_Inline)] (OM ++ EM') ⟨by simp, by omega, .inr ⟨rb, _, rfl, rfl, ?_⟩⟩ (by omega) ?_ ?_
        · simp only [List.length_append, List.length_drop, List.length_singleton] at hsp ⊢; omega
        · rw [hm]
          simp only [mergeGo, flushP, if_neg hune0]
          exact hO.append (InlsAt.one hN)
        · exact h.re (by intro _; simp only [List.append_eq, cnt_append, cnt_cons, cnt_nil] <;> omega)
    | cons t rts ih =>
      intro pts us ots ovs junk pvs rvs OM PM RM w hO hP hRt hu hune hrne hbb hlen hm h
      have hpl := hP.length
      have hul : us.length = pts.length := by have := congrArg List.length hu; simpa using this.symm
      obtain ⟨v, rvs', M1, M2, rfl, rfl, hv, hrest⟩ := hRt
      simp only [List.length_cons] at hlen
      refine hX _ _ _ _ _ _ _ _ _ (br_true (by simp; omega) ⟨by omega, by omega, nilP_some ?_⟩)
      simp only [Addr.add_lit, Int.toNat_natCast, Nat.mul_one, Nat.zero_add]
      have hg : (ovs ++ (junk ++ (pvs ++ (v :: rvs' ++ sp))))[ovs.length + junk.length + pvs.length]? = some v := by
        rw [List.getElem?_append_right (by omega), List.getElem?_append_right (by omega), List.getElem?_append_right (by omega)]
        rw [show ovs.length + junk.length + pvs.length - ovs.length - junk.length - pvs.length = 0 by omega]
        rfl
      refine ⟨v, Sat.ld h (.head _) hg, ?_⟩
      cases hpt : t.plain? with
      | some u =>
        refine toPlain_yes hv hpt fun bb ccs ee hM => ⟨_, rfl, ?_⟩
        refine ⟨_, _, neq_ptr_nil und_PP _ w, br_true rfl ?_⟩
        rw [i64_inc (by omega)]
        have := ih (pts ++ [t]) (us ++ [u]) ots ovs junk (pvs ++ [v]) rvs' OM (PM ++ M1) M2 w hO (hP.append (InlsAt.one hv)) hrest (by simp [hu, hpt])
          (by intro x hx; rcases List.mem_append.1 hx with hx | hx
              · exact hune x hx
              · simp at hx; subst hx; exact hrne t (.head _) _ hpt)
          (fun t' ht' => hrne t' (.tail _ ht')) (by simp only [plen, hpt] at hbb; simp only [List.flatten_append, List.flatten_cons, List.flatten_nil, List.length_append, List.append_nil]; omega) (by simp; omega) (by rw [hm, mergeGo, hpt]) ?_
        · simp only [List.length_append, List.length_singleton, ← Nat.add_assoc] at this
          exact this
        · have e : ovs ++ (junk ++ (pvs ++ [v] ++ (rvs' ++ sp))) = ovs ++ (junk ++ (pvs ++ (v :: rvs' ++ sp))) := by simp
          rw [e]; exact h.re (by intro _; simp only [List.append_eq, cnt_append, cnt_cons, cnt_nil] <;> omega)
      | none =>
        refine toPlain_no hv hpt ⟨_, rfl, ?_⟩
        refine ⟨_, _, neq_ptr_nil und_PP _ w, br_false rfl ?_⟩
        have hvp : ∃ t b, v = ptrV t b := by obtain ⟨b, _, _, _, h, _⟩ := hv.ptr; exact ⟨_, b, h⟩
        have hv1 : v.cells = #[v] ∧ v.oneCell' = true := by obtain ⟨t, b, rfl⟩ := hvp; exact ⟨rfl, rfl⟩
        have fin : ∀ (ots' : List Inl) (ovs' junk' : List Value) (OM' : List Chunk) w, InlsAt ots' ovs' OM' → mergeM ts = ots' ++ t :: mergeGo [] rts → ovs'.length + junk'.length = ovs.length + junk.length + pvs.length →
            Sat σ w ((rb, cel (ovs' ++ (junk' ++ (v :: rvs' ++ sp))) ty_Inline) :: (OM' ++ (M1 ++ (M2 ++ L)))) →
            g_parseState_mergePlain.k2 R X (some ⟨rb, 0, none⟩) n c (some ⟨rb, 0, none⟩) ovs'.length c ((ovs.length + junk.length + pvs.length : Nat) : Int) w := by
          intro ots' ovs' junk' OM' w hO' hm' hl' h
          refine br_false (by simp; omega) ⟨by omega, by omega, nilP_some ?_⟩
          simp only [Addr.add_lit, Int.toNat_natCast, Nat.mul_one, Nat.zero_add]
          have hg : (ovs' ++ (junk' ++ (v :: rvs' ++ sp)))[ovs.length + junk.length + pvs.length]? = some v := by
            rw [List.getElem?_append_right (by omega), List.getElem?_append_right (by omega)]
            rw [show ovs.length + junk.length + pvs.length - ovs'.length - junk'.length = 0 by omega]
            rfl
          refine ⟨v, Sat.ld h (.head _) hg, ?_⟩
          have e : ovs' ++ (junk' ++ (v :: rvs' ++ sp)) = ovs' ++ ((junk' ++ [v]) ++ (rvs' ++ sp)) := by simp
          rw [e] at h
          refine appRoom' rowInl h (v := v) (by simp; omega) (by omega) hv1.1 hv1.2 (fillP v hvp) fun w h => ?_
          rw [set_mid (by simp)] at h
          have e1 : IntKind.i64.wrap (((ovs.length + junk.length + pvs.length : Nat) : Int) + 1) = ((ovs.length + junk.length + pvs.length + 1 : Nat) : Int) := i64_inc (by omega)
          rw [e1]
          have := ih [] [] (ots' ++ [t]) (ovs' ++ [v]) ((junk' ++ [v]).drop 1) [] rvs' (OM' ++ M1) [] M2 w (hO'.append (InlsAt.one hv)) ⟨rfl, rfl⟩ hrest rfl (by simp) (fun t' ht' => hrne t' (.tail _ ht')) (by simp only [plen, hpt] at hbb; simp; omega)
            (by simp; omega) (by rw [hm']; simp) ?_
          · simp only [List.length_append, List.length_singleton, List.length_drop, List.length_nil, Nat.add_zero] at this
            have e2 : ovs'.length + 1 + (junk'.length + 1 - 1) = ovs.length + junk.length + pvs.length + 1 := by omega
            rw [e2] at this
            exact this
          · rw [List.nil_append]
            exact h.re (by intro _; simp only [List.append_eq, cnt_append, cnt_cons, cnt_nil] <;> omega)
        by_cases hp0 : pvs = []
        · subst hp0
          have hpts : pts = [] := by cases pts with
            | nil => rfl
            | cons _ _ => simp at hpl
          subst hpts
          have hus : us = [] := by cases us with
            | nil => rfl
            | cons _ _ => simp at hul
          subst hus
          obtain ⟨_, rfl⟩ := hP
          refine br_false (by simp) ?_
          refine fin ots ovs junk OM w hO (by rw [hm, mergeGo, hpt]; rfl) (by simp) ?_
          simp only [List.nil_append] at h
          exact h.re (by intro _; simp only [List.append_eq, cnt_append, cnt_cons, cnt_nil] <;> omega)
        · have hpos1 : 0 < pvs.length := List.length_pos_iff.2 hp0
          refine br_true (by simp; omega) ?_
          refine ⟨_, _, _, _, sliceLH rowInl.ht rowInl.hi _ n c _ _ (by omega) (by omega) w, ?_⟩
          rw [if_neg (by omega), rowInl.hs]
          simp only [Option.map_some, Addr.add_lit, Nat.zero_add, Nat.mul_one]
          have hune0 : us ≠ [] := by intro h0; subst h0; simp at hul; omega
          have hfl : 0 < us.flatten.length := by
            cases us with
            | nil => exact absurd rfl hune0
            | cons u us =>
              have := List.length_pos_iff.2 (hune u (.head _))
              simp only [List.flatten_cons, List.length_append]; omega
          have h : Sat σ w ((rb, cel (ovs ++ (junk ++ (pvs ++ (v :: rvs' ++ sp)))) ty_Inline) :: (PM ++ (OM ++ (M1 ++ (M2 ++ L))))) := h.re (by intro _; simp only [List.append_eq, cnt_append, cnt_cons, cnt_nil] <;> omega)
          refine mergePlain1_ok (us := us) hP hu (by omega) (by omega) (by omega) ?_ hfl (by simp only [plen] at hbb; omega) h fun w nb EM' hN h => ⟨_, rfl, ?_⟩
          · intro j hj
            rw [List.getElem?_append_right (by omega), List.getElem?_append_right (by omega), List.getElem?_append_left (by omega)]
            congr 1; omega
          have h : Sat σ w ((rb, cel (ovs ++ ((junk ++ pvs) ++ (v :: rvs' ++ sp))) ty_Inline) :: (EM' ++ (OM ++ (M1 ++ (M2 ++ L))))) := by
            have e : ovs ++ (junk ++ (pvs ++ (v :: rvs' ++ sp))) = ovs ++ ((junk ++ pvs) ++ (v :: rvs' ++ sp)) := by simp
            rw [← e]; exact h
          refine appRoom' rowInl h (v := ptrV ty_P_Plain nb) (by simp; omega) (by omega) rfl rfl (fillI _ _) fun w h => ?_
          rw [set_mid (by simp [hp0])] at h
          have := fin (ots ++ [.plain us.flatten]) (ovs ++ [ptrV ty_P_Plain nb]) ((junk ++ pvs).drop 1) (OM ++ EM') w (hO.append (InlsAt.one hN)) (by rw [hm, mergeGo, hpt]; simp [flushP, hune0]) (by simp; omega) (h.re (by intro _; simp only [List.append_eq, cnt_append, cnt_cons, cnt_nil] <;> omega))
          simp only [List.length_append, List.length_singleton] at this
          exact this
  have := key ts [] [] [] [] [] [] vs [] [] EM w ⟨rfl, rfl⟩ ⟨rfl, rfl⟩ hI rfl (by simp) hpos (by simpa using hb) (by simpa using hlen0) rfl (by simp only [List.nil_append]; exact h.re (by intro _; simp only [List.append_eq, cnt_append, cnt_cons, cnt_nil] <;> omega))
  exact this
end Go.Proofs.YtgbgadkldalkbaaGreatDoor


set_option linter.unusedVariables false
namespace Go.Proofs.YtgbgadkldalkbaaGreatDoor
open Go.Proofs Go.IntWalk Go.RowKit
variable {σ : Out} {w : World} {L L' : List Chunk} {R : Ending → World → Prop}
inductive PK where
  | nil
  | fn (f : FuncId)
  | code
def parserOf (o : Opt) (c : UInt8) : PK :=
  if c = 92 then .fn i_parseEscape else if c = 96 then .code else if c = 60 then .fn i_parseAutoLinkOrHTML else if c = 91 then .fn i_parseLinkOpen else if c = 33 then .fn i_parseImageOpen
  else if c = 95 ∨ c = 42 then .fn i_parseEmph else if c = 46 then (if o.dot then .fn i_parseDot else .nil) else if c = 45 then (if o.dash then .fn i_parseDash else .nil)
  else if c = 34 ∨ c = 39 then (if o.quote then .fn i_parseEmph else .nil) else if c = 126 then (if o.strike then .fn i_parseEmph else .nil) else if c = 10 then .fn i_parseBreak
  else if c = 38 then .fn i_parseHTMLEntity else if c = 58 then (if o.emoji then .fn i_parseEmoji else .nil) else .nil
abbrev XI := Option Addr → ByteArray → Option Addr → Nat → Nat → Int → Bool → Int → World → Prop
theorem inl_dispatch {X : XI} {b pb : Nat} {p : PS} {o : Opt} {s : List UInt8} {oq : Option Addr} {on oc : Nat} {lo : Int} {bk : Bool} {i : Nat} (hi : i < s.length) (hs : s.length < 4611686018427387904) (hpz : p.pz = some ⟨pb, 0, none⟩) (hp : p.at b ∈ L) (ho : o.at pb ∈ L) (h : Sat σ w L)
    (hK : match parserOf o s[i] with
      | .nil => g_parseState_inline.k1 R X (some ⟨b, 0, none⟩) (bs s) oq on oc lo bk i .nilFunc w
      | .fn f => g_parseState_inline.k1 R X (some ⟨b, 0, none⟩) (bs s) oq on oc lo bk i (.func (.func f) #[] #[]) w
      | .code => br (!bk) (callE P i_backtickParser_reset #[.pointer (some ⟨b, 12, none⟩)] (fun e w11 => e = .returned (.tuple #[]) ∧ g_parseState_inline.k1 R X (some ⟨b, 0, none⟩) (bs s) oq on oc lo true i (.func (.func i_backtickParser_parseCodeSpan) #[.pointer (some ⟨b, 12, none⟩)] #[]) w11) w)
          (g_parseState_inline.k1 R X (some ⟨b, 0, none⟩) (bs s) oq on oc lo bk i (.func (.func i_backtickParser_parseCodeSpan) #[.pointer (some ⟨b, 12, none⟩)] #[]) w)) :
    g_parseState_inline.bl1 R X (some ⟨b, 0, none⟩) (bs s) oq on oc lo bk i w := by
  have hld0 : w.cell? ⟨b, 0, none⟩ = some (.pointer (some ⟨pb, 0, none⟩)) := by rw [← hpz]; exact Sat.ld h hp rfl
  refine br_true (by simp; omega) ⟨by omega, by simp; omega, ?_⟩
  unfold parserOf at hK
  have hne : ∀ (d : UInt8) (m : Int), (d.toNat : Int) = m → ¬ s[i] = d → (bt (bs s) (i : Int) == m) = false := by
    intro d m hm hd; rw [bt_beq hi d m hm]; simpa using hd
  have hye : ∀ (d : UInt8) (m : Int), (d.toNat : Int) = m → s[i] = d → (bt (bs s) (i : Int) == m) = true := by
    intro d m hm hd; rw [bt_beq hi d m hm]; simpa using hd
  by_cases h92 : s[i] = 92
  · rw [if_pos h92] at hK; exact br_true (hye 92 92 rfl h92) hK
  rw [if_neg h92] at hK; refine br_false (hne 92 92 rfl h92) ?_
  by_cases h96 : s[i] = 96
  · rw [if_pos h96] at hK
    refine br_true (hye 96 96 rfl h96) ?_
    cases bk with
    | true => exact br_false rfl (nilP_some hK)
    | false => exact br_true rfl (nilP_some (by
        have hK : callE P i_backtickParser_reset #[.pointer (some ⟨b, 12, none⟩)] _ w := hK
        exact hK))
  rw [if_neg h96] at hK; refine br_false (hne 96 96 rfl h96) ?_
  by_cases h60 : s[i] = 60
  · rw [if_pos h60] at hK; exact br_true (hye 60 60 rfl h60) hK
  rw [if_neg h60] at hK; refine br_false (hne 60 60 rfl h60) ?_
  by_cases h91 : s[i] = 91
  · rw [if_pos h91] at hK; exact br_true (hye 91 91 rfl h91) hK
  rw [if_neg h91] at hK; refine br_false (hne 91 91 rfl h91) ?_
  by_cases h33 : s[i] = 33
  · rw [if_pos h33] at hK; exact br_true (hye 33 33 rfl h33) hK
  rw [if_neg h33] at hK; refine br_false (hne 33 33 rfl h33) ?_
  by_cases h95 : s[i] = 95
  · rw [if_pos (.inl h95)] at hK; exact br_true (hye 95 95 rfl h95) (br_true rfl hK)
  refine br_false (hne 95 95 rfl h95) ?_
  by_cases h42 : s[i] = 42
  · rw [if_pos (.inr h42)] at hK; exact br_true (hye 42 42 rfl h42) hK
  rw [if_neg (by simp [h95, h42])] at hK; refine br_false (hne 42 42 rfl h42) ?_
  have opt : ∀ {A B : Prop} (k : Nat) (v : Bool), o.cells[k]? = some (.bool v) → (v = true → A) → (v = false → B) →
      nilP (some (⟨b, 0, none⟩ : Addr)) fun a53 => ∃ (v54 : Option Addr), w.cell? a53 = some (.pointer v54) ∧ nilP v54 fun a55 => ∃ (v56 : Bool), w.cell? (a55.add k) = some (.bool v56) ∧ br v56 A B := by
    intro A B k v hv hA hB
    refine nilP_some ⟨_, hld0, nilP_some ?_⟩
    simp only [Addr.add_lit, Nat.zero_add]
    exact ⟨v, Sat.ld h ho hv, br_split hA hB⟩
  by_cases h46 : s[i] = 46
  · rw [if_pos h46] at hK
    refine br_true (hye 46 46 rfl h46) (opt 7 o.dot rfl (fun hv => ?_) (fun hv => ?_))
    · rw [if_pos hv] at hK; exact hK
    · rw [if_neg (by simp [hv])] at hK; exact hK
  rw [if_neg h46] at hK; refine br_false (hne 46 46 rfl h46) ?_
  by_cases h45 : s[i] = 45
  · rw [if_pos h45] at hK
    refine br_true (hye 45 45 rfl h45) (opt 8 o.dash rfl (fun hv => ?_) (fun hv => ?_))
    · rw [if_pos hv] at hK; exact hK
    · rw [if_neg (by simp [hv])] at hK; exact hK
  rw [if_neg h45] at hK; refine br_false (hne 45 45 rfl h45) ?_
  by_cases h34 : s[i] = 34
  · rw [if_pos (.inl h34)] at hK
    refine br_true (hye 34 34 rfl h34) (br_true rfl (opt 9 o.quote rfl (fun hv => ?_) (fun hv => ?_)))
    · rw [if_pos hv] at hK; exact hK
    · rw [if_neg (by simp [hv])] at hK; exact hK
  refine br_false (hne 34 34 rfl h34) ?_
  by_cases h39 : s[i] = 39
  · rw [if_pos (.inr h39)] at hK
    refine br_true (hye 39 39 rfl h39) (opt 9 o.quote rfl (fun hv => ?_) (fun hv => ?_))
    · rw [if_pos hv] at hK; exact hK
    · rw [if_neg (by simp [hv])] at hK; exact hK
  rw [if_neg (by simp [h34, h39])] at hK; refine br_false (hne 39 39 rfl h39) ?_
  by_cases h126 : s[i] = 126
  · rw [if_pos h126] at hK
    refine br_true (hye 126 126 rfl h126) (opt 1 o.strike rfl (fun hv => ?_) (fun hv => ?_))
    · rw [if_pos hv] at hK; exact hK
    · rw [if_neg (by simp [hv])] at hK; exact hK
  rw [if_neg h126] at hK; refine br_false (hne 126 126 rfl h126) ?_
  by_cases h10 : s[i] = 10
  · rw [if_pos h10] at hK; exact br_true (hye 10 10 rfl h10) hK
  rw [if_neg h10] at hK; refine br_false (hne 10 10 rfl h10) ?_
  by_cases h38 : s[i] = 38
  · rw [if_pos h38] at hK; exact br_true (hye 38 38 rfl h38) hK
  rw [if_neg h38] at hK; refine br_false (hne 38 38 rfl h38) ?_
  by_cases h58 : s[i] = 58
  · rw [if_pos h58] at hK
    refine br_true (hye 58 58 rfl h58) (opt 6 o.emoji rfl (fun hv => ?_) (fun hv => ?_))
    · rw [if_pos hv] at hK; exact hK
    · rw [if_neg (by simp [hv])] at hK; exact hK
  rw [if_neg h58] at hK; exact br_false (hne 58 58 rfl h58) hK
end Go.Proofs.YtgbgadkldalkbaaGreatDoor

