/- Part 5 of the proof of the law FnLabels: for every input the law returns true, the inputs read as they did, and memory that was there is as it was; under the conditions of the given row alone. -/
import Derived.Test.YtejiaegiijokcaaGreatDoorA4
set_option linter.all false
set_option linter.unusedVariables false
namespace Go.Proofs.YtejiaegiijokcaaGreatDoor
open Go.Proofs Go.IntWalk Go.RowKit
variable {σ : Out} {w : World} {L L' : List Chunk} {R : Ending → World → Prop}
theorem appRoom {t ty e : TypeId} {bytes : Nat} (r : Row P t e 1 bytes) {b k c : Nat} {cs : List Value} (h : Sat σ w ((b, cel cs e) :: L)) (hk : k < cs.length) (hc : k < c) {v : Value} (hv : v.cells = #[v]) (h1 : v.oneCell' = true)
    (hfill : Instr.fill (fun i => some (i * 1, 1)) ((Array.range (1 * 1)).map (r.z.cells[· % r.z.cells.size]!)) [(0, v)] = some v.cells)
    {K : Option Addr → Nat → Nat → World → Prop} {C : World → Prop} (hC : ∀ w1 X, Sat σ w1 (X :: ((b, cel cs e) :: L)) → C w1) (hK : ∀ w', Sat σ w' ((b, cel (cs.set k v) e) :: L) → K (some ⟨b, 0, none⟩) (k + 1) c w') :
    ∃ rq rn rc w1, (Instr.buildSlice t 1 #[(0, v)]).run P w = .ok (.slice rq rn rc) w1 ∧ C w1 ∧
      ∃ q' n' c' w2, (Builtin.append_ #[t, t] ty #[.slice (some ⟨b, 0, none⟩) k c, .slice rq rn rc]).run P w1 = .ok (.slice q' n' c') w2 ∧ K q' n' c' w2 := by
  have hrun := run_buildSlice (P := P) w t e 1 #[(0, v)] v.cells r.i r.z r.ht r.hi r.hz (by rw [r.hs]; omega) (by rw [r.hs]; omega) (by rw [r.hs]; exact hfill)
  refine ⟨_, _, _, _, hrun, ?_⟩
  have ha := h.alc v.cells.toList e
  have e3 : YtejiaegiijokcaaGreatDoor.alc w v.cells.toList.toArray e = w.alloc (.cells v.cells e) := by rw [Array.toArray_toList]; rfl
  rw [e3] at ha
  generalize hw1 : w.alloc (.cells v.cells e) = w1 at ha ⊢
  generalize w.heap.size = nb at ha ⊢
  rw [hv] at ha
  have hs : Src P 1 t (.slice (some ⟨nb, 0, none⟩) 1 1) 1 [v] w1 := by
    refine Src.ofSlice w1 r.ht _ 1 1 _ (by simp) (fun j u hu => ?_) (by simp [h1])
    rw [show (Addr.add ⟨nb, 0, none⟩ j) = ⟨nb, j, none⟩ from Addr.add_zero_lit nb j]
    exact ha.ld (List.mem_cons_self ..) hu
  have hs' : Src P r.i.size t (.slice (some ⟨nb, 0, none⟩) 1 1) 1 [v] w1 := by rw [r.hs]; exact hs
  refine ⟨hC _ _ ha, _, _, _, _, run_append_room_src w1 t t ty e r.i r.ht r.hi b 0 k c _ 1 [v] hs' (by omega) ?_ ?_, hK _ ?_⟩
  · intro j hj
    simp at hj
    subst hj
    rw [r.hs, Nat.zero_add, Nat.mul_one, Nat.add_zero, ha.ld (.tail _ (.head _)) (List.getElem?_eq_getElem hk)]
    rfl
  · exact fun j hj => ha.not_frozen (.tail _ (.head _))
  · rw [r.hs]
    have hb : Sat σ w1 ((b, cel cs e) :: (nb, cel [v] e) :: L) := ha.up1
    have := setCells_sat hb (0 + k * 1) [v] (by simp; omega)
    rw [Nat.zero_add, Nat.mul_one] at this ⊢
    have e1 : cs.take k ++ [v] ++ cs.drop (k + 1) = cs.set k v := by
      rw [List.set_eq_take_append_cons_drop, if_pos hk]; simp
    rw [show [v].length = 1 from rfl, e1] at this
    exact this.less [(nb, cel [v] e)] (by intro _; simp only [List.append_eq, cnt_append, cnt_cons, cnt_nil] <;> omega)
theorem appRoom' {t ty e : TypeId} {bytes : Nat} (r : Row P t e 1 bytes) {b k c : Nat} {cs : List Value} (h : Sat σ w ((b, cel cs e) :: L)) (hk : k < cs.length) (hc : k < c) {v : Value} (hv : v.cells = #[v]) (h1 : v.oneCell' = true)
    (hfill : Instr.fill (fun i => some (i * 1, 1)) ((Array.range (1 * 1)).map (r.z.cells[· % r.z.cells.size]!)) [(0, v)] = some v.cells)
    {K : Option Addr → Nat → Nat → World → Prop} (hK : ∀ w', Sat σ w' ((b, cel (cs.set k v) e) :: L) → K (some ⟨b, 0, none⟩) (k + 1) c w') :
    ∃ rq rn rc w1, (Instr.buildSlice t 1 #[(0, v)]).run P w = .ok (.slice rq rn rc) w1 ∧
      ∃ q' n' c' w2, (Builtin.append_ #[t, t] ty #[.slice (some ⟨b, 0, none⟩) k c, .slice rq rn rc]).run P w1 = .ok (.slice q' n' c') w2 ∧ K q' n' c' w2 := by
  obtain ⟨rq, rn, rc, w1, h1, _, h2⟩ := appRoom (ty := ty) r h hk hc hv h1 hfill (C := fun _ => True) (fun _ _ _ => trivial) hK
  exact ⟨rq, rn, rc, w1, h1, h2⟩

inductive Inl where
  | plain (s : List UInt8)
  | openP (s : List UInt8) (i : Nat)
  | emphP (s : List UInt8) (co cc : Bool) (i n : Int)
  | esc (s : List UInt8)
  | code (s : List UInt8)
  | strong (m : List UInt8) (ks : List Inl)
  | del (m : List UInt8) (ks : List Inl)
  | emph (m : List UInt8) (ks : List Inl)
  | link (ks : List Inl) (url title : List UInt8) (tc : UInt8) (corner : Bool)
  | image (ks : List Inl) (url title : List UInt8) (tc : UInt8) (corner : Bool)
  | auto (text url : List UInt8)
  | tag (s : List UInt8)
  | hard
  | soft
  | task (b : Bool)
def ptrV (t : TypeId) (b : Nat) : Value := .iface t (.pointer (some ⟨b, 0, none⟩))
mutual
def InlAt : Inl → Value → List Chunk → Prop
  | .plain s, v, M => ∃ b cs e, v = ptrV ty_P_Plain b ∧ M = [(b, cel (.string (bs s) :: cs) e)]
  | .openP s i, v, M => ∃ b e, v = ptrV ty_P_openPlain b ∧ M = [(b, cel [.string (bs s), .int .i64 i] e)]
  | .emphP s co cc i n, v, M => ∃ b e, v = ptrV ty_P_emphPlain b ∧ M = [(b, cel [.string (bs s), .bool co, .bool cc, .int .i64 i, .int .i64 n] e)]
  | .esc s, v, M => ∃ b e, v = ptrV ty_P_Escaped b ∧ M = [(b, cel [.string (bs s)] e)]
  | .code s, v, M => ∃ b e, v = ptrV ty_P_Code b ∧ M = [(b, cel [.string (bs s)] e)]
  | .strong m ks, v, M => ∃ b e q n c vs RM KM, v = ptrV ty_P_Strong b ∧ M = (b, cel [.string (bs m), .slice q n c] e) :: (RM ++ KM) ∧ Sl 1 ty_Inline q n c vs RM ∧ InlsAt ks vs KM
  | .del m ks, v, M => ∃ b e q n c vs RM KM, v = ptrV ty_P_Del b ∧ M = (b, cel [.string (bs m), .slice q n c] e) :: (RM ++ KM) ∧ Sl 1 ty_Inline q n c vs RM ∧ InlsAt ks vs KM
  | .emph m ks, v, M => ∃ b e q n c vs RM KM, v = ptrV ty_P_Emph b ∧ M = (b, cel [.string (bs m), .slice q n c] e) :: (RM ++ KM) ∧ Sl 1 ty_Inline q n c vs RM ∧ InlsAt ks vs KM
  | .link ks u t tc k, v, M => ∃ b e q n c vs RM KM, v = ptrV ty_P_Link b ∧ M = (b, cel [.slice q n c, .string (bs u), .string (bs t), .int .u8 tc.toNat, .bool k] e) :: (RM ++ KM) ∧ Sl 1 ty_Inline q n c vs RM ∧ InlsAt ks vs KM
  | .image ks u t tc k, v, M => ∃ b e q n c vs RM KM, v = ptrV ty_P_Image b ∧ M = (b, cel [.slice q n c, .string (bs u), .string (bs t), .int .u8 tc.toNat, .bool k] e) :: (RM ++ KM) ∧ Sl 1 ty_Inline q n c vs RM ∧ InlsAt ks vs KM
  | .auto t u, v, M => ∃ b e, v = ptrV ty_P_AutoLink b ∧ M = [(b, cel [.string (bs t), .string (bs u)] e)]
  | .tag s, v, M => ∃ b e, v = ptrV ty_P_HTMLTag b ∧ M = [(b, cel [.string (bs s)] e)]
  | .hard, v, M => ∃ b e, v = ptrV ty_P_HardBreak b ∧ M = [(b, cel [] e)]
  | .soft, v, M => ∃ b e, v = ptrV ty_P_SoftBreak b ∧ M = [(b, cel [] e)]
  | .task k, v, M => ∃ b e, v = ptrV ty_P_Task b ∧ M = [(b, cel [.bool k] e)]
def InlsAt : List Inl → List Value → List Chunk → Prop
  | [], vs, M => vs = [] ∧ M = []
  | t :: ts, vs, M => ∃ v vs' M1 M2, vs = v :: vs' ∧ M = M1 ++ M2 ∧ InlAt t v M1 ∧ InlsAt ts vs' M2
end
theorem InlsAt.append : ∀ {a b : List Inl} {vs us : List Value} {M N : List Chunk}, InlsAt a vs M → InlsAt b us N → InlsAt (a ++ b) (vs ++ us) (M ++ N)
  | [], b, vs, us, M, N, h1, h2 => by obtain ⟨rfl, rfl⟩ := h1; exact h2
  | t :: a, b, vs, us, M, N, h1, h2 => by
    obtain ⟨v, vs', M1, M2, rfl, rfl, h3, h4⟩ := h1
    exact ⟨v, vs' ++ us, M1, M2 ++ N, rfl, by simp, h3, h4.append h2⟩
theorem InlsAt.split : ∀ {a b : List Inl} {vs : List Value} {M : List Chunk}, InlsAt (a ++ b) vs M → ∃ vs1 vs2 M1 M2, vs = vs1 ++ vs2 ∧ M = M1 ++ M2 ∧ InlsAt a vs1 M1 ∧ InlsAt b vs2 M2
  | [], b, vs, M, h => ⟨[], vs, [], M, rfl, rfl, ⟨rfl, rfl⟩, h⟩
  | t :: a, b, vs, M, h => by
    obtain ⟨v, vs', M1, M2, rfl, rfl, h3, h4⟩ := h
    obtain ⟨vs1, vs2, N1, N2, rfl, rfl, h5, h6⟩ := h4.split
    exact ⟨v :: vs1, vs2, M1 ++ N1, N2, rfl, by simp, ⟨v, vs1, M1, N1, rfl, rfl, h3, h5⟩, h6⟩
theorem InlsAt.one {t : Inl} {v : Value} {M : List Chunk} (h : InlAt t v M) : InlsAt [t] [v] M := ⟨v, [], M, [], rfl, by simp, h, rfl, rfl⟩
theorem InlsAt.length : ∀ {a : List Inl} {vs : List Value} {M : List Chunk}, InlsAt a vs M → vs.length = a.length
  | [], vs, M, h => by rw [h.1]; rfl
  | t :: a, vs, M, h => by
    obtain ⟨v, vs', M1, M2, rfl, rfl, h3, h4⟩ := h
    simp [h4.length]
def Inl.ty : Inl → TypeId
  | .plain _ => ty_P_Plain | .openP _ _ => ty_P_openPlain | .emphP _ _ _ _ _ => ty_P_emphPlain | .esc _ => ty_P_Escaped | .code _ => ty_P_Code | .strong _ _ => ty_P_Strong | .del _ _ => ty_P_Del | .emph _ _ => ty_P_Emph
  | .link _ _ _ _ _ => ty_P_Link | .image _ _ _ _ _ => ty_P_Image | .auto _ _ => ty_P_AutoLink | .tag _ => ty_P_HTMLTag | .hard => ty_P_HardBreak | .soft => ty_P_SoftBreak | .task _ => ty_P_Task
theorem InlAt.ptr {t : Inl} {v : Value} {M : List Chunk} (h : InlAt t v M) : ∃ b cs e M', v = ptrV t.ty b ∧ M = (b, cel cs e) :: M' := by
  cases t <;> first
    | (obtain ⟨b, cs, e, rfl, rfl⟩ := h; exact ⟨b, _, _, [], rfl, rfl⟩)
    | (obtain ⟨b, e, rfl, rfl⟩ := h; exact ⟨b, _, _, [], rfl, rfl⟩)
    | (obtain ⟨b, e, q, n, c, vs, RM, KM, rfl, rfl, _⟩ := h; exact ⟨b, _, _, _, rfl, rfl⟩)
end Go.Proofs.YtejiaegiijokcaaGreatDoor


set_option linter.unusedVariables false
namespace Go.Proofs.YtejiaegiijokcaaGreatDoor
open Go.Proofs Go.IntWalk Go.RowKit
variable {σ : Out} {w : World} {L L' : List Chunk} {R : Ending → World → Prop}
theorem und_open : P.underlying ty_P_openPlain = some (.pointer ty_openPlain) := by kernel_rfl
theorem und_emph : P.underlying ty_P_emphPlain = some (.pointer ty_emphPlain) := by kernel_rfl
theorem und_plain : P.underlying ty_P_Plain = some (.pointer ty_Plain) := by kernel_rfl
theorem ta_open_no {t : TypeId} {v : Value} (ht : t ≠ ty_P_openPlain) (w : World) : (Instr.typeAssert (.iface t v) ty_Inline ty_P_openPlain true).run P w = .ok (.tuple #[.pointer none, .bool false]) w :=
  ta_no (by rw [und_open]; intro ms h; cases h) und_open ht (i := (P.info? ty_P_openPlain).getD default) (by kernel_rfl) (by kernel_rfl) w
theorem ta_emph_no {t : TypeId} {v : Value} (ht : t ≠ ty_P_emphPlain) (w : World) : (Instr.typeAssert (.iface t v) ty_Inline ty_P_emphPlain true).run P w = .ok (.tuple #[.pointer none, .bool false]) w :=
  ta_no (by rw [und_emph]; intro ms h; cases h) und_emph ht (i := (P.info? ty_P_emphPlain).getD default) (by kernel_rfl) (by kernel_rfl) w
theorem ta_plain_no {t : TypeId} {v : Value} (ht : t ≠ ty_P_Plain) (w : World) : (Instr.typeAssert (.iface t v) ty_Inline ty_P_Plain true).run P w = .ok (.tuple #[.pointer none, .bool false]) w :=
  ta_no (by rw [und_plain]; intro ms h; cases h) und_plain ht (i := (P.info? ty_P_Plain).getD default) (by kernel_rfl) (by kernel_rfl) w
theorem ta_open_yes {v : Value} (w : World) : (Instr.typeAssert (.iface ty_P_openPlain v) ty_Inline ty_P_openPlain true).run P w = .ok (.tuple #[v, .bool true]) w :=
  ta_yes (by rw [und_open]; intro ms h; cases h) und_open w
theorem ta_emph_yes {v : Value} (w : World) : (Instr.typeAssert (.iface ty_P_emphPlain v) ty_Inline ty_P_emphPlain true).run P w = .ok (.tuple #[v, .bool true]) w :=
  ta_yes (by rw [und_emph]; intro ms h; cases h) und_emph w
theorem ta_plain_yes {v : Value} (w : World) : (Instr.typeAssert (.iface ty_P_Plain v) ty_Inline ty_P_Plain true).run P w = .ok (.tuple #[v, .bool true]) w :=
  ta_yes (by rw [und_plain]; intro ms h; cases h) und_plain w
theorem fillI (t : TypeId) (q : Option Addr) : Instr.fill (fun i => some (i * 1, 1)) ((Array.range (1 * 1)).map (rowInl.z.cells[· % rowInl.z.cells.size]!)) [(0, .iface t (.pointer q))] = some #[.iface t (.pointer q)] := by kernel_rfl

theorem Sl.loadAt {q : Option Addr} {n c j : Nat} {e : TypeId} {vs : List Value} {RM : List Chunk} {v : Value} {K : Addr → Prop} (hS : Sl 1 e q n c vs RM) (h : Sat σ w (RM ++ L)) (hj : vs[j]? = some v)
    (hK : ∀ b, q = some ⟨b, 0, none⟩ → w.cell? ⟨b, j, none⟩ = some v → K ⟨b, 0, none⟩) : nilP q K := by
  obtain ⟨hl, _, ⟨rfl, rfl, _, _⟩ | ⟨rb, sp, rfl, rfl, _⟩⟩ := hS
  · have := (List.getElem?_eq_some_iff.1 hj).1; omega
  · refine nilP_some (hK rb rfl (h.ld (.head _) ?_))
    rw [List.getElem?_append_left (List.getElem?_eq_some_iff.1 hj).1]; exact hj

end Go.Proofs.YtejiaegiijokcaaGreatDoor


set_option linter.unusedVariables false
set_option maxRecDepth 20000
namespace Go.Proofs.YtejiaegiijokcaaGreatDoor
open Go.Proofs
namespace g_strings_Builder_Grow
noncomputable def body : Code := bodyOf Tryz.f170
def k1 (R : EP) (x0 : OA) (x1 : Int) (w : World) : Prop :=
 tk w fun w3 =>
 nilP x0 fun a4 =>
 nilP x0 fun a5 =>
 ∃ (v6q : OA), ∃ (v6n : Nat), ∃ (v6c : Nat), w3.cell? (a4.add 1) = some (.slice v6q v6n v6c) ∧
 ∃ (v7q : OA), ∃ (v7n : Nat), ∃ (v7c : Nat), w3.cell? (a5.add 1) = some (.slice v7q v7n v7c) ∧
 ∃ (r8 : Int), ∃ w9, (Builtin.cap_ #[ty_S_uint8] ty_int #[.slice v6q v6n v6c]).run P w3 = .ok (.int .i64 r8) w9 ∧
 SameC w3 w9 (a5.add 1) 1 ∧
 br (decide ((IntKind.i64.wrap (r8 - (v7n : Int))) < x1))
 (callE P i_strings_Builder_grow #[.pointer x0, .int .i64 x1] (fun e w11 => e = .returned (.tuple #[]) ∧
 R (.returned (.tuple #[])) w11) w9)
 (R (.returned (.tuple #[])) w9)

end g_strings_Builder_Grow
def g_strings_Builder_Grow (R : EP) (x0 : OA) (x1 : Int) (w : World) : Prop :=
 callE P i_strings_Builder_copyCheck #[.pointer x0] (fun e w2 => e = .returned (.tuple #[]) ∧
 br (decide (x1 < 0))
 (False)
 (g_strings_Builder_Grow.k1 R x0 x1 w2)) w

noncomputable def g_strings_Builder_Grow.ac (R : EP) : AC :=
  (.seq (.leaf (sel [0] g_strings_Builder_Grow.body)) (.seq (.leaf (sel [1, 0] g_strings_Builder_Grow.body)) (.mark (leaf [(0, .s .ptr), (1, .s (.int .i64))] (g_strings_Builder_Grow.k1 R)) (.seq (.draw (.pure 0 (.pure 1 (.pure 2 (.pure 5 (.pure 6 (.pure 7 (.pure 11 (.load 3 (.load 8 (.pure 9 (.one 4 (.pure 10 (.pure 12 .done))))))))))))) (sel [1, 1, 0] g_strings_Builder_Grow.body)) (.leaf (sel [1, 1, 1] g_strings_Builder_Grow.body))))))
theorem g_strings_Builder_Grow.good (R : EP) : Good P 25 (g_strings_Builder_Grow.ac R) (QF P [] R) :=
  ⟨trivial, ⟨trivial, ⟨⟨⟨by kernel_rfl, by kernel_rfl, fun _ _ _ h => h⟩, trivial⟩, cutE (by intro x0 x1 ρ w; kernel_rfl)⟩⟩⟩
theorem g_strings_Builder_Grow.eq (R : EP) (x0 : OA) (x1 : Int) (w : World) : g_strings_Builder_Grow R x0 x1 w = vcA P 25 (g_strings_Builder_Grow.ac R) (QF P [] R) (fr0 [.pointer x0, .int .i64 x1]) w := by kernel_rfl
theorem g_strings_Builder_Grow.sound {R : EP} {x0 : OA} {x1 : Int} {w : World} (h : g_strings_Builder_Grow R x0 x1 w) : callE P i_strings_Builder_Grow #[.pointer x0, .int .i64 x1] R w :=
  callE_fin (c := g_strings_Builder_Grow.body) Tryz.func170 Tryz.call170 (by kernel_rfl) (by kernel_rfl) (by kernel_rfl) (by kernel_rfl) (by kernel_rfl) (g_strings_Builder_Grow.good R) (g_strings_Builder_Grow.eq R x0 x1 w) h
namespace g_strings_Builder_grow
noncomputable def body : Code := bodyOf Tryz.f202
end g_strings_Builder_grow
def g_strings_Builder_grow (R : EP) (x0 : OA) (x1 : Int) (w : World) : Prop :=
 tk w fun w1 =>
 nilP x0 fun a2 =>
 nilP x0 fun a3 =>
 ∃ (v4q : OA), ∃ (v4n : Nat), ∃ (v4c : Nat), w1.cell? (a2.add 1) = some (.slice v4q v4n v4c) ∧
 ∃ (v5q : OA), ∃ (v5n : Nat), ∃ (v5c : Nat), w1.cell? (a3.add 1) = some (.slice v5q v5n v5c) ∧
 ∃ (r6 : Int), ∃ w7, (Builtin.cap_ #[ty_S_uint8] ty_int #[.slice v4q v4n v4c]).run P w1 = .ok (.int .i64 r6) w7 ∧
 SameC w1 w7 (a3.add 1) 1 ∧
 callE P i_internal_bytealg_MakeNoZero #[.int .i64 (IntKind.i64.wrap ((IntKind.i64.wrap (2 * r6)) + x1))] (fun e w9 => ∃ (r8q : OA), ∃ (r8n : Nat), ∃ (r8c : Nat), e = .returned (.slice r8q r8n r8c) ∧
 SameC w7 w9 (a3.add 1) 1 ∧
 ∃ (r10q : OA), ∃ (r10n : Nat), ∃ (r10c : Nat), (∀ w, (Instr.sliceAt ty_S_uint8 (.slice r8q r8n r8c) none (some (.int .i64 (v5n : Int))) none).run P w = .ok (.slice r10q r10n r10c) w) ∧
 nilP x0 fun a11 =>
 ∃ (v12q : OA), ∃ (v12n : Nat), ∃ (v12c : Nat), w9.cell? (a11.add 1) = some (.slice v12q v12n v12c) ∧
 ∃ (r13 : Int), ∃ w14, (Builtin.copy_ #[ty_S_uint8, ty_S_uint8] ty_int #[.slice r10q r10n r10c, .slice v12q v12n v12c]).run P w9 = .ok (.int .i64 r13) w14 ∧
 nilP x0 fun a15 =>
 stV w14 ((a15.add 1).add 0) (.slice r10q r10n r10c) fun w16 =>
 R (.returned (.tuple #[])) w16) w7

noncomputable def g_strings_Builder_grow.ac (R : EP) : AC :=
  (.seq (.draw (.pure 0 (.pure 1 (.pure 2 (.pure 6 (.pure 9 (.pure 10 (.pure 11 (.load 3 (.load 12 (.pure 13 (.one 4 (.pure 5 (.pure 7 (.one 8 (.pure 14 (.pure 15 .done)))))))))))))))) (sel [0] g_strings_Builder_grow.body)) (.leaf (sel [1] g_strings_Builder_grow.body)))
theorem g_strings_Builder_grow.good (R : EP) : Good P 30 (g_strings_Builder_grow.ac R) (QF P [] R) :=
  ⟨⟨by kernel_rfl, by kernel_rfl, fun _ _ _ h => h⟩, trivial⟩
theorem g_strings_Builder_grow.eq (R : EP) (x0 : OA) (x1 : Int) (w : World) : g_strings_Builder_grow R x0 x1 w = vcA P 30 (g_strings_Builder_grow.ac R) (QF P [] R) (fr0 [.pointer x0, .int .i64 x1]) w := by kernel_rfl
theorem g_strings_Builder_grow.sound {R : EP} {x0 : OA} {x1 : Int} {w : World} (h : g_strings_Builder_grow R x0 x1 w) : callE P i_strings_Builder_grow #[.pointer x0, .int .i64 x1] R w :=
  callE_fin (c := g_strings_Builder_grow.body) Tryz.func202 Tryz.call202 (by kernel_rfl) (by kernel_rfl) (by kernel_rfl) (by kernel_rfl) (by kernel_rfl) (g_strings_Builder_grow.good R) (g_strings_Builder_grow.eq R x0 x1 w) h
end Go.Proofs.YtejiaegiijokcaaGreatDoor

set_option linter.unusedVariables false
namespace Go.Proofs.YtejiaegiijokcaaGreatDoor
open Go.Proofs Go.IntWalk Go.RowKit
variable {σ : Out} {w : World} {L L' : List Chunk} {R : Ending → World → Prop}
theorem makeNoZero_ok {n : Nat} (hn : n ≤ 1099511627776) (h : Sat σ w L) (hR : ∀ w b cs, n ≤ cs.length → cs.length ≤ 9223372036854775807 → Sat σ w ((b, cel cs ty_uint8) :: L) → R (.returned (.slice (some ⟨b, 0, none⟩) n cs.length)) w) :
    callE P i_internal_bytealg_MakeNoZero #[.int .i64 n] R w := by
  obtain ⟨cs, hr, h1, h2⟩ := Lib.run_makeNoZero (P := P) w x_internal_bytealg_MakeNoZero.params ty_S_uint8 ty_uint8 rowU8.ht n (by omega)
  refine ext_of (e := Extern.BytealgMakeNoZero.makeNoZero x_internal_bytealg_MakeNoZero.params #[ty_S_uint8]) xf_internal_bytealg_MakeNoZero (by kernel_rfl) (by kernel_rfl) (by kernel_rfl) (by kernel_rfl) hr ?_
  have hd : Sat σ w.drew.drew L := h.drew.drew
  have ha := hd.alc cs.toList ty_uint8
  have e3 : YtejiaegiijokcaaGreatDoor.alc w.drew.drew cs.toList.toArray ty_uint8 = w.drew.drew.alloc (.cells cs ty_uint8) := by rw [Array.toArray_toList]; rfl
  rw [e3] at ha
  have h3 := h2 (by unfold maxLen; omega)
  unfold maxLen at h3
  exact hR _ _ cs.toList (by simpa using h1) (by simpa using h3) ha
theorem copyNone (w : World) (b c : Nat) : (Builtin.copy_ #[ty_S_uint8, ty_S_uint8] ty_int #[.slice (some ⟨b, 0, none⟩) 0 c, .slice none 0 0]).run P w = .ok (.int .i64 0) w := by
  have h : P.underlying ty_S_uint8 = some (.slice ty_uint8) := rowU8.ht
  have h2 : P.info? ty_uint8 = some rowU8.i := rowU8.hi
  have h4 : (Builtin.lenOf (.slice none 0 0)).run P w = .ok 0 w := rfl
  have h5 : rowU8.i.size = 1 := rowU8.hs
  have h6 : (Builtin.firstCells 1 0 (.slice none 0 0)).run P w = .ok #[] w := run_firstCells_none w 1 0 0 0
  simp [Builtin.copy_, run_underlying h, sizeOf, typeInfo, h2, goInt, h4, h5, h6, storeCells]
theorem bldGrow_ok {b n : Nat} {M : List Chunk} (hB : Bld b false [] M) (h : Sat σ w (M ++ L)) (hn : 0 < n) (hn2 : n ≤ 1099511627776) (hR : ∀ w M', Bld b true [] M' → Sat σ w (M' ++ L) → R (.returned (.tuple #[])) w) :
    callE P i_strings_Builder_Grow #[.pointer (some ⟨b, 0, none⟩), .int .i64 n] R w := by
  obtain ⟨p, q, c, M0, rfl, hS, hp, hg, hc⟩ := hB
  have hq : q = none := by cases q <;> simp_all
  subst hq
  obtain ⟨_, _, ⟨_, _, rfl, rfl⟩ | ⟨_, _, h, _⟩⟩ := hS
  rotate_left
  · cases h
  refine g_strings_Builder_Grow.sound ?_
  refine copyCheck_ok h hp fun w h => ⟨rfl, br_false (by simp) ?_⟩
  refine Sat.tk h fun w h => ?_
  refine nilP_some (nilP_some ?_)
  refine ⟨_, _, _, Sat.ld h (by first | assumption | (repeat (first | exact .head _ | apply List.Mem.tail))) (by exact rfl), ?_⟩
  refine ⟨_, _, _, Sat.ld h (by first | assumption | (repeat (first | exact .head _ | apply List.Mem.tail))) (by exact rfl), ?_⟩
  refine ⟨_, _, capRun _ _ _ _ _ _ rowU8.ht w, fun _ _ => rfl, ?_⟩
  refine br_true (by simp (disch := omega) only [i64_in]; simp; omega) ?_
  refine g_strings_Builder_grow.sound ?_
  refine Sat.tk h fun w h => ?_
  refine nilP_some (nilP_some ?_)
  refine ⟨_, _, _, Sat.ld h (by first | assumption | (repeat (first | exact .head _ | apply List.Mem.tail))) (by exact rfl), ?_⟩
  refine ⟨_, _, _, Sat.ld h (by first | assumption | (repeat (first | exact .head _ | apply List.Mem.tail))) (by exact rfl), ?_⟩
  refine ⟨_, _, capRun _ _ _ _ _ _ rowU8.ht w, fun _ _ => rfl, ?_⟩
  have e1 : IntKind.i64.wrap (IntKind.i64.wrap (2 * ((0 : Nat) : Int)) + (n : Int)) = (n : Int) := by rw [i64_in (2 * _) (by omega), i64_in _ (by omega)]; omega
  rw [e1]
  have h0 := h
  refine makeNoZero_ok hn2 h fun w rb cs h1 h2 h => ⟨_, _, _, rfl, h0.same h (.head _) (.tail _ (.head _)) 1, ?_⟩
  refine ⟨_, _, _, fun w => sliceT rowU8.ht rowU8.hi _ n cs.length 0 (by omega) w, ?_⟩
  refine nilP_some ?_
  refine ⟨_, _, _, Sat.ld h (by first | assumption | (repeat (first | exact .head _ | apply List.Mem.tail))) (by exact rfl), ?_⟩
  refine ⟨_, _, copyNone w rb cs.length, ?_⟩
  refine nilP_some ?_
  refine Sat.st h (k := 1) rfl (Nat.le_of_ble_eq_true rfl) trivial (by first | (dsimp only [List.set]; exact rfl) | exact rfl) fun w h => ?_
  have h : Sat σ w ((rb, cel cs ty_uint8) :: bldC b (some ⟨b, 0, none⟩) (some ⟨rb, 0, none⟩) 0 cs.length :: L) := h
  refine ⟨rfl, hR w [bldC b (some ⟨b, 0, none⟩) (some ⟨rb, 0, none⟩) 0 cs.length, (rb, cel cs ty_uint8)] ⟨_, _, _, _, rfl, ⟨by simp [bc], by omega, .inr ⟨rb, cs, rfl, by simp [bc], by simp [bc]⟩⟩, .inr rfl, rfl, fun _ => by omega⟩ ?_⟩
  exact h.re (by intro _; simp only [List.append_eq, cnt_append, cnt_cons, cnt_nil] <;> omega)
def sv (ts : List (List UInt8)) : List Value := ts.map fun t => .string (bs t)
@[simp] theorem sv_length (ts : List (List UInt8)) : (sv ts).length = ts.length := by simp [sv]
theorem sv_get {ts : List (List UInt8)} {j : Nat} (h : j < ts.length) : (sv ts)[j]? = some (.string (bs ts[j])) := by simp [sv, h]
def joinL (sep : List UInt8) : List (List UInt8) → List UInt8
  | [] => []
  | t :: ts => t ++ ts.flatMap (fun u => sep ++ u)
def sumL (ts : List (List UInt8)) : Nat := (ts.map List.length).sum
theorem joinL_length (sep : List UInt8) (t : List UInt8) (ts : List (List UInt8)) : (joinL sep (t :: ts)).length = t.length + sumL ts + ts.length * sep.length := by
  simp only [joinL, List.length_append, sumL]
  induction ts with
  | nil => simp
  | cons u ts ih => simp only [List.flatMap_cons, List.length_append, List.map_cons, List.sum_cons, List.length_cons] at *; rw [Nat.add_mul]; omega
theorem Sl.rowAt {e : TypeId} {q : Option Addr} {n c : Nat} {vs : List Value} {M : List Chunk} (hS : Sl 1 e q n c vs M) (hn : 0 < n) : ∃ b sp, q = some ⟨b, 0, none⟩ ∧ M = [(b, cel (vs ++ sp) e)] := by
  obtain ⟨_, _, ⟨_, h, _, _⟩ | ⟨b, sp, h1, h2, _⟩⟩ := hS
  · omega
  · exact ⟨b, sp, h1, h2⟩
theorem join_ok {q : Option Addr} {n c : Nat} {t : List UInt8} {ts : List (List UInt8)} {AM : List Chunk} {sep : List UInt8} (hS : Sl 1 ty_string q n c (sv (t :: ts)) AM) (h : Sat σ w (AM ++ L)) (hne : 1 ≤ ts.length) (hn : n < 1073741824) (hsep : sep.length < 65536)
    (h0 : 0 < (joinL sep (t :: ts)).length) (hb : (joinL sep (t :: ts)).length < 1073741824) (hR : ∀ w, Sat σ w (AM ++ L) → R (.returned (.string (bs (joinL sep (t :: ts))))) w) : callE P i_strings_Join #[.slice q n c, .string (bs sep)] R w := by
  have hl := hS.1
  rw [sv_length, List.length_cons] at hl
  have hjl := joinL_length sep t ts
  refine g_strings_Join.sound ?_
  obtain ⟨rb, sp, rfl, rfl⟩ := hS.rowAt (by omega)
  refine br_false (by simp; omega) (br_false (by simp; omega) ?_)
  have fin : ∀ w, Sat σ w ([(rb, cel (sv (t :: ts) ++ sp) ty_string)] ++ L) → box w #[.pointer none, .slice none 0 0] ty_strings_Builder fun b5 w6 =>
      callE P i_strings_Builder_Grow #[.pointer (some ⟨b5, 0, none⟩), .int .i64 (((joinL sep (t :: ts)).length : Nat) : Int)] (fun e w8 => e = .returned (.tuple #[]) ∧
      0 ≤ (0 : Int) ∧ 0 < (n : Int) ∧
      nilP (some (⟨rb, 0, none⟩ : Addr)) fun a9 =>
      ∃ (v10 : ByteArray), w8.cell? (a9.add (Int.toNat 0 * 1)) = some (.string v10) ∧
      callE P i_strings_Builder_WriteString #[.pointer (some ⟨b5, 0, none⟩), .string v10] (fun e w12 => ∃ (r11_0 : Int), ∃ (r11_1 : Value), e = .returned (.tuple #[.int .i64 r11_0, r11_1]) ∧
      ∃ (r13q : Option Addr), ∃ (r13n : Nat), ∃ (r13c : Nat), ∃ w14, (Instr.sliceAt ty_S_string (.slice (some ⟨rb, 0, none⟩) n c) (some (.int .i64 1)) none none).run P w12 = .ok (.slice r13q r13n r13c) w14 ∧
      g_strings_Join.l2 R (bs sep) b5 r13q r13n r13c (r13n : Int) 0 w14) w8) w6 := by
    intro w h
    refine Sat.bx h fun b w h => ?_
    refine bldGrow_ok (bldNew b) h h0 (by omega) fun w M hB h => ⟨rfl, by omega, by omega, nilP_some ?_⟩
    refine ⟨bs t, Sat.ld h (List.mem_append_right _ (.head _)) rfl, ?_⟩
    refine bldS_ok hB h (.inr rfl) (by simp; omega) fun w M hB h => ⟨_, _, rfl, ?_⟩
    refine ⟨_, _, _, _, sliceF rowStr.ht rowStr.hi _ n c 1 (by omega) w, ?_⟩
    have hnc := hS.2.1
    rw [if_neg (by omega), rowStr.hs]
    simp only [Option.map_some, Addr.add_lit, Nat.zero_add, Nat.mul_one]
    rw [List.nil_append] at hB
    intro Y hY
    have key : ∀ k j (l : List UInt8) M w, j + k = ts.length → Bld b true l M → Sat σ w (M ++ ([(rb, cel (sv (t :: ts) ++ sp) ty_string)] ++ L)) → l ++ (ts.drop j).flatMap (fun u => sep ++ u) = joinL sep (t :: ts) →
        Y (bs sep) b (some ⟨rb, 1, none⟩) (n - 1) (c - 1) ((n - 1 : Nat) : Int) (j : Int) w := by
      intro k
      induction k with
      | zero =>
        intro j l M w hj hB h hl2
        rw [List.drop_eq_nil_of_le (by omega)] at hl2
        simp only [List.flatMap_nil, List.append_nil] at hl2
        refine hY _ _ _ _ _ _ _ _ (br_false (by simp; omega) ?_)
        refine bldStr_ok hB h (by rw [hl2]; omega) fun w h => ⟨_, rfl, ?_⟩
        rw [hl2]
        exact hR w h
      | succ k ih =>
        intro j l M w hj hB h hl2
        have hjl : j < ts.length := by omega
        rw [List.drop_eq_getElem_cons hjl, List.flatMap_cons, ← List.append_assoc, ← List.append_assoc] at hl2
        have hlb : (l ++ sep ++ ts[j]).length ≤ (joinL sep (t :: ts)).length := by rw [← hl2]; simp only [List.length_append]; omega
        simp only [List.length_append] at hlb
        refine hY _ _ _ _ _ _ _ _ (br_true (by simp; omega) ⟨by omega, by omega, nilP_some ?_⟩)
        simp only [Addr.add_lit, Int.toNat_natCast, Nat.mul_one]
        have hg : (sv (t :: ts) ++ sp)[1 + j]? = some (.string (bs ts[j])) := by
          rw [List.getElem?_append_left (by simp; omega), show 1 + j = j + 1 by omega, sv_get (by simp; omega)]; rfl
        refine ⟨_, Sat.ld h (List.mem_append_right _ (.head _)) hg, ?_⟩
        refine bldS_ok hB h (.inr rfl) (by omega) fun w M hB h => ⟨_, _, rfl, ?_⟩
        refine bldS_ok hB h (.inr rfl) (by simp; omega) fun w M hB h => ⟨_, _, rfl, ?_⟩
        rw [i64_inc (by omega)]
        exact ih (j + 1) _ M w (by omega) hB h hl2
    exact key ts.length 0 t M w (by omega) hB h rfl
  have sum : ∀ w (a : Nat), a = ts.length * sep.length → Sat σ w ([(rb, cel (sv (t :: ts) ++ sp) ty_string)] ++ L) → g_strings_Join.k2 R (some ⟨rb, 0, none⟩) n c (bs sep) (a : Int) w := by
    intro w a ha h X hX
    have key : ∀ k j (s : Nat), j + k = (t :: ts).length → s + sumL ((t :: ts).drop j) = (joinL sep (t :: ts)).length → X (some ⟨rb, 0, none⟩) n c (bs sep) (s : Int) (some ⟨rb, 0, none⟩) n c (n : Int) (j : Int) w := by
      intro k
      induction k with
      | zero =>
        intro j s hj hs
        rw [List.drop_eq_nil_of_le (by omega)] at hs
        simp only [sumL, List.map_nil, List.sum_nil, Nat.add_zero] at hs
        subst hs
        refine hX _ _ _ _ _ _ _ _ _ _ _ (br_false (by simp at hj; simp; omega) ?_)
        exact fin w h
      | succ k ih =>
        intro j s hj hs
        have hjl : j < (t :: ts).length := by omega
        rw [List.drop_eq_getElem_cons hjl] at hs
        simp only [sumL, List.map_cons, List.sum_cons] at hs
        have hjn : j < n := by simp at hjl; omega
        refine hX _ _ _ _ _ _ _ _ _ _ _ (br_true (by simp; omega) ⟨by omega, by omega, nilP_some ?_⟩)
        simp only [Addr.add_lit, Int.toNat_natCast, Nat.mul_one, Nat.zero_add]
        have hg : (sv (t :: ts) ++ sp)[j]? = some (.string (bs (t :: ts)[j])) := by
          rw [List.getElem?_append_left (by simp at hjl ⊢; omega), sv_get hjl]
        refine ⟨_, Sat.ld h (.head _) hg, ?_⟩
        rw [bs_size]
        refine br_false (by simp (disch := omega) only [i64_in]; simp; omega) ?_
        show X _ _ _ _ _ _ _ _ _ _ w
        rw [i64_inc (by omega), bs_size, i64_in _ (by omega), show (s : Int) + ((t :: ts)[j].length : Nat) = ((s + (t :: ts)[j].length : Nat) : Int) by omega]
        exact ih (j + 1) _ (by omega) (by simp only [sumL]; omega)
    refine key (t :: ts).length 0 a (by omega) ?_
    rw [hjl, ha]
    simp [sumL]
    omega
  have hmul : ts.length * sep.length < 1073741824 := by omega
  by_cases hs0 : sep = []
  · subst hs0
    refine br_false (by simp) ?_
    exact sum w 0 (by simp) h
  · refine br_true (by simpa using List.length_pos_iff.2 hs0) ?_
    have hn1 : IntKind.i64.wrap ((n : Int) - 1) = ((ts.length : Nat) : Int) := by simp (disch := omega) only [i64_in]; omega
    refine ⟨by rw [hn1]; omega, br_false ?_ ?_⟩
    · rw [hn1]
      have hq : Int.tdiv 9223372036854775807 (ts.length : Int) = ((9223372036854775807 / ts.length : Nat) : Int) := by
        rw [Int.tdiv_eq_ediv_of_nonneg (by omega)]; simp
      rw [hq]
      have hge : 65536 ≤ 9223372036854775807 / ts.length := by
        rw [Nat.le_div_iff_mul_le (by omega)]; omega
      have hle : 9223372036854775807 / ts.length ≤ 9223372036854775807 := Nat.div_le_self _ _
      rw [i64_in _ (by omega), bs_size]
      exact decide_eq_false (by omega)
    · show g_strings_Join.k2 R _ n c (bs sep) _ w
      rw [hn1, bs_size]
      have : IntKind.i64.wrap (0 + IntKind.i64.wrap ((sep.length : Int) * (ts.length : Int))) = ((ts.length * sep.length : Nat) : Int) := by
        have e : ((sep.length : Int) * (ts.length : Int)) = ((ts.length * sep.length : Nat) : Int) := by rw [Nat.mul_comm]; simp
        generalize ts.length * sep.length = m at hmul e ⊢
        rw [e, i64_in (m : Int) (by omega), Int.zero_add, i64_in (m : Int) (by omega)]
      rw [this]
      exact sum w _ rfl h
end Go.Proofs.YtejiaegiijokcaaGreatDoor


set_option linter.unusedVariables false
namespace Go.Proofs.YtejiaegiijokcaaGreatDoor
open Go.Proofs Go.IntWalk Go.RowKit
variable {σ : Out} {w : World} {L L' : List Chunk} {R : Ending → World → Prop}
def Inl.plain? : Inl → Option (List UInt8)
  | .plain s => some s
  | .openP s _ => some s
  | .emphP s _ _ _ _ => some s
  | _ => none
theorem toPlain_yes {t : Inl} {v : Value} {M : List Chunk} {s : List UInt8} (hI : InlAt t v M) (hs : t.plain? = some s) (hR : ∀ b cs e, M = [(b, cel (.string (bs s) :: cs) e)] → R (.returned (.pointer (some ⟨b, 0, none⟩))) w) : callE P i_toPlain #[v] R w := by
  refine g_toPlain.sound ?_
  cases t <;> simp only [Inl.plain?, Option.some.injEq, reduceCtorEq] at hs <;> subst hs
  · obtain ⟨b, cs, e, rfl, rfl⟩ := hI
    exact ⟨_, _, _, ta_plain_yes w, br_true rfl (hR b _ _ rfl)⟩
  · obtain ⟨b, e, rfl, rfl⟩ := hI
    exact ⟨_, _, _, ta_plain_no (by decide) w, br_false rfl ⟨_, _, _, ta_emph_no (by decide) w, br_false rfl ⟨_, _, _, ta_open_yes w, br_true rfl (nilP_some (hR b _ _ rfl))⟩⟩⟩
  · obtain ⟨b, e, rfl, rfl⟩ := hI
    exact ⟨_, _, _, ta_plain_no (by decide) w, br_false rfl ⟨_, _, _, ta_emph_yes w, br_true rfl (nilP_some (hR b _ _ rfl))⟩⟩
theorem Inl.not_plain {t : Inl} (h : t.plain? = none) : t.ty ≠ ty_P_Plain ∧ t.ty ≠ ty_P_openPlain ∧ t.ty ≠ ty_P_emphPlain := by
  cases t <;> simp only [Inl.plain?, reduceCtorEq] at h <;> (simp only [Inl.ty]; decide)
theorem toPlain_no {t : Inl} {v : Value} {M : List Chunk} (hI : InlAt t v M) (hs : t.plain? = none) (hR : R (.returned (.pointer none)) w) : callE P i_toPlain #[v] R w := by
  refine g_toPlain.sound ?_
  obtain ⟨h1, h2, h3⟩ := Inl.not_plain hs
  obtain ⟨b, cs, e, M', rfl, _⟩ := hI.ptr
  exact ⟨_, _, _, ta_plain_no h1 w, br_false rfl ⟨_, _, _, ta_emph_no h3 w, br_false rfl ⟨_, _, _, ta_open_no h2 w, br_false rfl hR⟩⟩⟩

theorem joinL_nil : ∀ us : List (List UInt8), joinL [] us = us.flatten
  | [] => rfl
  | u :: us => by simp [joinL, List.flatten_cons, List.flatMap_id']
theorem InlsAt.mid {a : List Inl} {t : Inl} {b : List Inl} {vs : List Value} {M : List Chunk} (h : InlsAt (a ++ t :: b) vs M) : ∃ vs1 v vs2 M1 M2 M3, vs = vs1 ++ v :: vs2 ∧ M = M1 ++ (M2 ++ M3) ∧ InlsAt a vs1 M1 ∧ InlAt t v M2 ∧ InlsAt b vs2 M3 := by
  obtain ⟨vs1, vs2, M1, M2, rfl, rfl, h1, h2⟩ := h.split
  obtain ⟨v, vs', N1, N2, rfl, rfl, h3, h4⟩ := h2
  exact ⟨vs1, v, vs', M1, N1, N2, rfl, rfl, h1, h3, h4⟩
theorem fillS (t : List UInt8) : Instr.fill (fun i => some (i * 1, 1)) ((Array.range (1 * 1)).map (rowStr.z.cells[· % rowStr.z.cells.size]!)) [(0, .string (bs t))] = some #[.string (bs t)] := by kernel_rfl

theorem mergePlain1_ok {rb s m c : Nat} {cs : List Value} {e : TypeId} {vs : List Value} {ts : List Inl} {us : List (List UInt8)} {EM : List Chunk} (hI : InlsAt ts vs EM) (hu : ts.map Inl.plain? = us.map some) (hm : vs.length = m) (h1 : 1 ≤ m) (hmb : m < 1073741824)
    (hcs : ∀ j (hj : j < m), cs[s + j]? = vs[j]?) (hpos : 0 < us.flatten.length) (hb : us.flatten.length < 1073741824) (h : Sat σ w ((rb, cel cs e) :: (EM ++ L)))
    (hR : ∀ w b EM', InlAt (.plain us.flatten) (ptrV ty_P_Plain b) EM' → Sat σ w ((rb, cel cs e) :: (EM' ++ L)) → R (.returned (.pointer (some ⟨b, 0, none⟩))) w) :
    callE P i_mergePlain1 #[.slice (some ⟨rb, s, none⟩) m c] R w := by
  have hlt := hI.length
  have hul : us.length = ts.length := by have := congrArg List.length hu; simpa using this.symm
  refine g_mergePlain1.sound ?_
  have get : ∀ j, j < m → ∃ t v a b M1 M2 M3 u, ts = a ++ t :: b ∧ EM = M1 ++ (M2 ++ M3) ∧ InlAt t v M2 ∧ t.plain? = some u ∧ us[j]? = some u ∧ cs[s + j]? = some v ∧ a.length = j := by
    intro j hj
    have hjt : j < ts.length := by omega
    have hsp : ts = ts.take j ++ (ts[j] :: ts.drop (j + 1)) := by rw [← List.drop_eq_getElem_cons hjt, List.take_append_drop]
    have hju : j < us.length := by omega
    have hp : ts[j].plain? = some us[j] := by
      have := congrArg (fun l => l[j]?) hu
      simpa [hjt, hju] using this
    have hI' := hI
    rw [hsp] at hI'
    obtain ⟨vs1, v, vs2, M1, M2, M3, rfl, rfl, h1, h2, h3⟩ := hI'.mid
    have hl1 := h1.length
    rw [List.length_take, Nat.min_eq_left (by omega)] at hl1
    refine ⟨ts[j], v, ts.take j, ts.drop (j + 1), M1, M2, M3, us[j], hsp, rfl, h2, hp, List.getElem?_eq_getElem hju, ?_, ?_⟩
    · rw [hcs j hj, List.getElem?_append_right (by omega), hl1]; simp
    · rw [List.length_take]; omega
  by_cases hm1 : m = 1
  · refine br_true (by simp [hm1]) ⟨by omega, by omega, nilP_some ?_⟩
    obtain ⟨t, v, a, b, M1, M2, M3, u, rfl, rfl, h2, hp, hu0, hc0, ha⟩ := get 0 (by omega)
    have hb0 : b = [] := by
      simp only [List.length_append, List.length_cons, ha] at hlt
      exact List.eq_nil_of_length_eq_zero (by omega)
    have ha0 : a = [] := List.eq_nil_of_length_eq_zero ha
    subst hb0 ha0
    obtain ⟨us0, rfl⟩ : ∃ x, us = [x] := by
      simp at hul
      match us, hul with
      | [x], _ => exact ⟨x, rfl⟩
    obtain rfl : us0 = u := by simpa using hu0
    simp only [Addr.add_lit, Int.toNat_zero, Nat.zero_mul, Nat.add_zero]
    refine ⟨v, Sat.ld h (.head _) hc0, ?_⟩
    refine toPlain_yes h2 hp fun bb ccs ee hM => ⟨_, rfl, ?_⟩
    refine hR w bb M2 ?_ ?_
    · rw [hM]; exact ⟨bb, ccs, ee, rfl, by simp⟩
    · exact h.less (M1 ++ M3) (by intro _; simp only [List.append_eq, cnt_append, cnt_cons, cnt_nil] <;> omega)
  · refine br_false (by simp; omega) ?_
    intro X hX
    have key : ∀ k j (q : Option Addr) (n c' : Nat) AM w, j + k = m → Sl 1 ty_string q n c' (sv (us.take j)) AM → Sat σ w (AM ++ ((rb, cel cs e) :: (EM ++ L))) → X q n c' (some ⟨rb, s, none⟩) m c (m : Int) (j : Int) w := by
      intro k
      induction k with
      | zero =>
        intro j q n c' AM w hj hS h
        refine hX _ _ _ _ _ _ _ _ _ (br_false (by simp; omega) ?_)
        rw [List.take_of_length_le (by omega)] at hS
        cases us with
        | nil => simp at hul; omega
        | cons u us =>
          have hn := hS.1
          rw [sv_length] at hn
          simp at hul hn
          have hjl := joinL_nil (u :: us)
          refine join_ok (sep := []) hS h (by omega) (by omega) (by simp) (by rw [hjl]; exact hpos) (by rw [hjl]; exact hb) fun w h => ⟨_, rfl, ?_⟩
          rw [hjl]
          refine Sat.bx h fun pb w h => ?_
          refine hR w pb [(pb, cel [.string (bs (u :: us).flatten)] ty_Plain)] ⟨pb, [], _, rfl, rfl⟩ ?_
          exact h.less (AM ++ EM) (by intro _; simp only [List.append_eq, cnt_append, cnt_cons, cnt_nil] <;> omega)
      | succ k ih =>
        intro j q n c' AM w hj hS h
        have hjm : j < m := by omega
        have hju : j < us.length := by omega
        refine hX _ _ _ _ _ _ _ _ _ (br_true (by simp; omega) ⟨by omega, by omega, nilP_some ?_⟩)
        obtain ⟨t, v, a, b, M1, M2, M3, u, rfl, rfl, h2, hp, hu0, hc0, ha⟩ := get j hjm
        simp only [Addr.add_lit, Int.toNat_natCast, Nat.mul_one]
        refine ⟨v, Sat.ld h (List.mem_append_right _ (.head _)) hc0, ?_⟩
        refine toPlain_yes h2 hp fun bb ccs ee hM => ⟨_, rfl, nilP_some ?_⟩
        subst hM
        refine ⟨_, Sat.ld h (List.mem_append_right _ (.tail _ (List.mem_append_left _ (List.mem_append_right _ (.head _))))) rfl, ?_⟩
        have hn := hS.1
        rw [sv_length, List.length_take] at hn
        refine Sat.app1 rowStr hS h (v := .string (bs u)) rfl (by simp [Value.cells, Value.oneCell']) (fillS u) (by omega) (by omega) (by decide) fun q' c'' w' M' hS' h => ?_
        rw [i64_inc (by omega)]
        refine ih (j + 1) q' (n + 1) c'' M' w' (by omega) ?_ h
        have e : sv (us.take (j + 1)) = sv (us.take j) ++ [.string (bs u)] := by
          rw [List.take_succ_eq_append_getElem hju]
          have : us[j] = u := by rw [List.getElem?_eq_getElem hju] at hu0; exact Option.some.inj hu0
          simp [sv, this]
        rw [e]; exact hS'
    exact key m 0 none 0 0 [] w (by omega) (Sl.nil 1 ty_string) h
end Go.Proofs.YtejiaegiijokcaaGreatDoor


set_option linter.unusedVariables false
namespace Go.Proofs.YtejiaegiijokcaaGreatDoor
open Go.Proofs Go.IntWalk Go.RowKit
variable {σ : Out} {w : World} {L L' : List Chunk} {R : Ending → World → Prop}
def flushP (p : List (List UInt8)) : List Inl := if p = [] then [] else [.plain p.flatten]
def mergeGo : List (List UInt8) → List Inl → List Inl
  | p, [] => flushP p
  | p, t :: ts => match t.plain? with
    | some s => mergeGo (p ++ [s]) ts
    | none => flushP p ++ t :: mergeGo [] ts
def mergeM (ts : List Inl) : List Inl := mergeGo [] ts
def plen : List Inl → Nat
  | [] => 0
  | t :: ts => (match t.plain? with | some s => s.length | none => 0) + plen ts
theorem set_mid {α : Type} {A B C : List α} {v : α} (hB : B ≠ []) : (A ++ (B ++ C)).set A.length v = (A ++ [v]) ++ (B.drop 1 ++ C) := by
  cases B with
  | nil => exact absurd rfl hB
  | cons x B => simp [List.set_append_right]
theorem fillP (v : Value) (hv : ∃ t b, v = ptrV t b) : Instr.fill (fun i => some (i * 1, 1)) ((Array.range (1 * 1)).map (rowInl.z.cells[· % rowInl.z.cells.size]!)) [(0, v)] = some v.cells := by
  obtain ⟨t, b, rfl⟩ := hv
  exact fillI t _
theorem und_PP : P.underlying ty_P_Plain = some (.pointer ty_Plain) := und_plain

theorem mergePlain_ok {pq q : Option Addr} {n c : Nat} {vs : List Value} {ts : List Inl} {RM EM : List Chunk} (hS : Sl 1 ty_Inline q n c vs RM) (hI : InlsAt ts vs EM) (hpos : ∀ t ∈ ts, ∀ s, t.plain? = some s → s ≠ []) (hb : plen ts < 1073741824) (hn : n < 1073741823)
    (h : Sat σ w (RM ++ (EM ++ L)))
    (hR : ∀ w n' vs' RM' EM', Sl 1 ty_Inline q n' c vs' RM' → n' ≤ n → InlsAt (mergeM ts) vs' EM' → Sat σ w (RM' ++ (EM' ++ L)) → R (.returned (.slice q n' c)) w) : callE P i_parseState_mergePlain #[.pointer pq, .slice q n c] R w := by
  have hl := hS.1
  have hnc := hS.2.1
  have htl := hI.length
  refine g_parseState_mergePlain.sound ?_
  refine ⟨_, _, _, _, sliceT rowInl.ht rowInl.hi q n c 0 (by omega) w, ?_⟩
  intro X hX
  obtain ⟨_, _, ⟨rfl, rfl, rfl, rfl⟩ | ⟨rb, sp, rfl, rfl, hsp⟩⟩ := hS
  · have hts : ts = [] := List.eq_nil_of_length_eq_zero (by omega)
    subst hts
    refine hX _ _ _ _ _ _ _ _ _ (br_false rfl ?_)
    refine br_false rfl (br_true rfl ?_)
    exact hR w 0 [] [] [] (Sl.nil 1 ty_Inline) (by omega) ⟨rfl, rfl⟩ (h.sub (by rw [List.nil_append]; exact List.sublist_append_right _ _))
  have hlen0 : vs.length = n := by omega
  have key : ∀ (rts : List Inl) (pts : List Inl) (us : List (List UInt8)) (ots : List Inl) (ovs junk pvs rvs : List Value) (OM PM RM : List Chunk) w,
      InlsAt ots ovs OM → InlsAt pts pvs PM → InlsAt rts rvs RM → pts.map Inl.plain? = us.map some → (∀ u ∈ us, u ≠ []) → (∀ t ∈ rts, ∀ s, t.plain? = some s → s ≠ []) → us.flatten.length + plen rts < 1073741824 →
      ovs.length + junk.length + pvs.length + rvs.length = n → mergeM ts = ots ++ mergeGo us rts →
      Sat σ w ((rb, cel (ovs ++ (junk ++ (pvs ++ (rvs ++ sp)))) ty_Inline) :: (OM ++ (PM ++ (RM ++ L)))) →
      X (some ⟨rb, 0, none⟩) n c (some ⟨rb, 0, none⟩) ovs.length c ((ovs.length + junk.length : Nat) : Int) ((ovs.length + junk.length + pvs.length : Nat) : Int) w := by
    intro rts
    induction rts with
    | nil =>
      intro pts us ots ovs junk pvs rvs OM PM RM w hO hP hRt hu hune hrne hbb hlen hm h
      obtain ⟨rfl, rfl⟩ := hRt
      have hpl := hP.length
      have hul : us.length = pts.length := by have := congrArg List.length hu; simpa using this.symm
      simp only [List.length_nil, Nat.add_zero] at hlen
      refine hX _ _ _ _ _ _ _ _ _ (br_false (by simp; omega) ?_)
      by_cases hp0 : pvs = []
      · subst hp0
        have hpts : pts = [] := by cases pts with
          | nil => rfl
          | cons _ _ => simp at hpl
        subst hpts
        have hus : us = [] := by cases us with
          | nil => rfl
          | cons _ _ => simp at hul
        subst hus
        obtain ⟨_, rfl⟩ := hP
        refine br_false (by simp) (br_true (by simp at hlen ⊢; omega) ?_)
        refine hR w ovs.length ovs [(rb, cel (ovs ++ (junk ++ sp)) ty_Inline)] OM ⟨by omega, by omega, .inr ⟨rb, junk ++ sp, rfl, rfl, ?_⟩⟩ (by omega) ?_ ?_
        · simp only [List.length_append] at hsp ⊢; simp at hlen; omega
        · rw [hm]; simpa [mergeGo, flushP] using hO
        · simp only [List.nil_append] at h; exact h.re (by intro _; simp only [List.append_eq, cnt_append, cnt_cons, cnt_nil] <;> omega)
      · have hpos1 : 0 < pvs.length := List.length_pos_iff.2 hp0
        refine br_true (by simp; omega) ?_
        refine ⟨_, _, _, _, sliceLH rowInl.ht rowInl.hi _ n c _ _ (by omega) (by omega) w, ?_⟩
        rw [if_neg (by omega), rowInl.hs]
        simp only [Option.map_some, Addr.add_lit, Nat.zero_add, Nat.mul_one]
        have hune0 : us ≠ [] := by intro h0; subst h0; simp at hul; omega
        have hfl : 0 < us.flatten.length := by
          cases us with
          | nil => exact absurd rfl hune0
          | cons u us =>
            have := List.length_pos_iff.2 (hune u (.head _))
            simp only [List.flatten_cons, List.length_append]; omega
        have h : Sat σ w ((rb, cel (ovs ++ (junk ++ (pvs ++ ([] ++ sp)))) ty_Inline) :: (PM ++ (OM ++ L))) := h.re (by intro _; simp only [List.append_eq, cnt_append, cnt_cons, cnt_nil] <;> omega)
        refine mergePlain1_ok (us := us) hP hu (by omega) (by omega) (by omega) ?_ hfl (by simp only [plen] at hbb; omega) h fun w nb EM' hN h => ⟨_, rfl, ?_⟩
        · intro j hj
          rw [List.getElem?_append_right (by omega), List.getElem?_append_right (by omega), List.getElem?_append_left (by omega)]
          congr 1; omega
        have h : Sat σ w ((rb, cel (ovs ++ ((junk ++ pvs) ++ sp)) ty_Inline) :: (EM' ++ (OM ++ L))) := by
          have e : ovs ++ (junk ++ (pvs ++ ([] ++ sp))) = ovs ++ ((junk ++ pvs) ++ sp) := by simp
          rw [← e]; exact h
        refine appRoom' rowInl h (v := ptrV ty_P_Plain nb) (by simp; omega) (by omega) rfl rfl (fillI _ _) fun w h => ?_
        rw [set_mid (by simp [hp0])] at h
        refine br_true (by simp; omega) ?_
        refine hR w (ovs.length + 1) (ovs ++ [ptrV ty_P_Plain nb]) [(rb, cel ((ovs ++ [ptrV ty_P_Plain nb]) ++ ((junk ++ pvs).drop 1 ++ sp)) ty_Inline)] (OM ++ EM') ⟨by simp, by omega, .inr ⟨rb, _, rfl, rfl, ?_⟩⟩ (by omega) ?_ ?_
        · simp only [List.length_append, List.length_drop, List.length_singleton] at hsp ⊢; omega
        · rw [hm]
          simp only [mergeGo, flushP, if_neg hune0]
          exact hO.append (InlsAt.one hN)
        · exact h.re (by intro _; simp only [List.append_eq, cnt_append, cnt_cons, cnt_nil] <;> omega)
    | cons t rts ih =>
      intro pts us ots ovs junk pvs rvs OM PM RM w hO hP hRt hu hune hrne hbb hlen hm h
      have hpl := hP.length
      have hul : us.length = pts.length := by have := congrArg List.length hu; simpa using this.symm
      obtain ⟨v, rvs', M1, M2, rfl, rfl, hv, hrest⟩ := hRt
      simp only [List.length_cons] at hlen
      refine hX _ _ _ _ _ _ _ _ _ (br_true (by simp; omega) ⟨by omega, by omega, nilP_some ?_⟩)
      simp only [Addr.add_lit, Int.toNat_natCast, Nat.mul_one, Nat.zero_add]
      have hg : (ovs ++ (junk ++ (pvs ++ (v :: rvs' ++ sp))))[ovs.length + junk.length + pvs.length]? = some v := by
        rw [List.getElem?_append_right (by omega), List.getElem?_append_right (by omega), List.getElem?_append_right (by omega)]
        rw [show ovs.length + junk.length + pvs.length - ovs.length - junk.length - pvs.length = 0 by omega]
        rfl
      refine ⟨v, Sat.ld h (.head _) hg, ?_⟩
      cases hpt : t.plain? with
      | some u =>
        refine toPlain_yes hv hpt fun bb ccs ee hM => ⟨_, rfl, ?_⟩
        refine ⟨_, _, neq_ptr_nil und_PP _ w, br_true rfl ?_⟩
        rw [i64_inc (by omega)]
        have := ih (pts ++ [t]) (us ++ [u]) ots ovs junk (pvs ++ [v]) rvs' OM (PM ++ M1) M2 w hO (hP.append (InlsAt.one hv)) hrest (by simp [hu, hpt])
          (by intro x hx; rcases List.mem_append.1 hx with hx | hx
              · exact hune x hx
              · simp at hx; subst hx; exact hrne t (.head _) _ hpt)
          (fun t' ht' => hrne t' (.tail _ ht')) (by simp only [plen, hpt] at hbb; simp only [List.flatten_append, List.flatten_cons, List.flatten_nil, List.length_append, List.append_nil]; omega) (by simp; omega) (by rw [hm, mergeGo, hpt]) ?_
        · simp only [List.length_append, List.length_singleton, ← Nat.add_assoc] at this
          exact this
        · have e : ovs ++ (junk ++ (pvs ++ [v] ++ (rvs' ++ sp))) = ovs ++ (junk ++ (pvs ++ (v :: rvs' ++ sp))) := by simp
          rw [e]; exact h.re (by intro _; simp only [List.append_eq, cnt_append, cnt_cons, cnt_nil] <;> omega)
      | none =>
        refine toPlain_no hv hpt ⟨_, rfl, ?_⟩
        refine ⟨_, _, neq_ptr_nil und_PP _ w, br_false rfl ?_⟩
        have hvp : ∃ t b, v = ptrV t b := by obtain ⟨b, _, _, _, h, _⟩ := hv.ptr; exact ⟨_, b, h⟩
        have hv1 : v.cells = #[v] ∧ v.oneCell' = true := by obtain ⟨t, b, rfl⟩ := hvp; exact ⟨rfl, rfl⟩
        have fin : ∀ (ots' : List Inl) (ovs' junk' : List Value) (OM' : List Chunk) w, InlsAt ots' ovs' OM' → mergeM ts = ots' ++ t :: mergeGo [] rts → ovs'.length + junk'.length = ovs.length + junk.length + pvs.length →
            Sat σ w ((rb, cel (ovs' ++ (junk' ++ (v :: rvs' ++ sp))) ty_Inline) :: (OM' ++ (M1 ++ (M2 ++ L)))) →
            g_parseState_mergePlain.k2 R X (some ⟨rb, 0, none⟩) n c (some ⟨rb, 0, none⟩) ovs'.length c ((ovs.length + junk.length + pvs.length : Nat) : Int) w := by
          intro ots' ovs' junk' OM' w hO' hm' hl' h
          refine br_false (by simp; omega) ⟨by omega, by omega, nilP_some ?_⟩
          simp only [Addr.add_lit, Int.toNat_natCast, Nat.mul_one, Nat.zero_add]
          have hg : (ovs' ++ (junk' ++ (v :: rvs' ++ sp)))[ovs.length + junk.length + pvs.length]? = some v := by
            rw [List.getElem?_append_right (by omega), List.getElem?_append_right (by omega)]
            rw [show ovs.length + junk.length + pvs.length - ovs'.length - junk'.length = 0 by omega]
            rfl
          refine ⟨v, Sat.ld h (.head _) hg, ?_⟩
          have e : ovs' ++ (junk' ++ (v :: rvs' ++ sp)) = ovs' ++ ((junk' ++ [v]) ++ (rvs' ++ sp)) := by simp
          rw [e] at h
          refine appRoom' rowInl h (v := v) (by simp; omega) (by omega) hv1.1 hv1.2 (fillP v hvp) fun w h => ?_
          rw [set_mid (by simp)] at h
          have e1 : IntKind.i64.wrap (((ovs.length + junk.length + pvs.length : Nat) : Int) + 1) = ((ovs.length + junk.length + pvs.length + 1 : Nat) : Int) := i64_inc (by omega)
          rw [e1]
          have := ih [] [] (ots' ++ [t]) (ovs' ++ [v]) ((junk' ++ [v]).drop 1) [] rvs' (OM' ++ M1) [] M2 w (hO'.append (InlsAt.one hv)) ⟨rfl, rfl⟩ hrest rfl (by simp) (fun t' ht' => hrne t' (.tail _ ht')) (by simp only [plen, hpt] at hbb; simp; omega)
            (by simp; omega) (by rw [hm']; simp) ?_
          · simp only [List.length_append, List.length_singleton, List.length_drop, List.length_nil, Nat.add_zero] at this
            have e2 : ovs'.length + 1 + (junk'.length + 1 - 1) = ovs.length + junk.length + pvs.length + 1 := by omega
            rw [e2] at this
            exact this
          · rw [List.nil_append]
            exact h.re (by intro _; simp only [List.append_eq, cnt_append, cnt_cons, cnt_nil] <;> omega)
        by_cases hp0 : pvs = []
        · subst hp0
          have hpts : pts = [] := by cases pts with
            | nil => rfl
            | cons _ _ => simp at hpl
          subst hpts
          have hus : us = [] := by cases us with
            | nil => rfl
            | cons _ _ => simp at hul
          subst hus
          obtain ⟨_, rfl⟩ := hP
          refine br_false (by simp) ?_
          refine fin ots ovs junk OM w hO (by rw [hm, mergeGo, hpt]; rfl) (by simp) ?_
          simp only [List.nil_append] at h
          exact h.re (by intro _; simp only [List.append_eq, cnt_append, cnt_cons, cnt_nil] <;> omega)
        · have hpos1 : 0 < pvs.length := List.length_pos_iff.2 hp0
          refine br_true (by simp; omega) ?_
          refine ⟨_, _, _, _, sliceLH rowInl.ht rowInl.hi _ n c _ _ (by omega) (by omega) w, ?_⟩
          rw [if_neg (by omega), rowInl.hs]
          simp only [Option.map_some, Addr.add_lit, Nat.zero_add, Nat.mul_one]
          have hune0 : us ≠ [] := by intro h0; subst h0; simp at hul; omega
          have hfl : 0 < us.flatten.length := by
            cases us with
            | nil => exact absurd rfl hune0
            | cons u us =>
              have := List.length_pos_iff.2 (hune u (.head _))
              simp only [List.flatten_cons, List.length_append]; omega
          have h : Sat σ w ((rb, cel (ovs ++ (junk ++ (pvs ++ (v :: rvs' ++ sp)))) ty_Inline) :: (PM ++ (OM ++ (M1 ++ (M2 ++ L))))) := h.re (by intro _; simp only [List.append_eq, cnt_append, cnt_cons, cnt_nil] <;> omega)
          refine mergePlain1_ok (us := us) hP hu (by omega) (by omega) (by omega) ?_ hfl (by simp only [plen] at hbb; omega) h fun w nb EM' hN h => ⟨_, rfl, ?_⟩
          · intro j hj
            rw [List.getElem?_append_right (by omega), List.getElem?_append_right (by omega), List.getElem?_append_left (by omega)]
            congr 1; omega
          have h : Sat σ w ((rb, cel (ovs ++ ((junk ++ pvs) ++ (v :: rvs' ++ sp))) ty_Inline) :: (EM' ++ (OM ++ (M1 ++ (M2 ++ L))))) := by
            have e : ovs ++ (junk ++ (pvs ++ (v :: rvs' ++ sp))) = ovs ++ ((junk ++ pvs) ++ (v :: rvs' ++ sp)) := by simp
            rw [← e]; exact h
          refine appRoom' rowInl h (v := ptrV ty_P_Plain nb) (by simp; omega) (by omega) rfl rfl (fillI _ _) fun w h => ?_
          rw [set_mid (by simp [hp0])] at h
          have := fin (ots ++ [.plain us.flatten]) (ovs ++ [ptrV ty_P_Plain nb]) ((junk ++ pvs).drop 1) (OM ++ EM') w (hO.append (InlsAt.one hN)) (by rw [hm, mergeGo, hpt]; simp [flushP, hune0]) (by simp; omega) (h.re (by intro _; simp only [List.append_eq, cnt_append, cnt_cons, cnt_nil] <;> omega))
          simp only [List.length_append, List.length_singleton] at this
          exact this
  have := key ts [] [] [] [] [] [] vs [] [] EM w ⟨rfl, rfl⟩ ⟨rfl, rfl⟩ hI rfl (by simp) hpos (by simpa using hb) (by simpa using hlen0) rfl (by simp only [List.nil_append]; exact h.re (by intro _; simp only [List.append_eq, cnt_append, cnt_cons, cnt_nil] <;> omega))
  exact this
end Go.Proofs.YtejiaegiijokcaaGreatDoor


set_option linter.unusedVariables false
namespace Go.Proofs.YtejiaegiijokcaaGreatDoor
open Go.Proofs Go.IntWalk Go.RowKit
variable {σ : Out} {w : World} {L L' : List Chunk} {R : Ending → World → Prop}
inductive PK where
  | nil
  | fn (f : FuncId)
  | code
def parserOf (o : Opt) (c : UInt8) : PK :=
  if c = 92 then .fn i_parseEscape else if c = 96 then .code else if c = 60 then .fn i_parseAutoLinkOrHTML else if c = 91 then .fn i_parseLinkOpen else if c = 33 then .fn i_parseImageOpen
  else if c = 95 ∨ c = 42 then .fn i_parseEmph else if c = 46 then (if o.dot then .fn i_parseDot else .nil) else if c = 45 then (if o.dash then .fn i_parseDash else .nil)
  else if c = 34 ∨ c = 39 then (if o.quote then .fn i_parseEmph else .nil) else if c = 126 then (if o.strike then .fn i_parseEmph else .nil) else if c = 10 then .fn i_parseBreak
  else if c = 38 then .fn i_parseHTMLEntity else if c = 58 then (if o.emoji then .fn i_parseEmoji else .nil) else .nil
abbrev XI := Option Addr → ByteArray → Option Addr → Nat → Nat → Int → Bool → Int → World → Prop
theorem inl_dispatch {X : XI} {b pb : Nat} {p : PS} {o : Opt} {s : List UInt8} {oq : Option Addr} {on oc : Nat} {lo : Int} {bk : Bool} {i : Nat} (hi : i < s.length) (hs : s.length < 4611686018427387904) (hpz : p.pz = some ⟨pb, 0, none⟩) (hp : p.at b ∈ L) (ho : o.at pb ∈ L) (h : Sat σ w L)
    (hK : match parserOf o s[i] with
      | .nil => g_parseState_inline.k1 R X (some ⟨b, 0, none⟩) (bs s) oq on oc lo bk i .nilFunc w
      | .fn f => g_parseState_inline.k1 R X (some ⟨b, 0, none⟩) (bs s) oq on oc lo bk i (.func (.func f) #[] #[]) w
      | .code => br (!bk) (callE P i_backtickParser_reset #[.pointer (some ⟨b, 12, none⟩)] (fun e w11 => e = .returned (.tuple #[]) ∧ g_parseState_inline.k1 R X (some ⟨b, 0, none⟩) (bs s) oq on oc lo true i (.func (.func i_backtickParser_parseCodeSpan) #[.pointer (some ⟨b, 12, none⟩)] #[]) w11) w)
          (g_parseState_inline.k1 R X (some ⟨b, 0, none⟩) (bs s) oq on oc lo bk i (.func (.func i_backtickParser_parseCodeSpan) #[.pointer (some ⟨b, 12, none⟩)] #[]) w)) :
    g_parseState_inline.bl1 R X (some ⟨b, 0, none⟩) (bs s) oq on oc lo bk i w := by
  have hld0 : w.cell? ⟨b, 0, none⟩ = some (.pointer (some ⟨pb, 0, none⟩)) := by rw [← hpz]; exact Sat.ld h hp rfl
  refine br_true (by simp; omega) ⟨by omega, by simp; omega, ?_⟩
  unfold parserOf at hK
  have hne : ∀ (d : UInt8) (m : Int), (d.toNat : Int) = m → ¬ s[i] = d → (bt (bs s) (i : Int) == m) = false := by
    intro d m hm hd; rw [bt_beq hi d m hm]; simpa using hd
  have hye : ∀ (d : UInt8) (m : Int), (d.toNat : Int) = m → s[i] = d → (bt (bs s) (i : Int) == m) = true := by
    intro d m hm hd; rw [bt_beq hi d m hm]; simpa using hd
  by_cases h92 : s[i] = 92
  · rw [if_pos h92] at hK; exact br_true (hye 92 92 rfl h92) hK
  rw [if_neg h92] at hK; refine br_false (hne 92 92 rfl h92) ?_
  by_cases h96 : s[i] = 96
  · rw [if_pos h96] at hK
    refine br_true (hye 96 96 rfl h96) ?_
    cases bk with
    | true => exact br_false rfl (nilP_some hK)
    | false => exact br_true rfl (nilP_some (by
        have hK : callE P i_backtickParser_reset #[.pointer (some ⟨b, 12, none⟩)] _ w := hK
        exact hK))
  rw [if_neg h96] at hK; refine br_false (hne 96 96 rfl h96) ?_
  by_cases h60 : s[i] = 60
  · rw [if_pos h60] at hK; exact br_true (hye 60 60 rfl h60) hK
  rw [if_neg h60] at hK; refine br_false (hne 60 60 rfl h60) ?_
  by_cases h91 : s[i] = 91
  · rw [if_pos h91] at hK; exact br_true (hye 91 91 rfl h91) hK
  rw [if_neg h91] at hK; refine br_false (hne 91 91 rfl h91) ?_
  by_cases h33 : s[i] = 33
  · rw [if_pos h33] at hK; exact br_true (hye 33 33 rfl h33) hK
  rw [if_neg h33] at hK; refine br_false (hne 33 33 rfl h33) ?_
  by_cases h95 : s[i] = 95
  · rw [if_pos (.inl h95)] at hK; exact br_true (hye 95 95 rfl h95) (br_true rfl hK)
  refine br_false (hne 95 95 rfl h95) ?_
  by_cases h42 : s[i] = 42
  · rw [if_pos (.inr h42)] at hK; exact br_true (hye 42 42 rfl h42) hK
  rw [if_neg (by simp [h95, h42])] at hK; refine br_false (hne 42 42 rfl h42) ?_
  have opt : ∀ {A B : Prop} (k : Nat) (v : Bool), o.cells[k]? = some (.bool v) → (v = true → A) → (v = false → B) →
      nilP (some (⟨b, 0, none⟩ : Addr)) fun a53 => ∃ (v54 : Option Addr), w.cell? a53 = some (.pointer v54) ∧ nilP v54 fun a55 => ∃ (v56 : Bool), w.cell? (a55.add k) = some (.bool v56) ∧ br v56 A B := by
    intro A B k v hv hA hB
    refine nilP_some ⟨_, hld0, nilP_some ?_⟩
    simp only [Addr.add_lit, Nat.zero_add]
    exact ⟨v, Sat.ld h ho hv, br_split hA hB⟩
  by_cases h46 : s[i] = 46
  · rw [if_pos h46] at hK
    refine br_true (hye 46 46 rfl h46) (opt 7 o.dot rfl (fun hv => ?_) (fun hv => ?_))
    · rw [if_pos hv] at hK; exact hK
    · rw [if_neg (by simp [hv])] at hK; exact hK
  rw [if_neg h46] at hK; refine br_false (hne 46 46 rfl h46) ?_
  by_cases h45 : s[i] = 45
  · rw [if_pos h45] at hK
    refine br_true (hye 45 45 rfl h45) (opt 8 o.dash rfl (fun hv => ?_) (fun hv => ?_))
    · rw [if_pos hv] at hK; exact hK
    · rw [if_neg (by simp [hv])] at hK; exact hK
  rw [if_neg h45] at hK; refine br_false (hne 45 45 rfl h45) ?_
  by_cases h34 : s[i] = 34
  · rw [if_pos (.inl h34)] at hK
    refine br_true (hye 34 34 rfl h34) (br_true rfl (opt 9 o.quote rfl (fun hv => ?_) (fun hv => ?_)))
    · rw [if_pos hv] at hK; exact hK
    · rw [if_neg (by simp [hv])] at hK; exact hK
  refine br_false (hne 34 34 rfl h34) ?_
  by_cases h39 : s[i] = 39
  · rw [if_pos (.inr h39)] at hK
    refine br_true (hye 39 39 rfl h39) (opt 9 o.quote rfl (fun hv => ?_) (fun hv => ?_))
    · rw [if_pos hv] at hK; exact hK
    · rw [if_neg (by simp [hv])] at hK; exact hK
  rw [if_neg (by simp [h34, h39])] at hK; refine br_false (hne 39 39 rfl h39) ?_
  by_cases h126 : s[i] = 126
  · rw [if_pos h126] at hK
    refine br_true (hye 126 126 rfl h126) (opt 1 o.strike rfl (fun hv => ?_) (fun hv => ?_))
    · rw [if_pos hv] at hK; exact hK
    · rw [if_neg (by simp [hv])] at hK; exact hK
  rw [if_neg h126] at hK; refine br_false (hne 126 126 rfl h126) ?_
  by_cases h10 : s[i] = 10
  · rw [if_pos h10] at hK; exact br_true (hye 10 10 rfl h10) hK
  rw [if_neg h10] at hK; refine br_false (hne 10 10 rfl h10) ?_
  by_cases h38 : s[i] = 38
  · rw [if_pos h38] at hK; exact br_true (hye 38 38 rfl h38) hK
  rw [if_neg h38] at hK; refine br_false (hne 38 38 rfl h38) ?_
  by_cases h58 : s[i] = 58
  · rw [if_pos h58] at hK
    refine br_true (hye 58 58 rfl h58) (opt 6 o.emoji rfl (fun hv => ?_) (fun hv => ?_))
    · rw [if_pos hv] at hK; exact hK
    · rw [if_neg (by simp [hv])] at hK; exact hK
  rw [if_neg h58] at hK; exact br_false (hne 58 58 rfl h58) hK
end Go.Proofs.YtejiaegiijokcaaGreatDoor


set_option linter.unusedVariables false
namespace Go.Proofs.YtejiaegiijokcaaGreatDoor
open Go.Proofs Go.IntWalk Go.RowKit
variable {σ : Out} {w : World} {L L' : List Chunk} {R : Ending → World → Prop}
def PS.core (p : PS) : PS := { p with em := 0, lq := none, ln := 0, lc := 0, corner := false, bt := [] }
def PS.core2 (p : PS) : PS := { p with corner := false, bt := [] }
theorem PS.core_of2 {p p' : PS} (h : p'.core2 = p.core2) : p'.core = p.core := by
  have := congrArg PS.core h
  simpa [PS.core, PS.core2] using this
def IIn (σ : Out) (b : Nat) (p : PS) (ts : List Inl) (opens : List Nat) (oq : Option Addr) (on oc : Nat) (L : List Chunk) (w : World) : Prop :=
  ∃ vs RM EM OM, Sl 1 ty_Inline p.lq p.ln p.lc vs RM ∧ InlsAt ts vs EM ∧ Sl 1 ty_int oq on oc (opens.map fun (n : Nat) => Value.int .i64 n) OM ∧ ts.length < 1073741824 ∧ Sat σ w (p.at b :: (RM ++ (EM ++ (OM ++ L))))
def sub (s : List UInt8) (i j : Nat) : List UInt8 := (s.take j).drop i
def emitM (s : List UInt8) (em i : Nat) (ts : List Inl) : List Inl := if em < i then ts ++ [.plain (sub s em i)] else ts
theorem emitI_ok {b e i : Nat} {p : PS} {ts : List Inl} {opens : List Nat} {oq : Option Addr} {on oc : Nat} (h : IIn σ b p ts opens oq on oc L w) (he : p.em = e) (hl : i ≤ p.s.length) (hn : ts.length < 1073741823)
    (hR : ∀ w p', p'.core = p.core → p'.bt = p.bt → p'.em = ((max e i : Nat) : Int) → IIn σ b p' (emitM p.s e i ts) opens oq on oc L w → R (.returned (.tuple #[])) w) :
    callE P i_parseState_emit #[.pointer (some ⟨b, 0, none⟩), .int .i64 i] R w := by
  obtain ⟨vs, RM, EM, OM, hS, hI, hO, hlen, h⟩ := h
  have hvl := hI.length
  by_cases hi : e < i
  · have h : Sat σ w (p.at b :: RM ++ (EM ++ (OM ++ L))) := h
    refine emit_ok (L := EM ++ (OM ++ L)) h ⟨hS, by omega⟩ he hi hl (by omega) fun w p' M' nb hp' hS' h => ?_
    refine hR w p' (by rw [hp']; rfl) (by rw [hp']) (by rw [hp']; show ((i : Nat) : Int) = _; congr 1; omega) ⟨_, M', EM ++ [plainC nb (sub p.s e i)], OM, hS'.1, ?_, hO, ?_, ?_⟩
    · unfold emitM; rw [if_pos hi]
      exact hI.append (InlsAt.one ⟨nb, [], _, rfl, rfl⟩)
    · unfold emitM; rw [if_pos hi]; simp; omega
    · have h : Sat σ w (p'.at b :: M' ++ (plainC nb (sub p.s e i) :: (EM ++ (OM ++ L)))) := h
      exact h.re (by intro _; simp only [List.append_eq, cnt_append, cnt_cons, cnt_nil] <;> omega)
  · refine emit_no h (by rw [he]; omega) fun w h => ?_
    refine hR w p rfl rfl (by rw [he]; congr 1; omega) ⟨vs, RM, EM, OM, hS, ?_, hO, ?_, h⟩
    · unfold emitM; rw [if_neg hi]; exact hI
    · unfold emitM; rw [if_neg hi]; exact hlen

def LeafOK (b : Nat) (p : PS) (s : List UInt8) (i : Nat) (fv : Value) (L0 : List Chunk) (res : Option (Inl × Nat × Nat)) (Q : PS → Prop) : Prop :=
  ∀ (σ : Out) (R : Ending → World → Prop) (L : List Chunk) (w : World), (∀ c ∈ L0, c ∈ L) → Sat σ w (p.at b :: L) →
    (match res with
      | none => ∀ w p' v x y, p'.core2 = p.core2 → Q p' → Sat σ w (p'.at b :: L) → R (.returned (.tuple #[v, .int .i64 x, .int .i64 y, .bool false])) w
      | some (t, st, en) => ∀ w p' v TM, p'.core2 = p.core2 → Q p' → InlAt t v TM → Sat σ w (p'.at b :: (TM ++ L)) → R (.returned (.tuple #[v, .int .i64 st, .int .i64 en, .bool true])) w) →
    enterE P (do let d ← Deferred.ofValue fv #[.pointer (some ⟨b, 0, none⟩), .string (bs s), .int .i64 i]; invoke d.target d.args) R w
def isFuncB (P : Program) (t : TypeId) : Bool := match P.underlying t with | some (.func _ _ _) => true | _ => false
theorem isFunc_out {P : Program} {t : TypeId} (h : isFuncB P t = true) : ∃ ps rs vr, P.underlying t = some (.func ps rs vr) := by
  unfold isFuncB at h
  split at h
  · rename_i a b c hd; exact ⟨_, _, _, hd⟩
  · cases h
theorem und_pf : isFuncB P ty_func_P_parseState_string_int_I_18a27a = true := by kernel_rfl
theorem neq_pf {x y : Operand} (k : FuncId) (f g : Array Value) (w : World) :
    (do eqGuard .neq ty_func_P_parseState_string_int_I_18a27a x y (.func (.func k) f g) .nilFunc; binOp .neq ty_func_P_parseState_string_int_I_18a27a (.func (.func k) f g) .nilFunc).run P w = .ok (.bool true) w := by
  obtain ⟨_, _, _, h⟩ := isFunc_out und_pf
  exact neq_func_nil h k f g w
theorem neq_pn {x y : Operand} (w : World) :
    (do eqGuard .neq ty_func_P_parseState_string_int_I_18a27a x y .nilFunc .nilFunc; binOp .neq ty_func_P_parseState_string_int_I_18a27a .nilFunc .nilFunc).run P w = .ok (.bool false) w := by
  obtain ⟨_, _, _, h⟩ := isFunc_out und_pf
  exact neq_nil_nil h w
def Inl.isOpen : Inl → Bool
  | .openP _ _ => true
  | _ => false
theorem Inl.ty_open {t : Inl} (h : t.isOpen = false) : t.ty ≠ ty_P_openPlain := by
  cases t <;> simp only [Inl.isOpen, reduceCtorEq] at h <;> (simp only [Inl.ty]; decide)
noncomputable def rowInt : Row P ty_S_int ty_int 1 8 :=
  ⟨(P.info? ty_int).getD default, ((P.info? ty_int).bind (·.zero)).getD default, by kernel_rfl, by kernel_rfl, by kernel_rfl, by kernel_rfl, by kernel_rfl, by kernel_rfl, by decide⟩
theorem fillN (n : Nat) : Instr.fill (fun i => some (i * 1, 1)) ((Array.range (1 * 1)).map (rowInt.z.cells[· % rowInt.z.cells.size]!)) [(0, .int .i64 n)] = some #[.int .i64 n] := by kernel_rfl
theorem inl_leaf {X : XI} {b i e st en : Nat} {p : PS} {ts : List Inl} {opens : List Nat} {oq : Option Addr} {on oc : Nat} {lo : Int} {bk : Bool} {f : FuncId} {fr cp : Array Value} {t : Inl} {L0 : List Chunk} {Q : PS → Prop}
    (h : IIn σ b p ts opens oq on oc L w) (hL0 : ∀ c ∈ L0, c ∈ L) (hf : LeafOK b p p.s i (.func (.func f) fr cp) L0 (some (t, st, en)) Q) (he : p.em = e) (hst : st ≤ p.s.length) (hs : p.s.length < 1000000000) (hn : ts.length < 1000000000) (hon : opens.length < 1000000000)
    (hK : ∀ w p' oq on oc, p'.core = p.core → p'.em = (en : Int) → (∃ p'', Q p'' ∧ p'.bt = p''.bt) → IIn σ b p' (emitM p.s e st ts ++ [t]) (if t.isOpen then opens ++ [(emitM p.s e st ts).length] else opens) oq on oc L w → X (some ⟨b, 0, none⟩) (bs p.s) oq on oc lo bk en w) :
    g_parseState_inline.k1 R X (some ⟨b, 0, none⟩) (bs p.s) oq on oc lo bk i (.func (.func f) fr cp) w := by
  refine ⟨_, _, neq_pf f fr cp w, br_true rfl ?_⟩
  obtain ⟨vs, RM, EM, OM, hS, hI, hO, hlen, h⟩ := h
  have hcl : ∀ c ∈ L0, c ∈ RM ++ (EM ++ (OM ++ L)) := fun c hc => List.mem_append_right _ (List.mem_append_right _ (List.mem_append_right _ (hL0 c hc)))
  refine hf σ _ (RM ++ (EM ++ (OM ++ L))) w hcl h fun w p1 v TM hp1 hq1 ht h => ⟨_, _, _, _, rfl, br_true rfl ?_⟩
  have hc1 := PS.core_of2 hp1
  have e1 : p1.lq = p.lq := by have := congrArg PS.lq hp1; exact this
  have e2 : p1.ln = p.ln := by have := congrArg PS.ln hp1; exact this
  have e3 : p1.lc = p.lc := by have := congrArg PS.lc hp1; exact this
  have e4 : p1.s = p.s := by have := congrArg PS.s hp1; exact this
  have e5 : p1.em = e := by have := congrArg PS.em hp1; rw [← he]; exact this
  have hI1 : IIn σ b p1 ts opens oq on oc (TM ++ L) w := ⟨vs, RM, EM, OM, by rw [e1, e2, e3]; exact hS, hI, hO, hlen, h.re (by intro _; simp only [List.append_eq, cnt_append, cnt_cons, cnt_nil] <;> omega)⟩
  refine emitI_ok hI1 e5 (by rw [e4]; exact hst) (by omega) fun w p2 hp2 hbt he2 h2 => ⟨rfl, ?_⟩
  rw [e4] at h2
  obtain ⟨pb, cs, ee, TM', rfl, rfl⟩ := ht.ptr
  have hc2 : p2.core = p.core := hp2.trans hc1
  have hs2 : p2.s = p.s := by have := congrArg PS.s hc2; exact this
  have elen : (emitM p.s e st ts).length ≤ ts.length + 1 := by unfold emitM; split <;> simp
  have fin : ∀ w oq on oc opens', opens' = (if t.isOpen then opens ++ [(emitM p.s e st ts).length] else opens) → IIn σ b p2 (emitM p.s e st ts) opens' oq on oc (((pb, cel cs ee) :: TM') ++ L) w →
      g_parseState_inline.k4 R X (some ⟨b, 0, none⟩) (bs p.s) oq on oc lo bk (ptrV t.ty pb) en w := by
    intro w oq on oc opens' ho h
    obtain ⟨vs, RM, EM, OM, hS, hI, hO, hlen, h⟩ := h
    have hvl := hI.length
    have hn0 := hS.1
    refine nilP_some ?_
    refine ⟨_, _, _, Sat.ld h (by first | assumption | (repeat (first | exact .head _ | apply List.Mem.tail))) (by exact rfl), ?_⟩
    have h : Sat σ w (RM ++ (p2.at b :: (EM ++ (OM ++ (((pb, cel cs ee) :: TM') ++ L))))) := h.re (by intro _; simp only [List.append_eq, cnt_append, cnt_cons, cnt_nil] <;> omega)
    refine Sat.app1 rowInl hS h (v := ptrV t.ty pb) rfl (by simp [ptrV, Value.cells, Value.oneCell']) (fillI _ _) (by omega) (by omega) (by decide) fun q' c' w' M' hS' h => ?_
    have h : Sat σ w' (p2.at b :: (M' ++ (EM ++ (OM ++ (((pb, cel cs ee) :: TM') ++ L))))) := h.re (by intro _; simp only [List.append_eq, cnt_append, cnt_cons, cnt_nil] <;> omega)
    refine nilP_some ?_
    refine Sat.st h (k := 0) rfl (Nat.le_of_ble_eq_true rfl) trivial (by first | (dsimp only [List.set]; exact rfl) | exact rfl) fun w h => ?_
    let p3 : PS := { p2 with lq := q', ln := p2.ln + 1, lc := c' }
    have h : Sat σ w (p3.at b :: (M' ++ (EM ++ (OM ++ (((pb, cel cs ee) :: TM') ++ L))))) := h
    refine skipTo_ok h fun w h => ⟨rfl, ?_⟩
    refine hK w { p3 with em := en } oq on oc (by rw [← hc2]; rfl) rfl ⟨p1, hq1, hbt⟩ ⟨_, M', EM ++ ((pb, cel cs ee) :: TM'), OM, hS', ?_, by rw [← ho]; exact hO, by simp; omega, h.re (by intro _; simp only [List.append_eq, cnt_append, cnt_cons, cnt_nil] <;> omega)⟩
    exact hI.append (InlsAt.one ht)
  cases hto : t.isOpen with
  | false =>
    refine ⟨_, _, w, ta_open_no (Inl.ty_open hto) w, br_false rfl ?_⟩
    exact fin w oq on oc opens (by rw [hto]; rfl) h2
  | true =>
    have hty : t.ty = ty_P_openPlain := by cases t <;> simp only [Inl.isOpen, reduceCtorEq] at hto; rfl
    have hta : (Instr.typeAssert (ptrV t.ty pb) ty_Inline ty_P_openPlain true).run P w = .ok (.tuple #[.pointer (some ⟨pb, 0, none⟩), .bool true]) w := by
      rw [hty]; exact ta_open_yes w
    refine ⟨_, _, w, hta, br_true rfl ?_⟩
    obtain ⟨vs, RM, EM, OM, hS, hI, hO, hlen, h⟩ := h2
    have hvl := hI.length
    have hn0 := hS.1
    have hol := hO.1
    rw [List.length_map] at hol
    refine nilP_some ?_
    refine ⟨_, _, _, Sat.ld h (by first | assumption | (repeat (first | exact .head _ | apply List.Mem.tail))) (by exact rfl), ?_⟩
    have h : Sat σ w (OM ++ (p2.at b :: (RM ++ (EM ++ (((pb, cel cs ee) :: TM') ++ L))))) := h.re (by intro _; simp only [List.append_eq, cnt_append, cnt_cons, cnt_nil] <;> omega)
    have hln : p2.ln = (emitM p.s e st ts).length := by omega
    rw [hln]
    generalize hm : (emitM p.s e st ts).length = m at fin elen hln ⊢
    refine Sat.app1 rowInt hO h (v := .int .i64 (m : Nat)) rfl (by simp [Value.cells, Value.oneCell']) (fillN m) (by omega) (by omega) (by decide) fun q' c' w' M' hO' h => ?_
    refine fin w' q' _ c' _ (by rw [hto] <;> rfl) ⟨vs, RM, EM, M', hS, hI, ?_, hlen, h.re (by intro _; simp only [List.append_eq, cnt_append, cnt_cons, cnt_nil] <;> omega)⟩
    rw [if_pos rfl, List.map_append]; exact hO'
theorem inl_k5 {X : XI} {b i : Nat} {s : List UInt8} {oq : Option Addr} {on oc : Nat} {lo : Int} {bk : Bool} (hi : i < s.length) (hs : s.length < 4611686018427387904) (hc : s[i] ≠ 93 ∨ on = 0)
    (hK : X (some ⟨b, 0, none⟩) (bs s) oq on oc lo bk ((i + 1 : Nat) : Int) w) : g_parseState_inline.k5 R X (some ⟨b, 0, none⟩) (bs s) oq on oc lo bk i w := by
  refine ⟨by omega, by simp; omega, ?_⟩
  refine br_false ?_ ?_
  · rw [bt_beq hi 93 93 rfl]
    rcases hc with hc | hc
    · simp [hc]
    · simp [hc]
  · rw [i64_inc (by omega)]; exact hK
theorem inl_none {X : XI} {b i : Nat} {s : List UInt8} {oq : Option Addr} {on oc : Nat} {lo : Int} {bk : Bool} (hK : g_parseState_inline.k5 R X (some ⟨b, 0, none⟩) (bs s) oq on oc lo bk i w) :
    g_parseState_inline.k1 R X (some ⟨b, 0, none⟩) (bs s) oq on oc lo bk i .nilFunc w :=
  ⟨_, _, neq_pn w, br_false rfl hK⟩
end Go.Proofs.YtejiaegiijokcaaGreatDoor


set_option linter.unusedVariables false
namespace Go.Proofs.YtejiaegiijokcaaGreatDoor
open Go.Proofs Go.IntWalk Go.RowKit
variable {σ : Out} {w : World} {L L' : List Chunk} {R : Ending → World → Prop}
def EmphOK (ts ts' : List Inl) : Prop :=
  ∀ (σ : Out) (R : Ending → World → Prop) (pq q : Option Addr) (n c : Nat) vs RM EM L w, Sl 1 ty_Inline q n c vs RM → InlsAt ts vs EM → n < 1073741823 → Sat σ w (RM ++ (EM ++ L)) →
    (∀ w q' n' c' vs' RM' EM', Sl 1 ty_Inline q' n' c' vs' RM' → n' ≤ n → InlsAt ts' vs' EM' → Sat σ w (RM' ++ (EM' ++ L)) → R (.returned (.slice q' n' c')) w) →
    callE P i_parseState_emph #[.pointer pq, .slice q 0 c, .slice q n c] R w
theorem autoOff_ok {b pb : Nat} {p : PS} {o : Opt} {q : Option Addr} {n c : Nat} (hpz : p.pz = some ⟨pb, 0, none⟩) (hp : p.at b ∈ L) (ho : o.at pb ∈ L) (hoff : o.auto = false) (h : Sat σ w L) (hR : R (.returned (.slice q n c)) w) :
    callE P i_parseState_autoLinkText #[.pointer (some ⟨b, 0, none⟩), .slice q n c] R w := by
  refine g_parseState_autoLinkText.sound ?_
  refine nilP_some ⟨_, by rw [← hpz]; exact Sat.ld h hp rfl, nilP_some ?_⟩
  simp only [Addr.add_lit, Nat.zero_add]
  exact ⟨o.auto, Sat.ld h ho rfl, br_true (by rw [hoff]; rfl) hR⟩
def AutoOK (o : Opt) (ts ts' : List Inl) : Prop :=
  ∀ (σ : Out) (R : Ending → World → Prop) (b pb : Nat) (p : PS) (q : Option Addr) (n c : Nat) (vs : List Value) (RM EM L : List Chunk) (w : World), p.pz = some ⟨pb, 0, none⟩ → p.at b ∈ L → o.at pb ∈ L → Sl 1 ty_Inline q n c vs RM → n < 1073741824 → InlsAt ts vs EM → Sat σ w (RM ++ (EM ++ L)) →
    (∀ w q' n' c' vs' RM' EM', Sl 1 ty_Inline q' n' c' vs' RM' → n' < 1073741824 → InlsAt ts' vs' EM' → Sat σ w (RM' ++ (EM' ++ L)) → R (.returned (.slice q' n' c')) w) →
    callE P i_parseState_autoLinkText #[.pointer (some ⟨b, 0, none⟩), .slice q n c] R w
theorem autoOK_off {o : Opt} {ts : List Inl} (hoff : o.auto = false) : AutoOK o ts ts := fun σ R b pb p q n c vs RM EM L w hpz hp ho hS hn hI h hR =>
  autoOff_ok hpz (List.mem_append_right _ (List.mem_append_right _ hp)) (List.mem_append_right _ (List.mem_append_right _ ho)) hoff h (hR w q n c vs RM EM hS hn hI h)
theorem inl_endA {X : XI} {b pb e : Nat} {p : PS} {o : Opt} {ts ts' ts2 : List Inl} {opens : List Nat} {oq : Option Addr} {on oc : Nat} {lo : Int} {bk : Bool} (h : IIn σ b p ts opens oq on oc L w) (he : p.em = e) (hs : p.s.length < 1000000000)
    (hn : ts.length < 1000000000) (hpz : p.pz = some ⟨pb, 0, none⟩) (ho : o.at pb ∈ L) (hE : EmphOK (emitM p.s e p.s.length ts) ts') (hpos : ∀ t ∈ ts', ∀ s, t.plain? = some s → s ≠ []) (hb : plen ts' < 1073741824) (hA : AutoOK o (mergeM ts') ts2)
    (hR : ∀ w (p' : PS) q n c vs RM EM, p'.core = p.core → Sl 1 ty_Inline q n c vs RM → n < 1073741824 → InlsAt ts2 vs EM → Sat σ w (p'.at b :: (RM ++ (EM ++ L))) → R (.returned (.slice q n c)) w) :
    g_parseState_inline.bl1 R X (some ⟨b, 0, none⟩) (bs p.s) oq on oc lo bk (p.s.length : Nat) w := by
  have elen : (emitM p.s e p.s.length ts).length ≤ ts.length + 1 := by unfold emitM; split <;> simp
  refine br_false (by simp) ?_
  rw [bs_size]
  refine emitI_ok h he (Nat.le_refl _) (by omega) fun w p1 hp1 _ _ h => ⟨rfl, ?_⟩
  obtain ⟨vs, RM, EM, OM, hS, hI, hO, hlen, h⟩ := h
  have hvl := hI.length
  have hn0 := hS.1
  have hnc := hS.2.1
  have c1 : p1.pz = p.pz := by have := congrArg PS.pz hp1; exact this
  refine Sat.tk h fun w h => ?_
  refine nilP_some (nilP_some ?_)
  refine ⟨_, _, _, Sat.ld h (by first | assumption | (repeat (first | exact .head _ | apply List.Mem.tail))) (by exact rfl), ?_⟩
  refine ⟨_, _, _, fun w => sliceT rowInl.ht rowInl.hi _ _ _ 0 (by omega) w, ?_⟩
  refine ⟨_, _, _, Sat.ld h (by first | assumption | (repeat (first | exact .head _ | apply List.Mem.tail))) (by exact rfl), ?_⟩
  have h : Sat σ w (RM ++ (EM ++ (p1.at b :: (OM ++ L)))) := h.re (by intro _; simp only [List.append_eq, cnt_append, cnt_cons, cnt_nil] <;> omega)
  refine hE σ _ _ p1.lq p1.ln p1.lc vs RM EM _ w hS hI (by omega) h fun w q' n' c' vs' RM' EM' hS' hnn hI' h => ⟨_, _, _, rfl, nilP_some ?_⟩
  have h : Sat σ w (p1.at b :: (RM' ++ (EM' ++ (OM ++ L)))) := h.re (by intro _; simp only [List.append_eq, cnt_append, cnt_cons, cnt_nil] <;> omega)
  refine Sat.st h (k := 0) rfl (Nat.le_of_ble_eq_true rfl) trivial (by first | (dsimp only [List.set]; exact rfl) | exact rfl) fun w h => ?_
  let p2 : PS := { p1 with lq := q', ln := n', lc := c' }
  have h : Sat σ w (p2.at b :: (RM' ++ (EM' ++ (OM ++ L)))) := h
  refine nilP_some ?_
  refine ⟨_, _, _, Sat.ld h (by first | assumption | (repeat (first | exact .head _ | apply List.Mem.tail))) (by exact rfl), ?_⟩
  have h : Sat σ w (RM' ++ (EM' ++ (p2.at b :: (OM ++ L)))) := h.re (by intro _; simp only [List.append_eq, cnt_append, cnt_cons, cnt_nil] <;> omega)
  refine mergePlain_ok (n := n') hS' hI' hpos hb (by omega) h fun w n2 vs2 RM2 EM2 hS2 hn2 hI2 h => ⟨_, _, _, rfl, nilP_some ?_⟩
  have h : Sat σ w (p2.at b :: (RM2 ++ (EM2 ++ (OM ++ L)))) := h.re (by intro _; simp only [List.append_eq, cnt_append, cnt_cons, cnt_nil] <;> omega)
  refine Sat.st h (k := 0) rfl (Nat.le_of_ble_eq_true rfl) trivial (by first | (dsimp only [List.set]; exact rfl) | exact rfl) fun w h => ?_
  let p3 : PS := { p1 with lq := q', ln := n2, lc := c' }
  have h : Sat σ w (p3.at b :: (RM2 ++ (EM2 ++ (OM ++ L)))) := h
  refine nilP_some ?_
  refine ⟨_, _, _, Sat.ld h (by first | assumption | (repeat (first | exact .head _ | apply List.Mem.tail))) (by exact rfl), ?_⟩
  have h : Sat σ w (RM2 ++ (EM2 ++ (p3.at b :: (OM ++ L)))) := h.re (by intro _; simp only [List.append_eq, cnt_append, cnt_cons, cnt_nil] <;> omega)
  refine hA σ _ b pb p3 q' n2 c' vs2 RM2 EM2 _ w (by rw [← hpz, ← c1]) (.head _) (.tail _ (List.mem_append_right _ ho)) hS2 (by omega) hI2 h fun w q3 n3 c3 vs3 RM3 EM3 hS3 hn3 hI3 h => ⟨_, _, _, rfl, nilP_some ?_⟩
  have h : Sat σ w (p3.at b :: (RM3 ++ (EM3 ++ (OM ++ L)))) := h.re (by intro _; simp only [List.append_eq, cnt_append, cnt_cons, cnt_nil] <;> omega)
  refine Sat.st h (k := 0) rfl (Nat.le_of_ble_eq_true rfl) trivial (by first | (dsimp only [List.set]; exact rfl) | exact rfl) fun w h => ?_
  refine nilP_some ?_
  refine ⟨_, _, _, Sat.ld h (by first | assumption | (repeat (first | exact .head _ | apply List.Mem.tail))) (by exact rfl), ?_⟩
  let p4 : PS := { p1 with lq := q3, ln := n3, lc := c3 }
  have h : Sat σ w (p4.at b :: (RM3 ++ (EM3 ++ (OM ++ L)))) := h
  exact hR w p4 q3 n3 c3 vs3 RM3 EM3 (by rw [← hp1]; rfl) hS3 hn3 hI3 (h.less OM (by intro _; simp only [List.append_eq, cnt_append, cnt_cons, cnt_nil] <;> omega))
theorem inl_end {X : XI} {b pb e : Nat} {p : PS} {o : Opt} {ts ts' : List Inl} {opens : List Nat} {oq : Option Addr} {on oc : Nat} {lo : Int} {bk : Bool} (h : IIn σ b p ts opens oq on oc L w) (he : p.em = e) (hs : p.s.length < 1000000000)
    (hn : ts.length < 1000000000) (hpz : p.pz = some ⟨pb, 0, none⟩) (ho : o.at pb ∈ L) (hoff : o.auto = false) (hE : EmphOK (emitM p.s e p.s.length ts) ts') (hpos : ∀ t ∈ ts', ∀ s, t.plain? = some s → s ≠ []) (hb : plen ts' < 1073741824)
    (hR : ∀ w (p' : PS) q n c vs RM EM, p'.core = p.core → Sl 1 ty_Inline q n c vs RM → n < 1073741824 → InlsAt (mergeM ts') vs EM → Sat σ w (p'.at b :: (RM ++ (EM ++ L))) → R (.returned (.slice q n c)) w) :
    g_parseState_inline.bl1 R X (some ⟨b, 0, none⟩) (bs p.s) oq on oc lo bk (p.s.length : Nat) w :=
  inl_endA h he hs hn hpz ho hE hpos hb (autoOK_off hoff) hR
theorem inl_begin {b : Nat} {p : PS} {raw : List UInt8} (h : Sat σ w (p.at b :: L)) (hl : raw.length < 4611686018427387904)
    (hK : ∀ w, IIn σ b { p with s := trimLR isST raw, em := 0, lq := none, ln := 0, lc := 0 } [] [] none 0 0 L w → g_parseState_inline.l1 R (some ⟨b, 0, none⟩) (bs (trimLR isST raw)) none 0 0 0 false 0 w) :
    callE P i_parseState_inline #[.pointer (some ⟨b, 0, none⟩), .string (bs raw)] R w := by
  refine g_parseState_inline.sound ?_
  refine trimSpaceTab_ok hl ⟨_, rfl, nilP_some ?_⟩
  refine Sat.st h (k := 0) rfl (Nat.le_of_ble_eq_true rfl) trivial (by first | (dsimp only [List.set]; exact rfl) | exact rfl) fun w h => ?_
  refine nilP_some ?_
  refine Sat.st h (k := 0) rfl (Nat.le_of_ble_eq_true rfl) trivial (by first | (dsimp only [List.set]; exact rfl) | exact rfl) fun w h => ?_
  refine nilP_some ?_
  refine Sat.st h (k := 0) rfl (Nat.le_of_ble_eq_true rfl) trivial (by first | (dsimp only [List.set]; exact rfl) | exact rfl) fun w h => ?_
  exact hK w ⟨[], [], [], [], Sl.nil _ _, ⟨rfl, rfl⟩, Sl.nil _ _, by simp, h⟩
end Go.Proofs.YtejiaegiijokcaaGreatDoor


set_option linter.unusedVariables false
set_option maxRecDepth 20000
namespace Go.Proofs.YtejiaegiijokcaaGreatDoor
open Go.Proofs
namespace g_Parser_Parse
noncomputable def body : Code := bodyOf Tryz.f32
end g_Parser_Parse
def g_Parser_Parse (R : EP) (x0 : OA) (x1 : BA) (w : World) : Prop :=
 callE P i_Parser_parse #[.pointer x0, .string x1] (fun e w2 => ∃ (r1_0 : OA), ∃ (r1_1 : Bool), e = .returned (.tuple #[.pointer r1_0, .bool r1_1]) ∧
 R (.returned (.pointer r1_0)) w2) w

noncomputable def g_Parser_Parse.ac (R : EP) : AC :=
  (.leaf (sel [] g_Parser_Parse.body))
theorem g_Parser_Parse.good (R : EP) : Good P 14 (g_Parser_Parse.ac R) (QF P [.tmp 4] R) :=
  trivial
theorem g_Parser_Parse.eq (R : EP) (x0 : OA) (x1 : BA) (w : World) : g_Parser_Parse R x0 x1 w = vcA P 14 (g_Parser_Parse.ac R) (QF P [.tmp 4] R) (fr0 [.pointer x0, .string x1]) w := by kernel_rfl
theorem g_Parser_Parse.sound {R : EP} {x0 : OA} {x1 : ByteArray} {w : World} (h : g_Parser_Parse R x0 x1 w) : callE P i_Parser_Parse #[.pointer x0, .string x1] R w :=
  callE_fin (c := g_Parser_Parse.body) Tryz.func32 Tryz.call32 (by kernel_rfl) (by kernel_rfl) (by kernel_rfl) (by kernel_rfl) (by kernel_rfl) (g_Parser_Parse.good R) (g_Parser_Parse.eq R x0 x1 w) h
namespace g_impl_HTML
noncomputable def body : Code := bodyOf Tryz.f14
end g_impl_HTML
def g_impl_HTML (R : EP) (x0_0 : Bool) (x0_1 : Bool) (x0_2 : Bool) (x0_3 : Bool) (x0_4 : Bool) (x0_5 : Bool) (x0_6 : Bool) (x0_7 : Bool) (x0_8 : Bool) (x0_9 : Bool) (x1 : BA) (w : World) : Prop :=
 box w #[.bool x0_0, .bool x0_1, .bool x0_2, .bool x0_3, .bool x0_4, .bool x0_5, .bool x0_6, .bool x0_7, .bool x0_8, .bool x0_9] ty_impl_Options fun b1 w2 =>
 ∃ (v3 : Bool), w2.cell? ⟨b1, 0, none⟩ = some (.bool v3) ∧
 ∃ (v4 : Bool), w2.cell? ⟨b1, 1, none⟩ = some (.bool v4) ∧
 ∃ (v5 : Bool), w2.cell? ⟨b1, 2, none⟩ = some (.bool v5) ∧
 ∃ (v6 : Bool), w2.cell? ⟨b1, 3, none⟩ = some (.bool v6) ∧
 ∃ (v7 : Bool), w2.cell? ⟨b1, 4, none⟩ = some (.bool v7) ∧
 ∃ (v8 : Bool), w2.cell? ⟨b1, 5, none⟩ = some (.bool v8) ∧
 ∃ (v9 : Bool), w2.cell? ⟨b1, 6, none⟩ = some (.bool v9) ∧
 ∃ (v10 : Bool), w2.cell? ⟨b1, 7, none⟩ = some (.bool v10) ∧
 ∃ (v11 : Bool), w2.cell? ⟨b1, 8, none⟩ = some (.bool v11) ∧
 ∃ (v12 : Bool), w2.cell? ⟨b1, 9, none⟩ = some (.bool v12) ∧
 callE P i_impl_parser #[.agg #[.bool v3, .bool v4, .bool v5, .bool v6, .bool v7, .bool v8, .bool v9, .bool v10, .bool v11, .bool v12]] (fun e w14 => ∃ (r13 : OA), e = .returned (.pointer r13) ∧
 callE P i_Parser_Parse #[.pointer r13, .string x1] (fun e w16 => ∃ (r15 : OA), e = .returned (.pointer r15) ∧
 callE P i_ToHTML #[.iface ty_P_Document (.pointer r15)] (fun e w18 => ∃ (r17 : BA), e = .returned (.string r17) ∧
 R (.returned (.string r17)) w18) w16) w14) w2

noncomputable def g_impl_HTML.ac (R : EP) : AC :=
  (.leaf (sel [] g_impl_HTML.body))
theorem g_impl_HTML.good (R : EP) : Good P 11 (g_impl_HTML.ac R) (QF P [.tmp 4] R) :=
  trivial
theorem g_impl_HTML.eq (R : EP) (x0_0 : Bool) (x0_1 : Bool) (x0_2 : Bool) (x0_3 : Bool) (x0_4 : Bool) (x0_5 : Bool) (x0_6 : Bool) (x0_7 : Bool) (x0_8 : Bool) (x0_9 : Bool) (x1 : BA) (w : World) : g_impl_HTML R x0_0 x0_1 x0_2 x0_3 x0_4 x0_5 x0_6 x0_7 x0_8 x0_9 x1 w = vcA P 11 (g_impl_HTML.ac R) (QF P [.tmp 4] R) (fr0 [.agg #[.bool x0_0, .bool x0_1, .bool x0_2, .bool x0_3, .bool x0_4, .bool x0_5, .bool x0_6, .bool x0_7, .bool x0_8, .bool x0_9], .string x1]) w := by kernel_rfl
theorem g_impl_HTML.sound {R : EP} {x0_0 : Bool} {x0_1 : Bool} {x0_2 : Bool} {x0_3 : Bool} {x0_4 : Bool} {x0_5 : Bool} {x0_6 : Bool} {x0_7 : Bool} {x0_8 : Bool} {x0_9 : Bool} {x1 : ByteArray} {w : World} (h : g_impl_HTML R x0_0 x0_1 x0_2 x0_3 x0_4 x0_5 x0_6 x0_7 x0_8 x0_9 x1 w) : callE P i_impl_HTML #[.agg #[.bool x0_0, .bool x0_1, .bool x0_2, .bool x0_3, .bool x0_4, .bool x0_5, .bool x0_6, .bool x0_7, .bool x0_8, .bool x0_9], .string x1] R w :=
  callE_fin (c := g_impl_HTML.body) Tryz.func14 Tryz.call14 (by kernel_rfl) (by kernel_rfl) (by kernel_rfl) (by kernel_rfl) (by kernel_rfl) (g_impl_HTML.good R) (g_impl_HTML.eq R x0_0 x0_1 x0_2 x0_3 x0_4 x0_5 x0_6 x0_7 x0_8 x0_9 x1 w) h
namespace g_impl_parser
noncomputable def body : Code := bodyOf Tryz.f31
end g_impl_parser
def g_impl_parser (R : EP) (x0_0 : Bool) (x0_1 : Bool) (x0_2 : Bool) (x0_3 : Bool) (x0_4 : Bool) (x0_5 : Bool) (x0_6 : Bool) (x0_7 : Bool) (x0_8 : Bool) (x0_9 : Bool) (w : World) : Prop :=
 box w #[.bool x0_0, .bool x0_1, .bool x0_2, .bool x0_3, .bool x0_4, .bool x0_5, .bool x0_6, .bool x0_7, .bool x0_8, .bool x0_9] ty_impl_Options fun b1 w2 =>
 ∃ (v3 : Bool), w2.cell? ⟨b1, 8, none⟩ = some (.bool v3) ∧
 ∃ (v4 : Bool), w2.cell? ⟨b1, 0, none⟩ = some (.bool v4) ∧
 ∃ (v5 : Bool), w2.cell? ⟨b1, 1, none⟩ = some (.bool v5) ∧
 ∃ (v6 : Bool), w2.cell? ⟨b1, 2, none⟩ = some (.bool v6) ∧
 ∃ (v7 : Bool), w2.cell? ⟨b1, 3, none⟩ = some (.bool v7) ∧
 ∃ (v8 : Bool), w2.cell? ⟨b1, 4, none⟩ = some (.bool v8) ∧
 ∃ (v9 : Bool), w2.cell? ⟨b1, 9, none⟩ = some (.bool v9) ∧
 ∃ (v10 : Bool), w2.cell? ⟨b1, 5, none⟩ = some (.bool v10) ∧
 ∃ (v11 : Bool), w2.cell? ⟨b1, 6, none⟩ = some (.bool v11) ∧
 ∃ (v12 : Bool), w2.cell? ⟨b1, 7, none⟩ = some (.bool v12) ∧
 box w2 #[.bool v3, .bool v4, .bool v5, .bool v6, .bool v7, .bool v8, .bool v9, .bool v10, .bool v11, .bool v12] ty_Parser fun b13 w14 =>
 R (.returned (.pointer (some ⟨b13, 0, none⟩))) w14

noncomputable def g_impl_parser.ac (R : EP) : AC :=
  (.leaf (sel [] g_impl_parser.body))
theorem g_impl_parser.good (R : EP) : Good P 25 (g_impl_parser.ac R) (QF P [.tmp 2] R) :=
  trivial
theorem g_impl_parser.eq (R : EP) (x0_0 : Bool) (x0_1 : Bool) (x0_2 : Bool) (x0_3 : Bool) (x0_4 : Bool) (x0_5 : Bool) (x0_6 : Bool) (x0_7 : Bool) (x0_8 : Bool) (x0_9 : Bool) (w : World) : g_impl_parser R x0_0 x0_1 x0_2 x0_3 x0_4 x0_5 x0_6 x0_7 x0_8 x0_9 w = vcA P 25 (g_impl_parser.ac R) (QF P [.tmp 2] R) (fr0 [.agg #[.bool x0_0, .bool x0_1, .bool x0_2, .bool x0_3, .bool x0_4, .bool x0_5, .bool x0_6, .bool x0_7, .bool x0_8, .bool x0_9]]) w := by kernel_rfl
theorem g_impl_parser.sound {R : EP} {x0_0 : Bool} {x0_1 : Bool} {x0_2 : Bool} {x0_3 : Bool} {x0_4 : Bool} {x0_5 : Bool} {x0_6 : Bool} {x0_7 : Bool} {x0_8 : Bool} {x0_9 : Bool} {w : World} (h : g_impl_parser R x0_0 x0_1 x0_2 x0_3 x0_4 x0_5 x0_6 x0_7 x0_8 x0_9 w) : callE P i_impl_parser #[.agg #[.bool x0_0, .bool x0_1, .bool x0_2, .bool x0_3, .bool x0_4, .bool x0_5, .bool x0_6, .bool x0_7, .bool x0_8, .bool x0_9]] R w :=
  callE_fin (c := g_impl_parser.body) Tryz.func31 Tryz.call31 (by kernel_rfl) (by kernel_rfl) (by kernel_rfl) (by kernel_rfl) (by kernel_rfl) (g_impl_parser.good R) (g_impl_parser.eq R x0_0 x0_1 x0_2 x0_3 x0_4 x0_5 x0_6 x0_7 x0_8 x0_9 w) h
namespace g_laws_only
noncomputable def body : Code := bodyOf Tryz.f17
def bl1 (R : EP) (Xa : BA → BA → Int → Int → WP) (x0 : BA) (x1 : BA) (x13 : Int) (x14 : Int) (w : World) : Prop :=
 br (decide (x14 < x13))
 (0 ≤ x14 ∧ x14 < (x0.size : Int) ∧
 callE P i_strings_IndexByte #[.string x1, .int .u8 (bt x0 x14)] (fun e w2 => ∃ (r1 : Int), e = .returned (.int .i64 r1) ∧
 br (decide (r1 < 0))
 (R (.returned (.bool false)) w2)
 (Xa x0 x1 x13 (IntKind.i64.wrap (x14 + 1)) w2)) w)
 (R (.returned (.bool true)) w)
def l1 (R : EP) (x0 : BA) (x1 : BA) (x13 : Int) (x14 : Int) (w : World) : Prop :=
  ∀ X : BA → BA → Int → Int → WP, (∀ x0 x1 x13 x14 w, bl1 R X x0 x1 x13 x14 w → X x0 x1 x13 x14 w) → X x0 x1 x13 x14 w

noncomputable def al1 (R : EP) (Xa : BA → BA → Int → Int → WP) : AC :=
  (.leaf (sel [1, 1, 0, 1, 0, 0] body))
end g_laws_only
def g_laws_only (R : EP) (x0 : BA) (x1 : BA) (x2 : Int) (w : World) : Prop :=
 br (decide ((x0.size : Int) > x2))
 (R (.returned (.bool false)) w)
 (g_laws_only.l1 R x0 x1 (x0.size : Int) 0 w)

noncomputable def g_laws_only.ac (R : EP) : AC :=
  (.seq (.leaf (sel [0] g_laws_only.body)) (.seq (.leaf (sel [1, 0] g_laws_only.body)) (.seq (.seq (.leaf (sel [1, 1, 0, 0] g_laws_only.body)) (.block 0 (.loop (leaf [(0, .s .str), (1, .s .str), (13, .s (.int .i64)), (14, .s (.int .i64))] (g_laws_only.l1 R)) (sel [1, 1, 0, 1, 0, 0] g_laws_only.body)))) (.leaf (sel [1, 1, 1] g_laws_only.body)))))
theorem g_laws_only.good (R : EP) : Good P 24 (g_laws_only.ac R) (QF P [.tmp 6] R) :=
  ⟨trivial, ⟨trivial, ⟨⟨trivial, (loopG (g_laws_only.al1 R) (g_laws_only.bl1 R) (fun _ => by kernel_rfl) (fun Xa => trivial) (fun Xa => by intro x0 x1 x13 x14 ρ w; kernel_rfl) (fun X h _ _ _ _ _ g => g X h))⟩, trivial⟩⟩⟩
theorem g_laws_only.eq (R : EP) (x0 : BA) (x1 : BA) (x2 : Int) (w : World) : g_laws_only R x0 x1 x2 w = vcA P 24 (g_laws_only.ac R) (QF P [.tmp 6] R) (fr0 [.string x0, .string x1, .int .i64 x2]) w := by kernel_rfl
theorem g_laws_only.sound {R : EP} {x0 : ByteArray} {x1 : ByteArray} {x2 : Int} {w : World} (h : g_laws_only R x0 x1 x2 w) : callE P i_laws_only #[.string x0, .string x1, .int .i64 x2] R w :=
  callE_fin (c := g_laws_only.body) Tryz.func17 Tryz.call17 (by kernel_rfl) (by kernel_rfl) (by kernel_rfl) (by kernel_rfl) (by kernel_rfl) (g_laws_only.good R) (g_laws_only.eq R x0 x1 x2 w) h
namespace g_Parser_parse
noncomputable def body : Code := bodyOf Tryz.f43
def k3 (R : EP) (Xa : OA → BA → Nat → WP) (x0 : OA) (x1 : BA) (x6 : Nat) (x7 : BA) (x10 : Int) (w : World) : Prop :=
 ∃ (v33 : Int), w.cell? ⟨x6, 3, none⟩ = some (.int .i64 v33) ∧
 stV w ⟨x6, 3, none⟩ (.int .i64 (IntKind.i64.wrap (v33 + 1))) fun w34 =>
 callE P i_parseState_addLine #[.pointer (some ⟨x6, 0, none⟩), .agg #[.int .i64 0, .int .i64 0, .int .i64 0, .string x7, .int .u8 x10]] (fun e w36 => e = .returned (.tuple #[]) ∧
 Xa x0 x1 x6 w36) w34

def k4 (R : EP) (x6 : Nat) (w : World) : Prop :=
 tk w fun w41 =>
 ∃ (v42 : OA), w41.cell? ⟨x6, 1, none⟩ = some (.pointer v42) ∧
 ∃ (v43 : Bool), w41.cell? ⟨x6, 6, none⟩ = some (.bool v43) ∧
 R (.returned (.tuple #[.pointer v42, .bool v43])) w41

def k2 (R : EP) (Xa : OA → BA → Nat → WP) (x0 : OA) (x1 : BA) (x6 : Nat) (x8 : Int) (x9 : Int) (x10 : Int) (x34 : Bool) (w : World) : Prop :=
 br x34
 (0 ≤ x9 ∧ x9 ≤ (x1.size : Int) ∧
 br (x8 == (IntKind.i64.wrap (x9 + 1)))
 (0 ≤ (IntKind.i64.wrap (x9 + 2)) ∧ (IntKind.i64.wrap (x9 + 2)) ≤ (x1.size : Int) ∧
 k3 R Xa x0 (x1.extract (Int.toNat (IntKind.i64.wrap (x9 + 2))) x1.size) x6 (x1.extract 0 (Int.toNat x9)) 23 w)
 (0 ≤ (IntKind.i64.wrap (x9 + 1)) ∧ (IntKind.i64.wrap (x9 + 1)) ≤ (x1.size : Int) ∧
 k3 R Xa x0 (x1.extract (Int.toNat (IntKind.i64.wrap (x9 + 1))) x1.size) x6 (x1.extract 0 (Int.toNat x9)) 13 w))
 (br (decide (x8 ≥ 0))
 (tk w fun w21 =>
 0 ≤ x8 ∧ x8 ≤ (x1.size : Int) ∧
 0 ≤ (IntKind.i64.wrap (x8 + 1)) ∧ (IntKind.i64.wrap (x8 + 1)) ≤ (x1.size : Int) ∧
 k3 R Xa x0 (x1.extract (Int.toNat (IntKind.i64.wrap (x8 + 1))) x1.size) x6 (x1.extract 0 (Int.toNat x8)) 10 w21)
 (k3 R Xa x0 (ByteArray.mk #[]) x6 x1 x10 w))

def bl3 (R : EP) (Xb : Nat → OA → Nat → Nat → Int → Int → WP) (x6 : Nat) (x101q : OA) (x101n : Nat) (x101c : Nat) (x102 : Int) (x103 : Int) (w : World) : Prop :=
 br (decide (x103 < x102))
 (0 ≤ x103 ∧ x103 < (x101n : Int) ∧
 nilP x101q fun a37 =>
 ∃ (v38 : OA), w.cell? (a37.add (Int.toNat x103 * 1)) = some (.pointer v38) ∧
 callE P i_parseState_taskList #[.pointer (some ⟨x6, 0, none⟩), .pointer v38] (fun e w40 => e = .returned (.tuple #[]) ∧
 Xb x6 x101q x101n x101c x102 (IntKind.i64.wrap (x103 + 1)) w40) w)
 (k4 R x6 w)
def l3 (R : EP) (x6 : Nat) (x101q : OA) (x101n : Nat) (x101c : Nat) (x102 : Int) (x103 : Int) (w : World) : Prop :=
  ∀ X : Nat → OA → Nat → Nat → Int → Int → WP, (∀ x6 x101q x101n x101c x102 x103 w, bl3 R X x6 x101q x101n x101c x102 x103 w → X x6 x101q x101n x101c x102 x103 w) → X x6 x101q x101n x101c x102 x103 w

noncomputable def al3 (R : EP) (Xb : Nat → OA → Nat → Nat → Int → Int → WP) : AC :=
  (.leaf (sel [1, 1, 1, 1, 1, 1, 1, 1, 1, 0, 1, 0, 1, 0, 0] body))
def bl2 (R : EP) (Xc : OA → Nat → OA → Nat → Nat → Int → Int → WP) (x0 : OA) (x6 : Nat) (x81q : OA) (x81n : Nat) (x81c : Nat) (x82 : Int) (x83 : Int) (w : World) : Prop :=
 br (decide (x83 < x82))
 (0 ≤ x83 ∧ x83 < (x81n : Int) ∧
 nilP x81q fun a22 =>
 ∃ (v23 : OA), w.cell? (a22.add (Int.toNat x83 * 1)) = some (.pointer v23) ∧
 nilP v23 fun a24 =>
 ∃ (v25 : BA), w.cell? (a24.add 3) = some (.string v25) ∧
 callE P i_parseState_inline #[.pointer (some ⟨x6, 0, none⟩), .string v25] (fun e w27 => ∃ (r26q : OA), ∃ (r26n : Nat), ∃ (r26c : Nat), e = .returned (.slice r26q r26n r26c) ∧
 nilP v23 fun a28 =>
 stV w27 ((a28.add 2).add 0) (.slice r26q r26n r26c) fun w29 =>
 Xc x0 x6 x81q x81n x81c x82 (IntKind.i64.wrap (x83 + 1)) w29) w)
 (nilP x0 fun a30 =>
 ∃ (v31 : Bool), w.cell? (a30.add 2) = some (.bool v31) ∧
 br v31
 (∃ (v32q : OA), ∃ (v32n : Nat), ∃ (v32c : Nat), w.cell? ⟨x6, 10, none⟩ = some (.slice v32q v32n v32c) ∧
 l3 R x6 v32q v32n v32c (v32n : Int) 0 w)
 (k4 R x6 w))
def l2 (R : EP) (x0 : OA) (x6 : Nat) (x81q : OA) (x81n : Nat) (x81c : Nat) (x82 : Int) (x83 : Int) (w : World) : Prop :=
  ∀ X : OA → Nat → OA → Nat → Nat → Int → Int → WP, (∀ x0 x6 x81q x81n x81c x82 x83 w, bl2 R X x0 x6 x81q x81n x81c x82 x83 w → X x0 x6 x81q x81n x81c x82 x83 w) → X x0 x6 x81q x81n x81c x82 x83 w

noncomputable def al2 (R : EP) (Xc : OA → Nat → OA → Nat → Nat → Int → Int → WP) : AC :=
  (.leaf (sel [1, 1, 1, 1, 1, 1, 1, 1, 0, 1, 0, 0] body))
def bl1 (R : EP) (Xa : OA → BA → Nat → WP) (x0 : OA) (x1 : BA) (x6 : Nat) (w : World) : Prop :=
 br (!(x1.toList == (ByteArray.mk #[]).toList))
 (callE P i_zzIndex #[.string x1, .string (ByteArray.mk #[10])] (fun e w15 => ∃ (r14 : Int), e = .returned (.int .i64 r14) ∧
 callE P i_zzIndex #[.string x1, .string (ByteArray.mk #[13])] (fun e w17 => ∃ (r16 : Int), e = .returned (.int .i64 r16) ∧
 k2 R Xa x0 x1 x6 r14 r16 0 ((decide (r16 ≥ 0)) && ((decide (r14 < 0)) || (decide (r16 < r14)))) w17) w15) w)
 (callE P i_parseState_trimStack #[.pointer (some ⟨x6, 0, none⟩), .int .i64 0] (fun e w19 => e = .returned (.tuple #[]) ∧
 ∃ (v20q : OA), ∃ (v20n : Nat), ∃ (v20c : Nat), w19.cell? ⟨x6, 11, none⟩ = some (.slice v20q v20n v20c) ∧
 l2 R x0 x6 v20q v20n v20c (v20n : Int) 0 w19) w)
def l1 (R : EP) (x0 : OA) (x1 : BA) (x6 : Nat) (w : World) : Prop :=
  ∀ X : OA → BA → Nat → WP, (∀ x0 x1 x6 w, bl1 R X x0 x1 x6 w → X x0 x1 x6 w) → X x0 x1 x6 w

noncomputable def al1 (R : EP) (Xa : OA → BA → Nat → WP) : AC :=
  (.seq (.leaf (sel [1, 1, 1, 1, 1, 1, 0, 0, 0, 0] body)) (.block 1 (.seq (.leaf (sel [1, 1, 1, 1, 1, 1, 0, 0, 0, 1, 0, 0] body)) (.seq (.leaf (sel [1, 1, 1, 1, 1, 1, 0, 0, 0, 1, 0, 1, 0] body)) (.seq (.leaf (sel [1, 1, 1, 1, 1, 1, 0, 0, 0, 1, 0, 1, 1, 0] body)) (.seq (.leaf (sel [1, 1, 1, 1, 1, 1, 0, 0, 0, 1, 0, 1, 1, 1, 0] body)) (.seq (.block 2 (.seq (.leaf (sel [1, 1, 1, 1, 1, 1, 0, 0, 0, 1, 0, 1, 1, 1, 1, 0, 0, 0] body)) (.mark (leaf [(0, .s .ptr), (1, .s .str), (6, .s .loc), (8, .s (.int .i64)), (9, .s (.int .i64)), (10, .s (.int .u8)), (34, .s .bool)] (k2 R Xa)) (.cond 34 (.leaf (sel [1, 1, 1, 1, 1, 1, 0, 0, 0, 1, 0, 1, 1, 1, 1, 0, 0, 1, 0] body)) (.seq (.leaf (sel [1, 1, 1, 1, 1, 1, 0, 0, 0, 1, 0, 1, 1, 1, 1, 0, 0, 1, 1, 0] body)) (.cond 61 (.seq (.draw (.pure 0 (.pure 1 (.pure 2 (.pure 3 (.pure 4 (.pure 5 (.pure 6 (.pure 7 (.pure 8 .done))))))))) (sel [1, 1, 1, 1, 1, 1, 0, 0, 0, 1, 0, 1, 1, 1, 1, 0, 0, 1, 1, 1, 0, 0] body)) (.leaf (sel [1, 1, 1, 1, 1, 1, 0, 0, 0, 1, 0, 1, 1, 1, 1, 0, 0, 1, 1, 1, 0, 1] body))) (.leaf (sel [1, 1, 1, 1, 1, 1, 0, 0, 0, 1, 0, 1, 1, 1, 1, 0, 0, 1, 1, 1, 1] body)))))))) (.mark (leaf [(0, .s .ptr), (1, .s .str), (6, .s .loc), (7, .s .str), (10, .s (.int .u8))] (k3 R Xa)) (.leaf (sel [1, 1, 1, 1, 1, 1, 0, 0, 0, 1, 0, 1, 1, 1, 1, 1] body))))))))))
def k1 (R : EP) (x0 : OA) (x1 : BA) (x6 : Nat) (w : World) : Prop :=
 stV w ⟨x6, 5, none⟩ (.int .i64 (-1)) fun w9 =>
 box w9 #[] ty_rootBuilder fun b10 w11 =>
 callE P i_parseState_addBlock #[.pointer (some ⟨x6, 0, none⟩), .iface ty_P_rootBuilder (.pointer (some ⟨b10, 0, none⟩))] (fun e w13 => e = .returned (.tuple #[]) ∧
 l1 R x0 x1 x6 w13) w11

end g_Parser_parse
def g_Parser_parse (R : EP) (x0 : OA) (x1 : BA) (w : World) : Prop :=
 box w #[.pointer none, .pointer none, .map none, .int .i64 0, .slice none 0 0, .int .i64 0, .bool false, .string (ByteArray.mk #[]), .int .i64 0, .slice none 0 0, .slice none 0 0, .slice none 0 0, .int .i64 0, .int .i64 0, .int .i64 0, .int .i64 0, .int .i64 0, .int .i64 0, .int .i64 0, .int .i64 0, .int .i64 0, .int .i64 0, .int .i64 0, .int .i64 0, .int .i64 0, .int .i64 0, .int .i64 0, .int .i64 0, .int .i64 0, .int .i64 0, .int .i64 0, .int .i64 0, .int .i64 0, .int .i64 0, .int .i64 0, .int .i64 0, .int .i64 0, .int .i64 0, .int .i64 0, .int .i64 0, .int .i64 0, .int .i64 0, .int .i64 0, .int .i64 0, .int .i64 0, .int .i64 0, .int .i64 0, .int .i64 0, .int .i64 0, .int .i64 0, .int .i64 0, .int .i64 0, .int .i64 0, .int .i64 0, .int .i64 0, .int .i64 0, .int .i64 0, .int .i64 0, .int .i64 0, .int .i64 0, .int .i64 0, .int .i64 0, .int .i64 0, .int .i64 0, .int .i64 0, .int .i64 0, .int .i64 0, .int .i64 0, .int .i64 0, .int .i64 0, .int .i64 0, .int .i64 0, .int .i64 0, .int .i64 0, .int .i64 0, .int .i64 0, .int .i64 0, .int .i64 0, .int .i64 0, .int .i64 0, .int .i64 0, .int .i64 0, .int .i64 0, .int .i64 0, .int .i64 0, .int .i64 0, .int .i64 0, .int .i64 0, .int .i64 0, .int .i64 0, .int .i64 0, .int .i64 0, .bool false] ty_parseState fun b1 w2 =>
 stV w2 ⟨b1, 0, none⟩ (.pointer x0) fun w3 =>
 callE P i_zzContains #[.string x1, .string (ByteArray.mk #[0])] (fun e w5 => ∃ (r4 : Bool), e = .returned (.bool r4) ∧
 br r4
 (callE P i_zzReplaceAll #[.string x1, .string (ByteArray.mk #[0]), .string (ByteArray.mk #[239, 191, 189])] (fun e w7 => ∃ (r6 : BA), e = .returned (.string r6) ∧
 stV w7 ⟨b1, 6, none⟩ (.bool true) fun w8 =>
 g_Parser_parse.k1 R x0 r6 b1 w8) w5)
 (g_Parser_parse.k1 R x0 x1 b1 w5)) w3

noncomputable def g_Parser_parse.ac (R : EP) : AC :=
  (.seq (.leaf (sel [0] g_Parser_parse.body)) (.seq (.leaf (sel [1, 0] g_Parser_parse.body)) (.seq (.leaf (sel [1, 1, 0] g_Parser_parse.body)) (.seq (.leaf (sel [1, 1, 1, 0] g_Parser_parse.body)) (.mark (leaf [(0, .s .ptr), (1, .s .str), (6, .s .loc)] (g_Parser_parse.k1 R)) (.seq (.leaf (sel [1, 1, 1, 1, 0] g_Parser_parse.body)) (.seq (.leaf (sel [1, 1, 1, 1, 1, 0] g_Parser_parse.body)) (.seq (.block 0 (.loop (leaf [(0, .s .ptr), (1, .s .str), (6, .s .loc)] (g_Parser_parse.l1 R)) (sel [1, 1, 1, 1, 1, 1, 0, 0, 0] g_Parser_parse.body))) (.seq (.leaf (sel [1, 1, 1, 1, 1, 1, 1, 0] g_Parser_parse.body)) (.seq (.seq (.leaf (sel [1, 1, 1, 1, 1, 1, 1, 1, 0, 0] g_Parser_parse.body)) (.block 3 (.loop (leaf [(0, .s .ptr), (6, .s .loc), (81, .s .slice), (82, .s (.int .i64)), (83, .s (.int .i64))] (g_Parser_parse.l2 R)) (sel [1, 1, 1, 1, 1, 1, 1, 1, 0, 1, 0, 0] g_Parser_parse.body)))) (.seq (.seq (.leaf (sel [1, 1, 1, 1, 1, 1, 1, 1, 1, 0, 0] g_Parser_parse.body)) (.cond 99 (.seq (.leaf (sel [1, 1, 1, 1, 1, 1, 1, 1, 1, 0, 1, 0, 0] g_Parser_parse.body)) (.block 5 (.loop (leaf [(6, .s .loc), (101, .s .slice), (102, .s (.int .i64)), (103, .s (.int .i64))] (g_Parser_parse.l3 R)) (sel [1, 1, 1, 1, 1, 1, 1, 1, 1, 0, 1, 0, 1, 0, 0] g_Parser_parse.body)))) (.leaf (sel [1, 1, 1, 1, 1, 1, 1, 1, 1, 0, 1, 1] g_Parser_parse.body)))) (.mark (leaf [(6, .s .loc)] (g_Parser_parse.k4 R)) (.seq (.draw (.pure 0 (.pure 2 (.load 1 (.pure 4 (.load 3 (.pure 5 .done)))))) (sel [1, 1, 1, 1, 1, 1, 1, 1, 1, 1, 0] g_Parser_parse.body)) (.leaf (sel [1, 1, 1, 1, 1, 1, 1, 1, 1, 1, 1] g_Parser_parse.body)))))))))))))))
theorem g_Parser_parse.good (R : EP) : Good P 114 (g_Parser_parse.ac R) (QF P [.tmp 4, .tmp 5] R) :=
  ⟨trivial, ⟨trivial, ⟨trivial, ⟨trivial, ⟨⟨trivial, ⟨trivial, ⟨(loopG (g_Parser_parse.al1 R) (g_Parser_parse.bl1 R) (fun _ => by kernel_rfl) (fun Xa => ⟨trivial, ⟨trivial, ⟨trivial, ⟨trivial, ⟨trivial, ⟨⟨trivial, ⟨⟨trivial, ⟨trivial, ⟨⟨⟨by kernel_rfl, by kernel_rfl, fun _ _ _ h => h⟩, trivial⟩, trivial⟩⟩⟩, cutE (by intro x0 x1 x6 x8 x9 x10 x34 ρ w; kernel_rfl)⟩⟩, ⟨trivial, cutE (by intro x0 x1 x6 x7 x10 ρ w; kernel_rfl)⟩⟩⟩⟩⟩⟩⟩) (fun Xa => by intro x0 x1 x6 ρ w; kernel_rfl) (fun X h _ _ _ _ g => g X h)), ⟨trivial, ⟨⟨trivial, (loopG (g_Parser_parse.al2 R) (g_Parser_parse.bl2 R) (fun _ => by kernel_rfl) (fun Xc => trivial) (fun Xc => by intro x0 x6 x81q x81n x81c x82 x83 ρ w; kernel_rfl) (fun X h _ _ _ _ _ _ _ _ g => g X h))⟩, ⟨⟨trivial, ⟨⟨trivial, (loopG (g_Parser_parse.al3 R) (g_Parser_parse.bl3 R) (fun _ => by kernel_rfl) (fun Xb => trivial) (fun Xb => by intro x6 x101q x101n x101c x102 x103 ρ w; kernel_rfl) (fun X h _ _ _ _ _ _ _ g => g X h))⟩, trivial⟩⟩, ⟨⟨⟨by kernel_rfl, by kernel_rfl, fun _ _ _ h => h⟩, trivial⟩, cutE (by intro x6 ρ w; kernel_rfl)⟩⟩⟩⟩⟩⟩⟩, cutE (by intro x0 x1 x6 ρ w; kernel_rfl)⟩⟩⟩⟩⟩
theorem g_Parser_parse.eq (R : EP) (x0 : OA) (x1 : BA) (w : World) : g_Parser_parse R x0 x1 w = vcA P 114 (g_Parser_parse.ac R) (QF P [.tmp 4, .tmp 5] R) (fr0 [.pointer x0, .string x1]) w := by kernel_rfl
theorem g_Parser_parse.sound {R : EP} {x0 : OA} {x1 : ByteArray} {w : World} (h : g_Parser_parse R x0 x1 w) : callE P i_Parser_parse #[.pointer x0, .string x1] R w :=
  callE_fin (c := g_Parser_parse.body) Tryz.func43 Tryz.call43 (by kernel_rfl) (by kernel_rfl) (by kernel_rfl) (by kernel_rfl) (by kernel_rfl) (g_Parser_parse.good R) (g_Parser_parse.eq R x0 x1 w) h
end Go.Proofs.YtejiaegiijokcaaGreatDoor

set_option linter.unusedVariables false
namespace Go.Proofs.YtejiaegiijokcaaGreatDoor
open Go.Proofs Go.IntWalk
variable {σ : Out} {w : World} {L L' : List Chunk} {R : Ending → World → Prop}
def lnOf (s : List UInt8) (nl : UInt8 := 0) : Ln := ⟨0, 0, 0, s, nl⟩
def plainStart0 (c : UInt8) : Bool := !(isST c || c == 62 || c == 35 || c == 95 || c == 96 || c == 126 || c == 61 || c == 45 || c == 42)
def plainStart (c : UInt8) : Bool := plainStart0 c && c != 60 && !isBullet c
theorem tsGo_first {c nl : UInt8} {s : List UInt8} (hc : isST c = false) (mn k n : Nat) (e : Bool) : (lnOf (c :: s) nl).tsGo mn e (k + 1) n = if mn ≤ n then some (lnOf (c :: s) nl) else none := by
  simp only [isST, Bool.or_eq_false_iff, beq_eq_false_iff_ne, ne_eq] at hc
  simp [Ln.tsGo, lnOf, hc.1, hc.2]
theorem lnOf_ok {nl : UInt8} {s : List UInt8} (hs : s.length < 1000000000) : (lnOf s nl).ok := ⟨by simp [lnOf], by simp [lnOf], by simp [lnOf]; omega, by simp [lnOf]⟩
theorem lead_first {c nl : UInt8} {s : List UInt8} (hc : isST c = false) (e : Bool) : (lnOf (c :: s) nl).lead 3 e = lnOf (c :: s) nl := by
  unfold Ln.lead Ln.trimSp; rw [tsGo_first hc]; rfl
theorem strip_first {c nl : UInt8} {s : List UInt8} (hc : isST c = false) : (lnOf (c :: s) nl).strip 3 0 = (0, lnOf (c :: s) nl) := by
  simp only [Ln.strip, Ln.trimSp]; rw [tsGo_first hc]; rfl
theorem plainStart0_st {c : UInt8} (hc : plainStart0 c = true) : isST c = false := by
  simp only [plainStart0, Bool.not_eq_true', Bool.or_eq_false_iff] at hc
  exact hc.1.1.1.1.1.1.1.1
theorem plain_firstX {c nl : UInt8} {s : List UInt8} (hc : plainStart0 c = true) (hs : s.length < 1000000) (hB : LDecl (lnOf (c :: s) nl)) (hH : HDecl (lnOf (c :: s) nl)) : (lnOf (c :: s) nl).plain := by
  simp only [plainStart0, Bool.not_eq_true', Bool.or_eq_false_iff, beq_eq_false_iff_ne, ne_eq] at hc
  obtain ⟨⟨⟨⟨⟨⟨⟨⟨hst, h62⟩, h35⟩, h95⟩, h96⟩, h126⟩, h61⟩, h45⟩, h42⟩ := hc
  have hlead : ∀ e, (lnOf (c :: s) nl).lead 3 e = lnOf (c :: s) nl := lead_first hst
  have hstrip : (lnOf (c :: s) nl).strip 3 0 = (0, lnOf (c :: s) nl) := strip_first hst
  have hpeek : (lnOf (c :: s) nl).peek = c := rfl
  have htc : ∀ d : UInt8, c ≠ d → (lnOf (c :: s) nl).trimC d = none := by
    intro d hd
    simp [Ln.trimC, lnOf, hd]
  refine ⟨lnOf_ok (by simp; omega), ?_, ?_, ?_, ?_, hB, hH, ?_, ?_⟩
  · show (c :: s).all isST = false
    rw [List.all_cons, hst]; rfl
  · unfold Ln.quote; rw [hlead, htc 62 h62]; rfl
  · unfold Ln.heading; rw [hlead, htc 35 h35]
  · unfold Ln.isHR
    simp only [hlead, hpeek]
    rw [if_neg]
    rintro (h | h | h)
    · exact h45 h
    · exact h95 h
    · exact h42 h
  · rw [hstrip]; exact ⟨h96, h126⟩
  · unfold Ln.trimSp; rw [tsGo_first hst]; rfl
theorem plain_first {c nl : UInt8} {s : List UInt8} (hc : plainStart c = true) (hs : s.length < 1000000) : (lnOf (c :: s) nl).plain := by
  simp only [plainStart, Bool.and_eq_true, Bool.not_eq_true', bne_iff_ne, ne_eq] at hc
  obtain ⟨⟨h0, h60⟩, hbu⟩ := hc
  have hst := plainStart0_st h0
  have hok : (lnOf (c :: s) nl).ok := lnOf_ok (by simp; omega)
  exact plain_firstX h0 hs (LDecl.of_peek hok (by rw [strip_first hst]; exact hbu)) (HDecl.of_peek hok (by rw [lead_first hst]; exact h60))
end Go.Proofs.YtejiaegiijokcaaGreatDoor


set_option linter.unusedVariables false
namespace Go.Proofs.YtejiaegiijokcaaGreatDoor
open Go.Proofs Go.IntWalk Go.RowKit
variable {σ : Out} {w : World} {L L' : List Chunk} {R : Ending → World → Prop}
def PS.coreS (p : PS) : PS := ({ p with s := [] } : PS).core
def InlineOK (op : Opt) (s : List UInt8) (f : List UInt8 → List UInt8) : Prop :=
  ∀ (σ : Out) (R : Ending → World → Prop) (b pb : Nat) (p : PS) (L : List Chunk) (w : World), Sat σ w (p.at b :: L) → p.pz = some ⟨pb, 0, none⟩ → op.at pb ∈ L → p.links = none →
    (∀ w (p' : PS) q n c vs RM KM KM', p'.coreS = p.coreS → Sl 1 ty_Inline q n c vs RM → n < 1073741824 → PrintsL "PrintHTML" vs KM KM' f → Sat σ w (p'.at b :: (RM ++ (KM ++ L))) → R (.returned (.slice q n c)) w) →
    callE P i_parseState_inline #[.pointer (some ⟨b, 0, none⟩), .string (bs s)] R w
def InlineOKG (lk : Option Nat) (L0 : List Chunk) (op : Opt) (s : List UInt8) (f : List UInt8 → List UInt8) : Prop :=
  ∀ (σ : Out) (R : Ending → World → Prop) (b pb : Nat) (p : PS) (L : List Chunk) (w : World), (∀ c ∈ L0, c ∈ L) → Sat σ w (p.at b :: L) → p.pz = some ⟨pb, 0, none⟩ → op.at pb ∈ L → p.links = lk →
    (∀ w (p' : PS) q n c vs RM KM KM', p'.coreS = p.coreS → Sl 1 ty_Inline q n c vs RM → n < 1073741824 → PrintsL "PrintHTML" vs KM KM' f → Sat σ w (p'.at b :: (RM ++ (KM ++ L))) → R (.returned (.slice q n c)) w) →
    callE P i_parseState_inline #[.pointer (some ⟨b, 0, none⟩), .string (bs s)] R w
abbrev InlineOKL (L0 : List Chunk) (op : Opt) (s : List UInt8) (f : List UInt8 → List UInt8) : Prop := InlineOKG none L0 op s f
theorem InlineOK.lift {op : Opt} {s : List UInt8} {f : List UInt8 → List UInt8} (h : InlineOK op s f) : InlineOKL [] op s f := fun σ R b pb p L w _ => h σ R b pb p L w
def PS0 (pz : Option Addr) : PS := ⟨pz, none, none, 0, none, 0, 0, 0, false, [], 0, none, 0, 0, none, 0, 0, none, 0, 0, List.replicate 80 (.int .i64 0) ++ [.bool false]⟩
end Go.Proofs.YtejiaegiijokcaaGreatDoor


set_option linter.unusedVariables false
namespace Go.Proofs.YtejiaegiijokcaaGreatDoor
open Go.Proofs Go.IntWalk Go.RowKit
variable {σ : Out} {w : World} {L L' : List Chunk} {R : Ending → World → Prop}
def optV (o : Opt) : Value := .agg #[.bool o.strike, .bool o.task, .bool o.auto, .bool o.http, .bool o.table, .bool o.dot, .bool o.dash, .bool o.quote, .bool o.ids, .bool o.emoji]
theorem parser_ok {o : Opt} (h : Sat σ w L) (hR : ∀ w pb, Sat σ w (o.at pb :: L) → R (.returned (.pointer (some ⟨pb, 0, none⟩))) w) : callE P i_impl_parser #[optV o] R w := by
  refine g_impl_parser.sound ?_
  refine Sat.bx h fun b w h => ?_
  have ld : ∀ (k : Nat) (v : Bool), ([Value.bool o.strike, .bool o.task, .bool o.auto, .bool o.http, .bool o.table, .bool o.dot, .bool o.dash, .bool o.quote, .bool o.ids, .bool o.emoji])[k]? = some (.bool v) → w.cell? ⟨b, k, none⟩ = some (.bool v) := fun k v hv => Sat.ld h (.head _) hv
  refine ⟨_, ld 8 _ rfl, _, ld 0 _ rfl, _, ld 1 _ rfl, _, ld 2 _ rfl, _, ld 3 _ rfl, _, ld 4 _ rfl, _, ld 9 _ rfl, _, ld 5 _ rfl, _, ld 6 _ rfl, _, ld 7 _ rfl, ?_⟩
  refine Sat.bx h fun pb w h => hR w pb ?_
  have h : Sat σ w (o.at pb :: (b, cel [Value.bool o.strike, .bool o.task, .bool o.auto, .bool o.http, .bool o.table, .bool o.dot, .bool o.dash, .bool o.quote, .bool o.ids, .bool o.emoji] ty_impl_Options) :: L) := h
  exact (h.less [(b, cel [Value.bool o.strike, .bool o.task, .bool o.auto, .bool o.http, .bool o.table, .bool o.dot, .bool o.dash, .bool o.quote, .bool o.ids, .bool o.emoji] ty_impl_Options)] (by intro _; simp only [List.append_eq, cnt_append, cnt_cons, cnt_nil] <;> omega))
def ParsesTo (o : Opt) (raw out : List UInt8) : Prop :=
  ∀ (σ : Out) (R : Ending → World → Prop) (L : List Chunk) (w : World) (pb : Nat), Sat σ w L → o.at pb ∈ L →
    (∀ w db k DM DM' f, Prints "PrintHTML" (.iface ty_P_Document (.pointer (some ⟨db, 0, none⟩))) DM DM' f → f [] = out → Sat σ w (DM ++ L) → R (.returned (.tuple #[.pointer (some ⟨db, 0, none⟩), .bool k])) w) →
    callE P i_Parser_parse #[.pointer (some ⟨pb, 0, none⟩), .string (bs raw)] R w
def ParsesToL (L0 : List Chunk) (o : Opt) (raw out : List UInt8) : Prop :=
  ∀ (σ : Out) (R : Ending → World → Prop) (L : List Chunk) (w : World) (pb : Nat), (∀ c ∈ L0, c ∈ L) → Sat σ w L → o.at pb ∈ L →
    (∀ w db k DM DM' f, Prints "PrintHTML" (.iface ty_P_Document (.pointer (some ⟨db, 0, none⟩))) DM DM' f → f [] = out → Sat σ w (DM ++ L) → R (.returned (.tuple #[.pointer (some ⟨db, 0, none⟩), .bool k])) w) →
    callE P i_Parser_parse #[.pointer (some ⟨pb, 0, none⟩), .string (bs raw)] R w
theorem ParsesTo.lift {o : Opt} {raw out : List UInt8} (h : ParsesTo o raw out) : ParsesToL [] o raw out := fun σ R L w pb _ => h σ R L w pb
theorem html_okL {L0 : List Chunk} {o : Opt} {raw out : List UInt8} (hP : ParsesToL L0 o raw out) (hL0 : ∀ c ∈ L0, c ∈ L) (hout : out.length ≤ 549755813888) (h : Sat σ w L) (hR : ∀ w, Sat σ w L → R (.returned (.string (bs out))) w) : callE P i_impl_HTML #[optV o, .string (bs raw)] R w := by
  refine g_impl_HTML.sound ?_
  refine Sat.bx h fun b w h => ?_
  have ld : ∀ (k : Nat) (v : Bool), ([Value.bool o.strike, .bool o.task, .bool o.auto, .bool o.http, .bool o.table, .bool o.dot, .bool o.dash, .bool o.quote, .bool o.ids, .bool o.emoji])[k]? = some (.bool v) → w.cell? ⟨b, k, none⟩ = some (.bool v) := fun k v hv => Sat.ld h (.head _) hv
  refine ⟨_, ld 0 _ rfl, _, ld 1 _ rfl, _, ld 2 _ rfl, _, ld 3 _ rfl, _, ld 4 _ rfl, _, ld 5 _ rfl, _, ld 6 _ rfl, _, ld 7 _ rfl, _, ld 8 _ rfl, _, ld 9 _ rfl, ?_⟩
  refine parser_ok h fun w pb h => ⟨_, rfl, ?_⟩
  refine g_Parser_Parse.sound ?_
  refine hP σ _ _ w pb (fun c hc => .tail _ (.tail _ (hL0 c hc))) h (.head _) fun w db k DM DM' f hf hfo h => ⟨_, _, rfl, _, rfl, ?_⟩
  subst hfo
  refine toHTML_ok hf h hout fun w h => ⟨_, rfl, hR w ?_⟩
  exact h.less (DM' ++ (o.at pb :: [(b, cel [Value.bool o.strike, .bool o.task, .bool o.auto, .bool o.http, .bool o.table, .bool o.dot, .bool o.dash, .bool o.quote, .bool o.ids, .bool o.emoji] ty_impl_Options)])) (by intro _; simp only [List.append_eq, cnt_append, cnt_cons, cnt_nil] <;> omega)
theorem html_ok {o : Opt} {raw out : List UInt8} (hP : ParsesTo o raw out) (hout : out.length ≤ 549755813888) (h : Sat σ w L) (hR : ∀ w, Sat σ w L → R (.returned (.string (bs out))) w) : callE P i_impl_HTML #[optV o, .string (bs raw)] R w :=
  html_okL hP.lift (by simp) hout h hR
theorem bs_of (b : ByteArray) : b = bs b.data.toList := by
  cases b; rfl
def onlyM (s set : List UInt8) (n : Nat) : Bool := decide (s.length ≤ n) && s.all fun c => decide (c ∈ set)
theorem only_ok {s set : List UInt8} {n : Nat} (hs : s.length < 4611686018427387904) (hR : R (.returned (.bool (onlyM s set n))) w) : callE P i_laws_only #[.string (bs s), .string (bs set), .int .i64 n] R w := by
  refine g_laws_only.sound ?_
  by_cases hn : n < s.length
  · refine br_true (by simp; omega) ?_
    have : onlyM s set n = false := by unfold onlyM; rw [decide_eq_false (by omega)]; rfl
    rw [← this]; exact hR
  refine br_false (by simp; omega) ?_
  intro X hX
  rw [bs_size]
  have hall : onlyM s set n = s.all fun c => decide (c ∈ set) := by unfold onlyM; rw [decide_eq_true (by omega)]; rfl
  rw [hall] at hR
  have key : ∀ k i, i + k = s.length → (s.all fun c => decide (c ∈ set)) = ((s.drop i).all fun c => decide (c ∈ set)) → X (bs s) (bs set) (s.length : Nat) (i : Int) w := by
    intro k
    induction k with
    | zero =>
      intro i hi ha
      refine hX _ _ _ _ _ (br_false (by simp; omega) ?_)
      rw [List.drop_eq_nil_of_le (by omega)] at ha
      rw [ha] at hR; exact hR
    | succ k ih =>
      intro i hi ha
      have hil : i < s.length := by omega
      rw [List.drop_eq_getElem_cons hil, List.all_cons] at ha
      refine hX _ _ _ _ _ (br_true (by simp; omega) ⟨by omega, by simp; omega, ?_⟩)
      rw [bt_at hil]
      refine indexByte2_ok ⟨_, rfl, ?_⟩
      by_cases hm : s[i] ∈ set
      · refine br_false (by simpa using idxB_nonneg.2 hm) ?_
        rw [i64_inc (by omega)]
        refine ih (i + 1) (by omega) ?_
        rw [ha]; simp [hm]
      · have := mt idxB_nonneg.1 hm
        refine br_true (by simpa using this) ?_
        rw [ha] at hR
        simpa [hm] using hR
  exact key s.length 0 (by omega) (by rw [List.drop_zero])
end Go.Proofs.YtejiaegiijokcaaGreatDoor


set_option linter.unusedVariables false
namespace Go.Proofs.YtejiaegiijokcaaGreatDoor
open Go.Proofs Go.IntWalk Go.RowKit
variable {σ : Out} {w : World} {L L' : List Chunk} {R : Ending → World → Prop}
def AtI (X : XI) (σ : Out) (b : Nat) (p0 : PS) (raw : List UInt8) (L : List Chunk) (i e : Nat) (ts : List Inl) : Prop :=
  ∀ w (p : PS) oq on oc, p.coreS = p0.coreS → p.s = raw → p.em = (e : Int) → IIn σ b p ts [] oq on oc L w → X (some ⟨b, 0, none⟩) (bs raw) oq on oc 0 false (i : Int) w
def LoopX (R : Ending → World → Prop) (X : XI) (b : Nat) (raw : List UInt8) : Prop :=
  ∀ oq on oc (i : Int) w, g_parseState_inline.bl1 R X (some ⟨b, 0, none⟩) (bs raw) oq on oc 0 false i w → X (some ⟨b, 0, none⟩) (bs raw) oq on oc 0 false i w
theorem PS.pz_of {p p0 : PS} (h : p.coreS = p0.coreS) : p.pz = p0.pz := by have := congrArg PS.pz h; exact this
theorem PS.coreS_of {p' p p0 : PS} (h1 : p'.core = p.core) (h2 : p.coreS = p0.coreS) : p'.coreS = p0.coreS := by
  rw [← h2]
  have := congrArg (fun q : PS => ({ q with s := [] } : PS)) h1
  exact this
theorem AtI.plain {X : XI} {b pb i e : Nat} {p0 : PS} {raw : List UInt8} {ts : List Inl} {o : Opt} (hX : LoopX R X b raw) (hi : i < raw.length) (hs : raw.length < 1000000000) (hpz : p0.pz = some ⟨pb, 0, none⟩) (ho : o.at pb ∈ L) (hp : parserOf o raw[i] = .nil) (h93 : raw[i] ≠ 93)
    (h : AtI X σ b p0 raw L (i + 1) e ts) : AtI X σ b p0 raw L i e ts := by
  intro w p oq on oc hc hraw he hI
  refine hX _ _ _ _ _ ?_
  obtain ⟨vs, RM, EM, OM, hS, hIn, hO, hlen, hsat⟩ := hI
  refine inl_dispatch (p := p) hi (by omega) (by rw [PS.pz_of hc, hpz]) (.head _) (.tail _ (List.mem_append_right _ (List.mem_append_right _ (List.mem_append_right _ ho)))) hsat ?_
  rw [hp]
  exact inl_none (inl_k5 hi (by omega) (.inl h93) (h w p oq on oc hc hraw he ⟨vs, RM, EM, OM, hS, hIn, hO, hlen, hsat⟩))
theorem AtI.leaf {X : XI} {b pb i e st en : Nat} {p0 : PS} {raw : List UInt8} {ts : List Inl} {o : Opt} {f : FuncId} {t : Inl} {L0 : List Chunk} {Q : PS → PS → Prop} (hX : LoopX R X b raw) (hi : i < raw.length) (hs : raw.length < 1000000000) (hpz : p0.pz = some ⟨pb, 0, none⟩) (ho : o.at pb ∈ L)
    (hp : parserOf o raw[i] = .fn f) (hL0 : ∀ c ∈ L0, c ∈ L) (hf : ∀ p : PS, p.coreS = p0.coreS → p.s = raw → LeafOK b p raw i (.func (.func f) #[] #[]) L0 (some (t, st, en)) (Q p)) (ht : t.isOpen = false) (hst : st ≤ raw.length) (hn : ts.length < 1000000000)
    (h : AtI X σ b p0 raw L en en (emitM raw e st ts ++ [t])) : AtI X σ b p0 raw L i e ts := by
  intro w p oq on oc hc hraw he hI
  refine hX _ _ _ _ _ ?_
  obtain ⟨vs, RM, EM, OM, hS, hIn, hO, hlen, hsat⟩ := hI
  refine inl_dispatch (p := p) hi (by omega) (by rw [PS.pz_of hc, hpz]) (.head _) (.tail _ (List.mem_append_right _ (List.mem_append_right _ (List.mem_append_right _ ho)))) hsat ?_
  rw [hp]
  dsimp only
  have hleaf := hf p hc hraw
  subst hraw
  refine inl_leaf ⟨vs, RM, EM, OM, hS, hIn, hO, hlen, hsat⟩ hL0 hleaf he hst hs hn (by simp) fun w p2 oq on oc hp2 hem2 _ h2 => ?_
  rw [ht] at h2
  refine h w p2 oq on oc (PS.coreS_of hp2 hc) ?_ hem2 h2
  have := congrArg PS.s hp2; exact this
theorem AtI.finA {X : XI} {b pb e : Nat} {p0 : PS} {raw : List UInt8} {ts ts' ts2 : List Inl} {o : Opt} (hX : LoopX R X b raw) (hs : raw.length < 1000000000) (hpz : p0.pz = some ⟨pb, 0, none⟩) (ho : o.at pb ∈ L) (hn : ts.length < 1000000000)
    (hE : EmphOK (emitM raw e raw.length ts) ts') (hpos : ∀ t ∈ ts', ∀ s, t.plain? = some s → s ≠ []) (hb : plen ts' < 1073741824) (hA : AutoOK o (mergeM ts') ts2)
    (hR : ∀ w (p' : PS) q n c vs RM EM, p'.coreS = p0.coreS → Sl 1 ty_Inline q n c vs RM → n < 1073741824 → InlsAt ts2 vs EM → Sat σ w (p'.at b :: (RM ++ (EM ++ L))) → R (.returned (.slice q n c)) w) :
    AtI X σ b p0 raw L raw.length e ts := by
  intro w p oq on oc hc hraw he hI
  refine hX _ _ _ _ _ ?_
  subst hraw
  exact inl_endA hI he hs hn (by rw [PS.pz_of hc, hpz]) ho hE hpos hb hA fun w p2 q n c vs RM EM hp2 hS hn hI h => hR w p2 q n c vs RM EM (PS.coreS_of hp2 hc) hS hn hI h
theorem AtI.fin {X : XI} {b pb e : Nat} {p0 : PS} {raw : List UInt8} {ts ts' : List Inl} {o : Opt} (hX : LoopX R X b raw) (hs : raw.length < 1000000000) (hpz : p0.pz = some ⟨pb, 0, none⟩) (ho : o.at pb ∈ L) (hoff : o.auto = false) (hn : ts.length < 1000000000)
    (hE : EmphOK (emitM raw e raw.length ts) ts') (hpos : ∀ t ∈ ts', ∀ s, t.plain? = some s → s ≠ []) (hb : plen ts' < 1073741824)
    (hR : ∀ w (p' : PS) q n c vs RM EM, p'.coreS = p0.coreS → Sl 1 ty_Inline q n c vs RM → n < 1073741824 → InlsAt (mergeM ts') vs EM → Sat σ w (p'.at b :: (RM ++ (EM ++ L))) → R (.returned (.slice q n c)) w) :
    AtI X σ b p0 raw L raw.length e ts :=
  AtI.finA hX hs hpz ho hn hE hpos hb (autoOK_off hoff) hR
end Go.Proofs.YtejiaegiijokcaaGreatDoor


set_option linter.unusedVariables false
set_option maxRecDepth 20000
namespace Go.Proofs.YtejiaegiijokcaaGreatDoor
open Go.Proofs
namespace g_parseState_emph_1
noncomputable def body : Code := bodyOf Tryz.f125
end g_parseState_emph_1
def g_parseState_emph_1 (R : EP) (x0 : Int) (w : World) : Prop :=
 callE P i_strings_IndexByte #[.string (ByteArray.mk #[95, 42, 126, 34, 39]), .int .u8 x0] (fun e w2 => ∃ (r1 : Int), e = .returned (.int .i64 r1) ∧
 R (.returned (.int .i64 r1)) w2) w

noncomputable def g_parseState_emph_1.ac (R : EP) : AC :=
  (.leaf (sel [] g_parseState_emph_1.body))
theorem g_parseState_emph_1.good (R : EP) : Good P 5 (g_parseState_emph_1.ac R) (QF P [.tmp 2] R) :=
  trivial
theorem g_parseState_emph_1.eq (R : EP) (x0 : Int) (w : World) : g_parseState_emph_1 R x0 w = vcA P 5 (g_parseState_emph_1.ac R) (QF P [.tmp 2] R) (fr0 [.int .u8 x0]) w := by kernel_rfl
theorem g_parseState_emph_1.sound {R : EP} {x0 : Int} {w : World} (h : g_parseState_emph_1 R x0 w) : callE P i_parseState_emph_1 #[.int .u8 x0] R w :=
  callE_fin (c := g_parseState_emph_1.body) Tryz.func125 Tryz.call125 (by kernel_rfl) (by kernel_rfl) (by kernel_rfl) (by kernel_rfl) (by kernel_rfl) (g_parseState_emph_1.good R) (g_parseState_emph_1.eq R x0 w) h
namespace g_parseState_emph_2
noncomputable def body : Code := bodyOf Tryz.f126
def k1 (R : EP) (Xa : Nat → Nat → Int → WP) (Xb : Nat → Nat → OA → Int → WP) (x0 : Nat) (x1 : Nat) (x3 : OA) (x4 : Int) (w : World) : Prop :=
 tk w fun w13 =>
 nilP x3 fun a14 =>
 nilP x3 fun a15 =>
 ∃ (v16q : OA), ∃ (v16n : Nat), ∃ (v16c : Nat), w13.cell? a14 = some (.slice v16q v16n v16c) ∧
 ∃ (v17q : OA), ∃ (v17n : Nat), ∃ (v17c : Nat), w13.cell? a15 = some (.slice v17q v17n v17c) ∧
 ∃ (r18q : OA), ∃ (r18n : Nat), ∃ (r18c : Nat), (∀ w, (Instr.sliceAt ty_S_P_emphPlain (.slice v16q v16n v16c) none (some (.int .i64 (IntKind.i64.wrap ((v17n : Int) - 1)))) none).run P w = .ok (.slice r18q r18n r18c) w) ∧
 nilP x3 fun a19 =>
 stV w13 (a19.add 0) (.slice r18q r18n r18c) fun w20 =>
 Xb x0 x1 x3 x4 w20

def bl2 (R : EP) (Xa : Nat → Nat → Int → WP) (Xb : Nat → Nat → OA → Int → WP) (x0 : Nat) (x1 : Nat) (x3 : OA) (x4 : Int) (w : World) : Prop :=
 tk w fun w1 =>
 nilP x3 fun a2 =>
 ∃ (v3q : OA), ∃ (v3n : Nat), ∃ (v3c : Nat), w1.cell? a2 = some (.slice v3q v3n v3c) ∧
 br (decide ((v3n : Int) > 0))
 (nilP x3 fun a4 =>
 nilP x3 fun a5 =>
 ∃ (v6q : OA), ∃ (v6n : Nat), ∃ (v6c : Nat), w1.cell? a4 = some (.slice v6q v6n v6c) ∧
 ∃ (v7q : OA), ∃ (v7n : Nat), ∃ (v7c : Nat), w1.cell? a5 = some (.slice v7q v7n v7c) ∧
 0 ≤ (IntKind.i64.wrap ((v7n : Int) - 1)) ∧ (IntKind.i64.wrap ((v7n : Int) - 1)) < (v6n : Int) ∧
 nilP v6q fun a8 =>
 ∃ (v9 : OA), w1.cell? (a8.add (Int.toNat (IntKind.i64.wrap ((v7n : Int) - 1)) * 1)) = some (.pointer v9) ∧
 nilP v9 fun a10 =>
 ∃ (v11 : Int), w1.cell? (a10.add 3) = some (.int .i64 v11) ∧
 ∃ (v12q : OA), ∃ (v12n : Nat), ∃ (v12c : Nat), w1.cell? ⟨x1, 0, none⟩ = some (.slice v12q v12n v12c) ∧
 br (decide (v11 ≥ (v12n : Int)))
 (k1 R Xa Xb x0 x1 x3 x4 w1)
 (Xa x0 x1 (IntKind.i64.wrap (x4 + 1)) w1))
 (Xa x0 x1 (IntKind.i64.wrap (x4 + 1)) w1)
def l2 (R : EP) (Xa : Nat → Nat → Int → WP) (x0 : Nat) (x1 : Nat) (x3 : OA) (x4 : Int) (w : World) : Prop :=
  ∀ X : Nat → Nat → OA → Int → WP, (∀ x0 x1 x3 x4 w, bl2 R Xa X x0 x1 x3 x4 w → X x0 x1 x3 x4 w) → X x0 x1 x3 x4 w

noncomputable def al2 (R : EP) (Xa : Nat → Nat → Int → WP) (Xb : Nat → Nat → OA → Int → WP) : AC :=
  (.seq (.seq (.draw (.pure 0 (.pure 1 (.load 2 (.pure 3 (.pure 4 (.pure 5 (.pure 6 (.pure 7 (.pure 9 (.pure 10 (.load 8 (.load 11 (.pure 12 (.pure 13 (.pure 14 (.load 15 (.pure 16 (.pure 17 (.load 18 (.load 19 (.pure 20 (.pure 21 (.pure 22 .done))))))))))))))))))))))) (sel [1, 0, 0, 1, 1, 0, 0, 1, 1, 0, 0, 0, 0] body)) (.leaf (sel [1, 0, 0, 1, 1, 0, 0, 1, 1, 0, 0, 0, 1] body))) (.mark (leaf [(0, .s .loc), (1, .s .loc), (3, .s .ptr), (4, .s (.int .i64))] (k1 R Xa Xb)) (.block 3 (.draw (.pure 0 (.pure 1 (.pure 2 (.pure 4 (.pure 5 (.load 3 (.load 6 (.pure 7 (.pure 8 (.pure 9 (.pure 10 (.one 11 .done)))))))))))) (sel [1, 0, 0, 1, 1, 0, 0, 1, 1, 0, 0, 1, 0] body)))))
def bl1 (R : EP) (Xa : Nat → Nat → Int → WP) (x0 : Nat) (x1 : Nat) (x4 : Int) (w : World) : Prop :=
 br (decide (x4 < 5))
 (0 ≤ x4 ∧ x4 < (5 : Int) ∧
 l2 R Xa x0 x1 (some ((⟨x0, 0, none⟩ : Addr).add (Int.toNat x4 * 1))) x4 w)
 (R (.returned (.tuple #[])) w)
def l1 (R : EP) (x0 : Nat) (x1 : Nat) (x4 : Int) (w : World) : Prop :=
  ∀ X : Nat → Nat → Int → WP, (∀ x0 x1 x4 w, bl1 R X x0 x1 x4 w → X x0 x1 x4 w) → X x0 x1 x4 w

noncomputable def al1 (R : EP) (Xa : Nat → Nat → Int → WP) : AC :=
  (.seq (.leaf (sel [1, 0, 0, 0] body)) (.seq (.leaf (sel [1, 0, 0, 1, 0] body)) (.seq (.block 1 (.seq (.leaf (sel [1, 0, 0, 1, 1, 0, 0, 0] body)) (.seq (.leaf (sel [1, 0, 0, 1, 1, 0, 0, 1, 0] body)) (.block 2 (.loop (leaf [(0, .s .loc), (1, .s .loc), (3, .s .ptr), (4, .s (.int .i64))] (l2 R Xa)) (sel [1, 0, 0, 1, 1, 0, 0, 1, 1, 0, 0] body)))))) (.leaf (sel [1, 0, 0, 1, 1, 1] body)))))
end g_parseState_emph_2
def g_parseState_emph_2 (R : EP) (x0 : Nat) (x1 : Nat) (w : World) : Prop :=
 g_parseState_emph_2.l1 R x0 x1 0 w

noncomputable def g_parseState_emph_2.ac (R : EP) : AC :=
  (.seq (.leaf (sel [0] g_parseState_emph_2.body)) (.block 0 (.loop (leaf [(0, .s .loc), (1, .s .loc), (4, .s (.int .i64))] (g_parseState_emph_2.l1 R)) (sel [1, 0, 0] g_parseState_emph_2.body))))
theorem g_parseState_emph_2.good (R : EP) : Good P 44 (g_parseState_emph_2.ac R) (QF P [] R) :=
  ⟨trivial, (loopG (g_parseState_emph_2.al1 R) (g_parseState_emph_2.bl1 R) (fun _ => by kernel_rfl) (fun Xa => ⟨trivial, ⟨trivial, ⟨⟨trivial, ⟨trivial, (loopG (g_parseState_emph_2.al2 R Xa) (g_parseState_emph_2.bl2 R Xa) (fun _ => by kernel_rfl) (fun Xb => ⟨⟨⟨by kernel_rfl, by kernel_rfl, fun _ _ _ h => h⟩, trivial⟩, ⟨⟨by kernel_rfl, by kernel_rfl, fun _ _ _ h => h⟩, cutE (by intro x0 x1 x3 x4 ρ w; kernel_rfl)⟩⟩) (fun Xb => by intro x0 x1 x3 x4 ρ w; kernel_rfl) (fun X h _ _ _ _ _ g => g X h))⟩⟩, trivial⟩⟩⟩) (fun Xa => by intro x0 x1 x4 ρ w; kernel_rfl) (fun X h _ _ _ _ g => g X h))⟩
theorem g_parseState_emph_2.eq (R : EP) (x0 : Nat) (x1 : Nat) (w : World) : g_parseState_emph_2 R x0 x1 w = vcA P 44 (g_parseState_emph_2.ac R) (QF P [] R) (fr0 [.pointer (some ⟨x0, 0, none⟩), .pointer (some ⟨x1, 0, none⟩)]) w := by kernel_rfl
theorem g_parseState_emph_2.sound {R : EP} {x0 : Nat} {x1 : Nat} {w : World} (h : g_parseState_emph_2 R x0 x1 w) : callE P i_parseState_emph_2 #[.pointer (some ⟨x0, 0, none⟩), .pointer (some ⟨x1, 0, none⟩)] R w :=
  callE_fin (c := g_parseState_emph_2.body) Tryz.func126 Tryz.call126 (by kernel_rfl) (by kernel_rfl) (by kernel_rfl) (by kernel_rfl) (by kernel_rfl) (g_parseState_emph_2.good R) (g_parseState_emph_2.eq R x0 x1 w) h
end Go.Proofs.YtejiaegiijokcaaGreatDoor

set_option linter.unusedVariables false
namespace Go.Proofs.YtejiaegiijokcaaGreatDoor
open Go.Proofs Go.IntWalk Go.RowKit
variable {σ : Out} {w : World} {L L' : List Chunk} {R : Ending → World → Prop}
theorem Sl.trunc {e : TypeId} {q : Option Addr} {n c k : Nat} {vs : List Value} {M : List Chunk} (h : Sl 1 e q n c vs M) (hk : k ≤ n) : Sl 1 e q k c (vs.take k) M := by
  obtain ⟨hl, hnc, ⟨rfl, rfl, rfl, rfl⟩ | ⟨b, sp, rfl, rfl, h3⟩⟩ := h
  · have : k = 0 := by omega
    subst this
    exact ⟨by simp, by omega, .inl ⟨rfl, rfl, rfl, rfl⟩⟩
  · refine ⟨by rw [List.length_take]; omega, by omega, .inr ⟨b, vs.drop k ++ sp, rfl, ?_, ?_⟩⟩
    · rw [← List.append_assoc, List.take_append_drop]
    · rw [← List.append_assoc, List.take_append_drop]; exact h3
structure STK where
  q : Option Addr
  n : Nat
  c : Nat
  ent : List (Nat × Nat)
def entV (e : Nat × Nat) : Value := .pointer (some ⟨e.1, 0, none⟩)
def STK.ok (s : STK) (M : List Chunk) : Prop := Sl 1 ty_P_emphPlain s.q s.n s.c (s.ent.map entV) M
def StksAt : List STK → List Chunk → Prop
  | [], M => M = []
  | s :: S, M => ∃ M1 M2, M = M1 ++ M2 ∧ s.ok M1 ∧ StksAt S M2
theorem StksAt.split : ∀ {A : List STK} {s : STK} {B : List STK} {M : List Chunk}, StksAt (A ++ s :: B) M → ∃ M1 M2 M3, M = M1 ++ (M2 ++ M3) ∧ StksAt A M1 ∧ s.ok M2 ∧ StksAt B M3
  | [], s, B, M, h => by obtain ⟨M1, M2, rfl, h1, h2⟩ := h; exact ⟨[], M1, M2, rfl, rfl, h1, h2⟩
  | a :: A, s, B, M, h => by
    obtain ⟨M1, M2, rfl, h1, h2⟩ := h
    obtain ⟨N1, N2, N3, rfl, h3, h4, h5⟩ := h2.split
    exact ⟨M1 ++ N1, N2, N3, by simp, ⟨M1, N1, rfl, h1, h3⟩, h4, h5⟩
theorem StksAt.join : ∀ {A : List STK} {s : STK} {B : List STK} {M1 M2 M3 : List Chunk}, StksAt A M1 → s.ok M2 → StksAt B M3 → StksAt (A ++ s :: B) (M1 ++ (M2 ++ M3))
  | [], s, B, M1, M2, M3, h1, h2, h3 => by cases h1; exact ⟨M2, M3, rfl, h2, h3⟩
  | a :: A, s, B, M1, M2, M3, h1, h2, h3 => by
    obtain ⟨N1, N2, rfl, h4, h5⟩ := h1
    exact ⟨N1, N2 ++ (M2 ++ M3), by simp, h4, h5.join h2 h3⟩
def stkV (s : STK) : Value := .slice s.q s.n s.c
def stkC (b : Nat) (S : List STK) : Chunk := (b, cel (S.map stkV) ty_5_S_P_emphPlain)
def trimE (m : Nat) (es : List (Nat × Nat)) : List (Nat × Nat) := (es.reverse.dropWhile fun e => decide (m ≤ e.2)).reverse
theorem trimE_nil (m : Nat) : trimE m [] = [] := rfl
theorem trimE_snoc (m : Nat) (es : List (Nat × Nat)) (e : Nat × Nat) : trimE m (es ++ [e]) = if m ≤ e.2 then trimE m es else es ++ [e] := by
  unfold trimE
  rw [List.reverse_append]
  simp only [List.reverse_cons, List.reverse_nil, List.nil_append, List.singleton_append, List.dropWhile_cons]
  split
  · rename_i h; rw [if_pos (by simpa using h)]
  · rename_i h; rw [if_neg (by simpa using h)]; simp
def STK.trim (m : Nat) (s : STK) : STK := { s with n := (trimE m s.ent).length, ent := trimE m s.ent }
theorem trimE_prefix (m : Nat) (es : List (Nat × Nat)) : trimE m es = es.take (trimE m es).length := by
  have : trimE m es <+: es := by
    unfold trimE
    have := List.dropWhile_suffix (fun e : Nat × Nat => decide (m ≤ e.2)) (l := es.reverse)
    have := List.reverse_prefix.2 this
    simpa using this
  exact (List.prefix_iff_eq_take.1 this)
def EntsOK (es : List (Nat × Nat)) (L : List Chunk) : Prop := ∀ e ∈ es, ∃ cs ty, (e.1, cel cs ty) ∈ L ∧ cs[3]? = some (.int .i64 (e.2 : Nat))
noncomputable def rowEP : Row P ty_S_P_emphPlain ty_P_emphPlain 1 8 :=
  ⟨(P.info? ty_P_emphPlain).getD default, ((P.info? ty_P_emphPlain).bind (·.zero)).getD default, by kernel_rfl, by kernel_rfl, by kernel_rfl, by kernel_rfl, by kernel_rfl, by kernel_rfl, by decide⟩
theorem stk_cell {b j : Nat} {A B : List STK} {s : STK} (h : Sat σ w (stkC b (A ++ s :: B) :: L)) (hj : j = A.length) : w.cell? ⟨b, j, none⟩ = some (.slice s.q s.n s.c) := by
  refine Sat.ld h (.head _) ?_
  rw [List.map_append, List.getElem?_append_right (by simp; omega)]
  simp [hj, stkV]
theorem stk_store {b j : Nat} {A B : List STK} {s s' : STK} {K : World → Prop} (h : Sat σ w (stkC b (A ++ s :: B) :: L)) (hj : j = A.length) (hK : ∀ w', Sat σ w' (stkC b (A ++ s' :: B) :: L) → K w') : stV w ⟨b, j, none⟩ (.slice s'.q s'.n s'.c) K := by
  refine Sat.st h (k := 0) rfl (by simp; omega) trivial rfl fun w h => hK w ?_
  have e : ((A ++ s :: B).map stkV).set j (.slice s'.q s'.n s'.c) = (A ++ s' :: B).map stkV := by
    rw [List.map_append, List.map_append, List.set_append_right _ _ (by simp; omega)]
    simp [hj, stkV]
  show Sat σ w ((b, cel ((A ++ s' :: B).map stkV) ty_5_S_P_emphPlain) :: L)
  rw [← e]; exact h
theorem trimStk_ok {b3 b1 m dc : Nat} {dq : Option Addr} {S : List STK} {SM : List Chunk} (h5 : S.length = 5) (hS : StksAt S SM) (hE : ∀ s ∈ S, EntsOK s.ent L) (hsm : ∀ s ∈ S, s.ent.length < 1000000000)
    (h : Sat σ w (stkC b3 S :: (b1, cel [.slice dq m dc] ty_S_Inline) :: (SM ++ L)))
    (hR : ∀ w SM', StksAt (S.map (STK.trim m)) SM' → Sat σ w (stkC b3 (S.map (STK.trim m)) :: (b1, cel [.slice dq m dc] ty_S_Inline) :: (SM' ++ L)) → R (.returned (.tuple #[])) w) :
    callE P i_parseState_emph_2 #[.pointer (some ⟨b3, 0, none⟩), .pointer (some ⟨b1, 0, none⟩)] R w := by
  refine g_parseState_emph_2.sound ?_
  intro X hX
  have key : ∀ (B A : List STK) (SM : List Chunk) w, A.length + B.length = 5 → S = A ++ B → StksAt (A.map (STK.trim m) ++ B) SM → Sat σ w (stkC b3 (A.map (STK.trim m) ++ B) :: (b1, cel [.slice dq m dc] ty_S_Inline) :: (SM ++ L)) → X b3 b1 (A.length : Nat) w := by
    intro B
    induction B with
    | nil =>
      intro A SM w hl hSA hS h
      refine hX _ _ _ _ (br_false (by simp at hl; simp; omega) ?_)
      have e : S.map (STK.trim m) = A.map (STK.trim m) ++ [] := by rw [hSA]; simp
      rw [← e] at hS h
      exact hR w SM hS h
    | cons s B ih =>
      intro A SM w hl hSA hS h
      have hs : s ∈ S := by rw [hSA]; simp
      have hA : (A.map (STK.trim m)).length = A.length := by simp
      simp at hl
      refine hX _ _ _ _ (br_true (by simp; omega) ⟨by omega, by omega, ?_⟩)
      simp only [Addr.add_lit, Int.toNat_natCast, Nat.mul_one, Nat.zero_add]
      intro Y hY
      have inner : ∀ (es : List (Nat × Nat)) (s' : STK) (SM : List Chunk) w, s'.ent = es → EntsOK es L → es.length < 1000000000 → trimE m es = trimE m s.ent → s'.q = s.q → s'.c = s.c → StksAt (A.map (STK.trim m) ++ s' :: B) SM →
          Sat σ w (stkC b3 (A.map (STK.trim m) ++ s' :: B) :: (b1, cel [.slice dq m dc] ty_S_Inline) :: (SM ++ L)) → Y b3 b1 (some ⟨b3, A.length, none⟩) (A.length : Nat) w := by
        intro es
        induction hn : es.length generalizing es with
        | zero =>
          intro s' SM w he hok hlen ht hq hc hS h
          have he0 : es = [] := List.eq_nil_of_length_eq_zero hn
          subst he0
          obtain ⟨M1, M2, M3, rfl, h1, h2, h3⟩ := hS.split
          have hn0 : s'.n = 0 := by have := h2.1; rw [he] at this; simp at this; omega
          refine hY _ _ _ _ _ ?_
          refine Sat.tk h fun w h => ?_
          refine nilP_some ⟨_, _, _, stk_cell h hA.symm, ?_⟩
          rw [hn0]
          refine br_false rfl ?_
          have e1 : IntKind.i64.wrap ((A.length : Int) + 1) = ((A.length + 1 : Nat) : Int) := i64_inc (by omega)
          rw [e1]
          have htr : s' = STK.trim m s := by
            unfold STK.trim
            rw [← ht]
            cases s'; simp only at he hn0 hq hc ⊢
            subst he hn0 hq hc
            try rfl
          have := ih (A ++ [s]) (M1 ++ (M2 ++ M3)) w (by simp; omega) (by rw [hSA]; simp) (by rw [List.map_append, List.append_assoc]; have := h1.join h2 h3; rw [htr] at this; exact this) (by
            rw [List.map_append, List.append_assoc]; rw [htr] at h; exact h)
          rw [List.length_append] at this
          exact this
        | succ k ihk =>
          intro s' SM w he hok hlen ht hq hc hS h
          obtain ⟨es', e, rfl⟩ : ∃ es' e, es = es' ++ [e] := by
            rcases List.eq_nil_or_concat es with rfl | ⟨es', e, rfl⟩
            · simp at hn
            · exact ⟨es', e, by simp⟩
          simp at hn
          obtain ⟨M1, M2, M3, rfl, h1, h2, h3⟩ := hS.split
          have hn1 : s'.n = k + 1 := by have := h2.1; rw [he] at this; simp at this; omega
          obtain ⟨cs, ty, hm, hc3⟩ := hok e (by simp)
          refine hY _ _ _ _ _ ?_
          refine Sat.tk h fun w h => ?_
          refine nilP_some ⟨_, _, _, stk_cell h hA.symm, ?_⟩
          rw [hn1]
          refine br_true (by simp <;> omega) (nilP_some (nilP_some ?_))
          refine ⟨_, _, _, stk_cell h hA.symm, _, _, _, stk_cell h hA.symm, ?_⟩
          have e1 : IntKind.i64.wrap (((s'.n : Nat) : Int) - 1) = (k : Int) := by rw [hn1]; simp (disch := omega) only [i64_in]; omega
          rw [e1]
          refine ⟨by omega, by omega, ?_⟩
          have hvs : (s'.ent.map entV)[k]? = some (.pointer (some ⟨e.1, 0, none⟩)) := by
            rw [he, List.map_append, List.getElem?_append_right (by simp; omega)]; simp [hn, entV]
          have hM : Sat σ w (M2 ++ (stkC b3 (A.map (STK.trim m) ++ s' :: B) :: (b1, cel [.slice dq m dc] ty_S_Inline) :: (M1 ++ (M3 ++ L)))) := h.re (by intro _; simp only [List.append_eq, cnt_append, cnt_cons, cnt_nil] <;> omega)
          refine Sl.loadAt h2 hM hvs fun rb hq' hcell => ?_
          simp only [Addr.add_lit, Int.toNat_natCast, Nat.mul_one, Nat.zero_add]
          refine ⟨_, hcell, nilP_some ?_⟩
          simp only [Addr.add_lit, Nat.zero_add]
          refine ⟨_, Sat.ld h (.tail _ (.tail _ (List.mem_append_right _ hm))) hc3, ?_⟩
          refine ⟨_, _, _, Sat.ld h (.tail _ (.head _)) rfl, ?_⟩
          rw [trimE_snoc] at ht
          by_cases hme : m ≤ e.2
          · rw [if_pos hme] at ht
            refine br_true (by simp; omega) ?_
            refine Sat.tk h fun w h => ?_
            refine nilP_some (nilP_some ?_)
            refine ⟨_, _, _, stk_cell h hA.symm, _, _, _, stk_cell h hA.symm, ?_⟩
            rw [e1]
            have hnc := h2.2.1
            refine ⟨_, _, _, fun w => sliceT rowEP.ht rowEP.hi _ _ _ k (by omega) w, nilP_some ?_⟩
            let s2 : STK := ⟨s'.q, k, s'.c, es'⟩
            have hs2 : s2.ok M2 := by
              have := h2.trunc (k := k) (by omega)
              rw [he, List.map_append, List.take_append_of_le_length (by rw [List.length_map]; omega), List.take_of_length_le (by rw [List.length_map]; omega)] at this
              exact this
            simp only [Addr.add_lit, Nat.zero_add, Nat.add_zero]
            refine stk_store (s' := s2) h hA.symm fun w h => ?_
            exact ihk es' hn s2 (M1 ++ (M2 ++ M3)) w rfl (fun x hx => hok x (by simp [hx])) (by first | omega | (simp at hlen; omega) | (have := hn; omega)) ht hq hc (h1.join hs2 h3) h
          · rw [if_neg hme] at ht
            refine br_false (by simp; omega) ?_
            have e2 : IntKind.i64.wrap ((A.length : Int) + 1) = ((A.length + 1 : Nat) : Int) := i64_inc (by omega)
            rw [e2]
            have htr : s' = STK.trim m s := by
              unfold STK.trim
              rw [← ht]
              cases s'; simp only at he hn1 hq hc ⊢
              subst he hn1 hq hc; simp [hn]
            have := ih (A ++ [s]) (M1 ++ (M2 ++ M3)) w (by simp; omega) (by rw [hSA]; simp) (by rw [List.map_append, List.append_assoc]; have := h1.join h2 h3; rw [htr] at this; exact this) (by
              rw [List.map_append, List.append_assoc]; rw [htr] at h; exact h)
            rw [List.length_append] at this
            exact this
      exact inner s.ent s SM w rfl (hE s hs) (hsm s hs) rfl rfl rfl hS h
  exact key S [] SM w (by simpa using h5) rfl hS h
end Go.Proofs.YtejiaegiijokcaaGreatDoor


set_option linter.unusedVariables false
namespace Go.Proofs.YtejiaegiijokcaaGreatDoor
open Go.Proofs Go.IntWalk Go.RowKit
variable {σ : Out} {w : World} {L L' : List Chunk} {R : Ending → World → Prop}
def DRow (dq : Option Addr) (dc : Nat) (dvs rvs : List Value) (off : Nat) (sq : Option Addr) (sn sc : Nat) (SR RS : List Chunk) : Prop :=
  rvs.length + off = sn ∧ dvs.length ≤ dc ∧
  ((∃ rb junk sp, dq = some ⟨rb, 0, none⟩ ∧ sq = some ⟨rb, 0, none⟩ ∧ RS = [(rb, cel (dvs ++ (junk ++ (rvs ++ sp))) ty_Inline)] ∧ dvs.length + junk.length = off ∧ off + rvs.length + sp.length = dc) ∨
   (∃ DR, Sl 1 ty_Inline dq dvs.length dc dvs DR ∧ RS = DR ++ SR ∧ ∀ j v, rvs[j]? = some v → ∃ rb so scs e, sq = some ⟨rb, so, none⟩ ∧ (rb, cel scs e) ∈ SR ∧ scs[so + off + j]? = some v))
theorem DRow.read {dq sq : Option Addr} {dc off sn sc : Nat} {dvs rvs : List Value} {v : Value} {SR RS : List Chunk} (hD : DRow dq dc dvs (v :: rvs) off sq sn sc SR RS) (h : Sat σ w (RS ++ L)) : ∃ rb so, sq = some ⟨rb, so, none⟩ ∧ w.cell? ⟨rb, so + off, none⟩ = some v := by
  obtain ⟨_, _, ⟨rb, junk, sp, rfl, rfl, rfl, h1, h2⟩ | ⟨DR, hS, rfl, hr⟩⟩ := hD
  · refine ⟨rb, 0, rfl, h.ld (.head _) ?_⟩
    rw [List.getElem?_append_right (by omega), List.getElem?_append_right (by omega), show 0 + off - dvs.length - junk.length = 0 by omega]
    rfl
  · obtain ⟨rb, so, scs, e, rfl, hm, hc⟩ := hr 0 v rfl
    exact ⟨rb, so, rfl, h.ld (List.mem_append_left _ (List.mem_append_right _ hm)) hc⟩
theorem DRow.consume {dq sq : Option Addr} {dc off sn sc : Nat} {dvs rvs : List Value} {v : Value} {SR RS : List Chunk} (hD : DRow dq dc dvs (v :: rvs) off sq sn sc SR RS) : DRow dq dc dvs rvs (off + 1) sq sn sc SR RS := by
  obtain ⟨h0, hle, ⟨rb, junk, sp, rfl, rfl, rfl, h1, h2⟩ | ⟨DR, hS, rfl, hr⟩⟩ := hD
  · refine ⟨by simp at h0; omega, hle, .inl ⟨rb, junk ++ [v], sp, rfl, rfl, by simp, by simp; omega, by simp at h2; omega⟩⟩
  · refine ⟨by simp at h0; omega, hle, .inr ⟨DR, hS, rfl, fun j v' hv => ?_⟩⟩
    obtain ⟨rb, so, scs, e, h1, h2, h3⟩ := hr (j + 1) v' (by simpa using hv)
    exact ⟨rb, so, scs, e, h1, h2, by rw [← h3]; congr 1; omega⟩
theorem DRow.take {dq sq : Option Addr} {dc off sn sc k : Nat} {dvs rvs : List Value} {SR RS : List Chunk} (hD : DRow dq dc dvs rvs off sq sn sc SR RS) (hk : k ≤ dvs.length) : DRow dq dc (dvs.take k) rvs off sq sn sc SR RS := by
  obtain ⟨h0, hle, ⟨rb, junk, sp, rfl, rfl, rfl, h1, h2⟩ | ⟨DR, hS, rfl, hr⟩⟩ := hD
  · refine ⟨h0, by rw [List.length_take]; omega, .inl ⟨rb, dvs.drop k ++ junk, sp, rfl, rfl, ?_, by rw [List.length_take, List.length_append, List.length_drop]; omega, h2⟩⟩
    have e : dvs.take k ++ ((dvs.drop k ++ junk) ++ (rvs ++ sp)) = dvs ++ (junk ++ (rvs ++ sp)) := by
      rw [List.append_assoc, ← List.append_assoc (dvs.take k), List.take_append_drop]
    rw [e]
  · refine ⟨h0, by rw [List.length_take]; omega, .inr ⟨DR, ?_, rfl, hr⟩⟩
    have := hS.trunc (k := k) hk
    rw [List.length_take, Nat.min_eq_left hk]
    exact this
theorem DRow.app {ty : TypeId} {dq sq : Option Addr} {dc off sn sc : Nat} {dvs rvs : List Value} {SR RS : List Chunk} {t : TypeId} {b : Nat} (hD : DRow dq dc dvs rvs off sq sn sc SR RS) (h : Sat σ w (RS ++ L)) (ho : dvs.length < off) (hn : dvs.length < 1000000000)
    {C : World → Prop} (hC : ∀ w1 X, Sat σ w1 (X :: (RS ++ L)) → C w1) {K : Option Addr → Nat → Nat → World → Prop}
    (hK : ∀ dq' dc' RS' w', DRow dq' dc' (dvs ++ [ptrV t b]) rvs off sq sn sc SR RS' → Sat σ w' (RS' ++ L) → K dq' (dvs.length + 1) dc' w') :
    ∃ rq rn rc w1, (Instr.buildSlice ty_S_Inline 1 #[(0, ptrV t b)]).run P w = .ok (.slice rq rn rc) w1 ∧ C w1 ∧
      ∃ q' n' c' w2, (Builtin.append_ #[ty_S_Inline, ty_S_Inline] ty #[.slice dq dvs.length dc, .slice rq rn rc]).run P w1 = .ok (.slice q' n' c') w2 ∧ K q' n' c' w2 := by
  obtain ⟨h0, hle, ⟨rb, junk, sp, rfl, rfl, rfl, h1, h2⟩ | ⟨DR, hS, rfl, hr⟩⟩ := hD
  · refine appRoom rowInl h (v := ptrV t b) (by simp; omega) (by omega) rfl rfl (fillI t _) (C := C) (fun w1 X hw => hC w1 X hw) fun w' h => ?_
    have hj : junk ≠ [] := by intro h; subst h; simp at h1; omega
    rw [set_mid hj] at h
    refine hK _ _ _ w' ⟨h0, by simp; omega, .inl ⟨rb, junk.drop 1, sp, rfl, rfl, rfl, ?_, h2⟩⟩ h
    have := List.length_pos_iff.2 hj
    simp; omega
  · have hl := hS.1
    have h : Sat σ w (DR ++ (SR ++ L)) := h.re (by intro _; simp only [List.append_eq, cnt_append, cnt_cons, cnt_nil] <;> omega)
    refine Sat.app1S rowInl hS h (v := ptrV t b) rfl (by simp [ptrV, Value.cells, Value.oneCell']) (fillI _ _) (by omega) (by omega) (by decide) (C := C) (fun w1 X hw => hC w1 X (hw.re (by intro _; simp only [List.append_eq, cnt_append, cnt_cons, cnt_nil] <;> omega))) fun q' c' w' M' hS' h => ?_
    refine hK q' c' (M' ++ SR) w' ⟨h0, ?_, .inr ⟨M', ?_, rfl, hr⟩⟩ (h.re (by intro _; simp only [List.append_eq, cnt_append, cnt_cons, cnt_nil] <;> omega))
    · have := hS'.2.1; simp; omega
    · rw [List.length_append]; exact hS'
theorem DRow.cells {dq sq : Option Addr} {dc off sn sc : Nat} {dvs rvs : List Value} {SR RS : List Chunk} (hD : DRow dq dc dvs rvs off sq sn sc SR RS) (h0 : 0 < dvs.length) : ∃ (rb : Nat) (cs : List Value), dq = some ⟨rb, 0, none⟩ ∧ (rb, cel cs ty_Inline) ∈ RS ∧ ∀ (j : Nat) (v : Value), dvs[j]? = some v → cs[j]? = some v := by
  obtain ⟨_, _, ⟨rb, junk, sp, rfl, rfl, rfl, h1, h2⟩ | ⟨DR, hS, rfl, hr⟩⟩ := hD
  · exact ⟨rb, _, rfl, .head _, fun j v hv => by rw [List.getElem?_append_left (List.getElem?_eq_some_iff.1 hv).1]; exact hv⟩
  · obtain ⟨rb, sp, rfl, rfl⟩ := hS.rowAt h0
    exact ⟨rb, _, rfl, List.mem_append_left _ (.head _), fun j v hv => by rw [List.getElem?_append_left (List.getElem?_eq_some_iff.1 hv).1]; exact hv⟩
theorem DRow.copy {dq sq : Option Addr} {dc off sn sc k : Nat} {dvs rvs : List Value} {SR RS : List Chunk} (hD : DRow dq dc dvs rvs off sq sn sc SR RS) (h : Sat σ w (RS ++ L)) (hk : k < dvs.length) (hn : dvs.length < 1000000000) (hp : ∀ v ∈ dvs, v.oneCell' = true)
    {C : World → Prop} (hC : ∀ w1 X, Sat σ w1 (X ++ (RS ++ L)) → C w1) {K : Option Addr → Nat → Nat → World → Prop}
    (hK : ∀ q n c w' M, Sl 1 ty_Inline q n c (dvs.drop k) M → Sat σ w' (M ++ (RS ++ L)) → K q n c w') :
    ∃ r1 r2 r3, (∀ w, (Instr.sliceAt ty_S_Inline (.slice dq dvs.length dc) (some (.int .i64 k)) none none).run P w = .ok (.slice r1 r2 r3) w) ∧
      ∃ q n c w', (Builtin.append_ #[ty_S_Inline, ty_S_Inline] ty_S_Inline #[.slice none 0 0, .slice r1 r2 r3]).run P w = .ok (.slice q n c) w' ∧ C w' ∧ K q n c w' := by
  obtain ⟨rb, cs, rfl, hm, hc⟩ := hD.cells (by omega)
  have hle := hD.2.1
  refine ⟨_, _, _, fun w => sliceF rowInl.ht rowInl.hi _ dvs.length dc k (by omega) w, ?_⟩
  rw [if_neg (by omega), rowInl.hs]
  simp only [Option.map_some, Addr.add_lit, Nat.zero_add, Nat.mul_one]
  have hsrc : Src P 1 ty_S_Inline (.slice (some ⟨rb, k, none⟩) (dvs.length - k) (dc - k)) (dvs.length - k) (dvs.drop k) w := by
    refine Src.ofSlice w rowInl.ht _ _ _ _ (by simp) (fun j u hu => ?_) (fun v hv => hp v (List.mem_of_mem_drop hv))
    rw [Addr.add_lit]
    refine h.ld (List.mem_append_left _ hm) (hc _ _ ?_)
    rw [List.getElem?_drop] at hu
    exact hu
  obtain ⟨q', c', w', M', hr, hS', h', _⟩ := Sat.app rowInl (ty := ty_S_Inline) (Sl.nil 1 ty_Inline) (M := []) (L := RS ++ L) h hsrc (.inl (by omega)) (by omega) (by omega)
  rw [List.nil_append] at hS'
  exact ⟨q', _, c', w', hr, hC _ M' h', hK q' _ c' w' M' hS' h'⟩
end Go.Proofs.YtejiaegiijokcaaGreatDoor


set_option linter.unusedVariables false
namespace Go.Proofs.YtejiaegiijokcaaGreatDoor
open Go.Proofs Go.IntWalk Go.RowKit
variable {σ : Out} {w : World} {L L' : List Chunk} {R : Ending → World → Prop}
def badEmph (co cc : Bool) (n : Int) (sco scc : Bool) (sn : Int) : Bool := (co && cc || sco && scc) && (Int.tmod (n + sn) 3 == 0 && (Int.tmod n 3 != 0 || Int.tmod sn 3 != 0))
def cand (co cc : Bool) (n : Int) (dst : List Inl) (j : Nat) : Bool := match dst[j]? with
  | some (.emphP _ sco scc _ sn) => !badEmph co cc n sco scc sn
  | _ => false
def trimN (m : Nat) (l : List Nat) : List Nat := (l.reverse.dropWhile fun e => decide (m ≤ e)).reverse
def closeGo (ix : Nat) (co cc : Bool) (n : Int) : Nat → List UInt8 → List Inl → List (List Nat) → List UInt8 × List Inl × List (List Nat)
  | 0, t, dst, st => (t, dst, st)
  | f + 1, t, dst, st => if t = [] then (t, dst, st) else match (st.getD ix []).reverse.find? (cand co cc n dst) with
    | none => (t, dst, st)
    | some j => match dst[j]? with
      | some (.emphP s sco scc si sn) =>
        let d := if 2 ≤ t.length ∧ 2 ≤ s.length then 2 else 1
        let s' := s.take (s.length - d)
        let d1 := dst.take j ++ (if s' = [] then [] else [.emphP s' sco scc si sn])
        let x := if d = 2 then Inl.strong (t.take d) (dst.drop (j + 1)) else .emph (t.take d) (dst.drop (j + 1))
        closeGo ix co cc n f (t.drop d) (d1 ++ [x]) (st.map (trimN d1.length))
      | _ => (t, dst, st)
def ixOf (c : UInt8) : Nat := if c = 95 then 0 else 1
def emphGo : List Inl → List (List Nat) → List Inl → List Inl
  | dst, _, [] => dst
  | dst, st, t :: ts => match t with
    | .openP s _ => emphGo (dst ++ [.plain s]) st ts
    | .emphP s co cc i n =>
      let ix := ixOf (s.headD 0)
      let r := if cc then closeGo ix co cc n s.length s dst st else (s, dst, st)
      if r.1 = [] then emphGo r.2.1 r.2.2 ts
      else if co then emphGo (r.2.1 ++ [.emphP r.1 co cc r.2.1.length n]) (r.2.2.set ix (r.2.2.getD ix [] ++ [r.2.1.length])) ts
      else emphGo (r.2.1 ++ [.plain r.1]) r.2.2 ts
    | t => emphGo (dst ++ [t]) st ts
def emphM (ts : List Inl) : List Inl := emphGo [] [[], [], [], [], []] ts

theorem InlsAt.get : ∀ {ts : List Inl} {vs : List Value} {M : List Chunk} {j : Nat} {t : Inl}, InlsAt ts vs M → ts[j]? = some t → ∃ v Mj, vs[j]? = some v ∧ InlAt t v Mj ∧ ∀ c ∈ Mj, c ∈ M
  | [], vs, M, j, t, h, hj => by simp at hj
  | t' :: ts, vs, M, 0, t, h, hj => by
    obtain ⟨v, vs', M1, M2, rfl, rfl, h1, h2⟩ := h
    simp at hj; subst hj
    exact ⟨v, M1, rfl, h1, fun c hc => List.mem_append_left _ hc⟩
  | t' :: ts, vs, M, j + 1, t, h, hj => by
    obtain ⟨v, vs', M1, M2, rfl, rfl, h1, h2⟩ := h
    obtain ⟨v', Mj, h3, h4, h5⟩ := h2.get (by simpa using hj)
    exact ⟨v', Mj, by simpa using h3, h4, fun c hc => List.mem_append_right _ (h5 c hc)⟩
def emC (b : Nat) (t : List UInt8) (co cc : Bool) (i n : Int) (e : TypeId) : Chunk := (b, cel [.string (bs t), .bool co, .bool cc, .int .i64 i, .int .i64 n] e)
def EntIn (dst : List Inl) (dvs : List Value) (e : Nat × Nat) : Prop := ∃ t co cc n, dst[e.2]? = some (.emphP t co cc (e.2 : Nat) n) ∧ dvs[e.2]? = some (ptrV ty_P_emphPlain e.1) ∧ 0 ≤ n ∧ n ≤ 1000000000 ∧ t ≠ [] ∧ t.length < 1000000000
def StkIn (dst : List Inl) (dvs : List Value) (S : List STK) : Prop := ∀ s ∈ S, s.ent.length < 1000000000 ∧ s.ent.Pairwise (fun a b => a.2 < b.2) ∧ ∀ e ∈ s.ent, EntIn dst dvs e
def idxs (S : List STK) : List (List Nat) := S.map fun s => s.ent.map Prod.snd
theorem ptrV_inj {t : TypeId} {a b : Nat} (h : ptrV t a = ptrV t b) : a = b := by
  simp only [ptrV, Value.iface.injEq, Value.pointer.injEq, Option.some.injEq, Addr.mk.injEq, true_and, and_true] at h
  exact h
theorem EntIn.chunk {dst : List Inl} {dvs : List Value} {DM : List Chunk} {e : Nat × Nat} (hI : InlsAt dst dvs DM) (h : EntIn dst dvs e) : ∃ t co cc n ty, dst[e.2]? = some (.emphP t co cc (e.2 : Nat) n) ∧ emC e.1 t co cc (e.2 : Nat) n ty ∈ DM ∧ 0 ≤ n ∧ n ≤ 1000000000 ∧ t ≠ [] ∧ t.length < 1000000000 := by
  obtain ⟨t, co, cc, n, h1, h2, h3, h4, h5⟩ := h
  obtain ⟨v, Mj, h6, h7, h8⟩ := hI.get h1
  rw [h2] at h6
  obtain rfl := Option.some.inj h6
  obtain ⟨b, ty, hb, rfl⟩ := h7
  have := ptrV_inj hb
  subst this
  exact ⟨t, co, cc, n, ty, h1, h8 _ (.head _), h3, h4, h5⟩
theorem trimE_lt {m : Nat} {es : List (Nat × Nat)} (h : es.Pairwise fun a b => a.2 < b.2) : ∀ e ∈ trimE m es, e.2 < m := by
  induction hn : es.length generalizing es with
  | zero => rw [List.eq_nil_of_length_eq_zero hn]; intro e he; simp [trimE_nil] at he
  | succ k ih =>
    rcases List.eq_nil_or_concat es with rfl | ⟨es', x, rfl⟩
    · simp at hn
    · rw [List.concat_eq_append] at *
      rw [List.pairwise_append] at h
      rw [trimE_snoc]
      split
      · exact ih h.1 (by simp at hn; omega)
      · rename_i hx
        intro e he
        rcases List.mem_append.1 he with he | he
        · have := h.2.2 e he x (by simp); omega
        · simp at he; subst he; omega
theorem trimE_sub {m : Nat} {es : List (Nat × Nat)} {e : Nat × Nat} (h : e ∈ trimE m es) : e ∈ es := by
  rw [trimE_prefix] at h
  exact List.mem_of_mem_take h
theorem trimE_len (m : Nat) (es : List (Nat × Nat)) : (trimE m es).length ≤ es.length := by
  unfold trimE
  have := (List.dropWhile_sublist (fun e : Nat × Nat => decide (m ≤ e.2)) (l := es.reverse)).length_le
  simpa using this
theorem trimE_pw {m : Nat} {es : List (Nat × Nat)} (h : es.Pairwise fun a b => a.2 < b.2) : (trimE m es).Pairwise fun a b => a.2 < b.2 := by
  rw [trimE_prefix]
  exact h.sublist (List.take_sublist ..)
theorem trimE_map (m : Nat) (es : List (Nat × Nat)) : (trimE m es).map Prod.snd = trimN m (es.map Prod.snd) := by
  unfold trimE trimN
  rw [← List.map_reverse (l := es), List.dropWhile_map, List.map_reverse]
  rfl
theorem idxs_trim (m : Nat) (S : List STK) : idxs (S.map (STK.trim m)) = (idxs S).map (trimN m) := by
  simp [idxs, STK.trim, Function.comp_def, trimE_map]

def EM (σ : Out) (b1 b3 pb : Nat) (t : List UInt8) (co cc : Bool) (pi n : Int) (pe : TypeId) (dst : List Inl) (S : List STK) (rvs : List Value) (off : Nat) (sq : Option Addr) (sn sc : Nat) (SR : List Chunk) (L : List Chunk) (w : World) : Prop :=
  ∃ dq dc dvs DM SM RS, InlsAt dst dvs DM ∧ StksAt S SM ∧ S.length = 5 ∧ StkIn dst dvs S ∧ DRow dq dc dvs rvs off sq sn sc SR RS ∧ dst.length < 1000000000 ∧
    Sat σ w (emC pb t co cc pi n pe :: stkC b3 S :: (b1, cel [.slice dq dvs.length dc] ty_S_Inline) :: (SM ++ (DM ++ (RS ++ L))))
theorem EM.tick {b1 b3 pb : Nat} {t : List UInt8} {co cc : Bool} {pi n : Int} {pe : TypeId} {dst : List Inl} {S : List STK} {rvs : List Value} {off : Nat} {sq : Option Addr} {sn sc : Nat} {SR : List Chunk} (h : EM σ b1 b3 pb t co cc pi n pe dst S rvs off sq sn sc SR L w) :
    EM σ b1 b3 pb t co cc pi n pe dst S rvs off sq sn sc SR L (tick w) := by
  obtain ⟨dq, dc, dvs, DM, SM, RS, h1, h2, h3, h4, h5, h6, h7⟩ := h
  exact ⟨dq, dc, dvs, DM, SM, RS, h1, h2, h3, h4, h5, h6, h7.tick⟩
theorem tPart {pb sb : Nat} {n sn : Int} (hn : 0 ≤ n ∧ n ≤ 1000000000) (hsn : 0 ≤ sn ∧ sn ≤ 1000000000) (h1 : w.cell? ⟨pb, 4, none⟩ = some (.int .i64 n)) (h2 : w.cell? ⟨sb, 4, none⟩ = some (.int .i64 sn)) {A B : Prop}
    (h : if Int.tmod (n + sn) 3 == 0 && (Int.tmod n 3 != 0 || Int.tmod sn 3 != 0) then A else B) :
    nilP (some (⟨pb, 0, none⟩ : Addr)) fun a62 => nilP (some (⟨sb, 0, none⟩ : Addr)) fun a63 => ∃ (v64 : Int), w.cell? (a62.add 4) = some (.int .i64 v64) ∧ ∃ (v65 : Int), w.cell? (a63.add 4) = some (.int .i64 v65) ∧
      (3 : Int) ≠ 0 ∧ br ((Int.tmod (IntKind.i64.wrap (v64 + v65)) 3) == 0)
        (nilP (some (⟨pb, 0, none⟩ : Addr)) fun a66 => ∃ (v67 : Int), w.cell? (a66.add 4) = some (.int .i64 v67) ∧ (3 : Int) ≠ 0 ∧ br ((Int.tmod v67 3) != 0) A
          (nilP (some (⟨sb, 0, none⟩ : Addr)) fun a68 => ∃ (v69 : Int), w.cell? (a68.add 4) = some (.int .i64 v69) ∧ (3 : Int) ≠ 0 ∧ br ((Int.tmod v69 3) != 0) A B)) B := by
  refine nilP_some (nilP_some ⟨n, h1, sn, h2, by decide, ?_⟩)
  rw [i64_in _ (by omega)]
  cases e1 : (Int.tmod (n + sn) 3 == 0) with
  | false => rw [e1] at h; exact br_false rfl (by simpa using h)
  | true =>
    refine br_true rfl (nilP_some ⟨n, h1, by decide, ?_⟩)
    cases e2 : (Int.tmod n 3 != 0) with
    | true => rw [e1, e2] at h; exact br_true rfl (by simpa using h)
    | false =>
      refine br_false rfl (nilP_some ⟨sn, h2, by decide, ?_⟩)
      cases e3 : (Int.tmod sn 3 != 0) with
      | true => rw [e1, e2, e3] at h; exact br_true rfl (by simpa using h)
      | false => rw [e1, e2, e3] at h; exact br_false rfl (by simpa using h)
theorem uPart {sb : Nat} {sco scc : Bool} (h1 : w.cell? ⟨sb, 1, none⟩ = some (.bool sco)) (h2 : w.cell? ⟨sb, 2, none⟩ = some (.bool scc)) {T B : Prop} (h : if sco && scc then T else B) :
    nilP (some (⟨sb, 0, none⟩ : Addr)) fun a70 => ∃ (v71 : Bool), w.cell? (a70.add 1) = some (.bool v71) ∧ br v71 (nilP (some (⟨sb, 0, none⟩ : Addr)) fun a72 => ∃ (v73 : Bool), w.cell? (a72.add 2) = some (.bool v73) ∧ br v73 T B) B := by
  refine nilP_some ⟨sco, h1, ?_⟩
  cases sco with
  | false => exact br_false rfl (by simpa using h)
  | true =>
    refine br_true rfl (nilP_some ⟨scc, h2, ?_⟩)
    cases scc with
    | false => exact br_false rfl (by simpa using h)
    | true => exact br_true rfl (by simpa using h)
end Go.Proofs.YtejiaegiijokcaaGreatDoor


set_option linter.unusedVariables false
namespace Go.Proofs.YtejiaegiijokcaaGreatDoor
open Go.Proofs Go.IntWalk Go.RowKit
variable {σ : Out} {w : World} {L L' : List Chunk} {R : Ending → World → Prop}
theorem tk_gen {w : World} {K A : World → Prop} (hA : A (tick w)) (h : ∀ w', A w' → K w') : tk w K := h _ hA
abbrev cl1 : Value := .func (.func i_parseState_emph_1) #[] #[]
abbrev cl2 (b3 b1 : Nat) : Value := .func (.func i_parseState_emph_2) #[] #[.pointer (some ⟨b3, 0, none⟩), .pointer (some ⟨b1, 0, none⟩)]
abbrev XA := Option Addr → Nat → Nat → Nat → Nat → Value → Value → Int → World → Prop
abbrev XB := Option Addr → Nat → Nat → Nat → Nat → Value → Value → Int → Option Addr → Option Addr → World → Prop
abbrev XC := Option Addr → Nat → Nat → Nat → Nat → Value → Value → Int → Option Addr → Option Addr → Int → World → Prop
def isEm (c : UInt8) : Prop := c = 42 ∨ c = 95
theorem bt0 {t : List UInt8} {c : UInt8} (h : t.head? = some c) : bt (bs t) 0 = (c.toNat : Int) := by
  cases t with
  | nil => simp at h
  | cons x t => simp at h; subst h; rfl
theorem head_ne {t : List UInt8} {c : UInt8} (h : t.head? = some c) : t ≠ [] := by intro h0; subst h0; simp at h
theorem head_pos {t : List UInt8} {c : UInt8} (h : t.head? = some c) : 0 < ((bs t).size : Int) := by
  cases t with
  | nil => simp at h
  | cons x t => simp
def dOf (t s : List UInt8) : Nat := if 2 ≤ t.length ∧ 2 ≤ s.length then 2 else 1

theorem search_ok {Xa : XA} {Xb : XB} {Xc : XC} {b1 b3 pb ix off : Nat} {t : List UInt8} {c : UInt8} {co cc : Bool} {pi n x10 : Int} {pe : TypeId} {dst : List Inl} {S : List STK} {s : STK} {rvs : List Value} {sq : Option Addr} {sn sc : Nat} {SR : List Chunk}
    (h : EM σ b1 b3 pb t co cc pi n pe dst S rvs off sq sn sc SR L w) (htc : t.head? = some c) (hc : isEm c) (hn : 0 ≤ n ∧ n ≤ 1000000000) (hs : S[ix]? = some s)
    (hXc : ∀ x16 w, g_parseState_emph.bl3 R Xa Xb Xc sq sn sc b1 b3 cl1 (cl2 b3 b1) x10 (some ⟨pb, 0, none⟩) (some ⟨b3, ix, none⟩) x16 w → Xc sq sn sc b1 b3 cl1 (cl2 b3 b1) x10 (some ⟨pb, 0, none⟩) (some ⟨b3, ix, none⟩) x16 w)
    (hnone : (∀ e ∈ s.ent, cand co cc n dst e.2 = false) → ∀ w, EM σ b1 b3 pb t co cc pi n pe dst S rvs off sq sn sc SR L w → g_parseState_emph.k1 R Xa sq sn sc b1 b3 cl1 (cl2 b3 b1) x10 (some ⟨pb, 0, none⟩) w)
    (hfound : ∀ es1 e es2 st sco scc sn', s.ent = es1 ++ e :: es2 → cand co cc n dst e.2 = true → (∀ x ∈ es2, cand co cc n dst x.2 = false) → dst[e.2]? = some (.emphP st sco scc (e.2 : Nat) sn') → ∀ w, EM σ b1 b3 pb t co cc pi n pe dst S rvs off sq sn sc SR L w →
      g_parseState_emph.k6 R Xa Xb Xc sq sn sc b1 b3 cl1 (cl2 b3 b1) x10 (some ⟨pb, 0, none⟩) (some ⟨b3, ix, none⟩) (some ⟨e.1, 0, none⟩) (dOf t st : Nat) w) :
    Xc sq sn sc b1 b3 cl1 (cl2 b3 b1) x10 (some ⟨pb, 0, none⟩) (some ⟨b3, ix, none⟩) (IntKind.i64.wrap ((s.n : Int) - 1)) w := by
  have hsS : s ∈ S := List.mem_of_getElem? hs
  have hsn : s.n = s.ent.length ∧ s.ent.length < 1000000000 := by
    obtain ⟨dq, dc, dvs, DM, SM, RS, h1, h2, h3, h4, h5, h6, h7⟩ := h
    obtain ⟨A, B, rfl⟩ := List.append_of_mem hsS
    obtain ⟨M1, M2, M3, rfl, _, hok, _⟩ := h2.split
    have := hok.1
    simp at this
    exact ⟨by omega, (h4 s hsS).1⟩
  have key : ∀ (es1 es2 : List (Nat × Nat)) w, s.ent = es1 ++ es2 → (∀ x ∈ es2, cand co cc n dst x.2 = false) → EM σ b1 b3 pb t co cc pi n pe dst S rvs off sq sn sc SR L w →
      Xc sq sn sc b1 b3 cl1 (cl2 b3 b1) x10 (some ⟨pb, 0, none⟩) (some ⟨b3, ix, none⟩) ((es1.length : Int) - 1) w := by
    intro es1
    induction hk : es1.length generalizing es1 with
    | zero =>
      intro es2 w he hno h
      have : es1 = [] := List.eq_nil_of_length_eq_zero hk
      subst this
      refine hXc _ _ (br_false (by simp) ?_)
      exact hnone (by rw [he]; simpa using hno) w h
    | succ k ih =>
      intro es2 w he hno h
      obtain ⟨es1', e, rfl⟩ : ∃ es' e, es1 = es' ++ [e] := by
        rcases List.eq_nil_or_concat es1 with rfl | ⟨es', e, rfl⟩
        · simp at hk
        · exact ⟨es', e, by simp⟩
      simp at hk
      have hx : (((k + 1 : Nat) : Int) - 1) = (k : Int) := by omega
      rw [hx]
      have hsl : s.ent.length = k + 1 + es2.length := by rw [he]; simp; omega
      have hmem : e ∈ s.ent := by rw [he]; simp
      have hnext : cand co cc n dst e.2 = false → ∀ w, EM σ b1 b3 pb t co cc pi n pe dst S rvs off sq sn sc SR L w → Xc sq sn sc b1 b3 cl1 (cl2 b3 b1) x10 (some ⟨pb, 0, none⟩) (some ⟨b3, ix, none⟩) (IntKind.i64.wrap ((k : Int) - 1)) w := by
        intro hbad w h
        rw [i64_in _ (by omega)]
        have := ih es1' hk (e :: es2) w (by rw [he]; simp) (fun x hx => (List.mem_cons.1 hx).elim (fun h => h ▸ hbad) (hno x)) h
        rw [← hk] at this ⊢
        exact this
      have h0 := h
      obtain ⟨dq, dc, dvs, DM, SM, RS, h1, h2, h3, h4, h5, h6, h7⟩ := h
      obtain ⟨st, sco, scc, sn', ty, hd, hch, hn1, hn2, hst⟩ := ((h4 s hsS).2.2 e hmem).chunk h1
      have hcand : cand co cc n dst e.2 = !badEmph co cc n sco scc sn' := by unfold cand; rw [hd]
      refine hXc _ _ (br_true (by simp) (nilP_some ?_))
      have hsc : w.cell? ⟨b3, ix, none⟩ = some (.slice s.q s.n s.c) := by
        refine Sat.ld h7 (.tail _ (.head _)) ?_
        rw [List.getElem?_map, hs]; rfl
      refine ⟨_, _, _, hsc, by omega, by omega, ?_⟩
      obtain ⟨A, B, hAB⟩ := List.append_of_mem hsS
      have h2' := h2
      rw [hAB] at h2'
      obtain ⟨M1, M2, M3, rfl, _, hok, _⟩ := h2'.split
      have hvs : (s.ent.map entV)[k]? = some (.pointer (some ⟨e.1, 0, none⟩)) := by
        rw [he]; simp [entV, hk]
      have hM : Sat σ w (M2 ++ (emC pb t co cc pi n pe :: stkC b3 S :: (b1, cel [.slice dq dvs.length dc] ty_S_Inline) :: (M1 ++ (M3 ++ (DM ++ (RS ++ L)))))) := h7.re (by intro _; simp only [List.append_eq, cnt_append, cnt_cons, cnt_nil] <;> omega)
      refine Sl.loadAt hok hM hvs fun rb hq hcell => ?_
      simp only [Addr.add_lit, Int.toNat_natCast, Nat.mul_one, Nat.zero_add]
      refine ⟨_, hcell, ?_⟩
      refine tk_gen (A := fun w => EM σ b1 b3 pb t co cc pi n pe dst S rvs off sq sn sc SR L w ∧ Sat σ w (emC pb t co cc pi n pe :: stkC b3 S :: (b1, cel [.slice dq dvs.length dc] ty_S_Inline) :: ((M1 ++ (M2 ++ M3)) ++ (DM ++ (RS ++ L))))) ⟨h0.tick, h7.tick⟩ fun w hA => ?_
      obtain ⟨h0, h7⟩ := hA
      have hp : ∀ (k : Nat) (v : Value), ([Value.string (bs t), .bool co, .bool cc, .int .i64 pi, .int .i64 n])[k]? = some v → w.cell? ⟨pb, k, none⟩ = some v := fun k v hv => Sat.ld h7 (.head _) hv
      have hst' : ∀ (k : Nat) (v : Value), ([Value.string (bs st), .bool sco, .bool scc, .int .i64 (e.2 : Nat), .int .i64 sn'])[k]? = some v → w.cell? ⟨e.1, k, none⟩ = some v := fun k v hv =>
        Sat.ld h7 (.tail _ (.tail _ (.tail _ (List.mem_append_right _ (List.mem_append_left _ hch))))) hv
      have k3 : cand co cc n dst e.2 = true → g_parseState_emph.k3 R Xa Xb Xc sq sn sc b1 b3 cl1 (cl2 b3 b1) x10 (some ⟨pb, 0, none⟩) (some ⟨b3, ix, none⟩) (k : Int) (some ⟨e.1, 0, none⟩) w := by
        intro hgood
        have fnd := fun w h => hfound es1' e es2 st sco scc sn' (by rw [he]; simp) hgood hno hd w h
        refine tk_gen (A := fun w => EM σ b1 b3 pb t co cc pi n pe dst S rvs off sq sn sc SR L w ∧ Sat σ w (emC pb t co cc pi n pe :: stkC b3 S :: (b1, cel [.slice dq dvs.length dc] ty_S_Inline) :: ((M1 ++ (M2 ++ M3)) ++ (DM ++ (RS ++ L))))) ⟨h0.tick, h7.tick⟩ fun w hA => ?_
        obtain ⟨h0, h7⟩ := hA
        have hp : ∀ (k : Nat) (v : Value), ([Value.string (bs t), .bool co, .bool cc, .int .i64 pi, .int .i64 n])[k]? = some v → w.cell? ⟨pb, k, none⟩ = some v := fun k v hv => Sat.ld h7 (.head _) hv
        have hst' : ∀ (k : Nat) (v : Value), ([Value.string (bs st), .bool sco, .bool scc, .int .i64 (e.2 : Nat), .int .i64 sn'])[k]? = some v → w.cell? ⟨e.1, k, none⟩ = some v := fun k v hv =>
          Sat.ld h7 (.tail _ (.tail _ (.tail _ (List.mem_append_right _ (List.mem_append_left _ hch))))) hv
        refine nilP_some ⟨_, hp 0 _ rfl, by omega, head_pos htc, ?_⟩
        rw [bt0 htc]
        refine br_false (by rcases hc with rfl | rfl <;> rfl) ?_
        refine nilP_some ⟨_, hp 0 _ rfl, by omega, head_pos htc, ?_⟩
        rw [bt0 htc]
        refine br_false (by rcases hc with rfl | rfl <;> rfl) ?_
        refine nilP_some ⟨_, hp 0 _ rfl, by omega, head_pos htc, ?_⟩
        rw [bt0 htc]
        refine br_false (by rcases hc with rfl | rfl <;> rfl) ?_
        refine nilP_some ⟨_, hp 0 _ rfl, ?_⟩
        rw [bs_size]
        have fnd := fnd w h0
        unfold dOf at fnd
        by_cases ht2 : 2 ≤ t.length
        · refine br_true (by simp; omega) (nilP_some ⟨_, hst' 0 _ rfl, ?_⟩)
          rw [bs_size]
          by_cases hs2 : 2 ≤ st.length
          · rw [if_pos ⟨ht2, hs2⟩] at fnd
            exact br_true (by simp; omega) fnd
          · rw [if_neg (by omega)] at fnd
            exact br_false (by simp; omega) fnd
        · rw [if_neg (by omega)] at fnd
          exact br_false (by simp; omega) fnd
      have body : nilP (some (⟨pb, 0, none⟩ : Addr)) fun a58 => ∃ (v59 : Bool), w.cell? (a58.add 1) = some (.bool v59) ∧ br v59
          (nilP (some (⟨pb, 0, none⟩ : Addr)) fun a60 => ∃ (v61 : Bool), w.cell? (a60.add 2) = some (.bool v61) ∧ br v61
            (nilP (some (⟨pb, 0, none⟩ : Addr)) fun a62 => nilP (some (⟨e.1, 0, none⟩ : Addr)) fun a63 => ∃ (v64 : Int), w.cell? (a62.add 4) = some (.int .i64 v64) ∧ ∃ (v65 : Int), w.cell? (a63.add 4) = some (.int .i64 v65) ∧
              (3 : Int) ≠ 0 ∧ br ((Int.tmod (IntKind.i64.wrap (v64 + v65)) 3) == 0)
                (nilP (some (⟨pb, 0, none⟩ : Addr)) fun a66 => ∃ (v67 : Int), w.cell? (a66.add 4) = some (.int .i64 v67) ∧ (3 : Int) ≠ 0 ∧ br ((Int.tmod v67 3) != 0) (Xc sq sn sc b1 b3 cl1 (cl2 b3 b1) x10 (some ⟨pb, 0, none⟩) (some ⟨b3, ix, none⟩) (IntKind.i64.wrap ((k : Int) - 1)) w)
                  (nilP (some (⟨e.1, 0, none⟩ : Addr)) fun a68 => ∃ (v69 : Int), w.cell? (a68.add 4) = some (.int .i64 v69) ∧ (3 : Int) ≠ 0 ∧ br ((Int.tmod v69 3) != 0) (Xc sq sn sc b1 b3 cl1 (cl2 b3 b1) x10 (some ⟨pb, 0, none⟩) (some ⟨b3, ix, none⟩) (IntKind.i64.wrap ((k : Int) - 1)) w)
                    (g_parseState_emph.k3 R Xa Xb Xc sq sn sc b1 b3 cl1 (cl2 b3 b1) x10 (some ⟨pb, 0, none⟩) (some ⟨b3, ix, none⟩) (k : Int) (some ⟨e.1, 0, none⟩) w)))
                (g_parseState_emph.k3 R Xa Xb Xc sq sn sc b1 b3 cl1 (cl2 b3 b1) x10 (some ⟨pb, 0, none⟩) (some ⟨b3, ix, none⟩) (k : Int) (some ⟨e.1, 0, none⟩) w))
            (nilP (some (⟨e.1, 0, none⟩ : Addr)) fun a70 => ∃ (v71 : Bool), w.cell? (a70.add 1) = some (.bool v71) ∧ br v71 (nilP (some (⟨e.1, 0, none⟩ : Addr)) fun a72 => ∃ (v73 : Bool), w.cell? (a72.add 2) = some (.bool v73) ∧ br v73
              (nilP (some (⟨pb, 0, none⟩ : Addr)) fun a62 => nilP (some (⟨e.1, 0, none⟩ : Addr)) fun a63 => ∃ (v64 : Int), w.cell? (a62.add 4) = some (.int .i64 v64) ∧ ∃ (v65 : Int), w.cell? (a63.add 4) = some (.int .i64 v65) ∧
                (3 : Int) ≠ 0 ∧ br ((Int.tmod (IntKind.i64.wrap (v64 + v65)) 3) == 0)
                  (nilP (some (⟨pb, 0, none⟩ : Addr)) fun a66 => ∃ (v67 : Int), w.cell? (a66.add 4) = some (.int .i64 v67) ∧ (3 : Int) ≠ 0 ∧ br ((Int.tmod v67 3) != 0) (Xc sq sn sc b1 b3 cl1 (cl2 b3 b1) x10 (some ⟨pb, 0, none⟩) (some ⟨b3, ix, none⟩) (IntKind.i64.wrap ((k : Int) - 1)) w)
                    (nilP (some (⟨e.1, 0, none⟩ : Addr)) fun a68 => ∃ (v69 : Int), w.cell? (a68.add 4) = some (.int .i64 v69) ∧ (3 : Int) ≠ 0 ∧ br ((Int.tmod v69 3) != 0) (Xc sq sn sc b1 b3 cl1 (cl2 b3 b1) x10 (some ⟨pb, 0, none⟩) (some ⟨b3, ix, none⟩) (IntKind.i64.wrap ((k : Int) - 1)) w)
                      (g_parseState_emph.k3 R Xa Xb Xc sq sn sc b1 b3 cl1 (cl2 b3 b1) x10 (some ⟨pb, 0, none⟩) (some ⟨b3, ix, none⟩) (k : Int) (some ⟨e.1, 0, none⟩) w)))
                  (g_parseState_emph.k3 R Xa Xb Xc sq sn sc b1 b3 cl1 (cl2 b3 b1) x10 (some ⟨pb, 0, none⟩) (some ⟨b3, ix, none⟩) (k : Int) (some ⟨e.1, 0, none⟩) w))
              (g_parseState_emph.k3 R Xa Xb Xc sq sn sc b1 b3 cl1 (cl2 b3 b1) x10 (some ⟨pb, 0, none⟩) (some ⟨b3, ix, none⟩) (k : Int) (some ⟨e.1, 0, none⟩) w))
              (g_parseState_emph.k3 R Xa Xb Xc sq sn sc b1 b3 cl1 (cl2 b3 b1) x10 (some ⟨pb, 0, none⟩) (some ⟨b3, ix, none⟩) (k : Int) (some ⟨e.1, 0, none⟩) w)))
          (nilP (some (⟨e.1, 0, none⟩ : Addr)) fun a70 => ∃ (v71 : Bool), w.cell? (a70.add 1) = some (.bool v71) ∧ br v71 (nilP (some (⟨e.1, 0, none⟩ : Addr)) fun a72 => ∃ (v73 : Bool), w.cell? (a72.add 2) = some (.bool v73) ∧ br v73
              (nilP (some (⟨pb, 0, none⟩ : Addr)) fun a62 => nilP (some (⟨e.1, 0, none⟩ : Addr)) fun a63 => ∃ (v64 : Int), w.cell? (a62.add 4) = some (.int .i64 v64) ∧ ∃ (v65 : Int), w.cell? (a63.add 4) = some (.int .i64 v65) ∧
                (3 : Int) ≠ 0 ∧ br ((Int.tmod (IntKind.i64.wrap (v64 + v65)) 3) == 0)
                  (nilP (some (⟨pb, 0, none⟩ : Addr)) fun a66 => ∃ (v67 : Int), w.cell? (a66.add 4) = some (.int .i64 v67) ∧ (3 : Int) ≠ 0 ∧ br ((Int.tmod v67 3) != 0) (Xc sq sn sc b1 b3 cl1 (cl2 b3 b1) x10 (some ⟨pb, 0, none⟩) (some ⟨b3, ix, none⟩) (IntKind.i64.wrap ((k : Int) - 1)) w)
                    (nilP (some (⟨e.1, 0, none⟩ : Addr)) fun a68 => ∃ (v69 : Int), w.cell? (a68.add 4) = some (.int .i64 v69) ∧ (3 : Int) ≠ 0 ∧ br ((Int.tmod v69 3) != 0) (Xc sq sn sc b1 b3 cl1 (cl2 b3 b1) x10 (some ⟨pb, 0, none⟩) (some ⟨b3, ix, none⟩) (IntKind.i64.wrap ((k : Int) - 1)) w)
                      (g_parseState_emph.k3 R Xa Xb Xc sq sn sc b1 b3 cl1 (cl2 b3 b1) x10 (some ⟨pb, 0, none⟩) (some ⟨b3, ix, none⟩) (k : Int) (some ⟨e.1, 0, none⟩) w)))
                  (g_parseState_emph.k3 R Xa Xb Xc sq sn sc b1 b3 cl1 (cl2 b3 b1) x10 (some ⟨pb, 0, none⟩) (some ⟨b3, ix, none⟩) (k : Int) (some ⟨e.1, 0, none⟩) w))
              (g_parseState_emph.k3 R Xa Xb Xc sq sn sc b1 b3 cl1 (cl2 b3 b1) x10 (some ⟨pb, 0, none⟩) (some ⟨b3, ix, none⟩) (k : Int) (some ⟨e.1, 0, none⟩) w))
              (g_parseState_emph.k3 R Xa Xb Xc sq sn sc b1 b3 cl1 (cl2 b3 b1) x10 (some ⟨pb, 0, none⟩) (some ⟨b3, ix, none⟩) (k : Int) (some ⟨e.1, 0, none⟩) w)) := by
        have tp : (co && cc || sco && scc) = true → if Int.tmod (n + sn') 3 == 0 && (Int.tmod n 3 != 0 || Int.tmod sn' 3 != 0) then (Xc sq sn sc b1 b3 cl1 (cl2 b3 b1) x10 (some ⟨pb, 0, none⟩) (some ⟨b3, ix, none⟩) (IntKind.i64.wrap ((k : Int) - 1)) w)
            else (g_parseState_emph.k3 R Xa Xb Xc sq sn sc b1 b3 cl1 (cl2 b3 b1) x10 (some ⟨pb, 0, none⟩) (some ⟨b3, ix, none⟩) (k : Int) (some ⟨e.1, 0, none⟩) w) := by
          intro hcc
          split
          · rename_i hb
            exact hnext (by rw [hcand]; unfold badEmph; rw [hcc, hb]; rfl) w h0
          · rename_i hb
            exact k3 (by rw [hcand]; unfold badEmph; rw [hcc]; simp only [Bool.not_eq_true] at hb; rw [hb]; rfl)
        refine nilP_some ⟨co, hp 1 _ rfl, ?_⟩
        cases hco : co with
        | false => exact br_false rfl (uPart (hst' 1 _ rfl) (hst' 2 _ rfl) (by
            split
            · rename_i hb; exact tPart hn ⟨hn1, hn2⟩ (hp 4 _ rfl) (hst' 4 _ rfl) (tp (by rw [hb]; simp))
            · rename_i hb; simp only [Bool.not_eq_true] at hb; exact k3 (by rw [hcand]; unfold badEmph; rw [hco, hb]; rfl)))
        | true =>
          refine br_true rfl (nilP_some ⟨cc, hp 2 _ rfl, ?_⟩)
          cases hcc : cc with
          | false => exact br_false rfl (uPart (hst' 1 _ rfl) (hst' 2 _ rfl) (by
            split
            · rename_i hb; exact tPart hn ⟨hn1, hn2⟩ (hp 4 _ rfl) (hst' 4 _ rfl) (tp (by rw [hb]; simp))
            · rename_i hb; simp only [Bool.not_eq_true] at hb; exact k3 (by rw [hcand]; unfold badEmph; rw [hco, hcc, hb]; rfl)))
          | true => exact br_true rfl (tPart hn ⟨hn1, hn2⟩ (hp 4 _ rfl) (hst' 4 _ rfl) (tp (by rw [hco, hcc]; rfl)))
      refine nilP_some ⟨_, hp 0 _ rfl, by omega, head_pos htc, ?_⟩
      rw [bt0 htc]
      rcases hc with rfl | rfl
      · exact br_true rfl body
      · refine br_false rfl (nilP_some ⟨_, hp 0 _ rfl, by omega, head_pos htc, ?_⟩)
        rw [bt0 htc]
        exact br_true rfl body
  rw [hsn.1, i64_in _ (by omega)]
  exact key s.ent [] w (by simp) (by simp) h
end Go.Proofs.YtejiaegiijokcaaGreatDoor


set_option linter.unusedVariables false
namespace Go.Proofs.YtejiaegiijokcaaGreatDoor
open Go.Proofs Go.IntWalk Go.RowKit
variable {σ : Out} {w : World} {L L' : List Chunk} {R : Ending → World → Prop}
def cutS (st : List UInt8) (d : Nat) : List UInt8 := st.take (st.length - d)
def d1Of (dst : List Inl) (j : Nat) (s' : List UInt8) (sco scc : Bool) (si sn : Int) : List Inl := dst.take j ++ (if s' = [] then [] else [.emphP s' sco scc si sn])
def xOf (t : List UInt8) (d : Nat) (inner : List Inl) : Inl := if d = 2 then Inl.strong (t.take d) inner else .emph (t.take d) inner
theorem bs_nil_eq (s : List UInt8) : ((bs s).toList == (ByteArray.mk #[]).toList) = decide (s = []) := by
  rw [bs_toList, mk_toList, Bool.eq_iff_iff]; simp
theorem InlAt.oneCell {t : Inl} {v : Value} {M : List Chunk} (h : InlAt t v M) : v.oneCell' = true := by
  obtain ⟨b, _, _, _, rfl, _⟩ := h.ptr; rfl
theorem InlsAt.oneCell {ts : List Inl} {vs : List Value} {M : List Chunk} (h : InlsAt ts vs M) : ∀ v ∈ vs, v.oneCell' = true := by
  intro v hv
  obtain ⟨j, hj⟩ := List.mem_iff_getElem?.1 hv
  have hl := h.length
  have hjl := (List.getElem?_eq_some_iff.1 hj).1
  obtain ⟨v', Mj, h1, h2, _⟩ := h.get (List.getElem?_eq_getElem (show j < ts.length by omega))
  rw [hj] at h1
  obtain rfl := Option.some.inj h1
  exact h2.oneCell
theorem step_ok {Xa : XA} {Xb : XB} {Xc : XC} {b1 b3 pb ix off : Nat} {t st : List UInt8} {c : UInt8} {co cc sco scc : Bool} {pi n x10 sn' : Int} {pe : TypeId} {dst : List Inl} {S : List STK} {s : STK} {rvs : List Value} {sq : Option Addr} {sn sc : Nat} {SR : List Chunk} {e : Nat × Nat}
    (h : EM σ b1 b3 pb t co cc pi n pe dst S rvs off sq sn sc SR L w) (htc : t.head? = some c) (hc : isEm c) (hs : S[ix]? = some s) (hse : e ∈ s.ent) (hd : dst[e.2]? = some (.emphP st sco scc (e.2 : Nat) sn')) (hin : e.2 + 1 < dst.length) (hoff : dst.length ≤ off) (htl : t.length < 1000000000)
    (hK : ∀ w, EM σ b1 b3 pb (t.drop (dOf t st)) co cc pi n pe (d1Of dst e.2 (cutS st (dOf t st)) sco scc (e.2 : Nat) sn' ++ [xOf t (dOf t st) (dst.drop (e.2 + 1))]) (S.map (STK.trim (d1Of dst e.2 (cutS st (dOf t st)) sco scc (e.2 : Nat) sn').length)) rvs off sq sn sc SR L w →
      Xb sq sn sc b1 b3 cl1 (cl2 b3 b1) x10 (some ⟨pb, 0, none⟩) (some ⟨b3, ix, none⟩) w) :
    g_parseState_emph.k6 R Xa Xb Xc sq sn sc b1 b3 cl1 (cl2 b3 b1) x10 (some ⟨pb, 0, none⟩) (some ⟨b3, ix, none⟩) (some ⟨e.1, 0, none⟩) (dOf t st : Nat) w := by
  obtain ⟨dq, dc, dvs, DM, SM, RS, hI, hSt, h5, hSI, hD, hdl, h⟩ := h
  have hsS : s ∈ S := List.mem_of_getElem? hs
  have hEe := (hSI s hsS).2.2 e hse
  have hvl := hI.length
  have hone := hI.oneCell
  have hsp : dst = dst.take e.2 ++ (.emphP st sco scc (e.2 : Nat) sn') :: dst.drop (e.2 + 1) := by
    have hj : e.2 < dst.length := by omega
    have hg : dst[e.2] = .emphP st sco scc (e.2 : Nat) sn' := by rw [List.getElem?_eq_getElem hj] at hd; exact Option.some.inj hd
    rw [← hg, ← List.drop_eq_getElem_cons hj, List.take_append_drop]
  have hI' := hI
  rw [hsp] at hI'
  obtain ⟨vs1, v, vs2, D1, D2, D3, hdv, rfl, hI1, hv, hI3⟩ := hI'.mid
  have hl1 : vs1.length = e.2 := by have := hI1.length; rw [List.length_take] at this; omega
  obtain ⟨sb, se, rfl, rfl⟩ := hv
  have hsb : sb = e.1 := by
    obtain ⟨_, _, _, _, _, h2, _⟩ := hEe
    rw [hdv, List.getElem?_append_right (by omega), hl1] at h2
    simp at h2
    exact ptrV_inj h2
  subst hsb
  obtain ⟨hst0, hsn0, hsn1, hsl⟩ : st ≠ [] ∧ 0 ≤ sn' ∧ sn' ≤ 1000000000 ∧ st.length < 1000000000 := by
    obtain ⟨t', co', cc', n', h1, h2, h3, h4, h5⟩ := hEe
    rw [hd] at h1
    simp only [Option.some.injEq, Inl.emphP.injEq] at h1
    obtain ⟨rfl, rfl, rfl, _, rfl⟩ := h1
    exact ⟨h5.1, h3, h4, h5.2⟩
  have htp := List.length_pos_iff.2 (head_ne htc)
  have hstp := List.length_pos_iff.2 hst0
  generalize hdd : dOf t st = d at hK ⊢
  have hd12 : (d = 1 ∨ d = 2) ∧ d ≤ t.length ∧ d ≤ st.length := by
    rw [← hdd]; unfold dOf; split <;> omega
  obtain ⟨hd12, hdt, hds⟩ := hd12
  have hdrop : dvs.drop (e.2 + 1) = vs2 := by rw [hdv, List.drop_append, List.drop_eq_nil_of_le (by omega), hl1]; simp
  have htake : dvs.take e.2 = vs1 := by rw [hdv, List.take_append_of_le_length (by omega), List.take_of_length_le (by omega)]
  have htake1 : dvs.take (e.2 + 1) = vs1 ++ [ptrV ty_P_emphPlain e.1] := by
    rw [hdv, List.take_append, List.take_of_length_le (by omega), hl1]; simp
  have h : Sat σ w (emC pb t co cc pi n pe :: stkC b3 S :: (b1, cel [.slice dq dvs.length dc] ty_S_Inline) :: (SM ++ ((D1 ++ ([emC e.1 st sco scc (e.2 : Nat) sn' se] ++ D3)) ++ (RS ++ L)))) := h
  have h : Sat σ w (emC pb t co cc pi n pe :: emC e.1 st sco scc (e.2 : Nat) sn' se :: (b1, cel [.slice dq dvs.length dc] ty_S_Inline) :: stkC b3 S :: (SM ++ (D1 ++ (D3 ++ (RS ++ L))))) := h.re (by intro _; simp only [List.append_eq, cnt_append, cnt_cons, cnt_nil] <;> omega)
  refine nilP_some ⟨_, Sat.ld h (.head _) rfl, by omega, head_pos htc, ?_⟩
  refine Sat.tk h fun w h => ?_
  refine nilP_some (nilP_some ?_)
  refine ⟨_, Sat.ld h (.head _) rfl, by omega, by rw [bs_size]; omega, ?_⟩
  refine ⟨_, _, _, Sat.ld h (.tail _ (.tail _ (.head _))) rfl, ?_⟩
  refine ⟨_, Sat.ld h (.tail _ (.head _)) rfl, ?_⟩
  have e1 : IntKind.i64.wrap (((e.2 : Nat) : Int) + 1) = ((e.2 + 1 : Nat) : Int) := i64_inc (by omega)
  rw [e1]
  have h0 := h
  have hr : Sat σ w (RS ++ (emC pb t co cc pi n pe :: emC e.1 st sco scc (e.2 : Nat) sn' se :: (b1, cel [.slice dq dvs.length dc] ty_S_Inline) :: stkC b3 S :: (SM ++ (D1 ++ (D3 ++ L))))) := h.re (by intro _; simp only [List.append_eq, cnt_append, cnt_cons, cnt_nil] <;> omega)
  refine hD.copy hr (k := e.2 + 1) (by omega) (by omega) hone (C := fun w1 => SameC _ w1 _ 1) (fun w1 X hw => h0.same hw (.head _) (List.mem_append_right _ (List.mem_append_right _ (.head _))) 1) fun q n2 c2 w M hSl h => ?_
  rw [hdrop] at hSl
  have h : Sat σ w (emC pb t co cc pi n pe :: emC e.1 st sco scc (e.2 : Nat) sn' se :: (b1, cel [.slice dq dvs.length dc] ty_S_Inline) :: stkC b3 S :: (SM ++ (D1 ++ (M ++ (D3 ++ (RS ++ L)))))) := h.re (by intro _; simp only [List.append_eq, cnt_append, cnt_cons, cnt_nil] <;> omega)
  refine Sat.bx h fun xb w h => ?_
  rw [Int.toNat_natCast, bs_extract, List.drop_zero] at h
  have h : Sat σ w (emC pb t co cc pi n pe :: emC e.1 st sco scc (e.2 : Nat) sn' se :: (b1, cel [.slice dq dvs.length dc] ty_S_Inline) :: stkC b3 S :: (SM ++ (D1 ++ ((xb, cel [.string (bs (t.take d)), .slice q n2 c2] ty_Emph) :: (M ++ (D3 ++ (RS ++ L))))))) := h.re (by intro _; simp only [List.append_eq, cnt_append, cnt_cons, cnt_nil] <;> omega)
  refine Sat.tk h fun w h => ?_
  refine nilP_some (nilP_some ?_)
  refine ⟨_, Sat.ld h (.tail _ (.head _)) rfl, _, Sat.ld h (.tail _ (.head _)) rfl, ?_⟩
  have e2 : IntKind.i64.wrap (((bs st).size : Int) - (d : Int)) = ((st.length - d : Nat) : Int) := by rw [bs_size, i64_in _ (by omega)]; omega
  rw [e2, bs_size]
  refine ⟨by omega, by omega, nilP_some ?_⟩
  rw [Int.toNat_natCast, bs_extract, List.drop_zero]
  refine Sat.st h (k := 1) rfl (Nat.le_of_ble_eq_true rfl) trivial (by first | (dsimp only [List.set]; exact rfl) | exact rfl) fun w h => ?_
  have h : Sat σ w (emC pb t co cc pi n pe :: emC e.1 (cutS st d) sco scc (e.2 : Nat) sn' se :: (b1, cel [.slice dq dvs.length dc] ty_S_Inline) :: stkC b3 S :: (SM ++ (D1 ++ ((xb, cel [.string (bs (t.take d)), .slice q n2 c2] ty_Emph) :: (M ++ (D3 ++ (RS ++ L))))))) := h
  refine nilP_some ⟨_, Sat.ld h (.head _) rfl, by omega, by rw [bs_size]; omega, nilP_some ?_⟩
  rw [bs_size, Int.toNat_natCast, bs_ext]
  refine Sat.st h (k := 0) rfl (Nat.le_of_ble_eq_true rfl) trivial (by first | (dsimp only [List.set]; exact rfl) | exact rfl) fun w h => ?_
  have h : Sat σ w (emC pb (t.drop d) co cc pi n pe :: emC e.1 (cutS st d) sco scc (e.2 : Nat) sn' se :: (b1, cel [.slice dq dvs.length dc] ty_S_Inline) :: stkC b3 S :: (SM ++ (D1 ++ ((xb, cel [.string (bs (t.take d)), .slice q n2 c2] ty_Emph) :: (M ++ (D3 ++ (RS ++ L))))))) := h
  refine nilP_some ⟨_, Sat.ld h (.tail _ (.head _)) rfl, ?_⟩
  rw [bs_nil_eq]
  have rest : ∀ (m : Nat) w, m = (d1Of dst e.2 (cutS st d) sco scc (e.2 : Nat) sn').length → m ≤ e.2 + 1 →
      (∃ DM1, InlsAt (d1Of dst e.2 (cutS st d) sco scc (e.2 : Nat) sn') (dvs.take m) DM1 ∧ ∃ G, (∀ a, cnt a (emC e.1 (cutS st d) sco scc (e.2 : Nat) sn' se :: D1) = cnt a (G ++ DM1))) →
      Sat σ w (emC pb (t.drop d) co cc pi n pe :: emC e.1 (cutS st d) sco scc (e.2 : Nat) sn' se :: (b1, cel [.slice dq m dc] ty_S_Inline) :: stkC b3 S :: (SM ++ (D1 ++ ((xb, cel [.string (bs (t.take d)), .slice q n2 c2] ty_Emph) :: (M ++ (D3 ++ (RS ++ L))))))) →
      g_parseState_emph.k7 R Xa Xb Xc sq sn sc b1 b3 cl1 (cl2 b3 b1) x10 (some ⟨pb, 0, none⟩) (some ⟨b3, ix, none⟩) (d : Nat) ((bt (bs t) 0) == 126) (some ⟨xb, 0, none⟩) w := by
    intro m w hm hme hDM h
    obtain ⟨DM1, hI4, G, hG⟩ := hDM
    refine enter_fn ?_
    have h : Sat σ w (stkC b3 S :: (b1, cel [.slice dq m dc] ty_S_Inline) :: (SM ++ (emC e.1 (cutS st d) sco scc (e.2 : Nat) sn' se :: (D1 ++ (D3 ++ (emC pb (t.drop d) co cc pi n pe :: (xb, cel [.string (bs (t.take d)), .slice q n2 c2] ty_Emph) :: (M ++ (RS ++ L)))))))) := h.re (by intro _; simp only [List.append_eq, cnt_append, cnt_cons, cnt_nil] <;> omega)
    have hEO : ∀ s ∈ S, EntsOK s.ent (emC e.1 (cutS st d) sco scc (e.2 : Nat) sn' se :: (D1 ++ (D3 ++ (emC pb (t.drop d) co cc pi n pe :: (xb, cel [.string (bs (t.take d)), .slice q n2 c2] ty_Emph) :: (M ++ (RS ++ L)))))) := by
      intro s' hs' x hx
      obtain ⟨t', co', cc', n', ty, h1, h2, _⟩ := ((hSI s' hs').2.2 x hx).chunk hI
      rcases List.mem_append.1 h2 with h2 | h2
      · exact ⟨_, ty, .tail _ (List.mem_append_left _ h2), rfl⟩
      · rcases List.mem_append.1 h2 with h2 | h2
        · simp only [List.mem_singleton] at h2
          have hx1 : x.1 = e.1 := by have := congrArg (fun c : Chunk => c.1) h2; exact this
          have hx2 : (x.2 : Int) = (e.2 : Int) := by
            have := congrArg (fun c : Chunk => c.2) h2
            simp only [emC, cel, Obj.cells.injEq] at this
            have := congrArg Array.toList this.1
            simp only [List.cons.injEq, Value.int.injEq, true_and] at this
            exact this.2.2.2.1
          have hx3 : x.2 = e.2 := by omega
          exact ⟨_, se, by rw [hx1]; exact .head _, by rw [hx3]; rfl⟩
        · exact ⟨_, ty, .tail _ (List.mem_append_right _ (List.mem_append_left _ h2)), rfl⟩
    refine trimStk_ok h5 hSt hEO (fun s hs => (hSI s hs).1) h fun w SM' hSt' h => ⟨rfl, ?_⟩
    rw [bt0 htc]
    refine br_false (by rcases hc with rfl | rfl <;> rfl) ?_
    have hlen1 : (dvs.take m).length = m := by rw [List.length_take]; omega
    have hD1 := hD.take (k := m) (by omega)
    have hSI' : StkIn (d1Of dst e.2 (cutS st d) sco scc (e.2 : Nat) sn' ++ [xOf t d (dst.drop (e.2 + 1))]) (dvs.take m ++ [ptrV (if d = 2 then ty_P_Strong else ty_P_Emph) xb]) (S.map (STK.trim m)) := by
      intro s' hs'
      obtain ⟨s0, hs0, rfl⟩ := List.mem_map.1 hs'
      obtain ⟨a1, a2, a3⟩ := hSI s0 hs0
      refine ⟨Nat.lt_of_le_of_lt (trimE_len m s0.ent) a1, trimE_pw a2, fun x hx => ?_⟩
      have hxm := trimE_lt a2 x hx
      obtain ⟨t', co', cc', n', g1, g2, g3, g4, g5⟩ := a3 x (trimE_sub hx)
      have hv2 : (dvs.take m ++ [ptrV (if d = 2 then ty_P_Strong else ty_P_Emph) xb])[x.2]? = some (ptrV ty_P_emphPlain x.1) := by
        rw [List.getElem?_append_left (by omega), List.getElem?_take_of_lt hxm]; exact g2
      by_cases hxe : x.2 < e.2
      · refine ⟨t', co', cc', n', ?_, hv2, g3, g4, g5⟩
        unfold d1Of
        rw [List.append_assoc, List.getElem?_append_left (by rw [List.length_take]; omega), List.getElem?_take_of_lt hxe]
        exact g1
      · have hxe : x.2 = e.2 := by omega
        have hne : cutS st d ≠ [] := by
          intro h0
          unfold d1Of at hm
          rw [h0, if_pos rfl, List.append_nil, List.length_take] at hm
          omega
        refine ⟨cutS st d, sco, scc, sn', ?_, hv2, hsn0, hsn1, hne, by unfold cutS; rw [List.length_take]; omega⟩
        unfold d1Of
        rw [if_neg hne, List.append_assoc, List.getElem?_append_right (by rw [List.length_take]; omega), hxe, List.length_take, Nat.min_eq_left (by omega), Nat.sub_self]
        rfl
    have fin : ∀ w (ty : TypeId), ty = (if d = 2 then ty_P_Strong else ty_P_Emph) → ∀ dq' dc' RS', DRow dq' dc' (dvs.take m ++ [ptrV ty xb]) rvs off sq sn sc SR RS' →
        Sat σ w ((b1, cel [.slice dq' (m + 1) dc'] ty_S_Inline) :: stkC b3 (S.map (STK.trim m)) :: (SM' ++ (emC e.1 (cutS st d) sco scc (e.2 : Nat) sn' se :: (D1 ++ (D3 ++ (emC pb (t.drop d) co cc pi n pe :: (xb, cel [.string (bs (t.take d)), .slice q n2 c2] ty_Emph) :: (M ++ (RS' ++ L)))))))) →
        Xb sq sn sc b1 b3 cl1 (cl2 b3 b1) x10 (some ⟨pb, 0, none⟩) (some ⟨b3, ix, none⟩) w := by
      intro w ty hty dq' dc' RS' hD' h
      subst hty
      refine hK w ⟨dq', dc', _, DM1 ++ ((xb, cel [.string (bs (t.take d)), .slice q n2 c2] ty_Emph) :: (M ++ D3)), SM', RS', hI4.append (InlsAt.one ?_), by rw [← hm]; exact hSt', by rw [List.length_map]; exact h5, by rw [← hm]; exact hSI', hD', ?_, ?_⟩
      · unfold xOf
        split
        · exact ⟨xb, _, q, n2, c2, vs2, M, D3, rfl, rfl, hSl, hI3⟩
        · exact ⟨xb, _, q, n2, c2, vs2, M, D3, rfl, rfl, hSl, hI3⟩
      · rw [List.length_append, ← hm]; simp; omega
      · rw [List.length_append, hlen1]
        rw [← hm]
        have h : Sat σ w ((emC e.1 (cutS st d) sco scc (e.2 : Nat) sn' se :: D1) ++ (emC pb (t.drop d) co cc pi n pe :: stkC b3 (S.map (STK.trim m)) :: (b1, cel [.slice dq' (m + 1) dc'] ty_S_Inline) :: (SM' ++ (D3 ++ ((xb, cel [.string (bs (t.take d)), .slice q n2 c2] ty_Emph) :: (M ++ (RS' ++ L))))))) := h.re (by intro _; simp only [List.append_eq, cnt_append, cnt_cons, cnt_nil] <;> omega)
        refine h.less G fun a => ?_
        have := hG a
        simp only [cnt_append, cnt_cons] at this ⊢
        simp only [List.length_singleton]
        omega
    have h : Sat σ w (RS ++ ((b1, cel [.slice dq m dc] ty_S_Inline) :: stkC b3 (S.map (STK.trim m)) :: (SM' ++ (emC e.1 (cutS st d) sco scc (e.2 : Nat) sn' se :: (D1 ++ (D3 ++ (emC pb (t.drop d) co cc pi n pe :: (xb, cel [.string (bs (t.take d)), .slice q n2 c2] ty_Emph) :: (M ++ L)))))))) := h.re (by intro _; simp only [List.append_eq, cnt_append, cnt_cons, cnt_nil] <;> omega)
    have hb1 : w.cell? ⟨b1, 0, none⟩ = some (.slice dq m dc) := Sat.ld h (List.mem_append_right _ (.head _)) rfl
    rcases hd12 with rfl | rfl
    · refine br_false rfl ⟨dq, m, dc, hb1, ?_⟩
      have := hD1.app (ty := ty_S_Inline) (t := ty_P_Emph) (b := xb) h (by omega) (by omega) (C := fun _ => True) (fun _ _ _ => trivial) (K := fun q' n' c' w' => stV w' ⟨b1, 0, none⟩ (.slice q' n' c') fun w => Xb sq sn sc b1 b3 cl1 (cl2 b3 b1) x10 (some ⟨pb, 0, none⟩) (some ⟨b3, ix, none⟩) w) (fun dq' dc' RS' w' hD' h => by
        have h : Sat σ w' ((b1, cel [.slice dq m dc] ty_S_Inline) :: stkC b3 (S.map (STK.trim m)) :: (SM' ++ (emC e.1 (cutS st 1) sco scc (e.2 : Nat) sn' se :: (D1 ++ (D3 ++ (emC pb (t.drop 1) co cc pi n pe :: (xb, cel [.string (bs (t.take 1)), .slice q n2 c2] ty_Emph) :: (M ++ (RS' ++ L)))))))) := h.re (by intro _; simp only [List.append_eq, cnt_append, cnt_cons, cnt_nil] <;> omega)
        rw [hlen1]
        refine Sat.st h (k := 0) rfl (Nat.zero_lt_succ _) trivial rfl fun w h => ?_
        exact fin w ty_P_Emph rfl dq' dc' RS' hD' h)
      rw [hlen1] at this
      obtain ⟨a, b, c, w1, r1, _, r2⟩ := this
      exact ⟨a, b, c, w1, r1, r2⟩
    · refine br_true rfl ⟨dq, m, dc, hb1, ?_⟩
      have := hD1.app (ty := ty_S_Inline) (t := ty_P_Strong) (b := xb) h (by omega) (by omega) (C := fun _ => True) (fun _ _ _ => trivial) (K := fun q' n' c' w' => stV w' ⟨b1, 0, none⟩ (.slice q' n' c') fun w => Xb sq sn sc b1 b3 cl1 (cl2 b3 b1) x10 (some ⟨pb, 0, none⟩) (some ⟨b3, ix, none⟩) w) (fun dq' dc' RS' w' hD' h => by
        have h : Sat σ w' ((b1, cel [.slice dq m dc] ty_S_Inline) :: stkC b3 (S.map (STK.trim m)) :: (SM' ++ (emC e.1 (cutS st 2) sco scc (e.2 : Nat) sn' se :: (D1 ++ (D3 ++ (emC pb (t.drop 2) co cc pi n pe :: (xb, cel [.string (bs (t.take 2)), .slice q n2 c2] ty_Emph) :: (M ++ (RS' ++ L)))))))) := h.re (by intro _; simp only [List.append_eq, cnt_append, cnt_cons, cnt_nil] <;> omega)
        rw [hlen1]
        refine Sat.st h (k := 0) rfl (Nat.zero_lt_succ _) trivial rfl fun w h => ?_
        exact fin w ty_P_Strong rfl dq' dc' RS' hD' h)
      rw [hlen1] at this
      obtain ⟨a, b, c, w1, r1, _, r2⟩ := this
      exact ⟨a, b, c, w1, r1, r2⟩
  by_cases hcut : cutS st d = []
  · refine br_true (by simpa using hcut) ?_
    refine Sat.tk h fun w h => ?_
    refine nilP_some ⟨_, _, _, Sat.ld h (.tail _ (.tail _ (.head _))) rfl, _, Sat.ld h (.tail _ (.head _)) rfl, ?_⟩
    have hdle := hD.2.1
    refine ⟨_, _, _, fun w => sliceT rowInl.ht rowInl.hi _ _ _ e.2 (by omega) w, ?_⟩
    refine Sat.st h (k := 2) rfl (Nat.zero_lt_succ _) trivial rfl fun w h => ?_
    refine rest e.2 w ?_ (by omega) ⟨D1, ?_, [emC e.1 (cutS st d) sco scc (e.2 : Nat) sn' se], fun a => rfl⟩ h
    · unfold d1Of; rw [if_pos hcut, List.append_nil, List.length_take]; omega
    · unfold d1Of; rw [if_pos hcut, List.append_nil, htake]; exact hI1
  · refine br_false (by simpa using hcut) ?_
    refine Sat.tk h fun w h => ?_
    refine nilP_some ⟨_, _, _, Sat.ld h (.tail _ (.tail _ (.head _))) rfl, _, Sat.ld h (.tail _ (.head _)) rfl, ?_⟩
    have hdle := hD.2.1
    rw [e1]
    refine ⟨_, _, _, fun w => sliceT rowInl.ht rowInl.hi _ _ _ (e.2 + 1) (by omega) w, ?_⟩
    refine Sat.st h (k := 2) rfl (Nat.zero_lt_succ _) trivial rfl fun w h => ?_
    refine rest (e.2 + 1) w ?_ (by omega) ⟨D1 ++ [emC e.1 (cutS st d) sco scc (e.2 : Nat) sn' se], ?_, [], fun a => ?_⟩ h
    · unfold d1Of; rw [if_neg hcut, List.length_append, List.length_take]; simp; omega
    · unfold d1Of; rw [if_neg hcut, htake1]; exact hI1.append (InlsAt.one ⟨e.1, se, rfl, rfl⟩)
    · simp only [cnt_append, cnt_cons, cnt_nil, List.nil_append]; omega
end Go.Proofs.YtejiaegiijokcaaGreatDoor


set_option linter.unusedVariables false
namespace Go.Proofs.YtejiaegiijokcaaGreatDoor
open Go.Proofs Go.IntWalk Go.RowKit
variable {σ : Out} {w : World} {L L' : List Chunk} {R : Ending → World → Prop}
theorem idxs_get {S : List STK} {ix : Nat} {s : STK} (hs : S[ix]? = some s) : (idxs S).getD ix [] = s.ent.map Prod.snd := by
  rw [List.getD_eq_getElem?_getD]
  simp [idxs, hs]
theorem find_none {p : Nat → Bool} {es : List (Nat × Nat)} (h : ∀ e ∈ es, p e.2 = false) : (es.map Prod.snd).reverse.find? p = none := by
  rw [List.find?_eq_none]
  intro x hx
  rw [List.mem_reverse] at hx
  obtain ⟨e, he, rfl⟩ := List.mem_map.1 hx
  simp [h e he]
theorem find_some {p : Nat → Bool} {es1 es2 : List (Nat × Nat)} {e : Nat × Nat} (h1 : p e.2 = true) (h2 : ∀ x ∈ es2, p x.2 = false) : ((es1 ++ e :: es2).map Prod.snd).reverse.find? p = some e.2 := by
  rw [List.map_append, List.reverse_append, List.map_cons, List.reverse_cons, List.append_assoc, List.find?_append, find_none h2]
  simp [h1]
def AllC (c : UInt8) (t : List UInt8) : Prop := ∀ x ∈ t, x = c
theorem AllC.head {c : UInt8} {t : List UInt8} (h : AllC c t) (ht : t ≠ []) : t.head? = some c := by
  cases t with
  | nil => exact absurd rfl ht
  | cons x t => rw [h x (by simp)]; rfl
theorem AllC.drop {c : UInt8} {t : List UInt8} (h : AllC c t) (d : Nat) : AllC c (t.drop d) := fun x hx => h x (List.mem_of_mem_drop hx)
theorem close_ok {Xa : XA} {Xb : XB} {b1 b3 pb ix off : Nat} {c : UInt8} {co cc : Bool} {pi n x10 : Int} {pe : TypeId} {rvs : List Value} {sq : Option Addr} {sn sc : Nat} {SR : List Chunk} (hix : ix < 5) (hc : isEm c) (hn : 0 ≤ n ∧ n ≤ 1000000000)
    (hXb : ∀ w, g_parseState_emph.bl2 R Xa Xb sq sn sc b1 b3 cl1 (cl2 b3 b1) x10 (some ⟨pb, 0, none⟩) (some ⟨b3, ix, none⟩) w → Xb sq sn sc b1 b3 cl1 (cl2 b3 b1) x10 (some ⟨pb, 0, none⟩) (some ⟨b3, ix, none⟩) w) :
    ∀ (f : Nat) (t : List UInt8) (dst : List Inl) (S : List STK) (w : World), t.length ≤ f → AllC c t → t.length < 1000000000 → EM σ b1 b3 pb t co cc pi n pe dst S rvs off sq sn sc SR L w → dst.length ≤ off →
      (∀ s, S[ix]? = some s → ∀ e ∈ s.ent, e.2 + 1 < dst.length) →
      (∀ t' dst' S' w, closeGo ix co cc n f t dst (idxs S) = (t', dst', idxs S') → AllC c t' → t'.length ≤ t.length → EM σ b1 b3 pb t' co cc pi n pe dst' S' rvs off sq sn sc SR L w → dst'.length ≤ off → dst'.length ≤ dst.length →
        (t' = t ∧ dst' = dst ∧ S' = S ∨ ∀ s ∈ S', ∀ e ∈ s.ent, e.2 + 1 < dst'.length) →
        g_parseState_emph.k1 R Xa sq sn sc b1 b3 cl1 (cl2 b3 b1) x10 (some ⟨pb, 0, none⟩) w) →
      Xb sq sn sc b1 b3 cl1 (cl2 b3 b1) x10 (some ⟨pb, 0, none⟩) (some ⟨b3, ix, none⟩) w := by
  intro f
  induction f with
  | zero =>
    intro t dst S w hf hall htl h hoff hlast hk1
    have ht : t = [] := List.eq_nil_of_length_eq_zero (by omega)
    subst ht
    refine hXb _ ?_
    have h0 := h
    obtain ⟨dq, dc, dvs, DM, SM, RS, _, _, _, _, _, _, h⟩ := h
    refine nilP_some ⟨_, Sat.ld h (.head _) rfl, br_false (by rw [bs_nil_eq]; rfl) ?_⟩
    exact hk1 [] dst S w rfl hall (Nat.le_refl _) h0 hoff (Nat.le_refl _) (.inl ⟨rfl, rfl, rfl⟩)
  | succ f ih =>
    intro t dst S w hf hall htl h hoff hlast hk1
    by_cases ht : t = []
    · subst ht
      refine hXb _ ?_
      have h0 := h
      obtain ⟨dq, dc, dvs, DM, SM, RS, _, _, _, _, _, _, h⟩ := h
      refine nilP_some ⟨_, Sat.ld h (.head _) rfl, br_false (by rw [bs_nil_eq]; rfl) ?_⟩
      exact hk1 [] dst S w rfl hall (Nat.le_refl _) h0 hoff (Nat.le_refl _) (.inl ⟨rfl, rfl, rfl⟩)
    have htc := hall.head ht
    refine hXb _ ?_
    have h0 := h
    have h5 : S.length = 5 := by obtain ⟨_, _, _, _, _, _, _, _, h, _⟩ := h; exact h
    have hs : S[ix]? = some S[ix] := List.getElem?_eq_getElem (by omega)
    generalize S[ix] = s at hs
    obtain ⟨dq, dc, dvs, DM, SM, RS, _, _, _, hSI, _, _, hsat⟩ := h
    refine nilP_some ⟨_, Sat.ld hsat (.head _) rfl, br_true (by rw [bs_nil_eq]; simpa using ht) (nilP_some ?_)⟩
    have hsc : w.cell? ⟨b3, ix, none⟩ = some (.slice s.q s.n s.c) := by
      refine Sat.ld hsat (.tail _ (.head _)) ?_
      rw [List.getElem?_map, hs]; rfl
    refine ⟨_, _, _, hsc, ?_⟩
    intro Xc hXc
    refine search_ok h0 htc hc hn hs (fun x16 w hh => hXc _ _ _ _ _ _ _ _ _ _ _ _ hh) (fun hno w h => ?_) (fun es1 e es2 st sco scc sn' hes hgood hno hd w h => ?_)
    · refine hk1 t dst S w ?_ hall (Nat.le_refl _) h hoff (Nat.le_refl _) (.inl ⟨rfl, rfl, rfl⟩)
      rw [closeGo, if_neg ht, idxs_get hs, find_none hno]
    · have hse : e ∈ s.ent := by rw [hes]; simp
      have hin := hlast s hs e hse
      refine step_ok h htc hc hs hse hd hin hoff htl fun w h => ?_
      have hd1len : (d1Of dst e.2 (cutS st (dOf t st)) sco scc (e.2 : Nat) sn').length ≤ e.2 + 1 := by
        unfold d1Of
        rw [List.length_append, List.length_take]
        split <;> simp <;> omega
      have hdpos : 0 < dOf t st := by unfold dOf; split <;> omega
      have htp := List.length_pos_iff.2 ht
      have hent : ∀ s' ∈ S.map (STK.trim (d1Of dst e.2 (cutS st (dOf t st)) sco scc (e.2 : Nat) sn').length), ∀ x ∈ s'.ent, x.2 + 1 < (d1Of dst e.2 (cutS st (dOf t st)) sco scc (e.2 : Nat) sn' ++ [xOf t (dOf t st) (dst.drop (e.2 + 1))]).length := by
        intro s' hs' x hx
        obtain ⟨s0, hs0, rfl⟩ := List.mem_map.1 hs'
        have := trimE_lt (hSI s0 hs0).2.1 x hx
        rw [List.length_append]; simp; omega
      refine ih (t.drop (dOf t st)) _ _ w (by rw [List.length_drop]; omega) (hall.drop _) (by rw [List.length_drop]; omega) h (by rw [List.length_append]; simp; omega) (fun s' hs' => hent s' (List.mem_of_getElem? hs')) ?_
      intro t' dst' S' w hgo hall' htl' h hoff' hdl' hlast'
      refine hk1 t' dst' S' w ?_ hall' (by rw [List.length_drop] at htl'; omega) h hoff' (by rw [List.length_append] at hdl'; simp at hdl'; omega) (.inr ?_)
      · rw [closeGo, if_neg ht, idxs_get hs, hes, find_some hgood hno]
        simp only [hd]
        rw [idxs_trim] at hgo
        exact hgo
      · rcases hlast' with ⟨_, rfl, rfl⟩ | hl
        · exact hent
        · exact hl
end Go.Proofs.YtejiaegiijokcaaGreatDoor


set_option linter.unusedVariables false
namespace Go.Proofs.YtejiaegiijokcaaGreatDoor
open Go.Proofs Go.IntWalk Go.RowKit
variable {σ : Out} {w : World} {L L' : List Chunk} {R : Ending → World → Prop}
def headOf : Inl → Option UInt8
  | .emphP s _ _ _ _ => s.head?
  | _ => none
def wfE (ts : List Inl) : Prop := ∀ s co cc i n, Inl.emphP s co cc i n ∈ ts → s ≠ [] ∧ (∃ c, isEm c ∧ AllC c s) ∧ s.length < 1000000000 ∧ 0 ≤ n ∧ n ≤ 1000000000
def apartE : Option UInt8 → List Inl → Prop
  | _, [] => True
  | h, t :: ts => (h = none ∨ headOf t ≠ h) ∧ apartE (headOf t) ts
theorem em1_ok {c : UInt8} (hc : isEm c) (hR : R (.returned (.int .i64 (ixOf c : Nat))) w) : callE P i_parseState_emph_1 #[.int .u8 (c.toNat : Int)] R w := by
  refine g_parseState_emph_1.sound ?_
  refine indexByte2_ok (l := [95, 42, 126, 34, 39]) ⟨_, rfl, ?_⟩
  rcases hc with rfl | rfl
  · exact hR
  · exact hR
theorem stk_app {b3 m pb ix : Nat} {S : List STK} {s : STK} {SM : List Chunk} (h5 : S.length = 5) (hs : S[ix]? = some s) (hS : StksAt S SM) (hsm : s.ent.length < 999999999) (h : Sat σ w (stkC b3 S :: (SM ++ L)))
    {K : World → Prop} (hK : ∀ w s' SM', s'.ent = s.ent ++ [(pb, m)] → StksAt (S.set ix s') SM' → Sat σ w (stkC b3 (S.set ix s') :: (SM' ++ L)) → K w) :
    nilP (some (⟨b3, ix, none⟩ : Addr)) fun a158 => ∃ (v159q : Option Addr), ∃ (v159n : Nat), ∃ (v159c : Nat), w.cell? a158 = some (.slice v159q v159n v159c) ∧
      ∃ (r160q : Option Addr), ∃ (r160n : Nat), ∃ (r160c : Nat), ∃ w161, (Instr.buildSlice ty_S_P_emphPlain 1 #[(0, .pointer (some ⟨pb, 0, none⟩))]).run P w = .ok (.slice r160q r160n r160c) w161 ∧
      ∃ (r162q : Option Addr), ∃ (r162n : Nat), ∃ (r162c : Nat), ∃ w163, (Builtin.append_ #[ty_S_P_emphPlain, ty_S_P_emphPlain] ty_S_P_emphPlain #[.slice v159q v159n v159c, .slice r160q r160n r160c]).run P w161 = .ok (.slice r162q r162n r162c) w163 ∧
      nilP (some (⟨b3, ix, none⟩ : Addr)) fun a164 => stV w163 (a164.add 0) (.slice r162q r162n r162c) fun w165 => K w165 := by
  have hixl := (List.getElem?_eq_some_iff.1 hs).1
  have hsplit : S = S.take ix ++ s :: S.drop (ix + 1) := by
    have hg : S[ix] = s := (List.getElem?_eq_some_iff.1 hs).2
    rw [← hg, ← List.drop_eq_getElem_cons hixl, List.take_append_drop]
  have hset : ∀ s' : STK, S.set ix s' = S.take ix ++ s' :: S.drop (ix + 1) := by
    intro s'; rw [List.set_eq_take_append_cons_drop, if_pos hixl]
  have hal : (S.take ix).length = ix := by rw [List.length_take]; omega
  rw [hsplit] at hS h
  obtain ⟨M1, M2, M3, rfl, h1, h2, h3⟩ := hS.split
  have hn := h2.1
  simp at hn
  refine nilP_some ⟨_, _, _, stk_cell h hal.symm, ?_⟩
  have h : Sat σ w (M2 ++ (stkC b3 (S.take ix ++ s :: S.drop (ix + 1)) :: (M1 ++ (M3 ++ L)))) := h.re (by intro _; simp only [List.append_eq, cnt_append, cnt_cons, cnt_nil] <;> omega)
  refine Sat.app1 rowEP h2 h (v := .pointer (some ⟨pb, 0, none⟩)) rfl (by simp [Value.cells, Value.oneCell']) (by kernel_rfl) (by omega) (by omega) (by decide) fun q' c' w' M' hS' h => ?_
  have h : Sat σ w' (stkC b3 (S.take ix ++ s :: S.drop (ix + 1)) :: (M1 ++ (M' ++ (M3 ++ L)))) := h.re (by intro _; simp only [List.append_eq, cnt_append, cnt_cons, cnt_nil] <;> omega)
  refine nilP_some ?_
  simp only [Addr.add_lit, Nat.add_zero]
  refine stk_store (s' := ⟨q', s.n + 1, c', s.ent ++ [(pb, m)]⟩) h hal.symm fun w h => ?_
  refine hK w ⟨q', s.n + 1, c', s.ent ++ [(pb, m)]⟩ (M1 ++ (M' ++ M3)) rfl ?_ ?_
  · rw [hset]; exact h1.join (by unfold STK.ok; rw [List.map_append]; exact hS') h3
  · rw [hset]; exact h.re (by intro _; simp only [List.append_eq, cnt_append, cnt_cons, cnt_nil] <;> omega)
def EM0 (σ : Out) (b1 b3 : Nat) (dst rts : List Inl) (S : List STK) (off : Nat) (sq : Option Addr) (sn sc : Nat) (SR : List Chunk) (L : List Chunk) (w : World) : Prop :=
  ∃ dq dc dvs rvs DM SM RS RM, InlsAt dst dvs DM ∧ StksAt S SM ∧ S.length = 5 ∧ StkIn dst dvs S ∧ DRow dq dc dvs rvs off sq sn sc SR RS ∧ dst.length < 999999998 ∧ InlsAt rts rvs RM ∧
    Sat σ w (stkC b3 S :: (b1, cel [.slice dq dvs.length dc] ty_S_Inline) :: (SM ++ (DM ++ (RS ++ (RM ++ L)))))
def Late (c : UInt8) (dst : List Inl) (S : List STK) : Prop := ∀ s, S[ixOf c]? = some s → ∀ e ∈ s.ent, e.2 + 1 < dst.length
theorem StkIn.lt {dst : List Inl} {dvs : List Value} {S : List STK} (h : StkIn dst dvs S) : ∀ s ∈ S, ∀ e ∈ s.ent, e.2 < dst.length := by
  intro s hs e he
  obtain ⟨t, co, cc, n, h1, _⟩ := (h s hs).2.2 e he
  exact (List.getElem?_eq_some_iff.1 h1).1
theorem StkIn.grow {dst x : List Inl} {dvs y : List Value} {S : List STK} (h : StkIn dst dvs S) : StkIn (dst ++ x) (dvs ++ y) S := by
  intro s hs
  obtain ⟨a, b, c⟩ := h s hs
  refine ⟨a, b, fun e he => ?_⟩
  obtain ⟨t, co, cc, n, h1, h2, h3⟩ := c e he
  exact ⟨t, co, cc, n, by rw [List.getElem?_append_left (List.getElem?_eq_some_iff.1 h1).1]; exact h1, by rw [List.getElem?_append_left (List.getElem?_eq_some_iff.1 h2).1]; exact h2, h3⟩
end Go.Proofs.YtejiaegiijokcaaGreatDoor


set_option linter.unusedVariables false
namespace Go.Proofs.YtejiaegiijokcaaGreatDoor
open Go.Proofs Go.IntWalk Go.RowKit
variable {σ : Out} {w : World} {L L' : List Chunk} {R : Ending → World → Prop}
theorem app_step {b1 b3 off b : Nat} {t : TypeId} {dq sq : Option Addr} {dc sn sc : Nat} {dvs rvs : List Value} {S : List STK} {SM DM SR RS : List Chunk} (hD : DRow dq dc dvs rvs (off + 1) sq sn sc SR RS) (hlen : dvs.length ≤ off) (hn : dvs.length < 1000000000)
    (h : Sat σ w (stkC b3 S :: (b1, cel [.slice dq dvs.length dc] ty_S_Inline) :: (SM ++ (DM ++ (RS ++ L))))) {C : World → Prop} (hC : ∀ w1 X, Sat σ w1 (X :: (stkC b3 S :: (b1, cel [.slice dq dvs.length dc] ty_S_Inline) :: (SM ++ (DM ++ (RS ++ L))))) → C w1) {K : World → Prop}
    (hK : ∀ w dq' dc' RS', DRow dq' dc' (dvs ++ [ptrV t b]) rvs (off + 1) sq sn sc SR RS' → Sat σ w (stkC b3 S :: (b1, cel [.slice dq' (dvs.length + 1) dc'] ty_S_Inline) :: (SM ++ (DM ++ (RS' ++ L)))) → K w) :
    ∃ rq rn rc w1, (Instr.buildSlice ty_S_Inline 1 #[(0, ptrV t b)]).run P w = .ok (.slice rq rn rc) w1 ∧ C w1 ∧
      ∃ q' n' c' w2, (Builtin.append_ #[ty_S_Inline, ty_S_Inline] ty_S_Inline #[.slice dq dvs.length dc, .slice rq rn rc]).run P w1 = .ok (.slice q' n' c') w2 ∧ stV w2 ⟨b1, 0, none⟩ (.slice q' n' c') K := by
  have hr : Sat σ w (RS ++ (stkC b3 S :: (b1, cel [.slice dq dvs.length dc] ty_S_Inline) :: (SM ++ (DM ++ L)))) := h.re (by intro _; simp only [List.append_eq, cnt_append, cnt_cons, cnt_nil] <;> omega)
  refine hD.app (ty := ty_S_Inline) hr (by omega) hn (C := C) (fun w1 X hw => hC w1 X (hw.re (by intro _; simp only [List.append_eq, cnt_append, cnt_cons, cnt_nil] <;> omega))) (K := fun q' n' c' w2 => stV w2 ⟨b1, 0, none⟩ (.slice q' n' c') K) fun dq' dc' RS' w' hD' h => ?_
  have h : Sat σ w' (stkC b3 S :: (b1, cel [.slice dq dvs.length dc] ty_S_Inline) :: (SM ++ (DM ++ (RS' ++ L)))) := h.re (by intro _; simp only [List.append_eq, cnt_append, cnt_cons, cnt_nil] <;> omega)
  refine Sat.st h (k := 1) rfl (Nat.zero_lt_succ _) trivial rfl fun w h => ?_
  exact hK w dq' dc' RS' hD' h
theorem nilP_of {q : Option Addr} {a : Addr} {K : Addr → Prop} (h : q = some a) (hK : K a) : nilP q K := by subst h; exact hK
theorem noC {A : Option Addr → Nat → Nat → World → Prop} {B : Option Addr → Nat → Nat → World → Prop} (h : ∃ rq rn rc w1, A rq rn rc w1 ∧ True ∧ B rq rn rc w1) : ∃ rq rn rc w1, A rq rn rc w1 ∧ B rq rn rc w1 := by
  obtain ⟨a, b, c, d, h1, _, h2⟩ := h
  exact ⟨a, b, c, d, h1, h2⟩
theorem emph_loop {Xa : XA} {b1 b3 : Nat} {sq : Option Addr} {sn sc : Nat} {SR : List Chunk} (hXa : ∀ x10 w, g_parseState_emph.bl1 R Xa sq sn sc b1 b3 cl1 (cl2 b3 b1) x10 w → Xa sq sn sc b1 b3 cl1 (cl2 b3 b1) x10 w) (hsn : sn < 999999990) (final : List Inl)
    (hR : ∀ w dq dc dvs DM RS, InlsAt final dvs DM → DRow dq dc dvs [] sn sq sn sc SR RS → dvs.length ≤ sn → Sat σ w (DM ++ (RS ++ L)) → R (.returned (.slice dq dvs.length dc)) w) :
    ∀ (rts dst : List Inl) (S : List STK) (off : Nat) (hd : Option UInt8) (w : World), EM0 σ b1 b3 dst rts S off sq sn sc SR L w → off + rts.length = sn → dst.length ≤ off → wfE rts → apartE hd rts → (∀ c, isEm c → hd ≠ some c → Late c dst S) →
      emphGo dst (idxs S) rts = final → Xa sq sn sc b1 b3 cl1 (cl2 b3 b1) (off : Int) w := by
  intro rts
  induction rts with
  | nil =>
    intro dst S off hd w h hoff hle hwf hap hlate hfin
    obtain ⟨dq, dc, dvs, rvs, DM, SM, RS, RM, hI, hSt, h5, hSI, hD, hdl, hrt, h⟩ := h
    obtain ⟨rfl, rfl⟩ := hrt
    have hvl := hI.length
    simp at hoff
    subst hoff
    refine hXa _ _ (br_false (by simp) ?_)
    refine ⟨_, _, _, Sat.ld h (.tail _ (.head _)) rfl, ?_⟩
    simp only [emphGo] at hfin
    simp only [List.nil_append] at h
    refine hR w dq dc dvs DM RS (by rw [← hfin]; exact hI) hD (by omega) ?_
    exact h.less (stkC b3 S :: (b1, cel [.slice dq dvs.length dc] ty_S_Inline) :: SM) (by intro _; simp only [List.append_eq, cnt_append, cnt_cons, cnt_nil] <;> omega)
  | cons t rts ih =>
    intro dst S off hd w h hoff hle hwf hap hlate hfin
    obtain ⟨dq, dc, dvs, rvs, DM, SM, RS, RM, hI, hSt, h5, hSI, hD, hdl, hrt, h⟩ := h
    obtain ⟨v, rvs', M1, M2, rfl, rfl, hv, hrest⟩ := hrt
    have hvl := hI.length
    simp at hoff
    have hread : ∀ w, Sat σ w (stkC b3 S :: (b1, cel [.slice dq dvs.length dc] ty_S_Inline) :: (SM ++ (DM ++ (RS ++ ((M1 ++ M2) ++ L))))) → ∃ rb so, sq = some ⟨rb, so, none⟩ ∧ w.cell? ⟨rb, so + off, none⟩ = some v := by
      intro w h
      have h : Sat σ w (RS ++ (stkC b3 S :: (b1, cel [.slice dq dvs.length dc] ty_S_Inline) :: (SM ++ (DM ++ ((M1 ++ M2) ++ L))))) := h.re (by intro _; simp only [List.append_eq, cnt_append, cnt_cons, cnt_nil] <;> omega)
      exact hD.read h
    have hDc := hD.consume
    have hwf' : wfE rts := fun s co cc i n hm => hwf s co cc i n (.tail _ hm)
    have e1 : IntKind.i64.wrap ((off : Int) + 1) = ((off + 1 : Nat) : Int) := i64_inc (by omega)
    have hlt := hSI.lt
    have next : ∀ w (t' : Inl) (ty : TypeId) (b : Nat) (M1' : List Chunk), InlAt t' (ptrV ty b) M1' → emphGo (dst ++ [t']) (idxs S) rts = final → ∀ dq' dc' RS', DRow dq' dc' (dvs ++ [ptrV ty b]) rvs' (off + 1) sq sn sc SR RS' →
        Sat σ w (stkC b3 S :: (b1, cel [.slice dq' (dvs.length + 1) dc'] ty_S_Inline) :: (SM ++ (DM ++ (RS' ++ (M1' ++ (M2 ++ L)))))) → Xa sq sn sc b1 b3 cl1 (cl2 b3 b1) ((off + 1 : Nat) : Int) w := by
      intro w t' ty b M1' hI1 hgo dq' dc' RS' hD' h
      refine ih (dst ++ [t']) S (off + 1) (headOf t) w ⟨dq', dc', _, rvs', DM ++ M1', SM, RS', M2, hI.append (InlsAt.one hI1), hSt, h5, hSI.grow, hD', by simp; omega, hrest, ?_⟩ (by omega) (by simp; omega) hwf' hap.2 ?_ hgo
      · rw [List.length_append, List.length_singleton]; exact h.re (by intro _; simp only [List.append_eq, cnt_append, cnt_cons, cnt_nil] <;> omega)
      · intro c _ _ s hs e he
        have := hlt s (List.mem_of_getElem? hs) e he
        simp; omega
    obtain ⟨pb, cs, ce, M1', rfl, hM1⟩ := hv.ptr
    refine hXa _ _ (br_true (by simp; omega) ⟨by omega, by omega, ?_⟩)
    obtain ⟨rb, so, hsq, hcell⟩ := hread w h
    refine nilP_of hsq ?_
    simp only [Addr.add_lit, Int.toNat_natCast, Nat.mul_one]
    refine ⟨_, hcell, ?_⟩
    by_cases hto : t.ty = ty_P_openPlain
    · -- an open bracket becomes plain
      obtain ⟨s, i, rfl⟩ : ∃ s i, t = .openP s i := by
        cases t <;> simp only [Inl.ty] at hto <;> first | exact ⟨_, _, rfl⟩ | exact absurd hto (by decide)
      have hta : (Instr.typeAssert (ptrV (Inl.openP s i).ty pb) ty_Inline ty_P_openPlain true).run P w = .ok (.tuple #[.pointer (some ⟨pb, 0, none⟩), .bool true]) w := ta_open_yes w
      refine ⟨_, _, w, hta, br_true rfl ?_⟩
      refine Sat.tk h fun w h => ?_
      refine nilP_some ⟨_, _, _, Sat.ld h (.tail _ (.head _)) rfl, ?_⟩
      have h0 := h
      refine app_step hDc (by omega) (by omega) h (C := fun w1 => SameC _ w1 _ 1) (fun w1 X hw => h0.same hw (.tail _ (.head _)) (.tail _ (.tail _ (.head _))) 1) fun w dq' dc' RS' hD' h => ?_
      rw [e1]
      refine next w (.plain s) ty_P_Plain pb M1 ?_ (by rw [← hfin, emphGo]) dq' dc' RS' hD' (h.re (by intro _; simp only [List.append_eq, cnt_append, cnt_cons, cnt_nil] <;> omega))
      obtain ⟨b', e', hb', rfl⟩ := hv
      have := ptrV_inj hb'
      subst this
      exact ⟨pb, _, _, rfl, rfl⟩
    · refine ⟨_, _, w, ta_open_no hto w, br_false rfl ⟨by omega, by omega, ?_⟩⟩
      refine nilP_of hsq ?_
      simp only [Addr.add_lit, Int.toNat_natCast, Nat.mul_one]
      refine ⟨_, hcell, ?_⟩
      by_cases hte : t.ty = ty_P_emphPlain
      · -- a run of delimiters
        obtain ⟨s, co, cc, i, n, rfl⟩ : ∃ s co cc i n, t = .emphP s co cc i n := by
          cases t <;> simp only [Inl.ty] at hte <;> first | exact ⟨_, _, _, _, _, rfl⟩ | exact absurd hte (by decide)
        obtain ⟨b', pe, hb', rfl⟩ := hv
        have := ptrV_inj hb'
        subst this
        obtain ⟨hs0, ⟨c, hc, hall⟩, hsl, hn0, hn1⟩ := hwf s co cc i n (.head _)
        have htc := hall.head hs0
        have hhd : headOf (.emphP s co cc i n) = some c := htc
        have hhd' : hd ≠ some c := by
          rcases hap.1 with h | h
          · rw [h]; simp
          · rw [hhd] at h; exact fun hh => h hh.symm
        have hix : ixOf (s.headD 0) = ixOf c := by rw [List.headD_eq_head?_getD, htc]; rfl
        have hix5 : ixOf c < 5 := by rcases hc with rfl | rfl <;> decide
        have hEM : ∀ w, Sat σ w (stkC b3 S :: (b1, cel [.slice dq dvs.length dc] ty_S_Inline) :: (SM ++ (DM ++ (RS ++ (([emC pb s co cc i n pe] ++ M2) ++ L))))) → EM σ b1 b3 pb s co cc i n pe dst S rvs' (off + 1) sq sn sc SR (M2 ++ L) w := fun w h =>
          ⟨dq, dc, dvs, DM, SM, RS, hI, hSt, h5, hSI, hDc, by omega, h.re (by intro _; simp only [List.append_eq, cnt_append, cnt_cons, cnt_nil] <;> omega)⟩
        have hta : (Instr.typeAssert (ptrV (Inl.emphP s co cc i n).ty pb) ty_Inline ty_P_emphPlain true).run P w = .ok (.tuple #[.pointer (some ⟨pb, 0, none⟩), .bool true]) w := ta_emph_yes w
        refine ⟨_, _, w, hta, br_false rfl (nilP_some ?_)⟩
        have fin : ∀ (t' : List UInt8) (dst' : List Inl) (S' : List STK) w, AllC c t' → t'.length ≤ s.length → EM σ b1 b3 pb t' co cc i n pe dst' S' rvs' (off + 1) sq sn sc SR (M2 ++ L) w → dst'.length ≤ off →
            (t' = [] → ∀ s ∈ S', ∀ e ∈ s.ent, e.2 + 1 < dst'.length) →
            (if t' = [] then emphGo dst' (idxs S') rts else if co then emphGo (dst' ++ [.emphP t' co cc dst'.length n]) ((idxs S').set (ixOf c) ((idxs S').getD (ixOf c) [] ++ [dst'.length])) rts else emphGo (dst' ++ [.plain t']) (idxs S') rts) = final →
            g_parseState_emph.k1 R Xa sq sn sc b1 b3 cl1 (cl2 b3 b1) off (some ⟨pb, 0, none⟩) w := by
          intro t' dst' S' w hall' htl' h hd' hnil hgo
          obtain ⟨dq, dc, dvs, DM, SM, RS, hI, hSt, h5, hSI, hDc, hdl, h⟩ := h
          have hvl := hI.length
          have hlt := hSI.lt
          refine nilP_some ⟨_, Sat.ld h (.head _) rfl, ?_⟩
          rw [bs_nil_eq]
          by_cases ht' : t' = []
          · subst ht'
            rw [if_pos rfl] at hgo
            refine br_false (by simp) ?_
            rw [e1]
            refine ih dst' S' (off + 1) (some c) w ⟨dq, dc, dvs, rvs', DM, SM, RS, M2, hI, hSt, h5, hSI, hDc, by omega, hrest, ?_⟩ (by omega) (by omega) hwf' (by have := hap.2; rw [hhd] at this; exact this) ?_ hgo
            · exact (h.tail).re (by intro _; simp only [List.append_eq, cnt_append, cnt_cons, cnt_nil] <;> omega)
            · intro c' _ _ s' hs' e he
              exact hnil rfl s' (List.mem_of_getElem? hs') e he
          · rw [if_neg ht'] at hgo
            refine br_true (by simpa using ht') (nilP_some ⟨_, Sat.ld h (.head _) rfl, by omega, head_pos (hall'.head ht'), ?_⟩)
            rw [bt0 (hall'.head ht')]
            refine enter_fn ?_
            refine em1_ok hc ⟨_, rfl, by omega, by omega, nilP_some ⟨_, Sat.ld h (.head _) rfl, ?_⟩⟩
            have hno : ∀ (d : UInt8), c ≠ d → ((bs t').toList == (ByteArray.mk #[d]).toList) = false := by
              intro d hd
              rw [bs_toList, mk_toList, beq_eq_false_iff_ne]
              intro h0
              have : t' = [d] := h0
              subst this
              exact hd (hall' d (by simp)).symm
            refine br_false (hno 39 (by rcases hc with rfl | rfl <;> decide)) ?_
            refine nilP_some ⟨_, Sat.ld h (.head _) rfl, br_false (hno 34 (by rcases hc with rfl | rfl <;> decide)) ?_⟩
            simp only [Addr.add_lit, Int.toNat_natCast, Nat.mul_one, Nat.zero_add]
            refine nilP_some ⟨co, Sat.ld h (.head _) rfl, ?_⟩
            cases hco : co with
            | true =>
              rw [hco] at h hgo
              rw [if_pos rfl] at hgo
              refine br_true rfl ⟨_, _, _, Sat.ld h (.tail _ (.tail _ (.head _))) rfl, nilP_some ?_⟩
              refine Sat.st h (k := 0) rfl (Nat.le_of_ble_eq_true rfl) trivial rfl fun w h => ?_
              have h : Sat σ w (emC pb t' true cc (dvs.length : Nat) n pe :: stkC b3 S' :: (b1, cel [.slice dq dvs.length dc] ty_S_Inline) :: (SM ++ (DM ++ (RS ++ (M2 ++ L))))) := h
              refine ⟨_, _, _, Sat.ld h (.tail _ (.tail _ (.head _))) rfl, ?_⟩
              have h : Sat σ w (stkC b3 S' :: (b1, cel [.slice dq dvs.length dc] ty_S_Inline) :: (SM ++ (DM ++ (RS ++ (emC pb t' true cc (dvs.length : Nat) n pe :: (M2 ++ L)))))) := h.re (by intro _; simp only [List.append_eq, cnt_append, cnt_cons, cnt_nil] <;> omega)
              refine noC (app_step (t := ty_P_emphPlain) (b := pb) hDc (by omega) (by omega) h (C := fun _ => True) (fun _ _ _ => trivial) fun w dq' dc' RS' hD' h => ?_)
              have hsx : S'[ixOf c]? = some S'[ixOf c] := List.getElem?_eq_getElem (by omega)
              generalize S'[ixOf c] = sx at hsx
              have hSIx := hSI sx (List.mem_of_getElem? hsx)
              have h : Sat σ w (stkC b3 S' :: (SM ++ ((b1, cel [.slice dq' (dvs.length + 1) dc'] ty_S_Inline) :: (DM ++ (RS' ++ (emC pb t' true cc (dvs.length : Nat) n pe :: (M2 ++ L))))))) := h.re (by intro _; simp only [List.append_eq, cnt_append, cnt_cons, cnt_nil] <;> omega)
              have hentl : sx.ent.length < 999999999 := by
                have : ∀ (es : List (Nat × Nat)) (k : Nat), es.Pairwise (fun a b => a.2 < b.2) → (∀ e ∈ es, k ≤ e.2 ∧ e.2 < dst'.length) → k ≤ dst'.length → k + es.length ≤ dst'.length := by
                  intro es
                  induction es with
                  | nil => intro k _ _ hk; simpa using hk
                  | cons e es ihe =>
                    intro k hp hb hk
                    rw [List.pairwise_cons] at hp
                    have h1 := hb e (.head _)
                    have := ihe (e.2 + 1) hp.2 (fun x hx => ⟨hp.1 x hx, (hb x (.tail _ hx)).2⟩) (by omega)
                    simp; omega
                have := this sx.ent 0 hSIx.2.1 (fun e he => ⟨Nat.zero_le _, hlt sx (List.mem_of_getElem? hsx) e he⟩) (Nat.zero_le _)
                omega
              refine stk_app (m := dvs.length) (pb := pb) h5 hsx hSt hentl h fun w s' SM' hs' hSt' h => ?_
              rw [e1]
              have hidx : (idxs S').set (ixOf c) ((idxs S').getD (ixOf c) [] ++ [dst'.length]) = idxs (S'.set (ixOf c) s') := by
                rw [idxs_get hsx, idxs, idxs, List.map_set, hs', List.map_append, hvl]; rfl
              rw [hidx] at hgo
              refine ih _ (S'.set (ixOf c) s') (off + 1) (some c) w ⟨dq', dc', dvs ++ [ptrV ty_P_emphPlain pb], rvs', DM ++ [emC pb t' true cc (dvs.length : Nat) n pe], SM', RS', M2, hI.append (InlsAt.one (t := .emphP t' true cc (dvs.length : Nat) n) ⟨pb, pe, rfl, rfl⟩), hSt', by rw [List.length_set]; exact h5, ?_, hD', by simp; omega, hrest, ?_⟩ (by omega) (by simp; omega) hwf' (by have := hap.2; rw [hhd] at this; exact this) ?_ (by rw [← hgo, hvl])
              · intro s2 hs2
                rcases List.mem_or_eq_of_mem_set hs2 with hs2 | hs2
                · exact hSI.grow s2 hs2
                · subst hs2
                  rw [hs']
                  refine ⟨by simp; omega, ?_, ?_⟩
                  · rw [List.pairwise_append]
                    refine ⟨hSIx.2.1, by simp, fun a ha b hb => ?_⟩
                    simp at hb; subst hb
                    have := hlt sx (List.mem_of_getElem? hsx) a ha
                    show a.2 < dvs.length
                    omega
                  · intro e he
                    rcases List.mem_append.1 he with he | he
                    · obtain ⟨g1, g2, g3, g4, g5, g6, g7⟩ := hSIx.2.2 e he
                      exact ⟨g1, g2, g3, g4, by rw [List.getElem?_append_left (List.getElem?_eq_some_iff.1 g5).1]; exact g5, by rw [List.getElem?_append_left (List.getElem?_eq_some_iff.1 g6).1]; exact g6, g7⟩
                    · simp at he; subst he
                      exact ⟨t', true, cc, n, by show (dst' ++ _)[dvs.length]? = _; rw [hvl, List.getElem?_append_right (Nat.le_refl _)]; simp, by show (dvs ++ _)[dvs.length]? = _; simp, hn0, hn1, ht', by omega⟩
              · rw [List.length_append, List.length_singleton]; exact h.re (by intro _; simp only [List.append_eq, cnt_append, cnt_cons, cnt_nil] <;> omega)
              · intro c' hc' hne s2 hs2 e he
                have hne2 : ixOf c' ≠ ixOf c := by
                  intro h0
                  apply hne
                  rcases hc with rfl | rfl <;> rcases hc' with rfl | rfl <;> first | rfl | exact absurd h0 (by decide)
                rw [List.getElem?_set_ne (fun h => hne2 h.symm)] at hs2
                have := hlt s2 (List.mem_of_getElem? hs2) e he
                simp; omega
            | false =>
              rw [hco] at h hgo
              rw [if_neg (by simp)] at hgo
              refine br_false rfl ?_
              refine Sat.tk h fun w h => ?_
              refine nilP_some ⟨_, _, _, Sat.ld h (.tail _ (.tail _ (.head _))) rfl, ?_⟩
              have h : Sat σ w (stkC b3 S' :: (b1, cel [.slice dq dvs.length dc] ty_S_Inline) :: (SM ++ (DM ++ (RS ++ (emC pb t' false cc i n pe :: (M2 ++ L)))))) := h.re (by intro _; simp only [List.append_eq, cnt_append, cnt_cons, cnt_nil] <;> omega)
              have h0 := h
              refine app_step (t := ty_P_Plain) (b := pb) hDc (by omega) (by omega) h (C := fun w1 => SameC _ w1 _ 1) (fun w1 X hw => h0.same hw (.tail _ (.head _)) (.tail _ (.tail _ (.head _))) 1) fun w dq' dc' RS' hD' h => ?_
              rw [e1]
              refine ih (dst' ++ [.plain t']) S' (off + 1) (some c) w ⟨dq', dc', dvs ++ [ptrV ty_P_Plain pb], rvs', DM ++ [emC pb t' false cc i n pe], SM, RS', M2, hI.append (InlsAt.one (t := .plain t') ⟨pb, _, pe, rfl, rfl⟩), hSt, h5, hSI.grow, hD', by simp; omega, hrest, ?_⟩ (by omega) (by simp; omega) hwf' (by have := hap.2; rw [hhd] at this; exact this) ?_ hgo
              · rw [List.length_append, List.length_singleton]; exact h.re (by intro _; simp only [List.append_eq, cnt_append, cnt_cons, cnt_nil] <;> omega)
              · intro c' hc' hne s2 hs2 e he
                have := hlt s2 (List.mem_of_getElem? hs2) e he
                simp; omega
        refine ⟨cc, Sat.ld h (.tail _ (.tail _ (List.mem_append_right _ (List.mem_append_right _ (List.mem_append_right _ (.head _)))))) rfl, ?_⟩
        have hfin' : (let r := if cc then closeGo (ixOf c) co cc n s.length s dst (idxs S) else (s, dst, idxs S)
            if r.1 = [] then emphGo r.2.1 r.2.2 rts else if co then emphGo (r.2.1 ++ [.emphP r.1 co cc r.2.1.length n]) (r.2.2.set (ixOf c) (r.2.2.getD (ixOf c) [] ++ [r.2.1.length])) rts else emphGo (r.2.1 ++ [.plain r.1]) r.2.2 rts) = final := by
          rw [← hfin, emphGo, hix]
        cases hcc : cc with
        | false =>
          rw [hcc] at hfin' hEM fin
          refine br_false rfl (fin s dst S w hall (Nat.le_refl _) (hEM w (by rw [hcc] at h; exact h)) hle (fun h => absurd h hs0) ?_)
          simpa using hfin'
        | true =>
          rw [hcc] at hfin' hEM fin h
          refine br_true rfl (nilP_some ⟨_, Sat.ld h (.tail _ (.tail _ (List.mem_append_right _ (List.mem_append_right _ (List.mem_append_right _ (.head _)))))) rfl, by omega, head_pos htc, ?_⟩)
          rw [bt0 htc]
          refine enter_fn ?_
          refine em1_ok hc ⟨_, rfl, by omega, by omega, ?_⟩
          simp only [Addr.add_lit, Int.toNat_natCast, Nat.mul_one, Nat.zero_add]
          intro Xb hXb
          refine close_ok hix5 hc ⟨hn0, hn1⟩ (fun w hh => hXb _ _ _ _ _ _ _ _ _ _ _ hh) s.length s dst S w (Nat.le_refl _) hall hsl (hEM w h) (by omega) (hlate c hc hhd') ?_
          intro t' dst' S' w hgo hall' htl' h hoff' hdl' hl
          refine fin t' dst' S' w hall' htl' h (by omega) ?_ ?_
          · intro ht'
            rcases hl with ⟨hl, _⟩ | hl
            · rw [ht'] at hl; exact absurd hl.symm hs0
            · exact hl
          · simp only [if_true, hgo] at hfin'
            exact hfin'
      · -- anything else
        refine ⟨_, _, w, ta_emph_no hte w, br_true rfl ?_⟩
        refine tk_gen (A := fun w => Sat σ w (stkC b3 S :: (b1, cel [.slice dq dvs.length dc] ty_S_Inline) :: (SM ++ (DM ++ (RS ++ ((M1 ++ M2) ++ L)))))) h.tick fun w h => ?_
        refine ⟨by omega, by omega, nilP_of hsq ?_⟩
        refine ⟨_, _, _, Sat.ld h (.tail _ (.head _)) rfl, ?_⟩
        simp only [Addr.add_lit, Int.toNat_natCast, Nat.mul_one]
        obtain ⟨rb2, so2, hsq2, hcell2⟩ := hread w h
        rw [hsq] at hsq2
        simp only [Option.some.injEq, Addr.mk.injEq, and_true] at hsq2
        obtain ⟨rfl, rfl⟩ := hsq2
        refine ⟨_, hcell2, ?_⟩
        have h0 := h
        refine app_step hDc (by omega) (by omega) h (C := fun w1 => SameC _ w1 _ 1) (fun w1 X hw => h0.same hw (.tail _ (.head _)) (.tail _ (.tail _ (.head _))) 1) fun w dq' dc' RS' hD' h => ?_
        rw [e1]
        refine next w t t.ty pb M1 hv (by rw [← hfin]; cases t <;> first | rfl | exact absurd rfl hto | exact absurd rfl hte) dq' dc' RS' hD' (h.re (by intro _; simp only [List.append_eq, cnt_append, cnt_cons, cnt_nil] <;> omega))
end Go.Proofs.YtejiaegiijokcaaGreatDoor


set_option linter.unusedVariables false
namespace Go.Proofs.YtejiaegiijokcaaGreatDoor
open Go.Proofs Go.IntWalk Go.RowKit
variable {σ : Out} {w : World} {L L' : List Chunk} {R : Ending → World → Prop}
theorem DRow.same {q : Option Addr} {n c : Nat} {vs : List Value} {RM : List Chunk} (h : Sl 1 ty_Inline q n c vs RM) : DRow q c [] vs 0 q n c [] RM := by
  obtain ⟨hl, hnc, ⟨rfl, rfl, rfl, rfl⟩ | ⟨rb, sp, rfl, rfl, h3⟩⟩ := h
  · have : vs = [] := List.eq_nil_of_length_eq_zero (by omega)
    subst this
    exact ⟨by simp, by simp, .inr ⟨[], Sl.nil 1 ty_Inline, rfl, fun j v hv => by simp at hv⟩⟩
  · refine ⟨by omega, by simp, .inl ⟨rb, [], sp, rfl, rfl, rfl, rfl, ?_⟩⟩
    rw [List.length_append] at h3; omega
theorem DRow.done {dq sq : Option Addr} {dc off sn sc : Nat} {dvs : List Value} {RS : List Chunk} (h : DRow dq dc dvs [] off sq sn sc [] RS) : Sl 1 ty_Inline dq dvs.length dc dvs RS := by
  obtain ⟨h0, hle, ⟨rb, junk, sp, rfl, rfl, rfl, h1, h2⟩ | ⟨DR, hS, rfl, hr⟩⟩ := h
  · refine ⟨by omega, hle, .inr ⟨rb, junk ++ sp, rfl, rfl, ?_⟩⟩
    simp only [List.length_append, List.length_nil] at h2 ⊢; omega
  · rw [List.append_nil]; exact hS
theorem emph_ok {pq dq sq : Option Addr} {dc sn sc : Nat} {ts : List Inl} {vs : List Value} {SR RS EC : List Chunk} (hD : DRow dq dc [] vs 0 sq sn sc SR RS) (hI : InlsAt ts vs EC) (hwf : wfE ts) (hap : apartE none ts) (hn : sn < 999999990) (h : Sat σ w (RS ++ (EC ++ L)))
    (hR : ∀ w dq dc dvs DM RS, InlsAt (emphM ts) dvs DM → DRow dq dc dvs [] sn sq sn sc SR RS → dvs.length ≤ sn → Sat σ w (DM ++ (RS ++ L)) → R (.returned (.slice dq dvs.length dc)) w) :
    callE P i_parseState_emph #[.pointer pq, .slice dq 0 dc, .slice sq sn sc] R w := by
  refine g_parseState_emph.sound ?_
  refine Sat.bx h fun b1 w h => ?_
  refine Sat.bx h fun b3 w h => ?_
  intro X hX
  have hl := hI.length
  have h0 := hD.1
  let s0 : STK := ⟨none, 0, 0, []⟩
  have h : Sat σ w (stkC b3 [s0, s0, s0, s0, s0] :: (b1, cel [.slice dq 0 dc] ty_S_Inline) :: (RS ++ (EC ++ L))) := h
  have hs0 : s0.ok [] := Sl.nil 1 ty_P_emphPlain
  refine emph_loop (Xa := X) (fun x10 w hh => hX _ _ _ _ _ _ _ _ _ hh) hn (emphM ts) (fun w dq dc dvs DM RS h1 h2 h3 h4 => hR w dq dc dvs DM RS h1 h2 h3 h4) ts [] [s0, s0, s0, s0, s0] 0 none w
    ⟨dq, dc, [], vs, [], [], RS, EC, ⟨rfl, rfl⟩, ⟨[], [], rfl, hs0, [], [], rfl, hs0, [], [], rfl, hs0, [], [], rfl, hs0, [], [], rfl, hs0, rfl⟩, rfl, ?_, hD, by simp, hI, h⟩ (by omega) (by simp) hwf hap ?_ rfl
  · intro s hs
    simp only [List.mem_cons, List.mem_nil_iff, or_false, or_self] at hs
    subst hs
    exact ⟨by show (0 : Nat) < _; decide, List.Pairwise.nil, fun e he => by cases he⟩
  · intro c hc _ s hs e he
    have : s = s0 := by
      rcases hc with rfl | rfl
      · exact (Option.some.inj hs).symm
      · exact (Option.some.inj hs).symm
    subst this
    cases he
theorem emphOK_gen {ts : List Inl} (hwf : wfE ts) (hap : apartE none ts) (hts : ts.length < 999999990) : EmphOK ts (emphM ts) := by
  intro σ R pq q n c vs RM EM L w hS hI hn h hR
  have hl := hI.length
  have hn0 := hS.1
  exact emph_ok (DRow.same hS) hI hwf hap (by omega) h fun w dq dc dvs DM RS h1 h2 h3 h4 => hR w dq dvs.length dc dvs RS DM h2.done h3 h1 (h4.re (by intro _; simp only [List.append_eq, cnt_append, cnt_cons, cnt_nil] <;> omega))
end Go.Proofs.YtejiaegiijokcaaGreatDoor


set_option linter.unusedVariables false
namespace Go.Proofs.YtejiaegiijokcaaGreatDoor
open Go.Proofs
theorem sub_length {s : List UInt8} {i j : Nat} (h : j ≤ s.length) : (sub s i j).length = j - i := by unfold sub; rw [List.length_drop, List.length_take]; omega
theorem getD_app {a b : List UInt8} {k : Nat} (h : a.length ≤ k) : (a ++ b).getD k 0 = b.getD (k - a.length) 0 := by
  rw [List.getD_eq_getElem?_getD, List.getElem?_append_right h, ← List.getD_eq_getElem?_getD]
theorem getD_app' {a b : List UInt8} {k : Nat} {d : UInt8} (h : k < a.length) : (a ++ b).getD k d = a.getD k d := by
  rw [List.getD_eq_getElem?_getD, List.getElem?_append_left h, ← List.getD_eq_getElem?_getD]
theorem getD_mid (A C : List UInt8) (b d : UInt8) : (A ++ (b :: C)).getD A.length d = b := by
  rw [List.getD_eq_getElem?_getD, List.getElem?_append_right (Nat.le_refl _), Nat.sub_self]; rfl
theorem getElem_getD {l : List UInt8} {i : Nat} (h : i < l.length) (d : UInt8) : l[i] = l.getD i d := by
  rw [List.getD_eq_getElem?_getD, List.getElem?_eq_getElem h]; rfl
def optOff : Opt := ⟨false, false, false, false, false, false, false, false, false, false⟩
theorem drop_getD (s : List UInt8) (i k : Nat) (d : UInt8) : (s.drop i).getD k d = s.getD (i + k) d := by
  rw [List.getD_eq_getElem?_getD, List.getD_eq_getElem?_getD, List.getElem?_drop]
end Go.Proofs.YtejiaegiijokcaaGreatDoor


set_option linter.unusedVariables false
namespace Go.Proofs.YtejiaegiijokcaaGreatDoor
open Go.Proofs Go.IntWalk Go.RowKit
variable {σ : Out} {w : World} {L L' : List Chunk} {R : Ending → World → Prop}
theorem linkCorner_ok {s : List UInt8} (hs : s.length < 1000000000) (hR : ∀ r, R (.returned (.bool r)) w) : callE P i_linkCorner #[.string (bs s)] R w := by
  refine g_linkCorner.sound ?_
  intro X hX
  have hex : ∀ {Q : Ending → World → Prop} (c : Int), (∀ r, Q (.returned (.bool r)) w) → callE P i_isHexDigit #[.int .u8 c] Q w := by
    intro Q c hQ
    refine g_isHexDigit.sound ?_
    exact hQ _
  have key : ∀ k m, m + k = s.length → X (bs s) (m : Int) w := by
    intro k
    induction k with
    | zero => intro m hm; exact hX _ _ _ (br_false (by simp; omega) (hR _))
    | succ k ih =>
      intro m hm
      refine hX _ _ _ (br_true (by simp; omega) ⟨by omega, by simp; omega, ?_⟩)
      rw [show IntKind.i64.wrap ((m : Int) + 2) = ((m + 2 : Nat) : Int) by rw [show ((m : Int) + 2) = ((m + 2 : Nat) : Int) by omega, i64_in _ (by omega)], i64_inc (by omega)]
      have hnext := ih (m + 1) (by omega)
      refine br_split (fun _ => ?_) (fun _ => hnext)
      refine ⟨fun hh => ?_, ?_⟩
      · simp at hh; exact ⟨by omega, by simp; omega⟩
      refine br_split (fun _ => ?_) (fun hb => ?_)
      · exact ⟨fun h => Bool.noConfusion h, hR _⟩
      have hb' : m + 2 < s.length := by simp at hb; omega
      refine hex _ fun r => ⟨_, rfl, ?_⟩
      refine ⟨fun _ => ⟨by omega, by simp; omega⟩, ?_⟩
      refine br_split (fun _ => hR _) (fun _ => ?_)
      exact hex _ fun r => ⟨_, rfl, br_split (fun _ => hR _) (fun _ => hnext)⟩
  exact key s.length 0 (by omega)
theorem linkOpen_leaf {b i : Nat} {p : PS} {s : List UInt8} (hs : s.length < 1000000000) (hi : i < s.length) (hc : s[i] = 91) : LeafOK b p s i (.func (.func i_parseLinkOpen) #[] #[]) [] (some (.openP [91] (i + 1), i, i + 1)) (fun p' => p' = p) := by
  intro σ R L w _ h hR
  refine enter_fn (g_parseLinkOpen.sound ?_)
  unfold g_parseLinkOpen
  rw [i64_inc (by omega)]
  refine ⟨by omega, by omega, by simp; omega, ?_⟩
  rw [Int.toNat_natCast, Int.toNat_natCast, bs_extract]
  have e : (s.take (i + 1)).drop i = [91] := by
    rw [List.take_succ_eq_append_getElem hi, List.drop_left' (by rw [List.length_take]; omega), hc]
  rw [e]
  refine Sat.bx h fun nb w h => ?_
  exact hR w p _ _ rfl rfl ⟨nb, _, rfl, rfl⟩ h.up1
def AtB (X : XI) (σ : Out) (b : Nat) (p0 : PS) (raw : List UInt8) (L : List Chunk) (i e : Nat) (ts : List Inl) (opens : List Nat) (lo : Int) : Prop :=
  ∀ w (p : PS) oq on oc, p.coreS = p0.coreS → p.s = raw → p.em = (e : Int) → IIn σ b p ts opens oq on oc L w → X (some ⟨b, 0, none⟩) (bs raw) oq on oc lo false (i : Int) w
def LoopB (R : Ending → World → Prop) (X : XI) (b : Nat) (raw : List UInt8) : Prop :=
  ∀ oq on oc lo (i : Int) w, g_parseState_inline.bl1 R X (some ⟨b, 0, none⟩) (bs raw) oq on oc lo false i w → X (some ⟨b, 0, none⟩) (bs raw) oq on oc lo false i w
theorem AtB.plain {X : XI} {b pb i e : Nat} {p0 : PS} {raw : List UInt8} {ts : List Inl} {opens : List Nat} {lo : Int} {o : Opt} (hX : LoopB R X b raw) (hi : i < raw.length) (hs : raw.length < 1000000000) (hpz : p0.pz = some ⟨pb, 0, none⟩) (ho : o.at pb ∈ L) (hp : parserOf o raw[i] = .nil) (h93 : raw[i] ≠ 93 ∨ opens = [])
    (h : AtB X σ b p0 raw L (i + 1) e ts opens lo) : AtB X σ b p0 raw L i e ts opens lo := by
  intro w p oq on oc hc hraw he hI
  refine hX _ _ _ _ _ _ ?_
  obtain ⟨vs, RM, EM, OM, hS, hIn, hO, hlen, hsat⟩ := hI
  refine inl_dispatch (p := p) hi (by omega) (by rw [PS.pz_of hc, hpz]) (.head _) (.tail _ (List.mem_append_right _ (List.mem_append_right _ (List.mem_append_right _ ho)))) hsat ?_
  rw [hp]
  have hol := hO.1
  rw [List.length_map] at hol
  exact inl_none (inl_k5 hi (by omega) (h93.imp id (by rintro rfl; simp at hol; omega)) (h w p oq on oc hc hraw he ⟨vs, RM, EM, OM, hS, hIn, hO, hlen, hsat⟩))
theorem AtB.leaf {X : XI} {b pb i e st en : Nat} {p0 : PS} {raw : List UInt8} {ts : List Inl} {opens : List Nat} {lo : Int} {o : Opt} {f : FuncId} {t : Inl} {L0 : List Chunk} {Q : PS → PS → Prop} (hX : LoopB R X b raw) (hi : i < raw.length) (hs : raw.length < 1000000000) (hpz : p0.pz = some ⟨pb, 0, none⟩) (ho : o.at pb ∈ L)
    (hp : parserOf o raw[i] = .fn f) (hL0 : ∀ c ∈ L0, c ∈ L) (hf : ∀ p : PS, p.coreS = p0.coreS → p.s = raw → LeafOK b p raw i (.func (.func f) #[] #[]) L0 (some (t, st, en)) (Q p)) (hst : st ≤ raw.length) (hn : ts.length < 1000000000) (hon : opens.length < 1000000000)
    (h : AtB X σ b p0 raw L en en (emitM raw e st ts ++ [t]) (if t.isOpen then opens ++ [(emitM raw e st ts).length] else opens) lo) : AtB X σ b p0 raw L i e ts opens lo := by
  intro w p oq on oc hc hraw he hI
  refine hX _ _ _ _ _ _ ?_
  obtain ⟨vs, RM, EM, OM, hS, hIn, hO, hlen, hsat⟩ := hI
  refine inl_dispatch (p := p) hi (by omega) (by rw [PS.pz_of hc, hpz]) (.head _) (.tail _ (List.mem_append_right _ (List.mem_append_right _ (List.mem_append_right _ ho)))) hsat ?_
  rw [hp]
  dsimp only
  have hleaf := hf p hc hraw
  subst hraw
  refine inl_leaf ⟨vs, RM, EM, OM, hS, hIn, hO, hlen, hsat⟩ hL0 hleaf he hst hs hn hon fun w p2 oq on oc hp2 hem2 _ h2 => ?_
  refine h w p2 oq on oc (PS.coreS_of hp2 hc) ?_ hem2 h2
  have := congrArg PS.s hp2; exact this
theorem AtB.fin {X : XI} {b pb e : Nat} {p0 : PS} {raw : List UInt8} {ts ts' : List Inl} {opens : List Nat} {lo : Int} {o : Opt} (hX : LoopB R X b raw) (hs : raw.length < 1000000000) (hpz : p0.pz = some ⟨pb, 0, none⟩) (ho : o.at pb ∈ L) (hoff : o.auto = false) (hn : ts.length < 1000000000)
    (hE : EmphOK (emitM raw e raw.length ts) ts') (hpos : ∀ t ∈ ts', ∀ s, t.plain? = some s → s ≠ []) (hb : plen ts' < 1073741824)
    (hR : ∀ w (p' : PS) q n c vs RM EM, p'.coreS = p0.coreS → Sl 1 ty_Inline q n c vs RM → n < 1073741824 → InlsAt (mergeM ts') vs EM → Sat σ w (p'.at b :: (RM ++ (EM ++ L))) → R (.returned (.slice q n c)) w) :
    AtB X σ b p0 raw L raw.length e ts opens lo := by
  intro w p oq on oc hc hraw he hI
  refine hX _ _ _ _ _ _ ?_
  subst hraw
  exact inl_end hI he hs hn (by rw [PS.pz_of hc, hpz]) ho hoff hE hpos hb fun w p2 q n c vs RM EM hp2 hS hn hI h => hR w p2 q n c vs RM EM (PS.coreS_of hp2 hc) hS hn hI h
end Go.Proofs.YtejiaegiijokcaaGreatDoor

