/- Part 6 of the proof of the law FnWWW: for every input the law returns true, the inputs read as they did, and memory that was there is as it was; under the conditions of the given row alone. -/
import Derived.Laws.IdiomStrings
import Derived.Test.YtmicoampfglaiaaGreatDoorA5
set_option linter.all false
/- Inlines print themselves. -/
set_option linter.unusedVariables false
namespace Go.Proofs.YtmicoampfglaiaaGreatDoor
open Go.Proofs Go.IntWalk Go.RowKit
variable {σ : Out} {w : World} {L L' : List Chunk} {R : Ending → World → Prop}
theorem meth_Strong : methB P ty_P_Strong "PrintHTML" i_Strong_PrintHTML = true := by kernel_rfl
theorem meth_Emph : methB P ty_P_Emph "PrintHTML" i_Emph_PrintHTML = true := by kernel_rfl
def oStrong : List UInt8 := [60, 115, 116, 114, 111, 110, 103, 62]
def cStrong : List UInt8 := [60, 47, 115, 116, 114, 111, 110, 103, 62]
def oEm : List UInt8 := [60, 101, 109, 62]
def cEm : List UInt8 := [60, 47, 101, 109, 62]
theorem strong_prints {b : Nat} {e : TypeId} {m : Value} {q : Option Addr} {n c : Nat} {vs : List Value} {RM KM KM' : List Chunk} {f : List UInt8 → List UInt8} (hS : Sl 1 ty_Inline q n c vs RM) (hn : n < 4611686018427387904) (hP : PrintsL "PrintHTML" vs KM KM' f) :
    Prints "PrintHTML" (.iface ty_P_Strong (.pointer (some ⟨b, 0, none⟩))) ((b, cel [m, .slice q n c] e) :: (RM ++ KM)) ((b, cel [m, .slice q n c] e) :: (RM ++ KM')) (fun l => f (l ++ oStrong) ++ cStrong) := by
  refine ⟨fun l => ?_, fun σ R bb l M L w hB h hb hR => enter_meth meth_Strong ?_⟩
  · have := hP.mono (l ++ oStrong)
    simp only [List.length_append] at *; omega
  refine g_Strong_PrintHTML.sound ?_
  have hm := hP.mono (l ++ oStrong)
  simp only [List.length_append] at hb hm
  refine writeS_ok (s := oStrong) hB h (by omega) fun w M hB h => ⟨_, _, rfl, ?_⟩
  refine nilP_some ?_
  refine ⟨_, _, _, Sat.ld h (List.mem_append_right _ (.head _)) rfl, ?_⟩
  intro X hX
  have h : Sat σ w (M ++ (RM ++ (KM ++ ((b, cel [m, .slice q n c] e) :: L)))) := h.re (by intro _; simp only [List.append_eq, cnt_append, cnt_cons, cnt_nil] <;> omega)
  refine printLoop (X := fun j w => X (some ⟨bb, 0, none⟩) q n c (n : Int) j w) (END := fun w => callE P i_bytes_Buffer_WriteString #[.pointer (some ⟨bb, 0, none⟩), .string (bs cStrong)] (fun e w10 => ∃ (r9_0 : Int), ∃ (r9_1 : Value), e = .returned (.tuple #[.int .i64 r9_0, r9_1]) ∧ R (.returned (.tuple #[])) w10) w) hS (fun j w hj => hX _ _ _ _ _ _ _ hj) hP hB h hn (by omega) fun w M' hB h => ?_
  refine writeS_ok (s := cStrong) hB h (by omega) fun w M hB h => ⟨_, _, rfl, ?_⟩
  exact hR w M hB (h.re (by intro _; simp only [List.append_eq, cnt_append, cnt_cons, cnt_nil] <;> omega))
theorem em_prints {b : Nat} {e : TypeId} {m : Value} {q : Option Addr} {n c : Nat} {vs : List Value} {RM KM KM' : List Chunk} {f : List UInt8 → List UInt8} (hS : Sl 1 ty_Inline q n c vs RM) (hn : n < 4611686018427387904) (hP : PrintsL "PrintHTML" vs KM KM' f) :
    Prints "PrintHTML" (.iface ty_P_Emph (.pointer (some ⟨b, 0, none⟩))) ((b, cel [m, .slice q n c] e) :: (RM ++ KM)) ((b, cel [m, .slice q n c] e) :: (RM ++ KM')) (fun l => f (l ++ oEm) ++ cEm) := by
  refine ⟨fun l => ?_, fun σ R bb l M L w hB h hb hR => enter_meth meth_Emph ?_⟩
  · have := hP.mono (l ++ oEm)
    simp only [List.length_append] at *; omega
  refine g_Emph_PrintHTML.sound ?_
  have hm := hP.mono (l ++ oEm)
  simp only [List.length_append] at hb hm
  refine writeS_ok (s := oEm) hB h (by omega) fun w M hB h => ⟨_, _, rfl, ?_⟩
  refine nilP_some ?_
  refine ⟨_, _, _, Sat.ld h (List.mem_append_right _ (.head _)) rfl, ?_⟩
  intro X hX
  have h : Sat σ w (M ++ (RM ++ (KM ++ ((b, cel [m, .slice q n c] e) :: L)))) := h.re (by intro _; simp only [List.append_eq, cnt_append, cnt_cons, cnt_nil] <;> omega)
  refine printLoop (X := fun j w => X (some ⟨bb, 0, none⟩) q n c (n : Int) j w) (END := fun w => callE P i_bytes_Buffer_WriteString #[.pointer (some ⟨bb, 0, none⟩), .string (bs cEm)] (fun e w10 => ∃ (r9_0 : Int), ∃ (r9_1 : Value), e = .returned (.tuple #[.int .i64 r9_0, r9_1]) ∧ R (.returned (.tuple #[])) w10) w) hS (fun j w hj => hX _ _ _ _ _ _ _ hj) hP hB h hn (by omega) fun w M' hB h => ?_
  refine writeS_ok (s := cEm) hB h (by omega) fun w M hB h => ⟨_, _, rfl, ?_⟩
  exact hR w M hB (h.re (by intro _; simp only [List.append_eq, cnt_append, cnt_cons, cnt_nil] <;> omega))
/-! ### In general -/
mutual
/-- What an inline prints (of the kinds that are covered). -/
def outI : Inl → List UInt8
  | .plain s => escS htmlPs s
  | .strong _ ks => oStrong ++ outL ks ++ cStrong
  | .emph _ ks => oEm ++ outL ks ++ cEm
  | .esc s => escS htmlPs s
  | .auto t u => aHref ++ escS linkPs u ++ [34, 62] ++ escS htmlPs t ++ aEnd
  | .link ks u t _ _ => linkO u t ++ outL ks ++ aEnd
  | .soft => softT
  | .hard => hardT
  | _ => []
def outL : List Inl → List UInt8
  | [] => []
  | t :: ts => outI t ++ outL ts
end
mutual
def okI : Inl → Prop
  | .plain s => s.length < 4294967296
  | .strong _ ks => okL ks ∧ ks.length < 1073741824
  | .emph _ ks => okL ks ∧ ks.length < 1073741824
  | .esc s => s.length < 4294967296
  | .auto t u => t.length < 100000000 ∧ u.length < 100000000
  | .link ks u t _ _ => okL ks ∧ ks.length < 1073741824 ∧ u.length < 100000000 ∧ t.length < 100000000
  | .soft => True
  | .hard => True
  | _ => False
def okL : List Inl → Prop
  | [] => True
  | t :: ts => okI t ∧ okL ts
end
theorem Prints.as {m : String} {v : Value} {T T' : List Chunk} {f g : List UInt8 → List UInt8} (h : Prints m v T T' f) (e : f = g) : Prints m v T T' g := e ▸ h
theorem PrintsL.as {m : String} {v : List Value} {T T' : List Chunk} {f g : List UInt8 → List UInt8} (h : PrintsL m v T T' f) (e : f = g) : PrintsL m v T T' g := e ▸ h
mutual
theorem inl_prints : ∀ (t : Inl) (v : Value) (M : List Chunk), InlAt t v M → okI t → Prints "PrintHTML" v M M (ab (outI t))
  | .plain s, v, M, h, ho => by
    obtain ⟨b, cs, e, rfl, rfl⟩ := h
    exact plain_prints ho
  | .strong m ks, v, M, h, ho => by
    obtain ⟨b, e, q, n, c, vs, RM, KM, rfl, rfl, hS, hI⟩ := h
    have hl := hI.length
    have h0 := hS.1
    have h1 := ho.2
    refine (strong_prints hS (by omega) (inls_print ks vs KM hI ho.1)).as ?_
    funext l
    simp [ab, outI]
  | .emph m ks, v, M, h, ho => by
    obtain ⟨b, e, q, n, c, vs, RM, KM, rfl, rfl, hS, hI⟩ := h
    have hl := hI.length
    have h0 := hS.1
    have h1 := ho.2
    refine (em_prints hS (by omega) (inls_print ks vs KM hI ho.1)).as ?_
    funext l
    simp [ab, outI]
  | .esc s, v, M, h, ho => by
    obtain ⟨b, e, rfl, rfl⟩ := h
    exact esc_prints ho
  | .auto t u, v, M, h, ho => by
    obtain ⟨b, e, rfl, rfl⟩ := h
    exact auto_prints ho.1 ho.2
  | .link ks u t tc k, v, M, h, ho => by
    obtain ⟨b, e, q, n, c, vs, RM, KM, rfl, rfl, hS, hI⟩ := h
    have hl := hI.length
    have h0 := hS.1
    obtain ⟨h1, h2, h3, h4⟩ := ho
    refine (link_prints h3 h4 hS (by omega) (inls_print ks vs KM hI h1)).as ?_
    funext l
    simp [ab, outI]
  | .soft, v, M, h, ho => by
    obtain ⟨b, e, rfl, rfl⟩ := h
    exact soft_prints
  | .hard, v, M, h, ho => by
    obtain ⟨b, e, rfl, rfl⟩ := h
    exact hard_prints
  | .openP _ _, v, M, h, ho => absurd ho id
  | .emphP _ _ _ _ _, v, M, h, ho => absurd ho id
  | .code _, v, M, h, ho => absurd ho id
  | .del _ _, v, M, h, ho => absurd ho id
  | .image _ _ _ _ _, v, M, h, ho => absurd ho id
  | .tag _, v, M, h, ho => absurd ho id
  | .task _, v, M, h, ho => absurd ho id
theorem inls_print : ∀ (ts : List Inl) (vs : List Value) (M : List Chunk), InlsAt ts vs M → okL ts → PrintsL "PrintHTML" vs M M (ab (outL ts))
  | [], vs, M, h, ho => by
    obtain ⟨rfl, rfl⟩ := h
    exact PrintsL.nil.as (by funext l; simp [ab, outL])
  | t :: ts, vs, M, h, ho => by
    obtain ⟨v, vs', M1, M2, rfl, rfl, h1, h2⟩ := h
    refine (PrintsL.cons (inl_prints t v M1 h1 ho.1) (inls_print ts vs' M2 h2 ho.2)).as ?_
    funext l
    simp [ab, outL]
end
end Go.Proofs.YtmicoampfglaiaaGreatDoor


/- A text in which nothing is an inline but plain text. -/
set_option linter.unusedVariables false
namespace Go.Proofs.YtmicoampfglaiaaGreatDoor
open Go.Proofs Go.IntWalk Go.RowKit
variable {σ : Out} {w : World} {L L' : List Chunk} {R : Ending → World → Prop}
theorem AtI.plains {X : XI} {b pb e : Nat} {p0 : PS} {raw : List UInt8} {ts : List Inl} {o : Opt} (hX : LoopX R X b raw) (hs : raw.length < 1000000000) (hpz : p0.pz = some ⟨pb, 0, none⟩) (ho : o.at pb ∈ L) :
    ∀ (k i : Nat), i + k ≤ raw.length → (∀ j (hj : j < raw.length), i ≤ j → j < i + k → parserOf o raw[j] = .nil ∧ raw[j] ≠ 93) → AtI X σ b p0 raw L (i + k) e ts → AtI X σ b p0 raw L i e ts
  | 0, i, _, _, h => h
  | k + 1, i, hk, hall, h => by
    have hi : i < raw.length := by omega
    have h0 := hall i hi (Nat.le_refl _) (by omega)
    refine AtI.plain hX hi hs hpz ho h0.1 h0.2 ?_
    refine AtI.plains hX hs hpz ho k (i + 1) (by omega) (fun j hj h1 h2 => hall j hj (by omega) (by omega)) ?_
    rw [show i + 1 + k = i + (k + 1) by omega]; exact h
theorem plainText_inline {o : Opt} {s : List UInt8} (hoff : o.auto = false) (hs : s.length < 1000000) (hall : ∀ c ∈ trimLR isST s, parserOf o c = .nil ∧ c ≠ 93) (hne : trimLR isST s ≠ []) : InlineOK o s (ab (escS htmlPs (trimLR isST s))) := by
  intro σ R b pb p L w h hpz ho hlk hR
  have htl : (trimLR isST s).length ≤ s.length := by
    unfold trimLR trimR
    have h1 := (List.dropWhile_sublist isST (l := s)).length_le
    have h2 := (List.dropWhile_sublist isST (l := (s.dropWhile isST).reverse)).length_le
    simp at h2 ⊢; omega
  refine inl_begin h (by omega) fun w h => ?_
  generalize hr : trimLR isST s = raw at h hall hne htl hR ⊢
  intro X hX
  have hXL : LoopX R X b raw := fun _ _ _ _ _ h => hX _ _ _ _ _ _ _ _ _ h
  generalize hp0 : ({ p with s := raw, em := 0, lq := none, ln := 0, lc := 0 } : PS) = p0 at h
  have hpz0 : p0.pz = some ⟨pb, 0, none⟩ := by rw [← hp0]; exact hpz
  have hcs : p0.coreS = p.coreS := by rw [← hp0]; rfl
  suffices hat : AtI X σ b p0 raw L 0 0 [] from hat w p0 none 0 0 rfl (by rw [← hp0]) (by rw [← hp0]; rfl) h
  have hpos : 0 < raw.length := List.length_pos_iff.2 hne
  refine AtI.plains hXL (by omega) hpz0 ho raw.length 0 (by omega) (fun j hj _ _ => hall _ (List.getElem_mem hj)) ?_
  rw [Nat.zero_add]
  have e1 : emitM raw 0 raw.length [] = [.plain raw] := by
    unfold emitM; rw [if_pos hpos]
    show [Inl.plain ((raw.take raw.length).drop 0)] = _
    rw [List.take_length, List.drop_zero]
  refine AtI.fin (ts' := [.plain raw]) hXL (by omega) hpz0 ho hoff (by simp) ?_ ?_ ?_ ?_
  · rw [e1]
    exact emphOK_none (by intro t ht; simp at ht; subst ht; exact ⟨by simp only [Inl.ty]; decide, by simp only [Inl.ty]; decide⟩)
  · intro t ht s hs; simp at ht; subst ht; simp [Inl.plain?] at hs; subst hs; exact hne
  · simp [plen, Inl.plain?]; omega
  · intro w p' q n' c vs RM EM hp' hS hn' hI h
    have em : mergeM [.plain raw] = [.plain raw] := by simp [mergeM, mergeGo, flushP, Inl.plain?]
    rw [em] at hI
    have hP := inls_print _ _ _ hI ⟨by show raw.length < _; omega, trivial⟩
    have eo : outL [.plain raw] = escS htmlPs raw := by simp [outL, outI]
    rw [eo] at hP
    exact hR w p' q n' c vs RM EM EM (hp'.trans hcs) hS hn' hP h
end Go.Proofs.YtmicoampfglaiaaGreatDoor


/- A line that begins with < and is no block of HTML: startHTML declines. -/
set_option linter.unusedVariables false
namespace Go.Proofs.YtmicoampfglaiaaGreatDoor
open Go.Proofs Go.IntWalk Go.RowKit
variable {σ : Out} {w : World} {L L' : List Chunk} {R : Ending → World → Prop}
def lowB (c : UInt8) : Bool := (decide (97 ≤ c.toNat) && decide (c.toNat ≤ 122)) || (decide (48 ≤ c.toNat) && decide (c.toNat ≤ 57))
def preWords : List (List UInt8) := [[112, 114, 101], [115, 99, 114, 105, 112, 116], [115, 116, 121, 108, 101], [116, 101, 120, 116, 97, 114, 101, 97]]
/-- A line that begins with a sign < behind which no block of HTML begins: first the run of small letters and digits, up to the sixteenth, then the name of a tag. -/
structure NoTag (s : List UInt8) (e m : Nat) : Prop where
  len : s.length < 1000000
  hd : s.getD 0 0 = 60
  n1 : s.getD 1 0 ≠ 33 ∧ s.getD 1 0 ≠ 63 ∧ s.getD 1 0 ≠ 47
  e1 : 1 ≤ e ∧ e < s.length ∧ e ≤ 17
  run : ∀ k, 1 ≤ k → k < e → lowB (s.getD k 0) = true
  stop : e = 17 ∨ (lowB (s.getD e 0) = false ∧ letB (s.getD e 0) = false)
  sep : s.getD e 0 ≠ 32 ∧ s.getD e 0 ≠ 9 ∧ s.getD e 0 ≠ 62 ∧ s.getD e 0 ≠ 47
  tag : letB (s.getD 1 0) = false ∨ (RunTo s ldhB 2 m ∧ m < s.length ∧ sub s 1 m ∉ preWords ∧ s.getD m 0 ≠ 32 ∧ s.getD m 0 ≠ 9 ∧ s.getD m 0 ≠ 10 ∧ s.getD m 0 ≠ 47 ∧ s.getD m 0 ≠ 62)
end Go.Proofs.YtmicoampfglaiaaGreatDoor


/- Addresses of electronic mail in angle brackets. -/
set_option linter.unusedVariables false
namespace Go.Proofs.YtmicoampfglaiaaGreatDoor
open Go.Proofs Go.IntWalk Go.RowKit
variable {σ : Out} {w : World} {L L' : List Chunk} {R : Ending → World → Prop}
/-- A part of a domain. -/
structure DomTo (s : List UInt8) (i n : Nat) : Prop where
  pos : 1 ≤ n
  le : n ≤ 63
  len : i + n < s.length
  all : ∀ k, k < n → ldhB (s.getD (i + k) 0) = true
  hd : ldigB (s.getD i 0) = true
  last : ldigB (s.getD (i + n - 1) 0) = true
  stop : ldhB (s.getD (i + n) 0) = false
end Go.Proofs.YtmicoampfglaiaaGreatDoor


/- FnAddress: the law's walk. -/
set_option linter.unusedVariables false
namespace Go.Proofs.YtmicoampfglaiaaGreatDoor
open Go.Proofs Go.IntWalk Go.RowKit
variable {σ : Out} {w : World} {L L' : List Chunk} {R : Ending → World → Prop}
def nmSet : List UInt8 := [97, 98, 122, 48, 49, 57, 46, 43, 45, 95]
def hoSet : List UInt8 := [97, 98, 122]
/-- What holds of the three parts. -/
structure Mail (nm ho en : List UInt8) : Prop where
  nm0 : nm ≠ []
  nml : nm.length ≤ 40
  nms : ∀ c ∈ nm, c ∈ nmSet
  ho0 : ho ≠ []
  hol : ho.length ≤ 40
  hos : ∀ c ∈ ho, c ∈ hoSet
  en0 : en ≠ []
  enl : en.length ≤ 40
  ens : ∀ c ∈ en, c ∈ hoSet
theorem onlyM_of {s set : List UInt8} {n : Nat} (h : onlyM s set n = true) : s.length ≤ n ∧ ∀ c ∈ s, c ∈ set := by
  simp only [onlyM, Bool.and_eq_true, decide_eq_true_eq] at h
  exact ⟨h.1, fun c hc => of_decide_eq_true ((List.all_eq_true.1 h.2) c hc)⟩
theorem escS_id {ps : Prs} {s : List UInt8} (h : ∀ c ∈ s, escB ps c = [c]) : escS ps s = s := by
  induction s with
  | nil => rfl
  | cons c s ih => rw [escS_cons, h c (List.mem_cons_self ..), ih (fun d hd => h d (List.mem_cons_of_mem _ hd))]; rfl
end Go.Proofs.YtmicoampfglaiaaGreatDoor


set_option linter.unusedVariables false
set_option maxRecDepth 20000
namespace Go.Proofs.YtmicoampfglaiaaGreatDoor
open Go.Proofs
/- 10 pub-paratext/laws.word -/
namespace g_laws_word
noncomputable def body : Code := bodyOf Tryz.f10
end g_laws_word
def g_laws_word (R : EP) (x0 : BA) (w : World) : Prop :=
 br (!(x0.toList == (ByteArray.mk #[]).toList))
 (callE P i_laws_only #[.string x0, .string (ByteArray.mk #[97, 98, 122, 48, 49, 57]), .int .i64 20] (fun e w2 => ∃ (r1 : Bool), e = .returned (.bool r1) ∧
 R (.returned (.bool r1)) w2) w)
 (R (.returned (.bool false)) w)

noncomputable def g_laws_word.ac (R : EP) : AC :=
  (.leaf (sel [] g_laws_word.body))
theorem g_laws_word.good (R : EP) : Good P 9 (g_laws_word.ac R) (QF P [.tmp 2] R) :=
  trivial
theorem g_laws_word.eq (R : EP) (x0 : BA) (w : World) : g_laws_word R x0 w = vcA P 9 (g_laws_word.ac R) (QF P [.tmp 2] R) (fr0 [.string x0]) w := by kernel_rfl
theorem g_laws_word.sound {R : EP} {x0 : ByteArray} {w : World} (h : g_laws_word R x0 w) : callE P i_laws_word #[.string x0] R w :=
  callE_fin (c := g_laws_word.body) Tryz.func10 Tryz.call10 (by kernel_rfl) (by kernel_rfl) (by kernel_rfl) (by kernel_rfl) (by kernel_rfl) (g_laws_word.good R) (g_laws_word.eq R x0 w) h
end Go.Proofs.YtmicoampfglaiaaGreatDoor

/- Headings: small functions. -/
set_option linter.unusedVariables false
namespace Go.Proofs.YtmicoampfglaiaaGreatDoor
open Go.Proofs Go.IntWalk Go.RowKit
variable {σ : Out} {w : World} {L L' : List Chunk} {R : Ending → World → Prop}
def wordM (s : List UInt8) : Bool := !s.isEmpty && onlyM s [97, 98, 122, 48, 49, 57] 20
theorem word_ok {s : List UInt8} (hs : s.length < 4611686018427387904) (hR : R (.returned (.bool (wordM s))) w) : callE P i_laws_word #[.string (bs s)] R w := by
  refine g_laws_word.sound ?_
  cases hs0 : s with
  | nil => subst hs0; exact br_false (by rw [bs_toList, mk_toList]; rfl) hR
  | cons c t =>
    rw [← hs0]
    refine br_true (by rw [bs_toList, mk_toList, hs0]; rfl) ?_
    refine only_ok (set := [97, 98, 122, 48, 49, 57]) (n := 20) hs ⟨_, rfl, ?_⟩
    have : wordM s = onlyM s [97, 98, 122, 48, 49, 57] 20 := by unfold wordM; rw [hs0]; rfl
    rw [← this]; exact hR
end Go.Proofs.YtmicoampfglaiaaGreatDoor


/- FnWWW: the law's walk. -/
set_option linter.unusedVariables false
namespace Go.Proofs.YtmicoampfglaiaaGreatDoor
open Go.Proofs Go.IntWalk Go.RowKit
variable {σ : Out} {w : World} {L L' : List Chunk} {R : Ending → World → Prop}
def wdSet : List UInt8 := [97, 98, 122, 48, 49, 57]
def paSet : List UInt8 := [97, 98, 47]
def teSet : List UInt8 := [97, 98, 122, 48, 49, 57, 119, 46, 47, 32]
/-- What holds of the five parts. -/
structure WwwP (a dm en pa b : List UInt8) : Prop where
  a0 : a ≠ []
  al : a.length ≤ 20
  ha : ∀ c ∈ a, c ∈ wdSet
  d0 : dm ≠ []
  dl : dm.length ≤ 20
  hd : ∀ c ∈ dm, c ∈ wdSet
  e0 : en ≠ []
  el : en.length ≤ 20
  he : ∀ c ∈ en, c ∈ wdSet
  pl : pa.length ≤ 20
  hp : ∀ c ∈ pa, c ∈ paSet
  b0 : b ≠ []
  bl : b.length ≤ 20
  hb : ∀ c ∈ b, c ∈ wdSet
def domT (dm en : List UInt8) : List UInt8 := 119 :: 119 :: 119 :: 46 :: (dm ++ 46 :: en)
def urlT (dm en pa : List UInt8) : List UInt8 := domT dm en ++ 47 :: pa
def wwwT (a dm en pa b : List UInt8) : List UInt8 := (a ++ [32]) ++ (domT dm en ++ (47 :: (pa ++ 32 :: b)))
theorem mem_wd {c : UInt8} (h : c ∈ wdSet) : c = 97 ∨ c = 98 ∨ c = 122 ∨ c = 48 ∨ c = 49 ∨ c = 57 := by simpa [wdSet] using h
theorem mem_pa {c : UInt8} (h : c ∈ paSet) : c = 97 ∨ c = 98 ∨ c = 47 := by simpa [paSet] using h
theorem mem_te {c : UInt8} (h : c ∈ teSet) : c = 97 ∨ c = 98 ∨ c = 122 ∨ c = 48 ∨ c = 49 ∨ c = 57 ∨ c = 119 ∨ c = 46 ∨ c = 47 ∨ c = 32 := by simpa [teSet] using h
theorem wd_te {c : UInt8} (h : c ∈ wdSet) : c ∈ teSet := by rcases mem_wd h with rfl | rfl | rfl | rfl | rfl | rfl <;> decide
theorem pa_te {c : UInt8} (h : c ∈ paSet) : c ∈ teSet := by rcases mem_pa h with rfl | rfl | rfl <;> decide
theorem te_html {c : UInt8} (h : c ∈ teSet) : escB htmlPs c = [c] := by rcases mem_te h with rfl | rfl | rfl | rfl | rfl | rfl | rfl | rfl | rfl | rfl <;> decide
theorem te_link {c : UInt8} (h : c ∈ teSet) (h32 : c ≠ 32) : escB linkPs c = [c] := by rcases mem_te h with rfl | rfl | rfl | rfl | rfl | rfl | rfl | rfl | rfl | rfl <;> first | decide | exact absurd rfl h32
theorem te_nil {o : Opt} (hd : o.dot = false) {c : UInt8} (h : c ∈ teSet) : parserOf o c = .nil ∧ c ≠ 93 := by
  rcases mem_te h with rfl | rfl | rfl | rfl | rfl | rfl | rfl | rfl | rfl | rfl <;> refine ⟨?_, by decide⟩ <;> first | rfl | (unfold parserOf; rw [hd]; rfl)
theorem wd_dom {c : UInt8} (h : c ∈ wdSet) : domB c = true ∧ quietB c = true ∧ isST c = false := by rcases mem_wd h with rfl | rfl | rfl | rfl | rfl | rfl <;> decide
theorem pa_url {c : UInt8} (h : c ∈ paSet) : urlB c = true ∧ tailB c = false := by rcases mem_pa h with rfl | rfl | rfl <;> decide
theorem dom_mem {dm en : List UInt8} {c : UInt8} (h : c ∈ domT dm en) : c = 119 ∨ c = 46 ∨ c ∈ dm ∨ c ∈ en := by
  simp only [domT, List.mem_cons, List.mem_append] at h
  rcases h with h | h | h | h | h | h | h <;> simp [h]
theorem domT_len (dm en : List UInt8) : (domT dm en).length = dm.length + en.length + 5 := by simp [domT]; omega
theorem wwwT_len (a dm en pa b : List UInt8) : (wwwT a dm en pa b).length = a.length + dm.length + en.length + pa.length + b.length + 8 := by simp [wwwT, domT_len]; omega
theorem dom_ok {a dm en pa b : List UInt8} (hW : WwwP a dm en pa b) {c : UInt8} (h : c ∈ domT dm en) : domB c = true ∧ c ∈ teSet ∧ c ≠ 32 := by
  rcases dom_mem h with rfl | rfl | h | h
  · decide
  · decide
  · exact ⟨(wd_dom (hW.hd c h)).1, wd_te (hW.hd c h), by rintro rfl; exact absurd (hW.hd _ h) (by decide)⟩
  · exact ⟨(wd_dom (hW.he c h)).1, wd_te (hW.he c h), by rintro rfl; exact absurd (hW.he _ h) (by decide)⟩
theorem url_te {a dm en pa b : List UInt8} (hW : WwwP a dm en pa b) {c : UInt8} (h : c ∈ urlT dm en pa) : c ∈ teSet ∧ c ≠ 32 := by
  simp only [urlT, List.mem_append, List.mem_cons] at h
  rcases h with h | rfl | h
  · exact (dom_ok hW h).2
  · decide
  · exact ⟨pa_te (hW.hp c h), by rintro rfl; exact absurd (hW.hp _ h) (by decide)⟩
theorem www_te {a dm en pa b : List UInt8} (hW : WwwP a dm en pa b) {c : UInt8} (h : c ∈ wwwT a dm en pa b) : c ∈ teSet := by
  simp only [wwwT, List.mem_append, List.mem_cons, List.mem_nil_iff, or_false] at h
  rcases h with (h | rfl) | h | rfl | h | rfl | h
  · exact wd_te (hW.ha c h)
  · decide
  · exact (dom_ok hW h).2.1
  · decide
  · exact pa_te (hW.hp c h)
  · decide
  · exact wd_te (hW.hb c h)
section
variable {a dm en pa b : List UInt8}
theorem www_a {k : Nat} (h : k < (a ++ [32]).length) : (wwwT a dm en pa b).getD k 0 = (a ++ [32]).getD k 0 := getD_app' h
theorem www_d {k : Nat} (h : k < (domT dm en).length) : (wwwT a dm en pa b).getD (a.length + 1 + k) 0 = (domT dm en)[k] := by
  unfold wwwT
  rw [getD_app (by simp), show a.length + 1 + k - (a ++ [(32 : UInt8)]).length = k by simp, getD_app' h, ← getElem_getD h]
theorem www_s : (wwwT a dm en pa b).getD (a.length + 1 + (domT dm en).length) 0 = 47 := by
  unfold wwwT
  rw [getD_app (by simp), show a.length + 1 + (domT dm en).length - (a ++ [(32 : UInt8)]).length = (domT dm en).length by simp]
  exact getD_mid _ _ 47 0
theorem www_p {k : Nat} (h : k < pa.length) : (wwwT a dm en pa b).getD (a.length + 1 + (domT dm en).length + 1 + k) 0 = pa[k] := by
  unfold wwwT
  rw [getD_app (by simp; omega), show a.length + 1 + (domT dm en).length + 1 + k - (a ++ [(32 : UInt8)]).length = (domT dm en).length + (k + 1) by simp; omega, getD_app (by omega), show (domT dm en).length + (k + 1) - (domT dm en).length = k + 1 by omega,
    List.getD_cons_succ, getD_app' h, ← getElem_getD h]
theorem www_drop : (wwwT a dm en pa b).drop (a.length + 1 + (domT dm en).length + 1 + pa.length) = 32 :: b := by
  have : wwwT a dm en pa b = ((a ++ [32]) ++ (domT dm en ++ 47 :: pa)) ++ 32 :: b := by simp [wwwT]
  rw [this, List.drop_left' (by simp; omega)]
theorem www_take : (wwwT a dm en pa b).take (a.length + 1) = a ++ [32] := List.take_left' (by simp)
theorem www_sub : sub (wwwT a dm en pa b) (a.length + 1) (a.length + 1 + (domT dm en).length + 1 + pa.length) = urlT dm en pa := by
  have : wwwT a dm en pa b = ((a ++ [32]) ++ (domT dm en ++ 47 :: pa)) ++ 32 :: b := by simp [wwwT]
  unfold sub
  rw [this, List.take_left' (by simp; omega), List.drop_left' (by simp)]
  rfl
theorem www_at (hW : WwwP a dm en pa b) : WwwAt (wwwT a dm en pa b) (a.length + 1) (a.length + 1 + (domT dm en).length) (a.length + 1 + (domT dm en).length + 1 + pa.length) := by
  have hl := wwwT_len a dm en pa b
  have hdl := domT_len dm en
  refine ⟨?_, ⟨by omega, by omega, ?_, ?_⟩, by omega, www_s, by omega, ⟨by omega, by omega, ?_, ?_⟩, ?_, ?_⟩
  · unfold wwwT
    rw [List.drop_left' (by simp)]
    rfl
  · intro k h1 h2
    obtain ⟨m, rfl⟩ : ∃ m, k = a.length + 1 + m := ⟨k - (a.length + 1), by omega⟩
    rw [www_d (by omega)]
    exact (dom_ok hW (List.getElem_mem _)).1
  · intro _; rw [www_s]; decide
  · intro k h1 h2
    rcases Nat.lt_or_ge (a.length + 1 + (domT dm en).length) k with h | h
    · obtain ⟨m, rfl⟩ : ∃ m, k = a.length + 1 + (domT dm en).length + 1 + m := ⟨k - (a.length + 1 + (domT dm en).length + 1), by omega⟩
      rw [www_p (by omega)]
      exact (pa_url (hW.hp _ (List.getElem_mem _))).1
    · obtain rfl : k = a.length + 1 + (domT dm en).length := by omega
      rw [www_s]; decide
  · intro _
    have := www_drop (a := a) (dm := dm) (en := en) (pa := pa) (b := b)
    have h2 := congrArg (fun l : List UInt8 => l.getD 0 0) this
    simp only [drop_getD, Nat.add_zero] at h2
    rw [h2]; rfl
  · intro _
    have := www_drop (a := a) (dm := dm) (en := en) (pa := pa) (b := b)
    have h2 := congrArg (fun l : List UInt8 => l.getD 0 0) this
    simp only [drop_getD, Nat.add_zero] at h2
    rw [h2]; rfl
  · rcases Nat.eq_zero_or_pos pa.length with h | h
    · rw [h, show a.length + 1 + (domT dm en).length + 1 + 0 - 1 = a.length + 1 + (domT dm en).length by omega, www_s]; decide
    · rw [show a.length + 1 + (domT dm en).length + 1 + pa.length - 1 = a.length + 1 + (domT dm en).length + 1 + (pa.length - 1) by omega, www_p (by omega)]
      exact (pa_url (hW.hp _ (List.getElem_mem _))).2
def wwwOut (sc a dm en pa b : List UInt8) : List UInt8 := a ++ [32] ++ aHref ++ sc ++ urlT dm en pa ++ [34, 62] ++ urlT dm en pa ++ aEnd ++ [32] ++ b
theorem www_autoOK (hW : WwwP a dm en pa b) {o : Opt} (hon : o.auto = true) : AutoOK o [.plain (wwwT a dm en pa b)] [.plain (a ++ [32]), wwwLink (schemeOf o) (urlT dm en pa), .plain (32 :: b)] := by
  have hl := wwwT_len a dm en pa b
  have hdl := domT_len dm en
  have h1 := hW.al; have h2 := hW.dl; have h3 := hW.el; have h4 := hW.pl; have h5 := hW.bl
  have := autoOK_www (o := o) hon (by omega) (www_at hW) (by omega) ?_ ?_ ?_
  · rw [www_take, www_sub, www_drop] at this; exact this
  · intro k hk
    rw [www_a (by simp; omega)]
    rcases Nat.lt_or_ge k a.length with h | h
    · rw [getD_app' h, ← getElem_getD h]; exact (wd_dom (hW.ha _ (List.getElem_mem _))).2.1
    · obtain rfl : k = a.length := by omega
      rw [getD_mid a [] 32 0]; decide
  · rw [show a.length + 1 - 1 = a.length by omega, www_a (by simp), getD_mid a [] 32 0]; decide
  · intro k h1 h2
    obtain ⟨m, rfl⟩ : ∃ m, k = a.length + 1 + (domT dm en).length + 1 + pa.length + m := ⟨_, (Nat.add_sub_cancel' h1).symm⟩
    rw [← drop_getD, www_drop]
    cases m with
    | zero => rfl
    | succ m =>
      rw [List.getD_cons_succ]
      have hm : m < b.length := by omega
      rw [← getElem_getD hm]; exact (wd_dom (hW.hb _ (List.getElem_mem _))).2.1
theorem www_first (hW : WwwP a dm en pa b) : ∃ c t, wwwT a dm en pa b = c :: t ∧ c ∈ wdSet := by
  cases a with
  | nil => exact absurd rfl hW.a0
  | cons c t => exact ⟨c, _, rfl, hW.ha c (.head _)⟩
theorem www_trim (hW : WwwP a dm en pa b) : trimLR isST (wwwT a dm en pa b) = wwwT a dm en pa b ∧ (wwwT a dm en pa b).dropWhile isST = wwwT a dm en pa b := by
  obtain ⟨c, t, hc, hm⟩ := www_first hW
  have e1 : (wwwT a dm en pa b).dropWhile isST = wwwT a dm en pa b := by rw [hc, List.dropWhile_cons_of_neg (by rw [(wd_dom hm).2.2]; decide)]
  refine ⟨?_, e1⟩
  unfold trimLR trimR
  rw [e1]
  obtain ⟨b', d, rfl⟩ : ∃ b' d, b = b' ++ [d] := ⟨_, _, (List.dropLast_concat_getLast hW.b0).symm⟩
  have hd : d ∈ wdSet := hW.hb d (by simp)
  have e2 : (wwwT a dm en pa (b' ++ [d])) = (wwwT a dm en pa b') ++ [d] := by simp [wwwT]
  rw [e2, List.reverse_append, List.reverse_singleton, List.singleton_append, List.dropWhile_cons_of_neg (by rw [(wd_dom hd).2.2]; decide)]
  simp
theorem www_inline (hW : WwwP a dm en pa b) {o : Opt} (hon : o.auto = true) (hdot : o.dot = false) : InlineOK o (wwwT a dm en pa b) (ab (wwwOut (schemeOf o) a dm en pa b)) := by
  intro σ R bb pb p L w h hpz ho hlk hR
  have hl := wwwT_len a dm en pa b
  have hdl := domT_len dm en
  have h1 := hW.al; have h2 := hW.dl; have h3 := hW.el; have h4 := hW.pl; have h5 := hW.bl
  refine inl_begin h (by omega) fun w h => ?_
  rw [(www_trim hW).1] at h ⊢
  have hA := www_autoOK hW hon
  have hall : ∀ c ∈ wwwT a dm en pa b, parserOf o c = .nil ∧ c ≠ 93 := fun c hc => te_nil hdot (www_te hW hc)
  generalize hr : wwwT a dm en pa b = raw at h hl hA hall ⊢
  intro X hX
  have hXL : LoopX R X bb raw := fun _ _ _ _ _ h => hX _ _ _ _ _ _ _ _ _ h
  generalize hp0 : ({ p with s := raw, em := 0, lq := none, ln := 0, lc := 0 } : PS) = p0 at h
  have hpz0 : p0.pz = some ⟨pb, 0, none⟩ := by rw [← hp0]; exact hpz
  have hcs : p0.coreS = p.coreS := by rw [← hp0]; rfl
  suffices hat : AtI X σ bb p0 raw L 0 0 [] from hat w p0 none 0 0 rfl (by rw [← hp0]) (by rw [← hp0]; rfl) h
  have hpos : 0 < raw.length := by omega
  have hne : raw ≠ [] := List.length_pos_iff.1 hpos
  refine AtI.plains hXL (by omega) hpz0 ho raw.length 0 (by omega) (fun j hj _ _ => hall _ (List.getElem_mem hj)) ?_
  rw [Nat.zero_add]
  have e1 : emitM raw 0 raw.length [] = [.plain raw] := by
    unfold emitM; rw [if_pos hpos]
    show [Inl.plain ((raw.take raw.length).drop 0)] = _
    rw [List.take_length, List.drop_zero]
  have em : mergeM [.plain raw] = [.plain raw] := by simp [mergeM, mergeGo, flushP, Inl.plain?]
  refine AtI.finA (ts' := [.plain raw]) hXL (by omega) hpz0 ho (by simp) ?_ ?_ ?_ (by rw [em]; exact hA) ?_
  · rw [e1]
    exact emphOK_none (by intro t ht; simp at ht; subst ht; exact ⟨by simp only [Inl.ty]; decide, by simp only [Inl.ty]; decide⟩)
  · intro t ht s hs; simp at ht; subst ht; simp [Inl.plain?] at hs; subst hs; exact hne
  · simp [plen, Inl.plain?]; omega
  · intro w p' q n' c vs RM EM hp' hS hn' hI h
    have hul : (urlT dm en pa).length = dm.length + en.length + pa.length + 6 := by simp [urlT, domT_len]; omega
    have hsl : (schemeOf o).length ≤ 8 := by unfold schemeOf; split <;> decide
    have hok : okL [Inl.plain (a ++ [32]), wwwLink (schemeOf o) (urlT dm en pa), Inl.plain (32 :: b)] := by
      refine ⟨?_, ⟨⟨?_, trivial⟩, by simp, ?_, by simp⟩, ?_, trivial⟩
      · show (a ++ [32]).length < 4294967296; simp; omega
      · show (urlT dm en pa).length < 4294967296; omega
      · rw [List.length_append]; omega
      · show (32 :: b).length < 4294967296; simp; omega
    have hP := inls_print _ _ _ hI hok
    have eo : outL [Inl.plain (a ++ [32]), wwwLink (schemeOf o) (urlT dm en pa), Inl.plain (32 :: b)] = wwwOut (schemeOf o) a dm en pa b := by
      have a1 : escS htmlPs (a ++ [32]) = a ++ [32] := escS_id fun c hc => te_html (by
        rcases List.mem_append.1 hc with h | h
        · exact wd_te (hW.ha c h)
        · simp at h; subst h; decide)
      have a2 : escS htmlPs (urlT dm en pa) = urlT dm en pa := escS_id fun c hc => te_html (url_te hW hc).1
      have a3 : escS linkPs (urlT dm en pa) = urlT dm en pa := escS_id fun c hc => te_link (url_te hW hc).1 (url_te hW hc).2
      have a4 : escS htmlPs (32 :: b) = 32 :: b := escS_id fun c hc => te_html (by
        rcases List.mem_cons.1 hc with h | h
        · subst h; decide
        · exact wd_te (hW.hb c h))
      have a5 : escS linkPs (schemeOf o) = schemeOf o := by unfold schemeOf; split <;> decide
      simp only [wwwLink, outL, outI, linkO, escS_append, a1, a2, a3, a4, a5, if_true, List.append_nil, wwwOut]
      simp
    rw [eo] at hP
    exact hR w p' q n' c vs RM EM EM (hp'.trans hcs) hS hn' hP h
theorem te_num : ∀ {a r : List UInt8}, (∀ c ∈ a, c ∈ wdSet) → numNo (a ++ 32 :: r)
  | [], r, _ => by constructor <;> (rw [List.nil_append, List.dropWhile_cons_of_neg (by decide)]; simp)
  | c :: a, r, h => by
    have ih := te_num (a := a) (r := r) (fun d hd => h d (List.mem_cons_of_mem _ hd))
    by_cases hc : digB c = true
    · unfold numNo at ih ⊢
      rw [List.cons_append, List.dropWhile_cons_of_pos hc]; exact ih
    · have hm := mem_wd (h c (.head _))
      unfold numNo
      rw [List.cons_append, List.dropWhile_cons_of_neg hc]
      rcases hm with rfl | rfl | rfl | rfl | rfl | rfl <;> simp
theorem www_plain (hW : WwwP a dm en pa b) : (lnOf (wwwT a dm en pa b)).plain := by
  have hl := wwwT_len a dm en pa b
  have h1 := hW.al; have h2 := hW.dl; have h3 := hW.el; have h4 := hW.pl; have h5 := hW.bl
  have hn : numNo (wwwT a dm en pa b) := by
    have := te_num (a := a) (r := domT dm en ++ (47 :: (pa ++ 32 :: b))) hW.ha
    simpa [wwwT] using this
  obtain ⟨c, t, hc, hm⟩ := www_first hW
  rw [hc] at hn hl ⊢
  simp only [List.length_cons] at hl
  by_cases hd : digB c = true
  · exact plain_digit (by omega) hd hn
  · refine plain_first ?_ (by omega)
    rcases mem_wd hm with rfl | rfl | rfl | rfl | rfl | rfl <;> first | decide | exact absurd rfl hd
theorem html_www (hW : WwwP a dm en pa b) {o : Opt} {out : List UInt8} (hI : InlineOK o (wwwT a dm en pa b) (ab out)) : ParsesTo o (wwwT a dm en pa b) (pOpen ++ out ++ pClose) := by
  have hl := wwwT_len a dm en pa b
  have h1 := hW.al; have h2 := hW.dl; have h3 := hW.el; have h4 := hW.pl; have h5 := hW.bl
  have hno : ∀ c : UInt8, c = 0 ∨ c = 10 ∨ c = 13 → c ∉ wwwT a dm en pa b := by
    intro c hc hm
    have := www_te hW hm
    rcases hc with rfl | rfl | rfl <;> exact absurd this (by decide)
  obtain ⟨c, t, hc, hm⟩ := www_first hW
  have hdw := (www_trim hW).2
  exact parses_line (www_plain hW) (by omega) (idx_none (hno 0 (.inl rfl))) (idx_none (hno 10 (.inr (.inl rfl)))) (idx_none (hno 13 (.inr (.inr rfl))))
    (by rw [hdw, hc]; simp) (by
      rw [hdw, hc, List.dropWhile_cons_of_neg (by rcases mem_wd hm with rfl | rfl | rfl | rfl | rfl | rfl <;> decide)]
      rcases mem_wd hm with rfl | rfl | rfl | rfl | rfl | rfl <;> simp) (by rw [hdw]; exact hI)
end
theorem word_of {s : List UInt8} (h : wordM s = true) : s ≠ [] ∧ s.length ≤ 20 ∧ ∀ c ∈ s, c ∈ wdSet := by
  simp only [wordM, Bool.and_eq_true, Bool.not_eq_true'] at h
  have := onlyM_of h.2
  exact ⟨by rintro rfl; simp at h, this.1, this.2⟩
def wwwOpt (http : Bool) : Opt := ⟨false, false, false, true, http, false, false, false, false, false⟩
def wwwOff (http : Bool) : Opt := ⟨false, false, false, false, http, false, false, false, false, false⟩
theorem www_off {a dm en pa b : List UInt8} (hW : WwwP a dm en pa b) (http : Bool) : InlineOK (wwwOff http) (wwwT a dm en pa b) (ab (wwwT a dm en pa b)) := by
  have hl := wwwT_len a dm en pa b
  have h1 := hW.al; have h2 := hW.dl; have h3 := hW.el; have h4 := hW.pl; have h5 := hW.bl
  obtain ⟨c, t, hc, hm⟩ := www_first hW
  have := plainText_inline (o := wwwOff http) (s := wwwT a dm en pa b) rfl (by omega) (by rw [(www_trim hW).1]; exact fun c hc => te_nil rfl (www_te hW hc)) (by rw [(www_trim hW).1, hc]; simp)
  rw [(www_trim hW).1, escS_id fun c hc => te_html (www_te hW hc)] at this
  exact this
theorem fnWWW_ok {x0 x1 x2 x3 x4 : ByteArray} {http : Bool} (h : Sat σ w L) (hR : ∀ w, Sat σ w L → R (.returned (.bool true)) w) : callE P i_laws_FnWWW #[.string x0, .string x1, .string x2, .string x3, .string x4, .bool http] R w := by
  rw [bs_of x0, bs_of x1, bs_of x2, bs_of x3, bs_of x4]
  generalize x0.data.toList = a
  generalize x1.data.toList = dm
  generalize x2.data.toList = en
  generalize x3.data.toList = pa
  generalize x4.data.toList = b
  refine g_laws_FnWWW.sound ?_
  refine br_split (fun _ => hR w h) (fun hsz => ?_)
  simp only [Bool.or_eq_false_iff, decide_eq_false_iff_not, bs_size] at hsz
  obtain ⟨⟨⟨⟨s1, s2⟩, s3⟩, s4⟩, s5⟩ := hsz
  refine word_ok (by omega) ⟨_, rfl, br_split (fun _ => hR w h) (fun w1 => ?_)⟩
  refine word_ok (by omega) ⟨_, rfl, br_split (fun _ => hR w h) (fun w2 => ?_)⟩
  refine word_ok (by omega) ⟨_, rfl, br_split (fun _ => hR w h) (fun w3 => ?_)⟩
  refine word_ok (by omega) ⟨_, rfl, br_split (fun _ => hR w h) (fun w4 => ?_)⟩
  refine only_ok (set := paSet) (n := 20) (by omega) ⟨_, rfl, br_split (fun _ => hR w h) (fun w5 => ?_)⟩
  simp only [Bool.not_eq_false'] at w1 w2 w3 w4 w5
  have p1 := word_of w1; have p2 := word_of w2; have p3 := word_of w3; have p4 := word_of w4; have p5 := onlyM_of w5
  have hW : WwwP a dm en pa b := ⟨p1.1, p1.2.1, p1.2.2, p3.1, p3.2.1, p3.2.2, p4.1, p4.2.1, p4.2.2, p5.1, p5.2, p2.1, p2.2.1, p2.2.2⟩
  have h1 := hW.al; have h2 := hW.dl; have h3 := hW.el; have h4 := hW.pl; have h5 := hW.bl
  have hmax : IntKind.i64.max = 9223372036854775807 := rfl
  have b2 : ∀ s t : List UInt8, s.length + t.length < 10000 → (((bs s).size + (bs t).size : Nat) : Int) ≤ IntKind.i64.max := by intro s t hs; rw [hmax, bs_size, bs_size]; omega
  have hul : (urlT dm en pa).length = dm.length + en.length + pa.length + 6 := by simp [urlT, domT_len]; omega
  have key : ∀ sc : List UInt8, sc.length ≤ 8 → sc = schemeOf (wwwOpt http) → g_laws_FnWWW.k3 R (bs a) (bs b) http (bs (urlT dm en pa)) (bs sc) w := by
    intro sc hsl hsc
    unfold g_laws_FnWWW.k3
    rw [show ByteArray.mk #[32] = bs [32] from rfl, show ByteArray.mk #[60, 112, 62] = bs pOpen from rfl, show ByteArray.mk #[32, 60, 97, 32, 104, 114, 101, 102, 61, 34] = bs ([32] ++ aHref) from rfl, show ByteArray.mk #[34, 62] = bs [34, 62] from rfl,
      show ByteArray.mk #[60, 47, 97, 62, 32] = bs (aEnd ++ [32]) from rfl, show ByteArray.mk #[60, 47, 112, 62, 10] = bs pClose from rfl]
    simp only [bs_append]
    have eT : a ++ [32] ++ urlT dm en pa ++ [32] ++ b = wwwT a dm en pa b := by simp [wwwT, urlT]
    rw [eT]
    have hl := wwwT_len a dm en pa b
    have hl1 : aHref.length = 9 := rfl
    have hl2 : aEnd.length = 4 := rfl
    have hl3 : pOpen.length = 3 := rfl
    have hl4 : pClose.length = 5 := rfl
    refine ⟨b2 _ _ (by first | omega | (simp; omega)), b2 _ _ (by first | omega | (simp; omega)), b2 _ _ (by first | omega | (simp; omega)), b2 _ _ (by first | omega | (simp; omega)), ?_⟩
    have hP := html_www hW (www_inline hW (o := wwwOpt http) rfl rfl)
    rw [← hsc] at hP
    show callE P i_impl_HTML #[optV (wwwOpt http), .string (bs (wwwT a dm en pa b))] _ w
    refine html_ok hP (by simp only [wwwOut, List.length_append, List.length_cons, List.length_nil]; omega) h fun w h => ⟨_, rfl, ?_⟩
    refine ⟨b2 _ _ (by first | omega | (simp; omega)), b2 _ _ (by first | omega | (simp; omega)), b2 _ _ (by first | omega | (simp; omega)), b2 _ _ (by first | omega | (simp; omega)), b2 _ _ (by first | omega | (simp; omega)), b2 _ _ (by first | omega | (simp; omega)), b2 _ _ (by first | omega | (simp; omega)), b2 _ _ (by first | omega | (simp; omega)), b2 _ _ (by first | omega | (simp; omega)), ?_⟩
    rw [bs_toList, bs_toList]
    have e3 : pOpen ++ wwwOut sc a dm en pa b ++ pClose = pOpen ++ a ++ ([32] ++ aHref) ++ sc ++ urlT dm en pa ++ [34, 62] ++ urlT dm en pa ++ (aEnd ++ [32]) ++ b ++ pClose := by simp [wwwOut]
    rw [e3]
    refine br_true (by simp) ?_
    have hP2 := html_www hW (www_off hW http)
    show callE P i_impl_HTML #[optV (wwwOff http), .string (bs (wwwT a dm en pa b))] _ w
    refine html_ok hP2 (by simp only [List.length_append]; omega) h fun w h => ⟨_, rfl, ?_⟩
    refine ⟨b2 _ _ (by first | omega | (simp; omega)), b2 _ _ (by first | omega | (simp; omega)), ?_⟩
    rw [bs_toList]
    simpa using hR w h
  unfold g_laws_FnWWW.k2
  rw [show ByteArray.mk #[119, 119, 119, 46] = bs [119, 119, 119, 46] from rfl, show ByteArray.mk #[46] = bs [46] from rfl, show ByteArray.mk #[47] = bs [47] from rfl,
    show ByteArray.mk #[104, 116, 116, 112, 58, 47, 47] = bs [104, 116, 116, 112, 58, 47, 47] from rfl, show ByteArray.mk #[104, 116, 116, 112, 115, 58, 47, 47] = bs [104, 116, 116, 112, 115, 58, 47, 47] from rfl]
  simp only [bs_append]
  have eU : [119, 119, 119, 46] ++ dm ++ [46] ++ en ++ [47] ++ pa = urlT dm en pa := by simp [urlT, domT]
  rw [eU]
  refine ⟨b2 _ _ (by first | omega | (simp; omega)), b2 _ _ (by first | omega | (simp; omega)), b2 _ _ (by first | omega | (simp; omega)), b2 _ _ (by first | omega | (simp; omega)), b2 _ _ (by first | omega | (simp; omega)), ?_⟩
  refine br_split (fun hh => key _ (by decide) ?_) (fun hh => key _ (by decide) ?_)
  · subst hh; rfl
  · subst hh; rfl
end Go.Proofs.YtmicoampfglaiaaGreatDoor

