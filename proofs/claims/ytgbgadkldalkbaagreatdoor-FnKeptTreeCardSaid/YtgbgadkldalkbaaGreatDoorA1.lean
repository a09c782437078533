/- Part 1 of the proof of the law FnKeptTree: for every input the law returns true, the inputs read as they did, and memory that was there is as it was; under the conditions of the given row alone. -/
import Derived.Tactics
import Derived.Orders
import Derived.KernelRfl
import Derived.Scope
import Derived.OrdersHeld
import Derived.ArgAppend
import Derived.ChangeFn
import Derived.IntWalk
import Derived.ChangeSame
import Derived.Test.YtgbgadkldalkbaaGreatDoorProg
import Derived.Deep.AppendSrc
import Derived.Great.BuildSlice
set_option linter.all false
namespace Go.Proofs.YtgbgadkldalkbaaGreatDoor

abbrev Fr := Nat → Value
def upd (ρ : Fr) (d : Nat) (v : Value) : Fr := fun t => match Nat.beq t d with | true => v | false => ρ t
def putF (ρ : Fr) : Option Nat → Value → Fr
 | none, _ => ρ
 | some d, v => upd ρ d v
def rd (ρ : Fr) : Operand → Value
 | .tmp t => ρ t
 | .const v => v
 | .global g => .pointer (some ⟨g, 0, none⟩)
 | .func f => .func (.func f) #[] #[]
structure RelF (n : Nat) (a : Act) (ρ : Fr) : Prop where
 size : a.tmps.size = n
 defers : a.defers = []
 get : ∀ t, a.tmps.getD t undef = ρ t

theorem upd_same (ρ : Fr) (d : Nat) : upd ρ d (ρ d) = ρ := by
 funext t
 unfold upd
 cases h : Nat.beq t d with
 | true => rw [Nat.eq_of_beq_eq_true h]
 | false => rfl

theorem RelF.eval {n : Nat} {a : Act} {ρ : Fr} (h : RelF n a ρ) (x : Operand) : a.eval x = rd ρ x := by
 cases x <;> simp [Act.eval, rd, h.get]

theorem RelF.put {n : Nat} {a : Act} {ρ : Fr} (h : RelF n a ρ) (d : Option Nat) (v : Value) (hd : ∀ k, d = some k → k < n) : RelF n (a.put d v) (putF ρ d v) := by
 cases d with
 | none => exact h
 | some d =>
  have hlt := hd d rfl
  refine ⟨by simp [Act.put, h.size], by simp [Act.put, h.defers], fun t => ?_⟩
  have hs := h.size
  simp only [Act.put, putF, upd]
  cases e : Nat.beq t d with
  | true =>
   have := Nat.eq_of_beq_eq_true e
   subst this
   simp [Array.getD, hs, hlt]
  | false =>
   have hne : t ≠ d := fun hc => by subst hc; simp at e
   have hg := h.get t
   simp only [← hg, Array.getD_eq_getD_getElem?]
   rw [Array.getElem?_setIfInBounds_ne (Ne.symm hne)]

inductive STy where
 | bool | int (k : IntKind) | str | ptr | slice | map | any
  | loc
def STy.of : Value → STy
 | .bool _ => .bool
 | .int k _ => .int k
 | .string _ => .str
 | .pointer _ => .ptr
 | .slice .. => .slice
 | .map _ => .map
 | _ => .any
inductive CTy where
 | s (t : STy)
 | agg (ts : List STy)
def CTy.of : Value → CTy
 | .agg cs => .agg (cs.toList.map STy.of)
 | v => .s (STy.of v)
inductive Ty where
 | c (t : CTy)
 | tuple (ts : List CTy)
def Ty.of : Value → Ty
 | .tuple vs => .tuple (vs.toList.map CTy.of)
 | v => .c (CTy.of v)
def tyOf (P : Program) (t : TypeId) : Ty :=
 match P.types[t]? with
 | some i => match i.zero with
  | some z => Ty.of z
  | none => .c (.s .any)
 | none => .c (.s .any)

def ctyOf (P : Program) (t : TypeId) : CTy :=
 match tyOf P t with
 | .c c => c
 | .tuple _ => .s .any
def okTy (c : CTy) (ok : Bool) : Ty :=
 match ok with
 | true => .tuple [c, .s .bool]
 | false => .c c

def STy.ex : STy → (Value → Prop) → Prop
 | .bool, K => ∃ b : Bool, K (.bool b)
 | .int k, K => ∃ n : Int, K (.int k n)
 | .str, K => ∃ s : ByteArray, K (.string s)
 | .ptr, K => ∃ q : Option Addr, K (.pointer q)
 | .slice, K => ∃ (q : Option Addr) (n c : Nat), K (.slice q n c)
 | .map, K => ∃ q : Option Nat, K (.map q)
 | .any, K => ∃ v : Value, K v
 | .loc, K => ∃ b : Nat, K (.pointer (some ⟨b, 0, none⟩))
def exS : List STy → (List Value → Prop) → Prop
 | [], K => K []
 | t :: ts, K => t.ex fun v => exS ts fun vs => K (v :: vs)
def CTy.ex : CTy → (Value → Prop) → Prop
 | .s t, K => t.ex K
 | .agg ts, K => exS ts fun vs => K (.agg vs.toArray)
def exC : List CTy → (List Value → Prop) → Prop
 | [], K => K []
 | t :: ts, K => t.ex fun v => exC ts fun vs => K (v :: vs)
def Ty.ex : Ty → (Value → Prop) → Prop
 | .c t, K => t.ex K
 | .tuple ts, K => exC ts fun vs => K (.tuple vs.toArray)

theorem STy.ex_out {t : STy} {K : Value → Prop} (h : t.ex K) : ∃ v, K v := by
 cases t <;> simp only [STy.ex] at h
 case slice => obtain ⟨q, n, c, h⟩ := h; exact ⟨_, h⟩
 all_goals obtain ⟨x, h⟩ := h; exact ⟨_, h⟩
theorem exS_out : ∀ {ts : List STy} {K : List Value → Prop}, exS ts K → ∃ vs, K vs ∧ vs.length = ts.length
 | [], _, h => ⟨[], h, rfl⟩
 | _ :: _, _, h => by
  obtain ⟨v, h⟩ := STy.ex_out h
  obtain ⟨vs, h, hl⟩ := exS_out h
  exact ⟨_, h, by simp [hl]⟩
theorem CTy.ex_out {t : CTy} {K : Value → Prop} (h : t.ex K) : ∃ v, K v := by
 cases t with
 | s t => exact STy.ex_out h
 | agg ts => obtain ⟨vs, h, _⟩ := exS_out h; exact ⟨_, h⟩
theorem exC_out : ∀ {ts : List CTy} {K : List Value → Prop}, exC ts K → ∃ vs, K vs
 | [], _, h => ⟨[], h⟩
 | _ :: _, _, h => by
  obtain ⟨v, h⟩ := CTy.ex_out h
  obtain ⟨vs, h⟩ := exC_out h
  exact ⟨_, h⟩
theorem Ty.ex_out {t : Ty} {K : Value → Prop} (h : t.ex K) : ∃ v, K v := by
 cases t with
 | c t => exact CTy.ex_out h
 | tuple ts => obtain ⟨vs, h⟩ := exC_out h; exact ⟨_, h⟩

def pureRun (P : Program) {α : Type} : Sem α → Option α
 | .pure a => some a
 | .program k => pureRun P (k P)
 | _ => none
theorem pureRun_sound (P : Program) {α : Type} (s : Sem α) (a : α) (h : pureRun P s = some a) (w : World) : s.run P w = .ok a w := by
 induction s with
 | pure x => simp only [pureRun, Option.some.injEq] at h; subst h; rfl
 | program k ih => exact ih P h
 | _ => simp [pureRun] at h
def pureV (P : Program) (s : Sem Value) (K : Value → Prop) : Prop :=
 match pureRun P s with
 | some v => K v
 | none => False

def alc (w : World) (cs : Array Value) (e : TypeId) : World := { w with heap := w.heap.push (.cells cs e) }
def nilP (q : Option Addr) (K : Addr → Prop) : Prop :=
 match q with
 | some a => K a
 | none => False
def NotNil : Value → Prop
 | .iface _ _ => True
 | .func (.func _) _ _ => True
 | _ => False
def nilV (v : Value) (K : Value → Prop) : Prop :=
 match v with
 | .pointer q => nilP q fun a => K (.pointer (some a))
 | v => NotNil v ∧ K v
def ldS (w : World) : List STy → Addr → Nat → (List Value → Prop) → Prop
 | [], _, _, K => K []
 | t :: ts, a, i, K => t.ex fun v => w.cell? (a.add i) = some v ∧ ldS w ts a (i + 1) fun vs => K (v :: vs)
def isAggB (P : Program) (t : TypeId) : Bool :=
 match P.underlying t with
 | some (.struct _) | some (.array _ _) => true
 | _ => false
def loadV (P : Program) (t : TypeId) (a : Addr) (w : World) (K : Value → Prop) : Prop :=
 match P.info? t, P.underlying t with
 | some i, some _ => match isAggB P t, i.zero with
  | true, some (.agg cs) => match Nat.beq cs.toList.length i.size with
   | true => ldS w (cs.toList.map STy.of) a 0 fun vs => K (.agg vs.toArray)
   | false => False
  | false, some z => (STy.of z).ex fun v => w.cell? a = some v ∧ K v
  | _, _ => False
 | _, _ => False
def OneCell : Value → Prop
 | .agg _ | .tuple _ => False
 | _ => True
def stV (w : World) (a : Addr) (v : Value) (K : World → Prop) : Prop :=
 OneCell v ∧ (∃ u, w.cell? a = some u) ∧ w.frozen? a = false ∧ K (w.setCell a v)
def stS : List Value → Addr → Nat → World → (World → Prop) → Prop
 | [], _, _, w, K => K w
 | v :: vs, a, i, w, K => stV w (a.add i) v fun w' => stS vs a (i + 1) w' K
def cellV (v : Value) (K : Prop) : Prop :=
 match v with
 | .bool _ => K
 | .int _ _ => K
 | .string _ => K
 | .pointer _ => K
 | .slice _ _ _ => K
 | .map _ => K
 | .func _ _ _ => K
 | .nilFunc => K
 | .iface _ _ => K
 | .nilIface => K
 | .agg _ => False
 | .tuple _ => False
 | v => OneCell v ∧ K
def cellsV (P : Program) (t : TypeId) (v : Value) (K : List Value → Prop) : Prop :=
 match isAggB P t with
 | true => match v with
  | .agg cs => K cs.toList
  | _ => False
 | false => cellV v (K [v])
def storeV (P : Program) (t : TypeId) (a : Addr) (v : Value) (w : World) (K : World → Prop) : Prop :=
 match P.info? t with
 | some i => cellsV P t v fun cs => match Nat.beq cs.length i.size with
  | true => stS cs a 0 w K
  | false => False
 | none => False
def setCells : List Value → Nat → List Value → List Value
 | cs, _, [] => cs
 | cs, off, v :: vs => setCells (cs.set off v) (off + 1) vs
def buildS (P : Program) (fs : Array Field) : List (Nat × Value) → List Value → (List Value → Prop) → Prop
 | [], cs, K => K cs
 | (i, v) :: ps, cs, K => match fs[i]? with
  | some f => match P.info? f.type with
   | some inf => cellsV P f.type v fun xs => match Nat.beq xs.length inf.size, Nat.ble (f.offset + xs.length) cs.length with
    | true, true => buildS P fs ps (setCells cs f.offset xs) K
    | _, _ => False
   | none => False
  | none => False
def bt (s : ByteArray) (n : Int) : Int := ((s.data.getD n.toNat 0).toNat : Int)
def callE (P : Program) (f : FuncId) (args : Array Value) (R : Ending → World → Prop) (w : World) : Prop :=
 ((∀ args w, (callFunc f args).run P w = .ok (.enter f args) w) ∧ Calls P f args w R) ∨ ∃ v w', (callFunc f args).run P w = .ok (.value v) w' ∧ R (.returned v) w'
def enterE (P : Program) (s : Sem Next) (R : Ending → World → Prop) (w : World) : Prop :=
 (∃ f args w', s.run P w = .ok (.enter f args) w' ∧ Calls P f args w' R) ∨ ∃ v w', s.run P w = .ok (.value v) w' ∧ R (.returned v) w'
def semV (P : Program) (s : Sem Value) (ty : Ty) (K : Value → World → Prop) (w : World) : Prop :=
 ty.ex fun v => ∃ w', s.run P w = .ok v w' ∧ K v w'
def semU (P : Program) (s : Sem Unit) (K : World → Prop) (w : World) : Prop :=
 ∃ w', s.run P w = .ok () w' ∧ K w'

def nextV (P : Program) (s : Sem Value) (isString : Bool) (K : Value → World → Prop) (w : World) : Prop :=
 (∃ w', s.run P w = .ok (.tuple #[.bool false]) w' ∧ K (.tuple #[.bool false]) w') ∨
 match isString with
 | true => ∃ (i c : Int), ∃ w', s.run P w = .ok (.tuple #[.bool true, .int .i64 i, .int .i32 c]) w' ∧ K (.tuple #[.bool true, .int .i64 i, .int .i32 c]) w'
 | false => ∃ (k v : Value), ∃ w', s.run P w = .ok (.tuple #[.bool true, k, v]) w' ∧ K (.tuple #[.bool true, k, v]) w'

def plainB (P : Program) (t : TypeId) : Bool :=
 match P.underlying t with
 | some (.int _) | some .string | some .bool => true
 | _ => false
def binV (P : Program) (op : BinOp) (xt : TypeId) (ox oy : Operand) (x y : Value) (ty : Ty) (K : Value → World → Prop) (w : World) : Prop :=
 match plainB P xt with
 | false => semV P (do eqGuard op xt ox oy x y; binOp op xt x y) ty K w
 | true =>
 match x, y with
 | .int k a, .int k' b => match op with
  | .quo => b ≠ 0 ∧ match decide (k = k') with
   | true => K (.int k (k.wrap (a.tdiv b))) w
   | false => False
  | .rem => b ≠ 0 ∧ match decide (k = k') with
   | true => K (.int k (a.tmod b)) w
   | false => False
  | .shl => 0 ≤ b ∧ K (.int k (k.wrap (a * 2 ^ (min b.toNat k.bits)))) w
  | .shr => 0 ≤ b ∧ K (.int k (a.fdiv (2 ^ (min b.toNat k.bits)))) w
  | _ => pureV P (do eqGuard op xt ox oy x y; binOp op xt x y) fun v => K v w
 | .string a, .string b => match op with
  | .add => ((a.size + b.size : Nat) : Int) ≤ IntKind.i64.max ∧ K (.string (a ++ b)) w
  | _ => pureV P (do eqGuard op xt ox oy x y; binOp op xt x y) fun v => K v w
 | .bool _, .bool _ => pureV P (do eqGuard op xt ox oy x y; binOp op xt x y) fun v => K v w
 | _, _ => semV P (do eqGuard op xt ox oy x y; binOp op xt x y) ty K w

def sliceStr (s : ByteArray) (lo hi : Option Value) (K : Value → Prop) : Prop :=
 match lo, hi with
 | none, none => K (.string s)
 | some (.int _ l), none => 0 ≤ l ∧ l ≤ s.size ∧ K (.string (s.extract l.toNat s.size))
 | none, some (.int _ h) => 0 ≤ h ∧ h ≤ s.size ∧ K (.string (s.extract 0 h.toNat))
 | some (.int _ l), some (.int _ h) => 0 ≤ l ∧ l ≤ h ∧ h ≤ s.size ∧ K (.string (s.extract l.toNat h.toNat))
 | _, _ => False

def opV (P : Program) (o : Oper) (ρ : Fr) (K : Value → World → Prop) (w : World) : Prop :=
 match o.op with
 | .move x | .assign x => K (rd ρ x) w
 | .pick c x y => match rd ρ c with
  | .bool b => match b with
   | true => K (rd ρ x) w
   | false => K (rd ρ y) w
  | _ => False
 | .binOp op xt x y _ => binV P op xt x y (rd ρ x) (rd ρ y) (.c (.s .bool)) K w
 | .unOp op _ x => pureV P (Op.unary op (rd ρ x)) fun v => K v w
 | .nilCheck x => nilV (rd ρ x) fun v => K v w
 | .fieldAddr s x f => match rd ρ x with
  | .pointer (some a) => match P.underlying s with
   | some (.struct fs) => match fs[f]? with
    | some fd => match P.info? fd.type with
     | some i => match i.size with
      | 0 => semV P (Instr.fieldAt s (rd ρ x) f) (.c (.s .ptr)) K w
      | _ + 1 => K (.pointer (some (a.add fd.offset))) w
     | none => False
    | none => False
   | _ => False
  | _ => False
 | .field xt x f => pureV P (Instr.field xt (rd ρ x) f) fun v => K v w
 | .load t x => match rd ρ x with
  | .pointer (some a) => loadV P t a w fun v => K v w
  | _ => False
 | .store t x y => match rd ρ x with
  | .pointer (some a) => storeV P t a (rd ρ y) w fun w' => K undef w'
  | _ => False
 | .box e x => cellsV P e (rd ρ x) fun cs => ∀ b, w.heap.size = b → K (.pointer (some ⟨b, 0, none⟩)) (alc w cs.toArray e)
 | .alloc e => match P.info? e with
  | some i => match i.zero with
   | some z => cellsV P e z fun cs => ∀ b, w.heap.size = b → K (.pointer (some ⟨b, 0, none⟩)) (alc w cs.toArray e)
   | none => False
  | none => False
 | .build t parts => match P.underlying t, P.info? t with
  | some (.struct fs), some inf => match inf.zero with
   | some (.agg zs) => match fs.toList.all fun f => (P.info? f.type).isSome with
    | true => buildS P fs (parts.toList.map fun (i, x) => (i, rd ρ x)) zs.toList fun cs => K (.agg cs.toArray) w
    | false => False
   | _ => False
  | _, _ => pureV P (Instr.build t (parts.map fun (i, x) => (i, rd ρ x))) fun v => K v w
 | .buildSlice t len parts => semV P (Instr.buildSlice t len (parts.map fun (i, x) => (i, rd ρ x))) (.c (.s .slice)) K w
 | .makeInterface t x => pureV P (Instr.makeInterface t (rd ρ x)) fun v => K v w
 | .makeFunc fn first captured => K (.func fn (first.map (rd ρ)) (captured.map (rd ρ))) w
 | .extract x i => match rd ρ x with
  | .tuple vs => match vs[i]? with
   | some v => K v w
   | none => False
  | _ => False
 | .index xt x i => match rd ρ x, rd ρ i with
  | .string s, .int _ n => match P.underlying xt with
   | some .string => 0 ≤ n ∧ n < s.size ∧ K (.int .u8 (bt s n)) w
   | _ => False
  | x', i' => match P.underlying xt with
   | some (.array _ e) => semV P (Instr.index xt x' i') (.c (ctyOf P e)) K w
   | _ => False
 | .indexAddr t x i => match rd ρ x, rd ρ i with
  | .slice q len _, .int _ n => match P.underlying t with
   | some (.slice e) => match P.info? e with
    | some inf => 0 ≤ n ∧ n < len ∧ nilP q fun a => K (.pointer (some (a.add (n.toNat * inf.size)))) w
    | none => False
   | _ => False
  | .pointer (some ad), .int _ n => match P.underlying t with
   | some (.array len e) => match P.info? e with
    | some inf => 0 ≤ n ∧ n < (len : Int) ∧ K (.pointer (some (ad.add (n.toNat * inf.size)))) w
    | none => False
   | _ => False
  | x', i' => semV P (Instr.indexAt t x' i') (.c (.s .ptr)) K w
 | .slice t x lo hi mx => match rd ρ x with
  | .string s => match P.underlying t, mx with
   | some .string, none => sliceStr s (lo.map (rd ρ)) (hi.map (rd ρ)) fun v => K v w
   | _, _ => False
  | x' => semV P (Instr.sliceAt t x' (lo.map (rd ρ)) (hi.map (rd ρ)) (mx.map (rd ρ))) (.c (.s .slice)) K w
 | .convert src dst x => match rd ρ x with
  | .int _ n => match P.underlying src, P.underlying dst with
   | some (.int _), some (.int k) => K (.int k (k.wrap n)) w
   | some (.int _), some .string => K (.string (Utf8.encode n)) w
   | _, _ => False
  | .string s => match P.underlying src, P.underlying dst with
   | some .string, some .string => K (.string s) w
   | _, _ => semV P (convert src dst (rd ρ x)) (tyOf P dst) K w
  | x' => semV P (convert src dst x') (tyOf P dst) K w
 | .typeAssert x xt asserted ok => semV P (Instr.typeAssert (rd ρ x) xt asserted ok) (okTy (ctyOf P asserted) ok) K w
 | .makeMap t r => semV P (Instr.makeMap t (r.map (rd ρ))) (.c (.s .map)) K w
 | .makeSlice t l c => semV P (Instr.makeSlice t (rd ρ l) (rd ρ c)) (.c (.s .slice)) K w
 | .lookup xt x i ok => match P.underlying xt with
  | some (.map _ e) => semV P (Instr.lookup xt (rd ρ x) (rd ρ i) ok) (okTy (ctyOf P e) ok) K w
  | _ => False
 | .mapUpdate t m k x | .insert t m k x => semU P (Instr.mapUpdate t (rd ρ m) (rd ρ k) (rd ρ x)) (fun w' => K undef w') w
 | .range xt x => semV P (Instr.range xt (rd ρ x)) (.c (.s .any)) K w
 | .next it isString => nextV P (Instr.next (rd ρ it) isString o.type) isString K w
 | .call c => match c.callee with
  | .builtin .len => match c.argTypes[0]?, c.args[0]? with
   | some t, some x => match P.underlying t, rd ρ x with
    | some .string, .string s => K (.int .i64 s.size) w
    | some (.slice _), .slice _ n _ => K (.int .i64 n) w
    | _, v => semV P (Builtin.len_ c.argTypes o.type #[v]) (.c (.s (.int .i64))) K w
   | _, _ => False
  | .builtin .append => semV P (Builtin.append_ c.argTypes o.type (c.args.map (rd ρ))) (.c (.s .slice)) K w
  | .builtin .copy => semV P (Builtin.copy_ c.argTypes o.type (c.args.map (rd ρ))) (.c (.s (.int .i64))) K w
  | .builtin .cap => semV P (Builtin.cap_ c.argTypes o.type (c.args.map (rd ρ))) (.c (.s (.int .i64))) K w
  | .builtin .max => semV P (Builtin.max_ c.argTypes o.type (c.args.map (rd ρ))) (.c (.s (.int .i64))) K w
  | .builtin .min => semV P (Builtin.min_ c.argTypes o.type (c.args.map (rd ρ))) (.c (.s (.int .i64))) K w
  | .builtin .unsafeSliceData => semV P (Builtin.unsafeSliceData_ c.argTypes o.type (c.args.map (rd ρ))) (.c (.s .ptr)) K w
  | .builtin .unsafeString => semV P (Builtin.unsafeString_ c.argTypes o.type (c.args.map (rd ρ))) (.c (.s .str)) K w
  | .builtin _ => False
  | .value (.func f) => callE P f (c.args.map (rd ρ)) (fun e w' => (tyOf P o.type).ex fun v => e = .returned v ∧ K v w') w
  | .value x => enterE P (do let d ← Deferred.ofValue (rd ρ x) (c.args.map (rd ρ)); invoke d.target d.args) (fun e w' => (tyOf P o.type).ex fun v => e = .returned v ∧ K v w') w
  | .invoke r name => enterE P (callMethod (rd ρ r) name (c.args.map (rd ρ))) (fun e w' => (tyOf P o.type).ex fun v => e = .returned v ∧ K v w') w
 | _ => False

end Go.Proofs.YtgbgadkldalkbaaGreatDoor


namespace Go.Proofs.YtgbgadkldalkbaaGreatDoor
variable {P : Program}

def After (a : Act) (o : Oper) (K : Value → World → Prop) (a' : Act) (w' : World) : Prop := ∃ v, a' = a.put o.dst v ∧ K v w'

theorem upon_val {o : Oper} {a : Act} {K : Value → World → Prop} {Q : Exit → Act → World → Prop} {r : Result Next} {v : Value} {w' : World}
 (h : r = .ok (.value v) w') (hk : K v w') : o.upon P a (After a o K) Q r := by
 subst h; exact ⟨v, rfl, hk⟩
theorem upon_skp {o : Oper} {a : Act} {K : Value → World → Prop} {Q : Exit → Act → World → Prop} {r : Result Next} {w' : World}
 (h : r = .ok .skip w') (hk : K undef w') : o.upon P a (After a o K) Q r := by
 subst h; exact ⟨undef, rfl, hk⟩
theorem upon_call {o : Oper} {a : Act} {K : Value → World → Prop} {Q : Exit → Act → World → Prop} {r : Result Next} {f : FuncId} {args : Array Value} {w' : World} {ty : Ty}
 (h : r = .ok (.enter f args) w') (hk : Calls P f args w' fun e w'' => ty.ex fun v => e = .returned v ∧ K v w'') : o.upon P a (After a o K) Q r := by
 subst h
 refine Calls.mono hk fun e w'' he => ?_
 obtain ⟨v, rfl, hv⟩ := Ty.ex_out he
 exact ⟨v, rfl, hv⟩

theorem run_bindv {s : Sem Value} {v : Value} {w w' : World} (h : s.run P w = .ok v w') :
 (s >>= fun v => pure (.value v) : Sem Next).run P w = .ok (.value v) w' := by
 rw [Sem.run_bind, h]; rfl
theorem run_bindu {s : Sem Unit} {w w' : World} (h : s.run P w = .ok () w') :
 (s >>= fun _ => pure .skip : Sem Next).run P w = .ok .skip w' := by
 rw [Sem.run_bind, h]; rfl

theorem pureV_out {s : Sem Value} {K : Value → Prop} (h : pureV P s K) : ∃ v, K v ∧ ∀ w, s.run P w = .ok v w := by
 unfold pureV at h
 split at h
 ·rename_i v hv; exact ⟨v, h, fun w => pureRun_sound P s v hv w⟩
 ·exact h.elim

theorem isAgg_run {t : TypeId} {w : World} {d : TypeDesc} (h : P.underlying t = some d) : (isAgg t).run P w = .ok (isAggB P t) w := by
 unfold isAgg underlying isAggB
 simp only [Sem.run_bind, run_program, Result.andThen_ok, h]
 cases d <;> rfl

theorem ldS_out : ∀ {ts : List STy} {w : World} {a : Addr} {i : Nat} {K : List Value → Prop}, ldS w ts a i K →
 ∃ vs, K vs ∧ vs.length = ts.length ∧ ∀ (acc : Array Value), (loadCellsFrom a i ts.length acc).run P w = .ok (acc ++ vs.toArray) w
 | [], _, _, _, _, h => ⟨[], h, rfl, fun acc => by simp [loadCellsFrom]⟩
 | t :: ts, w, a, i, K, h => by
  obtain ⟨v, hc, h⟩ := STy.ex_out h
  obtain ⟨vs, hk, hl, hr⟩ := ldS_out h
  refine ⟨v :: vs, hk, by simp [hl], fun acc => ?_⟩
  simp only [List.length_cons, loadCellsFrom, Sem.run_bind, run_load, hc, Result.andThen]
  rw [hr]
  simp

theorem loadV_out {t : TypeId} {a : Addr} {w : World} {K : Value → Prop} (h : loadV P t a w K) : ∃ v, K v ∧ (loadVar t a).run P w = .ok v w := by
 unfold loadV at h
 split at h
 ·rename_i i d hi hu
  have hag := isAgg_run (w := w) hu
  split at h
  ·rename_i cs hb hz
   split at h
   ·rename_i hlen
    obtain ⟨vs, hk, hl, hr⟩ := ldS_out (P := P) h
    refine ⟨_, hk, ?_⟩
    have hsz : i.size = cs.size := by simp [← Nat.eq_of_beq_eq_true hlen]
    have hr' : (loadCellsFrom a 0 cs.size #[]).run P w = .ok vs.toArray w := by simpa using hr #[]
    unfold loadVar loadCells sizeOf typeInfo
    simp only [Sem.run_bind, hag, Result.andThen_ok, hb, if_true, run_program, hi]
    have h1 : (pure i : Sem TypeInfo).run P w = .ok i w := rfl
    simp only [h1, Result.andThen_ok, hsz]
    rw [show (pure cs.size : Sem Nat).run P w = .ok cs.size w from rfl]
    simp only [Result.andThen_ok, hr']
    rfl
   ·exact h.elim
  ·rename_i z hb hz
   obtain ⟨v, hc, hk⟩ := STy.ex_out h
   refine ⟨v, hk, ?_⟩
   unfold loadVar
   simp only [Sem.run_bind, hag, Result.andThen_ok, hb, Bool.false_eq_true, if_false, run_load, hc]
  ·exact h.elim
 ·exact h.elim

theorem stS_out : ∀ {vs : List Value} {a : Addr} {i : Nat} {w : World} {K : World → Prop}, stS vs a i w K →
 ∃ w', K w' ∧ (storeCells a vs i).run P w = .ok () w'
 | [], _, _, w, _, h => ⟨w, h, rfl⟩
 | v :: vs, a, i, w, K, h => by
  obtain ⟨h1, ⟨u, hu⟩, hf, h⟩ := h
  obtain ⟨w', hk, hr⟩ := stS_out h
  refine ⟨w', hk, ?_⟩
  have hv : v.oneCell' = true := by cases v <;> first | rfl | exact h1.elim
  simp only [storeCells, Sem.run_bind, run_store P w (a.add i) v .plain hv, hu, hf, Bool.false_eq_true, if_false, Result.andThen]
  exact hr

theorem cellV_out {v : Value} {K : Prop} (h : cellV v K) : K ∧ v.cells = #[v] ∧ OneCell v := by
 cases v <;> first | exact ⟨h, rfl, trivial⟩ | exact ⟨h.2, rfl, trivial⟩ | exact h.elim
theorem cellsV_out {t : TypeId} {v : Value} {K : List Value → Prop} (h : cellsV P t v K) : K v.cells.toList := by
 unfold cellsV at h
 split at h
 ·split at h
  ·exact h
  ·exact h.elim
 ·obtain ⟨h, hc, _⟩ := cellV_out h
  rw [hc]
  exact h

theorem storeV_out {t : TypeId} {a : Addr} {v : Value} {w : World} {K : World → Prop} (h : storeV P t a v w K) :
 ∃ w', K w' ∧ (storeVar t a v).run P w = .ok () w' := by
 unfold storeV at h
 split at h
 ·rename_i i hi
  have h := cellsV_out h
  split at h
  ·rename_i hs
   obtain ⟨w', hk, hr⟩ := stS_out (P := P) h
   refine ⟨w', hk, ?_⟩
   have hs' : v.cells.size = i.size := by simpa using Nat.eq_of_beq_eq_true hs
   unfold storeVar sizeOf typeInfo
   simp only [Sem.run_bind, run_program, Result.andThen_ok, hi]
   have h1 : (pure i : Sem TypeInfo).run P w = .ok i w := rfl
   have h2 : (pure i.size : Sem Nat).run P w = .ok i.size w := rfl
   simp only [h1, h2, Result.andThen_ok, hs', ne_eq, not_true_eq_false, if_false]
   simpa [Sem.run_bind, pure, Sem.run, Result.andThen] using hr
  ·exact h.elim
 ·exact h.elim

theorem setCells_eq (xs : List Value) : ∀ (cs : List Value) (off : Nat), setCells cs off xs = (xs.zipIdx.foldl (fun cs (c, j) => cs.set (off + j) c) cs) := by
 have key : ∀ (xs : List Value) (cs : List Value) (off k : Nat), setCells cs (off + k) xs = ((xs.zipIdx k).foldl (fun cs (c, j) => cs.set (off + j) c) cs) := by
  intro xs
  induction xs with
  | nil => intro cs off k; rfl
  | cons x xs ih =>
   intro cs off k
   simp only [setCells, List.zipIdx_cons, List.foldl_cons]
   rw [← ih (cs.set (off + k) x) off (k + 1)]
   rfl
 intro cs off
 exact key xs cs off 0
theorem foldl_set_toList (xs : List (Value × Nat)) (off : Nat) : ∀ (cs : Array Value), (xs.foldl (fun cs (c, j) => cs.setIfInBounds (off + j) c) cs).toList = xs.foldl (fun cs (c, j) => cs.set (off + j) c) cs.toList := by
 induction xs with
 | nil => intro cs; rfl
 | cons x xs ih => intro cs; simp only [List.foldl_cons]; rw [ih]; simp
theorem buildS_out {fs : Array Field} {K : List Value → Prop} {places : Array (Nat × Nat)} (hp : ∀ (i : Nat) (f : Field) (inf : TypeInfo), fs[i]? = some f → P.info? f.type = some inf → places[i]? = some (f.offset, inf.size)) :
 ∀ {ps : List (Nat × Value)} {cs : Array Value}, buildS P fs ps cs.toList K → ∃ cs', K cs'.toList ∧ Instr.fill (places[·]?) cs ps = some cs'
 | [], cs, h => ⟨cs, h, rfl⟩
 | (i, v) :: ps, cs, h => by
  unfold buildS at h
  split at h
  ·rename_i f hf
   split at h
   ·rename_i inf hi
    have h := cellsV_out h
    split at h
    ·rename_i h1 h2
     have h1 := Nat.eq_of_beq_eq_true h1
     have h2 := Nat.le_of_ble_eq_true h2
     simp only [Array.length_toList] at h1 h2
     have he : setCells cs.toList f.offset v.cells.toList = (v.cells.zipIdx.foldl (fun cs (c, j) => cs.setIfInBounds (f.offset + j) c) cs).toList := by
      rw [setCells_eq, ← Array.foldl_toList, foldl_set_toList]
      simp
     rw [he] at h
     obtain ⟨cs', hk, hfill⟩ := buildS_out hp h
     refine ⟨cs', hk, ?_⟩
     unfold Instr.fill
     simp only [hp i f inf hf hi]
     rw [if_neg (by simp; omega)]
     exact hfill
    ·exact h.elim
   ·exact h.elim
  ·exact h.elim

theorem places_run {w : World} : ∀ (l : List Field), (l.all fun f => (P.info? f.type).isSome) = true →
 (l.mapM (m := Sem) fun f => do pure (f.offset, ← sizeOf f.type)).run P w = .ok (l.map fun f => (f.offset, ((P.info? f.type).map (·.size)).getD 0)) w
 | [], _ => rfl
 | f :: l, h => by
  simp only [List.all_cons, Bool.and_eq_true] at h
  obtain ⟨inf, hi⟩ := Option.isSome_iff_exists.1 h.1
  have hs : (sizeOf f.type).run P w = .ok inf.size w := by
   unfold sizeOf typeInfo
   simp only [Sem.run_bind, run_program, Result.andThen_ok, hi]
   rfl
  simp only [List.mapM_cons, Sem.run_bind, hs, Result.andThen_ok]
  rw [show (pure (f.offset, inf.size) : Sem (Nat × Nat)).run P w = .ok (f.offset, inf.size) w from rfl]
  simp only [Result.andThen_ok, places_run l h.2, List.map_cons, hi]
  rfl

theorem binV_out {op : BinOp} {xt : TypeId} {ox oy : Operand} {x y : Value} {ty : Ty} {K : Value → World → Prop} {w : World} (h : binV P op xt ox oy x y ty K w) :
 ∃ v w', K v w' ∧ (do eqGuard op xt ox oy x y; binOp op xt x y : Sem Value).run P w = .ok v w' := by
 unfold binV at h
 split at h
 ·obtain ⟨v, w', hr, h⟩ := Ty.ex_out h
  exact ⟨v, w', h, hr⟩
 split at h
 ·rename_i k a k' b
  split at h
  ·obtain ⟨hb, h⟩ := h
   split at h
   ·rename_i hk
    have hk := of_decide_eq_true hk
    subst hk
    refine ⟨_, w, h, ?_⟩
    show (binOp .quo xt (.int k a) (.int k b)).run P w = _
    simp [binOp, Op.intDiv, hb]
   ·exact h.elim
  ·obtain ⟨hb, h⟩ := h
   split at h
   ·rename_i hk
    have hk := of_decide_eq_true hk
    subst hk
    refine ⟨_, w, h, ?_⟩
    show (binOp .rem xt (.int k a) (.int k b)).run P w = _
    simp [binOp, Op.intDiv, hb]
   ·exact h.elim
  ·obtain ⟨hb, h⟩ := h
   refine ⟨_, w, h, ?_⟩
   have : ¬ b < 0 := by omega
   show (binOp .shl xt (.int k a) (.int k' b)).run P w = _
   simp [binOp, Op.shift, this]
  ·obtain ⟨hb, h⟩ := h
   refine ⟨_, w, h, ?_⟩
   have : ¬ b < 0 := by omega
   show (binOp .shr xt (.int k a) (.int k' b)).run P w = _
   simp [binOp, Op.shift, this]
  ·obtain ⟨v, h, hr⟩ := pureV_out h
   exact ⟨v, w, h, hr w⟩
 ·rename_i a b
  split at h
  ·obtain ⟨hb, h⟩ := h
   refine ⟨_, w, h, ?_⟩
   have : ¬ ((a.size + b.size : Nat) : Int) > IntKind.i64.max := by omega
   show (binOp .add xt (.string a) (.string b)).run P w = _
   simp only [binOp, Op.stringOp, if_neg this]
   rfl
  ·obtain ⟨v, h, hr⟩ := pureV_out h
   exact ⟨v, w, h, hr w⟩
 ·obtain ⟨v, h, hr⟩ := pureV_out h
  exact ⟨v, w, h, hr w⟩
 ·obtain ⟨v, w', hr, h⟩ := Ty.ex_out h
  exact ⟨v, w', h, hr⟩

theorem sliceStr_all {s : ByteArray} {lo hi : Option Value} {K : Value → Prop} {xt : TypeId} (hu : P.underlying xt = some .string) (h : sliceStr s lo hi K) :
 ∃ v, K v ∧ ∀ w, (Instr.sliceAt xt (.string s) lo hi none).run P w = .ok v w := by
 have key : ∀ (l n : Nat) (w : World), (Instr.sliceBounds false s.size s.size lo hi none).run P w = .ok (l, n, s.size) w →
  (Instr.sliceAt xt (.string s) lo hi none).run P w = .ok (.string (s.extract l n)) w := by
  intro l n w hb
  unfold Instr.sliceAt Instr.slice underlying
  simp only [Sem.run_bind, run_program, Result.andThen_ok, hu]
  have : (pure TypeDesc.string : Sem TypeDesc).run P w = .ok .string w := rfl
  simp only [this, Result.andThen_ok, Option.isSome_none, Bool.false_eq_true, if_false, Sem.run_bind, run_program, hu, hb]
  rfl
 unfold sliceStr at h
 split at h
 ·refine ⟨_, h, fun w => ?_⟩
  rw [key 0 s.size w (by simp [Instr.sliceBounds])]
  simp
 ·obtain ⟨h1, h2, h⟩ := h
  refine ⟨_, h, fun w => key _ _ w ?_⟩
  simp [Instr.sliceBounds, Instr.sliceBound, asIntOf, h1, h2]
 ·obtain ⟨h1, h2, h⟩ := h
  refine ⟨_, h, fun w => key _ _ w ?_⟩
  simp [Instr.sliceBounds, Instr.sliceBound, asIntOf, h1, h2]
 ·rename_i l _ hh
  obtain ⟨h1, h2, h3, h⟩ := h
  refine ⟨_, h, fun w => key _ _ w ?_⟩
  have h4 : 0 ≤ hh := by omega
  have h5 : l ≤ max hh 0 := by omega
  simp [Instr.sliceBounds, Instr.sliceBound, asIntOf, h1, h3, h4, h5]
 ·exact h.elim

theorem sliceStr_out {s : ByteArray} {lo hi : Option Value} {K : Value → Prop} {xt : TypeId} {w : World} (hu : P.underlying xt = some .string) (h : sliceStr s lo hi K) :
 ∃ v, K v ∧ (Instr.sliceAt xt (.string s) lo hi none).run P w = .ok v w := by
 obtain ⟨v, hk, hr⟩ := sliceStr_all hu h
 exact ⟨v, hk, hr w⟩

set_option maxHeartbeats 1000000 in
theorem opV_sound {n : Nat} {a : Act} {ρ : Fr} {o : Oper} {K : Value → World → Prop} {w : World} {Q : Exit → Act → World → Prop}
 (hr : RelF n a ρ) (h : opV P o ρ K w) : o.wp P a w (After a o K) Q := by
 have he : a.eval = rd ρ := funext hr.eval
 unfold Oper.wp
 rw [he]
 unfold opV at h
 split at h <;> rename_i hop <;> simp only [execOp, hop]
 case h_1 => exact upon_val rfl h
 case h_2 => exact upon_val rfl h
 case h_3 =>
  split at h
  ·rename_i b hb
   split at h <;> (rw [hb]; exact upon_val rfl h)
  ·exact h.elim
 case h_4 => obtain ⟨v, w', hk, hs⟩ := binV_out h; exact upon_val (run_bindv hs) hk
 case h_5 => obtain ⟨v, hk, hs⟩ := pureV_out h; exact upon_val (run_bindv (hs w)) hk
 case h_6 =>
  unfold nilV at h
  split at h
  ·rename_i q hq
   unfold nilP at h
   split at h
   ·rw [hq]; exact upon_val rfl h
   ·exact h.elim
  ·rename_i v hv
   obtain ⟨hn, hk⟩ := h
   cases hx : rd ρ _ <;> rw [hx] at hn hk <;> try exact hn.elim
   ·rename_i fn first captured
    cases fn <;> try exact hn.elim
    exact upon_val rfl hk
   ·exact upon_val rfl hk
 case h_7 =>
  split at h
  ·rename_i ad had
   split at h
   ·rename_i fs hu
    split at h
    ·rename_i fd hf
     split at h
     ·rename_i i hi
      split at h
      ·obtain ⟨v, w', hs, hk⟩ := Ty.ex_out h; exact upon_val (run_bindv hs) hk
      ·rename_i m hm
       refine upon_val (run_bindv ?_) h
       rw [had]
       unfold Instr.fieldAt underlying fieldPlace sizeOf typeInfo
       simp only [Sem.run_bind, run_program, Result.andThen_ok, hu]
       simp only [pure, Sem.run, Result.andThen_ok, hf, Instr.sureAddr, hm, Nat.add_one_ne_zero, if_false, Sem.run_bind, run_program, hi]
     ·exact h.elim
    ·exact h.elim
   ·exact h.elim
  ·exact h.elim
 case h_8 => obtain ⟨v, hk, hs⟩ := pureV_out h; exact upon_val (run_bindv (hs w)) hk
 case h_9 =>
  split at h
  ·rename_i ad had
   obtain ⟨v, hk, hs⟩ := loadV_out h
   refine upon_val (run_bindv ?_) hk
   rw [had]
   exact hs
  ·exact h.elim
 case h_10 =>
  split at h
  ·rename_i ad had
   obtain ⟨w', hk, hs⟩ := storeV_out h
   refine upon_skp (run_bindu ?_) hk
   rw [had]
   exact hs
  ·exact h.elim
 case h_11 =>
  have h := cellsV_out h
  exact upon_val rfl (h _ rfl)
 case h_12 =>
  split at h
  ·rename_i i hi
   split at h
   ·rename_i z hz
    have h := cellsV_out h
    refine upon_val (run_bindv ?_) (h _ rfl)
    unfold Instr.alloc zeroValue typeInfo
    simp only [Sem.run_bind, run_program, Result.andThen_ok, hi]
    simp only [pure, Sem.run, Result.andThen_ok, hz]
    rfl
   ·exact h.elim
  ·exact h.elim
 case h_13 =>
  split at h
  ·rename_i fs inf hu hinf
   rename_i parts _ _
   split at h
   ·rename_i zs hz
    split at h
    ·rename_i hall
     have hp : ∀ (i : Nat) (f : Field) (inf : TypeInfo), fs[i]? = some f → P.info? f.type = some inf →
      ((fs.toList.map fun f => (f.offset, ((P.info? f.type).map (·.size)).getD 0)).toArray)[i]? = some (f.offset, inf.size) := by
      intro i f inf' hf hi
      simp [hf, hi]
     obtain ⟨cs', hk, hfill⟩ := buildS_out hp h
     refine upon_val (run_bindv ?_) hk
     unfold Instr.build zeroValue typeInfo underlying
     simp only [Sem.run_bind, run_program, Result.andThen_ok, hinf, hu]
     rw [show (pure inf : Sem TypeInfo).run P w = .ok inf w from rfl]
     simp only [Result.andThen_ok, hz]
     rw [show (pure (Value.agg zs) : Sem Value).run P w = .ok (.agg zs) w from rfl]
     simp only [Result.andThen_ok, Sem.run_bind]
     rw [show (pure (TypeDesc.struct fs) : Sem TypeDesc).run P w = .ok (.struct fs) w from rfl]
     simp only [Result.andThen_ok, Sem.run_bind]
     rw [Array.mapM_eq_mapM_toList, map_eq_pure_bind, Sem.run_bind, places_run _ hall]
     simp only [Result.andThen_ok]
     rw [show ∀ x : List (Nat × Nat), (pure x.toArray : Sem (Array (Nat × Nat))).run P w = .ok x.toArray w from fun _ => rfl]
     simp only [Result.andThen_ok, Value.cells]
     have hps : (parts.map fun (i, x) => (i, rd ρ x)).toList = parts.toList.map fun (i, x) => (i, rd ρ x) := by simp
     rw [hps, hfill]
     simp
    ·exact h.elim
   ·exact h.elim
  ·obtain ⟨v, hk, hs⟩ := pureV_out h; exact upon_val (run_bindv (hs w)) hk
 case h_14 => obtain ⟨v, w', hs, hk⟩ := Ty.ex_out h; exact upon_val (run_bindv hs) hk
 case h_15 => obtain ⟨v, hk, hs⟩ := pureV_out h; exact upon_val (run_bindv (hs w)) hk
 case h_16 => exact upon_val rfl h
 case h_17 =>
  split at h
  ·rename_i vs hv
   split at h
   ·rename_i v hi
    refine upon_val (run_bindv ?_) h
    simp [hv, Instr.extract, hi]
   ·exact h.elim
  ·exact h.elim
 case h_18 =>
  split at h
  ·rename_i s k m hs hi
   split at h
   ·rename_i hu
    obtain ⟨h0, h1, hk⟩ := h
    refine upon_val (run_bindv ?_) hk
    have hlt : m.toNat < s.size := by omega
    unfold Instr.index asIntOf underlying
    simp only [hs, hi, Sem.run_bind, run_program, Result.andThen_ok, hu]
    simp only [pure, Sem.run, Result.andThen_ok, h0, if_true, getElem?_pos s m.toNat hlt]
    congr 2
    unfold bt
    have : s.data.size = s.size := rfl
    simp [Array.getD, this, hlt, ByteArray.getElem_eq_getElem_data]
   ·exact h.elim
  ·split at h
   ·obtain ⟨v, w', hs, hk⟩ := Ty.ex_out h; exact upon_val (run_bindv hs) hk
   ·exact h.elim
 case h_19 =>
  split at h
  ·rename_i q len c k m hs hi
   split at h
   ·rename_i e hu
    split at h
    ·rename_i inf hin
     obtain ⟨h0, h1, hk⟩ := h
     unfold nilP at hk
     split at hk
     ·rename_i ad
      refine upon_val (run_bindv ?_) hk
      unfold Instr.indexAt asIntOf underlying sizeOf typeInfo
      simp only [hs, hi, Sem.run_bind, run_program, Result.andThen_ok, hu]
      simp only [pure, Sem.run, Result.andThen_ok, h0, h1, and_self, if_true, Sem.run_bind, run_program, hin, hu]
     ·exact hk.elim
    ·exact h.elim
   ·exact h.elim
  ·rename_i ad k m hs hi
   split at h
   ·rename_i len e hu
    split at h
    ·rename_i inf hin
     obtain ⟨h0, h1, hk⟩ := h
     refine upon_val (run_bindv ?_) hk
     unfold Instr.indexAt asIntOf underlying sizeOf typeInfo
     simp only [hs, hi, Sem.run_bind, run_program, Result.andThen_ok, hu]
     simp only [pure, Sem.run, Result.andThen_ok, h0, h1, and_self, if_true, Sem.run_bind, run_program, hin, hu, Instr.sureAddr]
    ·exact h.elim
   ·exact h.elim
  ·obtain ⟨v, w', hs, hk⟩ := Ty.ex_out h; exact upon_val (run_bindv hs) hk
 case h_20 =>
  split at h
  ·rename_i s hs
   split at h
   ·rename_i hu
    obtain ⟨v, hk, hrun⟩ := sliceStr_out hu h
    refine upon_val (run_bindv ?_) hk
    rw [hs]
    exact hrun
   ·exact h.elim
  ·obtain ⟨v, w', hs, hk⟩ := Ty.ex_out h; exact upon_val (run_bindv hs) hk
 case h_21 =>
  split at h
  ·rename_i k m hx
   split at h
   ·rename_i k1 k2 h1 h2
    refine upon_val (run_bindv ?_) h
    simp [hx, convert, underlying, h1, h2, Conv.intToInt]
   ·rename_i k1 h1 h2
    refine upon_val (run_bindv ?_) h
    simp [hx, convert, underlying, h1, h2, Conv.intToString]
   ·exact h.elim
  ·rename_i m hx
   split at h
   ·rename_i h1 h2
    refine upon_val (run_bindv ?_) h
    simp [hx, convert, underlying, h1, h2]
   ·obtain ⟨v, w', hs, hk⟩ := Ty.ex_out h; rw [hx] at hs; rw [hx]; exact upon_val (run_bindv hs) hk
  ·obtain ⟨v, w', hs, hk⟩ := Ty.ex_out h; exact upon_val (run_bindv hs) hk
 case h_22 => obtain ⟨v, w', hs, hk⟩ := Ty.ex_out h; exact upon_val (run_bindv hs) hk
 case h_23 => obtain ⟨v, w', hs, hk⟩ := Ty.ex_out h; exact upon_val (run_bindv hs) hk
 case h_24 => obtain ⟨v, w', hs, hk⟩ := Ty.ex_out h; exact upon_val (run_bindv hs) hk
 case h_25 =>
  split at h
  ·obtain ⟨v, w', hs, hk⟩ := Ty.ex_out h; exact upon_val (run_bindv hs) hk
  ·exact h.elim
 case h_26 => obtain ⟨w', hs, hk⟩ := h; exact upon_skp (run_bindu hs) hk
 case h_27 => obtain ⟨w', hs, hk⟩ := h; exact upon_skp (run_bindu hs) hk
 case h_28 => obtain ⟨v, w', hs, hk⟩ := Ty.ex_out h; exact upon_val (run_bindv hs) hk
 case h_29 =>
  unfold nextV at h
  rcases h with ⟨w', hs, hk⟩ | h
  ·exact upon_val (run_bindv hs) hk
  ·split at h
   ·obtain ⟨i, c, w', hs, hk⟩ := h; exact upon_val (run_bindv hs) hk
   ·obtain ⟨k, v, w', hs, hk⟩ := h; exact upon_val (run_bindv hs) hk
 case h_30 =>
  rename_i c
  obtain ⟨callee, args, argTypes⟩ := c
  split at h <;> rename_i hcal <;> dsimp only at hcal h <;> subst hcal
  ·split at h
   ·rename_i t x ht hx
    split at h
    ·rename_i s hu hs
     refine upon_val (run_bindv (s := Builtin.len_ argTypes o.type (args.map (rd ρ))) ?_) h
     simp [Builtin.len_, ht, hx, underlying, hu, hs, goInt]
    ·rename_i e q m cc hu hs
     refine upon_val (run_bindv (s := Builtin.len_ argTypes o.type (args.map (rd ρ))) ?_) h
     simp [Builtin.len_, ht, hx, underlying, hu, hs, goInt]
    ·obtain ⟨v, w', hs, hk⟩ := Ty.ex_out h
     refine upon_val (run_bindv (s := Builtin.len_ argTypes o.type (args.map (rd ρ))) ?_) hk
     simpa [Builtin.len_, ht, hx] using hs
   ·exact h.elim
  ·obtain ⟨v, w', hs, hk⟩ := Ty.ex_out h; exact upon_val (run_bindv hs) hk
  ·obtain ⟨v, w', hs, hk⟩ := Ty.ex_out h; exact upon_val (run_bindv hs) hk
  ·obtain ⟨v, w', hs, hk⟩ := Ty.ex_out h; exact upon_val (run_bindv hs) hk
  ·obtain ⟨v, w', hs, hk⟩ := Ty.ex_out h; exact upon_val (run_bindv hs) hk
  ·obtain ⟨v, w', hs, hk⟩ := Ty.ex_out h; exact upon_val (run_bindv hs) hk
  ·obtain ⟨v, w', hs, hk⟩ := Ty.ex_out h; exact upon_val (run_bindv hs) hk
  ·obtain ⟨v, w', hs, hk⟩ := Ty.ex_out h; exact upon_val (run_bindv hs) hk
  ·rcases h with ⟨hc, h⟩ | ⟨v, w', hc, h⟩
   ·refine upon_call ?_ h
    rw [← hc]
    simp [resolve, rd, Deferred.ofValue, invoke]
   ·obtain ⟨v', he, hk⟩ := Ty.ex_out h
    cases he
    refine upon_val ?_ hk
    rw [← hc]
    simp [resolve, rd, Deferred.ofValue, invoke]
  ·rcases h with ⟨f, ys, w', hs, h⟩ | ⟨v, w', hs, h⟩
   ·refine upon_call ?_ h
    rw [← hs]
    rfl
   ·obtain ⟨v', he, hk⟩ := Ty.ex_out h
    cases he
    refine upon_val ?_ hk
    rw [← hs]
    rfl
  ·rename_i r name
   have h0 : (#[rd ρ r] ++ args.map (rd ρ))[0]? = some (rd ρ r) := by rw [Array.getElem?_append_left (by simp)]; rfl
   have h1 : (args.map (rd ρ)).extract 0 args.size = args.map (rd ρ) := by
    simp
   rcases h with ⟨f, ys, w', hs, h⟩ | ⟨v, w', hs, h⟩
   ·refine upon_call ?_ h
    rw [← hs]
    simp [resolve, invoke, h0, h1]
   ·obtain ⟨v', he, hk⟩ := Ty.ex_out h
    cases he
    refine upon_val ?_ hk
    rw [← hs]
    simp [resolve, invoke, h0, h1]
 case h_31 => exact h.elim

end Go.Proofs.YtgbgadkldalkbaaGreatDoor


namespace Go.Proofs.YtgbgadkldalkbaaGreatDoor
variable {P : Program}

def dstOk (n : Nat) : Option Nat → Bool
 | none => true
 | some d => Nat.blt d n
abbrev GS := List (Nat × Nat × Bool × Value)
def gfind : GS → Nat → Option (Nat × Bool × Value)
 | [], _ => none
 | (t, r) :: gs, u => match Nat.beq t u with
  | true => some r
  | false => gfind gs u
def gdrop : GS → Nat → GS
 | [], _ => []
 | (t, r) :: gs, u => match Nat.beq t u with
  | true => gdrop gs u
  | false => (t, r) :: gdrop gs u
def gdel : GS → Nat → GS
 | [], _ => []
 | (t, g, r) :: gs, u => match Nat.beq t u with
  | true => gdel gs u
  | false => match Nat.beq g u with
   | true => gdel gs u
   | false => (t, g, r) :: gdel gs u
def gdelO (gs : GS) : Option Nat → GS
 | none => gs
 | some d => gdel gs d
def isB (want : Bool) (v : Value) : Bool :=
 match v with
 | .bool b => match want with
  | true => b
  | false => !b
 | _ => false
def gsel (b : Bool) (v : Value) : Value :=
 match b with
 | true => v
 | false => undef
abbrev Ch := List (Nat × Bool × Value)
def chain (gs : GS) (ρ : Fr) : Nat → Nat → Bool → Ch
 | 0, t, want => [(t, want, ρ t)]
 | f + 1, t, want => match gfind gs t with
  | none => [(t, want, ρ t)]
  | some (t', w', v) => chain gs ρ f t' w' ++ [(t, want, v)]
def allB : Ch → Bool
 | [] => true
 | (_, want, v) :: c => match c with
  | [] => isB want v
  | _ :: _ => isB want v && allB c
def keyIn : Ch → Nat → Bool → Bool
 | [], _, _ => false
 | (t, w, _) :: c, u, x => match Nat.beq t u with
  | true => match w, x with
   | true, true => true
   | false, false => true
   | _, _ => keyIn c u x
  | false => keyIn c u x
def ovr (c : Ch) (gs : GS) (ρ : Fr) : Fr := fun t =>
 match gfind gs t with
 | none => ρ t
 | some (t', w', v) => match keyIn c t' w' with
  | true => v
  | false => ρ t
def pickV (b : Bool) (x y : Value) : Option Value :=
 match x, y with
 | .bool p, .bool q => some (.bool (cond b p q))
 | .int k p, .int k' q => match decide (k = k') with
  | true => some (.int k (cond b p q))
  | false => none
 | .string p, .string q => some (.string (cond b p q))
 | _, _ => none
def pureOp (P : Program) (o : Oper) (ch : Ch) (gs : GS) (ρ : Fr) : Option (Option Prop × Value) :=
 match o.op with
 | .move x => some (none, rd (ovr ch gs ρ) x)
 | .pick g x y => match g with
  | .tmp t => match ovr ch gs ρ t with
   | .bool b => match pickV b (rd (ovr (ch ++ [(t, true, .bool b)]) gs ρ) x) (rd (ovr (ch ++ [(t, false, .bool b)]) gs ρ) y) with
    | some v => some (none, v)
    | none => none
   | _ => none
  | _ => none
 | .binOp op xt x y _ => match plainB P xt with
  | false => none
  | true =>
  match rd (ovr ch gs ρ) x, rd (ovr ch gs ρ) y with
  | .int k a, .int k' b => match op with
   | .quo | .rem | .shl | .shr => none
   | _ => match pureRun P (do eqGuard op xt x y (.int k a) (.int k' b); binOp op xt (.int k a) (.int k' b)) with
    | some v => some (none, v)
    | none => none
  | .string a, .string b => match op with
   | .add => none
   | _ => match pureRun P (do eqGuard op xt x y (.string a) (.string b); binOp op xt (.string a) (.string b)) with
    | some v => some (none, v)
    | none => none
  | _, _ => none
 | .unOp op _ x => match pureRun P (Op.unary op (rd (ovr ch gs ρ) x)) with
  | some v => some (none, v)
  | none => none
 | .index xt x i => match rd (ovr ch gs ρ) x, rd (ovr ch gs ρ) i with
  | .string s, .int _ n => match P.underlying xt with
   | some .string => some (some (0 ≤ n ∧ n < s.size), .int .u8 (bt s n))
   | _ => none
  | _, _ => none
 | .call c => match c.callee with
  | .builtin .len => match c.argTypes[0]?, c.args[0]? with
   | some t, some x => match P.underlying t, rd (ovr ch gs ρ) x with
    | some .string, .string s => some (none, .int .i64 s.size)
    | some (.slice _), .slice _ n _ => some (none, .int .i64 n)
    | _, _ => none
   | _, _ => none
  | _ => none
 | _ => none
def splitC : Ch → Fr → GS → (Fr → GS → Prop) → (Fr → GS → Prop) → Prop
 | [], ρ, gs, yes, _ => yes ρ gs
 | (t, want, v) :: c, ρ, gs, yes, no => match v with
  | .bool b => match b with
   | true => match want with
    | true => splitC c (upd ρ t (.bool true)) (gdrop gs t) yes no
    | false => no (upd ρ t (.bool true)) (gdrop gs t)
   | false => match want with
    | true => no (upd ρ t (.bool false)) (gdrop gs t)
    | false => splitC c (upd ρ t (.bool false)) (gdrop gs t) yes no
  | .tuple _ => no ρ (gdrop gs t)
  | _ => False
def isPick : Op → Bool
 | .pick .. => true
 | _ => false

def opsV (P : Program) (n : Nat) (all : List Oper) : List Oper → (Fr → World → Prop) → GS → Fr → World → Prop
 | [], Q, _, ρ, w => Q ρ w
 | o :: rest, Q, gs, ρ, w =>
  match dstOk n o.dst with
  | false => False
  | true =>
   match o.guard with
   | none => match isPick o.op with
    | false => opV P o ρ (fun v w' => opsV P n all rest Q (gdelO gs o.dst) (putF ρ o.dst v) w') w
    | true => match pureOp P o [] gs ρ with
     | some (none, v) => opsV P n all rest Q (gdelO gs o.dst) (putF ρ o.dst v) w
     | _ => opV P o ρ (fun v w' => opsV P n all rest Q (gdelO gs o.dst) (putF ρ o.dst v) w') w
   | some (j, want) =>
    match (all[j]?).bind (·.dst), o.dst with
    | some t, some d => match Nat.beq t d with
     | true => False
     | false => match pureOp P o (chain gs ρ 9 t want) gs ρ with
      | some (none, v) => opsV P n all rest Q ((d, t, want, v) :: gdel gs d) (upd ρ d (gsel (allB (chain gs ρ 9 t want)) v)) w
      | some (some side, v) => (allB (chain gs ρ 9 t want) = true → side) ∧
       opsV P n all rest Q ((d, t, want, v) :: gdel gs d) (upd ρ d (gsel (allB (chain gs ρ 9 t want)) v)) w
      | none => splitC (chain gs ρ 9 t want) ρ gs
       (fun ρ' gs' => opV P o (ovr (chain gs ρ 9 t want) gs' ρ') (fun v w' => opsV P n all rest Q (gdel gs' d) (upd ρ' d v) w') w)
       (fun ρ' gs' => opsV P n all rest Q (gdel gs' d) (upd ρ' d undef) w)
    | some t, none => splitC (chain gs ρ 9 t want) ρ gs
     (fun ρ' gs' => opV P o (ovr (chain gs ρ 9 t want) gs' ρ') (fun _ w' => opsV P n all rest Q gs' ρ' w') w)
     (fun ρ' gs' => opsV P n all rest Q gs' ρ' w)
    | none, _ => False

abbrev PostF := Exit → Fr → World → Prop
def liftQ (n : Nat) (Q : PostF) : Exit → Act → World → Prop := fun e a w => ∃ ρ, RelF n a ρ ∧ Q e ρ w
def thenF (K : Fr → World → Prop) (Q : PostF) : PostF
 | .normal, ρ, w => K ρ w
 | e, ρ, w => Q e ρ w
def blockF (id : Nat) (Q : PostF) : PostF
 | .exit id', ρ, w => match Nat.beq id' id with
  | true => Q .normal ρ w
  | false => Q (.exit id') ρ w
 | e, ρ, w => Q e ρ w

def noGotoF (Q : PostF) : PostF
 | .goto _, _, _ => False
 | e, ρ, w => Q e ρ w
def vcC (P : Program) (n : Nat) : Code → PostF → Fr → World → Prop
 | .skip, Q, ρ, w => Q .normal ρ w
 | .region _ ops draw, Q, ρ, w => match draw with
  | true => False
  | false => opsV P n ops.toList ops.toList (Q .normal) [] ρ w
 | .seq x y, Q, ρ, w => vcC P n x (thenF (vcC P n y Q) Q) ρ w
 | .cond c x y, Q, ρ, w =>
  match c with
  | .tmp t => match ρ t with
   | .bool b => match b with
    | true => vcC P n x Q (upd ρ t (.bool true)) w
    | false => vcC P n y Q (upd ρ t (.bool false)) w
   | _ => False
  | .const (.bool b) => match b with
   | true => vcC P n x Q ρ w
   | false => vcC P n y Q ρ w
  | _ => False
 | .block id x, Q, ρ, w => vcC P n x (blockF id Q) ρ w
 | .exit id, Q, ρ, w => Q (.exit id) ρ w
 | .ret, Q, ρ, w => Q .ret ρ w
 | .label _, Q, ρ, w => Q .normal ρ w
 | .goto l, Q, ρ, w => Q (.goto l) ρ w
 | .scope x, Q, ρ, w => vcC P n x (noGotoF Q) ρ w
 | _, _, _, _ => False

def WpF (P : Program) (n : Nat) (c : Code) (Q : PostF) (ρ : Fr) (w : World) : Prop := ∀ a, RelF n a ρ → c.wp P (liftQ n Q) a w

def Inv (gs : GS) (ρ : Fr) : Prop := ∀ t t' w v, (t, t', w, v) ∈ gs → ρ t = gsel (isB w (ρ t')) v

theorem beq_false_ne {a b : Nat} (h : Nat.beq a b = false) : a ≠ b := fun hc => by subst hc; simp at h
theorem gfind_mem : ∀ {gs : GS} {t : Nat} {r : Nat × Bool × Value}, gfind gs t = some r → (t, r) ∈ gs
 | [], _, _, h => by cases h
 | (s, q) :: gs, t, r, h => by
  simp only [gfind] at h
  cases hb : Nat.beq s t with
  | true =>
   rw [hb] at h
   have := Nat.eq_of_beq_eq_true hb
   subst this
   simp only [Option.some.injEq] at h
   subst h
   exact List.mem_cons_self
  | false => rw [hb] at h; exact List.mem_cons_of_mem _ (gfind_mem h)
theorem gdel_mem {u : Nat} : ∀ {gs : GS} {x : Nat × Nat × Bool × Value}, x ∈ gdel gs u → x ∈ gs ∧ x.1 ≠ u ∧ x.2.1 ≠ u
 | [], _, h => by cases h
 | (s, g, r) :: gs, x, h => by
  simp only [gdel] at h
  cases h1 : Nat.beq s u with
  | true => rw [h1] at h; obtain ⟨h2, h3⟩ := gdel_mem h; exact ⟨List.mem_cons_of_mem _ h2, h3⟩
  | false =>
   rw [h1] at h
   cases h2 : Nat.beq g u with
   | true => rw [h2] at h; obtain ⟨h2, h3⟩ := gdel_mem h; exact ⟨List.mem_cons_of_mem _ h2, h3⟩
   | false =>
    rw [h2] at h
    cases h with
    | head => exact ⟨List.mem_cons_self, beq_false_ne h1, beq_false_ne h2⟩
    | tail _ h => obtain ⟨h2, h3⟩ := gdel_mem h; exact ⟨List.mem_cons_of_mem _ h2, h3⟩
theorem gdrop_mem {u : Nat} : ∀ {gs : GS} {x : Nat × Nat × Bool × Value}, x ∈ gdrop gs u → x ∈ gs
 | [], _, h => by cases h
 | (s, r) :: gs, x, h => by
  simp only [gdrop] at h
  cases h1 : Nat.beq s u with
  | true => rw [h1] at h; exact List.mem_cons_of_mem _ (gdrop_mem h)
  | false =>
   rw [h1] at h
   cases h with
   | head => exact List.mem_cons_self
   | tail _ h => exact List.mem_cons_of_mem _ (gdrop_mem h)
theorem upd_ne {ρ : Fr} {d t : Nat} {v : Value} (h : t ≠ d) : upd ρ d v t = ρ t := by
 unfold upd
 cases hb : Nat.beq t d with
 | true => exact absurd (Nat.eq_of_beq_eq_true hb) h
 | false => rfl
theorem upd_at {ρ : Fr} {d : Nat} {v : Value} : upd ρ d v d = v := by
 unfold upd
 rw [show Nat.beq d d = true by simp]
theorem Inv.del {gs : GS} {ρ : Fr} (hi : Inv gs ρ) (d : Nat) (v : Value) : Inv (gdel gs d) (upd ρ d v) := by
 intro t t' w x hm
 obtain ⟨h1, h2, h3⟩ := gdel_mem hm
 rw [upd_ne h2, upd_ne h3]
 exact hi _ _ _ _ h1
theorem Inv.delO {gs : GS} {ρ : Fr} (hi : Inv gs ρ) (d : Option Nat) (v : Value) : Inv (gdelO gs d) (putF ρ d v) := by
 cases d with
 | none => exact hi
 | some d => exact hi.del d v
theorem Inv.drop {gs : GS} {ρ : Fr} (hi : Inv gs ρ) (d : Nat) : Inv (gdrop gs d) ρ := fun _ _ _ _ hm => hi _ _ _ _ (gdrop_mem hm)
theorem Inv.add {gs : GS} {ρ : Fr} (hi : Inv gs ρ) {d t : Nat} {want : Bool} {v : Value} (hne : t ≠ d) {b : Bool} (hb : b = isB want (ρ t)) :
 Inv ((d, t, want, v) :: gdel gs d) (upd ρ d (gsel b v)) := by
 intro s s' w x hm
 cases hm with
 | head => rw [upd_at, upd_ne hne, hb]
 | tail _ hm => exact hi.del d _ _ _ _ _ hm
theorem isB_gsel (want : Bool) (b : Bool) (v : Value) : isB want (gsel b v) = (b && isB want v) := by
 cases b <;> rfl
theorem allB_snoc : ∀ (c : Ch) (t : Nat) (want : Bool) (v : Value), c ≠ [] → allB (c ++ [(t, want, v)]) = (allB c && isB want v)
 | [], _, _, _, h => absurd rfl h
 | [_], _, _, _, _ => rfl
 | (_, w, u) :: x :: c, t, want, v, _ => by
  have ih := allB_snoc (x :: c) t want v (by simp)
  show (isB w u && allB ((x :: c) ++ [(t, want, v)])) = _
  rw [ih]
  show _ = ((isB w u && allB (x :: c)) && isB want v)
  rw [Bool.and_assoc]
theorem chain_ne (gs : GS) (ρ : Fr) (f t : Nat) (want : Bool) : chain gs ρ f t want ≠ [] := by
 cases f with
 | zero => simp [chain]
 | succ f => unfold chain; split <;> simp
theorem chain_all {gs : GS} {ρ : Fr} (hi : Inv gs ρ) : ∀ (f t : Nat) (want : Bool), allB (chain gs ρ f t want) = isB want (ρ t)
 | 0, _, _ => rfl
 | f + 1, t, want => by
  unfold chain
  split
  ·rfl
  ·rename_i t' w' v hf
   rw [allB_snoc _ _ _ _ (chain_ne gs ρ f t' w'), chain_all hi f t' w', hi t t' w' v (gfind_mem hf), isB_gsel]
def Holds (ρ : Fr) (c : Ch) : Prop := ∀ u x, keyIn c u x = true → isB x (ρ u) = true
theorem keyIn_append : ∀ {c d : Ch} {u : Nat} {x : Bool}, keyIn (c ++ d) u x = true → keyIn c u x = true ∨ keyIn d u x = true
 | [], _, _, _, h => .inr h
 | (t, w, v) :: c, d, u, x, h => by
  have ih := @keyIn_append c d u x
  simp only [List.cons_append, keyIn] at h ⊢
  cases hb : Nat.beq t u <;> rw [hb] at h
  ·exact ih h
  ·cases w <;> cases x <;> first | exact .inl rfl | exact ih h
theorem keyIn_one {t u : Nat} {w x : Bool} {v : Value} (h : keyIn [(t, w, v)] u x = true) : t = u ∧ w = x := by
 simp only [keyIn] at h
 cases hb : Nat.beq t u <;> rw [hb] at h
 ·cases h
 ·refine ⟨Nat.eq_of_beq_eq_true hb, ?_⟩
  cases w <;> cases x <;> first | rfl | cases h
theorem chain_holds {gs : GS} {ρ : Fr} (hi : Inv gs ρ) : ∀ (f t : Nat) (want : Bool), isB want (ρ t) = true → Holds ρ (chain gs ρ f t want)
 | 0, t, want, h => fun u x hk => by obtain ⟨rfl, rfl⟩ := keyIn_one hk; exact h
 | f + 1, t, want, h => by
  unfold chain
  split
  ·intro u x hk; obtain ⟨rfl, rfl⟩ := keyIn_one hk; exact h
  ·rename_i t' w' v hf
   have hp := hi t t' w' v (gfind_mem hf)
   have h' := h
   rw [hp, isB_gsel, Bool.and_eq_true] at h'
   intro u x hk
   rcases keyIn_append hk with hk | hk
   ·exact chain_holds hi f t' w' h'.1 u x hk
   ·obtain ⟨rfl, rfl⟩ := keyIn_one hk; exact h
theorem ovr_eq {c : Ch} {gs : GS} {ρ : Fr} (hi : Inv gs ρ) (hh : Holds ρ c) : ovr c gs ρ = ρ := by
 funext t
 unfold ovr
 split
 ·rfl
 ·rename_i t' w' v hf
  split
  ·rename_i hk
   rw [hi t t' w' v (gfind_mem hf), hh t' w' hk]
   rfl
  ·rfl

theorem pickV_eq {b : Bool} {x y v : Value} (h : pickV b x y = some v) : v = if b then x else y := by
 unfold pickV at h
 split at h
 ·cases h; cases b <;> rfl
 ·split at h
  ·rename_i hk; have := of_decide_eq_true hk; subst this; cases h; cases b <;> rfl
  ·cases h
 ·cases h; cases b <;> rfl
 ·cases h
theorem pureOp_run {o : Oper} {c : Ch} {gs : GS} {ρ : Fr} {side : Option Prop} {v : Value} (hi : Inv gs ρ) (hh : Holds ρ c) (h : pureOp P o c gs ρ = some (side, v))
 (hs : ∀ p, side = some p → p) (w : World) : (execOp (rd ρ) o).run P w = .ok (.value v) w := by
 have he := ovr_eq hi hh
 unfold pureOp at h
 rw [he] at h
 split at h
 ·rename_i x hop
  simp only [Option.some.injEq, Prod.mk.injEq] at h
  simp only [execOp, hop]
  rw [h.2]
  rfl
 ·rename_i g x y hop
  split at h
  ·rename_i t
   split at h
   ·rename_i b hb
    split at h
    ·rename_i v' hp
     simp only [Option.some.injEq, Prod.mk.injEq] at h
     obtain ⟨_, rfl⟩ := h
     have hv := pickV_eq hp
     simp only [execOp, hop, rd, hb]
     have snoc : ∀ z, b = z → Holds ρ (c ++ [(t, z, .bool b)]) := by
      intro z hz u x hk
      rcases keyIn_append hk with hk | hk
      ·exact hh u x hk
      ·obtain ⟨rfl, rfl⟩ := keyIn_one hk; subst hz; rw [hb]; cases b <;> rfl
     cases b with
     | true => rw [ovr_eq hi (snoc true rfl)] at hv; rw [hv]; rfl
     | false => rw [ovr_eq hi (snoc false rfl)] at hv; rw [hv]; rfl
    ·cases h
   ·cases h
  ·cases h
 ·rename_i op xt x y _ hop
  split at h
  ·cases h
  split at h
  ·rename_i k a k' b hx hy
   split at h <;> try (cases h; done)
   split at h
   ·rename_i v' hp
    simp only [Option.some.injEq, Prod.mk.injEq] at h
    obtain ⟨_, rfl⟩ := h
    simp only [execOp, hop, hx, hy]
    exact run_bindv (pureRun_sound P _ _ hp w)
   ·cases h
  ·rename_i a b hx hy
   split at h <;> try (cases h; done)
   split at h
   ·rename_i v' hp
    simp only [Option.some.injEq, Prod.mk.injEq] at h
    obtain ⟨_, rfl⟩ := h
    simp only [execOp, hop, hx, hy]
    exact run_bindv (pureRun_sound P _ _ hp w)
   ·cases h
  ·cases h
 ·rename_i op _ x hop
  split at h
  ·rename_i v' hp
   simp only [Option.some.injEq, Prod.mk.injEq] at h
   obtain ⟨_, rfl⟩ := h
   simp only [execOp, hop]
   exact run_bindv (pureRun_sound P _ _ hp w)
  ·cases h
 ·rename_i xt x i hop
  split at h
  ·rename_i s k m hx hi'
   split at h
   ·rename_i hu
    simp only [Option.some.injEq, Prod.mk.injEq] at h
    obtain ⟨h1, rfl⟩ := h
    obtain ⟨h0, h1⟩ := hs _ h1.symm
    have hlt : m.toNat < s.size := by omega
    simp only [execOp, hop]
    refine run_bindv ?_
    unfold Instr.index asIntOf underlying
    simp only [hx, hi', Sem.run_bind, run_program, Result.andThen_ok]
    simp only [pure, Sem.run, Result.andThen_ok, h0, if_true, getElem?_pos s m.toNat hlt, hu]
    congr 2
    unfold bt
    have : s.data.size = s.size := rfl
    simp [Array.getD, this, hlt, ByteArray.getElem_eq_getElem_data]
   ·cases h
  ·cases h
 ·rename_i c' hop
  obtain ⟨callee, args, argTypes⟩ := c'
  split at h
  ·rename_i hcal
   dsimp only at hcal h
   subst hcal
   split at h
   ·rename_i t x ht hx
    split at h
    ·rename_i s hu hsx
     simp only [Option.some.injEq, Prod.mk.injEq] at h
     obtain ⟨_, rfl⟩ := h
     simp only [execOp, hop]
     refine run_bindv (s := Builtin.len_ argTypes o.type (args.map (rd ρ))) ?_
     simp [Builtin.len_, ht, hx, underlying, hu, hsx, goInt]
    ·rename_i e q m cc hu hsx
     simp only [Option.some.injEq, Prod.mk.injEq] at h
     obtain ⟨_, rfl⟩ := h
     simp only [execOp, hop]
     refine run_bindv (s := Builtin.len_ argTypes o.type (args.map (rd ρ))) ?_
     simp [Builtin.len_, ht, hx, underlying, hu, hsx, goInt]
    ·cases h
   ·cases h
  ·cases h
 ·cases h

theorem splitC_out {ρ : Fr} {yes no : Fr → GS → Prop} : ∀ (c : Ch) (gs : GS), Inv gs ρ → c ≠ [] →
 (∀ pre u x v post, c = pre ++ (u, x, v) :: post → allB pre = true → ρ u = v) →
 splitC c ρ gs yes no → ∃ gs', Inv gs' ρ ∧ (allB c = true ∧ yes ρ gs' ∨ allB c = false ∧ no ρ gs')
 | [], _, _, h, _, _ => absurd rfl h
 | (u, x, v) :: c, gs, hi, _, hv, h => by
  have hu : ρ u = v := hv [] u x v c rfl rfl
  unfold splitC at h
  cases v with
  | bool b =>
   have hup : ∀ z, b = z → upd ρ u (.bool z) = ρ := fun z hz => by subst hz; rw [← hu]; exact upd_same ρ u
   have hd := hi.drop u
   have stop : isB x (.bool b) = false → no ρ (gdrop gs u) → ∃ gs', Inv gs' ρ ∧ (allB ((u, x, Value.bool b) :: c) = true ∧ yes ρ gs' ∨ allB ((u, x, Value.bool b) :: c) = false ∧ no ρ gs') := by
    intro hx hn
    refine ⟨_, hd, .inr ⟨?_, hn⟩⟩
    cases c with
    | nil => exact hx
    | cons y c => show (isB x (.bool b) && allB (y :: c)) = false; rw [hx]; rfl
   have go : isB x (.bool b) = true → splitC c ρ (gdrop gs u) yes no → ∃ gs', Inv gs' ρ ∧ (allB ((u, x, Value.bool b) :: c) = true ∧ yes ρ gs' ∨ allB ((u, x, Value.bool b) :: c) = false ∧ no ρ gs') := by
    intro hx hn
    cases c with
    | nil => exact ⟨_, hd, .inl ⟨hx, hn⟩⟩
    | cons y c =>
     have hall : allB ((u, x, Value.bool b) :: y :: c) = allB (y :: c) := by show (isB x (.bool b) && allB (y :: c)) = _; rw [hx]; rfl
     obtain ⟨gs', h1, h2⟩ := splitC_out (y :: c) (gdrop gs u) hd (by simp)
      (fun pre u' x' v' post he hp => by
       refine hv ((u, x, .bool b) :: pre) u' x' v' post (by rw [he]; rfl) ?_
       cases pre with
       | nil => exact hx
       | cons z pre => show (isB x (.bool b) && allB (z :: pre)) = true; rw [hx, hp]; rfl) hn
     rw [hall]
     exact ⟨gs', h1, h2⟩
   cases b with
   | true => cases x with
    | true => simp only [hup true rfl] at h; exact go rfl h
    | false => simp only [hup true rfl] at h; exact stop rfl h
   | false => cases x with
    | true => simp only [hup false rfl] at h; exact stop rfl h
    | false => simp only [hup false rfl] at h; exact go rfl h
  | tuple vs =>
   refine ⟨_, hi.drop u, .inr ⟨?_, h⟩⟩
   cases c with
   | nil => rfl
   | cons y c => rfl
  | _ => exact h.elim

theorem wanted_eq {o : Oper} {ops : Array Oper} {tmps : Array Value} {j t : Nat} {want : Bool} (hg : o.guard = some (j, want))
 (ht : (ops.toList[j]?).bind (·.dst) = some t) : Region.wanted o (yielded ops tmps) = isB want (tmps.getD t undef) := by
 have h' : (ops[j]?).bind (·.dst) = some t := by simpa using ht
 simp only [Region.wanted, hg]
 unfold yielded
 rw [h', Array.getD_eq_getD_getElem?]
 simp only [Option.bind_some]
 cases tmps[t]? with
 | none => rfl
 | some v => cases v <;> first | rfl | (rename_i b; cases b <;> cases want <;> rfl)

theorem chain_vals {gs : GS} {ρ : Fr} (hi : Inv gs ρ) : ∀ (f t : Nat) (want : Bool), ∀ pre u x v post, chain gs ρ f t want = pre ++ (u, x, v) :: post → allB pre = true → ρ u = v
 | 0, t, want, pre, u, x, v, post, he, _ => by
  cases pre with
  | nil => simp only [chain, List.nil_append, List.cons.injEq, Prod.mk.injEq] at he; rw [← he.1.1]; exact he.1.2.2
  | cons y pre => simp [chain] at he
 | f + 1, t, want, pre, u, x, v, post, he, hp => by
  unfold chain at he
  split at he
  ·cases pre with
   | nil => simp only [List.nil_append, List.cons.injEq, Prod.mk.injEq] at he; rw [← he.1.1]; exact he.1.2.2
   | cons y pre => simp at he
  ·rename_i t' w' v' hf
   rcases List.eq_nil_or_concat post with hpost | ⟨post', z, hpost⟩
   ·subst hpost
    have h2 : chain gs ρ f t' w' = pre ∧ (t, want, v') = (u, x, v) := by
     have := List.append_inj' he rfl
     simpa using this
    obtain ⟨h3, h4⟩ := h2
    cases h4
    have h5 := chain_all hi f t' w'
    rw [h3, hp] at h5
    rw [hi t t' w' v (gfind_mem hf), ← h5]
    rfl
   ·subst hpost
    have h2 : chain gs ρ f t' w' = pre ++ (u, x, v) :: post' := by
     have : chain gs ρ f t' w' ++ [(t, want, v')] = (pre ++ (u, x, v) :: post') ++ [z] := by rw [he]; simp
     exact (List.append_inj' this rfl).1
    exact chain_vals hi f t' w' pre u x v post' h2 hp

theorem opsV_sound {n : Nat} {ops : Array Oper} {Q : PostF} : ∀ (l : List Oper) {gs : GS} {a : Act} {ρ : Fr} {w : World}, RelF n a ρ → Inv gs ρ →
 opsV P n ops.toList l (Q .normal) gs ρ w → wpList P ops (liftQ n Q) l a w
 | [], _, a, ρ, w, hr, _, h => ⟨ρ, hr, h⟩
 | o :: rest, gs, a, ρ, w, hr, hi, h => by
  have ih := @opsV_sound n ops Q rest
  unfold opsV at h
  split at h
  ·exact h.elim
  ·rename_i hd
   have hd' : ∀ k, o.dst = some k → k < n := fun k hk => by rw [hk] at hd; simpa [dstOk, Nat.blt_eq] using hd
   have he : a.eval = rd ρ := funext hr.eval
   have yes : ∀ (gs' : GS), Inv gs' ρ → Region.wanted o (yielded ops a.tmps) = true →
    opV P o ρ (fun v w' => opsV P n ops.toList rest (Q .normal) gs' (putF ρ o.dst v) w') w → (∀ v, Inv gs' (putF ρ o.dst v)) → wpList P ops (liftQ n Q) (o :: rest) a w := by
    intro gs' _ hw hv hinv
    unfold wpList
    rw [if_pos hw]
    refine .inl (Oper.wp_mono (fun a' w' ⟨v, ha, hk⟩ => ?_) (opV_sound hr hv))
    subst ha
    exact ih (hr.put o.dst v hd') (hinv v) hk
   have val : ∀ (gs' : GS) (v : Value), Inv gs' (putF ρ o.dst v) → Region.wanted o (yielded ops a.tmps) = true → (execOp (rd ρ) o).run P w = .ok (.value v) w →
    opsV P n ops.toList rest (Q .normal) gs' (putF ρ o.dst v) w → wpList P ops (liftQ n Q) (o :: rest) a w := by
    intro gs' v hinv hw hrun hv
    unfold wpList
    rw [if_pos hw]
    refine .inl ?_
    unfold Oper.wp
    rw [he, hrun]
    exact ih (hr.put o.dst v hd') hinv hv
   have no : ∀ (gs' : GS), Inv gs' (putF ρ o.dst undef) → Region.wanted o (yielded ops a.tmps) = false →
    opsV P n ops.toList rest (Q .normal) gs' (putF ρ o.dst undef) w → wpList P ops (liftQ n Q) (o :: rest) a w := by
    intro gs' hinv hw hv
    unfold wpList
    rw [if_neg (by simp [hw])]
    exact ih (hr.put o.dst undef hd') hinv hv
   split at h
   ·rename_i hg
    have hw : Region.wanted o (yielded ops a.tmps) = true := by simp [Region.wanted, hg]
    split at h
    ·exact yes _ (by cases o.dst <;> first | exact hi | exact fun _ _ _ _ hm => hi _ _ _ _ (gdel_mem hm).1) hw h (fun v => hi.delO o.dst v)
    ·split at h
     ·rename_i v hp
      exact val _ v (hi.delO o.dst v) hw (pureOp_run hi (fun _ _ hk => by cases hk) hp (fun _ hs => by cases hs) w) h
     ·exact yes _ (by cases o.dst <;> first | exact hi | exact fun _ _ _ _ hm => hi _ _ _ _ (gdel_mem hm).1) hw h (fun v => hi.delO o.dst v)
   ·rename_i j want hg
    split at h
    ·rename_i t d ht hdst
     have hw : Region.wanted o (yielded ops a.tmps) = isB want (ρ t) := by rw [wanted_eq hg ht, hr.get]
     have hall := chain_all hi 9 t want
     have hvals := chain_vals hi 9 t want
     have hne := chain_ne gs ρ 9 t want
     split at h
     ·exact h.elim
     ·rename_i htd
      have htd := beq_false_ne htd
      have pur : ∀ (side : Option Prop) (v : Value), pureOp P o (chain gs ρ 9 t want) gs ρ = some (side, v) → (∀ p, side = some p → allB (chain gs ρ 9 t want) = true → p) →
       opsV P n ops.toList rest (Q .normal) ((d, t, want, v) :: gdel gs d) (upd ρ d (gsel (allB (chain gs ρ 9 t want)) v)) w → wpList P ops (liftQ n Q) (o :: rest) a w := by
       intro side v hp hside h
       have hadd := hi.add (d := d) (v := v) htd hall
       cases hb : isB want (ρ t) with
       | true =>
        rw [hall, hb] at h hadd
        refine val ((d, t, want, v) :: gdel gs d) v ?_ (by rw [hw, hb]) (pureOp_run hi (chain_holds hi 9 t want hb) hp (fun p hp' => hside p hp' (by rw [hall, hb])) w) ?_
        ·rw [hdst]; exact hadd
        ·rw [hdst]; exact h
       | false =>
        rw [hall, hb] at h hadd
        refine no ((d, t, want, v) :: gdel gs d) ?_ (by rw [hw, hb]) ?_
        ·rw [hdst]; exact hadd
        ·rw [hdst]; exact h
      split at h
      ·rename_i v hp
       exact pur none v hp (fun p hp' => by cases hp') h
      ·rename_i side v hp
       exact pur (some side) v hp (fun p hp' => by cases hp'; exact h.1) h.2
      ·obtain ⟨gs', hi', h | h⟩ := splitC_out _ gs hi hne hvals h
       ·obtain ⟨hb, h⟩ := h
        rw [hall] at hb
        rw [ovr_eq hi' (chain_holds hi 9 t want hb)] at h
        refine yes (gdel gs' d) (fun _ _ _ _ hm => hi' _ _ _ _ (gdel_mem hm).1) (by rw [hw, hb]) ?_ (fun v => by rw [hdst]; exact hi'.del d v)
        rw [hdst]
        exact h
       ·obtain ⟨hb, h⟩ := h
        rw [hall] at hb
        exact no (gdel gs' d) (by rw [hdst]; exact hi'.del d undef) (by rw [hw, hb]) (by rw [hdst]; exact h)
    ·rename_i t ht hdst
     have hw : Region.wanted o (yielded ops a.tmps) = isB want (ρ t) := by rw [wanted_eq hg ht, hr.get]
     have hall := chain_all hi 9 t want
     obtain ⟨gs', hi', h | h⟩ := splitC_out _ gs hi (chain_ne gs ρ 9 t want) (chain_vals hi 9 t want) h
     ·obtain ⟨hb, h⟩ := h
      rw [hall] at hb
      rw [ovr_eq hi' (chain_holds hi 9 t want hb)] at h
      refine yes gs' hi' (by rw [hw, hb]) ?_ (fun v => by rw [hdst]; exact hi')
      rw [hdst]
      exact h
     ·obtain ⟨hb, h⟩ := h
      rw [hall] at hb
      exact no gs' (by rw [hdst]; exact hi') (by rw [hw, hb]) (by rw [hdst]; exact h)
    ·exact h.elim

theorem liftQ_then {n : Nat} {K : Fr → World → Prop} {Q : PostF} {y : Code} (hk : ∀ ρ w, K ρ w → WpF P n y Q ρ w) (e : Exit) (a : Act) (w : World)
 (h : liftQ n (thenF K Q) e a w) : Exit.then (y.wp P (liftQ n Q)) (liftQ n Q) e a w := by
 obtain ⟨ρ, hr, h⟩ := h
 cases e <;> first | exact hk _ _ h _ hr | exact ⟨ρ, hr, h⟩

theorem WpF.seq {n : Nat} {x y : Code} {K : Fr → World → Prop} {Q : PostF} {ρ : Fr} {w : World} (h : WpF P n x (thenF K Q) ρ w)
 (hk : ∀ ρ w, K ρ w → WpF P n y Q ρ w) : WpF P n (.seq x y) Q ρ w :=
 fun a hr => wp_seq (Code.wp_mono (liftQ_then hk) (h a hr))
theorem WpF.block {n id : Nat} {x : Code} {Q : PostF} {ρ : Fr} {w : World} (h : WpF P n x (blockF id Q) ρ w) : WpF P n (.block id x) Q ρ w := by
 refine fun a hr => wp_block (Code.wp_mono (fun e a w h => ?_) (h a hr))
 obtain ⟨ρ, hr, h⟩ := h
 cases e <;> try exact ⟨ρ, hr, h⟩
 rename_i id'
 simp only [blockF] at h
 simp only [Exit.inBlock]
 split at h
 ·rename_i hb; rw [if_pos (Nat.eq_of_beq_eq_true hb)]; exact ⟨ρ, hr, h⟩
 ·rename_i hb
  rw [if_neg (fun hc => by subst hc; simp at hb)]
  exact ⟨ρ, hr, h⟩
theorem WpF.cond {n t : Nat} {x y : Code} {Q : PostF} {ρ : Fr} {w : World} {b : Bool} (hb : ρ t = .bool b)
 (h : match b with | true => WpF P n x Q (upd ρ t (.bool true)) w | false => WpF P n y Q (upd ρ t (.bool false)) w) : WpF P n (.cond (.tmp t) x y) Q ρ w := by
 have hup : upd ρ t (.bool b) = ρ := by rw [← hb]; exact upd_same ρ t
 intro a hr
 have he : a.eval (.tmp t) = .bool b := by rw [hr.eval]; exact hb
 cases b with
 | true => exact wp_cond_true he (h a (by rw [hup]; exact hr))
 | false => exact wp_cond_false he (h a (by rw [hup]; exact hr))

theorem WpF.scope {n : Nat} {x : Code} {Q : PostF} {ρ : Fr} {w : World} (h : WpF P n x (noGotoF Q) ρ w) : WpF P n (.scope x) Q ρ w := by
 refine fun a hr => wp_scope_straight (Code.wp_mono (fun e a w h => ?_) (h a hr))
 obtain ⟨ρ, hr, h⟩ := h
 cases e <;> first | exact ⟨ρ, hr, h⟩ | exact h.elim

theorem vcC_sound {n : Nat} : ∀ (c : Code) {Q : PostF} {ρ : Fr} {w : World}, vcC P n c Q ρ w → WpF P n c Q ρ w := by
 intro c
 induction c with
 | skip => exact fun h a hr => wp_skip ⟨_, hr, h⟩
 | region id ops draw =>
  intro Q ρ w h
  unfold vcC at h
  cases draw with
  | true => exact h.elim
  | false => exact fun a hr => wp_region_list (opsV_sound _ hr (fun _ _ _ _ hm => by cases hm) h)
 | seq x y ihx ihy => exact fun h => WpF.seq (ihx h) (fun ρ w hk => ihy hk)
 | cond c x y ihx ihy =>
  intro Q ρ w h
  unfold vcC at h
  split at h
  ·split at h
   ·rename_i t b hb
    refine WpF.cond hb ?_
    cases b with
    | true => exact ihx h
    | false => exact ihy h
   ·exact h.elim
  ·rename_i b
   intro a hr
   cases b with
   | true => exact wp_cond_true rfl (ihx h a hr)
   | false => exact wp_cond_false rfl (ihy h a hr)
  ·exact h.elim
 | block id x ih => exact fun h => WpF.block (ih h)
 | exit id => exact fun h a hr => wp_exit ⟨_, hr, h⟩
 | ret => exact fun h a hr => wp_ret ⟨_, hr, h⟩
 | label l => exact fun h a hr => wp_label ⟨_, hr, h⟩
 | goto l => exact fun h a hr => wp_goto ⟨_, hr, h⟩
 | scope x ih => exact fun h => WpF.scope (ih h)
 | _ => exact fun h => by unfold vcC at h; exact h.elim

def LoopF (P : Program) (n : Nat) (c : Code) (Q : PostF) (ρ : Fr) (w : World) : Prop :=
 ∀ a, RelF n a ρ → ∀ (b : Frame) (k : List Item) (cs : List Frame),
  ∃ e a' w', liftQ n Q e a' w' ∧ Arrives P (lone (b.at a (.code c :: .inLoop c :: k)) cs w) b k cs e a' w'
theorem LoopF.wp {n : Nat} {c : Code} {Q : PostF} {ρ : Fr} {w : World} (h : LoopF P n c Q ρ w) : WpF P n (.loop c) Q ρ w := by
 intro a hr b k cs
 obtain ⟨e, a', w', hq, harr⟩ := h a hr b k cs
 exact ⟨e, a', w', hq, .of_steps (.one step_loop) harr⟩
theorem LoopF.unfold {n : Nat} {c : Code} {Q : PostF} {ρ : Fr} {w : World} (h : WpF P n c (thenF (LoopF P n c Q) Q) ρ w) : LoopF P n c Q ρ w := by
 intro a hr b k cs
 obtain ⟨e, a₁, w₁, ⟨ρ₁, hr₁, hq⟩, harr⟩ := h a hr b (.inLoop c :: k) cs
 cases e with
 | normal =>
  obtain ⟨e₂, a₂, w₂, hq₂, harr₂⟩ := hq a₁ hr₁ b k cs
  exact ⟨e₂, a₂, w₂, hq₂, .of_steps (Steps.trans harr (.one step_inLoop)) harr₂⟩
 | exit id => exact ⟨_, a₁, w₁, ⟨ρ₁, hr₁, hq⟩, .pass (x := .inLoop c) rfl (fun _ _ => .inl (by simp)) harr⟩
 | goto l => exact ⟨_, a₁, w₁, ⟨ρ₁, hr₁, hq⟩, .pass (x := .inLoop c) rfl (fun _ _ => .inl (by simp)) harr⟩
 | ret => exact ⟨_, a₁, w₁, ⟨ρ₁, hr₁, hq⟩, .pass (x := .inLoop c) rfl (fun _ _ => .inl (by simp)) harr⟩
 | panic ch => exact ⟨_, a₁, w₁, ⟨ρ₁, hr₁, hq⟩, .pass (x := .inLoop c) rfl (fun _ _ => .inl (by simp)) harr⟩
 | outgrown => exact ⟨_, a₁, w₁, ⟨ρ₁, hr₁, hq⟩, .pass (x := .inLoop c) rfl (fun _ _ => .inl (by simp)) harr⟩
theorem WpF.mono {n : Nat} {c : Code} {Q Q' : PostF} {ρ : Fr} {w : World} (h : WpF P n c Q ρ w) (hq : ∀ e ρ w, Q e ρ w → Q' e ρ w) : WpF P n c Q' ρ w :=
 fun a hr => Code.wp_mono (fun _ _ _ ⟨ρ, hr, h⟩ => ⟨ρ, hr, hq _ _ _ h⟩) (h a hr)

end Go.Proofs.YtgbgadkldalkbaaGreatDoor


namespace Go.Proofs.YtgbgadkldalkbaaGreatDoor
variable {P : Program}

def semP (P : Program) (s : Sem Value) (ty : Ty) (K : Value → Prop) : Prop := ty.ex fun v => (∀ w, s.run P w = .ok v w) ∧ K v
def valV (P : Program) (o : Oper) (ρ : Fr) (K : Value → Prop) : Prop :=
 match o.op with
 | .move x | .assign x => K (rd ρ x)
 | .pick c x y => match rd ρ c with
  | .bool b => match b with
   | true => K (rd ρ x)
   | false => K (rd ρ y)
  | _ => False
 | .binOp op xt x y _ => match plainB P xt with
  | false => semP P (do eqGuard op xt x y (rd ρ x) (rd ρ y); binOp op xt (rd ρ x) (rd ρ y)) (.c (.s .bool)) K
  | true => match rd ρ x, rd ρ y with
   | .string a, .string b => match op with
    | .add => ((a.size + b.size : Nat) : Int) ≤ IntKind.i64.max ∧ K (.string (a ++ b))
    | _ => pureV P (do eqGuard op xt x y (.string a) (.string b); binOp op xt (.string a) (.string b)) K
   | .int k a, .int k' b => match op with
    | .quo => b ≠ 0 ∧ match decide (k = k') with
     | true => K (.int k (k.wrap (a.tdiv b)))
     | false => False
    | .rem => b ≠ 0 ∧ match decide (k = k') with
     | true => K (.int k (a.tmod b))
     | false => False
    | _ => pureV P (do eqGuard op xt x y (.int k a) (.int k' b); binOp op xt (.int k a) (.int k' b)) K
   | x', y' => pureV P (do eqGuard op xt x y x' y'; binOp op xt x' y') K
 | .unOp op _ x => pureV P (Op.unary op (rd ρ x)) K
 | .nilCheck x => nilV (rd ρ x) K
 | .fieldAddr s x f => match rd ρ x with
  | .pointer (some a) => match P.underlying s with
   | some (.struct fs) => match fs[f]? with
    | some fd => match P.info? fd.type with
     | some i => match i.size with
      | 0 => False
      | _ + 1 => K (.pointer (some (a.add fd.offset)))
     | none => False
    | none => False
   | _ => False
  | _ => False
 | .field xt x f => pureV P (Instr.field xt (rd ρ x) f) K
 | .build t parts => match P.underlying t, P.info? t with
  | some (.struct fs), some inf => match inf.zero with
   | some (.agg zs) => match fs.toList.all fun f => (P.info? f.type).isSome with
    | true => buildS P fs (parts.toList.map fun (i, x) => (i, rd ρ x)) zs.toList fun cs => K (.agg cs.toArray)
    | false => False
   | _ => False
  | _, _ => pureV P (Instr.build t (parts.map fun (i, x) => (i, rd ρ x))) K
 | .makeInterface t x => pureV P (Instr.makeInterface t (rd ρ x)) K
 | .makeFunc fn first captured => K (.func fn (first.map (rd ρ)) (captured.map (rd ρ)))
 | .extract x i => match rd ρ x with
  | .tuple vs => match vs[i]? with
   | some v => K v
   | none => False
  | _ => False
 | .index xt x i => match rd ρ x, rd ρ i with
  | .string s, .int _ n => match P.underlying xt with
   | some .string => 0 ≤ n ∧ n < s.size ∧ K (.int .u8 (bt s n))
   | _ => False
  | _, _ => False
 | .indexAddr t x i => match rd ρ x, rd ρ i with
  | .slice q len _, .int _ n => match P.underlying t with
   | some (.slice e) => match P.info? e with
    | some inf => 0 ≤ n ∧ n < len ∧ nilP q fun a => K (.pointer (some (a.add (n.toNat * inf.size))))
    | none => False
   | _ => False
  | .pointer (some ad), .int _ n => match P.underlying t with
   | some (.array len e) => match P.info? e with
    | some inf => 0 ≤ n ∧ n < (len : Int) ∧ K (.pointer (some (ad.add (n.toNat * inf.size))))
    | none => False
   | _ => False
  | _, _ => False
 | .slice t x lo hi mx => match rd ρ x with
  | .string s => match P.underlying t, mx with
   | some .string, none => sliceStr s (lo.map (rd ρ)) (hi.map (rd ρ)) K
   | _, _ => False
  | x' => semP P (Instr.sliceAt t x' (lo.map (rd ρ)) (hi.map (rd ρ)) (mx.map (rd ρ))) (.c (.s .slice)) K
 | .convert src dst x => match rd ρ x with
  | .int _ n => match P.underlying src, P.underlying dst with
   | some (.int _), some (.int k) => K (.int k (k.wrap n))
   | some (.int _), some .string => K (.string (Utf8.encode n))
   | _, _ => False
  | .string s => match P.underlying src, P.underlying dst with
   | some .string, some .string => K (.string s)
   | _, _ => False
  | _ => False
 | .typeAssert x xt asserted ok => semP P (Instr.typeAssert (rd ρ x) xt asserted ok) (okTy (ctyOf P asserted) ok) K
 | .call c => match c.callee with
  | .builtin .len => match c.argTypes[0]?, c.args[0]? with
   | some t, some x => match P.underlying t, rd ρ x with
    | some .string, .string s => K (.int .i64 s.size)
    | some (.slice _), .slice _ n _ => K (.int .i64 n)
    | _, _ => False
   | _, _ => False
  | _ => False
 | _ => False

theorem semP_out {s : Sem Value} {ty : Ty} {K : Value → Prop} (h : semP P s ty K) : ∃ v, K v ∧ ∀ w, s.run P w = .ok v w := by
 obtain ⟨v, hr, hk⟩ := Ty.ex_out h
 exact ⟨v, hk, hr⟩
theorem valV_out {o : Oper} {ρ : Fr} {K : Value → Prop} (h : valV P o ρ K) : ∃ v, K v ∧ ∀ w, (execOp (rd ρ) o).run P w = .ok (.value v) w := by
 have bind : ∀ {s : Sem Value} {e : Sem Next}, e = (s >>= fun v => pure (.value v)) → (∃ v, K v ∧ ∀ w, s.run P w = .ok v w) → ∃ v, K v ∧ ∀ w, e.run P w = .ok (.value v) w := by
  intro s e he ⟨v, hk, hr⟩
  subst he
  exact ⟨v, hk, fun w => run_bindv (hr w)⟩
 unfold valV at h
 split at h <;> rename_i hop <;> simp only [execOp, hop]
 case h_1 => exact ⟨_, h, fun _ => rfl⟩
 case h_2 => exact ⟨_, h, fun _ => rfl⟩
 case h_3 =>
  split at h
  ·rename_i b hb
   split at h <;> (rw [hb]; exact ⟨_, h, fun _ => rfl⟩)
  ·exact h.elim
 case h_4 =>
  rename_i op xt x y yt
  refine bind rfl ?_
  split at h
  ·exact semP_out h
  ·split at h
   ·rename_i a b ha hb
    split at h
    ·obtain ⟨hs, h⟩ := h
     refine ⟨_, h, fun w => ?_⟩
     have : ¬ ((a.size + b.size : Nat) : Int) > IntKind.i64.max := by omega
     rw [ha, hb]
     show (binOp .add xt (.string a) (.string b)).run P w = _
     simp only [binOp, Op.stringOp, if_neg this]
     rfl
    ·rw [ha, hb]; exact pureV_out h
   ·rename_i k a k' b ha hb
    split at h
    ·obtain ⟨hn, h⟩ := h
     split at h
     ·rename_i hk
      have hk := of_decide_eq_true hk
      subst hk
      refine ⟨_, h, fun w => ?_⟩
      rw [ha, hb]
      show (binOp .quo xt (.int k a) (.int k b)).run P w = _
      simp [binOp, Op.intDiv, hn]
     ·exact h.elim
    ·obtain ⟨hn, h⟩ := h
     split at h
     ·rename_i hk
      have hk := of_decide_eq_true hk
      subst hk
      refine ⟨_, h, fun w => ?_⟩
      rw [ha, hb]
      show (binOp .rem xt (.int k a) (.int k b)).run P w = _
      simp [binOp, Op.intDiv, hn]
     ·exact h.elim
    ·rw [ha, hb]; exact pureV_out h
   ·exact pureV_out h
 case h_5 => exact bind rfl (pureV_out h)
 case h_6 =>
  unfold nilV at h
  split at h
  ·rename_i q hq
   unfold nilP at h
   split at h
   ·rw [hq]; exact ⟨_, h, fun _ => rfl⟩
   ·exact h.elim
  ·rename_i v hv
   obtain ⟨hn, hk⟩ := h
   cases hx : rd ρ _ <;> rw [hx] at hn hk <;> try exact hn.elim
   ·rename_i fn first captured
    cases fn <;> try exact hn.elim
    exact ⟨_, hk, fun _ => rfl⟩
   ·exact ⟨_, hk, fun _ => rfl⟩
 case h_7 =>
  split at h
  ·rename_i ad had
   split at h
   ·rename_i fs hu
    split at h
    ·rename_i fd hf
     split at h
     ·rename_i i hi
      split at h
      ·exact h.elim
      ·rename_i m hm
       refine bind rfl ⟨_, h, fun w => ?_⟩
       rw [had]
       unfold Instr.fieldAt underlying fieldPlace sizeOf typeInfo
       simp only [Sem.run_bind, run_program, Result.andThen_ok, hu]
       simp only [pure, Sem.run, Result.andThen_ok, hf, Instr.sureAddr, hm, Nat.add_one_ne_zero, if_false, Sem.run_bind, run_program, hi]
     ·exact h.elim
    ·exact h.elim
   ·exact h.elim
  ·exact h.elim
 case h_8 => exact bind rfl (pureV_out h)
 case h_9 =>
  split at h
  ·rename_i fs inf hu hinf
   rename_i parts _ _
   split at h
   ·rename_i zs hz
    split at h
    ·rename_i hall
     have hp : ∀ (i : Nat) (f : Field) (inf : TypeInfo), fs[i]? = some f → P.info? f.type = some inf →
      ((fs.toList.map fun f => (f.offset, ((P.info? f.type).map (·.size)).getD 0)).toArray)[i]? = some (f.offset, inf.size) := by
      intro i f inf' hf hi
      simp [hf, hi]
     obtain ⟨cs', hk, hfill⟩ := buildS_out hp h
     refine bind rfl ⟨_, hk, fun w => ?_⟩
     unfold Instr.build zeroValue typeInfo underlying
     simp only [Sem.run_bind, run_program, Result.andThen_ok, hinf, hu]
     rw [show (pure inf : Sem TypeInfo).run P w = .ok inf w from rfl]
     simp only [Result.andThen_ok, hz]
     rw [show (pure (Value.agg zs) : Sem Value).run P w = .ok (.agg zs) w from rfl]
     simp only [Result.andThen_ok]
     rw [show (pure (TypeDesc.struct fs) : Sem TypeDesc).run P w = .ok (.struct fs) w from rfl]
     simp only [Result.andThen_ok, Sem.run_bind]
     rw [Array.mapM_eq_mapM_toList, map_eq_pure_bind, Sem.run_bind, places_run _ hall]
     simp only [Result.andThen_ok]
     rw [show ∀ x : List (Nat × Nat), (pure x.toArray : Sem (Array (Nat × Nat))).run P w = .ok x.toArray w from fun _ => rfl]
     simp only [Result.andThen_ok, Value.cells]
     have hps : (parts.map fun (i, x) => (i, rd ρ x)).toList = parts.toList.map fun (i, x) => (i, rd ρ x) := by simp
     rw [hps, hfill]
     simp
    ·exact h.elim
   ·exact h.elim
  ·exact bind rfl (pureV_out h)
 case h_10 => exact bind rfl (pureV_out h)
 case h_11 => exact ⟨_, h, fun _ => rfl⟩
 case h_12 =>
  split at h
  ·rename_i vs hv
   split at h
   ·rename_i v hi
    exact bind rfl ⟨_, h, fun w => by simp [hv, Instr.extract, hi]⟩
   ·exact h.elim
  ·exact h.elim
 case h_13 =>
  split at h
  ·rename_i s k m hs hi
   split at h
   ·rename_i hu
    obtain ⟨h0, h1, hk⟩ := h
    refine bind rfl ⟨_, hk, fun w => ?_⟩
    have hlt : m.toNat < s.size := by omega
    unfold Instr.index asIntOf underlying
    simp only [hs, hi, Sem.run_bind, run_program, Result.andThen_ok]
    simp only [pure, Sem.run, Result.andThen_ok, h0, if_true, getElem?_pos s m.toNat hlt, hu]
    congr 2
    unfold bt
    have : s.data.size = s.size := rfl
    simp [Array.getD, this, hlt, ByteArray.getElem_eq_getElem_data]
   ·exact h.elim
  ·exact h.elim
 case h_14 =>
  split at h
  ·rename_i q len c k m hs hi
   split at h
   ·rename_i e hu
    split at h
    ·rename_i inf hin
     obtain ⟨h0, h1, hk⟩ := h
     unfold nilP at hk
     split at hk
     ·rename_i ad
      refine bind rfl ⟨_, hk, fun w => ?_⟩
      unfold Instr.indexAt asIntOf underlying sizeOf typeInfo
      simp only [hs, hi, Sem.run_bind, run_program, Result.andThen_ok]
      simp only [pure, Sem.run, Result.andThen_ok, h0, h1, and_self, if_true, Sem.run_bind, run_program, hin, hu]
     ·exact hk.elim
    ·exact h.elim
   ·exact h.elim
  ·rename_i ad k m hs hi
   split at h
   ·rename_i len e hu
    split at h
    ·rename_i inf hin
     obtain ⟨h0, h1, hk⟩ := h
     refine bind rfl ⟨_, hk, fun w => ?_⟩
     unfold Instr.indexAt asIntOf underlying sizeOf typeInfo
     simp only [hs, hi, Sem.run_bind, run_program, Result.andThen_ok]
     simp only [pure, Sem.run, Result.andThen_ok, h0, h1, and_self, if_true, Sem.run_bind, run_program, hin, hu, Instr.sureAddr]
    ·exact h.elim
   ·exact h.elim
  ·exact h.elim
 case h_15 =>
  split at h
  ·rename_i s hs
   split at h
   ·rename_i hu
    rw [hs]
    refine bind rfl ?_
    exact sliceStr_all hu h
   ·exact h.elim
  ·exact bind rfl (semP_out h)
 case h_16 =>
  split at h
  ·rename_i k m hx
   split at h
   ·rename_i k1 k2 h1 h2
    exact bind rfl ⟨_, h, fun w => by simp [hx, convert, underlying, h1, h2, Conv.intToInt]⟩
   ·rename_i k1 h1 h2
    exact bind rfl ⟨_, h, fun w => by simp [hx, convert, underlying, h1, h2, Conv.intToString]⟩
   ·exact h.elim
  ·rename_i m hx
   split at h
   ·rename_i h1 h2
    exact bind rfl ⟨_, h, fun w => by simp [hx, convert, underlying, h1, h2]⟩
   ·exact h.elim
  ·exact h.elim
 case h_17 => exact bind rfl (semP_out h)
 case h_18 =>
  rename_i c
  obtain ⟨callee, args, argTypes⟩ := c
  split at h
  ·rename_i hcal
   dsimp only at hcal h
   subst hcal
   split at h
   ·rename_i t x ht hx
    split at h
    ·rename_i s hu hs
     exact bind (s := Builtin.len_ argTypes o.type (args.map (rd ρ))) rfl ⟨_, h, fun w => by simp [Builtin.len_, ht, hx, underlying, hu, hs, goInt]⟩
    ·rename_i e q m cc hu hs
     exact bind (s := Builtin.len_ argTypes o.type (args.map (rd ρ))) rfl ⟨_, h, fun w => by simp [Builtin.len_, ht, hx, underlying, hu, hs, goInt]⟩
    ·exact h.elim
   ·exact h.elim
  ·exact h.elim
 case h_19 => exact h.elim

def SameC (w w' : World) (a : Addr) (n : Nat) : Prop := ∀ k, k < n → w'.cell? (a.add k) = w.cell? (a.add k)
theorem SameC.trans {w w' w'' : World} {a : Addr} {n : Nat} (h : SameC w w' a n) (h' : SameC w' w'' a n) : SameC w w'' a n :=
 fun k hk => (h' k hk).trans (h k hk)
theorem add_zero (a : Addr) : a.add 0 = a := rfl

theorem ldS_all : ∀ {ts : List STy} {w : World} {a : Addr} {i : Nat} {K : List Value → Prop}, ldS w ts a i K →
 ∃ vs, K vs ∧ vs.length = ts.length ∧ ∀ w', (∀ k, k < i + ts.length → w'.cell? (a.add k) = w.cell? (a.add k)) → ∀ (acc : Array Value), (loadCellsFrom a i ts.length acc).run P w' = .ok (acc ++ vs.toArray) w'
 | [], _, _, _, _, h => ⟨[], h, rfl, fun w' _ acc => by simp [loadCellsFrom]⟩
 | t :: ts, w, a, i, K, h => by
  obtain ⟨v, hc, h⟩ := STy.ex_out h
  obtain ⟨vs, hk, hl, hr⟩ := ldS_all h
  refine ⟨v :: vs, hk, by simp [hl], fun w' hw acc => ?_⟩
  have h0 : w'.cell? (a.add i) = some v := by rw [hw i (by simp only [List.length_cons]; omega)]; exact hc
  simp only [List.length_cons, loadCellsFrom, Sem.run_bind, run_load, h0, Result.andThen]
  rw [hr w' (fun k hk => hw k (by simp only [List.length_cons]; omega))]
  simp

theorem loadV_all {t : TypeId} {a : Addr} {w : World} {K : Value → Prop} {i : TypeInfo} (hi : P.info? t = some i) (h1 : 0 < i.size) (h : loadV P t a w K) :
 ∃ v, K v ∧ ∀ w', SameC w w' a i.size → (loadVar t a).run P w' = .ok v w' := by
 unfold loadV at h
 rw [hi] at h
 split at h
 ·rename_i i' d hi' hu
  cases hi'
  have hag := fun w => isAgg_run (w := w) hu
  split at h
  ·rename_i cs hb hz
   split at h
   ·rename_i hlen
    obtain ⟨vs, hk, hl, hr⟩ := ldS_all (P := P) h
    refine ⟨_, hk, fun w' hw => ?_⟩
    have hsz : i.size = cs.size := by simp [← Nat.eq_of_beq_eq_true hlen]
    have hr' : (loadCellsFrom a 0 cs.size #[]).run P w' = .ok vs.toArray w' := by
     have := hr w' (fun k hk => hw k (by simp at hk; omega)) #[]
     simpa using this
    unfold loadVar loadCells sizeOf typeInfo
    simp only [Sem.run_bind, hag, Result.andThen_ok, hb, if_true, run_program, hi]
    have h1 : (pure i : Sem TypeInfo).run P w' = .ok i w' := rfl
    simp only [h1, Result.andThen_ok, hsz]
    rw [show (pure cs.size : Sem Nat).run P w' = .ok cs.size w' from rfl]
    simp only [Result.andThen_ok, hr']
    rfl
   ·exact h.elim
  ·rename_i z hb hz
   obtain ⟨v, hc, hk⟩ := STy.ex_out h
   refine ⟨v, hk, fun w' hw => ?_⟩
   have h0 : w'.cell? a = some v := by have := hw 0 h1; rw [add_zero] at this; rw [this]; exact hc
   unfold loadVar
   simp only [Sem.run_bind, hag, Result.andThen_ok, hb, Bool.false_eq_true, if_false, run_load, h0]
  ·exact h.elim
 ·exact h.elim

inductive RPlan where
 | done
 | pure (i : Nat) (p : RPlan)
 | load (i : Nat) (p : RPlan)
 | one (i : Nat) (p : RPlan)
 | two (i : Nat) (p : RPlan) (j : Nat) (q : RPlan)
def RPlan.depth : RPlan → Nat
 | .done => 0
 | .pure _ p | .load _ p | .one _ p => p.depth + 1
 | .two _ p _ q => max p.depth q.depth + 1
def waitsB (ops : Array Oper) : Nat → Nat → Nat → Bool
 | 0, _, _ => false
 | f + 1, j, i => match ops[j]? with
  | none => false
  | some o => o.after.any fun e => Region.binds .any e && (Nat.beq e.on i || waitsB ops f e.on i)
def eqNats : List Nat → List Nat → Bool
 | [], [] => true
 | a :: ys, b :: bs => match Nat.beq a b with
  | true => eqNats ys bs
  | false => false
 | _, _ => false
def hasNat : List Nat → Nat → Bool
 | [], _ => false
 | a :: ys, b => match Nat.beq a b with
  | true => true
  | false => hasNat ys b
def wantV (ops : Array Oper) (o : Oper) (ρ : Fr) (yes no : Fr → Prop) : Prop :=
 match o.guard with
 | none => yes ρ
 | some (j, want) => match (ops.toList[j]?).bind (·.dst) with
  | none => False
  | some t => match ρ t with
   | .bool b => match b with
    | true => match want with
     | true => yes (upd ρ t (.bool true))
     | false => no (upd ρ t (.bool true))
    | false => match want with
     | true => no (upd ρ t (.bool false))
     | false => yes (upd ρ t (.bool false))
   | .tuple _ => no ρ
   | _ => False
abbrev Held := List (Nat × Addr × Nat)
def keepV (ops : Array Oper) (j : Nat) (w w' : World) : Held → Prop → Prop
 | [], K => K
 | (i, a, n) :: E, K => match waitsB ops ops.size j i with
  | true => keepV ops j w w' E K
  | false => SameC w w' a n ∧ keepV ops j w w' E K
def planV (P : Program) (n : Nat) (ops : Array Oper) (Q : Fr → World → Prop) : RPlan → Array Bool → Held → Fr → World → Prop
 | .done, listed, _, ρ, w => match Region.ready .any ops listed with
  | [] => Q ρ w
  | _ :: _ => False
 | .pure i p, listed, E, ρ, w => match ops[i]? with
  | none => False
  | some o => match dstOk n o.dst, Region.free .any ops listed i, hasNat (Region.ready .any ops listed) i with
   | true, true, true => wantV ops o ρ (fun ρ => valV P o ρ fun v => planV P n ops Q p (listed.setIfInBounds i true) E (putF ρ o.dst v) w)
    (fun ρ => planV P n ops Q p (listed.setIfInBounds i true) E (putF ρ o.dst undef) w)
   | _, _, _ => False
 | .load i p, listed, E, ρ, w => match ops[i]? with
  | none => False
  | some o => match dstOk n o.dst, Region.free .any ops listed i, hasNat (Region.ready .any ops listed) i with
   | true, true, true => match o.op with
    | .load t x => match P.info? t with
     | some inf => match Nat.blt 0 inf.size with
      | true => wantV ops o ρ (fun ρ => match rd ρ x with
       | .pointer (some a) => loadV P t a w fun v => planV P n ops Q p (listed.setIfInBounds i true) ((i, a, inf.size) :: E) (putF ρ o.dst v) w
       | _ => False)
       (fun ρ => planV P n ops Q p (listed.setIfInBounds i true) E (putF ρ o.dst undef) w)
      | false => False
     | none => False
    | _ => False
   | _, _, _ => False
 | .one i p, listed, E, ρ, w => match ops[i]? with
  | none => False
  | some o => match dstOk n o.dst, eqNats (Region.ready .any ops listed) [i] with
   | true, true => wantV ops o ρ (fun ρ => opV P o ρ (fun v w' => keepV ops i w w' E (planV P n ops Q p (listed.setIfInBounds i true) E (putF ρ o.dst v) w')) w)
    (fun ρ => planV P n ops Q p (listed.setIfInBounds i true) E (putF ρ o.dst undef) w)
   | _, _ => False
 | .two i p j q, listed, E, ρ, w => match ops[i]?, ops[j]? with
  | some o, some u => match dstOk n o.dst, dstOk n u.dst, eqNats (Region.ready .any ops listed) [i, j] with
   | true, true, true =>
    (wantV ops o ρ (fun ρ => opV P o ρ (fun v w' => keepV ops i w w' E (planV P n ops Q p (listed.setIfInBounds i true) E (putF ρ o.dst v) w')) w)
     (fun ρ => planV P n ops Q p (listed.setIfInBounds i true) E (putF ρ o.dst undef) w)) ∧
    (wantV ops u ρ (fun ρ => opV P u ρ (fun v w' => keepV ops j w w' E (planV P n ops Q q (listed.setIfInBounds j true) E (putF ρ u.dst v) w')) w)
     (fun ρ => planV P n ops Q q (listed.setIfInBounds j true) E (putF ρ u.dst undef) w))
   | _, _, _ => False
  | _, _ => False
def drawV (P : Program) (n : Nat) (ops : Array Oper) (pl : RPlan) (Q : Fr → World → Prop) (ρ : Fr) (w : World) : Prop :=
 planV P n ops Q pl (Array.replicate ops.size false) [] ρ { w with drawn := w.drawn + 1 }

section
variable {ops : Array Oper} {Q : Exit → Act → World → Prop}
def Closed (ops : Array Oper) (listed : Array Bool) : Prop :=
 ∀ (k : Nat) (o : Oper), ops[k]? = some o → listed.getD k false = true → ∀ e ∈ o.after, Region.binds .any e = true → listed.getD e.on false = true
def wpAnyO (P : Program) (ops : Array Oper) (Q : Exit → Act → World → Prop) (O : Nat → World → World → Prop) : Nat → Array Bool → Act → World → Prop
 | 0, listed, a, w => Region.ready .any ops listed = [] ∧ Q .normal a w
 | f + 1, listed, a, w => (Region.ready .any ops listed = [] → Q .normal a w) ∧
  ∀ i ∈ Region.ready .any ops listed, wpOp P ops Q i (fun a' w' => O i w w' ∧ wpAnyO P ops Q O f (listed.setIfInBounds i true) a' w') a w
theorem wpAny_of_O {O : Nat → World → World → Prop} : ∀ (f : Nat) (listed : Array Bool) (a : Act) (w : World), wpAnyO P ops Q O f listed a w → wpAny P .any ops Q f listed a w
 | 0, _, _, _, h => h
 | f + 1, _, _, _, h => ⟨h.1, fun i hi => wpOp_mono (fun _ _ hk => wpAny_of_O f _ _ _ hk.2) (h.2 i hi)⟩
theorem wpAnyO_mono {O O' : Nat → World → World → Prop} (ho : ∀ j w w', O' j w w' → O j w w') : ∀ (f : Nat) (listed : Array Bool) (a : Act) (w : World), wpAnyO P ops Q O' f listed a w → wpAnyO P ops Q O f listed a w
 | 0, _, _, _, h => h
 | f + 1, _, _, _, h => ⟨h.1, fun i hi => wpOp_mono (fun _ _ hk => ⟨ho _ _ _ hk.1, wpAnyO_mono ho f _ _ _ hk.2⟩) (h.2 i hi)⟩

theorem Closed.set {listed : Array Bool} {j : Nat} (hc : Closed ops listed) (hj : j ∈ Region.ready .any ops listed) : Closed ops (listed.setIfInBounds j true) := by
 intro k o ho hk e he hb
 by_cases hjk : j = k
 ·subst hjk
  obtain ⟨_, o', ho', hall⟩ := mem_ready.1 hj
  rw [ho] at ho'
  cases ho'
  exact getD_set_true (hall e he hb)
 ·rw [getD_set_ne false hjk] at hk
  exact getD_set_true (hc k o ho hk e he hb)
theorem waitsB_sound {listed : Array Bool} (hc : Closed ops listed) {i : Nat} : ∀ (f j : Nat) {o : Oper}, ops[j]? = some o →
 (∀ e ∈ o.after, Region.binds .any e = true → listed.getD e.on false = true) → waitsB ops f j i = true → listed.getD i false = true
 | 0, _, _, _, _, h => by cases h
 | f + 1, j, o, ho, hall, h => by
  simp only [waitsB, ho] at h
  obtain ⟨e, he, h⟩ := Array.any_eq_true'.1 h
  simp only [Bool.and_eq_true, Bool.or_eq_true] at h
  obtain ⟨hb, h⟩ := h
  have hl := hall e he hb
  rcases h with h | h
  ·rw [← Nat.eq_of_beq_eq_true h]; exact hl
  ·cases ho' : ops[e.on]? with
   | none =>
    cases f with
    | zero => cases h
    | succ f => simp [waitsB, ho'] at h
   | some o' => exact waitsB_sound hc f e.on ho' (fun e' he' hb' => hc e.on o' ho' hl e' he' hb') h
theorem getD_off {listed : Array Bool} {i : Nat} (h : listed.getD i true = false) : listed.getD i false = false := by
 rcases Nat.lt_or_ge i listed.size with h' | h'
 ·simp [h'] at h ⊢; exact h
 ·simp [Array.getElem?_eq_none h'] at h

theorem firstO {S : World → Prop} {O O' : Nat → World → World → Prop} {i : Nat} {oi : Oper} {v : Value} (hi : ops[i]? = some oi)
 (hsel : ∀ (j : Nat) (o : Oper) cs b, ops[j]? = some o → o.op ≠ .select cs b) (hQ : ∀ c a w, ¬ Q (.panic c) a w)
 (hOO : ∀ j w w', O' j w w' → O j w w') (hrefl : ∀ w, O i w w) (hS : ∀ j w w', waitsB ops ops.size j i = false → O' j w w' → S w → S w') :
 ∀ (fuel : Nat) (listed : Array Bool) (a : Act) (w : World), Closed ops listed →
  (∀ j oj, ops[j]? = some oj → j ≠ i → listed.getD j true = false → (∀ e ∈ oj.after, Region.binds .any e = true → e.on ≠ i) → oi.apart ops oj = true) →
  i ∈ Region.ready .any ops listed → YieldsIf P ops S oi v a → S w →
  wpAnyO P ops Q O' fuel (listed.setIfInBounds i true) (a.put oi.dst v) w → wpAnyO P ops Q O (fuel + 1) listed a w := by
 intro fuel
 induction fuel with
 | zero =>
  intro listed a w _ _ hr hy hs H
  refine ⟨fun h => (by rw [h] at hr; cases hr), fun j hj => ?_⟩
  by_cases hji : j = i
  ·subst hji; exact hy.wpOp hi hs ⟨hrefl w, H⟩
  ·have := ready_mono hj hji
   rw [H.1] at this
   cases this
 | succ fuel ih =>
  intro listed a w hc hfree hr hy hs H
  refine ⟨fun h => (by rw [h] at hr; cases hr), fun j hj => ?_⟩
  by_cases hji : j = i
  ·subst hji; exact hy.wpOp hi hs ⟨hrefl w, wpAnyO_mono hOO _ _ _ _ H⟩
  ·have h1 := H.2 j (ready_mono hj hji)
   obtain ⟨hjun, oj, hoj, hall⟩ := mem_ready.1 hj
   have hioff := getD_off (mem_ready.1 hr).1
   have hnot : ∀ e ∈ oj.after, Region.binds .any e = true → e.on ≠ i := fun e he hb heq => by
    have h1 := hall e he hb
    rw [heq, hioff] at h1
    cases h1
   have hnw : waitsB ops ops.size j i = false := by
    cases hw : waitsB ops ops.size j i with
    | false => rfl
    | true => rw [waitsB_sound hc _ _ hoj hall hw] at hioff; cases hioff
   have h2 := wpOp_putIf hoj (hfree j oj hoj hji hjun hnot) (fun cs b => hsel i oi cs b hi) (fun cs b => hsel j oj cs b hoj) (fun c a w hq => (hQ _ _ _ hq).elim) hy h1
   have hfree' : ∀ k ok, ops[k]? = some ok → k ≠ i → (listed.setIfInBounds j true).getD k true = false →
    (∀ e ∈ ok.after, Region.binds .any e = true → e.on ≠ i) → oi.apart ops ok = true := fun k ok hk hki hun hno => by
    refine hfree k ok hk hki ?_ hno
    by_cases hjk : j = k
    ·subst hjk; exact hjun
    ·rw [getD_set_ne true hjk] at hun; exact hun
   refine wpOp_mono (fun a' w' h3 => ⟨hOO _ _ _ h3.2.1, ih (listed.setIfInBounds j true) a' w' (hc.set hj) hfree' (ready_mono hr (Ne.symm hji)) h3.1 (hS j w w' hnw h3.2.1 hs) ?_⟩) h2
   rw [Array.setIfInBounds_comm _ _ hji]
   exact h3.2.2
end

theorem wantV_out {ops : Array Oper} {o : Oper} {n : Nat} {a : Act} {ρ : Fr} {yes no : Fr → Prop} (hr : RelF n a ρ) (h : wantV ops o ρ yes no) :
 (Region.wanted o (yielded ops a.tmps) = true ∧ yes ρ) ∨ (Region.wanted o (yielded ops a.tmps) = false ∧ no ρ) := by
 unfold wantV at h
 split at h
 ·rename_i hg; exact .inl ⟨by simp [Region.wanted, hg], h⟩
 ·rename_i j want hg
  split at h
  ·exact h.elim
  ·rename_i t ht
   have hw : Region.wanted o (yielded ops a.tmps) = isB want (ρ t) := by rw [wanted_eq hg ht, hr.get]
   split at h
   ·rename_i b hb
    have hup : ∀ z, b = z → upd ρ t (.bool z) = ρ := fun z hz => by subst hz; rw [← hb]; exact upd_same ρ t
    rw [hw, hb]
    cases b <;> cases want <;> simp only [hup _ rfl] at h
    ·exact .inl ⟨rfl, h⟩
    ·exact .inr ⟨rfl, h⟩
    ·exact .inr ⟨rfl, h⟩
    ·exact .inl ⟨rfl, h⟩
   ·rename_i vs hb
    exact .inr ⟨by rw [hw, hb]; rfl, h⟩
   ·exact h.elim
theorem eqNats_eq : ∀ {a b : List Nat}, eqNats a b = true → a = b
 | [], [], _ => rfl
 | a :: ys, b :: bs, h => by
  simp only [eqNats] at h
  cases hb : Nat.beq a b <;> rw [hb] at h
  ·cases h
  ·rw [Nat.eq_of_beq_eq_true hb, eqNats_eq h]
 | [], _ :: _, h => by cases h
 | _ :: _, [], h => by cases h
theorem hasNat_mem : ∀ {a : List Nat} {b : Nat}, hasNat a b = true → b ∈ a
 | [], _, h => by cases h
 | a :: ys, b, h => by
  simp only [hasNat] at h
  cases hb : Nat.beq a b <;> rw [hb] at h
  ·exact List.mem_cons_of_mem _ (hasNat_mem h)
  ·rw [Nat.eq_of_beq_eq_true hb]; exact List.mem_cons_self
def ObE (ops : Array Oper) (E : Held) (j : Nat) (w w' : World) : Prop := ∀ i a n, (i, a, n) ∈ E → waitsB ops ops.size j i = false → SameC w w' a n
theorem keepV_out {ops : Array Oper} {j : Nat} {w w' : World} {K : Prop} : ∀ {E : Held}, keepV ops j w w' E K → ObE ops E j w w' ∧ K
 | [], h => ⟨fun _ _ _ hm => (by cases hm), h⟩
 | (i, a, n) :: E, h => by
  simp only [keepV] at h
  cases hb : waitsB ops ops.size j i with
  | true =>
   rw [hb] at h
   obtain ⟨h1, h2⟩ := keepV_out h
   refine ⟨fun i' a' n' hm hw => ?_, h2⟩
   cases hm with
   | head => rw [hb] at hw; cases hw
   | tail _ hm => exact h1 _ _ _ hm hw
  | false =>
   rw [hb] at h
   obtain ⟨h1, h2⟩ := keepV_out h.2
   refine ⟨fun i' a' n' hm hw => ?_, h2⟩
   cases hm with
   | head => exact h.1
   | tail _ hm => exact h1 _ _ _ hm hw
theorem ObE.refl {ops : Array Oper} {E : Held} (j : Nat) (w : World) : ObE ops E j w w := fun _ _ _ _ _ _ _ => rfl

theorem planV_sound {n : Nat} {ops : Array Oper} {Q : PostF} (hs : Region.noSelect ops = true) (hQ : ∀ c ρ w, ¬ Q (.panic c) ρ w) :
 ∀ (pl : RPlan) (listed : Array Bool) (E : Held) (a : Act) (ρ : Fr) (w : World) (f : Nat), RelF n a ρ → Closed ops listed → pl.depth ≤ f →
  planV P n ops (Q .normal) pl listed E ρ w → wpAnyO P ops (liftQ n Q) (ObE ops E) f listed a w := by
 have hQ' : ∀ c a w, ¬ liftQ n Q (.panic c) a w := fun c a w ⟨ρ, _, h⟩ => hQ c ρ w h
 have oneC : ∀ (i : Nat) (o : Oper) (E : Held) (listed : Array Bool) (a : Act) (ρ : Fr) (w : World) (f : Nat) (p : RPlan), ops[i]? = some o → RelF n a ρ → dstOk n o.dst = true →
  (∀ (a : Act) (ρ : Fr) (w : World), RelF n a ρ → planV P n ops (Q .normal) p (listed.setIfInBounds i true) E ρ w → wpAnyO P ops (liftQ n Q) (ObE ops E) f (listed.setIfInBounds i true) a w) →
  (wantV ops o ρ (fun ρ => opV P o ρ (fun v w' => keepV ops i w w' E (planV P n ops (Q .normal) p (listed.setIfInBounds i true) E (putF ρ o.dst v) w')) w)
   (fun ρ => planV P n ops (Q .normal) p (listed.setIfInBounds i true) E (putF ρ o.dst undef) w)) →
  wpOp P ops (liftQ n Q) i (fun a' w' => ObE ops E i w w' ∧ wpAnyO P ops (liftQ n Q) (ObE ops E) f (listed.setIfInBounds i true) a' w') a w := by
  intro i o E listed a ρ w f p ho hr hd ih h
  have hd' : ∀ k, o.dst = some k → k < n := fun k hk => by rw [hk] at hd; simpa [dstOk, Nat.blt_eq] using hd
  unfold wpOp
  simp only [ho]
  rcases wantV_out hr h with ⟨hw, h⟩ | ⟨hw, h⟩
  ·rw [if_pos hw]
   refine .inl (Oper.wp_mono (fun a' w' ⟨v, ha, hk⟩ => ?_) (opV_sound hr h))
   subst ha
   obtain ⟨h1, h2⟩ := keepV_out hk
   exact ⟨h1, ih _ _ _ (hr.put o.dst v hd') h2⟩
  ·rw [if_neg (by simp [hw])]
   exact ⟨ObE.refl i w, ih _ _ _ (hr.put o.dst undef hd') h⟩
 intro pl
 induction pl with
 | done =>
  intro listed E a ρ w f hr _ _ h
  simp only [planV] at h
  split at h
  ·rename_i hrd
   cases f with
   | zero => exact ⟨hrd, ρ, hr, h⟩
   | succ f => exact ⟨fun _ => ⟨ρ, hr, h⟩, fun i hi => (by rw [hrd] at hi; cases hi)⟩
  ·exact h.elim
 | pure i p ih =>
  intro listed E a ρ w f hr hc hf h
  obtain ⟨f, rfl⟩ : ∃ m, f = m + 1 := ⟨f - 1, by simp only [RPlan.depth] at hf; omega⟩
  simp only [planV] at h
  split at h
  ·exact h.elim
  ·rename_i o ho
   split at h
   ·rename_i hd hfree hin
    have hd' : ∀ k, o.dst = some k → k < n := fun k hk => by rw [hk] at hd; simpa [dstOk, Nat.blt_eq] using hd
    have hin := hasNat_mem hin
    have go : ∀ v, YieldsIf P ops (fun _ => True) o v a → planV P n ops (Q .normal) p (listed.setIfInBounds i true) E (putF ρ o.dst v) w → wpAnyO P ops (liftQ n Q) (ObE ops E) (f + 1) listed a w :=
     fun v hy hp => firstO (S := fun _ => True) ho (Region.noSelect_spec hs) hQ' (fun _ _ _ h => h) (fun w => ObE.refl i w) (fun _ _ _ _ _ _ => trivial) f listed a w hc
      (Region.free_spec ho hfree) hin hy trivial (ih _ _ _ _ _ _ (hr.put o.dst v hd') (hc.set hin) (by simp only [RPlan.depth] at hf; omega) hp)
    rcases wantV_out hr h with ⟨hw, h⟩ | ⟨hw, h⟩
    ·obtain ⟨v, hk, hrun⟩ := valV_out h
     have he : a.eval = rd ρ := funext hr.eval
     exact go v (.inl ⟨hw, fun w _ => by rw [he]; exact hrun w⟩) hk
    ·exact go undef (.inr ⟨hw, rfl⟩) h
   ·exact h.elim
 | load i p ih =>
  intro listed E a ρ w f hr hc hf h
  obtain ⟨f, rfl⟩ : ∃ m, f = m + 1 := ⟨f - 1, by simp only [RPlan.depth] at hf; omega⟩
  simp only [planV] at h
  split at h
  ·exact h.elim
  ·rename_i o ho
   split at h
   ·rename_i hd hfree hin
    have hd' : ∀ k, o.dst = some k → k < n := fun k hk => by rw [hk] at hd; simpa [dstOk, Nat.blt_eq] using hd
    have hin := hasNat_mem hin
    split at h
    ·rename_i t x hop
     split at h
     ·rename_i inf hinf
      split at h
      ·rename_i hpos
       have hpos : 0 < inf.size := by simpa [Nat.blt_eq] using hpos
       have he : a.eval = rd ρ := funext hr.eval
       rcases wantV_out hr h with ⟨hw, h⟩ | ⟨hw, h⟩
       ·split at h
        ·rename_i ad had
         obtain ⟨v, hk, hrun⟩ := loadV_all hinf hpos h
         refine firstO (S := fun w' => SameC w w' ad inf.size) (O' := ObE ops ((i, ad, inf.size) :: E)) ho (Region.noSelect_spec hs) hQ'
          (fun _ _ _ h i a n hm => h i a n (List.mem_cons_of_mem _ hm)) (fun w => ObE.refl i w) (fun j w1 w2 hnw ho hS => hS.trans (ho _ _ _ List.mem_cons_self hnw)) f listed a w hc
          (Region.free_spec ho hfree) hin (v := v) (.inl ⟨hw, fun w' hS => ?_⟩) (fun _ _ => rfl) (ih _ _ _ _ _ _ (hr.put o.dst v hd') (hc.set hin) (by simp only [RPlan.depth] at hf; omega) hk)
         rw [he]
         simp only [execOp, hop]
         refine run_bindv ?_
         rw [had]
         exact hrun w' hS
        ·exact h.elim
       ·exact firstO (S := fun _ => True) (v := undef) ho (Region.noSelect_spec hs) hQ' (fun _ _ _ h => h) (fun w => ObE.refl i w) (fun _ _ _ _ _ _ => trivial) f listed a w hc
         (Region.free_spec ho hfree) hin (.inr ⟨hw, rfl⟩) trivial (ih _ _ _ _ _ _ (hr.put o.dst undef hd') (hc.set hin) (by simp only [RPlan.depth] at hf; omega) h)
      ·exact h.elim
     ·exact h.elim
    ·exact h.elim
   ·exact h.elim
 | one i p ih =>
  intro listed E a ρ w f hr hc hf h
  obtain ⟨f, rfl⟩ : ∃ m, f = m + 1 := ⟨f - 1, by simp only [RPlan.depth] at hf; omega⟩
  simp only [planV] at h
  split at h
  ·exact h.elim
  ·rename_i o ho
   split at h
   ·rename_i hd hrd
    have hrd := eqNats_eq hrd
    refine ⟨fun h0 => (by rw [hrd] at h0; cases h0), fun j hj => ?_⟩
    have hj' : j = i := by rw [hrd] at hj; simpa using hj
    subst hj'
    exact oneC j o E listed a ρ w f p ho hr hd (fun a ρ w hr hp => ih _ _ _ _ _ _ hr (hc.set hj) (by simp only [RPlan.depth] at hf; omega) hp) h
   ·exact h.elim
 | two i p j q ihp ihq =>
  intro listed E a ρ w f hr hc hf h
  obtain ⟨f, rfl⟩ : ∃ m, f = m + 1 := ⟨f - 1, by simp only [RPlan.depth] at hf; omega⟩
  simp only [planV] at h
  split at h
  ·rename_i o u ho hu
   split at h
   ·rename_i hd1 hd2 hrd
    have hrd := eqNats_eq hrd
    refine ⟨fun h0 => (by rw [hrd] at h0; cases h0), fun k hk => ?_⟩
    have hk' : k = i ∨ k = j := by rw [hrd] at hk; simpa using hk
    rcases hk' with rfl | rfl
    ·exact oneC k o E listed a ρ w f p ho hr hd1 (fun a ρ w hr hp => ihp _ _ _ _ _ _ hr (hc.set hk) (by simp only [RPlan.depth] at hf; omega) hp) h.1
    ·exact oneC k u E listed a ρ w f q hu hr hd2 (fun a ρ w hr hp => ihq _ _ _ _ _ _ hr (hc.set hk) (by simp only [RPlan.depth] at hf; omega) hp) h.2
   ·exact h.elim
  ·exact h.elim

theorem drawV_sound {n id : Nat} {ops : Array Oper} {pl : RPlan} {Q : PostF} {ρ : Fr} {w : World} (hm : P.follows .mixedOrders = true) (hs : Region.noSelect ops = true)
 (hQ : ∀ c ρ w, ¬ Q (.panic c) ρ w) (hd : Nat.ble pl.depth ops.size = true) (h : drawV P n ops pl (Q .normal) ρ w) : WpF P n (.region id ops true) Q ρ w := by
 intro a hr
 refine wp_region_any hm (wpAny_of_O _ _ _ _ (planV_sound hs hQ pl _ [] a ρ _ _ hr ?_ (Nat.le_of_ble_eq_true hd) h))
 intro k o _ hk
 simp only [Array.getD_eq_getD_getElem?, Array.getElem?_replicate] at hk
 split at hk <;> cases hk

end Go.Proofs.YtgbgadkldalkbaaGreatDoor


namespace Go.Proofs.YtgbgadkldalkbaaGreatDoor
variable {P : Program}

abbrev CurS : STy → Type → Type
 | .bool, R => Bool → R
 | .int _, R => Int → R
 | .str, R => ByteArray → R
 | .ptr, R => Option Addr → R
 | .slice, R => Option Addr → Nat → Nat → R
 | .map, R => Option Nat → R
 | .any, R => Value → R
 | .loc, R => Nat → R
abbrev CurL : List STy → Type → Type
 | [], R => R
 | t :: ts, R => CurS t (CurL ts R)
abbrev CurC : CTy → Type → Type
 | .s t, R => CurS t R
 | .agg ts, R => CurL ts R
abbrev CurV : List (Nat × CTy) → Type
 | [] => World → Prop
 | (_, t) :: vs => CurC t (CurV vs)

def apS : (t : STy) → {R : Type} → CurS t R → Value → (R → Prop) → Prop
 | .bool, _, F, v, k => match v with | .bool b => k (F b) | _ => False
 | .int i, _, F, v, k => match v with
  | .int j m => match decide (j = i) with | true => k (F m) | false => False
  | _ => False
 | .str, _, F, v, k => match v with | .string s => k (F s) | _ => False
 | .ptr, _, F, v, k => match v with | .pointer q => k (F q) | _ => False
 | .slice, _, F, v, k => match v with | .slice q n c => k (F q n c) | _ => False
 | .map, _, F, v, k => match v with | .map q => k (F q) | _ => False
 | .any, _, F, v, k => k (F v)
 | .loc, _, F, v, k => match v with | .pointer (some ⟨b, 0, none⟩) => k (F b) | _ => False
def apL : (ts : List STy) → {R : Type} → CurL ts R → List Value → (R → Prop) → Prop
 | [], _, F, vs, k => match vs with | [] => k F | _ :: _ => False
 | t :: ts, _, F, vs, k => match vs with | v :: vs => apS t F v fun F' => apL ts F' vs k | [] => False
def apC : (t : CTy) → {R : Type} → CurC t R → Value → (R → Prop) → Prop
 | .s t, _, F, v, k => apS t F v k
 | .agg ts, _, F, v, k => match v with | .agg cs => apL ts F cs.toList k | _ => False
def leaf : (vars : List (Nat × CTy)) → CurV vars → Fr → World → Prop
 | [], F, _, w => F w
 | (i, t) :: vs, F, ρ, w => apC t F (ρ i) fun F' => leaf vs F' ρ w

def allS : (t : STy) → {R : Type} → CurS t R → (Value → R → Prop) → Prop
 | .bool, _, F, K => ∀ b, K (.bool b) (F b)
 | .int i, _, F, K => ∀ m, K (.int i m) (F m)
 | .str, _, F, K => ∀ s, K (.string s) (F s)
 | .ptr, _, F, K => ∀ q, K (.pointer q) (F q)
 | .slice, _, F, K => ∀ q n c, K (.slice q n c) (F q n c)
 | .map, _, F, K => ∀ q, K (.map q) (F q)
 | .any, _, F, K => ∀ v, K v (F v)
 | .loc, _, F, K => ∀ b, K (.pointer (some ⟨b, 0, none⟩)) (F b)
def allL : (ts : List STy) → {R : Type} → CurL ts R → (List Value → R → Prop) → Prop
 | [], _, F, K => K [] F
 | t :: ts, _, F, K => allS t F fun v F' => allL ts F' fun vs f => K (v :: vs) f
def allC : (t : CTy) → {R : Type} → CurC t R → (Value → R → Prop) → Prop
 | .s t, _, F, K => allS t F K
 | .agg ts, _, F, K => allL ts F fun vs f => K (.agg vs.toArray) f
def allE : (vars : List (Nat × CTy)) → CurV vars → (Fr → World → Prop) → Prop
 | [], F, V => ∀ ρ w, F w = V ρ w
 | (i, t) :: vs, F, V => allC t F fun v F' => allE vs F' fun ρ w => V (upd ρ i v) w
theorem apS_all : ∀ {t : STy} {R : Type} {F : CurS t R} {v : Value} {k : R → Prop} {K : Value → R → Prop}, apS t F v k → allS t F K → ∃ f, k f ∧ K v f := by
 intro t R F v k K h g
 cases t <;> simp only [apS] at h <;> simp only [allS] at g
 case int i =>
  split at h
  ·split at h
   ·rename_i hb; have := of_decide_eq_true hb; subst this; exact ⟨_, h, g _⟩
   ·exact h.elim
  ·exact h.elim
 case any => exact ⟨_, h, g _⟩
 case slice => split at h <;> first | exact ⟨_, h, g _ _ _⟩ | exact h.elim
 all_goals (split at h <;> first | exact ⟨_, h, g _⟩ | exact h.elim)
theorem apL_all : ∀ {ts : List STy} {R : Type} {F : CurL ts R} {vs : List Value} {k : R → Prop} {K : List Value → R → Prop}, apL ts F vs k → allL ts F K → ∃ f, k f ∧ K vs f
 | [], _, _, vs, _, _, h, g => by
  cases vs with
  | nil => exact ⟨_, h, g⟩
  | cons v vs => exact h.elim
 | t :: ts, _, _, vs, _, K, h, g => by
  cases vs with
  | nil => exact h.elim
  | cons v vs =>
   obtain ⟨F', h', g'⟩ := apS_all (t := t) h g
   exact apL_all (ts := ts) (K := fun vs f => K (v :: vs) f) h' g'
theorem apC_all : ∀ {t : CTy} {R : Type} {F : CurC t R} {v : Value} {k : R → Prop} {K : Value → R → Prop}, apC t F v k → allC t F K → ∃ f, k f ∧ K v f := by
 intro t R F v k K h g
 cases t with
 | s t => exact apS_all (t := t) h g
 | agg ts =>
  simp only [apC] at h
  split at h
  ·rename_i cs
   obtain ⟨f, h', g'⟩ := apL_all (ts := ts) h g
   exact ⟨f, h', by simpa using g'⟩
  ·exact h.elim
theorem cutE : ∀ {vars : List (Nat × CTy)} {F : CurV vars} {V : Fr → World → Prop}, allE vars F V → ∀ ρ w, leaf vars F ρ w → V ρ w
 | [], _, _, g, ρ, w, h => by rw [← g ρ w]; exact h
 | (i, t) :: vs, _, V, g, ρ, w, h => by
  obtain ⟨F', h', g'⟩ := apC_all (t := t) h g
  have := cutE g' ρ w h'
  rwa [upd_same] at this

def mkS : (t : STy) → {R : Type} → (Value → R) → CurS t R
 | .bool, _, k => fun b => k (.bool b)
 | .int i, _, k => fun m => k (.int i m)
 | .str, _, k => fun s => k (.string s)
 | .ptr, _, k => fun q => k (.pointer q)
 | .slice, _, k => fun q n c => k (.slice q n c)
 | .map, _, k => fun q => k (.map q)
 | .any, _, k => fun v => k v
 | .loc, _, k => fun b => k (.pointer (some ⟨b, 0, none⟩))
def mkL : (ts : List STy) → {R : Type} → (List Value → R) → CurL ts R
 | [], _, k => k []
 | t :: ts, _, k => mkS t fun v => mkL ts fun vs => k (v :: vs)
def mkC : (t : CTy) → {R : Type} → (Value → R) → CurC t R
 | .s t, _, k => mkS t k
 | .agg ts, _, k => mkL ts fun vs => k (.agg vs.toArray)
def semF : (vars : List (Nat × CTy)) → (Fr → World → Prop) → CurV vars
 | [], V => fun w => ∀ ρ, V ρ w
 | (i, t) :: vs, V => mkC t fun v => semF vs fun ρ w => ρ i = v → V ρ w

theorem mkS_all {t : STy} {R : Type} {k : Value → R} {K : Value → R → Prop} (h : ∀ v, K v (k v)) : allS t (mkS t k) K := by
 cases t <;> simp only [allS, mkS] <;> intros <;> exact h _
theorem mkL_all : ∀ {ts : List STy} {R : Type} {k : List Value → R} {K : List Value → R → Prop}, (∀ vs, K vs (k vs)) → allL ts (mkL ts k) K
 | [], _, _, _, h => h []
 | t :: _, _, _, _, h => mkS_all (t := t) fun _ => mkL_all fun _ => h _
theorem mkC_all {t : CTy} {R : Type} {k : Value → R} {K : Value → R → Prop} (h : ∀ v, K v (k v)) : allC t (mkC t k) K := by
 cases t with
 | s t => exact mkS_all h
 | agg ts => exact mkL_all fun vs => h _
theorem sem_out : ∀ {vars : List (Nat × CTy)} {V : Fr → World → Prop} (ρ : Fr) (w : World), leaf vars (semF vars V) ρ w → V ρ w
 | [], _, ρ, _, h => h ρ
 | (i, t) :: vs, V, ρ, w, h => by
  obtain ⟨f, h', g'⟩ := apC_all (t := t) (K := fun v f => f = semF vs fun ρ w => ρ i = v → V ρ w) h (mkC_all fun v => rfl)
  subst g'
  exact sem_out ρ w h' rfl

theorem allS_intro {t : STy} {R : Type} {A : CurS t R} {K : Value → R → Prop} (h : ∀ v f, (∀ j : R → Prop, j f → apS t A v j) → K v f) : allS t A K := by
 cases t <;> simp only [allS] <;> intros <;> refine h _ _ fun j hj => ?_ <;> simp only [apS, decide_true] <;> exact hj
theorem allL_intro : ∀ {ts : List STy} {R : Type} {A : CurL ts R} {K : List Value → R → Prop}, (∀ v f, (∀ j : R → Prop, j f → apL ts A v j) → K v f) → allL ts A K
 | [], _, _, _, h => h [] _ fun _ hj => hj
 | t :: _, _, _, _, h => allS_intro (t := t) fun v _ hv => allL_intro fun vs _ hvs => h (v :: vs) _ fun j hj => hv _ (hvs j hj)
theorem allC_intro {t : CTy} {R : Type} {A : CurC t R} {K : Value → R → Prop} (h : ∀ v f, (∀ j : R → Prop, j f → apC t A v j) → K v f) : allC t A K := by
 cases t with
 | s t => exact allS_intro h
 | agg ts => exact allL_intro fun vs f hv => h _ _ fun j hj => by simpa [apC] using hv j hj

def leS : (t : STy) → {R : Type} → CurS t R → CurS t R → (R → R → Prop) → Prop
 | .bool, _, A, B, k => ∀ b, k (A b) (B b)
 | .int _, _, A, B, k => ∀ m, k (A m) (B m)
 | .str, _, A, B, k => ∀ s, k (A s) (B s)
 | .ptr, _, A, B, k => ∀ q, k (A q) (B q)
 | .slice, _, A, B, k => ∀ q n c, k (A q n c) (B q n c)
 | .map, _, A, B, k => ∀ q, k (A q) (B q)
 | .any, _, A, B, k => ∀ v, k (A v) (B v)
 | .loc, _, A, B, k => ∀ b, k (A b) (B b)
def leL : (ts : List STy) → {R : Type} → CurL ts R → CurL ts R → (R → R → Prop) → Prop
 | [], _, A, B, k => k A B
 | t :: ts, _, A, B, k => leS t A B fun A' B' => leL ts A' B' k
def leC : (t : CTy) → {R : Type} → CurC t R → CurC t R → (R → R → Prop) → Prop
 | .s t, _, A, B, k => leS t A B k
 | .agg ts, _, A, B, k => leL ts A B k
def leV : (vars : List (Nat × CTy)) → CurV vars → CurV vars → Prop
 | [], A, B => ∀ w, A w → B w
 | (_, t) :: vs, A, B => leC t A B fun A' B' => leV vs A' B'

theorem apS_le {t : STy} {R : Type} {A B : CurS t R} {v : Value} {k : R → Prop} {k2 : R → R → Prop} {j : R → Prop} (h : apS t A v k) (g : leS t A B k2) (hj : ∀ a b, k2 a b → k a → j b) : apS t B v j := by
 cases t with
 | int i =>
  cases v with
  | int l m =>
   simp only [apS] at h ⊢
   cases hb : decide (l = i) with
   | true => simp only [hb] at h ⊢; exact hj _ _ (g _) h
   | false => simp only [hb] at h
  | _ => exact h.elim
 | any => exact hj _ _ (g _) h
 | slice =>
  simp only [apS] at h
  simp only [apS]
  split at h <;> first | exact hj _ _ (g _ _ _) h | exact h.elim
 | _ =>
  simp only [apS] at h
  simp only [apS]
  split at h <;> first | exact hj _ _ (g _) h | exact h.elim
theorem apL_le : ∀ {ts : List STy} {R : Type} {A B : CurL ts R} {vs : List Value} {k : R → Prop} {k2 : R → R → Prop} {j : R → Prop}, apL ts A vs k → leL ts A B k2 → (∀ a b, k2 a b → k a → j b) → apL ts B vs j
 | [], _, _, _, vs, _, _, _, h, g, hj => by
  cases vs with
  | nil => exact hj _ _ g h
  | cons v vs => exact h.elim
 | t :: ts, _, _, _, vs, _, _, _, h, g, hj => by
  cases vs with
  | nil => exact h.elim
  | cons v vs => exact apS_le (t := t) h g fun _ _ hg hk => apL_le hk hg hj
theorem apC_le {t : CTy} {R : Type} {A B : CurC t R} {v : Value} {k : R → Prop} {k2 : R → R → Prop} {j : R → Prop} (h : apC t A v k) (g : leC t A B k2) (hj : ∀ a b, k2 a b → k a → j b) : apC t B v j := by
 cases t with
 | s t => exact apS_le (t := t) h g hj
 | agg ts =>
  simp only [apC] at h ⊢
  split at h
  ·exact apL_le (ts := ts) h g hj
  ·exact h.elim
theorem leaf_le : ∀ {vars : List (Nat × CTy)} {A B : CurV vars} {ρ : Fr} {w : World}, leV vars A B → leaf vars A ρ w → leaf vars B ρ w
 | [], _, _, _, _, g, h => g _ h
 | (_, t) :: _, _, _, _, _, g, h => apC_le (t := t) h g fun _ _ hg hk => leaf_le hg hk

theorem allS_mono {t : STy} {R : Type} {A : CurS t R} {K K' : Value → R → Prop} (hk : ∀ v f, K v f → K' v f) (h : allS t A K) : allS t A K' := by
 cases t <;> simp only [allS] at h ⊢ <;> intros <;> exact hk _ _ (h ..)
theorem leS_mk {t : STy} {R : Type} {A : CurS t R} {g : Value → R} {k : R → R → Prop} (h : allS t A fun v A' => k A' (g v)) : leS t A (mkS t g) k := by
 cases t <;> exact h
theorem leL_mk : ∀ {ts : List STy} {R : Type} {A : CurL ts R} {g : List Value → R} {k : R → R → Prop}, (allL ts A fun v A' => k A' (g v)) → leL ts A (mkL ts g) k
 | [], _, _, _, _, h => h
 | t :: ts, _, _, _, _, h => by
  refine leS_mk (t := t) ?_
  exact allS_mono (t := t) (fun _ _ hh => leL_mk hh) h
theorem leC_mk {t : CTy} {R : Type} {A : CurC t R} {g : Value → R} {k : R → R → Prop} (h : allC t A fun v A' => k A' (g v)) : leC t A (mkC t g) k := by
 cases t with
 | s t => exact leS_mk h
 | agg ts => exact leL_mk h
theorem leV_of : ∀ {vars : List (Nat × CTy)} {B : CurV vars} {V : Fr → World → Prop}, (∀ ρ w, leaf vars B ρ w → V ρ w) → leV vars B (semF vars V)
 | [], _, _, h => fun w hb ρ => h ρ w hb
 | (i, t) :: _, _, _, h => leC_mk (t := t) (allC_intro fun v f hf => leV_of fun ρ w hl hv => h ρ w (by subst hv; exact hf _ hl))

def jumpF (l : Nat) (K : Fr → World → Prop) (Q : PostF) : PostF
 | .goto l', ρ, w => match Nat.beq l' l with
  | true => K ρ w
  | false => False
 | e, ρ, w => Q e ρ w
def JumpF (P : Program) (n : Nat) (c rest : Code) (Q : PostF) (ρ : Fr) (w : World) : Prop :=
 ∀ a, RelF n a ρ → ∀ (b : Frame) (k : List Item) (cs : List Frame),
  ∃ e a' w', liftQ n Q e a' w' ∧ Arrives P (lone (b.at a (.code rest :: .inScope c :: k)) cs w) b k cs e a' w'
theorem jump_pass {n l : Nat} {c rest : Code} {Q : PostF} (hf : findLabel c l = some rest) {m : Machine} {b : Frame} {k : List Item} {cs : List Frame} {e : Exit} {a₁ : Act} {w₁ : World} {ρ₁ : Fr}
 (hr₁ : RelF n a₁ ρ₁) (hq : jumpF l (JumpF P n c rest Q) Q e ρ₁ w₁) (harr : Arrives P m b (.inScope c :: k) cs e a₁ w₁) : ∃ e a' w', liftQ n Q e a' w' ∧ Arrives P m b k cs e a' w' := by
 cases e with
 | normal => exact ⟨.normal, a₁, w₁, ⟨ρ₁, hr₁, hq⟩, Steps.trans harr (.one step_inScope)⟩
 | exit id => exact ⟨.exit id, a₁, w₁, ⟨ρ₁, hr₁, hq⟩, fun k' hk => harr k' (by simp [exitTo, hk])⟩
 | goto l' =>
  simp only [jumpF] at hq
  split at hq
  ·rename_i hb
   have hl := Nat.eq_of_beq_eq_true hb
   subst hl
   obtain ⟨e₂, a₂, w₂, hq₂, harr₂⟩ := hq a₁ hr₁ b k cs
   exact ⟨e₂, a₂, w₂, hq₂, .of_steps (harr _ (by simp [gotoIn, hf])) harr₂⟩
  ·exact hq.elim
 | ret => exact ⟨_, a₁, w₁, ⟨ρ₁, hr₁, hq⟩, harr⟩
 | panic ch => exact ⟨_, a₁, w₁, ⟨ρ₁, hr₁, hq⟩, harr⟩
 | outgrown => exact ⟨_, a₁, w₁, ⟨ρ₁, hr₁, hq⟩, harr⟩
theorem WpF.scopeL {n l : Nat} {c rest : Code} {Q : PostF} {ρ : Fr} {w : World} (hf : findLabel c l = some rest)
 (h : WpF P n c (jumpF l (JumpF P n c rest Q) Q) ρ w) : WpF P n (.scope c) Q ρ w := by
 intro a hr b k cs
 obtain ⟨e, a₁, w₁, ⟨ρ₁, hr₁, hq⟩, harr⟩ := h a hr b (.inScope c :: k) cs
 obtain ⟨e₂, a₂, w₂, hq₂, harr₂⟩ := jump_pass hf hr₁ hq harr
 exact ⟨e₂, a₂, w₂, hq₂, .of_steps (.one step_scope) harr₂⟩
theorem JumpF.unfold {n l : Nat} {c rest : Code} {Q : PostF} {ρ : Fr} {w : World} (hf : findLabel c l = some rest)
 (h : WpF P n rest (jumpF l (JumpF P n c rest Q) Q) ρ w) : JumpF P n c rest Q ρ w := by
 intro a hr b k cs
 obtain ⟨e, a₁, w₁, ⟨ρ₁, hr₁, hq⟩, harr⟩ := h a hr b (.inScope c :: k) cs
 exact jump_pass hf hr₁ hq harr

inductive AC where
 | leaf (c : Code)
 | seq (x y : AC)
  | mark (K : Fr → World → Prop) (x : AC)
 | cond (t : Nat) (x y : AC)
 | block (id : Nat) (x : AC)
 | scope (x : AC)
 | loop (K : Fr → World → Prop) (c : Code)
  | given (F : (Fr → World → Prop) → Fr → World → Prop) (c : Code)
  | draw (pl : RPlan) (c : Code)
  | jump (l : Nat) (K : Fr → World → Prop) (x : AC)
def AC.erase : AC → Code
 | .leaf c => c
 | .seq x y => .seq x.erase y.erase
 | .mark _ x => x.erase
 | .cond t x y => .cond (.tmp t) x.erase y.erase
 | .block id x => .block id x.erase
 | .scope x => .scope x.erase
 | .loop _ c => .loop c
 | .given _ c => c
 | .draw _ c => c
 | .jump _ _ x => .scope x.erase
def drawA (P : Program) (n : Nat) (pl : RPlan) (c : Code) (Q : Fr → World → Prop) (ρ : Fr) (w : World) : Prop :=
 match c with
 | .region _ ops d => match d with
  | true => drawV P n ops pl Q ρ w
  | false => False
 | _ => False
def drawOk (pl : RPlan) : Code → Bool
 | .region _ ops d => d && Region.noSelect ops && Nat.ble pl.depth ops.size
 | _ => false
def vcA (P : Program) (n : Nat) : AC → PostF → Fr → World → Prop
 | .leaf c, Q, ρ, w => vcC P n c Q ρ w
 | .seq x y, Q, ρ, w => vcA P n x (thenF (vcA P n y Q) Q) ρ w
 | .mark K _, _, ρ, w => K ρ w
 | .cond t x y, Q, ρ, w => match ρ t with
  | .bool b => match b with
   | true => vcA P n x Q (upd ρ t (.bool true)) w
   | false => vcA P n y Q (upd ρ t (.bool false)) w
  | _ => False
 | .block id x, Q, ρ, w => vcA P n x (blockF id Q) ρ w
 | .scope x, Q, ρ, w => vcA P n x (noGotoF Q) ρ w
 | .loop K _, _, ρ, w => K ρ w
 | .given F _, Q, ρ, w => F (Q .normal) ρ w
 | .draw pl c, Q, ρ, w => drawA P n pl c (Q .normal) ρ w
 | .jump l K x, Q, ρ, w => vcA P n x (jumpF l K Q) ρ w
def Good (P : Program) (n : Nat) : AC → PostF → Prop
 | .leaf _, _ => True
 | .seq x y, Q => Good P n x (thenF (vcA P n y Q) Q) ∧ Good P n y Q
 | .mark K x, Q => Good P n x Q ∧ ∀ ρ w, K ρ w → vcA P n x Q ρ w
 | .cond _ x y, Q => Good P n x Q ∧ Good P n y Q
 | .block id x, Q => Good P n x (blockF id Q)
 | .scope x, Q => Good P n x (noGotoF Q)
 | .loop K c, Q => ∀ ρ w, K ρ w → LoopF P n c Q ρ w
 | .given F c, Q => ∀ ρ w, F (Q .normal) ρ w → WpF P n c Q ρ w
 | .jump l K x, Q => Good P n x (jumpF l K Q) ∧ ∃ rest, findLabel x.erase l = some rest ∧ ∀ ρ w, K ρ w → JumpF P n x.erase rest Q ρ w
 | .draw pl c, Q => P.follows .mixedOrders = true ∧ drawOk pl c = true ∧ ∀ c ρ w, ¬ Q (.panic c) ρ w

theorem vcA_sound {n : Nat} : ∀ (x : AC) {Q : PostF} {ρ : Fr} {w : World}, Good P n x Q → vcA P n x Q ρ w → WpF P n x.erase Q ρ w := by
 intro x
 induction x with
 | leaf c => exact fun _ h => vcC_sound c h
 | seq x y ihx ihy => exact fun g h => WpF.seq (ihx g.1 h) (fun _ _ hk => ihy g.2 hk)
 | mark K x ih => exact fun g h => ih g.1 (g.2 _ _ h)
 | cond t x y ihx ihy =>
  intro Q ρ w g h
  unfold vcA at h
  split at h
  ·rename_i b hb
   refine WpF.cond hb ?_
   cases b with
   | true => exact ihx g.1 h
   | false => exact ihy g.2 h
  ·exact h.elim
 | block id x ih => exact fun g h => WpF.block (ih g h)
 | scope x ih => exact fun g h => WpF.scope (ih g h)
 | loop K c => exact fun g h => LoopF.wp (g _ _ h)
 | given F c => exact fun g h => g _ _ h
 | jump l K x ih =>
  intro Q ρ w ⟨g, rest, hf, hj⟩ h
  refine WpF.scopeL hf (WpF.mono (ih g h) fun e ρ w hq => ?_)
  cases e <;> first | exact hq | skip
  simp only [jumpF] at hq ⊢
  split at hq
  ·exact hj _ _ hq
  ·exact hq.elim
 | draw pl c =>
  intro Q ρ w ⟨hm, hk, hq⟩ h
  cases c <;> first | exact h.elim | skip
  rename_i id ops d
  cases d
  ·exact h.elim
  ·simp only [drawOk, Bool.true_and, Bool.and_eq_true] at hk
   exact drawV_sound hm hk.1 hq hk.2 h

theorem loopG {n : Nat} {vars : List (Nat × CTy)} {c : Code} {Q : PostF} {L : CurV vars} (ax : CurV vars → AC) (B : CurV vars → CurV vars)
 (he : ∀ X, (ax X).erase = c) (hg : ∀ X, Good P n (ax X) (thenF (leaf vars X) Q)) (hB : ∀ X, allE vars (B X) (vcA P n (ax X) (thenF (leaf vars X) Q)))
 (hL : ∀ X, leV vars (B X) X → leV vars L X) : ∀ ρ w, leaf vars L ρ w → LoopF P n c Q ρ w := by
 intro ρ w h
 have key : ∀ ρ w, leaf vars (B (semF vars (LoopF P n c Q))) ρ w → LoopF P n c Q ρ w := by
  intro ρ w hb
  refine LoopF.unfold (WpF.mono (Q := thenF (leaf vars (semF vars (LoopF P n c Q))) Q) ?_ ?_)
  ·have h1 := vcA_sound _ (hg (semF vars (LoopF P n c Q))) (cutE (hB _) ρ w hb)
   rwa [he] at h1
  ·intro e ρ w hq
   cases e <;> first | exact sem_out _ _ hq | exact hq
 exact sem_out ρ w (leaf_le (hL _ (leV_of key)) h)

theorem jumpG {n l : Nat} {vars : List (Nat × CTy)} {c rest : Code} {Q : PostF} {L : CurV vars} (ax : CurV vars → AC) (B : CurV vars → CurV vars) (hf : findLabel c l = some rest)
 (he : ∀ X, (ax X).erase = rest) (hg : ∀ X, Good P n (ax X) (jumpF l (leaf vars X) Q)) (hB : ∀ X, allE vars (B X) (vcA P n (ax X) (jumpF l (leaf vars X) Q)))
 (hL : ∀ X, leV vars (B X) X → leV vars L X) : ∀ ρ w, leaf vars L ρ w → JumpF P n c rest Q ρ w := by
 intro ρ w h
 have key : ∀ ρ w, leaf vars (B (semF vars (JumpF P n c rest Q))) ρ w → JumpF P n c rest Q ρ w := by
  intro ρ w hb
  refine JumpF.unfold hf (WpF.mono (Q := jumpF l (leaf vars (semF vars (JumpF P n c rest Q))) Q) ?_ ?_)
  ·have h1 := vcA_sound _ (hg (semF vars (JumpF P n c rest Q))) (cutE (hB _) ρ w hb)
   rwa [he] at h1
  ·intro e ρ w hq
   cases e <;> first | exact hq | skip
   simp only [jumpF] at hq ⊢
   split at hq
   ·exact sem_out _ _ hq
   ·exact hq.elim
 exact sem_out ρ w (leaf_le (hL _ (leV_of key)) h)
theorem jumpK {n l : Nat} {c rest : Code} {Q : PostF} {K : Fr → World → Prop} (y : AC) (hf : findLabel c l = some rest) (he : y.erase = rest) (hg : Good P n y (noGotoF Q))
 (h : ∀ ρ w, K ρ w → vcA P n y (noGotoF Q) ρ w) : ∀ ρ w, K ρ w → JumpF P n c rest Q ρ w := by
 intro ρ w hk
 refine JumpF.unfold hf (WpF.mono (Q := noGotoF Q) ?_ ?_)
 ·rw [← he]; exact vcA_sound _ hg (h _ _ hk)
 ·intro e ρ w hq
  cases e <;> first | exact hq | exact hq.elim

def sel : List Nat → Code → Code
 | [], c => c
 | 0 :: p, .seq x _ => sel p x
 | 1 :: p, .seq _ y => sel p y
 | 0 :: p, .cond _ x _ => sel p x
 | 1 :: p, .cond _ _ y => sel p y
 | 0 :: p, .block _ x => sel p x
 | 0 :: p, .loop x => sel p x
 | 0 :: p, .scope x => sel p x
 | _, _ => .skip
def bodyOf (fn : Func) : Code :=
 match fn.body with
 | some c => c
 | none => .skip
def retV (P : Program) : List ResultVar → Fr → World → (List Value → Prop) → Prop
 | [], _, _, K => K []
 | .tmp t :: rs, ρ, w, K => retV P rs ρ w fun vs => K (ρ t :: vs)
 | .cell t ty :: rs, ρ, w, K => match ρ t with
  | .pointer (some a) => loadV P ty a w fun v => retV P rs ρ w fun vs => K (v :: vs)
  | _ => False
def oneOf : List Value → Value
 | [v] => v
 | vs => .tuple vs.toArray
def QF (P : Program) (rs : List ResultVar) (R : Ending → World → Prop) : PostF
 | .normal, ρ, w => retV P rs ρ w fun vs => R (.returned (oneOf vs)) w
 | .ret, ρ, w => retV P rs ρ w fun vs => R (.returned (oneOf vs)) w
 | _, _, _ => False
def fr0 (args : List Value) : Fr := fun t => args.getD t undef

theorem retV_out {n : Nat} {a : Act} {ρ : Fr} (hr : RelF n a ρ) : ∀ {rs : List ResultVar} {w : World} {K : List Value → Prop}, retV P rs ρ w K →
 ∃ vs, K vs ∧ vs.length = rs.length ∧ (rs.mapM (m := Sem) fun
  | .tmp t => pure (a.tmps.getD t undef)
  | .cell x t => do loadVar t (← asAddr (a.tmps.getD x undef))).run P w = .ok vs w
 | [], w, _, h => ⟨[], h, rfl, rfl⟩
 | .tmp t :: rs, w, K, h => by
  obtain ⟨vs, hk, hl, hm⟩ := retV_out hr (rs := rs) h
  refine ⟨_, hk, by simp [hl], ?_⟩
  simp only [List.mapM_cons, Sem.run_bind, hr.get]
  rw [show (pure (ρ t) : Sem Value).run P w = .ok (ρ t) w from rfl]
  simp only [Result.andThen_ok]
  simp only [hr.get] at hm
  rw [hm]
  rfl
 | .cell t ty :: rs, w, K, h => by
  unfold retV at h
  split at h
  ·rename_i ad had
   obtain ⟨v, h, hv⟩ := loadV_out h
   obtain ⟨vs, hk, hl, hm⟩ := retV_out hr (rs := rs) h
   refine ⟨_, hk, by simp [hl], ?_⟩
   simp only [List.mapM_cons, Sem.run_bind, hr.get, had]
   rw [show (asAddr (.pointer (some ad))).run P w = .ok ad w from rfl]
   simp only [Result.andThen_ok, hv]
   simp only [hr.get] at hm
   rw [hm]
   rfl
  ·exact h.elim

theorem callE_of {f : FuncId} {fn : Func} {args : Array Value} {R : Ending → World → Prop} {w : World} (hf : P.funcs[f]? = some fn)
 (hb : fn.body = some (bodyOf fn)) (hc : ∀ args w, (callFunc f args).run P w = .ok (.enter f args) w) (hn : args.size ≤ fn.ntmps)
 (h : WpF P fn.ntmps (bodyOf fn) (QF P fn.results.toList R) (fr0 args.toList) w) : callE P f args R w := by
 refine .inl ⟨hc, calls_of_wp hf hb (Code.wp_mono (fun e a w' hq => ?_) (h _ ⟨by simp; omega, rfl, fun t => ?_⟩))⟩
 ·obtain ⟨ρ, hr, hq⟩ := hq
  have fin : ∀ {w'}, (retV P fn.results.toList ρ w' fun vs => R (.returned (oneOf vs)) w') → a.defers = [] ∧ ∃ v, (results fn a.tmps).run P w' = .ok v w' ∧ R (.returned v) w' := by
   intro w' hq
   obtain ⟨vs, hk, hl, hm⟩ := retV_out hr hq
   refine ⟨hr.defers, _, ?_, hk⟩
   unfold results
   rw [Array.mapM_eq_mapM_toList, Sem.run_bind, map_eq_pure_bind, Sem.run_bind]
   erw [hm]
   simp only [Result.andThen_ok, pure, Sem.run]
   match vs, hl with
   | [], _ => rfl
   | [v], _ => rfl
   | v :: u :: vs, _ =>
    have : ¬ (List.toArray (v :: u :: vs)).size = 1 := by simp
    rw [dif_neg this]
    rfl
  cases e <;> first | exact fin hq | exact hq.elim
 ·simp only [fr0, Array.getD_eq_getD_getElem?, List.getD_eq_getElem?_getD]
  rcases Nat.lt_or_ge t args.size with hlt | hge
  ·rw [Array.getElem?_append_left hlt]; simp
  ·rw [Array.getElem?_append_right hge]
   simp only [Array.getElem?_toList, Array.getElem?_eq_none hge, Option.getD_none]
   simp only [Array.getElem?_replicate]
   split <;> rfl

theorem vcA_fin {n : Nat} {x : AC} {Q : PostF} {ρ : Fr} {w : World} {c : Code} (g : Good P n x Q) (he : x.erase = c) (h : vcA P n x Q ρ w) : WpF P n c Q ρ w :=
 he ▸ vcA_sound x g h

theorem callE_fin {f : FuncId} {fn : Func} {n : Nat} {c : Code} {rs : List ResultVar} {args : List Value} {R : Ending → World → Prop} {w : World} {x : AC}
 (hf : P.funcs[f]? = some fn) (hc : ∀ args w, (callFunc f args).run P w = .ok (.enter f args) w) (hb : fn.body = some c) (hn : fn.ntmps = n) (hrs : fn.results.toList = rs)
 (hle : Nat.ble args.length n = true) (he : x.erase = c) (g : Good P n x (QF P rs R)) {A : Prop} (e : A = vcA P n x (QF P rs R) (fr0 args) w) (h : A) : callE P f args.toArray R w := by
 have hbody : bodyOf fn = c := by unfold bodyOf; rw [hb]
 subst hn hrs
 refine callE_of hf (by rw [hb, hbody]) hc (by simpa using Nat.le_of_ble_eq_true hle) ?_
 rw [hbody]
 exact vcA_fin g he (e ▸ h)

theorem callE_fz {f : FuncId} {fn : Func} {n : Nat} {c : Code} {rs : List ResultVar} {args : List Value} {R : Ending → World → Prop} {w : World} {x : AC}
 (hf : P.funcs[f]? = some fn) (hc : ∀ args w, (callFunc f args).run P w = .ok (.enter f args) w) (g : Good P n x (QF P rs R)) {A : Prop} (e : A = vcA P n x (QF P rs R) (fr0 args) w) (h : A)
 (hb : fn.body = some c := by kernel_rfl) (hn : fn.ntmps = n := by kernel_rfl) (hrs : fn.results.toList = rs := by kernel_rfl) (hle : Nat.ble args.length n = true := by kernel_rfl) (he : x.erase = c := by kernel_rfl) : callE P f args.toArray R w :=
 callE_fin hf hc hb hn hrs hle he g e h
theorem cutZ {vars : List (Nat × CTy)} {F : CurV vars} {V : Fr → World → Prop} (g : allE vars F V := by (repeat intro); kernel_rfl) : ∀ ρ w, leaf vars F ρ w → V ρ w := cutE g

def tick (w : World) : World := { w with drawn := w.drawn + 1 }
def tk (w : World) (K : World → Prop) : Prop := K (tick w)
def br (c : Bool) (A B : Prop) : Prop :=
 match c with
 | true => A
 | false => B
def box (w : World) (cs : Array Value) (e : TypeId) (K : Nat → World → Prop) : Prop := ∀ b, w.heap.size = b → K b (alc w cs e)
def bitAnd (k : IntKind) (x y : Int) : Int := k.wrap ((BitVec.ofInt k.bits x &&& BitVec.ofInt k.bits y).toNat)
structure N16 where
 a0 : Int := 0
 a1 : ByteArray := ⟨#[]⟩
 a2 : ByteArray := ⟨#[]⟩
 a3 : Int := 0
 a4 : ByteArray := ⟨#[]⟩
 a5 : Bool := false
 q6 : Option Addr := none
 n6 : Nat := 0
 c6 : Nat := 0
 q7 : Option Addr := none
 n7 : Nat := 0
 c7 : Nat := 0
 a8 : Int := 0
 a9 : Int := 0
 a10 : ByteArray := ⟨#[]⟩
 a11 : Int := 0
 a12 : Bool := false
 a13 : Bool := false
 a14 : Bool := false
 q15 : Option Addr := none
 n15 : Nat := 0
 c15 : Nat := 0
def N16.C (v : N16) : Array Value := #[.int .i64 v.a0, .string v.a1, .string v.a2, .int .i64 v.a3, .string v.a4, .bool v.a5, .slice v.q6 v.n6 v.c6, .slice v.q7 v.n7 v.c7, .int .i64 v.a8, .int .i64 v.a9, .string v.a10, .int .i64 v.a11, .bool v.a12, .bool v.a13, .bool v.a14, .slice v.q15 v.n15 v.c15]
abbrev N16.V (v : N16) : Value := .agg v.C
def ld16 (w : World) (A : Nat → Addr) (K : N16 → Prop) : Prop :=
 ∃ (a0 : Int), w.cell? (A 0) = some (.int .i64 a0) ∧
 ∃ (a1 : ByteArray), w.cell? (A 1) = some (.string a1) ∧
 ∃ (a2 : ByteArray), w.cell? (A 2) = some (.string a2) ∧
 ∃ (a3 : Int), w.cell? (A 3) = some (.int .i64 a3) ∧
 ∃ (a4 : ByteArray), w.cell? (A 4) = some (.string a4) ∧
 ∃ (a5 : Bool), w.cell? (A 5) = some (.bool a5) ∧
 ∃ (q6 : Option Addr), ∃ (n6 : Nat), ∃ (c6 : Nat), w.cell? (A 6) = some (.slice q6 n6 c6) ∧
 ∃ (q7 : Option Addr), ∃ (n7 : Nat), ∃ (c7 : Nat), w.cell? (A 7) = some (.slice q7 n7 c7) ∧
 ∃ (a8 : Int), w.cell? (A 8) = some (.int .i64 a8) ∧
 ∃ (a9 : Int), w.cell? (A 9) = some (.int .i64 a9) ∧
 ∃ (a10 : ByteArray), w.cell? (A 10) = some (.string a10) ∧
 ∃ (a11 : Int), w.cell? (A 11) = some (.int .i64 a11) ∧
 ∃ (a12 : Bool), w.cell? (A 12) = some (.bool a12) ∧
 ∃ (a13 : Bool), w.cell? (A 13) = some (.bool a13) ∧
 ∃ (a14 : Bool), w.cell? (A 14) = some (.bool a14) ∧
 ∃ (q15 : Option Addr), ∃ (n15 : Nat), ∃ (c15 : Nat), w.cell? (A 15) = some (.slice q15 n15 c15) ∧
 K ⟨a0, a1, a2, a3, a4, a5, q6, n6, c6, q7, n7, c7, a8, a9, a10, a11, a12, a13, a14, q15, n15, c15⟩
def ldB16 (w : World) (b : Nat) (K : N16 → Prop) : Prop := ld16 w (fun i => ⟨b, i, none⟩) K
def ldA16 (w : World) (a : Addr) (K : N16 → Prop) : Prop := ld16 w (fun i => a.add i) K
def st16 (w : World) (b : Nat) (v : N16) (K : World → Prop) : Prop :=
 stV w ⟨b, 0, none⟩ (.int .i64 v.a0) fun w =>
 stV w ⟨b, 1, none⟩ (.string v.a1) fun w =>
 stV w ⟨b, 2, none⟩ (.string v.a2) fun w =>
 stV w ⟨b, 3, none⟩ (.int .i64 v.a3) fun w =>
 stV w ⟨b, 4, none⟩ (.string v.a4) fun w =>
 stV w ⟨b, 5, none⟩ (.bool v.a5) fun w =>
 stV w ⟨b, 6, none⟩ (.slice v.q6 v.n6 v.c6) fun w =>
 stV w ⟨b, 7, none⟩ (.slice v.q7 v.n7 v.c7) fun w =>
 stV w ⟨b, 8, none⟩ (.int .i64 v.a8) fun w =>
 stV w ⟨b, 9, none⟩ (.int .i64 v.a9) fun w =>
 stV w ⟨b, 10, none⟩ (.string v.a10) fun w =>
 stV w ⟨b, 11, none⟩ (.int .i64 v.a11) fun w =>
 stV w ⟨b, 12, none⟩ (.bool v.a12) fun w =>
 stV w ⟨b, 13, none⟩ (.bool v.a13) fun w =>
 stV w ⟨b, 14, none⟩ (.bool v.a14) fun w =>
 stV w ⟨b, 15, none⟩ (.slice v.q15 v.n15 v.c15) fun w =>
 K w
def rt16 (e : Ending) (K : N16 → Prop) : Prop :=
 ∃ (a0 : Int), ∃ (a1 : ByteArray), ∃ (a2 : ByteArray), ∃ (a3 : Int), ∃ (a4 : ByteArray), ∃ (a5 : Bool), ∃ (q6 : Option Addr), ∃ (n6 : Nat), ∃ (c6 : Nat), ∃ (q7 : Option Addr), ∃ (n7 : Nat), ∃ (c7 : Nat), ∃ (a8 : Int), ∃ (a9 : Int), ∃ (a10 : ByteArray), ∃ (a11 : Int), ∃ (a12 : Bool), ∃ (a13 : Bool), ∃ (a14 : Bool), ∃ (q15 : Option Addr), ∃ (n15 : Nat), ∃ (c15 : Nat), e = .returned (.agg #[.int .i64 a0, .string a1, .string a2, .int .i64 a3, .string a4, .bool a5, .slice q6 n6 c6, .slice q7 n7 c7, .int .i64 a8, .int .i64 a9, .string a10, .int .i64 a11, .bool a12, .bool a13, .bool a14, .slice q15 n15 c15]) ∧
 K ⟨a0, a1, a2, a3, a4, a5, q6, n6, c6, q7, n7, c7, a8, a9, a10, a11, a12, a13, a14, q15, n15, c15⟩
structure N10 where
 a0 : Int := 0
 a1 : ByteArray := ⟨#[]⟩
 a2 : ByteArray := ⟨#[]⟩
 a3 : Int := 0
 a4 : ByteArray := ⟨#[]⟩
 a5 : Bool := false
 q6 : Option Addr := none
 n6 : Nat := 0
 c6 : Nat := 0
 q7 : Option Addr := none
 n7 : Nat := 0
 c7 : Nat := 0
 a8 : Int := 0
 a9 : Int := 0
def N10.C (v : N10) : Array Value := #[.int .i64 v.a0, .string v.a1, .string v.a2, .int .i64 v.a3, .string v.a4, .bool v.a5, .slice v.q6 v.n6 v.c6, .slice v.q7 v.n7 v.c7, .int .i64 v.a8, .int .i64 v.a9]
abbrev N10.V (v : N10) : Value := .agg v.C
def ld10 (w : World) (A : Nat → Addr) (K : N10 → Prop) : Prop :=
 ∃ (a0 : Int), w.cell? (A 0) = some (.int .i64 a0) ∧
 ∃ (a1 : ByteArray), w.cell? (A 1) = some (.string a1) ∧
 ∃ (a2 : ByteArray), w.cell? (A 2) = some (.string a2) ∧
 ∃ (a3 : Int), w.cell? (A 3) = some (.int .i64 a3) ∧
 ∃ (a4 : ByteArray), w.cell? (A 4) = some (.string a4) ∧
 ∃ (a5 : Bool), w.cell? (A 5) = some (.bool a5) ∧
 ∃ (q6 : Option Addr), ∃ (n6 : Nat), ∃ (c6 : Nat), w.cell? (A 6) = some (.slice q6 n6 c6) ∧
 ∃ (q7 : Option Addr), ∃ (n7 : Nat), ∃ (c7 : Nat), w.cell? (A 7) = some (.slice q7 n7 c7) ∧
 ∃ (a8 : Int), w.cell? (A 8) = some (.int .i64 a8) ∧
 ∃ (a9 : Int), w.cell? (A 9) = some (.int .i64 a9) ∧
 K ⟨a0, a1, a2, a3, a4, a5, q6, n6, c6, q7, n7, c7, a8, a9⟩
def ldB10 (w : World) (b : Nat) (K : N10 → Prop) : Prop := ld10 w (fun i => ⟨b, i, none⟩) K
def ldA10 (w : World) (a : Addr) (K : N10 → Prop) : Prop := ld10 w (fun i => a.add i) K
def st10 (w : World) (b : Nat) (v : N10) (K : World → Prop) : Prop :=
 stV w ⟨b, 0, none⟩ (.int .i64 v.a0) fun w =>
 stV w ⟨b, 1, none⟩ (.string v.a1) fun w =>
 stV w ⟨b, 2, none⟩ (.string v.a2) fun w =>
 stV w ⟨b, 3, none⟩ (.int .i64 v.a3) fun w =>
 stV w ⟨b, 4, none⟩ (.string v.a4) fun w =>
 stV w ⟨b, 5, none⟩ (.bool v.a5) fun w =>
 stV w ⟨b, 6, none⟩ (.slice v.q6 v.n6 v.c6) fun w =>
 stV w ⟨b, 7, none⟩ (.slice v.q7 v.n7 v.c7) fun w =>
 stV w ⟨b, 8, none⟩ (.int .i64 v.a8) fun w =>
 stV w ⟨b, 9, none⟩ (.int .i64 v.a9) fun w =>
 K w
def rt10 (e : Ending) (K : N10 → Prop) : Prop :=
 ∃ (a0 : Int), ∃ (a1 : ByteArray), ∃ (a2 : ByteArray), ∃ (a3 : Int), ∃ (a4 : ByteArray), ∃ (a5 : Bool), ∃ (q6 : Option Addr), ∃ (n6 : Nat), ∃ (c6 : Nat), ∃ (q7 : Option Addr), ∃ (n7 : Nat), ∃ (c7 : Nat), ∃ (a8 : Int), ∃ (a9 : Int), e = .returned (.agg #[.int .i64 a0, .string a1, .string a2, .int .i64 a3, .string a4, .bool a5, .slice q6 n6 c6, .slice q7 n7 c7, .int .i64 a8, .int .i64 a9]) ∧
 K ⟨a0, a1, a2, a3, a4, a5, q6, n6, c6, q7, n7, c7, a8, a9⟩
end Go.Proofs.YtgbgadkldalkbaaGreatDoor


namespace Go.Proofs.YtgbgadkldalkbaaGreatDoor
variable {P : Program}

structure Out where
 os : Os
 output : Array (Nat × ByteArray)
abbrev Chunk := Nat × Obj
def cel (cs : List Value) (e : TypeId) : Obj := .cells cs.toArray e
structure Sat (σ : Out) (w : World) (L : List Chunk) : Prop where
 os : w.os = σ.os
 out : w.output = σ.output
 nodup : (L.map Prod.fst).Nodup
 at_ : ∀ c ∈ L, w.heap[c.1]? = some c.2
variable {σ : Out} {w : World} {L L' : List Chunk}

theorem Sat.lt (h : Sat σ w L) {c : Chunk} (hc : c ∈ L) : c.1 < w.heap.size := (Array.getElem?_eq_some_iff.1 (h.at_ c hc)).1
theorem Sat.perm (h : Sat σ w L) (hp : L.Perm L') : Sat σ w L' :=
 ⟨h.os, h.out, (hp.map Prod.fst).nodup_iff.1 h.nodup, fun c hc => h.at_ c (hp.mem_iff.2 hc)⟩
theorem Sat.sub (h : Sat σ w L) (hp : L'.Sublist L) : Sat σ w L' :=
 ⟨h.os, h.out, h.nodup.sublist (hp.map Prod.fst), fun c hc => h.at_ c (hp.subset hc)⟩
theorem Sat.right {A : List Chunk} (h : Sat σ w (A ++ L)) : Sat σ w L := h.sub (List.sublist_append_right A L)
theorem Sat.tail {c : Chunk} (h : Sat σ w (c :: L)) : Sat σ w L := h.sub (List.sublist_cons_self c L)
theorem Sat.tick (h : Sat σ w L) : Sat σ (tick w) L := ⟨h.os, h.out, h.nodup, h.at_⟩
theorem Sat.drew (h : Sat σ w L) : Sat σ w.drew L := ⟨h.os, h.out, h.nodup, h.at_⟩
theorem Sat.tk (h : Sat σ w L) {K : World → Prop} (hK : ∀ w', Sat σ w' L → K w') : YtgbgadkldalkbaaGreatDoor.tk w K := hK _ h.tick
theorem cell_of_heap {b i : Nat} {cs : Array Value} {e : TypeId} {fr : Nat × Nat} (h : w.heap[b]? = some (.cells cs e fr)) : w.cell? ⟨b, i, none⟩ = cs[i]? := by
 simp [World.cell?, h]
theorem Sat.ld (h : Sat σ w L) {b i : Nat} {cs : List Value} {e : TypeId} {v : Value} (hm : (b, cel cs e) ∈ L) (hv : cs[i]? = some v) : w.cell? ⟨b, i, none⟩ = some v := by
 rw [cell_of_heap (h.at_ _ hm)]; simpa using hv

theorem Sat.set (h : Sat σ w L) {k b i : Nat} {cs : List Value} {e : TypeId} (v : Value) (hk : L[k]? = some (b, cel cs e)) :
 Sat σ (w.setCell ⟨b, i, none⟩ v) (L.set k (b, cel (cs.set i v) e)) := by
 have hkl := (List.getElem?_eq_some_iff.1 hk).1
 have hke := (List.getElem?_eq_some_iff.1 hk).2
 have hmap : (L.set k (b, cel (cs.set i v) e)).map Prod.fst = L.map Prod.fst := by
  rw [List.map_set]
  apply List.ext_getElem?
  intro j
  rw [List.getElem?_set]
  split
  ·rename_i hj; subst hj; simp [hkl, hke]
  ·rfl
 refine ⟨h.os, h.out, by rw [hmap]; exact h.nodup, fun c hc => ?_⟩
 obtain ⟨j, hj⟩ := List.mem_iff_getElem?.1 hc
 rw [List.getElem?_set] at hj
 have hb := h.at_ _ (List.mem_of_getElem? hk)
 have hbl := (Array.getElem?_eq_some_iff.1 hb).1
 split at hj
 ·rename_i hjk
  subst hjk
  simp only [Option.some.injEq] at hj
  subst hj
  simp only [World.setCell, Array.getElem?_modify, hb, if_true, Option.map_some]
  simp [cel]
 ·rename_i hjk
  have hm := List.mem_of_getElem? hj
  have hne : b ≠ c.1 := by
   intro hbc
   have hjl := (List.getElem?_eq_some_iff.1 hj).1
   have hje := (List.getElem?_eq_some_iff.1 hj).2
   have h1 : (L.map Prod.fst)[k]'(by simpa using hkl) = (L.map Prod.fst)[j]'(by simpa using hjl) := by simp [hke, hje, hbc]
   exact hjk ((List.getElem_inj h.nodup).1 h1)
  simp only [World.setCell, Array.getElem?_modify]
  rw [if_neg hne]
  exact h.at_ _ hm
theorem Sat.not_frozen (h : Sat σ w L) {b i : Nat} {cs : List Value} {e : TypeId} (hm : (b, cel cs e) ∈ L) : w.frozen? ⟨b, i, none⟩ = false := by
 have := h.at_ _ hm
 simp only [cel] at this
 simp [World.frozen?, this]
theorem Sat.st (h : Sat σ w L) {k b i : Nat} {cs : List Value} {e : TypeId} {v : Value} {K : World → Prop} (hk : L[k]? = some (b, cel cs e)) (hi : i < cs.length) (h1 : OneCell v)
 (hL : L.set k (b, cel (cs.set i v) e) = L') (hK : ∀ w', Sat σ w' L' → K w') : stV w ⟨b, i, none⟩ v K :=
 ⟨h1, ⟨_, h.ld (List.mem_of_getElem? hk) (List.getElem?_eq_getElem hi)⟩, h.not_frozen (List.mem_of_getElem? hk), hK _ (by rw [← hL]; exact h.set v hk)⟩

theorem Sat.ldA (h : Sat σ w L) {b i : Nat} {cs : List Value} {e : TypeId} {v : Value} (hm : (b, cel cs e) ∈ L := by first | assumption | (repeat (first | exact .head _ | apply List.Mem.tail))) (hv : cs[i]? = some v := by exact rfl) : w.cell? ⟨b, i, none⟩ = some v := h.ld hm hv
theorem Sat.stA (h : Sat σ w L) (k : Nat) {b i : Nat} {cs : List Value} {e : TypeId} {v : Value} {K : World → Prop} (hK : ∀ w', Sat σ w' L' → K w') (hk : L[k]? = some (b, cel cs e) := by exact rfl) (hi : i < cs.length := by exact Nat.le_of_ble_eq_true rfl)
 (h1 : OneCell v := by exact trivial) (hL : L.set k (b, cel (cs.set i v) e) = L' := by first | (dsimp only [List.set]; exact rfl) | exact rfl) : stV w ⟨b, i, none⟩ v K := h.st hk hi h1 hL hK

theorem Sat.alc (h : Sat σ w L) (cs : List Value) (e : TypeId) : Sat σ (alc w cs.toArray e) ((w.heap.size, cel cs e) :: L) := by
 refine ⟨h.os, h.out, ?_, ?_⟩
 ·simp only [List.map_cons, List.nodup_cons]
  refine ⟨fun hm => ?_, h.nodup⟩
  obtain ⟨c, hc, he⟩ := List.mem_map.1 hm
  exact Nat.lt_irrefl _ (he ▸ h.lt hc)
 ·intro c hc
  cases hc with
  | head => exact (Array.getElem?_push_size ..).trans rfl
  | tail _ hc =>
   have := h.lt hc
   simp only [YtgbgadkldalkbaaGreatDoor.alc]
   rw [Array.getElem?_push_lt this, ← Array.getElem?_eq_getElem this]
   exact h.at_ _ hc
theorem Sat.bx (h : Sat σ w L) {cs : List Value} {e : TypeId} {K : Nat → World → Prop} (hK : ∀ b w', Sat σ w' ((b, cel cs e) :: L) → K b w') : box w cs.toArray e K := by
 intro b hb
 subst hb
 exact hK _ _ (h.alc cs e)

theorem br_true {c : Bool} {A B : Prop} (hc : c = true) (h : A) : br c A B := by subst hc; exact h
theorem br_false {c : Bool} {A B : Prop} (hc : c = false) (h : B) : br c A B := by subst hc; exact h
theorem br_split {c : Bool} {A B : Prop} (hA : c = true → A) (hB : c = false → B) : br c A B := by
 cases c with
 | true => exact hA rfl
 | false => exact hB rfl
theorem nilP_some {a : Addr} {K : Addr → Prop} (h : K a) : nilP (some a) K := h

def bs (l : List UInt8) : ByteArray := ⟨l.toArray⟩
@[simp] theorem bs_size (l : List UInt8) : (bs l).size = l.length := by simp [bs, ByteArray.size]
@[simp] theorem bs_data (l : List UInt8) : (bs l).data = l.toArray := rfl
theorem bs_append (a b : List UInt8) : bs a ++ bs b = bs (a ++ b) := by
 apply ByteArray.ext
 simp [bs]
theorem bs_extract (l : List UInt8) (i j : Nat) : (bs l).extract i j = bs ((l.take j).drop i) := by
 apply ByteArray.ext
 simp [bs, ByteArray.data_extract, List.extract_eq_take_drop, List.drop_take]
theorem bs_bt (l : List UInt8) (i : Nat) : bt (bs l) (i : Int) = ((l.getD i 0).toNat : Int) := by
 simp [bt, bs, Array.getD_eq_getD_getElem?, List.getD_eq_getElem?_getD]
theorem bs_loop (l : List UInt8) : ∀ (k i : Nat) (r : List UInt8), l.length - i = k → ByteArray.toList.loop (bs l) i r = r.reverse ++ l.drop i
 | 0, i, r, h => by
  unfold ByteArray.toList.loop
  rw [if_neg (by rw [bs_size]; omega), List.drop_eq_nil_of_le (by omega), List.append_nil]
 | k + 1, i, r, h => by
  have hi : i < l.length := by omega
  unfold ByteArray.toList.loop
  rw [if_pos (by rw [bs_size]; exact hi), bs_loop l k (i + 1) _ (by omega), List.drop_eq_getElem_cons hi]
  have hg : (bs l).get! i = l[i] := by
   show (l.toArray)[i]! = l[i]
   simp [hi]
  rw [hg]
  simp
theorem bs_toList (l : List UInt8) : (bs l).toList = l := by
 unfold ByteArray.toList
 rw [bs_loop l _ 0 [] rfl]
 simp

end Go.Proofs.YtgbgadkldalkbaaGreatDoor


set_option linter.unusedVariables false
namespace Go.Proofs.YtgbgadkldalkbaaGreatDoor
open Go.Proofs Go.IntWalk
variable {P : Program} {σ : Out} {w : World} {L L' : List Chunk} {R : Ending → World → Prop}

theorem i64_inc {n : Nat} (hn : n < 4611686018427387904) : IntKind.i64.wrap ((n : Int) + 1) = ((n + 1 : Nat) : Int) := by
 rw [i64_in _ (by omega)]; omega
theorem i64_dec {n : Nat} (hn : n < 4611686018427387904) (h0 : 0 < n) : IntKind.i64.wrap ((n : Int) - 1) = ((n - 1 : Nat) : Int) := by
 rw [i64_in _ (by omega)]; omega
theorem bt_at {l : List UInt8} {i : Nat} (hi : i < l.length) : bt (bs l) (i : Int) = (l[i].toNat : Int) := by
 rw [bs_bt, List.getD_eq_getElem?_getD, List.getElem?_eq_getElem hi]; rfl
theorem u8_beq (c d : UInt8) : (((c.toNat : Nat) : Int) == (d.toNat : Int)) = (c == d) := by
 rw [Bool.eq_iff_iff]
 simp only [beq_iff_eq, Int.ofNat_inj]
 exact ⟨fun h => UInt8.toNat.inj h, fun h => by rw [h]⟩
theorem bt_beq {l : List UInt8} {i : Nat} (hi : i < l.length) (d : UInt8) (n : Int) (hd : (d.toNat : Int) = n) : (bt (bs l) (i : Int) == n) = (l[i] == d) := by
 subst hd
 rw [bt_at hi, u8_beq]

theorem scanF {l : List UInt8} {p : UInt8 → Bool} {X : Nat → Prop} (step : ∀ i (h : i < l.length), p l[i] = true → X (i + 1) → X i) :
 ∀ i₀, i₀ ≤ l.length → (∀ i, i ≤ l.length → (∀ h : i < l.length, p l[i] = false) → l.drop i = (l.drop i₀).dropWhile p → X i) → X i₀ := by
 intro i₀
 generalize hn : l.length - i₀ = n
 induction n generalizing i₀ with
 | zero =>
  intro hi stop
  exact stop i₀ hi (fun h => by omega) (by rw [List.drop_eq_nil_of_le (by omega)]; rfl)
 | succ n ih =>
  intro hi stop
  have hl : i₀ < l.length := by omega
  have hd := List.drop_eq_getElem_cons hl
  cases hp : p l[i₀] with
  | true =>
   refine step i₀ hl hp (ih (i₀ + 1) (by omega) (by omega) fun i hi hf he => stop i hi hf ?_)
   rw [he, hd, List.dropWhile_cons_of_pos hp]
  | false => exact stop i₀ hi (fun _ => hp) (by rw [hd, List.dropWhile_cons_of_neg (by simp [hp])])
theorem mk_toList (a : Array UInt8) : (ByteArray.mk a).toList = a.toList := bs_toList a.toList
theorem bs_ext (l : List UInt8) (i : Nat) : (bs l).extract i l.length = bs (l.drop i) := by rw [bs_extract, List.take_length]
theorem Sat.up1 {a b : Chunk} (h : Sat σ w (a :: b :: L)) : Sat σ w (b :: a :: L) := h.perm (List.Perm.swap ..)
open Classical in
noncomputable def one (a c : Chunk) : Nat := if c = a then 1 else 0
noncomputable def cnt (a : Chunk) : List Chunk → Nat
 | [] => 0
 | c :: L => one a c + cnt a L
theorem cnt_nil (a : Chunk) : cnt a [] = 0 := rfl
theorem cnt_cons (a c : Chunk) (L : List Chunk) : cnt a (c :: L) = one a c + cnt a L := rfl
theorem cnt_append (a : Chunk) : ∀ (L M : List Chunk), cnt a (L ++ M) = cnt a L + cnt a M
 | [], M => by rw [List.nil_append, cnt_nil, Nat.zero_add]
 | c :: L, M => by rw [List.cons_append, cnt_cons, cnt_cons, cnt_append a L M, Nat.add_assoc]
theorem cnt_pos {a : Chunk} : ∀ {L : List Chunk}, 0 < cnt a L → a ∈ L
 | [], h => by simp [cnt] at h
 | c :: L, h => by
  by_cases hc : c = a
  ·rw [hc]; exact List.mem_cons_self ..
  ·rw [cnt_cons] at h
   simp only [one, if_neg hc, Nat.zero_add] at h
   exact List.mem_cons_of_mem _ (cnt_pos h)
theorem perm_of_cnt : ∀ {L M : List Chunk}, (∀ a, cnt a L = cnt a M) → L.Perm M
 | [], M, h => by
  cases M with
  | nil => exact .nil
  | cons c M => have := h c; simp [cnt, one] at this; omega
 | c :: L, M, h => by
  have hc : c ∈ M := cnt_pos (by rw [← h c, cnt_cons]; simp [one]; omega)
  obtain ⟨A, B, rfl⟩ := List.append_of_mem hc
  refine (List.Perm.cons c (perm_of_cnt (M := A ++ B) fun a => ?_)).trans List.perm_middle.symm
  have := h a
  simp only [cnt_append, cnt_cons] at this ⊢
  omega
theorem Sat.re (h : Sat σ w L) (hp : ∀ a, cnt a L = cnt a L' := by intro _; simp only [List.append_eq, cnt_append, cnt_cons, cnt_nil] <;> omega) : Sat σ w L' := h.perm (perm_of_cnt hp)
theorem Sat.less {L L' : List Chunk} (X : List Chunk) (h : Sat σ w L) (hp : ∀ a, cnt a L = cnt a X + cnt a L' := by intro _; simp only [List.append_eq, cnt_append, cnt_cons, cnt_nil] <;> omega) : Sat σ w L' :=
 Sat.right (A := X) (h.re fun a => by rw [cnt_append]; exact hp a)

def isST (c : UInt8) : Bool := c == 32 || c == 9
end Go.Proofs.YtgbgadkldalkbaaGreatDoor


set_option linter.unusedVariables false
namespace Go.Proofs.YtgbgadkldalkbaaGreatDoor
open Go.Proofs
def outOf (W : World) : Out := ⟨W.os, W.output⟩
def allBlocks (W : World) : List Chunk := W.heap.toList.zipIdx.map fun x => (x.2, x.1)
theorem sat_init (W : World) : Sat (outOf W) W (allBlocks W) := by
 refine ⟨rfl, rfl, ?_, ?_⟩
 ·have : (allBlocks W).map Prod.fst = W.heap.toList.zipIdx.map Prod.snd := by simp [allBlocks, Function.comp_def]
  rw [this, List.zipIdx_map_snd]
  exact List.nodup_range'
 ·intro c hc
  obtain ⟨x, hx, rfl⟩ := List.mem_map.1 hc
  have := List.mem_zipIdx_iff_getElem?.1 hx
  simpa using this
theorem kept_of_sat {W W' : World} (h : Sat (outOf W) W' (allBlocks W)) (may : MemPlace → Prop) : W.keptBut W' may := by
 refine ⟨h.os, h.out, fun i hi => ?_⟩
 have hm : (i, W.heap[i]) ∈ allBlocks W := List.mem_map.2 ⟨(W.heap[i], i), List.mem_zipIdx_iff_getElem?.2 (by simp [hi]), rfl⟩
 have := h.at_ _ hm
 rw [this, Array.getElem?_eq_getElem hi]
 cases W.heap[i] <;> first | exact ⟨rfl, rfl, rfl, fun _ _ => rfl⟩ | exact .inr ⟨rfl, rfl⟩ | rfl
theorem callE_out {P : Program} {f : FuncId} {args : Array Value} {R : Ending → World → Prop} {w : World} (hc : ∀ args w, (callFunc f args).run P w = .ok (.enter f args) w) (h : callE P f args R w) : Calls P f args w R := by
 rcases h with ⟨_, h⟩ | ⟨v, w', h, _⟩
 ·exact h
 ·rw [hc] at h; cases h
end Go.Proofs.YtgbgadkldalkbaaGreatDoor


namespace Go.Proofs.YtgbgadkldalkbaaGreatDoor
open Go.Proofs
noncomputable abbrev P : Program := Tryz.prog
abbrev WP := World → Prop
abbrev EP := Ending → WP
abbrev OA := Option Addr
abbrev BA := ByteArray
abbrev ty_ : Nat := 0
abbrev ty_int : Nat := 3
abbrev ty_uint8 : Nat := 5
abbrev ty_string : Nat := 9
abbrev ty_S_uint8 : Nat := 22
abbrev ty_S_int : Nat := 23
abbrev ty_S_spec_Node : Nat := 24
abbrev ty_spec_Node : Nat := 26
abbrev ty_impl_Options : Nat := 31
abbrev ty_S_string : Nat := 40
abbrev ty_S_impl_Node : Nat := 45
abbrev ty_impl_Node : Nat := 48
abbrev ty_P_Document : Nat := 57
abbrev ty_func_string_bool : Nat := 65
abbrev ty_Block : Nat := 73
abbrev ty_Parser : Nat := 82
abbrev ty_Position : Nat := 90
abbrev ty_S_Block : Nat := 93
abbrev ty_map_string_P_Link : Nat := 94
abbrev ty_Document : Nat := 96
abbrev ty_P_Link : Nat := 97
abbrev ty_P_Quote : Nat := 107
abbrev ty_P_List : Nat := 110
abbrev ty_List : Nat := 112
abbrev ty_P_Item : Nat := 113
abbrev ty_P_Heading : Nat := 117
abbrev ty_P_Text : Nat := 118
abbrev ty_Heading : Nat := 120
abbrev ty_Text : Nat := 123
abbrev ty_P_Paragraph : Nat := 124
abbrev ty_P_CodeBlock : Nat := 127
abbrev ty_P_HTMLBlock : Nat := 131
abbrev ty_HTMLBlock : Nat := 133
abbrev ty_P_ThematicBreak : Nat := 134
abbrev ty_P_Table : Nat := 136
abbrev ty_P_Empty : Nat := 143
abbrev ty_S_openBlock : Nat := 144
abbrev ty_S_P_List : Nat := 145
abbrev ty_parseState : Nat := 150
abbrev ty_P_rootBuilder : Nat := 154
abbrev ty_rootBuilder : Nat := 156
abbrev ty_line : Nat := 159
abbrev ty_Inline : Nat := 168
abbrev ty_P_strings_Builder : Nat := 170
abbrev ty_strings_Builder : Nat := 172
abbrev ty_ThematicBreak : Nat := 179
abbrev ty_P_parseState : Nat := 180
abbrev ty_blockBuilder : Nat := 182
abbrev ty_openBlock : Nat := 184
abbrev ty_func_P_parseState_line_line_bool : Nat := 187
abbrev ty_S_func_P_parseState_line_line_bool : Nat := 189
abbrev ty_P_openPlain : Nat := 194
abbrev ty_P_Image : Nat := 203
abbrev ty_P_Plain : Nat := 205
abbrev ty_P_Task : Nat := 207
abbrev ty_P_Escaped : Nat := 223
abbrev ty_P_SoftBreak : Nat := 226
abbrev ty_P_HardBreak : Nat := 227
abbrev ty_P_Code : Nat := 228
abbrev ty_P_Emph : Nat := 230
abbrev ty_P_Strong : Nat := 233
abbrev ty_P_Del : Nat := 235
abbrev ty_P_AutoLink : Nat := 238
abbrev ty_P_HTMLTag : Nat := 241
abbrev ty_HTMLTag : Nat := 242
abbrev ty_P_uint8 : Nat := 246
abbrev ty_P_paraBuilder : Nat := 248
abbrev ty_paraBuilder : Nat := 252
abbrev ty_P_emphPlain : Nat := 270
abbrev ty_unsafe_Pointer : Nat := 297
abbrev ty_P_quoteBuilder : Nat := 300
abbrev ty_quoteBuilder : Nat := 301
abbrev ty_P_listBuilder : Nat := 311
abbrev ty_P_itemBuilder : Nat := 313
abbrev ty_func_line : Nat := 314
abbrev ty_listBuilder : Nat := 316
abbrev ty_itemBuilder : Nat := 350
abbrev ty_P_htmlBuilder : Nat := 351
abbrev ty_htmlBuilder : Nat := 353
abbrev ty_buildState : Nat := 417
abbrev i_laws_FnKeptTree : Nat := 5
abbrev i_laws_zzFits2 : Nat := 13
abbrev i_laws_still : Nat := 14
abbrev i_laws_kept : Nat := 15
abbrev i_laws_bare : Nat := 16
abbrev i_impl_Parse : Nat := 17
abbrev i_laws_plain : Nat := 18
abbrev i_laws_same : Nat := 19
abbrev i_impl_parser : Nat := 24
abbrev i_Parser_Parse : Nat := 25
abbrev i_laws_full : Nat := 34
abbrev i_laws_ascii : Nat := 35
abbrev i_laws_has : Nat := 36
abbrev i_laws_opens : Nat := 37
abbrev i_laws_closes : Nat := 38
abbrev i_laws_ended : Nat := 39
abbrev i_laws_put : Nat := 40
abbrev i_impl_block : Nat := 41
abbrev i_Parser_parse : Nat := 45
abbrev i_impl_blocks : Nat := 53
abbrev i_slices_SortFunc_impl_Def_impl_Def : Nat := 55
abbrev i_impl_block_1 : Nat := 56
abbrev i_ZZWidth : Nat := 58
abbrev i_impl_inlines : Nat := 59
abbrev i_impl_lines : Nat := 60
abbrev i_ZZRaw : Nat := 61
abbrev i_impl_row : Nat := 62
abbrev i_slices_Index_string_string : Nat := 63
abbrev i_zzContains : Nat := 64
abbrev i_zzReplaceAll : Nat := 65
abbrev i_parseState_addBlock : Nat := 66
abbrev i_zzIndex : Nat := 67
abbrev i_parseState_addLine : Nat := 68
abbrev i_parseState_trimStack : Nat := 69
abbrev i_parseState_inline : Nat := 70
abbrev i_parseState_taskList : Nat := 71
abbrev i_slices_pdqsortCmpFunc_impl_Def : Nat := 78
abbrev i_math_bits_Len : Nat := 79
abbrev i_strings_Builder_WriteString : Nat := 82
abbrev i_strings_Builder_WriteByte : Nat := 83
abbrev i_strings_Builder_String : Nat := 84
abbrev i_line_isBlank : Nat := 85
abbrev i_news : Nat := 86
abbrev i_newPara : Nat := 87
abbrev i_parseState_closeBlock : Nat := 88
abbrev i_slices_insertionSortCmpFunc_impl_Def : Nat := 110
abbrev i_slices_heapSortCmpFunc_impl_Def : Nat := 111
abbrev i_slices_breakPatternsCmpFunc_impl_Def : Nat := 112
abbrev i_slices_choosePivotCmpFunc_impl_Def : Nat := 113
abbrev i_slices_reverseRangeCmpFunc_impl_Def : Nat := 114
abbrev i_slices_partialInsertionSortCmpFunc_impl_Def : Nat := 115
abbrev i_slices_partitionEqualCmpFunc_impl_Def : Nat := 116
abbrev i_slices_partitionCmpFunc_impl_Def : Nat := 117
abbrev i_math_bits_Len64 : Nat := 119
abbrev i_strings_Builder_copyCheck : Nat := 122
abbrev i_trimLeftSpaceTab : Nat := 123
abbrev i_newQuote : Nat := 124
abbrev i_newATXHeading : Nat := 125
abbrev i_newSetextHeading : Nat := 126
abbrev i_newHR : Nat := 127
abbrev i_newListItem : Nat := 128
abbrev i_newHTML : Nat := 129
abbrev i_newFence : Nat := 130
abbrev i_newPre : Nat := 131
abbrev i_parseState_para : Nat := 132
abbrev i_listCorner : Nat := 137
abbrev i_skipSpace : Nat := 154
abbrev i_strings_HasPrefix : Nat := 159
abbrev i_internal_abi_NoEscape : Nat := 172
abbrev i_trimQuote : Nat := 173
abbrev i_line_trimHeading : Nat := 174
abbrev i_line_string : Nat := 175
abbrev i_trimRightSpaceTab : Nat := 176
abbrev i_zzTrimRight : Nat := 177
abbrev i_extractID : Nat := 178
abbrev i_isLetterDigit : Nat := 179
abbrev i_parseState_doneBlock : Nat := 180
abbrev i_parseState_newText : Nat := 181
abbrev i_parseState_nextB : Nat := 182
abbrev i_line_trimSetext : Nat := 183
abbrev i_parseState_last : Nat := 184
abbrev i_parseState_deleteLast : Nat := 185
abbrev i_isHR : Nat := 186
abbrev i_parseState_curB : Nat := 187
abbrev i_parseState_startListItem : Nat := 188
abbrev i_parseState_startHTML : Nat := 189
abbrev i_isLetter : Nat := 191
abbrev i_line_trimSpace : Nat := 192
abbrev i_parseHTMLOpenTag : Nat := 201
abbrev i_parseHTMLClosingTag : Nat := 202
abbrev i_internal_stringslite_HasPrefix : Nat := 220
abbrev i_line_trim : Nat := 226
abbrev i_line_peek : Nat := 228
abbrev i_line_skipSpace : Nat := 229
abbrev i_line_eof : Nat := 230
abbrev i_parseState_startListItem_1 : Nat := 231
abbrev i_parseState_startHTML_1 : Nat := 232
abbrev i_htmlTags : Nat := 233
abbrev i_hasEndPre : Nat := 234
abbrev i_isLDH : Nat := 238
abbrev i_parseTagName : Nat := 239
abbrev i_parseAttr : Nat := 240
abbrev i_parseAttrName : Nat := 254
abbrev i_parseAttrValueSpec : Nat := 255
abbrev i_Position_Pos : Nat := 291
abbrev i_rootBuilder_build : Nat := 331
abbrev i_parseState_blocks : Nat := 334
abbrev i_parseState_pos : Nat := 335
abbrev i_htmlBuilder_build : Nat := 407
abbrev i_htmlBuilder_extend : Nat := 408
end Go.Proofs.YtgbgadkldalkbaaGreatDoor


set_option linter.unusedVariables false
set_option maxRecDepth 20000
namespace Go.Proofs.YtgbgadkldalkbaaGreatDoor
open Go.Proofs
namespace g_laws_FnKeptTree
noncomputable def body : Code := bodyOf Tryz.f5
end g_laws_FnKeptTree
def g_laws_FnKeptTree (R : EP) (x0 : Int) (x1q : OA) (x1n x1c : Nat) (w : World) : Prop :=
 callE P i_laws_zzFits2 #[.slice x1q x1n x1c] (fun e w2 => ∃ (r1 : Bool), e = .returned (.bool r1) ∧
 br (!r1)
 (R (.returned (.bool true)) w2)
 ((8 : Int) ≠ 0 ∧
 callE P i_laws_still #[.slice x1q x1n x1c, .bool (decide ((Int.tmod (IntKind.i64.wrap x0) 8) < 6))] (fun e w4 => ∃ (r3 : Bool), e = .returned (.bool r3) ∧
 br (!r3)
 (R (.returned (.bool true)) w4)
 (callE P i_laws_kept #[.int .i64 (Int.tmod (IntKind.i64.wrap x0) 8), .slice x1q x1n x1c] (fun e w6 => ∃ (r5 : BA), e = .returned (.string r5) ∧
 callE P i_laws_plain #[] (fun e w8 => ∃ (r7_0 : Bool), ∃ (r7_1 : Bool), ∃ (r7_2 : Bool), ∃ (r7_3 : Bool), ∃ (r7_4 : Bool), ∃ (r7_5 : Bool), ∃ (r7_6 : Bool), ∃ (r7_7 : Bool), ∃ (r7_8 : Bool), ∃ (r7_9 : Bool), e = .returned (.agg #[.bool r7_0, .bool r7_1, .bool r7_2, .bool r7_3, .bool r7_4, .bool r7_5, .bool r7_6, .bool r7_7, .bool r7_8, .bool r7_9]) ∧
 callE P i_impl_Parse #[.agg #[.bool r7_0, .bool r7_1, .bool r7_2, .bool r7_3, .bool r7_4, .bool r7_5, .bool r7_6, .bool r7_7, .bool r7_8, .bool r7_9], .string r5] (fun e w10 => rt16 e fun r9 =>
 callE P i_laws_bare #[r9.V] (fun e w12 => rt10 e fun r11 =>
 box w12 (N10.C {}) ty_spec_Node fun b13 w14 =>
 st10 w14 b13 r11 fun w24 =>
 ldB10 w24 b13 fun m25 =>
 ((r5.size + (ByteArray.mk #[10]).size : Nat) : Int) ≤ IntKind.i64.max ∧
 ∃ (r35q : OA), ∃ (r35n : Nat), ∃ (r35c : Nat), ∃ w36, (Instr.buildSlice ty_S_spec_Node 1 #[(0, .agg #[.int .i64 8, .string (r5 ++ (ByteArray.mk #[10])), .string (ByteArray.mk #[]), .int .i64 0, .string (ByteArray.mk #[]), .bool false, .slice none 0 0, .slice none 0 0, .int .i64 0, .int .i64 0])]).run P w24 = .ok (.slice r35q r35n r35c) w36 ∧
 callE P i_laws_same #[m25.V, (N10.V {a0 := 1, q7 := r35q, n7 := r35n, c7 := r35c})] (fun e w38 => ∃ (r37 : Bool), e = .returned (.bool r37) ∧
 R (.returned (.bool r37)) w38) w36) w10) w8) w6) w4)) w2)) w

namespace g_laws_FnKeptTree
noncomputable def ac (R : EP) : AC :=
 (.leaf (sel [] body))
theorem good (R : EP) : Good P 33 (ac R) (QF P [.tmp 4] R) :=
 trivial
theorem eq (R : EP) (x0 : Int) (x1q : OA) (x1n x1c : Nat) (w : World) : g_laws_FnKeptTree R x0 x1q x1n x1c w = vcA P 33 (ac R) (QF P [.tmp 4] R) (fr0 [.int .u8 x0, .slice x1q x1n x1c]) w := by kernel_rfl
theorem sound {R : EP} {x0 : Int} {x1q : OA} {x1n x1c : Nat} {w : World} (h : g_laws_FnKeptTree R x0 x1q x1n x1c w) : callE P i_laws_FnKeptTree #[.int .u8 x0, .slice x1q x1n x1c] R w :=
 callE_fz (c := body) Tryz.func5 Tryz.call5 (good R) (eq R x0 x1q x1n x1c w) h
end g_laws_FnKeptTree
namespace g_laws_closes
noncomputable def body : Code := bodyOf Tryz.f38
end g_laws_closes
def g_laws_closes (R : EP) (x0 : Int) (w : World) : Prop :=
 br (x0 == 0)
 (R (.returned (.string (ByteArray.mk #[60, 47, 115, 99, 114, 105, 112, 116, 62]))) w)
 (br (x0 == 1)
 (R (.returned (.string (ByteArray.mk #[97, 60, 47, 80, 82, 69, 62, 32, 98]))) w)
 (br (x0 == 2)
 (R (.returned (.string (ByteArray.mk #[98, 32, 45, 45, 62, 32, 99]))) w)
 (br (x0 == 3)
 (R (.returned (.string (ByteArray.mk #[63, 62]))) w)
 (br (x0 == 4)
 (R (.returned (.string (ByteArray.mk #[62]))) w)
 (br (x0 == 5)
 (R (.returned (.string (ByteArray.mk #[93, 93, 62, 32, 42, 97, 42]))) w)
 (br (x0 == 6)
 (R (.returned (.string (ByteArray.mk #[60, 47, 100, 105, 118, 62]))) w)
 (R (.returned (.string (ByteArray.mk #[60, 47, 111, 119, 110, 45, 116, 97, 103, 62]))) w)))))))

namespace g_laws_closes
noncomputable def ac (R : EP) : AC :=
 (.leaf (sel [] body))
theorem good (R : EP) : Good P 18 (ac R) (QF P [.tmp 2] R) :=
 trivial
theorem eq (R : EP) (x0 : Int) (w : World) : g_laws_closes R x0 w = vcA P 18 (ac R) (QF P [.tmp 2] R) (fr0 [.int .i64 x0]) w := by kernel_rfl
theorem sound {R : EP} {x0 : Int} {w : World} (h : g_laws_closes R x0 w) : callE P i_laws_closes #[.int .i64 x0] R w :=
 callE_fz (c := body) Tryz.func38 Tryz.call38 (good R) (eq R x0 w) h
end g_laws_closes
namespace g_laws_has
noncomputable def body : Code := bodyOf Tryz.f36
def bl1 (R : EP) (Xa : BA → Int → Int → WP) (x0 : BA) (x1 x5 : Int) (w : World) : Prop :=
 br (decide (x5 < (x0.size : Int)))
 (0 ≤ x5 ∧ x5 < (x0.size : Int) ∧
 br ((bt x0 x5) == x1)
 (R (.returned (.bool true)) w)
 (Xa x0 x1 (IntKind.i64.wrap (x5 + 1)) w))
 (R (.returned (.bool false)) w)
def l1 (R : EP) (x0 : BA) (x1 x5 : Int) (w : World) : Prop :=
 ∀ X : BA → Int → Int → WP, (∀ x0 x1 x5 w, bl1 R X x0 x1 x5 w → X x0 x1 x5 w) → X x0 x1 x5 w

noncomputable def al1 (R : EP) (Xa : BA → Int → Int → WP) : AC :=
 (.leaf (sel [1,0,1,0,0] body))
end g_laws_has
def g_laws_has (R : EP) (x0 : BA) (x1 : Int) (w : World) : Prop :=
 g_laws_has.l1 R x0 x1 0 w

namespace g_laws_has
noncomputable def ac (R : EP) : AC :=
 (.seq (.leaf (sel [0] body)) (.seq (.seq (.leaf (sel [1,0,0] body)) (.block 0 (.loop (leaf [(0, .s .str), (1, .s (.int .u8)), (5, .s (.int .i64))] (l1 R)) (sel [1,0,1,0,0] body)))) (.leaf (sel [1,1] body))))
theorem good (R : EP) : Good P 17 (ac R) (QF P [.tmp 4] R) :=
 ⟨trivial, ⟨⟨trivial, (loopG (al1 R) (bl1 R) (fun _ => by kernel_rfl) (fun Xa => trivial) (fun Xa => by intro x0 x1 x5 ρ w; kernel_rfl) (fun X h _ _ _ _ g => g X h))⟩, trivial⟩⟩
theorem eq (R : EP) (x0 : BA) (x1 : Int) (w : World) : g_laws_has R x0 x1 w = vcA P 17 (ac R) (QF P [.tmp 4] R) (fr0 [.string x0, .int .u8 x1]) w := by kernel_rfl
theorem sound {R : EP} {x0 : ByteArray} {x1 : Int} {w : World} (h : g_laws_has R x0 x1 w) : callE P i_laws_has #[.string x0, .int .u8 x1] R w :=
 callE_fz (c := body) Tryz.func36 Tryz.call36 (good R) (eq R x0 x1 w) h
end g_laws_has
namespace g_laws_kept
noncomputable def body : Code := bodyOf Tryz.f15
def bl1 (R : EP) (Xa : Int → BA → OA → Nat → Nat → Int → Int → WP) (x0 : Int) (x5 : BA) (x11q : OA) (x11n x11c : Nat) (x12 x13 : Int) (w : World) : Prop :=
 br (decide (x13 < x12))
 (0 ≤ x13 ∧ x13 < (x11n : Int) ∧
 nilP x11q fun a3 =>
 ∃ (v4 : BA), w.cell? (a3.add (Int.toNat x13 * 1)) = some (.string v4) ∧
 ((v4.size + (ByteArray.mk #[10]).size : Nat) : Int) ≤ IntKind.i64.max ∧
 ((x5.size + (v4 ++ (ByteArray.mk #[10])).size : Nat) : Int) ≤ IntKind.i64.max ∧
 Xa x0 (x5 ++ (v4 ++ (ByteArray.mk #[10]))) x11q x11n x11c x12 (IntKind.i64.wrap (x13 + 1)) w)
 (callE P i_laws_closes #[.int .i64 x0] (fun e w6 => ∃ (r5 : BA), e = .returned (.string r5) ∧
 ((x5.size + r5.size : Nat) : Int) ≤ IntKind.i64.max ∧
 R (.returned (.string (x5 ++ r5))) w6) w)
def l1 (R : EP) (x0 : Int) (x5 : BA) (x11q : OA) (x11n x11c : Nat) (x12 x13 : Int) (w : World) : Prop :=
 ∀ X : Int → BA → OA → Nat → Nat → Int → Int → WP, (∀ x0 x5 x11q x11n x11c x12 x13 w, bl1 R X x0 x5 x11q x11n x11c x12 x13 w → X x0 x5 x11q x11n x11c x12 x13 w) → X x0 x5 x11q x11n x11c x12 x13 w

noncomputable def al1 (R : EP) (Xa : Int → BA → OA → Nat → Nat → Int → Int → WP) : AC :=
 (.leaf (sel [1,1,0,1,0,0] body))
end g_laws_kept
def g_laws_kept (R : EP) (x0 : Int) (x1q : OA) (x1n x1c : Nat) (w : World) : Prop :=
 callE P i_laws_opens #[.int .i64 x0] (fun e w2 => ∃ (r1 : BA), e = .returned (.string r1) ∧
 ((r1.size + (ByteArray.mk #[10]).size : Nat) : Int) ≤ IntKind.i64.max ∧
 g_laws_kept.l1 R x0 (r1 ++ (ByteArray.mk #[10])) x1q x1n x1c (x1n : Int) 0 w2) w

namespace g_laws_kept
noncomputable def ac (R : EP) : AC :=
 (.seq (.leaf (sel [0] body)) (.seq (.leaf (sel [1,0] body)) (.seq (.seq (.leaf (sel [1,1,0,0] body)) (.block 0 (.loop (leaf [(0, .s (.int .i64)), (5, .s .str), (11, .s .slice), (12, .s (.int .i64)), (13, .s (.int .i64))] (l1 R)) (sel [1,1,0,1,0,0] body)))) (.leaf (sel [1,1,1] body)))))
theorem good (R : EP) : Good P 26 (ac R) (QF P [.tmp 4] R) :=
 ⟨trivial, ⟨trivial, ⟨⟨trivial, (loopG (al1 R) (bl1 R) (fun _ => by kernel_rfl) (fun Xa => trivial) (fun Xa => by intro x0 x5 x11q x11n x11c x12 x13 ρ w; kernel_rfl) (fun X h _ _ _ _ _ _ _ _ g => g X h))⟩, trivial⟩⟩⟩
theorem eq (R : EP) (x0 : Int) (x1q : OA) (x1n x1c : Nat) (w : World) : g_laws_kept R x0 x1q x1n x1c w = vcA P 26 (ac R) (QF P [.tmp 4] R) (fr0 [.int .i64 x0, .slice x1q x1n x1c]) w := by kernel_rfl
theorem sound {R : EP} {x0 : Int} {x1q : OA} {x1n x1c : Nat} {w : World} (h : g_laws_kept R x0 x1q x1n x1c w) : callE P i_laws_kept #[.int .i64 x0, .slice x1q x1n x1c] R w :=
 callE_fz (c := body) Tryz.func15 Tryz.call15 (good R) (eq R x0 x1q x1n x1c w) h
end g_laws_kept
namespace g_laws_opens
noncomputable def body : Code := bodyOf Tryz.f37
end g_laws_opens
def g_laws_opens (R : EP) (x0 : Int) (w : World) : Prop :=
 br (x0 == 0)
 (R (.returned (.string (ByteArray.mk #[60, 115, 99, 114, 105, 112, 116, 62]))) w)
 (br (x0 == 1)
 (R (.returned (.string (ByteArray.mk #[60, 112, 114, 101, 32, 97, 61, 34, 98, 34, 62]))) w)
 (br (x0 == 2)
 (R (.returned (.string (ByteArray.mk #[60, 33, 45, 45, 32, 97]))) w)
 (br (x0 == 3)
 (R (.returned (.string (ByteArray.mk #[60, 63, 112, 104, 112]))) w)
 (br (x0 == 4)
 (R (.returned (.string (ByteArray.mk #[60, 33, 68, 79, 67, 84, 89, 80, 69, 32, 104, 116, 109, 108]))) w)
 (br (x0 == 5)
 (R (.returned (.string (ByteArray.mk #[60, 33, 91, 67, 68, 65, 84, 65, 91]))) w)
 (br (x0 == 6)
 (R (.returned (.string (ByteArray.mk #[60, 100, 105, 118, 32, 99, 108, 97, 115, 115, 61, 34, 97, 34, 62]))) w)
 (R (.returned (.string (ByteArray.mk #[60, 111, 119, 110, 45, 116, 97, 103, 62]))) w)))))))

namespace g_laws_opens
noncomputable def ac (R : EP) : AC :=
 (.leaf (sel [] body))
theorem good (R : EP) : Good P 18 (ac R) (QF P [.tmp 2] R) :=
 trivial
theorem eq (R : EP) (x0 : Int) (w : World) : g_laws_opens R x0 w = vcA P 18 (ac R) (QF P [.tmp 2] R) (fr0 [.int .i64 x0]) w := by kernel_rfl
theorem sound {R : EP} {x0 : Int} {w : World} (h : g_laws_opens R x0 w) : callE P i_laws_opens #[.int .i64 x0] R w :=
 callE_fz (c := body) Tryz.func37 Tryz.call37 (good R) (eq R x0 w) h
end g_laws_opens
namespace g_laws_still
noncomputable def body : Code := bodyOf Tryz.f14
def bl1 (R : EP) (Xa : Bool → OA → Nat → Nat → Int → Int → WP) (x1 : Bool) (x10q : OA) (x10n x10c : Nat) (x11 x12 : Int) (w : World) : Prop :=
 br (decide (x12 < x11))
 (0 ≤ x12 ∧ x12 < (x10n : Int) ∧
 nilP x10q fun a1 =>
 ∃ (v2 : BA), w.cell? (a1.add (Int.toNat x12 * 1)) = some (.string v2) ∧
 br ((v2.toList == (ByteArray.mk #[]).toList) && (!x1))
 (R (.returned (.bool false)) w)
 (br (!(v2.toList == (ByteArray.mk #[]).toList))
 (callE P i_laws_full #[.string v2] (fun e w4 => ∃ (r3 : Bool), e = .returned (.bool r3) ∧
 br (!r3)
 (R (.returned (.bool false)) w4)
 (callE P i_laws_ascii #[.string v2, .bool false] (fun e w6 => ∃ (r5 : Bool), e = .returned (.bool r5) ∧
 br ((!r5) || (decide ((v2.size : Int) > 200)))
 (R (.returned (.bool false)) w6)
 (callE P i_laws_has #[.string v2, .int .u8 60] (fun e w8 => ∃ (r7 : Bool), e = .returned (.bool r7) ∧
 br r7
 (R (.returned (.bool false)) w8)
 (callE P i_laws_has #[.string v2, .int .u8 62] (fun e w10 => ∃ (r9 : Bool), e = .returned (.bool r9) ∧
 br r9
 (R (.returned (.bool false)) w10)
 (callE P i_laws_has #[.string v2, .int .u8 45] (fun e w12 => ∃ (r11 : Bool), e = .returned (.bool r11) ∧
 br r11
 (R (.returned (.bool false)) w12)
 (callE P i_laws_has #[.string v2, .int .u8 63] (fun e w14 => ∃ (r13 : Bool), e = .returned (.bool r13) ∧
 br r13
 (R (.returned (.bool false)) w14)
 (callE P i_laws_has #[.string v2, .int .u8 93] (fun e w16 => ∃ (r15 : Bool), e = .returned (.bool r15) ∧
 br r15
 (R (.returned (.bool false)) w16)
 (Xa x1 x10q x10n x10c x11 (IntKind.i64.wrap (x12 + 1)) w16)) w14)) w12)) w10)) w8)) w6)) w4)) w)
 (callE P i_laws_ascii #[.string v2, .bool false] (fun e w18 => ∃ (r17 : Bool), e = .returned (.bool r17) ∧
 br ((!r17) || (decide ((v2.size : Int) > 200)))
 (R (.returned (.bool false)) w18)
 (callE P i_laws_has #[.string v2, .int .u8 60] (fun e w20 => ∃ (r19 : Bool), e = .returned (.bool r19) ∧
 br r19
 (R (.returned (.bool false)) w20)
 (callE P i_laws_has #[.string v2, .int .u8 62] (fun e w22 => ∃ (r21 : Bool), e = .returned (.bool r21) ∧
 br r21
 (R (.returned (.bool false)) w22)
 (callE P i_laws_has #[.string v2, .int .u8 45] (fun e w24 => ∃ (r23 : Bool), e = .returned (.bool r23) ∧
 br r23
 (R (.returned (.bool false)) w24)
 (callE P i_laws_has #[.string v2, .int .u8 63] (fun e w26 => ∃ (r25 : Bool), e = .returned (.bool r25) ∧
 br r25
 (R (.returned (.bool false)) w26)
 (callE P i_laws_has #[.string v2, .int .u8 93] (fun e w28 => ∃ (r27 : Bool), e = .returned (.bool r27) ∧
 br r27
 (R (.returned (.bool false)) w28)
 (Xa x1 x10q x10n x10c x11 (IntKind.i64.wrap (x12 + 1)) w28)) w26)) w24)) w22)) w20)) w18)) w)))
 (R (.returned (.bool true)) w)
def l1 (R : EP) (x1 : Bool) (x10q : OA) (x10n x10c : Nat) (x11 x12 : Int) (w : World) : Prop :=
 ∀ X : Bool → OA → Nat → Nat → Int → Int → WP, (∀ x1 x10q x10n x10c x11 x12 w, bl1 R X x1 x10q x10n x10c x11 x12 w → X x1 x10q x10n x10c x11 x12 w) → X x1 x10q x10n x10c x11 x12 w

noncomputable def al1 (R : EP) (Xa : Bool → OA → Nat → Nat → Int → Int → WP) : AC :=
 (.leaf (sel [1,1,0,1,0,0] body))
end g_laws_still
def g_laws_still (R : EP) (x0q : OA) (x0n x0c : Nat) (x1 : Bool) (w : World) : Prop :=
 br (decide ((x0n : Int) > 30))
 (R (.returned (.bool false)) w)
 (g_laws_still.l1 R x1 x0q x0n x0c (x0n : Int) 0 w)

namespace g_laws_still
noncomputable def ac (R : EP) : AC :=
 (.seq (.leaf (sel [0] body)) (.seq (.leaf (sel [1,0] body)) (.seq (.seq (.leaf (sel [1,1,0,0] body)) (.block 0 (.loop (leaf [(1, .s .bool), (10, .s .slice), (11, .s (.int .i64)), (12, .s (.int .i64))] (l1 R)) (sel [1,1,0,1,0,0] body)))) (.leaf (sel [1,1,1] body)))))
theorem good (R : EP) : Good P 62 (ac R) (QF P [.tmp 4] R) :=
 ⟨trivial, ⟨trivial, ⟨⟨trivial, (loopG (al1 R) (bl1 R) (fun _ => by kernel_rfl) (fun Xa => trivial) (fun Xa => by intro x1 x10q x10n x10c x11 x12 ρ w; kernel_rfl) (fun X h _ _ _ _ _ _ _ g => g X h))⟩, trivial⟩⟩⟩
theorem eq (R : EP) (x0q : OA) (x0n x0c : Nat) (x1 : Bool) (w : World) : g_laws_still R x0q x0n x0c x1 w = vcA P 62 (ac R) (QF P [.tmp 4] R) (fr0 [.slice x0q x0n x0c, .bool x1]) w := by kernel_rfl
theorem sound {R : EP} {x0q : OA} {x0n x0c : Nat} {x1 : Bool} {w : World} (h : g_laws_still R x0q x0n x0c x1 w) : callE P i_laws_still #[.slice x0q x0n x0c, .bool x1] R w :=
 callE_fz (c := body) Tryz.func14 Tryz.call14 (good R) (eq R x0q x0n x0c x1 w) h
end g_laws_still
namespace g_laws_bare
noncomputable def body : Code := bodyOf Tryz.f16
def bl1 (R : EP) (Xa : Nat → Nat → OA → Nat → Nat → Int → Int → WP) (x2 x3 : Nat) (x50q : OA) (x50n x50c : Nat) (x51 x52 : Int) (w : World) : Prop :=
 br (decide (x52 < x51))
 (0 ≤ x52 ∧ x52 < (x50n : Int) ∧
 nilP x50q fun a72 =>
 ldA16 w (a72.add (Int.toNat x52 * 16)) fun m73 =>
 box w (N16.C {}) ty_impl_Node fun b89 w90 =>
 st16 w90 b89 m73 fun w106 =>
 ∃ (v107 : Int), w106.cell? ⟨b89, 0, none⟩ = some (.int .i64 v107) ∧
 br (v107 != 13)
 (tk w106 fun w108 =>
 ∃ (v109q : OA), ∃ (v109n : Nat), ∃ (v109c : Nat), w108.cell? ⟨x3, 7, none⟩ = some (.slice v109q v109n v109c) ∧
 ldB16 w108 b89 fun m110 =>
 callE P i_laws_bare #[m110.V] (fun e w127 => rt10 e fun r126 =>
 SameC w108 w127 ⟨x3, 7, none⟩ 1 ∧
 callE P i_laws_put #[.slice v109q v109n v109c, r126.V] (fun e w129 => ∃ (r128q : OA), ∃ (r128n : Nat), ∃ (r128c : Nat), e = .returned (.slice r128q r128n r128c) ∧
 stV w129 ⟨x3, 7, none⟩ (.slice r128q r128n r128c) fun w130 =>
 Xa x2 x3 x50q x50n x50c x51 (IntKind.i64.wrap (x52 + 1)) w130) w127) w108)
 (Xa x2 x3 x50q x50n x50c x51 (IntKind.i64.wrap (x52 + 1)) w106))
 (ldB10 w x3 fun m131 =>
 st10 w x2 m131 fun w150 =>
 ldB10 w150 x2 fun m151 =>
 R (.returned (m151.V)) w150)
def l1 (R : EP) (x2 x3 : Nat) (x50q : OA) (x50n x50c : Nat) (x51 x52 : Int) (w : World) : Prop :=
 ∀ X : Nat → Nat → OA → Nat → Nat → Int → Int → WP, (∀ x2 x3 x50q x50n x50c x51 x52 w, bl1 R X x2 x3 x50q x50n x50c x51 x52 w → X x2 x3 x50q x50n x50c x51 x52 w) → X x2 x3 x50q x50n x50c x51 x52 w

noncomputable def al1 (R : EP) (Xa : Nat → Nat → OA → Nat → Nat → Int → Int → WP) : AC :=
 (.seq (.leaf (sel [1,1,1,1,0,1,0,0,0] body)) (.seq (.leaf (sel [1,1,1,1,0,1,0,0,1,0] body)) (.seq (.block 1 (.seq (.leaf (sel [1,1,1,1,0,1,0,0,1,1,0,0,0] body)) (.seq (.leaf (sel [1,1,1,1,0,1,0,0,1,1,0,0,1,0] body)) (.cond 58 (.draw (.pure 0 (.load 1 (.load 2 (.one 3 (.one 4 (.pure 5 (.one 6 .done))))))) (sel [1,1,1,1,0,1,0,0,1,1,0,0,1,1,0] body)) (.leaf (sel [1,1,1,1,0,1,0,0,1,1,0,0,1,1,1] body)))))) (.leaf (sel [1,1,1,1,0,1,0,0,1,1,1] body)))))
def k4 (R : EP) (x1 x2 x3 : Nat) (w : World) : Prop :=
 ∃ (v71q : OA), ∃ (v71n : Nat), ∃ (v71c : Nat), w.cell? ⟨x1, 7, none⟩ = some (.slice v71q v71n v71c) ∧
 l1 R x2 x3 v71q v71n v71c (v71n : Int) 0 w

def k3 (R : EP) (x1 x2 x3 : Nat) (x44 : Bool) (w : World) : Prop :=
 br x44
 (∃ (v67 : BA), w.cell? ⟨x1, 1, none⟩ = some (.string v67) ∧
 callE P i_laws_ended #[.string v67] (fun e w69 => ∃ (r68 : BA), e = .returned (.string r68) ∧
 stV w69 ⟨x3, 1, none⟩ (.string r68) fun w70 =>
 k4 R x1 x2 x3 w70) w)
 (k4 R x1 x2 x3 w)

def k2 (R : EP) (x1 x2 x3 : Nat) (w : World) : Prop :=
 ∃ (v65 : Int), w.cell? ⟨x1, 0, none⟩ = some (.int .i64 v65) ∧
 br (v65 == 7)
 (∃ (v66 : BA), w.cell? ⟨x1, 10, none⟩ = some (.string v66) ∧
 k3 R x1 x2 x3 (v66.toList == (ByteArray.mk #[]).toList) w)
 (k3 R x1 x2 x3 false w)

def k1 (R : EP) (x1 x2 x3 : Nat) (w : World) : Prop :=
 ∃ (v59 : Int), w.cell? ⟨x1, 0, none⟩ = some (.int .i64 v59) ∧
 br (v59 == 6)
 (stV w ⟨x3, 1, none⟩ (.string (ByteArray.mk #[])) fun w60 =>
 k2 R x1 x2 x3 w60)
 (∃ (v61 : Int), w.cell? ⟨x1, 0, none⟩ = some (.int .i64 v61) ∧
 br (v61 == 5)
 (stV w ⟨x3, 1, none⟩ (.string (ByteArray.mk #[])) fun w62 =>
 k2 R x1 x2 x3 w62)
 (∃ (v63 : Int), w.cell? ⟨x1, 0, none⟩ = some (.int .i64 v63) ∧
 br (v63 == 12)
 (stV w ⟨x3, 1, none⟩ (.string (ByteArray.mk #[])) fun w64 =>
 k2 R x1 x2 x3 w64)
 (k2 R x1 x2 x3 w)))

end g_laws_bare
def g_laws_bare (R : EP) (x0_0 : Int) (x0_1 x0_2 : BA) (x0_3 : Int) (x0_4 : BA) (x0_5 : Bool) (x0_6q : OA) (x0_6n x0_6c : Nat) (x0_7q : OA) (x0_7n x0_7c : Nat) (x0_8 x0_9 : Int) (x0_10 : BA) (x0_11 : Int) (x0_12 x0_13 x0_14 : Bool) (x0_15q : OA) (x0_15n x0_15c : Nat) (w : World) : Prop :=
 box w (N16.C {a0 := x0_0, a1 := x0_1, a2 := x0_2, a3 := x0_3, a4 := x0_4, a5 := x0_5, q6 := x0_6q, n6 := x0_6n, c6 := x0_6c, q7 := x0_7q, n7 := x0_7n, c7 := x0_7c, a8 := x0_8, a9 := x0_9, a10 := x0_10, a11 := x0_11, a12 := x0_12, a13 := x0_13, a14 := x0_14, q15 := x0_15q, n15 := x0_15n, c15 := x0_15c}) ty_impl_Node fun b1 w2 =>
 box w2 (N10.C {}) ty_spec_Node fun b3 w4 =>
 tk w4 fun w5 =>
 ∃ (v6 : Int), w5.cell? ⟨b1, 0, none⟩ = some (.int .i64 v6) ∧
 ∃ (v7 : BA), w5.cell? ⟨b1, 1, none⟩ = some (.string v7) ∧
 ∃ (v8 : BA), w5.cell? ⟨b1, 2, none⟩ = some (.string v8) ∧
 ∃ (v9 : Int), w5.cell? ⟨b1, 3, none⟩ = some (.int .i64 v9) ∧
 ∃ (v10 : BA), w5.cell? ⟨b1, 4, none⟩ = some (.string v10) ∧
 ∃ (v11 : Bool), w5.cell? ⟨b1, 5, none⟩ = some (.bool v11) ∧
 ∃ (v12q : OA), ∃ (v12n : Nat), ∃ (v12c : Nat), w5.cell? ⟨b1, 6, none⟩ = some (.slice v12q v12n v12c) ∧
 (∃ (r13q : OA), ∃ (r13n : Nat), ∃ (r13c : Nat), ∃ w14, (Instr.buildSlice ty_S_int 0 #[]).run P w5 = .ok (.slice r13q r13n r13c) w14 ∧
 SameC w5 w14 ⟨b1, 6, none⟩ 1 ∧
 SameC w5 w14 ⟨b1, 5, none⟩ 1 ∧
 SameC w5 w14 ⟨b1, 4, none⟩ 1 ∧
 SameC w5 w14 ⟨b1, 3, none⟩ 1 ∧
 SameC w5 w14 ⟨b1, 2, none⟩ 1 ∧
 SameC w5 w14 ⟨b1, 1, none⟩ 1 ∧
 SameC w5 w14 ⟨b1, 0, none⟩ 1 ∧
 (∃ (r15q : OA), ∃ (r15n : Nat), ∃ (r15c : Nat), ∃ w16, (Builtin.append_ #[ty_S_int, ty_S_int] ty_S_int #[.slice r13q r13n r13c, .slice v12q v12n v12c]).run P w14 = .ok (.slice r15q r15n r15c) w16 ∧
 SameC w14 w16 ⟨b1, 5, none⟩ 1 ∧
 SameC w14 w16 ⟨b1, 4, none⟩ 1 ∧
 SameC w14 w16 ⟨b1, 3, none⟩ 1 ∧
 SameC w14 w16 ⟨b1, 2, none⟩ 1 ∧
 SameC w14 w16 ⟨b1, 1, none⟩ 1 ∧
 SameC w14 w16 ⟨b1, 0, none⟩ 1 ∧
 box w16 (N10.C {}) ty_spec_Node fun b17 w18 =>
 SameC w16 w18 ⟨b1, 6, none⟩ 1 ∧
 SameC w16 w18 ⟨b1, 5, none⟩ 1 ∧
 SameC w16 w18 ⟨b1, 4, none⟩ 1 ∧
 SameC w16 w18 ⟨b1, 3, none⟩ 1 ∧
 SameC w16 w18 ⟨b1, 2, none⟩ 1 ∧
 SameC w16 w18 ⟨b1, 1, none⟩ 1 ∧
 SameC w16 w18 ⟨b1, 0, none⟩ 1 ∧
 st10 w18 b17 {a0 := v6, a1 := v7, a2 := v8, a3 := v9, a4 := v10, a5 := v11, q6 := r15q, n6 := r15n, c6 := r15c} fun w28 =>
 g_laws_bare.k1 R b1 b3 b17 w28) ∧
 (box w14 (N10.C {}) ty_spec_Node fun b29 w30 =>
 SameC w14 w30 ⟨b1, 6, none⟩ 1 ∧
 SameC w14 w30 ⟨b1, 5, none⟩ 1 ∧
 SameC w14 w30 ⟨b1, 4, none⟩ 1 ∧
 SameC w14 w30 ⟨b1, 3, none⟩ 1 ∧
 SameC w14 w30 ⟨b1, 2, none⟩ 1 ∧
 SameC w14 w30 ⟨b1, 1, none⟩ 1 ∧
 SameC w14 w30 ⟨b1, 0, none⟩ 1 ∧
 ∃ (r31q : OA), ∃ (r31n : Nat), ∃ (r31c : Nat), ∃ w32, (Builtin.append_ #[ty_S_int, ty_S_int] ty_S_int #[.slice r13q r13n r13c, .slice v12q v12n v12c]).run P w30 = .ok (.slice r31q r31n r31c) w32 ∧
 SameC w30 w32 ⟨b1, 5, none⟩ 1 ∧
 SameC w30 w32 ⟨b1, 4, none⟩ 1 ∧
 SameC w30 w32 ⟨b1, 3, none⟩ 1 ∧
 SameC w30 w32 ⟨b1, 2, none⟩ 1 ∧
 SameC w30 w32 ⟨b1, 1, none⟩ 1 ∧
 SameC w30 w32 ⟨b1, 0, none⟩ 1 ∧
 st10 w32 b29 {a0 := v6, a1 := v7, a2 := v8, a3 := v9, a4 := v10, a5 := v11, q6 := r31q, n6 := r31n, c6 := r31c} fun w42 =>
 g_laws_bare.k1 R b1 b3 b29 w42)) ∧
 (box w5 (N10.C {}) ty_spec_Node fun b43 w44 =>
 SameC w5 w44 ⟨b1, 6, none⟩ 1 ∧
 SameC w5 w44 ⟨b1, 5, none⟩ 1 ∧
 SameC w5 w44 ⟨b1, 4, none⟩ 1 ∧
 SameC w5 w44 ⟨b1, 3, none⟩ 1 ∧
 SameC w5 w44 ⟨b1, 2, none⟩ 1 ∧
 SameC w5 w44 ⟨b1, 1, none⟩ 1 ∧
 SameC w5 w44 ⟨b1, 0, none⟩ 1 ∧
 ∃ (r45q : OA), ∃ (r45n : Nat), ∃ (r45c : Nat), ∃ w46, (Instr.buildSlice ty_S_int 0 #[]).run P w44 = .ok (.slice r45q r45n r45c) w46 ∧
 SameC w44 w46 ⟨b1, 6, none⟩ 1 ∧
 SameC w44 w46 ⟨b1, 5, none⟩ 1 ∧
 SameC w44 w46 ⟨b1, 4, none⟩ 1 ∧
 SameC w44 w46 ⟨b1, 3, none⟩ 1 ∧
 SameC w44 w46 ⟨b1, 2, none⟩ 1 ∧
 SameC w44 w46 ⟨b1, 1, none⟩ 1 ∧
 SameC w44 w46 ⟨b1, 0, none⟩ 1 ∧
 ∃ (r47q : OA), ∃ (r47n : Nat), ∃ (r47c : Nat), ∃ w48, (Builtin.append_ #[ty_S_int, ty_S_int] ty_S_int #[.slice r45q r45n r45c, .slice v12q v12n v12c]).run P w46 = .ok (.slice r47q r47n r47c) w48 ∧
 SameC w46 w48 ⟨b1, 5, none⟩ 1 ∧
 SameC w46 w48 ⟨b1, 4, none⟩ 1 ∧
 SameC w46 w48 ⟨b1, 3, none⟩ 1 ∧
 SameC w46 w48 ⟨b1, 2, none⟩ 1 ∧
 SameC w46 w48 ⟨b1, 1, none⟩ 1 ∧
 SameC w46 w48 ⟨b1, 0, none⟩ 1 ∧
 st10 w48 b43 {a0 := v6, a1 := v7, a2 := v8, a3 := v9, a4 := v10, a5 := v11, q6 := r47q, n6 := r47n, c6 := r47c} fun w58 =>
 g_laws_bare.k1 R b1 b3 b43 w58)

namespace g_laws_bare
noncomputable def ac (R : EP) : AC :=
 (.seq (.leaf (sel [0] body)) (.seq (.draw (.pure 0 (.pure 2 (.pure 4 (.pure 6 (.pure 8 (.pure 10 (.pure 13 (.load 1 (.load 3 (.load 5 (.load 7 (.load 9 (.load 11 (.load 14 (.two 12 (.two 15 (.pure 16 (.one 17 (.one 18 .done))) 17 (.one 15 (.pure 16 (.one 18 .done)))) 17 (.one 12 (.one 15 (.pure 16 (.one 18 .done))))))))))))))))))) (sel [1,0] body)) (.mark (leaf [(1, .s .loc), (2, .s .loc), (3, .s .loc)] (k1 R)) (.seq (.leaf (sel [1,1,0] body)) (.mark (leaf [(1, .s .loc), (2, .s .loc), (3, .s .loc)] (k2 R)) (.seq (.seq (.leaf (sel [1,1,1,0,0] body)) (.mark (leaf [(1, .s .loc), (2, .s .loc), (3, .s .loc), (44, .s .bool)] (k3 R)) (.leaf (sel [1,1,1,0,1] body)))) (.mark (leaf [(1, .s .loc), (2, .s .loc), (3, .s .loc)] (k4 R)) (.seq (.seq (.leaf (sel [1,1,1,1,0,0] body)) (.block 0 (.loop (leaf [(2, .s .loc), (3, .s .loc), (50, .s .slice), (51, .s (.int .i64)), (52, .s (.int .i64))] (l1 R)) (sel [1,1,1,1,0,1,0,0] body)))) (.leaf (sel [1,1,1,1,1] body))))))))))
theorem good (R : EP) : Good P 67 (ac R) (QF P [.cell 2 26] R) :=
 ⟨trivial, ⟨⟨by kernel_rfl, by kernel_rfl, fun _ _ _ h => h⟩, ⟨⟨trivial, ⟨⟨⟨trivial, ⟨trivial, cutZ⟩⟩, ⟨⟨⟨trivial, (loopG (al1 R) (bl1 R) (fun _ => by kernel_rfl) (fun Xa => ⟨trivial, ⟨trivial, ⟨⟨trivial, ⟨trivial, ⟨⟨by kernel_rfl, by kernel_rfl, fun _ _ _ h => h⟩, trivial⟩⟩⟩, trivial⟩⟩⟩) (fun Xa => by intro x2 x3 x50q x50n x50c x51 x52 ρ w; kernel_rfl) (fun X h _ _ _ _ _ _ _ _ g => g X h))⟩, trivial⟩, cutZ⟩⟩, cutZ⟩⟩, cutZ⟩⟩⟩
theorem eq (R : EP) (x0_0 : Int) (x0_1 x0_2 : BA) (x0_3 : Int) (x0_4 : BA) (x0_5 : Bool) (x0_6q : OA) (x0_6n x0_6c : Nat) (x0_7q : OA) (x0_7n x0_7c : Nat) (x0_8 x0_9 : Int) (x0_10 : BA) (x0_11 : Int) (x0_12 x0_13 x0_14 : Bool) (x0_15q : OA) (x0_15n x0_15c : Nat) (w : World) : g_laws_bare R x0_0 x0_1 x0_2 x0_3 x0_4 x0_5 x0_6q x0_6n x0_6c x0_7q x0_7n x0_7c x0_8 x0_9 x0_10 x0_11 x0_12 x0_13 x0_14 x0_15q x0_15n x0_15c w = vcA P 67 (ac R) (QF P [.cell 2 26] R) (fr0 [(N16.V {a0 := x0_0, a1 := x0_1, a2 := x0_2, a3 := x0_3, a4 := x0_4, a5 := x0_5, q6 := x0_6q, n6 := x0_6n, c6 := x0_6c, q7 := x0_7q, n7 := x0_7n, c7 := x0_7c, a8 := x0_8, a9 := x0_9, a10 := x0_10, a11 := x0_11, a12 := x0_12, a13 := x0_13, a14 := x0_14, q15 := x0_15q, n15 := x0_15n, c15 := x0_15c})]) w := by kernel_rfl
theorem sound {R : EP} {x0_0 : Int} {x0_1 x0_2 : ByteArray} {x0_3 : Int} {x0_4 : ByteArray} {x0_5 : Bool} {x0_6q : OA} {x0_6n x0_6c : Nat} {x0_7q : OA} {x0_7n x0_7c : Nat} {x0_8 x0_9 : Int} {x0_10 : ByteArray} {x0_11 : Int} {x0_12 x0_13 x0_14 : Bool} {x0_15q : OA} {x0_15n x0_15c : Nat} {w : World} (h : g_laws_bare R x0_0 x0_1 x0_2 x0_3 x0_4 x0_5 x0_6q x0_6n x0_6c x0_7q x0_7n x0_7c x0_8 x0_9 x0_10 x0_11 x0_12 x0_13 x0_14 x0_15q x0_15n x0_15c w) : callE P i_laws_bare #[(N16.V {a0 := x0_0, a1 := x0_1, a2 := x0_2, a3 := x0_3, a4 := x0_4, a5 := x0_5, q6 := x0_6q, n6 := x0_6n, c6 := x0_6c, q7 := x0_7q, n7 := x0_7n, c7 := x0_7c, a8 := x0_8, a9 := x0_9, a10 := x0_10, a11 := x0_11, a12 := x0_12, a13 := x0_13, a14 := x0_14, q15 := x0_15q, n15 := x0_15n, c15 := x0_15c})] R w :=
 callE_fz (c := body) Tryz.func16 Tryz.call16 (good R) (eq R x0_0 x0_1 x0_2 x0_3 x0_4 x0_5 x0_6q x0_6n x0_6c x0_7q x0_7n x0_7c x0_8 x0_9 x0_10 x0_11 x0_12 x0_13 x0_14 x0_15q x0_15n x0_15c w) h
end g_laws_bare
namespace g_laws_put
noncomputable def body : Code := bodyOf Tryz.f40
def k1 (R : EP) (x0q : OA) (x0n x0c x3 : Nat) (x5 : Int) (x23 : Bool) (w : World) : Prop :=
 br x23
 (tk w fun w6 =>
 0 ≤ x5 ∧ x5 < (x0n : Int) ∧
 nilP x0q fun a7 =>
 ∃ (v8 : BA), w6.cell? ((a7.add (Int.toNat x5 * 10)).add 1) = some (.string v8) ∧
 ∃ (v9 : BA), w6.cell? ⟨x3, 1, none⟩ = some (.string v9) ∧
 ((v8.size + v9.size : Nat) : Int) ≤ IntKind.i64.max ∧
 0 ≤ x5 ∧ x5 < (x0n : Int) ∧
 nilP x0q fun a10 =>
 stV w6 (((a10.add (Int.toNat x5 * 10)).add 1).add 0) (.string (v8 ++ v9)) fun w11 =>
 R (.returned (.slice x0q x0n x0c)) w11)
 (ldB10 w x3 fun m12 =>
 ∃ (r22q : OA), ∃ (r22n : Nat), ∃ (r22c : Nat), ∃ w23, (Instr.buildSlice ty_S_spec_Node 1 #[(0, m12.V)]).run P w = .ok (.slice r22q r22n r22c) w23 ∧
 ∃ (r24q : OA), ∃ (r24n : Nat), ∃ (r24c : Nat), ∃ w25, (Builtin.append_ #[ty_S_spec_Node, ty_S_spec_Node] ty_S_spec_Node #[.slice x0q x0n x0c, .slice r22q r22n r22c]).run P w23 = .ok (.slice r24q r24n r24c) w25 ∧
 R (.returned (.slice r24q r24n r24c)) w25)

end g_laws_put
def g_laws_put (R : EP) (x0q : OA) (x0n x0c : Nat) (x1_0 : Int) (x1_1 x1_2 : BA) (x1_3 : Int) (x1_4 : BA) (x1_5 : Bool) (x1_6q : OA) (x1_6n x1_6c : Nat) (x1_7q : OA) (x1_7n x1_7c : Nat) (x1_8 x1_9 : Int) (w : World) : Prop :=
 box w (N10.C {a0 := x1_0, a1 := x1_1, a2 := x1_2, a3 := x1_3, a4 := x1_4, a5 := x1_5, q6 := x1_6q, n6 := x1_6n, c6 := x1_6c, q7 := x1_7q, n7 := x1_7n, c7 := x1_7c, a8 := x1_8, a9 := x1_9}) ty_spec_Node fun b1 w2 =>
 br (decide ((IntKind.i64.wrap ((x0n : Int) - 1)) ≥ 0))
 (∃ (v3 : Int), w2.cell? ⟨b1, 0, none⟩ = some (.int .i64 v3) ∧
 br (v3 == 20)
 (0 ≤ (IntKind.i64.wrap ((x0n : Int) - 1)) ∧ (IntKind.i64.wrap ((x0n : Int) - 1)) < (x0n : Int) ∧
 nilP x0q fun a4 =>
 ∃ (v5 : Int), w2.cell? (a4.add (Int.toNat (IntKind.i64.wrap ((x0n : Int) - 1)) * 10)) = some (.int .i64 v5) ∧
 g_laws_put.k1 R x0q x0n x0c b1 (IntKind.i64.wrap ((x0n : Int) - 1)) (v5 == 20) w2)
 (g_laws_put.k1 R x0q x0n x0c b1 (IntKind.i64.wrap ((x0n : Int) - 1)) false w2))
 (g_laws_put.k1 R x0q x0n x0c b1 (IntKind.i64.wrap ((x0n : Int) - 1)) false w2)

namespace g_laws_put
noncomputable def ac (R : EP) : AC :=
 (.seq (.leaf (sel [0] body)) (.seq (.seq (.leaf (sel [1,0,0] body)) (.seq (.leaf (sel [1,0,1,0] body)) (.mark (leaf [(0, .s .slice), (3, .s .loc), (5, .s (.int .i64)), (23, .s .bool)] (k1 R)) (.cond 23 (.seq (.draw (.pure 0 (.pure 1 (.pure 2 (.pure 3 (.pure 5 (.load 4 (.load 6 (.pure 7 (.pure 8 (.pure 9 (.one 10 .done))))))))))) (sel [1,0,1,1,0,0] body)) (.leaf (sel [1,0,1,1,0,1] body))) (.leaf (sel [1,0,1,1,1] body)))))) (.leaf (sel [1,1] body))))
theorem good (R : EP) : Good P 39 (ac R) (QF P [.tmp 4] R) :=
 ⟨trivial, ⟨⟨trivial, ⟨trivial, ⟨⟨⟨⟨by kernel_rfl, by kernel_rfl, fun _ _ _ h => h⟩, trivial⟩, trivial⟩, cutZ⟩⟩⟩, trivial⟩⟩
theorem eq (R : EP) (x0q : OA) (x0n x0c : Nat) (x1_0 : Int) (x1_1 x1_2 : BA) (x1_3 : Int) (x1_4 : BA) (x1_5 : Bool) (x1_6q : OA) (x1_6n x1_6c : Nat) (x1_7q : OA) (x1_7n x1_7c : Nat) (x1_8 x1_9 : Int) (w : World) : g_laws_put R x0q x0n x0c x1_0 x1_1 x1_2 x1_3 x1_4 x1_5 x1_6q x1_6n x1_6c x1_7q x1_7n x1_7c x1_8 x1_9 w = vcA P 39 (ac R) (QF P [.tmp 4] R) (fr0 [.slice x0q x0n x0c, (N10.V {a0 := x1_0, a1 := x1_1, a2 := x1_2, a3 := x1_3, a4 := x1_4, a5 := x1_5, q6 := x1_6q, n6 := x1_6n, c6 := x1_6c, q7 := x1_7q, n7 := x1_7n, c7 := x1_7c, a8 := x1_8, a9 := x1_9})]) w := by kernel_rfl
theorem sound {R : EP} {x0q : OA} {x0n x0c : Nat} {x1_0 : Int} {x1_1 x1_2 : ByteArray} {x1_3 : Int} {x1_4 : ByteArray} {x1_5 : Bool} {x1_6q : OA} {x1_6n x1_6c : Nat} {x1_7q : OA} {x1_7n x1_7c : Nat} {x1_8 x1_9 : Int} {w : World} (h : g_laws_put R x0q x0n x0c x1_0 x1_1 x1_2 x1_3 x1_4 x1_5 x1_6q x1_6n x1_6c x1_7q x1_7n x1_7c x1_8 x1_9 w) : callE P i_laws_put #[.slice x0q x0n x0c, (N10.V {a0 := x1_0, a1 := x1_1, a2 := x1_2, a3 := x1_3, a4 := x1_4, a5 := x1_5, q6 := x1_6q, n6 := x1_6n, c6 := x1_6c, q7 := x1_7q, n7 := x1_7n, c7 := x1_7c, a8 := x1_8, a9 := x1_9})] R w :=
 callE_fz (c := body) Tryz.func40 Tryz.call40 (good R) (eq R x0q x0n x0c x1_0 x1_1 x1_2 x1_3 x1_4 x1_5 x1_6q x1_6n x1_6c x1_7q x1_7n x1_7c x1_8 x1_9 w) h
end g_laws_put
end Go.Proofs.YtgbgadkldalkbaaGreatDoor

set_option linter.unusedVariables false
namespace Go.Proofs.YtgbgadkldalkbaaGreatDoor
open Go.IntWalk
variable {P : Program} {σ : Out} {w : World} {L L' : List Chunk} {R : Ending → World → Prop}

def Sl (sz : Nat) (e : TypeId) (q : Option Addr) (n c : Nat) (vs : List Value) (M : List Chunk) : Prop :=
 vs.length = n * sz ∧ n ≤ c ∧ ((q = none ∧ n = 0 ∧ c = 0 ∧ M = []) ∨ ∃ b sp, q = some ⟨b, 0, none⟩ ∧ M = [(b, cel (vs ++ sp) e)] ∧ (vs ++ sp).length = c * sz)
theorem Sl.nil (sz : Nat) (e : TypeId) : Sl sz e none 0 0 [] [] := ⟨by simp, Nat.le_refl _, .inl ⟨rfl, rfl, rfl, rfl⟩⟩

structure Row (P : Program) (t e : TypeId) (sz bytes : Nat) where
 i : TypeInfo
 z : Value
 ht : P.underlying t = some (.slice e)
 hi : P.info? e = some i
 hz : i.zero = some z
 hs : i.size = sz
 hb : i.bytes = bytes
 hc : z.cells.size = sz
 pos : 0 < sz

theorem setCells_sat {b : Nat} {cs : List Value} {e : TypeId} (h : Sat σ w ((b, cel cs e) :: L)) : ∀ (o : Nat) (vs : List Value), o + vs.length ≤ cs.length →
 Sat σ (w.setCells b o vs) ((b, cel (cs.take o ++ vs ++ cs.drop (o + vs.length)) e) :: L) := by
 intro o vs
 induction vs generalizing o w cs with
 | nil => intro _; simpa [World.setCells] using h
 | cons v vs ih =>
  intro hl
  simp only [List.length_cons] at hl
  have h1 := h.set (k := 0) (i := o) v rfl
  have h2 := ih (w := w.setCell ⟨b, o, none⟩ v) (cs := cs.set o v) h1 (o + 1) (by simp; omega)
  simp only [World.setCells]
  have e1 : (cs.set o v).take (o + 1) = cs.take o ++ [v] := by
   rw [List.take_set, List.take_succ_eq_append_getElem (by omega), List.set_append_right _ _ (by simp; omega)]
   simp
   rw [show o - min o cs.length = 0 by omega]
   rfl
  have e2 : (cs.set o v).drop (o + 1 + vs.length) = cs.drop (o + (vs.length + 1)) := by
   rw [List.drop_set_of_lt (by omega)]
   congr 1
   omega
  rw [e1, e2] at h2
  simpa using h2

theorem Addr.add_zero_lit (b j : Nat) : Addr.add ⟨b, 0, none⟩ j = ⟨b, j, none⟩ := by
 simp [Addr.add]
 omega
theorem firstCells_sl {sz : Nat} {e : TypeId} {q : Option Addr} {n c : Nat} {vs : List Value} {M : List Chunk} (hS : Sl sz e q n c vs M) (h : Sat σ w (M ++ L)) :
 (Builtin.firstCells sz n (.slice q n c)).run P w = .ok vs.toArray w := by
 obtain ⟨hl, hnc, h1 | ⟨b, sp, h1, h2, h3⟩⟩ := hS
 ·obtain ⟨rfl, rfl, rfl, rfl⟩ := h1
  have : vs = [] := List.eq_nil_of_length_eq_zero (by simpa using hl)
  subst this
  exact run_firstCells_none w sz 0 0 0
 ·subst h1; subst h2
  refine run_firstCells_some w sz n _ n c vs hl fun j u hu => ?_
  rw [show (Addr.add ⟨b, 0, none⟩ j) = ⟨b, j, none⟩ from Addr.add_zero_lit b j]
  refine h.ld (List.mem_cons_self ..) ?_
  rw [List.getElem?_append_left (List.getElem?_eq_some_iff.1 hu).1]
  exact hu

theorem Sat.app {t tx ty e : TypeId} {sz bytes : Nat} (r : Row P t e sz bytes) {q : Option Addr} {n c : Nat} {vs : List Value} {M : List Chunk} (hS : Sl sz e q n c vs M)
 (h : Sat σ w (M ++ L)) {x : Value} {m : Nat} {news : List Value} (hs : Src P sz tx x m news w) (hm : 0 < m ∨ q ≠ none) (hb : (n + m) * bytes ≤ 140737488355328) (hn : n + m < 4611686018427387904) :
 ∃ q' c' w' M', (Builtin.append_ #[t, tx] ty #[.slice q n c, x]).run P w = .ok (.slice q' (n + m) c') w' ∧ Sl sz e q' (n + m) c' (vs ++ news) M' ∧ Sat σ w' (M' ++ L) ∧ q' ≠ none ∧ c ≤ c' := by
 have hfc := firstCells_sl (P := P) hS h.drew
 obtain ⟨hl, hnc, hS⟩ := hS
 obtain ⟨i, z, ht, hi, hz, hsi, hby, hzc, hpos⟩ := r
 subst hsi
 have hnl := hs.newsLen
 by_cases hroom : n + m ≤ c
 ·rcases hS with ⟨rfl, rfl, rfl, rfl⟩ | ⟨b, sp, rfl, rfl, h3⟩
  ·exact absurd hm (by simp; omega)
  ·simp only [List.length_append] at h3
   have hle : (n + m) * i.size ≤ c * i.size := Nat.mul_le_mul_right _ hroom
   rw [Nat.add_mul] at hle
   have hlen : n * i.size + news.length ≤ (vs ++ sp).length := by rw [List.length_append, hnl]; omega
   refine ⟨_, _, _, [(b, cel (vs ++ news ++ sp.drop news.length) e)], run_append_room_src w t tx ty e i ht hi b 0 n c x m news hs hroom ?_ ?_, ⟨?_, hroom, .inr ⟨b, sp.drop news.length, rfl, rfl, ?_⟩⟩, ?_, by simp, Nat.le_refl _⟩
   ·intro j hj
    rw [Nat.zero_add, h.ld (List.mem_cons_self ..) (List.getElem?_eq_getElem (by omega))]
    rfl
   ·exact fun j hj => h.not_frozen (List.mem_cons_self ..)
   ·rw [List.length_append, hl, hnl, Nat.add_mul]
   ·rw [List.length_append, List.length_append, List.length_drop, hl, hnl]; omega
   ·have := setCells_sat h (n * i.size) news hlen
    rw [Nat.zero_add]
    have e1 : (vs ++ sp).take (n * i.size) = vs := by rw [← hl, List.take_left]
    have e2 : (vs ++ sp).drop (n * i.size + news.length) = sp.drop news.length := by rw [← hl, ← List.drop_drop, List.drop_left]
    rw [e1, e2] at this
    exact this
 ·have hg : c < n + m := by omega
  have hfit := growslice_fits (need := n + m) (old := c) (bytes := i.bytes) hg (by rw [hby]; exact hb)
  have hcap := grownCap_ge w (n + m) c e
  have hd : Sat σ w.drew L := h.drew.right
  refine ⟨_, _, _, [(w.heap.size, cel (vs ++ news ++ (Builtin.zeroCells z.cells (grownCap w (n + m) c e - (n + m))).toList) e)], run_append_grow_src w t tx ty e i z ht hi hz q n c vs hfc x m news hs hg (by omega) hfit,
   ⟨?_, hcap, .inr ⟨_, _, rfl, rfl, ?_⟩⟩, ?_, by simp, by omega⟩
  ·rw [List.length_append, hl, hnl, Nat.add_mul]
  ·rw [List.length_append, List.length_append, hl, hnl, Array.length_toList, size_zeroCells, hzc, ← Nat.add_mul, ← Nat.add_mul]
   congr 1
   omega
  ·have := hd.alc (vs ++ news ++ (Builtin.zeroCells z.cells (grownCap w (n + m) c e - (n + m))).toList) e
   have e3 : YtgbgadkldalkbaaGreatDoor.alc w.drew (vs ++ news ++ (Builtin.zeroCells z.cells (grownCap w (n + m) c e - (n + m))).toList).toArray e
    = w.drew.alloc (.cells ((vs ++ news).toArray ++ Builtin.zeroCells z.cells (grownCap w (n + m) c e - (n + m))) e) := by
    rw [show (vs ++ news ++ (Builtin.zeroCells z.cells (grownCap w (n + m) c e - (n + m))).toList).toArray = (vs ++ news).toArray ++ Builtin.zeroCells z.cells (grownCap w (n + m) c e - (n + m)) from by
     apply Array.ext'; simp [List.append_assoc]]
    rfl
   rw [e3] at this
   exact this

theorem Sat.app1 {t ty e : TypeId} {sz bytes : Nat} (r : Row P t e sz bytes) {q : Option Addr} {n c : Nat} {vs : List Value} {M : List Chunk} (hS : Sl sz e q n c vs M)
 (h : Sat σ w (M ++ L)) {v : Value} (hv : v.cells.size = sz) (h1 : ∀ u ∈ v.cells.toList, u.oneCell' = true)
 (hfill : Instr.fill (fun i => some (i * sz, sz)) ((Array.range (1 * sz)).map (r.z.cells[· % r.z.cells.size]!)) [(0, v)] = some v.cells)
 (hb : (n + 1) * bytes ≤ 140737488355328) (hn : n + 1 < 4611686018427387904) (hsz : sz ≤ 100) {K : Option Addr → Nat → Nat → World → Prop}
 (hK : ∀ q' c' w' M', Sl sz e q' (n + 1) c' (vs ++ v.cells.toList) M' → Sat σ w' (M' ++ L) → K q' (n + 1) c' w') :
 ∃ rq rn rc w1, (Instr.buildSlice t 1 #[(0, v)]).run P w = .ok (.slice rq rn rc) w1 ∧
  ∃ q' n' c' w2, (Builtin.append_ #[t, t] ty #[.slice q n c, .slice rq rn rc]).run P w1 = .ok (.slice q' n' c') w2 ∧ K q' n' c' w2 := by
 have hrun := run_buildSlice (P := P) w t e 1 #[(0, v)] v.cells r.i r.z r.ht r.hi r.hz (by rw [r.hs]; omega) (by rw [r.hs]; have := r.pos; omega) (by rw [r.hs]; exact hfill)
 refine ⟨_, _, _, _, hrun, ?_⟩
 have ha := h.alc v.cells.toList e
 have e3 : YtgbgadkldalkbaaGreatDoor.alc w v.cells.toList.toArray e = w.alloc (.cells v.cells e) := by rw [Array.toArray_toList]; rfl
 rw [e3] at ha
 generalize hw1 : w.alloc (.cells v.cells e) = w1 at ha ⊢
 generalize w.heap.size = nb at ha ⊢
 have hs : Src P sz t (.slice (some ⟨nb, 0, none⟩) 1 1) 1 v.cells.toList w1 := by
  refine Src.ofSlice w1 r.ht _ 1 1 _ (by simp [hv]) (fun j u hu => ?_) h1
  rw [show (Addr.add ⟨nb, 0, none⟩ j) = ⟨nb, j, none⟩ from Addr.add_zero_lit nb j]
  exact ha.ld (List.mem_cons_self ..) hu
 have ha2 : Sat σ w1 (M ++ ((nb, cel v.cells.toList e) :: L)) := ha.perm List.perm_middle.symm
 obtain ⟨q', c', w', M', hr, hS', h', _⟩ := Sat.app r (ty := ty) hS ha2 hs (.inl (by omega)) hb hn
 refine ⟨q', n + 1, c', w', hr, hK q' c' w' M' hS' ?_⟩
 exact h'.sub (List.Sublist.append_left (List.sublist_cons_self ..) _)
theorem Sat.app1S {t ty e : TypeId} {sz bytes : Nat} (r : Row P t e sz bytes) {q : Option Addr} {n c : Nat} {vs : List Value} {M : List Chunk} (hS : Sl sz e q n c vs M)
 (h : Sat σ w (M ++ L)) {v : Value} (hv : v.cells.size = sz) (h1 : ∀ u ∈ v.cells.toList, u.oneCell' = true)
 (hfill : Instr.fill (fun i => some (i * sz, sz)) ((Array.range (1 * sz)).map (r.z.cells[· % r.z.cells.size]!)) [(0, v)] = some v.cells)
 (hb : (n + 1) * bytes ≤ 140737488355328) (hn : n + 1 < 4611686018427387904) (hsz : sz ≤ 100) {K : Option Addr → Nat → Nat → World → Prop} {C : World → Prop} (hC : ∀ w1 X, Sat σ w1 (X :: (M ++ L)) → C w1)
 (hK : ∀ q' c' w' M', Sl sz e q' (n + 1) c' (vs ++ v.cells.toList) M' → Sat σ w' (M' ++ L) → K q' (n + 1) c' w') :
 ∃ rq rn rc w1, (Instr.buildSlice t 1 #[(0, v)]).run P w = .ok (.slice rq rn rc) w1 ∧ C w1 ∧
  ∃ q' n' c' w2, (Builtin.append_ #[t, t] ty #[.slice q n c, .slice rq rn rc]).run P w1 = .ok (.slice q' n' c') w2 ∧ K q' n' c' w2 := by
 have hrun := run_buildSlice (P := P) w t e 1 #[(0, v)] v.cells r.i r.z r.ht r.hi r.hz (by rw [r.hs]; omega) (by rw [r.hs]; have := r.pos; omega) (by rw [r.hs]; exact hfill)
 refine ⟨_, _, _, _, hrun, ?_⟩
 have ha := h.alc v.cells.toList e
 have e3 : YtgbgadkldalkbaaGreatDoor.alc w v.cells.toList.toArray e = w.alloc (.cells v.cells e) := by rw [Array.toArray_toList]; rfl
 rw [e3] at ha
 generalize hw1 : w.alloc (.cells v.cells e) = w1 at ha ⊢
 generalize w.heap.size = nb at ha ⊢
 have hs : Src P sz t (.slice (some ⟨nb, 0, none⟩) 1 1) 1 v.cells.toList w1 := by
  refine Src.ofSlice w1 r.ht _ 1 1 _ (by simp [hv]) (fun j u hu => ?_) h1
  rw [show (Addr.add ⟨nb, 0, none⟩ j) = ⟨nb, j, none⟩ from Addr.add_zero_lit nb j]
  exact ha.ld (List.mem_cons_self ..) hu
 have ha2 : Sat σ w1 (M ++ ((nb, cel v.cells.toList e) :: L)) := ha.perm List.perm_middle.symm
 obtain ⟨q', c', w', M', hr, hS', h', _⟩ := Sat.app r (ty := ty) hS ha2 hs (.inl (by omega)) hb hn
 refine ⟨hC _ _ ha, q', n + 1, c', w', hr, hK q' c' w' M' hS' ?_⟩
 exact h'.sub (List.Sublist.append_left (List.sublist_cons_self ..) _)
end Go.Proofs.YtgbgadkldalkbaaGreatDoor


set_option linter.unusedVariables false
set_option maxRecDepth 20000
namespace Go.Proofs.YtgbgadkldalkbaaGreatDoor
open Go.Proofs
namespace g_parseState_trimStack
noncomputable def body : Code := bodyOf Tryz.f69
def bl1 (R : EP) (Xa : OA → Int → WP) (x0 : OA) (x1 : Int) (w : World) : Prop :=
 nilP x0 fun a3 =>
 ∃ (v4q : OA), ∃ (v4n : Nat), ∃ (v4c : Nat), w.cell? (a3.add 4) = some (.slice v4q v4n v4c) ∧
 br (decide ((v4n : Int) > x1))
 (callE P i_parseState_closeBlock #[.pointer x0] (fun e w6 => ∃ (r5 : Value), e = .returned r5 ∧
 Xa x0 x1 w6) w)
 (R (.returned (.tuple #[])) w)
def l1 (R : EP) (x0 : OA) (x1 : Int) (w : World) : Prop :=
 ∀ X : OA → Int → WP, (∀ x0 x1 w, bl1 R X x0 x1 w → X x0 x1 w) → X x0 x1 w

noncomputable def al1 (R : EP) (Xa : OA → Int → WP) : AC :=
 (.leaf (sel [1,0,0] body))
def k1 (R : EP) (x0 : OA) (x1 : Int) (w : World) : Prop :=
 l1 R x0 x1 w

end g_parseState_trimStack
def g_parseState_trimStack (R : EP) (x0 : OA) (x1 : Int) (w : World) : Prop :=
 nilP x0 fun a1 =>
 ∃ (v2q : OA), ∃ (v2n : Nat), ∃ (v2c : Nat), w.cell? (a1.add 4) = some (.slice v2q v2n v2c) ∧
 br (decide ((v2n : Int) < x1))
 (False)
 (g_parseState_trimStack.k1 R x0 x1 w)

namespace g_parseState_trimStack
noncomputable def ac (R : EP) : AC :=
 (.seq (.leaf (sel [0] body)) (.mark (leaf [(0, .s .ptr), (1, .s (.int .i64))] (k1 R)) (.block 0 (.loop (leaf [(0, .s .ptr), (1, .s (.int .i64))] (l1 R)) (sel [1,0,0] body)))))
theorem good (R : EP) : Good P 21 (ac R) (QF P [] R) :=
 ⟨trivial, ⟨(loopG (al1 R) (bl1 R) (fun _ => by kernel_rfl) (fun Xa => trivial) (fun Xa => by intro x0 x1 ρ w; kernel_rfl) (fun X h _ _ _ g => g X h)), cutZ⟩⟩
theorem eq (R : EP) (x0 : OA) (x1 : Int) (w : World) : g_parseState_trimStack R x0 x1 w = vcA P 21 (ac R) (QF P [] R) (fr0 [.pointer x0, .int .i64 x1]) w := by kernel_rfl
theorem sound {R : EP} {x0 : OA} {x1 : Int} {w : World} (h : g_parseState_trimStack R x0 x1 w) : callE P i_parseState_trimStack #[.pointer x0, .int .i64 x1] R w :=
 callE_fz (c := body) Tryz.func69 Tryz.call69 (good R) (eq R x0 x1 w) h
end g_parseState_trimStack
namespace g_parseState_closeBlock
noncomputable def body : Code := bodyOf Tryz.f88
def k3 (R : EP) (x0 : OA) (x4 : Value) (w : World) : Prop :=
 tk w fun w38 =>
 nilP x0 fun a39 =>
 nilP x0 fun a40 =>
 ∃ (v41q : OA), ∃ (v41n : Nat), ∃ (v41c : Nat), w38.cell? (a39.add 4) = some (.slice v41q v41n v41c) ∧
 ∃ (v42q : OA), ∃ (v42n : Nat), ∃ (v42c : Nat), w38.cell? (a40.add 4) = some (.slice v42q v42n v42c) ∧
 ∃ (r43q : OA), ∃ (r43n : Nat), ∃ (r43c : Nat), (∀ w, (Instr.sliceAt ty_S_openBlock (.slice v41q v41n v41c) none (some (.int .i64 (IntKind.i64.wrap ((v42n : Int) - 1)))) none).run P w = .ok (.slice r43q r43n r43c) w) ∧
 nilP x0 fun a44 =>
 stV w38 ((a44.add 4).add 0) (.slice r43q r43n r43c) fun w45 =>
 nilP x0 fun a46 =>
 ∃ (v47q : OA), ∃ (v47n : Nat), ∃ (v47c : Nat), w45.cell? (a46.add 4) = some (.slice v47q v47n v47c) ∧
 br (decide ((v47n : Int) > 0))
 (tk w45 fun w48 =>
 nilP x0 fun a49 =>
 nilP x0 fun a50 =>
 ∃ (v51q : OA), ∃ (v51n : Nat), ∃ (v51c : Nat), w48.cell? (a49.add 4) = some (.slice v51q v51n v51c) ∧
 ∃ (v52q : OA), ∃ (v52n : Nat), ∃ (v52c : Nat), w48.cell? (a50.add 4) = some (.slice v52q v52n v52c) ∧
 0 ≤ (IntKind.i64.wrap ((v52n : Int) - 1)) ∧ (IntKind.i64.wrap ((v52n : Int) - 1)) < (v51n : Int) ∧
 nilP v51q fun a53 =>
 ∃ (v54q : OA), ∃ (v54n : Nat), ∃ (v54c : Nat), w48.cell? ((a53.add (Int.toNat (IntKind.i64.wrap ((v52n : Int) - 1)) * 4)).add 1) = some (.slice v54q v54n v54c) ∧
 ∃ (r55q : OA), ∃ (r55n : Nat), ∃ (r55c : Nat), ∃ w56, (Instr.buildSlice ty_S_Block 1 #[(0, x4)]).run P w48 = .ok (.slice r55q r55n r55c) w56 ∧
 ∃ (r57q : OA), ∃ (r57n : Nat), ∃ (r57c : Nat), ∃ w58, (Builtin.append_ #[ty_S_Block, ty_S_Block] ty_S_Block #[.slice v54q v54n v54c, .slice r55q r55n r55c]).run P w56 = .ok (.slice r57q r57n r57c) w58 ∧
 stV w58 (((a53.add (Int.toNat (IntKind.i64.wrap ((v52n : Int) - 1)) * 4)).add 1).add 0) (.slice r57q r57n r57c) fun w59 =>
 R (.returned x4) w59)
 (∃ (r60 : OA), ∃ w61, (Instr.typeAssert x4 ty_Block ty_P_Document false).run P w45 = .ok (.pointer r60) w61 ∧
 nilP x0 fun a62 =>
 stV w61 ((a62.add 1).add 0) (.pointer r60) fun w63 =>
 R (.returned x4) w63)

def k2 (R : EP) (x0 : OA) (x4 : Value) (x5 : OA) (w : World) : Prop :=
 nilP x0 fun a26 =>
 ∃ (v27 : OA), w.cell? a26 = some (.pointer v27) ∧
 nilP v27 fun a28 =>
 ∃ (v29 : Bool), w.cell? (a28.add 2) = some (.bool v29) ∧
 br v29
 (nilP x0 fun a30 =>
 ∃ (v31q : OA), ∃ (v31n : Nat), ∃ (v31c : Nat), w.cell? (a30.add 10) = some (.slice v31q v31n v31c) ∧
 ∃ (r32q : OA), ∃ (r32n : Nat), ∃ (r32c : Nat), ∃ w33, (Instr.buildSlice ty_S_P_List 1 #[(0, .pointer x5)]).run P w = .ok (.slice r32q r32n r32c) w33 ∧
 ∃ (r34q : OA), ∃ (r34n : Nat), ∃ (r34c : Nat), ∃ w35, (Builtin.append_ #[ty_S_P_List, ty_S_P_List] ty_S_P_List #[.slice v31q v31n v31c, .slice r32q r32n r32c]).run P w33 = .ok (.slice r34q r34n r34c) w35 ∧
 nilP x0 fun a36 =>
 stV w35 ((a36.add 10).add 0) (.slice r34q r34n r34c) fun w37 =>
 k3 R x0 x4 w37)
 (k3 R x0 x4 w)

def k1 (R : EP) (x0 x3 : OA) (w : World) : Prop :=
 nilP x3 fun a12 =>
 ∃ (v13 : Value), w.cell? a12 = some v13 ∧
 enterE P (callMethod v13 "pub-paratext/pub/rscmarkdown.build" #[.iface ty_P_parseState (.pointer x0)]) (fun e w15 => ∃ (r14 : Value), e = .returned r14 ∧
 ∃ (r16_0 : OA), ∃ (r16_1 : Bool), ∃ w17, (Instr.typeAssert r14 ty_Block ty_P_List true).run P w15 = .ok (.tuple #[.pointer r16_0, .bool r16_1]) w17 ∧
 br r16_1
 (nilP x0 fun a18 =>
 ∃ (v19 : Bool), w17.cell? (a18.add 6) = some (.bool v19) ∧
 br v19
 (nilP x0 fun a20 =>
 stV w17 ((a20.add 6).add 0) (.bool true) fun w21 =>
 k2 R x0 r14 r16_0 w21)
 (callE P i_listCorner #[.pointer r16_0] (fun e w23 => ∃ (r22 : Bool), e = .returned (.bool r22) ∧
 nilP x0 fun a24 =>
 stV w23 ((a24.add 6).add 0) (.bool r22) fun w25 =>
 k2 R x0 r14 r16_0 w25) w17))
 (k3 R x0 r14 w17)) w

end g_parseState_closeBlock
def g_parseState_closeBlock (R : EP) (x0 : OA) (w : World) : Prop :=
 tk w fun w1 =>
 nilP x0 fun a2 =>
 nilP x0 fun a3 =>
 ∃ (v4q : OA), ∃ (v4n : Nat), ∃ (v4c : Nat), w1.cell? (a2.add 4) = some (.slice v4q v4n v4c) ∧
 ∃ (v5q : OA), ∃ (v5n : Nat), ∃ (v5c : Nat), w1.cell? (a3.add 4) = some (.slice v5q v5n v5c) ∧
 0 ≤ (IntKind.i64.wrap ((v5n : Int) - 1)) ∧ (IntKind.i64.wrap ((v5n : Int) - 1)) < (v4n : Int) ∧
 nilP v4q fun a6 =>
 ∃ (v7 : Value), w1.cell? (a6.add (Int.toNat (IntKind.i64.wrap ((v5n : Int) - 1)) * 4)) = some v7 ∧
 ∃ (r8 : Bool), ∃ w9, (do eqGuard .eql ty_blockBuilder (.tmp 22) (.const .nilIface) v7 .nilIface; binOp .eql ty_blockBuilder v7 .nilIface).run P w1 = .ok (.bool r8) w9 ∧
 br r8
 (nilP x0 fun a10 =>
 ∃ (v11q : OA), ∃ (v11n : Nat), ∃ (v11c : Nat), w9.cell? (a10.add 4) = some (.slice v11q v11n v11c) ∧
 False)
 (g_parseState_closeBlock.k1 R x0 (some (a6.add (Int.toNat (IntKind.i64.wrap ((v5n : Int) - 1)) * 4))) w9)

namespace g_parseState_closeBlock
noncomputable def ac (R : EP) : AC :=
 (.seq (.leaf (sel [0] body)) (.seq (.draw (.pure 0 (.pure 1 (.pure 2 (.pure 4 (.pure 5 (.pure 6 (.load 3 (.load 7 (.pure 8 (.pure 9 (.pure 10 (.pure 11 .done)))))))))))) (sel [1,0] body)) (.seq (.leaf (sel [1,1,0] body)) (.mark (leaf [(0, .s .ptr), (3, .s .ptr)] (k1 R)) (.seq (.leaf (sel [1,1,1,0] body)) (.seq (.seq (.leaf (sel [1,1,1,1,0,0] body)) (.seq (.leaf (sel [1,1,1,1,0,1,0] body)) (.cond 42 (.seq (.leaf (sel [1,1,1,1,0,1,1,0,0] body)) (.mark (leaf [(0, .s .ptr), (4, .s .any), (5, .s .ptr)] (k2 R)) (.leaf (sel [1,1,1,1,0,1,1,0,1] body)))) (.leaf (sel [1,1,1,1,0,1,1,1] body))))) (.mark (leaf [(0, .s .ptr), (4, .s .any)] (k3 R)) (.seq (.draw (.pure 0 (.pure 1 (.pure 2 (.pure 3 (.pure 5 (.pure 6 (.pure 7 (.load 4 (.load 8 (.pure 9 (.pure 10 (.pure 11 (.pure 12 (.pure 13 (.one 14 .done))))))))))))))) (sel [1,1,1,1,1,0] body)) (.seq (.seq (.leaf (sel [1,1,1,1,1,1,0,0] body)) (.cond 90 (.seq (.draw (.pure 0 (.pure 1 (.pure 2 (.pure 4 (.pure 5 (.pure 6 (.load 3 (.load 7 (.pure 8 (.pure 9 (.pure 10 (.pure 11 .done)))))))))))) (sel [1,1,1,1,1,1,0,1,0,0] body)) (.leaf (sel [1,1,1,1,1,1,0,1,0,1] body))) (.leaf (sel [1,1,1,1,1,1,0,1,1] body)))) (.leaf (sel [1,1,1,1,1,1,1] body)))))))))))
theorem good (R : EP) : Good P 118 (ac R) (QF P [.tmp 2] R) :=
 ⟨trivial, ⟨⟨by kernel_rfl, by kernel_rfl, fun _ _ _ h => h⟩, ⟨trivial, ⟨⟨trivial, ⟨⟨trivial, ⟨trivial, ⟨⟨trivial, ⟨trivial, cutZ⟩⟩, trivial⟩⟩⟩, ⟨⟨⟨by kernel_rfl, by kernel_rfl, fun _ _ _ h => h⟩, ⟨⟨trivial, ⟨⟨⟨by kernel_rfl, by kernel_rfl, fun _ _ _ h => h⟩, trivial⟩, trivial⟩⟩, trivial⟩⟩, cutZ⟩⟩⟩, cutZ⟩⟩⟩⟩
theorem eq (R : EP) (x0 : OA) (w : World) : g_parseState_closeBlock R x0 w = vcA P 118 (ac R) (QF P [.tmp 2] R) (fr0 [.pointer x0]) w := by kernel_rfl
theorem sound {R : EP} {x0 : OA} {w : World} (h : g_parseState_closeBlock R x0 w) : callE P i_parseState_closeBlock #[.pointer x0] R w :=
 callE_fz (c := body) Tryz.func88 Tryz.call88 (good R) (eq R x0 w) h
end g_parseState_closeBlock
namespace g_rootBuilder_build
noncomputable def body : Code := bodyOf Tryz.f331
end g_rootBuilder_build
def g_rootBuilder_build (R : EP) (x0 : OA) (x1 : Value) (w : World) : Prop :=
 tk w fun w1 =>
 ∃ (r2 : OA), (∀ w, (Instr.typeAssert x1 ty_buildState ty_P_parseState false).run P w = .ok (.pointer r2) w) ∧
 nilP r2 fun a3 =>
 ∃ (v4 : Option Nat), w1.cell? (a3.add 2) = some (.map v4) ∧
 enterE P (callMethod x1 "pub-paratext/pub/rscmarkdown.pos" #[]) (fun e w6 => ∃ (r5_0 : Int), ∃ (r5_1 : Int), e = .returned (.agg #[.int .i64 r5_0, .int .i64 r5_1]) ∧
 SameC w1 w6 (a3.add 2) 1 ∧
 enterE P (callMethod x1 "pub-paratext/pub/rscmarkdown.blocks" #[]) (fun e w8 => ∃ (r7q : OA), ∃ (r7n : Nat), ∃ (r7c : Nat), e = .returned (.slice r7q r7n r7c) ∧
 SameC w6 w8 (a3.add 2) 1 ∧
 box w8 #[.int .i64 r5_0, .int .i64 r5_1, .slice r7q r7n r7c, .map v4] ty_Document fun b9 w10 =>
 R (.returned (.iface ty_P_Document (.pointer (some ⟨b9, 0, none⟩)))) w10) w6) w1

namespace g_rootBuilder_build
noncomputable def ac (R : EP) : AC :=
 (.seq (.leaf (sel [0] body)) (.seq (.draw (.pure 0 (.pure 2 (.pure 4 (.pure 5 (.pure 6 (.pure 7 (.load 8 (.one 1 (.one 3 (.pure 9 (.one 10 (.pure 11 (.pure 12 .done))))))))))))) (sel [1,0] body)) (.leaf (sel [1,1] body))))
theorem good (R : EP) : Good P 17 (ac R) (QF P [.tmp 4] R) :=
 ⟨trivial, ⟨⟨by kernel_rfl, by kernel_rfl, fun _ _ _ h => h⟩, trivial⟩⟩
theorem eq (R : EP) (x0 : OA) (x1 : Value) (w : World) : g_rootBuilder_build R x0 x1 w = vcA P 17 (ac R) (QF P [.tmp 4] R) (fr0 [.pointer x0, x1]) w := by kernel_rfl
theorem sound {R : EP} {x0 : OA} {x1 : Value} {w : World} (h : g_rootBuilder_build R x0 x1 w) : callE P i_rootBuilder_build #[.pointer x0, x1] R w :=
 callE_fz (c := body) Tryz.func331 Tryz.call331 (good R) (eq R x0 x1 w) h
end g_rootBuilder_build
namespace g_parseState_pos
noncomputable def body : Code := bodyOf Tryz.f335
end g_parseState_pos
def g_parseState_pos (R : EP) (x0 : OA) (w : World) : Prop :=
 box w #[.int .i64 0, .int .i64 0] ty_Position fun b1 w2 =>
 tk w2 fun w3 =>
 nilP x0 fun a4 =>
 nilP x0 fun a5 =>
 ∃ (v6q : OA), ∃ (v6n : Nat), ∃ (v6c : Nat), w3.cell? (a4.add 4) = some (.slice v6q v6n v6c) ∧
 ∃ (v7q : OA), ∃ (v7n : Nat), ∃ (v7c : Nat), w3.cell? (a5.add 4) = some (.slice v7q v7n v7c) ∧
 0 ≤ (IntKind.i64.wrap ((v7n : Int) - 1)) ∧ (IntKind.i64.wrap ((v7n : Int) - 1)) < (v6n : Int) ∧
 nilP v6q fun a8 =>
 ∃ (v9 : Int), w3.cell? (((a8.add (Int.toNat (IntKind.i64.wrap ((v7n : Int) - 1)) * 4)).add 2).add 0) = some (.int .i64 v9) ∧
 ∃ (v10 : Int), w3.cell? (((a8.add (Int.toNat (IntKind.i64.wrap ((v7n : Int) - 1)) * 4)).add 2).add 1) = some (.int .i64 v10) ∧
 stV w3 ⟨b1, 0, none⟩ (.int .i64 v9) fun w11 =>
 stV w11 ⟨b1, 1, none⟩ (.int .i64 v10) fun w12 =>
 ∃ (v13 : Int), w12.cell? ⟨b1, 0, none⟩ = some (.int .i64 v13) ∧
 ∃ (v14 : Int), w12.cell? ⟨b1, 1, none⟩ = some (.int .i64 v14) ∧
 R (.returned (.agg #[.int .i64 v13, .int .i64 v14])) w12

namespace g_parseState_pos
noncomputable def ac (R : EP) : AC :=
 (.seq (.leaf (sel [0] body)) (.seq (.draw (.pure 0 (.pure 1 (.pure 2 (.pure 4 (.pure 5 (.pure 6 (.load 3 (.load 7 (.pure 8 (.pure 9 (.pure 10 (.pure 11 .done)))))))))))) (sel [1,0] body)) (.leaf (sel [1,1] body))))
theorem good (R : EP) : Good P 19 (ac R) (QF P [.cell 2 90] R) :=
 ⟨trivial, ⟨⟨by kernel_rfl, by kernel_rfl, fun _ _ _ h => h⟩, trivial⟩⟩
theorem eq (R : EP) (x0 : OA) (w : World) : g_parseState_pos R x0 w = vcA P 19 (ac R) (QF P [.cell 2 90] R) (fr0 [.pointer x0]) w := by kernel_rfl
theorem sound {R : EP} {x0 : OA} {w : World} (h : g_parseState_pos R x0 w) : callE P i_parseState_pos #[.pointer x0] R w :=
 callE_fz (c := body) Tryz.func335 Tryz.call335 (good R) (eq R x0 w) h
end g_parseState_pos
namespace g_skipSpace
noncomputable def body : Code := bodyOf Tryz.f154
def bl1 (R : EP) (Xa : BA → Int → WP) (x0 : BA) (x1 : Int) (w : World) : Prop :=
 ((decide (x1 < (x0.size : Int))) = true → 0 ≤ x1 ∧ x1 < (x0.size : Int)) ∧
 (((decide (x1 < (x0.size : Int))) && (!((bt x0 x1) == 32))) = true → 0 ≤ x1 ∧ x1 < (x0.size : Int)) ∧
 (((decide (x1 < (x0.size : Int))) && (!(((bt x0 x1) == 32) || ((bt x0 x1) == 9)))) = true → 0 ≤ x1 ∧ x1 < (x0.size : Int)) ∧
 br ((decide (x1 < (x0.size : Int))) && ((((bt x0 x1) == 32) || ((bt x0 x1) == 9)) || ((bt x0 x1) == 10)))
 (Xa x0 (IntKind.i64.wrap (x1 + 1)) w)
 (R (.returned (.int .i64 x1)) w)
def l1 (R : EP) (x0 : BA) (x1 : Int) (w : World) : Prop :=
 ∀ X : BA → Int → WP, (∀ x0 x1 w, bl1 R X x0 x1 w → X x0 x1 w) → X x0 x1 w

noncomputable def al1 (R : EP) (Xa : BA → Int → WP) : AC :=
 (.leaf (sel [1,0,0,0] body))
end g_skipSpace
def g_skipSpace (R : EP) (x0 : BA) (x1 : Int) (w : World) : Prop :=
 g_skipSpace.l1 R x0 x1 w

namespace g_skipSpace
noncomputable def ac (R : EP) : AC :=
 (.seq (.leaf (sel [0] body)) (.seq (.block 0 (.loop (leaf [(0, .s .str), (1, .s (.int .i64))] (l1 R)) (sel [1,0,0,0] body))) (.leaf (sel [1,1] body))))
theorem good (R : EP) : Good P 30 (ac R) (QF P [.tmp 4] R) :=
 ⟨trivial, ⟨(loopG (al1 R) (bl1 R) (fun _ => by kernel_rfl) (fun Xa => trivial) (fun Xa => by intro x0 x1 ρ w; kernel_rfl) (fun X h _ _ _ g => g X h)), trivial⟩⟩
theorem eq (R : EP) (x0 : BA) (x1 : Int) (w : World) : g_skipSpace R x0 x1 w = vcA P 30 (ac R) (QF P [.tmp 4] R) (fr0 [.string x0, .int .i64 x1]) w := by kernel_rfl
theorem sound {R : EP} {x0 : ByteArray} {x1 : Int} {w : World} (h : g_skipSpace R x0 x1 w) : callE P i_skipSpace #[.string x0, .int .i64 x1] R w :=
 callE_fz (c := body) Tryz.func154 Tryz.call154 (good R) (eq R x0 x1 w) h
end g_skipSpace
namespace g_parseState_addLine
noncomputable def body : Code := bodyOf Tryz.f68
def k3 (R : EP) (Xa : OA → Nat → WP) (x0 : OA) (x3 : Nat) (w : World) : Prop :=
 nilP x0 fun a70 =>
 ∃ (v71 : Int), w.cell? (a70.add 5) = some (.int .i64 v71) ∧
 nilP x0 fun a72 =>
 stV w ((a72.add 5).add 0) (.int .i64 (IntKind.i64.wrap (v71 + 1))) fun w73 =>
 Xa x0 x3 w73

def bl2 (R : EP) (Xb : OA → Nat → WP) (Xc : OA → Nat → OA → Nat → Nat → Int → Int → WP) (x0 : OA) (x3 : Nat) (x86q : OA) (x86n x86c : Nat) (x87 x88 : Int) (w : World) : Prop :=
 br (decide (x88 < x87))
 (0 ≤ x88 ∧ x88 < (x86n : Int) ∧
 nilP x86q fun a76 =>
 ∃ (v77 : Value), w.cell? (a76.add (Int.toNat x88 * 1)) = some v77 ∧
 ∃ (v78 : Int), w.cell? ⟨x3, 0, none⟩ = some (.int .i64 v78) ∧
 ∃ (v79 : Int), w.cell? ⟨x3, 1, none⟩ = some (.int .i64 v79) ∧
 ∃ (v80 : Int), w.cell? ⟨x3, 2, none⟩ = some (.int .i64 v80) ∧
 ∃ (v81 : BA), w.cell? ⟨x3, 3, none⟩ = some (.string v81) ∧
 ∃ (v82 : Int), w.cell? ⟨x3, 4, none⟩ = some (.int .u8 v82) ∧
 enterE P (do let d ← Deferred.ofValue v77 #[.pointer x0, .agg #[.int .i64 v78, .int .i64 v79, .int .i64 v80, .string v81, .int .u8 v82]]; invoke d.target d.args) (fun e w84 => ∃ (r83_0_0 : Int), ∃ (r83_0_1 : Int), ∃ (r83_0_2 : Int), ∃ (r83_0_3 : BA), ∃ (r83_0_4 : Int), ∃ (r83_1 : Bool), e = .returned (.tuple #[.agg #[.int .i64 r83_0_0, .int .i64 r83_0_1, .int .i64 r83_0_2, .string r83_0_3, .int .u8 r83_0_4], .bool r83_1]) ∧
 box w84 #[.int .i64 0, .int .i64 0, .int .i64 0, .string (ByteArray.mk #[]), .int .u8 0] ty_line fun b85 w86 =>
 stV w86 ⟨b85, 0, none⟩ (.int .i64 r83_0_0) fun w87 =>
 stV w87 ⟨b85, 1, none⟩ (.int .i64 r83_0_1) fun w88 =>
 stV w88 ⟨b85, 2, none⟩ (.int .i64 r83_0_2) fun w89 =>
 stV w89 ⟨b85, 3, none⟩ (.string r83_0_3) fun w90 =>
 stV w90 ⟨b85, 4, none⟩ (.int .u8 r83_0_4) fun w91 =>
 br r83_1
 (∃ (v92 : Int), w91.cell? ⟨b85, 0, none⟩ = some (.int .i64 v92) ∧
 ∃ (v93 : Int), w91.cell? ⟨b85, 1, none⟩ = some (.int .i64 v93) ∧
 ∃ (v94 : Int), w91.cell? ⟨b85, 2, none⟩ = some (.int .i64 v94) ∧
 ∃ (v95 : BA), w91.cell? ⟨b85, 3, none⟩ = some (.string v95) ∧
 ∃ (v96 : Int), w91.cell? ⟨b85, 4, none⟩ = some (.int .u8 v96) ∧
 stV w91 ⟨x3, 0, none⟩ (.int .i64 v92) fun w97 =>
 stV w97 ⟨x3, 1, none⟩ (.int .i64 v93) fun w98 =>
 stV w98 ⟨x3, 2, none⟩ (.int .i64 v94) fun w99 =>
 stV w99 ⟨x3, 3, none⟩ (.string v95) fun w100 =>
 stV w100 ⟨x3, 4, none⟩ (.int .u8 v96) fun w101 =>
 callE P i_line_isBlank #[.pointer (some ⟨x3, 0, none⟩)] (fun e w103 => ∃ (r102 : Bool), e = .returned (.bool r102) ∧
 br r102
 (R (.returned (.tuple #[])) w103)
 (nilP x0 fun a104 =>
 ∃ (v105 : Int), w103.cell? (a104.add 5) = some (.int .i64 v105) ∧
 nilP x0 fun a106 =>
 stV w103 ((a106.add 5).add 0) (.int .i64 (IntKind.i64.wrap (v105 + 1))) fun w107 =>
 Xb x0 x3 w107)) w101)
 (Xc x0 x3 x86q x86n x86c x87 (IntKind.i64.wrap (x88 + 1)) w91)) w)
 (∃ (v108 : Int), w.cell? ⟨x3, 0, none⟩ = some (.int .i64 v108) ∧
 ∃ (v109 : Int), w.cell? ⟨x3, 1, none⟩ = some (.int .i64 v109) ∧
 ∃ (v110 : Int), w.cell? ⟨x3, 2, none⟩ = some (.int .i64 v110) ∧
 ∃ (v111 : BA), w.cell? ⟨x3, 3, none⟩ = some (.string v111) ∧
 ∃ (v112 : Int), w.cell? ⟨x3, 4, none⟩ = some (.int .u8 v112) ∧
 callE P i_newPara #[.pointer x0, .agg #[.int .i64 v108, .int .i64 v109, .int .i64 v110, .string v111, .int .u8 v112]] (fun e w114 => ∃ (r113_0_0 : Int), ∃ (r113_0_1 : Int), ∃ (r113_0_2 : Int), ∃ (r113_0_3 : BA), ∃ (r113_0_4 : Int), ∃ (r113_1 : Bool), e = .returned (.tuple #[.agg #[.int .i64 r113_0_0, .int .i64 r113_0_1, .int .i64 r113_0_2, .string r113_0_3, .int .u8 r113_0_4], .bool r113_1]) ∧
 R (.returned (.tuple #[])) w114) w)
def l2 (R : EP) (Xb : OA → Nat → WP) (x0 : OA) (x3 : Nat) (x86q : OA) (x86n x86c : Nat) (x87 x88 : Int) (w : World) : Prop :=
 ∀ X : OA → Nat → OA → Nat → Nat → Int → Int → WP, (∀ x0 x3 x86q x86n x86c x87 x88 w, bl2 R Xb X x0 x3 x86q x86n x86c x87 x88 w → X x0 x3 x86q x86n x86c x87 x88 w) → X x0 x3 x86q x86n x86c x87 x88 w

noncomputable def al2 (R : EP) (Xb : OA → Nat → WP) (Xc : OA → Nat → OA → Nat → Nat → Int → Int → WP) : AC :=
 (.leaf (sel [1,0,1,1,1,1,0,1,0,0] body))
def bl102 (R : EP) (Xb : OA → Nat → WP) (x0 : OA) (x3 : Nat) (w : World) : Prop :=
 callE P i_news #[] (fun e w75 => ∃ (r74q : OA), ∃ (r74n : Nat), ∃ (r74c : Nat), e = .returned (.slice r74q r74n r74c) ∧
 l2 R Xb x0 x3 r74q r74n r74c (r74n : Int) 0 w75) w
def l102 (R : EP) (x0 : OA) (x3 : Nat) (w : World) : Prop :=
 ∀ X : OA → Nat → WP, (∀ x0 x3 w, bl102 R X x0 x3 w → X x0 x3 w) → X x0 x3 w

noncomputable def al102 (R : EP) (Xb : OA → Nat → WP) : AC :=
 (.seq (.seq (.leaf (sel [1,0,1,1,1,1,0,0] body)) (.block 2 (.loop (leaf [(0, .s .ptr), (3, .s .loc), (86, .s .slice), (87, .s (.int .i64)), (88, .s (.int .i64))] (l2 R Xb)) (sel [1,0,1,1,1,1,0,1,0,0] body)))) (.leaf (sel [1,0,1,1,1,1,1] body)))
def k2 (R : EP) (x0 : OA) (x3 : Nat) (w : World) : Prop :=
 callE P i_line_isBlank #[.pointer (some ⟨x3, 0, none⟩)] (fun e w65 => ∃ (r64 : Bool), e = .returned (.bool r64) ∧
 br r64
 (nilP x0 fun a66 =>
 ∃ (v67 : Int), w65.cell? (a66.add 5) = some (.int .i64 v67) ∧
 callE P i_parseState_trimStack #[.pointer x0, .int .i64 (IntKind.i64.wrap (v67 + 1))] (fun e w69 => e = .returned (.tuple #[]) ∧
 R (.returned (.tuple #[])) w69) w65)
 (bl102 R (l102 R) x0 x3 w65)) w

def k1 (R : EP) (Xa : OA → Nat → WP) (x0 : OA) (x3 : Nat) (x5 x59 : Bool) (w : World) : Prop :=
 br x59
 (tk w fun w55 =>
 nilP x0 fun a56 =>
 nilP x0 fun a57 =>
 nilP x0 fun a58 =>
 ∃ (v59q : OA), ∃ (v59n : Nat), ∃ (v59c : Nat), w55.cell? (a56.add 4) = some (.slice v59q v59n v59c) ∧
 ∃ (v60 : Int), w55.cell? (a57.add 5) = some (.int .i64 v60) ∧
 ∃ (v61 : Int), w55.cell? (a58.add 3) = some (.int .i64 v61) ∧
 0 ≤ (IntKind.i64.wrap (v60 + 1)) ∧ (IntKind.i64.wrap (v60 + 1)) < (v59n : Int) ∧
 nilP v59q fun a62 =>
 stV w55 ((((a62.add (Int.toNat (IntKind.i64.wrap (v60 + 1)) * 4)).add 2).add 1).add 0) (.int .i64 v61) fun w63 =>
 br (!x5)
 (k2 R x0 x3 w63)
 (k3 R Xa x0 x3 w63))
 (br (!x5)
 (k2 R x0 x3 w)
 (k3 R Xa x0 x3 w))

def bl1 (R : EP) (Xa : OA → Nat → WP) (x0 : OA) (x3 : Nat) (w : World) : Prop :=
 tk w fun w5 =>
 nilP x0 fun a6 =>
 nilP x0 fun a7 =>
 ∃ (v8 : Int), w5.cell? (a6.add 5) = some (.int .i64 v8) ∧
 ∃ (v9q : OA), ∃ (v9n : Nat), ∃ (v9c : Nat), w5.cell? (a7.add 4) = some (.slice v9q v9n v9c) ∧
 br (decide ((IntKind.i64.wrap (v8 + 1)) < (v9n : Int)))
 (∃ (v10 : Int), w5.cell? ⟨x3, 0, none⟩ = some (.int .i64 v10) ∧
 ∃ (v11 : Int), w5.cell? ⟨x3, 1, none⟩ = some (.int .i64 v11) ∧
 ∃ (v12 : Int), w5.cell? ⟨x3, 2, none⟩ = some (.int .i64 v12) ∧
 ∃ (v13 : BA), w5.cell? ⟨x3, 3, none⟩ = some (.string v13) ∧
 ∃ (v14 : Int), w5.cell? ⟨x3, 4, none⟩ = some (.int .u8 v14) ∧
 box w5 #[.int .i64 0, .int .i64 0, .int .i64 0, .string (ByteArray.mk #[]), .int .u8 0] ty_line fun b15 w16 =>
 stV w16 ⟨b15, 0, none⟩ (.int .i64 v10) fun w17 =>
 stV w17 ⟨b15, 1, none⟩ (.int .i64 v11) fun w18 =>
 stV w18 ⟨b15, 2, none⟩ (.int .i64 v12) fun w19 =>
 stV w19 ⟨b15, 3, none⟩ (.string v13) fun w20 =>
 stV w20 ⟨b15, 4, none⟩ (.int .u8 v14) fun w21 =>
 tk w21 fun w22 =>
 nilP x0 fun a23 =>
 nilP x0 fun a24 =>
 ∃ (v25q : OA), ∃ (v25n : Nat), ∃ (v25c : Nat), w22.cell? (a23.add 4) = some (.slice v25q v25n v25c) ∧
 ∃ (v26 : Int), w22.cell? (a24.add 5) = some (.int .i64 v26) ∧
 0 ≤ (IntKind.i64.wrap (v26 + 1)) ∧ (IntKind.i64.wrap (v26 + 1)) < (v25n : Int) ∧
 nilP v25q fun a27 =>
 ∃ (v28 : Value), w22.cell? (a27.add (Int.toNat (IntKind.i64.wrap (v26 + 1)) * 4)) = some v28 ∧
 ∃ (v29 : Int), w22.cell? ⟨x3, 0, none⟩ = some (.int .i64 v29) ∧
 ∃ (v30 : Int), w22.cell? ⟨x3, 1, none⟩ = some (.int .i64 v30) ∧
 ∃ (v31 : Int), w22.cell? ⟨x3, 2, none⟩ = some (.int .i64 v31) ∧
 ∃ (v32 : BA), w22.cell? ⟨x3, 3, none⟩ = some (.string v32) ∧
 ∃ (v33 : Int), w22.cell? ⟨x3, 4, none⟩ = some (.int .u8 v33) ∧
 enterE P (callMethod v28 "pub-paratext/pub/rscmarkdown.extend" #[.pointer x0, .agg #[.int .i64 v29, .int .i64 v30, .int .i64 v31, .string v32, .int .u8 v33]]) (fun e w35 => ∃ (r34_0_0 : Int), ∃ (r34_0_1 : Int), ∃ (r34_0_2 : Int), ∃ (r34_0_3 : BA), ∃ (r34_0_4 : Int), ∃ (r34_1 : Bool), e = .returned (.tuple #[.agg #[.int .i64 r34_0_0, .int .i64 r34_0_1, .int .i64 r34_0_2, .string r34_0_3, .int .u8 r34_0_4], .bool r34_1]) ∧
 stV w35 ⟨x3, 0, none⟩ (.int .i64 r34_0_0) fun w36 =>
 stV w36 ⟨x3, 1, none⟩ (.int .i64 r34_0_1) fun w37 =>
 stV w37 ⟨x3, 2, none⟩ (.int .i64 r34_0_2) fun w38 =>
 stV w38 ⟨x3, 3, none⟩ (.string r34_0_3) fun w39 =>
 stV w39 ⟨x3, 4, none⟩ (.int .u8 r34_0_4) fun w40 =>
 callE P i_line_isBlank #[.pointer (some ⟨b15, 0, none⟩)] (fun e w42 => ∃ (r41 : Bool), e = .returned (.bool r41) ∧
 br (!r41)
 (br r34_1
 (k1 R Xa x0 x3 r34_1 true w42)
 (∃ (v43 : Int), w42.cell? ⟨x3, 0, none⟩ = some (.int .i64 v43) ∧
 ∃ (v44 : Int), w42.cell? ⟨x3, 1, none⟩ = some (.int .i64 v44) ∧
 ∃ (v45 : Int), w42.cell? ⟨x3, 2, none⟩ = some (.int .i64 v45) ∧
 ∃ (v46 : BA), w42.cell? ⟨x3, 3, none⟩ = some (.string v46) ∧
 ∃ (v47 : Int), w42.cell? ⟨x3, 4, none⟩ = some (.int .u8 v47) ∧
 ∃ (v48 : Int), w42.cell? ⟨b15, 0, none⟩ = some (.int .i64 v48) ∧
 ∃ (v49 : Int), w42.cell? ⟨b15, 1, none⟩ = some (.int .i64 v49) ∧
 ∃ (v50 : Int), w42.cell? ⟨b15, 2, none⟩ = some (.int .i64 v50) ∧
 ∃ (v51 : BA), w42.cell? ⟨b15, 3, none⟩ = some (.string v51) ∧
 ∃ (v52 : Int), w42.cell? ⟨b15, 4, none⟩ = some (.int .u8 v52) ∧
 ∃ (r53 : Bool), ∃ w54, (do eqGuard .neq ty_line (.tmp 55) (.tmp 56) (.agg #[.int .i64 v43, .int .i64 v44, .int .i64 v45, .string v46, .int .u8 v47]) (.agg #[.int .i64 v48, .int .i64 v49, .int .i64 v50, .string v51, .int .u8 v52]); binOp .neq ty_line (.agg #[.int .i64 v43, .int .i64 v44, .int .i64 v45, .string v46, .int .u8 v47]) (.agg #[.int .i64 v48, .int .i64 v49, .int .i64 v50, .string v51, .int .u8 v52])).run P w42 = .ok (.bool r53) w54 ∧
 k1 R Xa x0 x3 r34_1 r53 w54))
 (k1 R Xa x0 x3 r34_1 false w42)) w40) w22)
 (k2 R x0 x3 w5)
def l1 (R : EP) (x0 : OA) (x3 : Nat) (w : World) : Prop :=
 ∀ X : OA → Nat → WP, (∀ x0 x3 w, bl1 R X x0 x3 w → X x0 x3 w) → X x0 x3 w

noncomputable def al1 (R : EP) (Xa : OA → Nat → WP) : AC :=
 (.seq (.seq (.draw (.pure 0 (.pure 1 (.pure 2 (.pure 5 (.pure 6 (.pure 7 (.load 3 (.pure 4 (.load 8 (.pure 9 (.pure 10 .done))))))))))) (sel [1,0,1,0,0,0,0,0] body)) (.leaf (sel [1,0,1,0,0,0,0,1] body))) (.seq (.block 1 (.seq (.leaf (sel [1,0,1,0,0,0,1,0,0,0] body)) (.seq (.leaf (sel [1,0,1,0,0,0,1,0,0,1,0] body)) (.seq (.draw (.pure 0 (.pure 1 (.pure 2 (.pure 4 (.pure 5 (.pure 6 (.pure 12 (.load 3 (.load 7 (.pure 8 (.pure 9 (.pure 10 (.load 11 (.load 13 (.one 14 (.pure 15 (.pure 16 (.pure 17 (.one 18 (.pure 19 .done)))))))))))))))))))) (sel [1,0,1,0,0,0,1,0,0,1,1,0] body)) (.seq (.seq (.leaf (sel [1,0,1,0,0,0,1,0,0,1,1,1,0,0] body)) (.mark (leaf [(0, .s .ptr), (3, .s .loc), (5, .s .bool), (59, .s .bool)] (k1 R Xa)) (.cond 59 (.draw (.pure 0 (.pure 1 (.pure 2 (.pure 4 (.pure 5 (.pure 6 (.pure 9 (.pure 10 (.pure 11 (.load 3 (.load 7 (.pure 8 (.load 12 (.pure 13 (.pure 14 (.pure 15 (.one 16 .done))))))))))))))))) (sel [1,0,1,0,0,0,1,0,0,1,1,1,0,1,0] body)) (.leaf (sel [1,0,1,0,0,0,1,0,0,1,1,1,0,1,1] body))))) (.leaf (sel [1,0,1,0,0,0,1,0,0,1,1,1,1] body))))))) (.mark (leaf [(0, .s .ptr), (3, .s .loc)] (k3 R Xa)) (.leaf (sel [1,0,1,0,0,0,1,1] body)))))
end g_parseState_addLine
def g_parseState_addLine (R : EP) (x0 : OA) (x1_0 x1_1 x1_2 : Int) (x1_3 : BA) (x1_4 : Int) (w : World) : Prop :=
 box w #[.int .i64 x1_0, .int .i64 x1_1, .int .i64 x1_2, .string x1_3, .int .u8 x1_4] ty_line fun b1 w2 =>
 nilP x0 fun a3 =>
 stV w2 ((a3.add 5).add 0) (.int .i64 0) fun w4 =>
 g_parseState_addLine.l1 R x0 b1 w4

namespace g_parseState_addLine
noncomputable def ac (R : EP) : AC :=
 (.seq (.leaf (sel [0] body)) (.jump 0 (leaf [(0, .s .ptr), (3, .s .loc)] (l102 R)) (.seq (.leaf (sel [1,0,0] body)) (.seq (.block 0 (.loop (leaf [(0, .s .ptr), (3, .s .loc)] (l1 R)) (sel [1,0,1,0,0,0] body))) (.mark (leaf [(0, .s .ptr), (3, .s .loc)] (k2 R)) (.seq (.leaf (sel [1,0,1,1,0] body)) (.seq (.leaf (sel [1,0,1,1,1,0] body)) (.mark (leaf [(0, .s .ptr), (3, .s .loc)] (bl102 R (l102 R))) (al102 R (l102 R))))))))))
theorem good (R : EP) : Good P 113 (ac R) (QF P [] R) :=
 ⟨trivial, ⟨⟨trivial, ⟨(loopG (al1 R) (bl1 R) (fun _ => by kernel_rfl) (fun Xa => ⟨⟨⟨by kernel_rfl, by kernel_rfl, fun _ _ _ h => h⟩, trivial⟩, ⟨⟨trivial, ⟨trivial, ⟨⟨by kernel_rfl, by kernel_rfl, fun _ _ _ h => h⟩, ⟨⟨trivial, ⟨⟨⟨by kernel_rfl, by kernel_rfl, fun _ _ _ h => h⟩, trivial⟩, cutZ⟩⟩, trivial⟩⟩⟩⟩, ⟨trivial, cutZ⟩⟩⟩) (fun Xa => by intro x0 x3 ρ w; kernel_rfl) (fun X h _ _ _ g => g X h)), ⟨⟨trivial, ⟨trivial, ⟨⟨trivial, (loopG (al2 R (l102 R)) (bl2 R (l102 R)) (fun _ => by kernel_rfl) (fun Xc => trivial) (fun Xc => by intro x0 x3 x86q x86n x86c x87 x88 ρ w; kernel_rfl) (fun X h _ _ _ _ _ _ _ _ g => g X h))⟩, trivial⟩, cutZ⟩⟩, cutZ⟩⟩⟩, .seq .skip (sel [1,0,1,1,1,1] body), by kernel_rfl, jumpG (l := 0) (fun X => .seq (.leaf .skip) (al102 R X)) (bl102 R) (by kernel_rfl) (fun _ => by kernel_rfl) (fun Xb => ⟨trivial, ⟨⟨trivial, (loopG (al2 R Xb) (bl2 R Xb) (fun _ => by kernel_rfl) (fun Xc => trivial) (fun Xc => by intro x0 x3 x86q x86n x86c x87 x88 ρ w; kernel_rfl) (fun X h _ _ _ _ _ _ _ _ g => g X h))⟩, trivial⟩⟩) (fun Xb => by intro x0 x3 ρ w; kernel_rfl) (fun X h _ _ _ g => g X h)⟩⟩
theorem eq (R : EP) (x0 : OA) (x1_0 x1_1 x1_2 : Int) (x1_3 : BA) (x1_4 : Int) (w : World) : g_parseState_addLine R x0 x1_0 x1_1 x1_2 x1_3 x1_4 w = vcA P 113 (ac R) (QF P [] R) (fr0 [.pointer x0, .agg #[.int .i64 x1_0, .int .i64 x1_1, .int .i64 x1_2, .string x1_3, .int .u8 x1_4]]) w := by kernel_rfl
theorem sound {R : EP} {x0 : OA} {x1_0 x1_1 x1_2 : Int} {x1_3 : ByteArray} {x1_4 : Int} {w : World} (h : g_parseState_addLine R x0 x1_0 x1_1 x1_2 x1_3 x1_4 w) : callE P i_parseState_addLine #[.pointer x0, .agg #[.int .i64 x1_0, .int .i64 x1_1, .int .i64 x1_2, .string x1_3, .int .u8 x1_4]] R w :=
 callE_fz (c := body) Tryz.func68 Tryz.call68 (good R) (eq R x0 x1_0 x1_1 x1_2 x1_3 x1_4 w) h
end g_parseState_addLine
namespace g_news
noncomputable def body : Code := bodyOf Tryz.f86
end g_news
def g_news (R : EP) (w : World) : Prop :=
 ∃ (r1q : OA), ∃ (r1n : Nat), ∃ (r1c : Nat), ∃ w2, (Instr.buildSlice ty_S_func_P_parseState_line_line_bool 8 #[(0, .func (.func i_newQuote) #[] #[]), (1, .func (.func i_newATXHeading) #[] #[]), (2, .func (.func i_newSetextHeading) #[] #[]), (3, .func (.func i_newHR) #[] #[]), (4, .func (.func i_newListItem) #[] #[]), (5, .func (.func i_newHTML) #[] #[]), (6, .func (.func i_newFence) #[] #[]), (7, .func (.func i_newPre) #[] #[])]).run P w = .ok (.slice r1q r1n r1c) w2 ∧
 R (.returned (.slice r1q r1n r1c)) w2

namespace g_news
noncomputable def ac (R : EP) : AC :=
 (.leaf (sel [] body))
theorem good (R : EP) : Good P 2 (ac R) (QF P [.tmp 0] R) :=
 trivial
theorem eq (R : EP) (w : World) : g_news R w = vcA P 2 (ac R) (QF P [.tmp 0] R) (fr0 []) w := by kernel_rfl
theorem sound {R : EP} {w : World} (h : g_news R w) : callE P i_news #[] R w :=
 callE_fz (c := body) Tryz.func86 Tryz.call86 (good R) (eq R w) h
end g_news
end Go.Proofs.YtgbgadkldalkbaaGreatDoor
