/- Part 1 of the proof of the law FnWrapped: for every input the law returns true, the inputs read as they did, and memory that was there is as it was; under the conditions of the given row alone. -/
import Derived.Tactics
import Derived.Orders
import Derived.KernelRfl
import Derived.Scope
import Derived.OrdersHeld
import Derived.ArgAppend
import Derived.ChangeFn
import Derived.IntWalk
import Derived.ChangeSame
import Derived.Test.YtendaipfdnhnaaaGreatDoorProg
set_option linter.all false
open Go.IntKind(i64)
open ByteArray renaming mk→hP
open List renaming replicate→hN
namespace Go.Proofs.YtendaipfdnhnaaaGreatDoor

abbrev Fr:=Nat->Value
def upd (ρ:Fr)(d:Nat)(v:Value):Fr:=λt=>match Nat.beq t d with|true=>v|false=>ρ t
def sj (ρ:Fr):Option Nat->Value->Fr
 |none,_=>ρ
 |some d,v=>upd ρ d v
def rd (ρ:Fr):Operand->Value
 | .tmp t=>ρ t
 | .const v=>v
 | .global g=> .pointer (some ⟨g,0,none⟩)
 | .func f=> .func (.func f) #[] #[]
structure RelF (n:Nat) (a:Act) (ρ:Fr):Prop where
 size:a.tmps.size=n
 defers:a.defers= []
 get: ∀t,a.tmps.getD t undef=ρ t

theorem sA (ρ:Fr)(d:Nat):upd ρ d (ρ d)=ρ:=by
 funext t
 unfold upd
 cases h:Nat.beq t d with
 |true=>rw[Nat.eq_of_beq_eq_true h]
 |false=>rfl

theorem RelF.eval {n:Nat}{a:Act}{ρ:Fr}(h:RelF n a ρ)(x:Operand):a.eval x=rd ρ x:=by
 cases x<;>simp[Act.eval,rd,h.get]

theorem RelF.put {n:Nat}{a:Act}{ρ:Fr}(h:RelF n a ρ)(d:Option Nat)(v:Value)(hd: ∀k,d=some k->k<n):RelF n (a.put d v) (sj ρ d v):=by
 cases d with
 |none=>exact h
 |some d=>
  have g:=hd d rfl
  refine⟨by simp[Act.put,h.size],by simp[Act.put,h.defers],λt=>?_⟩
  have hs:=h.size
  simp only[Act.put,sj,upd]
  cases e:Nat.beq t d with
  |true=>
   have:=Nat.eq_of_beq_eq_true e
   subst this
   simp[Array.getD,hs,g]
  |false=>
   have y:t≠d:=λhc=>by subst hc;simp at e
   have E:=h.get t
   simp only[<-E,Array.getD_eq_getD_getElem?]
   rw[Array.getElem?_setIfInBounds_ne (Ne.symm y)]

inductive STy where
 |bool|int (k:IntKind)|str|ptr|slice|map|any
  |loc
def STy.of:Value->STy
 | .bool _=> .bool
 | .int k _=> .int k
 | .string _=> .str
 | .pointer _=> .ptr
 | .slice .. => .slice
 | .map _=> .map
 |_=> .any
inductive CTy where
 |s (t:STy)
 |agg (ts:List STy)
def CTy.of:Value->CTy
 | .agg cs=> .agg (cs.toList.map STy.of)
 |v=> .s (STy.of v)
inductive Ty where
 |c (t:CTy)
 |tuple (ts:List CTy)
def Ty.of:Value->Ty
 | .tuple vs=> .tuple (vs.toList.map CTy.of)
 |v=> .c (CTy.of v)
def Hn (P:Program)(t:TypeId):Ty:=
 match P.types[t]? with
 |some i=>match i.zero with
  |some z=>Ty.of z
  |none=> .c (.s .any)
 |none=> .c (.s .any)

def Ff (P:Program)(t:TypeId):CTy:=
 match Hn P t with
 | .c c=>c
 | .tuple _=> .s .any
def okTy (c:CTy)(ok:Bool):Ty:=
 match ok with
 |true=> .tuple [c,.s .bool]
 |false=> .c c

def STy.ex:STy->(Value->Prop)->Prop
 | .bool,K=> ∃b:Bool,K (.bool b)
 | .int k,K=> ∃n:Int,K (.int k n)
 | .str,K=> ∃s:ByteArray,K (.string s)
 | .ptr,K=> ∃q:Option Addr,K (.pointer q)
 | .slice,K=> ∃(q:Option Addr) (n c:Nat),K (.slice q n c)
 | .map,K=> ∃q:Option Nat,K (.map q)
 | .any,K=> ∃v:Value,K v
 | .loc,K=> ∃b:Nat,K (.pointer (some ⟨b,0,none⟩))
def exS:List STy->(List Value->Prop)->Prop
 | [],K=>K []
 |t::ts,K=>t.ex λv=>exS ts λvs=>K (v::vs)
def CTy.ex:CTy->(Value->Prop)->Prop
 | .s t,K=>t.ex K
 | .agg ts,K=>exS ts λvs=>K (.agg vs.toArray)
def exC:List CTy->(List Value->Prop)->Prop
 | [],K=>K []
 |t::ts,K=>t.ex λv=>exC ts λvs=>K (v::vs)
def Ty.ex:Ty->(Value->Prop)->Prop
 | .c t,K=>t.ex K
 | .tuple ts,K=>exC ts λvs=>K (.tuple vs.toArray)

theorem STy.ex_out {t:STy}{K:Value->Prop}(h:t.ex K): ∃v,K v:=by
 cases t<;>simp only[STy.ex] at h
 case slice=>obtain⟨q,n,c,h⟩:=h;exact⟨_,h⟩
 all_goals obtain⟨x,h⟩:=h;exact⟨_,h⟩
theorem DA: ∀ {ts:List STy} {K:List Value->Prop},exS ts K-> ∃vs,K vs/\vs.length=ts.length
 | [],_,h=>⟨[],h,rfl⟩
 |_::_,_,h=>by
  obtain⟨v,h⟩:=STy.ex_out h
  obtain⟨vs,h,g⟩:=DA h
  exact⟨_,h,by simp[g]⟩
theorem CTy.ex_out {t:CTy}{K:Value->Prop}(h:t.ex K): ∃v,K v:=by
 cases t with
 |s t=>exact STy.ex_out h
 |agg ts=>obtain⟨vs,h,_⟩:=DA h;exact⟨_,h⟩
theorem DC: ∀ {ts:List CTy} {K:List Value->Prop},exC ts K-> ∃vs,K vs
 | [],_,h=>⟨[],h⟩
 |_::_,_,h=>by
  obtain⟨v,h⟩:=CTy.ex_out h
  obtain⟨vs,h⟩:=DC h
  exact⟨_,h⟩
theorem Ty.ex_out {t:Ty}{K:Value->Prop}(h:t.ex K): ∃v,K v:=by
 cases t with
 |c t=>exact CTy.ex_out h
 |tuple ts=>obtain⟨vs,h⟩:=DC h;exact⟨_,h⟩

def nB (P:Program){g:Type}:Sem g->Option g
 | .pure a=>some a
 | .program k=>nB P (k P)
 |_=>none
theorem ko (P:Program){g:Type}(s:Sem g)(a:g)(h:nB P s=some a)(w:World):s.run P w= .ok a w:=by
 induction s with
 |pure x=>simp only[nB,Option.some.injEq] at h;subst h;rfl
 |program k y=>exact y P h
 |_=>simp[nB] at h
def oU (P:Program)(s:Sem Value)(K:Value->Prop):Prop:=
 match nB P s with
 |some v=>K v
 |none=>False

def alc (w:World)(cs:Array Value)(e:TypeId):World:= {w with heap:=w.heap.push (.cells cs e)}
def aA (q:Option Addr)(K:Addr->Prop):Prop:=
 match q with
 |some a=>K a
 |none=>False
def Il:Value->Prop
 | .iface _ _=>True
 | .func (.func _) _ _=>True
 |_=>False
def nilV (v:Value)(K:Value->Prop):Prop:=
 match v with
 | .pointer q=>aA q λa=>K (.pointer (some a))
 |v=>Il v/\K v
def ldS (w:World):List STy->Addr->Nat->(List Value->Prop)->Prop
 | [],_,_,K=>K []
 |t::ts,a,i,K=>t.ex λv=>w.cell? (a.add i)=some v/\ldS w ts a (i+1) λvs=>K (v::vs)
def Ap (P:Program)(t:TypeId):Bool:=
 match P.underlying t with
 |some (.struct _)|some (.array _ _)=>true
 |_=>false
def zo (P:Program)(t:TypeId)(a:Addr)(w:World)(K:Value->Prop):Prop:=
 match P.info? t,P.underlying t with
 |some i,some _=>match Ap P t,i.zero with
  |true,some (.agg cs)=>match Nat.beq cs.toList.length i.size with
   |true=>ldS w (cs.toList.map STy.of) a 0 λvs=>K (.agg vs.toArray)
   |false=>False
  |false,some z=>(STy.of z).ex λv=>w.cell? a=some v/\K v
  |_,_=>False
 |_,_=>False
def ot:Value->Prop
 | .agg _| .tuple _=>False
 |_=>True
def stV (w:World)(a:Addr)(v:Value)(K:World->Prop):Prop:=
 ot v/\(∃u,w.cell? a=some u)/\w.frozen? a=false/\K (w.setCell a v)
def stS:List Value->Addr->Nat->World->(World->Prop)->Prop
 | [],_,_,w,K=>K w
 |v::vs,a,i,w,K=>stV w (a.add i) v λg=>stS vs a (i+1) g K
def DP (v:Value)(K:Prop):Prop:=
 match v with
 | .bool _=>K
 | .int _ _=>K
 | .string _=>K
 | .pointer _=>K
 | .slice _ _ _=>K
 | .map _=>K
 | .func _ _ _=>K
 | .nilFunc=>K
 | .iface _ _=>K
 | .nilIface=>K
 | .agg _=>False
 | .tuple _=>False
 |v=>ot v/\K
def vc (P:Program)(t:TypeId)(v:Value)(K:List Value->Prop):Prop:=
 match Ap P t with
 |true=>match v with
  | .agg cs=>K cs.toList
  |_=>False
 |false=>DP v (K [v])
def Cs (P:Program)(t:TypeId)(a:Addr)(v:Value)(w:World)(K:World->Prop):Prop:=
 match P.info? t with
 |some i=>vc P t v λcs=>match Nat.beq cs.length i.size with
  |true=>stS cs a 0 w K
  |false=>False
 |none=>False
def setCells:List Value->Nat->List Value->List Value
 |cs,_,[]=>cs
 |cs,off,v::vs=>setCells (cs.set off v) (off+1) vs
def buildS (P:Program)(fs:Array Field):List (Nat × Value)->List Value->(List Value->Prop)->Prop
 | [],cs,K=>K cs
 |(i,v)::ps,cs,K=>match fs[i]? with
  |some f=>match P.info? f.type with
   |some g=>vc P f.type v λxs=>match Nat.beq xs.length g.size,Nat.ble (f.offset+xs.length) cs.length with
    |true,true=>buildS P fs ps (setCells cs f.offset xs) K
    |_,_=>False
   |none=>False
  |none=>False
def bt (s:ByteArray)(n:Int):Int:=((s.data.getD n.toNat 0).toNat:Int)
def callE (P:Program)(f:FuncId)(g:Array Value)(R:Ending->World->Prop)(w:World):Prop:=
 ((∀g w,(callFunc f g).run P w= .ok (.enter f g) w)/\Calls P f g w R)\/ ∃v y,(callFunc f g).run P w= .ok (.value v) y/\R (.returned v) y
def de (P:Program)(s:Sem Next)(R:Ending->World->Prop)(w:World):Prop:=
 (∃f y g,s.run P w= .ok (.enter f y) g/\Calls P f y g R)\/ ∃v g,s.run P w= .ok (.value v) g/\R (.returned v) g
def ud (P:Program)(s:Sem Value)(ty:Ty)(K:Value->World->Prop)(w:World):Prop:=
 ty.ex λv=> ∃g,s.run P w= .ok v g/\K v g
def semU (P:Program)(s:Sem Unit)(K:World->Prop)(w:World):Prop:=
 ∃g,s.run P w= .ok () g/\K g

def HT (P:Program)(s:Sem Value)(y:Bool)(K:Value->World->Prop)(w:World):Prop:=
 (∃g,s.run P w= .ok (.tuple #[.bool false]) g/\K (.tuple #[.bool false]) g)\/
 match y with
 |true=> ∃(i c:Int),∃g,s.run P w= .ok (.tuple #[.bool true,.int .i64 i,.int .i32 c]) g/\K (.tuple #[.bool true,.int .i64 i,.int .i32 c]) g
 |false=> ∃(k v:Value),∃g,s.run P w= .ok (.tuple #[.bool true,k,v]) g/\K (.tuple #[.bool true,k,v]) g

def CH (P:Program)(t:TypeId):Bool:=
 match P.underlying t with
 |some (.int _)|some .string|some .bool=>true
 |_=>false
def binV (P:Program)(op:BinOp)(xt:TypeId)(E I:Operand)(x g:Value)(ty:Ty)(K:Value->World->Prop)(w:World):Prop:=
 match CH P xt with
 |false=>ud P (do eqGuard op xt E I x g;binOp op xt x g) ty K w
 |true=>
 match x,g with
 | .int k a,.int k' b=>match op with
  | .quo=>b≠0/\match decide (k=k') with
   |true=>K (.int k (k.wrap (a.tdiv b))) w
   |false=>False
  | .rem=>b≠0/\match decide (k=k') with
   |true=>K (.int k (a.tmod b)) w
   |false=>False
  | .shl=>0<=b/\K (.int k (k.wrap (a*2 ^ (min b.toNat k.bits)))) w
  | .shr=>0<=b/\K (.int k (a.fdiv (2 ^ (min b.toNat k.bits)))) w
  |_=>oU P (do eqGuard op xt E I x g;binOp op xt x g) λv=>K v w
 | .string a,.string b=>match op with
  | .add=>((a.size+b.size:Nat):Int)<=i64.max/\K (.string (a++b)) w
  |_=>oU P (do eqGuard op xt E I x g;binOp op xt x g) λv=>K v w
 | .bool _,.bool _=>oU P (do eqGuard op xt E I x g;binOp op xt x g) λv=>K v w
 |_,_=>ud P (do eqGuard op xt E I x g;binOp op xt x g) ty K w

def pT (s:ByteArray)(lo hi:Option Value)(K:Value->Prop):Prop:=
 match lo,hi with
 |none,none=>K (.string s)
 |some (.int _ l),none=>0<=l/\l<=s.size/\K (.string (s.extract l.toNat s.size))
 |none,some (.int _ h)=>0<=h/\h<=s.size/\K (.string (s.extract 0 h.toNat))
 |some (.int _ l),some (.int _ h)=>0<=l/\l<=h/\h<=s.size/\K (.string (s.extract l.toNat h.toNat))
 |_,_=>False

def opV (P:Program)(o:Oper)(ρ:Fr)(K:Value->World->Prop)(w:World):Prop:=
 match o.op with
 | .move x| .assign x=>K (rd ρ x) w
 | .pick c x y=>match rd ρ c with
  | .bool b=>match b with
   |true=>K (rd ρ x) w
   |false=>K (rd ρ y) w
  |_=>False
 | .binOp op xt x y _=>binV P op xt x y (rd ρ x) (rd ρ y) (.c (.s .bool)) K w
 | .unOp op _ x=>oU P (Op.unary op (rd ρ x)) λv=>K v w
 | .nilCheck x=>nilV (rd ρ x) λv=>K v w
 | .fieldAddr s x f=>match rd ρ x with
  | .pointer (some a)=>match P.underlying s with
   |some (.struct fs)=>match fs[f]? with
    |some I=>match P.info? I.type with
     |some i=>match i.size with
      |0=>ud P (Instr.fieldAt s (rd ρ x) f) (.c (.s .ptr)) K w
      |_+1=>K (.pointer (some (a.add I.offset))) w
     |none=>False
    |none=>False
   |_=>False
  |_=>False
 | .field xt x f=>oU P (Instr.field xt (rd ρ x) f) λv=>K v w
 | .load t x=>match rd ρ x with
  | .pointer (some a)=>zo P t a w λv=>K v w
  |_=>False
 | .store t x y=>match rd ρ x with
  | .pointer (some a)=>Cs P t a (rd ρ y) w λg=>K undef g
  |_=>False
 | .box e x=>vc P e (rd ρ x) λcs=> ∀b,w.heap.size=b->K (.pointer (some ⟨b,0,none⟩)) (alc w cs.toArray e)
 | .alloc e=>match P.info? e with
  |some i=>match i.zero with
   |some z=>vc P e z λcs=> ∀b,w.heap.size=b->K (.pointer (some ⟨b,0,none⟩)) (alc w cs.toArray e)
   |none=>False
  |none=>False
 | .build t parts=>match P.underlying t,P.info? t with
  |some (.struct fs),some E=>match E.zero with
   |some (.agg O)=>match fs.toList.all λf=>(P.info? f.type).isSome with
    |true=>buildS P fs (parts.toList.map λ(i,x)=>(i,rd ρ x)) O.toList λcs=>K (.agg cs.toArray) w
    |false=>False
   |_=>False
  |_,_=>oU P (Instr.build t (parts.map λ(i,x)=>(i,rd ρ x))) λv=>K v w
 | .buildSlice t len parts=>ud P (Instr.buildSlice t len (parts.map λ(i,x)=>(i,rd ρ x))) (.c (.s .slice)) K w
 | .makeInterface t x=>oU P (Instr.makeInterface t (rd ρ x)) λv=>K v w
 | .makeFunc fn first captured=>K (.func fn (first.map (rd ρ)) (captured.map (rd ρ))) w
 | .extract x i=>match rd ρ x with
  | .tuple vs=>match vs[i]? with
   |some v=>K v w
   |none=>False
  |_=>False
 | .index xt x i=>match rd ρ x,rd ρ i with
  | .string s,.int _ n=>match P.underlying xt with
   |some .string=>0<=n/\n<s.size/\K (.int .u8 (bt s n)) w
   |_=>False
  |x',i'=>match P.underlying xt with
   |some (.array _ e)=>ud P (Instr.index xt x' i') (.c (Ff P e)) K w
   |_=>False
 | .indexAddr t x i=>match rd ρ x,rd ρ i with
  | .slice q len _,.int _ n=>match P.underlying t with
   |some (.slice e)=>match P.info? e with
    |some E=>0<=n/\n<len/\aA q λa=>K (.pointer (some (a.add (n.toNat*E.size)))) w
    |none=>False
   |_=>False
  | .pointer (some ad),.int _ n=>match P.underlying t with
   |some (.array len e)=>match P.info? e with
    |some E=>0<=n/\n<(len:Int)/\K (.pointer (some (ad.add (n.toNat*E.size)))) w
    |none=>False
   |_=>False
  |x',i'=>ud P (Instr.indexAt t x' i') (.c (.s .ptr)) K w
 | .slice t x lo hi mx=>match rd ρ x with
  | .string s=>match P.underlying t,mx with
   |some .string,none=>pT s (lo.map (rd ρ)) (hi.map (rd ρ)) λv=>K v w
   |_,_=>False
  |x'=>ud P (Instr.sliceAt t x' (lo.map (rd ρ)) (hi.map (rd ρ)) (mx.map (rd ρ))) (.c (.s .slice)) K w
 | .convert src dst x=>match rd ρ x with
  | .int _ n=>match P.underlying src,P.underlying dst with
   |some (.int _),some (.int k)=>K (.int k (k.wrap n)) w
   |some (.int _),some .string=>K (.string (Utf8.encode n)) w
   |_,_=>False
  | .string s=>match P.underlying src,P.underlying dst with
   |some .string,some .string=>K (.string s) w
   |_,_=>ud P (convert src dst (rd ρ x)) (Hn P dst) K w
  |x'=>ud P (convert src dst x') (Hn P dst) K w
 | .typeAssert x xt asserted ok=>ud P (Instr.typeAssert (rd ρ x) xt asserted ok) (okTy (Ff P asserted) ok) K w
 | .makeMap t r=>ud P (Instr.makeMap t (r.map (rd ρ))) (.c (.s .map)) K w
 | .makeSlice t l c=>ud P (Instr.makeSlice t (rd ρ l) (rd ρ c)) (.c (.s .slice)) K w
 | .lookup xt x i ok=>match P.underlying xt with
  |some (.map _ e)=>ud P (Instr.lookup xt (rd ρ x) (rd ρ i) ok) (okTy (Ff P e) ok) K w
  |_=>False
 | .mapUpdate t m k x| .insert t m k x=>semU P (Instr.mapUpdate t (rd ρ m) (rd ρ k) (rd ρ x)) (λg=>K undef g) w
 | .range xt x=>ud P (Instr.range xt (rd ρ x)) (.c (.s .any)) K w
 | .next it isString=>HT P (Instr.next (rd ρ it) isString o.type) isString K w
 | .call c=>match c.callee with
  | .builtin .len=>match c.argTypes[0]?,c.args[0]? with
   |some t,some x=>match P.underlying t,rd ρ x with
    |some .string,.string s=>K (.int .i64 s.size) w
    |some (.slice _),.slice _ n _=>K (.int .i64 n) w
    |_,v=>ud P (Builtin.len_ c.argTypes o.type #[v]) (.c (.s (.int .i64))) K w
   |_,_=>False
  | .builtin .append=>ud P (Builtin.append_ c.argTypes o.type (c.args.map (rd ρ))) (.c (.s .slice)) K w
  | .builtin .copy=>ud P (Builtin.copy_ c.argTypes o.type (c.args.map (rd ρ))) (.c (.s (.int .i64))) K w
  | .builtin .cap=>ud P (Builtin.cap_ c.argTypes o.type (c.args.map (rd ρ))) (.c (.s (.int .i64))) K w
  | .builtin .max=>ud P (Builtin.max_ c.argTypes o.type (c.args.map (rd ρ))) (.c (.s (.int .i64))) K w
  | .builtin .min=>ud P (Builtin.min_ c.argTypes o.type (c.args.map (rd ρ))) (.c (.s (.int .i64))) K w
  | .builtin .unsafeSliceData=>ud P (Builtin.unsafeSliceData_ c.argTypes o.type (c.args.map (rd ρ))) (.c (.s .ptr)) K w
  | .builtin .unsafeString=>ud P (Builtin.unsafeString_ c.argTypes o.type (c.args.map (rd ρ))) (.c (.s .str)) K w
  | .builtin _=>False
  | .value (.func f)=>callE P f (c.args.map (rd ρ)) (λe g=>(Hn P o.type).ex λv=>e= .returned v/\K v g) w
  | .value x=>de P (do let d <-Deferred.ofValue (rd ρ x) (c.args.map (rd ρ));invoke d.target d.args) (λe g=>(Hn P o.type).ex λv=>e= .returned v/\K v g) w
  | .invoke r name=>de P (callMethod (rd ρ r) name (c.args.map (rd ρ))) (λe g=>(Hn P o.type).ex λv=>e= .returned v/\K v g) w
 |_=>False

end Go.Proofs.YtendaipfdnhnaaaGreatDoor


namespace Go.Proofs.YtendaipfdnhnaaaGreatDoor
variable {P:Program}

def FC (a:Act)(o:Oper)(K:Value->World->Prop)(y:Act)(g:World):Prop:= ∃v,y=a.put o.dst v/\K v g

theorem bf {o:Oper}{a:Act}{K:Value->World->Prop}{Q:Exit->Act->World->Prop}{r:Result Next}{v:Value}{g:World}(h:r= .ok (.value v) g)(y:K v g):o.upon P a (FC a o K) Q r:=by
 subst h;exact⟨v,rfl,y⟩
theorem vm {o:Oper}{a:Act}{K:Value->World->Prop}{Q:Exit->Act->World->Prop}{r:Result Next}{g:World}(h:r= .ok .skip g)(y:K undef g):o.upon P a (FC a o K) Q r:=by
 subst h;exact⟨undef,rfl,y⟩
theorem sQ {o:Oper}{a:Act}{K:Value->World->Prop}{Q:Exit->Act->World->Prop}{r:Result Next}{f:FuncId}{g:Array Value}{E:World}{ty:Ty}(h:r= .ok (.enter f g) E)(I:Calls P f g E λe y=>ty.ex λv=>e= .returned v/\K v y):o.upon P a (FC a o K) Q r:=by
 subst h
 refine Calls.mono I λe y O=>?_
 obtain⟨v,rfl,hv⟩:=Ty.ex_out O
 exact⟨v,rfl,hv⟩

theorem aU {s:Sem Value}{v:Value}{w g:World}(h:s.run P w= .ok v g):
 (s>>=λv=>pure (.value v):Sem Next).run P w= .ok (.value v) g:=by
 rw[Sem.run_bind,h];rfl
theorem ta {s:Sem Unit}{w g:World}(h:s.run P w= .ok () g):
 (s>>=λ_=>pure .skip:Sem Next).run P w= .ok .skip g:=by
 rw[Sem.run_bind,h];rfl

theorem eZ {s:Sem Value}{K:Value->Prop}(h:oU P s K): ∃v,K v/\ ∀w,s.run P w= .ok v w:=by
 unfold oU at h
 split at h
 ·rename_i v hv;exact⟨v,h,λw=>ko P s v hv w⟩
 ·exact h.elim

theorem xQ {t:TypeId}{w:World}{d:TypeDesc}(h:P.underlying t=some d):(isAgg t).run P w= .ok (Ap P t) w:=by
 unfold isAgg underlying Ap
 simp only[Sem.run_bind,run_program,Result.andThen_ok,h]
 cases d<;>rfl

theorem C3: ∀ {ts:List STy} {w:World} {a:Addr} {i:Nat} {K:List Value->Prop},ldS w ts a i K->
 ∃vs,K vs/\vs.length=ts.length/\ ∀(g:Array Value),(loadCellsFrom a i ts.length g).run P w= .ok (g++vs.toArray) w
 | [],_,_,_,_,h=>⟨[],h,rfl,λg=>by simp[loadCellsFrom]⟩
 |t::ts,w,a,i,K,h=>by
  obtain⟨v,hc,h⟩:=STy.ex_out h
  obtain⟨vs,E,y,hr⟩:=C3 h
  refine⟨v::vs,E,by simp[y],λg=>?_⟩
  simp only[List.length_cons,loadCellsFrom,Sem.run_bind,run_load,hc,Result.andThen]
  rw[hr]
  simp

theorem xC {t:TypeId}{a:Addr}{w:World}{K:Value->Prop}(h:zo P t a w K): ∃v,K v/\(loadVar t a).run P w= .ok v w:=by
 unfold zo at h
 split at h
 ·rename_i i d hi U
  have y:=xQ (w:=w) U
  split at h
  ·rename_i cs hb hz
   split at h
   ·rename_i E
    obtain⟨vs,g,W,hr⟩:=C3 (P:=P) h
    refine⟨_,g,?_⟩
    have I:i.size=cs.size:=by simp[<-Nat.eq_of_beq_eq_true E]
    have O:(loadCellsFrom a 0 cs.size #[]).run P w= .ok vs.toArray w:=by simpa using hr #[]
    unfold loadVar loadCells sizeOf typeInfo
    simp only[Sem.run_bind,y,Result.andThen_ok,hb,if_true,run_program,hi]
    have V:(pure i:Sem TypeInfo).run P w= .ok i w:=rfl
    simp only[V,Result.andThen_ok,I]
    rw[show (pure cs.size:Sem Nat).run P w= .ok cs.size w from rfl]
    simp only[Result.andThen_ok,O]
    rfl
   ·exact h.elim
  ·rename_i z hb hz
   obtain⟨v,hc,g⟩:=STy.ex_out h
   refine⟨v,g,?_⟩
   unfold loadVar
   simp only[Sem.run_bind,y,Result.andThen_ok,hb,Bool.false_eq_true,if_false,run_load,hc]
  ·exact h.elim
 ·exact h.elim

theorem Ct: ∀ {vs:List Value} {a:Addr} {i:Nat} {w:World} {K:World->Prop},stS vs a i w K->
 ∃g,K g/\(storeCells a vs i).run P w= .ok () g
 | [],_,_,w,_,h=>⟨w,h,rfl⟩
 |v::vs,a,i,w,K,h=>by
  obtain⟨I,⟨u,y⟩,E,h⟩:=h
  obtain⟨g,O,hr⟩:=Ct h
  refine⟨g,O,?_⟩
  have hv:v.oneCell'=true:=by cases v<;>first|rfl|exact I.elim
  simp only[storeCells,Sem.run_bind,run_store P w (a.add i) v .plain hv,y,E,Bool.false_eq_true,if_false,Result.andThen]
  exact hr

theorem DO {v:Value}{K:Prop}(h:DP v K):K/\v.cells= #[v]/\ot v:=by
 cases v<;>first|exact⟨h,rfl,trivial⟩|exact⟨h.2,rfl,trivial⟩|exact h.elim
theorem oP {t:TypeId}{v:Value}{K:List Value->Prop}(h:vc P t v K):K v.cells.toList:=by
 unfold vc at h
 split at h
 ·split at h
  ·exact h
  ·exact h.elim
 ·obtain⟨h,hc,_⟩:=DO h
  rw[hc]
  exact h

theorem A0 {t:TypeId}{a:Addr}{v:Value}{w:World}{K:World->Prop}(h:Cs P t a v w K):
 ∃g,K g/\(storeVar t a v).run P w= .ok () g:=by
 unfold Cs at h
 split at h
 ·rename_i i hi
  have h:=oP h
  split at h
  ·rename_i hs
   obtain⟨g,O,hr⟩:=Ct (P:=P) h
   refine⟨g,O,?_⟩
   have y:v.cells.size=i.size:=by simpa using Nat.eq_of_beq_eq_true hs
   unfold storeVar sizeOf typeInfo
   simp only[Sem.run_bind,run_program,Result.andThen_ok,hi]
   have E:(pure i:Sem TypeInfo).run P w= .ok i w:=rfl
   have I:(pure i.size:Sem Nat).run P w= .ok i.size w:=rfl
   simp only[E,I,Result.andThen_ok,y,ne_eq,not_true_eq_false,if_false]
   simpa[Sem.run_bind,pure,Sem.run,Result.andThen] using hr
  ·exact h.elim
 ·exact h.elim

theorem y6 (xs:List Value): ∀(cs:List Value) (g:Nat),setCells cs g xs=(xs.zipIdx.foldl (λcs (c,j)=>cs.set (g+j) c) cs):=by
 have y: ∀(xs:List Value) (cs:List Value) (g k:Nat),setCells cs (g+k) xs=((xs.zipIdx k).foldl (λcs (c,j)=>cs.set (g+j) c) cs):=by
  intro xs
  induction xs with
  |nil=>intro cs g k;rfl
  |cons x xs E=>
   intro cs g k
   simp only[setCells,List.zipIdx_cons,List.foldl_cons]
   rw[<-E (cs.set (g+k) x) g (k+1)]
   rfl
 intro cs g
 exact y xs cs g 0
theorem ss (xs:List (Value × Nat))(g:Nat): ∀(cs:Array Value),(xs.foldl (λcs (c,j)=>cs.setIfInBounds (g+j) c) cs).toList=xs.foldl (λcs (c,j)=>cs.set (g+j) c) cs.toList:=by
 induction xs with
 |nil=>intro cs;rfl
 |cons x xs y=>intro cs;simp only[List.foldl_cons];rw[y];simp
theorem rt {fs:Array Field}{K:List Value->Prop}{U:Array (Nat × Nat)}(V: ∀(i:Nat) (f:Field) (y:TypeInfo),fs[i]? =some f->P.info? f.type=some y->U[i]? =some (f.offset,y.size)):
 ∀ {O:List (Nat × Value)} {cs:Array Value},buildS P fs O cs.toList K-> ∃g,K g.toList/\Instr.fill (U[·]?) cs O=some g
 | [],cs,h=>⟨cs,h,rfl⟩
 |(i,v)::O,cs,h=>by
  unfold buildS at h
  split at h
  ·rename_i f a6
   split at h
   ·rename_i y hi
    have h:=oP h
    split at h
    ·rename_i E I
     have E:=Nat.eq_of_beq_eq_true E
     have I:=Nat.le_of_ble_eq_true I
     simp only[Array.length_toList] at E I
     have b3:setCells cs.toList f.offset v.cells.toList=(v.cells.zipIdx.foldl (λcs (c,j)=>cs.setIfInBounds (f.offset+j) c) cs).toList:=by
      rw[y6,<-Array.foldl_toList,ss]
      simp
     rw[b3] at h
     obtain⟨g,a7,W⟩:=rt V h
     refine⟨g,a7,?_⟩
     unfold Instr.fill
     simp only[V i f y a6 hi]
     rw[if_neg (by simp;omega)]
     exact W
    ·exact h.elim
   ·exact h.elim
  ·exact h.elim

theorem qT {w:World}: ∀(l:List Field),(l.all λf=>(P.info? f.type).isSome)=true->
 (l.mapM (m:=Sem) λf=>do pure (f.offset,<-sizeOf f.type)).run P w= .ok (l.map λf=>(f.offset,((P.info? f.type).map (·.size)).getD 0)) w
 | [],_=>rfl
 |f::l,h=>by
  simp only[List.all_cons,Bool.and_eq_true] at h
  obtain⟨g,hi⟩:=Option.isSome_iff_exists.1 h.1
  have hs:(sizeOf f.type).run P w= .ok g.size w:=by
   unfold sizeOf typeInfo
   simp only[Sem.run_bind,run_program,Result.andThen_ok,hi]
   rfl
  simp only[List.mapM_cons,Sem.run_bind,hs,Result.andThen_ok]
  rw[show (pure (f.offset,g.size):Sem (Nat × Nat)).run P w= .ok (f.offset,g.size) w from rfl]
  simp only[Result.andThen_ok,qT l h.2,List.map_cons,hi]
  rfl

theorem Fs {op:BinOp}{xt:TypeId}{V O:Operand}{x I:Value}{ty:Ty}{K:Value->World->Prop}{w:World}(h:binV P op xt V O x I ty K w):
 ∃v E,K v E/\(do eqGuard op xt V O x I;binOp op xt x I:Sem Value).run P w= .ok v E:=by
 unfold binV at h
 split at h
 ·obtain⟨v,E,hr,h⟩:=Ty.ex_out h
  exact⟨v,E,h,hr⟩
 split at h
 ·rename_i k a U b
  split at h
  ·obtain⟨hb,h⟩:=h
   split at h
   ·rename_i g
    have g:=of_decide_eq_true g
    subst g
    refine⟨_,w,h,?_⟩
    show (binOp .quo xt (.int k a) (.int k b)).run P w=_
    simp[binOp,Op.intDiv,hb]
   ·exact h.elim
  ·obtain⟨hb,h⟩:=h
   split at h
   ·rename_i g
    have g:=of_decide_eq_true g
    subst g
    refine⟨_,w,h,?_⟩
    show (binOp .rem xt (.int k a) (.int k b)).run P w=_
    simp[binOp,Op.intDiv,hb]
   ·exact h.elim
  ·obtain⟨hb,h⟩:=h
   refine⟨_,w,h,?_⟩
   have: ¬ b<0:=by omega
   show (binOp .shl xt (.int k a) (.int U b)).run P w=_
   simp[binOp,Op.shift,this]
  ·obtain⟨hb,h⟩:=h
   refine⟨_,w,h,?_⟩
   have: ¬ b<0:=by omega
   show (binOp .shr xt (.int k a) (.int U b)).run P w=_
   simp[binOp,Op.shift,this]
  ·obtain⟨v,h,hr⟩:=eZ h
   exact⟨v,w,h,hr w⟩
 ·rename_i a b
  split at h
  ·obtain⟨hb,h⟩:=h
   refine⟨_,w,h,?_⟩
   have: ¬ ((a.size+b.size:Nat):Int)>i64.max:=by omega
   show (binOp .add xt (.string a) (.string b)).run P w=_
   simp only[binOp,Op.stringOp,if_neg this]
   rfl
  ·obtain⟨v,h,hr⟩:=eZ h
   exact⟨v,w,h,hr w⟩
 ·obtain⟨v,h,hr⟩:=eZ h
  exact⟨v,w,h,hr w⟩
 ·obtain⟨v,E,hr,h⟩:=Ty.ex_out h
  exact⟨v,E,h,hr⟩

theorem rF {s:ByteArray}{lo hi:Option Value}{K:Value->Prop}{xt:TypeId}(I:P.underlying xt=some .string)(h:pT s lo hi K):
 ∃v,K v/\ ∀w,(Instr.sliceAt xt (.string s) lo hi none).run P w= .ok v w:=by
 have y: ∀(l n:Nat) (w:World),(Instr.sliceBounds false s.size s.size lo hi none).run P w= .ok (l,n,s.size) w->
  (Instr.sliceAt xt (.string s) lo hi none).run P w= .ok (.string (s.extract l n)) w:=by
  intro l n w hb
  unfold Instr.sliceAt Instr.slice underlying
  simp only[Sem.run_bind,run_program,Result.andThen_ok,I]
  have:(pure TypeDesc.string:Sem TypeDesc).run P w= .ok .string w:=rfl
  simp only[this,Result.andThen_ok,Option.isSome_none,Bool.false_eq_true,if_false,Sem.run_bind,run_program,I,hb]
  rfl
 unfold pT at h
 split at h
 ·refine⟨_,h,λw=>?_⟩
  rw[y 0 s.size w (by simp[Instr.sliceBounds])]
  simp
 ·obtain⟨g,E,h⟩:=h
  refine⟨_,h,λw=>y _ _ w ?_⟩
  simp[Instr.sliceBounds,Instr.sliceBound,asIntOf,g,E]
 ·obtain⟨g,E,h⟩:=h
  refine⟨_,h,λw=>y _ _ w ?_⟩
  simp[Instr.sliceBounds,Instr.sliceBound,asIntOf,g,E]
 ·rename_i l _ O
  obtain⟨g,E,W,h⟩:=h
  refine⟨_,h,λw=>y _ _ w ?_⟩
  have V:0<=O:=by omega
  have U:l<=max O 0:=by omega
  simp[Instr.sliceBounds,Instr.sliceBound,asIntOf,g,W,V,U]
 ·exact h.elim

theorem wW {s:ByteArray}{lo hi:Option Value}{K:Value->Prop}{xt:TypeId}{w:World}(g:P.underlying xt=some .string)(h:pT s lo hi K):
 ∃v,K v/\(Instr.sliceAt xt (.string s) lo hi none).run P w= .ok v w:=by
 obtain⟨v,y,hr⟩:=rF g h
 exact⟨v,y,hr w⟩

set_option maxHeartbeats 1000000 in
theorem xu {n:Nat}{a:Act}{ρ:Fr}{o:Oper}{K:Value->World->Prop}{w:World}{Q:Exit->Act->World->Prop}(hr:RelF n a ρ)(h:opV P o ρ K w):o.wp P a w (FC a o K) Q:=by
 have W:a.eval=rd ρ:=funext hr.eval
 unfold Oper.wp
 rw[W]
 unfold opV at h
 split at h<;>rename_i d0<;>simp only[execOp,d0]
 case h_1=>exact bf rfl h
 case h_2=>exact bf rfl h
 case h_3=>
  split at h
  ·rename_i b hb
   split at h<;>(rw[hb];exact bf rfl h)
  ·exact h.elim
 case h_4=>obtain⟨v,y,g,hs⟩:=Fs h;exact bf (aU hs) g
 case h_5=>obtain⟨v,g,hs⟩:=eZ h;exact bf (aU (hs w)) g
 case h_6=>
  unfold nilV at h
  split at h
  ·rename_i q e2
   unfold aA at h
   split at h
   ·rw[e2];exact bf rfl h
   ·exact h.elim
  ·rename_i v hv
   obtain⟨b6,g⟩:=h
   cases O:rd ρ _<;>rw[O] at b6 g<;>try exact b6.elim
   ·rename_i d3 first e3
    cases d3<;>try exact b6.elim
    exact bf rfl g
   ·exact bf rfl g
 case h_7=>
  split at h
  ·rename_i b3 a6
   split at h
   ·rename_i fs E
    split at h
    ·rename_i e9 b7
     split at h
     ·rename_i i hi
      split at h
      ·obtain⟨v,y,hs,g⟩:=Ty.ex_out h;exact bf (aU hs) g
      ·rename_i m e1
       refine bf (aU ?_) h
       rw[a6]
       unfold Instr.fieldAt underlying fieldPlace sizeOf typeInfo
       simp only[Sem.run_bind,run_program,Result.andThen_ok,E]
       simp only[pure,Sem.run,Result.andThen_ok,b7,Instr.sureAddr,e1,Nat.add_one_ne_zero,if_false,Sem.run_bind,run_program,hi]
     ·exact h.elim
    ·exact h.elim
   ·exact h.elim
  ·exact h.elim
 case h_8=>obtain⟨v,g,hs⟩:=eZ h;exact bf (aU (hs w)) g
 case h_9=>
  split at h
  ·rename_i b3 a6
   obtain⟨v,g,hs⟩:=xC h
   refine bf (aU ?_) g
   rw[a6]
   exact hs
  ·exact h.elim
 case h_10=>
  split at h
  ·rename_i b3 a6
   obtain⟨y,g,hs⟩:=A0 h
   refine vm (ta ?_) g
   rw[a6]
   exact hs
  ·exact h.elim
 case h_11=>
  have h:=oP h
  exact bf rfl (h _ rfl)
 case h_12=>
  split at h
  ·rename_i i hi
   split at h
   ·rename_i z hz
    have h:=oP h
    refine bf (aU ?_) (h _ rfl)
    unfold Instr.alloc zeroValue typeInfo
    simp only[Sem.run_bind,run_program,Result.andThen_ok,hi]
    simp only[pure,Sem.run,Result.andThen_ok,hz]
    rfl
   ·exact h.elim
  ·exact h.elim
 case h_13=>
  split at h
  ·rename_i fs V E c9
   rename_i b8 _ _
   split at h
   ·rename_i c3 hz
    split at h
    ·rename_i c8
     have e0: ∀(i:Nat) (f:Field) (V:TypeInfo),fs[i]? =some f->P.info? f.type=some V->
      ((fs.toList.map λf=>(f.offset,((P.info? f.type).map (·.size)).getD 0)).toArray)[i]? =some (f.offset,V.size):=by
      intro i f e6 b7 hi
      simp[b7,hi]
     obtain⟨e7,g,c4⟩:=rt e0 h
     refine bf (aU ?_) g
     unfold Instr.build zeroValue typeInfo underlying
     simp only[Sem.run_bind,run_program,Result.andThen_ok,c9,E]
     rw[show (pure V:Sem TypeInfo).run P w= .ok V w from rfl]
     simp only[Result.andThen_ok,hz]
     rw[show (pure (Value.agg c3):Sem Value).run P w= .ok (.agg c3) w from rfl]
     simp only[Result.andThen_ok,Sem.run_bind]
     rw[show (pure (TypeDesc.struct fs):Sem TypeDesc).run P w= .ok (.struct fs) w from rfl]
     simp only[Result.andThen_ok,Sem.run_bind]
     rw[Array.mapM_eq_mapM_toList,map_eq_pure_bind,Sem.run_bind,qT _ c8]
     simp only[Result.andThen_ok]
     rw[show∀x:List (Nat × Nat),(pure x.toArray:Sem (Array (Nat × Nat))).run P w= .ok x.toArray w from λ_=>rfl]
     simp only[Result.andThen_ok,Value.cells]
     have d1:(b8.map λ(i,x)=>(i,rd ρ x)).toList=b8.toList.map λ(i,x)=>(i,rd ρ x):=by simp
     rw[d1,c4]
     simp
    ·exact h.elim
   ·exact h.elim
  ·obtain⟨v,g,hs⟩:=eZ h;exact bf (aU (hs w)) g
 case h_14=>obtain⟨v,y,hs,g⟩:=Ty.ex_out h;exact bf (aU hs) g
 case h_15=>obtain⟨v,g,hs⟩:=eZ h;exact bf (aU (hs w)) g
 case h_16=>exact bf rfl h
 case h_17=>
  split at h
  ·rename_i vs hv
   split at h
   ·rename_i v hi
    refine bf (aU ?_) h
    simp[hv,Instr.extract,hi]
   ·exact h.elim
  ·exact h.elim
 case h_18=>
  split at h
  ·rename_i s k m hs hi
   split at h
   ·rename_i E
    obtain⟨h0,I,g⟩:=h
    refine bf (aU ?_) g
    have c1:m.toNat<s.size:=by omega
    unfold Instr.index asIntOf underlying
    simp only[hs,hi,Sem.run_bind,run_program,Result.andThen_ok,E]
    simp only[pure,Sem.run,Result.andThen_ok,h0,if_true,getElem?_pos s m.toNat c1]
    congr 2
    unfold bt
    have:s.data.size=s.size:=rfl
    simp[Array.getD,this,c1,ByteArray.getElem_eq_getElem_data]
   ·exact h.elim
  ·split at h
   ·obtain⟨v,y,hs,g⟩:=Ty.ex_out h;exact bf (aU hs) g
   ·exact h.elim
 case h_19=>
  split at h
  ·rename_i q len c k m hs hi
   split at h
   ·rename_i e E
    split at h
    ·rename_i V b5
     obtain⟨h0,I,g⟩:=h
     unfold aA at g
     split at g
     ·rename_i b3
      refine bf (aU ?_) g
      unfold Instr.indexAt asIntOf underlying sizeOf typeInfo
      simp only[hs,hi,Sem.run_bind,run_program,Result.andThen_ok,E]
      simp only[pure,Sem.run,Result.andThen_ok,h0,I,and_self,if_true,Sem.run_bind,run_program,b5,E]
     ·exact g.elim
    ·exact h.elim
   ·exact h.elim
  ·rename_i b3 k m hs hi
   split at h
   ·rename_i len e E
    split at h
    ·rename_i V b5
     obtain⟨h0,I,g⟩:=h
     refine bf (aU ?_) g
     unfold Instr.indexAt asIntOf underlying sizeOf typeInfo
     simp only[hs,hi,Sem.run_bind,run_program,Result.andThen_ok,E]
     simp only[pure,Sem.run,Result.andThen_ok,h0,I,and_self,if_true,Sem.run_bind,run_program,b5,E,Instr.sureAddr]
    ·exact h.elim
   ·exact h.elim
  ·obtain⟨v,y,hs,g⟩:=Ty.ex_out h;exact bf (aU hs) g
 case h_20=>
  split at h
  ·rename_i s hs
   split at h
   ·rename_i E
    obtain⟨v,g,c5⟩:=wW E h
    refine bf (aU ?_) g
    rw[hs]
    exact c5
   ·exact h.elim
  ·obtain⟨v,y,hs,g⟩:=Ty.ex_out h;exact bf (aU hs) g
 case h_21=>
  split at h
  ·rename_i k m O
   split at h
   ·rename_i k1 k2 I a7
    refine bf (aU ?_) h
    simp[O,convert,underlying,I,a7,Conv.intToInt]
   ·rename_i k1 I a7
    refine bf (aU ?_) h
    simp[O,convert,underlying,I,a7,Conv.intToString]
   ·exact h.elim
  ·rename_i m O
   split at h
   ·rename_i I a7
    refine bf (aU ?_) h
    simp[O,convert,underlying,I,a7]
   ·obtain⟨v,y,hs,g⟩:=Ty.ex_out h;rw[O] at hs;rw[O];exact bf (aU hs) g
  ·obtain⟨v,y,hs,g⟩:=Ty.ex_out h;exact bf (aU hs) g
 case h_22=>obtain⟨v,y,hs,g⟩:=Ty.ex_out h;exact bf (aU hs) g
 case h_23=>obtain⟨v,y,hs,g⟩:=Ty.ex_out h;exact bf (aU hs) g
 case h_24=>obtain⟨v,y,hs,g⟩:=Ty.ex_out h;exact bf (aU hs) g
 case h_25=>
  split at h
  ·obtain⟨v,y,hs,g⟩:=Ty.ex_out h;exact bf (aU hs) g
  ·exact h.elim
 case h_26=>obtain⟨y,hs,g⟩:=h;exact vm (ta hs) g
 case h_27=>obtain⟨y,hs,g⟩:=h;exact vm (ta hs) g
 case h_28=>obtain⟨v,y,hs,g⟩:=Ty.ex_out h;exact bf (aU hs) g
 case h_29=>
  unfold HT at h
  rcases h with ⟨y,hs,g⟩|h
  ·exact bf (aU hs) g
  ·split at h
   ·obtain⟨i,c,y,hs,g⟩:=h;exact bf (aU hs) g
   ·obtain⟨k,v,y,hs,g⟩:=h;exact bf (aU hs) g
 case h_30=>
  rename_i c
  obtain⟨e4,U,b4⟩:=c
  split at h<;>rename_i b9<;>dsimp only at b9 h<;>subst b9
  ·split at h
   ·rename_i t x ht O
    split at h
    ·rename_i s E hs
     refine bf (aU (s:=Builtin.len_ b4 o.type (U.map (rd ρ))) ?_) h
     simp[Builtin.len_,ht,O,underlying,E,hs,goInt]
    ·rename_i e q m e8 E hs
     refine bf (aU (s:=Builtin.len_ b4 o.type (U.map (rd ρ))) ?_) h
     simp[Builtin.len_,ht,O,underlying,E,hs,goInt]
    ·obtain⟨v,y,hs,g⟩:=Ty.ex_out h
     refine bf (aU (s:=Builtin.len_ b4 o.type (U.map (rd ρ))) ?_) g
     simpa[Builtin.len_,ht,O] using hs
   ·exact h.elim
  ·obtain⟨v,y,hs,g⟩:=Ty.ex_out h;exact bf (aU hs) g
  ·obtain⟨v,y,hs,g⟩:=Ty.ex_out h;exact bf (aU hs) g
  ·obtain⟨v,y,hs,g⟩:=Ty.ex_out h;exact bf (aU hs) g
  ·obtain⟨v,y,hs,g⟩:=Ty.ex_out h;exact bf (aU hs) g
  ·obtain⟨v,y,hs,g⟩:=Ty.ex_out h;exact bf (aU hs) g
  ·obtain⟨v,y,hs,g⟩:=Ty.ex_out h;exact bf (aU hs) g
  ·obtain⟨v,y,hs,g⟩:=Ty.ex_out h;exact bf (aU hs) g
  ·rcases h with ⟨hc,h⟩|⟨v,y,hc,h⟩
   ·refine sQ ?_ h
    rw[<-hc]
    simp[resolve,rd,Deferred.ofValue,invoke]
   ·obtain⟨c2,W,g⟩:=Ty.ex_out h
    cases W
    refine bf ?_ g
    rw[<-hc]
    simp[resolve,rd,Deferred.ofValue,invoke]
  ·rcases h with ⟨f,d2,y,hs,h⟩|⟨v,y,hs,h⟩
   ·refine sQ ?_ h
    rw[<-hs]
    rfl
   ·obtain⟨c2,W,g⟩:=Ty.ex_out h
    cases W
    refine bf ?_ g
    rw[<-hs]
    rfl
  ·rename_i r e5
   have h0:(#[rd ρ r]++U.map (rd ρ))[0]? =some (rd ρ r):=by rw[Array.getElem?_append_left (by simp)];rfl
   have I:(U.map (rd ρ)).extract 0 U.size=U.map (rd ρ):=by
    simp
   rcases h with ⟨f,d2,y,hs,h⟩|⟨v,y,hs,h⟩
   ·refine sQ ?_ h
    rw[<-hs]
    simp[resolve,invoke,h0,I]
   ·obtain⟨c2,W,g⟩:=Ty.ex_out h
    cases W
    refine bf ?_ g
    rw[<-hs]
    simp[resolve,invoke,h0,I]
 case h_31=>exact h.elim

end Go.Proofs.YtendaipfdnhnaaaGreatDoor


namespace Go.Proofs.YtendaipfdnhnaaaGreatDoor
variable {P:Program}

def tW (n:Nat):Option Nat->Bool
 |none=>true
 |some d=>Nat.blt d n
abbrev GS:=List (Nat × Nat × Bool × Value)
def Dt:GS->Nat->Option (Nat × Bool × Value)
 | [],_=>none
 |(t,r)::gs,u=>match Nat.beq t u with
  |true=>some r
  |false=>Dt gs u
def ri:GS->Nat->GS
 | [],_=> []
 |(t,r)::gs,u=>match Nat.beq t u with
  |true=>ri gs u
  |false=>(t,r)::ri gs u
def yd:GS->Nat->GS
 | [],_=> []
 |(t,g,r)::gs,u=>match Nat.beq t u with
  |true=>yd gs u
  |false=>match Nat.beq g u with
   |true=>yd gs u
   |false=>(t,g,r)::yd gs u
def E8 (gs:GS):Option Nat->GS
 |none=>gs
 |some d=>yd gs d
def isB (g:Bool)(v:Value):Bool:=
 match v with
 | .bool b=>match g with
  |true=>b
  |false=> !b
 |_=>false
def Hv (b:Bool)(v:Value):Value:=
 match b with
 |true=>v
 |false=>undef
abbrev Ch:=List (Nat × Bool × Value)
def kb (gs:GS)(ρ:Fr):Nat->Nat->Bool->Ch
 |0,t,want=> [(t,want,ρ t)]
 |f+1,t,want=>match Dt gs t with
  |none=> [(t,want,ρ t)]
  |some (t',g,v)=>kb gs ρ f t' g++ [(t,want,v)]
def sM:Ch->Bool
 | []=>true
 |(_,want,v)::c=>match c with
  | []=>isB want v
  |_::_=>isB want v && sM c
def uq:Ch->Nat->Bool->Bool
 | [],_,_=>false
 |(t,w,_)::c,u,x=>match Nat.beq t u with
  |true=>match w,x with
   |true,true=>true
   |false,false=>true
   |_,_=>uq c u x
  |false=>uq c u x
def ovr (c:Ch)(gs:GS)(ρ:Fr):Fr:=λt=>
 match Dt gs t with
 |none=>ρ t
 |some (t',g,v)=>match uq c t' g with
  |true=>v
  |false=>ρ t
def GI (b:Bool)(x g:Value):Option Value:=
 match x,g with
 | .bool p,.bool q=>some (.bool (cond b p q))
 | .int k p,.int k' q=>match decide (k=k') with
  |true=>some (.int k (cond b p q))
  |false=>none
 | .string p,.string q=>some (.string (cond b p q))
 |_,_=>none
def xh (P:Program)(o:Oper)(ch:Ch)(gs:GS)(ρ:Fr):Option (Option Prop × Value):=
 match o.op with
 | .move x=>some (none,rd (ovr ch gs ρ) x)
 | .pick g x y=>match g with
  | .tmp t=>match ovr ch gs ρ t with
   | .bool b=>match GI b (rd (ovr (ch++ [(t,true,.bool b)]) gs ρ) x) (rd (ovr (ch++ [(t,false,.bool b)]) gs ρ) y) with
    |some v=>some (none,v)
    |none=>none
   |_=>none
  |_=>none
 | .binOp op xt x y _=>match CH P xt with
  |false=>none
  |true=>
  match rd (ovr ch gs ρ) x,rd (ovr ch gs ρ) y with
  | .int k a,.int k' b=>match op with
   | .quo| .rem| .shl| .shr=>none
   |_=>match nB P (do eqGuard op xt x y (.int k a) (.int k' b);binOp op xt (.int k a) (.int k' b)) with
    |some v=>some (none,v)
    |none=>none
  | .string a,.string b=>match op with
   | .add=>none
   |_=>match nB P (do eqGuard op xt x y (.string a) (.string b);binOp op xt (.string a) (.string b)) with
    |some v=>some (none,v)
    |none=>none
  |_,_=>none
 | .unOp op _ x=>match nB P (Op.unary op (rd (ovr ch gs ρ) x)) with
  |some v=>some (none,v)
  |none=>none
 | .index xt x i=>match rd (ovr ch gs ρ) x,rd (ovr ch gs ρ) i with
  | .string s,.int _ n=>match P.underlying xt with
   |some .string=>some (some (0<=n/\n<s.size),.int .u8 (bt s n))
   |_=>none
  |_,_=>none
 | .call c=>match c.callee with
  | .builtin .len=>match c.argTypes[0]?,c.args[0]? with
   |some t,some x=>match P.underlying t,rd (ovr ch gs ρ) x with
    |some .string,.string s=>some (none,.int .i64 s.size)
    |some (.slice _),.slice _ n _=>some (none,.int .i64 n)
    |_,_=>none
   |_,_=>none
  |_=>none
 |_=>none
def sX:Ch->Fr->GS->(Fr->GS->Prop)->(Fr->GS->Prop)->Prop
 | [],ρ,gs,yes,_=>yes ρ gs
 |(t,want,v)::c,ρ,gs,yes,no=>match v with
  | .bool b=>match b with
   |true=>match want with
    |true=>sX c (upd ρ t (.bool true)) (ri gs t) yes no
    |false=>no (upd ρ t (.bool true)) (ri gs t)
   |false=>match want with
    |true=>no (upd ρ t (.bool false)) (ri gs t)
    |false=>sX c (upd ρ t (.bool false)) (ri gs t) yes no
  | .tuple _=>no ρ (ri gs t)
  |_=>False
def HY:Op->Bool
 | .pick .. =>true
 |_=>false

def yJ (P:Program)(n:Nat)(all:List Oper):List Oper->(Fr->World->Prop)->GS->Fr->World->Prop
 | [],Q,_,ρ,w=>Q ρ w
 |o::rest,Q,gs,ρ,w=>
  match tW n o.dst with
  |false=>False
  |true=>
   match o.guard with
   |none=>match HY o.op with
    |false=>opV P o ρ (λv I=>yJ P n all rest Q (E8 gs o.dst) (sj ρ o.dst v) I) w
    |true=>match xh P o [] gs ρ with
     |some (none,v)=>yJ P n all rest Q (E8 gs o.dst) (sj ρ o.dst v) w
     |_=>opV P o ρ (λv I=>yJ P n all rest Q (E8 gs o.dst) (sj ρ o.dst v) I) w
   |some (j,g)=>
    match (all[j]?).bind (·.dst),o.dst with
    |some t,some d=>match Nat.beq t d with
     |true=>False
     |false=>match xh P o (kb gs ρ 9 t g) gs ρ with
      |some (none,v)=>yJ P n all rest Q ((d,t,g,v)::yd gs d) (upd ρ d (Hv (sM (kb gs ρ 9 t g)) v)) w
      |some (some O,v)=>(sM (kb gs ρ 9 t g)=true->O)/\
       yJ P n all rest Q ((d,t,g,v)::yd gs d) (upd ρ d (Hv (sM (kb gs ρ 9 t g)) v)) w
      |none=>sX (kb gs ρ 9 t g) ρ gs
       (λE y=>opV P o (ovr (kb gs ρ 9 t g) y E) (λv I=>yJ P n all rest Q (yd y d) (upd E d v) I) w)
       (λE y=>yJ P n all rest Q (yd y d) (upd E d undef) w)
    |some t,none=>sX (kb gs ρ 9 t g) ρ gs
     (λE y=>opV P o (ovr (kb gs ρ 9 t g) y E) (λ_ I=>yJ P n all rest Q y E I) w)
     (λE y=>yJ P n all rest Q y E w)
    |none,_=>False

abbrev gd:=Exit->Fr->World->Prop
def na (n:Nat)(Q:gd):Exit->Act->World->Prop:=λe a w=> ∃ρ,RelF n a ρ/\Q e ρ w
def m9 (K:Fr->World->Prop)(Q:gd):gd
 | .normal,ρ,w=>K ρ w
 |e,ρ,w=>Q e ρ w
def rZ (id:Nat)(Q:gd):gd
 | .exit id',ρ,w=>match Nat.beq id' id with
  |true=>Q .normal ρ w
  |false=>Q (.exit id') ρ w
 |e,ρ,w=>Q e ρ w

def lR (Q:gd):gd
 | .goto _,_,_=>False
 |e,ρ,w=>Q e ρ w
def vcC (P:Program)(n:Nat):Code->gd->Fr->World->Prop
 | .skip,Q,ρ,w=>Q .normal ρ w
 | .region _ ops draw,Q,ρ,w=>match draw with
  |true=>False
  |false=>yJ P n ops.toList ops.toList (Q .normal) [] ρ w
 | .seq x y,Q,ρ,w=>vcC P n x (m9 (vcC P n y Q) Q) ρ w
 | .cond c x y,Q,ρ,w=>
  match c with
  | .tmp t=>match ρ t with
   | .bool b=>match b with
    |true=>vcC P n x Q (upd ρ t (.bool true)) w
    |false=>vcC P n y Q (upd ρ t (.bool false)) w
   |_=>False
  | .const (.bool b)=>match b with
   |true=>vcC P n x Q ρ w
   |false=>vcC P n y Q ρ w
  |_=>False
 | .block id x,Q,ρ,w=>vcC P n x (rZ id Q) ρ w
 | .exit id,Q,ρ,w=>Q (.exit id) ρ w
 | .ret,Q,ρ,w=>Q .ret ρ w
 | .label _,Q,ρ,w=>Q .normal ρ w
 | .goto l,Q,ρ,w=>Q (.goto l) ρ w
 | .scope x,Q,ρ,w=>vcC P n x (lR Q) ρ w
 |_,_,_,_=>False

def WpF (P:Program)(n:Nat)(c:Code)(Q:gd)(ρ:Fr)(w:World):Prop:= ∀a,RelF n a ρ->c.wp P (na n Q) a w

def Inv (gs:GS)(ρ:Fr):Prop:= ∀t t' w v,(t,t',w,v)∈gs->ρ t=Hv (isB w (ρ t')) v

theorem ol {a b:Nat}(h:Nat.beq a b=false):a≠b:=λhc=>by subst hc;simp at h
theorem nR: ∀ {gs:GS} {t:Nat} {r:Nat × Bool × Value},Dt gs t=some r->(t,r)∈gs
 | [],_,_,h=>by cases h
 |(s,q)::gs,t,r,h=>by
  simp only[Dt] at h
  cases hb:Nat.beq s t with
  |true=>
   rw[hb] at h
   have:=Nat.eq_of_beq_eq_true hb
   subst this
   simp only[Option.some.injEq] at h
   subst h
   exact List.mem_cons_self
  |false=>rw[hb] at h;exact List.mem_cons_of_mem _ (nR h)
theorem mM {u:Nat}: ∀ {gs:GS} {x:Nat × Nat × Bool × Value},x∈yd gs u->x∈gs/\x.1≠u/\x.2.1≠u
 | [],_,h=>by cases h
 |(s,g,r)::gs,x,h=>by
  simp only[yd] at h
  cases I:Nat.beq s u with
  |true=>rw[I] at h;obtain⟨y,E⟩:=mM h;exact⟨List.mem_cons_of_mem _ y,E⟩
  |false=>
   rw[I] at h
   cases y:Nat.beq g u with
   |true=>rw[y] at h;obtain⟨y,E⟩:=mM h;exact⟨List.mem_cons_of_mem _ y,E⟩
   |false=>
    rw[y] at h
    cases h with
    |head=>exact⟨List.mem_cons_self,ol I,ol y⟩
    |tail _ h=>obtain⟨y,E⟩:=mM h;exact⟨List.mem_cons_of_mem _ y,E⟩
theorem tN {u:Nat}: ∀ {gs:GS} {x:Nat × Nat × Bool × Value},x∈ri gs u->x∈gs
 | [],_,h=>by cases h
 |(s,r)::gs,x,h=>by
  simp only[ri] at h
  cases g:Nat.beq s u with
  |true=>rw[g] at h;exact List.mem_cons_of_mem _ (tN h)
  |false=>
   rw[g] at h
   cases h with
   |head=>exact List.mem_cons_self
   |tail _ h=>exact List.mem_cons_of_mem _ (tN h)
theorem B6 {ρ:Fr}{d t:Nat}{v:Value}(h:t≠d):upd ρ d v t=ρ t:=by
 unfold upd
 cases hb:Nat.beq t d with
 |true=>exact absurd (Nat.eq_of_beq_eq_true hb) h
 |false=>rfl
theorem HC {ρ:Fr}{d:Nat}{v:Value}:upd ρ d v d=v:=by
 unfold upd
 rw[show Nat.beq d d=true by simp]
theorem Inv.del {gs:GS}{ρ:Fr}(hi:Inv gs ρ)(d:Nat)(v:Value):Inv (yd gs d) (upd ρ d v):=by
 intro t t' w x E
 obtain⟨y,g,I⟩:=mM E
 rw[B6 g,B6 I]
 exact hi _ _ _ _ y
theorem Inv.delO {gs:GS}{ρ:Fr}(hi:Inv gs ρ)(d:Option Nat)(v:Value):Inv (E8 gs d) (sj ρ d v):=by
 cases d with
 |none=>exact hi
 |some d=>exact hi.del d v
theorem Inv.drop {gs:GS}{ρ:Fr}(hi:Inv gs ρ)(d:Nat):Inv (ri gs d) ρ:=λ_ _ _ _ g=>hi _ _ _ _ (tN g)
theorem Inv.add {gs:GS}{ρ:Fr}(hi:Inv gs ρ){d t:Nat}{y:Bool}{v:Value}(E:t≠d){b:Bool}(hb:b=isB y (ρ t)):
 Inv ((d,t,y,v)::yd gs d) (upd ρ d (Hv b v)):=by
 intro s s' w x g
 cases g with
 |head=>rw[HC,B6 E,hb]
 |tail _ g=>exact hi.del d _ _ _ _ _ g
theorem Ao (g:Bool)(b:Bool)(v:Value):isB g (Hv b v)=(b && isB g v):=by
 cases b<;>rfl
theorem yB: ∀(c:Ch) (t:Nat) (g:Bool) (v:Value),c≠ []->sM (c++ [(t,g,v)])=(sM c && isB g v)
 | [],_,_,_,h=>absurd rfl h
 | [_],_,_,_,_=>rfl
 |(_,w,u)::x::c,t,g,v,_=>by
  have y:=yB (x::c) t g v (by simp)
  show (isB w u && sM ((x::c)++ [(t,g,v)]))=_
  rw[y]
  show _=((isB w u && sM (x::c)) && isB g v)
  rw[Bool.and_assoc]
theorem wn (gs:GS)(ρ:Fr)(f t:Nat)(g:Bool):kb gs ρ f t g≠ []:=by
 cases f with
 |zero=>simp[kb]
 |succ f=>unfold kb;split<;>simp
theorem qt {gs:GS}{ρ:Fr}(hi:Inv gs ρ): ∀(f t:Nat) (g:Bool),sM (kb gs ρ f t g)=isB g (ρ t)
 |0,_,_=>rfl
 |f+1,t,g=>by
  unfold kb
  split
  ·rfl
  ·rename_i t' y v E
   rw[yB _ _ _ _ (wn gs ρ f t' y),qt hi f t' y,hi t t' y v (nR E),Ao]
def FB (ρ:Fr)(c:Ch):Prop:= ∀u x,uq c u x=true->isB x (ρ u)=true
theorem nI: ∀ {c d:Ch} {u:Nat} {x:Bool},uq (c++d) u x=true->uq c u x=true\/uq d u x=true
 | [],_,_,_,h=> .inr h
 |(t,w,v)::c,d,u,x,h=>by
  have g:= @nI c d u x
  simp only[List.cons_append,uq] at h⊢
  cases hb:Nat.beq t u<;>rw[hb] at h
  ·exact g h
  ·cases w<;>cases x<;>first|exact .inl rfl|exact g h
theorem p9 {t u:Nat}{w x:Bool}{v:Value}(h:uq [(t,w,v)] u x=true):t=u/\w=x:=by
 simp only[uq] at h
 cases hb:Nat.beq t u<;>rw[hb] at h
 ·cases h
 ·refine⟨Nat.eq_of_beq_eq_true hb,?_⟩
  cases w<;>cases x<;>first|rfl|cases h
theorem mT {gs:GS}{ρ:Fr}(hi:Inv gs ρ): ∀(f t:Nat) (y:Bool),isB y (ρ t)=true->FB ρ (kb gs ρ f t y)
 |0,t,y,h=>λu x g=>by obtain⟨rfl,rfl⟩:=p9 g;exact h
 |f+1,t,y,h=>by
  unfold kb
  split
  ·intro u x g;obtain⟨rfl,rfl⟩:=p9 g;exact h
  ·rename_i t' I v O
   have U:=hi t t' I v (nR O)
   have E:=h
   rw[U,Ao,Bool.and_eq_true] at E
   intro u x g
   rcases nI g with g|g
   ·exact mT hi f t' I E.1 u x g
   ·obtain⟨rfl,rfl⟩:=p9 g;exact h
theorem xp {c:Ch}{gs:GS}{ρ:Fr}(hi:Inv gs ρ)(E:FB ρ c):ovr c gs ρ=ρ:=by
 funext t
 unfold ovr
 split
 ·rfl
 ·rename_i t' g v y
  split
  ·rename_i I
   rw[hi t t' g v (nR y),E t' g I]
   rfl
  ·rfl

theorem ER {b:Bool}{x g v:Value}(h:GI b x g=some v):v=if b then x else g:=by
 unfold GI at h
 split at h
 ·cases h;cases b<;>rfl
 ·split at h
  ·rename_i E;have:=of_decide_eq_true E;subst this;cases h;cases b<;>rfl
  ·cases h
 ·cases h;cases b<;>rfl
 ·cases h
theorem uI {o:Oper}{c:Ch}{gs:GS}{ρ:Fr}{b6:Option Prop}{v:Value}(hi:Inv gs ρ)(b9:FB ρ c)(h:xh P o c gs ρ=some (b6,v))(hs: ∀p,b6=some p->p)(w:World):(execOp (rd ρ) o).run P w= .ok (.value v) w:=by
 have c2:=xp hi b9
 unfold xh at h
 rw[c2] at h
 split at h
 ·rename_i x E
  simp only[Option.some.injEq,Prod.mk.injEq] at h
  simp only[execOp,E]
  rw[h.2]
  rfl
 ·rename_i g x y E
  split at h
  ·rename_i t
   split at h
   ·rename_i b hb
    split at h
    ·rename_i a6 O
     simp only[Option.some.injEq,Prod.mk.injEq] at h
     obtain⟨_,rfl⟩:=h
     have hv:=ER O
     simp only[execOp,E,rd,hb]
     have snoc: ∀z,b=z->FB ρ (c++ [(t,z,.bool b)]):=by
      intro z hz u x V
      rcases nI V with V|V
      ·exact b9 u x V
      ·obtain⟨rfl,rfl⟩:=p9 V;subst hz;rw[hb];cases b<;>rfl
     cases b with
     |true=>rw[xp hi (snoc true rfl)] at hv;rw[hv];rfl
     |false=>rw[xp hi (snoc false rfl)] at hv;rw[hv];rfl
    ·cases h
   ·cases h
  ·cases h
 ·rename_i op xt x y _ E
  split at h
  ·cases h
  split at h
  ·rename_i k a c8 b I a7
   split at h<;>try (cases h;done)
   split at h
   ·rename_i a6 O
    simp only[Option.some.injEq,Prod.mk.injEq] at h
    obtain⟨_,rfl⟩:=h
    simp only[execOp,E,I,a7]
    exact aU (ko P _ _ O w)
   ·cases h
  ·rename_i a b I a7
   split at h<;>try (cases h;done)
   split at h
   ·rename_i a6 O
    simp only[Option.some.injEq,Prod.mk.injEq] at h
    obtain⟨_,rfl⟩:=h
    simp only[execOp,E,I,a7]
    exact aU (ko P _ _ O w)
   ·cases h
  ·cases h
 ·rename_i op _ x E
  split at h
  ·rename_i a6 O
   simp only[Option.some.injEq,Prod.mk.injEq] at h
   obtain⟨_,rfl⟩:=h
   simp only[execOp,E]
   exact aU (ko P _ _ O w)
  ·cases h
 ·rename_i xt x i E
  split at h
  ·rename_i s k m I c1
   split at h
   ·rename_i U
    simp only[Option.some.injEq,Prod.mk.injEq] at h
    obtain⟨b8,rfl⟩:=h
    obtain⟨h0,b8⟩:=hs _ b8.symm
    have b7:m.toNat<s.size:=by omega
    simp only[execOp,E]
    refine aU ?_
    unfold Instr.index asIntOf underlying
    simp only[I,c1,Sem.run_bind,run_program,Result.andThen_ok]
    simp only[pure,Sem.run,Result.andThen_ok,h0,if_true,getElem?_pos s m.toNat b7,U]
    congr 2
    unfold bt
    have:s.data.size=s.size:=rfl
    simp[Array.getD,this,b7,ByteArray.getElem_eq_getElem_data]
   ·cases h
  ·cases h
 ·rename_i c3 E
  obtain⟨c4,b5,b3⟩:=c3
  split at h
  ·rename_i b4
   dsimp only at b4 h
   subst b4
   split at h
   ·rename_i t x ht I
    split at h
    ·rename_i s U W
     simp only[Option.some.injEq,Prod.mk.injEq] at h
     obtain⟨_,rfl⟩:=h
     simp only[execOp,E]
     refine aU (s:=Builtin.len_ b3 o.type (b5.map (rd ρ))) ?_
     simp[Builtin.len_,ht,I,underlying,U,W,goInt]
    ·rename_i e q m c5 U W
     simp only[Option.some.injEq,Prod.mk.injEq] at h
     obtain⟨_,rfl⟩:=h
     simp only[execOp,E]
     refine aU (s:=Builtin.len_ b3 o.type (b5.map (rd ρ))) ?_
     simp[Builtin.len_,ht,I,underlying,U,W,goInt]
    ·cases h
   ·cases h
  ·cases h
 ·cases h

theorem qP {ρ:Fr}{U O:Fr->GS->Prop}: ∀(c:Ch) (gs:GS),Inv gs ρ->c≠ []->
 (∀pre u x v a6,c=pre++(u,x,v)::a6->sM pre=true->ρ u=v)->
 sX c ρ gs U O-> ∃g,Inv g ρ/\(sM c=true/\U ρ g\/sM c=false/\O ρ g)
 | [],_,_,h,_,_=>absurd rfl h
 |(u,x,v)::c,gs,hi,_,hv,h=>by
  have b4:ρ u=v:=hv [] u x v c rfl rfl
  unfold sX at h
  cases v with
  |bool b=>
   have V: ∀z,b=z->upd ρ u (.bool z)=ρ:=λz hz=>by subst hz;rw[<-b4];exact sA ρ u
   have hd:=hi.drop u
   have a7:isB x (.bool b)=false->O ρ (ri gs u)-> ∃g,Inv g ρ/\(sM ((u,x,Value.bool b)::c)=true/\U ρ g\/sM ((u,x,Value.bool b)::c)=false/\O ρ g):=by
    intro E W
    refine⟨_,hd,.inr ⟨?_,W⟩⟩
    cases c with
    |nil=>exact E
    |cons I c=>show (isB x (.bool b) && sM (I::c))=false;rw[E];rfl
   have go:isB x (.bool b)=true->sX c ρ (ri gs u) U O-> ∃g,Inv g ρ/\(sM ((u,x,Value.bool b)::c)=true/\U ρ g\/sM ((u,x,Value.bool b)::c)=false/\O ρ g):=by
    intro E W
    cases c with
    |nil=>exact⟨_,hd,.inl ⟨E,W⟩⟩
    |cons I c=>
     have b3:sM ((u,x,Value.bool b)::I::c)=sM (I::c):=by show (isB x (.bool b) && sM (I::c))=_;rw[E];rfl
     obtain⟨g,b7,b9⟩:=qP (I::c) (ri gs u) hd (by simp)
      (λpre b5 b8 b6 a6 c1 c2=>by
       refine hv ((u,x,.bool b)::pre) b5 b8 b6 a6 (by rw[c1];rfl) ?_
       cases pre with
       |nil=>exact E
       |cons z pre=>show (isB x (.bool b) && sM (z::pre))=true;rw[E,c2];rfl) W
     rw[b3]
     exact⟨g,b7,b9⟩
   cases b with
   |true=>cases x with
    |true=>simp only[V true rfl] at h;exact go rfl h
    |false=>simp only[V true rfl] at h;exact a7 rfl h
   |false=>cases x with
    |true=>simp only[V false rfl] at h;exact a7 rfl h
    |false=>simp only[V false rfl] at h;exact go rfl h
  |tuple vs=>
   refine⟨_,hi.drop u,.inr ⟨?_,h⟩⟩
   cases c with
   |nil=>rfl
   |cons I c=>rfl
  |_=>exact h.elim

theorem sO {o:Oper}{y:Array Oper}{tmps:Array Value}{j t:Nat}{g:Bool}(E:o.guard=some (j,g))(ht:(y.toList[j]?).bind (·.dst)=some t):Region.wanted o (yielded y tmps)=isB g (tmps.getD t undef):=by
 have I:(y[j]?).bind (·.dst)=some t:=by simpa using ht
 simp only[Region.wanted,E]
 unfold yielded
 rw[I,Array.getD_eq_getD_getElem?]
 simp only[Option.bind_some]
 cases tmps[t]? with
 |none=>rfl
 |some v=>cases v<;>first|rfl|(rename_i b;cases b<;>cases g<;>rfl)

theorem rr {gs:GS}{ρ:Fr}(hi:Inv gs ρ): ∀(f t:Nat) (E:Bool),∀pre u x v I,kb gs ρ f t E=pre++(u,x,v)::I->sM pre=true->ρ u=v
 |0,t,E,pre,u,x,v,I,he,_=>by
  cases pre with
  |nil=>simp only[kb,List.nil_append,List.cons.injEq,Prod.mk.injEq] at he;rw[<-he.1.1];exact he.1.2.2
  |cons y pre=>simp[kb] at he
 |f+1,t,E,pre,u,x,v,I,he,hp=>by
  unfold kb at he
  split at he
  ·cases pre with
   |nil=>simp only[List.nil_append,List.cons.injEq,Prod.mk.injEq] at he;rw[<-he.1.1];exact he.1.2.2
   |cons y pre=>simp at he
  ·rename_i t' g a6 a7
   rcases List.eq_nil_or_concat I with U|⟨O,z,U⟩
   ·subst U
    have V:kb gs ρ f t' g=pre/\(t,E,a6)=(u,x,v):=by
     have:=List.append_inj' he rfl
     simpa using this
    obtain⟨b4,b3⟩:=V
    cases b3
    have W:=qt hi f t' g
    rw[b4,hp] at W
    rw[hi t t' g v (nR a7),<-W]
    rfl
   ·subst U
    have V:kb gs ρ f t' g=pre++(u,x,v)::O:=by
     have:kb gs ρ f t' g++ [(t,E,a6)]=(pre++(u,x,v)::O)++ [z]:=by rw[he];simp
     exact(List.append_inj' this rfl).1
    exact rr hi f t' g pre u x v O V hp

theorem uM {n:Nat}{E:Array Oper}{Q:gd}: ∀(l:List Oper) {gs:GS} {a:Act} {ρ:Fr} {w:World},RelF n a ρ->Inv gs ρ->
 yJ P n E.toList l (Q .normal) gs ρ w->wpList P E (na n Q) l a w
 | [],_,a,ρ,w,hr,_,h=>⟨ρ,hr,h⟩
 |o::rest,gs,a,ρ,w,hr,hi,h=>by
  have c2:= @uM n E Q rest
  unfold yJ at h
  split at h
  ·exact h.elim
  ·rename_i hd
   have b9: ∀k,o.dst=some k->k<n:=λk b5=>by rw[b5] at hd;simpa[tW,Nat.blt_eq] using hd
   have d2:a.eval=rd ρ:=funext hr.eval
   have b7: ∀(y:GS),Inv y ρ->Region.wanted o (yielded E a.tmps)=true->
    opV P o ρ (λv c5=>yJ P n E.toList rest (Q .normal) y (sj ρ o.dst v) c5) w->(∀v,Inv y (sj ρ o.dst v))->wpList P E (na n Q) (o::rest) a w:=by
    intro y _ I hv a6
    unfold wpList
    rw[if_pos I]
    refine .inl (Oper.wp_mono (λe0 c5 ⟨v,d3,b5⟩=>?_) (xu hr hv))
    subst d3
    exact c2 (hr.put o.dst v b9) (a6 v) b5
   have val: ∀(y:GS) (v:Value),Inv y (sj ρ o.dst v)->Region.wanted o (yielded E a.tmps)=true->(execOp (rd ρ) o).run P w= .ok (.value v) w->
    yJ P n E.toList rest (Q .normal) y (sj ρ o.dst v) w->wpList P E (na n Q) (o::rest) a w:=by
    intro y v a6 I d0 hv
    unfold wpList
    rw[if_pos I]
    refine .inl ?_
    unfold Oper.wp
    rw[d2,d0]
    exact c2 (hr.put o.dst v b9) a6 hv
   have c3: ∀(y:GS),Inv y (sj ρ o.dst undef)->Region.wanted o (yielded E a.tmps)=false->
    yJ P n E.toList rest (Q .normal) y (sj ρ o.dst undef) w->wpList P E (na n Q) (o::rest) a w:=by
    intro y a6 I hv
    unfold wpList
    rw[if_neg (by simp[I])]
    exact c2 (hr.put o.dst undef b9) a6 hv
   split at h
   ·rename_i b8
    have I:Region.wanted o (yielded E a.tmps)=true:=by simp[Region.wanted,b8]
    split at h
    ·exact b7 _ (by cases o.dst<;>first|exact hi|exact λ_ _ _ _ b4=>hi _ _ _ _ (mM b4).1) I h (λv=>hi.delO o.dst v)
    ·split at h
     ·rename_i v W
      exact val _ v (hi.delO o.dst v) I (uI hi (λ_ _ b5=>by cases b5) W (λ_ hs=>by cases hs) w) h
     ·exact b7 _ (by cases o.dst<;>first|exact hi|exact λ_ _ _ _ b4=>hi _ _ _ _ (mM b4).1) I h (λv=>hi.delO o.dst v)
   ·rename_i j g b8
    split at h
    ·rename_i t d ht O
     have I:Region.wanted o (yielded E a.tmps)=isB g (ρ t):=by rw[sO b8 ht,hr.get]
     have U:=qt hi 9 t g
     have c9:=rr hi 9 t g
     have d1:=wn gs ρ 9 t g
     split at h
     ·exact h.elim
     ·rename_i c1
      have c1:=ol c1
      have c4: ∀(a7:Option Prop) (v:Value),xh P o (kb gs ρ 9 t g) gs ρ=some (a7,v)->(∀p,a7=some p->sM (kb gs ρ 9 t g)=true->p)->
       yJ P n E.toList rest (Q .normal) ((d,t,g,v)::yd gs d) (upd ρ d (Hv (sM (kb gs ρ 9 t g)) v)) w->wpList P E (na n Q) (o::rest) a w:=by
       intro a7 v W c8 h
       have b6:=hi.add (d:=d) (v:=v) c1 U
       cases hb:isB g (ρ t) with
       |true=>
        rw[U,hb] at h b6
        refine val ((d,t,g,v)::yd gs d) v ?_ (by rw[I,hb]) (uI hi (mT hi 9 t g hb) W (λp b3=>c8 p b3 (by rw[U,hb])) w) ?_
        ·rw[O];exact b6
        ·rw[O];exact h
       |false=>
        rw[U,hb] at h b6
        refine c3 ((d,t,g,v)::yd gs d) ?_ (by rw[I,hb]) ?_
        ·rw[O];exact b6
        ·rw[O];exact h
      split at h
      ·rename_i v W
       exact c4 none v W (λp b3=>by cases b3) h
      ·rename_i a7 v W
       exact c4 (some a7) v W (λp b3=>by cases b3;exact h.1) h.2
      ·obtain⟨y,V,h|h⟩:=qP _ gs hi d1 c9 h
       ·obtain⟨hb,h⟩:=h
        rw[U] at hb
        rw[xp V (mT hi 9 t g hb)] at h
        refine b7 (yd y d) (λ_ _ _ _ b4=>V _ _ _ _ (mM b4).1) (by rw[I,hb]) ?_ (λv=>by rw[O];exact V.del d v)
        rw[O]
        exact h
       ·obtain⟨hb,h⟩:=h
        rw[U] at hb
        exact c3 (yd y d) (by rw[O];exact V.del d undef) (by rw[I,hb]) (by rw[O];exact h)
    ·rename_i t ht O
     have I:Region.wanted o (yielded E a.tmps)=isB g (ρ t):=by rw[sO b8 ht,hr.get]
     have U:=qt hi 9 t g
     obtain⟨y,V,h|h⟩:=qP _ gs hi (wn gs ρ 9 t g) (rr hi 9 t g) h
     ·obtain⟨hb,h⟩:=h
      rw[U] at hb
      rw[xp V (mT hi 9 t g hb)] at h
      refine b7 y V (by rw[I,hb]) ?_ (λv=>by rw[O];exact V)
      rw[O]
      exact h
     ·obtain⟨hb,h⟩:=h
      rw[U] at hb
      exact c3 y (by rw[O];exact V) (by rw[I,hb]) (by rw[O];exact h)
    ·exact h.elim

theorem Bh {n:Nat}{K:Fr->World->Prop}{Q:gd}{g:Code}(E: ∀ρ w,K ρ w->WpF P n g Q ρ w)(e:Exit)(a:Act)(w:World)(h:na n (m9 K Q) e a w):Exit.then (g.wp P (na n Q)) (na n Q) e a w:=by
 obtain⟨ρ,hr,h⟩:=h
 cases e<;>first|exact E _ _ h _ hr|exact⟨ρ,hr,h⟩

theorem WpF.seq {n:Nat}{x g:Code}{K:Fr->World->Prop}{Q:gd}{ρ:Fr}{w:World}(h:WpF P n x (m9 K Q) ρ w)(E: ∀ρ w,K ρ w->WpF P n g Q ρ w):WpF P n (.seq x g) Q ρ w:=
 λa hr=>wp_seq (Code.wp_mono (Bh E) (h a hr))
theorem WpF.block {n id:Nat}{x:Code}{Q:gd}{ρ:Fr}{w:World}(h:WpF P n x (rZ id Q) ρ w):WpF P n (.block id x) Q ρ w:=by
 refine λa hr=>wp_block (Code.wp_mono (λe a w h=>?_) (h a hr))
 obtain⟨ρ,hr,h⟩:=h
 cases e<;>try exact⟨ρ,hr,h⟩
 rename_i g
 simp only[rZ] at h
 simp only[Exit.inBlock]
 split at h
 ·rename_i hb;rw[if_pos (Nat.eq_of_beq_eq_true hb)];exact⟨ρ,hr,h⟩
 ·rename_i hb
  rw[if_neg (λhc=>by subst hc;simp at hb)]
  exact⟨ρ,hr,h⟩
theorem WpF.cond {n t:Nat}{x I:Code}{Q:gd}{ρ:Fr}{w:World}{b:Bool}(hb:ρ t= .bool b)(h:match b with|true=>WpF P n x Q (upd ρ t (.bool true)) w|false=>WpF P n I Q (upd ρ t (.bool false)) w):WpF P n (.cond (.tmp t) x I) Q ρ w:=by
 have g:upd ρ t (.bool b)=ρ:=by rw[<-hb];exact sA ρ t
 intro a hr
 have E:a.eval (.tmp t)= .bool b:=by rw[hr.eval];exact hb
 cases b with
 |true=>exact wp_cond_true E (h a (by rw[g];exact hr))
 |false=>exact wp_cond_false E (h a (by rw[g];exact hr))

theorem WpF.scope {n:Nat}{x:Code}{Q:gd}{ρ:Fr}{w:World}(h:WpF P n x (lR Q) ρ w):WpF P n (.scope x) Q ρ w:=by
 refine λa hr=>wp_scope_straight (Code.wp_mono (λe a w h=>?_) (h a hr))
 obtain⟨ρ,hr,h⟩:=h
 cases e<;>first|exact⟨ρ,hr,h⟩|exact h.elim

theorem B5 {n:Nat}: ∀(c:Code) {Q:gd} {ρ:Fr} {w:World},vcC P n c Q ρ w->WpF P n c Q ρ w:=by
 intro c
 induction c with
 |skip=>exact λh a hr=>wp_skip ⟨_,hr,h⟩
 |region id a6 O=>
  intro Q ρ w h
  unfold vcC at h
  cases O with
  |true=>exact h.elim
  |false=>exact λa hr=>wp_region_list (uM _ hr (λ_ _ _ _ U=>by cases U) h)
 |seq x W g E=>exact λh=>WpF.seq (g h) (λρ w V=>E V)
 |cond c x W g E=>
  intro Q ρ w h
  unfold vcC at h
  split at h
  ·split at h
   ·rename_i t b hb
    refine WpF.cond hb ?_
    cases b with
    |true=>exact g h
    |false=>exact E h
   ·exact h.elim
  ·rename_i b
   intro a hr
   cases b with
   |true=>exact wp_cond_true rfl (g h a hr)
   |false=>exact wp_cond_false rfl (E h a hr)
  ·exact h.elim
 |block id x I=>exact λh=>WpF.block (I h)
 |exit id=>exact λh a hr=>wp_exit ⟨_,hr,h⟩
 |ret=>exact λh a hr=>wp_ret ⟨_,hr,h⟩
 |label l=>exact λh a hr=>wp_label ⟨_,hr,h⟩
 |goto l=>exact λh a hr=>wp_goto ⟨_,hr,h⟩
 |scope x I=>exact λh=>WpF.scope (I h)
 |_=>exact λh=>by unfold vcC at h;exact h.elim

def LoopF (P:Program)(n:Nat)(c:Code)(Q:gd)(ρ:Fr)(w:World):Prop:=
 ∀a,RelF n a ρ-> ∀(b:Frame) (k:List Item) (cs:List Frame),
  ∃e y g,na n Q e y g/\Arrives P (lone (b.at a (.code c:: .inLoop c::k)) cs w) b k cs e y g
theorem LoopF.wp {n:Nat}{c:Code}{Q:gd}{ρ:Fr}{w:World}(h:LoopF P n c Q ρ w):WpF P n (.loop c) Q ρ w:=by
 intro a hr b k cs
 obtain⟨e,I,E,y,g⟩:=h a hr b k cs
 exact⟨e,I,E,y,.of_steps (.one step_loop) g⟩
theorem LoopF.unfold {n:Nat}{c:Code}{Q:gd}{ρ:Fr}{w:World}(h:WpF P n c (m9 (LoopF P n c Q) Q) ρ w):LoopF P n c Q ρ w:=by
 intro a hr b k cs
 obtain⟨e,I,O,⟨U,y,E⟩,g⟩:=h a hr b (.inLoop c::k) cs
 cases e with
 |normal=>
  obtain⟨a6,a7,b3,W,V⟩:=E I y b k cs
  exact⟨a6,a7,b3,W,.of_steps (Steps.trans g (.one step_inLoop)) V⟩
 |exit id=>exact⟨_,I,O,⟨U,y,E⟩,.pass (x:= .inLoop c) rfl (λ_ _=> .inl (by simp)) g⟩
 |goto l=>exact⟨_,I,O,⟨U,y,E⟩,.pass (x:= .inLoop c) rfl (λ_ _=> .inl (by simp)) g⟩
 |ret=>exact⟨_,I,O,⟨U,y,E⟩,.pass (x:= .inLoop c) rfl (λ_ _=> .inl (by simp)) g⟩
 |panic ch=>exact⟨_,I,O,⟨U,y,E⟩,.pass (x:= .inLoop c) rfl (λ_ _=> .inl (by simp)) g⟩
 |outgrown=>exact⟨_,I,O,⟨U,y,E⟩,.pass (x:= .inLoop c) rfl (λ_ _=> .inl (by simp)) g⟩
theorem WpF.mono {n:Nat}{c:Code}{Q g:gd}{ρ:Fr}{w:World}(h:WpF P n c Q ρ w)(y: ∀e ρ w,Q e ρ w->g e ρ w):WpF P n c g ρ w:=
 λa hr=>Code.wp_mono (λ_ _ _ ⟨ρ,hr,h⟩=>⟨ρ,hr,y _ _ _ h⟩) (h a hr)

end Go.Proofs.YtendaipfdnhnaaaGreatDoor


namespace Go.Proofs.YtendaipfdnhnaaaGreatDoor
variable {P:Program}

def semP (P:Program)(s:Sem Value)(ty:Ty)(K:Value->Prop):Prop:=ty.ex λv=>(∀w,s.run P w= .ok v w)/\K v
def valV (P:Program)(o:Oper)(ρ:Fr)(K:Value->Prop):Prop:=
 match o.op with
 | .move x| .assign x=>K (rd ρ x)
 | .pick c x y=>match rd ρ c with
  | .bool b=>match b with
   |true=>K (rd ρ x)
   |false=>K (rd ρ y)
  |_=>False
 | .binOp op xt x y _=>match CH P xt with
  |false=>semP P (do eqGuard op xt x y (rd ρ x) (rd ρ y);binOp op xt (rd ρ x) (rd ρ y)) (.c (.s .bool)) K
  |true=>match rd ρ x,rd ρ y with
   | .string a,.string b=>match op with
    | .add=>((a.size+b.size:Nat):Int)<=i64.max/\K (.string (a++b))
    |_=>oU P (do eqGuard op xt x y (.string a) (.string b);binOp op xt (.string a) (.string b)) K
   | .int k a,.int k' b=>match op with
    | .quo=>b≠0/\match decide (k=k') with
     |true=>K (.int k (k.wrap (a.tdiv b)))
     |false=>False
    | .rem=>b≠0/\match decide (k=k') with
     |true=>K (.int k (a.tmod b))
     |false=>False
    |_=>oU P (do eqGuard op xt x y (.int k a) (.int k' b);binOp op xt (.int k a) (.int k' b)) K
   |x',y'=>oU P (do eqGuard op xt x y x' y';binOp op xt x' y') K
 | .unOp op _ x=>oU P (Op.unary op (rd ρ x)) K
 | .nilCheck x=>nilV (rd ρ x) K
 | .fieldAddr s x f=>match rd ρ x with
  | .pointer (some a)=>match P.underlying s with
   |some (.struct fs)=>match fs[f]? with
    |some E=>match P.info? E.type with
     |some i=>match i.size with
      |0=>False
      |_+1=>K (.pointer (some (a.add E.offset)))
     |none=>False
    |none=>False
   |_=>False
  |_=>False
 | .field xt x f=>oU P (Instr.field xt (rd ρ x) f) K
 | .build t parts=>match P.underlying t,P.info? t with
  |some (.struct fs),some g=>match g.zero with
   |some (.agg I)=>match fs.toList.all λf=>(P.info? f.type).isSome with
    |true=>buildS P fs (parts.toList.map λ(i,x)=>(i,rd ρ x)) I.toList λcs=>K (.agg cs.toArray)
    |false=>False
   |_=>False
  |_,_=>oU P (Instr.build t (parts.map λ(i,x)=>(i,rd ρ x))) K
 | .makeInterface t x=>oU P (Instr.makeInterface t (rd ρ x)) K
 | .makeFunc fn first captured=>K (.func fn (first.map (rd ρ)) (captured.map (rd ρ)))
 | .extract x i=>match rd ρ x with
  | .tuple vs=>match vs[i]? with
   |some v=>K v
   |none=>False
  |_=>False
 | .index xt x i=>match rd ρ x,rd ρ i with
  | .string s,.int _ n=>match P.underlying xt with
   |some .string=>0<=n/\n<s.size/\K (.int .u8 (bt s n))
   |_=>False
  |_,_=>False
 | .indexAddr t x i=>match rd ρ x,rd ρ i with
  | .slice q len _,.int _ n=>match P.underlying t with
   |some (.slice e)=>match P.info? e with
    |some g=>0<=n/\n<len/\aA q λa=>K (.pointer (some (a.add (n.toNat*g.size))))
    |none=>False
   |_=>False
  | .pointer (some ad),.int _ n=>match P.underlying t with
   |some (.array len e)=>match P.info? e with
    |some g=>0<=n/\n<(len:Int)/\K (.pointer (some (ad.add (n.toNat*g.size))))
    |none=>False
   |_=>False
  |_,_=>False
 | .slice t x lo hi mx=>match rd ρ x with
  | .string s=>match P.underlying t,mx with
   |some .string,none=>pT s (lo.map (rd ρ)) (hi.map (rd ρ)) K
   |_,_=>False
  |x'=>semP P (Instr.sliceAt t x' (lo.map (rd ρ)) (hi.map (rd ρ)) (mx.map (rd ρ))) (.c (.s .slice)) K
 | .convert src dst x=>match rd ρ x with
  | .int _ n=>match P.underlying src,P.underlying dst with
   |some (.int _),some (.int k)=>K (.int k (k.wrap n))
   |some (.int _),some .string=>K (.string (Utf8.encode n))
   |_,_=>False
  | .string s=>match P.underlying src,P.underlying dst with
   |some .string,some .string=>K (.string s)
   |_,_=>False
  |_=>False
 | .typeAssert x xt asserted ok=>semP P (Instr.typeAssert (rd ρ x) xt asserted ok) (okTy (Ff P asserted) ok) K
 | .call c=>match c.callee with
  | .builtin .len=>match c.argTypes[0]?,c.args[0]? with
   |some t,some x=>match P.underlying t,rd ρ x with
    |some .string,.string s=>K (.int .i64 s.size)
    |some (.slice _),.slice _ n _=>K (.int .i64 n)
    |_,_=>False
   |_,_=>False
  |_=>False
 |_=>False

theorem vF {s:Sem Value}{ty:Ty}{K:Value->Prop}(h:semP P s ty K): ∃v,K v/\ ∀w,s.run P w= .ok v w:=by
 obtain⟨v,hr,g⟩:=Ty.ex_out h
 exact⟨v,g,hr⟩
theorem Eu {o:Oper}{ρ:Fr}{K:Value->Prop}(h:valV P o ρ K): ∃v,K v/\ ∀w,(execOp (rd ρ) o).run P w= .ok (.value v) w:=by
 have bind: ∀ {s:Sem Value} {e:Sem Next},e=(s>>=λv=>pure (.value v))->(∃v,K v/\ ∀w,s.run P w= .ok v w)-> ∃v,K v/\ ∀w,e.run P w= .ok (.value v) w:=by
  intro s e d1 ⟨v,g,hr⟩
  subst d1
  exact⟨v,g,λw=>aU (hr w)⟩
 unfold valV at h
 split at h<;>rename_i c8<;>simp only[execOp,c8]
 case h_1=>exact⟨_,h,λ_=>rfl⟩
 case h_2=>exact⟨_,h,λ_=>rfl⟩
 case h_3=>
  split at h
  ·rename_i b hb
   split at h<;>(rw[hb];exact⟨_,h,λ_=>rfl⟩)
  ·exact h.elim
 case h_4=>
  rename_i op xt x y e8
  refine bind rfl ?_
  split at h
  ·exact vF h
  ·split at h
   ·rename_i a b W hb
    split at h
    ·obtain⟨hs,h⟩:=h
     refine⟨_,h,λw=>?_⟩
     have: ¬ ((a.size+b.size:Nat):Int)>i64.max:=by omega
     rw[W,hb]
     show (binOp .add xt (.string a) (.string b)).run P w=_
     simp only[binOp,Op.stringOp,if_neg this]
     rfl
    ·rw[W,hb];exact eZ h
   ·rename_i k a e7 b W hb
    split at h
    ·obtain⟨V,h⟩:=h
     split at h
     ·rename_i g
      have g:=of_decide_eq_true g
      subst g
      refine⟨_,h,λw=>?_⟩
      rw[W,hb]
      show (binOp .quo xt (.int k a) (.int k b)).run P w=_
      simp[binOp,Op.intDiv,V]
     ·exact h.elim
    ·obtain⟨V,h⟩:=h
     split at h
     ·rename_i g
      have g:=of_decide_eq_true g
      subst g
      refine⟨_,h,λw=>?_⟩
      rw[W,hb]
      show (binOp .rem xt (.int k a) (.int k b)).run P w=_
      simp[binOp,Op.intDiv,V]
     ·exact h.elim
    ·rw[W,hb];exact eZ h
   ·exact eZ h
 case h_5=>exact bind rfl (eZ h)
 case h_6=>
  unfold nilV at h
  split at h
  ·rename_i q e0
   unfold aA at h
   split at h
   ·rw[e0];exact⟨_,h,λ_=>rfl⟩
   ·exact h.elim
  ·rename_i v hv
   obtain⟨V,g⟩:=h
   cases O:rd ρ _<;>rw[O] at V g<;>try exact V.elim
   ·rename_i d0 first e1
    cases d0<;>try exact V.elim
    exact⟨_,g,λ_=>rfl⟩
   ·exact⟨_,g,λ_=>rfl⟩
 case h_7=>
  split at h
  ·rename_i c1 c5
   split at h
   ·rename_i fs E
    split at h
    ·rename_i e6 b3
     split at h
     ·rename_i i hi
      split at h
      ·exact h.elim
      ·rename_i m d3
       refine bind rfl ⟨_,h,λw=>?_⟩
       rw[c5]
       unfold Instr.fieldAt underlying fieldPlace sizeOf typeInfo
       simp only[Sem.run_bind,run_program,Result.andThen_ok,E]
       simp only[pure,Sem.run,Result.andThen_ok,b3,Instr.sureAddr,d3,Nat.add_one_ne_zero,if_false,Sem.run_bind,run_program,hi]
     ·exact h.elim
    ·exact h.elim
   ·exact h.elim
  ·exact h.elim
 case h_8=>exact bind rfl (eZ h)
 case h_9=>
  split at h
  ·rename_i fs U E c4
   rename_i b5 _ _
   split at h
   ·rename_i b9 hz
    split at h
    ·rename_i c3
     have d2: ∀(i:Nat) (f:Field) (U:TypeInfo),fs[i]? =some f->P.info? f.type=some U->
      ((fs.toList.map λf=>(f.offset,((P.info? f.type).map (·.size)).getD 0)).toArray)[i]? =some (f.offset,U.size):=by
      intro i f e3 b3 hi
      simp[b3,hi]
     obtain⟨e4,g,c2⟩:=rt d2 h
     refine bind rfl ⟨_,g,λw=>?_⟩
     unfold Instr.build zeroValue typeInfo underlying
     simp only[Sem.run_bind,run_program,Result.andThen_ok,c4,E]
     rw[show (pure U:Sem TypeInfo).run P w= .ok U w from rfl]
     simp only[Result.andThen_ok,hz]
     rw[show (pure (Value.agg b9):Sem Value).run P w= .ok (.agg b9) w from rfl]
     simp only[Result.andThen_ok]
     rw[show (pure (TypeDesc.struct fs):Sem TypeDesc).run P w= .ok (.struct fs) w from rfl]
     simp only[Result.andThen_ok,Sem.run_bind]
     rw[Array.mapM_eq_mapM_toList,map_eq_pure_bind,Sem.run_bind,qT _ c3]
     simp only[Result.andThen_ok]
     rw[show∀x:List (Nat × Nat),(pure x.toArray:Sem (Array (Nat × Nat))).run P w= .ok x.toArray w from λ_=>rfl]
     simp only[Result.andThen_ok,Value.cells]
     have c9:(b5.map λ(i,x)=>(i,rd ρ x)).toList=b5.toList.map λ(i,x)=>(i,rd ρ x):=by simp
     rw[c9,c2]
     simp
    ·exact h.elim
   ·exact h.elim
  ·exact bind rfl (eZ h)
 case h_10=>exact bind rfl (eZ h)
 case h_11=>exact⟨_,h,λ_=>rfl⟩
 case h_12=>
  split at h
  ·rename_i vs hv
   split at h
   ·rename_i v hi
    exact bind rfl ⟨_,h,λw=>by simp[hv,Instr.extract,hi]⟩
   ·exact h.elim
  ·exact h.elim
 case h_13=>
  split at h
  ·rename_i s k m hs hi
   split at h
   ·rename_i E
    obtain⟨h0,I,g⟩:=h
    refine bind rfl ⟨_,g,λw=>?_⟩
    have b8:m.toNat<s.size:=by omega
    unfold Instr.index asIntOf underlying
    simp only[hs,hi,Sem.run_bind,run_program,Result.andThen_ok]
    simp only[pure,Sem.run,Result.andThen_ok,h0,if_true,getElem?_pos s m.toNat b8,E]
    congr 2
    unfold bt
    have:s.data.size=s.size:=rfl
    simp[Array.getD,this,b8,ByteArray.getElem_eq_getElem_data]
   ·exact h.elim
  ·exact h.elim
 case h_14=>
  split at h
  ·rename_i q len c k m hs hi
   split at h
   ·rename_i e E
    split at h
    ·rename_i U a7
     obtain⟨h0,I,g⟩:=h
     unfold aA at g
     split at g
     ·rename_i c1
      refine bind rfl ⟨_,g,λw=>?_⟩
      unfold Instr.indexAt asIntOf underlying sizeOf typeInfo
      simp only[hs,hi,Sem.run_bind,run_program,Result.andThen_ok]
      simp only[pure,Sem.run,Result.andThen_ok,h0,I,and_self,if_true,Sem.run_bind,run_program,a7,E]
     ·exact g.elim
    ·exact h.elim
   ·exact h.elim
  ·rename_i c1 k m hs hi
   split at h
   ·rename_i len e E
    split at h
    ·rename_i U a7
     obtain⟨h0,I,g⟩:=h
     refine bind rfl ⟨_,g,λw=>?_⟩
     unfold Instr.indexAt asIntOf underlying sizeOf typeInfo
     simp only[hs,hi,Sem.run_bind,run_program,Result.andThen_ok]
     simp only[pure,Sem.run,Result.andThen_ok,h0,I,and_self,if_true,Sem.run_bind,run_program,a7,E,Instr.sureAddr]
    ·exact h.elim
   ·exact h.elim
  ·exact h.elim
 case h_15=>
  split at h
  ·rename_i s hs
   split at h
   ·rename_i E
    rw[hs]
    refine bind rfl ?_
    exact rF E h
   ·exact h.elim
  ·exact bind rfl (vF h)
 case h_16=>
  split at h
  ·rename_i k m O
   split at h
   ·rename_i k1 k2 I a6
    exact bind rfl ⟨_,h,λw=>by simp[O,convert,underlying,I,a6,Conv.intToInt]⟩
   ·rename_i k1 I a6
    exact bind rfl ⟨_,h,λw=>by simp[O,convert,underlying,I,a6,Conv.intToString]⟩
   ·exact h.elim
  ·rename_i m O
   split at h
   ·rename_i I a6
    exact bind rfl ⟨_,h,λw=>by simp[O,convert,underlying,I,a6]⟩
   ·exact h.elim
  ·exact h.elim
 case h_17=>exact bind rfl (vF h)
 case h_18=>
  rename_i c
  obtain⟨e2,b7,b4⟩:=c
  split at h
  ·rename_i b6
   dsimp only at b6 h
   subst b6
   split at h
   ·rename_i t x ht O
    split at h
    ·rename_i s E hs
     exact bind (s:=Builtin.len_ b4 o.type (b7.map (rd ρ))) rfl ⟨_,h,λw=>by simp[Builtin.len_,ht,O,underlying,E,hs,goInt]⟩
    ·rename_i e q m e5 E hs
     exact bind (s:=Builtin.len_ b4 o.type (b7.map (rd ρ))) rfl ⟨_,h,λw=>by simp[Builtin.len_,ht,O,underlying,E,hs,goInt]⟩
    ·exact h.elim
   ·exact h.elim
  ·exact h.elim
 case h_19=>exact h.elim

def SameC (w g:World)(a:Addr)(n:Nat):Prop:= ∀k,k<n->g.cell? (a.add k)=w.cell? (a.add k)
theorem SameC.trans {w E g:World}{a:Addr}{n:Nat}(h:SameC w E a n)(I:SameC E g a n):SameC w g a n:=
 λk y=>(I k y).trans (h k y)
theorem add_zero (a:Addr):a.add 0=a:=rfl

theorem C4: ∀ {ts:List STy} {w:World} {a:Addr} {i:Nat} {K:List Value->Prop},ldS w ts a i K->
 ∃vs,K vs/\vs.length=ts.length/\ ∀g,(∀k,k<i+ts.length->g.cell? (a.add k)=w.cell? (a.add k))-> ∀(y:Array Value),(loadCellsFrom a i ts.length y).run P g= .ok (y++vs.toArray) g
 | [],_,_,_,_,h=>⟨[],h,rfl,λg _ y=>by simp[loadCellsFrom]⟩
 |t::ts,w,a,i,K,h=>by
  obtain⟨v,hc,h⟩:=STy.ex_out h
  obtain⟨vs,I,O,hr⟩:=C4 h
  refine⟨v::vs,I,by simp[O],λg E y=>?_⟩
  have h0:g.cell? (a.add i)=some v:=by rw[E i (by simp only[List.length_cons];omega)];exact hc
  simp only[List.length_cons,loadCellsFrom,Sem.run_bind,run_load,h0,Result.andThen]
  rw[hr g (λk I=>E k (by simp only[List.length_cons];omega))]
  simp

theorem CW {t:TypeId}{a:Addr}{w:World}{K:Value->Prop}{i:TypeInfo}(hi:P.info? t=some i)(I:0<i.size)(h:zo P t a w K):
 ∃v,K v/\ ∀g,SameC w g a i.size->(loadVar t a).run P g= .ok v g:=by
 unfold zo at h
 rw[hi] at h
 split at h
 ·rename_i b4 d a6 a7
  cases a6
  have O:=λw=>xQ (w:=w) a7
  split at h
  ·rename_i cs hb hz
   split at h
   ·rename_i U
    obtain⟨vs,y,b3,hr⟩:=C4 (P:=P) h
    refine⟨_,y,λg E=>?_⟩
    have V:i.size=cs.size:=by simp[<-Nat.eq_of_beq_eq_true U]
    have W:(loadCellsFrom a 0 cs.size #[]).run P g= .ok vs.toArray g:=by
     have:=hr g (λk y=>E k (by simp at y;omega)) #[]
     simpa using this
    unfold loadVar loadCells sizeOf typeInfo
    simp only[Sem.run_bind,O,Result.andThen_ok,hb,if_true,run_program,hi]
    have I:(pure i:Sem TypeInfo).run P g= .ok i g:=rfl
    simp only[I,Result.andThen_ok,V]
    rw[show (pure cs.size:Sem Nat).run P g= .ok cs.size g from rfl]
    simp only[Result.andThen_ok,W]
    rfl
   ·exact h.elim
  ·rename_i z hb hz
   obtain⟨v,hc,y⟩:=STy.ex_out h
   refine⟨v,y,λg E=>?_⟩
   have h0:g.cell? a=some v:=by have:=E 0 I;rw[add_zero] at this;rw[this];exact hc
   unfold loadVar
   simp only[Sem.run_bind,O,Result.andThen_ok,hb,Bool.false_eq_true,if_false,run_load,h0]
  ·exact h.elim
 ·exact h.elim

inductive RPlan where
 |done
 |pure (i:Nat) (p:RPlan)
 |load (i:Nat) (p:RPlan)
 |one (i:Nat) (p:RPlan)
 |two (i:Nat) (p:RPlan) (j:Nat) (q:RPlan)
def RPlan.depth:RPlan->Nat
 | .done=>0
 | .pure _ p| .load _ p| .one _ p=>p.depth+1
 | .two _ p _ q=>max p.depth q.depth+1
def oZ (g:Array Oper):Nat->Nat->Nat->Bool
 |0,_,_=>false
 |f+1,j,i=>match g[j]? with
  |none=>false
  |some o=>o.after.any λe=>Region.binds .any e && (Nat.beq e.on i||oZ g f e.on i)
def yl:List Nat->List Nat->Bool
 | [],[]=>true
 |a::ys,b::bs=>match Nat.beq a b with
  |true=>yl ys bs
  |false=>false
 |_,_=>false
def ya:List Nat->Nat->Bool
 | [],_=>false
 |a::ys,b=>match Nat.beq a b with
  |true=>true
  |false=>ya ys b
def wG (I:Array Oper)(o:Oper)(ρ:Fr)(g y:Fr->Prop):Prop:=
 match o.guard with
 |none=>g ρ
 |some (j,E)=>match (I.toList[j]?).bind (·.dst) with
  |none=>False
  |some t=>match ρ t with
   | .bool b=>match b with
    |true=>match E with
     |true=>g (upd ρ t (.bool true))
     |false=>y (upd ρ t (.bool true))
    |false=>match E with
     |true=>y (upd ρ t (.bool false))
     |false=>g (upd ρ t (.bool false))
   | .tuple _=>y ρ
   |_=>False
abbrev Hj:=List (Nat × Addr × Nat)
def xI (g:Array Oper)(j:Nat)(w y:World):Hj->Prop->Prop
 | [],K=>K
 |(i,a,n)::E,K=>match oZ g g.size j i with
  |true=>xI g j w y E K
  |false=>SameC w y a n/\xI g j w y E K
def lP (P:Program)(n:Nat)(g:Array Oper)(Q:Fr->World->Prop):RPlan->Array Bool->Hj->Fr->World->Prop
 | .done,listed,_,ρ,w=>match Region.ready .any g listed with
  | []=>Q ρ w
  |_::_=>False
 | .pure i p,listed,E,ρ,w=>match g[i]? with
  |none=>False
  |some o=>match tW n o.dst,Region.free .any g listed i,ya (Region.ready .any g listed) i with
   |true,true,true=>wG g o ρ (λρ=>valV P o ρ λv=>lP P n g Q p (listed.setIfInBounds i true) E (sj ρ o.dst v) w)
    (λρ=>lP P n g Q p (listed.setIfInBounds i true) E (sj ρ o.dst undef) w)
   |_,_,_=>False
 | .load i p,listed,E,ρ,w=>match g[i]? with
  |none=>False
  |some o=>match tW n o.dst,Region.free .any g listed i,ya (Region.ready .any g listed) i with
   |true,true,true=>match o.op with
    | .load t x=>match P.info? t with
     |some I=>match Nat.blt 0 I.size with
      |true=>wG g o ρ (λρ=>match rd ρ x with
       | .pointer (some a)=>zo P t a w λv=>lP P n g Q p (listed.setIfInBounds i true) ((i,a,I.size)::E) (sj ρ o.dst v) w
       |_=>False)
       (λρ=>lP P n g Q p (listed.setIfInBounds i true) E (sj ρ o.dst undef) w)
      |false=>False
     |none=>False
    |_=>False
   |_,_,_=>False
 | .one i p,listed,E,ρ,w=>match g[i]? with
  |none=>False
  |some o=>match tW n o.dst,yl (Region.ready .any g listed) [i] with
   |true,true=>wG g o ρ (λρ=>opV P o ρ (λv y=>xI g i w y E (lP P n g Q p (listed.setIfInBounds i true) E (sj ρ o.dst v) y)) w)
    (λρ=>lP P n g Q p (listed.setIfInBounds i true) E (sj ρ o.dst undef) w)
   |_,_=>False
 | .two i p j q,listed,E,ρ,w=>match g[i]?,g[j]? with
  |some o,some u=>match tW n o.dst,tW n u.dst,yl (Region.ready .any g listed) [i,j] with
   |true,true,true=>
    (wG g o ρ (λρ=>opV P o ρ (λv y=>xI g i w y E (lP P n g Q p (listed.setIfInBounds i true) E (sj ρ o.dst v) y)) w)
     (λρ=>lP P n g Q p (listed.setIfInBounds i true) E (sj ρ o.dst undef) w))/\
    (wG g u ρ (λρ=>opV P u ρ (λv y=>xI g j w y E (lP P n g Q q (listed.setIfInBounds j true) E (sj ρ u.dst v) y)) w)
     (λρ=>lP P n g Q q (listed.setIfInBounds j true) E (sj ρ u.dst undef) w))
   |_,_,_=>False
  |_,_=>False
def Ia (P:Program)(n:Nat)(g:Array Oper)(y:RPlan)(Q:Fr->World->Prop)(ρ:Fr)(w:World):Prop:=
 lP P n g Q y (Array.replicate g.size false) [] ρ {w with drawn:=w.drawn+1}

section
variable {ops:Array Oper} {Q:Exit->Act->World->Prop}
def Closed (y:Array Oper)(g:Array Bool):Prop:=
 ∀(k:Nat) (o:Oper),y[k]? =some o->g.getD k false=true-> ∀e∈o.after,Region.binds .any e=true->g.getD e.on false=true
def oY (P:Program)(g:Array Oper)(Q:Exit->Act->World->Prop)(E:Nat->World->World->Prop):Nat->Array Bool->Act->World->Prop
 |0,listed,a,w=>Region.ready .any g listed= []/\Q .normal a w
 |f+1,listed,a,w=>(Region.ready .any g listed= []->Q .normal a w)/\
  ∀i∈Region.ready .any g listed,wpOp P g Q i (λI y=>E i w y/\oY P g Q E f (listed.setIfInBounds i true) I y) a w
theorem ux {E:Nat->World->World->Prop}: ∀(f:Nat) (g:Array Bool) (a:Act) (w:World),oY P ops Q E f g a w->wpAny P .any ops Q f g a w
 |0,_,_,_,h=>h
 |f+1,_,_,_,h=>⟨h.1,λi hi=>wpOp_mono (λ_ _ y=>ux f _ _ _ y.2) (h.2 i hi)⟩
theorem sN {U O':Nat->World->World->Prop}(y: ∀j w E,O' j w E->U j w E): ∀(f:Nat) (g:Array Bool) (a:Act) (w:World),oY P ops Q O' f g a w->oY P ops Q U f g a w
 |0,_,_,_,h=>h
 |f+1,_,_,_,h=>⟨h.1,λi hi=>wpOp_mono (λ_ _ I=>⟨y _ _ _ I.1,sN y f _ _ _ I.2⟩) (h.2 i hi)⟩

theorem Closed.set {g:Array Bool}{j:Nat}(hc:Closed ops g)(W:j∈Region.ready .any ops g):Closed ops (g.setIfInBounds j true):=by
 intro k o I O e U hb
 by_cases E:j=k
 ·subst E
  obtain⟨_,o',y,V⟩:=mem_ready.1 W
  rw[I] at y
  cases y
  exact getD_set_true (V e U hb)
 ·rw[getD_set_ne false E] at O
  exact getD_set_true (hc k o I O e U hb)
theorem rz {g:Array Bool}(hc:Closed ops g){i:Nat}: ∀(f j:Nat) {o:Oper},ops[j]? =some o->
 (∀e∈o.after,Region.binds .any e=true->g.getD e.on false=true)->oZ ops f j i=true->g.getD i false=true
 |0,_,_,_,_,h=>by cases h
 |f+1,j,o,ho,hall,h=>by
  simp only[oZ,ho] at h
  obtain⟨e,U,h⟩:=Array.any_eq_true'.1 h
  simp only[Bool.and_eq_true,Bool.or_eq_true] at h
  obtain⟨hb,h⟩:=h
  have E:=hall e U hb
  rcases h with h|h
  ·rw[<-Nat.eq_of_beq_eq_true h];exact E
  ·cases y:ops[e.on]? with
   |none=>
    cases f with
    |zero=>cases h
    |succ f=>simp[oZ,y] at h
   |some o'=>exact rz hc f e.on y (λe' O I=>hc e.on o' y E e' O I) h
theorem E7 {g:Array Bool}{i:Nat}(h:g.getD i true=false):g.getD i false=false:=by
 rcases Nat.lt_or_ge i g.size with y|y
 ·simp[y] at h⊢;exact h
 ·simp[Array.getElem?_eq_none y] at h

theorem Dw {S:World->Prop}{O O':Nat->World->World->Prop}{i:Nat}{U:Oper}{v:Value}(hi:ops[i]? =some U)(b8: ∀(j:Nat) (o:Oper) cs b,ops[j]? =some o->o.op≠ .select cs b)(e2: ∀c a w,¬ Q (.panic c) a w)(c4: ∀j w E,O' j w E->O j w E)(b7: ∀w,O i w w)(e7: ∀j w E,oZ ops ops.size j i=false->O' j w E->S w->S E):
 ∀(V:Nat) (g:Array Bool) (a:Act) (w:World),Closed ops g->
  (∀j I,ops[j]? =some I->j≠i->g.getD j true=false->(∀e∈I.after,Region.binds .any e=true->e.on≠i)->U.apart ops I=true)->
  i∈Region.ready .any ops g->YieldsIf P ops S U v a->S w->
  oY P ops Q O' V (g.setIfInBounds i true) (a.put U.dst v) w->oY P ops Q O (V+1) g a w:=by
 intro V
 induction V with
 |zero=>
  intro g a w _ _ hr b4 hs H
  refine⟨λh=>(by rw[h] at hr;cases hr),λj W=>?_⟩
  by_cases y:j=i
  ·subst y;exact b4.wpOp hi hs ⟨b7 w,H⟩
  ·have:=ready_mono W y
   rw[H.1] at this
   cases this
 |succ V e3=>
  intro g a w hc b6 hr b4 hs H
  refine⟨λh=>(by rw[h] at hr;cases hr),λj W=>?_⟩
  by_cases y:j=i
  ·subst y;exact b4.wpOp hi hs ⟨b7 w,sN c4 _ _ _ _ H⟩
  ·have a7:=H.2 j (ready_mono W y)
   obtain⟨b9,I,a6,c1⟩:=mem_ready.1 W
   have b5:=E7 (mem_ready.1 hr).1
   have c8: ∀e∈I.after,Region.binds .any e=true->e.on≠i:=λe e0 hb d0=>by
    have a7:=c1 e e0 hb
    rw[d0,b5] at a7
    cases a7
   have d2:oZ ops ops.size j i=false:=by
    cases d3:oZ ops ops.size j i with
    |false=>rfl
    |true=>rw[rz hc _ _ a6 c1 d3] at b5;cases b5
   have e5:=wpOp_putIf a6 (b6 j I a6 y b9 c8) (λcs b=>b8 i U cs b hi) (λcs b=>b8 j I cs b a6) (λc a w e4=>(e2 _ _ _ e4).elim) b4 a7
   have c5: ∀k ok,ops[k]? =some ok->k≠i->(g.setIfInBounds j true).getD k true=false->
    (∀e∈ok.after,Region.binds .any e=true->e.on≠i)->U.apart ops ok=true:=λk ok e6 c9 c3 d1=>by
    refine b6 k ok e6 c9 ?_ d1
    by_cases c2:j=k
    ·subst c2;exact b9
    ·rw[getD_set_ne true c2] at c3;exact c3
   refine wpOp_mono (λe1 E b3=>⟨c4 _ _ _ b3.2.1,e3 (g.setIfInBounds j true) e1 E (hc.set W) c5 (ready_mono hr (Ne.symm y)) b3.1 (e7 j w E d2 b3.2.1 hs) ?_⟩) e5
   rw[Array.setIfInBounds_comm _ _ y]
   exact b3.2.2
end

theorem sP {g:Array Oper}{o:Oper}{n:Nat}{a:Act}{ρ:Fr}{I U:Fr->Prop}(hr:RelF n a ρ)(h:wG g o ρ I U):
 (Region.wanted o (yielded g a.tmps)=true/\I ρ)\/(Region.wanted o (yielded g a.tmps)=false/\U ρ):=by
 unfold wG at h
 split at h
 ·rename_i y;exact .inl ⟨by simp[Region.wanted,y],h⟩
 ·rename_i j E y
  split at h
  ·exact h.elim
  ·rename_i t ht
   have O:Region.wanted o (yielded g a.tmps)=isB E (ρ t):=by rw[sO y ht,hr.get]
   split at h
   ·rename_i b hb
    have V: ∀z,b=z->upd ρ t (.bool z)=ρ:=λz hz=>by subst hz;rw[<-hb];exact sA ρ t
    rw[O,hb]
    cases b<;>cases E<;>simp only[V _ rfl] at h
    ·exact .inl ⟨rfl,h⟩
    ·exact .inr ⟨rfl,h⟩
    ·exact .inr ⟨rfl,h⟩
    ·exact .inl ⟨rfl,h⟩
   ·rename_i vs hb
    exact .inr ⟨by rw[O,hb];rfl,h⟩
   ·exact h.elim
theorem tU: ∀ {a b:List Nat},yl a b=true->a=b
 | [],[],_=>rfl
 |a::ys,b::bs,h=>by
  simp only[yl] at h
  cases hb:Nat.beq a b<;>rw[hb] at h
  ·cases h
  ·rw[Nat.eq_of_beq_eq_true hb,tU h]
 | [],_::_,h=>by cases h
 |_::_,[],h=>by cases h
theorem rh: ∀ {a:List Nat} {b:Nat},ya a b=true->b∈a
 | [],_,h=>by cases h
 |a::ys,b,h=>by
  simp only[ya] at h
  cases hb:Nat.beq a b<;>rw[hb] at h
  ·exact List.mem_cons_of_mem _ (rh h)
  ·rw[Nat.eq_of_beq_eq_true hb];exact List.mem_cons_self
def ObE (g:Array Oper)(I:Hj)(j:Nat)(w y:World):Prop:= ∀i a n,(i,a,n)∈I->oZ g g.size j i=false->SameC w y a n
theorem tG {I:Array Oper}{j:Nat}{w W:World}{K:Prop}: ∀ {V:Hj},xI I j w W V K->ObE I V j w W/\K
 | [],h=>⟨λ_ _ _ g=>(by cases g),h⟩
 |(i,a,n)::V,h=>by
  simp only[xI] at h
  cases hb:oZ I I.size j i with
  |true=>
   rw[hb] at h
   obtain⟨O,U⟩:=tG h
   refine⟨λb3 a7 a6 g y=>?_,U⟩
   cases g with
   |head=>rw[hb] at y;cases y
   |tail _ g=>exact O _ _ _ g y
  |false=>
   rw[hb] at h
   obtain⟨O,U⟩:=tG h.2
   refine⟨λb3 a7 a6 g y=>?_,U⟩
   cases g with
   |head=>exact h.1
   |tail _ g=>exact O _ _ _ g y
theorem ObE.refl {g:Array Oper}{y:Hj}(j:Nat)(w:World):ObE g y j w w:=λ_ _ _ _ _ _ _=>rfl

theorem ze {n:Nat}{y:Array Oper}{Q:gd}(hs:Region.noSelect y=true)(e8: ∀c ρ w,¬ Q (.panic c) ρ w):
 ∀(b8:RPlan) (g:Array Bool) (I:Hj) (a:Act) (ρ:Fr) (w:World) (f:Nat),RelF n a ρ->Closed y g->b8.depth<=f->
  lP P n y (Q .normal) b8 g I ρ w->oY P y (na n Q) (ObE y I) f g a w:=by
 have c4: ∀c a w,¬ na n Q (.panic c) a w:=λc a w ⟨ρ,_,h⟩=>e8 c ρ w h
 have c1: ∀(i:Nat) (o:Oper) (I:Hj) (g:Array Bool) (a:Act) (ρ:Fr) (w:World) (f:Nat) (p:RPlan),y[i]? =some o->RelF n a ρ->tW n o.dst=true->
  (∀(a:Act) (ρ:Fr) (w:World),RelF n a ρ->lP P n y (Q .normal) p (g.setIfInBounds i true) I ρ w->oY P y (na n Q) (ObE y I) f (g.setIfInBounds i true) a w)->
  (wG y o ρ (λρ=>opV P o ρ (λv b3=>xI y i w b3 I (lP P n y (Q .normal) p (g.setIfInBounds i true) I (sj ρ o.dst v) b3)) w)
   (λρ=>lP P n y (Q .normal) p (g.setIfInBounds i true) I (sj ρ o.dst undef) w))->
  wpOp P y (na n Q) i (λd0 b3=>ObE y I i w b3/\oY P y (na n Q) (ObE y I) f (g.setIfInBounds i true) d0 b3) a w:=by
  intro i o I g a ρ w f p U hr hd b4 h
  have b5: ∀k,o.dst=some k->k<n:=λk O=>by rw[O] at hd;simpa[tW,Nat.blt_eq] using hd
  unfold wpOp
  simp only[U]
  rcases sP hr h with ⟨a7,h⟩|⟨a7,h⟩
  ·rw[if_pos a7]
   refine .inl (Oper.wp_mono (λd0 b3 ⟨v,f1,O⟩=>?_) (xu hr h))
   subst f1
   obtain⟨e9,f3⟩:=tG O
   exact⟨e9,b4 _ _ _ (hr.put o.dst v b5) f3⟩
  ·rw[if_neg (by simp[a7])]
   exact⟨ObE.refl i w,b4 _ _ _ (hr.put o.dst undef b5) h⟩
 intro b8
 induction b8 with
 |done=>
  intro g I a ρ w f hr _ _ h
  simp only[lP] at h
  split at h
  ·rename_i W
   cases f with
   |zero=>exact⟨W,ρ,hr,h⟩
   |succ f=>exact⟨λ_=>⟨ρ,hr,h⟩,λi hi=>(by rw[W] at hi;cases hi)⟩
  ·exact h.elim
 |pure i p b4=>
  intro g I a ρ w f hr hc V h
  obtain⟨f,rfl⟩: ∃m,f=m+1:=⟨f - 1,by simp only[RPlan.depth] at V;omega⟩
  simp only[lP] at h
  split at h
  ·exact h.elim
  ·rename_i o U
   split at h
   ·rename_i hd b7 a6
    have b5: ∀k,o.dst=some k->k<n:=λk O=>by rw[O] at hd;simpa[tW,Nat.blt_eq] using hd
    have a6:=rh a6
    have go: ∀v,YieldsIf P y (λ_=>True) o v a->lP P n y (Q .normal) p (g.setIfInBounds i true) I (sj ρ o.dst v) w->oY P y (na n Q) (ObE y I) (f+1) g a w:=
     λv f4 b6=>Dw (S:=λ_=>True) U (Region.noSelect_spec hs) c4 (λ_ _ _ h=>h) (λw=>ObE.refl i w) (λ_ _ _ _ _ _=>trivial) f g a w hc
      (Region.free_spec U b7) a6 f4 trivial (b4 _ _ _ _ _ _ (hr.put o.dst v b5) (hc.set a6) (by simp only[RPlan.depth] at V;omega) b6)
    rcases sP hr h with ⟨a7,h⟩|⟨a7,h⟩
    ·obtain⟨v,O,c2⟩:=Eu h
     have c5:a.eval=rd ρ:=funext hr.eval
     exact go v (.inl ⟨a7,λw _=>by rw[c5];exact c2 w⟩) O
    ·exact go undef (.inr ⟨a7,rfl⟩) h
   ·exact h.elim
 |load i p b4=>
  intro g I a ρ w f hr hc V h
  obtain⟨f,rfl⟩: ∃m,f=m+1:=⟨f - 1,by simp only[RPlan.depth] at V;omega⟩
  simp only[lP] at h
  split at h
  ·exact h.elim
  ·rename_i o U
   split at h
   ·rename_i hd b7 a6
    have b5: ∀k,o.dst=some k->k<n:=λk O=>by rw[O] at hd;simpa[tW,Nat.blt_eq] using hd
    have a6:=rh a6
    split at h
    ·rename_i t x e6
     split at h
     ·rename_i c3 d2
      split at h
      ·rename_i b9
       have b9:0<c3.size:=by simpa[Nat.blt_eq] using b9
       have c5:a.eval=rd ρ:=funext hr.eval
       rcases sP hr h with ⟨a7,h⟩|⟨a7,h⟩
       ·split at h
        ·rename_i d1 d3
         obtain⟨v,O,c2⟩:=CW d2 b9 h
         refine Dw (S:=λb3=>SameC w b3 d1 c3.size) (O':=ObE y ((i,d1,c3.size)::I)) U (Region.noSelect_spec hs) c4
          (λ_ _ _ h i a n f2=>h i a n (List.mem_cons_of_mem _ f2)) (λw=>ObE.refl i w) (λj f5 f6 e5 U c9=>c9.trans (U _ _ _ List.mem_cons_self e5)) f g a w hc
          (Region.free_spec U b7) a6 (v:=v) (.inl ⟨a7,λb3 c9=>?_⟩) (λ_ _=>rfl) (b4 _ _ _ _ _ _ (hr.put o.dst v b5) (hc.set a6) (by simp only[RPlan.depth] at V;omega) O)
         rw[c5]
         simp only[execOp,e6]
         refine aU ?_
         rw[d3]
         exact c2 b3 c9
        ·exact h.elim
       ·exact Dw (S:=λ_=>True) (v:=undef) U (Region.noSelect_spec hs) c4 (λ_ _ _ h=>h) (λw=>ObE.refl i w) (λ_ _ _ _ _ _=>trivial) f g a w hc
         (Region.free_spec U b7) a6 (.inr ⟨a7,rfl⟩) trivial (b4 _ _ _ _ _ _ (hr.put o.dst undef b5) (hc.set a6) (by simp only[RPlan.depth] at V;omega) h)
      ·exact h.elim
     ·exact h.elim
    ·exact h.elim
   ·exact h.elim
 |one i p b4=>
  intro g I a ρ w f hr hc V h
  obtain⟨f,rfl⟩: ∃m,f=m+1:=⟨f - 1,by simp only[RPlan.depth] at V;omega⟩
  simp only[lP] at h
  split at h
  ·exact h.elim
  ·rename_i o U
   split at h
   ·rename_i hd W
    have W:=tU W
    refine⟨λh0=>(by rw[W] at h0;cases h0),λj c8=>?_⟩
    have e0:j=i:=by rw[W] at c8;simpa using c8
    subst e0
    exact c1 j o I g a ρ w f p U hr hd (λa ρ w hr b6=>b4 _ _ _ _ _ _ hr (hc.set c8) (by simp only[RPlan.depth] at V;omega) b6) h
   ·exact h.elim
 |two i p j q e2 e4=>
  intro g I a ρ w f hr hc V h
  obtain⟨f,rfl⟩: ∃m,f=m+1:=⟨f - 1,by simp only[RPlan.depth] at V;omega⟩
  simp only[lP] at h
  split at h
  ·rename_i o u U f0
   split at h
   ·rename_i e7 e1 W
    have W:=tU W
    refine⟨λh0=>(by rw[W] at h0;cases h0),λk O=>?_⟩
    have e3:k=i\/k=j:=by rw[W] at O;simpa using O
    rcases e3 with rfl|rfl
    ·exact c1 k o I g a ρ w f p U hr e7 (λa ρ w hr b6=>e2 _ _ _ _ _ _ hr (hc.set O) (by simp only[RPlan.depth] at V;omega) b6) h.1
    ·exact c1 k u I g a ρ w f q f0 hr e1 (λa ρ w hr b6=>e4 _ _ _ _ _ _ hr (hc.set O) (by simp only[RPlan.depth] at V;omega) b6) h.2
   ·exact h.elim
  ·exact h.elim

theorem zI {n id:Nat}{g:Array Oper}{y:RPlan}{Q:gd}{ρ:Fr}{w:World}(I:P.follows .mixedOrders=true)(hs:Region.noSelect g=true)(O: ∀c ρ w,¬ Q (.panic c) ρ w)(hd:Nat.ble y.depth g.size=true)(h:Ia P n g y (Q .normal) ρ w):WpF P n (.region id g true) Q ρ w:=by
 intro a hr
 refine wp_region_any I (ux _ _ _ _ (ze hs O y _ [] a ρ _ _ hr ?_ (Nat.le_of_ble_eq_true hd) h))
 intro k o _ E
 simp only[Array.getD_eq_getD_getElem?,Array.getElem?_replicate] at E
 split at E<;>cases E

end Go.Proofs.YtendaipfdnhnaaaGreatDoor


namespace Go.Proofs.YtendaipfdnhnaaaGreatDoor
variable {P:Program}

abbrev yO:STy->Type->Type
 | .bool,R=>Bool->R
 | .int _,R=>Int->R
 | .str,R=>ByteArray->R
 | .ptr,R=>Option Addr->R
 | .slice,R=>Option Addr->Nat->Nat->R
 | .map,R=>Option Nat->R
 | .any,R=>Value->R
 | .loc,R=>Nat->R
abbrev yP:List STy->Type->Type
 | [],R=>R
 |t::ts,R=>yO t (yP ts R)
abbrev zT:CTy->Type->Type
 | .s t,R=>yO t R
 | .agg ts,R=>yP ts R
abbrev ng:List (Nat × CTy)->Type
 | []=>World->Prop
 |(_,t)::vs=>zT t (ng vs)

def apS:(t:STy)-> {R:Type}->yO t R->Value->(R->Prop)->Prop
 | .bool,_,F,v,k=>match v with| .bool b=>k (F b)|_=>False
 | .int i,_,F,v,k=>match v with
  | .int j m=>match decide (j=i) with|true=>k (F m)|false=>False
  |_=>False
 | .str,_,F,v,k=>match v with| .string s=>k (F s)|_=>False
 | .ptr,_,F,v,k=>match v with| .pointer q=>k (F q)|_=>False
 | .slice,_,F,v,k=>match v with| .slice q n c=>k (F q n c)|_=>False
 | .map,_,F,v,k=>match v with| .map q=>k (F q)|_=>False
 | .any,_,F,v,k=>k (F v)
 | .loc,_,F,v,k=>match v with| .pointer (some ⟨b,0,none⟩)=>k (F b)|_=>False
def apL:(ts:List STy)-> {R:Type}->yP ts R->List Value->(R->Prop)->Prop
 | [],_,F,vs,k=>match vs with| []=>k F|_::_=>False
 |t::ts,_,F,vs,k=>match vs with|v::vs=>apS t F v λg=>apL ts g vs k| []=>False
def apC:(t:CTy)-> {R:Type}->zT t R->Value->(R->Prop)->Prop
 | .s t,_,F,v,k=>apS t F v k
 | .agg ts,_,F,v,k=>match v with| .agg cs=>apL ts F cs.toList k|_=>False
def leaf:(vars:List (Nat × CTy))->ng vars->Fr->World->Prop
 | [],F,_,w=>F w
 |(i,t)::vs,F,ρ,w=>apC t F (ρ i) λg=>leaf vs g ρ w

def zR:(t:STy)-> {R:Type}->yO t R->(Value->R->Prop)->Prop
 | .bool,_,F,K=> ∀b,K (.bool b) (F b)
 | .int i,_,F,K=> ∀m,K (.int i m) (F m)
 | .str,_,F,K=> ∀s,K (.string s) (F s)
 | .ptr,_,F,K=> ∀q,K (.pointer q) (F q)
 | .slice,_,F,K=> ∀q n c,K (.slice q n c) (F q n c)
 | .map,_,F,K=> ∀q,K (.map q) (F q)
 | .any,_,F,K=> ∀v,K v (F v)
 | .loc,_,F,K=> ∀b,K (.pointer (some ⟨b,0,none⟩)) (F b)
def Eq:(ts:List STy)-> {R:Type}->yP ts R->(List Value->R->Prop)->Prop
 | [],_,F,K=>K [] F
 |t::ts,_,F,K=>zR t F λv g=>Eq ts g λvs f=>K (v::vs) f
def Er:(t:CTy)-> {R:Type}->zT t R->(Value->R->Prop)->Prop
 | .s t,_,F,K=>zR t F K
 | .agg ts,_,F,K=>Eq ts F λvs f=>K (.agg vs.toArray) f
def Gb:(vars:List (Nat × CTy))->ng vars->(Fr->World->Prop)->Prop
 | [],F,V=> ∀ρ w,F w=V ρ w
 |(i,t)::vs,F,V=>Er t F λv g=>Gb vs g λρ w=>V (upd ρ i v) w
theorem D7: ∀ {t:STy} {R:Type} {F:yO t R} {v:Value} {k:R->Prop} {K:Value->R->Prop},apS t F v k->zR t F K-> ∃f,k f/\K v f:=by
 intro t R F v k K h y
 cases t<;>simp only[apS] at h<;>simp only[zR] at y
 case int i=>
  split at h
  ·split at h
   ·rename_i hb;have:=of_decide_eq_true hb;subst this;exact⟨_,h,y _⟩
   ·exact h.elim
  ·exact h.elim
 case any=>exact⟨_,h,y _⟩
 case slice=>split at h<;>first|exact⟨_,h,y _ _ _⟩|exact h.elim
 all_goals (split at h<;>first|exact⟨_,h,y _⟩|exact h.elim)
theorem D8: ∀ {ts:List STy} {R:Type} {F:yP ts R} {vs:List Value} {k:R->Prop} {K:List Value->R->Prop},apL ts F vs k->Eq ts F K-> ∃f,k f/\K vs f
 | [],_,_,vs,_,_,h,g=>by
  cases vs with
  |nil=>exact⟨_,h,g⟩
  |cons v vs=>exact h.elim
 |t::ts,_,_,vs,_,K,h,g=>by
  cases vs with
  |nil=>exact h.elim
  |cons v vs=>
   obtain⟨I,E,y⟩:=D7 (t:=t) h g
   exact D8 (ts:=ts) (K:=λvs f=>K (v::vs) f) E y
theorem D9: ∀ {t:CTy} {R:Type} {F:zT t R} {v:Value} {k:R->Prop} {K:Value->R->Prop},apC t F v k->Er t F K-> ∃f,k f/\K v f:=by
 intro t R F v k K h y
 cases t with
 |s t=>exact D7 (t:=t) h y
 |agg ts=>
  simp only[apC] at h
  split at h
  ·rename_i cs
   obtain⟨f,I,E⟩:=D8 (ts:=ts) h y
   exact⟨f,I,by simpa using E⟩
  ·exact h.elim
theorem Hw: ∀ {y:List (Nat × CTy)} {F:ng y} {V:Fr->World->Prop},Gb y F V-> ∀ρ w,leaf y F ρ w->V ρ w
 | [],_,_,g,ρ,w,h=>by rw[<-g ρ w];exact h
 |(i,t)::vs,_,V,g,ρ,w,h=>by
  obtain⟨O,I,E⟩:=D9 (t:=t) h g
  have:=Hw E ρ w I
  rwa [sA] at this

def mkS:(t:STy)-> {R:Type}->(Value->R)->yO t R
 | .bool,_,k=>λb=>k (.bool b)
 | .int i,_,k=>λm=>k (.int i m)
 | .str,_,k=>λs=>k (.string s)
 | .ptr,_,k=>λq=>k (.pointer q)
 | .slice,_,k=>λq n c=>k (.slice q n c)
 | .map,_,k=>λq=>k (.map q)
 | .any,_,k=>λv=>k v
 | .loc,_,k=>λb=>k (.pointer (some ⟨b,0,none⟩))
def mkL:(ts:List STy)-> {R:Type}->(List Value->R)->yP ts R
 | [],_,k=>k []
 |t::ts,_,k=>mkS t λv=>mkL ts λvs=>k (v::vs)
def mkC:(t:CTy)-> {R:Type}->(Value->R)->zT t R
 | .s t,_,k=>mkS t k
 | .agg ts,_,k=>mkL ts λvs=>k (.agg vs.toArray)
def A2:(vars:List (Nat × CTy))->(Fr->World->Prop)->ng vars
 | [],V=>λw=> ∀ρ,V ρ w
 |(i,t)::vs,V=>mkC t λv=>A2 vs λρ w=>ρ i=v->V ρ w

theorem CQ {t:STy}{R:Type}{k:Value->R}{K:Value->R->Prop}(h: ∀v,K v (k v)):zR t (mkS t k) K:=by
 cases t<;>simp only[zR,mkS]<;>intros<;>exact h _
theorem CR: ∀ {ts:List STy} {R:Type} {k:List Value->R} {K:List Value->R->Prop},(∀vs,K vs (k vs))->Eq ts (mkL ts k) K
 | [],_,_,_,h=>h []
 |t::_,_,_,_,h=>CQ (t:=t) λ_=>CR λ_=>h _
theorem CT {t:CTy}{R:Type}{k:Value->R}{K:Value->R->Prop}(h: ∀v,K v (k v)):Er t (mkC t k) K:=by
 cases t with
 |s t=>exact CQ h
 |agg ts=>exact CR λvs=>h _
theorem pr: ∀ {g:List (Nat × CTy)} {V:Fr->World->Prop} (ρ:Fr) (w:World),leaf g (A2 g V) ρ w->V ρ w
 | [],_,ρ,_,h=>h ρ
 |(i,t)::vs,V,ρ,w,h=>by
  obtain⟨f,E,y⟩:=D9 (t:=t) (K:=λv f=>f=A2 vs λρ w=>ρ i=v->V ρ w) h (CT λv=>rfl)
  subst y
  exact pr ρ w E rfl

theorem vg {t:STy}{R:Type}{A:yO t R}{K:Value->R->Prop}(h: ∀v f,(∀j:R->Prop,j f->apS t A v j)->K v f):zR t A K:=by
 cases t<;>simp only[zR]<;>intros<;>refine h _ _ λj g=>?_<;>simp only[apS,decide_true]<;>exact g
theorem vh: ∀ {ts:List STy} {R:Type} {A:yP ts R} {K:List Value->R->Prop},(∀v f,(∀j:R->Prop,j f->apL ts A v j)->K v f)->Eq ts A K
 | [],_,_,_,h=>h [] _ λ_ g=>g
 |t::_,_,_,_,h=>vg (t:=t) λv _ hv=>vh λvs _ y=>h (v::vs) _ λj g=>hv _ (y j g)
theorem BM {t:CTy}{R:Type}{A:zT t R}{K:Value->R->Prop}(h: ∀v f,(∀j:R->Prop,j f->apC t A v j)->K v f):Er t A K:=by
 cases t with
 |s t=>exact vg h
 |agg ts=>exact vh λvs f hv=>h _ _ λj g=>by simpa[apC] using hv j g

def leS:(t:STy)-> {R:Type}->yO t R->yO t R->(R->R->Prop)->Prop
 | .bool,_,A,B,k=> ∀b,k (A b) (B b)
 | .int _,_,A,B,k=> ∀m,k (A m) (B m)
 | .str,_,A,B,k=> ∀s,k (A s) (B s)
 | .ptr,_,A,B,k=> ∀q,k (A q) (B q)
 | .slice,_,A,B,k=> ∀q n c,k (A q n c) (B q n c)
 | .map,_,A,B,k=> ∀q,k (A q) (B q)
 | .any,_,A,B,k=> ∀v,k (A v) (B v)
 | .loc,_,A,B,k=> ∀b,k (A b) (B b)
def leL:(ts:List STy)-> {R:Type}->yP ts R->yP ts R->(R->R->Prop)->Prop
 | [],_,A,B,k=>k A B
 |t::ts,_,A,B,k=>leS t A B λg B'=>leL ts g B' k
def leC:(t:CTy)-> {R:Type}->zT t R->zT t R->(R->R->Prop)->Prop
 | .s t,_,A,B,k=>leS t A B k
 | .agg ts,_,A,B,k=>leL ts A B k
def leV:(vars:List (Nat × CTy))->ng vars->ng vars->Prop
 | [],A,B=> ∀w,A w->B w
 |(_,t)::vs,A,B=>leC t A B λg B'=>leV vs g B'

theorem F9 {t:STy}{R:Type}{A B:yO t R}{v:Value}{k:R->Prop}{k2:R->R->Prop}{j:R->Prop}(h:apS t A v k)(E:leS t A B k2)(y: ∀a b,k2 a b->k a->j b):apS t B v j:=by
 cases t with
 |int i=>
  cases v with
  |int l m=>
   simp only[apS] at h⊢
   cases hb:decide (l=i) with
   |true=>simp only[hb] at h⊢;exact y _ _ (E _) h
   |false=>simp only[hb] at h
  |_=>exact h.elim
 |any=>exact y _ _ (E _) h
 |slice=>
  simp only[apS] at h
  simp only[apS]
  split at h<;>first|exact y _ _ (E _ _ _) h|exact h.elim
 |_=>
  simp only[apS] at h
  simp only[apS]
  split at h<;>first|exact y _ _ (E _) h|exact h.elim
theorem Ga: ∀ {ts:List STy} {R:Type} {A B:yP ts R} {vs:List Value} {k:R->Prop} {k2:R->R->Prop} {j:R->Prop},apL ts A vs k->leL ts A B k2->(∀a b,k2 a b->k a->j b)->apL ts B vs j
 | [],_,_,_,vs,_,_,_,h,g,hj=>by
  cases vs with
  |nil=>exact hj _ _ g h
  |cons v vs=>exact h.elim
 |t::ts,_,_,_,vs,_,_,_,h,g,hj=>by
  cases vs with
  |nil=>exact h.elim
  |cons v vs=>exact F9 (t:=t) h g λ_ _ y E=>Ga E y hj
theorem Ii {t:CTy}{R:Type}{A B:zT t R}{v:Value}{k:R->Prop}{k2:R->R->Prop}{j:R->Prop}(h:apC t A v k)(E:leC t A B k2)(y: ∀a b,k2 a b->k a->j b):apC t B v j:=by
 cases t with
 |s t=>exact F9 (t:=t) h E y
 |agg ts=>
  simp only[apC] at h⊢
  split at h
  ·exact Ga (ts:=ts) h E y
  ·exact h.elim
theorem vU: ∀ {y:List (Nat × CTy)} {A B:ng y} {ρ:Fr} {w:World},leV y A B->leaf y A ρ w->leaf y B ρ w
 | [],_,_,_,_,g,h=>g _ h
 |(_,t)::_,_,_,_,_,g,h=>Ii (t:=t) h g λ_ _ E I=>vU E I

theorem qw {t:STy}{R:Type}{A:yO t R}{K g:Value->R->Prop}(y: ∀v f,K v f->g v f)(h:zR t A K):zR t A g:=by
 cases t<;>simp only[zR] at h⊢ <;>intros<;>exact y _ _ (h ..)
theorem FU {t:STy}{R:Type}{A:yO t R}{y:Value->R}{k:R->R->Prop}(h:zR t A λv E=>k E (y v)):leS t A (mkS t y) k:=by
 cases t<;>exact h
theorem FV: ∀ {ts:List STy} {R:Type} {A:yP ts R} {y:List Value->R} {k:R->R->Prop},(Eq ts A λv E=>k E (y v))->leL ts A (mkL ts y) k
 | [],_,_,_,_,h=>h
 |t::ts,_,_,_,_,h=>by
  refine FU (t:=t) ?_
  exact qw (t:=t) (λ_ _ I=>FV I) h
theorem HX {t:CTy}{R:Type}{A:zT t R}{y:Value->R}{k:R->R->Prop}(h:Er t A λv E=>k E (y v)):leC t A (mkC t y) k:=by
 cases t with
 |s t=>exact FU h
 |agg ts=>exact FV h
theorem Ai: ∀ {g:List (Nat × CTy)} {B:ng g} {V:Fr->World->Prop},(∀ρ w,leaf g B ρ w->V ρ w)->leV g B (A2 g V)
 | [],_,_,h=>λw hb ρ=>h ρ w hb
 |(i,t)::_,_,_,h=>HX (t:=t) (BM λv f E=>Ai λρ w y hv=>h ρ w (by subst hv;exact E _ y))

def tH (l:Nat)(K:Fr->World->Prop)(Q:gd):gd
 | .goto l',ρ,w=>match Nat.beq l' l with
  |true=>K ρ w
  |false=>False
 |e,ρ,w=>Q e ρ w
def JumpF (P:Program)(n:Nat)(c rest:Code)(Q:gd)(ρ:Fr)(w:World):Prop:=
 ∀a,RelF n a ρ-> ∀(b:Frame) (k:List Item) (cs:List Frame),
  ∃e y g,na n Q e y g/\Arrives P (lone (b.at a (.code rest:: .inScope c::k)) cs w) b k cs e y g
theorem xJ {n l:Nat}{c rest:Code}{Q:gd}(b3:findLabel c l=some rest){m:Machine}{b:Frame}{k:List Item}{cs:List Frame}{e:Exit}{y:Act}{E:World}{I:Fr}(U:RelF n y I)(g:tH l (JumpF P n c rest Q) Q e I E)(O:Arrives P m b (.inScope c::k) cs e y E): ∃e W V,na n Q e W V/\Arrives P m b k cs e W V:=by
 cases e with
 |normal=>exact⟨.normal,y,E,⟨I,U,g⟩,Steps.trans O (.one step_inScope)⟩
 |exit id=>exact⟨.exit id,y,E,⟨I,U,g⟩,λb8 b7=>O b8 (by simp[exitTo,b7])⟩
 |goto c1=>
  simp only[tH] at g
  split at g
  ·rename_i hb
   have b6:=Nat.eq_of_beq_eq_true hb
   subst b6
   obtain⟨b4,b5,b9,a7,a6⟩:=g y U b k cs
   exact⟨b4,b5,b9,a7,.of_steps (O _ (by simp[gotoIn,b3])) a6⟩
  ·exact g.elim
 |ret=>exact⟨_,y,E,⟨I,U,g⟩,O⟩
 |panic ch=>exact⟨_,y,E,⟨I,U,g⟩,O⟩
 |outgrown=>exact⟨_,y,E,⟨I,U,g⟩,O⟩
theorem WpF.scopeL {n l:Nat}{c rest:Code}{Q:gd}{ρ:Fr}{w:World}(O:findLabel c l=some rest)(h:WpF P n c (tH l (JumpF P n c rest Q) Q) ρ w):WpF P n (.scope c) Q ρ w:=by
 intro a hr b k cs
 obtain⟨e,b3,a7,⟨b4,I,W⟩,y⟩:=h a hr b (.inScope c::k) cs
 obtain⟨U,V,a6,E,g⟩:=xJ O I W y
 exact⟨U,V,a6,E,.of_steps (.one step_scope) g⟩
theorem JumpF.unfold {n l:Nat}{c rest:Code}{Q:gd}{ρ:Fr}{w:World}(E:findLabel c l=some rest)(h:WpF P n rest (tH l (JumpF P n c rest Q) Q) ρ w):JumpF P n c rest Q ρ w:=by
 intro a hr b k cs
 obtain⟨e,U,O,⟨V,y,I⟩,g⟩:=h a hr b (.inScope c::k) cs
 exact xJ E y I g

def qS:(t:STy)-> {ι R R':Type}->((ι->R)->R')->(ι->yO t R)->yO t R'
 | .bool,_,_,_,k,F=>λb=>k λi=>F i b
 | .int _,_,_,_,k,F=>λb=>k λi=>F i b
 | .str,_,_,_,k,F=>λb=>k λi=>F i b
 | .ptr,_,_,_,k,F=>λb=>k λi=>F i b
 | .slice,_,_,_,k,F=>λq n c=>k λi=>F i q n c
 | .map,_,_,_,k,F=>λb=>k λi=>F i b
 | .any,_,_,_,k,F=>λb=>k λi=>F i b
 | .loc,_,_,_,k,F=>λb=>k λi=>F i b
def qL:(ts:List STy)-> {ι R R':Type}->((ι->R)->R')->(ι->yP ts R)->yP ts R'
 | [],_,_,_,k,F=>k F
 |t::ts,_,_,_,k,F=>qS t (λg=>qL ts k g) F
def qC:(t:CTy)-> {ι R R':Type}->((ι->R)->R')->(ι->zT t R)->zT t R'
 | .s t,_,_,_,k,F=>qS t k F
 | .agg ts,_,_,_,k,F=>qL ts k F
def qV:(vs:List (Nat × CTy))-> {ι:Type}->(ι->Prop)->(ι->ng vs)->ng vs
 | [],_,C,F=>λw=> ∀i,C i->F i w
 |(_,t)::vs,_,C,F=>qC t (λg=>qV vs C g) F
def lfpV (vs:List (Nat × CTy))(B:ng vs->ng vs):ng vs:=qV vs (λX=>leV vs (B X) X) λX=>X
theorem HP {t:STy}{g R:Type}{k:(g->R)->R}{F:g->yO t R}{i:g}{k2:R->R->Prop}(h: ∀y,k2 (k y) (y i)):leS t (qS t k F) (F i) k2:=by
 cases t<;>simp only[leS,qS]<;>intros<;>exact h _
theorem HQ: ∀ {ts:List STy} {g R:Type} {k:(g->R)->R} {F:g->yP ts R} {i:g} {k2:R->R->Prop},(∀y,k2 (k y) (y i))->leL ts (qL ts k F) (F i) k2
 | [],_,_,_,_,_,_,h=>h _
 |t::_,_,_,_,_,_,_,h=>HP (t:=t) λ_=>HQ h
theorem qC_le {t:CTy}{g R:Type}{k:(g->R)->R}{F:g->zT t R}{i:g}{k2:R->R->Prop}(h: ∀y,k2 (k y) (y i)):leC t (qC t k F) (F i) k2:=by
 cases t with
 |s t=>exact HP h
 |agg ts=>exact HQ h
theorem HO: ∀ {vs:List (Nat × CTy)} {g:Type} {C:g->Prop} {F:g->ng vs} {i:g},C i->leV vs (qV vs C F) (F i)
 | [],_,_,_,_,hc=>λ_ h=>h _ hc
 |(_,_)::_,_,_,_,_,hc=>qC_le λ_=>HO hc
def Ib:(vs:List (Nat × CTy))->(Fr->World->Prop)->Fr->ng vs
 | [],V,ρ=>λw=>V ρ w
 |(i,t)::vs,V,ρ=>mkC t λv=>Ib vs (λρ w=>V (upd ρ i v) w) ρ
theorem AL {t:STy}{R g:Type}{F:yO t R}{K:g->Value->R->Prop}(h: ∀i,zR t F (K i)):zR t F λv f=> ∀i,K i v f:=by
 cases t<;>simp only[zR] at h⊢ <;>intros<;>exact h _ ..
theorem AN: ∀ {ts:List STy} {R g:Type} {F:yP ts R} {K:g->List Value->R->Prop},(∀i,Eq ts F (K i))->Eq ts F λv f=> ∀i,K i v f
 | [],_,_,_,_,h=>h
 |t::ts,_,_,_,_,h=>qw (t:=t) (λ_ _ h=>AN h) (AL h)
theorem Fv {t:CTy}{R g:Type}{F:zT t R}{K:g->Value->R->Prop}(h: ∀i,Er t F (K i)):Er t F λv f=> ∀i,K i v f:=by
 cases t with
 |s t=>exact AL h
 |agg ts=>exact AN h
theorem yA: ∀ {ts:List STy} {R:Type} {A:yP ts R} {K g:List Value->R->Prop},(∀v f,K v f->g v f)->Eq ts A K->Eq ts A g
 | [],_,_,_,_,hk,h=>hk _ _ h
 |t::_,_,_,_,_,hk,h=>qw (t:=t) (λ_ _ h=>yA (λ_ _=>hk _ _) h) h
theorem Ea {t:CTy}{R:Type}{A:zT t R}{K g:Value->R->Prop}(y: ∀v f,K v f->g v f)(h:Er t A K):Er t A g:=by
 cases t with
 |s t=>exact qw (t:=t) y h
 |agg ts=>exact yA (λ_ _=>y _ _) h
theorem zS: ∀ {vs:List (Nat × CTy)} {F:ng vs} {V:Fr->World->Prop},(∀ρ,F=Ib vs V ρ)->Gb vs F V
 | [],_,_,h=>λρ w=>congrFun (h ρ) w
 |(i,t)::vs,F,V,h=>by
  have y: ∀ρ:Fr,Er t F λv f=>f=Ib vs (λρ w=>V (upd ρ i v) w) ρ:=λρ=>by
   rw[h ρ];exact CT λv=>rfl
  exact Ea (λv f g=>zS g) (Fv y)

inductive AC where
 |leaf (c:Code)
 |seq (x y:AC)
  |mark (K:Fr->World->Prop) (x:AC)
 |cond (t:Nat) (x y:AC)
 |block (id:Nat) (x:AC)
 |scope (x:AC)
 |loop (K:Fr->World->Prop) (c:Code)
  |given (F:(Fr->World->Prop)->Fr->World->Prop) (c:Code)
  |draw (pl:RPlan) (c:Code)
  |jump (l:Nat) (K:Fr->World->Prop) (x:AC)
  |no (c:Code)
 |cut (vs:List (Nat × CTy)) (F:ng vs) (x:AC)
 |loopB (vs:List (Nat × CTy)) (B:ng vs->ng vs) (c:Code) (x:ng vs->AC)
def AC.erase:AC->Code
 | .leaf c=>c
 | .seq x y=> .seq x.erase y.erase
 | .mark _ x=>x.erase
 | .cond t x y=> .cond (.tmp t) x.erase y.erase
 | .block id x=> .block id x.erase
 | .scope x=> .scope x.erase
 | .loop _ c=> .loop c
 | .given _ c=>c
 | .draw _ c=>c
 | .jump _ _ x=> .scope x.erase
 | .no c=>c
 | .cut _ _ x=>x.erase
 | .loopB _ _ c _=> .loop c
def drawA (P:Program)(n:Nat)(g:RPlan)(c:Code)(Q:Fr->World->Prop)(ρ:Fr)(w:World):Prop:=
 match c with
 | .region _ ops d=>match d with
  |true=>Ia P n ops g Q ρ w
  |false=>False
 |_=>False
def AA (g:RPlan):Code->Bool
 | .region _ ops d=>d && Region.noSelect ops && Nat.ble g.depth ops.size
 |_=>false
def vcA (P:Program)(n:Nat):AC->gd->Fr->World->Prop
 | .leaf c,Q,ρ,w=>vcC P n c Q ρ w
 | .seq x y,Q,ρ,w=>vcA P n x (m9 (vcA P n y Q) Q) ρ w
 | .mark K _,_,ρ,w=>K ρ w
 | .cond t x y,Q,ρ,w=>match ρ t with
  | .bool b=>match b with
   |true=>vcA P n x Q (upd ρ t (.bool true)) w
   |false=>vcA P n y Q (upd ρ t (.bool false)) w
  |_=>False
 | .block id x,Q,ρ,w=>vcA P n x (rZ id Q) ρ w
 | .scope x,Q,ρ,w=>vcA P n x (lR Q) ρ w
 | .loop K _,_,ρ,w=>K ρ w
 | .given F _,Q,ρ,w=>F (Q .normal) ρ w
 | .draw pl c,Q,ρ,w=>drawA P n pl c (Q .normal) ρ w
 | .jump l K x,Q,ρ,w=>vcA P n x (tH l K Q) ρ w
 | .no _,_,_,_=>False
 | .cut vs F _,_,ρ,w=>leaf vs F ρ w
 | .loopB vs B _ _,_,ρ,w=>leaf vs (lfpV vs B) ρ w
def wy (P:Program)(n:Nat):AC->gd->Prop
 | .leaf _,_=>True
 | .seq x y,Q=>wy P n x (m9 (vcA P n y Q) Q)/\wy P n y Q
 | .mark K x,Q=>wy P n x Q/\ ∀ρ w,K ρ w->vcA P n x Q ρ w
 | .cond _ x y,Q=>wy P n x Q/\wy P n y Q
 | .block id x,Q=>wy P n x (rZ id Q)
 | .scope x,Q=>wy P n x (lR Q)
 | .loop K c,Q=> ∀ρ w,K ρ w->LoopF P n c Q ρ w
 | .given F c,Q=> ∀ρ w,F (Q .normal) ρ w->WpF P n c Q ρ w
 | .jump l K x,Q=>wy P n x (tH l K Q)/\ ∃rest,findLabel x.erase l=some rest/\ ∀ρ w,K ρ w->JumpF P n x.erase rest Q ρ w
 | .draw pl c,Q=>P.follows .mixedOrders=true/\AA pl c=true/\ ∀c ρ w,¬ Q (.panic c) ρ w
 | .no _,_=>True
 | .cut vs F x,Q=>wy P n x Q/\Gb vs F (vcA P n x Q)
 | .loopB vs B c x,Q=> ∀X,(x X).erase=c/\wy P n (x X) (m9 (leaf vs X) Q)/\Gb vs (B X) (vcA P n (x X) (m9 (leaf vs X) Q))

theorem pO {n:Nat}: ∀(x:AC) {Q:gd} {ρ:Fr} {w:World},wy P n x Q->vcA P n x Q ρ w->WpF P n x.erase Q ρ w:=by
 intro x
 induction x with
 |leaf c=>exact λ_ h=>B5 c h
 |seq x y W V=>exact λE h=>WpF.seq (W E.1 h) (λ_ _ U=>V E.2 U)
 |mark K x I=>exact λE h=>I E.1 (E.2 _ _ h)
 |cond t x y W V=>
  intro Q ρ w E h
  unfold vcA at h
  split at h
  ·rename_i b hb
   refine WpF.cond hb ?_
   cases b with
   |true=>exact W E.1 h
   |false=>exact V E.2 h
  ·exact h.elim
 |block id x I=>exact λE h=>WpF.block (I E h)
 |scope x I=>exact λE h=>WpF.scope (I E h)
 |loop K c=>exact λE h=>LoopF.wp (E _ _ h)
 |given F c=>exact λE h=>E _ _ h
 |no c=>exact λ_ h=>h.elim
 |cut vs F x I=>exact λE h=>I E.1 (Hw E.2 _ _ h)
 |loopB vs B c x I=>
  intro Q ρ w E h
  refine LoopF.wp ?_
  have a6: ∀ρ w,leaf vs (B (A2 vs (LoopF P n c Q))) ρ w->LoopF P n c Q ρ w:=by
   intro ρ w hb
   refine LoopF.unfold (WpF.mono (Q:=m9 (leaf vs (A2 vs (LoopF P n c Q))) Q) ?_ ?_)
   ·have b5:=I _ (E (A2 vs (LoopF P n c Q))).2.1 (Hw (E _).2.2 ρ w hb)
    rwa [(E _).1] at b5
   ·intro e ρ w O
    cases e<;>first|exact pr _ _ O|exact O
  exact pr ρ w (vU (HO (C:=λX=>leV vs (B X) X) (F:=λX=>X) (Ai a6)) h)
 |jump l K x I=>
  intro Q ρ w ⟨E,rest,b3,a7⟩ h
  refine WpF.scopeL b3 (WpF.mono (I E h) λe ρ w O=>?_)
  cases e<;>first|exact O|skip
  simp only[tH] at O⊢
  split at O
  ·exact a7 _ _ O
  ·exact O.elim
 |draw b7 c=>
  intro Q ρ w ⟨b4,U,O⟩ h
  cases c<;>first|exact h.elim|skip
  rename_i id b6 d
  cases d
  ·exact h.elim
  ·simp only[AA,Bool.true_and,Bool.and_eq_true] at U
   exact zI b4 U.1 O U.2 h

theorem GP {n:Nat}{g:List (Nat × CTy)}{c:Code}{Q:gd}{L:ng g}(y:ng g->AC)(B:ng g->ng g)(W: ∀X,(y X).erase=c)(O: ∀X,wy P n (y X) (m9 (leaf g X) Q))(V: ∀X,Gb g (B X) (vcA P n (y X) (m9 (leaf g X) Q)))(a6: ∀X,leV g (B X) X->leV g L X): ∀ρ w,leaf g L ρ w->LoopF P n c Q ρ w:=by
 intro ρ w h
 have I: ∀ρ w,leaf g (B (A2 g (LoopF P n c Q))) ρ w->LoopF P n c Q ρ w:=by
  intro ρ w hb
  refine LoopF.unfold (WpF.mono (Q:=m9 (leaf g (A2 g (LoopF P n c Q))) Q) ?_ ?_)
  ·have U:=pO _ (O (A2 g (LoopF P n c Q))) (Hw (V _) ρ w hb)
   rwa [W] at U
  ·intro e ρ w E
   cases e<;>first|exact pr _ _ E|exact E
 exact pr ρ w (vU (a6 _ (Ai I)) h)

theorem jumpG {n l:Nat}{g:List (Nat × CTy)}{c rest:Code}{Q:gd}{L:ng g}(E:ng g->AC)(B:ng g->ng g)(O:findLabel c l=some rest)(a6: ∀X,(E X).erase=rest)(U: ∀X,wy P n (E X) (tH l (leaf g X) Q))(W: ∀X,Gb g (B X) (vcA P n (E X) (tH l (leaf g X) Q)))(a7: ∀X,leV g (B X) X->leV g L X): ∀ρ w,leaf g L ρ w->JumpF P n c rest Q ρ w:=by
 intro ρ w h
 have I: ∀ρ w,leaf g (B (A2 g (JumpF P n c rest Q))) ρ w->JumpF P n c rest Q ρ w:=by
  intro ρ w hb
  refine JumpF.unfold O (WpF.mono (Q:=tH l (leaf g (A2 g (JumpF P n c rest Q))) Q) ?_ ?_)
  ·have V:=pO _ (U (A2 g (JumpF P n c rest Q))) (Hw (W _) ρ w hb)
   rwa [a6] at V
  ·intro e ρ w y
   cases e<;>first|exact y|skip
   simp only[tH] at y⊢
   split at y
   ·exact pr _ _ y
   ·exact y.elim
 exact pr ρ w (vU (a7 _ (Ai I)) h)
theorem jumpK {n l:Nat}{c rest:Code}{Q:gd}{K:Fr->World->Prop}(g:AC)(I:findLabel c l=some rest)(V:g.erase=rest)(O:wy P n g (lR Q))(h: ∀ρ w,K ρ w->vcA P n g (lR Q) ρ w): ∀ρ w,K ρ w->JumpF P n c rest Q ρ w:=by
 intro ρ w U
 refine JumpF.unfold I (WpF.mono (Q:=lR Q) ?_ ?_)
 ·rw[<-V];exact pO _ O (h _ _ U)
 ·intro e ρ w E
  cases e<;>first|exact E|exact E.elim

def sel:List Nat->Code->Code
 | [],c=>c
 |0::p,.seq x _=>sel p x
 |1::p,.seq _ y=>sel p y
 |0::p,.cond _ x _=>sel p x
 |1::p,.cond _ _ y=>sel p y
 |0::p,.block _ x=>sel p x
 |0::p,.loop x=>sel p x
 |0::p,.scope x=>sel p x
 |_,_=> .skip
def Id:Nat->Nat->List Nat->List Nat
 |0,_,a=>a
 |f+1,n,a=>if n<=1 then a else Id f (n/2) (n%2::a)
def sb (n:Nat)(c:Code):Code:=sel (Id 500 n []) c
def m7 (g:Func):Code:=
 match g.body with
 |some c=>c
 |none=> .skip
def GF (P:Program):List ResultVar->Fr->World->(List Value->Prop)->Prop
 | [],_,_,K=>K []
 | .tmp t::rs,ρ,w,K=>GF P rs ρ w λvs=>K (ρ t::vs)
 | .cell t ty::rs,ρ,w,K=>match ρ t with
  | .pointer (some a)=>zo P ty a w λv=>GF P rs ρ w λvs=>K (v::vs)
  |_=>False
def GL:List Value->Value
 | [v]=>v
 |vs=> .tuple vs.toArray
def QF (P:Program)(rs:List ResultVar)(R:Ending->World->Prop):gd
 | .normal,ρ,w=>GF P rs ρ w λvs=>R (.returned (GL vs)) w
 | .ret,ρ,w=>GF P rs ρ w λvs=>R (.returned (GL vs)) w
 |_,_,_=>False
def fr0 (g:List Value):Fr:=λt=>g.getD t undef

theorem vI {n:Nat}{a:Act}{ρ:Fr}(hr:RelF n a ρ): ∀ {rs:List ResultVar} {w:World} {K:List Value->Prop},GF P rs ρ w K->
 ∃vs,K vs/\vs.length=rs.length/\(rs.mapM (m:=Sem) fun
  | .tmp t=>pure (a.tmps.getD t undef)
  | .cell x t=>do loadVar t (<-asAddr (a.tmps.getD x undef))).run P w= .ok vs w
 | [],w,_,h=>⟨[],h,rfl,rfl⟩
 | .tmp t::rs,w,K,h=>by
  obtain⟨vs,E,y,g⟩:=vI hr (rs:=rs) h
  refine⟨_,E,by simp[y],?_⟩
  simp only[List.mapM_cons,Sem.run_bind,hr.get]
  rw[show (pure (ρ t):Sem Value).run P w= .ok (ρ t) w from rfl]
  simp only[Result.andThen_ok]
  simp only[hr.get] at g
  rw[g]
  rfl
 | .cell t ty::rs,w,K,h=>by
  unfold GF at h
  split at h
  ·rename_i I O
   obtain⟨v,h,hv⟩:=xC h
   obtain⟨vs,E,y,g⟩:=vI hr (rs:=rs) h
   refine⟨_,E,by simp[y],?_⟩
   simp only[List.mapM_cons,Sem.run_bind,hr.get,O]
   rw[show (asAddr (.pointer (some I))).run P w= .ok I w from rfl]
   simp only[Result.andThen_ok,hv]
   simp only[hr.get] at g
   rw[g]
   rfl
  ·exact h.elim

theorem Fj {f:FuncId}{g:Func}{y:Array Value}{R:Ending->World->Prop}{w:World}(V:P.funcs[f]? =some g)(hb:g.body=some (m7 g))(hc: ∀y w,(callFunc f y).run P w= .ok (.enter f y) w)(b3:y.size<=g.ntmps)(h:WpF P g.ntmps (m7 g) (QF P g.results.toList R) (fr0 y.toList) w):callE P f y R w:=by
 refine .inl ⟨hc,calls_of_wp V hb (Code.wp_mono (λe a E I=>?_) (h _ ⟨by simp;omega,rfl,λt=>?_⟩))⟩
 ·obtain⟨ρ,hr,I⟩:=I
  have fin: ∀ {E},(GF P g.results.toList ρ E λvs=>R (.returned (GL vs)) E)->a.defers= []/\ ∃v,(results g a.tmps).run P E= .ok v E/\R (.returned v) E:=by
   intro E I
   obtain⟨vs,a7,a6,W⟩:=vI hr I
   refine⟨hr.defers,_,?_,a7⟩
   unfold results
   rw[Array.mapM_eq_mapM_toList,Sem.run_bind,map_eq_pure_bind,Sem.run_bind]
   erw [W]
   simp only[Result.andThen_ok,pure,Sem.run]
   match vs,a6 with
   | [],_=>rfl
   | [v],_=>rfl
   |v::u::vs,_=>
    have: ¬ (List.toArray (v::u::vs)).size=1:=by simp
    rw[dif_neg this]
    rfl
  cases e<;>first|exact fin I|exact I.elim
 ·simp only[fr0,Array.getD_eq_getD_getElem?,List.getD_eq_getElem?_getD]
  rcases Nat.lt_or_ge t y.size with U|O
  ·rw[Array.getElem?_append_left U];simp
  ·rw[Array.getElem?_append_right O]
   simp only[Array.getElem?_toList,Array.getElem?_eq_none O,Option.getD_none]
   simp only[Array.getElem?_replicate]
   split<;>rfl

theorem Gi {n:Nat}{x:AC}{Q:gd}{ρ:Fr}{w:World}{c:Code}(E:wy P n x Q)(y:x.erase=c)(h:vcA P n x Q ρ w):WpF P n c Q ρ w:=
 y▸pO x E h

theorem tY {f:FuncId}{E:Func}{n:Nat}{c:Code}{rs:List ResultVar}{y:List Value}{R:Ending->World->Prop}{w:World}{x:AC}(V:P.funcs[f]? =some E)(hc: ∀y w,(callFunc f y).run P w= .ok (.enter f y) w)(hb:E.body=some c)(W:E.ntmps=n)(U:E.results.toList=rs)(O:Nat.ble y.length n=true)(a6:x.erase=c)(g:wy P n x (QF P rs R)){A:Prop}(e:A=vcA P n x (QF P rs R) (fr0 y) w)(h:A):callE P f y.toArray R w:=by
 have I:m7 E=c:=by unfold m7;rw[hb]
 subst W U
 refine Fj V (by rw[hb,I]) hc (by simpa using Nat.le_of_ble_eq_true O) ?_
 rw[I]
 exact Gi g a6 (e▸h)

theorem Fk {f:FuncId}{E:Func}{n:Nat}{c:Code}{rs:List ResultVar}{y:List Value}{R:Ending->World->Prop}{w:World}{x:AC}(U:P.funcs[f]? =some E)(hc: ∀y w,(callFunc f y).run P w= .ok (.enter f y) w)(g:wy P n x (QF P rs R)){A:Prop}(e:A=vcA P n x (QF P rs R) (fr0 y) w)(h:A)(hb:E.body=some c:=by kernel_rfl)(V:E.ntmps=n:=by kernel_rfl)(O:E.results.toList=rs:=by kernel_rfl)(I:Nat.ble y.length n=true:=by kernel_rfl)(W:x.erase=c:=by kernel_rfl):callE P f y.toArray R w:=
 tY U hc hb V O I W g e h
theorem cutZ {y:List (Nat × CTy)}{F:ng y}{V:Fr->World->Prop}(E:Gb y F V:=by (repeat intro);kernel_rfl): ∀ρ w,leaf y F ρ w->V ρ w:=Hw E

def tyN:Nat->CTy
 |0=> .s .bool|1=> .s .str|2=> .s .ptr|3=> .s .slice|4=> .s .map|5=> .s .any|6=> .s .loc
 |7=> .s (.int .i64)|8=> .s (.int .u8)|9=> .s (.int .i32)|10=> .s (.int .u64)|11=> .s (.int .i8)|12=> .s (.int .u32)|13=> .s (.int .u16)|_=> .s (.int .i16)
def vd:List Nat->List (Nat × CTy)
 | []=> []
 |n::l=>(n/20,tyN (n%20))::vd l
def rpN:List Nat->RPlan
 | []=> .done
 |n::l=>match n%3 with
  |0=> .pure (n/3) (rpN l)
  |1=> .load (n/3) (rpN l)
  |_=> .one (n/3) (rpN l)
inductive Sp where
 |mk (v:List Nat) (F:ng (vd v))
 |lp (v:List Nat) (B:ng (vd v)->ng (vd v)) (x:ng (vd v)->List (Nat × Sp))
 |no
 |dr (p:RPlan)
def Sp.go (d:Nat):List (Nat × Sp)->List (Nat × Sp)
 | []=> []
 |(n,s)::l=>match Nat.beq (n%2) d with
  |true=>(n/2,s)::Sp.go d l
  |false=>Sp.go d l
def mkA:Nat->Code->List (Nat × Sp)->AC
 |0,c,_=> .leaf c
 |f+1,c,l=>match l with
  | []=> .leaf c
  |(n,s)::r=>match Nat.beq n 1 with
   |true=>match s with
    | .mk v F=> .cut (vd v) F (mkA f c r)
    | .no=> .no c
    | .dr p=> .draw p c
    | .lp v B x=>match c with
     | .loop c=> .loopB (vd v) B c λX=>mkA f c (x X)
     |c=> .leaf c
   |false=>match c with
    | .seq x y=> .seq (mkA f x (Sp.go 0 l)) (mkA f y (Sp.go 1 l))
    | .cond (.tmp t) x y=> .cond t (mkA f x (Sp.go 0 l)) (mkA f y (Sp.go 1 l))
    | .block k x=> .block k (mkA f x (Sp.go 0 l))
    | .scope x=> .scope (mkA f x (Sp.go 0 l))
    |c=> .leaf c
theorem tA: ∀(f:Nat) (c:Code) (l:List (Nat × Sp)),(mkA f c l).erase=c
 |0,_,_=>rfl
 |f+1,c,l=>by
  unfold mkA
  repeat' split
  all_goals first|rfl|simp only[AC.erase,tA f]
def TyA:AC->Type
 | .seq x y=>TyA x × TyA y
 | .cond _ x y=>TyA x × TyA y
 | .block _ x=>TyA x
 | .scope x=>TyA x
 | .cut vs _ x=>(Fr->ng vs) × TyA x
 | .loopB vs _ _ x=>(X:ng vs)->(Fr->ng vs) × TyA (x X)
 | .draw _ _=>Bool × (List PanicEntry->Fr->World->Prop)
 |_=>Unit
def lhA (P:Program)(n:Nat):(x:AC)->gd->TyA x
 | .seq x y,Q=>(lhA P n x (m9 (vcA P n y Q) Q),lhA P n y Q)
 | .cond _ x y,Q=>(lhA P n x Q,lhA P n y Q)
 | .block id x,Q=>lhA P n x (rZ id Q)
 | .scope x,Q=>lhA P n x (lR Q)
 | .cut _ F x,Q=>(λ_=>F,lhA P n x Q)
 | .loopB vs B _ x,Q=>λX=>(λ_=>B X,lhA P n (x X) (m9 (leaf vs X) Q))
 | .draw pl c,Q=>(P.follows .mixedOrders && AA pl c,λc ρ w=>Q (.panic c) ρ w)
 | .leaf _,_| .no _,_| .mark _ _,_| .loop _ _,_| .given _ _,_| .jump _ _ _,_=>()
def rhA (P:Program)(n:Nat):(x:AC)->gd->TyA x
 | .seq x y,Q=>(rhA P n x (m9 (vcA P n y Q) Q),rhA P n y Q)
 | .cond _ x y,Q=>(rhA P n x Q,rhA P n y Q)
 | .block id x,Q=>rhA P n x (rZ id Q)
 | .scope x,Q=>rhA P n x (lR Q)
 | .cut vs _ x,Q=>(λρ=>Ib vs (vcA P n x Q) ρ,rhA P n x Q)
 | .loopB vs _ _ x,Q=>λX=>(λρ=>Ib vs (vcA P n (x X) (m9 (leaf vs X) Q)) ρ,rhA P n (x X) (m9 (leaf vs X) Q))
 | .draw _ _,_=>(true,λ_ _ _=>False)
 | .leaf _,_| .no _,_| .mark _ _,_| .loop _ _,_| .given _ _,_| .jump _ _ _,_=>()
def WfA:AC->Prop
 | .leaf _| .no _| .draw _ _=>True
 | .mark _ _| .loop _ _| .given _ _| .jump _ _ _=>False
 | .seq x y| .cond _ x y=>WfA x/\WfA y
 | .block _ x| .scope x| .cut _ _ x=>WfA x
 | .loopB _ _ c x=> ∀X,(x X).erase=c/\WfA (x X)
theorem FT: ∀(f:Nat) (c:Code) (l:List (Nat × Sp)),WfA (mkA f c l)
 |0,_,_=>trivial
 |f+1,c,l=>by
  unfold mkA
  repeat' split
  all_goals simp[WfA,FT f,tA f]
theorem goodA {n:Nat}: ∀(x:AC) {Q:gd},WfA x->lhA P n x Q=rhA P n x Q->wy P n x Q:=by
 intro x
 induction x with
 |leaf c=>exact λ_ _=>trivial
 |no c=>exact λ_ _=>trivial
 |seq x y U O=>exact λE h=>⟨U E.1 (congrArg Prod.fst h),O E.2 (congrArg Prod.snd h)⟩
 |cond t x y U O=>exact λE h=>⟨U E.1 (congrArg Prod.fst h),O E.2 (congrArg Prod.snd h)⟩
 |block id x I=>exact λE h=>I (Q:=rZ id _) E h
 |scope x I=>exact λE h=>I (Q:=lR _) E h
 |cut vs F x I=>exact λE h=>⟨I E (congrArg Prod.snd h),zS λρ=>congrFun (congrArg Prod.fst h) ρ⟩
 |loopB vs B c x I=>exact λE h X=>⟨(E X).1,I X (Q:=m9 (leaf vs X) _) (E X).2 (congrArg Prod.snd (congrFun h X)),zS λρ=>congrFun (congrArg Prod.fst (congrFun h X)) ρ⟩
 |draw W c=>
  intro Q _ h
  have V:(P.follows .mixedOrders && AA W c)=true:=congrArg Prod.fst h
  rw[Bool.and_eq_true] at V
  refine⟨V.1,V.2,λc ρ w a6=>?_⟩
  have:=congrFun (congrFun (congrFun (congrArg Prod.snd h) c) ρ) w
  exact cast this a6
 |_=>exact λE _=>E.elim
theorem aG {f:FuncId}{y:Func}{E:List Value}{R:Ending->World->Prop}{w:World}(A:List (Nat × Sp))(O:P.funcs[f]? =some y)(hc: ∀E w,(callFunc f E).run P w= .ok (.enter f E) w){F:Prop}(h:F)(U:lhA P y.ntmps (mkA 500 (m7 y) A) (QF P y.results.toList R)=rhA P y.ntmps (mkA 500 (m7 y) A) (QF P y.results.toList R):=by kernel_rfl)(e:F=vcA P y.ntmps (mkA 500 (m7 y) A) (QF P y.results.toList R) (fr0 E) w:=by kernel_rfl)(hb:y.body=some (m7 y):=by kernel_rfl)(I:Nat.ble E.length y.ntmps=true:=by kernel_rfl):callE P f E.toArray R w:=
 tY O hc hb rfl rfl I (tA ..) (goodA _ (FT ..) U) e h
theorem cF {f:FuncId}{g:Func}{y:List Value}{R:Ending->World->Prop}{w:World}(I:P.funcs[f]? =some g)(hc: ∀y w,(callFunc f y).run P w= .ok (.enter f y) w){F:Prop}(h:F)(e:F=vcC P g.ntmps (m7 g) (QF P g.results.toList R) (fr0 y) w:=by kernel_rfl)(hb:g.body=some (m7 g):=by kernel_rfl)(E:Nat.ble y.length g.ntmps=true:=by kernel_rfl):callE P f y.toArray R w:=
 tY I hc hb rfl rfl E (x:= .leaf (m7 g)) rfl trivial e h

def tick (w:World):World:= {w with drawn:=w.drawn+1}
def tk (w:World)(K:World->Prop):Prop:=K (tick w)
def br (c:Bool)(A B:Prop):Prop:=
 match c with
 |true=>A
 |false=>B
def box (w:World)(cs:Array Value)(e:TypeId)(K:Nat->World->Prop):Prop:= ∀b,w.heap.size=b->K b (alc w cs e)
def F7 (k:IntKind)(x g:Int):Int:=k.wrap ((BitVec.ofInt k.bits x &&& BitVec.ofInt k.bits g).toNat)
structure N16 where
 a0:Int:=0
 a1:ByteArray:=⟨#[]⟩
 a2:ByteArray:=⟨#[]⟩
 a3:Int:=0
 a4:ByteArray:=⟨#[]⟩
 a5:Bool:=false
 q6:Option Addr:=none
 n6:Nat:=0
 c6:Nat:=0
 q7:Option Addr:=none
 n7:Nat:=0
 c7:Nat:=0
 a8:Int:=0
 a9:Int:=0
 a10:ByteArray:=⟨#[]⟩
 a11:Int:=0
 a12:Bool:=false
 a13:Bool:=false
 a14:Bool:=false
 q15:Option Addr:=none
 n15:Nat:=0
 c15:Nat:=0
def N16.C (v:N16):Array Value:= #[.int .i64 v.a0,.string v.a1,.string v.a2,.int .i64 v.a3,.string v.a4,.bool v.a5,.slice v.q6 v.n6 v.c6,.slice v.q7 v.n7 v.c7,.int .i64 v.a8,.int .i64 v.a9,.string v.a10,.int .i64 v.a11,.bool v.a12,.bool v.a13,.bool v.a14,.slice v.q15 v.n15 v.c15]
abbrev N16.V (v:N16):Value:= .agg v.C
def ld16 (w:World)(A:Nat->Addr)(K:N16->Prop):Prop:=
 ∃(a0:Int),w.cell? (A 0)=some (.int .i64 a0)/\
 ∃(a1:ByteArray),w.cell? (A 1)=some (.string a1)/\
 ∃(a2:ByteArray),w.cell? (A 2)=some (.string a2)/\
 ∃(a3:Int),w.cell? (A 3)=some (.int .i64 a3)/\
 ∃(a4:ByteArray),w.cell? (A 4)=some (.string a4)/\
 ∃(a5:Bool),w.cell? (A 5)=some (.bool a5)/\
 ∃(q6:Option Addr),∃(n6:Nat),∃(c6:Nat),w.cell? (A 6)=some (.slice q6 n6 c6)/\
 ∃(q7:Option Addr),∃(n7:Nat),∃(c7:Nat),w.cell? (A 7)=some (.slice q7 n7 c7)/\
 ∃(a8:Int),w.cell? (A 8)=some (.int .i64 a8)/\
 ∃(a9:Int),w.cell? (A 9)=some (.int .i64 a9)/\
 ∃(a10:ByteArray),w.cell? (A 10)=some (.string a10)/\
 ∃(a11:Int),w.cell? (A 11)=some (.int .i64 a11)/\
 ∃(a12:Bool),w.cell? (A 12)=some (.bool a12)/\
 ∃(a13:Bool),w.cell? (A 13)=some (.bool a13)/\
 ∃(a14:Bool),w.cell? (A 14)=some (.bool a14)/\
 ∃(q15:Option Addr),∃(n15:Nat),∃(c15:Nat),w.cell? (A 15)=some (.slice q15 n15 c15)/\
 K ⟨a0,a1,a2,a3,a4,a5,q6,n6,c6,q7,n7,c7,a8,a9,a10,a11,a12,a13,a14,q15,n15,c15⟩
def ldB16 (w:World)(b:Nat)(K:N16->Prop):Prop:=ld16 w (λi=>⟨b,i,none⟩) K
def ldA16 (w:World)(a:Addr)(K:N16->Prop):Prop:=ld16 w (λi=>a.add i) K
def st16 (w:World)(b:Nat)(v:N16)(K:World->Prop):Prop:=
 stV w ⟨b,0,none⟩ (.int .i64 v.a0) λw=>
 stV w ⟨b,1,none⟩ (.string v.a1) λw=>
 stV w ⟨b,2,none⟩ (.string v.a2) λw=>
 stV w ⟨b,3,none⟩ (.int .i64 v.a3) λw=>
 stV w ⟨b,4,none⟩ (.string v.a4) λw=>
 stV w ⟨b,5,none⟩ (.bool v.a5) λw=>
 stV w ⟨b,6,none⟩ (.slice v.q6 v.n6 v.c6) λw=>
 stV w ⟨b,7,none⟩ (.slice v.q7 v.n7 v.c7) λw=>
 stV w ⟨b,8,none⟩ (.int .i64 v.a8) λw=>
 stV w ⟨b,9,none⟩ (.int .i64 v.a9) λw=>
 stV w ⟨b,10,none⟩ (.string v.a10) λw=>
 stV w ⟨b,11,none⟩ (.int .i64 v.a11) λw=>
 stV w ⟨b,12,none⟩ (.bool v.a12) λw=>
 stV w ⟨b,13,none⟩ (.bool v.a13) λw=>
 stV w ⟨b,14,none⟩ (.bool v.a14) λw=>
 stV w ⟨b,15,none⟩ (.slice v.q15 v.n15 v.c15) λw=>
 K w
def Hq (e:Ending)(K:N16->Prop):Prop:=
 ∃(a0:Int),∃(a1:ByteArray),∃(a2:ByteArray),∃(a3:Int),∃(a4:ByteArray),∃(a5:Bool),∃(q6:Option Addr),∃(n6:Nat),∃(c6:Nat),∃(q7:Option Addr),∃(n7:Nat),∃(c7:Nat),∃(a8:Int),∃(a9:Int),∃(a10:ByteArray),∃(a11:Int),∃(a12:Bool),∃(a13:Bool),∃(a14:Bool),∃(q15:Option Addr),∃(n15:Nat),∃(c15:Nat),e= .returned (.agg #[.int .i64 a0,.string a1,.string a2,.int .i64 a3,.string a4,.bool a5,.slice q6 n6 c6,.slice q7 n7 c7,.int .i64 a8,.int .i64 a9,.string a10,.int .i64 a11,.bool a12,.bool a13,.bool a14,.slice q15 n15 c15])/\
 K ⟨a0,a1,a2,a3,a4,a5,q6,n6,c6,q7,n7,c7,a8,a9,a10,a11,a12,a13,a14,q15,n15,c15⟩
structure N10 where
 a0:Int:=0
 a1:ByteArray:=⟨#[]⟩
 a2:ByteArray:=⟨#[]⟩
 a3:Int:=0
 a4:ByteArray:=⟨#[]⟩
 a5:Bool:=false
 q6:Option Addr:=none
 n6:Nat:=0
 c6:Nat:=0
 q7:Option Addr:=none
 n7:Nat:=0
 c7:Nat:=0
 a8:Int:=0
 a9:Int:=0
def N10.C (v:N10):Array Value:= #[.int .i64 v.a0,.string v.a1,.string v.a2,.int .i64 v.a3,.string v.a4,.bool v.a5,.slice v.q6 v.n6 v.c6,.slice v.q7 v.n7 v.c7,.int .i64 v.a8,.int .i64 v.a9]
abbrev N10.V (v:N10):Value:= .agg v.C
def ld10 (w:World)(A:Nat->Addr)(K:N10->Prop):Prop:=
 ∃(a0:Int),w.cell? (A 0)=some (.int .i64 a0)/\
 ∃(a1:ByteArray),w.cell? (A 1)=some (.string a1)/\
 ∃(a2:ByteArray),w.cell? (A 2)=some (.string a2)/\
 ∃(a3:Int),w.cell? (A 3)=some (.int .i64 a3)/\
 ∃(a4:ByteArray),w.cell? (A 4)=some (.string a4)/\
 ∃(a5:Bool),w.cell? (A 5)=some (.bool a5)/\
 ∃(q6:Option Addr),∃(n6:Nat),∃(c6:Nat),w.cell? (A 6)=some (.slice q6 n6 c6)/\
 ∃(q7:Option Addr),∃(n7:Nat),∃(c7:Nat),w.cell? (A 7)=some (.slice q7 n7 c7)/\
 ∃(a8:Int),w.cell? (A 8)=some (.int .i64 a8)/\
 ∃(a9:Int),w.cell? (A 9)=some (.int .i64 a9)/\
 K ⟨a0,a1,a2,a3,a4,a5,q6,n6,c6,q7,n7,c7,a8,a9⟩
def ldB10 (w:World)(b:Nat)(K:N10->Prop):Prop:=ld10 w (λi=>⟨b,i,none⟩) K
def ldA10 (w:World)(a:Addr)(K:N10->Prop):Prop:=ld10 w (λi=>a.add i) K
def st10 (w:World)(b:Nat)(v:N10)(K:World->Prop):Prop:=
 stV w ⟨b,0,none⟩ (.int .i64 v.a0) λw=>
 stV w ⟨b,1,none⟩ (.string v.a1) λw=>
 stV w ⟨b,2,none⟩ (.string v.a2) λw=>
 stV w ⟨b,3,none⟩ (.int .i64 v.a3) λw=>
 stV w ⟨b,4,none⟩ (.string v.a4) λw=>
 stV w ⟨b,5,none⟩ (.bool v.a5) λw=>
 stV w ⟨b,6,none⟩ (.slice v.q6 v.n6 v.c6) λw=>
 stV w ⟨b,7,none⟩ (.slice v.q7 v.n7 v.c7) λw=>
 stV w ⟨b,8,none⟩ (.int .i64 v.a8) λw=>
 stV w ⟨b,9,none⟩ (.int .i64 v.a9) λw=>
 K w
def HM (e:Ending)(K:N10->Prop):Prop:=
 ∃(a0:Int),∃(a1:ByteArray),∃(a2:ByteArray),∃(a3:Int),∃(a4:ByteArray),∃(a5:Bool),∃(q6:Option Addr),∃(n6:Nat),∃(c6:Nat),∃(q7:Option Addr),∃(n7:Nat),∃(c7:Nat),∃(a8:Int),∃(a9:Int),e= .returned (.agg #[.int .i64 a0,.string a1,.string a2,.int .i64 a3,.string a4,.bool a5,.slice q6 n6 c6,.slice q7 n7 c7,.int .i64 a8,.int .i64 a9])/\
 K ⟨a0,a1,a2,a3,a4,a5,q6,n6,c6,q7,n7,c7,a8,a9⟩
end Go.Proofs.YtendaipfdnhnaaaGreatDoor


namespace Go.Proofs.YtendaipfdnhnaaaGreatDoor
variable {P:Program}

structure Out where
 os:Os
 output:Array (Nat × ByteArray)
abbrev ai:=Nat × Obj
def cel (cs:List Value)(e:TypeId):Obj:= .cells cs.toArray e
structure Sat (σ:Out) (w:World) (L:List ai):Prop where
 os:w.os=σ.os
 out:w.output=σ.output
 nodup:(L.map Prod.fst).Nodup
 at_: ∀c∈L,w.heap[c.1]? =some c.2
variable {σ:Out} {w:World} {L L':List ai}

theorem Sat.lt (h:Sat σ w L){c:ai}(hc:c∈L):c.1<w.heap.size:=(Array.getElem?_eq_some_iff.1 (h.at_ c hc)).1
theorem Sat.perm (h:Sat σ w L)(g:L.Perm L'):Sat σ w L':=
 ⟨h.os,h.out,(g.map Prod.fst).nodup_iff.1 h.nodup,λc hc=>h.at_ c (g.mem_iff.2 hc)⟩
theorem Sat.sub (h:Sat σ w L)(g:L'.Sublist L):Sat σ w L':=
 ⟨h.os,h.out,h.nodup.sublist (g.map Prod.fst),λc hc=>h.at_ c (g.subset hc)⟩
theorem Sat.right {A:List ai}(h:Sat σ w (A++L)):Sat σ w L:=h.sub (List.sublist_append_right A L)
theorem Sat.tail {c:ai}(h:Sat σ w (c::L)):Sat σ w L:=h.sub (List.sublist_cons_self c L)
theorem Sat.tick (h:Sat σ w L):Sat σ (tick w) L:=⟨h.os,h.out,h.nodup,h.at_⟩
theorem Sat.drew (h:Sat σ w L):Sat σ w.drew L:=⟨h.os,h.out,h.nodup,h.at_⟩
theorem Sat.tk (h:Sat σ w L){K:World->Prop}(y: ∀g,Sat σ g L->K g):YtendaipfdnhnaaaGreatDoor.tk w K:=y _ h.tick
theorem n9 {b i:Nat}{cs:Array Value}{e:TypeId}{g:Nat × Nat}(h:w.heap[b]? =some (.cells cs e g)):w.cell? ⟨b,i,none⟩=cs[i]? :=by
 simp[World.cell?,h]
theorem Sat.ld (h:Sat σ w L){b i:Nat}{cs:List Value}{e:TypeId}{v:Value}(g:(b,cel cs e)∈L)(hv:cs[i]? =some v):w.cell? ⟨b,i,none⟩=some v:=by
 rw[n9 (h.at_ _ g)];simpa using hv

theorem Sat.set (h:Sat σ w L){k b i:Nat}{cs:List Value}{e:TypeId}(v:Value)(E:L[k]? =some (b,cel cs e)):
 Sat σ (w.setCell ⟨b,i,none⟩ v) (L.set k (b,cel (cs.set i v) e)):=by
 have O:=(List.getElem?_eq_some_iff.1 E).1
 have I:=(List.getElem?_eq_some_iff.1 E).2
 have U:(L.set k (b,cel (cs.set i v) e)).map Prod.fst=L.map Prod.fst:=by
  rw[List.map_set]
  apply List.ext_getElem?
  intro j
  rw[List.getElem?_set]
  split
  ·rename_i g;subst g;simp[O,I]
  ·rfl
 refine⟨h.os,h.out,by rw[U];exact h.nodup,λc hc=>?_⟩
 obtain⟨j,g⟩:=List.mem_iff_getElem?.1 hc
 rw[List.getElem?_set] at g
 have hb:=h.at_ _ (List.mem_of_getElem? E)
 have b5:=(Array.getElem?_eq_some_iff.1 hb).1
 split at g
 ·rename_i y
  subst y
  simp only[Option.some.injEq] at g
  subst g
  simp only[World.setCell,Array.getElem?_modify,hb,if_true,Option.map_some]
  simp[cel]
 ·rename_i y
  have b3:=List.mem_of_getElem? g
  have W:b≠c.1:=by
   intro V
   have a7:=(List.getElem?_eq_some_iff.1 g).1
   have a6:=(List.getElem?_eq_some_iff.1 g).2
   have b4:(L.map Prod.fst)[k]'(by simpa using O)=(L.map Prod.fst)[j]'(by simpa using a7):=by simp[I,a6,V]
   exact y ((List.getElem_inj h.nodup).1 b4)
  simp only[World.setCell,Array.getElem?_modify]
  rw[if_neg W]
  exact h.at_ _ b3
theorem Sat.not_frozen (h:Sat σ w L){b i:Nat}{cs:List Value}{e:TypeId}(g:(b,cel cs e)∈L):w.frozen? ⟨b,i,none⟩=false:=by
 have:=h.at_ _ g
 simp only[cel] at this
 simp[World.frozen?,this]
theorem Sat.st (h:Sat σ w L){k b i:Nat}{cs:List Value}{e:TypeId}{v:Value}{K:World->Prop}(g:L[k]? =some (b,cel cs e))(hi:i<cs.length)(I:ot v)(O:L.set k (b,cel (cs.set i v) e)=L')(E: ∀y,Sat σ y L'->K y):stV w ⟨b,i,none⟩ v K:=
 ⟨I,⟨_,h.ld (List.mem_of_getElem? g) (List.getElem?_eq_getElem hi)⟩,h.not_frozen (List.mem_of_getElem? g),E _ (by rw[<-O];exact h.set v g)⟩

theorem Sat.ldA (h:Sat σ w L){b i:Nat}{cs:List Value}{e:TypeId}{v:Value}(g:(b,cel cs e)∈L:=by first|assumption|(repeat (first|exact .head _|apply List.Mem.tail)))(hv:cs[i]? =some v:=by exact rfl):w.cell? ⟨b,i,none⟩=some v:=h.ld g hv
theorem Sat.stA (h:Sat σ w L)(k:Nat){b i:Nat}{cs:List Value}{e:TypeId}{v:Value}{K:World->Prop}(y: ∀g,Sat σ g L'->K g)(I:L[k]? =some (b,cel cs e):=by exact rfl)(hi:i<cs.length:=by exact Nat.le_of_ble_eq_true rfl)(E:ot v:=by exact trivial)(O:L.set k (b,cel (cs.set i v) e)=L':=by first|(dsimp only[List.set];exact rfl)|exact rfl):stV w ⟨b,i,none⟩ v K:=h.st I hi E O y

theorem Sat.alc (h:Sat σ w L)(cs:List Value)(e:TypeId):Sat σ (alc w cs.toArray e) ((w.heap.size,cel cs e)::L):=by
 refine⟨h.os,h.out,?_,?_⟩
 ·simp only[List.map_cons,List.nodup_cons]
  refine⟨λy=>?_,h.nodup⟩
  obtain⟨c,hc,g⟩:=List.mem_map.1 y
  exact Nat.lt_irrefl _ (g▸h.lt hc)
 ·intro c hc
  cases hc with
  |head=>exact(Array.getElem?_push_size ..).trans rfl
  |tail _ hc=>
   have:=h.lt hc
   simp only[YtendaipfdnhnaaaGreatDoor.alc]
   rw[Array.getElem?_push_lt this,<-Array.getElem?_eq_getElem this]
   exact h.at_ _ hc
theorem Sat.bx (h:Sat σ w L){cs:List Value}{e:TypeId}{K:Nat->World->Prop}(y: ∀b g,Sat σ g ((b,cel cs e)::L)->K b g):box w cs.toArray e K:=by
 intro b hb
 subst hb
 exact y _ _ (h.alc cs e)

theorem ag {c:Bool}{A B:Prop}(hc:c=true)(h:A):br c A B:=by subst hc;exact h
theorem af {c:Bool}{A B:Prop}(hc:c=false)(h:B):br c A B:=by subst hc;exact h
theorem bh {c:Bool}{A B:Prop}(y:c=true->A)(g:c=false->B):br c A B:=by
 cases c with
 |true=>exact y rfl
 |false=>exact g rfl
theorem aa {a:Addr}{K:Addr->Prop}(h:K a):aA (some a) K:=h

def bs (l:List UInt8):ByteArray:=⟨l.toArray⟩
@[simp] theorem aF (l:List UInt8):(bs l).size=l.length:=by simp[bs,ByteArray.size]
@[simp] theorem bs_data (l:List UInt8):(bs l).data=l.toArray:=rfl
theorem bG (a b:List UInt8):bs a++bs b=bs (a++b):=by
 apply ByteArray.ext
 simp[bs]
theorem bV (l:List UInt8)(i j:Nat):(bs l).extract i j=bs ((l.take j).drop i):=by
 apply ByteArray.ext
 simp[bs,ByteArray.data_extract,List.extract_eq_take_drop,List.drop_take]
theorem pI (l:List UInt8)(i:Nat):bt (bs l) (i:Int)=((l.getD i 0).toNat:Int):=by
 simp[bt,bs,Array.getD_eq_getD_getElem?,List.getD_eq_getElem?_getD]
theorem DW (l:List UInt8): ∀(k i:Nat) (r:List UInt8),l.length - i=k->ByteArray.toList.loop (bs l) i r=r.reverse++l.drop i
 |0,i,r,h=>by
  unfold ByteArray.toList.loop
  rw[if_neg (by rw[aF];omega),List.drop_eq_nil_of_le (by omega),List.append_nil]
 |k+1,i,r,h=>by
  have hi:i<l.length:=by omega
  unfold ByteArray.toList.loop
  rw[if_pos (by rw[aF];exact hi),DW l k (i+1) _ (by omega),List.drop_eq_getElem_cons hi]
  have g:(bs l).get! i=l[i]:=by
   show (l.toArray)[i]! =l[i]
   simp[hi]
  rw[g]
  simp
theorem cn (l:List UInt8):(bs l).toList=l:=by
 unfold ByteArray.toList
 rw[DW l _ 0 [] rfl]
 simp

end Go.Proofs.YtendaipfdnhnaaaGreatDoor

namespace Go.Proofs.YtendaipfdnhnaaaGreatDoor
abbrev kT(q:Option Addr):Value:=.pointer q
abbrev kE(b:Nat):Option Addr:=some ⟨b,0,none⟩
abbrev hZ(b i:Nat):Addr:=⟨b,i,none⟩
abbrev hY(n:Int):Value:=.int .i64 n
abbrev hX(s:ByteArray):Value:=.string s
abbrev hV(b:Bool):Value:=.bool b
abbrev hT(q:Option Addr)(n c:Nat):Value:=.slice q n c
abbrev hQ(v:Value):Ending:=.returned v
abbrev lA0:=@List.length_append
abbrev lB0:=@List.mem_append_right
abbrev lC0:=@Int.toNat_natCast
abbrev lD0:=@List.append_assoc
abbrev lE0:=@List.length_singleton
abbrev lF0:=@List.length_cons
abbrev lG0:=@List.append_nil
abbrev lH0:=@List.getElem?_eq_getElem
abbrev lI0:=@List.getElem?_append_right
abbrev lJ0:=@List.getElem?_eq_some_iff
abbrev lK0:=@Result.andThen_ok
abbrev lL0:=@Addr.add_lit
abbrev lM0:=@List.getElem?_append_left
abbrev lN0:=@List.mem_singleton
abbrev lO0:=@Nat.zero_add
abbrev lP0:=@List.mem_append
abbrev lQ0:=@List.length_map
abbrev lR0:=@List.cons_append
abbrev lS0:=@List.getD_eq_getElem?_getD
abbrev lT0:=@List.nil_append
abbrev lU0:=@List.cons.injEq
abbrev lV0:=@List.map_append
abbrev lW0:=@List.mem_cons
abbrev lX0:=@Sem.run_bind
abbrev lY0:=@List.length_take
abbrev lZ0:=@List.length_pos_iff
abbrev lA1:=@Nat.mul_one
abbrev lB1:=@List.take_succ_eq_append_getElem
abbrev lC1:=@List.mem_append_left
abbrev lD1:=@List.exists_cons_of_ne_nil
abbrev lE1:=@Nat.le_refl
abbrev lF1:=@List.eq_nil_of_length_eq_zero
abbrev lG1:=@List.drop_eq_getElem_cons
abbrev lH1:=@List.not_mem_nil
abbrev lI1:=@Option.some.injEq
abbrev lJ1:=@List.length_drop
abbrev lK1:=@Nat.eq_of_beq_eq_true
abbrev lL1:=@Nat.add_zero
abbrev lM1:=@List.length_nil
abbrev lN1:=@Bool.and_eq_true
abbrev lO1:=@List.getElem_mem
abbrev lP1:=@List.map_cons
abbrev lQ1:=@Nat.sub_self
abbrev lR1:=@List.set_append_right
abbrev lS1:=@List.mem_cons_of_mem
abbrev lT1:=@List.mem_of_getElem?
abbrev lU1:=@List.mem_map
abbrev lV1:=@List.getElem?_eq_none
abbrev lW1:=@List.take_append_drop
abbrev lX1:=@List.foldl_cons
abbrev lY1:=@List.eq_nil_or_concat
abbrev lZ1:=@List.mem_cons_self
abbrev lA2:=@List.replicate_succ
abbrev lB2:=@List.take_of_length_le
abbrev lC2:=@Nat.mul_le_mul_right
abbrev lD2:=@Nat.zero_le
abbrev lE2:=@List.drop_eq_nil_of_le
abbrev lF2:=@List.all_eq_true
abbrev lG2:=@List.length_replicate
abbrev lH2:=@Bool.or_eq_false_iff
abbrev lI2:=@List.getElem?_map
abbrev lJ2:=@List.foldl_append
abbrev lK2:=@List.concat_eq_append
abbrev lL2:=@List.dropWhile_cons_of_neg
abbrev lM2:=@List.drop_append_of_le_length
abbrev lN2:=@List.getElem_append_right
abbrev lO2:=@List.drop_zero
abbrev lP2:=@List.take_length
abbrev lQ2:=@List.dropWhile_sublist
abbrev lR2:=@List.length_tail
abbrev lS2:=@Array.getElem?_eq_getElem
abbrev lT2:=@Array.getElem?_toList
abbrev lU2:=@List.singleton_append
abbrev lV2:=@List.mem_flatMap
abbrev lW2:=@List.getLast?_cons_cons
abbrev lX2:=@Array.getD_eq_getD_getElem?
abbrev lY2:=@List.mem_range
abbrev lZ2:=@List.getElem?_cons_succ
abbrev lA3:=@List.mem_zipIdx_iff_getElem?
abbrev lB3:=@List.dropWhile_cons
abbrev lC3:=@List.takeWhile_cons
abbrev lD3:=@Nat.add_assoc
abbrev lE3:=@Bool.false_eq_true
abbrev lF3:=@Nat.add_sub_cancel
abbrev lG3:=@List.getElem?_drop
abbrev lH3:=@Nat.add_right_comm
abbrev lI3:=@Nat.le_of_ble_eq_true
abbrev lJ3:=@List.sublist_append_right
abbrev lK3:=@Option.map_some
abbrev lL3:=@List.flatMap_cons
abbrev lM3:=@List.flatten_cons
abbrev lN3:=@List.all_cons
abbrev lO3:=@List.getElem?_take_of_lt
abbrev lP3:=@List.append_eq
abbrev lQ3:=@Nat.zero_lt_succ
abbrev lR3:=@Nat.add_mul
abbrev lS3:=@List.take_append_of_le_length
abbrev lT3:=@List.sublist_cons_self
abbrev lU3:=@List.append_of_mem
abbrev lV3:=@Nat.succ_mul
abbrev lW3:=@List.mem_replicate
abbrev lX3:=@List.nodup_cons
abbrev lY3:=@List.dropLast_concat_getLast
abbrev lZ3:=@Bool.and_eq_false_iff
abbrev lA4:=@UInt8.ofNat_toNat
abbrev lB4:=@Array.getElem?_eq_some_iff
abbrev lC4:=@List.dropWhile_cons_of_pos
abbrev lD4:=@List.drop_left
abbrev lE4:=@Array.toArray_toList
abbrev lF4:=@List.getLast?_append
abbrev lG4:=@List.append_inj'
abbrev lH4:=@Nat.add_comm
abbrev lI4:=@Array.mapM_eq_mapM_toList
abbrev lJ4:=@Array.getElem?_push_size
abbrev lK4:=@Bool.eq_false_or_eq_true
abbrev lL4:=@List.length_set
abbrev lM4:=@Nat.eq_zero_or_pos
abbrev lN4:=@List.set_cons_zero
abbrev lO4:=@List.set_eq_take_append_cons_drop
abbrev lP4:=@Nat.lt_or_ge
abbrev lQ4:=@Array.getElem?_eq_none
abbrev lR4:=@Array.getElem?_push_lt
abbrev lS4:=@List.take_left
abbrev lT4:=@List.reverse_cons
abbrev lU4:=@Array.getElem?_setIfInBounds_ne
abbrev lV4:=@Array.getElem?_modify
abbrev lW4:=@List.dropWhile_suffix
abbrev lX4:=@List.cons_ne_nil
abbrev lY4:=@List.set_append_left
abbrev lZ4:=@List.mem_of_mem_drop
abbrev lA5:=@List.mem_of_mem_take
abbrev lB5:=@List.mem_iff_getElem
abbrev lC5:=@List.replicate_succ'
abbrev lD5:=@Bool.eq_iff_iff
abbrev lE5:=@List.drop_left'
abbrev lF5:=@List.take_left'
abbrev lG5:=@List.all_append
abbrev lH5:=@List.reverse_append
abbrev lI5:=@List.mem_map_of_mem
abbrev lJ5:=@List.take_succ_cons
abbrev lK5:=@List.flatMap_append
abbrev lL5:=@List.getD_cons_succ
abbrev lM5:=@Array.getElem?_append_left
abbrev lN5:=@List.drop_drop
abbrev lO5:=@Nat.mul_le_mul
abbrev lP5:=@List.getElem?_set
abbrev lQ5:=@Bool.not_eq_true'
abbrev lR5:=@Array.getElem?_replicate
abbrev lS5:=@Bool.true_and
abbrev lT5:=@List.getElem_append_left
abbrev lU5:=@List.perm_middle
abbrev lV5:=@List.getElem?_cons_zero
abbrev lW5:=@List.reverse_nil
abbrev lX5:=@Bool.not_eq_true
abbrev lY5:=@List.drop_append
abbrev lZ5:=@List.mem_nil_iff
abbrev lA6:=@Option.bind_eq_some_iff
abbrev lB6:=@Nat.add_sub_cancel_left
abbrev lC6:=@List.getElem?_replicate
abbrev lD6:=@List.length_eq_zero_iff
abbrev lE6:=@Nat.blt_eq
abbrev lF6:=@List.head?_eq_getElem?
abbrev lG6:=@List.takeWhile_sublist
abbrev lH6:=@List.getElem_cons_succ
abbrev lI6:=@List.drop_of_length_le
abbrev lJ6:=@Nat.min_eq_left
abbrev lK6:=@UInt8.toNat_inj
abbrev lL6:=@List.mem_iff_getElem?
abbrev lM6:=@UInt8.lt_iff_toNat_lt
abbrev lN6:=@List.mapM_cons
abbrev lO6:=@List.reverse_reverse
abbrev lP6:=@List.pairwise_append
abbrev lQ6:=@Nat.lt_irrefl
abbrev lR6:=@List.map_set
abbrev lS6:=@Nat.zero_mul
abbrev lT6:=@Nat.mul_comm
end Go.Proofs.YtendaipfdnhnaaaGreatDoor

namespace Go.Proofs.YtendaipfdnhnaaaGreatDoor
open Go.Proofs Go.IntWalk
variable {P:Program} {σ:Out} {w:World} {L L':List ai} {R:Ending->World->Prop}

theorem aL {n:Nat}(g:n<4611686018427387904):i64.wrap ((n:Int)+1)=((n+1:Nat):Int):=by
 rw[i64_in _ (by omega)];omega
theorem gR {n:Nat}(g:n<4611686018427387904)(h0:0<n):i64.wrap ((n:Int) - 1)=((n - 1:Nat):Int):=by
 rw[i64_in _ (by omega)];omega
theorem pH {l:List UInt8}{i:Nat}(hi:i<l.length):bt (bs l) (i:Int)=(l[i].toNat:Int):=by
 rw[pI,lS0,lH0 hi];rfl
theorem nk (c d:UInt8):(((c.toNat:Nat):Int)==(d.toNat:Int))=(c==d):=by
 rw[lD5];simp only[beq_iff_eq,Int.ofNat_inj];exact⟨λh=>UInt8.toNat.inj h,λh=>by rw[h]⟩
theorem dh {l:List UInt8}{i:Nat}(hi:i<l.length)(d:UInt8)(n:Int)(hd:(d.toNat:Int)=n):(bt (bs l) (i:Int)==n)=(l[i]==d):=by
 subst hd;rw[pH hi,nk]

theorem EA {l:List UInt8}{p:UInt8->Bool}{X:Nat->Prop}(step: ∀i (h:i<l.length),p l[i]=true->X (i+1)->X i):
 ∀g,g<=l.length->(∀i,i<=l.length->(∀h:i<l.length,p l[i]=false)->l.drop i=(l.drop g).dropWhile p->X i)->X g:=by
 intro g;generalize W:l.length - g=n
 induction n generalizing g with
 |zero=>
  intro hi y;exact y g hi (λh=>by omega) (by rw[lE2 (by omega)];rfl)
 |succ n V=>
  intro hi y;have I:g<l.length:=by omega
  have hd:=lG1 I;cases E:p l[g] with
  |true=>
   refine step g I E (V (g+1) (by omega) (by omega) λi hi O U=>y i hi O ?_);rw[U,hd,lC4 E]
  |false=>exact y g hi (λ_=>E) (by rw[hd,lL2 (by simp[E])])
theorem HK {l:List UInt8}{p:UInt8->Bool}{X:Nat->Prop}(step: ∀i (h:i<l.length),p l[i]=true->X i->X (i+1)):
 ∀g,g<=l.length->(∀j,j<=l.length->(∀i (h:i<l.length),j=i+1->p l[i]=false)->l.take j=((l.take g).reverse.dropWhile p).reverse->X j)->X g:=by
 intro g
 induction g with
 |zero=>exact λh y=>y 0 h (λi hi h=>by omega) (by simp)
 |succ j W=>
  intro O y;have I:j<l.length:=by omega
  have ht:(l.take (j+1)).reverse=l[j]::(l.take j).reverse:=by rw[lB1 I];simp
  cases E:p l[j] with
  |true=>
   refine step j I E (W (by omega) λi hi U V=>y i hi U ?_);rw[V,ht,lC4 E]
  |false=>
   refine y (j+1) O (λi hi h=>by
    obtain rfl:i=j:=by omega
    exact E) ?_
   rw[ht,lL2 (by simp[E])];rw[<-ht,lO6]

theorem gL (a:Array UInt8):(hP a).toList=a.toList:=cn a.toList
theorem og (l:List UInt8)(i:Nat):(bs l).extract i l.length=bs (l.drop i):=by rw[bV,lP2]
theorem Sat.up1 {a b:ai}(h:Sat σ w (a::b::L)):Sat σ w (b::a::L):=h.perm (List.Perm.swap ..)
open Classical in
noncomputable def one (a c:ai):Nat:=if c=a then 1 else 0
noncomputable def cnt (a:ai):List ai->Nat
 | []=>0
 |c::L=>one a c+cnt a L
theorem mS (a:ai):cnt a []=0:=rfl
theorem ff (a c:ai)(L:List ai):cnt a (c::L)=one a c+cnt a L:=rfl
theorem dJ (a:ai): ∀(L M:List ai),cnt a (L++M)=cnt a L+cnt a M
 | [],M=>by rw[lT0,mS,lO0]
 |c::L,M=>by rw[lR0,ff,ff,dJ a L M,lD3]
theorem DL {a:ai}: ∀ {L:List ai},0<cnt a L->a∈L
 | [],h=>by simp[cnt] at h
 |c::L,h=>by
  by_cases hc:c=a
  ·rw[hc];exact lZ1 ..
  ·rw[ff] at h;simp only[one,if_neg hc,lO0] at h;exact lS1 _ (DL h)
theorem tg: ∀ {L M:List ai},(∀a,cnt a L=cnt a M)->L.Perm M
 | [],M,h=>by
  cases M with
  |nil=>exact .nil
  |cons c M=>have:=h c;simp[cnt,one] at this;omega
 |c::L,M,h=>by
  have hc:c∈M:=DL (by rw[<-h c,ff];simp[one];omega);obtain⟨A,B,rfl⟩:=lU3 hc;refine(List.Perm.cons c (tg (M:=A++B) λa=>?_)).trans lU5.symm;have:=h a;simp only[dJ,ff] at this⊢;omega
theorem Sat.re (h:Sat σ w L)(g: ∀a,cnt a L=cnt a L':=by intro _;simp only[lP3,dJ,ff,mS]<;>omega):Sat σ w L':=h.perm (tg g)
theorem Sat.less {L L':List ai}(X:List ai)(h:Sat σ w L)(g: ∀a,cnt a L=cnt a X+cnt a L':=by intro _;simp only[lP3,dJ,ff,mS]<;>omega):Sat σ w L':=
 Sat.right (A:=X) (h.re λa=>by rw[dJ];exact g a)

def cO (c:UInt8):Bool:=c==32||c==9
def wM (p:UInt8->Bool)(l:List UInt8):List UInt8:=(l.reverse.dropWhile p).reverse
def gI (p:UInt8->Bool)(l:List UInt8):List UInt8:=wM p (l.dropWhile p)

end Go.Proofs.YtendaipfdnhnaaaGreatDoor


namespace Go.Proofs.YtendaipfdnhnaaaGreatDoor
open Go.Proofs Go.IntWalk Go.RowKit
set_option maxRecDepth 20000
variable {σ:Out} {w:World} {L L':List ai} {R:Ending->World->Prop}
def xr (g:World):Out:=⟨g.os,g.output⟩
def fI (g:World):List ai:=g.heap.toList.zipIdx.map λx=>(x.2,x.1)
theorem EB (g:World):Sat (xr g) g (fI g):=by
 refine⟨rfl,rfl,?_,?_⟩
 ·have:(fI g).map Prod.fst=g.heap.toList.zipIdx.map Prod.snd:=by simp[fI,Function.comp_def]
  rw[this,List.zipIdx_map_snd];exact List.nodup_range'
 ·intro c hc;obtain⟨x,y,rfl⟩:=lU1.1 hc;have:=lA3.1 y
  simpa using this
theorem zq {g y:World}(h:Sat (xr g) y (fI g))(E:MemPlace->Prop):g.keptBut y E:=by
 refine⟨h.os,h.out,λi hi=>?_⟩;have I:(i,g.heap[i])∈fI g:=lU1.2 ⟨(g.heap[i],i),lA3.2 (by simp[hi]),rfl⟩;have:=h.at_ _ I;rw[this,lS2 hi];cases g.heap[i]<;>first|exact⟨rfl,rfl,rfl,λ_ _=>rfl⟩|exact .inr ⟨rfl,rfl⟩|rfl
theorem DT {P:Program}{f:FuncId}{g:Array Value}{R:Ending->World->Prop}{w:World}(hc: ∀g w,(callFunc f g).run P w= .ok (.enter f g) w)(h:callE P f g R w):Calls P f g w R:=by
 rcases h with ⟨_,h⟩|⟨v,y,h,_⟩
 ·exact h
 ·rw[hc] at h;cases h
end Go.Proofs.YtendaipfdnhnaaaGreatDoor

namespace Go.Proofs.YtendaipfdnhnaaaGreatDoor
open Go.Proofs
noncomputable abbrev P:Program:=Tryz.prog
abbrev WP:=World->Prop
abbrev EP:=Ending->WP
abbrev OA:=Option Addr
abbrev BA:=ByteArray
abbrev ty_:Nat:=0
abbrev ba:Nat:=3
abbrev dB:Nat:=5
abbrev aq:Nat:=9
abbrev bL:Nat:=22
abbrev cA:Nat:=24
abbrev au:Nat:=25
abbrev ae:Nat:=27
abbrev cr:Nat:=32
abbrev aj:Nat:=35
abbrev fB:Nat:=38
abbrev al:Nat:=43
abbrev nr:Nat:=57
abbrev df:Nat:=62
abbrev aO:Nat:=75
abbrev aH:Nat:=77
abbrev gl:Nat:=80
abbrev iw:Nat:=81
abbrev pj:Nat:=83
abbrev l6:Nat:=84
abbrev ap:Nat:=85
abbrev vp:Nat:=87
abbrev kB:Nat:=94
abbrev zX:Nat:=96
abbrev dn:Nat:=97
abbrev vo:Nat:=99
abbrev gf:Nat:=100
abbrev nw:Nat:=103
abbrev gH:Nat:=104
abbrev d4:Nat:=105
abbrev qH:Nat:=107
abbrev Ca:Nat:=110
abbrev bE:Nat:=111
abbrev nu:Nat:=113
abbrev cL:Nat:=114
abbrev nx:Nat:=116
abbrev uh:Nat:=118
abbrev cW:Nat:=121
abbrev Hl:Nat:=123
abbrev kG:Nat:=125
abbrev Hm:Nat:=130
abbrev wL:Nat:=132
abbrev aD:Nat:=154
abbrev cT:Nat:=156
abbrev cq:Nat:=158
abbrev ke:Nat:=165
abbrev gk:Nat:=166
abbrev Gm:Nat:=167
abbrev g9:Nat:=172
abbrev iN:Nat:=175
abbrev fh:Nat:=177
abbrev aW:Nat:=180
abbrev bJ:Nat:=200
abbrev ov:Nat:=203
abbrev lr:Nat:=204
abbrev AV:Nat:=206
abbrev jY:Nat:=207
abbrev lN:Nat:=208
abbrev pP:Nat:=209
abbrev Cc:Nat:=210
abbrev jr:Nat:=211
abbrev jC:Nat:=213
abbrev fK:Nat:=214
abbrev vn:Nat:=216
abbrev l7:Nat:=218
abbrev mr:Nat:=220
abbrev nv:Nat:=223
abbrev sS:Nat:=225
abbrev AU:Nat:=228
abbrev qG:Nat:=231
abbrev ah:Nat:=232
abbrev bO:Nat:=234
abbrev az:Nat:=236
abbrev bH:Nat:=239
abbrev cS:Nat:=241
abbrev aX:Nat:=244
abbrev aQ:Nat:=246
abbrev rA:Nat:=249
abbrev jB:Nat:=262
abbrev ar:Nat:=265
abbrev fC:Nat:=267
abbrev aM:Nat:=269
abbrev sR:Nat:=274
abbrev FJ:Nat:=279
abbrev aT:Nat:=287
abbrev lm:Nat:=289
abbrev wK:Nat:=290
abbrev cK:Nat:=302
abbrev js:Nat:=303
abbrev hU:Nat:=313
abbrev nm:Nat:=314
abbrev aB:Nat:=323
abbrev bw:Nat:=325
abbrev ns:Nat:=326
abbrev gj:Nat:=328
abbrev ia:Nat:=332
abbrev nt:Nat:=334
abbrev Cb:Nat:=336
abbrev Ev:Nat:=338
abbrev jX:Nat:=349
abbrev iJ:Nat:=359
abbrev BQ:Nat:=360
abbrev Ei:Nat:=362
abbrev ty_Empty:Nat:=434
abbrev mq:Nat:=436
abbrev mY:Nat:=7
abbrev rf:Nat:=10
abbrev kW:Nat:=12
abbrev mJ:Nat:=13
abbrev nP:Nat:=14
abbrev nM:Nat:=15
abbrev lI:Nat:=16
abbrev nN:Nat:=17
abbrev jZ:Nat:=20
abbrev lU:Nat:=23
abbrev oI:Nat:=24
abbrev fU:Nat:=26
abbrev d5:Nat:=29
abbrev FX:Nat:=30
abbrev eO:Nat:=31
abbrev bR:Nat:=32
abbrev mK:Nat:=33
abbrev ph:Nat:=34
abbrev mH:Nat:=35
abbrev mI:Nat:=36
abbrev jo:Nat:=37
abbrev aS:Nat:=41
abbrev fz:Nat:=42
abbrev io:Nat:=44
abbrev mL:Nat:=45
abbrev dj:Nat:=46
abbrev uu:Nat:=47
abbrev xX:Nat:=49
abbrev dz:Nat:=50
abbrev nO:Nat:=51
abbrev Do:Nat:=52
abbrev Ht:Nat:=53
abbrev sJ:Nat:=54
abbrev lV:Nat:=55
abbrev eR:Nat:=64
abbrev cH:Nat:=65
abbrev i9:Nat:=66
abbrev dI:Nat:=67
abbrev i7:Nat:=68
abbrev fu:Nat:=69
abbrev kV:Nat:=70
abbrev eG:Nat:=72
abbrev bz:Nat:=73
abbrev bT:Nat:=74
abbrev du:Nat:=75
abbrev jn:Nat:=76
abbrev lT:Nat:=77
abbrev bQ:Nat:=78
abbrev mc:Nat:=79
abbrev iA:Nat:=80
abbrev bm:Nat:=81
abbrev fP:Nat:=82
abbrev xV:Nat:=83
abbrev gn:Nat:=89
abbrev kX:Nat:=90
abbrev eh:Nat:=91
abbrev qg:Nat:=92
abbrev oG:Nat:=93
abbrev pg:Nat:=94
abbrev oW:Nat:=95
abbrev md:Nat:=96
abbrev nJ:Nat:=97
abbrev pM:Nat:=98
abbrev mh:Nat:=100
abbrev xY:Nat:=102
abbrev cG:Nat:=103
abbrev ct:Nat:=104
abbrev Dl:Nat:=105
abbrev qi:Nat:=106
abbrev aJ:Nat:=107
abbrev iM:Nat:=108
abbrev jw:Nat:=109
abbrev dT:Nat:=110
abbrev bK:Nat:=111
abbrev ka:Nat:=112
abbrev gO:Nat:=113
abbrev mX:Nat:=114
abbrev dV:Nat:=115
abbrev uY:Nat:=116
abbrev tK:Nat:=117
abbrev j9:Nat:=118
abbrev mf:Nat:=119
abbrev rQ:Nat:=120
abbrev dv:Nat:=121
abbrev ik:Nat:=122
abbrev eQ:Nat:=123
abbrev nL:Nat:=124
abbrev fE:Nat:=125
abbrev fO:Nat:=126
abbrev dY:Nat:=127
abbrev kR:Nat:=138
abbrev fV:Nat:=139
abbrev gz:Nat:=140
abbrev kD:Nat:=141
abbrev fF:Nat:=142
abbrev cg:Nat:=143
abbrev ra:Nat:=144
abbrev cm:Nat:=145
abbrev mg:Nat:=146
abbrev kF:Nat:=147
abbrev qh:Nat:=148
abbrev eL:Nat:=149
abbrev gt:Nat:=150
abbrev xU:Nat:=151
abbrev ut:Nat:=152
abbrev yL:Nat:=153
abbrev lH:Nat:=154
abbrev mi:Nat:=155
abbrev zv:Nat:=156
abbrev cU:Nat:=160
abbrev dD:Nat:=161
abbrev dL:Nat:=162
abbrev eW:Nat:=163
abbrev lJ:Nat:=165
abbrev nQ:Nat:=169
abbrev kS:Nat:=171
abbrev kU:Nat:=172
abbrev BZ:Nat:=173
abbrev mW:Nat:=174
abbrev B0:Nat:=175
abbrev iW:Nat:=176
abbrev fR:Nat:=177
abbrev iV:Nat:=178
abbrev fQ:Nat:=179
abbrev mG:Nat:=180
abbrev uf:Nat:=181
abbrev mF:Nat:=184
abbrev jx:Nat:=185
abbrev im:Nat:=186
abbrev fM:Nat:=187
abbrev mE:Nat:=188
abbrev G2:Nat:=189
abbrev Dm:Nat:=190
abbrev dS:Nat:=191
abbrev fy:Nat:=192
abbrev gA:Nat:=193
abbrev fG:Nat:=194
abbrev me:Nat:=195
abbrev jv:Nat:=196
abbrev Dn:Nat:=197
abbrev jL:Nat:=198
abbrev bN:Nat:=199
abbrev gr:Nat:=200
abbrev gh:Nat:=201
abbrev rg:Nat:=202
abbrev bp:Nat:=203
abbrev At:Nat:=212
abbrev xW:Nat:=213
abbrev uW:Nat:=218
abbrev oV:Nat:=219
abbrev i_zzZs:Nat:=220
abbrev H0:Nat:=221
abbrev eV:Nat:=223
abbrev nK:Nat:=228
abbrev gP:Nat:=229
abbrev xT:Nat:=230
abbrev fx:Nat:=231
abbrev fw:Nat:=232
abbrev gm:Nat:=233
abbrev fT:Nat:=239
abbrev i6:Nat:=241
abbrev iP:Nat:=242
abbrev oH:Nat:=243
abbrev eF:Nat:=244
abbrev uX:Nat:=245
abbrev Hu:Nat:=246
abbrev G1:Nat:=247
abbrev jM:Nat:=248
abbrev jA:Nat:=257
abbrev dy:Nat:=263
abbrev ej:Nat:=270
abbrev cB:Nat:=305
abbrev iX:Nat:=368
abbrev iY:Nat:=420
abbrev kf:Nat:=421
abbrev iZ:Nat:=422
abbrev iB:Nat:=423
abbrev yM:Nat:=424
abbrev il:Nat:=425
abbrev iz:Nat:=434
abbrev gN:Nat:=435
abbrev i5:Nat:=436
abbrev iC:Nat:=437
abbrev ja:Nat:=438
abbrev fA:Nat:=439
abbrev iD:Nat:=440
abbrev gQ:Nat:=441
end Go.Proofs.YtendaipfdnhnaaaGreatDoor


namespace Go.Proofs.YtendaipfdnhnaaaGreatDoor
open Go.Proofs Go.IntWalk Go.RowKit
set_option maxRecDepth 20000
variable {σ:Out} {w:World} {L L':List ai} {R:Ending->World->Prop}
namespace dN
def k2 (R:EP)(f3:OA)(g4 e9:Nat)(f7:OA)(f4 g3:Nat)(w:World):Prop:=callE P nN #[hT f3 g4 e9] (λe g7=>∃e4 a6,∃b9 b6,∃b8 b7,∃b4 E,∃g y,∃U I,∃O c2 a7,e= hQ (.tuple #[hX e4,(N10.V {a0:=a6,a1:=b9,a2:=b6,a3:=b8,a4:=b7,a5:=b4,q6:=E,n6:=g,c6:=y,q7:=U,n7:=I,c7:=O,a8:=c2,a9:=a7})])/\box g7 (N10.C {}) ae λe8 g6=>st10 g6 e8 {a0:=a6,a1:=b9,a2:=b6,a3:=b8,a4:=b7,a5:=b4,q6:=E,n6:=g,c6:=y,q7:=U,n7:=I,c7:=O,a8:=c2,a9:=a7} λe7=>∃e5 e3 e2,e7.cell? (hZ e8 7)=some (hT e5 e3 e2)/\callE P lU #[hX e4,hT e5 e3 e2,hT f7 f4 g3] (λe f0=>∃c3 W,∃b3 c1,e= hQ (.tuple #[hX c3,hT W b3 c1])/\callE P nM #[] (λe f2=>∃c9 e1,∃d2 c5,∃c4 d3,∃c8 e0,∃d0 d1,e= hQ (.agg #[hV c9,hV e1,hV d2,hV c5,hV c4,hV d3,hV c8,hV e0,hV d0,hV d1])/\callE P nP #[.agg #[hV c9,hV e1,hV d2,hV c5,hV c4,hV d3,hV c8,hV e0,hV d0,hV d1],hX c3] (λe g5=>Hq e λg0=>callE P mJ #[g0.V] (λe g1=>HM e λf5=>callE P lI #[(N10.V {a0:=1,q7:=W,n7:=b3,c7:=c1})] (λe g2=>HM e λf1=>callE P kW #[f5.V,f1.V] (λe f6=>∃e6,e= hQ (hV e6)/\R (hQ (hV e6)) f6) g2) g1) g5) f2) f0) e7) w
def k1 (R:EP)(E:OA)(g y:Nat)(W:OA)(I V:Nat)(w:World):Prop:=callE P rf #[hT E g y] (λe O=>∃U,e= hQ (hV U)/\br ((!U)||(decide ((I:Int)>8))) (R (hQ (hV true)) O) (k2 R E g y W I V O)) w
end dN
def dN (R:EP)(I:OA)(g E:Nat)(U:OA)(y O:Nat)(w:World):Prop:=br ((decide ((g:Int)>2147483647))||(decide ((y:Int)>2147483647))) (R (hQ (hV true)) w) (dN.k1 R I g E U y O w)
theorem dN.sound {R x0q x0n x0c x1q x1n x1c w}(h:dN R x0q x0n x0c x1q x1n x1c w):callE P mY #[hT x0q x0n x0c,hT x1q x1n x1c] R w:=
 aG [(7,.mk [3,23] (dN.k1 R)),(15,.mk [3,23] (dN.k2 R))] Tryz.func7 Tryz.call7 h
namespace fk
def bl1 (R:EP)(Xa:BA->OA->Nat->Nat->OA->Nat->Nat->Int->Int->WP)(a6:BA)(O:OA)(y W:Nat)(I:OA)(E a7:Nat)(U g:Int)(w:World):Prop:=br (decide (g<U)) (0<=g/\g<(E:Int)/\aA I λa1=>∃c9,w.cell? (a1.add (Int.toNat g*1))=some (hV c9)/\br c9 (callE P mH #[hX a6] (λe d1=>∃d0,e= hQ (hX d0)/\∃c3 c1,∃b6 c5,(Instr.buildSlice au 1 #[(0,(N10.V {a0:=2,q7:=O,n7:=y,c7:=W}))]).run P d1= .ok (hT c3 c1 b6) c5/\Xa d0 c3 c1 b6 I E a7 U (i64.wrap (g+1)) c5) w) (callE P mI #[hX (hP #[45,32]),hX a6] (λe d2=>∃c8,e= hQ (hX c8)/\∃b8 b7,∃c4 b9,(Instr.buildSlice au 1 #[(0,(N10.V {a0:=4,q7:=O,n7:=y,c7:=W}))]).run P d2= .ok (hT b8 b7 c4) b9/\∃b3 b4,∃b5 c2,(Instr.buildSlice au 1 #[(0,.agg #[hY 3,hX (hP #[]),hX (hP #[]),hY (-1),hX (hP #[45]),hV (decide ((y:Int)>1)),hT none 0 0,hT b8 b7 c4,hY 0,hY 0])]).run P b9= .ok (hT b3 b4 b5) c2/\Xa c8 b3 b4 b5 I E a7 U (i64.wrap (g+1)) c2) w)) (R (hQ (.tuple #[hX a6,hT O y W])) w)
def l1 (R:EP)(a6:BA)(O:OA)(U V:Nat)(E:OA)(y g:Nat)(I W:Int)(w:World):Prop:=∀X:BA->OA->Nat->Nat->OA->Nat->Nat->Int->Int->WP,(∀a6 O U V E y g I W w,bl1 R X a6 O U V E y g I W w->X a6 O U V E y g I W w)->X a6 O U V E y g I W w
end fk
def fk (R:EP)(V:BA)(y:OA)(I O:Nat)(U:OA)(g E:Nat)(w:World):Prop:=fk.l1 R V y I O U g E (g:Int) 0 w
theorem fk.sound {R x0 x1q x1n x1c x2q x2n x2c w}(h:fk R x0 x1q x1n x1c x2q x2n x2c w):callE P lU #[hX x0,hT x1q x1n x1c,hT x2q x2n x2c] R w:=
 aG [(21,.lp [1,23,203,227,247] (fk.bl1 R) λXa=> [])] Tryz.func23 Tryz.call23 h
def nX (R:EP)(b6:OA)(a7 b4:Nat)(w:World):Prop:=box w (N10.C {}) ae λb1 b7=>box b7 #[hT b6 a7 b4,hY 0,hY 0,hV false,hY 0] nr λc2 c1=>callE P d5 #[kT (kE c2),hY 3,hY 4] (λe b9=>∃I E,∃O y,∃g U,e= hQ (.tuple #[hT I E O,hT y g U])/\callE P fU #[hT I E O,hX (hP #[10])] (λe b8=>∃a6,e= hQ (hX a6)/\st10 b8 b1 {a0:=1,q7:=y,n7:=g,c7:=U} λW=>ldB10 W b1 λb5=>R (hQ (.tuple #[hX a6,b5.V])) W) b9) c1
theorem nX.sound {R x0q x0n x0c w}(h:nX R x0q x0n x0c w):callE P nN #[hT x0q x0n x0c] R w:=
 cF Tryz.func17 Tryz.call17 h
def oK (R:EP)(y:OA)(g E:Nat)(w:World):Prop:=R (hQ (hV (decide ((g:Int)<=300)))) w
theorem oK.sound {R x0q x0n x0c w}(h:oK R x0q x0n x0c w):callE P rf #[hT x0q x0n x0c] R w:=
 cF Tryz.func10 Tryz.call10 h
namespace aC
def k9 (R:EP)(Xa:OA->Int->Bool->Nat->Nat->Bool->OA->Nat->Nat->Int->Int->WP)(g7:OA)(h1:Int)(g5:Bool)(g6 W:Nat)(h2:Bool)(g2:OA)(I f1 U:Nat)(e4:OA)(E f7:Nat)(O:BA)(g3 g4:Int)(w:World):Prop:=stV w (hZ U 8) (hY (i64.wrap ((I:Int)+1))) λg0=>stV g0 (hZ U 9) (hY (i64.wrap ((I:Int)+(E:Int)))) λe6=>0<=(0:Int)/\0<(E:Int)/\aA e4 λf5=>∃y,e6.cell? (f5.add (Int.toNat 0*1))=some (hX y)/\((O.size+y.size:Nat):Int)<=i64.max/\∃e3 d3,∃b9 e9,(Instr.buildSlice al 1 #[(0,hX (O++y))]).run P e6= .ok (hT e3 d3 b9) e9/\∃e1 c5,∃c8 e7,(Builtin.append_ #[al,al] al #[hT g2 I f1,hT e3 d3 b9]).run P e9= .ok (hT e1 c5 c8) e7/\tk e7 λf3=>∃c2 e2 d1,(∀w,(Instr.sliceAt al (hT e4 E f7) (some (hY 1)) none none).run P w= .ok (hT c2 e2 d1) w)/\callE P oI #[hY (O.size:Int)] (λe g1=>∃e5,e= hQ (hX e5)/\callE P kX #[hX e5,hT c2 e2 d1] (λe f2=>∃a6 e0 b4,e= hQ (hT a6 e0 b4)/\∃b7 b6,∃c4 g,(Builtin.append_ #[al,al] al #[hT e1 c5 c8,hT a6 e0 b4]).run P f2= .ok (hT b7 b6 c4) g/\∃a7 b8 b5,g.cell? (hZ W 7)=some (hT a7 b8 b5)/\ldB10 g U λf6=>∃d2 c1,∃c9 e8,(Instr.buildSlice au 1 #[(0,f6.V)]).run P g= .ok (hT d2 c1 c9) e8/\∃c3 b3,∃d0 f0,(Builtin.append_ #[au,au] au #[hT a7 b8 b5,hT d2 c1 c9]).run P e8= .ok (hT c3 b3 d0) f0/\stV f0 (hZ W 7) (hT c3 b3 d0) λf4=>Xa g7 h1 g5 g6 W h2 b7 b6 c4 g3 (i64.wrap (g4+1)) f4) g1) f3
def k8 (R:EP)(Xa:OA->Int->Bool->Nat->Nat->Bool->OA->Nat->Nat->Int->Int->WP)(c5:OA)(c8:Int)(c3:Bool)(c4 g:Nat)(c9:Bool)(b7:OA)(b6 a6 c2:Nat)(W:OA)(b3 a7:Nat)(c1:BA)(b8 b9:Int)(d1:Bool)(w:World):Prop:=br d1 (∃E I,∃U b4,(Instr.buildSlice al 1 #[(0,hX (hP #[]))]).run P w= .ok (hT E I U) b4/\∃O V,∃y b5,(Builtin.append_ #[al,al] al #[hT b7 b6 a6,hT E I U]).run P b4= .ok (hT O V y) b5/\stV b5 (hZ g 5) (hV true) λd0=>k9 R Xa c5 c8 c3 c4 g c9 O V y c2 W b3 a7 c1 b8 b9 d0) (k9 R Xa c5 c8 c3 c4 g c9 b7 b6 a6 c2 W b3 a7 c1 b8 b9 w)
def k7 (R:EP)(Xa:OA->Int->Bool->Nat->Nat->Bool->OA->Nat->Nat->Int->Int->WP)(b7:OA)(b9:Int)(b8:Bool)(b5 b6:Nat)(g:Bool)(V:OA)(U I:Nat)(a6:Int)(b4:Nat)(y:OA)(E O:Nat)(a7:BA)(W b3:Int)(w:World):Prop:=k8 R Xa b7 b9 b8 b5 b6 g V U I b4 y E O a7 W b3 ((decide (a6>0)) && g) w
def k6 (R:EP)(Xa:OA->Int->Bool->Nat->Nat->Bool->OA->Nat->Nat->Int->Int->WP)(c1:OA)(c2:Int)(b8:Bool)(b9 y:Nat)(c3:Bool)(b4:OA)(b3 U:Nat)(I:Int)(b7:Nat)(O:OA)(a7 W:Nat)(b5 b6:Int)(w:World):Prop:=∃g,w.cell? (hZ y 4)=some (hX g)/\((g.size+(hP #[32]).size:Nat):Int)<=i64.max/\∃V,w.cell? (hZ y 3)=some (hY V)/\br (decide (V >= 0)) (∃a6,w.cell? (hZ y 3)=some (hY a6)/\callE P gn #[hY (i64.wrap (a6+I))] (λe c4=>∃E,e= hQ (hX E)/\((E.size+(g++(hP #[32])).size:Nat):Int)<=i64.max/\k7 R Xa c1 c2 b8 b9 y c3 b4 b3 U I b7 O a7 W (E++(g++(hP #[32]))) b5 b6 c4) w) (k7 R Xa c1 c2 b8 b9 y c3 b4 b3 U I b7 O a7 W (g++(hP #[32])) b5 b6 w)
def k5 (R:EP)(Xa:OA->Int->Bool->Nat->Nat->Bool->OA->Nat->Nat->Int->Int->WP)(b8:OA)(b9:Int)(b6:Bool)(b7 g:Nat)(c1:Bool)(a7:OA)(a6 O:Nat)(b5:Int)(y:Nat)(I:OA)(W U:Nat)(b3 b4:Int)(w:World):Prop:=∃V,w.cell? (hZ g 5)=some (hV V)/\br V (stV w (hZ g 5) (hV true) λc5=>k6 R Xa b8 b9 b6 b7 g c1 a7 a6 O b5 y I W U b3 b4 c5) (∃c2 E c3,w.cell? (hZ y 7)=some (hT c2 E c3)/\stV w (hZ g 5) (hV (decide ((E:Int)>1))) λc4=>k6 R Xa b8 b9 b6 b7 g c1 a7 a6 O b5 y I W U b3 b4 c4)
def k4 (R:EP)(Xa:OA->Int->Bool->Nat->Nat->Bool->OA->Nat->Nat->Int->Int->WP)(E:OA)(I:Int)(a6:Bool)(c1 c2:Nat)(b9:Bool)(b5:OA)(b4 a7:Nat)(b7:Int)(g:Nat)(b8 b6:Int)(J8:Bool)(w:World):Prop:=br J8 (aA E λK2=>∃z3,w.cell? (K2.add 3)=some (hV z3)/\br z3 (callE P dI #[kT E] (λe J6=>∃d1 O,∃d2 q3,∃o4 o0,∃o3 q0,∃p3 m5,∃m6 h8,∃i4 l5,∃m3 q5 p5,e= hQ (.tuple #[hT d1 O d2,(N10.V {a0:=q3,a1:=o4,a2:=o0,a3:=o3,a4:=q0,a5:=p3,q6:=m5,n6:=m6,c6:=h8,q7:=i4,n7:=l5,c7:=m3,a8:=q5,a9:=p5})])/\box J6 (N10.C {}) ae λf1 K0=>st10 K0 f1 {a0:=q3,a1:=o4,a2:=o0,a3:=o3,a4:=q0,a5:=p3,q6:=m5,n6:=m6,c6:=h8,q7:=i4,n7:=l5,c7:=m3,a8:=q5,a9:=p5} λJ5=>stV J5 (hZ f1 8) (hY 1) λK1=>stV K1 (hZ f1 9) (hY (O:Int)) λJ7=>tk J7 λz4=>ldB10 z4 f1 λJ9=>∃v3 v5,∃t9 y5,(Instr.buildSlice au 1 #[(0,J9.V)]).run P z4= .ok (hT v3 v5 t9) y5/\stV y5 (hZ g 7) (hT v3 v5 t9) λJ0=>callE P aS #[kT E,hY 2] (λe y2=>∃x6,e= hQ (hY x6)/\br (x6==1) (callE P fz #[kT E,hY (i64.wrap (I - 1)),hV a6] (λe I3=>∃c9 c3,∃d0 j1,∃k0 i8,∃i2 n2,∃m1 g3,∃h1 g2,∃h4 h3,∃g7 h7 m4,e= hQ (.tuple #[hT c9 c3 d0,(N10.V {a0:=j1,a1:=k0,a2:=i8,a3:=i2,a4:=n2,a5:=m1,q6:=g3,n6:=h1,c6:=g2,q7:=h4,n7:=h3,c7:=g7,a8:=h7,a9:=m4})])/\box I3 (N10.C {}) ae λy I4=>st10 I4 y {a0:=j1,a1:=k0,a2:=i8,a3:=i2,a4:=n2,a5:=m1,q6:=g3,n6:=h1,c6:=g2,q7:=h4,n7:=h3,c7:=g7,a8:=h7,a9:=m4} λI1=>stV I1 (hZ y 8) (hY (i64.wrap ((O:Int)+2))) λI0=>stV I0 (hZ y 9) (hY (i64.wrap ((i64.wrap ((O:Int)+1))+(c3:Int)))) λD1=>tk D1 λb3=>∃e0 e1 d3,b3.cell? (hZ g 7)=some (hT e0 e1 d3)/\ldB10 b3 y λe6=>(∃f3 g0,∃f7 U,(Instr.buildSlice al 1 #[(0,hX (hP #[]))]).run P b3= .ok (hT f3 g0 f7) U/\SameC b3 U (hZ y 0) 10/\SameC b3 U (hZ g 7) 1/\(∃f5 f6,∃f4 W,(Builtin.append_ #[al,al] al #[hT d1 O d2,hT f3 g0 f7]).run P U= .ok (hT f5 f6 f4) W/\SameC U W (hZ y 0) 10/\SameC U W (hZ g 7) 1/\(∃v7 w3,∃w7 e5,(Builtin.append_ #[al,al] al #[hT f5 f6 f4,hT c9 c3 d0]).run P W= .ok (hT v7 w3 w7) e5/\SameC W e5 (hZ y 0) 10/\SameC W e5 (hZ g 7) 1/\∃t4 u8,∃t5 g1,(Instr.buildSlice au 1 #[(0,e6.V)]).run P e5= .ok (hT t4 u8 t5) g1/\SameC e5 g1 (hZ g 7) 1/\∃w6 t2,∃s2 y4,(Builtin.append_ #[au,au] au #[hT e0 e1 d3,hT t4 u8 t5]).run P g1= .ok (hT w6 t2 s2) y4/\stV y4 (hZ g 7) (hT w6 t2 s2) λJ2=>k5 R Xa E I a6 c1 c2 b9 b5 b4 a7 b7 g v7 w3 w7 b8 b6 J2)/\(∃r4 s8,∃r3 e2,(Instr.buildSlice au 1 #[(0,e6.V)]).run P W= .ok (hT r4 s8 r3) e2/\SameC W e2 (hZ g 7) 1/\∃v6 v0,∃u4 f0,(Builtin.append_ #[al,al] al #[hT f5 f6 f4,hT c9 c3 d0]).run P e2= .ok (hT v6 v0 u4) f0/\SameC e2 f0 (hZ y 0) 10/\SameC e2 f0 (hZ g 7) 1/\∃s4 v8,∃s7 z1,(Builtin.append_ #[au,au] au #[hT e0 e1 d3,hT r4 s8 r3]).run P f0= .ok (hT s4 v8 s7) z1/\stV z1 (hZ g 7) (hT s4 v8 s7) λI8=>k5 R Xa E I a6 c1 c2 b9 b5 b4 a7 b7 g v6 v0 u4 b8 b6 I8))/\(∃w2 t3,∃v4 e4,(Instr.buildSlice au 1 #[(0,e6.V)]).run P U= .ok (hT w2 t3 v4) e4/\SameC U e4 (hZ g 7) 1/\∃w9 r9,∃w1 c5,(Builtin.append_ #[al,al] al #[hT d1 O d2,hT f3 g0 f7]).run P e4= .ok (hT w9 r9 w1) c5/\SameC e4 c5 (hZ y 0) 10/\SameC e4 c5 (hZ g 7) 1/\∃x3 w5,∃r7 e7,(Builtin.append_ #[al,al] al #[hT w9 r9 w1,hT c9 c3 d0]).run P c5= .ok (hT x3 w5 r7) e7/\SameC c5 e7 (hZ y 0) 10/\SameC c5 e7 (hZ g 7) 1/\∃s6 s9,∃u0 y3,(Builtin.append_ #[au,au] au #[hT e0 e1 d3,hT w2 t3 v4]).run P e7= .ok (hT s6 s9 u0) y3/\stV y3 (hZ g 7) (hT s6 s9 u0) λD2=>k5 R Xa E I a6 c1 c2 b9 b5 b4 a7 b7 g x3 w5 r7 b8 b6 D2))/\(∃r8 t7,∃v9 e3,(Instr.buildSlice au 1 #[(0,e6.V)]).run P b3= .ok (hT r8 t7 v9) e3/\SameC b3 e3 (hZ g 7) 1/\∃u1 v2,∃s1 c4,(Instr.buildSlice al 1 #[(0,hX (hP #[]))]).run P e3= .ok (hT u1 v2 s1) c4/\SameC e3 c4 (hZ y 0) 10/\SameC e3 c4 (hZ g 7) 1/\∃u2 r5,∃r1 c8,(Builtin.append_ #[al,al] al #[hT d1 O d2,hT u1 v2 s1]).run P c4= .ok (hT u2 r5 r1) c8/\SameC c4 c8 (hZ y 0) 10/\SameC c4 c8 (hZ g 7) 1/\∃w8 t6,∃r6 e9,(Builtin.append_ #[al,al] al #[hT u2 r5 r1,hT c9 c3 d0]).run P c8= .ok (hT w8 t6 r6) e9/\SameC c8 e9 (hZ y 0) 10/\SameC c8 e9 (hZ g 7) 1/\∃t0 x4,∃w4 x5,(Builtin.append_ #[au,au] au #[hT e0 e1 d3,hT r8 t7 v9]).run P e9= .ok (hT t0 x4 w4) x5/\stV x5 (hZ g 7) (hT t0 x4 w4) λJ1=>k5 R Xa E I a6 c1 c2 b9 b5 b4 a7 b7 g w8 t6 r6 b8 b6 J1)) y2) (k5 R Xa E I a6 c1 c2 b9 b5 b4 a7 b7 g d1 O d2 b8 b6 y2)) J0) w) (callE P d5 #[kT E,hY (i64.wrap (I - 1)),hY 2] (λe J3=>∃p1 q8,∃q2 q4,∃p4 o2,e= hQ (.tuple #[hT p1 q8 q2,hT q4 p4 o2])/\stV J3 (hZ g 7) (hT q4 p4 o2) λD3=>k5 R Xa E I a6 c1 c2 b9 b5 b4 a7 b7 g p1 q8 q2 b8 b6 D3) w)) (callE P dI #[kT E] (λe I6=>∃n3 f2,∃q1 m2,∃i0 i1,∃j0 i3,∃n0 h2,∃g5 h5,∃g4 g6,∃h6 n1 h9,e= hQ (.tuple #[hT n3 f2 q1,(N10.V {a0:=m2,a1:=i0,a2:=i1,a3:=j0,a4:=i3,a5:=n0,q6:=h2,n6:=g5,c6:=h5,q7:=g4,n7:=g6,c7:=h6,a8:=n1,a9:=h9})])/\box I6 (N10.C {}) ae λe8 I5=>st10 I5 e8 {a0:=m2,a1:=i0,a2:=i1,a3:=j0,a4:=i3,a5:=n0,q6:=h2,n6:=g5,c6:=h5,q7:=g4,n7:=g6,c7:=h6,a8:=n1,a9:=h9} λH1=>stV H1 (hZ e8 8) (hY 1) λI7=>stV I7 (hZ e8 9) (hY (f2:Int)) λI9=>tk I9 λy1=>ldB10 y1 e8 λJ4=>∃s5 s3,∃t8 z2,(Instr.buildSlice au 1 #[(0,J4.V)]).run P y1= .ok (hT s5 s3 t8) z2/\stV z2 (hZ g 7) (hT s5 s3 t8) λI2=>k6 R Xa E I a6 c1 c2 b9 b5 b4 a7 b7 g n3 f2 q1 b8 b6 I2) w)
def bl1 (R:EP)(Xa:OA->Int->Bool->Nat->Nat->Bool->OA->Nat->Nat->Int->Int->WP)(c1:OA)(b5:Int)(c2:Bool)(y b4:Nat)(b3:Bool)(O:OA)(I E:Nat)(U g:Int)(w:World):Prop:=br (decide (g<U)) (box w (N10.C {}) ae λa7 b8=>st10 b8 a7 {a0:=4} λb9=>k4 R Xa c1 b5 c2 y b4 b3 O I E g a7 U g (b3 && (decide (b5>0))) b9) (tk w λW=>ldB10 W b4 λb7=>st10 W y b7 λa6=>ldB10 a6 y λb6=>R (hQ (.tuple #[hT O I E,b6.V])) a6)
def l1 (R:EP)(W:OA)(a7:Int)(a6:Bool)(b3 V:Nat)(U:Bool)(E:OA)(y g:Nat)(I O:Int)(w:World):Prop:=∀X:OA->Int->Bool->Nat->Nat->Bool->OA->Nat->Nat->Int->Int->WP,(∀W a7 a6 b3 V U E y g I O w,bl1 R X W a7 a6 b3 V U E y g I O w->X W a7 a6 b3 V U E y g I O w)->X W a7 a6 b3 V U E y g I O w
def k3 (R:EP)(y:OA)(V:Int)(U:Bool)(W O:Nat)(I:Bool)(w:World):Prop:=callE P aS #[kT y,hY 3] (λe E=>∃g,e= hQ (hY g)/\l1 R y V U W O I none 0 0 (i64.wrap (1+g)) 0 E) w
def k2 (R:EP)(g:OA)(O:Int)(I:Bool)(U E:Nat)(w:World):Prop:=callE P aS #[kT g,hY 2] (λe y=>∃a6,e= hQ (hY a6)/\br (a6==1) (aA g λb3=>∃W,y.cell? (b3.add 3)=some (hV W)/\br W (aA g λa7=>∃V,y.cell? (a7.add 4)=some (hY V)/\k3 R g O I U E (!(decide (V>0))) y) (k3 R g O I U E true y)) (k3 R g O I U E false y)) w
def k1 (R:EP)(y:OA)(I:Int)(E:Bool)(O g:Nat)(w:World):Prop:=callE P aS #[kT y,hY 2] (λe W=>∃a6,e= hQ (hY a6)/\br (a6==1) (callE P aS #[kT y,hY 30] (λe b3=>∃U,e= hQ (hY U)/\stV b3 (hZ g 3) (hY U) λa7=>stV a7 (hZ g 4) (hX (hP #[46])) λV=>br E (stV V (hZ g 4) (hX (hP #[41])) λb4=>k2 R y I E O g b4) (k2 R y I E O g V)) W) (k2 R y I E O g W)) w
end aC
def aC (R:EP)(I:OA)(O:Int)(y:Bool)(w:World):Prop:=box w (N10.C {}) ae λb1 V=>box V (N10.C {}) ae λg W=>st10 W g {a0:=3,a3:=(-1),a4:=(hP #[45])} λE=>br y (stV E (hZ g 4) (hX (hP #[43])) λU=>aC.k1 R I O y b1 g U) (aC.k1 R I O y b1 g E)
theorem aC.sound {R x0 x1 x2 w}(h:aC R x0 x1 x2 w):callE P i7 #[kT x0,hY x1,hV x2] R w:=
 aG [(15,.mk [2,27,40,146,166] (aC.k1 R)),(31,.mk [2,27,40,146,166] (aC.k2 R)),(63,.mk [2,27,40,146,166,180] (aC.k3 R)),(703,.lp [2,27,40,146,166,180,203,1047,1067] (aC.bl1 R) λXa=> [(883,.mk [2,27,40,146,166,180,203,227,246,1047,1067,1220] (aC.k4 R Xa)),(92531,.dr (rpN [0,9,4,8,12,17])),(1960307,.dr (.pure 0 (.pure 3 (.pure 5 (.load 6 (.load 7 (.two 1 (.two 2 (.two 4 (.one 8 (.one 9 (.pure 10 (.pure 11 (.one 12 .done))))) 8 (.one 4 (.one 9 (.pure 10 (.pure 11 (.one 12 .done)))))) 8 (.one 2 (.one 4 (.one 9 (.pure 10 (.pure 11 (.one 12 .done))))))) 8 (.one 1 (.one 2 (.one 4 (.one 9 (.pure 10 (.pure 11 (.one 12 .done)))))))))))))),(3443,.mk [2,27,40,146,166,180,203,227,246,263,1047,1067] (aC.k5 R Xa)),(8051,.dr (rpN [0,9,4,8,12,17])),(499,.mk [2,27,40,146,166,180,203,227,246,263,1047,1067] (aC.k6 R Xa)),(2035,.mk [2,27,40,146,166,180,203,227,246,263,401,1047,1067] (aC.k7 R Xa)),(7155,.mk [2,27,40,146,166,180,203,246,263,401,1047,1067,3180] (aC.k8 R Xa)),(4083,.mk [2,27,40,146,166,180,203,246,263,401,1047,1067] (aC.k9 R Xa)),(24563,.dr (rpN [0,3,6,12,15,11,20,23,24]))]),(383,.dr (rpN [0,6,4,11]))] Tryz.func68 Tryz.call68 h
namespace aY
def k2 (R:EP)(d2:OA)(c9:Nat)(g:BA)(w:World):Prop:=callE P i9 #[kT d2] (λe d1=>∃y E,∃I O,e= hQ (.tuple #[hT y E I,hX O])/\(((hP #[96,96,96]).size+g.size:Nat):Int)<=i64.max/\∃b8 b3,∃b6 c4,(Instr.buildSlice al 1 #[(0,hX ((hP #[96,96,96])++g))]).run P d1= .ok (hT b8 b3 b6) c4/\∃U a6,∃c1 c5,(Builtin.append_ #[al,al] al #[hT b8 b3 b6,hT y E I]).run P c4= .ok (hT U a6 c1) c5/\∃b4 b9,∃b7 c2,(Instr.buildSlice al 1 #[(0,hX (hP #[96,96,96]))]).run P c5= .ok (hT b4 b9 b7) c2/\∃a7 b5,∃W c8,(Builtin.append_ #[al,al] al #[hT U a6 c1,hT b4 b9 b7]).run P c2= .ok (hT a7 b5 W) c8/\st10 c8 c9 {a0:=7,a1:=O,a2:=g} λc3=>ldB10 c3 c9 λd0=>R (hQ (.tuple #[hT a7 b5 W,d0.V])) c3) w
def k3 (R:EP)(d2:OA)(c1:Nat)(d1:OA)(c4 c5 g:Nat)(w:World):Prop:=callE P aS #[kT d2,hY 2] (λe c2=>∃b8,e= hQ (hY b8)/\stV c2 (hZ g 0) (hY 5) λc9=>stV c9 (hZ g 3) (hY (i64.wrap (1+b8))) λc3=>tk c3 λy=>∃E,y.cell? (hZ g 3)=some (hY E)/\∃I,y.cell? (hZ g 3)=some (hY I)/\0<=(i64.wrap (E - 1))/\(i64.wrap (E - 1))<=I/\I<=((hP #[61,45]).size:Int)/\ldB10 y g λc8=>callE P jo #[hX ((hP #[61,45]).extract (Int.toNat (i64.wrap (E - 1))) (Int.toNat I)),hY 3] (λe U=>∃b7,e= hQ (hX b7)/\SameC y U (hZ g 0) 10/\∃b4 b5,∃a6 O,(Instr.buildSlice al 1 #[(0,hX b7)]).run P U= .ok (hT b4 b5 a6) O/\SameC U O (hZ g 0) 10/\∃b6 a7,∃b3 W,(Builtin.append_ #[al,al] al #[hT d1 c4 c5,hT b4 b5 a6]).run P O= .ok (hT b6 a7 b3) W/\SameC O W (hZ g 0) 10/\st10 W c1 c8 λb9=>ldB10 b9 c1 λd0=>R (hQ (.tuple #[hT b6 a7 b3,d0.V])) b9) y) w
def bl1 (R:EP)(Xa:Nat->OA->Nat->Nat->OA->Nat->Nat->OA->Nat->Nat->Int->Int->WP)(E:Nat)(b7:OA)(b5 c1:Nat)(c3:OA)(c2 b9:Nat)(b4:OA)(a7 c8:Nat)(c4 g:Int)(w:World):Prop:=br (decide (g<c4)) (0<=g/\g<(a7:Int)/\aA b4 λd0=>∃y,w.cell? (d0.add (Int.toNat g*1))=some (hX y)/\(((hP #[62,32]).size+y.size:Nat):Int)<=i64.max/\∃O a6,∃U b8,(Instr.buildSlice al 1 #[(0,hX ((hP #[62,32])++y))]).run P w= .ok (hT O a6 U) b8/\∃I b3,∃W c5,(Builtin.append_ #[al,al] al #[hT c3 c2 b9,hT O a6 U]).run P b8= .ok (hT I b3 W) c5/\Xa E b7 b5 c1 I b3 W b4 a7 c8 c4 (i64.wrap (g+1)) c5) (st10 w E {a0:=2,q7:=b7,n7:=b5,c7:=c1} λb6=>ldB10 b6 E λc9=>R (hQ (.tuple #[hT c3 c2 b9,c9.V])) b6)
def l1 (R:EP)(b4:Nat)(U:OA)(W b3:Nat)(O:OA)(I V:Nat)(E:OA)(g y:Nat)(a6 a7:Int)(w:World):Prop:=∀X:Nat->OA->Nat->Nat->OA->Nat->Nat->OA->Nat->Nat->Int->Int->WP,(∀b4 U W b3 O I V E g y a6 a7 w,bl1 R X b4 U W b3 O I V E g y a6 a7 w->X b4 U W b3 O I V E g y a6 a7 w)->X b4 U W b3 O I V E g y a6 a7 w
def k4 (R:EP)(f0:OA)(f7:Int)(f6:Bool)(g:Nat)(f3:Bool)(w:World):Prop:=br f3 (callE P i7 #[kT f0,hY (i64.wrap (f7 - 1)),hV f6] (λe f5=>∃e6 e5,∃e4 c9,∃d3 c3,∃d2 e1,∃d0 U,∃a7 O,∃b3 b6,∃b4 b8 c8,e= hQ (.tuple #[hT e6 e5 e4,(N10.V {a0:=c9,a1:=d3,a2:=c3,a3:=d2,a4:=e1,a5:=d0,q6:=U,n6:=a7,c6:=O,q7:=b3,n7:=b6,c7:=b4,a8:=b8,a9:=c8})])/\st10 f5 g {a0:=c9,a1:=d3,a2:=c3,a3:=d2,a4:=e1,a5:=d0,q6:=U,n6:=a7,c6:=O,q7:=b3,n7:=b6,c7:=b4,a8:=b8,a9:=c8} λe9=>ldB10 e9 g λf4=>R (hQ (.tuple #[hT e6 e5 e4,f4.V])) e9) w) (callE P dI #[kT f0] (λe f1=>∃e2 e7,∃e3 c4,∃b7 b9,∃c2 e0,∃d1 W,∃a6 y,∃b5 I,∃E c1 c5,e= hQ (.tuple #[hT e2 e7 e3,(N10.V {a0:=c4,a1:=b7,a2:=b9,a3:=c2,a4:=e0,a5:=d1,q6:=W,n6:=a6,c6:=y,q7:=b5,n7:=I,c7:=E,a8:=c1,a9:=c5})])/\st10 f1 g {a0:=c4,a1:=b7,a2:=b9,a3:=c2,a4:=e0,a5:=d1,q6:=W,n6:=a6,c6:=y,q7:=b5,n7:=I,c7:=E,a8:=c1,a9:=c5} λe8=>ldB10 e8 g λf2=>R (hQ (.tuple #[hT e2 e7 e3,f2.V])) e8) w)
def k1 (R:EP)(g:OA)(b4:Int)(h9:Bool)(y:Nat)(E:Int)(w:World):Prop:=br (E==2) (callE P aS #[kT g,hY 6] (λe j0=>∃a7,e= hQ (hY a7)/\callE P eR #[kT g] (λe j1=>∃a6 e5,∃e3 e8,e= hQ (.tuple #[hX a6,hT e5 e3 e8])/\callE P jo #[hX (hP #[35]),hY (i64.wrap (1+a7))] (λe l5=>∃U,e= hQ (hX U)/\((U.size+(hP #[32]).size:Nat):Int)<=i64.max/\(((U++(hP #[32])).size+a6.size:Nat):Int)<=i64.max/\∃g3 g4,∃g2 g7,(Instr.buildSlice al 1 #[(0,hX ((U++(hP #[32]))++a6))]).run P l5= .ok (hT g3 g4 g2) g7/\st10 g7 y {a0:=5,a3:=(i64.wrap (1+a7)),q7:=e5,n7:=e3,c7:=e8} λh4=>ldB10 h4 y λm4=>R (hQ (.tuple #[hT g3 g4 g2,m4.V])) h4) j1) j0) w) (br (E==3) (∃g0 g1,∃f3 h2,(Instr.buildSlice al 1 #[(0,hX (hP #[42,42,42]))]).run P w= .ok (hT g0 g1 f3) h2/\st10 h2 y {a0:=9} λh7=>ldB10 h7 y λm6=>R (hQ (.tuple #[hT g0 g1 f3,m6.V])) h7) (br (E==4) (callE P aS #[kT g,hY 2] (λe I=>∃h1,e= hQ (hY h1)/\br (h1==1) (aA g λi8=>∃h5,I.cell? (i8.add 3)=some (hV h5)/\br (!h5) (callE P cH #[kT g] (λe i4=>∃h3,e= hQ (hX h3)/\k2 R g y h3 i4) I) (k2 R g y (hP #[]) I)) (k2 R g y (hP #[]) I)) w) (br (E==5) (callE P dI #[kT g] (λe m1=>∃f0 f1,∃e6 e0,∃d1 d2,∃c3 c9,∃c2 b9,∃c1 b6,∃b7 b8,∃b5 c5 e2,e= hQ (.tuple #[hT f0 f1 e6,(N10.V {a0:=e0,a1:=d1,a2:=d2,a3:=c3,a4:=c9,a5:=c2,q6:=b9,n6:=c1,c6:=b6,q7:=b7,n7:=b8,c7:=b5,a8:=c5,a9:=e2})])/\box m1 (N10.C {}) ae λO m3=>st10 m3 O {a0:=e0,a1:=d1,a2:=d2,a3:=c3,a4:=c9,a5:=c2,q6:=b9,n6:=c1,c6:=b6,q7:=b7,n7:=b8,c7:=b5,a8:=c5,a9:=e2} λb3=>aA g λn0=>∃h6,b3.cell? (n0.add 3)=some (hV h6)/\br h6 (callE P eR #[kT g] (λe k0=>∃f2 e9,∃e4 e7,e= hQ (.tuple #[hX f2,hT e9 e4 e7])/\∃g5 f6,∃f7 h8,(Instr.buildSlice al 1 #[(0,hX f2)]).run P k0= .ok (hT g5 f6 f7) h8/\st10 h8 O {q7:=e9,n7:=e4,c7:=e7} λm2=>k3 R g y g5 f6 f7 O m2) b3) (k3 R g y f0 f1 e6 O b3)) w) (br (E==6) (aA g λm5=>∃g6,w.cell? (m5.add 4)=some (hY g6)/\aA g λn1=>stV w ((n1.add 4).add 0) (hY (i64.wrap (g6+1))) λi0=>callE P d5 #[kT g,hY (i64.wrap (b4 - 1)),hY 3] (λe f4=>∃d0 W,∃e1 c4,∃d3 c8,e= hQ (.tuple #[hT d0 W e1,hT c4 d3 c8])/\aA g λi3=>∃f5,f4.cell? (i3.add 4)=some (hY f5)/\aA g λi2=>stV f4 ((i2.add 4).add 0) (hY (i64.wrap (f5 - 1))) λi1=>l1 R y c4 d3 c8 none 0 0 d0 W e1 (W:Int) 0 i1) i0) (br (E==7) (k4 R g b4 h9 y true w) (k4 R g b4 h9 y (E==8) w))))))
end aY
def aY (R:EP)(g:OA)(I:Int)(W:Bool)(w:World):Prop:=box w (N10.C {}) ae λb1 U=>aA g λa3=>∃V,U.cell? (a3.add 2)=some (hY V)/\aA g λa5=>stV U ((a5.add 2).add 0) (hY (i64.wrap (V+1))) λa6=>callE P aS #[kT g,hY 9] (λe y=>∃E,e= hQ (hY E)/\aA g λa9=>∃O,y.cell? (a9.add 2)=some (hY O)/\br ((decide (O>60))||((decide (I<=0)) && (decide (E >= 6)))) (aY.k1 R g I W b1 0 y) (aY.k1 R g I W b1 E y)) a6
theorem aY.sound {R x0 x1 x2 w}(h:aY R x0 x1 x2 w):callE P fz #[kT x0,hY x1,hV x2] R w:=
 aG [(31,.mk [2,27,40,146,167] (aY.k1 R)),(61359,.mk [2,146,241] (aY.k2 R)),(245679,.mk [2,146,303,326] (aY.k3 R)),(769967,.dr (rpN [0,3,12,7,9,16,18,31,23,26,29,33,38])),(23003055,.lp [146,403,423,3163,3187,3207] (aY.bl1 R) λXa=> []),(524207,.mk [2,27,40,146,3460] (aY.k4 R))] Tryz.func42 Tryz.call42 h
namespace bS
def k1 (R:EP)(Xa:OA->Int->OA->Nat->Nat->OA->Nat->Nat->Int->Int->WP)(e0:OA)(e1:Int)(c3:OA)(g c4:Nat)(d3:OA)(d0 c8:Nat)(c1:OA)(b3 b9 y:Nat)(d1 c9:Int)(w:World):Prop:=stV w (hZ y 8) (hY (i64.wrap ((g:Int)+1))) λc2=>stV c2 (hZ y 9) (hY (i64.wrap ((g:Int)+(b3:Int)))) λc5=>∃O W,∃a7 E,(Builtin.append_ #[al,al] al #[hT c3 g c4,hT c1 b3 b9]).run P c5= .ok (hT O W a7) E/\ldB10 E y λd2=>∃U b4,∃I b8,(Instr.buildSlice au 1 #[(0,d2.V)]).run P E= .ok (hT U b4 I) b8/\∃b5 a6,∃b6 b7,(Builtin.append_ #[au,au] au #[hT d3 d0 c8,hT U b4 I]).run P b8= .ok (hT b5 a6 b6) b7/\Xa e0 e1 O W a7 b5 a6 b6 d1 (i64.wrap (c9+1)) b7
def bl1 (R:EP)(Xa:OA->Int->OA->Nat->Nat->OA->Nat->Nat->Int->Int->WP)(b7:OA)(b8:Int)(O:OA)(b3 U:Nat)(b4:OA)(a6 W:Nat)(a7 g:Int)(w:World):Prop:=br (decide (g<a7)) ((2:Int)≠0/\callE P fz #[kT b7,hY b8,hV ((Int.tmod g 2)==1)] (λe f2=>∃I E,∃y c8,∃e0 d1,∃d3 d2,∃d0 c2,∃b9 c1,∃c5 c3,∃c4 e1 c9,e= hQ (.tuple #[hT I E y,(N10.V {a0:=c8,a1:=e0,a2:=d1,a3:=d3,a4:=d2,a5:=d0,q6:=c2,n6:=b9,c6:=c1,q7:=c5,n7:=c3,c7:=c4,a8:=e1,a9:=c9})])/\box f2 (N10.C {}) ae λb6 f1=>st10 f1 b6 {a0:=c8,a1:=e0,a2:=d1,a3:=d3,a4:=d2,a5:=d0,q6:=c2,n6:=b9,c6:=c1,q7:=c5,n7:=c3,c7:=c4,a8:=e1,a9:=c9} λe9=>br (decide (g>0)) (∃e4 e7,∃e5 f0,(Instr.buildSlice al 1 #[(0,hX (hP #[]))]).run P e9= .ok (hT e4 e7 e5) f0/\∃e6 e3,∃e2 e8,(Builtin.append_ #[al,al] al #[hT O b3 U,hT e4 e7 e5]).run P f0= .ok (hT e6 e3 e2) e8/\k1 R Xa b7 b8 e6 e3 e2 b4 a6 W I E y b6 a7 g e8) (k1 R Xa b7 b8 O b3 U b4 a6 W I E y b6 a7 g e9)) w) (R (hQ (.tuple #[hT O b3 U,hT b4 a6 W])) w)
def l1 (R:EP)(a6:OA)(a7:Int)(I:OA)(U O:Nat)(W:OA)(V y:Nat)(g E:Int)(w:World):Prop:=∀X:OA->Int->OA->Nat->Nat->OA->Nat->Nat->Int->Int->WP,(∀a6 a7 I U O W V y g E w,bl1 R X a6 a7 I U O W V y g E w->X a6 a7 I U O W V y g E w)->X a6 a7 I U O W V y g E w
end bS
def bS (R:EP)(g:OA)(O I:Int)(w:World):Prop:=callE P aS #[kT g,hY I] (λe E=>∃y,e= hQ (hY y)/\bS.l1 R g O none 0 0 none 0 0 (i64.wrap (1+y)) 0 E) w
theorem bS.sound {R x0 x1 x2 w}(h:bS R x0 x1 x2 w):callE P d5 #[kT x0,hY x1,hY x2] R w:=
 aG [(87,.lp [2,27,163,183,327,347] (bS.bl1 R) λXa=> [(243,.mk [2,27,163,183,223,246,327,347] (bS.k1 R Xa))])] Tryz.func29 Tryz.call29 h
namespace bX
def bl2 (R:EP)(Xa:OA->Nat->Nat->OA->Nat->Nat->Int->Int->WP)(e9:OA->Nat->Nat->OA->Nat->Nat->BA->Int->Int->OA->Nat->Nat->Int->Int->WP)(e1:OA)(e0 y:Nat)(c2:OA)(c5 d1:Nat)(d3:BA)(c4 d0:Int)(U:OA)(a7 e2:Nat)(d2 g:Int)(w:World):Prop:=br (decide (g<d2)) (0<=g/\g<(a7:Int)/\aA U λe4=>ldA10 w (e4.add (Int.toNat g*10)) λe7=>box w (N10.C {}) ae λc8 e3=>st10 e3 c8 e7 λE=>∃b6 b4 b8,E.cell? (hZ y 7)=some (hT b6 b4 b8)/\ldB10 E c8 λe6=>callE P eO #[hT b6 b4 b8,e6.V] (λe e5=>∃c1 I b9,e= hQ (hT c1 I b9)/\stV e5 (hZ y 7) (hT c1 I b9) λe8=>e9 e1 e0 y c2 c5 d1 d3 c4 d0 U a7 e2 d2 (i64.wrap (g+1)) e8) E) (∃b5 O,∃W c3,(Instr.buildSlice al 1 #[(0,hX d3)]).run P w= .ok (hT b5 O W) c3/\∃b7 a6,∃b3 c9,(Builtin.append_ #[al,al] al #[hT c2 c5 d1,hT b5 O W]).run P c3= .ok (hT b7 a6 b3) c9/\Xa e1 e0 y b7 a6 b3 c4 (i64.wrap (d0+1)) c9)
def l2 (R:EP)(Xa:OA->Nat->Nat->OA->Nat->Nat->Int->Int->WP)(b5:OA)(b4 b3:Nat)(O:OA)(I W:Nat)(b6:BA)(a6 V:Int)(g:OA)(y E:Nat)(a7 U:Int)(w:World):Prop:=∀X:OA->Nat->Nat->OA->Nat->Nat->BA->Int->Int->OA->Nat->Nat->Int->Int->WP,(∀b5 b4 b3 O I W b6 a6 V g y E a7 U w,bl2 R Xa X b5 b4 b3 O I W b6 a6 V g y E a7 U w->X b5 b4 b3 O I W b6 a6 V g y E a7 U w)->X b5 b4 b3 O I W b6 a6 V g y E a7 U w
def k1 (R:EP)(Xa:OA->Nat->Nat->OA->Nat->Nat->Int->Int->WP)(b3:OA)(a7 a6:Nat)(E:OA)(y O:Nat)(b4:BA)(U:OA)(g V:Nat)(W I:Int)(w:World):Prop:=l2 R Xa b3 a7 a6 E y O b4 W I U g V (g:Int) 0 w
def bl1 (R:EP)(Xa:OA->Nat->Nat->OA->Nat->Nat->Int->Int->WP)(b6:OA)(E g:Nat)(a6:OA)(b3 b5:Nat)(a7 y:Int)(w:World):Prop:=br (decide (y<a7)) (callE P eR #[kT b6] (λe b4=>∃W O,∃U I,e= hQ (.tuple #[hX W,hT O U I])/\br (decide (y>0)) (∃b8 c1 b7,b4.cell? (hZ g 7)=some (hT b8 c1 b7)/\callE P eO #[hT b8 c1 b7,(N10.V {a0:=21})] (λe c8=>∃c2 b9 c3,e= hQ (hT c2 b9 c3)/\stV c8 (hZ g 7) (hT c2 b9 c3) λc9=>k1 R Xa b6 E g a6 b3 b5 W O U I a7 y c9) b4) (k1 R Xa b6 E g a6 b3 b5 W O U I a7 y b4)) w) (tk w λc5=>ldB10 c5 g λd1=>st10 c5 E d1 λc4=>ldB10 c4 E λd0=>R (hQ (.tuple #[hT a6 b3 b5,d0.V])) c4)
def l1 (R:EP)(W:OA)(V U:Nat)(y:OA)(g I:Nat)(O E:Int)(w:World):Prop:=∀X:OA->Nat->Nat->OA->Nat->Nat->Int->Int->WP,(∀W V U y g I O E w,bl1 R X W V U y g I O E w->X W V U y g I O E w)->X W V U y g I O E w
end bX
def bX (R:EP)(y:OA)(w:World):Prop:=box w (N10.C {}) ae λb1 U=>box U (N10.C {}) ae λE V=>st10 V E {a0:=6} λO=>callE P aS #[kT y,hY 3] (λe I=>∃g,e= hQ (hY g)/\bX.l1 R y b1 E none 0 0 (i64.wrap (1+g)) 0 I) O
theorem bX.sound {R x0 w}(h:bX R x0 w):callE P dI #[kT x0] R w:=
 aG [(87,.lp [2,66,86,103,287,307] (bX.bl1 R) λXa=> [(243,.mk [2,66,86,103,141,163,287,307] (bX.k1 R Xa)),(1395,.lp [2,66,86,103,141,287,307,603,627,647] (bX.bl2 R Xa) λg=> [])]),(47,.dr (rpN [0,6,4,11]))] Tryz.func67 Tryz.call67 h
def oL (R:EP)(E:Int)(w:World):Prop:=callE P jo #[hX (hP #[32]),hY E] (λe y=>∃g,e= hQ (hX g)/\R (hQ (hX g)) y) w
theorem oL.sound {R x0 w}(h:oL R x0 w):callE P oI #[hY x0] R w:=
 cF Tryz.func24 Tryz.call24 h
namespace dm
def bl1 (R:EP)(Xa:OA->OA->Nat->Nat->Int->Int->WP)(U E:OA)(y I:Nat)(c1 b6:Int)(w:World):Prop:=br (decide (b6<c1)) (callE P aS #[kT U,hY 3] (λe c5=>∃b9,e= hQ (hY b9)/\callE P oI #[hY b9] (λe c2=>∃V,e= hQ (hX V)/\callE P cH #[kT U] (λe c3=>∃O,e= hQ (hX O)/\((V.size+O.size:Nat):Int)<=i64.max/\∃b5 b4,∃b3 b8,(Instr.buildSlice al 1 #[(0,hX (V++O))]).run P c3= .ok (hT b5 b4 b3) b8/\∃a6 a7,∃W b7,(Builtin.append_ #[al,al] al #[hT E y I,hT b5 b4 b3]).run P b8= .ok (hT a6 a7 W) b7/\Xa U a6 a7 W c1 (i64.wrap (b6+1)) b7) c2) c5) w) (callE P fU #[hT E y I,hX (hP #[10])] (λe c4=>∃g,e= hQ (hX g)/\((g.size+(hP #[10]).size:Nat):Int)<=i64.max/\R (hQ (.tuple #[hT E y I,hX (g++(hP #[10]))])) c4) w)
def l1 (R:EP)(U I:OA)(y g:Nat)(O E:Int)(w:World):Prop:=∀X:OA->OA->Nat->Nat->Int->Int->WP,(∀U I y g O E w,bl1 R X U I y g O E w->X U I y g O E w)->X U I y g O E w
end dm
def dm (R:EP)(g:OA)(w:World):Prop:=callE P cH #[kT g] (λe W=>∃V,e= hQ (hX V)/\∃I E,∃y U,(Instr.buildSlice al 1 #[(0,hX V)]).run P W= .ok (hT I E y) U/\callE P aS #[kT g,hY 3] (λe a6=>∃O,e= hQ (hY O)/\dm.l1 R g I E y O 0 a6) U) w
theorem dm.sound {R x0 w}(h:dm R x0 w):callE P i9 #[kT x0] R w:=
 aG [(43,.lp [2,83,187,207] (dm.bl1 R) λXa=> [])] Tryz.func66 Tryz.call66 h
def gq (R:EP)(g:Int)(w:World):Prop:=br (decide (g<10)) (0<=g/\g<=(i64.wrap (g+1))/\(i64.wrap (g+1))<=((hP #[48,49,50,51,52,53,54,55,56,57]).size:Int)/\R (hQ (hX ((hP #[48,49,50,51,52,53,54,55,56,57]).extract (Int.toNat g) (Int.toNat (i64.wrap (g+1)))))) w) ((10:Int)≠0/\callE P gn #[hY (i64.wrap (Int.tdiv g 10))] (λe I=>∃y,e= hQ (hX y)/\(10:Int)≠0/\callE P gn #[hY (Int.tmod g 10)] (λe O=>∃E,e= hQ (hX E)/\((y.size+E.size:Nat):Int)<=i64.max/\R (hQ (hX (y++E))) O) I) w)
theorem gq.sound {R x0 w}(h:gq R x0 w):callE P gn #[hY x0] R w:=
 cF Tryz.func89 Tryz.call89 h
namespace dF
def k1 (R:EP)(Xa:BA->OA->Nat->Nat->OA->Nat->Nat->Int->Int->WP)(b9:BA)(a7:OA)(a6 b6:Nat)(c1:BA)(b4:OA)(b7 b5:Nat)(b8 b3:Int)(w:World):Prop:=∃U E,∃y W,(Instr.buildSlice al 1 #[(0,hX c1)]).run P w= .ok (hT U E y) W/\∃O I,∃g V,(Builtin.append_ #[al,al] al #[hT a7 a6 b6,hT U E y]).run P W= .ok (hT O I g) V/\Xa b9 O I g b4 b7 b5 b8 (i64.wrap (b3+1)) V
def bl1 (R:EP)(Xa:BA->OA->Nat->Nat->OA->Nat->Nat->Int->Int->WP)(E:BA)(O:OA)(I U:Nat)(V:OA)(W a7:Nat)(a6 g:Int)(w:World):Prop:=br (decide (g<a6)) (0<=g/\g<(W:Int)/\aA V λa1=>∃y,w.cell? (a1.add (Int.toNat g*1))=some (hX y)/\br (!(y.toList==(hP #[]).toList)) (((E.size+y.size:Nat):Int)<=i64.max/\k1 R Xa E O I U (E++y) V W a7 a6 g w) (k1 R Xa E O I U y V W a7 a6 g w)) (R (hQ (hT O I U)) w)
def l1 (R:EP)(a6:BA)(y:OA)(g I:Nat)(O:OA)(V U:Nat)(W E:Int)(w:World):Prop:=∀X:BA->OA->Nat->Nat->OA->Nat->Nat->Int->Int->WP,(∀a6 y g I O V U W E w,bl1 R X a6 y g I O V U W E w->X a6 y g I O V U W E w)->X a6 y g I O V U W E w
end dF
def dF (R:EP)(I:BA)(E:OA)(g y:Nat)(w:World):Prop:=dF.l1 R I none 0 0 E g y (g:Int) 0 w
theorem dF.sound {R x0 x1q x1n x1c w}(h:dF R x0 x1q x1n x1c w):callE P kX #[hX x0,hT x1q x1n x1c] R w:=
 aG [(43,.lp [1,103,163,187,207] (dF.bl1 R) λXa=> [(115,.mk [1,103,141,163,187,207] (dF.k1 R Xa))])] Tryz.func90 Tryz.call90 h
namespace dl
def bl1 (R:EP)(Xa:OA->BA->OA->Nat->Nat->Int->Int->WP)(E:OA)(y:BA)(e5:OA)(e7 e8:Nat)(b3 W:Int)(w:World):Prop:=br (decide (W<b3)) (callE P cH #[kT E] (λe g1=>∃g,e= hQ (hX g)/\∃b6 b5,∃b7 e6,(Instr.buildSlice au 1 #[(0,(N10.V {a0:=20,a1:=g}))]).run P g1= .ok (hT b6 b5 b7) e6/\callE P eO #[hT e5 e7 e8,.agg #[hY 20,hX (hP #[32]),hX (hP #[]),hY 0,hX (hP #[]),hV false,hT none 0 0,hT none 0 0,hY 0,hY 0]] (λe f3=>∃I O U,e= hQ (hT I O U)/\callE P aS #[kT E,hY 7] (λe a7=>∃b4,e= hQ (hY b4)/\br (b4==0) ((((hP #[32,42]).size+g.size:Nat):Int)<=i64.max/\((((hP #[32,42])++g).size+(hP #[42]).size:Nat):Int)<=i64.max/\((y.size+(((hP #[32,42])++g)++(hP #[42])).size:Nat):Int)<=i64.max/\callE P eO #[hT I O U,(N10.V {a0:=24,q7:=b6,n7:=b5,c7:=b7})] (λe f5=>∃c3 c5 b8,e= hQ (hT c3 c5 b8)/\Xa E (y++(((hP #[32,42])++g)++(hP #[42]))) c3 c5 b8 b3 (i64.wrap (W+1)) f5) a7) (br (b4==1) ((((hP #[32,42,42]).size+g.size:Nat):Int)<=i64.max/\((((hP #[32,42,42])++g).size+(hP #[42,42]).size:Nat):Int)<=i64.max/\((y.size+(((hP #[32,42,42])++g)++(hP #[42,42])).size:Nat):Int)<=i64.max/\callE P eO #[hT I O U,(N10.V {a0:=25,q7:=b6,n7:=b5,c7:=b7})] (λe g0=>∃c4 d0 c8,e= hQ (hT c4 d0 c8)/\Xa E (y++(((hP #[32,42,42])++g)++(hP #[42,42]))) c4 d0 c8 b3 (i64.wrap (W+1)) g0) a7) (br (b4==2) ((((hP #[32,96]).size+g.size:Nat):Int)<=i64.max/\((((hP #[32,96])++g).size+(hP #[96]).size:Nat):Int)<=i64.max/\((y.size+(((hP #[32,96])++g)++(hP #[96])).size:Nat):Int)<=i64.max/\callE P eO #[hT I O U,(N10.V {a0:=23,a1:=g})] (λe f2=>∃c9 c1 b9,e= hQ (hT c9 c1 b9)/\Xa E (y++(((hP #[32,96])++g)++(hP #[96]))) c9 c1 b9 b3 (i64.wrap (W+1)) f2) a7) (br (b4==3) (callE P cH #[kT E] (λe f1=>∃a6,e= hQ (hX a6)/\(((hP #[47]).size+a6.size:Nat):Int)<=i64.max/\(((hP #[32,91]).size+g.size:Nat):Int)<=i64.max/\((((hP #[32,91])++g).size+(hP #[93,40]).size:Nat):Int)<=i64.max/\(((((hP #[32,91])++g)++(hP #[93,40])).size+((hP #[47])++a6).size:Nat):Int)<=i64.max/\((((((hP #[32,91])++g)++(hP #[93,40]))++((hP #[47])++a6)).size+(hP #[41]).size:Nat):Int)<=i64.max/\((y.size+(((((hP #[32,91])++g)++(hP #[93,40]))++((hP #[47])++a6))++(hP #[41])).size:Nat):Int)<=i64.max/\callE P eO #[hT I O U,.agg #[hY 27,hX ((hP #[47])++a6),hX (hP #[]),hY 0,hX (hP #[]),hV false,hT none 0 0,hT b6 b5 b7,hY 0,hY 0]] (λe f7=>∃c2 d3 e1,e= hQ (hT c2 d3 e1)/\Xa E (y++(((((hP #[32,91])++g)++(hP #[93,40]))++((hP #[47])++a6))++(hP #[41]))) c2 d3 e1 b3 (i64.wrap (W+1)) f7) f1) a7) (br (b4==4) ((((hP #[32,92,42]).size+g.size:Nat):Int)<=i64.max/\((y.size+((hP #[32,92,42])++g).size:Nat):Int)<=i64.max/\(((hP #[42]).size+g.size:Nat):Int)<=i64.max/\callE P eO #[hT I O U,.agg #[hY 20,hX ((hP #[42])++g),hX (hP #[]),hY 0,hX (hP #[]),hV false,hT none 0 0,hT none 0 0,hY 0,hY 0]] (λe e9=>∃e0 e4 d2,e= hQ (hT e0 e4 d2)/\Xa E (y++((hP #[32,92,42])++g)) e0 e4 d2 b3 (i64.wrap (W+1)) e9) a7) ((((hP #[32]).size+g.size:Nat):Int)<=i64.max/\((y.size+((hP #[32])++g).size:Nat):Int)<=i64.max/\0<=(0:Int)/\0<(b5:Int)/\aA b6 λf4=>ldA10 a7 (f4.add (Int.toNat 0*10)) λf0=>callE P eO #[hT I O U,f0.V] (λe f6=>∃e2 e3 d1,e= hQ (hT e2 e3 d1)/\Xa E (y++((hP #[32])++g)) e2 e3 d1 b3 (i64.wrap (W+1)) f6) a7)))))) f3) e6) w) (R (hQ (.tuple #[hX y,hT e5 e7 e8])) w)
def l1 (R:EP)(V:OA)(U:BA)(E:OA)(g O:Nat)(I y:Int)(w:World):Prop:=∀X:OA->BA->OA->Nat->Nat->Int->Int->WP,(∀V U E g O I y w,bl1 R X V U E g O I y w->X V U E g O I y w)->X V U E g O I y w
end dl
def dl (R:EP)(g:OA)(w:World):Prop:=callE P cH #[kT g] (λe a6=>∃y,e= hQ (hX y)/\∃O I,∃E W,(Instr.buildSlice au 1 #[(0,(N10.V {a0:=20,a1:=y}))]).run P a6= .ok (hT O I E) W/\callE P aS #[kT g,hY 3] (λe a7=>∃U,e= hQ (hY U)/\dl.l1 R g y O I E U 0 a7) W) w
theorem dl.sound {R x0 w}(h:dl R x0 w):callE P eR #[kT x0] R w:=
 aG [(87,.lp [2,81,103,307,327] (dl.bl1 R) λXa=> [])] Tryz.func64 Tryz.call64 h
def ji (R:EP)(g:OA)(b4:Int)(w:World):Prop:=tk w λy=>aA g λa2=>aA g λa3=>∃a7,y.cell? (a2.add 1)=some (hY a7)/\∃b8 V b7,y.cell? a3=some (hT b8 V b7)/\br (decide (a7 >= (V:Int))) (R (hQ (hY 0)) y) (aA g λb9=>∃b3,y.cell? (b9.add 1)=some (hY b3)/\aA g λa8=>stV y ((a8.add 1).add 0) (hY (i64.wrap (b3+1))) λc1=>tk c1 λI=>aA g λa11=>aA g λa12=>∃U O b5,I.cell? a11=some (hT U O b5)/\∃E,I.cell? (a12.add 1)=some (hY E)/\0<=(i64.wrap (E - 1))/\(i64.wrap (E - 1))<(O:Int)/\aA U λb6=>∃W,I.cell? (b6.add (Int.toNat (i64.wrap (E - 1))*1))=some (.int .u8 W)/\b4≠0/\R (hQ (hY (Int.tmod (i64.wrap W) b4))) I)
theorem ji.sound {R x0 x1 w}(h:ji R x0 x1 w):callE P aS #[kT x0,hY x1] R w:=
 aG [(9,.dr (rpN [0,3,6,12,15,18,10,22,24,27])),(23,.dr (rpN [0,3,6,12,15,18,36,10,22,24,27,31,33,39,42]))] Tryz.func41 Tryz.call41 h
def jh (R:EP)(E:OA)(w:World):Prop:=callE P aS #[kT E,hY 26] (λe I=>∃g,e= hQ (hY g)/\tk I λO=>0<=g/\g<=(i64.wrap (g+1))/\(i64.wrap (g+1))<=((hP #[97,98,99,100,101,102,103,104,105,106,107,108,109,110,111,112,113,114,115,116,117,118,119,120,121,122]).size:Int)/\callE P aS #[kT E,hY 4] (λe U=>∃y,e= hQ (hY y)/\0<=y/\y<=((hP #[111,110,108,121,119,111,114,100,115]).size:Int)/\((((hP #[97,98,99,100,101,102,103,104,105,106,107,108,109,110,111,112,113,114,115,116,117,118,119,120,121,122]).extract (Int.toNat g) (Int.toNat (i64.wrap (g+1)))).size+((hP #[111,110,108,121,119,111,114,100,115]).extract 0 (Int.toNat y)).size:Nat):Int)<=i64.max/\R (hQ (hX (((hP #[97,98,99,100,101,102,103,104,105,106,107,108,109,110,111,112,113,114,115,116,117,118,119,120,121,122]).extract (Int.toNat g) (Int.toNat (i64.wrap (g+1))))++((hP #[111,110,108,121,119,111,114,100,115]).extract 0 (Int.toNat y))))) U) O) w
theorem jh.sound {R x0 w}(h:jh R x0 w):callE P cH #[kT x0] R w:=
 aG [(11,.dr (rpN [0,3,6,9,12,17,18,21,24]))] Tryz.func65 Tryz.call65 h
namespace av
def k4 (R:EP)(Xa:OA->BA->OA->Nat->Nat->Int->Bool->Int->WP)(g:OA)(c8:BA)(b6:OA)(b9 c3:Nat)(c9:Int)(c5:Bool)(c1:Value)(b5:Int)(w:World):Prop:=aA g λc4=>∃E I a7,w.cell? (c4.add 9)=some (hT E I a7)/\∃y W,∃U b4,(Instr.buildSlice ap 1 #[(0,c1)]).run P w= .ok (hT y W U) b4/\∃O V,∃a6 b3,(Builtin.append_ #[ap,ap] ap #[hT E I a7,hT y W U]).run P b4= .ok (hT O V a6) b3/\aA g λb8=>stV b3 ((b8.add 9).add 0) (hT O V a6) λc2=>callE P ik #[kT g,hY b5] (λe b7=>e= hQ (.tuple #[])/\Xa g c8 b6 b9 c3 c9 c5 b5 b7) c2
def k10 (R:EP)(Xa:OA->BA->OA->Nat->Nat->Int->Bool->Int->WP)(g:OA)(c1:BA)(b5:OA)(b7 b8:Nat)(d0:Int)(b9:Bool)(c9:Int)(b6:OA)(I:Int)(w:World):Prop:=aA g λc5=>∃a7 U a6,w.cell? (c5.add 9)=some (hT a7 U a6)/\∃W V,∃O b4,(Instr.sliceAt ap (hT a7 U a6) none (some (hY (i64.wrap (c9+1)))) none).run P w= .ok (hT W V O) b4/\aA g λc8=>stV b4 ((c8.add 9).add 0) (hT W V O) λc2=>callE P ik #[kT g,hY I] (λe y=>e= hQ (.tuple #[])/\aA b6 λc4=>∃E,y.cell? c4=some (hX E)/\0<=(0:Int)/\0<(E.size:Int)/\br ((bt E 0)==91) (aA b6 λc3=>∃b3,y.cell? (c3.add 1)=some (hY b3)/\Xa g c1 b5 b7 b8 b3 b9 I y) (Xa g c1 b5 b7 b8 d0 b9 I y)) c2
def k9 (R:EP)(Xa:OA->BA->OA->Nat->Nat->Int->Bool->Int->WP)(y:OA)(d2:BA)(c5:OA)(c8 d0:Nat)(d3:Int)(d1:Bool)(f2 g:Int)(U O:OA)(c9:Int)(w:World):Prop:=callE P dv #[kT y,hY f2] (λe c3=>e= hQ (.tuple #[])/\aA y λe9=>∃b4 b8 c2,c3.cell? (e9.add 9)=some (hT b4 b8 c2)/\∃b6 a6,∃a7 c4,(Instr.sliceAt ap (hT b4 b8 c2) (some (hY (i64.wrap (g+1)))) none none).run P c3= .ok (hT b6 a6 a7) c4/\callE P fE #[kT y,hT none 0 0,hT b6 a6 a7] (λe e5=>∃b5 c1 b7,e= hQ (hT b5 c1 b7)/\aA O λe2=>stV e5 (e2.add 0) (hT b5 c1 b7) λE=>aA U λe4=>∃I,E.cell? e4=some (hX I)/\0<=(0:Int)/\0<(I.size:Int)/\br ((bt I 0)==33) (aA y λe3=>∃b9 b3 e1,E.cell? (e3.add 9)=some (hT b9 b3 e1)/\0<=g/\g<(b3:Int)/\aA b9 λe7=>stV E ((e7.add (Int.toNat g*1)).add 0) (.iface l7 (kT O)) λf0=>k10 R Xa y d2 c5 c8 d0 d3 d1 g U c9 f0) (aA y λf1=>∃W V e0,E.cell? (f1.add 9)=some (hT W V e0)/\0<=g/\g<(V:Int)/\aA W λe8=>stV E ((e8.add (Int.toNat g*1)).add 0) (.iface l6 (kT O)) λe6=>k10 R Xa y d2 c5 c8 d0 d3 d1 g U c9 e6)) c4) w
def k8 (R:EP)(Xa:OA->BA->OA->Nat->Nat->Int->Bool->Int->WP)(g:OA)(V:BA)(W:OA)(a6 b3:Nat)(b5:Int)(b4:Bool)(U a7:Int)(O:OA)(d0:Bool)(w:World):Prop:=br d0 (callE P eQ #[kT g,hX V,hY U,kT O] (λe E=>∃y I b6,e= hQ (.tuple #[kT y,hY I,hV b6])/\br b6 (aA g λe0=>∃b7,E.cell? (e0.add 6)=some (hV b7)/\br b7 (aA g λc2=>stV E ((c2.add 6).add 0) (hV true) λc3=>k9 R Xa g V W a6 b3 b5 b4 U a7 O y I c3) (aA y λd1=>∃b8,E.cell? (d1.add 4)=some (hV b8)/\br b8 (aA g λc5=>stV E ((c5.add 6).add 0) (hV true) λc8=>k9 R Xa g V W a6 b3 b5 b4 U a7 O y I c8) (aA y λc4=>∃b9,E.cell? (c4.add 1)=some (hX b9)/\callE P nL #[hX b9] (λe d2=>∃c1,e= hQ (hV c1)/\aA g λc9=>stV d2 ((c9.add 6).add 0) (hV c1) λd3=>k9 R Xa g V W a6 b3 b5 b4 U a7 O y I d3) E))) (False)) w) (False)
def k7 (R:EP)(Xa:OA->BA->OA->Nat->Nat->Int->Bool->Int->WP)(O:OA)(b6:BA)(a7:OA)(g c1:Nat)(U:Int)(b4:Bool)(b5:Int)(c4:Bool)(w:World):Prop:=br c4 (0<=(i64.wrap ((g:Int) - 1))/\(i64.wrap ((g:Int) - 1))<(g:Int)/\aA a7 λd2=>∃y,w.cell? (d2.add (Int.toNat (i64.wrap ((g:Int) - 1))*1))=some (hY y)/\aA O λd1=>∃b7 b8 c5,w.cell? (d1.add 9)=some (hT b7 b8 c5)/\0<=y/\y<(b8:Int)/\aA b7 λc9=>∃(c2:Value),w.cell? (c9.add (Int.toNat y*1))=some c2/\∃I c3,(Instr.typeAssert c2 aD aQ false).run P w= .ok (kT I) c3/\∃a6 V,∃W E,(Instr.sliceAt cA (hT a7 g c1) none (some (hY (i64.wrap ((g:Int) - 1)))) none).run P c3= .ok (hT a6 V W) E/\aA I λd0=>∃b3,E.cell? d0=some (hX b3)/\0<=(0:Int)/\0<(b3.size:Int)/\br ((bt b3 0)==33) (k8 R Xa O b6 a6 V W U b4 b5 y I true E) (aA I λc8=>∃b9,E.cell? (c8.add 1)=some (hY b9)/\k8 R Xa O b6 a6 V W U b4 b5 y I (decide (U<=b9)) E)) (Xa O b6 a7 g c1 U b4 (i64.wrap (b5+1)) w)
def k5 (R:EP)(Xa:OA->BA->OA->Nat->Nat->Int->Bool->Int->WP)(V:OA)(y:BA)(I:OA)(E O:Nat)(U:Int)(W:Bool)(g:Int)(w:World):Prop:=0<=g/\g<(y.size:Int)/\k7 R Xa V y I E O U W g (((bt y g)==93) && (decide ((E:Int)>0))) w
def k1 (R:EP)(Xa:OA->BA->OA->Nat->Nat->Int->Bool->Int->WP)(g:OA)(I:BA)(U:OA)(V a6:Nat)(b4:Int)(a7:Bool)(d1:Int)(b3:Value)(w:World):Prop:=∃c8 W,(do eqGuard .neq aX (.tmp 113) (.const .nilFunc) b3 .nilFunc;binOp .neq aX b3 .nilFunc).run P w= .ok (hV c8) W/\br c8 (de P (do let d <-Deferred.ofValue b3 #[kT g,hX I,hY d1];invoke d.target d.args) (λe e2=>∃(y:Value),∃b7 O b5,e= hQ (.tuple #[y,hY b7,hY O,hV b5])/\br b5 (callE P dv #[kT g,hY b7] (λe e3=>e= hQ (.tuple #[])/\∃d2 b6 E,(Instr.typeAssert y aD aQ true).run P e3= .ok (.tuple #[kT d2,hV b6]) E/\br b6 (aA g λe1=>∃e0 c4 d3,E.cell? (e1.add 9)=some (hT e0 c4 d3)/\∃c1 b8,∃c5 d0,(Instr.buildSlice cA 1 #[(0,hY (c4:Int))]).run P E= .ok (hT c1 b8 c5) d0/\∃c2 c3,∃b9 c9,(Builtin.append_ #[cA,cA] cA #[hT U V a6,hT c1 b8 c5]).run P d0= .ok (hT c2 c3 b9) c9/\k4 R Xa g I c2 c3 b9 b4 a7 y O c9) (k4 R Xa g I U V a6 b4 a7 y O E)) e2) (False)) W) (k5 R Xa g I U V a6 b4 a7 d1 W)
def k2 (R:EP)(Xa:OA->BA->OA->Nat->Nat->Int->Bool->Int->WP)(g:OA)(W:BA)(E:OA)(y I:Nat)(V:Int)(a6:Bool)(U:Int)(w:World):Prop:=aA g λO=>k1 R Xa g W E y I V a6 U (.func (.func bK) #[kT (some (O.add 12))] #[]) w
def k6 (R:EP)(Xa:OA->BA->OA->Nat->Nat->Int->Bool->Int->WP)(g:OA)(V:BA)(y:OA)(E I:Nat)(W:Int)(O:Bool)(U:Int)(a7:Value)(a6:Int)(c2:Bool)(w:World):Prop:=br c2 (aA g λc4=>∃b7,w.cell? c4=some (kT b7)/\aA b7 λc1=>∃b4,w.cell? (c1.add 9)=some (hV b4)/\br b4 (k1 R Xa g V y E I W O U (.func (.func dV) #[] #[]) w) (k1 R Xa g V y E I W O U a7 w)) (br (a6==126) (aA g λc8=>∃b6,w.cell? c8=some (kT b6)/\aA b6 λc5=>∃b8,w.cell? (c5.add 1)=some (hV b8)/\br b8 (k1 R Xa g V y E I W O U (.func (.func dV) #[] #[]) w) (k1 R Xa g V y E I W O U a7 w)) (br (a6==10) (k1 R Xa g V y E I W O U (.func (.func j9) #[] #[]) w) (br (a6==38) (k1 R Xa g V y E I W O U (.func (.func mf) #[] #[]) w) (br (a6==58) (aA g λb9=>∃b5,w.cell? b9=some (kT b5)/\aA b5 λc3=>∃b3,w.cell? (c3.add 6)=some (hV b3)/\br b3 (k1 R Xa g V y E I W O U (.func (.func rQ) #[] #[]) w) (k1 R Xa g V y E I W O U a7 w)) (k1 R Xa g V y E I W O U a7 w)))))
def k3 (R:EP)(Xa:OA->BA->OA->Nat->Nat->Int->Bool->Int->WP)(g:OA)(V:BA)(y:OA)(E I:Nat)(W:Int)(O:Bool)(U:Int)(a7:Value)(a6:Int)(c2:Bool)(w:World):Prop:=br c2 (k1 R Xa g V y E I W O U (.func (.func dV) #[] #[]) w) (br (a6==46) (aA g λc1=>∃b5,w.cell? c1=some (kT b5)/\aA b5 λb7=>∃b6,w.cell? (b7.add 7)=some (hV b6)/\br b6 (k1 R Xa g V y E I W O U (.func (.func uY) #[] #[]) w) (k1 R Xa g V y E I W O U a7 w)) (br (a6==45) (aA g λb8=>∃b3,w.cell? b8=some (kT b3)/\aA b3 λb9=>∃b4,w.cell? (b9.add 8)=some (hV b4)/\br b4 (k1 R Xa g V y E I W O U (.func (.func tK) #[] #[]) w) (k1 R Xa g V y E I W O U a7 w)) (br (a6==34) (k6 R Xa g V y E I W O U a7 a6 true w) (k6 R Xa g V y E I W O U a7 a6 (a6==39) w))))
def bl1 (R:EP)(Xa:OA->BA->OA->Nat->Nat->Int->Bool->Int->WP)(g:OA)(E:BA)(I:OA)(O U:Nat)(W:Int)(V:Bool)(y:Int)(w:World):Prop:=br (decide (y<(E.size:Int))) (0<=y/\y<(E.size:Int)/\br ((bt E y)==92) (k1 R Xa g E I O U W V y (.func (.func jw) #[] #[]) w) (br ((bt E y)==96) (br (!V) (aA g λa9=>callE P dT #[kT (some (a9.add 12))] (λe f3=>e= hQ (.tuple #[])/\k2 R Xa g E I O U W true y f3) w) (k2 R Xa g E I O U W V y w)) (br ((bt E y)==60) (k1 R Xa g E I O U W V y (.func (.func ka) #[] #[]) w) (br ((bt E y)==91) (k1 R Xa g E I O U W V y (.func (.func gO) #[] #[]) w) (br ((bt E y)==33) (k1 R Xa g E I O U W V y (.func (.func mX) #[] #[]) w) (br ((bt E y)==95) (k3 R Xa g E I O U W V y .nilFunc (bt E y) true w) (k3 R Xa g E I O U W V y .nilFunc (bt E y) ((bt E y)==42) w))))))) (callE P dv #[kT g,hY (E.size:Int)] (λe f4=>e= hQ (.tuple #[])/\tk f4 λa6=>aA g λf2=>aA g λg2=>∃e3 c9 c1,a6.cell? (f2.add 9)=some (hT e3 c9 c1)/\∃a7 e5 c3,(∀w,(Instr.sliceAt ap (hT e3 c9 c1) none (some (hY 0)) none).run P w= .ok (hT a7 e5 c3) w)/\∃b3 d0 b4,a6.cell? (g2.add 9)=some (hT b3 d0 b4)/\callE P fE #[kT g,hT a7 e5 c3,hT b3 d0 b4] (λe f1=>∃d1 c8 e6,e= hQ (hT d1 c8 e6)/\aA g λf5=>stV f1 ((f5.add 9).add 0) (hT d1 c8 e6) λe9=>aA g λg0=>∃b6 b5 e7,e9.cell? (g0.add 9)=some (hT b6 b5 e7)/\callE P fO #[kT g,hT b6 b5 e7] (λe g3=>∃e0 b7 d2,e= hQ (hT e0 b7 d2)/\aA g λg1=>stV g3 ((g1.add 9).add 0) (hT e0 b7 d2) λe8=>aA g λg4=>∃b9 c5 d3,e8.cell? (g4.add 9)=some (hT b9 c5 d3)/\callE P dY #[kT g,hT b9 c5 d3] (λe g5=>∃e4 e1 b8,e= hQ (hT e4 e1 b8)/\aA g λf7=>stV g5 ((f7.add 9).add 0) (hT e4 e1 b8) λf0=>aA g λf6=>∃e2 c4 c2,f0.cell? (f6.add 9)=some (hT e2 c4 c2)/\R (hQ (hT e2 c4 c2)) f0) e8) e9) a6) w)
def l1 (R:EP)(U:OA)(V:BA)(y:OA)(g E:Nat)(O:Int)(W:Bool)(I:Int)(w:World):Prop:=∀X:OA->BA->OA->Nat->Nat->Int->Bool->Int->WP,(∀U V y g E O W I w,bl1 R X U V y g E O W I w->X U V y g E O W I w)->X U V y g E O W I w
end av
def av (R:EP)(g:OA)(W:BA)(w:World):Prop:=callE P iM #[hX W] (λe E=>∃y,e= hQ (hX y)/\aA g λa3=>stV E ((a3.add 7).add 0) (hX y) λV=>aA g λa5=>stV V ((a5.add 9).add 0) (hT none 0 0) λU=>aA g λI=>stV U ((I.add 8).add 0) (hY 0) λO=>av.l1 R g y none 0 0 0 false 0 O) w
theorem av.sound {R x0 x1 w}(h:av R x0 x1 w):callE P fP #[kT x0,hX x1] R w:=
 aG [(2559,.lp [2,21,103,127,140,167] (av.bl1 R) λXa=> [(3541,.mk [2,21,103,127,140,167] (av.k2 R Xa)),(262101,.mk [2,21,103,127,140,167,185,788,1200] (av.k3 R Xa)),(16777173,.mk [2,21,103,127,140,167,185,788,1620] (av.k6 R Xa)),(29,.mk [2,21,103,127,140,167,185] (av.k1 R Xa)),(7597,.mk [2,21,103,127,140,205,247] (av.k4 R Xa)),(1965,.no),(61,.mk [2,21,103,127,140,167] (av.k5 R Xa)),(221,.mk [2,21,103,127,140,167,3300] (av.k7 R Xa)),(8029,.mk [2,21,103,127,140,167,327,342,3980] (av.k8 R Xa)),(225117,.mk [2,21,103,127,140,167,327,342,362,387] (av.k9 R Xa)),(2060125,.mk [2,21,103,127,140,327,342,387] (av.k10 R Xa)),(126813,.no),(16221,.no)]),(6143,.dr (rpN [0,3,6,9,12,21,24,27,16,18,31,35,36,39,44]))] Tryz.func82 Tryz.call82 h
namespace aE
def k8 (R:EP)(Xa:OA->BA->Int->Int->Int->Int->WP)(O y:Int)(g:BA)(w:World):Prop:=box w #[hX g] Cc λE I=>R (hQ (.tuple #[.iface pP (kT (kE E)),hY O,hY y,hV true])) I
def k7 (R:EP)(Xa:OA->BA->Int->Int->Int->Int->WP)(I E:Int)(y:BA)(g:Bool)(w:World):Prop:=br g (False) (k8 R Xa I E y w)
def k6 (R:EP)(Xa:OA->BA->Int->Int->Int->Int->WP)(b4:OA)(a6:BA)(I W:Int)(y U:Int)(E b3:Int)(w:World):Prop:=br (b3==y) (0<=(i64.wrap (I+y))/\(i64.wrap (I+y))<=E/\E<=(a6.size:Int)/\callE P lT #[hX (a6.extract (Int.toNat (i64.wrap (I+y))) (Int.toNat E)),hX (hP #[10]),hX (hP #[32])] (λe O=>∃g,e= hQ (hX g)/\((decide ((g.size:Int) >= 2))=true->0<=(0:Int)/\0<(g.size:Int))/\(((decide ((g.size:Int) >= 2)) && ((bt g 0)==32))=true->0<=(i64.wrap ((g.size:Int) - 1))/\(i64.wrap ((g.size:Int) - 1))<(g.size:Int))/\br (((decide ((g.size:Int) >= 2)) && ((bt g 0)==32)) && ((bt g (i64.wrap ((g.size:Int) - 1)))==32)) (callE P zv #[hX g] (λe a7=>∃V,e= hQ (hX V)/\k7 R Xa W U g (!(V.toList==(hP #[]).toList)) a7) O) (k7 R Xa W U g false O)) w) (False)
def k5 (R:EP)(Xa:OA->BA->Int->Int->Int->Int->WP)(E:OA)(b4:BA)(b3 V:Int)(I O:Int)(y g:Int)(U:Bool)(w:World):Prop:=br U (aA E λW=>0<=(i64.wrap (g - 1))/\(i64.wrap (g - 1))<(80:Int)/\stV w ((W.add (Int.toNat (i64.wrap (g - 1))*1)).add 0) (hY y) λa6=>k6 R Xa E b4 b3 V I O y g a6) (False)
def k4 (R:EP)(Xa:OA->BA->Int->Int->Int->Int->WP)(E:OA)(W:BA)(V U:Int)(O y g:Int)(w:World):Prop:=aA E λa5=>∃I,w.cell? (a5.add 80)=some (hV I)/\k5 R Xa E W V U O y g (i64.wrap (y - g)) ((!I) && (decide ((i64.wrap (y - g))<80))) w
def bl3 (R:EP)(Xa:OA->BA->Int->Int->Int->Int->WP)(W:OA->BA->Int->Int->Int->Int->Int->WP)(V:OA)(y:BA)(U O:Int)(I g E:Int)(w:World):Prop:=((decide (g<(y.size:Int)))=true->0<=g/\g<(y.size:Int))/\br ((decide (g<(y.size:Int))) && ((bt y g)==96)) (W V y U O I (i64.wrap (g+1)) E w) (k4 R Xa V y U O I g E w)
def l3 (R:EP)(Xa:OA->BA->Int->Int->Int->Int->WP)(U:OA)(V:BA)(O I:Int)(y E g:Int)(w:World):Prop:=∀X:OA->BA->Int->Int->Int->Int->Int->WP,(∀U V O I y E g w,bl3 R Xa X U V O I y E g w->X U V O I y E g w)->X U V O I y E g w
def bl2 (R:EP)(Xa:OA->BA->Int->Int->Int->Int->WP)(U:OA)(y:BA)(O I:Int)(E g:Int)(w:World):Prop:=br (decide (g<(y.size:Int))) (0<=g/\g<(y.size:Int)/\br ((bt y g) !=96) (Xa U y O I E (i64.wrap (g+1)) w) (l3 R Xa U y O I E g g w)) (False)
def l2 (R:EP)(O:OA)(U:BA)(I E:Int)(g y:Int)(w:World):Prop:=∀X:OA->BA->Int->Int->Int->Int->WP,(∀O U I E g y w,bl2 R X O U I E g y w->X O U I E g y w)->X O U I E g y w
def k3 (R:EP)(I:OA)(O:BA)(y E g:Int)(w:World):Prop:=l2 R I O y E g (i64.wrap (y+g)) w
def k1 (R:EP)(y:OA)(V:BA)(E I g:Int)(w:World):Prop:=br (decide (g>80)) (False) (aA y λa1=>∃U,w.cell? (a1.add 80)=some (hV U)/\br U (aA y λa3=>0<=(i64.wrap (g - 1))/\(i64.wrap (g - 1))<(80:Int)/\∃O,w.cell? (a3.add (Int.toNat (i64.wrap (g - 1))*1))=some (hY O)/\br (decide (O<(i64.wrap (E+g)))) (False) (k3 R y V E I g w)) (k3 R y V E I g w))
def bl1 (R:EP)(U:OA->BA->Int->Int->Int->WP)(O:OA)(E:BA)(y I g:Int)(w:World):Prop:=((decide ((i64.wrap (y+g))<(E.size:Int)))=true->0<=(i64.wrap (y+g))/\(i64.wrap (y+g))<(E.size:Int))/\br ((decide ((i64.wrap (y+g))<(E.size:Int))) && ((bt E (i64.wrap (y+g)))==96)) (False) (k1 R O E y I g w)
def l1 (R:EP)(I:OA)(O:BA)(E y g:Int)(w:World):Prop:=∀X:OA->BA->Int->Int->Int->WP,(∀I O E y g w,bl1 R X I O E y g w->X I O E y g w)->X I O E y g w
end aE
def aE (R:EP)(E I:OA)(y:BA)(g:Int)(w:World):Prop:=aE.l1 R E y g g 1 w
theorem aE.sound {R x0 x1 x2 x3 w}(h:aE R x0 x1 x2 x3 w):callE P bK #[kT x0,kT x1,hX x2,hY x3] R w:=
 aG [(77,.lp [2,41,67,247,267] (aE.bl1 R) λg=> [(10,.no)]),(61,.mk [2,41,67,247,267] (aE.k1 R)),(349,.no),(125,.mk [2,41,67,247,267] (aE.k3 R)),(701,.lp [2,41,67,247,267,287] (aE.bl2 R) λXa=> [(14,.no),(77,.lp [2,41,67,247,267,287,307] (aE.bl3 R Xa) λy=> []),(61,.mk [2,41,67,247,267,287,307] (aE.k4 R Xa)),(445,.mk [2,41,67,247,267,287,307,327,1860] (aE.k5 R Xa)),(957,.no),(253,.mk [2,41,67,247,267,287,307,327] (aE.k6 R Xa)),(14077,.mk [247,287,341,2640] (aE.k7 R Xa)),(22269,.no),(7933,.mk [247,287,341] (aE.k8 R Xa)),(1021,.no)]),(1021,.no)] Tryz.func111 Tryz.call111 h
def gy (R:EP)(m3:OA)(w:World):Prop:=aA m3 λa1=>stV w (a1.add 0) (hY 0) λn1=>stV n1 (a1.add 1) (hY 0) λm6=>stV m6 (a1.add 2) (hY 0) λm1=>stV m1 (a1.add 3) (hY 0) λm4=>stV m4 (a1.add 4) (hY 0) λn0=>stV n0 (a1.add 5) (hY 0) λn2=>stV n2 (a1.add 6) (hY 0) λm5=>stV m5 (a1.add 7) (hY 0) λm2=>stV m2 (a1.add 8) (hY 0) λW=>stV W (a1.add 9) (hY 0) λh9=>stV h9 (a1.add 10) (hY 0) λb4=>stV b4 (a1.add 11) (hY 0) λg0=>stV g0 (a1.add 12) (hY 0) λb6=>stV b6 (a1.add 13) (hY 0) λi4=>stV i4 (a1.add 14) (hY 0) λd3=>stV d3 (a1.add 15) (hY 0) λf2=>stV f2 (a1.add 16) (hY 0) λb7=>stV b7 (a1.add 17) (hY 0) λc1=>stV c1 (a1.add 18) (hY 0) λh8=>stV h8 (a1.add 19) (hY 0) λc2=>stV c2 (a1.add 20) (hY 0) λh6=>stV h6 (a1.add 21) (hY 0) λk0=>stV k0 (a1.add 22) (hY 0) λe5=>stV e5 (a1.add 23) (hY 0) λi3=>stV i3 (a1.add 24) (hY 0) λh5=>stV h5 (a1.add 25) (hY 0) λg4=>stV g4 (a1.add 26) (hY 0) λf7=>stV f7 (a1.add 27) (hY 0) λf6=>stV f6 (a1.add 28) (hY 0) λV=>stV V (a1.add 29) (hY 0) λb5=>stV b5 (a1.add 30) (hY 0) λd2=>stV d2 (a1.add 31) (hY 0) λg6=>stV g6 (a1.add 32) (hY 0) λb9=>stV b9 (a1.add 33) (hY 0) λe8=>stV e8 (a1.add 34) (hY 0) λh2=>stV h2 (a1.add 35) (hY 0) λO=>stV O (a1.add 36) (hY 0) λU=>stV U (a1.add 37) (hY 0) λi8=>stV i8 (a1.add 38) (hY 0) λc9=>stV c9 (a1.add 39) (hY 0) λf0=>stV f0 (a1.add 40) (hY 0) λe2=>stV e2 (a1.add 41) (hY 0) λf5=>stV f5 (a1.add 42) (hY 0) λj1=>stV j1 (a1.add 43) (hY 0) λE=>stV E (a1.add 44) (hY 0) λd1=>stV d1 (a1.add 45) (hY 0) λf1=>stV f1 (a1.add 46) (hY 0) λl5=>stV l5 (a1.add 47) (hY 0) λe7=>stV e7 (a1.add 48) (hY 0) λi0=>stV i0 (a1.add 49) (hY 0) λe1=>stV e1 (a1.add 50) (hY 0) λi2=>stV i2 (a1.add 51) (hY 0) λa6=>stV a6 (a1.add 52) (hY 0) λe6=>stV e6 (a1.add 53) (hY 0) λc3=>stV c3 (a1.add 54) (hY 0) λh1=>stV h1 (a1.add 55) (hY 0) λg3=>stV g3 (a1.add 56) (hY 0) λb8=>stV b8 (a1.add 57) (hY 0) λg2=>stV g2 (a1.add 58) (hY 0) λe3=>stV e3 (a1.add 59) (hY 0) λd0=>stV d0 (a1.add 60) (hY 0) λc8=>stV c8 (a1.add 61) (hY 0) λe0=>stV e0 (a1.add 62) (hY 0) λI=>stV I (a1.add 63) (hY 0) λh4=>stV h4 (a1.add 64) (hY 0) λg=>stV g (a1.add 65) (hY 0) λc4=>stV c4 (a1.add 66) (hY 0) λe4=>stV e4 (a1.add 67) (hY 0) λh7=>stV h7 (a1.add 68) (hY 0) λf4=>stV f4 (a1.add 69) (hY 0) λi1=>stV i1 (a1.add 70) (hY 0) λg1=>stV g1 (a1.add 71) (hY 0) λe9=>stV e9 (a1.add 72) (hY 0) λc5=>stV c5 (a1.add 73) (hY 0) λf3=>stV f3 (a1.add 74) (hY 0) λa7=>stV a7 (a1.add 75) (hY 0) λb3=>stV b3 (a1.add 76) (hY 0) λy=>stV y (a1.add 77) (hY 0) λg5=>stV g5 (a1.add 78) (hY 0) λh3=>stV h3 (a1.add 79) (hY 0) λj0=>stV j0 (a1.add 80) (hV false) λg7=>R (hQ (.tuple #[])) g7
theorem gy.sound {R x0 w}(h:gy R x0 w):callE P dT #[kT x0] R w:=
 cF Tryz.func110 Tryz.call110 h
namespace fi
def bl1 (R:EP)(Xa:BA->BA->BA->OA->Nat->Nat->WP)(V b5 b6:BA)(a7:OA)(a6 b3:Nat)(w:World):Prop:=callE P mc #[hX V,hX b5] (λe b4=>∃W,e= hQ (hY W)/\br (decide (W<0)) (∃E y,∃g U,(Builtin.append_ #[bL,aq] bL #[hT a7 a6 b3,hX V]).run P b4= .ok (hT E y g) U/\∃I O,(convert bL aq (hT E y g)).run P U= .ok (hX I) O/\R (hQ (hX I)) O) (False)) w
def l1 (R:EP)(I U O:BA)(y:OA)(g E:Nat)(w:World):Prop:=∀X:BA->BA->BA->OA->Nat->Nat->WP,(∀I U O y g E w,bl1 R X I U O y g E w->X I U O y g E w)->X I U O y g E w
end fi
def fi (R:EP)(E y g:BA)(w:World):Prop:=fi.l1 R E y g none 0 0 w
theorem fi.sound {R x0 x1 x2 w}(h:fi R x0 x1 x2 w):callE P lT #[hX x0,hX x1,hX x2] R w:=
 aG [(11,.lp [1,21,41,143] (fi.bl1 R) λXa=> [(58,.no)])] Tryz.func77 Tryz.call77 h
def kh (R:EP)(E:OA)(y:BA)(g:Int)(w:World):Prop:=((!(decide (g >= (y.size:Int))))=true->0<=g/\g<(y.size:Int))/\br ((decide (g >= (y.size:Int)))||((bt y g) !=91)) (R (hQ (.tuple #[hX (hP #[]),hY 0,hV false])) w) (False)
theorem kh.sound {R x0 x1 x2 w}(h:kh R x0 x1 x2 w):callE P mW #[kT x0,hX x1,hY x2] R w:=
 aG [(29,.no),(7,.no)] Tryz.func174 Tryz.call174 h
def jR (R:EP)(a7:Value)(y:BA)(w:World):Prop:=callE P kS #[hX y,hY 0] (λe W=>∃O,e= hQ (hY O)/\∃U I,(Instr.typeAssert a7 mq ah false).run P W= .ok (kT U) I/\callE P mW #[kT U,hX y,hY O] (λe a6=>∃V g E,e= hQ (.tuple #[hX V,hY g,hV E])/\((!((!E)||(decide (g >= (y.size:Int)))))=true->0<=g/\g<(y.size:Int))/\br (((!E)||(decide (g >= (y.size:Int))))||((bt y g) !=58)) (R (hQ (.tuple #[hY 0,hV false])) a6) (False)) I) w
theorem jR.sound {R x0 x1 w}(h:jR R x0 x1 w):callE P il #[x0,hX x1] R w:=
 aG [(119,.no),(31,.no)] Tryz.func425 Tryz.call425 h
def nY (R:EP)(g:Int)(w:World):Prop:=R (hQ (hV ((((decide (65<=g)) && (decide (g<=70)))||((decide (97<=g)) && (decide (g<=102))))||((decide (48<=g)) && (decide (g<=57)))))) w
theorem nY.sound {R x0 w}(h:nY R x0 w):callE P lJ #[.int .u8 x0] R w:=
 cF Tryz.func165 Tryz.call165 h
namespace gV
def bl1 (R:EP)(Xa:BA->Int->WP)(y:BA)(g:Int)(w:World):Prop:=br (decide (g<(y.size:Int))) (0<=g/\g<(y.size:Int)/\br ((bt y g)==37) (((!(decide ((i64.wrap (g+2)) >= (y.size:Int))))=true->0<=(i64.wrap (g+1))/\(i64.wrap (g+1))<(y.size:Int))/\br (decide ((i64.wrap (g+2)) >= (y.size:Int))) ((false=true->0<=(i64.wrap (g+2))/\(i64.wrap (g+2))<(y.size:Int))/\R (hQ (hV true)) w) (callE P lJ #[.int .u8 (bt y (i64.wrap (g+1)))] (λe I=>∃E,e= hQ (hV E)/\((!(!E))=true->0<=(i64.wrap (g+2))/\(i64.wrap (g+2))<(y.size:Int))/\br (!E) (R (hQ (hV true)) I) (callE P lJ #[.int .u8 (bt y (i64.wrap (g+2)))] (λe O=>∃U,e= hQ (hV U)/\br (!U) (R (hQ (hV true)) O) (Xa y (i64.wrap (g+1)) O)) I)) w)) (Xa y (i64.wrap (g+1)) w)) (R (hQ (hV false)) w)
def l1 (R:EP)(y:BA)(g:Int)(w:World):Prop:=∀X:BA->Int->WP,(∀y g w,bl1 R X y g w->X y g w)->X y g w
end gV
def gV (R:EP)(g:BA)(w:World):Prop:=gV.l1 R g 0 w
theorem gV.sound {R x0 w}(h:gV R x0 w):callE P nL #[hX x0] R w:=
 aG [(21,.lp [1,67] (gV.bl1 R) λXa=> [])] Tryz.func124 Tryz.call124 h
def jz (R:EP)(I:OA)(y:BA)(g:Int)(w:World):Prop:=0<=g/\g<=(i64.wrap (g+1))/\(i64.wrap (g+1))<=(y.size:Int)/\box w #[hX (y.extract (Int.toNat g) (Int.toNat (i64.wrap (g+1)))),hY (i64.wrap (g+1))] rA λb1 E=>R (hQ (.tuple #[.iface aQ (kT (kE b1)),hY g,hY (i64.wrap (g+1)),hV true])) E
theorem jz.sound {R x0 x1 x2 w}(h:jz R x0 x1 x2 w):callE P gO #[kT x0,hX x1,hY x2] R w:=
 cF Tryz.func113 Tryz.call113 h
def fj (R:EP)(U O:OA)(E I:Nat)(w:World):Prop:=aA U λa1=>∃y,w.cell? a1=some (kT y)/\aA y λa3=>∃g,w.cell? (a3.add 3)=some (hV g)/\br (!g) (R (hQ (hT O E I)) w) (False)
theorem fj.sound {R x0 x1q x1n x1c w}(h:fj R x0 x1q x1n x1c w):callE P dY #[kT x0,hT x1q x1n x1c] R w:=
 aG [(29,.no),(87,.no),(175,.no),(239,.no)] Tryz.func127 Tryz.call127 h
namespace bI
def k2 (R:EP)(Xa:OA->Nat->Nat->OA->Nat->Nat->Int->Int->WP)(b5:OA)(y b9:Nat)(b4:OA)(a7 b6:Nat)(g:Int)(w:World):Prop:=br (decide (g >= (y:Int))) (R (hQ (hT b4 a7 b6)) w) (0<=g/\g<(y:Int)/\aA b5 λb8=>∃(a6:Value),w.cell? (b8.add (Int.toNat g*1))=some a6/\∃W U,∃I b3,(Instr.buildSlice ap 1 #[(0,a6)]).run P w= .ok (hT W U I) b3/\∃V E,∃O b7,(Builtin.append_ #[ap,ap] ap #[hT b4 a7 b6,hT W U I]).run P b3= .ok (hT V E O) b7/\Xa b5 y b9 V E O (i64.wrap (g+1)) (i64.wrap (g+1)) b7)
def k1 (R:EP)(Xa:OA->Nat->Nat->OA->Nat->Nat->Int->Int->WP)(I:OA)(y E:Nat)(b3:OA)(b7 c2:Nat)(c4 g:Int)(w:World):Prop:=br (decide (c4<g)) (∃b5 b4,∃c1 b6,(Instr.sliceAt ap (hT I y E) (some (hY c4)) (some (hY g)) none).run P w= .ok (hT b5 b4 c1) b6/\callE P mG #[hT b5 b4 c1] (λe c5=>∃c3,e= hQ (kT c3)/\∃a7 a6,∃W b9,(Instr.buildSlice ap 1 #[(0,.iface bJ (kT c3))]).run P c5= .ok (hT a7 a6 W) b9/\∃U V,∃O b8,(Builtin.append_ #[ap,ap] ap #[hT b3 b7 c2,hT a7 a6 W]).run P b9= .ok (hT U V O) b8/\k2 R Xa I y E U V O g b8) b6) (k2 R Xa I y E b3 b7 c2 g w)
def bl1 (R:EP)(Xa:OA->Nat->Nat->OA->Nat->Nat->Int->Int->WP)(E:OA)(y V:Nat)(O:OA)(I U:Nat)(a7 g:Int)(w:World):Prop:=br (decide (g<(y:Int))) (0<=g/\g<(y:Int)/\aA E λa3=>∃(b3:Value),w.cell? (a3.add (Int.toNat g*1))=some b3/\callE P kR #[b3] (λe b5=>∃W,e= hQ (kT W)/\∃b4 a6,(do eqGuard .neq bJ (.tmp 21) (.const (kT none)) (kT W) (kT none);binOp .neq bJ (kT W) (kT none)).run P b5= .ok (hV b4) a6/\br b4 (Xa E y V O I U a7 (i64.wrap (g+1)) a6) (k1 R Xa E y V O I U a7 g a6)) w) (k1 R Xa E y V O I U a7 g w)
def l1 (R:EP)(E:OA)(O U:Nat)(y:OA)(g I:Nat)(V W:Int)(w:World):Prop:=∀X:OA->Nat->Nat->OA->Nat->Nat->Int->Int->WP,(∀E O U y g I V W w,bl1 R X E O U y g I V W w->X E O U y g I V W w)->X E O U y g I V W w
end bI
def bI (R:EP)(W U:OA)(I O:Nat)(w:World):Prop:=∃E g,∃y V,(Instr.sliceAt ap (hT U I O) none (some (hY 0)) none).run P w= .ok (hT E g y) V/\bI.l1 R U I O E g y 0 0 V
theorem bI.sound {R x0 x1q x1n x1c w}(h:bI R x0 x1q x1n x1c w):callE P fO #[kT x0,hT x1q x1n x1c] R w:=
 aG [(87,.lp [23,103,127,147] (bI.bl1 R) λXa=> [(12,.mk [23,103,127,147] (bI.k1 R Xa)),(28,.mk [23,103,147] (bI.k2 R Xa))])] Tryz.func126 Tryz.call126 h
namespace fX
def bl1 (R:EP)(Xa:OA->Nat->Nat->OA->Nat->Nat->Int->Int->WP)(b4:OA)(b8 b9:Nat)(y:OA)(U c4:Nat)(b3 g:Int)(w:World):Prop:=br (decide (g<b3)) (0<=g/\g<(U:Int)/\aA y λa5=>∃(c3:Value),w.cell? (a5.add (Int.toNat g*1))=some c3/\callE P kR #[c3] (λe c2=>∃c1,e= hQ (kT c1)/\aA c1 λa9=>∃b6,c2.cell? a9=some (hX b6)/\∃E V,∃a6 b5,(Instr.buildSlice al 1 #[(0,hX b6)]).run P c2= .ok (hT E V a6) b5/\∃W O,∃I b7,(Builtin.append_ #[al,al] al #[hT b4 b8 b9,hT E V a6]).run P b5= .ok (hT W O I) b7/\Xa W O I y U c4 b3 (i64.wrap (g+1)) b7) w) (callE P gm #[hT b4 b8 b9,hX (hP #[])] (λe c8=>∃a7,e= hQ (hX a7)/\box c8 #[hX a7] ov λc5 c9=>R (hQ (kT (kE c5))) c9) w)
def l1 (R:EP)(V:OA)(O W:Nat)(g:OA)(y E:Nat)(U I:Int)(w:World):Prop:=∀X:OA->Nat->Nat->OA->Nat->Nat->Int->Int->WP,(∀V O W g y E U I w,bl1 R X V O W g y E U I w->X V O W g y E U I w)->X V O W g y E U I w
end fX
def fX (R:EP)(y:OA)(g O:Nat)(w:World):Prop:=br ((g:Int)==1) (0<=(0:Int)/\0<(g:Int)/\aA y λa1=>∃(E:Value),w.cell? (a1.add (Int.toNat 0*1))=some E/\callE P kR #[E] (λe U=>∃I,e= hQ (kT I)/\R (hQ (kT I)) U) w) (fX.l1 R none 0 0 y g O (g:Int) 0 w)
theorem fX.sound {R x0q x0n x0c w}(h:fX R x0q x0n x0c w):callE P mG #[hT x0q x0n x0c] R w:=
 aG [(87,.lp [63,263,287,307] (fX.bl1 R) λXa=> [])] Tryz.func180 Tryz.call180 h
def qn (R:EP)(I:Value)(w:World):Prop:=∃W V g,(Instr.typeAssert I aD bJ true).run P w= .ok (.tuple #[kT W,hV V]) g/\br V (R (hQ (kT W)) g) (∃a7 U E,(Instr.typeAssert I aD aT true).run P g= .ok (.tuple #[kT a7,hV U]) E/\br U (aA a7 λa5=>R (hQ (kT (some a5))) E) (∃O a6 y,(Instr.typeAssert I aD aQ true).run P E= .ok (.tuple #[kT O,hV a6]) y/\br a6 (aA O λa8=>R (hQ (kT (some a8))) y) (R (hQ (kT none)) y)))
theorem qn.sound {R x0 w}(h:qn R x0 w):callE P kR #[x0] R w:=
 cF Tryz.func138 Tryz.call138 h
namespace ay
def k4 (R:EP)(Xa:OA->Nat->Nat->Nat->Nat->Value->Value->Int->WP)(f4:OA)(f2 f6:Nat)(g f7:Nat)(g0 g1:Value)(f3:Int)(y f5:OA)(w:World):Prop:=aA y λh3=>∃e6,w.cell? (h3.add 1)=some (hV e6)/\br e6 (∃g2 d0 g3,w.cell? (hZ g 0)=some (hT g2 d0 g3)/\aA y λg7=>stV w ((g7.add 3).add 0) (hY (d0:Int)) λf0=>∃b6 d3 e3,f0.cell? (hZ g 0)=some (hT b6 d3 e3)/\∃b7 d1,∃b5 e8,(Instr.buildSlice ap 1 #[(0,.iface aT (kT y))]).run P f0= .ok (hT b7 d1 b5) e8/\∃b3 e0,∃W e7,(Builtin.append_ #[ap,ap] ap #[hT b6 d3 e3,hT b7 d1 b5]).run P e8= .ok (hT b3 e0 W) e7/\stV e7 (hZ g 0) (hT b3 e0 W) λe4=>aA f5 λg4=>∃c5 b9 V,e4.cell? g4=some (hT c5 b9 V)/\∃a6 c1,∃c2 e5,(Instr.buildSlice cK 1 #[(0,kT y)]).run P e4= .ok (hT a6 c1 c2) e5/\∃O a7,∃c8 e9,(Builtin.append_ #[cK,cK] cK #[hT c5 b9 V,hT a6 c1 c2]).run P e5= .ok (hT O a7 c8) e9/\aA f5 λh1=>stV e9 (h1.add 0) (hT O a7 c8) λg6=>Xa f4 f2 f6 g f7 g0 g1 (i64.wrap (f3+1)) g6) (tk w λE=>aA y λh2=>∃b8 c3 U,E.cell? (hZ g 0)=some (hT b8 c3 U)/\∃b4 d2,∃e1 I,(Instr.buildSlice ap 1 #[(0,.iface bJ (kT (some h2)))]).run P E= .ok (hT b4 d2 e1) I/\SameC E I (hZ g 0) 1/\∃c4 c9,∃e2 f1,(Builtin.append_ #[ap,ap] ap #[hT b8 c3 U,hT b4 d2 e1]).run P I= .ok (hT c4 c9 e2) f1/\stV f1 (hZ g 0) (hT c4 c9 e2) λg5=>Xa f4 f2 f6 g f7 g0 g1 (i64.wrap (f3+1)) g5)
def k7 (R:EP)(Xa:OA->Nat->Nat->Nat->Nat->Value->Value->Int->WP)(e4:OA->Nat->Nat->Nat->Nat->Value->Value->Int->OA->OA->WP)(f1:OA->Nat->Nat->Nat->Nat->Value->Value->Int->OA->OA->Int->WP)(e1:OA)(d1 e3:Nat)(g e5:Nat)(e6 E:Value)(e0:Int)(d3 e2:OA)(e9:Int)(f0:Bool)(d2:OA)(w:World):Prop:=de P (do let d <-Deferred.ofValue E #[];invoke d.target d.args) (λe y=>e= hQ (.tuple #[])/\br f0 (False) (br (e9==2) (∃W a6 c2,y.cell? (hZ g 0)=some (hT W a6 c2)/\∃b3 b6,∃a7 c9,(Instr.buildSlice ap 1 #[(0,.iface fK (kT d2))]).run P y= .ok (hT b3 b6 a7) c9/\∃b9 c3,∃b4 d0,(Builtin.append_ #[ap,ap] ap #[hT W a6 c2,hT b3 b6 a7]).run P c9= .ok (hT b9 c3 b4) d0/\stV d0 (hZ g 0) (hT b9 c3 b4) λe7=>e4 e1 d1 e3 g e5 e6 E e0 d3 e2 e7) (∃O c1 I,y.cell? (hZ g 0)=some (hT O c1 I)/\∃b8 b5,∃V c5,(Instr.buildSlice ap 1 #[(0,.iface jr (kT d2))]).run P y= .ok (hT b8 b5 V) c5/\∃b7 c4,∃U c8,(Builtin.append_ #[ap,ap] ap #[hT O c1 I,hT b8 b5 V]).run P c5= .ok (hT b7 c4 U) c8/\stV c8 (hZ g 0) (hT b7 c4 U) λe8=>e4 e1 d1 e3 g e5 e6 E e0 d3 e2 e8))) w
def k2 (R:EP)(Xa:OA->Nat->Nat->Nat->Nat->Value->Value->Int->WP)(W:OA)(I V:Nat)(a7 b4:Nat)(b3 a6:Value)(O:Int)(y U:OA)(w:World):Prop:=aA y λE=>∃g,w.cell? E=some (hX g)/\br (g.toList==(hP #[34]).toList) (False) (k4 R Xa W I V a7 b4 b3 a6 O y U w)
def k6 (R:EP)(Xa:OA->Nat->Nat->Nat->Nat->Value->Value->Int->WP)(g2:OA->Nat->Nat->Nat->Nat->Value->Value->Int->OA->OA->WP)(g3:OA->Nat->Nat->Nat->Nat->Value->Value->Int->OA->OA->Int->WP)(f7:OA)(f5 g1:Nat)(E g4:Nat)(g5 g6:Value)(f6:Int)(I g0 y:OA)(g:Int)(w:World):Prop:=aA I λh5=>∃U,w.cell? h5=some (hX U)/\0<=(0:Int)/\0<(U.size:Int)/\tk w λO=>aA I λf3=>aA y λh3=>∃b7,O.cell? f3=some (hX b7)/\0<=g/\g<=(b7.size:Int)/\∃c1 d0 c3,O.cell? (hZ E 0)=some (hT c1 d0 c3)/\∃f0,O.cell? (h3.add 3)=some (hY f0)/\∃c4 d3 c9,(∀w,(Instr.sliceAt ap (hT c1 d0 c3) (some (hY (i64.wrap (f0+1)))) none none).run P w= .ok (hT c4 d3 c9) w)/\∃c8 e7,∃c2 b6,(Builtin.append_ #[ap,ap] ap #[hT none 0 0,hT c4 d3 c9]).run P O= .ok (hT c8 e7 c2) b6/\SameC O b6 (f3) 1/\box b6 #[hX (b7.extract 0 (Int.toNat g)),hT c8 e7 c2] jC λf2 h8=>tk h8 λb5=>aA y λg7=>aA y λh6=>∃a7,b5.cell? g7=some (hX a7)/\∃W,b5.cell? h6=some (hX W)/\0<=(i64.wrap ((W.size:Int) - g))/\(i64.wrap ((W.size:Int) - g))<=(a7.size:Int)/\aA y λi1=>stV b5 (i1.add 0) (hX (a7.extract 0 (Int.toNat (i64.wrap ((W.size:Int) - g))))) λf1=>aA I λh1=>∃V,f1.cell? h1=some (hX V)/\0<=g/\g<=(V.size:Int)/\aA I λh2=>stV f1 (h2.add 0) (hX (V.extract (Int.toNat g) V.size)) λb3=>aA y λh9=>∃f4,b3.cell? h9=some (hX f4)/\br (f4.toList==(hP #[]).toList) (tk b3 λb4=>aA y λh4=>∃e5 b8 e3,b4.cell? (hZ E 0)=some (hT e5 b8 e3)/\∃e8,b4.cell? (h4.add 3)=some (hY e8)/\∃e2 e1 d2,(∀w,(Instr.sliceAt ap (hT e5 b8 e3) none (some (hY e8)) none).run P w= .ok (hT e2 e1 d2) w)/\stV b4 (hZ E 0) (hT e2 e1 d2) λi2=>k7 R Xa g2 g3 f7 f5 g1 E g4 g5 g6 f6 I g0 g ((bt U 0)==126) (kE f2) i2) (tk b3 λa6=>aA y λh7=>∃e0 e4 b9,a6.cell? (hZ E 0)=some (hT e0 e4 b9)/\∃e9,a6.cell? (h7.add 3)=some (hY e9)/\∃d1 c5 e6,(∀w,(Instr.sliceAt ap (hT e0 e4 b9) none (some (hY (i64.wrap (e9+1)))) none).run P w= .ok (hT d1 c5 e6) w)/\stV a6 (hZ E 0) (hT d1 c5 e6) λi0=>k7 R Xa g2 g3 f7 f5 g1 E g4 g5 g6 f6 I g0 g ((bt U 0)==126) (kE f2) i0)
def k1 (R:EP)(Xa:OA->Nat->Nat->Nat->Nat->Value->Value->Int->WP)(b4:OA)(U b3:Nat)(b6 I:Nat)(O b5:Value)(a6:Int)(y:OA)(w:World):Prop:=aA y λb8=>∃W,w.cell? b8=some (hX W)/\br (!(W.toList==(hP #[]).toList)) (aA y λb9=>∃E,w.cell? b9=some (hX E)/\0<=(0:Int)/\0<(E.size:Int)/\de P (do let d <-Deferred.ofValue O #[.int .u8 (bt E 0)];invoke d.target d.args) (λe V=>∃g,e= hQ (hY g)/\0<=g/\g<(5:Int)/\aA y λb7=>∃a7,V.cell? b7=some (hX a7)/\br (a7.toList==(hP #[39]).toList) (False) (k2 R Xa b4 U b3 b6 I O b5 a6 y (some (((hZ I 0):Addr).add (Int.toNat g*1))) V)) w) (Xa b4 U b3 b6 I O b5 (i64.wrap (a6+1)) w)
def k5 (R:EP)(Xa:OA->Nat->Nat->Nat->Nat->Value->Value->Int->WP)(a7:OA->Nat->Nat->Nat->Nat->Value->Value->Int->OA->OA->WP)(b3:OA->Nat->Nat->Nat->Nat->Value->Value->Int->OA->OA->Int->WP)(V:OA)(O a6:Nat)(b7 b4:Nat)(b5 b6:Value)(U:Int)(g W:OA)(c5:Int)(y:OA)(w:World):Prop:=aA g λc3=>∃I,w.cell? c3=some (hX I)/\0<=(0:Int)/\0<(I.size:Int)/\br ((bt I 0)==34) (False) (aA g λc2=>∃E,w.cell? c2=some (hX E)/\0<=(0:Int)/\0<(E.size:Int)/\br ((bt E 0)==39) (False) (aA g λc1=>∃b8,w.cell? c1=some (hX b8)/\br (decide ((b8.size:Int) >= 2)) (aA y λc4=>∃b9,w.cell? c4=some (hX b9)/\br (decide ((b9.size:Int) >= 2)) (k6 R Xa a7 b3 V O a6 b7 b4 b5 b6 U g W y 2 w) (k6 R Xa a7 b3 V O a6 b7 b4 b5 b6 U g W y 1 w)) (k6 R Xa a7 b3 V O a6 b7 b4 b5 b6 U g W y 1 w)))
def k3 (R:EP)(Xa:OA->Nat->Nat->Nat->Nat->Value->Value->Int->WP)(b5:OA->Nat->Nat->Nat->Nat->Value->Value->Int->OA->OA->WP)(b6:OA->Nat->Nat->Nat->Nat->Value->Value->Int->OA->OA->Int->WP)(a7:OA)(V b4:Nat)(c1 b7:Nat)(b8 b9:Value)(a6:Int)(y b3:OA)(W:Int)(I:OA)(w:World):Prop:=tk w λg=>aA y λc3=>∃E,g.cell? c3=some (hX E)/\0<=(0:Int)/\0<(E.size:Int)/\br ((bt E 0)==126) (aA y λc2=>aA I λc4=>∃O,g.cell? c2=some (hX O)/\∃U,g.cell? c4=some (hX U)/\br ((O.size:Int) !=(U.size:Int)) (False) (k5 R Xa b5 b6 a7 V b4 c1 b7 b8 b9 a6 y b3 W I g)) (k5 R Xa b5 b6 a7 V b4 c1 b7 b8 b9 a6 y b3 W I g)
def bl3 (R:EP)(Xa:OA->Nat->Nat->Nat->Nat->Value->Value->Int->WP)(b7:OA->Nat->Nat->Nat->Nat->Value->Value->Int->OA->OA->WP)(b6:OA->Nat->Nat->Nat->Nat->Value->Value->Int->OA->OA->Int->WP)(W:OA)(V a6:Nat)(b5 b3:Nat)(b4 a7:Value)(O:Int)(y U:OA)(I:Int)(w:World):Prop:=br (decide (I >= 0)) (aA U λo0=>∃d3 e6 i2,w.cell? o0=some (hT d3 e6 i2)/\0<=I/\I<(e6:Int)/\aA d3 λo4=>∃E,w.cell? (o4.add (Int.toNat I*1))=some (kT E)/\tk w λg=>aA y λl5=>∃b8,g.cell? l5=some (hX b8)/\0<=(0:Int)/\0<(b8.size:Int)/\br ((bt b8 0)==42) (aA y λm3=>∃f7,g.cell? (m3.add 1)=some (hV f7)/\br f7 (aA y λn0=>∃g4,g.cell? (n0.add 2)=some (hV g4)/\br g4 (aA y λp1=>aA E λm2=>∃h1,g.cell? (p1.add 4)=some (hY h1)/\∃e8,g.cell? (m2.add 4)=some (hY e8)/\(3:Int)≠0/\br ((Int.tmod (i64.wrap (h1+e8)) 3)==0) (aA y λq0=>∃e7,g.cell? (q0.add 4)=some (hY e7)/\(3:Int)≠0/\br ((Int.tmod e7 3) !=0) (b6 W V a6 b5 b3 b4 a7 O y U (i64.wrap (I - 1)) g) (aA E λp5=>∃g6,g.cell? (p5.add 4)=some (hY g6)/\(3:Int)≠0/\br ((Int.tmod g6 3) !=0) (b6 W V a6 b5 b3 b4 a7 O y U (i64.wrap (I - 1)) g) (k3 R Xa b7 b6 W V a6 b5 b3 b4 a7 O y U I E g))) (k3 R Xa b7 b6 W V a6 b5 b3 b4 a7 O y U I E g)) (aA E λq2=>∃g7,g.cell? (q2.add 1)=some (hV g7)/\br g7 (aA E λn1=>∃f2,g.cell? (n1.add 2)=some (hV f2)/\br f2 (aA y λp4=>aA E λm1=>∃g3,g.cell? (p4.add 4)=some (hY g3)/\∃f1,g.cell? (m1.add 4)=some (hY f1)/\(3:Int)≠0/\br ((Int.tmod (i64.wrap (g3+f1)) 3)==0) (aA y λq1=>∃g2,g.cell? (q1.add 4)=some (hY g2)/\(3:Int)≠0/\br ((Int.tmod g2 3) !=0) (b6 W V a6 b5 b3 b4 a7 O y U (i64.wrap (I - 1)) g) (aA E λj1=>∃e9,g.cell? (j1.add 4)=some (hY e9)/\(3:Int)≠0/\br ((Int.tmod e9 3) !=0) (b6 W V a6 b5 b3 b4 a7 O y U (i64.wrap (I - 1)) g) (k3 R Xa b7 b6 W V a6 b5 b3 b4 a7 O y U I E g))) (k3 R Xa b7 b6 W V a6 b5 b3 b4 a7 O y U I E g)) (k3 R Xa b7 b6 W V a6 b5 b3 b4 a7 O y U I E g)) (k3 R Xa b7 b6 W V a6 b5 b3 b4 a7 O y U I E g))) (aA E λm6=>∃f4,g.cell? (m6.add 1)=some (hV f4)/\br f4 (aA E λn2=>∃g1,g.cell? (n2.add 2)=some (hV g1)/\br g1 (aA y λn3=>aA E λq4=>∃f6,g.cell? (n3.add 4)=some (hY f6)/\∃g0,g.cell? (q4.add 4)=some (hY g0)/\(3:Int)≠0/\br ((Int.tmod (i64.wrap (f6+g0)) 3)==0) (aA y λo3=>∃g5,g.cell? (o3.add 4)=some (hY g5)/\(3:Int)≠0/\br ((Int.tmod g5 3) !=0) (b6 W V a6 b5 b3 b4 a7 O y U (i64.wrap (I - 1)) g) (aA E λo2=>∃f0,g.cell? (o2.add 4)=some (hY f0)/\(3:Int)≠0/\br ((Int.tmod f0 3) !=0) (b6 W V a6 b5 b3 b4 a7 O y U (i64.wrap (I - 1)) g) (k3 R Xa b7 b6 W V a6 b5 b3 b4 a7 O y U I E g))) (k3 R Xa b7 b6 W V a6 b5 b3 b4 a7 O y U I E g)) (k3 R Xa b7 b6 W V a6 b5 b3 b4 a7 O y U I E g)) (k3 R Xa b7 b6 W V a6 b5 b3 b4 a7 O y U I E g))) (aA y λk0=>∃b9,g.cell? k0=some (hX b9)/\0<=(0:Int)/\0<(b9.size:Int)/\br ((bt b9 0)==95) (aA y λp3=>∃f5,g.cell? (p3.add 1)=some (hV f5)/\br f5 (aA y λm5=>∃f3,g.cell? (m5.add 2)=some (hV f3)/\br f3 (aA y λm4=>aA E λq3=>∃c9,g.cell? (m4.add 4)=some (hY c9)/\∃c1,g.cell? (q3.add 4)=some (hY c1)/\(3:Int)≠0/\br ((Int.tmod (i64.wrap (c9+c1)) 3)==0) (aA y λj0=>∃e2,g.cell? (j0.add 4)=some (hY e2)/\(3:Int)≠0/\br ((Int.tmod e2 3) !=0) (b6 W V a6 b5 b3 b4 a7 O y U (i64.wrap (I - 1)) g) (aA E λh8=>∃e5,g.cell? (h8.add 4)=some (hY e5)/\(3:Int)≠0/\br ((Int.tmod e5 3) !=0) (b6 W V a6 b5 b3 b4 a7 O y U (i64.wrap (I - 1)) g) (k3 R Xa b7 b6 W V a6 b5 b3 b4 a7 O y U I E g))) (k3 R Xa b7 b6 W V a6 b5 b3 b4 a7 O y U I E g)) (aA E λh5=>∃e0,g.cell? (h5.add 1)=some (hV e0)/\br e0 (aA E λh4=>∃c3,g.cell? (h4.add 2)=some (hV c3)/\br c3 (aA y λh7=>aA E λi3=>∃e4,g.cell? (h7.add 4)=some (hY e4)/\∃c8,g.cell? (i3.add 4)=some (hY c8)/\(3:Int)≠0/\br ((Int.tmod (i64.wrap (e4+c8)) 3)==0) (aA y λi1=>∃e1,g.cell? (i1.add 4)=some (hY e1)/\(3:Int)≠0/\br ((Int.tmod e1 3) !=0) (b6 W V a6 b5 b3 b4 a7 O y U (i64.wrap (I - 1)) g) (aA E λh9=>∃c4,g.cell? (h9.add 4)=some (hY c4)/\(3:Int)≠0/\br ((Int.tmod c4 3) !=0) (b6 W V a6 b5 b3 b4 a7 O y U (i64.wrap (I - 1)) g) (k3 R Xa b7 b6 W V a6 b5 b3 b4 a7 O y U I E g))) (k3 R Xa b7 b6 W V a6 b5 b3 b4 a7 O y U I E g)) (k3 R Xa b7 b6 W V a6 b5 b3 b4 a7 O y U I E g)) (k3 R Xa b7 b6 W V a6 b5 b3 b4 a7 O y U I E g))) (aA E λh3=>∃c5,g.cell? (h3.add 1)=some (hV c5)/\br c5 (aA E λi8=>∃c2,g.cell? (i8.add 2)=some (hV c2)/\br c2 (aA y λi4=>aA E λi0=>∃d1,g.cell? (i4.add 4)=some (hY d1)/\∃e3,g.cell? (i0.add 4)=some (hY e3)/\(3:Int)≠0/\br ((Int.tmod (i64.wrap (d1+e3)) 3)==0) (aA y λh2=>∃d0,g.cell? (h2.add 4)=some (hY d0)/\(3:Int)≠0/\br ((Int.tmod d0 3) !=0) (b6 W V a6 b5 b3 b4 a7 O y U (i64.wrap (I - 1)) g) (aA E λh6=>∃d2,g.cell? (h6.add 4)=some (hY d2)/\(3:Int)≠0/\br ((Int.tmod d2 3) !=0) (b6 W V a6 b5 b3 b4 a7 O y U (i64.wrap (I - 1)) g) (k3 R Xa b7 b6 W V a6 b5 b3 b4 a7 O y U I E g))) (k3 R Xa b7 b6 W V a6 b5 b3 b4 a7 O y U I E g)) (k3 R Xa b7 b6 W V a6 b5 b3 b4 a7 O y U I E g)) (k3 R Xa b7 b6 W V a6 b5 b3 b4 a7 O y U I E g))) (k3 R Xa b7 b6 W V a6 b5 b3 b4 a7 O y U I E g))) (k1 R Xa W V a6 b5 b3 b4 a7 O y w)
def l3 (R:EP)(Xa:OA->Nat->Nat->Nat->Nat->Value->Value->Int->WP)(b4:OA->Nat->Nat->Nat->Nat->Value->Value->Int->OA->OA->WP)(V:OA)(g U:Nat)(a6 b3:Nat)(a7 W:Value)(E:Int)(O I:OA)(y:Int)(w:World):Prop:=∀X:OA->Nat->Nat->Nat->Nat->Value->Value->Int->OA->OA->Int->WP,(∀V g U a6 b3 a7 W E O I y w,bl3 R Xa b4 X V g U a6 b3 a7 W E O I y w->X V g U a6 b3 a7 W E O I y w)->X V g U a6 b3 a7 W E O I y w
def bl2 (R:EP)(Xa:OA->Nat->Nat->Nat->Nat->Value->Value->Int->WP)(b9:OA->Nat->Nat->Nat->Nat->Value->Value->Int->OA->OA->WP)(W:OA)(E V:Nat)(a7 b3:Nat)(b4 a6:Value)(I:Int)(g O:OA)(w:World):Prop:=aA g λb8=>∃U,w.cell? b8=some (hX U)/\br (!(U.toList==(hP #[]).toList)) (aA O λb7=>∃b6 y b5,w.cell? b7=some (hT b6 y b5)/\l3 R Xa b9 W E V a7 b3 b4 a6 I g O (i64.wrap ((y:Int) - 1)) w) (k1 R Xa W E V a7 b3 b4 a6 I g w)
def l2 (R:EP)(Xa:OA->Nat->Nat->Nat->Nat->Value->Value->Int->WP)(U:OA)(g O:Nat)(W a6:Nat)(a7 V:Value)(y:Int)(I E:OA)(w:World):Prop:=∀X:OA->Nat->Nat->Nat->Nat->Value->Value->Int->OA->OA->WP,(∀U g O W a6 a7 V y I E w,bl2 R Xa X U g O W a6 a7 V y I E w->X U g O W a6 a7 V y I E w)->X U g O W a6 a7 V y I E w
def bl1 (R:EP)(Xa:OA->Nat->Nat->Nat->Nat->Value->Value->Int->WP)(I:OA)(E b3:Nat)(y V:Nat)(W b5:Value)(g:Int)(w:World):Prop:=br (decide (g<(E:Int))) (0<=g/\g<(E:Int)/\aA I λa5=>∃(g0:Value),w.cell? (a5.add (Int.toNat g*1))=some g0/\∃c4 f0 b4,(Instr.typeAssert g0 aD aQ true).run P w= .ok (.tuple #[kT c4,hV f0]) b4/\br f0 (tk b4 λb9=>aA c4 λa10=>∃d3 e8 c2,b9.cell? (hZ y 0)=some (hT d3 e8 c2)/\∃e5 e1,∃d0 b7,(Instr.buildSlice ap 1 #[(0,.iface bJ (kT (some a10)))]).run P b9= .ok (hT e5 e1 d0) b7/\SameC b9 b7 (hZ y 0) 1/\∃f1 c8,∃c3 f7,(Builtin.append_ #[ap,ap] ap #[hT d3 e8 c2,hT e5 e1 d0]).run P b7= .ok (hT f1 c8 c3) f7/\stV f7 (hZ y 0) (hT f1 c8 c3) λg4=>Xa I E b3 y V W b5 (i64.wrap (g+1)) g4) (0<=g/\g<(E:Int)/\aA I λg1=>∃(f3:Value),b4.cell? (g1.add (Int.toNat g*1))=some f3/\∃U c1 O,(Instr.typeAssert f3 aD aT true).run P b4= .ok (.tuple #[kT U,hV c1]) O/\br (!c1) (tk O λa6=>0<=g/\g<(E:Int)/\aA I λg3=>∃e9 c9 d2,a6.cell? (hZ y 0)=some (hT e9 c9 d2)/\∃(f5:Value),a6.cell? (g3.add (Int.toNat g*1))=some f5/\∃e6 f2,∃e3 b6,(Instr.buildSlice ap 1 #[(0,f5)]).run P a6= .ok (hT e6 f2 e3) b6/\SameC a6 b6 (hZ y 0) 1/\∃e2 d1,∃e0 f6,(Builtin.append_ #[ap,ap] ap #[hT e9 c9 d2,hT e6 f2 e3]).run P b6= .ok (hT e2 d1 e0) f6/\stV f6 (hZ y 0) (hT e2 d1 e0) λg2=>Xa I E b3 y V W b5 (i64.wrap (g+1)) g2) (aA U λg5=>∃f4,O.cell? (g5.add 2)=some (hV f4)/\br f4 (aA U λg6=>∃b8,O.cell? g6=some (hX b8)/\0<=(0:Int)/\0<(b8.size:Int)/\de P (do let d <-Deferred.ofValue W #[.int .u8 (bt b8 0)];invoke d.target d.args) (λe g7=>∃a7,e= hQ (hY a7)/\0<=a7/\a7<(5:Int)/\l2 R Xa I E b3 y V W b5 g U (some (((hZ V 0):Addr).add (Int.toNat a7*1))) g7) O) (k1 R Xa I E b3 y V W b5 g U O)))) (∃e7 c5 e4,w.cell? (hZ y 0)=some (hT e7 c5 e4)/\R (hQ (hT e7 c5 e4)) w)
def l1 (R:EP)(I:OA)(g E:Nat)(U V:Nat)(W O:Value)(y:Int)(w:World):Prop:=∀X:OA->Nat->Nat->Nat->Nat->Value->Value->Int->WP,(∀I g E U V W O y w,bl1 R X I g E U V W O y w->X I g E U V W O y w)->X I g E U V W O y w
end ay
def ay (R:EP)(a7 U:OA)(I O:Nat)(V:OA)(y E:Nat)(w:World):Prop:=box w #[hT U I O] ap λb1 W=>box W #[hT none 0 0,hT none 0 0,hT none 0 0,hT none 0 0,hT none 0 0] js λg a6=>ay.l1 R V y E b1 g (.func (.func fR) #[] #[]) (.func (.func fQ) #[] #[kT (kE g),kT (kE b1)]) 0 a6
theorem ay.sound {R x0 x1q x1n x1c x2q x2n x2c w}(h:ay R x0 x1q x1n x1c x2q x2n x2c w):callE P fE #[kT x0,hT x1q x1n x1c,hT x2q x2n x2c] R w:=
 aG [(701,.lp [43,86,146,165,185,207] (ay.bl1 R) λXa=> [(305,.dr (rpN [3,6,9,12,1,17,20,23])),(601,.dr (rpN [3,6,9,1,13,17,20,23])),(11449,.lp [43,86,146,165,185,207,262,302] (ay.bl2 R Xa) λg=> [(41,.lp [43,86,146,165,185,207,262,302,327] (ay.bl3 R Xa g) λy=> [(73,.dr (rpN [0,3,6,9,13,15,18,21,24,27,30,33,37,39,42,45,48,51,54,57,61,63,66,69,72,76,78,81,84,87,90,94,96,99,102,105,109,111,114,117,120,123,126,129,135,138,141,133,145,147,150,153,156,159,162,165,168,172,174,177,180,183,186,189,193,195,198,201,204])),(57,.mk [43,86,146,165,185,207,262,302,327,342] (ay.k3 R Xa g y)),(153,.dr (rpN [0,3,6,9,13,15,18,21,24,27,30,33,42,45,48,51,37,39,55,57,60,63])),(345,.no),(121,.mk [43,86,146,165,185,207,262,302,327,342] (ay.k5 R Xa g y)),(697,.no),(1401,.no),(2041,.mk [43,86,146,165,185,207,262,302,342,367] (ay.k6 R Xa g y)),(6137,.dr (rpN [0,3,6,9,15,24,27,30,13,18,22,34,36,39,44,45,50,51])),(12281,.dr (rpN [0,3,6,9,12,18,21,24,27,36,16,31,33,39,42,45,48,51,56])),(180217,.dr (rpN [3,6,9,1,13,15,20])),(245753,.dr (rpN [3,6,9,1,13,15,18,23])),(65529,.mk [43,86,146,165,185,207,262,302,367,380,402] (ay.k7 R Xa g y)),(720889,.no)])]),(249,.mk [43,86,146,165,185,207,262] (ay.k1 R Xa)),(11001,.no),(3833,.mk [43,86,146,165,185,207,262,422] (ay.k2 R Xa)),(22265,.no),(7929,.mk [43,86,146,165,185,207,262,422] (ay.k4 R Xa)),(32505,.dr (rpN [3,6,9,12,1,17,20,23]))])] Tryz.func125 Tryz.call125 h
def ip (R:EP)(g:OA)(y:Int)(w:World):Prop:=aA g λa1=>∃c2,w.cell? (a1.add 8)=some (hY c2)/\br (decide (c2<y)) (tk w λE=>aA g λa4=>aA g λa5=>aA g λd0=>∃c1 b8 b7,E.cell? (a4.add 9)=some (hT c1 b8 b7)/\∃V,E.cell? (a5.add 7)=some (hX V)/\∃I,E.cell? (d0.add 8)=some (hY I)/\0<=I/\I<=y/\y<=(V.size:Int)/\box E #[hX (V.extract (Int.toNat I) (Int.toNat y))] ov λc9 O=>SameC E O (a4.add 9) 1/\∃b5 b4,∃b3 U,(Instr.buildSlice ap 1 #[(0,.iface bJ (kT (kE c9)))]).run P O= .ok (hT b5 b4 b3) U/\SameC O U (a4.add 9) 1/\∃b6 a7,∃W b9,(Builtin.append_ #[ap,ap] ap #[hT c1 b8 b7,hT b5 b4 b3]).run P U= .ok (hT b6 a7 W) b9/\aA g λc8=>stV b9 ((c8.add 9).add 0) (hT b6 a7 W) λc4=>aA g λc5=>stV c4 ((c5.add 8).add 0) (hY y) λc3=>R (hQ (.tuple #[])) c3) (R (hQ (.tuple #[])) w)
theorem ip.sound {R x0 x1 w}(h:ip R x0 x1 w):callE P dv #[kT x0,hY x1] R w:=
 aG [(9,.dr (rpN [0,3,6,9,15,18,21,27,30,33,39,13,25,37,42,45,50,51,56,59,60,63,68]))] Tryz.func121 Tryz.call121 h
def jN (R:EP)(E:OA)(y:Int)(w:World):Prop:=aA E λa1=>stV w ((a1.add 8).add 0) (hY y) λg=>R (hQ (.tuple #[])) g
theorem jN.sound {R x0 x1 w}(h:jN R x0 x1 w):callE P ik #[kT x0,hY x1] R w:=
 cF Tryz.func122 Tryz.call122 h
namespace aI
def bl1 (R:EP)(Xa:OA->Int->WP)(g:OA)(E:Int)(w:World):Prop:=aA g λa3=>∃O y I,w.cell? (a3.add 4)=some (hT O y I)/\br (decide ((y:Int)>E)) (callE P aJ #[kT g] (λe V=>∃(U:Value),e= hQ U/\Xa g E V) w) (R (hQ (.tuple #[])) w)
def l1 (R:EP)(y:OA)(g:Int)(w:World):Prop:=∀X:OA->Int->WP,(∀y g w,bl1 R X y g w->X y g w)->X y g w
def k1 (R:EP)(y:OA)(g:Int)(w:World):Prop:=l1 R y g w
end aI
def aI (R:EP)(y:OA)(E:Int)(w:World):Prop:=aA y λa1=>∃I g O,w.cell? (a1.add 4)=some (hT I g O)/\br (decide ((g:Int)<E)) (False) (aI.k1 R y E w)
theorem aI.sound {R x0 x1 w}(h:aI R x0 x1 w):callE P bm #[kT x0,hY x1] R w:=
 aG [(10,.no),(3,.mk [2,27] (aI.k1 R)),(5,.lp [2,27] (aI.bl1 R) λXa=> [])] Tryz.func81 Tryz.call81 h
namespace aK
def k3 (R:EP)(g:OA)(I:Value)(w:World):Prop:=tk w λO=>aA g λe9=>aA g λf5=>∃b5 c1 c4,O.cell? (e9.add 4)=some (hT b5 c1 c4)/\∃e6 b8 e3,O.cell? (f5.add 4)=some (hT e6 b8 e3)/\∃c2 V b6,(∀w,(Instr.sliceAt gk (hT b5 c1 c4) none (some (hY (i64.wrap ((b8:Int) - 1)))) none).run P w= .ok (hT c2 V b6) w)/\aA g λf3=>stV O ((f3.add 4).add 0) (hT c2 V b6) λU=>aA g λf2=>∃e7 b9 e4,U.cell? (f2.add 4)=some (hT e7 b9 e4)/\br (decide ((b9:Int)>0)) (tk U λE=>aA g λf1=>aA g λf6=>∃b4 c5 e2,E.cell? (f1.add 4)=some (hT b4 c5 e2)/\∃e8 y e5,E.cell? (f6.add 4)=some (hT e8 y e5)/\0<=(i64.wrap ((y:Int) - 1))/\(i64.wrap ((y:Int) - 1))<(c5:Int)/\aA b4 λd2=>∃c8 c9 a7,E.cell? ((d2.add (Int.toNat (i64.wrap ((y:Int) - 1))*4)).add 1)=some (hT c8 c9 a7)/\∃a6 d0,∃W d3,(Instr.buildSlice gl 1 #[(0,I)]).run P E= .ok (hT a6 d0 W) d3/\∃b7 c3,∃b3 d1,(Builtin.append_ #[gl,gl] gl #[hT c8 c9 a7,hT a6 d0 W]).run P d3= .ok (hT b7 c3 b3) d1/\stV d1 (((d2.add (Int.toNat (i64.wrap ((y:Int) - 1))*4)).add 1).add 0) (hT b7 c3 b3) λf7=>R (hQ I) f7) (∃e0 e1,(Instr.typeAssert I aO df false).run P U= .ok (kT e0) e1/\aA g λf0=>stV e1 ((f0.add 1).add 0) (kT e0) λf4=>R (hQ I) f4)
def k2 (R:EP)(E:OA)(U:Value)(V:OA)(w:World):Prop:=aA E λO=>∃g,w.cell? O=some (kT g)/\aA g λI=>∃y,w.cell? (I.add 2)=some (hV y)/\br y (False) (k3 R E U w)
def k1 (R:EP)(g b8:OA)(w:World):Prop:=aA b8 λa10=>∃(W:Value),w.cell? a10=some W/\de P (callMethod W "pub-paratext/pub/rscmarkdown.build" #[.iface ah (kT g)]) (λe b4=>∃(E:Value),e= hQ E/\∃I O y,(Instr.typeAssert E aO dn true).run P b4= .ok (.tuple #[kT I,hV O]) y/\br O (aA g λa7=>∃V,y.cell? (a7.add 6)=some (hV V)/\br V (aA g λb7=>stV y ((b7.add 6).add 0) (hV true) λa6=>k2 R g E I a6) (callE P lH #[kT I] (λe b3=>∃U,e= hQ (hV U)/\aA g λb5=>stV b3 ((b5.add 6).add 0) (hV U) λb6=>k2 R g E I b6) y)) (k3 R g E y)) w
end aK
def aK (R:EP)(I:OA)(w:World):Prop:=tk w λy=>aA I λa2=>aA I λa3=>∃O U b3,y.cell? (a2.add 4)=some (hT O U b3)/\∃b5 g b4,y.cell? (a3.add 4)=some (hT b5 g b4)/\0<=(i64.wrap ((g:Int) - 1))/\(i64.wrap ((g:Int) - 1))<(U:Int)/\aA O λW=>∃(E:Value),y.cell? (W.add (Int.toNat (i64.wrap ((g:Int) - 1))*4))=some E/\∃V a7,(do eqGuard .eql bO (.tmp 22) (.const .nilIface) E .nilIface;binOp .eql bO E .nilIface).run P y= .ok (hV V) a7/\br V (False) (aK.k1 R I (some (W.add (Int.toNat (i64.wrap ((g:Int) - 1))*4))) a7)
theorem aK.sound {R x0 w}(h:aK R x0 w):callE P aJ #[kT x0] R w:=
 aG [(5,.dr (rpN [0,3,6,12,15,18,10,22,24,27,30,33])),(43,.no),(15,.mk [2,62] (aK.k1 R)),(879,.mk [2,85,102] (aK.k2 R)),(2927,.no),(63,.mk [2,85] (aK.k3 R)),(95,.dr (rpN [0,3,6,9,15,18,21,13,25,27,30,33,36,39,44])),(1215,.dr (rpN [0,3,6,12,15,18,10,22,24,27,30,33]))] Tryz.func107 Tryz.call107 h
def je (R:EP)(b5:OA)(E:Value)(w:World):Prop:=tk w λy=>∃r2,(∀w,(Instr.typeAssert E mq ah false).run P w= .ok (kT r2) w)/\aA r2 λa3=>∃(a7:Option Nat),y.cell? (a3.add 2)=some (.map a7)/\de P (callMethod E "pub-paratext/pub/rscmarkdown.pos" #[]) (λe g=>∃I O,e= hQ (.agg #[hY I,hY O])/\SameC y g (a3.add 2) 1/\de P (callMethod E "pub-paratext/pub/rscmarkdown.blocks" #[]) (λe a6=>∃W V U,e= hQ (hT W V U)/\SameC g a6 (a3.add 2) 1/\box a6 #[hY I,hY O,hT W V U,.map a7] pj λb4 b3=>R (hQ (.iface df (kT (kE b4)))) b3) g) y
theorem je.sound {R x0 x1 w}(h:je R x0 x1 w):callE P iX #[kT x0,x1] R w:=
 aG [(5,.dr (rpN [0,6,12,15,18,21,25,5,11,27,32,33,36]))] Tryz.func368 Tryz.call368 h
namespace cI
def k1 (R:EP)(d1:OA)(b7:Value)(b6:BA)(w:World):Prop:=br (b6.toList==(hP #[]).toList) (False) (de P (callMethod b7 "pub-paratext/pub/rscmarkdown.pos" #[]) (λe c8=>∃I O,e= hQ (.agg #[hY I,hY O])/\box c8 #[hY 0,hY 0] aH λg d0=>stV d0 (hZ g 0) (hY I) λc5=>stV c5 (hZ g 1) (hY O) λc9=>tk c9 λE=>aA d1 λc4=>∃b4,E.cell? (hZ g 0)=some (hY b4)/\∃b9 U b8,E.cell? c4=some (hT b9 U b8)/\stV E (hZ g 1) (hY (i64.wrap ((i64.wrap (b4+(U:Int))) - 1))) λc1=>tk c1 λy=>∃b3,y.cell? (hZ g 0)=some (hY b3)/\∃a6,y.cell? (hZ g 1)=some (hY a6)/\∃W,y.cell? (hZ g 0)=some (hY W)/\∃b5,y.cell? (hZ g 1)=some (hY b5)/\de P (callMethod b7 "pub-paratext/pub/rscmarkdown.newText" #[.agg #[hY W,hY b5],hX b6]) (λe a7=>∃V,e= hQ (kT V)/\SameC y a7 (hZ g 0) 2/\box a7 #[hY b3,hY a6,kT V] nu λc2 c3=>R (hQ (.iface bE (kT (kE c2)))) c3) y) w)
def bl1 (R:EP)(Xa:OA->Value->BA->WP)(U:OA)(E:Value)(g:BA)(w:World):Prop:=br (!(g.toList==(hP #[]).toList)) (callE P il #[E,hX g] (λe O=>∃I y,e= hQ (.tuple #[hY I,hV y])/\br (!y) (k1 R U E g O) (False)) w) (False)
def l1 (R:EP)(E:OA)(y:Value)(g:BA)(w:World):Prop:=∀X:OA->Value->BA->WP,(∀E y g w,bl1 R X E y g w->X E y g w)->X E y g w
end cI
def cI (R:EP)(E:OA)(a7:Value)(w:World):Prop:=aA E λa1=>∃g,w.cell? (a1.add 1)=some (kT g)/\∃W y,(do eqGuard .neq fC (.tmp 12) (.const (kT none)) (kT g) (kT none);binOp .neq fC (kT g) (kT none)).run P w= .ok (hV W) y/\br W (False) (aA E λa5=>∃O U I,y.cell? a5=some (hT O U I)/\callE P gm #[hT O U I,hX (hP #[10])] (λe a6=>∃V,e= hQ (hX V)/\cI.l1 R E a7 V a6) y)
theorem cI.sound {R x0 x1 w}(h:cI R x0 x1 w):callE P iZ #[kT x0,x1] R w:=
 aG [(21,.no),(39,.lp [2,25,101] (cI.bl1 R) λXa=> [(14,.no),(117,.no)]),(31,.mk [2,25,101] (cI.k1 R)),(175,.no),(191,.dr (rpN [0,6,9,12,4,16,18,21,24,27,32])),(383,.dr (rpN [3,9,1,7,14,15,20,21,24]))] Tryz.func422 Tryz.call422 h
def iF (R:EP)(c2:OA)(c3 c4:Int)(c9:BA)(w:World):Prop:=box w #[hY c3,hY c4] aH λb1 g=>∃b8,g.cell? (hZ b1 0)=some (hY b8)/\∃c1,g.cell? (hZ b1 1)=some (hY c1)/\box g #[hY b8,hY c1,hT none 0 0,hX c9] Ca λb9 b7=>aA c2 λc8=>∃b4 W O,b7.cell? (c8.add 11)=some (hT b4 W O)/\∃V U,∃b6 a6,(Instr.buildSlice kG 1 #[(0,kT (kE b9))]).run P b7= .ok (hT V U b6) a6/\∃y E,∃I b3,(Builtin.append_ #[kG,kG] kG #[hT b4 W O,hT V U b6]).run P a6= .ok (hT y E I) b3/\aA c2 λa13=>stV b3 ((a13.add 11).add 0) (hT y E I) λc5=>R (hQ (kT (kE b9))) c5
theorem iF.sound {R x0 x1_0 x1_1 x2 w}(h:iF R x0 x1_0 x1_1 x2 w):callE P fy #[kT x0,.agg #[hY x1_0,hY x1_1],hX x2] R w:=
 cF Tryz.func192 Tryz.call192 h
def kg (R:EP)(a6:OA)(w:World):Prop:=box w #[hY 0,hY 0] aH λb1 b7=>tk b7 λy=>aA a6 λa4=>aA a6 λa5=>∃V W b3,y.cell? (a4.add 4)=some (hT V W b3)/\∃b5 g b6,y.cell? (a5.add 4)=some (hT b5 g b6)/\0<=(i64.wrap ((g:Int) - 1))/\(i64.wrap ((g:Int) - 1))<(W:Int)/\aA V λa8=>∃a7,y.cell? (((a8.add (Int.toNat (i64.wrap ((g:Int) - 1))*4)).add 2).add 0)=some (hY a7)/\∃I,y.cell? (((a8.add (Int.toNat (i64.wrap ((g:Int) - 1))*4)).add 2).add 1)=some (hY I)/\stV y (hZ b1 0) (hY a7) λb4=>stV b4 (hZ b1 1) (hY I) λE=>∃O,E.cell? (hZ b1 0)=some (hY O)/\∃U,E.cell? (hZ b1 1)=some (hY U)/\R (hQ (.agg #[hY O,hY U])) E
theorem kg.sound {R x0 w}(h:kg R x0 w):callE P kf #[kT x0] R w:=
 aG [(5,.dr (rpN [0,3,6,12,15,18,10,22,24,27,30,33]))] Tryz.func421 Tryz.call421 h
end Go.Proofs.YtendaipfdnhnaaaGreatDoor
