/- Part 1 of the proof of the law FnFlat: for every input the law returns true, the inputs read as they did, and memory that was there is as it was; under the conditions of the given row alone. -/
import Derived.Tactics
import Derived.Orders
import Derived.KernelRfl
import Derived.Scope
import Derived.OrdersHeld
import Derived.ArgAppend
import Derived.ChangeFn
import Derived.IntWalk
import Derived.ChangeSame
import Derived.Test.YtendaipfdnhnaaaGreatDoorProg
set_option linter.all false
open Go.IntKind(i64)
open ByteArray renaming mk→hP
open List renaming replicate→hN
namespace Go.Proofs.YtendaipfdnhnaaaGreatDoor

abbrev Fr:=Nat->Value
def upd (ρ:Fr)(d:Nat)(v:Value):Fr:=λt=>match Nat.beq t d with|true=>v|false=>ρ t
def rJ (ρ:Fr):Option Nat->Value->Fr
 |none,_=>ρ
 |some d,v=>upd ρ d v
def rd (ρ:Fr):Operand->Value
 | .tmp t=>ρ t
 | .const v=>v
 | .global g=> .pointer (some ⟨g,0,none⟩)
 | .func f=> .func (.func f) #[] #[]
structure RelF (n:Nat) (a:Act) (ρ:Fr):Prop where
 size:a.tmps.size=n
 defers:a.defers= []
 get: ∀t,a.tmps.getD t undef=ρ t

theorem rQ (ρ:Fr)(d:Nat):upd ρ d (ρ d)=ρ:=by
 funext t
 unfold upd
 cases h:Nat.beq t d with
 |true=>rw[Nat.eq_of_beq_eq_true h]
 |false=>rfl

theorem RelF.eval {n:Nat}{a:Act}{ρ:Fr}(h:RelF n a ρ)(x:Operand):a.eval x=rd ρ x:=by
 cases x<;>simp[Act.eval,rd,h.get]

theorem RelF.put {n:Nat}{a:Act}{ρ:Fr}(h:RelF n a ρ)(d:Option Nat)(v:Value)(hd: ∀k,d=some k->k<n):RelF n (a.put d v) (rJ ρ d v):=by
 cases d with
 |none=>exact h
 |some d=>
  have g:=hd d rfl
  refine⟨by simp[Act.put,h.size],by simp[Act.put,h.defers],λt=>?_⟩
  have hs:=h.size
  simp only[Act.put,rJ,upd]
  cases e:Nat.beq t d with
  |true=>
   have:=Nat.eq_of_beq_eq_true e
   subst this
   simp[Array.getD,hs,g]
  |false=>
   have y:t≠d:=λhc=>by subst hc;simp at e
   have E:=h.get t
   simp only[<-E,Array.getD_eq_getD_getElem?]
   rw[Array.getElem?_setIfInBounds_ne (Ne.symm y)]

inductive STy where
 |bool|int (k:IntKind)|str|ptr|slice|map|any
  |loc
def STy.of:Value->STy
 | .bool _=> .bool
 | .int k _=> .int k
 | .string _=> .str
 | .pointer _=> .ptr
 | .slice .. => .slice
 | .map _=> .map
 |_=> .any
inductive CTy where
 |s (t:STy)
 |agg (ts:List STy)
def CTy.of:Value->CTy
 | .agg cs=> .agg (cs.toList.map STy.of)
 |v=> .s (STy.of v)
inductive Ty where
 |c (t:CTy)
 |tuple (ts:List CTy)
def Ty.of:Value->Ty
 | .tuple vs=> .tuple (vs.toList.map CTy.of)
 |v=> .c (CTy.of v)
def GN (P:Program)(t:TypeId):Ty:=
 match P.types[t]? with
 |some i=>match i.zero with
  |some z=>Ty.of z
  |none=> .c (.s .any)
 |none=> .c (.s .any)

def EH (P:Program)(t:TypeId):CTy:=
 match GN P t with
 | .c c=>c
 | .tuple _=> .s .any
def okTy (c:CTy)(ok:Bool):Ty:=
 match ok with
 |true=> .tuple [c,.s .bool]
 |false=> .c c

def STy.ex:STy->(Value->Prop)->Prop
 | .bool,K=> ∃b:Bool,K (.bool b)
 | .int k,K=> ∃n:Int,K (.int k n)
 | .str,K=> ∃s:ByteArray,K (.string s)
 | .ptr,K=> ∃q:Option Addr,K (.pointer q)
 | .slice,K=> ∃(q:Option Addr) (n c:Nat),K (.slice q n c)
 | .map,K=> ∃q:Option Nat,K (.map q)
 | .any,K=> ∃v:Value,K v
 | .loc,K=> ∃b:Nat,K (.pointer (some ⟨b,0,none⟩))
def exS:List STy->(List Value->Prop)->Prop
 | [],K=>K []
 |t::ts,K=>t.ex λv=>exS ts λvs=>K (v::vs)
def CTy.ex:CTy->(Value->Prop)->Prop
 | .s t,K=>t.ex K
 | .agg ts,K=>exS ts λvs=>K (.agg vs.toArray)
def exC:List CTy->(List Value->Prop)->Prop
 | [],K=>K []
 |t::ts,K=>t.ex λv=>exC ts λvs=>K (v::vs)
def Ty.ex:Ty->(Value->Prop)->Prop
 | .c t,K=>t.ex K
 | .tuple ts,K=>exC ts λvs=>K (.tuple vs.toArray)

theorem STy.ex_out {t:STy}{K:Value->Prop}(h:t.ex K): ∃v,K v:=by
 cases t<;>simp only[STy.ex] at h
 case slice=>obtain⟨q,n,c,h⟩:=h;exact⟨_,h⟩
 all_goals obtain⟨x,h⟩:=h;exact⟨_,h⟩
theorem C2: ∀ {ts:List STy} {K:List Value->Prop},exS ts K-> ∃vs,K vs/\vs.length=ts.length
 | [],_,h=>⟨[],h,rfl⟩
 |_::_,_,h=>by
  obtain⟨v,h⟩:=STy.ex_out h
  obtain⟨vs,h,g⟩:=C2 h
  exact⟨_,h,by simp[g]⟩
theorem CTy.ex_out {t:CTy}{K:Value->Prop}(h:t.ex K): ∃v,K v:=by
 cases t with
 |s t=>exact STy.ex_out h
 |agg ts=>obtain⟨vs,h,_⟩:=C2 h;exact⟨_,h⟩
theorem C3: ∀ {ts:List CTy} {K:List Value->Prop},exC ts K-> ∃vs,K vs
 | [],_,h=>⟨[],h⟩
 |_::_,_,h=>by
  obtain⟨v,h⟩:=CTy.ex_out h
  obtain⟨vs,h⟩:=C3 h
  exact⟨_,h⟩
theorem Ty.ex_out {t:Ty}{K:Value->Prop}(h:t.ex K): ∃v,K v:=by
 cases t with
 |c t=>exact CTy.ex_out h
 |tuple ts=>obtain⟨vs,h⟩:=C3 h;exact⟨_,h⟩

def ni (P:Program){g:Type}:Sem g->Option g
 | .pure a=>some a
 | .program k=>ni P (k P)
 |_=>none
theorem j8 (P:Program){g:Type}(s:Sem g)(a:g)(h:ni P s=some a)(w:World):s.run P w= .ok a w:=by
 induction s with
 |pure x=>simp only[ni,Option.some.injEq] at h;subst h;rfl
 |program k y=>exact y P h
 |_=>simp[ni] at h
def oD (P:Program)(s:Sem Value)(K:Value->Prop):Prop:=
 match ni P s with
 |some v=>K v
 |none=>False

def alc (w:World)(cs:Array Value)(e:TypeId):World:= {w with heap:=w.heap.push (.cells cs e)}
def aA (q:Option Addr)(K:Addr->Prop):Prop:=
 match q with
 |some a=>K a
 |none=>False
def HK:Value->Prop
 | .iface _ _=>True
 | .func (.func _) _ _=>True
 |_=>False
def nilV (v:Value)(K:Value->Prop):Prop:=
 match v with
 | .pointer q=>aA q λa=>K (.pointer (some a))
 |v=>HK v/\K v
def ldS (w:World):List STy->Addr->Nat->(List Value->Prop)->Prop
 | [],_,_,K=>K []
 |t::ts,a,i,K=>t.ex λv=>w.cell? (a.add i)=some v/\ldS w ts a (i+1) λvs=>K (v::vs)
def zR (P:Program)(t:TypeId):Bool:=
 match P.underlying t with
 |some (.struct _)|some (.array _ _)=>true
 |_=>false
def yO (P:Program)(t:TypeId)(a:Addr)(w:World)(K:Value->Prop):Prop:=
 match P.info? t,P.underlying t with
 |some i,some _=>match zR P t,i.zero with
  |true,some (.agg cs)=>match Nat.beq cs.toList.length i.size with
   |true=>ldS w (cs.toList.map STy.of) a 0 λvs=>K (.agg vs.toArray)
   |false=>False
  |false,some z=>(STy.of z).ex λv=>w.cell? a=some v/\K v
  |_,_=>False
 |_,_=>False
def nU:Value->Prop
 | .agg _| .tuple _=>False
 |_=>True
def stV (w:World)(a:Addr)(v:Value)(K:World->Prop):Prop:=
 nU v/\(∃u,w.cell? a=some u)/\w.frozen? a=false/\K (w.setCell a v)
def stS:List Value->Addr->Nat->World->(World->Prop)->Prop
 | [],_,_,w,K=>K w
 |v::vs,a,i,w,K=>stV w (a.add i) v λg=>stS vs a (i+1) g K
def Dg (v:Value)(K:Prop):Prop:=
 match v with
 | .bool _=>K
 | .int _ _=>K
 | .string _=>K
 | .pointer _=>K
 | .slice _ _ _=>K
 | .map _=>K
 | .func _ _ _=>K
 | .nilFunc=>K
 | .iface _ _=>K
 | .nilIface=>K
 | .agg _=>False
 | .tuple _=>False
 |v=>nU v/\K
def uJ (P:Program)(t:TypeId)(v:Value)(K:List Value->Prop):Prop:=
 match zR P t with
 |true=>match v with
  | .agg cs=>K cs.toList
  |_=>False
 |false=>Dg v (K [v])
def BX (P:Program)(t:TypeId)(a:Addr)(v:Value)(w:World)(K:World->Prop):Prop:=
 match P.info? t with
 |some i=>uJ P t v λcs=>match Nat.beq cs.length i.size with
  |true=>stS cs a 0 w K
  |false=>False
 |none=>False
def setCells:List Value->Nat->List Value->List Value
 |cs,_,[]=>cs
 |cs,off,v::vs=>setCells (cs.set off v) (off+1) vs
def buildS (P:Program)(fs:Array Field):List (Nat × Value)->List Value->(List Value->Prop)->Prop
 | [],cs,K=>K cs
 |(i,v)::ps,cs,K=>match fs[i]? with
  |some f=>match P.info? f.type with
   |some g=>uJ P f.type v λxs=>match Nat.beq xs.length g.size,Nat.ble (f.offset+xs.length) cs.length with
    |true,true=>buildS P fs ps (setCells cs f.offset xs) K
    |_,_=>False
   |none=>False
  |none=>False
def bt (s:ByteArray)(n:Int):Int:=((s.data.getD n.toNat 0).toNat:Int)
def callE (P:Program)(f:FuncId)(g:Array Value)(R:Ending->World->Prop)(w:World):Prop:=
 ((∀g w,(callFunc f g).run P w= .ok (.enter f g) w)/\Calls P f g w R)\/ ∃v y,(callFunc f g).run P w= .ok (.value v) y/\R (.returned v) y
def de (P:Program)(s:Sem Next)(R:Ending->World->Prop)(w:World):Prop:=
 (∃f y g,s.run P w= .ok (.enter f y) g/\Calls P f y g R)\/ ∃v g,s.run P w= .ok (.value v) g/\R (.returned v) g
def tF (P:Program)(s:Sem Value)(ty:Ty)(K:Value->World->Prop)(w:World):Prop:=
 ty.ex λv=> ∃g,s.run P w= .ok v g/\K v g
def semU (P:Program)(s:Sem Unit)(K:World->Prop)(w:World):Prop:=
 ∃g,s.run P w= .ok () g/\K g

def Hi (P:Program)(s:Sem Value)(y:Bool)(K:Value->World->Prop)(w:World):Prop:=
 (∃g,s.run P w= .ok (.tuple #[.bool false]) g/\K (.tuple #[.bool false]) g)\/
 match y with
 |true=> ∃(i c:Int),∃g,s.run P w= .ok (.tuple #[.bool true,.int .i64 i,.int .i32 c]) g/\K (.tuple #[.bool true,.int .i64 i,.int .i32 c]) g
 |false=> ∃(k v:Value),∃g,s.run P w= .ok (.tuple #[.bool true,k,v]) g/\K (.tuple #[.bool true,k,v]) g

def Cc (P:Program)(t:TypeId):Bool:=
 match P.underlying t with
 |some (.int _)|some .string|some .bool=>true
 |_=>false
def binV (P:Program)(op:BinOp)(xt:TypeId)(E I:Operand)(x g:Value)(ty:Ty)(K:Value->World->Prop)(w:World):Prop:=
 match Cc P xt with
 |false=>tF P (do eqGuard op xt E I x g;binOp op xt x g) ty K w
 |true=>
 match x,g with
 | .int k a,.int k' b=>match op with
  | .quo=>b≠0/\match decide (k=k') with
   |true=>K (.int k (k.wrap (a.tdiv b))) w
   |false=>False
  | .rem=>b≠0/\match decide (k=k') with
   |true=>K (.int k (a.tmod b)) w
   |false=>False
  | .shl=>0<=b/\K (.int k (k.wrap (a*2 ^ (min b.toNat k.bits)))) w
  | .shr=>0<=b/\K (.int k (a.fdiv (2 ^ (min b.toNat k.bits)))) w
  |_=>oD P (do eqGuard op xt E I x g;binOp op xt x g) λv=>K v w
 | .string a,.string b=>match op with
  | .add=>((a.size+b.size:Nat):Int)<=i64.max/\K (.string (a++b)) w
  |_=>oD P (do eqGuard op xt E I x g;binOp op xt x g) λv=>K v w
 | .bool _,.bool _=>oD P (do eqGuard op xt E I x g;binOp op xt x g) λv=>K v w
 |_,_=>tF P (do eqGuard op xt E I x g;binOp op xt x g) ty K w

def py (s:ByteArray)(lo hi:Option Value)(K:Value->Prop):Prop:=
 match lo,hi with
 |none,none=>K (.string s)
 |some (.int _ l),none=>0<=l/\l<=s.size/\K (.string (s.extract l.toNat s.size))
 |none,some (.int _ h)=>0<=h/\h<=s.size/\K (.string (s.extract 0 h.toNat))
 |some (.int _ l),some (.int _ h)=>0<=l/\l<=h/\h<=s.size/\K (.string (s.extract l.toNat h.toNat))
 |_,_=>False

def opV (P:Program)(o:Oper)(ρ:Fr)(K:Value->World->Prop)(w:World):Prop:=
 match o.op with
 | .move x| .assign x=>K (rd ρ x) w
 | .pick c x y=>match rd ρ c with
  | .bool b=>match b with
   |true=>K (rd ρ x) w
   |false=>K (rd ρ y) w
  |_=>False
 | .binOp op xt x y _=>binV P op xt x y (rd ρ x) (rd ρ y) (.c (.s .bool)) K w
 | .unOp op _ x=>oD P (Op.unary op (rd ρ x)) λv=>K v w
 | .nilCheck x=>nilV (rd ρ x) λv=>K v w
 | .fieldAddr s x f=>match rd ρ x with
  | .pointer (some a)=>match P.underlying s with
   |some (.struct fs)=>match fs[f]? with
    |some I=>match P.info? I.type with
     |some i=>match i.size with
      |0=>tF P (Instr.fieldAt s (rd ρ x) f) (.c (.s .ptr)) K w
      |_+1=>K (.pointer (some (a.add I.offset))) w
     |none=>False
    |none=>False
   |_=>False
  |_=>False
 | .field xt x f=>oD P (Instr.field xt (rd ρ x) f) λv=>K v w
 | .load t x=>match rd ρ x with
  | .pointer (some a)=>yO P t a w λv=>K v w
  |_=>False
 | .store t x y=>match rd ρ x with
  | .pointer (some a)=>BX P t a (rd ρ y) w λg=>K undef g
  |_=>False
 | .box e x=>uJ P e (rd ρ x) λcs=> ∀b,w.heap.size=b->K (.pointer (some ⟨b,0,none⟩)) (alc w cs.toArray e)
 | .alloc e=>match P.info? e with
  |some i=>match i.zero with
   |some z=>uJ P e z λcs=> ∀b,w.heap.size=b->K (.pointer (some ⟨b,0,none⟩)) (alc w cs.toArray e)
   |none=>False
  |none=>False
 | .build t parts=>match P.underlying t,P.info? t with
  |some (.struct fs),some E=>match E.zero with
   |some (.agg O)=>match fs.toList.all λf=>(P.info? f.type).isSome with
    |true=>buildS P fs (parts.toList.map λ(i,x)=>(i,rd ρ x)) O.toList λcs=>K (.agg cs.toArray) w
    |false=>False
   |_=>False
  |_,_=>oD P (Instr.build t (parts.map λ(i,x)=>(i,rd ρ x))) λv=>K v w
 | .buildSlice t len parts=>tF P (Instr.buildSlice t len (parts.map λ(i,x)=>(i,rd ρ x))) (.c (.s .slice)) K w
 | .makeInterface t x=>oD P (Instr.makeInterface t (rd ρ x)) λv=>K v w
 | .makeFunc fn first captured=>K (.func fn (first.map (rd ρ)) (captured.map (rd ρ))) w
 | .extract x i=>match rd ρ x with
  | .tuple vs=>match vs[i]? with
   |some v=>K v w
   |none=>False
  |_=>False
 | .index xt x i=>match rd ρ x,rd ρ i with
  | .string s,.int _ n=>match P.underlying xt with
   |some .string=>0<=n/\n<s.size/\K (.int .u8 (bt s n)) w
   |_=>False
  |x',i'=>match P.underlying xt with
   |some (.array _ e)=>tF P (Instr.index xt x' i') (.c (EH P e)) K w
   |_=>False
 | .indexAddr t x i=>match rd ρ x,rd ρ i with
  | .slice q len _,.int _ n=>match P.underlying t with
   |some (.slice e)=>match P.info? e with
    |some E=>0<=n/\n<len/\aA q λa=>K (.pointer (some (a.add (n.toNat*E.size)))) w
    |none=>False
   |_=>False
  | .pointer (some ad),.int _ n=>match P.underlying t with
   |some (.array len e)=>match P.info? e with
    |some E=>0<=n/\n<(len:Int)/\K (.pointer (some (ad.add (n.toNat*E.size)))) w
    |none=>False
   |_=>False
  |x',i'=>tF P (Instr.indexAt t x' i') (.c (.s .ptr)) K w
 | .slice t x lo hi mx=>match rd ρ x with
  | .string s=>match P.underlying t,mx with
   |some .string,none=>py s (lo.map (rd ρ)) (hi.map (rd ρ)) λv=>K v w
   |_,_=>False
  |x'=>tF P (Instr.sliceAt t x' (lo.map (rd ρ)) (hi.map (rd ρ)) (mx.map (rd ρ))) (.c (.s .slice)) K w
 | .convert src dst x=>match rd ρ x with
  | .int _ n=>match P.underlying src,P.underlying dst with
   |some (.int _),some (.int k)=>K (.int k (k.wrap n)) w
   |some (.int _),some .string=>K (.string (Utf8.encode n)) w
   |_,_=>False
  | .string s=>match P.underlying src,P.underlying dst with
   |some .string,some .string=>K (.string s) w
   |_,_=>tF P (convert src dst (rd ρ x)) (GN P dst) K w
  |x'=>tF P (convert src dst x') (GN P dst) K w
 | .typeAssert x xt asserted ok=>tF P (Instr.typeAssert (rd ρ x) xt asserted ok) (okTy (EH P asserted) ok) K w
 | .makeMap t r=>tF P (Instr.makeMap t (r.map (rd ρ))) (.c (.s .map)) K w
 | .makeSlice t l c=>tF P (Instr.makeSlice t (rd ρ l) (rd ρ c)) (.c (.s .slice)) K w
 | .lookup xt x i ok=>match P.underlying xt with
  |some (.map _ e)=>tF P (Instr.lookup xt (rd ρ x) (rd ρ i) ok) (okTy (EH P e) ok) K w
  |_=>False
 | .mapUpdate t m k x| .insert t m k x=>semU P (Instr.mapUpdate t (rd ρ m) (rd ρ k) (rd ρ x)) (λg=>K undef g) w
 | .range xt x=>tF P (Instr.range xt (rd ρ x)) (.c (.s .any)) K w
 | .next it isString=>Hi P (Instr.next (rd ρ it) isString o.type) isString K w
 | .call c=>match c.callee with
  | .builtin .len=>match c.argTypes[0]?,c.args[0]? with
   |some t,some x=>match P.underlying t,rd ρ x with
    |some .string,.string s=>K (.int .i64 s.size) w
    |some (.slice _),.slice _ n _=>K (.int .i64 n) w
    |_,v=>tF P (Builtin.len_ c.argTypes o.type #[v]) (.c (.s (.int .i64))) K w
   |_,_=>False
  | .builtin .append=>tF P (Builtin.append_ c.argTypes o.type (c.args.map (rd ρ))) (.c (.s .slice)) K w
  | .builtin .copy=>tF P (Builtin.copy_ c.argTypes o.type (c.args.map (rd ρ))) (.c (.s (.int .i64))) K w
  | .builtin .cap=>tF P (Builtin.cap_ c.argTypes o.type (c.args.map (rd ρ))) (.c (.s (.int .i64))) K w
  | .builtin .max=>tF P (Builtin.max_ c.argTypes o.type (c.args.map (rd ρ))) (.c (.s (.int .i64))) K w
  | .builtin .min=>tF P (Builtin.min_ c.argTypes o.type (c.args.map (rd ρ))) (.c (.s (.int .i64))) K w
  | .builtin .unsafeSliceData=>tF P (Builtin.unsafeSliceData_ c.argTypes o.type (c.args.map (rd ρ))) (.c (.s .ptr)) K w
  | .builtin .unsafeString=>tF P (Builtin.unsafeString_ c.argTypes o.type (c.args.map (rd ρ))) (.c (.s .str)) K w
  | .builtin _=>False
  | .value (.func f)=>callE P f (c.args.map (rd ρ)) (λe g=>(GN P o.type).ex λv=>e= .returned v/\K v g) w
  | .value x=>de P (do let d <-Deferred.ofValue (rd ρ x) (c.args.map (rd ρ));invoke d.target d.args) (λe g=>(GN P o.type).ex λv=>e= .returned v/\K v g) w
  | .invoke r name=>de P (callMethod (rd ρ r) name (c.args.map (rd ρ))) (λe g=>(GN P o.type).ex λv=>e= .returned v/\K v g) w
 |_=>False

end Go.Proofs.YtendaipfdnhnaaaGreatDoor


namespace Go.Proofs.YtendaipfdnhnaaaGreatDoor
variable {P:Program}

def E4 (a:Act)(o:Oper)(K:Value->World->Prop)(g:Act)(y:World):Prop:= ∃v,g=a.put o.dst v/\K v y

theorem bf {o:Oper}{a:Act}{K:Value->World->Prop}{Q:Exit->Act->World->Prop}{r:Result Next}{v:Value}{g:World}(h:r= .ok (.value v) g)(y:K v g):o.upon P a (E4 a o K) Q r:=by
 subst h;exact⟨v,rfl,y⟩
theorem uR {o:Oper}{a:Act}{K:Value->World->Prop}{Q:Exit->Act->World->Prop}{r:Result Next}{g:World}(h:r= .ok .skip g)(y:K undef g):o.upon P a (E4 a o K) Q r:=by
 subst h;exact⟨undef,rfl,y⟩
theorem sj {o:Oper}{a:Act}{K:Value->World->Prop}{Q:Exit->Act->World->Prop}{r:Result Next}{f:FuncId}{g:Array Value}{E:World}{ty:Ty}(h:r= .ok (.enter f g) E)(O:Calls P f g E λe y=>ty.ex λv=>e= .returned v/\K v y):o.upon P a (E4 a o K) Q r:=by
 subst h
 refine Calls.mono O λe y I=>?_
 obtain⟨v,rfl,hv⟩:=Ty.ex_out I
 exact⟨v,rfl,hv⟩

theorem aU {s:Sem Value}{v:Value}{w g:World}(h:s.run P w= .ok v g):
 (s>>=λv=>pure (.value v):Sem Next).run P w= .ok (.value v) g:=by
 rw[Sem.run_bind,h];rfl
theorem sC {s:Sem Unit}{w g:World}(h:s.run P w= .ok () g):
 (s>>=λ_=>pure .skip:Sem Next).run P w= .ok .skip g:=by
 rw[Sem.run_bind,h];rfl

theorem eR {s:Sem Value}{K:Value->Prop}(h:oD P s K): ∃v,K v/\ ∀w,s.run P w= .ok v w:=by
 unfold oD at h
 split at h
 ·rename_i v hv;exact⟨v,h,λw=>j8 P s v hv w⟩
 ·exact h.elim

theorem xj {t:TypeId}{w:World}{d:TypeDesc}(h:P.underlying t=some d):(isAgg t).run P w= .ok (zR P t) w:=by
 unfold isAgg underlying zR
 simp only[Sem.run_bind,run_program,Result.andThen_ok,h]
 cases d<;>rfl

theorem Cx: ∀ {ts:List STy} {w:World} {a:Addr} {i:Nat} {K:List Value->Prop},ldS w ts a i K->
 ∃vs,K vs/\vs.length=ts.length/\ ∀(g:Array Value),(loadCellsFrom a i ts.length g).run P w= .ok (g++vs.toArray) w
 | [],_,_,_,_,h=>⟨[],h,rfl,λg=>by simp[loadCellsFrom]⟩
 |t::ts,w,a,i,K,h=>by
  obtain⟨v,hc,h⟩:=STy.ex_out h
  obtain⟨vs,y,E,hr⟩:=Cx h
  refine⟨v::vs,y,by simp[E],λg=>?_⟩
  simp only[List.length_cons,loadCellsFrom,Sem.run_bind,run_load,hc,Result.andThen]
  rw[hr]
  simp

theorem wU {t:TypeId}{a:Addr}{w:World}{K:Value->Prop}(h:yO P t a w K): ∃v,K v/\(loadVar t a).run P w= .ok v w:=by
 unfold yO at h
 split at h
 ·rename_i i d hi V
  have y:=xj (w:=w) V
  split at h
  ·rename_i cs hb hz
   split at h
   ·rename_i E
    obtain⟨vs,g,W,hr⟩:=Cx (P:=P) h
    refine⟨_,g,?_⟩
    have I:i.size=cs.size:=by simp[<-Nat.eq_of_beq_eq_true E]
    have O:(loadCellsFrom a 0 cs.size #[]).run P w= .ok vs.toArray w:=by simpa using hr #[]
    unfold loadVar loadCells sizeOf typeInfo
    simp only[Sem.run_bind,y,Result.andThen_ok,hb,if_true,run_program,hi]
    have U:(pure i:Sem TypeInfo).run P w= .ok i w:=rfl
    simp only[U,Result.andThen_ok,I]
    rw[show (pure cs.size:Sem Nat).run P w= .ok cs.size w from rfl]
    simp only[Result.andThen_ok,O]
    rfl
   ·exact h.elim
  ·rename_i z hb hz
   obtain⟨v,hc,g⟩:=STy.ex_out h
   refine⟨v,g,?_⟩
   unfold loadVar
   simp only[Sem.run_bind,y,Result.andThen_ok,hb,Bool.false_eq_true,if_false,run_load,hc]
  ·exact h.elim
 ·exact h.elim

theorem BZ: ∀ {vs:List Value} {a:Addr} {i:Nat} {w:World} {K:World->Prop},stS vs a i w K->
 ∃g,K g/\(storeCells a vs i).run P w= .ok () g
 | [],_,_,w,_,h=>⟨w,h,rfl⟩
 |v::vs,a,i,w,K,h=>by
  obtain⟨I,⟨u,O⟩,y,h⟩:=h
  obtain⟨g,E,hr⟩:=BZ h
  refine⟨g,E,?_⟩
  have hv:v.oneCell'=true:=by cases v<;>first|rfl|exact I.elim
  simp only[storeCells,Sem.run_bind,run_store P w (a.add i) v .plain hv,O,y,Bool.false_eq_true,if_false,Result.andThen]
  exact hr

theorem Df {v:Value}{K:Prop}(h:Dg v K):K/\v.cells= #[v]/\nU v:=by
 cases v<;>first|exact⟨h,rfl,trivial⟩|exact⟨h.2,rfl,trivial⟩|exact h.elim
theorem ow {t:TypeId}{v:Value}{K:List Value->Prop}(h:uJ P t v K):K v.cells.toList:=by
 unfold uJ at h
 split at h
 ·split at h
  ·exact h
  ·exact h.elim
 ·obtain⟨h,hc,_⟩:=Df h
  rw[hc]
  exact h

theorem As {t:TypeId}{a:Addr}{v:Value}{w:World}{K:World->Prop}(h:BX P t a v w K):
 ∃g,K g/\(storeVar t a v).run P w= .ok () g:=by
 unfold BX at h
 split at h
 ·rename_i i hi
  have h:=ow h
  split at h
  ·rename_i hs
   obtain⟨g,I,hr⟩:=BZ (P:=P) h
   refine⟨g,I,?_⟩
   have y:v.cells.size=i.size:=by simpa using Nat.eq_of_beq_eq_true hs
   unfold storeVar sizeOf typeInfo
   simp only[Sem.run_bind,run_program,Result.andThen_ok,hi]
   have O:(pure i:Sem TypeInfo).run P w= .ok i w:=rfl
   have E:(pure i.size:Sem Nat).run P w= .ok i.size w:=rfl
   simp only[O,E,Result.andThen_ok,y,ne_eq,not_true_eq_false,if_false]
   simpa[Sem.run_bind,pure,Sem.run,Result.andThen] using hr
  ·exact h.elim
 ·exact h.elim

theorem yv (xs:List Value): ∀(cs:List Value) (g:Nat),setCells cs g xs=(xs.zipIdx.foldl (λcs (c,j)=>cs.set (g+j) c) cs):=by
 have y: ∀(xs:List Value) (cs:List Value) (g k:Nat),setCells cs (g+k) xs=((xs.zipIdx k).foldl (λcs (c,j)=>cs.set (g+j) c) cs):=by
  intro xs
  induction xs with
  |nil=>intro cs g k;rfl
  |cons x xs E=>
   intro cs g k
   simp only[setCells,List.zipIdx_cons,List.foldl_cons]
   rw[<-E (cs.set (g+k) x) g (k+1)]
   rfl
 intro cs g
 exact y xs cs g 0
theorem rM (xs:List (Value × Nat))(g:Nat): ∀(cs:Array Value),(xs.foldl (λcs (c,j)=>cs.setIfInBounds (g+j) c) cs).toList=xs.foldl (λcs (c,j)=>cs.set (g+j) c) cs.toList:=by
 induction xs with
 |nil=>intro cs;rfl
 |cons x xs y=>intro cs;simp only[List.foldl_cons];rw[y];simp
theorem qR {fs:Array Field}{K:List Value->Prop}{U:Array (Nat × Nat)}(V: ∀(i:Nat) (f:Field) (g:TypeInfo),fs[i]? =some f->P.info? f.type=some g->U[i]? =some (f.offset,g.size)):
 ∀ {I:List (Nat × Value)} {cs:Array Value},buildS P fs I cs.toList K-> ∃y,K y.toList/\Instr.fill (U[·]?) cs I=some y
 | [],cs,h=>⟨cs,h,rfl⟩
 |(i,v)::I,cs,h=>by
  unfold buildS at h
  split at h
  ·rename_i f a6
   split at h
   ·rename_i g hi
    have h:=ow h
    split at h
    ·rename_i O E
     have O:=Nat.eq_of_beq_eq_true O
     have E:=Nat.le_of_ble_eq_true E
     simp only[Array.length_toList] at O E
     have a7:setCells cs.toList f.offset v.cells.toList=(v.cells.zipIdx.foldl (λcs (c,j)=>cs.setIfInBounds (f.offset+j) c) cs).toList:=by
      rw[yv,<-Array.foldl_toList,rM]
      simp
     rw[a7] at h
     obtain⟨y,b3,W⟩:=qR V h
     refine⟨y,b3,?_⟩
     unfold Instr.fill
     simp only[V i f g a6 hi]
     rw[if_neg (by simp;omega)]
     exact W
    ·exact h.elim
   ·exact h.elim
  ·exact h.elim

theorem qw {w:World}: ∀(l:List Field),(l.all λf=>(P.info? f.type).isSome)=true->
 (l.mapM (m:=Sem) λf=>do pure (f.offset,<-sizeOf f.type)).run P w= .ok (l.map λf=>(f.offset,((P.info? f.type).map (·.size)).getD 0)) w
 | [],_=>rfl
 |f::l,h=>by
  simp only[List.all_cons,Bool.and_eq_true] at h
  obtain⟨g,hi⟩:=Option.isSome_iff_exists.1 h.1
  have hs:(sizeOf f.type).run P w= .ok g.size w:=by
   unfold sizeOf typeInfo
   simp only[Sem.run_bind,run_program,Result.andThen_ok,hi]
   rfl
  simp only[List.mapM_cons,Sem.run_bind,hs,Result.andThen_ok]
  rw[show (pure (f.offset,g.size):Sem (Nat × Nat)).run P w= .ok (f.offset,g.size) w from rfl]
  simp only[Result.andThen_ok,qw l h.2,List.map_cons,hi]
  rfl

theorem EU {op:BinOp}{xt:TypeId}{U O:Operand}{x I:Value}{ty:Ty}{K:Value->World->Prop}{w:World}(h:binV P op xt U O x I ty K w):
 ∃v E,K v E/\(do eqGuard op xt U O x I;binOp op xt x I:Sem Value).run P w= .ok v E:=by
 unfold binV at h
 split at h
 ·obtain⟨v,E,hr,h⟩:=Ty.ex_out h
  exact⟨v,E,h,hr⟩
 split at h
 ·rename_i k a V b
  split at h
  ·obtain⟨hb,h⟩:=h
   split at h
   ·rename_i g
    have g:=of_decide_eq_true g
    subst g
    refine⟨_,w,h,?_⟩
    show (binOp .quo xt (.int k a) (.int k b)).run P w=_
    simp[binOp,Op.intDiv,hb]
   ·exact h.elim
  ·obtain⟨hb,h⟩:=h
   split at h
   ·rename_i g
    have g:=of_decide_eq_true g
    subst g
    refine⟨_,w,h,?_⟩
    show (binOp .rem xt (.int k a) (.int k b)).run P w=_
    simp[binOp,Op.intDiv,hb]
   ·exact h.elim
  ·obtain⟨hb,h⟩:=h
   refine⟨_,w,h,?_⟩
   have: ¬ b<0:=by omega
   show (binOp .shl xt (.int k a) (.int V b)).run P w=_
   simp[binOp,Op.shift,this]
  ·obtain⟨hb,h⟩:=h
   refine⟨_,w,h,?_⟩
   have: ¬ b<0:=by omega
   show (binOp .shr xt (.int k a) (.int V b)).run P w=_
   simp[binOp,Op.shift,this]
  ·obtain⟨v,h,hr⟩:=eR h
   exact⟨v,w,h,hr w⟩
 ·rename_i a b
  split at h
  ·obtain⟨hb,h⟩:=h
   refine⟨_,w,h,?_⟩
   have: ¬ ((a.size+b.size:Nat):Int)>i64.max:=by omega
   show (binOp .add xt (.string a) (.string b)).run P w=_
   simp only[binOp,Op.stringOp,if_neg this]
   rfl
  ·obtain⟨v,h,hr⟩:=eR h
   exact⟨v,w,h,hr w⟩
 ·obtain⟨v,h,hr⟩:=eR h
  exact⟨v,w,h,hr w⟩
 ·obtain⟨v,E,hr,h⟩:=Ty.ex_out h
  exact⟨v,E,h,hr⟩

theorem rg {s:ByteArray}{lo hi:Option Value}{K:Value->Prop}{xt:TypeId}(O:P.underlying xt=some .string)(h:py s lo hi K):
 ∃v,K v/\ ∀w,(Instr.sliceAt xt (.string s) lo hi none).run P w= .ok v w:=by
 have y: ∀(l n:Nat) (w:World),(Instr.sliceBounds false s.size s.size lo hi none).run P w= .ok (l,n,s.size) w->
  (Instr.sliceAt xt (.string s) lo hi none).run P w= .ok (.string (s.extract l n)) w:=by
  intro l n w hb
  unfold Instr.sliceAt Instr.slice underlying
  simp only[Sem.run_bind,run_program,Result.andThen_ok,O]
  have:(pure TypeDesc.string:Sem TypeDesc).run P w= .ok .string w:=rfl
  simp only[this,Result.andThen_ok,Option.isSome_none,Bool.false_eq_true,if_false,Sem.run_bind,run_program,O,hb]
  rfl
 unfold py at h
 split at h
 ·refine⟨_,h,λw=>?_⟩
  rw[y 0 s.size w (by simp[Instr.sliceBounds])]
  simp
 ·obtain⟨g,E,h⟩:=h
  refine⟨_,h,λw=>y _ _ w ?_⟩
  simp[Instr.sliceBounds,Instr.sliceBound,asIntOf,g,E]
 ·obtain⟨g,E,h⟩:=h
  refine⟨_,h,λw=>y _ _ w ?_⟩
  simp[Instr.sliceBounds,Instr.sliceBound,asIntOf,g,E]
 ·rename_i l _ I
  obtain⟨g,E,U,h⟩:=h
  refine⟨_,h,λw=>y _ _ w ?_⟩
  have W:0<=I:=by omega
  have V:l<=max I 0:=by omega
  simp[Instr.sliceBounds,Instr.sliceBound,asIntOf,g,U,W,V]
 ·exact h.elim

theorem wt {s:ByteArray}{lo hi:Option Value}{K:Value->Prop}{xt:TypeId}{w:World}(y:P.underlying xt=some .string)(h:py s lo hi K):
 ∃v,K v/\(Instr.sliceAt xt (.string s) lo hi none).run P w= .ok v w:=by
 obtain⟨v,g,hr⟩:=rg y h
 exact⟨v,g,hr w⟩

set_option maxHeartbeats 1000000 in
theorem wM {n:Nat}{a:Act}{ρ:Fr}{o:Oper}{K:Value->World->Prop}{w:World}{Q:Exit->Act->World->Prop}(hr:RelF n a ρ)(h:opV P o ρ K w):o.wp P a w (E4 a o K) Q:=by
 have W:a.eval=rd ρ:=funext hr.eval
 unfold Oper.wp
 rw[W]
 unfold opV at h
 split at h<;>rename_i d1<;>simp only[execOp,d1]
 case h_1=>exact bf rfl h
 case h_2=>exact bf rfl h
 case h_3=>
  split at h
  ·rename_i b hb
   split at h<;>(rw[hb];exact bf rfl h)
  ·exact h.elim
 case h_4=>obtain⟨v,y,g,hs⟩:=EU h;exact bf (aU hs) g
 case h_5=>obtain⟨v,g,hs⟩:=eR h;exact bf (aU (hs w)) g
 case h_6=>
  unfold nilV at h
  split at h
  ·rename_i q e0
   unfold aA at h
   split at h
   ·rw[e0];exact bf rfl h
   ·exact h.elim
  ·rename_i v hv
   obtain⟨b6,g⟩:=h
   cases O:rd ρ _<;>rw[O] at b6 g<;>try exact b6.elim
   ·rename_i d3 first e3
    cases d3<;>try exact b6.elim
    exact bf rfl g
   ·exact bf rfl g
 case h_7=>
  split at h
  ·rename_i b3 a6
   split at h
   ·rename_i fs E
    split at h
    ·rename_i e9 b7
     split at h
     ·rename_i i hi
      split at h
      ·obtain⟨v,y,hs,g⟩:=Ty.ex_out h;exact bf (aU hs) g
      ·rename_i m e1
       refine bf (aU ?_) h
       rw[a6]
       unfold Instr.fieldAt underlying fieldPlace sizeOf typeInfo
       simp only[Sem.run_bind,run_program,Result.andThen_ok,E]
       simp only[pure,Sem.run,Result.andThen_ok,b7,Instr.sureAddr,e1,Nat.add_one_ne_zero,if_false,Sem.run_bind,run_program,hi]
     ·exact h.elim
    ·exact h.elim
   ·exact h.elim
  ·exact h.elim
 case h_8=>obtain⟨v,g,hs⟩:=eR h;exact bf (aU (hs w)) g
 case h_9=>
  split at h
  ·rename_i b3 a6
   obtain⟨v,g,hs⟩:=wU h
   refine bf (aU ?_) g
   rw[a6]
   exact hs
  ·exact h.elim
 case h_10=>
  split at h
  ·rename_i b3 a6
   obtain⟨y,g,hs⟩:=As h
   refine uR (sC ?_) g
   rw[a6]
   exact hs
  ·exact h.elim
 case h_11=>
  have h:=ow h
  exact bf rfl (h _ rfl)
 case h_12=>
  split at h
  ·rename_i i hi
   split at h
   ·rename_i z hz
    have h:=ow h
    refine bf (aU ?_) (h _ rfl)
    unfold Instr.alloc zeroValue typeInfo
    simp only[Sem.run_bind,run_program,Result.andThen_ok,hi]
    simp only[pure,Sem.run,Result.andThen_ok,hz]
    rfl
   ·exact h.elim
  ·exact h.elim
 case h_13=>
  split at h
  ·rename_i fs V E c8
   rename_i b8 _ _
   split at h
   ·rename_i c3 hz
    split at h
    ·rename_i c9
     have e2: ∀(i:Nat) (f:Field) (V:TypeInfo),fs[i]? =some f->P.info? f.type=some V->
      ((fs.toList.map λf=>(f.offset,((P.info? f.type).map (·.size)).getD 0)).toArray)[i]? =some (f.offset,V.size):=by
      intro i f e5 b7 hi
      simp[b7,hi]
     obtain⟨e7,g,c4⟩:=qR e2 h
     refine bf (aU ?_) g
     unfold Instr.build zeroValue typeInfo underlying
     simp only[Sem.run_bind,run_program,Result.andThen_ok,c8,E]
     rw[show (pure V:Sem TypeInfo).run P w= .ok V w from rfl]
     simp only[Result.andThen_ok,hz]
     rw[show (pure (Value.agg c3):Sem Value).run P w= .ok (.agg c3) w from rfl]
     simp only[Result.andThen_ok,Sem.run_bind]
     rw[show (pure (TypeDesc.struct fs):Sem TypeDesc).run P w= .ok (.struct fs) w from rfl]
     simp only[Result.andThen_ok,Sem.run_bind]
     rw[Array.mapM_eq_mapM_toList,map_eq_pure_bind,Sem.run_bind,qw _ c9]
     simp only[Result.andThen_ok]
     rw[show∀x:List (Nat × Nat),(pure x.toArray:Sem (Array (Nat × Nat))).run P w= .ok x.toArray w from λ_=>rfl]
     simp only[Result.andThen_ok,Value.cells]
     have d0:(b8.map λ(i,x)=>(i,rd ρ x)).toList=b8.toList.map λ(i,x)=>(i,rd ρ x):=by simp
     rw[d0,c4]
     simp
    ·exact h.elim
   ·exact h.elim
  ·obtain⟨v,g,hs⟩:=eR h;exact bf (aU (hs w)) g
 case h_14=>obtain⟨v,y,hs,g⟩:=Ty.ex_out h;exact bf (aU hs) g
 case h_15=>obtain⟨v,g,hs⟩:=eR h;exact bf (aU (hs w)) g
 case h_16=>exact bf rfl h
 case h_17=>
  split at h
  ·rename_i vs hv
   split at h
   ·rename_i v hi
    refine bf (aU ?_) h
    simp[hv,Instr.extract,hi]
   ·exact h.elim
  ·exact h.elim
 case h_18=>
  split at h
  ·rename_i s k m hs hi
   split at h
   ·rename_i E
    obtain⟨h0,I,g⟩:=h
    refine bf (aU ?_) g
    have c1:m.toNat<s.size:=by omega
    unfold Instr.index asIntOf underlying
    simp only[hs,hi,Sem.run_bind,run_program,Result.andThen_ok,E]
    simp only[pure,Sem.run,Result.andThen_ok,h0,if_true,getElem?_pos s m.toNat c1]
    congr 2
    unfold bt
    have:s.data.size=s.size:=rfl
    simp[Array.getD,this,c1,ByteArray.getElem_eq_getElem_data]
   ·exact h.elim
  ·split at h
   ·obtain⟨v,y,hs,g⟩:=Ty.ex_out h;exact bf (aU hs) g
   ·exact h.elim
 case h_19=>
  split at h
  ·rename_i q len c k m hs hi
   split at h
   ·rename_i e E
    split at h
    ·rename_i V b5
     obtain⟨h0,I,g⟩:=h
     unfold aA at g
     split at g
     ·rename_i b3
      refine bf (aU ?_) g
      unfold Instr.indexAt asIntOf underlying sizeOf typeInfo
      simp only[hs,hi,Sem.run_bind,run_program,Result.andThen_ok,E]
      simp only[pure,Sem.run,Result.andThen_ok,h0,I,and_self,if_true,Sem.run_bind,run_program,b5,E]
     ·exact g.elim
    ·exact h.elim
   ·exact h.elim
  ·rename_i b3 k m hs hi
   split at h
   ·rename_i len e E
    split at h
    ·rename_i V b5
     obtain⟨h0,I,g⟩:=h
     refine bf (aU ?_) g
     unfold Instr.indexAt asIntOf underlying sizeOf typeInfo
     simp only[hs,hi,Sem.run_bind,run_program,Result.andThen_ok,E]
     simp only[pure,Sem.run,Result.andThen_ok,h0,I,and_self,if_true,Sem.run_bind,run_program,b5,E,Instr.sureAddr]
    ·exact h.elim
   ·exact h.elim
  ·obtain⟨v,y,hs,g⟩:=Ty.ex_out h;exact bf (aU hs) g
 case h_20=>
  split at h
  ·rename_i s hs
   split at h
   ·rename_i E
    obtain⟨v,g,c5⟩:=wt E h
    refine bf (aU ?_) g
    rw[hs]
    exact c5
   ·exact h.elim
  ·obtain⟨v,y,hs,g⟩:=Ty.ex_out h;exact bf (aU hs) g
 case h_21=>
  split at h
  ·rename_i k m O
   split at h
   ·rename_i k1 k2 I a7
    refine bf (aU ?_) h
    simp[O,convert,underlying,I,a7,Conv.intToInt]
   ·rename_i k1 I a7
    refine bf (aU ?_) h
    simp[O,convert,underlying,I,a7,Conv.intToString]
   ·exact h.elim
  ·rename_i m O
   split at h
   ·rename_i I a7
    refine bf (aU ?_) h
    simp[O,convert,underlying,I,a7]
   ·obtain⟨v,y,hs,g⟩:=Ty.ex_out h;rw[O] at hs;rw[O];exact bf (aU hs) g
  ·obtain⟨v,y,hs,g⟩:=Ty.ex_out h;exact bf (aU hs) g
 case h_22=>obtain⟨v,y,hs,g⟩:=Ty.ex_out h;exact bf (aU hs) g
 case h_23=>obtain⟨v,y,hs,g⟩:=Ty.ex_out h;exact bf (aU hs) g
 case h_24=>obtain⟨v,y,hs,g⟩:=Ty.ex_out h;exact bf (aU hs) g
 case h_25=>
  split at h
  ·obtain⟨v,y,hs,g⟩:=Ty.ex_out h;exact bf (aU hs) g
  ·exact h.elim
 case h_26=>obtain⟨y,hs,g⟩:=h;exact uR (sC hs) g
 case h_27=>obtain⟨y,hs,g⟩:=h;exact uR (sC hs) g
 case h_28=>obtain⟨v,y,hs,g⟩:=Ty.ex_out h;exact bf (aU hs) g
 case h_29=>
  unfold Hi at h
  rcases h with ⟨y,hs,g⟩|h
  ·exact bf (aU hs) g
  ·split at h
   ·obtain⟨i,c,y,hs,g⟩:=h;exact bf (aU hs) g
   ·obtain⟨k,v,y,hs,g⟩:=h;exact bf (aU hs) g
 case h_30=>
  rename_i c
  obtain⟨e4,U,b4⟩:=c
  split at h<;>rename_i b9<;>dsimp only at b9 h<;>subst b9
  ·split at h
   ·rename_i t x ht O
    split at h
    ·rename_i s E hs
     refine bf (aU (s:=Builtin.len_ b4 o.type (U.map (rd ρ))) ?_) h
     simp[Builtin.len_,ht,O,underlying,E,hs,goInt]
    ·rename_i e q m e8 E hs
     refine bf (aU (s:=Builtin.len_ b4 o.type (U.map (rd ρ))) ?_) h
     simp[Builtin.len_,ht,O,underlying,E,hs,goInt]
    ·obtain⟨v,y,hs,g⟩:=Ty.ex_out h
     refine bf (aU (s:=Builtin.len_ b4 o.type (U.map (rd ρ))) ?_) g
     simpa[Builtin.len_,ht,O] using hs
   ·exact h.elim
  ·obtain⟨v,y,hs,g⟩:=Ty.ex_out h;exact bf (aU hs) g
  ·obtain⟨v,y,hs,g⟩:=Ty.ex_out h;exact bf (aU hs) g
  ·obtain⟨v,y,hs,g⟩:=Ty.ex_out h;exact bf (aU hs) g
  ·obtain⟨v,y,hs,g⟩:=Ty.ex_out h;exact bf (aU hs) g
  ·obtain⟨v,y,hs,g⟩:=Ty.ex_out h;exact bf (aU hs) g
  ·obtain⟨v,y,hs,g⟩:=Ty.ex_out h;exact bf (aU hs) g
  ·obtain⟨v,y,hs,g⟩:=Ty.ex_out h;exact bf (aU hs) g
  ·rcases h with ⟨hc,h⟩|⟨v,y,hc,h⟩
   ·refine sj ?_ h
    rw[<-hc]
    simp[resolve,rd,Deferred.ofValue,invoke]
   ·obtain⟨c2,W,g⟩:=Ty.ex_out h
    cases W
    refine bf ?_ g
    rw[<-hc]
    simp[resolve,rd,Deferred.ofValue,invoke]
  ·rcases h with ⟨f,d2,y,hs,h⟩|⟨v,y,hs,h⟩
   ·refine sj ?_ h
    rw[<-hs]
    rfl
   ·obtain⟨c2,W,g⟩:=Ty.ex_out h
    cases W
    refine bf ?_ g
    rw[<-hs]
    rfl
  ·rename_i r e6
   have h0:(#[rd ρ r]++U.map (rd ρ))[0]? =some (rd ρ r):=by rw[Array.getElem?_append_left (by simp)];rfl
   have I:(U.map (rd ρ)).extract 0 U.size=U.map (rd ρ):=by
    simp
   rcases h with ⟨f,d2,y,hs,h⟩|⟨v,y,hs,h⟩
   ·refine sj ?_ h
    rw[<-hs]
    simp[resolve,invoke,h0,I]
   ·obtain⟨c2,W,g⟩:=Ty.ex_out h
    cases W
    refine bf ?_ g
    rw[<-hs]
    simp[resolve,invoke,h0,I]
 case h_31=>exact h.elim

end Go.Proofs.YtendaipfdnhnaaaGreatDoor


namespace Go.Proofs.YtendaipfdnhnaaaGreatDoor
variable {P:Program}

def tz (n:Nat):Option Nat->Bool
 |none=>true
 |some d=>Nat.blt d n
abbrev GS:=List (Nat × Nat × Bool × Value)
def CT:GS->Nat->Option (Nat × Bool × Value)
 | [],_=>none
 |(t,r)::gs,u=>match Nat.beq t u with
  |true=>some r
  |false=>CT gs u
def qH:GS->Nat->GS
 | [],_=> []
 |(t,r)::gs,u=>match Nat.beq t u with
  |true=>qH gs u
  |false=>(t,r)::qH gs u
def xz:GS->Nat->GS
 | [],_=> []
 |(t,g,r)::gs,u=>match Nat.beq t u with
  |true=>xz gs u
  |false=>match Nat.beq g u with
   |true=>xz gs u
   |false=>(t,g,r)::xz gs u
def Ez (gs:GS):Option Nat->GS
 |none=>gs
 |some d=>xz gs d
def isB (g:Bool)(v:Value):Bool:=
 match v with
 | .bool b=>match g with
  |true=>b
  |false=> !b
 |_=>false
def GW (b:Bool)(v:Value):Value:=
 match b with
 |true=>v
 |false=>undef
abbrev Ch:=List (Nat × Bool × Value)
def jX (gs:GS)(ρ:Fr):Nat->Nat->Bool->Ch
 |0,t,want=> [(t,want,ρ t)]
 |f+1,t,want=>match CT gs t with
  |none=> [(t,want,ρ t)]
  |some (t',g,v)=>jX gs ρ f t' g++ [(t,want,v)]
def sa:Ch->Bool
 | []=>true
 |(_,want,v)::c=>match c with
  | []=>isB want v
  |_::_=>isB want v && sa c
def tR:Ch->Nat->Bool->Bool
 | [],_,_=>false
 |(t,w,_)::c,u,x=>match Nat.beq t u with
  |true=>match w,x with
   |true,true=>true
   |false,false=>true
   |_,_=>tR c u x
  |false=>tR c u x
def ovr (c:Ch)(gs:GS)(ρ:Fr):Fr:=λt=>
 match CT gs t with
 |none=>ρ t
 |some (t',g,v)=>match tR c t' g with
  |true=>v
  |false=>ρ t
def F8 (b:Bool)(x g:Value):Option Value:=
 match x,g with
 | .bool p,.bool q=>some (.bool (cond b p q))
 | .int k p,.int k' q=>match decide (k=k') with
  |true=>some (.int k (cond b p q))
  |false=>none
 | .string p,.string q=>some (.string (cond b p q))
 |_,_=>none
def wE (P:Program)(o:Oper)(ch:Ch)(gs:GS)(ρ:Fr):Option (Option Prop × Value):=
 match o.op with
 | .move x=>some (none,rd (ovr ch gs ρ) x)
 | .pick g x y=>match g with
  | .tmp t=>match ovr ch gs ρ t with
   | .bool b=>match F8 b (rd (ovr (ch++ [(t,true,.bool b)]) gs ρ) x) (rd (ovr (ch++ [(t,false,.bool b)]) gs ρ) y) with
    |some v=>some (none,v)
    |none=>none
   |_=>none
  |_=>none
 | .binOp op xt x y _=>match Cc P xt with
  |false=>none
  |true=>
  match rd (ovr ch gs ρ) x,rd (ovr ch gs ρ) y with
  | .int k a,.int k' b=>match op with
   | .quo| .rem| .shl| .shr=>none
   |_=>match ni P (do eqGuard op xt x y (.int k a) (.int k' b);binOp op xt (.int k a) (.int k' b)) with
    |some v=>some (none,v)
    |none=>none
  | .string a,.string b=>match op with
   | .add=>none
   |_=>match ni P (do eqGuard op xt x y (.string a) (.string b);binOp op xt (.string a) (.string b)) with
    |some v=>some (none,v)
    |none=>none
  |_,_=>none
 | .unOp op _ x=>match ni P (Op.unary op (rd (ovr ch gs ρ) x)) with
  |some v=>some (none,v)
  |none=>none
 | .index xt x i=>match rd (ovr ch gs ρ) x,rd (ovr ch gs ρ) i with
  | .string s,.int _ n=>match P.underlying xt with
   |some .string=>some (some (0<=n/\n<s.size),.int .u8 (bt s n))
   |_=>none
  |_,_=>none
 | .call c=>match c.callee with
  | .builtin .len=>match c.argTypes[0]?,c.args[0]? with
   |some t,some x=>match P.underlying t,rd (ovr ch gs ρ) x with
    |some .string,.string s=>some (none,.int .i64 s.size)
    |some (.slice _),.slice _ n _=>some (none,.int .i64 n)
    |_,_=>none
   |_,_=>none
  |_=>none
 |_=>none
def sA:Ch->Fr->GS->(Fr->GS->Prop)->(Fr->GS->Prop)->Prop
 | [],ρ,gs,yes,_=>yes ρ gs
 |(t,want,v)::c,ρ,gs,yes,no=>match v with
  | .bool b=>match b with
   |true=>match want with
    |true=>sA c (upd ρ t (.bool true)) (qH gs t) yes no
    |false=>no (upd ρ t (.bool true)) (qH gs t)
   |false=>match want with
    |true=>no (upd ρ t (.bool false)) (qH gs t)
    |false=>sA c (upd ρ t (.bool false)) (qH gs t) yes no
  | .tuple _=>no ρ (qH gs t)
  |_=>False
def Hn:Op->Bool
 | .pick .. =>true
 |_=>false

def xX (P:Program)(n:Nat)(all:List Oper):List Oper->(Fr->World->Prop)->GS->Fr->World->Prop
 | [],Q,_,ρ,w=>Q ρ w
 |o::rest,Q,gs,ρ,w=>
  match tz n o.dst with
  |false=>False
  |true=>
   match o.guard with
   |none=>match Hn o.op with
    |false=>opV P o ρ (λv I=>xX P n all rest Q (Ez gs o.dst) (rJ ρ o.dst v) I) w
    |true=>match wE P o [] gs ρ with
     |some (none,v)=>xX P n all rest Q (Ez gs o.dst) (rJ ρ o.dst v) w
     |_=>opV P o ρ (λv I=>xX P n all rest Q (Ez gs o.dst) (rJ ρ o.dst v) I) w
   |some (j,g)=>
    match (all[j]?).bind (·.dst),o.dst with
    |some t,some d=>match Nat.beq t d with
     |true=>False
     |false=>match wE P o (jX gs ρ 9 t g) gs ρ with
      |some (none,v)=>xX P n all rest Q ((d,t,g,v)::xz gs d) (upd ρ d (GW (sa (jX gs ρ 9 t g)) v)) w
      |some (some O,v)=>(sa (jX gs ρ 9 t g)=true->O)/\
       xX P n all rest Q ((d,t,g,v)::xz gs d) (upd ρ d (GW (sa (jX gs ρ 9 t g)) v)) w
      |none=>sA (jX gs ρ 9 t g) ρ gs
       (λE y=>opV P o (ovr (jX gs ρ 9 t g) y E) (λv I=>xX P n all rest Q (xz y d) (upd E d v) I) w)
       (λE y=>xX P n all rest Q (xz y d) (upd E d undef) w)
    |some t,none=>sA (jX gs ρ 9 t g) ρ gs
     (λE y=>opV P o (ovr (jX gs ρ 9 t g) y E) (λ_ I=>xX P n all rest Q y E I) w)
     (λE y=>xX P n all rest Q y E w)
    |none,_=>False

abbrev fR:=Exit->Fr->World->Prop
def mQ (n:Nat)(Q:fR):Exit->Act->World->Prop:=λe a w=> ∃ρ,RelF n a ρ/\Q e ρ w
def mP (K:Fr->World->Prop)(Q:fR):fR
 | .normal,ρ,w=>K ρ w
 |e,ρ,w=>Q e ρ w
def rE (id:Nat)(Q:fR):fR
 | .exit id',ρ,w=>match Nat.beq id' id with
  |true=>Q .normal ρ w
  |false=>Q (.exit id') ρ w
 |e,ρ,w=>Q e ρ w

def lF (Q:fR):fR
 | .goto _,_,_=>False
 |e,ρ,w=>Q e ρ w
def vcC (P:Program)(n:Nat):Code->fR->Fr->World->Prop
 | .skip,Q,ρ,w=>Q .normal ρ w
 | .region _ ops draw,Q,ρ,w=>match draw with
  |true=>False
  |false=>xX P n ops.toList ops.toList (Q .normal) [] ρ w
 | .seq x y,Q,ρ,w=>vcC P n x (mP (vcC P n y Q) Q) ρ w
 | .cond c x y,Q,ρ,w=>
  match c with
  | .tmp t=>match ρ t with
   | .bool b=>match b with
    |true=>vcC P n x Q (upd ρ t (.bool true)) w
    |false=>vcC P n y Q (upd ρ t (.bool false)) w
   |_=>False
  | .const (.bool b)=>match b with
   |true=>vcC P n x Q ρ w
   |false=>vcC P n y Q ρ w
  |_=>False
 | .block id x,Q,ρ,w=>vcC P n x (rE id Q) ρ w
 | .exit id,Q,ρ,w=>Q (.exit id) ρ w
 | .ret,Q,ρ,w=>Q .ret ρ w
 | .label _,Q,ρ,w=>Q .normal ρ w
 | .goto l,Q,ρ,w=>Q (.goto l) ρ w
 | .scope x,Q,ρ,w=>vcC P n x (lF Q) ρ w
 |_,_,_,_=>False

def WpF (P:Program)(n:Nat)(c:Code)(Q:fR)(ρ:Fr)(w:World):Prop:= ∀a,RelF n a ρ->c.wp P (mQ n Q) a w

def Inv (gs:GS)(ρ:Fr):Prop:= ∀t t' w v,(t,t',w,v)∈gs->ρ t=GW (isB w (ρ t')) v

theorem nR {a b:Nat}(h:Nat.beq a b=false):a≠b:=λhc=>by subst hc;simp at h
theorem nC: ∀ {gs:GS} {t:Nat} {r:Nat × Bool × Value},CT gs t=some r->(t,r)∈gs
 | [],_,_,h=>by cases h
 |(s,q)::gs,t,r,h=>by
  simp only[CT] at h
  cases hb:Nat.beq s t with
  |true=>
   rw[hb] at h
   have:=Nat.eq_of_beq_eq_true hb
   subst this
   simp only[Option.some.injEq] at h
   subst h
   exact List.mem_cons_self
  |false=>rw[hb] at h;exact List.mem_cons_of_mem _ (nC h)
theorem my {u:Nat}: ∀ {gs:GS} {x:Nat × Nat × Bool × Value},x∈xz gs u->x∈gs/\x.1≠u/\x.2.1≠u
 | [],_,h=>by cases h
 |(s,g,r)::gs,x,h=>by
  simp only[xz] at h
  cases I:Nat.beq s u with
  |true=>rw[I] at h;obtain⟨y,E⟩:=my h;exact⟨List.mem_cons_of_mem _ y,E⟩
  |false=>
   rw[I] at h
   cases y:Nat.beq g u with
   |true=>rw[y] at h;obtain⟨y,E⟩:=my h;exact⟨List.mem_cons_of_mem _ y,E⟩
   |false=>
    rw[y] at h
    cases h with
    |head=>exact⟨List.mem_cons_self,nR I,nR y⟩
    |tail _ h=>obtain⟨y,E⟩:=my h;exact⟨List.mem_cons_of_mem _ y,E⟩
theorem te {u:Nat}: ∀ {gs:GS} {x:Nat × Nat × Bool × Value},x∈qH gs u->x∈gs
 | [],_,h=>by cases h
 |(s,r)::gs,x,h=>by
  simp only[qH] at h
  cases g:Nat.beq s u with
  |true=>rw[g] at h;exact List.mem_cons_of_mem _ (te h)
  |false=>
   rw[g] at h
   cases h with
   |head=>exact List.mem_cons_self
   |tail _ h=>exact List.mem_cons_of_mem _ (te h)
theorem Bw {ρ:Fr}{d t:Nat}{v:Value}(h:t≠d):upd ρ d v t=ρ t:=by
 unfold upd
 cases hb:Nat.beq t d with
 |true=>exact absurd (Nat.eq_of_beq_eq_true hb) h
 |false=>rfl
theorem G1 {ρ:Fr}{d:Nat}{v:Value}:upd ρ d v d=v:=by
 unfold upd
 rw[show Nat.beq d d=true by simp]
theorem Inv.del {gs:GS}{ρ:Fr}(hi:Inv gs ρ)(d:Nat)(v:Value):Inv (xz gs d) (upd ρ d v):=by
 intro t t' w x E
 obtain⟨I,y,g⟩:=my E
 rw[Bw y,Bw g]
 exact hi _ _ _ _ I
theorem Inv.delO {gs:GS}{ρ:Fr}(hi:Inv gs ρ)(d:Option Nat)(v:Value):Inv (Ez gs d) (rJ ρ d v):=by
 cases d with
 |none=>exact hi
 |some d=>exact hi.del d v
theorem Inv.drop {gs:GS}{ρ:Fr}(hi:Inv gs ρ)(d:Nat):Inv (qH gs d) ρ:=λ_ _ _ _ g=>hi _ _ _ _ (te g)
theorem Inv.add {gs:GS}{ρ:Fr}(hi:Inv gs ρ){d t:Nat}{y:Bool}{v:Value}(E:t≠d){b:Bool}(hb:b=isB y (ρ t)):
 Inv ((d,t,y,v)::xz gs d) (upd ρ d (GW b v)):=by
 intro s s' w x g
 cases g with
 |head=>rw[G1,Bw E,hb]
 |tail _ g=>exact hi.del d _ _ _ _ _ g
theorem zQ (g:Bool)(b:Bool)(v:Value):isB g (GW b v)=(b && isB g v):=by
 cases b<;>rfl
theorem xQ: ∀(c:Ch) (t:Nat) (g:Bool) (v:Value),c≠ []->sa (c++ [(t,g,v)])=(sa c && isB g v)
 | [],_,_,_,h=>absurd rfl h
 | [_],_,_,_,_=>rfl
 |(_,w,u)::x::c,t,g,v,_=>by
  have y:=xQ (x::c) t g v (by simp)
  show (isB w u && sa ((x::c)++ [(t,g,v)]))=_
  rw[y]
  show _=((isB w u && sa (x::c)) && isB g v)
  rw[Bool.and_assoc]
theorem vO (gs:GS)(ρ:Fr)(f t:Nat)(g:Bool):jX gs ρ f t g≠ []:=by
 cases f with
 |zero=>simp[jX]
 |succ f=>unfold jX;split<;>simp
theorem pX {gs:GS}{ρ:Fr}(hi:Inv gs ρ): ∀(f t:Nat) (g:Bool),sa (jX gs ρ f t g)=isB g (ρ t)
 |0,_,_=>rfl
 |f+1,t,g=>by
  unfold jX
  split
  ·rfl
  ·rename_i t' y v E
   rw[xQ _ _ _ _ (vO gs ρ f t' y),pX hi f t' y,hi t t' y v (nC E),zQ]
def E3 (ρ:Fr)(c:Ch):Prop:= ∀u x,tR c u x=true->isB x (ρ u)=true
theorem nu: ∀ {c d:Ch} {u:Nat} {x:Bool},tR (c++d) u x=true->tR c u x=true\/tR d u x=true
 | [],_,_,_,h=> .inr h
 |(t,w,v)::c,d,u,x,h=>by
  have g:= @nu c d u x
  simp only[List.cons_append,tR] at h⊢
  cases hb:Nat.beq t u<;>rw[hb] at h
  ·exact g h
  ·cases w<;>cases x<;>first|exact .inl rfl|exact g h
theorem pJ {t u:Nat}{w x:Bool}{v:Value}(h:tR [(t,w,v)] u x=true):t=u/\w=x:=by
 simp only[tR] at h
 cases hb:Nat.beq t u<;>rw[hb] at h
 ·cases h
 ·refine⟨Nat.eq_of_beq_eq_true hb,?_⟩
  cases w<;>cases x<;>first|rfl|cases h
theorem mG {gs:GS}{ρ:Fr}(hi:Inv gs ρ): ∀(f t:Nat) (y:Bool),isB y (ρ t)=true->E3 ρ (jX gs ρ f t y)
 |0,t,y,h=>λu x g=>by obtain⟨rfl,rfl⟩:=pJ g;exact h
 |f+1,t,y,h=>by
  unfold jX
  split
  ·intro u x g;obtain⟨rfl,rfl⟩:=pJ g;exact h
  ·rename_i t' E v O
   have U:=hi t t' E v (nC O)
   have I:=h
   rw[U,zQ,Bool.and_eq_true] at I
   intro u x g
   rcases nu g with g|g
   ·exact mG hi f t' E I.1 u x g
   ·obtain⟨rfl,rfl⟩:=pJ g;exact h
theorem wL {c:Ch}{gs:GS}{ρ:Fr}(hi:Inv gs ρ)(I:E3 ρ c):ovr c gs ρ=ρ:=by
 funext t
 unfold ovr
 split
 ·rfl
 ·rename_i t' g v E
  split
  ·rename_i y
   rw[hi t t' g v (nC E),I t' g y]
   rfl
  ·rfl

theorem Ei {b:Bool}{x g v:Value}(h:F8 b x g=some v):v=if b then x else g:=by
 unfold F8 at h
 split at h
 ·cases h;cases b<;>rfl
 ·split at h
  ·rename_i E;have:=of_decide_eq_true E;subst this;cases h;cases b<;>rfl
  ·cases h
 ·cases h;cases b<;>rfl
 ·cases h
theorem uh {o:Oper}{c:Ch}{gs:GS}{ρ:Fr}{b5:Option Prop}{v:Value}(hi:Inv gs ρ)(b8:E3 ρ c)(h:wE P o c gs ρ=some (b5,v))(hs: ∀p,b5=some p->p)(w:World):(execOp (rd ρ) o).run P w= .ok (.value v) w:=by
 have c2:=wL hi b8
 unfold wE at h
 rw[c2] at h
 split at h
 ·rename_i x E
  simp only[Option.some.injEq,Prod.mk.injEq] at h
  simp only[execOp,E]
  rw[h.2]
  rfl
 ·rename_i g x y E
  split at h
  ·rename_i t
   split at h
   ·rename_i b hb
    split at h
    ·rename_i a7 O
     simp only[Option.some.injEq,Prod.mk.injEq] at h
     obtain⟨_,rfl⟩:=h
     have hv:=Ei O
     simp only[execOp,E,rd,hb]
     have snoc: ∀z,b=z->E3 ρ (c++ [(t,z,.bool b)]):=by
      intro z hz u x V
      rcases nu V with V|V
      ·exact b8 u x V
      ·obtain⟨rfl,rfl⟩:=pJ V;subst hz;rw[hb];cases b<;>rfl
     cases b with
     |true=>rw[wL hi (snoc true rfl)] at hv;rw[hv];rfl
     |false=>rw[wL hi (snoc false rfl)] at hv;rw[hv];rfl
    ·cases h
   ·cases h
  ·cases h
 ·rename_i op xt x y _ E
  split at h
  ·cases h
  split at h
  ·rename_i k a c5 b I a6
   split at h<;>try (cases h;done)
   split at h
   ·rename_i a7 O
    simp only[Option.some.injEq,Prod.mk.injEq] at h
    obtain⟨_,rfl⟩:=h
    simp only[execOp,E,I,a6]
    exact aU (j8 P _ _ O w)
   ·cases h
  ·rename_i a b I a6
   split at h<;>try (cases h;done)
   split at h
   ·rename_i a7 O
    simp only[Option.some.injEq,Prod.mk.injEq] at h
    obtain⟨_,rfl⟩:=h
    simp only[execOp,E,I,a6]
    exact aU (j8 P _ _ O w)
   ·cases h
  ·cases h
 ·rename_i op _ x E
  split at h
  ·rename_i a7 O
   simp only[Option.some.injEq,Prod.mk.injEq] at h
   obtain⟨_,rfl⟩:=h
   simp only[execOp,E]
   exact aU (j8 P _ _ O w)
  ·cases h
 ·rename_i xt x i E
  split at h
  ·rename_i s k m I c1
   split at h
   ·rename_i U
    simp only[Option.some.injEq,Prod.mk.injEq] at h
    obtain⟨b9,rfl⟩:=h
    obtain⟨h0,b9⟩:=hs _ b9.symm
    have b7:m.toNat<s.size:=by omega
    simp only[execOp,E]
    refine aU ?_
    unfold Instr.index asIntOf underlying
    simp only[I,c1,Sem.run_bind,run_program,Result.andThen_ok]
    simp only[pure,Sem.run,Result.andThen_ok,h0,if_true,getElem?_pos s m.toNat b7,U]
    congr 2
    unfold bt
    have:s.data.size=s.size:=rfl
    simp[Array.getD,this,b7,ByteArray.getElem_eq_getElem_data]
   ·cases h
  ·cases h
 ·rename_i c3 E
  obtain⟨c4,b4,b3⟩:=c3
  split at h
  ·rename_i b6
   dsimp only at b6 h
   subst b6
   split at h
   ·rename_i t x ht I
    split at h
    ·rename_i s U W
     simp only[Option.some.injEq,Prod.mk.injEq] at h
     obtain⟨_,rfl⟩:=h
     simp only[execOp,E]
     refine aU (s:=Builtin.len_ b3 o.type (b4.map (rd ρ))) ?_
     simp[Builtin.len_,ht,I,underlying,U,W,goInt]
    ·rename_i e q m c8 U W
     simp only[Option.some.injEq,Prod.mk.injEq] at h
     obtain⟨_,rfl⟩:=h
     simp only[execOp,E]
     refine aU (s:=Builtin.len_ b3 o.type (b4.map (rd ρ))) ?_
     simp[Builtin.len_,ht,I,underlying,U,W,goInt]
    ·cases h
   ·cases h
  ·cases h
 ·cases h

theorem qt {ρ:Fr}{U O:Fr->GS->Prop}: ∀(c:Ch) (gs:GS),Inv gs ρ->c≠ []->
 (∀pre u x v a6,c=pre++(u,x,v)::a6->sa pre=true->ρ u=v)->
 sA c ρ gs U O-> ∃g,Inv g ρ/\(sa c=true/\U ρ g\/sa c=false/\O ρ g)
 | [],_,_,h,_,_=>absurd rfl h
 |(u,x,v)::c,gs,hi,_,hv,h=>by
  have c1:ρ u=v:=hv [] u x v c rfl rfl
  unfold sA at h
  cases v with
  |bool b=>
   have V: ∀z,b=z->upd ρ u (.bool z)=ρ:=λz hz=>by subst hz;rw[<-c1];exact rQ ρ u
   have hd:=hi.drop u
   have a7:isB x (.bool b)=false->O ρ (qH gs u)-> ∃g,Inv g ρ/\(sa ((u,x,Value.bool b)::c)=true/\U ρ g\/sa ((u,x,Value.bool b)::c)=false/\O ρ g):=by
    intro E W
    refine⟨_,hd,.inr ⟨?_,W⟩⟩
    cases c with
    |nil=>exact E
    |cons I c=>show (isB x (.bool b) && sa (I::c))=false;rw[E];rfl
   have go:isB x (.bool b)=true->sA c ρ (qH gs u) U O-> ∃g,Inv g ρ/\(sa ((u,x,Value.bool b)::c)=true/\U ρ g\/sa ((u,x,Value.bool b)::c)=false/\O ρ g):=by
    intro E W
    cases c with
    |nil=>exact⟨_,hd,.inl ⟨E,W⟩⟩
    |cons I c=>
     have b3:sa ((u,x,Value.bool b)::I::c)=sa (I::c):=by show (isB x (.bool b) && sa (I::c))=_;rw[E];rfl
     obtain⟨g,c2,b4⟩:=qt (I::c) (qH gs u) hd (by simp)
      (λpre b6 b8 b5 a6 b7 b9=>by
       refine hv ((u,x,.bool b)::pre) b6 b8 b5 a6 (by rw[b7];rfl) ?_
       cases pre with
       |nil=>exact E
       |cons z pre=>show (isB x (.bool b) && sa (z::pre))=true;rw[E,b9];rfl) W
     rw[b3]
     exact⟨g,c2,b4⟩
   cases b with
   |true=>cases x with
    |true=>simp only[V true rfl] at h;exact go rfl h
    |false=>simp only[V true rfl] at h;exact a7 rfl h
   |false=>cases x with
    |true=>simp only[V false rfl] at h;exact a7 rfl h
    |false=>simp only[V false rfl] at h;exact go rfl h
  |tuple vs=>
   refine⟨_,hi.drop u,.inr ⟨?_,h⟩⟩
   cases c with
   |nil=>rfl
   |cons I c=>rfl
  |_=>exact h.elim

theorem sf {o:Oper}{y:Array Oper}{tmps:Array Value}{j t:Nat}{g:Bool}(E:o.guard=some (j,g))(ht:(y.toList[j]?).bind (·.dst)=some t):Region.wanted o (yielded y tmps)=isB g (tmps.getD t undef):=by
 have I:(y[j]?).bind (·.dst)=some t:=by simpa using ht
 simp only[Region.wanted,E]
 unfold yielded
 rw[I,Array.getD_eq_getD_getElem?]
 simp only[Option.bind_some]
 cases tmps[t]? with
 |none=>rfl
 |some v=>cases v<;>first|rfl|(rename_i b;cases b<;>cases g<;>rfl)

theorem qQ {gs:GS}{ρ:Fr}(hi:Inv gs ρ): ∀(f t:Nat) (E:Bool),∀pre u x v I,jX gs ρ f t E=pre++(u,x,v)::I->sa pre=true->ρ u=v
 |0,t,E,pre,u,x,v,I,he,_=>by
  cases pre with
  |nil=>simp only[jX,List.nil_append,List.cons.injEq,Prod.mk.injEq] at he;rw[<-he.1.1];exact he.1.2.2
  |cons y pre=>simp[jX] at he
 |f+1,t,E,pre,u,x,v,I,he,hp=>by
  unfold jX at he
  split at he
  ·cases pre with
   |nil=>simp only[List.nil_append,List.cons.injEq,Prod.mk.injEq] at he;rw[<-he.1.1];exact he.1.2.2
   |cons y pre=>simp at he
  ·rename_i t' g a6 b3
   rcases List.eq_nil_or_concat I with O|⟨U,z,O⟩
   ·subst O
    have V:jX gs ρ f t' g=pre/\(t,E,a6)=(u,x,v):=by
     have:=List.append_inj' he rfl
     simpa using this
    obtain⟨a7,b4⟩:=V
    cases b4
    have W:=pX hi f t' g
    rw[a7,hp] at W
    rw[hi t t' g v (nC b3),<-W]
    rfl
   ·subst O
    have V:jX gs ρ f t' g=pre++(u,x,v)::U:=by
     have:jX gs ρ f t' g++ [(t,E,a6)]=(pre++(u,x,v)::U)++ [z]:=by rw[he];simp
     exact(List.append_inj' this rfl).1
    exact qQ hi f t' g pre u x v U V hp

theorem ul {n:Nat}{E:Array Oper}{Q:fR}: ∀(l:List Oper) {gs:GS} {a:Act} {ρ:Fr} {w:World},RelF n a ρ->Inv gs ρ->
 xX P n E.toList l (Q .normal) gs ρ w->wpList P E (mQ n Q) l a w
 | [],_,a,ρ,w,hr,_,h=>⟨ρ,hr,h⟩
 |o::rest,gs,a,ρ,w,hr,hi,h=>by
  have c2:= @ul n E Q rest
  unfold xX at h
  split at h
  ·exact h.elim
  ·rename_i hd
   have c1: ∀k,o.dst=some k->k<n:=λk b5=>by rw[b5] at hd;simpa[tz,Nat.blt_eq] using hd
   have d2:a.eval=rd ρ:=funext hr.eval
   have b7: ∀(y:GS),Inv y ρ->Region.wanted o (yielded E a.tmps)=true->
    opV P o ρ (λv c5=>xX P n E.toList rest (Q .normal) y (rJ ρ o.dst v) c5) w->(∀v,Inv y (rJ ρ o.dst v))->wpList P E (mQ n Q) (o::rest) a w:=by
    intro y _ I hv a7
    unfold wpList
    rw[if_pos I]
    refine .inl (Oper.wp_mono (λe0 c5 ⟨v,d3,b5⟩=>?_) (wM hr hv))
    subst d3
    exact c2 (hr.put o.dst v c1) (a7 v) b5
   have val: ∀(y:GS) (v:Value),Inv y (rJ ρ o.dst v)->Region.wanted o (yielded E a.tmps)=true->(execOp (rd ρ) o).run P w= .ok (.value v) w->
    xX P n E.toList rest (Q .normal) y (rJ ρ o.dst v) w->wpList P E (mQ n Q) (o::rest) a w:=by
    intro y v a7 I d0 hv
    unfold wpList
    rw[if_pos I]
    refine .inl ?_
    unfold Oper.wp
    rw[d2,d0]
    exact c2 (hr.put o.dst v c1) a7 hv
   have c3: ∀(y:GS),Inv y (rJ ρ o.dst undef)->Region.wanted o (yielded E a.tmps)=false->
    xX P n E.toList rest (Q .normal) y (rJ ρ o.dst undef) w->wpList P E (mQ n Q) (o::rest) a w:=by
    intro y a7 I hv
    unfold wpList
    rw[if_neg (by simp[I])]
    exact c2 (hr.put o.dst undef c1) a7 hv
   split at h
   ·rename_i b8
    have I:Region.wanted o (yielded E a.tmps)=true:=by simp[Region.wanted,b8]
    split at h
    ·exact b7 _ (by cases o.dst<;>first|exact hi|exact λ_ _ _ _ b4=>hi _ _ _ _ (my b4).1) I h (λv=>hi.delO o.dst v)
    ·split at h
     ·rename_i v W
      exact val _ v (hi.delO o.dst v) I (uh hi (λ_ _ b5=>by cases b5) W (λ_ hs=>by cases hs) w) h
     ·exact b7 _ (by cases o.dst<;>first|exact hi|exact λ_ _ _ _ b4=>hi _ _ _ _ (my b4).1) I h (λv=>hi.delO o.dst v)
   ·rename_i j g b8
    split at h
    ·rename_i t d ht O
     have I:Region.wanted o (yielded E a.tmps)=isB g (ρ t):=by rw[sf b8 ht,hr.get]
     have U:=pX hi 9 t g
     have c8:=qQ hi 9 t g
     have d1:=vO gs ρ 9 t g
     split at h
     ·exact h.elim
     ·rename_i b9
      have b9:=nR b9
      have c4: ∀(a6:Option Prop) (v:Value),wE P o (jX gs ρ 9 t g) gs ρ=some (a6,v)->(∀p,a6=some p->sa (jX gs ρ 9 t g)=true->p)->
       xX P n E.toList rest (Q .normal) ((d,t,g,v)::xz gs d) (upd ρ d (GW (sa (jX gs ρ 9 t g)) v)) w->wpList P E (mQ n Q) (o::rest) a w:=by
       intro a6 v W c9 h
       have b6:=hi.add (d:=d) (v:=v) b9 U
       cases hb:isB g (ρ t) with
       |true=>
        rw[U,hb] at h b6
        refine val ((d,t,g,v)::xz gs d) v ?_ (by rw[I,hb]) (uh hi (mG hi 9 t g hb) W (λp b3=>c9 p b3 (by rw[U,hb])) w) ?_
        ·rw[O];exact b6
        ·rw[O];exact h
       |false=>
        rw[U,hb] at h b6
        refine c3 ((d,t,g,v)::xz gs d) ?_ (by rw[I,hb]) ?_
        ·rw[O];exact b6
        ·rw[O];exact h
      split at h
      ·rename_i v W
       exact c4 none v W (λp b3=>by cases b3) h
      ·rename_i a6 v W
       exact c4 (some a6) v W (λp b3=>by cases b3;exact h.1) h.2
      ·obtain⟨y,V,h|h⟩:=qt _ gs hi d1 c8 h
       ·obtain⟨hb,h⟩:=h
        rw[U] at hb
        rw[wL V (mG hi 9 t g hb)] at h
        refine b7 (xz y d) (λ_ _ _ _ b4=>V _ _ _ _ (my b4).1) (by rw[I,hb]) ?_ (λv=>by rw[O];exact V.del d v)
        rw[O]
        exact h
       ·obtain⟨hb,h⟩:=h
        rw[U] at hb
        exact c3 (xz y d) (by rw[O];exact V.del d undef) (by rw[I,hb]) (by rw[O];exact h)
    ·rename_i t ht O
     have I:Region.wanted o (yielded E a.tmps)=isB g (ρ t):=by rw[sf b8 ht,hr.get]
     have U:=pX hi 9 t g
     obtain⟨y,V,h|h⟩:=qt _ gs hi (vO gs ρ 9 t g) (qQ hi 9 t g) h
     ·obtain⟨hb,h⟩:=h
      rw[U] at hb
      rw[wL V (mG hi 9 t g hb)] at h
      refine b7 y V (by rw[I,hb]) ?_ (λv=>by rw[O];exact V)
      rw[O]
      exact h
     ·obtain⟨hb,h⟩:=h
      rw[U] at hb
      exact c3 y (by rw[O];exact V) (by rw[I,hb]) (by rw[O];exact h)
    ·exact h.elim

theorem AL {n:Nat}{K:Fr->World->Prop}{Q:fR}{g:Code}(E: ∀ρ w,K ρ w->WpF P n g Q ρ w)(e:Exit)(a:Act)(w:World)(h:mQ n (mP K Q) e a w):Exit.then (g.wp P (mQ n Q)) (mQ n Q) e a w:=by
 obtain⟨ρ,hr,h⟩:=h
 cases e<;>first|exact E _ _ h _ hr|exact⟨ρ,hr,h⟩

theorem WpF.seq {n:Nat}{x g:Code}{K:Fr->World->Prop}{Q:fR}{ρ:Fr}{w:World}(h:WpF P n x (mP K Q) ρ w)(E: ∀ρ w,K ρ w->WpF P n g Q ρ w):WpF P n (.seq x g) Q ρ w:=
 λa hr=>wp_seq (Code.wp_mono (AL E) (h a hr))
theorem WpF.block {n id:Nat}{x:Code}{Q:fR}{ρ:Fr}{w:World}(h:WpF P n x (rE id Q) ρ w):WpF P n (.block id x) Q ρ w:=by
 refine λa hr=>wp_block (Code.wp_mono (λe a w h=>?_) (h a hr))
 obtain⟨ρ,hr,h⟩:=h
 cases e<;>try exact⟨ρ,hr,h⟩
 rename_i g
 simp only[rE] at h
 simp only[Exit.inBlock]
 split at h
 ·rename_i hb;rw[if_pos (Nat.eq_of_beq_eq_true hb)];exact⟨ρ,hr,h⟩
 ·rename_i hb
  rw[if_neg (λhc=>by subst hc;simp at hb)]
  exact⟨ρ,hr,h⟩
theorem WpF.cond {n t:Nat}{x I:Code}{Q:fR}{ρ:Fr}{w:World}{b:Bool}(hb:ρ t= .bool b)(h:match b with|true=>WpF P n x Q (upd ρ t (.bool true)) w|false=>WpF P n I Q (upd ρ t (.bool false)) w):WpF P n (.cond (.tmp t) x I) Q ρ w:=by
 have g:upd ρ t (.bool b)=ρ:=by rw[<-hb];exact rQ ρ t
 intro a hr
 have E:a.eval (.tmp t)= .bool b:=by rw[hr.eval];exact hb
 cases b with
 |true=>exact wp_cond_true E (h a (by rw[g];exact hr))
 |false=>exact wp_cond_false E (h a (by rw[g];exact hr))

theorem WpF.scope {n:Nat}{x:Code}{Q:fR}{ρ:Fr}{w:World}(h:WpF P n x (lF Q) ρ w):WpF P n (.scope x) Q ρ w:=by
 refine λa hr=>wp_scope_straight (Code.wp_mono (λe a w h=>?_) (h a hr))
 obtain⟨ρ,hr,h⟩:=h
 cases e<;>first|exact⟨ρ,hr,h⟩|exact h.elim

theorem Bv {n:Nat}: ∀(c:Code) {Q:fR} {ρ:Fr} {w:World},vcC P n c Q ρ w->WpF P n c Q ρ w:=by
 intro c
 induction c with
 |skip=>exact λh a hr=>wp_skip ⟨_,hr,h⟩
 |region id a6 O=>
  intro Q ρ w h
  unfold vcC at h
  cases O with
  |true=>exact h.elim
  |false=>exact λa hr=>wp_region_list (ul _ hr (λ_ _ _ _ V=>by cases V) h)
 |seq x W g E=>exact λh=>WpF.seq (g h) (λρ w U=>E U)
 |cond c x W g E=>
  intro Q ρ w h
  unfold vcC at h
  split at h
  ·split at h
   ·rename_i t b hb
    refine WpF.cond hb ?_
    cases b with
    |true=>exact g h
    |false=>exact E h
   ·exact h.elim
  ·rename_i b
   intro a hr
   cases b with
   |true=>exact wp_cond_true rfl (g h a hr)
   |false=>exact wp_cond_false rfl (E h a hr)
  ·exact h.elim
 |block id x I=>exact λh=>WpF.block (I h)
 |exit id=>exact λh a hr=>wp_exit ⟨_,hr,h⟩
 |ret=>exact λh a hr=>wp_ret ⟨_,hr,h⟩
 |label l=>exact λh a hr=>wp_label ⟨_,hr,h⟩
 |goto l=>exact λh a hr=>wp_goto ⟨_,hr,h⟩
 |scope x I=>exact λh=>WpF.scope (I h)
 |_=>exact λh=>by unfold vcC at h;exact h.elim

def LoopF (P:Program)(n:Nat)(c:Code)(Q:fR)(ρ:Fr)(w:World):Prop:=
 ∀a,RelF n a ρ-> ∀(b:Frame) (k:List Item) (cs:List Frame),
  ∃e g y,mQ n Q e g y/\Arrives P (lone (b.at a (.code c:: .inLoop c::k)) cs w) b k cs e g y
theorem LoopF.wp {n:Nat}{c:Code}{Q:fR}{ρ:Fr}{w:World}(h:LoopF P n c Q ρ w):WpF P n (.loop c) Q ρ w:=by
 intro a hr b k cs
 obtain⟨e,y,E,I,g⟩:=h a hr b k cs
 exact⟨e,y,E,I,.of_steps (.one step_loop) g⟩
theorem LoopF.unfold {n:Nat}{c:Code}{Q:fR}{ρ:Fr}{w:World}(h:WpF P n c (mP (LoopF P n c Q) Q) ρ w):LoopF P n c Q ρ w:=by
 intro a hr b k cs
 obtain⟨e,E,O,⟨U,y,I⟩,g⟩:=h a hr b (.inLoop c::k) cs
 cases e with
 |normal=>
  obtain⟨b3,a6,a7,W,V⟩:=I E y b k cs
  exact⟨b3,a6,a7,W,.of_steps (Steps.trans g (.one step_inLoop)) V⟩
 |exit id=>exact⟨_,E,O,⟨U,y,I⟩,.pass (x:= .inLoop c) rfl (λ_ _=> .inl (by simp)) g⟩
 |goto l=>exact⟨_,E,O,⟨U,y,I⟩,.pass (x:= .inLoop c) rfl (λ_ _=> .inl (by simp)) g⟩
 |ret=>exact⟨_,E,O,⟨U,y,I⟩,.pass (x:= .inLoop c) rfl (λ_ _=> .inl (by simp)) g⟩
 |panic ch=>exact⟨_,E,O,⟨U,y,I⟩,.pass (x:= .inLoop c) rfl (λ_ _=> .inl (by simp)) g⟩
 |outgrown=>exact⟨_,E,O,⟨U,y,I⟩,.pass (x:= .inLoop c) rfl (λ_ _=> .inl (by simp)) g⟩
theorem WpF.mono {n:Nat}{c:Code}{Q g:fR}{ρ:Fr}{w:World}(h:WpF P n c Q ρ w)(y: ∀e ρ w,Q e ρ w->g e ρ w):WpF P n c g ρ w:=
 λa hr=>Code.wp_mono (λ_ _ _ ⟨ρ,hr,h⟩=>⟨ρ,hr,y _ _ _ h⟩) (h a hr)

end Go.Proofs.YtendaipfdnhnaaaGreatDoor


namespace Go.Proofs.YtendaipfdnhnaaaGreatDoor
variable {P:Program}

def semP (P:Program)(s:Sem Value)(ty:Ty)(K:Value->Prop):Prop:=ty.ex λv=>(∀w,s.run P w= .ok v w)/\K v
def valV (P:Program)(o:Oper)(ρ:Fr)(K:Value->Prop):Prop:=
 match o.op with
 | .move x| .assign x=>K (rd ρ x)
 | .pick c x y=>match rd ρ c with
  | .bool b=>match b with
   |true=>K (rd ρ x)
   |false=>K (rd ρ y)
  |_=>False
 | .binOp op xt x y _=>match Cc P xt with
  |false=>semP P (do eqGuard op xt x y (rd ρ x) (rd ρ y);binOp op xt (rd ρ x) (rd ρ y)) (.c (.s .bool)) K
  |true=>match rd ρ x,rd ρ y with
   | .string a,.string b=>match op with
    | .add=>((a.size+b.size:Nat):Int)<=i64.max/\K (.string (a++b))
    |_=>oD P (do eqGuard op xt x y (.string a) (.string b);binOp op xt (.string a) (.string b)) K
   | .int k a,.int k' b=>match op with
    | .quo=>b≠0/\match decide (k=k') with
     |true=>K (.int k (k.wrap (a.tdiv b)))
     |false=>False
    | .rem=>b≠0/\match decide (k=k') with
     |true=>K (.int k (a.tmod b))
     |false=>False
    |_=>oD P (do eqGuard op xt x y (.int k a) (.int k' b);binOp op xt (.int k a) (.int k' b)) K
   |x',y'=>oD P (do eqGuard op xt x y x' y';binOp op xt x' y') K
 | .unOp op _ x=>oD P (Op.unary op (rd ρ x)) K
 | .nilCheck x=>nilV (rd ρ x) K
 | .fieldAddr s x f=>match rd ρ x with
  | .pointer (some a)=>match P.underlying s with
   |some (.struct fs)=>match fs[f]? with
    |some E=>match P.info? E.type with
     |some i=>match i.size with
      |0=>False
      |_+1=>K (.pointer (some (a.add E.offset)))
     |none=>False
    |none=>False
   |_=>False
  |_=>False
 | .field xt x f=>oD P (Instr.field xt (rd ρ x) f) K
 | .build t parts=>match P.underlying t,P.info? t with
  |some (.struct fs),some g=>match g.zero with
   |some (.agg I)=>match fs.toList.all λf=>(P.info? f.type).isSome with
    |true=>buildS P fs (parts.toList.map λ(i,x)=>(i,rd ρ x)) I.toList λcs=>K (.agg cs.toArray)
    |false=>False
   |_=>False
  |_,_=>oD P (Instr.build t (parts.map λ(i,x)=>(i,rd ρ x))) K
 | .makeInterface t x=>oD P (Instr.makeInterface t (rd ρ x)) K
 | .makeFunc fn first captured=>K (.func fn (first.map (rd ρ)) (captured.map (rd ρ)))
 | .extract x i=>match rd ρ x with
  | .tuple vs=>match vs[i]? with
   |some v=>K v
   |none=>False
  |_=>False
 | .index xt x i=>match rd ρ x,rd ρ i with
  | .string s,.int _ n=>match P.underlying xt with
   |some .string=>0<=n/\n<s.size/\K (.int .u8 (bt s n))
   |_=>False
  |_,_=>False
 | .indexAddr t x i=>match rd ρ x,rd ρ i with
  | .slice q len _,.int _ n=>match P.underlying t with
   |some (.slice e)=>match P.info? e with
    |some g=>0<=n/\n<len/\aA q λa=>K (.pointer (some (a.add (n.toNat*g.size))))
    |none=>False
   |_=>False
  | .pointer (some ad),.int _ n=>match P.underlying t with
   |some (.array len e)=>match P.info? e with
    |some g=>0<=n/\n<(len:Int)/\K (.pointer (some (ad.add (n.toNat*g.size))))
    |none=>False
   |_=>False
  |_,_=>False
 | .slice t x lo hi mx=>match rd ρ x with
  | .string s=>match P.underlying t,mx with
   |some .string,none=>py s (lo.map (rd ρ)) (hi.map (rd ρ)) K
   |_,_=>False
  |x'=>semP P (Instr.sliceAt t x' (lo.map (rd ρ)) (hi.map (rd ρ)) (mx.map (rd ρ))) (.c (.s .slice)) K
 | .convert src dst x=>match rd ρ x with
  | .int _ n=>match P.underlying src,P.underlying dst with
   |some (.int _),some (.int k)=>K (.int k (k.wrap n))
   |some (.int _),some .string=>K (.string (Utf8.encode n))
   |_,_=>False
  | .string s=>match P.underlying src,P.underlying dst with
   |some .string,some .string=>K (.string s)
   |_,_=>False
  |_=>False
 | .typeAssert x xt asserted ok=>semP P (Instr.typeAssert (rd ρ x) xt asserted ok) (okTy (EH P asserted) ok) K
 | .call c=>match c.callee with
  | .builtin .len=>match c.argTypes[0]?,c.args[0]? with
   |some t,some x=>match P.underlying t,rd ρ x with
    |some .string,.string s=>K (.int .i64 s.size)
    |some (.slice _),.slice _ n _=>K (.int .i64 n)
    |_,_=>False
   |_,_=>False
  |_=>False
 |_=>False

theorem vf {s:Sem Value}{ty:Ty}{K:Value->Prop}(h:semP P s ty K): ∃v,K v/\ ∀w,s.run P w= .ok v w:=by
 obtain⟨v,hr,g⟩:=Ty.ex_out h
 exact⟨v,g,hr⟩
theorem DU {o:Oper}{ρ:Fr}{K:Value->Prop}(h:valV P o ρ K): ∃v,K v/\ ∀w,(execOp (rd ρ) o).run P w= .ok (.value v) w:=by
 have bind: ∀ {s:Sem Value} {e:Sem Next},e=(s>>=λv=>pure (.value v))->(∃v,K v/\ ∀w,s.run P w= .ok v w)-> ∃v,K v/\ ∀w,e.run P w= .ok (.value v) w:=by
  intro s e d0 ⟨v,g,hr⟩
  subst d0
  exact⟨v,g,λw=>aU (hr w)⟩
 unfold valV at h
 split at h<;>rename_i c9<;>simp only[execOp,c9]
 case h_1=>exact⟨_,h,λ_=>rfl⟩
 case h_2=>exact⟨_,h,λ_=>rfl⟩
 case h_3=>
  split at h
  ·rename_i b hb
   split at h<;>(rw[hb];exact⟨_,h,λ_=>rfl⟩)
  ·exact h.elim
 case h_4=>
  rename_i op xt x y e6
  refine bind rfl ?_
  split at h
  ·exact vf h
  ·split at h
   ·rename_i a b W hb
    split at h
    ·obtain⟨hs,h⟩:=h
     refine⟨_,h,λw=>?_⟩
     have: ¬ ((a.size+b.size:Nat):Int)>i64.max:=by omega
     rw[W,hb]
     show (binOp .add xt (.string a) (.string b)).run P w=_
     simp only[binOp,Op.stringOp,if_neg this]
     rfl
    ·rw[W,hb];exact eR h
   ·rename_i k a e5 b W hb
    split at h
    ·obtain⟨V,h⟩:=h
     split at h
     ·rename_i g
      have g:=of_decide_eq_true g
      subst g
      refine⟨_,h,λw=>?_⟩
      rw[W,hb]
      show (binOp .quo xt (.int k a) (.int k b)).run P w=_
      simp[binOp,Op.intDiv,V]
     ·exact h.elim
    ·obtain⟨V,h⟩:=h
     split at h
     ·rename_i g
      have g:=of_decide_eq_true g
      subst g
      refine⟨_,h,λw=>?_⟩
      rw[W,hb]
      show (binOp .rem xt (.int k a) (.int k b)).run P w=_
      simp[binOp,Op.intDiv,V]
     ·exact h.elim
    ·rw[W,hb];exact eR h
   ·exact eR h
 case h_5=>exact bind rfl (eR h)
 case h_6=>
  unfold nilV at h
  split at h
  ·rename_i q d2
   unfold aA at h
   split at h
   ·rw[d2];exact⟨_,h,λ_=>rfl⟩
   ·exact h.elim
  ·rename_i v hv
   obtain⟨V,g⟩:=h
   cases O:rd ρ _<;>rw[O] at V g<;>try exact V.elim
   ·rename_i d1 first e1
    cases d1<;>try exact V.elim
    exact⟨_,g,λ_=>rfl⟩
   ·exact⟨_,g,λ_=>rfl⟩
 case h_7=>
  split at h
  ·rename_i b9 c8
   split at h
   ·rename_i fs E
    split at h
    ·rename_i e8 b3
     split at h
     ·rename_i i hi
      split at h
      ·exact h.elim
      ·rename_i m d3
       refine bind rfl ⟨_,h,λw=>?_⟩
       rw[c8]
       unfold Instr.fieldAt underlying fieldPlace sizeOf typeInfo
       simp only[Sem.run_bind,run_program,Result.andThen_ok,E]
       simp only[pure,Sem.run,Result.andThen_ok,b3,Instr.sureAddr,d3,Nat.add_one_ne_zero,if_false,Sem.run_bind,run_program,hi]
     ·exact h.elim
    ·exact h.elim
   ·exact h.elim
  ·exact h.elim
 case h_8=>exact bind rfl (eR h)
 case h_9=>
  split at h
  ·rename_i fs U E c3
   rename_i b5 _ _
   split at h
   ·rename_i c1 hz
    split at h
    ·rename_i c4
     have e0: ∀(i:Nat) (f:Field) (U:TypeInfo),fs[i]? =some f->P.info? f.type=some U->
      ((fs.toList.map λf=>(f.offset,((P.info? f.type).map (·.size)).getD 0)).toArray)[i]? =some (f.offset,U.size):=by
      intro i f e3 b3 hi
      simp[b3,hi]
     obtain⟨e4,g,c2⟩:=qR e0 h
     refine bind rfl ⟨_,g,λw=>?_⟩
     unfold Instr.build zeroValue typeInfo underlying
     simp only[Sem.run_bind,run_program,Result.andThen_ok,c3,E]
     rw[show (pure U:Sem TypeInfo).run P w= .ok U w from rfl]
     simp only[Result.andThen_ok,hz]
     rw[show (pure (Value.agg c1):Sem Value).run P w= .ok (.agg c1) w from rfl]
     simp only[Result.andThen_ok]
     rw[show (pure (TypeDesc.struct fs):Sem TypeDesc).run P w= .ok (.struct fs) w from rfl]
     simp only[Result.andThen_ok,Sem.run_bind]
     rw[Array.mapM_eq_mapM_toList,map_eq_pure_bind,Sem.run_bind,qw _ c4]
     simp only[Result.andThen_ok]
     rw[show∀x:List (Nat × Nat),(pure x.toArray:Sem (Array (Nat × Nat))).run P w= .ok x.toArray w from λ_=>rfl]
     simp only[Result.andThen_ok,Value.cells]
     have c5:(b5.map λ(i,x)=>(i,rd ρ x)).toList=b5.toList.map λ(i,x)=>(i,rd ρ x):=by simp
     rw[c5,c2]
     simp
    ·exact h.elim
   ·exact h.elim
  ·exact bind rfl (eR h)
 case h_10=>exact bind rfl (eR h)
 case h_11=>exact⟨_,h,λ_=>rfl⟩
 case h_12=>
  split at h
  ·rename_i vs hv
   split at h
   ·rename_i v hi
    exact bind rfl ⟨_,h,λw=>by simp[hv,Instr.extract,hi]⟩
   ·exact h.elim
  ·exact h.elim
 case h_13=>
  split at h
  ·rename_i s k m hs hi
   split at h
   ·rename_i E
    obtain⟨h0,I,g⟩:=h
    refine bind rfl ⟨_,g,λw=>?_⟩
    have b8:m.toNat<s.size:=by omega
    unfold Instr.index asIntOf underlying
    simp only[hs,hi,Sem.run_bind,run_program,Result.andThen_ok]
    simp only[pure,Sem.run,Result.andThen_ok,h0,if_true,getElem?_pos s m.toNat b8,E]
    congr 2
    unfold bt
    have:s.data.size=s.size:=rfl
    simp[Array.getD,this,b8,ByteArray.getElem_eq_getElem_data]
   ·exact h.elim
  ·exact h.elim
 case h_14=>
  split at h
  ·rename_i q len c k m hs hi
   split at h
   ·rename_i e E
    split at h
    ·rename_i U a7
     obtain⟨h0,I,g⟩:=h
     unfold aA at g
     split at g
     ·rename_i b9
      refine bind rfl ⟨_,g,λw=>?_⟩
      unfold Instr.indexAt asIntOf underlying sizeOf typeInfo
      simp only[hs,hi,Sem.run_bind,run_program,Result.andThen_ok]
      simp only[pure,Sem.run,Result.andThen_ok,h0,I,and_self,if_true,Sem.run_bind,run_program,a7,E]
     ·exact g.elim
    ·exact h.elim
   ·exact h.elim
  ·rename_i b9 k m hs hi
   split at h
   ·rename_i len e E
    split at h
    ·rename_i U a7
     obtain⟨h0,I,g⟩:=h
     refine bind rfl ⟨_,g,λw=>?_⟩
     unfold Instr.indexAt asIntOf underlying sizeOf typeInfo
     simp only[hs,hi,Sem.run_bind,run_program,Result.andThen_ok]
     simp only[pure,Sem.run,Result.andThen_ok,h0,I,and_self,if_true,Sem.run_bind,run_program,a7,E,Instr.sureAddr]
    ·exact h.elim
   ·exact h.elim
  ·exact h.elim
 case h_15=>
  split at h
  ·rename_i s hs
   split at h
   ·rename_i E
    rw[hs]
    refine bind rfl ?_
    exact rg E h
   ·exact h.elim
  ·exact bind rfl (vf h)
 case h_16=>
  split at h
  ·rename_i k m O
   split at h
   ·rename_i k1 k2 I a6
    exact bind rfl ⟨_,h,λw=>by simp[O,convert,underlying,I,a6,Conv.intToInt]⟩
   ·rename_i k1 I a6
    exact bind rfl ⟨_,h,λw=>by simp[O,convert,underlying,I,a6,Conv.intToString]⟩
   ·exact h.elim
  ·rename_i m O
   split at h
   ·rename_i I a6
    exact bind rfl ⟨_,h,λw=>by simp[O,convert,underlying,I,a6]⟩
   ·exact h.elim
  ·exact h.elim
 case h_17=>exact bind rfl (vf h)
 case h_18=>
  rename_i c
  obtain⟨e2,b6,b4⟩:=c
  split at h
  ·rename_i b7
   dsimp only at b7 h
   subst b7
   split at h
   ·rename_i t x ht O
    split at h
    ·rename_i s E hs
     exact bind (s:=Builtin.len_ b4 o.type (b6.map (rd ρ))) rfl ⟨_,h,λw=>by simp[Builtin.len_,ht,O,underlying,E,hs,goInt]⟩
    ·rename_i e q m e7 E hs
     exact bind (s:=Builtin.len_ b4 o.type (b6.map (rd ρ))) rfl ⟨_,h,λw=>by simp[Builtin.len_,ht,O,underlying,E,hs,goInt]⟩
    ·exact h.elim
   ·exact h.elim
  ·exact h.elim
 case h_19=>exact h.elim

def SameC (w g:World)(a:Addr)(n:Nat):Prop:= ∀k,k<n->g.cell? (a.add k)=w.cell? (a.add k)
theorem SameC.trans {w E g:World}{a:Addr}{n:Nat}(h:SameC w E a n)(I:SameC E g a n):SameC w g a n:=
 λk y=>(I k y).trans (h k y)
theorem add_zero (a:Addr):a.add 0=a:=rfl

theorem Cy: ∀ {ts:List STy} {w:World} {a:Addr} {i:Nat} {K:List Value->Prop},ldS w ts a i K->
 ∃vs,K vs/\vs.length=ts.length/\ ∀g,(∀k,k<i+ts.length->g.cell? (a.add k)=w.cell? (a.add k))-> ∀(y:Array Value),(loadCellsFrom a i ts.length y).run P g= .ok (y++vs.toArray) g
 | [],_,_,_,_,h=>⟨[],h,rfl,λg _ y=>by simp[loadCellsFrom]⟩
 |t::ts,w,a,i,K,h=>by
  obtain⟨v,hc,h⟩:=STy.ex_out h
  obtain⟨vs,E,O,hr⟩:=Cy h
  refine⟨v::vs,E,by simp[O],λg I y=>?_⟩
  have h0:g.cell? (a.add i)=some v:=by rw[I i (by simp only[List.length_cons];omega)];exact hc
  simp only[List.length_cons,loadCellsFrom,Sem.run_bind,run_load,h0,Result.andThen]
  rw[hr g (λk E=>I k (by simp only[List.length_cons];omega))]
  simp

theorem Cr {t:TypeId}{a:Addr}{w:World}{K:Value->Prop}{i:TypeInfo}(hi:P.info? t=some i)(E:0<i.size)(h:yO P t a w K):
 ∃v,K v/\ ∀g,SameC w g a i.size->(loadVar t a).run P g= .ok v g:=by
 unfold yO at h
 rw[hi] at h
 split at h
 ·rename_i b3 d W a7
  cases W
  have O:=λw=>xj (w:=w) a7
  split at h
  ·rename_i cs hb hz
   split at h
   ·rename_i U
    obtain⟨vs,y,b4,hr⟩:=Cy (P:=P) h
    refine⟨_,y,λg I=>?_⟩
    have V:i.size=cs.size:=by simp[<-Nat.eq_of_beq_eq_true U]
    have a6:(loadCellsFrom a 0 cs.size #[]).run P g= .ok vs.toArray g:=by
     have:=hr g (λk y=>I k (by simp at y;omega)) #[]
     simpa using this
    unfold loadVar loadCells sizeOf typeInfo
    simp only[Sem.run_bind,O,Result.andThen_ok,hb,if_true,run_program,hi]
    have E:(pure i:Sem TypeInfo).run P g= .ok i g:=rfl
    simp only[E,Result.andThen_ok,V]
    rw[show (pure cs.size:Sem Nat).run P g= .ok cs.size g from rfl]
    simp only[Result.andThen_ok,a6]
    rfl
   ·exact h.elim
  ·rename_i z hb hz
   obtain⟨v,hc,y⟩:=STy.ex_out h
   refine⟨v,y,λg I=>?_⟩
   have h0:g.cell? a=some v:=by have:=I 0 E;rw[add_zero] at this;rw[this];exact hc
   unfold loadVar
   simp only[Sem.run_bind,O,Result.andThen_ok,hb,Bool.false_eq_true,if_false,run_load,h0]
  ·exact h.elim
 ·exact h.elim

inductive RPlan where
 |done
 |pure (i:Nat) (p:RPlan)
 |load (i:Nat) (p:RPlan)
 |one (i:Nat) (p:RPlan)
 |two (i:Nat) (p:RPlan) (j:Nat) (q:RPlan)
def RPlan.depth:RPlan->Nat
 | .done=>0
 | .pure _ p| .load _ p| .one _ p=>p.depth+1
 | .two _ p _ q=>max p.depth q.depth+1
def oI (g:Array Oper):Nat->Nat->Nat->Bool
 |0,_,_=>false
 |f+1,j,i=>match g[j]? with
  |none=>false
  |some o=>o.after.any λe=>Region.binds .any e && (Nat.beq e.on i||oI g f e.on i)
def xE:List Nat->List Nat->Bool
 | [],[]=>true
 |a::ys,b::bs=>match Nat.beq a b with
  |true=>xE ys bs
  |false=>false
 |_,_=>false
def xx:List Nat->Nat->Bool
 | [],_=>false
 |a::ys,b=>match Nat.beq a b with
  |true=>true
  |false=>xx ys b
def we (I:Array Oper)(o:Oper)(ρ:Fr)(g y:Fr->Prop):Prop:=
 match o.guard with
 |none=>g ρ
 |some (j,E)=>match (I.toList[j]?).bind (·.dst) with
  |none=>False
  |some t=>match ρ t with
   | .bool b=>match b with
    |true=>match E with
     |true=>g (upd ρ t (.bool true))
     |false=>y (upd ρ t (.bool true))
    |false=>match E with
     |true=>y (upd ρ t (.bool false))
     |false=>g (upd ρ t (.bool false))
   | .tuple _=>y ρ
   |_=>False
abbrev GJ:=List (Nat × Addr × Nat)
def wZ (g:Array Oper)(j:Nat)(w y:World):GJ->Prop->Prop
 | [],K=>K
 |(i,a,n)::E,K=>match oI g g.size j i with
  |true=>wZ g j w y E K
  |false=>SameC w y a n/\wZ g j w y E K
def lD (P:Program)(n:Nat)(g:Array Oper)(Q:Fr->World->Prop):RPlan->Array Bool->GJ->Fr->World->Prop
 | .done,listed,_,ρ,w=>match Region.ready .any g listed with
  | []=>Q ρ w
  |_::_=>False
 | .pure i p,listed,E,ρ,w=>match g[i]? with
  |none=>False
  |some o=>match tz n o.dst,Region.free .any g listed i,xx (Region.ready .any g listed) i with
   |true,true,true=>we g o ρ (λρ=>valV P o ρ λv=>lD P n g Q p (listed.setIfInBounds i true) E (rJ ρ o.dst v) w)
    (λρ=>lD P n g Q p (listed.setIfInBounds i true) E (rJ ρ o.dst undef) w)
   |_,_,_=>False
 | .load i p,listed,E,ρ,w=>match g[i]? with
  |none=>False
  |some o=>match tz n o.dst,Region.free .any g listed i,xx (Region.ready .any g listed) i with
   |true,true,true=>match o.op with
    | .load t x=>match P.info? t with
     |some I=>match Nat.blt 0 I.size with
      |true=>we g o ρ (λρ=>match rd ρ x with
       | .pointer (some a)=>yO P t a w λv=>lD P n g Q p (listed.setIfInBounds i true) ((i,a,I.size)::E) (rJ ρ o.dst v) w
       |_=>False)
       (λρ=>lD P n g Q p (listed.setIfInBounds i true) E (rJ ρ o.dst undef) w)
      |false=>False
     |none=>False
    |_=>False
   |_,_,_=>False
 | .one i p,listed,E,ρ,w=>match g[i]? with
  |none=>False
  |some o=>match tz n o.dst,xE (Region.ready .any g listed) [i] with
   |true,true=>we g o ρ (λρ=>opV P o ρ (λv y=>wZ g i w y E (lD P n g Q p (listed.setIfInBounds i true) E (rJ ρ o.dst v) y)) w)
    (λρ=>lD P n g Q p (listed.setIfInBounds i true) E (rJ ρ o.dst undef) w)
   |_,_=>False
 | .two i p j q,listed,E,ρ,w=>match g[i]?,g[j]? with
  |some o,some u=>match tz n o.dst,tz n u.dst,xE (Region.ready .any g listed) [i,j] with
   |true,true,true=>
    (we g o ρ (λρ=>opV P o ρ (λv y=>wZ g i w y E (lD P n g Q p (listed.setIfInBounds i true) E (rJ ρ o.dst v) y)) w)
     (λρ=>lD P n g Q p (listed.setIfInBounds i true) E (rJ ρ o.dst undef) w))/\
    (we g u ρ (λρ=>opV P u ρ (λv y=>wZ g j w y E (lD P n g Q q (listed.setIfInBounds j true) E (rJ ρ u.dst v) y)) w)
     (λρ=>lD P n g Q q (listed.setIfInBounds j true) E (rJ ρ u.dst undef) w))
   |_,_,_=>False
  |_,_=>False
def Hz (P:Program)(n:Nat)(g:Array Oper)(y:RPlan)(Q:Fr->World->Prop)(ρ:Fr)(w:World):Prop:=
 lD P n g Q y (Array.replicate g.size false) [] ρ {w with drawn:=w.drawn+1}

section
variable {ops:Array Oper} {Q:Exit->Act->World->Prop}
def Closed (y:Array Oper)(g:Array Bool):Prop:=
 ∀(k:Nat) (o:Oper),y[k]? =some o->g.getD k false=true-> ∀e∈o.after,Region.binds .any e=true->g.getD e.on false=true
def oH (P:Program)(g:Array Oper)(Q:Exit->Act->World->Prop)(E:Nat->World->World->Prop):Nat->Array Bool->Act->World->Prop
 |0,listed,a,w=>Region.ready .any g listed= []/\Q .normal a w
 |f+1,listed,a,w=>(Region.ready .any g listed= []->Q .normal a w)/\
  ∀i∈Region.ready .any g listed,wpOp P g Q i (λI y=>E i w y/\oH P g Q E f (listed.setIfInBounds i true) I y) a w
theorem tW {E:Nat->World->World->Prop}: ∀(f:Nat) (g:Array Bool) (a:Act) (w:World),oH P ops Q E f g a w->wpAny P .any ops Q f g a w
 |0,_,_,_,h=>h
 |f+1,_,_,_,h=>⟨h.1,λi hi=>wpOp_mono (λ_ _ y=>tW f _ _ _ y.2) (h.2 i hi)⟩
theorem sd {U O':Nat->World->World->Prop}(y: ∀j w I,O' j w I->U j w I): ∀(f:Nat) (g:Array Bool) (a:Act) (w:World),oH P ops Q O' f g a w->oH P ops Q U f g a w
 |0,_,_,_,h=>h
 |f+1,_,_,_,h=>⟨h.1,λi hi=>wpOp_mono (λ_ _ E=>⟨y _ _ _ E.1,sd y f _ _ _ E.2⟩) (h.2 i hi)⟩

theorem Closed.set {g:Array Bool}{j:Nat}(hc:Closed ops g)(W:j∈Region.ready .any ops g):Closed ops (g.setIfInBounds j true):=by
 intro k o O U e I hb
 by_cases y:j=k
 ·subst y
  obtain⟨_,o',E,V⟩:=mem_ready.1 W
  rw[O] at E
  cases E
  exact getD_set_true (V e I hb)
 ·rw[getD_set_ne false y] at U
  exact getD_set_true (hc k o O U e I hb)
theorem qX {g:Array Bool}(hc:Closed ops g){i:Nat}: ∀(f j:Nat) {o:Oper},ops[j]? =some o->
 (∀e∈o.after,Region.binds .any e=true->g.getD e.on false=true)->oI ops f j i=true->g.getD i false=true
 |0,_,_,_,_,h=>by cases h
 |f+1,j,o,ho,hall,h=>by
  simp only[oI,ho] at h
  obtain⟨e,U,h⟩:=Array.any_eq_true'.1 h
  simp only[Bool.and_eq_true,Bool.or_eq_true] at h
  obtain⟨hb,h⟩:=h
  have E:=hall e U hb
  rcases h with h|h
  ·rw[<-Nat.eq_of_beq_eq_true h];exact E
  ·cases y:ops[e.on]? with
   |none=>
    cases f with
    |zero=>cases h
    |succ f=>simp[oI,y] at h
   |some o'=>exact qX hc f e.on y (λe' I O=>hc e.on o' y E e' I O) h
theorem Ey {g:Array Bool}{i:Nat}(h:g.getD i true=false):g.getD i false=false:=by
 rcases Nat.lt_or_ge i g.size with y|y
 ·simp[y] at h⊢;exact h
 ·simp[Array.getElem?_eq_none y] at h

theorem CY {S:World->Prop}{O O':Nat->World->World->Prop}{i:Nat}{U:Oper}{v:Value}(hi:ops[i]? =some U)(b8: ∀(j:Nat) (o:Oper) cs b,ops[j]? =some o->o.op≠ .select cs b)(e3: ∀c a w,¬ Q (.panic c) a w)(c4: ∀j w E,O' j w E->O j w E)(b7: ∀w,O i w w)(e0: ∀j w E,oI ops ops.size j i=false->O' j w E->S w->S E):
 ∀(V:Nat) (g:Array Bool) (a:Act) (w:World),Closed ops g->
  (∀j I,ops[j]? =some I->j≠i->g.getD j true=false->(∀e∈I.after,Region.binds .any e=true->e.on≠i)->U.apart ops I=true)->
  i∈Region.ready .any ops g->YieldsIf P ops S U v a->S w->
  oH P ops Q O' V (g.setIfInBounds i true) (a.put U.dst v) w->oH P ops Q O (V+1) g a w:=by
 intro V
 induction V with
 |zero=>
  intro g a w _ _ hr b3 hs H
  refine⟨λh=>(by rw[h] at hr;cases hr),λj W=>?_⟩
  by_cases y:j=i
  ·subst y;exact b3.wpOp hi hs ⟨b7 w,H⟩
  ·have:=ready_mono W y
   rw[H.1] at this
   cases this
 |succ V e1=>
  intro g a w hc b6 hr b3 hs H
  refine⟨λh=>(by rw[h] at hr;cases hr),λj W=>?_⟩
  by_cases y:j=i
  ·subst y;exact b3.wpOp hi hs ⟨b7 w,sd c4 _ _ _ _ H⟩
  ·have b4:=H.2 j (ready_mono W y)
   obtain⟨c1,I,a6,b9⟩:=mem_ready.1 W
   have b5:=Ey (mem_ready.1 hr).1
   have c8: ∀e∈I.after,Region.binds .any e=true->e.on≠i:=λe d3 hb c9=>by
    have b4:=b9 e d3 hb
    rw[c9,b5] at b4
    cases b4
   have d1:oI ops ops.size j i=false:=by
    cases e5:oI ops ops.size j i with
    |false=>rfl
    |true=>rw[qX hc _ _ a6 b9 e5] at b5;cases b5
   have e6:=wpOp_putIf a6 (b6 j I a6 y c1 c8) (λcs b=>b8 i U cs b hi) (λcs b=>b8 j I cs b a6) (λc a w e2=>(e3 _ _ _ e2).elim) b3 b4
   have c5: ∀k ok,ops[k]? =some ok->k≠i->(g.setIfInBounds j true).getD k true=false->
    (∀e∈ok.after,Region.binds .any e=true->e.on≠i)->U.apart ops ok=true:=λk ok e7 d2 c3 d0=>by
    refine b6 k ok e7 d2 ?_ d0
    by_cases c2:j=k
    ·subst c2;exact c1
    ·rw[getD_set_ne true c2] at c3;exact c3
   refine wpOp_mono (λe4 E a7=>⟨c4 _ _ _ a7.2.1,e1 (g.setIfInBounds j true) e4 E (hc.set W) c5 (ready_mono hr (Ne.symm y)) a7.1 (e0 j w E d1 a7.2.1 hs) ?_⟩) e6
   rw[Array.setIfInBounds_comm _ _ y]
   exact a7.2.2
end

theorem sg {g:Array Oper}{o:Oper}{n:Nat}{a:Act}{ρ:Fr}{I U:Fr->Prop}(hr:RelF n a ρ)(h:we g o ρ I U):
 (Region.wanted o (yielded g a.tmps)=true/\I ρ)\/(Region.wanted o (yielded g a.tmps)=false/\U ρ):=by
 unfold we at h
 split at h
 ·rename_i y;exact .inl ⟨by simp[Region.wanted,y],h⟩
 ·rename_i j E y
  split at h
  ·exact h.elim
  ·rename_i t ht
   have O:Region.wanted o (yielded g a.tmps)=isB E (ρ t):=by rw[sf y ht,hr.get]
   split at h
   ·rename_i b hb
    have V: ∀z,b=z->upd ρ t (.bool z)=ρ:=λz hz=>by subst hz;rw[<-hb];exact rQ ρ t
    rw[O,hb]
    cases b<;>cases E<;>simp only[V _ rfl] at h
    ·exact .inl ⟨rfl,h⟩
    ·exact .inr ⟨rfl,h⟩
    ·exact .inr ⟨rfl,h⟩
    ·exact .inl ⟨rfl,h⟩
   ·rename_i vs hb
    exact .inr ⟨by rw[O,hb];rfl,h⟩
   ·exact h.elim
theorem tu: ∀ {a b:List Nat},xE a b=true->a=b
 | [],[],_=>rfl
 |a::ys,b::bs,h=>by
  simp only[xE] at h
  cases hb:Nat.beq a b<;>rw[hb] at h
  ·cases h
  ·rw[Nat.eq_of_beq_eq_true hb,tu h]
 | [],_::_,h=>by cases h
 |_::_,[],h=>by cases h
theorem qG: ∀ {a:List Nat} {b:Nat},xx a b=true->b∈a
 | [],_,h=>by cases h
 |a::ys,b,h=>by
  simp only[xx] at h
  cases hb:Nat.beq a b<;>rw[hb] at h
  ·exact List.mem_cons_of_mem _ (qG h)
  ·rw[Nat.eq_of_beq_eq_true hb];exact List.mem_cons_self
def ObE (g:Array Oper)(I:GJ)(j:Nat)(w y:World):Prop:= ∀i a n,(i,a,n)∈I->oI g g.size j i=false->SameC w y a n
theorem sU {I:Array Oper}{j:Nat}{w W:World}{K:Prop}: ∀ {V:GJ},wZ I j w W V K->ObE I V j w W/\K
 | [],h=>⟨λ_ _ _ g=>(by cases g),h⟩
 |(i,a,n)::V,h=>by
  simp only[wZ] at h
  cases hb:oI I I.size j i with
  |true=>
   rw[hb] at h
   obtain⟨U,O⟩:=sU h
   refine⟨λa7 a6 b3 g y=>?_,O⟩
   cases g with
   |head=>rw[hb] at y;cases y
   |tail _ g=>exact U _ _ _ g y
  |false=>
   rw[hb] at h
   obtain⟨U,O⟩:=sU h.2
   refine⟨λa7 a6 b3 g y=>?_,O⟩
   cases g with
   |head=>exact h.1
   |tail _ g=>exact U _ _ _ g y
theorem ObE.refl {g:Array Oper}{y:GJ}(j:Nat)(w:World):ObE g y j w w:=λ_ _ _ _ _ _ _=>rfl

theorem yD {n:Nat}{y:Array Oper}{Q:fR}(hs:Region.noSelect y=true)(f0: ∀c ρ w,¬ Q (.panic c) ρ w):
 ∀(b8:RPlan) (g:Array Bool) (I:GJ) (a:Act) (ρ:Fr) (w:World) (f:Nat),RelF n a ρ->Closed y g->b8.depth<=f->
  lD P n y (Q .normal) b8 g I ρ w->oH P y (mQ n Q) (ObE y I) f g a w:=by
 have c3: ∀c a w,¬ mQ n Q (.panic c) a w:=λc a w ⟨ρ,_,h⟩=>f0 c ρ w h
 have c1: ∀(i:Nat) (o:Oper) (I:GJ) (g:Array Bool) (a:Act) (ρ:Fr) (w:World) (f:Nat) (p:RPlan),y[i]? =some o->RelF n a ρ->tz n o.dst=true->
  (∀(a:Act) (ρ:Fr) (w:World),RelF n a ρ->lD P n y (Q .normal) p (g.setIfInBounds i true) I ρ w->oH P y (mQ n Q) (ObE y I) f (g.setIfInBounds i true) a w)->
  (we y o ρ (λρ=>opV P o ρ (λv b3=>wZ y i w b3 I (lD P n y (Q .normal) p (g.setIfInBounds i true) I (rJ ρ o.dst v) b3)) w)
   (λρ=>lD P n y (Q .normal) p (g.setIfInBounds i true) I (rJ ρ o.dst undef) w))->
  wpOp P y (mQ n Q) i (λd0 b3=>ObE y I i w b3/\oH P y (mQ n Q) (ObE y I) f (g.setIfInBounds i true) d0 b3) a w:=by
  intro i o I g a ρ w f p U hr hd b4 h
  have b5: ∀k,o.dst=some k->k<n:=λk O=>by rw[O] at hd;simpa[tz,Nat.blt_eq] using hd
  unfold wpOp
  simp only[U]
  rcases sg hr h with ⟨a7,h⟩|⟨a7,h⟩
  ·rw[if_pos a7]
   refine .inl (Oper.wp_mono (λd0 b3 ⟨v,f2,O⟩=>?_) (wM hr h))
   subst f2
   obtain⟨f3,f4⟩:=sU O
   exact⟨f3,b4 _ _ _ (hr.put o.dst v b5) f4⟩
  ·rw[if_neg (by simp[a7])]
   exact⟨ObE.refl i w,b4 _ _ _ (hr.put o.dst undef b5) h⟩
 intro b8
 induction b8 with
 |done=>
  intro g I a ρ w f hr _ _ h
  simp only[lD] at h
  split at h
  ·rename_i W
   cases f with
   |zero=>exact⟨W,ρ,hr,h⟩
   |succ f=>exact⟨λ_=>⟨ρ,hr,h⟩,λi hi=>(by rw[W] at hi;cases hi)⟩
  ·exact h.elim
 |pure i p b4=>
  intro g I a ρ w f hr hc V h
  obtain⟨f,rfl⟩: ∃m,f=m+1:=⟨f - 1,by simp only[RPlan.depth] at V;omega⟩
  simp only[lD] at h
  split at h
  ·exact h.elim
  ·rename_i o U
   split at h
   ·rename_i hd b7 a6
    have b5: ∀k,o.dst=some k->k<n:=λk O=>by rw[O] at hd;simpa[tz,Nat.blt_eq] using hd
    have a6:=qG a6
    have go: ∀v,YieldsIf P y (λ_=>True) o v a->lD P n y (Q .normal) p (g.setIfInBounds i true) I (rJ ρ o.dst v) w->oH P y (mQ n Q) (ObE y I) (f+1) g a w:=
     λv e8 b6=>CY (S:=λ_=>True) U (Region.noSelect_spec hs) c3 (λ_ _ _ h=>h) (λw=>ObE.refl i w) (λ_ _ _ _ _ _=>trivial) f g a w hc
      (Region.free_spec U b7) a6 e8 trivial (b4 _ _ _ _ _ _ (hr.put o.dst v b5) (hc.set a6) (by simp only[RPlan.depth] at V;omega) b6)
    rcases sg hr h with ⟨a7,h⟩|⟨a7,h⟩
    ·obtain⟨v,O,b9⟩:=DU h
     have c5:a.eval=rd ρ:=funext hr.eval
     exact go v (.inl ⟨a7,λw _=>by rw[c5];exact b9 w⟩) O
    ·exact go undef (.inr ⟨a7,rfl⟩) h
   ·exact h.elim
 |load i p b4=>
  intro g I a ρ w f hr hc V h
  obtain⟨f,rfl⟩: ∃m,f=m+1:=⟨f - 1,by simp only[RPlan.depth] at V;omega⟩
  simp only[lD] at h
  split at h
  ·exact h.elim
  ·rename_i o U
   split at h
   ·rename_i hd b7 a6
    have b5: ∀k,o.dst=some k->k<n:=λk O=>by rw[O] at hd;simpa[tz,Nat.blt_eq] using hd
    have a6:=qG a6
    split at h
    ·rename_i t x e7
     split at h
     ·rename_i c4 d2
      split at h
      ·rename_i c2
       have c2:0<c4.size:=by simpa[Nat.blt_eq] using c2
       have c5:a.eval=rd ρ:=funext hr.eval
       rcases sg hr h with ⟨a7,h⟩|⟨a7,h⟩
       ·split at h
        ·rename_i d1 d3
         obtain⟨v,O,b9⟩:=Cr d2 c2 h
         refine CY (S:=λb3=>SameC w b3 d1 c4.size) (O':=ObE y ((i,d1,c4.size)::I)) U (Region.noSelect_spec hs) c3
          (λ_ _ _ h i a n f1=>h i a n (List.mem_cons_of_mem _ f1)) (λw=>ObE.refl i w) (λj f6 f5 e2 U c8=>c8.trans (U _ _ _ List.mem_cons_self e2)) f g a w hc
          (Region.free_spec U b7) a6 (v:=v) (.inl ⟨a7,λb3 c8=>?_⟩) (λ_ _=>rfl) (b4 _ _ _ _ _ _ (hr.put o.dst v b5) (hc.set a6) (by simp only[RPlan.depth] at V;omega) O)
         rw[c5]
         simp only[execOp,e7]
         refine aU ?_
         rw[d3]
         exact b9 b3 c8
        ·exact h.elim
       ·exact CY (S:=λ_=>True) (v:=undef) U (Region.noSelect_spec hs) c3 (λ_ _ _ h=>h) (λw=>ObE.refl i w) (λ_ _ _ _ _ _=>trivial) f g a w hc
         (Region.free_spec U b7) a6 (.inr ⟨a7,rfl⟩) trivial (b4 _ _ _ _ _ _ (hr.put o.dst undef b5) (hc.set a6) (by simp only[RPlan.depth] at V;omega) h)
      ·exact h.elim
     ·exact h.elim
    ·exact h.elim
   ·exact h.elim
 |one i p b4=>
  intro g I a ρ w f hr hc V h
  obtain⟨f,rfl⟩: ∃m,f=m+1:=⟨f - 1,by simp only[RPlan.depth] at V;omega⟩
  simp only[lD] at h
  split at h
  ·exact h.elim
  ·rename_i o U
   split at h
   ·rename_i hd W
    have W:=tu W
    refine⟨λh0=>(by rw[W] at h0;cases h0),λj c9=>?_⟩
    have e3:j=i:=by rw[W] at c9;simpa using c9
    subst e3
    exact c1 j o I g a ρ w f p U hr hd (λa ρ w hr b6=>b4 _ _ _ _ _ _ hr (hc.set c9) (by simp only[RPlan.depth] at V;omega) b6) h
   ·exact h.elim
 |two i p j q e1 e0=>
  intro g I a ρ w f hr hc V h
  obtain⟨f,rfl⟩: ∃m,f=m+1:=⟨f - 1,by simp only[RPlan.depth] at V;omega⟩
  simp only[lD] at h
  split at h
  ·rename_i o u U e9
   split at h
   ·rename_i e5 e6 W
    have W:=tu W
    refine⟨λh0=>(by rw[W] at h0;cases h0),λk O=>?_⟩
    have e4:k=i\/k=j:=by rw[W] at O;simpa using O
    rcases e4 with rfl|rfl
    ·exact c1 k o I g a ρ w f p U hr e5 (λa ρ w hr b6=>e1 _ _ _ _ _ _ hr (hc.set O) (by simp only[RPlan.depth] at V;omega) b6) h.1
    ·exact c1 k u I g a ρ w f q e9 hr e6 (λa ρ w hr b6=>e0 _ _ _ _ _ _ hr (hc.set O) (by simp only[RPlan.depth] at V;omega) b6) h.2
   ·exact h.elim
  ·exact h.elim

theorem zd {n id:Nat}{g:Array Oper}{y:RPlan}{Q:fR}{ρ:Fr}{w:World}(I:P.follows .mixedOrders=true)(hs:Region.noSelect g=true)(O: ∀c ρ w,¬ Q (.panic c) ρ w)(hd:Nat.ble y.depth g.size=true)(h:Hz P n g y (Q .normal) ρ w):WpF P n (.region id g true) Q ρ w:=by
 intro a hr
 refine wp_region_any I (tW _ _ _ _ (yD hs O y _ [] a ρ _ _ hr ?_ (Nat.le_of_ble_eq_true hd) h))
 intro k o _ E
 simp only[Array.getD_eq_getD_getElem?,Array.getElem?_replicate] at E
 split at E<;>cases E

end Go.Proofs.YtendaipfdnhnaaaGreatDoor


namespace Go.Proofs.YtendaipfdnhnaaaGreatDoor
variable {P:Program}

abbrev ye:STy->Type->Type
 | .bool,R=>Bool->R
 | .int _,R=>Int->R
 | .str,R=>ByteArray->R
 | .ptr,R=>Option Addr->R
 | .slice,R=>Option Addr->Nat->Nat->R
 | .map,R=>Option Nat->R
 | .any,R=>Value->R
 | .loc,R=>Nat->R
abbrev yf:List STy->Type->Type
 | [],R=>R
 |t::ts,R=>ye t (yf ts R)
abbrev zp:CTy->Type->Type
 | .s t,R=>ye t R
 | .agg ts,R=>yf ts R
abbrev mS:List (Nat × CTy)->Type
 | []=>World->Prop
 |(_,t)::vs=>zp t (mS vs)

def apS:(t:STy)-> {R:Type}->ye t R->Value->(R->Prop)->Prop
 | .bool,_,F,v,k=>match v with| .bool b=>k (F b)|_=>False
 | .int i,_,F,v,k=>match v with
  | .int j m=>match decide (j=i) with|true=>k (F m)|false=>False
  |_=>False
 | .str,_,F,v,k=>match v with| .string s=>k (F s)|_=>False
 | .ptr,_,F,v,k=>match v with| .pointer q=>k (F q)|_=>False
 | .slice,_,F,v,k=>match v with| .slice q n c=>k (F q n c)|_=>False
 | .map,_,F,v,k=>match v with| .map q=>k (F q)|_=>False
 | .any,_,F,v,k=>k (F v)
 | .loc,_,F,v,k=>match v with| .pointer (some ⟨b,0,none⟩)=>k (F b)|_=>False
def apL:(ts:List STy)-> {R:Type}->yf ts R->List Value->(R->Prop)->Prop
 | [],_,F,vs,k=>match vs with| []=>k F|_::_=>False
 |t::ts,_,F,vs,k=>match vs with|v::vs=>apS t F v λg=>apL ts g vs k| []=>False
def apC:(t:CTy)-> {R:Type}->zp t R->Value->(R->Prop)->Prop
 | .s t,_,F,v,k=>apS t F v k
 | .agg ts,_,F,v,k=>match v with| .agg cs=>apL ts F cs.toList k|_=>False
def leaf:(vars:List (Nat × CTy))->mS vars->Fr->World->Prop
 | [],F,_,w=>F w
 |(i,t)::vs,F,ρ,w=>apC t F (ρ i) λg=>leaf vs g ρ w

def zn:(t:STy)-> {R:Type}->ye t R->(Value->R->Prop)->Prop
 | .bool,_,F,K=> ∀b,K (.bool b) (F b)
 | .int i,_,F,K=> ∀m,K (.int i m) (F m)
 | .str,_,F,K=> ∀s,K (.string s) (F s)
 | .ptr,_,F,K=> ∀q,K (.pointer q) (F q)
 | .slice,_,F,K=> ∀q n c,K (.slice q n c) (F q n c)
 | .map,_,F,K=> ∀q,K (.map q) (F q)
 | .any,_,F,K=> ∀v,K v (F v)
 | .loc,_,F,K=> ∀b,K (.pointer (some ⟨b,0,none⟩)) (F b)
def DP:(ts:List STy)-> {R:Type}->yf ts R->(List Value->R->Prop)->Prop
 | [],_,F,K=>K [] F
 |t::ts,_,F,K=>zn t F λv g=>DP ts g λvs f=>K (v::vs) f
def DQ:(t:CTy)-> {R:Type}->zp t R->(Value->R->Prop)->Prop
 | .s t,_,F,K=>zn t F K
 | .agg ts,_,F,K=>DP ts F λvs f=>K (.agg vs.toArray) f
def FC:(vars:List (Nat × CTy))->mS vars->(Fr->World->Prop)->Prop
 | [],F,V=> ∀ρ w,F w=V ρ w
 |(i,t)::vs,F,V=>DQ t F λv g=>FC vs g λρ w=>V (upd ρ i v) w
theorem Du: ∀ {t:STy} {R:Type} {F:ye t R} {v:Value} {k:R->Prop} {K:Value->R->Prop},apS t F v k->zn t F K-> ∃f,k f/\K v f:=by
 intro t R F v k K h y
 cases t<;>simp only[apS] at h<;>simp only[zn] at y
 case int i=>
  split at h
  ·split at h
   ·rename_i hb;have:=of_decide_eq_true hb;subst this;exact⟨_,h,y _⟩
   ·exact h.elim
  ·exact h.elim
 case any=>exact⟨_,h,y _⟩
 case slice=>split at h<;>first|exact⟨_,h,y _ _ _⟩|exact h.elim
 all_goals (split at h<;>first|exact⟨_,h,y _⟩|exact h.elim)
theorem Dv: ∀ {ts:List STy} {R:Type} {F:yf ts R} {vs:List Value} {k:R->Prop} {K:List Value->R->Prop},apL ts F vs k->DP ts F K-> ∃f,k f/\K vs f
 | [],_,_,vs,_,_,h,g=>by
  cases vs with
  |nil=>exact⟨_,h,g⟩
  |cons v vs=>exact h.elim
 |t::ts,_,_,vs,_,K,h,g=>by
  cases vs with
  |nil=>exact h.elim
  |cons v vs=>
   obtain⟨I,E,y⟩:=Du (t:=t) h g
   exact Dv (ts:=ts) (K:=λvs f=>K (v::vs) f) E y
theorem Dw: ∀ {t:CTy} {R:Type} {F:zp t R} {v:Value} {k:R->Prop} {K:Value->R->Prop},apC t F v k->DQ t F K-> ∃f,k f/\K v f:=by
 intro t R F v k K h y
 cases t with
 |s t=>exact Du (t:=t) h y
 |agg ts=>
  simp only[apC] at h
  split at h
  ·rename_i cs
   obtain⟨f,I,E⟩:=Dv (ts:=ts) h y
   exact⟨f,I,by simpa using E⟩
  ·exact h.elim
theorem GX: ∀ {y:List (Nat × CTy)} {F:mS y} {V:Fr->World->Prop},FC y F V-> ∀ρ w,leaf y F ρ w->V ρ w
 | [],_,_,g,ρ,w,h=>by rw[<-g ρ w];exact h
 |(i,t)::vs,_,V,g,ρ,w,h=>by
  obtain⟨O,I,E⟩:=Dw (t:=t) h g
  have:=GX E ρ w I
  rwa [rQ] at this

def mkS:(t:STy)-> {R:Type}->(Value->R)->ye t R
 | .bool,_,k=>λb=>k (.bool b)
 | .int i,_,k=>λm=>k (.int i m)
 | .str,_,k=>λs=>k (.string s)
 | .ptr,_,k=>λq=>k (.pointer q)
 | .slice,_,k=>λq n c=>k (.slice q n c)
 | .map,_,k=>λq=>k (.map q)
 | .any,_,k=>λv=>k v
 | .loc,_,k=>λb=>k (.pointer (some ⟨b,0,none⟩))
def mkL:(ts:List STy)-> {R:Type}->(List Value->R)->yf ts R
 | [],_,k=>k []
 |t::ts,_,k=>mkS t λv=>mkL ts λvs=>k (v::vs)
def mkC:(t:CTy)-> {R:Type}->(Value->R)->zp t R
 | .s t,_,k=>mkS t k
 | .agg ts,_,k=>mkL ts λvs=>k (.agg vs.toArray)
def Au:(vars:List (Nat × CTy))->(Fr->World->Prop)->mS vars
 | [],V=>λw=> ∀ρ,V ρ w
 |(i,t)::vs,V=>mkC t λv=>Au vs λρ w=>ρ i=v->V ρ w

theorem Cl {t:STy}{R:Type}{k:Value->R}{K:Value->R->Prop}(h: ∀v,K v (k v)):zn t (mkS t k) K:=by
 cases t<;>simp only[zn,mkS]<;>intros<;>exact h _
theorem Cm: ∀ {ts:List STy} {R:Type} {k:List Value->R} {K:List Value->R->Prop},(∀vs,K vs (k vs))->DP ts (mkL ts k) K
 | [],_,_,_,h=>h []
 |t::_,_,_,_,h=>Cl (t:=t) λ_=>Cm λ_=>h _
theorem Co {t:CTy}{R:Type}{k:Value->R}{K:Value->R->Prop}(h: ∀v,K v (k v)):DQ t (mkC t k) K:=by
 cases t with
 |s t=>exact Cl h
 |agg ts=>exact Cm λvs=>h _
theorem oW: ∀ {g:List (Nat × CTy)} {V:Fr->World->Prop} (ρ:Fr) (w:World),leaf g (Au g V) ρ w->V ρ w
 | [],_,ρ,_,h=>h ρ
 |(i,t)::vs,V,ρ,w,h=>by
  obtain⟨f,E,y⟩:=Dw (t:=t) (K:=λv f=>f=Au vs λρ w=>ρ i=v->V ρ w) h (Co λv=>rfl)
  subst y
  exact oW ρ w E rfl

theorem uN {t:STy}{R:Type}{A:ye t R}{K:Value->R->Prop}(h: ∀v f,(∀j:R->Prop,j f->apS t A v j)->K v f):zn t A K:=by
 cases t<;>simp only[zn]<;>intros<;>refine h _ _ λj g=>?_<;>simp only[apS,decide_true]<;>exact g
theorem uO: ∀ {ts:List STy} {R:Type} {A:yf ts R} {K:List Value->R->Prop},(∀v f,(∀j:R->Prop,j f->apL ts A v j)->K v f)->DP ts A K
 | [],_,_,_,h=>h [] _ λ_ g=>g
 |t::_,_,_,_,h=>uN (t:=t) λv _ hv=>uO λvs _ y=>h (v::vs) _ λj g=>hv _ (y j g)
theorem Bf {t:CTy}{R:Type}{A:zp t R}{K:Value->R->Prop}(h: ∀v f,(∀j:R->Prop,j f->apC t A v j)->K v f):DQ t A K:=by
 cases t with
 |s t=>exact uN h
 |agg ts=>exact uO λvs f hv=>h _ _ λj g=>by simpa[apC] using hv j g

def leS:(t:STy)-> {R:Type}->ye t R->ye t R->(R->R->Prop)->Prop
 | .bool,_,A,B,k=> ∀b,k (A b) (B b)
 | .int _,_,A,B,k=> ∀m,k (A m) (B m)
 | .str,_,A,B,k=> ∀s,k (A s) (B s)
 | .ptr,_,A,B,k=> ∀q,k (A q) (B q)
 | .slice,_,A,B,k=> ∀q n c,k (A q n c) (B q n c)
 | .map,_,A,B,k=> ∀q,k (A q) (B q)
 | .any,_,A,B,k=> ∀v,k (A v) (B v)
 | .loc,_,A,B,k=> ∀b,k (A b) (B b)
def leL:(ts:List STy)-> {R:Type}->yf ts R->yf ts R->(R->R->Prop)->Prop
 | [],_,A,B,k=>k A B
 |t::ts,_,A,B,k=>leS t A B λg B'=>leL ts g B' k
def leC:(t:CTy)-> {R:Type}->zp t R->zp t R->(R->R->Prop)->Prop
 | .s t,_,A,B,k=>leS t A B k
 | .agg ts,_,A,B,k=>leL ts A B k
def leV:(vars:List (Nat × CTy))->mS vars->mS vars->Prop
 | [],A,B=> ∀w,A w->B w
 |(_,t)::vs,A,B=>leC t A B λg B'=>leV vs g B'

theorem FA {t:STy}{R:Type}{A B:ye t R}{v:Value}{k:R->Prop}{k2:R->R->Prop}{j:R->Prop}(h:apS t A v k)(E:leS t A B k2)(y: ∀a b,k2 a b->k a->j b):apS t B v j:=by
 cases t with
 |int i=>
  cases v with
  |int l m=>
   simp only[apS] at h⊢
   cases hb:decide (l=i) with
   |true=>simp only[hb] at h⊢;exact y _ _ (E _) h
   |false=>simp only[hb] at h
  |_=>exact h.elim
 |any=>exact y _ _ (E _) h
 |slice=>
  simp only[apS] at h
  simp only[apS]
  split at h<;>first|exact y _ _ (E _ _ _) h|exact h.elim
 |_=>
  simp only[apS] at h
  simp only[apS]
  split at h<;>first|exact y _ _ (E _) h|exact h.elim
theorem FB: ∀ {ts:List STy} {R:Type} {A B:yf ts R} {vs:List Value} {k:R->Prop} {k2:R->R->Prop} {j:R->Prop},apL ts A vs k->leL ts A B k2->(∀a b,k2 a b->k a->j b)->apL ts B vs j
 | [],_,_,_,vs,_,_,_,h,g,hj=>by
  cases vs with
  |nil=>exact hj _ _ g h
  |cons v vs=>exact h.elim
 |t::ts,_,_,_,vs,_,_,_,h,g,hj=>by
  cases vs with
  |nil=>exact h.elim
  |cons v vs=>exact FA (t:=t) h g λ_ _ E y=>FB y E hj
theorem HH {t:CTy}{R:Type}{A B:zp t R}{v:Value}{k:R->Prop}{k2:R->R->Prop}{j:R->Prop}(h:apC t A v k)(E:leC t A B k2)(y: ∀a b,k2 a b->k a->j b):apC t B v j:=by
 cases t with
 |s t=>exact FA (t:=t) h E y
 |agg ts=>
  simp only[apC] at h⊢
  split at h
  ·exact FB (ts:=ts) h E y
  ·exact h.elim
theorem vx: ∀ {y:List (Nat × CTy)} {A B:mS y} {ρ:Fr} {w:World},leV y A B->leaf y A ρ w->leaf y B ρ w
 | [],_,_,_,_,g,h=>g _ h
 |(_,t)::_,_,_,_,_,g,h=>HH (t:=t) h g λ_ _ I E=>vx I E

theorem p8 {t:STy}{R:Type}{A:ye t R}{K g:Value->R->Prop}(y: ∀v f,K v f->g v f)(h:zn t A K):zn t A g:=by
 cases t<;>simp only[zn] at h⊢ <;>intros<;>exact y _ _ (h ..)
theorem Fl {t:STy}{R:Type}{A:ye t R}{y:Value->R}{k:R->R->Prop}(h:zn t A λv E=>k E (y v)):leS t A (mkS t y) k:=by
 cases t<;>exact h
theorem Fm: ∀ {ts:List STy} {R:Type} {A:yf ts R} {y:List Value->R} {k:R->R->Prop},(DP ts A λv E=>k E (y v))->leL ts A (mkL ts y) k
 | [],_,_,_,_,h=>h
 |t::ts,_,_,_,_,h=>by
  refine Fl (t:=t) ?_
  exact p8 (t:=t) (λ_ _ I=>Fm I) h
theorem Hm {t:CTy}{R:Type}{A:zp t R}{y:Value->R}{k:R->R->Prop}(h:DQ t A λv E=>k E (y v)):leC t A (mkC t y) k:=by
 cases t with
 |s t=>exact Fl h
 |agg ts=>exact Fm h
theorem zL: ∀ {g:List (Nat × CTy)} {B:mS g} {V:Fr->World->Prop},(∀ρ w,leaf g B ρ w->V ρ w)->leV g B (Au g V)
 | [],_,_,h=>λw hb ρ=>h ρ w hb
 |(i,t)::_,_,_,h=>Hm (t:=t) (Bf λv f y=>zL λρ w E hv=>h ρ w (by subst hv;exact y _ E))

def sV (l:Nat)(K:Fr->World->Prop)(Q:fR):fR
 | .goto l',ρ,w=>match Nat.beq l' l with
  |true=>K ρ w
  |false=>False
 |e,ρ,w=>Q e ρ w
def JumpF (P:Program)(n:Nat)(c rest:Code)(Q:fR)(ρ:Fr)(w:World):Prop:=
 ∀a,RelF n a ρ-> ∀(b:Frame) (k:List Item) (cs:List Frame),
  ∃e g y,mQ n Q e g y/\Arrives P (lone (b.at a (.code rest:: .inScope c::k)) cs w) b k cs e g y
theorem w0 {n l:Nat}{c rest:Code}{Q:fR}(b6:findLabel c l=some rest){m:Machine}{b:Frame}{k:List Item}{cs:List Frame}{e:Exit}{y:Act}{E:World}{I:Fr}(U:RelF n y I)(g:sV l (JumpF P n c rest Q) Q e I E)(O:Arrives P m b (.inScope c::k) cs e y E): ∃e V W,mQ n Q e V W/\Arrives P m b k cs e V W:=by
 cases e with
 |normal=>exact⟨.normal,y,E,⟨I,U,g⟩,Steps.trans O (.one step_inScope)⟩
 |exit id=>exact⟨.exit id,y,E,⟨I,U,g⟩,λb7 b9=>O b7 (by simp[exitTo,b9])⟩
 |goto c1=>
  simp only[sV] at g
  split at g
  ·rename_i hb
   have b4:=Nat.eq_of_beq_eq_true hb
   subst b4
   obtain⟨b8,b3,b5,a7,a6⟩:=g y U b k cs
   exact⟨b8,b3,b5,a7,.of_steps (O _ (by simp[gotoIn,b6])) a6⟩
  ·exact g.elim
 |ret=>exact⟨_,y,E,⟨I,U,g⟩,O⟩
 |panic ch=>exact⟨_,y,E,⟨I,U,g⟩,O⟩
 |outgrown=>exact⟨_,y,E,⟨I,U,g⟩,O⟩
theorem WpF.scopeL {n l:Nat}{c rest:Code}{Q:fR}{ρ:Fr}{w:World}(V:findLabel c l=some rest)(h:WpF P n c (sV l (JumpF P n c rest Q) Q) ρ w):WpF P n (.scope c) Q ρ w:=by
 intro a hr b k cs
 obtain⟨e,b3,a7,⟨b4,E,a6⟩,y⟩:=h a hr b (.inScope c::k) cs
 obtain⟨W,O,U,I,g⟩:=w0 V E a6 y
 exact⟨W,O,U,I,.of_steps (.one step_scope) g⟩
theorem JumpF.unfold {n l:Nat}{c rest:Code}{Q:fR}{ρ:Fr}{w:World}(E:findLabel c l=some rest)(h:WpF P n rest (sV l (JumpF P n c rest Q) Q) ρ w):JumpF P n c rest Q ρ w:=by
 intro a hr b k cs
 obtain⟨e,U,O,⟨V,y,I⟩,g⟩:=h a hr b (.inScope c::k) cs
 exact w0 E y I g

def qS:(t:STy)-> {ι R R':Type}->((ι->R)->R')->(ι->ye t R)->ye t R'
 | .bool,_,_,_,k,F=>λb=>k λi=>F i b
 | .int _,_,_,_,k,F=>λb=>k λi=>F i b
 | .str,_,_,_,k,F=>λb=>k λi=>F i b
 | .ptr,_,_,_,k,F=>λb=>k λi=>F i b
 | .slice,_,_,_,k,F=>λq n c=>k λi=>F i q n c
 | .map,_,_,_,k,F=>λb=>k λi=>F i b
 | .any,_,_,_,k,F=>λb=>k λi=>F i b
 | .loc,_,_,_,k,F=>λb=>k λi=>F i b
def qL:(ts:List STy)-> {ι R R':Type}->((ι->R)->R')->(ι->yf ts R)->yf ts R'
 | [],_,_,_,k,F=>k F
 |t::ts,_,_,_,k,F=>qS t (λg=>qL ts k g) F
def qC:(t:CTy)-> {ι R R':Type}->((ι->R)->R')->(ι->zp t R)->zp t R'
 | .s t,_,_,_,k,F=>qS t k F
 | .agg ts,_,_,_,k,F=>qL ts k F
def qV:(vs:List (Nat × CTy))-> {ι:Type}->(ι->Prop)->(ι->mS vs)->mS vs
 | [],_,C,F=>λw=> ∀i,C i->F i w
 |(_,t)::vs,_,C,F=>qC t (λg=>qV vs C g) F
def lfpV (vs:List (Nat × CTy))(B:mS vs->mS vs):mS vs:=qV vs (λX=>leV vs (B X) X) λX=>X
theorem He {t:STy}{g R:Type}{k:(g->R)->R}{F:g->ye t R}{i:g}{k2:R->R->Prop}(h: ∀y,k2 (k y) (y i)):leS t (qS t k F) (F i) k2:=by
 cases t<;>simp only[leS,qS]<;>intros<;>exact h _
theorem Hf: ∀ {ts:List STy} {g R:Type} {k:(g->R)->R} {F:g->yf ts R} {i:g} {k2:R->R->Prop},(∀y,k2 (k y) (y i))->leL ts (qL ts k F) (F i) k2
 | [],_,_,_,_,_,_,h=>h _
 |t::_,_,_,_,_,_,_,h=>He (t:=t) λ_=>Hf h
theorem qC_le {t:CTy}{g R:Type}{k:(g->R)->R}{F:g->zp t R}{i:g}{k2:R->R->Prop}(h: ∀y,k2 (k y) (y i)):leC t (qC t k F) (F i) k2:=by
 cases t with
 |s t=>exact He h
 |agg ts=>exact Hf h
theorem Hc: ∀ {vs:List (Nat × CTy)} {g:Type} {C:g->Prop} {F:g->mS vs} {i:g},C i->leV vs (qV vs C F) (F i)
 | [],_,_,_,_,hc=>λ_ h=>h _ hc
 |(_,_)::_,_,_,_,_,hc=>qC_le λ_=>Hc hc
def HB:(vs:List (Nat × CTy))->(Fr->World->Prop)->Fr->mS vs
 | [],V,ρ=>λw=>V ρ w
 |(i,t)::vs,V,ρ=>mkC t λv=>HB vs (λρ w=>V (upd ρ i v) w) ρ
theorem Ah {t:STy}{R g:Type}{F:ye t R}{K:g->Value->R->Prop}(h: ∀i,zn t F (K i)):zn t F λv f=> ∀i,K i v f:=by
 cases t<;>simp only[zn] at h⊢ <;>intros<;>exact h _ ..
theorem Ai: ∀ {ts:List STy} {R g:Type} {F:yf ts R} {K:g->List Value->R->Prop},(∀i,DP ts F (K i))->DP ts F λv f=> ∀i,K i v f
 | [],_,_,_,_,h=>h
 |t::ts,_,_,_,_,h=>p8 (t:=t) (λ_ _ h=>Ai h) (Ah h)
theorem EX {t:CTy}{R g:Type}{F:zp t R}{K:g->Value->R->Prop}(h: ∀i,DQ t F (K i)):DQ t F λv f=> ∀i,K i v f:=by
 cases t with
 |s t=>exact Ah h
 |agg ts=>exact Ai h
theorem xP: ∀ {ts:List STy} {R:Type} {A:yf ts R} {K g:List Value->R->Prop},(∀v f,K v f->g v f)->DP ts A K->DP ts A g
 | [],_,_,_,_,hk,h=>hk _ _ h
 |t::_,_,_,_,_,hk,h=>p8 (t:=t) (λ_ _ h=>xP (λ_ _=>hk _ _) h) h
theorem Dx {t:CTy}{R:Type}{A:zp t R}{K y:Value->R->Prop}(g: ∀v f,K v f->y v f)(h:DQ t A K):DQ t A y:=by
 cases t with
 |s t=>exact p8 (t:=t) g h
 |agg ts=>exact xP (λ_ _=>g _ _) h
theorem zo: ∀ {vs:List (Nat × CTy)} {F:mS vs} {V:Fr->World->Prop},(∀ρ,F=HB vs V ρ)->FC vs F V
 | [],_,_,h=>λρ w=>congrFun (h ρ) w
 |(i,t)::vs,F,V,h=>by
  have y: ∀ρ:Fr,DQ t F λv f=>f=HB vs (λρ w=>V (upd ρ i v) w) ρ:=λρ=>by
   rw[h ρ];exact Co λv=>rfl
  exact Dx (λv f g=>zo g) (EX y)

inductive AC where
 |leaf (c:Code)
 |seq (x y:AC)
  |mark (K:Fr->World->Prop) (x:AC)
 |cond (t:Nat) (x y:AC)
 |block (id:Nat) (x:AC)
 |scope (x:AC)
 |loop (K:Fr->World->Prop) (c:Code)
  |given (F:(Fr->World->Prop)->Fr->World->Prop) (c:Code)
  |draw (pl:RPlan) (c:Code)
  |jump (l:Nat) (K:Fr->World->Prop) (x:AC)
  |no (c:Code)
 |cut (vs:List (Nat × CTy)) (F:mS vs) (x:AC)
 |loopB (vs:List (Nat × CTy)) (B:mS vs->mS vs) (c:Code) (x:mS vs->AC)
def AC.erase:AC->Code
 | .leaf c=>c
 | .seq x y=> .seq x.erase y.erase
 | .mark _ x=>x.erase
 | .cond t x y=> .cond (.tmp t) x.erase y.erase
 | .block id x=> .block id x.erase
 | .scope x=> .scope x.erase
 | .loop _ c=> .loop c
 | .given _ c=>c
 | .draw _ c=>c
 | .jump _ _ x=> .scope x.erase
 | .no c=>c
 | .cut _ _ x=>x.erase
 | .loopB _ _ c _=> .loop c
def drawA (P:Program)(n:Nat)(g:RPlan)(c:Code)(Q:Fr->World->Prop)(ρ:Fr)(w:World):Prop:=
 match c with
 | .region _ ops d=>match d with
  |true=>Hz P n ops g Q ρ w
  |false=>False
 |_=>False
def z8 (g:RPlan):Code->Bool
 | .region _ ops d=>d && Region.noSelect ops && Nat.ble g.depth ops.size
 |_=>false
def vcA (P:Program)(n:Nat):AC->fR->Fr->World->Prop
 | .leaf c,Q,ρ,w=>vcC P n c Q ρ w
 | .seq x y,Q,ρ,w=>vcA P n x (mP (vcA P n y Q) Q) ρ w
 | .mark K _,_,ρ,w=>K ρ w
 | .cond t x y,Q,ρ,w=>match ρ t with
  | .bool b=>match b with
   |true=>vcA P n x Q (upd ρ t (.bool true)) w
   |false=>vcA P n y Q (upd ρ t (.bool false)) w
  |_=>False
 | .block id x,Q,ρ,w=>vcA P n x (rE id Q) ρ w
 | .scope x,Q,ρ,w=>vcA P n x (lF Q) ρ w
 | .loop K _,_,ρ,w=>K ρ w
 | .given F _,Q,ρ,w=>F (Q .normal) ρ w
 | .draw pl c,Q,ρ,w=>drawA P n pl c (Q .normal) ρ w
 | .jump l K x,Q,ρ,w=>vcA P n x (sV l K Q) ρ w
 | .no _,_,_,_=>False
 | .cut vs F _,_,ρ,w=>leaf vs F ρ w
 | .loopB vs B _ _,_,ρ,w=>leaf vs (lfpV vs B) ρ w
def vX (P:Program)(n:Nat):AC->fR->Prop
 | .leaf _,_=>True
 | .seq x y,Q=>vX P n x (mP (vcA P n y Q) Q)/\vX P n y Q
 | .mark K x,Q=>vX P n x Q/\ ∀ρ w,K ρ w->vcA P n x Q ρ w
 | .cond _ x y,Q=>vX P n x Q/\vX P n y Q
 | .block id x,Q=>vX P n x (rE id Q)
 | .scope x,Q=>vX P n x (lF Q)
 | .loop K c,Q=> ∀ρ w,K ρ w->LoopF P n c Q ρ w
 | .given F c,Q=> ∀ρ w,F (Q .normal) ρ w->WpF P n c Q ρ w
 | .jump l K x,Q=>vX P n x (sV l K Q)/\ ∃rest,findLabel x.erase l=some rest/\ ∀ρ w,K ρ w->JumpF P n x.erase rest Q ρ w
 | .draw pl c,Q=>P.follows .mixedOrders=true/\z8 pl c=true/\ ∀c ρ w,¬ Q (.panic c) ρ w
 | .no _,_=>True
 | .cut vs F x,Q=>vX P n x Q/\FC vs F (vcA P n x Q)
 | .loopB vs B c x,Q=> ∀X,(x X).erase=c/\vX P n (x X) (mP (leaf vs X) Q)/\FC vs (B X) (vcA P n (x X) (mP (leaf vs X) Q))

theorem pt {n:Nat}: ∀(x:AC) {Q:fR} {ρ:Fr} {w:World},vX P n x Q->vcA P n x Q ρ w->WpF P n x.erase Q ρ w:=by
 intro x
 induction x with
 |leaf c=>exact λ_ h=>Bv c h
 |seq x y V W=>exact λE h=>WpF.seq (V E.1 h) (λ_ _ U=>W E.2 U)
 |mark K x I=>exact λE h=>I E.1 (E.2 _ _ h)
 |cond t x y V W=>
  intro Q ρ w E h
  unfold vcA at h
  split at h
  ·rename_i b hb
   refine WpF.cond hb ?_
   cases b with
   |true=>exact V E.1 h
   |false=>exact W E.2 h
  ·exact h.elim
 |block id x I=>exact λE h=>WpF.block (I E h)
 |scope x I=>exact λE h=>WpF.scope (I E h)
 |loop K c=>exact λE h=>LoopF.wp (E _ _ h)
 |given F c=>exact λE h=>E _ _ h
 |no c=>exact λ_ h=>h.elim
 |cut vs F x I=>exact λE h=>I E.1 (GX E.2 _ _ h)
 |loopB vs B c x I=>
  intro Q ρ w E h
  refine LoopF.wp ?_
  have a6: ∀ρ w,leaf vs (B (Au vs (LoopF P n c Q))) ρ w->LoopF P n c Q ρ w:=by
   intro ρ w hb
   refine LoopF.unfold (WpF.mono (Q:=mP (leaf vs (Au vs (LoopF P n c Q))) Q) ?_ ?_)
   ·have b5:=I _ (E (Au vs (LoopF P n c Q))).2.1 (GX (E _).2.2 ρ w hb)
    rwa [(E _).1] at b5
   ·intro e ρ w O
    cases e<;>first|exact oW _ _ O|exact O
  exact oW ρ w (vx (Hc (C:=λX=>leV vs (B X) X) (F:=λX=>X) (zL a6)) h)
 |jump l K x I=>
  intro Q ρ w ⟨E,rest,b3,a7⟩ h
  refine WpF.scopeL b3 (WpF.mono (I E h) λe ρ w O=>?_)
  cases e<;>first|exact O|skip
  simp only[sV] at O⊢
  split at O
  ·exact a7 _ _ O
  ·exact O.elim
 |draw b7 c=>
  intro Q ρ w ⟨b4,U,O⟩ h
  cases c<;>first|exact h.elim|skip
  rename_i id b6 d
  cases d
  ·exact h.elim
  ·simp only[z8,Bool.true_and,Bool.and_eq_true] at U
   exact zd b4 U.1 O U.2 h

theorem Gf {n:Nat}{g:List (Nat × CTy)}{c:Code}{Q:fR}{L:mS g}(y:mS g->AC)(B:mS g->mS g)(V: ∀X,(y X).erase=c)(W: ∀X,vX P n (y X) (mP (leaf g X) Q))(O: ∀X,FC g (B X) (vcA P n (y X) (mP (leaf g X) Q)))(U: ∀X,leV g (B X) X->leV g L X): ∀ρ w,leaf g L ρ w->LoopF P n c Q ρ w:=by
 intro ρ w h
 have I: ∀ρ w,leaf g (B (Au g (LoopF P n c Q))) ρ w->LoopF P n c Q ρ w:=by
  intro ρ w hb
  refine LoopF.unfold (WpF.mono (Q:=mP (leaf g (Au g (LoopF P n c Q))) Q) ?_ ?_)
  ·have a6:=pt _ (W (Au g (LoopF P n c Q))) (GX (O _) ρ w hb)
   rwa [V] at a6
  ·intro e ρ w E
   cases e<;>first|exact oW _ _ E|exact E
 exact oW ρ w (vx (U _ (zL I)) h)

theorem jumpG {n l:Nat}{g:List (Nat × CTy)}{c rest:Code}{Q:fR}{L:mS g}(E:mS g->AC)(B:mS g->mS g)(V:findLabel c l=some rest)(W: ∀X,(E X).erase=rest)(a6: ∀X,vX P n (E X) (sV l (leaf g X) Q))(O: ∀X,FC g (B X) (vcA P n (E X) (sV l (leaf g X) Q)))(U: ∀X,leV g (B X) X->leV g L X): ∀ρ w,leaf g L ρ w->JumpF P n c rest Q ρ w:=by
 intro ρ w h
 have I: ∀ρ w,leaf g (B (Au g (JumpF P n c rest Q))) ρ w->JumpF P n c rest Q ρ w:=by
  intro ρ w hb
  refine JumpF.unfold V (WpF.mono (Q:=sV l (leaf g (Au g (JumpF P n c rest Q))) Q) ?_ ?_)
  ·have a7:=pt _ (a6 (Au g (JumpF P n c rest Q))) (GX (O _) ρ w hb)
   rwa [W] at a7
  ·intro e ρ w y
   cases e<;>first|exact y|skip
   simp only[sV] at y⊢
   split at y
   ·exact oW _ _ y
   ·exact y.elim
 exact oW ρ w (vx (U _ (zL I)) h)
theorem jumpK {n l:Nat}{c rest:Code}{Q:fR}{K:Fr->World->Prop}(g:AC)(I:findLabel c l=some rest)(O:g.erase=rest)(V:vX P n g (lF Q))(h: ∀ρ w,K ρ w->vcA P n g (lF Q) ρ w): ∀ρ w,K ρ w->JumpF P n c rest Q ρ w:=by
 intro ρ w U
 refine JumpF.unfold I (WpF.mono (Q:=lF Q) ?_ ?_)
 ·rw[<-O];exact pt _ V (h _ _ U)
 ·intro e ρ w E
  cases e<;>first|exact E|exact E.elim

def sel:List Nat->Code->Code
 | [],c=>c
 |0::p,.seq x _=>sel p x
 |1::p,.seq _ y=>sel p y
 |0::p,.cond _ x _=>sel p x
 |1::p,.cond _ _ y=>sel p y
 |0::p,.block _ x=>sel p x
 |0::p,.loop x=>sel p x
 |0::p,.scope x=>sel p x
 |_,_=> .skip
def HD:Nat->Nat->List Nat->List Nat
 |0,_,a=>a
 |f+1,n,a=>if n<=1 then a else HD f (n/2) (n%2::a)
def sb (n:Nat)(c:Code):Code:=sel (HD 500 n []) c
def mN (g:Func):Code:=
 match g.body with
 |some c=>c
 |none=> .skip
def F5 (P:Program):List ResultVar->Fr->World->(List Value->Prop)->Prop
 | [],_,_,K=>K []
 | .tmp t::rs,ρ,w,K=>F5 P rs ρ w λvs=>K (ρ t::vs)
 | .cell t ty::rs,ρ,w,K=>match ρ t with
  | .pointer (some a)=>yO P ty a w λv=>F5 P rs ρ w λvs=>K (v::vs)
  |_=>False
def Gb:List Value->Value
 | [v]=>v
 |vs=> .tuple vs.toArray
def QF (P:Program)(rs:List ResultVar)(R:Ending->World->Prop):fR
 | .normal,ρ,w=>F5 P rs ρ w λvs=>R (.returned (Gb vs)) w
 | .ret,ρ,w=>F5 P rs ρ w λvs=>R (.returned (Gb vs)) w
 |_,_,_=>False
def fr0 (g:List Value):Fr:=λt=>g.getD t undef

theorem vi {n:Nat}{a:Act}{ρ:Fr}(hr:RelF n a ρ): ∀ {rs:List ResultVar} {w:World} {K:List Value->Prop},F5 P rs ρ w K->
 ∃vs,K vs/\vs.length=rs.length/\(rs.mapM (m:=Sem) fun
  | .tmp t=>pure (a.tmps.getD t undef)
  | .cell x t=>do loadVar t (<-asAddr (a.tmps.getD x undef))).run P w= .ok vs w
 | [],w,_,h=>⟨[],h,rfl,rfl⟩
 | .tmp t::rs,w,K,h=>by
  obtain⟨vs,y,E,g⟩:=vi hr (rs:=rs) h
  refine⟨_,y,by simp[E],?_⟩
  simp only[List.mapM_cons,Sem.run_bind,hr.get]
  rw[show (pure (ρ t):Sem Value).run P w= .ok (ρ t) w from rfl]
  simp only[Result.andThen_ok]
  simp only[hr.get] at g
  rw[g]
  rfl
 | .cell t ty::rs,w,K,h=>by
  unfold F5 at h
  split at h
  ·rename_i I O
   obtain⟨v,h,hv⟩:=wU h
   obtain⟨vs,y,E,g⟩:=vi hr (rs:=rs) h
   refine⟨_,y,by simp[E],?_⟩
   simp only[List.mapM_cons,Sem.run_bind,hr.get,O]
   rw[show (asAddr (.pointer (some I))).run P w= .ok I w from rfl]
   simp only[Result.andThen_ok,hv]
   simp only[hr.get] at g
   rw[g]
   rfl
  ·exact h.elim

theorem EL {f:FuncId}{g:Func}{y:Array Value}{R:Ending->World->Prop}{w:World}(V:P.funcs[f]? =some g)(hb:g.body=some (mN g))(hc: ∀y w,(callFunc f y).run P w= .ok (.enter f y) w)(b3:y.size<=g.ntmps)(h:WpF P g.ntmps (mN g) (QF P g.results.toList R) (fr0 y.toList) w):callE P f y R w:=by
 refine .inl ⟨hc,calls_of_wp V hb (Code.wp_mono (λe a E I=>?_) (h _ ⟨by simp;omega,rfl,λt=>?_⟩))⟩
 ·obtain⟨ρ,hr,I⟩:=I
  have fin: ∀ {E},(F5 P g.results.toList ρ E λvs=>R (.returned (Gb vs)) E)->a.defers= []/\ ∃v,(results g a.tmps).run P E= .ok v E/\R (.returned v) E:=by
   intro E I
   obtain⟨vs,W,a7,a6⟩:=vi hr I
   refine⟨hr.defers,_,?_,W⟩
   unfold results
   rw[Array.mapM_eq_mapM_toList,Sem.run_bind,map_eq_pure_bind,Sem.run_bind]
   erw [a6]
   simp only[Result.andThen_ok,pure,Sem.run]
   match vs,a7 with
   | [],_=>rfl
   | [v],_=>rfl
   |v::u::vs,_=>
    have: ¬ (List.toArray (v::u::vs)).size=1:=by simp
    rw[dif_neg this]
    rfl
  cases e<;>first|exact fin I|exact I.elim
 ·simp only[fr0,Array.getD_eq_getD_getElem?,List.getD_eq_getElem?_getD]
  rcases Nat.lt_or_ge t y.size with U|O
  ·rw[Array.getElem?_append_left U];simp
  ·rw[Array.getElem?_append_right O]
   simp only[Array.getElem?_toList,Array.getElem?_eq_none O,Option.getD_none]
   simp only[Array.getElem?_replicate]
   split<;>rfl

theorem FI {n:Nat}{x:AC}{Q:fR}{ρ:Fr}{w:World}{c:Code}(E:vX P n x Q)(y:x.erase=c)(h:vcA P n x Q ρ w):WpF P n c Q ρ w:=
 y▸pt x E h

theorem tA {f:FuncId}{E:Func}{n:Nat}{c:Code}{rs:List ResultVar}{y:List Value}{R:Ending->World->Prop}{w:World}{x:AC}(V:P.funcs[f]? =some E)(hc: ∀y w,(callFunc f y).run P w= .ok (.enter f y) w)(hb:E.body=some c)(a6:E.ntmps=n)(O:E.results.toList=rs)(U:Nat.ble y.length n=true)(W:x.erase=c)(g:vX P n x (QF P rs R)){A:Prop}(e:A=vcA P n x (QF P rs R) (fr0 y) w)(h:A):callE P f y.toArray R w:=by
 have I:mN E=c:=by unfold mN;rw[hb]
 subst a6 O
 refine EL V (by rw[hb,I]) hc (by simpa using Nat.le_of_ble_eq_true U) ?_
 rw[I]
 exact FI g W (e▸h)

theorem EN {f:FuncId}{E:Func}{n:Nat}{c:Code}{rs:List ResultVar}{y:List Value}{R:Ending->World->Prop}{w:World}{x:AC}(U:P.funcs[f]? =some E)(hc: ∀y w,(callFunc f y).run P w= .ok (.enter f y) w)(g:vX P n x (QF P rs R)){A:Prop}(e:A=vcA P n x (QF P rs R) (fr0 y) w)(h:A)(hb:E.body=some c:=by kernel_rfl)(W:E.ntmps=n:=by kernel_rfl)(I:E.results.toList=rs:=by kernel_rfl)(O:Nat.ble y.length n=true:=by kernel_rfl)(V:x.erase=c:=by kernel_rfl):callE P f y.toArray R w:=
 tA U hc hb W I O V g e h
theorem cutZ {y:List (Nat × CTy)}{F:mS y}{V:Fr->World->Prop}(E:FC y F V:=by (repeat intro);kernel_rfl): ∀ρ w,leaf y F ρ w->V ρ w:=GX E

def tyN:Nat->CTy
 |0=> .s .bool|1=> .s .str|2=> .s .ptr|3=> .s .slice|4=> .s .map|5=> .s .any|6=> .s .loc
 |7=> .s (.int .i64)|8=> .s (.int .u8)|9=> .s (.int .i32)|10=> .s (.int .u64)|11=> .s (.int .i8)|12=> .s (.int .u32)|13=> .s (.int .u16)|_=> .s (.int .i16)
def vd:List Nat->List (Nat × CTy)
 | []=> []
 |n::l=>(n/20,tyN (n%20))::vd l
def rpN:List Nat->RPlan
 | []=> .done
 |n::l=>match n%3 with
  |0=> .pure (n/3) (rpN l)
  |1=> .load (n/3) (rpN l)
  |_=> .one (n/3) (rpN l)
inductive Sp where
 |mk (v:List Nat) (F:mS (vd v))
 |lp (v:List Nat) (B:mS (vd v)->mS (vd v)) (x:mS (vd v)->List (Nat × Sp))
 |no
 |dr (p:RPlan)
def Sp.go (d:Nat):List (Nat × Sp)->List (Nat × Sp)
 | []=> []
 |(n,s)::l=>match Nat.beq (n%2) d with
  |true=>(n/2,s)::Sp.go d l
  |false=>Sp.go d l
def mkA:Nat->Code->List (Nat × Sp)->AC
 |0,c,_=> .leaf c
 |f+1,c,l=>match l with
  | []=> .leaf c
  |(n,s)::r=>match Nat.beq n 1 with
   |true=>match s with
    | .mk v F=> .cut (vd v) F (mkA f c r)
    | .no=> .no c
    | .dr p=> .draw p c
    | .lp v B x=>match c with
     | .loop c=> .loopB (vd v) B c λX=>mkA f c (x X)
     |c=> .leaf c
   |false=>match c with
    | .seq x y=> .seq (mkA f x (Sp.go 0 l)) (mkA f y (Sp.go 1 l))
    | .cond (.tmp t) x y=> .cond t (mkA f x (Sp.go 0 l)) (mkA f y (Sp.go 1 l))
    | .block k x=> .block k (mkA f x (Sp.go 0 l))
    | .scope x=> .scope (mkA f x (Sp.go 0 l))
    |c=> .leaf c
theorem sO: ∀(f:Nat) (c:Code) (l:List (Nat × Sp)),(mkA f c l).erase=c
 |0,_,_=>rfl
 |f+1,c,l=>by
  unfold mkA
  repeat' split
  all_goals first|rfl|simp only[AC.erase,sO f]
def TyA:AC->Type
 | .seq x y=>TyA x × TyA y
 | .cond _ x y=>TyA x × TyA y
 | .block _ x=>TyA x
 | .scope x=>TyA x
 | .cut vs _ x=>(Fr->mS vs) × TyA x
 | .loopB vs _ _ x=>(X:mS vs)->(Fr->mS vs) × TyA (x X)
 | .draw _ _=>Bool × (List PanicEntry->Fr->World->Prop)
 |_=>Unit
def lhA (P:Program)(n:Nat):(x:AC)->fR->TyA x
 | .seq x y,Q=>(lhA P n x (mP (vcA P n y Q) Q),lhA P n y Q)
 | .cond _ x y,Q=>(lhA P n x Q,lhA P n y Q)
 | .block id x,Q=>lhA P n x (rE id Q)
 | .scope x,Q=>lhA P n x (lF Q)
 | .cut _ F x,Q=>(λ_=>F,lhA P n x Q)
 | .loopB vs B _ x,Q=>λX=>(λ_=>B X,lhA P n (x X) (mP (leaf vs X) Q))
 | .draw pl c,Q=>(P.follows .mixedOrders && z8 pl c,λc ρ w=>Q (.panic c) ρ w)
 | .leaf _,_| .no _,_| .mark _ _,_| .loop _ _,_| .given _ _,_| .jump _ _ _,_=>()
def rhA (P:Program)(n:Nat):(x:AC)->fR->TyA x
 | .seq x y,Q=>(rhA P n x (mP (vcA P n y Q) Q),rhA P n y Q)
 | .cond _ x y,Q=>(rhA P n x Q,rhA P n y Q)
 | .block id x,Q=>rhA P n x (rE id Q)
 | .scope x,Q=>rhA P n x (lF Q)
 | .cut vs _ x,Q=>(λρ=>HB vs (vcA P n x Q) ρ,rhA P n x Q)
 | .loopB vs _ _ x,Q=>λX=>(λρ=>HB vs (vcA P n (x X) (mP (leaf vs X) Q)) ρ,rhA P n (x X) (mP (leaf vs X) Q))
 | .draw _ _,_=>(true,λ_ _ _=>False)
 | .leaf _,_| .no _,_| .mark _ _,_| .loop _ _,_| .given _ _,_| .jump _ _ _,_=>()
def WfA:AC->Prop
 | .leaf _| .no _| .draw _ _=>True
 | .mark _ _| .loop _ _| .given _ _| .jump _ _ _=>False
 | .seq x y| .cond _ x y=>WfA x/\WfA y
 | .block _ x| .scope x| .cut _ _ x=>WfA x
 | .loopB _ _ c x=> ∀X,(x X).erase=c/\WfA (x X)
theorem Fk: ∀(f:Nat) (c:Code) (l:List (Nat × Sp)),WfA (mkA f c l)
 |0,_,_=>trivial
 |f+1,c,l=>by
  unfold mkA
  repeat' split
  all_goals simp[WfA,Fk f,sO f]
theorem goodA {n:Nat}: ∀(x:AC) {Q:fR},WfA x->lhA P n x Q=rhA P n x Q->vX P n x Q:=by
 intro x
 induction x with
 |leaf c=>exact λ_ _=>trivial
 |no c=>exact λ_ _=>trivial
 |seq x y O U=>exact λE h=>⟨O E.1 (congrArg Prod.fst h),U E.2 (congrArg Prod.snd h)⟩
 |cond t x y O U=>exact λE h=>⟨O E.1 (congrArg Prod.fst h),U E.2 (congrArg Prod.snd h)⟩
 |block id x I=>exact λE h=>I (Q:=rE id _) E h
 |scope x I=>exact λE h=>I (Q:=lF _) E h
 |cut vs F x I=>exact λE h=>⟨I E (congrArg Prod.snd h),zo λρ=>congrFun (congrArg Prod.fst h) ρ⟩
 |loopB vs B c x I=>exact λE h X=>⟨(E X).1,I X (Q:=mP (leaf vs X) _) (E X).2 (congrArg Prod.snd (congrFun h X)),zo λρ=>congrFun (congrArg Prod.fst (congrFun h X)) ρ⟩
 |draw W c=>
  intro Q _ h
  have V:(P.follows .mixedOrders && z8 W c)=true:=congrArg Prod.fst h
  rw[Bool.and_eq_true] at V
  refine⟨V.1,V.2,λc ρ w a6=>?_⟩
  have:=congrFun (congrFun (congrFun (congrArg Prod.snd h) c) ρ) w
  exact cast this a6
 |_=>exact λE _=>E.elim
theorem aG {f:FuncId}{y:Func}{E:List Value}{R:Ending->World->Prop}{w:World}(A:List (Nat × Sp))(O:P.funcs[f]? =some y)(hc: ∀E w,(callFunc f E).run P w= .ok (.enter f E) w){F:Prop}(h:F)(U:lhA P y.ntmps (mkA 500 (mN y) A) (QF P y.results.toList R)=rhA P y.ntmps (mkA 500 (mN y) A) (QF P y.results.toList R):=by kernel_rfl)(e:F=vcA P y.ntmps (mkA 500 (mN y) A) (QF P y.results.toList R) (fr0 E) w:=by kernel_rfl)(hb:y.body=some (mN y):=by kernel_rfl)(I:Nat.ble E.length y.ntmps=true:=by kernel_rfl):callE P f E.toArray R w:=
 tA O hc hb rfl rfl I (sO ..) (goodA _ (Fk ..) U) e h
theorem cE {f:FuncId}{g:Func}{y:List Value}{R:Ending->World->Prop}{w:World}(I:P.funcs[f]? =some g)(hc: ∀y w,(callFunc f y).run P w= .ok (.enter f y) w){F:Prop}(h:F)(e:F=vcC P g.ntmps (mN g) (QF P g.results.toList R) (fr0 y) w:=by kernel_rfl)(hb:g.body=some (mN g):=by kernel_rfl)(E:Nat.ble y.length g.ntmps=true:=by kernel_rfl):callE P f y.toArray R w:=
 tA I hc hb rfl rfl E (x:= .leaf (mN g)) rfl trivial e h

def tick (w:World):World:= {w with drawn:=w.drawn+1}
def tk (w:World)(K:World->Prop):Prop:=K (tick w)
def br (c:Bool)(A B:Prop):Prop:=
 match c with
 |true=>A
 |false=>B
def box (w:World)(cs:Array Value)(e:TypeId)(K:Nat->World->Prop):Prop:= ∀b,w.heap.size=b->K b (alc w cs e)
def Fy (k:IntKind)(x g:Int):Int:=k.wrap ((BitVec.ofInt k.bits x &&& BitVec.ofInt k.bits g).toNat)
structure N16 where
 a0:Int:=0
 a1:ByteArray:=⟨#[]⟩
 a2:ByteArray:=⟨#[]⟩
 a3:Int:=0
 a4:ByteArray:=⟨#[]⟩
 a5:Bool:=false
 q6:Option Addr:=none
 n6:Nat:=0
 c6:Nat:=0
 q7:Option Addr:=none
 n7:Nat:=0
 c7:Nat:=0
 a8:Int:=0
 a9:Int:=0
 a10:ByteArray:=⟨#[]⟩
 a11:Int:=0
 a12:Bool:=false
 a13:Bool:=false
 a14:Bool:=false
 q15:Option Addr:=none
 n15:Nat:=0
 c15:Nat:=0
def N16.C (v:N16):Array Value:= #[.int .i64 v.a0,.string v.a1,.string v.a2,.int .i64 v.a3,.string v.a4,.bool v.a5,.slice v.q6 v.n6 v.c6,.slice v.q7 v.n7 v.c7,.int .i64 v.a8,.int .i64 v.a9,.string v.a10,.int .i64 v.a11,.bool v.a12,.bool v.a13,.bool v.a14,.slice v.q15 v.n15 v.c15]
abbrev N16.V (v:N16):Value:= .agg v.C
def ld16 (w:World)(A:Nat->Addr)(K:N16->Prop):Prop:=
 ∃(a0:Int),w.cell? (A 0)=some (.int .i64 a0)/\
 ∃(a1:ByteArray),w.cell? (A 1)=some (.string a1)/\
 ∃(a2:ByteArray),w.cell? (A 2)=some (.string a2)/\
 ∃(a3:Int),w.cell? (A 3)=some (.int .i64 a3)/\
 ∃(a4:ByteArray),w.cell? (A 4)=some (.string a4)/\
 ∃(a5:Bool),w.cell? (A 5)=some (.bool a5)/\
 ∃(q6:Option Addr),∃(n6:Nat),∃(c6:Nat),w.cell? (A 6)=some (.slice q6 n6 c6)/\
 ∃(q7:Option Addr),∃(n7:Nat),∃(c7:Nat),w.cell? (A 7)=some (.slice q7 n7 c7)/\
 ∃(a8:Int),w.cell? (A 8)=some (.int .i64 a8)/\
 ∃(a9:Int),w.cell? (A 9)=some (.int .i64 a9)/\
 ∃(a10:ByteArray),w.cell? (A 10)=some (.string a10)/\
 ∃(a11:Int),w.cell? (A 11)=some (.int .i64 a11)/\
 ∃(a12:Bool),w.cell? (A 12)=some (.bool a12)/\
 ∃(a13:Bool),w.cell? (A 13)=some (.bool a13)/\
 ∃(a14:Bool),w.cell? (A 14)=some (.bool a14)/\
 ∃(q15:Option Addr),∃(n15:Nat),∃(c15:Nat),w.cell? (A 15)=some (.slice q15 n15 c15)/\
 K ⟨a0,a1,a2,a3,a4,a5,q6,n6,c6,q7,n7,c7,a8,a9,a10,a11,a12,a13,a14,q15,n15,c15⟩
def ldB16 (w:World)(b:Nat)(K:N16->Prop):Prop:=ld16 w (λi=>⟨b,i,none⟩) K
def ldA16 (w:World)(a:Addr)(K:N16->Prop):Prop:=ld16 w (λi=>a.add i) K
def st16 (w:World)(b:Nat)(v:N16)(K:World->Prop):Prop:=
 stV w ⟨b,0,none⟩ (.int .i64 v.a0) λw=>
 stV w ⟨b,1,none⟩ (.string v.a1) λw=>
 stV w ⟨b,2,none⟩ (.string v.a2) λw=>
 stV w ⟨b,3,none⟩ (.int .i64 v.a3) λw=>
 stV w ⟨b,4,none⟩ (.string v.a4) λw=>
 stV w ⟨b,5,none⟩ (.bool v.a5) λw=>
 stV w ⟨b,6,none⟩ (.slice v.q6 v.n6 v.c6) λw=>
 stV w ⟨b,7,none⟩ (.slice v.q7 v.n7 v.c7) λw=>
 stV w ⟨b,8,none⟩ (.int .i64 v.a8) λw=>
 stV w ⟨b,9,none⟩ (.int .i64 v.a9) λw=>
 stV w ⟨b,10,none⟩ (.string v.a10) λw=>
 stV w ⟨b,11,none⟩ (.int .i64 v.a11) λw=>
 stV w ⟨b,12,none⟩ (.bool v.a12) λw=>
 stV w ⟨b,13,none⟩ (.bool v.a13) λw=>
 stV w ⟨b,14,none⟩ (.bool v.a14) λw=>
 stV w ⟨b,15,none⟩ (.slice v.q15 v.n15 v.c15) λw=>
 K w
def GQ (e:Ending)(K:N16->Prop):Prop:=
 ∃(a0:Int),∃(a1:ByteArray),∃(a2:ByteArray),∃(a3:Int),∃(a4:ByteArray),∃(a5:Bool),∃(q6:Option Addr),∃(n6:Nat),∃(c6:Nat),∃(q7:Option Addr),∃(n7:Nat),∃(c7:Nat),∃(a8:Int),∃(a9:Int),∃(a10:ByteArray),∃(a11:Int),∃(a12:Bool),∃(a13:Bool),∃(a14:Bool),∃(q15:Option Addr),∃(n15:Nat),∃(c15:Nat),e= .returned (.agg #[.int .i64 a0,.string a1,.string a2,.int .i64 a3,.string a4,.bool a5,.slice q6 n6 c6,.slice q7 n7 c7,.int .i64 a8,.int .i64 a9,.string a10,.int .i64 a11,.bool a12,.bool a13,.bool a14,.slice q15 n15 c15])/\
 K ⟨a0,a1,a2,a3,a4,a5,q6,n6,c6,q7,n7,c7,a8,a9,a10,a11,a12,a13,a14,q15,n15,c15⟩
structure N10 where
 a0:Int:=0
 a1:ByteArray:=⟨#[]⟩
 a2:ByteArray:=⟨#[]⟩
 a3:Int:=0
 a4:ByteArray:=⟨#[]⟩
 a5:Bool:=false
 q6:Option Addr:=none
 n6:Nat:=0
 c6:Nat:=0
 q7:Option Addr:=none
 n7:Nat:=0
 c7:Nat:=0
 a8:Int:=0
 a9:Int:=0
def N10.C (v:N10):Array Value:= #[.int .i64 v.a0,.string v.a1,.string v.a2,.int .i64 v.a3,.string v.a4,.bool v.a5,.slice v.q6 v.n6 v.c6,.slice v.q7 v.n7 v.c7,.int .i64 v.a8,.int .i64 v.a9]
abbrev N10.V (v:N10):Value:= .agg v.C
def ld10 (w:World)(A:Nat->Addr)(K:N10->Prop):Prop:=
 ∃(a0:Int),w.cell? (A 0)=some (.int .i64 a0)/\
 ∃(a1:ByteArray),w.cell? (A 1)=some (.string a1)/\
 ∃(a2:ByteArray),w.cell? (A 2)=some (.string a2)/\
 ∃(a3:Int),w.cell? (A 3)=some (.int .i64 a3)/\
 ∃(a4:ByteArray),w.cell? (A 4)=some (.string a4)/\
 ∃(a5:Bool),w.cell? (A 5)=some (.bool a5)/\
 ∃(q6:Option Addr),∃(n6:Nat),∃(c6:Nat),w.cell? (A 6)=some (.slice q6 n6 c6)/\
 ∃(q7:Option Addr),∃(n7:Nat),∃(c7:Nat),w.cell? (A 7)=some (.slice q7 n7 c7)/\
 ∃(a8:Int),w.cell? (A 8)=some (.int .i64 a8)/\
 ∃(a9:Int),w.cell? (A 9)=some (.int .i64 a9)/\
 K ⟨a0,a1,a2,a3,a4,a5,q6,n6,c6,q7,n7,c7,a8,a9⟩
def ldB10 (w:World)(b:Nat)(K:N10->Prop):Prop:=ld10 w (λi=>⟨b,i,none⟩) K
def ldA10 (w:World)(a:Addr)(K:N10->Prop):Prop:=ld10 w (λi=>a.add i) K
def st10 (w:World)(b:Nat)(v:N10)(K:World->Prop):Prop:=
 stV w ⟨b,0,none⟩ (.int .i64 v.a0) λw=>
 stV w ⟨b,1,none⟩ (.string v.a1) λw=>
 stV w ⟨b,2,none⟩ (.string v.a2) λw=>
 stV w ⟨b,3,none⟩ (.int .i64 v.a3) λw=>
 stV w ⟨b,4,none⟩ (.string v.a4) λw=>
 stV w ⟨b,5,none⟩ (.bool v.a5) λw=>
 stV w ⟨b,6,none⟩ (.slice v.q6 v.n6 v.c6) λw=>
 stV w ⟨b,7,none⟩ (.slice v.q7 v.n7 v.c7) λw=>
 stV w ⟨b,8,none⟩ (.int .i64 v.a8) λw=>
 stV w ⟨b,9,none⟩ (.int .i64 v.a9) λw=>
 K w
def Ha (e:Ending)(K:N10->Prop):Prop:=
 ∃(a0:Int),∃(a1:ByteArray),∃(a2:ByteArray),∃(a3:Int),∃(a4:ByteArray),∃(a5:Bool),∃(q6:Option Addr),∃(n6:Nat),∃(c6:Nat),∃(q7:Option Addr),∃(n7:Nat),∃(c7:Nat),∃(a8:Int),∃(a9:Int),e= .returned (.agg #[.int .i64 a0,.string a1,.string a2,.int .i64 a3,.string a4,.bool a5,.slice q6 n6 c6,.slice q7 n7 c7,.int .i64 a8,.int .i64 a9])/\
 K ⟨a0,a1,a2,a3,a4,a5,q6,n6,c6,q7,n7,c7,a8,a9⟩
end Go.Proofs.YtendaipfdnhnaaaGreatDoor


namespace Go.Proofs.YtendaipfdnhnaaaGreatDoor
variable {P:Program}

structure Out where
 os:Os
 output:Array (Nat × ByteArray)
abbrev ai:=Nat × Obj
def cel (cs:List Value)(e:TypeId):Obj:= .cells cs.toArray e
structure Sat (σ:Out) (w:World) (L:List ai):Prop where
 os:w.os=σ.os
 out:w.output=σ.output
 nodup:(L.map Prod.fst).Nodup
 at_: ∀c∈L,w.heap[c.1]? =some c.2
variable {σ:Out} {w:World} {L L':List ai}

theorem Sat.lt (h:Sat σ w L){c:ai}(hc:c∈L):c.1<w.heap.size:=(Array.getElem?_eq_some_iff.1 (h.at_ c hc)).1
theorem Sat.perm (h:Sat σ w L)(g:L.Perm L'):Sat σ w L':=
 ⟨h.os,h.out,(g.map Prod.fst).nodup_iff.1 h.nodup,λc hc=>h.at_ c (g.mem_iff.2 hc)⟩
theorem Sat.sub (h:Sat σ w L)(g:L'.Sublist L):Sat σ w L':=
 ⟨h.os,h.out,h.nodup.sublist (g.map Prod.fst),λc hc=>h.at_ c (g.subset hc)⟩
theorem Sat.right {A:List ai}(h:Sat σ w (A++L)):Sat σ w L:=h.sub (List.sublist_append_right A L)
theorem Sat.tail {c:ai}(h:Sat σ w (c::L)):Sat σ w L:=h.sub (List.sublist_cons_self c L)
theorem Sat.tick (h:Sat σ w L):Sat σ (tick w) L:=⟨h.os,h.out,h.nodup,h.at_⟩
theorem Sat.drew (h:Sat σ w L):Sat σ w.drew L:=⟨h.os,h.out,h.nodup,h.at_⟩
theorem Sat.tk (h:Sat σ w L){K:World->Prop}(y: ∀g,Sat σ g L->K g):YtendaipfdnhnaaaGreatDoor.tk w K:=y _ h.tick
theorem nN {b i:Nat}{cs:Array Value}{e:TypeId}{g:Nat × Nat}(h:w.heap[b]? =some (.cells cs e g)):w.cell? ⟨b,i,none⟩=cs[i]? :=by
 simp[World.cell?,h]
theorem Sat.ld (h:Sat σ w L){b i:Nat}{cs:List Value}{e:TypeId}{v:Value}(g:(b,cel cs e)∈L)(hv:cs[i]? =some v):w.cell? ⟨b,i,none⟩=some v:=by
 rw[nN (h.at_ _ g)];simpa using hv

theorem Sat.set (h:Sat σ w L){k b i:Nat}{cs:List Value}{e:TypeId}(v:Value)(E:L[k]? =some (b,cel cs e)):
 Sat σ (w.setCell ⟨b,i,none⟩ v) (L.set k (b,cel (cs.set i v) e)):=by
 have O:=(List.getElem?_eq_some_iff.1 E).1
 have I:=(List.getElem?_eq_some_iff.1 E).2
 have U:(L.set k (b,cel (cs.set i v) e)).map Prod.fst=L.map Prod.fst:=by
  rw[List.map_set]
  apply List.ext_getElem?
  intro j
  rw[List.getElem?_set]
  split
  ·rename_i g;subst g;simp[O,I]
  ·rfl
 refine⟨h.os,h.out,by rw[U];exact h.nodup,λc hc=>?_⟩
 obtain⟨j,g⟩:=List.mem_iff_getElem?.1 hc
 rw[List.getElem?_set] at g
 have hb:=h.at_ _ (List.mem_of_getElem? E)
 have b5:=(Array.getElem?_eq_some_iff.1 hb).1
 split at g
 ·rename_i y
  subst y
  simp only[Option.some.injEq] at g
  subst g
  simp only[World.setCell,Array.getElem?_modify,hb,if_true,Option.map_some]
  simp[cel]
 ·rename_i y
  have b3:=List.mem_of_getElem? g
  have a6:b≠c.1:=by
   intro a7
   have W:=(List.getElem?_eq_some_iff.1 g).1
   have V:=(List.getElem?_eq_some_iff.1 g).2
   have b4:(L.map Prod.fst)[k]'(by simpa using O)=(L.map Prod.fst)[j]'(by simpa using W):=by simp[I,V,a7]
   exact y ((List.getElem_inj h.nodup).1 b4)
  simp only[World.setCell,Array.getElem?_modify]
  rw[if_neg a6]
  exact h.at_ _ b3
theorem Sat.not_frozen (h:Sat σ w L){b i:Nat}{cs:List Value}{e:TypeId}(g:(b,cel cs e)∈L):w.frozen? ⟨b,i,none⟩=false:=by
 have:=h.at_ _ g
 simp only[cel] at this
 simp[World.frozen?,this]
theorem Sat.st (h:Sat σ w L){k b i:Nat}{cs:List Value}{e:TypeId}{v:Value}{K:World->Prop}(g:L[k]? =some (b,cel cs e))(hi:i<cs.length)(O:nU v)(E:L.set k (b,cel (cs.set i v) e)=L')(I: ∀y,Sat σ y L'->K y):stV w ⟨b,i,none⟩ v K:=
 ⟨O,⟨_,h.ld (List.mem_of_getElem? g) (List.getElem?_eq_getElem hi)⟩,h.not_frozen (List.mem_of_getElem? g),I _ (by rw[<-E];exact h.set v g)⟩

theorem Sat.ldA (h:Sat σ w L){b i:Nat}{cs:List Value}{e:TypeId}{v:Value}(g:(b,cel cs e)∈L:=by first|assumption|(repeat (first|exact .head _|apply List.Mem.tail)))(hv:cs[i]? =some v:=by exact rfl):w.cell? ⟨b,i,none⟩=some v:=h.ld g hv
theorem Sat.stA (h:Sat σ w L)(k:Nat){b i:Nat}{cs:List Value}{e:TypeId}{v:Value}{K:World->Prop}(I: ∀g,Sat σ g L'->K g)(E:L[k]? =some (b,cel cs e):=by exact rfl)(hi:i<cs.length:=by exact Nat.le_of_ble_eq_true rfl)(O:nU v:=by exact trivial)(y:L.set k (b,cel (cs.set i v) e)=L':=by first|(dsimp only[List.set];exact rfl)|exact rfl):stV w ⟨b,i,none⟩ v K:=h.st E hi O y I

theorem Sat.alc (h:Sat σ w L)(cs:List Value)(e:TypeId):Sat σ (alc w cs.toArray e) ((w.heap.size,cel cs e)::L):=by
 refine⟨h.os,h.out,?_,?_⟩
 ·simp only[List.map_cons,List.nodup_cons]
  refine⟨λg=>?_,h.nodup⟩
  obtain⟨c,hc,y⟩:=List.mem_map.1 g
  exact Nat.lt_irrefl _ (y▸h.lt hc)
 ·intro c hc
  cases hc with
  |head=>exact(Array.getElem?_push_size ..).trans rfl
  |tail _ hc=>
   have:=h.lt hc
   simp only[YtendaipfdnhnaaaGreatDoor.alc]
   rw[Array.getElem?_push_lt this,<-Array.getElem?_eq_getElem this]
   exact h.at_ _ hc
theorem Sat.bx (h:Sat σ w L){cs:List Value}{e:TypeId}{K:Nat->World->Prop}(y: ∀b g,Sat σ g ((b,cel cs e)::L)->K b g):box w cs.toArray e K:=by
 intro b hb
 subst hb
 exact y _ _ (h.alc cs e)

theorem ag {c:Bool}{A B:Prop}(hc:c=true)(h:A):br c A B:=by subst hc;exact h
theorem af {c:Bool}{A B:Prop}(hc:c=false)(h:B):br c A B:=by subst hc;exact h
theorem bp {c:Bool}{A B:Prop}(y:c=true->A)(g:c=false->B):br c A B:=by
 cases c with
 |true=>exact y rfl
 |false=>exact g rfl
theorem aa {a:Addr}{K:Addr->Prop}(h:K a):aA (some a) K:=h

def bs (l:List UInt8):ByteArray:=⟨l.toArray⟩
@[simp] theorem aJ (l:List UInt8):(bs l).size=l.length:=by simp[bs,ByteArray.size]
@[simp] theorem bs_data (l:List UInt8):(bs l).data=l.toArray:=rfl
theorem bM (a b:List UInt8):bs a++bs b=bs (a++b):=by
 apply ByteArray.ext
 simp[bs]
theorem cj (l:List UInt8)(i j:Nat):(bs l).extract i j=bs ((l.take j).drop i):=by
 apply ByteArray.ext
 simp[bs,ByteArray.data_extract,List.extract_eq_take_drop,List.drop_take]
theorem pj (l:List UInt8)(i:Nat):bt (bs l) (i:Int)=((l.getD i 0).toNat:Int):=by
 simp[bt,bs,Array.getD_eq_getD_getElem?,List.getD_eq_getElem?_getD]
theorem Dm (l:List UInt8): ∀(k i:Nat) (r:List UInt8),l.length - i=k->ByteArray.toList.loop (bs l) i r=r.reverse++l.drop i
 |0,i,r,h=>by
  unfold ByteArray.toList.loop
  rw[if_neg (by rw[aJ];omega),List.drop_eq_nil_of_le (by omega),List.append_nil]
 |k+1,i,r,h=>by
  have hi:i<l.length:=by omega
  unfold ByteArray.toList.loop
  rw[if_pos (by rw[aJ];exact hi),Dm l k (i+1) _ (by omega),List.drop_eq_getElem_cons hi]
  have g:(bs l).get! i=l[i]:=by
   show (l.toArray)[i]! =l[i]
   simp[hi]
  rw[g]
  simp
theorem cJ (l:List UInt8):(bs l).toList=l:=by
 unfold ByteArray.toList
 rw[Dm l _ 0 [] rfl]
 simp

end Go.Proofs.YtendaipfdnhnaaaGreatDoor

namespace Go.Proofs.YtendaipfdnhnaaaGreatDoor
abbrev kT(q:Option Addr):Value:=.pointer q
abbrev kE(b:Nat):Option Addr:=some ⟨b,0,none⟩
abbrev hZ(b i:Nat):Addr:=⟨b,i,none⟩
abbrev hY(n:Int):Value:=.int .i64 n
abbrev hX(s:ByteArray):Value:=.string s
abbrev hV(b:Bool):Value:=.bool b
abbrev hT(q:Option Addr)(n c:Nat):Value:=.slice q n c
abbrev hQ(v:Value):Ending:=.returned v
abbrev lA0:=@List.length_append
abbrev lB0:=@List.mem_append_right
abbrev lC0:=@Int.toNat_natCast
abbrev lD0:=@List.append_assoc
abbrev lE0:=@List.length_singleton
abbrev lF0:=@List.length_cons
abbrev lG0:=@List.append_nil
abbrev lH0:=@List.getElem?_append_right
abbrev lI0:=@List.getElem?_eq_getElem
abbrev lJ0:=@Result.andThen_ok
abbrev lK0:=@Addr.add_lit
abbrev lL0:=@List.getElem?_eq_some_iff
abbrev lM0:=@List.getElem?_append_left
abbrev lN0:=@List.mem_singleton
abbrev lO0:=@Nat.zero_add
abbrev lP0:=@List.mem_append
abbrev lQ0:=@List.getD_eq_getElem?_getD
abbrev lR0:=@List.cons_append
abbrev lS0:=@List.length_map
abbrev lT0:=@List.nil_append
abbrev lU0:=@List.cons.injEq
abbrev lV0:=@List.map_append
abbrev lW0:=@List.mem_cons
abbrev lX0:=@Sem.run_bind
abbrev lY0:=@List.length_pos_iff
abbrev lZ0:=@List.exists_cons_of_ne_nil
abbrev lA1:=@Nat.le_refl
abbrev lB1:=@List.eq_nil_of_length_eq_zero
abbrev lC1:=@Nat.mul_one
abbrev lD1:=@List.mem_append_left
abbrev lE1:=@List.length_take
abbrev lF1:=@List.not_mem_nil
abbrev lG1:=@Option.some.injEq
abbrev lH1:=@List.take_succ_eq_append_getElem
abbrev lI1:=@List.drop_eq_getElem_cons
abbrev lJ1:=@Nat.eq_of_beq_eq_true
abbrev lK1:=@List.length_nil
abbrev lL1:=@Bool.and_eq_true
abbrev lM1:=@List.length_drop
abbrev lN1:=@Nat.add_zero
abbrev lO1:=@List.map_cons
abbrev lP1:=@List.set_append_right
abbrev lQ1:=@List.getElem_mem
abbrev lR1:=@List.mem_cons_of_mem
abbrev lS1:=@List.mem_of_getElem?
abbrev lT1:=@List.getElem?_eq_none
abbrev lU1:=@List.mem_map
abbrev lV1:=@List.foldl_cons
abbrev lW1:=@Nat.sub_self
abbrev lX1:=@List.eq_nil_or_concat
abbrev lY1:=@List.take_append_drop
abbrev lZ1:=@List.mem_cons_self
abbrev lA2:=@List.replicate_succ
abbrev lB2:=@Nat.zero_le
abbrev lC2:=@List.take_of_length_le
abbrev lD2:=@List.all_eq_true
abbrev lE2:=@List.drop_eq_nil_of_le
abbrev lF2:=@List.getElem?_map
abbrev lG2:=@List.concat_eq_append
abbrev lH2:=@List.length_replicate
abbrev lI2:=@List.dropWhile_cons_of_neg
abbrev lJ2:=@Nat.mul_le_mul_right
abbrev lK2:=@Bool.or_eq_false_iff
abbrev lL2:=@List.getElem_append_right
abbrev lM2:=@List.drop_zero
abbrev lN2:=@List.foldl_append
abbrev lO2:=@List.dropWhile_sublist
abbrev lP2:=@Array.getElem?_eq_getElem
abbrev lQ2:=@Array.getElem?_toList
abbrev lR2:=@List.singleton_append
abbrev lS2:=@List.mem_flatMap
abbrev lT2:=@List.getLast?_cons_cons
abbrev lU2:=@Array.getD_eq_getD_getElem?
abbrev lV2:=@List.mem_range
abbrev lW2:=@List.take_length
abbrev lX2:=@List.drop_append_of_le_length
abbrev lY2:=@List.getElem?_cons_succ
abbrev lZ2:=@List.mem_zipIdx_iff_getElem?
abbrev lA3:=@List.dropWhile_cons
abbrev lB3:=@List.takeWhile_cons
abbrev lC3:=@Nat.add_assoc
abbrev lD3:=@Bool.false_eq_true
abbrev lE3:=@Nat.add_sub_cancel
abbrev lF3:=@Nat.add_right_comm
abbrev lG3:=@Nat.le_of_ble_eq_true
abbrev lH3:=@List.sublist_append_right
abbrev lI3:=@Option.map_some
abbrev lJ3:=@List.flatMap_cons
abbrev lK3:=@List.flatten_cons
abbrev lL3:=@List.all_cons
abbrev lM3:=@List.getElem?_take_of_lt
abbrev lN3:=@List.append_eq
abbrev lO3:=@Nat.zero_lt_succ
abbrev lP3:=@List.length_tail
abbrev lQ3:=@Nat.add_mul
abbrev lR3:=@List.take_append_of_le_length
abbrev lS3:=@List.sublist_cons_self
abbrev lT3:=@List.append_of_mem
abbrev lU3:=@Nat.succ_mul
abbrev lV3:=@List.mem_replicate
abbrev lW3:=@List.nodup_cons
abbrev lX3:=@List.dropLast_concat_getLast
abbrev lY3:=@Bool.and_eq_false_iff
abbrev lZ3:=@UInt8.ofNat_toNat
abbrev lA4:=@Array.getElem?_eq_some_iff
abbrev lB4:=@List.dropWhile_cons_of_pos
abbrev lC4:=@List.drop_left
abbrev lD4:=@Array.toArray_toList
abbrev lE4:=@List.getLast?_append
abbrev lF4:=@List.append_inj'
abbrev lG4:=@Nat.add_comm
abbrev lH4:=@Array.mapM_eq_mapM_toList
abbrev lI4:=@Array.getElem?_push_size
abbrev lJ4:=@Bool.eq_false_or_eq_true
abbrev lK4:=@Nat.eq_zero_or_pos
abbrev lL4:=@List.getElem?_drop
abbrev lM4:=@List.set_eq_take_append_cons_drop
abbrev lN4:=@Nat.lt_or_ge
abbrev lO4:=@Array.getElem?_eq_none
abbrev lP4:=@Array.getElem?_push_lt
abbrev lQ4:=@List.take_left
abbrev lR4:=@List.reverse_cons
abbrev lS4:=@Array.getElem?_setIfInBounds_ne
abbrev lT4:=@Array.getElem?_modify
abbrev lU4:=@List.dropWhile_suffix
abbrev lV4:=@List.set_append_left
abbrev lW4:=@List.mem_of_mem_drop
abbrev lX4:=@List.mem_of_mem_take
abbrev lY4:=@List.replicate_succ'
abbrev lZ4:=@Bool.eq_iff_iff
abbrev lA5:=@List.length_set
abbrev lB5:=@List.drop_left'
abbrev lC5:=@List.take_left'
abbrev lD5:=@List.all_append
abbrev lE5:=@List.reverse_append
abbrev lF5:=@List.mem_map_of_mem
abbrev lG5:=@List.take_succ_cons
abbrev lH5:=@List.flatMap_append
abbrev lI5:=@List.getD_cons_succ
abbrev lJ5:=@Array.getElem?_append_left
abbrev lK5:=@List.drop_drop
abbrev lL5:=@Nat.mul_le_mul
abbrev lM5:=@List.getElem?_set
abbrev lN5:=@Bool.not_eq_true'
abbrev lO5:=@Array.getElem?_replicate
abbrev lP5:=@Bool.true_and
abbrev lQ5:=@List.getElem_append_left
abbrev lR5:=@List.perm_middle
abbrev lS5:=@List.getElem?_cons_zero
abbrev lT5:=@List.reverse_nil
abbrev lU5:=@Bool.not_eq_true
abbrev lV5:=@List.drop_append
abbrev lW5:=@List.mem_nil_iff
abbrev lX5:=@Option.bind_eq_some_iff
abbrev lY5:=@Nat.add_sub_cancel_left
abbrev lZ5:=@List.getElem?_replicate
abbrev lA6:=@List.length_eq_zero_iff
abbrev lB6:=@Nat.blt_eq
abbrev lC6:=@List.head?_eq_getElem?
abbrev lD6:=@List.takeWhile_sublist
abbrev lE6:=@List.getElem_cons_succ
abbrev lF6:=@List.drop_of_length_le
abbrev lG6:=@Nat.min_eq_left
abbrev lH6:=@List.mem_iff_getElem?
abbrev lI6:=@UInt8.lt_iff_toNat_lt
abbrev lJ6:=@List.mapM_cons
abbrev lK6:=@List.reverse_reverse
abbrev lL6:=@List.pairwise_append
abbrev lM6:=@List.mem_iff_getElem
abbrev lN6:=@Nat.lt_irrefl
abbrev lO6:=@Nat.zero_mul
abbrev lP6:=@Nat.mul_comm
end Go.Proofs.YtendaipfdnhnaaaGreatDoor

namespace Go.Proofs.YtendaipfdnhnaaaGreatDoor
open Go.Proofs Go.IntWalk
variable {P:Program} {σ:Out} {w:World} {L L':List ai} {R:Ending->World->Prop}

theorem aN {n:Nat}(g:n<4611686018427387904):i64.wrap ((n:Int)+1)=((n+1:Nat):Int):=by
 rw[i64_in _ (by omega)];omega
theorem il {n:Nat}(g:n<4611686018427387904)(h0:0<n):i64.wrap ((n:Int) - 1)=((n - 1:Nat):Int):=by
 rw[i64_in _ (by omega)];omega
theorem pY {l:List UInt8}{i:Nat}(hi:i<l.length):bt (bs l) (i:Int)=(l[i].toNat:Int):=by
 rw[pj,lQ0,lI0 hi];rfl
theorem mW (c d:UInt8):(((c.toNat:Nat):Int)==(d.toNat:Int))=(c==d):=by
 rw[lZ4]
 simp only[beq_iff_eq,Int.ofNat_inj]
 exact⟨λh=>UInt8.toNat.inj h,λh=>by rw[h]⟩
theorem dh {l:List UInt8}{i:Nat}(hi:i<l.length)(d:UInt8)(n:Int)(hd:(d.toNat:Int)=n):(bt (bs l) (i:Int)==n)=(l[i]==d):=by
 subst hd
 rw[pY hi,mW]

theorem D0 {l:List UInt8}{p:UInt8->Bool}{X:Nat->Prop}(step: ∀i (h:i<l.length),p l[i]=true->X (i+1)->X i):
 ∀g,g<=l.length->(∀i,i<=l.length->(∀h:i<l.length,p l[i]=false)->l.drop i=(l.drop g).dropWhile p->X i)->X g:=by
 intro g
 generalize W:l.length - g=n
 induction n generalizing g with
 |zero=>
  intro hi y
  exact y g hi (λh=>by omega) (by rw[lE2 (by omega)];rfl)
 |succ n O=>
  intro hi y
  have I:g<l.length:=by omega
  have hd:=lI1 I
  cases E:p l[g] with
  |true=>
   refine step g I E (O (g+1) (by omega) (by omega) λi hi U V=>y i hi U ?_)
   rw[V,hd,lB4 E]
  |false=>exact y g hi (λ_=>E) (by rw[hd,lI2 (by simp[E])])
theorem G8 {l:List UInt8}{p:UInt8->Bool}{X:Nat->Prop}(step: ∀i (h:i<l.length),p l[i]=true->X i->X (i+1)):
 ∀g,g<=l.length->(∀j,j<=l.length->(∀i (h:i<l.length),j=i+1->p l[i]=false)->l.take j=((l.take g).reverse.dropWhile p).reverse->X j)->X g:=by
 intro g
 induction g with
 |zero=>exact λh y=>y 0 h (λi hi h=>by omega) (by simp)
 |succ j O=>
  intro W y
  have I:j<l.length:=by omega
  have ht:(l.take (j+1)).reverse=l[j]::(l.take j).reverse:=by rw[lH1 I];simp
  cases E:p l[j] with
  |true=>
   refine step j I E (O (by omega) λi hi U V=>y i hi U ?_)
   rw[V,ht,lB4 E]
  |false=>
   refine y (j+1) W (λi hi h=>by
    obtain rfl:i=j:=by omega
    exact E) ?_
   rw[ht,lI2 (by simp[E])]
   rw[<-ht,lK6]

theorem gx (a:Array UInt8):(hP a).toList=a.toList:=cJ a.toList
theorem nP (l:List UInt8)(i:Nat):(bs l).extract i l.length=bs (l.drop i):=by rw[cj,lW2]
theorem Sat.up1 {a b:ai}(h:Sat σ w (a::b::L)):Sat σ w (b::a::L):=h.perm (List.Perm.swap ..)
open Classical in
noncomputable def one (a c:ai):Nat:=if c=a then 1 else 0
noncomputable def cnt (a:ai):List ai->Nat
 | []=>0
 |c::L=>one a c+cnt a L
theorem mF (a:ai):cnt a []=0:=rfl
theorem eW (a c:ai)(L:List ai):cnt a (c::L)=one a c+cnt a L:=rfl
theorem dH (a:ai): ∀(L M:List ai),cnt a (L++M)=cnt a L+cnt a M
 | [],M=>by rw[lT0,mF,lO0]
 |c::L,M=>by rw[lR0,eW,eW,dH a L M,lC3]
theorem Dc {a:ai}: ∀ {L:List ai},0<cnt a L->a∈L
 | [],h=>by simp[cnt] at h
 |c::L,h=>by
  by_cases hc:c=a
  ·rw[hc];exact lZ1 ..
  ·rw[eW] at h
   simp only[one,if_neg hc,lO0] at h
   exact lR1 _ (Dc h)
theorem sF: ∀ {L M:List ai},(∀a,cnt a L=cnt a M)->L.Perm M
 | [],M,h=>by
  cases M with
  |nil=>exact .nil
  |cons c M=>have:=h c;simp[cnt,one] at this;omega
 |c::L,M,h=>by
  have hc:c∈M:=Dc (by rw[<-h c,eW];simp[one];omega)
  obtain⟨A,B,rfl⟩:=lT3 hc
  refine(List.Perm.cons c (sF (M:=A++B) λa=>?_)).trans lR5.symm
  have:=h a
  simp only[dH,eW] at this⊢
  omega
theorem Sat.re (h:Sat σ w L)(g: ∀a,cnt a L=cnt a L':=by intro _;simp only[lN3,dH,eW,mF]<;>omega):Sat σ w L':=h.perm (sF g)
theorem Sat.less {L L':List ai}(X:List ai)(h:Sat σ w L)(g: ∀a,cnt a L=cnt a X+cnt a L':=by intro _;simp only[lN3,dH,eW,mF]<;>omega):Sat σ w L':=
 Sat.right (A:=X) (h.re λa=>by rw[dH];exact g a)

def cO (c:UInt8):Bool:=c==32||c==9
def wl (p:UInt8->Bool)(l:List UInt8):List UInt8:=(l.reverse.dropWhile p).reverse
def gw (p:UInt8->Bool)(l:List UInt8):List UInt8:=wl p (l.dropWhile p)

end Go.Proofs.YtendaipfdnhnaaaGreatDoor


namespace Go.Proofs.YtendaipfdnhnaaaGreatDoor
open Go.Proofs Go.IntWalk Go.RowKit
set_option maxRecDepth 20000
variable {σ:Out} {w:World} {L L':List ai} {R:Ending->World->Prop}
def yG (g:World):Out:=⟨g.os,g.output⟩
def fZ (g:World):List ai:=g.heap.toList.zipIdx.map λx=>(x.2,x.1)
theorem D4 (g:World):Sat (yG g) g (fZ g):=by
 refine⟨rfl,rfl,?_,?_⟩
 ·have:(fZ g).map Prod.fst=g.heap.toList.zipIdx.map Prod.snd:=by simp[fZ,Function.comp_def]
  rw[this,List.zipIdx_map_snd]
  exact List.nodup_range'
 ·intro c hc
  obtain⟨x,y,rfl⟩:=lU1.1 hc
  have:=lZ2.1 y
  simpa using this
theorem yQ {g y:World}(h:Sat (yG g) y (fZ g))(E:MemPlace->Prop):g.keptBut y E:=by
 refine⟨h.os,h.out,λi hi=>?_⟩
 have I:(i,g.heap[i])∈fZ g:=lU1.2 ⟨(g.heap[i],i),lZ2.2 (by simp[hi]),rfl⟩
 have:=h.at_ _ I
 rw[this,lP2 hi]
 cases g.heap[i]<;>first|exact⟨rfl,rfl,rfl,λ_ _=>rfl⟩|exact .inr ⟨rfl,rfl⟩|rfl
theorem Dj {P:Program}{f:FuncId}{g:Array Value}{R:Ending->World->Prop}{w:World}(hc: ∀g w,(callFunc f g).run P w= .ok (.enter f g) w)(h:callE P f g R w):Calls P f g w R:=by
 rcases h with ⟨_,h⟩|⟨v,y,h,_⟩
 ·exact h
 ·rw[hc] at h;cases h
end Go.Proofs.YtendaipfdnhnaaaGreatDoor

namespace Go.Proofs.YtendaipfdnhnaaaGreatDoor
open Go.Proofs
noncomputable abbrev P:Program:=Tryz.prog
abbrev WP:=World->Prop
abbrev EP:=Ending->WP
abbrev OA:=Option Addr
abbrev BA:=ByteArray
abbrev ty_:Nat:=0
abbrev ba:Nat:=3
abbrev dz:Nat:=5
abbrev aq:Nat:=9
abbrev bK:Nat:=22
abbrev cz:Nat:=24
abbrev au:Nat:=25
abbrev ae:Nat:=27
abbrev cq:Nat:=32
abbrev aj:Nat:=35
abbrev fp:Nat:=38
abbrev al:Nat:=43
abbrev mY:Nat:=57
abbrev df:Nat:=62
abbrev aO:Nat:=75
abbrev aF:Nat:=77
abbrev f9:Nat:=80
abbrev g9:Nat:=81
abbrev oT:Nat:=83
abbrev lP:Nat:=84
abbrev ap:Nat:=85
abbrev uU:Nat:=87
abbrev ki:Nat:=94
abbrev zu:Nat:=96
abbrev dn:Nat:=97
abbrev uT:Nat:=99
abbrev fU:Nat:=100
abbrev m9:Nat:=103
abbrev gv:Nat:=104
abbrev dW:Nat:=105
abbrev qn:Nat:=107
abbrev BC:Nat:=110
abbrev bD:Nat:=111
abbrev m7:Nat:=113
abbrev cL:Nat:=114
abbrev na:Nat:=116
abbrev tJ:Nat:=118
abbrev cW:Nat:=121
abbrev GL:Nat:=123
abbrev kr:Nat:=125
abbrev GM:Nat:=130
abbrev wk:Nat:=132
abbrev aC:Nat:=154
abbrev cT:Nat:=156
abbrev cn:Nat:=158
abbrev jY:Nat:=165
abbrev f8:Nat:=166
abbrev FN:Nat:=167
abbrev gO:Nat:=172
abbrev iB:Nat:=175
abbrev eY:Nat:=177
abbrev aW:Nat:=180
abbrev bI:Nat:=200
abbrev nW:Nat:=203
abbrev kU:Nat:=204
abbrev An:Nat:=206
abbrev jN:Nat:=207
abbrev lB:Nat:=208
abbrev pu:Nat:=209
abbrev BF:Nat:=210
abbrev je:Nat:=211
abbrev jr:Nat:=213
abbrev fB:Nat:=214
abbrev uS:Nat:=216
abbrev lQ:Nat:=218
abbrev md:Nat:=220
abbrev m8:Nat:=223
abbrev sr:Nat:=225
abbrev Am:Nat:=228
abbrev qm:Nat:=231
abbrev ah:Nat:=232
abbrev bO:Nat:=234
abbrev ay:Nat:=236
abbrev bF:Nat:=239
abbrev cS:Nat:=241
abbrev aX:Nat:=244
abbrev aQ:Nat:=246
abbrev qY:Nat:=249
abbrev jq:Nat:=262
abbrev ar:Nat:=265
abbrev ft:Nat:=267
abbrev aL:Nat:=269
abbrev sk:Nat:=274
abbrev Fb:Nat:=279
abbrev aT:Nat:=287
abbrev kS:Nat:=289
abbrev wj:Nat:=290
abbrev cK:Nat:=302
abbrev jf:Nat:=303
abbrev gP:Nat:=313
abbrev mX:Nat:=314
abbrev az:Nat:=323
abbrev bv:Nat:=325
abbrev mZ:Nat:=326
abbrev f7:Nat:=328
abbrev gQ:Nat:=332
abbrev m0:Nat:=334
abbrev BE:Nat:=336
abbrev DV:Nat:=338
abbrev jM:Nat:=349
abbrev iw:Nat:=359
abbrev Bi:Nat:=360
abbrev DG:Nat:=362
abbrev ty_Empty:Nat:=434
abbrev mc:Nat:=436
abbrev pO:Nat:=3
abbrev qE:Nat:=10
abbrev o7:Nat:=11
abbrev kJ:Nat:=12
abbrev mu:Nat:=13
abbrev nA:Nat:=14
abbrev ny:Nat:=15
abbrev lu:Nat:=16
abbrev oh:Nat:=24
abbrev jm:Nat:=26
abbrev dX:Nat:=29
abbrev Fo:Nat:=30
abbrev eF:Nat:=31
abbrev bR:Nat:=32
abbrev mv:Nat:=33
abbrev oS:Nat:=34
abbrev jW:Nat:=37
abbrev aS:Nat:=41
abbrev fm:Nat:=42
abbrev gW:Nat:=44
abbrev mw:Nat:=45
abbrev dj:Nat:=46
abbrev tT:Nat:=47
abbrev xu:Nat:=49
abbrev dy:Nat:=50
abbrev nz:Nat:=51
abbrev CO:Nat:=52
abbrev GU:Nat:=53
abbrev rX:Nat:=54
abbrev lI:Nat:=55
abbrev eH:Nat:=64
abbrev cG:Nat:=65
abbrev iR:Nat:=66
abbrev dG:Nat:=67
abbrev iQ:Nat:=68
abbrev fh:Nat:=69
abbrev kI:Nat:=70
abbrev ez:Nat:=72
abbrev bw:Nat:=73
abbrev bT:Nat:=74
abbrev dt:Nat:=75
abbrev jb:Nat:=76
abbrev lH:Nat:=77
abbrev bQ:Nat:=78
abbrev lV:Nat:=79
abbrev ie:Nat:=80
abbrev bj:Nat:=81
abbrev fF:Nat:=82
abbrev xp:Nat:=83
abbrev gc:Nat:=89
abbrev kK:Nat:=90
abbrev d5:Nat:=91
abbrev pL:Nat:=92
abbrev oa:Nat:=93
abbrev oR:Nat:=94
abbrev oF:Nat:=95
abbrev lW:Nat:=96
abbrev nv:Nat:=97
abbrev pp:Nat:=98
abbrev l0:Nat:=100
abbrev xv:Nat:=102
abbrev cF:Nat:=103
abbrev cr:Nat:=104
abbrev CL:Nat:=105
abbrev pN:Nat:=106
abbrev aI:Nat:=107
abbrev iA:Nat:=108
abbrev ji:Nat:=109
abbrev dP:Nat:=110
abbrev bJ:Nat:=111
abbrev jV:Nat:=112
abbrev gA:Nat:=113
abbrev mK:Nat:=114
abbrev dR:Nat:=115
abbrev uz:Nat:=116
abbrev sZ:Nat:=117
abbrev jU:Nat:=118
abbrev lY:Nat:=119
abbrev ru:Nat:=120
abbrev du:Nat:=121
abbrev gS:Nat:=122
abbrev eG:Nat:=123
abbrev nx:Nat:=124
abbrev fw:Nat:=125
abbrev fE:Nat:=126
abbrev dU:Nat:=127
abbrev kF:Nat:=138
abbrev fJ:Nat:=139
abbrev gq:Nat:=140
abbrev km:Nat:=141
abbrev fx:Nat:=142
abbrev bZ:Nat:=143
abbrev qD:Nat:=144
abbrev cm:Nat:=145
abbrev lZ:Nat:=146
abbrev ko:Nat:=147
abbrev pM:Nat:=148
abbrev eE:Nat:=149
abbrev gi:Nat:=150
abbrev xo:Nat:=151
abbrev tS:Nat:=152
abbrev ya:Nat:=153
abbrev lr:Nat:=154
abbrev l6:Nat:=155
abbrev yU:Nat:=156
abbrev cU:Nat:=160
abbrev dC:Nat:=161
abbrev dJ:Nat:=162
abbrev eP:Nat:=163
abbrev lw:Nat:=165
abbrev nB:Nat:=169
abbrev kG:Nat:=171
abbrev kH:Nat:=172
abbrev Bp:Nat:=173
abbrev mJ:Nat:=174
abbrev Bq:Nat:=175
abbrev iK:Nat:=176
abbrev fH:Nat:=177
abbrev iJ:Nat:=178
abbrev fG:Nat:=179
abbrev mt:Nat:=180
abbrev tH:Nat:=181
abbrev mr:Nat:=184
abbrev jk:Nat:=185
abbrev gV:Nat:=186
abbrev fD:Nat:=187
abbrev mq:Nat:=188
abbrev Gs:Nat:=189
abbrev CM:Nat:=190
abbrev dO:Nat:=191
abbrev fk:Nat:=192
abbrev gr:Nat:=193
abbrev fy:Nat:=194
abbrev lX:Nat:=195
abbrev jh:Nat:=196
abbrev CN:Nat:=197
abbrev jA:Nat:=198
abbrev bN:Nat:=199
abbrev gh:Nat:=200
abbrev fW:Nat:=201
abbrev qF:Nat:=202
abbrev bl:Nat:=203
abbrev zV:Nat:=212
abbrev xr:Nat:=213
abbrev ux:Nat:=218
abbrev oE:Nat:=219
abbrev i_zzZs:Nat:=220
abbrev Hp:Nat:=221
abbrev eL:Nat:=223
abbrev nw:Nat:=228
abbrev gC:Nat:=229
abbrev xm:Nat:=230
abbrev fj:Nat:=231
abbrev fi:Nat:=232
abbrev ga:Nat:=233
abbrev fI:Nat:=239
abbrev iP:Nat:=241
abbrev iD:Nat:=242
abbrev og:Nat:=243
abbrev eu:Nat:=244
abbrev uy:Nat:=245
abbrev GV:Nat:=246
abbrev Gr:Nat:=247
abbrev jB:Nat:=248
abbrev jp:Nat:=257
abbrev dx:Nat:=263
abbrev d6:Nat:=270
abbrev cA:Nat:=305
abbrev iL:Nat:=368
abbrev iM:Nat:=420
abbrev jZ:Nat:=421
abbrev iN:Nat:=422
abbrev ig:Nat:=423
abbrev yb:Nat:=424
abbrev gU:Nat:=425
abbrev ia:Nat:=434
abbrev gz:Nat:=435
abbrev iO:Nat:=436
abbrev ij:Nat:=437
abbrev iS:Nat:=438
abbrev fo:Nat:=439
abbrev ik:Nat:=440
abbrev gF:Nat:=441
end Go.Proofs.YtendaipfdnhnaaaGreatDoor


namespace Go.Proofs.YtendaipfdnhnaaaGreatDoor
open Go.Proofs Go.IntWalk Go.RowKit
set_option maxRecDepth 20000
variable {σ:Out} {w:World} {L L':List ai} {R:Ending->World->Prop}
def mB (R:EP)(e7:OA)(O e5:Nat)(w:World):Prop:=
 br (decide ((O:Int)>2147483647))
 (R (hQ (hV true)) w)
 (callE P qE #[hT e7 O e5] (λe e9=> ∃e8,e= hQ (hV e8)/\
 br (!e8)
 (R (hQ (hV true)) e9)
 (callE P o7 #[hT e7 O e5] (λe g1=> ∃e3 b6,∃c2 b7,∃b8 c4,∃c3 b3,∃a6 U,∃a7 W,∃b4 c1 b9,e= hQ (.tuple #[hX e3,(N10.V {a0:=b6,a1:=c2,a2:=b7,a3:=b8,a4:=c4,a5:=c3,q6:=b3,n6:=a6,c6:=U,q7:=a7,n7:=W,c7:=b4,a8:=c1,a9:=b9})])/\
 box g1 (N10.C {}) ae λg g0=>
 st10 g0 g {a0:=b6,a1:=c2,a2:=b7,a3:=b8,a4:=c4,a5:=c3,q6:=b3,n6:=a6,c6:=U,q7:=a7,n7:=W,c7:=b4,a8:=c1,a9:=b9} λf5=>
 tk f5 λy=>
 ldB10 y g λf1=>
 callE P ny #[] (λe I=> ∃e1 e0,∃d2 d0,∃e2 c9,∃c5 d1,∃d3 c8,e= hQ (.agg #[hV e1,hV e0,hV d2,hV d0,hV e2,hV c9,hV c5,hV d1,hV d3,hV c8])/\
 SameC y I (hZ g 0) 10/\
 callE P nA #[.agg #[hV e1,hV e0,hV d2,hV d0,hV e2,hV c9,hV c5,hV d1,hV d3,hV c8],hX e3] (λe E=>GQ e λf2=>
 SameC I E (hZ g 0) 10/\
 callE P mu #[f2.V] (λe e4=>Ha e λf4=>
 SameC E e4 (hZ g 0) 10/\
 callE P lu #[f1.V] (λe f0=>Ha e λf6=>
 callE P kJ #[f4.V,f6.V] (λe f3=> ∃e6,e= hQ (hV e6)/\
 R (hQ (hV e6)) f3) f0) e4) E) I) y) e9)) w)
theorem mB.sound {R x0q x0n x0c w}(h:mB R x0q x0n x0c w):callE P pO #[hT x0q x0n x0c] R w:=
 aG [(47,.dr (rpN [3,13,2,8,11,17,20,21]))] Tryz.func3 Tryz.call3 h
def om (R:EP)(y:OA)(g E:Nat)(w:World):Prop:=
 R (hQ (hV (decide ((g:Int)<=300)))) w
theorem om.sound {R x0q x0n x0c w}(h:om R x0q x0n x0c w):callE P qE #[hT x0q x0n x0c] R w:=
 cE Tryz.func10 Tryz.call10 h
def pf (R:EP)(b5:OA)(a7 b6:Nat)(w:World):Prop:=
 box w (N10.C {}) ae λb1 b9=>
 box b9 #[hT b5 a7 b6,hY 0,hY 0,hV true,hY 0] mY λc1 c2=>
 callE P dX #[kT (kE c1),hY 3,hY 4] (λe b7=> ∃U E,∃g y,∃I O,e= hQ (.tuple #[hT U E g,hT y I O])/\
 callE P jm #[hT U E g,hX (hP #[10])] (λe b8=> ∃a6,e= hQ (hX a6)/\
 st10 b8 b1 {a0:=1,q7:=y,n7:=I,c7:=O} λW=>
 ldB10 W b1 λb4=>
 R (hQ (.tuple #[hX a6,b4.V])) W) b7) c2
theorem pf.sound {R x0q x0n x0c w}(h:pf R x0q x0n x0c w):callE P o7 #[hT x0q x0n x0c] R w:=
 cE Tryz.func11 Tryz.call11 h
namespace aB
def k9 (R:EP)(Xa:OA->Int->Bool->Nat->Nat->Bool->OA->Nat->Nat->Int->Int->WP)(h3:OA)(g6:Int)(h2:Bool)(g7 W:Nat)(h1:Bool)(f4:OA)(E g1 O:Nat)(e6:OA)(y f1:Nat)(U:BA)(g5 g4:Int)(w:World):Prop:=
 stV w (hZ O 8) (hY (i64.wrap ((E:Int)+1))) λf2=>
 stV f2 (hZ O 9) (hY (i64.wrap ((E:Int)+(y:Int)))) λe4=>
 0<=(0:Int)/\0<(y:Int)/\
 aA e6 λg2=>
 ∃I,e4.cell? (g2.add (Int.toNat 0*1))=some (hX I)/\
 ((U.size+I.size:Nat):Int)<=i64.max/\
 ∃c8 b3,∃b4 e8,(Instr.buildSlice al 1 #[(0,hX (U++I))]).run P e4= .ok (hT c8 b3 b4) e8/\
 ∃e3 a7,∃d0 e9,(Builtin.append_ #[al,al] al #[hT f4 E g1,hT c8 b3 b4]).run P e8= .ok (hT e3 a7 d0) e9/\
 tk e9 λg3=>
 ∃c3 d2 c5,(∀w,(Instr.sliceAt al (hT e6 y f1) (some (hY 1)) none none).run P w= .ok (hT c3 d2 c5) w)/\
 callE P oh #[hY (U.size:Int)] (λe f6=> ∃e7,e= hQ (hX e7)/\
 callE P kK #[hX e7,hT c3 d2 c5] (λe f5=> ∃c4 b7 b8,e= hQ (hT c4 b7 b8)/\
 ∃b5 c1,∃b9 g,(Builtin.append_ #[al,al] al #[hT e3 a7 d0,hT c4 b7 b8]).run P f5= .ok (hT b5 c1 b9) g/\
 ∃b6 e2 d3,g.cell? (hZ W 7)=some (hT b6 e2 d3)/\
 ldB10 g O λf3=>
 ∃e0 e1,∃c2 f0,(Instr.buildSlice au 1 #[(0,f3.V)]).run P g= .ok (hT e0 e1 c2) f0/\
 ∃c9 a6,∃d1 e5,(Builtin.append_ #[au,au] au #[hT b6 e2 d3,hT e0 e1 c2]).run P f0= .ok (hT c9 a6 d1) e5/\
 stV e5 (hZ W 7) (hT c9 a6 d1) λg0=>
 Xa h3 g6 h2 g7 W h1 b5 c1 b9 g5 (i64.wrap (g4+1)) g0) f6) g3
def k8 (R:EP)(Xa:OA->Int->Bool->Nat->Nat->Bool->OA->Nat->Nat->Int->Int->WP)(c9:OA)(c3:Int)(c8:Bool)(c4 g:Nat)(c5:Bool)(b5:OA)(b4 b7 b8:Nat)(a7:OA)(b3 W:Nat)(c1:BA)(c2 b9:Int)(d1:Bool)(w:World):Prop:=
 br d1
 (∃O I,∃U a6,(Instr.buildSlice al 1 #[(0,hX (hP #[]))]).run P w= .ok (hT O I U) a6/\
 ∃E V,∃y b6,(Builtin.append_ #[al,al] al #[hT b5 b4 b7,hT O I U]).run P a6= .ok (hT E V y) b6/\
 stV b6 (hZ g 5) (hV true) λd0=>
 k9 R Xa c9 c3 c8 c4 g c5 E V y b8 a7 b3 W c1 c2 b9 d0)
 (k9 R Xa c9 c3 c8 c4 g c5 b5 b4 b7 b8 a7 b3 W c1 c2 b9 w)
def k7 (R:EP)(Xa:OA->Int->Bool->Nat->Nat->Bool->OA->Nat->Nat->Int->Int->WP)(b7:OA)(b8:Int)(b6:Bool)(b9 b5:Nat)(g:Bool)(U:OA)(V O:Nat)(a7:Int)(b3:Nat)(E:OA)(I y:Nat)(a6:BA)(b4 W:Int)(w:World):Prop:=
 k8 R Xa b7 b8 b6 b9 b5 g U V O b3 E I y a6 b4 W ((decide (a7>0)) && g) w
def k6 (R:EP)(Xa:OA->Int->Bool->Nat->Nat->Bool->OA->Nat->Nat->Int->Int->WP)(c3:OA)(b8:Int)(c2:Bool)(b9 y:Nat)(c1:Bool)(a6:OA)(W b4:Nat)(I:Int)(b5:Nat)(U:OA)(V O:Nat)(b7 b6:Int)(w:World):Prop:=
 ∃g,w.cell? (hZ y 4)=some (hX g)/\
 ((g.size+(hP #[32]).size:Nat):Int)<=i64.max/\
 ∃a7,w.cell? (hZ y 3)=some (hY a7)/\
 br (decide (a7 >= 0))
 (∃b3,w.cell? (hZ y 3)=some (hY b3)/\
 callE P gc #[hY (i64.wrap (b3+I))] (λe c4=> ∃E,e= hQ (hX E)/\
 ((E.size+(g++(hP #[32])).size:Nat):Int)<=i64.max/\
 k7 R Xa c3 b8 c2 b9 y c1 a6 W b4 I b5 U V O (E++(g++(hP #[32]))) b7 b6 c4) w)
 (k7 R Xa c3 b8 c2 b9 y c1 a6 W b4 I b5 U V O (g++(hP #[32])) b7 b6 w)
def k5 (R:EP)(Xa:OA->Int->Bool->Nat->Nat->Bool->OA->Nat->Nat->Int->Int->WP)(c1:OA)(b6:Int)(b9:Bool)(b7 g:Nat)(b8:Bool)(W:OA)(V a7:Nat)(b3:Int)(y:Nat)(O:OA)(U I:Nat)(b5 b4:Int)(w:World):Prop:=
 ∃a6,w.cell? (hZ g 5)=some (hV a6)/\
 br a6
 (stV w (hZ g 5) (hV true) λc5=>
 k6 R Xa c1 b6 b9 b7 g b8 W V a7 b3 y O U I b5 b4 c5)
 (∃c2 E c3,w.cell? (hZ y 7)=some (hT c2 E c3)/\
 stV w (hZ g 5) (hV (decide ((E:Int)>1))) λc4=>
 k6 R Xa c1 b6 b9 b7 g b8 W V a7 b3 y O U I b5 b4 c4)
def k4 (R:EP)(Xa:OA->Int->Bool->Nat->Nat->Bool->OA->Nat->Nat->Int->Int->WP)(E:OA)(I:Int)(a6:Bool)(b9 c1:Nat)(c2:Bool)(b3:OA)(b4 b5:Nat)(b7:Int)(g:Nat)(b6 b8:Int)(J3:Bool)(w:World):Prop:=
 br J3
 (aA E λI9=>
 ∃z4,w.cell? (I9.add 3)=some (hV z4)/\
 br z4
 (callE P dG #[kT E] (λe I8=> ∃d2 O,∃d1 p5,∃p3 o4,∃q2 o2,∃o0 m3,∃i4 m1,∃j0 j1,∃n0 q4 p1,e= hQ (.tuple #[hT d2 O d1,(N10.V {a0:=p5,a1:=p3,a2:=o4,a3:=q2,a4:=o2,a5:=o0,q6:=m3,n6:=i4,c6:=m1,q7:=j0,n7:=j1,c7:=n0,a8:=q4,a9:=p1})])/\
 box I8 (N10.C {}) ae λf1 J1=>
 st10 J1 f1 {a0:=p5,a1:=p3,a2:=o4,a3:=q2,a4:=o2,a5:=o0,q6:=m3,n6:=i4,c6:=m1,q7:=j0,n7:=j1,c7:=n0,a8:=q4,a9:=p1} λJ4=>
 stV J4 (hZ f1 8) (hY 1) λJ0=>
 stV J0 (hZ f1 9) (hY (O:Int)) λJ2=>
 tk J2 λD1=>
 ldB10 D1 f1 λI7=>
 ∃s1 w2,∃s6 z1,(Instr.buildSlice au 1 #[(0,I7.V)]).run P D1= .ok (hT s1 w2 s6) z1/\
 stV z1 (hZ g 7) (hT s1 w2 s6) λH6=>
 callE P aS #[kT E,hY 2] (λe y5=> ∃z2,e= hQ (hY z2)/\
 br (z2==1)
 (callE P fm #[kT E,hY (i64.wrap (I - 1)),hV a6] (λe I2=> ∃d0 c3,∃c9 i0,∃m4 i3,∃h8 n2,∃h9 h7,∃h5 g6,∃h2 g3,∃h6 m5 i8,e= hQ (.tuple #[hT d0 c3 c9,(N10.V {a0:=i0,a1:=m4,a2:=i3,a3:=h8,a4:=n2,a5:=h9,q6:=h7,n6:=h5,c6:=g6,q7:=h2,n7:=g3,c7:=h6,a8:=m5,a9:=i8})])/\
 box I2 (N10.C {}) ae λy I5=>
 st10 I5 y {a0:=i0,a1:=m4,a2:=i3,a3:=h8,a4:=n2,a5:=h9,q6:=h7,n6:=h5,c6:=g6,q7:=h2,n7:=g3,c7:=h6,a8:=m5,a9:=i8} λH0=>
 stV H0 (hZ y 8) (hY (i64.wrap ((O:Int)+2))) λH8=>
 stV H8 (hZ y 9) (hY (i64.wrap ((i64.wrap ((O:Int)+1))+(c3:Int)))) λH7=>
 tk H7 λa7=>
 ∃d3 e0 e1,a7.cell? (hZ g 7)=some (hT d3 e0 e1)/\
 ldB10 a7 y λe9=>
 (∃f4 f3,∃f6 W,(Instr.buildSlice al 1 #[(0,hX (hP #[]))]).run P a7= .ok (hT f4 f3 f6) W/\
 SameC a7 W (hZ y 0) 10/\
 SameC a7 W (hZ g 7) 1/\
 (∃f5 g1,∃g0 U,(Builtin.append_ #[al,al] al #[hT d2 O d1,hT f4 f3 f6]).run P W= .ok (hT f5 g1 g0) U/\
 SameC W U (hZ y 0) 10/\
 SameC W U (hZ g 7) 1/\
 (∃s4 s9,∃s8 e3,(Builtin.append_ #[al,al] al #[hT f5 g1 g0,hT d0 c3 c9]).run P U= .ok (hT s4 s9 s8) e3/\
 SameC U e3 (hZ y 0) 10/\
 SameC U e3 (hZ g 7) 1/\
 ∃x3 t4,∃r8 g2,(Instr.buildSlice au 1 #[(0,e9.V)]).run P e3= .ok (hT x3 t4 r8) g2/\
 SameC e3 g2 (hZ g 7) 1/\
 ∃t0 x5,∃u8 x6,(Builtin.append_ #[au,au] au #[hT d3 e0 e1,hT x3 t4 r8]).run P g2= .ok (hT t0 x5 u8) x6/\
 stV x6 (hZ g 7) (hT t0 x5 u8) λD3=>
 k5 R Xa E I a6 b9 c1 c2 b3 b4 b5 b7 g s4 s9 s8 b6 b8 D3)/\
 (∃w5 s2,∃u1 e4,(Instr.buildSlice au 1 #[(0,e9.V)]).run P U= .ok (hT w5 s2 u1) e4/\
 SameC U e4 (hZ g 7) 1/\
 ∃u4 v4,∃v9 f0,(Builtin.append_ #[al,al] al #[hT f5 g1 g0,hT d0 c3 c9]).run P e4= .ok (hT u4 v4 v9) f0/\
 SameC e4 f0 (hZ y 0) 10/\
 SameC e4 f0 (hZ g 7) 1/\
 ∃v2 s5,∃x4 z3,(Builtin.append_ #[au,au] au #[hT d3 e0 e1,hT w5 s2 u1]).run P f0= .ok (hT v2 s5 x4) z3/\
 stV z3 (hZ g 7) (hT v2 s5 x4) λI0=>
 k5 R Xa E I a6 b9 c1 c2 b3 b4 b5 b7 g u4 v4 v9 b6 b8 I0))/\
 (∃v3 r6,∃w4 e2,(Instr.buildSlice au 1 #[(0,e9.V)]).run P W= .ok (hT v3 r6 w4) e2/\
 SameC W e2 (hZ g 7) 1/\
 ∃v7 w7,∃t8 c4,(Builtin.append_ #[al,al] al #[hT d2 O d1,hT f4 f3 f6]).run P e2= .ok (hT v7 w7 t8) c4/\
 SameC e2 c4 (hZ y 0) 10/\
 SameC e2 c4 (hZ g 7) 1/\
 ∃r5 s7,∃v6 e6,(Builtin.append_ #[al,al] al #[hT v7 w7 t8,hT d0 c3 c9]).run P c4= .ok (hT r5 s7 v6) e6/\
 SameC c4 e6 (hZ y 0) 10/\
 SameC c4 e6 (hZ g 7) 1/\
 ∃w6 v5,∃v0 y2,(Builtin.append_ #[au,au] au #[hT d3 e0 e1,hT v3 r6 w4]).run P e6= .ok (hT w6 v5 v0) y2/\
 stV y2 (hZ g 7) (hT w6 v5 v0) λI3=>
 k5 R Xa E I a6 b9 c1 c2 b3 b4 b5 b7 g r5 s7 v6 b6 b8 I3))/\
 (∃w1 t6,∃s3 e5,(Instr.buildSlice au 1 #[(0,e9.V)]).run P a7= .ok (hT w1 t6 s3) e5/\
 SameC a7 e5 (hZ g 7) 1/\
 ∃v8 u2,∃r7 c5,(Instr.buildSlice al 1 #[(0,hX (hP #[]))]).run P e5= .ok (hT v8 u2 r7) c5/\
 SameC e5 c5 (hZ y 0) 10/\
 SameC e5 c5 (hZ g 7) 1/\
 ∃t9 t3,∃w9 c8,(Builtin.append_ #[al,al] al #[hT d2 O d1,hT v8 u2 r7]).run P c5= .ok (hT t9 t3 w9) c8/\
 SameC c5 c8 (hZ y 0) 10/\
 SameC c5 c8 (hZ g 7) 1/\
 ∃t5 w8,∃t7 e8,(Builtin.append_ #[al,al] al #[hT t9 t3 w9,hT d0 c3 c9]).run P c8= .ok (hT t5 w8 t7) e8/\
 SameC c8 e8 (hZ y 0) 10/\
 SameC c8 e8 (hZ g 7) 1/\
 ∃r3 w3,∃r4 y3,(Builtin.append_ #[au,au] au #[hT d3 e0 e1,hT w1 t6 s3]).run P e8= .ok (hT r3 w3 r4) y3/\
 stV y3 (hZ g 7) (hT r3 w3 r4) λH3=>
 k5 R Xa E I a6 b9 c1 c2 b3 b4 b5 b7 g t5 w8 t7 b6 b8 H3)) y5)
 (k5 R Xa E I a6 b9 c1 c2 b3 b4 b5 b7 g d2 O d1 b6 b8 y5)) H6) w)
 (callE P dX #[kT E,hY (i64.wrap (I - 1)),hY 2] (λe I4=> ∃r1 q1,∃q8 q5,∃p4 q0,e= hQ (.tuple #[hT r1 q1 q8,hT q5 p4 q0])/\
 stV I4 (hZ g 7) (hT q5 p4 q0) λI6=>
 k5 R Xa E I a6 b9 c1 c2 b3 b4 b5 b7 g r1 q1 q8 b6 b8 I6) w))
 (callE P dG #[kT E] (λe D2=> ∃q3 f2,∃o3 m2,∃m6 n3,∃k0 l5,∃i1 h4,∃g5 g4,∃g7 h1,∃h3 n1 i2,e= hQ (.tuple #[hT q3 f2 o3,(N10.V {a0:=m2,a1:=m6,a2:=n3,a3:=k0,a4:=l5,a5:=i1,q6:=h4,n6:=g5,c6:=g4,q7:=g7,n7:=h1,c7:=h3,a8:=n1,a9:=i2})])/\
 box D2 (N10.C {}) ae λe7 H9=>
 st10 H9 e7 {a0:=m2,a1:=m6,a2:=n3,a3:=k0,a4:=l5,a5:=i1,q6:=h4,n6:=g5,c6:=g4,q7:=g7,n7:=h1,c7:=h3,a8:=n1,a9:=i2} λH2=>
 stV H2 (hZ e7 8) (hY 1) λH5=>
 stV H5 (hZ e7 9) (hY (f2:Int)) λI1=>
 tk I1 λy4=>
 ldB10 y4 e7 λH1=>
 ∃r9 t2,∃u0 y1,(Instr.buildSlice au 1 #[(0,H1.V)]).run P y4= .ok (hT r9 t2 u0) y1/\
 stV y1 (hZ g 7) (hT r9 t2 u0) λH4=>
 k6 R Xa E I a6 b9 c1 c2 b3 b4 b5 b7 g q3 f2 o3 b6 b8 H4) w)
def bl1 (R:EP)(Xa:OA->Int->Bool->Nat->Nat->Bool->OA->Nat->Nat->Int->Int->WP)(c2:OA)(b4:Int)(c1:Bool)(y b3:Nat)(b5:Bool)(I:OA)(O E:Nat)(a7 g:Int)(w:World):Prop:=
 br (decide (g<a7))
 (box w (N10.C {}) ae λU b7=>
 st10 b7 U {a0:=4} λb9=>
 k4 R Xa c2 b4 c1 y b3 b5 I O E g U a7 g (b5 && (decide (b4>0))) b9)
 (tk w λa6=>
 ldB10 a6 b3 λb6=>
 st10 a6 y b6 λW=>
 ldB10 W y λb8=>
 R (hQ (.tuple #[hT I O E,b8.V])) W)
def l1 (R:EP)(W:OA)(a6:Int)(V:Bool)(a7 U:Nat)(b3:Bool)(y:OA)(E g:Nat)(O I:Int)(w:World):Prop:=
 ∀X:OA->Int->Bool->Nat->Nat->Bool->OA->Nat->Nat->Int->Int->WP,(∀W a6 V a7 U b3 y E g O I w,bl1 R X W a6 V a7 U b3 y E g O I w->X W a6 V a7 U b3 y E g O I w)->X W a6 V a7 U b3 y E g O I w
def k3 (R:EP)(y:OA)(U:Int)(O:Bool)(V I:Nat)(W:Bool)(w:World):Prop:=
 callE P aS #[kT y,hY 3] (λe E=> ∃g,e= hQ (hY g)/\
 l1 R y U O V I W none 0 0 (i64.wrap (1+g)) 0 E) w
def k2 (R:EP)(g:OA)(O:Int)(I:Bool)(U E:Nat)(w:World):Prop:=
 callE P aS #[kT g,hY 2] (λe y=> ∃a6,e= hQ (hY a6)/\
 br (a6==1)
 (aA g λb3=>
 ∃V,y.cell? (b3.add 3)=some (hV V)/\
 br V
 (aA g λa7=>
 ∃W,y.cell? (a7.add 4)=some (hY W)/\
 k3 R g O I U E (!(decide (W>0))) y)
 (k3 R g O I U E true y))
 (k3 R g O I U E false y)) w
def k1 (R:EP)(y:OA)(I:Int)(E:Bool)(O g:Nat)(w:World):Prop:=
 callE P aS #[kT y,hY 2] (λe U=> ∃W,e= hQ (hY W)/\
 br (W==1)
 (callE P aS #[kT y,hY 30] (λe b3=> ∃V,e= hQ (hY V)/\
 stV b3 (hZ g 3) (hY V) λa7=>
 stV a7 (hZ g 4) (hX (hP #[46])) λa6=>
 br E
 (stV a6 (hZ g 4) (hX (hP #[41])) λb4=>
 k2 R y I E O g b4)
 (k2 R y I E O g a6)) U)
 (k2 R y I E O g U)) w
end aB
def aB (R:EP)(I:OA)(O:Int)(y:Bool)(w:World):Prop:=
 box w (N10.C {}) ae λb1 V=>
 box V (N10.C {}) ae λg W=>
 st10 W g {a0:=3,a3:=(-1),a4:=(hP #[45])} λE=>
 br y
 (stV E (hZ g 4) (hX (hP #[43])) λU=>
 aB.k1 R I O y b1 g U)
 (aB.k1 R I O y b1 g E)
theorem aB.sound {R x0 x1 x2 w}(h:aB R x0 x1 x2 w):callE P iQ #[kT x0,hY x1,hV x2] R w:=
 aG [(15,.mk [2,27,40,146,166] (aB.k1 R)),(31,.mk [2,27,40,146,166] (aB.k2 R)),(63,.mk [2,27,40,146,166,180] (aB.k3 R)),(703,.lp [2,27,40,146,166,180,203,1047,1067] (aB.bl1 R) λXa=> [(883,.mk [2,27,40,146,166,180,203,227,246,1047,1067,1220] (aB.k4 R Xa)),(92531,.dr (rpN [0,9,4,8,12,17])),(1960307,.dr (.pure 0 (.pure 3 (.pure 5 (.load 6 (.load 7 (.two 1 (.two 2 (.two 4 (.one 8 (.one 9 (.pure 10 (.pure 11 (.one 12 .done))))) 8 (.one 4 (.one 9 (.pure 10 (.pure 11 (.one 12 .done)))))) 8 (.one 2 (.one 4 (.one 9 (.pure 10 (.pure 11 (.one 12 .done))))))) 8 (.one 1 (.one 2 (.one 4 (.one 9 (.pure 10 (.pure 11 (.one 12 .done)))))))))))))),(3443,.mk [2,27,40,146,166,180,203,227,246,263,1047,1067] (aB.k5 R Xa)),(8051,.dr (rpN [0,9,4,8,12,17])),(499,.mk [2,27,40,146,166,180,203,227,246,263,1047,1067] (aB.k6 R Xa)),(2035,.mk [2,27,40,146,166,180,203,227,246,263,401,1047,1067] (aB.k7 R Xa)),(7155,.mk [2,27,40,146,166,180,203,246,263,401,1047,1067,3180] (aB.k8 R Xa)),(4083,.mk [2,27,40,146,166,180,203,246,263,401,1047,1067] (aB.k9 R Xa)),(24563,.dr (rpN [0,3,6,12,15,11,20,23,24]))]),(383,.dr (rpN [0,6,4,11]))] Tryz.func68 Tryz.call68 h
namespace aY
def k2 (R:EP)(d2:OA)(c9:Nat)(g:BA)(w:World):Prop:=
 callE P iR #[kT d2] (λe d1=> ∃E y,∃I O,e= hQ (.tuple #[hT E y I,hX O])/\
 (((hP #[96,96,96]).size+g.size:Nat):Int)<=i64.max/\
 ∃U c1,∃b9 c5,(Instr.buildSlice al 1 #[(0,hX ((hP #[96,96,96])++g))]).run P d1= .ok (hT U c1 b9) c5/\
 ∃b4 b3,∃b8 c4,(Builtin.append_ #[al,al] al #[hT U c1 b9,hT E y I]).run P c5= .ok (hT b4 b3 b8) c4/\
 ∃b6 b7,∃a6 c2,(Instr.buildSlice al 1 #[(0,hX (hP #[96,96,96]))]).run P c4= .ok (hT b6 b7 a6) c2/\
 ∃W b5,∃a7 c8,(Builtin.append_ #[al,al] al #[hT b4 b3 b8,hT b6 b7 a6]).run P c2= .ok (hT W b5 a7) c8/\
 st10 c8 c9 {a0:=7,a1:=O,a2:=g} λc3=>
 ldB10 c3 c9 λd0=>
 R (hQ (.tuple #[hT W b5 a7,d0.V])) c3) w
def k3 (R:EP)(d2:OA)(c1:Nat)(c9:OA)(c2 c3 g:Nat)(w:World):Prop:=
 callE P aS #[kT d2,hY 2] (λe c5=> ∃b7,e= hQ (hY b7)/\
 stV c5 (hZ g 0) (hY 5) λc4=>
 stV c4 (hZ g 3) (hY (i64.wrap (1+b7))) λc8=>
 tk c8 λy=>
 ∃O,y.cell? (hZ g 3)=some (hY O)/\
 ∃I,y.cell? (hZ g 3)=some (hY I)/\
 0<=(i64.wrap (O - 1))/\(i64.wrap (O - 1))<=I/\I<=((hP #[61,45]).size:Int)/\
 ldB10 y g λd0=>
 callE P jW #[hX ((hP #[61,45]).extract (Int.toNat (i64.wrap (O - 1))) (Int.toNat I)),hY 3] (λe W=> ∃b9,e= hQ (hX b9)/\
 SameC y W (hZ g 0) 10/\
 ∃b5 b4,∃b3 E,(Instr.buildSlice al 1 #[(0,hX b9)]).run P W= .ok (hT b5 b4 b3) E/\
 SameC W E (hZ g 0) 10/\
 ∃a6 b6,∃a7 U,(Builtin.append_ #[al,al] al #[hT c9 c2 c3,hT b5 b4 b3]).run P E= .ok (hT a6 b6 a7) U/\
 SameC E U (hZ g 0) 10/\
 st10 U c1 d0 λb8=>
 ldB10 b8 c1 λd1=>
 R (hQ (.tuple #[hT a6 b6 a7,d1.V])) b8) y) w
def bl1 (R:EP)(Xa:Nat->OA->Nat->Nat->OA->Nat->Nat->OA->Nat->Nat->Int->Int->WP)(E:Nat)(b5:OA)(b7 b6:Nat)(c1:OA)(b9 b8:Nat)(U:OA)(a6 c8:Nat)(c5 g:Int)(w:World):Prop:=
 br (decide (g<c5))
 (0<=g/\g<(a6:Int)/\
 aA U λc9=>
 ∃y,w.cell? (c9.add (Int.toNat g*1))=some (hX y)/\
 (((hP #[62,32]).size+y.size:Nat):Int)<=i64.max/\
 ∃a7 b4,∃W c2,(Instr.buildSlice al 1 #[(0,hX ((hP #[62,32])++y))]).run P w= .ok (hT a7 b4 W) c2/\
 ∃b3 O,∃I c3,(Builtin.append_ #[al,al] al #[hT c1 b9 b8,hT a7 b4 W]).run P c2= .ok (hT b3 O I) c3/\
 Xa E b5 b7 b6 b3 O I U a6 c8 c5 (i64.wrap (g+1)) c3)
 (st10 w E {a0:=2,q7:=b5,n7:=b7,c7:=b6} λc4=>
 ldB10 c4 E λd0=>
 R (hQ (.tuple #[hT c1 b9 b8,d0.V])) c4)
def l1 (R:EP)(b4:Nat)(W:OA)(U a6:Nat)(I:OA)(a7 V:Nat)(E:OA)(g y:Nat)(b3 O:Int)(w:World):Prop:=
 ∀X:Nat->OA->Nat->Nat->OA->Nat->Nat->OA->Nat->Nat->Int->Int->WP,(∀b4 W U a6 I a7 V E g y b3 O w,bl1 R X b4 W U a6 I a7 V E g y b3 O w->X b4 W U a6 I a7 V E g y b3 O w)->X b4 W U a6 I a7 V E g y b3 O w
def k4 (R:EP)(f0:OA)(f6:Int)(g0:Bool)(g:Nat)(f4:Bool)(w:World):Prop:=
 br f4
 (callE P iQ #[kT f0,hY (i64.wrap (f6 - 1)),hV g0] (λe f1=> ∃e7 e6,∃e5 c8,∃c2 c1,∃b7 b9,∃d3 b3,∃U a7,∃I b6,∃b5 c3 d1,e= hQ (.tuple #[hT e7 e6 e5,(N10.V {a0:=c8,a1:=c2,a2:=c1,a3:=b7,a4:=b9,a5:=d3,q6:=b3,n6:=U,c6:=a7,q7:=I,n7:=b6,c7:=b5,a8:=c3,a9:=d1})])/\
 st10 f1 g {a0:=c8,a1:=c2,a2:=c1,a3:=b7,a4:=b9,a5:=d3,q6:=b3,n6:=U,c6:=a7,q7:=I,n7:=b6,c7:=b5,a8:=c3,a9:=d1} λe8=>
 ldB10 e8 g λf3=>
 R (hQ (.tuple #[hT e7 e6 e5,f3.V])) e8) w)
 (callE P dG #[kT f0] (λe f5=> ∃e3 e2,∃e4 e1,∃c4 b8,∃c5 d0,∃c9 y,∃E a6,∃O W,∃b4 d2 e0,e= hQ (.tuple #[hT e3 e2 e4,(N10.V {a0:=e1,a1:=c4,a2:=b8,a3:=c5,a4:=d0,a5:=c9,q6:=y,n6:=E,c6:=a6,q7:=O,n7:=W,c7:=b4,a8:=d2,a9:=e0})])/\
 st10 f5 g {a0:=e1,a1:=c4,a2:=b8,a3:=c5,a4:=d0,a5:=c9,q6:=y,n6:=E,c6:=a6,q7:=O,n7:=W,c7:=b4,a8:=d2,a9:=e0} λe9=>
 ldB10 e9 g λf2=>
 R (hQ (.tuple #[hT e3 e2 e4,f2.V])) e9) w)
def k1 (R:EP)(g:OA)(b4:Int)(i0:Bool)(y:Nat)(E:Int)(w:World):Prop:=
 br (E==2)
 (callE P aS #[kT g,hY 6] (λe k0=> ∃b3,e= hQ (hY b3)/\
 callE P eH #[kT g] (λe n0=> ∃a6 e8,∃e6 f1,e= hQ (.tuple #[hX a6,hT e8 e6 f1])/\
 callE P jW #[hX (hP #[35]),hY (i64.wrap (1+b3))] (λe n1=> ∃O,e= hQ (hX O)/\
 ((O.size+(hP #[32]).size:Nat):Int)<=i64.max/\
 (((O++(hP #[32])).size+a6.size:Nat):Int)<=i64.max/\
 ∃f4 g2,∃g4 h4,(Instr.buildSlice al 1 #[(0,hX ((O++(hP #[32]))++a6))]).run P n1= .ok (hT f4 g2 g4) h4/\
 st10 h4 y {a0:=5,a3:=(i64.wrap (1+b3)),q7:=e8,n7:=e6,c7:=f1} λh7=>
 ldB10 h7 y λn2=>
 R (hQ (.tuple #[hT f4 g2 g4,n2.V])) h7) n0) k0) w)
 (br (E==3)
 (∃f6 g6,∃f5 h6,(Instr.buildSlice al 1 #[(0,hX (hP #[42,42,42]))]).run P w= .ok (hT f6 g6 f5) h6/\
 st10 h6 y {a0:=9} λh9=>
 ldB10 h9 y λj0=>
 R (hQ (.tuple #[hT f6 g6 f5,j0.V])) h9)
 (br (E==4)
 (callE P aS #[kT g,hY 2] (λe U=> ∃g7,e= hQ (hY g7)/\
 br (g7==1)
 (aA g λm5=>
 ∃h3,U.cell? (m5.add 3)=some (hV h3)/\
 br (!h3)
 (callE P cG #[kT g] (λe m6=> ∃h5,e= hQ (hX h5)/\
 k2 R g y h5 m6) U)
 (k2 R g y (hP #[]) U))
 (k2 R g y (hP #[]) U)) w)
 (br (E==5)
 (callE P dG #[kT g] (λe j1=> ∃e3 e4,∃f0 e2,∃d1 c2,∃d2 d3,∃e1 b6,∃b8 b9,∃b5 b7,∃c1 c4 c3,e= hQ (.tuple #[hT e3 e4 f0,(N10.V {a0:=e2,a1:=d1,a2:=c2,a3:=d2,a4:=d3,a5:=e1,q6:=b6,n6:=b8,c6:=b9,q7:=b5,n7:=b7,c7:=c1,a8:=c4,a9:=c3})])/\
 box j1 (N10.C {}) ae λI m3=>
 st10 m3 I {a0:=e2,a1:=d1,a2:=c2,a3:=d2,a4:=d3,a5:=e1,q6:=b6,n6:=b8,c6:=b9,q7:=b5,n7:=b7,c7:=c1,a8:=c4,a9:=c3} λa7=>
 aA g λm1=>
 ∃h2,a7.cell? (m1.add 3)=some (hV h2)/\
 br h2
 (callE P eH #[kT g] (λe i8=> ∃f2 e9,∃e7 e5,e= hQ (.tuple #[hX f2,hT e9 e7 e5])/\
 ∃g0 g1,∃f3 h1,(Instr.buildSlice al 1 #[(0,hX f2)]).run P i8= .ok (hT g0 g1 f3) h1/\
 st10 h1 I {q7:=e9,n7:=e7,c7:=e5} λl5=>
 k3 R g y g0 g1 f3 I l5) a7)
 (k3 R g y e3 e4 f0 I a7)) w)
 (br (E==6)
 (aA g λm2=>
 ∃h8,w.cell? (m2.add 4)=some (hY h8)/\
 aA g λm4=>
 stV w ((m4.add 4).add 0) (hY (i64.wrap (h8+1))) λi1=>
 callE P dX #[kT g,hY (i64.wrap (b4 - 1)),hY 3] (λe g3=> ∃e0 W,∃c8 c9,∃d0 c5,e= hQ (.tuple #[hT e0 W c8,hT c9 d0 c5])/\
 aA g λi2=>
 ∃g5,g3.cell? (i2.add 4)=some (hY g5)/\
 aA g λi4=>
 stV g3 ((i4.add 4).add 0) (hY (i64.wrap (g5 - 1))) λi3=>
 l1 R y c9 d0 c5 none 0 0 e0 W c8 (W:Int) 0 i3) i1)
 (br (E==7)
 (k4 R g b4 i0 y true w)
 (k4 R g b4 i0 y (E==8) w))))))
end aY
def aY (R:EP)(g:OA)(E:Int)(U:Bool)(w:World):Prop:=
 box w (N10.C {}) ae λb1 V=>
 aA g λa3=>
 ∃W,V.cell? (a3.add 2)=some (hY W)/\
 aA g λa5=>
 stV V ((a5.add 2).add 0) (hY (i64.wrap (W+1))) λa6=>
 callE P aS #[kT g,hY 9] (λe y=> ∃I,e= hQ (hY I)/\
 aA g λa9=>
 ∃O,y.cell? (a9.add 2)=some (hY O)/\
 br ((decide (O>60))||((decide (E<=0)) && (decide (I >= 6))))
 (aY.k1 R g E U b1 0 y)
 (aY.k1 R g E U b1 I y)) a6
theorem aY.sound {R x0 x1 x2 w}(h:aY R x0 x1 x2 w):callE P fm #[kT x0,hY x1,hV x2] R w:=
 aG [(31,.mk [2,27,40,146,167] (aY.k1 R)),(61359,.mk [2,146,241] (aY.k2 R)),(245679,.mk [2,146,303,326] (aY.k3 R)),(769967,.dr (rpN [0,3,12,7,9,16,18,31,23,26,29,33,38])),(23003055,.lp [146,403,423,3163,3187,3207] (aY.bl1 R) λXa=> []),(524207,.mk [2,27,40,146,3460] (aY.k4 R))] Tryz.func42 Tryz.call42 h
namespace bS
def k1 (R:EP)(Xa:OA->Int->OA->Nat->Nat->OA->Nat->Nat->Int->Int->WP)(e1:OA)(e0:Int)(c2:OA)(g c8:Nat)(c5:OA)(c9 d1:Nat)(b9:OA)(W c1 y:Nat)(d0 d2:Int)(w:World):Prop:=
 stV w (hZ y 8) (hY (i64.wrap ((g:Int)+1))) λc3=>
 stV c3 (hZ y 9) (hY (i64.wrap ((g:Int)+(W:Int)))) λd3=>
 ∃a7 O,∃b3 E,(Builtin.append_ #[al,al] al #[hT c2 g c8,hT b9 W c1]).run P d3= .ok (hT a7 O b3) E/\
 ldB10 E y λc4=>
 ∃I b4,∃a6 b8,(Instr.buildSlice au 1 #[(0,c4.V)]).run P E= .ok (hT I b4 a6) b8/\
 ∃b5 b6,∃U b7,(Builtin.append_ #[au,au] au #[hT c5 c9 d1,hT I b4 a6]).run P b8= .ok (hT b5 b6 U) b7/\
 Xa e1 e0 a7 O b3 b5 b6 U d0 (i64.wrap (d2+1)) b7
def bl1 (R:EP)(Xa:OA->Int->OA->Nat->Nat->OA->Nat->Nat->Int->Int->WP)(b8:OA)(b6:Int)(O:OA)(U a7:Nat)(W:OA)(a6 b4:Nat)(b3 g:Int)(w:World):Prop:=
 br (decide (g<b3))
 ((2:Int)≠0/\
 callE P fm #[kT b8,hY b6,hV ((Int.tmod g 2)==1)] (λe f2=> ∃E y,∃I c8,∃d3 c9,∃d0 e1,∃e0 c4,∃c2 b9,∃c3 c1,∃c5 d2 d1,e= hQ (.tuple #[hT E y I,(N10.V {a0:=c8,a1:=d3,a2:=c9,a3:=d0,a4:=e1,a5:=e0,q6:=c4,n6:=c2,c6:=b9,q7:=c3,n7:=c1,c7:=c5,a8:=d2,a9:=d1})])/\
 box f2 (N10.C {}) ae λb7 f1=>
 st10 f1 b7 {a0:=c8,a1:=d3,a2:=c9,a3:=d0,a4:=e1,a5:=e0,q6:=c4,n6:=c2,c6:=b9,q7:=c3,n7:=c1,c7:=c5,a8:=d2,a9:=d1} λf0=>
 br (decide (g>0))
 (∃e4 e6,∃e7 e8,(Instr.buildSlice al 1 #[(0,hX (hP #[]))]).run P f0= .ok (hT e4 e6 e7) e8/\
 ∃e3 e5,∃e2 e9,(Builtin.append_ #[al,al] al #[hT O U a7,hT e4 e6 e7]).run P e8= .ok (hT e3 e5 e2) e9/\
 k1 R Xa b8 b6 e3 e5 e2 W a6 b4 E y I b7 b3 g e9)
 (k1 R Xa b8 b6 O U a7 W a6 b4 E y I b7 b3 g f0)) w)
 (R (hQ (.tuple #[hT O U a7,hT W a6 b4])) w)
def l1 (R:EP)(a6:OA)(a7:Int)(I:OA)(U g:Nat)(O:OA)(W y:Nat)(V E:Int)(w:World):Prop:=
 ∀X:OA->Int->OA->Nat->Nat->OA->Nat->Nat->Int->Int->WP,(∀a6 a7 I U g O W y V E w,bl1 R X a6 a7 I U g O W y V E w->X a6 a7 I U g O W y V E w)->X a6 a7 I U g O W y V E w
end bS
def bS (R:EP)(y:OA)(O E:Int)(w:World):Prop:=
 callE P aS #[kT y,hY E] (λe I=> ∃g,e= hQ (hY g)/\
 bS.l1 R y O none 0 0 none 0 0 (i64.wrap (1+g)) 0 I) w
theorem bS.sound {R x0 x1 x2 w}(h:bS R x0 x1 x2 w):callE P dX #[kT x0,hY x1,hY x2] R w:=
 aG [(87,.lp [2,27,163,183,327,347] (bS.bl1 R) λXa=> [(243,.mk [2,27,163,183,223,246,327,347] (bS.k1 R Xa))])] Tryz.func29 Tryz.call29 h
namespace bW
def bl2 (R:EP)(Xa:OA->Nat->Nat->OA->Nat->Nat->Int->Int->WP)(e9:OA->Nat->Nat->OA->Nat->Nat->BA->Int->Int->OA->Nat->Nat->Int->Int->WP)(e1:OA)(d3 y:Nat)(c2:OA)(d1 c9:Nat)(e0:BA)(c3 d2:Int)(a7:OA)(b7 e2:Nat)(c4 g:Int)(w:World):Prop:=
 br (decide (g<c4))
 (0<=g/\g<(b7:Int)/\
 aA a7 λe8=>
 ldA10 w (e8.add (Int.toNat g*10)) λe4=>
 box w (N10.C {}) ae λc5 e3=>
 st10 e3 c5 e4 λE=>
 ∃I a6 b8,E.cell? (hZ y 7)=some (hT I a6 b8)/\
 ldB10 E c5 λe6=>
 callE P eF #[hT I a6 b8,e6.V] (λe e7=> ∃c1 b4 U,e= hQ (hT c1 b4 U)/\
 stV e7 (hZ y 7) (hT c1 b4 U) λe5=>
 e9 e1 d3 y c2 d1 c9 e0 c3 d2 a7 b7 e2 c4 (i64.wrap (g+1)) e5) E)
 (∃b3 W,∃O c8,(Instr.buildSlice al 1 #[(0,hX e0)]).run P w= .ok (hT b3 W O) c8/\
 ∃b9 b5,∃b6 d0,(Builtin.append_ #[al,al] al #[hT c2 d1 c9,hT b3 W O]).run P c8= .ok (hT b9 b5 b6) d0/\
 Xa e1 d3 y b9 b5 b6 c3 (i64.wrap (d2+1)) d0)
def l2 (R:EP)(Xa:OA->Nat->Nat->OA->Nat->Nat->Int->Int->WP)(b3:OA)(b4 b5:Nat)(U:OA)(O I:Nat)(b6:BA)(W a7:Int)(g:OA)(y E:Nat)(a6 V:Int)(w:World):Prop:=
 ∀X:OA->Nat->Nat->OA->Nat->Nat->BA->Int->Int->OA->Nat->Nat->Int->Int->WP,(∀b3 b4 b5 U O I b6 W a7 g y E a6 V w,bl2 R Xa X b3 b4 b5 U O I b6 W a7 g y E a6 V w->X b3 b4 b5 U O I b6 W a7 g y E a6 V w)->X b3 b4 b5 U O I b6 W a7 g y E a6 V w
def k1 (R:EP)(Xa:OA->Nat->Nat->OA->Nat->Nat->Int->Int->WP)(a6:OA)(a7 b3:Nat)(U:OA)(O y:Nat)(b4:BA)(I:OA)(g E:Nat)(V W:Int)(w:World):Prop:=
 l2 R Xa a6 a7 b3 U O y b4 V W I g E (g:Int) 0 w
def bl1 (R:EP)(Xa:OA->Nat->Nat->OA->Nat->Nat->Int->Int->WP)(b6:OA)(E g:Nat)(a6:OA)(b5 b4:Nat)(b3 y:Int)(w:World):Prop:=
 br (decide (y<b3))
 (callE P eH #[kT b6] (λe a7=> ∃W I,∃U O,e= hQ (.tuple #[hX W,hT I U O])/\
 br (decide (y>0))
 (∃b9 b7 c2,a7.cell? (hZ g 7)=some (hT b9 b7 c2)/\
 callE P eF #[hT b9 b7 c2,(N10.V {a0:=21})] (λe c8=> ∃c3 b8 c1,e= hQ (hT c3 b8 c1)/\
 stV c8 (hZ g 7) (hT c3 b8 c1) λd1=>
 k1 R Xa b6 E g a6 b5 b4 W I U O b3 y d1) a7)
 (k1 R Xa b6 E g a6 b5 b4 W I U O b3 y a7)) w)
 (tk w λc4=>
 ldB10 c4 g λc9=>
 st10 c4 E c9 λc5=>
 ldB10 c5 E λd0=>
 R (hQ (.tuple #[hT a6 b5 b4,d0.V])) c5)
def l1 (R:EP)(U:OA)(V W:Nat)(E:OA)(y g:Nat)(I O:Int)(w:World):Prop:=
 ∀X:OA->Nat->Nat->OA->Nat->Nat->Int->Int->WP,(∀U V W E y g I O w,bl1 R X U V W E y g I O w->X U V W E y g I O w)->X U V W E y g I O w
end bW
def bW (R:EP)(y:OA)(w:World):Prop:=
 box w (N10.C {}) ae λb1 U=>
 box U (N10.C {}) ae λE V=>
 st10 V E {a0:=6} λI=>
 callE P aS #[kT y,hY 3] (λe O=> ∃g,e= hQ (hY g)/\
 bW.l1 R y b1 E none 0 0 (i64.wrap (1+g)) 0 O) I
theorem bW.sound {R x0 w}(h:bW R x0 w):callE P dG #[kT x0] R w:=
 aG [(87,.lp [2,66,86,103,287,307] (bW.bl1 R) λXa=> [(243,.mk [2,66,86,103,141,163,287,307] (bW.k1 R Xa)),(1395,.lp [2,66,86,103,141,287,307,603,627,647] (bW.bl2 R Xa) λg=> [])]),(47,.dr (rpN [0,6,4,11]))] Tryz.func67 Tryz.call67 h
def oo (R:EP)(E:Int)(w:World):Prop:=
 callE P jW #[hX (hP #[32]),hY E] (λe y=> ∃g,e= hQ (hX g)/\
 R (hQ (hX g)) y) w
theorem oo.sound {R x0 w}(h:oo R x0 w):callE P oh #[hY x0] R w:=
 cE Tryz.func24 Tryz.call24 h
namespace dm
def bl1 (R:EP)(Xa:OA->OA->Nat->Nat->Int->Int->WP)(V I:OA)(y g:Nat)(b9 b7:Int)(w:World):Prop:=
 br (decide (b7<b9))
 (callE P aS #[kT V,hY 3] (λe c5=> ∃c1,e= hQ (hY c1)/\
 callE P oh #[hY c1] (λe c3=> ∃U,e= hQ (hX U)/\
 callE P cG #[kT V] (λe c4=> ∃O,e= hQ (hX O)/\
 ((U.size+O.size:Nat):Int)<=i64.max/\
 ∃b3 b5,∃a7 b6,(Instr.buildSlice al 1 #[(0,hX (U++O))]).run P c4= .ok (hT b3 b5 a7) b6/\
 ∃a6 b4,∃W b8,(Builtin.append_ #[al,al] al #[hT I y g,hT b3 b5 a7]).run P b6= .ok (hT a6 b4 W) b8/\
 Xa V a6 b4 W b9 (i64.wrap (b7+1)) b8) c3) c5) w)
 (callE P jm #[hT I y g,hX (hP #[10])] (λe c2=> ∃E,e= hQ (hX E)/\
 ((E.size+(hP #[10]).size:Nat):Int)<=i64.max/\
 R (hQ (.tuple #[hT I y g,hX (E++(hP #[10]))])) c2) w)
def l1 (R:EP)(O g:OA)(I E:Nat)(U y:Int)(w:World):Prop:=
 ∀X:OA->OA->Nat->Nat->Int->Int->WP,(∀O g I E U y w,bl1 R X O g I E U y w->X O g I E U y w)->X O g I E U y w
end dm
def dm (R:EP)(g:OA)(w:World):Prop:=
 callE P cG #[kT g] (λe a6=> ∃O,e= hQ (hX O)/\
 ∃y I,∃E V,(Instr.buildSlice al 1 #[(0,hX O)]).run P a6= .ok (hT y I E) V/\
 callE P aS #[kT g,hY 3] (λe W=> ∃U,e= hQ (hY U)/\
 dm.l1 R g y I E U 0 W) V) w
theorem dm.sound {R x0 w}(h:dm R x0 w):callE P iR #[kT x0] R w:=
 aG [(43,.lp [2,83,187,207] (dm.bl1 R) λXa=> [])] Tryz.func66 Tryz.call66 h
def gf (R:EP)(g:Int)(w:World):Prop:=
 br (decide (g<10))
 (0<=g/\g<=(i64.wrap (g+1))/\(i64.wrap (g+1))<=((hP #[48,49,50,51,52,53,54,55,56,57]).size:Int)/\
 R (hQ (hX ((hP #[48,49,50,51,52,53,54,55,56,57]).extract (Int.toNat g) (Int.toNat (i64.wrap (g+1)))))) w)
 ((10:Int)≠0/\
 callE P gc #[hY (i64.wrap (Int.tdiv g 10))] (λe I=> ∃E,e= hQ (hX E)/\
 (10:Int)≠0/\
 callE P gc #[hY (Int.tmod g 10)] (λe O=> ∃y,e= hQ (hX y)/\
 ((E.size+y.size:Nat):Int)<=i64.max/\
 R (hQ (hX (E++y))) O) I) w)
theorem gf.sound {R x0 w}(h:gf R x0 w):callE P gc #[hY x0] R w:=
 cE Tryz.func89 Tryz.call89 h
namespace dD
def k1 (R:EP)(Xa:BA->OA->Nat->Nat->OA->Nat->Nat->Int->Int->WP)(b8:BA)(b6:OA)(b5 a6:Nat)(b9:BA)(b4:OA)(b7 a7:Nat)(c1 b3:Int)(w:World):Prop:=
 ∃g U,∃O W,(Instr.buildSlice al 1 #[(0,hX b9)]).run P w= .ok (hT g U O) W/\
 ∃E y,∃I V,(Builtin.append_ #[al,al] al #[hT b6 b5 a6,hT g U O]).run P W= .ok (hT E y I) V/\
 Xa b8 E y I b4 b7 a7 c1 (i64.wrap (b3+1)) V
def bl1 (R:EP)(Xa:BA->OA->Nat->Nat->OA->Nat->Nat->Int->Int->WP)(E:BA)(V:OA)(U I:Nat)(O:OA)(W a7:Nat)(a6 g:Int)(w:World):Prop:=
 br (decide (g<a6))
 (0<=g/\g<(W:Int)/\
 aA O λa1=>
 ∃y,w.cell? (a1.add (Int.toNat g*1))=some (hX y)/\
 br (!(y.toList==(hP #[]).toList))
 (((E.size+y.size:Nat):Int)<=i64.max/\
 k1 R Xa E V U I (E++y) O W a7 a6 g w)
 (k1 R Xa E V U I y O W a7 a6 g w))
 (R (hQ (hT V U I)) w)
def l1 (R:EP)(W:BA)(U:OA)(O g:Nat)(I:OA)(V y:Nat)(a6 E:Int)(w:World):Prop:=
 ∀X:BA->OA->Nat->Nat->OA->Nat->Nat->Int->Int->WP,(∀W U O g I V y a6 E w,bl1 R X W U O g I V y a6 E w->X W U O g I V y a6 E w)->X W U O g I V y a6 E w
end dD
def dD (R:EP)(I:BA)(y:OA)(g E:Nat)(w:World):Prop:=
 dD.l1 R I none 0 0 y g E (g:Int) 0 w
theorem dD.sound {R x0 x1q x1n x1c w}(h:dD R x0 x1q x1n x1c w):callE P kK #[hX x0,hT x1q x1n x1c] R w:=
 aG [(43,.lp [1,103,163,187,207] (dD.bl1 R) λXa=> [(115,.mk [1,103,141,163,187,207] (dD.k1 R Xa))])] Tryz.func90 Tryz.call90 h
namespace dl
def bl1 (R:EP)(Xa:OA->BA->OA->Nat->Nat->Int->Int->WP)(E:OA)(y:BA)(e5:OA)(e8 e7:Nat)(b3 a7:Int)(w:World):Prop:=
 br (decide (a7<b3))
 (callE P cG #[kT E] (λe g2=> ∃g,e= hQ (hX g)/\
 ∃b6 b5,∃b7 e6,(Instr.buildSlice au 1 #[(0,(N10.V {a0:=20,a1:=g}))]).run P g2= .ok (hT b6 b5 b7) e6/\
 callE P eF #[hT e5 e8 e7,.agg #[hY 20,hX (hP #[32]),hX (hP #[]),hY 0,hX (hP #[]),hV false,hT none 0 0,hT none 0 0,hY 0,hY 0]] (λe f6=> ∃U I O,e= hQ (hT U I O)/\
 callE P aS #[kT E,hY 7] (λe W=> ∃b4,e= hQ (hY b4)/\
 br (b4==0)
 ((((hP #[32,42]).size+g.size:Nat):Int)<=i64.max/\
 ((((hP #[32,42])++g).size+(hP #[42]).size:Nat):Int)<=i64.max/\
 ((y.size+(((hP #[32,42])++g)++(hP #[42])).size:Nat):Int)<=i64.max/\
 callE P eF #[hT U I O,(N10.V {a0:=24,q7:=b6,n7:=b5,c7:=b7})] (λe f5=> ∃c1 e4 b8,e= hQ (hT c1 e4 b8)/\
 Xa E (y++(((hP #[32,42])++g)++(hP #[42]))) c1 e4 b8 b3 (i64.wrap (a7+1)) f5) W)
 (br (b4==1)
 ((((hP #[32,42,42]).size+g.size:Nat):Int)<=i64.max/\
 ((((hP #[32,42,42])++g).size+(hP #[42,42]).size:Nat):Int)<=i64.max/\
 ((y.size+(((hP #[32,42,42])++g)++(hP #[42,42])).size:Nat):Int)<=i64.max/\
 callE P eF #[hT U I O,(N10.V {a0:=25,q7:=b6,n7:=b5,c7:=b7})] (λe f0=> ∃d0 d3 e1,e= hQ (hT d0 d3 e1)/\
 Xa E (y++(((hP #[32,42,42])++g)++(hP #[42,42]))) d0 d3 e1 b3 (i64.wrap (a7+1)) f0) W)
 (br (b4==2)
 ((((hP #[32,96]).size+g.size:Nat):Int)<=i64.max/\
 ((((hP #[32,96])++g).size+(hP #[96]).size:Nat):Int)<=i64.max/\
 ((y.size+(((hP #[32,96])++g)++(hP #[96])).size:Nat):Int)<=i64.max/\
 callE P eF #[hT U I O,(N10.V {a0:=23,a1:=g})] (λe f4=> ∃c9 d1 c2,e= hQ (hT c9 d1 c2)/\
 Xa E (y++(((hP #[32,96])++g)++(hP #[96]))) c9 d1 c2 b3 (i64.wrap (a7+1)) f4) W)
 (br (b4==3)
 (callE P cG #[kT E] (λe g0=> ∃a6,e= hQ (hX a6)/\
 (((hP #[47]).size+a6.size:Nat):Int)<=i64.max/\
 (((hP #[32,91]).size+g.size:Nat):Int)<=i64.max/\
 ((((hP #[32,91])++g).size+(hP #[93,40]).size:Nat):Int)<=i64.max/\
 (((((hP #[32,91])++g)++(hP #[93,40])).size+((hP #[47])++a6).size:Nat):Int)<=i64.max/\
 ((((((hP #[32,91])++g)++(hP #[93,40]))++((hP #[47])++a6)).size+(hP #[41]).size:Nat):Int)<=i64.max/\
 ((y.size+(((((hP #[32,91])++g)++(hP #[93,40]))++((hP #[47])++a6))++(hP #[41])).size:Nat):Int)<=i64.max/\
 callE P eF #[hT U I O,.agg #[hY 27,hX ((hP #[47])++a6),hX (hP #[]),hY 0,hX (hP #[]),hV false,hT none 0 0,hT b6 b5 b7,hY 0,hY 0]] (λe f2=> ∃c5 b9 c8,e= hQ (hT c5 b9 c8)/\
 Xa E (y++(((((hP #[32,91])++g)++(hP #[93,40]))++((hP #[47])++a6))++(hP #[41]))) c5 b9 c8 b3 (i64.wrap (a7+1)) f2) g0) W)
 (br (b4==4)
 ((((hP #[32,92,42]).size+g.size:Nat):Int)<=i64.max/\
 ((y.size+((hP #[32,92,42])++g).size:Nat):Int)<=i64.max/\
 (((hP #[42]).size+g.size:Nat):Int)<=i64.max/\
 callE P eF #[hT U I O,.agg #[hY 20,hX ((hP #[42])++g),hX (hP #[]),hY 0,hX (hP #[]),hV false,hT none 0 0,hT none 0 0,hY 0,hY 0]] (λe e9=> ∃e2 c3 e3,e= hQ (hT e2 c3 e3)/\
 Xa E (y++((hP #[32,92,42])++g)) e2 c3 e3 b3 (i64.wrap (a7+1)) e9) W)
 ((((hP #[32]).size+g.size:Nat):Int)<=i64.max/\
 ((y.size+((hP #[32])++g).size:Nat):Int)<=i64.max/\
 0<=(0:Int)/\0<(b5:Int)/\
 aA b6 λf1=>
 ldA10 W (f1.add (Int.toNat 0*10)) λg1=>
 callE P eF #[hT U I O,g1.V] (λe f3=> ∃e0 c4 d2,e= hQ (hT e0 c4 d2)/\
 Xa E (y++((hP #[32])++g)) e0 c4 d2 b3 (i64.wrap (a7+1)) f3) W)))))) f6) e6) w)
 (R (hQ (.tuple #[hX y,hT e5 e8 e7])) w)
def l1 (R:EP)(U:OA)(V:BA)(E:OA)(y g:Nat)(I O:Int)(w:World):Prop:=
 ∀X:OA->BA->OA->Nat->Nat->Int->Int->WP,(∀U V E y g I O w,bl1 R X U V E y g I O w->X U V E y g I O w)->X U V E y g I O w
end dl
def dl (R:EP)(y:OA)(w:World):Prop:=
 callE P cG #[kT y] (λe a7=> ∃g,e= hQ (hX g)/\
 ∃E O,∃I W,(Instr.buildSlice au 1 #[(0,(N10.V {a0:=20,a1:=g}))]).run P a7= .ok (hT E O I) W/\
 callE P aS #[kT y,hY 3] (λe a6=> ∃U,e= hQ (hY U)/\
 dl.l1 R y g E O I U 0 a6) W) w
theorem dl.sound {R x0 w}(h:dl R x0 w):callE P eH #[kT x0] R w:=
 aG [(87,.lp [2,81,103,307,327] (dl.bl1 R) λXa=> [])] Tryz.func64 Tryz.call64 h
def i5 (R:EP)(g:OA)(a7:Int)(w:World):Prop:=
 tk w λy=>
 aA g λa2=>
 aA g λa3=>
 ∃b4,y.cell? (a2.add 1)=some (hY b4)/\
 ∃b8 V b6,y.cell? a3=some (hT b8 V b6)/\
 br (decide (b4 >= (V:Int)))
 (R (hQ (hY 0)) y)
 (aA g λb9=>
 ∃b3,y.cell? (b9.add 1)=some (hY b3)/\
 aA g λa8=>
 stV y ((a8.add 1).add 0) (hY (i64.wrap (b3+1))) λc1=>
 tk c1 λE=>
 aA g λa11=>
 aA g λa12=>
 ∃O U b5,E.cell? a11=some (hT O U b5)/\
 ∃I,E.cell? (a12.add 1)=some (hY I)/\
 0<=(i64.wrap (I - 1))/\(i64.wrap (I - 1))<(U:Int)/\
 aA O λb7=>
 ∃W,E.cell? (b7.add (Int.toNat (i64.wrap (I - 1))*1))=some (.int .u8 W)/\
 a7≠0/\
 R (hQ (hY (Int.tmod (i64.wrap W) a7))) E)
theorem i5.sound {R x0 x1 w}(h:i5 R x0 x1 w):callE P aS #[kT x0,hY x1] R w:=
 aG [(9,.dr (rpN [0,3,6,12,15,18,10,22,24,27])),(23,.dr (rpN [0,3,6,12,15,18,36,10,22,24,27,31,33,39,42]))] Tryz.func41 Tryz.call41 h
def iZ (R:EP)(E:OA)(w:World):Prop:=
 callE P aS #[kT E,hY 26] (λe I=> ∃g,e= hQ (hY g)/\
 tk I λO=>
 0<=g/\g<=(i64.wrap (g+1))/\(i64.wrap (g+1))<=((hP #[97,98,99,100,101,102,103,104,105,106,107,108,109,110,111,112,113,114,115,116,117,118,119,120,121,122]).size:Int)/\
 callE P aS #[kT E,hY 4] (λe U=> ∃y,e= hQ (hY y)/\
 0<=y/\y<=((hP #[111,110,108,121,119,111,114,100,115]).size:Int)/\
 ((((hP #[97,98,99,100,101,102,103,104,105,106,107,108,109,110,111,112,113,114,115,116,117,118,119,120,121,122]).extract (Int.toNat g) (Int.toNat (i64.wrap (g+1)))).size+((hP #[111,110,108,121,119,111,114,100,115]).extract 0 (Int.toNat y)).size:Nat):Int)<=i64.max/\
 R (hQ (hX (((hP #[97,98,99,100,101,102,103,104,105,106,107,108,109,110,111,112,113,114,115,116,117,118,119,120,121,122]).extract (Int.toNat g) (Int.toNat (i64.wrap (g+1))))++((hP #[111,110,108,121,119,111,114,100,115]).extract 0 (Int.toNat y))))) U) O) w
theorem iZ.sound {R x0 w}(h:iZ R x0 w):callE P cG #[kT x0] R w:=
 aG [(11,.dr (rpN [0,3,6,9,12,17,18,21,24]))] Tryz.func65 Tryz.call65 h
namespace av
def k4 (R:EP)(Xa:OA->BA->OA->Nat->Nat->Int->Bool->Int->WP)(g:OA)(c5:BA)(b6:OA)(c4 c2:Nat)(c9:Int)(c8:Bool)(c3:Value)(b5:Int)(w:World):Prop:=
 aA g λb7=>
 ∃V a6 O,w.cell? (b7.add 9)=some (hT V a6 O)/\
 ∃y E,∃U b4,(Instr.buildSlice ap 1 #[(0,c3)]).run P w= .ok (hT y E U) b4/\
 ∃I W,∃a7 b3,(Builtin.append_ #[ap,ap] ap #[hT V a6 O,hT y E U]).run P b4= .ok (hT I W a7) b3/\
 aA g λb8=>
 stV b3 ((b8.add 9).add 0) (hT I W a7) λb9=>
 callE P gS #[kT g,hY b5] (λe c1=>e= hQ (.tuple #[])/\
 Xa g c5 b6 c4 c2 c9 c8 b5 c1) b9
def k10 (R:EP)(Xa:OA->BA->OA->Nat->Nat->Int->Bool->Int->WP)(g:OA)(b9:BA)(b5:OA)(b8 b6:Nat)(d0:Int)(c1:Bool)(c9:Int)(b7:OA)(I:Int)(w:World):Prop:=
 aA g λc5=>
 ∃O U V,w.cell? (c5.add 9)=some (hT O U V)/\
 ∃a7 a6,∃W b4,(Instr.sliceAt ap (hT O U V) none (some (hY (i64.wrap (c9+1)))) none).run P w= .ok (hT a7 a6 W) b4/\
 aA g λc2=>
 stV b4 ((c2.add 9).add 0) (hT a7 a6 W) λc4=>
 callE P gS #[kT g,hY I] (λe y=>e= hQ (.tuple #[])/\
 aA b7 λc3=>
 ∃E,y.cell? c3=some (hX E)/\
 0<=(0:Int)/\0<(E.size:Int)/\
 br ((bt E 0)==91)
 (aA b7 λc8=>
 ∃b3,y.cell? (c8.add 1)=some (hY b3)/\
 Xa g b9 b5 b8 b6 b3 c1 I y)
 (Xa g b9 b5 b8 b6 d0 c1 I y)) c4
def k9 (R:EP)(Xa:OA->BA->OA->Nat->Nat->Int->Bool->Int->WP)(y:OA)(d1:BA)(c8:OA)(d0 c9:Nat)(d3:Int)(d2:Bool)(f2 g:Int)(U O:OA)(c5:Int)(w:World):Prop:=
 callE P du #[kT y,hY f2] (λe c3=>e= hQ (.tuple #[])/\
 aA y λe7=>
 ∃b4 c1 b3,c3.cell? (e7.add 9)=some (hT b4 c1 b3)/\
 ∃c2 W,∃b8 c4,(Instr.sliceAt ap (hT b4 c1 b3) (some (hY (i64.wrap (g+1)))) none none).run P c3= .ok (hT c2 W b8) c4/\
 callE P fw #[kT y,hT none 0 0,hT c2 W b8] (λe e4=> ∃b9 V b6,e= hQ (hT b9 V b6)/\
 aA O λe9=>
 stV e4 (e9.add 0) (hT b9 V b6) λE=>
 aA U λe8=>
 ∃I,E.cell? e8=some (hX I)/\
 0<=(0:Int)/\0<(I.size:Int)/\
 br ((bt I 0)==33)
 (aA y λe6=>
 ∃b7 a7 e0,E.cell? (e6.add 9)=some (hT b7 a7 e0)/\
 0<=g/\g<(a7:Int)/\
 aA b7 λf1=>
 stV E ((f1.add (Int.toNat g*1)).add 0) (.iface lQ (kT O)) λe5=>
 k10 R Xa y d1 c8 d0 c9 d3 d2 g U c5 e5)
 (aA y λe3=>
 ∃b5 a6 e1,E.cell? (e3.add 9)=some (hT b5 a6 e1)/\
 0<=g/\g<(a6:Int)/\
 aA b5 λf0=>
 stV E ((f0.add (Int.toNat g*1)).add 0) (.iface lP (kT O)) λe2=>
 k10 R Xa y d1 c8 d0 c9 d3 d2 g U c5 e2)) c4) w
def k8 (R:EP)(Xa:OA->BA->OA->Nat->Nat->Int->Bool->Int->WP)(g:OA)(U:BA)(W:OA)(b3 a7:Nat)(b5:Int)(b4:Bool)(V a6:Int)(O:OA)(d2:Bool)(w:World):Prop:=
 br d2
 (callE P eG #[kT g,hX U,hY V,kT O] (λe E=> ∃y I b6,e= hQ (.tuple #[kT y,hY I,hV b6])/\
 br b6
 (aA g λe0=>
 ∃c1,E.cell? (e0.add 6)=some (hV c1)/\
 br c1
 (aA g λd3=>
 stV E ((d3.add 6).add 0) (hV true) λd0=>
 k9 R Xa g U W b3 a7 b5 b4 V a6 O y I d0)
 (aA y λc2=>
 ∃b7,E.cell? (c2.add 4)=some (hV b7)/\
 br b7
 (aA g λc9=>
 stV E ((c9.add 6).add 0) (hV true) λc3=>
 k9 R Xa g U W b3 a7 b5 b4 V a6 O y I c3)
 (aA y λd1=>
 ∃b8,E.cell? (d1.add 1)=some (hX b8)/\
 callE P nx #[hX b8] (λe c8=> ∃b9,e= hQ (hV b9)/\
 aA g λc4=>
 stV c8 ((c4.add 6).add 0) (hV b9) λc5=>
 k9 R Xa g U W b3 a7 b5 b4 V a6 O y I c5) E)))
 (False)) w)
 (False)
def k7 (R:EP)(Xa:OA->BA->OA->Nat->Nat->Int->Bool->Int->WP)(U:OA)(b4:BA)(b3:OA)(g c3:Nat)(O:Int)(b5:Bool)(b6:Int)(c5:Bool)(w:World):Prop:=
 br c5
 (0<=(i64.wrap ((g:Int) - 1))/\(i64.wrap ((g:Int) - 1))<(g:Int)/\
 aA b3 λd0=>
 ∃y,w.cell? (d0.add (Int.toNat (i64.wrap ((g:Int) - 1))*1))=some (hY y)/\
 aA U λc8=>
 ∃b7 b8 c4,w.cell? (c8.add 9)=some (hT b7 b8 c4)/\
 0<=y/\y<(b8:Int)/\
 aA b7 λd2=>
 ∃(b9:Value),w.cell? (d2.add (Int.toNat y*1))=some b9/\
 ∃E c1,(Instr.typeAssert b9 aC aQ false).run P w= .ok (kT E) c1/\
 ∃a6 W,∃V I,(Instr.sliceAt cz (hT b3 g c3) none (some (hY (i64.wrap ((g:Int) - 1)))) none).run P c1= .ok (hT a6 W V) I/\
 aA E λc9=>
 ∃a7,I.cell? c9=some (hX a7)/\
 0<=(0:Int)/\0<(a7.size:Int)/\
 br ((bt a7 0)==33)
 (k8 R Xa U b4 a6 W V O b5 b6 y E true I)
 (aA E λd1=>
 ∃c2,I.cell? (d1.add 1)=some (hY c2)/\
 k8 R Xa U b4 a6 W V O b5 b6 y E (decide (O<=c2)) I))
 (Xa U b4 b3 g c3 O b5 (i64.wrap (b6+1)) w)
def k5 (R:EP)(Xa:OA->BA->OA->Nat->Nat->Int->Bool->Int->WP)(U:OA)(y:BA)(O:OA)(E I:Nat)(V:Int)(W:Bool)(g:Int)(w:World):Prop:=
 0<=g/\g<(y.size:Int)/\
 k7 R Xa U y O E I V W g (((bt y g)==93) && (decide ((E:Int)>0))) w
def k1 (R:EP)(Xa:OA->BA->OA->Nat->Nat->Int->Bool->Int->WP)(g:OA)(I:BA)(U:OA)(a6 W:Nat)(b4:Int)(a7:Bool)(d1:Int)(b3:Value)(w:World):Prop:=
 ∃d0 V,(do eqGuard .neq aX (.tmp 113) (.const .nilFunc) b3 .nilFunc;binOp .neq aX b3 .nilFunc).run P w= .ok (hV d0) V/\
 br d0
 (de P (do let d <-Deferred.ofValue b3 #[kT g,hX I,hY d1];invoke d.target d.args) (λe e3=> ∃(y:Value),∃b7 O b6,e= hQ (.tuple #[y,hY b7,hY O,hV b6])/\
 br b6
 (callE P du #[kT g,hY b7] (λe e2=>e= hQ (.tuple #[])/\
 ∃d2 b5 E,(Instr.typeAssert y aC aQ true).run P e2= .ok (.tuple #[kT d2,hV b5]) E/\
 br b5
 (aA g λe1=>
 ∃d3 c1 e0,E.cell? (e1.add 9)=some (hT d3 c1 e0)/\
 ∃c5 b8,∃c2 c8,(Instr.buildSlice cz 1 #[(0,hY (c1:Int))]).run P E= .ok (hT c5 b8 c2) c8/\
 ∃c3 c4,∃b9 c9,(Builtin.append_ #[cz,cz] cz #[hT U a6 W,hT c5 b8 c2]).run P c8= .ok (hT c3 c4 b9) c9/\
 k4 R Xa g I c3 c4 b9 b4 a7 y O c9)
 (k4 R Xa g I U a6 W b4 a7 y O E)) e3)
 (False)) V)
 (k5 R Xa g I U a6 W b4 a7 d1 V)
def k2 (R:EP)(Xa:OA->BA->OA->Nat->Nat->Int->Bool->Int->WP)(g:OA)(V:BA)(I:OA)(E y:Nat)(W:Int)(a6:Bool)(U:Int)(w:World):Prop:=
 aA g λO=>
 k1 R Xa g V I E y W a6 U (.func (.func bJ) #[kT (some (O.add 12))] #[]) w
def k6 (R:EP)(Xa:OA->BA->OA->Nat->Nat->Int->Bool->Int->WP)(g:OA)(O:BA)(y:OA)(I E:Nat)(V:Int)(U:Bool)(W:Int)(a7:Value)(a6:Int)(c5:Bool)(w:World):Prop:=
 br c5
 (aA g λc2=>
 ∃b3,w.cell? c2=some (kT b3)/\
 aA b3 λb9=>
 ∃b7,w.cell? (b9.add 9)=some (hV b7)/\
 br b7
 (k1 R Xa g O y I E V U W (.func (.func dR) #[] #[]) w)
 (k1 R Xa g O y I E V U W a7 w))
 (br (a6==126)
 (aA g λc4=>
 ∃b4,w.cell? c4=some (kT b4)/\
 aA b4 λc3=>
 ∃b5,w.cell? (c3.add 1)=some (hV b5)/\
 br b5
 (k1 R Xa g O y I E V U W (.func (.func dR) #[] #[]) w)
 (k1 R Xa g O y I E V U W a7 w))
 (br (a6==10)
 (k1 R Xa g O y I E V U W (.func (.func jU) #[] #[]) w)
 (br (a6==38)
 (k1 R Xa g O y I E V U W (.func (.func lY) #[] #[]) w)
 (br (a6==58)
 (aA g λc8=>
 ∃b8,w.cell? c8=some (kT b8)/\
 aA b8 λc1=>
 ∃b6,w.cell? (c1.add 6)=some (hV b6)/\
 br b6
 (k1 R Xa g O y I E V U W (.func (.func ru) #[] #[]) w)
 (k1 R Xa g O y I E V U W a7 w))
 (k1 R Xa g O y I E V U W a7 w)))))
def k3 (R:EP)(Xa:OA->BA->OA->Nat->Nat->Int->Bool->Int->WP)(g:OA)(O:BA)(y:OA)(I E:Nat)(V:Int)(U:Bool)(W:Int)(a7:Value)(a6:Int)(b8:Bool)(w:World):Prop:=
 br b8
 (k1 R Xa g O y I E V U W (.func (.func dR) #[] #[]) w)
 (br (a6==46)
 (aA g λc1=>
 ∃b5,w.cell? c1=some (kT b5)/\
 aA b5 λb9=>
 ∃b3,w.cell? (b9.add 7)=some (hV b3)/\
 br b3
 (k1 R Xa g O y I E V U W (.func (.func uz) #[] #[]) w)
 (k1 R Xa g O y I E V U W a7 w))
 (br (a6==45)
 (aA g λc2=>
 ∃b4,w.cell? c2=some (kT b4)/\
 aA b4 λb7=>
 ∃b6,w.cell? (b7.add 8)=some (hV b6)/\
 br b6
 (k1 R Xa g O y I E V U W (.func (.func sZ) #[] #[]) w)
 (k1 R Xa g O y I E V U W a7 w))
 (br (a6==34)
 (k6 R Xa g O y I E V U W a7 a6 true w)
 (k6 R Xa g O y I E V U W a7 a6 (a6==39) w))))
def bl1 (R:EP)(Xa:OA->BA->OA->Nat->Nat->Int->Bool->Int->WP)(g:OA)(y:BA)(I:OA)(U O:Nat)(W:Int)(V:Bool)(E:Int)(w:World):Prop:=
 br (decide (E<(y.size:Int)))
 (0<=E/\E<(y.size:Int)/\
 br ((bt y E)==92)
 (k1 R Xa g y I U O W V E (.func (.func ji) #[] #[]) w)
 (br ((bt y E)==96)
 (br (!V)
 (aA g λa9=>
 callE P dP #[kT (some (a9.add 12))] (λe g1=>e= hQ (.tuple #[])/\
 k2 R Xa g y I U O W true E g1) w)
 (k2 R Xa g y I U O W V E w))
 (br ((bt y E)==60)
 (k1 R Xa g y I U O W V E (.func (.func jV) #[] #[]) w)
 (br ((bt y E)==91)
 (k1 R Xa g y I U O W V E (.func (.func gA) #[] #[]) w)
 (br ((bt y E)==33)
 (k1 R Xa g y I U O W V E (.func (.func mK) #[] #[]) w)
 (br ((bt y E)==95)
 (k3 R Xa g y I U O W V E .nilFunc (bt y E) true w)
 (k3 R Xa g y I U O W V E .nilFunc (bt y E) ((bt y E)==42) w)))))))
 (callE P du #[kT g,hY (y.size:Int)] (λe g5=>e= hQ (.tuple #[])/\
 tk g5 λa6=>
 aA g λf5=>
 aA g λg6=>
 ∃c1 d1 a7,a6.cell? (f5.add 9)=some (hT c1 d1 a7)/\
 ∃c3 c8 e4,(∀w,(Instr.sliceAt ap (hT c1 d1 a7) none (some (hY 0)) none).run P w= .ok (hT c3 c8 e4) w)/\
 ∃c5 b7 e0,a6.cell? (g6.add 9)=some (hT c5 b7 e0)/\
 callE P fw #[kT g,hT c3 c8 e4,hT c5 b7 e0] (λe f2=> ∃e1 b8 d2,e= hQ (hT e1 b8 d2)/\
 aA g λf4=>
 stV f2 ((f4.add 9).add 0) (hT e1 b8 d2) λe9=>
 aA g λg4=>
 ∃e5 c9 e7,e9.cell? (g4.add 9)=some (hT e5 c9 e7)/\
 callE P fE #[kT g,hT e5 c9 e7] (λe f6=> ∃c2 e3 b5,e= hQ (hT c2 e3 b5)/\
 aA g λg3=>
 stV f6 ((g3.add 9).add 0) (hT c2 e3 b5) λf0=>
 aA g λf3=>
 ∃b9 d3 b3,f0.cell? (f3.add 9)=some (hT b9 d3 b3)/\
 callE P dU #[kT g,hT b9 d3 b3] (λe f1=> ∃d0 e6 b6,e= hQ (hT d0 e6 b6)/\
 aA g λg0=>
 stV f1 ((g0.add 9).add 0) (hT d0 e6 b6) λe8=>
 aA g λg2=>
 ∃e2 c4 b4,e8.cell? (g2.add 9)=some (hT e2 c4 b4)/\
 R (hQ (hT e2 c4 b4)) e8) f0) e9) a6) w)
def l1 (R:EP)(O:OA)(U:BA)(E:OA)(y g:Nat)(V:Int)(W:Bool)(I:Int)(w:World):Prop:=
 ∀X:OA->BA->OA->Nat->Nat->Int->Bool->Int->WP,(∀O U E y g V W I w,bl1 R X O U E y g V W I w->X O U E y g V W I w)->X O U E y g V W I w
end av
def av (R:EP)(g:OA)(V:BA)(w:World):Prop:=
 callE P iA #[hX V] (λe U=> ∃y,e= hQ (hX y)/\
 aA g λa3=>
 stV U ((a3.add 7).add 0) (hX y) λW=>
 aA g λa5=>
 stV W ((a5.add 9).add 0) (hT none 0 0) λE=>
 aA g λO=>
 stV E ((O.add 8).add 0) (hY 0) λI=>
 av.l1 R g y none 0 0 0 false 0 I) w
theorem av.sound {R x0 x1 w}(h:av R x0 x1 w):callE P fF #[kT x0,hX x1] R w:=
 aG [(2559,.lp [2,21,103,127,140,167] (av.bl1 R) λXa=> [(3541,.mk [2,21,103,127,140,167] (av.k2 R Xa)),(262101,.mk [2,21,103,127,140,167,185,788,1200] (av.k3 R Xa)),(16777173,.mk [2,21,103,127,140,167,185,788,1620] (av.k6 R Xa)),(29,.mk [2,21,103,127,140,167,185] (av.k1 R Xa)),(7597,.mk [2,21,103,127,140,205,247] (av.k4 R Xa)),(1965,.no),(61,.mk [2,21,103,127,140,167] (av.k5 R Xa)),(221,.mk [2,21,103,127,140,167,3300] (av.k7 R Xa)),(8029,.mk [2,21,103,127,140,167,327,342,3980] (av.k8 R Xa)),(225117,.mk [2,21,103,127,140,167,327,342,362,387] (av.k9 R Xa)),(2060125,.mk [2,21,103,127,140,327,342,387] (av.k10 R Xa)),(126813,.no),(16221,.no)]),(6143,.dr (rpN [0,3,6,9,12,21,24,27,16,18,31,35,36,39,44]))] Tryz.func82 Tryz.call82 h
namespace aD
def k8 (R:EP)(Xa:OA->BA->Int->Int->Int->Int->WP)(I E:Int)(g:BA)(w:World):Prop:=
 box w #[hX g] BF λO y=>
 R (hQ (.tuple #[.iface pu (kT (kE O)),hY I,hY E,hV true])) y
def k7 (R:EP)(Xa:OA->BA->Int->Int->Int->Int->WP)(y E:Int)(I:BA)(g:Bool)(w:World):Prop:=
 br g
 (False)
 (k8 R Xa y E I w)
def k6 (R:EP)(Xa:OA->BA->Int->Int->Int->Int->WP)(b4:OA)(a6:BA)(I O:Int)(y U:Int)(E b3:Int)(w:World):Prop:=
 br (b3==y)
 (0<=(i64.wrap (I+y))/\(i64.wrap (I+y))<=E/\E<=(a6.size:Int)/\
 callE P lH #[hX (a6.extract (Int.toNat (i64.wrap (I+y))) (Int.toNat E)),hX (hP #[10]),hX (hP #[32])] (λe V=> ∃g,e= hQ (hX g)/\
 ((decide ((g.size:Int) >= 2))=true->0<=(0:Int)/\0<(g.size:Int))/\
 (((decide ((g.size:Int) >= 2)) && ((bt g 0)==32))=true->0<=(i64.wrap ((g.size:Int) - 1))/\(i64.wrap ((g.size:Int) - 1))<(g.size:Int))/\
 br (((decide ((g.size:Int) >= 2)) && ((bt g 0)==32)) && ((bt g (i64.wrap ((g.size:Int) - 1)))==32))
 (callE P yU #[hX g] (λe a7=> ∃W,e= hQ (hX W)/\
 k7 R Xa O U g (!(W.toList==(hP #[]).toList)) a7) V)
 (k7 R Xa O U g false V)) w)
 (False)
def k5 (R:EP)(Xa:OA->BA->Int->Int->Int->Int->WP)(E:OA)(b3:BA)(b4 V:Int)(O U:Int)(y g:Int)(I:Bool)(w:World):Prop:=
 br I
 (aA E λa6=>
 0<=(i64.wrap (g - 1))/\(i64.wrap (g - 1))<(80:Int)/\
 stV w ((a6.add (Int.toNat (i64.wrap (g - 1))*1)).add 0) (hY y) λW=>
 k6 R Xa E b3 b4 V O U y g W)
 (False)
def k4 (R:EP)(Xa:OA->BA->Int->Int->Int->Int->WP)(I:OA)(V:BA)(W U:Int)(O g y:Int)(w:World):Prop:=
 aA I λa5=>
 ∃E,w.cell? (a5.add 80)=some (hV E)/\
 k5 R Xa I V W U O g y (i64.wrap (g - y)) ((!E) && (decide ((i64.wrap (g - y))<80))) w
def bl3 (R:EP)(Xa:OA->BA->Int->Int->Int->Int->WP)(W:OA->BA->Int->Int->Int->Int->Int->WP)(U:OA)(y:BA)(V O:Int)(E g I:Int)(w:World):Prop:=
 ((decide (g<(y.size:Int)))=true->0<=g/\g<(y.size:Int))/\
 br ((decide (g<(y.size:Int))) && ((bt y g)==96))
 (W U y V O E (i64.wrap (g+1)) I w)
 (k4 R Xa U y V O E g I w)
def l3 (R:EP)(Xa:OA->BA->Int->Int->Int->Int->WP)(U:OA)(O:BA)(V I:Int)(g y E:Int)(w:World):Prop:=
 ∀X:OA->BA->Int->Int->Int->Int->Int->WP,(∀U O V I g y E w,bl3 R Xa X U O V I g y E w->X U O V I g y E w)->X U O V I g y E w
def bl2 (R:EP)(Xa:OA->BA->Int->Int->Int->Int->WP)(O:OA)(y:BA)(U I:Int)(E g:Int)(w:World):Prop:=
 br (decide (g<(y.size:Int)))
 (0<=g/\g<(y.size:Int)/\
 br ((bt y g) !=96)
 (Xa O y U I E (i64.wrap (g+1)) w)
 (l3 R Xa O y U I E g g w))
 (False)
def l2 (R:EP)(O:OA)(I:BA)(U E:Int)(g y:Int)(w:World):Prop:=
 ∀X:OA->BA->Int->Int->Int->Int->WP,(∀O I U E g y w,bl2 R X O I U E g y w->X O I U E g y w)->X O I U E g y w
def k3 (R:EP)(O:OA)(I:BA)(y E g:Int)(w:World):Prop:=
 l2 R O I y E g (i64.wrap (y+g)) w
def k1 (R:EP)(y:OA)(O:BA)(E I g:Int)(w:World):Prop:=
 br (decide (g>80))
 (False)
 (aA y λa1=>
 ∃V,w.cell? (a1.add 80)=some (hV V)/\
 br V
 (aA y λa3=>
 0<=(i64.wrap (g - 1))/\(i64.wrap (g - 1))<(80:Int)/\
 ∃U,w.cell? (a3.add (Int.toNat (i64.wrap (g - 1))*1))=some (hY U)/\
 br (decide (U<(i64.wrap (E+g))))
 (False)
 (k3 R y O E I g w))
 (k3 R y O E I g w))
def bl1 (R:EP)(U:OA->BA->Int->Int->Int->WP)(O:OA)(E:BA)(y I g:Int)(w:World):Prop:=
 ((decide ((i64.wrap (y+g))<(E.size:Int)))=true->0<=(i64.wrap (y+g))/\(i64.wrap (y+g))<(E.size:Int))/\
 br ((decide ((i64.wrap (y+g))<(E.size:Int))) && ((bt E (i64.wrap (y+g)))==96))
 (False)
 (k1 R O E y I g w)
def l1 (R:EP)(I:OA)(E:BA)(O y g:Int)(w:World):Prop:=
 ∀X:OA->BA->Int->Int->Int->WP,(∀I E O y g w,bl1 R X I E O y g w->X I E O y g w)->X I E O y g w
end aD
def aD (R:EP)(E I:OA)(y:BA)(g:Int)(w:World):Prop:=
 aD.l1 R E y g g 1 w
theorem aD.sound {R x0 x1 x2 x3 w}(h:aD R x0 x1 x2 x3 w):callE P bJ #[kT x0,kT x1,hX x2,hY x3] R w:=
 aG [(77,.lp [2,41,67,247,267] (aD.bl1 R) λy=> [(10,.no)]),(61,.mk [2,41,67,247,267] (aD.k1 R)),(349,.no),(125,.mk [2,41,67,247,267] (aD.k3 R)),(701,.lp [2,41,67,247,267,287] (aD.bl2 R) λXa=> [(14,.no),(77,.lp [2,41,67,247,267,287,307] (aD.bl3 R Xa) λg=> []),(61,.mk [2,41,67,247,267,287,307] (aD.k4 R Xa)),(445,.mk [2,41,67,247,267,287,307,327,1860] (aD.k5 R Xa)),(957,.no),(253,.mk [2,41,67,247,267,287,307,327] (aD.k6 R Xa)),(14077,.mk [247,287,341,2640] (aD.k7 R Xa)),(22269,.no),(7933,.mk [247,287,341] (aD.k8 R Xa)),(1021,.no)]),(1021,.no)] Tryz.func111 Tryz.call111 h
def gn (R:EP)(m3:OA)(w:World):Prop:=
 aA m3 λa1=>
 stV w (a1.add 0) (hY 0) λn3=>
 stV n3 (a1.add 1) (hY 0) λn1=>
 stV n1 (a1.add 2) (hY 0) λm2=>
 stV m2 (a1.add 3) (hY 0) λm6=>
 stV m6 (a1.add 4) (hY 0) λn0=>
 stV n0 (a1.add 5) (hY 0) λm4=>
 stV m4 (a1.add 6) (hY 0) λm5=>
 stV m5 (a1.add 7) (hY 0) λn2=>
 stV n2 (a1.add 8) (hY 0) λU=>
 stV U (a1.add 9) (hY 0) λf4=>
 stV f4 (a1.add 10) (hY 0) λa7=>
 stV a7 (a1.add 11) (hY 0) λb3=>
 stV b3 (a1.add 12) (hY 0) λg7=>
 stV g7 (a1.add 13) (hY 0) λg0=>
 stV g0 (a1.add 14) (hY 0) λi8=>
 stV i8 (a1.add 15) (hY 0) λg3=>
 stV g3 (a1.add 16) (hY 0) λb9=>
 stV b9 (a1.add 17) (hY 0) λi1=>
 stV i1 (a1.add 18) (hY 0) λW=>
 stV W (a1.add 19) (hY 0) λh1=>
 stV h1 (a1.add 20) (hY 0) λl5=>
 stV l5 (a1.add 21) (hY 0) λy=>
 stV y (a1.add 22) (hY 0) λc4=>
 stV c4 (a1.add 23) (hY 0) λm1=>
 stV m1 (a1.add 24) (hY 0) λb7=>
 stV b7 (a1.add 25) (hY 0) λf3=>
 stV f3 (a1.add 26) (hY 0) λh6=>
 stV h6 (a1.add 27) (hY 0) λI=>
 stV I (a1.add 28) (hY 0) λk0=>
 stV k0 (a1.add 29) (hY 0) λh8=>
 stV h8 (a1.add 30) (hY 0) λh4=>
 stV h4 (a1.add 31) (hY 0) λg=>
 stV g (a1.add 32) (hY 0) λc2=>
 stV c2 (a1.add 33) (hY 0) λe4=>
 stV e4 (a1.add 34) (hY 0) λe0=>
 stV e0 (a1.add 35) (hY 0) λf5=>
 stV f5 (a1.add 36) (hY 0) λd1=>
 stV d1 (a1.add 37) (hY 0) λc5=>
 stV c5 (a1.add 38) (hY 0) λg5=>
 stV g5 (a1.add 39) (hY 0) λg2=>
 stV g2 (a1.add 40) (hY 0) λE=>
 stV E (a1.add 41) (hY 0) λf6=>
 stV f6 (a1.add 42) (hY 0) λe9=>
 stV e9 (a1.add 43) (hY 0) λe7=>
 stV e7 (a1.add 44) (hY 0) λV=>
 stV V (a1.add 45) (hY 0) λc1=>
 stV c1 (a1.add 46) (hY 0) λg1=>
 stV g1 (a1.add 47) (hY 0) λh2=>
 stV h2 (a1.add 48) (hY 0) λi2=>
 stV i2 (a1.add 49) (hY 0) λc3=>
 stV c3 (a1.add 50) (hY 0) λj1=>
 stV j1 (a1.add 51) (hY 0) λc8=>
 stV c8 (a1.add 52) (hY 0) λg6=>
 stV g6 (a1.add 53) (hY 0) λe5=>
 stV e5 (a1.add 54) (hY 0) λh7=>
 stV h7 (a1.add 55) (hY 0) λc9=>
 stV c9 (a1.add 56) (hY 0) λb8=>
 stV b8 (a1.add 57) (hY 0) λh5=>
 stV h5 (a1.add 58) (hY 0) λh3=>
 stV h3 (a1.add 59) (hY 0) λj0=>
 stV j0 (a1.add 60) (hY 0) λi4=>
 stV i4 (a1.add 61) (hY 0) λf1=>
 stV f1 (a1.add 62) (hY 0) λf0=>
 stV f0 (a1.add 63) (hY 0) λi3=>
 stV i3 (a1.add 64) (hY 0) λg4=>
 stV g4 (a1.add 65) (hY 0) λe1=>
 stV e1 (a1.add 66) (hY 0) λa6=>
 stV a6 (a1.add 67) (hY 0) λb4=>
 stV b4 (a1.add 68) (hY 0) λd2=>
 stV d2 (a1.add 69) (hY 0) λf2=>
 stV f2 (a1.add 70) (hY 0) λd3=>
 stV d3 (a1.add 71) (hY 0) λi0=>
 stV i0 (a1.add 72) (hY 0) λe8=>
 stV e8 (a1.add 73) (hY 0) λe6=>
 stV e6 (a1.add 74) (hY 0) λh9=>
 stV h9 (a1.add 75) (hY 0) λO=>
 stV O (a1.add 76) (hY 0) λe2=>
 stV e2 (a1.add 77) (hY 0) λb6=>
 stV b6 (a1.add 78) (hY 0) λd0=>
 stV d0 (a1.add 79) (hY 0) λe3=>
 stV e3 (a1.add 80) (hV false) λb5=>
 R (hQ (.tuple #[])) b5
theorem gn.sound {R x0 w}(h:gn R x0 w):callE P dP #[kT x0] R w:=
 cE Tryz.func110 Tryz.call110 h
namespace eZ
def bl1 (R:EP)(Xa:BA->BA->BA->OA->Nat->Nat->WP)(U b5 b6:BA)(a6:OA)(b3 a7:Nat)(w:World):Prop:=
 callE P lV #[hX U,hX b5] (λe b4=> ∃O,e= hQ (hY O)/\
 br (decide (O<0))
 (∃g E,∃y W,(Builtin.append_ #[bK,aq] bK #[hT a6 b3 a7,hX U]).run P b4= .ok (hT g E y) W/\
 ∃V I,(convert bK aq (hT g E y)).run P W= .ok (hX V) I/\
 R (hQ (hX V)) I)
 (False)) w
def l1 (R:EP)(O U I:BA)(g:OA)(E y:Nat)(w:World):Prop:=
 ∀X:BA->BA->BA->OA->Nat->Nat->WP,(∀O U I g E y w,bl1 R X O U I g E y w->X O U I g E y w)->X O U I g E y w
end eZ
def eZ (R:EP)(y E g:BA)(w:World):Prop:=
 eZ.l1 R y E g none 0 0 w
theorem eZ.sound {R x0 x1 x2 w}(h:eZ R x0 x1 x2 w):callE P lH #[hX x0,hX x1,hX x2] R w:=
 aG [(11,.lp [1,21,41,143] (eZ.bl1 R) λXa=> [(58,.no)])] Tryz.func77 Tryz.call77 h
def j3 (R:EP)(E:OA)(y:BA)(g:Int)(w:World):Prop:=
 ((!(decide (g >= (y.size:Int))))=true->0<=g/\g<(y.size:Int))/\
 br ((decide (g >= (y.size:Int)))||((bt y g) !=91))
 (R (hQ (.tuple #[hX (hP #[]),hY 0,hV false])) w)
 (False)
theorem j3.sound {R x0 x1 x2 w}(h:j3 R x0 x1 x2 w):callE P mJ #[kT x0,hX x1,hY x2] R w:=
 aG [(29,.no),(7,.no)] Tryz.func174 Tryz.call174 h
def jG (R:EP)(a7:Value)(y:BA)(w:World):Prop:=
 callE P kG #[hX y,hY 0] (λe a6=> ∃O,e= hQ (hY O)/\
 ∃I U,(Instr.typeAssert a7 mc ah false).run P a6= .ok (kT I) U/\
 callE P mJ #[kT I,hX y,hY O] (λe W=> ∃V g E,e= hQ (.tuple #[hX V,hY g,hV E])/\
 ((!((!E)||(decide (g >= (y.size:Int)))))=true->0<=g/\g<(y.size:Int))/\
 br (((!E)||(decide (g >= (y.size:Int))))||((bt y g) !=58))
 (R (hQ (.tuple #[hY 0,hV false])) W)
 (False)) U) w
theorem jG.sound {R x0 x1 w}(h:jG R x0 x1 w):callE P gU #[x0,hX x1] R w:=
 aG [(119,.no),(31,.no)] Tryz.func425 Tryz.call425 h
def nI (R:EP)(g:Int)(w:World):Prop:=
 R (hQ (hV ((((decide (65<=g)) && (decide (g<=70)))||((decide (97<=g)) && (decide (g<=102))))||((decide (48<=g)) && (decide (g<=57)))))) w
theorem nI.sound {R x0 w}(h:nI R x0 w):callE P lw #[.int .u8 x0] R w:=
 cE Tryz.func165 Tryz.call165 h
namespace gI
def bl1 (R:EP)(Xa:BA->Int->WP)(y:BA)(g:Int)(w:World):Prop:=
 br (decide (g<(y.size:Int)))
 (0<=g/\g<(y.size:Int)/\
 br ((bt y g)==37)
 (((!(decide ((i64.wrap (g+2)) >= (y.size:Int))))=true->0<=(i64.wrap (g+1))/\(i64.wrap (g+1))<(y.size:Int))/\
 br (decide ((i64.wrap (g+2)) >= (y.size:Int)))
 ((false=true->0<=(i64.wrap (g+2))/\(i64.wrap (g+2))<(y.size:Int))/\
 R (hQ (hV true)) w)
 (callE P lw #[.int .u8 (bt y (i64.wrap (g+1)))] (λe O=> ∃E,e= hQ (hV E)/\
 ((!(!E))=true->0<=(i64.wrap (g+2))/\(i64.wrap (g+2))<(y.size:Int))/\
 br (!E)
 (R (hQ (hV true)) O)
 (callE P lw #[.int .u8 (bt y (i64.wrap (g+2)))] (λe U=> ∃I,e= hQ (hV I)/\
 br (!I)
 (R (hQ (hV true)) U)
 (Xa y (i64.wrap (g+1)) U)) O)) w))
 (Xa y (i64.wrap (g+1)) w))
 (R (hQ (hV false)) w)
def l1 (R:EP)(y:BA)(g:Int)(w:World):Prop:=
 ∀X:BA->Int->WP,(∀y g w,bl1 R X y g w->X y g w)->X y g w
end gI
def gI (R:EP)(g:BA)(w:World):Prop:=
 gI.l1 R g 0 w
theorem gI.sound {R x0 w}(h:gI R x0 w):callE P nx #[hX x0] R w:=
 aG [(21,.lp [1,67] (gI.bl1 R) λXa=> [])] Tryz.func124 Tryz.call124 h
def jo (R:EP)(I:OA)(y:BA)(g:Int)(w:World):Prop:=
 0<=g/\g<=(i64.wrap (g+1))/\(i64.wrap (g+1))<=(y.size:Int)/\
 box w #[hX (y.extract (Int.toNat g) (Int.toNat (i64.wrap (g+1)))),hY (i64.wrap (g+1))] qY λb1 E=>
 R (hQ (.tuple #[.iface aQ (kT (kE b1)),hY g,hY (i64.wrap (g+1)),hV true])) E
theorem jo.sound {R x0 x1 x2 w}(h:jo R x0 x1 x2 w):callE P gA #[kT x0,hX x1,hY x2] R w:=
 cE Tryz.func113 Tryz.call113 h
def fa (R:EP)(U E:OA)(O I:Nat)(w:World):Prop:=
 aA U λa1=>
 ∃y,w.cell? a1=some (kT y)/\
 aA y λa3=>
 ∃g,w.cell? (a3.add 3)=some (hV g)/\
 br (!g)
 (R (hQ (hT E O I)) w)
 (False)
theorem fa.sound {R x0 x1q x1n x1c w}(h:fa R x0 x1q x1n x1c w):callE P dU #[kT x0,hT x1q x1n x1c] R w:=
 aG [(29,.no),(87,.no),(175,.no),(239,.no)] Tryz.func127 Tryz.call127 h
namespace bH
def k2 (R:EP)(Xa:OA->Nat->Nat->OA->Nat->Nat->Int->Int->WP)(b6:OA)(y b8:Nat)(b5:OA)(b3 a6:Nat)(g:Int)(w:World):Prop:=
 br (decide (g >= (y:Int)))
 (R (hQ (hT b5 b3 a6)) w)
 (0<=g/\g<(y:Int)/\
 aA b6 λb9=>
 ∃(b4:Value),w.cell? (b9.add (Int.toNat g*1))=some b4/\
 ∃I W,∃O a7,(Instr.buildSlice ap 1 #[(0,b4)]).run P w= .ok (hT I W O) a7/\
 ∃V U,∃E b7,(Builtin.append_ #[ap,ap] ap #[hT b5 b3 a6,hT I W O]).run P a7= .ok (hT V U E) b7/\
 Xa b6 y b8 V U E (i64.wrap (g+1)) (i64.wrap (g+1)) b7)
def k1 (R:EP)(Xa:OA->Nat->Nat->OA->Nat->Nat->Int->Int->WP)(E:OA)(I y:Nat)(b4:OA)(c1 b8:Nat)(c4 g:Int)(w:World):Prop:=
 br (decide (c4<g))
 (∃c2 b5,∃b7 b6,(Instr.sliceAt ap (hT E I y) (some (hY c4)) (some (hY g)) none).run P w= .ok (hT c2 b5 b7) b6/\
 callE P mt #[hT c2 b5 b7] (λe c5=> ∃c3,e= hQ (kT c3)/\
 ∃W a7,∃V b3,(Instr.buildSlice ap 1 #[(0,.iface bI (kT c3))]).run P c5= .ok (hT W a7 V) b3/\
 ∃U a6,∃O b9,(Builtin.append_ #[ap,ap] ap #[hT b4 c1 b8,hT W a7 V]).run P b3= .ok (hT U a6 O) b9/\
 k2 R Xa E I y U a6 O g b9) b6)
 (k2 R Xa E I y b4 c1 b8 g w)
def bl1 (R:EP)(Xa:OA->Nat->Nat->OA->Nat->Nat->Int->Int->WP)(E:OA)(y V:Nat)(U:OA)(O I:Nat)(a6 g:Int)(w:World):Prop:=
 br (decide (g<(y:Int)))
 (0<=g/\g<(y:Int)/\
 aA E λa3=>
 ∃(b3:Value),w.cell? (a3.add (Int.toNat g*1))=some b3/\
 callE P kF #[b3] (λe b5=> ∃a7,e= hQ (kT a7)/\
 ∃b4 W,(do eqGuard .neq bI (.tmp 21) (.const (kT none)) (kT a7) (kT none);binOp .neq bI (kT a7) (kT none)).run P b5= .ok (hV b4) W/\
 br b4
 (Xa E y V U O I a6 (i64.wrap (g+1)) W)
 (k1 R Xa E y V U O I a6 g W)) w)
 (k1 R Xa E y V U O I a6 g w)
def l1 (R:EP)(I:OA)(U O:Nat)(E:OA)(y g:Nat)(V W:Int)(w:World):Prop:=
 ∀X:OA->Nat->Nat->OA->Nat->Nat->Int->Int->WP,(∀I U O E y g V W w,bl1 R X I U O E y g V W w->X I U O E y g V W w)->X I U O E y g V W w
end bH
def bH (R:EP)(W I:OA)(U O:Nat)(w:World):Prop:=
 ∃g y,∃E V,(Instr.sliceAt ap (hT I U O) none (some (hY 0)) none).run P w= .ok (hT g y E) V/\
 bH.l1 R I U O g y E 0 0 V
theorem bH.sound {R x0 x1q x1n x1c w}(h:bH R x0 x1q x1n x1c w):callE P fE #[kT x0,hT x1q x1n x1c] R w:=
 aG [(87,.lp [23,103,127,147] (bH.bl1 R) λXa=> [(12,.mk [23,103,127,147] (bH.k1 R Xa)),(28,.mk [23,103,147] (bH.k2 R Xa))])] Tryz.func126 Tryz.call126 h
namespace fL
def bl1 (R:EP)(Xa:OA->Nat->Nat->OA->Nat->Nat->Int->Int->WP)(b7:OA)(b6 b9:Nat)(y:OA)(E c4:Nat)(b5 g:Int)(w:World):Prop:=
 br (decide (g<b5))
 (0<=g/\g<(E:Int)/\
 aA y λa5=>
 ∃(c3:Value),w.cell? (a5.add (Int.toNat g*1))=some c3/\
 callE P kF #[c3] (λe c1=> ∃c2,e= hQ (kT c2)/\
 aA c2 λa9=>
 ∃b3,c1.cell? a9=some (hX b3)/\
 ∃a6 O,∃V b8,(Instr.buildSlice al 1 #[(0,hX b3)]).run P c1= .ok (hT a6 O V) b8/\
 ∃U W,∃I a7,(Builtin.append_ #[al,al] al #[hT b7 b6 b9,hT a6 O V]).run P b8= .ok (hT U W I) a7/\
 Xa U W I y E c4 b5 (i64.wrap (g+1)) a7) w)
 (callE P ga #[hT b7 b6 b9,hX (hP #[])] (λe c8=> ∃b4,e= hQ (hX b4)/\
 box c8 #[hX b4] nW λc9 c5=>
 R (hQ (kT (kE c9))) c5) w)
def l1 (R:EP)(W:OA)(V O:Nat)(y:OA)(E g:Nat)(I U:Int)(w:World):Prop:=
 ∀X:OA->Nat->Nat->OA->Nat->Nat->Int->Int->WP,(∀W V O y E g I U w,bl1 R X W V O y E g I U w->X W V O y E g I U w)->X W V O y E g I U w
end fL
def fL (R:EP)(y:OA)(g O:Nat)(w:World):Prop:=
 br ((g:Int)==1)
 (0<=(0:Int)/\0<(g:Int)/\
 aA y λa1=>
 ∃(I:Value),w.cell? (a1.add (Int.toNat 0*1))=some I/\
 callE P kF #[I] (λe U=> ∃E,e= hQ (kT E)/\
 R (hQ (kT E)) U) w)
 (fL.l1 R none 0 0 y g O (g:Int) 0 w)
theorem fL.sound {R x0q x0n x0c w}(h:fL R x0q x0n x0c w):callE P mt #[hT x0q x0n x0c] R w:=
 aG [(87,.lp [63,263,287,307] (fL.bl1 R) λXa=> [])] Tryz.func180 Tryz.call180 h
def pS (R:EP)(E:Value)(w:World):Prop:=
 ∃W a6 y,(Instr.typeAssert E aC bI true).run P w= .ok (.tuple #[kT W,hV a6]) y/\
 br a6
 (R (hQ (kT W)) y)
 (∃U V I,(Instr.typeAssert E aC aT true).run P y= .ok (.tuple #[kT U,hV V]) I/\
 br V
 (aA U λa5=>
 R (hQ (kT (some a5))) I)
 (∃O a7 g,(Instr.typeAssert E aC aQ true).run P I= .ok (.tuple #[kT O,hV a7]) g/\
 br a7
 (aA O λa8=>
 R (hQ (kT (some a8))) g)
 (R (hQ (kT none)) g)))
theorem pS.sound {R x0 w}(h:pS R x0 w):callE P kF #[x0] R w:=
 cE Tryz.func138 Tryz.call138 h
namespace aw
def k4 (R:EP)(Xa:OA->Nat->Nat->Nat->Nat->Value->Value->Int->WP)(f5:OA)(f4 f2:Nat)(g g0:Nat)(g2 g1:Value)(f6:Int)(y f3:OA)(w:World):Prop:=
 aA y λh4=>
 ∃e8,w.cell? (h4.add 1)=some (hV e8)/\
 br e8
 (∃g3 O g4,w.cell? (hZ g 0)=some (hT g3 O g4)/\
 aA y λh3=>
 stV w ((h3.add 3).add 0) (hY (O:Int)) λf0=>
 ∃b7 a6 d0,f0.cell? (hZ g 0)=some (hT b7 a6 d0)/\
 ∃d3 c9,∃W e6,(Instr.buildSlice ap 1 #[(0,.iface aT (kT y))]).run P f0= .ok (hT d3 c9 W) e6/\
 ∃b3 c4,∃c8 e4,(Builtin.append_ #[ap,ap] ap #[hT b7 a6 d0,hT d3 c9 W]).run P e6= .ok (hT b3 c4 c8) e4/\
 stV e4 (hZ g 0) (hT b3 c4 c8) λe5=>
 aA f3 λg7=>
 ∃b8 c3 b9,e5.cell? g7=some (hT b8 c3 b9)/\
 ∃c2 d2,∃c1 f1,(Instr.buildSlice cK 1 #[(0,kT y)]).run P e5= .ok (hT c2 d2 c1) f1/\
 ∃U b4,∃V e7,(Builtin.append_ #[cK,cK] cK #[hT b8 c3 b9,hT c2 d2 c1]).run P f1= .ok (hT U b4 V) e7/\
 aA f3 λh2=>
 stV e7 (h2.add 0) (hT U b4 V) λg5=>
 Xa f5 f4 f2 g g0 g2 g1 (i64.wrap (f6+1)) g5)
 (tk w λE=>
 aA y λh1=>
 ∃b6 e0 e3,E.cell? (hZ g 0)=some (hT b6 e0 e3)/\
 ∃e1 d1,∃a7 I,(Instr.buildSlice ap 1 #[(0,.iface bI (kT (some h1)))]).run P E= .ok (hT e1 d1 a7) I/\
 SameC E I (hZ g 0) 1/\
 ∃e2 b5,∃c5 e9,(Builtin.append_ #[ap,ap] ap #[hT b6 e0 e3,hT e1 d1 a7]).run P I= .ok (hT e2 b5 c5) e9/\
 stV e9 (hZ g 0) (hT e2 b5 c5) λg6=>
 Xa f5 f4 f2 g g0 g2 g1 (i64.wrap (f6+1)) g6)
def k7 (R:EP)(Xa:OA->Nat->Nat->Nat->Nat->Value->Value->Int->WP)(e6:OA->Nat->Nat->Nat->Nat->Value->Value->Int->OA->OA->WP)(f1:OA->Nat->Nat->Nat->Nat->Value->Value->Int->OA->OA->Int->WP)(e0:OA)(d3 d1:Nat)(g e4:Nat)(e5 E:Value)(e2:Int)(d2 e3:OA)(f0:Int)(e9:Bool)(e1:OA)(w:World):Prop:=
 de P (do let d <-Deferred.ofValue E #[];invoke d.target d.args) (λe y=>e= hQ (.tuple #[])/\
 br e9
 (False)
 (br (f0==2)
 (∃c3 b3 b4,y.cell? (hZ g 0)=some (hT c3 b3 b4)/\
 ∃b6 c1,∃b5 c9,(Instr.buildSlice ap 1 #[(0,.iface fB (kT e1))]).run P y= .ok (hT b6 c1 b5) c9/\
 ∃U b9,∃b7 c5,(Builtin.append_ #[ap,ap] ap #[hT c3 b3 b4,hT b6 c1 b5]).run P c9= .ok (hT U b9 b7) c5/\
 stV c5 (hZ g 0) (hT U b9 b7) λe8=>
 e6 e0 d3 d1 g e4 e5 E e2 d2 e3 e8)
 (∃b8 c4 a7,y.cell? (hZ g 0)=some (hT b8 c4 a7)/\
 ∃I V,∃W c8,(Instr.buildSlice ap 1 #[(0,.iface je (kT e1))]).run P y= .ok (hT I V W) c8/\
 ∃O c2,∃a6 d0,(Builtin.append_ #[ap,ap] ap #[hT b8 c4 a7,hT I V W]).run P c8= .ok (hT O c2 a6) d0/\
 stV d0 (hZ g 0) (hT O c2 a6) λe7=>
 e6 e0 d3 d1 g e4 e5 E e2 d2 e3 e7))) w
def k2 (R:EP)(Xa:OA->Nat->Nat->Nat->Nat->Value->Value->Int->WP)(V:OA)(W I:Nat)(a7 b3:Nat)(a6 b4:Value)(O:Int)(y U:OA)(w:World):Prop:=
 aA y λE=>
 ∃g,w.cell? E=some (hX g)/\
 br (g.toList==(hP #[34]).toList)
 (False)
 (k4 R Xa V W I a7 b3 a6 b4 O y U w)
def k6 (R:EP)(Xa:OA->Nat->Nat->Nat->Nat->Value->Value->Int->WP)(g7:OA->Nat->Nat->Nat->Nat->Value->Value->Int->OA->OA->WP)(g5:OA->Nat->Nat->Nat->Nat->Value->Value->Int->OA->OA->Int->WP)(g0:OA)(f6 f5:Nat)(E g3:Nat)(g6 g4:Value)(g1:Int)(I g2 y:OA)(g:Int)(w:World):Prop:=
 aA I λi0=>
 ∃V,w.cell? i0=some (hX V)/\
 0<=(0:Int)/\0<(V.size:Int)/\
 tk w λO=>
 aA I λe9=>
 aA y λh4=>
 ∃a7,O.cell? e9=some (hX a7)/\
 0<=g/\g<=(a7.size:Int)/\
 ∃e3 c5 c1,O.cell? (hZ E 0)=some (hT e3 c5 c1)/\
 ∃f1,O.cell? (h4.add 3)=some (hY f1)/\
 ∃e1 e5 d1,(∀w,(Instr.sliceAt ap (hT e3 c5 c1) (some (hY (i64.wrap (f1+1)))) none none).run P w= .ok (hT e1 e5 d1) w)/\
 ∃b8 d0,∃e6 b5,(Builtin.append_ #[ap,ap] ap #[hT none 0 0,hT e1 e5 d1]).run P O= .ok (hT b8 d0 e6) b5/\
 SameC O b5 (e9) 1/\
 box b5 #[hX (a7.extract 0 (Int.toNat g)),hT b8 d0 e6] jr λf4 i1=>
 tk i1 λb4=>
 aA y λh8=>
 aA y λh6=>
 ∃b3,b4.cell? h8=some (hX b3)/\
 ∃W,b4.cell? h6=some (hX W)/\
 0<=(i64.wrap ((W.size:Int) - g))/\(i64.wrap ((W.size:Int) - g))<=(b3.size:Int)/\
 aA y λh3=>
 stV b4 (h3.add 0) (hX (b3.extract 0 (Int.toNat (i64.wrap ((W.size:Int) - g))))) λf2=>
 aA I λh7=>
 ∃U,f2.cell? h7=some (hX U)/\
 0<=g/\g<=(U.size:Int)/\
 aA I λh2=>
 stV f2 (h2.add 0) (hX (U.extract (Int.toNat g) U.size)) λb6=>
 aA y λh9=>
 ∃e8,b6.cell? h9=some (hX e8)/\
 br (e8.toList==(hP #[]).toList)
 (tk b6 λb7=>
 aA y λh1=>
 ∃c2 c9 e4,b7.cell? (hZ E 0)=some (hT c2 c9 e4)/\
 ∃f3,b7.cell? (h1.add 3)=some (hY f3)/\
 ∃d3 c3 e0,(∀w,(Instr.sliceAt ap (hT c2 c9 e4) none (some (hY f3)) none).run P w= .ok (hT d3 c3 e0) w)/\
 stV b7 (hZ E 0) (hT d3 c3 e0) λi2=>
 k7 R Xa g7 g5 g0 f6 f5 E g3 g6 g4 g1 I g2 g ((bt V 0)==126) (kE f4) i2)
 (tk b6 λa6=>
 aA y λh5=>
 ∃e2 d2 b9,a6.cell? (hZ E 0)=some (hT e2 d2 b9)/\
 ∃f0,a6.cell? (h5.add 3)=some (hY f0)/\
 ∃c8 e7 c4,(∀w,(Instr.sliceAt ap (hT e2 d2 b9) none (some (hY (i64.wrap (f0+1)))) none).run P w= .ok (hT c8 e7 c4) w)/\
 stV a6 (hZ E 0) (hT c8 e7 c4) λi3=>
 k7 R Xa g7 g5 g0 f6 f5 E g3 g6 g4 g1 I g2 g ((bt V 0)==126) (kE f4) i3)
def k1 (R:EP)(Xa:OA->Nat->Nat->Nat->Nat->Value->Value->Int->WP)(a6:OA)(b3 U:Nat)(b5 O:Nat)(I b6:Value)(W:Int)(g:OA)(w:World):Prop:=
 aA g λb8=>
 ∃b4,w.cell? b8=some (hX b4)/\
 br (!(b4.toList==(hP #[]).toList))
 (aA g λb7=>
 ∃E,w.cell? b7=some (hX E)/\
 0<=(0:Int)/\0<(E.size:Int)/\
 de P (do let d <-Deferred.ofValue I #[.int .u8 (bt E 0)];invoke d.target d.args) (λe a7=> ∃y,e= hQ (hY y)/\
 0<=y/\y<(5:Int)/\
 aA g λb9=>
 ∃V,a7.cell? b9=some (hX V)/\
 br (V.toList==(hP #[39]).toList)
 (False)
 (k2 R Xa a6 b3 U b5 O I b6 W g (some (((hZ O 0):Addr).add (Int.toNat y*1))) a7)) w)
 (Xa a6 b3 U b5 O I b6 (i64.wrap (W+1)) w)
def k5 (R:EP)(Xa:OA->Nat->Nat->Nat->Nat->Value->Value->Int->WP)(b7:OA->Nat->Nat->Nat->Nat->Value->Value->Int->OA->OA->WP)(b5:OA->Nat->Nat->Nat->Nat->Value->Value->Int->OA->OA->Int->WP)(V:OA)(U O:Nat)(a7 b3:Nat)(b6 b4:Value)(W:Int)(g a6:OA)(c5:Int)(y:OA)(w:World):Prop:=
 aA g λc1=>
 ∃E,w.cell? c1=some (hX E)/\
 0<=(0:Int)/\0<(E.size:Int)/\
 br ((bt E 0)==34)
 (False)
 (aA g λc2=>
 ∃I,w.cell? c2=some (hX I)/\
 0<=(0:Int)/\0<(I.size:Int)/\
 br ((bt I 0)==39)
 (False)
 (aA g λc4=>
 ∃b8,w.cell? c4=some (hX b8)/\
 br (decide ((b8.size:Int) >= 2))
 (aA y λc3=>
 ∃b9,w.cell? c3=some (hX b9)/\
 br (decide ((b9.size:Int) >= 2))
 (k6 R Xa b7 b5 V U O a7 b3 b6 b4 W g a6 y 2 w)
 (k6 R Xa b7 b5 V U O a7 b3 b6 b4 W g a6 y 1 w))
 (k6 R Xa b7 b5 V U O a7 b3 b6 b4 W g a6 y 1 w)))
def k3 (R:EP)(Xa:OA->Nat->Nat->Nat->Nat->Value->Value->Int->WP)(c1:OA->Nat->Nat->Nat->Nat->Value->Value->Int->OA->OA->WP)(b8:OA->Nat->Nat->Nat->Nat->Value->Value->Int->OA->OA->Int->WP)(a6:OA)(W V:Nat)(b5 b6:Nat)(b9 b7:Value)(b3:Int)(y b4:OA)(a7:Int)(I:OA)(w:World):Prop:=
 tk w λg=>
 aA y λc3=>
 ∃E,g.cell? c3=some (hX E)/\
 0<=(0:Int)/\0<(E.size:Int)/\
 br ((bt E 0)==126)
 (aA y λc4=>
 aA I λc2=>
 ∃U,g.cell? c4=some (hX U)/\
 ∃O,g.cell? c2=some (hX O)/\
 br ((U.size:Int) !=(O.size:Int))
 (False)
 (k5 R Xa c1 b8 a6 W V b5 b6 b9 b7 b3 y b4 a7 I g))
 (k5 R Xa c1 b8 a6 W V b5 b6 b9 b7 b3 y b4 a7 I g)
def bl3 (R:EP)(Xa:OA->Nat->Nat->Nat->Nat->Value->Value->Int->WP)(b7:OA->Nat->Nat->Nat->Nat->Value->Value->Int->OA->OA->WP)(b6:OA->Nat->Nat->Nat->Nat->Value->Value->Int->OA->OA->Int->WP)(V:OA)(O U:Nat)(b4 a7:Nat)(b3 b5:Value)(W:Int)(y a6:OA)(I:Int)(w:World):Prop:=
 br (decide (I >= 0))
 (aA a6 λo2=>
 ∃d1 c8 h4,w.cell? o2=some (hT d1 c8 h4)/\
 0<=I/\I<(c8:Int)/\
 aA d1 λk0=>
 ∃E,w.cell? (k0.add (Int.toNat I*1))=some (kT E)/\
 tk w λg=>
 aA y λm2=>
 ∃b8,g.cell? m2=some (hX b8)/\
 0<=(0:Int)/\0<(b8.size:Int)/\
 br ((bt b8 0)==42)
 (aA y λp5=>
 ∃g4,g.cell? (p5.add 1)=some (hV g4)/\
 br g4
 (aA y λn1=>
 ∃h1,g.cell? (n1.add 2)=some (hV h1)/\
 br h1
 (aA y λq1=>
 aA E λn0=>
 ∃e8,g.cell? (q1.add 4)=some (hY e8)/\
 ∃g2,g.cell? (n0.add 4)=some (hY g2)/\
 (3:Int)≠0/\
 br ((Int.tmod (i64.wrap (e8+g2)) 3)==0)
 (aA y λp4=>
 ∃e9,g.cell? (p4.add 4)=some (hY e9)/\
 (3:Int)≠0/\
 br ((Int.tmod e9 3) !=0)
 (b6 V O U b4 a7 b3 b5 W y a6 (i64.wrap (I - 1)) g)
 (aA E λo3=>
 ∃f5,g.cell? (o3.add 4)=some (hY f5)/\
 (3:Int)≠0/\
 br ((Int.tmod f5 3) !=0)
 (b6 V O U b4 a7 b3 b5 W y a6 (i64.wrap (I - 1)) g)
 (k3 R Xa b7 b6 V O U b4 a7 b3 b5 W y a6 I E g)))
 (k3 R Xa b7 b6 V O U b4 a7 b3 b5 W y a6 I E g))
 (aA E λp3=>
 ∃g7,g.cell? (p3.add 1)=some (hV g7)/\
 br g7
 (aA E λl5=>
 ∃f3,g.cell? (l5.add 2)=some (hV f3)/\
 br f3
 (aA y λq2=>
 aA E λm5=>
 ∃f6,g.cell? (q2.add 4)=some (hY f6)/\
 ∃e7,g.cell? (m5.add 4)=some (hY e7)/\
 (3:Int)≠0/\
 br ((Int.tmod (i64.wrap (f6+e7)) 3)==0)
 (aA y λm3=>
 ∃f2,g.cell? (m3.add 4)=some (hY f2)/\
 (3:Int)≠0/\
 br ((Int.tmod f2 3) !=0)
 (b6 V O U b4 a7 b3 b5 W y a6 (i64.wrap (I - 1)) g)
 (aA E λq0=>
 ∃f1,g.cell? (q0.add 4)=some (hY f1)/\
 (3:Int)≠0/\
 br ((Int.tmod f1 3) !=0)
 (b6 V O U b4 a7 b3 b5 W y a6 (i64.wrap (I - 1)) g)
 (k3 R Xa b7 b6 V O U b4 a7 b3 b5 W y a6 I E g)))
 (k3 R Xa b7 b6 V O U b4 a7 b3 b5 W y a6 I E g))
 (k3 R Xa b7 b6 V O U b4 a7 b3 b5 W y a6 I E g))
 (k3 R Xa b7 b6 V O U b4 a7 b3 b5 W y a6 I E g)))
 (aA E λn2=>
 ∃g1,g.cell? (n2.add 1)=some (hV g1)/\
 br g1
 (aA E λn3=>
 ∃f0,g.cell? (n3.add 2)=some (hV f0)/\
 br f0
 (aA y λo4=>
 aA E λm6=>
 ∃g0,g.cell? (o4.add 4)=some (hY g0)/\
 ∃g5,g.cell? (m6.add 4)=some (hY g5)/\
 (3:Int)≠0/\
 br ((Int.tmod (i64.wrap (g0+g5)) 3)==0)
 (aA y λq3=>
 ∃h2,g.cell? (q3.add 4)=some (hY h2)/\
 (3:Int)≠0/\
 br ((Int.tmod h2 3) !=0)
 (b6 V O U b4 a7 b3 b5 W y a6 (i64.wrap (I - 1)) g)
 (aA E λq4=>
 ∃g6,g.cell? (q4.add 4)=some (hY g6)/\
 (3:Int)≠0/\
 br ((Int.tmod g6 3) !=0)
 (b6 V O U b4 a7 b3 b5 W y a6 (i64.wrap (I - 1)) g)
 (k3 R Xa b7 b6 V O U b4 a7 b3 b5 W y a6 I E g)))
 (k3 R Xa b7 b6 V O U b4 a7 b3 b5 W y a6 I E g))
 (k3 R Xa b7 b6 V O U b4 a7 b3 b5 W y a6 I E g))
 (k3 R Xa b7 b6 V O U b4 a7 b3 b5 W y a6 I E g)))
 (aA y λm1=>
 ∃b9,g.cell? m1=some (hX b9)/\
 0<=(0:Int)/\0<(b9.size:Int)/\
 br ((bt b9 0)==95)
 (aA y λp1=>
 ∃g3,g.cell? (p1.add 1)=some (hV g3)/\
 br g3
 (aA y λq5=>
 ∃f4,g.cell? (q5.add 2)=some (hV f4)/\
 br f4
 (aA y λm4=>
 aA E λo0=>
 ∃e3,g.cell? (m4.add 4)=some (hY e3)/\
 ∃e4,g.cell? (o0.add 4)=some (hY e4)/\
 (3:Int)≠0/\
 br ((Int.tmod (i64.wrap (e3+e4)) 3)==0)
 (aA y λj0=>
 ∃e0,g.cell? (j0.add 4)=some (hY e0)/\
 (3:Int)≠0/\
 br ((Int.tmod e0 3) !=0)
 (b6 V O U b4 a7 b3 b5 W y a6 (i64.wrap (I - 1)) g)
 (aA E λh7=>
 ∃c5,g.cell? (h7.add 4)=some (hY c5)/\
 (3:Int)≠0/\
 br ((Int.tmod c5 3) !=0)
 (b6 V O U b4 a7 b3 b5 W y a6 (i64.wrap (I - 1)) g)
 (k3 R Xa b7 b6 V O U b4 a7 b3 b5 W y a6 I E g)))
 (k3 R Xa b7 b6 V O U b4 a7 b3 b5 W y a6 I E g))
 (aA E λj1=>
 ∃e6,g.cell? (j1.add 1)=some (hV e6)/\
 br e6
 (aA E λi8=>
 ∃c3,g.cell? (i8.add 2)=some (hV c3)/\
 br c3
 (aA y λi1=>
 aA E λi4=>
 ∃e1,g.cell? (i1.add 4)=some (hY e1)/\
 ∃d3,g.cell? (i4.add 4)=some (hY d3)/\
 (3:Int)≠0/\
 br ((Int.tmod (i64.wrap (e1+d3)) 3)==0)
 (aA y λi2=>
 ∃c9,g.cell? (i2.add 4)=some (hY c9)/\
 (3:Int)≠0/\
 br ((Int.tmod c9 3) !=0)
 (b6 V O U b4 a7 b3 b5 W y a6 (i64.wrap (I - 1)) g)
 (aA E λh3=>
 ∃c1,g.cell? (h3.add 4)=some (hY c1)/\
 (3:Int)≠0/\
 br ((Int.tmod c1 3) !=0)
 (b6 V O U b4 a7 b3 b5 W y a6 (i64.wrap (I - 1)) g)
 (k3 R Xa b7 b6 V O U b4 a7 b3 b5 W y a6 I E g)))
 (k3 R Xa b7 b6 V O U b4 a7 b3 b5 W y a6 I E g))
 (k3 R Xa b7 b6 V O U b4 a7 b3 b5 W y a6 I E g))
 (k3 R Xa b7 b6 V O U b4 a7 b3 b5 W y a6 I E g)))
 (aA E λi0=>
 ∃e2,g.cell? (i0.add 1)=some (hV e2)/\
 br e2
 (aA E λh8=>
 ∃d0,g.cell? (h8.add 2)=some (hV d0)/\
 br d0
 (aA y λh6=>
 aA E λi3=>
 ∃c2,g.cell? (h6.add 4)=some (hY c2)/\
 ∃d2,g.cell? (i3.add 4)=some (hY d2)/\
 (3:Int)≠0/\
 br ((Int.tmod (i64.wrap (c2+d2)) 3)==0)
 (aA y λh5=>
 ∃c4,g.cell? (h5.add 4)=some (hY c4)/\
 (3:Int)≠0/\
 br ((Int.tmod c4 3) !=0)
 (b6 V O U b4 a7 b3 b5 W y a6 (i64.wrap (I - 1)) g)
 (aA E λh9=>
 ∃e5,g.cell? (h9.add 4)=some (hY e5)/\
 (3:Int)≠0/\
 br ((Int.tmod e5 3) !=0)
 (b6 V O U b4 a7 b3 b5 W y a6 (i64.wrap (I - 1)) g)
 (k3 R Xa b7 b6 V O U b4 a7 b3 b5 W y a6 I E g)))
 (k3 R Xa b7 b6 V O U b4 a7 b3 b5 W y a6 I E g))
 (k3 R Xa b7 b6 V O U b4 a7 b3 b5 W y a6 I E g))
 (k3 R Xa b7 b6 V O U b4 a7 b3 b5 W y a6 I E g)))
 (k3 R Xa b7 b6 V O U b4 a7 b3 b5 W y a6 I E g)))
 (k1 R Xa V O U b4 a7 b3 b5 W y w)
def l3 (R:EP)(Xa:OA->Nat->Nat->Nat->Nat->Value->Value->Int->WP)(b4:OA->Nat->Nat->Nat->Nat->Value->Value->Int->OA->OA->WP)(E:OA)(O g:Nat)(a6 a7:Nat)(W b3:Value)(y:Int)(I U:OA)(V:Int)(w:World):Prop:=
 ∀X:OA->Nat->Nat->Nat->Nat->Value->Value->Int->OA->OA->Int->WP,(∀E O g a6 a7 W b3 y I U V w,bl3 R Xa b4 X E O g a6 a7 W b3 y I U V w->X E O g a6 a7 W b3 y I U V w)->X E O g a6 a7 W b3 y I U V w
def bl2 (R:EP)(Xa:OA->Nat->Nat->Nat->Nat->Value->Value->Int->WP)(b9:OA->Nat->Nat->Nat->Nat->Value->Value->Int->OA->OA->WP)(O:OA)(W E:Nat)(a7 b3:Nat)(a6 b4:Value)(I:Int)(g U:OA)(w:World):Prop:=
 aA g λb8=>
 ∃V,w.cell? b8=some (hX V)/\
 br (!(V.toList==(hP #[]).toList))
 (aA U λb7=>
 ∃b6 y b5,w.cell? b7=some (hT b6 y b5)/\
 l3 R Xa b9 O W E a7 b3 a6 b4 I g U (i64.wrap ((y:Int) - 1)) w)
 (k1 R Xa O W E a7 b3 a6 b4 I g w)
def l2 (R:EP)(Xa:OA->Nat->Nat->Nat->Nat->Value->Value->Int->WP)(E:OA)(U g:Nat)(W a6:Nat)(V a7:Value)(y:Int)(I O:OA)(w:World):Prop:=
 ∀X:OA->Nat->Nat->Nat->Nat->Value->Value->Int->OA->OA->WP,(∀E U g W a6 V a7 y I O w,bl2 R Xa X E U g W a6 V a7 y I O w->X E U g W a6 V a7 y I O w)->X E U g W a6 V a7 y I O w
def bl1 (R:EP)(Xa:OA->Nat->Nat->Nat->Nat->Value->Value->Int->WP)(I:OA)(E a7:Nat)(y V:Nat)(W b4:Value)(g:Int)(w:World):Prop:=
 br (decide (g<(E:Int)))
 (0<=g/\g<(E:Int)/\
 aA I λa5=>
 ∃(g1:Value),w.cell? (a5.add (Int.toNat g*1))=some g1/\
 ∃d1 f1 b5,(Instr.typeAssert g1 aC aQ true).run P w= .ok (.tuple #[kT d1,hV f1]) b5/\
 br f1
 (tk b5 λb9=>
 aA d1 λa10=>
 ∃f0 e4 e3,b9.cell? (hZ y 0)=some (hT f0 e4 e3)/\
 ∃e0 d0,∃c2 b8,(Instr.buildSlice ap 1 #[(0,.iface bI (kT (some a10)))]).run P b9= .ok (hT e0 d0 c2) b8/\
 SameC b9 b8 (hZ y 0) 1/\
 ∃e5 e2,∃c8 g0,(Builtin.append_ #[ap,ap] ap #[hT f0 e4 e3,hT e0 d0 c2]).run P b8= .ok (hT e5 e2 c8) g0/\
 stV g0 (hZ y 0) (hT e5 e2 c8) λh1=>
 Xa I E a7 y V W b4 (i64.wrap (g+1)) h1)
 (0<=g/\g<(E:Int)/\
 aA I λg7=>
 ∃(f5:Value),b5.cell? (g7.add (Int.toNat g*1))=some f5/\
 ∃U c1 O,(Instr.typeAssert f5 aC aT true).run P b5= .ok (.tuple #[kT U,hV c1]) O/\
 br (!c1)
 (tk O λa6=>
 0<=g/\g<(E:Int)/\
 aA I λg4=>
 ∃c5 e1 f2,a6.cell? (hZ y 0)=some (hT c5 e1 f2)/\
 ∃(f6:Value),a6.cell? (g4.add (Int.toNat g*1))=some f6/\
 ∃e7 c4,∃e8 b6,(Instr.buildSlice ap 1 #[(0,f6)]).run P a6= .ok (hT e7 c4 e8) b6/\
 SameC a6 b6 (hZ y 0) 1/\
 ∃c3 e9,∃d2 f3,(Builtin.append_ #[ap,ap] ap #[hT c5 e1 f2,hT e7 c4 e8]).run P b6= .ok (hT c3 e9 d2) f3/\
 stV f3 (hZ y 0) (hT c3 e9 d2) λg6=>
 Xa I E a7 y V W b4 (i64.wrap (g+1)) g6)
 (aA U λg3=>
 ∃f4,O.cell? (g3.add 2)=some (hV f4)/\
 br f4
 (aA U λg5=>
 ∃b7,O.cell? g5=some (hX b7)/\
 0<=(0:Int)/\0<(b7.size:Int)/\
 de P (do let d <-Deferred.ofValue W #[.int .u8 (bt b7 0)];invoke d.target d.args) (λe g2=> ∃b3,e= hQ (hY b3)/\
 0<=b3/\b3<(5:Int)/\
 l2 R Xa I E a7 y V W b4 g U (some (((hZ V 0):Addr).add (Int.toNat b3*1))) g2) O)
 (k1 R Xa I E a7 y V W b4 g U O))))
 (∃d3 c9 e6,w.cell? (hZ y 0)=some (hT d3 c9 e6)/\
 R (hQ (hT d3 c9 e6)) w)
def l1 (R:EP)(E:OA)(I g:Nat)(U V:Nat)(O W:Value)(y:Int)(w:World):Prop:=
 ∀X:OA->Nat->Nat->Nat->Nat->Value->Value->Int->WP,(∀E I g U V O W y w,bl1 R X E I g U V O W y w->X E I g U V O W y w)->X E I g U V O W y w
end aw
def aw (R:EP)(a7 I:OA)(V O:Nat)(E:OA)(U y:Nat)(w:World):Prop:=
 box w #[hT I V O] ap λb1 W=>
 box W #[hT none 0 0,hT none 0 0,hT none 0 0,hT none 0 0,hT none 0 0] jf λg a6=>
 aw.l1 R E U y b1 g (.func (.func fH) #[] #[]) (.func (.func fG) #[] #[kT (kE g),kT (kE b1)]) 0 a6
theorem aw.sound {R x0 x1q x1n x1c x2q x2n x2c w}(h:aw R x0 x1q x1n x1c x2q x2n x2c w):callE P fw #[kT x0,hT x1q x1n x1c,hT x2q x2n x2c] R w:=
 aG [(701,.lp [43,86,146,165,185,207] (aw.bl1 R) λXa=> [(305,.dr (rpN [3,6,9,12,1,17,20,23])),(601,.dr (rpN [3,6,9,1,13,17,20,23])),(11449,.lp [43,86,146,165,185,207,262,302] (aw.bl2 R Xa) λg=> [(41,.lp [43,86,146,165,185,207,262,302,327] (aw.bl3 R Xa g) λy=> [(73,.dr (rpN [0,3,6,9,13,15,18,21,24,27,30,33,37,39,42,45,48,51,54,57,61,63,66,69,72,76,78,81,84,87,90,94,96,99,102,105,109,111,114,117,120,123,126,129,135,138,141,133,145,147,150,153,156,159,162,165,168,172,174,177,180,183,186,189,193,195,198,201,204])),(57,.mk [43,86,146,165,185,207,262,302,327,342] (aw.k3 R Xa g y)),(153,.dr (rpN [0,3,6,9,13,15,18,21,24,27,30,33,42,45,48,51,37,39,55,57,60,63])),(345,.no),(121,.mk [43,86,146,165,185,207,262,302,327,342] (aw.k5 R Xa g y)),(697,.no),(1401,.no),(2041,.mk [43,86,146,165,185,207,262,302,342,367] (aw.k6 R Xa g y)),(6137,.dr (rpN [0,3,6,9,15,24,27,30,13,18,22,34,36,39,44,45,50,51])),(12281,.dr (rpN [0,3,6,9,12,18,21,24,27,36,16,31,33,39,42,45,48,51,56])),(180217,.dr (rpN [3,6,9,1,13,15,20])),(245753,.dr (rpN [3,6,9,1,13,15,18,23])),(65529,.mk [43,86,146,165,185,207,262,302,367,380,402] (aw.k7 R Xa g y)),(720889,.no)])]),(249,.mk [43,86,146,165,185,207,262] (aw.k1 R Xa)),(11001,.no),(3833,.mk [43,86,146,165,185,207,262,422] (aw.k2 R Xa)),(22265,.no),(7929,.mk [43,86,146,165,185,207,262,422] (aw.k4 R Xa)),(32505,.dr (rpN [3,6,9,12,1,17,20,23]))])] Tryz.func125 Tryz.call125 h
def gX (R:EP)(g:OA)(y:Int)(w:World):Prop:=
 aA g λa1=>
 ∃c2,w.cell? (a1.add 8)=some (hY c2)/\
 br (decide (c2<y))
 (tk w λE=>
 aA g λa4=>
 aA g λa5=>
 aA g λd0=>
 ∃b8 c1 b7,E.cell? (a4.add 9)=some (hT b8 c1 b7)/\
 ∃V,E.cell? (a5.add 7)=some (hX V)/\
 ∃I,E.cell? (d0.add 8)=some (hY I)/\
 0<=I/\I<=y/\y<=(V.size:Int)/\
 box E #[hX (V.extract (Int.toNat I) (Int.toNat y))] nW λc8 O=>
 SameC E O (a4.add 9) 1/\
 ∃b4 b3,∃W U,(Instr.buildSlice ap 1 #[(0,.iface bI (kT (kE c8)))]).run P O= .ok (hT b4 b3 W) U/\
 SameC O U (a4.add 9) 1/\
 ∃b6 b5,∃a7 b9,(Builtin.append_ #[ap,ap] ap #[hT b8 c1 b7,hT b4 b3 W]).run P U= .ok (hT b6 b5 a7) b9/\
 aA g λc9=>
 stV b9 ((c9.add 9).add 0) (hT b6 b5 a7) λc3=>
 aA g λc5=>
 stV c3 ((c5.add 8).add 0) (hY y) λc4=>
 R (hQ (.tuple #[])) c4)
 (R (hQ (.tuple #[])) w)
theorem gX.sound {R x0 x1 w}(h:gX R x0 x1 w):callE P du #[kT x0,hY x1] R w:=
 aG [(9,.dr (rpN [0,3,6,9,15,18,21,27,30,33,39,13,25,37,42,45,50,51,56,59,60,63,68]))] Tryz.func121 Tryz.call121 h
def jC (R:EP)(y:OA)(E:Int)(w:World):Prop:=
 aA y λa1=>
 stV w ((a1.add 8).add 0) (hY E) λg=>
 R (hQ (.tuple #[])) g
theorem jC.sound {R x0 x1 w}(h:jC R x0 x1 w):callE P gS #[kT x0,hY x1] R w:=
 cE Tryz.func122 Tryz.call122 h
namespace aH
def bl1 (R:EP)(Xa:OA->Int->WP)(g:OA)(E:Int)(w:World):Prop:=
 aA g λa3=>
 ∃O y I,w.cell? (a3.add 4)=some (hT O y I)/\
 br (decide ((y:Int)>E))
 (callE P aI #[kT g] (λe U=> ∃(V:Value),e= hQ V/\
 Xa g E U) w)
 (R (hQ (.tuple #[])) w)
def l1 (R:EP)(y:OA)(g:Int)(w:World):Prop:=
 ∀X:OA->Int->WP,(∀y g w,bl1 R X y g w->X y g w)->X y g w
def k1 (R:EP)(y:OA)(g:Int)(w:World):Prop:=
 l1 R y g w
end aH
def aH (R:EP)(y:OA)(E:Int)(w:World):Prop:=
 aA y λa1=>
 ∃I g O,w.cell? (a1.add 4)=some (hT I g O)/\
 br (decide ((g:Int)<E))
 (False)
 (aH.k1 R y E w)
theorem aH.sound {R x0 x1 w}(h:aH R x0 x1 w):callE P bj #[kT x0,hY x1] R w:=
 aG [(10,.no),(3,.mk [2,27] (aH.k1 R)),(5,.lp [2,27] (aH.bl1 R) λXa=> [])] Tryz.func81 Tryz.call81 h
namespace aK
def k3 (R:EP)(g:OA)(I:Value)(w:World):Prop:=
 tk w λU=>
 aA g λf2=>
 aA g λf0=>
 ∃b5 c4 a6,U.cell? (f2.add 4)=some (hT b5 c4 a6)/\
 ∃e8 c8 e6,U.cell? (f0.add 4)=some (hT e8 c8 e6)/\
 ∃V b4 c5,(∀w,(Instr.sliceAt f8 (hT b5 c4 a6) none (some (hY (i64.wrap ((c8:Int) - 1)))) none).run P w= .ok (hT V b4 c5) w)/\
 aA g λf4=>
 stV U ((f4.add 4).add 0) (hT V b4 c5) λO=>
 aA g λf6=>
 ∃e7 b9 e3,O.cell? (f6.add 4)=some (hT e7 b9 e3)/\
 br (decide ((b9:Int)>0))
 (tk O λE=>
 aA g λe9=>
 aA g λg0=>
 ∃c9 a7 e2,E.cell? (e9.add 4)=some (hT c9 a7 e2)/\
 ∃e4 y e5,E.cell? (g0.add 4)=some (hT e4 y e5)/\
 0<=(i64.wrap ((y:Int) - 1))/\(i64.wrap ((y:Int) - 1))<(a7:Int)/\
 aA c9 λd2=>
 ∃c3 W c2,E.cell? ((d2.add (Int.toNat (i64.wrap ((y:Int) - 1))*4)).add 1)=some (hT c3 W c2)/\
 ∃c1 b3,∃b7 d3,(Instr.buildSlice f9 1 #[(0,I)]).run P E= .ok (hT c1 b3 b7) d3/\
 ∃d0 b8,∃b6 e1,(Builtin.append_ #[f9,f9] f9 #[hT c3 W c2,hT c1 b3 b7]).run P d3= .ok (hT d0 b8 b6) e1/\
 stV e1 (((d2.add (Int.toNat (i64.wrap ((y:Int) - 1))*4)).add 1).add 0) (hT d0 b8 b6) λf1=>
 R (hQ I) f1)
 (∃e0 d1,(Instr.typeAssert I aO df false).run P O= .ok (kT e0) d1/\
 aA g λf3=>
 stV d1 ((f3.add 1).add 0) (kT e0) λf5=>
 R (hQ I) f5)
def k2 (R:EP)(E:OA)(U:Value)(V:OA)(w:World):Prop:=
 aA E λO=>
 ∃g,w.cell? O=some (kT g)/\
 aA g λI=>
 ∃y,w.cell? (I.add 2)=some (hV y)/\
 br y
 (False)
 (k3 R E U w)
def k1 (R:EP)(g b8:OA)(w:World):Prop:=
 aA b8 λa10=>
 ∃(U:Value),w.cell? a10=some U/\
 de P (callMethod U "pub-paratext/pub/rscmarkdown.build" #[.iface ah (kT g)]) (λe b6=> ∃(E:Value),e= hQ E/\
 ∃I O y,(Instr.typeAssert E aO dn true).run P b6= .ok (.tuple #[kT I,hV O]) y/\
 br O
 (aA g λb7=>
 ∃V,y.cell? (b7.add 6)=some (hV V)/\
 br V
 (aA g λa6=>
 stV y ((a6.add 6).add 0) (hV true) λb3=>
 k2 R g E I b3)
 (callE P lr #[kT I] (λe b4=> ∃W,e= hQ (hV W)/\
 aA g λb5=>
 stV b4 ((b5.add 6).add 0) (hV W) λa7=>
 k2 R g E I a7) y))
 (k3 R g E y)) w
end aK
def aK (R:EP)(E:OA)(w:World):Prop:=
 tk w λy=>
 aA E λa2=>
 aA E λa3=>
 ∃O U b4,y.cell? (a2.add 4)=some (hT O U b4)/\
 ∃b5 g b3,y.cell? (a3.add 4)=some (hT b5 g b3)/\
 0<=(i64.wrap ((g:Int) - 1))/\(i64.wrap ((g:Int) - 1))<(U:Int)/\
 aA O λW=>
 ∃(I:Value),y.cell? (W.add (Int.toNat (i64.wrap ((g:Int) - 1))*4))=some I/\
 ∃V a7,(do eqGuard .eql bO (.tmp 22) (.const .nilIface) I .nilIface;binOp .eql bO I .nilIface).run P y= .ok (hV V) a7/\
 br V
 (False)
 (aK.k1 R E (some (W.add (Int.toNat (i64.wrap ((g:Int) - 1))*4))) a7)
theorem aK.sound {R x0 w}(h:aK R x0 w):callE P aI #[kT x0] R w:=
 aG [(5,.dr (rpN [0,3,6,12,15,18,10,22,24,27,30,33])),(43,.no),(15,.mk [2,62] (aK.k1 R)),(879,.mk [2,85,102] (aK.k2 R)),(2927,.no),(63,.mk [2,85] (aK.k3 R)),(95,.dr (rpN [0,3,6,9,15,18,21,13,25,27,30,33,36,39,44])),(1215,.dr (rpN [0,3,6,12,15,18,10,22,24,27,30,33]))] Tryz.func107 Tryz.call107 h
def iW (R:EP)(b5:OA)(E:Value)(w:World):Prop:=
 tk w λy=>
 ∃r2,(∀w,(Instr.typeAssert E mc ah false).run P w= .ok (kT r2) w)/\
 aA r2 λa3=>
 ∃(a7:Option Nat),y.cell? (a3.add 2)=some (.map a7)/\
 de P (callMethod E "pub-paratext/pub/rscmarkdown.pos" #[]) (λe g=> ∃I O,e= hQ (.agg #[hY I,hY O])/\
 SameC y g (a3.add 2) 1/\
 de P (callMethod E "pub-paratext/pub/rscmarkdown.blocks" #[]) (λe a6=> ∃U W V,e= hQ (hT U W V)/\
 SameC g a6 (a3.add 2) 1/\
 box a6 #[hY I,hY O,hT U W V,.map a7] oT λb4 b3=>
 R (hQ (.iface df (kT (kE b4)))) b3) g) y
theorem iW.sound {R x0 x1 w}(h:iW R x0 x1 w):callE P iL #[kT x0,x1] R w:=
 aG [(5,.dr (rpN [0,6,12,15,18,21,25,5,11,27,32,33,36]))] Tryz.func368 Tryz.call368 h
namespace cH
def k1 (R:EP)(d1:OA)(b6:Value)(b7:BA)(w:World):Prop:=
 br (b7.toList==(hP #[]).toList)
 (False)
 (de P (callMethod b6 "pub-paratext/pub/rscmarkdown.pos" #[]) (λe c9=> ∃O I,e= hQ (.agg #[hY O,hY I])/\
 box c9 #[hY 0,hY 0] aF λg c1=>
 stV c1 (hZ g 0) (hY O) λc4=>
 stV c4 (hZ g 1) (hY I) λc5=>
 tk c5 λE=>
 aA d1 λc8=>
 ∃V,E.cell? (hZ g 0)=some (hY V)/\
 ∃b9 U b8,E.cell? c8=some (hT b9 U b8)/\
 stV E (hZ g 1) (hY (i64.wrap ((i64.wrap (V+(U:Int))) - 1))) λc2=>
 tk c2 λy=>
 ∃a7,y.cell? (hZ g 0)=some (hY a7)/\
 ∃b3,y.cell? (hZ g 1)=some (hY b3)/\
 ∃a6,y.cell? (hZ g 0)=some (hY a6)/\
 ∃b4,y.cell? (hZ g 1)=some (hY b4)/\
 de P (callMethod b6 "pub-paratext/pub/rscmarkdown.newText" #[.agg #[hY a6,hY b4],hX b7]) (λe W=> ∃b5,e= hQ (kT b5)/\
 SameC y W (hZ g 0) 2/\
 box W #[hY a7,hY b3,kT b5] m7 λc3 d0=>
 R (hQ (.iface bD (kT (kE c3)))) d0) y) w)
def bl1 (R:EP)(Xa:OA->Value->BA->WP)(U:OA)(E:Value)(g:BA)(w:World):Prop:=
 br (!(g.toList==(hP #[]).toList))
 (callE P gU #[E,hX g] (λe O=> ∃I y,e= hQ (.tuple #[hY I,hV y])/\
 br (!y)
 (k1 R U E g O)
 (False)) w)
 (False)
def l1 (R:EP)(y:OA)(g:Value)(E:BA)(w:World):Prop:=
 ∀X:OA->Value->BA->WP,(∀y g E w,bl1 R X y g E w->X y g E w)->X y g E w
end cH
def cH (R:EP)(g:OA)(a7:Value)(w:World):Prop:=
 aA g λa1=>
 ∃E,w.cell? (a1.add 1)=some (kT E)/\
 ∃V y,(do eqGuard .neq ft (.tmp 12) (.const (kT none)) (kT E) (kT none);binOp .neq ft (kT E) (kT none)).run P w= .ok (hV V) y/\
 br V
 (False)
 (aA g λa5=>
 ∃I U O,y.cell? a5=some (hT I U O)/\
 callE P ga #[hT I U O,hX (hP #[10])] (λe a6=> ∃W,e= hQ (hX W)/\
 cH.l1 R g a7 W a6) y)
theorem cH.sound {R x0 x1 w}(h:cH R x0 x1 w):callE P iN #[kT x0,x1] R w:=
 aG [(21,.no),(39,.lp [2,25,101] (cH.bl1 R) λXa=> [(14,.no),(117,.no)]),(31,.mk [2,25,101] (cH.k1 R)),(175,.no),(191,.dr (rpN [0,6,9,12,4,16,18,21,24,27,32])),(383,.dr (rpN [3,9,1,7,14,15,20,21,24]))] Tryz.func422 Tryz.call422 h
def io (R:EP)(c2:OA)(c3 c4:Int)(c9:BA)(w:World):Prop:=
 box w #[hY c3,hY c4] aF λb1 g=>
 ∃b9,g.cell? (hZ b1 0)=some (hY b9)/\
 ∃c1,g.cell? (hZ b1 1)=some (hY c1)/\
 box g #[hY b9,hY c1,hT none 0 0,hX c9] BC λb7 b8=>
 aA c2 λc8=>
 ∃V b3 a6,b8.cell? (c8.add 11)=some (hT V b3 a6)/\
 ∃b6 O,∃W U,(Instr.buildSlice kr 1 #[(0,kT (kE b7))]).run P b8= .ok (hT b6 O W) U/\
 ∃I y,∃E b4,(Builtin.append_ #[kr,kr] kr #[hT V b3 a6,hT b6 O W]).run P U= .ok (hT I y E) b4/\
 aA c2 λa13=>
 stV b4 ((a13.add 11).add 0) (hT I y E) λc5=>
 R (hQ (kT (kE b7))) c5
theorem io.sound {R x0 x1_0 x1_1 x2 w}(h:io R x0 x1_0 x1_1 x2 w):callE P fk #[kT x0,.agg #[hY x1_0,hY x1_1],hX x2] R w:=
 cE Tryz.func192 Tryz.call192 h
end Go.Proofs.YtendaipfdnhnaaaGreatDoor
