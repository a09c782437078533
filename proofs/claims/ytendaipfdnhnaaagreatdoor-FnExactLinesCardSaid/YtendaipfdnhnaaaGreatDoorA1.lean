/- Part 1 of the proof of the law FnExactLines: for every input the law returns true, the inputs read as they did, and memory that was there is as it was; under the conditions of the given row alone. -/
import Derived.Tactics
import Derived.Orders
import Derived.KernelRfl
import Derived.Scope
import Derived.OrdersHeld
import Derived.ArgAppend
import Derived.ChangeFn
import Derived.IntWalk
import Derived.ChangeSame
import Derived.Test.YtendaipfdnhnaaaGreatDoorProg
set_option linter.all false
open Go.IntKind(i64)
open ByteArray renaming mk→hP
open List renaming replicate→hN
namespace Go.Proofs.YtendaipfdnhnaaaGreatDoor

abbrev Fr:=Nat->Value
def upd (ρ:Fr)(d:Nat)(v:Value):Fr:=λt=>match Nat.beq t d with|true=>v|false=>ρ t
def rj (ρ:Fr):Option Nat->Value->Fr
 |none,_=>ρ
 |some d,v=>upd ρ d v
def rd (ρ:Fr):Operand->Value
 | .tmp t=>ρ t
 | .const v=>v
 | .global g=> .pointer (some ⟨g,0,none⟩)
 | .func f=> .func (.func f) #[] #[]
structure RelF (n:Nat) (a:Act) (ρ:Fr):Prop where
 size:a.tmps.size=n
 defers:a.defers= []
 get: ∀t,a.tmps.getD t undef=ρ t

theorem rt (ρ:Fr)(d:Nat):upd ρ d (ρ d)=ρ:=by
 funext t
 unfold upd
 cases h:Nat.beq t d with
 |true=>rw[Nat.eq_of_beq_eq_true h]
 |false=>rfl

theorem RelF.eval {n:Nat}{a:Act}{ρ:Fr}(h:RelF n a ρ)(x:Operand):a.eval x=rd ρ x:=by
 cases x<;>simp[Act.eval,rd,h.get]

theorem RelF.put {n:Nat}{a:Act}{ρ:Fr}(h:RelF n a ρ)(d:Option Nat)(v:Value)(hd: ∀k,d=some k->k<n):RelF n (a.put d v) (rj ρ d v):=by
 cases d with
 |none=>exact h
 |some d=>
  have y:=hd d rfl
  refine⟨by simp[Act.put,h.size],by simp[Act.put,h.defers],λt=>?_⟩
  have hs:=h.size
  simp only[Act.put,rj,upd]
  cases e:Nat.beq t d with
  |true=>
   have:=Nat.eq_of_beq_eq_true e
   subst this
   simp[Array.getD,hs,y]
  |false=>
   have g:t≠d:=λhc=>by subst hc;simp at e
   have E:=h.get t
   simp only[<-E,Array.getD_eq_getD_getElem?]
   rw[Array.getElem?_setIfInBounds_ne (Ne.symm g)]

inductive STy where
 |bool|int (k:IntKind)|str|ptr|slice|map|any
  |loc
def STy.of:Value->STy
 | .bool _=> .bool
 | .int k _=> .int k
 | .string _=> .str
 | .pointer _=> .ptr
 | .slice .. => .slice
 | .map _=> .map
 |_=> .any
inductive CTy where
 |s (t:STy)
 |agg (ts:List STy)
def CTy.of:Value->CTy
 | .agg cs=> .agg (cs.toList.map STy.of)
 |v=> .s (STy.of v)
inductive Ty where
 |c (t:CTy)
 |tuple (ts:List CTy)
def Ty.of:Value->Ty
 | .tuple vs=> .tuple (vs.toList.map CTy.of)
 |v=> .c (CTy.of v)
def FX (P:Program)(t:TypeId):Ty:=
 match P.types[t]? with
 |some i=>match i.zero with
  |some z=>Ty.of z
  |none=> .c (.s .any)
 |none=> .c (.s .any)

def DS (P:Program)(t:TypeId):CTy:=
 match FX P t with
 | .c c=>c
 | .tuple _=> .s .any
def okTy (c:CTy)(ok:Bool):Ty:=
 match ok with
 |true=> .tuple [c,.s .bool]
 |false=> .c c

def STy.ex:STy->(Value->Prop)->Prop
 | .bool,K=> ∃b:Bool,K (.bool b)
 | .int k,K=> ∃n:Int,K (.int k n)
 | .str,K=> ∃s:ByteArray,K (.string s)
 | .ptr,K=> ∃q:Option Addr,K (.pointer q)
 | .slice,K=> ∃(q:Option Addr) (n c:Nat),K (.slice q n c)
 | .map,K=> ∃q:Option Nat,K (.map q)
 | .any,K=> ∃v:Value,K v
 | .loc,K=> ∃b:Nat,K (.pointer (some ⟨b,0,none⟩))
def exS:List STy->(List Value->Prop)->Prop
 | [],K=>K []
 |t::ts,K=>t.ex λv=>exS ts λvs=>K (v::vs)
def CTy.ex:CTy->(Value->Prop)->Prop
 | .s t,K=>t.ex K
 | .agg ts,K=>exS ts λvs=>K (.agg vs.toArray)
def exC:List CTy->(List Value->Prop)->Prop
 | [],K=>K []
 |t::ts,K=>t.ex λv=>exC ts λvs=>K (v::vs)
def Ty.ex:Ty->(Value->Prop)->Prop
 | .c t,K=>t.ex K
 | .tuple ts,K=>exC ts λvs=>K (.tuple vs.toArray)

theorem STy.ex_out {t:STy}{K:Value->Prop}(h:t.ex K): ∃v,K v:=by
 cases t<;>simp only[STy.ex] at h
 case slice=>obtain⟨q,n,c,h⟩:=h;exact⟨_,h⟩
 all_goals obtain⟨x,h⟩:=h;exact⟨_,h⟩
theorem Cl: ∀ {ts:List STy} {K:List Value->Prop},exS ts K-> ∃vs,K vs/\vs.length=ts.length
 | [],_,h=>⟨[],h,rfl⟩
 |_::_,_,h=>by
  obtain⟨v,h⟩:=STy.ex_out h
  obtain⟨vs,h,g⟩:=Cl h
  exact⟨_,h,by simp[g]⟩
theorem CTy.ex_out {t:CTy}{K:Value->Prop}(h:t.ex K): ∃v,K v:=by
 cases t with
 |s t=>exact STy.ex_out h
 |agg ts=>obtain⟨vs,h,_⟩:=Cl h;exact⟨_,h⟩
theorem Cm: ∀ {ts:List CTy} {K:List Value->Prop},exC ts K-> ∃vs,K vs
 | [],_,h=>⟨[],h⟩
 |_::_,_,h=>by
  obtain⟨v,h⟩:=CTy.ex_out h
  obtain⟨vs,h⟩:=Cm h
  exact⟨_,h⟩
theorem Ty.ex_out {t:Ty}{K:Value->Prop}(h:t.ex K): ∃v,K v:=by
 cases t with
 |c t=>exact CTy.ex_out h
 |tuple ts=>obtain⟨vs,h⟩:=Cm h;exact⟨_,h⟩

def mL (P:Program){g:Type}:Sem g->Option g
 | .pure a=>some a
 | .program k=>mL P (k P)
 |_=>none
theorem jS (P:Program){g:Type}(s:Sem g)(a:g)(h:mL P s=some a)(w:World):s.run P w= .ok a w:=by
 induction s with
 |pure x=>simp only[mL,Option.some.injEq] at h;subst h;rfl
 |program k y=>exact y P h
 |_=>simp[mL] at h
def nY (P:Program)(s:Sem Value)(K:Value->Prop):Prop:=
 match mL P s with
 |some v=>K v
 |none=>False

def alc (w:World)(cs:Array Value)(e:TypeId):World:= {w with heap:=w.heap.push (.cells cs e)}
def aA (q:Option Addr)(K:Addr->Prop):Prop:=
 match q with
 |some a=>K a
 |none=>False
def GT:Value->Prop
 | .iface _ _=>True
 | .func (.func _) _ _=>True
 |_=>False
def nilV (v:Value)(K:Value->Prop):Prop:=
 match v with
 | .pointer q=>aA q λa=>K (.pointer (some a))
 |v=>GT v/\K v
def ldS (w:World):List STy->Addr->Nat->(List Value->Prop)->Prop
 | [],_,_,K=>K []
 |t::ts,a,i,K=>t.ex λv=>w.cell? (a.add i)=some v/\ldS w ts a (i+1) λvs=>K (v::vs)
def zj (P:Program)(t:TypeId):Bool:=
 match P.underlying t with
 |some (.struct _)|some (.array _ _)=>true
 |_=>false
def yd (P:Program)(t:TypeId)(a:Addr)(w:World)(K:Value->Prop):Prop:=
 match P.info? t,P.underlying t with
 |some i,some _=>match zj P t,i.zero with
  |true,some (.agg cs)=>match Nat.beq cs.toList.length i.size with
   |true=>ldS w (cs.toList.map STy.of) a 0 λvs=>K (.agg vs.toArray)
   |false=>False
  |false,some z=>(STy.of z).ex λv=>w.cell? a=some v/\K v
  |_,_=>False
 |_,_=>False
def nA:Value->Prop
 | .agg _| .tuple _=>False
 |_=>True
def stV (w:World)(a:Addr)(v:Value)(K:World->Prop):Prop:=
 nA v/\(∃u,w.cell? a=some u)/\w.frozen? a=false/\K (w.setCell a v)
def stS:List Value->Addr->Nat->World->(World->Prop)->Prop
 | [],_,_,w,K=>K w
 |v::vs,a,i,w,K=>stV w (a.add i) v λg=>stS vs a (i+1) g K
def Cy (v:Value)(K:Prop):Prop:=
 match v with
 | .bool _=>K
 | .int _ _=>K
 | .string _=>K
 | .pointer _=>K
 | .slice _ _ _=>K
 | .map _=>K
 | .func _ _ _=>K
 | .nilFunc=>K
 | .iface _ _=>K
 | .nilIface=>K
 | .agg _=>False
 | .tuple _=>False
 |v=>nA v/\K
def ue (P:Program)(t:TypeId)(v:Value)(K:List Value->Prop):Prop:=
 match zj P t with
 |true=>match v with
  | .agg cs=>K cs.toList
  |_=>False
 |false=>Cy v (K [v])
def Bc (P:Program)(t:TypeId)(a:Addr)(v:Value)(w:World)(K:World->Prop):Prop:=
 match P.info? t with
 |some i=>ue P t v λcs=>match Nat.beq cs.length i.size with
  |true=>stS cs a 0 w K
  |false=>False
 |none=>False
def setCells:List Value->Nat->List Value->List Value
 |cs,_,[]=>cs
 |cs,off,v::vs=>setCells (cs.set off v) (off+1) vs
def buildS (P:Program)(fs:Array Field):List (Nat × Value)->List Value->(List Value->Prop)->Prop
 | [],cs,K=>K cs
 |(i,v)::ps,cs,K=>match fs[i]? with
  |some f=>match P.info? f.type with
   |some g=>ue P f.type v λxs=>match Nat.beq xs.length g.size,Nat.ble (f.offset+xs.length) cs.length with
    |true,true=>buildS P fs ps (setCells cs f.offset xs) K
    |_,_=>False
   |none=>False
  |none=>False
def bt (s:ByteArray)(n:Int):Int:=((s.data.getD n.toNat 0).toNat:Int)
def callE (P:Program)(f:FuncId)(g:Array Value)(R:Ending->World->Prop)(w:World):Prop:=
 ((∀g w,(callFunc f g).run P w= .ok (.enter f g) w)/\Calls P f g w R)\/ ∃v y,(callFunc f g).run P w= .ok (.value v) y/\R (.returned v) y
def cY (P:Program)(s:Sem Next)(R:Ending->World->Prop)(w:World):Prop:=
 (∃f y g,s.run P w= .ok (.enter f y) g/\Calls P f y g R)\/ ∃v g,s.run P w= .ok (.value v) g/\R (.returned v) g
def sU (P:Program)(s:Sem Value)(ty:Ty)(K:Value->World->Prop)(w:World):Prop:=
 ty.ex λv=> ∃g,s.run P w= .ok v g/\K v g
def semU (P:Program)(s:Sem Unit)(K:World->Prop)(w:World):Prop:=
 ∃g,s.run P w= .ok () g/\K g

def Gq (P:Program)(s:Sem Value)(y:Bool)(K:Value->World->Prop)(w:World):Prop:=
 (∃g,s.run P w= .ok (.tuple #[.bool false]) g/\K (.tuple #[.bool false]) g)\/
 match y with
 |true=> ∃(i c:Int),∃g,s.run P w= .ok (.tuple #[.bool true,.int .i64 i,.int .i32 c]) g/\K (.tuple #[.bool true,.int .i64 i,.int .i32 c]) g
 |false=> ∃(k v:Value),∃g,s.run P w= .ok (.tuple #[.bool true,k,v]) g/\K (.tuple #[.bool true,k,v]) g

def Bp (P:Program)(t:TypeId):Bool:=
 match P.underlying t with
 |some (.int _)|some .string|some .bool=>true
 |_=>false
def binV (P:Program)(op:BinOp)(xt:TypeId)(H E:Operand)(x g:Value)(ty:Ty)(K:Value->World->Prop)(w:World):Prop:=
 match Bp P xt with
 |false=>sU P (do eqGuard op xt H E x g;binOp op xt x g) ty K w
 |true=>
 match x,g with
 | .int k a,.int k' b=>match op with
  | .quo=>b≠0/\match decide (k=k') with
   |true=>K (.int k (k.wrap (a.tdiv b))) w
   |false=>False
  | .rem=>b≠0/\match decide (k=k') with
   |true=>K (.int k (a.tmod b)) w
   |false=>False
  | .shl=>0<=b/\K (.int k (k.wrap (a*2 ^ (min b.toNat k.bits)))) w
  | .shr=>0<=b/\K (.int k (a.fdiv (2 ^ (min b.toNat k.bits)))) w
  |_=>nY P (do eqGuard op xt H E x g;binOp op xt x g) λv=>K v w
 | .string a,.string b=>match op with
  | .add=>((a.size+b.size:Nat):Int)<=i64.max/\K (.string (a++b)) w
  |_=>nY P (do eqGuard op xt H E x g;binOp op xt x g) λv=>K v w
 | .bool _,.bool _=>nY P (do eqGuard op xt H E x g;binOp op xt x g) λv=>K v w
 |_,_=>sU P (do eqGuard op xt H E x g;binOp op xt x g) ty K w

def oZ (s:ByteArray)(lo hi:Option Value)(K:Value->Prop):Prop:=
 match lo,hi with
 |none,none=>K (.string s)
 |some (.int _ l),none=>0<=l/\l<=s.size/\K (.string (s.extract l.toNat s.size))
 |none,some (.int _ h)=>0<=h/\h<=s.size/\K (.string (s.extract 0 h.toNat))
 |some (.int _ l),some (.int _ h)=>0<=l/\l<=h/\h<=s.size/\K (.string (s.extract l.toNat h.toNat))
 |_,_=>False

def opV (P:Program)(o:Oper)(ρ:Fr)(K:Value->World->Prop)(w:World):Prop:=
 match o.op with
 | .move x| .assign x=>K (rd ρ x) w
 | .pick c x y=>match rd ρ c with
  | .bool b=>match b with
   |true=>K (rd ρ x) w
   |false=>K (rd ρ y) w
  |_=>False
 | .binOp op xt x y _=>binV P op xt x y (rd ρ x) (rd ρ y) (.c (.s .bool)) K w
 | .unOp op _ x=>nY P (Op.unary op (rd ρ x)) λv=>K v w
 | .nilCheck x=>nilV (rd ρ x) λv=>K v w
 | .fieldAddr s x f=>match rd ρ x with
  | .pointer (some a)=>match P.underlying s with
   |some (.struct fs)=>match fs[f]? with
    |some H=>match P.info? H.type with
     |some i=>match i.size with
      |0=>sU P (Instr.fieldAt s (rd ρ x) f) (.c (.s .ptr)) K w
      |_+1=>K (.pointer (some (a.add H.offset))) w
     |none=>False
    |none=>False
   |_=>False
  |_=>False
 | .field xt x f=>nY P (Instr.field xt (rd ρ x) f) λv=>K v w
 | .load t x=>match rd ρ x with
  | .pointer (some a)=>yd P t a w λv=>K v w
  |_=>False
 | .store t x y=>match rd ρ x with
  | .pointer (some a)=>Bc P t a (rd ρ y) w λg=>K undef g
  |_=>False
 | .box e x=>ue P e (rd ρ x) λcs=> ∀b,w.heap.size=b->K (.pointer (some ⟨b,0,none⟩)) (alc w cs.toArray e)
 | .alloc e=>match P.info? e with
  |some i=>match i.zero with
   |some z=>ue P e z λcs=> ∀b,w.heap.size=b->K (.pointer (some ⟨b,0,none⟩)) (alc w cs.toArray e)
   |none=>False
  |none=>False
 | .build t parts=>match P.underlying t,P.info? t with
  |some (.struct fs),some E=>match E.zero with
   |some (.agg I)=>match fs.toList.all λf=>(P.info? f.type).isSome with
    |true=>buildS P fs (parts.toList.map λ(i,x)=>(i,rd ρ x)) I.toList λcs=>K (.agg cs.toArray) w
    |false=>False
   |_=>False
  |_,_=>nY P (Instr.build t (parts.map λ(i,x)=>(i,rd ρ x))) λv=>K v w
 | .buildSlice t len parts=>sU P (Instr.buildSlice t len (parts.map λ(i,x)=>(i,rd ρ x))) (.c (.s .slice)) K w
 | .makeInterface t x=>nY P (Instr.makeInterface t (rd ρ x)) λv=>K v w
 | .makeFunc fn first captured=>K (.func fn (first.map (rd ρ)) (captured.map (rd ρ))) w
 | .extract x i=>match rd ρ x with
  | .tuple vs=>match vs[i]? with
   |some v=>K v w
   |none=>False
  |_=>False
 | .index xt x i=>match rd ρ x,rd ρ i with
  | .string s,.int _ n=>match P.underlying xt with
   |some .string=>0<=n/\n<s.size/\K (.int .u8 (bt s n)) w
   |_=>False
  |x',i'=>match P.underlying xt with
   |some (.array _ e)=>sU P (Instr.index xt x' i') (.c (DS P e)) K w
   |_=>False
 | .indexAddr t x i=>match rd ρ x,rd ρ i with
  | .slice q len _,.int _ n=>match P.underlying t with
   |some (.slice e)=>match P.info? e with
    |some E=>0<=n/\n<len/\aA q λa=>K (.pointer (some (a.add (n.toNat*E.size)))) w
    |none=>False
   |_=>False
  | .pointer (some ad),.int _ n=>match P.underlying t with
   |some (.array len e)=>match P.info? e with
    |some E=>0<=n/\n<(len:Int)/\K (.pointer (some (ad.add (n.toNat*E.size)))) w
    |none=>False
   |_=>False
  |x',i'=>sU P (Instr.indexAt t x' i') (.c (.s .ptr)) K w
 | .slice t x lo hi mx=>match rd ρ x with
  | .string s=>match P.underlying t,mx with
   |some .string,none=>oZ s (lo.map (rd ρ)) (hi.map (rd ρ)) λv=>K v w
   |_,_=>False
  |x'=>sU P (Instr.sliceAt t x' (lo.map (rd ρ)) (hi.map (rd ρ)) (mx.map (rd ρ))) (.c (.s .slice)) K w
 | .convert src dst x=>match rd ρ x with
  | .int _ n=>match P.underlying src,P.underlying dst with
   |some (.int _),some (.int k)=>K (.int k (k.wrap n)) w
   |some (.int _),some .string=>K (.string (Utf8.encode n)) w
   |_,_=>False
  | .string s=>match P.underlying src,P.underlying dst with
   |some .string,some .string=>K (.string s) w
   |_,_=>sU P (convert src dst (rd ρ x)) (FX P dst) K w
  |x'=>sU P (convert src dst x') (FX P dst) K w
 | .typeAssert x xt asserted ok=>sU P (Instr.typeAssert (rd ρ x) xt asserted ok) (okTy (DS P asserted) ok) K w
 | .makeMap t r=>sU P (Instr.makeMap t (r.map (rd ρ))) (.c (.s .map)) K w
 | .makeSlice t l c=>sU P (Instr.makeSlice t (rd ρ l) (rd ρ c)) (.c (.s .slice)) K w
 | .lookup xt x i ok=>match P.underlying xt with
  |some (.map _ e)=>sU P (Instr.lookup xt (rd ρ x) (rd ρ i) ok) (okTy (DS P e) ok) K w
  |_=>False
 | .mapUpdate t m k x| .insert t m k x=>semU P (Instr.mapUpdate t (rd ρ m) (rd ρ k) (rd ρ x)) (λg=>K undef g) w
 | .range xt x=>sU P (Instr.range xt (rd ρ x)) (.c (.s .any)) K w
 | .next it isString=>Gq P (Instr.next (rd ρ it) isString o.type) isString K w
 | .call c=>match c.callee with
  | .builtin .len=>match c.argTypes[0]?,c.args[0]? with
   |some t,some x=>match P.underlying t,rd ρ x with
    |some .string,.string s=>K (.int .i64 s.size) w
    |some (.slice _),.slice _ n _=>K (.int .i64 n) w
    |_,v=>sU P (Builtin.len_ c.argTypes o.type #[v]) (.c (.s (.int .i64))) K w
   |_,_=>False
  | .builtin .append=>sU P (Builtin.append_ c.argTypes o.type (c.args.map (rd ρ))) (.c (.s .slice)) K w
  | .builtin .copy=>sU P (Builtin.copy_ c.argTypes o.type (c.args.map (rd ρ))) (.c (.s (.int .i64))) K w
  | .builtin .cap=>sU P (Builtin.cap_ c.argTypes o.type (c.args.map (rd ρ))) (.c (.s (.int .i64))) K w
  | .builtin .max=>sU P (Builtin.max_ c.argTypes o.type (c.args.map (rd ρ))) (.c (.s (.int .i64))) K w
  | .builtin .min=>sU P (Builtin.min_ c.argTypes o.type (c.args.map (rd ρ))) (.c (.s (.int .i64))) K w
  | .builtin .unsafeSliceData=>sU P (Builtin.unsafeSliceData_ c.argTypes o.type (c.args.map (rd ρ))) (.c (.s .ptr)) K w
  | .builtin .unsafeString=>sU P (Builtin.unsafeString_ c.argTypes o.type (c.args.map (rd ρ))) (.c (.s .str)) K w
  | .builtin _=>False
  | .value (.func f)=>callE P f (c.args.map (rd ρ)) (λe g=>(FX P o.type).ex λv=>e= .returned v/\K v g) w
  | .value x=>cY P (do let d <-Deferred.ofValue (rd ρ x) (c.args.map (rd ρ));invoke d.target d.args) (λe g=>(FX P o.type).ex λv=>e= .returned v/\K v g) w
  | .invoke r name=>cY P (callMethod (rd ρ r) name (c.args.map (rd ρ))) (λe g=>(FX P o.type).ex λv=>e= .returned v/\K v g) w
 |_=>False

end Go.Proofs.YtendaipfdnhnaaaGreatDoor


namespace Go.Proofs.YtendaipfdnhnaaaGreatDoor
variable {P:Program}

def Ei (a:Act)(o:Oper)(K:Value->World->Prop)(g:Act)(y:World):Prop:= ∃v,g=a.put o.dst v/\K v y

theorem bf {o:Oper}{a:Act}{K:Value->World->Prop}{Q:Exit->Act->World->Prop}{r:Result Next}{v:Value}{g:World}(h:r= .ok (.value v) g)(y:K v g):o.upon P a (Ei a o K) Q r:=by
 subst h;exact⟨v,rfl,y⟩
theorem uj {o:Oper}{a:Act}{K:Value->World->Prop}{Q:Exit->Act->World->Prop}{r:Result Next}{g:World}(h:r= .ok .skip g)(y:K undef g):o.upon P a (Ei a o K) Q r:=by
 subst h;exact⟨undef,rfl,y⟩
theorem rI {o:Oper}{a:Act}{K:Value->World->Prop}{Q:Exit->Act->World->Prop}{r:Result Next}{f:FuncId}{g:Array Value}{E:World}{ty:Ty}(h:r= .ok (.enter f g) E)(H:Calls P f g E λe y=>ty.ex λv=>e= .returned v/\K v y):o.upon P a (Ei a o K) Q r:=by
 subst h
 refine Calls.mono H λe y I=>?_
 obtain⟨v,rfl,hv⟩:=Ty.ex_out I
 exact⟨v,rfl,hv⟩

theorem aU {s:Sem Value}{v:Value}{w g:World}(h:s.run P w= .ok v g):
 (s>>=λv=>pure (.value v):Sem Next).run P w= .ok (.value v) g:=by
 rw[Sem.run_bind,h];rfl
theorem rR {s:Sem Unit}{w g:World}(h:s.run P w= .ok () g):
 (s>>=λ_=>pure .skip:Sem Next).run P w= .ok .skip g:=by
 rw[Sem.run_bind,h];rfl

theorem eJ {s:Sem Value}{K:Value->Prop}(h:nY P s K): ∃v,K v/\ ∀w,s.run P w= .ok v w:=by
 unfold nY at h
 split at h
 ·rename_i v hv;exact⟨v,h,λw=>jS P s v hv w⟩
 ·exact h.elim

theorem wA {t:TypeId}{w:World}{d:TypeDesc}(h:P.underlying t=some d):(isAgg t).run P w= .ok (zj P t) w:=by
 unfold isAgg underlying zj
 simp only[Sem.run_bind,run_program,Result.andThen_ok,h]
 cases d<;>rfl

theorem BM: ∀ {ts:List STy} {w:World} {a:Addr} {i:Nat} {K:List Value->Prop},ldS w ts a i K->
 ∃vs,K vs/\vs.length=ts.length/\ ∀(g:Array Value),(loadCellsFrom a i ts.length g).run P w= .ok (g++vs.toArray) w
 | [],_,_,_,_,h=>⟨[],h,rfl,λg=>by simp[loadCellsFrom]⟩
 |t::ts,w,a,i,K,h=>by
  obtain⟨v,hc,h⟩:=STy.ex_out h
  obtain⟨vs,y,E,hr⟩:=BM h
  refine⟨v::vs,y,by simp[E],λg=>?_⟩
  simp only[List.length_cons,loadCellsFrom,Sem.run_bind,run_load,hc,Result.andThen]
  rw[hr]
  simp

theorem wm {t:TypeId}{a:Addr}{w:World}{K:Value->Prop}(h:yd P t a w K): ∃v,K v/\(loadVar t a).run P w= .ok v w:=by
 unfold yd at h
 split at h
 ·rename_i i d hi U
  have y:=wA (w:=w) U
  split at h
  ·rename_i cs hb hz
   split at h
   ·rename_i E
    obtain⟨vs,g,V,hr⟩:=BM (P:=P) h
    refine⟨_,g,?_⟩
    have H:i.size=cs.size:=by simp[<-Nat.eq_of_beq_eq_true E]
    have I:(loadCellsFrom a 0 cs.size #[]).run P w= .ok vs.toArray w:=by simpa using hr #[]
    unfold loadVar loadCells sizeOf typeInfo
    simp only[Sem.run_bind,y,Result.andThen_ok,hb,if_true,run_program,hi]
    have O:(pure i:Sem TypeInfo).run P w= .ok i w:=rfl
    simp only[O,Result.andThen_ok,H]
    rw[show (pure cs.size:Sem Nat).run P w= .ok cs.size w from rfl]
    simp only[Result.andThen_ok,I]
    rfl
   ·exact h.elim
  ·rename_i z hb hz
   obtain⟨v,hc,g⟩:=STy.ex_out h
   refine⟨v,g,?_⟩
   unfold loadVar
   simp only[Sem.run_bind,y,Result.andThen_ok,hb,Bool.false_eq_true,if_false,run_load,hc]
  ·exact h.elim
 ·exact h.elim

theorem Bd: ∀ {vs:List Value} {a:Addr} {i:Nat} {w:World} {K:World->Prop},stS vs a i w K->
 ∃g,K g/\(storeCells a vs i).run P w= .ok () g
 | [],_,_,w,_,h=>⟨w,h,rfl⟩
 |v::vs,a,i,w,K,h=>by
  obtain⟨y,⟨u,H⟩,I,h⟩:=h
  obtain⟨g,E,hr⟩:=Bd h
  refine⟨g,E,?_⟩
  have hv:v.oneCell'=true:=by cases v<;>first|rfl|exact y.elim
  simp only[storeCells,Sem.run_bind,run_store P w (a.add i) v .plain hv,H,I,Bool.false_eq_true,if_false,Result.andThen]
  exact hr

theorem Cx {v:Value}{K:Prop}(h:Cy v K):K/\v.cells= #[v]/\nA v:=by
 cases v<;>first|exact⟨h,rfl,trivial⟩|exact⟨h.2,rfl,trivial⟩|exact h.elim
theorem nU {t:TypeId}{v:Value}{K:List Value->Prop}(h:ue P t v K):K v.cells.toList:=by
 unfold ue at h
 split at h
 ·split at h
  ·exact h
  ·exact h.elim
 ·obtain⟨h,hc,_⟩:=Cx h
  rw[hc]
  exact h

theorem zM {t:TypeId}{a:Addr}{v:Value}{w:World}{K:World->Prop}(h:Bc P t a v w K):
 ∃g,K g/\(storeVar t a v).run P w= .ok () g:=by
 unfold Bc at h
 split at h
 ·rename_i i hi
  have h:=nU h
  split at h
  ·rename_i hs
   obtain⟨g,I,hr⟩:=Bd (P:=P) h
   refine⟨g,I,?_⟩
   have y:v.cells.size=i.size:=by simpa using Nat.eq_of_beq_eq_true hs
   unfold storeVar sizeOf typeInfo
   simp only[Sem.run_bind,run_program,Result.andThen_ok,hi]
   have E:(pure i:Sem TypeInfo).run P w= .ok i w:=rfl
   have H:(pure i.size:Sem Nat).run P w= .ok i.size w:=rfl
   simp only[E,H,Result.andThen_ok,y,ne_eq,not_true_eq_false,if_false]
   simpa[Sem.run_bind,pure,Sem.run,Result.andThen] using hr
  ·exact h.elim
 ·exact h.elim

theorem xK (xs:List Value): ∀(cs:List Value) (g:Nat),setCells cs g xs=(xs.zipIdx.foldl (λcs (c,j)=>cs.set (g+j) c) cs):=by
 have y: ∀(xs:List Value) (cs:List Value) (g k:Nat),setCells cs (g+k) xs=((xs.zipIdx k).foldl (λcs (c,j)=>cs.set (g+j) c) cs):=by
  intro xs
  induction xs with
  |nil=>intro cs g k;rfl
  |cons x xs E=>
   intro cs g k
   simp only[setCells,List.zipIdx_cons,List.foldl_cons]
   rw[<-E (cs.set (g+k) x) g (k+1)]
   rfl
 intro cs g
 exact y xs cs g 0
theorem rm (xs:List (Value × Nat))(g:Nat): ∀(cs:Array Value),(xs.foldl (λcs (c,j)=>cs.setIfInBounds (g+j) c) cs).toList=xs.foldl (λcs (c,j)=>cs.set (g+j) c) cs.toList:=by
 induction xs with
 |nil=>intro cs;rfl
 |cons x xs y=>intro cs;simp only[List.foldl_cons];rw[y];simp
theorem qv {fs:Array Field}{K:List Value->Prop}{O:Array (Nat × Nat)}(U: ∀(i:Nat) (f:Field) (g:TypeInfo),fs[i]? =some f->P.info? f.type=some g->O[i]? =some (f.offset,g.size)):
 ∀ {I:List (Nat × Value)} {cs:Array Value},buildS P fs I cs.toList K-> ∃y,K y.toList/\Instr.fill (O[·]?) cs I=some y
 | [],cs,h=>⟨cs,h,rfl⟩
 |(i,v)::I,cs,h=>by
  unfold buildS at h
  split at h
  ·rename_i f a7
   split at h
   ·rename_i g hi
    have h:=nU h
    split at h
    ·rename_i E H
     have E:=Nat.eq_of_beq_eq_true E
     have H:=Nat.le_of_ble_eq_true H
     simp only[Array.length_toList] at E H
     have a6:setCells cs.toList f.offset v.cells.toList=(v.cells.zipIdx.foldl (λcs (c,j)=>cs.setIfInBounds (f.offset+j) c) cs).toList:=by
      rw[xK,<-Array.foldl_toList,rm]
      simp
     rw[a6] at h
     obtain⟨y,W,V⟩:=qv U h
     refine⟨y,W,?_⟩
     unfold Instr.fill
     simp only[U i f g a7 hi]
     rw[if_neg (by simp;omega)]
     exact V
    ·exact h.elim
   ·exact h.elim
  ·exact h.elim

theorem p6 {w:World}: ∀(l:List Field),(l.all λf=>(P.info? f.type).isSome)=true->
 (l.mapM (m:=Sem) λf=>do pure (f.offset,<-sizeOf f.type)).run P w= .ok (l.map λf=>(f.offset,((P.info? f.type).map (·.size)).getD 0)) w
 | [],_=>rfl
 |f::l,h=>by
  simp only[List.all_cons,Bool.and_eq_true] at h
  obtain⟨g,hi⟩:=Option.isSome_iff_exists.1 h.1
  have hs:(sizeOf f.type).run P w= .ok g.size w:=by
   unfold sizeOf typeInfo
   simp only[Sem.run_bind,run_program,Result.andThen_ok,hi]
   rfl
  simp only[List.mapM_cons,Sem.run_bind,hs,Result.andThen_ok]
  rw[show (pure (f.offset,g.size):Sem (Nat × Nat)).run P w= .ok (f.offset,g.size) w from rfl]
  simp only[Result.andThen_ok,p6 l h.2,List.map_cons,hi]
  rfl

theorem D8 {op:BinOp}{xt:TypeId}{O I:Operand}{x H:Value}{ty:Ty}{K:Value->World->Prop}{w:World}(h:binV P op xt O I x H ty K w):
 ∃v E,K v E/\(do eqGuard op xt O I x H;binOp op xt x H:Sem Value).run P w= .ok v E:=by
 unfold binV at h
 split at h
 ·obtain⟨v,E,hr,h⟩:=Ty.ex_out h
  exact⟨v,E,h,hr⟩
 split at h
 ·rename_i k a U b
  split at h
  ·obtain⟨hb,h⟩:=h
   split at h
   ·rename_i g
    have g:=of_decide_eq_true g
    subst g
    refine⟨_,w,h,?_⟩
    show (binOp .quo xt (.int k a) (.int k b)).run P w=_
    simp[binOp,Op.intDiv,hb]
   ·exact h.elim
  ·obtain⟨hb,h⟩:=h
   split at h
   ·rename_i g
    have g:=of_decide_eq_true g
    subst g
    refine⟨_,w,h,?_⟩
    show (binOp .rem xt (.int k a) (.int k b)).run P w=_
    simp[binOp,Op.intDiv,hb]
   ·exact h.elim
  ·obtain⟨hb,h⟩:=h
   refine⟨_,w,h,?_⟩
   have: ¬ b<0:=by omega
   show (binOp .shl xt (.int k a) (.int U b)).run P w=_
   simp[binOp,Op.shift,this]
  ·obtain⟨hb,h⟩:=h
   refine⟨_,w,h,?_⟩
   have: ¬ b<0:=by omega
   show (binOp .shr xt (.int k a) (.int U b)).run P w=_
   simp[binOp,Op.shift,this]
  ·obtain⟨v,h,hr⟩:=eJ h
   exact⟨v,w,h,hr w⟩
 ·rename_i a b
  split at h
  ·obtain⟨hb,h⟩:=h
   refine⟨_,w,h,?_⟩
   have: ¬ ((a.size+b.size:Nat):Int)>i64.max:=by omega
   show (binOp .add xt (.string a) (.string b)).run P w=_
   simp only[binOp,Op.stringOp,if_neg this]
   rfl
  ·obtain⟨v,h,hr⟩:=eJ h
   exact⟨v,w,h,hr w⟩
 ·obtain⟨v,h,hr⟩:=eJ h
  exact⟨v,w,h,hr w⟩
 ·obtain⟨v,E,hr,h⟩:=Ty.ex_out h
  exact⟨v,E,h,hr⟩

theorem qE {s:ByteArray}{lo hi:Option Value}{K:Value->Prop}{xt:TypeId}(H:P.underlying xt=some .string)(h:oZ s lo hi K):
 ∃v,K v/\ ∀w,(Instr.sliceAt xt (.string s) lo hi none).run P w= .ok v w:=by
 have y: ∀(l n:Nat) (w:World),(Instr.sliceBounds false s.size s.size lo hi none).run P w= .ok (l,n,s.size) w->
  (Instr.sliceAt xt (.string s) lo hi none).run P w= .ok (.string (s.extract l n)) w:=by
  intro l n w hb
  unfold Instr.sliceAt Instr.slice underlying
  simp only[Sem.run_bind,run_program,Result.andThen_ok,H]
  have:(pure TypeDesc.string:Sem TypeDesc).run P w= .ok .string w:=rfl
  simp only[this,Result.andThen_ok,Option.isSome_none,Bool.false_eq_true,if_false,Sem.run_bind,run_program,H,hb]
  rfl
 unfold oZ at h
 split at h
 ·refine⟨_,h,λw=>?_⟩
  rw[y 0 s.size w (by simp[Instr.sliceBounds])]
  simp
 ·obtain⟨g,E,h⟩:=h
  refine⟨_,h,λw=>y _ _ w ?_⟩
  simp[Instr.sliceBounds,Instr.sliceBound,asIntOf,g,E]
 ·obtain⟨g,E,h⟩:=h
  refine⟨_,h,λw=>y _ _ w ?_⟩
  simp[Instr.sliceBounds,Instr.sliceBound,asIntOf,g,E]
 ·rename_i l _ I
  obtain⟨g,E,V,h⟩:=h
  refine⟨_,h,λw=>y _ _ w ?_⟩
  have O:0<=I:=by omega
  have U:l<=max I 0:=by omega
  simp[Instr.sliceBounds,Instr.sliceBound,asIntOf,g,V,O,U]
 ·exact h.elim

theorem vL {s:ByteArray}{lo hi:Option Value}{K:Value->Prop}{xt:TypeId}{w:World}(y:P.underlying xt=some .string)(h:oZ s lo hi K):
 ∃v,K v/\(Instr.sliceAt xt (.string s) lo hi none).run P w= .ok v w:=by
 obtain⟨v,g,hr⟩:=qE y h
 exact⟨v,g,hr w⟩

set_option maxHeartbeats 1000000 in
theorem wc {n:Nat}{a:Act}{ρ:Fr}{o:Oper}{K:Value->World->Prop}{w:World}{Q:Exit->Act->World->Prop}(hr:RelF n a ρ)(h:opV P o ρ K w):o.wp P a w (Ei a o K) Q:=by
 have W:a.eval=rd ρ:=funext hr.eval
 unfold Oper.wp
 rw[W]
 unfold opV at h
 split at h<;>rename_i d0<;>simp only[execOp,d0]
 case h_1=>exact bf rfl h
 case h_2=>exact bf rfl h
 case h_3=>
  split at h
  ·rename_i b hb
   split at h<;>(rw[hb];exact bf rfl h)
  ·exact h.elim
 case h_4=>obtain⟨v,y,g,hs⟩:=D8 h;exact bf (aU hs) g
 case h_5=>obtain⟨v,g,hs⟩:=eJ h;exact bf (aU (hs w)) g
 case h_6=>
  unfold nilV at h
  split at h
  ·rename_i q e0
   unfold aA at h
   split at h
   ·rw[e0];exact bf rfl h
   ·exact h.elim
  ·rename_i v hv
   obtain⟨b7,g⟩:=h
   cases I:rd ρ _<;>rw[I] at b7 g<;>try exact b7.elim
   ·rename_i d3 first e1
    cases d3<;>try exact b7.elim
    exact bf rfl g
   ·exact bf rfl g
 case h_7=>
  split at h
  ·rename_i b3 a6
   split at h
   ·rename_i fs E
    split at h
    ·rename_i e7 b6
     split at h
     ·rename_i i hi
      split at h
      ·obtain⟨v,y,hs,g⟩:=Ty.ex_out h;exact bf (aU hs) g
      ·rename_i m d2
       refine bf (aU ?_) h
       rw[a6]
       unfold Instr.fieldAt underlying fieldPlace sizeOf typeInfo
       simp only[Sem.run_bind,run_program,Result.andThen_ok,E]
       simp only[pure,Sem.run,Result.andThen_ok,b6,Instr.sureAddr,d2,Nat.add_one_ne_zero,if_false,Sem.run_bind,run_program,hi]
     ·exact h.elim
    ·exact h.elim
   ·exact h.elim
  ·exact h.elim
 case h_8=>obtain⟨v,g,hs⟩:=eJ h;exact bf (aU (hs w)) g
 case h_9=>
  split at h
  ·rename_i b3 a6
   obtain⟨v,g,hs⟩:=wm h
   refine bf (aU ?_) g
   rw[a6]
   exact hs
  ·exact h.elim
 case h_10=>
  split at h
  ·rename_i b3 a6
   obtain⟨y,g,hs⟩:=zM h
   refine uj (rR ?_) g
   rw[a6]
   exact hs
  ·exact h.elim
 case h_11=>
  have h:=nU h
  exact bf rfl (h _ rfl)
 case h_12=>
  split at h
  ·rename_i i hi
   split at h
   ·rename_i z hz
    have h:=nU h
    refine bf (aU ?_) (h _ rfl)
    unfold Instr.alloc zeroValue typeInfo
    simp only[Sem.run_bind,run_program,Result.andThen_ok,hi]
    simp only[pure,Sem.run,Result.andThen_ok,hz]
    rfl
   ·exact h.elim
  ·exact h.elim
 case h_13=>
  split at h
  ·rename_i fs V E c5
   rename_i b8 _ _
   split at h
   ·rename_i c3 hz
    split at h
    ·rename_i c8
     have d5: ∀(i:Nat) (f:Field) (V:TypeInfo),fs[i]? =some f->P.info? f.type=some V->
      ((fs.toList.map λf=>(f.offset,((P.info? f.type).map (·.size)).getD 0)).toArray)[i]? =some (f.offset,V.size):=by
      intro i f e4 b6 hi
      simp[b6,hi]
     obtain⟨e5,g,c4⟩:=qv d5 h
     refine bf (aU ?_) g
     unfold Instr.build zeroValue typeInfo underlying
     simp only[Sem.run_bind,run_program,Result.andThen_ok,c5,E]
     rw[show (pure V:Sem TypeInfo).run P w= .ok V w from rfl]
     simp only[Result.andThen_ok,hz]
     rw[show (pure (Value.agg c3):Sem Value).run P w= .ok (.agg c3) w from rfl]
     simp only[Result.andThen_ok,Sem.run_bind]
     rw[show (pure (TypeDesc.struct fs):Sem TypeDesc).run P w= .ok (.struct fs) w from rfl]
     simp only[Result.andThen_ok,Sem.run_bind]
     rw[Array.mapM_eq_mapM_toList,map_eq_pure_bind,Sem.run_bind,p6 _ c8]
     simp only[Result.andThen_ok]
     rw[show∀x:List (Nat × Nat),(pure x.toArray:Sem (Array (Nat × Nat))).run P w= .ok x.toArray w from λ_=>rfl]
     simp only[Result.andThen_ok,Value.cells]
     have d1:(b8.map λ(i,x)=>(i,rd ρ x)).toList=b8.toList.map λ(i,x)=>(i,rd ρ x):=by simp
     rw[d1,c4]
     simp
    ·exact h.elim
   ·exact h.elim
  ·obtain⟨v,g,hs⟩:=eJ h;exact bf (aU (hs w)) g
 case h_14=>obtain⟨v,y,hs,g⟩:=Ty.ex_out h;exact bf (aU hs) g
 case h_15=>obtain⟨v,g,hs⟩:=eJ h;exact bf (aU (hs w)) g
 case h_16=>exact bf rfl h
 case h_17=>
  split at h
  ·rename_i vs hv
   split at h
   ·rename_i v hi
    refine bf (aU ?_) h
    simp[hv,Instr.extract,hi]
   ·exact h.elim
  ·exact h.elim
 case h_18=>
  split at h
  ·rename_i s k m hs hi
   split at h
   ·rename_i E
    obtain⟨O,H,g⟩:=h
    refine bf (aU ?_) g
    have c1:m.toNat<s.size:=by omega
    unfold Instr.index asIntOf underlying
    simp only[hs,hi,Sem.run_bind,run_program,Result.andThen_ok,E]
    simp only[pure,Sem.run,Result.andThen_ok,O,if_true,getElem?_pos s m.toNat c1]
    congr 2
    unfold bt
    have:s.data.size=s.size:=rfl
    simp[Array.getD,this,c1,ByteArray.getElem_eq_getElem_data]
   ·exact h.elim
  ·split at h
   ·obtain⟨v,y,hs,g⟩:=Ty.ex_out h;exact bf (aU hs) g
   ·exact h.elim
 case h_19=>
  split at h
  ·rename_i q len c k m hs hi
   split at h
   ·rename_i e E
    split at h
    ·rename_i V b5
     obtain⟨O,H,g⟩:=h
     unfold aA at g
     split at g
     ·rename_i b3
      refine bf (aU ?_) g
      unfold Instr.indexAt asIntOf underlying sizeOf typeInfo
      simp only[hs,hi,Sem.run_bind,run_program,Result.andThen_ok,E]
      simp only[pure,Sem.run,Result.andThen_ok,O,H,and_self,if_true,Sem.run_bind,run_program,b5,E]
     ·exact g.elim
    ·exact h.elim
   ·exact h.elim
  ·rename_i b3 k m hs hi
   split at h
   ·rename_i len e E
    split at h
    ·rename_i V b5
     obtain⟨O,H,g⟩:=h
     refine bf (aU ?_) g
     unfold Instr.indexAt asIntOf underlying sizeOf typeInfo
     simp only[hs,hi,Sem.run_bind,run_program,Result.andThen_ok,E]
     simp only[pure,Sem.run,Result.andThen_ok,O,H,and_self,if_true,Sem.run_bind,run_program,b5,E,Instr.sureAddr]
    ·exact h.elim
   ·exact h.elim
  ·obtain⟨v,y,hs,g⟩:=Ty.ex_out h;exact bf (aU hs) g
 case h_20=>
  split at h
  ·rename_i s hs
   split at h
   ·rename_i E
    obtain⟨v,g,c9⟩:=vL E h
    refine bf (aU ?_) g
    rw[hs]
    exact c9
   ·exact h.elim
  ·obtain⟨v,y,hs,g⟩:=Ty.ex_out h;exact bf (aU hs) g
 case h_21=>
  split at h
  ·rename_i k m I
   split at h
   ·rename_i k1 k2 H a7
    refine bf (aU ?_) h
    simp[I,convert,underlying,H,a7,Conv.intToInt]
   ·rename_i k1 H a7
    refine bf (aU ?_) h
    simp[I,convert,underlying,H,a7,Conv.intToString]
   ·exact h.elim
  ·rename_i m I
   split at h
   ·rename_i H a7
    refine bf (aU ?_) h
    simp[I,convert,underlying,H,a7]
   ·obtain⟨v,y,hs,g⟩:=Ty.ex_out h;rw[I] at hs;rw[I];exact bf (aU hs) g
  ·obtain⟨v,y,hs,g⟩:=Ty.ex_out h;exact bf (aU hs) g
 case h_22=>obtain⟨v,y,hs,g⟩:=Ty.ex_out h;exact bf (aU hs) g
 case h_23=>obtain⟨v,y,hs,g⟩:=Ty.ex_out h;exact bf (aU hs) g
 case h_24=>obtain⟨v,y,hs,g⟩:=Ty.ex_out h;exact bf (aU hs) g
 case h_25=>
  split at h
  ·obtain⟨v,y,hs,g⟩:=Ty.ex_out h;exact bf (aU hs) g
  ·exact h.elim
 case h_26=>obtain⟨y,hs,g⟩:=h;exact uj (rR hs) g
 case h_27=>obtain⟨y,hs,g⟩:=h;exact uj (rR hs) g
 case h_28=>obtain⟨v,y,hs,g⟩:=Ty.ex_out h;exact bf (aU hs) g
 case h_29=>
  unfold Gq at h
  rcases h with ⟨y,hs,g⟩|h
  ·exact bf (aU hs) g
  ·split at h
   ·obtain⟨i,c,y,hs,g⟩:=h;exact bf (aU hs) g
   ·obtain⟨k,v,y,hs,g⟩:=h;exact bf (aU hs) g
 case h_30=>
  rename_i c
  obtain⟨e2,U,b4⟩:=c
  split at h<;>rename_i b9<;>dsimp only at b9 h<;>subst b9
  ·split at h
   ·rename_i t x ht I
    split at h
    ·rename_i s E hs
     refine bf (aU (s:=Builtin.len_ b4 o.type (U.map (rd ρ))) ?_) h
     simp[Builtin.len_,ht,I,underlying,E,hs,goInt]
    ·rename_i e q m e6 E hs
     refine bf (aU (s:=Builtin.len_ b4 o.type (U.map (rd ρ))) ?_) h
     simp[Builtin.len_,ht,I,underlying,E,hs,goInt]
    ·obtain⟨v,y,hs,g⟩:=Ty.ex_out h
     refine bf (aU (s:=Builtin.len_ b4 o.type (U.map (rd ρ))) ?_) g
     simpa[Builtin.len_,ht,I] using hs
   ·exact h.elim
  ·obtain⟨v,y,hs,g⟩:=Ty.ex_out h;exact bf (aU hs) g
  ·obtain⟨v,y,hs,g⟩:=Ty.ex_out h;exact bf (aU hs) g
  ·obtain⟨v,y,hs,g⟩:=Ty.ex_out h;exact bf (aU hs) g
  ·obtain⟨v,y,hs,g⟩:=Ty.ex_out h;exact bf (aU hs) g
  ·obtain⟨v,y,hs,g⟩:=Ty.ex_out h;exact bf (aU hs) g
  ·obtain⟨v,y,hs,g⟩:=Ty.ex_out h;exact bf (aU hs) g
  ·obtain⟨v,y,hs,g⟩:=Ty.ex_out h;exact bf (aU hs) g
  ·rcases h with ⟨hc,h⟩|⟨v,y,hc,h⟩
   ·refine rI ?_ h
    rw[<-hc]
    simp[resolve,rd,Deferred.ofValue,invoke]
   ·obtain⟨c2,W,g⟩:=Ty.ex_out h
    cases W
    refine bf ?_ g
    rw[<-hc]
    simp[resolve,rd,Deferred.ofValue,invoke]
  ·rcases h with ⟨f,d4,y,hs,h⟩|⟨v,y,hs,h⟩
   ·refine rI ?_ h
    rw[<-hs]
    rfl
   ·obtain⟨c2,W,g⟩:=Ty.ex_out h
    cases W
    refine bf ?_ g
    rw[<-hs]
    rfl
  ·rename_i r e3
   have O:(#[rd ρ r]++U.map (rd ρ))[0]? =some (rd ρ r):=by rw[Array.getElem?_append_left (by simp)];rfl
   have H:(U.map (rd ρ)).extract 0 U.size=U.map (rd ρ):=by
    simp
   rcases h with ⟨f,d4,y,hs,h⟩|⟨v,y,hs,h⟩
   ·refine rI ?_ h
    rw[<-hs]
    simp[resolve,invoke,O,H]
   ·obtain⟨c2,W,g⟩:=Ty.ex_out h
    cases W
    refine bf ?_ g
    rw[<-hs]
    simp[resolve,invoke,O,H]
 case h_31=>exact h.elim

end Go.Proofs.YtendaipfdnhnaaaGreatDoor


namespace Go.Proofs.YtendaipfdnhnaaaGreatDoor
variable {P:Program}

def sN (n:Nat):Option Nat->Bool
 |none=>true
 |some d=>Nat.blt d n
abbrev GS:=List (Nat × Nat × Bool × Value)
def Cd:GS->Nat->Option (Nat × Bool × Value)
 | [],_=>none
 |(t,r)::gs,u=>match Nat.beq t u with
  |true=>some r
  |false=>Cd gs u
def qn:GS->Nat->GS
 | [],_=> []
 |(t,r)::gs,u=>match Nat.beq t u with
  |true=>qn gs u
  |false=>(t,r)::qn gs u
def wO:GS->Nat->GS
 | [],_=> []
 |(t,g,r)::gs,u=>match Nat.beq t u with
  |true=>wO gs u
  |false=>match Nat.beq g u with
   |true=>wO gs u
   |false=>(t,g,r)::wO gs u
def DJ (gs:GS):Option Nat->GS
 |none=>gs
 |some d=>wO gs d
def isB (g:Bool)(v:Value):Bool:=
 match v with
 | .bool b=>match g with
  |true=>b
  |false=> !b
 |_=>false
def F5 (b:Bool)(v:Value):Value:=
 match b with
 |true=>v
 |false=>undef
abbrev Ch:=List (Nat × Bool × Value)
def jI (gs:GS)(ρ:Fr):Nat->Nat->Bool->Ch
 |0,t,want=> [(t,want,ρ t)]
 |f+1,t,want=>match Cd gs t with
  |none=> [(t,want,ρ t)]
  |some (t',g,v)=>jI gs ρ f t' g++ [(t,want,v)]
def rE:Ch->Bool
 | []=>true
 |(_,want,v)::c=>match c with
  | []=>isB want v
  |_::_=>isB want v && rE c
def tm:Ch->Nat->Bool->Bool
 | [],_,_=>false
 |(t,w,_)::c,u,x=>match Nat.beq t u with
  |true=>match w,x with
   |true,true=>true
   |false,false=>true
   |_,_=>tm c u x
  |false=>tm c u x
def ovr (c:Ch)(gs:GS)(ρ:Fr):Fr:=λt=>
 match Cd gs t with
 |none=>ρ t
 |some (t',g,v)=>match tm c t' g with
  |true=>v
  |false=>ρ t
def Fj (b:Bool)(x g:Value):Option Value:=
 match x,g with
 | .bool p,.bool q=>some (.bool (cond b p q))
 | .int k p,.int k' q=>match decide (k=k') with
  |true=>some (.int k (cond b p q))
  |false=>none
 | .string p,.string q=>some (.string (cond b p q))
 |_,_=>none
def vU (P:Program)(o:Oper)(ch:Ch)(gs:GS)(ρ:Fr):Option (Option Prop × Value):=
 match o.op with
 | .move x=>some (none,rd (ovr ch gs ρ) x)
 | .pick g x y=>match g with
  | .tmp t=>match ovr ch gs ρ t with
   | .bool b=>match Fj b (rd (ovr (ch++ [(t,true,.bool b)]) gs ρ) x) (rd (ovr (ch++ [(t,false,.bool b)]) gs ρ) y) with
    |some v=>some (none,v)
    |none=>none
   |_=>none
  |_=>none
 | .binOp op xt x y _=>match Bp P xt with
  |false=>none
  |true=>
  match rd (ovr ch gs ρ) x,rd (ovr ch gs ρ) y with
  | .int k a,.int k' b=>match op with
   | .quo| .rem| .shl| .shr=>none
   |_=>match mL P (do eqGuard op xt x y (.int k a) (.int k' b);binOp op xt (.int k a) (.int k' b)) with
    |some v=>some (none,v)
    |none=>none
  | .string a,.string b=>match op with
   | .add=>none
   |_=>match mL P (do eqGuard op xt x y (.string a) (.string b);binOp op xt (.string a) (.string b)) with
    |some v=>some (none,v)
    |none=>none
  |_,_=>none
 | .unOp op _ x=>match mL P (Op.unary op (rd (ovr ch gs ρ) x)) with
  |some v=>some (none,v)
  |none=>none
 | .index xt x i=>match rd (ovr ch gs ρ) x,rd (ovr ch gs ρ) i with
  | .string s,.int _ n=>match P.underlying xt with
   |some .string=>some (some (0<=n/\n<s.size),.int .u8 (bt s n))
   |_=>none
  |_,_=>none
 | .call c=>match c.callee with
  | .builtin .len=>match c.argTypes[0]?,c.args[0]? with
   |some t,some x=>match P.underlying t,rd (ovr ch gs ρ) x with
    |some .string,.string s=>some (none,.int .i64 s.size)
    |some (.slice _),.slice _ n _=>some (none,.int .i64 n)
    |_,_=>none
   |_,_=>none
  |_=>none
 |_=>none
def rP:Ch->Fr->GS->(Fr->GS->Prop)->(Fr->GS->Prop)->Prop
 | [],ρ,gs,yes,_=>yes ρ gs
 |(t,want,v)::c,ρ,gs,yes,no=>match v with
  | .bool b=>match b with
   |true=>match want with
    |true=>rP c (upd ρ t (.bool true)) (qn gs t) yes no
    |false=>no (upd ρ t (.bool true)) (qn gs t)
   |false=>match want with
    |true=>no (upd ρ t (.bool false)) (qn gs t)
    |false=>rP c (upd ρ t (.bool false)) (qn gs t) yes no
  | .tuple _=>no ρ (qn gs t)
  |_=>False
def Gw:Op->Bool
 | .pick .. =>true
 |_=>false

def xo (P:Program)(n:Nat)(all:List Oper):List Oper->(Fr->World->Prop)->GS->Fr->World->Prop
 | [],Q,_,ρ,w=>Q ρ w
 |o::rest,Q,gs,ρ,w=>
  match sN n o.dst with
  |false=>False
  |true=>
   match o.guard with
   |none=>match Gw o.op with
    |false=>opV P o ρ (λv H=>xo P n all rest Q (DJ gs o.dst) (rj ρ o.dst v) H) w
    |true=>match vU P o [] gs ρ with
     |some (none,v)=>xo P n all rest Q (DJ gs o.dst) (rj ρ o.dst v) w
     |_=>opV P o ρ (λv H=>xo P n all rest Q (DJ gs o.dst) (rj ρ o.dst v) H) w
   |some (j,g)=>
    match (all[j]?).bind (·.dst),o.dst with
    |some t,some d=>match Nat.beq t d with
     |true=>False
     |false=>match vU P o (jI gs ρ 9 t g) gs ρ with
      |some (none,v)=>xo P n all rest Q ((d,t,g,v)::wO gs d) (upd ρ d (F5 (rE (jI gs ρ 9 t g)) v)) w
      |some (some I,v)=>(rE (jI gs ρ 9 t g)=true->I)/\
       xo P n all rest Q ((d,t,g,v)::wO gs d) (upd ρ d (F5 (rE (jI gs ρ 9 t g)) v)) w
      |none=>rP (jI gs ρ 9 t g) ρ gs
       (λE y=>opV P o (ovr (jI gs ρ 9 t g) y E) (λv H=>xo P n all rest Q (wO y d) (upd E d v) H) w)
       (λE y=>xo P n all rest Q (wO y d) (upd E d undef) w)
    |some t,none=>rP (jI gs ρ 9 t g) ρ gs
     (λE y=>opV P o (ovr (jI gs ρ 9 t g) y E) (λ_ H=>xo P n all rest Q y E H) w)
     (λE y=>xo P n all rest Q y E w)
    |none,_=>False

abbrev fH:=Exit->Fr->World->Prop
def mt (n:Nat)(Q:fH):Exit->Act->World->Prop:=λe a w=> ∃ρ,RelF n a ρ/\Q e ρ w
def mr (K:Fr->World->Prop)(Q:fH):fH
 | .normal,ρ,w=>K ρ w
 |e,ρ,w=>Q e ρ w
def ra (id:Nat)(Q:fH):fH
 | .exit id',ρ,w=>match Nat.beq id' id with
  |true=>Q .normal ρ w
  |false=>Q (.exit id') ρ w
 |e,ρ,w=>Q e ρ w

def kZ (Q:fH):fH
 | .goto _,_,_=>False
 |e,ρ,w=>Q e ρ w
def vcC (P:Program)(n:Nat):Code->fH->Fr->World->Prop
 | .skip,Q,ρ,w=>Q .normal ρ w
 | .region _ ops draw,Q,ρ,w=>match draw with
  |true=>False
  |false=>xo P n ops.toList ops.toList (Q .normal) [] ρ w
 | .seq x y,Q,ρ,w=>vcC P n x (mr (vcC P n y Q) Q) ρ w
 | .cond c x y,Q,ρ,w=>
  match c with
  | .tmp t=>match ρ t with
   | .bool b=>match b with
    |true=>vcC P n x Q (upd ρ t (.bool true)) w
    |false=>vcC P n y Q (upd ρ t (.bool false)) w
   |_=>False
  | .const (.bool b)=>match b with
   |true=>vcC P n x Q ρ w
   |false=>vcC P n y Q ρ w
  |_=>False
 | .block id x,Q,ρ,w=>vcC P n x (ra id Q) ρ w
 | .exit id,Q,ρ,w=>Q (.exit id) ρ w
 | .ret,Q,ρ,w=>Q .ret ρ w
 | .label _,Q,ρ,w=>Q .normal ρ w
 | .goto l,Q,ρ,w=>Q (.goto l) ρ w
 | .scope x,Q,ρ,w=>vcC P n x (kZ Q) ρ w
 |_,_,_,_=>False

def WpF (P:Program)(n:Nat)(c:Code)(Q:fH)(ρ:Fr)(w:World):Prop:= ∀a,RelF n a ρ->c.wp P (mt n Q) a w

def Inv (gs:GS)(ρ:Fr):Prop:= ∀t t' w v,(t,t',w,v)∈gs->ρ t=F5 (isB w (ρ t')) v

theorem ny {a b:Nat}(h:Nat.beq a b=false):a≠b:=λhc=>by subst hc;simp at h
theorem m7: ∀ {gs:GS} {t:Nat} {r:Nat × Bool × Value},Cd gs t=some r->(t,r)∈gs
 | [],_,_,h=>by cases h
 |(s,q)::gs,t,r,h=>by
  simp only[Cd] at h
  cases hb:Nat.beq s t with
  |true=>
   rw[hb] at h
   have:=Nat.eq_of_beq_eq_true hb
   subst this
   simp only[Option.some.injEq] at h
   subst h
   exact List.mem_cons_self
  |false=>rw[hb] at h;exact List.mem_cons_of_mem _ (m7 h)
theorem ma {u:Nat}: ∀ {gs:GS} {x:Nat × Nat × Bool × Value},x∈wO gs u->x∈gs/\x.1≠u/\x.2.1≠u
 | [],_,h=>by cases h
 |(s,g,r)::gs,x,h=>by
  simp only[wO] at h
  cases H:Nat.beq s u with
  |true=>rw[H] at h;obtain⟨y,E⟩:=ma h;exact⟨List.mem_cons_of_mem _ y,E⟩
  |false=>
   rw[H] at h
   cases y:Nat.beq g u with
   |true=>rw[y] at h;obtain⟨y,E⟩:=ma h;exact⟨List.mem_cons_of_mem _ y,E⟩
   |false=>
    rw[y] at h
    cases h with
    |head=>exact⟨List.mem_cons_self,ny H,ny y⟩
    |tail _ h=>obtain⟨y,E⟩:=ma h;exact⟨List.mem_cons_of_mem _ y,E⟩
theorem sE {u:Nat}: ∀ {gs:GS} {x:Nat × Nat × Bool × Value},x∈qn gs u->x∈gs
 | [],_,h=>by cases h
 |(s,r)::gs,x,h=>by
  simp only[qn] at h
  cases g:Nat.beq s u with
  |true=>rw[g] at h;exact List.mem_cons_of_mem _ (sE h)
  |false=>
   rw[g] at h
   cases h with
   |head=>exact List.mem_cons_self
   |tail _ h=>exact List.mem_cons_of_mem _ (sE h)
theorem AP {ρ:Fr}{d t:Nat}{v:Value}(h:t≠d):upd ρ d v t=ρ t:=by
 unfold upd
 cases hb:Nat.beq t d with
 |true=>exact absurd (Nat.eq_of_beq_eq_true hb) h
 |false=>rfl
theorem Ga {ρ:Fr}{d:Nat}{v:Value}:upd ρ d v d=v:=by
 unfold upd
 rw[show Nat.beq d d=true by simp]
theorem Inv.del {gs:GS}{ρ:Fr}(hi:Inv gs ρ)(d:Nat)(v:Value):Inv (wO gs d) (upd ρ d v):=by
 intro t t' w x E
 obtain⟨g,H,y⟩:=ma E
 rw[AP H,AP y]
 exact hi _ _ _ _ g
theorem Inv.delO {gs:GS}{ρ:Fr}(hi:Inv gs ρ)(d:Option Nat)(v:Value):Inv (DJ gs d) (rj ρ d v):=by
 cases d with
 |none=>exact hi
 |some d=>exact hi.del d v
theorem Inv.drop {gs:GS}{ρ:Fr}(hi:Inv gs ρ)(d:Nat):Inv (qn gs d) ρ:=λ_ _ _ _ g=>hi _ _ _ _ (sE g)
theorem Inv.add {gs:GS}{ρ:Fr}(hi:Inv gs ρ){d t:Nat}{y:Bool}{v:Value}(E:t≠d){b:Bool}(hb:b=isB y (ρ t)):
 Inv ((d,t,y,v)::wO gs d) (upd ρ d (F5 b v)):=by
 intro s s' w x g
 cases g with
 |head=>rw[Ga,AP E,hb]
 |tail _ g=>exact hi.del d _ _ _ _ _ g
theorem zi (g:Bool)(b:Bool)(v:Value):isB g (F5 b v)=(b && isB g v):=by
 cases b<;>rfl
theorem xg: ∀(c:Ch) (t:Nat) (g:Bool) (v:Value),c≠ []->rE (c++ [(t,g,v)])=(rE c && isB g v)
 | [],_,_,_,h=>absurd rfl h
 | [_],_,_,_,_=>rfl
 |(_,w,u)::x::c,t,g,v,_=>by
  have y:=xg (x::c) t g v (by simp)
  show (isB w u && rE ((x::c)++ [(t,g,v)]))=_
  rw[y]
  show _=((isB w u && rE (x::c)) && isB g v)
  rw[Bool.and_assoc]
theorem vc (gs:GS)(ρ:Fr)(f t:Nat)(g:Bool):jI gs ρ f t g≠ []:=by
 cases f with
 |zero=>simp[jI]
 |succ f=>unfold jI;split<;>simp
theorem pD {gs:GS}{ρ:Fr}(hi:Inv gs ρ): ∀(f t:Nat) (g:Bool),rE (jI gs ρ f t g)=isB g (ρ t)
 |0,_,_=>rfl
 |f+1,t,g=>by
  unfold jI
  split
  ·rfl
  ·rename_i t' y v E
   rw[xg _ _ _ _ (vc gs ρ f t' y),pD hi f t' y,hi t t' y v (m7 E),zi]
def Eh (ρ:Fr)(c:Ch):Prop:= ∀u x,tm c u x=true->isB x (ρ u)=true
theorem mS: ∀ {c d:Ch} {u:Nat} {x:Bool},tm (c++d) u x=true->tm c u x=true\/tm d u x=true
 | [],_,_,_,h=> .inr h
 |(t,w,v)::c,d,u,x,h=>by
  have g:= @mS c d u x
  simp only[List.cons_append,tm] at h⊢
  cases hb:Nat.beq t u<;>rw[hb] at h
  ·exact g h
  ·cases w<;>cases x<;>first|exact .inl rfl|exact g h
theorem pk {t u:Nat}{w x:Bool}{v:Value}(h:tm [(t,w,v)] u x=true):t=u/\w=x:=by
 simp only[tm] at h
 cases hb:Nat.beq t u<;>rw[hb] at h
 ·cases h
 ·refine⟨Nat.eq_of_beq_eq_true hb,?_⟩
  cases w<;>cases x<;>first|rfl|cases h
theorem mh {gs:GS}{ρ:Fr}(hi:Inv gs ρ): ∀(f t:Nat) (y:Bool),isB y (ρ t)=true->Eh ρ (jI gs ρ f t y)
 |0,t,y,h=>λu x g=>by obtain⟨rfl,rfl⟩:=pk g;exact h
 |f+1,t,y,h=>by
  unfold jI
  split
  ·intro u x g;obtain⟨rfl,rfl⟩:=pk g;exact h
  ·rename_i t' H v O
   have I:=hi t t' H v (m7 O)
   have E:=h
   rw[I,zi,Bool.and_eq_true] at E
   intro u x g
   rcases mS g with g|g
   ·exact mh hi f t' H E.1 u x g
   ·obtain⟨rfl,rfl⟩:=pk g;exact h
theorem wb {c:Ch}{gs:GS}{ρ:Fr}(hi:Inv gs ρ)(E:Eh ρ c):ovr c gs ρ=ρ:=by
 funext t
 unfold ovr
 split
 ·rfl
 ·rename_i t' g v H
  split
  ·rename_i y
   rw[hi t t' g v (m7 H),E t' g y]
   rfl
  ·rfl

theorem Dr {b:Bool}{x g v:Value}(h:Fj b x g=some v):v=if b then x else g:=by
 unfold Fj at h
 split at h
 ·cases h;cases b<;>rfl
 ·split at h
  ·rename_i E;have:=of_decide_eq_true E;subst this;cases h;cases b<;>rfl
  ·cases h
 ·cases h;cases b<;>rfl
 ·cases h
theorem tI {o:Oper}{c:Ch}{gs:GS}{ρ:Fr}{b3:Option Prop}{v:Value}(hi:Inv gs ρ)(b7:Eh ρ c)(h:vU P o c gs ρ=some (b3,v))(hs: ∀p,b3=some p->p)(w:World):(execOp (rd ρ) o).run P w= .ok (.value v) w:=by
 have c1:=wb hi b7
 unfold vU at h
 rw[c1] at h
 split at h
 ·rename_i x E
  simp only[Option.some.injEq,Prod.mk.injEq] at h
  simp only[execOp,E]
  rw[h.2]
  rfl
 ·rename_i g x y E
  split at h
  ·rename_i t
   split at h
   ·rename_i b hb
    split at h
    ·rename_i W I
     simp only[Option.some.injEq,Prod.mk.injEq] at h
     obtain⟨_,rfl⟩:=h
     have hv:=Dr I
     simp only[execOp,E,rd,hb]
     have snoc: ∀z,b=z->Eh ρ (c++ [(t,z,.bool b)]):=by
      intro z hz u x O
      rcases mS O with O|O
      ·exact b7 u x O
      ·obtain⟨rfl,rfl⟩:=pk O;subst hz;rw[hb];cases b<;>rfl
     cases b with
     |true=>rw[wb hi (snoc true rfl)] at hv;rw[hv];rfl
     |false=>rw[wb hi (snoc false rfl)] at hv;rw[hv];rfl
    ·cases h
   ·cases h
  ·cases h
 ·rename_i op xt x y _ E
  split at h
  ·cases h
  split at h
  ·rename_i k a c8 b H a6
   split at h<;>try (cases h;done)
   split at h
   ·rename_i W I
    simp only[Option.some.injEq,Prod.mk.injEq] at h
    obtain⟨_,rfl⟩:=h
    simp only[execOp,E,H,a6]
    exact aU (jS P _ _ I w)
   ·cases h
  ·rename_i a b H a6
   split at h<;>try (cases h;done)
   split at h
   ·rename_i W I
    simp only[Option.some.injEq,Prod.mk.injEq] at h
    obtain⟨_,rfl⟩:=h
    simp only[execOp,E,H,a6]
    exact aU (jS P _ _ I w)
   ·cases h
  ·cases h
 ·rename_i op _ x E
  split at h
  ·rename_i W I
   simp only[Option.some.injEq,Prod.mk.injEq] at h
   obtain⟨_,rfl⟩:=h
   simp only[execOp,E]
   exact aU (jS P _ _ I w)
  ·cases h
 ·rename_i xt x i E
  split at h
  ·rename_i s k m H b9
   split at h
   ·rename_i U
    simp only[Option.some.injEq,Prod.mk.injEq] at h
    obtain⟨b8,rfl⟩:=h
    obtain⟨c2,b8⟩:=hs _ b8.symm
    have b6:m.toNat<s.size:=by omega
    simp only[execOp,E]
    refine aU ?_
    unfold Instr.index asIntOf underlying
    simp only[H,b9,Sem.run_bind,run_program,Result.andThen_ok]
    simp only[pure,Sem.run,Result.andThen_ok,c2,if_true,getElem?_pos s m.toNat b6,U]
    congr 2
    unfold bt
    have:s.data.size=s.size:=rfl
    simp[Array.getD,this,b6,ByteArray.getElem_eq_getElem_data]
   ·cases h
  ·cases h
 ·rename_i c3 E
  obtain⟨c4,b5,a7⟩:=c3
  split at h
  ·rename_i b4
   dsimp only at b4 h
   subst b4
   split at h
   ·rename_i t x ht H
    split at h
    ·rename_i s U V
     simp only[Option.some.injEq,Prod.mk.injEq] at h
     obtain⟨_,rfl⟩:=h
     simp only[execOp,E]
     refine aU (s:=Builtin.len_ a7 o.type (b5.map (rd ρ))) ?_
     simp[Builtin.len_,ht,H,underlying,U,V,goInt]
    ·rename_i e q m c5 U V
     simp only[Option.some.injEq,Prod.mk.injEq] at h
     obtain⟨_,rfl⟩:=h
     simp only[execOp,E]
     refine aU (s:=Builtin.len_ a7 o.type (b5.map (rd ρ))) ?_
     simp[Builtin.len_,ht,H,underlying,U,V,goInt]
    ·cases h
   ·cases h
  ·cases h
 ·cases h

theorem pX {ρ:Fr}{O I:Fr->GS->Prop}: ∀(c:Ch) (gs:GS),Inv gs ρ->c≠ []->
 (∀pre u x v W,c=pre++(u,x,v)::W->rE pre=true->ρ u=v)->
 rP c ρ gs O I-> ∃g,Inv g ρ/\(rE c=true/\O ρ g\/rE c=false/\I ρ g)
 | [],_,_,h,_,_=>absurd rfl h
 |(u,x,v)::c,gs,hi,_,hv,h=>by
  have b9:ρ u=v:=hv [] u x v c rfl rfl
  unfold rP at h
  cases v with
  |bool b=>
   have U: ∀z,b=z->upd ρ u (.bool z)=ρ:=λz hz=>by subst hz;rw[<-b9];exact rt ρ u
   have hd:=hi.drop u
   have a6:isB x (.bool b)=false->I ρ (qn gs u)-> ∃g,Inv g ρ/\(rE ((u,x,Value.bool b)::c)=true/\O ρ g\/rE ((u,x,Value.bool b)::c)=false/\I ρ g):=by
    intro E V
    refine⟨_,hd,.inr ⟨?_,V⟩⟩
    cases c with
    |nil=>exact E
    |cons H c=>show (isB x (.bool b) && rE (H::c))=false;rw[E];rfl
   have go:isB x (.bool b)=true->rP c ρ (qn gs u) O I-> ∃g,Inv g ρ/\(rE ((u,x,Value.bool b)::c)=true/\O ρ g\/rE ((u,x,Value.bool b)::c)=false/\I ρ g):=by
    intro E V
    cases c with
    |nil=>exact⟨_,hd,.inl ⟨E,V⟩⟩
    |cons H c=>
     have a7:rE ((u,x,Value.bool b)::H::c)=rE (H::c):=by show (isB x (.bool b) && rE (H::c))=_;rw[E];rfl
     obtain⟨g,b3,b4⟩:=pX (H::c) (qn gs u) hd (by simp)
      (λpre b8 b5 b6 W b7 c1=>by
       refine hv ((u,x,.bool b)::pre) b8 b5 b6 W (by rw[b7];rfl) ?_
       cases pre with
       |nil=>exact E
       |cons z pre=>show (isB x (.bool b) && rE (z::pre))=true;rw[E,c1];rfl) V
     rw[a7]
     exact⟨g,b3,b4⟩
   cases b with
   |true=>cases x with
    |true=>simp only[U true rfl] at h;exact go rfl h
    |false=>simp only[U true rfl] at h;exact a6 rfl h
   |false=>cases x with
    |true=>simp only[U false rfl] at h;exact a6 rfl h
    |false=>simp only[U false rfl] at h;exact go rfl h
  |tuple vs=>
   refine⟨_,hi.drop u,.inr ⟨?_,h⟩⟩
   cases c with
   |nil=>rfl
   |cons H c=>rfl
  |_=>exact h.elim

theorem rG {o:Oper}{y:Array Oper}{tmps:Array Value}{j t:Nat}{g:Bool}(E:o.guard=some (j,g))(ht:(y.toList[j]?).bind (·.dst)=some t):Region.wanted o (yielded y tmps)=isB g (tmps.getD t undef):=by
 have H:(y[j]?).bind (·.dst)=some t:=by simpa using ht
 simp only[Region.wanted,E]
 unfold yielded
 rw[H,Array.getD_eq_getD_getElem?]
 simp only[Option.bind_some]
 cases tmps[t]? with
 |none=>rfl
 |some v=>cases v<;>first|rfl|(rename_i b;cases b<;>cases g<;>rfl)

theorem qu {gs:GS}{ρ:Fr}(hi:Inv gs ρ): ∀(f t:Nat) (E:Bool),∀pre u x v H,jI gs ρ f t E=pre++(u,x,v)::H->rE pre=true->ρ u=v
 |0,t,E,pre,u,x,v,H,he,_=>by
  cases pre with
  |nil=>simp only[jI,List.nil_append,List.cons.injEq,Prod.mk.injEq] at he;rw[<-he.1.1];exact he.1.2.2
  |cons y pre=>simp[jI] at he
 |f+1,t,E,pre,u,x,v,H,he,hp=>by
  unfold jI at he
  split at he
  ·cases pre with
   |nil=>simp only[List.nil_append,List.cons.injEq,Prod.mk.injEq] at he;rw[<-he.1.1];exact he.1.2.2
   |cons y pre=>simp at he
  ·rename_i t' g V b3
   rcases List.eq_nil_or_concat H with O|⟨I,z,O⟩
   ·subst O
    have U:jI gs ρ f t' g=pre/\(t,E,V)=(u,x,v):=by
     have:=List.append_inj' he rfl
     simpa using this
    obtain⟨a7,a6⟩:=U
    cases a6
    have W:=pD hi f t' g
    rw[a7,hp] at W
    rw[hi t t' g v (m7 b3),<-W]
    rfl
   ·subst O
    have U:jI gs ρ f t' g=pre++(u,x,v)::I:=by
     have:jI gs ρ f t' g++ [(t,E,V)]=(pre++(u,x,v)::I)++ [z]:=by rw[he];simp
     exact(List.append_inj' this rfl).1
    exact qu hi f t' g pre u x v I U hp

theorem tM {n:Nat}{E:Array Oper}{Q:fH}: ∀(l:List Oper) {gs:GS} {a:Act} {ρ:Fr} {w:World},RelF n a ρ->Inv gs ρ->
 xo P n E.toList l (Q .normal) gs ρ w->wpList P E (mt n Q) l a w
 | [],_,a,ρ,w,hr,_,h=>⟨ρ,hr,h⟩
 |o::rest,gs,a,ρ,w,hr,hi,h=>by
  have c1:= @tM n E Q rest
  unfold xo at h
  split at h
  ·exact h.elim
  ·rename_i hd
   have b9: ∀k,o.dst=some k->k<n:=λk b4=>by rw[b4] at hd;simpa[sN,Nat.blt_eq] using hd
   have d2:a.eval=rd ρ:=funext hr.eval
   have b6: ∀(y:GS),Inv y ρ->Region.wanted o (yielded E a.tmps)=true->
    opV P o ρ (λv c4=>xo P n E.toList rest (Q .normal) y (rj ρ o.dst v) c4) w->(∀v,Inv y (rj ρ o.dst v))->wpList P E (mt n Q) (o::rest) a w:=by
    intro y _ H hv a6
    unfold wpList
    rw[if_pos H]
    refine .inl (Oper.wp_mono (λd3 c4 ⟨v,d1,b4⟩=>?_) (wc hr hv))
    subst d1
    exact c1 (hr.put o.dst v b9) (a6 v) b4
   have val: ∀(y:GS) (v:Value),Inv y (rj ρ o.dst v)->Region.wanted o (yielded E a.tmps)=true->(execOp (rd ρ) o).run P w= .ok (.value v) w->
    xo P n E.toList rest (Q .normal) y (rj ρ o.dst v) w->wpList P E (mt n Q) (o::rest) a w:=by
    intro y v a6 H c9 hv
    unfold wpList
    rw[if_pos H]
    refine .inl ?_
    unfold Oper.wp
    rw[d2,c9]
    exact c1 (hr.put o.dst v b9) a6 hv
   have c2: ∀(y:GS),Inv y (rj ρ o.dst undef)->Region.wanted o (yielded E a.tmps)=false->
    xo P n E.toList rest (Q .normal) y (rj ρ o.dst undef) w->wpList P E (mt n Q) (o::rest) a w:=by
    intro y a6 H hv
    unfold wpList
    rw[if_neg (by simp[H])]
    exact c1 (hr.put o.dst undef b9) a6 hv
   split at h
   ·rename_i b7
    have H:Region.wanted o (yielded E a.tmps)=true:=by simp[Region.wanted,b7]
    split at h
    ·exact b6 _ (by cases o.dst<;>first|exact hi|exact λ_ _ _ _ b3=>hi _ _ _ _ (ma b3).1) H h (λv=>hi.delO o.dst v)
    ·split at h
     ·rename_i v V
      exact val _ v (hi.delO o.dst v) H (tI hi (λ_ _ b4=>by cases b4) V (λ_ hs=>by cases hs) w) h
     ·exact b6 _ (by cases o.dst<;>first|exact hi|exact λ_ _ _ _ b3=>hi _ _ _ _ (ma b3).1) H h (λv=>hi.delO o.dst v)
   ·rename_i j g b7
    split at h
    ·rename_i t d ht I
     have H:Region.wanted o (yielded E a.tmps)=isB g (ρ t):=by rw[rG b7 ht,hr.get]
     have O:=pD hi 9 t g
     have c5:=qu hi 9 t g
     have d0:=vc gs ρ 9 t g
     split at h
     ·exact h.elim
     ·rename_i b8
      have b8:=ny b8
      have c3: ∀(W:Option Prop) (v:Value),vU P o (jI gs ρ 9 t g) gs ρ=some (W,v)->(∀p,W=some p->rE (jI gs ρ 9 t g)=true->p)->
       xo P n E.toList rest (Q .normal) ((d,t,g,v)::wO gs d) (upd ρ d (F5 (rE (jI gs ρ 9 t g)) v)) w->wpList P E (mt n Q) (o::rest) a w:=by
       intro W v V c8 h
       have b5:=hi.add (d:=d) (v:=v) b8 O
       cases hb:isB g (ρ t) with
       |true=>
        rw[O,hb] at h b5
        refine val ((d,t,g,v)::wO gs d) v ?_ (by rw[H,hb]) (tI hi (mh hi 9 t g hb) V (λp a7=>c8 p a7 (by rw[O,hb])) w) ?_
        ·rw[I];exact b5
        ·rw[I];exact h
       |false=>
        rw[O,hb] at h b5
        refine c2 ((d,t,g,v)::wO gs d) ?_ (by rw[H,hb]) ?_
        ·rw[I];exact b5
        ·rw[I];exact h
      split at h
      ·rename_i v V
       exact c3 none v V (λp a7=>by cases a7) h
      ·rename_i W v V
       exact c3 (some W) v V (λp a7=>by cases a7;exact h.1) h.2
      ·obtain⟨y,U,h|h⟩:=pX _ gs hi d0 c5 h
       ·obtain⟨hb,h⟩:=h
        rw[O] at hb
        rw[wb U (mh hi 9 t g hb)] at h
        refine b6 (wO y d) (λ_ _ _ _ b3=>U _ _ _ _ (ma b3).1) (by rw[H,hb]) ?_ (λv=>by rw[I];exact U.del d v)
        rw[I]
        exact h
       ·obtain⟨hb,h⟩:=h
        rw[O] at hb
        exact c2 (wO y d) (by rw[I];exact U.del d undef) (by rw[H,hb]) (by rw[I];exact h)
    ·rename_i t ht I
     have H:Region.wanted o (yielded E a.tmps)=isB g (ρ t):=by rw[rG b7 ht,hr.get]
     have O:=pD hi 9 t g
     obtain⟨y,U,h|h⟩:=pX _ gs hi (vc gs ρ 9 t g) (qu hi 9 t g) h
     ·obtain⟨hb,h⟩:=h
      rw[O] at hb
      rw[wb U (mh hi 9 t g hb)] at h
      refine b6 y U (by rw[H,hb]) ?_ (λv=>by rw[I];exact U)
      rw[I]
      exact h
     ·obtain⟨hb,h⟩:=h
      rw[O] at hb
      exact c2 y (by rw[I];exact U) (by rw[H,hb]) (by rw[I];exact h)
    ·exact h.elim

theorem z8 {n:Nat}{K:Fr->World->Prop}{Q:fH}{g:Code}(E: ∀ρ w,K ρ w->WpF P n g Q ρ w)(e:Exit)(a:Act)(w:World)(h:mt n (mr K Q) e a w):Exit.then (g.wp P (mt n Q)) (mt n Q) e a w:=by
 obtain⟨ρ,hr,h⟩:=h
 cases e<;>first|exact E _ _ h _ hr|exact⟨ρ,hr,h⟩

theorem WpF.seq {n:Nat}{x g:Code}{K:Fr->World->Prop}{Q:fH}{ρ:Fr}{w:World}(h:WpF P n x (mr K Q) ρ w)(E: ∀ρ w,K ρ w->WpF P n g Q ρ w):WpF P n (.seq x g) Q ρ w:=
 λa hr=>wp_seq (Code.wp_mono (z8 E) (h a hr))
theorem WpF.block {n id:Nat}{x:Code}{Q:fH}{ρ:Fr}{w:World}(h:WpF P n x (ra id Q) ρ w):WpF P n (.block id x) Q ρ w:=by
 refine λa hr=>wp_block (Code.wp_mono (λe a w h=>?_) (h a hr))
 obtain⟨ρ,hr,h⟩:=h
 cases e<;>try exact⟨ρ,hr,h⟩
 rename_i g
 simp only[ra] at h
 simp only[Exit.inBlock]
 split at h
 ·rename_i hb;rw[if_pos (Nat.eq_of_beq_eq_true hb)];exact⟨ρ,hr,h⟩
 ·rename_i hb
  rw[if_neg (λhc=>by subst hc;simp at hb)]
  exact⟨ρ,hr,h⟩
theorem WpF.cond {n t:Nat}{x H:Code}{Q:fH}{ρ:Fr}{w:World}{b:Bool}(hb:ρ t= .bool b)(h:match b with|true=>WpF P n x Q (upd ρ t (.bool true)) w|false=>WpF P n H Q (upd ρ t (.bool false)) w):WpF P n (.cond (.tmp t) x H) Q ρ w:=by
 have g:upd ρ t (.bool b)=ρ:=by rw[<-hb];exact rt ρ t
 intro a hr
 have E:a.eval (.tmp t)= .bool b:=by rw[hr.eval];exact hb
 cases b with
 |true=>exact wp_cond_true E (h a (by rw[g];exact hr))
 |false=>exact wp_cond_false E (h a (by rw[g];exact hr))

theorem WpF.scope {n:Nat}{x:Code}{Q:fH}{ρ:Fr}{w:World}(h:WpF P n x (kZ Q) ρ w):WpF P n (.scope x) Q ρ w:=by
 refine λa hr=>wp_scope_straight (Code.wp_mono (λe a w h=>?_) (h a hr))
 obtain⟨ρ,hr,h⟩:=h
 cases e<;>first|exact⟨ρ,hr,h⟩|exact h.elim

theorem AO {n:Nat}: ∀(c:Code) {Q:fH} {ρ:Fr} {w:World},vcC P n c Q ρ w->WpF P n c Q ρ w:=by
 intro c
 induction c with
 |skip=>exact λh a hr=>wp_skip ⟨_,hr,h⟩
 |region id W I=>
  intro Q ρ w h
  unfold vcC at h
  cases I with
  |true=>exact h.elim
  |false=>exact λa hr=>wp_region_list (tM _ hr (λ_ _ _ _ U=>by cases U) h)
 |seq x V E g=>exact λh=>WpF.seq (E h) (λρ w O=>g O)
 |cond c x V E g=>
  intro Q ρ w h
  unfold vcC at h
  split at h
  ·split at h
   ·rename_i t b hb
    refine WpF.cond hb ?_
    cases b with
    |true=>exact E h
    |false=>exact g h
   ·exact h.elim
  ·rename_i b
   intro a hr
   cases b with
   |true=>exact wp_cond_true rfl (E h a hr)
   |false=>exact wp_cond_false rfl (g h a hr)
  ·exact h.elim
 |block id x H=>exact λh=>WpF.block (H h)
 |exit id=>exact λh a hr=>wp_exit ⟨_,hr,h⟩
 |ret=>exact λh a hr=>wp_ret ⟨_,hr,h⟩
 |label l=>exact λh a hr=>wp_label ⟨_,hr,h⟩
 |goto l=>exact λh a hr=>wp_goto ⟨_,hr,h⟩
 |scope x H=>exact λh=>WpF.scope (H h)
 |_=>exact λh=>by unfold vcC at h;exact h.elim

def LoopF (P:Program)(n:Nat)(c:Code)(Q:fH)(ρ:Fr)(w:World):Prop:=
 ∀a,RelF n a ρ-> ∀(b:Frame) (k:List Item) (cs:List Frame),
  ∃e g y,mt n Q e g y/\Arrives P (lone (b.at a (.code c:: .inLoop c::k)) cs w) b k cs e g y
theorem LoopF.wp {n:Nat}{c:Code}{Q:fH}{ρ:Fr}{w:World}(h:LoopF P n c Q ρ w):WpF P n (.loop c) Q ρ w:=by
 intro a hr b k cs
 obtain⟨e,y,H,E,g⟩:=h a hr b k cs
 exact⟨e,y,H,E,.of_steps (.one step_loop) g⟩
theorem LoopF.unfold {n:Nat}{c:Code}{Q:fH}{ρ:Fr}{w:World}(h:WpF P n c (mr (LoopF P n c Q) Q) ρ w):LoopF P n c Q ρ w:=by
 intro a hr b k cs
 obtain⟨e,H,I,⟨O,y,E⟩,g⟩:=h a hr b (.inLoop c::k) cs
 cases e with
 |normal=>
  obtain⟨a7,a6,W,V,U⟩:=E H y b k cs
  exact⟨a7,a6,W,V,.of_steps (Steps.trans g (.one step_inLoop)) U⟩
 |exit id=>exact⟨_,H,I,⟨O,y,E⟩,.pass (x:= .inLoop c) rfl (λ_ _=> .inl (by simp)) g⟩
 |goto l=>exact⟨_,H,I,⟨O,y,E⟩,.pass (x:= .inLoop c) rfl (λ_ _=> .inl (by simp)) g⟩
 |ret=>exact⟨_,H,I,⟨O,y,E⟩,.pass (x:= .inLoop c) rfl (λ_ _=> .inl (by simp)) g⟩
 |panic ch=>exact⟨_,H,I,⟨O,y,E⟩,.pass (x:= .inLoop c) rfl (λ_ _=> .inl (by simp)) g⟩
 |outgrown=>exact⟨_,H,I,⟨O,y,E⟩,.pass (x:= .inLoop c) rfl (λ_ _=> .inl (by simp)) g⟩
theorem WpF.mono {n:Nat}{c:Code}{Q g:fH}{ρ:Fr}{w:World}(h:WpF P n c Q ρ w)(y: ∀e ρ w,Q e ρ w->g e ρ w):WpF P n c g ρ w:=
 λa hr=>Code.wp_mono (λ_ _ _ ⟨ρ,hr,h⟩=>⟨ρ,hr,y _ _ _ h⟩) (h a hr)

end Go.Proofs.YtendaipfdnhnaaaGreatDoor


namespace Go.Proofs.YtendaipfdnhnaaaGreatDoor
variable {P:Program}

def semP (P:Program)(s:Sem Value)(ty:Ty)(K:Value->Prop):Prop:=ty.ex λv=>(∀w,s.run P w= .ok v w)/\K v
def valV (P:Program)(o:Oper)(ρ:Fr)(K:Value->Prop):Prop:=
 match o.op with
 | .move x| .assign x=>K (rd ρ x)
 | .pick c x y=>match rd ρ c with
  | .bool b=>match b with
   |true=>K (rd ρ x)
   |false=>K (rd ρ y)
  |_=>False
 | .binOp op xt x y _=>match Bp P xt with
  |false=>semP P (do eqGuard op xt x y (rd ρ x) (rd ρ y);binOp op xt (rd ρ x) (rd ρ y)) (.c (.s .bool)) K
  |true=>match rd ρ x,rd ρ y with
   | .string a,.string b=>match op with
    | .add=>((a.size+b.size:Nat):Int)<=i64.max/\K (.string (a++b))
    |_=>nY P (do eqGuard op xt x y (.string a) (.string b);binOp op xt (.string a) (.string b)) K
   | .int k a,.int k' b=>match op with
    | .quo=>b≠0/\match decide (k=k') with
     |true=>K (.int k (k.wrap (a.tdiv b)))
     |false=>False
    | .rem=>b≠0/\match decide (k=k') with
     |true=>K (.int k (a.tmod b))
     |false=>False
    |_=>nY P (do eqGuard op xt x y (.int k a) (.int k' b);binOp op xt (.int k a) (.int k' b)) K
   |x',y'=>nY P (do eqGuard op xt x y x' y';binOp op xt x' y') K
 | .unOp op _ x=>nY P (Op.unary op (rd ρ x)) K
 | .nilCheck x=>nilV (rd ρ x) K
 | .fieldAddr s x f=>match rd ρ x with
  | .pointer (some a)=>match P.underlying s with
   |some (.struct fs)=>match fs[f]? with
    |some E=>match P.info? E.type with
     |some i=>match i.size with
      |0=>False
      |_+1=>K (.pointer (some (a.add E.offset)))
     |none=>False
    |none=>False
   |_=>False
  |_=>False
 | .field xt x f=>nY P (Instr.field xt (rd ρ x) f) K
 | .build t parts=>match P.underlying t,P.info? t with
  |some (.struct fs),some g=>match g.zero with
   |some (.agg H)=>match fs.toList.all λf=>(P.info? f.type).isSome with
    |true=>buildS P fs (parts.toList.map λ(i,x)=>(i,rd ρ x)) H.toList λcs=>K (.agg cs.toArray)
    |false=>False
   |_=>False
  |_,_=>nY P (Instr.build t (parts.map λ(i,x)=>(i,rd ρ x))) K
 | .makeInterface t x=>nY P (Instr.makeInterface t (rd ρ x)) K
 | .makeFunc fn first captured=>K (.func fn (first.map (rd ρ)) (captured.map (rd ρ)))
 | .extract x i=>match rd ρ x with
  | .tuple vs=>match vs[i]? with
   |some v=>K v
   |none=>False
  |_=>False
 | .index xt x i=>match rd ρ x,rd ρ i with
  | .string s,.int _ n=>match P.underlying xt with
   |some .string=>0<=n/\n<s.size/\K (.int .u8 (bt s n))
   |_=>False
  |_,_=>False
 | .indexAddr t x i=>match rd ρ x,rd ρ i with
  | .slice q len _,.int _ n=>match P.underlying t with
   |some (.slice e)=>match P.info? e with
    |some g=>0<=n/\n<len/\aA q λa=>K (.pointer (some (a.add (n.toNat*g.size))))
    |none=>False
   |_=>False
  | .pointer (some ad),.int _ n=>match P.underlying t with
   |some (.array len e)=>match P.info? e with
    |some g=>0<=n/\n<(len:Int)/\K (.pointer (some (ad.add (n.toNat*g.size))))
    |none=>False
   |_=>False
  |_,_=>False
 | .slice t x lo hi mx=>match rd ρ x with
  | .string s=>match P.underlying t,mx with
   |some .string,none=>oZ s (lo.map (rd ρ)) (hi.map (rd ρ)) K
   |_,_=>False
  |x'=>semP P (Instr.sliceAt t x' (lo.map (rd ρ)) (hi.map (rd ρ)) (mx.map (rd ρ))) (.c (.s .slice)) K
 | .convert src dst x=>match rd ρ x with
  | .int _ n=>match P.underlying src,P.underlying dst with
   |some (.int _),some (.int k)=>K (.int k (k.wrap n))
   |some (.int _),some .string=>K (.string (Utf8.encode n))
   |_,_=>False
  | .string s=>match P.underlying src,P.underlying dst with
   |some .string,some .string=>K (.string s)
   |_,_=>False
  |_=>False
 | .typeAssert x xt asserted ok=>semP P (Instr.typeAssert (rd ρ x) xt asserted ok) (okTy (DS P asserted) ok) K
 | .call c=>match c.callee with
  | .builtin .len=>match c.argTypes[0]?,c.args[0]? with
   |some t,some x=>match P.underlying t,rd ρ x with
    |some .string,.string s=>K (.int .i64 s.size)
    |some (.slice _),.slice _ n _=>K (.int .i64 n)
    |_,_=>False
   |_,_=>False
  |_=>False
 |_=>False

theorem uB {s:Sem Value}{ty:Ty}{K:Value->Prop}(h:semP P s ty K): ∃v,K v/\ ∀w,s.run P w= .ok v w:=by
 obtain⟨v,hr,g⟩:=Ty.ex_out h
 exact⟨v,g,hr⟩
theorem C6 {o:Oper}{ρ:Fr}{K:Value->Prop}(h:valV P o ρ K): ∃v,K v/\ ∀w,(execOp (rd ρ) o).run P w= .ok (.value v) w:=by
 have bind: ∀ {s:Sem Value} {e:Sem Next},e=(s>>=λv=>pure (.value v))->(∃v,K v/\ ∀w,s.run P w= .ok v w)-> ∃v,K v/\ ∀w,e.run P w= .ok (.value v) w:=by
  intro s e d0 ⟨v,g,hr⟩
  subst d0
  exact⟨v,g,λw=>aU (hr w)⟩
 unfold valV at h
 split at h<;>rename_i c5<;>simp only[execOp,c5]
 case h_1=>exact⟨_,h,λ_=>rfl⟩
 case h_2=>exact⟨_,h,λ_=>rfl⟩
 case h_3=>
  split at h
  ·rename_i b hb
   split at h<;>(rw[hb];exact⟨_,h,λ_=>rfl⟩)
  ·exact h.elim
 case h_4=>
  rename_i op xt x y e4
  refine bind rfl ?_
  split at h
  ·exact uB h
  ·split at h
   ·rename_i a b V hb
    split at h
    ·obtain⟨hs,h⟩:=h
     refine⟨_,h,λw=>?_⟩
     have: ¬ ((a.size+b.size:Nat):Int)>i64.max:=by omega
     rw[V,hb]
     show (binOp .add xt (.string a) (.string b)).run P w=_
     simp only[binOp,Op.stringOp,if_neg this]
     rfl
    ·rw[V,hb];exact eJ h
   ·rename_i k a e6 b V hb
    split at h
    ·obtain⟨U,h⟩:=h
     split at h
     ·rename_i g
      have g:=of_decide_eq_true g
      subst g
      refine⟨_,h,λw=>?_⟩
      rw[V,hb]
      show (binOp .quo xt (.int k a) (.int k b)).run P w=_
      simp[binOp,Op.intDiv,U]
     ·exact h.elim
    ·obtain⟨U,h⟩:=h
     split at h
     ·rename_i g
      have g:=of_decide_eq_true g
      subst g
      refine⟨_,h,λw=>?_⟩
      rw[V,hb]
      show (binOp .rem xt (.int k a) (.int k b)).run P w=_
      simp[binOp,Op.intDiv,U]
     ·exact h.elim
    ·rw[V,hb];exact eJ h
   ·exact eJ h
 case h_5=>exact bind rfl (eJ h)
 case h_6=>
  unfold nilV at h
  split at h
  ·rename_i q d4
   unfold aA at h
   split at h
   ·rw[d4];exact⟨_,h,λ_=>rfl⟩
   ·exact h.elim
  ·rename_i v hv
   obtain⟨U,g⟩:=h
   cases I:rd ρ _<;>rw[I] at U g<;>try exact U.elim
   ·rename_i d2 first d5
    cases d2<;>try exact U.elim
    exact⟨_,g,λ_=>rfl⟩
   ·exact⟨_,g,λ_=>rfl⟩
 case h_7=>
  split at h
  ·rename_i b9 c8
   split at h
   ·rename_i fs E
    split at h
    ·rename_i e5 b3
     split at h
     ·rename_i i hi
      split at h
      ·exact h.elim
      ·rename_i m d1
       refine bind rfl ⟨_,h,λw=>?_⟩
       rw[c8]
       unfold Instr.fieldAt underlying fieldPlace sizeOf typeInfo
       simp only[Sem.run_bind,run_program,Result.andThen_ok,E]
       simp only[pure,Sem.run,Result.andThen_ok,b3,Instr.sureAddr,d1,Nat.add_one_ne_zero,if_false,Sem.run_bind,run_program,hi]
     ·exact h.elim
    ·exact h.elim
   ·exact h.elim
  ·exact h.elim
 case h_8=>exact bind rfl (eJ h)
 case h_9=>
  split at h
  ·rename_i fs O E c3
   rename_i b5 _ _
   split at h
   ·rename_i c1 hz
    split at h
    ·rename_i c4
     have d3: ∀(i:Nat) (f:Field) (O:TypeInfo),fs[i]? =some f->P.info? f.type=some O->
      ((fs.toList.map λf=>(f.offset,((P.info? f.type).map (·.size)).getD 0)).toArray)[i]? =some (f.offset,O.size):=by
      intro i f e1 b3 hi
      simp[b3,hi]
     obtain⟨e2,g,c2⟩:=qv d3 h
     refine bind rfl ⟨_,g,λw=>?_⟩
     unfold Instr.build zeroValue typeInfo underlying
     simp only[Sem.run_bind,run_program,Result.andThen_ok,c3,E]
     rw[show (pure O:Sem TypeInfo).run P w= .ok O w from rfl]
     simp only[Result.andThen_ok,hz]
     rw[show (pure (Value.agg c1):Sem Value).run P w= .ok (.agg c1) w from rfl]
     simp only[Result.andThen_ok]
     rw[show (pure (TypeDesc.struct fs):Sem TypeDesc).run P w= .ok (.struct fs) w from rfl]
     simp only[Result.andThen_ok,Sem.run_bind]
     rw[Array.mapM_eq_mapM_toList,map_eq_pure_bind,Sem.run_bind,p6 _ c4]
     simp only[Result.andThen_ok]
     rw[show∀x:List (Nat × Nat),(pure x.toArray:Sem (Array (Nat × Nat))).run P w= .ok x.toArray w from λ_=>rfl]
     simp only[Result.andThen_ok,Value.cells]
     have c9:(b5.map λ(i,x)=>(i,rd ρ x)).toList=b5.toList.map λ(i,x)=>(i,rd ρ x):=by simp
     rw[c9,c2]
     simp
    ·exact h.elim
   ·exact h.elim
  ·exact bind rfl (eJ h)
 case h_10=>exact bind rfl (eJ h)
 case h_11=>exact⟨_,h,λ_=>rfl⟩
 case h_12=>
  split at h
  ·rename_i vs hv
   split at h
   ·rename_i v hi
    exact bind rfl ⟨_,h,λw=>by simp[hv,Instr.extract,hi]⟩
   ·exact h.elim
  ·exact h.elim
 case h_13=>
  split at h
  ·rename_i s k m hs hi
   split at h
   ·rename_i E
    obtain⟨W,H,g⟩:=h
    refine bind rfl ⟨_,g,λw=>?_⟩
    have b8:m.toNat<s.size:=by omega
    unfold Instr.index asIntOf underlying
    simp only[hs,hi,Sem.run_bind,run_program,Result.andThen_ok]
    simp only[pure,Sem.run,Result.andThen_ok,W,if_true,getElem?_pos s m.toNat b8,E]
    congr 2
    unfold bt
    have:s.data.size=s.size:=rfl
    simp[Array.getD,this,b8,ByteArray.getElem_eq_getElem_data]
   ·exact h.elim
  ·exact h.elim
 case h_14=>
  split at h
  ·rename_i q len c k m hs hi
   split at h
   ·rename_i e E
    split at h
    ·rename_i O a7
     obtain⟨W,H,g⟩:=h
     unfold aA at g
     split at g
     ·rename_i b9
      refine bind rfl ⟨_,g,λw=>?_⟩
      unfold Instr.indexAt asIntOf underlying sizeOf typeInfo
      simp only[hs,hi,Sem.run_bind,run_program,Result.andThen_ok]
      simp only[pure,Sem.run,Result.andThen_ok,W,H,and_self,if_true,Sem.run_bind,run_program,a7,E]
     ·exact g.elim
    ·exact h.elim
   ·exact h.elim
  ·rename_i b9 k m hs hi
   split at h
   ·rename_i len e E
    split at h
    ·rename_i O a7
     obtain⟨W,H,g⟩:=h
     refine bind rfl ⟨_,g,λw=>?_⟩
     unfold Instr.indexAt asIntOf underlying sizeOf typeInfo
     simp only[hs,hi,Sem.run_bind,run_program,Result.andThen_ok]
     simp only[pure,Sem.run,Result.andThen_ok,W,H,and_self,if_true,Sem.run_bind,run_program,a7,E,Instr.sureAddr]
    ·exact h.elim
   ·exact h.elim
  ·exact h.elim
 case h_15=>
  split at h
  ·rename_i s hs
   split at h
   ·rename_i E
    rw[hs]
    refine bind rfl ?_
    exact qE E h
   ·exact h.elim
  ·exact bind rfl (uB h)
 case h_16=>
  split at h
  ·rename_i k m I
   split at h
   ·rename_i k1 k2 H a6
    exact bind rfl ⟨_,h,λw=>by simp[I,convert,underlying,H,a6,Conv.intToInt]⟩
   ·rename_i k1 H a6
    exact bind rfl ⟨_,h,λw=>by simp[I,convert,underlying,H,a6,Conv.intToString]⟩
   ·exact h.elim
  ·rename_i m I
   split at h
   ·rename_i H a6
    exact bind rfl ⟨_,h,λw=>by simp[I,convert,underlying,H,a6]⟩
   ·exact h.elim
  ·exact h.elim
 case h_17=>exact bind rfl (uB h)
 case h_18=>
  rename_i c
  obtain⟨e0,b7,b4⟩:=c
  split at h
  ·rename_i b6
   dsimp only at b6 h
   subst b6
   split at h
   ·rename_i t x ht I
    split at h
    ·rename_i s E hs
     exact bind (s:=Builtin.len_ b4 o.type (b7.map (rd ρ))) rfl ⟨_,h,λw=>by simp[Builtin.len_,ht,I,underlying,E,hs,goInt]⟩
    ·rename_i e q m e3 E hs
     exact bind (s:=Builtin.len_ b4 o.type (b7.map (rd ρ))) rfl ⟨_,h,λw=>by simp[Builtin.len_,ht,I,underlying,E,hs,goInt]⟩
    ·exact h.elim
   ·exact h.elim
  ·exact h.elim
 case h_19=>exact h.elim

def SameC (w g:World)(a:Addr)(n:Nat):Prop:= ∀k,k<n->g.cell? (a.add k)=w.cell? (a.add k)
theorem SameC.trans {w E g:World}{a:Addr}{n:Nat}(h:SameC w E a n)(H:SameC E g a n):SameC w g a n:=
 λk y=>(H k y).trans (h k y)
theorem add_zero (a:Addr):a.add 0=a:=rfl

theorem BO: ∀ {ts:List STy} {w:World} {a:Addr} {i:Nat} {K:List Value->Prop},ldS w ts a i K->
 ∃vs,K vs/\vs.length=ts.length/\ ∀g,(∀k,k<i+ts.length->g.cell? (a.add k)=w.cell? (a.add k))-> ∀(y:Array Value),(loadCellsFrom a i ts.length y).run P g= .ok (y++vs.toArray) g
 | [],_,_,_,_,h=>⟨[],h,rfl,λg _ y=>by simp[loadCellsFrom]⟩
 |t::ts,w,a,i,K,h=>by
  obtain⟨v,hc,h⟩:=STy.ex_out h
  obtain⟨vs,H,O,hr⟩:=BO h
  refine⟨v::vs,H,by simp[O],λg E y=>?_⟩
  have I:g.cell? (a.add i)=some v:=by rw[E i (by simp only[List.length_cons];omega)];exact hc
  simp only[List.length_cons,loadCellsFrom,Sem.run_bind,run_load,I,Result.andThen]
  rw[hr g (λk H=>E k (by simp only[List.length_cons];omega))]
  simp

theorem BG {t:TypeId}{a:Addr}{w:World}{K:Value->Prop}{i:TypeInfo}(hi:P.info? t=some i)(E:0<i.size)(h:yd P t a w K):
 ∃v,K v/\ ∀g,SameC w g a i.size->(loadVar t a).run P g= .ok v g:=by
 unfold yd at h
 rw[hi] at h
 split at h
 ·rename_i b3 d U a6
  cases U
  have I:=λw=>wA (w:=w) a6
  split at h
  ·rename_i cs hb hz
   split at h
   ·rename_i O
    obtain⟨vs,y,b4,hr⟩:=BO (P:=P) h
    refine⟨_,y,λg H=>?_⟩
    have V:i.size=cs.size:=by simp[<-Nat.eq_of_beq_eq_true O]
    have W:(loadCellsFrom a 0 cs.size #[]).run P g= .ok vs.toArray g:=by
     have:=hr g (λk y=>H k (by simp at y;omega)) #[]
     simpa using this
    unfold loadVar loadCells sizeOf typeInfo
    simp only[Sem.run_bind,I,Result.andThen_ok,hb,if_true,run_program,hi]
    have E:(pure i:Sem TypeInfo).run P g= .ok i g:=rfl
    simp only[E,Result.andThen_ok,V]
    rw[show (pure cs.size:Sem Nat).run P g= .ok cs.size g from rfl]
    simp only[Result.andThen_ok,W]
    rfl
   ·exact h.elim
  ·rename_i z hb hz
   obtain⟨v,hc,y⟩:=STy.ex_out h
   refine⟨v,y,λg H=>?_⟩
   have a7:g.cell? a=some v:=by have:=H 0 E;rw[add_zero] at this;rw[this];exact hc
   unfold loadVar
   simp only[Sem.run_bind,I,Result.andThen_ok,hb,Bool.false_eq_true,if_false,run_load,a7]
  ·exact h.elim
 ·exact h.elim

inductive RPlan where
 |done
 |pure (i:Nat) (p:RPlan)
 |load (i:Nat) (p:RPlan)
 |one (i:Nat) (p:RPlan)
 |two (i:Nat) (p:RPlan) (j:Nat) (q:RPlan)
def RPlan.depth:RPlan->Nat
 | .done=>0
 | .pure _ p| .load _ p| .one _ p=>p.depth+1
 | .two _ p _ q=>max p.depth q.depth+1
def n9 (g:Array Oper):Nat->Nat->Nat->Bool
 |0,_,_=>false
 |f+1,j,i=>match g[j]? with
  |none=>false
  |some o=>o.after.any λe=>Region.binds .any e && (Nat.beq e.on i||n9 g f e.on i)
def wU:List Nat->List Nat->Bool
 | [],[]=>true
 |a::ys,b::bs=>match Nat.beq a b with
  |true=>wU ys bs
  |false=>false
 |_,_=>false
def wM:List Nat->Nat->Bool
 | [],_=>false
 |a::ys,b=>match Nat.beq a b with
  |true=>true
  |false=>wM ys b
def vy (H:Array Oper)(o:Oper)(ρ:Fr)(g y:Fr->Prop):Prop:=
 match o.guard with
 |none=>g ρ
 |some (j,E)=>match (H.toList[j]?).bind (·.dst) with
  |none=>False
  |some t=>match ρ t with
   | .bool b=>match b with
    |true=>match E with
     |true=>g (upd ρ t (.bool true))
     |false=>y (upd ρ t (.bool true))
    |false=>match E with
     |true=>y (upd ρ t (.bool false))
     |false=>g (upd ρ t (.bool false))
   | .tuple _=>y ρ
   |_=>False
abbrev FU:=List (Nat × Addr × Nat)
def wr (g:Array Oper)(j:Nat)(w y:World):FU->Prop->Prop
 | [],K=>K
 |(i,a,n)::E,K=>match n9 g g.size j i with
  |true=>wr g j w y E K
  |false=>SameC w y a n/\wr g j w y E K
def kX (P:Program)(n:Nat)(g:Array Oper)(Q:Fr->World->Prop):RPlan->Array Bool->FU->Fr->World->Prop
 | .done,listed,_,ρ,w=>match Region.ready .any g listed with
  | []=>Q ρ w
  |_::_=>False
 | .pure i p,listed,E,ρ,w=>match g[i]? with
  |none=>False
  |some o=>match sN n o.dst,Region.free .any g listed i,wM (Region.ready .any g listed) i with
   |true,true,true=>vy g o ρ (λρ=>valV P o ρ λv=>kX P n g Q p (listed.setIfInBounds i true) E (rj ρ o.dst v) w)
    (λρ=>kX P n g Q p (listed.setIfInBounds i true) E (rj ρ o.dst undef) w)
   |_,_,_=>False
 | .load i p,listed,E,ρ,w=>match g[i]? with
  |none=>False
  |some o=>match sN n o.dst,Region.free .any g listed i,wM (Region.ready .any g listed) i with
   |true,true,true=>match o.op with
    | .load t x=>match P.info? t with
     |some H=>match Nat.blt 0 H.size with
      |true=>vy g o ρ (λρ=>match rd ρ x with
       | .pointer (some a)=>yd P t a w λv=>kX P n g Q p (listed.setIfInBounds i true) ((i,a,H.size)::E) (rj ρ o.dst v) w
       |_=>False)
       (λρ=>kX P n g Q p (listed.setIfInBounds i true) E (rj ρ o.dst undef) w)
      |false=>False
     |none=>False
    |_=>False
   |_,_,_=>False
 | .one i p,listed,E,ρ,w=>match g[i]? with
  |none=>False
  |some o=>match sN n o.dst,wU (Region.ready .any g listed) [i] with
   |true,true=>vy g o ρ (λρ=>opV P o ρ (λv y=>wr g i w y E (kX P n g Q p (listed.setIfInBounds i true) E (rj ρ o.dst v) y)) w)
    (λρ=>kX P n g Q p (listed.setIfInBounds i true) E (rj ρ o.dst undef) w)
   |_,_=>False
 | .two i p j q,listed,E,ρ,w=>match g[i]?,g[j]? with
  |some o,some u=>match sN n o.dst,sN n u.dst,wU (Region.ready .any g listed) [i,j] with
   |true,true,true=>
    (vy g o ρ (λρ=>opV P o ρ (λv y=>wr g i w y E (kX P n g Q p (listed.setIfInBounds i true) E (rj ρ o.dst v) y)) w)
     (λρ=>kX P n g Q p (listed.setIfInBounds i true) E (rj ρ o.dst undef) w))/\
    (vy g u ρ (λρ=>opV P u ρ (λv y=>wr g j w y E (kX P n g Q q (listed.setIfInBounds j true) E (rj ρ u.dst v) y)) w)
     (λρ=>kX P n g Q q (listed.setIfInBounds j true) E (rj ρ u.dst undef) w))
   |_,_,_=>False
  |_,_=>False
def GH (P:Program)(n:Nat)(g:Array Oper)(y:RPlan)(Q:Fr->World->Prop)(ρ:Fr)(w:World):Prop:=
 kX P n g Q y (Array.replicate g.size false) [] ρ {w with drawn:=w.drawn+1}

section
variable {ops:Array Oper} {Q:Exit->Act->World->Prop}
def Closed (y:Array Oper)(g:Array Bool):Prop:=
 ∀(k:Nat) (o:Oper),y[k]? =some o->g.getD k false=true-> ∀e∈o.after,Region.binds .any e=true->g.getD e.on false=true
def n8 (P:Program)(g:Array Oper)(Q:Exit->Act->World->Prop)(E:Nat->World->World->Prop):Nat->Array Bool->Act->World->Prop
 |0,listed,a,w=>Region.ready .any g listed= []/\Q .normal a w
 |f+1,listed,a,w=>(Region.ready .any g listed= []->Q .normal a w)/\
  ∀i∈Region.ready .any g listed,wpOp P g Q i (λH y=>E i w y/\n8 P g Q E f (listed.setIfInBounds i true) H y) a w
theorem tA {E:Nat->World->World->Prop}: ∀(f:Nat) (g:Array Bool) (a:Act) (w:World),n8 P ops Q E f g a w->wpAny P .any ops Q f g a w
 |0,_,_,_,h=>h
 |f+1,_,_,_,h=>⟨h.1,λi hi=>wpOp_mono (λ_ _ y=>tA f _ _ _ y.2) (h.2 i hi)⟩
theorem rF {I O':Nat->World->World->Prop}(E: ∀j w H,O' j w H->I j w H): ∀(f:Nat) (g:Array Bool) (a:Act) (w:World),n8 P ops Q O' f g a w->n8 P ops Q I f g a w
 |0,_,_,_,h=>h
 |f+1,_,_,_,h=>⟨h.1,λi hi=>wpOp_mono (λ_ _ y=>⟨E _ _ _ y.1,rF E f _ _ _ y.2⟩) (h.2 i hi)⟩

theorem Closed.set {g:Array Bool}{j:Nat}(hc:Closed ops g)(V:j∈Region.ready .any ops g):Closed ops (g.setIfInBounds j true):=by
 intro k o O H e I hb
 by_cases y:j=k
 ·subst y
  obtain⟨_,o',E,U⟩:=mem_ready.1 V
  rw[O] at E
  cases E
  exact getD_set_true (U e I hb)
 ·rw[getD_set_ne false y] at H
  exact getD_set_true (hc k o O H e I hb)
theorem qy {g:Array Bool}(hc:Closed ops g){i:Nat}: ∀(f j:Nat) {o:Oper},ops[j]? =some o->
 (∀e∈o.after,Region.binds .any e=true->g.getD e.on false=true)->n9 ops f j i=true->g.getD i false=true
 |0,_,_,_,_,h=>by cases h
 |f+1,j,o,ho,hall,h=>by
  simp only[n9,ho] at h
  obtain⟨e,O,h⟩:=Array.any_eq_true'.1 h
  simp only[Bool.and_eq_true,Bool.or_eq_true] at h
  obtain⟨hb,h⟩:=h
  have E:=hall e O hb
  rcases h with h|h
  ·rw[<-Nat.eq_of_beq_eq_true h];exact E
  ·cases y:ops[e.on]? with
   |none=>
    cases f with
    |zero=>cases h
    |succ f=>simp[n9,y] at h
   |some o'=>exact qy hc f e.on y (λe' H I=>hc e.on o' y E e' H I) h
theorem DI {g:Array Bool}{i:Nat}(h:g.getD i true=false):g.getD i false=false:=by
 rcases Nat.lt_or_ge i g.size with y|y
 ·simp[y] at h⊢;exact h
 ·simp[Array.getElem?_eq_none y] at h

theorem Cg {S:World->Prop}{O O':Nat->World->World->Prop}{i:Nat}{U:Oper}{v:Value}(hi:ops[i]? =some U)(b8: ∀(j:Nat) (o:Oper) cs b,ops[j]? =some o->o.op≠ .select cs b)(e4: ∀c a w,¬ Q (.panic c) a w)(c2: ∀j w E,O' j w E->O j w E)(b6: ∀w,O i w w)(e2: ∀j w E,n9 ops ops.size j i=false->O' j w E->S w->S E):
 ∀(V:Nat) (g:Array Bool) (a:Act) (w:World),Closed ops g->
  (∀j I,ops[j]? =some I->j≠i->g.getD j true=false->(∀e∈I.after,Region.binds .any e=true->e.on≠i)->U.apart ops I=true)->
  i∈Region.ready .any ops g->YieldsIf P ops S U v a->S w->
  n8 P ops Q O' V (g.setIfInBounds i true) (a.put U.dst v) w->n8 P ops Q O (V+1) g a w:=by
 intro V
 induction V with
 |zero=>
  intro g a w _ _ hr b4 hs H
  refine⟨λh=>(by rw[h] at hr;cases hr),λj W=>?_⟩
  by_cases y:j=i
  ·subst y;exact b4.wpOp hi hs ⟨b6 w,H⟩
  ·have:=ready_mono W y
   rw[H.1] at this
   cases this
 |succ V e1=>
  intro g a w hc b7 hr b4 hs H
  refine⟨λh=>(by rw[h] at hr;cases hr),λj W=>?_⟩
  by_cases y:j=i
  ·subst y;exact b4.wpOp hi hs ⟨b6 w,rF c2 _ _ _ _ H⟩
  ·have b3:=H.2 j (ready_mono W y)
   obtain⟨c1,I,a6,b9⟩:=mem_ready.1 W
   have b5:=DI (mem_ready.1 hr).1
   have c8: ∀e∈I.after,Region.binds .any e=true->e.on≠i:=λe d4 hb c9=>by
    have b3:=b9 e d4 hb
    rw[c9,b5] at b3
    cases b3
   have d1:n9 ops ops.size j i=false:=by
    cases d3:n9 ops ops.size j i with
    |false=>rfl
    |true=>rw[qy hc _ _ a6 b9 d3] at b5;cases b5
   have d5:=wpOp_putIf a6 (b7 j I a6 y c1 c8) (λcs b=>b8 i U cs b hi) (λcs b=>b8 j I cs b a6) (λc a w e3=>(e4 _ _ _ e3).elim) b4 b3
   have c5: ∀k ok,ops[k]? =some ok->k≠i->(g.setIfInBounds j true).getD k true=false->
    (∀e∈ok.after,Region.binds .any e=true->e.on≠i)->U.apart ops ok=true:=λk ok e0 d0 c4 d2=>by
    refine b7 k ok e0 d0 ?_ d2
    by_cases c3:j=k
    ·subst c3;exact c1
    ·rw[getD_set_ne true c3] at c4;exact c4
   refine wpOp_mono (λe5 E a7=>⟨c2 _ _ _ a7.2.1,e1 (g.setIfInBounds j true) e5 E (hc.set W) c5 (ready_mono hr (Ne.symm y)) a7.1 (e2 j w E d1 a7.2.1 hs) ?_⟩) d5
   rw[Array.setIfInBounds_comm _ _ y]
   exact a7.2.2
end

theorem rH {g:Array Oper}{o:Oper}{n:Nat}{a:Act}{ρ:Fr}{H O:Fr->Prop}(hr:RelF n a ρ)(h:vy g o ρ H O):
 (Region.wanted o (yielded g a.tmps)=true/\H ρ)\/(Region.wanted o (yielded g a.tmps)=false/\O ρ):=by
 unfold vy at h
 split at h
 ·rename_i y;exact .inl ⟨by simp[Region.wanted,y],h⟩
 ·rename_i j E y
  split at h
  ·exact h.elim
  ·rename_i t ht
   have I:Region.wanted o (yielded g a.tmps)=isB E (ρ t):=by rw[rG y ht,hr.get]
   split at h
   ·rename_i b hb
    have U: ∀z,b=z->upd ρ t (.bool z)=ρ:=λz hz=>by subst hz;rw[<-hb];exact rt ρ t
    rw[I,hb]
    cases b<;>cases E<;>simp only[U _ rfl] at h
    ·exact .inl ⟨rfl,h⟩
    ·exact .inr ⟨rfl,h⟩
    ·exact .inr ⟨rfl,h⟩
    ·exact .inl ⟨rfl,h⟩
   ·rename_i vs hb
    exact .inr ⟨by rw[I,hb];rfl,h⟩
   ·exact h.elim
theorem sL: ∀ {a b:List Nat},wU a b=true->a=b
 | [],[],_=>rfl
 |a::ys,b::bs,h=>by
  simp only[wU] at h
  cases hb:Nat.beq a b<;>rw[hb] at h
  ·cases h
  ·rw[Nat.eq_of_beq_eq_true hb,sL h]
 | [],_::_,h=>by cases h
 |_::_,[],h=>by cases h
theorem qm: ∀ {a:List Nat} {b:Nat},wM a b=true->b∈a
 | [],_,h=>by cases h
 |a::ys,b,h=>by
  simp only[wM] at h
  cases hb:Nat.beq a b<;>rw[hb] at h
  ·exact List.mem_cons_of_mem _ (qm h)
  ·rw[Nat.eq_of_beq_eq_true hb];exact List.mem_cons_self
def ObE (g:Array Oper)(H:FU)(j:Nat)(w y:World):Prop:= ∀i a n,(i,a,n)∈H->n9 g g.size j i=false->SameC w y a n
theorem su {H:Array Oper}{j:Nat}{w V:World}{K:Prop}: ∀ {U:FU},wr H j w V U K->ObE H U j w V/\K
 | [],h=>⟨λ_ _ _ g=>(by cases g),h⟩
 |(i,a,n)::U,h=>by
  simp only[wr] at h
  cases hb:n9 H H.size j i with
  |true=>
   rw[hb] at h
   obtain⟨I,O⟩:=su h
   refine⟨λW a6 a7 g y=>?_,O⟩
   cases g with
   |head=>rw[hb] at y;cases y
   |tail _ g=>exact I _ _ _ g y
  |false=>
   rw[hb] at h
   obtain⟨I,O⟩:=su h.2
   refine⟨λW a6 a7 g y=>?_,O⟩
   cases g with
   |head=>exact h.1
   |tail _ g=>exact I _ _ _ g y
theorem ObE.refl {g:Array Oper}{y:FU}(j:Nat)(w:World):ObE g y j w w:=λ_ _ _ _ _ _ _=>rfl

theorem xS {n:Nat}{y:Array Oper}{Q:fH}(hs:Region.noSelect y=true)(f2: ∀c ρ w,¬ Q (.panic c) ρ w):
 ∀(b8:RPlan) (g:Array Bool) (H:FU) (a:Act) (ρ:Fr) (w:World) (f:Nat),RelF n a ρ->Closed y g->b8.depth<=f->
  kX P n y (Q .normal) b8 g H ρ w->n8 P y (mt n Q) (ObE y H) f g a w:=by
 have c3: ∀c a w,¬ mt n Q (.panic c) a w:=λc a w ⟨ρ,_,h⟩=>f2 c ρ w h
 have c1: ∀(i:Nat) (o:Oper) (H:FU) (g:Array Bool) (a:Act) (ρ:Fr) (w:World) (f:Nat) (p:RPlan),y[i]? =some o->RelF n a ρ->sN n o.dst=true->
  (∀(a:Act) (ρ:Fr) (w:World),RelF n a ρ->kX P n y (Q .normal) p (g.setIfInBounds i true) H ρ w->n8 P y (mt n Q) (ObE y H) f (g.setIfInBounds i true) a w)->
  (vy y o ρ (λρ=>opV P o ρ (λv a7=>wr y i w a7 H (kX P n y (Q .normal) p (g.setIfInBounds i true) H (rj ρ o.dst v) a7)) w)
   (λρ=>kX P n y (Q .normal) p (g.setIfInBounds i true) H (rj ρ o.dst undef) w))->
  wpOp P y (mt n Q) i (λd1 a7=>ObE y H i w a7/\n8 P y (mt n Q) (ObE y H) f (g.setIfInBounds i true) d1 a7) a w:=by
  intro i o H g a ρ w f p O hr hd b3 h
  have b4: ∀k,o.dst=some k->k<n:=λk I=>by rw[I] at hd;simpa[sN,Nat.blt_eq] using hd
  unfold wpOp
  simp only[O]
  rcases rH hr h with ⟨a6,h⟩|⟨a6,h⟩
  ·rw[if_pos a6]
   refine .inl (Oper.wp_mono (λd1 a7 ⟨v,e6,I⟩=>?_) (wc hr h))
   subst e6
   obtain⟨e8,e9⟩:=su I
   exact⟨e8,b3 _ _ _ (hr.put o.dst v b4) e9⟩
  ·rw[if_neg (by simp[a6])]
   exact⟨ObE.refl i w,b3 _ _ _ (hr.put o.dst undef b4) h⟩
 intro b8
 induction b8 with
 |done=>
  intro g H a ρ w f hr _ _ h
  simp only[kX] at h
  split at h
  ·rename_i V
   cases f with
   |zero=>exact⟨V,ρ,hr,h⟩
   |succ f=>exact⟨λ_=>⟨ρ,hr,h⟩,λi hi=>(by rw[V] at hi;cases hi)⟩
  ·exact h.elim
 |pure i p b3=>
  intro g H a ρ w f hr hc U h
  obtain⟨f,rfl⟩: ∃m,f=m+1:=⟨f - 1,by simp only[RPlan.depth] at U;omega⟩
  simp only[kX] at h
  split at h
  ·exact h.elim
  ·rename_i o O
   split at h
   ·rename_i hd b7 W
    have b4: ∀k,o.dst=some k->k<n:=λk I=>by rw[I] at hd;simpa[sN,Nat.blt_eq] using hd
    have W:=qm W
    have go: ∀v,YieldsIf P y (λ_=>True) o v a->kX P n y (Q .normal) p (g.setIfInBounds i true) H (rj ρ o.dst v) w->n8 P y (mt n Q) (ObE y H) (f+1) g a w:=
     λv f1 b5=>Cg (S:=λ_=>True) O (Region.noSelect_spec hs) c3 (λ_ _ _ h=>h) (λw=>ObE.refl i w) (λ_ _ _ _ _ _=>trivial) f g a w hc
      (Region.free_spec O b7) W f1 trivial (b3 _ _ _ _ _ _ (hr.put o.dst v b4) (hc.set W) (by simp only[RPlan.depth] at U;omega) b5)
    rcases rH hr h with ⟨a6,h⟩|⟨a6,h⟩
    ·obtain⟨v,I,c2⟩:=C6 h
     have c5:a.eval=rd ρ:=funext hr.eval
     exact go v (.inl ⟨a6,λw _=>by rw[c5];exact c2 w⟩) I
    ·exact go undef (.inr ⟨a6,rfl⟩) h
   ·exact h.elim
 |load i p b3=>
  intro g H a ρ w f hr hc U h
  obtain⟨f,rfl⟩: ∃m,f=m+1:=⟨f - 1,by simp only[RPlan.depth] at U;omega⟩
  simp only[kX] at h
  split at h
  ·exact h.elim
  ·rename_i o O
   split at h
   ·rename_i hd b7 W
    have b4: ∀k,o.dst=some k->k<n:=λk I=>by rw[I] at hd;simpa[sN,Nat.blt_eq] using hd
    have W:=qm W
    split at h
    ·rename_i t x d3
     split at h
     ·rename_i c4 d2
      split at h
      ·rename_i b9
       have b9:0<c4.size:=by simpa[Nat.blt_eq] using b9
       have c5:a.eval=rd ρ:=funext hr.eval
       rcases rH hr h with ⟨a6,h⟩|⟨a6,h⟩
       ·split at h
        ·rename_i d0 e2
         obtain⟨v,I,c2⟩:=BG d2 b9 h
         refine Cg (S:=λa7=>SameC w a7 d0 c4.size) (O':=ObE y ((i,d0,c4.size)::H)) O (Region.noSelect_spec hs) c3
          (λ_ _ _ h i a n e7=>h i a n (List.mem_cons_of_mem _ e7)) (λw=>ObE.refl i w) (λj f4 f3 e3 O c8=>c8.trans (O _ _ _ List.mem_cons_self e3)) f g a w hc
          (Region.free_spec O b7) W (v:=v) (.inl ⟨a6,λa7 c8=>?_⟩) (λ_ _=>rfl) (b3 _ _ _ _ _ _ (hr.put o.dst v b4) (hc.set W) (by simp only[RPlan.depth] at U;omega) I)
         rw[c5]
         simp only[execOp,d3]
         refine aU ?_
         rw[e2]
         exact c2 a7 c8
        ·exact h.elim
       ·exact Cg (S:=λ_=>True) (v:=undef) O (Region.noSelect_spec hs) c3 (λ_ _ _ h=>h) (λw=>ObE.refl i w) (λ_ _ _ _ _ _=>trivial) f g a w hc
         (Region.free_spec O b7) W (.inr ⟨a6,rfl⟩) trivial (b3 _ _ _ _ _ _ (hr.put o.dst undef b4) (hc.set W) (by simp only[RPlan.depth] at U;omega) h)
      ·exact h.elim
     ·exact h.elim
    ·exact h.elim
   ·exact h.elim
 |one i p b3=>
  intro g H a ρ w f hr hc U h
  obtain⟨f,rfl⟩: ∃m,f=m+1:=⟨f - 1,by simp only[RPlan.depth] at U;omega⟩
  simp only[kX] at h
  split at h
  ·exact h.elim
  ·rename_i o O
   split at h
   ·rename_i hd V
    have V:=sL V
    refine⟨λb6=>(by rw[V] at b6;cases b6),λj c9=>?_⟩
    have e1:j=i:=by rw[V] at c9;simpa using c9
    subst e1
    exact c1 j o H g a ρ w f p O hr hd (λa ρ w hr b5=>b3 _ _ _ _ _ _ hr (hc.set c9) (by simp only[RPlan.depth] at U;omega) b5) h
   ·exact h.elim
 |two i p j q e0 d5=>
  intro g H a ρ w f hr hc U h
  obtain⟨f,rfl⟩: ∃m,f=m+1:=⟨f - 1,by simp only[RPlan.depth] at U;omega⟩
  simp only[kX] at h
  split at h
  ·rename_i o u O f0
   split at h
   ·rename_i e4 e5 V
    have V:=sL V
    refine⟨λb6=>(by rw[V] at b6;cases b6),λk I=>?_⟩
    have d4:k=i\/k=j:=by rw[V] at I;simpa using I
    rcases d4 with rfl|rfl
    ·exact c1 k o H g a ρ w f p O hr e4 (λa ρ w hr b5=>e0 _ _ _ _ _ _ hr (hc.set I) (by simp only[RPlan.depth] at U;omega) b5) h.1
    ·exact c1 k u H g a ρ w f q f0 hr e5 (λa ρ w hr b5=>d5 _ _ _ _ _ _ hr (hc.set I) (by simp only[RPlan.depth] at U;omega) b5) h.2
   ·exact h.elim
  ·exact h.elim

theorem yA {n id:Nat}{g:Array Oper}{y:RPlan}{Q:fH}{ρ:Fr}{w:World}(I:P.follows .mixedOrders=true)(hs:Region.noSelect g=true)(H: ∀c ρ w,¬ Q (.panic c) ρ w)(hd:Nat.ble y.depth g.size=true)(h:GH P n g y (Q .normal) ρ w):WpF P n (.region id g true) Q ρ w:=by
 intro a hr
 refine wp_region_any I (tA _ _ _ _ (xS hs H y _ [] a ρ _ _ hr ?_ (Nat.le_of_ble_eq_true hd) h))
 intro k o _ E
 simp only[Array.getD_eq_getD_getElem?,Array.getElem?_replicate] at E
 split at E<;>cases E

end Go.Proofs.YtendaipfdnhnaaaGreatDoor


namespace Go.Proofs.YtendaipfdnhnaaaGreatDoor
variable {P:Program}

abbrev xy:STy->Type->Type
 | .bool,R=>Bool->R
 | .int _,R=>Int->R
 | .str,R=>ByteArray->R
 | .ptr,R=>Option Addr->R
 | .slice,R=>Option Addr->Nat->Nat->R
 | .map,R=>Option Nat->R
 | .any,R=>Value->R
 | .loc,R=>Nat->R
abbrev xz:List STy->Type->Type
 | [],R=>R
 |t::ts,R=>xy t (xz ts R)
abbrev yN:CTy->Type->Type
 | .s t,R=>xy t R
 | .agg ts,R=>xz ts R
abbrev mv:List (Nat × CTy)->Type
 | []=>World->Prop
 |(_,t)::vs=>yN t (mv vs)

def apS:(t:STy)-> {R:Type}->xy t R->Value->(R->Prop)->Prop
 | .bool,_,F,v,k=>match v with| .bool b=>k (F b)|_=>False
 | .int i,_,F,v,k=>match v with
  | .int j m=>match decide (j=i) with|true=>k (F m)|false=>False
  |_=>False
 | .str,_,F,v,k=>match v with| .string s=>k (F s)|_=>False
 | .ptr,_,F,v,k=>match v with| .pointer q=>k (F q)|_=>False
 | .slice,_,F,v,k=>match v with| .slice q n c=>k (F q n c)|_=>False
 | .map,_,F,v,k=>match v with| .map q=>k (F q)|_=>False
 | .any,_,F,v,k=>k (F v)
 | .loc,_,F,v,k=>match v with| .pointer (some ⟨b,0,none⟩)=>k (F b)|_=>False
def apL:(ts:List STy)-> {R:Type}->xz ts R->List Value->(R->Prop)->Prop
 | [],_,F,vs,k=>match vs with| []=>k F|_::_=>False
 |t::ts,_,F,vs,k=>match vs with|v::vs=>apS t F v λg=>apL ts g vs k| []=>False
def apC:(t:CTy)-> {R:Type}->yN t R->Value->(R->Prop)->Prop
 | .s t,_,F,v,k=>apS t F v k
 | .agg ts,_,F,v,k=>match v with| .agg cs=>apL ts F cs.toList k|_=>False
def leaf:(vars:List (Nat × CTy))->mv vars->Fr->World->Prop
 | [],F,_,w=>F w
 |(i,t)::vs,F,ρ,w=>apC t F (ρ i) λg=>leaf vs g ρ w

def yL:(t:STy)-> {R:Type}->xy t R->(Value->R->Prop)->Prop
 | .bool,_,F,K=> ∀b,K (.bool b) (F b)
 | .int i,_,F,K=> ∀m,K (.int i m) (F m)
 | .str,_,F,K=> ∀s,K (.string s) (F s)
 | .ptr,_,F,K=> ∀q,K (.pointer q) (F q)
 | .slice,_,F,K=> ∀q n c,K (.slice q n c) (F q n c)
 | .map,_,F,K=> ∀q,K (.map q) (F q)
 | .any,_,F,K=> ∀v,K v (F v)
 | .loc,_,F,K=> ∀b,K (.pointer (some ⟨b,0,none⟩)) (F b)
def C4:(ts:List STy)-> {R:Type}->xz ts R->(List Value->R->Prop)->Prop
 | [],_,F,K=>K [] F
 |t::ts,_,F,K=>yL t F λv g=>C4 ts g λvs f=>K (v::vs) f
def C5:(t:CTy)-> {R:Type}->yN t R->(Value->R->Prop)->Prop
 | .s t,_,F,K=>yL t F K
 | .agg ts,_,F,K=>C4 ts F λvs f=>K (.agg vs.toArray) f
def ER:(vars:List (Nat × CTy))->mv vars->(Fr->World->Prop)->Prop
 | [],F,V=> ∀ρ w,F w=V ρ w
 |(i,t)::vs,F,V=>C5 t F λv g=>ER vs g λρ w=>V (upd ρ i v) w
theorem CM: ∀ {t:STy} {R:Type} {F:xy t R} {v:Value} {k:R->Prop} {K:Value->R->Prop},apS t F v k->yL t F K-> ∃f,k f/\K v f:=by
 intro t R F v k K h y
 cases t<;>simp only[apS] at h<;>simp only[yL] at y
 case int i=>
  split at h
  ·split at h
   ·rename_i hb;have:=of_decide_eq_true hb;subst this;exact⟨_,h,y _⟩
   ·exact h.elim
  ·exact h.elim
 case any=>exact⟨_,h,y _⟩
 case slice=>split at h<;>first|exact⟨_,h,y _ _ _⟩|exact h.elim
 all_goals (split at h<;>first|exact⟨_,h,y _⟩|exact h.elim)
theorem CN: ∀ {ts:List STy} {R:Type} {F:xz ts R} {vs:List Value} {k:R->Prop} {K:List Value->R->Prop},apL ts F vs k->C4 ts F K-> ∃f,k f/\K vs f
 | [],_,_,vs,_,_,h,g=>by
  cases vs with
  |nil=>exact⟨_,h,g⟩
  |cons v vs=>exact h.elim
 |t::ts,_,_,vs,_,K,h,g=>by
  cases vs with
  |nil=>exact h.elim
  |cons v vs=>
   obtain⟨H,y,E⟩:=CM (t:=t) h g
   exact CN (ts:=ts) (K:=λvs f=>K (v::vs) f) y E
theorem CO: ∀ {t:CTy} {R:Type} {F:yN t R} {v:Value} {k:R->Prop} {K:Value->R->Prop},apC t F v k->C5 t F K-> ∃f,k f/\K v f:=by
 intro t R F v k K h y
 cases t with
 |s t=>exact CM (t:=t) h y
 |agg ts=>
  simp only[apC] at h
  split at h
  ·rename_i cs
   obtain⟨f,H,E⟩:=CN (ts:=ts) h y
   exact⟨f,H,by simpa using E⟩
  ·exact h.elim
theorem F6: ∀ {y:List (Nat × CTy)} {F:mv y} {V:Fr->World->Prop},ER y F V-> ∀ρ w,leaf y F ρ w->V ρ w
 | [],_,_,g,ρ,w,h=>by rw[<-g ρ w];exact h
 |(i,t)::vs,_,V,g,ρ,w,h=>by
  obtain⟨I,E,H⟩:=CO (t:=t) h g
  have:=F6 H ρ w E
  rwa [rt] at this

def mkS:(t:STy)-> {R:Type}->(Value->R)->xy t R
 | .bool,_,k=>λb=>k (.bool b)
 | .int i,_,k=>λm=>k (.int i m)
 | .str,_,k=>λs=>k (.string s)
 | .ptr,_,k=>λq=>k (.pointer q)
 | .slice,_,k=>λq n c=>k (.slice q n c)
 | .map,_,k=>λq=>k (.map q)
 | .any,_,k=>λv=>k v
 | .loc,_,k=>λb=>k (.pointer (some ⟨b,0,none⟩))
def mkL:(ts:List STy)-> {R:Type}->(List Value->R)->xz ts R
 | [],_,k=>k []
 |t::ts,_,k=>mkS t λv=>mkL ts λvs=>k (v::vs)
def mkC:(t:CTy)-> {R:Type}->(Value->R)->yN t R
 | .s t,_,k=>mkS t k
 | .agg ts,_,k=>mkL ts λvs=>k (.agg vs.toArray)
def zO:(vars:List (Nat × CTy))->(Fr->World->Prop)->mv vars
 | [],V=>λw=> ∀ρ,V ρ w
 |(i,t)::vs,V=>mkC t λv=>zO vs λρ w=>ρ i=v->V ρ w

theorem Bx {t:STy}{R:Type}{k:Value->R}{K:Value->R->Prop}(h: ∀v,K v (k v)):yL t (mkS t k) K:=by
 cases t<;>simp only[yL,mkS]<;>intros<;>exact h _
theorem Bz: ∀ {ts:List STy} {R:Type} {k:List Value->R} {K:List Value->R->Prop},(∀vs,K vs (k vs))->C4 ts (mkL ts k) K
 | [],_,_,_,h=>h []
 |t::_,_,_,_,h=>Bx (t:=t) λ_=>Bz λ_=>h _
theorem BC {t:CTy}{R:Type}{k:Value->R}{K:Value->R->Prop}(h: ∀v,K v (k v)):C5 t (mkC t k) K:=by
 cases t with
 |s t=>exact Bx h
 |agg ts=>exact Bz λvs=>h _
theorem oE: ∀ {g:List (Nat × CTy)} {V:Fr->World->Prop} (ρ:Fr) (w:World),leaf g (zO g V) ρ w->V ρ w
 | [],_,ρ,_,h=>h ρ
 |(i,t)::vs,V,ρ,w,h=>by
  obtain⟨f,y,E⟩:=CO (t:=t) (K:=λv f=>f=zO vs λρ w=>ρ i=v->V ρ w) h (BC λv=>rfl)
  subst E
  exact oE ρ w y rfl

theorem uh {t:STy}{R:Type}{A:xy t R}{K:Value->R->Prop}(h: ∀v f,(∀j:R->Prop,j f->apS t A v j)->K v f):yL t A K:=by
 cases t<;>simp only[yL]<;>intros<;>refine h _ _ λj g=>?_<;>simp only[apS,decide_true]<;>exact g
theorem ui: ∀ {ts:List STy} {R:Type} {A:xz ts R} {K:List Value->R->Prop},(∀v f,(∀j:R->Prop,j f->apL ts A v j)->K v f)->C4 ts A K
 | [],_,_,_,h=>h [] _ λ_ g=>g
 |t::_,_,_,_,h=>uh (t:=t) λv _ hv=>ui λvs _ y=>h (v::vs) _ λj g=>hv _ (y j g)
theorem Aw {t:CTy}{R:Type}{A:yN t R}{K:Value->R->Prop}(h: ∀v f,(∀j:R->Prop,j f->apC t A v j)->K v f):C5 t A K:=by
 cases t with
 |s t=>exact uh h
 |agg ts=>exact ui λvs f hv=>h _ _ λj g=>by simpa[apC] using hv j g

def leS:(t:STy)-> {R:Type}->xy t R->xy t R->(R->R->Prop)->Prop
 | .bool,_,A,B,k=> ∀b,k (A b) (B b)
 | .int _,_,A,B,k=> ∀m,k (A m) (B m)
 | .str,_,A,B,k=> ∀s,k (A s) (B s)
 | .ptr,_,A,B,k=> ∀q,k (A q) (B q)
 | .slice,_,A,B,k=> ∀q n c,k (A q n c) (B q n c)
 | .map,_,A,B,k=> ∀q,k (A q) (B q)
 | .any,_,A,B,k=> ∀v,k (A v) (B v)
 | .loc,_,A,B,k=> ∀b,k (A b) (B b)
def leL:(ts:List STy)-> {R:Type}->xz ts R->xz ts R->(R->R->Prop)->Prop
 | [],_,A,B,k=>k A B
 |t::ts,_,A,B,k=>leS t A B λg B'=>leL ts g B' k
def leC:(t:CTy)-> {R:Type}->yN t R->yN t R->(R->R->Prop)->Prop
 | .s t,_,A,B,k=>leS t A B k
 | .agg ts,_,A,B,k=>leL ts A B k
def leV:(vars:List (Nat × CTy))->mv vars->mv vars->Prop
 | [],A,B=> ∀w,A w->B w
 |(_,t)::vs,A,B=>leC t A B λg B'=>leV vs g B'

theorem EO {t:STy}{R:Type}{A B:xy t R}{v:Value}{k:R->Prop}{k2:R->R->Prop}{j:R->Prop}(h:apS t A v k)(E:leS t A B k2)(y: ∀a b,k2 a b->k a->j b):apS t B v j:=by
 cases t with
 |int i=>
  cases v with
  |int l m=>
   simp only[apS] at h⊢
   cases hb:decide (l=i) with
   |true=>simp only[hb] at h⊢;exact y _ _ (E _) h
   |false=>simp only[hb] at h
  |_=>exact h.elim
 |any=>exact y _ _ (E _) h
 |slice=>
  simp only[apS] at h
  simp only[apS]
  split at h<;>first|exact y _ _ (E _ _ _) h|exact h.elim
 |_=>
  simp only[apS] at h
  simp only[apS]
  split at h<;>first|exact y _ _ (E _) h|exact h.elim
theorem EQ: ∀ {ts:List STy} {R:Type} {A B:xz ts R} {vs:List Value} {k:R->Prop} {k2:R->R->Prop} {j:R->Prop},apL ts A vs k->leL ts A B k2->(∀a b,k2 a b->k a->j b)->apL ts B vs j
 | [],_,_,_,vs,_,_,_,h,g,hj=>by
  cases vs with
  |nil=>exact hj _ _ g h
  |cons v vs=>exact h.elim
 |t::ts,_,_,_,vs,_,_,_,h,g,hj=>by
  cases vs with
  |nil=>exact h.elim
  |cons v vs=>exact EO (t:=t) h g λ_ _ y E=>EQ E y hj
theorem GQ {t:CTy}{R:Type}{A B:yN t R}{v:Value}{k:R->Prop}{k2:R->R->Prop}{j:R->Prop}(h:apC t A v k)(E:leC t A B k2)(y: ∀a b,k2 a b->k a->j b):apC t B v j:=by
 cases t with
 |s t=>exact EO (t:=t) h E y
 |agg ts=>
  simp only[apC] at h⊢
  split at h
  ·exact EQ (ts:=ts) h E y
  ·exact h.elim
theorem uQ: ∀ {y:List (Nat × CTy)} {A B:mv y} {ρ:Fr} {w:World},leV y A B->leaf y A ρ w->leaf y B ρ w
 | [],_,_,_,_,g,h=>g _ h
 |(_,t)::_,_,_,_,_,g,h=>GQ (t:=t) h g λ_ _ E H=>uQ E H

theorem pH {t:STy}{R:Type}{A:xy t R}{K g:Value->R->Prop}(y: ∀v f,K v f->g v f)(h:yL t A K):yL t A g:=by
 cases t<;>simp only[yL] at h⊢ <;>intros<;>exact y _ _ (h ..)
theorem EB {t:STy}{R:Type}{A:xy t R}{y:Value->R}{k:R->R->Prop}(h:yL t A λv E=>k E (y v)):leS t A (mkS t y) k:=by
 cases t<;>exact h
theorem ED: ∀ {ts:List STy} {R:Type} {A:xz ts R} {y:List Value->R} {k:R->R->Prop},(C4 ts A λv E=>k E (y v))->leL ts A (mkL ts y) k
 | [],_,_,_,_,h=>h
 |t::ts,_,_,_,_,h=>by
  refine EB (t:=t) ?_
  exact pH (t:=t) (λ_ _ H=>ED H) h
theorem Gu {t:CTy}{R:Type}{A:yN t R}{y:Value->R}{k:R->R->Prop}(h:C5 t A λv E=>k E (y v)):leC t A (mkC t y) k:=by
 cases t with
 |s t=>exact EB h
 |agg ts=>exact ED h
theorem zd: ∀ {g:List (Nat × CTy)} {B:mv g} {V:Fr->World->Prop},(∀ρ w,leaf g B ρ w->V ρ w)->leV g B (zO g V)
 | [],_,_,h=>λw hb ρ=>h ρ w hb
 |(i,t)::_,_,_,h=>Gu (t:=t) (Aw λv f y=>zd λρ w E hv=>h ρ w (by subst hv;exact y _ E))

def sw (l:Nat)(K:Fr->World->Prop)(Q:fH):fH
 | .goto l',ρ,w=>match Nat.beq l' l with
  |true=>K ρ w
  |false=>False
 |e,ρ,w=>Q e ρ w
def JumpF (P:Program)(n:Nat)(c rest:Code)(Q:fH)(ρ:Fr)(w:World):Prop:=
 ∀a,RelF n a ρ-> ∀(b:Frame) (k:List Item) (cs:List Frame),
  ∃e g y,mt n Q e g y/\Arrives P (lone (b.at a (.code rest:: .inScope c::k)) cs w) b k cs e g y
theorem ws {n l:Nat}{c rest:Code}{Q:fH}(b7:findLabel c l=some rest){m:Machine}{b:Frame}{k:List Item}{cs:List Frame}{e:Exit}{y:Act}{E:World}{H:Fr}(O:RelF n y H)(g:sw l (JumpF P n c rest Q) Q e H E)(I:Arrives P m b (.inScope c::k) cs e y E): ∃e U V,mt n Q e U V/\Arrives P m b k cs e U V:=by
 cases e with
 |normal=>exact⟨.normal,y,E,⟨H,O,g⟩,Steps.trans I (.one step_inScope)⟩
 |exit id=>exact⟨.exit id,y,E,⟨H,O,g⟩,λb5 a7=>I b5 (by simp[exitTo,a7])⟩
 |goto b9=>
  simp only[sw] at g
  split at g
  ·rename_i hb
   have b6:=Nat.eq_of_beq_eq_true hb
   subst b6
   obtain⟨b8,b4,b3,a6,W⟩:=g y O b k cs
   exact⟨b8,b4,b3,a6,.of_steps (I _ (by simp[gotoIn,b7])) W⟩
  ·exact g.elim
 |ret=>exact⟨_,y,E,⟨H,O,g⟩,I⟩
 |panic ch=>exact⟨_,y,E,⟨H,O,g⟩,I⟩
 |outgrown=>exact⟨_,y,E,⟨H,O,g⟩,I⟩
theorem WpF.scopeL {n l:Nat}{c rest:Code}{Q:fH}{ρ:Fr}{w:World}(V:findLabel c l=some rest)(h:WpF P n c (sw l (JumpF P n c rest Q) Q) ρ w):WpF P n (.scope c) Q ρ w:=by
 intro a hr b k cs
 obtain⟨e,b3,a6,⟨a7,H,I⟩,y⟩:=h a hr b (.inScope c::k) cs
 obtain⟨W,U,O,E,g⟩:=ws V H I y
 exact⟨W,U,O,E,.of_steps (.one step_scope) g⟩
theorem JumpF.unfold {n l:Nat}{c rest:Code}{Q:fH}{ρ:Fr}{w:World}(H:findLabel c l=some rest)(h:WpF P n rest (sw l (JumpF P n c rest Q) Q) ρ w):JumpF P n c rest Q ρ w:=by
 intro a hr b k cs
 obtain⟨e,U,I,⟨O,y,E⟩,g⟩:=h a hr b (.inScope c::k) cs
 exact ws H y E g

def qS:(t:STy)-> {ι R R':Type}->((ι->R)->R')->(ι->xy t R)->xy t R'
 | .bool,_,_,_,k,F=>λb=>k λi=>F i b
 | .int _,_,_,_,k,F=>λb=>k λi=>F i b
 | .str,_,_,_,k,F=>λb=>k λi=>F i b
 | .ptr,_,_,_,k,F=>λb=>k λi=>F i b
 | .slice,_,_,_,k,F=>λq n c=>k λi=>F i q n c
 | .map,_,_,_,k,F=>λb=>k λi=>F i b
 | .any,_,_,_,k,F=>λb=>k λi=>F i b
 | .loc,_,_,_,k,F=>λb=>k λi=>F i b
def qL:(ts:List STy)-> {ι R R':Type}->((ι->R)->R')->(ι->xz ts R)->xz ts R'
 | [],_,_,_,k,F=>k F
 |t::ts,_,_,_,k,F=>qS t (λg=>qL ts k g) F
def qC:(t:CTy)-> {ι R R':Type}->((ι->R)->R')->(ι->yN t R)->yN t R'
 | .s t,_,_,_,k,F=>qS t k F
 | .agg ts,_,_,_,k,F=>qL ts k F
def qV:(vs:List (Nat × CTy))-> {ι:Type}->(ι->Prop)->(ι->mv vs)->mv vs
 | [],_,C,F=>λw=> ∀i,C i->F i w
 |(_,t)::vs,_,C,F=>qC t (λg=>qV vs C g) F
def lfpV (vs:List (Nat × CTy))(B:mv vs->mv vs):mv vs:=qV vs (λX=>leV vs (B X) X) λX=>X
theorem Gk {t:STy}{g R:Type}{k:(g->R)->R}{F:g->xy t R}{i:g}{k2:R->R->Prop}(h: ∀y,k2 (k y) (y i)):leS t (qS t k F) (F i) k2:=by
 cases t<;>simp only[leS,qS]<;>intros<;>exact h _
theorem Gl: ∀ {ts:List STy} {g R:Type} {k:(g->R)->R} {F:g->xz ts R} {i:g} {k2:R->R->Prop},(∀y,k2 (k y) (y i))->leL ts (qL ts k F) (F i) k2
 | [],_,_,_,_,_,_,h=>h _
 |t::_,_,_,_,_,_,_,h=>Gk (t:=t) λ_=>Gl h
theorem qC_le {t:CTy}{g R:Type}{k:(g->R)->R}{F:g->yN t R}{i:g}{k2:R->R->Prop}(h: ∀y,k2 (k y) (y i)):leC t (qC t k F) (F i) k2:=by
 cases t with
 |s t=>exact Gk h
 |agg ts=>exact Gl h
theorem Gj: ∀ {vs:List (Nat × CTy)} {g:Type} {C:g->Prop} {F:g->mv vs} {i:g},C i->leV vs (qV vs C F) (F i)
 | [],_,_,_,_,hc=>λ_ h=>h _ hc
 |(_,_)::_,_,_,_,_,hc=>qC_le λ_=>Gj hc
def GI:(vs:List (Nat × CTy))->(Fr->World->Prop)->Fr->mv vs
 | [],V,ρ=>λw=>V ρ w
 |(i,t)::vs,V,ρ=>mkC t λv=>GI vs (λρ w=>V (upd ρ i v) w) ρ
theorem zC {t:STy}{R g:Type}{F:xy t R}{K:g->Value->R->Prop}(h: ∀i,yL t F (K i)):yL t F λv f=> ∀i,K i v f:=by
 cases t<;>simp only[yL] at h⊢ <;>intros<;>exact h _ ..
theorem zD: ∀ {ts:List STy} {R g:Type} {F:xz ts R} {K:g->List Value->R->Prop},(∀i,C4 ts F (K i))->C4 ts F λv f=> ∀i,K i v f
 | [],_,_,_,_,h=>h
 |t::ts,_,_,_,_,h=>pH (t:=t) (λ_ _ h=>zD h) (zC h)
theorem Eb {t:CTy}{R g:Type}{F:yN t R}{K:g->Value->R->Prop}(h: ∀i,C5 t F (K i)):C5 t F λv f=> ∀i,K i v f:=by
 cases t with
 |s t=>exact zC h
 |agg ts=>exact zD h
theorem xf: ∀ {ts:List STy} {R:Type} {A:xz ts R} {K g:List Value->R->Prop},(∀v f,K v f->g v f)->C4 ts A K->C4 ts A g
 | [],_,_,_,_,hk,h=>hk _ _ h
 |t::_,_,_,_,_,hk,h=>pH (t:=t) (λ_ _ h=>xf (λ_ _=>hk _ _) h) h
theorem CP {t:CTy}{R:Type}{A:yN t R}{K g:Value->R->Prop}(y: ∀v f,K v f->g v f)(h:C5 t A K):C5 t A g:=by
 cases t with
 |s t=>exact pH (t:=t) y h
 |agg ts=>exact xf (λ_ _=>y _ _) h
theorem yM: ∀ {vs:List (Nat × CTy)} {F:mv vs} {V:Fr->World->Prop},(∀ρ,F=GI vs V ρ)->ER vs F V
 | [],_,_,h=>λρ w=>congrFun (h ρ) w
 |(i,t)::vs,F,V,h=>by
  have g: ∀ρ:Fr,C5 t F λv f=>f=GI vs (λρ w=>V (upd ρ i v) w) ρ:=λρ=>by
   rw[h ρ];exact BC λv=>rfl
  exact CP (λv f y=>yM y) (Eb g)

inductive AC where
 |leaf (c:Code)
 |seq (x y:AC)
  |mark (K:Fr->World->Prop) (x:AC)
 |cond (t:Nat) (x y:AC)
 |block (id:Nat) (x:AC)
 |scope (x:AC)
 |loop (K:Fr->World->Prop) (c:Code)
  |given (F:(Fr->World->Prop)->Fr->World->Prop) (c:Code)
  |draw (pl:RPlan) (c:Code)
  |jump (l:Nat) (K:Fr->World->Prop) (x:AC)
  |no (c:Code)
 |cut (vs:List (Nat × CTy)) (F:mv vs) (x:AC)
 |loopB (vs:List (Nat × CTy)) (B:mv vs->mv vs) (c:Code) (x:mv vs->AC)
def AC.erase:AC->Code
 | .leaf c=>c
 | .seq x y=> .seq x.erase y.erase
 | .mark _ x=>x.erase
 | .cond t x y=> .cond (.tmp t) x.erase y.erase
 | .block id x=> .block id x.erase
 | .scope x=> .scope x.erase
 | .loop _ c=> .loop c
 | .given _ c=>c
 | .draw _ c=>c
 | .jump _ _ x=> .scope x.erase
 | .no c=>c
 | .cut _ _ x=>x.erase
 | .loopB _ _ c _=> .loop c
def drawA (P:Program)(n:Nat)(g:RPlan)(c:Code)(Q:Fr->World->Prop)(ρ:Fr)(w:World):Prop:=
 match c with
 | .region _ ops d=>match d with
  |true=>GH P n ops g Q ρ w
  |false=>False
 |_=>False
def zv (g:RPlan):Code->Bool
 | .region _ ops d=>d && Region.noSelect ops && Nat.ble g.depth ops.size
 |_=>false
def vcA (P:Program)(n:Nat):AC->fH->Fr->World->Prop
 | .leaf c,Q,ρ,w=>vcC P n c Q ρ w
 | .seq x y,Q,ρ,w=>vcA P n x (mr (vcA P n y Q) Q) ρ w
 | .mark K _,_,ρ,w=>K ρ w
 | .cond t x y,Q,ρ,w=>match ρ t with
  | .bool b=>match b with
   |true=>vcA P n x Q (upd ρ t (.bool true)) w
   |false=>vcA P n y Q (upd ρ t (.bool false)) w
  |_=>False
 | .block id x,Q,ρ,w=>vcA P n x (ra id Q) ρ w
 | .scope x,Q,ρ,w=>vcA P n x (kZ Q) ρ w
 | .loop K _,_,ρ,w=>K ρ w
 | .given F _,Q,ρ,w=>F (Q .normal) ρ w
 | .draw pl c,Q,ρ,w=>drawA P n pl c (Q .normal) ρ w
 | .jump l K x,Q,ρ,w=>vcA P n x (sw l K Q) ρ w
 | .no _,_,_,_=>False
 | .cut vs F _,_,ρ,w=>leaf vs F ρ w
 | .loopB vs B _ _,_,ρ,w=>leaf vs (lfpV vs B) ρ w
def vq (P:Program)(n:Nat):AC->fH->Prop
 | .leaf _,_=>True
 | .seq x y,Q=>vq P n x (mr (vcA P n y Q) Q)/\vq P n y Q
 | .mark K x,Q=>vq P n x Q/\ ∀ρ w,K ρ w->vcA P n x Q ρ w
 | .cond _ x y,Q=>vq P n x Q/\vq P n y Q
 | .block id x,Q=>vq P n x (ra id Q)
 | .scope x,Q=>vq P n x (kZ Q)
 | .loop K c,Q=> ∀ρ w,K ρ w->LoopF P n c Q ρ w
 | .given F c,Q=> ∀ρ w,F (Q .normal) ρ w->WpF P n c Q ρ w
 | .jump l K x,Q=>vq P n x (sw l K Q)/\ ∃rest,findLabel x.erase l=some rest/\ ∀ρ w,K ρ w->JumpF P n x.erase rest Q ρ w
 | .draw pl c,Q=>P.follows .mixedOrders=true/\zv pl c=true/\ ∀c ρ w,¬ Q (.panic c) ρ w
 | .no _,_=>True
 | .cut vs F x,Q=>vq P n x Q/\ER vs F (vcA P n x Q)
 | .loopB vs B c x,Q=> ∀X,(x X).erase=c/\vq P n (x X) (mr (leaf vs X) Q)/\ER vs (B X) (vcA P n (x X) (mr (leaf vs X) Q))

theorem oU {n:Nat}: ∀(x:AC) {Q:fH} {ρ:Fr} {w:World},vq P n x Q->vcA P n x Q ρ w->WpF P n x.erase Q ρ w:=by
 intro x
 induction x with
 |leaf c=>exact λ_ h=>AO c h
 |seq x y V U=>exact λE h=>WpF.seq (V E.1 h) (λ_ _ O=>U E.2 O)
 |mark K x H=>exact λE h=>H E.1 (E.2 _ _ h)
 |cond t x y V U=>
  intro Q ρ w E h
  unfold vcA at h
  split at h
  ·rename_i b hb
   refine WpF.cond hb ?_
   cases b with
   |true=>exact V E.1 h
   |false=>exact U E.2 h
  ·exact h.elim
 |block id x H=>exact λE h=>WpF.block (H E h)
 |scope x H=>exact λE h=>WpF.scope (H E h)
 |loop K c=>exact λE h=>LoopF.wp (E _ _ h)
 |given F c=>exact λE h=>E _ _ h
 |no c=>exact λ_ h=>h.elim
 |cut vs F x H=>exact λE h=>H E.1 (F6 E.2 _ _ h)
 |loopB vs B c x H=>
  intro Q ρ w E h
  refine LoopF.wp ?_
  have W: ∀ρ w,leaf vs (B (zO vs (LoopF P n c Q))) ρ w->LoopF P n c Q ρ w:=by
   intro ρ w hb
   refine LoopF.unfold (WpF.mono (Q:=mr (leaf vs (zO vs (LoopF P n c Q))) Q) ?_ ?_)
   ·have a6:=H _ (E (zO vs (LoopF P n c Q))).2.1 (F6 (E _).2.2 ρ w hb)
    rwa [(E _).1] at a6
   ·intro e ρ w I
    cases e<;>first|exact oE _ _ I|exact I
  exact oE ρ w (uQ (Gj (C:=λX=>leV vs (B X) X) (F:=λX=>X) (zd W)) h)
 |jump l K x H=>
  intro Q ρ w ⟨E,rest,b4,a7⟩ h
  refine WpF.scopeL b4 (WpF.mono (H E h) λe ρ w I=>?_)
  cases e<;>first|exact I|skip
  simp only[sw] at I⊢
  split at I
  ·exact a7 _ _ I
  ·exact I.elim
 |draw b6 c=>
  intro Q ρ w ⟨b3,O,I⟩ h
  cases c<;>first|exact h.elim|skip
  rename_i id b5 d
  cases d
  ·exact h.elim
  ·simp only[zv,Bool.true_and,Bool.and_eq_true] at O
   exact yA b3 O.1 I O.2 h

theorem Fq {n:Nat}{g:List (Nat × CTy)}{c:Code}{Q:fH}{L:mv g}(y:mv g->AC)(B:mv g->mv g)(V: ∀X,(y X).erase=c)(O: ∀X,vq P n (y X) (mr (leaf g X) Q))(W: ∀X,ER g (B X) (vcA P n (y X) (mr (leaf g X) Q)))(U: ∀X,leV g (B X) X->leV g L X): ∀ρ w,leaf g L ρ w->LoopF P n c Q ρ w:=by
 intro ρ w h
 have H: ∀ρ w,leaf g (B (zO g (LoopF P n c Q))) ρ w->LoopF P n c Q ρ w:=by
  intro ρ w hb
  refine LoopF.unfold (WpF.mono (Q:=mr (leaf g (zO g (LoopF P n c Q))) Q) ?_ ?_)
  ·have I:=oU _ (O (zO g (LoopF P n c Q))) (F6 (W _) ρ w hb)
   rwa [V] at I
  ·intro e ρ w E
   cases e<;>first|exact oE _ _ E|exact E
 exact oE ρ w (uQ (U _ (zd H)) h)

theorem jumpG {n l:Nat}{g:List (Nat × CTy)}{c rest:Code}{Q:fH}{L:mv g}(E:mv g->AC)(B:mv g->mv g)(a6:findLabel c l=some rest)(V: ∀X,(E X).erase=rest)(O: ∀X,vq P n (E X) (sw l (leaf g X) Q))(W: ∀X,ER g (B X) (vcA P n (E X) (sw l (leaf g X) Q)))(U: ∀X,leV g (B X) X->leV g L X): ∀ρ w,leaf g L ρ w->JumpF P n c rest Q ρ w:=by
 intro ρ w h
 have H: ∀ρ w,leaf g (B (zO g (JumpF P n c rest Q))) ρ w->JumpF P n c rest Q ρ w:=by
  intro ρ w hb
  refine JumpF.unfold a6 (WpF.mono (Q:=sw l (leaf g (zO g (JumpF P n c rest Q))) Q) ?_ ?_)
  ·have I:=oU _ (O (zO g (JumpF P n c rest Q))) (F6 (W _) ρ w hb)
   rwa [V] at I
  ·intro e ρ w y
   cases e<;>first|exact y|skip
   simp only[sw] at y⊢
   split at y
   ·exact oE _ _ y
   ·exact y.elim
 exact oE ρ w (uQ (U _ (zd H)) h)
theorem jumpK {n l:Nat}{c rest:Code}{Q:fH}{K:Fr->World->Prop}(g:AC)(U:findLabel c l=some rest)(O:g.erase=rest)(I:vq P n g (kZ Q))(h: ∀ρ w,K ρ w->vcA P n g (kZ Q) ρ w): ∀ρ w,K ρ w->JumpF P n c rest Q ρ w:=by
 intro ρ w H
 refine JumpF.unfold U (WpF.mono (Q:=kZ Q) ?_ ?_)
 ·rw[<-O];exact oU _ I (h _ _ H)
 ·intro e ρ w E
  cases e<;>first|exact E|exact E.elim

def sel:List Nat->Code->Code
 | [],c=>c
 |0::p,.seq x _=>sel p x
 |1::p,.seq _ y=>sel p y
 |0::p,.cond _ x _=>sel p x
 |1::p,.cond _ _ y=>sel p y
 |0::p,.block _ x=>sel p x
 |0::p,.loop x=>sel p x
 |0::p,.scope x=>sel p x
 |_,_=> .skip
def GK:Nat->Nat->List Nat->List Nat
 |0,_,a=>a
 |f+1,n,a=>if n<=1 then a else GK f (n/2) (n%2::a)
def sb (n:Nat)(c:Code):Code:=sel (GK 500 n []) c
def mq (g:Func):Code:=
 match g.body with
 |some c=>c
 |none=> .skip
def Fg (P:Program):List ResultVar->Fr->World->(List Value->Prop)->Prop
 | [],_,_,K=>K []
 | .tmp t::rs,ρ,w,K=>Fg P rs ρ w λvs=>K (ρ t::vs)
 | .cell t ty::rs,ρ,w,K=>match ρ t with
  | .pointer (some a)=>yd P ty a w λv=>Fg P rs ρ w λvs=>K (v::vs)
  |_=>False
def Fm:List Value->Value
 | [v]=>v
 |vs=> .tuple vs.toArray
def QF (P:Program)(rs:List ResultVar)(R:Ending->World->Prop):fH
 | .normal,ρ,w=>Fg P rs ρ w λvs=>R (.returned (Fm vs)) w
 | .ret,ρ,w=>Fg P rs ρ w λvs=>R (.returned (Fm vs)) w
 |_,_,_=>False
def fr0 (g:List Value):Fr:=λt=>g.getD t undef

theorem uD {n:Nat}{a:Act}{ρ:Fr}(hr:RelF n a ρ): ∀ {rs:List ResultVar} {w:World} {K:List Value->Prop},Fg P rs ρ w K->
 ∃vs,K vs/\vs.length=rs.length/\(rs.mapM (m:=Sem) fun
  | .tmp t=>pure (a.tmps.getD t undef)
  | .cell x t=>do loadVar t (<-asAddr (a.tmps.getD x undef))).run P w= .ok vs w
 | [],w,_,h=>⟨[],h,rfl,rfl⟩
 | .tmp t::rs,w,K,h=>by
  obtain⟨vs,y,E,g⟩:=uD hr (rs:=rs) h
  refine⟨_,y,by simp[E],?_⟩
  simp only[List.mapM_cons,Sem.run_bind,hr.get]
  rw[show (pure (ρ t):Sem Value).run P w= .ok (ρ t) w from rfl]
  simp only[Result.andThen_ok]
  simp only[hr.get] at g
  rw[g]
  rfl
 | .cell t ty::rs,w,K,h=>by
  unfold Fg at h
  split at h
  ·rename_i H I
   obtain⟨v,h,hv⟩:=wm h
   obtain⟨vs,y,E,g⟩:=uD hr (rs:=rs) h
   refine⟨_,y,by simp[E],?_⟩
   simp only[List.mapM_cons,Sem.run_bind,hr.get,I]
   rw[show (asAddr (.pointer (some H))).run P w= .ok H w from rfl]
   simp only[Result.andThen_ok,hv]
   simp only[hr.get] at g
   rw[g]
   rfl
  ·exact h.elim

theorem DX {f:FuncId}{g:Func}{y:Array Value}{R:Ending->World->Prop}{w:World}(W:P.funcs[f]? =some g)(hb:g.body=some (mq g))(hc: ∀y w,(callFunc f y).run P w= .ok (.enter f y) w)(a7:y.size<=g.ntmps)(h:WpF P g.ntmps (mq g) (QF P g.results.toList R) (fr0 y.toList) w):callE P f y R w:=by
 refine .inl ⟨hc,calls_of_wp W hb (Code.wp_mono (λe a E H=>?_) (h _ ⟨by simp;omega,rfl,λt=>?_⟩))⟩
 ·obtain⟨ρ,hr,H⟩:=H
  have fin: ∀ {E},(Fg P g.results.toList ρ E λvs=>R (.returned (Fm vs)) E)->a.defers= []/\ ∃v,(results g a.tmps).run P E= .ok v E/\R (.returned v) E:=by
   intro E H
   obtain⟨vs,U,a6,V⟩:=uD hr H
   refine⟨hr.defers,_,?_,U⟩
   unfold results
   rw[Array.mapM_eq_mapM_toList,Sem.run_bind,map_eq_pure_bind,Sem.run_bind]
   erw [V]
   simp only[Result.andThen_ok,pure,Sem.run]
   match vs,a6 with
   | [],_=>rfl
   | [v],_=>rfl
   |v::u::vs,_=>
    have: ¬ (List.toArray (v::u::vs)).size=1:=by simp
    rw[dif_neg this]
    rfl
  cases e<;>first|exact fin H|exact H.elim
 ·simp only[fr0,Array.getD_eq_getD_getElem?,List.getD_eq_getElem?_getD]
  rcases Nat.lt_or_ge t y.size with O|I
  ·rw[Array.getElem?_append_left O];simp
  ·rw[Array.getElem?_append_right I]
   simp only[Array.getElem?_toList,Array.getElem?_eq_none I,Option.getD_none]
   simp only[Array.getElem?_replicate]
   split<;>rfl

theorem EV {n:Nat}{x:AC}{Q:fH}{ρ:Fr}{w:World}{c:Code}(E:vq P n x Q)(y:x.erase=c)(h:vcA P n x Q ρ w):WpF P n c Q ρ w:=
 y▸oU x E h

theorem sO {f:FuncId}{E:Func}{n:Nat}{c:Code}{rs:List ResultVar}{y:List Value}{R:Ending->World->Prop}{w:World}{x:AC}(W:P.funcs[f]? =some E)(hc: ∀y w,(callFunc f y).run P w= .ok (.enter f y) w)(hb:E.body=some c)(V:E.ntmps=n)(I:E.results.toList=rs)(O:Nat.ble y.length n=true)(U:x.erase=c)(g:vq P n x (QF P rs R)){A:Prop}(e:A=vcA P n x (QF P rs R) (fr0 y) w)(h:A):callE P f y.toArray R w:=by
 have H:mq E=c:=by unfold mq;rw[hb]
 subst V I
 refine DX W (by rw[hb,H]) hc (by simpa using Nat.le_of_ble_eq_true O) ?_
 rw[H]
 exact EV g U (e▸h)

theorem DY {f:FuncId}{E:Func}{n:Nat}{c:Code}{rs:List ResultVar}{y:List Value}{R:Ending->World->Prop}{w:World}{x:AC}(V:P.funcs[f]? =some E)(hc: ∀y w,(callFunc f y).run P w= .ok (.enter f y) w)(W:vq P n x (QF P rs R)){A:Prop}(e:A=vcA P n x (QF P rs R) (fr0 y) w)(h:A)(hb:E.body=some c:=by kernel_rfl)(U:E.ntmps=n:=by kernel_rfl)(H:E.results.toList=rs:=by kernel_rfl)(I:Nat.ble y.length n=true:=by kernel_rfl)(O:x.erase=c:=by kernel_rfl):callE P f y.toArray R w:=
 sO V hc hb U H I O W e h
theorem cutZ {y:List (Nat × CTy)}{F:mv y}{V:Fr->World->Prop}(E:ER y F V:=by (repeat intro);kernel_rfl): ∀ρ w,leaf y F ρ w->V ρ w:=F6 E

def tyN:Nat->CTy
 |0=> .s .bool|1=> .s .str|2=> .s .ptr|3=> .s .slice|4=> .s .map|5=> .s .any|6=> .s .loc
 |7=> .s (.int .i64)|8=> .s (.int .u8)|9=> .s (.int .i32)|10=> .s (.int .u64)|11=> .s (.int .i8)|12=> .s (.int .u32)|13=> .s (.int .u16)|_=> .s (.int .i16)
def vd:List Nat->List (Nat × CTy)
 | []=> []
 |n::l=>(n/20,tyN (n%20))::vd l
def rpN:List Nat->RPlan
 | []=> .done
 |n::l=>match n%3 with
  |0=> .pure (n/3) (rpN l)
  |1=> .load (n/3) (rpN l)
  |_=> .one (n/3) (rpN l)
inductive Sp where
 |mk (v:List Nat) (F:mv (vd v))
 |lp (v:List Nat) (B:mv (vd v)->mv (vd v)) (x:mv (vd v)->List (Nat × Sp))
 |no
 |dr (p:RPlan)
def Sp.go (d:Nat):List (Nat × Sp)->List (Nat × Sp)
 | []=> []
 |(n,s)::l=>match Nat.beq (n%2) d with
  |true=>(n/2,s)::Sp.go d l
  |false=>Sp.go d l
def mkA:Nat->Code->List (Nat × Sp)->AC
 |0,c,_=> .leaf c
 |f+1,c,l=>match l with
  | []=> .leaf c
  |(n,s)::r=>match Nat.beq n 1 with
   |true=>match s with
    | .mk v F=> .cut (vd v) F (mkA f c r)
    | .no=> .no c
    | .dr p=> .draw p c
    | .lp v B x=>match c with
     | .loop c=> .loopB (vd v) B c λX=>mkA f c (x X)
     |c=> .leaf c
   |false=>match c with
    | .seq x y=> .seq (mkA f x (Sp.go 0 l)) (mkA f y (Sp.go 1 l))
    | .cond (.tmp t) x y=> .cond t (mkA f x (Sp.go 0 l)) (mkA f y (Sp.go 1 l))
    | .block k x=> .block k (mkA f x (Sp.go 0 l))
    | .scope x=> .scope (mkA f x (Sp.go 0 l))
    |c=> .leaf c
theorem sf: ∀(f:Nat) (c:Code) (l:List (Nat × Sp)),(mkA f c l).erase=c
 |0,_,_=>rfl
 |f+1,c,l=>by
  unfold mkA
  repeat' split
  all_goals first|rfl|simp only[AC.erase,sf f]
def TyA:AC->Type
 | .seq x y=>TyA x × TyA y
 | .cond _ x y=>TyA x × TyA y
 | .block _ x=>TyA x
 | .scope x=>TyA x
 | .cut vs _ x=>(Fr->mv vs) × TyA x
 | .loopB vs _ _ x=>(X:mv vs)->(Fr->mv vs) × TyA (x X)
 | .draw _ _=>Bool × (List PanicEntry->Fr->World->Prop)
 |_=>Unit
def lhA (P:Program)(n:Nat):(x:AC)->fH->TyA x
 | .seq x y,Q=>(lhA P n x (mr (vcA P n y Q) Q),lhA P n y Q)
 | .cond _ x y,Q=>(lhA P n x Q,lhA P n y Q)
 | .block id x,Q=>lhA P n x (ra id Q)
 | .scope x,Q=>lhA P n x (kZ Q)
 | .cut _ F x,Q=>(λ_=>F,lhA P n x Q)
 | .loopB vs B _ x,Q=>λX=>(λ_=>B X,lhA P n (x X) (mr (leaf vs X) Q))
 | .draw pl c,Q=>(P.follows .mixedOrders && zv pl c,λc ρ w=>Q (.panic c) ρ w)
 | .leaf _,_| .no _,_| .mark _ _,_| .loop _ _,_| .given _ _,_| .jump _ _ _,_=>()
def rhA (P:Program)(n:Nat):(x:AC)->fH->TyA x
 | .seq x y,Q=>(rhA P n x (mr (vcA P n y Q) Q),rhA P n y Q)
 | .cond _ x y,Q=>(rhA P n x Q,rhA P n y Q)
 | .block id x,Q=>rhA P n x (ra id Q)
 | .scope x,Q=>rhA P n x (kZ Q)
 | .cut vs _ x,Q=>(λρ=>GI vs (vcA P n x Q) ρ,rhA P n x Q)
 | .loopB vs _ _ x,Q=>λX=>(λρ=>GI vs (vcA P n (x X) (mr (leaf vs X) Q)) ρ,rhA P n (x X) (mr (leaf vs X) Q))
 | .draw _ _,_=>(true,λ_ _ _=>False)
 | .leaf _,_| .no _,_| .mark _ _,_| .loop _ _,_| .given _ _,_| .jump _ _ _,_=>()
def WfA:AC->Prop
 | .leaf _| .no _| .draw _ _=>True
 | .mark _ _| .loop _ _| .given _ _| .jump _ _ _=>False
 | .seq x y| .cond _ x y=>WfA x/\WfA y
 | .block _ x| .scope x| .cut _ _ x=>WfA x
 | .loopB _ _ c x=> ∀X,(x X).erase=c/\WfA (x X)
theorem EA: ∀(f:Nat) (c:Code) (l:List (Nat × Sp)),WfA (mkA f c l)
 |0,_,_=>trivial
 |f+1,c,l=>by
  unfold mkA
  repeat' split
  all_goals simp[WfA,EA f,sf f]
theorem goodA {n:Nat}: ∀(x:AC) {Q:fH},WfA x->lhA P n x Q=rhA P n x Q->vq P n x Q:=by
 intro x
 induction x with
 |leaf c=>exact λ_ _=>trivial
 |no c=>exact λ_ _=>trivial
 |seq x y O I=>exact λE h=>⟨O E.1 (congrArg Prod.fst h),I E.2 (congrArg Prod.snd h)⟩
 |cond t x y O I=>exact λE h=>⟨O E.1 (congrArg Prod.fst h),I E.2 (congrArg Prod.snd h)⟩
 |block id x H=>exact λE h=>H (Q:=ra id _) E h
 |scope x H=>exact λE h=>H (Q:=kZ _) E h
 |cut vs F x H=>exact λE h=>⟨H E (congrArg Prod.snd h),yM λρ=>congrFun (congrArg Prod.fst h) ρ⟩
 |loopB vs B c x H=>exact λE h X=>⟨(E X).1,H X (Q:=mr (leaf vs X) _) (E X).2 (congrArg Prod.snd (congrFun h X)),yM λρ=>congrFun (congrArg Prod.fst (congrFun h X)) ρ⟩
 |draw W c=>
  intro Q _ h
  have U:(P.follows .mixedOrders && zv W c)=true:=congrArg Prod.fst h
  rw[Bool.and_eq_true] at U
  refine⟨U.1,U.2,λc ρ w V=>?_⟩
  have:=congrFun (congrFun (congrFun (congrArg Prod.snd h) c) ρ) w
  exact cast this V
 |_=>exact λE _=>E.elim
theorem aH {f:FuncId}{y:Func}{E:List Value}{R:Ending->World->Prop}{w:World}(A:List (Nat × Sp))(I:P.funcs[f]? =some y)(hc: ∀E w,(callFunc f E).run P w= .ok (.enter f E) w){F:Prop}(h:F)(O:lhA P y.ntmps (mkA 500 (mq y) A) (QF P y.results.toList R)=rhA P y.ntmps (mkA 500 (mq y) A) (QF P y.results.toList R):=by kernel_rfl)(e:F=vcA P y.ntmps (mkA 500 (mq y) A) (QF P y.results.toList R) (fr0 E) w:=by kernel_rfl)(hb:y.body=some (mq y):=by kernel_rfl)(H:Nat.ble E.length y.ntmps=true:=by kernel_rfl):callE P f E.toArray R w:=
 sO I hc hb rfl rfl H (sf ..) (goodA _ (EA ..) O) e h
theorem cD {f:FuncId}{g:Func}{y:List Value}{R:Ending->World->Prop}{w:World}(H:P.funcs[f]? =some g)(hc: ∀y w,(callFunc f y).run P w= .ok (.enter f y) w){F:Prop}(h:F)(e:F=vcC P g.ntmps (mq g) (QF P g.results.toList R) (fr0 y) w:=by kernel_rfl)(hb:g.body=some (mq g):=by kernel_rfl)(E:Nat.ble y.length g.ntmps=true:=by kernel_rfl):callE P f y.toArray R w:=
 sO H hc hb rfl rfl E (x:= .leaf (mq g)) rfl trivial e h

def tick (w:World):World:= {w with drawn:=w.drawn+1}
def tk (w:World)(K:World->Prop):Prop:=K (tick w)
def br (c:Bool)(A B:Prop):Prop:=
 match c with
 |true=>A
 |false=>B
def box (w:World)(cs:Array Value)(e:TypeId)(K:Nat->World->Prop):Prop:= ∀b,w.heap.size=b->K b (alc w cs e)
def EL (k:IntKind)(x g:Int):Int:=k.wrap ((BitVec.ofInt k.bits x &&& BitVec.ofInt k.bits g).toNat)
structure N16 where
 a0:Int:=0
 a1:ByteArray:=⟨#[]⟩
 a2:ByteArray:=⟨#[]⟩
 a3:Int:=0
 a4:ByteArray:=⟨#[]⟩
 a5:Bool:=false
 q6:Option Addr:=none
 n6:Nat:=0
 c6:Nat:=0
 q7:Option Addr:=none
 n7:Nat:=0
 c7:Nat:=0
 a8:Int:=0
 a9:Int:=0
 a10:ByteArray:=⟨#[]⟩
 a11:Int:=0
 a12:Bool:=false
 a13:Bool:=false
 a14:Bool:=false
 q15:Option Addr:=none
 n15:Nat:=0
 c15:Nat:=0
def N16.C (v:N16):Array Value:= #[.int .i64 v.a0,.string v.a1,.string v.a2,.int .i64 v.a3,.string v.a4,.bool v.a5,.slice v.q6 v.n6 v.c6,.slice v.q7 v.n7 v.c7,.int .i64 v.a8,.int .i64 v.a9,.string v.a10,.int .i64 v.a11,.bool v.a12,.bool v.a13,.bool v.a14,.slice v.q15 v.n15 v.c15]
abbrev N16.V (v:N16):Value:= .agg v.C
def ld16 (w:World)(A:Nat->Addr)(K:N16->Prop):Prop:=
 ∃(a0:Int),w.cell? (A 0)=some (.int .i64 a0)/\
 ∃(a1:ByteArray),w.cell? (A 1)=some (.string a1)/\
 ∃(a2:ByteArray),w.cell? (A 2)=some (.string a2)/\
 ∃(a3:Int),w.cell? (A 3)=some (.int .i64 a3)/\
 ∃(a4:ByteArray),w.cell? (A 4)=some (.string a4)/\
 ∃(a5:Bool),w.cell? (A 5)=some (.bool a5)/\
 ∃(q6:Option Addr),∃(n6:Nat),∃(c6:Nat),w.cell? (A 6)=some (.slice q6 n6 c6)/\
 ∃(q7:Option Addr),∃(n7:Nat),∃(c7:Nat),w.cell? (A 7)=some (.slice q7 n7 c7)/\
 ∃(a8:Int),w.cell? (A 8)=some (.int .i64 a8)/\
 ∃(a9:Int),w.cell? (A 9)=some (.int .i64 a9)/\
 ∃(a10:ByteArray),w.cell? (A 10)=some (.string a10)/\
 ∃(a11:Int),w.cell? (A 11)=some (.int .i64 a11)/\
 ∃(a12:Bool),w.cell? (A 12)=some (.bool a12)/\
 ∃(a13:Bool),w.cell? (A 13)=some (.bool a13)/\
 ∃(a14:Bool),w.cell? (A 14)=some (.bool a14)/\
 ∃(q15:Option Addr),∃(n15:Nat),∃(c15:Nat),w.cell? (A 15)=some (.slice q15 n15 c15)/\
 K ⟨a0,a1,a2,a3,a4,a5,q6,n6,c6,q7,n7,c7,a8,a9,a10,a11,a12,a13,a14,q15,n15,c15⟩
def ldB16 (w:World)(b:Nat)(K:N16->Prop):Prop:=ld16 w (λi=>⟨b,i,none⟩) K
def ldA16 (w:World)(a:Addr)(K:N16->Prop):Prop:=ld16 w (λi=>a.add i) K
def st16 (w:World)(b:Nat)(v:N16)(K:World->Prop):Prop:=
 stV w ⟨b,0,none⟩ (.int .i64 v.a0) λw=>
 stV w ⟨b,1,none⟩ (.string v.a1) λw=>
 stV w ⟨b,2,none⟩ (.string v.a2) λw=>
 stV w ⟨b,3,none⟩ (.int .i64 v.a3) λw=>
 stV w ⟨b,4,none⟩ (.string v.a4) λw=>
 stV w ⟨b,5,none⟩ (.bool v.a5) λw=>
 stV w ⟨b,6,none⟩ (.slice v.q6 v.n6 v.c6) λw=>
 stV w ⟨b,7,none⟩ (.slice v.q7 v.n7 v.c7) λw=>
 stV w ⟨b,8,none⟩ (.int .i64 v.a8) λw=>
 stV w ⟨b,9,none⟩ (.int .i64 v.a9) λw=>
 stV w ⟨b,10,none⟩ (.string v.a10) λw=>
 stV w ⟨b,11,none⟩ (.int .i64 v.a11) λw=>
 stV w ⟨b,12,none⟩ (.bool v.a12) λw=>
 stV w ⟨b,13,none⟩ (.bool v.a13) λw=>
 stV w ⟨b,14,none⟩ (.bool v.a14) λw=>
 stV w ⟨b,15,none⟩ (.slice v.q15 v.n15 v.c15) λw=>
 K w
def F0 (e:Ending)(K:N16->Prop):Prop:=
 ∃(a0:Int),∃(a1:ByteArray),∃(a2:ByteArray),∃(a3:Int),∃(a4:ByteArray),∃(a5:Bool),∃(q6:Option Addr),∃(n6:Nat),∃(c6:Nat),∃(q7:Option Addr),∃(n7:Nat),∃(c7:Nat),∃(a8:Int),∃(a9:Int),∃(a10:ByteArray),∃(a11:Int),∃(a12:Bool),∃(a13:Bool),∃(a14:Bool),∃(q15:Option Addr),∃(n15:Nat),∃(c15:Nat),e= .returned (.agg #[.int .i64 a0,.string a1,.string a2,.int .i64 a3,.string a4,.bool a5,.slice q6 n6 c6,.slice q7 n7 c7,.int .i64 a8,.int .i64 a9,.string a10,.int .i64 a11,.bool a12,.bool a13,.bool a14,.slice q15 n15 c15])/\
 K ⟨a0,a1,a2,a3,a4,a5,q6,n6,c6,q7,n7,c7,a8,a9,a10,a11,a12,a13,a14,q15,n15,c15⟩
structure N10 where
 a0:Int:=0
 a1:ByteArray:=⟨#[]⟩
 a2:ByteArray:=⟨#[]⟩
 a3:Int:=0
 a4:ByteArray:=⟨#[]⟩
 a5:Bool:=false
 q6:Option Addr:=none
 n6:Nat:=0
 c6:Nat:=0
 q7:Option Addr:=none
 n7:Nat:=0
 c7:Nat:=0
 a8:Int:=0
 a9:Int:=0
def N10.C (v:N10):Array Value:= #[.int .i64 v.a0,.string v.a1,.string v.a2,.int .i64 v.a3,.string v.a4,.bool v.a5,.slice v.q6 v.n6 v.c6,.slice v.q7 v.n7 v.c7,.int .i64 v.a8,.int .i64 v.a9]
abbrev N10.V (v:N10):Value:= .agg v.C
def ld10 (w:World)(A:Nat->Addr)(K:N10->Prop):Prop:=
 ∃(a0:Int),w.cell? (A 0)=some (.int .i64 a0)/\
 ∃(a1:ByteArray),w.cell? (A 1)=some (.string a1)/\
 ∃(a2:ByteArray),w.cell? (A 2)=some (.string a2)/\
 ∃(a3:Int),w.cell? (A 3)=some (.int .i64 a3)/\
 ∃(a4:ByteArray),w.cell? (A 4)=some (.string a4)/\
 ∃(a5:Bool),w.cell? (A 5)=some (.bool a5)/\
 ∃(q6:Option Addr),∃(n6:Nat),∃(c6:Nat),w.cell? (A 6)=some (.slice q6 n6 c6)/\
 ∃(q7:Option Addr),∃(n7:Nat),∃(c7:Nat),w.cell? (A 7)=some (.slice q7 n7 c7)/\
 ∃(a8:Int),w.cell? (A 8)=some (.int .i64 a8)/\
 ∃(a9:Int),w.cell? (A 9)=some (.int .i64 a9)/\
 K ⟨a0,a1,a2,a3,a4,a5,q6,n6,c6,q7,n7,c7,a8,a9⟩
def ldB10 (w:World)(b:Nat)(K:N10->Prop):Prop:=ld10 w (λi=>⟨b,i,none⟩) K
def ldA10 (w:World)(a:Addr)(K:N10->Prop):Prop:=ld10 w (λi=>a.add i) K
def st10 (w:World)(b:Nat)(v:N10)(K:World->Prop):Prop:=
 stV w ⟨b,0,none⟩ (.int .i64 v.a0) λw=>
 stV w ⟨b,1,none⟩ (.string v.a1) λw=>
 stV w ⟨b,2,none⟩ (.string v.a2) λw=>
 stV w ⟨b,3,none⟩ (.int .i64 v.a3) λw=>
 stV w ⟨b,4,none⟩ (.string v.a4) λw=>
 stV w ⟨b,5,none⟩ (.bool v.a5) λw=>
 stV w ⟨b,6,none⟩ (.slice v.q6 v.n6 v.c6) λw=>
 stV w ⟨b,7,none⟩ (.slice v.q7 v.n7 v.c7) λw=>
 stV w ⟨b,8,none⟩ (.int .i64 v.a8) λw=>
 stV w ⟨b,9,none⟩ (.int .i64 v.a9) λw=>
 K w
end Go.Proofs.YtendaipfdnhnaaaGreatDoor


namespace Go.Proofs.YtendaipfdnhnaaaGreatDoor
variable {P:Program}

structure Out where
 os:Os
 output:Array (Nat × ByteArray)
abbrev ai:=Nat × Obj
def cel (cs:List Value)(e:TypeId):Obj:= .cells cs.toArray e
structure Sat (σ:Out) (w:World) (L:List ai):Prop where
 os:w.os=σ.os
 out:w.output=σ.output
 nodup:(L.map Prod.fst).Nodup
 at_: ∀c∈L,w.heap[c.1]? =some c.2
variable {σ:Out} {w:World} {L L':List ai}

theorem Sat.lt (h:Sat σ w L){c:ai}(hc:c∈L):c.1<w.heap.size:=(Array.getElem?_eq_some_iff.1 (h.at_ c hc)).1
theorem Sat.perm (h:Sat σ w L)(g:L.Perm L'):Sat σ w L':=
 ⟨h.os,h.out,(g.map Prod.fst).nodup_iff.1 h.nodup,λc hc=>h.at_ c (g.mem_iff.2 hc)⟩
theorem Sat.sub (h:Sat σ w L)(g:L'.Sublist L):Sat σ w L':=
 ⟨h.os,h.out,h.nodup.sublist (g.map Prod.fst),λc hc=>h.at_ c (g.subset hc)⟩
theorem Sat.right {A:List ai}(h:Sat σ w (A++L)):Sat σ w L:=h.sub (List.sublist_append_right A L)
theorem Sat.tail {c:ai}(h:Sat σ w (c::L)):Sat σ w L:=h.sub (List.sublist_cons_self c L)
theorem Sat.tick (h:Sat σ w L):Sat σ (tick w) L:=⟨h.os,h.out,h.nodup,h.at_⟩
theorem Sat.drew (h:Sat σ w L):Sat σ w.drew L:=⟨h.os,h.out,h.nodup,h.at_⟩
theorem Sat.tk (h:Sat σ w L){K:World->Prop}(y: ∀g,Sat σ g L->K g):YtendaipfdnhnaaaGreatDoor.tk w K:=y _ h.tick
theorem nu {b i:Nat}{cs:Array Value}{e:TypeId}{g:Nat × Nat}(h:w.heap[b]? =some (.cells cs e g)):w.cell? ⟨b,i,none⟩=cs[i]? :=by
 simp[World.cell?,h]
theorem Sat.ld (h:Sat σ w L){b i:Nat}{cs:List Value}{e:TypeId}{v:Value}(g:(b,cel cs e)∈L)(hv:cs[i]? =some v):w.cell? ⟨b,i,none⟩=some v:=by
 rw[nu (h.at_ _ g)];simpa using hv

theorem Sat.set (h:Sat σ w L){k b i:Nat}{cs:List Value}{e:TypeId}(v:Value)(E:L[k]? =some (b,cel cs e)):
 Sat σ (w.setCell ⟨b,i,none⟩ v) (L.set k (b,cel (cs.set i v) e)):=by
 have I:=(List.getElem?_eq_some_iff.1 E).1
 have H:=(List.getElem?_eq_some_iff.1 E).2
 have O:(L.set k (b,cel (cs.set i v) e)).map Prod.fst=L.map Prod.fst:=by
  rw[List.map_set]
  apply List.ext_getElem?
  intro j
  rw[List.getElem?_set]
  split
  ·rename_i g;subst g;simp[I,H]
  ·rfl
 refine⟨h.os,h.out,by rw[O];exact h.nodup,λc hc=>?_⟩
 obtain⟨j,g⟩:=List.mem_iff_getElem?.1 hc
 rw[List.getElem?_set] at g
 have hb:=h.at_ _ (List.mem_of_getElem? E)
 have b4:=(Array.getElem?_eq_some_iff.1 hb).1
 split at g
 ·rename_i y
  subst y
  simp only[Option.some.injEq] at g
  subst g
  simp only[World.setCell,Array.getElem?_modify,hb,if_true,Option.map_some]
  simp[cel]
 ·rename_i y
  have b3:=List.mem_of_getElem? g
  have W:b≠c.1:=by
   intro V
   have a6:=(List.getElem?_eq_some_iff.1 g).1
   have U:=(List.getElem?_eq_some_iff.1 g).2
   have a7:(L.map Prod.fst)[k]'(by simpa using I)=(L.map Prod.fst)[j]'(by simpa using a6):=by simp[H,U,V]
   exact y ((List.getElem_inj h.nodup).1 a7)
  simp only[World.setCell,Array.getElem?_modify]
  rw[if_neg W]
  exact h.at_ _ b3
theorem Sat.not_frozen (h:Sat σ w L){b i:Nat}{cs:List Value}{e:TypeId}(g:(b,cel cs e)∈L):w.frozen? ⟨b,i,none⟩=false:=by
 have:=h.at_ _ g
 simp only[cel] at this
 simp[World.frozen?,this]
theorem Sat.st (h:Sat σ w L){k b i:Nat}{cs:List Value}{e:TypeId}{v:Value}{K:World->Prop}(g:L[k]? =some (b,cel cs e))(hi:i<cs.length)(E:nA v)(H:L.set k (b,cel (cs.set i v) e)=L')(I: ∀y,Sat σ y L'->K y):stV w ⟨b,i,none⟩ v K:=
 ⟨E,⟨_,h.ld (List.mem_of_getElem? g) (List.getElem?_eq_getElem hi)⟩,h.not_frozen (List.mem_of_getElem? g),I _ (by rw[<-H];exact h.set v g)⟩

theorem Sat.ldA (h:Sat σ w L){b i:Nat}{cs:List Value}{e:TypeId}{v:Value}(g:(b,cel cs e)∈L:=by first|assumption|(repeat (first|exact .head _|apply List.Mem.tail)))(hv:cs[i]? =some v:=by exact rfl):w.cell? ⟨b,i,none⟩=some v:=h.ld g hv
theorem Sat.stA (h:Sat σ w L)(k:Nat){b i:Nat}{cs:List Value}{e:TypeId}{v:Value}{K:World->Prop}(I: ∀g,Sat σ g L'->K g)(E:L[k]? =some (b,cel cs e):=by exact rfl)(hi:i<cs.length:=by exact Nat.le_of_ble_eq_true rfl)(y:nA v:=by exact trivial)(H:L.set k (b,cel (cs.set i v) e)=L':=by first|(dsimp only[List.set];exact rfl)|exact rfl):stV w ⟨b,i,none⟩ v K:=h.st E hi y H I

theorem Sat.alc (h:Sat σ w L)(cs:List Value)(e:TypeId):Sat σ (alc w cs.toArray e) ((w.heap.size,cel cs e)::L):=by
 refine⟨h.os,h.out,?_,?_⟩
 ·simp only[List.map_cons,List.nodup_cons]
  refine⟨λg=>?_,h.nodup⟩
  obtain⟨c,hc,y⟩:=List.mem_map.1 g
  exact Nat.lt_irrefl _ (y▸h.lt hc)
 ·intro c hc
  cases hc with
  |head=>exact(Array.getElem?_push_size ..).trans rfl
  |tail _ hc=>
   have:=h.lt hc
   simp only[YtendaipfdnhnaaaGreatDoor.alc]
   rw[Array.getElem?_push_lt this,<-Array.getElem?_eq_getElem this]
   exact h.at_ _ hc
theorem Sat.bx (h:Sat σ w L){cs:List Value}{e:TypeId}{K:Nat->World->Prop}(y: ∀b g,Sat σ g ((b,cel cs e)::L)->K b g):box w cs.toArray e K:=by
 intro b hb
 subst hb
 exact y _ _ (h.alc cs e)

theorem ag {c:Bool}{A B:Prop}(hc:c=true)(h:A):br c A B:=by subst hc;exact h
theorem ae {c:Bool}{A B:Prop}(hc:c=false)(h:B):br c A B:=by subst hc;exact h
theorem bM {c:Bool}{A B:Prop}(g:c=true->A)(y:c=false->B):br c A B:=by
 cases c with
 |true=>exact g rfl
 |false=>exact y rfl
theorem aa {a:Addr}{K:Addr->Prop}(h:K a):aA (some a) K:=h

def bs (l:List UInt8):ByteArray:=⟨l.toArray⟩
@[simp] theorem aJ (l:List UInt8):(bs l).size=l.length:=by simp[bs,ByteArray.size]
@[simp] theorem bs_data (l:List UInt8):(bs l).data=l.toArray:=rfl
theorem bL (a b:List UInt8):bs a++bs b=bs (a++b):=by
 apply ByteArray.ext
 simp[bs]
theorem cm (l:List UInt8)(i j:Nat):(bs l).extract i j=bs ((l.take j).drop i):=by
 apply ByteArray.ext
 simp[bs,ByteArray.data_extract,List.extract_eq_take_drop,List.drop_take]
theorem oO (l:List UInt8)(i:Nat):bt (bs l) (i:Int)=((l.getD i 0).toNat:Int):=by
 simp[bt,bs,Array.getD_eq_getD_getElem?,List.getD_eq_getElem?_getD]
theorem CE (l:List UInt8): ∀(k i:Nat) (r:List UInt8),l.length - i=k->ByteArray.toList.loop (bs l) i r=r.reverse++l.drop i
 |0,i,r,h=>by
  unfold ByteArray.toList.loop
  rw[if_neg (by rw[aJ];omega),List.drop_eq_nil_of_le (by omega),List.append_nil]
 |k+1,i,r,h=>by
  have hi:i<l.length:=by omega
  unfold ByteArray.toList.loop
  rw[if_pos (by rw[aJ];exact hi),CE l k (i+1) _ (by omega),List.drop_eq_getElem_cons hi]
  have g:(bs l).get! i=l[i]:=by
   show (l.toArray)[i]! =l[i]
   simp[hi]
  rw[g]
  simp
theorem cZ (l:List UInt8):(bs l).toList=l:=by
 unfold ByteArray.toList
 rw[CE l _ 0 [] rfl]
 simp

end Go.Proofs.YtendaipfdnhnaaaGreatDoor

namespace Go.Proofs.YtendaipfdnhnaaaGreatDoor
abbrev kT(q:Option Addr):Value:=.pointer q
abbrev kE(b:Nat):Option Addr:=some ⟨b,0,none⟩
abbrev hZ(b i:Nat):Addr:=⟨b,i,none⟩
abbrev hY(n:Int):Value:=.int .i64 n
abbrev hX(s:ByteArray):Value:=.string s
abbrev hV(b:Bool):Value:=.bool b
abbrev hT(q:Option Addr)(n c:Nat):Value:=.slice q n c
abbrev hQ(v:Value):Ending:=.returned v
abbrev lA0:=@List.length_append
abbrev lB0:=@List.mem_append_right
abbrev lC0:=@Int.toNat_natCast
abbrev lD0:=@List.append_assoc
abbrev lE0:=@List.length_singleton
abbrev lF0:=@List.length_cons
abbrev lG0:=@List.append_nil
abbrev lH0:=@List.getElem?_append_right
abbrev lI0:=@List.getElem?_eq_getElem
abbrev lJ0:=@Result.andThen_ok
abbrev lK0:=@Addr.add_lit
abbrev lL0:=@List.getElem?_eq_some_iff
abbrev lM0:=@List.getElem?_append_left
abbrev lN0:=@Nat.zero_add
abbrev lO0:=@List.mem_append
abbrev lP0:=@List.getD_eq_getElem?_getD
abbrev lQ0:=@List.mem_singleton
abbrev lR0:=@List.cons_append
abbrev lS0:=@List.length_map
abbrev lT0:=@List.nil_append
abbrev lU0:=@List.cons.injEq
abbrev lV0:=@List.map_append
abbrev lW0:=@List.mem_cons
abbrev lX0:=@Sem.run_bind
abbrev lY0:=@List.length_pos_iff
abbrev lZ0:=@Nat.le_refl
abbrev lA1:=@List.exists_cons_of_ne_nil
abbrev lB1:=@List.eq_nil_of_length_eq_zero
abbrev lC1:=@Nat.mul_one
abbrev lD1:=@List.not_mem_nil
abbrev lE1:=@List.mem_append_left
abbrev lF1:=@List.length_take
abbrev lG1:=@Option.some.injEq
abbrev lH1:=@List.take_succ_eq_append_getElem
abbrev lI1:=@List.drop_eq_getElem_cons
abbrev lJ1:=@Nat.eq_of_beq_eq_true
abbrev lK1:=@List.length_nil
abbrev lL1:=@Nat.add_zero
abbrev lM1:=@Bool.and_eq_true
abbrev lN1:=@List.length_drop
abbrev lO1:=@List.set_append_right
abbrev lP1:=@List.getElem_mem
abbrev lQ1:=@List.mem_cons_of_mem
abbrev lR1:=@List.mem_of_getElem?
abbrev lS1:=@List.mem_map
abbrev lT1:=@List.getElem?_eq_none
abbrev lU1:=@List.map_cons
abbrev lV1:=@List.foldl_cons
abbrev lW1:=@Nat.sub_self
abbrev lX1:=@List.take_append_drop
abbrev lY1:=@List.mem_cons_self
abbrev lZ1:=@List.replicate_succ
abbrev lA2:=@List.eq_nil_or_concat
abbrev lB2:=@List.take_of_length_le
abbrev lC2:=@Nat.zero_le
abbrev lD2:=@List.all_eq_true
abbrev lE2:=@List.drop_eq_nil_of_le
abbrev lF2:=@List.getElem?_map
abbrev lG2:=@List.length_replicate
abbrev lH2:=@List.dropWhile_cons_of_neg
abbrev lI2:=@Bool.or_eq_false_iff
abbrev lJ2:=@List.getElem_append_right
abbrev lK2:=@List.drop_zero
abbrev lL2:=@List.concat_eq_append
abbrev lM2:=@List.foldl_append
abbrev lN2:=@Nat.mul_le_mul_right
abbrev lO2:=@List.dropWhile_sublist
abbrev lP2:=@Array.getElem?_eq_getElem
abbrev lQ2:=@Array.getElem?_toList
abbrev lR2:=@List.singleton_append
abbrev lS2:=@List.mem_flatMap
abbrev lT2:=@List.getLast?_cons_cons
abbrev lU2:=@Array.getD_eq_getD_getElem?
abbrev lV2:=@List.mem_range
abbrev lW2:=@List.take_length
abbrev lX2:=@List.drop_append_of_le_length
abbrev lY2:=@List.getElem?_cons_succ
abbrev lZ2:=@List.mem_zipIdx_iff_getElem?
abbrev lA3:=@List.dropWhile_cons
abbrev lB3:=@List.takeWhile_cons
abbrev lC3:=@Nat.add_assoc
abbrev lD3:=@List.length_tail
abbrev lE3:=@Bool.false_eq_true
abbrev lF3:=@Nat.add_sub_cancel
abbrev lG3:=@Nat.le_of_ble_eq_true
abbrev lH3:=@List.sublist_append_right
abbrev lI3:=@Option.map_some
abbrev lJ3:=@List.flatMap_cons
abbrev lK3:=@List.flatten_cons
abbrev lL3:=@List.all_cons
abbrev lM3:=@List.getElem?_take_of_lt
abbrev lN3:=@List.append_eq
abbrev lO3:=@Nat.zero_lt_succ
abbrev lP3:=@Nat.add_mul
abbrev lQ3:=@List.take_append_of_le_length
abbrev lR3:=@List.sublist_cons_self
abbrev lS3:=@List.append_of_mem
abbrev lT3:=@List.mem_replicate
abbrev lU3:=@Nat.add_right_comm
abbrev lV3:=@List.nodup_cons
abbrev lW3:=@List.dropLast_concat_getLast
abbrev lX3:=@Bool.and_eq_false_iff
abbrev lY3:=@UInt8.ofNat_toNat
abbrev lZ3:=@Array.getElem?_eq_some_iff
abbrev lA4:=@List.dropWhile_cons_of_pos
abbrev lB4:=@List.drop_left
abbrev lC4:=@Array.toArray_toList
abbrev lD4:=@List.getLast?_append
abbrev lE4:=@List.append_inj'
abbrev lF4:=@Nat.succ_mul
abbrev lG4:=@Array.mapM_eq_mapM_toList
abbrev lH4:=@Array.getElem?_push_size
abbrev lI4:=@Bool.eq_false_or_eq_true
abbrev lJ4:=@Nat.eq_zero_or_pos
abbrev lK4:=@List.getElem?_drop
abbrev lL4:=@List.set_eq_take_append_cons_drop
abbrev lM4:=@Nat.lt_or_ge
abbrev lN4:=@Array.getElem?_eq_none
abbrev lO4:=@Array.getElem?_push_lt
abbrev lP4:=@List.take_left
abbrev lQ4:=@List.reverse_cons
abbrev lR4:=@Nat.add_comm
abbrev lS4:=@Array.getElem?_setIfInBounds_ne
abbrev lT4:=@Array.getElem?_modify
abbrev lU4:=@List.dropWhile_suffix
abbrev lV4:=@List.set_append_left
abbrev lW4:=@List.mem_of_mem_drop
abbrev lX4:=@List.mem_of_mem_take
abbrev lY4:=@List.replicate_succ'
abbrev lZ4:=@Bool.eq_iff_iff
abbrev lA5:=@List.length_set
abbrev lB5:=@List.drop_left'
abbrev lC5:=@List.take_left'
abbrev lD5:=@List.all_append
abbrev lE5:=@List.reverse_append
abbrev lF5:=@List.mem_map_of_mem
abbrev lG5:=@List.take_succ_cons
abbrev lH5:=@List.flatMap_append
abbrev lI5:=@List.getD_cons_succ
abbrev lJ5:=@Array.getElem?_append_left
abbrev lK5:=@List.drop_drop
abbrev lL5:=@Nat.mul_le_mul
abbrev lM5:=@List.getElem?_set
abbrev lN5:=@Bool.not_eq_true'
abbrev lO5:=@Array.getElem?_replicate
abbrev lP5:=@Bool.true_and
abbrev lQ5:=@List.getElem_append_left
abbrev lR5:=@List.perm_middle
abbrev lS5:=@List.getElem?_cons_zero
abbrev lT5:=@List.reverse_nil
abbrev lU5:=@Bool.not_eq_true
abbrev lV5:=@List.drop_append
abbrev lW5:=@List.mem_nil_iff
abbrev lX5:=@Option.bind_eq_some_iff
abbrev lY5:=@Nat.add_sub_cancel_left
abbrev lZ5:=@List.getElem?_replicate
abbrev lA6:=@List.length_eq_zero_iff
abbrev lB6:=@Nat.blt_eq
abbrev lC6:=@List.head?_eq_getElem?
abbrev lD6:=@List.takeWhile_sublist
abbrev lE6:=@List.getElem_cons_succ
abbrev lF6:=@List.drop_of_length_le
abbrev lG6:=@Nat.min_eq_left
abbrev lH6:=@List.mem_iff_getElem?
abbrev lI6:=@UInt8.lt_iff_toNat_lt
abbrev lJ6:=@List.mapM_cons
abbrev lK6:=@List.reverse_reverse
abbrev lL6:=@List.pairwise_append
abbrev lM6:=@List.mem_iff_getElem
abbrev lN6:=@Nat.lt_irrefl
abbrev lO6:=@Nat.zero_mul
abbrev lP6:=@Nat.mul_comm
end Go.Proofs.YtendaipfdnhnaaaGreatDoor

namespace Go.Proofs.YtendaipfdnhnaaaGreatDoor
open Go.Proofs Go.IntWalk
variable {P:Program} {σ:Out} {w:World} {L L':List ai} {R:Ending->World->Prop}

theorem aN {n:Nat}(g:n<4611686018427387904):i64.wrap ((n:Int)+1)=((n+1:Nat):Int):=by
 rw[i64_in _ (by omega)];omega
theorem gr {n:Nat}(y:n<4611686018427387904)(g:0<n):i64.wrap ((n:Int) - 1)=((n - 1:Nat):Int):=by
 rw[i64_in _ (by omega)];omega
theorem pE {l:List UInt8}{i:Nat}(hi:i<l.length):bt (bs l) (i:Int)=(l[i].toNat:Int):=by
 rw[oO,lP0,lI0 hi];rfl
theorem mA (c d:UInt8):(((c.toNat:Nat):Int)==(d.toNat:Int))=(c==d):=by
 rw[lZ4]
 simp only[beq_iff_eq,Int.ofNat_inj]
 exact⟨λh=>UInt8.toNat.inj h,λh=>by rw[h]⟩
theorem de {l:List UInt8}{i:Nat}(hi:i<l.length)(d:UInt8)(n:Int)(hd:(d.toNat:Int)=n):(bt (bs l) (i:Int)==n)=(l[i]==d):=by
 subst hd
 rw[pE hi,mA]

theorem Dd {l:List UInt8}{p:UInt8->Bool}{X:Nat->Prop}(step: ∀i (h:i<l.length),p l[i]=true->X (i+1)->X i):
 ∀g,g<=l.length->(∀i,i<=l.length->(∀h:i<l.length,p l[i]=false)->l.drop i=(l.drop g).dropWhile p->X i)->X g:=by
 intro g
 generalize V:l.length - g=n
 induction n generalizing g with
 |zero=>
  intro hi y
  exact y g hi (λh=>by omega) (by rw[lE2 (by omega)];rfl)
 |succ n I=>
  intro hi y
  have H:g<l.length:=by omega
  have hd:=lI1 H
  cases E:p l[g] with
  |true=>
   refine step g H E (I (g+1) (by omega) (by omega) λi hi U O=>y i hi U ?_)
   rw[O,hd,lA4 E]
  |false=>exact y g hi (λ_=>E) (by rw[hd,lH2 (by simp[E])])
theorem Gh {l:List UInt8}{p:UInt8->Bool}{X:Nat->Prop}(step: ∀i (h:i<l.length),p l[i]=true->X i->X (i+1)):
 ∀g,g<=l.length->(∀j,j<=l.length->(∀i (h:i<l.length),j=i+1->p l[i]=false)->l.take j=((l.take g).reverse.dropWhile p).reverse->X j)->X g:=by
 intro g
 induction g with
 |zero=>exact λh y=>y 0 h (λi hi h=>by omega) (by simp)
 |succ j I=>
  intro U y
  have H:j<l.length:=by omega
  have ht:(l.take (j+1)).reverse=l[j]::(l.take j).reverse:=by rw[lH1 H];simp
  cases E:p l[j] with
  |true=>
   refine step j H E (I (by omega) λi hi V O=>y i hi V ?_)
   rw[O,ht,lA4 E]
  |false=>
   refine y (j+1) U (λi hi h=>by
    obtain rfl:i=j:=by omega
    exact E) ?_
   rw[ht,lH2 (by simp[E])]
   rw[<-ht,lK6]

theorem gk (a:Array UInt8):(hP a).toList=a.toList:=cZ a.toList
theorem nw (l:List UInt8)(i:Nat):(bs l).extract i l.length=bs (l.drop i):=by rw[cm,lW2]
theorem Sat.up1 {a b:ai}(h:Sat σ w (a::b::L)):Sat σ w (b::a::L):=h.perm (List.Perm.swap ..)
open Classical in
noncomputable def one (a c:ai):Nat:=if c=a then 1 else 0
noncomputable def cnt (a:ai):List ai->Nat
 | []=>0
 |c::L=>one a c+cnt a L
theorem mg (a:ai):cnt a []=0:=rfl
theorem eP (a c:ai)(L:List ai):cnt a (c::L)=one a c+cnt a L:=rfl
theorem dE (a:ai): ∀(L M:List ai),cnt a (L++M)=cnt a L+cnt a M
 | [],M=>by rw[lT0,mg,lN0]
 |c::L,M=>by rw[lR0,eP,eP,dE a L M,lC3]
theorem Cv {a:ai}: ∀ {L:List ai},0<cnt a L->a∈L
 | [],h=>by simp[cnt] at h
 |c::L,h=>by
  by_cases hc:c=a
  ·rw[hc];exact lY1 ..
  ·rw[eP] at h
   simp only[one,if_neg hc,lN0] at h
   exact lQ1 _ (Cv h)
theorem rU: ∀ {L M:List ai},(∀a,cnt a L=cnt a M)->L.Perm M
 | [],M,h=>by
  cases M with
  |nil=>exact .nil
  |cons c M=>have:=h c;simp[cnt,one] at this;omega
 |c::L,M,h=>by
  have hc:c∈M:=Cv (by rw[<-h c,eP];simp[one];omega)
  obtain⟨A,B,rfl⟩:=lS3 hc
  refine(List.Perm.cons c (rU (M:=A++B) λa=>?_)).trans lR5.symm
  have:=h a
  simp only[dE,eP] at this⊢
  omega
theorem Sat.re (h:Sat σ w L)(g: ∀a,cnt a L=cnt a L':=by intro _;simp only[lN3,dE,eP,mg]<;>omega):Sat σ w L':=h.perm (rU g)
theorem Sat.less {L L':List ai}(X:List ai)(h:Sat σ w L)(g: ∀a,cnt a L=cnt a X+cnt a L':=by intro _;simp only[lN3,dE,eP,mg]<;>omega):Sat σ w L':=
 Sat.right (A:=X) (h.re λa=>by rw[dE];exact g a)

def cM (c:UInt8):Bool:=c==32||c==9
def vE (p:UInt8->Bool)(l:List UInt8):List UInt8:=(l.reverse.dropWhile p).reverse
def gj (p:UInt8->Bool)(l:List UInt8):List UInt8:=vE p (l.dropWhile p)

end Go.Proofs.YtendaipfdnhnaaaGreatDoor


namespace Go.Proofs.YtendaipfdnhnaaaGreatDoor
open Go.Proofs Go.IntWalk Go.RowKit
set_option maxRecDepth 20000
variable {σ:Out} {w:World} {L L':List ai} {R:Ending->World->Prop}
def xV (g:World):Out:=⟨g.os,g.output⟩
def fM (g:World):List ai:=g.heap.toList.zipIdx.map λx=>(x.2,x.1)
theorem Df (g:World):Sat (xV g) g (fM g):=by
 refine⟨rfl,rfl,?_,?_⟩
 ·have:(fM g).map Prod.fst=g.heap.toList.zipIdx.map Prod.snd:=by simp[fM,Function.comp_def]
  rw[this,List.zipIdx_map_snd]
  exact List.nodup_range'
 ·intro c hc
  obtain⟨x,y,rfl⟩:=lS1.1 hc
  have:=lZ2.1 y
  simpa using this
theorem yf {g y:World}(h:Sat (xV g) y (fM g))(E:MemPlace->Prop):g.keptBut y E:=by
 refine⟨h.os,h.out,λi hi=>?_⟩
 have H:(i,g.heap[i])∈fM g:=lS1.2 ⟨(g.heap[i],i),lZ2.2 (by simp[hi]),rfl⟩
 have:=h.at_ _ H
 rw[this,lP2 hi]
 cases g.heap[i]<;>first|exact⟨rfl,rfl,rfl,λ_ _=>rfl⟩|exact .inr ⟨rfl,rfl⟩|rfl
theorem CB {P:Program}{f:FuncId}{g:Array Value}{R:Ending->World->Prop}{w:World}(hc: ∀g w,(callFunc f g).run P w= .ok (.enter f g) w)(h:callE P f g R w):Calls P f g w R:=by
 rcases h with ⟨_,h⟩|⟨v,y,h,_⟩
 ·exact h
 ·rw[hc] at h;cases h
end Go.Proofs.YtendaipfdnhnaaaGreatDoor

namespace Go.Proofs.YtendaipfdnhnaaaGreatDoor
open Go.Proofs
noncomputable abbrev P:Program:=Tryz.prog
abbrev WP:=World->Prop
abbrev EP:=Ending->WP
abbrev OA:=Option Addr
abbrev BA:=ByteArray
abbrev ty_:Nat:=0
abbrev bg:Nat:=3
abbrev dx:Nat:=5
abbrev aq:Nat:=9
abbrev bJ:Nat:=22
abbrev nC:Nat:=24
abbrev au:Nat:=25
abbrev af:Nat:=27
abbrev bN:Nat:=32
abbrev ak:Nat:=35
abbrev fe:Nat:=38
abbrev al:Nat:=43
abbrev mC:Nat:=57
abbrev da:Nat:=62
abbrev aO:Nat:=75
abbrev aF:Nat:=77
abbrev fQ:Nat:=80
abbrev gQ:Nat:=81
abbrev oB:Nat:=83
abbrev lu:Nat:=84
abbrev ap:Nat:=85
abbrev um:Nat:=87
abbrev j2:Nat:=94
abbrev yR:Nat:=96
abbrev dl:Nat:=97
abbrev ul:Nat:=99
abbrev fI:Nat:=100
abbrev mH:Nat:=103
abbrev gi:Nat:=104
abbrev dU:Nat:=105
abbrev pR:Nat:=107
abbrev AV:Nat:=110
abbrev bB:Nat:=111
abbrev mF:Nat:=113
abbrev cJ:Nat:=114
abbrev mI:Nat:=116
abbrev sY:Nat:=118
abbrev cU:Nat:=121
abbrev FV:Nat:=123
abbrev j7:Nat:=125
abbrev FW:Nat:=130
abbrev vD:Nat:=132
abbrev aC:Nat:=154
abbrev cR:Nat:=156
abbrev cr:Nat:=158
abbrev jJ:Nat:=165
abbrev fP:Nat:=166
abbrev EZ:Nat:=167
abbrev gC:Nat:=172
abbrev ij:Nat:=175
abbrev eR:Nat:=177
abbrev aW:Nat:=180
abbrev bH:Nat:=200
abbrev nD:Nat:=203
abbrev kC:Nat:=204
abbrev zH:Nat:=206
abbrev jw:Nat:=207
abbrev kV:Nat:=208
abbrev oV:Nat:=209
abbrev AX:Nat:=210
abbrev iU:Nat:=211
abbrev i9:Nat:=213
abbrev ft:Nat:=214
abbrev uk:Nat:=216
abbrev lw:Nat:=218
abbrev lP:Nat:=220
abbrev mG:Nat:=223
abbrev rK:Nat:=225
abbrev zG:Nat:=228
abbrev pQ:Nat:=231
abbrev ah:Nat:=232
abbrev bP:Nat:=234
abbrev ay:Nat:=236
abbrev bE:Nat:=239
abbrev cQ:Nat:=241
abbrev aX:Nat:=244
abbrev aQ:Nat:=246
abbrev qz:Nat:=249
abbrev i7:Nat:=262
abbrev ar:Nat:=265
abbrev ff:Nat:=267
abbrev aL:Nat:=269
abbrev rJ:Nat:=274
abbrev Ep:Nat:=279
abbrev aT:Nat:=287
abbrev kB:Nat:=289
abbrev vC:Nat:=290
abbrev cI:Nat:=302
abbrev iV:Nat:=303
abbrev gF:Nat:=313
abbrev mB:Nat:=314
abbrev az:Nat:=323
abbrev bu:Nat:=325
abbrev mD:Nat:=326
abbrev fO:Nat:=328
abbrev gG:Nat:=332
abbrev mE:Nat:=334
abbrev AW:Nat:=336
abbrev C7:Nat:=338
abbrev jv:Nat:=349
abbrev hU:Nat:=359
abbrev Az:Nat:=360
abbrev CW:Nat:=362
abbrev ty_Empty:Nat:=434
abbrev lO:Nat:=436
abbrev kt:Nat:=4
abbrev qj:Nat:=10
abbrev mZ:Nat:=14
abbrev mW:Nat:=15
abbrev mX:Nat:=17
abbrev ig:Nat:=18
abbrev nN:Nat:=24
abbrev iZ:Nat:=26
abbrev dV:Nat:=29
abbrev fm:Nat:=31
abbrev bS:Nat:=32
abbrev l8:Nat:=33
abbrev oA:Nat:=34
abbrev jH:Nat:=37
abbrev aS:Nat:=41
abbrev fa:Nat:=42
abbrev gL:Nat:=44
abbrev l9:Nat:=45
abbrev dh:Nat:=46
abbrev tu:Nat:=47
abbrev wJ:Nat:=49
abbrev dw:Nat:=50
abbrev mY:Nat:=51
abbrev B8:Nat:=52
abbrev F3:Nat:=53
abbrev rB:Nat:=54
abbrev li:Nat:=55
abbrev eB:Nat:=64
abbrev cF:Nat:=65
abbrev iE:Nat:=66
abbrev dD:Nat:=67
abbrev iD:Nat:=68
abbrev eW:Nat:=69
abbrev ko:Nat:=70
abbrev ej:Nat:=72
abbrev bv:Nat:=73
abbrev bU:Nat:=74
abbrev dm:Nat:=75
abbrev iR:Nat:=76
abbrev lh:Nat:=77
abbrev bR:Nat:=78
abbrev lC:Nat:=79
abbrev gS:Nat:=80
abbrev bj:Nat:=81
abbrev fy:Nat:=82
abbrev wH:Nat:=83
abbrev fT:Nat:=89
abbrev kr:Nat:=90
abbrev dY:Nat:=91
abbrev po:Nat:=92
abbrev nL:Nat:=93
abbrev oz:Nat:=94
abbrev n4:Nat:=95
abbrev lD:Nat:=96
abbrev mT:Nat:=97
abbrev oS:Nat:=98
abbrev lH:Nat:=100
abbrev wK:Nat:=102
abbrev cE:Nat:=103
abbrev ct:Nat:=104
abbrev B5:Nat:=105
abbrev pr:Nat:=106
abbrev aI:Nat:=107
abbrev ie:Nat:=108
abbrev iX:Nat:=109
abbrev dM:Nat:=110
abbrev bI:Nat:=111
abbrev jG:Nat:=112
abbrev gn:Nat:=113
abbrev mm:Nat:=114
abbrev dO:Nat:=115
abbrev tW:Nat:=116
abbrev sC:Nat:=117
abbrev jF:Nat:=118
abbrev lF:Nat:=119
abbrev qP:Nat:=120
abbrev dn:Nat:=121
abbrev gI:Nat:=122
abbrev eA:Nat:=123
abbrev mV:Nat:=124
abbrev fi:Nat:=125
abbrev fx:Nat:=126
abbrev dS:Nat:=127
abbrev kj:Nat:=138
abbrev fC:Nat:=139
abbrev gd:Nat:=140
abbrev j5:Nat:=141
abbrev fj:Nat:=142
abbrev ci:Nat:=143
abbrev qi:Nat:=144
abbrev cq:Nat:=145
abbrev lG:Nat:=146
abbrev j6:Nat:=147
abbrev pp:Nat:=148
abbrev ez:Nat:=149
abbrev fZ:Nat:=150
abbrev wG:Nat:=151
abbrev tr:Nat:=152
abbrev xv:Nat:=153
abbrev kQ:Nat:=154
abbrev lI:Nat:=155
abbrev yl:Nat:=156
abbrev cS:Nat:=160
abbrev dz:Nat:=161
abbrev dF:Nat:=162
abbrev eG:Nat:=163
abbrev kR:Nat:=165
abbrev m0:Nat:=169
abbrev kl:Nat:=171
abbrev km:Nat:=172
abbrev AF:Nat:=173
abbrev ml:Nat:=174
abbrev AG:Nat:=175
abbrev iw:Nat:=176
abbrev fA:Nat:=177
abbrev iv:Nat:=178
abbrev fz:Nat:=179
abbrev l7:Nat:=180
abbrev sW:Nat:=181
abbrev l6:Nat:=184
abbrev iY:Nat:=185
abbrev gK:Nat:=186
abbrev fw:Nat:=187
abbrev l0:Nat:=188
abbrev FD:Nat:=189
abbrev B6:Nat:=190
abbrev dL:Nat:=191
abbrev eZ:Nat:=192
abbrev gf:Nat:=193
abbrev fk:Nat:=194
abbrev lE:Nat:=195
abbrev iW:Nat:=196
abbrev B7:Nat:=197
abbrev ji:Nat:=198
abbrev bO:Nat:=199
abbrev fX:Nat:=200
abbrev fK:Nat:=201
abbrev ql:Nat:=202
abbrev bl:Nat:=203
abbrev zm:Nat:=212
abbrev wI:Nat:=213
abbrev tU:Nat:=218
abbrev nZ:Nat:=219
abbrev i_zzZs:Nat:=220
abbrev Gy:Nat:=221
abbrev eF:Nat:=223
abbrev mU:Nat:=228
abbrev gp:Nat:=229
abbrev wF:Nat:=230
abbrev eY:Nat:=231
abbrev eX:Nat:=232
abbrev fR:Nat:=233
abbrev fB:Nat:=239
abbrev iC:Nat:=241
abbrev il:Nat:=242
abbrev nM:Nat:=243
abbrev eh:Nat:=244
abbrev tV:Nat:=245
abbrev F4:Nat:=246
abbrev FC:Nat:=247
abbrev jk:Nat:=248
abbrev i6:Nat:=257
abbrev dv:Nat:=263
abbrev dZ:Nat:=270
abbrev cA:Nat:=305
abbrev iy:Nat:=368
abbrev iz:Nat:=420
abbrev jK:Nat:=421
abbrev iA:Nat:=422
abbrev gU:Nat:=423
abbrev xw:Nat:=424
abbrev gJ:Nat:=425
abbrev gR:Nat:=434
abbrev gm:Nat:=435
abbrev iB:Nat:=436
abbrev gV:Nat:=437
abbrev iF:Nat:=438
abbrev fc:Nat:=439
abbrev gW:Nat:=440
abbrev gq:Nat:=441
end Go.Proofs.YtendaipfdnhnaaaGreatDoor


namespace Go.Proofs.YtendaipfdnhnaaaGreatDoor
open Go.Proofs Go.IntWalk Go.RowKit
set_option maxRecDepth 20000
variable {σ:Out} {w:World} {L L':List ai} {R:Ending->World->Prop}
def iO (R:EP)(e7:OA)(E e5:Nat)(w:World):Prop:=
 br (decide ((E:Int)>2147483647))
 (R (hQ (hV true)) w)
 (callE P qj #[hT e7 E e5] (λe e9=> ∃e8,e= hQ (hV e8)/\
 br (!e8)
 (R (hQ (hV true)) e9)
 (callE P mX #[hT e7 E e5] (λe f2=> ∃e1 c1,∃c2 b4,∃b8 b6,∃b9 O,∃a7 W,∃U b3,∃a6 c3 b7,e= hQ (.tuple #[hX e1,(N10.V {a0:=c1,a1:=c2,a2:=b4,a3:=b8,a4:=b6,a5:=b9,q6:=O,n6:=a7,c6:=W,q7:=U,n7:=b3,c7:=a6,a8:=c3,a9:=b7})])/\
 box f2 (N10.C {}) af λg f3=>
 st10 f3 g {a0:=c1,a1:=c2,a2:=b4,a3:=b8,a4:=b6,a5:=b9,q6:=O,n6:=a7,c6:=W,q7:=U,n7:=b3,c7:=a6,a8:=c3,a9:=b7} λf0=>
 tk f0 λy=>
 ∃e3 e0 e2,y.cell? (hZ g 7)=some (hT e3 e0 e2)/\
 callE P mW #[] (λe I=> ∃d5 c9,∃d0 d3,∃d4 c5,∃c8 d1,∃d2 c4,e= hQ (.agg #[hV d5,hV c9,hV d0,hV d3,hV d4,hV c5,hV c8,hV d1,hV d2,hV c4])/\
 SameC y I (hZ g 7) 1/\
 callE P mZ #[.agg #[hV d5,hV c9,hV d0,hV d3,hV d4,hV c5,hV c8,hV d1,hV d2,hV c4],hX e1] (λe e6=>F0 e λH=>
 SameC I e6 (hZ g 7) 1/\
 callE P ig #[hT H.q7 H.n7 H.c7,hT e3 e0 e2,hY 0] (λe f1=> ∃e4,e= hQ (hV e4)/\
 R (hQ (hV e4)) f1) e6) I) y) e9)) w)
theorem iO.sound {R x0q x0n x0c w}(h:iO R x0q x0n x0c w):callE P kt #[hT x0q x0n x0c] R w:=
 aH [(47,.dr (rpN [3,12,16,2,8,9,20,21]))] Tryz.func4 Tryz.call4 h
def nj (R:EP)(b4:OA)(a6 a7:Nat)(w:World):Prop:=
 box w (N10.C {}) af λb1 c1=>
 box c1 #[hT b4 a6 a7,hY 0,hY 0,hV false,hY 0] mC λb9 b6=>
 callE P dV #[kT (kE b9),hY 3,hY 4] (λe b8=> ∃E I,∃O g,∃y H,e= hQ (.tuple #[hT E I O,hT g y H])/\
 callE P iZ #[hT E I O,hX (hP #[10])] (λe b7=> ∃W,e= hQ (hX W)/\
 st10 b7 b1 {a0:=1,q7:=g,n7:=y,c7:=H} λU=>
 ldB10 U b1 λb5=>
 R (hQ (.tuple #[hX W,b5.V])) U) b8) b6
theorem nj.sound {R x0q x0n x0c w}(h:nj R x0q x0n x0c w):callE P mX #[hT x0q x0n x0c] R w:=
 cD Tryz.func17 Tryz.call17 h
def nP (R:EP)(E:OA)(g y:Nat)(w:World):Prop:=
 R (hQ (hV (decide ((g:Int)<=300)))) w
theorem nP.sound {R x0q x0n x0c w}(h:nP R x0q x0n x0c w):callE P qj #[hT x0q x0n x0c] R w:=
 cD Tryz.func10 Tryz.call10 h
namespace aB
def k9 (R:EP)(Xa:OA->Int->Bool->Nat->Nat->Bool->OA->Nat->Nat->Int->Int->WP)(g3:OA)(g7:Int)(g5:Bool)(g4 U:Nat)(g6:Bool)(e9:OA)(E g0 O:Nat)(e3:OA)(H f4:Nat)(I:BA)(g2 g1:Int)(w:World):Prop:=
 stV w (hZ O 8) (hY (i64.wrap ((E:Int)+1))) λf3=>
 stV f3 (hZ O 9) (hY (i64.wrap ((E:Int)+(H:Int)))) λe1=>
 0<=(0:Int)/\0<(H:Int)/\
 aA e3 λf2=>
 ∃y,e1.cell? (f2.add (Int.toNat 0*1))=some (hX y)/\
 ((I.size+y.size:Nat):Int)<=i64.max/\
 ∃b8 c5,∃b5 e4,(Instr.buildSlice al 1 #[(0,hX (I++y))]).run P e1= .ok (hT b8 c5 b5) e4/\
 ∃a7 e0,∃d1 e7,(Builtin.append_ #[al,al] al #[hT e9 E g0,hT b8 c5 b5]).run P e4= .ok (hT a7 e0 d1) e7/\
 tk e7 λf5=>
 ∃c1 b7 W,(∀w,(Instr.sliceAt al (hT e3 H f4) (some (hY 1)) none none).run P w= .ok (hT c1 b7 W) w)/\
 callE P nN #[hY (I.size:Int)] (λe f0=> ∃e6,e= hQ (hX e6)/\
 callE P kr #[hX e6,hT c1 b7 W] (λe e8=> ∃d5 b4 b9,e= hQ (hT d5 b4 b9)/\
 ∃d0 c9,∃c2 g,(Builtin.append_ #[al,al] al #[hT a7 e0 d1,hT d5 b4 b9]).run P e8= .ok (hT d0 c9 c2) g/\
 ∃d3 b3 c8,g.cell? (hZ U 7)=some (hT d3 b3 c8)/\
 ldB10 g O λf6=>
 ∃d4 d2,∃b6 e5,(Instr.buildSlice au 1 #[(0,f6.V)]).run P g= .ok (hT d4 d2 b6) e5/\
 ∃a6 c3,∃c4 e2,(Builtin.append_ #[au,au] au #[hT d3 b3 c8,hT d4 d2 b6]).run P e5= .ok (hT a6 c3 c4) e2/\
 stV e2 (hZ U 7) (hT a6 c3 c4) λf1=>
 Xa g3 g7 g5 g4 U g6 d0 c9 c2 g2 (i64.wrap (g1+1)) f1) f0) f5
def k8 (R:EP)(Xa:OA->Int->Bool->Nat->Nat->Bool->OA->Nat->Nat->Int->Int->WP)(c2:OA)(c8:Int)(c4:Bool)(c3 g:Nat)(c5:Bool)(W:OA)(a7 b6 b9:Nat)(a6:OA)(b4 b5:Nat)(b7:BA)(c1 b8:Int)(c9:Bool)(w:World):Prop:=
 br c9
 (∃y O,∃E b3,(Instr.buildSlice al 1 #[(0,hX (hP #[]))]).run P w= .ok (hT y O E) b3/\
 ∃H U,∃I V,(Builtin.append_ #[al,al] al #[hT W a7 b6,hT y O E]).run P b3= .ok (hT H U I) V/\
 stV V (hZ g 5) (hV true) λd0=>
 k9 R Xa c2 c8 c4 c3 g c5 H U I b9 a6 b4 b5 b7 c1 b8 d0)
 (k9 R Xa c2 c8 c4 c3 g c5 W a7 b6 b9 a6 b4 b5 b7 c1 b8 w)
def k7 (R:EP)(Xa:OA->Int->Bool->Nat->Nat->Bool->OA->Nat->Nat->Int->Int->WP)(b7:OA)(b5:Int)(b6:Bool)(b4 b8:Nat)(g:Bool)(y:OA)(O U:Nat)(a7:Int)(a6:Nat)(I:OA)(E H:Nat)(V:BA)(b3 W:Int)(w:World):Prop:=
 k8 R Xa b7 b5 b6 b4 b8 g y O U a6 I E H V b3 W ((decide (a7>0)) && g) w
def k6 (R:EP)(Xa:OA->Int->Bool->Nat->Nat->Bool->OA->Nat->Nat->Int->Int->WP)(b7:OA)(c2:Int)(b9:Bool)(b8 y:Nat)(c1:Bool)(O:OA)(W b3:Nat)(H:Int)(b5:Nat)(U:OA)(a6 a7:Nat)(b4 b6:Int)(w:World):Prop:=
 ∃g,w.cell? (hZ y 4)=some (hX g)/\
 ((g.size+(hP #[32]).size:Nat):Int)<=i64.max/\
 ∃I,w.cell? (hZ y 3)=some (hY I)/\
 br (decide (I >= 0))
 (∃V,w.cell? (hZ y 3)=some (hY V)/\
 callE P fT #[hY (i64.wrap (V+H))] (λe c3=> ∃E,e= hQ (hX E)/\
 ((E.size+(g++(hP #[32])).size:Nat):Int)<=i64.max/\
 k7 R Xa b7 c2 b9 b8 y c1 O W b3 H b5 U a6 a7 (E++(g++(hP #[32]))) b4 b6 c3) w)
 (k7 R Xa b7 c2 b9 b8 y c1 O W b3 H b5 U a6 a7 (g++(hP #[32])) b4 b6 w)
def k5 (R:EP)(Xa:OA->Int->Bool->Nat->Nat->Bool->OA->Nat->Nat->Int->Int->WP)(b5:OA)(b9:Int)(b7:Bool)(b6 g:Nat)(b8:Bool)(I:OA)(U a6:Nat)(a7:Int)(y:Nat)(O:OA)(V W:Nat)(b4 b3:Int)(w:World):Prop:=
 ∃H,w.cell? (hZ g 5)=some (hV H)/\
 br H
 (stV w (hZ g 5) (hV true) λc4=>
 k6 R Xa b5 b9 b7 b6 g b8 I U a6 a7 y O V W b4 b3 c4)
 (∃c1 E c2,w.cell? (hZ y 7)=some (hT c1 E c2)/\
 stV w (hZ g 5) (hV (decide ((E:Int)>1))) λc3=>
 k6 R Xa b5 b9 b7 b6 g b8 I U a6 a7 y O V W b4 b3 c3)
def k4 (R:EP)(Xa:OA->Int->Bool->Nat->Nat->Bool->OA->Nat->Nat->Int->Int->WP)(E:OA)(H:Int)(W:Bool)(b8 c1:Nat)(b9:Bool)(b3:OA)(b4 a6:Nat)(b5:Int)(g:Nat)(b6 b7:Int)(H8:Bool)(w:World):Prop:=
 br H8
 (aA E λH2=>
 ∃y4,w.cell? (H2.add 3)=some (hV y4)/\
 br y4
 (callE P dD #[kT E] (λe H6=> ∃d0 I,∃d1 o5,∃o3 p5,∃o2 p4,∃o6 i1,∃j0 l5,∃h7 m6,∃h8 q0 p3,e= hQ (.tuple #[hT d0 I d1,(N10.V {a0:=o5,a1:=o3,a2:=p5,a3:=o2,a4:=p4,a5:=o6,q6:=i1,n6:=j0,c6:=l5,q7:=h7,n7:=m6,c7:=h8,a8:=q0,a9:=p3})])/\
 box H6 (N10.C {}) af λe8 H3=>
 st10 H3 e8 {a0:=o5,a1:=o3,a2:=p5,a3:=o2,a4:=p4,a5:=o6,q6:=i1,n6:=j0,c6:=l5,q7:=h7,n7:=m6,c7:=h8,a8:=q0,a9:=p3} λH7=>
 stV H7 (hZ e8 8) (hY 1) λH1=>
 stV H1 (hZ e8 9) (hY (I:Int)) λH5=>
 tk H5 λy3=>
 ldB10 y3 e8 λH4=>
 ∃t9 q1,∃v4 x6,(Instr.buildSlice au 1 #[(0,H4.V)]).run P y3= .ok (hT t9 q1 v4) x6/\
 stV x6 (hZ g 7) (hT t9 q1 v4) λz4=>
 callE P aS #[kT E,hY 2] (λe x5=> ∃x3,e= hQ (hY x3)/\
 br (x3==1)
 (callE P fa #[kT E,hY (i64.wrap (H - 1)),hV W] (λe H0=> ∃c9 c2,∃c8 i3,∃i2 m5,∃k0 m1,∃m8 h3,∃h0 g7,∃g1 g2,∃g4 i8 m4,e= hQ (.tuple #[hT c9 c2 c8,(N10.V {a0:=i3,a1:=i2,a2:=m5,a3:=k0,a4:=m1,a5:=m8,q6:=h3,n6:=h0,c6:=g7,q7:=g1,n7:=g2,c7:=g4,a8:=i8,a9:=m4})])/\
 box H0 (N10.C {}) af λy y5=>
 st10 y5 y {a0:=i3,a1:=i2,a2:=m5,a3:=k0,a4:=m1,a5:=m8,q6:=h3,n6:=h0,c6:=g7,q7:=g1,n7:=g2,c7:=g4,a8:=i8,a9:=m4} λz2=>
 stV z2 (hZ y 8) (hY (i64.wrap ((I:Int)+2))) λG2=>
 stV G2 (hZ y 9) (hY (i64.wrap ((i64.wrap ((I:Int)+1))+(c2:Int)))) λG1=>
 tk G1 λa7=>
 ∃d4 d3 d2,a7.cell? (hZ g 7)=some (hT d4 d3 d2)/\
 ldB10 a7 y λe3=>
 (∃f0 f1,∃f3 U,(Instr.buildSlice al 1 #[(0,hX (hP #[]))]).run P a7= .ok (hT f0 f1 f3) U/\
 SameC a7 U (hZ y 0) 10/\
 SameC a7 U (hZ g 7) 1/\
 (∃f2 f4,∃f5 O,(Builtin.append_ #[al,al] al #[hT d0 I d1,hT f0 f1 f3]).run P U= .ok (hT f2 f4 f5) O/\
 SameC U O (hZ y 0) 10/\
 SameC U O (hZ g 7) 1/\
 (∃t5 r8,∃w5 e0,(Builtin.append_ #[al,al] al #[hT f2 f4 f5,hT c9 c2 c8]).run P O= .ok (hT t5 r8 w5) e0/\
 SameC O e0 (hZ y 0) 10/\
 SameC O e0 (hZ g 7) 1/\
 ∃s1 v8,∃w6 f6,(Instr.buildSlice au 1 #[(0,e3.V)]).run P e0= .ok (hT s1 v8 w6) f6/\
 SameC e0 f6 (hZ g 7) 1/\
 ∃q8 s8,∃r6 w9,(Builtin.append_ #[au,au] au #[hT d4 d3 d2,hT s1 v8 w6]).run P f6= .ok (hT q8 s8 r6) w9/\
 stV w9 (hZ g 7) (hT q8 s8 r6) λG3=>
 k5 R Xa E H W b8 c1 b9 b3 b4 a6 b5 g t5 r8 w5 b6 b7 G3)/\
 (∃q3 w3,∃r4 e2,(Instr.buildSlice au 1 #[(0,e3.V)]).run P O= .ok (hT q3 w3 r4) e2/\
 SameC O e2 (hZ g 7) 1/\
 ∃s7 s9,∃u8 e5,(Builtin.append_ #[al,al] al #[hT f2 f4 f5,hT c9 c2 c8]).run P e2= .ok (hT s7 s9 u8) e5/\
 SameC e2 e5 (hZ y 0) 10/\
 SameC e2 e5 (hZ g 7) 1/\
 ∃u2 r1,∃u0 w7,(Builtin.append_ #[au,au] au #[hT d4 d3 d2,hT q3 w3 r4]).run P e5= .ok (hT u2 r1 u0) w7/\
 stV w7 (hZ g 7) (hT u2 r1 u0) λG7=>
 k5 R Xa E H W b8 c1 b9 b3 b4 a6 b5 g s7 s9 u8 b6 b7 G7))/\
 (∃r9 w4,∃q2 d5,(Instr.buildSlice au 1 #[(0,e3.V)]).run P U= .ok (hT r9 w4 q2) d5/\
 SameC U d5 (hZ g 7) 1/\
 ∃t6 t2,∃v7 c4,(Builtin.append_ #[al,al] al #[hT d0 I d1,hT f0 f1 f3]).run P d5= .ok (hT t6 t2 v7) c4/\
 SameC d5 c4 (hZ y 0) 10/\
 SameC d5 c4 (hZ g 7) 1/\
 ∃u1 t4,∃v2 e6,(Builtin.append_ #[al,al] al #[hT t6 t2 v7,hT c9 c2 c8]).run P c4= .ok (hT u1 t4 v2) e6/\
 SameC c4 e6 (hZ y 0) 10/\
 SameC c4 e6 (hZ g 7) 1/\
 ∃s6 v5,∃t0 x4,(Builtin.append_ #[au,au] au #[hT d4 d3 d2,hT r9 w4 q2]).run P e6= .ok (hT s6 v5 t0) x4/\
 stV x4 (hZ g 7) (hT s6 v5 t0) λG4=>
 k5 R Xa E H W b8 c1 b9 b3 b4 a6 b5 g u1 t4 v2 b6 b7 G4))/\
 (∃r5 t8,∃q5 e1,(Instr.buildSlice au 1 #[(0,e3.V)]).run P a7= .ok (hT r5 t8 q5) e1/\
 SameC a7 e1 (hZ g 7) 1/\
 ∃t3 v9,∃v0 c5,(Instr.buildSlice al 1 #[(0,hX (hP #[]))]).run P e1= .ok (hT t3 v9 v0) c5/\
 SameC e1 c5 (hZ y 0) 10/\
 SameC e1 c5 (hZ g 7) 1/\
 ∃s3 v6,∃r7 c3,(Builtin.append_ #[al,al] al #[hT d0 I d1,hT t3 v9 v0]).run P c5= .ok (hT s3 v6 r7) c3/\
 SameC c5 c3 (hZ y 0) 10/\
 SameC c5 c3 (hZ g 7) 1/\
 ∃s5 w2,∃s2 e7,(Builtin.append_ #[al,al] al #[hT s3 v6 r7,hT c9 c2 c8]).run P c3= .ok (hT s5 w2 s2) e7/\
 SameC c3 e7 (hZ y 0) 10/\
 SameC c3 e7 (hZ g 7) 1/\
 ∃w1 r3,∃s4 y1,(Builtin.append_ #[au,au] au #[hT d4 d3 d2,hT r5 t8 q5]).run P e7= .ok (hT w1 r3 s4) y1/\
 stV y1 (hZ g 7) (hT w1 r3 s4) λG9=>
 k5 R Xa E H W b8 c1 b9 b3 b4 a6 b5 g s5 w2 s2 b6 b7 G9)) x5)
 (k5 R Xa E H W b8 c1 b9 b3 b4 a6 b5 g d0 I d1 b6 b7 x5)) z4) w)
 (callE P dV #[kT E,hY (i64.wrap (H - 1)),hY 2] (λe D1=> ∃o4 n3,∃n0 o0,∃p1 n1,e= hQ (.tuple #[hT o4 n3 n0,hT o0 p1 n1])/\
 stV D1 (hZ g 7) (hT o0 p1 n1) λz3=>
 k5 R Xa E H W b8 c1 b9 b3 b4 a6 b5 g o4 n3 n0 b6 b7 z3) w))
 (callE P dD #[kT E] (λe z1=> ∃m9 e9,∃n2 h9,∃h6 m3,∃j1 m2,∃h5 g0,∃g5 g6,∃h2 g3,∃h1 i0 h4,e= hQ (.tuple #[hT m9 e9 n2,(N10.V {a0:=h9,a1:=h6,a2:=m3,a3:=j1,a4:=m2,a5:=h5,q6:=g0,n6:=g5,c6:=g6,q7:=h2,n7:=g3,c7:=h1,a8:=i0,a9:=h4})])/\
 box z1 (N10.C {}) af λe4 D2=>
 st10 D2 e4 {a0:=h9,a1:=h6,a2:=m3,a3:=j1,a4:=m2,a5:=h5,q6:=g0,n6:=g5,c6:=g6,q7:=h2,n7:=g3,c7:=h1,a8:=i0,a9:=h4} λD3=>
 stV D3 (hZ e4 8) (hY 1) λG0=>
 stV G0 (hZ e4 9) (hY (e9:Int)) λG8=>
 tk G8 λw8=>
 ldB10 w8 e4 λG5=>
 ∃t7 q4,∃v3 y2,(Instr.buildSlice au 1 #[(0,G5.V)]).run P w8= .ok (hT t7 q4 v3) y2/\
 stV y2 (hZ g 7) (hT t7 q4 v3) λG6=>
 k6 R Xa E H W b8 c1 b9 b3 b4 a6 b5 g m9 e9 n2 b6 b7 G6) w)
def bl1 (R:EP)(Xa:OA->Int->Bool->Nat->Nat->Bool->OA->Nat->Nat->Int->Int->WP)(c1:OA)(b3:Int)(b9:Bool)(y b4:Nat)(a7:Bool)(E:OA)(H I:Nat)(a6 g:Int)(w:World):Prop:=
 br (decide (g<a6))
 (box w (N10.C {}) af λW b6=>
 st10 b6 W {a0:=4} λb7=>
 k4 R Xa c1 b3 b9 y b4 a7 E H I g W a6 g (a7 && (decide (b3>0))) b7)
 (tk w λO=>
 ldB10 O b4 λb8=>
 st10 O y b8 λU=>
 ldB10 U y λb5=>
 R (hQ (.tuple #[hT E H I,b5.V])) U)
def l1 (R:EP)(a6:OA)(V:Int)(W:Bool)(U a7:Nat)(O:Bool)(g:OA)(y E:Nat)(I H:Int)(w:World):Prop:=
 ∀X:OA->Int->Bool->Nat->Nat->Bool->OA->Nat->Nat->Int->Int->WP,(∀a6 V W U a7 O g y E I H w,bl1 R X a6 V W U a7 O g y E I H w->X a6 V W U a7 O g y E I H w)->X a6 V W U a7 O g y E I H w
def k3 (R:EP)(y:OA)(O:Int)(U:Bool)(I V:Nat)(H:Bool)(w:World):Prop:=
 callE P aS #[kT y,hY 3] (λe E=> ∃g,e= hQ (hY g)/\
 l1 R y O U I V H none 0 0 (i64.wrap (1+g)) 0 E) w
def k2 (R:EP)(g:OA)(H:Int)(I:Bool)(E O:Nat)(w:World):Prop:=
 callE P aS #[kT g,hY 2] (λe y=> ∃U,e= hQ (hY U)/\
 br (U==1)
 (aA g λa7=>
 ∃V,y.cell? (a7.add 3)=some (hV V)/\
 br V
 (aA g λa6=>
 ∃W,y.cell? (a6.add 4)=some (hY W)/\
 k3 R g H I E O (!(decide (W>0))) y)
 (k3 R g H I E O true y))
 (k3 R g H I E O false y)) w
def k1 (R:EP)(y:OA)(I:Int)(E:Bool)(H g:Nat)(w:World):Prop:=
 callE P aS #[kT y,hY 2] (λe O=> ∃W,e= hQ (hY W)/\
 br (W==1)
 (callE P aS #[kT y,hY 30] (λe b3=> ∃V,e= hQ (hY V)/\
 stV b3 (hZ g 3) (hY V) λa7=>
 stV a7 (hZ g 4) (hX (hP #[46])) λU=>
 br E
 (stV U (hZ g 4) (hX (hP #[41])) λa6=>
 k2 R y I E H g a6)
 (k2 R y I E H g U)) O)
 (k2 R y I E H g O)) w
end aB
def aB (R:EP)(I:OA)(H:Int)(y:Bool)(w:World):Prop:=
 box w (N10.C {}) af λb1 V=>
 box V (N10.C {}) af λg U=>
 st10 U g {a0:=3,a3:=(-1),a4:=(hP #[45])} λE=>
 br y
 (stV E (hZ g 4) (hX (hP #[43])) λO=>
 aB.k1 R I H y b1 g O)
 (aB.k1 R I H y b1 g E)
theorem aB.sound {R x0 x1 x2 w}(h:aB R x0 x1 x2 w):callE P iD #[kT x0,hY x1,hV x2] R w:=
 aH [(15,.mk [2,27,40,146,166] (aB.k1 R)),(31,.mk [2,27,40,146,166] (aB.k2 R)),(63,.mk [2,27,40,146,166,180] (aB.k3 R)),(703,.lp [2,27,40,146,166,180,203,1047,1067] (aB.bl1 R) λXa=> [(883,.mk [2,27,40,146,166,180,203,227,246,1047,1067,1220] (aB.k4 R Xa)),(92531,.dr (rpN [0,9,4,8,12,17])),(1960307,.dr (.pure 0 (.pure 3 (.pure 5 (.load 6 (.load 7 (.two 1 (.two 2 (.two 4 (.one 8 (.one 9 (.pure 10 (.pure 11 (.one 12 .done))))) 8 (.one 4 (.one 9 (.pure 10 (.pure 11 (.one 12 .done)))))) 8 (.one 2 (.one 4 (.one 9 (.pure 10 (.pure 11 (.one 12 .done))))))) 8 (.one 1 (.one 2 (.one 4 (.one 9 (.pure 10 (.pure 11 (.one 12 .done)))))))))))))),(3443,.mk [2,27,40,146,166,180,203,227,246,263,1047,1067] (aB.k5 R Xa)),(8051,.dr (rpN [0,9,4,8,12,17])),(499,.mk [2,27,40,146,166,180,203,227,246,263,1047,1067] (aB.k6 R Xa)),(2035,.mk [2,27,40,146,166,180,203,227,246,263,401,1047,1067] (aB.k7 R Xa)),(7155,.mk [2,27,40,146,166,180,203,246,263,401,1047,1067,3180] (aB.k8 R Xa)),(4083,.mk [2,27,40,146,166,180,203,246,263,401,1047,1067] (aB.k9 R Xa)),(24563,.dr (rpN [0,3,6,12,15,11,20,23,24]))]),(383,.dr (rpN [0,6,4,11]))] Tryz.func68 Tryz.call68 h
namespace aY
def k2 (R:EP)(d1:OA)(c8:Nat)(g:BA)(w:World):Prop:=
 callE P iE #[kT d1] (λe d0=> ∃H y,∃E I,e= hQ (.tuple #[hT H y E,hX I])/\
 (((hP #[96,96,96]).size+g.size:Nat):Int)<=i64.max/\
 ∃b8 W,∃b6 c2,(Instr.buildSlice al 1 #[(0,hX ((hP #[96,96,96])++g))]).run P d0= .ok (hT b8 W b6) c2/\
 ∃b7 b3,∃b5 c5,(Builtin.append_ #[al,al] al #[hT b8 W b6,hT H y E]).run P c2= .ok (hT b7 b3 b5) c5/\
 ∃b9 a7,∃O c1,(Instr.buildSlice al 1 #[(0,hX (hP #[96,96,96]))]).run P c5= .ok (hT b9 a7 O) c1/\
 ∃b4 U,∃a6 c4,(Builtin.append_ #[al,al] al #[hT b7 b3 b5,hT b9 a7 O]).run P c1= .ok (hT b4 U a6) c4/\
 st10 c4 c8 {a0:=7,a1:=I,a2:=g} λc3=>
 ldB10 c3 c8 λc9=>
 R (hQ (.tuple #[hT b4 U a6,c9.V])) c3) w
def k3 (R:EP)(d1:OA)(b9:Nat)(c2:OA)(d0 c3 g:Nat)(w:World):Prop:=
 callE P aS #[kT d1,hY 2] (λe c8=> ∃b8,e= hQ (hY b8)/\
 stV c8 (hZ g 0) (hY 5) λc1=>
 stV c1 (hZ g 3) (hY (i64.wrap (1+b8))) λc4=>
 tk c4 λy=>
 ∃E,y.cell? (hZ g 3)=some (hY E)/\
 ∃I,y.cell? (hZ g 3)=some (hY I)/\
 0<=(i64.wrap (E - 1))/\(i64.wrap (E - 1))<=I/\I<=((hP #[61,45]).size:Int)/\
 ldB10 y g λc9=>
 callE P jH #[hX ((hP #[61,45]).extract (Int.toNat (i64.wrap (E - 1))) (Int.toNat I)),hY 3] (λe U=> ∃b6,e= hQ (hX b6)/\
 SameC y U (hZ g 0) 10/\
 ∃a7 b4,∃a6 H,(Instr.buildSlice al 1 #[(0,hX b6)]).run P U= .ok (hT a7 b4 a6) H/\
 SameC U H (hZ g 0) 10/\
 ∃b3 W,∃b5 O,(Builtin.append_ #[al,al] al #[hT c2 d0 c3,hT a7 b4 a6]).run P H= .ok (hT b3 W b5) O/\
 SameC H O (hZ g 0) 10/\
 st10 O b9 c9 λb7=>
 ldB10 b7 b9 λc5=>
 R (hQ (.tuple #[hT b3 W b5,c5.V])) b7) y) w
def bl1 (R:EP)(Xa:Nat->OA->Nat->Nat->OA->Nat->Nat->OA->Nat->Nat->Int->Int->WP)(E:Nat)(c1:OA)(b4 b9:Nat)(c2:OA)(b8 b7:Nat)(O:OA)(b3 c5:Nat)(b5 g:Int)(w:World):Prop:=
 br (decide (g<b5))
 (0<=g/\g<(b3:Int)/\
 aA O λc9=>
 ∃y,w.cell? (c9.add (Int.toNat g*1))=some (hX y)/\
 (((hP #[62,32]).size+y.size:Nat):Int)<=i64.max/\
 ∃a7 W,∃a6 c3,(Instr.buildSlice al 1 #[(0,hX ((hP #[62,32])++y))]).run P w= .ok (hT a7 W a6) c3/\
 ∃U H,∃I b6,(Builtin.append_ #[al,al] al #[hT c2 b8 b7,hT a7 W a6]).run P c3= .ok (hT U H I) b6/\
 Xa E c1 b4 b9 U H I O b3 c5 b5 (i64.wrap (g+1)) b6)
 (st10 w E {a0:=2,q7:=c1,n7:=b4,c7:=b9} λc4=>
 ldB10 c4 E λc8=>
 R (hQ (.tuple #[hT c2 b8 b7,c8.V])) c4)
def l1 (R:EP)(b3:Nat)(a7:OA)(H W:Nat)(O:OA)(U V:Nat)(E:OA)(y g:Nat)(a6 I:Int)(w:World):Prop:=
 ∀X:Nat->OA->Nat->Nat->OA->Nat->Nat->OA->Nat->Nat->Int->Int->WP,(∀b3 a7 H W O U V E y g a6 I w,bl1 R X b3 a7 H W O U V E y g a6 I w->X b3 a7 H W O U V E y g a6 I w)->X b3 a7 H W O U V E y g a6 I w
def k4 (R:EP)(e7:OA)(f4:Int)(f3:Bool)(g:Nat)(f1:Bool)(w:World):Prop:=
 br f1
 (callE P iD #[kT e7,hY (i64.wrap (f4 - 1)),hV f3] (λe e9=> ∃e1 d5,∃e2 c4,∃b6 b8,∃c1 c8,∃d2 H,∃U y,∃b4 a6,∃b3 d1 c3,e= hQ (.tuple #[hT e1 d5 e2,(N10.V {a0:=c4,a1:=b6,a2:=b8,a3:=c1,a4:=c8,a5:=d2,q6:=H,n6:=U,c6:=y,q7:=b4,n7:=a6,c7:=b3,a8:=d1,a9:=c3})])/\
 st10 e9 g {a0:=c4,a1:=b6,a2:=b8,a3:=c1,a4:=c8,a5:=d2,q6:=H,n6:=U,c6:=y,q7:=b4,n7:=a6,c7:=b3,a8:=d1,a9:=c3} λe5=>
 ldB10 e5 g λf0=>
 R (hQ (.tuple #[hT e1 d5 e2,f0.V])) e5) w)
 (callE P dD #[kT e7] (λe f2=> ∃e3 e4,∃e0 d3,∃d4 c2,∃b9 d0,∃c5 W,∃a7 b5,∃E O,∃I b7 c9,e= hQ (.tuple #[hT e3 e4 e0,(N10.V {a0:=d3,a1:=d4,a2:=c2,a3:=b9,a4:=d0,a5:=c5,q6:=W,n6:=a7,c6:=b5,q7:=E,n7:=O,c7:=I,a8:=b7,a9:=c9})])/\
 st10 f2 g {a0:=d3,a1:=d4,a2:=c2,a3:=b9,a4:=d0,a5:=c5,q6:=W,n6:=a7,c6:=b5,q7:=E,n7:=O,c7:=I,a8:=b7,a9:=c9} λe6=>
 ldB10 e6 g λe8=>
 R (hQ (.tuple #[hT e3 e4 e0,e8.V])) e6) w)
def k1 (R:EP)(g:OA)(b3:Int)(h6:Bool)(y:Nat)(E:Int)(w:World):Prop:=
 br (E==2)
 (callE P aS #[kT g,hY 6] (λe m3=> ∃a6,e= hQ (hY a6)/\
 callE P eB #[kT g] (λe k0=> ∃W e7,∃e3 e0,e= hQ (.tuple #[hX W,hT e7 e3 e0])/\
 callE P jH #[hX (hP #[35]),hY (i64.wrap (1+a6))] (λe i1=> ∃I,e= hQ (hX I)/\
 ((I.size+(hP #[32]).size:Nat):Int)<=i64.max/\
 (((I++(hP #[32])).size+W.size:Nat):Int)<=i64.max/\
 ∃f1 f0,∃g0 g6,(Instr.buildSlice al 1 #[(0,hX ((I++(hP #[32]))++W))]).run P i1= .ok (hT f1 f0 g0) g6/\
 st10 g6 y {a0:=5,a3:=(i64.wrap (1+a6)),q7:=e7,n7:=e3,c7:=e0} λg7=>
 ldB10 g7 y λi3=>
 R (hQ (.tuple #[hT f1 f0 g0,i3.V])) g7) k0) m3) w)
 (br (E==3)
 (∃g1 f6,∃g2 h4,(Instr.buildSlice al 1 #[(0,hX (hP #[42,42,42]))]).run P w= .ok (hT g1 f6 g2) h4/\
 st10 h4 y {a0:=9} λh2=>
 ldB10 h2 y λl5=>
 R (hQ (.tuple #[hT g1 f6 g2,l5.V])) h2)
 (br (E==4)
 (callE P aS #[kT g,hY 2] (λe O=> ∃g5,e= hQ (hY g5)/\
 br (g5==1)
 (aA g λi8=>
 ∃h3,O.cell? (i8.add 3)=some (hV h3)/\
 br (!h3)
 (callE P cF #[kT g] (λe m1=> ∃h0,e= hQ (hX h0)/\
 k2 R g y h0 m1) O)
 (k2 R g y (hP #[]) O))
 (k2 R g y (hP #[]) O)) w)
 (br (E==5)
 (callE P dD #[kT g] (λe m5=> ∃e6 e4,∃e1 c9,∃d5 c2,∃d0 d1,∃c3 b8,∃b6 b5,∃b7 b4,∃b9 d2 c5,e= hQ (.tuple #[hT e6 e4 e1,(N10.V {a0:=c9,a1:=d5,a2:=c2,a3:=d0,a4:=d1,a5:=c3,q6:=b8,n6:=b6,c6:=b5,q7:=b7,n7:=b4,c7:=b9,a8:=d2,a9:=c5})])/\
 box m5 (N10.C {}) af λH m2=>
 st10 m2 H {a0:=c9,a1:=d5,a2:=c2,a3:=d0,a4:=d1,a5:=c3,q6:=b8,n6:=b6,c6:=b5,q7:=b7,n7:=b4,c7:=b9,a8:=d2,a9:=c5} λa7=>
 aA g λj0=>
 ∃g4,a7.cell? (j0.add 3)=some (hV g4)/\
 br g4
 (callE P eB #[kT g] (λe i2=> ∃e9 e8,∃e5 e2,e= hQ (.tuple #[hX e9,hT e8 e5 e2])/\
 ∃f4 f2,∃f3 h5,(Instr.buildSlice al 1 #[(0,hX e9)]).run P i2= .ok (hT f4 f2 f3) h5/\
 st10 h5 H {q7:=e8,n7:=e5,c7:=e2} λm4=>
 k3 R g y f4 f2 f3 H m4) a7)
 (k3 R g y e6 e4 e1 H a7)) w)
 (br (E==6)
 (aA g λj1=>
 ∃h1,w.cell? (j1.add 4)=some (hY h1)/\
 aA g λm6=>
 stV w ((m6.add 4).add 0) (hY (i64.wrap (h1+1))) λi0=>
 callE P dV #[kT g,hY (i64.wrap (b3 - 1)),hY 3] (λe f5=> ∃d3 U,∃c4 d4,∃c1 c8,e= hQ (.tuple #[hT d3 U c4,hT d4 c1 c8])/\
 aA g λh9=>
 ∃g3,f5.cell? (h9.add 4)=some (hY g3)/\
 aA g λh7=>
 stV f5 ((h7.add 4).add 0) (hY (i64.wrap (g3 - 1))) λh8=>
 l1 R y d4 c1 c8 none 0 0 d3 U c4 (U:Int) 0 h8) i0)
 (br (E==7)
 (k4 R g b3 h6 y true w)
 (k4 R g b3 h6 y (E==8) w))))))
end aY
def aY (R:EP)(g:OA)(E:Int)(O:Bool)(w:World):Prop:=
 box w (N10.C {}) af λb1 U=>
 aA g λa3=>
 ∃V,U.cell? (a3.add 2)=some (hY V)/\
 aA g λa5=>
 stV U ((a5.add 2).add 0) (hY (i64.wrap (V+1))) λW=>
 callE P aS #[kT g,hY 9] (λe y=> ∃H,e= hQ (hY H)/\
 aA g λa9=>
 ∃I,y.cell? (a9.add 2)=some (hY I)/\
 br ((decide (I>60))||((decide (E<=0)) && (decide (H >= 6))))
 (aY.k1 R g E O b1 0 y)
 (aY.k1 R g E O b1 H y)) W
theorem aY.sound {R x0 x1 x2 w}(h:aY R x0 x1 x2 w):callE P fa #[kT x0,hY x1,hV x2] R w:=
 aH [(31,.mk [2,27,40,146,167] (aY.k1 R)),(61359,.mk [2,146,241] (aY.k2 R)),(245679,.mk [2,146,303,326] (aY.k3 R)),(769967,.dr (rpN [0,3,12,7,9,16,18,31,23,26,29,33,38])),(23003055,.lp [146,403,423,3163,3187,3207] (aY.bl1 R) λXa=> []),(524207,.mk [2,27,40,146,3460] (aY.k4 R))] Tryz.func42 Tryz.call42 h
namespace bT
def k1 (R:EP)(Xa:OA->Int->OA->Nat->Nat->OA->Nat->Nat->Int->Int->WP)(d3:OA)(d4:Int)(c2:OA)(g d1:Nat)(d2:OA)(c8 c5:Nat)(b9:OA)(I b8 E:Nat)(c9 c4:Int)(w:World):Prop:=
 stV w (hZ E 8) (hY (i64.wrap ((g:Int)+1))) λc1=>
 stV c1 (hZ E 9) (hY (i64.wrap ((g:Int)+(I:Int)))) λc3=>
 ∃W b4,∃a7 y,(Builtin.append_ #[al,al] al #[hT c2 g d1,hT b9 I b8]).run P c3= .ok (hT W b4 a7) y/\
 ldB10 y E λd0=>
 ∃b3 U,∃b5 b6,(Instr.buildSlice au 1 #[(0,d0.V)]).run P y= .ok (hT b3 U b5) b6/\
 ∃H a6,∃O b7,(Builtin.append_ #[au,au] au #[hT d2 c8 c5,hT b3 U b5]).run P b6= .ok (hT H a6 O) b7/\
 Xa d3 d4 W b4 a7 H a6 O c9 (i64.wrap (c4+1)) b7
def bl1 (R:EP)(Xa:OA->Int->OA->Nat->Nat->OA->Nat->Nat->Int->Int->WP)(b6:OA)(b7:Int)(O:OA)(I b3:Nat)(U:OA)(a6 W:Nat)(a7 g:Int)(w:World):Prop:=
 br (decide (g<a7))
 ((2:Int)≠0/\
 callE P fa #[kT b6,hY b7,hV ((Int.tmod g 2)==1)] (λe e8=> ∃E H,∃y d2,∃d3 c5,∃d0 c8,∃d1 b8,∃c3 b9,∃c1 c4,∃c2 d4 c9,e= hQ (.tuple #[hT E H y,(N10.V {a0:=d2,a1:=d3,a2:=c5,a3:=d0,a4:=c8,a5:=d1,q6:=b8,n6:=c3,c6:=b9,q7:=c1,n7:=c4,c7:=c2,a8:=d4,a9:=c9})])/\
 box e8 (N10.C {}) af λb4 e9=>
 st10 e9 b4 {a0:=d2,a1:=d3,a2:=c5,a3:=d0,a4:=c8,a5:=d1,q6:=b8,n6:=c3,c6:=b9,q7:=c1,n7:=c4,c7:=c2,a8:=d4,a9:=c9} λe5=>
 br (decide (g>0))
 (∃e0 d5,∃e2 e7,(Instr.buildSlice al 1 #[(0,hX (hP #[]))]).run P e5= .ok (hT e0 d5 e2) e7/\
 ∃e1 e4,∃e3 e6,(Builtin.append_ #[al,al] al #[hT O I b3,hT e0 d5 e2]).run P e7= .ok (hT e1 e4 e3) e6/\
 k1 R Xa b6 b7 e1 e4 e3 U a6 W E H y b4 a7 g e6)
 (k1 R Xa b6 b7 O I b3 U a6 W E H y b4 a7 g e5)) w)
 (R (hQ (.tuple #[hT O I b3,hT U a6 W])) w)
def l1 (R:EP)(a6:OA)(W:Int)(H:OA)(g O:Nat)(V:OA)(E y:Nat)(I U:Int)(w:World):Prop:=
 ∀X:OA->Int->OA->Nat->Nat->OA->Nat->Nat->Int->Int->WP,(∀a6 W H g O V E y I U w,bl1 R X a6 W H g O V E y I U w->X a6 W H g O V E y I U w)->X a6 W H g O V E y I U w
end bT
def bT (R:EP)(y:OA)(E H:Int)(w:World):Prop:=
 callE P aS #[kT y,hY H] (λe I=> ∃g,e= hQ (hY g)/\
 bT.l1 R y E none 0 0 none 0 0 (i64.wrap (1+g)) 0 I) w
theorem bT.sound {R x0 x1 x2 w}(h:bT R x0 x1 x2 w):callE P dV #[kT x0,hY x1,hY x2] R w:=
 aH [(87,.lp [2,27,163,183,327,347] (bT.bl1 R) λXa=> [(243,.mk [2,27,163,183,223,246,327,347] (bT.k1 R Xa))])] Tryz.func29 Tryz.call29 h
namespace bX
def bl2 (R:EP)(Xa:OA->Nat->Nat->OA->Nat->Nat->Int->Int->WP)(e6:OA->Nat->Nat->OA->Nat->Nat->BA->Int->Int->OA->Nat->Nat->Int->Int->WP)(d3:OA)(d2 y:Nat)(c3:OA)(c9 c2:Nat)(d4:BA)(d0 c4:Int)(b7:OA)(b9 d5:Nat)(c8 g:Int)(w:World):Prop:=
 br (decide (g<c8))
 (0<=g/\g<(b9:Int)/\
 aA b7 λe0=>
 ldA10 w (e0.add (Int.toNat g*10)) λe2=>
 box w (N10.C {}) af λc1 e5=>
 st10 e5 c1 e2 λE=>
 ∃b4 b6 b8,E.cell? (hZ y 7)=some (hT b4 b6 b8)/\
 ldB10 E c1 λe4=>
 callE P fm #[hT b4 b6 b8,e4.V] (λe e3=> ∃a6 H a7,e= hQ (hT a6 H a7)/\
 stV e3 (hZ y 7) (hT a6 H a7) λe1=>
 e6 d3 d2 y c3 c9 c2 d4 d0 c4 b7 b9 d5 c8 (i64.wrap (g+1)) e1) E)
 (∃O b3,∃b5 d1,(Instr.buildSlice al 1 #[(0,hX d4)]).run P w= .ok (hT O b3 b5) d1/\
 ∃U W,∃I c5,(Builtin.append_ #[al,al] al #[hT c3 c9 c2,hT O b3 b5]).run P d1= .ok (hT U W I) c5/\
 Xa d3 d2 y U W I d0 (i64.wrap (c4+1)) c5)
def l2 (R:EP)(Xa:OA->Nat->Nat->OA->Nat->Nat->Int->Int->WP)(b4:OA)(a7 b5:Nat)(I:OA)(H U:Nat)(b3:BA)(O a6:Int)(g:OA)(E y:Nat)(W V:Int)(w:World):Prop:=
 ∀X:OA->Nat->Nat->OA->Nat->Nat->BA->Int->Int->OA->Nat->Nat->Int->Int->WP,(∀b4 a7 b5 I H U b3 O a6 g E y W V w,bl2 R Xa X b4 a7 b5 I H U b3 O a6 g E y W V w->X b4 a7 b5 I H U b3 O a6 g E y W V w)->X b4 a7 b5 I H U b3 O a6 g E y W V w
def k1 (R:EP)(Xa:OA->Nat->Nat->OA->Nat->Nat->Int->Int->WP)(a7:OA)(W b3:Nat)(E:OA)(y U:Nat)(a6:BA)(I:OA)(g O:Nat)(H V:Int)(w:World):Prop:=
 l2 R Xa a7 W b3 E y U a6 H V I g O (g:Int) 0 w
def bl1 (R:EP)(Xa:OA->Nat->Nat->OA->Nat->Nat->Int->Int->WP)(b5:OA)(E g:Nat)(a6:OA)(a7 W:Nat)(b3 y:Int)(w:World):Prop:=
 br (decide (y<b3))
 (callE P eB #[kT b5] (λe b4=> ∃U I,∃O H,e= hQ (.tuple #[hX U,hT I O H])/\
 br (decide (y>0))
 (∃b9 c1 b7,b4.cell? (hZ g 7)=some (hT b9 c1 b7)/\
 callE P fm #[hT b9 c1 b7,(N10.V {a0:=21})] (λe c8=> ∃c2 b8 b6,e= hQ (hT c2 b8 b6)/\
 stV c8 (hZ g 7) (hT c2 b8 b6) λc9=>
 k1 R Xa b5 E g a6 a7 W U I O H b3 y c9) b4)
 (k1 R Xa b5 E g a6 a7 W U I O H b3 y b4)) w)
 (tk w λc3=>
 ldB10 c3 g λc5=>
 st10 c3 E c5 λc4=>
 ldB10 c4 E λd0=>
 R (hQ (.tuple #[hT a6 a7 W,d0.V])) c4)
def l1 (R:EP)(U:OA)(O V:Nat)(I:OA)(g H:Nat)(E y:Int)(w:World):Prop:=
 ∀X:OA->Nat->Nat->OA->Nat->Nat->Int->Int->WP,(∀U O V I g H E y w,bl1 R X U O V I g H E y w->X U O V I g H E y w)->X U O V I g H E y w
end bX
def bX (R:EP)(E:OA)(w:World):Prop:=
 box w (N10.C {}) af λb1 U=>
 box U (N10.C {}) af λy O=>
 st10 O y {a0:=6} λH=>
 callE P aS #[kT E,hY 3] (λe I=> ∃g,e= hQ (hY g)/\
 bX.l1 R E b1 y none 0 0 (i64.wrap (1+g)) 0 I) H
theorem bX.sound {R x0 w}(h:bX R x0 w):callE P dD #[kT x0] R w:=
 aH [(87,.lp [2,66,86,103,287,307] (bX.bl1 R) λXa=> [(243,.mk [2,66,86,103,141,163,287,307] (bX.k1 R Xa)),(1395,.lp [2,66,86,103,141,287,307,603,627,647] (bX.bl2 R Xa) λg=> [])]),(47,.dr (rpN [0,6,4,11]))] Tryz.func67 Tryz.call67 h
def nQ (R:EP)(y:Int)(w:World):Prop:=
 callE P jH #[hX (hP #[32]),hY y] (λe E=> ∃g,e= hQ (hX g)/\
 R (hQ (hX g)) E) w
theorem nQ.sound {R x0 w}(h:nQ R x0 w):callE P nN #[hY x0] R w:=
 cD Tryz.func24 Tryz.call24 h
namespace dk
def bl1 (R:EP)(Xa:OA->OA->Nat->Nat->Int->Int->WP)(U g:OA)(y H:Nat)(b8 b7:Int)(w:World):Prop:=
 br (decide (b7<b8))
 (callE P aS #[kT U,hY 3] (λe c4=> ∃b9,e= hQ (hY b9)/\
 callE P nN #[hY b9] (λe c2=> ∃O,e= hQ (hX O)/\
 callE P cF #[kT U] (λe c1=> ∃E,e= hQ (hX E)/\
 ((O.size+E.size:Nat):Int)<=i64.max/\
 ∃V a6,∃b4 b5,(Instr.buildSlice al 1 #[(0,hX (O++E))]).run P c1= .ok (hT V a6 b4) b5/\
 ∃a7 W,∃b3 b6,(Builtin.append_ #[al,al] al #[hT g y H,hT V a6 b4]).run P b5= .ok (hT a7 W b3) b6/\
 Xa U a7 W b3 b8 (i64.wrap (b7+1)) b6) c2) c4) w)
 (callE P iZ #[hT g y H,hX (hP #[10])] (λe c3=> ∃I,e= hQ (hX I)/\
 ((I.size+(hP #[10]).size:Nat):Int)<=i64.max/\
 R (hQ (.tuple #[hT g y H,hX (I++(hP #[10]))])) c3) w)
def l1 (R:EP)(O g:OA)(y H:Nat)(I E:Int)(w:World):Prop:=
 ∀X:OA->OA->Nat->Nat->Int->Int->WP,(∀O g y H I E w,bl1 R X O g y H I E w->X O g y H I E w)->X O g y H I E w
end dk
def dk (R:EP)(g:OA)(w:World):Prop:=
 callE P cF #[kT g] (λe W=> ∃U,e= hQ (hX U)/\
 ∃E y,∃H I,(Instr.buildSlice al 1 #[(0,hX U)]).run P W= .ok (hT E y H) I/\
 callE P aS #[kT g,hY 3] (λe V=> ∃O,e= hQ (hY O)/\
 dk.l1 R g E y H O 0 V) I) w
theorem dk.sound {R x0 w}(h:dk R x0 w):callE P iE #[kT x0] R w:=
 aH [(43,.lp [2,83,187,207] (dk.bl1 R) λXa=> [])] Tryz.func66 Tryz.call66 h
def fV (R:EP)(g:Int)(w:World):Prop:=
 br (decide (g<10))
 (0<=g/\g<=(i64.wrap (g+1))/\(i64.wrap (g+1))<=((hP #[48,49,50,51,52,53,54,55,56,57]).size:Int)/\
 R (hQ (hX ((hP #[48,49,50,51,52,53,54,55,56,57]).extract (Int.toNat g) (Int.toNat (i64.wrap (g+1)))))) w)
 ((10:Int)≠0/\
 callE P fT #[hY (i64.wrap (Int.tdiv g 10))] (λe I=> ∃y,e= hQ (hX y)/\
 (10:Int)≠0/\
 callE P fT #[hY (Int.tmod g 10)] (λe H=> ∃E,e= hQ (hX E)/\
 ((y.size+E.size:Nat):Int)<=i64.max/\
 R (hQ (hX (y++E))) H) I) w)
theorem fV.sound {R x0 w}(h:fV R x0 w):callE P fT #[hY x0] R w:=
 cD Tryz.func89 Tryz.call89 h
namespace dA
def k1 (R:EP)(Xa:BA->OA->Nat->Nat->OA->Nat->Nat->Int->Int->WP)(b9:BA)(b6:OA)(a6 b4:Nat)(b8:BA)(a7:OA)(W b3:Nat)(b7 b5:Int)(w:World):Prop:=
 ∃y g,∃E U,(Instr.buildSlice al 1 #[(0,hX b8)]).run P w= .ok (hT y g E) U/\
 ∃O I,∃H V,(Builtin.append_ #[al,al] al #[hT b6 a6 b4,hT y g E]).run P U= .ok (hT O I H) V/\
 Xa b9 O I H a7 W b3 b7 (i64.wrap (b5+1)) V
def bl1 (R:EP)(Xa:BA->OA->Nat->Nat->OA->Nat->Nat->Int->Int->WP)(E:BA)(V:OA)(I U:Nat)(O:OA)(H a6:Nat)(W g:Int)(w:World):Prop:=
 br (decide (g<W))
 (0<=g/\g<(H:Int)/\
 aA O λa1=>
 ∃y,w.cell? (a1.add (Int.toNat g*1))=some (hX y)/\
 br (!(y.toList==(hP #[]).toList))
 (((E.size+y.size:Nat):Int)<=i64.max/\
 k1 R Xa E V I U (E++y) O H a6 W g w)
 (k1 R Xa E V I U y O H a6 W g w))
 (R (hQ (hT V I U)) w)
def l1 (R:EP)(W:BA)(U:OA)(y I:Nat)(E:OA)(g H:Nat)(V O:Int)(w:World):Prop:=
 ∀X:BA->OA->Nat->Nat->OA->Nat->Nat->Int->Int->WP,(∀W U y I E g H V O w,bl1 R X W U y I E g H V O w->X W U y I E g H V O w)->X W U y I E g H V O w
end dA
def dA (R:EP)(H:BA)(y:OA)(g E:Nat)(w:World):Prop:=
 dA.l1 R H none 0 0 y g E (g:Int) 0 w
theorem dA.sound {R x0 x1q x1n x1c w}(h:dA R x0 x1q x1n x1c w):callE P kr #[hX x0,hT x1q x1n x1c] R w:=
 aH [(43,.lp [1,103,163,187,207] (dA.bl1 R) λXa=> [(115,.mk [1,103,141,163,187,207] (dA.k1 R Xa))])] Tryz.func90 Tryz.call90 h
namespace dj
def bl1 (R:EP)(Xa:OA->BA->OA->Nat->Nat->Int->Int->WP)(E:OA)(y:BA)(e3:OA)(e4 e2:Nat)(W a7:Int)(w:World):Prop:=
 br (decide (a7<W))
 (callE P cF #[kT E] (λe f6=> ∃g,e= hQ (hX g)/\
 ∃b5 b4,∃b6 e5,(Instr.buildSlice au 1 #[(0,(N10.V {a0:=20,a1:=g}))]).run P f6= .ok (hT b5 b4 b6) e5/\
 callE P fm #[hT e3 e4 e2,.agg #[hY 20,hX (hP #[32]),hX (hP #[]),hY 0,hX (hP #[]),hV false,hT none 0 0,hT none 0 0,hY 0,hY 0]] (λe e8=> ∃H I O,e= hQ (hT H I O)/\
 callE P aS #[kT E,hY 7] (λe U=> ∃b3,e= hQ (hY b3)/\
 br (b3==0)
 ((((hP #[32,42]).size+g.size:Nat):Int)<=i64.max/\
 ((((hP #[32,42])++g).size+(hP #[42]).size:Nat):Int)<=i64.max/\
 ((y.size+(((hP #[32,42])++g)++(hP #[42])).size:Nat):Int)<=i64.max/\
 callE P fm #[hT H I O,(N10.V {a0:=24,q7:=b5,n7:=b4,c7:=b6})] (λe e7=> ∃c3 b8 d1,e= hQ (hT c3 b8 d1)/\
 Xa E (y++(((hP #[32,42])++g)++(hP #[42]))) c3 b8 d1 W (i64.wrap (a7+1)) e7) U)
 (br (b3==1)
 ((((hP #[32,42,42]).size+g.size:Nat):Int)<=i64.max/\
 ((((hP #[32,42,42])++g).size+(hP #[42,42]).size:Nat):Int)<=i64.max/\
 ((y.size+(((hP #[32,42,42])++g)++(hP #[42,42])).size:Nat):Int)<=i64.max/\
 callE P fm #[hT H I O,(N10.V {a0:=25,q7:=b5,n7:=b4,c7:=b6})] (λe f3=> ∃c1 b7 c5,e= hQ (hT c1 b7 c5)/\
 Xa E (y++(((hP #[32,42,42])++g)++(hP #[42,42]))) c1 b7 c5 W (i64.wrap (a7+1)) f3) U)
 (br (b3==2)
 ((((hP #[32,96]).size+g.size:Nat):Int)<=i64.max/\
 ((((hP #[32,96])++g).size+(hP #[96]).size:Nat):Int)<=i64.max/\
 ((y.size+(((hP #[32,96])++g)++(hP #[96])).size:Nat):Int)<=i64.max/\
 callE P fm #[hT H I O,(N10.V {a0:=23,a1:=g})] (λe f1=> ∃c2 e1 d0,e= hQ (hT c2 e1 d0)/\
 Xa E (y++(((hP #[32,96])++g)++(hP #[96]))) c2 e1 d0 W (i64.wrap (a7+1)) f1) U)
 (br (b3==3)
 (callE P cF #[kT E] (λe f0=> ∃a6,e= hQ (hX a6)/\
 (((hP #[47]).size+a6.size:Nat):Int)<=i64.max/\
 (((hP #[32,91]).size+g.size:Nat):Int)<=i64.max/\
 ((((hP #[32,91])++g).size+(hP #[93,40]).size:Nat):Int)<=i64.max/\
 (((((hP #[32,91])++g)++(hP #[93,40])).size+((hP #[47])++a6).size:Nat):Int)<=i64.max/\
 ((((((hP #[32,91])++g)++(hP #[93,40]))++((hP #[47])++a6)).size+(hP #[41]).size:Nat):Int)<=i64.max/\
 ((y.size+(((((hP #[32,91])++g)++(hP #[93,40]))++((hP #[47])++a6))++(hP #[41])).size:Nat):Int)<=i64.max/\
 callE P fm #[hT H I O,.agg #[hY 27,hX ((hP #[47])++a6),hX (hP #[]),hY 0,hX (hP #[]),hV false,hT none 0 0,hT b5 b4 b6,hY 0,hY 0]] (λe e9=> ∃c8 e0 d3,e= hQ (hT c8 e0 d3)/\
 Xa E (y++(((((hP #[32,91])++g)++(hP #[93,40]))++((hP #[47])++a6))++(hP #[41]))) c8 e0 d3 W (i64.wrap (a7+1)) e9) f0) U)
 (br (b3==4)
 ((((hP #[32,92,42]).size+g.size:Nat):Int)<=i64.max/\
 ((y.size+((hP #[32,92,42])++g).size:Nat):Int)<=i64.max/\
 (((hP #[42]).size+g.size:Nat):Int)<=i64.max/\
 callE P fm #[hT H I O,.agg #[hY 20,hX ((hP #[42])++g),hX (hP #[]),hY 0,hX (hP #[]),hV false,hT none 0 0,hT none 0 0,hY 0,hY 0]] (λe f2=> ∃d4 b9 d2,e= hQ (hT d4 b9 d2)/\
 Xa E (y++((hP #[32,92,42])++g)) d4 b9 d2 W (i64.wrap (a7+1)) f2) U)
 ((((hP #[32]).size+g.size:Nat):Int)<=i64.max/\
 ((y.size+((hP #[32])++g).size:Nat):Int)<=i64.max/\
 0<=(0:Int)/\0<(b4:Int)/\
 aA b5 λe6=>
 ldA10 U (e6.add (Int.toNat 0*10)) λf4=>
 callE P fm #[hT H I O,f4.V] (λe f5=> ∃d5 c9 c4,e= hQ (hT d5 c9 c4)/\
 Xa E (y++((hP #[32])++g)) d5 c9 c4 W (i64.wrap (a7+1)) f5) U)))))) e8) e5) w)
 (R (hQ (.tuple #[hX y,hT e3 e4 e2])) w)
def l1 (R:EP)(O:OA)(U:BA)(I:OA)(g H:Nat)(y E:Int)(w:World):Prop:=
 ∀X:OA->BA->OA->Nat->Nat->Int->Int->WP,(∀O U I g H y E w,bl1 R X O U I g H y E w->X O U I g H y E w)->X O U I g H y E w
end dj
def dj (R:EP)(y:OA)(w:World):Prop:=
 callE P cF #[kT y] (λe a6=> ∃g,e= hQ (hX g)/\
 ∃H E,∃I O,(Instr.buildSlice au 1 #[(0,(N10.V {a0:=20,a1:=g}))]).run P a6= .ok (hT H E I) O/\
 callE P aS #[kT y,hY 3] (λe W=> ∃U,e= hQ (hY U)/\
 dj.l1 R y g H E I U 0 W) O) w
theorem dj.sound {R x0 w}(h:dj R x0 w):callE P eB #[kT x0] R w:=
 aH [(87,.lp [2,81,103,307,327] (dj.bl1 R) λXa=> [])] Tryz.func64 Tryz.call64 h
def iN (R:EP)(g:OA)(W:Int)(w:World):Prop:=
 tk w λy=>
 aA g λa2=>
 aA g λa3=>
 ∃b3,y.cell? (a2.add 1)=some (hY b3)/\
 ∃b6 V b5,y.cell? a3=some (hT b6 V b5)/\
 br (decide (b3 >= (V:Int)))
 (R (hQ (hY 0)) y)
 (aA g λb8=>
 ∃a7,y.cell? (b8.add 1)=some (hY a7)/\
 aA g λa8=>
 stV y ((a8.add 1).add 0) (hY (i64.wrap (a7+1))) λb9=>
 tk b9 λH=>
 aA g λa11=>
 aA g λa12=>
 ∃O I b4,H.cell? a11=some (hT O I b4)/\
 ∃E,H.cell? (a12.add 1)=some (hY E)/\
 0<=(i64.wrap (E - 1))/\(i64.wrap (E - 1))<(I:Int)/\
 aA O λb7=>
 ∃U,H.cell? (b7.add (Int.toNat (i64.wrap (E - 1))*1))=some (.int .u8 U)/\
 W≠0/\
 R (hQ (hY (Int.tmod (i64.wrap U) W))) H)
theorem iN.sound {R x0 x1 w}(h:iN R x0 x1 w):callE P aS #[kT x0,hY x1] R w:=
 aH [(9,.dr (rpN [0,3,6,12,15,18,10,22,24,27])),(23,.dr (rpN [0,3,6,12,15,18,36,10,22,24,27,31,33,39,42]))] Tryz.func41 Tryz.call41 h
def iM (R:EP)(E:OA)(w:World):Prop:=
 callE P aS #[kT E,hY 26] (λe I=> ∃g,e= hQ (hY g)/\
 tk I λH=>
 0<=g/\g<=(i64.wrap (g+1))/\(i64.wrap (g+1))<=((hP #[97,98,99,100,101,102,103,104,105,106,107,108,109,110,111,112,113,114,115,116,117,118,119,120,121,122]).size:Int)/\
 callE P aS #[kT E,hY 4] (λe O=> ∃y,e= hQ (hY y)/\
 0<=y/\y<=((hP #[111,110,108,121,119,111,114,100,115]).size:Int)/\
 ((((hP #[97,98,99,100,101,102,103,104,105,106,107,108,109,110,111,112,113,114,115,116,117,118,119,120,121,122]).extract (Int.toNat g) (Int.toNat (i64.wrap (g+1)))).size+((hP #[111,110,108,121,119,111,114,100,115]).extract 0 (Int.toNat y)).size:Nat):Int)<=i64.max/\
 R (hQ (hX (((hP #[97,98,99,100,101,102,103,104,105,106,107,108,109,110,111,112,113,114,115,116,117,118,119,120,121,122]).extract (Int.toNat g) (Int.toNat (i64.wrap (g+1))))++((hP #[111,110,108,121,119,111,114,100,115]).extract 0 (Int.toNat y))))) O) H) w
theorem iM.sound {R x0 w}(h:iM R x0 w):callE P cF #[kT x0] R w:=
 aH [(11,.dr (rpN [0,3,6,9,12,17,18,21,24]))] Tryz.func65 Tryz.call65 h
namespace av
def k4 (R:EP)(Xa:OA->BA->OA->Nat->Nat->Int->Bool->Int->WP)(g:OA)(c8:BA)(b8:OA)(c1 b6:Nat)(c5:Int)(c4:Bool)(b7:Value)(b3:Int)(w:World):Prop:=
 aA g λc3=>
 ∃E V U,w.cell? (c3.add 9)=some (hT E V U)/\
 ∃I H,∃O a7,(Instr.buildSlice ap 1 #[(0,b7)]).run P w= .ok (hT I H O) a7/\
 ∃y a6,∃W b4,(Builtin.append_ #[ap,ap] ap #[hT E V U,hT I H O]).run P a7= .ok (hT y a6 W) b4/\
 aA g λc2=>
 stV b4 ((c2.add 9).add 0) (hT y a6 W) λb9=>
 callE P gI #[kT g,hY b3] (λe b5=>e= hQ (.tuple #[])/\
 Xa g c8 b8 c1 b6 c5 c4 b3 b5) b9
def k10 (R:EP)(Xa:OA->BA->OA->Nat->Nat->Int->Bool->Int->WP)(g:OA)(b9:BA)(b5:OA)(b6 b4:Nat)(c9:Int)(b8:Bool)(c8:Int)(b7:OA)(H:Int)(w:World):Prop:=
 aA g λc2=>
 ∃U a6 I,w.cell? (c2.add 9)=some (hT U a6 I)/\
 ∃W V,∃O b3,(Instr.sliceAt ap (hT U a6 I) none (some (hY (i64.wrap (c8+1)))) none).run P w= .ok (hT W V O) b3/\
 aA g λc1=>
 stV b3 ((c1.add 9).add 0) (hT W V O) λc4=>
 callE P gI #[kT g,hY H] (λe y=>e= hQ (.tuple #[])/\
 aA b7 λc3=>
 ∃E,y.cell? c3=some (hX E)/\
 0<=(0:Int)/\0<(E.size:Int)/\
 br ((bt E 0)==91)
 (aA b7 λc5=>
 ∃a7,y.cell? (c5.add 1)=some (hY a7)/\
 Xa g b9 b5 b6 b4 a7 b8 H y)
 (Xa g b9 b5 b6 b4 c9 b8 H y)) c4
def k9 (R:EP)(Xa:OA->BA->OA->Nat->Nat->Int->Bool->Int->WP)(y:OA)(d2:BA)(c8:OA)(c9 c4:Nat)(d1:Int)(d0:Bool)(e9 g:Int)(I O:OA)(c5:Int)(w:World):Prop:=
 callE P dn #[kT y,hY e9] (λe c3=>e= hQ (.tuple #[])/\
 aA y λe5=>
 ∃b7 U W,c3.cell? (e5.add 9)=some (hT b7 U W)/\
 ∃b6 a6,∃b4 c2,(Instr.sliceAt ap (hT b7 U W) (some (hY (i64.wrap (g+1)))) none none).run P c3= .ok (hT b6 a6 b4) c2/\
 callE P fi #[kT y,hT none 0 0,hT b6 a6 b4] (λe e2=> ∃b5 c1 V,e= hQ (hT b5 c1 V)/\
 aA O λd5=>
 stV e2 (d5.add 0) (hT b5 c1 V) λE=>
 aA I λe8=>
 ∃H,E.cell? e8=some (hX H)/\
 0<=(0:Int)/\0<(H.size:Int)/\
 br ((bt H 0)==33)
 (aA y λe7=>
 ∃b8 b3 d4,E.cell? (e7.add 9)=some (hT b8 b3 d4)/\
 0<=g/\g<(b3:Int)/\
 aA b8 λe4=>
 stV E ((e4.add (Int.toNat g*1)).add 0) (.iface lw (kT O)) λe6=>
 k10 R Xa y d2 c8 c9 c4 d1 d0 g I c5 e6)
 (aA y λe0=>
 ∃b9 a7 d3,E.cell? (e0.add 9)=some (hT b9 a7 d3)/\
 0<=g/\g<(a7:Int)/\
 aA b9 λe1=>
 stV E ((e1.add (Int.toNat g*1)).add 0) (.iface lu (kT O)) λe3=>
 k10 R Xa y d2 c8 c9 c4 d1 d0 g I c5 e3)) c2) w
def k8 (R:EP)(Xa:OA->BA->OA->Nat->Nat->Int->Bool->Int->WP)(g:OA)(O:BA)(W:OA)(a6 V:Nat)(b4:Int)(b3:Bool)(U a7:Int)(I:OA)(c4:Bool)(w:World):Prop:=
 br c4
 (callE P eA #[kT g,hX O,hY U,kT I] (λe E=> ∃y H b5,e= hQ (.tuple #[kT y,hY H,hV b5])/\
 br b5
 (aA g λd3=>
 ∃b7,E.cell? (d3.add 6)=some (hV b7)/\
 br b7
 (aA g λd1=>
 stV E ((d1.add 6).add 0) (hV true) λc2=>
 k9 R Xa g O W a6 V b4 b3 U a7 I y H c2)
 (aA y λc3=>
 ∃b6,E.cell? (c3.add 4)=some (hV b6)/\
 br b6
 (aA g λc9=>
 stV E ((c9.add 6).add 0) (hV true) λc1=>
 k9 R Xa g O W a6 V b4 b3 U a7 I y H c1)
 (aA y λd0=>
 ∃b8,E.cell? (d0.add 1)=some (hX b8)/\
 callE P mV #[hX b8] (λe c5=> ∃b9,e= hQ (hV b9)/\
 aA g λc8=>
 stV c5 ((c8.add 6).add 0) (hV b9) λd2=>
 k9 R Xa g O W a6 V b4 b3 U a7 I y H d2) E)))
 (False)) w)
 (False)
def k7 (R:EP)(Xa:OA->BA->OA->Nat->Nat->Int->Bool->Int->WP)(I:OA)(b4:BA)(a6:OA)(g b9:Nat)(O:Int)(b3:Bool)(b5:Int)(c3:Bool)(w:World):Prop:=
 br c3
 (0<=(i64.wrap ((g:Int) - 1))/\(i64.wrap ((g:Int) - 1))<(g:Int)/\
 aA a6 λd0=>
 ∃y,w.cell? (d0.add (Int.toNat (i64.wrap ((g:Int) - 1))*1))=some (hY y)/\
 aA I λc9=>
 ∃b7 b6 c4,w.cell? (c9.add 9)=some (hT b7 b6 c4)/\
 0<=y/\y<(b6:Int)/\
 aA b7 λd1=>
 ∃(c1:Value),w.cell? (d1.add (Int.toNat y*1))=some c1/\
 ∃E b8,(Instr.typeAssert c1 aC aQ false).run P w= .ok (kT E) b8/\
 ∃U V,∃W H,(Instr.sliceAt nC (hT a6 g b9) none (some (hY (i64.wrap ((g:Int) - 1)))) none).run P b8= .ok (hT U V W) H/\
 aA E λc8=>
 ∃a7,H.cell? c8=some (hX a7)/\
 0<=(0:Int)/\0<(a7.size:Int)/\
 br ((bt a7 0)==33)
 (k8 R Xa I b4 U V W O b3 b5 y E true H)
 (aA E λc5=>
 ∃c2,H.cell? (c5.add 1)=some (hY c2)/\
 k8 R Xa I b4 U V W O b3 b5 y E (decide (O<=c2)) H))
 (Xa I b4 a6 g b9 O b3 (i64.wrap (b5+1)) w)
def k5 (R:EP)(Xa:OA->BA->OA->Nat->Nat->Int->Bool->Int->WP)(V:OA)(y:BA)(I:OA)(E H:Nat)(O:Int)(U:Bool)(g:Int)(w:World):Prop:=
 0<=g/\g<(y.size:Int)/\
 k7 R Xa V y I E H O U g (((bt y g)==93) && (decide ((E:Int)>0))) w
def k1 (R:EP)(Xa:OA->BA->OA->Nat->Nat->Int->Bool->Int->WP)(g:OA)(H:BA)(U:OA)(V O:Nat)(b3:Int)(a6:Bool)(d0:Int)(a7:Value)(w:World):Prop:=
 ∃c5 W,(do eqGuard .neq aX (.tmp 113) (.const .nilFunc) a7 .nilFunc;binOp .neq aX a7 .nilFunc).run P w= .ok (hV c5) W/\
 br c5
 (cY P (do let d <-Deferred.ofValue a7 #[kT g,hX H,hY d0];invoke d.target d.args) (λe e0=> ∃(y:Value),∃b5 I b4,e= hQ (.tuple #[y,hY b5,hY I,hV b4])/\
 br b4
 (callE P dn #[kT g,hY b5] (λe d5=>e= hQ (.tuple #[])/\
 ∃d1 b6 E,(Instr.typeAssert y aC aQ true).run P d5= .ok (.tuple #[kT d1,hV b6]) E/\
 br b6
 (aA g λd4=>
 ∃d3 c4 d2,E.cell? (d4.add 9)=some (hT d3 c4 d2)/\
 ∃b7 c3,∃b8 c8,(Instr.buildSlice nC 1 #[(0,hY (c4:Int))]).run P E= .ok (hT b7 c3 b8) c8/\
 ∃c2 c1,∃b9 c9,(Builtin.append_ #[nC,nC] nC #[hT U V O,hT b7 c3 b8]).run P c8= .ok (hT c2 c1 b9) c9/\
 k4 R Xa g H c2 c1 b9 b3 a6 y I c9)
 (k4 R Xa g H U V O b3 a6 y I E)) e0)
 (False)) W)
 (k5 R Xa g H U V O b3 a6 d0 W)
def k2 (R:EP)(Xa:OA->BA->OA->Nat->Nat->Int->Bool->Int->WP)(g:OA)(V:BA)(I:OA)(y H:Nat)(O:Int)(U:Bool)(W:Int)(w:World):Prop:=
 aA g λE=>
 k1 R Xa g V I y H O U W (.func (.func bI) #[kT (some (E.add 12))] #[]) w
def k6 (R:EP)(Xa:OA->BA->OA->Nat->Nat->Int->Bool->Int->WP)(g:OA)(U:BA)(E:OA)(H y:Nat)(O:Int)(I:Bool)(V:Int)(a6:Value)(W:Int)(c2:Bool)(w:World):Prop:=
 br c2
 (aA g λb8=>
 ∃b3,w.cell? b8=some (kT b3)/\
 aA b3 λc4=>
 ∃b5,w.cell? (c4.add 9)=some (hV b5)/\
 br b5
 (k1 R Xa g U E H y O I V (.func (.func dO) #[] #[]) w)
 (k1 R Xa g U E H y O I V a6 w))
 (br (W==126)
 (aA g λc5=>
 ∃a7,w.cell? c5=some (kT a7)/\
 aA a7 λb9=>
 ∃b6,w.cell? (b9.add 1)=some (hV b6)/\
 br b6
 (k1 R Xa g U E H y O I V (.func (.func dO) #[] #[]) w)
 (k1 R Xa g U E H y O I V a6 w))
 (br (W==10)
 (k1 R Xa g U E H y O I V (.func (.func jF) #[] #[]) w)
 (br (W==38)
 (k1 R Xa g U E H y O I V (.func (.func lF) #[] #[]) w)
 (br (W==58)
 (aA g λc1=>
 ∃b7,w.cell? c1=some (kT b7)/\
 aA b7 λc3=>
 ∃b4,w.cell? (c3.add 6)=some (hV b4)/\
 br b4
 (k1 R Xa g U E H y O I V (.func (.func qP) #[] #[]) w)
 (k1 R Xa g U E H y O I V a6 w))
 (k1 R Xa g U E H y O I V a6 w)))))
def k3 (R:EP)(Xa:OA->BA->OA->Nat->Nat->Int->Bool->Int->WP)(g:OA)(U:BA)(E:OA)(H y:Nat)(O:Int)(I:Bool)(V:Int)(a6:Value)(W:Int)(c1:Bool)(w:World):Prop:=
 br c1
 (k1 R Xa g U E H y O I V (.func (.func dO) #[] #[]) w)
 (br (W==46)
 (aA g λb8=>
 ∃b5,w.cell? b8=some (kT b5)/\
 aA b5 λb6=>
 ∃a7,w.cell? (b6.add 7)=some (hV a7)/\
 br a7
 (k1 R Xa g U E H y O I V (.func (.func tW) #[] #[]) w)
 (k1 R Xa g U E H y O I V a6 w))
 (br (W==45)
 (aA g λb7=>
 ∃b3,w.cell? b7=some (kT b3)/\
 aA b3 λb9=>
 ∃b4,w.cell? (b9.add 8)=some (hV b4)/\
 br b4
 (k1 R Xa g U E H y O I V (.func (.func sC) #[] #[]) w)
 (k1 R Xa g U E H y O I V a6 w))
 (br (W==34)
 (k6 R Xa g U E H y O I V a6 W true w)
 (k6 R Xa g U E H y O I V a6 W (W==39) w))))
def bl1 (R:EP)(Xa:OA->BA->OA->Nat->Nat->Int->Bool->Int->WP)(g:OA)(y:BA)(I:OA)(O H:Nat)(V:Int)(U:Bool)(E:Int)(w:World):Prop:=
 br (decide (E<(y.size:Int)))
 (0<=E/\E<(y.size:Int)/\
 br ((bt y E)==92)
 (k1 R Xa g y I O H V U E (.func (.func iX) #[] #[]) w)
 (br ((bt y E)==96)
 (br (!U)
 (aA g λa9=>
 callE P dM #[kT (some (a9.add 12))] (λe e9=>e= hQ (.tuple #[])/\
 k2 R Xa g y I O H V true E e9) w)
 (k2 R Xa g y I O H V U E w))
 (br ((bt y E)==60)
 (k1 R Xa g y I O H V U E (.func (.func jG) #[] #[]) w)
 (br ((bt y E)==91)
 (k1 R Xa g y I O H V U E (.func (.func gn) #[] #[]) w)
 (br ((bt y E)==33)
 (k1 R Xa g y I O H V U E (.func (.func mm) #[] #[]) w)
 (br ((bt y E)==95)
 (k3 R Xa g y I O H V U E .nilFunc (bt y E) true w)
 (k3 R Xa g y I O H V U E .nilFunc (bt y E) ((bt y E)==42) w)))))))
 (callE P dn #[kT g,hY (y.size:Int)] (λe f0=>e= hQ (.tuple #[])/\
 tk f0 λW=>
 aA g λg1=>
 aA g λe8=>
 ∃b3 d4 b4,W.cell? (g1.add 9)=some (hT b3 d4 b4)/\
 ∃a6 c2 d1,(∀w,(Instr.sliceAt ap (hT b3 d4 b4) none (some (hY 0)) none).run P w= .ok (hT a6 c2 d1) w)/\
 ∃d0 e1 b5,W.cell? (e8.add 9)=some (hT d0 e1 b5)/\
 callE P fi #[kT g,hT a6 c2 d1,hT d0 e1 b5] (λe f5=> ∃e4 b6 a7,e= hQ (hT e4 b6 a7)/\
 aA g λf4=>
 stV f5 ((f4.add 9).add 0) (hT e4 b6 a7) λe5=>
 aA g λf3=>
 ∃c9 e0 e3,e5.cell? (f3.add 9)=some (hT c9 e0 e3)/\
 callE P fx #[kT g,hT c9 e0 e3] (λe g3=> ∃b7 d5 b9,e= hQ (hT b7 d5 b9)/\
 aA g λf2=>
 stV g3 ((f2.add 9).add 0) (hT b7 d5 b9) λe6=>
 aA g λg0=>
 ∃c1 d2 c4,e6.cell? (g0.add 9)=some (hT c1 d2 c4)/\
 callE P dS #[kT g,hT c1 d2 c4] (λe f6=> ∃c8 c3 d3,e= hQ (hT c8 c3 d3)/\
 aA g λg2=>
 stV f6 ((g2.add 9).add 0) (hT c8 c3 d3) λe7=>
 aA g λf1=>
 ∃b8 e2 c5,e7.cell? (f1.add 9)=some (hT b8 e2 c5)/\
 R (hQ (hT b8 e2 c5)) e7) e6) e5) W) w)
def l1 (R:EP)(U:OA)(O:BA)(E:OA)(g y:Nat)(H:Int)(I:Bool)(V:Int)(w:World):Prop:=
 ∀X:OA->BA->OA->Nat->Nat->Int->Bool->Int->WP,(∀U O E g y H I V w,bl1 R X U O E g y H I V w->X U O E g y H I V w)->X U O E g y H I V w
end av
def av (R:EP)(g:OA)(I:BA)(w:World):Prop:=
 callE P ie #[hX I] (λe V=> ∃y,e= hQ (hX y)/\
 aA g λa3=>
 stV V ((a3.add 7).add 0) (hX y) λE=>
 aA g λa5=>
 stV E ((a5.add 9).add 0) (hT none 0 0) λU=>
 aA g λH=>
 stV U ((H.add 8).add 0) (hY 0) λO=>
 av.l1 R g y none 0 0 0 false 0 O) w
theorem av.sound {R x0 x1 w}(h:av R x0 x1 w):callE P fy #[kT x0,hX x1] R w:=
 aH [(2559,.lp [2,21,103,127,140,167] (av.bl1 R) λXa=> [(3541,.mk [2,21,103,127,140,167] (av.k2 R Xa)),(262101,.mk [2,21,103,127,140,167,185,788,1200] (av.k3 R Xa)),(16777173,.mk [2,21,103,127,140,167,185,788,1620] (av.k6 R Xa)),(29,.mk [2,21,103,127,140,167,185] (av.k1 R Xa)),(7597,.mk [2,21,103,127,140,205,247] (av.k4 R Xa)),(1965,.no),(61,.mk [2,21,103,127,140,167] (av.k5 R Xa)),(221,.mk [2,21,103,127,140,167,3300] (av.k7 R Xa)),(8029,.mk [2,21,103,127,140,167,327,342,3980] (av.k8 R Xa)),(225117,.mk [2,21,103,127,140,167,327,342,362,387] (av.k9 R Xa)),(2060125,.mk [2,21,103,127,140,327,342,387] (av.k10 R Xa)),(126813,.no),(16221,.no)]),(6143,.dr (rpN [0,3,6,9,12,21,24,27,16,18,31,35,36,39,44]))] Tryz.func82 Tryz.call82 h
namespace aE
def k8 (R:EP)(Xa:OA->BA->Int->Int->Int->Int->WP)(y H:Int)(I:BA)(w:World):Prop:=
 box w #[hX I] AX λE g=>
 R (hQ (.tuple #[.iface oV (kT (kE E)),hY y,hY H,hV true])) g
def k7 (R:EP)(Xa:OA->BA->Int->Int->Int->Int->WP)(y H:Int)(E:BA)(g:Bool)(w:World):Prop:=
 br g
 (False)
 (k8 R Xa y H E w)
def k6 (R:EP)(Xa:OA->BA->Int->Int->Int->Int->WP)(b3:OA)(W:BA)(H O:Int)(y U:Int)(E a7:Int)(w:World):Prop:=
 br (a7==y)
 (0<=(i64.wrap (H+y))/\(i64.wrap (H+y))<=E/\E<=(W.size:Int)/\
 callE P lh #[hX (W.extract (Int.toNat (i64.wrap (H+y))) (Int.toNat E)),hX (hP #[10]),hX (hP #[32])] (λe I=> ∃g,e= hQ (hX g)/\
 ((decide ((g.size:Int) >= 2))=true->0<=(0:Int)/\0<(g.size:Int))/\
 (((decide ((g.size:Int) >= 2)) && ((bt g 0)==32))=true->0<=(i64.wrap ((g.size:Int) - 1))/\(i64.wrap ((g.size:Int) - 1))<(g.size:Int))/\
 br (((decide ((g.size:Int) >= 2)) && ((bt g 0)==32)) && ((bt g (i64.wrap ((g.size:Int) - 1)))==32))
 (callE P yl #[hX g] (λe a6=> ∃V,e= hQ (hX V)/\
 k7 R Xa O U g (!(V.toList==(hP #[]).toList)) a6) I)
 (k7 R Xa O U g false I)) w)
 (False)
def k5 (R:EP)(Xa:OA->BA->Int->Int->Int->Int->WP)(E:OA)(b3:BA)(W I:Int)(U O:Int)(y g:Int)(H:Bool)(w:World):Prop:=
 br H
 (aA E λV=>
 0<=(i64.wrap (g - 1))/\(i64.wrap (g - 1))<(80:Int)/\
 stV w ((V.add (Int.toNat (i64.wrap (g - 1))*1)).add 0) (hY y) λa6=>
 k6 R Xa E b3 W I U O y g a6)
 (False)
def k4 (R:EP)(Xa:OA->BA->Int->Int->Int->Int->WP)(H:OA)(V:BA)(U I:Int)(O g y:Int)(w:World):Prop:=
 aA H λa5=>
 ∃E,w.cell? (a5.add 80)=some (hV E)/\
 k5 R Xa H V U I O g y (i64.wrap (g - y)) ((!E) && (decide ((i64.wrap (g - y))<80))) w
def bl3 (R:EP)(Xa:OA->BA->Int->Int->Int->Int->WP)(V:OA->BA->Int->Int->Int->Int->Int->WP)(U:OA)(y:BA)(O E:Int)(H g I:Int)(w:World):Prop:=
 ((decide (g<(y.size:Int)))=true->0<=g/\g<(y.size:Int))/\
 br ((decide (g<(y.size:Int))) && ((bt y g)==96))
 (V U y O E H (i64.wrap (g+1)) I w)
 (k4 R Xa U y O E H g I w)
def l3 (R:EP)(Xa:OA->BA->Int->Int->Int->Int->WP)(U:OA)(O:BA)(I g:Int)(E y H:Int)(w:World):Prop:=
 ∀X:OA->BA->Int->Int->Int->Int->Int->WP,(∀U O I g E y H w,bl3 R Xa X U O I g E y H w->X U O I g E y H w)->X U O I g E y H w
def bl2 (R:EP)(Xa:OA->BA->Int->Int->Int->Int->WP)(O:OA)(y:BA)(I E:Int)(H g:Int)(w:World):Prop:=
 br (decide (g<(y.size:Int)))
 (0<=g/\g<(y.size:Int)/\
 br ((bt y g) !=96)
 (Xa O y I E H (i64.wrap (g+1)) w)
 (l3 R Xa O y I E H g g w))
 (False)
def l2 (R:EP)(O:OA)(I:BA)(H g:Int)(E y:Int)(w:World):Prop:=
 ∀X:OA->BA->Int->Int->Int->Int->WP,(∀O I H g E y w,bl2 R X O I H g E y w->X O I H g E y w)->X O I H g E y w
def k3 (R:EP)(I:OA)(H:BA)(y E g:Int)(w:World):Prop:=
 l2 R I H y E g (i64.wrap (y+g)) w
def k1 (R:EP)(y:OA)(O:BA)(E H g:Int)(w:World):Prop:=
 br (decide (g>80))
 (False)
 (aA y λa1=>
 ∃I,w.cell? (a1.add 80)=some (hV I)/\
 br I
 (aA y λa3=>
 0<=(i64.wrap (g - 1))/\(i64.wrap (g - 1))<(80:Int)/\
 ∃U,w.cell? (a3.add (Int.toNat (i64.wrap (g - 1))*1))=some (hY U)/\
 br (decide (U<(i64.wrap (E+g))))
 (False)
 (k3 R y O E H g w))
 (k3 R y O E H g w))
def bl1 (R:EP)(O:OA->BA->Int->Int->Int->WP)(I:OA)(E:BA)(y H g:Int)(w:World):Prop:=
 ((decide ((i64.wrap (y+g))<(E.size:Int)))=true->0<=(i64.wrap (y+g))/\(i64.wrap (y+g))<(E.size:Int))/\
 br ((decide ((i64.wrap (y+g))<(E.size:Int))) && ((bt E (i64.wrap (y+g)))==96))
 (False)
 (k1 R I E y H g w)
def l1 (R:EP)(I:OA)(H:BA)(E g y:Int)(w:World):Prop:=
 ∀X:OA->BA->Int->Int->Int->WP,(∀I H E g y w,bl1 R X I H E g y w->X I H E g y w)->X I H E g y w
end aE
def aE (R:EP)(y H:OA)(E:BA)(g:Int)(w:World):Prop:=
 aE.l1 R y E g g 1 w
theorem aE.sound {R x0 x1 x2 x3 w}(h:aE R x0 x1 x2 x3 w):callE P bI #[kT x0,kT x1,hX x2,hY x3] R w:=
 aH [(77,.lp [2,41,67,247,267] (aE.bl1 R) λy=> [(10,.no)]),(61,.mk [2,41,67,247,267] (aE.k1 R)),(349,.no),(125,.mk [2,41,67,247,267] (aE.k3 R)),(701,.lp [2,41,67,247,267,287] (aE.bl2 R) λXa=> [(14,.no),(77,.lp [2,41,67,247,267,287,307] (aE.bl3 R Xa) λg=> []),(61,.mk [2,41,67,247,267,287,307] (aE.k4 R Xa)),(445,.mk [2,41,67,247,267,287,307,327,1860] (aE.k5 R Xa)),(957,.no),(253,.mk [2,41,67,247,267,287,307,327] (aE.k6 R Xa)),(14077,.mk [247,287,341,2640] (aE.k7 R Xa)),(22269,.no),(7933,.mk [247,287,341] (aE.k8 R Xa)),(1021,.no)]),(1021,.no)] Tryz.func111 Tryz.call111 h
def gc (R:EP)(m6:OA)(w:World):Prop:=
 aA m6 λa1=>
 stV w (a1.add 0) (hY 0) λm5=>
 stV m5 (a1.add 1) (hY 0) λm4=>
 stV m4 (a1.add 2) (hY 0) λm3=>
 stV m3 (a1.add 3) (hY 0) λm2=>
 stV m2 (a1.add 4) (hY 0) λk0=>
 stV k0 (a1.add 5) (hY 0) λm8=>
 stV m8 (a1.add 6) (hY 0) λm1=>
 stV m1 (a1.add 7) (hY 0) λl5=>
 stV l5 (a1.add 8) (hY 0) λh8=>
 stV h8 (a1.add 9) (hY 0) λy=>
 stV y (a1.add 10) (hY 0) λe7=>
 stV e7 (a1.add 11) (hY 0) λc2=>
 stV c2 (a1.add 12) (hY 0) λb8=>
 stV b8 (a1.add 13) (hY 0) λb9=>
 stV b9 (a1.add 14) (hY 0) λg=>
 stV g (a1.add 15) (hY 0) λf1=>
 stV f1 (a1.add 16) (hY 0) λa7=>
 stV a7 (a1.add 17) (hY 0) λg3=>
 stV g3 (a1.add 18) (hY 0) λV=>
 stV V (a1.add 19) (hY 0) λf3=>
 stV f3 (a1.add 20) (hY 0) λg0=>
 stV g0 (a1.add 21) (hY 0) λh1=>
 stV h1 (a1.add 22) (hY 0) λc8=>
 stV c8 (a1.add 23) (hY 0) λj0=>
 stV j0 (a1.add 24) (hY 0) λa6=>
 stV a6 (a1.add 25) (hY 0) λb4=>
 stV b4 (a1.add 26) (hY 0) λb5=>
 stV b5 (a1.add 27) (hY 0) λh5=>
 stV h5 (a1.add 28) (hY 0) λg1=>
 stV g1 (a1.add 29) (hY 0) λd2=>
 stV d2 (a1.add 30) (hY 0) λf5=>
 stV f5 (a1.add 31) (hY 0) λd3=>
 stV d3 (a1.add 32) (hY 0) λI=>
 stV I (a1.add 33) (hY 0) λb3=>
 stV b3 (a1.add 34) (hY 0) λc4=>
 stV c4 (a1.add 35) (hY 0) λf4=>
 stV f4 (a1.add 36) (hY 0) λg7=>
 stV g7 (a1.add 37) (hY 0) λj1=>
 stV j1 (a1.add 38) (hY 0) λh7=>
 stV h7 (a1.add 39) (hY 0) λg2=>
 stV g2 (a1.add 40) (hY 0) λc9=>
 stV c9 (a1.add 41) (hY 0) λf2=>
 stV f2 (a1.add 42) (hY 0) λe4=>
 stV e4 (a1.add 43) (hY 0) λf0=>
 stV f0 (a1.add 44) (hY 0) λi1=>
 stV i1 (a1.add 45) (hY 0) λb7=>
 stV b7 (a1.add 46) (hY 0) λe2=>
 stV e2 (a1.add 47) (hY 0) λe9=>
 stV e9 (a1.add 48) (hY 0) λd4=>
 stV d4 (a1.add 49) (hY 0) λf6=>
 stV f6 (a1.add 50) (hY 0) λE=>
 stV E (a1.add 51) (hY 0) λO=>
 stV O (a1.add 52) (hY 0) λc5=>
 stV c5 (a1.add 53) (hY 0) λg5=>
 stV g5 (a1.add 54) (hY 0) λU=>
 stV U (a1.add 55) (hY 0) λb6=>
 stV b6 (a1.add 56) (hY 0) λc3=>
 stV c3 (a1.add 57) (hY 0) λh3=>
 stV h3 (a1.add 58) (hY 0) λe8=>
 stV e8 (a1.add 59) (hY 0) λh9=>
 stV h9 (a1.add 60) (hY 0) λe3=>
 stV e3 (a1.add 61) (hY 0) λh2=>
 stV h2 (a1.add 62) (hY 0) λc1=>
 stV c1 (a1.add 63) (hY 0) λd0=>
 stV d0 (a1.add 64) (hY 0) λe0=>
 stV e0 (a1.add 65) (hY 0) λW=>
 stV W (a1.add 66) (hY 0) λh6=>
 stV h6 (a1.add 67) (hY 0) λh0=>
 stV h0 (a1.add 68) (hY 0) λe5=>
 stV e5 (a1.add 69) (hY 0) λe6=>
 stV e6 (a1.add 70) (hY 0) λi8=>
 stV i8 (a1.add 71) (hY 0) λH=>
 stV H (a1.add 72) (hY 0) λd5=>
 stV d5 (a1.add 73) (hY 0) λi0=>
 stV i0 (a1.add 74) (hY 0) λi3=>
 stV i3 (a1.add 75) (hY 0) λh4=>
 stV h4 (a1.add 76) (hY 0) λg6=>
 stV g6 (a1.add 77) (hY 0) λe1=>
 stV e1 (a1.add 78) (hY 0) λg4=>
 stV g4 (a1.add 79) (hY 0) λd1=>
 stV d1 (a1.add 80) (hV false) λi2=>
 R (hQ (.tuple #[])) i2
theorem gc.sound {R x0 w}(h:gc R x0 w):callE P dM #[kT x0] R w:=
 cD Tryz.func110 Tryz.call110 h
namespace eS
def bl1 (R:EP)(Xa:BA->BA->BA->OA->Nat->Nat->WP)(V b3 b5:BA)(W:OA)(a7 a6:Nat)(w:World):Prop:=
 callE P lC #[hX V,hX b3] (λe b4=> ∃O,e= hQ (hY O)/\
 br (decide (O<0))
 (∃y g,∃E H,(Builtin.append_ #[bJ,aq] bJ #[hT W a7 a6,hX V]).run P b4= .ok (hT y g E) H/\
 ∃I U,(convert bJ aq (hT y g E)).run P H= .ok (hX I) U/\
 R (hQ (hX I)) U)
 (False)) w
def l1 (R:EP)(O H I:BA)(g:OA)(E y:Nat)(w:World):Prop:=
 ∀X:BA->BA->BA->OA->Nat->Nat->WP,(∀O H I g E y w,bl1 R X O H I g E y w->X O H I g E y w)->X O H I g E y w
end eS
def eS (R:EP)(g y E:BA)(w:World):Prop:=
 eS.l1 R g y E none 0 0 w
theorem eS.sound {R x0 x1 x2 w}(h:eS R x0 x1 x2 w):callE P lh #[hX x0,hX x1,hX x2] R w:=
 aH [(11,.lp [1,21,41,143] (eS.bl1 R) λXa=> [(58,.no)])] Tryz.func77 Tryz.call77 h
def jM (R:EP)(E:OA)(y:BA)(g:Int)(w:World):Prop:=
 ((!(decide (g >= (y.size:Int))))=true->0<=g/\g<(y.size:Int))/\
 br ((decide (g >= (y.size:Int)))||((bt y g) !=91))
 (R (hQ (.tuple #[hX (hP #[]),hY 0,hV false])) w)
 (False)
theorem jM.sound {R x0 x1 x2 w}(h:jM R x0 x1 x2 w):callE P ml #[kT x0,hX x1,hY x2] R w:=
 aH [(29,.no),(7,.no)] Tryz.func174 Tryz.call174 h
def jq (R:EP)(W:Value)(y:BA)(w:World):Prop:=
 callE P kl #[hX y,hY 0] (λe a6=> ∃I,e= hQ (hY I)/\
 ∃O H,(Instr.typeAssert W lO ah false).run P a6= .ok (kT O) H/\
 callE P ml #[kT O,hX y,hY I] (λe V=> ∃U g E,e= hQ (.tuple #[hX U,hY g,hV E])/\
 ((!((!E)||(decide (g >= (y.size:Int)))))=true->0<=g/\g<(y.size:Int))/\
 br (((!E)||(decide (g >= (y.size:Int))))||((bt y g) !=58))
 (R (hQ (.tuple #[hY 0,hV false])) V)
 (False)) H) w
theorem jq.sound {R x0 x1 w}(h:jq R x0 x1 w):callE P gJ #[x0,hX x1] R w:=
 aH [(119,.no),(31,.no)] Tryz.func425 Tryz.call425 h
def nk (R:EP)(g:Int)(w:World):Prop:=
 R (hQ (hV ((((decide (65<=g)) && (decide (g<=70)))||((decide (97<=g)) && (decide (g<=102))))||((decide (48<=g)) && (decide (g<=57)))))) w
theorem nk.sound {R x0 w}(h:nk R x0 w):callE P kR #[.int .u8 x0] R w:=
 cD Tryz.func165 Tryz.call165 h
namespace gv
def bl1 (R:EP)(Xa:BA->Int->WP)(y:BA)(g:Int)(w:World):Prop:=
 br (decide (g<(y.size:Int)))
 (0<=g/\g<(y.size:Int)/\
 br ((bt y g)==37)
 (((!(decide ((i64.wrap (g+2)) >= (y.size:Int))))=true->0<=(i64.wrap (g+1))/\(i64.wrap (g+1))<(y.size:Int))/\
 br (decide ((i64.wrap (g+2)) >= (y.size:Int)))
 ((false=true->0<=(i64.wrap (g+2))/\(i64.wrap (g+2))<(y.size:Int))/\
 R (hQ (hV true)) w)
 (callE P kR #[.int .u8 (bt y (i64.wrap (g+1)))] (λe O=> ∃E,e= hQ (hV E)/\
 ((!(!E))=true->0<=(i64.wrap (g+2))/\(i64.wrap (g+2))<(y.size:Int))/\
 br (!E)
 (R (hQ (hV true)) O)
 (callE P kR #[.int .u8 (bt y (i64.wrap (g+2)))] (λe H=> ∃I,e= hQ (hV I)/\
 br (!I)
 (R (hQ (hV true)) H)
 (Xa y (i64.wrap (g+1)) H)) O)) w))
 (Xa y (i64.wrap (g+1)) w))
 (R (hQ (hV false)) w)
def l1 (R:EP)(y:BA)(g:Int)(w:World):Prop:=
 ∀X:BA->Int->WP,(∀y g w,bl1 R X y g w->X y g w)->X y g w
end gv
def gv (R:EP)(g:BA)(w:World):Prop:=
 gv.l1 R g 0 w
theorem gv.sound {R x0 w}(h:gv R x0 w):callE P mV #[hX x0] R w:=
 aH [(21,.lp [1,67] (gv.bl1 R) λXa=> [])] Tryz.func124 Tryz.call124 h
def i5 (R:EP)(H:OA)(y:BA)(g:Int)(w:World):Prop:=
 0<=g/\g<=(i64.wrap (g+1))/\(i64.wrap (g+1))<=(y.size:Int)/\
 box w #[hX (y.extract (Int.toNat g) (Int.toNat (i64.wrap (g+1)))),hY (i64.wrap (g+1))] qz λb1 E=>
 R (hQ (.tuple #[.iface aQ (kT (kE b1)),hY g,hY (i64.wrap (g+1)),hV true])) E
theorem i5.sound {R x0 x1 x2 w}(h:i5 R x0 x1 x2 w):callE P gn #[kT x0,hX x1,hY x2] R w:=
 cD Tryz.func113 Tryz.call113 h
def eU (R:EP)(O E:OA)(H I:Nat)(w:World):Prop:=
 aA O λa1=>
 ∃g,w.cell? a1=some (kT g)/\
 aA g λa3=>
 ∃y,w.cell? (a3.add 3)=some (hV y)/\
 br (!y)
 (R (hQ (hT E H I)) w)
 (False)
theorem eU.sound {R x0 x1q x1n x1c w}(h:eU R x0 x1q x1n x1c w):callE P dS #[kT x0,hT x1q x1n x1c] R w:=
 aH [(29,.no),(87,.no),(175,.no),(239,.no)] Tryz.func127 Tryz.call127 h
namespace bG
def k2 (R:EP)(Xa:OA->Nat->Nat->OA->Nat->Nat->Int->Int->WP)(a6:OA)(y b8:Nat)(b6:OA)(W b3:Nat)(g:Int)(w:World):Prop:=
 br (decide (g >= (y:Int)))
 (R (hQ (hT b6 W b3)) w)
 (0<=g/\g<(y:Int)/\
 aA a6 λb7=>
 ∃(b5:Value),w.cell? (b7.add (Int.toNat g*1))=some b5/\
 ∃H V,∃E a7,(Instr.buildSlice ap 1 #[(0,b5)]).run P w= .ok (hT H V E) a7/\
 ∃O I,∃U b4,(Builtin.append_ #[ap,ap] ap #[hT b6 W b3,hT H V E]).run P a7= .ok (hT O I U) b4/\
 Xa a6 y b8 O I U (i64.wrap (g+1)) (i64.wrap (g+1)) b4)
def k1 (R:EP)(Xa:OA->Nat->Nat->OA->Nat->Nat->Int->Int->WP)(y:OA)(E H:Nat)(b5:OA)(b8 b4:Nat)(c3 g:Int)(w:World):Prop:=
 br (decide (c3<g))
 (∃c2 c1,∃b6 b9,(Instr.sliceAt ap (hT y E H) (some (hY c3)) (some (hY g)) none).run P w= .ok (hT c2 c1 b6) b9/\
 callE P l7 #[hT c2 c1 b6] (λe c4=> ∃b7,e= hQ (kT b7)/\
 ∃I U,∃a6 a7,(Instr.buildSlice ap 1 #[(0,.iface bH (kT b7))]).run P c4= .ok (hT I U a6) a7/\
 ∃V O,∃W b3,(Builtin.append_ #[ap,ap] ap #[hT b5 b8 b4,hT I U a6]).run P a7= .ok (hT V O W) b3/\
 k2 R Xa y E H V O W g b3) b9)
 (k2 R Xa y E H b5 b8 b4 g w)
def bl1 (R:EP)(Xa:OA->Nat->Nat->OA->Nat->Nat->Int->Int->WP)(E:OA)(y O:Nat)(U:OA)(H I:Nat)(V g:Int)(w:World):Prop:=
 br (decide (g<(y:Int)))
 (0<=g/\g<(y:Int)/\
 aA E λa3=>
 ∃(a7:Value),w.cell? (a3.add (Int.toNat g*1))=some a7/\
 callE P kj #[a7] (λe b4=> ∃W,e= hQ (kT W)/\
 ∃b3 a6,(do eqGuard .neq bH (.tmp 21) (.const (kT none)) (kT W) (kT none);binOp .neq bH (kT W) (kT none)).run P b4= .ok (hV b3) a6/\
 br b3
 (Xa E y O U H I V (i64.wrap (g+1)) a6)
 (k1 R Xa E y O U H I V g a6)) w)
 (k1 R Xa E y O U H I V g w)
def l1 (R:EP)(y:OA)(H I:Nat)(O:OA)(g E:Nat)(U V:Int)(w:World):Prop:=
 ∀X:OA->Nat->Nat->OA->Nat->Nat->Int->Int->WP,(∀y H I O g E U V w,bl1 R X y H I O g E U V w->X y H I O g E U V w)->X y H I O g E U V w
end bG
def bG (R:EP)(V E:OA)(H O:Nat)(w:World):Prop:=
 ∃y I,∃g U,(Instr.sliceAt ap (hT E H O) none (some (hY 0)) none).run P w= .ok (hT y I g) U/\
 bG.l1 R E H O y I g 0 0 U
theorem bG.sound {R x0 x1q x1n x1c w}(h:bG R x0 x1q x1n x1c w):callE P fx #[kT x0,hT x1q x1n x1c] R w:=
 aH [(87,.lp [23,103,127,147] (bG.bl1 R) λXa=> [(12,.mk [23,103,127,147] (bG.k1 R Xa)),(28,.mk [23,103,147] (bG.k2 R Xa))])] Tryz.func126 Tryz.call126 h
namespace fE
def bl1 (R:EP)(Xa:OA->Nat->Nat->OA->Nat->Nat->Int->Int->WP)(b8:OA)(b4 b3:Nat)(O:OA)(V c3:Nat)(b6 g:Int)(w:World):Prop:=
 br (decide (g<b6))
 (0<=g/\g<(V:Int)/\
 aA O λa5=>
 ∃(b9:Value),w.cell? (a5.add (Int.toNat g*1))=some b9/\
 callE P kj #[b9] (λe c1=> ∃c2,e= hQ (kT c2)/\
 aA c2 λa9=>
 ∃b5,c1.cell? a9=some (hX b5)/\
 ∃E H,∃U a7,(Instr.buildSlice al 1 #[(0,hX b5)]).run P c1= .ok (hT E H U) a7/\
 ∃y I,∃W a6,(Builtin.append_ #[al,al] al #[hT b8 b4 b3,hT E H U]).run P a7= .ok (hT y I W) a6/\
 Xa y I W O V c3 b6 (i64.wrap (g+1)) a6) w)
 (callE P fR #[hT b8 b4 b3,hX (hP #[])] (λe c4=> ∃b7,e= hQ (hX b7)/\
 box c4 #[hX b7] nD λc5 c8=>
 R (hQ (kT (kE c5))) c8) w)
def l1 (R:EP)(O:OA)(H U:Nat)(E:OA)(g y:Nat)(I V:Int)(w:World):Prop:=
 ∀X:OA->Nat->Nat->OA->Nat->Nat->Int->Int->WP,(∀O H U E g y I V w,bl1 R X O H U E g y I V w->X O H U E g y I V w)->X O H U E g y I V w
end fE
def fE (R:EP)(y:OA)(g I:Nat)(w:World):Prop:=
 br ((g:Int)==1)
 (0<=(0:Int)/\0<(g:Int)/\
 aA y λa1=>
 ∃(E:Value),w.cell? (a1.add (Int.toNat 0*1))=some E/\
 callE P kj #[E] (λe O=> ∃H,e= hQ (kT H)/\
 R (hQ (kT H)) O) w)
 (fE.l1 R none 0 0 y g I (g:Int) 0 w)
theorem fE.sound {R x0q x0n x0c w}(h:fE R x0q x0n x0c w):callE P l7 #[hT x0q x0n x0c] R w:=
 aH [(87,.lp [63,263,287,307] (fE.bl1 R) λXa=> [])] Tryz.func180 Tryz.call180 h
def px (R:EP)(E:Value)(w:World):Prop:=
 ∃I a6 H,(Instr.typeAssert E aC bH true).run P w= .ok (.tuple #[kT I,hV a6]) H/\
 br a6
 (R (hQ (kT I)) H)
 (∃O U y,(Instr.typeAssert E aC aT true).run P H= .ok (.tuple #[kT O,hV U]) y/\
 br U
 (aA O λa5=>
 R (hQ (kT (some a5))) y)
 (∃V W g,(Instr.typeAssert E aC aQ true).run P y= .ok (.tuple #[kT V,hV W]) g/\
 br W
 (aA V λa8=>
 R (hQ (kT (some a8))) g)
 (R (hQ (kT none)) g)))
theorem px.sound {R x0 w}(h:px R x0 w):callE P kj #[x0] R w:=
 cD Tryz.func138 Tryz.call138 h
namespace aw
def k4 (R:EP)(Xa:OA->Nat->Nat->Nat->Nat->Value->Value->Int->WP)(f3:OA)(f1 e9:Nat)(g f4:Nat)(f6 f5:Value)(f0:Int)(y f2:OA)(w:World):Prop:=
 aA y λg4=>
 ∃e8,w.cell? (g4.add 1)=some (hV e8)/\
 br e8
 (∃g1 U g0,w.cell? (hZ g 0)=some (hT g1 U g0)/\
 aA y λh0=>
 stV w ((h0.add 3).add 0) (hY (U:Int)) λe4=>
 ∃b9 b6 d2,e4.cell? (hZ g 0)=some (hT b9 b6 d2)/\
 ∃d5 b5,∃O e1,(Instr.buildSlice ap 1 #[(0,.iface aT (kT y))]).run P e4= .ok (hT d5 b5 O) e1/\
 ∃W c4,∃c2 e7,(Builtin.append_ #[ap,ap] ap #[hT b9 b6 d2,hT d5 b5 O]).run P e1= .ok (hT W c4 c2) e7/\
 stV e7 (hZ g 0) (hT W c4 c2) λe3=>
 aA f2 λg5=>
 ∃e0 c1 d1,e3.cell? g5=some (hT e0 c1 d1)/\
 ∃b8 d3,∃a7 e5,(Instr.buildSlice cI 1 #[(0,kT y)]).run P e3= .ok (hT b8 d3 a7) e5/\
 ∃d4 c5,∃V e6,(Builtin.append_ #[cI,cI] cI #[hT e0 c1 d1,hT b8 d3 a7]).run P e5= .ok (hT d4 c5 V) e6/\
 aA f2 λg6=>
 stV e6 (g6.add 0) (hT d4 c5 V) λg2=>
 Xa f3 f1 e9 g f4 f6 f5 (i64.wrap (f0+1)) g2)
 (tk w λH=>
 aA y λg3=>
 ∃a6 d0 c8,H.cell? (hZ g 0)=some (hT a6 d0 c8)/\
 ∃b7 I,∃c3 E,(Instr.buildSlice ap 1 #[(0,.iface bH (kT (some g3)))]).run P H= .ok (hT b7 I c3) E/\
 SameC H E (hZ g 0) 1/\
 ∃c9 b4,∃b3 e2,(Builtin.append_ #[ap,ap] ap #[hT a6 d0 c8,hT b7 I c3]).run P E= .ok (hT c9 b4 b3) e2/\
 stV e2 (hZ g 0) (hT c9 b4 b3) λg7=>
 Xa f3 f1 e9 g f4 f6 f5 (i64.wrap (f0+1)) g7)
def k7 (R:EP)(Xa:OA->Nat->Nat->Nat->Nat->Value->Value->Int->WP)(e1:OA->Nat->Nat->Nat->Nat->Value->Value->Int->OA->OA->WP)(e8:OA->Nat->Nat->Nat->Nat->Value->Value->Int->OA->OA->Int->WP)(e0:OA)(d3 d0:Nat)(g e2:Nat)(e3 E:Value)(d1:Int)(d5 d2:OA)(e7:Int)(e6:Bool)(d4:OA)(w:World):Prop:=
 cY P (do let d <-Deferred.ofValue E #[];invoke d.target d.args) (λe y=>e= hQ (.tuple #[])/\
 br e6
 (False)
 (br (e7==2)
 (∃b9 a7 b5,y.cell? (hZ g 0)=some (hT b9 a7 b5)/\
 ∃O V,∃W c8,(Instr.buildSlice ap 1 #[(0,.iface ft (kT d4))]).run P y= .ok (hT O V W) c8/\
 ∃I c2,∃b8 c5,(Builtin.append_ #[ap,ap] ap #[hT b9 a7 b5,hT O V W]).run P c8= .ok (hT I c2 b8) c5/\
 stV c5 (hZ g 0) (hT I c2 b8) λe4=>
 e1 e0 d3 d0 g e2 e3 E d1 d5 d2 e4)
 (∃b7 b6 H,y.cell? (hZ g 0)=some (hT b7 b6 H)/\
 ∃b4 c3,∃c1 c4,(Instr.buildSlice ap 1 #[(0,.iface iU (kT d4))]).run P y= .ok (hT b4 c3 c1) c4/\
 ∃b3 a6,∃U c9,(Builtin.append_ #[ap,ap] ap #[hT b7 b6 H,hT b4 c3 c1]).run P c4= .ok (hT b3 a6 U) c9/\
 stV c9 (hZ g 0) (hT b3 a6 U) λe5=>
 e1 e0 d3 d0 g e2 e3 E d1 d5 d2 e5))) w
def k2 (R:EP)(Xa:OA->Nat->Nat->Nat->Nat->Value->Value->Int->WP)(U:OA)(H O:Nat)(a7 a6:Nat)(b3 W:Value)(V:Int)(y I:OA)(w:World):Prop:=
 aA y λE=>
 ∃g,w.cell? E=some (hX g)/\
 br (g.toList==(hP #[34]).toList)
 (False)
 (k4 R Xa U H O a7 a6 b3 W V y I w)
def k6 (R:EP)(Xa:OA->Nat->Nat->Nat->Nat->Value->Value->Int->WP)(g0:OA->Nat->Nat->Nat->Nat->Value->Value->Int->OA->OA->WP)(g2:OA->Nat->Nat->Nat->Nat->Value->Value->Int->OA->OA->Int->WP)(f6:OA)(f5 f2:Nat)(E g1:Nat)(g4 g3:Value)(f3:Int)(H f4 y:OA)(g:Int)(w:World):Prop:=
 aA H λg6=>
 ∃U,w.cell? g6=some (hX U)/\
 0<=(0:Int)/\0<(U.size:Int)/\
 tk w λI=>
 aA H λf1=>
 aA y λh9=>
 ∃b4,I.cell? f1=some (hX b4)/\
 0<=g/\g<=(b4.size:Int)/\
 ∃e1 d5 d0,I.cell? (hZ E 0)=some (hT e1 d5 d0)/\
 ∃f0,I.cell? (h9.add 3)=some (hY f0)/\
 ∃e0 c1 c5,(∀w,(Instr.sliceAt ap (hT e1 d5 d0) (some (hY (i64.wrap (f0+1)))) none none).run P w= .ok (hT e0 c1 c5) w)/\
 ∃d1 b8,∃d3 b5,(Builtin.append_ #[ap,ap] ap #[hT none 0 0,hT e0 c1 c5]).run P I= .ok (hT d1 b8 d3) b5/\
 SameC I b5 (f1) 1/\
 box b5 #[hX (b4.extract 0 (Int.toNat g)),hT d1 b8 d3] i9 λe7 h7=>
 tk h7 λa6=>
 aA y λh2=>
 aA y λg5=>
 ∃W,a6.cell? h2=some (hX W)/\
 ∃O,a6.cell? g5=some (hX O)/\
 0<=(i64.wrap ((O.size:Int) - g))/\(i64.wrap ((O.size:Int) - g))<=(W.size:Int)/\
 aA y λh6=>
 stV a6 (h6.add 0) (hX (W.extract 0 (Int.toNat (i64.wrap ((O.size:Int) - g))))) λe9=>
 aA H λh0=>
 ∃V,e9.cell? h0=some (hX V)/\
 0<=g/\g<=(V.size:Int)/\
 aA H λh8=>
 stV e9 (h8.add 0) (hX (V.extract (Int.toNat g) V.size)) λb6=>
 aA y λh3=>
 ∃e5,b6.cell? h3=some (hX e5)/\
 br (e5.toList==(hP #[]).toList)
 (tk b6 λb3=>
 aA y λh1=>
 ∃b7 d4 e2,b3.cell? (hZ E 0)=some (hT b7 d4 e2)/\
 ∃e8,b3.cell? (h1.add 3)=some (hY e8)/\
 ∃d2 c8 e4,(∀w,(Instr.sliceAt ap (hT b7 d4 e2) none (some (hY e8)) none).run P w= .ok (hT d2 c8 e4) w)/\
 stV b3 (hZ E 0) (hT d2 c8 e4) λh4=>
 k7 R Xa g0 g2 f6 f5 f2 E g1 g4 g3 f3 H f4 g ((bt U 0)==126) (kE e7) h4)
 (tk b6 λa7=>
 aA y λg7=>
 ∃e3 c9 c3,a7.cell? (hZ E 0)=some (hT e3 c9 c3)/\
 ∃e6,a7.cell? (g7.add 3)=some (hY e6)/\
 ∃b9 c2 c4,(∀w,(Instr.sliceAt ap (hT e3 c9 c3) none (some (hY (i64.wrap (e6+1)))) none).run P w= .ok (hT b9 c2 c4) w)/\
 stV a7 (hZ E 0) (hT b9 c2 c4) λh5=>
 k7 R Xa g0 g2 f6 f5 f2 E g1 g4 g3 f3 H f4 g ((bt U 0)==126) (kE e7) h5)
def k1 (R:EP)(Xa:OA->Nat->Nat->Nat->Nat->Value->Value->Int->WP)(a6:OA)(O V:Nat)(b5 H:Nat)(I b4:Value)(a7:Int)(y:OA)(w:World):Prop:=
 aA y λb7=>
 ∃U,w.cell? b7=some (hX U)/\
 br (!(U.toList==(hP #[]).toList))
 (aA y λb8=>
 ∃E,w.cell? b8=some (hX E)/\
 0<=(0:Int)/\0<(E.size:Int)/\
 cY P (do let d <-Deferred.ofValue I #[.int .u8 (bt E 0)];invoke d.target d.args) (λe b3=> ∃g,e= hQ (hY g)/\
 0<=g/\g<(5:Int)/\
 aA y λb6=>
 ∃W,b3.cell? b6=some (hX W)/\
 br (W.toList==(hP #[39]).toList)
 (False)
 (k2 R Xa a6 O V b5 H I b4 a7 y (some (((hZ H 0):Addr).add (Int.toNat g*1))) b3)) w)
 (Xa a6 O V b5 H I b4 (i64.wrap (a7+1)) w)
def k5 (R:EP)(Xa:OA->Nat->Nat->Nat->Nat->Value->Value->Int->WP)(a6:OA->Nat->Nat->Nat->Nat->Value->Value->Int->OA->OA->WP)(b3:OA->Nat->Nat->Nat->Nat->Value->Value->Int->OA->OA->Int->WP)(W:OA)(V I:Nat)(b5 a7:Nat)(b6 b4:Value)(O:Int)(g U:OA)(c4:Int)(y:OA)(w:World):Prop:=
 aA g λc2=>
 ∃H,w.cell? c2=some (hX H)/\
 0<=(0:Int)/\0<(H.size:Int)/\
 br ((bt H 0)==34)
 (False)
 (aA g λc1=>
 ∃E,w.cell? c1=some (hX E)/\
 0<=(0:Int)/\0<(E.size:Int)/\
 br ((bt E 0)==39)
 (False)
 (aA g λc3=>
 ∃b8,w.cell? c3=some (hX b8)/\
 br (decide ((b8.size:Int) >= 2))
 (aA y λb9=>
 ∃b7,w.cell? b9=some (hX b7)/\
 br (decide ((b7.size:Int) >= 2))
 (k6 R Xa a6 b3 W V I b5 a7 b6 b4 O g U y 2 w)
 (k6 R Xa a6 b3 W V I b5 a7 b6 b4 O g U y 1 w))
 (k6 R Xa a6 b3 W V I b5 a7 b6 b4 O g U y 1 w)))
def k3 (R:EP)(Xa:OA->Nat->Nat->Nat->Nat->Value->Value->Int->WP)(b4:OA->Nat->Nat->Nat->Nat->Value->Value->Int->OA->OA->WP)(b6:OA->Nat->Nat->Nat->Nat->Value->Value->Int->OA->OA->Int->WP)(a7:OA)(a6 U:Nat)(b8 b5:Nat)(b9 b7:Value)(V:Int)(y W:OA)(b3:Int)(H:OA)(w:World):Prop:=
 tk w λg=>
 aA y λc1=>
 ∃E,g.cell? c1=some (hX E)/\
 0<=(0:Int)/\0<(E.size:Int)/\
 br ((bt E 0)==126)
 (aA y λc3=>
 aA H λc2=>
 ∃O,g.cell? c3=some (hX O)/\
 ∃I,g.cell? c2=some (hX I)/\
 br ((O.size:Int) !=(I.size:Int))
 (False)
 (k5 R Xa b4 b6 a7 a6 U b8 b5 b9 b7 V y W b3 H g))
 (k5 R Xa b4 b6 a7 a6 U b8 b5 b9 b7 V y W b3 H g)
def bl3 (R:EP)(Xa:OA->Nat->Nat->Nat->Nat->Value->Value->Int->WP)(b6:OA->Nat->Nat->Nat->Nat->Value->Value->Int->OA->OA->WP)(b5:OA->Nat->Nat->Nat->Nat->Value->Value->Int->OA->OA->Int->WP)(U:OA)(O I:Nat)(a7 a6:Nat)(b4 b3:Value)(V:Int)(y W:OA)(H:Int)(w:World):Prop:=
 br (decide (H >= 0))
 (aA W λm4=>
 ∃d5 e0 g7,w.cell? m4=some (hT d5 e0 g7)/\
 0<=H/\H<(e0:Int)/\
 aA d5 λo4=>
 ∃E,w.cell? (o4.add (Int.toNat H*1))=some (kT E)/\
 tk w λg=>
 aA y λm5=>
 ∃b7,g.cell? m5=some (hX b7)/\
 0<=(0:Int)/\0<(b7.size:Int)/\
 br ((bt b7 0)==42)
 (aA y λn0=>
 ∃g5,g.cell? (n0.add 1)=some (hV g5)/\
 br g5
 (aA y λj1=>
 ∃g3,g.cell? (j1.add 2)=some (hV g3)/\
 br g3
 (aA y λn1=>
 aA E λm2=>
 ∃e5,g.cell? (n1.add 4)=some (hY e5)/\
 ∃g0,g.cell? (m2.add 4)=some (hY g0)/\
 (3:Int)≠0/\
 br ((Int.tmod (i64.wrap (e5+g0)) 3)==0)
 (aA y λo3=>
 ∃f5,g.cell? (o3.add 4)=some (hY f5)/\
 (3:Int)≠0/\
 br ((Int.tmod f5 3) !=0)
 (b5 U O I a7 a6 b4 b3 V y W (i64.wrap (H - 1)) g)
 (aA E λm8=>
 ∃g2,g.cell? (m8.add 4)=some (hY g2)/\
 (3:Int)≠0/\
 br ((Int.tmod g2 3) !=0)
 (b5 U O I a7 a6 b4 b3 V y W (i64.wrap (H - 1)) g)
 (k3 R Xa b6 b5 U O I a7 a6 b4 b3 V y W H E g)))
 (k3 R Xa b6 b5 U O I a7 a6 b4 b3 V y W H E g))
 (aA E λp1=>
 ∃f4,g.cell? (p1.add 1)=some (hV f4)/\
 br f4
 (aA E λo0=>
 ∃g4,g.cell? (o0.add 2)=some (hV g4)/\
 br g4
 (aA y λm9=>
 aA E λp3=>
 ∃f1,g.cell? (m9.add 4)=some (hY f1)/\
 ∃f3,g.cell? (p3.add 4)=some (hY f3)/\
 (3:Int)≠0/\
 br ((Int.tmod (i64.wrap (f1+f3)) 3)==0)
 (aA y λo2=>
 ∃e4,g.cell? (o2.add 4)=some (hY e4)/\
 (3:Int)≠0/\
 br ((Int.tmod e4 3) !=0)
 (b5 U O I a7 a6 b4 b3 V y W (i64.wrap (H - 1)) g)
 (aA E λk0=>
 ∃f0,g.cell? (k0.add 4)=some (hY f0)/\
 (3:Int)≠0/\
 br ((Int.tmod f0 3) !=0)
 (b5 U O I a7 a6 b4 b3 V y W (i64.wrap (H - 1)) g)
 (k3 R Xa b6 b5 U O I a7 a6 b4 b3 V y W H E g)))
 (k3 R Xa b6 b5 U O I a7 a6 b4 b3 V y W H E g))
 (k3 R Xa b6 b5 U O I a7 a6 b4 b3 V y W H E g))
 (k3 R Xa b6 b5 U O I a7 a6 b4 b3 V y W H E g)))
 (aA E λm3=>
 ∃f6,g.cell? (m3.add 1)=some (hV f6)/\
 br f6
 (aA E λo5=>
 ∃e6,g.cell? (o5.add 2)=some (hV e6)/\
 br e6
 (aA y λo6=>
 aA E λm1=>
 ∃e7,g.cell? (o6.add 4)=some (hY e7)/\
 ∃f2,g.cell? (m1.add 4)=some (hY f2)/\
 (3:Int)≠0/\
 br ((Int.tmod (i64.wrap (e7+f2)) 3)==0)
 (aA y λi8=>
 ∃e8,g.cell? (i8.add 4)=some (hY e8)/\
 (3:Int)≠0/\
 br ((Int.tmod e8 3) !=0)
 (b5 U O I a7 a6 b4 b3 V y W (i64.wrap (H - 1)) g)
 (aA E λm6=>
 ∃e9,g.cell? (m6.add 4)=some (hY e9)/\
 (3:Int)≠0/\
 br ((Int.tmod e9 3) !=0)
 (b5 U O I a7 a6 b4 b3 V y W (i64.wrap (H - 1)) g)
 (k3 R Xa b6 b5 U O I a7 a6 b4 b3 V y W H E g)))
 (k3 R Xa b6 b5 U O I a7 a6 b4 b3 V y W H E g))
 (k3 R Xa b6 b5 U O I a7 a6 b4 b3 V y W H E g))
 (k3 R Xa b6 b5 U O I a7 a6 b4 b3 V y W H E g)))
 (aA y λl5=>
 ∃b8,g.cell? l5=some (hX b8)/\
 0<=(0:Int)/\0<(b8.size:Int)/\
 br ((bt b8 0)==95)
 (aA y λn2=>
 ∃g1,g.cell? (n2.add 1)=some (hV g1)/\
 br g1
 (aA y λn3=>
 ∃g6,g.cell? (n3.add 2)=some (hV g6)/\
 br g6
 (aA y λj0=>
 aA E λp4=>
 ∃c1,g.cell? (j0.add 4)=some (hY c1)/\
 ∃b9,g.cell? (p4.add 4)=some (hY b9)/\
 (3:Int)≠0/\
 br ((Int.tmod (i64.wrap (c1+b9)) 3)==0)
 (aA y λh2=>
 ∃c2,g.cell? (h2.add 4)=some (hY c2)/\
 (3:Int)≠0/\
 br ((Int.tmod c2 3) !=0)
 (b5 U O I a7 a6 b4 b3 V y W (i64.wrap (H - 1)) g)
 (aA E λi3=>
 ∃c3,g.cell? (i3.add 4)=some (hY c3)/\
 (3:Int)≠0/\
 br ((Int.tmod c3 3) !=0)
 (b5 U O I a7 a6 b4 b3 V y W (i64.wrap (H - 1)) g)
 (k3 R Xa b6 b5 U O I a7 a6 b4 b3 V y W H E g)))
 (k3 R Xa b6 b5 U O I a7 a6 b4 b3 V y W H E g))
 (aA E λi1=>
 ∃d3,g.cell? (i1.add 1)=some (hV d3)/\
 br d3
 (aA E λh1=>
 ∃e2,g.cell? (h1.add 2)=some (hV e2)/\
 br e2
 (aA y λh6=>
 aA E λh8=>
 ∃c4,g.cell? (h6.add 4)=some (hY c4)/\
 ∃c8,g.cell? (h8.add 4)=some (hY c8)/\
 (3:Int)≠0/\
 br ((Int.tmod (i64.wrap (c4+c8)) 3)==0)
 (aA y λh3=>
 ∃d0,g.cell? (h3.add 4)=some (hY d0)/\
 (3:Int)≠0/\
 br ((Int.tmod d0 3) !=0)
 (b5 U O I a7 a6 b4 b3 V y W (i64.wrap (H - 1)) g)
 (aA E λi0=>
 ∃d4,g.cell? (i0.add 4)=some (hY d4)/\
 (3:Int)≠0/\
 br ((Int.tmod d4 3) !=0)
 (b5 U O I a7 a6 b4 b3 V y W (i64.wrap (H - 1)) g)
 (k3 R Xa b6 b5 U O I a7 a6 b4 b3 V y W H E g)))
 (k3 R Xa b6 b5 U O I a7 a6 b4 b3 V y W H E g))
 (k3 R Xa b6 b5 U O I a7 a6 b4 b3 V y W H E g))
 (k3 R Xa b6 b5 U O I a7 a6 b4 b3 V y W H E g)))
 (aA E λh0=>
 ∃d1,g.cell? (h0.add 1)=some (hV d1)/\
 br d1
 (aA E λh9=>
 ∃e3,g.cell? (h9.add 2)=some (hV e3)/\
 br e3
 (aA y λh7=>
 aA E λh5=>
 ∃c5,g.cell? (h7.add 4)=some (hY c5)/\
 ∃e1,g.cell? (h5.add 4)=some (hY e1)/\
 (3:Int)≠0/\
 br ((Int.tmod (i64.wrap (c5+e1)) 3)==0)
 (aA y λi2=>
 ∃c9,g.cell? (i2.add 4)=some (hY c9)/\
 (3:Int)≠0/\
 br ((Int.tmod c9 3) !=0)
 (b5 U O I a7 a6 b4 b3 V y W (i64.wrap (H - 1)) g)
 (aA E λh4=>
 ∃d2,g.cell? (h4.add 4)=some (hY d2)/\
 (3:Int)≠0/\
 br ((Int.tmod d2 3) !=0)
 (b5 U O I a7 a6 b4 b3 V y W (i64.wrap (H - 1)) g)
 (k3 R Xa b6 b5 U O I a7 a6 b4 b3 V y W H E g)))
 (k3 R Xa b6 b5 U O I a7 a6 b4 b3 V y W H E g))
 (k3 R Xa b6 b5 U O I a7 a6 b4 b3 V y W H E g))
 (k3 R Xa b6 b5 U O I a7 a6 b4 b3 V y W H E g)))
 (k3 R Xa b6 b5 U O I a7 a6 b4 b3 V y W H E g)))
 (k1 R Xa U O I a7 a6 b4 b3 V y w)
def l3 (R:EP)(Xa:OA->Nat->Nat->Nat->Nat->Value->Value->Int->WP)(b3:OA->Nat->Nat->Nat->Nat->Value->Value->Int->OA->OA->WP)(E:OA)(g y:Nat)(a6 W:Nat)(a7 V:Value)(I:Int)(O U:OA)(H:Int)(w:World):Prop:=
 ∀X:OA->Nat->Nat->Nat->Nat->Value->Value->Int->OA->OA->Int->WP,(∀E g y a6 W a7 V I O U H w,bl3 R Xa b3 X E g y a6 W a7 V I O U H w->X E g y a6 W a7 V I O U H w)->X E g y a6 W a7 V I O U H w
def bl2 (R:EP)(Xa:OA->Nat->Nat->Nat->Nat->Value->Value->Int->WP)(b8:OA->Nat->Nat->Nat->Nat->Value->Value->Int->OA->OA->WP)(O:OA)(E H:Nat)(a7 a6:Nat)(b3 W:Value)(U:Int)(g V:OA)(w:World):Prop:=
 aA g λb6=>
 ∃I,w.cell? b6=some (hX I)/\
 br (!(I.toList==(hP #[]).toList))
 (aA V λb7=>
 ∃b4 y b5,w.cell? b7=some (hT b4 y b5)/\
 l3 R Xa b8 O E H a7 a6 b3 W U g V (i64.wrap ((y:Int) - 1)) w)
 (k1 R Xa O E H a7 a6 b3 W U g w)
def l2 (R:EP)(Xa:OA->Nat->Nat->Nat->Nat->Value->Value->Int->WP)(E:OA)(g y:Nat)(W V:Nat)(a6 U:Value)(H:Int)(I O:OA)(w:World):Prop:=
 ∀X:OA->Nat->Nat->Nat->Nat->Value->Value->Int->OA->OA->WP,(∀E g y W V a6 U H I O w,bl2 R Xa X E g y W V a6 U H I O w->X E g y W V a6 U H I O w)->X E g y W V a6 U H I O w
def bl1 (R:EP)(Xa:OA->Nat->Nat->Nat->Nat->Value->Value->Int->WP)(H:OA)(E a6:Nat)(y U:Nat)(V b3:Value)(g:Int)(w:World):Prop:=
 br (decide (g<(E:Int)))
 (0<=g/\g<(E:Int)/\
 aA H λa5=>
 ∃(f5:Value),w.cell? (a5.add (Int.toNat g*1))=some f5/\
 ∃e2 c5 b4,(Instr.typeAssert f5 aC aQ true).run P w= .ok (.tuple #[kT e2,hV c5]) b4/\
 br c5
 (tk b4 λb8=>
 aA e2 λa10=>
 ∃d1 d3 e5,b8.cell? (hZ y 0)=some (hT d1 d3 e5)/\
 ∃e4 c9,∃c1 b5,(Instr.buildSlice ap 1 #[(0,.iface bH (kT (some a10)))]).run P b8= .ok (hT e4 c9 c1) b5/\
 SameC b8 b5 (hZ y 0) 1/\
 ∃e7 d5,∃e1 f1,(Builtin.append_ #[ap,ap] ap #[hT d1 d3 e5,hT e4 c9 c1]).run P b5= .ok (hT e7 d5 e1) f1/\
 stV f1 (hZ y 0) (hT e7 d5 e1) λf6=>
 Xa H E a6 y U V b3 (i64.wrap (g+1)) f6)
 (0<=g/\g<(E:Int)/\
 aA H λg5=>
 ∃(f2:Value),b4.cell? (g5.add (Int.toNat g*1))=some f2/\
 ∃O b9 I,(Instr.typeAssert f2 aC aT true).run P b4= .ok (.tuple #[kT O,hV b9]) I/\
 br (!b9)
 (tk I λa7=>
 0<=g/\g<(E:Int)/\
 aA H λg0=>
 ∃d0 d2 d4,a7.cell? (hZ y 0)=some (hT d0 d2 d4)/\
 ∃(f4:Value),a7.cell? (g0.add (Int.toNat g*1))=some f4/\
 ∃e6 c8,∃e0 b7,(Instr.buildSlice ap 1 #[(0,f4)]).run P a7= .ok (hT e6 c8 e0) b7/\
 SameC a7 b7 (hZ y 0) 1/\
 ∃c2 e8,∃e3 f0,(Builtin.append_ #[ap,ap] ap #[hT d0 d2 d4,hT e6 c8 e0]).run P b7= .ok (hT c2 e8 e3) f0/\
 stV f0 (hZ y 0) (hT c2 e8 e3) λg1=>
 Xa H E a6 y U V b3 (i64.wrap (g+1)) g1)
 (aA O λg3=>
 ∃f3,I.cell? (g3.add 2)=some (hV f3)/\
 br f3
 (aA O λg2=>
 ∃b6,I.cell? g2=some (hX b6)/\
 0<=(0:Int)/\0<(b6.size:Int)/\
 cY P (do let d <-Deferred.ofValue V #[.int .u8 (bt b6 0)];invoke d.target d.args) (λe g4=> ∃W,e= hQ (hY W)/\
 0<=W/\W<(5:Int)/\
 l2 R Xa H E a6 y U V b3 g O (some (((hZ U 0):Addr).add (Int.toNat W*1))) g4) I)
 (k1 R Xa H E a6 y U V b3 g O I))))
 (∃e9 c3 c4,w.cell? (hZ y 0)=some (hT e9 c3 c4)/\
 R (hQ (hT e9 c3 c4)) w)
def l1 (R:EP)(E:OA)(g y:Nat)(U O:Nat)(V I:Value)(H:Int)(w:World):Prop:=
 ∀X:OA->Nat->Nat->Nat->Nat->Value->Value->Int->WP,(∀E g y U O V I H w,bl1 R X E g y U O V I H w->X E g y U O V I H w)->X E g y U O V I H w
end aw
def aw (R:EP)(a6 E:OA)(O U:Nat)(I:OA)(y H:Nat)(w:World):Prop:=
 box w #[hT E O U] ap λb1 W=>
 box W #[hT none 0 0,hT none 0 0,hT none 0 0,hT none 0 0,hT none 0 0] iV λg V=>
 aw.l1 R I y H b1 g (.func (.func fA) #[] #[]) (.func (.func fz) #[] #[kT (kE g),kT (kE b1)]) 0 V
theorem aw.sound {R x0 x1q x1n x1c x2q x2n x2c w}(h:aw R x0 x1q x1n x1c x2q x2n x2c w):callE P fi #[kT x0,hT x1q x1n x1c,hT x2q x2n x2c] R w:=
 aH [(701,.lp [43,86,146,165,185,207] (aw.bl1 R) λXa=> [(305,.dr (rpN [3,6,9,12,1,17,20,23])),(601,.dr (rpN [3,6,9,1,13,17,20,23])),(11449,.lp [43,86,146,165,185,207,262,302] (aw.bl2 R Xa) λg=> [(41,.lp [43,86,146,165,185,207,262,302,327] (aw.bl3 R Xa g) λy=> [(73,.dr (rpN [0,3,6,9,13,15,18,21,24,27,30,33,37,39,42,45,48,51,54,57,61,63,66,69,72,76,78,81,84,87,90,94,96,99,102,105,109,111,114,117,120,123,126,129,135,138,141,133,145,147,150,153,156,159,162,165,168,172,174,177,180,183,186,189,193,195,198,201,204])),(57,.mk [43,86,146,165,185,207,262,302,327,342] (aw.k3 R Xa g y)),(153,.dr (rpN [0,3,6,9,13,15,18,21,24,27,30,33,42,45,48,51,37,39,55,57,60,63])),(345,.no),(121,.mk [43,86,146,165,185,207,262,302,327,342] (aw.k5 R Xa g y)),(697,.no),(1401,.no),(2041,.mk [43,86,146,165,185,207,262,302,342,367] (aw.k6 R Xa g y)),(6137,.dr (rpN [0,3,6,9,15,24,27,30,13,18,22,34,36,39,44,45,50,51])),(12281,.dr (rpN [0,3,6,9,12,18,21,24,27,36,16,31,33,39,42,45,48,51,56])),(180217,.dr (rpN [3,6,9,1,13,15,20])),(245753,.dr (rpN [3,6,9,1,13,15,18,23])),(65529,.mk [43,86,146,165,185,207,262,302,367,380,402] (aw.k7 R Xa g y)),(720889,.no)])]),(249,.mk [43,86,146,165,185,207,262] (aw.k1 R Xa)),(11001,.no),(3833,.mk [43,86,146,165,185,207,262,422] (aw.k2 R Xa)),(22265,.no),(7929,.mk [43,86,146,165,185,207,262,422] (aw.k4 R Xa)),(32505,.dr (rpN [3,6,9,12,1,17,20,23]))])] Tryz.func125 Tryz.call125 h
def gM (R:EP)(g:OA)(E:Int)(w:World):Prop:=
 aA g λa1=>
 ∃c1,w.cell? (a1.add 8)=some (hY c1)/\
 br (decide (c1<E))
 (tk w λy=>
 aA g λa4=>
 aA g λa5=>
 aA g λc9=>
 ∃b9 b8 b7,y.cell? (a4.add 9)=some (hT b9 b8 b7)/\
 ∃U,y.cell? (a5.add 7)=some (hX U)/\
 ∃H,y.cell? (c9.add 8)=some (hY H)/\
 0<=H/\H<=E/\E<=(U.size:Int)/\
 box y #[hX (U.extract (Int.toNat H) (Int.toNat E))] nD λc5 I=>
 SameC y I (a4.add 9) 1/\
 ∃b4 W,∃V O,(Instr.buildSlice ap 1 #[(0,.iface bH (kT (kE c5)))]).run P I= .ok (hT b4 W V) O/\
 SameC I O (a4.add 9) 1/\
 ∃b5 a7,∃b3 b6,(Builtin.append_ #[ap,ap] ap #[hT b9 b8 b7,hT b4 W V]).run P O= .ok (hT b5 a7 b3) b6/\
 aA g λc2=>
 stV b6 ((c2.add 9).add 0) (hT b5 a7 b3) λc3=>
 aA g λc4=>
 stV c3 ((c4.add 8).add 0) (hY E) λc8=>
 R (hQ (.tuple #[])) c8)
 (R (hQ (.tuple #[])) w)
theorem gM.sound {R x0 x1 w}(h:gM R x0 x1 w):callE P dn #[kT x0,hY x1] R w:=
 aH [(9,.dr (rpN [0,3,6,9,15,18,21,27,30,33,39,13,25,37,42,45,50,51,56,59,60,63,68]))] Tryz.func121 Tryz.call121 h
def jm (R:EP)(g:OA)(y:Int)(w:World):Prop:=
 aA g λa1=>
 stV w ((a1.add 8).add 0) (hY y) λE=>
 R (hQ (.tuple #[])) E
theorem jm.sound {R x0 x1 w}(h:jm R x0 x1 w):callE P gI #[kT x0,hY x1] R w:=
 cD Tryz.func122 Tryz.call122 h
namespace aG
def bl1 (R:EP)(Xa:OA->Int->WP)(g:OA)(E:Int)(w:World):Prop:=
 aA g λa3=>
 ∃H y I,w.cell? (a3.add 4)=some (hT H y I)/\
 br (decide ((y:Int)>E))
 (callE P aI #[kT g] (λe U=> ∃(O:Value),e= hQ O/\
 Xa g E U) w)
 (R (hQ (.tuple #[])) w)
def l1 (R:EP)(g:OA)(y:Int)(w:World):Prop:=
 ∀X:OA->Int->WP,(∀g y w,bl1 R X g y w->X g y w)->X g y w
def k1 (R:EP)(g:OA)(y:Int)(w:World):Prop:=
 l1 R g y w
end aG
def aG (R:EP)(E:OA)(y:Int)(w:World):Prop:=
 aA E λa1=>
 ∃H g I,w.cell? (a1.add 4)=some (hT H g I)/\
 br (decide ((g:Int)<y))
 (False)
 (aG.k1 R E y w)
theorem aG.sound {R x0 x1 w}(h:aG R x0 x1 w):callE P bj #[kT x0,hY x1] R w:=
 aH [(10,.no),(3,.mk [2,27] (aG.k1 R)),(5,.lp [2,27] (aG.bl1 R) λXa=> [])] Tryz.func81 Tryz.call81 h
namespace aK
def k3 (R:EP)(g:OA)(H:Value)(w:World):Prop:=
 tk w λI=>
 aA g λf3=>
 aA g λf1=>
 ∃a6 c2 b8,I.cell? (f3.add 4)=some (hT a6 c2 b8)/\
 ∃d5 U e4,I.cell? (f1.add 4)=some (hT d5 U e4)/\
 ∃c4 b7 c5,(∀w,(Instr.sliceAt fP (hT a6 c2 b8) none (some (hY (i64.wrap ((U:Int) - 1)))) none).run P w= .ok (hT c4 b7 c5) w)/\
 aA g λf2=>
 stV I ((f2.add 4).add 0) (hT c4 b7 c5) λO=>
 aA g λe7=>
 ∃e0 c9 e3,O.cell? (e7.add 4)=some (hT e0 c9 e3)/\
 br (decide ((c9:Int)>0))
 (tk O λE=>
 aA g λf4=>
 aA g λe9=>
 ∃a7 b5 e1,E.cell? (f4.add 4)=some (hT a7 b5 e1)/\
 ∃e5 y e2,E.cell? (e9.add 4)=some (hT e5 y e2)/\
 0<=(i64.wrap ((y:Int) - 1))/\(i64.wrap ((y:Int) - 1))<(b5:Int)/\
 aA a7 λd3=>
 ∃c8 V b4,E.cell? ((d3.add (Int.toNat (i64.wrap ((y:Int) - 1))*4)).add 1)=some (hT c8 V b4)/\
 ∃c1 b3,∃b6 d4,(Instr.buildSlice fQ 1 #[(0,H)]).run P E= .ok (hT c1 b3 b6) d4/\
 ∃W c3,∃b9 d0,(Builtin.append_ #[fQ,fQ] fQ #[hT c8 V b4,hT c1 b3 b6]).run P d4= .ok (hT W c3 b9) d0/\
 stV d0 (((d3.add (Int.toNat (i64.wrap ((y:Int) - 1))*4)).add 1).add 0) (hT W c3 b9) λe6=>
 R (hQ H) e6)
 (∃d1 d2,(Instr.typeAssert H aO da false).run P O= .ok (kT d1) d2/\
 aA g λe8=>
 stV d2 ((e8.add 1).add 0) (kT d1) λf0=>
 R (hQ H) f0)
def k2 (R:EP)(E:OA)(O:Value)(U:OA)(w:World):Prop:=
 aA E λH=>
 ∃y,w.cell? H=some (kT y)/\
 aA y λI=>
 ∃g,w.cell? (I.add 2)=some (hV g)/\
 br g
 (False)
 (k3 R E O w)
def k1 (R:EP)(g b7:OA)(w:World):Prop:=
 aA b7 λa10=>
 ∃(U:Value),w.cell? a10=some U/\
 cY P (callMethod U "pub-paratext/pub/rscmarkdown.build" #[.iface ah (kT g)]) (λe b6=> ∃(y:Value),e= hQ y/\
 ∃H I E,(Instr.typeAssert y aO dl true).run P b6= .ok (.tuple #[kT H,hV I]) E/\
 br I
 (aA g λa6=>
 ∃V,E.cell? (a6.add 6)=some (hV V)/\
 br V
 (aA g λa7=>
 stV E ((a7.add 6).add 0) (hV true) λb5=>
 k2 R g y H b5)
 (callE P kQ #[kT H] (λe b4=> ∃O,e= hQ (hV O)/\
 aA g λb3=>
 stV b4 ((b3.add 6).add 0) (hV O) λW=>
 k2 R g y H W) E))
 (k3 R g y E)) w
end aK
def aK (R:EP)(E:OA)(w:World):Prop:=
 tk w λy=>
 aA E λa2=>
 aA E λa3=>
 ∃I O b4,y.cell? (a2.add 4)=some (hT I O b4)/\
 ∃b3 g a7,y.cell? (a3.add 4)=some (hT b3 g a7)/\
 0<=(i64.wrap ((g:Int) - 1))/\(i64.wrap ((g:Int) - 1))<(O:Int)/\
 aA I λU=>
 ∃(H:Value),y.cell? (U.add (Int.toNat (i64.wrap ((g:Int) - 1))*4))=some H/\
 ∃W V,(do eqGuard .eql bP (.tmp 22) (.const .nilIface) H .nilIface;binOp .eql bP H .nilIface).run P y= .ok (hV W) V/\
 br W
 (False)
 (aK.k1 R E (some (U.add (Int.toNat (i64.wrap ((g:Int) - 1))*4))) V)
theorem aK.sound {R x0 w}(h:aK R x0 w):callE P aI #[kT x0] R w:=
 aH [(5,.dr (rpN [0,3,6,12,15,18,10,22,24,27,30,33])),(43,.no),(15,.mk [2,62] (aK.k1 R)),(879,.mk [2,85,102] (aK.k2 R)),(2927,.no),(63,.mk [2,85] (aK.k3 R)),(95,.dr (rpN [0,3,6,9,15,18,21,13,25,27,30,33,36,39,44])),(1215,.dr (rpN [0,3,6,12,15,18,10,22,24,27,30,33]))] Tryz.func107 Tryz.call107 h
def iJ (R:EP)(b4:OA)(y:Value)(w:World):Prop:=
 tk w λg=>
 ∃r2,(∀w,(Instr.typeAssert y lO ah false).run P w= .ok (kT r2) w)/\
 aA r2 λa3=>
 ∃(a6:Option Nat),g.cell? (a3.add 2)=some (.map a6)/\
 cY P (callMethod y "pub-paratext/pub/rscmarkdown.pos" #[]) (λe E=> ∃I H,e= hQ (.agg #[hY I,hY H])/\
 SameC g E (a3.add 2) 1/\
 cY P (callMethod y "pub-paratext/pub/rscmarkdown.blocks" #[]) (λe W=> ∃V O U,e= hQ (hT V O U)/\
 SameC E W (a3.add 2) 1/\
 box W #[hY I,hY H,hT V O U,.map a6] oB λb3 a7=>
 R (hQ (.iface da (kT (kE b3)))) a7) E) g
theorem iJ.sound {R x0 x1 w}(h:iJ R x0 x1 w):callE P iy #[kT x0,x1] R w:=
 aH [(5,.dr (rpN [0,6,12,15,18,21,25,5,11,27,32,33,36]))] Tryz.func368 Tryz.call368 h
namespace cG
def k1 (R:EP)(d0:OA)(b6:Value)(b5:BA)(w:World):Prop:=
 br (b5.toList==(hP #[]).toList)
 (False)
 (cY P (callMethod b6 "pub-paratext/pub/rscmarkdown.pos" #[]) (λe c3=> ∃I H,e= hQ (.agg #[hY I,hY H])/\
 box c3 #[hY 0,hY 0] aF λg b9=>
 stV b9 (hZ g 0) (hY I) λc2=>
 stV c2 (hZ g 1) (hY H) λc1=>
 tk c1 λE=>
 aA d0 λc5=>
 ∃a7,E.cell? (hZ g 0)=some (hY a7)/\
 ∃b8 O b7,E.cell? c5=some (hT b8 O b7)/\
 stV E (hZ g 1) (hY (i64.wrap ((i64.wrap (a7+(O:Int))) - 1))) λc8=>
 tk c8 λy=>
 ∃a6,y.cell? (hZ g 0)=some (hY a6)/\
 ∃b3,y.cell? (hZ g 1)=some (hY b3)/\
 ∃b4,y.cell? (hZ g 0)=some (hY b4)/\
 ∃W,y.cell? (hZ g 1)=some (hY W)/\
 cY P (callMethod b6 "pub-paratext/pub/rscmarkdown.newText" #[.agg #[hY b4,hY W],hX b5]) (λe U=> ∃V,e= hQ (kT V)/\
 SameC y U (hZ g 0) 2/\
 box U #[hY a6,hY b3,kT V] mF λc4 c9=>
 R (hQ (.iface bB (kT (kE c4)))) c9) y) w)
def bl1 (R:EP)(Xa:OA->Value->BA->WP)(O:OA)(E:Value)(g:BA)(w:World):Prop:=
 br (!(g.toList==(hP #[]).toList))
 (callE P gJ #[E,hX g] (λe I=> ∃H y,e= hQ (.tuple #[hY H,hV y])/\
 br (!y)
 (k1 R O E g I)
 (False)) w)
 (False)
def l1 (R:EP)(g:OA)(y:Value)(E:BA)(w:World):Prop:=
 ∀X:OA->Value->BA->WP,(∀g y E w,bl1 R X g y E w->X g y E w)->X g y E w
end cG
def cG (R:EP)(E:OA)(a6:Value)(w:World):Prop:=
 aA E λa1=>
 ∃g,w.cell? (a1.add 1)=some (kT g)/\
 ∃U y,(do eqGuard .neq ff (.tmp 12) (.const (kT none)) (kT g) (kT none);binOp .neq ff (kT g) (kT none)).run P w= .ok (hV U) y/\
 br U
 (False)
 (aA E λa5=>
 ∃I O H,y.cell? a5=some (hT I O H)/\
 callE P fR #[hT I O H,hX (hP #[10])] (λe W=> ∃V,e= hQ (hX V)/\
 cG.l1 R E a6 V W) y)
theorem cG.sound {R x0 x1 w}(h:cG R x0 x1 w):callE P iA #[kT x0,x1] R w:=
 aH [(21,.no),(39,.lp [2,25,101] (cG.bl1 R) λXa=> [(14,.no),(117,.no)]),(31,.mk [2,25,101] (cG.k1 R)),(175,.no),(191,.dr (rpN [0,6,9,12,4,16,18,21,24,27,32])),(383,.dr (rpN [3,9,1,7,14,15,20,21,24]))] Tryz.func422 Tryz.call422 h
def gY (R:EP)(b8:OA)(c3 c2:Int)(c5:BA)(w:World):Prop:=
 box w #[hY c3,hY c2] aF λb1 g=>
 ∃b9,g.cell? (hZ b1 0)=some (hY b9)/\
 ∃c1,g.cell? (hZ b1 1)=some (hY c1)/\
 box g #[hY b9,hY c1,hT none 0 0,hX c5] AV λb6 b7=>
 aA b8 λc8=>
 ∃b3 U a6,b7.cell? (c8.add 11)=some (hT b3 U a6)/\
 ∃b4 W,∃O V,(Instr.buildSlice j7 1 #[(0,kT (kE b6))]).run P b7= .ok (hT b4 W O) V/\
 ∃y E,∃H I,(Builtin.append_ #[j7,j7] j7 #[hT b3 U a6,hT b4 W O]).run P V= .ok (hT y E H) I/\
 aA b8 λa13=>
 stV I ((a13.add 11).add 0) (hT y E H) λc4=>
 R (hQ (kT (kE b6))) c4
theorem gY.sound {R x0 x1_0 x1_1 x2 w}(h:gY R x0 x1_0 x1_1 x2 w):callE P eZ #[kT x0,.agg #[hY x1_0,hY x1_1],hX x2] R w:=
 cD Tryz.func192 Tryz.call192 h
def jL (R:EP)(W:OA)(w:World):Prop:=
 box w #[hY 0,hY 0] aF λb1 b6=>
 tk b6 λy=>
 aA W λa4=>
 aA W λa5=>
 ∃O V b5,y.cell? (a4.add 4)=some (hT O V b5)/\
 ∃b3 g a7,y.cell? (a5.add 4)=some (hT b3 g a7)/\
 0<=(i64.wrap ((g:Int) - 1))/\(i64.wrap ((g:Int) - 1))<(V:Int)/\
 aA O λa8=>
 ∃a6,y.cell? (((a8.add (Int.toNat (i64.wrap ((g:Int) - 1))*4)).add 2).add 0)=some (hY a6)/\
 ∃U,y.cell? (((a8.add (Int.toNat (i64.wrap ((g:Int) - 1))*4)).add 2).add 1)=some (hY U)/\
 stV y (hZ b1 0) (hY a6) λb4=>
 stV b4 (hZ b1 1) (hY U) λE=>
 ∃I,E.cell? (hZ b1 0)=some (hY I)/\
 ∃H,E.cell? (hZ b1 1)=some (hY H)/\
 R (hQ (.agg #[hY I,hY H])) E
theorem jL.sound {R x0 w}(h:jL R x0 w):callE P jK #[kT x0] R w:=
 aH [(5,.dr (rpN [0,3,6,12,15,18,10,22,24,27,30,33]))] Tryz.func421 Tryz.call421 h
end Go.Proofs.YtendaipfdnhnaaaGreatDoor
