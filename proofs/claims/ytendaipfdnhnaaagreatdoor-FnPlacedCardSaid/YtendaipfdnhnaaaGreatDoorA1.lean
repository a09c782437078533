/- Part 1 of the proof of the law FnPlaced: for every input the law returns true, the inputs read as they did, and memory that was there is as it was; under the conditions of the given row alone. -/
import Derived.Tactics
import Derived.Orders
import Derived.KernelRfl
import Derived.Scope
import Derived.OrdersHeld
import Derived.ArgAppend
import Derived.ChangeFn
import Derived.IntWalk
import Derived.ChangeSame
import Derived.Test.YtendaipfdnhnaaaGreatDoorProg
set_option linter.all false
open Go.IntKind(i64)
open ByteArray renaming mk→hP
open List renaming replicate→hN
namespace Go.Proofs.YtendaipfdnhnaaaGreatDoor

abbrev Fr:=Nat->Value
def upd (ρ:Fr)(d:Nat)(v:Value):Fr:=λt=>match Nat.beq t d with|true=>v|false=>ρ t
def rg (ρ:Fr):Option Nat->Value->Fr
 |none,_=>ρ
 |some d,v=>upd ρ d v
def rd (ρ:Fr):Operand->Value
 | .tmp t=>ρ t
 | .const v=>v
 | .global g=> .pointer (some ⟨g,0,none⟩)
 | .func f=> .func (.func f) #[] #[]
structure RelF (n:Nat) (a:Act) (ρ:Fr):Prop where
 size:a.tmps.size=n
 defers:a.defers= []
 get: ∀t,a.tmps.getD t undef=ρ t

theorem ro (ρ:Fr)(d:Nat):upd ρ d (ρ d)=ρ:=by
 funext t
 unfold upd
 cases h:Nat.beq t d with
 |true=>rw[Nat.eq_of_beq_eq_true h]
 |false=>rfl

theorem RelF.eval {n:Nat}{a:Act}{ρ:Fr}(h:RelF n a ρ)(x:Operand):a.eval x=rd ρ x:=by
 cases x<;>simp[Act.eval,rd,h.get]

theorem RelF.put {n:Nat}{a:Act}{ρ:Fr}(h:RelF n a ρ)(d:Option Nat)(v:Value)(hd: ∀k,d=some k->k<n):RelF n (a.put d v) (rg ρ d v):=by
 cases d with
 |none=>exact h
 |some d=>
  have y:=hd d rfl
  refine⟨by simp[Act.put,h.size],by simp[Act.put,h.defers],λt=>?_⟩
  have hs:=h.size
  simp only[Act.put,rg,upd]
  cases e:Nat.beq t d with
  |true=>
   have:=Nat.eq_of_beq_eq_true e
   subst this
   simp[Array.getD,hs,y]
  |false=>
   have g:t≠d:=λhc=>by subst hc;simp at e
   have E:=h.get t
   simp only[<-E,Array.getD_eq_getD_getElem?]
   rw[Array.getElem?_setIfInBounds_ne (Ne.symm g)]

inductive STy where
 |bool|int (k:IntKind)|str|ptr|slice|map|any
  |loc
def STy.of:Value->STy
 | .bool _=> .bool
 | .int k _=> .int k
 | .string _=> .str
 | .pointer _=> .ptr
 | .slice .. => .slice
 | .map _=> .map
 |_=> .any
inductive CTy where
 |s (t:STy)
 |agg (ts:List STy)
def CTy.of:Value->CTy
 | .agg cs=> .agg (cs.toList.map STy.of)
 |v=> .s (STy.of v)
inductive Ty where
 |c (t:CTy)
 |tuple (ts:List CTy)
def Ty.of:Value->Ty
 | .tuple vs=> .tuple (vs.toList.map CTy.of)
 |v=> .c (CTy.of v)
def FO (P:Program)(t:TypeId):Ty:=
 match P.types[t]? with
 |some i=>match i.zero with
  |some z=>Ty.of z
  |none=> .c (.s .any)
 |none=> .c (.s .any)

def DK (P:Program)(t:TypeId):CTy:=
 match FO P t with
 | .c c=>c
 | .tuple _=> .s .any
def okTy (c:CTy)(ok:Bool):Ty:=
 match ok with
 |true=> .tuple [c,.s .bool]
 |false=> .c c

def STy.ex:STy->(Value->Prop)->Prop
 | .bool,K=> ∃b:Bool,K (.bool b)
 | .int k,K=> ∃n:Int,K (.int k n)
 | .str,K=> ∃s:ByteArray,K (.string s)
 | .ptr,K=> ∃q:Option Addr,K (.pointer q)
 | .slice,K=> ∃(q:Option Addr) (n c:Nat),K (.slice q n c)
 | .map,K=> ∃q:Option Nat,K (.map q)
 | .any,K=> ∃v:Value,K v
 | .loc,K=> ∃b:Nat,K (.pointer (some ⟨b,0,none⟩))
def exS:List STy->(List Value->Prop)->Prop
 | [],K=>K []
 |t::ts,K=>t.ex λv=>exS ts λvs=>K (v::vs)
def CTy.ex:CTy->(Value->Prop)->Prop
 | .s t,K=>t.ex K
 | .agg ts,K=>exS ts λvs=>K (.agg vs.toArray)
def exC:List CTy->(List Value->Prop)->Prop
 | [],K=>K []
 |t::ts,K=>t.ex λv=>exC ts λvs=>K (v::vs)
def Ty.ex:Ty->(Value->Prop)->Prop
 | .c t,K=>t.ex K
 | .tuple ts,K=>exC ts λvs=>K (.tuple vs.toArray)

theorem STy.ex_out {t:STy}{K:Value->Prop}(h:t.ex K): ∃v,K v:=by
 cases t<;>simp only[STy.ex] at h
 case slice=>obtain⟨q,n,c,h⟩:=h;exact⟨_,h⟩
 all_goals obtain⟨x,h⟩:=h;exact⟨_,h⟩
theorem Ce: ∀ {ts:List STy} {K:List Value->Prop},exS ts K-> ∃vs,K vs/\vs.length=ts.length
 | [],_,h=>⟨[],h,rfl⟩
 |_::_,_,h=>by
  obtain⟨v,h⟩:=STy.ex_out h
  obtain⟨vs,h,g⟩:=Ce h
  exact⟨_,h,by simp[g]⟩
theorem CTy.ex_out {t:CTy}{K:Value->Prop}(h:t.ex K): ∃v,K v:=by
 cases t with
 |s t=>exact STy.ex_out h
 |agg ts=>obtain⟨vs,h,_⟩:=Ce h;exact⟨_,h⟩
theorem Cf: ∀ {ts:List CTy} {K:List Value->Prop},exC ts K-> ∃vs,K vs
 | [],_,h=>⟨[],h⟩
 |_::_,_,h=>by
  obtain⟨v,h⟩:=CTy.ex_out h
  obtain⟨vs,h⟩:=Cf h
  exact⟨_,h⟩
theorem Ty.ex_out {t:Ty}{K:Value->Prop}(h:t.ex K): ∃v,K v:=by
 cases t with
 |c t=>exact CTy.ex_out h
 |tuple ts=>obtain⟨vs,h⟩:=Cf h;exact⟨_,h⟩

def mJ (P:Program){g:Type}:Sem g->Option g
 | .pure a=>some a
 | .program k=>mJ P (k P)
 |_=>none
theorem jP (P:Program){g:Type}(s:Sem g)(a:g)(h:mJ P s=some a)(w:World):s.run P w= .ok a w:=by
 induction s with
 |pure x=>simp only[mJ,Option.some.injEq] at h;subst h;rfl
 |program k y=>exact y P h
 |_=>simp[mJ] at h
def nV (P:Program)(s:Sem Value)(K:Value->Prop):Prop:=
 match mJ P s with
 |some v=>K v
 |none=>False

def alc (w:World)(cs:Array Value)(e:TypeId):World:= {w with heap:=w.heap.push (.cells cs e)}
def aA (q:Option Addr)(K:Addr->Prop):Prop:=
 match q with
 |some a=>K a
 |none=>False
def GG:Value->Prop
 | .iface _ _=>True
 | .func (.func _) _ _=>True
 |_=>False
def nilV (v:Value)(K:Value->Prop):Prop:=
 match v with
 | .pointer q=>aA q λa=>K (.pointer (some a))
 |v=>GG v/\K v
def ldS (w:World):List STy->Addr->Nat->(List Value->Prop)->Prop
 | [],_,_,K=>K []
 |t::ts,a,i,K=>t.ex λv=>w.cell? (a.add i)=some v/\ldS w ts a (i+1) λvs=>K (v::vs)
def za (P:Program)(t:TypeId):Bool:=
 match P.underlying t with
 |some (.struct _)|some (.array _ _)=>true
 |_=>false
def xX (P:Program)(t:TypeId)(a:Addr)(w:World)(K:Value->Prop):Prop:=
 match P.info? t,P.underlying t with
 |some i,some _=>match za P t,i.zero with
  |true,some (.agg cs)=>match Nat.beq cs.toList.length i.size with
   |true=>ldS w (cs.toList.map STy.of) a 0 λvs=>K (.agg vs.toArray)
   |false=>False
  |false,some z=>(STy.of z).ex λv=>w.cell? a=some v/\K v
  |_,_=>False
 |_,_=>False
def nx:Value->Prop
 | .agg _| .tuple _=>False
 |_=>True
def stV (w:World)(a:Addr)(v:Value)(K:World->Prop):Prop:=
 nx v/\(∃u,w.cell? a=some u)/\w.frozen? a=false/\K (w.setCell a v)
def stS:List Value->Addr->Nat->World->(World->Prop)->Prop
 | [],_,_,w,K=>K w
 |v::vs,a,i,w,K=>stV w (a.add i) v λg=>stS vs a (i+1) g K
def Ct (v:Value)(K:Prop):Prop:=
 match v with
 | .bool _=>K
 | .int _ _=>K
 | .string _=>K
 | .pointer _=>K
 | .slice _ _ _=>K
 | .map _=>K
 | .func _ _ _=>K
 | .nilFunc=>K
 | .iface _ _=>K
 | .nilIface=>K
 | .agg _=>False
 | .tuple _=>False
 |v=>nx v/\K
def uc (P:Program)(t:TypeId)(v:Value)(K:List Value->Prop):Prop:=
 match za P t with
 |true=>match v with
  | .agg cs=>K cs.toList
  |_=>False
 |false=>Ct v (K [v])
def A5 (P:Program)(t:TypeId)(a:Addr)(v:Value)(w:World)(K:World->Prop):Prop:=
 match P.info? t with
 |some i=>uc P t v λcs=>match Nat.beq cs.length i.size with
  |true=>stS cs a 0 w K
  |false=>False
 |none=>False
def setCells:List Value->Nat->List Value->List Value
 |cs,_,[]=>cs
 |cs,off,v::vs=>setCells (cs.set off v) (off+1) vs
def buildS (P:Program)(fs:Array Field):List (Nat × Value)->List Value->(List Value->Prop)->Prop
 | [],cs,K=>K cs
 |(i,v)::ps,cs,K=>match fs[i]? with
  |some f=>match P.info? f.type with
   |some g=>uc P f.type v λxs=>match Nat.beq xs.length g.size,Nat.ble (f.offset+xs.length) cs.length with
    |true,true=>buildS P fs ps (setCells cs f.offset xs) K
    |_,_=>False
   |none=>False
  |none=>False
def bt (s:ByteArray)(n:Int):Int:=((s.data.getD n.toNat 0).toNat:Int)
def callE (P:Program)(f:FuncId)(g:Array Value)(R:Ending->World->Prop)(w:World):Prop:=
 ((∀g w,(callFunc f g).run P w= .ok (.enter f g) w)/\Calls P f g w R)\/ ∃v y,(callFunc f g).run P w= .ok (.value v) y/\R (.returned v) y
def cW (P:Program)(s:Sem Next)(R:Ending->World->Prop)(w:World):Prop:=
 (∃f y g,s.run P w= .ok (.enter f y) g/\Calls P f y g R)\/ ∃v g,s.run P w= .ok (.value v) g/\R (.returned v) g
def sP (P:Program)(s:Sem Value)(ty:Ty)(K:Value->World->Prop)(w:World):Prop:=
 ty.ex λv=> ∃g,s.run P w= .ok v g/\K v g
def semU (P:Program)(s:Sem Unit)(K:World->Prop)(w:World):Prop:=
 ∃g,s.run P w= .ok () g/\K g

def Gg (P:Program)(s:Sem Value)(y:Bool)(K:Value->World->Prop)(w:World):Prop:=
 (∃g,s.run P w= .ok (.tuple #[.bool false]) g/\K (.tuple #[.bool false]) g)\/
 match y with
 |true=> ∃(i c:Int),∃g,s.run P w= .ok (.tuple #[.bool true,.int .i64 i,.int .i32 c]) g/\K (.tuple #[.bool true,.int .i64 i,.int .i32 c]) g
 |false=> ∃(k v:Value),∃g,s.run P w= .ok (.tuple #[.bool true,k,v]) g/\K (.tuple #[.bool true,k,v]) g

def Bh (P:Program)(t:TypeId):Bool:=
 match P.underlying t with
 |some (.int _)|some .string|some .bool=>true
 |_=>false
def binV (P:Program)(op:BinOp)(xt:TypeId)(H E:Operand)(x g:Value)(ty:Ty)(K:Value->World->Prop)(w:World):Prop:=
 match Bh P xt with
 |false=>sP P (do eqGuard op xt H E x g;binOp op xt x g) ty K w
 |true=>
 match x,g with
 | .int k a,.int k' b=>match op with
  | .quo=>b≠0/\match decide (k=k') with
   |true=>K (.int k (k.wrap (a.tdiv b))) w
   |false=>False
  | .rem=>b≠0/\match decide (k=k') with
   |true=>K (.int k (a.tmod b)) w
   |false=>False
  | .shl=>0<=b/\K (.int k (k.wrap (a*2 ^ (min b.toNat k.bits)))) w
  | .shr=>0<=b/\K (.int k (a.fdiv (2 ^ (min b.toNat k.bits)))) w
  |_=>nV P (do eqGuard op xt H E x g;binOp op xt x g) λv=>K v w
 | .string a,.string b=>match op with
  | .add=>((a.size+b.size:Nat):Int)<=i64.max/\K (.string (a++b)) w
  |_=>nV P (do eqGuard op xt H E x g;binOp op xt x g) λv=>K v w
 | .bool _,.bool _=>nV P (do eqGuard op xt H E x g;binOp op xt x g) λv=>K v w
 |_,_=>sP P (do eqGuard op xt H E x g;binOp op xt x g) ty K w

def o6 (s:ByteArray)(lo hi:Option Value)(K:Value->Prop):Prop:=
 match lo,hi with
 |none,none=>K (.string s)
 |some (.int _ l),none=>0<=l/\l<=s.size/\K (.string (s.extract l.toNat s.size))
 |none,some (.int _ h)=>0<=h/\h<=s.size/\K (.string (s.extract 0 h.toNat))
 |some (.int _ l),some (.int _ h)=>0<=l/\l<=h/\h<=s.size/\K (.string (s.extract l.toNat h.toNat))
 |_,_=>False

def opV (P:Program)(o:Oper)(ρ:Fr)(K:Value->World->Prop)(w:World):Prop:=
 match o.op with
 | .move x| .assign x=>K (rd ρ x) w
 | .pick c x y=>match rd ρ c with
  | .bool b=>match b with
   |true=>K (rd ρ x) w
   |false=>K (rd ρ y) w
  |_=>False
 | .binOp op xt x y _=>binV P op xt x y (rd ρ x) (rd ρ y) (.c (.s .bool)) K w
 | .unOp op _ x=>nV P (Op.unary op (rd ρ x)) λv=>K v w
 | .nilCheck x=>nilV (rd ρ x) λv=>K v w
 | .fieldAddr s x f=>match rd ρ x with
  | .pointer (some a)=>match P.underlying s with
   |some (.struct fs)=>match fs[f]? with
    |some H=>match P.info? H.type with
     |some i=>match i.size with
      |0=>sP P (Instr.fieldAt s (rd ρ x) f) (.c (.s .ptr)) K w
      |_+1=>K (.pointer (some (a.add H.offset))) w
     |none=>False
    |none=>False
   |_=>False
  |_=>False
 | .field xt x f=>nV P (Instr.field xt (rd ρ x) f) λv=>K v w
 | .load t x=>match rd ρ x with
  | .pointer (some a)=>xX P t a w λv=>K v w
  |_=>False
 | .store t x y=>match rd ρ x with
  | .pointer (some a)=>A5 P t a (rd ρ y) w λg=>K undef g
  |_=>False
 | .box e x=>uc P e (rd ρ x) λcs=> ∀b,w.heap.size=b->K (.pointer (some ⟨b,0,none⟩)) (alc w cs.toArray e)
 | .alloc e=>match P.info? e with
  |some i=>match i.zero with
   |some z=>uc P e z λcs=> ∀b,w.heap.size=b->K (.pointer (some ⟨b,0,none⟩)) (alc w cs.toArray e)
   |none=>False
  |none=>False
 | .build t parts=>match P.underlying t,P.info? t with
  |some (.struct fs),some E=>match E.zero with
   |some (.agg I)=>match fs.toList.all λf=>(P.info? f.type).isSome with
    |true=>buildS P fs (parts.toList.map λ(i,x)=>(i,rd ρ x)) I.toList λcs=>K (.agg cs.toArray) w
    |false=>False
   |_=>False
  |_,_=>nV P (Instr.build t (parts.map λ(i,x)=>(i,rd ρ x))) λv=>K v w
 | .buildSlice t len parts=>sP P (Instr.buildSlice t len (parts.map λ(i,x)=>(i,rd ρ x))) (.c (.s .slice)) K w
 | .makeInterface t x=>nV P (Instr.makeInterface t (rd ρ x)) λv=>K v w
 | .makeFunc fn first captured=>K (.func fn (first.map (rd ρ)) (captured.map (rd ρ))) w
 | .extract x i=>match rd ρ x with
  | .tuple vs=>match vs[i]? with
   |some v=>K v w
   |none=>False
  |_=>False
 | .index xt x i=>match rd ρ x,rd ρ i with
  | .string s,.int _ n=>match P.underlying xt with
   |some .string=>0<=n/\n<s.size/\K (.int .u8 (bt s n)) w
   |_=>False
  |x',i'=>match P.underlying xt with
   |some (.array _ e)=>sP P (Instr.index xt x' i') (.c (DK P e)) K w
   |_=>False
 | .indexAddr t x i=>match rd ρ x,rd ρ i with
  | .slice q len _,.int _ n=>match P.underlying t with
   |some (.slice e)=>match P.info? e with
    |some E=>0<=n/\n<len/\aA q λa=>K (.pointer (some (a.add (n.toNat*E.size)))) w
    |none=>False
   |_=>False
  | .pointer (some ad),.int _ n=>match P.underlying t with
   |some (.array len e)=>match P.info? e with
    |some E=>0<=n/\n<(len:Int)/\K (.pointer (some (ad.add (n.toNat*E.size)))) w
    |none=>False
   |_=>False
  |x',i'=>sP P (Instr.indexAt t x' i') (.c (.s .ptr)) K w
 | .slice t x lo hi mx=>match rd ρ x with
  | .string s=>match P.underlying t,mx with
   |some .string,none=>o6 s (lo.map (rd ρ)) (hi.map (rd ρ)) λv=>K v w
   |_,_=>False
  |x'=>sP P (Instr.sliceAt t x' (lo.map (rd ρ)) (hi.map (rd ρ)) (mx.map (rd ρ))) (.c (.s .slice)) K w
 | .convert src dst x=>match rd ρ x with
  | .int _ n=>match P.underlying src,P.underlying dst with
   |some (.int _),some (.int k)=>K (.int k (k.wrap n)) w
   |some (.int _),some .string=>K (.string (Utf8.encode n)) w
   |_,_=>False
  | .string s=>match P.underlying src,P.underlying dst with
   |some .string,some .string=>K (.string s) w
   |_,_=>sP P (convert src dst (rd ρ x)) (FO P dst) K w
  |x'=>sP P (convert src dst x') (FO P dst) K w
 | .typeAssert x xt asserted ok=>sP P (Instr.typeAssert (rd ρ x) xt asserted ok) (okTy (DK P asserted) ok) K w
 | .makeMap t r=>sP P (Instr.makeMap t (r.map (rd ρ))) (.c (.s .map)) K w
 | .makeSlice t l c=>sP P (Instr.makeSlice t (rd ρ l) (rd ρ c)) (.c (.s .slice)) K w
 | .lookup xt x i ok=>match P.underlying xt with
  |some (.map _ e)=>sP P (Instr.lookup xt (rd ρ x) (rd ρ i) ok) (okTy (DK P e) ok) K w
  |_=>False
 | .mapUpdate t m k x| .insert t m k x=>semU P (Instr.mapUpdate t (rd ρ m) (rd ρ k) (rd ρ x)) (λg=>K undef g) w
 | .range xt x=>sP P (Instr.range xt (rd ρ x)) (.c (.s .any)) K w
 | .next it isString=>Gg P (Instr.next (rd ρ it) isString o.type) isString K w
 | .call c=>match c.callee with
  | .builtin .len=>match c.argTypes[0]?,c.args[0]? with
   |some t,some x=>match P.underlying t,rd ρ x with
    |some .string,.string s=>K (.int .i64 s.size) w
    |some (.slice _),.slice _ n _=>K (.int .i64 n) w
    |_,v=>sP P (Builtin.len_ c.argTypes o.type #[v]) (.c (.s (.int .i64))) K w
   |_,_=>False
  | .builtin .append=>sP P (Builtin.append_ c.argTypes o.type (c.args.map (rd ρ))) (.c (.s .slice)) K w
  | .builtin .copy=>sP P (Builtin.copy_ c.argTypes o.type (c.args.map (rd ρ))) (.c (.s (.int .i64))) K w
  | .builtin .cap=>sP P (Builtin.cap_ c.argTypes o.type (c.args.map (rd ρ))) (.c (.s (.int .i64))) K w
  | .builtin .max=>sP P (Builtin.max_ c.argTypes o.type (c.args.map (rd ρ))) (.c (.s (.int .i64))) K w
  | .builtin .min=>sP P (Builtin.min_ c.argTypes o.type (c.args.map (rd ρ))) (.c (.s (.int .i64))) K w
  | .builtin .unsafeSliceData=>sP P (Builtin.unsafeSliceData_ c.argTypes o.type (c.args.map (rd ρ))) (.c (.s .ptr)) K w
  | .builtin .unsafeString=>sP P (Builtin.unsafeString_ c.argTypes o.type (c.args.map (rd ρ))) (.c (.s .str)) K w
  | .builtin _=>False
  | .value (.func f)=>callE P f (c.args.map (rd ρ)) (λe g=>(FO P o.type).ex λv=>e= .returned v/\K v g) w
  | .value x=>cW P (do let d <-Deferred.ofValue (rd ρ x) (c.args.map (rd ρ));invoke d.target d.args) (λe g=>(FO P o.type).ex λv=>e= .returned v/\K v g) w
  | .invoke r name=>cW P (callMethod (rd ρ r) name (c.args.map (rd ρ))) (λe g=>(FO P o.type).ex λv=>e= .returned v/\K v g) w
 |_=>False

end Go.Proofs.YtendaipfdnhnaaaGreatDoor


namespace Go.Proofs.YtendaipfdnhnaaaGreatDoor
variable {P:Program}

def Ec (a:Act)(o:Oper)(K:Value->World->Prop)(g:Act)(y:World):Prop:= ∃v,g=a.put o.dst v/\K v y

theorem be {o:Oper}{a:Act}{K:Value->World->Prop}{Q:Exit->Act->World->Prop}{r:Result Next}{v:Value}{g:World}(h:r= .ok (.value v) g)(y:K v g):o.upon P a (Ec a o K) Q r:=by
 subst h;exact⟨v,rfl,y⟩
theorem uh {o:Oper}{a:Act}{K:Value->World->Prop}{Q:Exit->Act->World->Prop}{r:Result Next}{g:World}(h:r= .ok .skip g)(y:K undef g):o.upon P a (Ec a o K) Q r:=by
 subst h;exact⟨undef,rfl,y⟩
theorem rF {o:Oper}{a:Act}{K:Value->World->Prop}{Q:Exit->Act->World->Prop}{r:Result Next}{f:FuncId}{g:Array Value}{E:World}{ty:Ty}(h:r= .ok (.enter f g) E)(H:Calls P f g E λe y=>ty.ex λv=>e= .returned v/\K v y):o.upon P a (Ec a o K) Q r:=by
 subst h
 refine Calls.mono H λe y I=>?_
 obtain⟨v,rfl,hv⟩:=Ty.ex_out I
 exact⟨v,rfl,hv⟩

theorem aU {s:Sem Value}{v:Value}{w g:World}(h:s.run P w= .ok v g):
 (s>>=λv=>pure (.value v):Sem Next).run P w= .ok (.value v) g:=by
 rw[Sem.run_bind,h];rfl
theorem rO {s:Sem Unit}{w g:World}(h:s.run P w= .ok () g):
 (s>>=λ_=>pure .skip:Sem Next).run P w= .ok .skip g:=by
 rw[Sem.run_bind,h];rfl

theorem eF {s:Sem Value}{K:Value->Prop}(h:nV P s K): ∃v,K v/\ ∀w,s.run P w= .ok v w:=by
 unfold nV at h
 split at h
 ·rename_i v hv;exact⟨v,h,λw=>jP P s v hv w⟩
 ·exact h.elim

theorem wy {t:TypeId}{w:World}{d:TypeDesc}(h:P.underlying t=some d):(isAgg t).run P w= .ok (za P t) w:=by
 unfold isAgg underlying za
 simp only[Sem.run_bind,run_program,Result.andThen_ok,h]
 cases d<;>rfl

theorem BE: ∀ {ts:List STy} {w:World} {a:Addr} {i:Nat} {K:List Value->Prop},ldS w ts a i K->
 ∃vs,K vs/\vs.length=ts.length/\ ∀(g:Array Value),(loadCellsFrom a i ts.length g).run P w= .ok (g++vs.toArray) w
 | [],_,_,_,_,h=>⟨[],h,rfl,λg=>by simp[loadCellsFrom]⟩
 |t::ts,w,a,i,K,h=>by
  obtain⟨v,hc,h⟩:=STy.ex_out h
  obtain⟨vs,y,E,hr⟩:=BE h
  refine⟨v::vs,y,by simp[E],λg=>?_⟩
  simp only[List.length_cons,loadCellsFrom,Sem.run_bind,run_load,hc,Result.andThen]
  rw[hr]
  simp

theorem wk {t:TypeId}{a:Addr}{w:World}{K:Value->Prop}(h:xX P t a w K): ∃v,K v/\(loadVar t a).run P w= .ok v w:=by
 unfold xX at h
 split at h
 ·rename_i i d hi U
  have y:=wy (w:=w) U
  split at h
  ·rename_i cs hb hz
   split at h
   ·rename_i E
    obtain⟨vs,g,V,hr⟩:=BE (P:=P) h
    refine⟨_,g,?_⟩
    have H:i.size=cs.size:=by simp[<-Nat.eq_of_beq_eq_true E]
    have I:(loadCellsFrom a 0 cs.size #[]).run P w= .ok vs.toArray w:=by simpa using hr #[]
    unfold loadVar loadCells sizeOf typeInfo
    simp only[Sem.run_bind,y,Result.andThen_ok,hb,if_true,run_program,hi]
    have O:(pure i:Sem TypeInfo).run P w= .ok i w:=rfl
    simp only[O,Result.andThen_ok,H]
    rw[show (pure cs.size:Sem Nat).run P w= .ok cs.size w from rfl]
    simp only[Result.andThen_ok,I]
    rfl
   ·exact h.elim
  ·rename_i z hb hz
   obtain⟨v,hc,g⟩:=STy.ex_out h
   refine⟨v,g,?_⟩
   unfold loadVar
   simp only[Sem.run_bind,y,Result.andThen_ok,hb,Bool.false_eq_true,if_false,run_load,hc]
  ·exact h.elim
 ·exact h.elim

theorem A6: ∀ {vs:List Value} {a:Addr} {i:Nat} {w:World} {K:World->Prop},stS vs a i w K->
 ∃g,K g/\(storeCells a vs i).run P w= .ok () g
 | [],_,_,w,_,h=>⟨w,h,rfl⟩
 |v::vs,a,i,w,K,h=>by
  obtain⟨y,⟨u,E⟩,I,h⟩:=h
  obtain⟨g,H,hr⟩:=A6 h
  refine⟨g,H,?_⟩
  have hv:v.oneCell'=true:=by cases v<;>first|rfl|exact y.elim
  simp only[storeCells,Sem.run_bind,run_store P w (a.add i) v .plain hv,E,I,Bool.false_eq_true,if_false,Result.andThen]
  exact hr

theorem Cs {v:Value}{K:Prop}(h:Ct v K):K/\v.cells= #[v]/\nx v:=by
 cases v<;>first|exact⟨h,rfl,trivial⟩|exact⟨h.2,rfl,trivial⟩|exact h.elim
theorem nR {t:TypeId}{v:Value}{K:List Value->Prop}(h:uc P t v K):K v.cells.toList:=by
 unfold uc at h
 split at h
 ·split at h
  ·exact h
  ·exact h.elim
 ·obtain⟨h,hc,_⟩:=Cs h
  rw[hc]
  exact h

theorem zE {t:TypeId}{a:Addr}{v:Value}{w:World}{K:World->Prop}(h:A5 P t a v w K):
 ∃g,K g/\(storeVar t a v).run P w= .ok () g:=by
 unfold A5 at h
 split at h
 ·rename_i i hi
  have h:=nR h
  split at h
  ·rename_i hs
   obtain⟨g,H,hr⟩:=A6 (P:=P) h
   refine⟨g,H,?_⟩
   have y:v.cells.size=i.size:=by simpa using Nat.eq_of_beq_eq_true hs
   unfold storeVar sizeOf typeInfo
   simp only[Sem.run_bind,run_program,Result.andThen_ok,hi]
   have E:(pure i:Sem TypeInfo).run P w= .ok i w:=rfl
   have I:(pure i.size:Sem Nat).run P w= .ok i.size w:=rfl
   simp only[E,I,Result.andThen_ok,y,ne_eq,not_true_eq_false,if_false]
   simpa[Sem.run_bind,pure,Sem.run,Result.andThen] using hr
  ·exact h.elim
 ·exact h.elim

theorem xF (xs:List Value): ∀(cs:List Value) (g:Nat),setCells cs g xs=(xs.zipIdx.foldl (λcs (c,j)=>cs.set (g+j) c) cs):=by
 have y: ∀(xs:List Value) (cs:List Value) (g k:Nat),setCells cs (g+k) xs=((xs.zipIdx k).foldl (λcs (c,j)=>cs.set (g+j) c) cs):=by
  intro xs
  induction xs with
  |nil=>intro cs g k;rfl
  |cons x xs E=>
   intro cs g k
   simp only[setCells,List.zipIdx_cons,List.foldl_cons]
   rw[<-E (cs.set (g+k) x) g (k+1)]
   rfl
 intro cs g
 exact y xs cs g 0
theorem rj (xs:List (Value × Nat))(g:Nat): ∀(cs:Array Value),(xs.foldl (λcs (c,j)=>cs.setIfInBounds (g+j) c) cs).toList=xs.foldl (λcs (c,j)=>cs.set (g+j) c) cs.toList:=by
 induction xs with
 |nil=>intro cs;rfl
 |cons x xs y=>intro cs;simp only[List.foldl_cons];rw[y];simp
theorem qs {fs:Array Field}{K:List Value->Prop}{O:Array (Nat × Nat)}(U: ∀(i:Nat) (f:Field) (g:TypeInfo),fs[i]? =some f->P.info? f.type=some g->O[i]? =some (f.offset,g.size)):
 ∀ {I:List (Nat × Value)} {cs:Array Value},buildS P fs I cs.toList K-> ∃y,K y.toList/\Instr.fill (O[·]?) cs I=some y
 | [],cs,h=>⟨cs,h,rfl⟩
 |(i,v)::I,cs,h=>by
  unfold buildS at h
  split at h
  ·rename_i f W
   split at h
   ·rename_i g hi
    have h:=nR h
    split at h
    ·rename_i E H
     have E:=Nat.eq_of_beq_eq_true E
     have H:=Nat.le_of_ble_eq_true H
     simp only[Array.length_toList] at E H
     have a7:setCells cs.toList f.offset v.cells.toList=(v.cells.zipIdx.foldl (λcs (c,j)=>cs.setIfInBounds (f.offset+j) c) cs).toList:=by
      rw[xF,<-Array.foldl_toList,rj]
      simp
     rw[a7] at h
     obtain⟨y,a6,V⟩:=qs U h
     refine⟨y,a6,?_⟩
     unfold Instr.fill
     simp only[U i f g W hi]
     rw[if_neg (by simp;omega)]
     exact V
    ·exact h.elim
   ·exact h.elim
  ·exact h.elim

theorem pZ {w:World}: ∀(l:List Field),(l.all λf=>(P.info? f.type).isSome)=true->
 (l.mapM (m:=Sem) λf=>do pure (f.offset,<-sizeOf f.type)).run P w= .ok (l.map λf=>(f.offset,((P.info? f.type).map (·.size)).getD 0)) w
 | [],_=>rfl
 |f::l,h=>by
  simp only[List.all_cons,Bool.and_eq_true] at h
  obtain⟨g,hi⟩:=Option.isSome_iff_exists.1 h.1
  have hs:(sizeOf f.type).run P w= .ok g.size w:=by
   unfold sizeOf typeInfo
   simp only[Sem.run_bind,run_program,Result.andThen_ok,hi]
   rfl
  simp only[List.mapM_cons,Sem.run_bind,hs,Result.andThen_ok]
  rw[show (pure (f.offset,g.size):Sem (Nat × Nat)).run P w= .ok (f.offset,g.size) w from rfl]
  simp only[Result.andThen_ok,pZ l h.2,List.map_cons,hi]
  rfl

theorem DZ {op:BinOp}{xt:TypeId}{U O:Operand}{x H:Value}{ty:Ty}{K:Value->World->Prop}{w:World}(h:binV P op xt U O x H ty K w):
 ∃v E,K v E/\(do eqGuard op xt U O x H;binOp op xt x H:Sem Value).run P w= .ok v E:=by
 unfold binV at h
 split at h
 ·obtain⟨v,E,hr,h⟩:=Ty.ex_out h
  exact⟨v,E,h,hr⟩
 split at h
 ·rename_i k a I b
  split at h
  ·obtain⟨hb,h⟩:=h
   split at h
   ·rename_i g
    have g:=of_decide_eq_true g
    subst g
    refine⟨_,w,h,?_⟩
    show (binOp .quo xt (.int k a) (.int k b)).run P w=_
    simp[binOp,Op.intDiv,hb]
   ·exact h.elim
  ·obtain⟨hb,h⟩:=h
   split at h
   ·rename_i g
    have g:=of_decide_eq_true g
    subst g
    refine⟨_,w,h,?_⟩
    show (binOp .rem xt (.int k a) (.int k b)).run P w=_
    simp[binOp,Op.intDiv,hb]
   ·exact h.elim
  ·obtain⟨hb,h⟩:=h
   refine⟨_,w,h,?_⟩
   have: ¬ b<0:=by omega
   show (binOp .shl xt (.int k a) (.int I b)).run P w=_
   simp[binOp,Op.shift,this]
  ·obtain⟨hb,h⟩:=h
   refine⟨_,w,h,?_⟩
   have: ¬ b<0:=by omega
   show (binOp .shr xt (.int k a) (.int I b)).run P w=_
   simp[binOp,Op.shift,this]
  ·obtain⟨v,h,hr⟩:=eF h
   exact⟨v,w,h,hr w⟩
 ·rename_i a b
  split at h
  ·obtain⟨hb,h⟩:=h
   refine⟨_,w,h,?_⟩
   have: ¬ ((a.size+b.size:Nat):Int)>i64.max:=by omega
   show (binOp .add xt (.string a) (.string b)).run P w=_
   simp only[binOp,Op.stringOp,if_neg this]
   rfl
  ·obtain⟨v,h,hr⟩:=eF h
   exact⟨v,w,h,hr w⟩
 ·obtain⟨v,h,hr⟩:=eF h
  exact⟨v,w,h,hr w⟩
 ·obtain⟨v,E,hr,h⟩:=Ty.ex_out h
  exact⟨v,E,h,hr⟩

theorem qA {s:ByteArray}{lo hi:Option Value}{K:Value->Prop}{xt:TypeId}(I:P.underlying xt=some .string)(h:o6 s lo hi K):
 ∃v,K v/\ ∀w,(Instr.sliceAt xt (.string s) lo hi none).run P w= .ok v w:=by
 have y: ∀(l n:Nat) (w:World),(Instr.sliceBounds false s.size s.size lo hi none).run P w= .ok (l,n,s.size) w->
  (Instr.sliceAt xt (.string s) lo hi none).run P w= .ok (.string (s.extract l n)) w:=by
  intro l n w hb
  unfold Instr.sliceAt Instr.slice underlying
  simp only[Sem.run_bind,run_program,Result.andThen_ok,I]
  have:(pure TypeDesc.string:Sem TypeDesc).run P w= .ok .string w:=rfl
  simp only[this,Result.andThen_ok,Option.isSome_none,Bool.false_eq_true,if_false,Sem.run_bind,run_program,I,hb]
  rfl
 unfold o6 at h
 split at h
 ·refine⟨_,h,λw=>?_⟩
  rw[y 0 s.size w (by simp[Instr.sliceBounds])]
  simp
 ·obtain⟨g,E,h⟩:=h
  refine⟨_,h,λw=>y _ _ w ?_⟩
  simp[Instr.sliceBounds,Instr.sliceBound,asIntOf,g,E]
 ·obtain⟨g,E,h⟩:=h
  refine⟨_,h,λw=>y _ _ w ?_⟩
  simp[Instr.sliceBounds,Instr.sliceBound,asIntOf,g,E]
 ·rename_i l _ H
  obtain⟨g,E,O,h⟩:=h
  refine⟨_,h,λw=>y _ _ w ?_⟩
  have V:0<=H:=by omega
  have U:l<=max H 0:=by omega
  simp[Instr.sliceBounds,Instr.sliceBound,asIntOf,g,O,V,U]
 ·exact h.elim

theorem vJ {s:ByteArray}{lo hi:Option Value}{K:Value->Prop}{xt:TypeId}{w:World}(g:P.underlying xt=some .string)(h:o6 s lo hi K):
 ∃v,K v/\(Instr.sliceAt xt (.string s) lo hi none).run P w= .ok v w:=by
 obtain⟨v,y,hr⟩:=qA g h
 exact⟨v,y,hr w⟩

set_option maxHeartbeats 1000000 in
theorem wa {n:Nat}{a:Act}{ρ:Fr}{o:Oper}{K:Value->World->Prop}{w:World}{Q:Exit->Act->World->Prop}(hr:RelF n a ρ)(h:opV P o ρ K w):o.wp P a w (Ec a o K) Q:=by
 have W:a.eval=rd ρ:=funext hr.eval
 unfold Oper.wp
 rw[W]
 unfold opV at h
 split at h<;>rename_i d1<;>simp only[execOp,d1]
 case h_1=>exact be rfl h
 case h_2=>exact be rfl h
 case h_3=>
  split at h
  ·rename_i b hb
   split at h<;>(rw[hb];exact be rfl h)
  ·exact h.elim
 case h_4=>obtain⟨v,y,g,hs⟩:=DZ h;exact be (aU hs) g
 case h_5=>obtain⟨v,g,hs⟩:=eF h;exact be (aU (hs w)) g
 case h_6=>
  unfold nilV at h
  split at h
  ·rename_i q e1
   unfold aA at h
   split at h
   ·rw[e1];exact be rfl h
   ·exact h.elim
  ·rename_i v hv
   obtain⟨b6,g⟩:=h
   cases I:rd ρ _<;>rw[I] at b6 g<;>try exact b6.elim
   ·rename_i e0 first e3
    cases e0<;>try exact b6.elim
    exact be rfl g
   ·exact be rfl g
 case h_7=>
  split at h
  ·rename_i b3 a6
   split at h
   ·rename_i fs E
    split at h
    ·rename_i e9 b7
     split at h
     ·rename_i i hi
      split at h
      ·obtain⟨v,y,hs,g⟩:=Ty.ex_out h;exact be (aU hs) g
      ·rename_i m e2
       refine be (aU ?_) h
       rw[a6]
       unfold Instr.fieldAt underlying fieldPlace sizeOf typeInfo
       simp only[Sem.run_bind,run_program,Result.andThen_ok,E]
       simp only[pure,Sem.run,Result.andThen_ok,b7,Instr.sureAddr,e2,Nat.add_one_ne_zero,if_false,Sem.run_bind,run_program,hi]
     ·exact h.elim
    ·exact h.elim
   ·exact h.elim
  ·exact h.elim
 case h_8=>obtain⟨v,g,hs⟩:=eF h;exact be (aU (hs w)) g
 case h_9=>
  split at h
  ·rename_i b3 a6
   obtain⟨v,g,hs⟩:=wk h
   refine be (aU ?_) g
   rw[a6]
   exact hs
  ·exact h.elim
 case h_10=>
  split at h
  ·rename_i b3 a6
   obtain⟨y,g,hs⟩:=zE h
   refine uh (rO ?_) g
   rw[a6]
   exact hs
  ·exact h.elim
 case h_11=>
  have h:=nR h
  exact be rfl (h _ rfl)
 case h_12=>
  split at h
  ·rename_i i hi
   split at h
   ·rename_i z hz
    have h:=nR h
    refine be (aU ?_) (h _ rfl)
    unfold Instr.alloc zeroValue typeInfo
    simp only[Sem.run_bind,run_program,Result.andThen_ok,hi]
    simp only[pure,Sem.run,Result.andThen_ok,hz]
    rfl
   ·exact h.elim
  ·exact h.elim
 case h_13=>
  split at h
  ·rename_i fs V E c5
   rename_i b8 _ _
   split at h
   ·rename_i c2 hz
    split at h
    ·rename_i c9
     have d3: ∀(i:Nat) (f:Field) (V:TypeInfo),fs[i]? =some f->P.info? f.type=some V->
      ((fs.toList.map λf=>(f.offset,((P.info? f.type).map (·.size)).getD 0)).toArray)[i]? =some (f.offset,V.size):=by
      intro i f e6 b7 hi
      simp[b7,hi]
     obtain⟨e7,g,c4⟩:=qs d3 h
     refine be (aU ?_) g
     unfold Instr.build zeroValue typeInfo underlying
     simp only[Sem.run_bind,run_program,Result.andThen_ok,c5,E]
     rw[show (pure V:Sem TypeInfo).run P w= .ok V w from rfl]
     simp only[Result.andThen_ok,hz]
     rw[show (pure (Value.agg c2):Sem Value).run P w= .ok (.agg c2) w from rfl]
     simp only[Result.andThen_ok,Sem.run_bind]
     rw[show (pure (TypeDesc.struct fs):Sem TypeDesc).run P w= .ok (.struct fs) w from rfl]
     simp only[Result.andThen_ok,Sem.run_bind]
     rw[Array.mapM_eq_mapM_toList,map_eq_pure_bind,Sem.run_bind,pZ _ c9]
     simp only[Result.andThen_ok]
     rw[show∀x:List (Nat × Nat),(pure x.toArray:Sem (Array (Nat × Nat))).run P w= .ok x.toArray w from λ_=>rfl]
     simp only[Result.andThen_ok,Value.cells]
     have d0:(b8.map λ(i,x)=>(i,rd ρ x)).toList=b8.toList.map λ(i,x)=>(i,rd ρ x):=by simp
     rw[d0,c4]
     simp
    ·exact h.elim
   ·exact h.elim
  ·obtain⟨v,g,hs⟩:=eF h;exact be (aU (hs w)) g
 case h_14=>obtain⟨v,y,hs,g⟩:=Ty.ex_out h;exact be (aU hs) g
 case h_15=>obtain⟨v,g,hs⟩:=eF h;exact be (aU (hs w)) g
 case h_16=>exact be rfl h
 case h_17=>
  split at h
  ·rename_i vs hv
   split at h
   ·rename_i v hi
    refine be (aU ?_) h
    simp[hv,Instr.extract,hi]
   ·exact h.elim
  ·exact h.elim
 case h_18=>
  split at h
  ·rename_i s k m hs hi
   split at h
   ·rename_i E
    obtain⟨O,H,g⟩:=h
    refine be (aU ?_) g
    have c1:m.toNat<s.size:=by omega
    unfold Instr.index asIntOf underlying
    simp only[hs,hi,Sem.run_bind,run_program,Result.andThen_ok,E]
    simp only[pure,Sem.run,Result.andThen_ok,O,if_true,getElem?_pos s m.toNat c1]
    congr 2
    unfold bt
    have:s.data.size=s.size:=rfl
    simp[Array.getD,this,c1,ByteArray.getElem_eq_getElem_data]
   ·exact h.elim
  ·split at h
   ·obtain⟨v,y,hs,g⟩:=Ty.ex_out h;exact be (aU hs) g
   ·exact h.elim
 case h_19=>
  split at h
  ·rename_i q len c k m hs hi
   split at h
   ·rename_i e E
    split at h
    ·rename_i V b5
     obtain⟨O,H,g⟩:=h
     unfold aA at g
     split at g
     ·rename_i b3
      refine be (aU ?_) g
      unfold Instr.indexAt asIntOf underlying sizeOf typeInfo
      simp only[hs,hi,Sem.run_bind,run_program,Result.andThen_ok,E]
      simp only[pure,Sem.run,Result.andThen_ok,O,H,and_self,if_true,Sem.run_bind,run_program,b5,E]
     ·exact g.elim
    ·exact h.elim
   ·exact h.elim
  ·rename_i b3 k m hs hi
   split at h
   ·rename_i len e E
    split at h
    ·rename_i V b5
     obtain⟨O,H,g⟩:=h
     refine be (aU ?_) g
     unfold Instr.indexAt asIntOf underlying sizeOf typeInfo
     simp only[hs,hi,Sem.run_bind,run_program,Result.andThen_ok,E]
     simp only[pure,Sem.run,Result.andThen_ok,O,H,and_self,if_true,Sem.run_bind,run_program,b5,E,Instr.sureAddr]
    ·exact h.elim
   ·exact h.elim
  ·obtain⟨v,y,hs,g⟩:=Ty.ex_out h;exact be (aU hs) g
 case h_20=>
  split at h
  ·rename_i s hs
   split at h
   ·rename_i E
    obtain⟨v,g,c8⟩:=vJ E h
    refine be (aU ?_) g
    rw[hs]
    exact c8
   ·exact h.elim
  ·obtain⟨v,y,hs,g⟩:=Ty.ex_out h;exact be (aU hs) g
 case h_21=>
  split at h
  ·rename_i k m I
   split at h
   ·rename_i k1 k2 H a7
    refine be (aU ?_) h
    simp[I,convert,underlying,H,a7,Conv.intToInt]
   ·rename_i k1 H a7
    refine be (aU ?_) h
    simp[I,convert,underlying,H,a7,Conv.intToString]
   ·exact h.elim
  ·rename_i m I
   split at h
   ·rename_i H a7
    refine be (aU ?_) h
    simp[I,convert,underlying,H,a7]
   ·obtain⟨v,y,hs,g⟩:=Ty.ex_out h;rw[I] at hs;rw[I];exact be (aU hs) g
  ·obtain⟨v,y,hs,g⟩:=Ty.ex_out h;exact be (aU hs) g
 case h_22=>obtain⟨v,y,hs,g⟩:=Ty.ex_out h;exact be (aU hs) g
 case h_23=>obtain⟨v,y,hs,g⟩:=Ty.ex_out h;exact be (aU hs) g
 case h_24=>obtain⟨v,y,hs,g⟩:=Ty.ex_out h;exact be (aU hs) g
 case h_25=>
  split at h
  ·obtain⟨v,y,hs,g⟩:=Ty.ex_out h;exact be (aU hs) g
  ·exact h.elim
 case h_26=>obtain⟨y,hs,g⟩:=h;exact uh (rO hs) g
 case h_27=>obtain⟨y,hs,g⟩:=h;exact uh (rO hs) g
 case h_28=>obtain⟨v,y,hs,g⟩:=Ty.ex_out h;exact be (aU hs) g
 case h_29=>
  unfold Gg at h
  rcases h with ⟨y,hs,g⟩|h
  ·exact be (aU hs) g
  ·split at h
   ·obtain⟨i,c,y,hs,g⟩:=h;exact be (aU hs) g
   ·obtain⟨k,v,y,hs,g⟩:=h;exact be (aU hs) g
 case h_30=>
  rename_i c
  obtain⟨e4,U,b4⟩:=c
  split at h<;>rename_i b9<;>dsimp only at b9 h<;>subst b9
  ·split at h
   ·rename_i t x ht I
    split at h
    ·rename_i s E hs
     refine be (aU (s:=Builtin.len_ b4 o.type (U.map (rd ρ))) ?_) h
     simp[Builtin.len_,ht,I,underlying,E,hs,goInt]
    ·rename_i e q m e8 E hs
     refine be (aU (s:=Builtin.len_ b4 o.type (U.map (rd ρ))) ?_) h
     simp[Builtin.len_,ht,I,underlying,E,hs,goInt]
    ·obtain⟨v,y,hs,g⟩:=Ty.ex_out h
     refine be (aU (s:=Builtin.len_ b4 o.type (U.map (rd ρ))) ?_) g
     simpa[Builtin.len_,ht,I] using hs
   ·exact h.elim
  ·obtain⟨v,y,hs,g⟩:=Ty.ex_out h;exact be (aU hs) g
  ·obtain⟨v,y,hs,g⟩:=Ty.ex_out h;exact be (aU hs) g
  ·obtain⟨v,y,hs,g⟩:=Ty.ex_out h;exact be (aU hs) g
  ·obtain⟨v,y,hs,g⟩:=Ty.ex_out h;exact be (aU hs) g
  ·obtain⟨v,y,hs,g⟩:=Ty.ex_out h;exact be (aU hs) g
  ·obtain⟨v,y,hs,g⟩:=Ty.ex_out h;exact be (aU hs) g
  ·obtain⟨v,y,hs,g⟩:=Ty.ex_out h;exact be (aU hs) g
  ·rcases h with ⟨hc,h⟩|⟨v,y,hc,h⟩
   ·refine rF ?_ h
    rw[<-hc]
    simp[resolve,rd,Deferred.ofValue,invoke]
   ·obtain⟨c3,W,g⟩:=Ty.ex_out h
    cases W
    refine be ?_ g
    rw[<-hc]
    simp[resolve,rd,Deferred.ofValue,invoke]
  ·rcases h with ⟨f,d2,y,hs,h⟩|⟨v,y,hs,h⟩
   ·refine rF ?_ h
    rw[<-hs]
    rfl
   ·obtain⟨c3,W,g⟩:=Ty.ex_out h
    cases W
    refine be ?_ g
    rw[<-hs]
    rfl
  ·rename_i r e5
   have O:(#[rd ρ r]++U.map (rd ρ))[0]? =some (rd ρ r):=by rw[Array.getElem?_append_left (by simp)];rfl
   have H:(U.map (rd ρ)).extract 0 U.size=U.map (rd ρ):=by
    simp
   rcases h with ⟨f,d2,y,hs,h⟩|⟨v,y,hs,h⟩
   ·refine rF ?_ h
    rw[<-hs]
    simp[resolve,invoke,O,H]
   ·obtain⟨c3,W,g⟩:=Ty.ex_out h
    cases W
    refine be ?_ g
    rw[<-hs]
    simp[resolve,invoke,O,H]
 case h_31=>exact h.elim

end Go.Proofs.YtendaipfdnhnaaaGreatDoor


namespace Go.Proofs.YtendaipfdnhnaaaGreatDoor
variable {P:Program}

def sJ (n:Nat):Option Nat->Bool
 |none=>true
 |some d=>Nat.blt d n
abbrev GS:=List (Nat × Nat × Bool × Value)
def B6:GS->Nat->Option (Nat × Bool × Value)
 | [],_=>none
 |(t,r)::gs,u=>match Nat.beq t u with
  |true=>some r
  |false=>B6 gs u
def qj:GS->Nat->GS
 | [],_=> []
 |(t,r)::gs,u=>match Nat.beq t u with
  |true=>qj gs u
  |false=>(t,r)::qj gs u
def wL:GS->Nat->GS
 | [],_=> []
 |(t,g,r)::gs,u=>match Nat.beq t u with
  |true=>wL gs u
  |false=>match Nat.beq g u with
   |true=>wL gs u
   |false=>(t,g,r)::wL gs u
def DD (gs:GS):Option Nat->GS
 |none=>gs
 |some d=>wL gs d
def isB (g:Bool)(v:Value):Bool:=
 match v with
 | .bool b=>match g with
  |true=>b
  |false=> !b
 |_=>false
def FW (b:Bool)(v:Value):Value:=
 match b with
 |true=>v
 |false=>undef
abbrev Ch:=List (Nat × Bool × Value)
def jG (gs:GS)(ρ:Fr):Nat->Nat->Bool->Ch
 |0,t,want=> [(t,want,ρ t)]
 |f+1,t,want=>match B6 gs t with
  |none=> [(t,want,ρ t)]
  |some (t',g,v)=>jG gs ρ f t' g++ [(t,want,v)]
def rB:Ch->Bool
 | []=>true
 |(_,want,v)::c=>match c with
  | []=>isB want v
  |_::_=>isB want v && rB c
def te:Ch->Nat->Bool->Bool
 | [],_,_=>false
 |(t,w,_)::c,u,x=>match Nat.beq t u with
  |true=>match w,x with
   |true,true=>true
   |false,false=>true
   |_,_=>te c u x
  |false=>te c u x
def ovr (c:Ch)(gs:GS)(ρ:Fr):Fr:=λt=>
 match B6 gs t with
 |none=>ρ t
 |some (t',g,v)=>match te c t' g with
  |true=>v
  |false=>ρ t
def Fb (b:Bool)(x g:Value):Option Value:=
 match x,g with
 | .bool p,.bool q=>some (.bool (cond b p q))
 | .int k p,.int k' q=>match decide (k=k') with
  |true=>some (.int k (cond b p q))
  |false=>none
 | .string p,.string q=>some (.string (cond b p q))
 |_,_=>none
def vS (P:Program)(o:Oper)(ch:Ch)(gs:GS)(ρ:Fr):Option (Option Prop × Value):=
 match o.op with
 | .move x=>some (none,rd (ovr ch gs ρ) x)
 | .pick g x y=>match g with
  | .tmp t=>match ovr ch gs ρ t with
   | .bool b=>match Fb b (rd (ovr (ch++ [(t,true,.bool b)]) gs ρ) x) (rd (ovr (ch++ [(t,false,.bool b)]) gs ρ) y) with
    |some v=>some (none,v)
    |none=>none
   |_=>none
  |_=>none
 | .binOp op xt x y _=>match Bh P xt with
  |false=>none
  |true=>
  match rd (ovr ch gs ρ) x,rd (ovr ch gs ρ) y with
  | .int k a,.int k' b=>match op with
   | .quo| .rem| .shl| .shr=>none
   |_=>match mJ P (do eqGuard op xt x y (.int k a) (.int k' b);binOp op xt (.int k a) (.int k' b)) with
    |some v=>some (none,v)
    |none=>none
  | .string a,.string b=>match op with
   | .add=>none
   |_=>match mJ P (do eqGuard op xt x y (.string a) (.string b);binOp op xt (.string a) (.string b)) with
    |some v=>some (none,v)
    |none=>none
  |_,_=>none
 | .unOp op _ x=>match mJ P (Op.unary op (rd (ovr ch gs ρ) x)) with
  |some v=>some (none,v)
  |none=>none
 | .index xt x i=>match rd (ovr ch gs ρ) x,rd (ovr ch gs ρ) i with
  | .string s,.int _ n=>match P.underlying xt with
   |some .string=>some (some (0<=n/\n<s.size),.int .u8 (bt s n))
   |_=>none
  |_,_=>none
 | .call c=>match c.callee with
  | .builtin .len=>match c.argTypes[0]?,c.args[0]? with
   |some t,some x=>match P.underlying t,rd (ovr ch gs ρ) x with
    |some .string,.string s=>some (none,.int .i64 s.size)
    |some (.slice _),.slice _ n _=>some (none,.int .i64 n)
    |_,_=>none
   |_,_=>none
  |_=>none
 |_=>none
def rM:Ch->Fr->GS->(Fr->GS->Prop)->(Fr->GS->Prop)->Prop
 | [],ρ,gs,yes,_=>yes ρ gs
 |(t,want,v)::c,ρ,gs,yes,no=>match v with
  | .bool b=>match b with
   |true=>match want with
    |true=>rM c (upd ρ t (.bool true)) (qj gs t) yes no
    |false=>no (upd ρ t (.bool true)) (qj gs t)
   |false=>match want with
    |true=>no (upd ρ t (.bool false)) (qj gs t)
    |false=>rM c (upd ρ t (.bool false)) (qj gs t) yes no
  | .tuple _=>no ρ (qj gs t)
  |_=>False
def Gl:Op->Bool
 | .pick .. =>true
 |_=>false

def xj (P:Program)(n:Nat)(all:List Oper):List Oper->(Fr->World->Prop)->GS->Fr->World->Prop
 | [],Q,_,ρ,w=>Q ρ w
 |o::rest,Q,gs,ρ,w=>
  match sJ n o.dst with
  |false=>False
  |true=>
   match o.guard with
   |none=>match Gl o.op with
    |false=>opV P o ρ (λv H=>xj P n all rest Q (DD gs o.dst) (rg ρ o.dst v) H) w
    |true=>match vS P o [] gs ρ with
     |some (none,v)=>xj P n all rest Q (DD gs o.dst) (rg ρ o.dst v) w
     |_=>opV P o ρ (λv H=>xj P n all rest Q (DD gs o.dst) (rg ρ o.dst v) H) w
   |some (j,g)=>
    match (all[j]?).bind (·.dst),o.dst with
    |some t,some d=>match Nat.beq t d with
     |true=>False
     |false=>match vS P o (jG gs ρ 9 t g) gs ρ with
      |some (none,v)=>xj P n all rest Q ((d,t,g,v)::wL gs d) (upd ρ d (FW (rB (jG gs ρ 9 t g)) v)) w
      |some (some I,v)=>(rB (jG gs ρ 9 t g)=true->I)/\
       xj P n all rest Q ((d,t,g,v)::wL gs d) (upd ρ d (FW (rB (jG gs ρ 9 t g)) v)) w
      |none=>rM (jG gs ρ 9 t g) ρ gs
       (λE y=>opV P o (ovr (jG gs ρ 9 t g) y E) (λv H=>xj P n all rest Q (wL y d) (upd E d v) H) w)
       (λE y=>xj P n all rest Q (wL y d) (upd E d undef) w)
    |some t,none=>rM (jG gs ρ 9 t g) ρ gs
     (λE y=>opV P o (ovr (jG gs ρ 9 t g) y E) (λ_ H=>xj P n all rest Q y E H) w)
     (λE y=>xj P n all rest Q y E w)
    |none,_=>False

abbrev fF:=Exit->Fr->World->Prop
def mq (n:Nat)(Q:fF):Exit->Act->World->Prop:=λe a w=> ∃ρ,RelF n a ρ/\Q e ρ w
def mp (K:Fr->World->Prop)(Q:fF):fF
 | .normal,ρ,w=>K ρ w
 |e,ρ,w=>Q e ρ w
def qY (id:Nat)(Q:fF):fF
 | .exit id',ρ,w=>match Nat.beq id' id with
  |true=>Q .normal ρ w
  |false=>Q (.exit id') ρ w
 |e,ρ,w=>Q e ρ w

def kW (Q:fF):fF
 | .goto _,_,_=>False
 |e,ρ,w=>Q e ρ w
def vcC (P:Program)(n:Nat):Code->fF->Fr->World->Prop
 | .skip,Q,ρ,w=>Q .normal ρ w
 | .region _ ops draw,Q,ρ,w=>match draw with
  |true=>False
  |false=>xj P n ops.toList ops.toList (Q .normal) [] ρ w
 | .seq x y,Q,ρ,w=>vcC P n x (mp (vcC P n y Q) Q) ρ w
 | .cond c x y,Q,ρ,w=>
  match c with
  | .tmp t=>match ρ t with
   | .bool b=>match b with
    |true=>vcC P n x Q (upd ρ t (.bool true)) w
    |false=>vcC P n y Q (upd ρ t (.bool false)) w
   |_=>False
  | .const (.bool b)=>match b with
   |true=>vcC P n x Q ρ w
   |false=>vcC P n y Q ρ w
  |_=>False
 | .block id x,Q,ρ,w=>vcC P n x (qY id Q) ρ w
 | .exit id,Q,ρ,w=>Q (.exit id) ρ w
 | .ret,Q,ρ,w=>Q .ret ρ w
 | .label _,Q,ρ,w=>Q .normal ρ w
 | .goto l,Q,ρ,w=>Q (.goto l) ρ w
 | .scope x,Q,ρ,w=>vcC P n x (kW Q) ρ w
 |_,_,_,_=>False

def WpF (P:Program)(n:Nat)(c:Code)(Q:fF)(ρ:Fr)(w:World):Prop:= ∀a,RelF n a ρ->c.wp P (mq n Q) a w

def Inv (gs:GS)(ρ:Fr):Prop:= ∀t t' w v,(t,t',w,v)∈gs->ρ t=FW (isB w (ρ t')) v

theorem nv {a b:Nat}(h:Nat.beq a b=false):a≠b:=λhc=>by subst hc;simp at h
theorem mZ: ∀ {gs:GS} {t:Nat} {r:Nat × Bool × Value},B6 gs t=some r->(t,r)∈gs
 | [],_,_,h=>by cases h
 |(s,q)::gs,t,r,h=>by
  simp only[B6] at h
  cases hb:Nat.beq s t with
  |true=>
   rw[hb] at h
   have:=Nat.eq_of_beq_eq_true hb
   subst this
   simp only[Option.some.injEq] at h
   subst h
   exact List.mem_cons_self
  |false=>rw[hb] at h;exact List.mem_cons_of_mem _ (mZ h)
theorem l8 {u:Nat}: ∀ {gs:GS} {x:Nat × Nat × Bool × Value},x∈wL gs u->x∈gs/\x.1≠u/\x.2.1≠u
 | [],_,h=>by cases h
 |(s,g,r)::gs,x,h=>by
  simp only[wL] at h
  cases H:Nat.beq s u with
  |true=>rw[H] at h;obtain⟨y,E⟩:=l8 h;exact⟨List.mem_cons_of_mem _ y,E⟩
  |false=>
   rw[H] at h
   cases y:Nat.beq g u with
   |true=>rw[y] at h;obtain⟨y,E⟩:=l8 h;exact⟨List.mem_cons_of_mem _ y,E⟩
   |false=>
    rw[y] at h
    cases h with
    |head=>exact⟨List.mem_cons_self,nv H,nv y⟩
    |tail _ h=>obtain⟨y,E⟩:=l8 h;exact⟨List.mem_cons_of_mem _ y,E⟩
theorem sB {u:Nat}: ∀ {gs:GS} {x:Nat × Nat × Bool × Value},x∈qj gs u->x∈gs
 | [],_,h=>by cases h
 |(s,r)::gs,x,h=>by
  simp only[qj] at h
  cases g:Nat.beq s u with
  |true=>rw[g] at h;exact List.mem_cons_of_mem _ (sB h)
  |false=>
   rw[g] at h
   cases h with
   |head=>exact List.mem_cons_self
   |tail _ h=>exact List.mem_cons_of_mem _ (sB h)
theorem AG {ρ:Fr}{d t:Nat}{v:Value}(h:t≠d):upd ρ d v t=ρ t:=by
 unfold upd
 cases hb:Nat.beq t d with
 |true=>exact absurd (Nat.eq_of_beq_eq_true hb) h
 |false=>rfl
theorem F1 {ρ:Fr}{d:Nat}{v:Value}:upd ρ d v d=v:=by
 unfold upd
 rw[show Nat.beq d d=true by simp]
theorem Inv.del {gs:GS}{ρ:Fr}(hi:Inv gs ρ)(d:Nat)(v:Value):Inv (wL gs d) (upd ρ d v):=by
 intro t t' w x H
 obtain⟨E,y,g⟩:=l8 H
 rw[AG y,AG g]
 exact hi _ _ _ _ E
theorem Inv.delO {gs:GS}{ρ:Fr}(hi:Inv gs ρ)(d:Option Nat)(v:Value):Inv (DD gs d) (rg ρ d v):=by
 cases d with
 |none=>exact hi
 |some d=>exact hi.del d v
theorem Inv.drop {gs:GS}{ρ:Fr}(hi:Inv gs ρ)(d:Nat):Inv (qj gs d) ρ:=λ_ _ _ _ g=>hi _ _ _ _ (sB g)
theorem Inv.add {gs:GS}{ρ:Fr}(hi:Inv gs ρ){d t:Nat}{y:Bool}{v:Value}(E:t≠d){b:Bool}(hb:b=isB y (ρ t)):
 Inv ((d,t,y,v)::wL gs d) (upd ρ d (FW b v)):=by
 intro s s' w x g
 cases g with
 |head=>rw[F1,AG E,hb]
 |tail _ g=>exact hi.del d _ _ _ _ _ g
theorem y9 (g:Bool)(b:Bool)(v:Value):isB g (FW b v)=(b && isB g v):=by
 cases b<;>rfl
theorem xa: ∀(c:Ch) (t:Nat) (g:Bool) (v:Value),c≠ []->rB (c++ [(t,g,v)])=(rB c && isB g v)
 | [],_,_,_,h=>absurd rfl h
 | [_],_,_,_,_=>rfl
 |(_,w,u)::x::c,t,g,v,_=>by
  have y:=xa (x::c) t g v (by simp)
  show (isB w u && rB ((x::c)++ [(t,g,v)]))=_
  rw[y]
  show _=((isB w u && rB (x::c)) && isB g v)
  rw[Bool.and_assoc]
theorem va (gs:GS)(ρ:Fr)(f t:Nat)(g:Bool):jG gs ρ f t g≠ []:=by
 cases f with
 |zero=>simp[jG]
 |succ f=>unfold jG;split<;>simp
theorem pD {gs:GS}{ρ:Fr}(hi:Inv gs ρ): ∀(f t:Nat) (g:Bool),rB (jG gs ρ f t g)=isB g (ρ t)
 |0,_,_=>rfl
 |f+1,t,g=>by
  unfold jG
  split
  ·rfl
  ·rename_i t' y v E
   rw[xa _ _ _ _ (va gs ρ f t' y),pD hi f t' y,hi t t' y v (mZ E),y9]
def Eb (ρ:Fr)(c:Ch):Prop:= ∀u x,te c u x=true->isB x (ρ u)=true
theorem mP: ∀ {c d:Ch} {u:Nat} {x:Bool},te (c++d) u x=true->te c u x=true\/te d u x=true
 | [],_,_,_,h=> .inr h
 |(t,w,v)::c,d,u,x,h=>by
  have g:= @mP c d u x
  simp only[List.cons_append,te] at h⊢
  cases hb:Nat.beq t u<;>rw[hb] at h
  ·exact g h
  ·cases w<;>cases x<;>first|exact .inl rfl|exact g h
theorem pk {t u:Nat}{w x:Bool}{v:Value}(h:te [(t,w,v)] u x=true):t=u/\w=x:=by
 simp only[te] at h
 cases hb:Nat.beq t u<;>rw[hb] at h
 ·cases h
 ·refine⟨Nat.eq_of_beq_eq_true hb,?_⟩
  cases w<;>cases x<;>first|rfl|cases h
theorem mf {gs:GS}{ρ:Fr}(hi:Inv gs ρ): ∀(f t:Nat) (y:Bool),isB y (ρ t)=true->Eb ρ (jG gs ρ f t y)
 |0,t,y,h=>λu x g=>by obtain⟨rfl,rfl⟩:=pk g;exact h
 |f+1,t,y,h=>by
  unfold jG
  split
  ·intro u x g;obtain⟨rfl,rfl⟩:=pk g;exact h
  ·rename_i t' E v O
   have I:=hi t t' E v (mZ O)
   have H:=h
   rw[I,y9,Bool.and_eq_true] at H
   intro u x g
   rcases mP g with g|g
   ·exact mf hi f t' E H.1 u x g
   ·obtain⟨rfl,rfl⟩:=pk g;exact h
theorem vZ {c:Ch}{gs:GS}{ρ:Fr}(hi:Inv gs ρ)(y:Eb ρ c):ovr c gs ρ=ρ:=by
 funext t
 unfold ovr
 split
 ·rfl
 ·rename_i t' g v H
  split
  ·rename_i E
   rw[hi t t' g v (mZ H),y t' g E]
   rfl
  ·rfl

theorem Dn {b:Bool}{x g v:Value}(h:Fb b x g=some v):v=if b then x else g:=by
 unfold Fb at h
 split at h
 ·cases h;cases b<;>rfl
 ·split at h
  ·rename_i E;have:=of_decide_eq_true E;subst this;cases h;cases b<;>rfl
  ·cases h
 ·cases h;cases b<;>rfl
 ·cases h
theorem tE {o:Oper}{c:Ch}{gs:GS}{ρ:Fr}{b3:Option Prop}{v:Value}(hi:Inv gs ρ)(b8:Eb ρ c)(h:vS P o c gs ρ=some (b3,v))(hs: ∀p,b3=some p->p)(w:World):(execOp (rd ρ) o).run P w= .ok (.value v) w:=by
 have c1:=vZ hi b8
 unfold vS at h
 rw[c1] at h
 split at h
 ·rename_i x E
  simp only[Option.some.injEq,Prod.mk.injEq] at h
  simp only[execOp,E]
  rw[h.2]
  rfl
 ·rename_i g x y E
  split at h
  ·rename_i t
   split at h
   ·rename_i b hb
    split at h
    ·rename_i a6 I
     simp only[Option.some.injEq,Prod.mk.injEq] at h
     obtain⟨_,rfl⟩:=h
     have hv:=Dn I
     simp only[execOp,E,rd,hb]
     have snoc: ∀z,b=z->Eb ρ (c++ [(t,z,.bool b)]):=by
      intro z hz u x O
      rcases mP O with O|O
      ·exact b8 u x O
      ·obtain⟨rfl,rfl⟩:=pk O;subst hz;rw[hb];cases b<;>rfl
     cases b with
     |true=>rw[vZ hi (snoc true rfl)] at hv;rw[hv];rfl
     |false=>rw[vZ hi (snoc false rfl)] at hv;rw[hv];rfl
    ·cases h
   ·cases h
  ·cases h
 ·rename_i op xt x y _ E
  split at h
  ·cases h
  split at h
  ·rename_i k a c5 b H W
   split at h<;>try (cases h;done)
   split at h
   ·rename_i a6 I
    simp only[Option.some.injEq,Prod.mk.injEq] at h
    obtain⟨_,rfl⟩:=h
    simp only[execOp,E,H,W]
    exact aU (jP P _ _ I w)
   ·cases h
  ·rename_i a b H W
   split at h<;>try (cases h;done)
   split at h
   ·rename_i a6 I
    simp only[Option.some.injEq,Prod.mk.injEq] at h
    obtain⟨_,rfl⟩:=h
    simp only[execOp,E,H,W]
    exact aU (jP P _ _ I w)
   ·cases h
  ·cases h
 ·rename_i op _ x E
  split at h
  ·rename_i a6 I
   simp only[Option.some.injEq,Prod.mk.injEq] at h
   obtain⟨_,rfl⟩:=h
   simp only[execOp,E]
   exact aU (jP P _ _ I w)
  ·cases h
 ·rename_i xt x i E
  split at h
  ·rename_i s k m H b9
   split at h
   ·rename_i U
    simp only[Option.some.injEq,Prod.mk.injEq] at h
    obtain⟨b7,rfl⟩:=h
    obtain⟨c3,b7⟩:=hs _ b7.symm
    have b6:m.toNat<s.size:=by omega
    simp only[execOp,E]
    refine aU ?_
    unfold Instr.index asIntOf underlying
    simp only[H,b9,Sem.run_bind,run_program,Result.andThen_ok]
    simp only[pure,Sem.run,Result.andThen_ok,c3,if_true,getElem?_pos s m.toNat b6,U]
    congr 2
    unfold bt
    have:s.data.size=s.size:=rfl
    simp[Array.getD,this,b6,ByteArray.getElem_eq_getElem_data]
   ·cases h
  ·cases h
 ·rename_i c2 E
  obtain⟨c4,b4,a7⟩:=c2
  split at h
  ·rename_i b5
   dsimp only at b5 h
   subst b5
   split at h
   ·rename_i t x ht H
    split at h
    ·rename_i s U V
     simp only[Option.some.injEq,Prod.mk.injEq] at h
     obtain⟨_,rfl⟩:=h
     simp only[execOp,E]
     refine aU (s:=Builtin.len_ a7 o.type (b4.map (rd ρ))) ?_
     simp[Builtin.len_,ht,H,underlying,U,V,goInt]
    ·rename_i e q m c8 U V
     simp only[Option.some.injEq,Prod.mk.injEq] at h
     obtain⟨_,rfl⟩:=h
     simp only[execOp,E]
     refine aU (s:=Builtin.len_ a7 o.type (b4.map (rd ρ))) ?_
     simp[Builtin.len_,ht,H,underlying,U,V,goInt]
    ·cases h
   ·cases h
  ·cases h
 ·cases h

theorem pW {ρ:Fr}{O I:Fr->GS->Prop}: ∀(c:Ch) (gs:GS),Inv gs ρ->c≠ []->
 (∀pre u x v W,c=pre++(u,x,v)::W->rB pre=true->ρ u=v)->
 rM c ρ gs O I-> ∃g,Inv g ρ/\(rB c=true/\O ρ g\/rB c=false/\I ρ g)
 | [],_,_,h,_,_=>absurd rfl h
 |(u,x,v)::c,gs,hi,_,hv,h=>by
  have b6:ρ u=v:=hv [] u x v c rfl rfl
  unfold rM at h
  cases v with
  |bool b=>
   have U: ∀z,b=z->upd ρ u (.bool z)=ρ:=λz hz=>by subst hz;rw[<-b6];exact ro ρ u
   have hd:=hi.drop u
   have a6:isB x (.bool b)=false->I ρ (qj gs u)-> ∃g,Inv g ρ/\(rB ((u,x,Value.bool b)::c)=true/\O ρ g\/rB ((u,x,Value.bool b)::c)=false/\I ρ g):=by
    intro E V
    refine⟨_,hd,.inr ⟨?_,V⟩⟩
    cases c with
    |nil=>exact E
    |cons H c=>show (isB x (.bool b) && rB (H::c))=false;rw[E];rfl
   have go:isB x (.bool b)=true->rM c ρ (qj gs u) O I-> ∃g,Inv g ρ/\(rB ((u,x,Value.bool b)::c)=true/\O ρ g\/rB ((u,x,Value.bool b)::c)=false/\I ρ g):=by
    intro E V
    cases c with
    |nil=>exact⟨_,hd,.inl ⟨E,V⟩⟩
    |cons H c=>
     have a7:rB ((u,x,Value.bool b)::H::c)=rB (H::c):=by show (isB x (.bool b) && rB (H::c))=_;rw[E];rfl
     obtain⟨g,b3,b7⟩:=pW (H::c) (qj gs u) hd (by simp)
      (λpre b8 b5 b9 W c1 b4=>by
       refine hv ((u,x,.bool b)::pre) b8 b5 b9 W (by rw[c1];rfl) ?_
       cases pre with
       |nil=>exact E
       |cons z pre=>show (isB x (.bool b) && rB (z::pre))=true;rw[E,b4];rfl) V
     rw[a7]
     exact⟨g,b3,b7⟩
   cases b with
   |true=>cases x with
    |true=>simp only[U true rfl] at h;exact go rfl h
    |false=>simp only[U true rfl] at h;exact a6 rfl h
   |false=>cases x with
    |true=>simp only[U false rfl] at h;exact a6 rfl h
    |false=>simp only[U false rfl] at h;exact go rfl h
  |tuple vs=>
   refine⟨_,hi.drop u,.inr ⟨?_,h⟩⟩
   cases c with
   |nil=>rfl
   |cons H c=>rfl
  |_=>exact h.elim

theorem rD {o:Oper}{y:Array Oper}{tmps:Array Value}{j t:Nat}{g:Bool}(H:o.guard=some (j,g))(ht:(y.toList[j]?).bind (·.dst)=some t):Region.wanted o (yielded y tmps)=isB g (tmps.getD t undef):=by
 have E:(y[j]?).bind (·.dst)=some t:=by simpa using ht
 simp only[Region.wanted,H]
 unfold yielded
 rw[E,Array.getD_eq_getD_getElem?]
 simp only[Option.bind_some]
 cases tmps[t]? with
 |none=>rfl
 |some v=>cases v<;>first|rfl|(rename_i b;cases b<;>cases g<;>rfl)

theorem qr {gs:GS}{ρ:Fr}(hi:Inv gs ρ): ∀(f t:Nat) (E:Bool),∀pre u x v H,jG gs ρ f t E=pre++(u,x,v)::H->rB pre=true->ρ u=v
 |0,t,E,pre,u,x,v,H,he,_=>by
  cases pre with
  |nil=>simp only[jG,List.nil_append,List.cons.injEq,Prod.mk.injEq] at he;rw[<-he.1.1];exact he.1.2.2
  |cons y pre=>simp[jG] at he
 |f+1,t,E,pre,u,x,v,H,he,hp=>by
  unfold jG at he
  split at he
  ·cases pre with
   |nil=>simp only[List.nil_append,List.cons.injEq,Prod.mk.injEq] at he;rw[<-he.1.1];exact he.1.2.2
   |cons y pre=>simp at he
  ·rename_i t' g W b3
   rcases List.eq_nil_or_concat H with O|⟨I,z,O⟩
   ·subst O
    have U:jG gs ρ f t' g=pre/\(t,E,W)=(u,x,v):=by
     have:=List.append_inj' he rfl
     simpa using this
    obtain⟨a6,a7⟩:=U
    cases a7
    have V:=pD hi f t' g
    rw[a6,hp] at V
    rw[hi t t' g v (mZ b3),<-V]
    rfl
   ·subst O
    have U:jG gs ρ f t' g=pre++(u,x,v)::I:=by
     have:jG gs ρ f t' g++ [(t,E,W)]=(pre++(u,x,v)::I)++ [z]:=by rw[he];simp
     exact(List.append_inj' this rfl).1
    exact qr hi f t' g pre u x v I U hp

theorem tI {n:Nat}{E:Array Oper}{Q:fF}: ∀(l:List Oper) {gs:GS} {a:Act} {ρ:Fr} {w:World},RelF n a ρ->Inv gs ρ->
 xj P n E.toList l (Q .normal) gs ρ w->wpList P E (mq n Q) l a w
 | [],_,a,ρ,w,hr,_,h=>⟨ρ,hr,h⟩
 |o::rest,gs,a,ρ,w,hr,hi,h=>by
  have c1:= @tI n E Q rest
  unfold xj at h
  split at h
  ·exact h.elim
  ·rename_i hd
   have b8: ∀k,o.dst=some k->k<n:=λk b3=>by rw[b3] at hd;simpa[sJ,Nat.blt_eq] using hd
   have d1:a.eval=rd ρ:=funext hr.eval
   have b6: ∀(y:GS),Inv y ρ->Region.wanted o (yielded E a.tmps)=true->
    opV P o ρ (λv c4=>xj P n E.toList rest (Q .normal) y (rg ρ o.dst v) c4) w->(∀v,Inv y (rg ρ o.dst v))->wpList P E (mq n Q) (o::rest) a w:=by
    intro y _ H hv a6
    unfold wpList
    rw[if_pos H]
    refine .inl (Oper.wp_mono (λd3 c4 ⟨v,d2,b3⟩=>?_) (wa hr hv))
    subst d2
    exact c1 (hr.put o.dst v b8) (a6 v) b3
   have val: ∀(y:GS) (v:Value),Inv y (rg ρ o.dst v)->Region.wanted o (yielded E a.tmps)=true->(execOp (rd ρ) o).run P w= .ok (.value v) w->
    xj P n E.toList rest (Q .normal) y (rg ρ o.dst v) w->wpList P E (mq n Q) (o::rest) a w:=by
    intro y v a6 H c9 hv
    unfold wpList
    rw[if_pos H]
    refine .inl ?_
    unfold Oper.wp
    rw[d1,c9]
    exact c1 (hr.put o.dst v b8) a6 hv
   have c2: ∀(y:GS),Inv y (rg ρ o.dst undef)->Region.wanted o (yielded E a.tmps)=false->
    xj P n E.toList rest (Q .normal) y (rg ρ o.dst undef) w->wpList P E (mq n Q) (o::rest) a w:=by
    intro y a6 H hv
    unfold wpList
    rw[if_neg (by simp[H])]
    exact c1 (hr.put o.dst undef b8) a6 hv
   split at h
   ·rename_i b7
    have H:Region.wanted o (yielded E a.tmps)=true:=by simp[Region.wanted,b7]
    split at h
    ·exact b6 _ (by cases o.dst<;>first|exact hi|exact λ_ _ _ _ b4=>hi _ _ _ _ (l8 b4).1) H h (λv=>hi.delO o.dst v)
    ·split at h
     ·rename_i v V
      exact val _ v (hi.delO o.dst v) H (tE hi (λ_ _ b3=>by cases b3) V (λ_ hs=>by cases hs) w) h
     ·exact b6 _ (by cases o.dst<;>first|exact hi|exact λ_ _ _ _ b4=>hi _ _ _ _ (l8 b4).1) H h (λv=>hi.delO o.dst v)
   ·rename_i j g b7
    split at h
    ·rename_i t d ht I
     have H:Region.wanted o (yielded E a.tmps)=isB g (ρ t):=by rw[rD b7 ht,hr.get]
     have O:=pD hi 9 t g
     have c5:=qr hi 9 t g
     have d0:=va gs ρ 9 t g
     split at h
     ·exact h.elim
     ·rename_i b9
      have b9:=nv b9
      have c3: ∀(W:Option Prop) (v:Value),vS P o (jG gs ρ 9 t g) gs ρ=some (W,v)->(∀p,W=some p->rB (jG gs ρ 9 t g)=true->p)->
       xj P n E.toList rest (Q .normal) ((d,t,g,v)::wL gs d) (upd ρ d (FW (rB (jG gs ρ 9 t g)) v)) w->wpList P E (mq n Q) (o::rest) a w:=by
       intro W v V c8 h
       have b5:=hi.add (d:=d) (v:=v) b9 O
       cases hb:isB g (ρ t) with
       |true=>
        rw[O,hb] at h b5
        refine val ((d,t,g,v)::wL gs d) v ?_ (by rw[H,hb]) (tE hi (mf hi 9 t g hb) V (λp a7=>c8 p a7 (by rw[O,hb])) w) ?_
        ·rw[I];exact b5
        ·rw[I];exact h
       |false=>
        rw[O,hb] at h b5
        refine c2 ((d,t,g,v)::wL gs d) ?_ (by rw[H,hb]) ?_
        ·rw[I];exact b5
        ·rw[I];exact h
      split at h
      ·rename_i v V
       exact c3 none v V (λp a7=>by cases a7) h
      ·rename_i W v V
       exact c3 (some W) v V (λp a7=>by cases a7;exact h.1) h.2
      ·obtain⟨y,U,h|h⟩:=pW _ gs hi d0 c5 h
       ·obtain⟨hb,h⟩:=h
        rw[O] at hb
        rw[vZ U (mf hi 9 t g hb)] at h
        refine b6 (wL y d) (λ_ _ _ _ b4=>U _ _ _ _ (l8 b4).1) (by rw[H,hb]) ?_ (λv=>by rw[I];exact U.del d v)
        rw[I]
        exact h
       ·obtain⟨hb,h⟩:=h
        rw[O] at hb
        exact c2 (wL y d) (by rw[I];exact U.del d undef) (by rw[H,hb]) (by rw[I];exact h)
    ·rename_i t ht I
     have H:Region.wanted o (yielded E a.tmps)=isB g (ρ t):=by rw[rD b7 ht,hr.get]
     have O:=pD hi 9 t g
     obtain⟨y,U,h|h⟩:=pW _ gs hi (va gs ρ 9 t g) (qr hi 9 t g) h
     ·obtain⟨hb,h⟩:=h
      rw[O] at hb
      rw[vZ U (mf hi 9 t g hb)] at h
      refine b6 y U (by rw[H,hb]) ?_ (λv=>by rw[I];exact U)
      rw[I]
      exact h
     ·obtain⟨hb,h⟩:=h
      rw[O] at hb
      exact c2 y (by rw[I];exact U) (by rw[H,hb]) (by rw[I];exact h)
    ·exact h.elim

theorem zY {n:Nat}{K:Fr->World->Prop}{Q:fF}{g:Code}(E: ∀ρ w,K ρ w->WpF P n g Q ρ w)(e:Exit)(a:Act)(w:World)(h:mq n (mp K Q) e a w):Exit.then (g.wp P (mq n Q)) (mq n Q) e a w:=by
 obtain⟨ρ,hr,h⟩:=h
 cases e<;>first|exact E _ _ h _ hr|exact⟨ρ,hr,h⟩

theorem WpF.seq {n:Nat}{x g:Code}{K:Fr->World->Prop}{Q:fF}{ρ:Fr}{w:World}(h:WpF P n x (mp K Q) ρ w)(E: ∀ρ w,K ρ w->WpF P n g Q ρ w):WpF P n (.seq x g) Q ρ w:=
 λa hr=>wp_seq (Code.wp_mono (zY E) (h a hr))
theorem WpF.block {n id:Nat}{x:Code}{Q:fF}{ρ:Fr}{w:World}(h:WpF P n x (qY id Q) ρ w):WpF P n (.block id x) Q ρ w:=by
 refine λa hr=>wp_block (Code.wp_mono (λe a w h=>?_) (h a hr))
 obtain⟨ρ,hr,h⟩:=h
 cases e<;>try exact⟨ρ,hr,h⟩
 rename_i g
 simp only[qY] at h
 simp only[Exit.inBlock]
 split at h
 ·rename_i hb;rw[if_pos (Nat.eq_of_beq_eq_true hb)];exact⟨ρ,hr,h⟩
 ·rename_i hb
  rw[if_neg (λhc=>by subst hc;simp at hb)]
  exact⟨ρ,hr,h⟩
theorem WpF.cond {n t:Nat}{x H:Code}{Q:fF}{ρ:Fr}{w:World}{b:Bool}(hb:ρ t= .bool b)(h:match b with|true=>WpF P n x Q (upd ρ t (.bool true)) w|false=>WpF P n H Q (upd ρ t (.bool false)) w):WpF P n (.cond (.tmp t) x H) Q ρ w:=by
 have g:upd ρ t (.bool b)=ρ:=by rw[<-hb];exact ro ρ t
 intro a hr
 have E:a.eval (.tmp t)= .bool b:=by rw[hr.eval];exact hb
 cases b with
 |true=>exact wp_cond_true E (h a (by rw[g];exact hr))
 |false=>exact wp_cond_false E (h a (by rw[g];exact hr))

theorem WpF.scope {n:Nat}{x:Code}{Q:fF}{ρ:Fr}{w:World}(h:WpF P n x (kW Q) ρ w):WpF P n (.scope x) Q ρ w:=by
 refine λa hr=>wp_scope_straight (Code.wp_mono (λe a w h=>?_) (h a hr))
 obtain⟨ρ,hr,h⟩:=h
 cases e<;>first|exact⟨ρ,hr,h⟩|exact h.elim

theorem AF {n:Nat}: ∀(c:Code) {Q:fF} {ρ:Fr} {w:World},vcC P n c Q ρ w->WpF P n c Q ρ w:=by
 intro c
 induction c with
 |skip=>exact λh a hr=>wp_skip ⟨_,hr,h⟩
 |region id W I=>
  intro Q ρ w h
  unfold vcC at h
  cases I with
  |true=>exact h.elim
  |false=>exact λa hr=>wp_region_list (tI _ hr (λ_ _ _ _ U=>by cases U) h)
 |seq x V g E=>exact λh=>WpF.seq (g h) (λρ w O=>E O)
 |cond c x V g E=>
  intro Q ρ w h
  unfold vcC at h
  split at h
  ·split at h
   ·rename_i t b hb
    refine WpF.cond hb ?_
    cases b with
    |true=>exact g h
    |false=>exact E h
   ·exact h.elim
  ·rename_i b
   intro a hr
   cases b with
   |true=>exact wp_cond_true rfl (g h a hr)
   |false=>exact wp_cond_false rfl (E h a hr)
  ·exact h.elim
 |block id x H=>exact λh=>WpF.block (H h)
 |exit id=>exact λh a hr=>wp_exit ⟨_,hr,h⟩
 |ret=>exact λh a hr=>wp_ret ⟨_,hr,h⟩
 |label l=>exact λh a hr=>wp_label ⟨_,hr,h⟩
 |goto l=>exact λh a hr=>wp_goto ⟨_,hr,h⟩
 |scope x H=>exact λh=>WpF.scope (H h)
 |_=>exact λh=>by unfold vcC at h;exact h.elim

def LoopF (P:Program)(n:Nat)(c:Code)(Q:fF)(ρ:Fr)(w:World):Prop:=
 ∀a,RelF n a ρ-> ∀(b:Frame) (k:List Item) (cs:List Frame),
  ∃e g y,mq n Q e g y/\Arrives P (lone (b.at a (.code c:: .inLoop c::k)) cs w) b k cs e g y
theorem LoopF.wp {n:Nat}{c:Code}{Q:fF}{ρ:Fr}{w:World}(h:LoopF P n c Q ρ w):WpF P n (.loop c) Q ρ w:=by
 intro a hr b k cs
 obtain⟨e,E,H,y,g⟩:=h a hr b k cs
 exact⟨e,E,H,y,.of_steps (.one step_loop) g⟩
theorem LoopF.unfold {n:Nat}{c:Code}{Q:fF}{ρ:Fr}{w:World}(h:WpF P n c (mp (LoopF P n c Q) Q) ρ w):LoopF P n c Q ρ w:=by
 intro a hr b k cs
 obtain⟨e,H,O,⟨I,y,E⟩,g⟩:=h a hr b (.inLoop c::k) cs
 cases e with
 |normal=>
  obtain⟨W,a7,a6,V,U⟩:=E H y b k cs
  exact⟨W,a7,a6,V,.of_steps (Steps.trans g (.one step_inLoop)) U⟩
 |exit id=>exact⟨_,H,O,⟨I,y,E⟩,.pass (x:= .inLoop c) rfl (λ_ _=> .inl (by simp)) g⟩
 |goto l=>exact⟨_,H,O,⟨I,y,E⟩,.pass (x:= .inLoop c) rfl (λ_ _=> .inl (by simp)) g⟩
 |ret=>exact⟨_,H,O,⟨I,y,E⟩,.pass (x:= .inLoop c) rfl (λ_ _=> .inl (by simp)) g⟩
 |panic ch=>exact⟨_,H,O,⟨I,y,E⟩,.pass (x:= .inLoop c) rfl (λ_ _=> .inl (by simp)) g⟩
 |outgrown=>exact⟨_,H,O,⟨I,y,E⟩,.pass (x:= .inLoop c) rfl (λ_ _=> .inl (by simp)) g⟩
theorem WpF.mono {n:Nat}{c:Code}{Q g:fF}{ρ:Fr}{w:World}(h:WpF P n c Q ρ w)(y: ∀e ρ w,Q e ρ w->g e ρ w):WpF P n c g ρ w:=
 λa hr=>Code.wp_mono (λ_ _ _ ⟨ρ,hr,h⟩=>⟨ρ,hr,y _ _ _ h⟩) (h a hr)

end Go.Proofs.YtendaipfdnhnaaaGreatDoor


namespace Go.Proofs.YtendaipfdnhnaaaGreatDoor
variable {P:Program}

def semP (P:Program)(s:Sem Value)(ty:Ty)(K:Value->Prop):Prop:=ty.ex λv=>(∀w,s.run P w= .ok v w)/\K v
def valV (P:Program)(o:Oper)(ρ:Fr)(K:Value->Prop):Prop:=
 match o.op with
 | .move x| .assign x=>K (rd ρ x)
 | .pick c x y=>match rd ρ c with
  | .bool b=>match b with
   |true=>K (rd ρ x)
   |false=>K (rd ρ y)
  |_=>False
 | .binOp op xt x y _=>match Bh P xt with
  |false=>semP P (do eqGuard op xt x y (rd ρ x) (rd ρ y);binOp op xt (rd ρ x) (rd ρ y)) (.c (.s .bool)) K
  |true=>match rd ρ x,rd ρ y with
   | .string a,.string b=>match op with
    | .add=>((a.size+b.size:Nat):Int)<=i64.max/\K (.string (a++b))
    |_=>nV P (do eqGuard op xt x y (.string a) (.string b);binOp op xt (.string a) (.string b)) K
   | .int k a,.int k' b=>match op with
    | .quo=>b≠0/\match decide (k=k') with
     |true=>K (.int k (k.wrap (a.tdiv b)))
     |false=>False
    | .rem=>b≠0/\match decide (k=k') with
     |true=>K (.int k (a.tmod b))
     |false=>False
    |_=>nV P (do eqGuard op xt x y (.int k a) (.int k' b);binOp op xt (.int k a) (.int k' b)) K
   |x',y'=>nV P (do eqGuard op xt x y x' y';binOp op xt x' y') K
 | .unOp op _ x=>nV P (Op.unary op (rd ρ x)) K
 | .nilCheck x=>nilV (rd ρ x) K
 | .fieldAddr s x f=>match rd ρ x with
  | .pointer (some a)=>match P.underlying s with
   |some (.struct fs)=>match fs[f]? with
    |some E=>match P.info? E.type with
     |some i=>match i.size with
      |0=>False
      |_+1=>K (.pointer (some (a.add E.offset)))
     |none=>False
    |none=>False
   |_=>False
  |_=>False
 | .field xt x f=>nV P (Instr.field xt (rd ρ x) f) K
 | .build t parts=>match P.underlying t,P.info? t with
  |some (.struct fs),some g=>match g.zero with
   |some (.agg H)=>match fs.toList.all λf=>(P.info? f.type).isSome with
    |true=>buildS P fs (parts.toList.map λ(i,x)=>(i,rd ρ x)) H.toList λcs=>K (.agg cs.toArray)
    |false=>False
   |_=>False
  |_,_=>nV P (Instr.build t (parts.map λ(i,x)=>(i,rd ρ x))) K
 | .makeInterface t x=>nV P (Instr.makeInterface t (rd ρ x)) K
 | .makeFunc fn first captured=>K (.func fn (first.map (rd ρ)) (captured.map (rd ρ)))
 | .extract x i=>match rd ρ x with
  | .tuple vs=>match vs[i]? with
   |some v=>K v
   |none=>False
  |_=>False
 | .index xt x i=>match rd ρ x,rd ρ i with
  | .string s,.int _ n=>match P.underlying xt with
   |some .string=>0<=n/\n<s.size/\K (.int .u8 (bt s n))
   |_=>False
  |_,_=>False
 | .indexAddr t x i=>match rd ρ x,rd ρ i with
  | .slice q len _,.int _ n=>match P.underlying t with
   |some (.slice e)=>match P.info? e with
    |some g=>0<=n/\n<len/\aA q λa=>K (.pointer (some (a.add (n.toNat*g.size))))
    |none=>False
   |_=>False
  | .pointer (some ad),.int _ n=>match P.underlying t with
   |some (.array len e)=>match P.info? e with
    |some g=>0<=n/\n<(len:Int)/\K (.pointer (some (ad.add (n.toNat*g.size))))
    |none=>False
   |_=>False
  |_,_=>False
 | .slice t x lo hi mx=>match rd ρ x with
  | .string s=>match P.underlying t,mx with
   |some .string,none=>o6 s (lo.map (rd ρ)) (hi.map (rd ρ)) K
   |_,_=>False
  |x'=>semP P (Instr.sliceAt t x' (lo.map (rd ρ)) (hi.map (rd ρ)) (mx.map (rd ρ))) (.c (.s .slice)) K
 | .convert src dst x=>match rd ρ x with
  | .int _ n=>match P.underlying src,P.underlying dst with
   |some (.int _),some (.int k)=>K (.int k (k.wrap n))
   |some (.int _),some .string=>K (.string (Utf8.encode n))
   |_,_=>False
  | .string s=>match P.underlying src,P.underlying dst with
   |some .string,some .string=>K (.string s)
   |_,_=>False
  |_=>False
 | .typeAssert x xt asserted ok=>semP P (Instr.typeAssert (rd ρ x) xt asserted ok) (okTy (DK P asserted) ok) K
 | .call c=>match c.callee with
  | .builtin .len=>match c.argTypes[0]?,c.args[0]? with
   |some t,some x=>match P.underlying t,rd ρ x with
    |some .string,.string s=>K (.int .i64 s.size)
    |some (.slice _),.slice _ n _=>K (.int .i64 n)
    |_,_=>False
   |_,_=>False
  |_=>False
 |_=>False

theorem uz {s:Sem Value}{ty:Ty}{K:Value->Prop}(h:semP P s ty K): ∃v,K v/\ ∀w,s.run P w= .ok v w:=by
 obtain⟨v,hr,g⟩:=Ty.ex_out h
 exact⟨v,g,hr⟩
theorem C2 {o:Oper}{ρ:Fr}{K:Value->Prop}(h:valV P o ρ K): ∃v,K v/\ ∀w,(execOp (rd ρ) o).run P w= .ok (.value v) w:=by
 have bind: ∀ {s:Sem Value} {e:Sem Next},e=(s>>=λv=>pure (.value v))->(∃v,K v/\ ∀w,s.run P w= .ok v w)-> ∃v,K v/\ ∀w,e.run P w= .ok (.value v) w:=by
  intro s e d1 ⟨v,g,hr⟩
  subst d1
  exact⟨v,g,λw=>aU (hr w)⟩
 unfold valV at h
 split at h<;>rename_i c9<;>simp only[execOp,c9]
 case h_1=>exact⟨_,h,λ_=>rfl⟩
 case h_2=>exact⟨_,h,λ_=>rfl⟩
 case h_3=>
  split at h
  ·rename_i b hb
   split at h<;>(rw[hb];exact⟨_,h,λ_=>rfl⟩)
  ·exact h.elim
 case h_4=>
  rename_i op xt x y e8
  refine bind rfl ?_
  split at h
  ·exact uz h
  ·split at h
   ·rename_i a b V hb
    split at h
    ·obtain⟨hs,h⟩:=h
     refine⟨_,h,λw=>?_⟩
     have: ¬ ((a.size+b.size:Nat):Int)>i64.max:=by omega
     rw[V,hb]
     show (binOp .add xt (.string a) (.string b)).run P w=_
     simp only[binOp,Op.stringOp,if_neg this]
     rfl
    ·rw[V,hb];exact eF h
   ·rename_i k a e5 b V hb
    split at h
    ·obtain⟨U,h⟩:=h
     split at h
     ·rename_i g
      have g:=of_decide_eq_true g
      subst g
      refine⟨_,h,λw=>?_⟩
      rw[V,hb]
      show (binOp .quo xt (.int k a) (.int k b)).run P w=_
      simp[binOp,Op.intDiv,U]
     ·exact h.elim
    ·obtain⟨U,h⟩:=h
     split at h
     ·rename_i g
      have g:=of_decide_eq_true g
      subst g
      refine⟨_,h,λw=>?_⟩
      rw[V,hb]
      show (binOp .rem xt (.int k a) (.int k b)).run P w=_
      simp[binOp,Op.intDiv,U]
     ·exact h.elim
    ·rw[V,hb];exact eF h
   ·exact eF h
 case h_5=>exact bind rfl (eF h)
 case h_6=>
  unfold nilV at h
  split at h
  ·rename_i q d3
   unfold aA at h
   split at h
   ·rw[d3];exact⟨_,h,λ_=>rfl⟩
   ·exact h.elim
  ·rename_i v hv
   obtain⟨U,g⟩:=h
   cases I:rd ρ _<;>rw[I] at U g<;>try exact U.elim
   ·rename_i d2 first e1
    cases d2<;>try exact U.elim
    exact⟨_,g,λ_=>rfl⟩
   ·exact⟨_,g,λ_=>rfl⟩
 case h_7=>
  split at h
  ·rename_i c1 c5
   split at h
   ·rename_i fs E
    split at h
    ·rename_i e7 b3
     split at h
     ·rename_i i hi
      split at h
      ·exact h.elim
      ·rename_i m e0
       refine bind rfl ⟨_,h,λw=>?_⟩
       rw[c5]
       unfold Instr.fieldAt underlying fieldPlace sizeOf typeInfo
       simp only[Sem.run_bind,run_program,Result.andThen_ok,E]
       simp only[pure,Sem.run,Result.andThen_ok,b3,Instr.sureAddr,e0,Nat.add_one_ne_zero,if_false,Sem.run_bind,run_program,hi]
     ·exact h.elim
    ·exact h.elim
   ·exact h.elim
  ·exact h.elim
 case h_8=>exact bind rfl (eF h)
 case h_9=>
  split at h
  ·rename_i fs O E c3
   rename_i b5 _ _
   split at h
   ·rename_i b9 hz
    split at h
    ·rename_i c4
     have d0: ∀(i:Nat) (f:Field) (O:TypeInfo),fs[i]? =some f->P.info? f.type=some O->
      ((fs.toList.map λf=>(f.offset,((P.info? f.type).map (·.size)).getD 0)).toArray)[i]? =some (f.offset,O.size):=by
      intro i f e3 b3 hi
      simp[b3,hi]
     obtain⟨e4,g,c2⟩:=qs d0 h
     refine bind rfl ⟨_,g,λw=>?_⟩
     unfold Instr.build zeroValue typeInfo underlying
     simp only[Sem.run_bind,run_program,Result.andThen_ok,c3,E]
     rw[show (pure O:Sem TypeInfo).run P w= .ok O w from rfl]
     simp only[Result.andThen_ok,hz]
     rw[show (pure (Value.agg b9):Sem Value).run P w= .ok (.agg b9) w from rfl]
     simp only[Result.andThen_ok]
     rw[show (pure (TypeDesc.struct fs):Sem TypeDesc).run P w= .ok (.struct fs) w from rfl]
     simp only[Result.andThen_ok,Sem.run_bind]
     rw[Array.mapM_eq_mapM_toList,map_eq_pure_bind,Sem.run_bind,pZ _ c4]
     simp only[Result.andThen_ok]
     rw[show∀x:List (Nat × Nat),(pure x.toArray:Sem (Array (Nat × Nat))).run P w= .ok x.toArray w from λ_=>rfl]
     simp only[Result.andThen_ok,Value.cells]
     have c8:(b5.map λ(i,x)=>(i,rd ρ x)).toList=b5.toList.map λ(i,x)=>(i,rd ρ x):=by simp
     rw[c8,c2]
     simp
    ·exact h.elim
   ·exact h.elim
  ·exact bind rfl (eF h)
 case h_10=>exact bind rfl (eF h)
 case h_11=>exact⟨_,h,λ_=>rfl⟩
 case h_12=>
  split at h
  ·rename_i vs hv
   split at h
   ·rename_i v hi
    exact bind rfl ⟨_,h,λw=>by simp[hv,Instr.extract,hi]⟩
   ·exact h.elim
  ·exact h.elim
 case h_13=>
  split at h
  ·rename_i s k m hs hi
   split at h
   ·rename_i E
    obtain⟨a6,H,g⟩:=h
    refine bind rfl ⟨_,g,λw=>?_⟩
    have b8:m.toNat<s.size:=by omega
    unfold Instr.index asIntOf underlying
    simp only[hs,hi,Sem.run_bind,run_program,Result.andThen_ok]
    simp only[pure,Sem.run,Result.andThen_ok,a6,if_true,getElem?_pos s m.toNat b8,E]
    congr 2
    unfold bt
    have:s.data.size=s.size:=rfl
    simp[Array.getD,this,b8,ByteArray.getElem_eq_getElem_data]
   ·exact h.elim
  ·exact h.elim
 case h_14=>
  split at h
  ·rename_i q len c k m hs hi
   split at h
   ·rename_i e E
    split at h
    ·rename_i O a7
     obtain⟨a6,H,g⟩:=h
     unfold aA at g
     split at g
     ·rename_i c1
      refine bind rfl ⟨_,g,λw=>?_⟩
      unfold Instr.indexAt asIntOf underlying sizeOf typeInfo
      simp only[hs,hi,Sem.run_bind,run_program,Result.andThen_ok]
      simp only[pure,Sem.run,Result.andThen_ok,a6,H,and_self,if_true,Sem.run_bind,run_program,a7,E]
     ·exact g.elim
    ·exact h.elim
   ·exact h.elim
  ·rename_i c1 k m hs hi
   split at h
   ·rename_i len e E
    split at h
    ·rename_i O a7
     obtain⟨a6,H,g⟩:=h
     refine bind rfl ⟨_,g,λw=>?_⟩
     unfold Instr.indexAt asIntOf underlying sizeOf typeInfo
     simp only[hs,hi,Sem.run_bind,run_program,Result.andThen_ok]
     simp only[pure,Sem.run,Result.andThen_ok,a6,H,and_self,if_true,Sem.run_bind,run_program,a7,E,Instr.sureAddr]
    ·exact h.elim
   ·exact h.elim
  ·exact h.elim
 case h_15=>
  split at h
  ·rename_i s hs
   split at h
   ·rename_i E
    rw[hs]
    refine bind rfl ?_
    exact qA E h
   ·exact h.elim
  ·exact bind rfl (uz h)
 case h_16=>
  split at h
  ·rename_i k m I
   split at h
   ·rename_i k1 k2 H W
    exact bind rfl ⟨_,h,λw=>by simp[I,convert,underlying,H,W,Conv.intToInt]⟩
   ·rename_i k1 H W
    exact bind rfl ⟨_,h,λw=>by simp[I,convert,underlying,H,W,Conv.intToString]⟩
   ·exact h.elim
  ·rename_i m I
   split at h
   ·rename_i H W
    exact bind rfl ⟨_,h,λw=>by simp[I,convert,underlying,H,W]⟩
   ·exact h.elim
  ·exact h.elim
 case h_17=>exact bind rfl (uz h)
 case h_18=>
  rename_i c
  obtain⟨e2,b6,b4⟩:=c
  split at h
  ·rename_i b7
   dsimp only at b7 h
   subst b7
   split at h
   ·rename_i t x ht I
    split at h
    ·rename_i s E hs
     exact bind (s:=Builtin.len_ b4 o.type (b6.map (rd ρ))) rfl ⟨_,h,λw=>by simp[Builtin.len_,ht,I,underlying,E,hs,goInt]⟩
    ·rename_i e q m e6 E hs
     exact bind (s:=Builtin.len_ b4 o.type (b6.map (rd ρ))) rfl ⟨_,h,λw=>by simp[Builtin.len_,ht,I,underlying,E,hs,goInt]⟩
    ·exact h.elim
   ·exact h.elim
  ·exact h.elim
 case h_19=>exact h.elim

def SameC (w g:World)(a:Addr)(n:Nat):Prop:= ∀k,k<n->g.cell? (a.add k)=w.cell? (a.add k)
theorem SameC.trans {w y g:World}{a:Addr}{n:Nat}(h:SameC w y a n)(H:SameC y g a n):SameC w g a n:=
 λk E=>(H k E).trans (h k E)
theorem add_zero (a:Addr):a.add 0=a:=rfl

theorem BF: ∀ {ts:List STy} {w:World} {a:Addr} {i:Nat} {K:List Value->Prop},ldS w ts a i K->
 ∃vs,K vs/\vs.length=ts.length/\ ∀g,(∀k,k<i+ts.length->g.cell? (a.add k)=w.cell? (a.add k))-> ∀(y:Array Value),(loadCellsFrom a i ts.length y).run P g= .ok (y++vs.toArray) g
 | [],_,_,_,_,h=>⟨[],h,rfl,λg _ y=>by simp[loadCellsFrom]⟩
 |t::ts,w,a,i,K,h=>by
  obtain⟨v,hc,h⟩:=STy.ex_out h
  obtain⟨vs,H,I,hr⟩:=BF h
  refine⟨v::vs,H,by simp[I],λg E y=>?_⟩
  have O:g.cell? (a.add i)=some v:=by rw[E i (by simp only[List.length_cons];omega)];exact hc
  simp only[List.length_cons,loadCellsFrom,Sem.run_bind,run_load,O,Result.andThen]
  rw[hr g (λk H=>E k (by simp only[List.length_cons];omega))]
  simp

theorem Bv {t:TypeId}{a:Addr}{w:World}{K:Value->Prop}{i:TypeInfo}(hi:P.info? t=some i)(H:0<i.size)(h:xX P t a w K):
 ∃v,K v/\ ∀g,SameC w g a i.size->(loadVar t a).run P g= .ok v g:=by
 unfold xX at h
 rw[hi] at h
 split at h
 ·rename_i b4 d U a6
  cases U
  have I:=λw=>wy (w:=w) a6
  split at h
  ·rename_i cs hb hz
   split at h
   ·rename_i O
    obtain⟨vs,y,b3,hr⟩:=BF (P:=P) h
    refine⟨_,y,λg E=>?_⟩
    have V:i.size=cs.size:=by simp[<-Nat.eq_of_beq_eq_true O]
    have W:(loadCellsFrom a 0 cs.size #[]).run P g= .ok vs.toArray g:=by
     have:=hr g (λk y=>E k (by simp at y;omega)) #[]
     simpa using this
    unfold loadVar loadCells sizeOf typeInfo
    simp only[Sem.run_bind,I,Result.andThen_ok,hb,if_true,run_program,hi]
    have H:(pure i:Sem TypeInfo).run P g= .ok i g:=rfl
    simp only[H,Result.andThen_ok,V]
    rw[show (pure cs.size:Sem Nat).run P g= .ok cs.size g from rfl]
    simp only[Result.andThen_ok,W]
    rfl
   ·exact h.elim
  ·rename_i z hb hz
   obtain⟨v,hc,y⟩:=STy.ex_out h
   refine⟨v,y,λg E=>?_⟩
   have a7:g.cell? a=some v:=by have:=E 0 H;rw[add_zero] at this;rw[this];exact hc
   unfold loadVar
   simp only[Sem.run_bind,I,Result.andThen_ok,hb,Bool.false_eq_true,if_false,run_load,a7]
  ·exact h.elim
 ·exact h.elim

inductive RPlan where
 |done
 |pure (i:Nat) (p:RPlan)
 |load (i:Nat) (p:RPlan)
 |one (i:Nat) (p:RPlan)
 |two (i:Nat) (p:RPlan) (j:Nat) (q:RPlan)
def RPlan.depth:RPlan->Nat
 | .done=>0
 | .pure _ p| .load _ p| .one _ p=>p.depth+1
 | .two _ p _ q=>max p.depth q.depth+1
def n4 (g:Array Oper):Nat->Nat->Nat->Bool
 |0,_,_=>false
 |f+1,j,i=>match g[j]? with
  |none=>false
  |some o=>o.after.any λe=>Region.binds .any e && (Nat.beq e.on i||n4 g f e.on i)
def wR:List Nat->List Nat->Bool
 | [],[]=>true
 |a::ys,b::bs=>match Nat.beq a b with
  |true=>wR ys bs
  |false=>false
 |_,_=>false
def wJ:List Nat->Nat->Bool
 | [],_=>false
 |a::ys,b=>match Nat.beq a b with
  |true=>true
  |false=>wJ ys b
def vw (H:Array Oper)(o:Oper)(ρ:Fr)(g y:Fr->Prop):Prop:=
 match o.guard with
 |none=>g ρ
 |some (j,E)=>match (H.toList[j]?).bind (·.dst) with
  |none=>False
  |some t=>match ρ t with
   | .bool b=>match b with
    |true=>match E with
     |true=>g (upd ρ t (.bool true))
     |false=>y (upd ρ t (.bool true))
    |false=>match E with
     |true=>y (upd ρ t (.bool false))
     |false=>g (upd ρ t (.bool false))
   | .tuple _=>y ρ
   |_=>False
abbrev FK:=List (Nat × Addr × Nat)
def wo (g:Array Oper)(j:Nat)(w y:World):FK->Prop->Prop
 | [],K=>K
 |(i,a,n)::E,K=>match n4 g g.size j i with
  |true=>wo g j w y E K
  |false=>SameC w y a n/\wo g j w y E K
def kU (P:Program)(n:Nat)(g:Array Oper)(Q:Fr->World->Prop):RPlan->Array Bool->FK->Fr->World->Prop
 | .done,listed,_,ρ,w=>match Region.ready .any g listed with
  | []=>Q ρ w
  |_::_=>False
 | .pure i p,listed,E,ρ,w=>match g[i]? with
  |none=>False
  |some o=>match sJ n o.dst,Region.free .any g listed i,wJ (Region.ready .any g listed) i with
   |true,true,true=>vw g o ρ (λρ=>valV P o ρ λv=>kU P n g Q p (listed.setIfInBounds i true) E (rg ρ o.dst v) w)
    (λρ=>kU P n g Q p (listed.setIfInBounds i true) E (rg ρ o.dst undef) w)
   |_,_,_=>False
 | .load i p,listed,E,ρ,w=>match g[i]? with
  |none=>False
  |some o=>match sJ n o.dst,Region.free .any g listed i,wJ (Region.ready .any g listed) i with
   |true,true,true=>match o.op with
    | .load t x=>match P.info? t with
     |some H=>match Nat.blt 0 H.size with
      |true=>vw g o ρ (λρ=>match rd ρ x with
       | .pointer (some a)=>xX P t a w λv=>kU P n g Q p (listed.setIfInBounds i true) ((i,a,H.size)::E) (rg ρ o.dst v) w
       |_=>False)
       (λρ=>kU P n g Q p (listed.setIfInBounds i true) E (rg ρ o.dst undef) w)
      |false=>False
     |none=>False
    |_=>False
   |_,_,_=>False
 | .one i p,listed,E,ρ,w=>match g[i]? with
  |none=>False
  |some o=>match sJ n o.dst,wR (Region.ready .any g listed) [i] with
   |true,true=>vw g o ρ (λρ=>opV P o ρ (λv y=>wo g i w y E (kU P n g Q p (listed.setIfInBounds i true) E (rg ρ o.dst v) y)) w)
    (λρ=>kU P n g Q p (listed.setIfInBounds i true) E (rg ρ o.dst undef) w)
   |_,_=>False
 | .two i p j q,listed,E,ρ,w=>match g[i]?,g[j]? with
  |some o,some u=>match sJ n o.dst,sJ n u.dst,wR (Region.ready .any g listed) [i,j] with
   |true,true,true=>
    (vw g o ρ (λρ=>opV P o ρ (λv y=>wo g i w y E (kU P n g Q p (listed.setIfInBounds i true) E (rg ρ o.dst v) y)) w)
     (λρ=>kU P n g Q p (listed.setIfInBounds i true) E (rg ρ o.dst undef) w))/\
    (vw g u ρ (λρ=>opV P u ρ (λv y=>wo g j w y E (kU P n g Q q (listed.setIfInBounds j true) E (rg ρ u.dst v) y)) w)
     (λρ=>kU P n g Q q (listed.setIfInBounds j true) E (rg ρ u.dst undef) w))
   |_,_,_=>False
  |_,_=>False
def Gy (P:Program)(n:Nat)(g:Array Oper)(y:RPlan)(Q:Fr->World->Prop)(ρ:Fr)(w:World):Prop:=
 kU P n g Q y (Array.replicate g.size false) [] ρ {w with drawn:=w.drawn+1}

section
variable {ops:Array Oper} {Q:Exit->Act->World->Prop}
def Closed (y:Array Oper)(g:Array Bool):Prop:=
 ∀(k:Nat) (o:Oper),y[k]? =some o->g.getD k false=true-> ∀e∈o.after,Region.binds .any e=true->g.getD e.on false=true
def nZ (P:Program)(g:Array Oper)(Q:Exit->Act->World->Prop)(E:Nat->World->World->Prop):Nat->Array Bool->Act->World->Prop
 |0,listed,a,w=>Region.ready .any g listed= []/\Q .normal a w
 |f+1,listed,a,w=>(Region.ready .any g listed= []->Q .normal a w)/\
  ∀i∈Region.ready .any g listed,wpOp P g Q i (λH y=>E i w y/\nZ P g Q E f (listed.setIfInBounds i true) H y) a w
theorem tm {E:Nat->World->World->Prop}: ∀(f:Nat) (g:Array Bool) (a:Act) (w:World),nZ P ops Q E f g a w->wpAny P .any ops Q f g a w
 |0,_,_,_,h=>h
 |f+1,_,_,_,h=>⟨h.1,λi hi=>wpOp_mono (λ_ _ y=>tm f _ _ _ y.2) (h.2 i hi)⟩
theorem rC {I O':Nat->World->World->Prop}(H: ∀j w y,O' j w y->I j w y): ∀(f:Nat) (g:Array Bool) (a:Act) (w:World),nZ P ops Q O' f g a w->nZ P ops Q I f g a w
 |0,_,_,_,h=>h
 |f+1,_,_,_,h=>⟨h.1,λi hi=>wpOp_mono (λ_ _ E=>⟨H _ _ _ E.1,rC H f _ _ _ E.2⟩) (h.2 i hi)⟩

theorem Closed.set {g:Array Bool}{j:Nat}(hc:Closed ops g)(V:j∈Region.ready .any ops g):Closed ops (g.setIfInBounds j true):=by
 intro k o H I e O hb
 by_cases y:j=k
 ·subst y
  obtain⟨_,o',E,U⟩:=mem_ready.1 V
  rw[H] at E
  cases E
  exact getD_set_true (U e O hb)
 ·rw[getD_set_ne false y] at I
  exact getD_set_true (hc k o H I e O hb)
theorem qv {g:Array Bool}(hc:Closed ops g){i:Nat}: ∀(f j:Nat) {o:Oper},ops[j]? =some o->
 (∀e∈o.after,Region.binds .any e=true->g.getD e.on false=true)->n4 ops f j i=true->g.getD i false=true
 |0,_,_,_,_,h=>by cases h
 |f+1,j,o,ho,hall,h=>by
  simp only[n4,ho] at h
  obtain⟨e,O,h⟩:=Array.any_eq_true'.1 h
  simp only[Bool.and_eq_true,Bool.or_eq_true] at h
  obtain⟨hb,h⟩:=h
  have E:=hall e O hb
  rcases h with h|h
  ·rw[<-Nat.eq_of_beq_eq_true h];exact E
  ·cases y:ops[e.on]? with
   |none=>
    cases f with
    |zero=>cases h
    |succ f=>simp[n4,y] at h
   |some o'=>exact qv hc f e.on y (λe' H I=>hc e.on o' y E e' H I) h
theorem DC {g:Array Bool}{i:Nat}(h:g.getD i true=false):g.getD i false=false:=by
 rcases Nat.lt_or_ge i g.size with y|y
 ·simp[y] at h⊢;exact h
 ·simp[Array.getElem?_eq_none y] at h

theorem Ca {S:World->Prop}{O O':Nat->World->World->Prop}{i:Nat}{U:Oper}{v:Value}(hi:ops[i]? =some U)(b9: ∀(j:Nat) (o:Oper) cs b,ops[j]? =some o->o.op≠ .select cs b)(d3: ∀c a w,¬ Q (.panic c) a w)(c3: ∀j w E,O' j w E->O j w E)(b6: ∀w,O i w w)(e1: ∀j w E,n4 ops ops.size j i=false->O' j w E->S w->S E):
 ∀(V:Nat) (g:Array Bool) (a:Act) (w:World),Closed ops g->
  (∀j I,ops[j]? =some I->j≠i->g.getD j true=false->(∀e∈I.after,Region.binds .any e=true->e.on≠i)->U.apart ops I=true)->
  i∈Region.ready .any ops g->YieldsIf P ops S U v a->S w->
  nZ P ops Q O' V (g.setIfInBounds i true) (a.put U.dst v) w->nZ P ops Q O (V+1) g a w:=by
 intro V
 induction V with
 |zero=>
  intro g a w _ _ hr a7 hs H
  refine⟨λh=>(by rw[h] at hr;cases hr),λj W=>?_⟩
  by_cases y:j=i
  ·subst y;exact a7.wpOp hi hs ⟨b6 w,H⟩
  ·have:=ready_mono W y
   rw[H.1] at this
   cases this
 |succ V e4=>
  intro g a w hc b7 hr a7 hs H
  refine⟨λh=>(by rw[h] at hr;cases hr),λj W=>?_⟩
  by_cases y:j=i
  ·subst y;exact a7.wpOp hi hs ⟨b6 w,rC c3 _ _ _ _ H⟩
  ·have b4:=H.2 j (ready_mono W y)
   obtain⟨c1,I,a6,b8⟩:=mem_ready.1 W
   have b5:=DC (mem_ready.1 hr).1
   have c8: ∀e∈I.after,Region.binds .any e=true->e.on≠i:=λe e3 hb c9=>by
    have b4:=b8 e e3 hb
    rw[c9,b5] at b4
    cases b4
   have d0:n4 ops ops.size j i=false:=by
    cases e5:n4 ops ops.size j i with
    |false=>rfl
    |true=>rw[qv hc _ _ a6 b8 e5] at b5;cases b5
   have e7:=wpOp_putIf a6 (b7 j I a6 y c1 c8) (λcs b=>b9 i U cs b hi) (λcs b=>b9 j I cs b a6) (λc a w e6=>(d3 _ _ _ e6).elim) a7 b4
   have c5: ∀k ok,ops[k]? =some ok->k≠i->(g.setIfInBounds j true).getD k true=false->
    (∀e∈ok.after,Region.binds .any e=true->e.on≠i)->U.apart ops ok=true:=λk ok e0 d1 c2 d2=>by
    refine b7 k ok e0 d1 ?_ d2
    by_cases c4:j=k
    ·subst c4;exact c1
    ·rw[getD_set_ne true c4] at c2;exact c2
   refine wpOp_mono (λe2 E b3=>⟨c3 _ _ _ b3.2.1,e4 (g.setIfInBounds j true) e2 E (hc.set W) c5 (ready_mono hr (Ne.symm y)) b3.1 (e1 j w E d0 b3.2.1 hs) ?_⟩) e7
   rw[Array.setIfInBounds_comm _ _ y]
   exact b3.2.2
end

theorem rE {g:Array Oper}{o:Oper}{n:Nat}{a:Act}{ρ:Fr}{H O:Fr->Prop}(hr:RelF n a ρ)(h:vw g o ρ H O):
 (Region.wanted o (yielded g a.tmps)=true/\H ρ)\/(Region.wanted o (yielded g a.tmps)=false/\O ρ):=by
 unfold vw at h
 split at h
 ·rename_i y;exact .inl ⟨by simp[Region.wanted,y],h⟩
 ·rename_i j E y
  split at h
  ·exact h.elim
  ·rename_i t ht
   have I:Region.wanted o (yielded g a.tmps)=isB E (ρ t):=by rw[rD y ht,hr.get]
   split at h
   ·rename_i b hb
    have U: ∀z,b=z->upd ρ t (.bool z)=ρ:=λz hz=>by subst hz;rw[<-hb];exact ro ρ t
    rw[I,hb]
    cases b<;>cases E<;>simp only[U _ rfl] at h
    ·exact .inl ⟨rfl,h⟩
    ·exact .inr ⟨rfl,h⟩
    ·exact .inr ⟨rfl,h⟩
    ·exact .inl ⟨rfl,h⟩
   ·rename_i vs hb
    exact .inr ⟨by rw[I,hb];rfl,h⟩
   ·exact h.elim
theorem sG: ∀ {a b:List Nat},wR a b=true->a=b
 | [],[],_=>rfl
 |a::ys,b::bs,h=>by
  simp only[wR] at h
  cases hb:Nat.beq a b<;>rw[hb] at h
  ·cases h
  ·rw[Nat.eq_of_beq_eq_true hb,sG h]
 | [],_::_,h=>by cases h
 |_::_,[],h=>by cases h
theorem qi: ∀ {a:List Nat} {b:Nat},wJ a b=true->b∈a
 | [],_,h=>by cases h
 |a::ys,b,h=>by
  simp only[wJ] at h
  cases hb:Nat.beq a b<;>rw[hb] at h
  ·exact List.mem_cons_of_mem _ (qi h)
  ·rw[Nat.eq_of_beq_eq_true hb];exact List.mem_cons_self
def ObE (g:Array Oper)(H:FK)(j:Nat)(w y:World):Prop:= ∀i a n,(i,a,n)∈H->n4 g g.size j i=false->SameC w y a n
theorem sk {H:Array Oper}{j:Nat}{w V:World}{K:Prop}: ∀ {U:FK},wo H j w V U K->ObE H U j w V/\K
 | [],h=>⟨λ_ _ _ g=>(by cases g),h⟩
 |(i,a,n)::U,h=>by
  simp only[wo] at h
  cases hb:n4 H H.size j i with
  |true=>
   rw[hb] at h
   obtain⟨I,O⟩:=sk h
   refine⟨λa6 a7 W g y=>?_,O⟩
   cases g with
   |head=>rw[hb] at y;cases y
   |tail _ g=>exact I _ _ _ g y
  |false=>
   rw[hb] at h
   obtain⟨I,O⟩:=sk h.2
   refine⟨λa6 a7 W g y=>?_,O⟩
   cases g with
   |head=>exact h.1
   |tail _ g=>exact I _ _ _ g y
theorem ObE.refl {g:Array Oper}{y:FK}(j:Nat)(w:World):ObE g y j w w:=λ_ _ _ _ _ _ _=>rfl

theorem xN {n:Nat}{y:Array Oper}{Q:fF}(hs:Region.noSelect y=true)(e9: ∀c ρ w,¬ Q (.panic c) ρ w):
 ∀(b8:RPlan) (g:Array Bool) (H:FK) (a:Act) (ρ:Fr) (w:World) (f:Nat),RelF n a ρ->Closed y g->b8.depth<=f->
  kU P n y (Q .normal) b8 g H ρ w->nZ P y (mq n Q) (ObE y H) f g a w:=by
 have c4: ∀c a w,¬ mq n Q (.panic c) a w:=λc a w ⟨ρ,_,h⟩=>e9 c ρ w h
 have c1: ∀(i:Nat) (o:Oper) (H:FK) (g:Array Bool) (a:Act) (ρ:Fr) (w:World) (f:Nat) (p:RPlan),y[i]? =some o->RelF n a ρ->sJ n o.dst=true->
  (∀(a:Act) (ρ:Fr) (w:World),RelF n a ρ->kU P n y (Q .normal) p (g.setIfInBounds i true) H ρ w->nZ P y (mq n Q) (ObE y H) f (g.setIfInBounds i true) a w)->
  (vw y o ρ (λρ=>opV P o ρ (λv a7=>wo y i w a7 H (kU P n y (Q .normal) p (g.setIfInBounds i true) H (rg ρ o.dst v) a7)) w)
   (λρ=>kU P n y (Q .normal) p (g.setIfInBounds i true) H (rg ρ o.dst undef) w))->
  wpOp P y (mq n Q) i (λd1 a7=>ObE y H i w a7/\nZ P y (mq n Q) (ObE y H) f (g.setIfInBounds i true) d1 a7) a w:=by
  intro i o H g a ρ w f p O hr hd b3 h
  have b4: ∀k,o.dst=some k->k<n:=λk I=>by rw[I] at hd;simpa[sJ,Nat.blt_eq] using hd
  unfold wpOp
  simp only[O]
  rcases rE hr h with ⟨a6,h⟩|⟨a6,h⟩
  ·rw[if_pos a6]
   refine .inl (Oper.wp_mono (λd1 a7 ⟨v,f2,I⟩=>?_) (wa hr h))
   subst f2
   obtain⟨f0,f4⟩:=sk I
   exact⟨f0,b3 _ _ _ (hr.put o.dst v b4) f4⟩
  ·rw[if_neg (by simp[a6])]
   exact⟨ObE.refl i w,b3 _ _ _ (hr.put o.dst undef b4) h⟩
 intro b8
 induction b8 with
 |done=>
  intro g H a ρ w f hr _ _ h
  simp only[kU] at h
  split at h
  ·rename_i V
   cases f with
   |zero=>exact⟨V,ρ,hr,h⟩
   |succ f=>exact⟨λ_=>⟨ρ,hr,h⟩,λi hi=>(by rw[V] at hi;cases hi)⟩
  ·exact h.elim
 |pure i p b3=>
  intro g H a ρ w f hr hc U h
  obtain⟨f,rfl⟩: ∃m,f=m+1:=⟨f - 1,by simp only[RPlan.depth] at U;omega⟩
  simp only[kU] at h
  split at h
  ·exact h.elim
  ·rename_i o O
   split at h
   ·rename_i hd b7 W
    have b4: ∀k,o.dst=some k->k<n:=λk I=>by rw[I] at hd;simpa[sJ,Nat.blt_eq] using hd
    have W:=qi W
    have go: ∀v,YieldsIf P y (λ_=>True) o v a->kU P n y (Q .normal) p (g.setIfInBounds i true) H (rg ρ o.dst v) w->nZ P y (mq n Q) (ObE y H) (f+1) g a w:=
     λv e8 b5=>Ca (S:=λ_=>True) O (Region.noSelect_spec hs) c4 (λ_ _ _ h=>h) (λw=>ObE.refl i w) (λ_ _ _ _ _ _=>trivial) f g a w hc
      (Region.free_spec O b7) W e8 trivial (b3 _ _ _ _ _ _ (hr.put o.dst v b4) (hc.set W) (by simp only[RPlan.depth] at U;omega) b5)
    rcases rE hr h with ⟨a6,h⟩|⟨a6,h⟩
    ·obtain⟨v,I,c2⟩:=C2 h
     have c8:a.eval=rd ρ:=funext hr.eval
     exact go v (.inl ⟨a6,λw _=>by rw[c8];exact c2 w⟩) I
    ·exact go undef (.inr ⟨a6,rfl⟩) h
   ·exact h.elim
 |load i p b3=>
  intro g H a ρ w f hr hc U h
  obtain⟨f,rfl⟩: ∃m,f=m+1:=⟨f - 1,by simp only[RPlan.depth] at U;omega⟩
  simp only[kU] at h
  split at h
  ·exact h.elim
  ·rename_i o O
   split at h
   ·rename_i hd b7 W
    have b4: ∀k,o.dst=some k->k<n:=λk I=>by rw[I] at hd;simpa[sJ,Nat.blt_eq] using hd
    have W:=qi W
    split at h
    ·rename_i t x e4
     split at h
     ·rename_i c3 d2
      split at h
      ·rename_i b9
       have b9:0<c3.size:=by simpa[Nat.blt_eq] using b9
       have c8:a.eval=rd ρ:=funext hr.eval
       rcases rE hr h with ⟨a6,h⟩|⟨a6,h⟩
       ·split at h
        ·rename_i d0 e0
         obtain⟨v,I,c2⟩:=Bv d2 b9 h
         refine Ca (S:=λa7=>SameC w a7 d0 c3.size) (O':=ObE y ((i,d0,c3.size)::H)) O (Region.noSelect_spec hs) c4
          (λ_ _ _ h i a n f3=>h i a n (List.mem_cons_of_mem _ f3)) (λw=>ObE.refl i w) (λj f6 f5 e3 O c5=>c5.trans (O _ _ _ List.mem_cons_self e3)) f g a w hc
          (Region.free_spec O b7) W (v:=v) (.inl ⟨a6,λa7 c5=>?_⟩) (λ_ _=>rfl) (b3 _ _ _ _ _ _ (hr.put o.dst v b4) (hc.set W) (by simp only[RPlan.depth] at U;omega) I)
         rw[c8]
         simp only[execOp,e4]
         refine aU ?_
         rw[e0]
         exact c2 a7 c5
        ·exact h.elim
       ·exact Ca (S:=λ_=>True) (v:=undef) O (Region.noSelect_spec hs) c4 (λ_ _ _ h=>h) (λw=>ObE.refl i w) (λ_ _ _ _ _ _=>trivial) f g a w hc
         (Region.free_spec O b7) W (.inr ⟨a6,rfl⟩) trivial (b3 _ _ _ _ _ _ (hr.put o.dst undef b4) (hc.set W) (by simp only[RPlan.depth] at U;omega) h)
      ·exact h.elim
     ·exact h.elim
    ·exact h.elim
   ·exact h.elim
 |one i p b3=>
  intro g H a ρ w f hr hc U h
  obtain⟨f,rfl⟩: ∃m,f=m+1:=⟨f - 1,by simp only[RPlan.depth] at U;omega⟩
  simp only[kU] at h
  split at h
  ·exact h.elim
  ·rename_i o O
   split at h
   ·rename_i hd V
    have V:=sG V
    refine⟨λb6=>(by rw[V] at b6;cases b6),λj c9=>?_⟩
    have e1:j=i:=by rw[V] at c9;simpa using c9
    subst e1
    exact c1 j o H g a ρ w f p O hr hd (λa ρ w hr b5=>b3 _ _ _ _ _ _ hr (hc.set c9) (by simp only[RPlan.depth] at U;omega) b5) h
   ·exact h.elim
 |two i p j q e7 e6=>
  intro g H a ρ w f hr hc U h
  obtain⟨f,rfl⟩: ∃m,f=m+1:=⟨f - 1,by simp only[RPlan.depth] at U;omega⟩
  simp only[kU] at h
  split at h
  ·rename_i o u O f1
   split at h
   ·rename_i e5 d3 V
    have V:=sG V
    refine⟨λb6=>(by rw[V] at b6;cases b6),λk I=>?_⟩
    have e2:k=i\/k=j:=by rw[V] at I;simpa using I
    rcases e2 with rfl|rfl
    ·exact c1 k o H g a ρ w f p O hr e5 (λa ρ w hr b5=>e7 _ _ _ _ _ _ hr (hc.set I) (by simp only[RPlan.depth] at U;omega) b5) h.1
    ·exact c1 k u H g a ρ w f q f1 hr d3 (λa ρ w hr b5=>e6 _ _ _ _ _ _ hr (hc.set I) (by simp only[RPlan.depth] at U;omega) b5) h.2
   ·exact h.elim
  ·exact h.elim

theorem yw {n id:Nat}{g:Array Oper}{E:RPlan}{Q:fF}{ρ:Fr}{w:World}(I:P.follows .mixedOrders=true)(hs:Region.noSelect g=true)(H: ∀c ρ w,¬ Q (.panic c) ρ w)(hd:Nat.ble E.depth g.size=true)(h:Gy P n g E (Q .normal) ρ w):WpF P n (.region id g true) Q ρ w:=by
 intro a hr
 refine wp_region_any I (tm _ _ _ _ (xN hs H E _ [] a ρ _ _ hr ?_ (Nat.le_of_ble_eq_true hd) h))
 intro k o _ y
 simp only[Array.getD_eq_getD_getElem?,Array.getElem?_replicate] at y
 split at y<;>cases y

end Go.Proofs.YtendaipfdnhnaaaGreatDoor


namespace Go.Proofs.YtendaipfdnhnaaaGreatDoor
variable {P:Program}

abbrev xr:STy->Type->Type
 | .bool,R=>Bool->R
 | .int _,R=>Int->R
 | .str,R=>ByteArray->R
 | .ptr,R=>Option Addr->R
 | .slice,R=>Option Addr->Nat->Nat->R
 | .map,R=>Option Nat->R
 | .any,R=>Value->R
 | .loc,R=>Nat->R
abbrev xu:List STy->Type->Type
 | [],R=>R
 |t::ts,R=>xr t (xu ts R)
abbrev yI:CTy->Type->Type
 | .s t,R=>xr t R
 | .agg ts,R=>xu ts R
abbrev mt:List (Nat × CTy)->Type
 | []=>World->Prop
 |(_,t)::vs=>yI t (mt vs)

def apS:(t:STy)-> {R:Type}->xr t R->Value->(R->Prop)->Prop
 | .bool,_,F,v,k=>match v with| .bool b=>k (F b)|_=>False
 | .int i,_,F,v,k=>match v with
  | .int j m=>match decide (j=i) with|true=>k (F m)|false=>False
  |_=>False
 | .str,_,F,v,k=>match v with| .string s=>k (F s)|_=>False
 | .ptr,_,F,v,k=>match v with| .pointer q=>k (F q)|_=>False
 | .slice,_,F,v,k=>match v with| .slice q n c=>k (F q n c)|_=>False
 | .map,_,F,v,k=>match v with| .map q=>k (F q)|_=>False
 | .any,_,F,v,k=>k (F v)
 | .loc,_,F,v,k=>match v with| .pointer (some ⟨b,0,none⟩)=>k (F b)|_=>False
def apL:(ts:List STy)-> {R:Type}->xu ts R->List Value->(R->Prop)->Prop
 | [],_,F,vs,k=>match vs with| []=>k F|_::_=>False
 |t::ts,_,F,vs,k=>match vs with|v::vs=>apS t F v λg=>apL ts g vs k| []=>False
def apC:(t:CTy)-> {R:Type}->yI t R->Value->(R->Prop)->Prop
 | .s t,_,F,v,k=>apS t F v k
 | .agg ts,_,F,v,k=>match v with| .agg cs=>apL ts F cs.toList k|_=>False
def leaf:(vars:List (Nat × CTy))->mt vars->Fr->World->Prop
 | [],F,_,w=>F w
 |(i,t)::vs,F,ρ,w=>apC t F (ρ i) λg=>leaf vs g ρ w

def yG:(t:STy)-> {R:Type}->xr t R->(Value->R->Prop)->Prop
 | .bool,_,F,K=> ∀b,K (.bool b) (F b)
 | .int i,_,F,K=> ∀m,K (.int i m) (F m)
 | .str,_,F,K=> ∀s,K (.string s) (F s)
 | .ptr,_,F,K=> ∀q,K (.pointer q) (F q)
 | .slice,_,F,K=> ∀q n c,K (.slice q n c) (F q n c)
 | .map,_,F,K=> ∀q,K (.map q) (F q)
 | .any,_,F,K=> ∀v,K v (F v)
 | .loc,_,F,K=> ∀b,K (.pointer (some ⟨b,0,none⟩)) (F b)
def C0:(ts:List STy)-> {R:Type}->xu ts R->(List Value->R->Prop)->Prop
 | [],_,F,K=>K [] F
 |t::ts,_,F,K=>yG t F λv g=>C0 ts g λvs f=>K (v::vs) f
def C1:(t:CTy)-> {R:Type}->yI t R->(Value->R->Prop)->Prop
 | .s t,_,F,K=>yG t F K
 | .agg ts,_,F,K=>C0 ts F λvs f=>K (.agg vs.toArray) f
def EG:(vars:List (Nat × CTy))->mt vars->(Fr->World->Prop)->Prop
 | [],F,V=> ∀ρ w,F w=V ρ w
 |(i,t)::vs,F,V=>C1 t F λv g=>EG vs g λρ w=>V (upd ρ i v) w
theorem CH: ∀ {t:STy} {R:Type} {F:xr t R} {v:Value} {k:R->Prop} {K:Value->R->Prop},apS t F v k->yG t F K-> ∃f,k f/\K v f:=by
 intro t R F v k K h y
 cases t<;>simp only[apS] at h<;>simp only[yG] at y
 case int i=>
  split at h
  ·split at h
   ·rename_i hb;have:=of_decide_eq_true hb;subst this;exact⟨_,h,y _⟩
   ·exact h.elim
  ·exact h.elim
 case any=>exact⟨_,h,y _⟩
 case slice=>split at h<;>first|exact⟨_,h,y _ _ _⟩|exact h.elim
 all_goals (split at h<;>first|exact⟨_,h,y _⟩|exact h.elim)
theorem CI: ∀ {ts:List STy} {R:Type} {F:xu ts R} {vs:List Value} {k:R->Prop} {K:List Value->R->Prop},apL ts F vs k->C0 ts F K-> ∃f,k f/\K vs f
 | [],_,_,vs,_,_,h,g=>by
  cases vs with
  |nil=>exact⟨_,h,g⟩
  |cons v vs=>exact h.elim
 |t::ts,_,_,vs,_,K,h,g=>by
  cases vs with
  |nil=>exact h.elim
  |cons v vs=>
   obtain⟨H,y,E⟩:=CH (t:=t) h g
   exact CI (ts:=ts) (K:=λvs f=>K (v::vs) f) y E
theorem CJ: ∀ {t:CTy} {R:Type} {F:yI t R} {v:Value} {k:R->Prop} {K:Value->R->Prop},apC t F v k->C1 t F K-> ∃f,k f/\K v f:=by
 intro t R F v k K h y
 cases t with
 |s t=>exact CH (t:=t) h y
 |agg ts=>
  simp only[apC] at h
  split at h
  ·rename_i cs
   obtain⟨f,E,H⟩:=CI (ts:=ts) h y
   exact⟨f,E,by simpa using H⟩
  ·exact h.elim
theorem FX: ∀ {y:List (Nat × CTy)} {F:mt y} {V:Fr->World->Prop},EG y F V-> ∀ρ w,leaf y F ρ w->V ρ w
 | [],_,_,g,ρ,w,h=>by rw[<-g ρ w];exact h
 |(i,t)::vs,_,V,g,ρ,w,h=>by
  obtain⟨I,E,H⟩:=CJ (t:=t) h g
  have:=FX H ρ w E
  rwa [ro] at this

def mkS:(t:STy)-> {R:Type}->(Value->R)->xr t R
 | .bool,_,k=>λb=>k (.bool b)
 | .int i,_,k=>λm=>k (.int i m)
 | .str,_,k=>λs=>k (.string s)
 | .ptr,_,k=>λq=>k (.pointer q)
 | .slice,_,k=>λq n c=>k (.slice q n c)
 | .map,_,k=>λq=>k (.map q)
 | .any,_,k=>λv=>k v
 | .loc,_,k=>λb=>k (.pointer (some ⟨b,0,none⟩))
def mkL:(ts:List STy)-> {R:Type}->(List Value->R)->xu ts R
 | [],_,k=>k []
 |t::ts,_,k=>mkS t λv=>mkL ts λvs=>k (v::vs)
def mkC:(t:CTy)-> {R:Type}->(Value->R)->yI t R
 | .s t,_,k=>mkS t k
 | .agg ts,_,k=>mkL ts λvs=>k (.agg vs.toArray)
def zG:(vars:List (Nat × CTy))->(Fr->World->Prop)->mt vars
 | [],V=>λw=> ∀ρ,V ρ w
 |(i,t)::vs,V=>mkC t λv=>zG vs λρ w=>ρ i=v->V ρ w

theorem Bp {t:STy}{R:Type}{k:Value->R}{K:Value->R->Prop}(h: ∀v,K v (k v)):yG t (mkS t k) K:=by
 cases t<;>simp only[yG,mkS]<;>intros<;>exact h _
theorem Bq: ∀ {ts:List STy} {R:Type} {k:List Value->R} {K:List Value->R->Prop},(∀vs,K vs (k vs))->C0 ts (mkL ts k) K
 | [],_,_,_,h=>h []
 |t::_,_,_,_,h=>Bp (t:=t) λ_=>Bq λ_=>h _
theorem Bs {t:CTy}{R:Type}{k:Value->R}{K:Value->R->Prop}(h: ∀v,K v (k v)):C1 t (mkC t k) K:=by
 cases t with
 |s t=>exact Bp h
 |agg ts=>exact Bq λvs=>h _
theorem oE: ∀ {g:List (Nat × CTy)} {V:Fr->World->Prop} (ρ:Fr) (w:World),leaf g (zG g V) ρ w->V ρ w
 | [],_,ρ,_,h=>h ρ
 |(i,t)::vs,V,ρ,w,h=>by
  obtain⟨f,y,E⟩:=CJ (t:=t) (K:=λv f=>f=zG vs λρ w=>ρ i=v->V ρ w) h (Bs λv=>rfl)
  subst E
  exact oE ρ w y rfl

theorem uf {t:STy}{R:Type}{A:xr t R}{K:Value->R->Prop}(h: ∀v f,(∀j:R->Prop,j f->apS t A v j)->K v f):yG t A K:=by
 cases t<;>simp only[yG]<;>intros<;>refine h _ _ λj g=>?_<;>simp only[apS,decide_true]<;>exact g
theorem ug: ∀ {ts:List STy} {R:Type} {A:xu ts R} {K:List Value->R->Prop},(∀v f,(∀j:R->Prop,j f->apL ts A v j)->K v f)->C0 ts A K
 | [],_,_,_,h=>h [] _ λ_ g=>g
 |t::_,_,_,_,h=>uf (t:=t) λv _ hv=>ug λvs _ y=>h (v::vs) _ λj g=>hv _ (y j g)
theorem Aq {t:CTy}{R:Type}{A:yI t R}{K:Value->R->Prop}(h: ∀v f,(∀j:R->Prop,j f->apC t A v j)->K v f):C1 t A K:=by
 cases t with
 |s t=>exact uf h
 |agg ts=>exact ug λvs f hv=>h _ _ λj g=>by simpa[apC] using hv j g

def leS:(t:STy)-> {R:Type}->xr t R->xr t R->(R->R->Prop)->Prop
 | .bool,_,A,B,k=> ∀b,k (A b) (B b)
 | .int _,_,A,B,k=> ∀m,k (A m) (B m)
 | .str,_,A,B,k=> ∀s,k (A s) (B s)
 | .ptr,_,A,B,k=> ∀q,k (A q) (B q)
 | .slice,_,A,B,k=> ∀q n c,k (A q n c) (B q n c)
 | .map,_,A,B,k=> ∀q,k (A q) (B q)
 | .any,_,A,B,k=> ∀v,k (A v) (B v)
 | .loc,_,A,B,k=> ∀b,k (A b) (B b)
def leL:(ts:List STy)-> {R:Type}->xu ts R->xu ts R->(R->R->Prop)->Prop
 | [],_,A,B,k=>k A B
 |t::ts,_,A,B,k=>leS t A B λg B'=>leL ts g B' k
def leC:(t:CTy)-> {R:Type}->yI t R->yI t R->(R->R->Prop)->Prop
 | .s t,_,A,B,k=>leS t A B k
 | .agg ts,_,A,B,k=>leL ts A B k
def leV:(vars:List (Nat × CTy))->mt vars->mt vars->Prop
 | [],A,B=> ∀w,A w->B w
 |(_,t)::vs,A,B=>leC t A B λg B'=>leV vs g B'

theorem EE {t:STy}{R:Type}{A B:xr t R}{v:Value}{k:R->Prop}{k2:R->R->Prop}{j:R->Prop}(h:apS t A v k)(E:leS t A B k2)(y: ∀a b,k2 a b->k a->j b):apS t B v j:=by
 cases t with
 |int i=>
  cases v with
  |int l m=>
   simp only[apS] at h⊢
   cases hb:decide (l=i) with
   |true=>simp only[hb] at h⊢;exact y _ _ (E _) h
   |false=>simp only[hb] at h
  |_=>exact h.elim
 |any=>exact y _ _ (E _) h
 |slice=>
  simp only[apS] at h
  simp only[apS]
  split at h<;>first|exact y _ _ (E _ _ _) h|exact h.elim
 |_=>
  simp only[apS] at h
  simp only[apS]
  split at h<;>first|exact y _ _ (E _) h|exact h.elim
theorem EF: ∀ {ts:List STy} {R:Type} {A B:xu ts R} {vs:List Value} {k:R->Prop} {k2:R->R->Prop} {j:R->Prop},apL ts A vs k->leL ts A B k2->(∀a b,k2 a b->k a->j b)->apL ts B vs j
 | [],_,_,_,vs,_,_,_,h,g,hj=>by
  cases vs with
  |nil=>exact hj _ _ g h
  |cons v vs=>exact h.elim
 |t::ts,_,_,_,vs,_,_,_,h,g,hj=>by
  cases vs with
  |nil=>exact h.elim
  |cons v vs=>exact EE (t:=t) h g λ_ _ y E=>EF E y hj
theorem GE {t:CTy}{R:Type}{A B:yI t R}{v:Value}{k:R->Prop}{k2:R->R->Prop}{j:R->Prop}(h:apC t A v k)(E:leC t A B k2)(y: ∀a b,k2 a b->k a->j b):apC t B v j:=by
 cases t with
 |s t=>exact EE (t:=t) h E y
 |agg ts=>
  simp only[apC] at h⊢
  split at h
  ·exact EF (ts:=ts) h E y
  ·exact h.elim
theorem uO: ∀ {y:List (Nat × CTy)} {A B:mt y} {ρ:Fr} {w:World},leV y A B->leaf y A ρ w->leaf y B ρ w
 | [],_,_,_,_,g,h=>g _ h
 |(_,t)::_,_,_,_,_,g,h=>GE (t:=t) h g λ_ _ E H=>uO E H

theorem pG {t:STy}{R:Type}{A:xr t R}{K g:Value->R->Prop}(y: ∀v f,K v f->g v f)(h:yG t A K):yG t A g:=by
 cases t<;>simp only[yG] at h⊢ <;>intros<;>exact y _ _ (h ..)
theorem Et {t:STy}{R:Type}{A:xr t R}{y:Value->R}{k:R->R->Prop}(h:yG t A λv E=>k E (y v)):leS t A (mkS t y) k:=by
 cases t<;>exact h
theorem Eu: ∀ {ts:List STy} {R:Type} {A:xu ts R} {y:List Value->R} {k:R->R->Prop},(C0 ts A λv E=>k E (y v))->leL ts A (mkL ts y) k
 | [],_,_,_,_,h=>h
 |t::ts,_,_,_,_,h=>by
  refine Et (t:=t) ?_
  exact pG (t:=t) (λ_ _ H=>Eu H) h
theorem Gk {t:CTy}{R:Type}{A:yI t R}{y:Value->R}{k:R->R->Prop}(h:C1 t A λv E=>k E (y v)):leC t A (mkC t y) k:=by
 cases t with
 |s t=>exact Et h
 |agg ts=>exact Eu h
theorem y6: ∀ {g:List (Nat × CTy)} {B:mt g} {V:Fr->World->Prop},(∀ρ w,leaf g B ρ w->V ρ w)->leV g B (zG g V)
 | [],_,_,h=>λw hb ρ=>h ρ w hb
 |(i,t)::_,_,_,h=>Gk (t:=t) (Aq λv f y=>y6 λρ w E hv=>h ρ w (by subst hv;exact y _ E))

def sr (l:Nat)(K:Fr->World->Prop)(Q:fF):fF
 | .goto l',ρ,w=>match Nat.beq l' l with
  |true=>K ρ w
  |false=>False
 |e,ρ,w=>Q e ρ w
def JumpF (P:Program)(n:Nat)(c rest:Code)(Q:fF)(ρ:Fr)(w:World):Prop:=
 ∀a,RelF n a ρ-> ∀(b:Frame) (k:List Item) (cs:List Frame),
  ∃e g y,mq n Q e g y/\Arrives P (lone (b.at a (.code rest:: .inScope c::k)) cs w) b k cs e g y
theorem wq {n l:Nat}{c rest:Code}{Q:fF}(b3:findLabel c l=some rest){m:Machine}{b:Frame}{k:List Item}{cs:List Frame}{e:Exit}{y:Act}{H:World}{E:Fr}(O:RelF n y E)(g:sr l (JumpF P n c rest Q) Q e E H)(I:Arrives P m b (.inScope c::k) cs e y H): ∃e V U,mq n Q e V U/\Arrives P m b k cs e V U:=by
 cases e with
 |normal=>exact⟨.normal,y,H,⟨E,O,g⟩,Steps.trans I (.one step_inScope)⟩
 |exit id=>exact⟨.exit id,y,H,⟨E,O,g⟩,λb4 b5=>I b4 (by simp[exitTo,b5])⟩
 |goto b9=>
  simp only[sr] at g
  split at g
  ·rename_i hb
   have b6:=Nat.eq_of_beq_eq_true hb
   subst b6
   obtain⟨a7,b8,b7,a6,W⟩:=g y O b k cs
   exact⟨a7,b8,b7,a6,.of_steps (I _ (by simp[gotoIn,b3])) W⟩
  ·exact g.elim
 |ret=>exact⟨_,y,H,⟨E,O,g⟩,I⟩
 |panic ch=>exact⟨_,y,H,⟨E,O,g⟩,I⟩
 |outgrown=>exact⟨_,y,H,⟨E,O,g⟩,I⟩
theorem WpF.scopeL {n l:Nat}{c rest:Code}{Q:fF}{ρ:Fr}{w:World}(O:findLabel c l=some rest)(h:WpF P n c (sr l (JumpF P n c rest Q) Q) ρ w):WpF P n (.scope c) Q ρ w:=by
 intro a hr b k cs
 obtain⟨e,a7,b3,⟨a6,H,U⟩,y⟩:=h a hr b (.inScope c::k) cs
 obtain⟨I,W,V,E,g⟩:=wq O H U y
 exact⟨I,W,V,E,.of_steps (.one step_scope) g⟩
theorem JumpF.unfold {n l:Nat}{c rest:Code}{Q:fF}{ρ:Fr}{w:World}(H:findLabel c l=some rest)(h:WpF P n rest (sr l (JumpF P n c rest Q) Q) ρ w):JumpF P n c rest Q ρ w:=by
 intro a hr b k cs
 obtain⟨e,O,U,⟨I,y,E⟩,g⟩:=h a hr b (.inScope c::k) cs
 exact wq H y E g

def qS:(t:STy)-> {ι R R':Type}->((ι->R)->R')->(ι->xr t R)->xr t R'
 | .bool,_,_,_,k,F=>λb=>k λi=>F i b
 | .int _,_,_,_,k,F=>λb=>k λi=>F i b
 | .str,_,_,_,k,F=>λb=>k λi=>F i b
 | .ptr,_,_,_,k,F=>λb=>k λi=>F i b
 | .slice,_,_,_,k,F=>λq n c=>k λi=>F i q n c
 | .map,_,_,_,k,F=>λb=>k λi=>F i b
 | .any,_,_,_,k,F=>λb=>k λi=>F i b
 | .loc,_,_,_,k,F=>λb=>k λi=>F i b
def qL:(ts:List STy)-> {ι R R':Type}->((ι->R)->R')->(ι->xu ts R)->xu ts R'
 | [],_,_,_,k,F=>k F
 |t::ts,_,_,_,k,F=>qS t (λg=>qL ts k g) F
def qC:(t:CTy)-> {ι R R':Type}->((ι->R)->R')->(ι->yI t R)->yI t R'
 | .s t,_,_,_,k,F=>qS t k F
 | .agg ts,_,_,_,k,F=>qL ts k F
def qV:(vs:List (Nat × CTy))-> {ι:Type}->(ι->Prop)->(ι->mt vs)->mt vs
 | [],_,C,F=>λw=> ∀i,C i->F i w
 |(_,t)::vs,_,C,F=>qC t (λg=>qV vs C g) F
def lfpV (vs:List (Nat × CTy))(B:mt vs->mt vs):mt vs:=qV vs (λX=>leV vs (B X) X) λX=>X
theorem Gc {t:STy}{g R:Type}{k:(g->R)->R}{F:g->xr t R}{i:g}{k2:R->R->Prop}(h: ∀y,k2 (k y) (y i)):leS t (qS t k F) (F i) k2:=by
 cases t<;>simp only[leS,qS]<;>intros<;>exact h _
theorem Gd: ∀ {ts:List STy} {g R:Type} {k:(g->R)->R} {F:g->xu ts R} {i:g} {k2:R->R->Prop},(∀y,k2 (k y) (y i))->leL ts (qL ts k F) (F i) k2
 | [],_,_,_,_,_,_,h=>h _
 |t::_,_,_,_,_,_,_,h=>Gc (t:=t) λ_=>Gd h
theorem qC_le {t:CTy}{g R:Type}{k:(g->R)->R}{F:g->yI t R}{i:g}{k2:R->R->Prop}(h: ∀y,k2 (k y) (y i)):leC t (qC t k F) (F i) k2:=by
 cases t with
 |s t=>exact Gc h
 |agg ts=>exact Gd h
theorem Gb: ∀ {vs:List (Nat × CTy)} {g:Type} {C:g->Prop} {F:g->mt vs} {i:g},C i->leV vs (qV vs C F) (F i)
 | [],_,_,_,_,hc=>λ_ h=>h _ hc
 |(_,_)::_,_,_,_,_,hc=>qC_le λ_=>Gb hc
def Gz:(vs:List (Nat × CTy))->(Fr->World->Prop)->Fr->mt vs
 | [],V,ρ=>λw=>V ρ w
 |(i,t)::vs,V,ρ=>mkC t λv=>Gz vs (λρ w=>V (upd ρ i v) w) ρ
theorem zu {t:STy}{R g:Type}{F:xr t R}{K:g->Value->R->Prop}(h: ∀i,yG t F (K i)):yG t F λv f=> ∀i,K i v f:=by
 cases t<;>simp only[yG] at h⊢ <;>intros<;>exact h _ ..
theorem zv: ∀ {ts:List STy} {R g:Type} {F:xu ts R} {K:g->List Value->R->Prop},(∀i,C0 ts F (K i))->C0 ts F λv f=> ∀i,K i v f
 | [],_,_,_,_,h=>h
 |t::ts,_,_,_,_,h=>pG (t:=t) (λ_ _ h=>zv h) (zu h)
theorem D5 {t:CTy}{R g:Type}{F:yI t R}{K:g->Value->R->Prop}(h: ∀i,C1 t F (K i)):C1 t F λv f=> ∀i,K i v f:=by
 cases t with
 |s t=>exact zu h
 |agg ts=>exact zv h
theorem w0: ∀ {ts:List STy} {R:Type} {A:xu ts R} {K g:List Value->R->Prop},(∀v f,K v f->g v f)->C0 ts A K->C0 ts A g
 | [],_,_,_,_,hk,h=>hk _ _ h
 |t::_,_,_,_,_,hk,h=>pG (t:=t) (λ_ _ h=>w0 (λ_ _=>hk _ _) h) h
theorem CK {t:CTy}{R:Type}{A:yI t R}{K g:Value->R->Prop}(y: ∀v f,K v f->g v f)(h:C1 t A K):C1 t A g:=by
 cases t with
 |s t=>exact pG (t:=t) y h
 |agg ts=>exact w0 (λ_ _=>y _ _) h
theorem yH: ∀ {vs:List (Nat × CTy)} {F:mt vs} {V:Fr->World->Prop},(∀ρ,F=Gz vs V ρ)->EG vs F V
 | [],_,_,h=>λρ w=>congrFun (h ρ) w
 |(i,t)::vs,F,V,h=>by
  have g: ∀ρ:Fr,C1 t F λv f=>f=Gz vs (λρ w=>V (upd ρ i v) w) ρ:=λρ=>by
   rw[h ρ];exact Bs λv=>rfl
  exact CK (λv f y=>yH y) (D5 g)

inductive AC where
 |leaf (c:Code)
 |seq (x y:AC)
  |mark (K:Fr->World->Prop) (x:AC)
 |cond (t:Nat) (x y:AC)
 |block (id:Nat) (x:AC)
 |scope (x:AC)
 |loop (K:Fr->World->Prop) (c:Code)
  |given (F:(Fr->World->Prop)->Fr->World->Prop) (c:Code)
  |draw (pl:RPlan) (c:Code)
  |jump (l:Nat) (K:Fr->World->Prop) (x:AC)
  |no (c:Code)
 |cut (vs:List (Nat × CTy)) (F:mt vs) (x:AC)
 |loopB (vs:List (Nat × CTy)) (B:mt vs->mt vs) (c:Code) (x:mt vs->AC)
def AC.erase:AC->Code
 | .leaf c=>c
 | .seq x y=> .seq x.erase y.erase
 | .mark _ x=>x.erase
 | .cond t x y=> .cond (.tmp t) x.erase y.erase
 | .block id x=> .block id x.erase
 | .scope x=> .scope x.erase
 | .loop _ c=> .loop c
 | .given _ c=>c
 | .draw _ c=>c
 | .jump _ _ x=> .scope x.erase
 | .no c=>c
 | .cut _ _ x=>x.erase
 | .loopB _ _ c _=> .loop c
def drawA (P:Program)(n:Nat)(g:RPlan)(c:Code)(Q:Fr->World->Prop)(ρ:Fr)(w:World):Prop:=
 match c with
 | .region _ ops d=>match d with
  |true=>Gy P n ops g Q ρ w
  |false=>False
 |_=>False
def zm (g:RPlan):Code->Bool
 | .region _ ops d=>d && Region.noSelect ops && Nat.ble g.depth ops.size
 |_=>false
def vcA (P:Program)(n:Nat):AC->fF->Fr->World->Prop
 | .leaf c,Q,ρ,w=>vcC P n c Q ρ w
 | .seq x y,Q,ρ,w=>vcA P n x (mp (vcA P n y Q) Q) ρ w
 | .mark K _,_,ρ,w=>K ρ w
 | .cond t x y,Q,ρ,w=>match ρ t with
  | .bool b=>match b with
   |true=>vcA P n x Q (upd ρ t (.bool true)) w
   |false=>vcA P n y Q (upd ρ t (.bool false)) w
  |_=>False
 | .block id x,Q,ρ,w=>vcA P n x (qY id Q) ρ w
 | .scope x,Q,ρ,w=>vcA P n x (kW Q) ρ w
 | .loop K _,_,ρ,w=>K ρ w
 | .given F _,Q,ρ,w=>F (Q .normal) ρ w
 | .draw pl c,Q,ρ,w=>drawA P n pl c (Q .normal) ρ w
 | .jump l K x,Q,ρ,w=>vcA P n x (sr l K Q) ρ w
 | .no _,_,_,_=>False
 | .cut vs F _,_,ρ,w=>leaf vs F ρ w
 | .loopB vs B _ _,_,ρ,w=>leaf vs (lfpV vs B) ρ w
def vo (P:Program)(n:Nat):AC->fF->Prop
 | .leaf _,_=>True
 | .seq x y,Q=>vo P n x (mp (vcA P n y Q) Q)/\vo P n y Q
 | .mark K x,Q=>vo P n x Q/\ ∀ρ w,K ρ w->vcA P n x Q ρ w
 | .cond _ x y,Q=>vo P n x Q/\vo P n y Q
 | .block id x,Q=>vo P n x (qY id Q)
 | .scope x,Q=>vo P n x (kW Q)
 | .loop K c,Q=> ∀ρ w,K ρ w->LoopF P n c Q ρ w
 | .given F c,Q=> ∀ρ w,F (Q .normal) ρ w->WpF P n c Q ρ w
 | .jump l K x,Q=>vo P n x (sr l K Q)/\ ∃rest,findLabel x.erase l=some rest/\ ∀ρ w,K ρ w->JumpF P n x.erase rest Q ρ w
 | .draw pl c,Q=>P.follows .mixedOrders=true/\zm pl c=true/\ ∀c ρ w,¬ Q (.panic c) ρ w
 | .no _,_=>True
 | .cut vs F x,Q=>vo P n x Q/\EG vs F (vcA P n x Q)
 | .loopB vs B c x,Q=> ∀X,(x X).erase=c/\vo P n (x X) (mp (leaf vs X) Q)/\EG vs (B X) (vcA P n (x X) (mp (leaf vs X) Q))

theorem oW {n:Nat}: ∀(x:AC) {Q:fF} {ρ:Fr} {w:World},vo P n x Q->vcA P n x Q ρ w->WpF P n x.erase Q ρ w:=by
 intro x
 induction x with
 |leaf c=>exact λ_ h=>AF c h
 |seq x y U V=>exact λE h=>WpF.seq (U E.1 h) (λ_ _ O=>V E.2 O)
 |mark K x H=>exact λE h=>H E.1 (E.2 _ _ h)
 |cond t x y U V=>
  intro Q ρ w E h
  unfold vcA at h
  split at h
  ·rename_i b hb
   refine WpF.cond hb ?_
   cases b with
   |true=>exact U E.1 h
   |false=>exact V E.2 h
  ·exact h.elim
 |block id x H=>exact λE h=>WpF.block (H E h)
 |scope x H=>exact λE h=>WpF.scope (H E h)
 |loop K c=>exact λE h=>LoopF.wp (E _ _ h)
 |given F c=>exact λE h=>E _ _ h
 |no c=>exact λ_ h=>h.elim
 |cut vs F x H=>exact λE h=>H E.1 (FX E.2 _ _ h)
 |loopB vs B c x H=>
  intro Q ρ w E h
  refine LoopF.wp ?_
  have W: ∀ρ w,leaf vs (B (zG vs (LoopF P n c Q))) ρ w->LoopF P n c Q ρ w:=by
   intro ρ w hb
   refine LoopF.unfold (WpF.mono (Q:=mp (leaf vs (zG vs (LoopF P n c Q))) Q) ?_ ?_)
   ·have a6:=H _ (E (zG vs (LoopF P n c Q))).2.1 (FX (E _).2.2 ρ w hb)
    rwa [(E _).1] at a6
   ·intro e ρ w I
    cases e<;>first|exact oE _ _ I|exact I
  exact oE ρ w (uO (Gb (C:=λX=>leV vs (B X) X) (F:=λX=>X) (y6 W)) h)
 |jump l K x H=>
  intro Q ρ w ⟨E,rest,b4,b3⟩ h
  refine WpF.scopeL b4 (WpF.mono (H E h) λe ρ w I=>?_)
  cases e<;>first|exact I|skip
  simp only[sr] at I⊢
  split at I
  ·exact b3 _ _ I
  ·exact I.elim
 |draw b6 c=>
  intro Q ρ w ⟨a7,O,I⟩ h
  cases c<;>first|exact h.elim|skip
  rename_i id b5 d
  cases d
  ·exact h.elim
  ·simp only[zm,Bool.true_and,Bool.and_eq_true] at O
   exact yw a7 O.1 I O.2 h

theorem Fj {n:Nat}{g:List (Nat × CTy)}{c:Code}{Q:fF}{L:mt g}(y:mt g->AC)(B:mt g->mt g)(W: ∀X,(y X).erase=c)(I: ∀X,vo P n (y X) (mp (leaf g X) Q))(U: ∀X,EG g (B X) (vcA P n (y X) (mp (leaf g X) Q)))(V: ∀X,leV g (B X) X->leV g L X): ∀ρ w,leaf g L ρ w->LoopF P n c Q ρ w:=by
 intro ρ w h
 have H: ∀ρ w,leaf g (B (zG g (LoopF P n c Q))) ρ w->LoopF P n c Q ρ w:=by
  intro ρ w hb
  refine LoopF.unfold (WpF.mono (Q:=mp (leaf g (zG g (LoopF P n c Q))) Q) ?_ ?_)
  ·have O:=oW _ (I (zG g (LoopF P n c Q))) (FX (U _) ρ w hb)
   rwa [W] at O
  ·intro e ρ w E
   cases e<;>first|exact oE _ _ E|exact E
 exact oE ρ w (uO (V _ (y6 H)) h)

theorem jumpG {n l:Nat}{g:List (Nat × CTy)}{c rest:Code}{Q:fF}{L:mt g}(E:mt g->AC)(B:mt g->mt g)(a6:findLabel c l=some rest)(U: ∀X,(E X).erase=rest)(I: ∀X,vo P n (E X) (sr l (leaf g X) Q))(V: ∀X,EG g (B X) (vcA P n (E X) (sr l (leaf g X) Q)))(W: ∀X,leV g (B X) X->leV g L X): ∀ρ w,leaf g L ρ w->JumpF P n c rest Q ρ w:=by
 intro ρ w h
 have H: ∀ρ w,leaf g (B (zG g (JumpF P n c rest Q))) ρ w->JumpF P n c rest Q ρ w:=by
  intro ρ w hb
  refine JumpF.unfold a6 (WpF.mono (Q:=sr l (leaf g (zG g (JumpF P n c rest Q))) Q) ?_ ?_)
  ·have O:=oW _ (I (zG g (JumpF P n c rest Q))) (FX (V _) ρ w hb)
   rwa [U] at O
  ·intro e ρ w y
   cases e<;>first|exact y|skip
   simp only[sr] at y⊢
   split at y
   ·exact oE _ _ y
   ·exact y.elim
 exact oE ρ w (uO (W _ (y6 H)) h)
theorem jumpK {n l:Nat}{c rest:Code}{Q:fF}{K:Fr->World->Prop}(g:AC)(I:findLabel c l=some rest)(U:g.erase=rest)(H:vo P n g (kW Q))(h: ∀ρ w,K ρ w->vcA P n g (kW Q) ρ w): ∀ρ w,K ρ w->JumpF P n c rest Q ρ w:=by
 intro ρ w O
 refine JumpF.unfold I (WpF.mono (Q:=kW Q) ?_ ?_)
 ·rw[<-U];exact oW _ H (h _ _ O)
 ·intro e ρ w E
  cases e<;>first|exact E|exact E.elim

def sel:List Nat->Code->Code
 | [],c=>c
 |0::p,.seq x _=>sel p x
 |1::p,.seq _ y=>sel p y
 |0::p,.cond _ x _=>sel p x
 |1::p,.cond _ _ y=>sel p y
 |0::p,.block _ x=>sel p x
 |0::p,.loop x=>sel p x
 |0::p,.scope x=>sel p x
 |_,_=> .skip
def GB:Nat->Nat->List Nat->List Nat
 |0,_,a=>a
 |f+1,n,a=>if n<=1 then a else GB f (n/2) (n%2::a)
def sb (n:Nat)(c:Code):Code:=sel (GB 500 n []) c
def mo (g:Func):Code:=
 match g.body with
 |some c=>c
 |none=> .skip
def E7 (P:Program):List ResultVar->Fr->World->(List Value->Prop)->Prop
 | [],_,_,K=>K []
 | .tmp t::rs,ρ,w,K=>E7 P rs ρ w λvs=>K (ρ t::vs)
 | .cell t ty::rs,ρ,w,K=>match ρ t with
  | .pointer (some a)=>xX P ty a w λv=>E7 P rs ρ w λvs=>K (v::vs)
  |_=>False
def Ff:List Value->Value
 | [v]=>v
 |vs=> .tuple vs.toArray
def QF (P:Program)(rs:List ResultVar)(R:Ending->World->Prop):fF
 | .normal,ρ,w=>E7 P rs ρ w λvs=>R (.returned (Ff vs)) w
 | .ret,ρ,w=>E7 P rs ρ w λvs=>R (.returned (Ff vs)) w
 |_,_,_=>False
def fr0 (g:List Value):Fr:=λt=>g.getD t undef

theorem uB {n:Nat}{a:Act}{ρ:Fr}(hr:RelF n a ρ): ∀ {rs:List ResultVar} {w:World} {K:List Value->Prop},E7 P rs ρ w K->
 ∃vs,K vs/\vs.length=rs.length/\(rs.mapM (m:=Sem) fun
  | .tmp t=>pure (a.tmps.getD t undef)
  | .cell x t=>do loadVar t (<-asAddr (a.tmps.getD x undef))).run P w= .ok vs w
 | [],w,_,h=>⟨[],h,rfl,rfl⟩
 | .tmp t::rs,w,K,h=>by
  obtain⟨vs,y,E,g⟩:=uB hr (rs:=rs) h
  refine⟨_,y,by simp[E],?_⟩
  simp only[List.mapM_cons,Sem.run_bind,hr.get]
  rw[show (pure (ρ t):Sem Value).run P w= .ok (ρ t) w from rfl]
  simp only[Result.andThen_ok]
  simp only[hr.get] at g
  rw[g]
  rfl
 | .cell t ty::rs,w,K,h=>by
  unfold E7 at h
  split at h
  ·rename_i H I
   obtain⟨v,h,hv⟩:=wk h
   obtain⟨vs,y,E,g⟩:=uB hr (rs:=rs) h
   refine⟨_,y,by simp[E],?_⟩
   simp only[List.mapM_cons,Sem.run_bind,hr.get,I]
   rw[show (asAddr (.pointer (some H))).run P w= .ok H w from rfl]
   simp only[Result.andThen_ok,hv]
   simp only[hr.get] at g
   rw[g]
   rfl
  ·exact h.elim

theorem DQ {f:FuncId}{g:Func}{y:Array Value}{R:Ending->World->Prop}{w:World}(a6:P.funcs[f]? =some g)(hb:g.body=some (mo g))(hc: ∀y w,(callFunc f y).run P w= .ok (.enter f y) w)(a7:y.size<=g.ntmps)(h:WpF P g.ntmps (mo g) (QF P g.results.toList R) (fr0 y.toList) w):callE P f y R w:=by
 refine .inl ⟨hc,calls_of_wp a6 hb (Code.wp_mono (λe a E H=>?_) (h _ ⟨by simp;omega,rfl,λt=>?_⟩))⟩
 ·obtain⟨ρ,hr,H⟩:=H
  have fin: ∀ {E},(E7 P g.results.toList ρ E λvs=>R (.returned (Ff vs)) E)->a.defers= []/\ ∃v,(results g a.tmps).run P E= .ok v E/\R (.returned v) E:=by
   intro E H
   obtain⟨vs,U,V,W⟩:=uB hr H
   refine⟨hr.defers,_,?_,U⟩
   unfold results
   rw[Array.mapM_eq_mapM_toList,Sem.run_bind,map_eq_pure_bind,Sem.run_bind]
   erw [W]
   simp only[Result.andThen_ok,pure,Sem.run]
   match vs,V with
   | [],_=>rfl
   | [v],_=>rfl
   |v::u::vs,_=>
    have: ¬ (List.toArray (v::u::vs)).size=1:=by simp
    rw[dif_neg this]
    rfl
  cases e<;>first|exact fin H|exact H.elim
 ·simp only[fr0,Array.getD_eq_getD_getElem?,List.getD_eq_getElem?_getD]
  rcases Nat.lt_or_ge t y.size with O|I
  ·rw[Array.getElem?_append_left O];simp
  ·rw[Array.getElem?_append_right I]
   simp only[Array.getElem?_toList,Array.getElem?_eq_none I,Option.getD_none]
   simp only[Array.getElem?_replicate]
   split<;>rfl

theorem EK {n:Nat}{x:AC}{Q:fF}{ρ:Fr}{w:World}{c:Code}(E:vo P n x Q)(y:x.erase=c)(h:vcA P n x Q ρ w):WpF P n c Q ρ w:=
 y▸oW x E h

theorem sK {f:FuncId}{E:Func}{n:Nat}{c:Code}{rs:List ResultVar}{y:List Value}{R:Ending->World->Prop}{w:World}{x:AC}(W:P.funcs[f]? =some E)(hc: ∀y w,(callFunc f y).run P w= .ok (.enter f y) w)(hb:E.body=some c)(V:E.ntmps=n)(O:E.results.toList=rs)(I:Nat.ble y.length n=true)(U:x.erase=c)(g:vo P n x (QF P rs R)){A:Prop}(e:A=vcA P n x (QF P rs R) (fr0 y) w)(h:A):callE P f y.toArray R w:=by
 have H:mo E=c:=by unfold mo;rw[hb]
 subst V O
 refine DQ W (by rw[hb,H]) hc (by simpa using Nat.le_of_ble_eq_true I) ?_
 rw[H]
 exact EK g U (e▸h)

theorem DS {f:FuncId}{E:Func}{n:Nat}{c:Code}{rs:List ResultVar}{y:List Value}{R:Ending->World->Prop}{w:World}{x:AC}(V:P.funcs[f]? =some E)(hc: ∀y w,(callFunc f y).run P w= .ok (.enter f y) w)(W:vo P n x (QF P rs R)){A:Prop}(e:A=vcA P n x (QF P rs R) (fr0 y) w)(h:A)(hb:E.body=some c:=by kernel_rfl)(U:E.ntmps=n:=by kernel_rfl)(I:E.results.toList=rs:=by kernel_rfl)(H:Nat.ble y.length n=true:=by kernel_rfl)(O:x.erase=c:=by kernel_rfl):callE P f y.toArray R w:=
 sK V hc hb U I H O W e h
theorem cutZ {y:List (Nat × CTy)}{F:mt y}{V:Fr->World->Prop}(E:EG y F V:=by (repeat intro);kernel_rfl): ∀ρ w,leaf y F ρ w->V ρ w:=FX E

def tyN:Nat->CTy
 |0=> .s .bool|1=> .s .str|2=> .s .ptr|3=> .s .slice|4=> .s .map|5=> .s .any|6=> .s .loc
 |7=> .s (.int .i64)|8=> .s (.int .u8)|9=> .s (.int .i32)|10=> .s (.int .u64)|11=> .s (.int .i8)|12=> .s (.int .u32)|13=> .s (.int .u16)|_=> .s (.int .i16)
def vd:List Nat->List (Nat × CTy)
 | []=> []
 |n::l=>(n/20,tyN (n%20))::vd l
def rpN:List Nat->RPlan
 | []=> .done
 |n::l=>match n%3 with
  |0=> .pure (n/3) (rpN l)
  |1=> .load (n/3) (rpN l)
  |_=> .one (n/3) (rpN l)
inductive Sp where
 |mk (v:List Nat) (F:mt (vd v))
 |lp (v:List Nat) (B:mt (vd v)->mt (vd v)) (x:mt (vd v)->List (Nat × Sp))
 |no
 |dr (p:RPlan)
def Sp.go (d:Nat):List (Nat × Sp)->List (Nat × Sp)
 | []=> []
 |(n,s)::l=>match Nat.beq (n%2) d with
  |true=>(n/2,s)::Sp.go d l
  |false=>Sp.go d l
def mkA:Nat->Code->List (Nat × Sp)->AC
 |0,c,_=> .leaf c
 |f+1,c,l=>match l with
  | []=> .leaf c
  |(n,s)::r=>match Nat.beq n 1 with
   |true=>match s with
    | .mk v F=> .cut (vd v) F (mkA f c r)
    | .no=> .no c
    | .dr p=> .draw p c
    | .lp v B x=>match c with
     | .loop c=> .loopB (vd v) B c λX=>mkA f c (x X)
     |c=> .leaf c
   |false=>match c with
    | .seq x y=> .seq (mkA f x (Sp.go 0 l)) (mkA f y (Sp.go 1 l))
    | .cond (.tmp t) x y=> .cond t (mkA f x (Sp.go 0 l)) (mkA f y (Sp.go 1 l))
    | .block k x=> .block k (mkA f x (Sp.go 0 l))
    | .scope x=> .scope (mkA f x (Sp.go 0 l))
    |c=> .leaf c
theorem rZ: ∀(f:Nat) (c:Code) (l:List (Nat × Sp)),(mkA f c l).erase=c
 |0,_,_=>rfl
 |f+1,c,l=>by
  unfold mkA
  repeat' split
  all_goals first|rfl|simp only[AC.erase,rZ f]
def TyA:AC->Type
 | .seq x y=>TyA x × TyA y
 | .cond _ x y=>TyA x × TyA y
 | .block _ x=>TyA x
 | .scope x=>TyA x
 | .cut vs _ x=>(Fr->mt vs) × TyA x
 | .loopB vs _ _ x=>(X:mt vs)->(Fr->mt vs) × TyA (x X)
 | .draw _ _=>Bool × (List PanicEntry->Fr->World->Prop)
 |_=>Unit
def lhA (P:Program)(n:Nat):(x:AC)->fF->TyA x
 | .seq x y,Q=>(lhA P n x (mp (vcA P n y Q) Q),lhA P n y Q)
 | .cond _ x y,Q=>(lhA P n x Q,lhA P n y Q)
 | .block id x,Q=>lhA P n x (qY id Q)
 | .scope x,Q=>lhA P n x (kW Q)
 | .cut _ F x,Q=>(λ_=>F,lhA P n x Q)
 | .loopB vs B _ x,Q=>λX=>(λ_=>B X,lhA P n (x X) (mp (leaf vs X) Q))
 | .draw pl c,Q=>(P.follows .mixedOrders && zm pl c,λc ρ w=>Q (.panic c) ρ w)
 | .leaf _,_| .no _,_| .mark _ _,_| .loop _ _,_| .given _ _,_| .jump _ _ _,_=>()
def rhA (P:Program)(n:Nat):(x:AC)->fF->TyA x
 | .seq x y,Q=>(rhA P n x (mp (vcA P n y Q) Q),rhA P n y Q)
 | .cond _ x y,Q=>(rhA P n x Q,rhA P n y Q)
 | .block id x,Q=>rhA P n x (qY id Q)
 | .scope x,Q=>rhA P n x (kW Q)
 | .cut vs _ x,Q=>(λρ=>Gz vs (vcA P n x Q) ρ,rhA P n x Q)
 | .loopB vs _ _ x,Q=>λX=>(λρ=>Gz vs (vcA P n (x X) (mp (leaf vs X) Q)) ρ,rhA P n (x X) (mp (leaf vs X) Q))
 | .draw _ _,_=>(true,λ_ _ _=>False)
 | .leaf _,_| .no _,_| .mark _ _,_| .loop _ _,_| .given _ _,_| .jump _ _ _,_=>()
def WfA:AC->Prop
 | .leaf _| .no _| .draw _ _=>True
 | .mark _ _| .loop _ _| .given _ _| .jump _ _ _=>False
 | .seq x y| .cond _ x y=>WfA x/\WfA y
 | .block _ x| .scope x| .cut _ _ x=>WfA x
 | .loopB _ _ c x=> ∀X,(x X).erase=c/\WfA (x X)
theorem Es: ∀(f:Nat) (c:Code) (l:List (Nat × Sp)),WfA (mkA f c l)
 |0,_,_=>trivial
 |f+1,c,l=>by
  unfold mkA
  repeat' split
  all_goals simp[WfA,Es f,rZ f]
theorem goodA {n:Nat}: ∀(x:AC) {Q:fF},WfA x->lhA P n x Q=rhA P n x Q->vo P n x Q:=by
 intro x
 induction x with
 |leaf c=>exact λ_ _=>trivial
 |no c=>exact λ_ _=>trivial
 |seq x y I O=>exact λE h=>⟨I E.1 (congrArg Prod.fst h),O E.2 (congrArg Prod.snd h)⟩
 |cond t x y I O=>exact λE h=>⟨I E.1 (congrArg Prod.fst h),O E.2 (congrArg Prod.snd h)⟩
 |block id x H=>exact λE h=>H (Q:=qY id _) E h
 |scope x H=>exact λE h=>H (Q:=kW _) E h
 |cut vs F x H=>exact λE h=>⟨H E (congrArg Prod.snd h),yH λρ=>congrFun (congrArg Prod.fst h) ρ⟩
 |loopB vs B c x H=>exact λE h X=>⟨(E X).1,H X (Q:=mp (leaf vs X) _) (E X).2 (congrArg Prod.snd (congrFun h X)),yH λρ=>congrFun (congrArg Prod.fst (congrFun h X)) ρ⟩
 |draw W c=>
  intro Q _ h
  have U:(P.follows .mixedOrders && zm W c)=true:=congrArg Prod.fst h
  rw[Bool.and_eq_true] at U
  refine⟨U.1,U.2,λc ρ w V=>?_⟩
  have:=congrFun (congrFun (congrFun (congrArg Prod.snd h) c) ρ) w
  exact cast this V
 |_=>exact λE _=>E.elim
theorem aH {f:FuncId}{y:Func}{E:List Value}{R:Ending->World->Prop}{w:World}(A:List (Nat × Sp))(I:P.funcs[f]? =some y)(hc: ∀E w,(callFunc f E).run P w= .ok (.enter f E) w){F:Prop}(h:F)(O:lhA P y.ntmps (mkA 500 (mo y) A) (QF P y.results.toList R)=rhA P y.ntmps (mkA 500 (mo y) A) (QF P y.results.toList R):=by kernel_rfl)(e:F=vcA P y.ntmps (mkA 500 (mo y) A) (QF P y.results.toList R) (fr0 E) w:=by kernel_rfl)(hb:y.body=some (mo y):=by kernel_rfl)(H:Nat.ble E.length y.ntmps=true:=by kernel_rfl):callE P f E.toArray R w:=
 sK I hc hb rfl rfl H (rZ ..) (goodA _ (Es ..) O) e h
theorem cC {f:FuncId}{g:Func}{y:List Value}{R:Ending->World->Prop}{w:World}(H:P.funcs[f]? =some g)(hc: ∀y w,(callFunc f y).run P w= .ok (.enter f y) w){F:Prop}(h:F)(e:F=vcC P g.ntmps (mo g) (QF P g.results.toList R) (fr0 y) w:=by kernel_rfl)(hb:g.body=some (mo g):=by kernel_rfl)(E:Nat.ble y.length g.ntmps=true:=by kernel_rfl):callE P f y.toArray R w:=
 sK H hc hb rfl rfl E (x:= .leaf (mo g)) rfl trivial e h

def tick (w:World):World:= {w with drawn:=w.drawn+1}
def tk (w:World)(K:World->Prop):Prop:=K (tick w)
def br (c:Bool)(A B:Prop):Prop:=
 match c with
 |true=>A
 |false=>B
def box (w:World)(cs:Array Value)(e:TypeId)(K:Nat->World->Prop):Prop:= ∀b,w.heap.size=b->K b (alc w cs e)
def EB (k:IntKind)(x g:Int):Int:=k.wrap ((BitVec.ofInt k.bits x &&& BitVec.ofInt k.bits g).toNat)
structure N16 where
 a0:Int:=0
 a1:ByteArray:=⟨#[]⟩
 a2:ByteArray:=⟨#[]⟩
 a3:Int:=0
 a4:ByteArray:=⟨#[]⟩
 a5:Bool:=false
 q6:Option Addr:=none
 n6:Nat:=0
 c6:Nat:=0
 q7:Option Addr:=none
 n7:Nat:=0
 c7:Nat:=0
 a8:Int:=0
 a9:Int:=0
 a10:ByteArray:=⟨#[]⟩
 a11:Int:=0
 a12:Bool:=false
 a13:Bool:=false
 a14:Bool:=false
 q15:Option Addr:=none
 n15:Nat:=0
 c15:Nat:=0
def N16.C (v:N16):Array Value:= #[.int .i64 v.a0,.string v.a1,.string v.a2,.int .i64 v.a3,.string v.a4,.bool v.a5,.slice v.q6 v.n6 v.c6,.slice v.q7 v.n7 v.c7,.int .i64 v.a8,.int .i64 v.a9,.string v.a10,.int .i64 v.a11,.bool v.a12,.bool v.a13,.bool v.a14,.slice v.q15 v.n15 v.c15]
abbrev N16.V (v:N16):Value:= .agg v.C
def ld16 (w:World)(A:Nat->Addr)(K:N16->Prop):Prop:=
 ∃(a0:Int),w.cell? (A 0)=some (.int .i64 a0)/\
 ∃(a1:ByteArray),w.cell? (A 1)=some (.string a1)/\
 ∃(a2:ByteArray),w.cell? (A 2)=some (.string a2)/\
 ∃(a3:Int),w.cell? (A 3)=some (.int .i64 a3)/\
 ∃(a4:ByteArray),w.cell? (A 4)=some (.string a4)/\
 ∃(a5:Bool),w.cell? (A 5)=some (.bool a5)/\
 ∃(q6:Option Addr),∃(n6:Nat),∃(c6:Nat),w.cell? (A 6)=some (.slice q6 n6 c6)/\
 ∃(q7:Option Addr),∃(n7:Nat),∃(c7:Nat),w.cell? (A 7)=some (.slice q7 n7 c7)/\
 ∃(a8:Int),w.cell? (A 8)=some (.int .i64 a8)/\
 ∃(a9:Int),w.cell? (A 9)=some (.int .i64 a9)/\
 ∃(a10:ByteArray),w.cell? (A 10)=some (.string a10)/\
 ∃(a11:Int),w.cell? (A 11)=some (.int .i64 a11)/\
 ∃(a12:Bool),w.cell? (A 12)=some (.bool a12)/\
 ∃(a13:Bool),w.cell? (A 13)=some (.bool a13)/\
 ∃(a14:Bool),w.cell? (A 14)=some (.bool a14)/\
 ∃(q15:Option Addr),∃(n15:Nat),∃(c15:Nat),w.cell? (A 15)=some (.slice q15 n15 c15)/\
 K ⟨a0,a1,a2,a3,a4,a5,q6,n6,c6,q7,n7,c7,a8,a9,a10,a11,a12,a13,a14,q15,n15,c15⟩
def ldB16 (w:World)(b:Nat)(K:N16->Prop):Prop:=ld16 w (λi=>⟨b,i,none⟩) K
def ldA16 (w:World)(a:Addr)(K:N16->Prop):Prop:=ld16 w (λi=>a.add i) K
def st16 (w:World)(b:Nat)(v:N16)(K:World->Prop):Prop:=
 stV w ⟨b,0,none⟩ (.int .i64 v.a0) λw=>
 stV w ⟨b,1,none⟩ (.string v.a1) λw=>
 stV w ⟨b,2,none⟩ (.string v.a2) λw=>
 stV w ⟨b,3,none⟩ (.int .i64 v.a3) λw=>
 stV w ⟨b,4,none⟩ (.string v.a4) λw=>
 stV w ⟨b,5,none⟩ (.bool v.a5) λw=>
 stV w ⟨b,6,none⟩ (.slice v.q6 v.n6 v.c6) λw=>
 stV w ⟨b,7,none⟩ (.slice v.q7 v.n7 v.c7) λw=>
 stV w ⟨b,8,none⟩ (.int .i64 v.a8) λw=>
 stV w ⟨b,9,none⟩ (.int .i64 v.a9) λw=>
 stV w ⟨b,10,none⟩ (.string v.a10) λw=>
 stV w ⟨b,11,none⟩ (.int .i64 v.a11) λw=>
 stV w ⟨b,12,none⟩ (.bool v.a12) λw=>
 stV w ⟨b,13,none⟩ (.bool v.a13) λw=>
 stV w ⟨b,14,none⟩ (.bool v.a14) λw=>
 stV w ⟨b,15,none⟩ (.slice v.q15 v.n15 v.c15) λw=>
 K w
def FR (e:Ending)(K:N16->Prop):Prop:=
 ∃(a0:Int),∃(a1:ByteArray),∃(a2:ByteArray),∃(a3:Int),∃(a4:ByteArray),∃(a5:Bool),∃(q6:Option Addr),∃(n6:Nat),∃(c6:Nat),∃(q7:Option Addr),∃(n7:Nat),∃(c7:Nat),∃(a8:Int),∃(a9:Int),∃(a10:ByteArray),∃(a11:Int),∃(a12:Bool),∃(a13:Bool),∃(a14:Bool),∃(q15:Option Addr),∃(n15:Nat),∃(c15:Nat),e= .returned (.agg #[.int .i64 a0,.string a1,.string a2,.int .i64 a3,.string a4,.bool a5,.slice q6 n6 c6,.slice q7 n7 c7,.int .i64 a8,.int .i64 a9,.string a10,.int .i64 a11,.bool a12,.bool a13,.bool a14,.slice q15 n15 c15])/\
 K ⟨a0,a1,a2,a3,a4,a5,q6,n6,c6,q7,n7,c7,a8,a9,a10,a11,a12,a13,a14,q15,n15,c15⟩
structure N10 where
 a0:Int:=0
 a1:ByteArray:=⟨#[]⟩
 a2:ByteArray:=⟨#[]⟩
 a3:Int:=0
 a4:ByteArray:=⟨#[]⟩
 a5:Bool:=false
 q6:Option Addr:=none
 n6:Nat:=0
 c6:Nat:=0
 q7:Option Addr:=none
 n7:Nat:=0
 c7:Nat:=0
 a8:Int:=0
 a9:Int:=0
def N10.C (v:N10):Array Value:= #[.int .i64 v.a0,.string v.a1,.string v.a2,.int .i64 v.a3,.string v.a4,.bool v.a5,.slice v.q6 v.n6 v.c6,.slice v.q7 v.n7 v.c7,.int .i64 v.a8,.int .i64 v.a9]
abbrev N10.V (v:N10):Value:= .agg v.C
def ld10 (w:World)(A:Nat->Addr)(K:N10->Prop):Prop:=
 ∃(a0:Int),w.cell? (A 0)=some (.int .i64 a0)/\
 ∃(a1:ByteArray),w.cell? (A 1)=some (.string a1)/\
 ∃(a2:ByteArray),w.cell? (A 2)=some (.string a2)/\
 ∃(a3:Int),w.cell? (A 3)=some (.int .i64 a3)/\
 ∃(a4:ByteArray),w.cell? (A 4)=some (.string a4)/\
 ∃(a5:Bool),w.cell? (A 5)=some (.bool a5)/\
 ∃(q6:Option Addr),∃(n6:Nat),∃(c6:Nat),w.cell? (A 6)=some (.slice q6 n6 c6)/\
 ∃(q7:Option Addr),∃(n7:Nat),∃(c7:Nat),w.cell? (A 7)=some (.slice q7 n7 c7)/\
 ∃(a8:Int),w.cell? (A 8)=some (.int .i64 a8)/\
 ∃(a9:Int),w.cell? (A 9)=some (.int .i64 a9)/\
 K ⟨a0,a1,a2,a3,a4,a5,q6,n6,c6,q7,n7,c7,a8,a9⟩
def ldB10 (w:World)(b:Nat)(K:N10->Prop):Prop:=ld10 w (λi=>⟨b,i,none⟩) K
def ldA10 (w:World)(a:Addr)(K:N10->Prop):Prop:=ld10 w (λi=>a.add i) K
def st10 (w:World)(b:Nat)(v:N10)(K:World->Prop):Prop:=
 stV w ⟨b,0,none⟩ (.int .i64 v.a0) λw=>
 stV w ⟨b,1,none⟩ (.string v.a1) λw=>
 stV w ⟨b,2,none⟩ (.string v.a2) λw=>
 stV w ⟨b,3,none⟩ (.int .i64 v.a3) λw=>
 stV w ⟨b,4,none⟩ (.string v.a4) λw=>
 stV w ⟨b,5,none⟩ (.bool v.a5) λw=>
 stV w ⟨b,6,none⟩ (.slice v.q6 v.n6 v.c6) λw=>
 stV w ⟨b,7,none⟩ (.slice v.q7 v.n7 v.c7) λw=>
 stV w ⟨b,8,none⟩ (.int .i64 v.a8) λw=>
 stV w ⟨b,9,none⟩ (.int .i64 v.a9) λw=>
 K w
end Go.Proofs.YtendaipfdnhnaaaGreatDoor


namespace Go.Proofs.YtendaipfdnhnaaaGreatDoor
variable {P:Program}

structure Out where
 os:Os
 output:Array (Nat × ByteArray)
abbrev ai:=Nat × Obj
def cel (cs:List Value)(e:TypeId):Obj:= .cells cs.toArray e
structure Sat (σ:Out) (w:World) (L:List ai):Prop where
 os:w.os=σ.os
 out:w.output=σ.output
 nodup:(L.map Prod.fst).Nodup
 at_: ∀c∈L,w.heap[c.1]? =some c.2
variable {σ:Out} {w:World} {L L':List ai}

theorem Sat.lt (h:Sat σ w L){c:ai}(hc:c∈L):c.1<w.heap.size:=(Array.getElem?_eq_some_iff.1 (h.at_ c hc)).1
theorem Sat.perm (h:Sat σ w L)(g:L.Perm L'):Sat σ w L':=
 ⟨h.os,h.out,(g.map Prod.fst).nodup_iff.1 h.nodup,λc hc=>h.at_ c (g.mem_iff.2 hc)⟩
theorem Sat.sub (h:Sat σ w L)(g:L'.Sublist L):Sat σ w L':=
 ⟨h.os,h.out,h.nodup.sublist (g.map Prod.fst),λc hc=>h.at_ c (g.subset hc)⟩
theorem Sat.right {A:List ai}(h:Sat σ w (A++L)):Sat σ w L:=h.sub (List.sublist_append_right A L)
theorem Sat.tail {c:ai}(h:Sat σ w (c::L)):Sat σ w L:=h.sub (List.sublist_cons_self c L)
theorem Sat.tick (h:Sat σ w L):Sat σ (tick w) L:=⟨h.os,h.out,h.nodup,h.at_⟩
theorem Sat.drew (h:Sat σ w L):Sat σ w.drew L:=⟨h.os,h.out,h.nodup,h.at_⟩
theorem Sat.tk (h:Sat σ w L){K:World->Prop}(y: ∀g,Sat σ g L->K g):YtendaipfdnhnaaaGreatDoor.tk w K:=y _ h.tick
theorem nr {b i:Nat}{cs:Array Value}{e:TypeId}{g:Nat × Nat}(h:w.heap[b]? =some (.cells cs e g)):w.cell? ⟨b,i,none⟩=cs[i]? :=by
 simp[World.cell?,h]
theorem Sat.ld (h:Sat σ w L){b i:Nat}{cs:List Value}{e:TypeId}{v:Value}(g:(b,cel cs e)∈L)(hv:cs[i]? =some v):w.cell? ⟨b,i,none⟩=some v:=by
 rw[nr (h.at_ _ g)];simpa using hv

theorem Sat.set (h:Sat σ w L){k b i:Nat}{cs:List Value}{e:TypeId}(v:Value)(E:L[k]? =some (b,cel cs e)):
 Sat σ (w.setCell ⟨b,i,none⟩ v) (L.set k (b,cel (cs.set i v) e)):=by
 have H:=(List.getElem?_eq_some_iff.1 E).1
 have I:=(List.getElem?_eq_some_iff.1 E).2
 have O:(L.set k (b,cel (cs.set i v) e)).map Prod.fst=L.map Prod.fst:=by
  rw[List.map_set]
  apply List.ext_getElem?
  intro j
  rw[List.getElem?_set]
  split
  ·rename_i g;subst g;simp[H,I]
  ·rfl
 refine⟨h.os,h.out,by rw[O];exact h.nodup,λc hc=>?_⟩
 obtain⟨j,g⟩:=List.mem_iff_getElem?.1 hc
 rw[List.getElem?_set] at g
 have hb:=h.at_ _ (List.mem_of_getElem? E)
 have b4:=(Array.getElem?_eq_some_iff.1 hb).1
 split at g
 ·rename_i y
  subst y
  simp only[Option.some.injEq] at g
  subst g
  simp only[World.setCell,Array.getElem?_modify,hb,if_true,Option.map_some]
  simp[cel]
 ·rename_i y
  have b3:=List.mem_of_getElem? g
  have V:b≠c.1:=by
   intro a6
   have U:=(List.getElem?_eq_some_iff.1 g).1
   have W:=(List.getElem?_eq_some_iff.1 g).2
   have a7:(L.map Prod.fst)[k]'(by simpa using H)=(L.map Prod.fst)[j]'(by simpa using U):=by simp[I,W,a6]
   exact y ((List.getElem_inj h.nodup).1 a7)
  simp only[World.setCell,Array.getElem?_modify]
  rw[if_neg V]
  exact h.at_ _ b3
theorem Sat.not_frozen (h:Sat σ w L){b i:Nat}{cs:List Value}{e:TypeId}(g:(b,cel cs e)∈L):w.frozen? ⟨b,i,none⟩=false:=by
 have:=h.at_ _ g
 simp only[cel] at this
 simp[World.frozen?,this]
theorem Sat.st (h:Sat σ w L){k b i:Nat}{cs:List Value}{e:TypeId}{v:Value}{K:World->Prop}(g:L[k]? =some (b,cel cs e))(hi:i<cs.length)(E:nx v)(I:L.set k (b,cel (cs.set i v) e)=L')(H: ∀y,Sat σ y L'->K y):stV w ⟨b,i,none⟩ v K:=
 ⟨E,⟨_,h.ld (List.mem_of_getElem? g) (List.getElem?_eq_getElem hi)⟩,h.not_frozen (List.mem_of_getElem? g),H _ (by rw[<-I];exact h.set v g)⟩

theorem Sat.ldA (h:Sat σ w L){b i:Nat}{cs:List Value}{e:TypeId}{v:Value}(g:(b,cel cs e)∈L:=by first|assumption|(repeat (first|exact .head _|apply List.Mem.tail)))(hv:cs[i]? =some v:=by exact rfl):w.cell? ⟨b,i,none⟩=some v:=h.ld g hv
theorem Sat.stA (h:Sat σ w L)(k:Nat){b i:Nat}{cs:List Value}{e:TypeId}{v:Value}{K:World->Prop}(E: ∀g,Sat σ g L'->K g)(H:L[k]? =some (b,cel cs e):=by exact rfl)(hi:i<cs.length:=by exact Nat.le_of_ble_eq_true rfl)(y:nx v:=by exact trivial)(I:L.set k (b,cel (cs.set i v) e)=L':=by first|(dsimp only[List.set];exact rfl)|exact rfl):stV w ⟨b,i,none⟩ v K:=h.st H hi y I E

theorem Sat.alc (h:Sat σ w L)(cs:List Value)(e:TypeId):Sat σ (alc w cs.toArray e) ((w.heap.size,cel cs e)::L):=by
 refine⟨h.os,h.out,?_,?_⟩
 ·simp only[List.map_cons,List.nodup_cons]
  refine⟨λg=>?_,h.nodup⟩
  obtain⟨c,hc,y⟩:=List.mem_map.1 g
  exact Nat.lt_irrefl _ (y▸h.lt hc)
 ·intro c hc
  cases hc with
  |head=>exact(Array.getElem?_push_size ..).trans rfl
  |tail _ hc=>
   have:=h.lt hc
   simp only[YtendaipfdnhnaaaGreatDoor.alc]
   rw[Array.getElem?_push_lt this,<-Array.getElem?_eq_getElem this]
   exact h.at_ _ hc
theorem Sat.bx (h:Sat σ w L){cs:List Value}{e:TypeId}{K:Nat->World->Prop}(y: ∀b g,Sat σ g ((b,cel cs e)::L)->K b g):box w cs.toArray e K:=by
 intro b hb
 subst hb
 exact y _ _ (h.alc cs e)

theorem ag {c:Bool}{A B:Prop}(hc:c=true)(h:A):br c A B:=by subst hc;exact h
theorem ae {c:Bool}{A B:Prop}(hc:c=false)(h:B):br c A B:=by subst hc;exact h
theorem bJ {c:Bool}{A B:Prop}(g:c=true->A)(y:c=false->B):br c A B:=by
 cases c with
 |true=>exact g rfl
 |false=>exact y rfl
theorem aa {a:Addr}{K:Addr->Prop}(h:K a):aA (some a) K:=h

def bs (l:List UInt8):ByteArray:=⟨l.toArray⟩
@[simp] theorem aI (l:List UInt8):(bs l).size=l.length:=by simp[bs,ByteArray.size]
@[simp] theorem bs_data (l:List UInt8):(bs l).data=l.toArray:=rfl
theorem bM (a b:List UInt8):bs a++bs b=bs (a++b):=by
 apply ByteArray.ext
 simp[bs]
theorem bV (l:List UInt8)(i j:Nat):(bs l).extract i j=bs ((l.take j).drop i):=by
 apply ByteArray.ext
 simp[bs,ByteArray.data_extract,List.extract_eq_take_drop,List.drop_take]
theorem oP (l:List UInt8)(i:Nat):bt (bs l) (i:Int)=((l.getD i 0).toNat:Int):=by
 simp[bt,bs,Array.getD_eq_getD_getElem?,List.getD_eq_getElem?_getD]
theorem Cz (l:List UInt8): ∀(k i:Nat) (r:List UInt8),l.length - i=k->ByteArray.toList.loop (bs l) i r=r.reverse++l.drop i
 |0,i,r,h=>by
  unfold ByteArray.toList.loop
  rw[if_neg (by rw[aI];omega),List.drop_eq_nil_of_le (by omega),List.append_nil]
 |k+1,i,r,h=>by
  have hi:i<l.length:=by omega
  unfold ByteArray.toList.loop
  rw[if_pos (by rw[aI];exact hi),Cz l k (i+1) _ (by omega),List.drop_eq_getElem_cons hi]
  have g:(bs l).get! i=l[i]:=by
   show (l.toArray)[i]! =l[i]
   simp[hi]
  rw[g]
  simp
theorem cX (l:List UInt8):(bs l).toList=l:=by
 unfold ByteArray.toList
 rw[Cz l _ 0 [] rfl]
 simp

end Go.Proofs.YtendaipfdnhnaaaGreatDoor

namespace Go.Proofs.YtendaipfdnhnaaaGreatDoor
abbrev kT(q:Option Addr):Value:=.pointer q
abbrev kE(b:Nat):Option Addr:=some ⟨b,0,none⟩
abbrev hZ(b i:Nat):Addr:=⟨b,i,none⟩
abbrev hY(n:Int):Value:=.int .i64 n
abbrev hX(s:ByteArray):Value:=.string s
abbrev hV(b:Bool):Value:=.bool b
abbrev hT(q:Option Addr)(n c:Nat):Value:=.slice q n c
abbrev hQ(v:Value):Ending:=.returned v
abbrev lA0:=@List.length_append
abbrev lB0:=@List.mem_append_right
abbrev lC0:=@Int.toNat_natCast
abbrev lD0:=@List.append_assoc
abbrev lE0:=@List.length_singleton
abbrev lF0:=@List.length_cons
abbrev lG0:=@List.append_nil
abbrev lH0:=@List.getElem?_append_right
abbrev lI0:=@List.getElem?_eq_getElem
abbrev lJ0:=@Result.andThen_ok
abbrev lK0:=@Addr.add_lit
abbrev lL0:=@List.getElem?_eq_some_iff
abbrev lM0:=@List.getElem?_append_left
abbrev lN0:=@Nat.zero_add
abbrev lO0:=@List.mem_append
abbrev lP0:=@List.getD_eq_getElem?_getD
abbrev lQ0:=@List.cons_append
abbrev lR0:=@List.mem_singleton
abbrev lS0:=@List.length_map
abbrev lT0:=@List.nil_append
abbrev lU0:=@List.cons.injEq
abbrev lV0:=@List.map_append
abbrev lW0:=@Sem.run_bind
abbrev lX0:=@List.mem_cons
abbrev lY0:=@List.length_pos_iff
abbrev lZ0:=@Nat.le_refl
abbrev lA1:=@List.exists_cons_of_ne_nil
abbrev lB1:=@List.length_take
abbrev lC1:=@List.eq_nil_of_length_eq_zero
abbrev lD1:=@Nat.mul_one
abbrev lE1:=@List.mem_append_left
abbrev lF1:=@List.take_succ_eq_append_getElem
abbrev lG1:=@List.drop_eq_getElem_cons
abbrev lH1:=@Option.some.injEq
abbrev lI1:=@Nat.eq_of_beq_eq_true
abbrev lJ1:=@List.not_mem_nil
abbrev lK1:=@Bool.and_eq_true
abbrev lL1:=@List.length_drop
abbrev lM1:=@List.length_nil
abbrev lN1:=@Nat.add_zero
abbrev lO1:=@List.set_append_right
abbrev lP1:=@List.getElem_mem
abbrev lQ1:=@List.mem_cons_of_mem
abbrev lR1:=@List.mem_of_getElem?
abbrev lS1:=@List.getElem?_eq_none
abbrev lT1:=@List.take_append_drop
abbrev lU1:=@List.foldl_cons
abbrev lV1:=@Nat.sub_self
abbrev lW1:=@List.mem_cons_self
abbrev lX1:=@List.replicate_succ
abbrev lY1:=@List.map_cons
abbrev lZ1:=@List.mem_map
abbrev lA2:=@List.drop_eq_nil_of_le
abbrev lB2:=@List.take_of_length_le
abbrev lC2:=@Nat.zero_le
abbrev lD2:=@List.all_eq_true
abbrev lE2:=@List.eq_nil_or_concat
abbrev lF2:=@List.getElem?_map
abbrev lG2:=@List.length_replicate
abbrev lH2:=@List.dropWhile_cons_of_neg
abbrev lI2:=@Bool.or_eq_false_iff
abbrev lJ2:=@List.drop_append_of_le_length
abbrev lK2:=@List.getElem_append_right
abbrev lL2:=@List.drop_zero
abbrev lM2:=@List.foldl_append
abbrev lN2:=@Nat.mul_le_mul_right
abbrev lO2:=@List.dropWhile_sublist
abbrev lP2:=@Array.getElem?_eq_getElem
abbrev lQ2:=@Array.getElem?_toList
abbrev lR2:=@List.singleton_append
abbrev lS2:=@List.concat_eq_append
abbrev lT2:=@List.take_length
abbrev lU2:=@List.mem_flatMap
abbrev lV2:=@List.getLast?_cons_cons
abbrev lW2:=@Array.getD_eq_getD_getElem?
abbrev lX2:=@List.mem_range
abbrev lY2:=@List.length_tail
abbrev lZ2:=@List.getElem?_cons_succ
abbrev lA3:=@List.mem_zipIdx_iff_getElem?
abbrev lB3:=@List.dropWhile_cons
abbrev lC3:=@List.takeWhile_cons
abbrev lD3:=@Nat.add_assoc
abbrev lE3:=@Bool.false_eq_true
abbrev lF3:=@Nat.add_sub_cancel
abbrev lG3:=@Nat.le_of_ble_eq_true
abbrev lH3:=@List.sublist_append_right
abbrev lI3:=@Option.map_some
abbrev lJ3:=@List.flatMap_cons
abbrev lK3:=@List.flatten_cons
abbrev lL3:=@List.all_cons
abbrev lM3:=@List.getElem?_take_of_lt
abbrev lN3:=@List.append_eq
abbrev lO3:=@Nat.zero_lt_succ
abbrev lP3:=@Nat.add_mul
abbrev lQ3:=@List.take_append_of_le_length
abbrev lR3:=@List.sublist_cons_self
abbrev lS3:=@List.append_of_mem
abbrev lT3:=@List.mem_replicate
abbrev lU3:=@Nat.add_right_comm
abbrev lV3:=@List.nodup_cons
abbrev lW3:=@List.dropLast_concat_getLast
abbrev lX3:=@Bool.and_eq_false_iff
abbrev lY3:=@UInt8.ofNat_toNat
abbrev lZ3:=@Array.getElem?_eq_some_iff
abbrev lA4:=@List.dropWhile_cons_of_pos
abbrev lB4:=@List.drop_left
abbrev lC4:=@Array.toArray_toList
abbrev lD4:=@List.getLast?_append
abbrev lE4:=@List.append_inj'
abbrev lF4:=@Array.mapM_eq_mapM_toList
abbrev lG4:=@Array.getElem?_push_size
abbrev lH4:=@Bool.eq_false_or_eq_true
abbrev lI4:=@Nat.eq_zero_or_pos
abbrev lJ4:=@List.getElem?_drop
abbrev lK4:=@List.set_eq_take_append_cons_drop
abbrev lL4:=@Nat.lt_or_ge
abbrev lM4:=@Array.getElem?_eq_none
abbrev lN4:=@Array.getElem?_push_lt
abbrev lO4:=@List.take_left
abbrev lP4:=@List.reverse_cons
abbrev lQ4:=@Nat.add_comm
abbrev lR4:=@Array.getElem?_setIfInBounds_ne
abbrev lS4:=@Array.getElem?_modify
abbrev lT4:=@List.dropWhile_suffix
abbrev lU4:=@List.set_append_left
abbrev lV4:=@List.mem_of_mem_drop
abbrev lW4:=@List.mem_of_mem_take
abbrev lX4:=@List.replicate_succ'
abbrev lY4:=@Bool.eq_iff_iff
abbrev lZ4:=@List.length_set
abbrev lA5:=@List.drop_left'
abbrev lB5:=@List.take_left'
abbrev lC5:=@List.all_append
abbrev lD5:=@List.reverse_append
abbrev lE5:=@List.mem_map_of_mem
abbrev lF5:=@List.take_succ_cons
abbrev lG5:=@List.flatMap_append
abbrev lH5:=@List.getD_cons_succ
abbrev lI5:=@Array.getElem?_append_left
abbrev lJ5:=@List.drop_drop
abbrev lK5:=@Nat.mul_le_mul
abbrev lL5:=@List.getElem?_set
abbrev lM5:=@Bool.not_eq_true'
abbrev lN5:=@Array.getElem?_replicate
abbrev lO5:=@Bool.true_and
abbrev lP5:=@List.getElem_append_left
abbrev lQ5:=@List.perm_middle
abbrev lR5:=@List.getElem?_cons_zero
abbrev lS5:=@List.reverse_nil
abbrev lT5:=@Bool.not_eq_true
abbrev lU5:=@List.drop_append
abbrev lV5:=@List.mem_nil_iff
abbrev lW5:=@Option.bind_eq_some_iff
abbrev lX5:=@Nat.add_sub_cancel_left
abbrev lY5:=@List.getElem?_replicate
abbrev lZ5:=@List.length_eq_zero_iff
abbrev lA6:=@Nat.blt_eq
abbrev lB6:=@Nat.succ_mul
abbrev lC6:=@List.head?_eq_getElem?
abbrev lD6:=@List.takeWhile_sublist
abbrev lE6:=@List.getElem_cons_succ
abbrev lF6:=@List.drop_of_length_le
abbrev lG6:=@Nat.min_eq_left
abbrev lH6:=@UInt8.toNat_inj
abbrev lI6:=@List.mem_iff_getElem?
abbrev lJ6:=@UInt8.lt_iff_toNat_lt
abbrev lK6:=@List.mapM_cons
abbrev lL6:=@List.reverse_reverse
abbrev lM6:=@List.pairwise_append
abbrev lN6:=@List.mem_iff_getElem
abbrev lO6:=@Nat.lt_irrefl
abbrev lP6:=@Nat.zero_mul
abbrev lQ6:=@Nat.mul_comm
end Go.Proofs.YtendaipfdnhnaaaGreatDoor

namespace Go.Proofs.YtendaipfdnhnaaaGreatDoor
open Go.Proofs Go.IntWalk
variable {P:Program} {σ:Out} {w:World} {L L':List ai} {R:Ending->World->Prop}

theorem aN {n:Nat}(g:n<4611686018427387904):i64.wrap ((n:Int)+1)=((n+1:Nat):Int):=by
 rw[i64_in _ (by omega)];omega
theorem gV {n:Nat}(y:n<4611686018427387904)(g:0<n):i64.wrap ((n:Int) - 1)=((n - 1:Nat):Int):=by
 rw[i64_in _ (by omega)];omega
theorem oO {l:List UInt8}{i:Nat}(hi:i<l.length):bt (bs l) (i:Int)=(l[i].toNat:Int):=by
 rw[oP,lP0,lI0 hi];rfl
theorem my (c d:UInt8):(((c.toNat:Nat):Int)==(d.toNat:Int))=(c==d):=by
 rw[lY4];simp only[beq_iff_eq,Int.ofNat_inj];exact⟨λh=>UInt8.toNat.inj h,λh=>by rw[h]⟩
theorem da {l:List UInt8}{i:Nat}(hi:i<l.length)(d:UInt8)(n:Int)(hd:(d.toNat:Int)=n):(bt (bs l) (i:Int)==n)=(l[i]==d):=by
 subst hd;rw[oO hi,my]

theorem C9 {l:List UInt8}{p:UInt8->Bool}{X:Nat->Prop}(step: ∀i (h:i<l.length),p l[i]=true->X (i+1)->X i):
 ∀g,g<=l.length->(∀i,i<=l.length->(∀h:i<l.length,p l[i]=false)->l.drop i=(l.drop g).dropWhile p->X i)->X g:=by
 intro g;generalize V:l.length - g=n
 induction n generalizing g with
 |zero=>
  intro hi y;exact y g hi (λh=>by omega) (by rw[lA2 (by omega)];rfl)
 |succ n O=>
  intro hi y;have H:g<l.length:=by omega
  have hd:=lG1 H;cases E:p l[g] with
  |true=>
   refine step g H E (O (g+1) (by omega) (by omega) λi hi U I=>y i hi U ?_);rw[I,hd,lA4 E]
  |false=>exact y g hi (λ_=>E) (by rw[hd,lH2 (by simp[E])])
theorem F9 {l:List UInt8}{p:UInt8->Bool}{X:Nat->Prop}(step: ∀i (h:i<l.length),p l[i]=true->X i->X (i+1)):
 ∀g,g<=l.length->(∀j,j<=l.length->(∀i (h:i<l.length),j=i+1->p l[i]=false)->l.take j=((l.take g).reverse.dropWhile p).reverse->X j)->X g:=by
 intro g
 induction g with
 |zero=>exact λh y=>y 0 h (λi hi h=>by omega) (by simp)
 |succ j O=>
  intro U y;have H:j<l.length:=by omega
  have ht:(l.take (j+1)).reverse=l[j]::(l.take j).reverse:=by rw[lF1 H];simp
  cases E:p l[j] with
  |true=>
   refine step j H E (O (by omega) λi hi V I=>y i hi V ?_);rw[I,ht,lA4 E]
  |false=>
   refine y (j+1) U (λi hi h=>by
    obtain rfl:i=j:=by omega
    exact E) ?_
   rw[ht,lH2 (by simp[E])];rw[<-ht,lL6]

theorem gi (a:Array UInt8):(hP a).toList=a.toList:=cX a.toList
theorem nt (l:List UInt8)(i:Nat):(bs l).extract i l.length=bs (l.drop i):=by rw[bV,lT2]
theorem Sat.up1 {a b:ai}(h:Sat σ w (a::b::L)):Sat σ w (b::a::L):=h.perm (List.Perm.swap ..)
open Classical in
noncomputable def one (a c:ai):Nat:=if c=a then 1 else 0
noncomputable def cnt (a:ai):List ai->Nat
 | []=>0
 |c::L=>one a c+cnt a L
theorem me (a:ai):cnt a []=0:=rfl
theorem eK (a c:ai)(L:List ai):cnt a (c::L)=one a c+cnt a L:=rfl
theorem dE (a:ai): ∀(L M:List ai),cnt a (L++M)=cnt a L+cnt a M
 | [],M=>by rw[lT0,me,lN0]
 |c::L,M=>by rw[lQ0,eK,eK,dE a L M,lD3]
theorem Cq {a:ai}: ∀ {L:List ai},0<cnt a L->a∈L
 | [],h=>by simp[cnt] at h
 |c::L,h=>by
  by_cases hc:c=a
  ·rw[hc];exact lW1 ..
  ·rw[eK] at h;simp only[one,if_neg hc,lN0] at h;exact lQ1 _ (Cq h)
theorem rR: ∀ {L M:List ai},(∀a,cnt a L=cnt a M)->L.Perm M
 | [],M,h=>by
  cases M with
  |nil=>exact .nil
  |cons c M=>have:=h c;simp[cnt,one] at this;omega
 |c::L,M,h=>by
  have hc:c∈M:=Cq (by rw[<-h c,eK];simp[one];omega);obtain⟨A,B,rfl⟩:=lS3 hc;refine(List.Perm.cons c (rR (M:=A++B) λa=>?_)).trans lQ5.symm;have:=h a;simp only[dE,eK] at this⊢;omega
theorem Sat.re (h:Sat σ w L)(g: ∀a,cnt a L=cnt a L':=by intro _;simp only[lN3,dE,eK,me]<;>omega):Sat σ w L':=h.perm (rR g)
theorem Sat.less {L L':List ai}(X:List ai)(h:Sat σ w L)(g: ∀a,cnt a L=cnt a X+cnt a L':=by intro _;simp only[lN3,dE,eK,me]<;>omega):Sat σ w L':=
 Sat.right (A:=X) (h.re λa=>by rw[dE];exact g a)

def cL (c:UInt8):Bool:=c==32||c==9
def vC (p:UInt8->Bool)(l:List UInt8):List UInt8:=(l.reverse.dropWhile p).reverse
def gf (p:UInt8->Bool)(l:List UInt8):List UInt8:=vC p (l.dropWhile p)

end Go.Proofs.YtendaipfdnhnaaaGreatDoor


namespace Go.Proofs.YtendaipfdnhnaaaGreatDoor
open Go.Proofs Go.IntWalk Go.RowKit
set_option maxRecDepth 20000
variable {σ:Out} {w:World} {L L':List ai} {R:Ending->World->Prop}
def xQ (g:World):Out:=⟨g.os,g.output⟩
def fJ (g:World):List ai:=g.heap.toList.zipIdx.map λx=>(x.2,x.1)
theorem Da (g:World):Sat (xQ g) g (fJ g):=by
 refine⟨rfl,rfl,?_,?_⟩
 ·have:(fJ g).map Prod.fst=g.heap.toList.zipIdx.map Prod.snd:=by simp[fJ,Function.comp_def]
  rw[this,List.zipIdx_map_snd];exact List.nodup_range'
 ·intro c hc;obtain⟨x,y,rfl⟩:=lZ1.1 hc;have:=lA3.1 y
  simpa using this
theorem xZ {g y:World}(h:Sat (xQ g) y (fJ g))(E:MemPlace->Prop):g.keptBut y E:=by
 refine⟨h.os,h.out,λi hi=>?_⟩;have H:(i,g.heap[i])∈fJ g:=lZ1.2 ⟨(g.heap[i],i),lA3.2 (by simp[hi]),rfl⟩;have:=h.at_ _ H;rw[this,lP2 hi];cases g.heap[i]<;>first|exact⟨rfl,rfl,rfl,λ_ _=>rfl⟩|exact .inr ⟨rfl,rfl⟩|rfl
theorem Cw {P:Program}{f:FuncId}{g:Array Value}{R:Ending->World->Prop}{w:World}(hc: ∀g w,(callFunc f g).run P w= .ok (.enter f g) w)(h:callE P f g R w):Calls P f g w R:=by
 rcases h with ⟨_,h⟩|⟨v,y,h,_⟩
 ·exact h
 ·rw[hc] at h;cases h
end Go.Proofs.YtendaipfdnhnaaaGreatDoor

namespace Go.Proofs.YtendaipfdnhnaaaGreatDoor
open Go.Proofs
noncomputable abbrev P:Program:=Tryz.prog
abbrev WP:=World->Prop
abbrev EP:=Ending->WP
abbrev OA:=Option Addr
abbrev BA:=ByteArray
abbrev ty_:Nat:=0
abbrev bg:Nat:=3
abbrev dx:Nat:=5
abbrev aq:Nat:=9
abbrev bK:Nat:=22
abbrev nz:Nat:=24
abbrev au:Nat:=25
abbrev af:Nat:=27
abbrev cq:Nat:=32
abbrev al:Nat:=35
abbrev fa:Nat:=38
abbrev ak:Nat:=43
abbrev mA:Nat:=57
abbrev cY:Nat:=62
abbrev aO:Nat:=75
abbrev aF:Nat:=77
abbrev fM:Nat:=80
abbrev gN:Nat:=81
abbrev oz:Nat:=83
abbrev lm:Nat:=84
abbrev ap:Nat:=85
abbrev uk:Nat:=87
abbrev jX:Nat:=94
abbrev yM:Nat:=96
abbrev dk:Nat:=97
abbrev uj:Nat:=99
abbrev fG:Nat:=100
abbrev mF:Nat:=103
abbrev gd:Nat:=104
abbrev dU:Nat:=105
abbrev pQ:Nat:=107
abbrev AL:Nat:=110
abbrev bD:Nat:=111
abbrev mD:Nat:=113
abbrev cI:Nat:=114
abbrev mG:Nat:=116
abbrev sT:Nat:=118
abbrev cT:Nat:=121
abbrev FL:Nat:=123
abbrev j3:Nat:=125
abbrev FN:Nat:=130
abbrev vB:Nat:=132
abbrev aC:Nat:=154
abbrev cQ:Nat:=156
abbrev cn:Nat:=158
abbrev jH:Nat:=165
abbrev fL:Nat:=166
abbrev EQ:Nat:=167
abbrev gy:Nat:=172
abbrev ie:Nat:=175
abbrev eO:Nat:=177
abbrev aW:Nat:=180
abbrev bH:Nat:=200
abbrev nA:Nat:=203
abbrev kz:Nat:=204
abbrev zz:Nat:=206
abbrev ju:Nat:=207
abbrev kR:Nat:=208
abbrev oX:Nat:=209
abbrev AO:Nat:=210
abbrev iR:Nat:=211
abbrev i6:Nat:=213
abbrev fo:Nat:=214
abbrev ui:Nat:=216
abbrev lr:Nat:=218
abbrev lN:Nat:=220
abbrev mE:Nat:=223
abbrev rH:Nat:=225
abbrev zy:Nat:=228
abbrev pP:Nat:=231
abbrev ah:Nat:=232
abbrev bO:Nat:=234
abbrev ay:Nat:=236
abbrev bF:Nat:=239
abbrev cP:Nat:=241
abbrev aX:Nat:=244
abbrev aQ:Nat:=246
abbrev qw:Nat:=249
abbrev i5:Nat:=262
abbrev ar:Nat:=265
abbrev fc:Nat:=267
abbrev aL:Nat:=269
abbrev rG:Nat:=274
abbrev Ej:Nat:=279
abbrev aT:Nat:=287
abbrev kx:Nat:=289
abbrev vA:Nat:=290
abbrev cH:Nat:=302
abbrev iS:Nat:=303
abbrev gz:Nat:=313
abbrev mz:Nat:=314
abbrev az:Nat:=323
abbrev bu:Nat:=325
abbrev mB:Nat:=326
abbrev fK:Nat:=328
abbrev gA:Nat:=332
abbrev mC:Nat:=334
abbrev AN:Nat:=336
abbrev C3:Nat:=338
abbrev jt:Nat:=349
abbrev g9:Nat:=359
abbrev At:Nat:=360
abbrev CR:Nat:=362
abbrev ty_Empty:Nat:=434
abbrev lM:Nat:=436
abbrev mV:Nat:=5
abbrev qg:Nat:=10
abbrev mX:Nat:=14
abbrev mT:Nat:=15
abbrev mU:Nat:=17
abbrev jv:Nat:=19
abbrev kZ:Nat:=20
abbrev nK:Nat:=24
abbrev iW:Nat:=26
abbrev dV:Nat:=29
abbrev fj:Nat:=31
abbrev bR:Nat:=32
abbrev l6:Nat:=33
abbrev ow:Nat:=34
abbrev jF:Nat:=37
abbrev aS:Nat:=41
abbrev eY:Nat:=42
abbrev gI:Nat:=44
abbrev l7:Nat:=45
abbrev df:Nat:=46
abbrev tg:Nat:=47
abbrev wG:Nat:=49
abbrev dv:Nat:=50
abbrev mW:Nat:=51
abbrev B1:Nat:=52
abbrev FU:Nat:=53
abbrev ry:Nat:=54
abbrev lg:Nat:=55
abbrev eu:Nat:=64
abbrev cE:Nat:=65
abbrev iC:Nat:=66
abbrev dD:Nat:=67
abbrev iB:Nat:=68
abbrev eU:Nat:=69
abbrev ki:Nat:=70
abbrev d9:Nat:=72
abbrev bw:Nat:=73
abbrev bT:Nat:=74
abbrev dl:Nat:=75
abbrev iO:Nat:=76
abbrev kY:Nat:=77
abbrev bQ:Nat:=78
abbrev lA:Nat:=79
abbrev gQ:Nat:=80
abbrev bj:Nat:=81
abbrev fw:Nat:=82
abbrev wE:Nat:=83
abbrev fP:Nat:=89
abbrev kj:Nat:=90
abbrev dY:Nat:=91
abbrev po:Nat:=92
abbrev nI:Nat:=93
abbrev ov:Nat:=94
abbrev nX:Nat:=95
abbrev lB:Nat:=96
abbrev mQ:Nat:=97
abbrev oU:Nat:=98
abbrev lF:Nat:=100
abbrev wH:Nat:=102
abbrev cD:Nat:=103
abbrev cr:Nat:=104
abbrev BX:Nat:=105
abbrev pr:Nat:=106
abbrev aJ:Nat:=107
abbrev ia:Nat:=108
abbrev iU:Nat:=109
abbrev dM:Nat:=110
abbrev bI:Nat:=111
abbrev jE:Nat:=112
abbrev gl:Nat:=113
abbrev mj:Nat:=114
abbrev dO:Nat:=115
abbrev tU:Nat:=116
abbrev sy:Nat:=117
abbrev jD:Nat:=118
abbrev lD:Nat:=119
abbrev qM:Nat:=120
abbrev dm:Nat:=121
abbrev gF:Nat:=122
abbrev ej:Nat:=123
abbrev mS:Nat:=124
abbrev fg:Nat:=125
abbrev fu:Nat:=126
abbrev dS:Nat:=127
abbrev kf:Nat:=138
abbrev fA:Nat:=139
abbrev f9:Nat:=140
abbrev jZ:Nat:=141
abbrev fh:Nat:=142
abbrev cg:Nat:=143
abbrev qd:Nat:=144
abbrev cm:Nat:=145
abbrev lE:Nat:=146
abbrev j2:Nat:=147
abbrev pp:Nat:=148
abbrev eh:Nat:=149
abbrev fV:Nat:=150
abbrev wD:Nat:=151
abbrev tf:Nat:=152
abbrev xm:Nat:=153
abbrev kN:Nat:=154
abbrev lG:Nat:=155
abbrev yf:Nat:=156
abbrev cR:Nat:=160
abbrev dz:Nat:=161
abbrev dF:Nat:=162
abbrev eC:Nat:=163
abbrev kO:Nat:=165
abbrev mY:Nat:=169
abbrev kg:Nat:=171
abbrev kh:Nat:=172
abbrev Ay:Nat:=173
abbrev mi:Nat:=174
abbrev Az:Nat:=175
abbrev iu:Nat:=176
abbrev fy:Nat:=177
abbrev ir:Nat:=178
abbrev fx:Nat:=179
abbrev l0:Nat:=180
abbrev sR:Nat:=181
abbrev lZ:Nat:=184
abbrev iV:Nat:=185
abbrev gH:Nat:=186
abbrev ft:Nat:=187
abbrev lY:Nat:=188
abbrev Fv:Nat:=189
abbrev BZ:Nat:=190
abbrev dL:Nat:=191
abbrev eX:Nat:=192
abbrev ga:Nat:=193
abbrev fi:Nat:=194
abbrev lC:Nat:=195
abbrev iT:Nat:=196
abbrev B0:Nat:=197
abbrev jg:Nat:=198
abbrev bN:Nat:=199
abbrev fU:Nat:=200
abbrev fH:Nat:=201
abbrev qh:Nat:=202
abbrev bl:Nat:=203
abbrev ze:Nat:=212
abbrev wF:Nat:=213
abbrev tS:Nat:=218
abbrev nW:Nat:=219
abbrev i_zzZs:Nat:=220
abbrev Gn:Nat:=221
abbrev eB:Nat:=223
abbrev mR:Nat:=228
abbrev gm:Nat:=229
abbrev wC:Nat:=230
abbrev eW:Nat:=231
abbrev eV:Nat:=232
abbrev fO:Nat:=233
abbrev fz:Nat:=239
abbrev iA:Nat:=241
abbrev ij:Nat:=242
abbrev nJ:Nat:=243
abbrev d8:Nat:=244
abbrev tT:Nat:=245
abbrev FV:Nat:=246
abbrev Fu:Nat:=247
abbrev jh:Nat:=248
abbrev i4:Nat:=257
abbrev du:Nat:=263
abbrev dZ:Nat:=270
abbrev cz:Nat:=305
abbrev iv:Nat:=368
abbrev iw:Nat:=420
abbrev jI:Nat:=421
abbrev iy:Nat:=422
abbrev gR:Nat:=423
abbrev xo:Nat:=424
abbrev gG:Nat:=425
abbrev gP:Nat:=434
abbrev gk:Nat:=435
abbrev iz:Nat:=436
abbrev gS:Nat:=437
abbrev iD:Nat:=438
abbrev eZ:Nat:=439
abbrev gU:Nat:=440
abbrev gn:Nat:=441
end Go.Proofs.YtendaipfdnhnaaaGreatDoor


namespace Go.Proofs.YtendaipfdnhnaaaGreatDoor
open Go.Proofs Go.IntWalk Go.RowKit
set_option maxRecDepth 20000
variable {σ:Out} {w:World} {L L':List ai} {R:Ending->World->Prop}
def ko (R:EP)(e8:OA)(H e9:Nat)(w:World):Prop:=br (decide ((H:Int)>2147483647)) (R (hQ (hV true)) w) (callE P qg #[hT e8 H e9] (λe f3=>∃f1,e= hQ (hV f1)/\br (!f1) (R (hQ (hV true)) f3) (callE P mU #[hT e8 H e9] (λe h3=>∃E b9,∃b6 b7,∃b3 c1,∃b8 a6,∃W I,∃O U,∃a7 b4 c2,e= hQ (.tuple #[hX E,(N10.V {a0:=b9,a1:=b6,a2:=b7,a3:=b3,a4:=c1,a5:=b8,q6:=a6,n6:=W,c6:=I,q7:=O,n7:=U,c7:=a7,a8:=b4,a9:=c2})])/\box h3 (N10.C {}) af λf2 h2=>st10 h2 f2 {a0:=b9,a1:=b6,a2:=b7,a3:=b3,a4:=c1,a5:=b8,q6:=a6,n6:=W,c6:=I,q7:=O,n7:=U,c7:=a7,a8:=b4,a9:=c2} λg7=>callE P mT #[] (λe g6=>∃d2 d1,∃c9 c3,∃d0 d3,∃c8 c5,∃c4 e0,e= hQ (.agg #[hV d2,hV d1,hV c9,hV c3,hV d0,hV d3,hV c8,hV c5,hV c4,hV e0])/\callE P mX #[.agg #[hV d2,hV d1,hV c9,hV c3,hV d0,hV d3,hV c8,hV c5,hV c4,hV e0],hX E] (λe h0=>FR e λg5=>box h0 (N16.C {}) al λy h1=>st16 h1 y g5 λg3=>tk g3 λg=>∃f5 e2 f4,g.cell? (hZ y 7)=some (hT f5 e2 f4)/\∃g0 e5 g2,g.cell? (hZ f2 7)=some (hT g0 e5 g2)/\br ((e2:Int)==(e5:Int)) (∃e4 e6 e1,g.cell? (hZ y 7)=some (hT e4 e6 e1)/\callE P kZ #[hX E] (λe f0=>∃g1 e3 f6,e= hQ (hT g1 e3 f6)/\SameC g f0 (hZ y 7) 1/\callE P jv #[hT e4 e6 e1,hY 1,hY (e3:Int)] (λe g4=>∃e7,e= hQ (hV e7)/\R (hQ (hV e7)) g4) f0) g) (R (hQ (hV false)) g)) g6) g7) f3)) w)
theorem ko.sound {R x0q x0n x0c w}(h:ko R x0q x0n x0c w):callE P mV #[hT x0q x0n x0c] R w:=
 aH [(95,.dr (rpN [0,9,4,6,13,15,18,21,24,30,28,35,36,41,42,45]))] Tryz.func5 Tryz.call5 h
def ng (R:EP)(a6:OA)(b4 b5:Nat)(w:World):Prop:=box w (N10.C {}) af λb1 b9=>box b9 #[hT a6 b4 b5,hY 0,hY 0,hV false,hY 0] mA λb6 c1=>callE P dV #[kT (kE b6),hY 3,hY 4] (λe b7=>∃g O,∃I E,∃y H,e= hQ (.tuple #[hT g O I,hT E y H])/\callE P iW #[hT g O I,hX (hP #[10])] (λe b8=>∃W,e= hQ (hX W)/\st10 b8 b1 {a0:=1,q7:=E,n7:=y,c7:=H} λU=>ldB10 U b1 λa7=>R (hQ (.tuple #[hX W,a7.V])) U) b7) c1
theorem ng.sound {R x0q x0n x0c w}(h:ng R x0q x0n x0c w):callE P mU #[hT x0q x0n x0c] R w:=
 cC Tryz.func17 Tryz.call17 h
def nM (R:EP)(y:OA)(g E:Nat)(w:World):Prop:=R (hQ (hV (decide ((g:Int)<=300)))) w
theorem nM.sound {R x0q x0n x0c w}(h:nM R x0q x0n x0c w):callE P qg #[hT x0q x0n x0c] R w:=
 cC Tryz.func10 Tryz.call10 h
namespace aB
def k9 (R:EP)(Xa:OA->Int->Bool->Nat->Nat->Bool->OA->Nat->Nat->Int->Int->WP)(g6:OA)(h0:Int)(h1:Bool)(g5 U:Nat)(g7:Bool)(g0:OA)(y f0 I:Nat)(e5:OA)(E f5:Nat)(O:BA)(g3 g4:Int)(w:World):Prop:=stV w (hZ I 8) (hY (i64.wrap ((y:Int)+1))) λf3=>stV f3 (hZ I 9) (hY (i64.wrap ((y:Int)+(E:Int)))) λe6=>0<=(0:Int)/\0<(E:Int)/\aA e5 λf2=>∃H,e6.cell? (f2.add (Int.toNat 0*1))=some (hX H)/\((O.size+H.size:Nat):Int)<=i64.max/\∃b5 e0,∃e1 e3,(Instr.buildSlice ak 1 #[(0,hX (O++H))]).run P e6= .ok (hT b5 e0 e1) e3/\∃b7 c2,∃c4 e7,(Builtin.append_ #[ak,ak] ak #[hT g0 y f0,hT b5 e0 e1]).run P e3= .ok (hT b7 c2 c4) e7/\tk e7 λf4=>∃b6 c1 d1,(∀w,(Instr.sliceAt ak (hT e5 E f5) (some (hY 1)) none none).run P w= .ok (hT b6 c1 d1) w)/\callE P nK #[hY (O.size:Int)] (λe f1=>∃e8,e= hQ (hX e8)/\callE P kj #[hX e8,hT b6 c1 d1] (λe g1=>∃a7 W b4,e= hQ (hT a7 W b4)/\∃a6 b8,∃b9 g,(Builtin.append_ #[ak,ak] ak #[hT b7 c2 c4,hT a7 W b4]).run P g1= .ok (hT a6 b8 b9) g/\∃d0 c5 b3,g.cell? (hZ U 7)=some (hT d0 c5 b3)/\ldB10 g I λg2=>∃c3 d2,∃d3 e4,(Instr.buildSlice au 1 #[(0,g2.V)]).run P g= .ok (hT c3 d2 d3) e4/\∃e2 c9,∃c8 e9,(Builtin.append_ #[au,au] au #[hT d0 c5 b3,hT c3 d2 d3]).run P e4= .ok (hT e2 c9 c8) e9/\stV e9 (hZ U 7) (hT e2 c9 c8) λf6=>Xa g6 h0 h1 g5 U g7 a6 b8 b9 g3 (i64.wrap (g4+1)) f6) f1) f4
def k8 (R:EP)(Xa:OA->Int->Bool->Nat->Nat->Bool->OA->Nat->Nat->Int->Int->WP)(c3:OA)(c5:Int)(c8:Bool)(c2 g:Nat)(c4:Bool)(b6:OA)(W V b7:Nat)(a7:OA)(b5 b4:Nat)(c1:BA)(b8 b9:Int)(c9:Bool)(w:World):Prop:=br c9 (∃E y,∃O b3,(Instr.buildSlice ak 1 #[(0,hX (hP #[]))]).run P w= .ok (hT E y O) b3/\∃H I,∃U a6,(Builtin.append_ #[ak,ak] ak #[hT b6 W V,hT E y O]).run P b3= .ok (hT H I U) a6/\stV a6 (hZ g 5) (hV true) λd0=>k9 R Xa c3 c5 c8 c2 g c4 H I U b7 a7 b5 b4 c1 b8 b9 d0) (k9 R Xa c3 c5 c8 c2 g c4 b6 W V b7 a7 b5 b4 c1 b8 b9 w)
def k7 (R:EP)(Xa:OA->Int->Bool->Nat->Nat->Bool->OA->Nat->Nat->Int->Int->WP)(b7:OA)(b5:Int)(b8:Bool)(b6 b4:Nat)(g:Bool)(H:OA)(O I:Nat)(W:Int)(a7:Nat)(U:OA)(E y:Nat)(V:BA)(b3 a6:Int)(w:World):Prop:=k8 R Xa b7 b5 b8 b6 b4 g H O I a7 U E y V b3 a6 ((decide (W>0)) && g) w
def k6 (R:EP)(Xa:OA->Int->Bool->Nat->Nat->Bool->OA->Nat->Nat->Int->Int->WP)(b8:OA)(c1:Int)(c2:Bool)(b7 y:Nat)(b9:Bool)(b3:OA)(U I:Nat)(H:Int)(b4:Nat)(V:OA)(a6 W:Nat)(b5 b6:Int)(w:World):Prop:=∃g,w.cell? (hZ y 4)=some (hX g)/\((g.size+(hP #[32]).size:Nat):Int)<=i64.max/\∃O,w.cell? (hZ y 3)=some (hY O)/\br (decide (O >= 0)) (∃a7,w.cell? (hZ y 3)=some (hY a7)/\callE P fP #[hY (i64.wrap (a7+H))] (λe c3=>∃E,e= hQ (hX E)/\((E.size+(g++(hP #[32])).size:Nat):Int)<=i64.max/\k7 R Xa b8 c1 c2 b7 y b9 b3 U I H b4 V a6 W (E++(g++(hP #[32]))) b5 b6 c3) w) (k7 R Xa b8 c1 c2 b7 y b9 b3 U I H b4 V a6 W (g++(hP #[32])) b5 b6 w)
def k5 (R:EP)(Xa:OA->Int->Bool->Nat->Nat->Bool->OA->Nat->Nat->Int->Int->WP)(b6:OA)(b8:Int)(b9:Bool)(b5 g:Nat)(b7:Bool)(a6:OA)(I H:Nat)(b4:Int)(y:Nat)(O:OA)(W U:Nat)(a7 b3:Int)(w:World):Prop:=∃V,w.cell? (hZ g 5)=some (hV V)/\br V (stV w (hZ g 5) (hV true) λc4=>k6 R Xa b6 b8 b9 b5 g b7 a6 I H b4 y O W U a7 b3 c4) (∃c2 E c1,w.cell? (hZ y 7)=some (hT c2 E c1)/\stV w (hZ g 5) (hV (decide ((E:Int)>1))) λc3=>k6 R Xa b6 b8 b9 b5 g b7 a6 I H b4 y O W U a7 b3 c3)
def k4 (R:EP)(Xa:OA->Int->Bool->Nat->Nat->Bool->OA->Nat->Nat->Int->Int->WP)(E:OA)(H:Int)(W:Bool)(c1 b9:Nat)(b8:Bool)(b4:OA)(a7 a6:Nat)(b7:Int)(g:Nat)(b5 b6:Int)(H7:Bool)(w:World):Prop:=br H7 (aA E λH9=>∃z3,w.cell? (H9.add 3)=some (hV z3)/\br z3 (callE P dD #[kT E] (λe H6=>∃d0 I,∃d1 q5,∃n2 q2,∃q4 q0,∃o2 m4,∃m2 n0,∃i8 m5,∃m8 q1 p4,e= hQ (.tuple #[hT d0 I d1,(N10.V {a0:=q5,a1:=n2,a2:=q2,a3:=q4,a4:=q0,a5:=o2,q6:=m4,n6:=m2,c6:=n0,q7:=i8,n7:=m5,c7:=m8,a8:=q1,a9:=p4})])/\box H6 (N10.C {}) af λf0 I1=>st10 I1 f0 {a0:=q5,a1:=n2,a2:=q2,a3:=q4,a4:=q0,a5:=o2,q6:=m4,n6:=m2,c6:=n0,q7:=i8,n7:=m5,c7:=m8,a8:=q1,a9:=p4} λI3=>stV I3 (hZ f0 8) (hY 1) λI2=>stV I2 (hZ f0 9) (hY (I:Int)) λI0=>tk I0 λz4=>ldB10 z4 f0 λH8=>∃w8 w2,∃v3 y2,(Instr.buildSlice au 1 #[(0,H8.V)]).run P z4= .ok (hT w8 w2 v3) y2/\stV y2 (hZ g 7) (hT w8 w2 v3) λH2=>callE P aS #[kT E,hY 2] (λe x6=>∃y1,e= hQ (hY y1)/\br (y1==1) (callE P eY #[kT E,hY (i64.wrap (H - 1)),hV W] (λe H4=>∃c8 c2,∃c9 m1,∃i1 h8,∃i2 i3,∃m6 h0,∃g5 g2,∃h3 g7,∃g6 j1 h6,e= hQ (.tuple #[hT c8 c2 c9,(N10.V {a0:=m1,a1:=i1,a2:=h8,a3:=i2,a4:=i3,a5:=m6,q6:=h0,n6:=g5,c6:=g2,q7:=h3,n7:=g7,c7:=g6,a8:=j1,a9:=h6})])/\box H4 (N10.C {}) af λy H3=>st10 H3 y {a0:=m1,a1:=i1,a2:=h8,a3:=i2,a4:=i3,a5:=m6,q6:=h0,n6:=g5,c6:=g2,q7:=h3,n7:=g7,c7:=g6,a8:=j1,a9:=h6} λG9=>stV G9 (hZ y 8) (hY (i64.wrap ((I:Int)+2))) λG3=>stV G3 (hZ y 9) (hY (i64.wrap ((i64.wrap ((I:Int)+1))+(c2:Int)))) λG6=>tk G6 λb3=>∃d3 d2 e0,b3.cell? (hZ g 7)=some (hT d3 d2 e0)/\ldB10 b3 y λe6=>(∃g0 f2,∃f5 U,(Instr.buildSlice ak 1 #[(0,hX (hP #[]))]).run P b3= .ok (hT g0 f2 f5) U/\SameC b3 U (hZ y 0) 10/\SameC b3 U (hZ g 7) 1/\(∃f4 f6,∃f3 O,(Builtin.append_ #[ak,ak] ak #[hT d0 I d1,hT g0 f2 f5]).run P U= .ok (hT f4 f6 f3) O/\SameC U O (hZ y 0) 10/\SameC U O (hZ g 7) 1/\(∃t8 v7,∃r5 e1,(Builtin.append_ #[ak,ak] ak #[hT f4 f6 f3,hT c8 c2 c9]).run P O= .ok (hT t8 v7 r5) e1/\SameC O e1 (hZ y 0) 10/\SameC O e1 (hZ g 7) 1/\∃s1 q8,∃s7 g1,(Instr.buildSlice au 1 #[(0,e6.V)]).run P e1= .ok (hT s1 q8 s7) g1/\SameC e1 g1 (hZ g 7) 1/\∃t5 x4,∃v9 y4,(Builtin.append_ #[au,au] au #[hT d3 d2 e0,hT s1 q8 s7]).run P g1= .ok (hT t5 x4 v9) y4/\stV y4 (hZ g 7) (hT t5 x4 v9) λH1=>k5 R Xa E H W c1 b9 b8 b4 a7 a6 b7 g t8 v7 r5 b5 b6 H1)/\(∃s4 t0,∃v8 e3,(Instr.buildSlice au 1 #[(0,e6.V)]).run P O= .ok (hT s4 t0 v8) e3/\SameC O e3 (hZ g 7) 1/\∃w6 r1,∃t4 e9,(Builtin.append_ #[ak,ak] ak #[hT f4 f6 f3,hT c8 c2 c9]).run P e3= .ok (hT w6 r1 t4) e9/\SameC e3 e9 (hZ y 0) 10/\SameC e3 e9 (hZ g 7) 1/\∃w1 r6,∃w7 y3,(Builtin.append_ #[au,au] au #[hT d3 d2 e0,hT s4 t0 v8]).run P e9= .ok (hT w1 r6 w7) y3/\stV y3 (hZ g 7) (hT w1 r6 w7) λG4=>k5 R Xa E H W c1 b9 b8 b4 a7 a6 b7 g w6 r1 t4 b5 b6 G4))/\(∃r9 s2,∃t9 e2,(Instr.buildSlice au 1 #[(0,e6.V)]).run P U= .ok (hT r9 s2 t9) e2/\SameC U e2 (hZ g 7) 1/\∃t6 s5,∃r4 c5,(Builtin.append_ #[ak,ak] ak #[hT d0 I d1,hT g0 f2 f5]).run P e2= .ok (hT t6 s5 r4) c5/\SameC e2 c5 (hZ y 0) 10/\SameC e2 c5 (hZ g 7) 1/\∃s3 t2,∃x3 e5,(Builtin.append_ #[ak,ak] ak #[hT t6 s5 r4,hT c8 c2 c9]).run P c5= .ok (hT s3 t2 x3) e5/\SameC c5 e5 (hZ y 0) 10/\SameC c5 e5 (hZ g 7) 1/\∃s9 u8,∃u2 x5,(Builtin.append_ #[au,au] au #[hT d3 d2 e0,hT r9 s2 t9]).run P e5= .ok (hT s9 u8 u2) x5/\stV x5 (hZ g 7) (hT s9 u8 u2) λG1=>k5 R Xa E H W c1 b9 b8 b4 a7 a6 b7 g s3 t2 x3 b5 b6 G1))/\(∃t3 u0,∃r3 e4,(Instr.buildSlice au 1 #[(0,e6.V)]).run P b3= .ok (hT t3 u0 r3) e4/\SameC b3 e4 (hZ g 7) 1/\∃v5 v4,∃v2 c3,(Instr.buildSlice ak 1 #[(0,hX (hP #[]))]).run P e4= .ok (hT v5 v4 v2) c3/\SameC e4 c3 (hZ y 0) 10/\SameC e4 c3 (hZ g 7) 1/\∃w4 v0,∃w9 c4,(Builtin.append_ #[ak,ak] ak #[hT d0 I d1,hT v5 v4 v2]).run P c3= .ok (hT w4 v0 w9) c4/\SameC c3 c4 (hZ y 0) 10/\SameC c3 c4 (hZ g 7) 1/\∃v6 s6,∃w5 e8,(Builtin.append_ #[ak,ak] ak #[hT w4 v0 w9,hT c8 c2 c9]).run P c4= .ok (hT v6 s6 w5) e8/\SameC c4 e8 (hZ y 0) 10/\SameC c4 e8 (hZ g 7) 1/\∃u1 s8,∃t7 y5,(Builtin.append_ #[au,au] au #[hT d3 d2 e0,hT t3 u0 r3]).run P e8= .ok (hT u1 s8 t7) y5/\stV y5 (hZ g 7) (hT u1 s8 t7) λD3=>k5 R Xa E H W c1 b9 b8 b4 a7 a6 b7 g v6 s6 w5 b5 b6 D3)) x6) (k5 R Xa E H W c1 b9 b8 b4 a7 a6 b7 g d0 I d1 b5 b6 x6)) H2) w) (callE P dV #[kT E,hY (i64.wrap (H - 1)),hY 2] (λe G0=>∃o4 o0,∃q3 p1,∃o3 p3,e= hQ (.tuple #[hT o4 o0 q3,hT p1 o3 p3])/\stV G0 (hZ g 7) (hT p1 o3 p3) λH5=>k5 R Xa E H W c1 b9 b8 b4 a7 a6 b7 g o4 o0 q3 b5 b6 H5) w)) (callE P dD #[kT E] (λe G2=>∃n3 f1,∃p5 h9,∃m3 n1,∃j0 h7,∃l5 h4,∃h1 h5,∃h2 g3,∃g4 k0 i0,e= hQ (.tuple #[hT n3 f1 p5,(N10.V {a0:=h9,a1:=m3,a2:=n1,a3:=j0,a4:=h7,a5:=l5,q6:=h4,n6:=h1,c6:=h5,q7:=h2,n7:=g3,c7:=g4,a8:=k0,a9:=i0})])/\box G2 (N10.C {}) af λe7 H0=>st10 H0 e7 {a0:=h9,a1:=m3,a2:=n1,a3:=j0,a4:=h7,a5:=l5,q6:=h4,n6:=h1,c6:=h5,q7:=h2,n7:=g3,c7:=g4,a8:=k0,a9:=i0} λG5=>stV G5 (hZ e7 8) (hY 1) λG7=>stV G7 (hZ e7 9) (hY (f1:Int)) λG8=>tk G8 λz1=>ldB10 z1 e7 λD1=>∃r7 w3,∃r8 z2,(Instr.buildSlice au 1 #[(0,D1.V)]).run P z1= .ok (hT r7 w3 r8) z2/\stV z2 (hZ g 7) (hT r7 w3 r8) λD2=>k6 R Xa E H W c1 b9 b8 b4 a7 a6 b7 g n3 f1 p5 b5 b6 D2) w)
def bl1 (R:EP)(Xa:OA->Int->Bool->Nat->Nat->Bool->OA->Nat->Nat->Int->Int->WP)(c1:OA)(b4:Int)(b9:Bool)(y a7:Nat)(b3:Bool)(H:OA)(I E:Nat)(a6 g:Int)(w:World):Prop:=br (decide (g<a6)) (box w (N10.C {}) af λW b6=>st10 b6 W {a0:=4} λb5=>k4 R Xa c1 b4 b9 y a7 b3 H I E g W a6 g (b3 && (decide (b4>0))) b5) (tk w λO=>ldB10 O a7 λb7=>st10 O y b7 λU=>ldB10 U y λb8=>R (hQ (.tuple #[hT H I E,b8.V])) U)
def l1 (R:EP)(a6:OA)(V:Int)(a7:Bool)(W O:Nat)(U:Bool)(g:OA)(E y:Nat)(I H:Int)(w:World):Prop:=∀X:OA->Int->Bool->Nat->Nat->Bool->OA->Nat->Nat->Int->Int->WP,(∀a6 V a7 W O U g E y I H w,bl1 R X a6 V a7 W O U g E y I H w->X a6 V a7 W O U g E y I H w)->X a6 V a7 W O U g E y I H w
def k3 (R:EP)(y:OA)(O:Int)(V:Bool)(U H:Nat)(I:Bool)(w:World):Prop:=callE P aS #[kT y,hY 3] (λe E=>∃g,e= hQ (hY g)/\l1 R y O V U H I none 0 0 (i64.wrap (1+g)) 0 E) w
def k2 (R:EP)(g:OA)(H:Int)(O:Bool)(I E:Nat)(w:World):Prop:=callE P aS #[kT g,hY 2] (λe y=>∃U,e= hQ (hY U)/\br (U==1) (aA g λa6=>∃W,y.cell? (a6.add 3)=some (hV W)/\br W (aA g λa7=>∃V,y.cell? (a7.add 4)=some (hY V)/\k3 R g H O I E (!(decide (V>0))) y) (k3 R g H O I E true y)) (k3 R g H O I E false y)) w
def k1 (R:EP)(y:OA)(H:Int)(E:Bool)(I g:Nat)(w:World):Prop:=callE P aS #[kT y,hY 2] (λe U=>∃O,e= hQ (hY O)/\br (O==1) (callE P aS #[kT y,hY 30] (λe a6=>∃V,e= hQ (hY V)/\stV a6 (hZ g 3) (hY V) λa7=>stV a7 (hZ g 4) (hX (hP #[46])) λW=>br E (stV W (hZ g 4) (hX (hP #[41])) λb3=>k2 R y H E I g b3) (k2 R y H E I g W)) U) (k2 R y H E I g U)) w
end aB
def aB (R:EP)(I:OA)(H:Int)(y:Bool)(w:World):Prop:=box w (N10.C {}) af λb1 U=>box U (N10.C {}) af λg V=>st10 V g {a0:=3,a3:=(-1),a4:=(hP #[45])} λE=>br y (stV E (hZ g 4) (hX (hP #[43])) λO=>aB.k1 R I H y b1 g O) (aB.k1 R I H y b1 g E)
theorem aB.sound {R x0 x1 x2 w}(h:aB R x0 x1 x2 w):callE P iB #[kT x0,hY x1,hV x2] R w:=
 aH [(15,.mk [2,27,40,146,166] (aB.k1 R)),(31,.mk [2,27,40,146,166] (aB.k2 R)),(63,.mk [2,27,40,146,166,180] (aB.k3 R)),(703,.lp [2,27,40,146,166,180,203,1047,1067] (aB.bl1 R) λXa=> [(883,.mk [2,27,40,146,166,180,203,227,246,1047,1067,1220] (aB.k4 R Xa)),(92531,.dr (rpN [0,9,4,8,12,17])),(1960307,.dr (.pure 0 (.pure 3 (.pure 5 (.load 6 (.load 7 (.two 1 (.two 2 (.two 4 (.one 8 (.one 9 (.pure 10 (.pure 11 (.one 12 .done))))) 8 (.one 4 (.one 9 (.pure 10 (.pure 11 (.one 12 .done)))))) 8 (.one 2 (.one 4 (.one 9 (.pure 10 (.pure 11 (.one 12 .done))))))) 8 (.one 1 (.one 2 (.one 4 (.one 9 (.pure 10 (.pure 11 (.one 12 .done)))))))))))))),(3443,.mk [2,27,40,146,166,180,203,227,246,263,1047,1067] (aB.k5 R Xa)),(8051,.dr (rpN [0,9,4,8,12,17])),(499,.mk [2,27,40,146,166,180,203,227,246,263,1047,1067] (aB.k6 R Xa)),(2035,.mk [2,27,40,146,166,180,203,227,246,263,401,1047,1067] (aB.k7 R Xa)),(7155,.mk [2,27,40,146,166,180,203,246,263,401,1047,1067,3180] (aB.k8 R Xa)),(4083,.mk [2,27,40,146,166,180,203,246,263,401,1047,1067] (aB.k9 R Xa)),(24563,.dr (rpN [0,3,6,12,15,11,20,23,24]))]),(383,.dr (rpN [0,6,4,11]))] Tryz.func68 Tryz.call68 h
namespace aY
def k2 (R:EP)(d1:OA)(c8:Nat)(g:BA)(w:World):Prop:=callE P iC #[kT d1] (λe d0=>∃y E,∃H I,e= hQ (.tuple #[hT y E H,hX I])/\(((hP #[96,96,96]).size+g.size:Nat):Int)<=i64.max/\∃b6 b8,∃a7 c5,(Instr.buildSlice ak 1 #[(0,hX ((hP #[96,96,96])++g))]).run P d0= .ok (hT b6 b8 a7) c5/\∃a6 W,∃b4 c1,(Builtin.append_ #[ak,ak] ak #[hT b6 b8 a7,hT y E H]).run P c5= .ok (hT a6 W b4) c1/\∃b9 b3,∃O c4,(Instr.buildSlice ak 1 #[(0,hX (hP #[96,96,96]))]).run P c1= .ok (hT b9 b3 O) c4/\∃b7 b5,∃U c3,(Builtin.append_ #[ak,ak] ak #[hT a6 W b4,hT b9 b3 O]).run P c4= .ok (hT b7 b5 U) c3/\st10 c3 c8 {a0:=7,a1:=I,a2:=g} λc2=>ldB10 c2 c8 λc9=>R (hQ (.tuple #[hT b7 b5 U,c9.V])) c2) w
def k3 (R:EP)(d1:OA)(b9:Nat)(c3:OA)(c1 c5 g:Nat)(w:World):Prop:=callE P aS #[kT d1,hY 2] (λe d0=>∃b7,e= hQ (hY b7)/\stV d0 (hZ g 0) (hY 5) λc9=>stV c9 (hZ g 3) (hY (i64.wrap (1+b7))) λc4=>tk c4 λy=>∃I,y.cell? (hZ g 3)=some (hY I)/\∃E,y.cell? (hZ g 3)=some (hY E)/\0<=(i64.wrap (I - 1))/\(i64.wrap (I - 1))<=E/\E<=((hP #[61,45]).size:Int)/\ldB10 y g λc8=>callE P jF #[hX ((hP #[61,45]).extract (Int.toNat (i64.wrap (I - 1))) (Int.toNat E)),hY 3] (λe U=>∃b6,e= hQ (hX b6)/\SameC y U (hZ g 0) 10/\∃W b5,∃a6 H,(Instr.buildSlice ak 1 #[(0,hX b6)]).run P U= .ok (hT W b5 a6) H/\SameC U H (hZ g 0) 10/\∃b4 a7,∃b3 O,(Builtin.append_ #[ak,ak] ak #[hT c3 c1 c5,hT W b5 a6]).run P H= .ok (hT b4 a7 b3) O/\SameC H O (hZ g 0) 10/\st10 O b9 c8 λb8=>ldB10 b8 b9 λc2=>R (hQ (.tuple #[hT b4 a7 b3,c2.V])) b8) y) w
def bl1 (R:EP)(Xa:Nat->OA->Nat->Nat->OA->Nat->Nat->OA->Nat->Nat->Int->Int->WP)(E:Nat)(c2:OA)(b8 c4:Nat)(b9:OA)(c3 b4:Nat)(a7:OA)(b3 c5:Nat)(b5 g:Int)(w:World):Prop:=br (decide (g<b5)) (0<=g/\g<(b3:Int)/\aA a7 λc8=>∃y,w.cell? (c8.add (Int.toNat g*1))=some (hX y)/\(((hP #[62,32]).size+y.size:Nat):Int)<=i64.max/\∃U a6,∃W b6,(Instr.buildSlice ak 1 #[(0,hX ((hP #[62,32])++y))]).run P w= .ok (hT U a6 W) b6/\∃H I,∃O b7,(Builtin.append_ #[ak,ak] ak #[hT b9 c3 b4,hT U a6 W]).run P b6= .ok (hT H I O) b7/\Xa E c2 b8 c4 H I O a7 b3 c5 b5 (i64.wrap (g+1)) b7) (st10 w E {a0:=2,q7:=c2,n7:=b8,c7:=c4} λc1=>ldB10 c1 E λc9=>R (hQ (.tuple #[hT b9 c3 b4,c9.V])) c1)
def l1 (R:EP)(b3:Nat)(I:OA)(H a7:Nat)(O:OA)(U W:Nat)(g:OA)(E y:Nat)(a6 V:Int)(w:World):Prop:=∀X:Nat->OA->Nat->Nat->OA->Nat->Nat->OA->Nat->Nat->Int->Int->WP,(∀b3 I H a7 O U W g E y a6 V w,bl1 R X b3 I H a7 O U W g E y a6 V w->X b3 I H a7 O U W g E y a6 V w)->X b3 I H a7 O U W g E y a6 V w
def k4 (R:EP)(e9:OA)(f5:Int)(f6:Bool)(g:Nat)(f0:Bool)(w:World):Prop:=br f0 (callE P iB #[kT e9,hY (i64.wrap (f5 - 1)),hV f6] (λe f4=>∃e1 e5,∃e2 e0,∃c4 d3,∃d0 d1,∃b6 E,∃a6 I,∃b4 y,∃H c1 b9,e= hQ (.tuple #[hT e1 e5 e2,(N10.V {a0:=e0,a1:=c4,a2:=d3,a3:=d0,a4:=d1,a5:=b6,q6:=E,n6:=a6,c6:=I,q7:=b4,n7:=y,c7:=H,a8:=c1,a9:=b9})])/\st10 f4 g {a0:=e0,a1:=c4,a2:=d3,a3:=d0,a4:=d1,a5:=b6,q6:=E,n6:=a6,c6:=I,q7:=b4,n7:=y,c7:=H,a8:=c1,a9:=b9} λe8=>ldB10 e8 g λf1=>R (hQ (.tuple #[hT e1 e5 e2,f1.V])) e8) w) (callE P dD #[kT e9] (λe f3=>∃e4 e6,∃e3 c3,∃c9 d2,∃c5 b7,∃b8 a7,∃b3 W,∃b5 O,∃U c8 c2,e= hQ (.tuple #[hT e4 e6 e3,(N10.V {a0:=c3,a1:=c9,a2:=d2,a3:=c5,a4:=b7,a5:=b8,q6:=a7,n6:=b3,c6:=W,q7:=b5,n7:=O,c7:=U,a8:=c8,a9:=c2})])/\st10 f3 g {a0:=c3,a1:=c9,a2:=d2,a3:=c5,a4:=b7,a5:=b8,q6:=a7,n6:=b3,c6:=W,q7:=b5,n7:=O,c7:=U,a8:=c8,a9:=c2} λe7=>ldB10 e7 g λf2=>R (hQ (.tuple #[hT e4 e6 e3,f2.V])) e7) w)
def k1 (R:EP)(g:OA)(b3:Int)(h8:Bool)(y:Nat)(E:Int)(w:World):Prop:=br (E==2) (callE P aS #[kT g,hY 6] (λe l5=>∃a7,e= hQ (hY a7)/\callE P eu #[kT g] (λe n0=>∃W e3,∃e6 e9,e= hQ (.tuple #[hX W,hT e3 e6 e9])/\callE P jF #[hX (hP #[35]),hY (i64.wrap (1+a7))] (λe m5=>∃I,e= hQ (hX I)/\((I.size+(hP #[32]).size:Nat):Int)<=i64.max/\(((I++(hP #[32])).size+W.size:Nat):Int)<=i64.max/\∃g0 g2,∃f5 h2,(Instr.buildSlice ak 1 #[(0,hX ((I++(hP #[32]))++W))]).run P m5= .ok (hT g0 g2 f5) h2/\st10 h2 y {a0:=5,a3:=(i64.wrap (1+a7)),q7:=e3,n7:=e6,c7:=e9} λh1=>ldB10 h1 y λm2=>R (hQ (.tuple #[hT g0 g2 f5,m2.V])) h1) n0) l5) w) (br (E==3) (∃f2 g5,∃g1 h0,(Instr.buildSlice ak 1 #[(0,hX (hP #[42,42,42]))]).run P w= .ok (hT f2 g5 g1) h0/\st10 h0 y {a0:=9} λh7=>ldB10 h7 y λj0=>R (hQ (.tuple #[hT f2 g5 g1,j0.V])) h7) (br (E==4) (callE P aS #[kT g,hY 2] (λe O=>∃g7,e= hQ (hY g7)/\br (g7==1) (aA g λi3=>∃g6,O.cell? (i3.add 3)=some (hV g6)/\br (!g6) (callE P cE #[kT g] (λe m6=>∃h3,e= hQ (hX h3)/\k2 R g y h3 m6) O) (k2 R g y (hP #[]) O)) (k2 R g y (hP #[]) O)) w) (br (E==5) (callE P dD #[kT g] (λe j1=>∃e8 e4,∃e5 c1,∃e1 c9,∃e0 c4,∃d0 b7,∃b8 b4,∃b9 b6,∃b5 c2 d2,e= hQ (.tuple #[hT e8 e4 e5,(N10.V {a0:=c1,a1:=e1,a2:=c9,a3:=e0,a4:=c4,a5:=d0,q6:=b7,n6:=b8,c6:=b4,q7:=b9,n7:=b6,c7:=b5,a8:=c2,a9:=d2})])/\box j1 (N10.C {}) af λH m1=>st10 m1 H {a0:=c1,a1:=e1,a2:=c9,a3:=e0,a4:=c4,a5:=d0,q6:=b7,n6:=b8,c6:=b4,q7:=b9,n7:=b6,c7:=b5,a8:=c2,a9:=d2} λa6=>aA g λi8=>∃h6,a6.cell? (i8.add 3)=some (hV h6)/\br h6 (callE P eu #[kT g] (λe k0=>∃f1 e7,∃f0 e2,e= hQ (.tuple #[hX f1,hT e7 f0 e2])/\∃f6 g4,∃f4 h5,(Instr.buildSlice ak 1 #[(0,hX f1)]).run P k0= .ok (hT f6 g4 f4) h5/\st10 h5 H {q7:=e7,n7:=f0,c7:=e2} λm3=>k3 R g y f6 g4 f4 H m3) a6) (k3 R g y e8 e4 e5 H a6)) w) (br (E==6) (aA g λm4=>∃h4,w.cell? (m4.add 4)=some (hY h4)/\aA g λm8=>stV w ((m8.add 4).add 0) (hY (i64.wrap (h4+1))) λh9=>callE P dV #[kT g,hY (i64.wrap (b3 - 1)),hY 3] (λe g3=>∃c3 U,∃d1 c8,∃c5 d3,e= hQ (.tuple #[hT c3 U d1,hT c8 c5 d3])/\aA g λi0=>∃f3,g3.cell? (i0.add 4)=some (hY f3)/\aA g λi1=>stV g3 ((i1.add 4).add 0) (hY (i64.wrap (f3 - 1))) λi2=>l1 R y c8 c5 d3 none 0 0 c3 U d1 (U:Int) 0 i2) h9) (br (E==7) (k4 R g b3 h8 y true w) (k4 R g b3 h8 y (E==8) w))))))
end aY
def aY (R:EP)(g:OA)(H:Int)(V:Bool)(w:World):Prop:=box w (N10.C {}) af λb1 U=>aA g λa3=>∃O,U.cell? (a3.add 2)=some (hY O)/\aA g λa5=>stV U ((a5.add 2).add 0) (hY (i64.wrap (O+1))) λW=>callE P aS #[kT g,hY 9] (λe E=>∃y,e= hQ (hY y)/\aA g λa9=>∃I,E.cell? (a9.add 2)=some (hY I)/\br ((decide (I>60))||((decide (H<=0)) && (decide (y >= 6)))) (aY.k1 R g H V b1 0 E) (aY.k1 R g H V b1 y E)) W
theorem aY.sound {R x0 x1 x2 w}(h:aY R x0 x1 x2 w):callE P eY #[kT x0,hY x1,hV x2] R w:=
 aH [(31,.mk [2,27,40,146,167] (aY.k1 R)),(61359,.mk [2,146,241] (aY.k2 R)),(245679,.mk [2,146,303,326] (aY.k3 R)),(769967,.dr (rpN [0,3,12,7,9,16,18,31,23,26,29,33,38])),(23003055,.lp [146,403,423,3163,3187,3207] (aY.bl1 R) λXa=> []),(524207,.mk [2,27,40,146,3460] (aY.k4 R))] Tryz.func42 Tryz.call42 h
namespace bS
def k1 (R:EP)(Xa:OA->Int->OA->Nat->Nat->OA->Nat->Nat->Int->Int->WP)(d3:OA)(e0:Int)(c3:OA)(E c4:Nat)(d0:OA)(d1 c1:Nat)(b9:OA)(I b8 g:Nat)(c5 c8:Int)(w:World):Prop:=stV w (hZ g 8) (hY (i64.wrap ((E:Int)+1))) λc9=>stV c9 (hZ g 9) (hY (i64.wrap ((E:Int)+(I:Int)))) λd2=>∃H a6,∃O y,(Builtin.append_ #[ak,ak] ak #[hT c3 E c4,hT b9 I b8]).run P d2= .ok (hT H a6 O) y/\ldB10 y g λc2=>∃U b3,∃W b7,(Instr.buildSlice au 1 #[(0,c2.V)]).run P y= .ok (hT U b3 W) b7/\∃a7 b4,∃b5 b6,(Builtin.append_ #[au,au] au #[hT d0 d1 c1,hT U b3 W]).run P b7= .ok (hT a7 b4 b5) b6/\Xa d3 e0 H a6 O a7 b4 b5 c5 (i64.wrap (c8+1)) b6
def bl1 (R:EP)(Xa:OA->Int->OA->Nat->Nat->OA->Nat->Nat->Int->Int->WP)(b6:OA)(b7:Int)(O:OA)(b3 U:Nat)(a6:OA)(a7 I:Nat)(W g:Int)(w:World):Prop:=br (decide (g<W)) ((2:Int)≠0/\callE P eY #[kT b6,hY b7,hV ((Int.tmod g 2)==1)] (λe f1=>∃y E,∃H d2,∃c9 d0,∃c5 d3,∃d1 c3,∃c2 b8,∃b9 c1,∃c4 c8 e0,e= hQ (.tuple #[hT y E H,(N10.V {a0:=d2,a1:=c9,a2:=d0,a3:=c5,a4:=d3,a5:=d1,q6:=c3,n6:=c2,c6:=b8,q7:=b9,n7:=c1,c7:=c4,a8:=c8,a9:=e0})])/\box f1 (N10.C {}) af λb4 f0=>st10 f0 b4 {a0:=d2,a1:=c9,a2:=d0,a3:=c5,a4:=d3,a5:=d1,q6:=c3,n6:=c2,c6:=b8,q7:=b9,n7:=c1,c7:=c4,a8:=c8,a9:=e0} λe8=>br (decide (g>0)) (∃e5 e4,∃e2 e7,(Instr.buildSlice ak 1 #[(0,hX (hP #[]))]).run P e8= .ok (hT e5 e4 e2) e7/\∃e6 e3,∃e1 e9,(Builtin.append_ #[ak,ak] ak #[hT O b3 U,hT e5 e4 e2]).run P e7= .ok (hT e6 e3 e1) e9/\k1 R Xa b6 b7 e6 e3 e1 a6 a7 I y E H b4 W g e9) (k1 R Xa b6 b7 O b3 U a6 a7 I y E H b4 W g e8)) w) (R (hQ (.tuple #[hT O b3 U,hT a6 a7 I])) w)
def l1 (R:EP)(a6:OA)(W:Int)(H:OA)(V y:Nat)(U:OA)(O E:Nat)(g I:Int)(w:World):Prop:=∀X:OA->Int->OA->Nat->Nat->OA->Nat->Nat->Int->Int->WP,(∀a6 W H V y U O E g I w,bl1 R X a6 W H V y U O E g I w->X a6 W H V y U O E g I w)->X a6 W H V y U O E g I w
end bS
def bS (R:EP)(y:OA)(H I:Int)(w:World):Prop:=callE P aS #[kT y,hY I] (λe E=>∃g,e= hQ (hY g)/\bS.l1 R y H none 0 0 none 0 0 (i64.wrap (1+g)) 0 E) w
theorem bS.sound {R x0 x1 x2 w}(h:bS R x0 x1 x2 w):callE P dV #[kT x0,hY x1,hY x2] R w:=
 aH [(87,.lp [2,27,163,183,327,347] (bS.bl1 R) λXa=> [(243,.mk [2,27,163,183,223,246,327,347] (bS.k1 R Xa))])] Tryz.func29 Tryz.call29 h
namespace bX
def bl2 (R:EP)(Xa:OA->Nat->Nat->OA->Nat->Nat->Int->Int->WP)(e8:OA->Nat->Nat->OA->Nat->Nat->BA->Int->Int->OA->Nat->Nat->Int->Int->WP)(d3:OA)(e0 y:Nat)(d1:OA)(c8 c9:Nat)(d2:BA)(c5 c3:Int)(b9:OA)(O e1:Nat)(c4 g:Int)(w:World):Prop:=br (decide (g<c4)) (0<=g/\g<(O:Int)/\aA b9 λe2=>ldA10 w (e2.add (Int.toNat g*10)) λe3=>box w (N10.C {}) af λc2 e4=>st10 e4 c2 e3 λE=>∃H b4 b7,E.cell? (hZ y 7)=some (hT H b4 b7)/\ldB10 E c2 λe7=>callE P fj #[hT H b4 b7,e7.V] (λe e6=>∃I b8 b6,e= hQ (hT I b8 b6)/\stV e6 (hZ y 7) (hT I b8 b6) λe5=>e8 d3 e0 y d1 c8 c9 d2 c5 c3 b9 O e1 c4 (i64.wrap (g+1)) e5) E) (∃W b5,∃U d0,(Instr.buildSlice ak 1 #[(0,hX d2)]).run P w= .ok (hT W b5 U) d0/\∃a7 a6,∃b3 c1,(Builtin.append_ #[ak,ak] ak #[hT d1 c8 c9,hT W b5 U]).run P d0= .ok (hT a7 a6 b3) c1/\Xa d3 e0 y a7 a6 b3 c5 (i64.wrap (c3+1)) c1)
def l2 (R:EP)(Xa:OA->Nat->Nat->OA->Nat->Nat->Int->Int->WP)(b5:OA)(b4 a7:Nat)(I:OA)(W a6:Nat)(b3:BA)(U V:Int)(E:OA)(g y:Nat)(H O:Int)(w:World):Prop:=∀X:OA->Nat->Nat->OA->Nat->Nat->BA->Int->Int->OA->Nat->Nat->Int->Int->WP,(∀b5 b4 a7 I W a6 b3 U V E g y H O w,bl2 R Xa X b5 b4 a7 I W a6 b3 U V E g y H O w->X b5 b4 a7 I W a6 b3 U V E g y H O w)->X b5 b4 a7 I W a6 b3 U V E g y H O w
def k1 (R:EP)(Xa:OA->Nat->Nat->OA->Nat->Nat->Int->Int->WP)(W:OA)(b3 a6:Nat)(y:OA)(I U:Nat)(a7:BA)(E:OA)(g V:Nat)(H O:Int)(w:World):Prop:=l2 R Xa W b3 a6 y I U a7 H O E g V (g:Int) 0 w
def bl1 (R:EP)(Xa:OA->Nat->Nat->OA->Nat->Nat->Int->Int->WP)(b5:OA)(E g:Nat)(b4:OA)(a7 b3:Nat)(W y:Int)(w:World):Prop:=br (decide (y<W)) (callE P eu #[kT b5] (λe a6=>∃U O,∃I H,e= hQ (.tuple #[hX U,hT O I H])/\br (decide (y>0)) (∃b9 c1 b6,a6.cell? (hZ g 7)=some (hT b9 c1 b6)/\callE P fj #[hT b9 c1 b6,(N10.V {a0:=21})] (λe c8=>∃c2 b7 b8,e= hQ (hT c2 b7 b8)/\stV c8 (hZ g 7) (hT c2 b7 b8) λd0=>k1 R Xa b5 E g b4 a7 b3 U O I H W y d0) a6) (k1 R Xa b5 E g b4 a7 b3 U O I H W y a6)) w) (tk w λc4=>ldB10 c4 g λc5=>st10 c4 E c5 λc3=>ldB10 c3 E λc9=>R (hQ (.tuple #[hT b4 a7 b3,c9.V])) c3)
def l1 (R:EP)(V:OA)(U O:Nat)(g:OA)(E I:Nat)(y H:Int)(w:World):Prop:=∀X:OA->Nat->Nat->OA->Nat->Nat->Int->Int->WP,(∀V U O g E I y H w,bl1 R X V U O g E I y H w->X V U O g E I y H w)->X V U O g E I y H w
end bX
def bX (R:EP)(E:OA)(w:World):Prop:=box w (N10.C {}) af λb1 O=>box O (N10.C {}) af λy U=>st10 U y {a0:=6} λI=>callE P aS #[kT E,hY 3] (λe H=>∃g,e= hQ (hY g)/\bX.l1 R E b1 y none 0 0 (i64.wrap (1+g)) 0 H) I
theorem bX.sound {R x0 w}(h:bX R x0 w):callE P dD #[kT x0] R w:=
 aH [(87,.lp [2,66,86,103,287,307] (bX.bl1 R) λXa=> [(243,.mk [2,66,86,103,141,163,287,307] (bX.k1 R Xa)),(1395,.lp [2,66,86,103,141,287,307,603,627,647] (bX.bl2 R Xa) λg=> [])]),(47,.dr (rpN [0,6,4,11]))] Tryz.func67 Tryz.call67 h
def nN (R:EP)(E:Int)(w:World):Prop:=callE P jF #[hX (hP #[32]),hY E] (λe y=>∃g,e= hQ (hX g)/\R (hQ (hX g)) y) w
theorem nN.sound {R x0 w}(h:nN R x0 w):callE P nK #[hY x0] R w:=
 cC Tryz.func24 Tryz.call24 h
namespace dj
def bl1 (R:EP)(Xa:OA->OA->Nat->Nat->Int->Int->WP)(O E:OA)(I H:Nat)(b8 b7:Int)(w:World):Prop:=br (decide (b7<b8)) (callE P aS #[kT O,hY 3] (λe c4=>∃b9,e= hQ (hY b9)/\callE P nK #[hY b9] (λe c1=>∃U,e= hQ (hX U)/\callE P cE #[kT O] (λe c2=>∃y,e= hQ (hX y)/\((U.size+y.size:Nat):Int)<=i64.max/\∃b4 b3,∃a6 b6,(Instr.buildSlice ak 1 #[(0,hX (U++y))]).run P c2= .ok (hT b4 b3 a6) b6/\∃V a7,∃W b5,(Builtin.append_ #[ak,ak] ak #[hT E I H,hT b4 b3 a6]).run P b6= .ok (hT V a7 W) b5/\Xa O V a7 W b8 (i64.wrap (b7+1)) b5) c1) c4) w) (callE P iW #[hT E I H,hX (hP #[10])] (λe c3=>∃g,e= hQ (hX g)/\((g.size+(hP #[10]).size:Nat):Int)<=i64.max/\R (hQ (.tuple #[hT E I H,hX (g++(hP #[10]))])) c3) w)
def l1 (R:EP)(O y:OA)(g E:Nat)(I H:Int)(w:World):Prop:=∀X:OA->OA->Nat->Nat->Int->Int->WP,(∀O y g E I H w,bl1 R X O y g E I H w->X O y g E I H w)->X O y g E I H w
end dj
def dj (R:EP)(g:OA)(w:World):Prop:=callE P cE #[kT g] (λe W=>∃O,e= hQ (hX O)/\∃E y,∃H U,(Instr.buildSlice ak 1 #[(0,hX O)]).run P W= .ok (hT E y H) U/\callE P aS #[kT g,hY 3] (λe V=>∃I,e= hQ (hY I)/\dj.l1 R g E y H I 0 V) U) w
theorem dj.sound {R x0 w}(h:dj R x0 w):callE P iC #[kT x0] R w:=
 aH [(43,.lp [2,83,187,207] (dj.bl1 R) λXa=> [])] Tryz.func66 Tryz.call66 h
def fR (R:EP)(g:Int)(w:World):Prop:=br (decide (g<10)) (0<=g/\g<=(i64.wrap (g+1))/\(i64.wrap (g+1))<=((hP #[48,49,50,51,52,53,54,55,56,57]).size:Int)/\R (hQ (hX ((hP #[48,49,50,51,52,53,54,55,56,57]).extract (Int.toNat g) (Int.toNat (i64.wrap (g+1)))))) w) ((10:Int)≠0/\callE P fP #[hY (i64.wrap (Int.tdiv g 10))] (λe H=>∃E,e= hQ (hX E)/\(10:Int)≠0/\callE P fP #[hY (Int.tmod g 10)] (λe I=>∃y,e= hQ (hX y)/\((E.size+y.size:Nat):Int)<=i64.max/\R (hQ (hX (E++y))) I) H) w)
theorem fR.sound {R x0 w}(h:fR R x0 w):callE P fP #[hY x0] R w:=
 cC Tryz.func89 Tryz.call89 h
namespace dA
def k1 (R:EP)(Xa:BA->OA->Nat->Nat->OA->Nat->Nat->Int->Int->WP)(b7:BA)(W:OA)(a7 b3:Nat)(b9:BA)(a6:OA)(b6 b5:Nat)(b8 b4:Int)(w:World):Prop:=∃O H,∃I V,(Instr.buildSlice ak 1 #[(0,hX b9)]).run P w= .ok (hT O H I) V/\∃E g,∃y U,(Builtin.append_ #[ak,ak] ak #[hT W a7 b3,hT O H I]).run P V= .ok (hT E g y) U/\Xa b7 E g y a6 b6 b5 b8 (i64.wrap (b4+1)) U
def bl1 (R:EP)(Xa:BA->OA->Nat->Nat->OA->Nat->Nat->Int->Int->WP)(E:BA)(H:OA)(O U:Nat)(I:OA)(V a6:Nat)(W g:Int)(w:World):Prop:=br (decide (g<W)) (0<=g/\g<(V:Int)/\aA I λa1=>∃y,w.cell? (a1.add (Int.toNat g*1))=some (hX y)/\br (!(y.toList==(hP #[]).toList)) (((E.size+y.size:Nat):Int)<=i64.max/\k1 R Xa E H O U (E++y) I V a6 W g w) (k1 R Xa E H O U y I V a6 W g w)) (R (hQ (hT H O U)) w)
def l1 (R:EP)(W:BA)(y:OA)(I O:Nat)(H:OA)(U g:Nat)(V E:Int)(w:World):Prop:=∀X:BA->OA->Nat->Nat->OA->Nat->Nat->Int->Int->WP,(∀W y I O H U g V E w,bl1 R X W y I O H U g V E w->X W y I O H U g V E w)->X W y I O H U g V E w
end dA
def dA (R:EP)(H:BA)(E:OA)(g y:Nat)(w:World):Prop:=dA.l1 R H none 0 0 E g y (g:Int) 0 w
theorem dA.sound {R x0 x1q x1n x1c w}(h:dA R x0 x1q x1n x1c w):callE P kj #[hX x0,hT x1q x1n x1c] R w:=
 aH [(43,.lp [1,103,163,187,207] (dA.bl1 R) λXa=> [(115,.mk [1,103,141,163,187,207] (dA.k1 R Xa))])] Tryz.func90 Tryz.call90 h
namespace di
def bl1 (R:EP)(Xa:OA->BA->OA->Nat->Nat->Int->Int->WP)(E:OA)(y:BA)(e7:OA)(e5 e6:Nat)(U W:Int)(w:World):Prop:=br (decide (W<U)) (callE P cE #[kT E] (λe g1=>∃g,e= hQ (hX g)/\∃b4 b5,∃b6 e4,(Instr.buildSlice au 1 #[(0,(N10.V {a0:=20,a1:=g}))]).run P g1= .ok (hT b4 b5 b6) e4/\callE P fj #[hT e7 e5 e6,.agg #[hY 20,hX (hP #[32]),hX (hP #[]),hY 0,hX (hP #[]),hV false,hT none 0 0,hT none 0 0,hY 0,hY 0]] (λe e9=>∃O I H,e= hQ (hT O I H)/\callE P aS #[kT E,hY 7] (λe a7=>∃b3,e= hQ (hY b3)/\br (b3==0) ((((hP #[32,42]).size+g.size:Nat):Int)<=i64.max/\((((hP #[32,42])++g).size+(hP #[42]).size:Nat):Int)<=i64.max/\((y.size+(((hP #[32,42])++g)++(hP #[42])).size:Nat):Int)<=i64.max/\callE P fj #[hT O I H,(N10.V {a0:=24,q7:=b4,n7:=b5,c7:=b6})] (λe f2=>∃c1 d3 c2,e= hQ (hT c1 d3 c2)/\Xa E (y++(((hP #[32,42])++g)++(hP #[42]))) c1 d3 c2 U (i64.wrap (W+1)) f2) a7) (br (b3==1) ((((hP #[32,42,42]).size+g.size:Nat):Int)<=i64.max/\((((hP #[32,42,42])++g).size+(hP #[42,42]).size:Nat):Int)<=i64.max/\((y.size+(((hP #[32,42,42])++g)++(hP #[42,42])).size:Nat):Int)<=i64.max/\callE P fj #[hT O I H,(N10.V {a0:=25,q7:=b4,n7:=b5,c7:=b6})] (λe f1=>∃d2 d1 c5,e= hQ (hT d2 d1 c5)/\Xa E (y++(((hP #[32,42,42])++g)++(hP #[42,42]))) d2 d1 c5 U (i64.wrap (W+1)) f1) a7) (br (b3==2) ((((hP #[32,96]).size+g.size:Nat):Int)<=i64.max/\((((hP #[32,96])++g).size+(hP #[96]).size:Nat):Int)<=i64.max/\((y.size+(((hP #[32,96])++g)++(hP #[96])).size:Nat):Int)<=i64.max/\callE P fj #[hT O I H,(N10.V {a0:=23,a1:=g})] (λe f4=>∃e2 c9 c4,e= hQ (hT e2 c9 c4)/\Xa E (y++(((hP #[32,96])++g)++(hP #[96]))) e2 c9 c4 U (i64.wrap (W+1)) f4) a7) (br (b3==3) (callE P cE #[kT E] (λe g0=>∃a6,e= hQ (hX a6)/\(((hP #[47]).size+a6.size:Nat):Int)<=i64.max/\(((hP #[32,91]).size+g.size:Nat):Int)<=i64.max/\((((hP #[32,91])++g).size+(hP #[93,40]).size:Nat):Int)<=i64.max/\(((((hP #[32,91])++g)++(hP #[93,40])).size+((hP #[47])++a6).size:Nat):Int)<=i64.max/\((((((hP #[32,91])++g)++(hP #[93,40]))++((hP #[47])++a6)).size+(hP #[41]).size:Nat):Int)<=i64.max/\((y.size+(((((hP #[32,91])++g)++(hP #[93,40]))++((hP #[47])++a6))++(hP #[41])).size:Nat):Int)<=i64.max/\callE P fj #[hT O I H,.agg #[hY 27,hX ((hP #[47])++a6),hX (hP #[]),hY 0,hX (hP #[]),hV false,hT none 0 0,hT b4 b5 b6,hY 0,hY 0]] (λe f5=>∃b9 e0 c3,e= hQ (hT b9 e0 c3)/\Xa E (y++(((((hP #[32,91])++g)++(hP #[93,40]))++((hP #[47])++a6))++(hP #[41]))) b9 e0 c3 U (i64.wrap (W+1)) f5) g0) a7) (br (b3==4) ((((hP #[32,92,42]).size+g.size:Nat):Int)<=i64.max/\((y.size+((hP #[32,92,42])++g).size:Nat):Int)<=i64.max/\(((hP #[42]).size+g.size:Nat):Int)<=i64.max/\callE P fj #[hT O I H,.agg #[hY 20,hX ((hP #[42])++g),hX (hP #[]),hY 0,hX (hP #[]),hV false,hT none 0 0,hT none 0 0,hY 0,hY 0]] (λe f3=>∃d0 e3 c8,e= hQ (hT d0 e3 c8)/\Xa E (y++((hP #[32,92,42])++g)) d0 e3 c8 U (i64.wrap (W+1)) f3) a7) ((((hP #[32]).size+g.size:Nat):Int)<=i64.max/\((y.size+((hP #[32])++g).size:Nat):Int)<=i64.max/\0<=(0:Int)/\0<(b5:Int)/\aA b4 λf6=>ldA10 a7 (f6.add (Int.toNat 0*10)) λf0=>callE P fj #[hT O I H,f0.V] (λe e8=>∃b8 e1 b7,e= hQ (hT b8 e1 b7)/\Xa E (y++((hP #[32])++g)) b8 e1 b7 U (i64.wrap (W+1)) e8) a7)))))) e9) e4) w) (R (hQ (.tuple #[hX y,hT e7 e5 e6])) w)
def l1 (R:EP)(U:OA)(O:BA)(y:OA)(E I:Nat)(H g:Int)(w:World):Prop:=∀X:OA->BA->OA->Nat->Nat->Int->Int->WP,(∀U O y E I H g w,bl1 R X U O y E I H g w->X U O y E I H g w)->X U O y E I H g w
end di
def di (R:EP)(y:OA)(w:World):Prop:=callE P cE #[kT y] (λe a6=>∃g,e= hQ (hX g)/\∃H E,∃I U,(Instr.buildSlice au 1 #[(0,(N10.V {a0:=20,a1:=g}))]).run P a6= .ok (hT H E I) U/\callE P aS #[kT y,hY 3] (λe W=>∃O,e= hQ (hY O)/\di.l1 R y g H E I O 0 W) U) w
theorem di.sound {R x0 w}(h:di R x0 w):callE P eu #[kT x0] R w:=
 aH [(87,.lp [2,81,103,307,327] (di.bl1 R) λXa=> [])] Tryz.func64 Tryz.call64 h
def iL (R:EP)(g:OA)(b3:Int)(w:World):Prop:=tk w λy=>aA g λa2=>aA g λa3=>∃W,y.cell? (a2.add 1)=some (hY W)/\∃b6 V b7,y.cell? a3=some (hT b6 V b7)/\br (decide (W >= (V:Int))) (R (hQ (hY 0)) y) (aA g λb9=>∃a7,y.cell? (b9.add 1)=some (hY a7)/\aA g λa8=>stV y ((a8.add 1).add 0) (hY (i64.wrap (a7+1))) λb8=>tk b8 λE=>aA g λa11=>aA g λa12=>∃O I b4,E.cell? a11=some (hT O I b4)/\∃H,E.cell? (a12.add 1)=some (hY H)/\0<=(i64.wrap (H - 1))/\(i64.wrap (H - 1))<(I:Int)/\aA O λb5=>∃U,E.cell? (b5.add (Int.toNat (i64.wrap (H - 1))*1))=some (.int .u8 U)/\b3≠0/\R (hQ (hY (Int.tmod (i64.wrap U) b3))) E)
theorem iL.sound {R x0 x1 w}(h:iL R x0 x1 w):callE P aS #[kT x0,hY x1] R w:=
 aH [(9,.dr (rpN [0,3,6,12,15,18,10,22,24,27])),(23,.dr (rpN [0,3,6,12,15,18,36,10,22,24,27,31,33,39,42]))] Tryz.func41 Tryz.call41 h
def iK (R:EP)(E:OA)(w:World):Prop:=callE P aS #[kT E,hY 26] (λe O=>∃g,e= hQ (hY g)/\tk O λH=>0<=g/\g<=(i64.wrap (g+1))/\(i64.wrap (g+1))<=((hP #[97,98,99,100,101,102,103,104,105,106,107,108,109,110,111,112,113,114,115,116,117,118,119,120,121,122]).size:Int)/\callE P aS #[kT E,hY 4] (λe I=>∃y,e= hQ (hY y)/\0<=y/\y<=((hP #[111,110,108,121,119,111,114,100,115]).size:Int)/\((((hP #[97,98,99,100,101,102,103,104,105,106,107,108,109,110,111,112,113,114,115,116,117,118,119,120,121,122]).extract (Int.toNat g) (Int.toNat (i64.wrap (g+1)))).size+((hP #[111,110,108,121,119,111,114,100,115]).extract 0 (Int.toNat y)).size:Nat):Int)<=i64.max/\R (hQ (hX (((hP #[97,98,99,100,101,102,103,104,105,106,107,108,109,110,111,112,113,114,115,116,117,118,119,120,121,122]).extract (Int.toNat g) (Int.toNat (i64.wrap (g+1))))++((hP #[111,110,108,121,119,111,114,100,115]).extract 0 (Int.toNat y))))) I) H) w
theorem iK.sound {R x0 w}(h:iK R x0 w):callE P cE #[kT x0] R w:=
 aH [(11,.dr (rpN [0,3,6,9,12,17,18,21,24]))] Tryz.func65 Tryz.call65 h
namespace av
def k4 (R:EP)(Xa:OA->BA->OA->Nat->Nat->Int->Bool->Int->WP)(g:OA)(c8:BA)(c3:OA)(b8 c1:Nat)(c5:Int)(c4:Bool)(b9:Value)(a7:Int)(w:World):Prop:=aA g λb5=>∃E y W,w.cell? (b5.add 9)=some (hT E y W)/\∃I H,∃V b3,(Instr.buildSlice ap 1 #[(0,b9)]).run P w= .ok (hT I H V) b3/\∃a6 U,∃O b4,(Builtin.append_ #[ap,ap] ap #[hT E y W,hT I H V]).run P b3= .ok (hT a6 U O) b4/\aA g λb6=>stV b4 ((b6.add 9).add 0) (hT a6 U O) λc2=>callE P gF #[kT g,hY a7] (λe b7=>e= hQ (.tuple #[])/\Xa g c8 c3 b8 c1 c5 c4 a7 b7) c2
def k10 (R:EP)(Xa:OA->BA->OA->Nat->Nat->Int->Bool->Int->WP)(g:OA)(b9:BA)(b7:OA)(b5 b6:Nat)(c9:Int)(b8:Bool)(c8:Int)(b4:OA)(H:Int)(w:World):Prop:=aA g λc2=>∃W U V,w.cell? (c2.add 9)=some (hT W U V)/\∃a6 I,∃O a7,(Instr.sliceAt ap (hT W U V) none (some (hY (i64.wrap (c8+1)))) none).run P w= .ok (hT a6 I O) a7/\aA g λc1=>stV a7 ((c1.add 9).add 0) (hT a6 I O) λc5=>callE P gF #[kT g,hY H] (λe y=>e= hQ (.tuple #[])/\aA b4 λc3=>∃E,y.cell? c3=some (hX E)/\0<=(0:Int)/\0<(E.size:Int)/\br ((bt E 0)==91) (aA b4 λc4=>∃b3,y.cell? (c4.add 1)=some (hY b3)/\Xa g b9 b7 b5 b6 b3 b8 H y) (Xa g b9 b7 b5 b6 c9 b8 H y)) c5
def k9 (R:EP)(Xa:OA->BA->OA->Nat->Nat->Int->Bool->Int->WP)(y:OA)(d2:BA)(c9:OA)(c4 c5:Nat)(d1:Int)(d0:Bool)(f1 g:Int)(I O:OA)(c8:Int)(w:World):Prop:=callE P dm #[kT y,hY f1] (λe c3=>e= hQ (.tuple #[])/\aA y λe5=>∃a6 b9 W,c3.cell? (e5.add 9)=some (hT a6 b9 W)/\∃b4 b5,∃V c2,(Instr.sliceAt ap (hT a6 b9 W) (some (hY (i64.wrap (g+1)))) none none).run P c3= .ok (hT b4 b5 V) c2/\callE P fg #[kT y,hT none 0 0,hT b4 b5 V] (λe f0=>∃b6 U c1,e= hQ (hT b6 U c1)/\aA O λe3=>stV f0 (e3.add 0) (hT b6 U c1) λE=>aA I λe8=>∃H,E.cell? e8=some (hX H)/\0<=(0:Int)/\0<(H.size:Int)/\br ((bt H 0)==33) (aA y λe9=>∃b3 b7 d3,E.cell? (e9.add 9)=some (hT b3 b7 d3)/\0<=g/\g<(b7:Int)/\aA b3 λe2=>stV E ((e2.add (Int.toNat g*1)).add 0) (.iface lr (kT O)) λe7=>k10 R Xa y d2 c9 c4 c5 d1 d0 g I c8 e7) (aA y λe6=>∃b8 a7 e0,E.cell? (e6.add 9)=some (hT b8 a7 e0)/\0<=g/\g<(a7:Int)/\aA b8 λe1=>stV E ((e1.add (Int.toNat g*1)).add 0) (.iface lm (kT O)) λe4=>k10 R Xa y d2 c9 c4 c5 d1 d0 g I c8 e4)) c2) w
def k8 (R:EP)(Xa:OA->BA->OA->Nat->Nat->Int->Bool->Int->WP)(g:OA)(O:BA)(a7:OA)(W a6:Nat)(b4:Int)(b3:Bool)(U V:Int)(I:OA)(d1:Bool)(w:World):Prop:=br d1 (callE P ej #[kT g,hX O,hY U,kT I] (λe E=>∃y H b5,e= hQ (.tuple #[kT y,hY H,hV b5])/\br b5 (aA g λd3=>∃b6,E.cell? (d3.add 6)=some (hV b6)/\br b6 (aA g λc3=>stV E ((c3.add 6).add 0) (hV true) λd0=>k9 R Xa g O a7 W a6 b4 b3 U V I y H d0) (aA y λc9=>∃b7,E.cell? (c9.add 4)=some (hV b7)/\br b7 (aA g λc5=>stV E ((c5.add 6).add 0) (hV true) λc8=>k9 R Xa g O a7 W a6 b4 b3 U V I y H c8) (aA y λc2=>∃b9,E.cell? (c2.add 1)=some (hX b9)/\callE P mS #[hX b9] (λe d2=>∃b8,e= hQ (hV b8)/\aA g λc4=>stV d2 ((c4.add 6).add 0) (hV b8) λc1=>k9 R Xa g O a7 W a6 b4 b3 U V I y H c1) E))) (False)) w) (False)
def k7 (R:EP)(Xa:OA->BA->OA->Nat->Nat->Int->Bool->Int->WP)(O:OA)(b4:BA)(a7:OA)(g c2:Nat)(I:Int)(b3:Bool)(b5:Int)(c4:Bool)(w:World):Prop:=br c4 (0<=(i64.wrap ((g:Int) - 1))/\(i64.wrap ((g:Int) - 1))<(g:Int)/\aA a7 λc9=>∃y,w.cell? (c9.add (Int.toNat (i64.wrap ((g:Int) - 1))*1))=some (hY y)/\aA O λd0=>∃b6 b7 c3,w.cell? (d0.add 9)=some (hT b6 b7 c3)/\0<=y/\y<(b7:Int)/\aA b6 λc8=>∃(b8:Value),w.cell? (c8.add (Int.toNat y*1))=some b8/\∃E c1,(Instr.typeAssert b8 aC aQ false).run P w= .ok (kT E) c1/\∃U W,∃V H,(Instr.sliceAt nz (hT a7 g c2) none (some (hY (i64.wrap ((g:Int) - 1)))) none).run P c1= .ok (hT U W V) H/\aA E λc5=>∃a6,H.cell? c5=some (hX a6)/\0<=(0:Int)/\0<(a6.size:Int)/\br ((bt a6 0)==33) (k8 R Xa O b4 U W V I b3 b5 y E true H) (aA E λd1=>∃b9,H.cell? (d1.add 1)=some (hY b9)/\k8 R Xa O b4 U W V I b3 b5 y E (decide (I<=b9)) H)) (Xa O b4 a7 g c2 I b3 (i64.wrap (b5+1)) w)
def k5 (R:EP)(Xa:OA->BA->OA->Nat->Nat->Int->Bool->Int->WP)(V:OA)(y:BA)(H:OA)(E I:Nat)(O:Int)(U:Bool)(g:Int)(w:World):Prop:=0<=g/\g<(y.size:Int)/\k7 R Xa V y H E I O U g (((bt y g)==93) && (decide ((E:Int)>0))) w
def k1 (R:EP)(Xa:OA->BA->OA->Nat->Nat->Int->Bool->Int->WP)(g:OA)(H:BA)(W:OA)(U V:Nat)(a7:Int)(a6:Bool)(d0:Int)(b3:Value)(w:World):Prop:=∃c9 O,(do eqGuard .neq aX (.tmp 113) (.const .nilFunc) b3 .nilFunc;binOp .neq aX b3 .nilFunc).run P w= .ok (hV c9) O/\br c9 (cW P (do let d <-Deferred.ofValue b3 #[kT g,hX H,hY d0];invoke d.target d.args) (λe e2=>∃(y:Value),∃b4 I b5,e= hQ (.tuple #[y,hY b4,hY I,hV b5])/\br b5 (callE P dm #[kT g,hY b4] (λe e0=>e= hQ (.tuple #[])/\∃d1 b6 E,(Instr.typeAssert y aC aQ true).run P e0= .ok (.tuple #[kT d1,hV b6]) E/\br b6 (aA g λe1=>∃d3 b9 d2,E.cell? (e1.add 9)=some (hT d3 b9 d2)/\∃b8 c3,∃c4 c5,(Instr.buildSlice nz 1 #[(0,hY (b9:Int))]).run P E= .ok (hT b8 c3 c4) c5/\∃c2 b7,∃c1 c8,(Builtin.append_ #[nz,nz] nz #[hT W U V,hT b8 c3 c4]).run P c5= .ok (hT c2 b7 c1) c8/\k4 R Xa g H c2 b7 c1 a7 a6 y I c8) (k4 R Xa g H W U V a7 a6 y I E)) e2) (False)) O) (k5 R Xa g H W U V a7 a6 d0 O)
def k2 (R:EP)(Xa:OA->BA->OA->Nat->Nat->Int->Bool->Int->WP)(g:OA)(V:BA)(y:OA)(H I:Nat)(U:Int)(W:Bool)(O:Int)(w:World):Prop:=aA g λE=>k1 R Xa g V y H I U W O (.func (.func bI) #[kT (some (E.add 12))] #[]) w
def k6 (R:EP)(Xa:OA->BA->OA->Nat->Nat->Int->Bool->Int->WP)(g:OA)(U:BA)(H:OA)(y E:Nat)(O:Int)(I:Bool)(V:Int)(a6:Value)(W:Int)(c4:Bool)(w:World):Prop:=br c4 (aA g λc5=>∃a7,w.cell? c5=some (kT a7)/\aA a7 λb9=>∃b6,w.cell? (b9.add 9)=some (hV b6)/\br b6 (k1 R Xa g U H y E O I V (.func (.func dO) #[] #[]) w) (k1 R Xa g U H y E O I V a6 w)) (br (W==126) (aA g λc3=>∃b7,w.cell? c3=some (kT b7)/\aA b7 λc2=>∃b3,w.cell? (c2.add 1)=some (hV b3)/\br b3 (k1 R Xa g U H y E O I V (.func (.func dO) #[] #[]) w) (k1 R Xa g U H y E O I V a6 w)) (br (W==10) (k1 R Xa g U H y E O I V (.func (.func jD) #[] #[]) w) (br (W==38) (k1 R Xa g U H y E O I V (.func (.func lD) #[] #[]) w) (br (W==58) (aA g λb8=>∃b5,w.cell? b8=some (kT b5)/\aA b5 λc1=>∃b4,w.cell? (c1.add 6)=some (hV b4)/\br b4 (k1 R Xa g U H y E O I V (.func (.func qM) #[] #[]) w) (k1 R Xa g U H y E O I V a6 w)) (k1 R Xa g U H y E O I V a6 w)))))
def k3 (R:EP)(Xa:OA->BA->OA->Nat->Nat->Int->Bool->Int->WP)(g:OA)(U:BA)(H:OA)(y E:Nat)(O:Int)(I:Bool)(V:Int)(a6:Value)(W:Int)(b6:Bool)(w:World):Prop:=br b6 (k1 R Xa g U H y E O I V (.func (.func dO) #[] #[]) w) (br (W==46) (aA g λb8=>∃a7,w.cell? b8=some (kT a7)/\aA a7 λb9=>∃b4,w.cell? (b9.add 7)=some (hV b4)/\br b4 (k1 R Xa g U H y E O I V (.func (.func tU) #[] #[]) w) (k1 R Xa g U H y E O I V a6 w)) (br (W==45) (aA g λb7=>∃b5,w.cell? b7=some (kT b5)/\aA b5 λc1=>∃b3,w.cell? (c1.add 8)=some (hV b3)/\br b3 (k1 R Xa g U H y E O I V (.func (.func sy) #[] #[]) w) (k1 R Xa g U H y E O I V a6 w)) (br (W==34) (k6 R Xa g U H y E O I V a6 W true w) (k6 R Xa g U H y E O I V a6 W (W==39) w))))
def bl1 (R:EP)(Xa:OA->BA->OA->Nat->Nat->Int->Bool->Int->WP)(g:OA)(y:BA)(O:OA)(H I:Nat)(V:Int)(U:Bool)(E:Int)(w:World):Prop:=br (decide (E<(y.size:Int))) (0<=E/\E<(y.size:Int)/\br ((bt y E)==92) (k1 R Xa g y O H I V U E (.func (.func iU) #[] #[]) w) (br ((bt y E)==96) (br (!U) (aA g λa9=>callE P dM #[kT (some (a9.add 12))] (λe f3=>e= hQ (.tuple #[])/\k2 R Xa g y O H I V true E f3) w) (k2 R Xa g y O H I V U E w)) (br ((bt y E)==60) (k1 R Xa g y O H I V U E (.func (.func jE) #[] #[]) w) (br ((bt y E)==91) (k1 R Xa g y O H I V U E (.func (.func gl) #[] #[]) w) (br ((bt y E)==33) (k1 R Xa g y O H I V U E (.func (.func mj) #[] #[]) w) (br ((bt y E)==95) (k3 R Xa g y O H I V U E .nilFunc (bt y E) true w) (k3 R Xa g y O H I V U E .nilFunc (bt y E) ((bt y E)==42) w))))))) (callE P dm #[kT g,hY (y.size:Int)] (λe g5=>e= hQ (.tuple #[])/\tk g5 λW=>aA g λg1=>aA g λg0=>∃b9 e4 e6,W.cell? (g1.add 9)=some (hT b9 e4 e6)/\∃a7 b3 d1,(∀w,(Instr.sliceAt ap (hT b9 e4 e6) none (some (hY 0)) none).run P w= .ok (hT a7 b3 d1) w)/\∃c9 d0 c2,W.cell? (g0.add 9)=some (hT c9 d0 c2)/\callE P fg #[kT g,hT a7 b3 d1,hT c9 d0 c2] (λe f6=>∃e5 c3 c4,e= hQ (hT e5 c3 c4)/\aA g λg3=>stV f6 ((g3.add 9).add 0) (hT e5 c3 c4) λe9=>aA g λf1=>∃b4 e1 c5,e9.cell? (f1.add 9)=some (hT b4 e1 c5)/\callE P fu #[kT g,hT b4 e1 c5] (λe f0=>∃b8 a6 e2,e= hQ (hT b8 a6 e2)/\aA g λg2=>stV f0 ((g2.add 9).add 0) (hT b8 a6 e2) λe8=>aA g λf2=>∃e0 d2 c1,e8.cell? (f2.add 9)=some (hT e0 d2 c1)/\callE P dS #[kT g,hT e0 d2 c1] (λe f4=>∃d3 b6 c8,e= hQ (hT d3 b6 c8)/\aA g λf5=>stV f4 ((f5.add 9).add 0) (hT d3 b6 c8) λe7=>aA g λg4=>∃b7 b5 e3,e7.cell? (g4.add 9)=some (hT b7 b5 e3)/\R (hQ (hT b7 b5 e3)) e7) e8) e9) W) w)
def l1 (R:EP)(V:OA)(O:BA)(g:OA)(y E:Nat)(I:Int)(U:Bool)(H:Int)(w:World):Prop:=∀X:OA->BA->OA->Nat->Nat->Int->Bool->Int->WP,(∀V O g y E I U H w,bl1 R X V O g y E I U H w->X V O g y E I U H w)->X V O g y E I U H w
end av
def av (R:EP)(g:OA)(U:BA)(w:World):Prop:=callE P ia #[hX U] (λe I=>∃y,e= hQ (hX y)/\aA g λa3=>stV I ((a3.add 7).add 0) (hX y) λO=>aA g λa5=>stV O ((a5.add 9).add 0) (hT none 0 0) λH=>aA g λV=>stV H ((V.add 8).add 0) (hY 0) λE=>av.l1 R g y none 0 0 0 false 0 E) w
theorem av.sound {R x0 x1 w}(h:av R x0 x1 w):callE P fw #[kT x0,hX x1] R w:=
 aH [(2559,.lp [2,21,103,127,140,167] (av.bl1 R) λXa=> [(3541,.mk [2,21,103,127,140,167] (av.k2 R Xa)),(262101,.mk [2,21,103,127,140,167,185,788,1200] (av.k3 R Xa)),(16777173,.mk [2,21,103,127,140,167,185,788,1620] (av.k6 R Xa)),(29,.mk [2,21,103,127,140,167,185] (av.k1 R Xa)),(7597,.mk [2,21,103,127,140,205,247] (av.k4 R Xa)),(1965,.no),(61,.mk [2,21,103,127,140,167] (av.k5 R Xa)),(221,.mk [2,21,103,127,140,167,3300] (av.k7 R Xa)),(8029,.mk [2,21,103,127,140,167,327,342,3980] (av.k8 R Xa)),(225117,.mk [2,21,103,127,140,167,327,342,362,387] (av.k9 R Xa)),(2060125,.mk [2,21,103,127,140,327,342,387] (av.k10 R Xa)),(126813,.no),(16221,.no)]),(6143,.dr (rpN [0,3,6,9,12,21,24,27,16,18,31,35,36,39,44]))] Tryz.func82 Tryz.call82 h
namespace aE
def k8 (R:EP)(Xa:OA->BA->Int->Int->Int->Int->WP)(E y:Int)(H:BA)(w:World):Prop:=box w #[hX H] AO λI g=>R (hQ (.tuple #[.iface oX (kT (kE I)),hY E,hY y,hV true])) g
def k7 (R:EP)(Xa:OA->BA->Int->Int->Int->Int->WP)(y H:Int)(E:BA)(g:Bool)(w:World):Prop:=br g (False) (k8 R Xa y H E w)
def k6 (R:EP)(Xa:OA->BA->Int->Int->Int->Int->WP)(b3:OA)(W:BA)(H V:Int)(y U:Int)(E a6:Int)(w:World):Prop:=br (a6==y) (0<=(i64.wrap (H+y))/\(i64.wrap (H+y))<=E/\E<=(W.size:Int)/\callE P kY #[hX (W.extract (Int.toNat (i64.wrap (H+y))) (Int.toNat E)),hX (hP #[10]),hX (hP #[32])] (λe O=>∃g,e= hQ (hX g)/\((decide ((g.size:Int) >= 2))=true->0<=(0:Int)/\0<(g.size:Int))/\(((decide ((g.size:Int) >= 2)) && ((bt g 0)==32))=true->0<=(i64.wrap ((g.size:Int) - 1))/\(i64.wrap ((g.size:Int) - 1))<(g.size:Int))/\br (((decide ((g.size:Int) >= 2)) && ((bt g 0)==32)) && ((bt g (i64.wrap ((g.size:Int) - 1)))==32)) (callE P yf #[hX g] (λe a7=>∃I,e= hQ (hX I)/\k7 R Xa V U g (!(I.toList==(hP #[]).toList)) a7) O) (k7 R Xa V U g false O)) w) (False)
def k5 (R:EP)(Xa:OA->BA->Int->Int->Int->Int->WP)(E:OA)(b3:BA)(a6 U:Int)(O I:Int)(y g:Int)(H:Bool)(w:World):Prop:=br H (aA E λW=>0<=(i64.wrap (g - 1))/\(i64.wrap (g - 1))<(80:Int)/\stV w ((W.add (Int.toNat (i64.wrap (g - 1))*1)).add 0) (hY y) λV=>k6 R Xa E b3 a6 U O I y g V) (False)
def k4 (R:EP)(Xa:OA->BA->Int->Int->Int->Int->WP)(H:OA)(V:BA)(U O:Int)(I g y:Int)(w:World):Prop:=aA H λa5=>∃E,w.cell? (a5.add 80)=some (hV E)/\k5 R Xa H V U O I g y (i64.wrap (g - y)) ((!E) && (decide ((i64.wrap (g - y))<80))) w
def bl3 (R:EP)(Xa:OA->BA->Int->Int->Int->Int->WP)(V:OA->BA->Int->Int->Int->Int->Int->WP)(U:OA)(y:BA)(O I:Int)(H g E:Int)(w:World):Prop:=((decide (g<(y.size:Int)))=true->0<=g/\g<(y.size:Int))/\br ((decide (g<(y.size:Int))) && ((bt y g)==96)) (V U y O I H (i64.wrap (g+1)) E w) (k4 R Xa U y O I H g E w)
def l3 (R:EP)(Xa:OA->BA->Int->Int->Int->Int->WP)(O:OA)(U:BA)(I H:Int)(y g E:Int)(w:World):Prop:=∀X:OA->BA->Int->Int->Int->Int->Int->WP,(∀O U I H y g E w,bl3 R Xa X O U I H y g E w->X O U I H y g E w)->X O U I H y g E w
def bl2 (R:EP)(Xa:OA->BA->Int->Int->Int->Int->WP)(O:OA)(y:BA)(I H:Int)(E g:Int)(w:World):Prop:=br (decide (g<(y.size:Int))) (0<=g/\g<(y.size:Int)/\br ((bt y g) !=96) (Xa O y I H E (i64.wrap (g+1)) w) (l3 R Xa O y I H E g g w)) (False)
def l2 (R:EP)(I:OA)(O:BA)(H E:Int)(y g:Int)(w:World):Prop:=∀X:OA->BA->Int->Int->Int->Int->WP,(∀I O H E y g w,bl2 R X I O H E y g w->X I O H E y g w)->X I O H E y g w
def k3 (R:EP)(H:OA)(I:BA)(y E g:Int)(w:World):Prop:=l2 R H I y E g (i64.wrap (y+g)) w
def k1 (R:EP)(y:OA)(U:BA)(E H g:Int)(w:World):Prop:=br (decide (g>80)) (False) (aA y λa1=>∃I,w.cell? (a1.add 80)=some (hV I)/\br I (aA y λa3=>0<=(i64.wrap (g - 1))/\(i64.wrap (g - 1))<(80:Int)/\∃O,w.cell? (a3.add (Int.toNat (i64.wrap (g - 1))*1))=some (hY O)/\br (decide (O<(i64.wrap (E+g)))) (False) (k3 R y U E H g w)) (k3 R y U E H g w))
def bl1 (R:EP)(O:OA->BA->Int->Int->Int->WP)(I:OA)(E:BA)(y H g:Int)(w:World):Prop:=((decide ((i64.wrap (y+g))<(E.size:Int)))=true->0<=(i64.wrap (y+g))/\(i64.wrap (y+g))<(E.size:Int))/\br ((decide ((i64.wrap (y+g))<(E.size:Int))) && ((bt E (i64.wrap (y+g)))==96)) (False) (k1 R I E y H g w)
def l1 (R:EP)(H:OA)(I:BA)(E y g:Int)(w:World):Prop:=∀X:OA->BA->Int->Int->Int->WP,(∀H I E y g w,bl1 R X H I E y g w->X H I E y g w)->X H I E y g w
end aE
def aE (R:EP)(y H:OA)(E:BA)(g:Int)(w:World):Prop:=aE.l1 R y E g g 1 w
theorem aE.sound {R x0 x1 x2 x3 w}(h:aE R x0 x1 x2 x3 w):callE P bI #[kT x0,kT x1,hX x2,hY x3] R w:=
 aH [(77,.lp [2,41,67,247,267] (aE.bl1 R) λy=> [(10,.no)]),(61,.mk [2,41,67,247,267] (aE.k1 R)),(349,.no),(125,.mk [2,41,67,247,267] (aE.k3 R)),(701,.lp [2,41,67,247,267,287] (aE.bl2 R) λXa=> [(14,.no),(77,.lp [2,41,67,247,267,287,307] (aE.bl3 R Xa) λg=> []),(61,.mk [2,41,67,247,267,287,307] (aE.k4 R Xa)),(445,.mk [2,41,67,247,267,287,307,327,1860] (aE.k5 R Xa)),(957,.no),(253,.mk [2,41,67,247,267,287,307,327] (aE.k6 R Xa)),(14077,.mk [247,287,341,2640] (aE.k7 R Xa)),(22269,.no),(7933,.mk [247,287,341] (aE.k8 R Xa)),(1021,.no)]),(1021,.no)] Tryz.func111 Tryz.call111 h
def f8 (R:EP)(n0:OA)(w:World):Prop:=aA n0 λa1=>stV w (a1.add 0) (hY 0) λm3=>stV m3 (a1.add 1) (hY 0) λm4=>stV m4 (a1.add 2) (hY 0) λm2=>stV m2 (a1.add 3) (hY 0) λm5=>stV m5 (a1.add 4) (hY 0) λm6=>stV m6 (a1.add 5) (hY 0) λm1=>stV m1 (a1.add 6) (hY 0) λn1=>stV n1 (a1.add 7) (hY 0) λm8=>stV m8 (a1.add 8) (hY 0) λy=>stV y (a1.add 9) (hY 0) λg6=>stV g6 (a1.add 10) (hY 0) λe0=>stV e0 (a1.add 11) (hY 0) λc3=>stV c3 (a1.add 12) (hY 0) λi1=>stV i1 (a1.add 13) (hY 0) λf0=>stV f0 (a1.add 14) (hY 0) λg5=>stV g5 (a1.add 15) (hY 0) λf1=>stV f1 (a1.add 16) (hY 0) λe3=>stV e3 (a1.add 17) (hY 0) λe9=>stV e9 (a1.add 18) (hY 0) λe6=>stV e6 (a1.add 19) (hY 0) λb3=>stV b3 (a1.add 20) (hY 0) λb9=>stV b9 (a1.add 21) (hY 0) λb8=>stV b8 (a1.add 22) (hY 0) λb4=>stV b4 (a1.add 23) (hY 0) λH=>stV H (a1.add 24) (hY 0) λi2=>stV i2 (a1.add 25) (hY 0) λf5=>stV f5 (a1.add 26) (hY 0) λc5=>stV c5 (a1.add 27) (hY 0) λg1=>stV g1 (a1.add 28) (hY 0) λc2=>stV c2 (a1.add 29) (hY 0) λk0=>stV k0 (a1.add 30) (hY 0) λc9=>stV c9 (a1.add 31) (hY 0) λg7=>stV g7 (a1.add 32) (hY 0) λi3=>stV i3 (a1.add 33) (hY 0) λf2=>stV f2 (a1.add 34) (hY 0) λj1=>stV j1 (a1.add 35) (hY 0) λe1=>stV e1 (a1.add 36) (hY 0) λd0=>stV d0 (a1.add 37) (hY 0) λd3=>stV d3 (a1.add 38) (hY 0) λb5=>stV b5 (a1.add 39) (hY 0) λf4=>stV f4 (a1.add 40) (hY 0) λg2=>stV g2 (a1.add 41) (hY 0) λh8=>stV h8 (a1.add 42) (hY 0) λh2=>stV h2 (a1.add 43) (hY 0) λf6=>stV f6 (a1.add 44) (hY 0) λd2=>stV d2 (a1.add 45) (hY 0) λh3=>stV h3 (a1.add 46) (hY 0) λi0=>stV i0 (a1.add 47) (hY 0) λc4=>stV c4 (a1.add 48) (hY 0) λi8=>stV i8 (a1.add 49) (hY 0) λd1=>stV d1 (a1.add 50) (hY 0) λh1=>stV h1 (a1.add 51) (hY 0) λl5=>stV l5 (a1.add 52) (hY 0) λg=>stV g (a1.add 53) (hY 0) λe4=>stV e4 (a1.add 54) (hY 0) λe5=>stV e5 (a1.add 55) (hY 0) λf3=>stV f3 (a1.add 56) (hY 0) λc1=>stV c1 (a1.add 57) (hY 0) λU=>stV U (a1.add 58) (hY 0) λV=>stV V (a1.add 59) (hY 0) λh5=>stV h5 (a1.add 60) (hY 0) λj0=>stV j0 (a1.add 61) (hY 0) λc8=>stV c8 (a1.add 62) (hY 0) λg3=>stV g3 (a1.add 63) (hY 0) λh6=>stV h6 (a1.add 64) (hY 0) λh0=>stV h0 (a1.add 65) (hY 0) λe7=>stV e7 (a1.add 66) (hY 0) λb6=>stV b6 (a1.add 67) (hY 0) λe8=>stV e8 (a1.add 68) (hY 0) λe2=>stV e2 (a1.add 69) (hY 0) λh9=>stV h9 (a1.add 70) (hY 0) λa7=>stV a7 (a1.add 71) (hY 0) λO=>stV O (a1.add 72) (hY 0) λa6=>stV a6 (a1.add 73) (hY 0) λg4=>stV g4 (a1.add 74) (hY 0) λg0=>stV g0 (a1.add 75) (hY 0) λI=>stV I (a1.add 76) (hY 0) λb7=>stV b7 (a1.add 77) (hY 0) λh7=>stV h7 (a1.add 78) (hY 0) λE=>stV E (a1.add 79) (hY 0) λW=>stV W (a1.add 80) (hV false) λh4=>R (hQ (.tuple #[])) h4
theorem f8.sound {R x0 w}(h:f8 R x0 w):callE P dM #[kT x0] R w:=
 cC Tryz.func110 Tryz.call110 h
namespace eP
def bl1 (R:EP)(Xa:BA->BA->BA->OA->Nat->Nat->WP)(V b4 b5:BA)(a6:OA)(W a7:Nat)(w:World):Prop:=callE P lA #[hX V,hX b4] (λe b3=>∃I,e= hQ (hY I)/\br (decide (I<0)) (∃y g,∃E U,(Builtin.append_ #[bK,aq] bK #[hT a6 W a7,hX V]).run P b3= .ok (hT y g E) U/\∃H O,(convert bK aq (hT y g E)).run P U= .ok (hX H) O/\R (hQ (hX H)) O) (False)) w
def l1 (R:EP)(I H O:BA)(y:OA)(g E:Nat)(w:World):Prop:=∀X:BA->BA->BA->OA->Nat->Nat->WP,(∀I H O y g E w,bl1 R X I H O y g E w->X I H O y g E w)->X I H O y g E w
end eP
def eP (R:EP)(y g E:BA)(w:World):Prop:=eP.l1 R y g E none 0 0 w
theorem eP.sound {R x0 x1 x2 w}(h:eP R x0 x1 x2 w):callE P kY #[hX x0,hX x1,hX x2] R w:=
 aH [(11,.lp [1,21,41,143] (eP.bl1 R) λXa=> [(58,.no)])] Tryz.func77 Tryz.call77 h
def jK (R:EP)(E:OA)(y:BA)(g:Int)(w:World):Prop:=((!(decide (g >= (y.size:Int))))=true->0<=g/\g<(y.size:Int))/\br ((decide (g >= (y.size:Int)))||((bt y g) !=91)) (R (hQ (.tuple #[hX (hP #[]),hY 0,hV false])) w) (False)
theorem jK.sound {R x0 x1 x2 w}(h:jK R x0 x1 x2 w):callE P mi #[kT x0,hX x1,hY x2] R w:=
 aH [(29,.no),(7,.no)] Tryz.func174 Tryz.call174 h
def jo (R:EP)(a6:Value)(y:BA)(w:World):Prop:=callE P kg #[hX y,hY 0] (λe W=>∃I,e= hQ (hY I)/\∃H O,(Instr.typeAssert a6 lM ah false).run P W= .ok (kT H) O/\callE P mi #[kT H,hX y,hY I] (λe V=>∃U g E,e= hQ (.tuple #[hX U,hY g,hV E])/\((!((!E)||(decide (g >= (y.size:Int)))))=true->0<=g/\g<(y.size:Int))/\br (((!E)||(decide (g >= (y.size:Int))))||((bt y g) !=58)) (R (hQ (.tuple #[hY 0,hV false])) V) (False)) O) w
theorem jo.sound {R x0 x1 w}(h:jo R x0 x1 w):callE P gG #[x0,hX x1] R w:=
 aH [(119,.no),(31,.no)] Tryz.func425 Tryz.call425 h
def nh (R:EP)(g:Int)(w:World):Prop:=R (hQ (hV ((((decide (65<=g)) && (decide (g<=70)))||((decide (97<=g)) && (decide (g<=102))))||((decide (48<=g)) && (decide (g<=57)))))) w
theorem nh.sound {R x0 w}(h:nh R x0 w):callE P kO #[.int .u8 x0] R w:=
 cC Tryz.func165 Tryz.call165 h
namespace gr
def bl1 (R:EP)(Xa:BA->Int->WP)(y:BA)(g:Int)(w:World):Prop:=br (decide (g<(y.size:Int))) (0<=g/\g<(y.size:Int)/\br ((bt y g)==37) (((!(decide ((i64.wrap (g+2)) >= (y.size:Int))))=true->0<=(i64.wrap (g+1))/\(i64.wrap (g+1))<(y.size:Int))/\br (decide ((i64.wrap (g+2)) >= (y.size:Int))) ((false=true->0<=(i64.wrap (g+2))/\(i64.wrap (g+2))<(y.size:Int))/\R (hQ (hV true)) w) (callE P kO #[.int .u8 (bt y (i64.wrap (g+1)))] (λe I=>∃E,e= hQ (hV E)/\((!(!E))=true->0<=(i64.wrap (g+2))/\(i64.wrap (g+2))<(y.size:Int))/\br (!E) (R (hQ (hV true)) I) (callE P kO #[.int .u8 (bt y (i64.wrap (g+2)))] (λe O=>∃H,e= hQ (hV H)/\br (!H) (R (hQ (hV true)) O) (Xa y (i64.wrap (g+1)) O)) I)) w)) (Xa y (i64.wrap (g+1)) w)) (R (hQ (hV false)) w)
def l1 (R:EP)(y:BA)(g:Int)(w:World):Prop:=∀X:BA->Int->WP,(∀y g w,bl1 R X y g w->X y g w)->X y g w
end gr
def gr (R:EP)(g:BA)(w:World):Prop:=gr.l1 R g 0 w
theorem gr.sound {R x0 w}(h:gr R x0 w):callE P mS #[hX x0] R w:=
 aH [(21,.lp [1,67] (gr.bl1 R) λXa=> [])] Tryz.func124 Tryz.call124 h
def iY (R:EP)(H:OA)(y:BA)(g:Int)(w:World):Prop:=0<=g/\g<=(i64.wrap (g+1))/\(i64.wrap (g+1))<=(y.size:Int)/\box w #[hX (y.extract (Int.toNat g) (Int.toNat (i64.wrap (g+1)))),hY (i64.wrap (g+1))] qw λb1 E=>R (hQ (.tuple #[.iface aQ (kT (kE b1)),hY g,hY (i64.wrap (g+1)),hV true])) E
theorem iY.sound {R x0 x1 x2 w}(h:iY R x0 x1 x2 w):callE P gl #[kT x0,hX x1,hY x2] R w:=
 cC Tryz.func113 Tryz.call113 h
def eQ (R:EP)(O H:OA)(I E:Nat)(w:World):Prop:=aA O λa1=>∃g,w.cell? a1=some (kT g)/\aA g λa3=>∃y,w.cell? (a3.add 3)=some (hV y)/\br (!y) (R (hQ (hT H I E)) w) (False)
theorem eQ.sound {R x0 x1q x1n x1c w}(h:eQ R x0 x1q x1n x1c w):callE P dS #[kT x0,hT x1q x1n x1c] R w:=
 aH [(29,.no),(87,.no),(175,.no),(239,.no)] Tryz.func127 Tryz.call127 h
namespace bG
def k2 (R:EP)(Xa:OA->Nat->Nat->OA->Nat->Nat->Int->Int->WP)(W:OA)(y b7:Nat)(a6:OA)(b5 b6:Nat)(g:Int)(w:World):Prop:=br (decide (g >= (y:Int))) (R (hQ (hT a6 b5 b6)) w) (0<=g/\g<(y:Int)/\aA W λb8=>∃(b3:Value),w.cell? (b8.add (Int.toNat g*1))=some b3/\∃I E,∃U a7,(Instr.buildSlice ap 1 #[(0,b3)]).run P w= .ok (hT I E U) a7/\∃O V,∃H b4,(Builtin.append_ #[ap,ap] ap #[hT a6 b5 b6,hT I E U]).run P a7= .ok (hT O V H) b4/\Xa W y b7 O V H (i64.wrap (g+1)) (i64.wrap (g+1)) b4)
def k1 (R:EP)(Xa:OA->Nat->Nat->OA->Nat->Nat->Int->Int->WP)(E:OA)(H y:Nat)(c2:OA)(b9 c1:Nat)(c3 g:Int)(w:World):Prop:=br (decide (c3<g)) (∃a7 b3,∃b6 b4,(Instr.sliceAt ap (hT E H y) (some (hY c3)) (some (hY g)) none).run P w= .ok (hT a7 b3 b6) b4/\callE P l0 #[hT a7 b3 b6] (λe c4=>∃b5,e= hQ (kT b5)/\∃a6 W,∃U b8,(Instr.buildSlice ap 1 #[(0,.iface bH (kT b5))]).run P c4= .ok (hT a6 W U) b8/\∃I V,∃O b7,(Builtin.append_ #[ap,ap] ap #[hT c2 b9 c1,hT a6 W U]).run P b8= .ok (hT I V O) b7/\k2 R Xa E H y I V O g b7) b4) (k2 R Xa E H y c2 b9 c1 g w)
def bl1 (R:EP)(Xa:OA->Nat->Nat->OA->Nat->Nat->Int->Int->WP)(E:OA)(y H:Nat)(I:OA)(O U:Nat)(V g:Int)(w:World):Prop:=br (decide (g<(y:Int))) (0<=g/\g<(y:Int)/\aA E λa3=>∃(b3:Value),w.cell? (a3.add (Int.toNat g*1))=some b3/\callE P kf #[b3] (λe b4=>∃W,e= hQ (kT W)/\∃a7 a6,(do eqGuard .neq bH (.tmp 21) (.const (kT none)) (kT W) (kT none);binOp .neq bH (kT W) (kT none)).run P b4= .ok (hV a7) a6/\br a7 (Xa E y H I O U V (i64.wrap (g+1)) a6) (k1 R Xa E y H I O U V g a6)) w) (k1 R Xa E y H I O U V g w)
def l1 (R:EP)(y:OA)(O g:Nat)(E:OA)(H I:Nat)(U V:Int)(w:World):Prop:=∀X:OA->Nat->Nat->OA->Nat->Nat->Int->Int->WP,(∀y O g E H I U V w,bl1 R X y O g E H I U V w->X y O g E H I U V w)->X y O g E H I U V w
end bG
def bG (R:EP)(V E:OA)(O g:Nat)(w:World):Prop:=∃I y,∃H U,(Instr.sliceAt ap (hT E O g) none (some (hY 0)) none).run P w= .ok (hT I y H) U/\bG.l1 R E O g I y H 0 0 U
theorem bG.sound {R x0 x1q x1n x1c w}(h:bG R x0 x1q x1n x1c w):callE P fu #[kT x0,hT x1q x1n x1c] R w:=
 aH [(87,.lp [23,103,127,147] (bG.bl1 R) λXa=> [(12,.mk [23,103,127,147] (bG.k1 R Xa)),(28,.mk [23,103,147] (bG.k2 R Xa))])] Tryz.func126 Tryz.call126 h
namespace fC
def bl1 (R:EP)(Xa:OA->Nat->Nat->OA->Nat->Nat->Int->Int->WP)(a6:OA)(b5 a7:Nat)(E:OA)(H c3:Nat)(b4 g:Int)(w:World):Prop:=br (decide (g<b4)) (0<=g/\g<(H:Int)/\aA E λa5=>∃(b9:Value),w.cell? (a5.add (Int.toNat g*1))=some b9/\callE P kf #[b9] (λe c2=>∃c1,e= hQ (kT c1)/\aA c1 λa9=>∃b8,c2.cell? a9=some (hX b8)/\∃W O,∃I b3,(Instr.buildSlice ak 1 #[(0,hX b8)]).run P c2= .ok (hT W O I) b3/\∃V U,∃y b6,(Builtin.append_ #[ak,ak] ak #[hT a6 b5 a7,hT W O I]).run P b3= .ok (hT V U y) b6/\Xa V U y E H c3 b4 (i64.wrap (g+1)) b6) w) (callE P fO #[hT a6 b5 a7,hX (hP #[])] (λe c8=>∃b7,e= hQ (hX b7)/\box c8 #[hX b7] nA λc5 c4=>R (hQ (kT (kE c5))) c4) w)
def l1 (R:EP)(O:OA)(V H:Nat)(E:OA)(y g:Nat)(I U:Int)(w:World):Prop:=∀X:OA->Nat->Nat->OA->Nat->Nat->Int->Int->WP,(∀O V H E y g I U w,bl1 R X O V H E y g I U w->X O V H E y g I U w)->X O V H E y g I U w
end fC
def fC (R:EP)(y:OA)(g I:Nat)(w:World):Prop:=br ((g:Int)==1) (0<=(0:Int)/\0<(g:Int)/\aA y λa1=>∃(E:Value),w.cell? (a1.add (Int.toNat 0*1))=some E/\callE P kf #[E] (λe O=>∃H,e= hQ (kT H)/\R (hQ (kT H)) O) w) (fC.l1 R none 0 0 y g I (g:Int) 0 w)
theorem fC.sound {R x0q x0n x0c w}(h:fC R x0q x0n x0c w):callE P l0 #[hT x0q x0n x0c] R w:=
 aH [(87,.lp [63,263,287,307] (fC.bl1 R) λXa=> [])] Tryz.func180 Tryz.call180 h
def px (R:EP)(H:Value)(w:World):Prop:=∃a6 O g,(Instr.typeAssert H aC bH true).run P w= .ok (.tuple #[kT a6,hV O]) g/\br O (R (hQ (kT a6)) g) (∃V I y,(Instr.typeAssert H aC aT true).run P g= .ok (.tuple #[kT V,hV I]) y/\br I (aA V λa5=>R (hQ (kT (some a5))) y) (∃W U E,(Instr.typeAssert H aC aQ true).run P y= .ok (.tuple #[kT W,hV U]) E/\br U (aA W λa8=>R (hQ (kT (some a8))) E) (R (hQ (kT none)) E)))
theorem px.sound {R x0 w}(h:px R x0 w):callE P kf #[x0] R w:=
 cC Tryz.func138 Tryz.call138 h
namespace aw
def k4 (R:EP)(Xa:OA->Nat->Nat->Nat->Nat->Value->Value->Int->WP)(f3:OA)(f1 f2:Nat)(g f6:Nat)(g1 g0:Value)(f4:Int)(y f5:OA)(w:World):Prop:=aA y λg5=>∃e7,w.cell? (g5.add 1)=some (hV e7)/\br e7 (∃g2 b7 g3,w.cell? (hZ g 0)=some (hT g2 b7 g3)/\aA y λh2=>stV w ((h2.add 3).add 0) (hY (b7:Int)) λe8=>∃b5 b8 e0,e8.cell? (hZ g 0)=some (hT b5 b8 e0)/\∃a6 O,∃c8 e4,(Instr.buildSlice ap 1 #[(0,.iface aT (kT y))]).run P e8= .ok (hT a6 O c8) e4/\∃e1 c1,∃a7 f0,(Builtin.append_ #[ap,ap] ap #[hT b5 b8 e0,hT a6 O c8]).run P e4= .ok (hT e1 c1 a7) f0/\stV f0 (hZ g 0) (hT e1 c1 a7) λe9=>aA f5 λg7=>∃c9 b6 I,e9.cell? g7=some (hT c9 b6 I)/\∃U d3,∃b9 e5,(Instr.buildSlice cH 1 #[(0,kT y)]).run P e9= .ok (hT U d3 b9) e5/\∃d1 d2,∃c3 e6,(Builtin.append_ #[cH,cH] cH #[hT c9 b6 I,hT U d3 b9]).run P e5= .ok (hT d1 d2 c3) e6/\aA f5 λh0=>stV e6 (h0.add 0) (hT d1 d2 c3) λg6=>Xa f3 f1 f2 g f6 g1 g0 (i64.wrap (f4+1)) g6) (tk w λH=>aA y λh1=>∃V b3 e2,H.cell? (hZ g 0)=some (hT V b3 e2)/\∃W c4,∃d0 E,(Instr.buildSlice ap 1 #[(0,.iface bH (kT (some h1)))]).run P H= .ok (hT W c4 d0) E/\SameC H E (hZ g 0) 1/\∃c2 c5,∃b4 e3,(Builtin.append_ #[ap,ap] ap #[hT V b3 e2,hT W c4 d0]).run P E= .ok (hT c2 c5 b4) e3/\stV e3 (hZ g 0) (hT c2 c5 b4) λg4=>Xa f3 f1 f2 g f6 g1 g0 (i64.wrap (f4+1)) g4)
def k7 (R:EP)(Xa:OA->Nat->Nat->Nat->Nat->Value->Value->Int->WP)(e5:OA->Nat->Nat->Nat->Nat->Value->Value->Int->OA->OA->WP)(f0:OA->Nat->Nat->Nat->Nat->Value->Value->Int->OA->OA->Int->WP)(d3:OA)(d0 d1:Nat)(g e3:Nat)(e4 E:Value)(e2:Int)(e1 d2:OA)(e8:Int)(e9:Bool)(e0:OA)(w:World):Prop:=cW P (do let d <-Deferred.ofValue E #[];invoke d.target d.args) (λe y=>e= hQ (.tuple #[])/\br e9 (False) (br (e8==2) (∃O U H,y.cell? (hZ g 0)=some (hT O U H)/\∃b8 W,∃b6 c9,(Instr.buildSlice ap 1 #[(0,.iface fo (kT e0))]).run P y= .ok (hT b8 W b6) c9/\∃b3 b4,∃b5 c5,(Builtin.append_ #[ap,ap] ap #[hT O U H,hT b8 W b6]).run P c9= .ok (hT b3 b4 b5) c5/\stV c5 (hZ g 0) (hT b3 b4 b5) λe6=>e5 d3 d0 d1 g e3 e4 E e2 e1 d2 e6) (∃V I c3,y.cell? (hZ g 0)=some (hT V I c3)/\∃b9 c1,∃a6 c8,(Instr.buildSlice ap 1 #[(0,.iface iR (kT e0))]).run P y= .ok (hT b9 c1 a6) c8/\∃c2 b7,∃a7 c4,(Builtin.append_ #[ap,ap] ap #[hT V I c3,hT b9 c1 a6]).run P c8= .ok (hT c2 b7 a7) c4/\stV c4 (hZ g 0) (hT c2 b7 a7) λe7=>e5 d3 d0 d1 g e3 e4 E e2 e1 d2 e7))) w
def k2 (R:EP)(Xa:OA->Nat->Nat->Nat->Nat->Value->Value->Int->WP)(H:OA)(O U:Nat)(a7 b3:Nat)(W a6:Value)(V:Int)(y I:OA)(w:World):Prop:=aA y λE=>∃g,w.cell? E=some (hX g)/\br (g.toList==(hP #[34]).toList) (False) (k4 R Xa H O U a7 b3 W a6 V y I w)
def k6 (R:EP)(Xa:OA->Nat->Nat->Nat->Nat->Value->Value->Int->WP)(g6:OA->Nat->Nat->Nat->Nat->Value->Value->Int->OA->OA->WP)(g4:OA->Nat->Nat->Nat->Nat->Value->Value->Int->OA->OA->Int->WP)(g0:OA)(f4 f6:Nat)(E g2:Nat)(g5 g3:Value)(g1:Int)(H f5 y:OA)(g:Int)(w:World):Prop:=aA H λh2=>∃U,w.cell? h2=some (hX U)/\0<=(0:Int)/\0<(U.size:Int)/\tk w λI=>aA H λe8=>aA y λh8=>∃b5,I.cell? e8=some (hX b5)/\0<=g/\g<=(b5.size:Int)/\∃b8 c4 e5,I.cell? (hZ E 0)=some (hT b8 c4 e5)/\∃e9,I.cell? (h8.add 3)=some (hY e9)/\∃d0 e0 d2,(∀w,(Instr.sliceAt ap (hT b8 c4 e5) (some (hY (i64.wrap (e9+1)))) none none).run P w= .ok (hT d0 e0 d2) w)/\∃e1 c1,∃d1 b3,(Builtin.append_ #[ap,ap] ap #[hT none 0 0,hT d0 e0 d2]).run P I= .ok (hT e1 c1 d1) b3/\SameC I b3 (e8) 1/\box b3 #[hX (b5.extract 0 (Int.toNat g)),hT e1 c1 d1] i6 λf2 h7=>tk h7 λa7=>aA y λh9=>aA y λg7=>∃b4,a7.cell? h9=some (hX b4)/\∃O,a7.cell? g7=some (hX O)/\0<=(i64.wrap ((O.size:Int) - g))/\(i64.wrap ((O.size:Int) - g))<=(b4.size:Int)/\aA y λh1=>stV a7 (h1.add 0) (hX (b4.extract 0 (Int.toNat (i64.wrap ((O.size:Int) - g))))) λf3=>aA H λh5=>∃V,f3.cell? h5=some (hX V)/\0<=g/\g<=(V.size:Int)/\aA H λh0=>stV f3 (h0.add 0) (hX (V.extract (Int.toNat g) V.size)) λb6=>aA y λh4=>∃e7,b6.cell? h4=some (hX e7)/\br (e7.toList==(hP #[]).toList) (tk b6 λa6=>aA y λi0=>∃c2 e2 c8,a6.cell? (hZ E 0)=some (hT c2 e2 c8)/\∃f0,a6.cell? (i0.add 3)=some (hY f0)/\∃c5 c3 c9,(∀w,(Instr.sliceAt ap (hT c2 e2 c8) none (some (hY f0)) none).run P w= .ok (hT c5 c3 c9) w)/\stV a6 (hZ E 0) (hT c5 c3 c9) λi1=>k7 R Xa g6 g4 g0 f4 f6 E g2 g5 g3 g1 H f5 g ((bt U 0)==126) (kE f2) i1) (tk b6 λW=>aA y λh3=>∃e3 e6 e4,W.cell? (hZ E 0)=some (hT e3 e6 e4)/\∃f1,W.cell? (h3.add 3)=some (hY f1)/\∃d3 b9 b7,(∀w,(Instr.sliceAt ap (hT e3 e6 e4) none (some (hY (i64.wrap (f1+1)))) none).run P w= .ok (hT d3 b9 b7) w)/\stV W (hZ E 0) (hT d3 b9 b7) λh6=>k7 R Xa g6 g4 g0 f4 f6 E g2 g5 g3 g1 H f5 g ((bt U 0)==126) (kE f2) h6)
def k1 (R:EP)(Xa:OA->Nat->Nat->Nat->Nat->Value->Value->Int->WP)(W:OA)(a6 a7:Nat)(b5 I:Nat)(H b4:Value)(b3:Int)(y:OA)(w:World):Prop:=aA y λb8=>∃U,w.cell? b8=some (hX U)/\br (!(U.toList==(hP #[]).toList)) (aA y λb6=>∃E,w.cell? b6=some (hX E)/\0<=(0:Int)/\0<(E.size:Int)/\cW P (do let d <-Deferred.ofValue H #[.int .u8 (bt E 0)];invoke d.target d.args) (λe V=>∃g,e= hQ (hY g)/\0<=g/\g<(5:Int)/\aA y λb7=>∃O,V.cell? b7=some (hX O)/\br (O.toList==(hP #[39]).toList) (False) (k2 R Xa W a6 a7 b5 I H b4 b3 y (some (((hZ I 0):Addr).add (Int.toNat g*1))) V)) w) (Xa W a6 a7 b5 I H b4 (i64.wrap (b3+1)) w)
def k5 (R:EP)(Xa:OA->Nat->Nat->Nat->Nat->Value->Value->Int->WP)(b6:OA->Nat->Nat->Nat->Nat->Value->Value->Int->OA->OA->WP)(b4:OA->Nat->Nat->Nat->Nat->Value->Value->Int->OA->OA->Int->WP)(V:OA)(I U:Nat)(a7 a6:Nat)(b5 b3:Value)(W:Int)(g O:OA)(c4:Int)(y:OA)(w:World):Prop:=aA g λc1=>∃E,w.cell? c1=some (hX E)/\0<=(0:Int)/\0<(E.size:Int)/\br ((bt E 0)==34) (False) (aA g λc2=>∃H,w.cell? c2=some (hX H)/\0<=(0:Int)/\0<(H.size:Int)/\br ((bt H 0)==39) (False) (aA g λc3=>∃b8,w.cell? c3=some (hX b8)/\br (decide ((b8.size:Int) >= 2)) (aA y λb9=>∃b7,w.cell? b9=some (hX b7)/\br (decide ((b7.size:Int) >= 2)) (k6 R Xa b6 b4 V I U a7 a6 b5 b3 W g O y 2 w) (k6 R Xa b6 b4 V I U a7 a6 b5 b3 W g O y 1 w)) (k6 R Xa b6 b4 V I U a7 a6 b5 b3 W g O y 1 w)))
def k3 (R:EP)(Xa:OA->Nat->Nat->Nat->Nat->Value->Value->Int->WP)(b9:OA->Nat->Nat->Nat->Nat->Value->Value->Int->OA->OA->WP)(b7:OA->Nat->Nat->Nat->Nat->Value->Value->Int->OA->OA->Int->WP)(a7:OA)(U W:Nat)(b5 b4:Nat)(b8 b6:Value)(b3:Int)(y V:OA)(a6:Int)(H:OA)(w:World):Prop:=tk w λg=>aA y λc3=>∃E,g.cell? c3=some (hX E)/\0<=(0:Int)/\0<(E.size:Int)/\br ((bt E 0)==126) (aA y λc2=>aA H λc1=>∃O,g.cell? c2=some (hX O)/\∃I,g.cell? c1=some (hX I)/\br ((O.size:Int) !=(I.size:Int)) (False) (k5 R Xa b9 b7 a7 U W b5 b4 b8 b6 b3 y V a6 H g)) (k5 R Xa b9 b7 a7 U W b5 b4 b8 b6 b3 y V a6 H g)
def bl3 (R:EP)(Xa:OA->Nat->Nat->Nat->Nat->Value->Value->Int->WP)(b6:OA->Nat->Nat->Nat->Nat->Value->Value->Int->OA->OA->WP)(b5:OA->Nat->Nat->Nat->Nat->Value->Value->Int->OA->OA->Int->WP)(W:OA)(U I:Nat)(b4 b3:Nat)(a7 a6:Value)(O:Int)(y V:OA)(H:Int)(w:World):Prop:=br (decide (H >= 0)) (aA V λl5=>∃c4 e3 h9,w.cell? l5=some (hT c4 e3 h9)/\0<=H/\H<(e3:Int)/\aA c4 λo2=>∃E,w.cell? (o2.add (Int.toNat H*1))=some (kT E)/\tk w λg=>aA y λq0=>∃b7,g.cell? q0=some (hX b7)/\0<=(0:Int)/\0<(b7.size:Int)/\br ((bt b7 0)==42) (aA y λo3=>∃f4,g.cell? (o3.add 1)=some (hV f4)/\br f4 (aA y λm2=>∃g6,g.cell? (m2.add 2)=some (hV g6)/\br g6 (aA y λp1=>aA E λo0=>∃g0,g.cell? (p1.add 4)=some (hY g0)/\∃f0,g.cell? (o0.add 4)=some (hY f0)/\(3:Int)≠0/\br ((Int.tmod (i64.wrap (g0+f0)) 3)==0) (aA y λm8=>∃f3,g.cell? (m8.add 4)=some (hY f3)/\(3:Int)≠0/\br ((Int.tmod f3 3) !=0) (b5 W U I b4 b3 a7 a6 O y V (i64.wrap (H - 1)) g) (aA E λm3=>∃e8,g.cell? (m3.add 4)=some (hY e8)/\(3:Int)≠0/\br ((Int.tmod e8 3) !=0) (b5 W U I b4 b3 a7 a6 O y V (i64.wrap (H - 1)) g) (k3 R Xa b6 b5 W U I b4 b3 a7 a6 O y V H E g))) (k3 R Xa b6 b5 W U I b4 b3 a7 a6 O y V H E g)) (aA E λm4=>∃e6,g.cell? (m4.add 1)=some (hV e6)/\br e6 (aA E λm6=>∃g7,g.cell? (m6.add 2)=some (hV g7)/\br g7 (aA y λo4=>aA E λp4=>∃e9,g.cell? (o4.add 4)=some (hY e9)/\∃f6,g.cell? (p4.add 4)=some (hY f6)/\(3:Int)≠0/\br ((Int.tmod (i64.wrap (e9+f6)) 3)==0) (aA y λn0=>∃e7,g.cell? (n0.add 4)=some (hY e7)/\(3:Int)≠0/\br ((Int.tmod e7 3) !=0) (b5 W U I b4 b3 a7 a6 O y V (i64.wrap (H - 1)) g) (aA E λq1=>∃g1,g.cell? (q1.add 4)=some (hY g1)/\(3:Int)≠0/\br ((Int.tmod g1 3) !=0) (b5 W U I b4 b3 a7 a6 O y V (i64.wrap (H - 1)) g) (k3 R Xa b6 b5 W U I b4 b3 a7 a6 O y V H E g))) (k3 R Xa b6 b5 W U I b4 b3 a7 a6 O y V H E g)) (k3 R Xa b6 b5 W U I b4 b3 a7 a6 O y V H E g)) (k3 R Xa b6 b5 W U I b4 b3 a7 a6 O y V H E g))) (aA E λn2=>∃f2,g.cell? (n2.add 1)=some (hV f2)/\br f2 (aA E λp5=>∃g3,g.cell? (p5.add 2)=some (hV g3)/\br g3 (aA y λj1=>aA E λm1=>∃g2,g.cell? (j1.add 4)=some (hY g2)/\∃g5,g.cell? (m1.add 4)=some (hY g5)/\(3:Int)≠0/\br ((Int.tmod (i64.wrap (g2+g5)) 3)==0) (aA y λm5=>∃f1,g.cell? (m5.add 4)=some (hY f1)/\(3:Int)≠0/\br ((Int.tmod f1 3) !=0) (b5 W U I b4 b3 a7 a6 O y V (i64.wrap (H - 1)) g) (aA E λn3=>∃h0,g.cell? (n3.add 4)=some (hY h0)/\(3:Int)≠0/\br ((Int.tmod h0 3) !=0) (b5 W U I b4 b3 a7 a6 O y V (i64.wrap (H - 1)) g) (k3 R Xa b6 b5 W U I b4 b3 a7 a6 O y V H E g))) (k3 R Xa b6 b5 W U I b4 b3 a7 a6 O y V H E g)) (k3 R Xa b6 b5 W U I b4 b3 a7 a6 O y V H E g)) (k3 R Xa b6 b5 W U I b4 b3 a7 a6 O y V H E g))) (aA y λk0=>∃b8,g.cell? k0=some (hX b8)/\0<=(0:Int)/\0<(b8.size:Int)/\br ((bt b8 0)==95) (aA y λq3=>∃g4,g.cell? (q3.add 1)=some (hV g4)/\br g4 (aA y λq2=>∃f5,g.cell? (q2.add 2)=some (hV f5)/\br f5 (aA y λn1=>aA E λp3=>∃c1,g.cell? (n1.add 4)=some (hY c1)/\∃c2,g.cell? (p3.add 4)=some (hY c2)/\(3:Int)≠0/\br ((Int.tmod (i64.wrap (c1+c2)) 3)==0) (aA y λh7=>∃e0,g.cell? (h7.add 4)=some (hY e0)/\(3:Int)≠0/\br ((Int.tmod e0 3) !=0) (b5 W U I b4 b3 a7 a6 O y V (i64.wrap (H - 1)) g) (aA E λj0=>∃d0,g.cell? (j0.add 4)=some (hY d0)/\(3:Int)≠0/\br ((Int.tmod d0 3) !=0) (b5 W U I b4 b3 a7 a6 O y V (i64.wrap (H - 1)) g) (k3 R Xa b6 b5 W U I b4 b3 a7 a6 O y V H E g))) (k3 R Xa b6 b5 W U I b4 b3 a7 a6 O y V H E g)) (aA E λi2=>∃e1,g.cell? (i2.add 1)=some (hV e1)/\br e1 (aA E λh3=>∃d2,g.cell? (h3.add 2)=some (hV d2)/\br d2 (aA y λh5=>aA E λi0=>∃e5,g.cell? (h5.add 4)=some (hY e5)/\∃e2,g.cell? (i0.add 4)=some (hY e2)/\(3:Int)≠0/\br ((Int.tmod (i64.wrap (e5+e2)) 3)==0) (aA y λi3=>∃e4,g.cell? (i3.add 4)=some (hY e4)/\(3:Int)≠0/\br ((Int.tmod e4 3) !=0) (b5 W U I b4 b3 a7 a6 O y V (i64.wrap (H - 1)) g) (aA E λh4=>∃c9,g.cell? (h4.add 4)=some (hY c9)/\(3:Int)≠0/\br ((Int.tmod c9 3) !=0) (b5 W U I b4 b3 a7 a6 O y V (i64.wrap (H - 1)) g) (k3 R Xa b6 b5 W U I b4 b3 a7 a6 O y V H E g))) (k3 R Xa b6 b5 W U I b4 b3 a7 a6 O y V H E g)) (k3 R Xa b6 b5 W U I b4 b3 a7 a6 O y V H E g)) (k3 R Xa b6 b5 W U I b4 b3 a7 a6 O y V H E g))) (aA E λh8=>∃d3,g.cell? (h8.add 1)=some (hV d3)/\br d3 (aA E λi1=>∃d1,g.cell? (i1.add 2)=some (hV d1)/\br d1 (aA y λi8=>aA E λh2=>∃c5,g.cell? (i8.add 4)=some (hY c5)/\∃c8,g.cell? (h2.add 4)=some (hY c8)/\(3:Int)≠0/\br ((Int.tmod (i64.wrap (c5+c8)) 3)==0) (aA y λh6=>∃c3,g.cell? (h6.add 4)=some (hY c3)/\(3:Int)≠0/\br ((Int.tmod c3 3) !=0) (b5 W U I b4 b3 a7 a6 O y V (i64.wrap (H - 1)) g) (aA E λh1=>∃b9,g.cell? (h1.add 4)=some (hY b9)/\(3:Int)≠0/\br ((Int.tmod b9 3) !=0) (b5 W U I b4 b3 a7 a6 O y V (i64.wrap (H - 1)) g) (k3 R Xa b6 b5 W U I b4 b3 a7 a6 O y V H E g))) (k3 R Xa b6 b5 W U I b4 b3 a7 a6 O y V H E g)) (k3 R Xa b6 b5 W U I b4 b3 a7 a6 O y V H E g)) (k3 R Xa b6 b5 W U I b4 b3 a7 a6 O y V H E g))) (k3 R Xa b6 b5 W U I b4 b3 a7 a6 O y V H E g))) (k1 R Xa W U I b4 b3 a7 a6 O y w)
def l3 (R:EP)(Xa:OA->Nat->Nat->Nat->Nat->Value->Value->Int->WP)(b3:OA->Nat->Nat->Nat->Nat->Value->Value->Int->OA->OA->WP)(y:OA)(E I:Nat)(a6 a7:Nat)(V W:Value)(O:Int)(H U:OA)(g:Int)(w:World):Prop:=∀X:OA->Nat->Nat->Nat->Nat->Value->Value->Int->OA->OA->Int->WP,(∀y E I a6 a7 V W O H U g w,bl3 R Xa b3 X y E I a6 a7 V W O H U g w->X y E I a6 a7 V W O H U g w)->X y E I a6 a7 V W O H U g w
def bl2 (R:EP)(Xa:OA->Nat->Nat->Nat->Nat->Value->Value->Int->WP)(b8:OA->Nat->Nat->Nat->Nat->Value->Value->Int->OA->OA->WP)(E:OA)(I U:Nat)(a7 b3:Nat)(W a6:Value)(H:Int)(g O:OA)(w:World):Prop:=aA g λb6=>∃V,w.cell? b6=some (hX V)/\br (!(V.toList==(hP #[]).toList)) (aA O λb7=>∃b4 y b5,w.cell? b7=some (hT b4 y b5)/\l3 R Xa b8 E I U a7 b3 W a6 H g O (i64.wrap ((y:Int) - 1)) w) (k1 R Xa E I U a7 b3 W a6 H g w)
def l2 (R:EP)(Xa:OA->Nat->Nat->Nat->Nat->Value->Value->Int->WP)(g:OA)(y H:Nat)(W a6:Nat)(U V:Value)(I:Int)(E O:OA)(w:World):Prop:=∀X:OA->Nat->Nat->Nat->Nat->Value->Value->Int->OA->OA->WP,(∀g y H W a6 U V I E O w,bl2 R Xa X g y H W a6 U V I E O w->X g y H W a6 U V I E O w)->X g y H W a6 U V I E O w
def bl1 (R:EP)(Xa:OA->Nat->Nat->Nat->Nat->Value->Value->Int->WP)(H:OA)(E a6:Nat)(y U:Nat)(V b3:Value)(g:Int)(w:World):Prop:=br (decide (g<(E:Int))) (0<=g/\g<(E:Int)/\aA H λa5=>∃(g0:Value),w.cell? (a5.add (Int.toNat g*1))=some g0/\∃d1 c9 b4,(Instr.typeAssert g0 aC aQ true).run P w= .ok (.tuple #[kT d1,hV c9]) b4/\br c9 (tk b4 λb8=>aA d1 λa10=>∃e8 c2 e2,b8.cell? (hZ y 0)=some (hT e8 c2 e2)/\∃e4 e9,∃e7 b7,(Instr.buildSlice ap 1 #[(0,.iface bH (kT (some a10)))]).run P b8= .ok (hT e4 e9 e7) b7/\SameC b8 b7 (hZ y 0) 1/\∃c1 e1,∃e6 f5,(Builtin.append_ #[ap,ap] ap #[hT e8 c2 e2,hT e4 e9 e7]).run P b7= .ok (hT c1 e1 e6) f5/\stV f5 (hZ y 0) (hT c1 e1 e6) λg5=>Xa H E a6 y U V b3 (i64.wrap (g+1)) g5) (0<=g/\g<(E:Int)/\aA H λg4=>∃(f4:Value),b4.cell? (g4.add (Int.toNat g*1))=some f4/\∃O b9 I,(Instr.typeAssert f4 aC aT true).run P b4= .ok (.tuple #[kT O,hV b9]) I/\br (!b9) (tk I λa7=>0<=g/\g<(E:Int)/\aA H λg7=>∃c4 e3 f1,a7.cell? (hZ y 0)=some (hT c4 e3 f1)/\∃(f6:Value),a7.cell? (g7.add (Int.toNat g*1))=some f6/\∃d2 f0,∃c8 b5,(Instr.buildSlice ap 1 #[(0,f6)]).run P a7= .ok (hT d2 f0 c8) b5/\SameC a7 b5 (hZ y 0) 1/\∃c3 d3,∃e5 f2,(Builtin.append_ #[ap,ap] ap #[hT c4 e3 f1,hT d2 f0 c8]).run P b5= .ok (hT c3 d3 e5) f2/\stV f2 (hZ y 0) (hT c3 d3 e5) λg3=>Xa H E a6 y U V b3 (i64.wrap (g+1)) g3) (aA O λg2=>∃f3,I.cell? (g2.add 2)=some (hV f3)/\br f3 (aA O λg6=>∃b6,I.cell? g6=some (hX b6)/\0<=(0:Int)/\0<(b6.size:Int)/\cW P (do let d <-Deferred.ofValue V #[.int .u8 (bt b6 0)];invoke d.target d.args) (λe g1=>∃W,e= hQ (hY W)/\0<=W/\W<(5:Int)/\l2 R Xa H E a6 y U V b3 g O (some (((hZ U 0):Addr).add (Int.toNat W*1))) g1) I) (k1 R Xa H E a6 y U V b3 g O I)))) (∃c5 d0 e0,w.cell? (hZ y 0)=some (hT c5 d0 e0)/\R (hQ (hT c5 d0 e0)) w)
def l1 (R:EP)(g:OA)(y E:Nat)(U V:Nat)(I O:Value)(H:Int)(w:World):Prop:=∀X:OA->Nat->Nat->Nat->Nat->Value->Value->Int->WP,(∀g y E U V I O H w,bl1 R X g y E U V I O H w->X g y E U V I O H w)->X g y E U V I O H w
end aw
def aw (R:EP)(a6 E:OA)(U y:Nat)(H:OA)(I O:Nat)(w:World):Prop:=box w #[hT E U y] ap λb1 V=>box V #[hT none 0 0,hT none 0 0,hT none 0 0,hT none 0 0,hT none 0 0] iS λg W=>aw.l1 R H I O b1 g (.func (.func fy) #[] #[]) (.func (.func fx) #[] #[kT (kE g),kT (kE b1)]) 0 W
theorem aw.sound {R x0 x1q x1n x1c x2q x2n x2c w}(h:aw R x0 x1q x1n x1c x2q x2n x2c w):callE P fg #[kT x0,hT x1q x1n x1c,hT x2q x2n x2c] R w:=
 aH [(701,.lp [43,86,146,165,185,207] (aw.bl1 R) λXa=> [(305,.dr (rpN [3,6,9,12,1,17,20,23])),(601,.dr (rpN [3,6,9,1,13,17,20,23])),(11449,.lp [43,86,146,165,185,207,262,302] (aw.bl2 R Xa) λg=> [(41,.lp [43,86,146,165,185,207,262,302,327] (aw.bl3 R Xa g) λy=> [(73,.dr (rpN [0,3,6,9,13,15,18,21,24,27,30,33,37,39,42,45,48,51,54,57,61,63,66,69,72,76,78,81,84,87,90,94,96,99,102,105,109,111,114,117,120,123,126,129,135,138,141,133,145,147,150,153,156,159,162,165,168,172,174,177,180,183,186,189,193,195,198,201,204])),(57,.mk [43,86,146,165,185,207,262,302,327,342] (aw.k3 R Xa g y)),(153,.dr (rpN [0,3,6,9,13,15,18,21,24,27,30,33,42,45,48,51,37,39,55,57,60,63])),(345,.no),(121,.mk [43,86,146,165,185,207,262,302,327,342] (aw.k5 R Xa g y)),(697,.no),(1401,.no),(2041,.mk [43,86,146,165,185,207,262,302,342,367] (aw.k6 R Xa g y)),(6137,.dr (rpN [0,3,6,9,15,24,27,30,13,18,22,34,36,39,44,45,50,51])),(12281,.dr (rpN [0,3,6,9,12,18,21,24,27,36,16,31,33,39,42,45,48,51,56])),(180217,.dr (rpN [3,6,9,1,13,15,20])),(245753,.dr (rpN [3,6,9,1,13,15,18,23])),(65529,.mk [43,86,146,165,185,207,262,302,367,380,402] (aw.k7 R Xa g y)),(720889,.no)])]),(249,.mk [43,86,146,165,185,207,262] (aw.k1 R Xa)),(11001,.no),(3833,.mk [43,86,146,165,185,207,262,422] (aw.k2 R Xa)),(22265,.no),(7929,.mk [43,86,146,165,185,207,262,422] (aw.k4 R Xa)),(32505,.dr (rpN [3,6,9,12,1,17,20,23]))])] Tryz.func125 Tryz.call125 h
def gJ (R:EP)(g:OA)(y:Int)(w:World):Prop:=aA g λa1=>∃c1,w.cell? (a1.add 8)=some (hY c1)/\br (decide (c1<y)) (tk w λE=>aA g λa4=>aA g λa5=>aA g λc9=>∃b6 b7 b8,E.cell? (a4.add 9)=some (hT b6 b7 b8)/\∃U,E.cell? (a5.add 7)=some (hX U)/\∃H,E.cell? (c9.add 8)=some (hY H)/\0<=H/\H<=y/\y<=(U.size:Int)/\box E #[hX (U.extract (Int.toNat H) (Int.toNat y))] nA λc3 I=>SameC E I (a4.add 9) 1/\∃W b4,∃b3 O,(Instr.buildSlice ap 1 #[(0,.iface bH (kT (kE c3)))]).run P I= .ok (hT W b4 b3) O/\SameC I O (a4.add 9) 1/\∃V b5,∃a7 b9,(Builtin.append_ #[ap,ap] ap #[hT b6 b7 b8,hT W b4 b3]).run P O= .ok (hT V b5 a7) b9/\aA g λc5=>stV b9 ((c5.add 9).add 0) (hT V b5 a7) λc2=>aA g λc4=>stV c2 ((c4.add 8).add 0) (hY y) λc8=>R (hQ (.tuple #[])) c8) (R (hQ (.tuple #[])) w)
theorem gJ.sound {R x0 x1 w}(h:gJ R x0 x1 w):callE P dm #[kT x0,hY x1] R w:=
 aH [(9,.dr (rpN [0,3,6,9,15,18,21,27,30,33,39,13,25,37,42,45,50,51,56,59,60,63,68]))] Tryz.func121 Tryz.call121 h
def ji (R:EP)(y:OA)(E:Int)(w:World):Prop:=aA y λa1=>stV w ((a1.add 8).add 0) (hY E) λg=>R (hQ (.tuple #[])) g
theorem ji.sound {R x0 x1 w}(h:ji R x0 x1 w):callE P gF #[kT x0,hY x1] R w:=
 cC Tryz.func122 Tryz.call122 h
namespace aG
def bl1 (R:EP)(Xa:OA->Int->WP)(g:OA)(E:Int)(w:World):Prop:=aA g λa3=>∃H y I,w.cell? (a3.add 4)=some (hT H y I)/\br (decide ((y:Int)>E)) (callE P aJ #[kT g] (λe U=>∃(O:Value),e= hQ O/\Xa g E U) w) (R (hQ (.tuple #[])) w)
def l1 (R:EP)(g:OA)(y:Int)(w:World):Prop:=∀X:OA->Int->WP,(∀g y w,bl1 R X g y w->X g y w)->X g y w
def k1 (R:EP)(g:OA)(y:Int)(w:World):Prop:=l1 R g y w
end aG
def aG (R:EP)(E:OA)(y:Int)(w:World):Prop:=aA E λa1=>∃I g H,w.cell? (a1.add 4)=some (hT I g H)/\br (decide ((g:Int)<y)) (False) (aG.k1 R E y w)
theorem aG.sound {R x0 x1 w}(h:aG R x0 x1 w):callE P bj #[kT x0,hY x1] R w:=
 aH [(10,.no),(3,.mk [2,27] (aG.k1 R)),(5,.lp [2,27] (aG.bl1 R) λXa=> [])] Tryz.func81 Tryz.call81 h
namespace aK
def k3 (R:EP)(g:OA)(H:Value)(w:World):Prop:=tk w λO=>aA g λf0=>aA g λe9=>∃c3 c1 b4,O.cell? (f0.add 4)=some (hT c3 c1 b4)/\∃e6 c9 e5,O.cell? (e9.add 4)=some (hT e6 c9 e5)/\∃c8 a7 U,(∀w,(Instr.sliceAt fL (hT c3 c1 b4) none (some (hY (i64.wrap ((c9:Int) - 1)))) none).run P w= .ok (hT c8 a7 U) w)/\aA g λf2=>stV O ((f2.add 4).add 0) (hT c8 a7 U) λI=>aA g λf6=>∃e2 V e7,I.cell? (f6.add 4)=some (hT e2 V e7)/\br (decide ((V:Int)>0)) (tk I λE=>aA g λf3=>aA g λf4=>∃c5 b7 e3,E.cell? (f3.add 4)=some (hT c5 b7 e3)/\∃e4 y e1,E.cell? (f4.add 4)=some (hT e4 y e1)/\0<=(i64.wrap ((y:Int) - 1))/\(i64.wrap ((y:Int) - 1))<(b7:Int)/\aA c5 λe0=>∃c2 W c4,E.cell? ((e0.add (Int.toNat (i64.wrap ((y:Int) - 1))*4)).add 1)=some (hT c2 W c4)/\∃b3 b9,∃b5 d1,(Instr.buildSlice fM 1 #[(0,H)]).run P E= .ok (hT b3 b9 b5) d1/\∃b6 a6,∃b8 d2,(Builtin.append_ #[fM,fM] fM #[hT c2 W c4,hT b3 b9 b5]).run P d1= .ok (hT b6 a6 b8) d2/\stV d2 (((e0.add (Int.toNat (i64.wrap ((y:Int) - 1))*4)).add 1).add 0) (hT b6 a6 b8) λe8=>R (hQ H) e8) (∃d3 d0,(Instr.typeAssert H aO cY false).run P I= .ok (kT d3) d0/\aA g λf1=>stV d0 ((f1.add 1).add 0) (kT d3) λf5=>R (hQ H) f5)
def k2 (R:EP)(E:OA)(O:Value)(U:OA)(w:World):Prop:=aA E λI=>∃y,w.cell? I=some (kT y)/\aA y λH=>∃g,w.cell? (H.add 2)=some (hV g)/\br g (False) (k3 R E O w)
def k1 (R:EP)(g b7:OA)(w:World):Prop:=aA b7 λa10=>∃(U:Value),w.cell? a10=some U/\cW P (callMethod U "pub-paratext/pub/rscmarkdown.build" #[.iface ah (kT g)]) (λe b4=>∃(E:Value),e= hQ E/\∃H I y,(Instr.typeAssert E aO dk true).run P b4= .ok (.tuple #[kT H,hV I]) y/\br I (aA g λW=>∃V,y.cell? (W.add 6)=some (hV V)/\br V (aA g λa7=>stV y ((a7.add 6).add 0) (hV true) λb3=>k2 R g E H b3) (callE P kN #[kT H] (λe b6=>∃O,e= hQ (hV O)/\aA g λb5=>stV b6 ((b5.add 6).add 0) (hV O) λa6=>k2 R g E H a6) y)) (k3 R g E y)) w
end aK
def aK (R:EP)(H:OA)(w:World):Prop:=tk w λy=>aA H λa2=>aA H λa3=>∃I O a7,y.cell? (a2.add 4)=some (hT I O a7)/\∃b3 g b4,y.cell? (a3.add 4)=some (hT b3 g b4)/\0<=(i64.wrap ((g:Int) - 1))/\(i64.wrap ((g:Int) - 1))<(O:Int)/\aA I λU=>∃(E:Value),y.cell? (U.add (Int.toNat (i64.wrap ((g:Int) - 1))*4))=some E/\∃W V,(do eqGuard .eql bO (.tmp 22) (.const .nilIface) E .nilIface;binOp .eql bO E .nilIface).run P y= .ok (hV W) V/\br W (False) (aK.k1 R H (some (U.add (Int.toNat (i64.wrap ((g:Int) - 1))*4))) V)
theorem aK.sound {R x0 w}(h:aK R x0 w):callE P aJ #[kT x0] R w:=
 aH [(5,.dr (rpN [0,3,6,12,15,18,10,22,24,27,30,33])),(43,.no),(15,.mk [2,62] (aK.k1 R)),(879,.mk [2,85,102] (aK.k2 R)),(2927,.no),(63,.mk [2,85] (aK.k3 R)),(95,.dr (rpN [0,3,6,9,15,18,21,13,25,27,30,33,36,39,44])),(1215,.dr (rpN [0,3,6,12,15,18,10,22,24,27,30,33]))] Tryz.func107 Tryz.call107 h
def iH (R:EP)(b4:OA)(E:Value)(w:World):Prop:=tk w λy=>∃r2,(∀w,(Instr.typeAssert E lM ah false).run P w= .ok (kT r2) w)/\aA r2 λa3=>∃(W:Option Nat),y.cell? (a3.add 2)=some (.map W)/\cW P (callMethod E "pub-paratext/pub/rscmarkdown.pos" #[]) (λe g=>∃I H,e= hQ (.agg #[hY I,hY H])/\SameC y g (a3.add 2) 1/\cW P (callMethod E "pub-paratext/pub/rscmarkdown.blocks" #[]) (λe a6=>∃V U O,e= hQ (hT V U O)/\SameC g a6 (a3.add 2) 1/\box a6 #[hY I,hY H,hT V U O,.map W] oz λb3 a7=>R (hQ (.iface cY (kT (kE b3)))) a7) g) y
theorem iH.sound {R x0 x1 w}(h:iH R x0 x1 w):callE P iv #[kT x0,x1] R w:=
 aH [(5,.dr (rpN [0,6,12,15,18,21,25,5,11,27,32,33,36]))] Tryz.func368 Tryz.call368 h
namespace cF
def k1 (R:EP)(d0:OA)(b5:Value)(b6:BA)(w:World):Prop:=br (b6.toList==(hP #[]).toList) (False) (cW P (callMethod b5 "pub-paratext/pub/rscmarkdown.pos" #[]) (λe c1=>∃H I,e= hQ (.agg #[hY H,hY I])/\box c1 #[hY 0,hY 0] aF λg c4=>stV c4 (hZ g 0) (hY H) λc8=>stV c8 (hZ g 1) (hY I) λc3=>tk c3 λE=>aA d0 λb9=>∃a7,E.cell? (hZ g 0)=some (hY a7)/\∃b8 O b7,E.cell? b9=some (hT b8 O b7)/\stV E (hZ g 1) (hY (i64.wrap ((i64.wrap (a7+(O:Int))) - 1))) λc5=>tk c5 λy=>∃V,y.cell? (hZ g 0)=some (hY V)/\∃b4,y.cell? (hZ g 1)=some (hY b4)/\∃b3,y.cell? (hZ g 0)=some (hY b3)/\∃a6,y.cell? (hZ g 1)=some (hY a6)/\cW P (callMethod b5 "pub-paratext/pub/rscmarkdown.newText" #[.agg #[hY b3,hY a6],hX b6]) (λe U=>∃W,e= hQ (kT W)/\SameC y U (hZ g 0) 2/\box U #[hY V,hY b4,kT W] mD λc2 c9=>R (hQ (.iface bD (kT (kE c2)))) c9) y) w)
def bl1 (R:EP)(Xa:OA->Value->BA->WP)(O:OA)(E:Value)(g:BA)(w:World):Prop:=br (!(g.toList==(hP #[]).toList)) (callE P gG #[E,hX g] (λe I=>∃H y,e= hQ (.tuple #[hY H,hV y])/\br (!y) (k1 R O E g I) (False)) w) (False)
def l1 (R:EP)(y:OA)(E:Value)(g:BA)(w:World):Prop:=∀X:OA->Value->BA->WP,(∀y E g w,bl1 R X y E g w->X y E g w)->X y E g w
end cF
def cF (R:EP)(E:OA)(a6:Value)(w:World):Prop:=aA E λa1=>∃g,w.cell? (a1.add 1)=some (kT g)/\∃V y,(do eqGuard .neq fc (.tmp 12) (.const (kT none)) (kT g) (kT none);binOp .neq fc (kT g) (kT none)).run P w= .ok (hV V) y/\br V (False) (aA E λa5=>∃O I H,y.cell? a5=some (hT O I H)/\callE P fO #[hT O I H,hX (hP #[10])] (λe W=>∃U,e= hQ (hX U)/\cF.l1 R E a6 U W) y)
theorem cF.sound {R x0 x1 w}(h:cF R x0 x1 w):callE P iy #[kT x0,x1] R w:=
 aH [(21,.no),(39,.lp [2,25,101] (cF.bl1 R) λXa=> [(14,.no),(117,.no)]),(31,.mk [2,25,101] (cF.k1 R)),(175,.no),(191,.dr (rpN [0,6,9,12,4,16,18,21,24,27,32])),(383,.dr (rpN [3,9,1,7,14,15,20,21,24]))] Tryz.func422 Tryz.call422 h
def gX (R:EP)(c1:OA)(c3 c2:Int)(c8:BA)(w:World):Prop:=box w #[hY c3,hY c2] aF λb1 g=>∃b6,g.cell? (hZ b1 0)=some (hY b6)/\∃b8,g.cell? (hZ b1 1)=some (hY b8)/\box g #[hY b6,hY b8,hT none 0 0,hX c8] AL λb9 b7=>aA c1 λc5=>∃U b3 b4,b7.cell? (c5.add 11)=some (hT U b3 b4)/\∃I O,∃W V,(Instr.buildSlice j3 1 #[(0,kT (kE b9))]).run P b7= .ok (hT I O W) V/\∃H E,∃y a6,(Builtin.append_ #[j3,j3] j3 #[hT U b3 b4,hT I O W]).run P V= .ok (hT H E y) a6/\aA c1 λa13=>stV a6 ((a13.add 11).add 0) (hT H E y) λc4=>R (hQ (kT (kE b9))) c4
theorem gX.sound {R x0 x1_0 x1_1 x2 w}(h:gX R x0 x1_0 x1_1 x2 w):callE P eX #[kT x0,.agg #[hY x1_0,hY x1_1],hX x2] R w:=
 cC Tryz.func192 Tryz.call192 h
def jJ (R:EP)(a6:OA)(w:World):Prop:=box w #[hY 0,hY 0] aF λb1 b6=>tk b6 λy=>aA a6 λa4=>aA a6 λa5=>∃O U b4,y.cell? (a4.add 4)=some (hT O U b4)/\∃b5 g a7,y.cell? (a5.add 4)=some (hT b5 g a7)/\0<=(i64.wrap ((g:Int) - 1))/\(i64.wrap ((g:Int) - 1))<(U:Int)/\aA O λa8=>∃W,y.cell? (((a8.add (Int.toNat (i64.wrap ((g:Int) - 1))*4)).add 2).add 0)=some (hY W)/\∃V,y.cell? (((a8.add (Int.toNat (i64.wrap ((g:Int) - 1))*4)).add 2).add 1)=some (hY V)/\stV y (hZ b1 0) (hY W) λb3=>stV b3 (hZ b1 1) (hY V) λE=>∃I,E.cell? (hZ b1 0)=some (hY I)/\∃H,E.cell? (hZ b1 1)=some (hY H)/\R (hQ (.agg #[hY I,hY H])) E
theorem jJ.sound {R x0 w}(h:jJ R x0 w):callE P jI #[kT x0] R w:=
 aH [(5,.dr (rpN [0,3,6,12,15,18,10,22,24,27,30,33]))] Tryz.func421 Tryz.call421 h
namespace iG
def bl1 (R:EP)(Xa:BA->Int->WP)(y:BA)(g:Int)(w:World):Prop:=((decide (g<(y.size:Int)))=true->0<=g/\g<(y.size:Int))/\(((decide (g<(y.size:Int))) && (!((bt y g)==32)))=true->0<=g/\g<(y.size:Int))/\(((decide (g<(y.size:Int))) && (!(((bt y g)==32)||((bt y g)==9))))=true->0<=g/\g<(y.size:Int))/\br ((decide (g<(y.size:Int))) && ((((bt y g)==32)||((bt y g)==9))||((bt y g)==10))) (Xa y (i64.wrap (g+1)) w) (R (hQ (hY g)) w)
def l1 (R:EP)(g:BA)(y:Int)(w:World):Prop:=∀X:BA->Int->WP,(∀g y w,bl1 R X g y w->X g y w)->X g y w
end iG
def iG (R:EP)(g:BA)(y:Int)(w:World):Prop:=iG.l1 R g y w
theorem iG.sound {R x0 x1 w}(h:iG R x0 x1 w):callE P kg #[hX x0,hY x1] R w:=
 aH [(9,.lp [1,27] (iG.bl1 R) λXa=> [])] Tryz.func171 Tryz.call171 h
end Go.Proofs.YtendaipfdnhnaaaGreatDoor
