/- Part 3 of the proof of the law FnFlat: for every input the law returns true, the inputs read as they did, and memory that was there is as it was; under the conditions of the given row alone. -/
import Derived.Laws.StructEq
import Derived.Test.YtendaipfdnhnaaaGreatDoorA2
set_option linter.all false
open Go.IntKind(i64)
open ByteArray renaming mk→hP
open List renaming replicate→hN
namespace Go.Proofs.YtendaipfdnhnaaaGreatDoor
open Go.Proofs Go.IntWalk Go.RowKit
set_option maxRecDepth 20000
variable {σ:Out} {w:World} {L L':List ai} {R:Ending->World->Prop} {G:List UInt8->List Inl} {op:Opt}

inductive PK where
 |nil
 |fn (f:FuncId)
 |code
def ka (o:Opt)(c:UInt8):PK:=
 if c=92 then .fn ji else if c=96 then .code else if c=60 then .fn jV else if c=91 then .fn gA else if c=33 then .fn mK
 else if c=95\/c=42 then .fn dR else if c=46 then (if o.dot then .fn uz else .nil) else if c=45 then (if o.dash then .fn sZ else .nil)
 else if c=34\/c=39 then (if o.quote then .fn dR else .nil) else if c=126 then (if o.strike then .fn dR else .nil) else if c=10 then .fn jU
 else if c=38 then .fn lY else if c=58 then (if o.emoji then .fn ru else .nil) else .nil
abbrev XI:=Option Addr->ByteArray->Option Addr->Nat->Nat->Int->Bool->Int->World->Prop
theorem lj {X:XI}{b pb:Nat}{p:PS}{o:Opt}{s:List UInt8}{U:Option Addr}{V W:Nat}{lo:Int}{O:Bool}{i:Nat}(hi:i<s.length)(hs:s.length<4611686018427387904)(d3:p.pz=kE pb)(e5:p.at b∈L)(e6:o.at pb∈L)(h:Sat σ w L)(g:match ka o s[i] with
  | .nil=>av.k1 R X (kE b) (bs s) U V W lo O i .nilFunc w
  | .fn f=>av.k1 R X (kE b) (bs s) U V W lo O i (.func (.func f) #[] #[]) w
  | .code=>br (!O) (callE P dP #[kT (some (hZ b 12))] (λe e0=>e= hQ (.tuple #[])/\av.k1 R X (kE b) (bs s) U V W lo true i (.func (.func bJ) #[kT (some (hZ b 12))] #[]) e0) w)
   (av.k1 R X (kE b) (bs s) U V W lo O i (.func (.func bJ) #[kT (some (hZ b 12))] #[]) w)):
 av.bl1 R X (kE b) (bs s) U V W lo O i w:=by
 have d2:w.cell? (hZ b 0)=some (kT (kE pb)):=by rw[<-d3];exact Sat.ld h e5 rfl
 refine ag (by simp;omega) ⟨by omega,by simp;omega,?_⟩
 unfold ka at g
 have y: ∀(d:UInt8) (m:Int),(d.toNat:Int)=m-> ¬ s[i]=d->(bt (bs s) (i:Int)==m)=false:=by
  intro d m c9 hd;rw[dh hi d m c9];simpa using hd
 have E: ∀(d:UInt8) (m:Int),(d.toNat:Int)=m->s[i]=d->(bt (bs s) (i:Int)==m)=true:=by
  intro d m c9 hd;rw[dh hi d m c9];simpa using hd
 by_cases c5:s[i]=92
 ·rw[if_pos c5] at g;exact ag (E 92 92 rfl c5) g
 rw[if_neg c5] at g;refine af (y 92 92 rfl c5) ?_
 by_cases b7:s[i]=96
 ·rw[if_pos b7] at g
  refine ag (E 96 96 rfl b7) ?_
  cases O with
  |true=>exact af rfl (aa g)
  |false=>exact ag rfl (aa (by
   have g:callE P dP #[kT (some (hZ b 12))] _ w:=g
   exact g))
 rw[if_neg b7] at g;refine af (y 96 96 rfl b7) ?_
 by_cases c8:s[i]=60
 ·rw[if_pos c8] at g;exact ag (E 60 60 rfl c8) g
 rw[if_neg c8] at g;refine af (y 60 60 rfl c8) ?_
 by_cases b8:s[i]=91
 ·rw[if_pos b8] at g;exact ag (E 91 91 rfl b8) g
 rw[if_neg b8] at g;refine af (y 91 91 rfl b8) ?_
 by_cases c2:s[i]=33
 ·rw[if_pos c2] at g;exact ag (E 33 33 rfl c2) g
 rw[if_neg c2] at g;refine af (y 33 33 rfl c2) ?_
 by_cases b6:s[i]=95
 ·rw[if_pos (.inl b6)] at g;exact ag (E 95 95 rfl b6) (ag rfl g)
 refine af (y 95 95 rfl b6) ?_
 by_cases c4:s[i]=42
 ·rw[if_pos (.inr c4)] at g;exact ag (E 42 42 rfl c4) g
 rw[if_neg (by simp[b6,c4])] at g;refine af (y 42 42 rfl c4) ?_
 have I: ∀ {A B:Prop} (k:Nat) (v:Bool),o.cells[k]? =some (hV v)->(v=true->A)->(v=false->B)->
  aA (some ((hZ b 0):Addr)) λe2=> ∃(d1:Option Addr),w.cell? e2=some (kT d1)/\aA d1 λe1=> ∃(d0:Bool),w.cell? (e1.add k)=some (hV d0)/\br d0 A B:=by
  intro A B k v hv e4 e3
  refine aa ⟨_,d2,aa ?_⟩
  simp only[lK0,lO0]
  exact⟨v,Sat.ld h e6 hv,bp e4 e3⟩
 by_cases b4:s[i]=46
 ·rw[if_pos b4] at g
  refine ag (E 46 46 rfl b4) (I 7 o.dot rfl (λhv=>?_) (λhv=>?_))
  ·rw[if_pos hv] at g;exact g
  ·rw[if_neg (by simp[hv])] at g;exact g
 rw[if_neg b4] at g;refine af (y 46 46 rfl b4) ?_
 by_cases b3:s[i]=45
 ·rw[if_pos b3] at g
  refine ag (E 45 45 rfl b3) (I 8 o.dash rfl (λhv=>?_) (λhv=>?_))
  ·rw[if_pos hv] at g;exact g
  ·rw[if_neg (by simp[hv])] at g;exact g
 rw[if_neg b3] at g;refine af (y 45 45 rfl b3) ?_
 by_cases b9:s[i]=34
 ·rw[if_pos (.inl b9)] at g
  refine ag (E 34 34 rfl b9) (ag rfl (I 9 o.quote rfl (λhv=>?_) (λhv=>?_)))
  ·rw[if_pos hv] at g;exact g
  ·rw[if_neg (by simp[hv])] at g;exact g
 refine af (y 34 34 rfl b9) ?_
 by_cases a7:s[i]=39
 ·rw[if_pos (.inr a7)] at g
  refine ag (E 39 39 rfl a7) (I 9 o.quote rfl (λhv=>?_) (λhv=>?_))
  ·rw[if_pos hv] at g;exact g
  ·rw[if_neg (by simp[hv])] at g;exact g
 rw[if_neg (by simp[b9,a7])] at g;refine af (y 39 39 rfl a7) ?_
 by_cases a6:s[i]=126
 ·rw[if_pos a6] at g
  refine ag (E 126 126 rfl a6) (I 1 o.strike rfl (λhv=>?_) (λhv=>?_))
  ·rw[if_pos hv] at g;exact g
  ·rw[if_neg (by simp[hv])] at g;exact g
 rw[if_neg a6] at g;refine af (y 126 126 rfl a6) ?_
 by_cases c1:s[i]=10
 ·rw[if_pos c1] at g;exact ag (E 10 10 rfl c1) g
 rw[if_neg c1] at g;refine af (y 10 10 rfl c1) ?_
 by_cases c3:s[i]=38
 ·rw[if_pos c3] at g;exact ag (E 38 38 rfl c3) g
 rw[if_neg c3] at g;refine af (y 38 38 rfl c3) ?_
 by_cases b5:s[i]=58
 ·rw[if_pos b5] at g
  refine ag (E 58 58 rfl b5) (I 6 o.emoji rfl (λhv=>?_) (λhv=>?_))
  ·rw[if_pos hv] at g;exact g
  ·rw[if_neg (by simp[hv])] at g;exact g
 rw[if_neg b5] at g;exact af (y 58 58 rfl b5) g

def PS.core (p:PS):PS:= {p with em:=0,lq:=none,ln:=0,lc:=0,corner:=false,bt:= .z}
def PS.core2 (p:PS):PS:= {p with corner:=false,bt:= .z}
theorem PS.core_of2 {p p':PS}(h:p'.core2=p.core2):p'.core=p.core:=by
 have:=congrArg PS.core h
 simpa[PS.core,PS.core2] using this
def IIn (σ:Out)(b:Nat)(p:PS)(ts:List Inl)(opens:List Nat)(E:Option Addr)(y I:Nat)(L:List ai)(w:World):Prop:=
 ∃vs RM EM g,Sl 1 aC p.lq p.ln p.lc vs RM/\InlsAt ts vs EM/\Sl 1 ba E y I (opens.map λ(n:Nat)=>hY n) g/\ts.length<1073741824/\Sat σ w (p.at b::(RM++(EM++(g++L))))
def sub (s:List UInt8)(i j:Nat):List UInt8:=(s.take j).drop i
def kP (s:List UInt8)(em i:Nat)(ts:List Inl):List Inl:=if em<i then ts++ [.plain (sub s em i)] else ts
theorem z7 {b e i:Nat}{p:PS}{ts:List Inl}{opens:List Nat}{U:Option Addr}{a7 V:Nat}(h:IIn σ b p ts opens U a7 V L w)(E:p.em=e)(b6:i<=p.s.length)(b8:ts.length<1073741823)(a6: ∀w p',p'.core=p.core->p'.bt=p.bt->p'.em=((max e i:Nat):Int)->IIn σ b p' (kP p.s e i ts) opens U a7 V L w->R (hQ (.tuple #[])) w):
 callE P du #[kT (kE b),hY i] R w:=by
 obtain⟨vs,RM,EM,g,W,I,O,b4,h⟩:=h
 have b7:=I.length
 by_cases hi:e<i
 ·have h:Sat σ w (p.at b::RM++(EM++(g++L))):=h
  refine C7 (L:=EM++(g++L)) h ⟨W,by omega⟩ E hi b6 (by omega) λw p' b3 nb y b5 h=>?_
  refine a6 w p' (by rw[y];rfl) (by rw[y]) (by rw[y];show ((i:Nat):Int)=_;congr 1;omega) ⟨_,b3,EM++ [rk nb (sub p.s e i)],g,b5.1,?_,O,?_,?_⟩
  ·unfold kP;rw[if_pos hi]
   exact I.append (InlsAt.one ⟨nb,[],_,rfl,rfl⟩)
  ·unfold kP;rw[if_pos hi];simp;omega
  ·have h:Sat σ w (p'.at b::b3++(rk nb (sub p.s e i)::(EM++(g++L)))):=h
   exact h.re
 ·refine C8 h (by rw[E];omega) λw h=>?_
  refine a6 w p rfl rfl (by rw[E];congr 1;omega) ⟨vs,RM,EM,g,W,?_,O,?_,h⟩
  ·unfold kP;rw[if_neg hi];exact I
  ·unfold kP;rw[if_neg hi];exact b4
def qi (b:Nat)(p:PS)(s:List UInt8)(i:Nat)(I:Value)(L0:List ai)(E:Option (Inl × Nat × Nat))(Q:PS->Prop):Prop:=
 ∀(σ:Out) (R:Ending->World->Prop) (L:List ai) (w:World),(∀c∈L0,c∈L)->Sat σ w (p.at b::L)->
  (match E with
   |none=> ∀w p' v x O,p'.core2=p.core2->Q p'->Sat σ w (p'.at b::L)->R (hQ (.tuple #[v,hY x,hY O,hV false])) w
   |some (t,st,en)=> ∀w p' v g,p'.core2=p.core2->Q p'->InlAt t v g->Sat σ w (p'.at b::(g++L))->R (hQ (.tuple #[v,hY st,hY en,hV true])) w)->
  de P (do let d <-Deferred.ofValue I #[kT (kE b),hX (bs s),hY i];invoke d.target d.args) R w
def vA (P:Program)(t:TypeId):Bool:=match P.underlying t with|some (.func _ _ _)=>true|_=>false
theorem n9 {P:Program}{t:TypeId}(h:vA P t=true): ∃y rs g,P.underlying t=some (.func y rs g):=by
 unfold vA at h
 split at h
 ·rename_i a b c hd;exact⟨_,_,_,hd⟩
 ·cases h
theorem E7:vA P aX=true:=by kernel_rfl
theorem Hk {x I:Operand}(k:FuncId)(f E:Array Value)(w:World):
 (do eqGuard .neq aX x I (.func (.func k) f E) .nilFunc;binOp .neq aX (.func (.func k) f E) .nilFunc).run P w= .ok (hV true) w:=by
 obtain⟨_,_,_,h⟩:=n9 E7
 exact nm h k f E w
theorem Hj {x g:Operand}(w:World):
 (do eqGuard .neq aX x g .nilFunc .nilFunc;binOp .neq aX .nilFunc .nilFunc).run P w= .ok (hV false) w:=by
 obtain⟨_,_,_,h⟩:=n9 E7
 exact yM h w
def Inl.isOpen:Inl->Bool
 | .openP _ _=>true
 |_=>false
theorem Inl.ty_open {t:Inl}(h:t.isOpen=false):t.ty≠aQ:=by
 cases t<;>simp only[Inl.isOpen,reduceCtorEq] at h<;>(simp only[Inl.ty];decide)
noncomputable def rowInt:Row P cz ba 1 8:=
 ⟨(P.info? ba).getD default,((P.info? ba).bind (·.zero)).getD default,by kernel_rfl,by kernel_rfl,by kernel_rfl,by kernel_rfl,by kernel_rfl,by kernel_rfl,by decide⟩
theorem fillN (n:Nat):Instr.fill (λi=>some (i*1,1)) ((Array.range (1*1)).map (rowInt.z.cells[· %rowInt.z.cells.size]!)) [(0,hY n)]=some #[hY n]:=by kernel_rfl
theorem zT {X:XI}{b i e st en:Nat}{p:PS}{ts:List Inl}{opens:List Nat}{g:Option Addr}{y E:Nat}{lo:Int}{b8:Bool}{f:FuncId}{b9 c1:Array Value}{t:Inl}{L0:List ai}{Q:PS->Prop}(h:IIn σ b p ts opens g y E L w)(e8: ∀c∈L0,c∈L)(h4:qi b p p.s i (.func (.func f) b9 c1) L0 (some (t,st,en)) Q)(g3:p.em=e)(f5:st<=p.s.length)(hs:p.s.length<1000000000)(h9:ts.length<1000000000)(h8:opens.length<1000000000)(g4: ∀w p' g y E,p'.core=p.core->p'.em=(en:Int)->(∃c9,Q c9/\p'.bt=c9.bt)->IIn σ b p' (kP p.s e st ts++ [t]) (if t.isOpen then opens++ [(kP p.s e st ts).length] else opens) g y E L w->X (kE b) (bs p.s) g y E lo b8 en w):
 av.k1 R X (kE b) (bs p.s) g y E lo b8 i (.func (.func f) b9 c1) w:=by
 refine⟨_,_,Hk f b9 c1 w,ag rfl ?_⟩
 obtain⟨vs,RM,EM,I,O,U,a7,b5,h⟩:=h
 have f2: ∀c∈L0,c∈RM++(EM++(I++L)):=λc hc=>lB0 _ (lB0 _ (lB0 _ (e8 c hc)))
 refine h4 σ _ (RM++(EM++(I++L))) w f2 h λw V v g7 W f3 ht h=>⟨_,_,_,_,rfl,ag rfl ?_⟩
 have e9:=PS.core_of2 W
 have g5:V.lq=p.lq:=by have:=congrArg PS.lq W;exact this
 have g6:V.ln=p.ln:=by have:=congrArg PS.ln W;exact this
 have h1:V.lc=p.lc:=by have:=congrArg PS.lc W;exact this
 have d1:V.s=p.s:=by have:=congrArg PS.s W;exact this
 have h3:V.em=e:=by have:=congrArg PS.em W;rw[<-g3];exact this
 have g2:IIn σ b V ts opens g y E (g7++L) w:=⟨vs,RM,EM,I,by rw[g5,g6,h1];exact O,U,a7,b5,h.re⟩
 refine z7 g2 h3 (by rw[d1];exact f5) (by omega) λw p2 e6 f0 h6 c5=>⟨rfl,?_⟩
 rw[d1] at c5
 obtain⟨pb,cs,b3,a6,rfl,rfl⟩:=ht.ptr
 have d0:p2.core=p.core:=e6.trans e9
 have h7:p2.s=p.s:=by have:=congrArg PS.s d0;exact this
 have d3:(kP p.s e st ts).length<=ts.length+1:=by unfold kP;split<;>simp
 have fin: ∀w g y E b7,b7=(if t.isOpen then opens++ [(kP p.s e st ts).length] else opens)->IIn σ b p2 (kP p.s e st ts) b7 g y E (((pb,cel cs b3)::a6)++L) w->
  av.k4 R X (kE b) (bs p.s) g y E lo b8 (gZ t.ty pb) en w:=by
  intro w g y E b7 h5 h
  obtain⟨vs,RM,EM,I,O,U,a7,b5,h⟩:=h
  have e0:=U.length
  have g0:=O.1
  refine aa ?_
  refine⟨_,_,_,h.ldA,?_⟩
  have h:Sat σ w (RM++(p2.at b::(EM++(I++(((pb,cel cs b3)::a6)++L))))):=h.re
  refine Sat.app1 rowInl O h (v:=gZ t.ty pb) rfl (by simp[gZ,Value.cells,Value.oneCell']) (AY _ _) (by omega) (by omega) (by decide) λc3 c4 c2 b4 f1 h=>?_
  have h:Sat σ c2 (p2.at b::(b4++(EM++(I++(((pb,cel cs b3)::a6)++L))))):=h.re
  refine aa ?_
  refine h.stA 0 λw h=>?_
  let d2:PS:= {p2 with lq:=c3,ln:=p2.ln+1,lc:=c4}
  have h:Sat σ w (d2.at b::(b4++(EM++(I++(((pb,cel cs b3)::a6)++L))))):=h
  refine wv h λw h=>⟨rfl,?_⟩
  refine g4 w {d2 with em:=en} g y E (by rw[<-d0];rfl) rfl ⟨V,f3,f0⟩ ⟨_,b4,EM++((pb,cel cs b3)::a6),I,f1,?_,by rw[<-h5];exact a7,by simp;omega,h.re⟩
  exact U.append (InlsAt.one ht)
 cases b6:t.isOpen with
 |false=>
  refine⟨_,_,w,qp (Inl.ty_open b6) w,af rfl ?_⟩
  exact fin w g y E opens (by rw[b6];rfl) c5
 |true=>
  have f6:t.ty=aQ:=by cases t<;>simp only[Inl.isOpen,reduceCtorEq] at b6;rfl
  have f4:(Instr.typeAssert (gZ t.ty pb) aC aQ true).run P w= .ok (.tuple #[kT (kE pb),hV true]) w:=by
   rw[f6];exact oV w
  refine⟨_,_,w,f4,ag rfl ?_⟩
  obtain⟨vs,RM,EM,I,O,U,a7,b5,h⟩:=c5
  have e0:=U.length
  have g0:=O.1
  have e7:=a7.1
  rw[lS0] at e7
  refine aa ?_
  refine⟨_,_,_,h.ldA,?_⟩
  have h:Sat σ w (I++(p2.at b::(RM++(EM++(((pb,cel cs b3)::a6)++L))))):=h.re
  have c8:p2.ln=(kP p.s e st ts).length:=by omega
  rw[c8]
  generalize i0:(kP p.s e st ts).length=m at fin d3 c8⊢
  refine Sat.app1 rowInt a7 h (v:= hY (m:Nat)) rfl (by simp[Value.cells,Value.oneCell']) (fillN m) (by omega) (by omega) (by decide) λc3 c4 c2 b4 g1 h=>?_
  refine fin c2 c3 _ c4 _ (by rw[b6]<;>rfl) ⟨vs,RM,EM,b4,O,U,?_,b5,h.re⟩
  rw[if_pos rfl,lV0];exact g1
theorem Ho {X:XI}{b i:Nat}{s:List UInt8}{y:Option Addr}{g E:Nat}{lo:Int}{I:Bool}(hi:i<s.length)(hs:s.length<4611686018427387904)(hc:s[i]≠93\/g=0)(O:X (kE b) (bs s) y g E lo I ((i+1:Nat):Int) w):av.k5 R X (kE b) (bs s) y g E lo I i w:=by
 refine⟨by omega,by simp;omega,?_⟩
 refine af ?_ ?_
 ·rw[dh hi 93 93 rfl]
  rcases hc with hc|hc
  ·simp[hc]
  ·simp[hc]
 ·rw[aN (by omega)];exact O
theorem zS {X:XI}{b i:Nat}{s:List UInt8}{g:Option Addr}{I y:Nat}{lo:Int}{E:Bool}(O:av.k5 R X (kE b) (bs s) g I y lo E i w):
 av.k1 R X (kE b) (bs s) g I y lo E i .nilFunc w:=
 ⟨_,_,Hj w,af rfl O⟩

def Ak (ts ts':List Inl):Prop:=
 ∀(σ:Out) (R:Ending->World->Prop) (V q:Option Addr) (n c:Nat) vs RM EM L w,Sl 1 aC q n c vs RM->InlsAt ts vs EM->n<1073741823->Sat σ w (RM++(EM++L))->
  (∀w O g U I E y,Sl 1 aC O g U I E->g<=n->InlsAt ts' I y->Sat σ w (E++(y++L))->R (hQ (hT O g U)) w)->
  callE P fw #[kT V,hT q 0 c,hT q n c] R w
theorem Bd {b pb:Nat}{p:PS}{o:Opt}{q:Option Addr}{n c:Nat}(y:p.pz=kE pb)(I:p.at b∈L)(E:o.at pb∈L)(g:o.auto=false)(h:Sat σ w L)(O:R (hQ (hT q n c)) w):
 callE P dU #[kT (kE b),hT q n c] R w:=by
 refine fa.sound ?_
 refine aa ⟨kE pb,by rw[<-y];exact Sat.ld h I rfl,aa ?_⟩
 simp only[lK0,lO0]
 exact⟨o.auto,Sat.ld h E rfl,ag (by rw[g];rfl) O⟩
def FE (o:Opt)(ts ts':List Inl):Prop:=
 ∀(σ:Out) (R:Ending->World->Prop) (b pb:Nat) (p:PS) (q:Option Addr) (n c:Nat) (vs:List Value) (RM EM L:List ai) (w:World),p.pz=kE pb->p.at b∈L->o.at pb∈L->Sl 1 aC q n c vs RM->n<1073741824->InlsAt ts vs EM->Sat σ w (RM++(EM++L))->
  (∀w O g U I E y,Sl 1 aC O g U I E->g<1073741824->InlsAt ts' I y->Sat σ w (E++(y++L))->R (hQ (hT O g U)) w)->
  callE P dU #[kT (kE b),hT q n c] R w
theorem Be {o:Opt}{ts:List Inl}(g:o.auto=false):FE o ts ts:=λσ R b pb p q n c vs RM EM L w y U E I W O h V=>
 Bd y (lB0 _ (lB0 _ U)) (lB0 _ (lB0 _ E)) g h (V w q n c vs RM EM I W O h)
theorem Ev {X:XI}{b pb e:Nat}{p:PS}{o:Opt}{ts ts' ts2:List Inl}{opens:List Nat}{b6:Option Addr}{b8 d0:Nat}{lo:Int}{f0:Bool}(h:IIn σ b p ts opens b6 b8 d0 L w)(e9:p.em=e)(hs:p.s.length<1000000000)(g6:ts.length<1000000000)(d3:p.pz=kE pb)(f4:o.at pb∈L)(f3:Ak (kP p.s e p.s.length ts) ts')(d1: ∀t∈ts',∀s,t.plain? =some s->s≠ [])(hb:rK ts'<1073741824)(f1:FE o (li ts') ts2)(f2: ∀w (p':PS) q n c vs RM EM,p'.core=p.core->Sl 1 aC q n c vs RM->n<1073741824->InlsAt ts2 vs EM->Sat σ w (p'.at b::(RM++(EM++L)))->R (hQ (hT q n c)) w):
 av.bl1 R X (kE b) (bs p.s) b6 b8 d0 lo f0 (p.s.length:Nat) w:=by
 have f5:(kP p.s e p.s.length ts).length<=ts.length+1:=by unfold kP;split<;>simp
 refine af (by simp) ?_
 rw[aJ]
 refine z7 h e9 (lA1 _) (by omega) λw y b5 _ _ h=>⟨rfl,?_⟩
 obtain⟨vs,RM,EM,g,a7,c2,g7,f6,h⟩:=h
 have g0:=c2.length
 have g4:=a7.1
 have g1:=a7.2.1
 have e8:y.pz=p.pz:=by have:=congrArg PS.pz b5;exact this
 refine h.tk λw h=>?_
 refine aa (aa ?_)
 refine⟨_,_,_,h.ldA,?_⟩
 refine⟨_,_,_,λw=>rf rowInl.ht rowInl.hi _ _ _ 0 (by omega) w,?_⟩
 refine⟨_,_,_,h.ldA,?_⟩
 have h:Sat σ w (RM++(EM++(y.at b::(g++L)))):=h.re
 refine f3 σ _ _ y.lq y.ln y.lc vs RM EM _ w a7 c2 (by omega) h λw b3 c5 b4 g3 U a6 e3 g5 e6 h=>⟨_,_,_,rfl,aa ?_⟩
 have h:Sat σ w (y.at b::(U++(a6++(g++L)))):=h.re
 refine h.stA 0 λw h=>?_
 let p2:PS:= {y with lq:=b3,ln:=c5,lc:=b4}
 have h:Sat σ w (p2.at b::(U++(a6++(g++L)))):=h
 refine aa ?_
 refine⟨_,_,_,h.ldA,?_⟩
 have h:Sat σ w (U++(a6++(p2.at b::(g++L)))):=h.re
 refine vq (n:=c5) e3 e6 d1 hb (by omega) h λw c4 d2 I E e0 g2 e5 h=>⟨_,_,_,rfl,aa ?_⟩
 have h:Sat σ w (p2.at b::(I++(E++(g++L)))):=h.re
 refine h.stA 0 λw h=>?_
 let O:PS:= {y with lq:=b3,ln:=c4,lc:=b4}
 have h:Sat σ w (O.at b::(I++(E++(g++L)))):=h
 refine aa ?_
 refine⟨_,_,_,h.ldA,?_⟩
 have h:Sat σ w (I++(E++(O.at b::(g++L)))):=h.re
 refine f1 σ _ b pb O b3 c4 b4 d2 I E _ w (by rw[<-d3,<-e8]) (.head _) (.tail _ (lB0 _ f4)) e0 (by omega) e5 h λw b7 b9 c9 e2 V W e1 e4 e7 h=>⟨_,_,_,rfl,aa ?_⟩
 have h:Sat σ w (O.at b::(V++(W++(g++L)))):=h.re
 refine h.stA 0 λw h=>?_
 refine aa ?_
 refine⟨_,_,_,h.ldA,?_⟩
 let c8:PS:= {y with lq:=b7,ln:=b9,lc:=c9}
 have h:Sat σ w (c8.at b::(V++(W++(g++L)))):=h
 exact f2 w c8 b7 b9 c9 e2 V W (by rw[<-b5];rfl) e1 e4 e7 (h.less g)
theorem Gm {X:XI}{b pb e:Nat}{p:PS}{o:Opt}{ts ts':List Inl}{opens:List Nat}{g:Option Addr}{E y:Nat}{lo:Int}{b3:Bool}(h:IIn σ b p ts opens g E y L w)(W:p.em=e)(hs:p.s.length<1000000000)(b4:ts.length<1000000000)(U:p.pz=kE pb)(a6:o.at pb∈L)(I:o.auto=false)(V:Ak (kP p.s e p.s.length ts) ts')(O: ∀t∈ts',∀s,t.plain? =some s->s≠ [])(hb:rK ts'<1073741824)(a7: ∀w (p':PS) q n c vs RM EM,p'.core=p.core->Sl 1 aC q n c vs RM->n<1073741824->InlsAt (li ts') vs EM->Sat σ w (p'.at b::(RM++(EM++L)))->R (hQ (hT q n c)) w):
 av.bl1 R X (kE b) (bs p.s) g E y lo b3 (p.s.length:Nat) w:=
 Ev h W hs b4 U a6 V O hb (Be I) a7
theorem CH {b:Nat}{p:PS}{raw:List UInt8}(h:Sat σ w (p.at b::L))(y:raw.length<4611686018427387904)(g: ∀w,IIn σ b {p with s:=gw cO raw,em:=0,lq:=none,ln:=0,lc:=0} [] [] none 0 0 L w->av.l1 R (kE b) (bs (gw cO raw)) none 0 0 0 false 0 w):
 callE P fF #[kT (kE b),hX (bs raw)] R w:=by
 refine av.sound ?_
 refine kt y ⟨_,rfl,aa ?_⟩
 refine h.stA 0 λw h=>?_
 refine aa ?_
 refine h.stA 0 λw h=>?_
 refine aa ?_
 refine h.stA 0 λw h=>?_
 exact g w ⟨[],[],[],[],Sl.nil _ _,⟨rfl,rfl⟩,Sl.nil _ _,by simp,h⟩
def l7 (R:EP)(g:Int)(w:World):Prop:=
 R (hQ (hV (((((decide (33<=g)) && (decide (g<=47)))||((decide (58<=g)) && (decide (g<=64))))||((decide (91<=g)) && (decide (g<=96))))||((decide (123<=g)) && (decide (g<=126)))))) w
theorem l7.sound {R x0 w}(h:l7 R x0 w):callE P l6 #[.int .u8 x0] R w:=
 cE Tryz.func155 Tryz.call155 h
def iF (R:EP)(y:Int)(w:World):Prop:=
 br (decide (y<128))
 (callE P l6 #[.int .u8 (IntKind.u8.wrap y)] (λe E=> ∃g,e= hQ (hV g)/\
 R (hQ (hV g)) E) w)
 (False)
theorem iF.sound {R x0 w}(h:iF R x0 w):callE P eP #[.int .i32 x0] R w:=
 aG [(29,.no)] Tryz.func163 Tryz.call163 h
def iE (R:EP)(g:Int)(w:World):Prop:=
 br (decide (g<128))
 (R (hQ (hV ((((g==32)||(g==9))||(g==12))||(g==10)))) w)
 (False)
theorem iE.sound {R x0 w}(h:iE R x0 w):callE P dJ #[.int .i32 x0] R w:=
 aG [(29,.no)] Tryz.func162 Tryz.call162 h
namespace bP
def k11 (R:EP)(E:BA)(y g:Int)(O I:Bool)(w:World):Prop:=
 0<=y/\y<=g/\g<=(E.size:Int)/\
 box w #[hX (E.extract (Int.toNat y) (Int.toNat g)),hV O,hV I,hY 0,hY (i64.wrap (g - y))] kS λU V=>
 R (hQ (.tuple #[.iface aT (kT (kE U)),hY y,hY g,hV true])) V
def k12 (R:EP)(U:BA)(O I:Int)(a7 a6:Int)(y E:Bool)(b3 W:Bool)(V:Int)(g:Bool)(w:World):Prop:=
 br g
 (k11 R U O I y E w)
 (False)
def k10 (R:EP)(b3:BA)(a7 W:Int)(O I:Int)(U V:Bool)(a6 E:Bool)(g:Int)(y:Bool)(w:World):Prop:=
 br y
 (False)
 (br (g==42)
 (k12 R b3 a7 W O I U V a6 E g true w)
 (False))
def k9 (R:EP)(W:BA)(V g:Int)(U O y:Int)(E I:Bool)(w:World):Prop:=
 br (g==39)
 (False)
 (k10 R W V U O y E I false false g (g==34) w)
def k8 (R:EP)(V:BA)(U E:Int)(O y g:Int)(I:Bool)(w:World):Prop:=
 callE P dJ #[.int .i32 y] (λe a6=> ∃b3,e= hQ (hV b3)/\
 br (!b3)
 (callE P eP #[.int .i32 y] (λe W=> ∃b4,e= hQ (hV b4)/\
 br (!b4)
 (k9 R V U E O y g I true W)
 (callE P dJ #[.int .i32 g] (λe a7=> ∃b6,e= hQ (hV b6)/\
 br b6
 (k9 R V U E O y g I true a7)
 (callE P eP #[.int .i32 g] (λe b7=> ∃b5,e= hQ (hV b5)/\
 k9 R V U E O y g I b5 b7) a7)) W)) a6)
 (k9 R V U E O y g I false a6)) w
def k7 (R:EP)(U:BA)(O E:Int)(I y g:Int)(w:World):Prop:=
 callE P dJ #[.int .i32 g] (λe b3=> ∃b5,e= hQ (hV b5)/\
 br (!b5)
 (callE P eP #[.int .i32 g] (λe a6=> ∃b4,e= hQ (hV b4)/\
 br (!b4)
 (k8 R U O E I y g true a6)
 (callE P dJ #[.int .i32 y] (λe V=> ∃a7,e= hQ (hV a7)/\
 br a7
 (k8 R U O E I y g true V)
 (callE P eP #[.int .i32 y] (λe b6=> ∃W,e= hQ (hV W)/\
 k8 R U O E I y g W b6) V)) a6)) b3)
 (k8 R U O E I y g false b3)) w
def k6 (R:EP)(y:BA)(U I:Int)(g O:Int)(w:World):Prop:=
 br (decide (g >= (y.size:Int)))
 (k7 R y U I g O 32 w)
 (0<=g/\g<=(y.size:Int)/\
 callE P dC #[hX (y.extract (Int.toNat g) y.size)] (λe W=> ∃E V,e= hQ (.tuple #[.int .i32 E,hY V])/\
 k7 R y U I g O E W) w)
def k5 (R:EP)(y:BA)(g I O:Int)(V:Bool)(w:World):Prop:=
 br V
 (False)
 (br (g==0)
 (k6 R y g I O 32 w)
 (0<=g/\g<=(y.size:Int)/\
 callE P cU #[hX (y.extract 0 (Int.toNat g))] (λe W=> ∃E U,e= hQ (.tuple #[.int .i32 E,hY U])/\
 k6 R y g I O E W) w))
def k4 (R:EP)(I:BA)(E y g:Int)(w:World):Prop:=
 k5 R I E y g ((y==126) && (decide ((i64.wrap (g - E))>2))) w
def k3 (R:EP)(V:OA)(I:BA)(E g y:Int)(O:Bool)(w:World):Prop:=
 br O
 (aA V λa1=>
 stV w ((a1.add 6).add 0) (hV true) λU=>
 k4 R I E g y U)
 (k4 R I E g y w)
def k2 (R:EP)(I:OA)(O:BA)(E g y:Int)(w:World):Prop:=
 k3 R I O E g y ((g==126) && ((i64.wrap (y - E)) !=2)) w
def bl1 (R:EP)(Xa:OA->BA->Int->Int->Int->WP)(O:OA)(y:BA)(I E g:Int)(w:World):Prop:=
 ((decide (g<(y.size:Int)))=true->0<=g/\g<(y.size:Int))/\
 br ((decide (g<(y.size:Int))) && ((bt y g)==E))
 (Xa O y I E (i64.wrap (g+1)) w)
 (k2 R O y I E g w)
def l1 (R:EP)(I:OA)(O:BA)(E g y:Int)(w:World):Prop:=
 ∀X:OA->BA->Int->Int->Int->WP,(∀I O E g y w,bl1 R X I O E g y w->X I O E g y w)->X I O E g y w
def k1 (R:EP)(O:OA)(U:BA)(I g E:Int)(y:Bool)(w:World):Prop:=
 br y
 (l1 R O U I g E w)
 (False)
end bP
def bP (R:EP)(E:OA)(y:BA)(g:Int)(w:World):Prop:=
 0<=g/\g<(y.size:Int)/\
 bP.k1 R E y g (bt y g) (i64.wrap (g+1)) ((((bt y g)==42)||((bt y g)==126))||((bt y g)==95)) w
theorem bP.sound {R x0 x1 x2 w}(h:bP R x0 x1 x2 w):callE P dR #[kT x0,hX x1,hY x2] R w:=
 aG [(55,.mk [2,21,47,208,227,640] (bP.k1 R)),(151,.lp [2,21,47,208,227] (bP.bl1 R) λXa=> []),(119,.no),(31,.mk [2,21,47,208,227] (bP.k2 R)),(111,.mk [2,21,47,208,227,1060] (bP.k3 R)),(63,.mk [21,47,208,227] (bP.k4 R)),(223,.mk [21,47,208,227,1280] (bP.k5 R)),(351,.no),(511,.mk [21,47,208,227,249] (bP.k6 R)),(1023,.mk [21,47,208,227,249,269] (bP.k7 R)),(2047,.mk [21,47,208,227,249,269,280] (bP.k8 R)),(4095,.mk [21,47,208,227,249,269,280,300] (bP.k9 R)),(339967,.no),(110591,.mk [21,47,227,249,269,280,300,320,340,2528,2540] (bP.k10 R)),(176127,.no),(1945599,.no),(503807,.mk [21,47,227,249,269,280,300,320,340,2528,2880] (bP.k12 R)),(1028095,.no),(16383,.mk [21,47,227,320,340] (bP.k11 R))] Tryz.func115 Tryz.call115 h
def cV (R:EP)(g:BA)(w:World):Prop:=
 br ((g.size:Int)==0)
 (False)
 (0<=(i64.wrap ((g.size:Int) - 1))/\(i64.wrap ((g.size:Int) - 1))<(g.size:Int)/\
 br (decide ((IntKind.i32.wrap (bt g (i64.wrap ((g.size:Int) - 1))))<128))
 (R (hQ (.tuple #[.int .i32 (IntKind.i32.wrap (bt g (i64.wrap ((g.size:Int) - 1)))),hY 1])) w)
 (False))
theorem cV.sound {R x0 w}(h:cV R x0 w):callE P cU #[hX x0] R w:=
 aG [(43,.no),(479,.no),(1407,.no),(511,.no)] Tryz.func160 Tryz.call160 h
namespace bu
def k1 (R:EP)(g:BA)(y:Bool)(w:World):Prop:=
 br y
 (0<=(0:Int)/\0<(g.size:Int)/\
 R (hQ (.tuple #[.int .i32 (IntKind.i32.wrap (bt g 0)),hY 1])) w)
 (False)
end bu
def bu (R:EP)(g:BA)(w:World):Prop:=
 ((!(g.toList==(hP #[]).toList))=true->0<=(0:Int)/\0<(g.size:Int))/\
 bu.k1 R g ((!(g.toList==(hP #[]).toList)) && (decide ((bt g 0)<128))) w
theorem bu.sound {R x0 w}(h:bu R x0 w):callE P dC #[hX x0] R w:=
 aG [(13,.mk [1,200] (bu.k1 R)),(29,.no)] Tryz.func161 Tryz.call161 h

def spB (c:UInt8):Bool:=c==32||c==9||c==12||c==10
def puB (c:UInt8):Bool:=(33<=c && c<=47)||(58<=c && c<=64)||(91<=c && c<=96)||(123<=c && c<=126)
theorem rT {c:UInt8}(h:c<128):((c.toNat:Nat):Int)<128:=by
 have a:=lI6.1 h
 have e:(128:UInt8).toNat=128:=rfl
 omega
theorem G3 (c d:UInt8):decide (((c.toNat:Nat):Int)<=(d.toNat:Int))=decide (c<=d):=by
 rw[decide_eq_decide,UInt8.le_iff_toNat_le];omega
theorem lU {c:UInt8}(hc:c<128)(g:R (hQ (hV (spB c))) w):callE P dJ #[.int .i32 (c.toNat:Int)] R w:=by
 refine iE.sound ?_
 unfold iE
 rw[show decide (((c.toNat:Nat):Int)<128)=true from decide_eq_true (rT hc)]
 refine ag rfl ?_
 have e:(((((c.toNat:Nat):Int)==32)||(((c.toNat:Nat):Int)==9))||(((c.toNat:Nat):Int)==12)||(((c.toNat:Nat):Int)==10))=spB c:=by
  have a:=mW c 32;have b:=mW c 9;have d:=mW c 12;have f:=mW c 10
  unfold spB
  rw[<-a,<-b,<-d,<-f];rfl
 rw[e];exact g
theorem uv {c:UInt8}(E:R (hQ (hV (puB c))) w):callE P l6 #[.int .u8 (c.toNat:Int)] R w:=by
 refine l7.sound ?_
 have le: ∀d:UInt8,decide (((c.toNat:Nat):Int)<=(d.toNat:Int))=decide (c<=d):=λd=>G3 c d
 have y: ∀d:UInt8,decide ((d.toNat:Int)<=((c.toNat:Nat):Int))=decide (d<=c):=λd=>G3 d c
 have e:(((((decide ((33:Int)<=((c.toNat:Nat):Int))) && (decide (((c.toNat:Nat):Int)<=47)))||((decide ((58:Int)<=((c.toNat:Nat):Int))) && (decide (((c.toNat:Nat):Int)<=64))))||((decide ((91:Int)<=((c.toNat:Nat):Int))) && (decide (((c.toNat:Nat):Int)<=96))))||((decide ((123:Int)<=((c.toNat:Nat):Int))) && (decide (((c.toNat:Nat):Int)<=126))))=puB c:=by
  have a:=y 33;have b:=le 47;have d:=y 58;have f:=le 64;have I:=y 91;have h:=le 96;have i:=y 123;have j:=le 126
  unfold puB
  rw[<-a,<-b,<-d,<-f,<-I,<-h,<-i,<-j];rfl
 unfold l7
 rw[e];exact E
theorem mo {c:UInt8}(hc:c<128)(g:R (hQ (hV (puB c))) w):callE P eP #[.int .i32 (c.toNat:Int)] R w:=by
 refine iF.sound ?_
 unfold iF
 rw[show decide (((c.toNat:Nat):Int)<128)=true from decide_eq_true (rT hc)]
 refine ag rfl ?_
 have e:IntKind.u8.wrap (c.toNat:Int)=(c.toNat:Int):=u8_in _ (by have:=c.toNat_lt;omega)
 rw[e]
 exact uv ⟨_,rfl,g⟩
theorem zX (c:UInt8):IntKind.i32.wrap (c.toNat:Int)=(c.toNat:Int):=i32_in _ (by have:=c.toNat_lt;omega)
theorem vM {c:UInt8}{l:List UInt8}(hc:c<128)(g:R (hQ (.tuple #[.int .i32 (c.toNat:Int),hY 1])) w):callE P dC #[hX (bs (c::l))] R w:=by
 refine bu.sound ?_
 have e:bt (bs (c::l)) 0=(c.toNat:Int):=pY (l:=c::l) (i:=0) (by simp)
 refine⟨λ_=>⟨by decide,by simp⟩,?_⟩
 refine ag ?_ ⟨by decide,by simp,?_⟩
 ·rw[e,show decide (((c.toNat:Nat):Int)<128)=true from decide_eq_true (rT hc),cJ,gx];rfl
 ·rw[e,zX];exact g
theorem vN {c:UInt8}{l:List UInt8}(E:l.length<4611686018427387904)(hc:c<128)(y:R (hQ (.tuple #[.int .i32 (c.toNat:Int),hY 1])) w):callE P cU #[hX (bs (l++ [c]))] R w:=by
 refine cV.sound ?_
 have g:i64.wrap ((((bs (l++ [c])).size:Nat):Int) - 1)=(l.length:Nat):=by
  rw[aJ];simp only[lA0,lE0]
  simp (disch:=omega) only[i64_in];omega
 have e:bt (bs (l++ [c])) (l.length:Nat)=(c.toNat:Int):=by
  rw[pY (by simp)];simp
 refine af (by simp;omega) ?_
 rw[g,e,zX]
 refine⟨by omega,by simp;omega,?_⟩
 rw[show decide (((c.toNat:Nat):Int)<128)=true from decide_eq_true (rT hc)]
 exact ag rfl y
def Ae (s:List UInt8)(i:Nat):UInt8:=if i=0 then 32 else s.getD (i - 1) 32
def Aj (s:List UInt8)(j:Nat):UInt8:=s.getD j 32
def vw (a b:UInt8):Bool:= !spB b && (!puB b||spB a||puB a)
def rj (a b:UInt8):Bool:= !spB a && (!puB a||spB b||puB b)
theorem C6 {s:List UInt8}{i j:Nat}{a b:UInt8}(hs:s.length<4611686018427387904)(a6:i<j)(a7:j<=s.length)(O:a<128)(hb:b<128)(h:Sat σ w L)(V: ∀w nb,Sat σ w ((nb,cel [hX (bs (sub s i j)),hV (vw a b),hV (rj a b),hY 0,hY ((j - i:Nat):Int)] kS)::L)->R (hQ (.tuple #[gZ aT nb,hY i,hY j,hV true])) w):
 bP.k7 R (bs s) (i:Int) 42 (j:Int) (a.toNat:Int) (b.toNat:Int) w:=by
 have U: ∀w,Sat σ w L->bP.k9 R (bs s) (i:Int) 42 (j:Int) (a.toNat:Int) (b.toNat:Int) (vw a b) (rj a b) w:=by
  intro w h
  refine af rfl (af rfl (ag rfl (ag rfl ⟨by omega,by omega,by simp;omega,?_⟩)))
  have e:i64.wrap ((j:Int) - (i:Int))=((j - i:Nat):Int):=by simp (disch:=omega) only[i64_in];omega
  rw[e,lC0,lC0,cj]
  exact Sat.bx h λnb w h=>V w nb h
 have W: ∀w,Sat σ w L->bP.k8 R (bs s) (i:Int) 42 (j:Int) (a.toNat:Int) (b.toNat:Int) (vw a b) w:=by
  intro w h
  refine lU O ⟨_,rfl,?_⟩
  have g:=U w h
  unfold rj at g
  cases I:spB a with
  |true=>rw[I] at g;exact af rfl g
  |false=>
   rw[I] at g
   refine ag rfl (mo O ⟨_,rfl,?_⟩)
   cases E:puB a with
   |false=>rw[E] at g;exact ag rfl g
   |true=>
    rw[E] at g
    refine af rfl (lU hb ⟨_,rfl,?_⟩)
    cases y:spB b with
    |true=>rw[y] at g;exact ag rfl g
    |false=>rw[y] at g;exact af rfl (mo hb ⟨_,rfl,by simpa using g⟩)
 refine lU hb ⟨_,rfl,?_⟩
 have g:=W w h
 unfold vw at g
 cases I:spB b with
 |true=>rw[I] at g;exact af rfl g
 |false=>
  rw[I] at g
  refine ag rfl (mo hb ⟨_,rfl,?_⟩)
  cases E:puB b with
  |false=>rw[E] at g;exact ag rfl g
  |true=>
   rw[E] at g
   refine af rfl (lU O ⟨_,rfl,?_⟩)
   cases y:spB a with
   |true=>rw[y] at g;exact ag rfl g
   |false=>rw[y] at g;exact af rfl (mo O ⟨_,rfl,by simpa using g⟩)
theorem wJ {q:Option Addr}{s:List UInt8}{i j:Nat}(hs:s.length<4611686018427387904)(E:i<j)(b4:j<=s.length)(V: ∀k,i<=k->k<j->s.getD k 0=42)(b8:j<s.length->s.getD j 0≠42)(y:Ae s i<128)(hb:Aj s j<128)(h:Sat σ w L)(b6: ∀w nb,Sat σ w ((nb,cel [hX (bs (sub s i j)),hV (vw (Ae s i) (Aj s j)),hV (rj (Ae s i) (Aj s j)),hY 0,hY ((j - i:Nat):Int)] kS)::L)->R (hQ (.tuple #[gZ aT nb,hY i,hY j,hV true])) w):
 callE P dR #[kT q,hX (bs s),hY i] R w:=by
 refine bP.sound ?_
 have I: ∀k (b7:k<s.length),s.getD k 0=s[k]:=by
  intro k b7;rw[lQ0,lI0 b7];rfl
 have hc:bt (bs s) (i:Int)=42:=by
  rw[pY (show i<s.length by omega),<-I,V i (by omega) E];rfl
 refine⟨by omega,by simp;omega,?_⟩
 rw[hc]
 refine ag rfl ?_
 intro X b5
 rw[aN (by omega)]
 have U: ∀a:UInt8,a<128->a=Ae s i-> ∀w,Sat σ w L->bP.k6 R (bs s) (i:Int) 42 (j:Int) (a.toNat:Int) w:=by
  intro a y b3 w h
  by_cases a6:j<s.length
  ·refine af (by simp;omega) ⟨by omega,by simp;omega,?_⟩
   rw[lC0,aJ,nP,lI1 a6]
   have e:Aj s j=s[j]:=by unfold Aj;rw[lQ0,lI0 a6];rfl
   refine vM (by rw[<-e];exact hb) ⟨_,_,rfl,?_⟩
   rw[<-e]
   exact C6 hs E b4 y hb h (by rw[b3];exact b6)
  ·refine ag (by simp;omega) ?_
   have e:Aj s j=32:=by unfold Aj;rw[lQ0,lT1 (by omega)];rfl
   have:=C6 (b:=32) hs E b4 y (by decide) h (by rw[b3,<-e];exact b6)
   exact this
 have fin:bP.k2 R q (bs s) (i:Int) 42 (j:Int) w:=by
  by_cases O:i=0
  ·refine ag (by subst O;rfl) ?_
   exact U 32 (by decide) (by unfold Ae;rw[if_pos O]) w h
  ·refine af (by simp;omega) ⟨by omega,by simp;omega,?_⟩
   rw[lC0,cj,lM2]
   have a7:i - 1<s.length:=by omega
   have e:Ae s i=s[i - 1]:=by unfold Ae;rw[if_neg O,lQ0,lI0 a7];rfl
   have c2:s.take i=s.take (i - 1)++ [s[i - 1]]:=by
    have:=lH1 a7
    rwa [show i - 1+1=i by omega] at this
   rw[c2]
   refine vN (by rw[lE1];omega) (by rw[<-e];exact y) ⟨_,_,rfl,?_⟩
   rw[<-e]
   exact U _ y rfl w h
 have c1: ∀k m,i<m->m+k=j->X q (bs s) (i:Int) 42 (m:Int) w:=by
  intro k
  induction k with
  |zero=>
   intro m b9 W
   obtain rfl:m=j:=W
   refine b5 _ _ _ _ _ _ ⟨λh=>⟨by omega,by simpa using h⟩,af ?_ fin⟩
   by_cases g:m<s.length
   ·have:=b8 g
    rw[pY g,<-I m g]
    have e:(((s.getD m 0).toNat:Nat):Int)=42<->s.getD m 0=42:=by
     have c4:(42:UInt8).toNat=42:=rfl
     constructor
     ·intro h;exact UInt8.toNat_inj.1 (by omega)
     ·intro h;rw[h];rfl
    rw[lY3];right
    rw[beq_eq_false_iff_ne]
    exact λh=>this (e.1 h)
   ·simp;omega
  |succ k c3=>
   intro m b9 W
   have g:m<s.length:=by omega
   refine b5 _ _ _ _ _ _ ⟨λh=>⟨by omega,by simpa using h⟩,ag ?_ ?_⟩
   ·rw[pY g,<-I m g,V m (by omega) (by omega)]
    simp;omega
   ·rw[aN (by omega)]
    exact c3 (m+1) (by omega) (by omega)
 exact c1 (j - (i+1)) (i+1) (by omega) (by omega)
theorem oM {b i j:Nat}{p:PS}{s:List UInt8}(hs:s.length<4611686018427387904)(E:i<j)(U:j<=s.length)(g: ∀k,i<=k->k<j->s.getD k 0=42)(y:j<s.length->s.getD j 0≠42)(O:Ae s i<128)(hb:Aj s j<128):
 qi b p s i (.func (.func dR) #[] #[]) [] (some (.emphP (sub s i j) (vw (Ae s i) (Aj s j)) (rj (Ae s i) (Aj s j)) 0 ((j - i:Nat):Int),i,j)) (λp'=>p'=p):=by
 intro σ R L w _ h I
 refine gY ?_
 exact wJ hs E U g y O hb h λw nb h=>I w p _ _ rfl rfl ⟨nb,_,rfl,rfl⟩ h.up1
def lL (R:EP)(I:OA)(O:BA)(w:World):Prop:=
 callE P lI #[kT I,hX O] (λe E=> ∃g y,e= hQ (.tuple #[kT g,hV y])/\
 R (hQ (kT g)) E) w
theorem lL.sound {R x0 x1 w}(h:lL R x0 x1 w):callE P oS #[kT x0,hX x1] R w:=
 cE Tryz.func34 Tryz.call34 h
def mC (R:EP)(c3 c1:Bool)(b9 c2:Bool)(b7 b5:Bool)(b4 b8:Bool)(c4 b6:Bool)(w:World):Prop:=
 box w #[hV c3,hV c1,hV b9,hV c2,hV b7,hV b5,hV b4,hV b8,hV c4,hV b6] fp λb1 g=>
 ∃U,g.cell? (hZ b1 8)=some (hV U)/\
 ∃W,g.cell? (hZ b1 0)=some (hV W)/\
 ∃a7,g.cell? (hZ b1 1)=some (hV a7)/\
 ∃a6,g.cell? (hZ b1 2)=some (hV a6)/\
 ∃V,g.cell? (hZ b1 3)=some (hV V)/\
 ∃b3,g.cell? (hZ b1 4)=some (hV b3)/\
 ∃O,g.cell? (hZ b1 9)=some (hV O)/\
 ∃y,g.cell? (hZ b1 5)=some (hV y)/\
 ∃I,g.cell? (hZ b1 6)=some (hV I)/\
 ∃E,g.cell? (hZ b1 7)=some (hV E)/\
 box g #[hV U,hV W,hV a7,hV a6,hV V,hV b3,hV O,hV y,hV I,hV E] wk λc8 c5=>
 R (hQ (kT (kE c8))) c5
theorem mC.sound {R x0_0 x0_1 x0_2 x0_3 x0_4 x0_5 x0_6 x0_7 x0_8 x0_9 w}(h:mC R x0_0 x0_1 x0_2 x0_3 x0_4 x0_5 x0_6 x0_7 x0_8 x0_9 w):callE P mv #[.agg #[hV x0_0,hV x0_1,hV x0_2,hV x0_3,hV x0_4,hV x0_5,hV x0_6,hV x0_7,hV x0_8,hV x0_9]] R w:=
 cE Tryz.func33 Tryz.call33 h
namespace bq
def k3 (R:EP)(Xa:OA->BA->Nat->WP)(U:OA)(V:BA)(g:Nat)(W:BA)(E:Int)(w:World):Prop:=
 ∃y,w.cell? (hZ g 3)=some (hY y)/\
 stV w (hZ g 3) (hY (i64.wrap (y+1))) λO=>
 callE P ie #[kT (kE g),.agg #[hY 0,hY 0,hY 0,hX W,.int .u8 E]] (λe I=>e= hQ (.tuple #[])/\
 Xa U V g I) O
def k4 (R:EP)(I:Nat)(w:World):Prop:=
 tk w λg=>
 ∃y,g.cell? (hZ I 1)=some (kT y)/\
 ∃E,g.cell? (hZ I 6)=some (hV E)/\
 R (hQ (.tuple #[kT y,hV E])) g
def k2 (R:EP)(Xa:OA->BA->Nat->WP)(E:OA)(y:BA)(I:Nat)(g W V:Int)(U:Bool)(w:World):Prop:=
 br U
 (False)
 (br (decide (g >= 0))
 (tk w λO=>
 0<=g/\g<=(y.size:Int)/\
 0<=(i64.wrap (g+1))/\(i64.wrap (g+1))<=(y.size:Int)/\
 k3 R Xa E (y.extract (Int.toNat (i64.wrap (g+1))) y.size) I (y.extract 0 (Int.toNat g)) 10 O)
 (k3 R Xa E (hP #[]) I y V w))
def bl3 (R:EP)(V:Nat->OA->Nat->Nat->Int->Int->WP)(E:Nat)(I:OA)(U O:Nat)(y g:Int)(w:World):Prop:=
 br (decide (g<y))
 (False)
 (k4 R E w)
def l3 (R:EP)(U:Nat)(g:OA)(E y:Nat)(O I:Int)(w:World):Prop:=
 ∀X:Nat->OA->Nat->Nat->Int->Int->WP,(∀U g E y O I w,bl3 R X U g E y O I w->X U g E y O I w)->X U g E y O I w
def bl2 (R:EP)(c8:OA->Nat->OA->Nat->Nat->Int->Int->WP)(b7:OA)(y:Nat)(a7:OA)(a6 b8:Nat)(b5 g:Int)(w:World):Prop:=
 br (decide (g<b5))
 (0<=g/\g<(a6:Int)/\
 aA a7 λc2=>
 ∃I,w.cell? (c2.add (Int.toNat g*1))=some (kT I)/\
 aA I λb9=>
 ∃b6,w.cell? (b9.add 3)=some (hX b6)/\
 callE P fF #[kT (kE y),hX b6] (λe c4=> ∃U O V,e= hQ (hT U O V)/\
 aA I λc5=>
 stV c4 ((c5.add 2).add 0) (hT U O V) λc1=>
 c8 b7 y a7 a6 b8 b5 (i64.wrap (g+1)) c1) w)
 (aA b7 λc3=>
 ∃b4,w.cell? (c3.add 2)=some (hV b4)/\
 br b4
 (∃W E b3,w.cell? (hZ y 10)=some (hT W E b3)/\
 l3 R y W E b3 (E:Int) 0 w)
 (k4 R y w))
def l2 (R:EP)(U:OA)(V:Nat)(E:OA)(y g:Nat)(O I:Int)(w:World):Prop:=
 ∀X:OA->Nat->OA->Nat->Nat->Int->Int->WP,(∀U V E y g O I w,bl2 R X U V E y g O I w->X U V E y g O I w)->X U V E y g O I w
def bl1 (R:EP)(Xa:OA->BA->Nat->WP)(a6:OA)(E:BA)(I:Nat)(w:World):Prop:=
 br (!(E.toList==(hP #[]).toList))
 (callE P lV #[hX E,hX (hP #[10])] (λe b3=> ∃y,e= hQ (hY y)/\
 callE P lV #[hX E,hX (hP #[13])] (λe a7=> ∃g,e= hQ (hY g)/\
 k2 R Xa a6 E I y g 0 ((decide (g >= 0)) && ((decide (y<0))||(decide (g<y)))) a7) b3) w)
 (callE P bj #[kT (kE I),hY 0] (λe W=>e= hQ (.tuple #[])/\
 ∃V O U,W.cell? (hZ I 11)=some (hT V O U)/\
 l2 R a6 I V O U (O:Int) 0 W) w)
def l1 (R:EP)(E:OA)(g:BA)(y:Nat)(w:World):Prop:=
 ∀X:OA->BA->Nat->WP,(∀E g y w,bl1 R X E g y w->X E g y w)->X E g y w
def k1 (R:EP)(O:OA)(V:BA)(g:Nat)(w:World):Prop:=
 stV w (hZ g 5) (hY (-1)) λE=>
 box E #[] eY λU I=>
 callE P bQ #[kT (kE g),.iface iB (kT (kE U))] (λe y=>e= hQ (.tuple #[])/\
 l1 R O V g y) I
end bq
def bq (R:EP)(y:OA)(E:BA)(w:World):Prop:=
 box w #[kT none,kT none,.map none,hY 0,hT none 0 0,hY 0,hV false,hX (hP #[]),hY 0,hT none 0 0,hT none 0 0,hT none 0 0,hY 0,hY 0,hY 0,hY 0,hY 0,hY 0,hY 0,hY 0,hY 0,hY 0,hY 0,hY 0,hY 0,hY 0,hY 0,hY 0,hY 0,hY 0,hY 0,hY 0,hY 0,hY 0,hY 0,hY 0,hY 0,hY 0,hY 0,hY 0,hY 0,hY 0,hY 0,hY 0,hY 0,hY 0,hY 0,hY 0,hY 0,hY 0,hY 0,hY 0,hY 0,hY 0,hY 0,hY 0,hY 0,hY 0,hY 0,hY 0,hY 0,hY 0,hY 0,hY 0,hY 0,hY 0,hY 0,hY 0,hY 0,hY 0,hY 0,hY 0,hY 0,hY 0,hY 0,hY 0,hY 0,hY 0,hY 0,hY 0,hY 0,hY 0,hY 0,hY 0,hY 0,hY 0,hY 0,hY 0,hY 0,hY 0,hY 0,hY 0,hV false] gO λb1 I=>
 stV I (hZ b1 0) (kT y) λU=>
 callE P jb #[hX E,hX (hP #[0])] (λe O=> ∃g,e= hQ (hV g)/\
 br g
 (False)
 (bq.k1 R y E b1 O)) U
theorem bq.sound {R x0 x1 w}(h:bq R x0 x1 w):callE P lI #[kT x0,hX x1] R w:=
 aG [(87,.no),(31,.mk [2,21,126] (bq.k1 R)),(319,.lp [2,21,126] (bq.bl1 R) λXa=> [(829,.mk [2,21,126,167,187,208,680] (bq.k2 R Xa)),(1341,.no),(10045,.dr (rpN [0,3,6,9,12,15,18,21,24])),(253,.mk [2,21,126,141,208] (bq.k3 R Xa))]),(2815,.lp [2,126,1623,1647,1667] (bq.bl2 R) λy=> []),(22015,.lp [126,2023,2047,2067] (bq.bl3 R) λg=> [(9,.no)]),(2047,.mk [126] (bq.k4 R)),(3071,.dr (rpN [0,6,4,12,10,15]))] Tryz.func55 Tryz.call55 h

def Ct (s:List UInt8)(nl:UInt8:=0):Ln:=⟨0,0,0,s,nl⟩
def mh (c:UInt8):Bool:= !(cO c||c==62||c==35||c==95||c==96||c==126||c==61||c==45||c==42)
def nZ (c:UInt8):Bool:=mh c && c !=60 && !mp c
theorem Cs {nl:UInt8}{s:List UInt8}(hs:s.length<1000000000):(Ct s nl).ok:=⟨by simp[Ct],by simp[Ct],by simp[Ct];omega,by simp[Ct]⟩
theorem tM {c:UInt8}(hc:mh c=true):cO c=false:=by
 simp only[mh,lN5,lK2] at hc
 exact hc.1.1.1.1.1.1.1.1
def DN (c:UInt8):Bool:=decide (48<=c.toNat) && decide (c.toNat<=57)

def PS.coreS (p:PS):PS:=({p with s:= []}:PS).core
def PS0 (pz:Option Addr):PS:=⟨pz,none,none,0,none,0,0,0,false,[],0,none,0,0,none,0,0,none,0,0,BT.z⟩

def optV (o:Opt):Value:= .agg #[hV o.strike,hV o.task,hV o.auto,hV o.http,hV o.table,hV o.dot,hV o.dash,hV o.quote,hV o.ids,hV o.emoji]
theorem Ce {o:Opt}(h:Sat σ w L)(g: ∀w pb,Sat σ w (o.at pb::L)->R (hQ (kT (kE pb))) w):callE P mv #[optV o] R w:=by
 refine mC.sound ?_
 refine Sat.bx h λb w h=>?_
 have ld: ∀(k:Nat) (v:Bool),([hV o.strike,hV o.task,hV o.auto,hV o.http,hV o.table,hV o.dot,hV o.dash,hV o.quote,hV o.ids,hV o.emoji])[k]? =some (hV v)->w.cell? (hZ b k)=some (hV v):=λk v hv=>Sat.ld h (.head _) hv
 refine⟨_,ld 8 _ rfl,_,ld 0 _ rfl,_,ld 1 _ rfl,_,ld 2 _ rfl,_,ld 3 _ rfl,_,ld 4 _ rfl,_,ld 9 _ rfl,_,ld 5 _ rfl,_,ld 6 _ rfl,_,ld 7 _ rfl,?_⟩
 refine Sat.bx h λpb w h=>g w pb ?_
 have h:Sat σ w (o.at pb::(b,cel [hV o.strike,hV o.task,hV o.auto,hV o.http,hV o.table,hV o.dot,hV o.dash,hV o.quote,hV o.ids,hV o.emoji] fp)::L):=h
 exact(h.less [(b,cel [hV o.strike,hV o.task,hV o.auto,hV o.http,hV o.table,hV o.dot,hV o.dash,hV o.quote,hV o.ids,hV o.emoji] fp)])

theorem PS.pz_of {p p0:PS}(h:p.coreS=p0.coreS):p.pz=p0.pz:=by have:=congrArg PS.pz h;exact this
theorem PS.coreS_of {p' p p0:PS}(y:p'.core=p.core)(g:p.coreS=p0.coreS):p'.coreS=p0.coreS:=by
 rw[<-g]
 have:=congrArg (λq:PS=>({q with s:= []}:PS)) y
 exact this
def iX (R:EP)(E:Int)(w:World):Prop:=
 callE P iJ #[hX (hP #[95,42,126,34,39]),.int .u8 E] (λe y=> ∃g,e= hQ (hY g)/\
 R (hQ (hY g)) y) w
theorem iX.sound {R x0 w}(h:iX R x0 w):callE P fH #[.int .u8 x0] R w:=
 cE Tryz.func177 Tryz.call177 h
namespace cy
def k1 (R:EP)(Xa:Nat->Nat->Int->WP)(b7:Nat->Nat->OA->Int->WP)(b8 b9:Nat)(g:OA)(c1:Int)(w:World):Prop:=
 tk w λy=>
 aA g λa14=>
 aA g λb6=>
 ∃a6 E O,y.cell? a14=some (hT a6 E O)/\
 ∃b3 U a7,y.cell? b6=some (hT b3 U a7)/\
 ∃W I V,(∀w,(Instr.sliceAt cK (hT a6 E O) none (some (hY (i64.wrap ((U:Int) - 1)))) none).run P w= .ok (hT W I V) w)/\
 aA g λb5=>
 stV y (b5.add 0) (hT W I V) λb4=>
 b7 b8 b9 g c1 b4
def bl2 (R:EP)(Xa:Nat->Nat->Int->WP)(c3:Nat->Nat->OA->Int->WP)(U E:Nat)(I:OA)(O:Int)(w:World):Prop:=
 tk w λg=>
 aA I λa2=>
 ∃b8 W b9,g.cell? a2=some (hT b8 W b9)/\
 br (decide ((W:Int)>0))
 (aA I λa4=>
 aA I λa5=>
 ∃b3 a6 c2,g.cell? a4=some (hT b3 a6 c2)/\
 ∃c1 y b7,g.cell? a5=some (hT c1 y b7)/\
 0<=(i64.wrap ((y:Int) - 1))/\(i64.wrap ((y:Int) - 1))<(a6:Int)/\
 aA b3 λa8=>
 ∃b4,g.cell? (a8.add (Int.toNat (i64.wrap ((y:Int) - 1))*1))=some (kT b4)/\
 aA b4 λa10=>
 ∃a7,g.cell? (a10.add 3)=some (hY a7)/\
 ∃b5 V b6,g.cell? (hZ E 0)=some (hT b5 V b6)/\
 br (decide (a7 >= (V:Int)))
 (k1 R Xa c3 U E I O g)
 (Xa U E (i64.wrap (O+1)) g))
 (Xa U E (i64.wrap (O+1)) g)
def l2 (R:EP)(Xa:Nat->Nat->Int->WP)(E g:Nat)(y:OA)(I:Int)(w:World):Prop:=
 ∀X:Nat->Nat->OA->Int->WP,(∀E g y I w,bl2 R Xa X E g y I w->X E g y I w)->X E g y I w
def bl1 (R:EP)(Xa:Nat->Nat->Int->WP)(y E:Nat)(g:Int)(w:World):Prop:=
 br (decide (g<5))
 (0<=g/\g<(5:Int)/\
 l2 R Xa y E (some (((hZ y 0):Addr).add (Int.toNat g*1))) g w)
 (R (hQ (.tuple #[])) w)
def l1 (R:EP)(y g:Nat)(E:Int)(w:World):Prop:=
 ∀X:Nat->Nat->Int->WP,(∀y g E w,bl1 R X y g E w->X y g E w)->X y g E w
end cy
def cy (R:EP)(y g:Nat)(w:World):Prop:=
 cy.l1 R y g 0 w
theorem cy.sound {R x0 x1 w}(h:cy R x0 x1 w):callE P fG #[kT (kE x0),kT (kE x1)] R w:=
 aG [(5,.lp [6,26,87] (cy.bl1 R) λXa=> [(179,.lp [6,26,62,87] (cy.bl2 R Xa) λg=> [(4,.dr (rpN [0,3,7,9,12,15,18,21,27,30,25,34,36,39,42,46,48,51,55,58,60,63,66])),(3,.mk [6,26,62,87] (cy.k1 R Xa g)),(5,.dr (rpN [0,3,6,12,15,10,19,21,24,27,30,35]))])])] Tryz.func179 Tryz.call179 h

theorem Sl.trunc {e:TypeId}{q:Option Addr}{n c k:Nat}{vs:List Value}{M:List ai}(h:Sl 1 e q n c vs M)(E:k<=n):Sl 1 e q k c (vs.take k) M:=by
 obtain⟨I,y,⟨rfl,rfl,rfl,rfl⟩|⟨b,sp,rfl,rfl,g⟩⟩:=h
 ·have:k=0:=by omega
  subst this
  exact⟨by simp,by omega,.inl ⟨rfl,rfl,rfl,rfl⟩⟩
 ·refine⟨by rw[lE1];omega,by omega,.inr ⟨b,vs.drop k++sp,rfl,?_,?_⟩⟩
  ·rw[<-lD0,lY1]
  ·rw[<-lD0,lY1];exact g
structure STK where
 q:Option Addr
 n:Nat
 c:Nat
 ent:List (Nat × Nat)
def Hy (e:Nat × Nat):Value:= kT (kE e.1)
def STK.ok (s:STK)(M:List ai):Prop:=Sl 1 aT s.q s.n s.c (s.ent.map Hy) M
def StksAt:List STK->List ai->Prop
 | [],M=>M= []
 |s::S,M=> ∃y g,M=y++g/\s.ok y/\StksAt S g
theorem StksAt.split: ∀ {A:List STK} {s:STK} {B:List STK} {M:List ai},StksAt (A++s::B) M-> ∃g y U,M=g++(y++U)/\StksAt A g/\s.ok y/\StksAt B U
 | [],s,B,M,h=>by obtain⟨g,y,rfl,I,E⟩:=h;exact⟨[],g,y,rfl,rfl,I,E⟩
 |a::A,s,B,M,h=>by
  obtain⟨g,y,rfl,I,E⟩:=h
  obtain⟨O,a6,b3,rfl,V,a7,W⟩:=E.split
  exact⟨g++O,a6,b3,by simp,⟨g,O,rfl,I,V⟩,a7,W⟩
theorem StksAt.join: ∀ {A:List STK} {s:STK} {B:List STK} {E g y:List ai},StksAt A E->s.ok g->StksAt B y->StksAt (A++s::B) (E++(g++y))
 | [],s,B,E,g,y,h1,h2,h3=>by cases h1;exact⟨g,y,rfl,h2,h3⟩
 |a::A,s,B,E,g,y,h1,h2,h3=>by
  obtain⟨I,U,rfl,V,O⟩:=h1
  exact⟨I,U++(g++y),by simp,V,O.join h2 h3⟩
def GP (s:STK):Value:= hT s.q s.n s.c
def kw (b:Nat)(S:List STK):ai:=(b,cel (S.map GP) jf)
def me (m:Nat)(g:List (Nat × Nat)):List (Nat × Nat):=(g.reverse.dropWhile λe=>decide (m<=e.2)).reverse
theorem BK (m:Nat):me m []= []:=rfl
theorem ub (m:Nat)(g:List (Nat × Nat))(e:Nat × Nat):me m (g++ [e])=if m<=e.2 then me m g else g++ [e]:=by
 unfold me
 rw[lE5]
 simp only[lR4,lT5,lT0,lR2,lA3]
 split
 ·rename_i h;rw[if_pos (by simpa using h)]
 ·rename_i h;rw[if_neg (by simpa using h)];simp
def STK.trim (m:Nat)(s:STK):STK:= {s with n:=(me m s.ent).length,ent:=me m s.ent}
theorem qZ (m:Nat)(g:List (Nat × Nat)):me m g=g.take (me m g).length:=by
 have:me m g<+:g:=by
  unfold me
  have:=lU4 (λe:Nat × Nat=>decide (m<=e.2)) (l:=g.reverse)
  have:=List.reverse_prefix.2 this
  simpa using this
 exact(List.prefix_iff_eq_take.1 this)
def DE (g:List (Nat × Nat))(L:List ai):Prop:= ∀e∈g,∃cs ty,(e.1,cel cs ty)∈L/\cs[3]? =some (hY (e.2:Nat))
noncomputable def rowEP:Row P cK aT 1 8:=
 ⟨(P.info? aT).getD default,((P.info? aT).bind (·.zero)).getD default,by kernel_rfl,by kernel_rfl,by kernel_rfl,by kernel_rfl,by kernel_rfl,by kernel_rfl,by decide⟩
theorem mg {b j:Nat}{A B:List STK}{s:STK}(h:Sat σ w (kw b (A++s::B)::L))(g:j=A.length):w.cell? (hZ b j)=some (hT s.q s.n s.c):=by
 refine Sat.ld h (.head _) ?_
 rw[lV0,lH0 (by simp;omega)]
 simp[g,GP]
theorem wr {b j:Nat}{A B:List STK}{s s':STK}{K:World->Prop}(h:Sat σ w (kw b (A++s::B)::L))(E:j=A.length)(y: ∀g,Sat σ g (kw b (A++s'::B)::L)->K g):stV w (hZ b j) (hT s'.q s'.n s'.c) K:=by
 refine Sat.st h (k:=0) rfl (by simp;omega) trivial rfl λw h=>y w ?_
 have e:((A++s::B).map GP).set j (hT s'.q s'.n s'.c)=(A++s'::B).map GP:=by
  rw[lV0,lV0,lP1 _ _ (by simp;omega)]
  simp[E,GP]
 show Sat σ w ((b,cel ((A++s'::B).map GP) jf)::L)
 rw[<-e];exact h
theorem Ap {O b1 m b7:Nat}{b8:Option Addr}{S:List STK}{g:List ai}(g0:S.length=5)(y:StksAt S g)(g2: ∀s∈S,DE s.ent L)(e6: ∀s∈S,s.ent.length<1000000000)(h:Sat σ w (kw O S::(b1,cel [hT b8 m b7] ap)::(g++L)))(f6: ∀w d2,StksAt (S.map (STK.trim m)) d2->Sat σ w (kw O (S.map (STK.trim m))::(b1,cel [hT b8 m b7] ap)::(d2++L))->R (hQ (.tuple #[])) w):
 callE P fG #[kT (kE O),kT (kE b1)] R w:=by
 refine cy.sound ?_
 intro X e3
 have e9: ∀(B A:List STK) (g:List ai) w,A.length+B.length=5->S=A++B->StksAt (A.map (STK.trim m)++B) g->Sat σ w (kw O (A.map (STK.trim m)++B)::(b1,cel [hT b8 m b7] ap)::(g++L))->X O b1 (A.length:Nat) w:=by
  intro B
  induction B with
  |nil=>
   intro A g w d0 b5 y h
   refine e3 _ _ _ _ (af (by simp at d0;simp;omega) ?_)
   have e:S.map (STK.trim m)=A.map (STK.trim m)++ []:=by rw[b5];simp
   rw[<-e] at y h
   exact f6 w g y h
  |cons s B e4=>
   intro A g w d0 b5 y h
   have hs:s∈S:=by rw[b5];simp
   have V:(A.map (STK.trim m)).length=A.length:=by simp
   simp at d0
   refine e3 _ _ _ _ (ag (by simp;omega) ⟨by omega,by omega,?_⟩)
   simp only[lK0,lC0,lC1,lO0]
   intro Y e0
   have inner: ∀(E:List (Nat × Nat)) (s':STK) (g:List ai) w,s'.ent=E->DE E L->E.length<1000000000->me m E=me m s.ent->s'.q=s.q->s'.c=s.c->StksAt (A.map (STK.trim m)++s'::B) g->
    Sat σ w (kw O (A.map (STK.trim m)++s'::B)::(b1,cel [hT b8 m b7] ap)::(g++L))->Y O b1 (some (hZ O A.length)) (A.length:Nat) w:=by
    intro E
    induction hn:E.length generalizing E with
    |zero=>
     intro s' g w I c5 d1 ht a6 hc y h
     have f0:E= []:=lB1 hn
     subst f0
     obtain⟨b6,a7,b9,rfl,c4,U,c2⟩:=y.split
     have c8:s'.n=0:=by have:=U.1;rw[I] at this;simp at this;omega
     refine e0 _ _ _ _ _ ?_
     refine h.tk λw h=>?_
     refine aa ⟨_,_,_,mg h V.symm,?_⟩
     rw[c8]
     refine af rfl ?_
     have c3:i64.wrap ((A.length:Int)+1)=((A.length+1:Nat):Int):=aN (by omega)
     rw[c3]
     have b4:s'=STK.trim m s:=by
      unfold STK.trim
      rw[<-ht]
      cases s';simp only at I c8 a6 hc⊢
      subst I c8 a6 hc
      try rfl
     have:=e4 (A++ [s]) (b6++(a7++b9)) w (by simp;omega) (by rw[b5];simp) (by rw[lV0,lD0];have:=c4.join U c2;rw[b4] at this;exact this) (by
      rw[lV0,lD0];rw[b4] at h;exact h)
     rw[lA0] at this
     exact this
    |succ k e8=>
     intro s' g w I c5 d1 ht a6 hc y h
     obtain⟨W,e,rfl⟩: ∃W e,E=W++ [e]:=by
      rcases lX1 E with rfl|⟨W,e,rfl⟩
      ·simp at hn
      ·exact⟨W,e,by simp⟩
     simp at hn
     obtain⟨b6,a7,b9,rfl,c4,U,c2⟩:=y.split
     have c1:s'.n=k+1:=by have:=U.1;rw[I] at this;simp at this;omega
     obtain⟨cs,ty,g1,f2⟩:=c5 e (by simp)
     refine e0 _ _ _ _ _ ?_
     refine h.tk λw h=>?_
     refine aa ⟨_,_,_,mg h V.symm,?_⟩
     rw[c1]
     refine ag (by simp<;>omega) (aa (aa ?_))
     refine⟨_,_,_,mg h V.symm,_,_,_,mg h V.symm,?_⟩
     have c3:i64.wrap (((s'.n:Nat):Int) - 1)=(k:Int):=by rw[c1];simp (disch:=omega) only[i64_in];omega
     rw[c3]
     refine⟨by omega,by omega,?_⟩
     have f1:(s'.ent.map Hy)[k]? =some (kT (kE e.1)):=by
      rw[I,lV0,lH0 (by simp;omega)];simp[hn,Hy]
     have f3:Sat σ w (a7++(kw O (A.map (STK.trim m)++s'::B)::(b1,cel [hT b8 m b7] ap)::(b6++(b9++L)))):=h.re
     refine Sl.loadAt U f3 f1 λg5 g3 e5=>?_
     simp only[lK0,lC0,lC1,lO0]
     refine⟨_,e5,aa ?_⟩
     simp only[lK0,lO0]
     refine⟨_,Sat.ld h (.tail _ (.tail _ (lB0 _ g1))) f2,?_⟩
     refine⟨_,_,_,Sat.ld h (.tail _ (.head _)) rfl,?_⟩
     rw[ub] at ht
     by_cases d3:m<=e.2
     ·rw[if_pos d3] at ht
      refine ag (by simp;omega) ?_
      refine h.tk λw h=>?_
      refine aa (aa ?_)
      refine⟨_,_,_,mg h V.symm,_,_,_,mg h V.symm,?_⟩
      rw[c3]
      have g4:=U.2.1
      refine⟨_,_,_,λw=>rf rowEP.ht rowEP.hi _ _ _ k (by omega) w,aa ?_⟩
      let c9:STK:=⟨s'.q,k,s'.c,W⟩
      have e7:c9.ok a7:=by
       have:=U.trunc (k:=k) (by omega)
       rw[I,lV0,lR3 (by rw[lS0];omega),lC2 (by rw[lS0];omega)] at this
       exact this
      simp only[lK0,lO0,lN1]
      refine wr (s':=c9) h V.symm λw h=>?_
      exact e8 W hn c9 (b6++(a7++b9)) w rfl (λx f4=>c5 x (by simp[f4])) (by first|omega|(simp at d1;omega)|(have:=hn;omega)) ht a6 hc (c4.join e7 c2) h
     ·rw[if_neg d3] at ht
      refine af (by simp;omega) ?_
      have f5:i64.wrap ((A.length:Int)+1)=((A.length+1:Nat):Int):=aN (by omega)
      rw[f5]
      have b4:s'=STK.trim m s:=by
       unfold STK.trim
       rw[<-ht]
       cases s';simp only at I c1 a6 hc⊢
       subst I c1 a6 hc;simp[hn]
      have:=e4 (A++ [s]) (b6++(a7++b9)) w (by simp;omega) (by rw[b5];simp) (by rw[lV0,lD0];have:=c4.join U c2;rw[b4] at this;exact this) (by
       rw[lV0,lD0];rw[b4] at h;exact h)
      rw[lA0] at this
      exact this
   exact inner s.ent s g w rfl (g2 s hs) (e6 s hs) rfl rfl rfl y h
 exact e9 S [] g w (by simpa using g0) rfl y h

def DRow (W:Option Addr)(O:Nat)(y I:List Value)(E:Nat)(b4:Option Addr)(b5 sc:Nat)(a7 V:List ai):Prop:=
 I.length+E=b5/\y.length<=O/\
 ((∃g junk sp,W=kE g/\b4=kE g/\V= [(g,cel (y++(junk++(I++sp))) aC)]/\y.length+junk.length=E/\E+I.length+sp.length=O)\/
  (∃b3,Sl 1 aC W y.length O y b3/\V=b3++a7/\ ∀j v,I[j]? =some v-> ∃g a6 U e,b4=some (hZ g a6)/\(g,cel U e)∈a7/\U[a6+E+j]? =some v))
theorem DRow.read {a7 U:Option Addr}{a6 E W sc:Nat}{I V:List Value}{v:Value}{b3 O:List ai}(b4:DRow a7 a6 I (v::V) E U W sc b3 O)(h:Sat σ w (O++L)): ∃g y,U=some (hZ g y)/\w.cell? ⟨g,y+E,none⟩=some v:=by
 obtain⟨_,_,⟨g,junk,sp,rfl,rfl,rfl,c1,b7⟩|⟨b9,b8,rfl,hr⟩⟩:=b4
 ·refine⟨g,0,rfl,h.ld (.head _) ?_⟩
  rw[lH0 (by omega),lH0 (by omega),show 0+E - I.length - junk.length=0 by omega]
  rfl
 ·obtain⟨g,y,b6,e,rfl,b5,hc⟩:=hr 0 v rfl
  exact⟨g,y,rfl,h.ld (lD1 _ (lB0 _ b5)) hc⟩
theorem DRow.consume {b3 b5:Option Addr}{W I V sc:Nat}{E O:List Value}{v:Value}{b4 a7:List ai}(b9:DRow b3 W E (v::O) I b5 V sc b4 a7):DRow b3 W E O (I+1) b5 V sc b4 a7:=by
 obtain⟨h0,U,⟨g,junk,sp,rfl,rfl,rfl,a6,y⟩|⟨c1,b8,rfl,hr⟩⟩:=b9
 ·refine⟨by simp at h0;omega,U,.inl ⟨g,junk++ [v],sp,rfl,rfl,by simp,by simp;omega,by simp at y;omega⟩⟩
 ·refine⟨by simp at h0;omega,U,.inr ⟨c1,b8,rfl,λj c3 hv=>?_⟩⟩
  obtain⟨g,c2,b6,e,a6,y,b7⟩:=hr (j+1) c3 (by simpa using hv)
  exact⟨g,c2,b6,e,a6,y,by rw[<-b7];congr 1;omega⟩
theorem DRow.take {V a6:Option Addr}{O E I sc k:Nat}{g y:List Value}{W U:List ai}(b5:DRow V O g y E a6 I sc W U)(a7:k<=g.length):DRow V O (g.take k) y E a6 I sc W U:=by
 obtain⟨h0,b8,⟨b7,junk,sp,rfl,rfl,rfl,b9,b3⟩|⟨b6,b4,rfl,hr⟩⟩:=b5
 ·refine⟨h0,by rw[lE1];omega,.inl ⟨b7,g.drop k++junk,sp,rfl,rfl,?_,by rw[lE1,lA0,lM1];omega,b3⟩⟩
  have e:g.take k++((g.drop k++junk)++(y++sp))=g++(junk++(y++sp)):=by
   rw[lD0,<-lD0 (g.take k),lY1]
  rw[e]
 ·refine⟨h0,by rw[lE1];omega,.inr ⟨b6,?_,rfl,hr⟩⟩
  have:=b4.trunc (k:=k) a7
  rw[lE1,lG6 a7]
  exact this
theorem DRow.app {ty:TypeId}{d0 d2:Option Addr}{c4 V c3 sc:Nat}{y b5:List Value}{U a6:List ai}{t:TypeId}{b:Nat}(e1:DRow d0 c4 y b5 V d2 c3 sc U a6)(h:Sat σ w (a6++L))(e7:y.length<V)(e6:y.length<1000000000){C:World->Prop}(c2: ∀g X,Sat σ g (X::(a6++L))->C g){K:Option Addr->Nat->Nat->World->Prop}(b9: ∀b3 a7 b4 E,DRow b3 a7 (y++ [gZ t b]) b5 V d2 c3 sc U b4->Sat σ E (b4++L)->K b3 (y.length+1) a7 E):
 ∃c8 b7 d3 g,(Instr.buildSlice ap 1 #[(0,gZ t b)]).run P w= .ok (hT c8 b7 d3) g/\C g/\
  ∃I c5 O d1,(Builtin.append_ #[ap,ap] ty #[hT d0 y.length c4,hT c8 b7 d3]).run P g= .ok (hT I c5 O) d1/\K I c5 O d1:=by
 obtain⟨h0,e5,⟨e0,junk,sp,rfl,rfl,rfl,e3,e4⟩|⟨e2,b8,rfl,hr⟩⟩:=e1
 ·refine Dt rowInl h (v:=gZ t b) (by simp;omega) (by omega) rfl rfl (AY t _) (C:=C) (λg X W=>c2 g X W) λE h=>?_
  have c1:junk≠ []:=by intro h;subst h;simp at e3;omega
  rw[ve c1] at h
  refine b9 _ _ _ E ⟨h0,by simp;omega,.inl ⟨e0,junk.drop 1,sp,rfl,rfl,rfl,?_,e4⟩⟩ h
  have:=lY0.2 c1
  simp;omega
 ·have e8:=b8.1
  have h:Sat σ w (e2++(U++L)):=h.re
  refine Sat.app1S rowInl b8 h (v:=gZ t b) rfl (by simp[gZ,Value.cells,Value.oneCell']) (AY _ _) (by omega) (by omega) (by decide) (C:=C) (λg X W=>c2 g X (W.re)) λI O E c9 b6 h=>?_
  refine b9 I O (c9++U) E ⟨h0,?_,.inr ⟨c9,?_,rfl,hr⟩⟩ (h.re)
  ·have:=b6.2.1;simp;omega
  ·rw[lA0];exact b6
theorem DRow.cells {I b4:Option Addr}{W O V sc:Nat}{y U:List Value}{a6 E:List ai}(b3:DRow I W y U O b4 V sc a6 E)(h0:0<y.length): ∃(g:Nat) (cs:List Value),I=kE g/\(g,cel cs aC)∈E/\ ∀(j:Nat) (v:Value),y[j]? =some v->cs[j]? =some v:=by
 obtain⟨_,_,⟨g,junk,sp,rfl,rfl,rfl,b7,b5⟩|⟨b6,a7,rfl,hr⟩⟩:=b3
 ·exact⟨g,_,rfl,.head _,λj v hv=>by rw[lM0 (lL0.1 hv).1];exact hv⟩
 ·obtain⟨g,sp,rfl,rfl⟩:=a7.rowAt h0
  exact⟨g,_,rfl,lD1 _ (.head _),λj v hv=>by rw[lM0 (lL0.1 hv).1];exact hv⟩
theorem DRow.copy {b6 d1:Option Addr}{I b9 c5 sc k:Nat}{g c1:List Value}{c9 E:List ai}(a6:DRow b6 I g c1 b9 d1 c5 sc c9 E)(h:Sat σ w (E++L))(e0:k<g.length)(d3:g.length<1000000000)(d0: ∀v∈g,v.oneCell'=true){C:World->Prop}(c4: ∀b7 X,Sat σ b7 (X++(E++L))->C b7){K:Option Addr->Nat->Nat->World->Prop}(c2: ∀q n c y M,Sl 1 aC q n c (g.drop k) M->Sat σ y (M++(E++L))->K q n c y):
 ∃W r2 U,(∀w,(Instr.sliceAt ap (hT b6 g.length I) (some (hY k)) none none).run P w= .ok (hT W r2 U) w)/\
  ∃q n c y,(Builtin.append_ #[ap,ap] ap #[hT none 0 0,hT W r2 U]).run P w= .ok (hT q n c) y/\C y/\K q n c y:=by
 obtain⟨c3,cs,rfl,c8,hc⟩:=a6.cells (by omega)
 have d2:=a6.2.1
 refine⟨_,_,_,λw=>zE rowInl.ht rowInl.hi _ g.length I k (by omega) w,?_⟩
 rw[if_neg (by omega),rowInl.hs]
 simp only[lI3,lK0,lO0,lC1]
 have b8:Src P 1 ap (hT (some (hZ c3 k)) (g.length - k) (I - k)) (g.length - k) (g.drop k) w:=by
  refine Src.ofSlice w rowInl.ht _ _ _ _ (by simp) (λj u a7=>?_) (λv hv=>d0 v (lW4 hv))
  rw[lK0]
  refine h.ld (lD1 _ c8) (hc _ _ ?_)
  rw[lL4] at a7
  exact a7
 obtain⟨b4,b5,y,b3,hr,O,V,_⟩:=Sat.app rowInl (ty:=ap) (Sl.nil 1 aC) (M:= []) (L:=E++L) h b8 (.inl (by omega)) (by omega) (by omega)
 rw[lT0] at O
 exact⟨b4,_,b5,y,hr,c4 _ b3 V,c2 b4 _ b5 y b3 O V⟩

def qU (I O:Bool)(n:Int)(E y:Bool)(g:Int):Bool:=(I && O||E && y) && (Int.tmod (n+g) 3==0 && (Int.tmod n 3 !=0||Int.tmod g 3 !=0))
def Di (O U:Bool)(n:Int)(g:List Inl)(j:Nat):Bool:=match g[j]? with
 |some (.emphP _ E y _ I)=> !qU O U n E y I
 |_=>false
def Aq (m:Nat)(l:List Nat):List Nat:=(l.reverse.dropWhile λe=>decide (m<=e)).reverse
def j4 (y:Nat)(g I:Bool)(n:Int):Nat->List UInt8->List Inl->List (List Nat)->List UInt8 × List Inl × List (List Nat)
 |0,t,dst,st=>(t,dst,st)
 |f+1,t,dst,st=>if t= [] then (t,dst,st) else match (st.getD y []).reverse.find? (Di g I n dst) with
  |none=>(t,dst,st)
  |some j=>match dst[j]? with
   |some (.emphP s U O W V)=>
    let d:=if 2<=t.length/\2<=s.length then 2 else 1
    let s':=s.take (s.length - d)
    let E:=dst.take j++(if s'= [] then [] else [.emphP s' U O W V])
    let x:=if d=2 then Inl.strong (t.take d) (dst.drop (j+1)) else .emph (t.take d) (dst.drop (j+1))
    j4 y g I n f (t.drop d) (E++ [x]) (st.map (Aq E.length))
   |_=>(t,dst,st)
def tG (c:UInt8):Nat:=if c=95 then 0 else 1
def dT:List Inl->List (List Nat)->List Inl->List Inl
 |dst,_,[]=>dst
 |dst,st,t::ts=>match t with
  | .openP s _=>dT (dst++ [.plain s]) st ts
  | .emphP s co cc i n=>
   let g:=tG (s.headD 0)
   let r:=if cc then j4 g co cc n s.length s dst st else (s,dst,st)
   if r.1= [] then dT r.2.1 r.2.2 ts
   else if co then dT (r.2.1++ [.emphP r.1 co cc r.2.1.length n]) (r.2.2.set g (r.2.2.getD g []++ [r.2.1.length])) ts
   else dT (r.2.1++ [.plain r.1]) r.2.2 ts
  |t=>dT (dst++ [t]) st ts
def xG (ts:List Inl):List Inl:=dT [] [[],[],[],[],[]] ts
theorem InlsAt.get: ∀ {ts:List Inl} {vs:List Value} {M:List ai} {j:Nat} {t:Inl},InlsAt ts vs M->ts[j]? =some t-> ∃v g,vs[j]? =some v/\InlAt t v g/\ ∀c∈g,c∈M
 | [],vs,M,j,t,h,hj=>by simp at hj
 |t'::ts,vs,M,0,t,h,hj=>by
  obtain⟨v,O,E,U,rfl,rfl,I,y⟩:=h
  simp at hj;subst hj
  exact⟨v,E,rfl,I,λc hc=>lD1 _ hc⟩
 |t'::ts,vs,M,j+1,t,h,hj=>by
  obtain⟨v,O,E,U,rfl,rfl,I,y⟩:=h
  obtain⟨W,g,V,a7,a6⟩:=y.get (by simpa using hj)
  exact⟨W,g,by simpa using V,a7,λc hc=>lB0 _ (a6 c hc)⟩
def emC (b:Nat)(t:List UInt8)(y g:Bool)(i n:Int)(e:TypeId):ai:=(b,cel [hX (bs t),hV y,hV g,hY i,hY n] e)
def EntIn (y:List Inl)(g:List Value)(e:Nat × Nat):Prop:= ∃t I E n,y[e.2]? =some (.emphP t I E (e.2:Nat) n)/\g[e.2]? =some (gZ aT e.1)/\0<=n/\n<=1000000000/\t≠ []/\t.length<1000000000
def StkIn (y:List Inl)(g:List Value)(S:List STK):Prop:= ∀s∈S,s.ent.length<1000000000/\s.ent.Pairwise (λa b=>a.2<b.2)/\ ∀e∈s.ent,EntIn y g e
def uw (S:List STK):List (List Nat):=S.map λs=>s.ent.map Prod.snd
theorem rU {t:TypeId}{a b:Nat}(h:gZ t a=gZ t b):a=b:=by
 simp only[gZ,Value.iface.injEq,Value.pointer.injEq,lG1,Addr.mk.injEq,true_and,and_true] at h
 exact h
theorem EntIn.chunk {E:List Inl}{I:List Value}{O:List ai}{e:Nat × Nat}(b4:InlsAt E I O)(h:EntIn E I e): ∃t g y n ty,E[e.2]? =some (.emphP t g y (e.2:Nat) n)/\emC e.1 t g y (e.2:Nat) n ty∈O/\0<=n/\n<=1000000000/\t≠ []/\t.length<1000000000:=by
 obtain⟨t,g,y,n,U,a6,W,b5,a7⟩:=h
 obtain⟨v,b7,V,b3,b6⟩:=b4.get U
 rw[a6] at V
 obtain rfl:=Option.some.inj V
 obtain⟨b,ty,hb,rfl⟩:=b3
 have:=rU hb
 subst this
 exact⟨t,g,y,n,ty,U,b6 _ (.head _),W,b5,a7⟩
theorem zz {m:Nat}{y:List (Nat × Nat)}(h:y.Pairwise λa b=>a.2<b.2): ∀e∈me m y,e.2<m:=by
 induction hn:y.length generalizing y with
 |zero=>rw[lB1 hn];intro e g;simp[BK] at g
 |succ k E=>
  rcases lX1 y with rfl|⟨I,x,rfl⟩
  ·simp at hn
  ·rw[lG2] at*
   rw[lL6] at h
   rw[ub]
   split
   ·exact E h.1 (by simp at hn;omega)
   ·rename_i O
    intro e g
    rcases lP0.1 g with g|g
    ·have:=h.2.2 e g x (by simp);omega
    ·simp at g;subst g;omega
theorem BJ {m:Nat}{g:List (Nat × Nat)}{e:Nat × Nat}(h:e∈me m g):e∈g:=by
 rw[qZ] at h
 exact lX4 h
theorem BM (m:Nat)(g:List (Nat × Nat)):(me m g).length<=g.length:=by
 unfold me
 have:=(lO2 (λe:Nat × Nat=>decide (m<=e.2)) (l:=g.reverse)).length_le
 simpa using this
theorem DW {m:Nat}{g:List (Nat × Nat)}(h:g.Pairwise λa b=>a.2<b.2):(me m g).Pairwise λa b=>a.2<b.2:=by
 rw[qZ]
 exact h.sublist (List.take_sublist ..)
theorem BL (m:Nat)(g:List (Nat × Nat)):(me m g).map Prod.snd=Aq m (g.map Prod.snd):=by
 unfold me Aq
 rw[<-List.map_reverse (l:=g),List.dropWhile_map,List.map_reverse]
 rfl
theorem CJ (m:Nat)(S:List STK):uw (S.map (STK.trim m))=(uw S).map (Aq m):=by
 simp[uw,STK.trim,Function.comp_def,BL]
def EM (σ:Out)(b1 b7 pb:Nat)(t:List UInt8)(b6 c1:Bool)(b5 n:Int)(b4:TypeId)(y:List Inl)(S:List STK)(a6:List Value)(W:Nat)(b9:Option Addr)(a7 sc:Nat)(b8:List ai)(L:List ai)(w:World):Prop:=
 ∃O E g U V I,InlsAt y g U/\StksAt S V/\S.length=5/\StkIn y g S/\DRow O E g a6 W b9 a7 sc b8 I/\y.length<1000000000/\
  Sat σ w (emC pb t b6 c1 b5 n b4::kw b7 S::(b1,cel [hT O g.length E] ap)::(V++(U++(I++L))))
theorem EM.tick {b1 W pb:Nat}{t:List UInt8}{V U:Bool}{a6 n:Int}{I:TypeId}{E:List Inl}{S:List STK}{y:List Value}{g:Nat}{b4:Option Addr}{O sc:Nat}{a7:List ai}(h:EM σ b1 W pb t V U a6 n I E S y g b4 O sc a7 L w):
 EM σ b1 W pb t V U a6 n I E S y g b4 O sc a7 L (tick w):=by
 obtain⟨c9,b8,b5,c3,d0,c8,c4,c5,b6,b9,c1,b7,c2⟩:=h
 exact⟨c9,b8,b5,c3,d0,c8,c4,c5,b6,b9,c1,b7,c2.tick⟩
theorem FT {pb sb:Nat}{n g:Int}(b8:0<=n/\n<=1000000000)(b7:0<=g/\g<=1000000000)(a7:w.cell? (hZ pb 4)=some (hY n))(W:w.cell? (hZ sb 4)=some (hY g)){A B:Prop}(h:if Int.tmod (n+g) 3==0 && (Int.tmod n 3 !=0||Int.tmod g 3 !=0) then A else B):
 aA (some ((hZ pb 0):Addr)) λb4=>aA (some ((hZ sb 0):Addr)) λb6=> ∃(V:Int),w.cell? (b4.add 4)=some (hY V)/\ ∃(I:Int),w.cell? (b6.add 4)=some (hY I)/\
  (3:Int)≠0/\br ((Int.tmod (i64.wrap (V+I)) 3)==0)
   (aA (some ((hZ pb 0):Addr)) λb5=> ∃(U:Int),w.cell? (b5.add 4)=some (hY U)/\(3:Int)≠0/\br ((Int.tmod U 3) !=0) A
    (aA (some ((hZ sb 0):Addr)) λb3=> ∃(O:Int),w.cell? (b3.add 4)=some (hY O)/\(3:Int)≠0/\br ((Int.tmod O 3) !=0) A B)) B:=by
 refine aa (aa ⟨n,a7,g,W,by decide,?_⟩)
 rw[i64_in _ (by omega)]
 cases y:(Int.tmod (n+g) 3==0) with
 |false=>rw[y] at h;exact af rfl (by simpa using h)
 |true=>
  refine ag rfl (aa ⟨n,a7,by decide,?_⟩)
  cases E:(Int.tmod n 3 !=0) with
  |true=>rw[y,E] at h;exact ag rfl (by simpa using h)
  |false=>
   refine af rfl (aa ⟨g,W,by decide,?_⟩)
   cases a6:(Int.tmod g 3 !=0) with
   |true=>rw[y,E,a6] at h;exact ag rfl (by simpa using h)
   |false=>rw[y,E,a6] at h;exact af rfl (by simpa using h)
theorem G2 {sb:Nat}{y g:Bool}(W:w.cell? (hZ sb 1)=some (hV y))(V:w.cell? (hZ sb 2)=some (hV g)){T B:Prop}(h:if y && g then T else B):
 aA (some ((hZ sb 0):Addr)) λU=> ∃(E:Bool),w.cell? (U.add 1)=some (hV E)/\br E (aA (some ((hZ sb 0):Addr)) λO=> ∃(I:Bool),w.cell? (O.add 2)=some (hV I)/\br I T B) B:=by
 refine aa ⟨y,W,?_⟩
 cases y with
 |false=>exact af rfl (by simpa using h)
 |true=>
  refine ag rfl (aa ⟨g,V,?_⟩)
  cases g with
  |false=>exact af rfl (by simpa using h)
  |true=>exact ag rfl (by simpa using h)

theorem BO {w:World}{K A:World->Prop}(y:A (tick w))(h: ∀g,A g->K g):tk w K:=h _ y
abbrev cl1:Value:= .func (.func fH) #[] #[]
abbrev cl2 (g b1:Nat):Value:= .func (.func fG) #[] #[kT (kE g),kT (kE b1)]
abbrev XA:=Option Addr->Nat->Nat->Nat->Nat->Value->Value->Int->World->Prop
abbrev XB:=Option Addr->Nat->Nat->Nat->Nat->Value->Value->Int->Option Addr->Option Addr->World->Prop
abbrev XC:=Option Addr->Nat->Nat->Nat->Nat->Value->Value->Int->Option Addr->Option Addr->Int->World->Prop
def GT (c:UInt8):Prop:=c=42\/c=95
theorem bt0 {t:List UInt8}{c:UInt8}(h:t.head? =some c):bt (bs t) 0=(c.toNat:Int):=by
 cases t with
 |nil=>simp at h
 |cons x t=>simp at h;subst h;rfl
theorem Gt {t:List UInt8}{c:UInt8}(h:t.head? =some c):t≠ []:=by intro h0;subst h0;simp at h
theorem lx {t:List UInt8}{c:UInt8}(h:t.head? =some c):0<((bs t).size:Int):=by
 cases t with
 |nil=>simp at h
 |cons x t=>simp
def dOf (t s:List UInt8):Nat:=if 2<=t.length/\2<=s.length then 2 else 1
theorem B6 {Xa:XA}{a7:XB}{U:XC}{b1 g pb I e0:Nat}{t:List UInt8}{c:UInt8}{V W:Bool}{b5 n O:Int}{c1:TypeId}{a6:List Inl}{S:List STK}{s:STK}{d1:List Value}{E:Option Addr}{y sc:Nat}{e2:List ai}(h:EM σ b1 g pb t V W b5 n c1 a6 S d1 e0 E y sc e2 L w)(b9:t.head? =some c)(hc:GT c)(i3:0<=n/\n<=1000000000)(hs:S[I]? =some s)(m1: ∀l5 w,aw.bl3 R Xa a7 U E y sc b1 g cl1 (cl2 g b1) O (kE pb) (some (hZ g I)) l5 w->U E y sc b1 g cl1 (cl2 g b1) O (kE pb) (some (hZ g I)) l5 w)(n2:(∀e∈s.ent,Di V W n a6 e.2=false)-> ∀w,EM σ b1 g pb t V W b5 n c1 a6 S d1 e0 E y sc e2 L w->aw.k1 R Xa E y sc b1 g cl1 (cl2 g b1) O (kE pb) w)(m6: ∀b8 e b7 st d2 d3 c9,s.ent=b8++e::b7->Di V W n a6 e.2=true->(∀x∈b7,Di V W n a6 x.2=false)->a6[e.2]? =some (.emphP st d2 d3 (e.2:Nat) c9)-> ∀w,EM σ b1 g pb t V W b5 n c1 a6 S d1 e0 E y sc e2 L w->
  aw.k6 R Xa a7 U E y sc b1 g cl1 (cl2 g b1) O (kE pb) (some (hZ g I)) (kE e.1) (dOf t st:Nat) w):
 U E y sc b1 g cl1 (cl2 g b1) O (kE pb) (some (hZ g I)) (i64.wrap ((s.n:Int) - 1)) w:=by
 have f2:s∈S:=lS1 hs
 have q2:s.n=s.ent.length/\s.ent.length<1000000000:=by
  obtain⟨g0,f5,f1,g2,r1,f4,m5,j0,r3,i4,q8,q4,b6⟩:=h
  obtain⟨A,B,rfl⟩:=lT3 f2
  obtain⟨f6,g1,g3,rfl,_,g7,_⟩:=j0.split
  have:=g7.1
  simp at this
  exact⟨by omega,(i4 s f2).1⟩
 have p4: ∀(b8 b7:List (Nat × Nat)) w,s.ent=b8++b7->(∀x∈b7,Di V W n a6 x.2=false)->EM σ b1 g pb t V W b5 n c1 a6 S d1 e0 E y sc e2 L w->
  U E y sc b1 g cl1 (cl2 g b1) O (kE pb) (some (hZ g I)) ((b8.length:Int) - 1) w:=by
  intro b8
  induction hk:b8.length generalizing b8 with
  |zero=>
   intro b7 w e1 f3 h
   have:b8= []:=lB1 hk
   subst this
   refine m1 _ _ (af (by simp) ?_)
   exact n2 (by rw[e1];simpa using f3) w h
  |succ k q5=>
   intro b7 w e1 f3 h
   obtain⟨j1,e,rfl⟩: ∃g5 e,b8=g5++ [e]:=by
    rcases lX1 b8 with rfl|⟨g5,e,rfl⟩
    ·simp at hk
    ·exact⟨g5,e,by simp⟩
   simp at hk
   have i2:(((k+1:Nat):Int) - 1)=(k:Int):=by omega
   rw[i2]
   have r5:s.ent.length=k+1+b7.length:=by rw[e1];simp;omega
   have o2:e∈s.ent:=by rw[e1];simp
   have n0:Di V W n a6 e.2=false-> ∀w,EM σ b1 g pb t V W b5 n c1 a6 S d1 e0 E y sc e2 L w->U E y sc b1 g cl1 (cl2 g b1) O (kE pb) (some (hZ g I)) (i64.wrap ((k:Int) - 1)) w:=by
    intro o0 w h
    rw[i64_in _ (by omega)]
    have:=q5 j1 hk (e::b7) w (by rw[e1];simp) (λx i2=>(lW0.1 i2).elim (λh=>h▸o0) (f3 x)) h
    rw[<-hk] at this⊢
    exact this
   have h0:=h
   obtain⟨g0,f5,f1,g2,r1,f4,m5,j0,r3,i4,q8,q4,b6⟩:=h
   obtain⟨st,d2,d3,c9,ty,hd,k0,h9,h8,r4⟩:=((i4 s f2).2.2 e o2).chunk m5
   have f0:Di V W n a6 e.2= !qU V W n d2 d3 c9:=by unfold Di;rw[hd]
   refine m1 _ _ (ag (by simp) (aa ?_))
   have o4:w.cell? (hZ g I)=some (hT s.q s.n s.c):=by
    refine Sat.ld b6 (.tail _ (.head _)) ?_
    rw[lF2,hs];rfl
   refine⟨_,_,_,o4,by omega,by omega,?_⟩
   obtain⟨A,B,q0⟩:=lT3 f2
   have m4:=j0
   rw[q0] at m4
   obtain⟨f6,g1,g3,rfl,_,g7,_⟩:=m4.split
   have q1:(s.ent.map Hy)[k]? =some (kT (kE e.1)):=by
    rw[e1];simp[Hy,hk]
   have q3:Sat σ w (g1++(emC pb t V W b5 n c1::kw g S::(b1,cel [hT g0 f1.length f5] ap)::(f6++(g3++(g2++(f4++L)))))):=b6.re
   refine Sl.loadAt g7 q3 q1 λr6 r7 n1=>?_
   simp only[lK0,lC0,lC1,lO0]
   refine⟨_,n1,?_⟩
   refine BO (A:=λw=>EM σ b1 g pb t V W b5 n c1 a6 S d1 e0 E y sc e2 L w/\Sat σ w (emC pb t V W b5 n c1::kw g S::(b1,cel [hT g0 f1.length f5] ap)::((f6++(g1++g3))++(g2++(f4++L))))) ⟨h0.tick,b6.tick⟩ λw i1=>?_
   obtain⟨h0,b6⟩:=i1
   have b4: ∀(k:Nat) (v:Value),([hX (bs t),hV V,hV W,hY b5,hY n])[k]? =some v->w.cell? (hZ pb k)=some v:=λk v hv=>Sat.ld b6 (.head _) hv
   have c2: ∀(k:Nat) (v:Value),([hX (bs st),hV d2,hV d3,hY (e.2:Nat),hY c9])[k]? =some v->w.cell? (hZ e.1 k)=some v:=λk v hv=>
    Sat.ld b6 (.tail _ (.tail _ (.tail _ (lB0 _ (lD1 _ k0))))) hv
   have k3:Di V W n a6 e.2=true->aw.k3 R Xa a7 U E y sc b1 g cl1 (cl2 g b1) O (kE pb) (some (hZ g I)) (k:Int) (kE e.1) w:=by
    intro n3
    have c3:=λw h=>m6 j1 e b7 st d2 d3 c9 (by rw[e1];simp) n3 f3 hd w h
    refine BO (A:=λw=>EM σ b1 g pb t V W b5 n c1 a6 S d1 e0 E y sc e2 L w/\Sat σ w (emC pb t V W b5 n c1::kw g S::(b1,cel [hT g0 f1.length f5] ap)::((f6++(g1++g3))++(g2++(f4++L))))) ⟨h0.tick,b6.tick⟩ λw i1=>?_
    obtain⟨h0,b6⟩:=i1
    have b4: ∀(k:Nat) (v:Value),([hX (bs t),hV V,hV W,hY b5,hY n])[k]? =some v->w.cell? (hZ pb k)=some v:=λk v hv=>Sat.ld b6 (.head _) hv
    have c2: ∀(k:Nat) (v:Value),([hX (bs st),hV d2,hV d3,hY (e.2:Nat),hY c9])[k]? =some v->w.cell? (hZ e.1 k)=some v:=λk v hv=>
     Sat.ld b6 (.tail _ (.tail _ (.tail _ (lB0 _ (lD1 _ k0))))) hv
    refine aa ⟨_,b4 0 _ rfl,by omega,lx b9,?_⟩
    rw[bt0 b9]
    refine af (by rcases hc with rfl|rfl<;>rfl) ?_
    refine aa ⟨_,b4 0 _ rfl,by omega,lx b9,?_⟩
    rw[bt0 b9]
    refine af (by rcases hc with rfl|rfl<;>rfl) ?_
    refine aa ⟨_,b4 0 _ rfl,by omega,lx b9,?_⟩
    rw[bt0 b9]
    refine af (by rcases hc with rfl|rfl<;>rfl) ?_
    refine aa ⟨_,b4 0 _ rfl,?_⟩
    rw[aJ]
    have c3:=c3 w h0
    unfold dOf at c3
    by_cases o3:2<=t.length
    ·refine ag (by simp;omega) (aa ⟨_,c2 0 _ rfl,?_⟩)
     rw[aJ]
     by_cases p1:2<=st.length
     ·rw[if_pos ⟨o3,p1⟩] at c3
      exact ag (by simp;omega) c3
     ·rw[if_neg (by omega)] at c3
      exact af (by simp;omega) c3
    ·rw[if_neg (by omega)] at c3
     exact af (by simp;omega) c3
   have body:aA (some ((hZ pb 0):Addr)) λp3=> ∃(m3:Bool),w.cell? (p3.add 1)=some (hV m3)/\br m3
    (aA (some ((hZ pb 0):Addr)) λp5=> ∃(m2:Bool),w.cell? (p5.add 2)=some (hV m2)/\br m2
     (aA (some ((hZ pb 0):Addr)) λe4=>aA (some ((hZ e.1 0):Addr)) λe8=> ∃(c5:Int),w.cell? (e4.add 4)=some (hY c5)/\ ∃(c4:Int),w.cell? (e8.add 4)=some (hY c4)/\
      (3:Int)≠0/\br ((Int.tmod (i64.wrap (c5+c4)) 3)==0)
       (aA (some ((hZ pb 0):Addr)) λe7=> ∃(c8:Int),w.cell? (e7.add 4)=some (hY c8)/\(3:Int)≠0/\br ((Int.tmod c8 3) !=0) (U E y sc b1 g cl1 (cl2 g b1) O (kE pb) (some (hZ g I)) (i64.wrap ((k:Int) - 1)) w)
        (aA (some ((hZ e.1 0):Addr)) λe9=> ∃(d0:Int),w.cell? (e9.add 4)=some (hY d0)/\(3:Int)≠0/\br ((Int.tmod d0 3) !=0) (U E y sc b1 g cl1 (cl2 g b1) O (kE pb) (some (hZ g I)) (i64.wrap ((k:Int) - 1)) w)
         (aw.k3 R Xa a7 U E y sc b1 g cl1 (cl2 g b1) O (kE pb) (some (hZ g I)) (k:Int) (kE e.1) w)))
       (aw.k3 R Xa a7 U E y sc b1 g cl1 (cl2 g b1) O (kE pb) (some (hZ g I)) (k:Int) (kE e.1) w))
     (aA (some ((hZ e.1 0):Addr)) λg4=> ∃(e5:Bool),w.cell? (g4.add 1)=some (hV e5)/\br e5 (aA (some ((hZ e.1 0):Addr)) λi0=> ∃(e6:Bool),w.cell? (i0.add 2)=some (hV e6)/\br e6
      (aA (some ((hZ pb 0):Addr)) λe4=>aA (some ((hZ e.1 0):Addr)) λe8=> ∃(c5:Int),w.cell? (e4.add 4)=some (hY c5)/\ ∃(c4:Int),w.cell? (e8.add 4)=some (hY c4)/\
       (3:Int)≠0/\br ((Int.tmod (i64.wrap (c5+c4)) 3)==0)
        (aA (some ((hZ pb 0):Addr)) λe7=> ∃(c8:Int),w.cell? (e7.add 4)=some (hY c8)/\(3:Int)≠0/\br ((Int.tmod c8 3) !=0) (U E y sc b1 g cl1 (cl2 g b1) O (kE pb) (some (hZ g I)) (i64.wrap ((k:Int) - 1)) w)
         (aA (some ((hZ e.1 0):Addr)) λe9=> ∃(d0:Int),w.cell? (e9.add 4)=some (hY d0)/\(3:Int)≠0/\br ((Int.tmod d0 3) !=0) (U E y sc b1 g cl1 (cl2 g b1) O (kE pb) (some (hZ g I)) (i64.wrap ((k:Int) - 1)) w)
          (aw.k3 R Xa a7 U E y sc b1 g cl1 (cl2 g b1) O (kE pb) (some (hZ g I)) (k:Int) (kE e.1) w)))
        (aw.k3 R Xa a7 U E y sc b1 g cl1 (cl2 g b1) O (kE pb) (some (hZ g I)) (k:Int) (kE e.1) w))
      (aw.k3 R Xa a7 U E y sc b1 g cl1 (cl2 g b1) O (kE pb) (some (hZ g I)) (k:Int) (kE e.1) w))
      (aw.k3 R Xa a7 U E y sc b1 g cl1 (cl2 g b1) O (kE pb) (some (hZ g I)) (k:Int) (kE e.1) w)))
    (aA (some ((hZ e.1 0):Addr)) λg4=> ∃(e5:Bool),w.cell? (g4.add 1)=some (hV e5)/\br e5 (aA (some ((hZ e.1 0):Addr)) λi0=> ∃(e6:Bool),w.cell? (i0.add 2)=some (hV e6)/\br e6
     (aA (some ((hZ pb 0):Addr)) λe4=>aA (some ((hZ e.1 0):Addr)) λe8=> ∃(c5:Int),w.cell? (e4.add 4)=some (hY c5)/\ ∃(c4:Int),w.cell? (e8.add 4)=some (hY c4)/\
      (3:Int)≠0/\br ((Int.tmod (i64.wrap (c5+c4)) 3)==0)
       (aA (some ((hZ pb 0):Addr)) λe7=> ∃(c8:Int),w.cell? (e7.add 4)=some (hY c8)/\(3:Int)≠0/\br ((Int.tmod c8 3) !=0) (U E y sc b1 g cl1 (cl2 g b1) O (kE pb) (some (hZ g I)) (i64.wrap ((k:Int) - 1)) w)
        (aA (some ((hZ e.1 0):Addr)) λe9=> ∃(d0:Int),w.cell? (e9.add 4)=some (hY d0)/\(3:Int)≠0/\br ((Int.tmod d0 3) !=0) (U E y sc b1 g cl1 (cl2 g b1) O (kE pb) (some (hZ g I)) (i64.wrap ((k:Int) - 1)) w)
         (aw.k3 R Xa a7 U E y sc b1 g cl1 (cl2 g b1) O (kE pb) (some (hZ g I)) (k:Int) (kE e.1) w)))
       (aw.k3 R Xa a7 U E y sc b1 g cl1 (cl2 g b1) O (kE pb) (some (hZ g I)) (k:Int) (kE e.1) w))
     (aw.k3 R Xa a7 U E y sc b1 g cl1 (cl2 g b1) O (kE pb) (some (hZ g I)) (k:Int) (kE e.1) w))
     (aw.k3 R Xa a7 U E y sc b1 g cl1 (cl2 g b1) O (kE pb) (some (hZ g I)) (k:Int) (kE e.1) w)):=by
    have i8:(V && W||d2 && d3)=true->if Int.tmod (n+c9) 3==0 && (Int.tmod n 3 !=0||Int.tmod c9 3 !=0) then (U E y sc b1 g cl1 (cl2 g b1) O (kE pb) (some (hZ g I)) (i64.wrap ((k:Int) - 1)) w)
     else (aw.k3 R Xa a7 U E y sc b1 g cl1 (cl2 g b1) O (kE pb) (some (hZ g I)) (k:Int) (kE e.1) w):=by
     intro e3
     split
     ·rename_i hb
      exact n0 (by rw[f0];unfold qU;rw[e3,hb];rfl) w h0
     ·rename_i hb
      exact k3 (by rw[f0];unfold qU;rw[e3];simp only[lU5] at hb;rw[hb];rfl)
    refine aa ⟨V,b4 1 _ rfl,?_⟩
    cases g6:V with
    |false=>exact af rfl (G2 (c2 1 _ rfl) (c2 2 _ rfl) (by
     split
     ·rename_i hb;exact FT i3 ⟨h9,h8⟩ (b4 4 _ rfl) (c2 4 _ rfl) (i8 (by rw[hb];simp))
     ·rename_i hb;simp only[lU5] at hb;exact k3 (by rw[f0];unfold qU;rw[g6,hb];rfl)))
    |true=>
     refine ag rfl (aa ⟨W,b4 2 _ rfl,?_⟩)
     cases e3:W with
     |false=>exact af rfl (G2 (c2 1 _ rfl) (c2 2 _ rfl) (by
      split
      ·rename_i hb;exact FT i3 ⟨h9,h8⟩ (b4 4 _ rfl) (c2 4 _ rfl) (i8 (by rw[hb];simp))
      ·rename_i hb;simp only[lU5] at hb;exact k3 (by rw[f0];unfold qU;rw[g6,e3,hb];rfl)))
     |true=>exact ag rfl (FT i3 ⟨h9,h8⟩ (b4 4 _ rfl) (c2 4 _ rfl) (i8 (by rw[g6,e3];rfl)))
   refine aa ⟨_,b4 0 _ rfl,by omega,lx b9,?_⟩
   rw[bt0 b9]
   rcases hc with rfl|rfl
   ·exact ag rfl body
   ·refine af rfl (aa ⟨_,b4 0 _ rfl,by omega,lx b9,?_⟩)
    rw[bt0 b9]
    exact ag rfl body
 rw[q2.1,i64_in _ (by omega)]
 exact p4 s.ent [] w (by simp) (by simp) h

def rO (st:List UInt8)(d:Nat):List UInt8:=st.take (st.length - d)
def yd (g:List Inl)(j:Nat)(s':List UInt8)(E y:Bool)(O I:Int):List Inl:=g.take j++(if s'= [] then [] else [.emphP s' E y O I])
def xOf (t:List UInt8)(d:Nat)(inner:List Inl):Inl:=if d=2 then Inl.strong (t.take d) inner else .emph (t.take d) inner
theorem nO (s:List UInt8):((bs s).toList==(hP #[]).toList)=decide (s= []):=by
 rw[cJ,gx,lZ4];simp
theorem InlAt.oneCell {t:Inl}{v:Value}{M:List ai}(h:InlAt t v M):v.oneCell'=true:=by
 obtain⟨b,_,_,_,rfl,_⟩:=h.ptr;rfl
theorem InlsAt.oneCell {ts:List Inl}{vs:List Value}{M:List ai}(h:InlsAt ts vs M): ∀v∈vs,v.oneCell'=true:=by
 intro v hv
 obtain⟨j,y⟩:=lH6.1 hv
 have U:=h.length
 have I:=(lL0.1 y).1
 obtain⟨O,V,g,E,_⟩:=h.get (lI0 (show j<ts.length by omega))
 rw[y] at g
 obtain rfl:=Option.some.inj g
 exact E.oneCell
theorem FZ {Xa:XA}{e8:XB}{o4:XC}{b1 g pb d3 f5:Nat}{t st:List UInt8}{c:UInt8}{a6 a7 E I:Bool}{b4 n e6 y:Int}{W:TypeId}{b5:List Inl}{S:List STK}{s:STK}{i2:List Value}{d1:Option Addr}{d0 sc:Nat}{m3:List ai}{e:Nat × Nat}(h:EM σ b1 g pb t a6 a7 b4 n W b5 S i2 f5 d1 d0 sc m3 L w)(j0:t.head? =some c)(hc:GT c)(hs:S[d3]? =some s)(r7:e∈s.ent)(hd:b5[e.2]? =some (.emphP st E I (e.2:Nat) y))(v5:e.2+1<b5.length)(u1:b5.length<=f5)(v7:t.length<1000000000)(p1: ∀w,EM σ b1 g pb (t.drop (dOf t st)) a6 a7 b4 n W (yd b5 e.2 (rO st (dOf t st)) E I (e.2:Nat) y++ [xOf t (dOf t st) (b5.drop (e.2+1))]) (S.map (STK.trim (yd b5 e.2 (rO st (dOf t st)) E I (e.2:Nat) y).length)) i2 f5 d1 d0 sc m3 L w->
  e8 d1 d0 sc b1 g cl1 (cl2 g b1) e6 (kE pb) (some (hZ g d3)) w):
 aw.k6 R Xa e8 o4 d1 d0 sc b1 g cl1 (cl2 g b1) e6 (kE pb) (some (hZ g d3)) (kE e.1) (dOf t st:Nat) w:=by
 obtain⟨b9,b8,b7,v9,d2,c5,g6,s7,f2,f3,g0,u4,h⟩:=h
 have s3:s∈S:=lS1 hs
 have m5:=(f3 s s3).2.2 e r7
 have v3:=g6.length
 have q2:=g6.oneCell
 have s4:b5=b5.take e.2++(.emphP st E I (e.2:Nat) y)::b5.drop (e.2+1):=by
  have o3:e.2<b5.length:=by omega
  have t5:b5[e.2]= .emphP st E I (e.2:Nat) y:=by rw[lI0 o3] at hd;exact Option.some.inj hd
  rw[<-t5,<-lI1 o3,lY1]
 have o0:=g6
 rw[s4] at o0
 obtain⟨i0,v,h9,V,v8,U,f4,rfl,i3,hv,m6⟩:=o0.mid
 have i1:i0.length=e.2:=by have:=i3.length;rw[lE1] at this;omega
 obtain⟨sb,se,rfl,rfl⟩:=hv
 have s1:sb=e.1:=by
  obtain⟨_,_,_,_,_,b6,_⟩:=m5
  rw[f4,lH0 (by omega),i1] at b6
  simp at b6
  exact rU b6
 subst s1
 obtain⟨q3,q5,q4,v6⟩:st≠ []/\0<=y/\y<=1000000000/\st.length<1000000000:=by
  obtain⟨t',h8,j1,e0,h6,b6,t6,t9,f2⟩:=m5
  rw[hd] at h6
  simp only[lG1,Inl.emphP.injEq] at h6
  obtain⟨rfl,rfl,rfl,_,rfl⟩:=h6
  exact⟨f2.1,t6,t9,f2.2⟩
 have v4:=lY0.2 (Gt j0)
 have u0:=lY0.2 q3
 generalize s5:dOf t st=d at p1⊢
 have h7:(d=1\/d=2)/\d<=t.length/\d<=st.length:=by
  rw[<-s5];unfold dOf;split<;>omega
 obtain⟨h7,v0,u2⟩:=h7
 have p5:b7.drop (e.2+1)=h9:=by rw[f4,lV5,lE2 (by omega),i1];simp
 have p4:b7.take e.2=i0:=by rw[f4,lR3 (by omega),lC2 (by omega)]
 have p3:b7.take (e.2+1)=i0++ [gZ aT e.1]:=by
  rw[f4,List.take_append,lC2 (by omega),i1];simp
 have h:Sat σ w (emC pb t a6 a7 b4 n W::kw g S::(b1,cel [hT b9 b7.length b8] ap)::(d2++((V++([emC e.1 st E I (e.2:Nat) y se]++U))++(c5++L)))):=h
 have h:Sat σ w (emC pb t a6 a7 b4 n W::emC e.1 st E I (e.2:Nat) y se::(b1,cel [hT b9 b7.length b8] ap)::kw g S::(d2++(V++(U++(c5++L))))):=h.re
 refine aa ⟨_,Sat.ld h (.head _) rfl,by omega,lx j0,?_⟩
 refine h.tk λw h=>?_
 refine aa (aa ?_)
 refine⟨_,Sat.ld h (.head _) rfl,by omega,by rw[aJ];omega,?_⟩
 refine⟨_,_,_,Sat.ld h (.tail _ (.tail _ (.head _))) rfl,?_⟩
 refine⟨_,Sat.ld h (.tail _ (.head _)) rfl,?_⟩
 have o2:i64.wrap (((e.2:Nat):Int)+1)=((e.2+1:Nat):Int):=aN (by omega)
 rw[o2]
 have h0:=h
 have hr:Sat σ w (c5++(emC pb t a6 a7 b4 n W::emC e.1 st E I (e.2:Nat) y se::(b1,cel [hT b9 b7.length b8] ap)::kw g S::(d2++(V++(U++L))))):=h.re
 refine g0.copy hr (k:=e.2+1) (by omega) (by omega) q2 (C:=λe9=>SameC _ e9 _ 1) (λe9 X t2=>h0.same t2 (.head _) (lB0 _ (lB0 _ (.head _))) 1) λq c3 c1 w M i8 h=>?_
 rw[p5] at i8
 have h:Sat σ w (emC pb t a6 a7 b4 n W::emC e.1 st E I (e.2:Nat) y se::(b1,cel [hT b9 b7.length b8] ap)::kw g S::(d2++(V++(M++(U++(c5++L)))))):=h.re
 refine Sat.bx h λO w h=>?_
 rw[lC0,cj,lM2] at h
 have h:Sat σ w (emC pb t a6 a7 b4 n W::emC e.1 st E I (e.2:Nat) y se::(b1,cel [hT b9 b7.length b8] ap)::kw g S::(d2++(V++((O,cel [hX (bs (t.take d)),hT q c3 c1] jr)::(M++(U++(c5++L))))))):=h.re
 refine h.tk λw h=>?_
 refine aa (aa ?_)
 refine⟨_,Sat.ld h (.tail _ (.head _)) rfl,_,Sat.ld h (.tail _ (.head _)) rfl,?_⟩
 have s8:i64.wrap (((bs st).size:Int) - (d:Int))=((st.length - d:Nat):Int):=by rw[aJ,i64_in _ (by omega)];omega
 rw[s8,aJ]
 refine⟨by omega,by omega,aa ?_⟩
 rw[lC0,cj,lM2]
 refine h.stA 1 λw h=>?_
 have h:Sat σ w (emC pb t a6 a7 b4 n W::emC e.1 (rO st d) E I (e.2:Nat) y se::(b1,cel [hT b9 b7.length b8] ap)::kw g S::(d2++(V++((O,cel [hX (bs (t.take d)),hT q c3 c1] jr)::(M++(U++(c5++L))))))):=h
 refine aa ⟨_,Sat.ld h (.head _) rfl,by omega,by rw[aJ];omega,aa ?_⟩
 rw[aJ,lC0,nP]
 refine h.stA 0 λw h=>?_
 have h:Sat σ w (emC pb (t.drop d) a6 a7 b4 n W::emC e.1 (rO st d) E I (e.2:Nat) y se::(b1,cel [hT b9 b7.length b8] ap)::kw g S::(d2++(V++((O,cel [hX (bs (t.take d)),hT q c3 c1] jr)::(M++(U++(c5++L))))))):=h
 refine aa ⟨_,Sat.ld h (.tail _ (.head _)) rfl,?_⟩
 rw[nO]
 have rest: ∀(m:Nat) w,m=(yd b5 e.2 (rO st d) E I (e.2:Nat) y).length->m<=e.2+1->
  (∃f6,InlsAt (yd b5 e.2 (rO st d) E I (e.2:Nat) y) (b7.take m) f6/\ ∃G,(∀a,cnt a (emC e.1 (rO st d) E I (e.2:Nat) y se::V)=cnt a (G++f6)))->
  Sat σ w (emC pb (t.drop d) a6 a7 b4 n W::emC e.1 (rO st d) E I (e.2:Nat) y se::(b1,cel [hT b9 m b8] ap)::kw g S::(d2++(V++((O,cel [hX (bs (t.take d)),hT q c3 c1] jr)::(M++(U++(c5++L)))))))->
  aw.k7 R Xa e8 o4 d1 d0 sc b1 g cl1 (cl2 g b1) e6 (kE pb) (some (hZ g d3)) (d:Nat) ((bt (bs t) 0)==126) (kE O) w:=by
  intro m w e7 v2 r3 h
  obtain⟨f6,r8,G,t0⟩:=r3
  refine gY ?_
  have h:Sat σ w (kw g S::(b1,cel [hT b9 m b8] ap)::(d2++(emC e.1 (rO st d) E I (e.2:Nat) y se::(V++(U++(emC pb (t.drop d) a6 a7 b4 n W::(O,cel [hX (bs (t.take d)),hT q c3 c1] jr)::(M++(c5++L)))))))):=h.re
  have r6: ∀s∈S,DE s.ent (emC e.1 (rO st d) E I (e.2:Nat) y se::(V++(U++(emC pb (t.drop d) a6 a7 b4 n W::(O,cel [hX (bs (t.take d)),hT q c3 c1] jr)::(M++(c5++L)))))):=by
   intro s' k0 x g7
   obtain⟨t',h8,j1,e0,ty,h6,b6,_⟩:=((f3 s' k0).2.2 x g7).chunk g6
   rcases lP0.1 b6 with b6|b6
   ·exact⟨_,ty,.tail _ (lD1 _ b6),rfl⟩
   ·rcases lP0.1 b6 with b6|b6
    ·simp only[lN0] at b6
     have r5:x.1=e.1:=by have:=congrArg (λc:ai=>c.1) b6;exact this
     have u8:(x.2:Int)=(e.2:Int):=by
      have:=congrArg (λc:ai=>c.2) b6
      simp only[emC,cel,Obj.cells.injEq] at this
      have:=congrArg Array.toList this.1
      simp only[lU0,Value.int.injEq,true_and] at this
      exact this.2.2.2.1
     have r4:x.2=e.2:=by omega
     exact⟨_,se,by rw[r5];exact .head _,by rw[r4];rfl⟩
    ·exact⟨_,ty,.tail _ (lB0 _ (lD1 _ b6)),rfl⟩
  refine Ap f2 s7 r6 (λs hs=>(f3 s hs).1) h λw e5 q8 h=>⟨rfl,?_⟩
  rw[bt0 j0]
  refine af (by rcases hc with rfl|rfl<;>rfl) ?_
  have f0:(b7.take m).length=m:=by rw[lE1];omega
  have m4:=g0.take (k:=m) (by omega)
  have q1:StkIn (yd b5 e.2 (rO st d) E I (e.2:Nat) y++ [xOf t d (b5.drop (e.2+1))]) (b7.take m++ [gZ (if d=2 then fB else je) O]) (S.map (STK.trim m)):=by
   intro s' k0
   obtain⟨s0,r9,rfl⟩:=lU1.1 k0
   obtain⟨a1,a2,a3⟩:=f3 s0 r9
   refine⟨Nat.lt_of_le_of_lt (BM m s0.ent) a1,DW a2,λx g7=>?_⟩
   have s6:=zz a2 x g7
   obtain⟨t',h8,j1,e0,t4,t8,s9,t7,t3⟩:=a3 x (BJ g7)
   have n3:(b7.take m++ [gZ (if d=2 then fB else je) O])[x.2]? =some (gZ aT x.1):=by
    rw[lM0 (by omega),lM3 s6];exact t8
   by_cases i4:x.2<e.2
   ·refine⟨t',h8,j1,e0,?_,n3,s9,t7,t3⟩
    unfold yd
    rw[lD0,lM0 (by rw[lE1];omega),lM3 i4]
    exact t4
   ·have i4:x.2=e.2:=by omega
    have n0:rO st d≠ []:=by
     intro h0
     unfold yd at e7
     rw[h0,if_pos rfl,lG0,lE1] at e7
     omega
    refine⟨rO st d,E,I,y,?_,n3,q5,q4,n0,by unfold rO;rw[lE1];omega⟩
    unfold yd
    rw[if_neg n0,lD0,lH0 (by rw[lE1];omega),i4,lE1,lG6 (by omega),lW1]
    rfl
  have fin: ∀w (ty:TypeId),ty=(if d=2 then fB else je)-> ∀c8 c9 c4,DRow c8 c9 (b7.take m++ [gZ ty O]) i2 f5 d1 d0 sc m3 c4->
   Sat σ w ((b1,cel [hT c8 (m+1) c9] ap)::kw g (S.map (STK.trim m))::(e5++(emC e.1 (rO st d) E I (e.2:Nat) y se::(V++(U++(emC pb (t.drop d) a6 a7 b4 n W::(O,cel [hX (bs (t.take d)),hT q c3 c1] jr)::(M++(c4++L))))))))->
   e8 d1 d0 sc b1 g cl1 (cl2 g b1) e6 (kE pb) (some (hZ g d3)) w:=by
   intro w ty s2 c8 c9 c4 f1 h
   subst s2
   refine p1 w ⟨c8,c9,_,f6++((O,cel [hX (bs (t.take d)),hT q c3 c1] jr)::(M++U)),e5,c4,r8.append (InlsAt.one ?_),by rw[<-e7];exact q8,by rw[lS0];exact f2,by rw[<-e7];exact q1,f1,?_,?_⟩
   ·unfold xOf
    split
    ·exact⟨O,_,q,c3,c1,h9,M,U,rfl,rfl,i8,m6⟩
    ·exact⟨O,_,q,c3,c1,h9,M,U,rfl,rfl,i8,m6⟩
   ·rw[lA0,<-e7];simp;omega
   ·rw[lA0,f0]
    rw[<-e7]
    have h:Sat σ w ((emC e.1 (rO st d) E I (e.2:Nat) y se::V)++(emC pb (t.drop d) a6 a7 b4 n W::kw g (S.map (STK.trim m))::(b1,cel [hT c8 (m+1) c9] ap)::(e5++(U++((O,cel [hX (bs (t.take d)),hT q c3 c1] jr)::(M++(c4++L))))))):=h.re
    refine h.less G λa=>?_
    have:=t0 a
    simp only[dH,eW] at this⊢
    simp only[lE0]
    omega
  have h:Sat σ w (c5++((b1,cel [hT b9 m b8] ap)::kw g (S.map (STK.trim m))::(e5++(emC e.1 (rO st d) E I (e.2:Nat) y se::(V++(U++(emC pb (t.drop d) a6 a7 b4 n W::(O,cel [hX (bs (t.take d)),hT q c3 c1] jr)::(M++L)))))))):=h.re
  have n1:w.cell? (hZ b1 0)=some (hT b9 m b8):=Sat.ld h (lB0 _ (.head _)) rfl
  rcases h7 with rfl|rfl
  ·refine af rfl ⟨b9,m,b8,n1,?_⟩
   have:=m4.app (ty:=ap) (t:=je) (b:=O) h (by omega) (by omega) (C:=λ_=>True) (λ_ _ _=>trivial) (K:=λl5 e0 m2 e3=>stV e3 (hZ b1 0) (hT l5 e0 m2) λw=>e8 d1 d0 sc b1 g cl1 (cl2 g b1) e6 (kE pb) (some (hZ g d3)) w) (λc8 c9 c4 e3 f1 h=>by
    have h:Sat σ e3 ((b1,cel [hT b9 m b8] ap)::kw g (S.map (STK.trim m))::(e5++(emC e.1 (rO st 1) E I (e.2:Nat) y se::(V++(U++(emC pb (t.drop 1) a6 a7 b4 n W::(O,cel [hX (bs (t.take 1)),hT q c3 c1] jr)::(M++(c4++L)))))))):=h.re
    rw[f0]
    refine Sat.st h (k:=0) rfl (lO3 _) trivial rfl λw h=>?_
    exact fin w je rfl c8 c9 c4 f1 h)
   rw[f0] at this
   obtain⟨a,b,c,e9,m1,_,r2⟩:=this
   exact⟨a,b,c,e9,m1,r2⟩
  ·refine ag rfl ⟨b9,m,b8,n1,?_⟩
   have:=m4.app (ty:=ap) (t:=fB) (b:=O) h (by omega) (by omega) (C:=λ_=>True) (λ_ _ _=>trivial) (K:=λl5 e0 m2 e3=>stV e3 (hZ b1 0) (hT l5 e0 m2) λw=>e8 d1 d0 sc b1 g cl1 (cl2 g b1) e6 (kE pb) (some (hZ g d3)) w) (λc8 c9 c4 e3 f1 h=>by
    have h:Sat σ e3 ((b1,cel [hT b9 m b8] ap)::kw g (S.map (STK.trim m))::(e5++(emC e.1 (rO st 2) E I (e.2:Nat) y se::(V++(U++(emC pb (t.drop 2) a6 a7 b4 n W::(O,cel [hX (bs (t.take 2)),hT q c3 c1] jr)::(M++(c4++L)))))))):=h.re
    rw[f0]
    refine Sat.st h (k:=0) rfl (lO3 _) trivial rfl λw h=>?_
    exact fin w fB rfl c8 c9 c4 f1 h)
   rw[f0] at this
   obtain⟨a,b,c,e9,m1,_,r2⟩:=this
   exact⟨a,b,c,e9,m1,r2⟩
 by_cases e4:rO st d= []
 ·refine ag (by simpa using e4) ?_
  refine h.tk λw h=>?_
  refine aa ⟨_,_,_,Sat.ld h (.tail _ (.tail _ (.head _))) rfl,_,Sat.ld h (.tail _ (.head _)) rfl,?_⟩
  have q0:=g0.2.1
  refine⟨_,_,_,λw=>rf rowInl.ht rowInl.hi _ _ _ e.2 (by omega) w,?_⟩
  refine Sat.st h (k:=2) rfl (lO3 _) trivial rfl λw h=>?_
  refine rest e.2 w ?_ (by omega) ⟨V,?_,[emC e.1 (rO st d) E I (e.2:Nat) y se],λa=>rfl⟩ h
  ·unfold yd;rw[if_pos e4,lG0,lE1];omega
  ·unfold yd;rw[if_pos e4,lG0,p4];exact i3
 ·refine af (by simpa using e4) ?_
  refine h.tk λw h=>?_
  refine aa ⟨_,_,_,Sat.ld h (.tail _ (.tail _ (.head _))) rfl,_,Sat.ld h (.tail _ (.head _)) rfl,?_⟩
  have q0:=g0.2.1
  rw[o2]
  refine⟨_,_,_,λw=>rf rowInl.ht rowInl.hi _ _ _ (e.2+1) (by omega) w,?_⟩
  refine Sat.st h (k:=2) rfl (lO3 _) trivial rfl λw h=>?_
  refine rest (e.2+1) w ?_ (by omega) ⟨V++ [emC e.1 (rO st d) E I (e.2:Nat) y se],?_,[],λa=>?_⟩ h
  ·unfold yd;rw[if_neg e4,lA0,lE1];simp;omega
  ·unfold yd;rw[if_neg e4,p3];exact i3.append (InlsAt.one ⟨e.1,se,rfl,rfl⟩)
  ·simp only[dH,eW,mF,lT0];omega

theorem vC {S:List STK}{g:Nat}{s:STK}(hs:S[g]? =some s):(uw S).getD g []=s.ent.map Prod.snd:=by
 rw[lQ0]
 simp[uw,hs]
theorem xA {p:Nat->Bool}{y:List (Nat × Nat)}(h: ∀e∈y,p e.2=false):(y.map Prod.snd).reverse.find? p=none:=by
 rw[List.find?_eq_none]
 intro x g
 rw[List.mem_reverse] at g
 obtain⟨e,E,rfl⟩:=lU1.1 g
 simp[h e E]
theorem CZ {p:Nat->Bool}{y g:List (Nat × Nat)}{e:Nat × Nat}(I:p e.2=true)(E: ∀x∈g,p x.2=false):((y++e::g).map Prod.snd).reverse.find? p=some e.2:=by
 rw[lV0,lE5,lO1,lR4,lD0,List.find?_append,xA E]
 simp[I]
def AllC (c:UInt8)(t:List UInt8):Prop:= ∀x∈t,x=c
theorem AllC.head {c:UInt8}{t:List UInt8}(h:AllC c t)(ht:t≠ []):t.head? =some c:=by
 cases t with
 |nil=>exact absurd rfl ht
 |cons x t=>rw[h x (by simp)];rfl
theorem AllC.drop {c:UInt8}{t:List UInt8}(h:AllC c t)(d:Nat):AllC c (t.drop d):=λx g=>h x (lW4 g)
theorem EK {Xa:XA}{c5:XB}{b1 y pb E b4:Nat}{c:UInt8}{c4 c3:Bool}{e8 n b5:Int}{e5:TypeId}{e0:List Value}{W:Option Addr}{U sc:Nat}{f1:List ai}(i0:E<5)(hc:GT c)(h2:0<=n/\n<=1000000000)(b7: ∀w,aw.bl2 R Xa c5 W U sc b1 y cl1 (cl2 y b1) b5 (kE pb) (some (hZ y E)) w->c5 W U sc b1 y cl1 (cl2 y b1) b5 (kE pb) (some (hZ y E)) w):
 ∀(f:Nat) (t:List UInt8) (g:List Inl) (S:List STK) (w:World),t.length<=f->AllC c t->t.length<1000000000->EM σ b1 y pb t c4 c3 e8 n e5 g S e0 b4 W U sc f1 L w->g.length<=b4->
  (∀s,S[E]? =some s-> ∀e∈s.ent,e.2+1<g.length)->
  (∀t' I V w,j4 E c4 c3 n f t g (uw S)=(t',I,uw V)->AllC c t'->t'.length<=t.length->EM σ b1 y pb t' c4 c3 e8 n e5 I V e0 b4 W U sc f1 L w->I.length<=b4->I.length<=g.length->
   (t'=t/\I=g/\V=S\/ ∀s∈V,∀e∈s.ent,e.2+1<I.length)->
   aw.k1 R Xa W U sc b1 y cl1 (cl2 y b1) b5 (kE pb) w)->
  c5 W U sc b1 y cl1 (cl2 y b1) b5 (kE pb) (some (hZ y E)) w:=by
 intro f
 induction f with
 |zero=>
  intro t g S w h3 O e4 h a6 c8 a7
  have ht:t= []:=lB1 (by omega)
  subst ht
  refine b7 _ ?_
  have h0:=h
  obtain⟨f0,e6,d2,e7,f2,e9,_,_,_,_,_,_,h⟩:=h
  refine aa ⟨_,Sat.ld h (.head _) rfl,af (by rw[nO];rfl) ?_⟩
  exact a7 [] g S w rfl O (lA1 _) h0 a6 (lA1 _) (.inl ⟨rfl,rfl,rfl⟩)
 |succ f h1=>
  intro t g S w h3 O e4 h a6 c8 a7
  by_cases ht:t= []
  ·subst ht
   refine b7 _ ?_
   have h0:=h
   obtain⟨f0,e6,d2,e7,f2,e9,_,_,_,_,_,_,h⟩:=h
   refine aa ⟨_,Sat.ld h (.head _) rfl,af (by rw[nO];rfl) ?_⟩
   exact a7 [] g S w rfl O (lA1 _) h0 a6 (lA1 _) (.inl ⟨rfl,rfl,rfl⟩)
  have e1:=O.head ht
  refine b7 _ ?_
  have h0:=h
  have i4:S.length=5:=by obtain⟨_,_,_,_,_,_,_,_,h,_⟩:=h;exact h
  have hs:S[E]? =some S[E]:=lI0 (by omega)
  generalize S[E]=s at hs
  obtain⟨f0,e6,d2,e7,f2,e9,_,_,_,g2,_,_,d1⟩:=h
  refine aa ⟨_,Sat.ld d1 (.head _) rfl,ag (by rw[nO];simpa using ht) (aa ?_)⟩
  have g1:w.cell? (hZ y E)=some (hT s.q s.n s.c):=by
   refine Sat.ld d1 (.tail _ (.head _)) ?_
   rw[lF2,hs];rfl
  refine⟨_,_,_,g1,?_⟩
  intro i3 g4
  refine B6 h0 e1 hc h2 hs (λi1 w g6=>g4 _ _ _ _ _ _ _ _ _ _ _ _ g6) (λb8 w h=>?_) (λi2 e h8 st b6 b9 c1 d3 f6 b8 hd w h=>?_)
  ·refine a7 t g S w ?_ O (lA1 _) h a6 (lA1 _) (.inl ⟨rfl,rfl,rfl⟩)
   rw[j4,if_neg ht,vC hs,xA b8]
  ·have e3:e∈s.ent:=by rw[d3];simp
   have g5:=c8 s hs e e3
   refine FZ h e1 hc hs e3 hd g5 a6 e4 λw h=>?_
   have h6:(yd g e.2 (rO st (dOf t st)) b6 b9 (e.2:Nat) c1).length<=e.2+1:=by
    unfold yd
    rw[lA0,lE1]
    split<;>simp<;>omega
   have h7:0<dOf t st:=by unfold dOf;split<;>omega
   have h9:=lY0.2 ht
   have c9: ∀s'∈S.map (STK.trim (yd g e.2 (rO st (dOf t st)) b6 b9 (e.2:Nat) c1).length),∀x∈s'.ent,x.2+1<(yd g e.2 (rO st (dOf t st)) b6 b9 (e.2:Nat) c1++ [xOf t (dOf t st) (g.drop (e.2+1))]).length:=by
    intro s' c2 x g7
    obtain⟨s0,g3,rfl⟩:=lU1.1 c2
    have:=zz (g2 s0 g3).2.1 x g7
    rw[lA0];simp;omega
   refine h1 (t.drop (dOf t st)) _ _ w (by rw[lM1];omega) (O.drop _) (by rw[lM1];omega) h (by rw[lA0];simp;omega) (λs' c2=>c9 s' (lS1 c2)) ?_
   intro t' I V w e2 f5 g0 h f4 d0 f3
   refine a7 t' I V w ?_ f5 (by rw[lM1] at g0;omega) h f4 (by rw[lA0] at d0;simp at d0;omega) (.inr ?_)
   ·rw[j4,if_neg ht,vC hs,d3,CZ f6 b8]
    simp only[hd]
    rw[CJ] at e2
    exact e2
   ·rcases f3 with ⟨_,rfl,rfl⟩|h4
    ·exact c9
    ·exact h4

def ta:Inl->Option UInt8
 | .emphP s _ _ _ _=>s.head?
 |_=>none
def wfE (ts:List Inl):Prop:= ∀s y g i n,Inl.emphP s y g i n∈ts->s≠ []/\(∃c,GT c/\AllC c s)/\s.length<1000000000/\0<=n/\n<=1000000000
def nT:Option UInt8->List Inl->Prop
 |_,[]=>True
 |h,t::ts=>(h=none\/ta t≠h)/\nT (ta t) ts
theorem Fv {c:UInt8}(hc:GT c)(g:R (hQ (hY (tG c:Nat))) w):callE P fH #[.int .u8 (c.toNat:Int)] R w:=by
 refine iX.sound ?_
 refine vB (l:= [95,42,126,34,39]) ⟨_,rfl,?_⟩
 rcases hc with rfl|rfl
 ·exact g
 ·exact g
theorem FY {y m pb g:Nat}{S:List STK}{s:STK}{c4:List ai}(f1:S.length=5)(hs:S[g]? =some s)(c5:StksAt S c4)(f0:s.ent.length<999999999)(h:Sat σ w (kw y S::(c4++L))){K:World->Prop}(e4: ∀w s' c2,s'.ent=s.ent++ [(pb,m)]->StksAt (S.set g s') c2->Sat σ w (kw y (S.set g s')::(c2++L))->K w):
 aA (some ((hZ y g):Addr)) λe1=> ∃(b4:Option Addr),∃(W:Nat),∃(U:Nat),w.cell? e1=some (hT b4 W U)/\
  ∃(a7:Option Addr),∃(V:Nat),∃(O:Nat),∃b7,(Instr.buildSlice cK 1 #[(0,kT (kE pb))]).run P w= .ok (hT a7 V O) b7/\
  ∃(b5:Option Addr),∃(a6:Nat),∃(b6:Nat),∃b9,(Builtin.append_ #[cK,cK] cK #[hT b4 W U,hT a7 V O]).run P b7= .ok (hT b5 a6 b6) b9/\
  aA (some ((hZ y g):Addr)) λe0=>stV b9 (e0.add 0) (hT b5 a6 b6) λd3=>K d3:=by
 have b8:=(lL0.1 hs).1
 have d2:S=S.take g++s::S.drop (g+1):=by
  have e5:S[g]=s:=(lL0.1 hs).2
  rw[<-e5,<-lI1 b8,lY1]
 have c1: ∀s':STK,S.set g s'=S.take g++s'::S.drop (g+1):=by
  intro s';rw[lM4,if_pos b8]
 have c3:(S.take g).length=g:=by rw[lE1];omega
 rw[d2] at c5 h
 obtain⟨E,e7,I,rfl,e9,d1,e3⟩:=c5.split
 have e6:=d1.1
 simp at e6
 refine aa ⟨_,_,_,mg h c3.symm,?_⟩
 have h:Sat σ w (e7++(kw y (S.take g++s::S.drop (g+1))::(E++(I++L)))):=h.re
 refine Sat.app1 rowEP d1 h (v:= kT (kE pb)) rfl (by simp[Value.cells,Value.oneCell']) (by kernel_rfl) (by omega) (by omega) (by decide) λc9 d0 e8 c8 e2 h=>?_
 have h:Sat σ e8 (kw y (S.take g++s::S.drop (g+1))::(E++(c8++(I++L)))):=h.re
 refine aa ?_
 simp only[lK0,lN1]
 refine wr (s':=⟨c9,s.n+1,d0,s.ent++ [(pb,m)]⟩) h c3.symm λw h=>?_
 refine e4 w ⟨c9,s.n+1,d0,s.ent++ [(pb,m)]⟩ (E++(c8++I)) rfl ?_ ?_
 ·rw[c1];exact e9.join (by unfold STK.ok;rw[lV0];exact e2) e3
 ·rw[c1];exact h.re
def EM0 (σ:Out)(b1 b5:Nat)(y a6:List Inl)(S:List STK)(a7:Nat)(b7:Option Addr)(b4 sc:Nat)(b6:List ai)(L:List ai)(w:World):Prop:=
 ∃U I g E V W O RM,InlsAt y g V/\StksAt S W/\S.length=5/\StkIn y g S/\DRow U I g E a7 b7 b4 sc b6 O/\y.length<999999998/\InlsAt a6 E RM/\
  Sat σ w (kw b5 S::(b1,cel [hT U g.length I] ap)::(W++(V++(O++(RM++L)))))
def Late (c:UInt8)(g:List Inl)(S:List STK):Prop:= ∀s,S[tG c]? =some s-> ∀e∈s.ent,e.2+1<g.length
theorem StkIn.lt {g:List Inl}{y:List Value}{S:List STK}(h:StkIn g y S): ∀s∈S,∀e∈s.ent,e.2<g.length:=by
 intro s hs e E
 obtain⟨t,O,U,n,I,_⟩:=(h s hs).2.2 e E
 exact(lL0.1 I).1
theorem StkIn.grow {E x:List Inl}{g y:List Value}{S:List STK}(h:StkIn E g S):StkIn (E++x) (g++y) S:=by
 intro s hs
 obtain⟨a,b,c⟩:=h s hs
 refine⟨a,b,λe W=>?_⟩
 obtain⟨t,V,a6,n,O,I,U⟩:=c e W
 exact⟨t,V,a6,n,by rw[lM0 (lL0.1 O).1];exact O,by rw[lM0 (lL0.1 I).1];exact I,U⟩

theorem rZ {b1 V b9 b:Nat}{t:TypeId}{I c9:Option Addr}{E c3 sc:Nat}{g c1:List Value}{S:List STK}{W U c8 b7:List ai}(d3:DRow I E g c1 (b9+1) c9 c3 sc c8 b7)(e3:g.length<=b9)(e0:g.length<1000000000)(h:Sat σ w (kw V S::(b1,cel [hT I g.length E] ap)::(W++(U++(b7++L))))){C:World->Prop}(d2: ∀y X,Sat σ y (X::(kw V S::(b1,cel [hT I g.length E] ap)::(W++(U++(b7++L)))))->C y){K:World->Prop}(d1: ∀w a7 a6 O,DRow a7 a6 (g++ [gZ t b]) c1 (b9+1) c9 c3 sc c8 O->Sat σ w (kw V S::(b1,cel [hT a7 (g.length+1) a6] ap)::(W++(U++(O++L))))->K w):
 ∃c5 c2 c4 y,(Instr.buildSlice ap 1 #[(0,gZ t b)]).run P w= .ok (hT c5 c2 c4) y/\C y/\
  ∃b5 b4 b6 b8,(Builtin.append_ #[ap,ap] ap #[hT I g.length E,hT c5 c2 c4]).run P y= .ok (hT b5 b4 b6) b8/\stV b8 (hZ b1 0) (hT b5 b4 b6) K:=by
 have hr:Sat σ w (b7++(kw V S::(b1,cel [hT I g.length E] ap)::(W++(U++L)))):=h.re
 refine d3.app (ty:=ap) hr (by omega) e0 (C:=C) (λy X e2=>d2 y X (e2.re)) (K:=λb5 b4 b6 b8=>stV b8 (hZ b1 0) (hT b5 b4 b6) K) λa7 a6 O e1 d0 h=>?_
 have h:Sat σ e1 (kw V S::(b1,cel [hT I g.length E] ap)::(W++(U++(O++L)))):=h.re
 refine Sat.st h (k:=1) rfl (lO3 _) trivial rfl λw h=>?_
 exact d1 w a7 a6 O d0 h
theorem yK {q:Option Addr}{a:Addr}{K:Addr->Prop}(h:q=some a)(g:K a):aA q K:=by subst h;exact g
theorem noC {A:Option Addr->Nat->Nat->World->Prop}{B:Option Addr->Nat->Nat->World->Prop}(h: ∃E g I y,A E g I y/\True/\B E g I y): ∃E g I y,A E g I y/\B E g I y:=by
 obtain⟨a,b,c,d,U,_,O⟩:=h
 exact⟨a,b,c,d,U,O⟩
theorem C5 {Xa:XA}{b1 E:Nat}{d0:Option Addr}{c1 sc:Nat}{h6:List ai}(q3: ∀r4 w,aw.bl1 R Xa d0 c1 sc b1 E cl1 (cl2 E b1) r4 w->Xa d0 c1 sc b1 E cl1 (cl2 E b1) r4 w)(v8:c1<999999990)(f3:List Inl)(u0: ∀w b6 a7 g O b7,InlsAt f3 g O->DRow b6 a7 g [] c1 d0 c1 sc h6 b7->g.length<=c1->Sat σ w (O++(b7++L))->R (hQ (hT b6 g.length a7)) w):
 ∀(a6 c2:List Inl) (S:List STK) (U:Nat) (hd:Option UInt8) (w:World),EM0 σ b1 E c2 a6 S U d0 c1 sc h6 L w->U+a6.length=c1->c2.length<=U->wfE a6->nT hd a6->(∀c,GT c->hd≠some c->Late c c2 S)->
  dT c2 (uw S) a6=f3->Xa d0 c1 sc b1 E cl1 (cl2 E b1) (U:Int) w:=by
 intro a6
 induction a6 with
 |nil=>
  intro c2 S U hd w h h9 q5 n2 e8 p3 e7
  obtain⟨b6,a7,g,s9,O,b4,b7,RM,c9,e6,e2,d2,l5,q1,n0,h⟩:=h
  obtain⟨rfl,rfl⟩:=n0
  have g0:=c9.length
  simp at h9
  subst h9
  refine q3 _ _ (af (by simp) ?_)
  refine⟨_,_,_,Sat.ld h (.tail _ (.head _)) rfl,?_⟩
  simp only[dT] at e7
  simp only[lT0] at h
  refine u0 w b6 a7 g O b7 (by rw[<-e7];exact c9) l5 (by omega) ?_
  exact h.less (kw E S::(b1,cel [hT b6 g.length a7] ap)::b4)
 |cons t a6 k0=>
  intro c2 S U hd w h h9 q5 n2 e8 p3 e7
  obtain⟨b6,a7,g,s9,O,b4,b7,RM,c9,e6,e2,d2,l5,q1,n0,h⟩:=h
  obtain⟨v,e4,h4,b8,rfl,rfl,hv,h8⟩:=n0
  have g0:=c9.length
  simp at h9
  have p1: ∀w,Sat σ w (kw E S::(b1,cel [hT b6 g.length a7] ap)::(b4++(O++(b7++((h4++b8)++L)))))-> ∃o2 n3,d0=some (hZ o2 n3)/\w.cell? ⟨o2,n3+U,none⟩=some v:=by
   intro w h
   have h:Sat σ w (b7++(kw E S::(b1,cel [hT b6 g.length a7] ap)::(b4++(O++((h4++b8)++L))))):=h.re
   exact l5.read h
  have e5:=l5.consume
  have i0:wfE a6:=λs W y i n t9=>n2 s W y i n (.tail _ t9)
  have h3:i64.wrap ((U:Int)+1)=((U+1:Nat):Int):=aN (by omega)
  have f0:=d2.lt
  have next: ∀w (t':Inl) (ty:TypeId) (b:Nat) (f6:List ai),InlAt t' (gZ ty b) f6->dT (c2++ [t']) (uw S) a6=f3-> ∀c3 c5 c4,DRow c3 c5 (g++ [gZ ty b]) e4 (U+1) d0 c1 sc h6 c4->
   Sat σ w (kw E S::(b1,cel [hT c3 (g.length+1) c5] ap)::(b4++(O++(c4++(f6++(b8++L))))))->Xa d0 c1 sc b1 E cl1 (cl2 E b1) ((U+1:Nat):Int) w:=by
   intro w t' ty b f6 t2 b9 c3 c5 c4 d3 h
   refine k0 (c2++ [t']) S (U+1) (ta t) w ⟨c3,c5,_,e4,O++f6,b4,c4,b8,c9.append (InlsAt.one t2),e6,e2,d2.grow,d3,by simp;omega,h8,?_⟩ (by omega) (by simp;omega) i0 e8.2 ?_ b9
   ·rw[lA0,lE0];exact h.re
   ·intro c _ _ s hs e b5
    have:=f0 s (lS1 hs) e b5
    simp;omega
  obtain⟨pb,cs,w2,f6,rfl,v4⟩:=hv.ptr
  refine q3 _ _ (ag (by simp;omega) ⟨by omega,by omega,?_⟩)
  obtain⟨o2,n3,i2,p4⟩:=p1 w h
  refine yK i2 ?_
  simp only[lK0,lC0,lC1]
  refine⟨_,p4,?_⟩
  by_cases j0:t.ty=aQ
  ·-- an open bracket becomes plain
   obtain⟨s,i,rfl⟩: ∃s i,t= .openP s i:=by
    cases t<;>simp only[Inl.ty] at j0<;>first|exact⟨_,_,rfl⟩|exact absurd j0 (by decide)
   have m6:(Instr.typeAssert (gZ (Inl.openP s i).ty pb) aC aQ true).run P w= .ok (.tuple #[kT (kE pb),hV true]) w:=oV w
   refine⟨_,_,w,m6,ag rfl ?_⟩
   refine h.tk λw h=>?_
   refine aa ⟨_,_,_,Sat.ld h (.tail _ (.head _)) rfl,?_⟩
   have h0:=h
   refine rZ e5 (by omega) (by omega) h (C:=λe3=>SameC _ e3 _ 1) (λe3 X h2=>h0.same h2 (.tail _ (.head _)) (.tail _ (.tail _ (.head _))) 1) λw c3 c5 c4 d3 h=>?_
   rw[h3]
   refine next w (.plain s) bI pb h4 ?_ (by rw[<-e7,dT]) c3 c5 c4 d3 (h.re)
   obtain⟨u1,e',m4,rfl⟩:=hv
   have:=rU m4
   subst this
   exact⟨pb,_,_,rfl,rfl⟩
  ·refine⟨_,_,w,qp j0 w,af rfl ⟨by omega,by omega,?_⟩⟩
   refine yK i2 ?_
   simp only[lK0,lC0,lC1]
   refine⟨_,p4,?_⟩
   by_cases i3:t.ty=aT
   ·-- a run of delimiters
    obtain⟨s,W,y,i,n,rfl⟩: ∃s W y i n,t= .emphP s W y i n:=by
     cases t<;>simp only[Inl.ty] at i3<;>first|exact⟨_,_,_,_,_,rfl⟩|exact absurd i3 (by decide)
    obtain⟨u1,c8,m4,rfl⟩:=hv
    have:=rU m4
    subst this
    obtain⟨n1,⟨c,hc,m2⟩,t4,q2,q8⟩:=n2 s W y i n (.head _)
    have i8:=m2.head n1
    have i4:ta (.emphP s W y i n)=some c:=i8
    have s4:hd≠some c:=by
     rcases e8.1 with h|h
     ·rw[h];simp
     ·rw[i4] at h;exact λo4=>h o4.symm
    have t0:tG (s.headD 0)=tG c:=by rw[List.headD_eq_head?_getD,i8];rfl
    have s3:tG c<5:=by rcases hc with rfl|rfl<;>decide
    have i1: ∀w,Sat σ w (kw E S::(b1,cel [hT b6 g.length a7] ap)::(b4++(O++(b7++(([emC pb s W y i n c8]++b8)++L)))))->EM σ b1 E pb s W y i n c8 c2 S e4 (U+1) d0 c1 sc h6 (b8++L) w:=λw h=>
     ⟨b6,a7,g,O,b4,b7,c9,e6,e2,d2,e5,by omega,h.re⟩
    have m6:(Instr.typeAssert (gZ (Inl.emphP s W y i n).ty pb) aC aT true).run P w= .ok (.tuple #[kT (kE pb),hV true]) w:=sy w
    refine⟨_,_,w,m6,af rfl (aa ?_)⟩
    have fin: ∀(t':List UInt8) (V:List Inl) (I:List STK) w,AllC c t'->t'.length<=s.length->EM σ b1 E pb t' W y i n c8 V I e4 (U+1) d0 c1 sc h6 (b8++L) w->V.length<=U->
     (t'= []-> ∀s∈I,∀e∈s.ent,e.2+1<V.length)->
     (if t'= [] then dT V (uw I) a6 else if W then dT (V++ [.emphP t' W y V.length n]) ((uw I).set (tG c) ((uw I).getD (tG c) []++ [V.length])) a6 else dT (V++ [.plain t']) (uw I) a6)=f3->
     aw.k1 R Xa d0 c1 sc b1 E cl1 (cl2 E b1) U (kE pb) w:=by
     intro t' V I w f5 p5 h v7 s8 b9
     obtain⟨b6,a7,g,O,b4,b7,c9,e6,e2,d2,e5,q1,h⟩:=h
     have g0:=c9.length
     have f0:=d2.lt
     refine aa ⟨_,Sat.ld h (.head _) rfl,?_⟩
     rw[nO]
     by_cases e0:t'= []
     ·subst e0
      rw[if_pos rfl] at b9
      refine af (by simp) ?_
      rw[h3]
      refine k0 V I (U+1) (some c) w ⟨b6,a7,g,e4,O,b4,b7,b8,c9,e6,e2,d2,e5,by omega,h8,?_⟩ (by omega) (by omega) i0 (by have:=e8.2;rw[i4] at this;exact this) ?_ b9
      ·exact(h.tail).re
      ·intro o3 _ _ s' j1 e b5
       exact s8 rfl s' (lS1 j1) e b5
     ·rw[if_neg e0] at b9
      refine ag (by simpa using e0) (aa ⟨_,Sat.ld h (.head _) rfl,by omega,lx (f5.head e0),?_⟩)
      rw[bt0 (f5.head e0)]
      refine gY ?_
      refine Fv hc ⟨_,rfl,by omega,by omega,aa ⟨_,Sat.ld h (.head _) rfl,?_⟩⟩
      have r3: ∀(d:UInt8),c≠d->((bs t').toList==(hP #[d]).toList)=false:=by
       intro d hd
       rw[cJ,gx,beq_eq_false_iff_ne]
       intro h0
       have:t'= [d]:=h0
       subst this
       exact hd (f5 d (by simp)).symm
      refine af (r3 39 (by rcases hc with rfl|rfl<;>decide)) ?_
      refine aa ⟨_,Sat.ld h (.head _) rfl,af (r3 34 (by rcases hc with rfl|rfl<;>decide)) ?_⟩
      simp only[lK0,lC0,lC1,lO0]
      refine aa ⟨W,Sat.ld h (.head _) rfl,?_⟩
      cases q4:W with
      |true=>
       rw[q4] at h b9
       rw[if_pos rfl] at b9
       refine ag rfl ⟨_,_,_,Sat.ld h (.tail _ (.tail _ (.head _))) rfl,aa ?_⟩
       refine Sat.st h (k:=0) rfl (lG3 rfl) trivial rfl λw h=>?_
       have h:Sat σ w (emC pb t' true y (g.length:Nat) n c8::kw E I::(b1,cel [hT b6 g.length a7] ap)::(b4++(O++(b7++(b8++L))))):=h
       refine⟨_,_,_,Sat.ld h (.tail _ (.tail _ (.head _))) rfl,?_⟩
       have h:Sat σ w (kw E I::(b1,cel [hT b6 g.length a7] ap)::(b4++(O++(b7++(emC pb t' true y (g.length:Nat) n c8::(b8++L)))))):=h.re
       refine noC (rZ (t:=aT) (b:=pb) e5 (by omega) (by omega) h (C:=λ_=>True) (λ_ _ _=>trivial) λw c3 c5 c4 d3 h=>?_)
       have e9:I[tG c]? =some I[tG c]:=lI0 (by omega)
       generalize I[tG c]=sx at e9
       have m3:=d2 sx (lS1 e9)
       have h:Sat σ w (kw E I::(b4++((b1,cel [hT c3 (g.length+1) c5] ap)::(O++(c4++(emC pb t' true y (g.length:Nat) n c8::(b8++L))))))):=h.re
       have s1:sx.ent.length<999999999:=by
        have: ∀(f1:List (Nat × Nat)) (k:Nat),f1.Pairwise (λa b=>a.2<b.2)->(∀e∈f1,k<=e.2/\e.2<V.length)->k<=V.length->k+f1.length<=V.length:=by
         intro f1
         induction f1 with
         |nil=>intro k _ _ r6;simpa using r6
         |cons e f1 t3=>
          intro k o0 hb r6
          rw[List.pairwise_cons] at o0
          have w3:=hb e (.head _)
          have:=t3 (e.2+1) o0.2 (λx r7=>⟨o0.1 x r7,(hb x (.tail _ r7)).2⟩) (by omega)
          simp;omega
        have:=this sx.ent 0 m3.2.1 (λe b5=>⟨lB2 _,f0 sx (lS1 e9) e b5⟩) (lB2 _)
        omega
       refine FY (m:=g.length) (pb:=pb) e2 e9 e6 s1 h λw s' t6 j1 s7 h=>?_
       rw[h3]
       have s6:(uw I).set (tG c) ((uw I).getD (tG c) []++ [V.length])=uw (I.set (tG c) s'):=by
        rw[vC e9,uw,uw,List.map_set,j1,lV0,g0];rfl
       rw[s6] at b9
       refine k0 _ (I.set (tG c) s') (U+1) (some c) w ⟨c3,c5,g++ [gZ aT pb],e4,O++ [emC pb t' true y (g.length:Nat) n c8],t6,c4,b8,c9.append (InlsAt.one (t:= .emphP t' true y (g.length:Nat) n) ⟨pb,c8,rfl,rfl⟩),s7,by rw[lA5];exact e2,?_,d3,by simp;omega,h8,?_⟩ (by omega) (by simp;omega) i0 (by have:=e8.2;rw[i4] at this;exact this) ?_ (by rw[<-b9,g0])
       ·intro h7 d1
        rcases List.mem_or_eq_of_mem_set d1 with d1|d1
        ·exact d2.grow h7 d1
        ·subst d1
         rw[j1]
         refine⟨by simp;omega,?_,?_⟩
         ·rw[lL6]
          refine⟨m3.2.1,by simp,λa u4 b hb=>?_⟩
          simp at hb;subst hb
          have:=f0 sx (lS1 e9) a u4
          show a.2<g.length
          omega
         ·intro e b5
          rcases lP0.1 b5 with b5|b5
          ·obtain⟨t8,u8,t7,u2,r5,r8,v0⟩:=m3.2.2 e b5
           exact⟨t8,u8,t7,u2,by rw[lM0 (lL0.1 r5).1];exact r5,by rw[lM0 (lL0.1 r8).1];exact r8,v0⟩
          ·simp at b5;subst b5
           exact⟨t',true,y,n,by show (V++_)[g.length]? =_;rw[g0,lH0 (lA1 _)];simp,by show (g++_)[g.length]? =_;simp,q2,q8,e0,by omega⟩
       ·rw[lA0,lE0];exact h.re
       ·intro o3 q0 r1 h7 d1 e b5
        have s5:tG o3≠tG c:=by
         intro h0
         apply r1
         rcases hc with rfl|rfl<;>rcases q0 with rfl|rfl<;>first|rfl|exact absurd h0 (by decide)
        rw[List.getElem?_set_ne (λh=>s5 h.symm)] at d1
        have:=f0 h7 (lS1 d1) e b5
        simp;omega
      |false=>
       rw[q4] at h b9
       rw[if_neg (by simp)] at b9
       refine af rfl ?_
       refine h.tk λw h=>?_
       refine aa ⟨_,_,_,Sat.ld h (.tail _ (.tail _ (.head _))) rfl,?_⟩
       have h:Sat σ w (kw E I::(b1,cel [hT b6 g.length a7] ap)::(b4++(O++(b7++(emC pb t' false y i n c8::(b8++L)))))):=h.re
       have h0:=h
       refine rZ (t:=bI) (b:=pb) e5 (by omega) (by omega) h (C:=λe3=>SameC _ e3 _ 1) (λe3 X h2=>h0.same h2 (.tail _ (.head _)) (.tail _ (.tail _ (.head _))) 1) λw c3 c5 c4 d3 h=>?_
       rw[h3]
       refine k0 (V++ [.plain t']) I (U+1) (some c) w ⟨c3,c5,g++ [gZ bI pb],e4,O++ [emC pb t' false y i n c8],b4,c4,b8,c9.append (InlsAt.one (t:= .plain t') ⟨pb,_,c8,rfl,rfl⟩),e6,e2,d2.grow,d3,by simp;omega,h8,?_⟩ (by omega) (by simp;omega) i0 (by have:=e8.2;rw[i4] at this;exact this) ?_ b9
       ·rw[lA0,lE0];exact h.re
       ·intro o3 q0 r1 h7 d1 e b5
        have:=f0 h7 (lS1 d1) e b5
        simp;omega
    refine⟨y,Sat.ld h (.tail _ (.tail _ (lB0 _ (lB0 _ (lB0 _ (.head _)))))) rfl,?_⟩
    have f4:(let r:=if y then j4 (tG c) W y n s.length s c2 (uw S) else (s,c2,uw S)
     if r.1= [] then dT r.2.1 r.2.2 a6 else if W then dT (r.2.1++ [.emphP r.1 W y r.2.1.length n]) (r.2.2.set (tG c) (r.2.2.getD (tG c) []++ [r.2.1.length])) a6 else dT (r.2.1++ [.plain r.1]) r.2.2 a6)=f3:=by
     rw[<-e7,dT,t0]
    cases m5:y with
    |false=>
     rw[m5] at f4 i1 fin
     refine af rfl (fin s c2 S w m2 (lA1 _) (i1 w (by rw[m5] at h;exact h)) q5 (λh=>absurd h n1) ?_)
     simpa using f4
    |true=>
     rw[m5] at f4 i1 fin h
     refine ag rfl (aa ⟨_,Sat.ld h (.tail _ (.tail _ (lB0 _ (lB0 _ (lB0 _ (.head _)))))) rfl,by omega,lx i8,?_⟩)
     rw[bt0 i8]
     refine gY ?_
     refine Fv hc ⟨_,rfl,by omega,by omega,?_⟩
     simp only[lK0,lC0,lC1,lO0]
     intro v9 t5
     refine EK s3 hc ⟨q2,q8⟩ (λw o4=>t5 _ _ _ _ _ _ _ _ _ _ _ o4) s.length s c2 S w (lA1 _) m2 t4 (i1 w h) (by omega) (p3 c hc s4) ?_
     intro t' V I w b9 f5 p5 h v2 v3 f2
     refine fin t' V I w f5 p5 h (by omega) ?_ ?_
     ·intro e0
      rcases f2 with ⟨f2,_⟩|f2
      ·rw[e0] at f2;exact absurd f2.symm n1
      ·exact f2
     ·simp only[if_true,b9] at f4
      exact f4
   ·-- anything else
    refine⟨_,_,w,qq i3 w,ag rfl ?_⟩
    refine BO (A:=λw=>Sat σ w (kw E S::(b1,cel [hT b6 g.length a7] ap)::(b4++(O++(b7++((h4++b8)++L)))))) h.tick λw h=>?_
    refine⟨by omega,by omega,yK i2 ?_⟩
    refine⟨_,_,_,Sat.ld h (.tail _ (.head _)) rfl,?_⟩
    simp only[lK0,lC0,lC1]
    obtain⟨v6,v5,m1,r9⟩:=p1 w h
    rw[i2] at m1
    simp only[lG1,Addr.mk.injEq,and_true] at m1
    obtain⟨rfl,rfl⟩:=m1
    refine⟨_,r9,?_⟩
    have h0:=h
    refine rZ e5 (by omega) (by omega) h (C:=λe3=>SameC _ e3 _ 1) (λe3 X h2=>h0.same h2 (.tail _ (.head _)) (.tail _ (.tail _ (.head _))) 1) λw c3 c5 c4 d3 h=>?_
    rw[h3]
    refine next w t t.ty pb h4 hv (by rw[<-e7];cases t<;>first|rfl|exact absurd rfl j0|exact absurd rfl i3) c3 c5 c4 d3 (h.re)

theorem DRow.same {q:Option Addr}{n c:Nat}{vs:List Value}{RM:List ai}(h:Sl 1 aC q n c vs RM):DRow q c [] vs 0 q n c [] RM:=by
 obtain⟨I,E,⟨rfl,rfl,rfl,rfl⟩|⟨y,sp,rfl,rfl,g⟩⟩:=h
 ·have:vs= []:=lB1 (by omega)
  subst this
  exact⟨by simp,by simp,.inr ⟨[],Sl.nil 1 aC,rfl,λj v hv=>by simp at hv⟩⟩
 ·refine⟨by omega,by simp,.inl ⟨y,[],sp,rfl,rfl,rfl,rfl,?_⟩⟩
  rw[lA0] at g;omega
theorem DRow.done {I a7:Option Addr}{y U V sc:Nat}{g:List Value}{E:List ai}(h:DRow I y g [] U a7 V sc [] E):Sl 1 aC I g.length y g E:=by
 obtain⟨h0,O,⟨b3,junk,sp,rfl,rfl,rfl,b5,W⟩|⟨b4,a6,rfl,hr⟩⟩:=h
 ·refine⟨by omega,O,.inr ⟨b3,junk++sp,rfl,rfl,?_⟩⟩
  simp only[lA0,lK1] at W⊢;omega
 ·rw[lG0];exact a6
theorem C4 {c2 E a7:Option Addr}{g O sc:Nat}{ts:List Inl}{vs:List Value}{b6 y W:List ai}(b4:DRow E g [] vs 0 a7 O sc b6 y)(b5:InlsAt ts vs W)(b8:wfE ts)(b7:nT none ts)(c8:O<999999990)(h:Sat σ w (y++(W++L)))(c5: ∀w E g I V y,InlsAt (xG ts) I V->DRow E g I [] O a7 O sc b6 y->I.length<=O->Sat σ w (V++(y++L))->R (hQ (hT E I.length g)) w):
 callE P fw #[kT c2,hT E 0 g,hT a7 O sc] R w:=by
 refine aw.sound ?_
 refine Sat.bx h λb1 w h=>?_
 refine Sat.bx h λc9 w h=>?_
 intro X c3
 have d3:=b5.length
 have h0:=b4.1
 let s0:STK:=⟨none,0,0,[]⟩
 have h:Sat σ w (kw c9 [s0,s0,s0,s0,s0]::(b1,cel [hT E 0 g] ap)::(y++(W++L))):=h
 have U:s0.ok []:=Sl.nil 1 aT
 refine C5 (Xa:=X) (λd2 w c1=>c3 _ _ _ _ _ _ _ _ _ c1) c8 (xG ts) (λw E g I V y d0 d1 b9 c4=>c5 w E g I V y d0 d1 b9 c4) ts [] [s0,s0,s0,s0,s0] 0 none w
  ⟨E,g,[],vs,[],[],y,W,⟨rfl,rfl⟩,⟨[],[],rfl,U,[],[],rfl,U,[],[],rfl,U,[],[],rfl,U,[],[],rfl,U,rfl⟩,rfl,?_,b4,by simp,b5,h⟩ (by omega) (by simp) b8 b7 ?_ rfl
 ·intro s hs
  simp only[lW0,lW5,or_false,or_self] at hs
  subst hs
  exact⟨by show (0:Nat)<_;decide,List.Pairwise.nil,λe a6=>by cases a6⟩
 ·intro c hc _ s hs e a6
  have:s=s0:=by
   rcases hc with rfl|rfl
   ·exact(Option.some.inj hs).symm
   ·exact(Option.some.inj hs).symm
  subst this
  cases a6
theorem A1 {ts:List Inl}(O:wfE ts)(I:nT none ts)(b7:ts.length<999999990):Ak ts (xG ts):=by
 intro σ R b9 q n c vs RM EM L w y E c1 h a6
 have c2:=E.length
 have b8:=y.1
 exact C4 (DRow.same y) E O I (by omega) h λw b6 V g a7 b5 b3 b4 U W=>a6 w b6 g.length V g b5 a7 b4.done U b3 (W.re)
theorem qs {s:List UInt8}{i j:Nat}(h:j<=s.length):(sub s i j).length=j - i:=by unfold sub;rw[lM1,lE1];omega
theorem pR {a b:List UInt8}{k:Nat}(h:a.length<=k):(a++b).getD k 0=b.getD (k - a.length) 0:=by
 rw[lQ0,lH0 h,<-lQ0]
theorem nE {a b:List UInt8}{k:Nat}{d:UInt8}(h:k<a.length):(a++b).getD k d=a.getD k d:=by
 rw[lQ0,lM0 h,<-lQ0]
theorem qr (A B C:List UInt8):sub (A++(B++C)) A.length (A.length+B.length)=B:=by
 unfold sub
 rw[<-lD0,show A.length+B.length=(A++B).length by simp,lQ4,lC4]
theorem vE (A C:List UInt8)(b d:UInt8):(A++(b::C)).getD A.length d=b:=by
 rw[lQ0,lH0 (lA1 _),lW1];rfl
theorem nD {l:List UInt8}{i:Nat}(h:i<l.length)(d:UInt8):l[i]=l.getD i d:=by
 rw[lQ0,lI0 h];rfl
def Fh:Opt:=⟨false,false,false,false,false,false,false,false,false,false⟩
theorem C9 (s:List UInt8)(i k:Nat)(d:UInt8):(s.drop i).getD k d=s.getD (i+k) d:=by
 rw[lQ0,lQ0,lL4]

theorem vv {s:List UInt8}(hs:s.length<1000000000)(g: ∀r,R (hQ (hV r)) w):callE P nx #[hX (bs s)] R w:=by
 refine gI.sound ?_
 intro X I
 have E: ∀ {Q:Ending->World->Prop} (c:Int),(∀r,Q (hQ (hV r)) w)->callE P lw #[.int .u8 c] Q w:=by
  intro Q c a6
  refine nI.sound ?_
  exact a6 _
 have O: ∀k m,m+k=s.length->X (bs s) (m:Int) w:=by
  intro k
  induction k with
  |zero=>intro m V;exact I _ _ _ (af (by simp;omega) (g _))
  |succ k U=>
   intro m V
   refine I _ _ _ (ag (by simp;omega) ⟨by omega,by simp;omega,?_⟩)
   rw[show i64.wrap ((m:Int)+2)=((m+2:Nat):Int) by rw[show ((m:Int)+2)=((m+2:Nat):Int) by omega,i64_in _ (by omega)],aN (by omega)]
   have y:=U (m+1) (by omega)
   refine bp (λ_=>?_) (λ_=>y)
   refine⟨λW=>?_,?_⟩
   ·simp at W;exact⟨by omega,by simp;omega⟩
   refine bp (λ_=>?_) (λhb=>?_)
   ·exact⟨λh=>Bool.noConfusion h,g _⟩
   have a7:m+2<s.length:=by simp at hb;omega
   refine E _ λr=>⟨_,rfl,?_⟩
   refine⟨λ_=>⟨by omega,by simp;omega⟩,?_⟩
   refine bp (λ_=>g _) (λ_=>?_)
   exact E _ λr=>⟨_,rfl,bp (λ_=>g _) (λ_=>y)⟩
 exact O s.length 0 (by omega)
theorem vu {b i:Nat}{p:PS}{s:List UInt8}(hs:s.length<1000000000)(hi:i<s.length)(hc:s[i]=91):qi b p s i (.func (.func gA) #[] #[]) [] (some (.openP [91] (i+1),i,i+1)) (λp'=>p'=p):=by
 intro σ R L w _ h g
 refine gY (jo.sound ?_)
 unfold jo
 rw[aN (by omega)]
 refine⟨by omega,by omega,by simp;omega,?_⟩
 rw[lC0,lC0,cj]
 have e:(s.take (i+1)).drop i= [91]:=by
  rw[lH1 hi,lB5 (by rw[lE1];omega),hc]
 rw[e]
 refine Sat.bx h λnb w h=>?_
 exact g w p _ _ rfl rfl ⟨nb,_,rfl,rfl⟩ h.up1

def mR (s:List UInt8)(e i:Nat):List Inl:=if e<i then [.plain (sub s e i)] else []
theorem EF {b e i:Nat}{p:PS}{vs:List Value}{RM:List ai}(O:Sl 1 aC p.lq p.ln p.lc vs RM)(h:Sat σ w (p.at b::(RM++L)))(y:p.em=e)(a6:i<=p.s.length)(a7:vs.length<1073741823)(U: ∀w (p':PS) E xs I,p'.core=p.core->p'.bt=p.bt->p'.em=((max e i:Nat):Int)->p'.corner=p.corner->Sl 1 aC p'.lq p'.ln p'.lc (vs++xs) E->InlsAt (mR p.s e i) xs I->Sat σ w (p'.at b::(E++(I++L)))->R (hQ (.tuple #[])) w):
 callE P du #[kT (kE b),hY i] R w:=by
 by_cases hi:e<i
 ·have h:Sat σ w (p.at b::RM++L):=h
  refine C7 h ⟨O,by omega⟩ y hi a6 (by omega) λw p' V nb g W h=>?_
  refine U w p' V _ [rk nb (sub p.s e i)] (by rw[g];rfl) (by rw[g]) (by rw[g];show ((i:Nat):Int)=_;congr 1;omega) (by rw[g]) W.1 ?_ ?_
  ·unfold mR;rw[if_pos hi]
   exact InlsAt.one ⟨nb,[],_,rfl,rfl⟩
  ·have h:Sat σ w (p'.at b::V++(rk nb (sub p.s e i)::L)):=h
   exact h.re
 ·refine C8 h (by rw[y];omega) λw h=>?_
  refine U w p RM [] [] rfl rfl (by rw[y];congr 1;omega) rfl (by rw[lG0];exact O) ?_ h
  unfold mR;rw[if_neg hi];exact⟨rfl,rfl⟩
def xY (lb:Nat)(inner:Value)(url title:List UInt8)(tc:UInt8)(cor:Bool):ai:=(lb,cel [inner,hX (bs url),hX (bs title),.int .u8 tc.toNat,hV cor] uU)
def wa (b:Nat)(p:PS)(raw:List UInt8)(i:Nat)(t:List UInt8)(k:Nat)(L0:List ai)(url title:List UInt8)(tc:UInt8)(cor:Bool)(en:Nat):Prop:=
 ∀(σ:Out) (R:Ending->World->Prop) (L:List ai) (w:World) (ob:Nat) (e:TypeId),(∀c∈L0,c∈L)->(ob,cel [hX (bs t),hY k] e)∈L->p.at b∈L->Sat σ w L->
  (∀w lb,Sat σ w (xY lb (hT none 0 0) url title tc cor::L)->R (hQ (.tuple #[kT (kE lb),hY en,hV true])) w)->
  callE P eG #[kT (kE b),hX (bs raw),hY i,kT (kE ob)] R w
theorem Sl.shrink {sz:Nat}{e:TypeId}{q:Option Addr}{n c m:Nat}{vs:List Value}{M:List ai}(h:Sl sz e q n c vs M)(E:m<=n):Sl sz e q m c (vs.take (m*sz)) M:=by
 obtain⟨U,O,g⟩:=h
 have I:m*sz<=n*sz:=lJ2 _ E
 refine⟨by rw[lE1];omega,by omega,?_⟩
 rcases g with ⟨rfl,rfl,rfl,rfl⟩|⟨b,sp,rfl,rfl,y⟩
 ·exact .inl ⟨rfl,by omega,rfl,rfl⟩
 ·refine .inr ⟨b,vs.drop (m*sz)++sp,rfl,?_,?_⟩
  ·rw[<-lD0,lY1]
  ·rw[<-lD0,lY1];exact y
theorem DX {v:Value}(w:World):(Instr.typeAssert (.iface aQ v) aC aQ false).run P w= .ok v w:=
 ym (by rw[nV];intro g h;cases h) nV w
def Ac (img:Bool)(g:List Inl)(url title:List UInt8)(tc:UInt8)(cor:Bool):Inl:=if img then .image g url title tc cor else .link g url title tc cor
def AtC (O:Bool)(I:BT->Prop)(X:XI)(σ:Out)(b:Nat)(p0:PS)(raw:List UInt8)(L:List ai)(i e:Nat)(ts:List Inl)(opens:List Nat)(lo:Int):Prop:=
 ∀w (p:PS) g E y,I p.bt->p.coreS=p0.coreS->p.s=raw->p.em=(e:Int)->IIn σ b p ts opens g E y L w->X (kE b) (bs raw) g E y lo O (i:Int) w
def HL (R:Ending->World->Prop)(X:XI)(b:Nat)(raw:List UInt8)(I:Bool):Prop:=
 ∀y g E lo (i:Int) w,av.bl1 R X (kE b) (bs raw) y g E lo I i w->X (kE b) (bs raw) y g E lo I i w
theorem AtC.close {X:XI}{b8:Bool}{e7:BT->Prop}{b pb i e en k:Nat}{p0:PS}{raw:List UInt8}{ts1 ts2:List Inl}{opens:List Nat}{lo:Int}{o:Opt}{t url title:List UInt8}{tc:UInt8}{cor img:Bool}{L0:List ai}(q1:HL R X b raw b8)(hi:i<raw.length)(hs:raw.length<1000000)(hc:raw[i]=93)(i8:p0.pz=kE pb)(q8:o.at pb∈L)(n2: ∀c∈L0,c∈L)(ht:t.getD 0 0=(if img then 33 else 91))(p5:t≠ [])(i4:img=true\/lo<=(k:Int))(r5:url.length<1000000)(h2: ∀p:PS,p.coreS=p0.coreS->p.s=raw->wa b p raw i t k L0 url title tc cor en)(o2:ts2++mR raw e i≠ [])(q0:wfE (ts2++mR raw e i))(m3:nT none (ts2++mR raw e i))(r3:(ts1++ts2).length<1000000)(t3:opens.length<1000000)(c3:AtC b8 e7 X σ b p0 raw L en en (ts1++ [Ac img (xG (ts2++mR raw e i)) url title tc cor]) opens (if img then lo else (k:Int))):
 AtC b8 e7 X σ b p0 raw L i e (ts1++ .openP t k::ts2) (opens++ [ts1.length]) lo:=by
 intro w p b7 e8 b6 k0 e0 f2 r1 q5
 refine q1 _ _ _ _ _ _ ?_
 obtain⟨vs,RM,EM,I,d0,g5,d1,r9,c4⟩:=q5
 refine lj (p:=p) hi (by omega) (by rw[PS.pz_of e0,i8]) (.head _) (.tail _ (lB0 _ (lB0 _ (lB0 _ q8)))) c4 ?_
 rw[hc,show ka o 93= .nil from rfl]
 refine zS ⟨by omega,by simp;omega,?_⟩
 have o3:=d1.1
 rw[lS0,lA0,lE0] at o3
 refine ag (by rw[dh hi 93 93 rfl,hc];simp;omega) ?_
 have q3:i64.wrap ((e8:Int) - 1)=((opens.length:Nat):Int):=by rw[show ((e8:Int) - 1)=((opens.length:Nat):Int) by omega,i64_in _ (by omega)]
 rw[q3]
 refine⟨by omega,by omega,?_⟩
 have s9:=d0.1
 have s3:=d0.2.1
 have m5:=g5.length
 simp only[lA0,lF0] at m5 r3
 have h3:Sat σ w (I++(p.at b::(RM++(EM++L)))):=c4.re
 refine d1.loadAt h3 (j:=opens.length) (v:= hY (ts1.length:Nat)) (by simp[lV0]) λs5 t4 n3=>?_
 simp only[lK0,lC0,lC1,lO0]
 refine⟨_,n3,aa ?_⟩
 have h:=c4
 refine⟨_,_,_,h.ldA,?_⟩
 refine⟨by omega,by omega,?_⟩
 obtain⟨E,v,y,O,t8,c1,rfl,rfl,g1,l5,f6⟩:=g5.mid
 have j1:=g1.length
 have r8:=f6.length
 have s7:(E++v::y).length=E.length+(y.length+1):=by simp
 obtain⟨ob,g,rfl,rfl⟩:=l5
 have h4:Sat σ w (RM++(p.at b::((O++([(ob,cel [hX (bs t),hY k] g)]++c1))++(I++L)))):=c4.re
 refine d0.loadAt h4 (j:=ts1.length) (v:=gZ aQ ob) (by rw[lH0 (by omega),show ts1.length - E.length=0 by omega];rfl) λt7 t2 j0=>?_
 simp only[lK0,lC0,lC1,lO0]
 refine⟨_,j0,_,_,DX w,_,_,_,_,rf rowInt.ht rowInt.hi b7 e8 b6 opens.length (by have:=d1.2.1;omega) w,aa ?_⟩
 have e6:(ob,cel [hX (bs t),hY k] g)∈p.at b::(RM++((O++([(ob,cel [hX (bs t),hY k] g)]++c1))++(I++L))):=
  .tail _ (lB0 _ (lD1 _ (lB0 _ (lD1 _ (.head _)))))
 have e5:bt (bs t) 0=((t.getD 0 0).toNat:Int):=pj t 0
 have t5:0<t.length:=lY0.2 p5
 refine⟨_,Sat.ld h e6 rfl,by decide,by simp;omega,?_⟩
 rw[e5]
 have g0:=d1.shrink (m:=opens.length) (by omega)
 rw[lC1,lV0,lC5 (by simp)] at g0
 have k8:av.k8 R X (kE b) (bs raw) b7 opens.length b6 lo b8 (i:Int) (ts1.length:Int) (kE ob) true w:=by
  refine ag rfl ?_
  have o0:=h2 p e0 f2
  refine o0 σ _ _ w ob g (λc hc=> .tail _ (lB0 _ (lB0 _ (lB0 _ (n2 c hc))))) e6 (.head _) h λw lb h=>⟨_,_,_,rfl,ag rfl ?_⟩
  have k9: ∀w r,Sat σ w (({p with corner:=r}:PS).at b::(xY lb (hT none 0 0) url title tc cor::(RM++((O++([(ob,cel [hX (bs t),hY k] g)]++c1))++(I++L)))))->
   av.k9 R X (kE b) (bs raw) b7 opens.length b6 lo b8 (i:Int) (ts1.length:Int) (kE ob) (kE lb) (en:Int) w:=by
   intro w r h
   generalize c2:({p with corner:=r}:PS)=p1 at h
   have m1:Sl 1 aC p1.lq p1.ln p1.lc (E++gZ aQ ob::y) RM:=by rw[<-c2];exact d0
   have h8:p1.coreS=p0.coreS:=by rw[<-c2];exact e0
   have e3:p1.s=raw:=by rw[<-c2];exact f2
   have m6:p1.em=(e:Int):=by rw[<-c2];exact r1
   have h:Sat σ w (p1.at b::(RM++(xY lb (hT none 0 0) url title tc cor::((O++([(ob,cel [hX (bs t),hY k] g)]++c1))++(I++L))))):=h.re
   refine EF m1 h m6 (by rw[e3];omega) (by simp only[lA0,lF0];omega) λw p2 b9 xs q2 g2 h5 t0 r6 d3 e2 h=>⟨rfl,aa ?_⟩
   rw[e3] at e2
   have h9:=PS.coreS_of g2 h8
   have m4:p2.s=raw:=by rw[<-e3];have:=congrArg PS.s g2;exact this
   refine⟨_,_,_,h.ldA,?_⟩
   have i0:=d3.1
   have r7:=d3.2.1
   have s8:=e2.length
   have f1:=f6.append e2
   have i1:=f1.length
   have i3:0<(ts2++mR raw e i).length:=lY0.2 o2
   simp only[lA0,lF0] at i0 i1 i3
   have s4:(mR raw e i).length<=1:=by unfold mR;split<;>simp
   rw[aN (by omega)]
   refine⟨_,_,_,_,zE rowInl.ht rowInl.hi p2.lq p2.ln p2.lc (ts1.length+1) (by omega) w,?_⟩
   rw[if_neg (by omega)]
   obtain⟨_,_,⟨_,h0,_⟩|⟨b4,sp,c5,d2,g6⟩⟩:=d3
   ·omega
   rw[c5]
   simp only[lI3,lK0,lO0,rowInl.hs,lC1]
   have h6:E++gZ aQ ob::y++xs++sp=(E++ [gZ aQ ob])++((y++xs)++sp):=by simp
   rw[h6] at d2 g6
   have q4:DRow none 0 [] (y++xs) 0 (some ⟨b4,ts1.length+1,none⟩) (p2.ln - (ts1.length+1)) (p2.lc - (ts1.length+1)) b9 b9:=by
    refine⟨by simp;omega,by simp,.inr ⟨[],Sl.nil 1 aC,rfl,λj v hv=>⟨b4,_,(E++ [gZ aQ ob])++((y++xs)++sp),aC,rfl,by rw[d2];exact .head _,?_⟩⟩⟩
    rw[lH0 (by simp;omega),lM0 (by have:=(lL0.1 hv).1;simp at this⊢;omega)]
    rw[<-hv];congr 1;simp;omega
   have h:Sat σ w (b9++((c1++q2)++(p2.at b::(xY lb (hT none 0 0) url title tc cor::((ob,cel [hX (bs t),hY k] g)::(O++(I++L))))))):=h.re
   refine C4 q4 f1 q0 m3 (by omega) h λw b3 a7 U a6 t6 g3 n1 s1 h=>⟨_,_,_,rfl,aa ?_⟩
   obtain⟨_,_,⟨s6,junk,s2,_,o4,_⟩|⟨W,g4,m2,_⟩⟩:=n1
   ·simp at o4
   subst m2
   have h:Sat σ w (xY lb (hT none 0 0) url title tc cor::(a6++((W++b9)++(p2.at b::((ob,cel [hX (bs t),hY k] g)::(O++(I++L))))))):=h.re
   refine h.stA 0 λw h=>?_
   have h:Sat σ w (xY lb (hT b3 U.length a7) url title tc cor::(a6++((W++b9)++(p2.at b::((ob,cel [hX (bs t),hY k] g)::(O++(I++L))))))):=h
   have i2:(ob,cel [hX (bs t),hY k] g)∈xY lb (hT b3 U.length a7) url title tc cor::(a6++((W++b9)++(p2.at b::((ob,cel [hX (bs t),hY k] g)::(O++(I++L)))))):=
    .tail _ (lB0 _ (lB0 _ (.tail _ (.head _))))
   refine aa ⟨_,Sat.ld h i2 rfl,by decide,by simp;omega,?_⟩
   rw[e5]
   have h:Sat σ w ((b4,cel ((E++ [gZ aQ ob])++((y++xs)++sp)) aC)::(p2.at b::((ob,cel [hX (bs t),hY k] g)::(xY lb (hT b3 U.length a7) url title tc cor::(a6++(W++(O++(I++L)))))))):=by rw[d2] at h;exact h.re
   have k10: ∀w (ty:TypeId),Sat σ w ((b4,cel ((E++ [gZ ty lb])++((y++xs)++sp)) aC)::(p2.at b::((ob,cel [hX (bs t),hY k] g)::(xY lb (hT b3 U.length a7) url title tc cor::(a6++(W++(O++(I++L))))))))->
    InlAt (Ac img (xG (ts2++mR raw e i)) url title tc cor) (gZ ty lb) (xY lb (hT b3 U.length a7) url title tc cor::(W++a6))->
    av.k10 R X (kE b) (bs raw) b7 opens.length b6 lo b8 (ts1.length:Int) (kE ob) (en:Int) w:=by
    intro w ty h n0
    refine aa ?_
    refine⟨_,_,_,h.ldA,?_⟩
    rw[aN (by omega)]
    refine⟨_,_,_,_,rf rowInl.ht rowInl.hi p2.lq p2.ln p2.lc (ts1.length+1) (by omega) w,aa ?_⟩
    refine h.stA 1 λw h=>?_
    let c9:PS:= {p2 with ln:=ts1.length+1}
    have h:Sat σ w ((b4,cel ((E++ [gZ ty lb])++((y++xs)++sp)) aC)::(c9.at b::((ob,cel [hX (bs t),hY k] g)::(xY lb (hT b3 U.length a7) url title tc cor::(a6++(W++(O++(I++L)))))))):=h
    have h:Sat σ w (c9.at b::((b4,cel ((E++ [gZ ty lb])++((y++xs)++sp)) aC)::((ob,cel [hX (bs t),hY k] g)::(xY lb (hT b3 U.length a7) url title tc cor::(a6++(W++(O++(I++L)))))))):=h.re
    refine wv h λw h=>⟨rfl,aa ?_⟩
    generalize b5:({c9 with em:=(en:Int)}:PS)=p4 at h
    have h7:p4.core=p2.core:=by rw[<-b5];rfl
    have c8: ∀w,Sat σ w (p4.at b::((b4,cel ((E++ [gZ ty lb])++((y++xs)++sp)) aC)::((ob,cel [hX (bs t),hY k] g)::(xY lb (hT b3 U.length a7) url title tc cor::(a6++(W++(O++(I++L))))))))->
     IIn σ b p4 (ts1++ [Ac img (xG (ts2++mR raw e i)) url title tc cor]) opens b7 opens.length b6 L w:=by
     intro w h
     refine⟨E++ [gZ ty lb],[(b4,cel ((E++ [gZ ty lb])++((y++xs)++sp)) aC)],O++(xY lb (hT b3 U.length a7) url title tc cor::(W++a6)),I,?_,g1.append (InlsAt.one n0),g0,by simp;omega,?_⟩
     ·refine⟨by rw[<-b5];simp[c9];omega,by rw[<-b5];show ts1.length+1<=p2.lc;omega,.inr ⟨b4,(y++xs)++sp,by rw[<-b5];exact c5,rfl,?_⟩⟩
      rw[<-b5];show _=p2.lc*1
      simp only[lA0,lE0] at g6⊢;omega
     ·exact h.less [(ob,cel [hX (bs t),hY k] g)]
    have e9:(ob,cel [hX (bs t),hY k] g)∈p4.at b::((b4,cel ((E++ [gZ ty lb])++((y++xs)++sp)) aC)::((ob,cel [hX (bs t),hY k] g)::(xY lb (hT b3 U.length a7) url title tc cor::(a6++(W++(O++(I++L))))))):= .tail _ (.tail _ (.head _))
    refine⟨_,Sat.ld h e9 rfl,by decide,by simp;omega,?_⟩
    rw[e5]
    have f3:p4.coreS=p0.coreS:=PS.coreS_of h7 h9
    have h1:p4.s=raw:=by rw[<-b5];exact m4
    have f5:p4.em=(en:Int):=by rw[<-b5]
    have f4:e7 p4.bt:=by
     have r4:p4.bt=p.bt:=by rw[<-b5];show p2.bt=_;rw[h5,<-c2]
     rw[r4];exact k0
    rcases lJ4 img with V|V
    ·rw[V] at ht c3 c8
     exact af (by rw[ht];rfl) (c3 w p4 b7 _ b6 f4 f3 h1 f5 (c8 w h))
    ·rw[V] at ht c3 c8
     exact ag (by rw[ht];rfl) (aa ⟨_,Sat.ld h e9 rfl,c3 w p4 b7 _ b6 f4 f3 h1 f5 (c8 w h)⟩)
   have f0: ∀v:Value,((E++ [gZ aQ ob])++((y++xs)++sp)).set ts1.length v=(E++ [v])++((y++xs)++sp):=by
    intro v
    rw[<-j1,lD0,lD0,lP1 _ _ (lA1 _),lW1];simp
   have g7:ts1.length<((E++ [gZ aQ ob])++((y++xs)++sp)).length:=by simp;omega
   rcases lJ4 img with V|V
   ·refine ag (by rw[ht,V];rfl) (aa ?_)
    refine⟨_,_,_,h.ldA,?_⟩
    refine⟨by omega,by omega,?_⟩
    rw[c5]
    refine aa ?_
    simp only[lK0,lC0,lC1,lO0,lN1]
    refine Sat.st h (k:=0) rfl g7 trivial rfl λw h=>?_
    rw[f0] at h
    refine k10 w lQ h ?_
    rw[V]
    exact⟨lb,uU,b3,U.length,a7,U,W,a6,rfl,rfl,g4,g3⟩
   ·refine af (by rw[ht,V];rfl) (aa ?_)
    refine⟨_,_,_,h.ldA,?_⟩
    refine⟨by omega,by omega,?_⟩
    rw[c5]
    refine aa ?_
    simp only[lK0,lC0,lC1,lO0,lN1]
    refine Sat.st h (k:=0) rfl g7 trivial rfl λw h=>?_
    rw[f0] at h
    refine k10 w lP h ?_
    rw[V]
    exact⟨lb,uU,b3,U.length,a7,U,W,a6,rfl,rfl,g4,g3⟩
  have fin: ∀w r,Sat σ w (xY lb (hT none 0 0) url title tc cor::(({p with corner:=r}:PS).at b::(RM++((O++([(ob,cel [hX (bs t),hY k] g)]++c1))++(I++L)))))->
   av.k9 R X (kE b) (bs raw) b7 opens.length b6 lo b8 (i:Int) (ts1.length:Int) (kE ob) (kE lb) (en:Int) w:=λw r h=>k9 w r h.up1
  refine aa ⟨p.corner,Sat.ld h (.tail _ (.head _)) rfl,bp (λ_=>aa ?_) (λ_=>?_)⟩
  ·refine h.stA 1 λw h=>?_
   exact fin _ true h
  ·refine aa ⟨cor,Sat.ld h (.head _) rfl,bp (λ_=>aa ?_) (λ_=>?_)⟩
   ·refine h.stA 1 λw h=>?_
    exact fin _ true h
   ·refine aa ⟨bs url,Sat.ld h (.head _) rfl,?_⟩
    refine vv (by omega) λr=>⟨_,rfl,aa ?_⟩
    refine h.stA 1 λw h=>?_
    exact fin _ r h
 rcases lJ4 img with V|V
 ·exact ag (by rw[ht,V];rfl) k8
 ·refine af (by rw[ht,V];rfl) (aa ⟨_,Sat.ld h e6 rfl,?_⟩)
  rw[decide_eq_true (i4.resolve_left (by rw[V];decide))]
  exact k8

structure TX where
 t:Nat
 s:Nat
 e:Nat
 raw:List UInt8
def TX.chunk (x:TX):ai:=fC x.t x.s x.e none 0 0 x.raw
structure DB where
 v:Value
 own:List ai
 txs:List TX
def cZ (D:List DB):List ai:=D.flatMap DB.own
def ci (D:List DB):List TX:=D.flatMap DB.txs
theorem lR (D:List DB)(d:DB):cZ (D++ [d])=cZ D++d.own:=by simp[cZ]
theorem jQ (D:List DB)(d:DB):ci (D++ [d])=ci D++d.txs:=by simp[ci]
def j5 (g s e:Nat):OB:=⟨.iface ar (kT (kE g)),none,0,0,s,e⟩
theorem AH {q:Option Addr}{n c:Nat}{ts:List (List UInt8)}{y:List ai}(g:Sl 1 aq q n c (ts.map λt=> hX (bs t)) y)(h:Sat σ w (y++L))(O:ts≠ [])(U:ts.length<1048576)(h0:bG [10] ts≠ [])(hb:(bG [10] ts).length<1073741824)(E: ∀w,Sat σ w (y++L)->R (hQ (hX (bs (bG [10] ts)))) w):callE P ga #[hT q n c,hX (bs [10])] R w:=by
 have I:=g.1
 simp only[lS0,lC1] at I
 match ts,O with
 | [t],_=>
  obtain rfl:n=1:=by simpa using I.symm
  have e:bG [10] [t]=t:=by simp[bG]
  rw[e] at E
  exact Et h g E
 |t::u::ts,_=>
  exact CC (t:=t) (ts:=u::ts) g h (by simp) (by omega) (by decide) (lY0.2 h0) hb E
theorem wK {b g:Nat}{p:PS}{ob:List OB}{o:OB}{M y V:List ai}{ts:List Nat}{ls:List (List UInt8)}{s:List UInt8}(h:Sat σ w (p.at b::M++(y++(V++L))))(hs:Stk p (ob++ [o]) M)(ht:Txts p ts y)(b4:ts.length<1048575)(c2:rG g ls V)(W:ls≠ [])(b3:ls.length<1048576)(U:bG [10] ls=s)(c3:s.length<1073741824)(a6:s≠ [])(hb:EZ s)(c5:o.s<1000000000)(c1: ∀w p' I t nb,p'= {p with tq:=p'.tq,tn:=ts.length+1,tc:=p'.tc}->Txts p' (ts++ [t]) I->
  Sat σ w (p'.at b::M++(I++(V++(lE nb o.s (o.s+ls.length - 1) t::fC t o.s (o.s+ls.length - 1) none 0 0 s::L))))->R (hQ (.iface bD (kT (kE nb)))) w):
 callE P iN #[kT (kE g),.iface ah (kT (kE b))] R w:=by
 obtain⟨q,c,E,b7,rfl⟩:=c2
 have c4:1<=ls.length:=lY0.2 W
 refine cH.sound ?_
 have h:Sat σ w (p.at b::M++(y++(((g,cel [hT q ls.length c,kT none] aL)::E)++L))):=h
 have h:Sat σ w ((g,cel [hT q ls.length c,kT none] aL)::(E++(p.at b::M++(y++L)))):=h.re
 repeat (first|refine aa ?_|refine h.tk λw h=>?_|refine⟨_,h.ldA,?_⟩|refine⟨_,_,_,h.ldA,?_⟩)
 refine⟨_,w,jx wh _ _ _ w,af rfl ?_⟩
 repeat (first|refine aa ?_|refine h.tk λw h=>?_|refine⟨_,h.ldA,?_⟩|refine⟨_,_,_,h.ldA,?_⟩)
 have h:Sat σ w (E++((g,cel [hT q ls.length c,kT none] aL)::(p.at b::M++(y++L)))):=h.re
 refine AH b7 h W b3 (by rw[U];exact a6) (by rw[U];exact c3) λw h=>⟨_,rfl,?_⟩
 rw[U]
 intro X b9
 have a7:((bs s).toList==(hP #[]).toList)=false:=by rw[cJ,gx];simpa using a6
 refine b9 _ _ _ _ (ag (by rw[a7];rfl) ?_)
 refine hb _ _ _ ⟨_,_,rfl,ag rfl ?_⟩
 refine af a7 ?_
 have h:Sat σ w (p.at b::M++(y++(E++(g,cel [hT q ls.length c,kT none] aL)::L))):=h.re
 refine bm n8 ?_
 refine uk h hs λw h=>⟨_,_,rfl,?_⟩
 refine Sat.bx h λO w h=>?_
 repeat (first|refine aa ?_|refine h.tk λw h=>?_|refine⟨_,h.ldA,?_⟩|refine⟨_,_,_,h.ldA,?_⟩|refine h.stA 0 λw h=>?_|refine h.stA 1 λw h=>?_|refine h.stA 2 λw h=>?_|refine h.stA 3 λw h=>?_|refine h.stA 4 λw h=>?_|refine h.stA 5 λw h=>?_|refine h.stA 6 λw h=>?_|refine h.bx λb0 w h=>?_)
 have h:Sat σ _ ((O,cel [hY o.s,hY o.e] aF)::(p.at b::M++(y++(E++(g,cel [hT q ls.length c,kT none] aL)::L)))):=h
 have h:Sat σ _ ((O,cel [hY o.s,hY o.e] aF)::(g,cel [hT q ls.length c,kT none] aL)::(p.at b::M++(y++(E++L)))):=h.re
 refine⟨_,_,_,h.ldA,?_⟩
 refine h.stA 0 λw h=>?_
 refine h.tk λw h=>?_
 refine⟨_,h.ldA,?_⟩
 refine⟨_,h.ldA,?_⟩
 refine⟨_,h.ldA,?_⟩
 refine⟨_,h.ldA,?_⟩
 have b8:i64.wrap (i64.wrap ((o.s:Int)+((ls.length:Nat):Int)) - 1)=((o.s+ls.length - 1:Nat):Int):=by
  rw[i64_in (_+_) (by omega),i64_in _ (by omega)];omega
 rw[b8] at h⊢
 have h:Sat σ _ ((O,cel [hY o.s,hY (o.s+ls.length - 1:Nat)] aF)::(g,cel [hT q ls.length c,kT none] aL)::(p.at b::M++(y++(E++L)))):=h
 have hz:=h
 have h:Sat σ _ (p.at b::y++((O,cel [hY o.s,hY (o.s+ls.length - 1:Nat)] aF)::(g,cel [hT q ls.length c,kT none] aL)::(M++(E++L)))):=h.re
 refine bm wT ?_
 refine un h ht b4 λw p' I t b5 b6 h=>⟨_,rfl,?_⟩
 refine⟨hz.same h (.head _) (by simp) 2,?_⟩
 refine Sat.bx h λnb w h=>?_
 have h:Sat σ w (lE nb o.s (o.s+ls.length - 1) t::(p'.at b::I++(fC t o.s (o.s+ls.length - 1) none 0 0 s::((O,cel [hY o.s,hY (o.s+ls.length - 1:Nat)] aF)::(g,cel [hT q ls.length c,kT none] aL)::(M++(E++L)))))):=h
 refine c1 w p' I t nb b5 b6 ?_
 have h:=Sat.less (L':=p'.at b::M++(I++(((g,cel [hT q ls.length c,kT none] aL)::E)++(lE nb o.s (o.s+ls.length - 1) t::fC t o.s (o.s+ls.length - 1) none 0 0 s::L)))) [(O,cel [hY o.s,hY (o.s+ls.length - 1:Nat)] aF)] h
 exact h
theorem xI {b b5:Nat}{p:PS}{ob:List OB}{par o:OB}{M W E IM:List ai}{inner:List Value}{ts:List Nat}{ls:List (List UInt8)}{s:List UInt8}(h:Sat σ w (p.at b::M++(IM++(W++(E++L)))))(hs:Stk p (ob++ [par]++ [o]) M)(b6:o.bd= .iface ar (kT (kE b5)))(e0:Sl 1 aO par.q par.n par.c inner IM)(d2:par.n<1000000)(ht:Txts p ts W)(c2:ts.length<1048575)(e3:rG b5 ls E)(c4:ls≠ [])(b9:ls.length<1048576)(d3:bG [10] ls=s)(e5:s.length<1073741824)(c8:s≠ [])(hb:EZ s)(d1:o.s<1000000000)(e1: ∀w p' b4 a6 g t nb U V x,p'= {p with stn:=ob.length+1,tq:=p'.tq,tn:=ts.length+1,tc:=p'.tc}->Stk p' (ob++ [{par with q:=U,n:=par.n+1,c:=V}]) b4->Txts p' (ts++ [t]) g->
  Sl 1 aO U (par.n+1) V (inner++ [.iface bD (kT (kE nb))]) a6->
  Sat σ w (p'.at b::b4++(a6++(g++(lE nb o.s (o.s+ls.length - 1) t::fC t o.s (o.s+ls.length - 1) none 0 0 s::L))))->R (hQ x) w):
 callE P aI #[kT (kE b)] R w:=by
 refine pW (ob:=ob) (par:=par) (IM:=IM) (inner:=inner) (λy b3 a7 q=> ∃g t nb,y= {p with tq:=y.tq,tn:=ts.length+1,tc:=y.tc}/\Txts y (ts++ [t]) g/\
  b3=g++(E++(lE nb o.s (o.s+ls.length - 1) t::fC t o.s (o.s+ls.length - 1) none 0 0 s::L))/\a7=bD/\q=kE nb) h hs b6 e0 d2 ?_ ?_
 ·intro e6 w h e4
  rw[b6]
  have h:Sat σ w (p.at b::M++(W++(E++(IM++L)))):=h.re
  refine bm tP ?_
  refine wK (ob:=ob++ [par]) (o:=o) (ts:=ts) h hs ht c2 e3 c4 b9 d3 e5 c8 hb d1 λw p' g t nb O d0 h=>?_
  exact e4 w p' _ bD _ (by rw[O]) (by rw[O]) (by rw[O]) (by decide) ⟨g,t,nb,O,d0,rfl,rfl,rfl⟩ (h.re)
 ·intro w p2 e2 c5 y b3 a7 q U V b7 I c3 c9 h
  obtain⟨g,t,nb,b8,c1,rfl,rfl,rfl⟩:=b7
  refine e1 w p2 e2 c5 g t nb U V _ ?_ c3 (c1.of (by rw[I]) (by rw[I]) (by rw[I])) c9 (h.less E)
  rw[I,b8]

def dI (ls:List (List UInt8)):List UInt8:=ls.flatMap λl=>l++ [10]
def dN (R:EP)(y g:BA)(w:World):Prop:=
 br (decide ((y.size:Int) >= (g.size:Int)))
 (0<=(g.size:Int)/\(g.size:Int)<=(y.size:Int)/\
 R (hQ (hV ((y.extract 0 (Int.toNat (g.size:Int))).toList==g.toList))) w)
 (R (hQ (hV false)) w)
theorem dN.sound {R x0 x1 w}(h:dN R x0 x1 w):callE P fj #[hX x0,hX x1] R w:=
 cE Tryz.func231 Tryz.call231 h
def ot (R:EP)(g:Int)(w:World):Prop:=
 R (hQ (hV (((decide (65<=g)) && (decide (g<=90)))||((decide (97<=g)) && (decide (g<=122)))))) w
theorem ot.sound {R x0 w}(h:ot R x0 w):callE P qF #[.int .u8 x0] R w:=
 cE Tryz.func202 Tryz.call202 h
def iU (R:EP)(E I:BA)(w:World):Prop:=
 callE P fj #[hX E,hX I] (λe y=> ∃g,e= hQ (hV g)/\
 R (hQ (hV g)) y) w
theorem iU.sound {R x0 x1 w}(h:iU R x0 x1 w):callE P iK #[hX x0,hX x1] R w:=
 cE Tryz.func176 Tryz.call176 h

theorem E9 (c:UInt8)(n:Nat):decide ((n:Int)<=((c.toNat:Nat):Int))=decide (n<=c.toNat):=by rw[decide_eq_decide];omega
theorem Fa (c:UInt8)(n:Nat):decide (((c.toNat:Nat):Int)<=(n:Int))=decide (c.toNat<=n):=by rw[decide_eq_decide];omega
def Bn (c:UInt8):Bool:=(decide (65<=c.toNat) && decide (c.toNat<=90))||(decide (97<=c.toNat) && decide (c.toNat<=122))
theorem yS {c:UInt8}(g:R (hQ (hV (Bn c))) w):callE P qF #[.int .u8 (c.toNat:Int)] R w:=by
 refine ot.sound ?_
 unfold ot
 have e:(((decide ((65:Int)<=((c.toNat:Nat):Int))) && (decide (((c.toNat:Nat):Int)<=90)))||((decide ((97:Int)<=((c.toNat:Nat):Int))) && (decide (((c.toNat:Nat):Int)<=122))))=Bn c:=by
  unfold Bn
  rw[<-E9 c 65,<-Fa c 90,<-E9 c 97,<-Fa c 122];rfl
 rw[e];exact g
theorem xw {s t:List UInt8}(g:R (hQ (hV (decide (s.take t.length=t)))) w):callE P iK #[hX (bs s),hX (bs t)] R w:=by
 refine iU.sound ?_
 refine dN.sound ?_
 by_cases y:t.length<=s.length
 ·refine ag (by simp;omega) ⟨by omega,by simp;omega,?_⟩
  rw[aJ,lC0,cj,lM2,cJ,cJ]
  have e:(s.take t.length==t)=decide (s.take t.length=t):=by rw[lZ4];simp
  rw[e];exact⟨_,rfl,g⟩
 ·refine af (by simp;omega) ?_
  have:decide (s.take t.length=t)=false:=decide_eq_false λh=>by have:=congrArg List.length h;simp at this;omega
  rw[<-this];exact⟨_,rfl,g⟩
namespace cR
def bl1 (R:EP)(Xa:OA->Nat->Int->WP)(y:OA)(g:Nat)(E:Int)(w:World):Prop:=
 callE P fI #[kT (kE g),.int .u8 E] (λe U=> ∃O,e= hQ (hV O)/\
 br O
 (Xa y g E U)
 (callE P iD #[kT (kE g)] (λe a6=>e= hQ (.tuple #[])/\
 callE P og #[kT (kE g)] (λe I=> ∃V,e= hQ (hV V)/\
 br V
 (br (E==61)
 (aA y λa7=>
 stV I (a7.add 0) (hY 1) λb4=>
 R (hQ (hV true)) b4)
 (aA y λW=>
 stV I (W.add 0) (hY 2) λb3=>
 R (hQ (hV true)) b3))
 (False)) a6) U)) w
def l1 (R:EP)(g:OA)(E:Nat)(y:Int)(w:World):Prop:=
 ∀X:OA->Nat->Int->WP,(∀g E y w,bl1 R X g E y w->X g E y w)->X g E y w
def k1 (R:EP)(y:OA)(I:Nat)(E:Int)(g:Bool)(w:World):Prop:=
 br g
 (l1 R y I E w)
 (R (hQ (hV false)) w)
end cR
def cR (R:EP)(b9 c1:OA)(w:World):Prop:=
 aA b9 λa1=>
 ∃V,w.cell? (a1.add 0)=some (hY V)/\
 ∃E,w.cell? (a1.add 1)=some (hY E)/\
 ∃U,w.cell? (a1.add 2)=some (hY U)/\
 ∃O,w.cell? (a1.add 3)=some (hX O)/\
 ∃I,w.cell? (a1.add 4)=some (.int .u8 I)/\
 box w #[hY 0,hY 0,hY 0,hX (hP #[]),.int .u8 0] aW λg b8=>
 stV b8 (hZ g 0) (hY V) λc2=>
 stV c2 (hZ g 1) (hY E) λb5=>
 stV b5 (hZ g 2) (hY U) λb6=>
 stV b6 (hZ g 3) (hX O) λb3=>
 stV b3 (hZ g 4) (.int .u8 I) λb4=>
 callE P bl #[kT (kE g),hY 0,hY 3,hV false] (λe a7=> ∃a6,e= hQ (hV a6)/\
 callE P iP #[kT (kE g)] (λe W=> ∃y,e= hQ (.int .u8 y)/\
 cR.k1 R c1 g y ((y==45)||(y==61)) W) a7) b4
theorem cR.sound {R x0 x1 w}(h:cR R x0 x1 w):callE P fy #[kT x0,kT x1] R w:=
 aG [(111,.mk [22,106,128,340] (cR.k1 R)),(559,.lp [22,106,128] (cR.bl1 R) λXa=> []),(4015,.no)] Tryz.func194 Tryz.call194 h
def ip (R:EP)(d1 d0:OA)(c2 c1 b7:Int)(b9:BA)(b8:Int)(w:World):Prop:=
 box w #[hY c2,hY c1,hY b7,hX b9,.int .u8 b8] aW λb1 c9=>
 box c9 #[hY 0,hY 0,hY 0,hX (hP #[]),.int .u8 0] aW λg E=>
 ∃b5,E.cell? (hZ b1 0)=some (hY b5)/\
 ∃b4,E.cell? (hZ b1 1)=some (hY b4)/\
 ∃a7,E.cell? (hZ b1 2)=some (hY a7)/\
 ∃b6,E.cell? (hZ b1 3)=some (hX b6)/\
 ∃a6,E.cell? (hZ b1 4)=some (.int .u8 a6)/\
 stV E (hZ g 0) (hY b5) λc3=>
 stV c3 (hZ g 1) (hY b4) λc4=>
 stV c4 (hZ g 2) (hY a7) λc5=>
 stV c5 (hZ g 3) (hX b6) λc8=>
 stV c8 (hZ g 4) (.int .u8 a6) λy=>
 ∃W,y.cell? (hZ g 0)=some (hY W)/\
 ∃O,y.cell? (hZ g 1)=some (hY O)/\
 ∃U,y.cell? (hZ g 2)=some (hY U)/\
 ∃V,y.cell? (hZ g 3)=some (hX V)/\
 ∃I,y.cell? (hZ g 4)=some (.int .u8 I)/\
 R (hQ (.tuple #[.agg #[hY W,hY O,hY U,hX V,.int .u8 I],hV false])) y
theorem ip.sound {R x0 x1 x2_0 x2_1 x2_2 x2_3 x2_4 w}(h:ip R x0 x1 x2_0 x2_1 x2_2 x2_3 x2_4 w):callE P ig #[kT x0,kT x1,.agg #[hY x2_0,hY x2_1,hY x2_2,hX x2_3,.int .u8 x2_4]] R w:=
 cE Tryz.func423 Tryz.call423 h

inductive Leaf where
 |none
 |para (ls:List (List UInt8))
 |other (A:List OB->List ai->Prop)
def DC:Leaf->List OB->List ai->Prop
 | .none,ob,M=>ob= []/\M= []
 | .para ls,ob,M=> ∃g s e,ob= [j5 g s e]/\rG g ls M/\s<1000000000/\ls≠ []/\ls.length<1048570
 | .other A,ob,M=>A ob M
def Hb (g:Nat):Value:= .iface iB (kT (kE g))
def PS.base (p:PS):PS:= {p with lineno:=0,stq:=none,stn:=0,stc:=0,depth:=0,corner:=false,tq:=none,tn:=0,tc:=0}
def kz (nb t s e:Nat)(raw:List UInt8):DB:=⟨.iface bD (kT (kE nb)),[lE nb s e t],[⟨t,s,e,raw⟩]⟩
def Leaf.fin:Leaf->Prop
 | .none=>True
 | .para ls=>(bG [10] ls).length<1073741824/\bG [10] ls≠ []/\((bG [10] ls).dropWhile lG).head? ≠some 91
 | .other _=>False
def Leaf.finN:Leaf->Prop
 | .none=>True
 | .para ls=>(bG [10] ls).length<1073741824/\bG [10] ls≠ []/\EZ (bG [10] ls)
 | .other _=>False
theorem Leaf.fin.toN {lf:Leaf}(h:lf.fin):lf.finN:=by
 cases lf with
 |none=>trivial
 |para ls=>exact⟨h.1,h.2.1,El (by have:=h.1;omega) h.2.2⟩
 |other A=>exact h
theorem sP:ns P ar "pub-paratext/pub/rscmarkdown.extend" ig=true:=by kernel_rfl
theorem vk {E g:Option Addr}{l:Ln}(h:Sat σ w L)(y: ∀w,Sat σ w L->R (hQ (.tuple #[l.val,hV false])) w):callE P ig #[kT E,kT g,l.val] R w:=by
 refine ip.sound ?_
 refine Sat.bx h λb1 w h=>?_
 refine Sat.bx h λI w h=>?_
 repeat (first|refine aa ?_|refine h.tk λw h=>?_|refine⟨_,h.ldA,?_⟩|refine⟨_,_,_,h.ldA,?_⟩|refine h.stA 0 λw h=>?_|refine h.stA 1 λw h=>?_|refine h.stA 2 λw h=>?_|refine h.stA 3 λw h=>?_|refine h.stA 4 λw h=>?_|refine h.stA 5 λw h=>?_|refine h.stA 6 λw h=>?_|refine h.bx λb0 w h=>?_)
 exact y _ h.tail.tail
theorem uq:(P.fieldsOf aW).toList.map (λf=>(f.name== "_",f.type,f.offset))= [(false,ba,0),(false,ba,1),(false,ba,2),(false,aq,3),(false,dz,4)]:=by kernel_rfl
theorem rB {xs I:Array Value}: ∀ {fs:List Field} {gs:List (TypeId × Nat)},fs.map (λf=>(f.name== "_",f.type,f.offset))=gs.map (λy=>(false,y.1,y.2))->
 (∀y∈gs,∃v,(part y.1 xs y.2).run P w= .ok v w/\(part y.1 I y.2).run P w= .ok v w/\(Op.equalIn 9999 y.1 v v).run P w= .ok true w)->(Op.eqFields 9999 xs I fs).run P w= .ok true w
 | [],[],_,_=>rfl
 | [],y::gs,h,_=>by simp at h
 |f::fs,[],h,_=>by simp at h
 |f::fs,y::gs,h,hg=>by
  simp only[lO1,lU0,Prod.mk.injEq] at h
  obtain⟨⟨b5,E,a6⟩,b4⟩:=h
  obtain⟨v,U,V,O⟩:=hg y (lZ1 ..)
  have a7:=rB b4 (λb3 W=>hg b3 (lR1 _ W))
  have b6:f.name≠ "_" :=by simpa using b5
  rw[<-E,<-a6] at U V
  rw[<-E] at O
  simp only[Op.eqFields,ne_eq,b6,not_false_eq_true,if_true,lX0,U,V,O,lJ0,Bool.not_true,lD3,if_false]
  exact a7
theorem ql:P.underlying ba=some (.int .i64):=by kernel_rfl
theorem E5:P.underlying dz=some (.int .u8):=by kernel_rfl
theorem mT:P.underlying aq=some .string:=by kernel_rfl
theorem jS {t:TypeId}{d:TypeDesc}(hd:P.underlying t=some d)(y: ∀f,d≠ .struct f)(g: ∀n e,d≠ .array n e){cs:Array Value}{k:Nat}{v:Value}(hv:cs[k]? =some v)(w:World):(part t cs k).run P w= .ok v w:=by
 cases d<;>first|exact absurd rfl (y _)|exact absurd rfl (g _ _)|simp[part,isAgg,run_underlying hd,hv]
theorem vG {t:TypeId}{k:IntKind}(y:P.underlying t=some (.int k)){cs:Array Value}{i:Nat}{a:Int}(hv:cs[i]? =some (.int k a)): ∃v,(part t cs i).run P w= .ok v w/\(part t cs i).run P w= .ok v w/\(Op.equalIn 9999 t v v).run P w= .ok true w:=by
 have g:=jS y (λ_ h=>by cases h) (λ_ _ h=>by cases h) hv w
 exact⟨_,g,g,by rw[run_equalIn_int w 9998 t k k a a y,beq_self_eq_true]⟩
theorem Gy {cs:Array Value}{i:Nat}{a:ByteArray}(hv:cs[i]? =some (hX a)): ∃v,(part aq cs i).run P w= .ok v w/\(part aq cs i).run P w= .ok v w/\(Op.equalIn 9999 aq v v).run P w= .ok true w:=by
 have g:=jS mT (λ_ h=>by cases h) (λ_ _ h=>by cases h) hv w
 exact⟨_,g,g,by rw[run_equalIn_string w 9998 aq a a mT,beq_self_eq_true]⟩
theorem Eo (l:Ln)(x I:Operand)(w:World):(do eqGuard .neq aW x I l.val l.val;binOp .neq aW l.val l.val).run P w= .ok (hV false) w:=by
 have E:(eqGuard .neq aW x I l.val l.val).run P w= .ok () w:=run_eqGuard_agg w .neq aW x I _ _ (by kernel_rfl)
 have hb:=run_neq_struct (P:=P) w aW #[hY l.sp,hY l.i,hY l.tab,hX (bs l.text),.int .u8 l.nl.toNat] #[hY l.sp,hY l.i,hY l.tab,hX (bs l.text),.int .u8 l.nl.toNat]
 have O:(Op.equalIn 10000 aW (.agg #[hY l.sp,hY l.i,hY l.tab,hX (bs l.text),.int .u8 l.nl.toNat]) (.agg #[hY l.sp,hY l.i,hY l.tab,hX (bs l.text),.int .u8 l.nl.toNat])).run P w= .ok true w:=by
  rw[run_equalIn_struct w 9999 aW _ _ (by kernel_rfl) (by kernel_rfl)]
  refine rB (gs:= [(ba,0),(ba,1),(ba,2),(aq,3),(dz,4)]) uq ?_
  intro U E
  simp only[lW0,lW5,or_false] at E
  rcases E with rfl|rfl|rfl|rfl|rfl
  ·exact vG ql rfl
  ·exact vG ql rfl
  ·exact vG ql rfl
  ·exact Gy rfl
  ·exact vG E5 rfl
 rw[lX0,E,lJ0]
 refine hb.trans ?_
 rw[O];rfl

theorem o5 {b4:OA->Nat->WP}{Y:OA->Nat->OA->Nat->Nat->Int->Int->WP}{b b1 nb:Nat}{e:TypeId}{p:PS}{M:List ai}{l:Ln}(b6: ∀W a6 y I E U O w,ak.bl2 R b4 Y W a6 y I E U O w->Y W a6 y I E U O w)(i:Nat):
 ∀(k:Nat) w,i<=8->k<=i->(∀j (a7:j<newsF.length),k<=j->j<i->Bt b p M l newsF[j])->Sat σ w (p.at b::M++(l.at b1::(nb,cel newsC e)::L))->
  (∀w,Sat σ w (p.at b::M++(l.at b1::(nb,cel newsC e)::L))->Y (kE b) b1 (kE nb) 8 8 8 (i:Nat) w)->Y (kE b) b1 (kE nb) 8 8 8 (k:Nat) w:=by
 intro k
 generalize c1:i - k=m
 induction m generalizing k with
 |zero=>
  intro w hi b8 hd h g
  obtain rfl:k=i:=by omega
  exact g w h
 |succ m b5=>
  intro w hi b8 hd h g
  refine b6 _ _ _ _ _ _ _ _ (ag (by simp;omega) ⟨by omega,by omega,?_⟩)
  have V:k<newsF.length:=by show k<8;omega
  have b7:=lI0 V
  refine aa ?_
  simp only[lK0,lO0,lC0,lC1]
  have h:Sat σ w (l.at b1::(nb,cel newsC e)::(p.at b::(M++L))):=h.re
  refine⟨_,Sat.ld h (.tail _ (.head _)) (sL b7),?_⟩
  refine⟨_,Sat.ld h (.head _) rfl,_,Sat.ld h (.head _) rfl,_,Sat.ld h (.head _) rfl,_,Sat.ld h (.head _) rfl,_,Sat.ld h (.head _) rfl,?_⟩
  have h:Sat σ w (p.at b::M++(l.at b1::(nb,cel newsC e)::L)):=h.re
  refine gY ?_
  refine hd k V (lA1 _) (by omega) σ w _ _ h λw h=>⟨_,_,_,_,_,_,rfl,?_⟩
  repeat (first|refine aa ?_|refine h.tk λw h=>?_|refine⟨_,h.ldA,?_⟩|refine⟨_,_,_,h.ldA,?_⟩|refine h.stA 0 λw h=>?_|refine h.stA 1 λw h=>?_|refine h.stA 2 λw h=>?_|refine h.stA 3 λw h=>?_|refine h.stA 4 λw h=>?_|refine h.stA 5 λw h=>?_|refine h.stA 6 λw h=>?_|refine h.bx λb0 w h=>?_)
  rw[aN (by omega)]
  have h:Sat σ _ (l.at b0::(p.at b::M++(l.at b1::(nb,cel newsC e)::L))):=h
  exact b5 (k+1) (by omega) _ hi (by omega) (λj a7 b9 b3=>hd j a7 (by omega) b3) h.tail g
theorem uK {I:OA->Nat->WP}{b b1:Nat}{p:PS}{M:List ai}{l:Ln}(h:Sat σ w (p.at b::M++(l.at b1::L)))(hd: ∀f∈newsF,Bt b p M l f)(O: ∀w nb e (E:Ending->World->Prop),Sat σ w (p.at b::M++(l.at b1::(nb,cel newsC e)::L))->(∀w k,R (hQ (.tuple #[])) w->E (hQ (.tuple #[Ln.zero.val,hV k])) w)->callE P pN #[kT (kE b),l.val] E w):
 ak.bl102 R I (kE b) b1 w:=by
 refine yL h λw nb e h=>⟨_,_,_,rfl,?_⟩
 intro Y y
 have h:Sat σ w (p.at b::M++(l.at b1::(nb,cel newsC e)::L)):=h.re
 refine o5 y 8 0 w (by omega) (by omega) (λj V _ _=>hd _ (lQ1 V)) h λw h=>?_
 refine y _ _ _ _ _ _ _ _ (af (by simp) ?_)
 have g:l.at b1∈p.at b::M++(l.at b1::(nb,cel newsC e)::L):=by simp
 refine⟨_,Sat.ld h g (i:=0) rfl,_,Sat.ld h g (i:=1) rfl,_,Sat.ld h g (i:=2) rfl,_,Sat.ld h g (i:=3) rfl,_,Sat.ld h g (i:=4) rfl,?_⟩
 exact O w nb e _ h λw k U=>⟨_,_,_,_,_,_,rfl,U⟩
theorem oA {V:OA->Nat->WP}{b b1:Nat}{p:PS}{M:List ai}{l:Ln}(i:Nat)(hi:i<newsF.length)(h:Sat σ w (p.at b::M++(l.at b1::L)))(hd: ∀j (O:j<newsF.length),j<i->Bt b p M l newsF[j])(W: ∀w nb e (I:Ending->World->Prop),Sat σ w (p.at b::M++(l.at b1::(nb,cel newsC e)::L))->
  (∀w g,Sat σ w (l.at b1::g)->(∀w,Sat σ w g->R (hQ (.tuple #[])) w)->I (hQ (.tuple #[Ln.zero.val,hV true])) w)->callE P newsF[i] #[kT (kE b),l.val] I w):
 ak.bl102 R V (kE b) b1 w:=by
 have b3:i<8:=hi
 refine yL h λw nb e h=>⟨_,_,_,rfl,?_⟩
 intro Y E
 have h:Sat σ w (p.at b::M++(l.at b1::(nb,cel newsC e)::L)):=h.re
 refine o5 E i 0 w (by omega) (by omega) (λj O _ U=>hd j O U) h λw h=>?_
 refine E _ _ _ _ _ _ _ _ (ag (by simp;omega) ⟨by omega,by omega,?_⟩)
 have a6:=lI0 hi
 refine aa ?_
 simp only[lK0,lO0,lC0,lC1]
 have h:Sat σ w (l.at b1::(nb,cel newsC e)::(p.at b::(M++L))):=h.re
 refine⟨_,Sat.ld h (.tail _ (.head _)) (sL a6),?_⟩
 refine⟨_,Sat.ld h (.head _) rfl,_,Sat.ld h (.head _) rfl,_,Sat.ld h (.head _) rfl,_,Sat.ld h (.head _) rfl,_,Sat.ld h (.head _) rfl,?_⟩
 have h:Sat σ w (p.at b::M++(l.at b1::(nb,cel newsC e)::L)):=h.re
 refine gY ?_
 refine W w nb e _ h λw g h a7=>⟨_,_,_,_,_,_,rfl,?_⟩
 refine Sat.bx h λy w h=>?_
 refine h.stA 0 λw h=>?_
 refine h.stA 0 λw h=>?_
 refine h.stA 0 λw h=>?_
 refine h.stA 0 λw h=>?_
 refine h.stA 0 λw h=>?_
 have h:Sat σ w (Ln.zero.at y::l.at b1::g):=h
 refine ag rfl ?_
 refine⟨_,h.ldA,?_⟩
 refine⟨_,h.ldA,?_⟩
 refine⟨_,h.ldA,?_⟩
 refine⟨_,h.ldA,?_⟩
 refine⟨_,h.ldA,?_⟩
 refine h.stA 1 λw h=>?_
 refine h.stA 1 λw h=>?_
 refine h.stA 1 λw h=>?_
 refine h.stA 1 λw h=>?_
 refine h.stA 1 λw h=>?_
 have h:Sat σ w (Ln.zero.at y::Ln.zero.at b1::g):=h
 refine dF (l:=Ln.zero) h (.tail _ (.head _)) ⟨by decide,by decide,by decide,by decide⟩ λw h=>⟨_,rfl,?_⟩
 exact ag rfl (a7 _ h.tail.tail)
def Ln.rest (l:Ln):List UInt8:=(l.text.drop l.i).dropWhile cO
theorem uZ {b nb:Nat}{l:Ln}{v:Int}{e:TypeId}(h:Sat σ w (l.at b::(nb,cel [hY v] e)::L))(g:l.ok)(y:(l.lead 3 false).peek≠45)(E:(l.lead 3 false).peek≠61)(I: ∀w,Sat σ w (l.at b::(nb,cel [hY v] e)::L)->R (hQ (hV false)) w):callE P fy #[kT (kE b),kT (kE nb)] R w:=by
 refine cR.sound ?_
 repeat (first|refine aa ?_|refine h.tk λw h=>?_|refine⟨_,h.ldA,?_⟩|refine⟨_,_,_,h.ldA,?_⟩|refine h.stA 0 λw h=>?_|refine h.stA 1 λw h=>?_|refine h.stA 2 λw h=>?_|refine h.stA 3 λw h=>?_|refine h.stA 4 λw h=>?_|refine h.stA 5 λw h=>?_|refine h.stA 6 λw h=>?_|refine h.bx λb0 w h=>?_)
 have h:Sat σ _ (l.at b0::l.at b::(nb,cel [hY v] e)::L):=h
 refine lead_ok (max:=3) h g (by decide) λw h=>⟨_,rfl,?_⟩
 refine mi h (by first|assumption|(repeat (first|exact .head _|apply List.Mem.tail))) (Ln.lead_ok g) λw h=>⟨_,rfl,?_⟩
 rw[u8b _ 45 45 rfl,u8b _ 61 61 rfl]
 exact af (by simp[y,E]) (I _ h.tail)
theorem vL {t u e:TypeId}{i j:TypeInfo}{V:Array (String × TypeId)}(U:P.underlying t=some (.interface V))(hi:P.info? u=some i)(hc:i.comparable=true)(E:P.underlying u=some (.pointer e))(O:P.info? e=some j)(hs:j.size≠0)(b:Nat)(x W:Operand)(w:World):
 (do eqGuard .eql t x W (.iface u (kT (kE b))) (.iface u (kT (kE b)));binOp .eql t (.iface u (kT (kE b))) (.iface u (kT (kE b)))).run P w= .ok (hV true) w:=by
 refine xK rfl rfl ?_
 have g: ∀d,(Op.equalIn (d+1) u (kT (kE b)) (kT (kE b))).run P w= .ok true w:=λd=>by
  simp[Op.equalIn,run_underlying E,sizeOf,typeInfo,O,hs,sameAddr]
 have I: ∀d,(Op.equalIn (d+2) t (.iface u (kT (kE b))) (.iface u (kT (kE b)))).run P w= .ok true w:=λd=>by
  rw[Op.equalIn]
  simp[run_underlying U,typeInfo,hi,hc,g]
 exact I 9998
theorem rA (b:Nat)(x g:Operand)(w:World):
 (do eqGuard .eql bO x g (.iface ar (kT (kE b))) (.iface ar (kT (kE b)));binOp .eql bO (.iface ar (kT (kE b))) (.iface ar (kT (kE b)))).run P w= .ok (hV true) w:=
 vL tZ (i:=(P.info? ar).getD default) (j:=(P.info? aL).getD default) (by kernel_rfl) (by kernel_rfl) kR (by kernel_rfl) (by rw[show ((P.info? aL).getD default).size=2 by kernel_rfl];decide) b x g w
structure Ln.cont (l:Ln):Prop where
 plain:l.plain
 lt:(l.lead 3 false).peek≠60
 dash:(l.lead 3 false).peek≠45
 eq:(l.lead 3 false).peek≠61

theorem vT {t:TypeId}{k:IntKind}(g:P.underlying t=some (.int k)){cs y:Array Value}{i:Nat}{a b:Int}(hv:cs[i]? =some (.int k a))(E:y[i]? =some (.int k b)): ∃u v r,(part t cs i).run P w= .ok u w/\(part t y i).run P w= .ok v w/\(Op.equalIn 9999 t u v).run P w= .ok r w:=
 ⟨_,_,_,jS g (λ_ h=>by cases h) (λ_ _ h=>by cases h) hv w,jS g (λ_ h=>by cases h) (λ_ _ h=>by cases h) E w,run_equalIn_int w 9998 t k k a b g⟩
theorem GH {cs g:Array Value}{i:Nat}{a b:ByteArray}(hv:cs[i]? =some (hX a))(y:g[i]? =some (hX b)): ∃u v r,(part aq cs i).run P w= .ok u w/\(part aq g i).run P w= .ok v w/\(Op.equalIn 9999 aq u v).run P w= .ok r w:=
 ⟨_,_,_,jS mT (λ_ h=>by cases h) (λ_ _ h=>by cases h) hv w,jS mT (λ_ h=>by cases h) (λ_ _ h=>by cases h) y w,run_equalIn_string w 9998 aq a b mT⟩

structure TF where
 q:Option Addr
 n:Nat
 c:Nat
 vs:List Value
 RM:List ai
 KM:List ai
 KM':List ai
 f:List UInt8->List UInt8
def fill (x:TX)(t:TF):List ai:=fC x.t x.s x.e t.q t.n t.c x.raw::(t.RM++t.KM)
def i6 (R:EP)(b3:OA)(b4:Value)(w:World):Prop:=
 aA b3 λa1=>
 ∃b6,w.cell? a1=some (kT b6)/\
 aA b6 λa3=>
 stV w ((a3.add 3).add 0) (kT none) λb9=>
 tk b9 λg=>
 aA b3 λy=>
 ∃b5,g.cell? (y.add 1)=some (hY b5)/\
 de P (callMethod b4 "pub-paratext/pub/rscmarkdown.pos" #[]) (λe E=> ∃O W,e= hQ (.agg #[hY O,hY W])/\
 SameC g E (y.add 1) 1/\
 de P (callMethod b4 "pub-paratext/pub/rscmarkdown.blocks" #[]) (λe a7=> ∃V U I,e= hQ (hT V U I)/\
 SameC E a7 (y.add 1) 1/\
 box a7 #[hY O,hY W,hT V U I,hY b5] m9 λb7 b8=>
 R (hQ (.iface fU (kT (kE b7)))) b8) E) g
theorem i6.sound {R x0 x1 w}(h:i6 R x0 x1 w):callE P iS #[kT x0,x1] R w:=
 aG [(11,.dr (rpN [0,6,12,15,18,22,5,11,24,29,30,33]))] Tryz.func438 Tryz.call438 h
def im (R:EP)(b3:OA)(U:Value)(w:World):Prop:=
 de P (callMethod U "pub-paratext/pub/rscmarkdown.pos" #[]) (λe W=> ∃g y,e= hQ (.agg #[hY g,hY y])/\
 de P (callMethod U "pub-paratext/pub/rscmarkdown.blocks" #[]) (λe a7=> ∃E O I,e= hQ (hT E O I)/\
 box a7 #[hY g,hY y,hT E O I] zu λa6 V=>
 R (hQ (.iface ki (kT (kE a6)))) V) W) w
theorem im.sound {R x0 x1 w}(h:im R x0 x1 w):callE P ia #[kT x0,x1] R w:=
 cE Tryz.func434 Tryz.call434 h
namespace aV
def k3 (R:EP)(E:OA)(c1:Value)(I:Nat)(w:World):Prop:=
 tk w λg=>
 aA E λb4=>
 aA E λW=>
 aA E λb6=>
 ∃b3,g.cell? (hZ I 0)=some (hY b3)/\
 ∃b7,g.cell? (hZ I 1)=some (hY b7)/\
 ∃a7,g.cell? b4=some (.int .i32 a7)/\
 ∃b5,g.cell? (W.add 1)=some (hY b5)/\
 ∃a6,g.cell? (b6.add 2)=some (hV a6)/\
 de P (callMethod c1 "pub-paratext/pub/rscmarkdown.blocks" #[]) (λe y=> ∃U O V,e= hQ (hT U O V)/\
 SameC g y (b6.add 2) 1/\
 SameC g y (W.add 1) 1/\
 SameC g y (b4) 1/\
 SameC g y (hZ I 0) 2/\
 box y #[hY b3,hY b7,.int .i32 a7,hY b5,hV a6,hT U O V] uT λb8 b9=>
 R (hQ (.iface dn (kT (kE b8)))) b9) g
def bl4 (R:EP)(Xa:OA->Value->Nat->OA->Nat->Nat->Int->Int->WP)(c8:OA->Value->Nat->OA->OA->Nat->Nat->Int->Int->OA->Nat->Nat->Int->Int->WP)(b7:OA)(b5:Value)(b6:Nat)(b4 y:OA)(I U:Nat)(W a6:Int)(O:OA)(E b8:Nat)(V g:Int)(w:World):Prop:=
 br (decide (g<V))
 (0<=g/\g<(E:Int)/\
 aA O λe0=>
 ∃(c5:Value),w.cell? (e0.add (Int.toNat g*1))=some c5/\
 ∃b9 c1 b3,(Instr.typeAssert c5 aO bD true).run P w= .ok (.tuple #[kT b9,hV c1]) b3/\
 br c1
 (tk b3 λa7=>
 aA b4 λd2=>
 aA b9 λd1=>
 ∃c2 c3 c9,a7.cell? (d2.add 2)=some (hT c2 c3 c9)/\
 ∃c4,a7.cell? (d1.add 2)=some (kT c4)/\
 0<=g/\g<(c3:Int)/\
 aA c2 λd0=>
 stV a7 ((d0.add (Int.toNat g*1)).add 0) (.iface dW (kT c4)) λd3=>
 c8 b7 b5 b6 b4 y I U W a6 O E b8 V (i64.wrap (g+1)) d3)
 (c8 b7 b5 b6 b4 y I U W a6 O E b8 V (i64.wrap (g+1)) b3))
 (Xa b7 b5 b6 y I U W (i64.wrap (a6+1)) w)
def l4 (R:EP)(Xa:OA->Value->Nat->OA->Nat->Nat->Int->Int->WP)(b4:OA)(b5:Value)(b6:Nat)(b3 U:OA)(O E:Nat)(V W:Int)(g:OA)(I y:Nat)(a6 a7:Int)(w:World):Prop:=
 ∀X:OA->Value->Nat->OA->OA->Nat->Nat->Int->Int->OA->Nat->Nat->Int->Int->WP,(∀b4 b5 b6 b3 U O E V W g I y a6 a7 w,bl4 R Xa X b4 b5 b6 b3 U O E V W g I y a6 a7 w->X b4 b5 b6 b3 U O E V W g I y a6 a7 w)->X b4 b5 b6 b3 U O E V W g I y a6 a7 w
def bl2 (R:EP)(Xa:OA->Value->Nat->OA->Nat->Nat->Int->Int->WP)(b3:OA)(b4:Value)(b5:Nat)(U:OA)(O b6:Nat)(W g:Int)(w:World):Prop:=
 br (decide (g<W))
 (0<=g/\g<(O:Int)/\
 aA U λb8=>
 ∃(a7:Value),w.cell? (b8.add (Int.toNat g*1))=some a7/\
 ∃I E,(Instr.typeAssert a7 aO fU false).run P w= .ok (kT I) E/\
 aA I λb7=>
 ∃a6 y V,E.cell? (b7.add 2)=some (hT a6 y V)/\
 l4 R Xa b3 b4 b5 I U O b6 W g a6 y V (y:Int) 0 E)
 (k3 R b3 b4 b5 w)
def l2 (R:EP)(U:OA)(V:Value)(W:Nat)(y:OA)(g E:Nat)(I O:Int)(w:World):Prop:=
 ∀X:OA->Value->Nat->OA->Nat->Nat->Int->Int->WP,(∀U V W y g E I O w,bl2 R X U V W y g E I O w->X U V W y g E I O w)->X U V W y g E I O w
def k1 (R:EP)(g:OA)(I:Value)(V:OA)(y U O:Nat)(w:World):Prop:=
 aA g λW=>
 ∃E,w.cell? (W.add 2)=some (hV E)/\
 br (!E)
 (l2 R g I O V y U (y:Int) 0 w)
 (k3 R g I O w)
def bl3 (R:EP)(f0:OA->Value->OA->Nat->Nat->Nat->OA->Nat->Nat->Int->Int->WP)(d2:OA->Value->OA->Nat->Nat->Nat->OA->OA->Nat->Nat->Int->Int->OA->Nat->Nat->Int->Int->WP)(E:OA)(V:Value)(I:OA)(U O a6:Nat)(W a7:OA)(b4 b6:Nat)(b8 b7:Int)(b3:OA)(b5 c8:Nat)(b9 g:Int)(w:World):Prop:=
 br (decide (g<b9))
 (0<=g/\g<(b5:Int)/\
 aA b3 λe5=>
 ∃(c9:Value),w.cell? (e5.add (Int.toNat g*1))=some c9/\
 de P (callMethod c9 "Pos" #[]) (λe y=> ∃e0 c2,e= hQ (.agg #[hY e0,hY c2])/\
 aA W λe9=>
 ∃e2 c4 e3,y.cell? (e9.add 2)=some (hT e2 c4 e3)/\
 br (decide ((i64.wrap (g+1))<(c4:Int)))
 (aA W λe8=>
 ∃c5 c3 e1,y.cell? (e8.add 2)=some (hT c5 c3 e1)/\
 0<=(i64.wrap (g+1))/\(i64.wrap (g+1))<(c3:Int)/\
 aA c5 λe7=>
 ∃(d0:Value),y.cell? (e7.add (Int.toNat (i64.wrap (g+1))*1))=some d0/\
 de P (callMethod d0 "Pos" #[]) (λe d1=> ∃c1 d3,e= hQ (.agg #[hY c1,hY d3])/\
 br (decide ((i64.wrap (c1 - c2))>1))
 (aA E λe4=>
 stV d1 ((e4.add 2).add 0) (hV true) λe6=>
 k1 R E V I U O a6 e6)
 (d2 E V I U O a6 W a7 b4 b6 b8 b7 b3 b5 c8 b9 (i64.wrap (g+1)) d1)) y)
 (d2 E V I U O a6 W a7 b4 b6 b8 b7 b3 b5 c8 b9 (i64.wrap (g+1)) y)) w)
 (f0 E V I U O a6 a7 b4 b6 b8 (i64.wrap (b7+1)) w)
def l3 (R:EP)(c1:OA->Value->OA->Nat->Nat->Nat->OA->Nat->Nat->Int->Int->WP)(b6:OA)(b7:Value)(b3:OA)(a7 V b8:Nat)(b9 y:OA)(U O:Nat)(W b5:Int)(g:OA)(I E:Nat)(b4 a6:Int)(w:World):Prop:=
 ∀X:OA->Value->OA->Nat->Nat->Nat->OA->OA->Nat->Nat->Int->Int->OA->Nat->Nat->Int->Int->WP,(∀b6 b7 b3 a7 V b8 b9 y U O W b5 g I E b4 a6 w,bl3 R c1 X b6 b7 b3 a7 V b8 b9 y U O W b5 g I E b4 a6 w->X b6 b7 b3 a7 V b8 b9 y U O W b5 g I E b4 a6 w)->X b6 b7 b3 a7 V b8 b9 y U O W b5 g I E b4 a6 w
def k2 (R:EP)(b7:OA->Value->OA->Nat->Nat->Nat->OA->Nat->Nat->Int->Int->WP)(b6:OA)(b8:Value)(b3:OA)(a7 W b9:Nat)(I O:OA)(V U:Nat)(a6 b4:Int)(w:World):Prop:=
 aA I λb5=>
 ∃E g y,w.cell? (b5.add 2)=some (hT E g y)/\
 l3 R b7 b6 b8 b3 a7 W b9 I O V U a6 b4 E g y (g:Int) 0 w
def bl1 (R:EP)(c4:OA->Value->OA->Nat->Nat->Nat->OA->Nat->Nat->Int->Int->WP)(I:OA)(W:Value)(E:OA)(y V a6:Nat)(a7:OA)(b3 b8:Nat)(b6 g:Int)(w:World):Prop:=
 br (decide (g<b6))
 (0<=g/\g<(b3:Int)/\
 aA a7 λa14=>
 ∃(c2:Value),w.cell? (a14.add (Int.toNat g*1))=some c2/\
 ∃U b4,(Instr.typeAssert c2 aO fU false).run P w= .ok (kT U) b4/\
 br (decide ((i64.wrap (g+1))<(y:Int)))
 (tk b4 λO=>
 0<=(i64.wrap (g+1))/\(i64.wrap (g+1))<(y:Int)/\
 aA E λc9=>
 aA U λb9=>
 ∃(c1:Value),O.cell? (c9.add (Int.toNat (i64.wrap (g+1))*1))=some c1/\
 ∃c3,O.cell? (b9.add 1)=some (hY c3)/\
 de P (callMethod c1 "Pos" #[]) (λe b5=> ∃b7 c5,e= hQ (.agg #[hY b7,hY c5])/\
 SameC O b5 (b9.add 1) 1/\
 br (decide ((i64.wrap (b7 - c3))>1))
 (aA I λd0=>
 stV b5 ((d0.add 2).add 0) (hV true) λc8=>
 k1 R I W E y V a6 c8)
 (k2 R c4 I W E y V a6 U a7 b3 b8 b6 g b5)) O)
 (k2 R c4 I W E y V a6 U a7 b3 b8 b6 g b4))
 (k1 R I W E y V a6 w)
def l1 (R:EP)(a6:OA)(a7:Value)(V:OA)(U I b3:Nat)(g:OA)(E y:Nat)(O W:Int)(w:World):Prop:=
 ∀X:OA->Value->OA->Nat->Nat->Nat->OA->Nat->Nat->Int->Int->WP,(∀a6 a7 V U I b3 g E y O W w,bl1 R X a6 a7 V U I b3 g E y O W w->X a6 a7 V U I b3 g E y O W w)->X a6 a7 V U I b3 g E y O W w
end aV
def aV (R:EP)(c1:OA)(O:Value)(w:World):Prop:=
 de P (callMethod O "pub-paratext/pub/rscmarkdown.blocks" #[]) (λe b9=> ∃y g I,e= hQ (hT y g I)/\
 de P (callMethod O "pub-paratext/pub/rscmarkdown.pos" #[]) (λe c2=> ∃W V,e= hQ (.agg #[hY W,hY V])/\
 box c2 #[hY 0,hY 0] aF λE b7=>
 stV b7 (hZ E 0) (hY W) λb8=>
 stV b8 (hZ E 1) (hY V) λa7=>
 0<=(i64.wrap ((g:Int) - 1))/\(i64.wrap ((g:Int) - 1))<(g:Int)/\
 aA y λa9=>
 ∃(a6:Value),a7.cell? (a9.add (Int.toNat (i64.wrap ((g:Int) - 1))*1))=some a6/\
 de P (callMethod a6 "Pos" #[]) (λe b4=> ∃b3 U,e= hQ (.agg #[hY b3,hY U])/\
 stV b4 (hZ E 1) (hY U) λb6=>
 aV.l1 R c1 O y g I E y g I (g:Int) 0 b6) a7) b9) w
theorem aV.sound {R x0 x1 w}(h:aV R x0 x1 w):callE P iO #[kT x0,x1] R w:=
 aG [(701,.lp [2,25,103,126,663,687,707] (aV.bl1 R) λg=> [(1203,.dr (rpN [0,3,6,9,21,24,27,30,13,34,17,18,36,39])),(243,.mk [2,25,103,126,182,663,687,707] (aV.k2 R g)),(755,.lp [2,25,103,126,182,663,687,707,1343,1367,1387] (aV.bl3 R g) λE=> [])]),(253,.mk [2,25,103,126] (aV.k1 R)),(5501,.lp [2,25,126,2163,2187,2207] (aV.bl2 R) λXa=> [(371,.lp [2,25,126,302,2163,2187,2207,2383,2407,2427] (aV.bl4 R Xa) λy=> [(371,.dr (rpN [0,3,6,12,15,18,21,10,25,27,30,35]))])]),(509,.mk [2,25,126] (aV.k3 R)),(765,.dr (rpN [3,6,9,15,18,21,27,30,33,39,1,13,25,37,44,45,50,51,54]))] Tryz.func436 Tryz.call436 h
namespace gH
def bl1 (R:EP)(Xa:OA->Nat->Nat->Int->Int->WP)(b5:OA)(b6 d0:Nat)(b8 y:Int)(w:World):Prop:=
 br (decide (y<b8))
 (0<=y/\y<(b6:Int)/\
 aA b5 λa3=>
 ∃(c1:Value),w.cell? (a3.add (Int.toNat y*1))=some c1/\
 ∃O g,(Instr.typeAssert c1 aO fU false).run P w= .ok (kT O) g/\
 aA O λd1=>
 ∃c8 b7 c9,g.cell? (d1.add 2)=some (hT c8 b7 c9)/\
 br ((b7:Int)==0)
 (R (hQ (hV true)) g)
 (aA O λa9=>
 ∃b3 a6 c5,g.cell? (a9.add 2)=some (hT b3 a6 c5)/\
 0<=(0:Int)/\0<(a6:Int)/\
 aA b3 λa11=>
 ∃(E:Value),g.cell? (a11.add (Int.toNat 0*1))=some E/\
 ∃c3 V b4,(Instr.typeAssert E aO dn true).run P g= .ok (.tuple #[kT c3,hV V]) b4/\
 ∃c2 W b9,(Instr.typeAssert E aO cW true).run P b4= .ok (.tuple #[kT c2,hV W]) b9/\
 ∃c4 U I,(Instr.typeAssert E aO cL true).run P b9= .ok (.tuple #[kT c4,hV U]) I/\
 br (V||(W||U))
 (R (hQ (hV true)) I)
 (Xa b5 b6 d0 b8 (i64.wrap (y+1)) I)))
 (R (hQ (hV false)) w)
def l1 (R:EP)(I:OA)(O g:Nat)(y E:Int)(w:World):Prop:=
 ∀X:OA->Nat->Nat->Int->Int->WP,(∀I O g y E w,bl1 R X I O g y E w->X I O g y E w)->X I O g y E w
end gH
def gH (R:EP)(I:OA)(w:World):Prop:=
 aA I λa1=>
 ∃y g E,w.cell? (a1.add 5)=some (hT y g E)/\
 gH.l1 R y g E (g:Int) 0 w
theorem gH.sound {R x0 w}(h:gH R x0 w):callE P lr #[kT x0] R w:=
 aG [(21,.lp [183,207,227] (gH.bl1 R) λXa=> [])] Tryz.func154 Tryz.call154 h
def lK (R:EP)(a6 W:Int)(w:World):Prop:=
 box w #[hY a6,hY W] aF λb1 b4=>
 box b4 #[hY 0,hY 0] aF λg E=>
 ∃U,E.cell? (hZ b1 0)=some (hY U)/\
 ∃O,E.cell? (hZ b1 1)=some (hY O)/\
 stV E (hZ g 0) (hY U) λa7=>
 stV a7 (hZ g 1) (hY O) λy=>
 ∃V,y.cell? (hZ g 0)=some (hY V)/\
 ∃I,y.cell? (hZ g 1)=some (hY I)/\
 R (hQ (.agg #[hY V,hY I])) y
theorem lK.sound {R x0_0 x0_1 w}(h:lK R x0_0 x0_1 w):callE P cA #[.agg #[hY x0_0,hY x0_1]] R w:=
 cE Tryz.func305 Tryz.call305 h

def lg (P:Program)(t:TypeId)(I:String)(f:FuncId):Bool:=
 match P.info? t with
 |some i=>match i.methods.find? (·.name==I) with
  |some m=>match m.path.toList with
   | [s]=>s.deref && (match P.underlying s.struct with
    |some (.struct E)=>match E[s.index]? with
     |some y=>Nat.beq y.offset 0 && (match P.info? y.type with
      |some O=>Nat.beq O.size 2 && (match P.underlying y.type with
       |some (.struct _)=>(match m.func with|some (g,false)=>Nat.beq g f|_=>false)
       |_=>false)
      |none=>false)
     |none=>false
    |_=>false)
   |_=>false
  |none=>false
 |none=>false
theorem AE {P:Program}{t:TypeId}{U:String}{f:FuncId}(h:lg P t U f=true)(b:Nat)(V:Nat)(w:World){x I:Value}(b6:w.cell? (hZ b 0)=some x)(b4:w.cell? (hZ b 1)=some I):
 (Go.method (V+1) t (kT (kE b)) U).run P w= .ok (f,.agg #[x,I]) w:=by
 have W:(loadCells (hZ b 0) 2).run P w= .ok #[x,I] w:=by
  refine run_loadCells_list (P:=P) (w:=w) (hZ b 0) [x,I] ?_
  intro j v E
  match j,E with
  |0,E=>cases E;simpa[Addr.add] using b6
  |1,E=>cases E;simpa[Addr.add] using b4
 unfold lg at h
 split at h
 ·rename_i i hi
  split at h
  ·rename_i m b8
   split at h
   ·rename_i s c1
    simp only[lL1] at h
    obtain⟨hd,h⟩:=h
    split at h
    ·rename_i c2 b7
     split at h
     ·rename_i c3 b9
      simp only[lL1] at h
      obtain⟨h0,h⟩:=h
      have h0:=lJ1 h0
      split at h
      ·rename_i c4 b3
       simp only[lL1] at h
       obtain⟨O,h⟩:=h
       have O:=lJ1 O
       split at h
       ·rename_i fs a6
        split at h
        ·rename_i g b5
         have a7:=lJ1 h
         subst a7
         simp[Go.method,typeInfo,hi,b8,c1,Go.follow,run_underlying b7,b9,hd,Go.Place.get,asAddr,Go.fieldPlace,sizeOf,b3,O,h0,b5,Go.receiverAt,run_underlying a6,lK0,loadVar,isAgg,W]
        ·cases h
       ·cases h
      ·cases h
     ·cases h
    ·cases h
   ·cases h
  ·cases h
 ·cases h
theorem zc {t:TypeId}{E:String}{f:FuncId}{b:Nat}{g:Array Value}{x I:Value}(U:lg P t E f=true)(V:w.cell? (hZ b 0)=some x)(O:w.cell? (hZ b 1)=some I)(h:callE P f (#[.agg #[x,I]]++g) R w):
 de P (callMethod (.iface t (kT (kE b))) E g) R w:=by
 obtain⟨n,W⟩:=uF P
 have hr:=AE U b n w V O
 have e:(callMethod (.iface t (kT (kE b))) E g).run P w=(callFunc f (#[.agg #[x,I]]++g)).run P w:=by
  simp only[callMethod,lX0,run_program,lJ0,W,hr]
 unfold de
 rw[e]
 exact h.imp (λh=>⟨f,_,w,h.1 _ _,h.2⟩) id
theorem yC {s e:Int}(h:Sat σ w L)(g: ∀w,Sat σ w L->R (hQ (.agg #[hY s,hY e])) w):callE P cA #[.agg #[hY s,hY e]] R w:=by
 refine lK.sound ?_
 refine Sat.bx h λb1 w h=>?_
 refine Sat.bx h λy w h=>?_
 repeat (first|refine aa ?_|refine h.tk λw h=>?_|refine⟨_,h.ldA,?_⟩|refine⟨_,_,_,h.ldA,?_⟩|refine h.stA 0 λw h=>?_|refine h.stA 1 λw h=>?_|refine h.stA 2 λw h=>?_|refine h.stA 3 λw h=>?_|refine h.stA 4 λw h=>?_|refine h.stA 5 λw h=>?_|refine h.stA 6 λw h=>?_|refine h.bx λb0 w h=>?_)
 exact g _ h.tail.tail
theorem pC:lg P bD "Pos" cA=true:=by kernel_rfl
theorem zH:lg P fU "Pos" cA=true:=by kernel_rfl
theorem zG:lg P dn "Pos" cA=true:=by kernel_rfl
theorem wF:lg P ki "Pos" cA=true:=by kernel_rfl
theorem pD:lg P cL "Pos" cA=true:=by kernel_rfl
def DB.posIs (d:DB)(s e:Nat):Prop:=
 ∀(σ:Out) (R:Ending->World->Prop) (L:List ai) (w:World),(∀c∈d.own,c∈L)->Sat σ w L->(∀w,Sat σ w L->R (hQ (.agg #[hY s,hY e])) w)->de P (callMethod d.v "Pos" #[]) R w
theorem j9 {t:TypeId}{b s e:Nat}{cs:List Value}{ty:TypeId}{d:DB}(O:lg P t "Pos" cA=true) (hv:d.v= .iface t (kT (kE b))) (E:(b,cel (hY s:: hY e::cs) ty)∈d.own):d.posIs s e:=by
 intro σ R L w y h I
 rw[hv]
 have g:=y _ E
 exact zc O (Sat.ld h g (i:=0) rfl) (Sat.ld h g (i:=1) rfl) (yC h I)
def dv (R:EP)(d1 b8:Nat)(d0 E:Nat)(w:World):Prop:=
 box w #[hY 0,hY 0,hY 0,hX (hP #[]),.int .u8 0] aW λb1 O=>
 ∃b9,O.cell? (hZ d1 0)=some (kT b9)/\
 ∃c2,O.cell? (hZ b8 0)=some (kT c2)/\
 callE P bQ #[kT b9,.iface bv (kT c2)] (λe I=>e= hQ (.tuple #[])/\
 ∃c1,I.cell? (hZ d0 0)=some (kT c1)/\
 ∃c3,I.cell? (hZ b8 0)=some (kT c3)/\
 aA c1 λa9=>
 stV I ((a9.add 3).add 0) (kT c3) λg=>
 ∃W,g.cell? (hZ E 0)=some (hY W)/\
 ∃V,g.cell? (hZ E 1)=some (hY V)/\
 ∃U,g.cell? (hZ E 2)=some (hY U)/\
 ∃b7,g.cell? (hZ E 3)=some (hX b7)/\
 ∃b5,g.cell? (hZ E 4)=some (.int .u8 b5)/\
 stV g (hZ b1 0) (hY W) λc9=>
 stV c9 (hZ b1 1) (hY V) λc4=>
 stV c4 (hZ b1 2) (hY U) λc5=>
 stV c5 (hZ b1 3) (hX b7) λc8=>
 stV c8 (hZ b1 4) (.int .u8 b5) λy=>
 ∃b3,y.cell? (hZ b1 0)=some (hY b3)/\
 ∃b6,y.cell? (hZ b1 1)=some (hY b6)/\
 ∃a7,y.cell? (hZ b1 2)=some (hY a7)/\
 ∃b4,y.cell? (hZ b1 3)=some (hX b4)/\
 ∃a6,y.cell? (hZ b1 4)=some (.int .u8 a6)/\
 R (hQ (.agg #[hY b3,hY b6,hY a7,hX b4,.int .u8 a6])) y) O
theorem dv.sound {R x0 x1 x2 x3 w}(h:dv R x0 x1 x2 x3 w):callE P eu #[kT (kE x0),kT (kE x1),kT (kE x2),kT (kE x3)] R w:=
 cE Tryz.func244 Tryz.call244 h

theorem jK {E:OA->Nat->WP}{b b1:Nat}{p:PS}{M:List ai}{l l2:Ln}(i:Nat)(hi:i<newsF.length)(h:Sat σ w (p.at b::M++(l.at b1::L)))(hd: ∀j (U:j<newsF.length),j<i->Bt b p M l newsF[j])(V:l2.ok)(W:l2.blank=false)(b3: ∀w nb e (O:Ending->World->Prop),Sat σ w (p.at b::M++(l.at b1::(nb,cel newsC e)::L))->
  (∀w g (p2:PS),p2.depth<1000000/\0<=p2.depth->Sat σ w (l.at b1::p2.at b::g)->(∀w,Sat σ w (l2.at b1::({p2 with depth:=p2.depth+1}:PS).at b::g)->E (kE b) b1 w)->O (hQ (.tuple #[l2.val,hV true])) w)->callE P newsF[i] #[kT (kE b),l.val] O w):
 ak.bl102 R E (kE b) b1 w:=by
 have b6:i<8:=hi
 refine yL h λw nb e h=>⟨_,_,_,rfl,?_⟩
 intro Y I
 have h:Sat σ w (p.at b::M++(l.at b1::(nb,cel newsC e)::L)):=h.re
 refine o5 I i 0 w (by omega) (by omega) (λj U _ a6=>hd j U a6) h λw h=>?_
 refine I _ _ _ _ _ _ _ _ (ag (by simp;omega) ⟨by omega,by omega,?_⟩)
 have b4:=lI0 hi
 refine aa ?_
 simp only[lK0,lO0,lC0,lC1]
 have h:Sat σ w (l.at b1::(nb,cel newsC e)::(p.at b::(M++L))):=h.re
 refine⟨_,Sat.ld h (.tail _ (.head _)) (sL b4),?_⟩
 refine⟨_,Sat.ld h (.head _) rfl,_,Sat.ld h (.head _) rfl,_,Sat.ld h (.head _) rfl,_,Sat.ld h (.head _) rfl,_,Sat.ld h (.head _) rfl,?_⟩
 have h:Sat σ w (p.at b::M++(l.at b1::(nb,cel newsC e)::L)):=h.re
 refine gY ?_
 refine b3 w nb e _ h λw g p2 b5 h a7=>⟨_,_,_,_,_,_,rfl,?_⟩
 refine Sat.bx h λy w h=>?_
 refine h.stA 0 λw h=>?_
 refine h.stA 0 λw h=>?_
 refine h.stA 0 λw h=>?_
 refine h.stA 0 λw h=>?_
 refine h.stA 0 λw h=>?_
 have h:Sat σ w (l2.at y::l.at b1::p2.at b::g):=h
 refine ag rfl ?_
 refine⟨_,h.ldA,?_⟩
 refine⟨_,h.ldA,?_⟩
 refine⟨_,h.ldA,?_⟩
 refine⟨_,h.ldA,?_⟩
 refine⟨_,h.ldA,?_⟩
 refine h.stA 1 λw h=>?_
 refine h.stA 1 λw h=>?_
 refine h.stA 1 λw h=>?_
 refine h.stA 1 λw h=>?_
 refine h.stA 1 λw h=>?_
 have h:Sat σ w (l2.at y::l2.at b1::p2.at b::g):=h
 refine dF h (.tail _ (.head _)) V λw h=>⟨_,rfl,?_⟩
 rw[W]
 refine af rfl (aa ?_)
 refine⟨_,h.ldA,?_⟩
 refine aa ?_
 rw[i64_in _ (by omega)]
 refine Sat.st h (k:=2) rfl (by simp[PS.cells]) trivial rfl λw h=>?_
 have h:Sat σ w (l2.at y::l2.at b1::({p2 with depth:=p2.depth+1}:PS).at b::g):=h
 exact a7 w h.tail
def F6 (g:Nat):ai:=(g,cel [] mX)
def quoV (g:Nat):Value:= .iface gP (kT (kE g))

def Ln.bullet (l:Ln):Option (UInt8 × Nat × Ln):=
 if (l.strip 3 0).2.peek=45\/(l.strip 3 0).2.peek=42\/(l.strip 3 0).2.peek=43 then
  match ((l.strip 3 0).2.trimC (l.strip 3 0).2.peek).bind (·.trimSp 1 1 true) with
  |none=>none
  |some g=>match (g.strip 3 0).2.trimSp 1 1 true with
   |none=>some ((l.strip 3 0).2.peek,(l.strip 3 0).1+2+(g.strip 3 0).1,(g.strip 3 0).2)
   |some _=>some ((l.strip 3 0).2.peek,(l.strip 3 0).1+2,g)
 else none
theorem Ln.bullet_ok {l t:Ln}{c:UInt8}{n:Nat}(I:l.ok)(h:l.bullet=some (c,n,t)):t.ok/\n<=8/\(c=45\/c=42\/c=43):=by
 unfold Ln.bullet at h
 have h0:=Ln.strip_ok 3 0 I
 split at h
 ·rename_i hc
  split at h
  ·cases h
  ·rename_i V E
   obtain⟨t1,O,U⟩:=lX5.1 E
   have g:=Ln.trimSp_ok (Ln.trimC_ok h0.1 O) U
   have y:=Ln.strip_ok 3 0 g
   split at h
   ·simp only[lG1,Prod.mk.injEq] at h
    obtain⟨rfl,rfl,rfl⟩:=h
    exact⟨y.1,by omega,hc⟩
   ·simp only[lG1,Prod.mk.injEq] at h
    obtain⟨rfl,rfl,rfl⟩:=h
    exact⟨g,by omega,hc⟩
 ·cases h
theorem B3 {b:Nat}{q:Option Addr}{l t:Ln}{c:UInt8}{n:Nat}(h:Sat σ w (l.at b::L))(c5:l.ok)(hb:l.bullet=some (c,n,t))(b9: ∀w b0 b1 b2 (t':Ln),Sat σ w (t.at b0::(b1,cel [kT q] ah)::t'.at b2::l.at b::L)->am.k8 R b1 b0 (n:Nat) (c.toNat:Int) 0 w):
 callE P bN #[kT q,kT (kE b)] R w:=by
 refine am.sound ?_
 refine Sat.bx h λb1 w h=>?_
 repeat (first|refine aa ?_|refine h.tk λw h=>?_|refine⟨_,h.ldA,?_⟩|refine⟨_,_,_,h.ldA,?_⟩|refine h.stA 0 λw h=>?_|refine h.stA 1 λw h=>?_|refine h.stA 2 λw h=>?_|refine h.stA 3 λw h=>?_|refine h.stA 4 λw h=>?_|refine h.stA 5 λw h=>?_|refine h.stA 6 λw h=>?_|refine h.bx λb0 w h=>?_)
 have h:Sat σ _ (l.at b0::(b1,cel [kT q] ah)::l.at b::L):=h
 have k6: ∀(E g:Ln) (y m:Nat) b2 w,y<=100->m<=100->E.ok->g.ok->(match g.trimSp 1 1 true with|none=>some (c,y+m,g)|some _=>some (c,y,E))=some (c,n,t)->
  Sat σ w (E.at b0::(b1,cel [kT q] ah)::g.at b2::l.at b::L)->am.k6 R b1 b0 (y:Nat) (c.toNat:Int) 0 b2 (m:Nat) w:=by
  intro E g y m b2 w c3 d1 a7 U O h
  have h:Sat σ w (g.at b2::E.at b0::(b1,cel [kT q] ah)::l.at b::L):=h.re
  refine YtendaipfdnhnaaaGreatDoor.trimSp_ok (min:=1) (max:=1) h U (by decide) (by decide) ?_
  cases hs:g.trimSp 1 1 true with
  |none=>
   rw[hs] at O
   simp only[lG1,Prod.mk.injEq,true_and] at O
   obtain⟨rfl,rfl⟩:=O
   intro w h
   refine⟨_,rfl,ag rfl ?_⟩
   refine⟨_,h.ldA,?_⟩
   refine⟨_,h.ldA,?_⟩
   refine⟨_,h.ldA,?_⟩
   refine⟨_,h.ldA,?_⟩
   refine⟨_,h.ldA,?_⟩
   refine h.stA 1 λw h=>?_
   refine h.stA 1 λw h=>?_
   refine h.stA 1 λw h=>?_
   refine h.stA 1 λw h=>?_
   refine h.stA 1 λw h=>?_
   rw[show ((y:Nat):Int)+((m:Nat):Int)=((y+m:Nat):Int) by omega,i64_in _ (by omega)]
   have h:Sat σ w (g.at b2::g.at b0::(b1,cel [kT q] ah)::l.at b::L):=h
   exact b9 w b0 b1 b2 g (h.re)
  |some c8=>
   rw[hs] at O
   simp only[lG1,Prod.mk.injEq,true_and] at O
   obtain⟨rfl,rfl⟩:=O
   intro w h
   refine⟨_,rfl,af rfl ?_⟩
   exact b9 w b0 b1 b2 c8 (h.re)
 have fin: ∀(y:Nat) (W:Ln) w,W.ok->y<=3->l.strip 3 0=(y,W)->Sat σ w (W.at b0::(b1,cel [kT q] ah)::l.at b::L)->am.k1 R b1 b0 (y:Nat) w:=by
  intro y W w b8 c3 c2 h
  unfold Ln.bullet at hb
  rw[c2] at hb
  simp only at hb
  split at hb
  case isFalse=>cases hb
  rename_i hc
  refine mi h (by first|assumption|(repeat (first|exact .head _|apply List.Mem.tail))) b8 λw h=>⟨_,rfl,?_⟩
  split at hb
  case h_1=>cases hb
  rename_i E c9
  obtain⟨t1,b6,c1⟩:=lX5.1 c9
  have ec:W.peek=c:=by
   split at hb<;>simp only[lG1,Prod.mk.injEq] at hb<;>exact hb.1
  rw[ec] at hc b6 hb⊢
  have o1:=Ln.trimC_ok b8 b6
  have a7:=Ln.trimSp_ok o1 c1
  have k2:am.k2 R b1 b0 (y:Nat) (c.toNat:Int) 0 (c.toNat:Int) true w:=by
   refine ag rfl ?_
   refine trimC_ok (c:=c) rfl h b8 ?_
   rw[b6]
   intro w h
   refine⟨_,rfl,?_⟩
   unfold am.k3
   refine YtendaipfdnhnaaaGreatDoor.trimSp_ok (min:=1) (max:=1) h o1 (by decide) (by decide) ?_
   rw[c1]
   intro w h
   refine⟨_,rfl,af rfl ?_⟩
   refine⟨_,h.ldA,?_⟩
   refine⟨_,h.ldA,?_⟩
   refine⟨_,h.ldA,?_⟩
   refine⟨_,h.ldA,?_⟩
   refine⟨_,h.ldA,?_⟩
   refine Sat.bx h λb2 w h=>?_
   refine h.stA 0 λw h=>?_
   refine h.stA 0 λw h=>?_
   refine h.stA 0 λw h=>?_
   refine h.stA 0 λw h=>?_
   refine h.stA 0 λw h=>?_
   have h:Sat σ w (E.at b2::E.at b0::(b1,cel [kT q] ah)::l.at b::L):=h
   rw[aN (by omega),aN (by omega)]
   intro X a6
   have b3: ∀k m (g:Ln) w,g.ok->k+m=3->g.strip k m=E.strip 3 0->Sat σ w (g.at b2::E.at b0::(b1,cel [kT q] ah)::l.at b::L)->X b1 b0 ((y+1+1:Nat):Int) (c.toNat:Int) 0 b2 (m:Nat) (m:Nat) w:=by
    intro k m g w U d0 I h
    induction k generalizing m g w with
    |zero=>
     have I:(m,g)=E.strip 3 0:=I
     refine a6 _ _ _ _ _ _ _ _ _ (af (by simp;omega) ?_)
     rw[<-I] at hb
     exact k6 E g (y+1+1) m b2 w (by omega) (by omega) a7 U hb (h.re)
    |succ k b7=>
     refine a6 _ _ _ _ _ _ _ _ _ (ag (by simp;omega) ?_)
     refine YtendaipfdnhnaaaGreatDoor.trimSp_ok (min:=1) (max:=1) h U (by decide) (by decide) ?_
     simp only[Ln.strip] at I
     cases hs:g.trimSp 1 1 false with
     |none=>
      rw[hs] at I
      have I:(m,g)=E.strip 3 0:=I
      rw[<-I] at hb
      exact λw h=>⟨_,rfl,af rfl (k6 E g (y+1+1) m b2 w (by omega) (by omega) a7 U hb (h.re))⟩
     |some t'=>
      rw[hs] at I
      intro w h
      refine⟨_,rfl,ag rfl ?_⟩
      unfold am.k5
      rw[aN (by omega)]
      exact b7 (m+1) t' w (Ln.trimSp_ok U hs) (by omega) I h
   exact b3 3 0 E w a7 rfl rfl h
  by_cases b4:c=45
  ·subst b4;exact ag rfl k2
  refine af (uL (d:=45) rfl b4) ?_
  by_cases b5:c=42
  ·subst b5;exact ag rfl k2
  refine af (uL (d:=42) rfl b5) ?_
  have c4:c=43:=by
   rcases hc with h|h|h
   ·exact absurd h b4
   ·exact absurd h b5
   ·exact h
  rw[show (((c.toNat:Nat):Int)==43)=true by rw[c4];rfl]
  exact k2
 intro X a6
 have b3: ∀k n (t:Ln) w,t.ok->k+n=3->t.strip k n=l.strip 3 0->Sat σ w (t.at b0::(b1,cel [kT q] ah)::l.at b::L)->X b1 b0 n n w:=by
  intro k n t w ht d0 V h
  induction k generalizing n t w with
  |zero=>exact a6 _ _ _ _ _ (af (by simp;omega) (fin n t w ht (by omega) V.symm h))
  |succ k b7=>
   refine a6 _ _ _ _ _ (ag (by simp;omega) ?_)
   refine YtendaipfdnhnaaaGreatDoor.trimSp_ok (min:=1) (max:=1) h ht (by decide) (by decide) ?_
   simp only[Ln.strip] at V
   cases hs:t.trimSp 1 1 false with
   |none=>
    rw[hs] at V
    exact λw h=>⟨_,rfl,ag rfl (fin n t w ht (by omega) V.symm h)⟩
   |some t'=>
    rw[hs] at V
    intro w h
    refine⟨_,rfl,af rfl ?_⟩
    rw[aN (by omega)]
    exact b7 (n+1) t' w (Ln.trimSp_ok ht hs) (by omega) V h
 exact b3 3 0 l _ c5 rfl rfl h
structure qh (l:Ln) (c:UInt8) (num n:Nat) (t:Ln):Prop where
 ok:t.ok
 wd:n<=100
 run: ∀ {σ:Out} {w:World} {L:List ai} {R:Ending->World->Prop} {b:Nat} {q:Option Addr},Sat σ w (l.at b::L)->
  (∀w b0 b1 b2 (t':Ln),Sat σ w (t.at b0::(b1,cel [kT q] ah)::t'.at b2::l.at b::L)->am.k8 R b1 b0 (n:Nat) (c.toNat:Int) (num:Nat) w)->
  callE P bN #[kT q,kT (kE b)] R w
theorem Ln.marks {l t:Ln}{c:UInt8}{n:Nat}(g:l.ok)(hb:l.bullet=some (c,n,t)):qh l c 0 n t:=by
 obtain⟨ht,E,_⟩:=Ln.bullet_ok g hb
 exact⟨ht,by omega,λh y=>B3 h g hb y⟩
def xS (x:UInt8):Prop:=cO x=false/\x≠62/\x≠35
theorem zW (c:UInt8):IntKind.i32.wrap ((c.toNat:Nat):Int)=((c.toNat:Nat):Int):=by
 have:=lD2.1 (show (List.range 256).all (λn=>IntKind.i32.wrap (n:Int)==(n:Int))=true by kernel_rfl) c.toNat (lV2.2 c.toNat_lt)
 simpa using this

def cP (lb:Nat)(bul num:Int)(loose:Bool)(item:Option Addr)(g:Value):ai:=(lb,cel [.int .i32 bul,hY num,hV loose,kT item,g] f7)
def Cv (lb:Nat):Value:= .iface az (kT (kE lb))
def gt (ib lb n:Nat)(hv:Bool):ai:=(ib,cel [kT (kE lb),hY n,hV hv] iw)
def DJ (ib:Nat):Value:= .iface bv (kT (kE ib))
def kQ (E y g I:Nat):Value:= .func (.func eu) #[] #[kT (kE E),kT (kE y),kT (kE g),kT (kE I)]
abbrev g8 (x lb:Nat):ai:=(x,cel [kT (kE lb)] az)
abbrev jz (x ib:Nat):ai:=(x,cel [kT (kE ib)] bv)
theorem qu {U E y lb n:Nat}{bul num:Int}{loose:Bool}{item:Option Addr}{td:Value}{t:Ln}(h:Sat σ w (cP lb bul num loose item td::t.at E::g8 y lb::L))(ht:t.ok)(V: ∀w g ib,Sat σ w (cP lb bul num loose item (kQ U g y E)::t.at E::g8 y lb::jz g ib::gt ib lb n (!t.blank)::L)->R (hQ (hV true)) w):
 am.k13 R U E (n:Nat) y w:=by
 have k14: ∀w g ib,Sat σ w (cP lb bul num loose item td::t.at E::g8 y lb::jz g ib::gt ib lb n (!t.blank)::L)->am.k14 R U E y g w:=by
  intro w g ib h
  refine⟨_,Sat.ld h (.tail _ (.tail _ (.head _))) (i:=0) rfl,aa ?_⟩
  refine h.stA 0 λw h=>?_
  exact V w g ib h
 have I:g8 y lb∈(cP lb bul num loose item td::t.at E::g8 y lb::L):= .tail _ (.tail _ (.head _))
 refine Sat.tk h λw h=>⟨kE lb,Sat.ld h I (i:=0) rfl,?_,?_⟩
 ·have h0:=h
  refine dF h (.tail _ (.head _)) ht λw h=>⟨_,rfl,h0.same h I I 1,?_,?_⟩
  ·refine Sat.bx h λib w h=>?_
   have O:=h
   refine Sat.bx h λg w h=>⟨O.same h (.tail _ I) (.tail _ (.tail _ I)) 1,?_⟩
   refine h.stA 0 λw h=>?_
   have h:Sat σ w (jz g ib::gt ib lb n (!t.blank)::(cP lb bul num loose item td::t.at E::g8 y lb::L)):=h
   exact k14 w g ib (h.re)
  ·have O:=h
   refine Sat.bx h λg w h=>⟨O.same h I (.tail _ I) 1,?_⟩
   refine Sat.bx h λib w h=>?_
   have h:Sat σ w ((g,cel [kT none] bv)::gt ib lb n (!t.blank)::(cP lb bul num loose item td::t.at E::g8 y lb::L)):=h.re (by intro _;simp only[gt,lN3,dH,eW,mF]<;>omega)
   refine h.stA 0 λw h=>?_
   have h:Sat σ w (jz g ib::gt ib lb n (!t.blank)::(cP lb bul num loose item td::t.at E::g8 y lb::L)):=h
   exact k14 w g ib (h.re)
 ·have O:=h
  refine Sat.bx h λg w h=>⟨O.same h I (.tail _ I) 1,?_⟩
  have h0:=h
  refine dF h (.tail _ (.tail _ (.head _))) ht λw h=>⟨_,rfl,h0.same h (.tail _ I) (.tail _ I) 1,?_⟩
  refine Sat.bx h λib w h=>?_
  have h:Sat σ w ((g,cel [kT none] bv)::gt ib lb n (!t.blank)::(cP lb bul num loose item td::t.at E::g8 y lb::L)):=h.re (by intro _;simp only[gt,lN3,dH,eW,mF]<;>omega)
  refine h.stA 0 λw h=>?_
  have h:Sat σ w (jz g ib::gt ib lb n (!t.blank)::(cP lb bul num loose item td::t.at E::g8 y lb::L)):=h
  exact k14 w g ib (h.re)
theorem mU:P.underlying az=some (.pointer f7):=by kernel_rfl
theorem FJ:P.underlying ar=some (.pointer aL):=by kernel_rfl
theorem yo (w:World):(Instr.typeAssert .nilIface bO az true).run P w= .ok (.tuple #[kT none,hV false]) w:=by
 have hi:P.info? az=some ((P.info? az).getD default):=by kernel_rfl
 have hz:((P.info? az).getD default).zero=some (kT none):=by kernel_rfl
 generalize (P.info? az).getD default=i at hi hz
 simp[Instr.typeAssert,run_underlying mU,zeroValue,typeInfo,hi,hz]
theorem kX (q:Option Addr)(w:World):(Instr.typeAssert (.iface az (kT q)) bO az true).run P w= .ok (.tuple #[kT q,hV true]) w:=
 oL (by rw[mU];intro g h;cases h) mU w
theorem At {b b1:Nat}{p:PS}{ob:List OB}{o:OB}{M:List ai}{l t:Ln}{c:UInt8}{num n:Nat}{ty:TypeId}{v:Value}(h:Sat σ w (l.at b1::(p.at b::M++L)))(hs:Stk p (ob++ [o]) M)(hd:p.depth=ob.length)(b5:ob.length<1048570)(a7:o.bd= .iface ty v)(V:ty≠ar)(b6:l.ok)(hb:qh l c num n t)(b4: ∀w p' O lb y E g U ib,p'= {p with stq:=p'.stq,stn:=ob.length+2,stc:=p'.stc}->Stk p' (ob++ [o]++ [⟨Cv lb,none,0,0,p.lineno,p.lineno⟩]) O->
  Sat σ w (l.at b1::(p'.at b::O++(cP lb c.toNat (num:Nat) false none (kQ y U g E)::(y,cel [kT (kE b)] ah)::t.at E::g8 g lb::jz U ib::gt ib lb n (!t.blank)::L)))->R (hQ (hV true)) w):
 callE P bN #[kT (kE b),kT (kE b1)] R w:=by
 have ht:=hb.ok
 refine hb.run h λw E y I t' h=>?_
 refine Sat.bx h λg w h=>?_
 refine⟨_,Sat.ld h (.tail _ (.tail _ (.head _))) (i:=0) rfl,?_⟩
 have h:Sat σ w (p.at b::M++((g,cel [kT none] az)::(y,cel [kT (kE b)] ah)::t.at E::t'.at I::l.at b1::L)):=h.re
 refine ml (d:=ob.length) h hs hd (by omega) λw h=>⟨_,rfl,?_⟩
 rw[lT1 (by simp)]
 refine⟨none,false,w,yo w,af rfl ?_⟩
 have h:Sat σ w ((g,cel [kT none] az)::(y,cel [kT (kE b)] ah)::t.at E::(p.at b::M++(t'.at I::l.at b1::L))):=h.re
 refine⟨_,Sat.ld h (.head _) (i:=0) rfl,_,_,kx mU _ w,ag rfl (ag rfl ?_)⟩
 refine⟨_,Sat.ld h (.head _) (i:=0) rfl,_,_,kx mU _ w,ag rfl ?_⟩
 refine⟨_,Sat.ld h (.tail _ (.head _)) (i:=0) rfl,?_⟩
 have h:Sat σ w (p.at b::M++((g,cel [kT none] az)::(y,cel [kT (kE b)] ah)::t.at E::t'.at I::l.at b1::L)):=h.re
 refine q9 h hs a7 (λw h=>?_) (λb3=>absurd b3 V)
 rw[if_neg V]
 refine⟨none,rfl,_,w,dQ FJ none w,af rfl (af rfl ?_)⟩
 refine Sat.bx h λlb w h=>?_
 have h:Sat σ w ((g,cel [kT none] az)::(lb,cel [.int .i32 (IntKind.i32.wrap (c.toNat:Nat)),hY (num:Nat),hV false,kT none,.nilFunc] f7)::(y,cel [kT (kE b)] ah)::t.at E::(p.at b::M++(t'.at I::l.at b1::L))):=h.re
 refine h.stA 0 λw h=>?_
 rw[zW] at h
 have h:Sat σ w (g8 g lb::cP lb c.toNat (num:Nat) false none .nilFunc::(y,cel [kT (kE b)] ah)::t.at E::(p.at b::M++(t'.at I::l.at b1::L))):=h
 refine⟨_,Sat.ld h (.tail _ (.tail _ (.head _))) (i:=0) rfl,_,Sat.ld h (.head _) (i:=0) rfl,?_⟩
 have h:Sat σ w (p.at b::M++(g8 g lb::cP lb c.toNat (num:Nat) false none .nilFunc::(y,cel [kT (kE b)] ah)::t.at E::(t'.at I::l.at b1::L))):=h.re
 refine pm h hs (by simp;omega) (by simp;omega) λw p' O W a6 h=>⟨rfl,?_⟩
 have h:Sat σ w (cP lb c.toNat (num:Nat) false none .nilFunc::t.at E::g8 g lb::(p'.at b::O++((y,cel [kT (kE b)] ah)::(t'.at I::l.at b1::L)))):=h.re
 refine qu h ht λw U ib h=>?_
 refine b4 w p' O lb y E g U ib (by rw[W];simp) a6 ?_
 exact h.less [t'.at I]

theorem vn {b:Nat}{p:PS}{ob:List OB}{o:OB}{M:List ai}{l t:Ln}{c:UInt8}{num n:Nat}{ty:TypeId}{v:Value}(h:Sat σ w (p.at b::M++L))(hs:Stk p (ob++ [o]) M)(hd:p.depth=ob.length)(W:ob.length<1048570)(V:o.bd= .iface ty v)(a7:ty≠ar)(b5:ty≠az)(b7:l.ok)(hb:qh l c num n t)(b6: ∀w p' O lb I E y g ib,p'= {p with stq:=p'.stq,stn:=ob.length+2,stc:=p'.stc}->Stk p' (ob++ [o]++ [⟨Cv lb,none,0,0,p.lineno,p.lineno⟩]) O->
  Sat σ w (p'.at b::O++(cP lb c.toNat (num:Nat) false none (kQ I g y E)::(I,cel [kT (kE b)] ah)::t.at E::g8 y lb::jz g ib::gt ib lb n (!t.blank)::L))->R (hQ (.tuple #[l.val,hV true])) w):
 callE P cm #[kT (kE b),l.val] R w:=by
 refine cQ.sound ?_
 refine Sat.bx h λb1 w h=>?_
 refine Sat.bx h λU w h=>?_
 have h:Sat σ w (zLn U::l.at b1::(p.at b::M++L)):=h
 have h:Sat σ w (p.at b::M++(zLn U::l.at b1::L)):=h.re
 refine qO h hs hd λw h=>?_
 rw[iC]
 dsimp only
 refine⟨_,rfl,none,false,w,by rw[V];exact gR b5 w,af rfl (af rfl ?_)⟩
 have h:Sat σ w (l.at b1::(p.at b::M++(zLn U::L))):=h.re
 refine At h hs hd W V a7 b7 hb λw p' O lb I E y g ib a6 b4 h=>⟨_,rfl,ag rfl ?_⟩
 have h:Sat σ w (zLn U::l.at b1::(p'.at b::O++(cP lb c.toNat (num:Nat) false none (kQ I g y E)::(I,cel [kT (kE b)] ah)::t.at E::g8 y lb::jz g ib::gt ib lb n (!t.blank)::L))):=h.re
 repeat (first|refine aa ?_|refine h.tk λw h=>?_|refine⟨_,h.ldA,?_⟩|refine⟨_,_,_,h.ldA,?_⟩|refine h.stA 0 λw h=>?_|refine h.stA 1 λw h=>?_|refine h.stA 2 λw h=>?_|refine h.stA 3 λw h=>?_|refine h.stA 4 λw h=>?_|refine h.stA 5 λw h=>?_|refine h.stA 6 λw h=>?_|refine h.bx λb0 w h=>?_)
 have h:Sat σ _ (l.at U::l.at b1::(p'.at b::O++(cP lb c.toNat (num:Nat) false none (kQ I g y E)::(I,cel [kT (kE b)] ah)::t.at E::g8 y lb::jz g ib::gt ib lb n (!t.blank)::L))):=h
 exact b6 _ p' O lb I E y g ib a6 b4 h.tail.tail
theorem wi:vA P mZ=true:=by kernel_rfl
theorem wQ {b lb E I y g ib n:Nat}{bul num:Int}{loose hv:Bool}{item:Option Addr}{p:PS}{ob:List OB}{o:OB}{M:List ai}{l t:Ln}(h:Sat σ w (p.at b::M++(cP lb bul num loose item (kQ E g y I)::(E,cel [kT (kE b)] ah)::t.at I::g8 y lb::jz g ib::gt ib lb n hv::L)))(hs:Stk p (ob++ [o]) M)(hd:p.depth=ob.length)(b9:ob.length<1048570)(b7:o.bd=Cv lb)(b8: ∀w p' V,p'= {p with stq:=p'.stq,stn:=ob.length+2,stc:=p'.stc}->Stk p' (ob++ [o]++ [⟨DJ ib,none,0,0,p.lineno,p.lineno⟩]) V->
  Sat σ w (p'.at b::V++(cP lb bul num loose (kE ib) .nilFunc::gt ib lb n hv::L))->R (hQ (.tuple #[t.val,hV true])) w):
 callE P cm #[kT (kE b),l.val] R w:=by
 refine cQ.sound ?_
 refine Sat.bx h λb1 w h=>?_
 refine Sat.bx h λO w h=>?_
 have h:Sat σ w (zLn O::l.at b1::(p.at b::M++(cP lb bul num loose item (kQ E g y I)::(E,cel [kT (kE b)] ah)::t.at I::g8 y lb::jz g ib::gt ib lb n hv::L))):=h
 have h:Sat σ w (p.at b::M++(zLn O::l.at b1::cP lb bul num loose item (kQ E g y I)::(E,cel [kT (kE b)] ah)::t.at I::g8 y lb::jz g ib::gt ib lb n hv::L)):=h.re
 refine qO h hs hd λw h=>?_
 rw[iC]
 dsimp only
 have h:Sat σ w (cP lb bul num loose item (kQ E g y I)::zLn O::l.at b1::(p.at b::M++((E,cel [kT (kE b)] ah)::t.at I::g8 y lb::jz g ib::gt ib lb n hv::L))):=h.re
 refine⟨_,rfl,kE lb,true,w,by rw[b7];exact kX _ w,ag rfl (aa ?_)⟩
 obtain⟨_,_,_,b4⟩:=n9 wi
 refine⟨_,Sat.ld h (.head _) (i:=4) rfl,true,w,nm b4 _ _ _ w,ag rfl (aa ?_)⟩
 refine⟨_,Sat.ld h (.head _) (i:=4) rfl,?_⟩
 refine gY ?_
 refine dv.sound ?_
 refine Sat.bx h λU w h=>?_
 have h:Sat σ w (p.at b::M++(zLn U::cP lb bul num loose item (kQ E g y I)::zLn O::l.at b1::(E,cel [kT (kE b)] ah)::t.at I::g8 y lb::jz g ib::gt ib lb n hv::L)):=by
  have h:Sat σ w (zLn U::cP lb bul num loose item (kQ E g y I)::zLn O::l.at b1::(p.at b::M++((E,cel [kT (kE b)] ah)::t.at I::g8 y lb::jz g ib::gt ib lb n hv::L))):=h
  exact h.re
 have a6:(E,cel [kT (kE b)] ah)∈p.at b::M++(zLn U::cP lb bul num loose item (kQ E g y I)::zLn O::l.at b1::(E,cel [kT (kE b)] ah)::t.at I::g8 y lb::jz g ib::gt ib lb n hv::L):=by simp
 have W:jz g ib∈p.at b::M++(zLn U::cP lb bul num loose item (kQ E g y I)::zLn O::l.at b1::(E,cel [kT (kE b)] ah)::t.at I::g8 y lb::jz g ib::gt ib lb n hv::L):=by simp
 refine⟨_,Sat.ld h a6 (i:=0) rfl,_,Sat.ld h W (i:=0) rfl,?_⟩
 refine pm h hs (by simp;omega) (by simp;omega) λw p' V a7 b6 h=>⟨rfl,?_⟩
 have h:Sat σ w (cP lb bul num loose item (kQ E g y I)::zLn U::t.at I::zLn O::l.at b1::g8 y lb::jz g ib::(p'.at b::V++((E,cel [kT (kE b)] ah)::gt ib lb n hv::L))):=h.re
 refine⟨_,Sat.ld h (by simp:g8 y lb∈_) (i:=0) rfl,_,Sat.ld h (by simp:jz g ib∈_) (i:=0) rfl,aa ?_⟩
 refine h.stA 0 λw h=>?_
 have h:Sat σ w (t.at I::zLn U::cP lb bul num loose (kE ib) (kQ E g y I)::zLn O::l.at b1::g8 y lb::jz g ib::(p'.at b::V++((E,cel [kT (kE b)] ah)::gt ib lb n hv::L))):=by
  have h:Sat σ w (cP lb bul num loose (kE ib) (kQ E g y I)::zLn U::t.at I::zLn O::l.at b1::g8 y lb::jz g ib::(p'.at b::V++((E,cel [kT (kE b)] ah)::gt ib lb n hv::L))):=h
  exact h.re
 refine⟨_,h.ldA,?_⟩
 refine⟨_,h.ldA,?_⟩
 refine⟨_,h.ldA,?_⟩
 refine⟨_,h.ldA,?_⟩
 refine⟨_,h.ldA,?_⟩
 refine h.stA 1 λw h=>?_
 refine h.stA 1 λw h=>?_
 refine h.stA 1 λw h=>?_
 refine h.stA 1 λw h=>?_
 refine h.stA 1 λw h=>?_
 have h:Sat σ w (t.at I::t.at U::cP lb bul num loose (kE ib) (kQ E g y I)::zLn O::l.at b1::g8 y lb::jz g ib::(p'.at b::V++((E,cel [kT (kE b)] ah)::gt ib lb n hv::L))):=h
 have h:Sat σ w (t.at U::l.at b1::cP lb bul num loose (kE ib) (kQ E g y I)::zLn O::t.at I::g8 y lb::jz g ib::(p'.at b::V++((E,cel [kT (kE b)] ah)::gt ib lb n hv::L))):=h.re
 refine⟨_,h.ldA,?_⟩
 refine⟨_,h.ldA,?_⟩
 refine⟨_,h.ldA,?_⟩
 refine⟨_,h.ldA,?_⟩
 refine⟨_,h.ldA,?_⟩
 refine⟨_,_,_,_,_,rfl,?_⟩
 refine h.stA 1 λw h=>?_
 refine h.stA 1 λw h=>?_
 refine h.stA 1 λw h=>?_
 refine h.stA 1 λw h=>?_
 refine h.stA 1 λw h=>?_
 have h:Sat σ w (t.at U::t.at b1::cP lb bul num loose (kE ib) (kQ E g y I)::zLn O::t.at I::g8 y lb::jz g ib::(p'.at b::V++((E,cel [kT (kE b)] ah)::gt ib lb n hv::L))):=h
 refine aa ?_
 refine Sat.st h (k:=2) rfl (by simp[cP]) trivial rfl λw h=>?_
 have h:Sat σ w (t.at b1::zLn O::cP lb bul num loose (kE ib) .nilFunc::t.at U::t.at I::g8 y lb::jz g ib::(p'.at b::V++((E,cel [kT (kE b)] ah)::gt ib lb n hv::L))):=by
  have h:Sat σ w (t.at U::t.at b1::cP lb bul num loose (kE ib) .nilFunc::zLn O::t.at I::g8 y lb::jz g ib::(p'.at b::V++((E,cel [kT (kE b)] ah)::gt ib lb n hv::L))):=h
  exact h.re
 refine⟨_,h.ldA,?_⟩
 refine⟨_,h.ldA,?_⟩
 refine⟨_,h.ldA,?_⟩
 refine⟨_,h.ldA,?_⟩
 refine⟨_,h.ldA,?_⟩
 refine h.stA 1 λw h=>?_
 refine h.stA 1 λw h=>?_
 refine h.stA 1 λw h=>?_
 refine h.stA 1 λw h=>?_
 refine h.stA 1 λw h=>?_
 have h:Sat σ w (t.at b1::t.at O::cP lb bul num loose (kE ib) .nilFunc::t.at U::t.at I::g8 y lb::jz g ib::(p'.at b::V++((E,cel [kT (kE b)] ah)::gt ib lb n hv::L))):=h
 have h:Sat σ w (t.at O::t.at b1::cP lb bul num loose (kE ib) .nilFunc::t.at U::t.at I::g8 y lb::jz g ib::(p'.at b::V++((E,cel [kT (kE b)] ah)::gt ib lb n hv::L))):=h.re
 refine⟨_,h.ldA,?_⟩
 refine⟨_,h.ldA,?_⟩
 refine⟨_,h.ldA,?_⟩
 refine⟨_,h.ldA,?_⟩
 refine⟨_,h.ldA,?_⟩
 refine b8 _ p' V (by rw[a7];simp) b6 ?_
 exact h.less [t.at O,t.at b1,t.at U,t.at I,g8 y lb,jz g ib,(E,cel [kT (kE b)] ah)]

theorem Sl.loadMem {q:Option Addr}{n c j:Nat}{e:TypeId}{vs:List Value}{RM:List ai}{v:Value}{K:Addr->Prop}(E:Sl 1 e q n c vs RM)(h:Sat σ w L)(y: ∀x∈RM,x∈L)(g:vs[j]? =some v)(I: ∀b,q=kE b->w.cell? (hZ b j)=some v->K (hZ b 0)):aA q K:=by
 obtain⟨U,_,⟨rfl,rfl,_,_⟩|⟨O,sp,rfl,rfl,_⟩⟩:=E
 ·have:=(lL0.1 g).1;omega
 ·refine aa (I O rfl (h.ld (y _ (.head _)) ?_))
  rw[lM0 (lL0.1 g).1];exact g
theorem l9 {b:Nat}{E:PS}{ob:List OB}{par o:OB}{M IM O:List ai}{inner:List Value}{U:TypeId}{q:Option Addr}(h:Sat σ w (E.at b::M++(IM++O)))(hs:Stk E (ob++ [par]++ [o]) M)(b8:Sl 1 aO par.q par.n par.c inner IM)(c1:par.n<1000000)(b9: ∀w p2 a7 I g y,p2= {E with stn:=ob.length+1}->Stk p2 (ob++ [{par with q:=g,n:=par.n+1,c:=y}]) a7->Sl 1 aO g (par.n+1) y (inner++ [.iface U (kT q)]) I->
  Sat σ w (p2.at b::a7++(I++O))->R (hQ (.iface U (kT q))) w):aK.k3 R (kE b) (.iface U (kT q)) w:=by
 have b6:=hs.2.2
 have V:=hs.2.1
 have W:=hs.1.2.1
 obtain⟨sb,sp,a6,rfl,b7⟩:=hs.split (by simp)
 simp only[lA0,lE0] at V b6
 rw[V] at W
 unfold aK.k3
 refine h.tk λw h=>?_
 refine aa (aa ?_)
 refine⟨_,_,_,h.ldA,?_⟩
 refine⟨_,_,_,h.ldA,?_⟩
 rw[V,kD (by omega),a6]
 refine⟨_,_,_,λw=>vb rowOB.ht rowOB.hi sb (ob.length+1+1) E.stc (ob.length+1) (by omega) W w,?_⟩
 refine aa ?_
 refine h.stA 0 λw h=>?_
 let p2:PS:= {E with stq:=kE sb,stn:=ob.length+1}
 have b4:p2= {E with stn:=ob.length+1}:=by simp only[p2,<-a6]
 have h:Sat σ w (p2.at b:: [(sb,cel (aP (ob++ [par])++(o.cells++sp)) ay)]++(IM++O)):=by
  rw[i9,lD0] at h
  exact h
 refine aa ?_
 refine⟨_,_,_,h.ldA,?_⟩
 refine ag (by simp[p2]) ?_
 refine h.tk λw h=>?_
 refine aa (aa ?_)
 refine⟨_,_,_,h.ldA,?_⟩
 refine⟨_,_,_,h.ldA,?_⟩
 rw[show p2.stn=ob.length+1 from rfl,kD (by omega),show p2.stq=kE sb from rfl]
 refine⟨by omega,by omega,aa ?_⟩
 simp only[lK0,lO0,lC0,lN1]
 refine⟨_,_,_,Sat.ld h (.tail _ (.head _)) (fu (f:=1) (by decide) (iC par)),?_⟩
 have h:Sat σ _ (IM++(p2.at b::(sb,cel (aP (ob++ [par])++(o.cells++sp)) ay)::O)):=h.re
 refine Sat.app1 rowBlock b8 h (v:= .iface U (kT q)) rfl (by simp[Value.cells,Value.oneCell']) (by kernel_rfl) (by omega) (by omega) (by decide) λg y w I b3 h=>?_
 have h:Sat σ _ (p2.at b::(sb,cel (aP (ob++ [par])++(o.cells++sp)) ay)::(I++O)):=h.re
 refine Sat.st h (k:=1) rfl (by rw[lA0,aR,lA0,lE0];omega) trivial rfl λw h=>?_
 have e:=lC (l:=ob) (sp:=o.cells++sp) (o:=par) (o':= {par with q:=g,n:=par.n+1,c:=y}) (f:=1) (v:= hT g (par.n+1) y) (by decide) rfl
 have h:Sat σ w (p2.at b::(sb,cel (aP (ob++ [{par with q:=g,n:=par.n+1,c:=y}])++(o.cells++sp)) ay)::(I++O)):=by
  rw[<-e];exact h
 have b5:Stk p2 (ob++ [{par with q:=g,n:=par.n+1,c:=y}]) [(sb,cel (aP (ob++ [{par with q:=g,n:=par.n+1,c:=y}])++(o.cells++sp)) ay)]:=by
  refine Stk.mk' rfl ?_ (by simp[p2]) (by simp;omega)
  show _=E.stc*4
  rw[<-b7]
  simp only[lA0,aR,lE0,OB.cells,lF0,lK1]
  omega
 refine b9 w p2 _ I g y b4 b5 b3 h
theorem jc {b:Nat}{p:PS}{ob:List OB}{o:OB}{M:List ai}{t:TypeId}{v:Value}(h:Sat σ w (p.at b::M++L))(hs:Stk p (ob++ [o]) M)(b8:o.bd= .iface t v)(hb: ∀w,Sat σ w (p.at b::M++L)->de P (callMethod o.bd "pub-paratext/pub/rscmarkdown.build" #[.iface ah (kT (kE b))]) (λe W=> ∃(y:Value),e= hQ y/\
  ∃(E:Option Addr),∃(I:Bool),∃g,(Instr.typeAssert y aO dn true).run P W= .ok (.tuple #[kT E,hV I]) g/\
  br I (aA (kE b) λa6=> ∃(O:Bool),g.cell? (a6.add 6)=some (hV O)/\br O
   (aA (kE b) λb5=>stV g ((b5.add 6).add 0) (hV true) λb3=>aK.k2 R (kE b) y E b3)
   (callE P lr #[kT E] (λe a7=> ∃(U:Bool),e= hQ (hV U)/\aA (kE b) λb4=>stV a7 ((b4.add 6).add 0) (hV U) λb7=>aK.k2 R (kE b) y E b7) g))
   (aK.k3 R (kE b) y g)) w):callE P aI #[kT (kE b)] R w:=by
 have b6:=hs.2.2
 have V:=hs.2.1
 obtain⟨sb,sp,b9,rfl,c1⟩:=hs.split (by simp)
 simp only[lA0,lE0] at V b6
 refine aK.sound ?_
 refine h.tk λw h=>?_
 refine aa (aa ?_)
 refine⟨_,_,_,h.ldA,?_⟩
 refine⟨_,_,_,h.ldA,?_⟩
 rw[V,kD (by omega)]
 refine⟨by omega,by omega,?_⟩
 rw[b9]
 refine aa ?_
 simp only[lK0,lO0,lC0]
 refine⟨o.bd,Sat.ld h (.tail _ (.head _)) (fu (f:=0) (by decide) (iC o)),false,w,by rw[b8];exact nL tZ _ _ w,af rfl ?_⟩
 refine aa ?_
 refine⟨o.bd,Sat.ld h (.tail _ (.head _)) (fu (f:=0) (by decide) (iC o)),?_⟩
 exact hb _ h
structure IT where
 nb:Nat
 s:Nat
 e:Nat
 q:Option Addr
 n:Nat
 c:Nat
 wd:Nat
 IM:List ai
 D:List DB
def IT.chunk (i:IT):ai:=(i.nb,cel [hY i.s,hY i.e,hT i.q i.n i.c,hY i.wd] m9)
def IT.v (i:IT):Value:= .iface fU (kT (kE i.nb))
def IT.db (i:IT):DB:=⟨i.v,i.chunk::(i.IM++cZ i.D),ci i.D⟩
structure IT.ok (i:IT):Prop where
 sl:Sl 1 aO i.q i.n i.c (i.D.map DB.v) i.IM
 len:i.D.length<1000000
 se:i.s<1000000000/\i.e<1000000000
theorem IT.n_eq {i:IT}(h:i.ok):i.n=i.D.length:=by have:=h.sl.1;simp at this;omega
theorem IT.posIs (i:IT):i.db.posIs i.s i.e:=j9 zH rfl (.head _)
def DB.ifc (d:DB):Prop:= ∃ty q,d.v= .iface ty (kT q)
def tQ (nb s e:Nat)(bul num:Int)(loose:Bool)(q:Option Addr)(n c:Nat):ai:=(nb,cel [hY s,hY e,.int .i32 bul,hY num,hV loose,hT q n c] uT)
theorem BW {t e xt:TypeId}{q:Option Addr}{ty:TypeId}{i:TypeInfo}(g:P.underlying t=some (.pointer e))(hi:P.info? t=some i)(hz:i.zero=some (kT none))(w:World):
 ∃r k,(Instr.typeAssert (.iface ty (kT q)) xt t true).run P w= .ok (.tuple #[kT r,hV k]) w:=by
 by_cases ht:ty=t
 ·subst ht
  exact⟨q,true,oL (by rw[g];intro y h;cases h) g w⟩
 ·exact⟨none,false,u5 (by rw[g];intro y h;cases h) g ht hi hz w⟩
theorem mV:P.underlying dn=some (.pointer uT):=by kernel_rfl
theorem FK:P.underlying cW=some (.pointer jY):=by kernel_rfl
theorem FL:P.underlying cL=some (.pointer na):=by kernel_rfl
theorem BB:P.underlying fU=some (.pointer m9):=by kernel_rfl
theorem yp (q:Option Addr)(w:World):(Instr.typeAssert (.iface fU (kT q)) aO fU false).run P w= .ok (kT q) w:=by
 simp[Instr.typeAssert,run_underlying BB]
theorem IT.own_mem {items:List IT}{i:IT}(hi:i∈items): ∀x∈i.db.own,x∈cZ (items.map IT.db):=by
 intro x g
 exact lS2.2 ⟨i.db,lF5 hi,g⟩
theorem pI {nb s e:Nat}{bul num:Int}{loose:Bool}{q:Option Addr}{n c:Nat}{items:List IT}{IM:List ai}(b4:Sl 1 aO q n c (items.map IT.v) IM)(b6: ∀i∈items,i.ok/\ ∀d∈i.D,d.ifc)(e6:items.length<1000000)(h:Sat σ w L)(O: ∀x∈tQ nb s e bul num loose q n c::(IM++cZ (items.map IT.db)),x∈L)(I: ∀k,R (hQ (hV k)) w):callE P lr #[kT (kE nb)] R w:=by
 have e4:n=items.length:=by have:=b4.1;simp at this;omega
 refine gH.sound ?_
 refine aa ⟨_,_,_,Sat.ld h (O _ (.head _)) (i:=5) rfl,?_⟩
 intro X b5
 have b9: ∀k j:Nat,j+k=items.length->X q n c (n:Int) (j:Int) w:=by
  intro k
  induction k with
  |zero=>
   intro j c9
   exact b5 _ _ _ _ _ _ (af (by simp;omega) (I false))
  |succ k d0=>
   intro j c9
   have W:j<items.length:=by omega
   have y:=lQ1 W
   generalize b7:items[j]=i at y
   obtain⟨E,c1⟩:=b6 i y
   have b3: ∀x∈i.db.own,x∈L:=λx g=>O x (.tail _ (lB0 _ (IT.own_mem y x g)))
   have a7:i.chunk∈L:=b3 _ (.head _)
   have b8: ∀x∈i.IM,x∈L:=λx g=>b3 x (.tail _ (lD1 _ g))
   refine b5 _ _ _ _ _ _ (ag (by simp;omega) ⟨by omega,by omega,?_⟩)
   refine b4.loadMem h (λx g=>O x (.tail _ (lD1 _ g))) (j:=j) (v:=i.v) (by simp[W,b7]) λe7 e5 hc=>?_
   simp only[lK0,lC0,lC1,lO0]
   refine⟨_,hc,kE i.nb,w,yp _ w,aa ?_⟩
   refine⟨_,_,_,Sat.ld h a7 (i:=2) rfl,?_⟩
   rw[IT.n_eq E]
   refine bp (λ_=>I true) λc2=>aa ?_
   have V:0<i.D.length:=by
    have:i.D.length≠0:=by simpa using c2
    omega
   obtain⟨ty,U,c3⟩:=c1 i.D[0] (lQ1 V)
   refine⟨_,_,_,Sat.ld h a7 (i:=2) rfl,by decide,by rw[IT.n_eq E];omega,?_⟩
   refine E.sl.loadMem h b8 (j:=0) (v:=i.D[0].v) (by simp[V]) λe0 d3 a6=>?_
   simp only[lK0,lC0,lC1,lO0]
   rw[c3] at a6
   obtain⟨d1,k1,c5⟩:=BW (xt:=aO) (q:=U) (ty:=ty) mV (i:=(P.info? dn).getD default) (by kernel_rfl) (by kernel_rfl) w
   obtain⟨r2,k2,c8⟩:=BW (xt:=aO) (q:=U) (ty:=ty) FK (i:=(P.info? cW).getD default) (by kernel_rfl) (by kernel_rfl) w
   obtain⟨c4,k3,d2⟩:=BW (xt:=aO) (q:=U) (ty:=ty) FL (i:=(P.info? cL).getD default) (by kernel_rfl) (by kernel_rfl) w
   refine⟨_,a6,d1,k1,w,c5,r2,k2,w,c8,c4,k3,w,d2,?_⟩
   refine bp (λ_=>I true) λ_=>?_
   rw[aN (by omega)]
   exact d0 (j+1) (by omega)
 exact b9 items.length 0 (by omega)

theorem Sl.storeAt {q:Option Addr}{n c j:Nat}{e:TypeId}{vs:List Value}{RM:List ai}{v:Value}{K:World->Prop}(O:Sl 1 e q n c vs RM)(h:Sat σ w (RM++L))(W:j<vs.length)(hv:nU v)(U: ∀w g,Sl 1 e q n c (vs.set j v) g->Sat σ w (g++L)->K w):aA q λa=>stV w ((a.add j).add 0) v K:=by
 obtain⟨E,hc,⟨rfl,rfl,_,rfl⟩|⟨y,sp,rfl,rfl,I⟩⟩:=O
 ·exact absurd E (by omega)
 ·refine aa ?_
  simp only[lK0,lO0,lN1]
  refine Sat.st h (k:=0) rfl (by rw[lA0];omega) hv rfl λw h=>?_
  refine U w [(y,cel (vs.set j v++sp) e)] ⟨by simpa using E,hc,.inr ⟨y,sp,rfl,rfl,by simpa using I⟩⟩ ?_
  have V:(vs++sp).set j v=vs.set j v++sp:=lV4 _ _ W
  rw[<-V]
  exact h
def DK (pos:DB->Nat × Nat):List DB->Bool
 |d::d2::ds=>decide ((pos d).2+1<(pos d2).1)||DK pos (d2::ds)
 |_=>false
def mz (pos:DB->Nat × Nat):List IT->Bool
 |i::i2::is=>decide (i.e+1<i2.s)||(DK pos i.D||mz pos (i2::is))
 | [i]=>DK pos i.D
 | []=>false
def dw (d:DB):DB:=match d.v with
 | .iface ty _=>if ty=bD then match d.txs with| [x]=>⟨.iface dW (kT (kE x.t)),d.own,d.txs⟩|_=>d else d
 |_=>d
theorem kW (nb t s e:Nat)(raw:List UInt8):dw (kz nb t s e raw)=⟨.iface dW (kT (kE t)),[lE nb s e t],[⟨t,s,e,raw⟩]⟩:=by
 unfold dw kz
 simp
theorem eh {d:DB}{ty:TypeId}{q:Option Addr}(h:d.v= .iface ty (kT q))(ht:ty≠bD):dw d=d:=by
 unfold dw
 rw[h]
 simp[ht]
def DB.kindOK (d:DB):Prop:=(∃nb t s e raw,d=kz nb t s e raw)\/(∃ty q,d.v= .iface ty (kT q)/\ty≠bD)
theorem yl {d:DB}(h:d.kindOK):(dw d).own=d.own/\(dw d).txs=d.txs:=by
 rcases h with ⟨nb,t,s,e,raw,rfl⟩|⟨ty,q,h,ht⟩
 ·rw[kW];exact⟨rfl,rfl⟩
 ·rw[eh h ht];exact⟨rfl,rfl⟩
theorem qx {D:List DB}(h: ∀d∈D,d.kindOK):cZ (D.map dw)=cZ D/\ci (D.map dw)=ci D:=by
 induction D with
 |nil=>exact⟨rfl,rfl⟩
 |cons d D y=>
  obtain⟨a,b⟩:=yl (h d (by simp))
  obtain⟨c,e⟩:=y λx g=>h x (lR1 _ g)
  constructor
  ·show (dw d).own++cZ (D.map dw)=d.own++cZ D
   rw[a,c]
  ·show (dw d).txs++ci (D.map dw)=d.txs++ci D
   rw[b,e]
inductive Ret:List IT->List IT->Prop where
 |nil:Ret [] []
 |cons {i i':IT} {is is':List IT}:i'= {i with D:=i.D.map dw,IM:=i'.IM}->i'.ok->Ret is is'->Ret (i::is) (i'::is')
theorem Ret.snoc {E y:List IT}{i g:IT}(h:Ret E y)(U:g= {i with D:=i.D.map dw,IM:=g.IM})(I:g.ok):Ret (E++ [i]) (y++ [g]):=by
 induction h with
 |nil=>exact .cons U I .nil
 |cons a b _ O=>exact .cons a b O
theorem Ret.vs {y g:List IT}(h:Ret y g):g.map IT.v=y.map IT.v:=by
 induction h with
 |nil=>rfl
 |cons a b _ E=>rw[lO1,lO1,E,a];rfl
theorem rS:P.underlying bD=some (.pointer m7):=by kernel_rfl
theorem sw (q:Option Addr)(w:World):(Instr.typeAssert (.iface bD (kT q)) aO bD true).run P w= .ok (.tuple #[kT q,hV true]) w:=
 oL (by rw[rS];intro g h;cases h) rS w
theorem Ar {ty:TypeId}{v:Value}(ht:ty≠bD)(w:World):(Instr.typeAssert (.iface ty v) aO bD true).run P w= .ok (.tuple #[kT none,hV false]) w:=
 u5 (by rw[rS];intro g h;cases h) rS ht (i:=(P.info? bD).getD default) (by kernel_rfl) (by kernel_rfl) w
theorem oN:ns P az "pub-paratext/pub/rscmarkdown.build" iO=true:=by kernel_rfl
theorem oO:ns P bv "pub-paratext/pub/rscmarkdown.build" iS=true:=by kernel_rfl
theorem nr:ns P gP "pub-paratext/pub/rscmarkdown.build" ia=true:=by kernel_rfl
theorem rr {b lb:Nat}{bul num:Int}{td:Value}{p:PS}{ob:List OB}{o:OB}{M IM:List ai}{items:List IT}{pos:DB->Nat × Nat}{it:Option Addr}(h:Sat σ w (p.at b::M++(cP lb bul num false it td::(IM++(cZ (items.map IT.db)++L)))))(hs:Stk p (ob++ [o]) M)(c2:Sl 1 aO o.q o.n o.c (items.map IT.v) IM)(n0:items≠ [])(r3:items.length<1000000)(q5:o.s<1000000000)(e5: ∀i∈items,i.ok/\ ∀d∈i.D,d.kindOK/\d.posIs (pos d).1 (pos d).2/\(pos d).1<1000000000/\(pos d).2<2000000000)(b6: ∀w nb e (V:List IT),(mz pos items=true/\V=items\/mz pos items=false/\Ret items V)->((∃i∈items,e=i.e)/\items.getLast?.map IT.e=some e)->
  Sat σ w (p.at b::M++(tQ nb o.s e bul num (mz pos items) o.q o.n o.c::(IM++(cZ (V.map IT.db)++L))))->R (hQ (.iface dn (kT (kE nb)))) w):
 callE P iO #[kT (kE lb),.iface ah (kT (kE b))] R w:=by
 have e8:o.n=items.length:=by have:=c2.1;simp at this;omega
 have q2:0<items.length:=lY0.2 n0
 refine aV.sound ?_
 refine bm kC ?_
 refine nQ h hs λw h=>⟨_,_,_,rfl,?_⟩
 refine bm n8 ?_
 refine uk h hs λw h=>⟨_,_,rfl,?_⟩
 refine Sat.bx h λg w h=>?_
 refine h.stA 0 λw h=>?_
 refine h.stA 0 λw h=>?_
 have h:Sat σ w ((g,cel [hY o.s,hY o.e] aF)::(p.at b::M++(cP lb bul num false it td::(IM++(cZ (items.map IT.db)++L))))):=h
 rw[e8] at c2⊢
 have m1:i64.wrap ((items.length:Int) - 1)=((items.length - 1:Nat):Int):=by rw[i64_in _ (by omega)];omega
 rw[m1]
 refine⟨by omega,by omega,?_⟩
 generalize e6:items[items.length - 1]'(by omega)=la
 have e4:la∈items:=by rw[<-e6];exact lQ1 _
 have g3:items.getLast?.map IT.e=some la.e:=by rw[List.getLast?_eq_getElem?,lI0 (by omega),e6];rfl
 have e9: ∀ {K:List ai} {x:ai},x∈IM->x∈K++(cP lb bul num false it td::(IM++(cZ (items.map IT.db)++L))):=λO=>by simp[O]
 refine c2.loadMem h (λx O=> .tail _ (e9 O)) (j:=items.length - 1) (v:=la.v) (by rw[lF2,lI0 (by omega),e6];rfl) λg0 g1 hc=>?_
 simp only[lK0,lC0,lC1,lO0]
 refine⟨_,hc,?_⟩
 have f6: ∀ {K:List ai} {i:IT},i∈items-> ∀x∈i.db.own,x∈K++(cP lb bul num false it td::(IM++(cZ (items.map IT.db)++L))):=λhi x O=>by
  have:=IT.own_mem hi x O
  simp[this]
 refine la.posIs σ _ _ w (λx O=> .tail _ (f6 e4 x O)) h λw h=>⟨_,_,rfl,?_⟩
 refine h.stA 0 λw h=>?_
 have h:Sat σ w ((g,cel [hY o.s,hY la.e] aF)::(p.at b::M++(cP lb bul num false it td::(IM++(cZ (items.map IT.db)++L))))):=h
 have k3: ∀(lo:Bool) (V:List IT) w,(∀w nb,Sat σ w (p.at b::M++(tQ nb o.s la.e bul num lo o.q items.length o.c::(IM++(cZ (V.map IT.db)++L))))->R (hQ (.iface dn (kT (kE nb)))) w)->
  Sat σ w ((g,cel [hY o.s,hY la.e] aF)::cP lb bul num lo it td::(p.at b::M++(IM++(cZ (V.map IT.db)++L))))->aV.k3 R (kE lb) (.iface ah (kT (kE b))) g w:=by
  intro lo V w b6 h
  refine Sat.tk h λw h=>aa (aa (aa ?_))
  refine⟨_,Sat.ld h (.head _) (i:=0) rfl,_,Sat.ld h (.head _) (i:=1) rfl,_,Sat.ld h (.tail _ (.head _)) (i:=0) rfl,_,Sat.ld h (.tail _ (.head _)) (i:=1) rfl,_,Sat.ld h (.tail _ (.head _)) (i:=2) rfl,?_⟩
  have h0:=h
  have h:Sat σ w (p.at b::M++((g,cel [hY o.s,hY la.e] aF)::cP lb bul num lo it td::(IM++(cZ (V.map IT.db)++L)))):=h.re
  have f3:cP lb bul num lo it td∈p.at b::M++((g,cel [hY o.s,hY la.e] aF)::cP lb bul num lo it td::(IM++(cZ (V.map IT.db)++L))):=by simp
  have j1:(g,cel [hY o.s,hY la.e] aF)∈p.at b::M++((g,cel [hY o.s,hY la.e] aF)::cP lb bul num lo it td::(IM++(cZ (V.map IT.db)++L))):=by simp
  refine bm kC ?_
  refine nQ h hs λw h=>⟨_,_,_,rfl,h0.same h (.tail _ (.head _)) f3 1,h0.same h (.tail _ (.head _)) f3 1,h0.same h (.tail _ (.head _)) f3 1,h0.same h (.head _) j1 2,?_⟩
  refine Sat.bx h λnb w h=>?_
  refine b6 w nb ?_
  rw[e8] at h
  have h:Sat σ w (tQ nb o.s la.e bul num lo o.q items.length o.c::(p.at b::M++((g,cel [hY o.s,hY la.e] aF)::cP lb bul num lo it td::(IM++(cZ (V.map IT.db)++L))))):=h
  exact h.less [(g,cel [hY o.s,hY la.e] aF),cP lb bul num lo it td]
 have l2: ∀w,(∀w nb (V:List IT),Ret items V->Sat σ w (p.at b::M++(tQ nb o.s la.e bul num false o.q items.length o.c::(IM++(cZ (V.map IT.db)++L))))->R (hQ (.iface dn (kT (kE nb)))) w)->
  Sat σ w ((g,cel [hY o.s,hY la.e] aF)::cP lb bul num false it td::(p.at b::M++(IM++(cZ (items.map IT.db)++L))))->
  aV.l2 R (kE lb) (.iface ah (kT (kE b))) g o.q items.length o.c (items.length:Int) 0 w:=by
  intro w b6 h X c9
  have e7: ∀(suf pre W:List IT) w,pre++suf=items->Ret pre W->Sat σ w ((g,cel [hY o.s,hY la.e] aF)::cP lb bul num false it td::(p.at b::M++(IM++(cZ ((W++suf).map IT.db)++L))))->
   X (kE lb) (.iface ah (kT (kE b))) g o.q items.length o.c (items.length:Int) (pre.length:Int) w:=by
   intro suf
   induction suf with
   |nil=>
    intro pre W w I e0 h
    rw[lG0] at I h
    exact c9 _ _ _ _ _ _ _ _ _ (af (by rw[I];simp) (k3 false W w (λw nb h=>b6 w nb W (I▸e0) h) h))
   |cons i suf d3=>
    intro pre W w I e0 h
    have f0:pre.length<items.length:=by rw[<-I];simp
    have d1:i∈items:=by rw[<-I];simp
    obtain⟨a7,c3⟩:=e5 i d1
    have f2:items[pre.length]=i:=by simp[<-I]
    refine c9 _ _ _ _ _ _ _ _ _ (ag (by simp;omega) ⟨by omega,by omega,?_⟩)
    refine c2.loadMem h (λx O=>by simp[O]) (j:=pre.length) (v:=i.v) (by rw[lF2,lI0 f0,f2];rfl) λg0 g1 hc=>?_
    simp only[lK0,lC0,lC1,lO0]
    refine⟨_,hc,kE i.nb,w,yp _ w,aa ?_⟩
    have i0:cZ ((W++i::suf).map IT.db)=cZ (W.map IT.db)++(i.chunk::(i.IM++cZ i.D)++cZ (suf.map IT.db)):=by
     simp[cZ,IT.db]
    rw[i0] at h
    have h:Sat σ w (i.IM++(i.chunk::((g,cel [hY o.s,hY la.e] aF)::cP lb bul num false it td::(p.at b::M++(IM++(cZ (W.map IT.db)++(cZ i.D++(cZ (suf.map IT.db)++L)))))))):=h.re
    have h3: ∀ {K:List ai},i.chunk∈K++(i.chunk::((g,cel [hY o.s,hY la.e] aF)::cP lb bul num false it td::(p.at b::M++(IM++(cZ (W.map IT.db)++(cZ i.D++(cZ (suf.map IT.db)++L))))))):=by intro K;simp
    refine⟨_,_,_,Sat.ld h h3 (i:=2) rfl,?_⟩
    have b4:=IT.n_eq a7
    have h7:=a7.len
    rw[b4]
    intro Y d0
    have inner: ∀(U y:List DB) RM w,y++U=i.D->Sl 1 aO i.q i.D.length i.c ((y.map dw++U).map DB.v) RM->
     Sat σ w (RM++(i.chunk::((g,cel [hY o.s,hY la.e] aF)::cP lb bul num false it td::(p.at b::M++(IM++(cZ (W.map IT.db)++(cZ i.D++(cZ (suf.map IT.db)++L))))))))->
     Y (kE lb) (.iface ah (kT (kE b))) g (kE i.nb) o.q items.length o.c (items.length:Int) (pre.length:Int) i.q i.D.length i.c (i.D.length:Int) (y.length:Int) w:=by
     intro U
     induction U with
     |nil=>
      intro y RM w E b8 h
      rw[lG0] at E b8
      rw[E] at b8
      refine d0 _ _ _ _ _ _ _ _ _ _ _ _ _ _ _ (af (by rw[E];simp) ?_)
      rw[aN (by omega)]
      have:=d3 (pre++ [i]) (W++ [{i with D:=i.D.map dw,IM:=RM}]) w (by rw[<-I];simp) (e0.snoc rfl ⟨by simpa[b4] using b8,by simpa using a7.len,a7.se⟩) ?_
      ·rw[lA0,lE0] at this;exact this
      ·have n3:=(qx (D:=i.D) λd hd=>(c3 d hd).1).1
       have o0:cZ (((W++ [{i with D:=i.D.map dw,IM:=RM}])++suf).map IT.db)=cZ (W.map IT.db)++(i.chunk::(RM++cZ i.D)++cZ (suf.map IT.db)):=by
        rw[<-n3]
        simp[cZ,IT.db,IT.chunk]
       rw[o0]
       exact h.re
     |cons d U c8=>
      intro y RM w E b8 h
      have m2:y.length<i.D.length:=by rw[<-E];simp
      have c5:d∈i.D:=by rw[<-E];simp
      obtain⟨o4,_,_⟩:=c3 d c5
      refine d0 _ _ _ _ _ _ _ _ _ _ _ _ _ _ _ (ag (by simp;omega) ⟨by omega,by omega,?_⟩)
      have i4:((y.map dw++d::U).map DB.v)[y.length]? =some d.v:=by
       rw[lF2,lH0 (by simp)];simp
      refine b8.loadAt h i4 λg0 g1 hc=>?_
      simp only[lK0,lC0,lC1,lO0]
      refine⟨_,hc,?_⟩
      have j0: ∀v:Value,v=(dw d).v->((y.map dw++d::U).map DB.v).set y.length v=((y++ [d]).map dw++U).map DB.v:=by
       rintro v rfl
       simp
      rcases o4 with ⟨nb,t,s,e,raw,rfl⟩|⟨ty,r4,hv,h2⟩
      ·refine⟨kE nb,true,w,sw _ w,ag rfl ?_⟩
       refine Sat.tk h λw h=>aa (aa ?_)
       have m3:lE nb s e t∈RM++(i.chunk::((g,cel [hY o.s,hY la.e] aF)::cP lb bul num false it td::(p.at b::M++(IM++(cZ (W.map IT.db)++(cZ i.D++(cZ (suf.map IT.db)++L))))))):=by
        have:lE nb s e t∈cZ i.D:=lS2.2 ⟨_,c5,by simp[kz]⟩
        simp[this]
       refine⟨_,_,_,Sat.ld h h3 (i:=2) rfl,_,Sat.ld h m3 (i:=2) rfl,by omega,by rw[b4];omega,?_⟩
       refine b8.storeAt h (j:=y.length) (v:= .iface dW (kT (kE t))) (by simp) trivial λw m5 g6 h=>?_
       rw[j0 _ (by rw[kW])] at g6
       rw[aN (by omega)]
       have:=c8 (y++ [kz nb t s e raw]) m5 w (by rw[<-E];simp) g6 h
       rw[lA0,lE0] at this;exact this
      ·rw[hv]
       refine⟨none,false,w,Ar h2 w,af rfl ?_⟩
       rw[aN (by omega)]
       have o2:(y.map dw++d::U).map DB.v=((y++ [d]).map dw++U).map DB.v:=by simp[eh hv h2]
       rw[o2] at b8
       have:=c8 (y++ [d]) RM w (by rw[<-E];simp) b8 h
       rw[lA0,lE0] at this;exact this
    have h8:Sl 1 aO i.q i.D.length i.c (([].map dw++i.D).map DB.v) i.IM:=by rw[<-b4];exact a7.sl
    exact inner i.D [] i.IM w rfl h8 h
  exact e7 items [] [] w rfl .nil h
 have k1: ∀w,Sat σ w ((g,cel [hY o.s,hY la.e] aF)::cP lb bul num (mz pos items) it td::(p.at b::M++(IM++(cZ (items.map IT.db)++L))))->aV.k1 R (kE lb) (.iface ah (kT (kE b))) o.q items.length o.c g w:=by
  intro w h
  refine aa ⟨_,Sat.ld h (.tail _ (.head _)) (i:=2) rfl,?_⟩
  rw[e8] at b6
  cases b3:mz pos items with
  |true=>
   rw[b3] at h b6
   exact af rfl (k3 true items w (λw nb h=>b6 w nb la.e items (.inl ⟨rfl,rfl⟩) ⟨⟨la,e4,rfl⟩,g3⟩ h) h)
  |false=>
   rw[b3] at h b6
   exact ag rfl (l2 w (λw nb V hr h=>b6 w nb la.e V (.inr ⟨rfl,hr⟩) ⟨⟨la,e4,rfl⟩,g3⟩ h) h)
 intro X c9
 have h5: ∀w,mz pos items=true->Sat σ w ((g,cel [hY o.s,hY la.e] aF)::(p.at b::M++(cP lb bul num false it td::(IM++(cZ (items.map IT.db)++L)))))->
  aA (kE lb) λa=>stV w ((a.add 2).add 0) (hV true) λw=>aV.k1 R (kE lb) (.iface ah (kT (kE b))) o.q items.length o.c g w:=by
  intro w b3 h
  have h:Sat σ w (cP lb bul num false it td::(g,cel [hY o.s,hY la.e] aF)::(p.at b::M++(IM++(cZ (items.map IT.db)++L)))):=h.re
  refine aa ?_
  refine h.stA 0 λw h=>?_
  refine k1 w ?_
  rw[b3]
  have h:Sat σ w (cP lb bul num true it td::(g,cel [hY o.s,hY la.e] aF)::(p.at b::M++(IM++(cZ (items.map IT.db)++L)))):=h
  exact h.re
 have e7: ∀(suf pre:List IT) w,pre++suf=items->mz pos items=mz pos suf->Sat σ w ((g,cel [hY o.s,hY la.e] aF)::(p.at b::M++(cP lb bul num false it td::(IM++(cZ (items.map IT.db)++L)))))->
  X (kE lb) (.iface ah (kT (kE b))) o.q items.length o.c g o.q items.length o.c (items.length:Int) (pre.length:Int) w:=by
  intro suf
  induction suf with
  |nil=>
   intro pre w I b3 h
   rw[lG0] at I
   subst I
   refine c9 _ _ _ _ _ _ _ _ _ _ _ _ (af (by simp) (k1 w ?_))
   rw[b3]
   have h:Sat σ w ((g,cel [hY o.s,hY la.e] aF)::(p.at b::M++(cP lb bul num (mz pos []) it td::(IM++(cZ (pre.map IT.db)++L))))):=h
   exact h.re
  |cons i suf d3=>
   intro pre w I b3 h
   have f0:pre.length<items.length:=by rw[<-I];simp
   have d1:i∈items:=by rw[<-I];simp
   obtain⟨a7,c3⟩:=e5 i d1
   have f2:items[pre.length]=i:=by simp[<-I]
   have b7: ∀x∈i.db.own,x∈(g,cel [hY o.s,hY la.e] aF)::(p.at b::M++(cP lb bul num false it td::(IM++(cZ (items.map IT.db)++L)))):=λx O=> .tail _ (f6 d1 x O)
   refine c9 _ _ _ _ _ _ _ _ _ _ _ _ (ag (by simp;omega) ⟨by omega,by omega,?_⟩)
   refine c2.loadMem h (λx O=> .tail _ (e9 O)) (j:=pre.length) (v:=i.v) (by rw[lF2,lI0 f0,f2];rfl) λg0 g1 hc=>?_
   simp only[lK0,lC0,lC1,lO0]
   refine⟨_,hc,kE i.nb,w,yp _ w,?_⟩
   rw[aN (by omega)]
   have inner: ∀rest w,(mz pos items=(DK pos i.D||rest))->(∀w,mz pos items=rest->Sat σ w ((g,cel [hY o.s,hY la.e] aF)::(p.at b::M++(cP lb bul num false it td::(IM++(cZ (items.map IT.db)++L)))))->
    X (kE lb) (.iface ah (kT (kE b))) o.q items.length o.c g o.q items.length o.c (items.length:Int) ((pre.length+1:Nat):Int) w)->
    Sat σ w ((g,cel [hY o.s,hY la.e] aF)::(p.at b::M++(cP lb bul num false it td::(IM++(cZ (items.map IT.db)++L)))))->
    aV.k2 R X (kE lb) (.iface ah (kT (kE b))) o.q items.length o.c g (kE i.nb) o.q items.length o.c (items.length:Int) (pre.length:Int) w:=by
    intro rest w m4 h6 h
    refine aa ⟨_,_,_,Sat.ld h (b7 _ (.head _)) (i:=2) rfl,?_⟩
    have b4:=IT.n_eq a7
    rw[b4]
    have f1:=a7.sl
    rw[b4] at f1
    have g7: ∀x∈i.IM,x∈(g,cel [hY o.s,hY la.e] aF)::(p.at b::M++(cP lb bul num false it td::(IM++(cZ (items.map IT.db)++L)))):=λx O=>b7 x (.tail _ (lD1 _ O))
    have h4: ∀d∈i.D,∀x∈d.own,x∈(g,cel [hY o.s,hY la.e] aF)::(p.at b::M++(cP lb bul num false it td::(IM++(cZ (items.map IT.db)++L)))):=λd hd x O=>b7 x (.tail _ (lB0 _ (lS2.2 ⟨d,hd,O⟩)))
    intro Y d0
    have h9: ∀(U y:List DB) w,y++U=i.D->mz pos items=(DK pos U||rest)->Sat σ w ((g,cel [hY o.s,hY la.e] aF)::(p.at b::M++(cP lb bul num false it td::(IM++(cZ (items.map IT.db)++L)))))->
     Y (kE lb) (.iface ah (kT (kE b))) o.q items.length o.c g (kE i.nb) o.q items.length o.c (items.length:Int) (pre.length:Int) i.q i.D.length i.c (i.D.length:Int) (y.length:Int) w:=by
     intro U
     induction U with
     |nil=>
      intro y w E c4 h
      rw[lG0] at E
      refine d0 _ _ _ _ _ _ _ _ _ _ _ _ _ _ _ _ _ _ (af (by rw[E];simp) ?_)
      rw[aN (by omega)]
      exact h6 w (by rw[c4];rfl) h
     |cons d U c8=>
      intro y w E c4 h
      have m2:y.length<i.D.length:=by rw[<-E];simp
      have c5:d∈i.D:=by rw[<-E];simp
      have h7:=a7.len
      obtain⟨_,o3,q0,q3⟩:=c3 d c5
      refine d0 _ _ _ _ _ _ _ _ _ _ _ _ _ _ _ _ _ _ (ag (by simp;omega) ⟨by omega,by omega,?_⟩)
      refine f1.loadMem h g7 (j:=y.length) (v:=d.v) (by rw[<-E];simp) λq1 q8 l5=>?_
      simp only[lK0,lC0,lC1,lO0]
      refine⟨_,l5,?_⟩
      refine o3 σ _ _ w (h4 d c5) h λw h=>⟨_,_,rfl,aa ?_⟩
      refine⟨_,_,_,Sat.ld h (b7 _ (.head _)) (i:=2) rfl,?_⟩
      rw[b4,aN (by omega)]
      cases U with
      |nil=>
       refine af (by rw[<-E];simp) ?_
       have:=c8 (y++ [d]) w (by rw[<-E];simp) (by rw[c4];rfl) h
       rw[lA0,lE0] at this;exact this
      |cons c1 r1=>
       have p5:y.length+1<i.D.length:=by rw[<-E];simp
       have g5:c1∈i.D:=by rw[<-E];simp
       obtain⟨_,m6,p3,p4⟩:=c3 c1 g5
       refine ag (by simp;omega) (aa ?_)
       refine⟨_,_,_,Sat.ld h (b7 _ (.head _)) (i:=2) rfl,by omega,by rw[b4];omega,?_⟩
       refine f1.loadMem h g7 (j:=y.length+1) (v:=c1.v) (by rw[<-E];simp) λk0 n2 f5=>?_
       simp only[lK0,lC0,lC1,lO0]
       refine⟨_,f5,?_⟩
       refine m6 σ _ _ w (h4 c1 g5) h λw h=>⟨_,_,rfl,?_⟩
       rw[i64_in _ (by omega)]
       refine bp (λb9=>?_) λb9=>?_
       ·refine h5 w ?_ h
        have:decide ((pos d).2+1<(pos c1).1)=true:=by simp at b9⊢;omega
        rw[c4,DK,this];rfl
       ·have:=c8 (y++ [d]) w (by rw[<-E];simp) ?_ h
        ·rw[lA0,lE0] at this;exact this
        ·have:decide ((pos d).2+1<(pos c1).1)=false:=by simp at b9⊢;omega
         rw[c4,DK,this];rfl
    exact h9 i.D [] w rfl m4 h
   cases suf with
   |nil=>
    refine af (by rw[<-I];simp) ?_
    refine inner false w (by rw[b3];simp[mz]) (λw f4 h=>?_) h
    have:=d3 (pre++ [i]) w (by rw[<-I];simp) (by rw[f4];rfl) h
    rw[lA0,lE0] at this;exact this
   |cons a6 g2=>
    have i3:pre.length+1<items.length:=by rw[<-I];simp
    have i8:items[pre.length+1]=a6:=by simp[<-I]
    have g4:a6∈items:=by rw[<-I];simp
    obtain⟨i1,_⟩:=e5 a6 g4
    have q4:=a7.se
    have p1:=i1.se
    refine ag (by simp;omega) ?_
    refine Sat.tk h λw h=>⟨by omega,by omega,?_⟩
    refine c2.loadMem h (λx O=> .tail _ (e9 O)) (j:=pre.length+1) (v:=a6.v) (by rw[lF2,lI0 i3,i8];rfl) λk0 n2 f5=>?_
    simp only[lK0,lC0,lC1,lO0]
    refine aa ⟨_,f5,_,Sat.ld h (b7 _ (.head _)) (i:=1) rfl,?_⟩
    have h0:=h
    refine a6.posIs σ _ _ w (λx O=> .tail _ (f6 g4 x O)) h λw h=>⟨_,_,rfl,h0.same h (b7 _ (.head _)) (b7 _ (.head _)) 1,?_⟩
    rw[i64_in _ (by omega)]
    have h1:mz pos (i::a6::g2)=(decide (i.e+1<a6.s)||(DK pos i.D||mz pos (a6::g2))):=rfl
    refine bp (λb9=>?_) λb9=>?_
    ·refine h5 w ?_ h
     have:decide (i.e+1<a6.s)=true:=by simp at b9⊢;omega
     rw[b3,h1,this];rfl
    ·have n1:decide (i.e+1<a6.s)=false:=by simp at b9⊢;omega
     refine inner (mz pos (a6::g2)) w (by rw[b3,h1,n1];rfl) (λw f4 h=>?_) h
     have:=d3 (pre++ [i]) w (by rw[<-I];simp) f4 h
     rw[lA0,lE0] at this;exact this
 exact e7 items [] w rfl rfl h

def Ef (nb s e:Nat)(q:Option Addr)(n c:Nat):ai:=(nb,cel [hY s,hY e,hT q n c] zu)
def oC (nb s e:Nat)(q:Option Addr)(n c:Nat)(IM:List ai)(D:List DB):DB:=⟨.iface ki (kT (kE nb)),Ef nb s e q n c::(IM++cZ D),ci D⟩
def qy (nb s e:Nat)(bul num:Int)(lo:Bool)(q:Option Addr)(n c:Nat)(IM:List ai)(items:List IT):DB:=
 ⟨.iface dn (kT (kE nb)),tQ nb s e bul num lo q n c::(IM++cZ (items.map IT.db)),ci (items.map IT.db)⟩

structure Bk where
 ob:OB
 own:List ai
 D:List DB
 IM:List ai
def Bk.ok (f:Bk):Prop:=Sl 1 aO f.ob.q f.ob.n f.ob.c (f.D.map DB.v) f.IM/\f.D.length<100000/\f.ob.s<1000000000/\f.ob.e<1000000000
def txc (D:List DB):List ai:=(ci D).map TX.chunk
def Bk.mem (f:Bk):List ai:=f.IM++(f.own++(cZ f.D++txc f.D))
def aM (fs:List Bk):List ai:=fs.flatMap Bk.mem
def txF (fs:List Bk):List TX:=fs.flatMap λf=>ci f.D
theorem bh (a b:List Bk):aM (a++b)=aM a++aM b:=by simp[aM]
theorem dA (f:Bk):aM [f]=f.IM++(f.own++(cZ f.D++txc f.D)):=by simp[aM,Bk.mem]
theorem jT (f y:Bk):aM [f,y]=f.IM++(f.own++(cZ f.D++txc f.D))++(y.IM++(y.own++(cZ y.D++txc y.D))):=by simp[aM,Bk.mem]
theorem bE (a b:List Bk):txF (a++b)=txF a++txF b:=by simp[txF]
theorem dL (f:Bk):txF [f]=ci f.D:=by simp[txF]
theorem uV (f y:Bk):txF [f,y]=ci f.D++ci y.D:=by simp[txF]
theorem nX (D:List DB)(d:DB):txc (D++ [d])=txc D++d.txs.map TX.chunk:=by simp[txc,jQ]
def DocC (σ:Out)(b:Nat)(L:List ai)(fs:List Bk)(lf:Leaf)(p:PS)(w:World):Prop:=
 ∃M y g E,Stk p (fs.map Bk.ob++g) M/\Txts p ((txF fs).map TX.t) y/\(∀f∈fs,f.ok)/\DC lf g E/\Sat σ w (p.at b::M++(y++(aM fs++(E++L))))
def Bk.like (g f:Bk):Prop:=g.ob.bd=f.ob.bd/\g.ob.s=f.ob.s/\g.ob.e=f.ob.e/\g.own=f.own
theorem DocC.closed {b:Nat}{gs:List Bk}{par f:Bk}{p2:PS}{O y W:List ai}{U:Option Addr}{V:Nat}{d:DB}{I:List ai}(a7: ∀g∈gs++ [par,f],Bk.ok g)(b7:par.D.length<99999)(b4:Stk p2 (gs.map Bk.ob++ [{par.ob with q:=U,n:=par.ob.n+1,c:=V}]) O)(b3:Sl 1 aO U (par.ob.n+1) V (par.D.map DB.v++ [d.v]) y)(ht:Txts p2 ((txF (gs++ [par,f])).map TX.t) W)(a6:d.txs=ci f.D)(h:Sat σ w (p2.at b::O++(y++(W++(aM gs++(I++(cZ par.D++(txc par.D++(d.own++(txc f.D++L)))))))))):
 DocC σ b L (gs++ [⟨{par.ob with q:=U,n:=par.ob.n+1,c:=V},I,par.D++ [d],y⟩]) .none p2 w:=by
 refine⟨O,W,[],[],?_,?_,?_,⟨rfl,rfl⟩,?_⟩
 ·rw[lV0,lG0];exact b4
 ·have e:txF (gs++ [⟨{par.ob with q:=U,n:=par.ob.n+1,c:=V},I,par.D++ [d],y⟩])=txF (gs++ [par,f]):=by
   rw[bE,bE,dL,uV,jQ,a6]
  rw[e];exact ht
 ·intro g E
  rcases lP0.1 E with E|E
  ·exact a7 g (by simp[E])
  ·obtain rfl:=lN0.1 E
   obtain⟨_,b6,b5⟩:=a7 par (by simp)
   exact⟨by rw[lV0];exact b3,by simp;omega,b5⟩
 ·rw[bh,dA,lR,nX,a6]
  show Sat σ w (p2.at b::O++(W++(aM gs++(y++(I++((cZ par.D++d.own)++(txc par.D++txc f.D))))++([]++L))))
  exact h.re
theorem pA {b:Nat}{g:Option Addr}{p:PS}{ob:List OB}{o:OB}{M:List ai}(h:Sat σ w (p.at b::M++L))(hs:Stk p (ob++ [o]) M)(y: ∀w nb,Sat σ w (p.at b::M++(Ef nb o.s o.e o.q o.n o.c::L))->R (hQ (.iface ki (kT (kE nb)))) w):
 callE P ia #[kT g,.iface ah (kT (kE b))] R w:=by
 refine im.sound ?_
 refine bm n8 ?_
 refine uk h hs λw h=>⟨_,_,rfl,?_⟩
 refine bm kC ?_
 refine nQ h hs λw h=>⟨_,_,_,rfl,?_⟩
 refine Sat.bx h λnb w h=>y w nb ?_
 have h:Sat σ w (Ef nb o.s o.e o.q o.n o.c::(p.at b::M++L)):=h
 exact h.re
theorem rt {b ib lb wd:Nat}{hv:Bool}{bul num:Int}{lo:Bool}{it:Option Addr}{td:Value}{p:PS}{ob:List OB}{o:OB}{M:List ai}(h:Sat σ w (p.at b::M++(gt ib lb wd hv::cP lb bul num lo it td::L)))(hs:Stk p (ob++ [o]) M)(y: ∀w nb,Sat σ w (p.at b::M++((nb,cel [hY o.s,hY o.e,hT o.q o.n o.c,hY wd] m9)::cP lb bul num lo none td::L))->R (hQ (.iface fU (kT (kE nb)))) w):
 callE P iS #[kT (kE ib),.iface ah (kT (kE b))] R w:=by
 refine i6.sound ?_
 have h:Sat σ w (cP lb bul num lo it td::gt ib lb wd hv::(p.at b::M++L)):=h.re
 refine aa ⟨_,Sat.ld h (.tail _ (.head _)) (i:=0) rfl,aa ?_⟩
 refine h.stA 0 λw h=>?_
 have h:Sat σ w (cP lb bul num lo none td::gt ib lb wd hv::(p.at b::M++L)):=h
 refine Sat.tk h λw h=>aa ⟨_,Sat.ld h (.tail _ (.head _)) (i:=1) rfl,?_⟩
 have h0:=h
 have h:Sat σ w (p.at b::M++(cP lb bul num lo none td::gt ib lb wd hv::L)):=h.re
 have g:gt ib lb wd hv∈p.at b::M++(cP lb bul num lo none td::gt ib lb wd hv::L):=by simp
 refine bm n8 ?_
 refine uk h hs λw h=>⟨_,_,rfl,h0.same h (.tail _ (.head _)) g 1,?_⟩
 have E:=h
 refine bm kC ?_
 refine nQ h hs λw h=>⟨_,_,_,rfl,E.same h g g 1,?_⟩
 refine Sat.bx h λnb w h=>y w nb ?_
 have h:Sat σ w ((nb,cel [hY o.s,hY o.e,hT o.q o.n o.c,hY wd] m9)::(p.at b::M++(cP lb bul num lo none td::gt ib lb wd hv::L))):=h
 exact h.less [gt ib lb wd hv]
def Bk.isQuote (f:Bk):Prop:= ∃g,f.ob.bd=quoV g/\f.own= [F6 g]
def Bk.isItem (f:Bk)(lb wd:Nat)(hv:Bool):Prop:= ∃ib,f.ob.bd=DJ ib/\f.own= [gt ib lb wd hv]
def ItemOf (it:Option Addr)(f:Bk)(lb wd:Nat)(hv:Bool):Prop:= ∃ib,it=kE ib/\f.ob.bd=DJ ib/\f.own= [gt ib lb wd hv]
theorem ItemOf.item {it:Option Addr}{f:Bk}{lb wd:Nat}{hv:Bool}(h:ItemOf it f lb wd hv):f.isItem lb wd hv:=⟨h.choose,h.choose_spec.2⟩
def Bk.isListT (f:Bk)(lb:Nat)(bul num:Int)(it:Option Addr)(td:Value):Prop:=f.ob.bd=Cv lb/\f.own= [cP lb bul num false it td]
abbrev Bk.isList (f:Bk)(lb:Nat)(bul num:Int)(it:Option Addr):Prop:=f.isListT lb bul num it .nilFunc
theorem zh {b:Nat}{gs:List Bk}{par f:Bk}{p:PS}(h:DocC σ b L (gs++ [par,f]) .none p w)(b8:f.isQuote)(b3:par.D.length<99999)(b4: ∀w g nb x,g.like par->g.D=par.D++ [oC nb f.ob.s f.ob.e f.ob.q f.ob.n f.ob.c f.IM f.D]->DocC σ b L (gs++ [g]) .none {p with stn:=gs.length+1} w->R (hQ x) w):
 callE P aI #[kT (kE b)] R w:=by
 obtain⟨M,b5,b9,c3,hs,ht,E,⟨rfl,rfl⟩,h⟩:=h
 obtain⟨U,O,V⟩:=b8
 have hs:Stk p (gs.map Bk.ob++ [par.ob]++ [f.ob]) M:=by simpa using hs
 have y:=(E par (by simp)).1
 have c1:par.ob.n=par.D.length:=by have:=y.1;simp at this;omega
 rw[bh,jT,V] at h
 refine jc h hs O λw h=>?_
 rw[O]
 refine bm nr ?_
 refine pA h hs λw nb h=>⟨_,rfl,none,false,w,kj (by decide) w,af rfl ?_⟩
 have h:Sat σ w (p.at b::M++(par.IM++(b5++(aM gs++(par.own++(cZ par.D++(txc par.D++((Ef nb f.ob.s f.ob.e f.ob.q f.ob.n f.ob.c::(f.IM++cZ f.D))++(txc f.D++(F6 U::L)))))))))):=h.re
 refine l9 h hs y (by omega) λw p2 c2 a6 b6 b7 W I a7 h=>?_
 have e:p2= {p with stn:=gs.length+1}:=by rw[W,lS0]
 rw[e] at I h
 refine b4 w ⟨{par.ob with q:=b6,n:=par.ob.n+1,c:=b7},par.own,par.D++ [oC nb f.ob.s f.ob.e f.ob.q f.ob.n f.ob.c f.IM f.D],a6⟩ nb _ ⟨rfl,rfl,rfl,rfl⟩ rfl (DocC.closed (par:=par) (f:=f) (d:=oC nb f.ob.s f.ob.e f.ob.q f.ob.n f.ob.c f.IM f.D) E b3 I a7 (ht.of rfl rfl rfl) rfl ?_)
 exact h.less [F6 U] (by intro _;simp only[oC,lN3,dH,eW,mF]<;>omega)
theorem uI {b lb wd:Nat}{hv:Bool}{bul num:Int}{it:Option Addr}{td:Value}{gs:List Bk}{par f:Bk}{p:PS}(h:DocC σ b L (gs++ [par,f]) .none p w)(c2:f.isItem lb wd hv)(c3:par.isListT lb bul num it td)(b7:par.D.length<99999)(b8: ∀w g nb x,g.isListT lb bul num none td->g.ob.s=par.ob.s->g.ob.e=par.ob.e->g.D=par.D++ [(IT.mk nb f.ob.s f.ob.e f.ob.q f.ob.n f.ob.c wd f.IM f.D).db]->(IT.mk nb f.ob.s f.ob.e f.ob.q f.ob.n f.ob.c wd f.IM f.D).ok->DocC σ b L (gs++ [g]) .none {p with stn:=gs.length+1} w->R (hQ x) w):
 callE P aI #[kT (kE b)] R w:=by
 obtain⟨M,E,c5,d0,hs,ht,y,⟨rfl,rfl⟩,h⟩:=h
 obtain⟨ib,U,W⟩:=c2
 obtain⟨b3,V⟩:=c3
 have hs:Stk p (gs.map Bk.ob++ [par.ob]++ [f.ob]) M:=by simpa using hs
 have I:=(y par (by simp)).1
 obtain⟨a6,c4,a7⟩:=y f (by simp)
 have c8:par.ob.n=par.D.length:=by have:=I.1;simp at this;omega
 rw[bh,jT,W,V] at h
 refine jc h hs U λw h=>?_
 rw[U]
 have h:Sat σ w (p.at b::M++(gt ib lb wd hv::cP lb bul num false it td::(par.IM++(E++(aM gs++(cZ par.D++(txc par.D++(f.IM++(cZ f.D++(txc f.D++L)))))))))):=h.re
 refine bm oO ?_
 refine rt h hs λw nb h=>⟨_,rfl,none,false,w,kj (by decide) w,af rfl ?_⟩
 have h:Sat σ w (p.at b::M++(par.IM++(E++(aM gs++([cP lb bul num false none td]++(cZ par.D++(txc par.D++(((IT.mk nb f.ob.s f.ob.e f.ob.q f.ob.n f.ob.c wd f.IM f.D).chunk::(f.IM++cZ f.D))++(txc f.D++L))))))))):=by
  have h:Sat σ w (p.at b::M++((IT.mk nb f.ob.s f.ob.e f.ob.q f.ob.n f.ob.c wd f.IM f.D).chunk::cP lb bul num false none td::(par.IM++(E++(aM gs++(cZ par.D++(txc par.D++(f.IM++(cZ f.D++(txc f.D++L)))))))))):=h
  exact h.re
 refine l9 h hs I (by omega) λw p2 c9 b5 b9 c1 b4 O b6 h=>?_
 have e:p2= {p with stn:=gs.length+1}:=by rw[b4,lS0]
 rw[e] at O h
 refine b8 w ⟨{par.ob with q:=b9,n:=par.ob.n+1,c:=c1},[cP lb bul num false none td],par.D++ [(IT.mk nb f.ob.s f.ob.e f.ob.q f.ob.n f.ob.c wd f.IM f.D).db],b5⟩ nb _ ⟨b3,rfl⟩ rfl rfl rfl ⟨a6,by show f.D.length<1000000;omega,a7⟩ (DocC.closed (par:=par) (f:=f) (d:=(IT.mk nb f.ob.s f.ob.e f.ob.q f.ob.n f.ob.c wd f.IM f.D).db) y b7 O b6 (ht.of rfl rfl rfl) rfl ?_)
 exact h

theorem DB.kindOK.ifc {d:DB}(h:d.kindOK):d.ifc/\(dw d).ifc:=by
 rcases h with ⟨nb,t,s,e,raw,rfl⟩|⟨ty,q,h,ht⟩
 ·rw[kW]
  exact⟨⟨_,_,rfl⟩,⟨_,_,rfl⟩⟩
 ·rw[eh h ht]
  exact⟨⟨_,_,h⟩,⟨_,_,h⟩⟩
theorem Ret.facts {y g:List IT}(h:Ret y g)(U: ∀i∈y,∀d∈i.D,d.kindOK):ci (g.map IT.db)=ci (y.map IT.db)/\ ∀i∈g,i.ok/\ ∀d∈i.D,d.ifc:=by
 induction h with
 |nil=>exact⟨rfl,by simp⟩
 | @cons i i' y g h1 h2 _ ih=>
  obtain⟨a6,a7⟩:=ih λj E=>U j (lR1 _ E)
  have I:=U i (by simp)
  have O:i'.D=i.D.map dw:=by rw[h1]
  refine⟨?_,λj E=>?_⟩
  ·show ci i'.D++ci (g.map IT.db)=ci i.D++ci (y.map IT.db)
   rw[a6,O,(qx I).2]
  ·rcases lW0.1 E with rfl|E
   ·refine⟨h2,λd hd=>?_⟩
    rw[O] at hd
    obtain⟨W,V,rfl⟩:=lU1.1 hd
    exact(I W V).ifc.2
   ·exact a7 j E
def Tgh (lo:Bool)(items g:List IT):Prop:=lo=true/\g=items\/lo=false/\Ret items g
theorem A6 {b lb pb:Nat}{op:Opt}{bul num:Int}{it:Option Addr}{gs:List Bk}{par f:Bk}{p:PS}{items:List IT}{pos:DB->Nat × Nat}(h:DocC σ b L (gs++ [par,f]) .none p w)(e6:f.isList lb bul num it)(E:f.D=items.map IT.db)(d1:items≠ [])(O: ∀i∈items,i.ok/\ ∀d∈i.D,d.kindOK/\d.posIs (pos d).1 (pos d).2/\(pos d).1<1000000000/\(pos d).2<2000000000)(c4:p.pz=kE pb)(c8:op.at pb∈L)(b9:op.task=false)(e1:par.D.length<99999)(e3: ∀w (p':PS) V nb e g x,p'.base=p.base->p'.depth=p.depth->p'.lineno=p.lineno->p'.stn=gs.length+1->V.like par->Tgh (mz pos items) items g->((∃i∈items,e=i.e)/\items.getLast?.map IT.e=some e)->V.D=par.D++ [qy nb f.ob.s e bul num (mz pos items) f.ob.q f.ob.n f.ob.c f.IM g]->
  DocC σ b L (gs++ [V]) .none p' w->R (hQ x) w):
 callE P aI #[kT (kE b)] R w:=by
 obtain⟨M,a7,e8,f2,hs,ht,W,⟨rfl,rfl⟩,h⟩:=h
 obtain⟨b7,c2⟩:=e6
 have hs:Stk p (gs.map Bk.ob++ [par.ob]++ [f.ob]) M:=by simpa using hs
 have b4:=(W par (by simp)).1
 obtain⟨U,b5,c3⟩:=W f (by simp)
 have f0:par.ob.n=par.D.length:=by have:=b4.1;simp at this;omega
 have d2:f.D.map DB.v=items.map IT.v:=by rw[E];simp[Function.comp_def,IT.db]
 rw[d2] at U
 have e9:items.length<100000:=by rw[E] at b5;simpa using b5
 have e7:txc f.D=(ci (items.map IT.db)).map TX.chunk:=by rw[E];rfl
 rw[bh,jT,c2,E] at h
 refine jc h hs b7 λw h=>?_
 rw[b7]
 have h:Sat σ w (p.at b::M++(cP lb bul num false it .nilFunc::(f.IM++(cZ (items.map IT.db)++(par.IM++(a7++(aM gs++(par.own++(cZ par.D++(txc par.D++(txc (items.map IT.db)++L))))))))))):=h.re
 refine bm oN ?_
 refine rr (pos:=pos) h hs U d1 (by omega) c3.1 O λw nb e g a6 d3 h=>⟨_,rfl,kE nb,true,w,oL (by rw[mV];intro f3 h;cases h) mV w,ag rfl (aa ?_)⟩
 have b8:g.map IT.v=items.map IT.v:=by
  rcases a6 with ⟨_,rfl⟩|⟨_,hr⟩
  ·rfl
  ·exact hr.vs
 have b3:ci (g.map IT.db)=ci (items.map IT.db)/\ ∀i∈g,i.ok/\ ∀d∈i.D,d.ifc:=by
  rcases a6 with ⟨_,rfl⟩|⟨_,hr⟩
  ·exact⟨rfl,λi hi=>⟨(O i hi).1,λd hd=>((O i hi).2 d hd).1.ifc.1⟩⟩
  ·exact hr.facts λi hi d hd=>((O i hi).2 d hd).1
 have c1:g.length<1000000:=by have:=congrArg List.length b8;simp at this;omega
 have k2: ∀(y:Bool) w,Sat σ w (({p with corner:=y}:PS).at b::M++(tQ nb f.ob.s e bul num (mz pos items) f.ob.q f.ob.n f.ob.c::(f.IM++(cZ (g.map IT.db)++(par.IM++(a7++(aM gs++(par.own++(cZ par.D++(txc par.D++(txc (items.map IT.db)++L)))))))))))->
  aK.k2 R (kE b) (.iface dn (kT (kE nb))) (kE nb) w:=by
  intro y w h
  refine aa ⟨_,Sat.ld h (.head _) (i:=0) rfl,?_⟩
  rw[c4]
  refine aa ⟨_,Sat.ld h (by simp[c8]:op.at pb∈_) rfl,af b9 ?_⟩
  have h:Sat σ w (({p with corner:=y}:PS).at b::M++(par.IM++(a7++(aM gs++(par.own++(cZ par.D++(txc par.D++((tQ nb f.ob.s e bul num (mz pos items) f.ob.q f.ob.n f.ob.c::(f.IM++cZ (g.map IT.db)))++(txc f.D++L))))))))):=by
   rw[E]
   exact h.re
  refine l9 h (hs.of rfl rfl rfl) b4 (by omega) λw p2 f1 c9 e4 e5 c5 b6 d0 h=>?_
  have e0:p2= {p with corner:=y,stn:=gs.length+1}:=by rw[c5,lS0]
  rw[e0] at b6 h
  refine e3 w {p with corner:=y,stn:=gs.length+1} ⟨{par.ob with q:=e4,n:=par.ob.n+1,c:=e5},par.own,par.D++ [qy nb f.ob.s e bul num (mz pos items) f.ob.q f.ob.n f.ob.c f.IM g],c9⟩ nb e g _ rfl rfl rfl rfl ⟨rfl,rfl,rfl,rfl⟩ a6 d3 rfl
   (DocC.closed (par:=par) (f:=f) (d:=qy nb f.ob.s e bul num (mz pos items) f.ob.q f.ob.n f.ob.c f.IM g) W e1 b6 d0 (ht.of rfl rfl rfl) ?_ ?_)
  ·rw[E];exact b3.1
  ·exact h
 refine⟨_,Sat.ld h (.head _) (i:=6) rfl,bp (λ_=>aa ?_) λ_=>?_⟩
 ·refine Sat.st h (k:=0) rfl (by simp[PS.cells]) trivial rfl λw h=>?_
  exact k2 true w h
 ·refine pI (nb:=nb) (s:=f.ob.s) (e:=e) (bul:=bul) (num:=num) (loose:=mz pos items) (items:=g) (b8▸U) b3.2 c1 h (λx I=>?_) λy=>⟨_,rfl,aa ?_⟩
  ·rcases lW0.1 I with rfl|I
   ·simp
   ·rcases lP0.1 I with I|I<;>simp[I]
  ·refine Sat.st h (k:=0) rfl (by simp[PS.cells]) trivial rfl λw h=>?_
   exact k2 y w h
end Go.Proofs.YtendaipfdnhnaaaGreatDoor
