/- Part 3 of the proof of the law FnWrapped: for every input the law returns true, the inputs read as they did, and memory that was there is as it was; under the conditions of the given row alone. -/
import Derived.Laws.StructEq
import Derived.Test.YtendaipfdnhnaaaGreatDoorA2
set_option linter.all false
open Go.IntKind(i64)
open ByteArray renaming mk→hP
open List renaming replicate→hN
namespace Go.Proofs.YtendaipfdnhnaaaGreatDoor
open Go.Proofs Go.IntWalk Go.RowKit
set_option maxRecDepth 20000
variable {σ:Out} {w:World} {L L':List ai} {R:Ending->World->Prop} {G:List UInt8->List Inl} {op:Opt}

def PS.core (p:PS):PS:= {p with em:=0,lq:=none,ln:=0,lc:=0,corner:=false,bt:= .z}
def PS.core2 (p:PS):PS:= {p with corner:=false,bt:= .z}
theorem PS.core_of2 {p p':PS}(h:p'.core2=p.core2):p'.core=p.core:=by
 have:=congrArg PS.core h
 simpa[PS.core,PS.core2] using this
def IIn (σ:Out)(b:Nat)(p:PS)(ts:List Inl)(opens:List Nat)(I:Option Addr)(y E:Nat)(L:List ai)(w:World):Prop:=
 ∃vs RM EM g,Sl 1 aD p.lq p.ln p.lc vs RM/\InlsAt ts vs EM/\Sl 1 ba I y E (opens.map λ(n:Nat)=>hY n) g/\ts.length<1073741824/\Sat σ w (p.at b::(RM++(EM++(g++L))))
def sub (s:List UInt8)(i j:Nat):List UInt8:=(s.take j).drop i
def lh (s:List UInt8)(em i:Nat)(ts:List Inl):List Inl:=if em<i then ts++ [.plain (sub s em i)] else ts
theorem Az {b e i:Nat}{p:PS}{ts:List Inl}{opens:List Nat}{b3:Option Addr}{O a7:Nat}(h:IIn σ b p ts opens b3 O a7 L w)(I:p.em=e)(b6:i<=p.s.length)(b8:ts.length<1073741823)(W: ∀w p',p'.core=p.core->p'.bt=p.bt->p'.em=((max e i:Nat):Int)->IIn σ b p' (lh p.s e i ts) opens b3 O a7 L w->R (hQ (.tuple #[])) w):
 callE P dv #[kT (kE b),hY i] R w:=by
 obtain⟨vs,RM,EM,g,a6,E,U,b4,h⟩:=h;have b7:=E.length
 by_cases hi:e<i
 ·have h:Sat σ w (p.at b::RM++(EM++(g++L))):=h
  refine DG (L:=EM++(g++L)) h ⟨a6,by omega⟩ I hi b6 (by omega) λw p' V nb y b5 h=>?_
  refine W w p' (by rw[y];rfl) (by rw[y]) (by rw[y];show ((i:Nat):Int)=_;congr 1;omega) ⟨_,V,EM++ [rJ nb (sub p.s e i)],g,b5.1,?_,U,?_,?_⟩
  ·unfold lh;rw[if_pos hi];exact E.append (InlsAt.one ⟨nb,[],_,rfl,rfl⟩)
  ·unfold lh;rw[if_pos hi];simp;omega
  ·have h:Sat σ w (p'.at b::V++(rJ nb (sub p.s e i)::(EM++(g++L)))):=h
   exact h.re
 ·refine DH h (by rw[I];omega) λw h=>?_
  refine W w p rfl rfl (by rw[I];congr 1;omega) ⟨vs,RM,EM,g,a6,?_,U,?_,h⟩
  ·unfold lh;rw[if_neg hi];exact E
  ·unfold lh;rw[if_neg hi];exact b4
def qD (b:Nat)(p:PS)(s:List UInt8)(i:Nat)(I:Value)(L0:List ai)(E:Option (Inl × Nat × Nat))(Q:PS->Prop):Prop:=
 ∀(σ:Out) (R:Ending->World->Prop) (L:List ai) (w:World),(∀c∈L0,c∈L)->Sat σ w (p.at b::L)->
  (match E with
   |none=> ∀w p' v x O,p'.core2=p.core2->Q p'->Sat σ w (p'.at b::L)->R (hQ (.tuple #[v,hY x,hY O,hV false])) w
   |some (t,st,en)=> ∀w p' v g,p'.core2=p.core2->Q p'->InlAt t v g->Sat σ w (p'.at b::(g++L))->R (hQ (.tuple #[v,hY st,hY en,hV true])) w)->
  de P (do let d <-Deferred.ofValue I #[kT (kE b),hX (bs s),hY i];invoke d.target d.args) R w
def vW (P:Program)(t:TypeId):Bool:=match P.underlying t with|some (.func _ _ _)=>true|_=>false
theorem oF {P:Program}{t:TypeId}(h:vW P t=true): ∃y rs g,P.underlying t=some (.func y rs g):=by
 unfold vW at h;split at h
 ·rename_i a b c hd;exact⟨_,_,_,hd⟩
 ·cases h
theorem FF:vW P aX=true:=by kernel_rfl
theorem HV {x I:Operand}(k:FuncId)(f E:Array Value)(w:World):
 (do eqGuard .neq aX x I (.func (.func k) f E) .nilFunc;binOp .neq aX (.func (.func k) f E) .nilFunc).run P w= .ok (hV true) w:=by
 obtain⟨_,_,_,h⟩:=oF FF;exact nE h k f E w
theorem HU {x g:Operand}(w:World):
 (do eqGuard .neq aX x g .nilFunc .nilFunc;binOp .neq aX .nilFunc .nilFunc).run P w= .ok (hV false) w:=by
 obtain⟨_,_,_,h⟩:=oF FF;exact zm h w
def Inl.isOpen:Inl->Bool
 | .openP _ _=>true
 |_=>false
theorem Inl.ty_open {t:Inl}(h:t.isOpen=false):t.ty≠aQ:=by
 cases t<;>simp only[Inl.isOpen,reduceCtorEq] at h<;>(simp only[Inl.ty];decide)
noncomputable def rowInt:Row P cA ba 1 8:=
 ⟨(P.info? ba).getD default,((P.info? ba).bind (·.zero)).getD default,by kernel_rfl,by kernel_rfl,by kernel_rfl,by kernel_rfl,by kernel_rfl,by kernel_rfl,by decide⟩
theorem fillN (n:Nat):Instr.fill (λi=>some (i*1,1)) ((Array.range (1*1)).map (rowInt.z.cells[· %rowInt.z.cells.size]!)) [(0,hY n)]=some #[hY n]:=by kernel_rfl
theorem Ar {X:XI}{b i e st en:Nat}{p:PS}{ts:List Inl}{opens:List Nat}{g:Option Addr}{y E:Nat}{lo:Int}{c1:Bool}{f:FuncId}{c2 b8:Array Value}{t:Inl}{L0:List ai}{Q:PS->Prop}(h:IIn σ b p ts opens g y E L w)(g0: ∀c∈L0,c∈L)(g4:qD b p p.s i (.func (.func f) c2 b8) L0 (some (t,st,en)) Q)(g2:p.em=e)(f4:st<=p.s.length)(hs:p.s.length<1000000000)(h8:ts.length<1000000000)(h6:opens.length<1000000000)(h3: ∀w p' g y E,p'.core=p.core->p'.em=(en:Int)->(∃c8,Q c8/\p'.bt=c8.bt)->IIn σ b p' (lh p.s e st ts++ [t]) (if t.isOpen then opens++ [(lh p.s e st ts).length] else opens) g y E L w->X (kE b) (bs p.s) g y E lo c1 en w):
 av.k1 R X (kE b) (bs p.s) g y E lo c1 i (.func (.func f) c2 b8) w:=by
 refine⟨_,_,HV f c2 b8 w,ag rfl ?_⟩;obtain⟨vs,RM,EM,I,V,O,a7,b5,h⟩:=h;have e7: ∀c∈L0,c∈RM++(EM++(I++L)):=λc hc=>lB0 _ (lB0 _ (lB0 _ (g0 c hc)))
 refine g4 σ _ (RM++(EM++(I++L))) w e7 h λw U v g6 W e8 ht h=>⟨_,_,_,_,rfl,ag rfl ?_⟩
 have f5:=PS.core_of2 W;have g7:U.lq=p.lq:=by have:=congrArg PS.lq W;exact this
 have h4:U.ln=p.ln:=by have:=congrArg PS.ln W;exact this
 have h1:U.lc=p.lc:=by have:=congrArg PS.lc W;exact this
 have d1:U.s=p.s:=by have:=congrArg PS.s W;exact this
 have g3:U.em=e:=by have:=congrArg PS.em W;rw[<-g2];exact this
 have f7:IIn σ b U ts opens g y E (g6++L) w:=⟨vs,RM,EM,I,by rw[g7,h4,h1];exact V,O,a7,b5,h.re⟩;refine Az f7 g3 (by rw[d1];exact f4) (by omega) λw p2 e0 e6 h5 c3=>⟨rfl,?_⟩
 rw[d1] at c3;obtain⟨pb,cs,b3,a6,rfl,rfl⟩:=ht.ptr;have d0:p2.core=p.core:=e0.trans f5;have h7:p2.s=p.s:=by have:=congrArg PS.s d0;exact this
 have d3:(lh p.s e st ts).length<=ts.length+1:=by unfold lh;split<;>simp
 have fin: ∀w g y E b7,b7=(if t.isOpen then opens++ [(lh p.s e st ts).length] else opens)->IIn σ b p2 (lh p.s e st ts) b7 g y E (((pb,cel cs b3)::a6)++L) w->
  av.k4 R X (kE b) (bs p.s) g y E lo c1 (iu t.ty pb) en w:=by
  intro w g y E b7 g5 h;obtain⟨vs,RM,EM,I,V,O,a7,b5,h⟩:=h;have g1:=O.length;have e9:=V.1;refine aa ?_;refine⟨_,_,_,h.ldA,?_⟩;have h:Sat σ w (RM++(p2.at b::(EM++(I++(((pb,cel cs b3)::a6)++L))))):=h.re
  refine Sat.app1 rowInl V h (v:=iu t.ty pb) rfl (by simp[iu,Value.cells,Value.oneCell']) (Bs _ _) (by omega) (by omega) (by decide) λc5 b9 c4 b4 f2 h=>?_
  have h:Sat σ c4 (p2.at b::(b4++(EM++(I++(((pb,cel cs b3)::a6)++L))))):=h.re
  refine aa ?_;refine h.stA 0 λw h=>?_
  let d2:PS:= {p2 with lq:=c5,ln:=p2.ln+1,lc:=b9}
  have h:Sat σ w (d2.at b::(b4++(EM++(I++(((pb,cel cs b3)::a6)++L))))):=h
  refine wY h λw h=>⟨rfl,?_⟩
  refine h3 w {d2 with em:=en} g y E (by rw[<-d0];rfl) rfl ⟨U,e8,e6⟩ ⟨_,b4,EM++((pb,cel cs b3)::a6),I,f2,?_,by rw[<-g5];exact a7,by simp;omega,h.re⟩;exact O.append (InlsAt.one ht)
 cases b6:t.isOpen with
 |false=>
  refine⟨_,_,w,qJ (Inl.ty_open b6) w,af rfl ?_⟩;exact fin w g y E opens (by rw[b6];rfl) c3
 |true=>
  have f3:t.ty=aQ:=by cases t<;>simp only[Inl.isOpen,reduceCtorEq] at b6;rfl
  have f0:(Instr.typeAssert (iu t.ty pb) aD aQ true).run P w= .ok (.tuple #[kT (kE pb),hV true]) w:=by
   rw[f3];exact pm w
  refine⟨_,_,w,f0,ag rfl ?_⟩;obtain⟨vs,RM,EM,I,V,O,a7,b5,h⟩:=c3;have g1:=O.length;have e9:=V.1;have f6:=a7.1;rw[lQ0] at f6;refine aa ?_;refine⟨_,_,_,h.ldA,?_⟩;have h:Sat σ w (I++(p2.at b::(RM++(EM++(((pb,cel cs b3)::a6)++L))))):=h.re
  have c9:p2.ln=(lh p.s e st ts).length:=by omega
  rw[c9];generalize h9:(lh p.s e st ts).length=m at fin d3 c9⊢;refine Sat.app1 rowInt a7 h (v:= hY (m:Nat)) rfl (by simp[Value.cells,Value.oneCell']) (fillN m) (by omega) (by omega) (by decide) λc5 b9 c4 b4 f1 h=>?_
  refine fin c4 c5 _ b9 _ (by rw[b6]<;>rfl) ⟨vs,RM,EM,b4,V,O,?_,b5,h.re⟩;rw[if_pos rfl,lV0];exact f1
theorem HZ {X:XI}{b i:Nat}{s:List UInt8}{I:Option Addr}{g E:Nat}{lo:Int}{y:Bool}(hi:i<s.length)(hs:s.length<4611686018427387904)(hc:s[i]≠93\/g=0)(O:X (kE b) (bs s) I g E lo y ((i+1:Nat):Int) w):av.k5 R X (kE b) (bs s) I g E lo y i w:=by
 refine⟨by omega,by simp;omega,?_⟩;refine af ?_ ?_
 ·rw[dh hi 93 93 rfl];rcases hc with hc|hc
  ·simp[hc]
  ·simp[hc]
 ·rw[aL (by omega)];exact O
theorem Aq {X:XI}{b i:Nat}{s:List UInt8}{I:Option Addr}{g E:Nat}{lo:Int}{y:Bool}(O:av.k5 R X (kE b) (bs s) I g E lo y i w):
 av.k1 R X (kE b) (bs s) I g E lo y i .nilFunc w:=
 ⟨_,_,HU w,af rfl O⟩

def AP (ts ts':List Inl):Prop:=
 ∀(σ:Out) (R:Ending->World->Prop) (V q:Option Addr) (n c:Nat) vs RM EM L w,Sl 1 aD q n c vs RM->InlsAt ts vs EM->n<1073741823->Sat σ w (RM++(EM++L))->
  (∀w U g O E I y,Sl 1 aD U g O E I->g<=n->InlsAt ts' E y->Sat σ w (I++(y++L))->R (hQ (hT U g O)) w)->
  callE P fE #[kT V,hT q 0 c,hT q n c] R w
theorem BK {b pb:Nat}{p:PS}{o:Opt}{q:Option Addr}{n c:Nat}(y:p.pz=kE pb)(O:p.at b∈L)(E:o.at pb∈L)(g:o.auto=false)(h:Sat σ w L)(I:R (hQ (hT q n c)) w):
 callE P dY #[kT (kE b),hT q n c] R w:=by
 refine fj.sound ?_;refine aa ⟨kE pb,by rw[<-y];exact Sat.ld h O rfl,aa ?_⟩;simp only[lL0,lO0];exact⟨o.auto,Sat.ld h E rfl,ag (by rw[g];rfl) I⟩
def Gd (o:Opt)(ts ts':List Inl):Prop:=
 ∀(σ:Out) (R:Ending->World->Prop) (b pb:Nat) (p:PS) (q:Option Addr) (n c:Nat) (vs:List Value) (RM EM L:List ai) (w:World),p.pz=kE pb->p.at b∈L->o.at pb∈L->Sl 1 aD q n c vs RM->n<1073741824->InlsAt ts vs EM->Sat σ w (RM++(EM++L))->
  (∀w U g O E I y,Sl 1 aD U g O E I->g<1073741824->InlsAt ts' E y->Sat σ w (I++(y++L))->R (hQ (hT U g O)) w)->
  callE P dY #[kT (kE b),hT q n c] R w
theorem BL {o:Opt}{ts:List Inl}(g:o.auto=false):Gd o ts ts:=λσ R b pb p q n c vs RM EM L w y W E V I U h O=>
 BK y (lB0 _ (lB0 _ W)) (lB0 _ (lB0 _ E)) g h (O w q n c vs RM EM V I U h)
theorem E4 {X:XI}{b pb e:Nat}{p:PS}{o:Opt}{ts ts' ts2:List Inl}{opens:List Nat}{b9:Option Addr}{c2 c9:Nat}{lo:Int}{f3:Bool}(h:IIn σ b p ts opens b9 c2 c9 L w)(f0:p.em=e)(hs:p.s.length<1000000000)(g6:ts.length<1000000000)(e3:p.pz=kE pb)(f2:o.at pb∈L)(e9:AP (lh p.s e p.s.length ts) ts')(d1: ∀t∈ts',∀s,t.plain? =some s->s≠ [])(hb:sk ts'<1073741824)(f1:Gd o (lD ts') ts2)(f4: ∀w (p':PS) q n c vs RM EM,p'.core=p.core->Sl 1 aD q n c vs RM->n<1073741824->InlsAt ts2 vs EM->Sat σ w (p'.at b::(RM++(EM++L)))->R (hQ (hT q n c)) w):
 av.bl1 R X (kE b) (bs p.s) b9 c2 c9 lo f3 (p.s.length:Nat) w:=by
 have f6:(lh p.s e p.s.length ts).length<=ts.length+1:=by unfold lh;split<;>simp
 refine af (by simp) ?_;rw[aF];refine Az h f0 (lE1 _) (by omega) λw y b5 _ _ h=>⟨rfl,?_⟩
 obtain⟨vs,RM,EM,g,b3,c8,g5,f5,h⟩:=h;have g4:=c8.length;have g0:=b3.1;have g2:=b3.2.1;have e8:y.pz=p.pz:=by have:=congrArg PS.pz b5;exact this
 refine h.tk λw h=>?_
 refine aa (aa ?_);refine⟨_,_,_,h.ldA,?_⟩;refine⟨_,_,_,λw=>rE rowInl.ht rowInl.hi _ _ _ 0 (by omega) w,?_⟩;refine⟨_,_,_,h.ldA,?_⟩;have h:Sat σ w (RM++(EM++(y.at b::(g++L)))):=h.re
 refine e9 σ _ _ y.lq y.ln y.lc vs RM EM _ w b3 c8 (by omega) h λw b4 b8 a7 g3 V U e4 g1 d3 h=>⟨_,_,_,rfl,aa ?_⟩
 have h:Sat σ w (y.at b::(V++(U++(g++L)))):=h.re
 refine h.stA 0 λw h=>?_
 let p2:PS:= {y with lq:=b4,ln:=b8,lc:=a7}
 have h:Sat σ w (p2.at b::(V++(U++(g++L)))):=h
 refine aa ?_;refine⟨_,_,_,h.ldA,?_⟩;have h:Sat σ w (V++(U++(p2.at b::(g++L)))):=h.re
 refine vP (n:=b8) e4 d3 d1 hb (by omega) h λw d0 e0 I E e5 f7 e2 h=>⟨_,_,_,rfl,aa ?_⟩
 have h:Sat σ w (p2.at b::(I++(E++(g++L)))):=h.re
 refine h.stA 0 λw h=>?_
 let O:PS:= {y with lq:=b4,ln:=d0,lc:=a7}
 have h:Sat σ w (O.at b::(I++(E++(g++L)))):=h
 refine aa ?_;refine⟨_,_,_,h.ldA,?_⟩;have h:Sat σ w (I++(E++(O.at b::(g++L)))):=h.re
 refine f1 σ _ b pb O b4 d0 a7 e0 I E _ w (by rw[<-e3,<-e8]) (.head _) (.tail _ (lB0 _ f2)) e5 (by omega) e2 h λw b7 c5 c4 d2 W a6 e6 e7 e1 h=>⟨_,_,_,rfl,aa ?_⟩
 have h:Sat σ w (O.at b::(W++(a6++(g++L)))):=h.re
 refine h.stA 0 λw h=>?_
 refine aa ?_;refine⟨_,_,_,h.ldA,?_⟩
 let b6:PS:= {y with lq:=b7,ln:=c5,lc:=c4}
 have h:Sat σ w (b6.at b::(W++(a6++(g++L)))):=h
 exact f4 w b6 b7 c5 c4 d2 W a6 (by rw[<-b5];rfl) e6 e7 e1 (h.less g)
theorem GX {X:XI}{b pb e:Nat}{p:PS}{o:Opt}{ts ts':List Inl}{opens:List Nat}{E:Option Addr}{g y:Nat}{lo:Int}{a6:Bool}(h:IIn σ b p ts opens E g y L w)(b4:p.em=e)(hs:p.s.length<1000000000)(W:ts.length<1000000000)(U:p.pz=kE pb)(V:o.at pb∈L)(O:o.auto=false)(b3:AP (lh p.s e p.s.length ts) ts')(I: ∀t∈ts',∀s,t.plain? =some s->s≠ [])(hb:sk ts'<1073741824)(a7: ∀w (p':PS) q n c vs RM EM,p'.core=p.core->Sl 1 aD q n c vs RM->n<1073741824->InlsAt (lD ts') vs EM->Sat σ w (p'.at b::(RM++(EM++L)))->R (hQ (hT q n c)) w):
 av.bl1 R X (kE b) (bs p.s) E g y lo a6 (p.s.length:Nat) w:=
 E4 h b4 hs W U V b3 I hb (BL O) a7
theorem Dh {b:Nat}{p:PS}{raw:List UInt8}(h:Sat σ w (p.at b::L))(y:raw.length<4611686018427387904)(g: ∀w,IIn σ b {p with s:=gI cO raw,em:=0,lq:=none,ln:=0,lc:=0} [] [] none 0 0 L w->av.l1 R (kE b) (bs (gI cO raw)) none 0 0 0 false 0 w):
 callE P fP #[kT (kE b),hX (bs raw)] R w:=by
 refine av.sound ?_;refine kH y ⟨_,rfl,aa ?_⟩;refine h.stA 0 λw h=>?_
 refine aa ?_;refine h.stA 0 λw h=>?_
 refine aa ?_;refine h.stA 0 λw h=>?_
 exact g w ⟨[],[],[],[],Sl.nil _ _,⟨rfl,rfl⟩,Sl.nil _ _,by simp,h⟩
def mj (R:EP)(g:Int)(w:World):Prop:=R (hQ (hV (((((decide (33<=g)) && (decide (g<=47)))||((decide (58<=g)) && (decide (g<=64))))||((decide (91<=g)) && (decide (g<=96))))||((decide (123<=g)) && (decide (g<=126)))))) w
theorem mj.sound {R x0 w}(h:mj R x0 w):callE P mi #[.int .u8 x0] R w:=
 cF Tryz.func155 Tryz.call155 h
def iR (R:EP)(y:Int)(w:World):Prop:=br (decide (y<128)) (callE P mi #[.int .u8 (IntKind.u8.wrap y)] (λe E=>∃g,e= hQ (hV g)/\R (hQ (hV g)) E) w) (False)
theorem iR.sound {R x0 w}(h:iR R x0 w):callE P eW #[.int .i32 x0] R w:=
 aG [(29,.no)] Tryz.func163 Tryz.call163 h
def iQ (R:EP)(g:Int)(w:World):Prop:=br (decide (g<128)) (R (hQ (hV ((((g==32)||(g==9))||(g==12))||(g==10)))) w) (False)
theorem iQ.sound {R x0 w}(h:iQ R x0 w):callE P dL #[.int .i32 x0] R w:=
 aG [(29,.no)] Tryz.func162 Tryz.call162 h
namespace bP
def k11 (R:EP)(E:BA)(y g:Int)(I U:Bool)(w:World):Prop:=0<=y/\y<=g/\g<=(E.size:Int)/\box w #[hX (E.extract (Int.toNat y) (Int.toNat g)),hV I,hV U,hY 0,hY (i64.wrap (g - y))] lm λV O=>R (hQ (.tuple #[.iface aT (kT (kE V)),hY y,hY g,hV true])) O
def k12 (R:EP)(U:BA)(O I:Int)(b3 a7:Int)(E y:Bool)(W a6:Bool)(V:Int)(g:Bool)(w:World):Prop:=br g (k11 R U O I E y w) (False)
def k10 (R:EP)(b3:BA)(a7 W:Int)(a6 U:Int)(V O:Bool)(E I:Bool)(g:Int)(y:Bool)(w:World):Prop:=br y (False) (br (g==42) (k12 R b3 a7 W a6 U V O E I g true w) (False))
def k9 (R:EP)(W:BA)(V g:Int)(O U E:Int)(I y:Bool)(w:World):Prop:=br (g==39) (False) (k10 R W V O U E I y false false g (g==34) w)
def k8 (R:EP)(V:BA)(U E:Int)(O y g:Int)(I:Bool)(w:World):Prop:=callE P dL #[.int .i32 y] (λe b4=>∃W,e= hQ (hV W)/\br (!W) (callE P eW #[.int .i32 y] (λe a7=>∃b6,e= hQ (hV b6)/\br (!b6) (k9 R V U E O y g I true a7) (callE P dL #[.int .i32 g] (λe a6=>∃b3,e= hQ (hV b3)/\br b3 (k9 R V U E O y g I true a6) (callE P eW #[.int .i32 g] (λe b7=>∃b5,e= hQ (hV b5)/\k9 R V U E O y g I b5 b7) a6)) a7)) b4) (k9 R V U E O y g I false b4)) w
def k7 (R:EP)(U:BA)(O E:Int)(I y g:Int)(w:World):Prop:=callE P dL #[.int .i32 g] (λe b4=>∃b5,e= hQ (hV b5)/\br (!b5) (callE P eW #[.int .i32 g] (λe a6=>∃b3,e= hQ (hV b3)/\br (!b3) (k8 R U O E I y g true a6) (callE P dL #[.int .i32 y] (λe V=>∃a7,e= hQ (hV a7)/\br a7 (k8 R U O E I y g true V) (callE P eW #[.int .i32 y] (λe b6=>∃W,e= hQ (hV W)/\k8 R U O E I y g W b6) V)) a6)) b4) (k8 R U O E I y g false b4)) w
def k6 (R:EP)(y:BA)(U I:Int)(g O:Int)(w:World):Prop:=br (decide (g >= (y.size:Int))) (k7 R y U I g O 32 w) (0<=g/\g<=(y.size:Int)/\callE P dD #[hX (y.extract (Int.toNat g) y.size)] (λe W=>∃E V,e= hQ (.tuple #[.int .i32 E,hY V])/\k7 R y U I g O E W) w)
def k5 (R:EP)(y:BA)(g I O:Int)(V:Bool)(w:World):Prop:=br V (False) (br (g==0) (k6 R y g I O 32 w) (0<=g/\g<=(y.size:Int)/\callE P cU #[hX (y.extract 0 (Int.toNat g))] (λe W=>∃E U,e= hQ (.tuple #[.int .i32 E,hY U])/\k6 R y g I O E W) w))
def k4 (R:EP)(I:BA)(E g y:Int)(w:World):Prop:=k5 R I E g y ((g==126) && (decide ((i64.wrap (y - E))>2))) w
def k3 (R:EP)(V:OA)(I:BA)(E g y:Int)(O:Bool)(w:World):Prop:=br O (aA V λa1=>stV w ((a1.add 6).add 0) (hV true) λU=>k4 R I E g y U) (k4 R I E g y w)
def k2 (R:EP)(I:OA)(O:BA)(E g y:Int)(w:World):Prop:=k3 R I O E g y ((g==126) && ((i64.wrap (y - E)) !=2)) w
def bl1 (R:EP)(Xa:OA->BA->Int->Int->Int->WP)(I:OA)(y:BA)(O E g:Int)(w:World):Prop:=((decide (g<(y.size:Int)))=true->0<=g/\g<(y.size:Int))/\br ((decide (g<(y.size:Int))) && ((bt y g)==E)) (Xa I y O E (i64.wrap (g+1)) w) (k2 R I y O E g w)
def l1 (R:EP)(E:OA)(O:BA)(I g y:Int)(w:World):Prop:=∀X:OA->BA->Int->Int->Int->WP,(∀E O I g y w,bl1 R X E O I g y w->X E O I g y w)->X E O I g y w
def k1 (R:EP)(I:OA)(U:BA)(O g E:Int)(y:Bool)(w:World):Prop:=br y (l1 R I U O g E w) (False)
end bP
def bP (R:EP)(E:OA)(y:BA)(g:Int)(w:World):Prop:=0<=g/\g<(y.size:Int)/\bP.k1 R E y g (bt y g) (i64.wrap (g+1)) ((((bt y g)==42)||((bt y g)==126))||((bt y g)==95)) w
theorem bP.sound {R x0 x1 x2 w}(h:bP R x0 x1 x2 w):callE P dV #[kT x0,hX x1,hY x2] R w:=
 aG [(55,.mk [2,21,47,208,227,640] (bP.k1 R)),(151,.lp [2,21,47,208,227] (bP.bl1 R) λXa=> []),(119,.no),(31,.mk [2,21,47,208,227] (bP.k2 R)),(111,.mk [2,21,47,208,227,1060] (bP.k3 R)),(63,.mk [21,47,208,227] (bP.k4 R)),(223,.mk [21,47,208,227,1280] (bP.k5 R)),(351,.no),(511,.mk [21,47,208,227,249] (bP.k6 R)),(1023,.mk [21,47,208,227,249,269] (bP.k7 R)),(2047,.mk [21,47,208,227,249,269,280] (bP.k8 R)),(4095,.mk [21,47,208,227,249,269,280,300] (bP.k9 R)),(339967,.no),(110591,.mk [21,47,227,249,269,280,300,320,340,2528,2540] (bP.k10 R)),(176127,.no),(1945599,.no),(503807,.mk [21,47,227,249,269,280,300,320,340,2528,2880] (bP.k12 R)),(1028095,.no),(16383,.mk [21,47,227,320,340] (bP.k11 R))] Tryz.func115 Tryz.call115 h
def cV (R:EP)(g:BA)(w:World):Prop:=br ((g.size:Int)==0) (False) (0<=(i64.wrap ((g.size:Int) - 1))/\(i64.wrap ((g.size:Int) - 1))<(g.size:Int)/\br (decide ((IntKind.i32.wrap (bt g (i64.wrap ((g.size:Int) - 1))))<128)) (R (hQ (.tuple #[.int .i32 (IntKind.i32.wrap (bt g (i64.wrap ((g.size:Int) - 1)))),hY 1])) w) (False))
theorem cV.sound {R x0 w}(h:cV R x0 w):callE P cU #[hX x0] R w:=
 aG [(43,.no),(479,.no),(1407,.no),(511,.no)] Tryz.func160 Tryz.call160 h
namespace bv
def k1 (R:EP)(g:BA)(y:Bool)(w:World):Prop:=br y (0<=(0:Int)/\0<(g.size:Int)/\R (hQ (.tuple #[.int .i32 (IntKind.i32.wrap (bt g 0)),hY 1])) w) (False)
end bv
def bv (R:EP)(g:BA)(w:World):Prop:=((!(g.toList==(hP #[]).toList))=true->0<=(0:Int)/\0<(g.size:Int))/\bv.k1 R g ((!(g.toList==(hP #[]).toList)) && (decide ((bt g 0)<128))) w
theorem bv.sound {R x0 w}(h:bv R x0 w):callE P dD #[hX x0] R w:=
 aG [(13,.mk [1,200] (bv.k1 R)),(29,.no)] Tryz.func161 Tryz.call161 h

def spB (c:UInt8):Bool:=c==32||c==9||c==12||c==10
def puB (c:UInt8):Bool:=(33<=c && c<=47)||(58<=c && c<=64)||(91<=c && c<=96)||(123<=c && c<=126)
theorem sD {c:UInt8}(h:c<128):((c.toNat:Nat):Int)<128:=by
 have a:=lM6.1 h;have e:(128:UInt8).toNat=128:=rfl
 omega
theorem HE (c d:UInt8):decide (((c.toNat:Nat):Int)<=(d.toNat:Int))=decide (c<=d):=by
 rw[decide_eq_decide,UInt8.le_iff_toNat_le];omega
theorem mb {c:UInt8}(hc:c<128)(g:R (hQ (hV (spB c))) w):callE P dL #[.int .i32 (c.toNat:Int)] R w:=by
 refine iQ.sound ?_;unfold iQ;rw[show decide (((c.toNat:Nat):Int)<128)=true from decide_eq_true (sD hc)];refine ag rfl ?_;have e:(((((c.toNat:Nat):Int)==32)||(((c.toNat:Nat):Int)==9))||(((c.toNat:Nat):Int)==12)||(((c.toNat:Nat):Int)==10))=spB c:=by
  have a:=nk c 32;have b:=nk c 9;have d:=nk c 12;have f:=nk c 10
  unfold spB;rw[<-a,<-b,<-d,<-f];rfl
 rw[e];exact g
theorem uU {c:UInt8}(E:R (hQ (hV (puB c))) w):callE P mi #[.int .u8 (c.toNat:Int)] R w:=by
 refine mj.sound ?_;have le: ∀d:UInt8,decide (((c.toNat:Nat):Int)<=(d.toNat:Int))=decide (c<=d):=λd=>HE c d
 have y: ∀d:UInt8,decide ((d.toNat:Int)<=((c.toNat:Nat):Int))=decide (d<=c):=λd=>HE d c
 have e:(((((decide ((33:Int)<=((c.toNat:Nat):Int))) && (decide (((c.toNat:Nat):Int)<=47)))||((decide ((58:Int)<=((c.toNat:Nat):Int))) && (decide (((c.toNat:Nat):Int)<=64))))||((decide ((91:Int)<=((c.toNat:Nat):Int))) && (decide (((c.toNat:Nat):Int)<=96))))||((decide ((123:Int)<=((c.toNat:Nat):Int))) && (decide (((c.toNat:Nat):Int)<=126))))=puB c:=by
  have a:=y 33;have b:=le 47;have d:=y 58;have f:=le 64;have I:=y 91;have h:=le 96;have i:=y 123;have j:=le 126
  unfold puB;rw[<-a,<-b,<-d,<-f,<-I,<-h,<-i,<-j];rfl
 unfold mj;rw[e];exact E
theorem mC {c:UInt8}(hc:c<128)(g:R (hQ (hV (puB c))) w):callE P eW #[.int .i32 (c.toNat:Int)] R w:=by
 refine iR.sound ?_;unfold iR;rw[show decide (((c.toNat:Nat):Int)<128)=true from decide_eq_true (sD hc)];refine ag rfl ?_;have e:IntKind.u8.wrap (c.toNat:Int)=(c.toNat:Int):=u8_in _ (by have:=c.toNat_lt;omega)
 rw[e];exact uU ⟨_,rfl,g⟩
theorem Av (c:UInt8):IntKind.i32.wrap (c.toNat:Int)=(c.toNat:Int):=i32_in _ (by have:=c.toNat_lt;omega)
theorem wl {c:UInt8}{l:List UInt8}(hc:c<128)(g:R (hQ (.tuple #[.int .i32 (c.toNat:Int),hY 1])) w):callE P dD #[hX (bs (c::l))] R w:=by
 refine bv.sound ?_;have e:bt (bs (c::l)) 0=(c.toNat:Int):=pH (l:=c::l) (i:=0) (by simp)
 refine⟨λ_=>⟨by decide,by simp⟩,?_⟩;refine ag ?_ ⟨by decide,by simp,?_⟩
 ·rw[e,show decide (((c.toNat:Nat):Int)<128)=true from decide_eq_true (sD hc),cn,gL];rfl
 ·rw[e,Av];exact g
theorem wm {c:UInt8}{l:List UInt8}(E:l.length<4611686018427387904)(hc:c<128)(g:R (hQ (.tuple #[.int .i32 (c.toNat:Int),hY 1])) w):callE P cU #[hX (bs (l++ [c]))] R w:=by
 refine cV.sound ?_;have y:i64.wrap ((((bs (l++ [c])).size:Nat):Int) - 1)=(l.length:Nat):=by
  rw[aF];simp only[lA0,lE0];simp (disch:=omega) only[i64_in];omega
 have e:bt (bs (l++ [c])) (l.length:Nat)=(c.toNat:Int):=by
  rw[pH (by simp)];simp
 refine af (by simp;omega) ?_;rw[y,e,Av];refine⟨by omega,by simp;omega,?_⟩;rw[show decide (((c.toNat:Nat):Int)<128)=true from decide_eq_true (sD hc)];exact ag rfl g
def AH (s:List UInt8)(i:Nat):UInt8:=if i=0 then 32 else s.getD (i - 1) 32
def AO (s:List UInt8)(j:Nat):UInt8:=s.getD j 32
def vT (a b:UInt8):Bool:= !spB b && (!puB b||spB a||puB a)
def rI (a b:UInt8):Bool:= !spB a && (!puB a||spB b||puB b)
theorem DF {s:List UInt8}{i j:Nat}{a b:UInt8}(hs:s.length<4611686018427387904)(a6:i<j)(a7:j<=s.length)(O:a<128)(hb:b<128)(h:Sat σ w L)(V: ∀w nb,Sat σ w ((nb,cel [hX (bs (sub s i j)),hV (vT a b),hV (rI a b),hY 0,hY ((j - i:Nat):Int)] lm)::L)->R (hQ (.tuple #[iu aT nb,hY i,hY j,hV true])) w):
 bP.k7 R (bs s) (i:Int) 42 (j:Int) (a.toNat:Int) (b.toNat:Int) w:=by
 have U: ∀w,Sat σ w L->bP.k9 R (bs s) (i:Int) 42 (j:Int) (a.toNat:Int) (b.toNat:Int) (vT a b) (rI a b) w:=by
  intro w h;refine af rfl (af rfl (ag rfl (ag rfl ⟨by omega,by omega,by simp;omega,?_⟩)));have e:i64.wrap ((j:Int) - (i:Int))=((j - i:Nat):Int):=by simp (disch:=omega) only[i64_in];omega
  rw[e,lC0,lC0,bV];exact Sat.bx h λnb w h=>V w nb h
 have W: ∀w,Sat σ w L->bP.k8 R (bs s) (i:Int) 42 (j:Int) (a.toNat:Int) (b.toNat:Int) (vT a b) w:=by
  intro w h;refine mb O ⟨_,rfl,?_⟩;have g:=U w h;unfold rI at g;cases y:spB a with
  |true=>rw[y] at g;exact af rfl g
  |false=>
   rw[y] at g;refine ag rfl (mC O ⟨_,rfl,?_⟩);cases E:puB a with
   |false=>rw[E] at g;exact ag rfl g
   |true=>
    rw[E] at g;refine af rfl (mb hb ⟨_,rfl,?_⟩);cases I:spB b with
    |true=>rw[I] at g;exact ag rfl g
    |false=>rw[I] at g;exact af rfl (mC hb ⟨_,rfl,by simpa using g⟩)
 refine mb hb ⟨_,rfl,?_⟩;have g:=W w h;unfold vT at g;cases y:spB b with
 |true=>rw[y] at g;exact af rfl g
 |false=>
  rw[y] at g;refine ag rfl (mC hb ⟨_,rfl,?_⟩);cases E:puB b with
  |false=>rw[E] at g;exact ag rfl g
  |true=>
   rw[E] at g;refine af rfl (mb O ⟨_,rfl,?_⟩);cases I:spB a with
   |true=>rw[I] at g;exact ag rfl g
   |false=>rw[I] at g;exact af rfl (mC O ⟨_,rfl,by simpa using g⟩)
theorem xm {q:Option Addr}{s:List UInt8}{i j:Nat}(hs:s.length<4611686018427387904)(O:i<j)(b5:j<=s.length)(V: ∀k,i<=k->k<j->s.getD k 0=42)(b8:j<s.length->s.getD j 0≠42)(y:AH s i<128)(hb:AO s j<128)(h:Sat σ w L)(b6: ∀w nb,Sat σ w ((nb,cel [hX (bs (sub s i j)),hV (vT (AH s i) (AO s j)),hV (rI (AH s i) (AO s j)),hY 0,hY ((j - i:Nat):Int)] lm)::L)->R (hQ (.tuple #[iu aT nb,hY i,hY j,hV true])) w):
 callE P dV #[kT q,hX (bs s),hY i] R w:=by
 refine bP.sound ?_;have I: ∀k (b7:k<s.length),s.getD k 0=s[k]:=by
  intro k b7;rw[lS0,lH0 b7];rfl
 have hc:bt (bs s) (i:Int)=42:=by
  rw[pH (show i<s.length by omega),<-I,V i (by omega) O];rfl
 refine⟨by omega,by simp;omega,?_⟩;rw[hc];refine ag rfl ?_;intro X b4;rw[aL (by omega)];have U: ∀a:UInt8,a<128->a=AH s i-> ∀w,Sat σ w L->bP.k6 R (bs s) (i:Int) 42 (j:Int) (a.toNat:Int) w:=by
  intro a y a6 w h
  by_cases W:j<s.length
  ·refine af (by simp;omega) ⟨by omega,by simp;omega,?_⟩;rw[lC0,aF,og,lG1 W];have e:AO s j=s[j]:=by unfold AO;rw[lS0,lH0 W];rfl
   refine wl (by rw[<-e];exact hb) ⟨_,_,rfl,?_⟩;rw[<-e];exact DF hs O b5 y hb h (by rw[a6];exact b6)
  ·refine ag (by simp;omega) ?_;have e:AO s j=32:=by unfold AO;rw[lS0,lV1 (by omega)];rfl
   have:=DF (b:=32) hs O b5 y (by decide) h (by rw[a6,<-e];exact b6);exact this
 have fin:bP.k2 R q (bs s) (i:Int) 42 (j:Int) w:=by
  by_cases E:i=0
  ·refine ag (by subst E;rfl) ?_;exact U 32 (by decide) (by unfold AH;rw[if_pos E]) w h
  ·refine af (by simp;omega) ⟨by omega,by simp;omega,?_⟩;rw[lC0,bV,lO2];have b3:i - 1<s.length:=by omega
   have e:AH s i=s[i - 1]:=by unfold AH;rw[if_neg E,lS0,lH0 b3];rfl
   have c3:s.take i=s.take (i - 1)++ [s[i - 1]]:=by
    have:=lB1 b3
    rwa [show i - 1+1=i by omega] at this
   rw[c3];refine wm (by rw[lY0];omega) (by rw[<-e];exact y) ⟨_,_,rfl,?_⟩;rw[<-e];exact U _ y rfl w h
 have b9: ∀k m,i<m->m+k=j->X q (bs s) (i:Int) 42 (m:Int) w:=by
  intro k
  induction k with
  |zero=>
   intro m c1 a7;obtain rfl:m=j:=a7;refine b4 _ _ _ _ _ _ ⟨λh=>⟨by omega,by simpa using h⟩,af ?_ fin⟩
   by_cases g:m<s.length
   ·have:=b8 g;rw[pH g,<-I m g];have e:(((s.getD m 0).toNat:Nat):Int)=42<->s.getD m 0=42:=by
     have c4:(42:UInt8).toNat=42:=rfl
     constructor
     ·intro h;exact lK6.1 (by omega)
     ·intro h;rw[h];rfl
    rw[lZ3];right;rw[beq_eq_false_iff_ne];exact λh=>this (e.1 h)
   ·simp;omega
  |succ k c2=>
   intro m c1 a7;have g:m<s.length:=by omega
   refine b4 _ _ _ _ _ _ ⟨λh=>⟨by omega,by simpa using h⟩,ag ?_ ?_⟩
   ·rw[pH g,<-I m g,V m (by omega) (by omega)];simp;omega
   ·rw[aL (by omega)];exact c2 (m+1) (by omega) (by omega)
 exact b9 (j - (i+1)) (i+1) (by omega) (by omega)
theorem o8 {b i j:Nat}{p:PS}{s:List UInt8}(hs:s.length<4611686018427387904)(E:i<j)(I:j<=s.length)(y: ∀k,i<=k->k<j->s.getD k 0=42)(g:j<s.length->s.getD j 0≠42)(O:AH s i<128)(hb:AO s j<128):
 qD b p s i (.func (.func dV) #[] #[]) [] (some (.emphP (sub s i j) (vT (AH s i) (AO s j)) (rI (AH s i) (AO s j)) 0 ((j - i:Nat):Int),i,j)) (λp'=>p'=p):=by
 intro σ R L w _ h U;refine ir ?_;exact xm hs E I y g O hb h λw nb h=>U w p _ _ rfl rfl ⟨nb,_,rfl,rfl⟩ h.up1
def lY (R:EP)(I:OA)(O:BA)(w:World):Prop:=callE P lV #[kT I,hX O] (λe E=>∃g y,e= hQ (.tuple #[kT g,hV y])/\R (hQ (kT g)) E) w
theorem lY.sound {R x0 x1 w}(h:lY R x0 x1 w):callE P ph #[kT x0,hX x1] R w:=
 cF Tryz.func34 Tryz.call34 h
def mP (R:EP)(b7 c2:Bool)(b5 c1:Bool)(b9 c3:Bool)(b4 b8:Bool)(b6 c4:Bool)(w:World):Prop:=box w #[hV b7,hV c2,hV b5,hV c1,hV b9,hV c3,hV b4,hV b8,hV b6,hV c4] fB λb1 g=>∃V,g.cell? (hZ b1 8)=some (hV V)/\∃a7,g.cell? (hZ b1 0)=some (hV a7)/\∃U,g.cell? (hZ b1 1)=some (hV U)/\∃b3,g.cell? (hZ b1 2)=some (hV b3)/\∃O,g.cell? (hZ b1 3)=some (hV O)/\∃W,g.cell? (hZ b1 4)=some (hV W)/\∃a6,g.cell? (hZ b1 9)=some (hV a6)/\∃E,g.cell? (hZ b1 5)=some (hV E)/\∃y,g.cell? (hZ b1 6)=some (hV y)/\∃I,g.cell? (hZ b1 7)=some (hV I)/\box g #[hV V,hV a7,hV U,hV b3,hV O,hV W,hV a6,hV E,hV y,hV I] wL λc5 c8=>R (hQ (kT (kE c5))) c8
theorem mP.sound {R x0_0 x0_1 x0_2 x0_3 x0_4 x0_5 x0_6 x0_7 x0_8 x0_9 w}(h:mP R x0_0 x0_1 x0_2 x0_3 x0_4 x0_5 x0_6 x0_7 x0_8 x0_9 w):callE P mK #[.agg #[hV x0_0,hV x0_1,hV x0_2,hV x0_3,hV x0_4,hV x0_5,hV x0_6,hV x0_7,hV x0_8,hV x0_9]] R w:=
 cF Tryz.func33 Tryz.call33 h
namespace bu
def k3 (R:EP)(Xa:OA->BA->Nat->WP)(V:OA)(W:BA)(g:Nat)(U:BA)(E:Int)(w:World):Prop:=∃y,w.cell? (hZ g 3)=some (hY y)/\stV w (hZ g 3) (hY (i64.wrap (y+1))) λI=>callE P iA #[kT (kE g),.agg #[hY 0,hY 0,hY 0,hX U,.int .u8 E]] (λe O=>e= hQ (.tuple #[])/\Xa V W g O) I
def k4 (R:EP)(I:Nat)(w:World):Prop:=tk w λg=>∃y,g.cell? (hZ I 1)=some (kT y)/\∃E,g.cell? (hZ I 6)=some (hV E)/\R (hQ (.tuple #[kT y,hV E])) g
def k2 (R:EP)(Xa:OA->BA->Nat->WP)(I:OA)(y:BA)(E:Nat)(g W V:Int)(U:Bool)(w:World):Prop:=br U (False) (br (decide (g >= 0)) (tk w λO=>0<=g/\g<=(y.size:Int)/\0<=(i64.wrap (g+1))/\(i64.wrap (g+1))<=(y.size:Int)/\k3 R Xa I (y.extract (Int.toNat (i64.wrap (g+1))) y.size) E (y.extract 0 (Int.toNat g)) 10 O) (k3 R Xa I (hP #[]) E y V w))
def bl3 (R:EP)(V:Nat->OA->Nat->Nat->Int->Int->WP)(E:Nat)(O:OA)(I U:Nat)(y g:Int)(w:World):Prop:=br (decide (g<y)) (False) (k4 R E w)
def l3 (R:EP)(U:Nat)(y:OA)(g E:Nat)(O I:Int)(w:World):Prop:=∀X:Nat->OA->Nat->Nat->Int->Int->WP,(∀U y g E O I w,bl3 R X U y g E O I w->X U y g E O I w)->X U y g E O I w
def bl2 (R:EP)(c8:OA->Nat->OA->Nat->Nat->Int->Int->WP)(b7:OA)(y:Nat)(a6:OA)(W b8:Nat)(b4 g:Int)(w:World):Prop:=br (decide (g<b4)) (0<=g/\g<(W:Int)/\aA a6 λc1=>∃I,w.cell? (c1.add (Int.toNat g*1))=some (kT I)/\aA I λc3=>∃b5,w.cell? (c3.add 3)=some (hX b5)/\callE P fP #[kT (kE y),hX b5] (λe c5=>∃O a7 b3,e= hQ (hT O a7 b3)/\aA I λc2=>stV c5 ((c2.add 2).add 0) (hT O a7 b3) λb9=>c8 b7 y a6 W b8 b4 (i64.wrap (g+1)) b9) w) (aA b7 λc4=>∃b6,w.cell? (c4.add 2)=some (hV b6)/\br b6 (∃V E U,w.cell? (hZ y 10)=some (hT V E U)/\l3 R y V E U (E:Int) 0 w) (k4 R y w))
def l2 (R:EP)(V:OA)(U:Nat)(E:OA)(y g:Nat)(O I:Int)(w:World):Prop:=∀X:OA->Nat->OA->Nat->Nat->Int->Int->WP,(∀V U E y g O I w,bl2 R X V U E y g O I w->X V U E y g O I w)->X V U E y g O I w
def bl1 (R:EP)(Xa:OA->BA->Nat->WP)(a6:OA)(I:BA)(E:Nat)(w:World):Prop:=br (!(I.toList==(hP #[]).toList)) (callE P mc #[hX I,hX (hP #[10])] (λe a7=>∃y,e= hQ (hY y)/\callE P mc #[hX I,hX (hP #[13])] (λe b3=>∃g,e= hQ (hY g)/\k2 R Xa a6 I E y g 0 ((decide (g >= 0)) && ((decide (y<0))||(decide (g<y)))) b3) a7) w) (callE P bm #[kT (kE E),hY 0] (λe W=>e= hQ (.tuple #[])/\∃V O U,W.cell? (hZ E 11)=some (hT V O U)/\l2 R a6 E V O U (O:Int) 0 W) w)
def l1 (R:EP)(E:OA)(y:BA)(g:Nat)(w:World):Prop:=∀X:OA->BA->Nat->WP,(∀E y g w,bl1 R X E y g w->X E y g w)->X E y g w
def k1 (R:EP)(O:OA)(U:BA)(g:Nat)(w:World):Prop:=stV w (hZ g 5) (hY (-1)) λI=>box I #[] fh λV E=>callE P bQ #[kT (kE g),.iface iN (kT (kE V))] (λe y=>e= hQ (.tuple #[])/\l1 R O U g y) E
end bu
def bu (R:EP)(y:OA)(E:BA)(w:World):Prop:=box w #[kT none,kT none,.map none,hY 0,hT none 0 0,hY 0,hV false,hX (hP #[]),hY 0,hT none 0 0,hT none 0 0,hT none 0 0,hY 0,hY 0,hY 0,hY 0,hY 0,hY 0,hY 0,hY 0,hY 0,hY 0,hY 0,hY 0,hY 0,hY 0,hY 0,hY 0,hY 0,hY 0,hY 0,hY 0,hY 0,hY 0,hY 0,hY 0,hY 0,hY 0,hY 0,hY 0,hY 0,hY 0,hY 0,hY 0,hY 0,hY 0,hY 0,hY 0,hY 0,hY 0,hY 0,hY 0,hY 0,hY 0,hY 0,hY 0,hY 0,hY 0,hY 0,hY 0,hY 0,hY 0,hY 0,hY 0,hY 0,hY 0,hY 0,hY 0,hY 0,hY 0,hY 0,hY 0,hY 0,hY 0,hY 0,hY 0,hY 0,hY 0,hY 0,hY 0,hY 0,hY 0,hY 0,hY 0,hY 0,hY 0,hY 0,hY 0,hY 0,hY 0,hY 0,hY 0,hV false] g9 λb1 I=>stV I (hZ b1 0) (kT y) λO=>callE P jn #[hX E,hX (hP #[0])] (λe U=>∃g,e= hQ (hV g)/\br g (False) (bu.k1 R y E b1 U)) O
theorem bu.sound {R x0 x1 w}(h:bu R x0 x1 w):callE P lV #[kT x0,hX x1] R w:=
 aG [(87,.no),(31,.mk [2,21,126] (bu.k1 R)),(319,.lp [2,21,126] (bu.bl1 R) λXa=> [(829,.mk [2,21,126,167,187,208,680] (bu.k2 R Xa)),(1341,.no),(10045,.dr (rpN [0,3,6,9,12,15,18,21,24])),(253,.mk [2,21,126,141,208] (bu.k3 R Xa))]),(2815,.lp [2,126,1623,1647,1667] (bu.bl2 R) λg=> []),(22015,.lp [126,2023,2047,2067] (bu.bl3 R) λy=> [(9,.no)]),(2047,.mk [126] (bu.k4 R)),(3071,.dr (rpN [0,6,4,12,10,15]))] Tryz.func55 Tryz.call55 h

def CZ (s:List UInt8)(nl:UInt8:=0):Ln:=⟨0,0,0,s,nl⟩
def mw (c:UInt8):Bool:= !(cO c||c==62||c==35||c==95||c==96||c==126||c==61||c==45||c==42)
def oA (c:UInt8):Bool:=mw c && c !=60 && !mD c
theorem CY {nl:UInt8}{s:List UInt8}(hs:s.length<1000000000):(CZ s nl).ok:=⟨by simp[CZ],by simp[CZ],by simp[CZ];omega,by simp[CZ]⟩
theorem uk {c:UInt8}(hc:mw c=true):cO c=false:=by
 simp only[mw,lQ5,lH2] at hc;exact hc.1.1.1.1.1.1.1.1
def Eo (c:UInt8):Bool:=decide (48<=c.toNat) && decide (c.toNat<=57)

def PS.coreS (p:PS):PS:=({p with s:= []}:PS).core
def PS0 (pz:Option Addr):PS:=⟨pz,none,none,0,none,0,0,0,false,[],0,none,0,0,none,0,0,none,0,0,BT.z⟩

def optV (o:Opt):Value:= .agg #[hV o.strike,hV o.task,hV o.auto,hV o.http,hV o.table,hV o.dot,hV o.dash,hV o.quote,hV o.ids,hV o.emoji]
theorem CJ {o:Opt}(h:Sat σ w L)(g: ∀w pb,Sat σ w (o.at pb::L)->R (hQ (kT (kE pb))) w):callE P mK #[optV o] R w:=by
 refine mP.sound ?_;refine Sat.bx h λb w h=>?_
 have ld: ∀(k:Nat) (v:Bool),([hV o.strike,hV o.task,hV o.auto,hV o.http,hV o.table,hV o.dot,hV o.dash,hV o.quote,hV o.ids,hV o.emoji])[k]? =some (hV v)->w.cell? (hZ b k)=some (hV v):=λk v hv=>Sat.ld h (.head _) hv
 refine⟨_,ld 8 _ rfl,_,ld 0 _ rfl,_,ld 1 _ rfl,_,ld 2 _ rfl,_,ld 3 _ rfl,_,ld 4 _ rfl,_,ld 9 _ rfl,_,ld 5 _ rfl,_,ld 6 _ rfl,_,ld 7 _ rfl,?_⟩;refine Sat.bx h λpb w h=>g w pb ?_
 have h:Sat σ w (o.at pb::(b,cel [hV o.strike,hV o.task,hV o.auto,hV o.http,hV o.table,hV o.dot,hV o.dash,hV o.quote,hV o.ids,hV o.emoji] fB)::L):=h
 exact(h.less [(b,cel [hV o.strike,hV o.task,hV o.auto,hV o.http,hV o.table,hV o.dot,hV o.dash,hV o.quote,hV o.ids,hV o.emoji] fB)])

theorem PS.pz_of {p p0:PS}(h:p.coreS=p0.coreS):p.pz=p0.pz:=by have:=congrArg PS.pz h;exact this
theorem PS.coreS_of {p' p p0:PS}(g:p'.core=p.core)(y:p.coreS=p0.coreS):p'.coreS=p0.coreS:=by
 rw[<-y];have:=congrArg (λq:PS=>({q with s:= []}:PS)) g
 exact this
def jf (R:EP)(E:Int)(w:World):Prop:=callE P iV #[hX (hP #[95,42,126,34,39]),.int .u8 E] (λe y=>∃g,e= hQ (hY g)/\R (hQ (hY g)) y) w
theorem jf.sound {R x0 w}(h:jf R x0 w):callE P fR #[.int .u8 x0] R w:=
 cF Tryz.func177 Tryz.call177 h
namespace cz
def k1 (R:EP)(Xa:Nat->Nat->Int->WP)(c1:Nat->Nat->OA->Int->WP)(b8 b9:Nat)(g:OA)(b7:Int)(w:World):Prop:=tk w λy=>aA g λa14=>aA g λb4=>∃U V I,y.cell? a14=some (hT U V I)/\∃b3 O a7,y.cell? b4=some (hT b3 O a7)/\∃E W a6,(∀w,(Instr.sliceAt cK (hT U V I) none (some (hY (i64.wrap ((O:Int) - 1)))) none).run P w= .ok (hT E W a6) w)/\aA g λb6=>stV y (b6.add 0) (hT E W a6) λb5=>c1 b8 b9 g b7 b5
def bl2 (R:EP)(Xa:Nat->Nat->Int->WP)(c3:Nat->Nat->OA->Int->WP)(O I:Nat)(E:OA)(U:Int)(w:World):Prop:=tk w λg=>aA E λa2=>∃c1 b3 b8,g.cell? a2=some (hT c1 b3 b8)/\br (decide ((b3:Int)>0)) (aA E λa4=>aA E λa5=>∃a7 W b9,g.cell? a4=some (hT a7 W b9)/\∃c2 y b7,g.cell? a5=some (hT c2 y b7)/\0<=(i64.wrap ((y:Int) - 1))/\(i64.wrap ((y:Int) - 1))<(W:Int)/\aA a7 λa8=>∃b4,g.cell? (a8.add (Int.toNat (i64.wrap ((y:Int) - 1))*1))=some (kT b4)/\aA b4 λa10=>∃a6,g.cell? (a10.add 3)=some (hY a6)/\∃b6 V b5,g.cell? (hZ I 0)=some (hT b6 V b5)/\br (decide (a6 >= (V:Int))) (k1 R Xa c3 O I E U g) (Xa O I (i64.wrap (U+1)) g)) (Xa O I (i64.wrap (U+1)) g)
def l2 (R:EP)(Xa:Nat->Nat->Int->WP)(I E:Nat)(g:OA)(y:Int)(w:World):Prop:=∀X:Nat->Nat->OA->Int->WP,(∀I E g y w,bl2 R Xa X I E g y w->X I E g y w)->X I E g y w
def bl1 (R:EP)(Xa:Nat->Nat->Int->WP)(y E:Nat)(g:Int)(w:World):Prop:=br (decide (g<5)) (0<=g/\g<(5:Int)/\l2 R Xa y E (some (((hZ y 0):Addr).add (Int.toNat g*1))) g w) (R (hQ (.tuple #[])) w)
def l1 (R:EP)(E y:Nat)(g:Int)(w:World):Prop:=∀X:Nat->Nat->Int->WP,(∀E y g w,bl1 R X E y g w->X E y g w)->X E y g w
end cz
def cz (R:EP)(y g:Nat)(w:World):Prop:=cz.l1 R y g 0 w
theorem cz.sound {R x0 x1 w}(h:cz R x0 x1 w):callE P fQ #[kT (kE x0),kT (kE x1)] R w:=
 aG [(5,.lp [6,26,87] (cz.bl1 R) λXa=> [(179,.lp [6,26,62,87] (cz.bl2 R Xa) λg=> [(4,.dr (rpN [0,3,7,9,12,15,18,21,27,30,25,34,36,39,42,46,48,51,55,58,60,63,66])),(3,.mk [6,26,62,87] (cz.k1 R Xa g)),(5,.dr (rpN [0,3,6,12,15,10,19,21,24,27,30,35]))])])] Tryz.func179 Tryz.call179 h

theorem Sl.trunc {e:TypeId}{q:Option Addr}{n c k:Nat}{vs:List Value}{M:List ai}(h:Sl 1 e q n c vs M)(I:k<=n):Sl 1 e q k c (vs.take k) M:=by
 obtain⟨E,y,⟨rfl,rfl,rfl,rfl⟩|⟨b,sp,rfl,rfl,g⟩⟩:=h
 ·have:k=0:=by omega
  subst this;exact⟨by simp,by omega,.inl ⟨rfl,rfl,rfl,rfl⟩⟩
 ·refine⟨by rw[lY0];omega,by omega,.inr ⟨b,vs.drop k++sp,rfl,?_,?_⟩⟩
  ·rw[<-lD0,lW1]
  ·rw[<-lD0,lW1];exact g
structure STK where
 q:Option Addr
 n:Nat
 c:Nat
 ent:List (Nat × Nat)
def H9 (e:Nat × Nat):Value:= kT (kE e.1)
def STK.ok (s:STK)(M:List ai):Prop:=Sl 1 aT s.q s.n s.c (s.ent.map H9) M
def StksAt:List STK->List ai->Prop
 | [],M=>M= []
 |s::S,M=> ∃g y,M=g++y/\s.ok g/\StksAt S y
theorem StksAt.split: ∀ {A:List STK} {s:STK} {B:List STK} {M:List ai},StksAt (A++s::B) M-> ∃g y O,M=g++(y++O)/\StksAt A g/\s.ok y/\StksAt B O
 | [],s,B,M,h=>by obtain⟨g,y,rfl,E,I⟩:=h;exact⟨[],g,y,rfl,rfl,E,I⟩
 |a::A,s,B,M,h=>by
  obtain⟨g,y,rfl,E,I⟩:=h;obtain⟨U,b3,V,rfl,a7,a6,W⟩:=I.split;exact⟨g++U,b3,V,by simp,⟨g,U,rfl,E,a7⟩,a6,W⟩
theorem StksAt.join: ∀ {A:List STK} {s:STK} {B:List STK} {E y g:List ai},StksAt A E->s.ok y->StksAt B g->StksAt (A++s::B) (E++(y++g))
 | [],s,B,E,y,g,h1,h2,h3=>by cases h1;exact⟨y,g,rfl,h2,h3⟩
 |a::A,s,B,E,y,g,h1,h2,h3=>by
  obtain⟨U,V,rfl,O,I⟩:=h1;exact⟨U,V++(y++g),by simp,O,I.join h2 h3⟩
def Hp (s:STK):Value:= hT s.q s.n s.c
def kJ (b:Nat)(S:List STK):ai:=(b,cel (S.map Hp) js)
def mt (m:Nat)(g:List (Nat × Nat)):List (Nat × Nat):=(g.reverse.dropWhile λe=>decide (m<=e.2)).reverse
theorem Ci (m:Nat):mt m []= []:=rfl
theorem uC (m:Nat)(g:List (Nat × Nat))(e:Nat × Nat):mt m (g++ [e])=if m<=e.2 then mt m g else g++ [e]:=by
 unfold mt;rw[lH5];simp only[lT4,lW5,lT0,lU2,lB3];split
 ·rename_i h;rw[if_pos (by simpa using h)]
 ·rename_i h;rw[if_neg (by simpa using h)];simp
def STK.trim (m:Nat)(s:STK):STK:= {s with n:=(mt m s.ent).length,ent:=mt m s.ent}
theorem rB (m:Nat)(g:List (Nat × Nat)):mt m g=g.take (mt m g).length:=by
 have:mt m g<+:g:=by
  unfold mt;have:=lW4 (λe:Nat × Nat=>decide (m<=e.2)) (l:=g.reverse)
  have:=List.reverse_prefix.2 this
  simpa using this
 exact(List.prefix_iff_eq_take.1 this)
def Eg (g:List (Nat × Nat))(L:List ai):Prop:= ∀e∈g,∃cs ty,(e.1,cel cs ty)∈L/\cs[3]? =some (hY (e.2:Nat))
noncomputable def rowEP:Row P cK aT 1 8:=
 ⟨(P.info? aT).getD default,((P.info? aT).bind (·.zero)).getD default,by kernel_rfl,by kernel_rfl,by kernel_rfl,by kernel_rfl,by kernel_rfl,by kernel_rfl,by decide⟩
theorem mv {b j:Nat}{A B:List STK}{s:STK}(h:Sat σ w (kJ b (A++s::B)::L))(g:j=A.length):w.cell? (hZ b j)=some (hT s.q s.n s.c):=by
 refine Sat.ld h (.head _) ?_;rw[lV0,lI0 (by simp;omega)];simp[g,Hp]
theorem wU {b j:Nat}{A B:List STK}{s s':STK}{K:World->Prop}(h:Sat σ w (kJ b (A++s::B)::L))(E:j=A.length)(y: ∀g,Sat σ g (kJ b (A++s'::B)::L)->K g):stV w (hZ b j) (hT s'.q s'.n s'.c) K:=by
 refine Sat.st h (k:=0) rfl (by simp;omega) trivial rfl λw h=>y w ?_
 have e:((A++s::B).map Hp).set j (hT s'.q s'.n s'.c)=(A++s'::B).map Hp:=by
  rw[lV0,lV0,lR1 _ _ (by simp;omega)];simp[E,Hp]
 show Sat σ w ((b,cel ((A++s'::B).map Hp) js)::L)
 rw[<-e];exact h
theorem AX {O b1 m b9:Nat}{b7:Option Addr}{S:List STK}{g:List ai}(f3:S.length=5)(E:StksAt S g)(f4: ∀s∈S,Eg s.ent L)(e9: ∀s∈S,s.ent.length<1000000000)(h:Sat σ w (kJ O S::(b1,cel [hT b7 m b9] ap)::(g++L)))(g1: ∀w d3,StksAt (S.map (STK.trim m)) d3->Sat σ w (kJ O (S.map (STK.trim m))::(b1,cel [hT b7 m b9] ap)::(d3++L))->R (hQ (.tuple #[])) w):
 callE P fQ #[kT (kE O),kT (kE b1)] R w:=by
 refine cz.sound ?_;intro X e0;have e8: ∀(B A:List STK) (g:List ai) w,A.length+B.length=5->S=A++B->StksAt (A.map (STK.trim m)++B) g->Sat σ w (kJ O (A.map (STK.trim m)++B)::(b1,cel [hT b7 m b9] ap)::(g++L))->X O b1 (A.length:Nat) w:=by
  intro B
  induction B with
  |nil=>
   intro A g w c9 b4 E h;refine e0 _ _ _ _ (af (by simp at c9;simp;omega) ?_);have e:S.map (STK.trim m)=A.map (STK.trim m)++ []:=by rw[b4];simp
   rw[<-e] at E h;exact g1 w g E h
  |cons s B e4=>
   intro A g w c9 b4 E h;have hs:s∈S:=by rw[b4];simp
   have V:(A.map (STK.trim m)).length=A.length:=by simp
   simp at c9;refine e0 _ _ _ _ (ag (by simp;omega) ⟨by omega,by omega,?_⟩);simp only[lL0,lC0,lA1,lO0];intro Y e3;have inner: ∀(y:List (Nat × Nat)) (s':STK) (g:List ai) w,s'.ent=y->Eg y L->y.length<1000000000->mt m y=mt m s.ent->s'.q=s.q->s'.c=s.c->StksAt (A.map (STK.trim m)++s'::B) g->
    Sat σ w (kJ O (A.map (STK.trim m)++s'::B)::(b1,cel [hT b7 m b9] ap)::(g++L))->Y O b1 (some (hZ O A.length)) (A.length:Nat) w:=by
    intro y
    induction hn:y.length generalizing y with
    |zero=>
     intro s' g w I c8 d1 ht a7 hc E h;have f1:y= []:=lF1 hn;subst f1;obtain⟨b6,a6,b8,rfl,c2,U,c3⟩:=E.split;have c5:s'.n=0:=by have:=U.1;rw[I] at this;simp at this;omega
     refine e3 _ _ _ _ _ ?_;refine h.tk λw h=>?_
     refine aa ⟨_,_,_,mv h V.symm,?_⟩;rw[c5];refine af rfl ?_;have c4:i64.wrap ((A.length:Int)+1)=((A.length+1:Nat):Int):=aL (by omega)
     rw[c4];have b5:s'=STK.trim m s:=by
      unfold STK.trim;rw[<-ht];cases s';simp only at I c5 a7 hc⊢
      subst I c5 a7 hc
      try rfl
     have:=e4 (A++ [s]) (b6++(a6++b8)) w (by simp;omega) (by rw[b4];simp) (by rw[lV0,lD0];have:=c2.join U c3;rw[b5] at this;exact this) (by
      rw[lV0,lD0];rw[b5] at h;exact h)
     rw[lA0] at this;exact this
    |succ k e6=>
     intro s' g w I c8 d1 ht a7 hc E h;obtain⟨W,e,rfl⟩: ∃W e,y=W++ [e]:=by
      rcases lY1 y with rfl|⟨W,e,rfl⟩
      ·simp at hn
      ·exact⟨W,e,by simp⟩
     simp at hn;obtain⟨b6,a6,b8,rfl,c2,U,c3⟩:=E.split;have c1:s'.n=k+1:=by have:=U.1;rw[I] at this;simp at this;omega
     obtain⟨cs,ty,g0,f0⟩:=c8 e (by simp);refine e3 _ _ _ _ _ ?_;refine h.tk λw h=>?_
     refine aa ⟨_,_,_,mv h V.symm,?_⟩;rw[c1];refine ag (by simp<;>omega) (aa (aa ?_));refine⟨_,_,_,mv h V.symm,_,_,_,mv h V.symm,?_⟩;have c4:i64.wrap (((s'.n:Nat):Int) - 1)=(k:Int):=by rw[c1];simp (disch:=omega) only[i64_in];omega
     rw[c4];refine⟨by omega,by omega,?_⟩;have e7:(s'.ent.map H9)[k]? =some (kT (kE e.1)):=by
      rw[I,lV0,lI0 (by simp;omega)];simp[hn,H9]
     have f6:Sat σ w (a6++(kJ O (A.map (STK.trim m)++s'::B)::(b1,cel [hT b7 m b9] ap)::(b6++(b8++L)))):=h.re
     refine Sl.loadAt U f6 e7 λg4 g2 e5=>?_
     simp only[lL0,lC0,lA1,lO0];refine⟨_,e5,aa ?_⟩;simp only[lL0,lO0];refine⟨_,Sat.ld h (.tail _ (.tail _ (lB0 _ g0))) f0,?_⟩;refine⟨_,_,_,Sat.ld h (.tail _ (.head _)) rfl,?_⟩;rw[uC] at ht
     by_cases d2:m<=e.2
     ·rw[if_pos d2] at ht;refine ag (by simp;omega) ?_;refine h.tk λw h=>?_
      refine aa (aa ?_);refine⟨_,_,_,mv h V.symm,_,_,_,mv h V.symm,?_⟩;rw[c4];have g3:=U.2.1;refine⟨_,_,_,λw=>rE rowEP.ht rowEP.hi _ _ _ k (by omega) w,aa ?_⟩
      let d0:STK:=⟨s'.q,k,s'.c,W⟩
      have f2:d0.ok a6:=by
       have:=U.trunc (k:=k) (by omega);rw[I,lV0,lS3 (by rw[lQ0];omega),lB2 (by rw[lQ0];omega)] at this;exact this
      simp only[lL0,lO0,lL1];refine wU (s':=d0) h V.symm λw h=>?_
      exact e6 W hn d0 (b6++(a6++b8)) w rfl (λx f5=>c8 x (by simp[f5])) (by first|omega|(simp at d1;omega)|(have:=hn;omega)) ht a7 hc (c2.join f2 c3) h
     ·rw[if_neg d2] at ht;refine af (by simp;omega) ?_;have f7:i64.wrap ((A.length:Int)+1)=((A.length+1:Nat):Int):=aL (by omega)
      rw[f7];have b5:s'=STK.trim m s:=by
       unfold STK.trim;rw[<-ht];cases s';simp only at I c1 a7 hc⊢
       subst I c1 a7 hc;simp[hn]
      have:=e4 (A++ [s]) (b6++(a6++b8)) w (by simp;omega) (by rw[b4];simp) (by rw[lV0,lD0];have:=c2.join U c3;rw[b5] at this;exact this) (by
       rw[lV0,lD0];rw[b5] at h;exact h)
      rw[lA0] at this;exact this
   exact inner s.ent s g w rfl (f4 s hs) (e9 s hs) rfl rfl rfl E h
 exact e8 S [] g w (by simpa using f3) rfl E h

def DRow (a7:Option Addr)(O:Nat)(y E:List Value)(I:Nat)(W:Option Addr)(b5 sc:Nat)(b4 V:List ai):Prop:=
 E.length+I=b5/\y.length<=O/\
 ((∃g junk sp,a7=kE g/\W=kE g/\V= [(g,cel (y++(junk++(E++sp))) aD)]/\y.length+junk.length=I/\I+E.length+sp.length=O)\/
  (∃b3,Sl 1 aD a7 y.length O y b3/\V=b3++b4/\ ∀j v,E[j]? =some v-> ∃g a6 U e,W=some (hZ g a6)/\(g,cel U e)∈b4/\U[a6+I+j]? =some v))
theorem DRow.read {a7 U:Option Addr}{b5 E W sc:Nat}{I V:List Value}{v:Value}{b3 O:List ai}(b4:DRow a7 b5 I (v::V) E U W sc b3 O)(h:Sat σ w (O++L)): ∃g y,U=some (hZ g y)/\w.cell? ⟨g,y+E,none⟩=some v:=by
 obtain⟨_,_,⟨g,junk,sp,rfl,rfl,rfl,b7,b8⟩|⟨b9,c1,rfl,hr⟩⟩:=b4
 ·refine⟨g,0,rfl,h.ld (.head _) ?_⟩;rw[lI0 (by omega),lI0 (by omega),show 0+E - I.length - junk.length=0 by omega];rfl
 ·obtain⟨g,y,b6,e,rfl,a6,hc⟩:=hr 0 v rfl;exact⟨g,y,rfl,h.ld (lC1 _ (lB0 _ a6)) hc⟩
theorem DRow.consume {a7 W:Option Addr}{b5 U a6 sc:Nat}{I O:List Value}{v:Value}{b4 V:List ai}(c1:DRow a7 b5 I (v::O) U W a6 sc b4 V):DRow a7 b5 I O (U+1) W a6 sc b4 V:=by
 obtain⟨h0,E,⟨g,junk,sp,rfl,rfl,rfl,b3,y⟩|⟨b9,c3,rfl,hr⟩⟩:=c1
 ·refine⟨by simp at h0;omega,E,.inl ⟨g,junk++ [v],sp,rfl,rfl,by simp,by simp;omega,by simp at y;omega⟩⟩
 ·refine⟨by simp at h0;omega,E,.inr ⟨b9,c3,rfl,λj b7 hv=>?_⟩⟩;obtain⟨g,b8,b6,e,b3,y,c2⟩:=hr (j+1) b7 (by simpa using hv);exact⟨g,b8,b6,e,b3,y,by rw[<-c2];congr 1;omega⟩
theorem DRow.take {V U:Option Addr}{a7 E O sc k:Nat}{g y:List Value}{W I:List ai}(b6:DRow V a7 g y E U O sc W I)(a6:k<=g.length):DRow V a7 (g.take k) y E U O sc W I:=by
 obtain⟨h0,b8,⟨b3,junk,sp,rfl,rfl,rfl,b9,b4⟩|⟨b5,b7,rfl,hr⟩⟩:=b6
 ·refine⟨h0,by rw[lY0];omega,.inl ⟨b3,g.drop k++junk,sp,rfl,rfl,?_,by rw[lY0,lA0,lJ1];omega,b4⟩⟩;have e:g.take k++((g.drop k++junk)++(y++sp))=g++(junk++(y++sp)):=by
   rw[lD0,<-lD0 (g.take k),lW1]
  rw[e]
 ·refine⟨h0,by rw[lY0];omega,.inr ⟨b5,?_,rfl,hr⟩⟩;have:=b7.trunc (k:=k) a6;rw[lY0,lJ6 a6];exact this
theorem DRow.app {ty:TypeId}{c3 b7:Option Addr}{d3 V c2 sc:Nat}{y b5:List Value}{O W:List ai}{t:TypeId}{b:Nat}(e3:DRow c3 d3 y b5 V b7 c2 sc O W)(h:Sat σ w (W++L))(e8:y.length<V)(e6:y.length<1000000000){C:World->Prop}(c1: ∀g X,Sat σ g (X::(W++L))->C g){K:Option Addr->Nat->Nat->World->Prop}(d0: ∀a7 b4 b6 E,DRow a7 b4 (y++ [iu t b]) b5 V b7 c2 sc O b6->Sat σ E (b6++L)->K a7 (y.length+1) b4 E):
 ∃b8 b9 c8 g,(Instr.buildSlice ap 1 #[(0,iu t b)]).run P w= .ok (hT b8 b9 c8) g/\C g/\
  ∃U c4 I c9,(Builtin.append_ #[ap,ap] ty #[hT c3 y.length d3,hT b8 b9 c8]).run P g= .ok (hT U c4 I) c9/\K U c4 I c9:=by
 obtain⟨h0,e5,⟨e0,junk,sp,rfl,rfl,rfl,e1,e4⟩|⟨e2,d2,rfl,hr⟩⟩:=e3
 ·refine D6 rowInl h (v:=iu t b) (by simp;omega) (by omega) rfl rfl (Bs t _) (C:=C) (λg X a6=>c1 g X a6) λE h=>?_
  have c5:junk≠ []:=by intro h;subst h;simp at e1;omega
  rw[vE c5] at h;refine d0 _ _ _ E ⟨h0,by simp;omega,.inl ⟨e0,junk.drop 1,sp,rfl,rfl,rfl,?_,e4⟩⟩ h;have:=lZ0.2 c5;simp;omega
 ·have e7:=d2.1;have h:Sat σ w (e2++(O++L)):=h.re;refine Sat.app1S rowInl d2 h (v:=iu t b) rfl (by simp[iu,Value.cells,Value.oneCell']) (Bs _ _) (by omega) (by omega) (by decide) (C:=C) (λg X a6=>c1 g X (a6.re)) λU I E d1 b3 h=>?_
  refine d0 U I (d1++O) E ⟨h0,?_,.inr ⟨d1,?_,rfl,hr⟩⟩ (h.re)
  ·have:=b3.2.1;simp;omega
  ·rw[lA0];exact b3
theorem DRow.cells {I W:Option Addr}{b4 U V sc:Nat}{y O:List Value}{a6 E:List ai}(a7:DRow I b4 y O U W V sc a6 E)(h0:0<y.length): ∃(g:Nat) (cs:List Value),I=kE g/\(g,cel cs aD)∈E/\ ∀(j:Nat) (v:Value),y[j]? =some v->cs[j]? =some v:=by
 obtain⟨_,_,⟨g,junk,sp,rfl,rfl,rfl,b5,b6⟩|⟨b7,b3,rfl,hr⟩⟩:=a7
 ·exact⟨g,_,rfl,.head _,λj v hv=>by rw[lM0 (lJ0.1 hv).1];exact hv⟩
 ·obtain⟨g,sp,rfl,rfl⟩:=b3.rowAt h0;exact⟨g,_,rfl,lC1 _ (.head _),λj v hv=>by rw[lM0 (lJ0.1 hv).1];exact hv⟩
theorem DRow.copy {W c2:Option Addr}{I c1 c4 sc k:Nat}{g b9:List Value}{c8 E:List ai}(b4:DRow W I g b9 c1 c2 c4 sc c8 E)(h:Sat σ w (E++L))(e0:k<g.length)(d3:g.length<1000000000)(c9: ∀v∈g,v.oneCell'=true){C:World->Prop}(c3: ∀U X,Sat σ U (X++(E++L))->C U){K:Option Addr->Nat->Nat->World->Prop}(d0: ∀q n c y M,Sl 1 aD q n c (g.drop k) M->Sat σ y (M++(E++L))->K q n c y):
 ∃b6 r2 a6,(∀w,(Instr.sliceAt ap (hT W g.length I) (some (hY k)) none none).run P w= .ok (hT b6 r2 a6) w)/\
  ∃q n c y,(Builtin.append_ #[ap,ap] ap #[hT none 0 0,hT b6 r2 a6]).run P w= .ok (hT q n c) y/\C y/\K q n c y:=by
 obtain⟨c5,cs,rfl,d1,hc⟩:=b4.cells (by omega);have d2:=b4.2.1;refine⟨_,_,_,λw=>Ab rowInl.ht rowInl.hi _ g.length I k (by omega) w,?_⟩;rw[if_neg (by omega),rowInl.hs];simp only[lK3,lL0,lO0,lA1];have b8:Src P 1 ap (hT (some (hZ c5 k)) (g.length - k) (I - k)) (g.length - k) (g.drop k) w:=by
  refine Src.ofSlice w rowInl.ht _ _ _ _ (by simp) (λj u a7=>?_) (λv hv=>c9 v (lZ4 hv));rw[lL0];refine h.ld (lC1 _ d1) (hc _ _ ?_);rw[lG3] at a7;exact a7
 obtain⟨b7,V,y,b5,hr,O,b3,_⟩:=Sat.app rowInl (ty:=ap) (Sl.nil 1 aD) (M:= []) (L:=E++L) h b8 (.inl (by omega)) (by omega) (by omega);rw[lT0] at O;exact⟨b7,_,V,y,hr,c3 _ b5 b3,d0 b7 _ V y b5 O b3⟩

def rx (I O:Bool)(n:Int)(E y:Bool)(g:Int):Bool:=(I && O||E && y) && (Int.tmod (n+g) 3==0 && (Int.tmod n 3 !=0||Int.tmod g 3 !=0))
def DS (I U:Bool)(n:Int)(y:List Inl)(j:Nat):Bool:=match y[j]? with
 |some (.emphP _ E g _ O)=> !rx I U n E g O
 |_=>false
def AY (m:Nat)(l:List Nat):List Nat:=(l.reverse.dropWhile λe=>decide (m<=e)).reverse
def ki (E:Nat)(g y:Bool)(n:Int):Nat->List UInt8->List Inl->List (List Nat)->List UInt8 × List Inl × List (List Nat)
 |0,t,dst,st=>(t,dst,st)
 |f+1,t,dst,st=>if t= [] then (t,dst,st) else match (st.getD E []).reverse.find? (DS g y n dst) with
  |none=>(t,dst,st)
  |some j=>match dst[j]? with
   |some (.emphP s U O W V)=>
    let d:=if 2<=t.length/\2<=s.length then 2 else 1
    let s':=s.take (s.length - d)
    let I:=dst.take j++(if s'= [] then [] else [.emphP s' U O W V])
    let x:=if d=2 then Inl.strong (t.take d) (dst.drop (j+1)) else .emph (t.take d) (dst.drop (j+1))
    ki E g y n f (t.drop d) (I++ [x]) (st.map (AY I.length))
   |_=>(t,dst,st)
def ue (c:UInt8):Nat:=if c=95 then 0 else 1
def dX:List Inl->List (List Nat)->List Inl->List Inl
 |dst,_,[]=>dst
 |dst,st,t::ts=>match t with
  | .openP s _=>dX (dst++ [.plain s]) st ts
  | .emphP s co cc i n=>
   let g:=ue (s.headD 0)
   let r:=if cc then ki g co cc n s.length s dst st else (s,dst,st)
   if r.1= [] then dX r.2.1 r.2.2 ts
   else if co then dX (r.2.1++ [.emphP r.1 co cc r.2.1.length n]) (r.2.2.set g (r.2.2.getD g []++ [r.2.1.length])) ts
   else dX (r.2.1++ [.plain r.1]) r.2.2 ts
  |t=>dX (dst++ [t]) st ts
def yo (ts:List Inl):List Inl:=dX [] [[],[],[],[],[]] ts
theorem InlsAt.get: ∀ {ts:List Inl} {vs:List Value} {M:List ai} {j:Nat} {t:Inl},InlsAt ts vs M->ts[j]? =some t-> ∃v g,vs[j]? =some v/\InlAt t v g/\ ∀c∈g,c∈M
 | [],vs,M,j,t,h,hj=>by simp at hj
 |t'::ts,vs,M,0,t,h,hj=>by
  obtain⟨v,O,y,a7,rfl,rfl,E,I⟩:=h;simp at hj;subst hj
  exact⟨v,y,rfl,E,λc hc=>lC1 _ hc⟩
 |t'::ts,vs,M,j+1,t,h,hj=>by
  obtain⟨v,O,y,a7,rfl,rfl,E,I⟩:=h;obtain⟨V,g,a6,W,U⟩:=I.get (by simpa using hj);exact⟨V,g,by simpa using a6,W,λc hc=>lB0 _ (U c hc)⟩
def emC (b:Nat)(t:List UInt8)(y g:Bool)(i n:Int)(e:TypeId):ai:=(b,cel [hX (bs t),hV y,hV g,hY i,hY n] e)
def EntIn (g:List Inl)(y:List Value)(e:Nat × Nat):Prop:= ∃t I E n,g[e.2]? =some (.emphP t I E (e.2:Nat) n)/\y[e.2]? =some (iu aT e.1)/\0<=n/\n<=1000000000/\t≠ []/\t.length<1000000000
def StkIn (g:List Inl)(y:List Value)(S:List STK):Prop:= ∀s∈S,s.ent.length<1000000000/\s.ent.Pairwise (λa b=>a.2<b.2)/\ ∀e∈s.ent,EntIn g y e
def uV (S:List STK):List (List Nat):=S.map λs=>s.ent.map Prod.snd
theorem sF {t:TypeId}{a b:Nat}(h:iu t a=iu t b):a=b:=by
 simp only[iu,Value.iface.injEq,Value.pointer.injEq,lI1,Addr.mk.injEq,true_and,and_true] at h;exact h
theorem EntIn.chunk {E:List Inl}{I:List Value}{V:List ai}{e:Nat × Nat}(b4:InlsAt E I V)(h:EntIn E I e): ∃t g y n ty,E[e.2]? =some (.emphP t g y (e.2:Nat) n)/\emC e.1 t g y (e.2:Nat) n ty∈V/\0<=n/\n<=1000000000/\t≠ []/\t.length<1000000000:=by
 obtain⟨t,g,y,n,U,a7,b5,b3,W⟩:=h;obtain⟨v,b7,O,a6,b6⟩:=b4.get U;rw[a7] at O;obtain rfl:=Option.some.inj O;obtain⟨b,ty,hb,rfl⟩:=a6;have:=sF hb;subst this;exact⟨t,g,y,n,ty,U,b6 _ (.head _),b5,b3,W⟩
theorem z6 {m:Nat}{y:List (Nat × Nat)}(h:y.Pairwise λa b=>a.2<b.2): ∀e∈mt m y,e.2<m:=by
 induction hn:y.length generalizing y with
 |zero=>rw[lF1 hn];intro e g;simp[Ci] at g
 |succ k E=>
  rcases lY1 y with rfl|⟨I,x,rfl⟩
  ·simp at hn
  ·rw[lK2] at*
   rw[lP6] at h;rw[uC];split
   ·exact E h.1 (by simp at hn;omega)
   ·rename_i O;intro e g;rcases lP0.1 g with g|g
    ·have:=h.2.2 e g x (by simp);omega
    ·simp at g;subst g;omega
theorem Cg {m:Nat}{g:List (Nat × Nat)}{e:Nat × Nat}(h:e∈mt m g):e∈g:=by
 rw[rB] at h;exact lA5 h
theorem Ck (m:Nat)(g:List (Nat × Nat)):(mt m g).length<=g.length:=by
 unfold mt;have:=(lQ2 (λe:Nat × Nat=>decide (m<=e.2)) (l:=g.reverse)).length_le
 simpa using this
theorem Ew {m:Nat}{g:List (Nat × Nat)}(h:g.Pairwise λa b=>a.2<b.2):(mt m g).Pairwise λa b=>a.2<b.2:=by
 rw[rB];exact h.sublist (List.take_sublist ..)
theorem Cj (m:Nat)(g:List (Nat × Nat)):(mt m g).map Prod.snd=AY m (g.map Prod.snd):=by
 unfold mt AY;rw[<-List.map_reverse (l:=g),List.dropWhile_map,List.map_reverse];rfl
theorem Dj (m:Nat)(S:List STK):uV (S.map (STK.trim m))=(uV S).map (AY m):=by
 simp[uV,STK.trim,Function.comp_def,Cj]
def EM (σ:Out)(b1 c1 pb:Nat)(t:List UInt8)(a7 b6:Bool)(b9 n:Int)(b7:TypeId)(y:List Inl)(S:List STK)(W:List Value)(a6:Nat)(b5:Option Addr)(b4 sc:Nat)(b8:List ai)(L:List ai)(w:World):Prop:=
 ∃I V g U O E,InlsAt y g U/\StksAt S O/\S.length=5/\StkIn y g S/\DRow I V g W a6 b5 b4 sc b8 E/\y.length<1000000000/\
  Sat σ w (emC pb t a7 b6 b9 n b7::kJ c1 S::(b1,cel [hT I g.length V] ap)::(O++(U++(E++L))))
theorem EM.tick {b1 b4 pb:Nat}{t:List UInt8}{a6 O:Bool}{U n:Int}{a7:TypeId}{g:List Inl}{S:List STK}{y:List Value}{E:Nat}{I:Option Addr}{V sc:Nat}{W:List ai}(h:EM σ b1 b4 pb t a6 O U n a7 g S y E I V sc W L w):
 EM σ b1 b4 pb t a6 O U n a7 g S y E I V sc W L (tick w):=by
 obtain⟨b8,d0,b5,c1,c2,b6,b9,c8,c3,c9,b7,c4,c5⟩:=h;exact⟨b8,d0,b5,c1,c2,b6,b9,c8,c3,c9,b7,c4,c5.tick⟩
theorem Gt {pb sb:Nat}{n g:Int}(b8:0<=n/\n<=1000000000)(b7:0<=g/\g<=1000000000)(W:w.cell? (hZ pb 4)=some (hY n))(a6:w.cell? (hZ sb 4)=some (hY g)){A B:Prop}(h:if Int.tmod (n+g) 3==0 && (Int.tmod n 3 !=0||Int.tmod g 3 !=0) then A else B):
 aA (some ((hZ pb 0):Addr)) λb4=>aA (some ((hZ sb 0):Addr)) λb5=> ∃(O:Int),w.cell? (b4.add 4)=some (hY O)/\ ∃(I:Int),w.cell? (b5.add 4)=some (hY I)/\
  (3:Int)≠0/\br ((Int.tmod (i64.wrap (O+I)) 3)==0)
   (aA (some ((hZ pb 0):Addr)) λb6=> ∃(U:Int),w.cell? (b6.add 4)=some (hY U)/\(3:Int)≠0/\br ((Int.tmod U 3) !=0) A
    (aA (some ((hZ sb 0):Addr)) λb3=> ∃(V:Int),w.cell? (b3.add 4)=some (hY V)/\(3:Int)≠0/\br ((Int.tmod V 3) !=0) A B)) B:=by
 refine aa (aa ⟨n,W,g,a6,by decide,?_⟩);rw[i64_in _ (by omega)];cases y:(Int.tmod (n+g) 3==0) with
 |false=>rw[y] at h;exact af rfl (by simpa using h)
 |true=>
  refine ag rfl (aa ⟨n,W,by decide,?_⟩);cases E:(Int.tmod n 3 !=0) with
  |true=>rw[y,E] at h;exact ag rfl (by simpa using h)
  |false=>
   refine af rfl (aa ⟨g,a6,by decide,?_⟩);cases a7:(Int.tmod g 3 !=0) with
   |true=>rw[y,E,a7] at h;exact ag rfl (by simpa using h)
   |false=>rw[y,E,a7] at h;exact af rfl (by simpa using h)
theorem HD {sb:Nat}{y g:Bool}(V:w.cell? (hZ sb 1)=some (hV y))(W:w.cell? (hZ sb 2)=some (hV g)){T B:Prop}(h:if y && g then T else B):
 aA (some ((hZ sb 0):Addr)) λO=> ∃(I:Bool),w.cell? (O.add 1)=some (hV I)/\br I (aA (some ((hZ sb 0):Addr)) λU=> ∃(E:Bool),w.cell? (U.add 2)=some (hV E)/\br E T B) B:=by
 refine aa ⟨y,V,?_⟩;cases y with
 |false=>exact af rfl (by simpa using h)
 |true=>
  refine ag rfl (aa ⟨g,W,?_⟩);cases g with
  |false=>exact af rfl (by simpa using h)
  |true=>exact ag rfl (by simpa using h)

theorem Cl {w:World}{K A:World->Prop}(y:A (tick w))(h: ∀g,A g->K g):tk w K:=h _ y
abbrev cl1:Value:= .func (.func fR) #[] #[]
abbrev cl2 (g b1:Nat):Value:= .func (.func fQ) #[] #[kT (kE g),kT (kE b1)]
abbrev XA:=Option Addr->Nat->Nat->Nat->Nat->Value->Value->Int->World->Prop
abbrev XB:=Option Addr->Nat->Nat->Nat->Nat->Value->Value->Int->Option Addr->Option Addr->World->Prop
abbrev XC:=Option Addr->Nat->Nat->Nat->Nat->Value->Value->Int->Option Addr->Option Addr->Int->World->Prop
def Hs (c:UInt8):Prop:=c=42\/c=95
theorem bt0 {t:List UInt8}{c:UInt8}(h:t.head? =some c):bt (bs t) 0=(c.toNat:Int):=by
 cases t with
 |nil=>simp at h
 |cons x t=>simp at h;subst h;rfl
theorem G3 {t:List UInt8}{c:UInt8}(h:t.head? =some c):t≠ []:=by intro h0;subst h0;simp at h
theorem lK {t:List UInt8}{c:UInt8}(h:t.head? =some c):0<((bs t).size:Int):=by
 cases t with
 |nil=>simp at h
 |cons x t=>simp
def dOf (t s:List UInt8):Nat:=if 2<=t.length/\2<=s.length then 2 else 1
theorem CA {Xa:XA}{a7:XB}{U:XC}{b1 g pb I d2:Nat}{t:List UInt8}{c:UInt8}{W V:Bool}{b5 n O:Int}{c1:TypeId}{a6:List Inl}{S:List STK}{s:STK}{d1:List Value}{E:Option Addr}{y sc:Nat}{e2:List ai}(h:EM σ b1 g pb t W V b5 n c1 a6 S d1 d2 E y sc e2 L w)(b7:t.head? =some c)(hc:Hs c)(i0:0<=n/\n<=1000000000)(hs:S[I]? =some s)(j1: ∀k0 w,ay.bl3 R Xa a7 U E y sc b1 g cl1 (cl2 g b1) O (kE pb) (some (hZ g I)) k0 w->U E y sc b1 g cl1 (cl2 g b1) O (kE pb) (some (hZ g I)) k0 w)(n2:(∀e∈s.ent,DS W V n a6 e.2=false)-> ∀w,EM σ b1 g pb t W V b5 n c1 a6 S d1 d2 E y sc e2 L w->ay.k1 R Xa E y sc b1 g cl1 (cl2 g b1) O (kE pb) w)(m5: ∀b9 e b8 st e0 d3 d0,s.ent=b9++e::b8->DS W V n a6 e.2=true->(∀x∈b8,DS W V n a6 x.2=false)->a6[e.2]? =some (.emphP st e0 d3 (e.2:Nat) d0)-> ∀w,EM σ b1 g pb t W V b5 n c1 a6 S d1 d2 E y sc e2 L w->
  ay.k6 R Xa a7 U E y sc b1 g cl1 (cl2 g b1) O (kE pb) (some (hZ g I)) (kE e.1) (dOf t st:Nat) w):
 U E y sc b1 g cl1 (cl2 g b1) O (kE pb) (some (hZ g I)) (i64.wrap ((s.n:Int) - 1)) w:=by
 have f2:s∈S:=lT1 hs;have q1:s.n=s.ent.length/\s.ent.length<1000000000:=by
  obtain⟨f4,f7,f3,g1,q4,g0,m4,i2,q8,i4,q2,q3,b6⟩:=h;obtain⟨A,B,rfl⟩:=lU3 f2;obtain⟨f6,f5,g2,rfl,_,g6,_⟩:=i2.split;have:=g6.1;simp at this;exact⟨by omega,(i4 s f2).1⟩
 have o4: ∀(b9 b8:List (Nat × Nat)) w,s.ent=b9++b8->(∀x∈b8,DS W V n a6 x.2=false)->EM σ b1 g pb t W V b5 n c1 a6 S d1 d2 E y sc e2 L w->
  U E y sc b1 g cl1 (cl2 g b1) O (kE pb) (some (hZ g I)) ((b9.length:Int) - 1) w:=by
  intro b9
  induction hk:b9.length generalizing b9 with
  |zero=>
   intro b8 w e1 f1 h;have:b9= []:=lF1 hk;subst this;refine j1 _ _ (af (by simp) ?_);exact n2 (by rw[e1];simpa using f1) w h
  |succ k r1=>
   intro b8 w e1 f1 h;obtain⟨j0,e,rfl⟩: ∃g3 e,b9=g3++ [e]:=by
    rcases lY1 b9 with rfl|⟨g3,e,rfl⟩
    ·simp at hk
    ·exact⟨g3,e,by simp⟩
   simp at hk;have i1:(((k+1:Nat):Int) - 1)=(k:Int):=by omega
   rw[i1];have r4:s.ent.length=k+1+b8.length:=by rw[e1];simp;omega
   have n3:e∈s.ent:=by rw[e1];simp
   have n0:DS W V n a6 e.2=false-> ∀w,EM σ b1 g pb t W V b5 n c1 a6 S d1 d2 E y sc e2 L w->U E y sc b1 g cl1 (cl2 g b1) O (kE pb) (some (hZ g I)) (i64.wrap ((k:Int) - 1)) w:=by
    intro o0 w h;rw[i64_in _ (by omega)];have:=r1 j0 hk (e::b8) w (by rw[e1];simp) (λx i1=>(lW0.1 i1).elim (λh=>h▸o0) (f1 x)) h
    rw[<-hk] at this⊢;exact this
   have h0:=h;obtain⟨f4,f7,f3,g1,q4,g0,m4,i2,q8,i4,q2,q3,b6⟩:=h;obtain⟨st,e0,d3,d0,ty,hd,l5,h9,g7,r3⟩:=((i4 s f2).2.2 e n3).chunk m4;have f0:DS W V n a6 e.2= !rx W V n e0 d3 d0:=by unfold DS;rw[hd]
   refine j1 _ _ (ag (by simp) (aa ?_));have p5:w.cell? (hZ g I)=some (hT s.q s.n s.c):=by
    refine Sat.ld b6 (.tail _ (.head _)) ?_;rw[lI2,hs];rfl
   refine⟨_,_,_,p5,by omega,by omega,?_⟩;obtain⟨A,B,o2⟩:=lU3 f2;have m3:=i2;rw[o2] at m3;obtain⟨f6,f5,g2,rfl,_,g6,_⟩:=m3.split;have p3:(s.ent.map H9)[k]? =some (kT (kE e.1)):=by
    rw[e1];simp[H9,hk]
   have q5:Sat σ w (f5++(emC pb t W V b5 n c1::kJ g S::(b1,cel [hT f4 f3.length f7] ap)::(f6++(g2++(g1++(g0++L)))))):=b6.re
   refine Sl.loadAt g6 q5 p3 λr6 r5 m6=>?_
   simp only[lL0,lC0,lA1,lO0];refine⟨_,m6,?_⟩;refine Cl (A:=λw=>EM σ b1 g pb t W V b5 n c1 a6 S d1 d2 E y sc e2 L w/\Sat σ w (emC pb t W V b5 n c1::kJ g S::(b1,cel [hT f4 f3.length f7] ap)::((f6++(f5++g2))++(g1++(g0++L))))) ⟨h0.tick,b6.tick⟩ λw i3=>?_
   obtain⟨h0,b6⟩:=i3;have b4: ∀(k:Nat) (v:Value),([hX (bs t),hV W,hV V,hY b5,hY n])[k]? =some v->w.cell? (hZ pb k)=some v:=λk v hv=>Sat.ld b6 (.head _) hv
   have c2: ∀(k:Nat) (v:Value),([hX (bs st),hV e0,hV d3,hY (e.2:Nat),hY d0])[k]? =some v->w.cell? (hZ e.1 k)=some v:=λk v hv=>
    Sat.ld b6 (.tail _ (.tail _ (.tail _ (lB0 _ (lC1 _ l5))))) hv
   have k3:DS W V n a6 e.2=true->ay.k3 R Xa a7 U E y sc b1 g cl1 (cl2 g b1) O (kE pb) (some (hZ g I)) (k:Int) (kE e.1) w:=by
    intro n1;have c3:=λw h=>m5 j0 e b8 st e0 d3 d0 (by rw[e1];simp) n1 f1 hd w h
    refine Cl (A:=λw=>EM σ b1 g pb t W V b5 n c1 a6 S d1 d2 E y sc e2 L w/\Sat σ w (emC pb t W V b5 n c1::kJ g S::(b1,cel [hT f4 f3.length f7] ap)::((f6++(f5++g2))++(g1++(g0++L))))) ⟨h0.tick,b6.tick⟩ λw i3=>?_
    obtain⟨h0,b6⟩:=i3;have b4: ∀(k:Nat) (v:Value),([hX (bs t),hV W,hV V,hY b5,hY n])[k]? =some v->w.cell? (hZ pb k)=some v:=λk v hv=>Sat.ld b6 (.head _) hv
    have c2: ∀(k:Nat) (v:Value),([hX (bs st),hV e0,hV d3,hY (e.2:Nat),hY d0])[k]? =some v->w.cell? (hZ e.1 k)=some v:=λk v hv=>
     Sat.ld b6 (.tail _ (.tail _ (.tail _ (lB0 _ (lC1 _ l5))))) hv
    refine aa ⟨_,b4 0 _ rfl,by omega,lK b7,?_⟩;rw[bt0 b7];refine af (by rcases hc with rfl|rfl<;>rfl) ?_;refine aa ⟨_,b4 0 _ rfl,by omega,lK b7,?_⟩;rw[bt0 b7];refine af (by rcases hc with rfl|rfl<;>rfl) ?_;refine aa ⟨_,b4 0 _ rfl,by omega,lK b7,?_⟩;rw[bt0 b7];refine af (by rcases hc with rfl|rfl<;>rfl) ?_;refine aa ⟨_,b4 0 _ rfl,?_⟩;rw[aF];have c3:=c3 w h0;unfold dOf at c3
    by_cases p1:2<=t.length
    ·refine ag (by simp;omega) (aa ⟨_,c2 0 _ rfl,?_⟩);rw[aF]
     by_cases q0:2<=st.length
     ·rw[if_pos ⟨p1,q0⟩] at c3;exact ag (by simp;omega) c3
     ·rw[if_neg (by omega)] at c3;exact af (by simp;omega) c3
    ·rw[if_neg (by omega)] at c3;exact af (by simp;omega) c3
   have body:aA (some ((hZ pb 0):Addr)) λo3=> ∃(m2:Bool),w.cell? (o3.add 1)=some (hV m2)/\br m2
    (aA (some ((hZ pb 0):Addr)) λp4=> ∃(m1:Bool),w.cell? (p4.add 2)=some (hV m1)/\br m1
     (aA (some ((hZ pb 0):Addr)) λe3=>aA (some ((hZ e.1 0):Addr)) λe4=> ∃(c9:Int),w.cell? (e3.add 4)=some (hY c9)/\ ∃(c4:Int),w.cell? (e4.add 4)=some (hY c4)/\
      (3:Int)≠0/\br ((Int.tmod (i64.wrap (c9+c4)) 3)==0)
       (aA (some ((hZ pb 0):Addr)) λe7=> ∃(c5:Int),w.cell? (e7.add 4)=some (hY c5)/\(3:Int)≠0/\br ((Int.tmod c5 3) !=0) (U E y sc b1 g cl1 (cl2 g b1) O (kE pb) (some (hZ g I)) (i64.wrap ((k:Int) - 1)) w)
        (aA (some ((hZ e.1 0):Addr)) λe8=> ∃(c8:Int),w.cell? (e8.add 4)=some (hY c8)/\(3:Int)≠0/\br ((Int.tmod c8 3) !=0) (U E y sc b1 g cl1 (cl2 g b1) O (kE pb) (some (hZ g I)) (i64.wrap ((k:Int) - 1)) w)
         (ay.k3 R Xa a7 U E y sc b1 g cl1 (cl2 g b1) O (kE pb) (some (hZ g I)) (k:Int) (kE e.1) w)))
       (ay.k3 R Xa a7 U E y sc b1 g cl1 (cl2 g b1) O (kE pb) (some (hZ g I)) (k:Int) (kE e.1) w))
     (aA (some ((hZ e.1 0):Addr)) λg5=> ∃(e5:Bool),w.cell? (g5.add 1)=some (hV e5)/\br e5 (aA (some ((hZ e.1 0):Addr)) λh8=> ∃(e6:Bool),w.cell? (h8.add 2)=some (hV e6)/\br e6
      (aA (some ((hZ pb 0):Addr)) λe3=>aA (some ((hZ e.1 0):Addr)) λe4=> ∃(c9:Int),w.cell? (e3.add 4)=some (hY c9)/\ ∃(c4:Int),w.cell? (e4.add 4)=some (hY c4)/\
       (3:Int)≠0/\br ((Int.tmod (i64.wrap (c9+c4)) 3)==0)
        (aA (some ((hZ pb 0):Addr)) λe7=> ∃(c5:Int),w.cell? (e7.add 4)=some (hY c5)/\(3:Int)≠0/\br ((Int.tmod c5 3) !=0) (U E y sc b1 g cl1 (cl2 g b1) O (kE pb) (some (hZ g I)) (i64.wrap ((k:Int) - 1)) w)
         (aA (some ((hZ e.1 0):Addr)) λe8=> ∃(c8:Int),w.cell? (e8.add 4)=some (hY c8)/\(3:Int)≠0/\br ((Int.tmod c8 3) !=0) (U E y sc b1 g cl1 (cl2 g b1) O (kE pb) (some (hZ g I)) (i64.wrap ((k:Int) - 1)) w)
          (ay.k3 R Xa a7 U E y sc b1 g cl1 (cl2 g b1) O (kE pb) (some (hZ g I)) (k:Int) (kE e.1) w)))
        (ay.k3 R Xa a7 U E y sc b1 g cl1 (cl2 g b1) O (kE pb) (some (hZ g I)) (k:Int) (kE e.1) w))
      (ay.k3 R Xa a7 U E y sc b1 g cl1 (cl2 g b1) O (kE pb) (some (hZ g I)) (k:Int) (kE e.1) w))
      (ay.k3 R Xa a7 U E y sc b1 g cl1 (cl2 g b1) O (kE pb) (some (hZ g I)) (k:Int) (kE e.1) w)))
    (aA (some ((hZ e.1 0):Addr)) λg5=> ∃(e5:Bool),w.cell? (g5.add 1)=some (hV e5)/\br e5 (aA (some ((hZ e.1 0):Addr)) λh8=> ∃(e6:Bool),w.cell? (h8.add 2)=some (hV e6)/\br e6
     (aA (some ((hZ pb 0):Addr)) λe3=>aA (some ((hZ e.1 0):Addr)) λe4=> ∃(c9:Int),w.cell? (e3.add 4)=some (hY c9)/\ ∃(c4:Int),w.cell? (e4.add 4)=some (hY c4)/\
      (3:Int)≠0/\br ((Int.tmod (i64.wrap (c9+c4)) 3)==0)
       (aA (some ((hZ pb 0):Addr)) λe7=> ∃(c5:Int),w.cell? (e7.add 4)=some (hY c5)/\(3:Int)≠0/\br ((Int.tmod c5 3) !=0) (U E y sc b1 g cl1 (cl2 g b1) O (kE pb) (some (hZ g I)) (i64.wrap ((k:Int) - 1)) w)
        (aA (some ((hZ e.1 0):Addr)) λe8=> ∃(c8:Int),w.cell? (e8.add 4)=some (hY c8)/\(3:Int)≠0/\br ((Int.tmod c8 3) !=0) (U E y sc b1 g cl1 (cl2 g b1) O (kE pb) (some (hZ g I)) (i64.wrap ((k:Int) - 1)) w)
         (ay.k3 R Xa a7 U E y sc b1 g cl1 (cl2 g b1) O (kE pb) (some (hZ g I)) (k:Int) (kE e.1) w)))
       (ay.k3 R Xa a7 U E y sc b1 g cl1 (cl2 g b1) O (kE pb) (some (hZ g I)) (k:Int) (kE e.1) w))
     (ay.k3 R Xa a7 U E y sc b1 g cl1 (cl2 g b1) O (kE pb) (some (hZ g I)) (k:Int) (kE e.1) w))
     (ay.k3 R Xa a7 U E y sc b1 g cl1 (cl2 g b1) O (kE pb) (some (hZ g I)) (k:Int) (kE e.1) w)):=by
    have i8:(W && V||e0 && d3)=true->if Int.tmod (n+d0) 3==0 && (Int.tmod n 3 !=0||Int.tmod d0 3 !=0) then (U E y sc b1 g cl1 (cl2 g b1) O (kE pb) (some (hZ g I)) (i64.wrap ((k:Int) - 1)) w)
     else (ay.k3 R Xa a7 U E y sc b1 g cl1 (cl2 g b1) O (kE pb) (some (hZ g I)) (k:Int) (kE e.1) w):=by
     intro e9;split
     ·rename_i hb;exact n0 (by rw[f0];unfold rx;rw[e9,hb];rfl) w h0
     ·rename_i hb;exact k3 (by rw[f0];unfold rx;rw[e9];simp only[lX5] at hb;rw[hb];rfl)
    refine aa ⟨W,b4 1 _ rfl,?_⟩;cases g4:W with
    |false=>exact af rfl (HD (c2 1 _ rfl) (c2 2 _ rfl) (by
     split
     ·rename_i hb;exact Gt i0 ⟨h9,g7⟩ (b4 4 _ rfl) (c2 4 _ rfl) (i8 (by rw[hb];simp))
     ·rename_i hb;simp only[lX5] at hb;exact k3 (by rw[f0];unfold rx;rw[g4,hb];rfl)))
    |true=>
     refine ag rfl (aa ⟨V,b4 2 _ rfl,?_⟩);cases e9:V with
     |false=>exact af rfl (HD (c2 1 _ rfl) (c2 2 _ rfl) (by
      split
      ·rename_i hb;exact Gt i0 ⟨h9,g7⟩ (b4 4 _ rfl) (c2 4 _ rfl) (i8 (by rw[hb];simp))
      ·rename_i hb;simp only[lX5] at hb;exact k3 (by rw[f0];unfold rx;rw[g4,e9,hb];rfl)))
     |true=>exact ag rfl (Gt i0 ⟨h9,g7⟩ (b4 4 _ rfl) (c2 4 _ rfl) (i8 (by rw[g4,e9];rfl)))
   refine aa ⟨_,b4 0 _ rfl,by omega,lK b7,?_⟩;rw[bt0 b7];rcases hc with rfl|rfl
   ·exact ag rfl body
   ·refine af rfl (aa ⟨_,b4 0 _ rfl,by omega,lK b7,?_⟩);rw[bt0 b7];exact ag rfl body
 rw[q1.1,i64_in _ (by omega)];exact o4 s.ent [] w (by simp) (by simp) h

def sw (st:List UInt8)(d:Nat):List UInt8:=st.take (st.length - d)
def yN (y:List Inl)(j:Nat)(s':List UInt8)(E g:Bool)(O I:Int):List Inl:=y.take j++(if s'= [] then [] else [.emphP s' E g O I])
def xOf (t:List UInt8)(d:Nat)(inner:List Inl):Inl:=if d=2 then Inl.strong (t.take d) inner else .emph (t.take d) inner
theorem oa (s:List UInt8):((bs s).toList==(hP #[]).toList)=decide (s= []):=by
 rw[cn,gL,lD5];simp
theorem InlAt.oneCell {t:Inl}{v:Value}{M:List ai}(h:InlAt t v M):v.oneCell'=true:=by
 obtain⟨b,_,_,_,rfl,_⟩:=h.ptr;rfl
theorem InlsAt.oneCell {ts:List Inl}{vs:List Value}{M:List ai}(h:InlsAt ts vs M): ∀v∈vs,v.oneCell'=true:=by
 intro v hv;obtain⟨j,g⟩:=lL6.1 hv;have V:=h.length;have I:=(lJ0.1 g).1;obtain⟨O,U,y,E,_⟩:=h.get (lH0 (show j<ts.length by omega));rw[g] at y;obtain rfl:=Option.some.inj y;exact E.oneCell
theorem Gz {Xa:XA}{e7:XB}{o0:XC}{b1 g pb e0 f5:Nat}{t st:List UInt8}{c:UInt8}{b4 W I E:Bool}{a7 n e6 y:Int}{a6:TypeId}{b5:List Inl}{S:List STK}{s:STK}{h9:List Value}{d1:Option Addr}{d0 sc:Nat}{l5:List ai}{e:Nat × Nat}(h:EM σ b1 g pb t b4 W a7 n a6 b5 S h9 f5 d1 d0 sc l5 L w)(h7:t.head? =some c)(hc:Hs c)(hs:S[e0]? =some s)(r3:e∈s.ent)(hd:b5[e.2]? =some (.emphP st I E (e.2:Nat) y))(u8:e.2+1<b5.length)(u0:b5.length<=f5)(u1:t.length<1000000000)(o2: ∀w,EM σ b1 g pb (t.drop (dOf t st)) b4 W a7 n a6 (yN b5 e.2 (sw st (dOf t st)) I E (e.2:Nat) y++ [xOf t (dOf t st) (b5.drop (e.2+1))]) (S.map (STK.trim (yN b5 e.2 (sw st (dOf t st)) I E (e.2:Nat) y).length)) h9 f5 d1 d0 sc l5 L w->
  e7 d1 d0 sc b1 g cl1 (cl2 g b1) e6 (kE pb) (some (hZ g e0)) w):
 ay.k6 R Xa e7 o0 d1 d0 sc b1 g cl1 (cl2 g b1) e6 (kE pb) (some (hZ g e0)) (kE e.1) (dOf t st:Nat) w:=by
 obtain⟨b8,b9,b7,v7,d2,c5,g7,r4,f2,f4,g6,v0,h⟩:=h;have r6:s∈S:=lT1 hs;have m5:=(f4 s r6).2.2 e r3;have v6:=g7.length;have q3:=g7.oneCell;have s5:b5=b5.take e.2++(.emphP st I E (e.2:Nat) y)::b5.drop (e.2+1):=by
  have o3:e.2<b5.length:=by omega
  have t0:b5[e.2]= .emphP st I E (e.2:Nat) y:=by rw[lH0 o3] at hd;exact Option.some.inj hd
  rw[<-t0,<-lG1 o3,lW1]
 have m6:=g7;rw[s5] at m6;obtain⟨i4,v,i1,V,v8,U,f3,rfl,h8,hv,m4⟩:=m6.mid;have i8:i4.length=e.2:=by have:=h8.length;rw[lY0] at this;omega
 obtain⟨sb,se,rfl,rfl⟩:=hv;have s6:sb=e.1:=by
  obtain⟨_,_,_,_,_,b6,_⟩:=m5;rw[f3,lI0 (by omega),i8] at b6;simp at b6;exact sF b6
 subst s6;obtain⟨q2,q4,p5,v4⟩:st≠ []/\0<=y/\y<=1000000000/\st.length<1000000000:=by
  obtain⟨t',i2,j0,d3,f7,b6,t8,t4,f2⟩:=m5;rw[hd] at f7;simp only[lI1,Inl.emphP.injEq] at f7;obtain⟨rfl,rfl,rfl,_,rfl⟩:=f7;exact⟨f2.1,t8,t4,f2.2⟩
 have u4:=lZ0.2 (G3 h7);have t9:=lZ0.2 q2;generalize s3:dOf t st=d at o2⊢;have h6:(d=1\/d=2)/\d<=t.length/\d<=st.length:=by
  rw[<-s3];unfold dOf;split<;>omega
 obtain⟨h6,v2,v3⟩:=h6;have p3:b7.drop (e.2+1)=i1:=by rw[f3,lY5,lE2 (by omega),i8];simp
 have p4:b7.take e.2=i4:=by rw[f3,lS3 (by omega),lB2 (by omega)]
 have p1:b7.take (e.2+1)=i4++ [iu aT e.1]:=by
  rw[f3,List.take_append,lB2 (by omega),i8];simp
 have h:Sat σ w (emC pb t b4 W a7 n a6::kJ g S::(b1,cel [hT b8 b7.length b9] ap)::(d2++((V++([emC e.1 st I E (e.2:Nat) y se]++U))++(c5++L)))):=h
 have h:Sat σ w (emC pb t b4 W a7 n a6::emC e.1 st I E (e.2:Nat) y se::(b1,cel [hT b8 b7.length b9] ap)::kJ g S::(d2++(V++(U++(c5++L))))):=h.re
 refine aa ⟨_,Sat.ld h (.head _) rfl,by omega,lK h7,?_⟩;refine h.tk λw h=>?_
 refine aa (aa ?_);refine⟨_,Sat.ld h (.head _) rfl,by omega,by rw[aF];omega,?_⟩;refine⟨_,_,_,Sat.ld h (.tail _ (.tail _ (.head _))) rfl,?_⟩;refine⟨_,Sat.ld h (.tail _ (.head _)) rfl,?_⟩;have o4:i64.wrap (((e.2:Nat):Int)+1)=((e.2+1:Nat):Int):=aL (by omega)
 rw[o4];have h0:=h;have hr:Sat σ w (c5++(emC pb t b4 W a7 n a6::emC e.1 st I E (e.2:Nat) y se::(b1,cel [hT b8 b7.length b9] ap)::kJ g S::(d2++(V++(U++L))))):=h.re
 refine g6.copy hr (k:=e.2+1) (by omega) (by omega) q3 (C:=λe9=>SameC _ e9 _ 1) (λe9 X t2=>h0.same t2 (.head _) (lB0 _ (lB0 _ (.head _))) 1) λq c3 c1 w M j1 h=>?_
 rw[p3] at j1;have h:Sat σ w (emC pb t b4 W a7 n a6::emC e.1 st I E (e.2:Nat) y se::(b1,cel [hT b8 b7.length b9] ap)::kJ g S::(d2++(V++(M++(U++(c5++L)))))):=h.re
 refine Sat.bx h λO w h=>?_
 rw[lC0,bV,lO2] at h;have h:Sat σ w (emC pb t b4 W a7 n a6::emC e.1 st I E (e.2:Nat) y se::(b1,cel [hT b8 b7.length b9] ap)::kJ g S::(d2++(V++((O,cel [hX (bs (t.take d)),hT q c3 c1] jC)::(M++(U++(c5++L))))))):=h.re
 refine h.tk λw h=>?_
 refine aa (aa ?_);refine⟨_,Sat.ld h (.tail _ (.head _)) rfl,_,Sat.ld h (.tail _ (.head _)) rfl,?_⟩;have s9:i64.wrap (((bs st).size:Int) - (d:Int))=((st.length - d:Nat):Int):=by rw[aF,i64_in _ (by omega)];omega
 rw[s9,aF];refine⟨by omega,by omega,aa ?_⟩;rw[lC0,bV,lO2];refine h.stA 1 λw h=>?_
 have h:Sat σ w (emC pb t b4 W a7 n a6::emC e.1 (sw st d) I E (e.2:Nat) y se::(b1,cel [hT b8 b7.length b9] ap)::kJ g S::(d2++(V++((O,cel [hX (bs (t.take d)),hT q c3 c1] jC)::(M++(U++(c5++L))))))):=h
 refine aa ⟨_,Sat.ld h (.head _) rfl,by omega,by rw[aF];omega,aa ?_⟩;rw[aF,lC0,og];refine h.stA 0 λw h=>?_
 have h:Sat σ w (emC pb (t.drop d) b4 W a7 n a6::emC e.1 (sw st d) I E (e.2:Nat) y se::(b1,cel [hT b8 b7.length b9] ap)::kJ g S::(d2++(V++((O,cel [hX (bs (t.take d)),hT q c3 c1] jC)::(M++(U++(c5++L))))))):=h
 refine aa ⟨_,Sat.ld h (.tail _ (.head _)) rfl,?_⟩;rw[oa];have rest: ∀(m:Nat) w,m=(yN b5 e.2 (sw st d) I E (e.2:Nat) y).length->m<=e.2+1->
  (∃f6,InlsAt (yN b5 e.2 (sw st d) I E (e.2:Nat) y) (b7.take m) f6/\ ∃G,(∀a,cnt a (emC e.1 (sw st d) I E (e.2:Nat) y se::V)=cnt a (G++f6)))->
  Sat σ w (emC pb (t.drop d) b4 W a7 n a6::emC e.1 (sw st d) I E (e.2:Nat) y se::(b1,cel [hT b8 m b9] ap)::kJ g S::(d2++(V++((O,cel [hX (bs (t.take d)),hT q c3 c1] jC)::(M++(U++(c5++L)))))))->
  ay.k7 R Xa e7 o0 d1 d0 sc b1 g cl1 (cl2 g b1) e6 (kE pb) (some (hZ g e0)) (d:Nat) ((bt (bs t) 0)==126) (kE O) w:=by
  intro m w e8 u2 s2 h;obtain⟨f6,q8,G,s7⟩:=s2;refine ir ?_;have h:Sat σ w (kJ g S::(b1,cel [hT b8 m b9] ap)::(d2++(emC e.1 (sw st d) I E (e.2:Nat) y se::(V++(U++(emC pb (t.drop d) b4 W a7 n a6::(O,cel [hX (bs (t.take d)),hT q c3 c1] jC)::(M++(c5++L)))))))):=h.re
  have r5: ∀s∈S,Eg s.ent (emC e.1 (sw st d) I E (e.2:Nat) y se::(V++(U++(emC pb (t.drop d) b4 W a7 n a6::(O,cel [hX (bs (t.take d)),hT q c3 c1] jC)::(M++(c5++L)))))):=by
   intro s' i0 x g0;obtain⟨t',i2,j0,d3,ty,f7,b6,_⟩:=((f4 s' i0).2.2 x g0).chunk g7;rcases lP0.1 b6 with b6|b6
   ·exact⟨_,ty,.tail _ (lC1 _ b6),rfl⟩
   ·rcases lP0.1 b6 with b6|b6
    ·simp only[lN0] at b6;have r8:x.1=e.1:=by have:=congrArg (λc:ai=>c.1) b6;exact this
     have v5:(x.2:Int)=(e.2:Int):=by
      have:=congrArg (λc:ai=>c.2) b6
      simp only[emC,cel,Obj.cells.injEq] at this;have:=congrArg Array.toList this.1;simp only[lU0,Value.int.injEq,true_and] at this;exact this.2.2.2.1
     have s1:x.2=e.2:=by omega
     exact⟨_,se,by rw[r8];exact .head _,by rw[s1];rfl⟩
    ·exact⟨_,ty,.tail _ (lB0 _ (lC1 _ b6)),rfl⟩
  refine AX f2 r4 r5 (λs hs=>(f4 s hs).1) h λw e5 q0 h=>⟨rfl,?_⟩
  rw[bt0 h7];refine af (by rcases hc with rfl|rfl<;>rfl) ?_;have f0:(b7.take m).length=m:=by rw[lY0];omega
  have n0:=g6.take (k:=m) (by omega);have q5:StkIn (yN b5 e.2 (sw st d) I E (e.2:Nat) y++ [xOf t d (b5.drop (e.2+1))]) (b7.take m++ [iu (if d=2 then fK else jr) O]) (S.map (STK.trim m)):=by
   intro s' i0;obtain⟨s0,r7,rfl⟩:=lU1.1 i0;obtain⟨a1,a2,a3⟩:=f4 s0 r7;refine⟨Nat.lt_of_le_of_lt (Ck m s0.ent) a1,Ew a2,λx g0=>?_⟩;have r9:=z6 a2 x g0;obtain⟨t',i2,j0,d3,t3,t7,t6,t5,s8⟩:=a3 x (Cg g0);have m3:(b7.take m++ [iu (if d=2 then fK else jr) O])[x.2]? =some (iu aT x.1):=by
    rw[lM0 (by omega),lO3 r9];exact t7
   by_cases i3:x.2<e.2
   ·refine⟨t',i2,j0,d3,?_,m3,t6,t5,s8⟩;unfold yN;rw[lD0,lM0 (by rw[lY0];omega),lO3 i3];exact t3
   ·have i3:x.2=e.2:=by omega
    have n1:sw st d≠ []:=by
     intro h0;unfold yN at e8;rw[h0,if_pos rfl,lG0,lY0] at e8;omega
    refine⟨sw st d,I,E,y,?_,m3,q4,p5,n1,by unfold sw;rw[lY0];omega⟩;unfold yN;rw[if_neg n1,lD0,lI0 (by rw[lY0];omega),i3,lY0,lJ6 (by omega),lQ1];rfl
  have fin: ∀w (ty:TypeId),ty=(if d=2 then fK else jr)-> ∀c9 c8 c4,DRow c9 c8 (b7.take m++ [iu ty O]) h9 f5 d1 d0 sc l5 c4->
   Sat σ w ((b1,cel [hT c9 (m+1) c8] ap)::kJ g (S.map (STK.trim m))::(e5++(emC e.1 (sw st d) I E (e.2:Nat) y se::(V++(U++(emC pb (t.drop d) b4 W a7 n a6::(O,cel [hX (bs (t.take d)),hT q c3 c1] jC)::(M++(c4++L))))))))->
   e7 d1 d0 sc b1 g cl1 (cl2 g b1) e6 (kE pb) (some (hZ g e0)) w:=by
   intro w ty s4 c9 c8 c4 f1 h;subst s4;refine o2 w ⟨c9,c8,_,f6++((O,cel [hX (bs (t.take d)),hT q c3 c1] jC)::(M++U)),e5,c4,q8.append (InlsAt.one ?_),by rw[<-e8];exact q0,by rw[lQ0];exact f2,by rw[<-e8];exact q5,f1,?_,?_⟩
   ·unfold xOf;split
    ·exact⟨O,_,q,c3,c1,i1,M,U,rfl,rfl,j1,m4⟩
    ·exact⟨O,_,q,c3,c1,i1,M,U,rfl,rfl,j1,m4⟩
   ·rw[lA0,<-e8];simp;omega
   ·rw[lA0,f0];rw[<-e8];have h:Sat σ w ((emC e.1 (sw st d) I E (e.2:Nat) y se::V)++(emC pb (t.drop d) b4 W a7 n a6::kJ g (S.map (STK.trim m))::(b1,cel [hT c9 (m+1) c8] ap)::(e5++(U++((O,cel [hX (bs (t.take d)),hT q c3 c1] jC)::(M++(c4++L))))))):=h.re
    refine h.less G λa=>?_
    have:=s7 a;simp only[dJ,ff] at this⊢;simp only[lE0];omega
  have h:Sat σ w (c5++((b1,cel [hT b8 m b9] ap)::kJ g (S.map (STK.trim m))::(e5++(emC e.1 (sw st d) I E (e.2:Nat) y se::(V++(U++(emC pb (t.drop d) b4 W a7 n a6::(O,cel [hX (bs (t.take d)),hT q c3 c1] jC)::(M++L)))))))):=h.re
  have n3:w.cell? (hZ b1 0)=some (hT b8 m b9):=Sat.ld h (lB0 _ (.head _)) rfl;rcases h6 with rfl|rfl
  ·refine af rfl ⟨b8,m,b9,n3,?_⟩;have:=n0.app (ty:=ap) (t:=jr) (b:=O) h (by omega) (by omega) (C:=λ_=>True) (λ_ _ _=>trivial) (K:=λm2 d3 k0 e3=>stV e3 (hZ b1 0) (hT m2 d3 k0) λw=>e7 d1 d0 sc b1 g cl1 (cl2 g b1) e6 (kE pb) (some (hZ g e0)) w) (λc9 c8 c4 e3 f1 h=>by
    have h:Sat σ e3 ((b1,cel [hT b8 m b9] ap)::kJ g (S.map (STK.trim m))::(e5++(emC e.1 (sw st 1) I E (e.2:Nat) y se::(V++(U++(emC pb (t.drop 1) b4 W a7 n a6::(O,cel [hX (bs (t.take 1)),hT q c3 c1] jC)::(M++(c4++L)))))))):=h.re
    rw[f0];refine Sat.st h (k:=0) rfl (lQ3 _) trivial rfl λw h=>?_
    exact fin w jr rfl c9 c8 c4 f1 h)
   rw[f0] at this;obtain⟨a,b,c,e9,m1,_,r2⟩:=this;exact⟨a,b,c,e9,m1,r2⟩
  ·refine ag rfl ⟨b8,m,b9,n3,?_⟩;have:=n0.app (ty:=ap) (t:=fK) (b:=O) h (by omega) (by omega) (C:=λ_=>True) (λ_ _ _=>trivial) (K:=λm2 d3 k0 e3=>stV e3 (hZ b1 0) (hT m2 d3 k0) λw=>e7 d1 d0 sc b1 g cl1 (cl2 g b1) e6 (kE pb) (some (hZ g e0)) w) (λc9 c8 c4 e3 f1 h=>by
    have h:Sat σ e3 ((b1,cel [hT b8 m b9] ap)::kJ g (S.map (STK.trim m))::(e5++(emC e.1 (sw st 2) I E (e.2:Nat) y se::(V++(U++(emC pb (t.drop 2) b4 W a7 n a6::(O,cel [hX (bs (t.take 2)),hT q c3 c1] jC)::(M++(c4++L)))))))):=h.re
    rw[f0];refine Sat.st h (k:=0) rfl (lQ3 _) trivial rfl λw h=>?_
    exact fin w fK rfl c9 c8 c4 f1 h)
   rw[f0] at this;obtain⟨a,b,c,e9,m1,_,r2⟩:=this;exact⟨a,b,c,e9,m1,r2⟩
 by_cases e4:sw st d= []
 ·refine ag (by simpa using e4) ?_;refine h.tk λw h=>?_
  refine aa ⟨_,_,_,Sat.ld h (.tail _ (.tail _ (.head _))) rfl,_,Sat.ld h (.tail _ (.head _)) rfl,?_⟩;have q1:=g6.2.1;refine⟨_,_,_,λw=>rE rowInl.ht rowInl.hi _ _ _ e.2 (by omega) w,?_⟩;refine Sat.st h (k:=2) rfl (lQ3 _) trivial rfl λw h=>?_
  refine rest e.2 w ?_ (by omega) ⟨V,?_,[emC e.1 (sw st d) I E (e.2:Nat) y se],λa=>rfl⟩ h
  ·unfold yN;rw[if_pos e4,lG0,lY0];omega
  ·unfold yN;rw[if_pos e4,lG0,p4];exact h8
 ·refine af (by simpa using e4) ?_;refine h.tk λw h=>?_
  refine aa ⟨_,_,_,Sat.ld h (.tail _ (.tail _ (.head _))) rfl,_,Sat.ld h (.tail _ (.head _)) rfl,?_⟩;have q1:=g6.2.1;rw[o4];refine⟨_,_,_,λw=>rE rowInl.ht rowInl.hi _ _ _ (e.2+1) (by omega) w,?_⟩;refine Sat.st h (k:=2) rfl (lQ3 _) trivial rfl λw h=>?_
  refine rest (e.2+1) w ?_ (by omega) ⟨V++ [emC e.1 (sw st d) I E (e.2:Nat) y se],?_,[],λa=>?_⟩ h
  ·unfold yN;rw[if_neg e4,lA0,lY0];simp;omega
  ·unfold yN;rw[if_neg e4,p1];exact h8.append (InlsAt.one ⟨e.1,se,rfl,rfl⟩)
  ·simp only[dJ,ff,mS,lT0];omega

theorem vY {S:List STK}{g:Nat}{s:STK}(hs:S[g]? =some s):(uV S).getD g []=s.ent.map Prod.snd:=by
 rw[lS0];simp[uV,hs]
theorem yg {p:Nat->Bool}{y:List (Nat × Nat)}(h: ∀e∈y,p e.2=false):(y.map Prod.snd).reverse.find? p=none:=by
 rw[List.find?_eq_none];intro x g;rw[List.mem_reverse] at g;obtain⟨e,E,rfl⟩:=lU1.1 g;simp[h e E]
theorem Dx {p:Nat->Bool}{y g:List (Nat × Nat)}{e:Nat × Nat}(E:p e.2=true)(I: ∀x∈g,p x.2=false):((y++e::g).map Prod.snd).reverse.find? p=some e.2:=by
 rw[lV0,lH5,lP1,lT4,lD0,List.find?_append,yg I];simp[E]
def AllC (c:UInt8)(t:List UInt8):Prop:= ∀x∈t,x=c
theorem AllC.head {c:UInt8}{t:List UInt8}(h:AllC c t)(ht:t≠ []):t.head? =some c:=by
 cases t with
 |nil=>exact absurd rfl ht
 |cons x t=>rw[h x (by simp)];rfl
theorem AllC.drop {c:UInt8}{t:List UInt8}(h:AllC c t)(d:Nat):AllC c (t.drop d):=λx g=>h x (lZ4 g)
theorem Fi {Xa:XA}{c4:XB}{b1 y pb E b5:Nat}{c:UInt8}{c5 c3:Bool}{e7 n b4:Int}{f1:TypeId}{e2:List Value}{U:Option Addr}{V sc:Nat}{e9:List ai}(h7:E<5)(hc:Hs c)(g5:0<=n/\n<=1000000000)(b7: ∀w,ay.bl2 R Xa c4 U V sc b1 y cl1 (cl2 y b1) b4 (kE pb) (some (hZ y E)) w->c4 U V sc b1 y cl1 (cl2 y b1) b4 (kE pb) (some (hZ y E)) w):
 ∀(f:Nat) (t:List UInt8) (g:List Inl) (S:List STK) (w:World),t.length<=f->AllC c t->t.length<1000000000->EM σ b1 y pb t c5 c3 e7 n f1 g S e2 b5 U V sc e9 L w->g.length<=b5->
  (∀s,S[E]? =some s-> ∀e∈s.ent,e.2+1<g.length)->
  (∀t' I W w,ki E c5 c3 n f t g (uV S)=(t',I,uV W)->AllC c t'->t'.length<=t.length->EM σ b1 y pb t' c5 c3 e7 n f1 I W e2 b5 U V sc e9 L w->I.length<=b5->I.length<=g.length->
   (t'=t/\I=g/\W=S\/ ∀s∈W,∀e∈s.ent,e.2+1<I.length)->
   ay.k1 R Xa U V sc b1 y cl1 (cl2 y b1) b4 (kE pb) w)->
  c4 U V sc b1 y cl1 (cl2 y b1) b4 (kE pb) (some (hZ y E)) w:=by
 intro f
 induction f with
 |zero=>
  intro t g S w h1 O d3 h a6 c8 a7;have ht:t= []:=lF1 (by omega);subst ht;refine b7 _ ?_;have h0:=h;obtain⟨e8,e6,e1,f0,f2,e5,_,_,_,_,_,_,h⟩:=h;refine aa ⟨_,Sat.ld h (.head _) rfl,af (by rw[oa];rfl) ?_⟩;exact a7 [] g S w rfl O (lE1 _) h0 a6 (lE1 _) (.inl ⟨rfl,rfl,rfl⟩)
 |succ f h3=>
  intro t g S w h1 O d3 h a6 c8 a7
  by_cases ht:t= []
  ·subst ht;refine b7 _ ?_;have h0:=h;obtain⟨e8,e6,e1,f0,f2,e5,_,_,_,_,_,_,h⟩:=h;refine aa ⟨_,Sat.ld h (.head _) rfl,af (by rw[oa];rfl) ?_⟩;exact a7 [] g S w rfl O (lE1 _) h0 a6 (lE1 _) (.inl ⟨rfl,rfl,rfl⟩)
  have e0:=O.head ht;refine b7 _ ?_;have h0:=h;have i2:S.length=5:=by obtain⟨_,_,_,_,_,_,_,_,h,_⟩:=h;exact h
  have hs:S[E]? =some S[E]:=lH0 (by omega);generalize S[E]=s at hs;obtain⟨e8,e6,e1,f0,f2,e5,_,_,_,g0,_,_,d0⟩:=h;refine aa ⟨_,Sat.ld d0 (.head _) rfl,ag (by rw[oa];simpa using ht) (aa ?_)⟩;have g4:w.cell? (hZ y E)=some (hT s.q s.n s.c):=by
   refine Sat.ld d0 (.tail _ (.head _)) ?_;rw[lI2,hs];rfl
  refine⟨_,_,_,g4,?_⟩;intro i3 g1;refine CA h0 e0 hc g5 hs (λh9 w h2=>g1 _ _ _ _ _ _ _ _ _ _ _ _ h2) (λb9 w h=>?_) (λi1 e i0 st c1 b6 b8 e4 f4 b9 hd w h=>?_)
  ·refine a7 t g S w ?_ O (lE1 _) h a6 (lE1 _) (.inl ⟨rfl,rfl,rfl⟩);rw[ki,if_neg ht,vY hs,yg b9]
  ·have d2:e∈s.ent:=by rw[e4];simp
   have g3:=c8 s hs e d2;refine Gz h e0 hc hs d2 hd g3 a6 d3 λw h=>?_
   have h4:(yN g e.2 (sw st (dOf t st)) c1 b6 (e.2:Nat) b8).length<=e.2+1:=by
    unfold yN;rw[lA0,lY0];split<;>simp<;>omega
   have h6:0<dOf t st:=by unfold dOf;split<;>omega
   have h8:=lZ0.2 ht;have c9: ∀s'∈S.map (STK.trim (yN g e.2 (sw st (dOf t st)) c1 b6 (e.2:Nat) b8).length),∀x∈s'.ent,x.2+1<(yN g e.2 (sw st (dOf t st)) c1 b6 (e.2:Nat) b8++ [xOf t (dOf t st) (g.drop (e.2+1))]).length:=by
    intro s' c2 x g6;obtain⟨s0,g2,rfl⟩:=lU1.1 c2;have:=z6 (g0 s0 g2).2.1 x g6;rw[lA0];simp;omega
   refine h3 (t.drop (dOf t st)) _ _ w (by rw[lJ1];omega) (O.drop _) (by rw[lJ1];omega) h (by rw[lA0];simp;omega) (λs' c2=>c9 s' (lT1 c2)) ?_;intro t' I W w e3 f6 f7 h f5 d1 f3;refine a7 t' I W w ?_ f6 (by rw[lJ1] at f7;omega) h f5 (by rw[lA0] at d1;simp at d1;omega) (.inr ?_)
   ·rw[ki,if_neg ht,vY hs,e4,Dx f4 b9];simp only[hd];rw[Dj] at e3;exact e3
   ·rcases f3 with ⟨_,rfl,rfl⟩|g7
    ·exact c9
    ·exact g7

def tL:Inl->Option UInt8
 | .emphP s _ _ _ _=>s.head?
 |_=>none
def wfE (ts:List Inl):Prop:= ∀s y g i n,Inl.emphP s y g i n∈ts->s≠ []/\(∃c,Hs c/\AllC c s)/\s.length<1000000000/\0<=n/\n<=1000000000
def oo:Option UInt8->List Inl->Prop
 |_,[]=>True
 |h,t::ts=>(h=none\/tL t≠h)/\oo (tL t) ts
theorem F4 {c:UInt8}(hc:Hs c)(g:R (hQ (hY (ue c:Nat))) w):callE P fR #[.int .u8 (c.toNat:Int)] R w:=by
 refine jf.sound ?_;refine vX (l:= [95,42,126,34,39]) ⟨_,rfl,?_⟩;rcases hc with rfl|rfl
 ·exact g
 ·exact g
theorem Gy {y m pb g:Nat}{S:List STK}{s:STK}{c5:List ai}(f1:S.length=5)(hs:S[g]? =some s)(d0:StksAt S c5)(f0:s.ent.length<999999999)(h:Sat σ w (kJ y S::(c5++L))){K:World->Prop}(e7: ∀w s' c2,s'.ent=s.ent++ [(pb,m)]->StksAt (S.set g s') c2->Sat σ w (kJ y (S.set g s')::(c2++L))->K w):
 aA (some ((hZ y g):Addr)) λe1=> ∃(b6:Option Addr),∃(a6:Nat),∃(U:Nat),w.cell? e1=some (hT b6 a6 U)/\
  ∃(b4:Option Addr),∃(O:Nat),∃(a7:Nat),∃b8,(Instr.buildSlice cK 1 #[(0,kT (kE pb))]).run P w= .ok (hT b4 O a7) b8/\
  ∃(W:Option Addr),∃(V:Nat),∃(b5:Nat),∃b7,(Builtin.append_ #[cK,cK] cK #[hT b6 a6 U,hT b4 O a7]).run P b8= .ok (hT W V b5) b7/\
  aA (some ((hZ y g):Addr)) λe0=>stV b7 (e0.add 0) (hT W V b5) λd3=>K d3:=by
 have c1:=(lJ0.1 hs).1;have d2:S=S.take g++s::S.drop (g+1):=by
  have e8:S[g]=s:=(lJ0.1 hs).2;rw[<-e8,<-lG1 c1,lW1]
 have b9: ∀s':STK,S.set g s'=S.take g++s'::S.drop (g+1):=by
  intro s';rw[lO4,if_pos c1]
 have c3:(S.take g).length=g:=by rw[lY0];omega
 rw[d2] at d0 h;obtain⟨E,e6,I,rfl,e4,c9,e5⟩:=d0.split;have e3:=c9.1;simp at e3;refine aa ⟨_,_,_,mv h c3.symm,?_⟩;have h:Sat σ w (e6++(kJ y (S.take g++s::S.drop (g+1))::(E++(I++L)))):=h.re
 refine Sat.app1 rowEP c9 h (v:= kT (kE pb)) rfl (by simp[Value.cells,Value.oneCell']) (by kernel_rfl) (by omega) (by omega) (by decide) λd1 c4 e9 c8 e2 h=>?_
 have h:Sat σ e9 (kJ y (S.take g++s::S.drop (g+1))::(E++(c8++(I++L)))):=h.re
 refine aa ?_;simp only[lL0,lL1];refine wU (s':=⟨d1,s.n+1,c4,s.ent++ [(pb,m)]⟩) h c3.symm λw h=>?_
 refine e7 w ⟨d1,s.n+1,c4,s.ent++ [(pb,m)]⟩ (E++(c8++I)) rfl ?_ ?_
 ·rw[b9];exact e4.join (by unfold STK.ok;rw[lV0];exact e2) e5
 ·rw[b9];exact h.re
def EM0 (σ:Out)(b1 b7:Nat)(y a7:List Inl)(S:List STK)(a6:Nat)(b5:Option Addr)(b4 sc:Nat)(b6:List ai)(L:List ai)(w:World):Prop:=
 ∃O W g E V U I RM,InlsAt y g V/\StksAt S U/\S.length=5/\StkIn y g S/\DRow O W g E a6 b5 b4 sc b6 I/\y.length<999999998/\InlsAt a7 E RM/\
  Sat σ w (kJ b7 S::(b1,cel [hT O g.length W] ap)::(U++(V++(I++(RM++L)))))
def Late (c:UInt8)(g:List Inl)(S:List STK):Prop:= ∀s,S[ue c]? =some s-> ∀e∈s.ent,e.2+1<g.length
theorem StkIn.lt {g:List Inl}{y:List Value}{S:List STK}(h:StkIn g y S): ∀s∈S,∀e∈s.ent,e.2<g.length:=by
 intro s hs e I;obtain⟨t,O,U,n,E,_⟩:=(h s hs).2.2 e I;exact(lJ0.1 E).1
theorem StkIn.grow {E x:List Inl}{g y:List Value}{S:List STK}(h:StkIn E g S):StkIn (E++x) (g++y) S:=by
 intro s hs;obtain⟨a,b,c⟩:=h s hs;refine⟨a,b,λe a6=>?_⟩;obtain⟨t,U,V,n,I,O,W⟩:=c e a6;exact⟨t,U,V,n,by rw[lM0 (lJ0.1 I).1];exact I,by rw[lM0 (lJ0.1 O).1];exact O,W⟩

theorem sL {b1 W b9 b:Nat}{t:TypeId}{E c2:Option Addr}{I c5 sc:Nat}{g c1:List Value}{S:List STK}{V U c8 b4:List ai}(e0:DRow E I g c1 (b9+1) c2 c5 sc c8 b4)(e3:g.length<=b9)(d1:g.length<1000000000)(h:Sat σ w (kJ W S::(b1,cel [hT E g.length I] ap)::(V++(U++(b4++L))))){C:World->Prop}(d3: ∀y X,Sat σ y (X::(kJ W S::(b1,cel [hT E g.length I] ap)::(V++(U++(b4++L)))))->C y){K:World->Prop}(e1: ∀w a6 a7 O,DRow a6 a7 (g++ [iu t b]) c1 (b9+1) c2 c5 sc c8 O->Sat σ w (kJ W S::(b1,cel [hT a6 (g.length+1) a7] ap)::(V++(U++(O++L))))->K w):
 ∃c3 c4 c9 y,(Instr.buildSlice ap 1 #[(0,iu t b)]).run P w= .ok (hT c3 c4 c9) y/\C y/\
  ∃b8 b6 b5 b7,(Builtin.append_ #[ap,ap] ap #[hT E g.length I,hT c3 c4 c9]).run P y= .ok (hT b8 b6 b5) b7/\stV b7 (hZ b1 0) (hT b8 b6 b5) K:=by
 have hr:Sat σ w (b4++(kJ W S::(b1,cel [hT E g.length I] ap)::(V++(U++L)))):=h.re
 refine e0.app (ty:=ap) hr (by omega) d1 (C:=C) (λy X d2=>d3 y X (d2.re)) (K:=λb8 b6 b5 b7=>stV b7 (hZ b1 0) (hT b8 b6 b5) K) λa6 a7 O e2 d0 h=>?_
 have h:Sat σ e2 (kJ W S::(b1,cel [hT E g.length I] ap)::(V++(U++(O++L)))):=h.re
 refine Sat.st h (k:=1) rfl (lQ3 _) trivial rfl λw h=>?_
 exact e1 w a6 a7 O d0 h
theorem zk {q:Option Addr}{a:Addr}{K:Addr->Prop}(h:q=some a)(g:K a):aA q K:=by subst h;exact g
theorem noC {A:Option Addr->Nat->Nat->World->Prop}{B:Option Addr->Nat->Nat->World->Prop}(h: ∃g E I y,A g E I y/\True/\B g E I y): ∃g E I y,A g E I y/\B g E I y:=by
 obtain⟨a,b,c,d,O,_,U⟩:=h;exact⟨a,b,c,d,O,U⟩
theorem DE {Xa:XA}{b1 E:Nat}{d0:Option Addr}{c1 sc:Nat}{h4:List ai}(q5: ∀q4 w,ay.bl1 R Xa d0 c1 sc b1 E cl1 (cl2 E b1) q4 w->Xa d0 c1 sc b1 E cl1 (cl2 E b1) q4 w)(v7:c1<999999990)(f5:List Inl)(u0: ∀w a7 b5 g O b8,InlsAt f5 g O->DRow a7 b5 g [] c1 d0 c1 sc h4 b8->g.length<=c1->Sat σ w (O++(b8++L))->R (hQ (hT a7 g.length b5)) w):
 ∀(a6 c2:List Inl) (S:List STK) (U:Nat) (hd:Option UInt8) (w:World),EM0 σ b1 E c2 a6 S U d0 c1 sc h4 L w->U+a6.length=c1->c2.length<=U->wfE a6->oo hd a6->(∀c,Hs c->hd≠some c->Late c c2 S)->
  dX c2 (uV S) a6=f5->Xa d0 c1 sc b1 E cl1 (cl2 E b1) (U:Int) w:=by
 intro a6
 induction a6 with
 |nil=>
  intro c2 S U hd w h h9 p5 m5 e8 p3 e7;obtain⟨a7,b5,g,t0,O,b6,b8,RM,c9,e6,e2,d1,j1,q2,m3,h⟩:=h;obtain⟨rfl,rfl⟩:=m3;have f7:=c9.length;simp at h9;subst h9;refine q5 _ _ (af (by simp) ?_);refine⟨_,_,_,Sat.ld h (.tail _ (.head _)) rfl,?_⟩;simp only[dX] at e7;simp only[lT0] at h;refine u0 w a7 b5 g O b8 (by rw[<-e7];exact c9) j1 (by omega) ?_;exact h.less (kJ E S::(b1,cel [hT a7 g.length b5] ap)::b6)
 |cons t a6 k0=>
  intro c2 S U hd w h h9 p5 m5 e8 p3 e7;obtain⟨a7,b5,g,t0,O,b6,b8,RM,c9,e6,e2,d1,j1,q2,m3,h⟩:=h;obtain⟨v,e4,h2,b7,rfl,rfl,hv,h7⟩:=m3;have f7:=c9.length;simp at h9;have p1: ∀w,Sat σ w (kJ E S::(b1,cel [hT a7 g.length b5] ap)::(b6++(O++(b8++((h2++b7)++L)))))-> ∃o3 n2,d0=some (hZ o3 n2)/\w.cell? ⟨o3,n2+U,none⟩=some v:=by
   intro w h;have h:Sat σ w (b8++(kJ E S::(b1,cel [hT a7 g.length b5] ap)::(b6++(O++((h2++b7)++L))))):=h.re
   exact j1.read h
  have e5:=j1.consume;have h8:wfE a6:=λs W y i n t7=>m5 s W y i n (.tail _ t7)
  have h3:i64.wrap ((U:Int)+1)=((U+1:Nat):Int):=aL (by omega)
  have e9:=d1.lt;have next: ∀w (t':Inl) (ty:TypeId) (b:Nat) (f6:List ai),InlAt t' (iu ty b) f6->dX (c2++ [t']) (uV S) a6=f5-> ∀c4 c3 c5,DRow c4 c3 (g++ [iu ty b]) e4 (U+1) d0 c1 sc h4 c5->
   Sat σ w (kJ E S::(b1,cel [hT c4 (g.length+1) c3] ap)::(b6++(O++(c5++(f6++(b7++L))))))->Xa d0 c1 sc b1 E cl1 (cl2 E b1) ((U+1:Nat):Int) w:=by
   intro w t' ty b f6 s9 b9 c4 c3 c5 d3 h;refine k0 (c2++ [t']) S (U+1) (tL t) w ⟨c4,c3,_,e4,O++f6,b6,c5,b7,c9.append (InlsAt.one s9),e6,e2,d1.grow,d3,by simp;omega,h7,?_⟩ (by omega) (by simp;omega) h8 e8.2 ?_ b9
   ·rw[lA0,lE0];exact h.re
   ·intro c _ _ s hs e b4;have:=e9 s (lT1 hs) e b4;simp;omega
  obtain⟨pb,cs,w2,f6,rfl,v3⟩:=hv.ptr;refine q5 _ _ (ag (by simp;omega) ⟨by omega,by omega,?_⟩);obtain⟨o3,n2,i4,o4⟩:=p1 w h;refine zk i4 ?_;simp only[lL0,lC0,lA1];refine⟨_,o4,?_⟩
  by_cases i0:t.ty=aQ
  ·-- an open bracket becomes plain
   obtain⟨s,i,rfl⟩: ∃s i,t= .openP s i:=by
    cases t<;>simp only[Inl.ty] at i0<;>first|exact⟨_,_,rfl⟩|exact absurd i0 (by decide)
   have n0:(Instr.typeAssert (iu (Inl.openP s i).ty pb) aD aQ true).run P w= .ok (.tuple #[kT (kE pb),hV true]) w:=pm w;refine⟨_,_,w,n0,ag rfl ?_⟩;refine h.tk λw h=>?_
   refine aa ⟨_,_,_,Sat.ld h (.tail _ (.head _)) rfl,?_⟩;have h0:=h;refine sL e5 (by omega) (by omega) h (C:=λe3=>SameC _ e3 _ 1) (λe3 X g0=>h0.same g0 (.tail _ (.head _)) (.tail _ (.tail _ (.head _))) 1) λw c4 c3 c5 d3 h=>?_
   rw[h3];refine next w (.plain s) bJ pb h2 ?_ (by rw[<-e7,dX]) c4 c3 c5 d3 (h.re)
   obtain⟨u2,e',m6,rfl⟩:=hv;have:=sF m6;subst this;exact⟨pb,_,_,rfl,rfl⟩
  ·refine⟨_,_,w,qJ i0 w,af rfl ⟨by omega,by omega,?_⟩⟩;refine zk i4 ?_;simp only[lL0,lC0,lA1];refine⟨_,o4,?_⟩
   by_cases i8:t.ty=aT
   ·-- a run of delimiters
    obtain⟨s,W,y,i,n,rfl⟩: ∃s W y i n,t= .emphP s W y i n:=by
     cases t<;>simp only[Inl.ty] at i8<;>first|exact⟨_,_,_,_,_,rfl⟩|exact absurd i8 (by decide)
    obtain⟨u2,c8,m6,rfl⟩:=hv;have:=sF m6;subst this;obtain⟨m4,⟨c,hc,m2⟩,t5,q3,r1⟩:=m5 s W y i n (.head _);have i1:=m2.head m4;have i2:tL (.emphP s W y i n)=some c:=i1;have s6:hd≠some c:=by
     rcases e8.1 with h|h
     ·rw[h];simp
     ·rw[i2] at h;exact λn3=>h n3.symm
    have s8:ue (s.headD 0)=ue c:=by rw[List.headD_eq_head?_getD,i1];rfl
    have s4:ue c<5:=by rcases hc with rfl|rfl<;>decide
    have j0: ∀w,Sat σ w (kJ E S::(b1,cel [hT a7 g.length b5] ap)::(b6++(O++(b8++(([emC pb s W y i n c8]++b7)++L)))))->EM σ b1 E pb s W y i n c8 c2 S e4 (U+1) d0 c1 sc h4 (b7++L) w:=λw h=>
     ⟨a7,b5,g,O,b6,b8,c9,e6,e2,d1,e5,by omega,h.re⟩
    have n0:(Instr.typeAssert (iu (Inl.emphP s W y i n).ty pb) aD aT true).run P w= .ok (.tuple #[kT (kE pb),hV true]) w:=sW w;refine⟨_,_,w,n0,af rfl (aa ?_)⟩;have fin: ∀(t':List UInt8) (V:List Inl) (I:List STK) w,AllC c t'->t'.length<=s.length->EM σ b1 E pb t' W y i n c8 V I e4 (U+1) d0 c1 sc h4 (b7++L) w->V.length<=U->
     (t'= []-> ∀s∈I,∀e∈s.ent,e.2+1<V.length)->
     (if t'= [] then dX V (uV I) a6 else if W then dX (V++ [.emphP t' W y V.length n]) ((uV I).set (ue c) ((uV I).getD (ue c) []++ [V.length])) a6 else dX (V++ [.plain t']) (uV I) a6)=f5->
     ay.k1 R Xa d0 c1 sc b1 E cl1 (cl2 E b1) U (kE pb) w:=by
     intro t' V I w f3 p4 h v6 s7 b9;obtain⟨a7,b5,g,O,b6,b8,c9,e6,e2,d1,e5,q2,h⟩:=h;have f7:=c9.length;have e9:=d1.lt;refine aa ⟨_,Sat.ld h (.head _) rfl,?_⟩;rw[oa]
     by_cases e0:t'= []
     ·subst e0;rw[if_pos rfl] at b9;refine af (by simp) ?_;rw[h3];refine k0 V I (U+1) (some c) w ⟨a7,b5,g,e4,O,b6,b8,b7,c9,e6,e2,d1,e5,by omega,h7,?_⟩ (by omega) (by omega) h8 (by have:=e8.2;rw[i2] at this;exact this) ?_ b9
      ·exact(h.tail).re
      ·intro o2 _ _ s' i3 e b4;exact s7 rfl s' (lT1 i3) e b4
     ·rw[if_neg e0] at b9;refine ag (by simpa using e0) (aa ⟨_,Sat.ld h (.head _) rfl,by omega,lK (f3.head e0),?_⟩);rw[bt0 (f3.head e0)];refine ir ?_;refine F4 hc ⟨_,rfl,by omega,by omega,aa ⟨_,Sat.ld h (.head _) rfl,?_⟩⟩;have q0: ∀(d:UInt8),c≠d->((bs t').toList==(hP #[d]).toList)=false:=by
       intro d hd;rw[cn,gL,beq_eq_false_iff_ne];intro h0;have:t'= [d]:=h0;subst this;exact hd (f3 d (by simp)).symm
      refine af (q0 39 (by rcases hc with rfl|rfl<;>decide)) ?_;refine aa ⟨_,Sat.ld h (.head _) rfl,af (q0 34 (by rcases hc with rfl|rfl<;>decide)) ?_⟩;simp only[lL0,lC0,lA1,lO0];refine aa ⟨W,Sat.ld h (.head _) rfl,?_⟩;cases q1:W with
      |true=>
       rw[q1] at h b9;rw[if_pos rfl] at b9;refine ag rfl ⟨_,_,_,Sat.ld h (.tail _ (.tail _ (.head _))) rfl,aa ?_⟩;refine Sat.st h (k:=0) rfl (lI3 rfl) trivial rfl λw h=>?_
       have h:Sat σ w (emC pb t' true y (g.length:Nat) n c8::kJ E I::(b1,cel [hT a7 g.length b5] ap)::(b6++(O++(b8++(b7++L))))):=h
       refine⟨_,_,_,Sat.ld h (.tail _ (.tail _ (.head _))) rfl,?_⟩;have h:Sat σ w (kJ E I::(b1,cel [hT a7 g.length b5] ap)::(b6++(O++(b8++(emC pb t' true y (g.length:Nat) n c8::(b7++L)))))):=h.re
       refine noC (sL (t:=aT) (b:=pb) e5 (by omega) (by omega) h (C:=λ_=>True) (λ_ _ _=>trivial) λw c4 c3 c5 d3 h=>?_);have f0:I[ue c]? =some I[ue c]:=lH0 (by omega);generalize I[ue c]=sx at f0;have m1:=d1 sx (lT1 f0);have h:Sat σ w (kJ E I::(b6++((b1,cel [hT c4 (g.length+1) c3] ap)::(O++(c5++(emC pb t' true y (g.length:Nat) n c8::(b7++L))))))):=h.re
       have r9:sx.ent.length<999999999:=by
        have: ∀(f2:List (Nat × Nat)) (k:Nat),f2.Pairwise (λa b=>a.2<b.2)->(∀e∈f2,k<=e.2/\e.2<V.length)->k<=V.length->k+f2.length<=V.length:=by
         intro f2
         induction f2 with
         |nil=>intro k _ _ r7;simpa using r7
         |cons e f2 t2=>
          intro k o0 hb r7;rw[List.pairwise_cons] at o0;have v9:=hb e (.head _);have:=t2 (e.2+1) o0.2 (λx r5=>⟨o0.1 x r5,(hb x (.tail _ r5)).2⟩) (by omega);simp;omega
        have:=this sx.ent 0 m1.2.1 (λe b4=>⟨lD2 _,e9 sx (lT1 f0) e b4⟩) (lD2 _);omega
       refine Gy (m:=g.length) (pb:=pb) e2 f0 e6 r9 h λw s' t4 i3 s1 h=>?_
       rw[h3];have s3:(uV I).set (ue c) ((uV I).getD (ue c) []++ [V.length])=uV (I.set (ue c) s'):=by
        rw[vY f0,uV,uV,lR6,i3,lV0,f7];rfl
       rw[s3] at b9;refine k0 _ (I.set (ue c) s') (U+1) (some c) w ⟨c4,c3,g++ [iu aT pb],e4,O++ [emC pb t' true y (g.length:Nat) n c8],t4,c5,b7,c9.append (InlsAt.one (t:= .emphP t' true y (g.length:Nat) n) ⟨pb,c8,rfl,rfl⟩),s1,by rw[lL4];exact e2,?_,d3,by simp;omega,h7,?_⟩ (by omega) (by simp;omega) h8 (by have:=e8.2;rw[i2] at this;exact this) ?_ (by rw[<-b9,f7])
       ·intro h6 d2;rcases List.mem_or_eq_of_mem_set d2 with d2|d2
        ·exact d1.grow h6 d2
        ·subst d2;rw[i3];refine⟨by simp;omega,?_,?_⟩
         ·rw[lP6];refine⟨m1.2.1,by simp,λa t9 b hb=>?_⟩;simp at hb;subst hb
          have:=e9 sx (lT1 f0) a t9
          show a.2<g.length
          omega
         ·intro e b4;rcases lP0.1 b4 with b4|b4
          ·obtain⟨t8,u8,u4,u1,r6,r4,t6⟩:=m1.2.2 e b4;exact⟨t8,u8,u4,u1,by rw[lM0 (lJ0.1 r6).1];exact r6,by rw[lM0 (lJ0.1 r4).1];exact r4,t6⟩
          ·simp at b4;subst b4
           exact⟨t',true,y,n,by show (V++_)[g.length]? =_;rw[f7,lI0 (lE1 _)];simp,by show (g++_)[g.length]? =_;simp,q3,r1,e0,by omega⟩
       ·rw[lA0,lE0];exact h.re
       ·intro o2 q8 r3 h6 d2 e b4;have s5:ue o2≠ue c:=by
         intro h0;apply r3;rcases hc with rfl|rfl<;>rcases q8 with rfl|rfl<;>first|rfl|exact absurd h0 (by decide)
        rw[List.getElem?_set_ne (λh=>s5 h.symm)] at d2;have:=e9 h6 (lT1 d2) e b4;simp;omega
      |false=>
       rw[q1] at h b9;rw[if_neg (by simp)] at b9;refine af rfl ?_;refine h.tk λw h=>?_
       refine aa ⟨_,_,_,Sat.ld h (.tail _ (.tail _ (.head _))) rfl,?_⟩;have h:Sat σ w (kJ E I::(b1,cel [hT a7 g.length b5] ap)::(b6++(O++(b8++(emC pb t' false y i n c8::(b7++L)))))):=h.re
       have h0:=h;refine sL (t:=bJ) (b:=pb) e5 (by omega) (by omega) h (C:=λe3=>SameC _ e3 _ 1) (λe3 X g0=>h0.same g0 (.tail _ (.head _)) (.tail _ (.tail _ (.head _))) 1) λw c4 c3 c5 d3 h=>?_
       rw[h3];refine k0 (V++ [.plain t']) I (U+1) (some c) w ⟨c4,c3,g++ [iu bJ pb],e4,O++ [emC pb t' false y i n c8],b6,c5,b7,c9.append (InlsAt.one (t:= .plain t') ⟨pb,_,c8,rfl,rfl⟩),e6,e2,d1.grow,d3,by simp;omega,h7,?_⟩ (by omega) (by simp;omega) h8 (by have:=e8.2;rw[i2] at this;exact this) ?_ b9
       ·rw[lA0,lE0];exact h.re
       ·intro o2 q8 r3 h6 d2 e b4;have:=e9 h6 (lT1 d2) e b4;simp;omega
    refine⟨y,Sat.ld h (.tail _ (.tail _ (lB0 _ (lB0 _ (lB0 _ (.head _)))))) rfl,?_⟩;have f4:(let r:=if y then ki (ue c) W y n s.length s c2 (uV S) else (s,c2,uV S)
     if r.1= [] then dX r.2.1 r.2.2 a6 else if W then dX (r.2.1++ [.emphP r.1 W y r.2.1.length n]) (r.2.2.set (ue c) (r.2.2.getD (ue c) []++ [r.2.1.length])) a6 else dX (r.2.1++ [.plain r.1]) r.2.2 a6)=f5:=by
     rw[<-e7,dX,s8]
    cases n1:y with
    |false=>
     rw[n1] at f4 j0 fin;refine af rfl (fin s c2 S w m2 (lE1 _) (j0 w (by rw[n1] at h;exact h)) p5 (λh=>absurd h m4) ?_)
     simpa using f4
    |true=>
     rw[n1] at f4 j0 fin h;refine ag rfl (aa ⟨_,Sat.ld h (.tail _ (.tail _ (lB0 _ (lB0 _ (lB0 _ (.head _)))))) rfl,by omega,lK i1,?_⟩);rw[bt0 i1];refine ir ?_;refine F4 hc ⟨_,rfl,by omega,by omega,?_⟩;simp only[lL0,lC0,lA1,lO0];intro v8 t3;refine Fi s4 hc ⟨q3,r1⟩ (λw n3=>t3 _ _ _ _ _ _ _ _ _ _ _ n3) s.length s c2 S w (lE1 _) m2 t5 (j0 w h) (by omega) (p3 c hc s6) ?_;intro t' V I w b9 f3 p4 h v0 v2 f1;refine fin t' V I w f3 p4 h (by omega) ?_ ?_
     ·intro e0;rcases f1 with ⟨f1,_⟩|f1
      ·rw[e0] at f1;exact absurd f1.symm m4
      ·exact f1
     ·simp only[if_true,b9] at f4;exact f4
   ·-- anything else
    refine⟨_,_,w,qK i8 w,ag rfl ?_⟩;refine Cl (A:=λw=>Sat σ w (kJ E S::(b1,cel [hT a7 g.length b5] ap)::(b6++(O++(b8++((h2++b7)++L)))))) h.tick λw h=>?_
    refine⟨by omega,by omega,zk i4 ?_⟩;refine⟨_,_,_,Sat.ld h (.tail _ (.head _)) rfl,?_⟩;simp only[lL0,lC0,lA1];obtain⟨v5,v4,l5,r8⟩:=p1 w h;rw[i4] at l5;simp only[lI1,Addr.mk.injEq,and_true] at l5;obtain⟨rfl,rfl⟩:=l5;refine⟨_,r8,?_⟩;have h0:=h;refine sL e5 (by omega) (by omega) h (C:=λe3=>SameC _ e3 _ 1) (λe3 X g0=>h0.same g0 (.tail _ (.head _)) (.tail _ (.tail _ (.head _))) 1) λw c4 c3 c5 d3 h=>?_
    rw[h3];refine next w t t.ty pb h2 hv (by rw[<-e7];cases t<;>first|rfl|exact absurd rfl i0|exact absurd rfl i8) c4 c3 c5 d3 (h.re)

theorem DRow.same {q:Option Addr}{n c:Nat}{vs:List Value}{RM:List ai}(h:Sl 1 aD q n c vs RM):DRow q c [] vs 0 q n c [] RM:=by
 obtain⟨I,E,⟨rfl,rfl,rfl,rfl⟩|⟨g,sp,rfl,rfl,y⟩⟩:=h
 ·have:vs= []:=lF1 (by omega);subst this;exact⟨by simp,by simp,.inr ⟨[],Sl.nil 1 aD,rfl,λj v hv=>by simp at hv⟩⟩
 ·refine⟨by omega,by simp,.inl ⟨g,[],sp,rfl,rfl,rfl,rfl,?_⟩⟩;rw[lA0] at y;omega
theorem DRow.done {E W:Option Addr}{I U V sc:Nat}{g:List Value}{y:List ai}(h:DRow E I g [] U W V sc [] y):Sl 1 aD E g.length I g y:=by
 obtain⟨h0,O,⟨a6,junk,sp,rfl,rfl,rfl,b4,a7⟩|⟨b5,b3,rfl,hr⟩⟩:=h
 ·refine⟨by omega,O,.inr ⟨a6,junk++sp,rfl,rfl,?_⟩⟩;simp only[lA0,lM1] at a7⊢;omega
 ·rw[lG0];exact b3
theorem DD {d1 y a6:Option Addr}{E O sc:Nat}{ts:List Inl}{vs:List Value}{b4 g V:List ai}(b5:DRow y E [] vs 0 a6 O sc b4 g)(b6:InlsAt ts vs V)(b7:wfE ts)(b8:oo none ts)(b9:O<999999990)(h:Sat σ w (g++(V++L)))(c9: ∀w y E I W g,InlsAt (yo ts) I W->DRow y E I [] O a6 O sc b4 g->I.length<=O->Sat σ w (W++(g++L))->R (hQ (hT y I.length E)) w):
 callE P fE #[kT d1,hT y 0 E,hT a6 O sc] R w:=by
 refine ay.sound ?_;refine Sat.bx h λb1 w h=>?_
 refine Sat.bx h λd0 w h=>?_
 intro X c1;have d3:=b6.length;have h0:=b5.1
 let s0:STK:=⟨none,0,0,[]⟩
 have h:Sat σ w (kJ d0 [s0,s0,s0,s0,s0]::(b1,cel [hT y 0 E] ap)::(g++(V++L))):=h
 have U:s0.ok []:=Sl.nil 1 aT;refine DE (Xa:=X) (λd2 w c4=>c1 _ _ _ _ _ _ _ _ _ c4) b9 (yo ts) (λw y E I W g c2 c5 c3 c8=>c9 w y E I W g c2 c5 c3 c8) ts [] [s0,s0,s0,s0,s0] 0 none w
  ⟨y,E,[],vs,[],[],g,V,⟨rfl,rfl⟩,⟨[],[],rfl,U,[],[],rfl,U,[],[],rfl,U,[],[],rfl,U,[],[],rfl,U,rfl⟩,rfl,?_,b5,by simp,b6,h⟩ (by omega) (by simp) b7 b8 ?_ rfl
 ·intro s hs;simp only[lW0,lZ5,or_false,or_self] at hs;subst hs;exact⟨by show (0:Nat)<_;decide,List.Pairwise.nil,λe a7=>by cases a7⟩
 ·intro c hc _ s hs e a7;have:s=s0:=by
   rcases hc with rfl|rfl
   ·exact(Option.some.inj hs).symm
   ·exact(Option.some.inj hs).symm
  subst this;cases a7
theorem Bv {ts:List Inl}(I:wfE ts)(O:oo none ts)(b7:ts.length<999999990):AP ts (yo ts):=by
 intro σ R c2 q n c vs RM EM L w E y b9 h b5;have c1:=y.length;have b8:=E.1;exact DD (DRow.same E) y I O (by omega) h λw V b6 g a6 U W b3 a7 b4=>b5 w V g.length b6 g U a6 b3.done a7 W (b4.re)
theorem qN {s:List UInt8}{i j:Nat}(h:j<=s.length):(sub s i j).length=j - i:=by unfold sub;rw[lJ1,lY0];omega
theorem qm {a b:List UInt8}{k:Nat}(h:a.length<=k):(a++b).getD k 0=b.getD (k - a.length) 0:=by
 rw[lS0,lI0 h,<-lS0]
theorem nT {a b:List UInt8}{k:Nat}{d:UInt8}(h:k<a.length):(a++b).getD k d=a.getD k d:=by
 rw[lS0,lM0 h,<-lS0]
theorem qM (A B C:List UInt8):sub (A++(B++C)) A.length (A.length+B.length)=B:=by
 unfold sub;rw[<-lD0,show A.length+B.length=(A++B).length by simp,lS4,lD4]
theorem wa (A C:List UInt8)(b d:UInt8):(A++(b::C)).getD A.length d=b:=by
 rw[lS0,lI0 (lE1 _),lQ1];rfl
theorem nS {l:List UInt8}{i:Nat}(h:i<l.length)(d:UInt8):l[i]=l.getD i d:=by
 rw[lS0,lH0 h];rfl
def FQ:Opt:=⟨false,false,false,false,false,false,false,false,false,false⟩
theorem DI (s:List UInt8)(i k:Nat)(d:UInt8):(s.drop i).getD k d=s.getD (i+k) d:=by
 rw[lS0,lS0,lG3]

theorem vS {s:List UInt8}(hs:s.length<1000000000)(g: ∀r,R (hQ (hV r)) w):callE P nL #[hX (bs s)] R w:=by
 refine gV.sound ?_;intro X I;have E: ∀ {Q:Ending->World->Prop} (c:Int),(∀r,Q (hQ (hV r)) w)->callE P lJ #[.int .u8 c] Q w:=by
  intro Q c V;refine nY.sound ?_;exact V _
 have O: ∀k m,m+k=s.length->X (bs s) (m:Int) w:=by
  intro k
  induction k with
  |zero=>intro m U;exact I _ _ _ (af (by simp;omega) (g _))
  |succ k a6=>
   intro m U;refine I _ _ _ (ag (by simp;omega) ⟨by omega,by simp;omega,?_⟩);rw[show i64.wrap ((m:Int)+2)=((m+2:Nat):Int) by rw[show ((m:Int)+2)=((m+2:Nat):Int) by omega,i64_in _ (by omega)],aL (by omega)];have y:=a6 (m+1) (by omega);refine bh (λ_=>?_) (λ_=>y);refine⟨λW=>?_,?_⟩
   ·simp at W;exact⟨by omega,by simp;omega⟩
   refine bh (λ_=>?_) (λhb=>?_)
   ·exact⟨λh=>Bool.noConfusion h,g _⟩
   have a7:m+2<s.length:=by simp at hb;omega
   refine E _ λr=>⟨_,rfl,?_⟩
   refine⟨λ_=>⟨by omega,by simp;omega⟩,?_⟩;refine bh (λ_=>g _) (λ_=>?_);exact E _ λr=>⟨_,rfl,bh (λ_=>g _) (λ_=>y)⟩
 exact O s.length 0 (by omega)
theorem vR {b i:Nat}{p:PS}{s:List UInt8}(hs:s.length<1000000000)(hi:i<s.length)(hc:s[i]=91):qD b p s i (.func (.func gO) #[] #[]) [] (some (.openP [91] (i+1),i,i+1)) (λp'=>p'=p):=by
 intro σ R L w _ h g;refine ir (jz.sound ?_);unfold jz;rw[aL (by omega)];refine⟨by omega,by omega,by simp;omega,?_⟩;rw[lC0,lC0,bV];have e:(s.take (i+1)).drop i= [91]:=by
  rw[lB1 hi,lE5 (by rw[lY0];omega),hc]
 rw[e];refine Sat.bx h λnb w h=>?_
 exact g w p _ _ rfl rfl ⟨nb,_,rfl,rfl⟩ h.up1

def nf (s:List UInt8)(e i:Nat):List Inl:=if e<i then [.plain (sub s e i)] else []
theorem Fd {b e i:Nat}{p:PS}{vs:List Value}{RM:List ai}(V:Sl 1 aD p.lq p.ln p.lc vs RM)(h:Sat σ w (p.at b::(RM++L)))(y:p.em=e)(a6:i<=p.s.length)(a7:vs.length<1073741823)(U: ∀w (p':PS) E xs I,p'.core=p.core->p'.bt=p.bt->p'.em=((max e i:Nat):Int)->p'.corner=p.corner->Sl 1 aD p'.lq p'.ln p'.lc (vs++xs) E->InlsAt (nf p.s e i) xs I->Sat σ w (p'.at b::(E++(I++L)))->R (hQ (.tuple #[])) w):
 callE P dv #[kT (kE b),hY i] R w:=by
 by_cases hi:e<i
 ·have h:Sat σ w (p.at b::RM++L):=h
  refine DG h ⟨V,by omega⟩ y hi a6 (by omega) λw p' O nb g W h=>?_
  refine U w p' O _ [rJ nb (sub p.s e i)] (by rw[g];rfl) (by rw[g]) (by rw[g];show ((i:Nat):Int)=_;congr 1;omega) (by rw[g]) W.1 ?_ ?_
  ·unfold nf;rw[if_pos hi];exact InlsAt.one ⟨nb,[],_,rfl,rfl⟩
  ·have h:Sat σ w (p'.at b::O++(rJ nb (sub p.s e i)::L)):=h
   exact h.re
 ·refine DH h (by rw[y];omega) λw h=>?_
  refine U w p RM [] [] rfl rfl (by rw[y];congr 1;omega) rfl (by rw[lG0];exact V) ?_ h;unfold nf;rw[if_neg hi];exact⟨rfl,rfl⟩
def yK (lb:Nat)(inner:Value)(url title:List UInt8)(tc:UInt8)(cor:Bool):ai:=(lb,cel [inner,hX (bs url),hX (bs title),.int .u8 tc.toNat,hV cor] vp)
def wC (b:Nat)(p:PS)(raw:List UInt8)(i:Nat)(t:List UInt8)(k:Nat)(L0:List ai)(url title:List UInt8)(tc:UInt8)(cor:Bool)(en:Nat):Prop:=
 ∀(σ:Out) (R:Ending->World->Prop) (L:List ai) (w:World) (ob:Nat) (e:TypeId),(∀c∈L0,c∈L)->(ob,cel [hX (bs t),hY k] e)∈L->p.at b∈L->Sat σ w L->
  (∀w lb,Sat σ w (yK lb (hT none 0 0) url title tc cor::L)->R (hQ (.tuple #[kT (kE lb),hY en,hV true])) w)->
  callE P eQ #[kT (kE b),hX (bs raw),hY i,kT (kE ob)] R w
theorem Sl.shrink {sz:Nat}{e:TypeId}{q:Option Addr}{n c m:Nat}{vs:List Value}{M:List ai}(h:Sl sz e q n c vs M)(g:m<=n):Sl sz e q m c (vs.take (m*sz)) M:=by
 obtain⟨O,U,E⟩:=h;have I:m*sz<=n*sz:=lC2 _ g;refine⟨by rw[lY0];omega,by omega,?_⟩;rcases E with ⟨rfl,rfl,rfl,rfl⟩|⟨b,sp,rfl,rfl,y⟩
 ·exact .inl ⟨rfl,by omega,rfl,rfl⟩
 ·refine .inr ⟨b,vs.drop (m*sz)++sp,rfl,?_,?_⟩
  ·rw[<-lD0,lW1]
  ·rw[<-lD0,lW1];exact y
theorem Ex {v:Value}(w:World):(Instr.typeAssert (.iface aQ v) aD aQ false).run P w= .ok v w:=
 yW (by rw[ou];intro g h;cases h) ou w
def AF (img:Bool)(g:List Inl)(url title:List UInt8)(tc:UInt8)(cor:Bool):Inl:=if img then .image g url title tc cor else .link g url title tc cor
def AtC (I:Bool)(O:BT->Prop)(X:XI)(σ:Out)(b:Nat)(p0:PS)(raw:List UInt8)(L:List ai)(i e:Nat)(ts:List Inl)(opens:List Nat)(lo:Int):Prop:=
 ∀w (p:PS) E g y,O p.bt->p.coreS=p0.coreS->p.s=raw->p.em=(e:Int)->IIn σ b p ts opens E g y L w->X (kE b) (bs raw) E g y lo I (i:Int) w
def Im (R:Ending->World->Prop)(X:XI)(b:Nat)(raw:List UInt8)(I:Bool):Prop:=
 ∀E g y lo (i:Int) w,av.bl1 R X (kE b) (bs raw) E g y lo I i w->X (kE b) (bs raw) E g y lo I i w
theorem AtC.close {X:XI}{b8:Bool}{e8:BT->Prop}{b pb i e en k:Nat}{p0:PS}{raw:List UInt8}{ts1 ts2:List Inl}{opens:List Nat}{lo:Int}{o:Opt}{t url title:List UInt8}{tc:UInt8}{cor img:Bool}{L0:List ai}(q2:Im R X b raw b8)(hi:i<raw.length)(hs:raw.length<1000000)(hc:raw[i]=93)(i8:p0.pz=kE pb)(q4:o.at pb∈L)(p5: ∀c∈L0,c∈L)(ht:t.getD 0 0=(if img then 33 else 91))(n3:t≠ [])(o3:img=true\/lo<=(k:Int))(r4:url.length<1000000)(h1: ∀p:PS,p.coreS=p0.coreS->p.s=raw->wC b p raw i t k L0 url title tc cor en)(o4:ts2++nf raw e i≠ [])(n1:wfE (ts2++nf raw e i))(j1:oo none (ts2++nf raw e i))(q0:(ts1++ts2).length<1000000)(s2:opens.length<1000000)(c3:AtC b8 e8 X σ b p0 raw L en en (ts1++ [AF img (yo (ts2++nf raw e i)) url title tc cor]) opens (if img then lo else (k:Int))):
 AtC b8 e8 X σ b p0 raw L i e (ts1++ .openP t k::ts2) (opens++ [ts1.length]) lo:=by
 intro w p b6 e7 b7 m1 e3 f4 q3 q5;refine q2 _ _ _ _ _ _ ?_;obtain⟨vs,RM,EM,I,c9,g2,d1,r7,c4⟩:=q5;refine lE (p:=p) hi (by omega) (by rw[PS.pz_of e3,i8]) (.head _) (.tail _ (lB0 _ (lB0 _ (lB0 _ q4)))) c4 ?_;rw[hc,show kt o 93= .nil from rfl];refine Aq ⟨by omega,by simp;omega,?_⟩;have o2:=d1.1;rw[lQ0,lA0,lE0] at o2;refine ag (by rw[dh hi 93 93 rfl,hc];simp;omega) ?_;have r1:i64.wrap ((e7:Int) - 1)=((opens.length:Nat):Int):=by rw[show ((e7:Int) - 1)=((opens.length:Nat):Int) by omega,i64_in _ (by omega)]
 rw[r1];refine⟨by omega,by omega,?_⟩;have s8:=c9.1;have s9:=c9.2.1;have m2:=g2.length;simp only[lA0,lF0] at m2 q0;have h3:Sat σ w (I++(p.at b::(RM++(EM++L)))):=c4.re
 refine d1.loadAt h3 (j:=opens.length) (v:= hY (ts1.length:Nat)) (by simp[lV0]) λs3 s5 m4=>?_
 simp only[lL0,lC0,lA1,lO0];refine⟨_,m4,aa ?_⟩;have h:=c4;refine⟨_,_,_,h.ldA,?_⟩;refine⟨by omega,by omega,?_⟩;obtain⟨E,v,y,O,t5,c1,rfl,rfl,f6,l5,g0⟩:=g2.mid;have n0:=f6.length;have r5:=g0.length;have t4:(E++v::y).length=E.length+(y.length+1):=by simp
 obtain⟨ob,g,rfl,rfl⟩:=l5;have h2:Sat σ w (RM++(p.at b::((O++([(ob,cel [hX (bs t),hY k] g)]++c1))++(I++L)))):=c4.re
 refine c9.loadAt h2 (j:=ts1.length) (v:=iu aQ ob) (by rw[lI0 (by omega),show ts1.length - E.length=0 by omega];rfl) λt7 s6 m5=>?_
 simp only[lL0,lC0,lA1,lO0];refine⟨_,m5,_,_,Ex w,_,_,_,_,rE rowInt.ht rowInt.hi b6 e7 b7 opens.length (by have:=d1.2.1;omega) w,aa ?_⟩;have d3:(ob,cel [hX (bs t),hY k] g)∈p.at b::(RM++((O++([(ob,cel [hX (bs t),hY k] g)]++c1))++(I++L))):=
  .tail _ (lB0 _ (lC1 _ (lB0 _ (lC1 _ (.head _)))))
 have e6:bt (bs t) 0=((t.getD 0 0).toNat:Int):=pI t 0
 have r9:0<t.length:=lZ0.2 n3;refine⟨_,Sat.ld h d3 rfl,by decide,by simp;omega,?_⟩;rw[e6];have g1:=d1.shrink (m:=opens.length) (by omega);rw[lA1,lV0,lF5 (by simp)] at g1;have k8:av.k8 R X (kE b) (bs raw) b6 opens.length b7 lo b8 (i:Int) (ts1.length:Int) (kE ob) true w:=by
  refine ag rfl ?_;have m6:=h1 p e3 f4;refine m6 σ _ _ w ob g (λc hc=> .tail _ (lB0 _ (lB0 _ (lB0 _ (p5 c hc))))) d3 (.head _) h λw lb h=>⟨_,_,_,rfl,ag rfl ?_⟩
  have k9: ∀w r,Sat σ w (({p with corner:=r}:PS).at b::(yK lb (hT none 0 0) url title tc cor::(RM++((O++([(ob,cel [hX (bs t),hY k] g)]++c1))++(I++L)))))->
   av.k9 R X (kE b) (bs raw) b6 opens.length b7 lo b8 (i:Int) (ts1.length:Int) (kE ob) (kE lb) (en:Int) w:=by
   intro w r h;generalize c2:({p with corner:=r}:PS)=p1 at h;have i4:Sl 1 aD p1.lq p1.ln p1.lc (E++iu aQ ob::y) RM:=by rw[<-c2];exact c9
   have i0:p1.coreS=p0.coreS:=by rw[<-c2];exact e3
   have e2:p1.s=raw:=by rw[<-c2];exact f4
   have j0:p1.em=(e:Int):=by rw[<-c2];exact q3
   have h:Sat σ w (p1.at b::(RM++(yK lb (hT none 0 0) url title tc cor::((O++([(ob,cel [hX (bs t),hY k] g)]++c1))++(I++L))))):=h.re
   refine Fd i4 h j0 (by rw[e2];omega) (by simp only[lA0,lF0];omega) λw p2 b9 xs r3 g3 i1 t2 r8 e5 e0 h=>⟨rfl,aa ?_⟩
   rw[e2] at e0;have h6:=PS.coreS_of g3 i0;have o0:p2.s=raw:=by rw[<-e2];have:=congrArg PS.s g3;exact this
   refine⟨_,_,_,h.ldA,?_⟩;have h9:=e5.1;have r6:=e5.2.1;have t3:=e0.length;have f1:=g0.append e0;have h7:=f1.length;have h5:0<(ts2++nf raw e i).length:=lZ0.2 o4;simp only[lA0,lF0] at h9 h7 h5;have s1:(nf raw e i).length<=1:=by unfold nf;split<;>simp
   rw[aL (by omega)];refine⟨_,_,_,_,Ab rowInl.ht rowInl.hi p2.lq p2.ln p2.lc (ts1.length+1) (by omega) w,?_⟩;rw[if_neg (by omega)];obtain⟨_,_,⟨_,h0,_⟩|⟨b4,sp,c5,d2,g7⟩⟩:=e5
   ·omega
   rw[c5];simp only[lK3,lL0,lO0,rowInl.hs,lA1];have i2:E++iu aQ ob::y++xs++sp=(E++ [iu aQ ob])++((y++xs)++sp):=by simp
   rw[i2] at d2 g7;have q8:DRow none 0 [] (y++xs) 0 (some ⟨b4,ts1.length+1,none⟩) (p2.ln - (ts1.length+1)) (p2.lc - (ts1.length+1)) b9 b9:=by
    refine⟨by simp;omega,by simp,.inr ⟨[],Sl.nil 1 aD,rfl,λj v hv=>⟨b4,_,(E++ [iu aQ ob])++((y++xs)++sp),aD,rfl,by rw[d2];exact .head _,?_⟩⟩⟩;rw[lI0 (by simp;omega),lM0 (by have:=(lJ0.1 hv).1;simp at this⊢;omega)];rw[<-hv];congr 1;simp;omega
   have h:Sat σ w (b9++((c1++r3)++(p2.at b::(yK lb (hT none 0 0) url title tc cor::((ob,cel [hX (bs t),hY k] g)::(O++(I++L))))))):=h.re
   refine DD q8 f1 n1 j1 (by omega) h λw a7 b3 U a6 t6 f5 m3 s7 h=>⟨_,_,_,rfl,aa ?_⟩
   obtain⟨_,_,⟨s4,junk,t0,_,k0,_⟩|⟨W,g4,n2,_⟩⟩:=m3
   ·simp at k0
   subst n2;have h:Sat σ w (yK lb (hT none 0 0) url title tc cor::(a6++((W++b9)++(p2.at b::((ob,cel [hX (bs t),hY k] g)::(O++(I++L))))))):=h.re
   refine h.stA 0 λw h=>?_
   have h:Sat σ w (yK lb (hT a7 U.length b3) url title tc cor::(a6++((W++b9)++(p2.at b::((ob,cel [hX (bs t),hY k] g)::(O++(I++L))))))):=h
   have h4:(ob,cel [hX (bs t),hY k] g)∈yK lb (hT a7 U.length b3) url title tc cor::(a6++((W++b9)++(p2.at b::((ob,cel [hX (bs t),hY k] g)::(O++(I++L)))))):=
    .tail _ (lB0 _ (lB0 _ (.tail _ (.head _))))
   refine aa ⟨_,Sat.ld h h4 rfl,by decide,by simp;omega,?_⟩;rw[e6];have h:Sat σ w ((b4,cel ((E++ [iu aQ ob])++((y++xs)++sp)) aD)::(p2.at b::((ob,cel [hX (bs t),hY k] g)::(yK lb (hT a7 U.length b3) url title tc cor::(a6++(W++(O++(I++L)))))))):=by rw[d2] at h;exact h.re
   have k10: ∀w (ty:TypeId),Sat σ w ((b4,cel ((E++ [iu ty lb])++((y++xs)++sp)) aD)::(p2.at b::((ob,cel [hX (bs t),hY k] g)::(yK lb (hT a7 U.length b3) url title tc cor::(a6++(W++(O++(I++L))))))))->
    InlAt (AF img (yo (ts2++nf raw e i)) url title tc cor) (iu ty lb) (yK lb (hT a7 U.length b3) url title tc cor::(W++a6))->
    av.k10 R X (kE b) (bs raw) b6 opens.length b7 lo b8 (ts1.length:Int) (kE ob) (en:Int) w:=by
    intro w ty h i3;refine aa ?_;refine⟨_,_,_,h.ldA,?_⟩;rw[aL (by omega)];refine⟨_,_,_,_,rE rowInl.ht rowInl.hi p2.lq p2.ln p2.lc (ts1.length+1) (by omega) w,aa ?_⟩;refine h.stA 1 λw h=>?_
    let d0:PS:= {p2 with ln:=ts1.length+1}
    have h:Sat σ w ((b4,cel ((E++ [iu ty lb])++((y++xs)++sp)) aD)::(d0.at b::((ob,cel [hX (bs t),hY k] g)::(yK lb (hT a7 U.length b3) url title tc cor::(a6++(W++(O++(I++L)))))))):=h
    have h:Sat σ w (d0.at b::((b4,cel ((E++ [iu ty lb])++((y++xs)++sp)) aD)::((ob,cel [hX (bs t),hY k] g)::(yK lb (hT a7 U.length b3) url title tc cor::(a6++(W++(O++(I++L)))))))):=h.re
    refine wY h λw h=>⟨rfl,aa ?_⟩
    generalize b5:({d0 with em:=(en:Int)}:PS)=p4 at h;have h8:p4.core=p2.core:=by rw[<-b5];rfl
    have c8: ∀w,Sat σ w (p4.at b::((b4,cel ((E++ [iu ty lb])++((y++xs)++sp)) aD)::((ob,cel [hX (bs t),hY k] g)::(yK lb (hT a7 U.length b3) url title tc cor::(a6++(W++(O++(I++L))))))))->
     IIn σ b p4 (ts1++ [AF img (yo (ts2++nf raw e i)) url title tc cor]) opens b6 opens.length b7 L w:=by
     intro w h;refine⟨E++ [iu ty lb],[(b4,cel ((E++ [iu ty lb])++((y++xs)++sp)) aD)],O++(yK lb (hT a7 U.length b3) url title tc cor::(W++a6)),I,?_,f6.append (InlsAt.one i3),g1,by simp;omega,?_⟩
     ·refine⟨by rw[<-b5];simp[d0];omega,by rw[<-b5];show ts1.length+1<=p2.lc;omega,.inr ⟨b4,(y++xs)++sp,by rw[<-b5];exact c5,rfl,?_⟩⟩;rw[<-b5];show _=p2.lc*1
      simp only[lA0,lE0] at g7⊢;omega
     ·exact h.less [(ob,cel [hX (bs t),hY k] g)]
    have f3:(ob,cel [hX (bs t),hY k] g)∈p4.at b::((b4,cel ((E++ [iu ty lb])++((y++xs)++sp)) aD)::((ob,cel [hX (bs t),hY k] g)::(yK lb (hT a7 U.length b3) url title tc cor::(a6++(W++(O++(I++L))))))):= .tail _ (.tail _ (.head _))
    refine⟨_,Sat.ld h f3 rfl,by decide,by simp;omega,?_⟩;rw[e6];have e9:p4.coreS=p0.coreS:=PS.coreS_of h8 h6;have g5:p4.s=raw:=by rw[<-b5];exact o0
    have g6:p4.em=(en:Int):=by rw[<-b5]
    have f0:e8 p4.bt:=by
     have q1:p4.bt=p.bt:=by rw[<-b5];show p2.bt=_;rw[i1,<-c2]
     rw[q1];exact m1
    rcases lK4 img with V|V
    ·rw[V] at ht c3 c8;exact af (by rw[ht];rfl) (c3 w p4 b6 _ b7 f0 e9 g5 g6 (c8 w h))
    ·rw[V] at ht c3 c8;exact ag (by rw[ht];rfl) (aa ⟨_,Sat.ld h f3 rfl,c3 w p4 b6 _ b7 f0 e9 g5 g6 (c8 w h)⟩)
   have f2: ∀v:Value,((E++ [iu aQ ob])++((y++xs)++sp)).set ts1.length v=(E++ [v])++((y++xs)++sp):=by
    intro v;rw[<-n0,lD0,lD0,lR1 _ _ (lE1 _),lQ1];simp
   have f7:ts1.length<((E++ [iu aQ ob])++((y++xs)++sp)).length:=by simp;omega
   rcases lK4 img with V|V
   ·refine ag (by rw[ht,V];rfl) (aa ?_);refine⟨_,_,_,h.ldA,?_⟩;refine⟨by omega,by omega,?_⟩;rw[c5];refine aa ?_;simp only[lL0,lC0,lA1,lO0,lL1];refine Sat.st h (k:=0) rfl f7 trivial rfl λw h=>?_
    rw[f2] at h;refine k10 w l7 h ?_;rw[V];exact⟨lb,vp,a7,U.length,b3,U,W,a6,rfl,rfl,g4,f5⟩
   ·refine af (by rw[ht,V];rfl) (aa ?_);refine⟨_,_,_,h.ldA,?_⟩;refine⟨by omega,by omega,?_⟩;rw[c5];refine aa ?_;simp only[lL0,lC0,lA1,lO0,lL1];refine Sat.st h (k:=0) rfl f7 trivial rfl λw h=>?_
    rw[f2] at h;refine k10 w l6 h ?_;rw[V];exact⟨lb,vp,a7,U.length,b3,U,W,a6,rfl,rfl,g4,f5⟩
  have fin: ∀w r,Sat σ w (yK lb (hT none 0 0) url title tc cor::(({p with corner:=r}:PS).at b::(RM++((O++([(ob,cel [hX (bs t),hY k] g)]++c1))++(I++L)))))->
   av.k9 R X (kE b) (bs raw) b6 opens.length b7 lo b8 (i:Int) (ts1.length:Int) (kE ob) (kE lb) (en:Int) w:=λw r h=>k9 w r h.up1
  refine aa ⟨p.corner,Sat.ld h (.tail _ (.head _)) rfl,bh (λ_=>aa ?_) (λ_=>?_)⟩
  ·refine h.stA 1 λw h=>?_
   exact fin _ true h
  ·refine aa ⟨cor,Sat.ld h (.head _) rfl,bh (λ_=>aa ?_) (λ_=>?_)⟩
   ·refine h.stA 1 λw h=>?_
    exact fin _ true h
   ·refine aa ⟨bs url,Sat.ld h (.head _) rfl,?_⟩;refine vS (by omega) λr=>⟨_,rfl,aa ?_⟩
    refine h.stA 1 λw h=>?_
    exact fin _ r h
 rcases lK4 img with V|V
 ·exact ag (by rw[ht,V];rfl) k8
 ·refine af (by rw[ht,V];rfl) (aa ⟨_,Sat.ld h d3 rfl,?_⟩);rw[decide_eq_true (o3.resolve_left (by rw[V];decide))];exact k8

structure TX where
 t:Nat
 s:Nat
 e:Nat
 raw:List UInt8
def TX.chunk (x:TX):ai:=fL x.t x.s x.e none 0 0 x.raw
structure DB where
 v:Value
 own:List ai
 txs:List TX
def cZ (D:List DB):List ai:=D.flatMap DB.own
def cj (D:List DB):List TX:=D.flatMap DB.txs
theorem l8 (D:List DB)(d:DB):cZ (D++ [d])=cZ D++d.own:=by simp[cZ]
theorem j4 (D:List DB)(d:DB):cj (D++ [d])=cj D++d.txs:=by simp[cj]
def kj (g s e:Nat):OB:=⟨.iface ar (kT (kE g)),none,0,0,s,e⟩
theorem Bd {q:Option Addr}{n c:Nat}{ts:List (List UInt8)}{g:List ai}(E:Sl 1 aq q n c (ts.map λt=> hX (bs t)) g)(h:Sat σ w (g++L))(O:ts≠ [])(U:ts.length<1048576)(h0:bl [10] ts≠ [])(hb:(bl [10] ts).length<1073741824)(y: ∀w,Sat σ w (g++L)->R (hQ (hX (bs (bl [10] ts)))) w):callE P gm #[hT q n c,hX (bs [10])] R w:=by
 have I:=E.1;simp only[lQ0,lA1] at I
 match ts,O with
 | [t],_=>
  obtain rfl:n=1:=by simpa using I.symm
  have e:bl [10] [t]=t:=by simp[bl]
  rw[e] at y;exact E2 h E y
 |t::u::ts,_=>
  exact C9 (t:=t) (ts:=u::ts) E h (by simp) (by omega) (by decide) (lZ0.2 h0) hb y
theorem xo {b g:Nat}{p:PS}{ob:List OB}{o:OB}{M y U:List ai}{ts:List Nat}{ls:List (List UInt8)}{s:List UInt8}(h:Sat σ w (p.at b::M++(y++(U++L))))(hs:Stk p (ob++ [o]) M)(ht:Txts p ts y)(b3:ts.length<1048575)(c1:sd g ls U)(W:ls≠ [])(b5:ls.length<1048576)(V:bl [10] ls=s)(b8:s.length<1073741824)(a7:s≠ [])(hb:Fx s)(c5:o.s<1000000000)(c2: ∀w p' I t nb,p'= {p with tq:=p'.tq,tn:=ts.length+1,tc:=p'.tc}->Txts p' (ts++ [t]) I->
  Sat σ w (p'.at b::M++(I++(U++(lQ nb o.s (o.s+ls.length - 1) t::fL t o.s (o.s+ls.length - 1) none 0 0 s::L))))->R (hQ (.iface bE (kT (kE nb)))) w):
 callE P iZ #[kT (kE g),.iface ah (kT (kE b))] R w:=by
 obtain⟨q,c,E,c3,rfl⟩:=c1;have c4:1<=ls.length:=lZ0.2 W;refine cI.sound ?_;have h:Sat σ w (p.at b::M++(y++(((g,cel [hT q ls.length c,kT none] aM)::E)++L))):=h
 have h:Sat σ w ((g,cel [hT q ls.length c,kT none] aM)::(E++(p.at b::M++(y++L)))):=h.re
 repeat (first|refine aa ?_|refine h.tk λw h=>?_|refine⟨_,h.ldA,?_⟩|refine⟨_,_,_,h.ldA,?_⟩)
 refine⟨_,w,jI wI _ _ _ w,af rfl ?_⟩
 repeat (first|refine aa ?_|refine h.tk λw h=>?_|refine⟨_,h.ldA,?_⟩|refine⟨_,_,_,h.ldA,?_⟩)
 have h:Sat σ w (E++((g,cel [hT q ls.length c,kT none] aM)::(p.at b::M++(y++L)))):=h.re
 refine Bd c3 h W b5 (by rw[V];exact a7) (by rw[V];exact b8) λw h=>⟨_,rfl,?_⟩
 rw[V];intro X b7;have a6:((bs s).toList==(hP #[]).toList)=false:=by rw[cn,gL];simpa using a7
 refine b7 _ _ _ _ (ag (by rw[a6];rfl) ?_);refine hb _ _ _ ⟨_,_,rfl,ag rfl ?_⟩;refine af a6 ?_;have h:Sat σ w (p.at b::M++(y++(E++(g,cel [hT q ls.length c,kT none] aM)::L))):=h.re
 refine bq oD ?_;refine uL h hs λw h=>⟨_,_,rfl,?_⟩
 refine Sat.bx h λO w h=>?_
 repeat (first|refine aa ?_|refine h.tk λw h=>?_|refine⟨_,h.ldA,?_⟩|refine⟨_,_,_,h.ldA,?_⟩|refine h.stA 0 λw h=>?_|refine h.stA 1 λw h=>?_|refine h.stA 2 λw h=>?_|refine h.stA 3 λw h=>?_|refine h.stA 4 λw h=>?_|refine h.stA 5 λw h=>?_|refine h.stA 6 λw h=>?_|refine h.bx λb0 w h=>?_)
 have h:Sat σ _ ((O,cel [hY o.s,hY o.e] aH)::(p.at b::M++(y++(E++(g,cel [hT q ls.length c,kT none] aM)::L)))):=h
 have h:Sat σ _ ((O,cel [hY o.s,hY o.e] aH)::(g,cel [hT q ls.length c,kT none] aM)::(p.at b::M++(y++(E++L)))):=h.re
 refine⟨_,_,_,h.ldA,?_⟩;refine h.stA 0 λw h=>?_
 refine h.tk λw h=>?_
 refine⟨_,h.ldA,?_⟩;refine⟨_,h.ldA,?_⟩;refine⟨_,h.ldA,?_⟩;refine⟨_,h.ldA,?_⟩;have b9:i64.wrap (i64.wrap ((o.s:Int)+((ls.length:Nat):Int)) - 1)=((o.s+ls.length - 1:Nat):Int):=by
  rw[i64_in (_+_) (by omega),i64_in _ (by omega)];omega
 rw[b9] at h⊢;have h:Sat σ _ ((O,cel [hY o.s,hY (o.s+ls.length - 1:Nat)] aH)::(g,cel [hT q ls.length c,kT none] aM)::(p.at b::M++(y++(E++L)))):=h
 have hz:=h;have h:Sat σ _ (p.at b::y++((O,cel [hY o.s,hY (o.s+ls.length - 1:Nat)] aH)::(g,cel [hT q ls.length c,kT none] aM)::(M++(E++L)))):=h.re
 refine bq xB ?_;refine uO h ht b3 λw p' I t b6 b4 h=>⟨_,rfl,?_⟩
 refine⟨hz.same h (.head _) (by simp) 2,?_⟩;refine Sat.bx h λnb w h=>?_
 have h:Sat σ w (lQ nb o.s (o.s+ls.length - 1) t::(p'.at b::I++(fL t o.s (o.s+ls.length - 1) none 0 0 s::((O,cel [hY o.s,hY (o.s+ls.length - 1:Nat)] aH)::(g,cel [hT q ls.length c,kT none] aM)::(M++(E++L)))))):=h
 refine c2 w p' I t nb b6 b4 ?_;have h:=Sat.less (L':=p'.at b::M++(I++(((g,cel [hT q ls.length c,kT none] aM)::E)++(lQ nb o.s (o.s+ls.length - 1) t::fL t o.s (o.s+ls.length - 1) none 0 0 s::L)))) [(O,cel [hY o.s,hY (o.s+ls.length - 1:Nat)] aH)] h
 exact h
theorem yr {b a7:Nat}{p:PS}{ob:List OB}{par o:OB}{M W y IM:List ai}{inner:List Value}{ts:List Nat}{ls:List (List UInt8)}{s:List UInt8}(h:Sat σ w (p.at b::M++(IM++(W++(y++L)))))(hs:Stk p (ob++ [par]++ [o]) M)(b3:o.bd= .iface ar (kT (kE a7)))(e1:Sl 1 aO par.q par.n par.c inner IM)(d1:par.n<1000000)(ht:Txts p ts W)(c1:ts.length<1048575)(e3:sd a7 ls y)(b8:ls≠ [])(c5:ls.length<1048576)(e0:bl [10] ls=s)(d3:s.length<1073741824)(d0:s≠ [])(hb:Fx s)(c4:o.s<1000000000)(e4: ∀w p' b6 a6 g t nb V U x,p'= {p with stn:=ob.length+1,tq:=p'.tq,tn:=ts.length+1,tc:=p'.tc}->Stk p' (ob++ [{par with q:=V,n:=par.n+1,c:=U}]) b6->Txts p' (ts++ [t]) g->
  Sl 1 aO V (par.n+1) U (inner++ [.iface bE (kT (kE nb))]) a6->
  Sat σ w (p'.at b::b6++(a6++(g++(lQ nb o.s (o.s+ls.length - 1) t::fL t o.s (o.s+ls.length - 1) none 0 0 s::L))))->R (hQ x) w):
 callE P aJ #[kT (kE b)] R w:=by
 refine qr (ob:=ob) (par:=par) (IM:=IM) (inner:=inner) (λE b5 b4 q=> ∃g t nb,E= {p with tq:=E.tq,tn:=ts.length+1,tc:=E.tc}/\Txts E (ts++ [t]) g/\
  b5=g++(y++(lQ nb o.s (o.s+ls.length - 1) t::fL t o.s (o.s+ls.length - 1) none 0 0 s::L))/\b4=bE/\q=kE nb) h hs b3 e1 d1 ?_ ?_
 ·intro e6 w h e5;rw[b3];have h:Sat σ w (p.at b::M++(W++(y++(IM++L)))):=h.re
  refine bq un ?_;refine xo (ob:=ob++ [par]) (o:=o) (ts:=ts) h hs ht c1 e3 b8 c5 e0 d3 d0 hb c4 λw p' g t nb O c2 h=>?_
  exact e5 w p' _ bE _ (by rw[O]) (by rw[O]) (by rw[O]) (by decide) ⟨g,t,nb,O,c2,rfl,rfl,rfl⟩ (h.re)
 ·intro w p2 e2 c8 E b5 b4 q V U b7 I d2 c3 h;obtain⟨g,t,nb,b9,c9,rfl,rfl,rfl⟩:=b7;refine e4 w p2 e2 c8 g t nb V U _ ?_ d2 (c9.of (by rw[I]) (by rw[I]) (by rw[I])) c3 (h.less y);rw[I,b9]

def dK (ls:List (List UInt8)):List UInt8:=ls.flatMap λl=>l++ [10]
def dQ (R:EP)(y g:BA)(w:World):Prop:=br (decide ((y.size:Int) >= (g.size:Int))) (0<=(g.size:Int)/\(g.size:Int)<=(y.size:Int)/\R (hQ (hV ((y.extract 0 (Int.toNat (g.size:Int))).toList==g.toList))) w) (R (hQ (hV false)) w)
theorem dQ.sound {R x0 x1 w}(h:dQ R x0 x1 w):callE P fx #[hX x0,hX x1] R w:=
 cF Tryz.func231 Tryz.call231 h
def oM (R:EP)(g:Int)(w:World):Prop:=R (hQ (hV (((decide (65<=g)) && (decide (g<=90)))||((decide (97<=g)) && (decide (g<=122)))))) w
theorem oM.sound {R x0 w}(h:oM R x0 w):callE P rg #[.int .u8 x0] R w:=
 cF Tryz.func202 Tryz.call202 h
def jc (R:EP)(I E:BA)(w:World):Prop:=callE P fx #[hX I,hX E] (λe y=>∃g,e= hQ (hV g)/\R (hQ (hV g)) y) w
theorem jc.sound {R x0 x1 w}(h:jc R x0 x1 w):callE P iW #[hX x0,hX x1] R w:=
 cF Tryz.func176 Tryz.call176 h

theorem FH (c:UInt8)(n:Nat):decide ((n:Int)<=((c.toNat:Nat):Int))=decide (n<=c.toNat):=by rw[decide_eq_decide];omega
theorem FI (c:UInt8)(n:Nat):decide (((c.toNat:Nat):Int)<=(n:Int))=decide (c.toNat<=n):=by rw[decide_eq_decide];omega
def BW (c:UInt8):Bool:=(decide (65<=c.toNat) && decide (c.toNat<=90))||(decide (97<=c.toNat) && decide (c.toNat<=122))
theorem zt {c:UInt8}(g:R (hQ (hV (BW c))) w):callE P rg #[.int .u8 (c.toNat:Int)] R w:=by
 refine oM.sound ?_;unfold oM;have e:(((decide ((65:Int)<=((c.toNat:Nat):Int))) && (decide (((c.toNat:Nat):Int)<=90)))||((decide ((97:Int)<=((c.toNat:Nat):Int))) && (decide (((c.toNat:Nat):Int)<=122))))=BW c:=by
  unfold BW;rw[<-FH c 65,<-FI c 90,<-FH c 97,<-FI c 122];rfl
 rw[e];exact g
theorem xZ {s t:List UInt8}(g:R (hQ (hV (decide (s.take t.length=t)))) w):callE P iW #[hX (bs s),hX (bs t)] R w:=by
 refine jc.sound ?_;refine dQ.sound ?_
 by_cases y:t.length<=s.length
 ·refine ag (by simp;omega) ⟨by omega,by simp;omega,?_⟩;rw[aF,lC0,bV,lO2,cn,cn];have e:(s.take t.length==t)=decide (s.take t.length=t):=by rw[lD5];simp
  rw[e];exact⟨_,rfl,g⟩
 ·refine af (by simp;omega) ?_;have:decide (s.take t.length=t)=false:=decide_eq_false λh=>by have:=congrArg List.length h;simp at this;omega
  rw[<-this];exact⟨_,rfl,g⟩
namespace cR
def bl1 (R:EP)(Xa:OA->Nat->Int->WP)(E:OA)(g:Nat)(y:Int)(w:World):Prop:=callE P fT #[kT (kE g),.int .u8 y] (λe U=>∃I,e= hQ (hV I)/\br I (Xa E g y U) (callE P iP #[kT (kE g)] (λe W=>e= hQ (.tuple #[])/\callE P oH #[kT (kE g)] (λe O=>∃V,e= hQ (hV V)/\br V (br (y==61) (aA E λb4=>stV O (b4.add 0) (hY 1) λa7=>R (hQ (hV true)) a7) (aA E λa6=>stV O (a6.add 0) (hY 2) λb3=>R (hQ (hV true)) b3)) (False)) W) U)) w
def l1 (R:EP)(E:OA)(g:Nat)(y:Int)(w:World):Prop:=∀X:OA->Nat->Int->WP,(∀E g y w,bl1 R X E g y w->X E g y w)->X E g y w
def k1 (R:EP)(E:OA)(y:Nat)(I:Int)(g:Bool)(w:World):Prop:=br g (l1 R E y I w) (R (hQ (hV false)) w)
end cR
def cR (R:EP)(c1 c2:OA)(w:World):Prop:=aA c1 λa1=>∃U,w.cell? (a1.add 0)=some (hY U)/\∃I,w.cell? (a1.add 1)=some (hY I)/\∃E,w.cell? (a1.add 2)=some (hY E)/\∃O,w.cell? (a1.add 3)=some (hX O)/\∃V,w.cell? (a1.add 4)=some (.int .u8 V)/\box w #[hY 0,hY 0,hY 0,hX (hP #[]),.int .u8 0] aW λg b9=>stV b9 (hZ g 0) (hY U) λb8=>stV b8 (hZ g 1) (hY I) λb4=>stV b4 (hZ g 2) (hY E) λa7=>stV a7 (hZ g 3) (hX O) λW=>stV W (hZ g 4) (.int .u8 V) λb3=>callE P bp #[kT (kE g),hY 0,hY 3,hV false] (λe b6=>∃a6,e= hQ (hV a6)/\callE P i6 #[kT (kE g)] (λe b5=>∃y,e= hQ (.int .u8 y)/\cR.k1 R c2 g y ((y==45)||(y==61)) b5) b6) b3
theorem cR.sound {R x0 x1 w}(h:cR R x0 x1 w):callE P fG #[kT x0,kT x1] R w:=
 aG [(111,.mk [22,106,128,340] (cR.k1 R)),(559,.lp [22,106,128] (cR.bl1 R) λXa=> []),(4015,.no)] Tryz.func194 Tryz.call194 h
def iG (R:EP)(d0 d1:OA)(c1 b8 b9:Int)(b7:BA)(c2:Int)(w:World):Prop:=box w #[hY c1,hY b8,hY b9,hX b7,.int .u8 c2] aW λb1 c9=>box c9 #[hY 0,hY 0,hY 0,hX (hP #[]),.int .u8 0] aW λg E=>∃a7,E.cell? (hZ b1 0)=some (hY a7)/\∃b6,E.cell? (hZ b1 1)=some (hY b6)/\∃a6,E.cell? (hZ b1 2)=some (hY a6)/\∃b4,E.cell? (hZ b1 3)=some (hX b4)/\∃b5,E.cell? (hZ b1 4)=some (.int .u8 b5)/\stV E (hZ g 0) (hY a7) λc5=>stV c5 (hZ g 1) (hY b6) λc3=>stV c3 (hZ g 2) (hY a6) λc8=>stV c8 (hZ g 3) (hX b4) λc4=>stV c4 (hZ g 4) (.int .u8 b5) λy=>∃O,y.cell? (hZ g 0)=some (hY O)/\∃W,y.cell? (hZ g 1)=some (hY W)/\∃U,y.cell? (hZ g 2)=some (hY U)/\∃I,y.cell? (hZ g 3)=some (hX I)/\∃V,y.cell? (hZ g 4)=some (.int .u8 V)/\R (hQ (.tuple #[.agg #[hY O,hY W,hY U,hX I,.int .u8 V],hV false])) y
theorem iG.sound {R x0 x1 x2_0 x2_1 x2_2 x2_3 x2_4 w}(h:iG R x0 x1 x2_0 x2_1 x2_2 x2_3 x2_4 w):callE P iB #[kT x0,kT x1,.agg #[hY x2_0,hY x2_1,hY x2_2,hX x2_3,.int .u8 x2_4]] R w:=
 cF Tryz.func423 Tryz.call423 h

inductive Leaf where
 |none
 |para (ls:List (List UInt8))
 |other (A:List OB->List ai->Prop)
def Ee:Leaf->List OB->List ai->Prop
 | .none,ob,M=>ob= []/\M= []
 | .para ls,ob,M=> ∃g s e,ob= [kj g s e]/\sd g ls M/\s<1000000000/\ls≠ []/\ls.length<1048570
 | .other A,ob,M=>A ob M
def HN (g:Nat):Value:= .iface iN (kT (kE g))
def PS.base (p:PS):PS:= {p with lineno:=0,stq:=none,stn:=0,stc:=0,depth:=0,corner:=false,tq:=none,tn:=0,tc:=0}
def kM (nb t s e:Nat)(raw:List UInt8):DB:=⟨.iface bE (kT (kE nb)),[lQ nb s e t],[⟨t,s,e,raw⟩]⟩
def Leaf.fin:Leaf->Prop
 | .none=>True
 | .para ls=>(bl [10] ls).length<1073741824/\bl [10] ls≠ []/\((bl [10] ls).dropWhile lS).head? ≠some 91
 | .other _=>False
def Leaf.finN:Leaf->Prop
 | .none=>True
 | .para ls=>(bl [10] ls).length<1073741824/\bl [10] ls≠ []/\Fx (bl [10] ls)
 | .other _=>False
theorem Leaf.fin.toN {lf:Leaf}(h:lf.fin):lf.finN:=by
 cases lf with
 |none=>trivial
 |para ls=>exact⟨h.1,h.2.1,EU (by have:=h.1;omega) h.2.2⟩
 |other A=>exact h
theorem tB:nG P ar "pub-paratext/pub/rscmarkdown.extend" iB=true:=by kernel_rfl
theorem vK {y E:Option Addr}{l:Ln}(h:Sat σ w L)(g: ∀w,Sat σ w L->R (hQ (.tuple #[l.val,hV false])) w):callE P iB #[kT y,kT E,l.val] R w:=by
 refine iG.sound ?_;refine Sat.bx h λb1 w h=>?_
 refine Sat.bx h λI w h=>?_
 repeat (first|refine aa ?_|refine h.tk λw h=>?_|refine⟨_,h.ldA,?_⟩|refine⟨_,_,_,h.ldA,?_⟩|refine h.stA 0 λw h=>?_|refine h.stA 1 λw h=>?_|refine h.stA 2 λw h=>?_|refine h.stA 3 λw h=>?_|refine h.stA 4 λw h=>?_|refine h.stA 5 λw h=>?_|refine h.stA 6 λw h=>?_|refine h.bx λb0 w h=>?_)
 exact g _ h.tail.tail
theorem uR:(P.fieldsOf aW).toList.map (λf=>(f.name== "_",f.type,f.offset))= [(false,ba,0),(false,ba,1),(false,ba,2),(false,aq,3),(false,dB,4)]:=by kernel_rfl
theorem rW {xs U:Array Value}: ∀ {fs:List Field} {gs:List (TypeId × Nat)},fs.map (λf=>(f.name== "_",f.type,f.offset))=gs.map (λy=>(false,y.1,y.2))->
 (∀y∈gs,∃v,(part y.1 xs y.2).run P w= .ok v w/\(part y.1 U y.2).run P w= .ok v w/\(Op.equalIn 9999 y.1 v v).run P w= .ok true w)->(Op.eqFields 9999 xs U fs).run P w= .ok true w
 | [],[],_,_=>rfl
 | [],y::gs,h,_=>by simp at h
 |f::fs,[],h,_=>by simp at h
 |f::fs,y::gs,h,hg=>by
  simp only[lP1,lU0,Prod.mk.injEq] at h;obtain⟨⟨a7,O,b4⟩,b3⟩:=h;obtain⟨v,V,I,E⟩:=hg y (lZ1 ..);have b6:=rW b3 (λb5 W=>hg b5 (lS1 _ W));have a6:f.name≠ "_" :=by simpa using a7
  rw[<-O,<-b4] at V I;rw[<-O] at E;simp only[Op.eqFields,ne_eq,a6,not_false_eq_true,if_true,lX0,V,I,E,lK0,Bool.not_true,lE3,if_false];exact b6
theorem qF:P.underlying ba=some (.int .i64):=by kernel_rfl
theorem FD:P.underlying dB=some (.int .u8):=by kernel_rfl
theorem nh:P.underlying aq=some .string:=by kernel_rfl
theorem j7 {t:TypeId}{d:TypeDesc}(hd:P.underlying t=some d)(g: ∀f,d≠ .struct f)(y: ∀n e,d≠ .array n e){cs:Array Value}{k:Nat}{v:Value}(hv:cs[k]? =some v)(w:World):(part t cs k).run P w= .ok v w:=by
 cases d<;>first|exact absurd rfl (g _)|exact absurd rfl (y _ _)|simp[part,isAgg,run_underlying hd,hv]
theorem wc {t:TypeId}{k:IntKind}(g:P.underlying t=some (.int k)){cs:Array Value}{i:Nat}{a:Int}(hv:cs[i]? =some (.int k a)): ∃v,(part t cs i).run P w= .ok v w/\(part t cs i).run P w= .ok v w/\(Op.equalIn 9999 t v v).run P w= .ok true w:=by
 have y:=j7 g (λ_ h=>by cases h) (λ_ _ h=>by cases h) hv w;exact⟨_,y,y,by rw[run_equalIn_int w 9998 t k k a a g,beq_self_eq_true]⟩
theorem G8 {cs:Array Value}{i:Nat}{a:ByteArray}(hv:cs[i]? =some (hX a)): ∃v,(part aq cs i).run P w= .ok v w/\(part aq cs i).run P w= .ok v w/\(Op.equalIn 9999 aq v v).run P w= .ok true w:=by
 have g:=j7 nh (λ_ h=>by cases h) (λ_ _ h=>by cases h) hv w;exact⟨_,g,g,by rw[run_equalIn_string w 9998 aq a a nh,beq_self_eq_true]⟩
theorem EX (l:Ln)(x I:Operand)(w:World):(do eqGuard .neq aW x I l.val l.val;binOp .neq aW l.val l.val).run P w= .ok (hV false) w:=by
 have E:(eqGuard .neq aW x I l.val l.val).run P w= .ok () w:=run_eqGuard_agg w .neq aW x I _ _ (by kernel_rfl);have hb:=run_neq_struct (P:=P) w aW #[hY l.sp,hY l.i,hY l.tab,hX (bs l.text),.int .u8 l.nl.toNat] #[hY l.sp,hY l.i,hY l.tab,hX (bs l.text),.int .u8 l.nl.toNat]
 have O:(Op.equalIn 10000 aW (.agg #[hY l.sp,hY l.i,hY l.tab,hX (bs l.text),.int .u8 l.nl.toNat]) (.agg #[hY l.sp,hY l.i,hY l.tab,hX (bs l.text),.int .u8 l.nl.toNat])).run P w= .ok true w:=by
  rw[run_equalIn_struct w 9999 aW _ _ (by kernel_rfl) (by kernel_rfl)];refine rW (gs:= [(ba,0),(ba,1),(ba,2),(aq,3),(dB,4)]) uR ?_;intro U E;simp only[lW0,lZ5,or_false] at E;rcases E with rfl|rfl|rfl|rfl|rfl
  ·exact wc qF rfl
  ·exact wc qF rfl
  ·exact wc qF rfl
  ·exact G8 rfl
  ·exact wc FD rfl
 rw[lX0,E,lK0];refine hb.trans ?_;rw[O];rfl

theorem pw {b7:OA->Nat->WP}{Y:OA->Nat->OA->Nat->Nat->Int->Int->WP}{b b1 nb:Nat}{e:TypeId}{p:PS}{M:List ai}{l:Ln}(b8: ∀a6 W y E I U O w,ak.bl2 R b7 Y a6 W y E I U O w->Y a6 W y E I U O w)(i:Nat):
 ∀(k:Nat) w,i<=8->k<=i->(∀j (V:j<newsF.length),k<=j->j<i->B3 b p M l newsF[j])->Sat σ w (p.at b::M++(l.at b1::(nb,cel newsC e)::L))->
  (∀w,Sat σ w (p.at b::M++(l.at b1::(nb,cel newsC e)::L))->Y (kE b) b1 (kE nb) 8 8 8 (i:Nat) w)->Y (kE b) b1 (kE nb) 8 8 8 (k:Nat) w:=by
 intro k;generalize b9:i - k=m
 induction m generalizing k with
 |zero=>
  intro w hi b6 hd h g;obtain rfl:k=i:=by omega
  exact g w h
 |succ m b3=>
  intro w hi b6 hd h g;refine b8 _ _ _ _ _ _ _ _ (ag (by simp;omega) ⟨by omega,by omega,?_⟩);have a7:k<newsF.length:=by show k<8;omega
  have b4:=lH0 a7;refine aa ?_;simp only[lL0,lO0,lC0,lA1];have h:Sat σ w (l.at b1::(nb,cel newsC e)::(p.at b::(M++L))):=h.re
  refine⟨_,Sat.ld h (.tail _ (.head _)) (tu b4),?_⟩;refine⟨_,Sat.ld h (.head _) rfl,_,Sat.ld h (.head _) rfl,_,Sat.ld h (.head _) rfl,_,Sat.ld h (.head _) rfl,_,Sat.ld h (.head _) rfl,?_⟩;have h:Sat σ w (p.at b::M++(l.at b1::(nb,cel newsC e)::L)):=h.re
  refine ir ?_;refine hd k a7 (lE1 _) (by omega) σ w _ _ h λw h=>⟨_,_,_,_,_,_,rfl,?_⟩
  repeat (first|refine aa ?_|refine h.tk λw h=>?_|refine⟨_,h.ldA,?_⟩|refine⟨_,_,_,h.ldA,?_⟩|refine h.stA 0 λw h=>?_|refine h.stA 1 λw h=>?_|refine h.stA 2 λw h=>?_|refine h.stA 3 λw h=>?_|refine h.stA 4 λw h=>?_|refine h.stA 5 λw h=>?_|refine h.stA 6 λw h=>?_|refine h.bx λb0 w h=>?_)
  rw[aL (by omega)];have h:Sat σ _ (l.at b0::(p.at b::M++(l.at b1::(nb,cel newsC e)::L))):=h
  exact b3 (k+1) (by omega) _ hi (by omega) (λj V c1 b5=>hd j V (by omega) b5) h.tail g
theorem ve {U:OA->Nat->WP}{b b1:Nat}{p:PS}{M:List ai}{l:Ln}(h:Sat σ w (p.at b::M++(l.at b1::L)))(hd: ∀f∈newsF,B3 b p M l f)(V: ∀w nb e (y:Ending->World->Prop),Sat σ w (p.at b::M++(l.at b1::(nb,cel newsC e)::L))->(∀w k,R (hQ (.tuple #[])) w->y (hQ (.tuple #[Ln.zero.val,hV k])) w)->callE P qi #[kT (kE b),l.val] y w):
 ak.bl102 R U (kE b) b1 w:=by
 refine zl h λw nb e h=>⟨_,_,_,rfl,?_⟩
 intro Y E;have h:Sat σ w (p.at b::M++(l.at b1::(nb,cel newsC e)::L)):=h.re
 refine pw E 8 0 w (by omega) (by omega) (λj I _ _=>hd _ (lO1 I)) h λw h=>?_
 refine E _ _ _ _ _ _ _ _ (af (by simp) ?_);have g:l.at b1∈p.at b::M++(l.at b1::(nb,cel newsC e)::L):=by simp
 refine⟨_,Sat.ld h g (i:=0) rfl,_,Sat.ld h g (i:=1) rfl,_,Sat.ld h g (i:=2) rfl,_,Sat.ld h g (i:=3) rfl,_,Sat.ld h g (i:=4) rfl,?_⟩;exact V w nb e _ h λw k O=>⟨_,_,_,_,_,_,rfl,O⟩
theorem oR {a6:OA->Nat->WP}{b b1:Nat}{p:PS}{M:List ai}{l:Ln}(i:Nat)(hi:i<newsF.length)(h:Sat σ w (p.at b::M++(l.at b1::L)))(hd: ∀j (E:j<newsF.length),j<i->B3 b p M l newsF[j])(a7: ∀w nb e (I:Ending->World->Prop),Sat σ w (p.at b::M++(l.at b1::(nb,cel newsC e)::L))->
  (∀w g,Sat σ w (l.at b1::g)->(∀w,Sat σ w g->R (hQ (.tuple #[])) w)->I (hQ (.tuple #[Ln.zero.val,hV true])) w)->callE P newsF[i] #[kT (kE b),l.val] I w):
 ak.bl102 R a6 (kE b) b1 w:=by
 have b3:i<8:=hi;refine zl h λw nb e h=>⟨_,_,_,rfl,?_⟩
 intro Y O;have h:Sat σ w (p.at b::M++(l.at b1::(nb,cel newsC e)::L)):=h.re
 refine pw O i 0 w (by omega) (by omega) (λj E _ V=>hd j E V) h λw h=>?_
 refine O _ _ _ _ _ _ _ _ (ag (by simp;omega) ⟨by omega,by omega,?_⟩);have U:=lH0 hi;refine aa ?_;simp only[lL0,lO0,lC0,lA1];have h:Sat σ w (l.at b1::(nb,cel newsC e)::(p.at b::(M++L))):=h.re
 refine⟨_,Sat.ld h (.tail _ (.head _)) (tu U),?_⟩;refine⟨_,Sat.ld h (.head _) rfl,_,Sat.ld h (.head _) rfl,_,Sat.ld h (.head _) rfl,_,Sat.ld h (.head _) rfl,_,Sat.ld h (.head _) rfl,?_⟩;have h:Sat σ w (p.at b::M++(l.at b1::(nb,cel newsC e)::L)):=h.re
 refine ir ?_;refine a7 w nb e _ h λw g h W=>⟨_,_,_,_,_,_,rfl,?_⟩
 refine Sat.bx h λy w h=>?_
 refine h.stA 0 λw h=>?_
 refine h.stA 0 λw h=>?_
 refine h.stA 0 λw h=>?_
 refine h.stA 0 λw h=>?_
 refine h.stA 0 λw h=>?_
 have h:Sat σ w (Ln.zero.at y::l.at b1::g):=h
 refine ag rfl ?_;refine⟨_,h.ldA,?_⟩;refine⟨_,h.ldA,?_⟩;refine⟨_,h.ldA,?_⟩;refine⟨_,h.ldA,?_⟩;refine⟨_,h.ldA,?_⟩;refine h.stA 1 λw h=>?_
 refine h.stA 1 λw h=>?_
 refine h.stA 1 λw h=>?_
 refine h.stA 1 λw h=>?_
 refine h.stA 1 λw h=>?_
 have h:Sat σ w (Ln.zero.at y::Ln.zero.at b1::g):=h
 refine dH (l:=Ln.zero) h (.tail _ (.head _)) ⟨by decide,by decide,by decide,by decide⟩ λw h=>⟨_,rfl,?_⟩
 exact ag rfl (W _ h.tail.tail)
def Ln.rest (l:Ln):List UInt8:=(l.text.drop l.i).dropWhile cO
theorem vw {b nb:Nat}{l:Ln}{v:Int}{e:TypeId}(h:Sat σ w (l.at b::(nb,cel [hY v] e)::L))(g:l.ok)(E:(l.lead 3 false).peek≠45)(I:(l.lead 3 false).peek≠61)(y: ∀w,Sat σ w (l.at b::(nb,cel [hY v] e)::L)->R (hQ (hV false)) w):callE P fG #[kT (kE b),kT (kE nb)] R w:=by
 refine cR.sound ?_
 repeat (first|refine aa ?_|refine h.tk λw h=>?_|refine⟨_,h.ldA,?_⟩|refine⟨_,_,_,h.ldA,?_⟩|refine h.stA 0 λw h=>?_|refine h.stA 1 λw h=>?_|refine h.stA 2 λw h=>?_|refine h.stA 3 λw h=>?_|refine h.stA 4 λw h=>?_|refine h.stA 5 λw h=>?_|refine h.stA 6 λw h=>?_|refine h.bx λb0 w h=>?_)
 have h:Sat σ _ (l.at b0::l.at b::(nb,cel [hY v] e)::L):=h
 refine lead_ok (max:=3) h g (by decide) λw h=>⟨_,rfl,?_⟩
 refine my h (by first|assumption|(repeat (first|exact .head _|apply List.Mem.tail))) (Ln.lead_ok g) λw h=>⟨_,rfl,?_⟩
 rw[u8b _ 45 45 rfl,u8b _ 61 61 rfl];exact af (by simp[E,I]) (y _ h.tail)
theorem wk {t u e:TypeId}{i j:TypeInfo}{U:Array (String × TypeId)}(g:P.underlying t=some (.interface U))(hi:P.info? u=some i)(hc:i.comparable=true)(V:P.underlying u=some (.pointer e))(E:P.info? e=some j)(hs:j.size≠0)(b:Nat)(x W:Operand)(w:World):
 (do eqGuard .eql t x W (.iface u (kT (kE b))) (.iface u (kT (kE b)));binOp .eql t (.iface u (kT (kE b))) (.iface u (kT (kE b)))).run P w= .ok (hV true) w:=by
 refine yv rfl rfl ?_;have O: ∀d,(Op.equalIn (d+1) u (kT (kE b)) (kT (kE b))).run P w= .ok true w:=λd=>by
  simp[Op.equalIn,run_underlying V,sizeOf,typeInfo,E,hs,sameAddr]
 have I: ∀d,(Op.equalIn (d+2) t (.iface u (kT (kE b))) (.iface u (kT (kE b)))).run P w= .ok true w:=λd=>by
  rw[Op.equalIn];simp[run_underlying g,typeInfo,hi,hc,O]
 exact I 9998
theorem rV (b:Nat)(x g:Operand)(w:World):
 (do eqGuard .eql bO x g (.iface ar (kT (kE b))) (.iface ar (kT (kE b)));binOp .eql bO (.iface ar (kT (kE b))) (.iface ar (kT (kE b)))).run P w= .ok (hV true) w:=
 wk uA (i:=(P.info? ar).getD default) (j:=(P.info? aM).getD default) (by kernel_rfl) (by kernel_rfl) ll (by kernel_rfl) (by rw[show ((P.info? aM).getD default).size=2 by kernel_rfl];decide) b x g w
structure Ln.cont (l:Ln):Prop where
 plain:l.plain
 lt:(l.lead 3 false).peek≠60
 dash:(l.lead 3 false).peek≠45
 eq:(l.lead 3 false).peek≠61

theorem wu {t:TypeId}{k:IntKind}(g:P.underlying t=some (.int k)){cs y:Array Value}{i:Nat}{a b:Int}(hv:cs[i]? =some (.int k a))(E:y[i]? =some (.int k b)): ∃u v r,(part t cs i).run P w= .ok u w/\(part t y i).run P w= .ok v w/\(Op.equalIn 9999 t u v).run P w= .ok r w:=
 ⟨_,_,_,j7 g (λ_ h=>by cases h) (λ_ _ h=>by cases h) hv w,j7 g (λ_ h=>by cases h) (λ_ _ h=>by cases h) E w,run_equalIn_int w 9998 t k k a b g⟩
theorem Hh {cs g:Array Value}{i:Nat}{a b:ByteArray}(hv:cs[i]? =some (hX a))(y:g[i]? =some (hX b)): ∃u v r,(part aq cs i).run P w= .ok u w/\(part aq g i).run P w= .ok v w/\(Op.equalIn 9999 aq u v).run P w= .ok r w:=
 ⟨_,_,_,j7 nh (λ_ h=>by cases h) (λ_ _ h=>by cases h) hv w,j7 nh (λ_ h=>by cases h) (λ_ _ h=>by cases h) y w,run_equalIn_string w 9998 aq a b nh⟩

structure TF where
 q:Option Addr
 n:Nat
 c:Nat
 vs:List Value
 RM:List ai
 KM:List ai
 KM':List ai
 f:List UInt8->List UInt8
def fill (x:TX)(t:TF):List ai:=fL x.t x.s x.e t.q t.n t.c x.raw::(t.RM++t.KM)
def jk (R:EP)(b4:OA)(b6:Value)(w:World):Prop:=aA b4 λa1=>∃b5,w.cell? a1=some (kT b5)/\aA b5 λa3=>stV w ((a3.add 3).add 0) (kT none) λb9=>tk b9 λg=>aA b4 λy=>∃b3,g.cell? (y.add 1)=some (hY b3)/\de P (callMethod b6 "pub-paratext/pub/rscmarkdown.pos" #[]) (λe E=>∃U W,e= hQ (.agg #[hY U,hY W])/\SameC g E (y.add 1) 1/\de P (callMethod b6 "pub-paratext/pub/rscmarkdown.blocks" #[]) (λe a7=>∃I O V,e= hQ (hT I O V)/\SameC E a7 (y.add 1) 1/\box a7 #[hY U,hY W,hT I O V,hY b3] nw λb8 b7=>R (hQ (.iface gf (kT (kE b8)))) b7) E) g
theorem jk.sound {R x0 x1 w}(h:jk R x0 x1 w):callE P ja #[kT x0,x1] R w:=
 aG [(11,.dr (rpN [0,6,12,15,18,22,5,11,24,29,30,33]))] Tryz.func438 Tryz.call438 h
def iE (R:EP)(b3:OA)(U:Value)(w:World):Prop:=de P (callMethod U "pub-paratext/pub/rscmarkdown.pos" #[]) (λe V=>∃y g,e= hQ (.agg #[hY y,hY g])/\de P (callMethod U "pub-paratext/pub/rscmarkdown.blocks" #[]) (λe a7=>∃O I E,e= hQ (hT O I E)/\box a7 #[hY y,hY g,hT O I E] zX λa6 W=>R (hQ (.iface kB (kT (kE a6)))) W) V) w
theorem iE.sound {R x0 x1 w}(h:iE R x0 x1 w):callE P iz #[kT x0,x1] R w:=
 cF Tryz.func434 Tryz.call434 h
namespace aV
def k3 (R:EP)(I:OA)(c1:Value)(E:Nat)(w:World):Prop:=tk w λg=>aA I λb5=>aA I λb3=>aA I λb4=>∃b7,g.cell? (hZ E 0)=some (hY b7)/\∃a6,g.cell? (hZ E 1)=some (hY a6)/\∃W,g.cell? b5=some (.int .i32 W)/\∃a7,g.cell? (b3.add 1)=some (hY a7)/\∃b6,g.cell? (b4.add 2)=some (hV b6)/\de P (callMethod c1 "pub-paratext/pub/rscmarkdown.blocks" #[]) (λe y=>∃O V U,e= hQ (hT O V U)/\SameC g y (b4.add 2) 1/\SameC g y (b3.add 1) 1/\SameC g y (b5) 1/\SameC g y (hZ E 0) 2/\box y #[hY b7,hY a6,.int .i32 W,hY a7,hV b6,hT O V U] vo λb9 b8=>R (hQ (.iface dn (kT (kE b9)))) b8) g
def bl4 (R:EP)(Xa:OA->Value->Nat->OA->Nat->Nat->Int->Int->WP)(c8:OA->Value->Nat->OA->OA->Nat->Nat->Int->Int->OA->Nat->Nat->Int->Int->WP)(b5:OA)(b6:Value)(b7:Nat)(b4 I:OA)(E O:Nat)(W V:Int)(U:OA)(y b8:Nat)(a6 g:Int)(w:World):Prop:=br (decide (g<a6)) (0<=g/\g<(y:Int)/\aA U λd0=>∃(c4:Value),w.cell? (d0.add (Int.toNat g*1))=some c4/\∃c1 b9 a7,(Instr.typeAssert c4 aO bE true).run P w= .ok (.tuple #[kT c1,hV b9]) a7/\br b9 (tk a7 λb3=>aA b4 λd3=>aA c1 λe0=>∃c2 c3 c9,b3.cell? (d3.add 2)=some (hT c2 c3 c9)/\∃c5,b3.cell? (e0.add 2)=some (kT c5)/\0<=g/\g<(c3:Int)/\aA c2 λd2=>stV b3 ((d2.add (Int.toNat g*1)).add 0) (.iface d4 (kT c5)) λd1=>c8 b5 b6 b7 b4 I E O W V U y b8 a6 (i64.wrap (g+1)) d1) (c8 b5 b6 b7 b4 I E O W V U y b8 a6 (i64.wrap (g+1)) a7)) (Xa b5 b6 b7 I E O W (i64.wrap (V+1)) w)
def l4 (R:EP)(Xa:OA->Value->Nat->OA->Nat->Nat->Int->Int->WP)(b5:OA)(b6:Value)(b4:Nat)(b3 I:OA)(U y:Nat)(a6 V:Int)(E:OA)(O g:Nat)(a7 W:Int)(w:World):Prop:=∀X:OA->Value->Nat->OA->OA->Nat->Nat->Int->Int->OA->Nat->Nat->Int->Int->WP,(∀b5 b6 b4 b3 I U y a6 V E O g a7 W w,bl4 R Xa X b5 b6 b4 b3 I U y a6 V E O g a7 W w->X b5 b6 b4 b3 I U y a6 V E O g a7 W w)->X b5 b6 b4 b3 I U y a6 V E O g a7 W w
def bl2 (R:EP)(Xa:OA->Value->Nat->OA->Nat->Nat->Int->Int->WP)(b4:OA)(b5:Value)(b3:Nat)(O:OA)(U b6:Nat)(W g:Int)(w:World):Prop:=br (decide (g<W)) (0<=g/\g<(U:Int)/\aA O λb8=>∃(a7:Value),w.cell? (b8.add (Int.toNat g*1))=some a7/\∃I E,(Instr.typeAssert a7 aO gf false).run P w= .ok (kT I) E/\aA I λb7=>∃V y a6,E.cell? (b7.add 2)=some (hT V y a6)/\l4 R Xa b4 b5 b3 I O U b6 W g V y a6 (y:Int) 0 E) (k3 R b4 b5 b3 w)
def l2 (R:EP)(V:OA)(W:Value)(U:Nat)(y:OA)(E g:Nat)(O I:Int)(w:World):Prop:=∀X:OA->Value->Nat->OA->Nat->Nat->Int->Int->WP,(∀V W U y E g O I w,bl2 R X V W U y E g O I w->X V W U y E g O I w)->X V W U y E g O I w
def k1 (R:EP)(g:OA)(O:Value)(V:OA)(y W I:Nat)(w:World):Prop:=aA g λU=>∃E,w.cell? (U.add 2)=some (hV E)/\br (!E) (l2 R g O I V y W (y:Int) 0 w) (k3 R g O I w)
def bl3 (R:EP)(f0:OA->Value->OA->Nat->Nat->Nat->OA->Nat->Nat->Int->Int->WP)(d2:OA->Value->OA->Nat->Nat->Nat->OA->OA->Nat->Nat->Int->Int->OA->Nat->Nat->Int->Int->WP)(E:OA)(V:Value)(I:OA)(O U a6:Nat)(W b3:OA)(b6 a7:Nat)(b8 b9:Int)(b5:OA)(b4 c3:Nat)(b7 g:Int)(w:World):Prop:=br (decide (g<b7)) (0<=g/\g<(b4:Int)/\aA b5 λe8=>∃(d1:Value),w.cell? (e8.add (Int.toNat g*1))=some d1/\de P (callMethod d1 "Pos" #[]) (λe y=>∃e0 c1,e= hQ (.agg #[hY e0,hY c1])/\aA W λe6=>∃e1 c4 e3,y.cell? (e6.add 2)=some (hT e1 c4 e3)/\br (decide ((i64.wrap (g+1))<(c4:Int))) (aA W λe5=>∃c5 c8 e2,y.cell? (e5.add 2)=some (hT c5 c8 e2)/\0<=(i64.wrap (g+1))/\(i64.wrap (g+1))<(c8:Int)/\aA c5 λe7=>∃(c9:Value),y.cell? (e7.add (Int.toNat (i64.wrap (g+1))*1))=some c9/\de P (callMethod c9 "Pos" #[]) (λe d0=>∃c2 d3,e= hQ (.agg #[hY c2,hY d3])/\br (decide ((i64.wrap (c2 - c1))>1)) (aA E λe4=>stV d0 ((e4.add 2).add 0) (hV true) λe9=>k1 R E V I O U a6 e9) (d2 E V I O U a6 W b3 b6 a7 b8 b9 b5 b4 c3 b7 (i64.wrap (g+1)) d0)) y) (d2 E V I O U a6 W b3 b6 a7 b8 b9 b5 b4 c3 b7 (i64.wrap (g+1)) y)) w) (f0 E V I O U a6 b3 b6 a7 b8 (i64.wrap (b9+1)) w)
def l3 (R:EP)(c1:OA->Value->OA->Nat->Nat->Nat->OA->Nat->Nat->Int->Int->WP)(b8:OA)(b9:Value)(a6:OA)(V b3 b7:Nat)(b6 O:OA)(I E:Nat)(a7 W:Int)(U:OA)(y g:Nat)(b5 b4:Int)(w:World):Prop:=∀X:OA->Value->OA->Nat->Nat->Nat->OA->OA->Nat->Nat->Int->Int->OA->Nat->Nat->Int->Int->WP,(∀b8 b9 a6 V b3 b7 b6 O I E a7 W U y g b5 b4 w,bl3 R c1 X b8 b9 a6 V b3 b7 b6 O I E a7 W U y g b5 b4 w->X b8 b9 a6 V b3 b7 b6 O I E a7 W U y g b5 b4 w)->X b8 b9 a6 V b3 b7 b6 O I E a7 W U y g b5 b4 w
def k2 (R:EP)(b6:OA->Value->OA->Nat->Nat->Nat->OA->Nat->Nat->Int->Int->WP)(b8:OA)(b9:Value)(a7:OA)(W b4 b7:Nat)(I V:OA)(U O:Nat)(b3 a6:Int)(w:World):Prop:=aA I λb5=>∃E g y,w.cell? (b5.add 2)=some (hT E g y)/\l3 R b6 b8 b9 a7 W b4 b7 I V U O b3 a6 E g y (g:Int) 0 w
def bl1 (R:EP)(c4:OA->Value->OA->Nat->Nat->Nat->OA->Nat->Nat->Int->Int->WP)(I:OA)(W:Value)(E:OA)(y V a6:Nat)(a7:OA)(b3 b8:Nat)(b5 g:Int)(w:World):Prop:=br (decide (g<b5)) (0<=g/\g<(b3:Int)/\aA a7 λa14=>∃(c1:Value),w.cell? (a14.add (Int.toNat g*1))=some c1/\∃O b4,(Instr.typeAssert c1 aO gf false).run P w= .ok (kT O) b4/\br (decide ((i64.wrap (g+1))<(y:Int))) (tk b4 λU=>0<=(i64.wrap (g+1))/\(i64.wrap (g+1))<(y:Int)/\aA E λc9=>aA O λc3=>∃(b9:Value),U.cell? (c9.add (Int.toNat (i64.wrap (g+1))*1))=some b9/\∃c2,U.cell? (c3.add 1)=some (hY c2)/\de P (callMethod b9 "Pos" #[]) (λe b6=>∃b7 c5,e= hQ (.agg #[hY b7,hY c5])/\SameC U b6 (c3.add 1) 1/\br (decide ((i64.wrap (b7 - c2))>1)) (aA I λd0=>stV b6 ((d0.add 2).add 0) (hV true) λc8=>k1 R I W E y V a6 c8) (k2 R c4 I W E y V a6 O a7 b3 b8 b5 g b6)) U) (k2 R c4 I W E y V a6 O a7 b3 b8 b5 g b4)) (k1 R I W E y V a6 w)
def l1 (R:EP)(a7:OA)(b3:Value)(U:OA)(I W a6:Nat)(E:OA)(y g:Nat)(V O:Int)(w:World):Prop:=∀X:OA->Value->OA->Nat->Nat->Nat->OA->Nat->Nat->Int->Int->WP,(∀a7 b3 U I W a6 E y g V O w,bl1 R X a7 b3 U I W a6 E y g V O w->X a7 b3 U I W a6 E y g V O w)->X a7 b3 U I W a6 E y g V O w
end aV
def aV (R:EP)(c2:OA)(O:Value)(w:World):Prop:=de P (callMethod O "pub-paratext/pub/rscmarkdown.blocks" #[]) (λe b7=>∃y g I,e= hQ (hT y g I)/\de P (callMethod O "pub-paratext/pub/rscmarkdown.pos" #[]) (λe c1=>∃W V,e= hQ (.agg #[hY W,hY V])/\box c1 #[hY 0,hY 0] aH λE b8=>stV b8 (hZ E 0) (hY W) λb9=>stV b9 (hZ E 1) (hY V) λa7=>0<=(i64.wrap ((g:Int) - 1))/\(i64.wrap ((g:Int) - 1))<(g:Int)/\aA y λa9=>∃(a6:Value),a7.cell? (a9.add (Int.toNat (i64.wrap ((g:Int) - 1))*1))=some a6/\de P (callMethod a6 "Pos" #[]) (λe b4=>∃b3 U,e= hQ (.agg #[hY b3,hY U])/\stV b4 (hZ E 1) (hY U) λb6=>aV.l1 R c2 O y g I E y g I (g:Int) 0 b6) a7) b7) w
theorem aV.sound {R x0 x1 w}(h:aV R x0 x1 w):callE P i5 #[kT x0,x1] R w:=
 aG [(701,.lp [2,25,103,126,663,687,707] (aV.bl1 R) λg=> [(1203,.dr (rpN [0,3,6,9,21,24,27,30,13,34,17,18,36,39])),(243,.mk [2,25,103,126,182,663,687,707] (aV.k2 R g)),(755,.lp [2,25,103,126,182,663,687,707,1343,1367,1387] (aV.bl3 R g) λE=> [])]),(253,.mk [2,25,103,126] (aV.k1 R)),(5501,.lp [2,25,126,2163,2187,2207] (aV.bl2 R) λXa=> [(371,.lp [2,25,126,302,2163,2187,2207,2383,2407,2427] (aV.bl4 R Xa) λy=> [(371,.dr (rpN [0,3,6,12,15,18,21,10,25,27,30,35]))])]),(509,.mk [2,25,126] (aV.k3 R)),(765,.dr (rpN [3,6,9,15,18,21,27,30,33,39,1,13,25,37,44,45,50,51,54]))] Tryz.func436 Tryz.call436 h
namespace gU
def bl1 (R:EP)(Xa:OA->Nat->Nat->Int->Int->WP)(b9:OA)(b5 c9:Nat)(b6 y:Int)(w:World):Prop:=br (decide (y<b6)) (0<=y/\y<(b5:Int)/\aA b9 λa3=>∃(c1:Value),w.cell? (a3.add (Int.toNat y*1))=some c1/\∃O g,(Instr.typeAssert c1 aO gf false).run P w= .ok (kT O) g/\aA O λd1=>∃d0 b4 c8,g.cell? (d1.add 2)=some (hT d0 b4 c8)/\br ((b4:Int)==0) (R (hQ (hV true)) g) (aA O λa9=>∃a6 b3 c5,g.cell? (a9.add 2)=some (hT a6 b3 c5)/\0<=(0:Int)/\0<(b3:Int)/\aA a6 λa11=>∃(E:Value),g.cell? (a11.add (Int.toNat 0*1))=some E/\∃c2 W b8,(Instr.typeAssert E aO dn true).run P g= .ok (.tuple #[kT c2,hV W]) b8/\∃c4 U b7,(Instr.typeAssert E aO cW true).run P b8= .ok (.tuple #[kT c4,hV U]) b7/\∃c3 V I,(Instr.typeAssert E aO cL true).run P b7= .ok (.tuple #[kT c3,hV V]) I/\br (W||(U||V)) (R (hQ (hV true)) I) (Xa b9 b5 c9 b6 (i64.wrap (y+1)) I))) (R (hQ (hV false)) w)
def l1 (R:EP)(O:OA)(I g:Nat)(y E:Int)(w:World):Prop:=∀X:OA->Nat->Nat->Int->Int->WP,(∀O I g y E w,bl1 R X O I g y E w->X O I g y E w)->X O I g y E w
end gU
def gU (R:EP)(I:OA)(w:World):Prop:=aA I λa1=>∃E g y,w.cell? (a1.add 5)=some (hT E g y)/\gU.l1 R E g y (g:Int) 0 w
theorem gU.sound {R x0 w}(h:gU R x0 w):callE P lH #[kT x0] R w:=
 aG [(21,.lp [183,207,227] (gU.bl1 R) λXa=> [])] Tryz.func154 Tryz.call154 h
def lX (R:EP)(a6 W:Int)(w:World):Prop:=box w #[hY a6,hY W] aH λb1 a7=>box a7 #[hY 0,hY 0] aH λg E=>∃O,E.cell? (hZ b1 0)=some (hY O)/\∃V,E.cell? (hZ b1 1)=some (hY V)/\stV E (hZ g 0) (hY O) λb4=>stV b4 (hZ g 1) (hY V) λy=>∃U,y.cell? (hZ g 0)=some (hY U)/\∃I,y.cell? (hZ g 1)=some (hY I)/\R (hQ (.agg #[hY U,hY I])) y
theorem lX.sound {R x0_0 x0_1 w}(h:lX R x0_0 x0_1 w):callE P cB #[.agg #[hY x0_0,hY x0_1]] R w:=
 cF Tryz.func305 Tryz.call305 h

def lB (P:Program)(t:TypeId)(I:String)(f:FuncId):Bool:=
 match P.info? t with
 |some i=>match i.methods.find? (·.name==I) with
  |some m=>match m.path.toList with
   | [s]=>s.deref && (match P.underlying s.struct with
    |some (.struct E)=>match E[s.index]? with
     |some y=>Nat.beq y.offset 0 && (match P.info? y.type with
      |some O=>Nat.beq O.size 2 && (match P.underlying y.type with
       |some (.struct _)=>(match m.func with|some (g,false)=>Nat.beq g f|_=>false)
       |_=>false)
      |none=>false)
     |none=>false
    |_=>false)
   |_=>false
  |none=>false
 |none=>false
theorem Ba {P:Program}{t:TypeId}{U:String}{f:FuncId}(h:lB P t U f=true)(b:Nat)(V:Nat)(w:World){x I:Value}(b4:w.cell? (hZ b 0)=some x)(c1:w.cell? (hZ b 1)=some I):
 (Go.method (V+1) t (kT (kE b)) U).run P w= .ok (f,.agg #[x,I]) w:=by
 have a7:(loadCells (hZ b 0) 2).run P w= .ok #[x,I] w:=by
  refine run_loadCells_list (P:=P) (w:=w) (hZ b 0) [x,I] ?_;intro j v E
  match j,E with
  |0,E=>cases E;simpa[Addr.add] using b4
  |1,E=>cases E;simpa[Addr.add] using c1
 unfold lB at h;split at h
 ·rename_i i hi;split at h
  ·rename_i m b8;split at h
   ·rename_i s b7;simp only[lN1] at h;obtain⟨hd,h⟩:=h;split at h
    ·rename_i c2 b5;split at h
     ·rename_i c3 b6;simp only[lN1] at h;obtain⟨h0,h⟩:=h;have h0:=lK1 h0;split at h
      ·rename_i c4 a6;simp only[lN1] at h;obtain⟨O,h⟩:=h;have O:=lK1 O;split at h
       ·rename_i fs W;split at h
        ·rename_i g b9;have b3:=lK1 h;subst b3;simp[Go.method,typeInfo,hi,b8,b7,Go.follow,run_underlying b5,b6,hd,Go.Place.get,asAddr,Go.fieldPlace,sizeOf,a6,O,h0,b9,Go.receiverAt,run_underlying W,lL0,loadVar,isAgg,a7]
        ·cases h
       ·cases h
      ·cases h
     ·cases h
    ·cases h
   ·cases h
  ·cases h
 ·cases h
theorem zH {t:TypeId}{E:String}{f:FuncId}{b:Nat}{g:Array Value}{x I:Value}(O:lB P t E f=true)(V:w.cell? (hZ b 0)=some x)(W:w.cell? (hZ b 1)=some I)(h:callE P f (#[.agg #[x,I]]++g) R w):
 de P (callMethod (.iface t (kT (kE b))) E g) R w:=by
 obtain⟨n,U⟩:=u7 P;have hr:=Ba O b n w V W;have e:(callMethod (.iface t (kT (kE b))) E g).run P w=(callFunc f (#[.agg #[x,I]]++g)).run P w:=by
  simp only[callMethod,lX0,run_program,lK0,U,hr]
 unfold de;rw[e];exact h.imp (λh=>⟨f,_,w,h.1 _ _,h.2⟩) id
theorem zd {s e:Int}(h:Sat σ w L)(g: ∀w,Sat σ w L->R (hQ (.agg #[hY s,hY e])) w):callE P cB #[.agg #[hY s,hY e]] R w:=by
 refine lX.sound ?_;refine Sat.bx h λb1 w h=>?_
 refine Sat.bx h λy w h=>?_
 repeat (first|refine aa ?_|refine h.tk λw h=>?_|refine⟨_,h.ldA,?_⟩|refine⟨_,_,_,h.ldA,?_⟩|refine h.stA 0 λw h=>?_|refine h.stA 1 λw h=>?_|refine h.stA 2 λw h=>?_|refine h.stA 3 λw h=>?_|refine h.stA 4 λw h=>?_|refine h.stA 5 λw h=>?_|refine h.stA 6 λw h=>?_|refine h.bx λb0 w h=>?_)
 exact g _ h.tail.tail
theorem pW:lB P bE "Pos" cB=true:=by kernel_rfl
theorem Ae:lB P gf "Pos" cB=true:=by kernel_rfl
theorem Ad:lB P dn "Pos" cB=true:=by kernel_rfl
theorem xi:lB P kB "Pos" cB=true:=by kernel_rfl
theorem pX:lB P cL "Pos" cB=true:=by kernel_rfl
def DB.posIs (d:DB)(s e:Nat):Prop:=
 ∀(σ:Out) (R:Ending->World->Prop) (L:List ai) (w:World),(∀c∈d.own,c∈L)->Sat σ w L->(∀w,Sat σ w L->R (hQ (.agg #[hY s,hY e])) w)->de P (callMethod d.v "Pos" #[]) R w
theorem kr {t:TypeId}{b s e:Nat}{cs:List Value}{ty:TypeId}{d:DB}(E:lB P t "Pos" cB=true) (hv:d.v= .iface t (kT (kE b))) (y:(b,cel (hY s:: hY e::cs) ty)∈d.own):d.posIs s e:=by
 intro σ R L w O h I;rw[hv];have g:=O _ y;exact zH E (Sat.ld h g (i:=0) rfl) (Sat.ld h g (i:=1) rfl) (zd h I)
def dw (R:EP)(d1 c3:Nat)(d0 E:Nat)(w:World):Prop:=box w #[hY 0,hY 0,hY 0,hX (hP #[]),.int .u8 0] aW λb1 O=>∃b9,O.cell? (hZ d1 0)=some (kT b9)/\∃c2,O.cell? (hZ c3 0)=some (kT c2)/\callE P bQ #[kT b9,.iface bw (kT c2)] (λe I=>e= hQ (.tuple #[])/\∃b8,I.cell? (hZ d0 0)=some (kT b8)/\∃c1,I.cell? (hZ c3 0)=some (kT c1)/\aA b8 λa9=>stV I ((a9.add 3).add 0) (kT c1) λy=>∃a7,y.cell? (hZ E 0)=some (hY a7)/\∃b6,y.cell? (hZ E 1)=some (hY b6)/\∃b5,y.cell? (hZ E 2)=some (hY b5)/\∃b7,y.cell? (hZ E 3)=some (hX b7)/\∃W,y.cell? (hZ E 4)=some (.int .u8 W)/\stV y (hZ b1 0) (hY a7) λc8=>stV c8 (hZ b1 1) (hY b6) λc5=>stV c5 (hZ b1 2) (hY b5) λc9=>stV c9 (hZ b1 3) (hX b7) λc4=>stV c4 (hZ b1 4) (.int .u8 W) λg=>∃U,g.cell? (hZ b1 0)=some (hY U)/\∃b3,g.cell? (hZ b1 1)=some (hY b3)/\∃b4,g.cell? (hZ b1 2)=some (hY b4)/\∃a6,g.cell? (hZ b1 3)=some (hX a6)/\∃V,g.cell? (hZ b1 4)=some (.int .u8 V)/\R (hQ (.agg #[hY U,hY b3,hY b4,hX a6,.int .u8 V])) g) O
theorem dw.sound {R x0 x1 x2 x3 w}(h:dw R x0 x1 x2 x3 w):callE P eF #[kT (kE x0),kT (kE x1),kT (kE x2),kT (kE x3)] R w:=
 cF Tryz.func244 Tryz.call244 h

theorem jV {O:OA->Nat->WP}{b b1:Nat}{p:PS}{M:List ai}{l l2:Ln}(i:Nat)(hi:i<newsF.length)(h:Sat σ w (p.at b::M++(l.at b1::L)))(hd: ∀j (E:j<newsF.length),j<i->B3 b p M l newsF[j])(W:l2.ok)(V:l2.blank=false)(b3: ∀w nb e (I:Ending->World->Prop),Sat σ w (p.at b::M++(l.at b1::(nb,cel newsC e)::L))->
  (∀w g (p2:PS),p2.depth<1000000/\0<=p2.depth->Sat σ w (l.at b1::p2.at b::g)->(∀w,Sat σ w (l2.at b1::({p2 with depth:=p2.depth+1}:PS).at b::g)->O (kE b) b1 w)->I (hQ (.tuple #[l2.val,hV true])) w)->callE P newsF[i] #[kT (kE b),l.val] I w):
 ak.bl102 R O (kE b) b1 w:=by
 have b6:i<8:=hi;refine zl h λw nb e h=>⟨_,_,_,rfl,?_⟩
 intro Y U;have h:Sat σ w (p.at b::M++(l.at b1::(nb,cel newsC e)::L)):=h.re
 refine pw U i 0 w (by omega) (by omega) (λj E _ a7=>hd j E a7) h λw h=>?_
 refine U _ _ _ _ _ _ _ _ (ag (by simp;omega) ⟨by omega,by omega,?_⟩);have a6:=lH0 hi;refine aa ?_;simp only[lL0,lO0,lC0,lA1];have h:Sat σ w (l.at b1::(nb,cel newsC e)::(p.at b::(M++L))):=h.re
 refine⟨_,Sat.ld h (.tail _ (.head _)) (tu a6),?_⟩;refine⟨_,Sat.ld h (.head _) rfl,_,Sat.ld h (.head _) rfl,_,Sat.ld h (.head _) rfl,_,Sat.ld h (.head _) rfl,_,Sat.ld h (.head _) rfl,?_⟩;have h:Sat σ w (p.at b::M++(l.at b1::(nb,cel newsC e)::L)):=h.re
 refine ir ?_;refine b3 w nb e _ h λw g p2 b5 h b4=>⟨_,_,_,_,_,_,rfl,?_⟩
 refine Sat.bx h λy w h=>?_
 refine h.stA 0 λw h=>?_
 refine h.stA 0 λw h=>?_
 refine h.stA 0 λw h=>?_
 refine h.stA 0 λw h=>?_
 refine h.stA 0 λw h=>?_
 have h:Sat σ w (l2.at y::l.at b1::p2.at b::g):=h
 refine ag rfl ?_;refine⟨_,h.ldA,?_⟩;refine⟨_,h.ldA,?_⟩;refine⟨_,h.ldA,?_⟩;refine⟨_,h.ldA,?_⟩;refine⟨_,h.ldA,?_⟩;refine h.stA 1 λw h=>?_
 refine h.stA 1 λw h=>?_
 refine h.stA 1 λw h=>?_
 refine h.stA 1 λw h=>?_
 refine h.stA 1 λw h=>?_
 have h:Sat σ w (l2.at y::l2.at b1::p2.at b::g):=h
 refine dH h (.tail _ (.head _)) W λw h=>⟨_,rfl,?_⟩
 rw[V];refine af rfl (aa ?_);refine⟨_,h.ldA,?_⟩;refine aa ?_;rw[i64_in _ (by omega)];refine Sat.st h (k:=2) rfl (by simp[PS.cells]) trivial rfl λw h=>?_
 have h:Sat σ w (l2.at y::l2.at b1::({p2 with depth:=p2.depth+1}:PS).at b::g):=h
 exact b4 w h.tail
def GG (g:Nat):ai:=(g,cel [] nm)
def quoV (g:Nat):Value:= .iface hU (kT (kE g))

def Ln.bullet (l:Ln):Option (UInt8 × Nat × Ln):=
 if (l.strip 3 0).2.peek=45\/(l.strip 3 0).2.peek=42\/(l.strip 3 0).2.peek=43 then
  match ((l.strip 3 0).2.trimC (l.strip 3 0).2.peek).bind (·.trimSp 1 1 true) with
  |none=>none
  |some g=>match (g.strip 3 0).2.trimSp 1 1 true with
   |none=>some ((l.strip 3 0).2.peek,(l.strip 3 0).1+2+(g.strip 3 0).1,(g.strip 3 0).2)
   |some _=>some ((l.strip 3 0).2.peek,(l.strip 3 0).1+2,g)
 else none
theorem Ln.bullet_ok {l t:Ln}{c:UInt8}{n:Nat}(I:l.ok)(h:l.bullet=some (c,n,t)):t.ok/\n<=8/\(c=45\/c=42\/c=43):=by
 unfold Ln.bullet at h;have h0:=Ln.strip_ok 3 0 I;split at h
 ·rename_i hc;split at h
  ·cases h
  ·rename_i V E;obtain⟨t1,U,y⟩:=lA6.1 E;have g:=Ln.trimSp_ok (Ln.trimC_ok h0.1 U) y;have O:=Ln.strip_ok 3 0 g;split at h
   ·simp only[lI1,Prod.mk.injEq] at h;obtain⟨rfl,rfl,rfl⟩:=h;exact⟨O.1,by omega,hc⟩
   ·simp only[lI1,Prod.mk.injEq] at h;obtain⟨rfl,rfl,rfl⟩:=h;exact⟨g,by omega,hc⟩
 ·cases h
theorem Cx {b:Nat}{q:Option Addr}{l t:Ln}{c:UInt8}{n:Nat}(h:Sat σ w (l.at b::L))(c5:l.ok)(hb:l.bullet=some (c,n,t))(b9: ∀w b0 b1 b2 (t':Ln),Sat σ w (t.at b0::(b1,cel [kT q] ah)::t'.at b2::l.at b::L)->am.k8 R b1 b0 (n:Nat) (c.toNat:Int) 0 w):
 callE P bN #[kT q,kT (kE b)] R w:=by
 refine am.sound ?_;refine Sat.bx h λb1 w h=>?_
 repeat (first|refine aa ?_|refine h.tk λw h=>?_|refine⟨_,h.ldA,?_⟩|refine⟨_,_,_,h.ldA,?_⟩|refine h.stA 0 λw h=>?_|refine h.stA 1 λw h=>?_|refine h.stA 2 λw h=>?_|refine h.stA 3 λw h=>?_|refine h.stA 4 λw h=>?_|refine h.stA 5 λw h=>?_|refine h.stA 6 λw h=>?_|refine h.bx λb0 w h=>?_)
 have h:Sat σ _ (l.at b0::(b1,cel [kT q] ah)::l.at b::L):=h
 have k6: ∀(E g:Ln) (y m:Nat) b2 w,y<=100->m<=100->E.ok->g.ok->(match g.trimSp 1 1 true with|none=>some (c,y+m,g)|some _=>some (c,y,E))=some (c,n,t)->
  Sat σ w (E.at b0::(b1,cel [kT q] ah)::g.at b2::l.at b::L)->am.k6 R b1 b0 (y:Nat) (c.toNat:Int) 0 b2 (m:Nat) w:=by
  intro E g y m b2 w c3 d1 a7 V O h;have h:Sat σ w (g.at b2::E.at b0::(b1,cel [kT q] ah)::l.at b::L):=h.re
  refine YtendaipfdnhnaaaGreatDoor.trimSp_ok (min:=1) (max:=1) h V (by decide) (by decide) ?_;cases hs:g.trimSp 1 1 true with
  |none=>
   rw[hs] at O;simp only[lI1,Prod.mk.injEq,true_and] at O;obtain⟨rfl,rfl⟩:=O;intro w h;refine⟨_,rfl,ag rfl ?_⟩;refine⟨_,h.ldA,?_⟩;refine⟨_,h.ldA,?_⟩;refine⟨_,h.ldA,?_⟩;refine⟨_,h.ldA,?_⟩;refine⟨_,h.ldA,?_⟩;refine h.stA 1 λw h=>?_
   refine h.stA 1 λw h=>?_
   refine h.stA 1 λw h=>?_
   refine h.stA 1 λw h=>?_
   refine h.stA 1 λw h=>?_
   rw[show ((y:Nat):Int)+((m:Nat):Int)=((y+m:Nat):Int) by omega,i64_in _ (by omega)];have h:Sat σ w (g.at b2::g.at b0::(b1,cel [kT q] ah)::l.at b::L):=h
   exact b9 w b0 b1 b2 g (h.re)
  |some c8=>
   rw[hs] at O;simp only[lI1,Prod.mk.injEq,true_and] at O;obtain⟨rfl,rfl⟩:=O;intro w h;refine⟨_,rfl,af rfl ?_⟩;exact b9 w b0 b1 b2 c8 (h.re)
 have fin: ∀(y:Nat) (a6:Ln) w,a6.ok->y<=3->l.strip 3 0=(y,a6)->Sat σ w (a6.at b0::(b1,cel [kT q] ah)::l.at b::L)->am.k1 R b1 b0 (y:Nat) w:=by
  intro y a6 w b6 c3 c4 h;unfold Ln.bullet at hb;rw[c4] at hb;simp only at hb;split at hb
  case isFalse=>cases hb
  rename_i hc;refine my h (by first|assumption|(repeat (first|exact .head _|apply List.Mem.tail))) b6 λw h=>⟨_,rfl,?_⟩
  split at hb
  case h_1=>cases hb
  rename_i E c9;obtain⟨t1,b7,c1⟩:=lA6.1 c9;have ec:a6.peek=c:=by
   split at hb<;>simp only[lI1,Prod.mk.injEq] at hb<;>exact hb.1
  rw[ec] at hc b7 hb⊢;have o1:=Ln.trimC_ok b6 b7;have a7:=Ln.trimSp_ok o1 c1;have k2:am.k2 R b1 b0 (y:Nat) (c.toNat:Int) 0 (c.toNat:Int) true w:=by
   refine ag rfl ?_;refine trimC_ok (c:=c) rfl h b6 ?_;rw[b7];intro w h;refine⟨_,rfl,?_⟩;unfold am.k3;refine YtendaipfdnhnaaaGreatDoor.trimSp_ok (min:=1) (max:=1) h o1 (by decide) (by decide) ?_;rw[c1];intro w h;refine⟨_,rfl,af rfl ?_⟩;refine⟨_,h.ldA,?_⟩;refine⟨_,h.ldA,?_⟩;refine⟨_,h.ldA,?_⟩;refine⟨_,h.ldA,?_⟩;refine⟨_,h.ldA,?_⟩;refine Sat.bx h λb2 w h=>?_
   refine h.stA 0 λw h=>?_
   refine h.stA 0 λw h=>?_
   refine h.stA 0 λw h=>?_
   refine h.stA 0 λw h=>?_
   refine h.stA 0 λw h=>?_
   have h:Sat σ w (E.at b2::E.at b0::(b1,cel [kT q] ah)::l.at b::L):=h
   rw[aL (by omega),aL (by omega)];intro X W;have b3: ∀k m (g:Ln) w,g.ok->k+m=3->g.strip k m=E.strip 3 0->Sat σ w (g.at b2::E.at b0::(b1,cel [kT q] ah)::l.at b::L)->X b1 b0 ((y+1+1:Nat):Int) (c.toNat:Int) 0 b2 (m:Nat) (m:Nat) w:=by
    intro k m g w V d0 I h
    induction k generalizing m g w with
    |zero=>
     have I:(m,g)=E.strip 3 0:=I;refine W _ _ _ _ _ _ _ _ _ (af (by simp;omega) ?_);rw[<-I] at hb;exact k6 E g (y+1+1) m b2 w (by omega) (by omega) a7 V hb (h.re)
    |succ k b8=>
     refine W _ _ _ _ _ _ _ _ _ (ag (by simp;omega) ?_);refine YtendaipfdnhnaaaGreatDoor.trimSp_ok (min:=1) (max:=1) h V (by decide) (by decide) ?_;simp only[Ln.strip] at I;cases hs:g.trimSp 1 1 false with
     |none=>
      rw[hs] at I;have I:(m,g)=E.strip 3 0:=I;rw[<-I] at hb;exact λw h=>⟨_,rfl,af rfl (k6 E g (y+1+1) m b2 w (by omega) (by omega) a7 V hb (h.re))⟩
     |some t'=>
      rw[hs] at I;intro w h;refine⟨_,rfl,ag rfl ?_⟩;unfold am.k5;rw[aL (by omega)];exact b8 (m+1) t' w (Ln.trimSp_ok V hs) (by omega) I h
   exact b3 3 0 E w a7 rfl rfl h
  by_cases b5:c=45
  ·subst b5;exact ag rfl k2
  refine af (vf (d:=45) rfl b5) ?_
  by_cases b4:c=42
  ·subst b4;exact ag rfl k2
  refine af (vf (d:=42) rfl b4) ?_;have c2:c=43:=by
   rcases hc with h|h|h
   ·exact absurd h b5
   ·exact absurd h b4
   ·exact h
  rw[show (((c.toNat:Nat):Int)==43)=true by rw[c2];rfl];exact k2
 intro X W;have b3: ∀k n (t:Ln) w,t.ok->k+n=3->t.strip k n=l.strip 3 0->Sat σ w (t.at b0::(b1,cel [kT q] ah)::l.at b::L)->X b1 b0 n n w:=by
  intro k n t w ht d0 U h
  induction k generalizing n t w with
  |zero=>exact W _ _ _ _ _ (af (by simp;omega) (fin n t w ht (by omega) U.symm h))
  |succ k b8=>
   refine W _ _ _ _ _ (ag (by simp;omega) ?_);refine YtendaipfdnhnaaaGreatDoor.trimSp_ok (min:=1) (max:=1) h ht (by decide) (by decide) ?_;simp only[Ln.strip] at U;cases hs:t.trimSp 1 1 false with
   |none=>
    rw[hs] at U;exact λw h=>⟨_,rfl,ag rfl (fin n t w ht (by omega) U.symm h)⟩
   |some t'=>
    rw[hs] at U;intro w h;refine⟨_,rfl,af rfl ?_⟩;rw[aL (by omega)];exact b8 (n+1) t' w (Ln.trimSp_ok ht hs) (by omega) U h
 exact b3 3 0 l _ c5 rfl rfl h
structure qB (l:Ln) (c:UInt8) (num n:Nat) (t:Ln):Prop where
 ok:t.ok
 wd:n<=100
 run: ∀ {σ:Out} {w:World} {L:List ai} {R:Ending->World->Prop} {b:Nat} {q:Option Addr},Sat σ w (l.at b::L)->
  (∀w b0 b1 b2 (t':Ln),Sat σ w (t.at b0::(b1,cel [kT q] ah)::t'.at b2::l.at b::L)->am.k8 R b1 b0 (n:Nat) (c.toNat:Int) (num:Nat) w)->
  callE P bN #[kT q,kT (kE b)] R w
theorem Ln.marks {l t:Ln}{c:UInt8}{n:Nat}(g:l.ok)(hb:l.bullet=some (c,n,t)):qB l c 0 n t:=by
 obtain⟨ht,E,_⟩:=Ln.bullet_ok g hb;exact⟨ht,by omega,λh y=>Cx h g hb y⟩
def yD (x:UInt8):Prop:=cO x=false/\x≠62/\x≠35
theorem Au (c:UInt8):IntKind.i32.wrap ((c.toNat:Nat):Int)=((c.toNat:Nat):Int):=by
 have:=lF2.1 (show (List.range 256).all (λn=>IntKind.i32.wrap (n:Int)==(n:Int))=true by kernel_rfl) c.toNat (lY2.2 c.toNat_lt)
 simpa using this

def cP (lb:Nat)(bul num:Int)(loose:Bool)(item:Option Addr)(g:Value):ai:=(lb,cel [.int .i32 bul,hY num,hV loose,kT item,g] gj)
def C1 (lb:Nat):Value:= .iface aB (kT (kE lb))
def gC (ib lb n:Nat)(hv:Bool):ai:=(ib,cel [kT (kE lb),hY n,hV hv] iJ)
def El (ib:Nat):Value:= .iface bw (kT (kE ib))
def li (E y g I:Nat):Value:= .func (.func eF) #[] #[kT (kE E),kT (kE y),kT (kE g),kT (kE I)]
abbrev iv (x lb:Nat):ai:=(x,cel [kT (kE lb)] aB)
abbrev jK (x ib:Nat):ai:=(x,cel [kT (kE ib)] bw)
theorem qQ {U E y lb n:Nat}{bul num:Int}{loose:Bool}{item:Option Addr}{td:Value}{t:Ln}(h:Sat σ w (cP lb bul num loose item td::t.at E::iv y lb::L))(ht:t.ok)(V: ∀w g ib,Sat σ w (cP lb bul num loose item (li U g y E)::t.at E::iv y lb::jK g ib::gC ib lb n (!t.blank)::L)->R (hQ (hV true)) w):
 am.k13 R U E (n:Nat) y w:=by
 have k14: ∀w g ib,Sat σ w (cP lb bul num loose item td::t.at E::iv y lb::jK g ib::gC ib lb n (!t.blank)::L)->am.k14 R U E y g w:=by
  intro w g ib h;refine⟨_,Sat.ld h (.tail _ (.tail _ (.head _))) (i:=0) rfl,aa ?_⟩;refine h.stA 0 λw h=>?_
  exact V w g ib h
 have I:iv y lb∈(cP lb bul num loose item td::t.at E::iv y lb::L):= .tail _ (.tail _ (.head _))
 refine Sat.tk h λw h=>⟨kE lb,Sat.ld h I (i:=0) rfl,?_,?_⟩
 ·have h0:=h;refine dH h (.tail _ (.head _)) ht λw h=>⟨_,rfl,h0.same h I I 1,?_,?_⟩
  ·refine Sat.bx h λib w h=>?_
   have O:=h;refine Sat.bx h λg w h=>⟨O.same h (.tail _ I) (.tail _ (.tail _ I)) 1,?_⟩
   refine h.stA 0 λw h=>?_
   have h:Sat σ w (jK g ib::gC ib lb n (!t.blank)::(cP lb bul num loose item td::t.at E::iv y lb::L)):=h
   exact k14 w g ib (h.re)
  ·have O:=h;refine Sat.bx h λg w h=>⟨O.same h I (.tail _ I) 1,?_⟩
   refine Sat.bx h λib w h=>?_
   have h:Sat σ w ((g,cel [kT none] bw)::gC ib lb n (!t.blank)::(cP lb bul num loose item td::t.at E::iv y lb::L)):=h.re (by intro _;simp only[gC,lP3,dJ,ff,mS]<;>omega)
   refine h.stA 0 λw h=>?_
   have h:Sat σ w (jK g ib::gC ib lb n (!t.blank)::(cP lb bul num loose item td::t.at E::iv y lb::L)):=h
   exact k14 w g ib (h.re)
 ·have O:=h;refine Sat.bx h λg w h=>⟨O.same h I (.tail _ I) 1,?_⟩
  have h0:=h;refine dH h (.tail _ (.tail _ (.head _))) ht λw h=>⟨_,rfl,h0.same h (.tail _ I) (.tail _ I) 1,?_⟩
  refine Sat.bx h λib w h=>?_
  have h:Sat σ w ((g,cel [kT none] bw)::gC ib lb n (!t.blank)::(cP lb bul num loose item td::t.at E::iv y lb::L)):=h.re (by intro _;simp only[gC,lP3,dJ,ff,mS]<;>omega)
  refine h.stA 0 λw h=>?_
  have h:Sat σ w (jK g ib::gC ib lb n (!t.blank)::(cP lb bul num loose item td::t.at E::iv y lb::L)):=h
  exact k14 w g ib (h.re)
theorem ni:P.underlying aB=some (.pointer gj):=by kernel_rfl
theorem Gj:P.underlying ar=some (.pointer aM):=by kernel_rfl
theorem yX (w:World):(Instr.typeAssert .nilIface bO aB true).run P w= .ok (.tuple #[kT none,hV false]) w:=by
 have hi:P.info? aB=some ((P.info? aB).getD default):=by kernel_rfl
 have hz:((P.info? aB).getD default).zero=some (kT none):=by kernel_rfl
 generalize (P.info? aB).getD default=i at hi hz;simp[Instr.typeAssert,run_underlying ni,zeroValue,typeInfo,hi,hz]
theorem lx (q:Option Addr)(w:World):(Instr.typeAssert (.iface aB (kT q)) bO aB true).run P w= .ok (.tuple #[kT q,hV true]) w:=
 o7 (by rw[ni];intro g h;cases h) ni w
theorem A1 {b b1:Nat}{p:PS}{ob:List OB}{o:OB}{M:List ai}{l t:Ln}{c:UInt8}{num n:Nat}{ty:TypeId}{v:Value}(h:Sat σ w (l.at b1::(p.at b::M++L)))(hs:Stk p (ob++ [o]) M)(hd:p.depth=ob.length)(b5:ob.length<1048570)(a7:o.bd= .iface ty v)(V:ty≠ar)(b6:l.ok)(hb:qB l c num n t)(b3: ∀w p' O lb E y g U ib,p'= {p with stq:=p'.stq,stn:=ob.length+2,stc:=p'.stc}->Stk p' (ob++ [o]++ [⟨C1 lb,none,0,0,p.lineno,p.lineno⟩]) O->
  Sat σ w (l.at b1::(p'.at b::O++(cP lb c.toNat (num:Nat) false none (li E U g y)::(E,cel [kT (kE b)] ah)::t.at y::iv g lb::jK U ib::gC ib lb n (!t.blank)::L)))->R (hQ (hV true)) w):
 callE P bN #[kT (kE b),kT (kE b1)] R w:=by
 have ht:=hb.ok;refine hb.run h λw y E I t' h=>?_
 refine Sat.bx h λg w h=>?_
 refine⟨_,Sat.ld h (.tail _ (.tail _ (.head _))) (i:=0) rfl,?_⟩;have h:Sat σ w (p.at b::M++((g,cel [kT none] aB)::(E,cel [kT (kE b)] ah)::t.at y::t'.at I::l.at b1::L)):=h.re
 refine mA (d:=ob.length) h hs hd (by omega) λw h=>⟨_,rfl,?_⟩
 rw[lV1 (by simp)];refine⟨none,false,w,yX w,af rfl ?_⟩;have h:Sat σ w ((g,cel [kT none] aB)::(E,cel [kT (kE b)] ah)::t.at y::(p.at b::M++(t'.at I::l.at b1::L))):=h.re
 refine⟨_,Sat.ld h (.head _) (i:=0) rfl,_,_,kK ni _ w,ag rfl (ag rfl ?_)⟩;refine⟨_,Sat.ld h (.head _) (i:=0) rfl,_,_,kK ni _ w,ag rfl ?_⟩;refine⟨_,Sat.ld h (.tail _ (.head _)) (i:=0) rfl,?_⟩;have h:Sat σ w (p.at b::M++((g,cel [kT none] aB)::(E,cel [kT (kE b)] ah)::t.at y::t'.at I::l.at b1::L)):=h.re
 refine rC h hs a7 (λw h=>?_) (λb4=>absurd b4 V);rw[if_neg V];refine⟨none,rfl,_,w,dU Gj none w,af rfl (af rfl ?_)⟩;refine Sat.bx h λlb w h=>?_
 have h:Sat σ w ((g,cel [kT none] aB)::(lb,cel [.int .i32 (IntKind.i32.wrap (c.toNat:Nat)),hY (num:Nat),hV false,kT none,.nilFunc] gj)::(E,cel [kT (kE b)] ah)::t.at y::(p.at b::M++(t'.at I::l.at b1::L))):=h.re
 refine h.stA 0 λw h=>?_
 rw[Au] at h;have h:Sat σ w (iv g lb::cP lb c.toNat (num:Nat) false none .nilFunc::(E,cel [kT (kE b)] ah)::t.at y::(p.at b::M++(t'.at I::l.at b1::L))):=h
 refine⟨_,Sat.ld h (.tail _ (.tail _ (.head _))) (i:=0) rfl,_,Sat.ld h (.head _) (i:=0) rfl,?_⟩;have h:Sat σ w (p.at b::M++(iv g lb::cP lb c.toNat (num:Nat) false none .nilFunc::(E,cel [kT (kE b)] ah)::t.at y::(t'.at I::l.at b1::L))):=h.re
 refine pK h hs (by simp;omega) (by simp;omega) λw p' O W a6 h=>⟨rfl,?_⟩
 have h:Sat σ w (cP lb c.toNat (num:Nat) false none .nilFunc::t.at y::iv g lb::(p'.at b::O++((E,cel [kT (kE b)] ah)::(t'.at I::l.at b1::L)))):=h.re
 refine qQ h ht λw U ib h=>?_
 refine b3 w p' O lb E y g U ib (by rw[W];simp) a6 ?_;exact h.less [t'.at I]

theorem vM {b:Nat}{p:PS}{ob:List OB}{o:OB}{M:List ai}{l t:Ln}{c:UInt8}{num n:Nat}{ty:TypeId}{v:Value}(h:Sat σ w (p.at b::M++L))(hs:Stk p (ob++ [o]) M)(hd:p.depth=ob.length)(b4:ob.length<1048570)(V:o.bd= .iface ty v)(a7:ty≠ar)(a6:ty≠aB)(b6:l.ok)(hb:qB l c num n t)(b7: ∀w p' O lb I E g y ib,p'= {p with stq:=p'.stq,stn:=ob.length+2,stc:=p'.stc}->Stk p' (ob++ [o]++ [⟨C1 lb,none,0,0,p.lineno,p.lineno⟩]) O->
  Sat σ w (p'.at b::O++(cP lb c.toNat (num:Nat) false none (li I y g E)::(I,cel [kT (kE b)] ah)::t.at E::iv g lb::jK y ib::gC ib lb n (!t.blank)::L))->R (hQ (.tuple #[l.val,hV true])) w):
 callE P cm #[kT (kE b),l.val] R w:=by
 refine cQ.sound ?_;refine Sat.bx h λb1 w h=>?_
 refine Sat.bx h λU w h=>?_
 have h:Sat σ w (zLn U::l.at b1::(p.at b::M++L)):=h
 have h:Sat σ w (p.at b::M++(zLn U::l.at b1::L)):=h.re
 refine ro h hs hd λw h=>?_
 rw[iO];dsimp only;refine⟨_,rfl,none,false,w,by rw[V];exact ie a6 w,af rfl (af rfl ?_)⟩;have h:Sat σ w (l.at b1::(p.at b::M++(zLn U::L))):=h.re
 refine A1 h hs hd b4 V a7 b6 hb λw p' O lb I E g y ib W b5 h=>⟨_,rfl,ag rfl ?_⟩
 have h:Sat σ w (zLn U::l.at b1::(p'.at b::O++(cP lb c.toNat (num:Nat) false none (li I y g E)::(I,cel [kT (kE b)] ah)::t.at E::iv g lb::jK y ib::gC ib lb n (!t.blank)::L))):=h.re
 repeat (first|refine aa ?_|refine h.tk λw h=>?_|refine⟨_,h.ldA,?_⟩|refine⟨_,_,_,h.ldA,?_⟩|refine h.stA 0 λw h=>?_|refine h.stA 1 λw h=>?_|refine h.stA 2 λw h=>?_|refine h.stA 3 λw h=>?_|refine h.stA 4 λw h=>?_|refine h.stA 5 λw h=>?_|refine h.stA 6 λw h=>?_|refine h.bx λb0 w h=>?_)
 have h:Sat σ _ (l.at U::l.at b1::(p'.at b::O++(cP lb c.toNat (num:Nat) false none (li I y g E)::(I,cel [kT (kE b)] ah)::t.at E::iv g lb::jK y ib::gC ib lb n (!t.blank)::L))):=h
 exact b7 _ p' O lb I E g y ib W b5 h.tail.tail
theorem wJ:vW P ns=true:=by kernel_rfl
theorem xy {b lb E I y g ib n:Nat}{bul num:Int}{loose hv:Bool}{item:Option Addr}{p:PS}{ob:List OB}{o:OB}{M:List ai}{l t:Ln}(h:Sat σ w (p.at b::M++(cP lb bul num loose item (li E g y I)::(E,cel [kT (kE b)] ah)::t.at I::iv y lb::jK g ib::gC ib lb n hv::L)))(hs:Stk p (ob++ [o]) M)(hd:p.depth=ob.length)(b9:ob.length<1048570)(b7:o.bd=C1 lb)(b8: ∀w p' V,p'= {p with stq:=p'.stq,stn:=ob.length+2,stc:=p'.stc}->Stk p' (ob++ [o]++ [⟨El ib,none,0,0,p.lineno,p.lineno⟩]) V->
  Sat σ w (p'.at b::V++(cP lb bul num loose (kE ib) .nilFunc::gC ib lb n hv::L))->R (hQ (.tuple #[t.val,hV true])) w):
 callE P cm #[kT (kE b),l.val] R w:=by
 refine cQ.sound ?_;refine Sat.bx h λb1 w h=>?_
 refine Sat.bx h λO w h=>?_
 have h:Sat σ w (zLn O::l.at b1::(p.at b::M++(cP lb bul num loose item (li E g y I)::(E,cel [kT (kE b)] ah)::t.at I::iv y lb::jK g ib::gC ib lb n hv::L))):=h
 have h:Sat σ w (p.at b::M++(zLn O::l.at b1::cP lb bul num loose item (li E g y I)::(E,cel [kT (kE b)] ah)::t.at I::iv y lb::jK g ib::gC ib lb n hv::L)):=h.re
 refine ro h hs hd λw h=>?_
 rw[iO];dsimp only;have h:Sat σ w (cP lb bul num loose item (li E g y I)::zLn O::l.at b1::(p.at b::M++((E,cel [kT (kE b)] ah)::t.at I::iv y lb::jK g ib::gC ib lb n hv::L))):=h.re
 refine⟨_,rfl,kE lb,true,w,by rw[b7];exact lx _ w,ag rfl (aa ?_)⟩;obtain⟨_,_,_,a7⟩:=oF wJ;refine⟨_,Sat.ld h (.head _) (i:=4) rfl,true,w,nE a7 _ _ _ w,ag rfl (aa ?_)⟩;refine⟨_,Sat.ld h (.head _) (i:=4) rfl,?_⟩;refine ir ?_;refine dw.sound ?_;refine Sat.bx h λU w h=>?_
 have h:Sat σ w (p.at b::M++(zLn U::cP lb bul num loose item (li E g y I)::zLn O::l.at b1::(E,cel [kT (kE b)] ah)::t.at I::iv y lb::jK g ib::gC ib lb n hv::L)):=by
  have h:Sat σ w (zLn U::cP lb bul num loose item (li E g y I)::zLn O::l.at b1::(p.at b::M++((E,cel [kT (kE b)] ah)::t.at I::iv y lb::jK g ib::gC ib lb n hv::L))):=h
  exact h.re
 have b4:(E,cel [kT (kE b)] ah)∈p.at b::M++(zLn U::cP lb bul num loose item (li E g y I)::zLn O::l.at b1::(E,cel [kT (kE b)] ah)::t.at I::iv y lb::jK g ib::gC ib lb n hv::L):=by simp
 have W:jK g ib∈p.at b::M++(zLn U::cP lb bul num loose item (li E g y I)::zLn O::l.at b1::(E,cel [kT (kE b)] ah)::t.at I::iv y lb::jK g ib::gC ib lb n hv::L):=by simp
 refine⟨_,Sat.ld h b4 (i:=0) rfl,_,Sat.ld h W (i:=0) rfl,?_⟩;refine pK h hs (by simp;omega) (by simp;omega) λw p' V a6 b6 h=>⟨rfl,?_⟩
 have h:Sat σ w (cP lb bul num loose item (li E g y I)::zLn U::t.at I::zLn O::l.at b1::iv y lb::jK g ib::(p'.at b::V++((E,cel [kT (kE b)] ah)::gC ib lb n hv::L))):=h.re
 refine⟨_,Sat.ld h (by simp:iv y lb∈_) (i:=0) rfl,_,Sat.ld h (by simp:jK g ib∈_) (i:=0) rfl,aa ?_⟩;refine h.stA 0 λw h=>?_
 have h:Sat σ w (t.at I::zLn U::cP lb bul num loose (kE ib) (li E g y I)::zLn O::l.at b1::iv y lb::jK g ib::(p'.at b::V++((E,cel [kT (kE b)] ah)::gC ib lb n hv::L))):=by
  have h:Sat σ w (cP lb bul num loose (kE ib) (li E g y I)::zLn U::t.at I::zLn O::l.at b1::iv y lb::jK g ib::(p'.at b::V++((E,cel [kT (kE b)] ah)::gC ib lb n hv::L))):=h
  exact h.re
 refine⟨_,h.ldA,?_⟩;refine⟨_,h.ldA,?_⟩;refine⟨_,h.ldA,?_⟩;refine⟨_,h.ldA,?_⟩;refine⟨_,h.ldA,?_⟩;refine h.stA 1 λw h=>?_
 refine h.stA 1 λw h=>?_
 refine h.stA 1 λw h=>?_
 refine h.stA 1 λw h=>?_
 refine h.stA 1 λw h=>?_
 have h:Sat σ w (t.at I::t.at U::cP lb bul num loose (kE ib) (li E g y I)::zLn O::l.at b1::iv y lb::jK g ib::(p'.at b::V++((E,cel [kT (kE b)] ah)::gC ib lb n hv::L))):=h
 have h:Sat σ w (t.at U::l.at b1::cP lb bul num loose (kE ib) (li E g y I)::zLn O::t.at I::iv y lb::jK g ib::(p'.at b::V++((E,cel [kT (kE b)] ah)::gC ib lb n hv::L))):=h.re
 refine⟨_,h.ldA,?_⟩;refine⟨_,h.ldA,?_⟩;refine⟨_,h.ldA,?_⟩;refine⟨_,h.ldA,?_⟩;refine⟨_,h.ldA,?_⟩;refine⟨_,_,_,_,_,rfl,?_⟩;refine h.stA 1 λw h=>?_
 refine h.stA 1 λw h=>?_
 refine h.stA 1 λw h=>?_
 refine h.stA 1 λw h=>?_
 refine h.stA 1 λw h=>?_
 have h:Sat σ w (t.at U::t.at b1::cP lb bul num loose (kE ib) (li E g y I)::zLn O::t.at I::iv y lb::jK g ib::(p'.at b::V++((E,cel [kT (kE b)] ah)::gC ib lb n hv::L))):=h
 refine aa ?_;refine Sat.st h (k:=2) rfl (by simp[cP]) trivial rfl λw h=>?_
 have h:Sat σ w (t.at b1::zLn O::cP lb bul num loose (kE ib) .nilFunc::t.at U::t.at I::iv y lb::jK g ib::(p'.at b::V++((E,cel [kT (kE b)] ah)::gC ib lb n hv::L))):=by
  have h:Sat σ w (t.at U::t.at b1::cP lb bul num loose (kE ib) .nilFunc::zLn O::t.at I::iv y lb::jK g ib::(p'.at b::V++((E,cel [kT (kE b)] ah)::gC ib lb n hv::L))):=h
  exact h.re
 refine⟨_,h.ldA,?_⟩;refine⟨_,h.ldA,?_⟩;refine⟨_,h.ldA,?_⟩;refine⟨_,h.ldA,?_⟩;refine⟨_,h.ldA,?_⟩;refine h.stA 1 λw h=>?_
 refine h.stA 1 λw h=>?_
 refine h.stA 1 λw h=>?_
 refine h.stA 1 λw h=>?_
 refine h.stA 1 λw h=>?_
 have h:Sat σ w (t.at b1::t.at O::cP lb bul num loose (kE ib) .nilFunc::t.at U::t.at I::iv y lb::jK g ib::(p'.at b::V++((E,cel [kT (kE b)] ah)::gC ib lb n hv::L))):=h
 have h:Sat σ w (t.at O::t.at b1::cP lb bul num loose (kE ib) .nilFunc::t.at U::t.at I::iv y lb::jK g ib::(p'.at b::V++((E,cel [kT (kE b)] ah)::gC ib lb n hv::L))):=h.re
 refine⟨_,h.ldA,?_⟩;refine⟨_,h.ldA,?_⟩;refine⟨_,h.ldA,?_⟩;refine⟨_,h.ldA,?_⟩;refine⟨_,h.ldA,?_⟩;refine b8 _ p' V (by rw[a6];simp) b6 ?_;exact h.less [t.at O,t.at b1,t.at U,t.at I,iv y lb,jK g ib,(E,cel [kT (kE b)] ah)]

theorem Sl.loadMem {q:Option Addr}{n c j:Nat}{e:TypeId}{vs:List Value}{RM:List ai}{v:Value}{K:Addr->Prop}(I:Sl 1 e q n c vs RM)(h:Sat σ w L)(O: ∀x∈RM,x∈L)(g:vs[j]? =some v)(y: ∀b,q=kE b->w.cell? (hZ b j)=some v->K (hZ b 0)):aA q K:=by
 obtain⟨U,_,⟨rfl,rfl,_,_⟩|⟨E,sp,rfl,rfl,_⟩⟩:=I
 ·have:=(lJ0.1 g).1;omega
 ·refine aa (y E rfl (h.ld (O _ (.head _)) ?_));rw[lM0 (lJ0.1 g).1];exact g
theorem mm {b:Nat}{E:PS}{ob:List OB}{par o:OB}{M IM O:List ai}{inner:List Value}{U:TypeId}{q:Option Addr}(h:Sat σ w (E.at b::M++(IM++O)))(hs:Stk E (ob++ [par]++ [o]) M)(b9:Sl 1 aO par.q par.n par.c inner IM)(c1:par.n<1000000)(b8: ∀w p2 a7 I y g,p2= {E with stn:=ob.length+1}->Stk p2 (ob++ [{par with q:=y,n:=par.n+1,c:=g}]) a7->Sl 1 aO y (par.n+1) g (inner++ [.iface U (kT q)]) I->
  Sat σ w (p2.at b::a7++(I++O))->R (hQ (.iface U (kT q))) w):aK.k3 R (kE b) (.iface U (kT q)) w:=by
 have b4:=hs.2.2;have V:=hs.2.1;have W:=hs.1.2.1;obtain⟨sb,sp,a6,rfl,b7⟩:=hs.split (by simp);simp only[lA0,lE0] at V b4;rw[V] at W;unfold aK.k3;refine h.tk λw h=>?_
 refine aa (aa ?_);refine⟨_,_,_,h.ldA,?_⟩;refine⟨_,_,_,h.ldA,?_⟩;rw[V,kP (by omega),a6];refine⟨_,_,_,λw=>vC rowOB.ht rowOB.hi sb (ob.length+1+1) E.stc (ob.length+1) (by omega) W w,?_⟩;refine aa ?_;refine h.stA 0 λw h=>?_
 let p2:PS:= {E with stq:=kE sb,stn:=ob.length+1}
 have b3:p2= {E with stn:=ob.length+1}:=by simp only[p2,<-a6]
 have h:Sat σ w (p2.at b:: [(sb,cel (aP (ob++ [par])++(o.cells++sp)) az)]++(IM++O)):=by
  rw[jm,lD0] at h;exact h
 refine aa ?_;refine⟨_,_,_,h.ldA,?_⟩;refine ag (by simp[p2]) ?_;refine h.tk λw h=>?_
 refine aa (aa ?_);refine⟨_,_,_,h.ldA,?_⟩;refine⟨_,_,_,h.ldA,?_⟩;rw[show p2.stn=ob.length+1 from rfl,kP (by omega),show p2.stq=kE sb from rfl];refine⟨by omega,by omega,aa ?_⟩;simp only[lL0,lO0,lC0,lL1];refine⟨_,_,_,Sat.ld h (.tail _ (.head _)) (fD (f:=1) (by decide) (iO par)),?_⟩;have h:Sat σ _ (IM++(p2.at b::(sb,cel (aP (ob++ [par])++(o.cells++sp)) az)::O)):=h.re
 refine Sat.app1 rowBlock b9 h (v:= .iface U (kT q)) rfl (by simp[Value.cells,Value.oneCell']) (by kernel_rfl) (by omega) (by omega) (by decide) λy g w I b5 h=>?_
 have h:Sat σ _ (p2.at b::(sb,cel (aP (ob++ [par])++(o.cells++sp)) az)::(I++O)):=h.re
 refine Sat.st h (k:=1) rfl (by rw[lA0,aR,lA0,lE0];omega) trivial rfl λw h=>?_
 have e:=lO (l:=ob) (sp:=o.cells++sp) (o:=par) (o':= {par with q:=y,n:=par.n+1,c:=g}) (f:=1) (v:= hT y (par.n+1) g) (by decide) rfl
 have h:Sat σ w (p2.at b::(sb,cel (aP (ob++ [{par with q:=y,n:=par.n+1,c:=g}])++(o.cells++sp)) az)::(I++O)):=by
  rw[<-e];exact h
 have b6:Stk p2 (ob++ [{par with q:=y,n:=par.n+1,c:=g}]) [(sb,cel (aP (ob++ [{par with q:=y,n:=par.n+1,c:=g}])++(o.cells++sp)) az)]:=by
  refine Stk.mk' rfl ?_ (by simp[p2]) (by simp;omega)
  show _=E.stc*4
  rw[<-b7];simp only[lA0,aR,lE0,OB.cells,lF0,lM1];omega
 refine b8 w p2 _ I y g b3 b6 b5 h
theorem jp {b:Nat}{p:PS}{ob:List OB}{o:OB}{M:List ai}{t:TypeId}{v:Value}(h:Sat σ w (p.at b::M++L))(hs:Stk p (ob++ [o]) M)(b8:o.bd= .iface t v)(hb: ∀w,Sat σ w (p.at b::M++L)->de P (callMethod o.bd "pub-paratext/pub/rscmarkdown.build" #[.iface ah (kT (kE b))]) (λe b6=> ∃(g:Value),e= hQ g/\
  ∃(E:Option Addr),∃(I:Bool),∃y,(Instr.typeAssert g aO dn true).run P b6= .ok (.tuple #[kT E,hV I]) y/\
  br I (aA (kE b) λb5=> ∃(O:Bool),y.cell? (b5.add 6)=some (hV O)/\br O
   (aA (kE b) λa6=>stV y ((a6.add 6).add 0) (hV true) λa7=>aK.k2 R (kE b) g E a7)
   (callE P lH #[kT E] (λe b4=> ∃(U:Bool),e= hQ (hV U)/\aA (kE b) λb7=>stV b4 ((b7.add 6).add 0) (hV U) λb3=>aK.k2 R (kE b) g E b3) y))
   (aK.k3 R (kE b) g y)) w):callE P aJ #[kT (kE b)] R w:=by
 have W:=hs.2.2;have V:=hs.2.1;obtain⟨sb,sp,b9,rfl,c1⟩:=hs.split (by simp);simp only[lA0,lE0] at V W;refine aK.sound ?_;refine h.tk λw h=>?_
 refine aa (aa ?_);refine⟨_,_,_,h.ldA,?_⟩;refine⟨_,_,_,h.ldA,?_⟩;rw[V,kP (by omega)];refine⟨by omega,by omega,?_⟩;rw[b9];refine aa ?_;simp only[lL0,lO0,lC0];refine⟨o.bd,Sat.ld h (.tail _ (.head _)) (fD (f:=0) (by decide) (iO o)),false,w,by rw[b8];exact n5 uA _ _ w,af rfl ?_⟩;refine aa ?_;refine⟨o.bd,Sat.ld h (.tail _ (.head _)) (fD (f:=0) (by decide) (iO o)),?_⟩;exact hb _ h
structure IT where
 nb:Nat
 s:Nat
 e:Nat
 q:Option Addr
 n:Nat
 c:Nat
 wd:Nat
 IM:List ai
 D:List DB
def IT.chunk (i:IT):ai:=(i.nb,cel [hY i.s,hY i.e,hT i.q i.n i.c,hY i.wd] nw)
def IT.v (i:IT):Value:= .iface gf (kT (kE i.nb))
def IT.db (i:IT):DB:=⟨i.v,i.chunk::(i.IM++cZ i.D),cj i.D⟩
structure IT.ok (i:IT):Prop where
 sl:Sl 1 aO i.q i.n i.c (i.D.map DB.v) i.IM
 len:i.D.length<1000000
 se:i.s<1000000000/\i.e<1000000000
theorem IT.n_eq {i:IT}(h:i.ok):i.n=i.D.length:=by have:=h.sl.1;simp at this;omega
theorem IT.posIs (i:IT):i.db.posIs i.s i.e:=kr Ae rfl (.head _)
def DB.ifc (d:DB):Prop:= ∃ty q,d.v= .iface ty (kT q)
def uo (nb s e:Nat)(bul num:Int)(loose:Bool)(q:Option Addr)(n c:Nat):ai:=(nb,cel [hY s,hY e,.int .i32 bul,hY num,hV loose,hT q n c] vo)
theorem Cr {t e xt:TypeId}{q:Option Addr}{ty:TypeId}{i:TypeInfo}(g:P.underlying t=some (.pointer e))(hi:P.info? t=some i)(hz:i.zero=some (kT none))(w:World):
 ∃r k,(Instr.typeAssert (.iface ty (kT q)) xt t true).run P w= .ok (.tuple #[kT r,hV k]) w:=by
 by_cases ht:ty=t
 ·subst ht;exact⟨q,true,o7 (by rw[g];intro y h;cases h) g w⟩
 ·exact⟨none,false,vx (by rw[g];intro y h;cases h) g ht hi hz w⟩
theorem nj:P.underlying dn=some (.pointer vo):=by kernel_rfl
theorem Gk:P.underlying cW=some (.pointer ke):=by kernel_rfl
theorem Gl:P.underlying cL=some (.pointer nx):=by kernel_rfl
theorem B9:P.underlying gf=some (.pointer nw):=by kernel_rfl
theorem yY (q:Option Addr)(w:World):(Instr.typeAssert (.iface gf (kT q)) aO gf false).run P w= .ok (kT q) w:=by
 simp[Instr.typeAssert,run_underlying B9]
theorem IT.own_mem {items:List IT}{i:IT}(hi:i∈items): ∀x∈i.db.own,x∈cZ (items.map IT.db):=by
 intro x g;exact lV2.2 ⟨i.db,lI5 hi,g⟩
theorem p8 {nb s e:Nat}{bul num:Int}{loose:Bool}{q:Option Addr}{n c:Nat}{items:List IT}{IM:List ai}(b5:Sl 1 aO q n c (items.map IT.v) IM)(c3: ∀i∈items,i.ok/\ ∀d∈i.D,d.ifc)(e5:items.length<1000000)(h:Sat σ w L)(I: ∀x∈uo nb s e bul num loose q n c::(IM++cZ (items.map IT.db)),x∈L)(U: ∀k,R (hQ (hV k)) w):callE P lH #[kT (kE nb)] R w:=by
 have d3:n=items.length:=by have:=b5.1;simp at this;omega
 refine gU.sound ?_;refine aa ⟨_,_,_,Sat.ld h (I _ (.head _)) (i:=5) rfl,?_⟩;intro X b4;have b7: ∀k j:Nat,j+k=items.length->X q n c (n:Int) (j:Int) w:=by
  intro k
  induction k with
  |zero=>
   intro j c5;exact b4 _ _ _ _ _ _ (af (by simp;omega) (U false))
  |succ k d0=>
   intro j c5;have a6:j<items.length:=by omega
   have E:=lO1 a6;generalize c2:items[j]=i at E;obtain⟨y,b8⟩:=c3 i E;have a7: ∀x∈i.db.own,x∈L:=λx g=>I x (.tail _ (lB0 _ (IT.own_mem E x g)))
   have W:i.chunk∈L:=a7 _ (.head _);have b9: ∀x∈i.IM,x∈L:=λx g=>a7 x (.tail _ (lC1 _ g))
   refine b4 _ _ _ _ _ _ (ag (by simp;omega) ⟨by omega,by omega,?_⟩);refine b5.loadMem h (λx g=>I x (.tail _ (lC1 _ g))) (j:=j) (v:=i.v) (by simp[a6,c2]) λe6 e7 hc=>?_
   simp only[lL0,lC0,lA1,lO0];refine⟨_,hc,kE i.nb,w,yY _ w,aa ?_⟩;refine⟨_,_,_,Sat.ld h W (i:=2) rfl,?_⟩;rw[IT.n_eq y];refine bh (λ_=>U true) λc1=>aa ?_
   have V:0<i.D.length:=by
    have:i.D.length≠0:=by simpa using c1
    omega
   obtain⟨ty,O,b6⟩:=b8 i.D[0] (lO1 V);refine⟨_,_,_,Sat.ld h W (i:=2) rfl,by decide,by rw[IT.n_eq y];omega,?_⟩;refine y.sl.loadMem h b9 (j:=0) (v:=i.D[0].v) (by simp[V]) λe4 e0 b3=>?_
   simp only[lL0,lC0,lA1,lO0];rw[b6] at b3;obtain⟨d2,k1,c9⟩:=Cr (xt:=aO) (q:=O) (ty:=ty) nj (i:=(P.info? dn).getD default) (by kernel_rfl) (by kernel_rfl) w;obtain⟨r2,k2,d1⟩:=Cr (xt:=aO) (q:=O) (ty:=ty) Gk (i:=(P.info? cW).getD default) (by kernel_rfl) (by kernel_rfl) w;obtain⟨c4,k3,c8⟩:=Cr (xt:=aO) (q:=O) (ty:=ty) Gl (i:=(P.info? cL).getD default) (by kernel_rfl) (by kernel_rfl) w;refine⟨_,b3,d2,k1,w,c9,r2,k2,w,d1,c4,k3,w,c8,?_⟩;refine bh (λ_=>U true) λ_=>?_
   rw[aL (by omega)];exact d0 (j+1) (by omega)
 exact b7 items.length 0 (by omega)

theorem Sl.storeAt {q:Option Addr}{n c j:Nat}{e:TypeId}{vs:List Value}{RM:List ai}{v:Value}{K:World->Prop}(V:Sl 1 e q n c vs RM)(h:Sat σ w (RM++L))(U:j<vs.length)(hv:ot v)(O: ∀w g,Sl 1 e q n c (vs.set j v) g->Sat σ w (g++L)->K w):aA q λa=>stV w ((a.add j).add 0) v K:=by
 obtain⟨E,hc,⟨rfl,rfl,_,rfl⟩|⟨y,sp,rfl,rfl,I⟩⟩:=V
 ·exact absurd E (by omega)
 ·refine aa ?_;simp only[lL0,lO0,lL1];refine Sat.st h (k:=0) rfl (by rw[lA0];omega) hv rfl λw h=>?_
  refine O w [(y,cel (vs.set j v++sp) e)] ⟨by simpa using E,hc,.inr ⟨y,sp,rfl,rfl,by simpa using I⟩⟩ ?_;have W:(vs++sp).set j v=vs.set j v++sp:=lY4 _ _ U;rw[<-W];exact h
def Em (pos:DB->Nat × Nat):List DB->Bool
 |d::d2::ds=>decide ((pos d).2+1<(pos d2).1)||Em pos (d2::ds)
 |_=>false
def mN (pos:DB->Nat × Nat):List IT->Bool
 |i::i2::is=>decide (i.e+1<i2.s)||(Em pos i.D||mN pos (i2::is))
 | [i]=>Em pos i.D
 | []=>false
def dx (d:DB):DB:=match d.v with
 | .iface ty _=>if ty=bE then match d.txs with| [x]=>⟨.iface d4 (kT (kE x.t)),d.own,d.txs⟩|_=>d else d
 |_=>d
theorem lw (nb t s e:Nat)(raw:List UInt8):dx (kM nb t s e raw)=⟨.iface d4 (kT (kE t)),[lQ nb s e t],[⟨t,s,e,raw⟩]⟩:=by
 unfold dx kM;simp
theorem eC {d:DB}{ty:TypeId}{q:Option Addr}(h:d.v= .iface ty (kT q))(ht:ty≠bE):dx d=d:=by
 unfold dx;rw[h];simp[ht]
def DB.kindOK (d:DB):Prop:=(∃nb t s e raw,d=kM nb t s e raw)\/(∃ty q,d.v= .iface ty (kT q)/\ty≠bE)
theorem yV {d:DB}(h:d.kindOK):(dx d).own=d.own/\(dx d).txs=d.txs:=by
 rcases h with ⟨nb,t,s,e,raw,rfl⟩|⟨ty,q,h,ht⟩
 ·rw[lw];exact⟨rfl,rfl⟩
 ·rw[eC h ht];exact⟨rfl,rfl⟩
theorem qU {D:List DB}(h: ∀d∈D,d.kindOK):cZ (D.map dx)=cZ D/\cj (D.map dx)=cj D:=by
 induction D with
 |nil=>exact⟨rfl,rfl⟩
 |cons d D g=>
  obtain⟨a,b⟩:=yV (h d (by simp));obtain⟨c,e⟩:=g λx y=>h x (lS1 _ y)
  constructor
  ·show (dx d).own++cZ (D.map dx)=d.own++cZ D
   rw[a,c]
  ·show (dx d).txs++cj (D.map dx)=d.txs++cj D
   rw[b,e]
inductive Ret:List IT->List IT->Prop where
 |nil:Ret [] []
 |cons {i i':IT} {is is':List IT}:i'= {i with D:=i.D.map dx,IM:=i'.IM}->i'.ok->Ret is is'->Ret (i::is) (i'::is')
theorem Ret.snoc {E y:List IT}{i g:IT}(h:Ret E y)(I:g= {i with D:=i.D.map dx,IM:=g.IM})(O:g.ok):Ret (E++ [i]) (y++ [g]):=by
 induction h with
 |nil=>exact .cons I O .nil
 |cons a b _ U=>exact .cons a b U
theorem Ret.vs {y g:List IT}(h:Ret y g):g.map IT.v=y.map IT.v:=by
 induction h with
 |nil=>rfl
 |cons a b _ E=>rw[lP1,lP1,E,a];rfl
theorem sC:P.underlying bE=some (.pointer nu):=by kernel_rfl
theorem sV (q:Option Addr)(w:World):(Instr.typeAssert (.iface bE (kT q)) aO bE true).run P w= .ok (.tuple #[kT q,hV true]) w:=
 o7 (by rw[sC];intro g h;cases h) sC w
theorem AZ {ty:TypeId}{v:Value}(ht:ty≠bE)(w:World):(Instr.typeAssert (.iface ty v) aO bE true).run P w= .ok (.tuple #[kT none,hV false]) w:=
 vx (by rw[sC];intro g h;cases h) sC ht (i:=(P.info? bE).getD default) (by kernel_rfl) (by kernel_rfl) w
theorem o9:nG P aB "pub-paratext/pub/rscmarkdown.build" i5=true:=by kernel_rfl
theorem pa:nG P bw "pub-paratext/pub/rscmarkdown.build" ja=true:=by kernel_rfl
theorem nF:nG P hU "pub-paratext/pub/rscmarkdown.build" iz=true:=by kernel_rfl
theorem rO {b lb:Nat}{bul num:Int}{td:Value}{p:PS}{ob:List OB}{o:OB}{M IM:List ai}{items:List IT}{pos:DB->Nat × Nat}{it:Option Addr}(h:Sat σ w (p.at b::M++(cP lb bul num false it td::(IM++(cZ (items.map IT.db)++L)))))(hs:Stk p (ob++ [o]) M)(c1:Sl 1 aO o.q o.n o.c (items.map IT.v) IM)(n1:items≠ [])(q8:items.length<1000000)(q2:o.s<1000000000)(f2: ∀i∈items,i.ok/\ ∀d∈i.D,d.kindOK/\d.posIs (pos d).1 (pos d).2/\(pos d).1<1000000000/\(pos d).2<2000000000)(b6: ∀w nb e (V:List IT),(mN pos items=true/\V=items\/mN pos items=false/\Ret items V)->((∃i∈items,e=i.e)/\items.getLast?.map IT.e=some e)->
  Sat σ w (p.at b::M++(uo nb o.s e bul num (mN pos items) o.q o.n o.c::(IM++(cZ (V.map IT.db)++L))))->R (hQ (.iface dn (kT (kE nb)))) w):
 callE P i5 #[kT (kE lb),.iface ah (kT (kE b))] R w:=by
 have e6:o.n=items.length:=by have:=c1.1;simp at this;omega
 have q4:0<items.length:=lZ0.2 n1;refine aV.sound ?_;refine bq kO ?_;refine oh h hs λw h=>⟨_,_,_,rfl,?_⟩
 refine bq oD ?_;refine uL h hs λw h=>⟨_,_,rfl,?_⟩
 refine Sat.bx h λg w h=>?_
 refine h.stA 0 λw h=>?_
 refine h.stA 0 λw h=>?_
 have h:Sat σ w ((g,cel [hY o.s,hY o.e] aH)::(p.at b::M++(cP lb bul num false it td::(IM++(cZ (items.map IT.db)++L))))):=h
 rw[e6] at c1⊢;have j0:i64.wrap ((items.length:Int) - 1)=((items.length - 1:Nat):Int):=by rw[i64_in _ (by omega)];omega
 rw[j0];refine⟨by omega,by omega,?_⟩;generalize f6:items[items.length - 1]'(by omega)=la;have e4:la∈items:=by rw[<-f6];exact lO1 _
 have g2:items.getLast?.map IT.e=some la.e:=by rw[List.getLast?_eq_getElem?,lH0 (by omega),f6];rfl
 have f3: ∀ {K:List ai} {x:ai},x∈IM->x∈K++(cP lb bul num false it td::(IM++(cZ (items.map IT.db)++L))):=λI=>by simp[I]
 refine c1.loadMem h (λx I=> .tail _ (f3 I)) (j:=items.length - 1) (v:=la.v) (by rw[lI2,lH0 (by omega),f6];rfl) λg1 g0 hc=>?_
 simp only[lL0,lC0,lA1,lO0];refine⟨_,hc,?_⟩;have e5: ∀ {K:List ai} {i:IT},i∈items-> ∀x∈i.db.own,x∈K++(cP lb bul num false it td::(IM++(cZ (items.map IT.db)++L))):=λhi x I=>by
  have:=IT.own_mem hi x I;simp[this]
 refine la.posIs σ _ _ w (λx I=> .tail _ (e5 e4 x I)) h λw h=>⟨_,_,rfl,?_⟩
 refine h.stA 0 λw h=>?_
 have h:Sat σ w ((g,cel [hY o.s,hY la.e] aH)::(p.at b::M++(cP lb bul num false it td::(IM++(cZ (items.map IT.db)++L))))):=h
 have k3: ∀(lo:Bool) (V:List IT) w,(∀w nb,Sat σ w (p.at b::M++(uo nb o.s la.e bul num lo o.q items.length o.c::(IM++(cZ (V.map IT.db)++L))))->R (hQ (.iface dn (kT (kE nb)))) w)->
  Sat σ w ((g,cel [hY o.s,hY la.e] aH)::cP lb bul num lo it td::(p.at b::M++(IM++(cZ (V.map IT.db)++L))))->aV.k3 R (kE lb) (.iface ah (kT (kE b))) g w:=by
  intro lo V w b6 h;refine Sat.tk h λw h=>aa (aa (aa ?_))
  refine⟨_,Sat.ld h (.head _) (i:=0) rfl,_,Sat.ld h (.head _) (i:=1) rfl,_,Sat.ld h (.tail _ (.head _)) (i:=0) rfl,_,Sat.ld h (.tail _ (.head _)) (i:=1) rfl,_,Sat.ld h (.tail _ (.head _)) (i:=2) rfl,?_⟩;have h0:=h;have h:Sat σ w (p.at b::M++((g,cel [hY o.s,hY la.e] aH)::cP lb bul num lo it td::(IM++(cZ (V.map IT.db)++L)))):=h.re
  have e8:cP lb bul num lo it td∈p.at b::M++((g,cel [hY o.s,hY la.e] aH)::cP lb bul num lo it td::(IM++(cZ (V.map IT.db)++L))):=by simp
  have m4:(g,cel [hY o.s,hY la.e] aH)∈p.at b::M++((g,cel [hY o.s,hY la.e] aH)::cP lb bul num lo it td::(IM++(cZ (V.map IT.db)++L))):=by simp
  refine bq kO ?_;refine oh h hs λw h=>⟨_,_,_,rfl,h0.same h (.tail _ (.head _)) e8 1,h0.same h (.tail _ (.head _)) e8 1,h0.same h (.tail _ (.head _)) e8 1,h0.same h (.head _) m4 2,?_⟩
  refine Sat.bx h λnb w h=>?_
  refine b6 w nb ?_;rw[e6] at h;have h:Sat σ w (uo nb o.s la.e bul num lo o.q items.length o.c::(p.at b::M++((g,cel [hY o.s,hY la.e] aH)::cP lb bul num lo it td::(IM++(cZ (V.map IT.db)++L))))):=h
  exact h.less [(g,cel [hY o.s,hY la.e] aH),cP lb bul num lo it td]
 have l2: ∀w,(∀w nb (V:List IT),Ret items V->Sat σ w (p.at b::M++(uo nb o.s la.e bul num false o.q items.length o.c::(IM++(cZ (V.map IT.db)++L))))->R (hQ (.iface dn (kT (kE nb)))) w)->
  Sat σ w ((g,cel [hY o.s,hY la.e] aH)::cP lb bul num false it td::(p.at b::M++(IM++(cZ (items.map IT.db)++L))))->
  aV.l2 R (kE lb) (.iface ah (kT (kE b))) g o.q items.length o.c (items.length:Int) 0 w:=by
  intro w b6 h X c9;have e9: ∀(suf pre W:List IT) w,pre++suf=items->Ret pre W->Sat σ w ((g,cel [hY o.s,hY la.e] aH)::cP lb bul num false it td::(p.at b::M++(IM++(cZ ((W++suf).map IT.db)++L))))->
   X (kE lb) (.iface ah (kT (kE b))) g o.q items.length o.c (items.length:Int) (pre.length:Int) w:=by
   intro suf
   induction suf with
   |nil=>
    intro pre W w O e0 h;rw[lG0] at O h;exact c9 _ _ _ _ _ _ _ _ _ (af (by rw[O];simp) (k3 false W w (λw nb h=>b6 w nb W (O▸e0) h) h))
   |cons i suf d3=>
    intro pre W w O e0 h;have f1:pre.length<items.length:=by rw[<-O];simp
    have d1:i∈items:=by rw[<-O];simp
    obtain⟨a7,c5⟩:=f2 i d1;have e7:items[pre.length]=i:=by simp[<-O]
    refine c9 _ _ _ _ _ _ _ _ _ (ag (by simp;omega) ⟨by omega,by omega,?_⟩);refine c1.loadMem h (λx I=>by simp[I]) (j:=pre.length) (v:=i.v) (by rw[lI2,lH0 f1,e7];rfl) λg1 g0 hc=>?_
    simp only[lL0,lC0,lA1,lO0];refine⟨_,hc,kE i.nb,w,yY _ w,aa ?_⟩;have h7:cZ ((W++i::suf).map IT.db)=cZ (W.map IT.db)++(i.chunk::(i.IM++cZ i.D)++cZ (suf.map IT.db)):=by
     simp[cZ,IT.db]
    rw[h7] at h;have h:Sat σ w (i.IM++(i.chunk::((g,cel [hY o.s,hY la.e] aH)::cP lb bul num false it td::(p.at b::M++(IM++(cZ (W.map IT.db)++(cZ i.D++(cZ (suf.map IT.db)++L)))))))):=h.re
    have g6: ∀ {K:List ai},i.chunk∈K++(i.chunk::((g,cel [hY o.s,hY la.e] aH)::cP lb bul num false it td::(p.at b::M++(IM++(cZ (W.map IT.db)++(cZ i.D++(cZ (suf.map IT.db)++L))))))):=by intro K;simp
    refine⟨_,_,_,Sat.ld h g6 (i:=2) rfl,?_⟩;have b4:=IT.n_eq a7;have h6:=a7.len;rw[b4];intro Y d0;have inner: ∀(U y:List DB) RM w,y++U=i.D->Sl 1 aO i.q i.D.length i.c ((y.map dx++U).map DB.v) RM->
     Sat σ w (RM++(i.chunk::((g,cel [hY o.s,hY la.e] aH)::cP lb bul num false it td::(p.at b::M++(IM++(cZ (W.map IT.db)++(cZ i.D++(cZ (suf.map IT.db)++L))))))))->
     Y (kE lb) (.iface ah (kT (kE b))) g (kE i.nb) o.q items.length o.c (items.length:Int) (pre.length:Int) i.q i.D.length i.c (i.D.length:Int) (y.length:Int) w:=by
     intro U
     induction U with
     |nil=>
      intro y RM w E b8 h;rw[lG0] at E b8;rw[E] at b8;refine d0 _ _ _ _ _ _ _ _ _ _ _ _ _ _ _ (af (by rw[E];simp) ?_);rw[aL (by omega)];have:=d3 (pre++ [i]) (W++ [{i with D:=i.D.map dx,IM:=RM}]) w (by rw[<-O];simp) (e0.snoc rfl ⟨by simpa[b4] using b8,by simpa using a7.len,a7.se⟩) ?_
      ·rw[lA0,lE0] at this;exact this
      ·have n2:=(qU (D:=i.D) λd hd=>(c5 d hd).1).1;have o2:cZ (((W++ [{i with D:=i.D.map dx,IM:=RM}])++suf).map IT.db)=cZ (W.map IT.db)++(i.chunk::(RM++cZ i.D)++cZ (suf.map IT.db)):=by
        rw[<-n2];simp[cZ,IT.db,IT.chunk]
       rw[o2];exact h.re
     |cons d U c8=>
      intro y RM w E b8 h;have m6:y.length<i.D.length:=by rw[<-E];simp
      have c4:d∈i.D:=by rw[<-E];simp
      obtain⟨o3,_,_⟩:=c5 d c4;refine d0 _ _ _ _ _ _ _ _ _ _ _ _ _ _ _ (ag (by simp;omega) ⟨by omega,by omega,?_⟩);have h8:((y.map dx++d::U).map DB.v)[y.length]? =some d.v:=by
       rw[lI2,lI0 (by simp)];simp
      refine b8.loadAt h h8 λg1 g0 hc=>?_
      simp only[lL0,lC0,lA1,lO0];refine⟨_,hc,?_⟩;have i1: ∀v:Value,v=(dx d).v->((y.map dx++d::U).map DB.v).set y.length v=((y++ [d]).map dx++U).map DB.v:=by
       rintro v rfl
       simp
      rcases o3 with ⟨nb,t,s,e,raw,rfl⟩|⟨ty,r1,hv,h2⟩
      ·refine⟨kE nb,true,w,sV _ w,ag rfl ?_⟩;refine Sat.tk h λw h=>aa (aa ?_)
       have m2:lQ nb s e t∈RM++(i.chunk::((g,cel [hY o.s,hY la.e] aH)::cP lb bul num false it td::(p.at b::M++(IM++(cZ (W.map IT.db)++(cZ i.D++(cZ (suf.map IT.db)++L))))))):=by
        have:lQ nb s e t∈cZ i.D:=lV2.2 ⟨_,c4,by simp[kM]⟩;simp[this]
       refine⟨_,_,_,Sat.ld h g6 (i:=2) rfl,_,Sat.ld h m2 (i:=2) rfl,by omega,by rw[b4];omega,?_⟩;refine b8.storeAt h (j:=y.length) (v:= .iface d4 (kT (kE t))) (by simp) trivial λw j1 g3 h=>?_
       rw[i1 _ (by rw[lw])] at g3;rw[aL (by omega)];have:=c8 (y++ [kM nb t s e raw]) j1 w (by rw[<-E];simp) g3 h;rw[lA0,lE0] at this;exact this
      ·rw[hv];refine⟨none,false,w,AZ h2 w,af rfl ?_⟩;rw[aL (by omega)];have o0:(y.map dx++d::U).map DB.v=((y++ [d]).map dx++U).map DB.v:=by simp[eC hv h2]
       rw[o0] at b8;have:=c8 (y++ [d]) RM w (by rw[<-E];simp) b8 h;rw[lA0,lE0] at this;exact this
    have i3:Sl 1 aO i.q i.D.length i.c (([].map dx++i.D).map DB.v) i.IM:=by rw[<-b4];exact a7.sl
    exact inner i.D [] i.IM w rfl i3 h
  exact e9 items [] [] w rfl .nil h
 have k1: ∀w,Sat σ w ((g,cel [hY o.s,hY la.e] aH)::cP lb bul num (mN pos items) it td::(p.at b::M++(IM++(cZ (items.map IT.db)++L))))->aV.k1 R (kE lb) (.iface ah (kT (kE b))) o.q items.length o.c g w:=by
  intro w h;refine aa ⟨_,Sat.ld h (.tail _ (.head _)) (i:=2) rfl,?_⟩;rw[e6] at b6;cases b3:mN pos items with
  |true=>
   rw[b3] at h b6;exact af rfl (k3 true items w (λw nb h=>b6 w nb la.e items (.inl ⟨rfl,rfl⟩) ⟨⟨la,e4,rfl⟩,g2⟩ h) h)
  |false=>
   rw[b3] at h b6;exact ag rfl (l2 w (λw nb V hr h=>b6 w nb la.e V (.inr ⟨rfl,hr⟩) ⟨⟨la,e4,rfl⟩,g2⟩ h) h)
 intro X c9;have h4: ∀w,mN pos items=true->Sat σ w ((g,cel [hY o.s,hY la.e] aH)::(p.at b::M++(cP lb bul num false it td::(IM++(cZ (items.map IT.db)++L)))))->
  aA (kE lb) λa=>stV w ((a.add 2).add 0) (hV true) λw=>aV.k1 R (kE lb) (.iface ah (kT (kE b))) o.q items.length o.c g w:=by
  intro w b3 h;have h:Sat σ w (cP lb bul num false it td::(g,cel [hY o.s,hY la.e] aH)::(p.at b::M++(IM++(cZ (items.map IT.db)++L)))):=h.re
  refine aa ?_;refine h.stA 0 λw h=>?_
  refine k1 w ?_;rw[b3];have h:Sat σ w (cP lb bul num true it td::(g,cel [hY o.s,hY la.e] aH)::(p.at b::M++(IM++(cZ (items.map IT.db)++L)))):=h
  exact h.re
 have e9: ∀(suf pre:List IT) w,pre++suf=items->mN pos items=mN pos suf->Sat σ w ((g,cel [hY o.s,hY la.e] aH)::(p.at b::M++(cP lb bul num false it td::(IM++(cZ (items.map IT.db)++L)))))->
  X (kE lb) (.iface ah (kT (kE b))) o.q items.length o.c g o.q items.length o.c (items.length:Int) (pre.length:Int) w:=by
  intro suf
  induction suf with
  |nil=>
   intro pre w O b3 h;rw[lG0] at O;subst O;refine c9 _ _ _ _ _ _ _ _ _ _ _ _ (af (by simp) (k1 w ?_));rw[b3];have h:Sat σ w ((g,cel [hY o.s,hY la.e] aH)::(p.at b::M++(cP lb bul num (mN pos []) it td::(IM++(cZ (pre.map IT.db)++L))))):=h
   exact h.re
  |cons i suf d3=>
   intro pre w O b3 h;have f1:pre.length<items.length:=by rw[<-O];simp
   have d1:i∈items:=by rw[<-O];simp
   obtain⟨a7,c5⟩:=f2 i d1;have e7:items[pre.length]=i:=by simp[<-O]
   have b7: ∀x∈i.db.own,x∈(g,cel [hY o.s,hY la.e] aH)::(p.at b::M++(cP lb bul num false it td::(IM++(cZ (items.map IT.db)++L)))):=λx I=> .tail _ (e5 d1 x I)
   refine c9 _ _ _ _ _ _ _ _ _ _ _ _ (ag (by simp;omega) ⟨by omega,by omega,?_⟩);refine c1.loadMem h (λx I=> .tail _ (f3 I)) (j:=pre.length) (v:=i.v) (by rw[lI2,lH0 f1,e7];rfl) λg1 g0 hc=>?_
   simp only[lL0,lC0,lA1,lO0];refine⟨_,hc,kE i.nb,w,yY _ w,?_⟩;rw[aL (by omega)];have inner: ∀rest w,(mN pos items=(Em pos i.D||rest))->(∀w,mN pos items=rest->Sat σ w ((g,cel [hY o.s,hY la.e] aH)::(p.at b::M++(cP lb bul num false it td::(IM++(cZ (items.map IT.db)++L)))))->
    X (kE lb) (.iface ah (kT (kE b))) o.q items.length o.c g o.q items.length o.c (items.length:Int) ((pre.length+1:Nat):Int) w)->
    Sat σ w ((g,cel [hY o.s,hY la.e] aH)::(p.at b::M++(cP lb bul num false it td::(IM++(cZ (items.map IT.db)++L)))))->
    aV.k2 R X (kE lb) (.iface ah (kT (kE b))) o.q items.length o.c g (kE i.nb) o.q items.length o.c (items.length:Int) (pre.length:Int) w:=by
    intro rest w l5 h5 h;refine aa ⟨_,_,_,Sat.ld h (b7 _ (.head _)) (i:=2) rfl,?_⟩;have b4:=IT.n_eq a7;rw[b4];have f5:=a7.sl;rw[b4] at f5;have h3: ∀x∈i.IM,x∈(g,cel [hY o.s,hY la.e] aH)::(p.at b::M++(cP lb bul num false it td::(IM++(cZ (items.map IT.db)++L)))):=λx I=>b7 x (.tail _ (lC1 _ I))
    have g7: ∀d∈i.D,∀x∈d.own,x∈(g,cel [hY o.s,hY la.e] aH)::(p.at b::M++(cP lb bul num false it td::(IM++(cZ (items.map IT.db)++L)))):=λd hd x I=>b7 x (.tail _ (lB0 _ (lV2.2 ⟨d,hd,I⟩)))
    intro Y d0;have i8: ∀(U y:List DB) w,y++U=i.D->mN pos items=(Em pos U||rest)->Sat σ w ((g,cel [hY o.s,hY la.e] aH)::(p.at b::M++(cP lb bul num false it td::(IM++(cZ (items.map IT.db)++L)))))->
     Y (kE lb) (.iface ah (kT (kE b))) o.q items.length o.c g (kE i.nb) o.q items.length o.c (items.length:Int) (pre.length:Int) i.q i.D.length i.c (i.D.length:Int) (y.length:Int) w:=by
     intro U
     induction U with
     |nil=>
      intro y w E c3 h;rw[lG0] at E;refine d0 _ _ _ _ _ _ _ _ _ _ _ _ _ _ _ _ _ _ (af (by rw[E];simp) ?_);rw[aL (by omega)];exact h5 w (by rw[c3];rfl) h
     |cons d U c8=>
      intro y w E c3 h;have m6:y.length<i.D.length:=by rw[<-E];simp
      have c4:d∈i.D:=by rw[<-E];simp
      have h6:=a7.len;obtain⟨_,n3,q3,q1⟩:=c5 d c4;refine d0 _ _ _ _ _ _ _ _ _ _ _ _ _ _ _ _ _ _ (ag (by simp;omega) ⟨by omega,by omega,?_⟩);refine f5.loadMem h h3 (j:=y.length) (v:=d.v) (by rw[<-E];simp) λq5 q0 m5=>?_
      simp only[lL0,lC0,lA1,lO0];refine⟨_,m5,?_⟩;refine n3 σ _ _ w (g7 d c4) h λw h=>⟨_,_,rfl,aa ?_⟩
      refine⟨_,_,_,Sat.ld h (b7 _ (.head _)) (i:=2) rfl,?_⟩;rw[b4,aL (by omega)];cases U with
      |nil=>
       refine af (by rw[<-E];simp) ?_;have:=c8 (y++ [d]) w (by rw[<-E];simp) (by rw[c3];rfl) h;rw[lA0,lE0] at this;exact this
      |cons c2 r3=>
       have o4:y.length+1<i.D.length:=by rw[<-E];simp
       have g5:c2∈i.D:=by rw[<-E];simp
       obtain⟨_,n0,p4,p3⟩:=c5 c2 g5;refine ag (by simp;omega) (aa ?_);refine⟨_,_,_,Sat.ld h (b7 _ (.head _)) (i:=2) rfl,by omega,by rw[b4];omega,?_⟩;refine f5.loadMem h h3 (j:=y.length+1) (v:=c2.v) (by rw[<-E];simp) λk0 m1 f0=>?_
       simp only[lL0,lC0,lA1,lO0];refine⟨_,f0,?_⟩;refine n0 σ _ _ w (g7 c2 g5) h λw h=>⟨_,_,rfl,?_⟩
       rw[i64_in _ (by omega)];refine bh (λb9=>?_) λb9=>?_
       ·refine h4 w ?_ h;have:decide ((pos d).2+1<(pos c2).1)=true:=by simp at b9⊢;omega
        rw[c3,Em,this];rfl
       ·have:=c8 (y++ [d]) w (by rw[<-E];simp) ?_ h
        ·rw[lA0,lE0] at this;exact this
        ·have:decide ((pos d).2+1<(pos c2).1)=false:=by simp at b9⊢;omega
         rw[c3,Em,this];rfl
    exact i8 i.D [] w rfl l5 h
   cases suf with
   |nil=>
    refine af (by rw[<-O];simp) ?_;refine inner false w (by rw[b3];simp[mN]) (λw f4 h=>?_) h;have:=d3 (pre++ [i]) w (by rw[<-O];simp) (by rw[f4];rfl) h;rw[lA0,lE0] at this;exact this
   |cons a6 f7=>
    have i0:pre.length+1<items.length:=by rw[<-O];simp
    have i4:items[pre.length+1]=a6:=by simp[<-O]
    have g4:a6∈items:=by rw[<-O];simp
    obtain⟨h9,_⟩:=f2 a6 g4;have p5:=a7.se;have p1:=h9.se;refine ag (by simp;omega) ?_;refine Sat.tk h λw h=>⟨by omega,by omega,?_⟩
    refine c1.loadMem h (λx I=> .tail _ (f3 I)) (j:=pre.length+1) (v:=a6.v) (by rw[lI2,lH0 i0,i4];rfl) λk0 m1 f0=>?_
    simp only[lL0,lC0,lA1,lO0];refine aa ⟨_,f0,_,Sat.ld h (b7 _ (.head _)) (i:=1) rfl,?_⟩;have h0:=h;refine a6.posIs σ _ _ w (λx I=> .tail _ (e5 g4 x I)) h λw h=>⟨_,_,rfl,h0.same h (b7 _ (.head _)) (b7 _ (.head _)) 1,?_⟩
    rw[i64_in _ (by omega)];have h1:mN pos (i::a6::f7)=(decide (i.e+1<a6.s)||(Em pos i.D||mN pos (a6::f7))):=rfl
    refine bh (λb9=>?_) λb9=>?_
    ·refine h4 w ?_ h;have:decide (i.e+1<a6.s)=true:=by simp at b9⊢;omega
     rw[b3,h1,this];rfl
    ·have m3:decide (i.e+1<a6.s)=false:=by simp at b9⊢;omega
     refine inner (mN pos (a6::f7)) w (by rw[b3,h1,m3];rfl) (λw f4 h=>?_) h;have:=d3 (pre++ [i]) w (by rw[<-O];simp) f4 h;rw[lA0,lE0] at this;exact this
 exact e9 items [] w rfl rfl h

def EN (nb s e:Nat)(q:Option Addr)(n c:Nat):ai:=(nb,cel [hY s,hY e,hT q n c] zX)
def oT (nb s e:Nat)(q:Option Addr)(n c:Nat)(IM:List ai)(D:List DB):DB:=⟨.iface kB (kT (kE nb)),EN nb s e q n c::(IM++cZ D),cj D⟩
def qX (nb s e:Nat)(bul num:Int)(lo:Bool)(q:Option Addr)(n c:Nat)(IM:List ai)(items:List IT):DB:=
 ⟨.iface dn (kT (kE nb)),uo nb s e bul num lo q n c::(IM++cZ (items.map IT.db)),cj (items.map IT.db)⟩

structure Bk where
 ob:OB
 own:List ai
 D:List DB
 IM:List ai
def Bk.ok (f:Bk):Prop:=Sl 1 aO f.ob.q f.ob.n f.ob.c (f.D.map DB.v) f.IM/\f.D.length<100000/\f.ob.s<1000000000/\f.ob.e<1000000000
def txc (D:List DB):List ai:=(cj D).map TX.chunk
def Bk.mem (f:Bk):List ai:=f.IM++(f.own++(cZ f.D++txc f.D))
def aN (fs:List Bk):List ai:=fs.flatMap Bk.mem
def txF (fs:List Bk):List TX:=fs.flatMap λf=>cj f.D
theorem bi (a b:List Bk):aN (a++b)=aN a++aN b:=by simp[aN]
theorem dC (f:Bk):aN [f]=f.IM++(f.own++(cZ f.D++txc f.D)):=by simp[aN,Bk.mem]
theorem j8 (f y:Bk):aN [f,y]=f.IM++(f.own++(cZ f.D++txc f.D))++(y.IM++(y.own++(cZ y.D++txc y.D))):=by simp[aN,Bk.mem]
theorem bF (a b:List Bk):txF (a++b)=txF a++txF b:=by simp[txF]
theorem dO (f:Bk):txF [f]=cj f.D:=by simp[txF]
theorem vq (f y:Bk):txF [f,y]=cj f.D++cj y.D:=by simp[txF]
theorem ow (D:List DB)(d:DB):txc (D++ [d])=txc D++d.txs.map TX.chunk:=by simp[txc,j4]
def DocC (σ:Out)(b:Nat)(L:List ai)(fs:List Bk)(lf:Leaf)(p:PS)(w:World):Prop:=
 ∃M E g y,Stk p (fs.map Bk.ob++g) M/\Txts p ((txF fs).map TX.t) E/\(∀f∈fs,f.ok)/\Ee lf g y/\Sat σ w (p.at b::M++(E++(aN fs++(y++L))))
def Bk.like (g f:Bk):Prop:=g.ob.bd=f.ob.bd/\g.ob.s=f.ob.s/\g.ob.e=f.ob.e/\g.own=f.own
theorem DocC.closed {b:Nat}{gs:List Bk}{par f:Bk}{p2:PS}{W y O:List ai}{V:Option Addr}{U:Nat}{d:DB}{I:List ai}(a7: ∀g∈gs++ [par,f],Bk.ok g)(b7:par.D.length<99999)(b4:Stk p2 (gs.map Bk.ob++ [{par.ob with q:=V,n:=par.ob.n+1,c:=U}]) W)(b3:Sl 1 aO V (par.ob.n+1) U (par.D.map DB.v++ [d.v]) y)(ht:Txts p2 ((txF (gs++ [par,f])).map TX.t) O)(a6:d.txs=cj f.D)(h:Sat σ w (p2.at b::W++(y++(O++(aN gs++(I++(cZ par.D++(txc par.D++(d.own++(txc f.D++L)))))))))):
 DocC σ b L (gs++ [⟨{par.ob with q:=V,n:=par.ob.n+1,c:=U},I,par.D++ [d],y⟩]) .none p2 w:=by
 refine⟨W,O,[],[],?_,?_,?_,⟨rfl,rfl⟩,?_⟩
 ·rw[lV0,lG0];exact b4
 ·have e:txF (gs++ [⟨{par.ob with q:=V,n:=par.ob.n+1,c:=U},I,par.D++ [d],y⟩])=txF (gs++ [par,f]):=by
   rw[bF,bF,dO,vq,j4,a6]
  rw[e];exact ht
 ·intro g E;rcases lP0.1 E with E|E
  ·exact a7 g (by simp[E])
  ·obtain rfl:=lN0.1 E;obtain⟨_,b6,b5⟩:=a7 par (by simp);exact⟨by rw[lV0];exact b3,by simp;omega,b5⟩
 ·rw[bi,dC,l8,ow,a6]
  show Sat σ w (p2.at b::W++(O++(aN gs++(y++(I++((cZ par.D++d.own)++(txc par.D++txc f.D))))++([]++L))))
  exact h.re
theorem pU {b:Nat}{y:Option Addr}{p:PS}{ob:List OB}{o:OB}{M:List ai}(h:Sat σ w (p.at b::M++L))(hs:Stk p (ob++ [o]) M)(g: ∀w nb,Sat σ w (p.at b::M++(EN nb o.s o.e o.q o.n o.c::L))->R (hQ (.iface kB (kT (kE nb)))) w):
 callE P iz #[kT y,.iface ah (kT (kE b))] R w:=by
 refine iE.sound ?_;refine bq oD ?_;refine uL h hs λw h=>⟨_,_,rfl,?_⟩
 refine bq kO ?_;refine oh h hs λw h=>⟨_,_,_,rfl,?_⟩
 refine Sat.bx h λnb w h=>g w nb ?_
 have h:Sat σ w (EN nb o.s o.e o.q o.n o.c::(p.at b::M++L)):=h
 exact h.re
theorem rP {b ib lb wd:Nat}{hv:Bool}{bul num:Int}{lo:Bool}{it:Option Addr}{td:Value}{p:PS}{ob:List OB}{o:OB}{M:List ai}(h:Sat σ w (p.at b::M++(gC ib lb wd hv::cP lb bul num lo it td::L)))(hs:Stk p (ob++ [o]) M)(y: ∀w nb,Sat σ w (p.at b::M++((nb,cel [hY o.s,hY o.e,hT o.q o.n o.c,hY wd] nw)::cP lb bul num lo none td::L))->R (hQ (.iface gf (kT (kE nb)))) w):
 callE P ja #[kT (kE ib),.iface ah (kT (kE b))] R w:=by
 refine jk.sound ?_;have h:Sat σ w (cP lb bul num lo it td::gC ib lb wd hv::(p.at b::M++L)):=h.re
 refine aa ⟨_,Sat.ld h (.tail _ (.head _)) (i:=0) rfl,aa ?_⟩;refine h.stA 0 λw h=>?_
 have h:Sat σ w (cP lb bul num lo none td::gC ib lb wd hv::(p.at b::M++L)):=h
 refine Sat.tk h λw h=>aa ⟨_,Sat.ld h (.tail _ (.head _)) (i:=1) rfl,?_⟩
 have h0:=h;have h:Sat σ w (p.at b::M++(cP lb bul num lo none td::gC ib lb wd hv::L)):=h.re
 have g:gC ib lb wd hv∈p.at b::M++(cP lb bul num lo none td::gC ib lb wd hv::L):=by simp
 refine bq oD ?_;refine uL h hs λw h=>⟨_,_,rfl,h0.same h (.tail _ (.head _)) g 1,?_⟩
 have E:=h;refine bq kO ?_;refine oh h hs λw h=>⟨_,_,_,rfl,E.same h g g 1,?_⟩
 refine Sat.bx h λnb w h=>y w nb ?_
 have h:Sat σ w ((nb,cel [hY o.s,hY o.e,hT o.q o.n o.c,hY wd] nw)::(p.at b::M++(cP lb bul num lo none td::gC ib lb wd hv::L))):=h
 exact h.less [gC ib lb wd hv]
def Bk.isQuote (f:Bk):Prop:= ∃g,f.ob.bd=quoV g/\f.own= [GG g]
def Bk.isItem (f:Bk)(lb wd:Nat)(hv:Bool):Prop:= ∃ib,f.ob.bd=El ib/\f.own= [gC ib lb wd hv]
def ItemOf (it:Option Addr)(f:Bk)(lb wd:Nat)(hv:Bool):Prop:= ∃ib,it=kE ib/\f.ob.bd=El ib/\f.own= [gC ib lb wd hv]
theorem ItemOf.item {it:Option Addr}{f:Bk}{lb wd:Nat}{hv:Bool}(h:ItemOf it f lb wd hv):f.isItem lb wd hv:=⟨h.choose,h.choose_spec.2⟩
def Bk.isListT (f:Bk)(lb:Nat)(bul num:Int)(it:Option Addr)(td:Value):Prop:=f.ob.bd=C1 lb/\f.own= [cP lb bul num false it td]
abbrev Bk.isList (f:Bk)(lb:Nat)(bul num:Int)(it:Option Addr):Prop:=f.isListT lb bul num it .nilFunc
theorem zM {b:Nat}{gs:List Bk}{par f:Bk}{p:PS}(h:DocC σ b L (gs++ [par,f]) .none p w)(b4:f.isQuote)(b6:par.D.length<99999)(b7: ∀w g nb x,g.like par->g.D=par.D++ [oT nb f.ob.s f.ob.e f.ob.q f.ob.n f.ob.c f.IM f.D]->DocC σ b L (gs++ [g]) .none {p with stn:=gs.length+1} w->R (hQ x) w):
 callE P aJ #[kT (kE b)] R w:=by
 obtain⟨M,b5,b9,c2,hs,ht,I,⟨rfl,rfl⟩,h⟩:=h;obtain⟨U,E,V⟩:=b4;have hs:Stk p (gs.map Bk.ob++ [par.ob]++ [f.ob]) M:=by simpa using hs
 have y:=(I par (by simp)).1;have c1:par.ob.n=par.D.length:=by have:=y.1;simp at this;omega
 rw[bi,j8,V] at h;refine jp h hs E λw h=>?_
 rw[E];refine bq nF ?_;refine pU h hs λw nb h=>⟨_,rfl,none,false,w,kC (by decide) w,af rfl ?_⟩
 have h:Sat σ w (p.at b::M++(par.IM++(b5++(aN gs++(par.own++(cZ par.D++(txc par.D++((EN nb f.ob.s f.ob.e f.ob.q f.ob.n f.ob.c::(f.IM++cZ f.D))++(txc f.D++(GG U::L)))))))))):=h.re
 refine mm h hs y (by omega) λw p2 c3 a7 b8 b3 W O a6 h=>?_
 have e:p2= {p with stn:=gs.length+1}:=by rw[W,lQ0]
 rw[e] at O h;refine b7 w ⟨{par.ob with q:=b8,n:=par.ob.n+1,c:=b3},par.own,par.D++ [oT nb f.ob.s f.ob.e f.ob.q f.ob.n f.ob.c f.IM f.D],a7⟩ nb _ ⟨rfl,rfl,rfl,rfl⟩ rfl (DocC.closed (par:=par) (f:=f) (d:=oT nb f.ob.s f.ob.e f.ob.q f.ob.n f.ob.c f.IM f.D) I b6 O a6 (ht.of rfl rfl rfl) rfl ?_);exact h.less [GG U] (by intro _;simp only[oT,lP3,dJ,ff,mS]<;>omega)
theorem vb {b lb wd:Nat}{hv:Bool}{bul num:Int}{it:Option Addr}{td:Value}{gs:List Bk}{par f:Bk}{p:PS}(h:DocC σ b L (gs++ [par,f]) .none p w)(b8:f.isItem lb wd hv)(c1:par.isListT lb bul num it td)(b9:par.D.length<99999)(c2: ∀w g nb x,g.isListT lb bul num none td->g.ob.s=par.ob.s->g.ob.e=par.ob.e->g.D=par.D++ [(IT.mk nb f.ob.s f.ob.e f.ob.q f.ob.n f.ob.c wd f.IM f.D).db]->(IT.mk nb f.ob.s f.ob.e f.ob.q f.ob.n f.ob.c wd f.IM f.D).ok->DocC σ b L (gs++ [g]) .none {p with stn:=gs.length+1} w->R (hQ x) w):
 callE P aJ #[kT (kE b)] R w:=by
 obtain⟨M,E,c4,c9,hs,ht,y,⟨rfl,rfl⟩,h⟩:=h;obtain⟨ib,O,a6⟩:=b8;obtain⟨b5,a7⟩:=c1;have hs:Stk p (gs.map Bk.ob++ [par.ob]++ [f.ob]) M:=by simpa using hs
 have I:=(y par (by simp)).1;obtain⟨W,c5,V⟩:=y f (by simp);have c8:par.ob.n=par.D.length:=by have:=I.1;simp at this;omega
 rw[bi,j8,a6,a7] at h;refine jp h hs O λw h=>?_
 rw[O];have h:Sat σ w (p.at b::M++(gC ib lb wd hv::cP lb bul num false it td::(par.IM++(E++(aN gs++(cZ par.D++(txc par.D++(f.IM++(cZ f.D++(txc f.D++L)))))))))):=h.re
 refine bq pa ?_;refine rP h hs λw nb h=>⟨_,rfl,none,false,w,kC (by decide) w,af rfl ?_⟩
 have h:Sat σ w (p.at b::M++(par.IM++(E++(aN gs++([cP lb bul num false none td]++(cZ par.D++(txc par.D++(((IT.mk nb f.ob.s f.ob.e f.ob.q f.ob.n f.ob.c wd f.IM f.D).chunk::(f.IM++cZ f.D))++(txc f.D++L))))))))):=by
  have h:Sat σ w (p.at b::M++((IT.mk nb f.ob.s f.ob.e f.ob.q f.ob.n f.ob.c wd f.IM f.D).chunk::cP lb bul num false none td::(par.IM++(E++(aN gs++(cZ par.D++(txc par.D++(f.IM++(cZ f.D++(txc f.D++L)))))))))):=h
  exact h.re
 refine mm h hs I (by omega) λw p2 d0 b6 c3 b7 b3 U b4 h=>?_
 have e:p2= {p with stn:=gs.length+1}:=by rw[b3,lQ0]
 rw[e] at U h;refine c2 w ⟨{par.ob with q:=c3,n:=par.ob.n+1,c:=b7},[cP lb bul num false none td],par.D++ [(IT.mk nb f.ob.s f.ob.e f.ob.q f.ob.n f.ob.c wd f.IM f.D).db],b6⟩ nb _ ⟨b5,rfl⟩ rfl rfl rfl ⟨W,by show f.D.length<1000000;omega,V⟩ (DocC.closed (par:=par) (f:=f) (d:=(IT.mk nb f.ob.s f.ob.e f.ob.q f.ob.n f.ob.c wd f.IM f.D).db) y b9 U b4 (ht.of rfl rfl rfl) rfl ?_);exact h

theorem DB.kindOK.ifc {d:DB}(h:d.kindOK):d.ifc/\(dx d).ifc:=by
 rcases h with ⟨nb,t,s,e,raw,rfl⟩|⟨ty,q,h,ht⟩
 ·rw[lw];exact⟨⟨_,_,rfl⟩,⟨_,_,rfl⟩⟩
 ·rw[eC h ht];exact⟨⟨_,_,h⟩,⟨_,_,h⟩⟩
theorem Ret.facts {E g:List IT}(h:Ret E g)(U: ∀i∈E,∀d∈i.D,d.kindOK):cj (g.map IT.db)=cj (E.map IT.db)/\ ∀i∈g,i.ok/\ ∀d∈i.D,d.ifc:=by
 induction h with
 |nil=>exact⟨rfl,by simp⟩
 | @cons i i' E g h1 h2 _ ih=>
  obtain⟨a7,W⟩:=ih λj y=>U j (lS1 _ y)
  have I:=U i (by simp);have O:i'.D=i.D.map dx:=by rw[h1]
  refine⟨?_,λj y=>?_⟩
  ·show cj i'.D++cj (g.map IT.db)=cj i.D++cj (E.map IT.db)
   rw[a7,O,(qU I).2]
  ·rcases lW0.1 y with rfl|y
   ·refine⟨h2,λd hd=>?_⟩;rw[O] at hd;obtain⟨a6,V,rfl⟩:=lU1.1 hd;exact(I a6 V).ifc.2
   ·exact W j y
def Tgh (lo:Bool)(items g:List IT):Prop:=lo=true/\g=items\/lo=false/\Ret items g
theorem BC {b lb pb:Nat}{op:Opt}{bul num:Int}{it:Option Addr}{gs:List Bk}{par f:Bk}{p:PS}{items:List IT}{pos:DB->Nat × Nat}(h:DocC σ b L (gs++ [par,f]) .none p w)(e1:f.isList lb bul num it)(E:f.D=items.map IT.db)(d2:items≠ [])(O: ∀i∈items,i.ok/\ ∀d∈i.D,d.kindOK/\d.posIs (pos d).1 (pos d).2/\(pos d).1<1000000000/\(pos d).2<2000000000)(c9:p.pz=kE pb)(d0:op.at pb∈L)(c1:op.task=false)(e3:par.D.length<99999)(e5: ∀w (p':PS) V nb e g x,p'.base=p.base->p'.depth=p.depth->p'.lineno=p.lineno->p'.stn=gs.length+1->V.like par->Tgh (mN pos items) items g->((∃i∈items,e=i.e)/\items.getLast?.map IT.e=some e)->V.D=par.D++ [qX nb f.ob.s e bul num (mN pos items) f.ob.q f.ob.n f.ob.c f.IM g]->
  DocC σ b L (gs++ [V]) .none p' w->R (hQ x) w):
 callE P aJ #[kT (kE b)] R w:=by
 obtain⟨M,a7,e7,f1,hs,ht,a6,⟨rfl,rfl⟩,h⟩:=h;obtain⟨b7,c3⟩:=e1;have hs:Stk p (gs.map Bk.ob++ [par.ob]++ [f.ob]) M:=by simpa using hs
 have b4:=(a6 par (by simp)).1;obtain⟨U,b5,c2⟩:=a6 f (by simp);have e9:par.ob.n=par.D.length:=by have:=b4.1;simp at this;omega
 have c8:f.D.map DB.v=items.map IT.v:=by rw[E];simp[Function.comp_def,IT.db]
 rw[c8] at U;have f0:items.length<100000:=by rw[E] at b5;simpa using b5
 have e8:txc f.D=(cj (items.map IT.db)).map TX.chunk:=by rw[E];rfl
 rw[bi,j8,c3,E] at h;refine jp h hs b7 λw h=>?_
 rw[b7];have h:Sat σ w (p.at b::M++(cP lb bul num false it .nilFunc::(f.IM++(cZ (items.map IT.db)++(par.IM++(a7++(aN gs++(par.own++(cZ par.D++(txc par.D++(txc (items.map IT.db)++L))))))))))):=h.re
 refine bq o9 ?_;refine rO (pos:=pos) h hs U d2 (by omega) c2.1 O λw nb e g W d3 h=>⟨_,rfl,kE nb,true,w,o7 (by rw[nj];intro f3 h;cases h) nj w,ag rfl (aa ?_)⟩
 have b6:g.map IT.v=items.map IT.v:=by
  rcases W with ⟨_,rfl⟩|⟨_,hr⟩
  ·rfl
  ·exact hr.vs
 have b3:cj (g.map IT.db)=cj (items.map IT.db)/\ ∀i∈g,i.ok/\ ∀d∈i.D,d.ifc:=by
  rcases W with ⟨_,rfl⟩|⟨_,hr⟩
  ·exact⟨rfl,λi hi=>⟨(O i hi).1,λd hd=>((O i hi).2 d hd).1.ifc.1⟩⟩
  ·exact hr.facts λi hi d hd=>((O i hi).2 d hd).1
 have b9:g.length<1000000:=by have:=congrArg List.length b6;simp at this;omega
 have k2: ∀(y:Bool) w,Sat σ w (({p with corner:=y}:PS).at b::M++(uo nb f.ob.s e bul num (mN pos items) f.ob.q f.ob.n f.ob.c::(f.IM++(cZ (g.map IT.db)++(par.IM++(a7++(aN gs++(par.own++(cZ par.D++(txc par.D++(txc (items.map IT.db)++L)))))))))))->
  aK.k2 R (kE b) (.iface dn (kT (kE nb))) (kE nb) w:=by
  intro y w h;refine aa ⟨_,Sat.ld h (.head _) (i:=0) rfl,?_⟩;rw[c9];refine aa ⟨_,Sat.ld h (by simp[d0]:op.at pb∈_) rfl,af c1 ?_⟩;have h:Sat σ w (({p with corner:=y}:PS).at b::M++(par.IM++(a7++(aN gs++(par.own++(cZ par.D++(txc par.D++((uo nb f.ob.s e bul num (mN pos items) f.ob.q f.ob.n f.ob.c::(f.IM++cZ (g.map IT.db)))++(txc f.D++L))))))))):=by
   rw[E];exact h.re
  refine mm h (hs.of rfl rfl rfl) b4 (by omega) λw p2 f2 d1 e6 e0 c4 b8 c5 h=>?_
  have e4:p2= {p with corner:=y,stn:=gs.length+1}:=by rw[c4,lQ0]
  rw[e4] at b8 h;refine e5 w {p with corner:=y,stn:=gs.length+1} ⟨{par.ob with q:=e6,n:=par.ob.n+1,c:=e0},par.own,par.D++ [qX nb f.ob.s e bul num (mN pos items) f.ob.q f.ob.n f.ob.c f.IM g],d1⟩ nb e g _ rfl rfl rfl rfl ⟨rfl,rfl,rfl,rfl⟩ W d3 rfl
   (DocC.closed (par:=par) (f:=f) (d:=qX nb f.ob.s e bul num (mN pos items) f.ob.q f.ob.n f.ob.c f.IM g) a6 e3 b8 c5 (ht.of rfl rfl rfl) ?_ ?_)
  ·rw[E];exact b3.1
  ·exact h
 refine⟨_,Sat.ld h (.head _) (i:=6) rfl,bh (λ_=>aa ?_) λ_=>?_⟩
 ·refine Sat.st h (k:=0) rfl (by simp[PS.cells]) trivial rfl λw h=>?_
  exact k2 true w h
 ·refine p8 (nb:=nb) (s:=f.ob.s) (e:=e) (bul:=bul) (num:=num) (loose:=mN pos items) (items:=g) (b6▸U) b3.2 b9 h (λx I=>?_) λy=>⟨_,rfl,aa ?_⟩
  ·rcases lW0.1 I with rfl|I
   ·simp
   ·rcases lP0.1 I with I|I<;>simp[I]
  ·refine Sat.st h (k:=0) rfl (by simp[PS.cells]) trivial rfl λw h=>?_
   exact k2 y w h

structure Ln.has (l:Ln) (c:UInt8) (rest:List UInt8):Prop where
 ok:l.ok
 sp:l.sp=0
 tx:l.text.drop l.i=c::rest
theorem Ln.has.get {l:Ln}{c:UInt8}{r:List UInt8}(h:l.has c r):l.text[l.i]? =some c:=by
 have:=congrArg (λx:List UInt8=>x[0]?) h.tx
 simpa using this
theorem Ln.has.lt {l:Ln}{c:UInt8}{r:List UInt8}(h:l.has c r):l.i<l.text.length:=by
 have:=congrArg List.length h.tx;simp at this;omega
theorem Ln.has.next {l:Ln}{c d:UInt8}{r:List UInt8}(h:l.has c (d::r)):({l with i:=l.i+1}:Ln).has d r:=by
 have g:=congrArg List.length h.tx;simp at g;refine⟨⟨by show l.i+1<=l.text.length;omega,by show l.tab<=l.i+1;have:=h.ok.tab;omega,h.ok.len,h.ok.sp⟩,h.sp,?_⟩
 show l.text.drop (l.i+1)=d::r
 have:=congrArg (List.drop 1) h.tx;rw[lN5] at this
 simpa[lH4] using this
theorem Ln.has.tsGo {l:Ln}{c:UInt8}{r:List UInt8}(h:l.has c r)(hc:cO c=false)(mn k n:Nat)(e:Bool):l.tsGo mn e (k+1) n=if mn<=n then some l else none:=by
 simp only[cO,lH2,beq_eq_false_iff_ne,ne_eq] at hc;have g:=h.lt;simp[Ln.tsGo,h.sp,h.get,hc.1,hc.2,Nat.not_le.2 g]
theorem Ln.has.sp1 {l:Ln}{r:List UInt8}{mn:Nat}{e:Bool}(h:l.has 32 r):l.trimSp mn 1 e=some {l with i:=l.i+1}:=by
 have g:=h.lt;simp[Ln.trimSp,Ln.tsGo,h.sp,h.get,Nat.not_le.2 g]
theorem Ln.has.lead {l:Ln}{c:UInt8}{r:List UInt8}(h:l.has c r)(hc:cO c=false)(k:Nat)(e:Bool):l.lead (k+1) e=l:=by
 unfold Ln.lead Ln.trimSp;rw[h.tsGo hc];rfl
theorem Ln.has.strip {l:Ln}{c:UInt8}{r:List UInt8}(h:l.has c r)(hc:cO c=false):l.strip 3 0=(0,l):=by
 simp only[Ln.strip,Ln.trimSp];rw[h.tsGo hc];rfl
theorem Ln.has.peek {l:Ln}{c:UInt8}{r:List UInt8}(h:l.has c r):l.peek=c:=by
 unfold Ln.peek;rw[h.sp,if_neg (by decide),lS0,h.get];rfl
theorem Ln.has.trimC {l:Ln}{c:UInt8}{r:List UInt8}(h:l.has c r)(d:UInt8):l.trimC d=if c=d then some {l with i:=l.i+1} else none:=by
 unfold Ln.trimC;rw[h.sp,if_neg (by decide),h.get];simp
theorem Ln.has.blank {l:Ln}{c:UInt8}{r:List UInt8}(h:l.has c r)(hc:cO c=false):l.blank=false:=by
 unfold Ln.blank;rw[h.tx,lN3,hc];rfl
theorem Ln.has.plain {l:Ln}{c:UInt8}{r:List UInt8}(h:l.has c r)(hc:oA c=true):l.plain:=by
 simp only[oA,lN1,lQ5,bne_iff_ne,ne_eq] at hc;obtain⟨⟨h0,O⟩,b3⟩:=hc;have g:=uk h0;simp only[mw,lQ5,lH2,beq_eq_false_iff_ne,ne_eq] at h0;obtain⟨⟨⟨⟨⟨⟨⟨⟨_,b4⟩,I⟩,a7⟩,W⟩,E⟩,b5⟩,a6⟩,V⟩:=h0;have y: ∀e,l.lead 3 e=l:=h.lead g 2
 have U:(l.lead 3 false).peek=c:=by rw[y];exact h.peek
 refine⟨h.ok,h.blank g,?_,?_,?_,LDecl.of_peek h.ok (by rw[h.strip g,h.peek];exact b3),HDecl.of_peek h.ok (by rw[U];exact O),?_,?_⟩
 ·unfold Ln.quote;rw[y,h.trimC,if_neg b4];rfl
 ·unfold Ln.heading;rw[y,h.trimC,if_neg I]
 ·unfold Ln.isHR;simp only[y,h.peek];rw[if_neg]
  rintro (hh|hh|hh)
  ·exact a6 hh
  ·exact a7 hh
  ·exact V hh
 ·rw[h.strip g,h.peek];exact⟨W,E⟩
 ·unfold Ln.trimSp;rw[h.tsGo g];rfl
theorem Ln.has.bullet {l:Ln}{c d:UInt8}{r:List UInt8}(h:l.has c (32::d::r))(hc:c=45\/c=42\/c=43)(hd:cO d=false):l.bullet=some (c,2,{l with i:=l.i+2}):=by
 have y:cO c=false:=by rcases hc with rfl|rfl|rfl<;>decide
 have g:=h.next.next
 unfold Ln.bullet;rw[h.strip y];simp only[h.peek];rw[if_pos hc,h.trimC,if_pos rfl]
 show (match (Ln.trimSp 1 1 true _) with|none=>none|some t2=>_)=_
 rw[h.next.sp1];simp only;rw[g.strip hd];simp only;have:Ln.trimSp 1 1 true ({l with i:=l.i+1+1}:Ln)=none:=by
  unfold Ln.trimSp;rw[g.tsGo hd];rfl
 rw[this]
theorem drop_suffix {u s:List UInt8}(h:u<:+s):s.drop (s.length - u.length)=u:=by
 obtain⟨a,rfl⟩:=h;rw[lA0,lF3,lD4]
theorem jU {b:Nat}{p:PS}{M:List ai}{l:Ln}{c:UInt8}{r:List UInt8}(g:B3 b p M l cg)(h:l.has c r)(hc:yD c)(O:l.isHR=false): ∀j (V:j<newsF.length),j<4->B3 b p M l newsF[j]:=by
 obtain⟨E,U,I⟩:=hc;intro j V W
 match j,W with
 |0,_=>exact λσ w L R g y=>iU (x:= .nilIface) g h.ok (by unfold Ln.quote;rw[h.lead E 2,h.trimC,if_neg U];rfl) y
 |1,_=>exact λσ w L R g y=>l9 g h.ok (by unfold Ln.heading;rw[h.lead E 2,h.trimC,if_neg I]) y
 |2,_=>exact g
 |3,_=>exact λσ w L R g y=>sH g h.ok O y

def Runs (R:Ending->World->Prop)(E:OA->Nat->WP)(b b1:Nat):Prop:=
 ∀w,(∀X:OA->Nat->WP,(∀y g w,ak.bl102 R X y g w->X y g w)->ak.bl102 R X (kE b) b1 w)->E (kE b) b1 w
theorem Runs.top (b b1:Nat):Runs R (ak.l102 R) b b1:=λw H X g=>g _ _ _ (H X g)
theorem Runs.of {X:OA->Nat->WP}(E: ∀y g w,ak.bl102 R X y g w->X y g w)(b b1:Nat):Runs R X b b1:=λw H=>E _ _ _ (H X E)
theorem CD {d3:OA->Nat->WP}{b b1:Nat}{gs:List Bk}{top:Bk}{p:PS}{l l2:Ln}{r r2:List UInt8}{x c d:UInt8}{num n:Nat}{ty:TypeId}{v:Value}(e8:Runs R d3 b b1)(h:DocC σ b (l.at b1::L) (gs++ [top]) .none p w)(hd:p.depth=gs.length)(g3:gs.length<100000)(d0:top.ob.bd= .iface ty v)(e0:ty≠ar)(f7:ty≠aB)(a6:l.has x r)(hc:yD x)(c9:l.isHR=false)(e6:qB l c num n l2)(c5:l2.has d r2)(f0:cO d=false)(b6:p.lineno<1000000000)(f5: ∀(X:OA->Nat->WP),(∀e3 e1 w,ak.bl102 R X e3 e1 w->X e3 e1 w)-> ∀w (p':PS) f g lb it,p'.base=p.base->p'.lineno=p.lineno->p'.depth=p.depth+2->f.isList lb c.toNat (num:Nat) it->f.D= []->ItemOf it g lb n true->g.D= []->f.ob.s=p.lineno->g.ob.s=p.lineno->g.ob.e=p.lineno->DocC σ b (l2.at b1::L) (gs++ [top]++ [f,g]) .none p' w->X (kE b) b1 w):
 ak.bl102 R d3 (kE b) b1 w:=by
 obtain⟨M,E,g2,g4,hs,ht,f3,⟨rfl,rfl⟩,h⟩:=h;have hs:Stk p (gs.map Bk.ob++ [top.ob]) M:=by simpa using hs
 have e5:cO x=false:=hc.1;have c4:=c5.blank f0;have h:Sat σ w (p.at b::M++(l.at b1::(E++(aN (gs++ [top])++L)))):=h.re
 refine jV (l2:=l) 4 (by decide) h (jU (λσ w L R c2 c1=>ly c2 hs (by rw[hd]) (by simp) d0 e0 a6.ok c1) a6 hc c9) a6.ok (a6.blank e5) λw nb e f6 h g0=>?_
 show callE P cm _ f6 w
 refine vM h hs (by rw[hd];simp) (by simp;omega) d0 e0 f7 a6.ok e6 λw p' b5 lb V U O I ib W f4 h=>?_
 have d1:p'.depth=gs.length:=by rw[W];exact hd
 rw[c4,show (!false)=true from rfl] at h;have h:Sat σ w (l.at b1::p'.at b::(b5++(cP lb c.toNat (num:Nat) false none (li V I O U)::(V,cel [kT (kE b)] ah)::l2.at U::iv O lb::jK I ib::gC ib lb n true::((nb,cel newsC e)::(E++(aN (gs++ [top])++L)))))):=h.re
 refine g0 w _ p' (by omega) h λw h=>?_
 refine e8 w λX e9=>?_
 let b4:PS:= {p' with depth:=p'.depth+1}
 have c3:Stk b4 (gs.map Bk.ob++ [top.ob]++ [⟨C1 lb,none,0,0,p.lineno,p.lineno⟩]) b5:=f4.of rfl rfl rfl;have d2:b4.depth=(gs.map Bk.ob++ [top.ob]).length:=by show p'.depth+1=_;rw[d1];simp
 have h:Sat σ w (l.at b1::b4.at b::(b5++(cP lb c.toNat (num:Nat) false none (li V I O U)::(V,cel [kT (kE b)] ah)::l2.at U::iv O lb::jK I ib::gC ib lb n true::((nb,cel newsC e)::(E++(aN (gs++ [top])++L)))))):=h
 have h:Sat σ w (b4.at b::b5++(l.at b1::(cP lb c.toNat (num:Nat) false none (li V I O U)::(V,cel [kT (kE b)] ah)::l2.at U::iv O lb::jK I ib::gC ib lb n true::((nb,cel newsC e)::(E++(aN (gs++ [top])++L)))))):=h.re
 refine jV (l2:=l2) 4 (by decide) h (jU (λσ w L R c2 c1=>ly c2 c3 d2 rfl rfl (by decide) a6.ok c1) a6 hc c9) c5.ok c4 λw b7 b9 g1 h e7=>?_
 show callE P cm _ g1 w
 have h:Sat σ w (b4.at b::b5++(cP lb c.toNat (num:Nat) false none (li V I O U)::(V,cel [kT (kE b)] ah)::l2.at U::iv O lb::jK I ib::gC ib lb n true::(l.at b1::(b7,cel newsC b9)::(nb,cel newsC e)::(E++(aN (gs++ [top])++L))))):=h.re
 refine xy (l:=l) h c3 d2 (by simp;omega) rfl λw y b8 b3 c8 h=>?_
 have f1:y.depth=gs.length+1:=by rw[b3];show p'.depth+1=_;rw[d1]
 have f2:y.lineno=p.lineno:=by rw[b3];show p'.lineno=_;rw[W]
 have h:Sat σ w (l.at b1::y.at b::(b8++(cP lb c.toNat (num:Nat) false (kE ib) .nilFunc::gC ib lb n true::((b7,cel newsC b9)::(nb,cel newsC e)::(E++(aN (gs++ [top])++L)))))):=h.re
 refine e7 w _ y (by omega) h λw h=>?_
 have e4:b4.lineno=p.lineno:=by show p'.lineno=_;rw[W]
 rw[e4] at c8;refine f5 X e9 w {y with depth:=y.depth+1} ⟨⟨C1 lb,none,0,0,p.lineno,p.lineno⟩,[cP lb c.toNat (num:Nat) false (kE ib) .nilFunc],[],[]⟩ ⟨⟨El ib,none,0,0,p.lineno,p.lineno⟩,[gC ib lb n true],[],[]⟩ lb (kE ib)
  (by rw[b3];show p'.base=_;rw[W];rfl) f2 (by show y.depth+1=_;rw[f1,hd];omega) ⟨rfl,rfl⟩ rfl ⟨ib,rfl,rfl,rfl⟩ rfl rfl rfl rfl ?_
 refine⟨b8,E,[],[],?_,?_,?_,⟨rfl,rfl⟩,?_⟩
 ·rw[lG0];have e:(gs++ [top]++ [(⟨⟨C1 lb,none,0,0,p.lineno,p.lineno⟩,[cP lb c.toNat (num:Nat) false (kE ib) .nilFunc],[],[]⟩:Bk),⟨⟨El ib,none,0,0,p.lineno,p.lineno⟩,[gC ib lb n true],[],[]⟩]).map Bk.ob=gs.map Bk.ob++ [top.ob]++ [⟨C1 lb,none,0,0,p.lineno,p.lineno⟩]++ [⟨El ib,none,0,0,p.lineno,p.lineno⟩]:=by simp
  rw[e];exact c8.of rfl rfl rfl
 ·rw[bF,vq]
  show Txts _ ((txF (gs++ [top])++([]++ [])).map TX.t) E
  rw[lG0,lG0];exact ht.of (by show y.tq=_;rw[b3];show p'.tq=_;rw[W]) (by show y.tn=_;rw[b3];show p'.tn=_;rw[W]) (by show y.tc=_;rw[b3];show p'.tc=_;rw[W])
 ·intro g a7;rcases lP0.1 a7 with a7|a7
  ·exact f3 g a7
  ·rcases lW0.1 a7 with rfl|a7
   ·exact⟨Sl.nil 1 aO,by simp,b6,b6⟩
   ·obtain rfl:=lN0.1 a7;exact⟨Sl.nil 1 aO,by simp,b6,b6⟩
 ·rw[bi (gs++ [top]),j8]
  show Sat σ w (_::b8++(E++(aN (gs++ [top])++(([]++([cP lb c.toNat (num:Nat) false (kE ib) .nilFunc]++([]++ [])))++([]++([gC ib lb n true]++([]++ []))))++([]++(l2.at b1::L)))))
  exact h.less [(nb,cel newsC e),(b7,cel newsC b9)]

def noNL (l:List UInt8):Prop:=10 ∉ l/\13 ∉ l
inductive LinesOf:List UInt8->List (List UInt8 × UInt8)->Prop where
 |nil:LinesOf [] []
 |last {l:List UInt8}:l≠ []->noNL l->LinesOf l [(l,0)]
 |cons {l t:List UInt8} {ls:List (List UInt8 × UInt8)}:noNL l->LinesOf t ls->LinesOf (l++10::t) ((l,10)::ls)
theorem LinesOf.no13 {t:List UInt8}{ls:List (List UInt8 × UInt8)}(h:LinesOf t ls):13 ∉ t:=by
 induction h with
 |nil=>simp
 |last g y=>exact y.2
 |cons g y E=>
  simp only[lP0,lW0,not_or];exact⟨g.2,by decide,E⟩
theorem LinesOf.len {t:List UInt8}{ls:List (List UInt8 × UInt8)}(h:LinesOf t ls):ls.length<=t.length:=by
 induction h with
 |nil=>simp
 |last g y=>have:=lZ0.2 g;simp;omega
 |cons g y E=>simp;omega
theorem qo {A B:List UInt8}{c:UInt8}(hc:c ∉ A): ∀(k i:Nat),i+k=A.length-> ∀f,k<f->lg [c] (A++c::B) f i=some A.length
 |0,i,hi,f+1,_=>by
  obtain rfl:i=A.length:=by omega
  simp only[lg,lE0];rw[if_pos (by simp),lD4,if_pos (by simp)]
 |k+1,i,hi,f+1,hf=>by
  simp only[lg,lE0];rw[if_pos (by simp;omega),if_neg]
  ·exact qo hc k (i+1) (by omega) f (by omega)
  ·intro y;have g:i<A.length:=by omega
   rw[lM2 (by omega),lG1 g,lR0,lJ5,List.take_zero] at y;have E:A[i]=c:=(List.cons.inj y).1;exact hc (E▸lO1 g)
theorem Dk {A B:List UInt8}{c:UInt8}(hc:c ∉ A):idx (A++c::B) [c]=some A.length:=by
 unfold idx;exact qo hc A.length 0 (by omega) _ (by simp;omega)
end Go.Proofs.YtendaipfdnhnaaaGreatDoor
