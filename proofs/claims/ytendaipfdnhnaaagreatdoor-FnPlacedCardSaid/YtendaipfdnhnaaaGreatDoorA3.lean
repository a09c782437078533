/- Part 3 of the proof of the law FnPlaced: for every input the law returns true, the inputs read as they did, and memory that was there is as it was; under the conditions of the given row alone. -/
import Derived.Laws.StructEq
import Derived.Test.YtendaipfdnhnaaaGreatDoorA2
set_option linter.all false
open Go.IntKind(i64)
open ByteArray renaming mk→hP
open List renaming replicate→hN
namespace Go.Proofs.YtendaipfdnhnaaaGreatDoor
open Go.Proofs Go.IntWalk Go.RowKit
set_option maxRecDepth 20000
variable {σ:Out} {w:World} {L L':List ai} {R:Ending->World->Prop} {G:List UInt8->List Inl} {op:Opt}

def PS.core (p:PS):PS:= {p with em:=0,lq:=none,ln:=0,lc:=0,corner:=false,bt:= .z}
def PS.core2 (p:PS):PS:= {p with corner:=false,bt:= .z}
theorem PS.core_of2 {p p':PS}(h:p'.core2=p.core2):p'.core=p.core:=by
 have:=congrArg PS.core h
 simpa[PS.core,PS.core2] using this
def IIn (σ:Out)(b:Nat)(p:PS)(ts:List Inl)(opens:List Nat)(H:Option Addr)(y E:Nat)(L:List ai)(w:World):Prop:=
 ∃vs RM EM g,Sl 1 aC p.lq p.ln p.lc vs RM/\InlsAt ts vs EM/\Sl 1 bg H y E (opens.map λ(n:Nat)=>hY n) g/\ts.length<1073741824/\Sat σ w (p.at b::(RM++(EM++(g++L))))
def sub (s:List UInt8)(i j:Nat):List UInt8:=(s.take j).drop i
def kt (s:List UInt8)(em i:Nat)(ts:List Inl):List Inl:=if em<i then ts++ [.plain (sub s em i)] else ts
theorem zl {b e i:Nat}{p:PS}{ts:List Inl}{opens:List Nat}{U:Option Addr}{a7 I:Nat}(h:IIn σ b p ts opens U a7 I L w)(H:p.em=e)(b5:i<=p.s.length)(b7:ts.length<1073741823)(a6: ∀w p',p'.core=p.core->p'.bt=p.bt->p'.em=((max e i:Nat):Int)->IIn σ b p' (kt p.s e i ts) opens U a7 I L w->R (hQ (.tuple #[])) w):
 callE P dm #[kT (kE b),hY i] R w:=by
 obtain⟨vs,RM,EM,g,W,E,O,b3,h⟩:=h;have b6:=E.length
 by_cases hi:e<i
 ·have h:Sat σ w (p.at b::RM++(EM++(g++L))):=h
  refine Ck (L:=EM++(g++L)) h ⟨W,by omega⟩ H hi b5 (by omega) λw p' V nb y b4 h=>?_
  refine a6 w p' (by rw[y];rfl) (by rw[y]) (by rw[y];show ((i:Nat):Int)=_;congr 1;omega) ⟨_,V,EM++ [qF nb (sub p.s e i)],g,b4.1,?_,O,?_,?_⟩
  ·unfold kt;rw[if_pos hi];exact E.append (InlsAt.one ⟨nb,[],_,rfl,rfl⟩)
  ·unfold kt;rw[if_pos hi];simp;omega
  ·have h:Sat σ w (p'.at b::V++(qF nb (sub p.s e i)::(EM++(g++L)))):=h
   exact h.re
 ·refine Cl h (by rw[H];omega) λw h=>?_
  refine a6 w p rfl rfl (by rw[H];congr 1;omega) ⟨vs,RM,EM,g,W,?_,O,?_,h⟩
  ·unfold kt;rw[if_neg hi];exact E
  ·unfold kt;rw[if_neg hi];exact b3
def pM (b:Nat)(p:PS)(s:List UInt8)(i:Nat)(H:Value)(L0:List ai)(E:Option (Inl × Nat × Nat))(Q:PS->Prop):Prop:=
 ∀(σ:Out) (R:Ending->World->Prop) (L:List ai) (w:World),(∀c∈L0,c∈L)->Sat σ w (p.at b::L)->
  (match E with
   |none=> ∀w p' v x I,p'.core2=p.core2->Q p'->Sat σ w (p'.at b::L)->R (hQ (.tuple #[v,hY x,hY I,hV false])) w
   |some (t,st,en)=> ∀w p' v g,p'.core2=p.core2->Q p'->InlAt t v g->Sat σ w (p'.at b::(g++L))->R (hQ (.tuple #[v,hY st,hY en,hV true])) w)->
  cW P (do let d <-Deferred.ofValue H #[kT (kE b),hX (bs s),hY i];invoke d.target d.args) R w
def uS (P:Program)(t:TypeId):Bool:=match P.underlying t with|some (.func _ _ _)=>true|_=>false
theorem nH {P:Program}{t:TypeId}(h:uS P t=true): ∃y rs g,P.underlying t=some (.func y rs g):=by
 unfold uS at h;split at h
 ·rename_i a b c hd;exact⟨_,_,_,hd⟩
 ·cases h
theorem Ef:uS P aX=true:=by kernel_rfl
theorem Gi {x H:Operand}(k:FuncId)(f E:Array Value)(w:World):
 (do eqGuard .neq aX x H (.func (.func k) f E) .nilFunc;binOp .neq aX (.func (.func k) f E) .nilFunc).run P w= .ok (hV true) w:=by
 obtain⟨_,_,_,h⟩:=nH Ef;exact mM h k f E w
theorem Gh {x g:Operand}(w:World):
 (do eqGuard .neq aX x g .nilFunc .nilFunc;binOp .neq aX .nilFunc .nilFunc).run P w= .ok (hV false) w:=by
 obtain⟨_,_,_,h⟩:=nH Ef;exact xV h w
def Inl.isOpen:Inl->Bool
 | .openP _ _=>true
 |_=>false
theorem Inl.ty_open {t:Inl}(h:t.isOpen=false):t.ty≠aQ:=by
 cases t<;>simp only[Inl.isOpen,reduceCtorEq] at h<;>(simp only[Inl.ty];decide)
noncomputable def rowInt:Row P nz bg 1 8:=
 ⟨(P.info? bg).getD default,((P.info? bg).bind (·.zero)).getD default,by kernel_rfl,by kernel_rfl,by kernel_rfl,by kernel_rfl,by kernel_rfl,by kernel_rfl,by decide⟩
theorem fillN (n:Nat):Instr.fill (λi=>some (i*1,1)) ((Array.range (1*1)).map (rowInt.z.cells[· %rowInt.z.cells.size]!)) [(0,hY n)]=some #[hY n]:=by kernel_rfl
theorem zd {X:XI}{b i e st en:Nat}{p:PS}{ts:List Inl}{opens:List Nat}{g:Option Addr}{y E:Nat}{lo:Int}{c1:Bool}{f:FuncId}{b8 b9:Array Value}{t:Inl}{L0:List ai}{Q:PS->Prop}(h:IIn σ b p ts opens g y E L w)(g0: ∀c∈L0,c∈L)(h0:pM b p p.s i (.func (.func f) b8 b9) L0 (some (t,st,en)) Q)(g3:p.em=e)(e6:st<=p.s.length)(hs:p.s.length<1000000000)(h7:ts.length<1000000000)(h4:opens.length<1000000000)(g5: ∀w p' g y E,p'.core=p.core->p'.em=(en:Int)->(∃c5,Q c5/\p'.bt=c5.bt)->IIn σ b p' (kt p.s e st ts++ [t]) (if t.isOpen then opens++ [(kt p.s e st ts).length] else opens) g y E L w->X (kE b) (bs p.s) g y E lo c1 en w):
 av.k1 R X (kE b) (bs p.s) g y E lo c1 i (.func (.func f) b8 b9) w:=by
 refine⟨_,_,Gi f b8 b9 w,ag rfl ?_⟩;obtain⟨vs,RM,EM,H,O,U,a6,b4,h⟩:=h;have e0: ∀c∈L0,c∈RM++(EM++(H++L)):=λc hc=>lB0 _ (lB0 _ (lB0 _ (g0 c hc)))
 refine h0 σ _ (RM++(EM++(H++L))) w e0 h λw I v g4 W f6 ht h=>⟨_,_,_,_,rfl,ag rfl ?_⟩
 have f5:=PS.core_of2 W;have g2:I.lq=p.lq:=by have:=congrArg PS.lq W;exact this
 have g6:I.ln=p.ln:=by have:=congrArg PS.ln W;exact this
 have h1:I.lc=p.lc:=by have:=congrArg PS.lc W;exact this
 have d1:I.s=p.s:=by have:=congrArg PS.s W;exact this
 have g7:I.em=e:=by have:=congrArg PS.em W;rw[<-g3];exact this
 have f0:IIn σ b I ts opens g y E (g4++L) w:=⟨vs,RM,EM,H,by rw[g2,g6,h1];exact O,U,a6,b4,h.re⟩;refine zl f0 g7 (by rw[d1];exact e6) (by omega) λw p2 g1 e9 h5 c3=>⟨rfl,?_⟩
 rw[d1] at c3;obtain⟨pb,cs,a7,V,rfl,rfl⟩:=ht.ptr;have c9:p2.core=p.core:=g1.trans f5;have h6:p2.s=p.s:=by have:=congrArg PS.s c9;exact this
 have d2:(kt p.s e st ts).length<=ts.length+1:=by unfold kt;split<;>simp
 have fin: ∀w g y E b6,b6=(if t.isOpen then opens++ [(kt p.s e st ts).length] else opens)->IIn σ b p2 (kt p.s e st ts) b6 g y E (((pb,cel cs a7)::V)++L) w->
  av.k4 R X (kE b) (bs p.s) g y E lo c1 (gL t.ty pb) en w:=by
  intro w g y E b6 h3 h;obtain⟨vs,RM,EM,H,O,U,a6,b4,h⟩:=h;have d3:=U.length;have f3:=O.1;refine aa ?_;refine⟨_,_,_,h.ldA,?_⟩;have h:Sat σ w (RM++(p2.at b::(EM++(H++(((pb,cel cs a7)::V)++L))))):=h.re
  refine Sat.app1 rowInl O h (v:=gL t.ty pb) rfl (by simp[gL,Value.cells,Value.oneCell']) (Ac _ _) (by omega) (by omega) (by decide) λc4 c2 b7 b3 e7 h=>?_
  have h:Sat σ b7 (p2.at b::(b3++(EM++(H++(((pb,cel cs a7)::V)++L))))):=h.re
  refine aa ?_;refine h.stA 0 λw h=>?_
  let d0:PS:= {p2 with lq:=c4,ln:=p2.ln+1,lc:=c2}
  have h:Sat σ w (d0.at b::(b3++(EM++(H++(((pb,cel cs a7)::V)++L))))):=h
  refine vL h λw h=>⟨rfl,?_⟩
  refine g5 w {d0 with em:=en} g y E (by rw[<-c9];rfl) rfl ⟨I,f6,e9⟩ ⟨_,b3,EM++((pb,cel cs a7)::V),H,e7,?_,by rw[<-h3];exact a6,by simp;omega,h.re⟩;exact U.append (InlsAt.one ht)
 cases b5:t.isOpen with
 |false=>
  refine⟨_,_,w,pS (Inl.ty_open b5) w,ae rfl ?_⟩;exact fin w g y E opens (by rw[b5];rfl) c3
 |true=>
  have e8:t.ty=aQ:=by cases t<;>simp only[Inl.isOpen,reduceCtorEq] at b5;rfl
  have f1:(Instr.typeAssert (gL t.ty pb) aC aQ true).run P w= .ok (.tuple #[kT (kE pb),hV true]) w:=by
   rw[e8];exact oB w
  refine⟨_,_,w,f1,ag rfl ?_⟩;obtain⟨vs,RM,EM,H,O,U,a6,b4,h⟩:=c3;have d3:=U.length;have f3:=O.1;have f4:=a6.1;rw[lS0] at f4;refine aa ?_;refine⟨_,_,_,h.ldA,?_⟩;have h:Sat σ w (H++(p2.at b::(RM++(EM++(((pb,cel cs a7)::V)++L))))):=h.re
  have c8:p2.ln=(kt p.s e st ts).length:=by omega
  rw[c8];generalize h8:(kt p.s e st ts).length=m at fin d2 c8⊢;refine Sat.app1 rowInt a6 h (v:= hY (m:Nat)) rfl (by simp[Value.cells,Value.oneCell']) (fillN m) (by omega) (by omega) (by decide) λc4 c2 b7 b3 f2 h=>?_
  refine fin b7 c4 _ c2 _ (by rw[b5]<;>rfl) ⟨vs,RM,EM,b3,O,U,?_,b4,h.re⟩;rw[if_pos rfl,lV0];exact f2
theorem Gm {X:XI}{b i:Nat}{s:List UInt8}{H:Option Addr}{g E:Nat}{lo:Int}{y:Bool}(hi:i<s.length)(hs:s.length<4611686018427387904)(hc:s[i]≠93\/g=0)(I:X (kE b) (bs s) H g E lo y ((i+1:Nat):Int) w):av.k5 R X (kE b) (bs s) H g E lo y i w:=by
 refine⟨by omega,by simp;omega,?_⟩;refine ae ?_ ?_
 ·rw[da hi 93 93 rfl];rcases hc with hc|hc
  ·simp[hc]
  ·simp[hc]
 ·rw[aN (by omega)];exact I
theorem zc {X:XI}{b i:Nat}{s:List UInt8}{E:Option Addr}{H y:Nat}{lo:Int}{g:Bool}(I:av.k5 R X (kE b) (bs s) E H y lo g i w):
 av.k1 R X (kE b) (bs s) E H y lo g i .nilFunc w:=
 ⟨_,_,Gh w,ae rfl I⟩

def zx (ts ts':List Inl):Prop:=
 ∀(σ:Out) (R:Ending->World->Prop) (U q:Option Addr) (n c:Nat) vs RM EM L w,Sl 1 aC q n c vs RM->InlsAt ts vs EM->n<1073741823->Sat σ w (RM++(EM++L))->
  (∀w O g I E H y,Sl 1 aC O g I E H->g<=n->InlsAt ts' E y->Sat σ w (H++(y++L))->R (hQ (hT O g I)) w)->
  callE P fg #[kT U,hT q 0 c,hT q n c] R w
theorem Ao {b pb:Nat}{p:PS}{o:Opt}{q:Option Addr}{n c:Nat}(y:p.pz=kE pb)(E:p.at b∈L)(H:o.at pb∈L)(g:o.auto=false)(h:Sat σ w L)(I:R (hQ (hT q n c)) w):
 callE P dS #[kT (kE b),hT q n c] R w:=by
 refine eQ.sound ?_;refine aa ⟨kE pb,by rw[<-y];exact Sat.ld h E rfl,aa ?_⟩;simp only[lK0,lN0];exact⟨o.auto,Sat.ld h H rfl,ag (by rw[g];rfl) I⟩
def EI (o:Opt)(ts ts':List Inl):Prop:=
 ∀(σ:Out) (R:Ending->World->Prop) (b pb:Nat) (p:PS) (q:Option Addr) (n c:Nat) (vs:List Value) (RM EM L:List ai) (w:World),p.pz=kE pb->p.at b∈L->o.at pb∈L->Sl 1 aC q n c vs RM->n<1073741824->InlsAt ts vs EM->Sat σ w (RM++(EM++L))->
  (∀w O g I E H y,Sl 1 aC O g I E H->g<1073741824->InlsAt ts' E y->Sat σ w (H++(y++L))->R (hQ (hT O g I)) w)->
  callE P dS #[kT (kE b),hT q n c] R w
theorem Ap {o:Opt}{ts:List Inl}(g:o.auto=false):EI o ts ts:=λσ R b pb p q n c vs RM EM L w y E H I U V h O=>
 Ao y (lB0 _ (lB0 _ E)) (lB0 _ (lB0 _ H)) g h (O w q n c vs RM EM I U V h)
theorem Dz {X:XI}{b pb e:Nat}{p:PS}{o:Opt}{ts ts' ts2:List Inl}{opens:List Nat}{b7:Option Addr}{b9 c2:Nat}{lo:Int}{f2:Bool}(h:IIn σ b p ts opens b7 b9 c2 L w)(f1:p.em=e)(hs:p.s.length<1000000000)(g6:ts.length<1000000000)(d1:p.pz=kE pb)(f3:o.at pb∈L)(e8:zx (kt p.s e p.s.length ts) ts')(d0: ∀t∈ts',∀s,t.plain? =some s->s≠ [])(hb:rh ts'<1073741824)(e9:EI o (kI ts') ts2)(f0: ∀w (p':PS) q n c vs RM EM,p'.core=p.core->Sl 1 aC q n c vs RM->n<1073741824->InlsAt ts2 vs EM->Sat σ w (p'.at b::(RM++(EM++L)))->R (hQ (hT q n c)) w):
 av.bl1 R X (kE b) (bs p.s) b7 b9 c2 lo f2 (p.s.length:Nat) w:=by
 have f5:(kt p.s e p.s.length ts).length<=ts.length+1:=by unfold kt;split<;>simp
 refine ae (by simp) ?_;rw[aI];refine zl h f1 (lZ0 _) (by omega) λw y b4 _ _ h=>⟨rfl,?_⟩
 obtain⟨vs,RM,EM,g,a7,b6,g5,f4,h⟩:=h;have f6:=b6.length;have g4:=a7.1;have g0:=a7.2.1;have e7:y.pz=p.pz:=by have:=congrArg PS.pz b4;exact this
 refine h.tk λw h=>?_
 refine aa (aa ?_);refine⟨_,_,_,h.ldA,?_⟩;refine⟨_,_,_,λw=>qz rowInl.ht rowInl.hi _ _ _ 0 (by omega) w,?_⟩;refine⟨_,_,_,h.ldA,?_⟩;have h:Sat σ w (RM++(EM++(y.at b::(g++L)))):=h.re
 refine e8 σ _ _ y.lq y.ln y.lc vs RM EM _ w a7 b6 (by omega) h λw a6 c4 b3 g3 U O e4 g1 e6 h=>⟨_,_,_,rfl,aa ?_⟩
 have h:Sat σ w (y.at b::(U++(O++(g++L)))):=h.re
 refine h.stA 0 λw h=>?_
 let p2:PS:= {y with lq:=a6,ln:=c4,lc:=b3}
 have h:Sat σ w (p2.at b::(U++(O++(g++L)))):=h
 refine aa ?_;refine⟨_,_,_,h.ldA,?_⟩;have h:Sat σ w (U++(O++(p2.at b::(g++L)))):=h.re
 refine uJ (n:=c4) e4 e6 d0 hb (by omega) h λw c8 d2 H E e2 g2 e0 h=>⟨_,_,_,rfl,aa ?_⟩
 have h:Sat σ w (p2.at b::(H++(E++(g++L)))):=h.re
 refine h.stA 0 λw h=>?_
 let I:PS:= {y with lq:=a6,ln:=c8,lc:=b3}
 have h:Sat σ w (I.at b::(H++(E++(g++L)))):=h
 refine aa ?_;refine⟨_,_,_,h.ldA,?_⟩;have h:Sat σ w (H++(E++(I.at b::(g++L)))):=h.re
 refine e9 σ _ b pb I a6 c8 b3 d2 H E _ w (by rw[<-d1,<-e7]) (.head _) (.tail _ (lB0 _ f3)) e2 (by omega) e0 h λw b8 c5 c9 e5 W V e3 d3 e1 h=>⟨_,_,_,rfl,aa ?_⟩
 have h:Sat σ w (I.at b::(W++(V++(g++L)))):=h.re
 refine h.stA 0 λw h=>?_
 refine aa ?_;refine⟨_,_,_,h.ldA,?_⟩
 let b5:PS:= {y with lq:=b8,ln:=c5,lc:=c9}
 have h:Sat σ w (b5.at b::(W++(V++(g++L)))):=h
 exact f0 w b5 b8 c5 c9 e5 W V (by rw[<-b4];rfl) e3 d3 e1 (h.less g)
theorem Fq {X:XI}{b pb e:Nat}{p:PS}{o:Opt}{ts ts':List Inl}{opens:List Nat}{y:Option Addr}{E g:Nat}{lo:Int}{U:Bool}(h:IIn σ b p ts opens y E g L w)(b3:p.em=e)(hs:p.s.length<1000000000)(a7:ts.length<1000000000)(O:p.pz=kE pb)(W:o.at pb∈L)(H:o.auto=false)(V:zx (kt p.s e p.s.length ts) ts')(I: ∀t∈ts',∀s,t.plain? =some s->s≠ [])(hb:rh ts'<1073741824)(a6: ∀w (p':PS) q n c vs RM EM,p'.core=p.core->Sl 1 aC q n c vs RM->n<1073741824->InlsAt (kI ts') vs EM->Sat σ w (p'.at b::(RM++(EM++L)))->R (hQ (hT q n c)) w):
 av.bl1 R X (kE b) (bs p.s) y E g lo U (p.s.length:Nat) w:=
 Dz h b3 hs a7 O W V I hb (Ap H) a6
theorem BQ {b:Nat}{p:PS}{raw:List UInt8}(h:Sat σ w (p.at b::L))(y:raw.length<4611686018427387904)(g: ∀w,IIn σ b {p with s:=gf cL raw,em:=0,lq:=none,ln:=0,lc:=0} [] [] none 0 0 L w->av.l1 R (kE b) (bs (gf cL raw)) none 0 0 0 false 0 w):
 callE P fw #[kT (kE b),hX (bs raw)] R w:=by
 refine av.sound ?_;refine j4 y ⟨_,rfl,aa ?_⟩;refine h.stA 0 λw h=>?_
 refine aa ?_;refine h.stA 0 λw h=>?_
 refine aa ?_;refine h.stA 0 λw h=>?_
 exact g w ⟨[],[],[],[],Sl.nil _ _,⟨rfl,rfl⟩,Sl.nil _ _,by simp,h⟩
def lH (R:EP)(g:Int)(w:World):Prop:=R (hQ (hV (((((decide (33<=g)) && (decide (g<=47)))||((decide (58<=g)) && (decide (g<=64))))||((decide (91<=g)) && (decide (g<=96))))||((decide (123<=g)) && (decide (g<=126)))))) w
theorem lH.sound {R x0 w}(h:lH R x0 w):callE P lG #[.int .u8 x0] R w:=
 cC Tryz.func155 Tryz.call155 h
def il (R:EP)(y:Int)(w:World):Prop:=br (decide (y<128)) (callE P lG #[.int .u8 (IntKind.u8.wrap y)] (λe E=>∃g,e= hQ (hV g)/\R (hQ (hV g)) E) w) (False)
theorem il.sound {R x0 w}(h:il R x0 w):callE P eC #[.int .i32 x0] R w:=
 aH [(29,.no)] Tryz.func163 Tryz.call163 h
def ik (R:EP)(g:Int)(w:World):Prop:=br (decide (g<128)) (R (hQ (hV ((((g==32)||(g==9))||(g==12))||(g==10)))) w) (False)
theorem ik.sound {R x0 w}(h:ik R x0 w):callE P dF #[.int .i32 x0] R w:=
 aH [(29,.no)] Tryz.func162 Tryz.call162 h
namespace bP
def k11 (R:EP)(E:BA)(y g:Int)(H U:Bool)(w:World):Prop:=0<=y/\y<=g/\g<=(E.size:Int)/\box w #[hX (E.extract (Int.toNat y) (Int.toNat g)),hV H,hV U,hY 0,hY (i64.wrap (g - y))] kx λO I=>R (hQ (.tuple #[.iface aT (kT (kE O)),hY y,hY g,hV true])) I
def k12 (R:EP)(I:BA)(O y:Int)(a6 W:Int)(E H:Bool)(V a7:Bool)(U:Int)(g:Bool)(w:World):Prop:=br g (k11 R I O y E H w) (False)
def k10 (R:EP)(a6:BA)(a7 H:Int)(U O:Int)(I W:Bool)(E V:Bool)(g:Int)(y:Bool)(w:World):Prop:=br y (False) (br (g==42) (k12 R a6 a7 H U O I W E V g true w) (False))
def k9 (R:EP)(U:BA)(V g:Int)(E y I:Int)(H O:Bool)(w:World):Prop:=br (g==39) (False) (k10 R U V E y I H O false false g (g==34) w)
def k8 (R:EP)(O:BA)(U H:Int)(E y g:Int)(I:Bool)(w:World):Prop:=callE P dF #[.int .i32 y] (λe V=>∃W,e= hQ (hV W)/\br (!W) (callE P eC #[.int .i32 y] (λe b5=>∃b3,e= hQ (hV b3)/\br (!b3) (k9 R O U H E y g I true b5) (callE P dF #[.int .i32 g] (λe a6=>∃a7,e= hQ (hV a7)/\br a7 (k9 R O U H E y g I true a6) (callE P eC #[.int .i32 g] (λe b6=>∃b4,e= hQ (hV b4)/\k9 R O U H E y g I b4 b6) a6)) b5)) V) (k9 R O U H E y g I false V)) w
def k7 (R:EP)(I:BA)(O H:Int)(E y g:Int)(w:World):Prop:=callE P dF #[.int .i32 g] (λe b3=>∃a7,e= hQ (hV a7)/\br (!a7) (callE P eC #[.int .i32 g] (λe W=>∃b4,e= hQ (hV b4)/\br (!b4) (k8 R I O H E y g true W) (callE P dF #[.int .i32 y] (λe V=>∃U,e= hQ (hV U)/\br U (k8 R I O H E y g true V) (callE P eC #[.int .i32 y] (λe b5=>∃a6,e= hQ (hV a6)/\k8 R I O H E y g a6 b5) V)) W)) b3) (k8 R I O H E y g false b3)) w
def k6 (R:EP)(y:BA)(O I:Int)(g H:Int)(w:World):Prop:=br (decide (g >= (y.size:Int))) (k7 R y O I g H 32 w) (0<=g/\g<=(y.size:Int)/\callE P dz #[hX (y.extract (Int.toNat g) y.size)] (λe V=>∃E U,e= hQ (.tuple #[.int .i32 E,hY U])/\k7 R y O I g H E V) w)
def k5 (R:EP)(y:BA)(g I H:Int)(U:Bool)(w:World):Prop:=br U (False) (br (g==0) (k6 R y g I H 32 w) (0<=g/\g<=(y.size:Int)/\callE P cR #[hX (y.extract 0 (Int.toNat g))] (λe V=>∃E O,e= hQ (.tuple #[.int .i32 E,hY O])/\k6 R y g I H E V) w))
def k4 (R:EP)(H:BA)(E g y:Int)(w:World):Prop:=k5 R H E g y ((g==126) && (decide ((i64.wrap (y - E))>2))) w
def k3 (R:EP)(U:OA)(E:BA)(H y g:Int)(I:Bool)(w:World):Prop:=br I (aA U λa1=>stV w ((a1.add 6).add 0) (hV true) λO=>k4 R E H y g O) (k4 R E H y g w)
def k2 (R:EP)(I:OA)(H:BA)(E y g:Int)(w:World):Prop:=k3 R I H E y g ((y==126) && ((i64.wrap (g - E)) !=2)) w
def bl1 (R:EP)(Xa:OA->BA->Int->Int->Int->WP)(H:OA)(y:BA)(I E g:Int)(w:World):Prop:=((decide (g<(y.size:Int)))=true->0<=g/\g<(y.size:Int))/\br ((decide (g<(y.size:Int))) && ((bt y g)==E)) (Xa H y I E (i64.wrap (g+1)) w) (k2 R H y I E g w)
def l1 (R:EP)(H:OA)(E:BA)(I y g:Int)(w:World):Prop:=∀X:OA->BA->Int->Int->Int->WP,(∀H E I y g w,bl1 R X H E I y g w->X H E I y g w)->X H E I y g w
def k1 (R:EP)(I:OA)(H:BA)(O E g:Int)(y:Bool)(w:World):Prop:=br y (l1 R I H O E g w) (False)
end bP
def bP (R:EP)(E:OA)(y:BA)(g:Int)(w:World):Prop:=0<=g/\g<(y.size:Int)/\bP.k1 R E y g (bt y g) (i64.wrap (g+1)) ((((bt y g)==42)||((bt y g)==126))||((bt y g)==95)) w
theorem bP.sound {R x0 x1 x2 w}(h:bP R x0 x1 x2 w):callE P dO #[kT x0,hX x1,hY x2] R w:=
 aH [(55,.mk [2,21,47,208,227,640] (bP.k1 R)),(151,.lp [2,21,47,208,227] (bP.bl1 R) λXa=> []),(119,.no),(31,.mk [2,21,47,208,227] (bP.k2 R)),(111,.mk [2,21,47,208,227,1060] (bP.k3 R)),(63,.mk [21,47,208,227] (bP.k4 R)),(223,.mk [21,47,208,227,1280] (bP.k5 R)),(351,.no),(511,.mk [21,47,208,227,249] (bP.k6 R)),(1023,.mk [21,47,208,227,249,269] (bP.k7 R)),(2047,.mk [21,47,208,227,249,269,280] (bP.k8 R)),(4095,.mk [21,47,208,227,249,269,280,300] (bP.k9 R)),(339967,.no),(110591,.mk [21,47,227,249,269,280,300,320,340,2528,2540] (bP.k10 R)),(176127,.no),(1945599,.no),(503807,.mk [21,47,227,249,269,280,300,320,340,2528,2880] (bP.k12 R)),(1028095,.no),(16383,.mk [21,47,227,320,340] (bP.k11 R))] Tryz.func115 Tryz.call115 h
def cS (R:EP)(g:BA)(w:World):Prop:=br ((g.size:Int)==0) (False) (0<=(i64.wrap ((g.size:Int) - 1))/\(i64.wrap ((g.size:Int) - 1))<(g.size:Int)/\br (decide ((IntKind.i32.wrap (bt g (i64.wrap ((g.size:Int) - 1))))<128)) (R (hQ (.tuple #[.int .i32 (IntKind.i32.wrap (bt g (i64.wrap ((g.size:Int) - 1)))),hY 1])) w) (False))
theorem cS.sound {R x0 w}(h:cS R x0 w):callE P cR #[hX x0] R w:=
 aH [(43,.no),(479,.no),(1407,.no),(511,.no)] Tryz.func160 Tryz.call160 h
namespace bq
def k1 (R:EP)(g:BA)(y:Bool)(w:World):Prop:=br y (0<=(0:Int)/\0<(g.size:Int)/\R (hQ (.tuple #[.int .i32 (IntKind.i32.wrap (bt g 0)),hY 1])) w) (False)
end bq
def bq (R:EP)(g:BA)(w:World):Prop:=((!(g.toList==(hP #[]).toList))=true->0<=(0:Int)/\0<(g.size:Int))/\bq.k1 R g ((!(g.toList==(hP #[]).toList)) && (decide ((bt g 0)<128))) w
theorem bq.sound {R x0 w}(h:bq R x0 w):callE P dz #[hX x0] R w:=
 aH [(13,.mk [1,200] (bq.k1 R)),(29,.no)] Tryz.func161 Tryz.call161 h

def spB (c:UInt8):Bool:=c==32||c==9||c==12||c==10
def puB (c:UInt8):Bool:=(33<=c && c<=47)||(58<=c && c<=64)||(91<=c && c<=96)||(123<=c && c<=126)
theorem rt {c:UInt8}(h:c<128):((c.toNat:Nat):Int)<128:=by
 have a:=lJ6.1 h;have e:(128:UInt8).toNat=128:=rfl
 omega
theorem F3 (c d:UInt8):decide (((c.toNat:Nat):Int)<=(d.toNat:Int))=decide (c<=d):=by
 rw[decide_eq_decide,UInt8.le_iff_toNat_le];omega
theorem ly {c:UInt8}(hc:c<128)(g:R (hQ (hV (spB c))) w):callE P dF #[.int .i32 (c.toNat:Int)] R w:=by
 refine ik.sound ?_;unfold ik;rw[show decide (((c.toNat:Nat):Int)<128)=true from decide_eq_true (rt hc)];refine ag rfl ?_;have e:(((((c.toNat:Nat):Int)==32)||(((c.toNat:Nat):Int)==9))||(((c.toNat:Nat):Int)==12)||(((c.toNat:Nat):Int)==10))=spB c:=by
  have a:=my c 32;have b:=my c 9;have d:=my c 12;have f:=my c 10
  unfold spB;rw[<-a,<-b,<-d,<-f];rfl
 rw[e];exact g
theorem tQ {c:UInt8}(E:R (hQ (hV (puB c))) w):callE P lG #[.int .u8 (c.toNat:Int)] R w:=by
 refine lH.sound ?_;have le: ∀d:UInt8,decide (((c.toNat:Nat):Int)<=(d.toNat:Int))=decide (c<=d):=λd=>F3 c d
 have y: ∀d:UInt8,decide ((d.toNat:Int)<=((c.toNat:Nat):Int))=decide (d<=c):=λd=>F3 d c
 have e:(((((decide ((33:Int)<=((c.toNat:Nat):Int))) && (decide (((c.toNat:Nat):Int)<=47)))||((decide ((58:Int)<=((c.toNat:Nat):Int))) && (decide (((c.toNat:Nat):Int)<=64))))||((decide ((91:Int)<=((c.toNat:Nat):Int))) && (decide (((c.toNat:Nat):Int)<=96))))||((decide ((123:Int)<=((c.toNat:Nat):Int))) && (decide (((c.toNat:Nat):Int)<=126))))=puB c:=by
  have a:=y 33;have b:=le 47;have d:=y 58;have f:=le 64;have H:=y 91;have h:=le 96;have i:=y 123;have j:=le 126
  unfold puB;rw[<-a,<-b,<-d,<-f,<-H,<-h,<-i,<-j];rfl
 unfold lH;rw[e];exact E
theorem lW {c:UInt8}(hc:c<128)(g:R (hQ (hV (puB c))) w):callE P eC #[.int .i32 (c.toNat:Int)] R w:=by
 refine il.sound ?_;unfold il;rw[show decide (((c.toNat:Nat):Int)<128)=true from decide_eq_true (rt hc)];refine ag rfl ?_;have e:IntKind.u8.wrap (c.toNat:Int)=(c.toNat:Int):=u8_in _ (by have:=c.toNat_lt;omega)
 rw[e];exact tQ ⟨_,rfl,g⟩
theorem zg (c:UInt8):IntKind.i32.wrap (c.toNat:Int)=(c.toNat:Int):=i32_in _ (by have:=c.toNat_lt;omega)
theorem u7 {c:UInt8}{l:List UInt8}(hc:c<128)(g:R (hQ (.tuple #[.int .i32 (c.toNat:Int),hY 1])) w):callE P dz #[hX (bs (c::l))] R w:=by
 refine bq.sound ?_;have e:bt (bs (c::l)) 0=(c.toNat:Int):=oO (l:=c::l) (i:=0) (by simp)
 refine⟨λ_=>⟨by decide,by simp⟩,?_⟩;refine ag ?_ ⟨by decide,by simp,?_⟩
 ·rw[e,show decide (((c.toNat:Nat):Int)<128)=true from decide_eq_true (rt hc),cX,gi];rfl
 ·rw[e,zg];exact g
theorem u9 {c:UInt8}{l:List UInt8}(E:l.length<4611686018427387904)(hc:c<128)(g:R (hQ (.tuple #[.int .i32 (c.toNat:Int),hY 1])) w):callE P cR #[hX (bs (l++ [c]))] R w:=by
 refine cS.sound ?_;have y:i64.wrap ((((bs (l++ [c])).size:Nat):Int) - 1)=(l.length:Nat):=by
  rw[aI];simp only[lA0,lE0];simp (disch:=omega) only[i64_in];omega
 have e:bt (bs (l++ [c])) (l.length:Nat)=(c.toNat:Int):=by
  rw[oO (by simp)];simp
 refine ae (by simp;omega) ?_;rw[y,e,zg];refine⟨by omega,by simp;omega,?_⟩;rw[show decide (((c.toNat:Nat):Int)<128)=true from decide_eq_true (rt hc)];exact ag rfl g
def zr (s:List UInt8)(i:Nat):UInt8:=if i=0 then 32 else s.getD (i - 1) 32
def zw (s:List UInt8)(j:Nat):UInt8:=s.getD j 32
def uN (a b:UInt8):Bool:= !spB b && (!puB b||spB a||puB a)
def qE (a b:UInt8):Bool:= !spB a && (!puB a||spB b||puB b)
theorem Cj {s:List UInt8}{i j:Nat}{a b:UInt8}(hs:s.length<4611686018427387904)(W:i<j)(a6:j<=s.length)(I:a<128)(hb:b<128)(h:Sat σ w L)(V: ∀w nb,Sat σ w ((nb,cel [hX (bs (sub s i j)),hV (uN a b),hV (qE a b),hY 0,hY ((j - i:Nat):Int)] kx)::L)->R (hQ (.tuple #[gL aT nb,hY i,hY j,hV true])) w):
 bP.k7 R (bs s) (i:Int) 42 (j:Int) (a.toNat:Int) (b.toNat:Int) w:=by
 have O: ∀w,Sat σ w L->bP.k9 R (bs s) (i:Int) 42 (j:Int) (a.toNat:Int) (b.toNat:Int) (uN a b) (qE a b) w:=by
  intro w h;refine ae rfl (ae rfl (ag rfl (ag rfl ⟨by omega,by omega,by simp;omega,?_⟩)));have e:i64.wrap ((j:Int) - (i:Int))=((j - i:Nat):Int):=by simp (disch:=omega) only[i64_in];omega
  rw[e,lC0,lC0,bV];exact Sat.bx h λnb w h=>V w nb h
 have U: ∀w,Sat σ w L->bP.k8 R (bs s) (i:Int) 42 (j:Int) (a.toNat:Int) (b.toNat:Int) (uN a b) w:=by
  intro w h;refine ly I ⟨_,rfl,?_⟩;have g:=O w h;unfold qE at g;cases y:spB a with
  |true=>rw[y] at g;exact ae rfl g
  |false=>
   rw[y] at g;refine ag rfl (lW I ⟨_,rfl,?_⟩);cases H:puB a with
   |false=>rw[H] at g;exact ag rfl g
   |true=>
    rw[H] at g;refine ae rfl (ly hb ⟨_,rfl,?_⟩);cases E:spB b with
    |true=>rw[E] at g;exact ag rfl g
    |false=>rw[E] at g;exact ae rfl (lW hb ⟨_,rfl,by simpa using g⟩)
 refine ly hb ⟨_,rfl,?_⟩;have g:=U w h;unfold uN at g;cases y:spB b with
 |true=>rw[y] at g;exact ae rfl g
 |false=>
  rw[y] at g;refine ag rfl (lW hb ⟨_,rfl,?_⟩);cases H:puB b with
  |false=>rw[H] at g;exact ag rfl g
  |true=>
   rw[H] at g;refine ae rfl (ly I ⟨_,rfl,?_⟩);cases E:spB a with
   |true=>rw[E] at g;exact ag rfl g
   |false=>rw[E] at g;exact ae rfl (lW I ⟨_,rfl,by simpa using g⟩)
theorem vX {q:Option Addr}{s:List UInt8}{i j:Nat}(hs:s.length<4611686018427387904)(I:i<j)(b6:j<=s.length)(U: ∀k,i<=k->k<j->s.getD k 0=42)(b7:j<s.length->s.getD j 0≠42)(y:zr s i<128)(hb:zw s j<128)(h:Sat σ w L)(b4: ∀w nb,Sat σ w ((nb,cel [hX (bs (sub s i j)),hV (uN (zr s i) (zw s j)),hV (qE (zr s i) (zw s j)),hY 0,hY ((j - i:Nat):Int)] kx)::L)->R (hQ (.tuple #[gL aT nb,hY i,hY j,hV true])) w):
 callE P dO #[kT q,hX (bs s),hY i] R w:=by
 refine bP.sound ?_;have E: ∀k (b3:k<s.length),s.getD k 0=s[k]:=by
  intro k b3;rw[lP0,lI0 b3];rfl
 have hc:bt (bs s) (i:Int)=42:=by
  rw[oO (show i<s.length by omega),<-E,U i (by omega) I];rfl
 refine⟨by omega,by simp;omega,?_⟩;rw[hc];refine ag rfl ?_;intro X b5;rw[aN (by omega)];have O: ∀a:UInt8,a<128->a=zr s i-> ∀w,Sat σ w L->bP.k6 R (bs s) (i:Int) 42 (j:Int) (a.toNat:Int) w:=by
  intro a y W w h
  by_cases a7:j<s.length
  ·refine ae (by simp;omega) ⟨by omega,by simp;omega,?_⟩;rw[lC0,aI,nt,lG1 a7];have e:zw s j=s[j]:=by unfold zw;rw[lP0,lI0 a7];rfl
   refine u7 (by rw[<-e];exact hb) ⟨_,_,rfl,?_⟩;rw[<-e];exact Cj hs I b6 y hb h (by rw[W];exact b4)
  ·refine ag (by simp;omega) ?_;have e:zw s j=32:=by unfold zw;rw[lP0,lS1 (by omega)];rfl
   have:=Cj (b:=32) hs I b6 y (by decide) h (by rw[W,<-e];exact b4);exact this
 have fin:bP.k2 R q (bs s) (i:Int) 42 (j:Int) w:=by
  by_cases H:i=0
  ·refine ag (by subst H;rfl) ?_;exact O 32 (by decide) (by unfold zr;rw[if_pos H]) w h
  ·refine ae (by simp;omega) ⟨by omega,by simp;omega,?_⟩;rw[lC0,bV,lL2];have a6:i - 1<s.length:=by omega
   have e:zr s i=s[i - 1]:=by unfold zr;rw[if_neg H,lP0,lI0 a6];rfl
   have c2:s.take i=s.take (i - 1)++ [s[i - 1]]:=by
    have:=lF1 a6
    rwa [show i - 1+1=i by omega] at this
   rw[c2];refine u9 (by rw[lB1];omega) (by rw[<-e];exact y) ⟨_,_,rfl,?_⟩;rw[<-e];exact O _ y rfl w h
 have b9: ∀k m,i<m->m+k=j->X q (bs s) (i:Int) 42 (m:Int) w:=by
  intro k
  induction k with
  |zero=>
   intro m b8 V;obtain rfl:m=j:=V;refine b5 _ _ _ _ _ _ ⟨λh=>⟨by omega,by simpa using h⟩,ae ?_ fin⟩
   by_cases g:m<s.length
   ·have:=b7 g;rw[oO g,<-E m g];have e:(((s.getD m 0).toNat:Nat):Int)=42<->s.getD m 0=42:=by
     have c3:(42:UInt8).toNat=42:=rfl
     constructor
     ·intro h;exact lH6.1 (by omega)
     ·intro h;rw[h];rfl
    rw[lX3];right;rw[beq_eq_false_iff_ne];exact λh=>this (e.1 h)
   ·simp;omega
  |succ k c1=>
   intro m b8 V;have g:m<s.length:=by omega
   refine b5 _ _ _ _ _ _ ⟨λh=>⟨by omega,by simpa using h⟩,ag ?_ ?_⟩
   ·rw[oO g,<-E m g,U m (by omega) (by omega)];simp;omega
   ·rw[aN (by omega)];exact c1 (m+1) (by omega) (by omega)
 exact b9 (j - (i+1)) (i+1) (by omega) (by omega)
theorem og {b i j:Nat}{p:PS}{s:List UInt8}(hs:s.length<4611686018427387904)(E:i<j)(O:j<=s.length)(y: ∀k,i<=k->k<j->s.getD k 0=42)(g:j<s.length->s.getD j 0≠42)(H:zr s i<128)(hb:zw s j<128):
 pM b p s i (.func (.func dO) #[] #[]) [] (some (.emphP (sub s i j) (uN (zr s i) (zw s j)) (qE (zr s i) (zw s j)) 0 ((j - i:Nat):Int),i,j)) (λp'=>p'=p):=by
 intro σ R L w _ h I;refine gK ?_;exact vX hs E O y g H hb h λw nb h=>I w p _ _ rfl rfl ⟨nb,_,rfl,rfl⟩ h.up1
def lj (R:EP)(I:OA)(H:BA)(w:World):Prop:=callE P lg #[kT I,hX H] (λe E=>∃g y,e= hQ (.tuple #[kT g,hV y])/\R (hQ (kT g)) E) w
theorem lj.sound {R x0 x1 w}(h:lj R x0 x1 w):callE P ow #[kT x0,hX x1] R w:=
 cC Tryz.func34 Tryz.call34 h
def mb (R:EP)(c1 b3:Bool)(b5 b9:Bool)(b7 b8:Bool)(b6 c2:Bool)(c3 b4:Bool)(w:World):Prop:=box w #[hV c1,hV b3,hV b5,hV b9,hV b7,hV b8,hV b6,hV c2,hV c3,hV b4] fa λb1 g=>∃I,g.cell? (hZ b1 8)=some (hV I)/\∃U,g.cell? (hZ b1 0)=some (hV U)/\∃O,g.cell? (hZ b1 1)=some (hV O)/\∃W,g.cell? (hZ b1 2)=some (hV W)/\∃a6,g.cell? (hZ b1 3)=some (hV a6)/\∃V,g.cell? (hZ b1 4)=some (hV V)/\∃a7,g.cell? (hZ b1 9)=some (hV a7)/\∃H,g.cell? (hZ b1 5)=some (hV H)/\∃E,g.cell? (hZ b1 6)=some (hV E)/\∃y,g.cell? (hZ b1 7)=some (hV y)/\box g #[hV I,hV U,hV O,hV W,hV a6,hV V,hV a7,hV H,hV E,hV y] vB λc5 c4=>R (hQ (kT (kE c5))) c4
theorem mb.sound {R x0_0 x0_1 x0_2 x0_3 x0_4 x0_5 x0_6 x0_7 x0_8 x0_9 w}(h:mb R x0_0 x0_1 x0_2 x0_3 x0_4 x0_5 x0_6 x0_7 x0_8 x0_9 w):callE P l6 #[.agg #[hV x0_0,hV x0_1,hV x0_2,hV x0_3,hV x0_4,hV x0_5,hV x0_6,hV x0_7,hV x0_8,hV x0_9]] R w:=
 cC Tryz.func33 Tryz.call33 h
namespace bp
def k3 (R:EP)(Xa:OA->BA->Nat->WP)(V:OA)(O:BA)(g:Nat)(U:BA)(I:Int)(w:World):Prop:=∃y,w.cell? (hZ g 3)=some (hY y)/\stV w (hZ g 3) (hY (i64.wrap (y+1))) λH=>callE P gQ #[kT (kE g),.agg #[hY 0,hY 0,hY 0,hX U,.int .u8 I]] (λe E=>e= hQ (.tuple #[])/\Xa V O g E) H
def k4 (R:EP)(H:Nat)(w:World):Prop:=tk w λg=>∃y,g.cell? (hZ H 1)=some (kT y)/\∃E,g.cell? (hZ H 6)=some (hV E)/\R (hQ (.tuple #[kT y,hV E])) g
def k2 (R:EP)(Xa:OA->BA->Nat->WP)(H:OA)(y:BA)(E:Nat)(g V O:Int)(I:Bool)(w:World):Prop:=br I (False) (br (decide (g >= 0)) (tk w λU=>0<=g/\g<=(y.size:Int)/\0<=(i64.wrap (g+1))/\(i64.wrap (g+1))<=(y.size:Int)/\k3 R Xa H (y.extract (Int.toNat (i64.wrap (g+1))) y.size) E (y.extract 0 (Int.toNat g)) 10 U) (k3 R Xa H (hP #[]) E y O w))
def bl3 (R:EP)(U:Nat->OA->Nat->Nat->Int->Int->WP)(E:Nat)(O:OA)(I H:Nat)(g y:Int)(w:World):Prop:=br (decide (y<g)) (False) (k4 R E w)
def l3 (R:EP)(O:Nat)(E:OA)(y g:Nat)(H I:Int)(w:World):Prop:=∀X:Nat->OA->Nat->Nat->Int->Int->WP,(∀O E y g H I w,bl3 R X O E y g H I w->X O E y g H I w)->X O E y g H I w
def bl2 (R:EP)(c5:OA->Nat->OA->Nat->Nat->Int->Int->WP)(b6:OA)(y:Nat)(a6:OA)(V b7:Nat)(b4 g:Int)(w:World):Prop:=br (decide (g<b4)) (0<=g/\g<(V:Int)/\aA a6 λc3=>∃H,w.cell? (c3.add (Int.toNat g*1))=some (kT H)/\aA H λb8=>∃b3,w.cell? (b8.add 3)=some (hX b3)/\callE P fw #[kT (kE y),hX b3] (λe c1=>∃O W U,e= hQ (hT O W U)/\aA H λc4=>stV c1 ((c4.add 2).add 0) (hT O W U) λb9=>c5 b6 y a6 V b7 b4 (i64.wrap (g+1)) b9) w) (aA b6 λc2=>∃b5,w.cell? (c2.add 2)=some (hV b5)/\br b5 (∃I E a7,w.cell? (hZ y 10)=some (hT I E a7)/\l3 R y I E a7 (E:Int) 0 w) (k4 R y w))
def l2 (R:EP)(U:OA)(O:Nat)(E:OA)(g y:Nat)(I H:Int)(w:World):Prop:=∀X:OA->Nat->OA->Nat->Nat->Int->Int->WP,(∀U O E g y I H w,bl2 R X U O E g y I H w->X U O E g y I H w)->X U O E g y I H w
def bl1 (R:EP)(Xa:OA->BA->Nat->WP)(W:OA)(H:BA)(E:Nat)(w:World):Prop:=br (!(H.toList==(hP #[]).toList)) (callE P lA #[hX H,hX (hP #[10])] (λe a7=>∃g,e= hQ (hY g)/\callE P lA #[hX H,hX (hP #[13])] (λe a6=>∃y,e= hQ (hY y)/\k2 R Xa W H E g y 0 ((decide (y >= 0)) && ((decide (g<0))||(decide (y<g)))) a6) a7) w) (callE P bj #[kT (kE E),hY 0] (λe V=>e= hQ (.tuple #[])/\∃O I U,V.cell? (hZ E 11)=some (hT O I U)/\l2 R W E O I U (I:Int) 0 V) w)
def l1 (R:EP)(y:OA)(E:BA)(g:Nat)(w:World):Prop:=∀X:OA->BA->Nat->WP,(∀y E g w,bl1 R X y E g w->X y E g w)->X y E g w
def k1 (R:EP)(U:OA)(O:BA)(g:Nat)(w:World):Prop:=stV w (hZ g 5) (hY (-1)) λI=>box I #[] eO λE H=>callE P bQ #[kT (kE g),.iface ie (kT (kE E))] (λe y=>e= hQ (.tuple #[])/\l1 R U O g y) H
end bp
def bp (R:EP)(E:OA)(y:BA)(w:World):Prop:=box w #[kT none,kT none,.map none,hY 0,hT none 0 0,hY 0,hV false,hX (hP #[]),hY 0,hT none 0 0,hT none 0 0,hT none 0 0,hY 0,hY 0,hY 0,hY 0,hY 0,hY 0,hY 0,hY 0,hY 0,hY 0,hY 0,hY 0,hY 0,hY 0,hY 0,hY 0,hY 0,hY 0,hY 0,hY 0,hY 0,hY 0,hY 0,hY 0,hY 0,hY 0,hY 0,hY 0,hY 0,hY 0,hY 0,hY 0,hY 0,hY 0,hY 0,hY 0,hY 0,hY 0,hY 0,hY 0,hY 0,hY 0,hY 0,hY 0,hY 0,hY 0,hY 0,hY 0,hY 0,hY 0,hY 0,hY 0,hY 0,hY 0,hY 0,hY 0,hY 0,hY 0,hY 0,hY 0,hY 0,hY 0,hY 0,hY 0,hY 0,hY 0,hY 0,hY 0,hY 0,hY 0,hY 0,hY 0,hY 0,hY 0,hY 0,hY 0,hY 0,hY 0,hY 0,hY 0,hV false] gy λb1 O=>stV O (hZ b1 0) (kT E) λH=>callE P iO #[hX y,hX (hP #[0])] (λe I=>∃g,e= hQ (hV g)/\br g (False) (bp.k1 R E y b1 I)) H
theorem bp.sound {R x0 x1 w}(h:bp R x0 x1 w):callE P lg #[kT x0,hX x1] R w:=
 aH [(87,.no),(31,.mk [2,21,126] (bp.k1 R)),(319,.lp [2,21,126] (bp.bl1 R) λXa=> [(829,.mk [2,21,126,167,187,208,680] (bp.k2 R Xa)),(1341,.no),(10045,.dr (rpN [0,3,6,9,12,15,18,21,24])),(253,.mk [2,21,126,141,208] (bp.k3 R Xa))]),(2815,.lp [2,126,1623,1647,1667] (bp.bl2 R) λy=> []),(22015,.lp [126,2023,2047,2067] (bp.bl3 R) λg=> [(9,.no)]),(2047,.mk [126] (bp.k4 R)),(3071,.dr (rpN [0,6,4,12,10,15]))] Tryz.func55 Tryz.call55 h

def Bx (s:List UInt8)(nl:UInt8:=0):Ln:=⟨0,0,0,s,nl⟩
def lR (c:UInt8):Bool:= !(cL c||c==62||c==35||c==95||c==96||c==126||c==61||c==45||c==42)
def nD (c:UInt8):Bool:=lR c && c !=60 && !lX c
theorem Bw {nl:UInt8}{s:List UInt8}(hs:s.length<1000000000):(Bx s nl).ok:=⟨by simp[Bx],by simp[Bx],by simp[Bx];omega,by simp[Bx]⟩
theorem sW {c:UInt8}(hc:lR c=true):cL c=false:=by
 simp only[lR,lM5,lI2] at hc;exact hc.1.1.1.1.1.1.1.1
def CY (c:UInt8):Bool:=decide (48<=c.toNat) && decide (c.toNat<=57)

def PS.coreS (p:PS):PS:=({p with s:= []}:PS).core
def PS0 (pz:Option Addr):PS:=⟨pz,none,none,0,none,0,0,0,false,[],0,none,0,0,none,0,0,none,0,0,BT.z⟩

def optV (o:Opt):Value:= .agg #[hV o.strike,hV o.task,hV o.auto,hV o.http,hV o.table,hV o.dot,hV o.dash,hV o.quote,hV o.ids,hV o.emoji]
theorem Bi {o:Opt}(h:Sat σ w L)(g: ∀w pb,Sat σ w (o.at pb::L)->R (hQ (kT (kE pb))) w):callE P l6 #[optV o] R w:=by
 refine mb.sound ?_;refine Sat.bx h λb w h=>?_
 have ld: ∀(k:Nat) (v:Bool),([hV o.strike,hV o.task,hV o.auto,hV o.http,hV o.table,hV o.dot,hV o.dash,hV o.quote,hV o.ids,hV o.emoji])[k]? =some (hV v)->w.cell? (hZ b k)=some (hV v):=λk v hv=>Sat.ld h (.head _) hv
 refine⟨_,ld 8 _ rfl,_,ld 0 _ rfl,_,ld 1 _ rfl,_,ld 2 _ rfl,_,ld 3 _ rfl,_,ld 4 _ rfl,_,ld 9 _ rfl,_,ld 5 _ rfl,_,ld 6 _ rfl,_,ld 7 _ rfl,?_⟩;refine Sat.bx h λpb w h=>g w pb ?_
 have h:Sat σ w (o.at pb::(b,cel [hV o.strike,hV o.task,hV o.auto,hV o.http,hV o.table,hV o.dot,hV o.dash,hV o.quote,hV o.ids,hV o.emoji] fa)::L):=h
 exact(h.less [(b,cel [hV o.strike,hV o.task,hV o.auto,hV o.http,hV o.table,hV o.dot,hV o.dash,hV o.quote,hV o.ids,hV o.emoji] fa)])

theorem PS.pz_of {p p0:PS}(h:p.coreS=p0.coreS):p.pz=p0.pz:=by have:=congrArg PS.pz h;exact this
theorem PS.coreS_of {p' p p0:PS}(y:p'.core=p.core)(g:p.coreS=p0.coreS):p'.coreS=p0.coreS:=by
 rw[<-g];have:=congrArg (λq:PS=>({q with s:= []}:PS)) y
 exact this
def iI (R:EP)(E:Int)(w:World):Prop:=callE P ir #[hX (hP #[95,42,126,34,39]),.int .u8 E] (λe y=>∃g,e= hQ (hY g)/\R (hQ (hY g)) y) w
theorem iI.sound {R x0 w}(h:iI R x0 w):callE P fy #[.int .u8 x0] R w:=
 cC Tryz.func177 Tryz.call177 h
namespace cw
def k1 (R:EP)(Xa:Nat->Nat->Int->WP)(b7:Nat->Nat->OA->Int->WP)(b6 b9:Nat)(g:OA)(b8:Int)(w:World):Prop:=tk w λy=>aA g λa14=>aA g λb3=>∃W I O,y.cell? a14=some (hT W I O)/\∃a6 U a7,y.cell? b3=some (hT a6 U a7)/\∃E H V,(∀w,(Instr.sliceAt cH (hT W I O) none (some (hY (i64.wrap ((U:Int) - 1)))) none).run P w= .ok (hT E H V) w)/\aA g λb5=>stV y (b5.add 0) (hT E H V) λb4=>b7 b6 b9 g b8 b4
def bl2 (R:EP)(Xa:Nat->Nat->Int->WP)(c2:Nat->Nat->OA->Int->WP)(O E:Nat)(H:OA)(I:Int)(w:World):Prop:=tk w λg=>aA H λa2=>∃c1 a6 b7,g.cell? a2=some (hT c1 a6 b7)/\br (decide ((a6:Int)>0)) (aA H λa4=>aA H λa5=>∃V a7 b9,g.cell? a4=some (hT V a7 b9)/\∃b6 y b8,g.cell? a5=some (hT b6 y b8)/\0<=(i64.wrap ((y:Int) - 1))/\(i64.wrap ((y:Int) - 1))<(a7:Int)/\aA V λa8=>∃b3,g.cell? (a8.add (Int.toNat (i64.wrap ((y:Int) - 1))*1))=some (kT b3)/\aA b3 λa10=>∃W,g.cell? (a10.add 3)=some (hY W)/\∃b5 U b4,g.cell? (hZ E 0)=some (hT b5 U b4)/\br (decide (W >= (U:Int))) (k1 R Xa c2 O E H I g) (Xa O E (i64.wrap (I+1)) g)) (Xa O E (i64.wrap (I+1)) g)
def l2 (R:EP)(Xa:Nat->Nat->Int->WP)(E H:Nat)(y:OA)(g:Int)(w:World):Prop:=∀X:Nat->Nat->OA->Int->WP,(∀E H y g w,bl2 R Xa X E H y g w->X E H y g w)->X E H y g w
def bl1 (R:EP)(Xa:Nat->Nat->Int->WP)(y E:Nat)(g:Int)(w:World):Prop:=br (decide (g<5)) (0<=g/\g<(5:Int)/\l2 R Xa y E (some (((hZ y 0):Addr).add (Int.toNat g*1))) g w) (R (hQ (.tuple #[])) w)
def l1 (R:EP)(y E:Nat)(g:Int)(w:World):Prop:=∀X:Nat->Nat->Int->WP,(∀y E g w,bl1 R X y E g w->X y E g w)->X y E g w
end cw
def cw (R:EP)(g y:Nat)(w:World):Prop:=cw.l1 R g y 0 w
theorem cw.sound {R x0 x1 w}(h:cw R x0 x1 w):callE P fx #[kT (kE x0),kT (kE x1)] R w:=
 aH [(5,.lp [6,26,87] (cw.bl1 R) λXa=> [(179,.lp [6,26,62,87] (cw.bl2 R Xa) λg=> [(4,.dr (rpN [0,3,7,9,12,15,18,21,27,30,25,34,36,39,42,46,48,51,55,58,60,63,66])),(3,.mk [6,26,62,87] (cw.k1 R Xa g)),(5,.dr (rpN [0,3,6,12,15,10,19,21,24,27,30,35]))])])] Tryz.func179 Tryz.call179 h

theorem Sl.trunc {e:TypeId}{q:Option Addr}{n c k:Nat}{vs:List Value}{M:List ai}(h:Sl 1 e q n c vs M)(E:k<=n):Sl 1 e q k c (vs.take k) M:=by
 obtain⟨H,y,⟨rfl,rfl,rfl,rfl⟩|⟨b,sp,rfl,rfl,g⟩⟩:=h
 ·have:k=0:=by omega
  subst this;exact⟨by simp,by omega,.inl ⟨rfl,rfl,rfl,rfl⟩⟩
 ·refine⟨by rw[lB1];omega,by omega,.inr ⟨b,vs.drop k++sp,rfl,?_,?_⟩⟩
  ·rw[<-lD0,lT1]
  ·rw[<-lD0,lT1];exact g
structure STK where
 q:Option Addr
 n:Nat
 c:Nat
 ent:List (Nat × Nat)
def Gx (e:Nat × Nat):Value:= kT (kE e.1)
def STK.ok (s:STK)(M:List ai):Prop:=Sl 1 aT s.q s.n s.c (s.ent.map Gx) M
def StksAt:List STK->List ai->Prop
 | [],M=>M= []
 |s::S,M=> ∃y g,M=y++g/\s.ok y/\StksAt S g
theorem StksAt.split: ∀ {A:List STK} {s:STK} {B:List STK} {M:List ai},StksAt (A++s::B) M-> ∃g y I,M=g++(y++I)/\StksAt A g/\s.ok y/\StksAt B I
 | [],s,B,M,h=>by obtain⟨g,y,rfl,E,H⟩:=h;exact⟨[],g,y,rfl,rfl,E,H⟩
 |a::A,s,B,M,h=>by
  obtain⟨g,y,rfl,E,H⟩:=h;obtain⟨O,U,V,rfl,W,a7,a6⟩:=H.split;exact⟨g++O,U,V,by simp,⟨g,O,rfl,E,W⟩,a7,a6⟩
theorem StksAt.join: ∀ {A:List STK} {s:STK} {B:List STK} {E g y:List ai},StksAt A E->s.ok g->StksAt B y->StksAt (A++s::B) (E++(g++y))
 | [],s,B,E,g,y,h1,h2,h3=>by cases h1;exact⟨g,y,rfl,h2,h3⟩
 |a::A,s,B,E,g,y,h1,h2,h3=>by
  obtain⟨O,H,rfl,U,I⟩:=h1;exact⟨O,H++(g++y),by simp,U,I.join h2 h3⟩
def FQ (s:STK):Value:= hT s.q s.n s.c
def j7 (b:Nat)(S:List STK):ai:=(b,cel (S.map FQ) iS)
def lO (m:Nat)(g:List (Nat × Nat)):List (Nat × Nat):=(g.reverse.dropWhile λe=>decide (m<=e.2)).reverse
theorem AV (m:Nat):lO m []= []:=rfl
theorem tw (m:Nat)(g:List (Nat × Nat))(e:Nat × Nat):lO m (g++ [e])=if m<=e.2 then lO m g else g++ [e]:=by
 unfold lO;rw[lD5];simp only[lP4,lS5,lT0,lR2,lB3];split
 ·rename_i h;rw[if_pos (by simpa using h)]
 ·rename_i h;rw[if_neg (by simpa using h)];simp
def STK.trim (m:Nat)(s:STK):STK:= {s with n:=(lO m s.ent).length,ent:=lO m s.ent}
theorem qx (m:Nat)(g:List (Nat × Nat)):lO m g=g.take (lO m g).length:=by
 have:lO m g<+:g:=by
  unfold lO;have:=lT4 (λe:Nat × Nat=>decide (m<=e.2)) (l:=g.reverse)
  have:=List.reverse_prefix.2 this
  simpa using this
 exact(List.prefix_iff_eq_take.1 this)
def CP (g:List (Nat × Nat))(L:List ai):Prop:= ∀e∈g,∃cs ty,(e.1,cel cs ty)∈L/\cs[3]? =some (hY (e.2:Nat))
noncomputable def rowEP:Row P cH aT 1 8:=
 ⟨(P.info? aT).getD default,((P.info? aT).bind (·.zero)).getD default,by kernel_rfl,by kernel_rfl,by kernel_rfl,by kernel_rfl,by kernel_rfl,by kernel_rfl,by decide⟩
theorem lQ {b j:Nat}{A B:List STK}{s:STK}(h:Sat σ w (j7 b (A++s::B)::L))(g:j=A.length):w.cell? (hZ b j)=some (hT s.q s.n s.c):=by
 refine Sat.ld h (.head _) ?_;rw[lV0,lH0 (by simp;omega)];simp[g,FQ]
theorem vH {b j:Nat}{A B:List STK}{s s':STK}{K:World->Prop}(h:Sat σ w (j7 b (A++s::B)::L))(y:j=A.length)(E: ∀g,Sat σ g (j7 b (A++s'::B)::L)->K g):stV w (hZ b j) (hT s'.q s'.n s'.c) K:=by
 refine Sat.st h (k:=0) rfl (by simp;omega) trivial rfl λw h=>E w ?_
 have e:((A++s::B).map FQ).set j (hT s'.q s'.n s'.c)=(A++s'::B).map FQ:=by
  rw[lV0,lV0,lO1 _ _ (by simp;omega)];simp[y,FQ]
 show Sat σ w ((b,cel ((A++s'::B).map FQ) iS)::L)
 rw[<-e];exact h
theorem zB {H b1 m b7:Nat}{b5:Option Addr}{S:List STK}{g:List ai}(f6:S.length=5)(E:StksAt S g)(f3: ∀s∈S,CP s.ent L)(e8: ∀s∈S,s.ent.length<1000000000)(h:Sat σ w (j7 H S::(b1,cel [hT b5 m b7] ap)::(g++L)))(f5: ∀w d2,StksAt (S.map (STK.trim m)) d2->Sat σ w (j7 H (S.map (STK.trim m))::(b1,cel [hT b5 m b7] ap)::(d2++L))->R (hQ (.tuple #[])) w):
 callE P fx #[kT (kE H),kT (kE b1)] R w:=by
 refine cw.sound ?_;intro X e0;have e9: ∀(B A:List STK) (g:List ai) w,A.length+B.length=5->S=A++B->StksAt (A.map (STK.trim m)++B) g->Sat σ w (j7 H (A.map (STK.trim m)++B)::(b1,cel [hT b5 m b7] ap)::(g++L))->X H b1 (A.length:Nat) w:=by
  intro B
  induction B with
  |nil=>
   intro A g w c9 b4 E h;refine e0 _ _ _ _ (ae (by simp at c9;simp;omega) ?_);have e:S.map (STK.trim m)=A.map (STK.trim m)++ []:=by rw[b4];simp
   rw[<-e] at E h;exact f5 w g E h
  |cons s B e3=>
   intro A g w c9 b4 E h;have hs:s∈S:=by rw[b4];simp
   have U:(A.map (STK.trim m)).length=A.length:=by simp
   simp at c9;refine e0 _ _ _ _ (ag (by simp;omega) ⟨by omega,by omega,?_⟩);simp only[lK0,lC0,lD1,lN0];intro Y d3;have inner: ∀(y:List (Nat × Nat)) (s':STK) (g:List ai) w,s'.ent=y->CP y L->y.length<1000000000->lO m y=lO m s.ent->s'.q=s.q->s'.c=s.c->StksAt (A.map (STK.trim m)++s'::B) g->
    Sat σ w (j7 H (A.map (STK.trim m)++s'::B)::(b1,cel [hT b5 m b7] ap)::(g++L))->Y H b1 (some (hZ H A.length)) (A.length:Nat) w:=by
    intro y
    induction hn:y.length generalizing y with
    |zero=>
     intro s' g w I c4 d0 ht W hc E h;have e5:y= []:=lC1 hn;subst e5;obtain⟨b8,a6,b6,rfl,c3,O,c1⟩:=E.split;have c5:s'.n=0:=by have:=O.1;rw[I] at this;simp at this;omega
     refine d3 _ _ _ _ _ ?_;refine h.tk λw h=>?_
     refine aa ⟨_,_,_,lQ h U.symm,?_⟩;rw[c5];refine ae rfl ?_;have c2:i64.wrap ((A.length:Int)+1)=((A.length+1:Nat):Int):=aN (by omega)
     rw[c2];have a7:s'=STK.trim m s:=by
      unfold STK.trim;rw[<-ht];cases s';simp only at I c5 W hc⊢
      subst I c5 W hc
      try rfl
     have:=e3 (A++ [s]) (b8++(a6++b6)) w (by simp;omega) (by rw[b4];simp) (by rw[lV0,lD0];have:=c3.join O c1;rw[a7] at this;exact this) (by
      rw[lV0,lD0];rw[a7] at h;exact h)
     rw[lA0] at this;exact this
    |succ k e7=>
     intro s' g w I c4 d0 ht W hc E h;obtain⟨V,e,rfl⟩: ∃V e,y=V++ [e]:=by
      rcases lE2 y with rfl|⟨V,e,rfl⟩
      ·simp at hn
      ·exact⟨V,e,by simp⟩
     simp at hn;obtain⟨b8,a6,b6,rfl,c3,O,c1⟩:=E.split;have b9:s'.n=k+1:=by have:=O.1;rw[I] at this;simp at this;omega
     obtain⟨cs,ty,g1,e6⟩:=c4 e (by simp);refine d3 _ _ _ _ _ ?_;refine h.tk λw h=>?_
     refine aa ⟨_,_,_,lQ h U.symm,?_⟩;rw[b9];refine ag (by simp<;>omega) (aa (aa ?_));refine⟨_,_,_,lQ h U.symm,_,_,_,lQ h U.symm,?_⟩;have c2:i64.wrap (((s'.n:Nat):Int) - 1)=(k:Int):=by rw[b9];simp (disch:=omega) only[i64_in];omega
     rw[c2];refine⟨by omega,by omega,?_⟩;have f1:(s'.ent.map Gx)[k]? =some (kT (kE e.1)):=by
      rw[I,lV0,lH0 (by simp;omega)];simp[hn,Gx]
     have f4:Sat σ w (a6++(j7 H (A.map (STK.trim m)++s'::B)::(b1,cel [hT b5 m b7] ap)::(b8++(b6++L)))):=h.re
     refine Sl.loadAt O f4 f1 λg4 g3 e4=>?_
     simp only[lK0,lC0,lD1,lN0];refine⟨_,e4,aa ?_⟩;simp only[lK0,lN0];refine⟨_,Sat.ld h (.tail _ (.tail _ (lB0 _ g1))) e6,?_⟩;refine⟨_,_,_,Sat.ld h (.tail _ (.head _)) rfl,?_⟩;rw[tw] at ht
     by_cases d1:m<=e.2
     ·rw[if_pos d1] at ht;refine ag (by simp;omega) ?_;refine h.tk λw h=>?_
      refine aa (aa ?_);refine⟨_,_,_,lQ h U.symm,_,_,_,lQ h U.symm,?_⟩;rw[c2];have g2:=O.2.1;refine⟨_,_,_,λw=>qz rowEP.ht rowEP.hi _ _ _ k (by omega) w,aa ?_⟩
      let c8:STK:=⟨s'.q,k,s'.c,V⟩
      have f0:c8.ok a6:=by
       have:=O.trunc (k:=k) (by omega);rw[I,lV0,lQ3 (by rw[lS0];omega),lB2 (by rw[lS0];omega)] at this;exact this
      simp only[lK0,lN0,lN1];refine vH (s':=c8) h U.symm λw h=>?_
      exact e7 V hn c8 (b8++(a6++b6)) w rfl (λx f2=>c4 x (by simp[f2])) (by first|omega|(simp at d0;omega)|(have:=hn;omega)) ht W hc (c3.join f0 c1) h
     ·rw[if_neg d1] at ht;refine ae (by simp;omega) ?_;have g0:i64.wrap ((A.length:Int)+1)=((A.length+1:Nat):Int):=aN (by omega)
      rw[g0];have a7:s'=STK.trim m s:=by
       unfold STK.trim;rw[<-ht];cases s';simp only at I b9 W hc⊢
       subst I b9 W hc;simp[hn]
      have:=e3 (A++ [s]) (b8++(a6++b6)) w (by simp;omega) (by rw[b4];simp) (by rw[lV0,lD0];have:=c3.join O c1;rw[a7] at this;exact this) (by
       rw[lV0,lD0];rw[a7] at h;exact h)
      rw[lA0] at this;exact this
   exact inner s.ent s g w rfl (f3 s hs) (e8 s hs) rfl rfl rfl E h
 exact e9 S [] g w (by simpa using f6) rfl E h

def DRow (V:Option Addr)(I:Nat)(y E:List Value)(H:Nat)(a6:Option Addr)(b4 sc:Nat)(U W:List ai):Prop:=
 E.length+H=b4/\y.length<=I/\
 ((∃g junk sp,V=kE g/\a6=kE g/\W= [(g,cel (y++(junk++(E++sp))) aC)]/\y.length+junk.length=H/\H+E.length+sp.length=I)\/
  (∃a7,Sl 1 aC V y.length I y a7/\W=a7++U/\ ∀j v,E[j]? =some v-> ∃g b3 O e,a6=some (hZ g b3)/\(g,cel O e)∈U/\O[b3+H+j]? =some v))
theorem DRow.read {a7 O:Option Addr}{a6 E b3 sc:Nat}{H U:List Value}{v:Value}{W I:List ai}(V:DRow a7 a6 H (v::U) E O b3 sc W I)(h:Sat σ w (I++L)): ∃g y,O=some (hZ g y)/\w.cell? ⟨g,y+E,none⟩=some v:=by
 obtain⟨_,_,⟨g,junk,sp,rfl,rfl,rfl,b6,b8⟩|⟨b9,b7,rfl,hr⟩⟩:=V
 ·refine⟨g,0,rfl,h.ld (.head _) ?_⟩;rw[lH0 (by omega),lH0 (by omega),show 0+E - H.length - junk.length=0 by omega];rfl
 ·obtain⟨g,y,b5,e,rfl,b4,hc⟩:=hr 0 v rfl;exact⟨g,y,rfl,h.ld (lE1 _ (lB0 _ b4)) hc⟩
theorem DRow.consume {U V:Option Addr}{a7 E W sc:Nat}{O I:List Value}{v:Value}{b4 b3:List ai}(c1:DRow U a7 O (v::I) E V W sc b4 b3):DRow U a7 O I (E+1) V W sc b4 b3:=by
 obtain⟨b5,H,⟨g,junk,sp,rfl,rfl,rfl,a6,y⟩|⟨c3,b9,rfl,hr⟩⟩:=c1
 ·refine⟨by simp at b5;omega,H,.inl ⟨g,junk++ [v],sp,rfl,rfl,by simp,by simp;omega,by simp at y;omega⟩⟩
 ·refine⟨by simp at b5;omega,H,.inr ⟨c3,b9,rfl,λj c2 hv=>?_⟩⟩;obtain⟨g,b8,b6,e,a6,y,b7⟩:=hr (j+1) c2 (by simpa using hv);exact⟨g,b8,b6,e,a6,y,by rw[<-b7];congr 1;omega⟩
theorem DRow.take {O W:Option Addr}{I E a6 sc k:Nat}{g y:List Value}{H V:List ai}(b3:DRow O I g y E W a6 sc H V)(U:k<=g.length):DRow O I (g.take k) y E W a6 sc H V:=by
 obtain⟨a7,b8,⟨b5,junk,sp,rfl,rfl,rfl,b9,b6⟩|⟨b7,b4,rfl,hr⟩⟩:=b3
 ·refine⟨a7,by rw[lB1];omega,.inl ⟨b5,g.drop k++junk,sp,rfl,rfl,?_,by rw[lB1,lA0,lL1];omega,b6⟩⟩;have e:g.take k++((g.drop k++junk)++(y++sp))=g++(junk++(y++sp)):=by
   rw[lD0,<-lD0 (g.take k),lT1]
  rw[e]
 ·refine⟨a7,by rw[lB1];omega,.inr ⟨b7,?_,rfl,hr⟩⟩;have:=b4.trunc (k:=k) U;rw[lB1,lG6 U];exact this
theorem DRow.app {ty:TypeId}{b9 c2:Option Addr}{c5 U c3 sc:Nat}{y b5:List Value}{H V:List ai}{t:TypeId}{b:Nat}(e2:DRow b9 c5 y b5 U c2 c3 sc H V)(h:Sat σ w (V++L))(e7:y.length<U)(e6:y.length<1000000000){C:World->Prop}(b6: ∀g X,Sat σ g (X::(V++L))->C g){K:Option Addr->Nat->Nat->World->Prop}(c8: ∀b4 a6 a7 E,DRow b4 a6 (y++ [gL t b]) b5 U c2 c3 sc H a7->Sat σ E (a7++L)->K b4 (y.length+1) a6 E):
 ∃b8 c4 c9 g,(Instr.buildSlice ap 1 #[(0,gL t b)]).run P w= .ok (hT b8 c4 c9) g/\C g/\
  ∃O d2 I d0,(Builtin.append_ #[ap,ap] ty #[hT b9 y.length c5,hT b8 c4 c9]).run P g= .ok (hT O d2 I) d0/\K O d2 I d0:=by
 obtain⟨d3,e5,⟨e0,junk,sp,rfl,rfl,rfl,e1,e3⟩|⟨e4,c1,rfl,hr⟩⟩:=e2
 ·refine CG rowInl h (v:=gL t b) (by simp;omega) (by omega) rfl rfl (Ac t _) (C:=C) (λg X W=>b6 g X W) λE h=>?_
  have d1:junk≠ []:=by intro h;subst h;simp at e1;omega
  rw[uy d1] at h;refine c8 _ _ _ E ⟨d3,by simp;omega,.inl ⟨e0,junk.drop 1,sp,rfl,rfl,rfl,?_,e3⟩⟩ h;have:=lY0.2 d1;simp;omega
 ·have e8:=c1.1;have h:Sat σ w (e4++(H++L)):=h.re;refine Sat.app1S rowInl c1 h (v:=gL t b) rfl (by simp[gL,Value.cells,Value.oneCell']) (Ac _ _) (by omega) (by omega) (by decide) (C:=C) (λg X W=>b6 g X (W.re)) λO I E b7 b3 h=>?_
  refine c8 O I (b7++H) E ⟨d3,?_,.inr ⟨b7,?_,rfl,hr⟩⟩ (h.re)
  ·have:=b3.2.1;simp;omega
  ·rw[lA0];exact b3
theorem DRow.cells {E a7:Option Addr}{W O b3 sc:Nat}{y I:List Value}{V H:List ai}(U:DRow E W y I O a7 b3 sc V H)(b4:0<y.length): ∃(g:Nat) (cs:List Value),E=kE g/\(g,cel cs aC)∈H/\ ∀(j:Nat) (v:Value),y[j]? =some v->cs[j]? =some v:=by
 obtain⟨_,_,⟨g,junk,sp,rfl,rfl,rfl,b5,b6⟩|⟨b7,a6,rfl,hr⟩⟩:=U
 ·exact⟨g,_,rfl,.head _,λj v hv=>by rw[lM0 (lL0.1 hv).1];exact hv⟩
 ·obtain⟨g,sp,rfl,rfl⟩:=a6.rowAt b4;exact⟨g,_,rfl,lE1 _ (.head _),λj v hv=>by rw[lM0 (lL0.1 hv).1];exact hv⟩
theorem DRow.copy {a6 c4:Option Addr}{H b8 c5 sc k:Nat}{g b9:List Value}{c9 E:List ai}(b3:DRow a6 H g b9 b8 c4 c5 sc c9 E)(h:Sat σ w (E++L))(d2:k<g.length)(d3:g.length<1000000000)(c2: ∀v∈g,v.oneCell'=true){C:World->Prop}(c1: ∀b5 X,Sat σ b5 (X++(E++L))->C b5){K:Option Addr->Nat->Nat->World->Prop}(c8: ∀q n c y M,Sl 1 aC q n c (g.drop k) M->Sat σ y (M++(E++L))->K q n c y):
 ∃V r2 U,(∀w,(Instr.sliceAt ap (hT a6 g.length H) (some (hY k)) none none).run P w= .ok (hT V r2 U) w)/\
  ∃q n c y,(Builtin.append_ #[ap,ap] ap #[hT none 0 0,hT V r2 U]).run P w= .ok (hT q n c) y/\C y/\K q n c y:=by
 obtain⟨c3,cs,rfl,d0,hc⟩:=b3.cells (by omega);have d1:=b3.2.1;refine⟨_,_,_,λw=>yU rowInl.ht rowInl.hi _ g.length H k (by omega) w,?_⟩;rw[if_neg (by omega),rowInl.hs];simp only[lI3,lK0,lN0,lD1];have b7:Src P 1 ap (hT (some (hZ c3 k)) (g.length - k) (H - k)) (g.length - k) (g.drop k) w:=by
  refine Src.ofSlice w rowInl.ht _ _ _ _ (by simp) (λj u a7=>?_) (λv hv=>c2 v (lV4 hv));rw[lK0];refine h.ld (lE1 _ d0) (hc _ _ ?_);rw[lJ4] at a7;exact a7
 obtain⟨b6,b4,y,O,hr,I,W,_⟩:=Sat.app rowInl (ty:=ap) (Sl.nil 1 aC) (M:= []) (L:=E++L) h b7 (.inl (by omega)) (by omega) (by omega);rw[lT0] at I;exact⟨b6,_,b4,y,hr,c1 _ O W,c8 b6 _ b4 y O I W⟩

def qt (H I:Bool)(n:Int)(E y:Bool)(g:Int):Bool:=(H && I||E && y) && (Int.tmod (n+g) 3==0 && (Int.tmod n 3 !=0||Int.tmod g 3 !=0))
def Cv (H I:Bool)(n:Int)(E:List Inl)(j:Nat):Bool:=match E[j]? with
 |some (.emphP _ y g _ O)=> !qt H I n y g O
 |_=>false
def zC (m:Nat)(l:List Nat):List Nat:=(l.reverse.dropWhile λe=>decide (m<=e)).reverse
def jL (E:Nat)(g y:Bool)(n:Int):Nat->List UInt8->List Inl->List (List Nat)->List UInt8 × List Inl × List (List Nat)
 |0,t,dst,st=>(t,dst,st)
 |f+1,t,dst,st=>if t= [] then (t,dst,st) else match (st.getD E []).reverse.find? (Cv g y n dst) with
  |none=>(t,dst,st)
  |some j=>match dst[j]? with
   |some (.emphP s O I U V)=>
    let d:=if 2<=t.length/\2<=s.length then 2 else 1
    let s':=s.take (s.length - d)
    let H:=dst.take j++(if s'= [] then [] else [.emphP s' O I U V])
    let x:=if d=2 then Inl.strong (t.take d) (dst.drop (j+1)) else .emph (t.take d) (dst.drop (j+1))
    jL E g y n f (t.drop d) (H++ [x]) (st.map (zC H.length))
   |_=>(t,dst,st)
def sQ (c:UInt8):Nat:=if c=95 then 0 else 1
def dR:List Inl->List (List Nat)->List Inl->List Inl
 |dst,_,[]=>dst
 |dst,st,t::ts=>match t with
  | .openP s _=>dR (dst++ [.plain s]) st ts
  | .emphP s co cc i n=>
   let g:=sQ (s.headD 0)
   let r:=if cc then jL g co cc n s.length s dst st else (s,dst,st)
   if r.1= [] then dR r.2.1 r.2.2 ts
   else if co then dR (r.2.1++ [.emphP r.1 co cc r.2.1.length n]) (r.2.2.set g (r.2.2.getD g []++ [r.2.1.length])) ts
   else dR (r.2.1++ [.plain r.1]) r.2.2 ts
  |t=>dR (dst++ [t]) st ts
def wT (ts:List Inl):List Inl:=dR [] [[],[],[],[],[]] ts
theorem InlsAt.get: ∀ {ts:List Inl} {vs:List Value} {M:List ai} {j:Nat} {t:Inl},InlsAt ts vs M->ts[j]? =some t-> ∃v g,vs[j]? =some v/\InlAt t v g/\ ∀c∈g,c∈M
 | [],vs,M,j,t,h,hj=>by simp at hj
 |t'::ts,vs,M,0,t,h,hj=>by
  obtain⟨v,I,H,V,rfl,rfl,y,E⟩:=h;simp at hj;subst hj
  exact⟨v,H,rfl,y,λc hc=>lE1 _ hc⟩
 |t'::ts,vs,M,j+1,t,h,hj=>by
  obtain⟨v,I,H,V,rfl,rfl,y,E⟩:=h;obtain⟨W,g,O,a6,U⟩:=E.get (by simpa using hj);exact⟨W,g,by simpa using O,a6,λc hc=>lB0 _ (U c hc)⟩
def emC (b:Nat)(t:List UInt8)(y g:Bool)(i n:Int)(e:TypeId):ai:=(b,cel [hX (bs t),hV y,hV g,hY i,hY n] e)
def EntIn (y:List Inl)(g:List Value)(e:Nat × Nat):Prop:= ∃t H E n,y[e.2]? =some (.emphP t H E (e.2:Nat) n)/\g[e.2]? =some (gL aT e.1)/\0<=n/\n<=1000000000/\t≠ []/\t.length<1000000000
def StkIn (y:List Inl)(g:List Value)(S:List STK):Prop:= ∀s∈S,s.ent.length<1000000000/\s.ent.Pairwise (λa b=>a.2<b.2)/\ ∀e∈s.ent,EntIn y g e
def tR (S:List STK):List (List Nat):=S.map λs=>s.ent.map Prod.snd
theorem ru {t:TypeId}{a b:Nat}(h:gL t a=gL t b):a=b:=by
 simp only[gL,Value.iface.injEq,Value.pointer.injEq,lH1,Addr.mk.injEq,true_and,and_true] at h;exact h
theorem EntIn.chunk {E:List Inl}{H:List Value}{U:List ai}{e:Nat × Nat}(b5:InlsAt E H U)(h:EntIn E H e): ∃t g y n ty,E[e.2]? =some (.emphP t g y (e.2:Nat) n)/\emC e.1 t g y (e.2:Nat) n ty∈U/\0<=n/\n<=1000000000/\t≠ []/\t.length<1000000000:=by
 obtain⟨t,g,y,n,O,b3,a6,b4,a7⟩:=h;obtain⟨v,b6,I,W,V⟩:=b5.get O;rw[b3] at I;obtain rfl:=Option.some.inj I;obtain⟨b,ty,hb,rfl⟩:=W;have:=ru hb;subst this;exact⟨t,g,y,n,ty,O,V _ (.head _),a6,b4,a7⟩
theorem yQ {m:Nat}{y:List (Nat × Nat)}(h:y.Pairwise λa b=>a.2<b.2): ∀e∈lO m y,e.2<m:=by
 induction hn:y.length generalizing y with
 |zero=>rw[lC1 hn];intro e g;simp[AV] at g
 |succ k E=>
  rcases lE2 y with rfl|⟨H,x,rfl⟩
  ·simp at hn
  ·rw[lS2] at*
   rw[lM6] at h;rw[tw];split
   ·exact E h.1 (by simp at hn;omega)
   ·rename_i I;intro e g;rcases lO0.1 g with g|g
    ·have:=h.2.2 e g x (by simp);omega
    ·simp at g;subst g;omega
theorem AU {m:Nat}{g:List (Nat × Nat)}{e:Nat × Nat}(h:e∈lO m g):e∈g:=by
 rw[qx] at h;exact lW4 h
theorem AX (m:Nat)(g:List (Nat × Nat)):(lO m g).length<=g.length:=by
 unfold lO;have:=(lO2 (λe:Nat × Nat=>decide (m<=e.2)) (l:=g.reverse)).length_le
 simpa using this
theorem C4 {m:Nat}{g:List (Nat × Nat)}(h:g.Pairwise λa b=>a.2<b.2):(lO m g).Pairwise λa b=>a.2<b.2:=by
 rw[qx];exact h.sublist (List.take_sublist ..)
theorem AW (m:Nat)(g:List (Nat × Nat)):(lO m g).map Prod.snd=zC m (g.map Prod.snd):=by
 unfold lO zC;rw[<-List.map_reverse (l:=g),List.dropWhile_map,List.map_reverse];rfl
theorem BV (m:Nat)(S:List STK):tR (S.map (STK.trim m))=(tR S).map (zC m):=by
 simp[tR,STK.trim,Function.comp_def,AW]
def EM (σ:Out)(b1 a7 pb:Nat)(t:List UInt8)(b5 b6:Bool)(b9 n:Int)(a6:TypeId)(y:List Inl)(S:List STK)(V:List Value)(W:Nat)(b7:Option Addr)(b8 sc:Nat)(b4:List ai)(L:List ai)(w:World):Prop:=
 ∃I H g U E O,InlsAt y g U/\StksAt S E/\S.length=5/\StkIn y g S/\DRow I H g V W b7 b8 sc b4 O/\y.length<1000000000/\
  Sat σ w (emC pb t b5 b6 b9 n a6::j7 a7 S::(b1,cel [hT I g.length H] ap)::(E++(U++(O++L))))
theorem EM.tick {b1 I pb:Nat}{t:List UInt8}{a6 O:Bool}{a7 n:Int}{H:TypeId}{y:List Inl}{S:List STK}{E:List Value}{g:Nat}{U:Option Addr}{V sc:Nat}{W:List ai}(h:EM σ b1 I pb t a6 O a7 n H y S E g U V sc W L w):
 EM σ b1 I pb t a6 O a7 n H y S E g U V sc W L (tick w):=by
 obtain⟨b8,c4,b4,c1,c2,c8,c3,c9,b6,b7,b9,b5,c5⟩:=h;exact⟨b8,c4,b4,c1,c2,c8,c3,c9,b6,b7,b9,b5,c5.tick⟩
theorem EW {pb sb:Nat}{n g:Int}(b7:0<=n/\n<=1000000000)(b6:0<=g/\g<=1000000000)(V:w.cell? (hZ pb 4)=some (hY n))(a6:w.cell? (hZ sb 4)=some (hY g)){A B:Prop}(h:if Int.tmod (n+g) 3==0 && (Int.tmod n 3 !=0||Int.tmod g 3 !=0) then A else B):
 aA (some ((hZ pb 0):Addr)) λb5=>aA (some ((hZ sb 0):Addr)) λa7=> ∃(I:Int),w.cell? (b5.add 4)=some (hY I)/\ ∃(O:Int),w.cell? (a7.add 4)=some (hY O)/\
  (3:Int)≠0/\br ((Int.tmod (i64.wrap (I+O)) 3)==0)
   (aA (some ((hZ pb 0):Addr)) λb3=> ∃(H:Int),w.cell? (b3.add 4)=some (hY H)/\(3:Int)≠0/\br ((Int.tmod H 3) !=0) A
    (aA (some ((hZ sb 0):Addr)) λb4=> ∃(U:Int),w.cell? (b4.add 4)=some (hY U)/\(3:Int)≠0/\br ((Int.tmod U 3) !=0) A B)) B:=by
 refine aa (aa ⟨n,V,g,a6,by decide,?_⟩);rw[i64_in _ (by omega)];cases y:(Int.tmod (n+g) 3==0) with
 |false=>rw[y] at h;exact ae rfl (by simpa using h)
 |true=>
  refine ag rfl (aa ⟨n,V,by decide,?_⟩);cases E:(Int.tmod n 3 !=0) with
  |true=>rw[y,E] at h;exact ag rfl (by simpa using h)
  |false=>
   refine ae rfl (aa ⟨g,a6,by decide,?_⟩);cases W:(Int.tmod g 3 !=0) with
   |true=>rw[y,E,W] at h;exact ag rfl (by simpa using h)
   |false=>rw[y,E,W] at h;exact ae rfl (by simpa using h)
theorem F2 {sb:Nat}{y g:Bool}(U:w.cell? (hZ sb 1)=some (hV y))(V:w.cell? (hZ sb 2)=some (hV g)){T B:Prop}(h:if y && g then T else B):
 aA (some ((hZ sb 0):Addr)) λO=> ∃(H:Bool),w.cell? (O.add 1)=some (hV H)/\br H (aA (some ((hZ sb 0):Addr)) λI=> ∃(E:Bool),w.cell? (I.add 2)=some (hV E)/\br E T B) B:=by
 refine aa ⟨y,U,?_⟩;cases y with
 |false=>exact ae rfl (by simpa using h)
 |true=>
  refine ag rfl (aa ⟨g,V,?_⟩);cases g with
  |false=>exact ae rfl (by simpa using h)
  |true=>exact ag rfl (by simpa using h)

theorem AY {w:World}{K A:World->Prop}(y:A (tick w))(h: ∀g,A g->K g):tk w K:=h _ y
abbrev cl1:Value:= .func (.func fy) #[] #[]
abbrev cl2 (g b1:Nat):Value:= .func (.func fx) #[] #[kT (kE g),kT (kE b1)]
abbrev XA:=Option Addr->Nat->Nat->Nat->Nat->Value->Value->Int->World->Prop
abbrev XB:=Option Addr->Nat->Nat->Nat->Nat->Value->Value->Int->Option Addr->Option Addr->World->Prop
abbrev XC:=Option Addr->Nat->Nat->Nat->Nat->Value->Value->Int->Option Addr->Option Addr->Int->World->Prop
def FT (c:UInt8):Prop:=c=42\/c=95
theorem bt0 {t:List UInt8}{c:UInt8}(h:t.head? =some c):bt (bs t) 0=(c.toNat:Int):=by
 cases t with
 |nil=>simp at h
 |cons x t=>simp at h;subst h;rfl
theorem Fw {t:List UInt8}{c:UInt8}(h:t.head? =some c):t≠ []:=by intro g;subst g;simp at h
theorem kP {t:List UInt8}{c:UInt8}(h:t.head? =some c):0<((bs t).size:Int):=by
 cases t with
 |nil=>simp at h
 |cons x t=>simp
def dOf (t s:List UInt8):Nat:=if 2<=t.length/\2<=s.length then 2 else 1
theorem Bc {Xa:XA}{a6:XB}{O:XC}{b1 g pb H d2:Nat}{t:List UInt8}{c:UInt8}{U V:Bool}{a7 n I:Int}{b9:TypeId}{W:List Inl}{S:List STK}{s:STK}{d3:List Value}{E:Option Addr}{y sc:Nat}{e1:List ai}(h:EM σ b1 g pb t U V a7 n b9 W S d3 d2 E y sc e1 L w)(b6:t.head? =some c)(hc:FT c)(j0:0<=n/\n<=1000000000)(hs:S[H]? =some s)(m2: ∀m3 w,aw.bl3 R Xa a6 O E y sc b1 g cl1 (cl2 g b1) I (kE pb) (some (hZ g H)) m3 w->O E y sc b1 g cl1 (cl2 g b1) I (kE pb) (some (hZ g H)) m3 w)(n1:(∀e∈s.ent,Cv U V n W e.2=false)-> ∀w,EM σ b1 g pb t U V a7 n b9 W S d3 d2 E y sc e1 L w->aw.k1 R Xa E y sc b1 g cl1 (cl2 g b1) I (kE pb) w)(m8: ∀b8 e b7 st d1 d0 c3,s.ent=b8++e::b7->Cv U V n W e.2=true->(∀x∈b7,Cv U V n W x.2=false)->W[e.2]? =some (.emphP st d1 d0 (e.2:Nat) c3)-> ∀w,EM σ b1 g pb t U V a7 n b9 W S d3 d2 E y sc e1 L w->
  aw.k6 R Xa a6 O E y sc b1 g cl1 (cl2 g b1) I (kE pb) (some (hZ g H)) (kE e.1) (dOf t st:Nat) w):
 O E y sc b1 g cl1 (cl2 g b1) I (kE pb) (some (hZ g H)) (i64.wrap ((s.n:Int) - 1)) w:=by
 have f3:s∈S:=lR1 hs;have q1:s.n=s.ent.length/\s.ent.length<1000000000:=by
  obtain⟨f4,g3,f2,g2,r1,f5,m6,j1,q4,i3,q8,q3,b5⟩:=h;obtain⟨A,B,rfl⟩:=lS3 f3;obtain⟨f6,g0,g1,rfl,_,i0,_⟩:=j1.split;have:=i0.1;simp at this;exact⟨by omega,(i3 s f3).1⟩
 have q2: ∀(b8 b7:List (Nat × Nat)) w,s.ent=b8++b7->(∀x∈b7,Cv U V n W x.2=false)->EM σ b1 g pb t U V a7 n b9 W S d3 d2 E y sc e1 L w->
  O E y sc b1 g cl1 (cl2 g b1) I (kE pb) (some (hZ g H)) ((b8.length:Int) - 1) w:=by
  intro b8
  induction hk:b8.length generalizing b8 with
  |zero=>
   intro b7 w e0 f1 h;have:b8= []:=lC1 hk;subst this;refine m2 _ _ (ae (by simp) ?_);exact n1 (by rw[e0];simpa using f1) w h
  |succ k r3=>
   intro b7 w e0 f1 h;obtain⟨k0,e,rfl⟩: ∃g6 e,b8=g6++ [e]:=by
    rcases lE2 b8 with rfl|⟨g6,e,rfl⟩
    ·simp at hk
    ·exact⟨g6,e,by simp⟩
   simp at hk;have i1:(((k+1:Nat):Int) - 1)=(k:Int):=by omega
   rw[i1];have r5:s.ent.length=k+1+b7.length:=by rw[e0];simp;omega
   have o2:e∈s.ent:=by rw[e0];simp
   have n3:Cv U V n W e.2=false-> ∀w,EM σ b1 g pb t U V a7 n b9 W S d3 d2 E y sc e1 L w->O E y sc b1 g cl1 (cl2 g b1) I (kE pb) (some (hZ g H)) (i64.wrap ((k:Int) - 1)) w:=by
    intro o0 w h;rw[i64_in _ (by omega)];have:=r3 k0 hk (e::b7) w (by rw[e0];simp) (λx i1=>(lX0.1 i1).elim (λh=>h▸o0) (f1 x)) h
    rw[<-hk] at this⊢;exact this
   have e2:=h;obtain⟨f4,g3,f2,g2,r1,f5,m6,j1,q4,i3,q8,q3,b5⟩:=h;obtain⟨st,d1,d0,c3,ty,hd,l5,g7,g5,r4⟩:=((i3 s f3).2.2 e o2).chunk m6;have f0:Cv U V n W e.2= !qt U V n d1 d0 c3:=by unfold Cv;rw[hd]
   refine m2 _ _ (ag (by simp) (aa ?_));have o4:w.cell? (hZ g H)=some (hT s.q s.n s.c):=by
    refine Sat.ld b5 (.tail _ (.head _)) ?_;rw[lF2,hs];rfl
   refine⟨_,_,_,o4,by omega,by omega,?_⟩;obtain⟨A,B,p5⟩:=lS3 f3;have m1:=j1;rw[p5] at m1;obtain⟨f6,g0,g1,rfl,_,i0,_⟩:=m1.split;have q0:(s.ent.map Gx)[k]? =some (kT (kE e.1)):=by
    rw[e0];simp[Gx,hk]
   have q5:Sat σ w (g0++(emC pb t U V a7 n b9::j7 g S::(b1,cel [hT f4 f2.length g3] ap)::(f6++(g1++(g2++(f5++L)))))):=b5.re
   refine Sl.loadAt i0 q5 q0 λr7 r6 n0=>?_
   simp only[lK0,lC0,lD1,lN0];refine⟨_,n0,?_⟩;refine AY (A:=λw=>EM σ b1 g pb t U V a7 n b9 W S d3 d2 E y sc e1 L w/\Sat σ w (emC pb t U V a7 n b9::j7 g S::(b1,cel [hT f4 f2.length g3] ap)::((f6++(g0++g1))++(g2++(f5++L))))) ⟨e2.tick,b5.tick⟩ λw i8=>?_
   obtain⟨e2,b5⟩:=i8;have b4: ∀(k:Nat) (v:Value),([hX (bs t),hV U,hV V,hY a7,hY n])[k]? =some v->w.cell? (hZ pb k)=some v:=λk v hv=>Sat.ld b5 (.head _) hv
   have c1: ∀(k:Nat) (v:Value),([hX (bs st),hV d1,hV d0,hY (e.2:Nat),hY c3])[k]? =some v->w.cell? (hZ e.1 k)=some v:=λk v hv=>
    Sat.ld b5 (.tail _ (.tail _ (.tail _ (lB0 _ (lE1 _ l5))))) hv
   have k3:Cv U V n W e.2=true->aw.k3 R Xa a6 O E y sc b1 g cl1 (cl2 g b1) I (kE pb) (some (hZ g H)) (k:Int) (kE e.1) w:=by
    intro n2;have c2:=λw h=>m8 k0 e b7 st d1 d0 c3 (by rw[e0];simp) n2 f1 hd w h
    refine AY (A:=λw=>EM σ b1 g pb t U V a7 n b9 W S d3 d2 E y sc e1 L w/\Sat σ w (emC pb t U V a7 n b9::j7 g S::(b1,cel [hT f4 f2.length g3] ap)::((f6++(g0++g1))++(g2++(f5++L))))) ⟨e2.tick,b5.tick⟩ λw i8=>?_
    obtain⟨e2,b5⟩:=i8;have b4: ∀(k:Nat) (v:Value),([hX (bs t),hV U,hV V,hY a7,hY n])[k]? =some v->w.cell? (hZ pb k)=some v:=λk v hv=>Sat.ld b5 (.head _) hv
    have c1: ∀(k:Nat) (v:Value),([hX (bs st),hV d1,hV d0,hY (e.2:Nat),hY c3])[k]? =some v->w.cell? (hZ e.1 k)=some v:=λk v hv=>
     Sat.ld b5 (.tail _ (.tail _ (.tail _ (lB0 _ (lE1 _ l5))))) hv
    refine aa ⟨_,b4 0 _ rfl,by omega,kP b6,?_⟩;rw[bt0 b6];refine ae (by rcases hc with rfl|rfl<;>rfl) ?_;refine aa ⟨_,b4 0 _ rfl,by omega,kP b6,?_⟩;rw[bt0 b6];refine ae (by rcases hc with rfl|rfl<;>rfl) ?_;refine aa ⟨_,b4 0 _ rfl,by omega,kP b6,?_⟩;rw[bt0 b6];refine ae (by rcases hc with rfl|rfl<;>rfl) ?_;refine aa ⟨_,b4 0 _ rfl,?_⟩;rw[aI];have c2:=c2 w e2;unfold dOf at c2
    by_cases p1:2<=t.length
    ·refine ag (by simp;omega) (aa ⟨_,c1 0 _ rfl,?_⟩);rw[aI]
     by_cases p3:2<=st.length
     ·rw[if_pos ⟨p1,p3⟩] at c2;exact ag (by simp;omega) c2
     ·rw[if_neg (by omega)] at c2;exact ae (by simp;omega) c2
    ·rw[if_neg (by omega)] at c2;exact ae (by simp;omega) c2
   have body:aA (some ((hZ pb 0):Addr)) λo3=> ∃(m5:Bool),w.cell? (o3.add 1)=some (hV m5)/\br m5
    (aA (some ((hZ pb 0):Addr)) λp4=> ∃(m4:Bool),w.cell? (p4.add 2)=some (hV m4)/\br m4
     (aA (some ((hZ pb 0):Addr)) λe8=>aA (some ((hZ e.1 0):Addr)) λe3=> ∃(c5:Int),w.cell? (e8.add 4)=some (hY c5)/\ ∃(c9:Int),w.cell? (e3.add 4)=some (hY c9)/\
      (3:Int)≠0/\br ((Int.tmod (i64.wrap (c5+c9)) 3)==0)
       (aA (some ((hZ pb 0):Addr)) λe5=> ∃(c8:Int),w.cell? (e5.add 4)=some (hY c8)/\(3:Int)≠0/\br ((Int.tmod c8 3) !=0) (O E y sc b1 g cl1 (cl2 g b1) I (kE pb) (some (hZ g H)) (i64.wrap ((k:Int) - 1)) w)
        (aA (some ((hZ e.1 0):Addr)) λe6=> ∃(c4:Int),w.cell? (e6.add 4)=some (hY c4)/\(3:Int)≠0/\br ((Int.tmod c4 3) !=0) (O E y sc b1 g cl1 (cl2 g b1) I (kE pb) (some (hZ g H)) (i64.wrap ((k:Int) - 1)) w)
         (aw.k3 R Xa a6 O E y sc b1 g cl1 (cl2 g b1) I (kE pb) (some (hZ g H)) (k:Int) (kE e.1) w)))
       (aw.k3 R Xa a6 O E y sc b1 g cl1 (cl2 g b1) I (kE pb) (some (hZ g H)) (k:Int) (kE e.1) w))
     (aA (some ((hZ e.1 0):Addr)) λg4=> ∃(e9:Bool),w.cell? (g4.add 1)=some (hV e9)/\br e9 (aA (some ((hZ e.1 0):Addr)) λh9=> ∃(e4:Bool),w.cell? (h9.add 2)=some (hV e4)/\br e4
      (aA (some ((hZ pb 0):Addr)) λe8=>aA (some ((hZ e.1 0):Addr)) λe3=> ∃(c5:Int),w.cell? (e8.add 4)=some (hY c5)/\ ∃(c9:Int),w.cell? (e3.add 4)=some (hY c9)/\
       (3:Int)≠0/\br ((Int.tmod (i64.wrap (c5+c9)) 3)==0)
        (aA (some ((hZ pb 0):Addr)) λe5=> ∃(c8:Int),w.cell? (e5.add 4)=some (hY c8)/\(3:Int)≠0/\br ((Int.tmod c8 3) !=0) (O E y sc b1 g cl1 (cl2 g b1) I (kE pb) (some (hZ g H)) (i64.wrap ((k:Int) - 1)) w)
         (aA (some ((hZ e.1 0):Addr)) λe6=> ∃(c4:Int),w.cell? (e6.add 4)=some (hY c4)/\(3:Int)≠0/\br ((Int.tmod c4 3) !=0) (O E y sc b1 g cl1 (cl2 g b1) I (kE pb) (some (hZ g H)) (i64.wrap ((k:Int) - 1)) w)
          (aw.k3 R Xa a6 O E y sc b1 g cl1 (cl2 g b1) I (kE pb) (some (hZ g H)) (k:Int) (kE e.1) w)))
        (aw.k3 R Xa a6 O E y sc b1 g cl1 (cl2 g b1) I (kE pb) (some (hZ g H)) (k:Int) (kE e.1) w))
      (aw.k3 R Xa a6 O E y sc b1 g cl1 (cl2 g b1) I (kE pb) (some (hZ g H)) (k:Int) (kE e.1) w))
      (aw.k3 R Xa a6 O E y sc b1 g cl1 (cl2 g b1) I (kE pb) (some (hZ g H)) (k:Int) (kE e.1) w)))
    (aA (some ((hZ e.1 0):Addr)) λg4=> ∃(e9:Bool),w.cell? (g4.add 1)=some (hV e9)/\br e9 (aA (some ((hZ e.1 0):Addr)) λh9=> ∃(e4:Bool),w.cell? (h9.add 2)=some (hV e4)/\br e4
     (aA (some ((hZ pb 0):Addr)) λe8=>aA (some ((hZ e.1 0):Addr)) λe3=> ∃(c5:Int),w.cell? (e8.add 4)=some (hY c5)/\ ∃(c9:Int),w.cell? (e3.add 4)=some (hY c9)/\
      (3:Int)≠0/\br ((Int.tmod (i64.wrap (c5+c9)) 3)==0)
       (aA (some ((hZ pb 0):Addr)) λe5=> ∃(c8:Int),w.cell? (e5.add 4)=some (hY c8)/\(3:Int)≠0/\br ((Int.tmod c8 3) !=0) (O E y sc b1 g cl1 (cl2 g b1) I (kE pb) (some (hZ g H)) (i64.wrap ((k:Int) - 1)) w)
        (aA (some ((hZ e.1 0):Addr)) λe6=> ∃(c4:Int),w.cell? (e6.add 4)=some (hY c4)/\(3:Int)≠0/\br ((Int.tmod c4 3) !=0) (O E y sc b1 g cl1 (cl2 g b1) I (kE pb) (some (hZ g H)) (i64.wrap ((k:Int) - 1)) w)
         (aw.k3 R Xa a6 O E y sc b1 g cl1 (cl2 g b1) I (kE pb) (some (hZ g H)) (k:Int) (kE e.1) w)))
       (aw.k3 R Xa a6 O E y sc b1 g cl1 (cl2 g b1) I (kE pb) (some (hZ g H)) (k:Int) (kE e.1) w))
     (aw.k3 R Xa a6 O E y sc b1 g cl1 (cl2 g b1) I (kE pb) (some (hZ g H)) (k:Int) (kE e.1) w))
     (aw.k3 R Xa a6 O E y sc b1 g cl1 (cl2 g b1) I (kE pb) (some (hZ g H)) (k:Int) (kE e.1) w)):=by
    have i2:(U && V||d1 && d0)=true->if Int.tmod (n+c3) 3==0 && (Int.tmod n 3 !=0||Int.tmod c3 3 !=0) then (O E y sc b1 g cl1 (cl2 g b1) I (kE pb) (some (hZ g H)) (i64.wrap ((k:Int) - 1)) w)
     else (aw.k3 R Xa a6 O E y sc b1 g cl1 (cl2 g b1) I (kE pb) (some (hZ g H)) (k:Int) (kE e.1) w):=by
     intro e7;split
     ·rename_i hb;exact n3 (by rw[f0];unfold qt;rw[e7,hb];rfl) w e2
     ·rename_i hb;exact k3 (by rw[f0];unfold qt;rw[e7];simp only[lT5] at hb;rw[hb];rfl)
    refine aa ⟨U,b4 1 _ rfl,?_⟩;cases h8:U with
    |false=>exact ae rfl (F2 (c1 1 _ rfl) (c1 2 _ rfl) (by
     split
     ·rename_i hb;exact EW j0 ⟨g7,g5⟩ (b4 4 _ rfl) (c1 4 _ rfl) (i2 (by rw[hb];simp))
     ·rename_i hb;simp only[lT5] at hb;exact k3 (by rw[f0];unfold qt;rw[h8,hb];rfl)))
    |true=>
     refine ag rfl (aa ⟨V,b4 2 _ rfl,?_⟩);cases e7:V with
     |false=>exact ae rfl (F2 (c1 1 _ rfl) (c1 2 _ rfl) (by
      split
      ·rename_i hb;exact EW j0 ⟨g7,g5⟩ (b4 4 _ rfl) (c1 4 _ rfl) (i2 (by rw[hb];simp))
      ·rename_i hb;simp only[lT5] at hb;exact k3 (by rw[f0];unfold qt;rw[h8,e7,hb];rfl)))
     |true=>exact ag rfl (EW j0 ⟨g7,g5⟩ (b4 4 _ rfl) (c1 4 _ rfl) (i2 (by rw[h8,e7];rfl)))
   refine aa ⟨_,b4 0 _ rfl,by omega,kP b6,?_⟩;rw[bt0 b6];rcases hc with rfl|rfl
   ·exact ag rfl body
   ·refine ae rfl (aa ⟨_,b4 0 _ rfl,by omega,kP b6,?_⟩);rw[bt0 b6];exact ag rfl body
 rw[q1.1,i64_in _ (by omega)];exact q2 s.ent [] w (by simp) (by simp) h

def rl (st:List UInt8)(d:Nat):List UInt8:=st.take (st.length - d)
def xp (E:List Inl)(j:Nat)(s':List UInt8)(y g:Bool)(H I:Int):List Inl:=E.take j++(if s'= [] then [] else [.emphP s' y g H I])
def xOf (t:List UInt8)(d:Nat)(inner:List Inl):Inl:=if d=2 then Inl.strong (t.take d) inner else .emph (t.take d) inner
theorem ns (s:List UInt8):((bs s).toList==(hP #[]).toList)=decide (s= []):=by
 rw[cX,gi,lY4];simp
theorem InlAt.oneCell {t:Inl}{v:Value}{M:List ai}(h:InlAt t v M):v.oneCell'=true:=by
 obtain⟨b,_,_,_,rfl,_⟩:=h.ptr;rfl
theorem InlsAt.oneCell {ts:List Inl}{vs:List Value}{M:List ai}(h:InlsAt ts vs M): ∀v∈vs,v.oneCell'=true:=by
 intro v hv;obtain⟨j,y⟩:=lI6.1 hv;have O:=h.length;have H:=(lL0.1 y).1;obtain⟨U,I,g,E,_⟩:=h.get (lI0 (show j<ts.length by omega));rw[y] at g;obtain rfl:=Option.some.inj g;exact E.oneCell
theorem E2 {Xa:XA}{e6:XB}{o3:XC}{b1 g pb e0 f4:Nat}{t st:List UInt8}{c:UInt8}{W a7 H E:Bool}{V n e5 y:Int}{a6:TypeId}{b4:List Inl}{S:List STK}{s:STK}{j1:List Value}{d0:Option Addr}{c9 sc:Nat}{m2:List ai}{e:Nat × Nat}(h:EM σ b1 g pb t W a7 V n a6 b4 S j1 f4 d0 c9 sc m2 L w)(h8:t.head? =some c)(hc:FT c)(hs:S[e0]? =some s)(r7:e∈s.ent)(hd:b4[e.2]? =some (.emphP st H E (e.2:Nat) y))(v4:e.2+1<b4.length)(u1:b4.length<=f4)(v7:t.length<1000000000)(p1: ∀w,EM σ b1 g pb (t.drop (dOf t st)) W a7 V n a6 (xp b4 e.2 (rl st (dOf t st)) H E (e.2:Nat) y++ [xOf t (dOf t st) (b4.drop (e.2+1))]) (S.map (STK.trim (xp b4 e.2 (rl st (dOf t st)) H E (e.2:Nat) y).length)) j1 f4 d0 c9 sc m2 L w->
  e6 d0 c9 sc b1 g cl1 (cl2 g b1) e5 (kE pb) (some (hZ g e0)) w):
 aw.k6 R Xa e6 o3 d0 c9 sc b1 g cl1 (cl2 g b1) e5 (kE pb) (some (hZ g e0)) (kE e.1) (dOf t st:Nat) w:=by
 obtain⟨b7,b8,b6,w2,d1,c4,g0,s2,f1,f5,g7,v8,h⟩:=h;have s4:s∈S:=lR1 hs;have o0:=(f5 s s4).2.2 e r7;have v5:=g0.length;have q2:=g0.oneCell;have r4:b4=b4.take e.2++(.emphP st H E (e.2:Nat) y)::b4.drop (e.2+1):=by
  have o4:e.2<b4.length:=by omega
  have t7:b4[e.2]= .emphP st H E (e.2:Nat) y:=by rw[lI0 o4] at hd;exact Option.some.inj hd
  rw[<-t7,<-lG1 o4,lT1]
 have n0:=g0;rw[r4] at n0;obtain⟨i1,v,i0,O,v9,U,f3,rfl,i3,hv,m6⟩:=n0.mid;have k0:i1.length=e.2:=by have:=i3.length;rw[lB1] at this;omega
 obtain⟨sb,se,rfl,rfl⟩:=hv;have r8:sb=e.1:=by
  obtain⟨_,_,_,_,_,b5,_⟩:=o0;rw[f3,lH0 (by omega),k0] at b5;simp at b5;exact ru b5
 subst r8;obtain⟨q8,q5,q4,v2⟩:st≠ []/\0<=y/\y<=1000000000/\st.length<1000000000:=by
  obtain⟨t',i2,j0,d3,g6,b5,s9,t0,f1⟩:=o0;rw[hd] at g6;simp only[lH1,Inl.emphP.injEq] at g6;obtain⟨rfl,rfl,rfl,_,rfl⟩:=g6;exact⟨f1.1,s9,t0,f1.2⟩
 have u8:=lY0.2 (Fw h8);have u0:=lY0.2 q8;generalize r6:dOf t st=d at p1⊢;have h6:(d=1\/d=2)/\d<=t.length/\d<=st.length:=by
  rw[<-r6];unfold dOf;split<;>omega
 obtain⟨h6,v3,u2⟩:=h6;have p5:b6.drop (e.2+1)=i0:=by rw[f3,lU5,lA2 (by omega),k0];simp
 have p4:b6.take e.2=i1:=by rw[f3,lQ3 (by omega),lB2 (by omega)]
 have p3:b6.take (e.2+1)=i1++ [gL aT e.1]:=by
  rw[f3,List.take_append,lB2 (by omega),k0];simp
 have h:Sat σ w (emC pb t W a7 V n a6::j7 g S::(b1,cel [hT b7 b6.length b8] ap)::(d1++((O++([emC e.1 st H E (e.2:Nat) y se]++U))++(c4++L)))):=h
 have h:Sat σ w (emC pb t W a7 V n a6::emC e.1 st H E (e.2:Nat) y se::(b1,cel [hT b7 b6.length b8] ap)::j7 g S::(d1++(O++(U++(c4++L))))):=h.re
 refine aa ⟨_,Sat.ld h (.head _) rfl,by omega,kP h8,?_⟩;refine h.tk λw h=>?_
 refine aa (aa ?_);refine⟨_,Sat.ld h (.head _) rfl,by omega,by rw[aI];omega,?_⟩;refine⟨_,_,_,Sat.ld h (.tail _ (.tail _ (.head _))) rfl,?_⟩;refine⟨_,Sat.ld h (.tail _ (.head _)) rfl,?_⟩;have o2:i64.wrap (((e.2:Nat):Int)+1)=((e.2+1:Nat):Int):=aN (by omega)
 rw[o2];have l5:=h;have hr:Sat σ w (c4++(emC pb t W a7 V n a6::emC e.1 st H E (e.2:Nat) y se::(b1,cel [hT b7 b6.length b8] ap)::j7 g S::(d1++(O++(U++L))))):=h.re
 refine g7.copy hr (k:=e.2+1) (by omega) (by omega) q2 (C:=λe8=>SameC _ e8 _ 1) (λe8 X s8=>l5.same s8 (.head _) (lB0 _ (lB0 _ (.head _))) 1) λq b9 c1 w M i8 h=>?_
 rw[p5] at i8;have h:Sat σ w (emC pb t W a7 V n a6::emC e.1 st H E (e.2:Nat) y se::(b1,cel [hT b7 b6.length b8] ap)::j7 g S::(d1++(O++(M++(U++(c4++L)))))):=h.re
 refine Sat.bx h λI w h=>?_
 rw[lC0,bV,lL2] at h;have h:Sat σ w (emC pb t W a7 V n a6::emC e.1 st H E (e.2:Nat) y se::(b1,cel [hT b7 b6.length b8] ap)::j7 g S::(d1++(O++((I,cel [hX (bs (t.take d)),hT q b9 c1] i6)::(M++(U++(c4++L))))))):=h.re
 refine h.tk λw h=>?_
 refine aa (aa ?_);refine⟨_,Sat.ld h (.tail _ (.head _)) rfl,_,Sat.ld h (.tail _ (.head _)) rfl,?_⟩;have t6:i64.wrap (((bs st).size:Int) - (d:Int))=((st.length - d:Nat):Int):=by rw[aI,i64_in _ (by omega)];omega
 rw[t6,aI];refine⟨by omega,by omega,aa ?_⟩;rw[lC0,bV,lL2];refine h.stA 1 λw h=>?_
 have h:Sat σ w (emC pb t W a7 V n a6::emC e.1 (rl st d) H E (e.2:Nat) y se::(b1,cel [hT b7 b6.length b8] ap)::j7 g S::(d1++(O++((I,cel [hX (bs (t.take d)),hT q b9 c1] i6)::(M++(U++(c4++L))))))):=h
 refine aa ⟨_,Sat.ld h (.head _) rfl,by omega,by rw[aI];omega,aa ?_⟩;rw[aI,lC0,nt];refine h.stA 0 λw h=>?_
 have h:Sat σ w (emC pb (t.drop d) W a7 V n a6::emC e.1 (rl st d) H E (e.2:Nat) y se::(b1,cel [hT b7 b6.length b8] ap)::j7 g S::(d1++(O++((I,cel [hX (bs (t.take d)),hT q b9 c1] i6)::(M++(U++(c4++L))))))):=h
 refine aa ⟨_,Sat.ld h (.tail _ (.head _)) rfl,?_⟩;rw[ns];have rest: ∀(m:Nat) w,m=(xp b4 e.2 (rl st d) H E (e.2:Nat) y).length->m<=e.2+1->
  (∃f2,InlsAt (xp b4 e.2 (rl st d) H E (e.2:Nat) y) (b6.take m) f2/\ ∃G,(∀a,cnt a (emC e.1 (rl st d) H E (e.2:Nat) y se::O)=cnt a (G++f2)))->
  Sat σ w (emC pb (t.drop d) W a7 V n a6::emC e.1 (rl st d) H E (e.2:Nat) y se::(b1,cel [hT b7 m b8] ap)::j7 g S::(d1++(O++((I,cel [hX (bs (t.take d)),hT q b9 c1] i6)::(M++(U++(c4++L)))))))->
  aw.k7 R Xa e6 o3 d0 c9 sc b1 g cl1 (cl2 g b1) e5 (kE pb) (some (hZ g e0)) (d:Nat) ((bt (bs t) 0)==126) (kE I) w:=by
  intro m w e7 v6 s1 h;obtain⟨f2,s3,G,t9⟩:=s1;refine gK ?_;have h:Sat σ w (j7 g S::(b1,cel [hT b7 m b8] ap)::(d1++(emC e.1 (rl st d) H E (e.2:Nat) y se::(O++(U++(emC pb (t.drop d) W a7 V n a6::(I,cel [hX (bs (t.take d)),hT q b9 c1] i6)::(M++(c4++L)))))))):=h.re
  have s7: ∀s∈S,CP s.ent (emC e.1 (rl st d) H E (e.2:Nat) y se::(O++(U++(emC pb (t.drop d) W a7 V n a6::(I,cel [hX (bs (t.take d)),hT q b9 c1] i6)::(M++(c4++L)))))):=by
   intro s' h7 x f6;obtain⟨t',i2,j0,d3,ty,g6,b5,_⟩:=((f5 s' h7).2.2 x f6).chunk g0;rcases lO0.1 b5 with b5|b5
   ·exact⟨_,ty,.tail _ (lE1 _ b5),rfl⟩
   ·rcases lO0.1 b5 with b5|b5
    ·simp only[lR0] at b5;have s6:x.1=e.1:=by have:=congrArg (λc:ai=>c.1) b5;exact this
     have v0:(x.2:Int)=(e.2:Int):=by
      have:=congrArg (λc:ai=>c.2) b5
      simp only[emC,cel,Obj.cells.injEq] at this;have:=congrArg Array.toList this.1;simp only[lU0,Value.int.injEq,true_and] at this;exact this.2.2.2.1
     have r5:x.2=e.2:=by omega
     exact⟨_,se,by rw[s6];exact .head _,by rw[r5];rfl⟩
    ·exact⟨_,ty,.tail _ (lB0 _ (lE1 _ b5)),rfl⟩
  refine zB f1 s2 s7 (λs hs=>(f5 s hs).1) h λw e4 q0 h=>⟨rfl,?_⟩
  rw[bt0 h8];refine ae (by rcases hc with rfl|rfl<;>rfl) ?_;have e9:(b6.take m).length=m:=by rw[lB1];omega
  have m8:=g7.take (k:=m) (by omega);have q1:StkIn (xp b4 e.2 (rl st d) H E (e.2:Nat) y++ [xOf t d (b4.drop (e.2+1))]) (b6.take m++ [gL (if d=2 then fo else iR) I]) (S.map (STK.trim m)):=by
   intro s' h7;obtain⟨s0,r9,rfl⟩:=lZ1.1 h7;obtain⟨a1,a2,a3⟩:=f5 s0 r9;refine⟨Nat.lt_of_le_of_lt (AX m s0.ent) a1,C4 a2,λx f6=>?_⟩;have s5:=yQ a2 x f6;obtain⟨t',i2,j0,d3,t2,t8,t3,t4,t5⟩:=a3 x (AU f6);have n1:(b6.take m++ [gL (if d=2 then fo else iR) I])[x.2]? =some (gL aT x.1):=by
    rw[lM0 (by omega),lM3 s5];exact t8
   by_cases h9:x.2<e.2
   ·refine⟨t',i2,j0,d3,?_,n1,t3,t4,t5⟩;unfold xp;rw[lD0,lM0 (by rw[lB1];omega),lM3 h9];exact t2
   ·have h9:x.2=e.2:=by omega
    have n3:rl st d≠ []:=by
     intro l5;unfold xp at e7;rw[l5,if_pos rfl,lG0,lB1] at e7;omega
    refine⟨rl st d,H,E,y,?_,n1,q5,q4,n3,by unfold rl;rw[lB1];omega⟩;unfold xp;rw[if_neg n3,lD0,lH0 (by rw[lB1];omega),h9,lB1,lG6 (by omega),lV1];rfl
  have fin: ∀w (ty:TypeId),ty=(if d=2 then fo else iR)-> ∀c8 c5 c3,DRow c8 c5 (b6.take m++ [gL ty I]) j1 f4 d0 c9 sc m2 c3->
   Sat σ w ((b1,cel [hT c8 (m+1) c5] ap)::j7 g (S.map (STK.trim m))::(e4++(emC e.1 (rl st d) H E (e.2:Nat) y se::(O++(U++(emC pb (t.drop d) W a7 V n a6::(I,cel [hX (bs (t.take d)),hT q b9 c1] i6)::(M++(c3++L))))))))->
   e6 d0 c9 sc b1 g cl1 (cl2 g b1) e5 (kE pb) (some (hZ g e0)) w:=by
   intro w ty r3 c8 c5 c3 f0 h;subst r3;refine p1 w ⟨c8,c5,_,f2++((I,cel [hX (bs (t.take d)),hT q b9 c1] i6)::(M++U)),e4,c3,s3.append (InlsAt.one ?_),by rw[<-e7];exact q0,by rw[lS0];exact f1,by rw[<-e7];exact q1,f0,?_,?_⟩
   ·unfold xOf;split
    ·exact⟨I,_,q,b9,c1,i0,M,U,rfl,rfl,i8,m6⟩
    ·exact⟨I,_,q,b9,c1,i0,M,U,rfl,rfl,i8,m6⟩
   ·rw[lA0,<-e7];simp;omega
   ·rw[lA0,e9];rw[<-e7];have h:Sat σ w ((emC e.1 (rl st d) H E (e.2:Nat) y se::O)++(emC pb (t.drop d) W a7 V n a6::j7 g (S.map (STK.trim m))::(b1,cel [hT c8 (m+1) c5] ap)::(e4++(U++((I,cel [hX (bs (t.take d)),hT q b9 c1] i6)::(M++(c3++L))))))):=h.re
    refine h.less G λa=>?_
    have:=t9 a;simp only[dE,eK] at this⊢;simp only[lE0];omega
  have h:Sat σ w (c4++((b1,cel [hT b7 m b8] ap)::j7 g (S.map (STK.trim m))::(e4++(emC e.1 (rl st d) H E (e.2:Nat) y se::(O++(U++(emC pb (t.drop d) W a7 V n a6::(I,cel [hX (bs (t.take d)),hT q b9 c1] i6)::(M++L)))))))):=h.re
  have m5:w.cell? (hZ b1 0)=some (hT b7 m b8):=Sat.ld h (lB0 _ (.head _)) rfl;rcases h6 with rfl|rfl
  ·refine ae rfl ⟨b7,m,b8,m5,?_⟩;have:=m8.app (ty:=ap) (t:=iR) (b:=I) h (by omega) (by omega) (C:=λ_=>True) (λ_ _ _=>trivial) (K:=λm4 d3 m3 d2=>stV d2 (hZ b1 0) (hT m4 d3 m3) λw=>e6 d0 c9 sc b1 g cl1 (cl2 g b1) e5 (kE pb) (some (hZ g e0)) w) (λc8 c5 c3 d2 f0 h=>by
    have h:Sat σ d2 ((b1,cel [hT b7 m b8] ap)::j7 g (S.map (STK.trim m))::(e4++(emC e.1 (rl st 1) H E (e.2:Nat) y se::(O++(U++(emC pb (t.drop 1) W a7 V n a6::(I,cel [hX (bs (t.take 1)),hT q b9 c1] i6)::(M++(c3++L)))))))):=h.re
    rw[e9];refine Sat.st h (k:=0) rfl (lO3 _) trivial rfl λw h=>?_
    exact fin w iR rfl c8 c5 c3 f0 h)
   rw[e9] at this;obtain⟨a,b,c,e8,m1,_,r2⟩:=this;exact⟨a,b,c,e8,m1,r2⟩
  ·refine ag rfl ⟨b7,m,b8,m5,?_⟩;have:=m8.app (ty:=ap) (t:=fo) (b:=I) h (by omega) (by omega) (C:=λ_=>True) (λ_ _ _=>trivial) (K:=λm4 d3 m3 d2=>stV d2 (hZ b1 0) (hT m4 d3 m3) λw=>e6 d0 c9 sc b1 g cl1 (cl2 g b1) e5 (kE pb) (some (hZ g e0)) w) (λc8 c5 c3 d2 f0 h=>by
    have h:Sat σ d2 ((b1,cel [hT b7 m b8] ap)::j7 g (S.map (STK.trim m))::(e4++(emC e.1 (rl st 2) H E (e.2:Nat) y se::(O++(U++(emC pb (t.drop 2) W a7 V n a6::(I,cel [hX (bs (t.take 2)),hT q b9 c1] i6)::(M++(c3++L)))))))):=h.re
    rw[e9];refine Sat.st h (k:=0) rfl (lO3 _) trivial rfl λw h=>?_
    exact fin w fo rfl c8 c5 c3 f0 h)
   rw[e9] at this;obtain⟨a,b,c,e8,m1,_,r2⟩:=this;exact⟨a,b,c,e8,m1,r2⟩
 by_cases e3:rl st d= []
 ·refine ag (by simpa using e3) ?_;refine h.tk λw h=>?_
  refine aa ⟨_,_,_,Sat.ld h (.tail _ (.tail _ (.head _))) rfl,_,Sat.ld h (.tail _ (.head _)) rfl,?_⟩;have q3:=g7.2.1;refine⟨_,_,_,λw=>qz rowInl.ht rowInl.hi _ _ _ e.2 (by omega) w,?_⟩;refine Sat.st h (k:=2) rfl (lO3 _) trivial rfl λw h=>?_
  refine rest e.2 w ?_ (by omega) ⟨O,?_,[emC e.1 (rl st d) H E (e.2:Nat) y se],λa=>rfl⟩ h
  ·unfold xp;rw[if_pos e3,lG0,lB1];omega
  ·unfold xp;rw[if_pos e3,lG0,p4];exact i3
 ·refine ae (by simpa using e3) ?_;refine h.tk λw h=>?_
  refine aa ⟨_,_,_,Sat.ld h (.tail _ (.tail _ (.head _))) rfl,_,Sat.ld h (.tail _ (.head _)) rfl,?_⟩;have q3:=g7.2.1;rw[o2];refine⟨_,_,_,λw=>qz rowInl.ht rowInl.hi _ _ _ (e.2+1) (by omega) w,?_⟩;refine Sat.st h (k:=2) rfl (lO3 _) trivial rfl λw h=>?_
  refine rest (e.2+1) w ?_ (by omega) ⟨O++ [emC e.1 (rl st d) H E (e.2:Nat) y se],?_,[],λa=>?_⟩ h
  ·unfold xp;rw[if_neg e3,lA0,lB1];simp;omega
  ·unfold xp;rw[if_neg e3,p3];exact i3.append (InlsAt.one ⟨e.1,se,rfl,rfl⟩)
  ·simp only[dE,eK,me,lT0];omega

theorem uU {S:List STK}{g:Nat}{s:STK}(hs:S[g]? =some s):(tR S).getD g []=s.ent.map Prod.snd:=by
 rw[lP0];simp[tR,hs]
theorem wN {p:Nat->Bool}{g:List (Nat × Nat)}(h: ∀e∈g,p e.2=false):(g.map Prod.snd).reverse.find? p=none:=by
 rw[List.find?_eq_none];intro x y;rw[List.mem_reverse] at y;obtain⟨e,E,rfl⟩:=lZ1.1 y;simp[h e E]
theorem Cb {p:Nat->Bool}{y g:List (Nat × Nat)}{e:Nat × Nat}(H:p e.2=true)(E: ∀x∈g,p x.2=false):((y++e::g).map Prod.snd).reverse.find? p=some e.2:=by
 rw[lV0,lD5,lY1,lP4,lD0,List.find?_append,wN E];simp[H]
def AllC (c:UInt8)(t:List UInt8):Prop:= ∀x∈t,x=c
theorem AllC.head {c:UInt8}{t:List UInt8}(h:AllC c t)(ht:t≠ []):t.head? =some c:=by
 cases t with
 |nil=>exact absurd rfl ht
 |cons x t=>rw[h x (by simp)];rfl
theorem AllC.drop {c:UInt8}{t:List UInt8}(h:AllC c t)(d:Nat):AllC c (t.drop d):=λx g=>h x (lV4 g)
theorem DO {Xa:XA}{c5:XB}{b1 y pb E b4:Nat}{c:UInt8}{c4 c3:Bool}{f2 n b5:Int}{e5:TypeId}{e3:List Value}{V:Option Addr}{U sc:Nat}{f1:List ai}(i2:E<5)(hc:FT c)(g7:0<=n/\n<=1000000000)(b9: ∀w,aw.bl2 R Xa c5 V U sc b1 y cl1 (cl2 y b1) b5 (kE pb) (some (hZ y E)) w->c5 V U sc b1 y cl1 (cl2 y b1) b5 (kE pb) (some (hZ y E)) w):
 ∀(f:Nat) (t:List UInt8) (g:List Inl) (S:List STK) (w:World),t.length<=f->AllC c t->t.length<1000000000->EM σ b1 y pb t c4 c3 f2 n e5 g S e3 b4 V U sc f1 L w->g.length<=b4->
  (∀s,S[E]? =some s-> ∀e∈s.ent,e.2+1<g.length)->
  (∀t' H O w,jL E c4 c3 n f t g (tR S)=(t',H,tR O)->AllC c t'->t'.length<=t.length->EM σ b1 y pb t' c4 c3 f2 n e5 H O e3 b4 V U sc f1 L w->H.length<=b4->H.length<=g.length->
   (t'=t/\H=g/\O=S\/ ∀s∈O,∀e∈s.ent,e.2+1<H.length)->
   aw.k1 R Xa V U sc b1 y cl1 (cl2 y b1) b5 (kE pb) w)->
  c5 V U sc b1 y cl1 (cl2 y b1) b5 (kE pb) (some (hZ y E)) w:=by
 intro f
 induction f with
 |zero=>
  intro t g S w h2 I e2 h W c8 a6;have ht:t= []:=lC1 (by omega);subst ht;refine b9 _ ?_;have a7:=h;obtain⟨e6,e9,e4,e7,e8,f0,_,_,_,_,_,_,h⟩:=h;refine aa ⟨_,Sat.ld h (.head _) rfl,ae (by rw[ns];rfl) ?_⟩;exact a6 [] g S w rfl I (lZ0 _) a7 W (lZ0 _) (.inl ⟨rfl,rfl,rfl⟩)
 |succ f h1=>
  intro t g S w h2 I e2 h W c8 a6
  by_cases ht:t= []
  ·subst ht;refine b9 _ ?_;have a7:=h;obtain⟨e6,e9,e4,e7,e8,f0,_,_,_,_,_,_,h⟩:=h;refine aa ⟨_,Sat.ld h (.head _) rfl,ae (by rw[ns];rfl) ?_⟩;exact a6 [] g S w rfl I (lZ0 _) a7 W (lZ0 _) (.inl ⟨rfl,rfl,rfl⟩)
  have e0:=I.head ht;refine b9 _ ?_;have a7:=h;have i3:S.length=5:=by obtain⟨_,_,_,_,_,_,_,_,h,_⟩:=h;exact h
  have hs:S[E]? =some S[E]:=lI0 (by omega);generalize S[E]=s at hs;obtain⟨e6,e9,e4,e7,e8,f0,_,_,_,g3,_,_,d1⟩:=h;refine aa ⟨_,Sat.ld d1 (.head _) rfl,ag (by rw[ns];simpa using ht) (aa ?_)⟩;have g2:w.cell? (hZ y E)=some (hT s.q s.n s.c):=by
   refine Sat.ld d1 (.tail _ (.head _)) ?_;rw[lF2,hs];rfl
  refine⟨_,_,_,g2,?_⟩;intro i8 g5;refine Bc a7 e0 hc g7 hs (λh8 w h3=>g5 _ _ _ _ _ _ _ _ _ _ _ _ h3) (λc2 w h=>?_) (λi1 e i0 st c1 b8 b6 d2 f5 c2 hd w h=>?_)
  ·refine a6 t g S w ?_ I (lZ0 _) h W (lZ0 _) (.inl ⟨rfl,rfl,rfl⟩);rw[jL,if_neg ht,uU hs,wN c2]
  ·have e1:e∈s.ent:=by rw[d2];simp
   have g1:=c8 s hs e e1;refine E2 h e0 hc hs e1 hd g1 W e2 λw h=>?_
   have h6:(xp g e.2 (rl st (dOf t st)) c1 b8 (e.2:Nat) b6).length<=e.2+1:=by
    unfold xp;rw[lA0,lB1];split<;>simp<;>omega
   have h7:0<dOf t st:=by unfold dOf;split<;>omega
   have h9:=lY0.2 ht;have d0: ∀s'∈S.map (STK.trim (xp g e.2 (rl st (dOf t st)) c1 b8 (e.2:Nat) b6).length),∀x∈s'.ent,x.2+1<(xp g e.2 (rl st (dOf t st)) c1 b8 (e.2:Nat) b6++ [xOf t (dOf t st) (g.drop (e.2+1))]).length:=by
    intro s' b7 x g6;obtain⟨s0,g4,rfl⟩:=lZ1.1 b7;have:=yQ (g3 s0 g4).2.1 x g6;rw[lA0];simp;omega
   refine h1 (t.drop (dOf t st)) _ _ w (by rw[lL1];omega) (I.drop _) (by rw[lL1];omega) h (by rw[lA0];simp;omega) (λs' b7=>d0 s' (lR1 b7)) ?_;intro t' H O w d3 f4 g0 h f6 c9 f3;refine a6 t' H O w ?_ f4 (by rw[lL1] at g0;omega) h f6 (by rw[lA0] at c9;simp at c9;omega) (.inr ?_)
   ·rw[jL,if_neg ht,uU hs,d2,Cb f5 c2];simp only[hd];rw[BV] at d3;exact d3
   ·rcases f3 with ⟨_,rfl,rfl⟩|h4
    ·exact d0
    ·exact h4

def sA:Inl->Option UInt8
 | .emphP s _ _ _ _=>s.head?
 |_=>none
def wfE (ts:List Inl):Prop:= ∀s y g i n,Inl.emphP s y g i n∈ts->s≠ []/\(∃c,FT c/\AllC c s)/\s.length<1000000000/\0<=n/\n<=1000000000
def nw:Option UInt8->List Inl->Prop
 |_,[]=>True
 |h,t::ts=>(h=none\/sA t≠h)/\nw (sA t) ts
theorem Ey {c:UInt8}(hc:FT c)(g:R (hQ (hY (sQ c:Nat))) w):callE P fy #[.int .u8 (c.toNat:Int)] R w:=by
 refine iI.sound ?_;refine uT (l:= [95,42,126,34,39]) ⟨_,rfl,?_⟩;rcases hc with rfl|rfl
 ·exact g
 ·exact g
theorem E1 {y m pb g:Nat}{S:List STK}{s:STK}{c5:List ai}(f0:S.length=5)(hs:S[g]? =some s)(c4:StksAt S c5)(e9:s.ent.length<999999999)(h:Sat σ w (j7 y S::(c5++L))){K:World->Prop}(e6: ∀w s' c2,s'.ent=s.ent++ [(pb,m)]->StksAt (S.set g s') c2->Sat σ w (j7 y (S.set g s')::(c2++L))->K w):
 aA (some ((hZ y g):Addr)) λd3=> ∃(V:Option Addr),∃(b5:Nat),∃(O:Nat),w.cell? d3=some (hT V b5 O)/\
  ∃(U:Option Addr),∃(a7:Nat),∃(a6:Nat),∃b7,(Instr.buildSlice cH 1 #[(0,kT (kE pb))]).run P w= .ok (hT U a7 a6) b7/\
  ∃(b4:Option Addr),∃(W:Nat),∃(I:Nat),∃b8,(Builtin.append_ #[cH,cH] cH #[hT V b5 O,hT U a7 a6]).run P b7= .ok (hT b4 W I) b8/\
  aA (some ((hZ y g):Addr)) λd2=>stV b8 (d2.add 0) (hT b4 W I) λe0=>K e0:=by
 have b9:=(lL0.1 hs).1;have d1:S=S.take g++s::S.drop (g+1):=by
  have e7:S[g]=s:=(lL0.1 hs).2;rw[<-e7,<-lG1 b9,lT1]
 have b6: ∀s':STK,S.set g s'=S.take g++s'::S.drop (g+1):=by
  intro s';rw[lK4,if_pos b9]
 have c1:(S.take g).length=g:=by rw[lB1];omega
 rw[d1] at c4 h;obtain⟨H,e8,E,rfl,e5,c9,e3⟩:=c4.split;have e4:=c9.1;simp at e4;refine aa ⟨_,_,_,lQ h c1.symm,?_⟩;have h:Sat σ w (e8++(j7 y (S.take g++s::S.drop (g+1))::(H++(E++L)))):=h.re
 refine Sat.app1 rowEP c9 h (v:= kT (kE pb)) rfl (by simp[Value.cells,Value.oneCell']) (by kernel_rfl) (by omega) (by omega) (by decide) λd0 c8 e2 c3 e1 h=>?_
 have h:Sat σ e2 (j7 y (S.take g++s::S.drop (g+1))::(H++(c3++(E++L)))):=h.re
 refine aa ?_;simp only[lK0,lN1];refine vH (s':=⟨d0,s.n+1,c8,s.ent++ [(pb,m)]⟩) h c1.symm λw h=>?_
 refine e6 w ⟨d0,s.n+1,c8,s.ent++ [(pb,m)]⟩ (H++(c3++E)) rfl ?_ ?_
 ·rw[b6];exact e5.join (by unfold STK.ok;rw[lV0];exact e1) e3
 ·rw[b6];exact h.re
def EM0 (σ:Out)(b1 a7:Nat)(y W:List Inl)(S:List STK)(a6:Nat)(b5:Option Addr)(b6 sc:Nat)(b4:List ai)(L:List ai)(w:World):Prop:=
 ∃O I g E V H U RM,InlsAt y g V/\StksAt S H/\S.length=5/\StkIn y g S/\DRow O I g E a6 b5 b6 sc b4 U/\y.length<999999998/\InlsAt W E RM/\
  Sat σ w (j7 a7 S::(b1,cel [hT O g.length I] ap)::(H++(V++(U++(RM++L)))))
def Late (c:UInt8)(g:List Inl)(S:List STK):Prop:= ∀s,S[sQ c]? =some s-> ∀e∈s.ent,e.2+1<g.length
theorem StkIn.lt {g:List Inl}{y:List Value}{S:List STK}(h:StkIn g y S): ∀s∈S,∀e∈s.ent,e.2<g.length:=by
 intro s hs e H;obtain⟨t,I,O,n,E,_⟩:=(h s hs).2.2 e H;exact(lL0.1 E).1
theorem StkIn.grow {E x:List Inl}{g y:List Value}{S:List STK}(h:StkIn E g S):StkIn (E++x) (g++y) S:=by
 intro s hs;obtain⟨a,b,c⟩:=h s hs;refine⟨a,b,λe O=>?_⟩;obtain⟨t,U,W,n,H,I,V⟩:=c e O;exact⟨t,U,W,n,by rw[lM0 (lL0.1 H).1];exact H,by rw[lM0 (lL0.1 I).1];exact I,V⟩

theorem rA {b1 O b8 b:Nat}{t:TypeId}{E c2:Option Addr}{H c3 sc:Nat}{g b9:List Value}{S:List STK}{V U c8 b4:List ai}(e0:DRow E H g b9 (b8+1) c2 c3 sc c8 b4)(e2:g.length<=b8)(d2:g.length<1000000000)(h:Sat σ w (j7 O S::(b1,cel [hT E g.length H] ap)::(V++(U++(b4++L))))){C:World->Prop}(d0: ∀y X,Sat σ y (X::(j7 O S::(b1,cel [hT E g.length H] ap)::(V++(U++(b4++L)))))->C y){K:World->Prop}(d3: ∀w a6 W I,DRow a6 W (g++ [gL t b]) b9 (b8+1) c2 c3 sc c8 I->Sat σ w (j7 O S::(b1,cel [hT a6 (g.length+1) W] ap)::(V++(U++(I++L))))->K w):
 ∃c1 c4 c5 y,(Instr.buildSlice ap 1 #[(0,gL t b)]).run P w= .ok (hT c1 c4 c5) y/\C y/\
  ∃b7 b5 b6 a7,(Builtin.append_ #[ap,ap] ap #[hT E g.length H,hT c1 c4 c5]).run P y= .ok (hT b7 b5 b6) a7/\stV a7 (hZ b1 0) (hT b7 b5 b6) K:=by
 have hr:Sat σ w (b4++(j7 O S::(b1,cel [hT E g.length H] ap)::(V++(U++L)))):=h.re
 refine e0.app (ty:=ap) hr (by omega) d2 (C:=C) (λy X e1=>d0 y X (e1.re)) (K:=λb7 b5 b6 a7=>stV a7 (hZ b1 0) (hT b7 b5 b6) K) λa6 W I d1 c9 h=>?_
 have h:Sat σ d1 (j7 O S::(b1,cel [hT E g.length H] ap)::(V++(U++(I++L)))):=h.re
 refine Sat.st h (k:=1) rfl (lO3 _) trivial rfl λw h=>?_
 exact d3 w a6 W I c9 h
theorem xT {q:Option Addr}{a:Addr}{K:Addr->Prop}(h:q=some a)(g:K a):aA q K:=by subst h;exact g
theorem noC {A:Option Addr->Nat->Nat->World->Prop}{B:Option Addr->Nat->Nat->World->Prop}(h: ∃g E y H,A g E y H/\True/\B g E y H): ∃g E y H,A g E y H/\B g E y H:=by
 obtain⟨a,b,c,d,I,_,O⟩:=h;exact⟨a,b,c,d,I,O⟩
theorem Ci {Xa:XA}{b1 E:Nat}{c8:Option Addr}{b9 sc:Nat}{h7:List ai}(r1: ∀q1 w,aw.bl1 R Xa c8 b9 sc b1 E cl1 (cl2 E b1) q1 w->Xa c8 b9 sc b1 E cl1 (cl2 E b1) q1 w)(v9:b9<999999990)(f3:List Inl)(u8: ∀w a6 b5 g I b6,InlsAt f3 g I->DRow a6 b5 g [] b9 c8 b9 sc h7 b6->g.length<=b9->Sat σ w (I++(b6++L))->R (hQ (hT a6 g.length b5)) w):
 ∀(W c1:List Inl) (S:List STK) (O:Nat) (hd:Option UInt8) (w:World),EM0 σ b1 E c1 W S O c8 b9 sc h7 L w->O+W.length=b9->c1.length<=O->wfE W->nw hd W->(∀c,FT c->hd≠some c->Late c c1 S)->
  dR c1 (tR S) W=f3->Xa c8 b9 sc b1 E cl1 (cl2 E b1) (O:Int) w:=by
 intro W
 induction W with
 |nil=>
  intro c1 S O hd w h i0 r3 n0 f0 p3 e7;obtain⟨a6,b5,g,t5,I,b4,b6,RM,c5,e5,e2,d1,m1,r4,n1,h⟩:=h;obtain⟨rfl,rfl⟩:=n1;have f6:=c5.length;simp at i0;subst i0;refine r1 _ _ (ae (by simp) ?_);refine⟨_,_,_,Sat.ld h (.tail _ (.head _)) rfl,?_⟩;simp only[dR] at e7;simp only[lT0] at h;refine u8 w a6 b5 g I b6 (by rw[<-e7];exact c5) m1 (by omega) ?_;exact h.less (j7 E S::(b1,cel [hT a6 g.length b5] ap)::b4)
 |cons t W l5=>
  intro c1 S O hd w h i0 r3 n0 f0 p3 e7;obtain⟨a6,b5,g,t5,I,b4,b6,RM,c5,e5,e2,d1,m1,r4,n1,h⟩:=h;obtain⟨v,e4,h3,b7,rfl,rfl,hv,h8⟩:=n1;have f6:=c5.length;simp at i0;have p4: ∀w,Sat σ w (j7 E S::(b1,cel [hT a6 g.length b5] ap)::(b4++(I++(b6++((h3++b7)++L)))))-> ∃o2 n3,c8=some (hZ o2 n3)/\w.cell? ⟨o2,n3+O,none⟩=some v:=by
   intro w h;have h:Sat σ w (b6++(j7 E S::(b1,cel [hT a6 g.length b5] ap)::(b4++(I++((h3++b7)++L))))):=h.re
   exact m1.read h
  have e6:=m1.consume;have h9:wfE W:=λs V y i n v2=>n0 s V y i n (.tail _ v2)
  have h6:i64.wrap ((O:Int)+1)=((O+1:Nat):Int):=aN (by omega)
  have e9:=d1.lt;have next: ∀w (t':Inl) (ty:TypeId) (b:Nat) (g0:List ai),InlAt t' (gL ty b) g0->dR (c1++ [t']) (tR S) W=f3-> ∀c4 c2 c3,DRow c4 c2 (g++ [gL ty b]) e4 (O+1) c8 b9 sc h7 c3->
   Sat σ w (j7 E S::(b1,cel [hT c4 (g.length+1) c2] ap)::(b4++(I++(c3++(g0++(b7++L))))))->Xa c8 b9 sc b1 E cl1 (cl2 E b1) ((O+1:Nat):Int) w:=by
   intro w t' ty b g0 t3 b8 c4 c2 c3 d2 h;refine l5 (c1++ [t']) S (O+1) (sA t) w ⟨c4,c2,_,e4,I++g0,b4,c3,b7,c5.append (InlsAt.one t3),e5,e2,d1.grow,d2,by simp;omega,h8,?_⟩ (by omega) (by simp;omega) h9 f0.2 ?_ b8
   ·rw[lA0,lE0];exact h.re
   ·intro c _ _ s hs e a7;have:=e9 s (lR1 hs) e a7;simp;omega
  obtain⟨pb,cs,w2,g0,rfl,v7⟩:=hv.ptr;refine r1 _ _ (ag (by simp;omega) ⟨by omega,by omega,?_⟩);obtain⟨o2,n3,i8,p1⟩:=p4 w h;refine xT i8 ?_;simp only[lK0,lC0,lD1];refine⟨_,p1,?_⟩
  by_cases k0:t.ty=aQ
  ·-- an open bracket becomes plain
   obtain⟨s,i,rfl⟩: ∃s i,t= .openP s i:=by
    cases t<;>simp only[Inl.ty] at k0<;>first|exact⟨_,_,rfl⟩|exact absurd k0 (by decide)
   have n2:(Instr.typeAssert (gL (Inl.openP s i).ty pb) aC aQ true).run P w= .ok (.tuple #[kT (kE pb),hV true]) w:=oB w;refine⟨_,_,w,n2,ag rfl ?_⟩;refine h.tk λw h=>?_
   refine aa ⟨_,_,_,Sat.ld h (.tail _ (.head _)) rfl,?_⟩;have d3:=h;refine rA e6 (by omega) (by omega) h (C:=λe3=>SameC _ e3 _ 1) (λe3 X h2=>d3.same h2 (.tail _ (.head _)) (.tail _ (.tail _ (.head _))) 1) λw c4 c2 c3 d2 h=>?_
   rw[h6];refine next w (.plain s) bH pb h3 ?_ (by rw[<-e7,dR]) c4 c2 c3 d2 (h.re)
   obtain⟨v0,e',m5,rfl⟩:=hv;have:=ru m5;subst this;exact⟨pb,_,_,rfl,rfl⟩
  ·refine⟨_,_,w,pS k0 w,ae rfl ⟨by omega,by omega,?_⟩⟩;refine xT i8 ?_;simp only[lK0,lC0,lD1];refine⟨_,p1,?_⟩
   by_cases i1:t.ty=aT
   ·-- a run of delimiters
    obtain⟨s,V,y,i,n,rfl⟩: ∃s V y i n,t= .emphP s V y i n:=by
     cases t<;>simp only[Inl.ty] at i1<;>first|exact⟨_,_,_,_,_,rfl⟩|exact absurd i1 (by decide)
    obtain⟨v0,c9,m5,rfl⟩:=hv;have:=ru m5;subst this;obtain⟨m6,⟨c,hc,m2⟩,t2,q3,q2⟩:=n0 s V y i n (.head _);have i3:=m2.head m6;have j1:sA (.emphP s V y i n)=some c:=i3;have s6:hd≠some c:=by
     rcases f0.1 with h|h
     ·rw[h];simp
     ·rw[j1] at h;exact λo3=>h o3.symm
    have t4:sQ (s.headD 0)=sQ c:=by rw[List.headD_eq_head?_getD,i3];rfl
    have s3:sQ c<5:=by rcases hc with rfl|rfl<;>decide
    have j0: ∀w,Sat σ w (j7 E S::(b1,cel [hT a6 g.length b5] ap)::(b4++(I++(b6++(([emC pb s V y i n c9]++b7)++L)))))->EM σ b1 E pb s V y i n c9 c1 S e4 (O+1) c8 b9 sc h7 (b7++L) w:=λw h=>
     ⟨a6,b5,g,I,b4,b6,c5,e5,e2,d1,e6,by omega,h.re⟩
    have n2:(Instr.typeAssert (gL (Inl.emphP s V y i n).ty pb) aC aT true).run P w= .ok (.tuple #[kT (kE pb),hV true]) w:=rL w;refine⟨_,_,w,n2,ae rfl (aa ?_)⟩;have fin: ∀(t':List UInt8) (U:List Inl) (H:List STK) w,AllC c t'->t'.length<=s.length->EM σ b1 E pb t' V y i n c9 U H e4 (O+1) c8 b9 sc h7 (b7++L) w->U.length<=O->
     (t'= []-> ∀s∈H,∀e∈s.ent,e.2+1<U.length)->
     (if t'= [] then dR U (tR H) W else if V then dR (U++ [.emphP t' V y U.length n]) ((tR H).set (sQ c) ((tR H).getD (sQ c) []++ [U.length])) W else dR (U++ [.plain t']) (tR H) W)=f3->
     aw.k1 R Xa c8 b9 sc b1 E cl1 (cl2 E b1) O (kE pb) w:=by
     intro t' U H w f4 p5 h v5 s5 b8;obtain⟨a6,b5,g,I,b4,b6,c5,e5,e2,d1,e6,r4,h⟩:=h;have f6:=c5.length;have e9:=d1.lt;refine aa ⟨_,Sat.ld h (.head _) rfl,?_⟩;rw[ns]
     by_cases e0:t'= []
     ·subst e0;rw[if_pos rfl] at b8;refine ae (by simp) ?_;rw[h6];refine l5 U H (O+1) (some c) w ⟨a6,b5,g,e4,I,b4,b6,b7,c5,e5,e2,d1,e6,by omega,h8,?_⟩ (by omega) (by omega) h9 (by have:=f0.2;rw[j1] at this;exact this) ?_ b8
      ·exact(h.tail).re
      ·intro o4 _ _ s' i2 e a7;exact s5 rfl s' (lR1 i2) e a7
     ·rw[if_neg e0] at b8;refine ag (by simpa using e0) (aa ⟨_,Sat.ld h (.head _) rfl,by omega,kP (f4.head e0),?_⟩);rw[bt0 (f4.head e0)];refine gK ?_;refine Ey hc ⟨_,rfl,by omega,by omega,aa ⟨_,Sat.ld h (.head _) rfl,?_⟩⟩;have q0: ∀(d:UInt8),c≠d->((bs t').toList==(hP #[d]).toList)=false:=by
       intro d hd;rw[cX,gi,beq_eq_false_iff_ne];intro d3;have:t'= [d]:=d3;subst this;exact hd (f4 d (by simp)).symm
      refine ae (q0 39 (by rcases hc with rfl|rfl<;>decide)) ?_;refine aa ⟨_,Sat.ld h (.head _) rfl,ae (q0 34 (by rcases hc with rfl|rfl<;>decide)) ?_⟩;simp only[lK0,lC0,lD1,lN0];refine aa ⟨V,Sat.ld h (.head _) rfl,?_⟩;cases q4:V with
      |true=>
       rw[q4] at h b8;rw[if_pos rfl] at b8;refine ag rfl ⟨_,_,_,Sat.ld h (.tail _ (.tail _ (.head _))) rfl,aa ?_⟩;refine Sat.st h (k:=0) rfl (lG3 rfl) trivial rfl λw h=>?_
       have h:Sat σ w (emC pb t' true y (g.length:Nat) n c9::j7 E H::(b1,cel [hT a6 g.length b5] ap)::(b4++(I++(b6++(b7++L))))):=h
       refine⟨_,_,_,Sat.ld h (.tail _ (.tail _ (.head _))) rfl,?_⟩;have h:Sat σ w (j7 E H::(b1,cel [hT a6 g.length b5] ap)::(b4++(I++(b6++(emC pb t' true y (g.length:Nat) n c9::(b7++L)))))):=h.re
       refine noC (rA (t:=aT) (b:=pb) e6 (by omega) (by omega) h (C:=λ_=>True) (λ_ _ _=>trivial) λw c4 c2 c3 d2 h=>?_);have e8:H[sQ c]? =some H[sQ c]:=lI0 (by omega);generalize H[sQ c]=sx at e8;have m4:=d1 sx (lR1 e8);have h:Sat σ w (j7 E H::(b4++((b1,cel [hT c4 (g.length+1) c2] ap)::(I++(c3++(emC pb t' true y (g.length:Nat) n c9::(b7++L))))))):=h.re
       have s1:sx.ent.length<999999999:=by
        have: ∀(f1:List (Nat × Nat)) (k:Nat),f1.Pairwise (λa b=>a.2<b.2)->(∀e∈f1,k<=e.2/\e.2<U.length)->k<=U.length->k+f1.length<=U.length:=by
         intro f1
         induction f1 with
         |nil=>intro k _ _ r7;simpa using r7
         |cons e f1 t0=>
          intro k o0 hb r7;rw[List.pairwise_cons] at o0;have w4:=hb e (.head _);have:=t0 (e.2+1) o0.2 (λx r5=>⟨o0.1 x r5,(hb x (.tail _ r5)).2⟩) (by omega);simp;omega
        have:=this sx.ent 0 m4.2.1 (λe a7=>⟨lC2 _,e9 sx (lR1 e8) e a7⟩) (lC2 _);omega
       refine E1 (m:=g.length) (pb:=pb) e2 e8 e5 s1 h λw s' s9 i2 s4 h=>?_
       rw[h6];have s8:(tR H).set (sQ c) ((tR H).getD (sQ c) []++ [U.length])=tR (H.set (sQ c) s'):=by
        rw[uU e8,tR,tR,List.map_set,i2,lV0,f6];rfl
       rw[s8] at b8;refine l5 _ (H.set (sQ c) s') (O+1) (some c) w ⟨c4,c2,g++ [gL aT pb],e4,I++ [emC pb t' true y (g.length:Nat) n c9],s9,c3,b7,c5.append (InlsAt.one (t:= .emphP t' true y (g.length:Nat) n) ⟨pb,c9,rfl,rfl⟩),s4,by rw[lZ4];exact e2,?_,d2,by simp;omega,h8,?_⟩ (by omega) (by simp;omega) h9 (by have:=f0.2;rw[j1] at this;exact this) ?_ (by rw[<-b8,f6])
       ·intro h4 d0;rcases List.mem_or_eq_of_mem_set d0 with d0|d0
        ·exact d1.grow h4 d0
        ·subst d0;rw[i2];refine⟨by simp;omega,?_,?_⟩
         ·rw[lM6];refine⟨m4.2.1,by simp,λa t7 b hb=>?_⟩;simp at hb;subst hb
          have:=e9 sx (lR1 e8) a t7
          show a.2<g.length
          omega
         ·intro e a7;rcases lO0.1 a7 with a7|a7
          ·obtain⟨t8,u2,u0,u1,r8,r6,t9⟩:=m4.2.2 e a7;exact⟨t8,u2,u0,u1,by rw[lM0 (lL0.1 r8).1];exact r8,by rw[lM0 (lL0.1 r6).1];exact r6,t9⟩
          ·simp at a7;subst a7
           exact⟨t',true,y,n,by show (U++_)[g.length]? =_;rw[f6,lH0 (lZ0 _)];simp,by show (g++_)[g.length]? =_;simp,q3,q2,e0,by omega⟩
       ·rw[lA0,lE0];exact h.re
       ·intro o4 q8 q5 h4 d0 e a7;have s7:sQ o4≠sQ c:=by
         intro d3;apply q5;rcases hc with rfl|rfl<;>rcases q8 with rfl|rfl<;>first|rfl|exact absurd d3 (by decide)
        rw[List.getElem?_set_ne (λh=>s7 h.symm)] at d0;have:=e9 h4 (lR1 d0) e a7;simp;omega
      |false=>
       rw[q4] at h b8;rw[if_neg (by simp)] at b8;refine ae rfl ?_;refine h.tk λw h=>?_
       refine aa ⟨_,_,_,Sat.ld h (.tail _ (.tail _ (.head _))) rfl,?_⟩;have h:Sat σ w (j7 E H::(b1,cel [hT a6 g.length b5] ap)::(b4++(I++(b6++(emC pb t' false y i n c9::(b7++L)))))):=h.re
       have d3:=h;refine rA (t:=bH) (b:=pb) e6 (by omega) (by omega) h (C:=λe3=>SameC _ e3 _ 1) (λe3 X h2=>d3.same h2 (.tail _ (.head _)) (.tail _ (.tail _ (.head _))) 1) λw c4 c2 c3 d2 h=>?_
       rw[h6];refine l5 (U++ [.plain t']) H (O+1) (some c) w ⟨c4,c2,g++ [gL bH pb],e4,I++ [emC pb t' false y i n c9],b4,c3,b7,c5.append (InlsAt.one (t:= .plain t') ⟨pb,_,c9,rfl,rfl⟩),e5,e2,d1.grow,d2,by simp;omega,h8,?_⟩ (by omega) (by simp;omega) h9 (by have:=f0.2;rw[j1] at this;exact this) ?_ b8
       ·rw[lA0,lE0];exact h.re
       ·intro o4 q8 q5 h4 d0 e a7;have:=e9 h4 (lR1 d0) e a7;simp;omega
    refine⟨y,Sat.ld h (.tail _ (.tail _ (lB0 _ (lB0 _ (lB0 _ (.head _)))))) rfl,?_⟩;have f5:(let r:=if y then jL (sQ c) V y n s.length s c1 (tR S) else (s,c1,tR S)
     if r.1= [] then dR r.2.1 r.2.2 W else if V then dR (r.2.1++ [.emphP r.1 V y r.2.1.length n]) (r.2.2.set (sQ c) (r.2.2.getD (sQ c) []++ [r.2.1.length])) W else dR (r.2.1++ [.plain r.1]) r.2.2 W)=f3:=by
     rw[<-e7,dR,t4]
    cases m8:y with
    |false=>
     rw[m8] at f5 j0 fin;refine ae rfl (fin s c1 S w m2 (lZ0 _) (j0 w (by rw[m8] at h;exact h)) r3 (λh=>absurd h m6) ?_)
     simpa using f5
    |true=>
     rw[m8] at f5 j0 fin h;refine ag rfl (aa ⟨_,Sat.ld h (.tail _ (.tail _ (lB0 _ (lB0 _ (lB0 _ (.head _)))))) rfl,by omega,kP i3,?_⟩);rw[bt0 i3];refine gK ?_;refine Ey hc ⟨_,rfl,by omega,by omega,?_⟩;simp only[lK0,lC0,lD1,lN0];intro w3 t6;refine DO s3 hc ⟨q3,q2⟩ (λw o3=>t6 _ _ _ _ _ _ _ _ _ _ _ o3) s.length s c1 S w (lZ0 _) m2 t2 (j0 w h) (by omega) (p3 c hc s6) ?_;intro t' U H w b8 f4 p5 h v3 v4 f2;refine fin t' U H w f4 p5 h (by omega) ?_ ?_
     ·intro e0;rcases f2 with ⟨f2,_⟩|f2
      ·rw[e0] at f2;exact absurd f2.symm m6
      ·exact f2
     ·simp only[if_true,b8] at f5;exact f5
   ·-- anything else
    refine⟨_,_,w,pT i1 w,ag rfl ?_⟩;refine AY (A:=λw=>Sat σ w (j7 E S::(b1,cel [hT a6 g.length b5] ap)::(b4++(I++(b6++((h3++b7)++L)))))) h.tick λw h=>?_
    refine⟨by omega,by omega,xT i8 ?_⟩;refine⟨_,_,_,Sat.ld h (.tail _ (.head _)) rfl,?_⟩;simp only[lK0,lC0,lD1];obtain⟨v6,v8,m3,r9⟩:=p4 w h;rw[i8] at m3;simp only[lH1,Addr.mk.injEq,and_true] at m3;obtain⟨rfl,rfl⟩:=m3;refine⟨_,r9,?_⟩;have d3:=h;refine rA e6 (by omega) (by omega) h (C:=λe3=>SameC _ e3 _ 1) (λe3 X h2=>d3.same h2 (.tail _ (.head _)) (.tail _ (.tail _ (.head _))) 1) λw c4 c2 c3 d2 h=>?_
    rw[h6];refine next w t t.ty pb h3 hv (by rw[<-e7];cases t<;>first|rfl|exact absurd rfl k0|exact absurd rfl i1) c4 c2 c3 d2 (h.re)

theorem DRow.same {q:Option Addr}{n c:Nat}{vs:List Value}{RM:List ai}(h:Sl 1 aC q n c vs RM):DRow q c [] vs 0 q n c [] RM:=by
 obtain⟨H,E,⟨rfl,rfl,rfl,rfl⟩|⟨y,sp,rfl,rfl,g⟩⟩:=h
 ·have:vs= []:=lC1 (by omega);subst this;exact⟨by simp,by simp,.inr ⟨[],Sl.nil 1 aC,rfl,λj v hv=>by simp at hv⟩⟩
 ·refine⟨by omega,by simp,.inl ⟨y,[],sp,rfl,rfl,rfl,rfl,?_⟩⟩;rw[lA0] at g;omega
theorem DRow.done {E a6:Option Addr}{y O a7 sc:Nat}{g:List Value}{H:List ai}(h:DRow E y g [] O a6 a7 sc [] H):Sl 1 aC E g.length y g H:=by
 obtain⟨b4,I,⟨V,junk,sp,rfl,rfl,rfl,b3,W⟩|⟨b5,U,rfl,hr⟩⟩:=h
 ·refine⟨by omega,I,.inr ⟨V,junk++sp,rfl,rfl,?_⟩⟩;simp only[lA0,lM1] at W⊢;omega
 ·rw[lG0];exact U
theorem Cg {c5 g W:Option Addr}{y I sc:Nat}{ts:List Inl}{vs:List Value}{b5 E V:List ai}(b4:DRow g y [] vs 0 W I sc b5 E)(a7:InlsAt ts vs V)(b6:wfE ts)(b7:nw none ts)(c4:I<999999990)(h:Sat σ w (E++(V++L)))(c2: ∀w g y H U E,InlsAt (wT ts) H U->DRow g y H [] I W I sc b5 E->H.length<=I->Sat σ w (U++(E++L))->R (hQ (hT g H.length y)) w):
 callE P fg #[kT c5,hT g 0 y,hT W I sc] R w:=by
 refine aw.sound ?_;refine Sat.bx h λb1 w h=>?_
 refine Sat.bx h λb8 w h=>?_
 intro X c3;have d2:=a7.length;have d3:=b4.1
 let s0:STK:=⟨none,0,0,[]⟩
 have h:Sat σ w (j7 b8 [s0,s0,s0,s0,s0]::(b1,cel [hT g 0 y] ap)::(E++(V++L))):=h
 have O:s0.ok []:=Sl.nil 1 aT;refine Ci (Xa:=X) (λd1 w c9=>c3 _ _ _ _ _ _ _ _ _ c9) c4 (wT ts) (λw g y H U E c8 d0 b9 c1=>c2 w g y H U E c8 d0 b9 c1) ts [] [s0,s0,s0,s0,s0] 0 none w
  ⟨g,y,[],vs,[],[],E,V,⟨rfl,rfl⟩,⟨[],[],rfl,O,[],[],rfl,O,[],[],rfl,O,[],[],rfl,O,[],[],rfl,O,rfl⟩,rfl,?_,b4,by simp,a7,h⟩ (by omega) (by simp) b6 b7 ?_ rfl
 ·intro s hs;simp only[lX0,lV5,or_false,or_self] at hs;subst hs;exact⟨by show (0:Nat)<_;decide,List.Pairwise.nil,λe a6=>by cases a6⟩
 ·intro c hc _ s hs e a6;have:s=s0:=by
   rcases hc with rfl|rfl
   ·exact(Option.some.inj hs).symm
   ·exact(Option.some.inj hs).symm
  subst this;cases a6
theorem Ad {ts:List Inl}(H:wfE ts)(I:nw none ts)(b6:ts.length<999999990):zx ts (wT ts):=by
 intro σ R b9 q n c vs RM EM L w y E b8 h W;have c1:=E.length;have b7:=y.1;exact Cg (DRow.same y) E H I (by omega) h λw V b3 g a6 b4 a7 b5 O U=>W w V g.length b3 g b4 a6 b5.done O a7 (U.re)
theorem pV {s:List UInt8}{i j:Nat}(h:j<=s.length):(sub s i j).length=j - i:=by unfold sub;rw[lL1,lB1];omega
theorem pw {a b:List UInt8}{k:Nat}(h:a.length<=k):(a++b).getD k 0=b.getD (k - a.length) 0:=by
 rw[lP0,lH0 h,<-lP0]
theorem m7 {a b:List UInt8}{k:Nat}{d:UInt8}(h:k<a.length):(a++b).getD k d=a.getD k d:=by
 rw[lP0,lM0 h,<-lP0]
theorem pU (A B C:List UInt8):sub (A++(B++C)) A.length (A.length+B.length)=B:=by
 unfold sub;rw[<-lD0,show A.length+B.length=(A++B).length by simp,lO4,lB4]
theorem uW (A C:List UInt8)(b d:UInt8):(A++(b::C)).getD A.length d=b:=by
 rw[lP0,lH0 (lZ0 _),lV1];rfl
theorem m0 {l:List UInt8}{i:Nat}(h:i<l.length)(d:UInt8):l[i]=l.getD i d:=by
 rw[lP0,lI0 h];rfl
def Ep:Opt:=⟨false,false,false,false,false,false,false,false,false,false⟩
theorem Cm (s:List UInt8)(i k:Nat)(d:UInt8):(s.drop i).getD k d=s.getD (i+k) d:=by
 rw[lP0,lP0,lJ4]

theorem uM {s:List UInt8}(hs:s.length<1000000000)(g: ∀r,R (hQ (hV r)) w):callE P mS #[hX (bs s)] R w:=by
 refine gr.sound ?_;intro X H;have E: ∀ {Q:Ending->World->Prop} (c:Int),(∀r,Q (hQ (hV r)) w)->callE P kO #[.int .u8 c] Q w:=by
  intro Q c O;refine nh.sound ?_;exact O _
 have I: ∀k m,m+k=s.length->X (bs s) (m:Int) w:=by
  intro k
  induction k with
  |zero=>intro m W;exact H _ _ _ (ae (by simp;omega) (g _))
  |succ k V=>
   intro m W;refine H _ _ _ (ag (by simp;omega) ⟨by omega,by simp;omega,?_⟩);rw[show i64.wrap ((m:Int)+2)=((m+2:Nat):Int) by rw[show ((m:Int)+2)=((m+2:Nat):Int) by omega,i64_in _ (by omega)],aN (by omega)];have y:=V (m+1) (by omega);refine bJ (λ_=>?_) (λ_=>y);refine⟨λU=>?_,?_⟩
   ·simp at U;exact⟨by omega,by simp;omega⟩
   refine bJ (λ_=>?_) (λhb=>?_)
   ·exact⟨λh=>Bool.noConfusion h,g _⟩
   have a6:m+2<s.length:=by simp at hb;omega
   refine E _ λr=>⟨_,rfl,?_⟩
   refine⟨λ_=>⟨by omega,by simp;omega⟩,?_⟩;refine bJ (λ_=>g _) (λ_=>?_);exact E _ λr=>⟨_,rfl,bJ (λ_=>g _) (λ_=>y)⟩
 exact I s.length 0 (by omega)
theorem uL {b i:Nat}{p:PS}{s:List UInt8}(hs:s.length<1000000000)(hi:i<s.length)(hc:s[i]=91):pM b p s i (.func (.func gl) #[] #[]) [] (some (.openP [91] (i+1),i,i+1)) (λp'=>p'=p):=by
 intro σ R L w _ h g;refine gK (iY.sound ?_);unfold iY;rw[aN (by omega)];refine⟨by omega,by omega,by simp;omega,?_⟩;rw[lC0,lC0,bV];have e:(s.take (i+1)).drop i= [91]:=by
  rw[lF1 hi,lA5 (by rw[lB1];omega),hc]
 rw[e];refine Sat.bx h λnb w h=>?_
 exact g w p _ _ rfl rfl ⟨nb,_,rfl,rfl⟩ h.up1

def mr (s:List UInt8)(e i:Nat):List Inl:=if e<i then [.plain (sub s e i)] else []
theorem DI {b e i:Nat}{p:PS}{vs:List Value}{RM:List ai}(I:Sl 1 aC p.lq p.ln p.lc vs RM)(h:Sat σ w (p.at b::(RM++L)))(y:p.em=e)(W:i<=p.s.length)(a6:vs.length<1073741823)(O: ∀w (p':PS) E xs U,p'.core=p.core->p'.bt=p.bt->p'.em=((max e i:Nat):Int)->p'.corner=p.corner->Sl 1 aC p'.lq p'.ln p'.lc (vs++xs) E->InlsAt (mr p.s e i) xs U->Sat σ w (p'.at b::(E++(U++L)))->R (hQ (.tuple #[])) w):
 callE P dm #[kT (kE b),hY i] R w:=by
 by_cases hi:e<i
 ·have h:Sat σ w (p.at b::RM++L):=h
  refine Ck h ⟨I,by omega⟩ y hi W (by omega) λw p' H nb g V h=>?_
  refine O w p' H _ [qF nb (sub p.s e i)] (by rw[g];rfl) (by rw[g]) (by rw[g];show ((i:Nat):Int)=_;congr 1;omega) (by rw[g]) V.1 ?_ ?_
  ·unfold mr;rw[if_pos hi];exact InlsAt.one ⟨nb,[],_,rfl,rfl⟩
  ·have h:Sat σ w (p'.at b::H++(qF nb (sub p.s e i)::L)):=h
   exact h.re
 ·refine Cl h (by rw[y];omega) λw h=>?_
  refine O w p RM [] [] rfl rfl (by rw[y];congr 1;omega) rfl (by rw[lG0];exact I) ?_ h;unfold mr;rw[if_neg hi];exact⟨rfl,rfl⟩
def xk (lb:Nat)(inner:Value)(url title:List UInt8)(tc:UInt8)(cor:Bool):ai:=(lb,cel [inner,hX (bs url),hX (bs title),.int .u8 tc.toNat,hV cor] uk)
def vt (b:Nat)(p:PS)(raw:List UInt8)(i:Nat)(t:List UInt8)(k:Nat)(L0:List ai)(url title:List UInt8)(tc:UInt8)(cor:Bool)(en:Nat):Prop:=
 ∀(σ:Out) (R:Ending->World->Prop) (L:List ai) (w:World) (ob:Nat) (e:TypeId),(∀c∈L0,c∈L)->(ob,cel [hX (bs t),hY k] e)∈L->p.at b∈L->Sat σ w L->
  (∀w lb,Sat σ w (xk lb (hT none 0 0) url title tc cor::L)->R (hQ (.tuple #[kT (kE lb),hY en,hV true])) w)->
  callE P ej #[kT (kE b),hX (bs raw),hY i,kT (kE ob)] R w
theorem Sl.shrink {sz:Nat}{e:TypeId}{q:Option Addr}{n c m:Nat}{vs:List Value}{M:List ai}(h:Sl sz e q n c vs M)(y:m<=n):Sl sz e q m c (vs.take (m*sz)) M:=by
 obtain⟨I,O,g⟩:=h;have H:m*sz<=n*sz:=lN2 _ y;refine⟨by rw[lB1];omega,by omega,?_⟩;rcases g with ⟨rfl,rfl,rfl,rfl⟩|⟨b,sp,rfl,rfl,E⟩
 ·exact .inl ⟨rfl,by omega,rfl,rfl⟩
 ·refine .inr ⟨b,vs.drop (m*sz)++sp,rfl,?_,?_⟩
  ·rw[<-lD0,lT1]
  ·rw[<-lD0,lT1];exact E
theorem C6 {v:Value}(w:World):(Instr.typeAssert (.iface aQ v) aC aQ false).run P w= .ok v w:=
 xA (by rw[ny];intro g h;cases h) ny w
def zq (img:Bool)(g:List Inl)(url title:List UInt8)(tc:UInt8)(cor:Bool):Inl:=if img then .image g url title tc cor else .link g url title tc cor
def AtC (H:Bool)(I:BT->Prop)(X:XI)(σ:Out)(b:Nat)(p0:PS)(raw:List UInt8)(L:List ai)(i e:Nat)(ts:List Inl)(opens:List Nat)(lo:Int):Prop:=
 ∀w (p:PS) y E g,I p.bt->p.coreS=p0.coreS->p.s=raw->p.em=(e:Int)->IIn σ b p ts opens y E g L w->X (kE b) (bs raw) y E g lo H (i:Int) w
def GH (R:Ending->World->Prop)(X:XI)(b:Nat)(raw:List UInt8)(g:Bool):Prop:=
 ∀E H y lo (i:Int) w,av.bl1 R X (kE b) (bs raw) E H y lo g i w->X (kE b) (bs raw) E H y lo g i w
theorem AtC.close {X:XI}{b7:Bool}{e7:BT->Prop}{b pb i e en k:Nat}{p0:PS}{raw:List UInt8}{ts1 ts2:List Inl}{opens:List Nat}{lo:Int}{o:Opt}{t url title:List UInt8}{tc:UInt8}{cor img:Bool}{L0:List ai}(q4:GH R X b raw b7)(hi:i<raw.length)(hs:raw.length<1000000)(hc:raw[i]=93)(i3:p0.pz=kE pb)(q2:o.at pb∈L)(m8: ∀c∈L0,c∈L)(ht:t.getD 0 0=(if img then 33 else 91))(k0:t≠ [])(m3:img=true\/lo<=(k:Int))(r5:url.length<1000000)(h1: ∀p:PS,p.coreS=p0.coreS->p.s=raw->vt b p raw i t k L0 url title tc cor en)(n1:ts2++mr raw e i≠ [])(o0:wfE (ts2++mr raw e i))(o4:nw none (ts2++mr raw e i))(q5:(ts1++ts2).length<1000000)(s3:opens.length<1000000)(c2:AtC b7 e7 X σ b p0 raw L en en (ts1++ [zq img (wT (ts2++mr raw e i)) url title tc cor]) opens (if img then lo else (k:Int))):
 AtC b7 e7 X σ b p0 raw L i e (ts1++ .openP t k::ts2) (opens++ [ts1.length]) lo:=by
 intro w p b6 e6 b5 i8 e0 e9 q1 q0;refine q4 _ _ _ _ _ _ ?_;obtain⟨vs,RM,EM,H,c9,f4,c8,r4,c3⟩:=q0;refine kJ (p:=p) hi (by omega) (by rw[PS.pz_of e0,i3]) (.head _) (.tail _ (lB0 _ (lB0 _ (lB0 _ q2)))) c3 ?_;rw[hc,show jR o 93= .nil from rfl];refine zc ⟨by omega,by simp;omega,?_⟩;have m2:=c8.1;rw[lS0,lA0,lE0] at m2;refine ag (by rw[da hi 93 93 rfl,hc];simp;omega) ?_;have r1:i64.wrap ((e6:Int) - 1)=((opens.length:Nat):Int):=by rw[show ((e6:Int) - 1)=((opens.length:Nat):Int) by omega,i64_in _ (by omega)]
 rw[r1];refine⟨by omega,by omega,?_⟩;have s4:=c9.1;have s2:=c9.2.1;have o3:=f4.length;simp only[lA0,lF0] at o3 q5;have h2:Sat σ w (H++(p.at b::(RM++(EM++L)))):=c3.re
 refine c8.loadAt h2 (j:=opens.length) (v:= hY (ts1.length:Nat)) (by simp[lV0]) λt0 t3 n2=>?_
 simp only[lK0,lC0,lD1,lN0];refine⟨_,n2,aa ?_⟩;have h:=c3;refine⟨_,_,_,h.ldA,?_⟩;refine⟨by omega,by omega,?_⟩;obtain⟨E,v,y,I,t6,b9,rfl,rfl,g5,m1,g1⟩:=f4.mid;have o2:=g5.length;have r6:=g1.length;have s7:(E++v::y).length=E.length+(y.length+1):=by simp
 obtain⟨ob,g,rfl,rfl⟩:=m1;have h3:Sat σ w (RM++(p.at b::((I++([(ob,cel [hX (bs t),hY k] g)]++b9))++(H++L)))):=c3.re
 refine c9.loadAt h3 (j:=ts1.length) (v:=gL aQ ob) (by rw[lH0 (by omega),show ts1.length - E.length=0 by omega];rfl) λt8 s9 m5=>?_
 simp only[lK0,lC0,lD1,lN0];refine⟨_,m5,_,_,C6 w,_,_,_,_,qz rowInt.ht rowInt.hi b6 e6 b5 opens.length (by have:=c8.2.1;omega) w,aa ?_⟩;have d3:(ob,cel [hX (bs t),hY k] g)∈p.at b::(RM++((I++([(ob,cel [hX (bs t),hY k] g)]++b9))++(H++L))):=
  .tail _ (lB0 _ (lE1 _ (lB0 _ (lE1 _ (.head _)))))
 have e5:bt (bs t) 0=((t.getD 0 0).toNat:Int):=oP t 0
 have s8:0<t.length:=lY0.2 k0;refine⟨_,Sat.ld h d3 rfl,by decide,by simp;omega,?_⟩;rw[e5];have f6:=c8.shrink (m:=opens.length) (by omega);rw[lD1,lV0,lB5 (by simp)] at f6;have k8:av.k8 R X (kE b) (bs raw) b6 opens.length b5 lo b7 (i:Int) (ts1.length:Int) (kE ob) true w:=by
  refine ag rfl ?_;have n3:=h1 p e0 e9;refine n3 σ _ _ w ob g (λc hc=> .tail _ (lB0 _ (lB0 _ (lB0 _ (m8 c hc))))) d3 (.head _) h λw lb h=>⟨_,_,_,rfl,ag rfl ?_⟩
  have k9: ∀w r,Sat σ w (({p with corner:=r}:PS).at b::(xk lb (hT none 0 0) url title tc cor::(RM++((I++([(ob,cel [hX (bs t),hY k] g)]++b9))++(H++L)))))->
   av.k9 R X (kE b) (bs raw) b6 opens.length b5 lo b7 (i:Int) (ts1.length:Int) (kE ob) (kE lb) (en:Int) w:=by
   intro w r h;generalize c1:({p with corner:=r}:PS)=p1 at h;have p5:Sl 1 aC p1.lq p1.ln p1.lc (E++gL aQ ob::y) RM:=by rw[<-c1];exact c9
   have h5:p1.coreS=p0.coreS:=by rw[<-c1];exact e0
   have e3:p1.s=raw:=by rw[<-c1];exact e9
   have j0:p1.em=(e:Int):=by rw[<-c1];exact q1
   have h:Sat σ w (p1.at b::(RM++(xk lb (hT none 0 0) url title tc cor::((I++([(ob,cel [hX (bs t),hY k] g)]++b9))++(H++L))))):=h.re
   refine DI p5 h j0 (by rw[e3];omega) (by simp only[lA0,lF0];omega) λw p2 b8 xs q8 g7 h7 t2 r8 e2 d2 h=>⟨rfl,aa ?_⟩
   rw[e3] at d2;have i1:=PS.coreS_of g7 h5;have m6:p2.s=raw:=by rw[<-e3];have:=congrArg PS.s g7;exact this
   refine⟨_,_,_,h.ldA,?_⟩;have i2:=e2.1;have r7:=e2.2.1;have s6:=d2.length;have f0:=g1.append d2;have h9:=f0.length;have h6:0<(ts2++mr raw e i).length:=lY0.2 n1;simp only[lA0,lF0] at i2 h9 h6;have s1:(mr raw e i).length<=1:=by unfold mr;split<;>simp
   rw[aN (by omega)];refine⟨_,_,_,_,yU rowInl.ht rowInl.hi p2.lq p2.ln p2.lc (ts1.length+1) (by omega) w,?_⟩;rw[if_neg (by omega)];obtain⟨_,_,⟨_,t7,_⟩|⟨b3,sp,c4,d1,f5⟩⟩:=e2
   ·omega
   rw[c4];simp only[lI3,lK0,lN0,rowInl.hs,lD1];have i0:E++gL aQ ob::y++xs++sp=(E++ [gL aQ ob])++((y++xs)++sp):=by simp
   rw[i0] at d1 f5;have r3:DRow none 0 [] (y++xs) 0 (some ⟨b3,ts1.length+1,none⟩) (p2.ln - (ts1.length+1)) (p2.lc - (ts1.length+1)) b8 b8:=by
    refine⟨by simp;omega,by simp,.inr ⟨[],Sl.nil 1 aC,rfl,λj v hv=>⟨b3,_,(E++ [gL aQ ob])++((y++xs)++sp),aC,rfl,by rw[d1];exact .head _,?_⟩⟩⟩;rw[lH0 (by simp;omega),lM0 (by have:=(lL0.1 hv).1;simp at this⊢;omega)];rw[<-hv];congr 1;simp;omega
   have h:Sat σ w (b8++((b9++q8)++(p2.at b::(xk lb (hT none 0 0) url title tc cor::((ob,cel [hX (bs t),hY k] g)::(I++(H++L))))))):=h.re
   refine Cg r3 f0 o0 o4 (by omega) h λw a6 a7 O W t5 g0 j1 t4 h=>⟨_,_,_,rfl,aa ?_⟩
   obtain⟨_,_,⟨s5,junk,r9,_,n0,_⟩|⟨V,g6,m4,_⟩⟩:=j1
   ·simp at n0
   subst m4;have h:Sat σ w (xk lb (hT none 0 0) url title tc cor::(W++((V++b8)++(p2.at b::((ob,cel [hX (bs t),hY k] g)::(I++(H++L))))))):=h.re
   refine h.stA 0 λw h=>?_
   have h:Sat σ w (xk lb (hT a6 O.length a7) url title tc cor::(W++((V++b8)++(p2.at b::((ob,cel [hX (bs t),hY k] g)::(I++(H++L))))))):=h
   have h8:(ob,cel [hX (bs t),hY k] g)∈xk lb (hT a6 O.length a7) url title tc cor::(W++((V++b8)++(p2.at b::((ob,cel [hX (bs t),hY k] g)::(I++(H++L)))))):=
    .tail _ (lB0 _ (lB0 _ (.tail _ (.head _))))
   refine aa ⟨_,Sat.ld h h8 rfl,by decide,by simp;omega,?_⟩;rw[e5];have h:Sat σ w ((b3,cel ((E++ [gL aQ ob])++((y++xs)++sp)) aC)::(p2.at b::((ob,cel [hX (bs t),hY k] g)::(xk lb (hT a6 O.length a7) url title tc cor::(W++(V++(I++(H++L)))))))):=by rw[d1] at h;exact h.re
   have k10: ∀w (ty:TypeId),Sat σ w ((b3,cel ((E++ [gL ty lb])++((y++xs)++sp)) aC)::(p2.at b::((ob,cel [hX (bs t),hY k] g)::(xk lb (hT a6 O.length a7) url title tc cor::(W++(V++(I++(H++L))))))))->
    InlAt (zq img (wT (ts2++mr raw e i)) url title tc cor) (gL ty lb) (xk lb (hT a6 O.length a7) url title tc cor::(V++W))->
    av.k10 R X (kE b) (bs raw) b6 opens.length b5 lo b7 (ts1.length:Int) (kE ob) (en:Int) w:=by
    intro w ty h l5;refine aa ?_;refine⟨_,_,_,h.ldA,?_⟩;rw[aN (by omega)];refine⟨_,_,_,_,qz rowInl.ht rowInl.hi p2.lq p2.ln p2.lc (ts1.length+1) (by omega) w,aa ?_⟩;refine h.stA 1 λw h=>?_
    let d0:PS:= {p2 with ln:=ts1.length+1}
    have h:Sat σ w ((b3,cel ((E++ [gL ty lb])++((y++xs)++sp)) aC)::(d0.at b::((ob,cel [hX (bs t),hY k] g)::(xk lb (hT a6 O.length a7) url title tc cor::(W++(V++(I++(H++L)))))))):=h
    have h:Sat σ w (d0.at b::((b3,cel ((E++ [gL ty lb])++((y++xs)++sp)) aC)::((ob,cel [hX (bs t),hY k] g)::(xk lb (hT a6 O.length a7) url title tc cor::(W++(V++(I++(H++L)))))))):=h.re
    refine vL h λw h=>⟨rfl,aa ?_⟩
    generalize b4:({d0 with em:=(en:Int)}:PS)=p4 at h;have h4:p4.core=p2.core:=by rw[<-b4];rfl
    have c5: ∀w,Sat σ w (p4.at b::((b3,cel ((E++ [gL ty lb])++((y++xs)++sp)) aC)::((ob,cel [hX (bs t),hY k] g)::(xk lb (hT a6 O.length a7) url title tc cor::(W++(V++(I++(H++L))))))))->
     IIn σ b p4 (ts1++ [zq img (wT (ts2++mr raw e i)) url title tc cor]) opens b6 opens.length b5 L w:=by
     intro w h;refine⟨E++ [gL ty lb],[(b3,cel ((E++ [gL ty lb])++((y++xs)++sp)) aC)],I++(xk lb (hT a6 O.length a7) url title tc cor::(V++W)),H,?_,g5.append (InlsAt.one l5),f6,by simp;omega,?_⟩
     ·refine⟨by rw[<-b4];simp[d0];omega,by rw[<-b4];show ts1.length+1<=p2.lc;omega,.inr ⟨b3,(y++xs)++sp,by rw[<-b4];exact c4,rfl,?_⟩⟩;rw[<-b4];show _=p2.lc*1
      simp only[lA0,lE0] at f5⊢;omega
     ·exact h.less [(ob,cel [hX (bs t),hY k] g)]
    have f2:(ob,cel [hX (bs t),hY k] g)∈p4.at b::((b3,cel ((E++ [gL ty lb])++((y++xs)++sp)) aC)::((ob,cel [hX (bs t),hY k] g)::(xk lb (hT a6 O.length a7) url title tc cor::(W++(V++(I++(H++L))))))):= .tail _ (.tail _ (.head _))
    refine⟨_,Sat.ld h f2 rfl,by decide,by simp;omega,?_⟩;rw[e5];have f3:p4.coreS=p0.coreS:=PS.coreS_of h4 i1;have g4:p4.s=raw:=by rw[<-b4];exact m6
    have g2:p4.em=(en:Int):=by rw[<-b4]
    have e8:e7 p4.bt:=by
     have q3:p4.bt=p.bt:=by rw[<-b4];show p2.bt=_;rw[h7,<-c1]
     rw[q3];exact i8
    rcases lH4 img with U|U
    ·rw[U] at ht c2 c5;exact ae (by rw[ht];rfl) (c2 w p4 b6 _ b5 e8 f3 g4 g2 (c5 w h))
    ·rw[U] at ht c2 c5;exact ag (by rw[ht];rfl) (aa ⟨_,Sat.ld h f2 rfl,c2 w p4 b6 _ b5 e8 f3 g4 g2 (c5 w h)⟩)
   have f1: ∀v:Value,((E++ [gL aQ ob])++((y++xs)++sp)).set ts1.length v=(E++ [v])++((y++xs)++sp):=by
    intro v;rw[<-o2,lD0,lD0,lO1 _ _ (lZ0 _),lV1];simp
   have g3:ts1.length<((E++ [gL aQ ob])++((y++xs)++sp)).length:=by simp;omega
   rcases lH4 img with U|U
   ·refine ag (by rw[ht,U];rfl) (aa ?_);refine⟨_,_,_,h.ldA,?_⟩;refine⟨by omega,by omega,?_⟩;rw[c4];refine aa ?_;simp only[lK0,lC0,lD1,lN0,lN1];refine Sat.st h (k:=0) rfl g3 trivial rfl λw h=>?_
    rw[f1] at h;refine k10 w lr h ?_;rw[U];exact⟨lb,uk,a6,O.length,a7,O,V,W,rfl,rfl,g6,g0⟩
   ·refine ae (by rw[ht,U];rfl) (aa ?_);refine⟨_,_,_,h.ldA,?_⟩;refine⟨by omega,by omega,?_⟩;rw[c4];refine aa ?_;simp only[lK0,lC0,lD1,lN0,lN1];refine Sat.st h (k:=0) rfl g3 trivial rfl λw h=>?_
    rw[f1] at h;refine k10 w lm h ?_;rw[U];exact⟨lb,uk,a6,O.length,a7,O,V,W,rfl,rfl,g6,g0⟩
  have fin: ∀w r,Sat σ w (xk lb (hT none 0 0) url title tc cor::(({p with corner:=r}:PS).at b::(RM++((I++([(ob,cel [hX (bs t),hY k] g)]++b9))++(H++L)))))->
   av.k9 R X (kE b) (bs raw) b6 opens.length b5 lo b7 (i:Int) (ts1.length:Int) (kE ob) (kE lb) (en:Int) w:=λw r h=>k9 w r h.up1
  refine aa ⟨p.corner,Sat.ld h (.tail _ (.head _)) rfl,bJ (λ_=>aa ?_) (λ_=>?_)⟩
  ·refine h.stA 1 λw h=>?_
   exact fin _ true h
  ·refine aa ⟨cor,Sat.ld h (.head _) rfl,bJ (λ_=>aa ?_) (λ_=>?_)⟩
   ·refine h.stA 1 λw h=>?_
    exact fin _ true h
   ·refine aa ⟨bs url,Sat.ld h (.head _) rfl,?_⟩;refine uM (by omega) λr=>⟨_,rfl,aa ?_⟩
    refine h.stA 1 λw h=>?_
    exact fin _ r h
 rcases lH4 img with U|U
 ·exact ag (by rw[ht,U];rfl) k8
 ·refine ae (by rw[ht,U];rfl) (aa ⟨_,Sat.ld h d3 rfl,?_⟩);rw[decide_eq_true (m3.resolve_left (by rw[U];decide))];exact k8

structure TX where
 t:Nat
 s:Nat
 e:Nat
 raw:List UInt8
def TX.chunk (x:TX):ai:=fp x.t x.s x.e none 0 0 x.raw
structure DB where
 v:Value
 own:List ai
 txs:List TX
def cV (D:List DB):List ai:=D.flatMap DB.own
def cj (D:List DB):List TX:=D.flatMap DB.txs
theorem lu (D:List DB)(d:DB):cV (D++ [d])=cV D++d.own:=by simp[cV]
theorem jy (D:List DB)(d:DB):cj (D++ [d])=cj D++d.txs:=by simp[cj]
def jM (g s e:Nat):OB:=⟨.iface ar (kT (kE g)),none,0,0,s,e⟩
theorem zT {q:Option Addr}{n c:Nat}{ts:List (List UInt8)}{g:List ai}(y:Sl 1 aq q n c (ts.map λt=> hX (bs t)) g)(h:Sat σ w (g++L))(I:ts≠ [])(U:ts.length<1048576)(O:bv [10] ts≠ [])(hb:(bv [10] ts).length<1073741824)(E: ∀w,Sat σ w (g++L)->R (hQ (hX (bs (bv [10] ts)))) w):callE P fO #[hT q n c,hX (bs [10])] R w:=by
 have H:=y.1;simp only[lS0,lD1] at H
 match ts,I with
 | [t],_=>
  obtain rfl:n=1:=by simpa using H.symm
  have e:bv [10] [t]=t:=by simp[bv]
  rw[e] at E;exact Dx h y E
 |t::u::ts,_=>
  exact BK (t:=t) (ts:=u::ts) y h (by simp) (by omega) (by decide) (lY0.2 O) hb E
theorem vY {b g:Nat}{p:PS}{ob:List OB}{o:OB}{M E U:List ai}{ts:List Nat}{ls:List (List UInt8)}{s:List UInt8}(h:Sat σ w (p.at b::M++(E++(U++L))))(hs:Stk p (ob++ [o]) M)(ht:Txts p ts E)(a7:ts.length<1048575)(b6:q9 g ls U)(W:ls≠ [])(b3:ls.length<1048576)(O:bv [10] ls=s)(c2:s.length<1073741824)(a6:s≠ [])(hb:D7 s)(c4:o.s<1000000000)(b8: ∀w p' H t nb,p'= {p with tq:=p'.tq,tn:=ts.length+1,tc:=p'.tc}->Txts p' (ts++ [t]) H->
  Sat σ w (p'.at b::M++(H++(U++(kV nb o.s (o.s+ls.length - 1) t::fp t o.s (o.s+ls.length - 1) none 0 0 s::L))))->R (hQ (.iface bD (kT (kE nb)))) w):
 callE P iy #[kT (kE g),.iface ah (kT (kE b))] R w:=by
 obtain⟨q,c,y,b7,rfl⟩:=b6;have c3:1<=ls.length:=lY0.2 W;refine cF.sound ?_;have h:Sat σ w (p.at b::M++(E++(((g,cel [hT q ls.length c,kT none] aL)::y)++L))):=h
 have h:Sat σ w ((g,cel [hT q ls.length c,kT none] aL)::(y++(p.at b::M++(E++L)))):=h.re
 repeat (first|refine aa ?_|refine h.tk λw h=>?_|refine⟨_,h.ldA,?_⟩|refine⟨_,_,_,h.ldA,?_⟩)
 refine⟨_,w,jd vy _ _ _ w,ae rfl ?_⟩
 repeat (first|refine aa ?_|refine h.tk λw h=>?_|refine⟨_,h.ldA,?_⟩|refine⟨_,_,_,h.ldA,?_⟩)
 have h:Sat σ w (y++((g,cel [hT q ls.length c,kT none] aL)::(p.at b::M++(E++L)))):=h.re
 refine zT b7 h W b3 (by rw[O];exact a6) (by rw[O];exact c2) λw h=>⟨_,rfl,?_⟩
 rw[O];intro X c1;have V:((bs s).toList==(hP #[]).toList)=false:=by rw[cX,gi];simpa using a6
 refine c1 _ _ _ _ (ag (by rw[V];rfl) ?_);refine hb _ _ _ ⟨_,_,rfl,ag rfl ?_⟩;refine ae V ?_;have h:Sat σ w (p.at b::M++(E++(y++(g,cel [hT q ls.length c,kT none] aL)::L))):=h.re
 refine bm nG ?_;refine tH h hs λw h=>⟨_,_,rfl,?_⟩
 refine Sat.bx h λI w h=>?_
 repeat (first|refine aa ?_|refine h.tk λw h=>?_|refine⟨_,h.ldA,?_⟩|refine⟨_,_,_,h.ldA,?_⟩|refine h.stA 0 λw h=>?_|refine h.stA 1 λw h=>?_|refine h.stA 2 λw h=>?_|refine h.stA 3 λw h=>?_|refine h.stA 4 λw h=>?_|refine h.stA 5 λw h=>?_|refine h.stA 6 λw h=>?_|refine h.bx λb0 w h=>?_)
 have h:Sat σ _ ((I,cel [hY o.s,hY o.e] aF)::(p.at b::M++(E++(y++(g,cel [hT q ls.length c,kT none] aL)::L)))):=h
 have h:Sat σ _ ((I,cel [hY o.s,hY o.e] aF)::(g,cel [hT q ls.length c,kT none] aL)::(p.at b::M++(E++(y++L)))):=h.re
 refine⟨_,_,_,h.ldA,?_⟩;refine h.stA 0 λw h=>?_
 refine h.tk λw h=>?_
 refine⟨_,h.ldA,?_⟩;refine⟨_,h.ldA,?_⟩;refine⟨_,h.ldA,?_⟩;refine⟨_,h.ldA,?_⟩;have b9:i64.wrap (i64.wrap ((o.s:Int)+((ls.length:Nat):Int)) - 1)=((o.s+ls.length - 1:Nat):Int):=by
  rw[i64_in (_+_) (by omega),i64_in _ (by omega)];omega
 rw[b9] at h⊢;have h:Sat σ _ ((I,cel [hY o.s,hY (o.s+ls.length - 1:Nat)] aF)::(g,cel [hT q ls.length c,kT none] aL)::(p.at b::M++(E++(y++L)))):=h
 have hz:=h;have h:Sat σ _ (p.at b::E++((I,cel [hY o.s,hY (o.s+ls.length - 1:Nat)] aF)::(g,cel [hT q ls.length c,kT none] aL)::(M++(y++L)))):=h.re
 refine bm wj ?_;refine tK h ht a7 λw p' H t b4 b5 h=>⟨_,rfl,?_⟩
 refine⟨hz.same h (.head _) (by simp) 2,?_⟩;refine Sat.bx h λnb w h=>?_
 have h:Sat σ w (kV nb o.s (o.s+ls.length - 1) t::(p'.at b::H++(fp t o.s (o.s+ls.length - 1) none 0 0 s::((I,cel [hY o.s,hY (o.s+ls.length - 1:Nat)] aF)::(g,cel [hT q ls.length c,kT none] aL)::(M++(y++L)))))):=h
 refine b8 w p' H t nb b4 b5 ?_;have h:=Sat.less (L':=p'.at b::M++(H++(((g,cel [hT q ls.length c,kT none] aL)::y)++(kV nb o.s (o.s+ls.length - 1) t::fp t o.s (o.s+ls.length - 1) none 0 0 s::L)))) [(I,cel [hY o.s,hY (o.s+ls.length - 1:Nat)] aF)] h
 exact h
theorem wV {b b3:Nat}{p:PS}{ob:List OB}{par o:OB}{M V E IM:List ai}{inner:List Value}{ts:List Nat}{ls:List (List UInt8)}{s:List UInt8}(h:Sat σ w (p.at b::M++(IM++(V++(E++L)))))(hs:Stk p (ob++ [par]++ [o]) M)(b5:o.bd= .iface ar (kT (kE b3)))(e1:Sl 1 aO par.q par.n par.c inner IM)(b7:par.n<1000000)(ht:Txts p ts V)(b8:ts.length<1048575)(d2:q9 b3 ls E)(c4:ls≠ [])(c2:ls.length<1048576)(e2:bv [10] ls=s)(e3:s.length<1073741824)(c5:s≠ [])(hb:D7 s)(c9:o.s<1000000000)(e0: ∀w p' b4 W g t nb U O x,p'= {p with stn:=ob.length+1,tq:=p'.tq,tn:=ts.length+1,tc:=p'.tc}->Stk p' (ob++ [{par with q:=U,n:=par.n+1,c:=O}]) b4->Txts p' (ts++ [t]) g->
  Sl 1 aO U (par.n+1) O (inner++ [.iface bD (kT (kE nb))]) W->
  Sat σ w (p'.at b::b4++(W++(g++(kV nb o.s (o.s+ls.length - 1) t::fp t o.s (o.s+ls.length - 1) none 0 0 s::L))))->R (hQ x) w):
 callE P aJ #[kT (kE b)] R w:=by
 refine pC (ob:=ob) (par:=par) (IM:=IM) (inner:=inner) (λy a7 a6 q=> ∃g t nb,y= {p with tq:=y.tq,tn:=ts.length+1,tc:=y.tc}/\Txts y (ts++ [t]) g/\
  a7=g++(E++(kV nb o.s (o.s+ls.length - 1) t::fp t o.s (o.s+ls.length - 1) none 0 0 s::L))/\a6=bD/\q=kE nb) h hs b5 e1 b7 ?_ ?_
 ·intro e5 w h d3;rw[b5];have h:Sat σ w (p.at b::M++(V++(E++(IM++L)))):=h.re
  refine bm sZ ?_;refine vY (ob:=ob++ [par]) (o:=o) (ts:=ts) h hs ht b8 d2 c4 c2 e2 e3 c5 hb c9 λw p' g t nb H d0 h=>?_
  exact d3 w p' _ bD _ (by rw[H]) (by rw[H]) (by rw[H]) (by decide) ⟨g,t,nb,H,d0,rfl,rfl,rfl⟩ (h.re)
 ·intro w p2 e4 b9 y a7 a6 q U O b6 I d1 c1 h;obtain⟨g,t,nb,c3,c8,rfl,rfl,rfl⟩:=b6;refine e0 w p2 e4 b9 g t nb U O _ ?_ d1 (c8.of (by rw[I]) (by rw[I]) (by rw[I])) c1 (h.less E);rw[I,c3]

def dK (ls:List (List UInt8)):List UInt8:=ls.flatMap λl=>l++ [10]
def dJ (R:EP)(y g:BA)(w:World):Prop:=br (decide ((y.size:Int) >= (g.size:Int))) (0<=(g.size:Int)/\(g.size:Int)<=(y.size:Int)/\R (hQ (hV ((y.extract 0 (Int.toNat (g.size:Int))).toList==g.toList))) w) (R (hQ (hV false)) w)
theorem dJ.sound {R x0 x1 w}(h:dJ R x0 x1 w):callE P eW #[hX x0,hX x1] R w:=
 cC Tryz.func231 Tryz.call231 h
def nO (R:EP)(g:Int)(w:World):Prop:=R (hQ (hV (((decide (65<=g)) && (decide (g<=90)))||((decide (97<=g)) && (decide (g<=122)))))) w
theorem nO.sound {R x0 w}(h:nO R x0 w):callE P qh #[.int .u8 x0] R w:=
 cC Tryz.func202 Tryz.call202 h
def iF (R:EP)(E H:BA)(w:World):Prop:=callE P eW #[hX E,hX H] (λe y=>∃g,e= hQ (hV g)/\R (hQ (hV g)) y) w
theorem iF.sound {R x0 x1 w}(h:iF R x0 x1 w):callE P iu #[hX x0,hX x1] R w:=
 cC Tryz.func176 Tryz.call176 h

theorem Eh (c:UInt8)(n:Nat):decide ((n:Int)<=((c.toNat:Nat):Int))=decide (n<=c.toNat):=by rw[decide_eq_decide];omega
theorem Ei (c:UInt8)(n:Nat):decide (((c.toNat:Nat):Int)<=(n:Int))=decide (c.toNat<=n):=by rw[decide_eq_decide];omega
def Ax (c:UInt8):Bool:=(decide (65<=c.toNat) && decide (c.toNat<=90))||(decide (97<=c.toNat) && decide (c.toNat<=122))
theorem yb {c:UInt8}(g:R (hQ (hV (Ax c))) w):callE P qh #[.int .u8 (c.toNat:Int)] R w:=by
 refine nO.sound ?_;unfold nO;have e:(((decide ((65:Int)<=((c.toNat:Nat):Int))) && (decide (((c.toNat:Nat):Int)<=90)))||((decide ((97:Int)<=((c.toNat:Nat):Int))) && (decide (((c.toNat:Nat):Int)<=122))))=Ax c:=by
  unfold Ax;rw[<-Eh c 65,<-Ei c 90,<-Eh c 97,<-Ei c 122];rfl
 rw[e];exact g
theorem wI {s t:List UInt8}(g:R (hQ (hV (decide (s.take t.length=t)))) w):callE P iu #[hX (bs s),hX (bs t)] R w:=by
 refine iF.sound ?_;refine dJ.sound ?_
 by_cases y:t.length<=s.length
 ·refine ag (by simp;omega) ⟨by omega,by simp;omega,?_⟩;rw[aI,lC0,bV,lL2,cX,cX];have e:(s.take t.length==t)=decide (s.take t.length=t):=by rw[lY4];simp
  rw[e];exact⟨_,rfl,g⟩
 ·refine ae (by simp;omega) ?_;have:decide (s.take t.length=t)=false:=decide_eq_false λh=>by have:=congrArg List.length h;simp at this;omega
  rw[<-this];exact⟨_,rfl,g⟩
namespace cO
def bl1 (R:EP)(Xa:OA->Nat->Int->WP)(E:OA)(g:Nat)(y:Int)(w:World):Prop:=callE P fz #[kT (kE g),.int .u8 y] (λe I=>∃O,e= hQ (hV O)/\br O (Xa E g y I) (callE P ij #[kT (kE g)] (λe b3=>e= hQ (.tuple #[])/\callE P nJ #[kT (kE g)] (λe H=>∃U,e= hQ (hV U)/\br U (br (y==61) (aA E λa7=>stV H (a7.add 0) (hY 1) λV=>R (hQ (hV true)) V) (aA E λW=>stV H (W.add 0) (hY 2) λa6=>R (hQ (hV true)) a6)) (False)) b3) I)) w
def l1 (R:EP)(E:OA)(g:Nat)(y:Int)(w:World):Prop:=∀X:OA->Nat->Int->WP,(∀E g y w,bl1 R X E g y w->X E g y w)->X E g y w
def k1 (R:EP)(H:OA)(y:Nat)(E:Int)(g:Bool)(w:World):Prop:=br g (l1 R H y E w) (R (hQ (hV false)) w)
end cO
def cO (R:EP)(c1 b9:OA)(w:World):Prop:=aA c1 λa1=>∃H,w.cell? (a1.add 0)=some (hY H)/\∃E,w.cell? (a1.add 1)=some (hY E)/\∃U,w.cell? (a1.add 2)=some (hY U)/\∃I,w.cell? (a1.add 3)=some (hX I)/\∃O,w.cell? (a1.add 4)=some (.int .u8 O)/\box w #[hY 0,hY 0,hY 0,hX (hP #[]),.int .u8 0] aW λg b6=>stV b6 (hZ g 0) (hY H) λb8=>stV b8 (hZ g 1) (hY E) λb3=>stV b3 (hZ g 2) (hY U) λV=>stV V (hZ g 3) (hX I) λa6=>stV a6 (hZ g 4) (.int .u8 O) λb5=>callE P bl #[kT (kE g),hY 0,hY 3,hV false] (λe b4=>∃a7,e= hQ (hV a7)/\callE P iA #[kT (kE g)] (λe W=>∃y,e= hQ (.int .u8 y)/\cO.k1 R b9 g y ((y==45)||(y==61)) W) b4) b5
theorem cO.sound {R x0 x1 w}(h:cO R x0 x1 w):callE P fi #[kT x0,kT x1] R w:=
 aH [(111,.mk [22,106,128,340] (cO.k1 R)),(559,.lp [22,106,128] (cO.bl1 R) λXa=> []),(4015,.no)] Tryz.func194 Tryz.call194 h
def gY (R:EP)(c9 d0:OA)(c1 b7 b6:Int)(b8:BA)(b9:Int)(w:World):Prop:=box w #[hY c1,hY b7,hY b6,hX b8,.int .u8 b9] aW λb1 c8=>box c8 #[hY 0,hY 0,hY 0,hX (hP #[]),.int .u8 0] aW λg E=>∃W,E.cell? (hZ b1 0)=some (hY W)/\∃a7,E.cell? (hZ b1 1)=some (hY a7)/\∃b4,E.cell? (hZ b1 2)=some (hY b4)/\∃a6,E.cell? (hZ b1 3)=some (hX a6)/\∃b5,E.cell? (hZ b1 4)=some (.int .u8 b5)/\stV E (hZ g 0) (hY W) λc2=>stV c2 (hZ g 1) (hY a7) λc4=>stV c4 (hZ g 2) (hY b4) λc3=>stV c3 (hZ g 3) (hX a6) λc5=>stV c5 (hZ g 4) (.int .u8 b5) λy=>∃I,y.cell? (hZ g 0)=some (hY I)/\∃O,y.cell? (hZ g 1)=some (hY O)/\∃H,y.cell? (hZ g 2)=some (hY H)/\∃V,y.cell? (hZ g 3)=some (hX V)/\∃U,y.cell? (hZ g 4)=some (.int .u8 U)/\R (hQ (.tuple #[.agg #[hY I,hY O,hY H,hX V,.int .u8 U],hV false])) y
theorem gY.sound {R x0 x1 x2_0 x2_1 x2_2 x2_3 x2_4 w}(h:gY R x0 x1 x2_0 x2_1 x2_2 x2_3 x2_4 w):callE P gR #[kT x0,kT x1,.agg #[hY x2_0,hY x2_1,hY x2_2,hX x2_3,.int .u8 x2_4]] R w:=
 cC Tryz.func423 Tryz.call423 h

inductive Leaf where
 |none
 |para (ls:List (List UInt8))
 |other (A:List OB->List ai->Prop)
def CN:Leaf->List OB->List ai->Prop
 | .none,ob,M=>ob= []/\M= []
 | .para ls,ob,M=> ∃g s e,ob= [jM g s e]/\q9 g ls M/\s<1000000000/\ls≠ []/\ls.length<1048570
 | .other A,ob,M=>A ob M
def Ga (g:Nat):Value:= .iface ie (kT (kE g))
def PS.base (p:PS):PS:= {p with lineno:=0,stq:=none,stn:=0,stc:=0,depth:=0,corner:=false,tq:=none,tn:=0,tc:=0}
def j9 (nb t s e:Nat)(raw:List UInt8):DB:=⟨.iface bD (kT (kE nb)),[kV nb s e t],[⟨t,s,e,raw⟩]⟩
def Leaf.fin:Leaf->Prop
 | .none=>True
 | .para ls=>(bv [10] ls).length<1073741824/\bv [10] ls≠ []/\((bv [10] ls).dropWhile kX).head? ≠some 91
 | .other _=>False
def Leaf.finN:Leaf->Prop
 | .none=>True
 | .para ls=>(bv [10] ls).length<1073741824/\bv [10] ls≠ []/\D7 (bv [10] ls)
 | .other _=>False
theorem Leaf.fin.toN {lf:Leaf}(h:lf.fin):lf.finN:=by
 cases lf with
 |none=>trivial
 |para ls=>exact⟨h.1,h.2.1,Dq (by have:=h.1;omega) h.2.2⟩
 |other A=>exact h
theorem sa:mO P ar "pub-paratext/pub/rscmarkdown.extend" gR=true:=by kernel_rfl
theorem uD {y E:Option Addr}{l:Ln}(h:Sat σ w L)(g: ∀w,Sat σ w L->R (hQ (.tuple #[l.val,hV false])) w):callE P gR #[kT y,kT E,l.val] R w:=by
 refine gY.sound ?_;refine Sat.bx h λb1 w h=>?_
 refine Sat.bx h λH w h=>?_
 repeat (first|refine aa ?_|refine h.tk λw h=>?_|refine⟨_,h.ldA,?_⟩|refine⟨_,_,_,h.ldA,?_⟩|refine h.stA 0 λw h=>?_|refine h.stA 1 λw h=>?_|refine h.stA 2 λw h=>?_|refine h.stA 3 λw h=>?_|refine h.stA 4 λw h=>?_|refine h.stA 5 λw h=>?_|refine h.stA 6 λw h=>?_|refine h.bx λb0 w h=>?_)
 exact g _ h.tail.tail
theorem tN:(P.fieldsOf aW).toList.map (λf=>(f.name== "_",f.type,f.offset))= [(false,bg,0),(false,bg,1),(false,bg,2),(false,aq,3),(false,dx,4)]:=by kernel_rfl
theorem qT {xs E:Array Value}: ∀ {fs:List Field} {gs:List (TypeId × Nat)},fs.map (λf=>(f.name== "_",f.type,f.offset))=gs.map (λy=>(false,y.1,y.2))->
 (∀y∈gs,∃v,(part y.1 xs y.2).run P w= .ok v w/\(part y.1 E y.2).run P w= .ok v w/\(Op.equalIn 9999 y.1 v v).run P w= .ok true w)->(Op.eqFields 9999 xs E fs).run P w= .ok true w
 | [],[],_,_=>rfl
 | [],y::gs,h,_=>by simp at h
 |f::fs,[],h,_=>by simp at h
 |f::fs,y::gs,h,hg=>by
  simp only[lY1,lU0,Prod.mk.injEq] at h;obtain⟨⟨W,I,a7⟩,b5⟩:=h;obtain⟨v,O,U,H⟩:=hg y (lW1 ..);have b3:=qT b5 (λa6 V=>hg a6 (lQ1 _ V));have b4:f.name≠ "_" :=by simpa using W
  rw[<-I,<-a7] at O U;rw[<-I] at H;simp only[Op.eqFields,ne_eq,b4,not_false_eq_true,if_true,lW0,O,U,H,lJ0,Bool.not_true,lE3,if_false];exact b3
theorem pO:P.underlying bg=some (.int .i64):=by kernel_rfl
theorem Ed:P.underlying dx=some (.int .u8):=by kernel_rfl
theorem mu:P.underlying aq=some .string:=by kernel_rfl
theorem jA {t:TypeId}{d:TypeDesc}(hd:P.underlying t=some d)(y: ∀f,d≠ .struct f)(g: ∀n e,d≠ .array n e){cs:Array Value}{k:Nat}{v:Value}(hv:cs[k]? =some v)(w:World):(part t cs k).run P w= .ok v w:=by
 cases d<;>first|exact absurd rfl (y _)|exact absurd rfl (g _ _)|simp[part,isAgg,run_underlying hd,hv]
theorem uY {t:TypeId}{k:IntKind}(g:P.underlying t=some (.int k)){cs:Array Value}{i:Nat}{a:Int}(hv:cs[i]? =some (.int k a)): ∃v,(part t cs i).run P w= .ok v w/\(part t cs i).run P w= .ok v w/\(Op.equalIn 9999 t v v).run P w= .ok true w:=by
 have y:=jA g (λ_ h=>by cases h) (λ_ _ h=>by cases h) hv w;exact⟨_,y,y,by rw[run_equalIn_int w 9998 t k k a a g,beq_self_eq_true]⟩
theorem FB {cs:Array Value}{i:Nat}{a:ByteArray}(hv:cs[i]? =some (hX a)): ∃v,(part aq cs i).run P w= .ok v w/\(part aq cs i).run P w= .ok v w/\(Op.equalIn 9999 aq v v).run P w= .ok true w:=by
 have g:=jA mu (λ_ h=>by cases h) (λ_ _ h=>by cases h) hv w;exact⟨_,g,g,by rw[run_equalIn_string w 9998 aq a a mu,beq_self_eq_true]⟩
theorem Dt (l:Ln)(x H:Operand)(w:World):(do eqGuard .neq aW x H l.val l.val;binOp .neq aW l.val l.val).run P w= .ok (hV false) w:=by
 have E:(eqGuard .neq aW x H l.val l.val).run P w= .ok () w:=run_eqGuard_agg w .neq aW x H _ _ (by kernel_rfl);have hb:=run_neq_struct (P:=P) w aW #[hY l.sp,hY l.i,hY l.tab,hX (bs l.text),.int .u8 l.nl.toNat] #[hY l.sp,hY l.i,hY l.tab,hX (bs l.text),.int .u8 l.nl.toNat]
 have I:(Op.equalIn 10000 aW (.agg #[hY l.sp,hY l.i,hY l.tab,hX (bs l.text),.int .u8 l.nl.toNat]) (.agg #[hY l.sp,hY l.i,hY l.tab,hX (bs l.text),.int .u8 l.nl.toNat])).run P w= .ok true w:=by
  rw[run_equalIn_struct w 9999 aW _ _ (by kernel_rfl) (by kernel_rfl)];refine qT (gs:= [(bg,0),(bg,1),(bg,2),(aq,3),(dx,4)]) tN ?_;intro O E;simp only[lX0,lV5,or_false] at E;rcases E with rfl|rfl|rfl|rfl|rfl
  ·exact uY pO rfl
  ·exact uY pO rfl
  ·exact uY pO rfl
  ·exact FB rfl
  ·exact uY Ed rfl
 rw[lW0,E,lJ0];refine hb.trans ?_;rw[I];rfl

theorem oI {b3:OA->Nat->WP}{Y:OA->Nat->OA->Nat->Nat->Int->Int->WP}{b b1 nb:Nat}{e:TypeId}{p:PS}{M:List ai}{l:Ln}(b5: ∀U a6 E y H O I w,aj.bl2 R b3 Y U a6 E y H O I w->Y U a6 E y H O I w)(i:Nat):
 ∀(k:Nat) w,i<=8->k<=i->(∀j (W:j<newsF.length),k<=j->j<i->AD b p M l newsF[j])->Sat σ w (p.at b::M++(l.at b1::(nb,cel newsC e)::L))->
  (∀w,Sat σ w (p.at b::M++(l.at b1::(nb,cel newsC e)::L))->Y (kE b) b1 (kE nb) 8 8 8 (i:Nat) w)->Y (kE b) b1 (kE nb) 8 8 8 (k:Nat) w:=by
 intro k;generalize b9:i - k=m
 induction m generalizing k with
 |zero=>
  intro w hi a7 hd h g;obtain rfl:k=i:=by omega
  exact g w h
 |succ m b4=>
  intro w hi a7 hd h g;refine b5 _ _ _ _ _ _ _ _ (ag (by simp;omega) ⟨by omega,by omega,?_⟩);have V:k<newsF.length:=by show k<8;omega
  have b7:=lI0 V;refine aa ?_;simp only[lK0,lN0,lC0,lD1];have h:Sat σ w (l.at b1::(nb,cel newsC e)::(p.at b::(M++L))):=h.re
  refine⟨_,Sat.ld h (.tail _ (.head _)) (rW b7),?_⟩;refine⟨_,Sat.ld h (.head _) rfl,_,Sat.ld h (.head _) rfl,_,Sat.ld h (.head _) rfl,_,Sat.ld h (.head _) rfl,_,Sat.ld h (.head _) rfl,?_⟩;have h:Sat σ w (p.at b::M++(l.at b1::(nb,cel newsC e)::L)):=h.re
  refine gK ?_;refine hd k V (lZ0 _) (by omega) σ w _ _ h λw h=>⟨_,_,_,_,_,_,rfl,?_⟩
  repeat (first|refine aa ?_|refine h.tk λw h=>?_|refine⟨_,h.ldA,?_⟩|refine⟨_,_,_,h.ldA,?_⟩|refine h.stA 0 λw h=>?_|refine h.stA 1 λw h=>?_|refine h.stA 2 λw h=>?_|refine h.stA 3 λw h=>?_|refine h.stA 4 λw h=>?_|refine h.stA 5 λw h=>?_|refine h.stA 6 λw h=>?_|refine h.bx λb0 w h=>?_)
  rw[aN (by omega)];have h:Sat σ _ (l.at b0::(p.at b::M++(l.at b1::(nb,cel newsC e)::L))):=h
  exact b4 (k+1) (by omega) _ hi (by omega) (λj W b8 b6=>hd j W (by omega) b6) h.tail g
theorem ud {I:OA->Nat->WP}{b b1:Nat}{p:PS}{M:List ai}{l:Ln}(h:Sat σ w (p.at b::M++(l.at b1::L)))(hd: ∀f∈newsF,AD b p M l f)(H: ∀w nb e (E:Ending->World->Prop),Sat σ w (p.at b::M++(l.at b1::(nb,cel newsC e)::L))->(∀w k,R (hQ (.tuple #[])) w->E (hQ (.tuple #[Ln.zero.val,hV k])) w)->callE P pr #[kT (kE b),l.val] E w):
 aj.bl102 R I (kE b) b1 w:=by
 refine xU h λw nb e h=>⟨_,_,_,rfl,?_⟩
 intro Y y;have h:Sat σ w (p.at b::M++(l.at b1::(nb,cel newsC e)::L)):=h.re
 refine oI y 8 0 w (by omega) (by omega) (λj U _ _=>hd _ (lP1 U)) h λw h=>?_
 refine y _ _ _ _ _ _ _ _ (ae (by simp) ?_);have g:l.at b1∈p.at b::M++(l.at b1::(nb,cel newsC e)::L):=by simp
 refine⟨_,Sat.ld h g (i:=0) rfl,_,Sat.ld h g (i:=1) rfl,_,Sat.ld h g (i:=2) rfl,_,Sat.ld h g (i:=3) rfl,_,Sat.ld h g (i:=4) rfl,?_⟩;exact H w nb e _ h λw k O=>⟨_,_,_,_,_,_,rfl,O⟩
theorem nT {V:OA->Nat->WP}{b b1:Nat}{p:PS}{M:List ai}{l:Ln}(i:Nat)(hi:i<newsF.length)(h:Sat σ w (p.at b::M++(l.at b1::L)))(hd: ∀j (E:j<newsF.length),j<i->AD b p M l newsF[j])(U: ∀w nb e (I:Ending->World->Prop),Sat σ w (p.at b::M++(l.at b1::(nb,cel newsC e)::L))->
  (∀w g,Sat σ w (l.at b1::g)->(∀w,Sat σ w g->R (hQ (.tuple #[])) w)->I (hQ (.tuple #[Ln.zero.val,hV true])) w)->callE P newsF[i] #[kT (kE b),l.val] I w):
 aj.bl102 R V (kE b) b1 w:=by
 have a7:i<8:=hi;refine xU h λw nb e h=>⟨_,_,_,rfl,?_⟩
 intro Y H;have h:Sat σ w (p.at b::M++(l.at b1::(nb,cel newsC e)::L)):=h.re
 refine oI H i 0 w (by omega) (by omega) (λj E _ a6=>hd j E a6) h λw h=>?_
 refine H _ _ _ _ _ _ _ _ (ag (by simp;omega) ⟨by omega,by omega,?_⟩);have O:=lI0 hi;refine aa ?_;simp only[lK0,lN0,lC0,lD1];have h:Sat σ w (l.at b1::(nb,cel newsC e)::(p.at b::(M++L))):=h.re
 refine⟨_,Sat.ld h (.tail _ (.head _)) (rW O),?_⟩;refine⟨_,Sat.ld h (.head _) rfl,_,Sat.ld h (.head _) rfl,_,Sat.ld h (.head _) rfl,_,Sat.ld h (.head _) rfl,_,Sat.ld h (.head _) rfl,?_⟩;have h:Sat σ w (p.at b::M++(l.at b1::(nb,cel newsC e)::L)):=h.re
 refine gK ?_;refine U w nb e _ h λw g h W=>⟨_,_,_,_,_,_,rfl,?_⟩
 refine Sat.bx h λy w h=>?_
 refine h.stA 0 λw h=>?_
 refine h.stA 0 λw h=>?_
 refine h.stA 0 λw h=>?_
 refine h.stA 0 λw h=>?_
 refine h.stA 0 λw h=>?_
 have h:Sat σ w (Ln.zero.at y::l.at b1::g):=h
 refine ag rfl ?_;refine⟨_,h.ldA,?_⟩;refine⟨_,h.ldA,?_⟩;refine⟨_,h.ldA,?_⟩;refine⟨_,h.ldA,?_⟩;refine⟨_,h.ldA,?_⟩;refine h.stA 1 λw h=>?_
 refine h.stA 1 λw h=>?_
 refine h.stA 1 λw h=>?_
 refine h.stA 1 λw h=>?_
 refine h.stA 1 λw h=>?_
 have h:Sat σ w (Ln.zero.at y::Ln.zero.at b1::g):=h
 refine dC (l:=Ln.zero) h (.tail _ (.head _)) ⟨by decide,by decide,by decide,by decide⟩ λw h=>⟨_,rfl,?_⟩
 exact ag rfl (W _ h.tail.tail)
def Ln.rest (l:Ln):List UInt8:=(l.text.drop l.i).dropWhile cL
theorem uo {b nb:Nat}{l:Ln}{v:Int}{e:TypeId}(h:Sat σ w (l.at b::(nb,cel [hY v] e)::L))(g:l.ok)(H:(l.lead 3 false).peek≠45)(E:(l.lead 3 false).peek≠61)(y: ∀w,Sat σ w (l.at b::(nb,cel [hY v] e)::L)->R (hQ (hV false)) w):callE P fi #[kT (kE b),kT (kE nb)] R w:=by
 refine cO.sound ?_
 repeat (first|refine aa ?_|refine h.tk λw h=>?_|refine⟨_,h.ldA,?_⟩|refine⟨_,_,_,h.ldA,?_⟩|refine h.stA 0 λw h=>?_|refine h.stA 1 λw h=>?_|refine h.stA 2 λw h=>?_|refine h.stA 3 λw h=>?_|refine h.stA 4 λw h=>?_|refine h.stA 5 λw h=>?_|refine h.stA 6 λw h=>?_|refine h.bx λb0 w h=>?_)
 have h:Sat σ _ (l.at b0::l.at b::(nb,cel [hY v] e)::L):=h
 refine lead_ok (max:=3) h g (by decide) λw h=>⟨_,rfl,?_⟩
 refine lS h (by first|assumption|(repeat (first|exact .head _|apply List.Mem.tail))) (Ln.lead_ok g) λw h=>⟨_,rfl,?_⟩
 rw[u8b _ 45 45 rfl,u8b _ 61 61 rfl];exact ae (by simp[H,E]) (y _ h.tail)
theorem u6 {t u e:TypeId}{i j:TypeInfo}{H:Array (String × TypeId)}(I:P.underlying t=some (.interface H))(hi:P.info? u=some i)(hc:i.comparable=true)(E:P.underlying u=some (.pointer e))(U:P.info? e=some j)(hs:j.size≠0)(b:Nat)(x V:Operand)(w:World):
 (do eqGuard .eql t x V (.iface u (kT (kE b))) (.iface u (kT (kE b)));binOp .eql t (.iface u (kT (kE b))) (.iface u (kT (kE b)))).run P w= .ok (hV true) w:=by
 refine wX rfl rfl ?_;have O: ∀d,(Op.equalIn (d+1) u (kT (kE b)) (kT (kE b))).run P w= .ok true w:=λd=>by
  simp[Op.equalIn,run_underlying E,sizeOf,typeInfo,U,hs,sameAddr]
 have g: ∀d,(Op.equalIn (d+2) t (.iface u (kT (kE b))) (.iface u (kT (kE b)))).run P w= .ok true w:=λd=>by
  rw[Op.equalIn];simp[run_underlying I,typeInfo,hi,hc,O]
 exact g 9998
theorem qR (b:Nat)(x g:Operand)(w:World):
 (do eqGuard .eql bO x g (.iface ar (kT (kE b))) (.iface ar (kT (kE b)));binOp .eql bO (.iface ar (kT (kE b))) (.iface ar (kT (kE b)))).run P w= .ok (hV true) w:=
 u6 tr (i:=(P.info? ar).getD default) (j:=(P.info? aL).getD default) (by kernel_rfl) (by kernel_rfl) kw (by kernel_rfl) (by rw[show ((P.info? aL).getD default).size=2 by kernel_rfl];decide) b x g w
structure Ln.cont (l:Ln):Prop where
 plain:l.plain
 lt:(l.lead 3 false).peek≠60
 dash:(l.lead 3 false).peek≠45
 eq:(l.lead 3 false).peek≠61

theorem vj {t:TypeId}{k:IntKind}(g:P.underlying t=some (.int k)){cs y:Array Value}{i:Nat}{a b:Int}(hv:cs[i]? =some (.int k a))(E:y[i]? =some (.int k b)): ∃u v r,(part t cs i).run P w= .ok u w/\(part t y i).run P w= .ok v w/\(Op.equalIn 9999 t u v).run P w= .ok r w:=
 ⟨_,_,_,jA g (λ_ h=>by cases h) (λ_ _ h=>by cases h) hv w,jA g (λ_ h=>by cases h) (λ_ _ h=>by cases h) E w,run_equalIn_int w 9998 t k k a b g⟩
theorem FI {cs g:Array Value}{i:Nat}{a b:ByteArray}(hv:cs[i]? =some (hX a))(y:g[i]? =some (hX b)): ∃u v r,(part aq cs i).run P w= .ok u w/\(part aq g i).run P w= .ok v w/\(Op.equalIn 9999 aq u v).run P w= .ok r w:=
 ⟨_,_,_,jA mu (λ_ h=>by cases h) (λ_ _ h=>by cases h) hv w,jA mu (λ_ h=>by cases h) (λ_ _ h=>by cases h) y w,run_equalIn_string w 9998 aq a b mu⟩

structure TF where
 q:Option Addr
 n:Nat
 c:Nat
 vs:List Value
 RM:List ai
 KM:List ai
 KM':List ai
 f:List UInt8->List UInt8
def fill (x:TX)(t:TF):List ai:=fp x.t x.s x.e t.q t.n t.c x.raw::(t.RM++t.KM)
def iM (R:EP)(b3:OA)(b5:Value)(w:World):Prop:=aA b3 λa1=>∃a7,w.cell? a1=some (kT a7)/\aA a7 λa3=>stV w ((a3.add 3).add 0) (kT none) λb8=>tk b8 λg=>aA b3 λE=>∃b4,g.cell? (E.add 1)=some (hY b4)/\cW P (callMethod b5 "pub-paratext/pub/rscmarkdown.pos" #[]) (λe y=>∃H U,e= hQ (.agg #[hY H,hY U])/\SameC g y (E.add 1) 1/\cW P (callMethod b5 "pub-paratext/pub/rscmarkdown.blocks" #[]) (λe W=>∃O I V,e= hQ (hT O I V)/\SameC y W (E.add 1) 1/\box W #[hY H,hY U,hT O I V,hY b4] mF λb6 b7=>R (hQ (.iface fG (kT (kE b6)))) b7) y) g
theorem iM.sound {R x0 x1 w}(h:iM R x0 x1 w):callE P iD #[kT x0,x1] R w:=
 aH [(11,.dr (rpN [0,6,12,15,18,22,5,11,24,29,30,33]))] Tryz.func438 Tryz.call438 h
def gW (R:EP)(a7:OA)(O:Value)(w:World):Prop:=cW P (callMethod O "pub-paratext/pub/rscmarkdown.pos" #[]) (λe V=>∃y g,e= hQ (.agg #[hY y,hY g])/\cW P (callMethod O "pub-paratext/pub/rscmarkdown.blocks" #[]) (λe W=>∃H E I,e= hQ (hT H E I)/\box W #[hY y,hY g,hT H E I] yM λa6 U=>R (hQ (.iface jX (kT (kE a6)))) U) V) w
theorem gW.sound {R x0 x1 w}(h:gW R x0 x1 w):callE P gP #[kT x0,x1] R w:=
 cC Tryz.func434 Tryz.call434 h
namespace aV
def k3 (R:EP)(H:OA)(b9:Value)(E:Nat)(w:World):Prop:=tk w λg=>aA H λa6=>aA H λb3=>aA H λb4=>∃W,g.cell? (hZ E 0)=some (hY W)/\∃V,g.cell? (hZ E 1)=some (hY V)/\∃b6,g.cell? a6=some (.int .i32 b6)/\∃b5,g.cell? (b3.add 1)=some (hY b5)/\∃a7,g.cell? (b4.add 2)=some (hV a7)/\cW P (callMethod b9 "pub-paratext/pub/rscmarkdown.blocks" #[]) (λe y=>∃I U O,e= hQ (hT I U O)/\SameC g y (b4.add 2) 1/\SameC g y (b3.add 1) 1/\SameC g y (a6) 1/\SameC g y (hZ E 0) 2/\box y #[hY W,hY V,.int .i32 b6,hY b5,hV a7,hT I U O] uj λb7 b8=>R (hQ (.iface dk (kT (kE b7)))) b8) g
def bl4 (R:EP)(Xa:OA->Value->Nat->OA->Nat->Nat->Int->Int->WP)(c5:OA->Value->Nat->OA->OA->Nat->Nat->Int->Int->OA->Nat->Nat->Int->Int->WP)(b5:OA)(b6:Value)(b4:Nat)(a6 H:OA)(y I:Nat)(W V:Int)(E:OA)(O b7:Nat)(U g:Int)(w:World):Prop:=br (decide (g<U)) (0<=g/\g<(O:Int)/\aA E λd1=>∃(c4:Value),w.cell? (d1.add (Int.toNat g*1))=some c4/\∃b8 b9 a7,(Instr.typeAssert c4 aO bD true).run P w= .ok (.tuple #[kT b8,hV b9]) a7/\br b9 (tk a7 λb3=>aA a6 λd2=>aA b8 λc9=>∃c2 c1 c8,b3.cell? (d2.add 2)=some (hT c2 c1 c8)/\∃c3,b3.cell? (c9.add 2)=some (kT c3)/\0<=g/\g<(c1:Int)/\aA c2 λd0=>stV b3 ((d0.add (Int.toNat g*1)).add 0) (.iface dU (kT c3)) λd3=>c5 b5 b6 b4 a6 H y I W V E O b7 U (i64.wrap (g+1)) d3) (c5 b5 b6 b4 a6 H y I W V E O b7 U (i64.wrap (g+1)) a7)) (Xa b5 b6 b4 H y I W (i64.wrap (V+1)) w)
def l4 (R:EP)(Xa:OA->Value->Nat->OA->Nat->Nat->Int->Int->WP)(b5:OA)(b4:Value)(b3:Nat)(a7 H:OA)(O I:Nat)(W V:Int)(y:OA)(E g:Nat)(a6 U:Int)(w:World):Prop:=∀X:OA->Value->Nat->OA->OA->Nat->Nat->Int->Int->OA->Nat->Nat->Int->Int->WP,(∀b5 b4 b3 a7 H O I W V y E g a6 U w,bl4 R Xa X b5 b4 b3 a7 H O I W V y E g a6 U w->X b5 b4 b3 a7 H O I W V y E g a6 U w)->X b5 b4 b3 a7 H O I W V y E g a6 U w
def bl2 (R:EP)(Xa:OA->Value->Nat->OA->Nat->Nat->Int->Int->WP)(b4:OA)(b3:Value)(a7:Nat)(O:OA)(I b5:Nat)(V g:Int)(w:World):Prop:=br (decide (g<V)) (0<=g/\g<(I:Int)/\aA O λb6=>∃(a6:Value),w.cell? (b6.add (Int.toNat g*1))=some a6/\∃E H,(Instr.typeAssert a6 aO fG false).run P w= .ok (kT E) H/\aA E λb7=>∃W y U,H.cell? (b7.add 2)=some (hT W y U)/\l4 R Xa b4 b3 a7 E O I b5 V g W y U (y:Int) 0 H) (k3 R b4 b3 a7 w)
def l2 (R:EP)(V:OA)(U:Value)(O:Nat)(g:OA)(E y:Nat)(I H:Int)(w:World):Prop:=∀X:OA->Value->Nat->OA->Nat->Nat->Int->Int->WP,(∀V U O g E y I H w,bl2 R X V U O g E y I H w->X V U O g E y I H w)->X V U O g E y I H w
def k1 (R:EP)(g:OA)(I:Value)(O:OA)(E U H:Nat)(w:World):Prop:=aA g λV=>∃y,w.cell? (V.add 2)=some (hV y)/\br (!y) (l2 R g I H O E U (E:Int) 0 w) (k3 R g I H w)
def bl3 (R:EP)(e9:OA->Value->OA->Nat->Nat->Nat->OA->Nat->Nat->Int->Int->WP)(d1:OA->Value->OA->Nat->Nat->Nat->OA->OA->Nat->Nat->Int->Int->OA->Nat->Nat->Int->Int->WP)(E:OA)(W:Value)(O:OA)(I H U:Nat)(V a7:OA)(b5 b3:Nat)(b8 b7:Int)(a6:OA)(b4 c2:Nat)(b6 g:Int)(w:World):Prop:=br (decide (g<b6)) (0<=g/\g<(b4:Int)/\aA a6 λe7=>∃(d0:Value),w.cell? (e7.add (Int.toNat g*1))=some d0/\cW P (callMethod d0 "Pos" #[]) (λe y=>∃d3 b9,e= hQ (.agg #[hY d3,hY b9])/\aA V λe4=>∃e1 c4 e0,y.cell? (e4.add 2)=some (hT e1 c4 e0)/\br (decide ((i64.wrap (g+1))<(c4:Int))) (aA V λe5=>∃c5 c3 e2,y.cell? (e5.add 2)=some (hT c5 c3 e2)/\0<=(i64.wrap (g+1))/\(i64.wrap (g+1))<(c3:Int)/\aA c5 λe6=>∃(c9:Value),y.cell? (e6.add (Int.toNat (i64.wrap (g+1))*1))=some c9/\cW P (callMethod c9 "Pos" #[]) (λe c8=>∃c1 d2,e= hQ (.agg #[hY c1,hY d2])/\br (decide ((i64.wrap (c1 - b9))>1)) (aA E λe8=>stV c8 ((e8.add 2).add 0) (hV true) λe3=>k1 R E W O I H U e3) (d1 E W O I H U V a7 b5 b3 b8 b7 a6 b4 c2 b6 (i64.wrap (g+1)) c8)) y) (d1 E W O I H U V a7 b5 b3 b8 b7 a6 b4 c2 b6 (i64.wrap (g+1)) y)) w) (e9 E W O I H U a7 b5 b3 b8 (i64.wrap (b7+1)) w)
def l3 (R:EP)(b9:OA->Value->OA->Nat->Nat->Nat->OA->Nat->Nat->Int->Int->WP)(b8:OA)(b7:Value)(V:OA)(a7 b3 b5:Nat)(b6 E:OA)(O H:Nat)(a6 W:Int)(y:OA)(g I:Nat)(b4 U:Int)(w:World):Prop:=∀X:OA->Value->OA->Nat->Nat->Nat->OA->OA->Nat->Nat->Int->Int->OA->Nat->Nat->Int->Int->WP,(∀b8 b7 V a7 b3 b5 b6 E O H a6 W y g I b4 U w,bl3 R b9 X b8 b7 V a7 b3 b5 b6 E O H a6 W y g I b4 U w->X b8 b7 V a7 b3 b5 b6 E O H a6 W y g I b4 U w)->X b8 b7 V a7 b3 b5 b6 E O H a6 W y g I b4 U w
def k2 (R:EP)(b6:OA->Value->OA->Nat->Nat->Nat->OA->Nat->Nat->Int->Int->WP)(b8:OA)(b7:Value)(V:OA)(a7 b3 b5:Nat)(H I:OA)(U O:Nat)(a6 W:Int)(w:World):Prop:=aA H λb4=>∃y g E,w.cell? (b4.add 2)=some (hT y g E)/\l3 R b6 b8 b7 V a7 b3 b5 H I U O a6 W y g E (g:Int) 0 w
def bl1 (R:EP)(c3:OA->Value->OA->Nat->Nat->Nat->OA->Nat->Nat->Int->Int->WP)(H:OA)(W:Value)(E:OA)(y O V:Nat)(a6:OA)(a7 b7:Nat)(b4 g:Int)(w:World):Prop:=br (decide (g<b4)) (0<=g/\g<(a7:Int)/\aA a6 λa14=>∃(c2:Value),w.cell? (a14.add (Int.toNat g*1))=some c2/\∃U b3,(Instr.typeAssert c2 aO fG false).run P w= .ok (kT U) b3/\br (decide ((i64.wrap (g+1))<(y:Int))) (tk b3 λI=>0<=(i64.wrap (g+1))/\(i64.wrap (g+1))<(y:Int)/\aA E λc8=>aA U λc1=>∃(b8:Value),I.cell? (c8.add (Int.toNat (i64.wrap (g+1))*1))=some b8/\∃b9,I.cell? (c1.add 1)=some (hY b9)/\cW P (callMethod b8 "Pos" #[]) (λe b5=>∃b6 c4,e= hQ (.agg #[hY b6,hY c4])/\SameC I b5 (c1.add 1) 1/\br (decide ((i64.wrap (b6 - b9))>1)) (aA H λc9=>stV b5 ((c9.add 2).add 0) (hV true) λc5=>k1 R H W E y O V c5) (k2 R c3 H W E y O V U a6 a7 b7 b4 g b5)) I) (k2 R c3 H W E y O V U a6 a7 b7 b4 g b3)) (k1 R H W E y O V w)
def l1 (R:EP)(a7:OA)(a6:Value)(H:OA)(U V W:Nat)(g:OA)(E y:Nat)(O I:Int)(w:World):Prop:=∀X:OA->Value->OA->Nat->Nat->Nat->OA->Nat->Nat->Int->Int->WP,(∀a7 a6 H U V W g E y O I w,bl1 R X a7 a6 H U V W g E y O I w->X a7 a6 H U V W g E y O I w)->X a7 a6 H U V W g E y O I w
end aV
def aV (R:EP)(b6:OA)(I:Value)(w:World):Prop:=cW P (callMethod I "pub-paratext/pub/rscmarkdown.blocks" #[]) (λe b8=>∃y g H,e= hQ (hT y g H)/\cW P (callMethod I "pub-paratext/pub/rscmarkdown.pos" #[]) (λe b9=>∃V U,e= hQ (.agg #[hY V,hY U])/\box b9 #[hY 0,hY 0] aF λE b7=>stV b7 (hZ E 0) (hY V) λc1=>stV c1 (hZ E 1) (hY U) λa6=>0<=(i64.wrap ((g:Int) - 1))/\(i64.wrap ((g:Int) - 1))<(g:Int)/\aA y λa9=>∃(W:Value),a6.cell? (a9.add (Int.toNat (i64.wrap ((g:Int) - 1))*1))=some W/\cW P (callMethod W "Pos" #[]) (λe b3=>∃a7 O,e= hQ (.agg #[hY a7,hY O])/\stV b3 (hZ E 1) (hY O) λb4=>aV.l1 R b6 I y g H E y g H (g:Int) 0 b4) a6) b8) w
theorem aV.sound {R x0 x1 w}(h:aV R x0 x1 w):callE P iz #[kT x0,x1] R w:=
 aH [(701,.lp [2,25,103,126,663,687,707] (aV.bl1 R) λg=> [(1203,.dr (rpN [0,3,6,9,21,24,27,30,13,34,17,18,36,39])),(243,.mk [2,25,103,126,182,663,687,707] (aV.k2 R g)),(755,.lp [2,25,103,126,182,663,687,707,1343,1367,1387] (aV.bl3 R g) λy=> [])]),(253,.mk [2,25,103,126] (aV.k1 R)),(5501,.lp [2,25,126,2163,2187,2207] (aV.bl2 R) λXa=> [(371,.lp [2,25,126,302,2163,2187,2207,2383,2407,2427] (aV.bl4 R Xa) λE=> [(371,.dr (rpN [0,3,6,12,15,18,21,10,25,27,30,35]))])]),(509,.mk [2,25,126] (aV.k3 R)),(765,.dr (rpN [3,6,9,15,18,21,27,30,33,39,1,13,25,37,44,45,50,51,54]))] Tryz.func436 Tryz.call436 h
namespace gq
def bl1 (R:EP)(Xa:OA->Nat->Nat->Int->Int->WP)(b8:OA)(b7 c8:Nat)(b6 y:Int)(w:World):Prop:=br (decide (y<b6)) (0<=y/\y<(b7:Int)/\aA b8 λa3=>∃(b9:Value),w.cell? (a3.add (Int.toNat y*1))=some b9/\∃I g,(Instr.typeAssert b9 aO fG false).run P w= .ok (kT I) g/\aA I λd0=>∃c5 b3 c9,g.cell? (d0.add 2)=some (hT c5 b3 c9)/\br ((b3:Int)==0) (R (hQ (hV true)) g) (aA I λa9=>∃W a6 c4,g.cell? (a9.add 2)=some (hT W a6 c4)/\0<=(0:Int)/\0<(a6:Int)/\aA W λa11=>∃(E:Value),g.cell? (a11.add (Int.toNat 0*1))=some E/\∃c3 O b5,(Instr.typeAssert E aO dk true).run P g= .ok (.tuple #[kT c3,hV O]) b5/\∃c1 V b4,(Instr.typeAssert E aO cT true).run P b5= .ok (.tuple #[kT c1,hV V]) b4/\∃c2 U H,(Instr.typeAssert E aO cI true).run P b4= .ok (.tuple #[kT c2,hV U]) H/\br (O||(V||U)) (R (hQ (hV true)) H) (Xa b8 b7 c8 b6 (i64.wrap (y+1)) H))) (R (hQ (hV false)) w)
def l1 (R:EP)(H:OA)(I g:Nat)(E y:Int)(w:World):Prop:=∀X:OA->Nat->Nat->Int->Int->WP,(∀H I g E y w,bl1 R X H I g E y w->X H I g E y w)->X H I g E y w
end gq
def gq (R:EP)(H:OA)(w:World):Prop:=aA H λa1=>∃E g y,w.cell? (a1.add 5)=some (hT E g y)/\gq.l1 R E g y (g:Int) 0 w
theorem gq.sound {R x0 w}(h:gq R x0 w):callE P kN #[kT x0] R w:=
 aH [(21,.lp [183,207,227] (gq.bl1 R) λXa=> [])] Tryz.func154 Tryz.call154 h
def li (R:EP)(W V:Int)(w:World):Prop:=box w #[hY W,hY V] aF λb1 a6=>box a6 #[hY 0,hY 0] aF λg E=>∃I,E.cell? (hZ b1 0)=some (hY I)/\∃O,E.cell? (hZ b1 1)=some (hY O)/\stV E (hZ g 0) (hY I) λa7=>stV a7 (hZ g 1) (hY O) λy=>∃U,y.cell? (hZ g 0)=some (hY U)/\∃H,y.cell? (hZ g 1)=some (hY H)/\R (hQ (.agg #[hY U,hY H])) y
theorem li.sound {R x0_0 x0_1 w}(h:li R x0_0 x0_1 w):callE P cz #[.agg #[hY x0_0,hY x0_1]] R w:=
 cC Tryz.func305 Tryz.call305 h

def kG (P:Program)(t:TypeId)(H:String)(f:FuncId):Bool:=
 match P.info? t with
 |some i=>match i.methods.find? (·.name==H) with
  |some m=>match m.path.toList with
   | [s]=>s.deref && (match P.underlying s.struct with
    |some (.struct E)=>match E[s.index]? with
     |some y=>Nat.beq y.offset 0 && (match P.info? y.type with
      |some I=>Nat.beq I.size 2 && (match P.underlying y.type with
       |some (.struct _)=>(match m.func with|some (g,false)=>Nat.beq g f|_=>false)
       |_=>false)
      |none=>false)
     |none=>false
    |_=>false)
   |_=>false
  |none=>false
 |none=>false
theorem zP {P:Program}{t:TypeId}{U:String}{f:FuncId}(h:kG P t U f=true)(b:Nat)(V:Nat)(w:World){x H:Value}(b5:w.cell? (hZ b 0)=some x)(b4:w.cell? (hZ b 1)=some H):
 (Go.method (V+1) t (kT (kE b)) U).run P w= .ok (f,.agg #[x,H]) w:=by
 have a7:(loadCells (hZ b 0) 2).run P w= .ok #[x,H] w:=by
  refine run_loadCells_list (P:=P) (w:=w) (hZ b 0) [x,H] ?_;intro j v E
  match j,E with
  |0,E=>cases E;simpa[Addr.add] using b5
  |1,E=>cases E;simpa[Addr.add] using b4
 unfold kG at h;split at h
 ·rename_i i hi;split at h
  ·rename_i m c1;split at h
   ·rename_i s b6;simp only[lK1] at h;obtain⟨hd,h⟩:=h;split at h
    ·rename_i c2 b7;split at h
     ·rename_i c3 b8;simp only[lK1] at h;obtain⟨O,h⟩:=h;have O:=lI1 O;split at h
      ·rename_i c4 b3;simp only[lK1] at h;obtain⟨I,h⟩:=h;have I:=lI1 I;split at h
       ·rename_i fs W;split at h
        ·rename_i g b9;have a6:=lI1 h;subst a6;simp[Go.method,typeInfo,hi,c1,b6,Go.follow,run_underlying b7,b8,hd,Go.Place.get,asAddr,Go.fieldPlace,sizeOf,b3,I,O,b9,Go.receiverAt,run_underlying W,lK0,loadVar,isAgg,a7]
        ·cases h
       ·cases h
      ·cases h
     ·cases h
    ·cases h
   ·cases h
  ·cases h
 ·cases h
theorem yv {t:TypeId}{E:String}{f:FuncId}{b:Nat}{g:Array Value}{x H:Value}(O:kG P t E f=true)(U:w.cell? (hZ b 0)=some x)(I:w.cell? (hZ b 1)=some H)(h:callE P f (#[.agg #[x,H]]++g) R w):
 cW P (callMethod (.iface t (kT (kE b))) E g) R w:=by
 obtain⟨n,V⟩:=tY P;have hr:=zP O b n w U I;have e:(callMethod (.iface t (kT (kE b))) E g).run P w=(callFunc f (#[.agg #[x,H]]++g)).run P w:=by
  simp only[callMethod,lW0,run_program,lJ0,V,hr]
 unfold cW;rw[e];exact h.imp (λh=>⟨f,_,w,h.1 _ _,h.2⟩) id
theorem xM {s e:Int}(h:Sat σ w L)(g: ∀w,Sat σ w L->R (hQ (.agg #[hY s,hY e])) w):callE P cz #[.agg #[hY s,hY e]] R w:=by
 refine li.sound ?_;refine Sat.bx h λb1 w h=>?_
 refine Sat.bx h λy w h=>?_
 repeat (first|refine aa ?_|refine h.tk λw h=>?_|refine⟨_,h.ldA,?_⟩|refine⟨_,_,_,h.ldA,?_⟩|refine h.stA 0 λw h=>?_|refine h.stA 1 λw h=>?_|refine h.stA 2 λw h=>?_|refine h.stA 3 λw h=>?_|refine h.stA 4 λw h=>?_|refine h.stA 5 λw h=>?_|refine h.stA 6 λw h=>?_|refine h.bx λb0 w h=>?_)
 exact g _ h.tail.tail
theorem o9:kG P bD "Pos" cz=true:=by kernel_rfl
theorem yX:kG P fG "Pos" cz=true:=by kernel_rfl
theorem yW:kG P dk "Pos" cz=true:=by kernel_rfl
theorem vT:kG P jX "Pos" cz=true:=by kernel_rfl
theorem pa:kG P cI "Pos" cz=true:=by kernel_rfl
def DB.posIs (d:DB)(s e:Nat):Prop:=
 ∀(σ:Out) (R:Ending->World->Prop) (L:List ai) (w:World),(∀c∈d.own,c∈L)->Sat σ w L->(∀w,Sat σ w L->R (hQ (.agg #[hY s,hY e])) w)->cW P (callMethod d.v "Pos" #[]) R w
theorem jQ {t:TypeId}{b s e:Nat}{cs:List Value}{ty:TypeId}{d:DB}(H:kG P t "Pos" cz=true) (hv:d.v= .iface t (kT (kE b))) (y:(b,cel (hY s:: hY e::cs) ty)∈d.own):d.posIs s e:=by
 intro σ R L w I h E;rw[hv];have g:=I _ y;exact yv H (Sat.ld h g (i:=0) rfl) (Sat.ld h g (i:=1) rfl) (xM h E)
def dn (R:EP)(c9 c2:Nat)(d0 E:Nat)(w:World):Prop:=box w #[hY 0,hY 0,hY 0,hX (hP #[]),.int .u8 0] aW λb1 I=>∃b7,I.cell? (hZ c9 0)=some (kT b7)/\∃b8,I.cell? (hZ c2 0)=some (kT b8)/\callE P bQ #[kT b7,.iface bu (kT b8)] (λe H=>e= hQ (.tuple #[])/\∃c1,H.cell? (hZ d0 0)=some (kT c1)/\∃b9,H.cell? (hZ c2 0)=some (kT b9)/\aA c1 λa9=>stV H ((a9.add 3).add 0) (kT b9) λg=>∃a6,g.cell? (hZ E 0)=some (hY a6)/\∃O,g.cell? (hZ E 1)=some (hY O)/\∃b3,g.cell? (hZ E 2)=some (hY b3)/\∃b4,g.cell? (hZ E 3)=some (hX b4)/\∃a7,g.cell? (hZ E 4)=some (.int .u8 a7)/\stV g (hZ b1 0) (hY a6) λc5=>stV c5 (hZ b1 1) (hY O) λc3=>stV c3 (hZ b1 2) (hY b3) λc4=>stV c4 (hZ b1 3) (hX b4) λc8=>stV c8 (hZ b1 4) (.int .u8 a7) λy=>∃U,y.cell? (hZ b1 0)=some (hY U)/\∃V,y.cell? (hZ b1 1)=some (hY V)/\∃W,y.cell? (hZ b1 2)=some (hY W)/\∃b6,y.cell? (hZ b1 3)=some (hX b6)/\∃b5,y.cell? (hZ b1 4)=some (.int .u8 b5)/\R (hQ (.agg #[hY U,hY V,hY W,hX b6,.int .u8 b5])) y) I
theorem dn.sound {R x0 x1 x2 x3 w}(h:dn R x0 x1 x2 x3 w):callE P d8 #[kT (kE x0),kT (kE x1),kT (kE x2),kT (kE x3)] R w:=
 cC Tryz.func244 Tryz.call244 h

theorem jr {E:OA->Nat->WP}{b b1:Nat}{p:PS}{M:List ai}{l l2:Ln}(i:Nat)(hi:i<newsF.length)(h:Sat σ w (p.at b::M++(l.at b1::L)))(hd: ∀j (H:j<newsF.length),j<i->AD b p M l newsF[j])(U:l2.ok)(V:l2.blank=false)(a6: ∀w nb e (O:Ending->World->Prop),Sat σ w (p.at b::M++(l.at b1::(nb,cel newsC e)::L))->
  (∀w g (p2:PS),p2.depth<1000000/\0<=p2.depth->Sat σ w (l.at b1::p2.at b::g)->(∀w,Sat σ w (l2.at b1::({p2 with depth:=p2.depth+1}:PS).at b::g)->E (kE b) b1 w)->O (hQ (.tuple #[l2.val,hV true])) w)->callE P newsF[i] #[kT (kE b),l.val] O w):
 aj.bl102 R E (kE b) b1 w:=by
 have b5:i<8:=hi;refine xU h λw nb e h=>⟨_,_,_,rfl,?_⟩
 intro Y I;have h:Sat σ w (p.at b::M++(l.at b1::(nb,cel newsC e)::L)):=h.re
 refine oI I i 0 w (by omega) (by omega) (λj H _ a7=>hd j H a7) h λw h=>?_
 refine I _ _ _ _ _ _ _ _ (ag (by simp;omega) ⟨by omega,by omega,?_⟩);have W:=lI0 hi;refine aa ?_;simp only[lK0,lN0,lC0,lD1];have h:Sat σ w (l.at b1::(nb,cel newsC e)::(p.at b::(M++L))):=h.re
 refine⟨_,Sat.ld h (.tail _ (.head _)) (rW W),?_⟩;refine⟨_,Sat.ld h (.head _) rfl,_,Sat.ld h (.head _) rfl,_,Sat.ld h (.head _) rfl,_,Sat.ld h (.head _) rfl,_,Sat.ld h (.head _) rfl,?_⟩;have h:Sat σ w (p.at b::M++(l.at b1::(nb,cel newsC e)::L)):=h.re
 refine gK ?_;refine a6 w nb e _ h λw g p2 b4 h b3=>⟨_,_,_,_,_,_,rfl,?_⟩
 refine Sat.bx h λy w h=>?_
 refine h.stA 0 λw h=>?_
 refine h.stA 0 λw h=>?_
 refine h.stA 0 λw h=>?_
 refine h.stA 0 λw h=>?_
 refine h.stA 0 λw h=>?_
 have h:Sat σ w (l2.at y::l.at b1::p2.at b::g):=h
 refine ag rfl ?_;refine⟨_,h.ldA,?_⟩;refine⟨_,h.ldA,?_⟩;refine⟨_,h.ldA,?_⟩;refine⟨_,h.ldA,?_⟩;refine⟨_,h.ldA,?_⟩;refine h.stA 1 λw h=>?_
 refine h.stA 1 λw h=>?_
 refine h.stA 1 λw h=>?_
 refine h.stA 1 λw h=>?_
 refine h.stA 1 λw h=>?_
 have h:Sat σ w (l2.at y::l2.at b1::p2.at b::g):=h
 refine dC h (.tail _ (.head _)) U λw h=>⟨_,rfl,?_⟩
 rw[V];refine ae rfl (aa ?_);refine⟨_,h.ldA,?_⟩;refine aa ?_;rw[i64_in _ (by omega)];refine Sat.st h (k:=2) rfl (by simp[PS.cells]) trivial rfl λw h=>?_
 have h:Sat σ w (l2.at y::l2.at b1::({p2 with depth:=p2.depth+1}:PS).at b::g):=h
 exact b3 w h.tail
def E8 (g:Nat):ai:=(g,cel [] mz)
def quoV (g:Nat):Value:= .iface gz (kT (kE g))

def Ln.bullet (l:Ln):Option (UInt8 × Nat × Ln):=
 if (l.strip 3 0).2.peek=45\/(l.strip 3 0).2.peek=42\/(l.strip 3 0).2.peek=43 then
  match ((l.strip 3 0).2.trimC (l.strip 3 0).2.peek).bind (·.trimSp 1 1 true) with
  |none=>none
  |some g=>match (g.strip 3 0).2.trimSp 1 1 true with
   |none=>some ((l.strip 3 0).2.peek,(l.strip 3 0).1+2+(g.strip 3 0).1,(g.strip 3 0).2)
   |some _=>some ((l.strip 3 0).2.peek,(l.strip 3 0).1+2,g)
 else none
theorem Ln.bullet_ok {l t:Ln}{c:UInt8}{n:Nat}(y:l.ok)(h:l.bullet=some (c,n,t)):t.ok/\n<=8/\(c=45\/c=42\/c=43):=by
 unfold Ln.bullet at h;have O:=Ln.strip_ok 3 0 y;split at h
 ·rename_i hc;split at h
  ·cases h
  ·rename_i V H;obtain⟨t1,I,U⟩:=lW5.1 H;have g:=Ln.trimSp_ok (Ln.trimC_ok O.1 I) U;have E:=Ln.strip_ok 3 0 g;split at h
   ·simp only[lH1,Prod.mk.injEq] at h;obtain⟨rfl,rfl,rfl⟩:=h;exact⟨E.1,by omega,hc⟩
   ·simp only[lH1,Prod.mk.injEq] at h;obtain⟨rfl,rfl,rfl⟩:=h;exact⟨g,by omega,hc⟩
 ·cases h
theorem A9 {b:Nat}{q:Option Addr}{l t:Ln}{c:UInt8}{n:Nat}(h:Sat σ w (l.at b::L))(c8:l.ok)(hb:l.bullet=some (c,n,t))(b8: ∀w b0 b1 b2 (t':Ln),Sat σ w (t.at b0::(b1,cel [kT q] ah)::t'.at b2::l.at b::L)->am.k8 R b1 b0 (n:Nat) (c.toNat:Int) 0 w):
 callE P bN #[kT q,kT (kE b)] R w:=by
 refine am.sound ?_;refine Sat.bx h λb1 w h=>?_
 repeat (first|refine aa ?_|refine h.tk λw h=>?_|refine⟨_,h.ldA,?_⟩|refine⟨_,_,_,h.ldA,?_⟩|refine h.stA 0 λw h=>?_|refine h.stA 1 λw h=>?_|refine h.stA 2 λw h=>?_|refine h.stA 3 λw h=>?_|refine h.stA 4 λw h=>?_|refine h.stA 5 λw h=>?_|refine h.stA 6 λw h=>?_|refine h.bx λb0 w h=>?_)
 have h:Sat σ _ (l.at b0::(b1,cel [kT q] ah)::l.at b::L):=h
 have k6: ∀(E g:Ln) (y m:Nat) b2 w,y<=100->m<=100->E.ok->g.ok->(match g.trimSp 1 1 true with|none=>some (c,y+m,g)|some _=>some (c,y,E))=some (c,n,t)->
  Sat σ w (E.at b0::(b1,cel [kT q] ah)::g.at b2::l.at b::L)->am.k6 R b1 b0 (y:Nat) (c.toNat:Int) 0 b2 (m:Nat) w:=by
  intro E g y m b2 w c3 d0 a6 O U h;have h:Sat σ w (g.at b2::E.at b0::(b1,cel [kT q] ah)::l.at b::L):=h.re
  refine YtendaipfdnhnaaaGreatDoor.trimSp_ok (min:=1) (max:=1) h O (by decide) (by decide) ?_;cases hs:g.trimSp 1 1 true with
  |none=>
   rw[hs] at U;simp only[lH1,Prod.mk.injEq,true_and] at U;obtain⟨rfl,rfl⟩:=U;intro w h;refine⟨_,rfl,ag rfl ?_⟩;refine⟨_,h.ldA,?_⟩;refine⟨_,h.ldA,?_⟩;refine⟨_,h.ldA,?_⟩;refine⟨_,h.ldA,?_⟩;refine⟨_,h.ldA,?_⟩;refine h.stA 1 λw h=>?_
   refine h.stA 1 λw h=>?_
   refine h.stA 1 λw h=>?_
   refine h.stA 1 λw h=>?_
   refine h.stA 1 λw h=>?_
   rw[show ((y:Nat):Int)+((m:Nat):Int)=((y+m:Nat):Int) by omega,i64_in _ (by omega)];have h:Sat σ w (g.at b2::g.at b0::(b1,cel [kT q] ah)::l.at b::L):=h
   exact b8 w b0 b1 b2 g (h.re)
  |some c5=>
   rw[hs] at U;simp only[lH1,Prod.mk.injEq,true_and] at U;obtain⟨rfl,rfl⟩:=U;intro w h;refine⟨_,rfl,ae rfl ?_⟩;exact b8 w b0 b1 b2 c5 (h.re)
 have fin: ∀(y:Nat) (W:Ln) w,W.ok->y<=3->l.strip 3 0=(y,W)->Sat σ w (W.at b0::(b1,cel [kT q] ah)::l.at b::L)->am.k1 R b1 b0 (y:Nat) w:=by
  intro y W w b7 c3 c1 h;unfold Ln.bullet at hb;rw[c1] at hb;simp only at hb;split at hb
  case isFalse=>cases hb
  rename_i hc;refine lS h (by first|assumption|(repeat (first|exact .head _|apply List.Mem.tail))) b7 λw h=>⟨_,rfl,?_⟩
  split at hb
  case h_1=>cases hb
  rename_i E c9;obtain⟨t1,b5,b9⟩:=lW5.1 c9;have ec:W.peek=c:=by
   split at hb<;>simp only[lH1,Prod.mk.injEq] at hb<;>exact hb.1
  rw[ec] at hc b5 hb⊢;have o1:=Ln.trimC_ok b7 b5;have a6:=Ln.trimSp_ok o1 b9;have k2:am.k2 R b1 b0 (y:Nat) (c.toNat:Int) 0 (c.toNat:Int) true w:=by
   refine ag rfl ?_;refine trimC_ok (c:=c) rfl h b7 ?_;rw[b5];intro w h;refine⟨_,rfl,?_⟩;unfold am.k3;refine YtendaipfdnhnaaaGreatDoor.trimSp_ok (min:=1) (max:=1) h o1 (by decide) (by decide) ?_;rw[b9];intro w h;refine⟨_,rfl,ae rfl ?_⟩;refine⟨_,h.ldA,?_⟩;refine⟨_,h.ldA,?_⟩;refine⟨_,h.ldA,?_⟩;refine⟨_,h.ldA,?_⟩;refine⟨_,h.ldA,?_⟩;refine Sat.bx h λb2 w h=>?_
   refine h.stA 0 λw h=>?_
   refine h.stA 0 λw h=>?_
   refine h.stA 0 λw h=>?_
   refine h.stA 0 λw h=>?_
   refine h.stA 0 λw h=>?_
   have h:Sat σ w (E.at b2::E.at b0::(b1,cel [kT q] ah)::l.at b::L):=h
   rw[aN (by omega),aN (by omega)];intro X V;have a7: ∀k m (g:Ln) w,g.ok->k+m=3->g.strip k m=E.strip 3 0->Sat σ w (g.at b2::E.at b0::(b1,cel [kT q] ah)::l.at b::L)->X b1 b0 ((y+1+1:Nat):Int) (c.toNat:Int) 0 b2 (m:Nat) (m:Nat) w:=by
    intro k m g w O c4 H h
    induction k generalizing m g w with
    |zero=>
     have H:(m,g)=E.strip 3 0:=H;refine V _ _ _ _ _ _ _ _ _ (ae (by simp;omega) ?_);rw[<-H] at hb;exact k6 E g (y+1+1) m b2 w (by omega) (by omega) a6 O hb (h.re)
    |succ k b6=>
     refine V _ _ _ _ _ _ _ _ _ (ag (by simp;omega) ?_);refine YtendaipfdnhnaaaGreatDoor.trimSp_ok (min:=1) (max:=1) h O (by decide) (by decide) ?_;simp only[Ln.strip] at H;cases hs:g.trimSp 1 1 false with
     |none=>
      rw[hs] at H;have H:(m,g)=E.strip 3 0:=H;rw[<-H] at hb;exact λw h=>⟨_,rfl,ae rfl (k6 E g (y+1+1) m b2 w (by omega) (by omega) a6 O hb (h.re))⟩
     |some t'=>
      rw[hs] at H;intro w h;refine⟨_,rfl,ag rfl ?_⟩;unfold am.k5;rw[aN (by omega)];exact b6 (m+1) t' w (Ln.trimSp_ok O hs) (by omega) H h
   exact a7 3 0 E w a6 rfl rfl h
  by_cases b3:c=45
  ·subst b3;exact ag rfl k2
  refine ae (ue (d:=45) rfl b3) ?_
  by_cases b4:c=42
  ·subst b4;exact ag rfl k2
  refine ae (ue (d:=42) rfl b4) ?_;have c2:c=43:=by
   rcases hc with h|h|h
   ·exact absurd h b3
   ·exact absurd h b4
   ·exact h
  rw[show (((c.toNat:Nat):Int)==43)=true by rw[c2];rfl];exact k2
 intro X V;have a7: ∀k n (t:Ln) w,t.ok->k+n=3->t.strip k n=l.strip 3 0->Sat σ w (t.at b0::(b1,cel [kT q] ah)::l.at b::L)->X b1 b0 n n w:=by
  intro k n t w ht c4 I h
  induction k generalizing n t w with
  |zero=>exact V _ _ _ _ _ (ae (by simp;omega) (fin n t w ht (by omega) I.symm h))
  |succ k b6=>
   refine V _ _ _ _ _ (ag (by simp;omega) ?_);refine YtendaipfdnhnaaaGreatDoor.trimSp_ok (min:=1) (max:=1) h ht (by decide) (by decide) ?_;simp only[Ln.strip] at I;cases hs:t.trimSp 1 1 false with
   |none=>
    rw[hs] at I;exact λw h=>⟨_,rfl,ag rfl (fin n t w ht (by omega) I.symm h)⟩
   |some t'=>
    rw[hs] at I;intro w h;refine⟨_,rfl,ae rfl ?_⟩;rw[aN (by omega)];exact b6 (n+1) t' w (Ln.trimSp_ok ht hs) (by omega) I h
 exact a7 3 0 l _ c8 rfl rfl h
structure pL (l:Ln) (c:UInt8) (num n:Nat) (t:Ln):Prop where
 ok:t.ok
 wd:n<=100
 run: ∀ {σ:Out} {w:World} {L:List ai} {R:Ending->World->Prop} {b:Nat} {q:Option Addr},Sat σ w (l.at b::L)->
  (∀w b0 b1 b2 (t':Ln),Sat σ w (t.at b0::(b1,cel [kT q] ah)::t'.at b2::l.at b::L)->am.k8 R b1 b0 (n:Nat) (c.toNat:Int) (num:Nat) w)->
  callE P bN #[kT q,kT (kE b)] R w
theorem Ln.marks {l t:Ln}{c:UInt8}{n:Nat}(g:l.ok)(hb:l.bullet=some (c,n,t)):pL l c 0 n t:=by
 obtain⟨ht,E,_⟩:=Ln.bullet_ok g hb;exact⟨ht,by omega,λh y=>A9 h g hb y⟩
def xe (x:UInt8):Prop:=cL x=false/\x≠62/\x≠35
theorem zf (c:UInt8):IntKind.i32.wrap ((c.toNat:Nat):Int)=((c.toNat:Nat):Int):=by
 have:=lD2.1 (show (List.range 256).all (λn=>IntKind.i32.wrap (n:Int)==(n:Int))=true by kernel_rfl) c.toNat (lX2.2 c.toNat_lt)
 simpa using this

def cM (lb:Nat)(bul num:Int)(loose:Bool)(item:Option Addr)(g:Value):ai:=(lb,cel [.int .i32 bul,hY num,hV loose,kT item,g] fK)
def BB (lb:Nat):Value:= .iface az (kT (kE lb))
def gc (ib lb n:Nat)(hv:Bool):ai:=(ib,cel [kT (kE lb),hY n,hV hv] g9)
def CU (ib:Nat):Value:= .iface bu (kT (kE ib))
def ku (H g y E:Nat):Value:= .func (.func d8) #[] #[kT (kE H),kT (kE g),kT (kE y),kT (kE E)]
abbrev gM (x lb:Nat):ai:=(x,cel [kT (kE lb)] az)
abbrev jf (x ib:Nat):ai:=(x,cel [kT (kE ib)] bu)
theorem pX {U E y lb n:Nat}{bul num:Int}{loose:Bool}{item:Option Addr}{td:Value}{t:Ln}(h:Sat σ w (cM lb bul num loose item td::t.at E::gM y lb::L))(ht:t.ok)(V: ∀w g ib,Sat σ w (cM lb bul num loose item (ku U g y E)::t.at E::gM y lb::jf g ib::gc ib lb n (!t.blank)::L)->R (hQ (hV true)) w):
 am.k13 R U E (n:Nat) y w:=by
 have k14: ∀w g ib,Sat σ w (cM lb bul num loose item td::t.at E::gM y lb::jf g ib::gc ib lb n (!t.blank)::L)->am.k14 R U E y g w:=by
  intro w g ib h;refine⟨_,Sat.ld h (.tail _ (.tail _ (.head _))) (i:=0) rfl,aa ?_⟩;refine h.stA 0 λw h=>?_
  exact V w g ib h
 have H:gM y lb∈(cM lb bul num loose item td::t.at E::gM y lb::L):= .tail _ (.tail _ (.head _))
 refine Sat.tk h λw h=>⟨kE lb,Sat.ld h H (i:=0) rfl,?_,?_⟩
 ·have O:=h;refine dC h (.tail _ (.head _)) ht λw h=>⟨_,rfl,O.same h H H 1,?_,?_⟩
  ·refine Sat.bx h λib w h=>?_
   have I:=h;refine Sat.bx h λg w h=>⟨I.same h (.tail _ H) (.tail _ (.tail _ H)) 1,?_⟩
   refine h.stA 0 λw h=>?_
   have h:Sat σ w (jf g ib::gc ib lb n (!t.blank)::(cM lb bul num loose item td::t.at E::gM y lb::L)):=h
   exact k14 w g ib (h.re)
  ·have I:=h;refine Sat.bx h λg w h=>⟨I.same h H (.tail _ H) 1,?_⟩
   refine Sat.bx h λib w h=>?_
   have h:Sat σ w ((g,cel [kT none] bu)::gc ib lb n (!t.blank)::(cM lb bul num loose item td::t.at E::gM y lb::L)):=h.re (by intro _;simp only[gc,lN3,dE,eK,me]<;>omega)
   refine h.stA 0 λw h=>?_
   have h:Sat σ w (jf g ib::gc ib lb n (!t.blank)::(cM lb bul num loose item td::t.at E::gM y lb::L)):=h
   exact k14 w g ib (h.re)
 ·have I:=h;refine Sat.bx h λg w h=>⟨I.same h H (.tail _ H) 1,?_⟩
  have O:=h;refine dC h (.tail _ (.tail _ (.head _))) ht λw h=>⟨_,rfl,O.same h (.tail _ H) (.tail _ H) 1,?_⟩
  refine Sat.bx h λib w h=>?_
  have h:Sat σ w ((g,cel [kT none] bu)::gc ib lb n (!t.blank)::(cM lb bul num loose item td::t.at E::gM y lb::L)):=h.re (by intro _;simp only[gc,lN3,dE,eK,me]<;>omega)
  refine h.stA 0 λw h=>?_
  have h:Sat σ w (jf g ib::gc ib lb n (!t.blank)::(cM lb bul num loose item td::t.at E::gM y lb::L)):=h
  exact k14 w g ib (h.re)
theorem mv:P.underlying az=some (.pointer fK):=by kernel_rfl
theorem EL:P.underlying ar=some (.pointer aL):=by kernel_rfl
theorem xB (w:World):(Instr.typeAssert .nilIface bO az true).run P w= .ok (.tuple #[kT none,hV false]) w:=by
 have hi:P.info? az=some ((P.info? az).getD default):=by kernel_rfl
 have hz:((P.info? az).getD default).zero=some (kT none):=by kernel_rfl
 generalize (P.info? az).getD default=i at hi hz;simp[Instr.typeAssert,run_underlying mv,zeroValue,typeInfo,hi,hz]
theorem kC (q:Option Addr)(w:World):(Instr.typeAssert (.iface az (kT q)) bO az true).run P w= .ok (.tuple #[kT q,hV true]) w:=
 oa (by rw[mv];intro g h;cases h) mv w
theorem zF {b b1:Nat}{p:PS}{ob:List OB}{o:OB}{M:List ai}{l t:Ln}{c:UInt8}{num n:Nat}{ty:TypeId}{v:Value}(h:Sat σ w (l.at b1::(p.at b::M++L)))(hs:Stk p (ob++ [o]) M)(hd:p.depth=ob.length)(b4:ob.length<1048570)(a7:o.bd= .iface ty v)(U:ty≠ar)(b5:l.ok)(hb:pL l c num n t)(b3: ∀w p' I lb E y g O ib,p'= {p with stq:=p'.stq,stn:=ob.length+2,stc:=p'.stc}->Stk p' (ob++ [o]++ [⟨BB lb,none,0,0,p.lineno,p.lineno⟩]) I->
  Sat σ w (l.at b1::(p'.at b::I++(cM lb c.toNat (num:Nat) false none (ku E O g y)::(E,cel [kT (kE b)] ah)::t.at y::gM g lb::jf O ib::gc ib lb n (!t.blank)::L)))->R (hQ (hV true)) w):
 callE P bN #[kT (kE b),kT (kE b1)] R w:=by
 have ht:=hb.ok;refine hb.run h λw y E H t' h=>?_
 refine Sat.bx h λg w h=>?_
 refine⟨_,Sat.ld h (.tail _ (.tail _ (.head _))) (i:=0) rfl,?_⟩;have h:Sat σ w (p.at b::M++((g,cel [kT none] az)::(E,cel [kT (kE b)] ah)::t.at y::t'.at H::l.at b1::L)):=h.re
 refine lT (d:=ob.length) h hs hd (by omega) λw h=>⟨_,rfl,?_⟩
 rw[lS1 (by simp)];refine⟨none,false,w,xB w,ae rfl ?_⟩;have h:Sat σ w ((g,cel [kT none] az)::(E,cel [kT (kE b)] ah)::t.at y::(p.at b::M++(t'.at H::l.at b1::L))):=h.re
 refine⟨_,Sat.ld h (.head _) (i:=0) rfl,_,_,j8 mv _ w,ag rfl (ag rfl ?_)⟩;refine⟨_,Sat.ld h (.head _) (i:=0) rfl,_,_,j8 mv _ w,ag rfl ?_⟩;refine⟨_,Sat.ld h (.tail _ (.head _)) (i:=0) rfl,?_⟩;have h:Sat σ w (p.at b::M++((g,cel [kT none] az)::(E,cel [kT (kE b)] ah)::t.at y::t'.at H::l.at b1::L)):=h.re
 refine qy h hs a7 (λw h=>?_) (λa6=>absurd a6 U);rw[if_neg U];refine⟨none,rfl,_,w,dN EL none w,ae rfl (ae rfl ?_)⟩;refine Sat.bx h λlb w h=>?_
 have h:Sat σ w ((g,cel [kT none] az)::(lb,cel [.int .i32 (IntKind.i32.wrap (c.toNat:Nat)),hY (num:Nat),hV false,kT none,.nilFunc] fK)::(E,cel [kT (kE b)] ah)::t.at y::(p.at b::M++(t'.at H::l.at b1::L))):=h.re
 refine h.stA 0 λw h=>?_
 rw[zf] at h;have h:Sat σ w (gM g lb::cM lb c.toNat (num:Nat) false none .nilFunc::(E,cel [kT (kE b)] ah)::t.at y::(p.at b::M++(t'.at H::l.at b1::L))):=h
 refine⟨_,Sat.ld h (.tail _ (.tail _ (.head _))) (i:=0) rfl,_,Sat.ld h (.head _) (i:=0) rfl,?_⟩;have h:Sat σ w (p.at b::M++(gM g lb::cM lb c.toNat (num:Nat) false none .nilFunc::(E,cel [kT (kE b)] ah)::t.at y::(t'.at H::l.at b1::L))):=h.re
 refine oR h hs (by simp;omega) (by simp;omega) λw p' I V W h=>⟨rfl,?_⟩
 have h:Sat σ w (cM lb c.toNat (num:Nat) false none .nilFunc::t.at y::gM g lb::(p'.at b::I++((E,cel [kT (kE b)] ah)::(t'.at H::l.at b1::L)))):=h.re
 refine pX h ht λw O ib h=>?_
 refine b3 w p' I lb E y g O ib (by rw[V];simp) W ?_;exact h.less [t'.at H]

theorem uG {b:Nat}{p:PS}{ob:List OB}{o:OB}{M:List ai}{l t:Ln}{c:UInt8}{num n:Nat}{ty:TypeId}{v:Value}(h:Sat σ w (p.at b::M++L))(hs:Stk p (ob++ [o]) M)(hd:p.depth=ob.length)(W:ob.length<1048570)(U:o.bd= .iface ty v)(a6:ty≠ar)(V:ty≠az)(b5:l.ok)(hb:pL l c num n t)(b6: ∀w p' I lb H E g y ib,p'= {p with stq:=p'.stq,stn:=ob.length+2,stc:=p'.stc}->Stk p' (ob++ [o]++ [⟨BB lb,none,0,0,p.lineno,p.lineno⟩]) I->
  Sat σ w (p'.at b::I++(cM lb c.toNat (num:Nat) false none (ku H y g E)::(H,cel [kT (kE b)] ah)::t.at E::gM g lb::jf y ib::gc ib lb n (!t.blank)::L))->R (hQ (.tuple #[l.val,hV true])) w):
 callE P cm #[kT (kE b),l.val] R w:=by
 refine cN.sound ?_;refine Sat.bx h λb1 w h=>?_
 refine Sat.bx h λO w h=>?_
 have h:Sat σ w (zLn O::l.at b1::(p.at b::M++L)):=h
 have h:Sat σ w (p.at b::M++(zLn O::l.at b1::L)):=h.re
 refine qq h hs hd λw h=>?_
 rw[ig];dsimp only;refine⟨_,rfl,none,false,w,by rw[U];exact gC V w,ae rfl (ae rfl ?_)⟩;have h:Sat σ w (l.at b1::(p.at b::M++(zLn O::L))):=h.re
 refine zF h hs hd W U a6 b5 hb λw p' I lb H E g y ib a7 b4 h=>⟨_,rfl,ag rfl ?_⟩
 have h:Sat σ w (zLn O::l.at b1::(p'.at b::I++(cM lb c.toNat (num:Nat) false none (ku H y g E)::(H,cel [kT (kE b)] ah)::t.at E::gM g lb::jf y ib::gc ib lb n (!t.blank)::L))):=h.re
 repeat (first|refine aa ?_|refine h.tk λw h=>?_|refine⟨_,h.ldA,?_⟩|refine⟨_,_,_,h.ldA,?_⟩|refine h.stA 0 λw h=>?_|refine h.stA 1 λw h=>?_|refine h.stA 2 λw h=>?_|refine h.stA 3 λw h=>?_|refine h.stA 4 λw h=>?_|refine h.stA 5 λw h=>?_|refine h.stA 6 λw h=>?_|refine h.bx λb0 w h=>?_)
 have h:Sat σ _ (l.at O::l.at b1::(p'.at b::I++(cM lb c.toNat (num:Nat) false none (ku H y g E)::(H,cel [kT (kE b)] ah)::t.at E::gM g lb::jf y ib::gc ib lb n (!t.blank)::L))):=h
 exact b6 _ p' I lb H E g y ib a7 b4 h.tail.tail
theorem vz:uS P mB=true:=by kernel_rfl
theorem wg {b lb E H y g ib n:Nat}{bul num:Int}{loose hv:Bool}{item:Option Addr}{p:PS}{ob:List OB}{o:OB}{M:List ai}{l t:Ln}(h:Sat σ w (p.at b::M++(cM lb bul num loose item (ku E g y H)::(E,cel [kT (kE b)] ah)::t.at H::gM y lb::jf g ib::gc ib lb n hv::L)))(hs:Stk p (ob++ [o]) M)(hd:p.depth=ob.length)(b8:ob.length<1048570)(b6:o.bd=BB lb)(b7: ∀w p' U,p'= {p with stq:=p'.stq,stn:=ob.length+2,stc:=p'.stc}->Stk p' (ob++ [o]++ [⟨CU ib,none,0,0,p.lineno,p.lineno⟩]) U->
  Sat σ w (p'.at b::U++(cM lb bul num loose (kE ib) .nilFunc::gc ib lb n hv::L))->R (hQ (.tuple #[t.val,hV true])) w):
 callE P cm #[kT (kE b),l.val] R w:=by
 refine cN.sound ?_;refine Sat.bx h λb1 w h=>?_
 refine Sat.bx h λI w h=>?_
 have h:Sat σ w (zLn I::l.at b1::(p.at b::M++(cM lb bul num loose item (ku E g y H)::(E,cel [kT (kE b)] ah)::t.at H::gM y lb::jf g ib::gc ib lb n hv::L))):=h
 have h:Sat σ w (p.at b::M++(zLn I::l.at b1::cM lb bul num loose item (ku E g y H)::(E,cel [kT (kE b)] ah)::t.at H::gM y lb::jf g ib::gc ib lb n hv::L)):=h.re
 refine qq h hs hd λw h=>?_
 rw[ig];dsimp only;have h:Sat σ w (cM lb bul num loose item (ku E g y H)::zLn I::l.at b1::(p.at b::M++((E,cel [kT (kE b)] ah)::t.at H::gM y lb::jf g ib::gc ib lb n hv::L))):=h.re
 refine⟨_,rfl,kE lb,true,w,by rw[b6];exact kC _ w,ag rfl (aa ?_)⟩;obtain⟨_,_,_,W⟩:=nH vz;refine⟨_,Sat.ld h (.head _) (i:=4) rfl,true,w,mM W _ _ _ w,ag rfl (aa ?_)⟩;refine⟨_,Sat.ld h (.head _) (i:=4) rfl,?_⟩;refine gK ?_;refine dn.sound ?_;refine Sat.bx h λO w h=>?_
 have h:Sat σ w (p.at b::M++(zLn O::cM lb bul num loose item (ku E g y H)::zLn I::l.at b1::(E,cel [kT (kE b)] ah)::t.at H::gM y lb::jf g ib::gc ib lb n hv::L)):=by
  have h:Sat σ w (zLn O::cM lb bul num loose item (ku E g y H)::zLn I::l.at b1::(p.at b::M++((E,cel [kT (kE b)] ah)::t.at H::gM y lb::jf g ib::gc ib lb n hv::L))):=h
  exact h.re
 have b4:(E,cel [kT (kE b)] ah)∈p.at b::M++(zLn O::cM lb bul num loose item (ku E g y H)::zLn I::l.at b1::(E,cel [kT (kE b)] ah)::t.at H::gM y lb::jf g ib::gc ib lb n hv::L):=by simp
 have V:jf g ib∈p.at b::M++(zLn O::cM lb bul num loose item (ku E g y H)::zLn I::l.at b1::(E,cel [kT (kE b)] ah)::t.at H::gM y lb::jf g ib::gc ib lb n hv::L):=by simp
 refine⟨_,Sat.ld h b4 (i:=0) rfl,_,Sat.ld h V (i:=0) rfl,?_⟩;refine oR h hs (by simp;omega) (by simp;omega) λw p' U a6 a7 h=>⟨rfl,?_⟩
 have h:Sat σ w (cM lb bul num loose item (ku E g y H)::zLn O::t.at H::zLn I::l.at b1::gM y lb::jf g ib::(p'.at b::U++((E,cel [kT (kE b)] ah)::gc ib lb n hv::L))):=h.re
 refine⟨_,Sat.ld h (by simp:gM y lb∈_) (i:=0) rfl,_,Sat.ld h (by simp:jf g ib∈_) (i:=0) rfl,aa ?_⟩;refine h.stA 0 λw h=>?_
 have h:Sat σ w (t.at H::zLn O::cM lb bul num loose (kE ib) (ku E g y H)::zLn I::l.at b1::gM y lb::jf g ib::(p'.at b::U++((E,cel [kT (kE b)] ah)::gc ib lb n hv::L))):=by
  have h:Sat σ w (cM lb bul num loose (kE ib) (ku E g y H)::zLn O::t.at H::zLn I::l.at b1::gM y lb::jf g ib::(p'.at b::U++((E,cel [kT (kE b)] ah)::gc ib lb n hv::L))):=h
  exact h.re
 refine⟨_,h.ldA,?_⟩;refine⟨_,h.ldA,?_⟩;refine⟨_,h.ldA,?_⟩;refine⟨_,h.ldA,?_⟩;refine⟨_,h.ldA,?_⟩;refine h.stA 1 λw h=>?_
 refine h.stA 1 λw h=>?_
 refine h.stA 1 λw h=>?_
 refine h.stA 1 λw h=>?_
 refine h.stA 1 λw h=>?_
 have h:Sat σ w (t.at H::t.at O::cM lb bul num loose (kE ib) (ku E g y H)::zLn I::l.at b1::gM y lb::jf g ib::(p'.at b::U++((E,cel [kT (kE b)] ah)::gc ib lb n hv::L))):=h
 have h:Sat σ w (t.at O::l.at b1::cM lb bul num loose (kE ib) (ku E g y H)::zLn I::t.at H::gM y lb::jf g ib::(p'.at b::U++((E,cel [kT (kE b)] ah)::gc ib lb n hv::L))):=h.re
 refine⟨_,h.ldA,?_⟩;refine⟨_,h.ldA,?_⟩;refine⟨_,h.ldA,?_⟩;refine⟨_,h.ldA,?_⟩;refine⟨_,h.ldA,?_⟩;refine⟨_,_,_,_,_,rfl,?_⟩;refine h.stA 1 λw h=>?_
 refine h.stA 1 λw h=>?_
 refine h.stA 1 λw h=>?_
 refine h.stA 1 λw h=>?_
 refine h.stA 1 λw h=>?_
 have h:Sat σ w (t.at O::t.at b1::cM lb bul num loose (kE ib) (ku E g y H)::zLn I::t.at H::gM y lb::jf g ib::(p'.at b::U++((E,cel [kT (kE b)] ah)::gc ib lb n hv::L))):=h
 refine aa ?_;refine Sat.st h (k:=2) rfl (by simp[cM]) trivial rfl λw h=>?_
 have h:Sat σ w (t.at b1::zLn I::cM lb bul num loose (kE ib) .nilFunc::t.at O::t.at H::gM y lb::jf g ib::(p'.at b::U++((E,cel [kT (kE b)] ah)::gc ib lb n hv::L))):=by
  have h:Sat σ w (t.at O::t.at b1::cM lb bul num loose (kE ib) .nilFunc::zLn I::t.at H::gM y lb::jf g ib::(p'.at b::U++((E,cel [kT (kE b)] ah)::gc ib lb n hv::L))):=h
  exact h.re
 refine⟨_,h.ldA,?_⟩;refine⟨_,h.ldA,?_⟩;refine⟨_,h.ldA,?_⟩;refine⟨_,h.ldA,?_⟩;refine⟨_,h.ldA,?_⟩;refine h.stA 1 λw h=>?_
 refine h.stA 1 λw h=>?_
 refine h.stA 1 λw h=>?_
 refine h.stA 1 λw h=>?_
 refine h.stA 1 λw h=>?_
 have h:Sat σ w (t.at b1::t.at I::cM lb bul num loose (kE ib) .nilFunc::t.at O::t.at H::gM y lb::jf g ib::(p'.at b::U++((E,cel [kT (kE b)] ah)::gc ib lb n hv::L))):=h
 have h:Sat σ w (t.at I::t.at b1::cM lb bul num loose (kE ib) .nilFunc::t.at O::t.at H::gM y lb::jf g ib::(p'.at b::U++((E,cel [kT (kE b)] ah)::gc ib lb n hv::L))):=h.re
 refine⟨_,h.ldA,?_⟩;refine⟨_,h.ldA,?_⟩;refine⟨_,h.ldA,?_⟩;refine⟨_,h.ldA,?_⟩;refine⟨_,h.ldA,?_⟩;refine b7 _ p' U (by rw[a6];simp) a7 ?_;exact h.less [t.at I,t.at b1,t.at O,t.at H,gM y lb,jf g ib,(E,cel [kT (kE b)] ah)]

theorem Sl.loadMem {q:Option Addr}{n c j:Nat}{e:TypeId}{vs:List Value}{RM:List ai}{v:Value}{K:Addr->Prop}(H:Sl 1 e q n c vs RM)(h:Sat σ w L)(E: ∀x∈RM,x∈L)(g:vs[j]? =some v)(y: ∀b,q=kE b->w.cell? (hZ b j)=some v->K (hZ b 0)):aA q K:=by
 obtain⟨O,_,⟨rfl,rfl,_,_⟩|⟨I,sp,rfl,rfl,_⟩⟩:=H
 ·have:=(lL0.1 g).1;omega
 ·refine aa (y I rfl (h.ld (E _ (.head _)) ?_));rw[lM0 (lL0.1 g).1];exact g
theorem lJ {b:Nat}{E:PS}{ob:List OB}{par o:OB}{M IM I:List ai}{inner:List Value}{O:TypeId}{q:Option Addr}(h:Sat σ w (E.at b::M++(IM++I)))(hs:Stk E (ob++ [par]++ [o]) M)(b8:Sl 1 aO par.q par.n par.c inner IM)(b9:par.n<1000000)(b7: ∀w p2 a6 H g y,p2= {E with stn:=ob.length+1}->Stk p2 (ob++ [{par with q:=g,n:=par.n+1,c:=y}]) a6->Sl 1 aO g (par.n+1) y (inner++ [.iface O (kT q)]) H->
  Sat σ w (p2.at b::a6++(H++I))->R (hQ (.iface O (kT q))) w):aK.k3 R (kE b) (.iface O (kT q)) w:=by
 have a7:=hs.2.2;have U:=hs.2.1;have V:=hs.1.2.1;obtain⟨sb,sp,W,rfl,b6⟩:=hs.split (by simp);simp only[lA0,lE0] at U a7;rw[U] at V;unfold aK.k3;refine h.tk λw h=>?_
 refine aa (aa ?_);refine⟨_,_,_,h.ldA,?_⟩;refine⟨_,_,_,h.ldA,?_⟩;rw[U,ke (by omega),W];refine⟨_,_,_,λw=>uw rowOB.ht rowOB.hi sb (ob.length+1+1) E.stc (ob.length+1) (by omega) V w,?_⟩;refine aa ?_;refine h.stA 0 λw h=>?_
 let p2:PS:= {E with stq:=kE sb,stn:=ob.length+1}
 have b5:p2= {E with stn:=ob.length+1}:=by simp only[p2,<-W]
 have h:Sat σ w (p2.at b:: [(sb,cel (aP (ob++ [par])++(o.cells++sp)) ay)]++(IM++I)):=by
  rw[iN,lD0] at h;exact h
 refine aa ?_;refine⟨_,_,_,h.ldA,?_⟩;refine ag (by simp[p2]) ?_;refine h.tk λw h=>?_
 refine aa (aa ?_);refine⟨_,_,_,h.ldA,?_⟩;refine⟨_,_,_,h.ldA,?_⟩;rw[show p2.stn=ob.length+1 from rfl,ke (by omega),show p2.stq=kE sb from rfl];refine⟨by omega,by omega,aa ?_⟩;simp only[lK0,lN0,lC0,lN1];refine⟨_,_,_,Sat.ld h (.tail _ (.head _)) (fe (f:=1) (by decide) (ig par)),?_⟩;have h:Sat σ _ (IM++(p2.at b::(sb,cel (aP (ob++ [par])++(o.cells++sp)) ay)::I)):=h.re
 refine Sat.app1 rowBlock b8 h (v:= .iface O (kT q)) rfl (by simp[Value.cells,Value.oneCell']) (by kernel_rfl) (by omega) (by omega) (by decide) λg y w H b3 h=>?_
 have h:Sat σ _ (p2.at b::(sb,cel (aP (ob++ [par])++(o.cells++sp)) ay)::(H++I)):=h.re
 refine Sat.st h (k:=1) rfl (by rw[lA0,aR,lA0,lE0];omega) trivial rfl λw h=>?_
 have e:=kS (l:=ob) (sp:=o.cells++sp) (o:=par) (o':= {par with q:=g,n:=par.n+1,c:=y}) (f:=1) (v:= hT g (par.n+1) y) (by decide) rfl
 have h:Sat σ w (p2.at b::(sb,cel (aP (ob++ [{par with q:=g,n:=par.n+1,c:=y}])++(o.cells++sp)) ay)::(H++I)):=by
  rw[<-e];exact h
 have b4:Stk p2 (ob++ [{par with q:=g,n:=par.n+1,c:=y}]) [(sb,cel (aP (ob++ [{par with q:=g,n:=par.n+1,c:=y}])++(o.cells++sp)) ay)]:=by
  refine Stk.mk' rfl ?_ (by simp[p2]) (by simp;omega)
  show _=E.stc*4
  rw[<-b6];simp only[lA0,aR,lE0,OB.cells,lF0,lM1];omega
 refine b7 w p2 _ H g y b5 b4 b3 h
theorem iP {b:Nat}{p:PS}{ob:List OB}{o:OB}{M:List ai}{t:TypeId}{v:Value}(h:Sat σ w (p.at b::M++L))(hs:Stk p (ob++ [o]) M)(b8:o.bd= .iface t v)(hb: ∀w,Sat σ w (p.at b::M++L)->cW P (callMethod o.bd "pub-paratext/pub/rscmarkdown.build" #[.iface ah (kT (kE b))]) (λe b5=> ∃(y:Value),e= hQ y/\
  ∃(E:Option Addr),∃(H:Bool),∃g,(Instr.typeAssert y aO dk true).run P b5= .ok (.tuple #[kT E,hV H]) g/\
  br H (aA (kE b) λa6=> ∃(I:Bool),g.cell? (a6.add 6)=some (hV I)/\br I
   (aA (kE b) λb4=>stV g ((b4.add 6).add 0) (hV true) λb3=>aK.k2 R (kE b) y E b3)
   (callE P kN #[kT E] (λe W=> ∃(O:Bool),e= hQ (hV O)/\aA (kE b) λa7=>stV W ((a7.add 6).add 0) (hV O) λV=>aK.k2 R (kE b) y E V) g))
   (aK.k3 R (kE b) y g)) w):callE P aJ #[kT (kE b)] R w:=by
 have b6:=hs.2.2;have U:=hs.2.1;obtain⟨sb,sp,b7,rfl,b9⟩:=hs.split (by simp);simp only[lA0,lE0] at U b6;refine aK.sound ?_;refine h.tk λw h=>?_
 refine aa (aa ?_);refine⟨_,_,_,h.ldA,?_⟩;refine⟨_,_,_,h.ldA,?_⟩;rw[U,ke (by omega)];refine⟨by omega,by omega,?_⟩;rw[b7];refine aa ?_;simp only[lK0,lN0,lC0];refine⟨o.bd,Sat.ld h (.tail _ (.head _)) (fe (f:=0) (by decide) (ig o)),false,w,by rw[b8];exact nk tr _ _ w,ae rfl ?_⟩;refine aa ?_;refine⟨o.bd,Sat.ld h (.tail _ (.head _)) (fe (f:=0) (by decide) (ig o)),?_⟩;exact hb _ h
structure IT where
 nb:Nat
 s:Nat
 e:Nat
 q:Option Addr
 n:Nat
 c:Nat
 wd:Nat
 IM:List ai
 D:List DB
def IT.chunk (i:IT):ai:=(i.nb,cel [hY i.s,hY i.e,hT i.q i.n i.c,hY i.wd] mF)
def IT.v (i:IT):Value:= .iface fG (kT (kE i.nb))
def IT.db (i:IT):DB:=⟨i.v,i.chunk::(i.IM++cV i.D),cj i.D⟩
structure IT.ok (i:IT):Prop where
 sl:Sl 1 aO i.q i.n i.c (i.D.map DB.v) i.IM
 len:i.D.length<1000000
 se:i.s<1000000000/\i.e<1000000000
theorem IT.n_eq {i:IT}(h:i.ok):i.n=i.D.length:=by have:=h.sl.1;simp at this;omega
theorem IT.posIs (i:IT):i.db.posIs i.s i.e:=jQ yX rfl (.head _)
def DB.ifc (d:DB):Prop:= ∃ty q,d.v= .iface ty (kT q)
def ta (nb s e:Nat)(bul num:Int)(loose:Bool)(q:Option Addr)(n c:Nat):ai:=(nb,cel [hY s,hY e,.int .i32 bul,hY num,hV loose,hT q n c] uj)
theorem A4 {t e xt:TypeId}{q:Option Addr}{ty:TypeId}{i:TypeInfo}(g:P.underlying t=some (.pointer e))(hi:P.info? t=some i)(hz:i.zero=some (kT none))(w:World):
 ∃r k,(Instr.typeAssert (.iface ty (kT q)) xt t true).run P w= .ok (.tuple #[kT r,hV k]) w:=by
 by_cases ht:ty=t
 ·subst ht;exact⟨q,true,oa (by rw[g];intro y h;cases h) g w⟩
 ·exact⟨none,false,ut (by rw[g];intro y h;cases h) g ht hi hz w⟩
theorem mw:P.underlying dk=some (.pointer uj):=by kernel_rfl
theorem EN:P.underlying cT=some (.pointer jH):=by kernel_rfl
theorem EO:P.underlying cI=some (.pointer mG):=by kernel_rfl
theorem AK:P.underlying fG=some (.pointer mF):=by kernel_rfl
theorem xC (q:Option Addr)(w:World):(Instr.typeAssert (.iface fG (kT q)) aO fG false).run P w= .ok (kT q) w:=by
 simp[Instr.typeAssert,run_underlying AK]
theorem IT.own_mem {items:List IT}{i:IT}(hi:i∈items): ∀x∈i.db.own,x∈cV (items.map IT.db):=by
 intro x g;exact lU2.2 ⟨i.db,lE5 hi,g⟩
theorem pj {nb s e:Nat}{bul num:Int}{loose:Bool}{q:Option Addr}{n c:Nat}{items:List IT}{IM:List ai}(b3:Sl 1 aO q n c (items.map IT.v) IM)(b7: ∀i∈items,i.ok/\ ∀d∈i.D,d.ifc)(e5:items.length<1000000)(h:Sat σ w L)(O: ∀x∈ta nb s e bul num loose q n c::(IM++cV (items.map IT.db)),x∈L)(I: ∀k,R (hQ (hV k)) w):callE P kN #[kT (kE nb)] R w:=by
 have d3:n=items.length:=by have:=b3.1;simp at this;omega
 refine gq.sound ?_;refine aa ⟨_,_,_,Sat.ld h (O _ (.head _)) (i:=5) rfl,?_⟩;intro X b4;have b9: ∀k j:Nat,j+k=items.length->X q n c (n:Int) (j:Int) w:=by
  intro k
  induction k with
  |zero=>
   intro j d0;exact b4 _ _ _ _ _ _ (ae (by simp;omega) (I false))
  |succ k c8=>
   intro j d0;have a6:j<items.length:=by omega
   have E:=lP1 a6;generalize b8:items[j]=i at E;obtain⟨y,c1⟩:=b7 i E;have W: ∀x∈i.db.own,x∈L:=λx g=>O x (.tail _ (lB0 _ (IT.own_mem E x g)))
   have V:i.chunk∈L:=W _ (.head _);have c2: ∀x∈i.IM,x∈L:=λx g=>W x (.tail _ (lE1 _ g))
   refine b4 _ _ _ _ _ _ (ag (by simp;omega) ⟨by omega,by omega,?_⟩);refine b3.loadMem h (λx g=>O x (.tail _ (lE1 _ g))) (j:=j) (v:=i.v) (by simp[a6,b8]) λe4 e6 hc=>?_
   simp only[lK0,lC0,lD1,lN0];refine⟨_,hc,kE i.nb,w,xC _ w,aa ?_⟩;refine⟨_,_,_,Sat.ld h V (i:=2) rfl,?_⟩;rw[IT.n_eq y];refine bJ (λ_=>I true) λb6=>aa ?_
   have U:0<i.D.length:=by
    have:i.D.length≠0:=by simpa using b6
    omega
   obtain⟨ty,H,b5⟩:=c1 i.D[0] (lP1 U);refine⟨_,_,_,Sat.ld h V (i:=2) rfl,by decide,by rw[IT.n_eq y];omega,?_⟩;refine y.sl.loadMem h c2 (j:=0) (v:=i.D[0].v) (by simp[U]) λd2 e0 a7=>?_
   simp only[lK0,lC0,lD1,lN0];rw[b5] at a7;obtain⟨c4,k1,c5⟩:=A4 (xt:=aO) (q:=H) (ty:=ty) mw (i:=(P.info? dk).getD default) (by kernel_rfl) (by kernel_rfl) w;obtain⟨r2,k2,c9⟩:=A4 (xt:=aO) (q:=H) (ty:=ty) EN (i:=(P.info? cT).getD default) (by kernel_rfl) (by kernel_rfl) w;obtain⟨c3,k3,d1⟩:=A4 (xt:=aO) (q:=H) (ty:=ty) EO (i:=(P.info? cI).getD default) (by kernel_rfl) (by kernel_rfl) w;refine⟨_,a7,c4,k1,w,c5,r2,k2,w,c9,c3,k3,w,d1,?_⟩;refine bJ (λ_=>I true) λ_=>?_
   rw[aN (by omega)];exact c8 (j+1) (by omega)
 exact b9 items.length 0 (by omega)

theorem Sl.storeAt {q:Option Addr}{n c j:Nat}{e:TypeId}{vs:List Value}{RM:List ai}{v:Value}{K:World->Prop}(O:Sl 1 e q n c vs RM)(h:Sat σ w (RM++L))(V:j<vs.length)(hv:nx v)(I: ∀w g,Sl 1 e q n c (vs.set j v) g->Sat σ w (g++L)->K w):aA q λa=>stV w ((a.add j).add 0) v K:=by
 obtain⟨y,hc,⟨rfl,rfl,_,rfl⟩|⟨E,sp,rfl,rfl,H⟩⟩:=O
 ·exact absurd y (by omega)
 ·refine aa ?_;simp only[lK0,lN0,lN1];refine Sat.st h (k:=0) rfl (by rw[lA0];omega) hv rfl λw h=>?_
  refine I w [(E,cel (vs.set j v++sp) e)] ⟨by simpa using y,hc,.inr ⟨E,sp,rfl,rfl,by simpa using H⟩⟩ ?_;have U:(vs++sp).set j v=vs.set j v++sp:=lU4 _ _ V;rw[<-U];exact h
def CV (pos:DB->Nat × Nat):List DB->Bool
 |d::d2::ds=>decide ((pos d).2+1<(pos d2).1)||CV pos (d2::ds)
 |_=>false
def l9 (pos:DB->Nat × Nat):List IT->Bool
 |i::i2::is=>decide (i.e+1<i2.s)||(CV pos i.D||l9 pos (i2::is))
 | [i]=>CV pos i.D
 | []=>false
def dt (d:DB):DB:=match d.v with
 | .iface ty _=>if ty=bD then match d.txs with| [x]=>⟨.iface dU (kT (kE x.t)),d.own,d.txs⟩|_=>d else d
 |_=>d
theorem kB (nb t s e:Nat)(raw:List UInt8):dt (j9 nb t s e raw)=⟨.iface dU (kT (kE t)),[kV nb s e t],[⟨t,s,e,raw⟩]⟩:=by
 unfold dt j9;simp
theorem d6 {d:DB}{ty:TypeId}{q:Option Addr}(h:d.v= .iface ty (kT q))(ht:ty≠bD):dt d=d:=by
 unfold dt;rw[h];simp[ht]
def DB.kindOK (d:DB):Prop:=(∃nb t s e raw,d=j9 nb t s e raw)\/(∃ty q,d.v= .iface ty (kT q)/\ty≠bD)
theorem xz {d:DB}(h:d.kindOK):(dt d).own=d.own/\(dt d).txs=d.txs:=by
 rcases h with ⟨nb,t,s,e,raw,rfl⟩|⟨ty,q,h,ht⟩
 ·rw[kB];exact⟨rfl,rfl⟩
 ·rw[d6 h ht];exact⟨rfl,rfl⟩
theorem p6 {D:List DB}(h: ∀d∈D,d.kindOK):cV (D.map dt)=cV D/\cj (D.map dt)=cj D:=by
 induction D with
 |nil=>exact⟨rfl,rfl⟩
 |cons d D g=>
  obtain⟨a,b⟩:=xz (h d (by simp));obtain⟨c,e⟩:=g λx y=>h x (lQ1 _ y)
  constructor
  ·show (dt d).own++cV (D.map dt)=d.own++cV D
   rw[a,c]
  ·show (dt d).txs++cj (D.map dt)=d.txs++cj D
   rw[b,e]
inductive Ret:List IT->List IT->Prop where
 |nil:Ret [] []
 |cons {i i':IT} {is is':List IT}:i'= {i with D:=i.D.map dt,IM:=i'.IM}->i'.ok->Ret is is'->Ret (i::is) (i'::is')
theorem Ret.snoc {E y:List IT}{i g:IT}(h:Ret E y)(H:g= {i with D:=i.D.map dt,IM:=g.IM})(I:g.ok):Ret (E++ [i]) (y++ [g]):=by
 induction h with
 |nil=>exact .cons H I .nil
 |cons a b _ O=>exact .cons a b O
theorem Ret.vs {y g:List IT}(h:Ret y g):g.map IT.v=y.map IT.v:=by
 induction h with
 |nil=>rfl
 |cons a b _ E=>rw[lY1,lY1,E,a];rfl
theorem rr:P.underlying bD=some (.pointer mD):=by kernel_rfl
theorem rK (q:Option Addr)(w:World):(Instr.typeAssert (.iface bD (kT q)) aO bD true).run P w= .ok (.tuple #[kT q,hV true]) w:=
 oa (by rw[rr];intro g h;cases h) rr w
theorem zD {ty:TypeId}{v:Value}(ht:ty≠bD)(w:World):(Instr.typeAssert (.iface ty v) aO bD true).run P w= .ok (.tuple #[kT none,hV false]) w:=
 ut (by rw[rr];intro g h;cases h) rr ht (i:=(P.info? bD).getD default) (by kernel_rfl) (by kernel_rfl) w
theorem ol:mO P az "pub-paratext/pub/rscmarkdown.build" iz=true:=by kernel_rfl
theorem om:mO P bu "pub-paratext/pub/rscmarkdown.build" iD=true:=by kernel_rfl
theorem mN:mO P gz "pub-paratext/pub/rscmarkdown.build" gP=true:=by kernel_rfl
theorem qJ {b lb:Nat}{bul num:Int}{td:Value}{p:PS}{ob:List OB}{o:OB}{M IM:List ai}{items:List IT}{pos:DB->Nat × Nat}{it:Option Addr}(h:Sat σ w (p.at b::M++(cM lb bul num false it td::(IM++(cV (items.map IT.db)++L)))))(hs:Stk p (ob++ [o]) M)(b9:Sl 1 aO o.q o.n o.c (items.map IT.v) IM)(m6:items≠ [])(r4:items.length<1000000)(q3:o.s<1000000000)(f4: ∀i∈items,i.ok/\ ∀d∈i.D,d.kindOK/\d.posIs (pos d).1 (pos d).2/\(pos d).1<1000000000/\(pos d).2<2000000000)(b4: ∀w nb e (U:List IT),(l9 pos items=true/\U=items\/l9 pos items=false/\Ret items U)->((∃i∈items,e=i.e)/\items.getLast?.map IT.e=some e)->
  Sat σ w (p.at b::M++(ta nb o.s e bul num (l9 pos items) o.q o.n o.c::(IM++(cV (U.map IT.db)++L))))->R (hQ (.iface dk (kT (kE nb)))) w):
 callE P iz #[kT (kE lb),.iface ah (kT (kE b))] R w:=by
 have f5:o.n=items.length:=by have:=b9.1;simp at this;omega
 have q1:0<items.length:=lY0.2 m6;refine aV.sound ?_;refine bm kb ?_;refine nu h hs λw h=>⟨_,_,_,rfl,?_⟩
 refine bm nG ?_;refine tH h hs λw h=>⟨_,_,rfl,?_⟩
 refine Sat.bx h λg w h=>?_
 refine h.stA 0 λw h=>?_
 refine h.stA 0 λw h=>?_
 have h:Sat σ w ((g,cel [hY o.s,hY o.e] aF)::(p.at b::M++(cM lb bul num false it td::(IM++(cV (items.map IT.db)++L))))):=h
 rw[f5] at b9⊢;have l5:i64.wrap ((items.length:Int) - 1)=((items.length - 1:Nat):Int):=by rw[i64_in _ (by omega)];omega
 rw[l5];refine⟨by omega,by omega,?_⟩;generalize e9:items[items.length - 1]'(by omega)=la;have e0:la∈items:=by rw[<-e9];exact lP1 _
 have g3:items.getLast?.map IT.e=some la.e:=by rw[List.getLast?_eq_getElem?,lI0 (by omega),e9];rfl
 have e5: ∀ {K:List ai} {x:ai},x∈IM->x∈K++(cM lb bul num false it td::(IM++(cV (items.map IT.db)++L))):=λH=>by simp[H]
 refine b9.loadMem h (λx H=> .tail _ (e5 H)) (j:=items.length - 1) (v:=la.v) (by rw[lF2,lI0 (by omega),e9];rfl) λg0 g2 hc=>?_
 simp only[lK0,lC0,lD1,lN0];refine⟨_,hc,?_⟩;have e6: ∀ {K:List ai} {i:IT},i∈items-> ∀x∈i.db.own,x∈K++(cM lb bul num false it td::(IM++(cV (items.map IT.db)++L))):=λhi x H=>by
  have:=IT.own_mem hi x H;simp[this]
 refine la.posIs σ _ _ w (λx H=> .tail _ (e6 e0 x H)) h λw h=>⟨_,_,rfl,?_⟩
 refine h.stA 0 λw h=>?_
 have h:Sat σ w ((g,cel [hY o.s,hY la.e] aF)::(p.at b::M++(cM lb bul num false it td::(IM++(cV (items.map IT.db)++L))))):=h
 have k3: ∀(lo:Bool) (U:List IT) w,(∀w nb,Sat σ w (p.at b::M++(ta nb o.s la.e bul num lo o.q items.length o.c::(IM++(cV (U.map IT.db)++L))))->R (hQ (.iface dk (kT (kE nb)))) w)->
  Sat σ w ((g,cel [hY o.s,hY la.e] aF)::cM lb bul num lo it td::(p.at b::M++(IM++(cV (U.map IT.db)++L))))->aV.k3 R (kE lb) (.iface ah (kT (kE b))) g w:=by
  intro lo U w b4 h;refine Sat.tk h λw h=>aa (aa (aa ?_))
  refine⟨_,Sat.ld h (.head _) (i:=0) rfl,_,Sat.ld h (.head _) (i:=1) rfl,_,Sat.ld h (.tail _ (.head _)) (i:=0) rfl,_,Sat.ld h (.tail _ (.head _)) (i:=1) rfl,_,Sat.ld h (.tail _ (.head _)) (i:=2) rfl,?_⟩;have c2:=h;have h:Sat σ w (p.at b::M++((g,cel [hY o.s,hY la.e] aF)::cM lb bul num lo it td::(IM++(cV (U.map IT.db)++L)))):=h.re
  have f0:cM lb bul num lo it td∈p.at b::M++((g,cel [hY o.s,hY la.e] aF)::cM lb bul num lo it td::(IM++(cV (U.map IT.db)++L))):=by simp
  have m5:(g,cel [hY o.s,hY la.e] aF)∈p.at b::M++((g,cel [hY o.s,hY la.e] aF)::cM lb bul num lo it td::(IM++(cV (U.map IT.db)++L))):=by simp
  refine bm kb ?_;refine nu h hs λw h=>⟨_,_,_,rfl,c2.same h (.tail _ (.head _)) f0 1,c2.same h (.tail _ (.head _)) f0 1,c2.same h (.tail _ (.head _)) f0 1,c2.same h (.head _) m5 2,?_⟩
  refine Sat.bx h λnb w h=>?_
  refine b4 w nb ?_;rw[f5] at h;have h:Sat σ w (ta nb o.s la.e bul num lo o.q items.length o.c::(p.at b::M++((g,cel [hY o.s,hY la.e] aF)::cM lb bul num lo it td::(IM++(cV (U.map IT.db)++L))))):=h
  exact h.less [(g,cel [hY o.s,hY la.e] aF),cM lb bul num lo it td]
 have l2: ∀w,(∀w nb (U:List IT),Ret items U->Sat σ w (p.at b::M++(ta nb o.s la.e bul num false o.q items.length o.c::(IM++(cV (U.map IT.db)++L))))->R (hQ (.iface dk (kT (kE nb)))) w)->
  Sat σ w ((g,cel [hY o.s,hY la.e] aF)::cM lb bul num false it td::(p.at b::M++(IM++(cV (items.map IT.db)++L))))->
  aV.l2 R (kE lb) (.iface ah (kT (kE b))) g o.q items.length o.c (items.length:Int) 0 w:=by
  intro w b4 h X d0;have f6: ∀(suf pre V:List IT) w,pre++suf=items->Ret pre V->Sat σ w ((g,cel [hY o.s,hY la.e] aF)::cM lb bul num false it td::(p.at b::M++(IM++(cV ((V++suf).map IT.db)++L))))->
   X (kE lb) (.iface ah (kT (kE b))) g o.q items.length o.c (items.length:Int) (pre.length:Int) w:=by
   intro suf
   induction suf with
   |nil=>
    intro pre V w I e4 h;rw[lG0] at I h;exact d0 _ _ _ _ _ _ _ _ _ (ae (by rw[I];simp) (k3 false V w (λw nb h=>b4 w nb V (I▸e4) h) h))
   |cons i suf d3=>
    intro pre V w I e4 h;have f3:pre.length<items.length:=by rw[<-I];simp
    have d1:i∈items:=by rw[<-I];simp
    obtain⟨a6,c5⟩:=f4 i d1;have f1:items[pre.length]=i:=by simp[<-I]
    refine d0 _ _ _ _ _ _ _ _ _ (ag (by simp;omega) ⟨by omega,by omega,?_⟩);refine b9.loadMem h (λx H=>by simp[H]) (j:=pre.length) (v:=i.v) (by rw[lF2,lI0 f3,f1];rfl) λg0 g2 hc=>?_
    simp only[lK0,lC0,lD1,lN0];refine⟨_,hc,kE i.nb,w,xC _ w,aa ?_⟩;have i3:cV ((V++i::suf).map IT.db)=cV (V.map IT.db)++(i.chunk::(i.IM++cV i.D)++cV (suf.map IT.db)):=by
     simp[cV,IT.db]
    rw[i3] at h;have h:Sat σ w (i.IM++(i.chunk::((g,cel [hY o.s,hY la.e] aF)::cM lb bul num false it td::(p.at b::M++(IM++(cV (V.map IT.db)++(cV i.D++(cV (suf.map IT.db)++L)))))))):=h.re
    have h3: ∀ {K:List ai},i.chunk∈K++(i.chunk::((g,cel [hY o.s,hY la.e] aF)::cM lb bul num false it td::(p.at b::M++(IM++(cV (V.map IT.db)++(cV i.D++(cV (suf.map IT.db)++L))))))):=by intro K;simp
    refine⟨_,_,_,Sat.ld h h3 (i:=2) rfl,?_⟩;have b3:=IT.n_eq a6;have h6:=a6.len;rw[b3];intro Y c9;have inner: ∀(O y:List DB) RM w,y++O=i.D->Sl 1 aO i.q i.D.length i.c ((y.map dt++O).map DB.v) RM->
     Sat σ w (RM++(i.chunk::((g,cel [hY o.s,hY la.e] aF)::cM lb bul num false it td::(p.at b::M++(IM++(cV (V.map IT.db)++(cV i.D++(cV (suf.map IT.db)++L))))))))->
     Y (kE lb) (.iface ah (kT (kE b))) g (kE i.nb) o.q items.length o.c (items.length:Int) (pre.length:Int) i.q i.D.length i.c (i.D.length:Int) (y.length:Int) w:=by
     intro O
     induction O with
     |nil=>
      intro y RM w E b7 h;rw[lG0] at E b7;rw[E] at b7;refine c9 _ _ _ _ _ _ _ _ _ _ _ _ _ _ _ (ae (by rw[E];simp) ?_);rw[aN (by omega)];have:=d3 (pre++ [i]) (V++ [{i with D:=i.D.map dt,IM:=RM}]) w (by rw[<-I];simp) (e4.snoc rfl ⟨by simpa[b3] using b7,by simpa using a6.len,a6.se⟩) ?_
      ·rw[lA0,lE0] at this;exact this
      ·have o4:=(p6 (D:=i.D) λd hd=>(c5 d hd).1).1;have o3:cV (((V++ [{i with D:=i.D.map dt,IM:=RM}])++suf).map IT.db)=cV (V.map IT.db)++(i.chunk::(RM++cV i.D)++cV (suf.map IT.db)):=by
        rw[<-o4];simp[cV,IT.db,IT.chunk]
       rw[o3];exact h.re
     |cons d O c8=>
      intro y RM w E b7 h;have n2:y.length<i.D.length:=by rw[<-E];simp
      have c3:d∈i.D:=by rw[<-E];simp
      obtain⟨o2,_,_⟩:=c5 d c3;refine c9 _ _ _ _ _ _ _ _ _ _ _ _ _ _ _ (ag (by simp;omega) ⟨by omega,by omega,?_⟩);have h8:((y.map dt++d::O).map DB.v)[y.length]? =some d.v:=by
       rw[lF2,lH0 (by simp)];simp
      refine b7.loadAt h h8 λg0 g2 hc=>?_
      simp only[lK0,lC0,lD1,lN0];refine⟨_,hc,?_⟩;have h9: ∀v:Value,v=(dt d).v->((y.map dt++d::O).map DB.v).set y.length v=((y++ [d]).map dt++O).map DB.v:=by
       rintro v rfl
       simp
      rcases o2 with ⟨nb,t,s,e,raw,rfl⟩|⟨ty,r1,hv,h2⟩
      ·refine⟨kE nb,true,w,rK _ w,ag rfl ?_⟩;refine Sat.tk h λw h=>aa (aa ?_)
       have m8:kV nb s e t∈RM++(i.chunk::((g,cel [hY o.s,hY la.e] aF)::cM lb bul num false it td::(p.at b::M++(IM++(cV (V.map IT.db)++(cV i.D++(cV (suf.map IT.db)++L))))))):=by
        have:kV nb s e t∈cV i.D:=lU2.2 ⟨_,c3,by simp[j9]⟩;simp[this]
       refine⟨_,_,_,Sat.ld h h3 (i:=2) rfl,_,Sat.ld h m8 (i:=2) rfl,by omega,by rw[b3];omega,?_⟩;refine b7.storeAt h (j:=y.length) (v:= .iface dU (kT (kE t))) (by simp) trivial λw m2 g4 h=>?_
       rw[h9 _ (by rw[kB])] at g4;rw[aN (by omega)];have:=c8 (y++ [j9 nb t s e raw]) m2 w (by rw[<-E];simp) g4 h;rw[lA0,lE0] at this;exact this
      ·rw[hv];refine⟨none,false,w,zD h2 w,ae rfl ?_⟩;rw[aN (by omega)];have n3:(y.map dt++d::O).map DB.v=((y++ [d]).map dt++O).map DB.v:=by simp[d6 hv h2]
       rw[n3] at b7;have:=c8 (y++ [d]) RM w (by rw[<-E];simp) b7 h;rw[lA0,lE0] at this;exact this
    have j0:Sl 1 aO i.q i.D.length i.c (([].map dt++i.D).map DB.v) i.IM:=by rw[<-b3];exact a6.sl
    exact inner i.D [] i.IM w rfl j0 h
  exact f6 items [] [] w rfl .nil h
 have k1: ∀w,Sat σ w ((g,cel [hY o.s,hY la.e] aF)::cM lb bul num (l9 pos items) it td::(p.at b::M++(IM++(cV (items.map IT.db)++L))))->aV.k1 R (kE lb) (.iface ah (kT (kE b))) o.q items.length o.c g w:=by
  intro w h;refine aa ⟨_,Sat.ld h (.tail _ (.head _)) (i:=2) rfl,?_⟩;rw[f5] at b4;cases a7:l9 pos items with
  |true=>
   rw[a7] at h b4;exact ae rfl (k3 true items w (λw nb h=>b4 w nb la.e items (.inl ⟨rfl,rfl⟩) ⟨⟨la,e0,rfl⟩,g3⟩ h) h)
  |false=>
   rw[a7] at h b4;exact ag rfl (l2 w (λw nb U hr h=>b4 w nb la.e U (.inr ⟨rfl,hr⟩) ⟨⟨la,e0,rfl⟩,g3⟩ h) h)
 intro X d0;have h5: ∀w,l9 pos items=true->Sat σ w ((g,cel [hY o.s,hY la.e] aF)::(p.at b::M++(cM lb bul num false it td::(IM++(cV (items.map IT.db)++L)))))->
  aA (kE lb) λa=>stV w ((a.add 2).add 0) (hV true) λw=>aV.k1 R (kE lb) (.iface ah (kT (kE b))) o.q items.length o.c g w:=by
  intro w a7 h;have h:Sat σ w (cM lb bul num false it td::(g,cel [hY o.s,hY la.e] aF)::(p.at b::M++(IM++(cV (items.map IT.db)++L)))):=h.re
  refine aa ?_;refine h.stA 0 λw h=>?_
  refine k1 w ?_;rw[a7];have h:Sat σ w (cM lb bul num true it td::(g,cel [hY o.s,hY la.e] aF)::(p.at b::M++(IM++(cV (items.map IT.db)++L)))):=h
  exact h.re
 have f6: ∀(suf pre:List IT) w,pre++suf=items->l9 pos items=l9 pos suf->Sat σ w ((g,cel [hY o.s,hY la.e] aF)::(p.at b::M++(cM lb bul num false it td::(IM++(cV (items.map IT.db)++L)))))->
  X (kE lb) (.iface ah (kT (kE b))) o.q items.length o.c g o.q items.length o.c (items.length:Int) (pre.length:Int) w:=by
  intro suf
  induction suf with
  |nil=>
   intro pre w I a7 h;rw[lG0] at I;subst I;refine d0 _ _ _ _ _ _ _ _ _ _ _ _ (ae (by simp) (k1 w ?_));rw[a7];have h:Sat σ w ((g,cel [hY o.s,hY la.e] aF)::(p.at b::M++(cM lb bul num (l9 pos []) it td::(IM++(cV (pre.map IT.db)++L))))):=h
   exact h.re
  |cons i suf d3=>
   intro pre w I a7 h;have f3:pre.length<items.length:=by rw[<-I];simp
   have d1:i∈items:=by rw[<-I];simp
   obtain⟨a6,c5⟩:=f4 i d1;have f1:items[pre.length]=i:=by simp[<-I]
   have b6: ∀x∈i.db.own,x∈(g,cel [hY o.s,hY la.e] aF)::(p.at b::M++(cM lb bul num false it td::(IM++(cV (items.map IT.db)++L)))):=λx H=> .tail _ (e6 d1 x H)
   refine d0 _ _ _ _ _ _ _ _ _ _ _ _ (ag (by simp;omega) ⟨by omega,by omega,?_⟩);refine b9.loadMem h (λx H=> .tail _ (e5 H)) (j:=pre.length) (v:=i.v) (by rw[lF2,lI0 f3,f1];rfl) λg0 g2 hc=>?_
   simp only[lK0,lC0,lD1,lN0];refine⟨_,hc,kE i.nb,w,xC _ w,?_⟩;rw[aN (by omega)];have inner: ∀rest w,(l9 pos items=(CV pos i.D||rest))->(∀w,l9 pos items=rest->Sat σ w ((g,cel [hY o.s,hY la.e] aF)::(p.at b::M++(cM lb bul num false it td::(IM++(cV (items.map IT.db)++L)))))->
    X (kE lb) (.iface ah (kT (kE b))) o.q items.length o.c g o.q items.length o.c (items.length:Int) ((pre.length+1:Nat):Int) w)->
    Sat σ w ((g,cel [hY o.s,hY la.e] aF)::(p.at b::M++(cM lb bul num false it td::(IM++(cV (items.map IT.db)++L)))))->
    aV.k2 R X (kE lb) (.iface ah (kT (kE b))) o.q items.length o.c g (kE i.nb) o.q items.length o.c (items.length:Int) (pre.length:Int) w:=by
    intro rest w m1 h7 h;refine aa ⟨_,_,_,Sat.ld h (b6 _ (.head _)) (i:=2) rfl,?_⟩;have b3:=IT.n_eq a6;rw[b3];have e8:=a6.sl;rw[b3] at e8;have h4: ∀x∈i.IM,x∈(g,cel [hY o.s,hY la.e] aF)::(p.at b::M++(cM lb bul num false it td::(IM++(cV (items.map IT.db)++L)))):=λx H=>b6 x (.tail _ (lE1 _ H))
    have g7: ∀d∈i.D,∀x∈d.own,x∈(g,cel [hY o.s,hY la.e] aF)::(p.at b::M++(cM lb bul num false it td::(IM++(cV (items.map IT.db)++L)))):=λd hd x H=>b6 x (.tail _ (lB0 _ (lU2.2 ⟨d,hd,H⟩)))
    intro Y c9;have i0: ∀(O y:List DB) w,y++O=i.D->l9 pos items=(CV pos O||rest)->Sat σ w ((g,cel [hY o.s,hY la.e] aF)::(p.at b::M++(cM lb bul num false it td::(IM++(cV (items.map IT.db)++L)))))->
     Y (kE lb) (.iface ah (kT (kE b))) o.q items.length o.c g (kE i.nb) o.q items.length o.c (items.length:Int) (pre.length:Int) i.q i.D.length i.c (i.D.length:Int) (y.length:Int) w:=by
     intro O
     induction O with
     |nil=>
      intro y w E c4 h;rw[lG0] at E;refine c9 _ _ _ _ _ _ _ _ _ _ _ _ _ _ _ _ _ _ (ae (by rw[E];simp) ?_);rw[aN (by omega)];exact h7 w (by rw[c4];rfl) h
     |cons d O c8=>
      intro y w E c4 h;have n2:y.length<i.D.length:=by rw[<-E];simp
      have c3:d∈i.D:=by rw[<-E];simp
      have h6:=a6.len;obtain⟨_,o0,q5,q8⟩:=c5 d c3;refine c9 _ _ _ _ _ _ _ _ _ _ _ _ _ _ _ _ _ _ (ag (by simp;omega) ⟨by omega,by omega,?_⟩);refine e8.loadMem h h4 (j:=y.length) (v:=d.v) (by rw[<-E];simp) λq4 q2 m3=>?_
      simp only[lK0,lC0,lD1,lN0];refine⟨_,m3,?_⟩;refine o0 σ _ _ w (g7 d c3) h λw h=>⟨_,_,rfl,aa ?_⟩
      refine⟨_,_,_,Sat.ld h (b6 _ (.head _)) (i:=2) rfl,?_⟩;rw[b3,aN (by omega)];cases O with
      |nil=>
       refine ae (by rw[<-E];simp) ?_;have:=c8 (y++ [d]) w (by rw[<-E];simp) (by rw[c4];rfl) h;rw[lA0,lE0] at this;exact this
      |cons c1 r3=>
       have p5:y.length+1<i.D.length:=by rw[<-E];simp
       have g6:c1∈i.D:=by rw[<-E];simp
       obtain⟨_,n1,p4,p1⟩:=c5 c1 g6;refine ag (by simp;omega) (aa ?_);refine⟨_,_,_,Sat.ld h (b6 _ (.head _)) (i:=2) rfl,by omega,by rw[b3];omega,?_⟩;refine e8.loadMem h h4 (j:=y.length+1) (v:=c1.v) (by rw[<-E];simp) λn0 m4 e7=>?_
       simp only[lK0,lC0,lD1,lN0];refine⟨_,e7,?_⟩;refine n1 σ _ _ w (g7 c1 g6) h λw h=>⟨_,_,rfl,?_⟩
       rw[i64_in _ (by omega)];refine bJ (λb8=>?_) λb8=>?_
       ·refine h5 w ?_ h;have:decide ((pos d).2+1<(pos c1).1)=true:=by simp at b8⊢;omega
        rw[c4,CV,this];rfl
       ·have:=c8 (y++ [d]) w (by rw[<-E];simp) ?_ h
        ·rw[lA0,lE0] at this;exact this
        ·have:decide ((pos d).2+1<(pos c1).1)=false:=by simp at b8⊢;omega
         rw[c4,CV,this];rfl
    exact i0 i.D [] w rfl m1 h
   cases suf with
   |nil=>
    refine ae (by rw[<-I];simp) ?_;refine inner false w (by rw[a7];simp[l9]) (λw f2 h=>?_) h;have:=d3 (pre++ [i]) w (by rw[<-I];simp) (by rw[f2];rfl) h;rw[lA0,lE0] at this;exact this
   |cons W g1=>
    have i8:pre.length+1<items.length:=by rw[<-I];simp
    have i1:items[pre.length+1]=W:=by simp[<-I]
    have g5:W∈items:=by rw[<-I];simp
    obtain⟨j1,_⟩:=f4 W g5;have q0:=a6.se;have p3:=j1.se;refine ag (by simp;omega) ?_;refine Sat.tk h λw h=>⟨by omega,by omega,?_⟩
    refine b9.loadMem h (λx H=> .tail _ (e5 H)) (j:=pre.length+1) (v:=W.v) (by rw[lF2,lI0 i8,i1];rfl) λn0 m4 e7=>?_
    simp only[lK0,lC0,lD1,lN0];refine aa ⟨_,e7,_,Sat.ld h (b6 _ (.head _)) (i:=1) rfl,?_⟩;have c2:=h;refine W.posIs σ _ _ w (λx H=> .tail _ (e6 g5 x H)) h λw h=>⟨_,_,rfl,c2.same h (b6 _ (.head _)) (b6 _ (.head _)) 1,?_⟩
    rw[i64_in _ (by omega)];have h1:l9 pos (i::W::g1)=(decide (i.e+1<W.s)||(CV pos i.D||l9 pos (W::g1))):=rfl
    refine bJ (λb8=>?_) λb8=>?_
    ·refine h5 w ?_ h;have:decide (i.e+1<W.s)=true:=by simp at b8⊢;omega
     rw[a7,h1,this];rfl
    ·have k0:decide (i.e+1<W.s)=false:=by simp at b8⊢;omega
     refine inner (l9 pos (W::g1)) w (by rw[a7,h1,k0];rfl) (λw f2 h=>?_) h;have:=d3 (pre++ [i]) w (by rw[<-I];simp) f2 h;rw[lA0,lE0] at this;exact this
 exact f6 items [] w rfl rfl h

def Dk (nb s e:Nat)(q:Option Addr)(n c:Nat):ai:=(nb,cel [hY s,hY e,hT q n c] yM)
def nU (nb s e:Nat)(q:Option Addr)(n c:Nat)(IM:List ai)(D:List DB):DB:=⟨.iface jX (kT (kE nb)),Dk nb s e q n c::(IM++cV D),cj D⟩
def p7 (nb s e:Nat)(bul num:Int)(lo:Bool)(q:Option Addr)(n c:Nat)(IM:List ai)(items:List IT):DB:=
 ⟨.iface dk (kT (kE nb)),ta nb s e bul num lo q n c::(IM++cV (items.map IT.db)),cj (items.map IT.db)⟩

structure Bk where
 ob:OB
 own:List ai
 D:List DB
 IM:List ai
def Bk.ok (f:Bk):Prop:=Sl 1 aO f.ob.q f.ob.n f.ob.c (f.D.map DB.v) f.IM/\f.D.length<100000/\f.ob.s<1000000000/\f.ob.e<1000000000
def txc (D:List DB):List ai:=(cj D).map TX.chunk
def Bk.mem (f:Bk):List ai:=f.IM++(f.own++(cV f.D++txc f.D))
def aM (fs:List Bk):List ai:=fs.flatMap Bk.mem
def txF (fs:List Bk):List TX:=fs.flatMap λf=>cj f.D
theorem bh (a b:List Bk):aM (a++b)=aM a++aM b:=by simp[aM]
theorem dy (f:Bk):aM [f]=f.IM++(f.own++(cV f.D++txc f.D)):=by simp[aM,Bk.mem]
theorem jB (f y:Bk):aM [f,y]=f.IM++(f.own++(cV f.D++txc f.D))++(y.IM++(y.own++(cV y.D++txc y.D))):=by simp[aM,Bk.mem]
theorem bE (a b:List Bk):txF (a++b)=txF a++txF b:=by simp[txF]
theorem dH (f:Bk):txF [f]=cj f.D:=by simp[txF]
theorem ul (f y:Bk):txF [f,y]=cj f.D++cj y.D:=by simp[txF]
theorem nB (D:List DB)(d:DB):txc (D++ [d])=txc D++d.txs.map TX.chunk:=by simp[txc,jy]
def DocC (σ:Out)(b:Nat)(L:List ai)(fs:List Bk)(lf:Leaf)(p:PS)(w:World):Prop:=
 ∃M E g y,Stk p (fs.map Bk.ob++g) M/\Txts p ((txF fs).map TX.t) E/\(∀f∈fs,f.ok)/\CN lf g y/\Sat σ w (p.at b::M++(E++(aM fs++(y++L))))
def Bk.like (g f:Bk):Prop:=g.ob.bd=f.ob.bd/\g.ob.s=f.ob.s/\g.ob.e=f.ob.e/\g.own=f.own
theorem DocC.closed {b:Nat}{gs:List Bk}{par f:Bk}{p2:PS}{U y O:List ai}{V:Option Addr}{I:Nat}{d:DB}{H:List ai}(a6: ∀W∈gs++ [par,f],Bk.ok W)(b6:par.D.length<99999)(b3:Stk p2 (gs.map Bk.ob++ [{par.ob with q:=V,n:=par.ob.n+1,c:=I}]) U)(b4:Sl 1 aO V (par.ob.n+1) I (par.D.map DB.v++ [d.v]) y)(ht:Txts p2 ((txF (gs++ [par,f])).map TX.t) O)(a7:d.txs=cj f.D)(h:Sat σ w (p2.at b::U++(y++(O++(aM gs++(H++(cV par.D++(txc par.D++(d.own++(txc f.D++L)))))))))):
 DocC σ b L (gs++ [⟨{par.ob with q:=V,n:=par.ob.n+1,c:=I},H,par.D++ [d],y⟩]) .none p2 w:=by
 refine⟨U,O,[],[],?_,?_,?_,⟨rfl,rfl⟩,?_⟩
 ·rw[lV0,lG0];exact b3
 ·have e:txF (gs++ [⟨{par.ob with q:=V,n:=par.ob.n+1,c:=I},H,par.D++ [d],y⟩])=txF (gs++ [par,f]):=by
   rw[bE,bE,dH,ul,jy,a7]
  rw[e];exact ht
 ·intro W E;rcases lO0.1 E with E|E
  ·exact a6 W (by simp[E])
  ·obtain rfl:=lR0.1 E;obtain⟨_,b7,b5⟩:=a6 par (by simp);exact⟨by rw[lV0];exact b4,by simp;omega,b5⟩
 ·rw[bh,dy,lu,nB,a7]
  show Sat σ w (p2.at b::U++(O++(aM gs++(y++(H++((cV par.D++d.own)++(txc par.D++txc f.D))))++([]++L))))
  exact h.re
theorem o7 {b:Nat}{y:Option Addr}{p:PS}{ob:List OB}{o:OB}{M:List ai}(h:Sat σ w (p.at b::M++L))(hs:Stk p (ob++ [o]) M)(g: ∀w nb,Sat σ w (p.at b::M++(Dk nb o.s o.e o.q o.n o.c::L))->R (hQ (.iface jX (kT (kE nb)))) w):
 callE P gP #[kT y,.iface ah (kT (kE b))] R w:=by
 refine gW.sound ?_;refine bm nG ?_;refine tH h hs λw h=>⟨_,_,rfl,?_⟩
 refine bm kb ?_;refine nu h hs λw h=>⟨_,_,_,rfl,?_⟩
 refine Sat.bx h λnb w h=>g w nb ?_
 have h:Sat σ w (Dk nb o.s o.e o.q o.n o.c::(p.at b::M++L)):=h
 exact h.re
theorem qK {b ib lb wd:Nat}{hv:Bool}{bul num:Int}{lo:Bool}{it:Option Addr}{td:Value}{p:PS}{ob:List OB}{o:OB}{M:List ai}(h:Sat σ w (p.at b::M++(gc ib lb wd hv::cM lb bul num lo it td::L)))(hs:Stk p (ob++ [o]) M)(y: ∀w nb,Sat σ w (p.at b::M++((nb,cel [hY o.s,hY o.e,hT o.q o.n o.c,hY wd] mF)::cM lb bul num lo none td::L))->R (hQ (.iface fG (kT (kE nb)))) w):
 callE P iD #[kT (kE ib),.iface ah (kT (kE b))] R w:=by
 refine iM.sound ?_;have h:Sat σ w (cM lb bul num lo it td::gc ib lb wd hv::(p.at b::M++L)):=h.re
 refine aa ⟨_,Sat.ld h (.tail _ (.head _)) (i:=0) rfl,aa ?_⟩;refine h.stA 0 λw h=>?_
 have h:Sat σ w (cM lb bul num lo none td::gc ib lb wd hv::(p.at b::M++L)):=h
 refine Sat.tk h λw h=>aa ⟨_,Sat.ld h (.tail _ (.head _)) (i:=1) rfl,?_⟩
 have E:=h;have h:Sat σ w (p.at b::M++(cM lb bul num lo none td::gc ib lb wd hv::L)):=h.re
 have g:gc ib lb wd hv∈p.at b::M++(cM lb bul num lo none td::gc ib lb wd hv::L):=by simp
 refine bm nG ?_;refine tH h hs λw h=>⟨_,_,rfl,E.same h (.tail _ (.head _)) g 1,?_⟩
 have H:=h;refine bm kb ?_;refine nu h hs λw h=>⟨_,_,_,rfl,H.same h g g 1,?_⟩
 refine Sat.bx h λnb w h=>y w nb ?_
 have h:Sat σ w ((nb,cel [hY o.s,hY o.e,hT o.q o.n o.c,hY wd] mF)::(p.at b::M++(cM lb bul num lo none td::gc ib lb wd hv::L))):=h
 exact h.less [gc ib lb wd hv]
def Bk.isQuote (f:Bk):Prop:= ∃g,f.ob.bd=quoV g/\f.own= [E8 g]
def Bk.isItem (f:Bk)(lb wd:Nat)(hv:Bool):Prop:= ∃ib,f.ob.bd=CU ib/\f.own= [gc ib lb wd hv]
def ItemOf (it:Option Addr)(f:Bk)(lb wd:Nat)(hv:Bool):Prop:= ∃ib,it=kE ib/\f.ob.bd=CU ib/\f.own= [gc ib lb wd hv]
theorem ItemOf.item {it:Option Addr}{f:Bk}{lb wd:Nat}{hv:Bool}(h:ItemOf it f lb wd hv):f.isItem lb wd hv:=⟨h.choose,h.choose_spec.2⟩
def Bk.isListT (f:Bk)(lb:Nat)(bul num:Int)(it:Option Addr)(td:Value):Prop:=f.ob.bd=BB lb/\f.own= [cM lb bul num false it td]
abbrev Bk.isList (f:Bk)(lb:Nat)(bul num:Int)(it:Option Addr):Prop:=f.isListT lb bul num it .nilFunc
theorem yA {b:Nat}{gs:List Bk}{par f:Bk}{p:PS}(h:DocC σ b L (gs++ [par,f]) .none p w)(b4:f.isQuote)(b5:par.D.length<99999)(a7: ∀w g nb x,g.like par->g.D=par.D++ [nU nb f.ob.s f.ob.e f.ob.q f.ob.n f.ob.c f.IM f.D]->DocC σ b L (gs++ [g]) .none {p with stn:=gs.length+1} w->R (hQ x) w):
 callE P aJ #[kT (kE b)] R w:=by
 obtain⟨M,b3,b8,c1,hs,ht,H,⟨rfl,rfl⟩,h⟩:=h;obtain⟨O,E,U⟩:=b4;have hs:Stk p (gs.map Bk.ob++ [par.ob]++ [f.ob]) M:=by simpa using hs
 have y:=(H par (by simp)).1;have b9:par.ob.n=par.D.length:=by have:=y.1;simp at this;omega
 rw[bh,jB,U] at h;refine iP h hs E λw h=>?_
 rw[E];refine bm mN ?_;refine o7 h hs λw nb h=>⟨_,rfl,none,false,w,jY (by decide) w,ae rfl ?_⟩
 have h:Sat σ w (p.at b::M++(par.IM++(b3++(aM gs++(par.own++(cV par.D++(txc par.D++((Dk nb f.ob.s f.ob.e f.ob.q f.ob.n f.ob.c::(f.IM++cV f.D))++(txc f.D++(E8 O::L)))))))))):=h.re
 refine lJ h hs y (by omega) λw p2 c2 V b7 b6 a6 I W h=>?_
 have e:p2= {p with stn:=gs.length+1}:=by rw[a6,lS0]
 rw[e] at I h;refine a7 w ⟨{par.ob with q:=b7,n:=par.ob.n+1,c:=b6},par.own,par.D++ [nU nb f.ob.s f.ob.e f.ob.q f.ob.n f.ob.c f.IM f.D],V⟩ nb _ ⟨rfl,rfl,rfl,rfl⟩ rfl (DocC.closed (par:=par) (f:=f) (d:=nU nb f.ob.s f.ob.e f.ob.q f.ob.n f.ob.c f.IM f.D) H b5 I W (ht.of rfl rfl rfl) rfl ?_);exact h.less [E8 O] (by intro _;simp only[nU,lN3,dE,eK,me]<;>omega)
theorem ub {b lb wd:Nat}{hv:Bool}{bul num:Int}{it:Option Addr}{td:Value}{gs:List Bk}{par f:Bk}{p:PS}(h:DocC σ b L (gs++ [par,f]) .none p w)(b8:f.isItem lb wd hv)(b6:par.isListT lb bul num it td)(b9:par.D.length<99999)(b7: ∀w g nb x,g.isListT lb bul num none td->g.ob.s=par.ob.s->g.ob.e=par.ob.e->g.D=par.D++ [(IT.mk nb f.ob.s f.ob.e f.ob.q f.ob.n f.ob.c wd f.IM f.D).db]->(IT.mk nb f.ob.s f.ob.e f.ob.q f.ob.n f.ob.c wd f.IM f.D).ok->DocC σ b L (gs++ [g]) .none {p with stn:=gs.length+1} w->R (hQ x) w):
 callE P aJ #[kT (kE b)] R w:=by
 obtain⟨M,E,c4,c8,hs,ht,y,⟨rfl,rfl⟩,h⟩:=h;obtain⟨ib,I,U⟩:=b8;obtain⟨b4,a6⟩:=b6;have hs:Stk p (gs.map Bk.ob++ [par.ob]++ [f.ob]) M:=by simpa using hs
 have H:=(y par (by simp)).1;obtain⟨W,c3,V⟩:=y f (by simp);have c5:par.ob.n=par.D.length:=by have:=H.1;simp at this;omega
 rw[bh,jB,U,a6] at h;refine iP h hs I λw h=>?_
 rw[I];have h:Sat σ w (p.at b::M++(gc ib lb wd hv::cM lb bul num false it td::(par.IM++(E++(aM gs++(cV par.D++(txc par.D++(f.IM++(cV f.D++(txc f.D++L)))))))))):=h.re
 refine bm om ?_;refine qK h hs λw nb h=>⟨_,rfl,none,false,w,jY (by decide) w,ae rfl ?_⟩
 have h:Sat σ w (p.at b::M++(par.IM++(E++(aM gs++([cM lb bul num false none td]++(cV par.D++(txc par.D++(((IT.mk nb f.ob.s f.ob.e f.ob.q f.ob.n f.ob.c wd f.IM f.D).chunk::(f.IM++cV f.D))++(txc f.D++L))))))))):=by
  have h:Sat σ w (p.at b::M++((IT.mk nb f.ob.s f.ob.e f.ob.q f.ob.n f.ob.c wd f.IM f.D).chunk::cM lb bul num false none td::(par.IM++(E++(aM gs++(cV par.D++(txc par.D++(f.IM++(cV f.D++(txc f.D++L)))))))))):=h
  exact h.re
 refine lJ h hs H (by omega) λw p2 c9 a7 c2 c1 b5 O b3 h=>?_
 have e:p2= {p with stn:=gs.length+1}:=by rw[b5,lS0]
 rw[e] at O h;refine b7 w ⟨{par.ob with q:=c2,n:=par.ob.n+1,c:=c1},[cM lb bul num false none td],par.D++ [(IT.mk nb f.ob.s f.ob.e f.ob.q f.ob.n f.ob.c wd f.IM f.D).db],a7⟩ nb _ ⟨b4,rfl⟩ rfl rfl rfl ⟨W,by show f.D.length<1000000;omega,V⟩ (DocC.closed (par:=par) (f:=f) (d:=(IT.mk nb f.ob.s f.ob.e f.ob.q f.ob.n f.ob.c wd f.IM f.D).db) y b9 O b3 (ht.of rfl rfl rfl) rfl ?_);exact h

theorem DB.kindOK.ifc {d:DB}(h:d.kindOK):d.ifc/\(dt d).ifc:=by
 rcases h with ⟨nb,t,s,e,raw,rfl⟩|⟨ty,q,h,ht⟩
 ·rw[kB];exact⟨⟨_,_,rfl⟩,⟨_,_,rfl⟩⟩
 ·rw[d6 h ht];exact⟨⟨_,_,h⟩,⟨_,_,h⟩⟩
theorem Ret.facts {E g:List IT}(h:Ret E g)(I: ∀i∈E,∀d∈i.D,d.kindOK):cj (g.map IT.db)=cj (E.map IT.db)/\ ∀i∈g,i.ok/\ ∀d∈i.D,d.ifc:=by
 induction h with
 |nil=>exact⟨rfl,by simp⟩
 | @cons i i' E g h1 h2 _ ih=>
  obtain⟨V,W⟩:=ih λj y=>I j (lQ1 _ y)
  have H:=I i (by simp);have O:i'.D=i.D.map dt:=by rw[h1]
  refine⟨?_,λj y=>?_⟩
  ·show cj i'.D++cj (g.map IT.db)=cj i.D++cj (E.map IT.db)
   rw[V,O,(p6 H).2]
  ·rcases lX0.1 y with rfl|y
   ·refine⟨h2,λd hd=>?_⟩;rw[O] at hd;obtain⟨a6,U,rfl⟩:=lZ1.1 hd;exact(H a6 U).ifc.2
   ·exact W j y
def Tgh (lo:Bool)(items g:List IT):Prop:=lo=true/\g=items\/lo=false/\Ret items g
theorem Ai {b lb pb:Nat}{op:Opt}{bul num:Int}{it:Option Addr}{gs:List Bk}{par f:Bk}{p:PS}{items:List IT}{pos:DB->Nat × Nat}(h:DocC σ b L (gs++ [par,f]) .none p w)(e1:f.isList lb bul num it)(E:f.D=items.map IT.db)(d0:items≠ [])(I: ∀i∈items,i.ok/\ ∀d∈i.D,d.kindOK/\d.posIs (pos d).1 (pos d).2/\(pos d).1<1000000000/\(pos d).2<2000000000)(c3:p.pz=kE pb)(c9:op.at pb∈L)(b8:op.task=false)(e3:par.D.length<99999)(d2: ∀w (p':PS) U nb e g x,p'.base=p.base->p'.depth=p.depth->p'.lineno=p.lineno->p'.stn=gs.length+1->U.like par->Tgh (l9 pos items) items g->((∃i∈items,e=i.e)/\items.getLast?.map IT.e=some e)->U.D=par.D++ [p7 nb f.ob.s e bul num (l9 pos items) f.ob.q f.ob.n f.ob.c f.IM g]->
  DocC σ b L (gs++ [U]) .none p' w->R (hQ x) w):
 callE P aJ #[kT (kE b)] R w:=by
 obtain⟨M,a6,e6,f1,hs,ht,W,⟨rfl,rfl⟩,h⟩:=h;obtain⟨b5,c1⟩:=e1;have hs:Stk p (gs.map Bk.ob++ [par.ob]++ [f.ob]) M:=by simpa using hs
 have b3:=(W par (by simp)).1;obtain⟨O,b4,c2⟩:=W f (by simp);have e8:par.ob.n=par.D.length:=by have:=b3.1;simp at this;omega
 have c8:f.D.map DB.v=items.map IT.v:=by rw[E];simp[Function.comp_def,IT.db]
 rw[c8] at O;have e9:items.length<100000:=by rw[E] at b4;simpa using b4
 have e7:txc f.D=(cj (items.map IT.db)).map TX.chunk:=by rw[E];rfl
 rw[bh,jB,c1,E] at h;refine iP h hs b5 λw h=>?_
 rw[b5];have h:Sat σ w (p.at b::M++(cM lb bul num false it .nilFunc::(f.IM++(cV (items.map IT.db)++(par.IM++(a6++(aM gs++(par.own++(cV par.D++(txc par.D++(txc (items.map IT.db)++L))))))))))):=h.re
 refine bm ol ?_;refine qJ (pos:=pos) h hs O d0 (by omega) c2.1 I λw nb e g V d3 h=>⟨_,rfl,kE nb,true,w,oa (by rw[mw];intro f0 h;cases h) mw w,ag rfl (aa ?_)⟩
 have b7:g.map IT.v=items.map IT.v:=by
  rcases V with ⟨_,rfl⟩|⟨_,hr⟩
  ·rfl
  ·exact hr.vs
 have a7:cj (g.map IT.db)=cj (items.map IT.db)/\ ∀i∈g,i.ok/\ ∀d∈i.D,d.ifc:=by
  rcases V with ⟨_,rfl⟩|⟨_,hr⟩
  ·exact⟨rfl,λi hi=>⟨(I i hi).1,λd hd=>((I i hi).2 d hd).1.ifc.1⟩⟩
  ·exact hr.facts λi hi d hd=>((I i hi).2 d hd).1
 have b9:g.length<1000000:=by have:=congrArg List.length b7;simp at this;omega
 have k2: ∀(y:Bool) w,Sat σ w (({p with corner:=y}:PS).at b::M++(ta nb f.ob.s e bul num (l9 pos items) f.ob.q f.ob.n f.ob.c::(f.IM++(cV (g.map IT.db)++(par.IM++(a6++(aM gs++(par.own++(cV par.D++(txc par.D++(txc (items.map IT.db)++L)))))))))))->
  aK.k2 R (kE b) (.iface dk (kT (kE nb))) (kE nb) w:=by
  intro y w h;refine aa ⟨_,Sat.ld h (.head _) (i:=0) rfl,?_⟩;rw[c3];refine aa ⟨_,Sat.ld h (by simp[c9]:op.at pb∈_) rfl,ae b8 ?_⟩;have h:Sat σ w (({p with corner:=y}:PS).at b::M++(par.IM++(a6++(aM gs++(par.own++(cV par.D++(txc par.D++((ta nb f.ob.s e bul num (l9 pos items) f.ob.q f.ob.n f.ob.c::(f.IM++cV (g.map IT.db)))++(txc f.D++L))))))))):=by
   rw[E];exact h.re
  refine lJ h (hs.of rfl rfl rfl) b3 (by omega) λw p2 f2 c4 e5 e4 d1 b6 c5 h=>?_
  have e0:p2= {p with corner:=y,stn:=gs.length+1}:=by rw[d1,lS0]
  rw[e0] at b6 h;refine d2 w {p with corner:=y,stn:=gs.length+1} ⟨{par.ob with q:=e5,n:=par.ob.n+1,c:=e4},par.own,par.D++ [p7 nb f.ob.s e bul num (l9 pos items) f.ob.q f.ob.n f.ob.c f.IM g],c4⟩ nb e g _ rfl rfl rfl rfl ⟨rfl,rfl,rfl,rfl⟩ V d3 rfl
   (DocC.closed (par:=par) (f:=f) (d:=p7 nb f.ob.s e bul num (l9 pos items) f.ob.q f.ob.n f.ob.c f.IM g) W e3 b6 c5 (ht.of rfl rfl rfl) ?_ ?_)
  ·rw[E];exact a7.1
  ·exact h
 refine⟨_,Sat.ld h (.head _) (i:=6) rfl,bJ (λ_=>aa ?_) λ_=>?_⟩
 ·refine Sat.st h (k:=0) rfl (by simp[PS.cells]) trivial rfl λw h=>?_
  exact k2 true w h
 ·refine pj (nb:=nb) (s:=f.ob.s) (e:=e) (bul:=bul) (num:=num) (loose:=l9 pos items) (items:=g) (b7▸O) a7.2 b9 h (λx H=>?_) λy=>⟨_,rfl,aa ?_⟩
  ·rcases lX0.1 H with rfl|H
   ·simp
   ·rcases lO0.1 H with H|H<;>simp[H]
  ·refine Sat.st h (k:=0) rfl (by simp[PS.cells]) trivial rfl λw h=>?_
   exact k2 y w h

structure Ln.has (l:Ln) (c:UInt8) (rest:List UInt8):Prop where
 ok:l.ok
 sp:l.sp=0
 tx:l.text.drop l.i=c::rest
theorem Ln.has.get {l:Ln}{c:UInt8}{r:List UInt8}(h:l.has c r):l.text[l.i]? =some c:=by
 have:=congrArg (λx:List UInt8=>x[0]?) h.tx
 simpa using this
theorem Ln.has.lt {l:Ln}{c:UInt8}{r:List UInt8}(h:l.has c r):l.i<l.text.length:=by
 have:=congrArg List.length h.tx;simp at this;omega
theorem Ln.has.next {l:Ln}{c d:UInt8}{r:List UInt8}(h:l.has c (d::r)):({l with i:=l.i+1}:Ln).has d r:=by
 have g:=congrArg List.length h.tx;simp at g;refine⟨⟨by show l.i+1<=l.text.length;omega,by show l.tab<=l.i+1;have:=h.ok.tab;omega,h.ok.len,h.ok.sp⟩,h.sp,?_⟩
 show l.text.drop (l.i+1)=d::r
 have:=congrArg (List.drop 1) h.tx;rw[lJ5] at this
 simpa[lQ4] using this
theorem Ln.has.tsGo {l:Ln}{c:UInt8}{r:List UInt8}(h:l.has c r)(hc:cL c=false)(mn k n:Nat)(e:Bool):l.tsGo mn e (k+1) n=if mn<=n then some l else none:=by
 simp only[cL,lI2,beq_eq_false_iff_ne,ne_eq] at hc;have g:=h.lt;simp[Ln.tsGo,h.sp,h.get,hc.1,hc.2,Nat.not_le.2 g]
theorem Ln.has.sp1 {l:Ln}{r:List UInt8}{mn:Nat}{e:Bool}(h:l.has 32 r):l.trimSp mn 1 e=some {l with i:=l.i+1}:=by
 have g:=h.lt;simp[Ln.trimSp,Ln.tsGo,h.sp,h.get,Nat.not_le.2 g]
theorem Ln.has.lead {l:Ln}{c:UInt8}{r:List UInt8}(h:l.has c r)(hc:cL c=false)(k:Nat)(e:Bool):l.lead (k+1) e=l:=by
 unfold Ln.lead Ln.trimSp;rw[h.tsGo hc];rfl
theorem Ln.has.strip {l:Ln}{c:UInt8}{r:List UInt8}(h:l.has c r)(hc:cL c=false):l.strip 3 0=(0,l):=by
 simp only[Ln.strip,Ln.trimSp];rw[h.tsGo hc];rfl
theorem Ln.has.peek {l:Ln}{c:UInt8}{r:List UInt8}(h:l.has c r):l.peek=c:=by
 unfold Ln.peek;rw[h.sp,if_neg (by decide),lP0,h.get];rfl
theorem Ln.has.trimC {l:Ln}{c:UInt8}{r:List UInt8}(h:l.has c r)(d:UInt8):l.trimC d=if c=d then some {l with i:=l.i+1} else none:=by
 unfold Ln.trimC;rw[h.sp,if_neg (by decide),h.get];simp
theorem Ln.has.blank {l:Ln}{c:UInt8}{r:List UInt8}(h:l.has c r)(hc:cL c=false):l.blank=false:=by
 unfold Ln.blank;rw[h.tx,lL3,hc];rfl
theorem Ln.has.plain {l:Ln}{c:UInt8}{r:List UInt8}(h:l.has c r)(hc:nD c=true):l.plain:=by
 simp only[nD,lK1,lM5,bne_iff_ne,ne_eq] at hc;obtain⟨⟨E,a7⟩,V⟩:=hc;have g:=sW E;simp only[lR,lM5,lI2,beq_eq_false_iff_ne,ne_eq] at E;obtain⟨⟨⟨⟨⟨⟨⟨⟨_,U⟩,W⟩,O⟩,b3⟩,H⟩,b5⟩,b4⟩,I⟩:=E;have y: ∀e,l.lead 3 e=l:=h.lead g 2
 have a6:(l.lead 3 false).peek=c:=by rw[y];exact h.peek
 refine⟨h.ok,h.blank g,?_,?_,?_,LDecl.of_peek h.ok (by rw[h.strip g,h.peek];exact V),HDecl.of_peek h.ok (by rw[a6];exact a7),?_,?_⟩
 ·unfold Ln.quote;rw[y,h.trimC,if_neg U];rfl
 ·unfold Ln.heading;rw[y,h.trimC,if_neg W]
 ·unfold Ln.isHR;simp only[y,h.peek];rw[if_neg]
  rintro (hh|hh|hh)
  ·exact b4 hh
  ·exact O hh
  ·exact I hh
 ·rw[h.strip g,h.peek];exact⟨b3,H⟩
 ·unfold Ln.trimSp;rw[h.tsGo g];rfl
theorem Ln.has.bullet {l:Ln}{c d:UInt8}{r:List UInt8}(h:l.has c (32::d::r))(hc:c=45\/c=42\/c=43)(hd:cL d=false):l.bullet=some (c,2,{l with i:=l.i+2}):=by
 have y:cL c=false:=by rcases hc with rfl|rfl|rfl<;>decide
 have g:=h.next.next
 unfold Ln.bullet;rw[h.strip y];simp only[h.peek];rw[if_pos hc,h.trimC,if_pos rfl]
 show (match (Ln.trimSp 1 1 true _) with|none=>none|some t2=>_)=_
 rw[h.next.sp1];simp only;rw[g.strip hd];simp only;have:Ln.trimSp 1 1 true ({l with i:=l.i+1+1}:Ln)=none:=by
  unfold Ln.trimSp;rw[g.tsGo hd];rfl
 rw[this]
theorem drop_suffix {u s:List UInt8}(h:u<:+s):s.drop (s.length - u.length)=u:=by
 obtain⟨a,rfl⟩:=h;rw[lA0,lF3,lB4]
theorem jq {b:Nat}{p:PS}{M:List ai}{l:Ln}{c:UInt8}{r:List UInt8}(g:AD b p M l cg)(h:l.has c r)(hc:xe c)(H:l.isHR=false): ∀j (U:j<newsF.length),j<4->AD b p M l newsF[j]:=by
 obtain⟨E,I,O⟩:=hc;intro j U V
 match j,V with
 |0,_=>exact λσ w L R g y=>ip (x:= .nilIface) g h.ok (by unfold Ln.quote;rw[h.lead E 2,h.trimC,if_neg I];rfl) y
 |1,_=>exact λσ w L R g y=>lw g h.ok (by unfold Ln.heading;rw[h.lead E 2,h.trimC,if_neg O]) y
 |2,_=>exact g
 |3,_=>exact λσ w L R g y=>rx g h.ok H y

def Runs (R:Ending->World->Prop)(E:OA->Nat->WP)(b b1:Nat):Prop:=
 ∀w,(∀X:OA->Nat->WP,(∀y g w,aj.bl102 R X y g w->X y g w)->aj.bl102 R X (kE b) b1 w)->E (kE b) b1 w
theorem Runs.top (b b1:Nat):Runs R (aj.l102 R) b b1:=λw y X g=>g _ _ _ (y X g)
theorem Runs.of {X:OA->Nat->WP}(y: ∀E g w,aj.bl102 R X E g w->X E g w)(b b1:Nat):Runs R X b b1:=λw I=>y _ _ _ (I X y)
theorem Bd {e1:OA->Nat->WP}{b b1:Nat}{gs:List Bk}{top:Bk}{p:PS}{l l2:Ln}{r r2:List UInt8}{x c d:UInt8}{num n:Nat}{ty:TypeId}{v:Value}(f2:Runs R e1 b b1)(h:DocC σ b (l.at b1::L) (gs++ [top]) .none p w)(hd:p.depth=gs.length)(g3:gs.length<100000)(c8:top.ob.bd= .iface ty v)(d3:ty≠ar)(g1:ty≠az)(a6:l.has x r)(hc:xe x)(c4:l.isHR=false)(e5:pL l c num n l2)(c3:l2.has d r2)(e9:cL d=false)(b5:p.lineno<1000000000)(f6: ∀(X:OA->Nat->WP),(∀d2 e0 w,aj.bl102 R X d2 e0 w->X d2 e0 w)-> ∀w (p':PS) f g lb it,p'.base=p.base->p'.lineno=p.lineno->p'.depth=p.depth+2->f.isList lb c.toNat (num:Nat) it->f.D= []->ItemOf it g lb n true->g.D= []->f.ob.s=p.lineno->g.ob.s=p.lineno->g.ob.e=p.lineno->DocC σ b (l2.at b1::L) (gs++ [top]++ [f,g]) .none p' w->X (kE b) b1 w):
 aj.bl102 R e1 (kE b) b1 w:=by
 obtain⟨M,E,g2,g4,hs,ht,f3,⟨rfl,rfl⟩,h⟩:=h;have hs:Stk p (gs.map Bk.ob++ [top.ob]) M:=by simpa using hs
 have e3:cL x=false:=hc.1;have c5:=c3.blank e9;have h:Sat σ w (p.at b::M++(l.at b1::(E++(aM (gs++ [top])++L)))):=h.re
 refine jr (l2:=l) 4 (by decide) h (jq (λσ w L R b8 b9=>kD b8 hs (by rw[hd]) (by simp) c8 d3 a6.ok b9) a6 hc c4) a6.ok (a6.blank e3) λw nb e g0 h f5=>?_
 show callE P cm _ g0 w
 refine uG h hs (by rw[hd];simp) (by simp;omega) c8 d3 g1 a6.ok e5 λw p' b4 lb U O H I ib V e8 h=>?_
 have c2:p'.depth=gs.length:=by rw[V];exact hd
 rw[c5,show (!false)=true from rfl] at h;have h:Sat σ w (l.at b1::p'.at b::(b4++(cM lb c.toNat (num:Nat) false none (ku U I H O)::(U,cel [kT (kE b)] ah)::l2.at O::gM H lb::jf I ib::gc ib lb n true::((nb,cel newsC e)::(E++(aM (gs++ [top])++L)))))):=h.re
 refine f5 w _ p' (by omega) h λw h=>?_
 refine f2 w λX e7=>?_
 let b3:PS:= {p' with depth:=p'.depth+1}
 have c9:Stk b3 (gs.map Bk.ob++ [top.ob]++ [⟨BB lb,none,0,0,p.lineno,p.lineno⟩]) b4:=e8.of rfl rfl rfl;have d0:b3.depth=(gs.map Bk.ob++ [top.ob]).length:=by show p'.depth+1=_;rw[c2];simp
 have h:Sat σ w (l.at b1::b3.at b::(b4++(cM lb c.toNat (num:Nat) false none (ku U I H O)::(U,cel [kT (kE b)] ah)::l2.at O::gM H lb::jf I ib::gc ib lb n true::((nb,cel newsC e)::(E++(aM (gs++ [top])++L)))))):=h
 have h:Sat σ w (b3.at b::b4++(l.at b1::(cM lb c.toNat (num:Nat) false none (ku U I H O)::(U,cel [kT (kE b)] ah)::l2.at O::gM H lb::jf I ib::gc ib lb n true::((nb,cel newsC e)::(E++(aM (gs++ [top])++L)))))):=h.re
 refine jr (l2:=l2) 4 (by decide) h (jq (λσ w L R b8 b9=>kD b8 c9 d0 rfl rfl (by decide) a6.ok b9) a6 hc c4) c3.ok c5 λw b6 c1 f4 h f0=>?_
 show callE P cm _ f4 w
 have h:Sat σ w (b3.at b::b4++(cM lb c.toNat (num:Nat) false none (ku U I H O)::(U,cel [kT (kE b)] ah)::l2.at O::gM H lb::jf I ib::gc ib lb n true::(l.at b1::(b6,cel newsC c1)::(nb,cel newsC e)::(E++(aM (gs++ [top])++L))))):=h.re
 refine wg (l:=l) h c9 d0 (by simp;omega) rfl λw y b7 a7 d1 h=>?_
 have f1:y.depth=gs.length+1:=by rw[a7];show p'.depth+1=_;rw[c2]
 have e6:y.lineno=p.lineno:=by rw[a7];show p'.lineno=_;rw[V]
 have h:Sat σ w (l.at b1::y.at b::(b7++(cM lb c.toNat (num:Nat) false (kE ib) .nilFunc::gc ib lb n true::((b6,cel newsC c1)::(nb,cel newsC e)::(E++(aM (gs++ [top])++L)))))):=h.re
 refine f0 w _ y (by omega) h λw h=>?_
 have e4:b3.lineno=p.lineno:=by show p'.lineno=_;rw[V]
 rw[e4] at d1;refine f6 X e7 w {y with depth:=y.depth+1} ⟨⟨BB lb,none,0,0,p.lineno,p.lineno⟩,[cM lb c.toNat (num:Nat) false (kE ib) .nilFunc],[],[]⟩ ⟨⟨CU ib,none,0,0,p.lineno,p.lineno⟩,[gc ib lb n true],[],[]⟩ lb (kE ib)
  (by rw[a7];show p'.base=_;rw[V];rfl) e6 (by show y.depth+1=_;rw[f1,hd];omega) ⟨rfl,rfl⟩ rfl ⟨ib,rfl,rfl,rfl⟩ rfl rfl rfl rfl ?_
 refine⟨b7,E,[],[],?_,?_,?_,⟨rfl,rfl⟩,?_⟩
 ·rw[lG0];have e:(gs++ [top]++ [(⟨⟨BB lb,none,0,0,p.lineno,p.lineno⟩,[cM lb c.toNat (num:Nat) false (kE ib) .nilFunc],[],[]⟩:Bk),⟨⟨CU ib,none,0,0,p.lineno,p.lineno⟩,[gc ib lb n true],[],[]⟩]).map Bk.ob=gs.map Bk.ob++ [top.ob]++ [⟨BB lb,none,0,0,p.lineno,p.lineno⟩]++ [⟨CU ib,none,0,0,p.lineno,p.lineno⟩]:=by simp
  rw[e];exact d1.of rfl rfl rfl
 ·rw[bE,ul]
  show Txts _ ((txF (gs++ [top])++([]++ [])).map TX.t) E
  rw[lG0,lG0];exact ht.of (by show y.tq=_;rw[a7];show p'.tq=_;rw[V]) (by show y.tn=_;rw[a7];show p'.tn=_;rw[V]) (by show y.tc=_;rw[a7];show p'.tc=_;rw[V])
 ·intro g W;rcases lO0.1 W with W|W
  ·exact f3 g W
  ·rcases lX0.1 W with rfl|W
   ·exact⟨Sl.nil 1 aO,by simp,b5,b5⟩
   ·obtain rfl:=lR0.1 W;exact⟨Sl.nil 1 aO,by simp,b5,b5⟩
 ·rw[bh (gs++ [top]),jB]
  show Sat σ w (_::b7++(E++(aM (gs++ [top])++(([]++([cM lb c.toNat (num:Nat) false (kE ib) .nilFunc]++([]++ [])))++([]++([gc ib lb n true]++([]++ []))))++([]++(l2.at b1::L)))))
  exact h.less [(nb,cel newsC e),(b6,cel newsC c1)]

def noNL (l:List UInt8):Prop:=10 ∉ l/\13 ∉ l
inductive LinesOf:List UInt8->List (List UInt8 × UInt8)->Prop where
 |nil:LinesOf [] []
 |last {l:List UInt8}:l≠ []->noNL l->LinesOf l [(l,0)]
 |cons {l t:List UInt8} {ls:List (List UInt8 × UInt8)}:noNL l->LinesOf t ls->LinesOf (l++10::t) ((l,10)::ls)
theorem LinesOf.no13 {t:List UInt8}{ls:List (List UInt8 × UInt8)}(h:LinesOf t ls):13 ∉ t:=by
 induction h with
 |nil=>simp
 |last y g=>exact g.2
 |cons y g E=>
  simp only[lO0,lX0,not_or];exact⟨y.2,by decide,E⟩
theorem LinesOf.len {t:List UInt8}{ls:List (List UInt8 × UInt8)}(h:LinesOf t ls):ls.length<=t.length:=by
 induction h with
 |nil=>simp
 |last g y=>have:=lY0.2 g;simp;omega
 |cons g y E=>simp;omega
theorem py {A B:List UInt8}{c:UInt8}(hc:c ∉ A): ∀(k i:Nat),i+k=A.length-> ∀f,k<f->kr [c] (A++c::B) f i=some A.length
 |0,i,hi,f+1,_=>by
  obtain rfl:i=A.length:=by omega
  simp only[kr,lE0];rw[if_pos (by simp),lB4,if_pos (by simp)]
 |k+1,i,hi,f+1,hf=>by
  simp only[kr,lE0];rw[if_pos (by simp;omega),if_neg]
  ·exact py hc k (i+1) (by omega) f (by omega)
  ·intro y;have g:i<A.length:=by omega
   rw[lJ2 (by omega),lG1 g,lQ0,lF5,List.take_zero] at y;have E:A[i]=c:=(List.cons.inj y).1;exact hc (E▸lP1 g)
theorem BW {A B:List UInt8}{c:UInt8}(hc:c ∉ A):idx (A++c::B) [c]=some A.length:=by
 unfold idx;exact py hc A.length 0 (by omega) _ (by simp;omega)
end Go.Proofs.YtendaipfdnhnaaaGreatDoor
