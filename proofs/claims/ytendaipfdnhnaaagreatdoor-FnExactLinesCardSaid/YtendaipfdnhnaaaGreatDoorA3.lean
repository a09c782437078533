/- Part 3 of the proof of the law FnExactLines: for every input the law returns true, the inputs read as they did, and memory that was there is as it was; under the conditions of the given row alone. -/
import Derived.Laws.StructEq
import Derived.Test.YtendaipfdnhnaaaGreatDoorA2
set_option linter.all false
open Go.IntKind(i64)
open ByteArray renaming mk→hP
open List renaming replicate→hN
namespace Go.Proofs.YtendaipfdnhnaaaGreatDoor
open Go.Proofs Go.IntWalk Go.RowKit
set_option maxRecDepth 20000
variable {σ:Out} {w:World} {L L':List ai} {R:Ending->World->Prop} {G:List UInt8->List Inl} {op:Opt}

def PS.core (p:PS):PS:= {p with em:=0,lq:=none,ln:=0,lc:=0,corner:=false,bt:= .z}
def PS.core2 (p:PS):PS:= {p with corner:=false,bt:= .z}
theorem PS.core_of2 {p p':PS}(h:p'.core2=p.core2):p'.core=p.core:=by
 have:=congrArg PS.core h
 simpa[PS.core,PS.core2] using this
def IIn (σ:Out)(b:Nat)(p:PS)(ts:List Inl)(opens:List Nat)(y:Option Addr)(E H:Nat)(L:List ai)(w:World):Prop:=
 ∃vs RM EM g,Sl 1 aC p.lq p.ln p.lc vs RM/\InlsAt ts vs EM/\Sl 1 bg y E H (opens.map λ(n:Nat)=>hY n) g/\ts.length<1073741824/\Sat σ w (p.at b::(RM++(EM++(g++L))))
def sub (s:List UInt8)(i j:Nat):List UInt8:=(s.take j).drop i
def kx (s:List UInt8)(em i:Nat)(ts:List Inl):List Inl:=if em<i then ts++ [.plain (sub s em i)] else ts
theorem zu {b e i:Nat}{p:PS}{ts:List Inl}{opens:List Nat}{W:Option Addr}{U O:Nat}(h:IIn σ b p ts opens W U O L w)(E:p.em=e)(b5:i<=p.s.length)(b7:ts.length<1073741823)(a7: ∀w p',p'.core=p.core->p'.bt=p.bt->p'.em=((max e i:Nat):Int)->IIn σ b p' (kx p.s e i ts) opens W U O L w->R (hQ (.tuple #[])) w):
 callE P dn #[kT (kE b),hY i] R w:=by
 obtain⟨vs,RM,EM,g,a6,H,V,b3,h⟩:=h
 have b6:=H.length
 by_cases hi:e<i
 ·have h:Sat σ w (p.at b::RM++(EM++(g++L))):=h
  refine Cq (L:=EM++(g++L)) h ⟨a6,by omega⟩ E hi b5 (by omega) λw p' I nb y b4 h=>?_
  refine a7 w p' (by rw[y];rfl) (by rw[y]) (by rw[y];show ((i:Nat):Int)=_;congr 1;omega) ⟨_,I,EM++ [qI nb (sub p.s e i)],g,b4.1,?_,V,?_,?_⟩
  ·unfold kx;rw[if_pos hi]
   exact H.append (InlsAt.one ⟨nb,[],_,rfl,rfl⟩)
  ·unfold kx;rw[if_pos hi];simp;omega
  ·have h:Sat σ w (p'.at b::I++(qI nb (sub p.s e i)::(EM++(g++L)))):=h
   exact h.re
 ·refine Cr h (by rw[E];omega) λw h=>?_
  refine a7 w p rfl rfl (by rw[E];congr 1;omega) ⟨vs,RM,EM,g,a6,?_,V,?_,h⟩
  ·unfold kx;rw[if_neg hi];exact H
  ·unfold kx;rw[if_neg hi];exact b3
def pN (b:Nat)(p:PS)(s:List UInt8)(i:Nat)(H:Value)(L0:List ai)(E:Option (Inl × Nat × Nat))(Q:PS->Prop):Prop:=
 ∀(σ:Out) (R:Ending->World->Prop) (L:List ai) (w:World),(∀c∈L0,c∈L)->Sat σ w (p.at b::L)->
  (match E with
   |none=> ∀w p' v x I,p'.core2=p.core2->Q p'->Sat σ w (p'.at b::L)->R (hQ (.tuple #[v,hY x,hY I,hV false])) w
   |some (t,st,en)=> ∀w p' v g,p'.core2=p.core2->Q p'->InlAt t v g->Sat σ w (p'.at b::(g++L))->R (hQ (.tuple #[v,hY st,hY en,hV true])) w)->
  cY P (do let d <-Deferred.ofValue H #[kT (kE b),hX (bs s),hY i];invoke d.target d.args) R w
def uU (P:Program)(t:TypeId):Bool:=match P.underlying t with|some (.func _ _ _)=>true|_=>false
theorem nK {P:Program}{t:TypeId}(h:uU P t=true): ∃g rs y,P.underlying t=some (.func g rs y):=by
 unfold uU at h
 split at h
 ·rename_i a b c hd;exact⟨_,_,_,hd⟩
 ·cases h
theorem El:uU P aX=true:=by kernel_rfl
theorem Gs {x H:Operand}(k:FuncId)(f E:Array Value)(w:World):
 (do eqGuard .neq aX x H (.func (.func k) f E) .nilFunc;binOp .neq aX (.func (.func k) f E) .nilFunc).run P w= .ok (hV true) w:=by
 obtain⟨_,_,_,h⟩:=nK El
 exact mO h k f E w
theorem Gr {x g:Operand}(w:World):
 (do eqGuard .neq aX x g .nilFunc .nilFunc;binOp .neq aX .nilFunc .nilFunc).run P w= .ok (hV false) w:=by
 obtain⟨_,_,_,h⟩:=nK El
 exact ya h w
def Inl.isOpen:Inl->Bool
 | .openP _ _=>true
 |_=>false
theorem Inl.ty_open {t:Inl}(h:t.isOpen=false):t.ty≠aQ:=by
 cases t<;>simp only[Inl.isOpen,reduceCtorEq] at h<;>(simp only[Inl.ty];decide)
noncomputable def rowInt:Row P nC bg 1 8:=
 ⟨(P.info? bg).getD default,((P.info? bg).bind (·.zero)).getD default,by kernel_rfl,by kernel_rfl,by kernel_rfl,by kernel_rfl,by kernel_rfl,by kernel_rfl,by decide⟩
theorem fillN (n:Nat):Instr.fill (λi=>some (i*1,1)) ((Array.range (1*1)).map (rowInt.z.cells[· %rowInt.z.cells.size]!)) [(0,hY n)]=some #[hY n]:=by kernel_rfl
theorem zl {X:XI}{b i e st en:Nat}{p:PS}{ts:List Inl}{opens:List Nat}{E:Option Addr}{g y:Nat}{lo:Int}{c4:Bool}{f:FuncId}{b7 b9:Array Value}{t:Inl}{L0:List ai}{Q:PS->Prop}(h:IIn σ b p ts opens E g y L w)(d4: ∀c∈L0,c∈L)(g3:pN b p p.s i (.func (.func f) b7 b9) L0 (some (t,st,en)) Q)(g4:p.em=e)(e0:st<=p.s.length)(hs:p.s.length<1000000000)(h6:ts.length<1000000000)(h3:opens.length<1000000000)(g1: ∀w p' E g y,p'.core=p.core->p'.em=(en:Int)->(∃c9,Q c9/\p'.bt=c9.bt)->IIn σ b p' (kx p.s e st ts++ [t]) (if t.isOpen then opens++ [(kx p.s e st ts).length] else opens) E g y L w->X (kE b) (bs p.s) E g y lo c4 en w):
 av.k1 R X (kE b) (bs p.s) E g y lo c4 i (.func (.func f) b7 b9) w:=by
 refine⟨_,_,Gs f b7 b9 w,ag rfl ?_⟩
 obtain⟨vs,RM,EM,H,I,O,a7,b4,h⟩:=h
 have e8: ∀c∈L0,c∈RM++(EM++(H++L)):=λc hc=>lB0 _ (lB0 _ (lB0 _ (d4 c hc)))
 refine g3 σ _ (RM++(EM++(H++L))) w e8 h λw U v h0 V e9 ht h=>⟨_,_,_,_,rfl,ag rfl ?_⟩
 have f5:=PS.core_of2 V
 have g0:U.lq=p.lq:=by have:=congrArg PS.lq V;exact this
 have g7:U.ln=p.ln:=by have:=congrArg PS.ln V;exact this
 have g5:U.lc=p.lc:=by have:=congrArg PS.lc V;exact this
 have d1:U.s=p.s:=by have:=congrArg PS.s V;exact this
 have g6:U.em=e:=by have:=congrArg PS.em V;rw[<-g4];exact this
 have d3:IIn σ b U ts opens E g y (h0++L) w:=⟨vs,RM,EM,H,by rw[g0,g7,g5];exact I,O,a7,b4,h.re⟩
 refine zu d3 g6 (by rw[d1];exact e0) (by omega) λw p2 e7 f1 h4 c1=>⟨rfl,?_⟩
 rw[d1] at c1
 obtain⟨pb,cs,a6,W,rfl,rfl⟩:=ht.ptr
 have c5:p2.core=p.core:=e7.trans f5
 have h1:p2.s=p.s:=by have:=congrArg PS.s c5;exact this
 have d2:(kx p.s e st ts).length<=ts.length+1:=by unfold kx;split<;>simp
 have fin: ∀w E g y b6,b6=(if t.isOpen then opens++ [(kx p.s e st ts).length] else opens)->IIn σ b p2 (kx p.s e st ts) b6 E g y (((pb,cel cs a6)::W)++L) w->
  av.k4 R X (kE b) (bs p.s) E g y lo c4 (gO t.ty pb) en w:=by
  intro w E g y b6 g2 h
  obtain⟨vs,RM,EM,H,I,O,a7,b4,h⟩:=h
  have d5:=O.length
  have f0:=I.1
  refine aa ?_
  refine⟨_,_,_,h.ldA,?_⟩
  have h:Sat σ w (RM++(p2.at b::(EM++(H++(((pb,cel cs a6)::W)++L))))):=h.re
  refine Sat.app1 rowInl I h (v:=gO t.ty pb) rfl (by simp[gO,Value.cells,Value.oneCell']) (Ai _ _) (by omega) (by omega) (by decide) λc2 c3 b8 b3 e6 h=>?_
  have h:Sat σ b8 (p2.at b::(b3++(EM++(H++(((pb,cel cs a6)::W)++L))))):=h.re
  refine aa ?_
  refine h.stA 0 λw h=>?_
  let d0:PS:= {p2 with lq:=c2,ln:=p2.ln+1,lc:=c3}
  have h:Sat σ w (d0.at b::(b3++(EM++(H++(((pb,cel cs a6)::W)++L))))):=h
  refine vN h λw h=>⟨rfl,?_⟩
  refine g1 w {d0 with em:=en} E g y (by rw[<-c5];rfl) rfl ⟨U,e9,f1⟩ ⟨_,b3,EM++((pb,cel cs a6)::W),H,e6,?_,by rw[<-g2];exact a7,by simp;omega,h.re⟩
  exact O.append (InlsAt.one ht)
 cases b5:t.isOpen with
 |false=>
  refine⟨_,_,w,pT (Inl.ty_open b5) w,ae rfl ?_⟩
  exact fin w E g y opens (by rw[b5];rfl) c1
 |true=>
  have f6:t.ty=aQ:=by cases t<;>simp only[Inl.isOpen,reduceCtorEq] at b5;rfl
  have f2:(Instr.typeAssert (gO t.ty pb) aC aQ true).run P w= .ok (.tuple #[kT (kE pb),hV true]) w:=by
   rw[f6];exact oD w
  refine⟨_,_,w,f2,ag rfl ?_⟩
  obtain⟨vs,RM,EM,H,I,O,a7,b4,h⟩:=c1
  have d5:=O.length
  have f0:=I.1
  have f3:=a7.1
  rw[lS0] at f3
  refine aa ?_
  refine⟨_,_,_,h.ldA,?_⟩
  have h:Sat σ w (H++(p2.at b::(RM++(EM++(((pb,cel cs a6)::W)++L))))):=h.re
  have c8:p2.ln=(kx p.s e st ts).length:=by omega
  rw[c8]
  generalize h5:(kx p.s e st ts).length=m at fin d2 c8⊢
  refine Sat.app1 rowInt a7 h (v:= hY (m:Nat)) rfl (by simp[Value.cells,Value.oneCell']) (fillN m) (by omega) (by omega) (by decide) λc2 c3 b8 b3 f4 h=>?_
  refine fin b8 c2 _ c3 _ (by rw[b5]<;>rfl) ⟨vs,RM,EM,b3,I,O,?_,b4,h.re⟩
  rw[if_pos rfl,lV0];exact f4
theorem Gx {X:XI}{b i:Nat}{s:List UInt8}{H:Option Addr}{g y:Nat}{lo:Int}{E:Bool}(hi:i<s.length)(hs:s.length<4611686018427387904)(hc:s[i]≠93\/g=0)(I:X (kE b) (bs s) H g y lo E ((i+1:Nat):Int) w):av.k5 R X (kE b) (bs s) H g y lo E i w:=by
 refine⟨by omega,by simp;omega,?_⟩
 refine ae ?_ ?_
 ·rw[de hi 93 93 rfl]
  rcases hc with hc|hc
  ·simp[hc]
  ·simp[hc]
 ·rw[aN (by omega)];exact I
theorem zk {X:XI}{b i:Nat}{s:List UInt8}{E:Option Addr}{H g:Nat}{lo:Int}{y:Bool}(I:av.k5 R X (kE b) (bs s) E H g lo y i w):
 av.k1 R X (kE b) (bs s) E H g lo y i .nilFunc w:=
 ⟨_,_,Gr w,ae rfl I⟩

def zF (ts ts':List Inl):Prop:=
 ∀(σ:Out) (R:Ending->World->Prop) (U q:Option Addr) (n c:Nat) vs RM EM L w,Sl 1 aC q n c vs RM->InlsAt ts vs EM->n<1073741823->Sat σ w (RM++(EM++L))->
  (∀w I g O y E H,Sl 1 aC I g O y E->g<=n->InlsAt ts' y H->Sat σ w (E++(H++L))->R (hQ (hT I g O)) w)->
  callE P fi #[kT U,hT q 0 c,hT q n c] R w
theorem Au {b pb:Nat}{p:PS}{o:Opt}{q:Option Addr}{n c:Nat}(y:p.pz=kE pb)(I:p.at b∈L)(E:o.at pb∈L)(g:o.auto=false)(h:Sat σ w L)(H:R (hQ (hT q n c)) w):
 callE P dS #[kT (kE b),hT q n c] R w:=by
 refine eU.sound ?_
 refine aa ⟨kE pb,by rw[<-y];exact Sat.ld h I rfl,aa ?_⟩
 simp only[lK0,lN0]
 exact⟨o.auto,Sat.ld h E rfl,ag (by rw[g];rfl) H⟩
def ET (o:Opt)(ts ts':List Inl):Prop:=
 ∀(σ:Out) (R:Ending->World->Prop) (b pb:Nat) (p:PS) (q:Option Addr) (n c:Nat) (vs:List Value) (RM EM L:List ai) (w:World),p.pz=kE pb->p.at b∈L->o.at pb∈L->Sl 1 aC q n c vs RM->n<1073741824->InlsAt ts vs EM->Sat σ w (RM++(EM++L))->
  (∀w I g O y E H,Sl 1 aC I g O y E->g<1073741824->InlsAt ts' y H->Sat σ w (E++(H++L))->R (hQ (hT I g O)) w)->
  callE P dS #[kT (kE b),hT q n c] R w
theorem Av {o:Opt}{ts:List Inl}(g:o.auto=false):ET o ts ts:=λσ R b pb p q n c vs RM EM L w y V O E H I h U=>
 Au y (lB0 _ (lB0 _ V)) (lB0 _ (lB0 _ O)) g h (U w q n c vs RM EM E H I h)
theorem DF {X:XI}{b pb e:Nat}{p:PS}{o:Opt}{ts ts' ts2:List Inl}{opens:List Nat}{c5:Option Addr}{b8 c4:Nat}{lo:Int}{f1:Bool}(h:IIn σ b p ts opens c5 b8 c4 L w)(e9:p.em=e)(hs:p.s.length<1000000000)(g4:ts.length<1000000000)(e1:p.pz=kE pb)(e6:o.at pb∈L)(e8:zF (kx p.s e p.s.length ts) ts')(d0: ∀t∈ts',∀s,t.plain? =some s->s≠ [])(hb:rk ts'<1073741824)(e5:ET o (kM ts') ts2)(e7: ∀w (p':PS) q n c vs RM EM,p'.core=p.core->Sl 1 aC q n c vs RM->n<1073741824->InlsAt ts2 vs EM->Sat σ w (p'.at b::(RM++(EM++L)))->R (hQ (hT q n c)) w):
 av.bl1 R X (kE b) (bs p.s) c5 b8 c4 lo f1 (p.s.length:Nat) w:=by
 have f3:(kx p.s e p.s.length ts).length<=ts.length+1:=by unfold kx;split<;>simp
 refine ae (by simp) ?_
 rw[aJ]
 refine zu h e9 (lZ0 _) (by omega) λw y b4 _ _ h=>⟨rfl,?_⟩
 obtain⟨vs,RM,EM,g,a6,c8,g3,f2,h⟩:=h
 have f4:=c8.length
 have g1:=a6.1
 have g0:=a6.2.1
 have f0:y.pz=p.pz:=by have:=congrArg PS.pz b4;exact this
 refine h.tk λw h=>?_
 refine aa (aa ?_)
 refine⟨_,_,_,h.ldA,?_⟩
 refine⟨_,_,_,λw=>qD rowInl.ht rowInl.hi _ _ _ 0 (by omega) w,?_⟩
 refine⟨_,_,_,h.ldA,?_⟩
 have h:Sat σ w (RM++(EM++(y.at b::(g++L)))):=h.re
 refine e8 σ _ _ y.lq y.ln y.lc vs RM EM _ w a6 c8 (by omega) h λw a7 b7 b3 f6 O V d4 g2 e4 h=>⟨_,_,_,rfl,aa ?_⟩
 have h:Sat σ w (y.at b::(O++(V++(g++L)))):=h.re
 refine h.stA 0 λw h=>?_
 let p2:PS:= {y with lq:=a7,ln:=b7,lc:=b3}
 have h:Sat σ w (p2.at b::(O++(V++(g++L)))):=h
 refine aa ?_
 refine⟨_,_,_,h.ldA,?_⟩
 have h:Sat σ w (O++(V++(p2.at b::(g++L)))):=h.re
 refine uL (n:=b7) d4 e4 d0 hb (by omega) h λw b6 d1 E H e3 f5 d3 h=>⟨_,_,_,rfl,aa ?_⟩
 have h:Sat σ w (p2.at b::(E++(H++(g++L)))):=h.re
 refine h.stA 0 λw h=>?_
 let I:PS:= {y with lq:=a7,ln:=b6,lc:=b3}
 have h:Sat σ w (I.at b::(E++(H++(g++L)))):=h
 refine aa ?_
 refine⟨_,_,_,h.ldA,?_⟩
 have h:Sat σ w (E++(H++(I.at b::(g++L)))):=h.re
 refine e5 σ _ b pb I a7 b6 b3 d1 E H _ w (by rw[<-e1,<-f0]) (.head _) (.tail _ (lB0 _ e6)) e3 (by omega) d3 h λw c9 b5 c2 d2 W U d5 e2 e0 h=>⟨_,_,_,rfl,aa ?_⟩
 have h:Sat σ w (I.at b::(W++(U++(g++L)))):=h.re
 refine h.stA 0 λw h=>?_
 refine aa ?_
 refine⟨_,_,_,h.ldA,?_⟩
 let b9:PS:= {y with lq:=c9,ln:=b5,lc:=c2}
 have h:Sat σ w (b9.at b::(W++(U++(g++L)))):=h
 exact e7 w b9 c9 b5 c2 d2 W U (by rw[<-b4];rfl) d5 e2 e0 (h.less g)
theorem FA {X:XI}{b pb e:Nat}{p:PS}{o:Opt}{ts ts':List Inl}{opens:List Nat}{E:Option Addr}{y g:Nat}{lo:Int}{U:Bool}(h:IIn σ b p ts opens E y g L w)(V:p.em=e)(hs:p.s.length<1000000000)(a6:ts.length<1000000000)(O:p.pz=kE pb)(a7:o.at pb∈L)(I:o.auto=false)(W:zF (kx p.s e p.s.length ts) ts')(H: ∀t∈ts',∀s,t.plain? =some s->s≠ [])(hb:rk ts'<1073741824)(b3: ∀w (p':PS) q n c vs RM EM,p'.core=p.core->Sl 1 aC q n c vs RM->n<1073741824->InlsAt (kM ts') vs EM->Sat σ w (p'.at b::(RM++(EM++L)))->R (hQ (hT q n c)) w):
 av.bl1 R X (kE b) (bs p.s) E y g lo U (p.s.length:Nat) w:=
 DF h V hs a6 O a7 W H hb (Av I) b3
theorem B0 {b:Nat}{p:PS}{raw:List UInt8}(h:Sat σ w (p.at b::L))(y:raw.length<4611686018427387904)(g: ∀w,IIn σ b {p with s:=gj cM raw,em:=0,lq:=none,ln:=0,lc:=0} [] [] none 0 0 L w->av.l1 R (kE b) (bs (gj cM raw)) none 0 0 0 false 0 w):
 callE P fy #[kT (kE b),hX (bs raw)] R w:=by
 refine av.sound ?_
 refine j8 y ⟨_,rfl,aa ?_⟩
 refine h.stA 0 λw h=>?_
 refine aa ?_
 refine h.stA 0 λw h=>?_
 refine aa ?_
 refine h.stA 0 λw h=>?_
 exact g w ⟨[],[],[],[],Sl.nil _ _,⟨rfl,rfl⟩,Sl.nil _ _,by simp,h⟩
def lJ (R:EP)(g:Int)(w:World):Prop:=
 R (hQ (hV (((((decide (33<=g)) && (decide (g<=47)))||((decide (58<=g)) && (decide (g<=64))))||((decide (91<=g)) && (decide (g<=96))))||((decide (123<=g)) && (decide (g<=126)))))) w
theorem lJ.sound {R x0 w}(h:lJ R x0 w):callE P lI #[.int .u8 x0] R w:=
 cD Tryz.func155 Tryz.call155 h
def io (R:EP)(g:Int)(w:World):Prop:=
 br (decide (g<128))
 (callE P lI #[.int .u8 (IntKind.u8.wrap g)] (λe E=> ∃y,e= hQ (hV y)/\
 R (hQ (hV y)) E) w)
 (False)
theorem io.sound {R x0 w}(h:io R x0 w):callE P eG #[.int .i32 x0] R w:=
 aH [(29,.no)] Tryz.func163 Tryz.call163 h
def im (R:EP)(g:Int)(w:World):Prop:=
 br (decide (g<128))
 (R (hQ (hV ((((g==32)||(g==9))||(g==12))||(g==10)))) w)
 (False)
theorem im.sound {R x0 w}(h:im R x0 w):callE P dF #[.int .i32 x0] R w:=
 aH [(29,.no)] Tryz.func162 Tryz.call162 h
namespace bQ
def k11 (R:EP)(E:BA)(y g:Int)(I O:Bool)(w:World):Prop:=
 0<=y/\y<=g/\g<=(E.size:Int)/\
 box w #[hX (E.extract (Int.toNat y) (Int.toNat g)),hV I,hV O,hY 0,hY (i64.wrap (g - y))] kB λH U=>
 R (hQ (.tuple #[.iface aT (kT (kE H)),hY y,hY g,hV true])) U
def k12 (R:EP)(I:BA)(O E:Int)(V a7:Int)(y H:Bool)(W a6:Bool)(U:Int)(g:Bool)(w:World):Prop:=
 br g
 (k11 R I O E y H w)
 (False)
def k10 (R:EP)(a6:BA)(a7 V:Int)(E U:Int)(H W:Bool)(I O:Bool)(g:Int)(y:Bool)(w:World):Prop:=
 br y
 (False)
 (br (g==42)
 (k12 R a6 a7 V E U H W I O g true w)
 (False))
def k9 (R:EP)(U:BA)(V g:Int)(I y H:Int)(E O:Bool)(w:World):Prop:=
 br (g==39)
 (False)
 (k10 R U V I y H E O false false g (g==34) w)
def k8 (R:EP)(O:BA)(U H:Int)(I g y:Int)(E:Bool)(w:World):Prop:=
 callE P dF #[.int .i32 g] (λe W=> ∃b3,e= hQ (hV b3)/\
 br (!b3)
 (callE P eG #[.int .i32 g] (λe a6=> ∃a7,e= hQ (hV a7)/\
 br (!a7)
 (k9 R O U H I g y E true a6)
 (callE P dF #[.int .i32 y] (λe b5=> ∃V,e= hQ (hV V)/\
 br V
 (k9 R O U H I g y E true b5)
 (callE P eG #[.int .i32 y] (λe b6=> ∃b4,e= hQ (hV b4)/\
 k9 R O U H I g y E b4 b6) b5)) a6)) W)
 (k9 R O U H I g y E false W)) w
def k7 (R:EP)(I:BA)(O E:Int)(H g y:Int)(w:World):Prop:=
 callE P dF #[.int .i32 y] (λe a7=> ∃b4,e= hQ (hV b4)/\
 br (!b4)
 (callE P eG #[.int .i32 y] (λe U=> ∃b3,e= hQ (hV b3)/\
 br (!b3)
 (k8 R I O E H g y true U)
 (callE P dF #[.int .i32 g] (λe V=> ∃W,e= hQ (hV W)/\
 br W
 (k8 R I O E H g y true V)
 (callE P eG #[.int .i32 g] (λe b5=> ∃a6,e= hQ (hV a6)/\
 k8 R I O E H g y a6 b5) V)) U)) a7)
 (k8 R I O E H g y false a7)) w
def k6 (R:EP)(y:BA)(O I:Int)(g H:Int)(w:World):Prop:=
 br (decide (g >= (y.size:Int)))
 (k7 R y O I g H 32 w)
 (0<=g/\g<=(y.size:Int)/\
 callE P dz #[hX (y.extract (Int.toNat g) y.size)] (λe V=> ∃E U,e= hQ (.tuple #[.int .i32 E,hY U])/\
 k7 R y O I g H E V) w)
def k5 (R:EP)(y:BA)(g H I:Int)(U:Bool)(w:World):Prop:=
 br U
 (False)
 (br (g==0)
 (k6 R y g H I 32 w)
 (0<=g/\g<=(y.size:Int)/\
 callE P cS #[hX (y.extract 0 (Int.toNat g))] (λe V=> ∃E O,e= hQ (.tuple #[.int .i32 E,hY O])/\
 k6 R y g H I E V) w))
def k4 (R:EP)(H:BA)(E y g:Int)(w:World):Prop:=
 k5 R H E y g ((y==126) && (decide ((i64.wrap (g - E))>2))) w
def k3 (R:EP)(O:OA)(E:BA)(H g y:Int)(I:Bool)(w:World):Prop:=
 br I
 (aA O λa1=>
 stV w ((a1.add 6).add 0) (hV true) λU=>
 k4 R E H g y U)
 (k4 R E H g y w)
def k2 (R:EP)(I:OA)(H:BA)(E g y:Int)(w:World):Prop:=
 k3 R I H E g y ((g==126) && ((i64.wrap (y - E)) !=2)) w
def bl1 (R:EP)(Xa:OA->BA->Int->Int->Int->WP)(I:OA)(y:BA)(H E g:Int)(w:World):Prop:=
 ((decide (g<(y.size:Int)))=true->0<=g/\g<(y.size:Int))/\
 br ((decide (g<(y.size:Int))) && ((bt y g)==E))
 (Xa I y H E (i64.wrap (g+1)) w)
 (k2 R I y H E g w)
def l1 (R:EP)(I:OA)(E:BA)(H g y:Int)(w:World):Prop:=
 ∀X:OA->BA->Int->Int->Int->WP,(∀I E H g y w,bl1 R X I E H g y w->X I E H g y w)->X I E H g y w
def k1 (R:EP)(O:OA)(H:BA)(I y E:Int)(g:Bool)(w:World):Prop:=
 br g
 (l1 R O H I y E w)
 (False)
end bQ
def bQ (R:EP)(E:OA)(y:BA)(g:Int)(w:World):Prop:=
 0<=g/\g<(y.size:Int)/\
 bQ.k1 R E y g (bt y g) (i64.wrap (g+1)) ((((bt y g)==42)||((bt y g)==126))||((bt y g)==95)) w
theorem bQ.sound {R x0 x1 x2 w}(h:bQ R x0 x1 x2 w):callE P dO #[kT x0,hX x1,hY x2] R w:=
 aH [(55,.mk [2,21,47,208,227,640] (bQ.k1 R)),(151,.lp [2,21,47,208,227] (bQ.bl1 R) λXa=> []),(119,.no),(31,.mk [2,21,47,208,227] (bQ.k2 R)),(111,.mk [2,21,47,208,227,1060] (bQ.k3 R)),(63,.mk [21,47,208,227] (bQ.k4 R)),(223,.mk [21,47,208,227,1280] (bQ.k5 R)),(351,.no),(511,.mk [21,47,208,227,249] (bQ.k6 R)),(1023,.mk [21,47,208,227,249,269] (bQ.k7 R)),(2047,.mk [21,47,208,227,249,269,280] (bQ.k8 R)),(4095,.mk [21,47,208,227,249,269,280,300] (bQ.k9 R)),(339967,.no),(110591,.mk [21,47,227,249,269,280,300,320,340,2528,2540] (bQ.k10 R)),(176127,.no),(1945599,.no),(503807,.mk [21,47,227,249,269,280,300,320,340,2528,2880] (bQ.k12 R)),(1028095,.no),(16383,.mk [21,47,227,320,340] (bQ.k11 R))] Tryz.func115 Tryz.call115 h
def cT (R:EP)(g:BA)(w:World):Prop:=
 br ((g.size:Int)==0)
 (False)
 (0<=(i64.wrap ((g.size:Int) - 1))/\(i64.wrap ((g.size:Int) - 1))<(g.size:Int)/\
 br (decide ((IntKind.i32.wrap (bt g (i64.wrap ((g.size:Int) - 1))))<128))
 (R (hQ (.tuple #[.int .i32 (IntKind.i32.wrap (bt g (i64.wrap ((g.size:Int) - 1)))),hY 1])) w)
 (False))
theorem cT.sound {R x0 w}(h:cT R x0 w):callE P cS #[hX x0] R w:=
 aH [(43,.no),(479,.no),(1407,.no),(511,.no)] Tryz.func160 Tryz.call160 h
namespace bq
def k1 (R:EP)(g:BA)(y:Bool)(w:World):Prop:=
 br y
 (0<=(0:Int)/\0<(g.size:Int)/\
 R (hQ (.tuple #[.int .i32 (IntKind.i32.wrap (bt g 0)),hY 1])) w)
 (False)
end bq
def bq (R:EP)(g:BA)(w:World):Prop:=
 ((!(g.toList==(hP #[]).toList))=true->0<=(0:Int)/\0<(g.size:Int))/\
 bq.k1 R g ((!(g.toList==(hP #[]).toList)) && (decide ((bt g 0)<128))) w
theorem bq.sound {R x0 w}(h:bq R x0 w):callE P dz #[hX x0] R w:=
 aH [(13,.mk [1,200] (bq.k1 R)),(29,.no)] Tryz.func161 Tryz.call161 h

def spB (c:UInt8):Bool:=c==32||c==9||c==12||c==10
def puB (c:UInt8):Bool:=(33<=c && c<=47)||(58<=c && c<=64)||(91<=c && c<=96)||(123<=c && c<=126)
theorem rx {c:UInt8}(h:c<128):((c.toNat:Nat):Int)<128:=by
 have a:=lI6.1 h
 have e:(128:UInt8).toNat=128:=rfl
 omega
theorem Gc (c d:UInt8):decide (((c.toNat:Nat):Int)<=(d.toNat:Int))=decide (c<=d):=by
 rw[decide_eq_decide,UInt8.le_iff_toNat_le];omega
theorem lB {c:UInt8}(hc:c<128)(g:R (hQ (hV (spB c))) w):callE P dF #[.int .i32 (c.toNat:Int)] R w:=by
 refine im.sound ?_
 unfold im
 rw[show decide (((c.toNat:Nat):Int)<128)=true from decide_eq_true (rx hc)]
 refine ag rfl ?_
 have e:(((((c.toNat:Nat):Int)==32)||(((c.toNat:Nat):Int)==9))||(((c.toNat:Nat):Int)==12)||(((c.toNat:Nat):Int)==10))=spB c:=by
  have a:=mA c 32;have b:=mA c 9;have d:=mA c 12;have f:=mA c 10
  unfold spB
  rw[<-a,<-b,<-d,<-f];rfl
 rw[e];exact g
theorem tR {c:UInt8}(E:R (hQ (hV (puB c))) w):callE P lI #[.int .u8 (c.toNat:Int)] R w:=by
 refine lJ.sound ?_
 have le: ∀d:UInt8,decide (((c.toNat:Nat):Int)<=(d.toNat:Int))=decide (c<=d):=λd=>Gc c d
 have y: ∀d:UInt8,decide ((d.toNat:Int)<=((c.toNat:Nat):Int))=decide (d<=c):=λd=>Gc d c
 have e:(((((decide ((33:Int)<=((c.toNat:Nat):Int))) && (decide (((c.toNat:Nat):Int)<=47)))||((decide ((58:Int)<=((c.toNat:Nat):Int))) && (decide (((c.toNat:Nat):Int)<=64))))||((decide ((91:Int)<=((c.toNat:Nat):Int))) && (decide (((c.toNat:Nat):Int)<=96))))||((decide ((123:Int)<=((c.toNat:Nat):Int))) && (decide (((c.toNat:Nat):Int)<=126))))=puB c:=by
  have a:=y 33;have b:=le 47;have d:=y 58;have f:=le 64;have H:=y 91;have h:=le 96;have i:=y 123;have j:=le 126
  unfold puB
  rw[<-a,<-b,<-d,<-f,<-H,<-h,<-i,<-j];rfl
 unfold lJ
 rw[e];exact E
theorem lY {c:UInt8}(hc:c<128)(g:R (hQ (hV (puB c))) w):callE P eG #[.int .i32 (c.toNat:Int)] R w:=by
 refine io.sound ?_
 unfold io
 rw[show decide (((c.toNat:Nat):Int)<128)=true from decide_eq_true (rx hc)]
 refine ag rfl ?_
 have e:IntKind.u8.wrap (c.toNat:Int)=(c.toNat:Int):=u8_in _ (by have:=c.toNat_lt;omega)
 rw[e]
 exact tR ⟨_,rfl,g⟩
theorem zo (c:UInt8):IntKind.i32.wrap (c.toNat:Int)=(c.toNat:Int):=i32_in _ (by have:=c.toNat_lt;omega)
theorem va {c:UInt8}{l:List UInt8}(hc:c<128)(g:R (hQ (.tuple #[.int .i32 (c.toNat:Int),hY 1])) w):callE P dz #[hX (bs (c::l))] R w:=by
 refine bq.sound ?_
 have e:bt (bs (c::l)) 0=(c.toNat:Int):=pE (l:=c::l) (i:=0) (by simp)
 refine⟨λ_=>⟨by decide,by simp⟩,?_⟩
 refine ag ?_ ⟨by decide,by simp,?_⟩
 ·rw[e,show decide (((c.toNat:Nat):Int)<128)=true from decide_eq_true (rx hc),cZ,gk];rfl
 ·rw[e,zo];exact g
theorem vb {c:UInt8}{l:List UInt8}(E:l.length<4611686018427387904)(hc:c<128)(y:R (hQ (.tuple #[.int .i32 (c.toNat:Int),hY 1])) w):callE P cS #[hX (bs (l++ [c]))] R w:=by
 refine cT.sound ?_
 have g:i64.wrap ((((bs (l++ [c])).size:Nat):Int) - 1)=(l.length:Nat):=by
  rw[aJ];simp only[lA0,lE0]
  simp (disch:=omega) only[i64_in];omega
 have e:bt (bs (l++ [c])) (l.length:Nat)=(c.toNat:Int):=by
  rw[pE (by simp)];simp
 refine ae (by simp;omega) ?_
 rw[g,e,zo]
 refine⟨by omega,by simp;omega,?_⟩
 rw[show decide (((c.toNat:Nat):Int)<128)=true from decide_eq_true (rx hc)]
 exact ag rfl y
def zA (s:List UInt8)(i:Nat):UInt8:=if i=0 then 32 else s.getD (i - 1) 32
def zE (s:List UInt8)(j:Nat):UInt8:=s.getD j 32
def uP (a b:UInt8):Bool:= !spB b && (!puB b||spB a||puB a)
def qH (a b:UInt8):Bool:= !spB a && (!puB a||spB b||puB b)
theorem Cp {s:List UInt8}{i j:Nat}{a b:UInt8}(hs:s.length<4611686018427387904)(W:i<j)(a6:j<=s.length)(I:a<128)(hb:b<128)(h:Sat σ w L)(V: ∀w nb,Sat σ w ((nb,cel [hX (bs (sub s i j)),hV (uP a b),hV (qH a b),hY 0,hY ((j - i:Nat):Int)] kB)::L)->R (hQ (.tuple #[gO aT nb,hY i,hY j,hV true])) w):
 bQ.k7 R (bs s) (i:Int) 42 (j:Int) (a.toNat:Int) (b.toNat:Int) w:=by
 have O: ∀w,Sat σ w L->bQ.k9 R (bs s) (i:Int) 42 (j:Int) (a.toNat:Int) (b.toNat:Int) (uP a b) (qH a b) w:=by
  intro w h
  refine ae rfl (ae rfl (ag rfl (ag rfl ⟨by omega,by omega,by simp;omega,?_⟩)))
  have e:i64.wrap ((j:Int) - (i:Int))=((j - i:Nat):Int):=by simp (disch:=omega) only[i64_in];omega
  rw[e,lC0,lC0,cm]
  exact Sat.bx h λnb w h=>V w nb h
 have U: ∀w,Sat σ w L->bQ.k8 R (bs s) (i:Int) 42 (j:Int) (a.toNat:Int) (b.toNat:Int) (uP a b) w:=by
  intro w h
  refine lB I ⟨_,rfl,?_⟩
  have g:=O w h
  unfold qH at g
  cases y:spB a with
  |true=>rw[y] at g;exact ae rfl g
  |false=>
   rw[y] at g
   refine ag rfl (lY I ⟨_,rfl,?_⟩)
   cases E:puB a with
   |false=>rw[E] at g;exact ag rfl g
   |true=>
    rw[E] at g
    refine ae rfl (lB hb ⟨_,rfl,?_⟩)
    cases H:spB b with
    |true=>rw[H] at g;exact ag rfl g
    |false=>rw[H] at g;exact ae rfl (lY hb ⟨_,rfl,by simpa using g⟩)
 refine lB hb ⟨_,rfl,?_⟩
 have g:=U w h
 unfold uP at g
 cases y:spB b with
 |true=>rw[y] at g;exact ae rfl g
 |false=>
  rw[y] at g
  refine ag rfl (lY hb ⟨_,rfl,?_⟩)
  cases E:puB b with
  |false=>rw[E] at g;exact ag rfl g
  |true=>
   rw[E] at g
   refine ae rfl (lB I ⟨_,rfl,?_⟩)
   cases H:spB a with
   |true=>rw[H] at g;exact ag rfl g
   |false=>rw[H] at g;exact ae rfl (lY I ⟨_,rfl,by simpa using g⟩)
theorem vZ {q:Option Addr}{s:List UInt8}{i j:Nat}(hs:s.length<4611686018427387904)(E:i<j)(b6:j<=s.length)(U: ∀k,i<=k->k<j->s.getD k 0=42)(b7:j<s.length->s.getD j 0≠42)(y:zA s i<128)(hb:zE s j<128)(h:Sat σ w L)(b4: ∀w nb,Sat σ w ((nb,cel [hX (bs (sub s i j)),hV (uP (zA s i) (zE s j)),hV (qH (zA s i) (zE s j)),hY 0,hY ((j - i:Nat):Int)] kB)::L)->R (hQ (.tuple #[gO aT nb,hY i,hY j,hV true])) w):
 callE P dO #[kT q,hX (bs s),hY i] R w:=by
 refine bQ.sound ?_
 have H: ∀k (b5:k<s.length),s.getD k 0=s[k]:=by
  intro k b5;rw[lP0,lI0 b5];rfl
 have hc:bt (bs s) (i:Int)=42:=by
  rw[pE (show i<s.length by omega),<-H,U i (by omega) E];rfl
 refine⟨by omega,by simp;omega,?_⟩
 rw[hc]
 refine ag rfl ?_
 intro X b3
 rw[aN (by omega)]
 have O: ∀a:UInt8,a<128->a=zA s i-> ∀w,Sat σ w L->bQ.k6 R (bs s) (i:Int) 42 (j:Int) (a.toNat:Int) w:=by
  intro a y a7 w h
  by_cases V:j<s.length
  ·refine ae (by simp;omega) ⟨by omega,by simp;omega,?_⟩
   rw[lC0,aJ,nw,lI1 V]
   have e:zE s j=s[j]:=by unfold zE;rw[lP0,lI0 V];rfl
   refine va (by rw[<-e];exact hb) ⟨_,_,rfl,?_⟩
   rw[<-e]
   exact Cp hs E b6 y hb h (by rw[a7];exact b4)
  ·refine ag (by simp;omega) ?_
   have e:zE s j=32:=by unfold zE;rw[lP0,lT1 (by omega)];rfl
   have:=Cp (b:=32) hs E b6 y (by decide) h (by rw[a7,<-e];exact b4)
   exact this
 have fin:bQ.k2 R q (bs s) (i:Int) 42 (j:Int) w:=by
  by_cases I:i=0
  ·refine ag (by subst I;rfl) ?_
   exact O 32 (by decide) (by unfold zA;rw[if_pos I]) w h
  ·refine ae (by simp;omega) ⟨by omega,by simp;omega,?_⟩
   rw[lC0,cm,lK2]
   have a6:i - 1<s.length:=by omega
   have e:zA s i=s[i - 1]:=by unfold zA;rw[if_neg I,lP0,lI0 a6];rfl
   have c2:s.take i=s.take (i - 1)++ [s[i - 1]]:=by
    have:=lH1 a6
    rwa [show i - 1+1=i by omega] at this
   rw[c2]
   refine vb (by rw[lF1];omega) (by rw[<-e];exact y) ⟨_,_,rfl,?_⟩
   rw[<-e]
   exact O _ y rfl w h
 have b8: ∀k m,i<m->m+k=j->X q (bs s) (i:Int) 42 (m:Int) w:=by
  intro k
  induction k with
  |zero=>
   intro m b9 W
   obtain rfl:m=j:=W
   refine b3 _ _ _ _ _ _ ⟨λh=>⟨by omega,by simpa using h⟩,ae ?_ fin⟩
   by_cases g:m<s.length
   ·have:=b7 g
    rw[pE g,<-H m g]
    have e:(((s.getD m 0).toNat:Nat):Int)=42<->s.getD m 0=42:=by
     have c3:(42:UInt8).toNat=42:=rfl
     constructor
     ·intro h;exact UInt8.toNat_inj.1 (by omega)
     ·intro h;rw[h];rfl
    rw[lX3];right
    rw[beq_eq_false_iff_ne]
    exact λh=>this (e.1 h)
   ·simp;omega
  |succ k c1=>
   intro m b9 W
   have g:m<s.length:=by omega
   refine b3 _ _ _ _ _ _ ⟨λh=>⟨by omega,by simpa using h⟩,ag ?_ ?_⟩
   ·rw[pE g,<-H m g,U m (by omega) (by omega)]
    simp;omega
   ·rw[aN (by omega)]
    exact c1 (m+1) (by omega) (by omega)
 exact b8 (j - (i+1)) (i+1) (by omega) (by omega)
theorem om {b i j:Nat}{p:PS}{s:List UInt8}(hs:s.length<4611686018427387904)(E:i<j)(I:j<=s.length)(g: ∀k,i<=k->k<j->s.getD k 0=42)(y:j<s.length->s.getD j 0≠42)(H:zA s i<128)(hb:zE s j<128):
 pN b p s i (.func (.func dO) #[] #[]) [] (some (.emphP (sub s i j) (uP (zA s i) (zE s j)) (qH (zA s i) (zE s j)) 0 ((j - i:Nat):Int),i,j)) (λp'=>p'=p):=by
 intro σ R L w _ h O
 refine gN ?_
 exact vZ hs E I g y H hb h λw nb h=>O w p _ _ rfl rfl ⟨nb,_,rfl,rfl⟩ h.up1
def lm (R:EP)(H:OA)(E:BA)(w:World):Prop:=
 callE P li #[kT H,hX E] (λe I=> ∃g y,e= hQ (.tuple #[kT g,hV y])/\
 R (hQ (kT g)) I) w
theorem lm.sound {R x0 x1 w}(h:lm R x0 x1 w):callE P oA #[kT x0,hX x1] R w:=
 cD Tryz.func34 Tryz.call34 h
def md (R:EP)(c2 c1:Bool)(b7 c3:Bool)(b8 b6:Bool)(b9 b5:Bool)(b4 b3:Bool)(w:World):Prop:=
 box w #[hV c2,hV c1,hV b7,hV c3,hV b8,hV b6,hV b9,hV b5,hV b4,hV b3] fe λb1 g=>
 ∃U,g.cell? (hZ b1 8)=some (hV U)/\
 ∃a7,g.cell? (hZ b1 0)=some (hV a7)/\
 ∃W,g.cell? (hZ b1 1)=some (hV W)/\
 ∃I,g.cell? (hZ b1 2)=some (hV I)/\
 ∃a6,g.cell? (hZ b1 3)=some (hV a6)/\
 ∃O,g.cell? (hZ b1 4)=some (hV O)/\
 ∃V,g.cell? (hZ b1 9)=some (hV V)/\
 ∃y,g.cell? (hZ b1 5)=some (hV y)/\
 ∃H,g.cell? (hZ b1 6)=some (hV H)/\
 ∃E,g.cell? (hZ b1 7)=some (hV E)/\
 box g #[hV U,hV a7,hV W,hV I,hV a6,hV O,hV V,hV y,hV H,hV E] vD λc5 c4=>
 R (hQ (kT (kE c5))) c4
theorem md.sound {R x0_0 x0_1 x0_2 x0_3 x0_4 x0_5 x0_6 x0_7 x0_8 x0_9 w}(h:md R x0_0 x0_1 x0_2 x0_3 x0_4 x0_5 x0_6 x0_7 x0_8 x0_9 w):callE P l8 #[.agg #[hV x0_0,hV x0_1,hV x0_2,hV x0_3,hV x0_4,hV x0_5,hV x0_6,hV x0_7,hV x0_8,hV x0_9]] R w:=
 cD Tryz.func33 Tryz.call33 h
namespace bp
def k3 (R:EP)(Xa:OA->BA->Nat->WP)(V:OA)(U:BA)(g:Nat)(O:BA)(I:Int)(w:World):Prop:=
 ∃y,w.cell? (hZ g 3)=some (hY y)/\
 stV w (hZ g 3) (hY (i64.wrap (y+1))) λE=>
 callE P gS #[kT (kE g),.agg #[hY 0,hY 0,hY 0,hX O,.int .u8 I]] (λe H=>e= hQ (.tuple #[])/\
 Xa V U g H) E
def k4 (R:EP)(H:Nat)(w:World):Prop:=
 tk w λg=>
 ∃E,g.cell? (hZ H 1)=some (kT E)/\
 ∃y,g.cell? (hZ H 6)=some (hV y)/\
 R (hQ (.tuple #[kT E,hV y])) g
def k2 (R:EP)(Xa:OA->BA->Nat->WP)(H:OA)(y:BA)(E:Nat)(g V U:Int)(I:Bool)(w:World):Prop:=
 br I
 (False)
 (br (decide (g >= 0))
 (tk w λO=>
 0<=g/\g<=(y.size:Int)/\
 0<=(i64.wrap (g+1))/\(i64.wrap (g+1))<=(y.size:Int)/\
 k3 R Xa H (y.extract (Int.toNat (i64.wrap (g+1))) y.size) E (y.extract 0 (Int.toNat g)) 10 O)
 (k3 R Xa H (hP #[]) E y U w))
def bl3 (R:EP)(U:Nat->OA->Nat->Nat->Int->Int->WP)(E:Nat)(H:OA)(O I:Nat)(g y:Int)(w:World):Prop:=
 br (decide (y<g))
 (False)
 (k4 R E w)
def l3 (R:EP)(O:Nat)(g:OA)(E y:Nat)(H I:Int)(w:World):Prop:=
 ∀X:Nat->OA->Nat->Nat->Int->Int->WP,(∀O g E y H I w,bl3 R X O g E y H I w->X O g E y H I w)->X O g E y H I w
def bl2 (R:EP)(c5:OA->Nat->OA->Nat->Nat->Int->Int->WP)(b6:OA)(y:Nat)(U:OA)(I b7:Nat)(b3 g:Int)(w:World):Prop:=
 br (decide (g<b3))
 (0<=g/\g<(I:Int)/\
 aA U λc4=>
 ∃H,w.cell? (c4.add (Int.toNat g*1))=some (kT H)/\
 aA H λb9=>
 ∃b4,w.cell? (b9.add 3)=some (hX b4)/\
 callE P fy #[kT (kE y),hX b4] (λe c2=> ∃V a7 a6,e= hQ (hT V a7 a6)/\
 aA H λc1=>
 stV c2 ((c1.add 2).add 0) (hT V a7 a6) λc3=>
 c5 b6 y U I b7 b3 (i64.wrap (g+1)) c3) w)
 (aA b6 λb8=>
 ∃b5,w.cell? (b8.add 2)=some (hV b5)/\
 br b5
 (∃W E O,w.cell? (hZ y 10)=some (hT W E O)/\
 l3 R y W E O (E:Int) 0 w)
 (k4 R y w))
def l2 (R:EP)(U:OA)(O:Nat)(E:OA)(g y:Nat)(I H:Int)(w:World):Prop:=
 ∀X:OA->Nat->OA->Nat->Nat->Int->Int->WP,(∀U O E g y I H w,bl2 R X U O E g y I H w->X U O E g y I H w)->X U O E g y I H w
def bl1 (R:EP)(Xa:OA->BA->Nat->WP)(W:OA)(H:BA)(E:Nat)(w:World):Prop:=
 br (!(H.toList==(hP #[]).toList))
 (callE P lC #[hX H,hX (hP #[10])] (λe a7=> ∃g,e= hQ (hY g)/\
 callE P lC #[hX H,hX (hP #[13])] (λe a6=> ∃y,e= hQ (hY y)/\
 k2 R Xa W H E g y 0 ((decide (y >= 0)) && ((decide (g<0))||(decide (y<g)))) a6) a7) w)
 (callE P bj #[kT (kE E),hY 0] (λe V=>e= hQ (.tuple #[])/\
 ∃U I O,V.cell? (hZ E 11)=some (hT U I O)/\
 l2 R W E U I O (I:Int) 0 V) w)
def l1 (R:EP)(g:OA)(y:BA)(E:Nat)(w:World):Prop:=
 ∀X:OA->BA->Nat->WP,(∀g y E w,bl1 R X g y E w->X g y E w)->X g y E w
def k1 (R:EP)(U:OA)(I:BA)(g:Nat)(w:World):Prop:=
 stV w (hZ g 5) (hY (-1)) λO=>
 box O #[] eR λE H=>
 callE P bR #[kT (kE g),.iface ij (kT (kE E))] (λe y=>e= hQ (.tuple #[])/\
 l1 R U I g y) H
end bp
def bp (R:EP)(y:OA)(g:BA)(w:World):Prop:=
 box w #[kT none,kT none,.map none,hY 0,hT none 0 0,hY 0,hV false,hX (hP #[]),hY 0,hT none 0 0,hT none 0 0,hT none 0 0,hY 0,hY 0,hY 0,hY 0,hY 0,hY 0,hY 0,hY 0,hY 0,hY 0,hY 0,hY 0,hY 0,hY 0,hY 0,hY 0,hY 0,hY 0,hY 0,hY 0,hY 0,hY 0,hY 0,hY 0,hY 0,hY 0,hY 0,hY 0,hY 0,hY 0,hY 0,hY 0,hY 0,hY 0,hY 0,hY 0,hY 0,hY 0,hY 0,hY 0,hY 0,hY 0,hY 0,hY 0,hY 0,hY 0,hY 0,hY 0,hY 0,hY 0,hY 0,hY 0,hY 0,hY 0,hY 0,hY 0,hY 0,hY 0,hY 0,hY 0,hY 0,hY 0,hY 0,hY 0,hY 0,hY 0,hY 0,hY 0,hY 0,hY 0,hY 0,hY 0,hY 0,hY 0,hY 0,hY 0,hY 0,hY 0,hY 0,hY 0,hV false] gC λb1 I=>
 stV I (hZ b1 0) (kT y) λH=>
 callE P iR #[hX g,hX (hP #[0])] (λe O=> ∃E,e= hQ (hV E)/\
 br E
 (False)
 (bp.k1 R y g b1 O)) H
theorem bp.sound {R x0 x1 w}(h:bp R x0 x1 w):callE P li #[kT x0,hX x1] R w:=
 aH [(87,.no),(31,.mk [2,21,126] (bp.k1 R)),(319,.lp [2,21,126] (bp.bl1 R) λXa=> [(829,.mk [2,21,126,167,187,208,680] (bp.k2 R Xa)),(1341,.no),(10045,.dr (rpN [0,3,6,9,12,15,18,21,24])),(253,.mk [2,21,126,141,208] (bp.k3 R Xa))]),(2815,.lp [2,126,1623,1647,1667] (bp.bl2 R) λy=> []),(22015,.lp [126,2023,2047,2067] (bp.bl3 R) λg=> [(9,.no)]),(2047,.mk [126] (bp.k4 R)),(3071,.dr (rpN [0,6,4,12,10,15]))] Tryz.func55 Tryz.call55 h

def BI (s:List UInt8)(nl:UInt8:=0):Ln:=⟨0,0,0,s,nl⟩
def lT (c:UInt8):Bool:= !(cM c||c==62||c==35||c==95||c==96||c==126||c==61||c==45||c==42)
def nG (c:UInt8):Bool:=lT c && c !=60 && !lZ c
theorem BH {nl:UInt8}{s:List UInt8}(hs:s.length<1000000000):(BI s nl).ok:=⟨by simp[BI],by simp[BI],by simp[BI];omega,by simp[BI]⟩
theorem te {c:UInt8}(hc:lT c=true):cM c=false:=by
 simp only[lT,lN5,lI2] at hc
 exact hc.1.1.1.1.1.1.1.1
def C2 (c:UInt8):Bool:=decide (48<=c.toNat) && decide (c.toNat<=57)

def PS.coreS (p:PS):PS:=({p with s:= []}:PS).core
def PS0 (pz:Option Addr):PS:=⟨pz,none,none,0,none,0,0,0,false,[],0,none,0,0,none,0,0,none,0,0,BT.z⟩

def optV (o:Opt):Value:= .agg #[hV o.strike,hV o.task,hV o.auto,hV o.http,hV o.table,hV o.dot,hV o.dash,hV o.quote,hV o.ids,hV o.emoji]
theorem Bq {o:Opt}(h:Sat σ w L)(g: ∀w pb,Sat σ w (o.at pb::L)->R (hQ (kT (kE pb))) w):callE P l8 #[optV o] R w:=by
 refine md.sound ?_
 refine Sat.bx h λb w h=>?_
 have ld: ∀(k:Nat) (v:Bool),([hV o.strike,hV o.task,hV o.auto,hV o.http,hV o.table,hV o.dot,hV o.dash,hV o.quote,hV o.ids,hV o.emoji])[k]? =some (hV v)->w.cell? (hZ b k)=some (hV v):=λk v hv=>Sat.ld h (.head _) hv
 refine⟨_,ld 8 _ rfl,_,ld 0 _ rfl,_,ld 1 _ rfl,_,ld 2 _ rfl,_,ld 3 _ rfl,_,ld 4 _ rfl,_,ld 9 _ rfl,_,ld 5 _ rfl,_,ld 6 _ rfl,_,ld 7 _ rfl,?_⟩
 refine Sat.bx h λpb w h=>g w pb ?_
 have h:Sat σ w (o.at pb::(b,cel [hV o.strike,hV o.task,hV o.auto,hV o.http,hV o.table,hV o.dot,hV o.dash,hV o.quote,hV o.ids,hV o.emoji] fe)::L):=h
 exact(h.less [(b,cel [hV o.strike,hV o.task,hV o.auto,hV o.http,hV o.table,hV o.dot,hV o.dash,hV o.quote,hV o.ids,hV o.emoji] fe)])

theorem PS.pz_of {p p0:PS}(h:p.coreS=p0.coreS):p.pz=p0.pz:=by have:=congrArg PS.pz h;exact this
theorem PS.coreS_of {p' p p0:PS}(g:p'.core=p.core)(y:p.coreS=p0.coreS):p'.coreS=p0.coreS:=by
 rw[<-y]
 have:=congrArg (λq:PS=>({q with s:= []}:PS)) g
 exact this
def iK (R:EP)(y:Int)(w:World):Prop:=
 callE P iv #[hX (hP #[95,42,126,34,39]),.int .u8 y] (λe E=> ∃g,e= hQ (hY g)/\
 R (hQ (hY g)) E) w
theorem iK.sound {R x0 w}(h:iK R x0 w):callE P fA #[.int .u8 x0] R w:=
 cD Tryz.func177 Tryz.call177 h
namespace cz
def k1 (R:EP)(Xa:Nat->Nat->Int->WP)(b8:Nat->Nat->OA->Int->WP)(b7 b6:Nat)(g:OA)(b9:Int)(w:World):Prop:=
 tk w λy=>
 aA g λa14=>
 aA g λb4=>
 ∃U W V,y.cell? a14=some (hT U W V)/\
 ∃a7 O a6,y.cell? b4=some (hT a7 O a6)/\
 ∃E I H,(∀w,(Instr.sliceAt cI (hT U W V) none (some (hY (i64.wrap ((O:Int) - 1)))) none).run P w= .ok (hT E I H) w)/\
 aA g λb3=>
 stV y (b3.add 0) (hT E I H) λb5=>
 b8 b7 b6 g b9 b5
def bl2 (R:EP)(Xa:Nat->Nat->Int->WP)(c2:Nat->Nat->OA->Int->WP)(I H:Nat)(E:OA)(O:Int)(w:World):Prop:=
 tk w λg=>
 aA E λa2=>
 ∃b7 V b8,g.cell? a2=some (hT b7 V b8)/\
 br (decide ((V:Int)>0))
 (aA E λa4=>
 aA E λa5=>
 ∃W a6 b9,g.cell? a4=some (hT W a6 b9)/\
 ∃c1 y b6,g.cell? a5=some (hT c1 y b6)/\
 0<=(i64.wrap ((y:Int) - 1))/\(i64.wrap ((y:Int) - 1))<(a6:Int)/\
 aA W λa8=>
 ∃b3,g.cell? (a8.add (Int.toNat (i64.wrap ((y:Int) - 1))*1))=some (kT b3)/\
 aA b3 λa10=>
 ∃a7,g.cell? (a10.add 3)=some (hY a7)/\
 ∃b4 U b5,g.cell? (hZ H 0)=some (hT b4 U b5)/\
 br (decide (a7 >= (U:Int)))
 (k1 R Xa c2 I H E O g)
 (Xa I H (i64.wrap (O+1)) g))
 (Xa I H (i64.wrap (O+1)) g)
def l2 (R:EP)(Xa:Nat->Nat->Int->WP)(y E:Nat)(g:OA)(H:Int)(w:World):Prop:=
 ∀X:Nat->Nat->OA->Int->WP,(∀y E g H w,bl2 R Xa X y E g H w->X y E g H w)->X y E g H w
def bl1 (R:EP)(Xa:Nat->Nat->Int->WP)(y E:Nat)(g:Int)(w:World):Prop:=
 br (decide (g<5))
 (0<=g/\g<(5:Int)/\
 l2 R Xa y E (some (((hZ y 0):Addr).add (Int.toNat g*1))) g w)
 (R (hQ (.tuple #[])) w)
def l1 (R:EP)(g y:Nat)(E:Int)(w:World):Prop:=
 ∀X:Nat->Nat->Int->WP,(∀g y E w,bl1 R X g y E w->X g y E w)->X g y E w
end cz
def cz (R:EP)(g y:Nat)(w:World):Prop:=
 cz.l1 R g y 0 w
theorem cz.sound {R x0 x1 w}(h:cz R x0 x1 w):callE P fz #[kT (kE x0),kT (kE x1)] R w:=
 aH [(5,.lp [6,26,87] (cz.bl1 R) λXa=> [(179,.lp [6,26,62,87] (cz.bl2 R Xa) λg=> [(4,.dr (rpN [0,3,7,9,12,15,18,21,27,30,25,34,36,39,42,46,48,51,55,58,60,63,66])),(3,.mk [6,26,62,87] (cz.k1 R Xa g)),(5,.dr (rpN [0,3,6,12,15,10,19,21,24,27,30,35]))])])] Tryz.func179 Tryz.call179 h

theorem Sl.trunc {e:TypeId}{q:Option Addr}{n c k:Nat}{vs:List Value}{M:List ai}(h:Sl 1 e q n c vs M)(E:k<=n):Sl 1 e q k c (vs.take k) M:=by
 obtain⟨H,y,⟨rfl,rfl,rfl,rfl⟩|⟨b,sp,rfl,rfl,g⟩⟩:=h
 ·have:k=0:=by omega
  subst this
  exact⟨by simp,by omega,.inl ⟨rfl,rfl,rfl,rfl⟩⟩
 ·refine⟨by rw[lF1];omega,by omega,.inr ⟨b,vs.drop k++sp,rfl,?_,?_⟩⟩
  ·rw[<-lD0,lX1]
  ·rw[<-lD0,lX1];exact g
structure STK where
 q:Option Addr
 n:Nat
 c:Nat
 ent:List (Nat × Nat)
def GG (e:Nat × Nat):Value:= kT (kE e.1)
def STK.ok (s:STK)(M:List ai):Prop:=Sl 1 aT s.q s.n s.c (s.ent.map GG) M
def StksAt:List STK->List ai->Prop
 | [],M=>M= []
 |s::S,M=> ∃g y,M=g++y/\s.ok g/\StksAt S y
theorem StksAt.split: ∀ {A:List STK} {s:STK} {B:List STK} {M:List ai},StksAt (A++s::B) M-> ∃g y I,M=g++(y++I)/\StksAt A g/\s.ok y/\StksAt B I
 | [],s,B,M,h=>by obtain⟨g,y,rfl,H,E⟩:=h;exact⟨[],g,y,rfl,rfl,H,E⟩
 |a::A,s,B,M,h=>by
  obtain⟨g,y,rfl,H,E⟩:=h
  obtain⟨O,U,V,rfl,a6,a7,W⟩:=E.split
  exact⟨g++O,U,V,by simp,⟨g,O,rfl,H,a6⟩,a7,W⟩
theorem StksAt.join: ∀ {A:List STK} {s:STK} {B:List STK} {E y g:List ai},StksAt A E->s.ok y->StksAt B g->StksAt (A++s::B) (E++(y++g))
 | [],s,B,E,y,g,h1,h2,h3=>by cases h1;exact⟨y,g,rfl,h2,h3⟩
 |a::A,s,B,E,y,g,h1,h2,h3=>by
  obtain⟨I,H,rfl,U,O⟩:=h1
  exact⟨I,H++(y++g),by simp,U,O.join h2 h3⟩
def FZ (s:STK):Value:= hT s.q s.n s.c
def kb (b:Nat)(S:List STK):ai:=(b,cel (S.map FZ) iV)
def lQ (m:Nat)(g:List (Nat × Nat)):List (Nat × Nat):=(g.reverse.dropWhile λe=>decide (m<=e.2)).reverse
theorem A2 (m:Nat):lQ m []= []:=rfl
theorem tD (m:Nat)(g:List (Nat × Nat))(e:Nat × Nat):lQ m (g++ [e])=if m<=e.2 then lQ m g else g++ [e]:=by
 unfold lQ
 rw[lE5]
 simp only[lQ4,lT5,lT0,lR2,lA3]
 split
 ·rename_i h;rw[if_pos (by simpa using h)]
 ·rename_i h;rw[if_neg (by simpa using h)];simp
def STK.trim (m:Nat)(s:STK):STK:= {s with n:=(lQ m s.ent).length,ent:=lQ m s.ent}
theorem qA (m:Nat)(g:List (Nat × Nat)):lQ m g=g.take (lQ m g).length:=by
 have:lQ m g<+:g:=by
  unfold lQ
  have:=lU4 (λe:Nat × Nat=>decide (m<=e.2)) (l:=g.reverse)
  have:=List.reverse_prefix.2 this
  simpa using this
 exact(List.prefix_iff_eq_take.1 this)
def CU (g:List (Nat × Nat))(L:List ai):Prop:= ∀e∈g,∃cs ty,(e.1,cel cs ty)∈L/\cs[3]? =some (hY (e.2:Nat))
noncomputable def rowEP:Row P cI aT 1 8:=
 ⟨(P.info? aT).getD default,((P.info? aT).bind (·.zero)).getD default,by kernel_rfl,by kernel_rfl,by kernel_rfl,by kernel_rfl,by kernel_rfl,by kernel_rfl,by decide⟩
theorem lS {b j:Nat}{A B:List STK}{s:STK}(h:Sat σ w (kb b (A++s::B)::L))(g:j=A.length):w.cell? (hZ b j)=some (hT s.q s.n s.c):=by
 refine Sat.ld h (.head _) ?_
 rw[lV0,lH0 (by simp;omega)]
 simp[g,FZ]
theorem vJ {b j:Nat}{A B:List STK}{s s':STK}{K:World->Prop}(h:Sat σ w (kb b (A++s::B)::L))(E:j=A.length)(y: ∀g,Sat σ g (kb b (A++s'::B)::L)->K g):stV w (hZ b j) (hT s'.q s'.n s'.c) K:=by
 refine Sat.st h (k:=0) rfl (by simp;omega) trivial rfl λw h=>y w ?_
 have e:((A++s::B).map FZ).set j (hT s'.q s'.n s'.c)=(A++s'::B).map FZ:=by
  rw[lV0,lV0,lO1 _ _ (by simp;omega)]
  simp[E,FZ]
 show Sat σ w ((b,cel ((A++s'::B).map FZ) iV)::L)
 rw[<-e];exact h
theorem zJ {I b1 m b7:Nat}{b8:Option Addr}{S:List STK}{g:List ai}(f6:S.length=5)(y:StksAt S g)(f2: ∀s∈S,CU s.ent L)(e6: ∀s∈S,s.ent.length<1000000000)(h:Sat σ w (kb I S::(b1,cel [hT b8 m b7] ap)::(g++L)))(f1: ∀w d2,StksAt (S.map (STK.trim m)) d2->Sat σ w (kb I (S.map (STK.trim m))::(b1,cel [hT b8 m b7] ap)::(d2++L))->R (hQ (.tuple #[])) w):
 callE P fz #[kT (kE I),kT (kE b1)] R w:=by
 refine cz.sound ?_
 intro X d3
 have e5: ∀(B A:List STK) (g:List ai) w,A.length+B.length=5->S=A++B->StksAt (A.map (STK.trim m)++B) g->Sat σ w (kb I (A.map (STK.trim m)++B)::(b1,cel [hT b8 m b7] ap)::(g++L))->X I b1 (A.length:Nat) w:=by
  intro B
  induction B with
  |nil=>
   intro A g w c9 a7 y h
   refine d3 _ _ _ _ (ae (by simp at c9;simp;omega) ?_)
   have e:S.map (STK.trim m)=A.map (STK.trim m)++ []:=by rw[a7];simp
   rw[<-e] at y h
   exact f1 w g y h
  |cons s B d5=>
   intro A g w c9 a7 y h
   have hs:s∈S:=by rw[a7];simp
   have U:(A.map (STK.trim m)).length=A.length:=by simp
   simp at c9
   refine d3 _ _ _ _ (ag (by simp;omega) ⟨by omega,by omega,?_⟩)
   simp only[lK0,lC0,lC1,lN0]
   intro Y d4
   have inner: ∀(E:List (Nat × Nat)) (s':STK) (g:List ai) w,s'.ent=E->CU E L->E.length<1000000000->lQ m E=lQ m s.ent->s'.q=s.q->s'.c=s.c->StksAt (A.map (STK.trim m)++s'::B) g->
    Sat σ w (kb I (A.map (STK.trim m)++s'::B)::(b1,cel [hT b8 m b7] ap)::(g++L))->Y I b1 (some (hZ I A.length)) (A.length:Nat) w:=by
    intro E
    induction hn:E.length generalizing E with
    |zero=>
     intro s' g w H c4 d0 ht a6 hc y h
     have e4:E= []:=lB1 hn
     subst e4
     obtain⟨b6,W,b5,rfl,c3,O,c2⟩:=y.split
     have c5:s'.n=0:=by have:=O.1;rw[H] at this;simp at this;omega
     refine d4 _ _ _ _ _ ?_
     refine h.tk λw h=>?_
     refine aa ⟨_,_,_,lS h U.symm,?_⟩
     rw[c5]
     refine ae rfl ?_
     have c1:i64.wrap ((A.length:Int)+1)=((A.length+1:Nat):Int):=aN (by omega)
     rw[c1]
     have b4:s'=STK.trim m s:=by
      unfold STK.trim
      rw[<-ht]
      cases s';simp only at H c5 a6 hc⊢
      subst H c5 a6 hc
      try rfl
     have:=d5 (A++ [s]) (b6++(W++b5)) w (by simp;omega) (by rw[a7];simp) (by rw[lV0,lD0];have:=c3.join O c2;rw[b4] at this;exact this) (by
      rw[lV0,lD0];rw[b4] at h;exact h)
     rw[lA0] at this
     exact this
    |succ k e3=>
     intro s' g w H c4 d0 ht a6 hc y h
     obtain⟨V,e,rfl⟩: ∃V e,E=V++ [e]:=by
      rcases lA2 E with rfl|⟨V,e,rfl⟩
      ·simp at hn
      ·exact⟨V,e,by simp⟩
     simp at hn
     obtain⟨b6,W,b5,rfl,c3,O,c2⟩:=y.split
     have b9:s'.n=k+1:=by have:=O.1;rw[H] at this;simp at this;omega
     obtain⟨cs,ty,f3,e9⟩:=c4 e (by simp)
     refine d4 _ _ _ _ _ ?_
     refine h.tk λw h=>?_
     refine aa ⟨_,_,_,lS h U.symm,?_⟩
     rw[b9]
     refine ag (by simp<;>omega) (aa (aa ?_))
     refine⟨_,_,_,lS h U.symm,_,_,_,lS h U.symm,?_⟩
     have c1:i64.wrap (((s'.n:Nat):Int) - 1)=(k:Int):=by rw[b9];simp (disch:=omega) only[i64_in];omega
     rw[c1]
     refine⟨by omega,by omega,?_⟩
     have e8:(s'.ent.map GG)[k]? =some (kT (kE e.1)):=by
      rw[H,lV0,lH0 (by simp;omega)];simp[hn,GG]
     have f0:Sat σ w (W++(kb I (A.map (STK.trim m)++s'::B)::(b1,cel [hT b8 m b7] ap)::(b6++(b5++L)))):=h.re
     refine Sl.loadAt O f0 e8 λg2 g1 e0=>?_
     simp only[lK0,lC0,lC1,lN0]
     refine⟨_,e0,aa ?_⟩
     simp only[lK0,lN0]
     refine⟨_,Sat.ld h (.tail _ (.tail _ (lB0 _ f3))) e9,?_⟩
     refine⟨_,_,_,Sat.ld h (.tail _ (.head _)) rfl,?_⟩
     rw[tD] at ht
     by_cases d1:m<=e.2
     ·rw[if_pos d1] at ht
      refine ag (by simp;omega) ?_
      refine h.tk λw h=>?_
      refine aa (aa ?_)
      refine⟨_,_,_,lS h U.symm,_,_,_,lS h U.symm,?_⟩
      rw[c1]
      have g0:=O.2.1
      refine⟨_,_,_,λw=>qD rowEP.ht rowEP.hi _ _ _ k (by omega) w,aa ?_⟩
      let c8:STK:=⟨s'.q,k,s'.c,V⟩
      have e7:c8.ok W:=by
       have:=O.trunc (k:=k) (by omega)
       rw[H,lV0,lQ3 (by rw[lS0];omega),lB2 (by rw[lS0];omega)] at this
       exact this
      simp only[lK0,lN0,lL1]
      refine vJ (s':=c8) h U.symm λw h=>?_
      exact e3 V hn c8 (b6++(W++b5)) w rfl (λx f5=>c4 x (by simp[f5])) (by first|omega|(simp at d0;omega)|(have:=hn;omega)) ht a6 hc (c3.join e7 c2) h
     ·rw[if_neg d1] at ht
      refine ae (by simp;omega) ?_
      have f4:i64.wrap ((A.length:Int)+1)=((A.length+1:Nat):Int):=aN (by omega)
      rw[f4]
      have b4:s'=STK.trim m s:=by
       unfold STK.trim
       rw[<-ht]
       cases s';simp only at H b9 a6 hc⊢
       subst H b9 a6 hc;simp[hn]
      have:=d5 (A++ [s]) (b6++(W++b5)) w (by simp;omega) (by rw[a7];simp) (by rw[lV0,lD0];have:=c3.join O c2;rw[b4] at this;exact this) (by
       rw[lV0,lD0];rw[b4] at h;exact h)
      rw[lA0] at this
      exact this
   exact inner s.ent s g w rfl (f2 s hs) (e6 s hs) rfl rfl rfl y h
 exact e5 S [] g w (by simpa using f6) rfl y h

def DRow (a7:Option Addr)(I:Nat)(y H:List Value)(E:Nat)(V:Option Addr)(b4 sc:Nat)(a6 b3:List ai):Prop:=
 H.length+E=b4/\y.length<=I/\
 ((∃g junk sp,a7=kE g/\V=kE g/\b3= [(g,cel (y++(junk++(H++sp))) aC)]/\y.length+junk.length=E/\E+H.length+sp.length=I)\/
  (∃U,Sl 1 aC a7 y.length I y U/\b3=U++a6/\ ∀j v,H[j]? =some v-> ∃g W O e,V=some (hZ g W)/\(g,cel O e)∈a6/\O[W+E+j]? =some v))
theorem DRow.read {b3 I:Option Addr}{a7 E W sc:Nat}{H U:List Value}{v:Value}{a6 O:List ai}(V:DRow b3 a7 H (v::U) E I W sc a6 O)(h:Sat σ w (O++L)): ∃g y,I=some (hZ g y)/\w.cell? ⟨g,y+E,none⟩=some v:=by
 obtain⟨_,_,⟨g,junk,sp,rfl,rfl,rfl,b6,b7⟩|⟨b8,b9,rfl,hr⟩⟩:=V
 ·refine⟨g,0,rfl,h.ld (.head _) ?_⟩
  rw[lH0 (by omega),lH0 (by omega),show 0+E - H.length - junk.length=0 by omega]
  rfl
 ·obtain⟨g,y,b5,e,rfl,b4,hc⟩:=hr 0 v rfl
  exact⟨g,y,rfl,h.ld (lE1 _ (lB0 _ b4)) hc⟩
theorem DRow.consume {b5 b4:Option Addr}{a7 I a6 sc:Nat}{E O:List Value}{v:Value}{U b3:List ai}(b8:DRow b5 a7 E (v::O) I b4 a6 sc U b3):DRow b5 a7 E O (I+1) b4 a6 sc U b3:=by
 obtain⟨V,H,⟨g,junk,sp,rfl,rfl,rfl,W,y⟩|⟨c2,c3,rfl,hr⟩⟩:=b8
 ·refine⟨by simp at V;omega,H,.inl ⟨g,junk++ [v],sp,rfl,rfl,by simp,by simp;omega,by simp at y;omega⟩⟩
 ·refine⟨by simp at V;omega,H,.inr ⟨c2,c3,rfl,λj b9 hv=>?_⟩⟩
  obtain⟨g,c1,b6,e,W,y,b7⟩:=hr (j+1) b9 (by simpa using hv)
  exact⟨g,c1,b6,e,W,y,by rw[<-b7];congr 1;omega⟩
theorem DRow.take {W I:Option Addr}{V E O sc k:Nat}{g y:List Value}{U a6:List ai}(b5:DRow W V g y E I O sc U a6)(H:k<=g.length):DRow W V (g.take k) y E I O sc U a6:=by
 obtain⟨a7,b8,⟨b6,junk,sp,rfl,rfl,rfl,b9,b3⟩|⟨b4,b7,rfl,hr⟩⟩:=b5
 ·refine⟨a7,by rw[lF1];omega,.inl ⟨b6,g.drop k++junk,sp,rfl,rfl,?_,by rw[lF1,lA0,lN1];omega,b3⟩⟩
  have e:g.take k++((g.drop k++junk)++(y++sp))=g++(junk++(y++sp)):=by
   rw[lD0,<-lD0 (g.take k),lX1]
  rw[e]
 ·refine⟨a7,by rw[lF1];omega,.inr ⟨b4,?_,rfl,hr⟩⟩
  have:=b7.trunc (k:=k) H
  rw[lF1,lG6 H]
  exact this
theorem DRow.app {ty:TypeId}{d2 d1:Option Addr}{c5 U c4 sc:Nat}{y b5:List Value}{H W:List ai}{t:TypeId}{b:Nat}(d4:DRow d2 c5 y b5 U d1 c4 sc H W)(h:Sat σ w (W++L))(e4:y.length<U)(e6:y.length<1000000000){C:World->Prop}(b9: ∀g X,Sat σ g (X::(W++L))->C g){K:Option Addr->Nat->Nat->World->Prop}(b6: ∀a7 b4 a6 E,DRow a7 b4 (y++ [gO t b]) b5 U d1 c4 sc H a6->Sat σ E (a6++L)->K a7 (y.length+1) b4 E):
 ∃d3 b8 c3 g,(Instr.buildSlice ap 1 #[(0,gO t b)]).run P w= .ok (hT d3 b8 c3) g/\C g/\
  ∃I b7 O c9,(Builtin.append_ #[ap,ap] ty #[hT d2 y.length c5,hT d3 b8 c3]).run P g= .ok (hT I b7 O) c9/\K I b7 O c9:=by
 obtain⟨c1,e3,⟨d5,junk,sp,rfl,rfl,rfl,e0,e1⟩|⟨e2,c8,rfl,hr⟩⟩:=d4
 ·refine CL rowInl h (v:=gO t b) (by simp;omega) (by omega) rfl rfl (Ai t _) (C:=C) (λg X V=>b9 g X V) λE h=>?_
  have d0:junk≠ []:=by intro h;subst h;simp at e0;omega
  rw[uA d0] at h
  refine b6 _ _ _ E ⟨c1,by simp;omega,.inl ⟨d5,junk.drop 1,sp,rfl,rfl,rfl,?_,e1⟩⟩ h
  have:=lY0.2 d0
  simp;omega
 ·have e5:=c8.1
  have h:Sat σ w (e2++(H++L)):=h.re
  refine Sat.app1S rowInl c8 h (v:=gO t b) rfl (by simp[gO,Value.cells,Value.oneCell']) (Ai _ _) (by omega) (by omega) (by decide) (C:=C) (λg X V=>b9 g X (V.re)) λI O E c2 b3 h=>?_
  refine b6 I O (c2++H) E ⟨c1,?_,.inr ⟨c2,?_,rfl,hr⟩⟩ (h.re)
  ·have:=b3.2.1;simp;omega
  ·rw[lA0];exact b3
theorem DRow.cells {E V:Option Addr}{a7 I W sc:Nat}{y O:List Value}{a6 H:List ai}(U:DRow E a7 y O I V W sc a6 H)(b4:0<y.length): ∃(g:Nat) (cs:List Value),E=kE g/\(g,cel cs aC)∈H/\ ∀(j:Nat) (v:Value),y[j]? =some v->cs[j]? =some v:=by
 obtain⟨_,_,⟨g,junk,sp,rfl,rfl,rfl,b6,b5⟩|⟨b7,b3,rfl,hr⟩⟩:=U
 ·exact⟨g,_,rfl,.head _,λj v hv=>by rw[lM0 (lL0.1 hv).1];exact hv⟩
 ·obtain⟨g,sp,rfl,rfl⟩:=b3.rowAt b4
  exact⟨g,_,rfl,lE1 _ (.head _),λj v hv=>by rw[lM0 (lL0.1 hv).1];exact hv⟩
theorem DRow.copy {b5 d0:Option Addr}{H b8 c8 sc k:Nat}{g b9:List Value}{c1 E:List ai}(U:DRow b5 H g b9 b8 d0 c8 sc c1 E)(h:Sat σ w (E++L))(d2:k<g.length)(d3:g.length<1000000000)(c9: ∀v∈g,v.oneCell'=true){C:World->Prop}(c4: ∀b6 X,Sat σ b6 (X++(E++L))->C b6){K:Option Addr->Nat->Nat->World->Prop}(c2: ∀q n c y M,Sl 1 aC q n c (g.drop k) M->Sat σ y (M++(E++L))->K q n c y):
 ∃W r2 a7,(∀w,(Instr.sliceAt ap (hT b5 g.length H) (some (hY k)) none none).run P w= .ok (hT W r2 a7) w)/\
  ∃q n c y,(Builtin.append_ #[ap,ap] ap #[hT none 0 0,hT W r2 a7]).run P w= .ok (hT q n c) y/\C y/\K q n c y:=by
 obtain⟨c3,cs,rfl,c5,hc⟩:=U.cells (by omega)
 have d1:=U.2.1
 refine⟨_,_,_,λw=>y0 rowInl.ht rowInl.hi _ g.length H k (by omega) w,?_⟩
 rw[if_neg (by omega),rowInl.hs]
 simp only[lI3,lK0,lN0,lC1]
 have b7:Src P 1 ap (hT (some (hZ c3 k)) (g.length - k) (H - k)) (g.length - k) (g.drop k) w:=by
  refine Src.ofSlice w rowInl.ht _ _ _ _ (by simp) (λj u a6=>?_) (λv hv=>c9 v (lW4 hv))
  rw[lK0]
  refine h.ld (lE1 _ c5) (hc _ _ ?_)
  rw[lK4] at a6
  exact a6
 obtain⟨b3,b4,y,V,hr,I,O,_⟩:=Sat.app rowInl (ty:=ap) (Sl.nil 1 aC) (M:= []) (L:=E++L) h b7 (.inl (by omega)) (by omega) (by omega)
 rw[lT0] at I
 exact⟨b3,_,b4,y,hr,c4 _ V O,c2 b3 _ b4 y V I O⟩

def qw (I H:Bool)(n:Int)(E y:Bool)(g:Int):Bool:=(I && H||E && y) && (Int.tmod (n+g) 3==0 && (Int.tmod n 3 !=0||Int.tmod g 3 !=0))
def CA (I H:Bool)(n:Int)(y:List Inl)(j:Nat):Bool:=match y[j]? with
 |some (.emphP _ E g _ O)=> !qw I H n E g O
 |_=>false
def zK (m:Nat)(l:List Nat):List Nat:=(l.reverse.dropWhile λe=>decide (m<=e)).reverse
def jN (E:Nat)(y g:Bool)(n:Int):Nat->List UInt8->List Inl->List (List Nat)->List UInt8 × List Inl × List (List Nat)
 |0,t,dst,st=>(t,dst,st)
 |f+1,t,dst,st=>if t= [] then (t,dst,st) else match (st.getD E []).reverse.find? (CA y g n dst) with
  |none=>(t,dst,st)
  |some j=>match dst[j]? with
   |some (.emphP s O I V U)=>
    let d:=if 2<=t.length/\2<=s.length then 2 else 1
    let s':=s.take (s.length - d)
    let H:=dst.take j++(if s'= [] then [] else [.emphP s' O I V U])
    let x:=if d=2 then Inl.strong (t.take d) (dst.drop (j+1)) else .emph (t.take d) (dst.drop (j+1))
    jN E y g n f (t.drop d) (H++ [x]) (st.map (zK H.length))
   |_=>(t,dst,st)
def sV (c:UInt8):Nat:=if c=95 then 0 else 1
def dR:List Inl->List (List Nat)->List Inl->List Inl
 |dst,_,[]=>dst
 |dst,st,t::ts=>match t with
  | .openP s _=>dR (dst++ [.plain s]) st ts
  | .emphP s co cc i n=>
   let g:=sV (s.headD 0)
   let r:=if cc then jN g co cc n s.length s dst st else (s,dst,st)
   if r.1= [] then dR r.2.1 r.2.2 ts
   else if co then dR (r.2.1++ [.emphP r.1 co cc r.2.1.length n]) (r.2.2.set g (r.2.2.getD g []++ [r.2.1.length])) ts
   else dR (r.2.1++ [.plain r.1]) r.2.2 ts
  |t=>dR (dst++ [t]) st ts
def wW (ts:List Inl):List Inl:=dR [] [[],[],[],[],[]] ts
theorem InlsAt.get: ∀ {ts:List Inl} {vs:List Value} {M:List ai} {j:Nat} {t:Inl},InlsAt ts vs M->ts[j]? =some t-> ∃v g,vs[j]? =some v/\InlAt t v g/\ ∀c∈g,c∈M
 | [],vs,M,j,t,h,hj=>by simp at hj
 |t'::ts,vs,M,0,t,h,hj=>by
  obtain⟨v,I,H,a6,rfl,rfl,y,E⟩:=h
  simp at hj;subst hj
  exact⟨v,H,rfl,y,λc hc=>lE1 _ hc⟩
 |t'::ts,vs,M,j+1,t,h,hj=>by
  obtain⟨v,I,H,a6,rfl,rfl,y,E⟩:=h
  obtain⟨O,g,V,W,U⟩:=E.get (by simpa using hj)
  exact⟨O,g,by simpa using V,W,λc hc=>lB0 _ (U c hc)⟩
def emC (b:Nat)(t:List UInt8)(y g:Bool)(i n:Int)(e:TypeId):ai:=(b,cel [hX (bs t),hV y,hV g,hY i,hY n] e)
def EntIn (y:List Inl)(g:List Value)(e:Nat × Nat):Prop:= ∃t H E n,y[e.2]? =some (.emphP t H E (e.2:Nat) n)/\g[e.2]? =some (gO aT e.1)/\0<=n/\n<=1000000000/\t≠ []/\t.length<1000000000
def StkIn (y:List Inl)(g:List Value)(S:List STK):Prop:= ∀s∈S,s.ent.length<1000000000/\s.ent.Pairwise (λa b=>a.2<b.2)/\ ∀e∈s.ent,EntIn y g e
def tT (S:List STK):List (List Nat):=S.map λs=>s.ent.map Prod.snd
theorem ry {t:TypeId}{a b:Nat}(h:gO t a=gO t b):a=b:=by
 simp only[gO,Value.iface.injEq,Value.pointer.injEq,lG1,Addr.mk.injEq,true_and,and_true] at h
 exact h
theorem EntIn.chunk {E:List Inl}{H:List Value}{O:List ai}{e:Nat × Nat}(b4:InlsAt E H O)(h:EntIn E H e): ∃t g y n ty,E[e.2]? =some (.emphP t g y (e.2:Nat) n)/\emC e.1 t g y (e.2:Nat) n ty∈O/\0<=n/\n<=1000000000/\t≠ []/\t.length<1000000000:=by
 obtain⟨t,g,y,n,I,V,b5,W,b3⟩:=h
 obtain⟨v,b6,U,a7,a6⟩:=b4.get I
 rw[V] at U
 obtain rfl:=Option.some.inj U
 obtain⟨b,ty,hb,rfl⟩:=a7
 have:=ry hb
 subst this
 exact⟨t,g,y,n,ty,I,a6 _ (.head _),b5,W,b3⟩
theorem yV {m:Nat}{y:List (Nat × Nat)}(h:y.Pairwise λa b=>a.2<b.2): ∀e∈lQ m y,e.2<m:=by
 induction hn:y.length generalizing y with
 |zero=>rw[lB1 hn];intro e g;simp[A2] at g
 |succ k E=>
  rcases lA2 y with rfl|⟨H,x,rfl⟩
  ·simp at hn
  ·rw[lL2] at*
   rw[lL6] at h
   rw[tD]
   split
   ·exact E h.1 (by simp at hn;omega)
   ·rename_i I
    intro e g
    rcases lO0.1 g with g|g
    ·have:=h.2.2 e g x (by simp);omega
    ·simp at g;subst g;omega
theorem A1 {m:Nat}{g:List (Nat × Nat)}{e:Nat × Nat}(h:e∈lQ m g):e∈g:=by
 rw[qA] at h
 exact lX4 h
theorem A4 (m:Nat)(g:List (Nat × Nat)):(lQ m g).length<=g.length:=by
 unfold lQ
 have:=(lO2 (λe:Nat × Nat=>decide (m<=e.2)) (l:=g.reverse)).length_le
 simpa using this
theorem C8 {m:Nat}{g:List (Nat × Nat)}(h:g.Pairwise λa b=>a.2<b.2):(lQ m g).Pairwise λa b=>a.2<b.2:=by
 rw[qA]
 exact h.sublist (List.take_sublist ..)
theorem A3 (m:Nat)(g:List (Nat × Nat)):(lQ m g).map Prod.snd=zK m (g.map Prod.snd):=by
 unfold lQ zK
 rw[<-List.map_reverse (l:=g),List.dropWhile_map,List.map_reverse]
 rfl
theorem B3 (m:Nat)(S:List STK):tT (S.map (STK.trim m))=(tT S).map (zK m):=by
 simp[tT,STK.trim,Function.comp_def,A3]
def EM (σ:Out)(b1 b8 pb:Nat)(t:List UInt8)(a7 a6:Bool)(b9 n:Int)(b5:TypeId)(y:List Inl)(S:List STK)(W:List Value)(V:Nat)(b4:Option Addr)(b6 sc:Nat)(b7:List ai)(L:List ai)(w:World):Prop:=
 ∃O I g E H U,InlsAt y g E/\StksAt S H/\S.length=5/\StkIn y g S/\DRow O I g W V b4 b6 sc b7 U/\y.length<1000000000/\
  Sat σ w (emC pb t a7 a6 b9 n b5::kb b8 S::(b1,cel [hT O g.length I] ap)::(H++(E++(U++L))))
theorem EM.tick {b1 a7 pb:Nat}{t:List UInt8}{V H:Bool}{U n:Int}{a6:TypeId}{g:List Inl}{S:List STK}{E:List Value}{y:Nat}{W:Option Addr}{O sc:Nat}{I:List ai}(h:EM σ b1 a7 pb t V H U n a6 g S E y W O sc I L w):
 EM σ b1 a7 pb t V H U n a6 g S E y W O sc I L (tick w):=by
 obtain⟨c8,c2,b4,b6,b7,c3,b8,b9,b5,c4,c9,c1,c5⟩:=h
 exact⟨c8,c2,b4,b6,b7,c3,b8,b9,b5,c4,c9,c1,c5.tick⟩
theorem E5 {pb sb:Nat}{n g:Int}(b7:0<=n/\n<=1000000000)(b6:0<=g/\g<=1000000000)(V:w.cell? (hZ pb 4)=some (hY n))(W:w.cell? (hZ sb 4)=some (hY g)){A B:Prop}(h:if Int.tmod (n+g) 3==0 && (Int.tmod n 3 !=0||Int.tmod g 3 !=0) then A else B):
 aA (some ((hZ pb 0):Addr)) λb3=>aA (some ((hZ sb 0):Addr)) λa7=> ∃(H:Int),w.cell? (b3.add 4)=some (hY H)/\ ∃(O:Int),w.cell? (a7.add 4)=some (hY O)/\
  (3:Int)≠0/\br ((Int.tmod (i64.wrap (H+O)) 3)==0)
   (aA (some ((hZ pb 0):Addr)) λb5=> ∃(U:Int),w.cell? (b5.add 4)=some (hY U)/\(3:Int)≠0/\br ((Int.tmod U 3) !=0) A
    (aA (some ((hZ sb 0):Addr)) λb4=> ∃(I:Int),w.cell? (b4.add 4)=some (hY I)/\(3:Int)≠0/\br ((Int.tmod I 3) !=0) A B)) B:=by
 refine aa (aa ⟨n,V,g,W,by decide,?_⟩)
 rw[i64_in _ (by omega)]
 cases y:(Int.tmod (n+g) 3==0) with
 |false=>rw[y] at h;exact ae rfl (by simpa using h)
 |true=>
  refine ag rfl (aa ⟨n,V,by decide,?_⟩)
  cases E:(Int.tmod n 3 !=0) with
  |true=>rw[y,E] at h;exact ag rfl (by simpa using h)
  |false=>
   refine ae rfl (aa ⟨g,W,by decide,?_⟩)
   cases a6:(Int.tmod g 3 !=0) with
   |true=>rw[y,E,a6] at h;exact ag rfl (by simpa using h)
   |false=>rw[y,E,a6] at h;exact ae rfl (by simpa using h)
theorem Gb {sb:Nat}{y g:Bool}(U:w.cell? (hZ sb 1)=some (hV y))(V:w.cell? (hZ sb 2)=some (hV g)){T B:Prop}(h:if y && g then T else B):
 aA (some ((hZ sb 0):Addr)) λI=> ∃(H:Bool),w.cell? (I.add 1)=some (hV H)/\br H (aA (some ((hZ sb 0):Addr)) λO=> ∃(E:Bool),w.cell? (O.add 2)=some (hV E)/\br E T B) B:=by
 refine aa ⟨y,U,?_⟩
 cases y with
 |false=>exact ae rfl (by simpa using h)
 |true=>
  refine ag rfl (aa ⟨g,V,?_⟩)
  cases g with
  |false=>exact ae rfl (by simpa using h)
  |true=>exact ag rfl (by simpa using h)

theorem A5 {w:World}{K A:World->Prop}(y:A (tick w))(h: ∀g,A g->K g):tk w K:=h _ y
abbrev cl1:Value:= .func (.func fA) #[] #[]
abbrev cl2 (g b1:Nat):Value:= .func (.func fz) #[] #[kT (kE g),kT (kE b1)]
abbrev XA:=Option Addr->Nat->Nat->Nat->Nat->Value->Value->Int->World->Prop
abbrev XB:=Option Addr->Nat->Nat->Nat->Nat->Value->Value->Int->Option Addr->Option Addr->World->Prop
abbrev XC:=Option Addr->Nat->Nat->Nat->Nat->Value->Value->Int->Option Addr->Option Addr->Int->World->Prop
def F2 (c:UInt8):Prop:=c=42\/c=95
theorem bt0 {t:List UInt8}{c:UInt8}(h:t.head? =some c):bt (bs t) 0=(c.toNat:Int):=by
 cases t with
 |nil=>simp at h
 |cons x t=>simp at h;subst h;rfl
theorem FE {t:List UInt8}{c:UInt8}(h:t.head? =some c):t≠ []:=by intro g;subst g;simp at h
theorem kS {t:List UInt8}{c:UInt8}(h:t.head? =some c):0<((bs t).size:Int):=by
 cases t with
 |nil=>simp at h
 |cons x t=>simp
def dOf (t s:List UInt8):Nat:=if 2<=t.length/\2<=s.length then 2 else 1
theorem Bj {Xa:XA}{a6:XB}{O:XC}{b1 g pb H d1:Nat}{t:List UInt8}{c:UInt8}{U V:Bool}{a7 n I:Int}{b9:TypeId}{W:List Inl}{S:List STK}{s:STK}{d3:List Value}{E:Option Addr}{y sc:Nat}{d4:List ai}(h:EM σ b1 g pb t U V a7 n b9 W S d3 d1 E y sc d4 L w)(b7:t.head? =some c)(hc:F2 c)(i0:0<=n/\n<=1000000000)(hs:S[H]? =some s)(m3: ∀m2 w,aw.bl3 R Xa a6 O E y sc b1 g cl1 (cl2 g b1) I (kE pb) (some (hZ g H)) m2 w->O E y sc b1 g cl1 (cl2 g b1) I (kE pb) (some (hZ g H)) m2 w)(m6:(∀e∈s.ent,CA U V n W e.2=false)-> ∀w,EM σ b1 g pb t U V a7 n b9 W S d3 d1 E y sc d4 L w->aw.k1 R Xa E y sc b1 g cl1 (cl2 g b1) I (kE pb) w)(m5: ∀b8 e b6 st d2 d0 c9,s.ent=b8++e::b6->CA U V n W e.2=true->(∀x∈b6,CA U V n W x.2=false)->W[e.2]? =some (.emphP st d2 d0 (e.2:Nat) c9)-> ∀w,EM σ b1 g pb t U V a7 n b9 W S d3 d1 E y sc d4 L w->
  aw.k6 R Xa a6 O E y sc b1 g cl1 (cl2 g b1) I (kE pb) (some (hZ g H)) (kE e.1) (dOf t st:Nat) w):
 O E y sc b1 g cl1 (cl2 g b1) I (kE pb) (some (hZ g H)) (i64.wrap ((s.n:Int) - 1)) w:=by
 have f1:s∈S:=lR1 hs
 have o3:s.n=s.ent.length/\s.ent.length<1000000000:=by
  obtain⟨f3,f4,e9,f6,q1,f5,m4,h9,q0,i1,p5,q3,b5⟩:=h
  obtain⟨A,B,rfl⟩:=lS3 f1
  obtain⟨g1,g0,f2,rfl,_,g2,_⟩:=h9.split
  have:=g2.1
  simp at this
  exact⟨by omega,(i1 s f1).1⟩
 have o6: ∀(b8 b6:List (Nat × Nat)) w,s.ent=b8++b6->(∀x∈b6,CA U V n W x.2=false)->EM σ b1 g pb t U V a7 n b9 W S d3 d1 E y sc d4 L w->
  O E y sc b1 g cl1 (cl2 g b1) I (kE pb) (some (hZ g H)) ((b8.length:Int) - 1) w:=by
  intro b8
  induction hk:b8.length generalizing b8 with
  |zero=>
   intro b6 w d5 f0 h
   have:b8= []:=lB1 hk
   subst this
   refine m3 _ _ (ae (by simp) ?_)
   exact m6 (by rw[d5];simpa using f0) w h
  |succ k p4=>
   intro b6 w d5 f0 h
   obtain⟨j0,e,rfl⟩: ∃g3 e,b8=g3++ [e]:=by
    rcases lA2 b8 with rfl|⟨g3,e,rfl⟩
    ·simp at hk
    ·exact⟨g3,e,by simp⟩
   simp at hk
   have i8:(((k+1:Nat):Int) - 1)=(k:Int):=by omega
   rw[i8]
   have q4:s.ent.length=k+1+b6.length:=by rw[d5];simp;omega
   have n2:e∈s.ent:=by rw[d5];simp
   have n0:CA U V n W e.2=false-> ∀w,EM σ b1 g pb t U V a7 n b9 W S d3 d1 E y sc d4 L w->O E y sc b1 g cl1 (cl2 g b1) I (kE pb) (some (hZ g H)) (i64.wrap ((k:Int) - 1)) w:=by
    intro n1 w h
    rw[i64_in _ (by omega)]
    have:=p4 j0 hk (e::b6) w (by rw[d5];simp) (λx i8=>(lW0.1 i8).elim (λh=>h▸n1) (f0 x)) h
    rw[<-hk] at this⊢
    exact this
   have e0:=h
   obtain⟨f3,f4,e9,f6,q1,f5,m4,h9,q0,i1,p5,q3,b5⟩:=h
   obtain⟨st,d2,d0,c9,ty,hd,l5,h8,g7,q5⟩:=((i1 s f1).2.2 e n2).chunk m4
   have e8:CA U V n W e.2= !qw U V n d2 d0 c9:=by unfold CA;rw[hd]
   refine m3 _ _ (ag (by simp) (aa ?_))
   have o0:w.cell? (hZ g H)=some (hT s.q s.n s.c):=by
    refine Sat.ld b5 (.tail _ (.head _)) ?_
    rw[lF2,hs];rfl
   refine⟨_,_,_,o0,by omega,by omega,?_⟩
   obtain⟨A,B,o2⟩:=lS3 f1
   have k0:=h9
   rw[o2] at k0
   obtain⟨g1,g0,f2,rfl,_,g2,_⟩:=k0.split
   have o4:(s.ent.map GG)[k]? =some (kT (kE e.1)):=by
    rw[d5];simp[GG,hk]
   have q2:Sat σ w (g0++(emC pb t U V a7 n b9::kb g S::(b1,cel [hT f3 e9.length f4] ap)::(g1++(f2++(f6++(f5++L)))))):=b5.re
   refine Sl.loadAt g2 q2 o4 λq8 r1 m8=>?_
   simp only[lK0,lC0,lC1,lN0]
   refine⟨_,m8,?_⟩
   refine A5 (A:=λw=>EM σ b1 g pb t U V a7 n b9 W S d3 d1 E y sc d4 L w/\Sat σ w (emC pb t U V a7 n b9::kb g S::(b1,cel [hT f3 e9.length f4] ap)::((g1++(g0++f2))++(f6++(f5++L))))) ⟨e0.tick,b5.tick⟩ λw i2=>?_
   obtain⟨e0,b5⟩:=i2
   have b4: ∀(k:Nat) (v:Value),([hX (bs t),hV U,hV V,hY a7,hY n])[k]? =some v->w.cell? (hZ pb k)=some v:=λk v hv=>Sat.ld b5 (.head _) hv
   have c1: ∀(k:Nat) (v:Value),([hX (bs st),hV d2,hV d0,hY (e.2:Nat),hY c9])[k]? =some v->w.cell? (hZ e.1 k)=some v:=λk v hv=>
    Sat.ld b5 (.tail _ (.tail _ (.tail _ (lB0 _ (lE1 _ l5))))) hv
   have k3:CA U V n W e.2=true->aw.k3 R Xa a6 O E y sc b1 g cl1 (cl2 g b1) I (kE pb) (some (hZ g H)) (k:Int) (kE e.1) w:=by
    intro m9
    have c2:=λw h=>m5 j0 e b6 st d2 d0 c9 (by rw[d5];simp) m9 f0 hd w h
    refine A5 (A:=λw=>EM σ b1 g pb t U V a7 n b9 W S d3 d1 E y sc d4 L w/\Sat σ w (emC pb t U V a7 n b9::kb g S::(b1,cel [hT f3 e9.length f4] ap)::((g1++(g0++f2))++(f6++(f5++L))))) ⟨e0.tick,b5.tick⟩ λw i2=>?_
    obtain⟨e0,b5⟩:=i2
    have b4: ∀(k:Nat) (v:Value),([hX (bs t),hV U,hV V,hY a7,hY n])[k]? =some v->w.cell? (hZ pb k)=some v:=λk v hv=>Sat.ld b5 (.head _) hv
    have c1: ∀(k:Nat) (v:Value),([hX (bs st),hV d2,hV d0,hY (e.2:Nat),hY c9])[k]? =some v->w.cell? (hZ e.1 k)=some v:=λk v hv=>
     Sat.ld b5 (.tail _ (.tail _ (.tail _ (lB0 _ (lE1 _ l5))))) hv
    refine aa ⟨_,b4 0 _ rfl,by omega,kS b7,?_⟩
    rw[bt0 b7]
    refine ae (by rcases hc with rfl|rfl<;>rfl) ?_
    refine aa ⟨_,b4 0 _ rfl,by omega,kS b7,?_⟩
    rw[bt0 b7]
    refine ae (by rcases hc with rfl|rfl<;>rfl) ?_
    refine aa ⟨_,b4 0 _ rfl,by omega,kS b7,?_⟩
    rw[bt0 b7]
    refine ae (by rcases hc with rfl|rfl<;>rfl) ?_
    refine aa ⟨_,b4 0 _ rfl,?_⟩
    rw[aJ]
    have c2:=c2 w e0
    unfold dOf at c2
    by_cases p3:2<=t.length
    ·refine ag (by simp;omega) (aa ⟨_,c1 0 _ rfl,?_⟩)
     rw[aJ]
     by_cases p1:2<=st.length
     ·rw[if_pos ⟨p3,p1⟩] at c2
      exact ag (by simp;omega) c2
     ·rw[if_neg (by omega)] at c2
      exact ae (by simp;omega) c2
    ·rw[if_neg (by omega)] at c2
     exact ae (by simp;omega) c2
   have body:aA (some ((hZ pb 0):Addr)) λn3=> ∃(m1:Bool),w.cell? (n3.add 1)=some (hV m1)/\br m1
    (aA (some ((hZ pb 0):Addr)) λo5=> ∃(j1:Bool),w.cell? (o5.add 2)=some (hV j1)/\br j1
     (aA (some ((hZ pb 0):Addr)) λe4=>aA (some ((hZ e.1 0):Addr)) λe2=> ∃(c5:Int),w.cell? (e4.add 4)=some (hY c5)/\ ∃(c4:Int),w.cell? (e2.add 4)=some (hY c4)/\
      (3:Int)≠0/\br ((Int.tmod (i64.wrap (c5+c4)) 3)==0)
       (aA (some ((hZ pb 0):Addr)) λe3=> ∃(c8:Int),w.cell? (e3.add 4)=some (hY c8)/\(3:Int)≠0/\br ((Int.tmod c8 3) !=0) (O E y sc b1 g cl1 (cl2 g b1) I (kE pb) (some (hZ g H)) (i64.wrap ((k:Int) - 1)) w)
        (aA (some ((hZ e.1 0):Addr)) λe7=> ∃(c3:Int),w.cell? (e7.add 4)=some (hY c3)/\(3:Int)≠0/\br ((Int.tmod c3 3) !=0) (O E y sc b1 g cl1 (cl2 g b1) I (kE pb) (some (hZ g H)) (i64.wrap ((k:Int) - 1)) w)
         (aw.k3 R Xa a6 O E y sc b1 g cl1 (cl2 g b1) I (kE pb) (some (hZ g H)) (k:Int) (kE e.1) w)))
       (aw.k3 R Xa a6 O E y sc b1 g cl1 (cl2 g b1) I (kE pb) (some (hZ g H)) (k:Int) (kE e.1) w))
     (aA (some ((hZ e.1 0):Addr)) λg6=> ∃(e6:Bool),w.cell? (g6.add 1)=some (hV e6)/\br e6 (aA (some ((hZ e.1 0):Addr)) λg4=> ∃(e1:Bool),w.cell? (g4.add 2)=some (hV e1)/\br e1
      (aA (some ((hZ pb 0):Addr)) λe4=>aA (some ((hZ e.1 0):Addr)) λe2=> ∃(c5:Int),w.cell? (e4.add 4)=some (hY c5)/\ ∃(c4:Int),w.cell? (e2.add 4)=some (hY c4)/\
       (3:Int)≠0/\br ((Int.tmod (i64.wrap (c5+c4)) 3)==0)
        (aA (some ((hZ pb 0):Addr)) λe3=> ∃(c8:Int),w.cell? (e3.add 4)=some (hY c8)/\(3:Int)≠0/\br ((Int.tmod c8 3) !=0) (O E y sc b1 g cl1 (cl2 g b1) I (kE pb) (some (hZ g H)) (i64.wrap ((k:Int) - 1)) w)
         (aA (some ((hZ e.1 0):Addr)) λe7=> ∃(c3:Int),w.cell? (e7.add 4)=some (hY c3)/\(3:Int)≠0/\br ((Int.tmod c3 3) !=0) (O E y sc b1 g cl1 (cl2 g b1) I (kE pb) (some (hZ g H)) (i64.wrap ((k:Int) - 1)) w)
          (aw.k3 R Xa a6 O E y sc b1 g cl1 (cl2 g b1) I (kE pb) (some (hZ g H)) (k:Int) (kE e.1) w)))
        (aw.k3 R Xa a6 O E y sc b1 g cl1 (cl2 g b1) I (kE pb) (some (hZ g H)) (k:Int) (kE e.1) w))
      (aw.k3 R Xa a6 O E y sc b1 g cl1 (cl2 g b1) I (kE pb) (some (hZ g H)) (k:Int) (kE e.1) w))
      (aw.k3 R Xa a6 O E y sc b1 g cl1 (cl2 g b1) I (kE pb) (some (hZ g H)) (k:Int) (kE e.1) w)))
    (aA (some ((hZ e.1 0):Addr)) λg6=> ∃(e6:Bool),w.cell? (g6.add 1)=some (hV e6)/\br e6 (aA (some ((hZ e.1 0):Addr)) λg4=> ∃(e1:Bool),w.cell? (g4.add 2)=some (hV e1)/\br e1
     (aA (some ((hZ pb 0):Addr)) λe4=>aA (some ((hZ e.1 0):Addr)) λe2=> ∃(c5:Int),w.cell? (e4.add 4)=some (hY c5)/\ ∃(c4:Int),w.cell? (e2.add 4)=some (hY c4)/\
      (3:Int)≠0/\br ((Int.tmod (i64.wrap (c5+c4)) 3)==0)
       (aA (some ((hZ pb 0):Addr)) λe3=> ∃(c8:Int),w.cell? (e3.add 4)=some (hY c8)/\(3:Int)≠0/\br ((Int.tmod c8 3) !=0) (O E y sc b1 g cl1 (cl2 g b1) I (kE pb) (some (hZ g H)) (i64.wrap ((k:Int) - 1)) w)
        (aA (some ((hZ e.1 0):Addr)) λe7=> ∃(c3:Int),w.cell? (e7.add 4)=some (hY c3)/\(3:Int)≠0/\br ((Int.tmod c3 3) !=0) (O E y sc b1 g cl1 (cl2 g b1) I (kE pb) (some (hZ g H)) (i64.wrap ((k:Int) - 1)) w)
         (aw.k3 R Xa a6 O E y sc b1 g cl1 (cl2 g b1) I (kE pb) (some (hZ g H)) (k:Int) (kE e.1) w)))
       (aw.k3 R Xa a6 O E y sc b1 g cl1 (cl2 g b1) I (kE pb) (some (hZ g H)) (k:Int) (kE e.1) w))
     (aw.k3 R Xa a6 O E y sc b1 g cl1 (cl2 g b1) I (kE pb) (some (hZ g H)) (k:Int) (kE e.1) w))
     (aw.k3 R Xa a6 O E y sc b1 g cl1 (cl2 g b1) I (kE pb) (some (hZ g H)) (k:Int) (kE e.1) w)):=by
    have i3:(U && V||d2 && d0)=true->if Int.tmod (n+c9) 3==0 && (Int.tmod n 3 !=0||Int.tmod c9 3 !=0) then (O E y sc b1 g cl1 (cl2 g b1) I (kE pb) (some (hZ g H)) (i64.wrap ((k:Int) - 1)) w)
     else (aw.k3 R Xa a6 O E y sc b1 g cl1 (cl2 g b1) I (kE pb) (some (hZ g H)) (k:Int) (kE e.1) w):=by
     intro e5
     split
     ·rename_i hb
      exact n0 (by rw[e8];unfold qw;rw[e5,hb];rfl) w e0
     ·rename_i hb
      exact k3 (by rw[e8];unfold qw;rw[e5];simp only[lU5] at hb;rw[hb];rfl)
    refine aa ⟨U,b4 1 _ rfl,?_⟩
    cases g5:U with
    |false=>exact ae rfl (Gb (c1 1 _ rfl) (c1 2 _ rfl) (by
     split
     ·rename_i hb;exact E5 i0 ⟨h8,g7⟩ (b4 4 _ rfl) (c1 4 _ rfl) (i3 (by rw[hb];simp))
     ·rename_i hb;simp only[lU5] at hb;exact k3 (by rw[e8];unfold qw;rw[g5,hb];rfl)))
    |true=>
     refine ag rfl (aa ⟨V,b4 2 _ rfl,?_⟩)
     cases e5:V with
     |false=>exact ae rfl (Gb (c1 1 _ rfl) (c1 2 _ rfl) (by
      split
      ·rename_i hb;exact E5 i0 ⟨h8,g7⟩ (b4 4 _ rfl) (c1 4 _ rfl) (i3 (by rw[hb];simp))
      ·rename_i hb;simp only[lU5] at hb;exact k3 (by rw[e8];unfold qw;rw[g5,e5,hb];rfl)))
     |true=>exact ag rfl (E5 i0 ⟨h8,g7⟩ (b4 4 _ rfl) (c1 4 _ rfl) (i3 (by rw[g5,e5];rfl)))
   refine aa ⟨_,b4 0 _ rfl,by omega,kS b7,?_⟩
   rw[bt0 b7]
   rcases hc with rfl|rfl
   ·exact ag rfl body
   ·refine ae rfl (aa ⟨_,b4 0 _ rfl,by omega,kS b7,?_⟩)
    rw[bt0 b7]
    exact ag rfl body
 rw[o3.1,i64_in _ (by omega)]
 exact o6 s.ent [] w (by simp) (by simp) h

def rp (st:List UInt8)(d:Nat):List UInt8:=st.take (st.length - d)
def xx (y:List Inl)(j:Nat)(s':List UInt8)(E g:Bool)(I H:Int):List Inl:=y.take j++(if s'= [] then [] else [.emphP s' E g I H])
def xOf (t:List UInt8)(d:Nat)(inner:List Inl):Inl:=if d=2 then Inl.strong (t.take d) inner else .emph (t.take d) inner
theorem nv (s:List UInt8):((bs s).toList==(hP #[]).toList)=decide (s= []):=by
 rw[cZ,gk,lZ4];simp
theorem InlAt.oneCell {t:Inl}{v:Value}{M:List ai}(h:InlAt t v M):v.oneCell'=true:=by
 obtain⟨b,_,_,_,rfl,_⟩:=h.ptr;rfl
theorem InlsAt.oneCell {ts:List Inl}{vs:List Value}{M:List ai}(h:InlsAt ts vs M): ∀v∈vs,v.oneCell'=true:=by
 intro v hv
 obtain⟨j,y⟩:=lH6.1 hv
 have U:=h.length
 have H:=(lL0.1 y).1
 obtain⟨I,O,g,E,_⟩:=h.get (lI0 (show j<ts.length by omega))
 rw[y] at g
 obtain rfl:=Option.some.inj g
 exact E.oneCell
theorem Fb {Xa:XA}{e5:XB}{o0:XC}{b1 g pb d3 f0:Nat}{t st:List UInt8}{c:UInt8}{W a7 H E:Bool}{V n e3 y:Int}{a6:TypeId}{b4:List Inl}{S:List STK}{s:STK}{j0:List Value}{d0:Option Addr}{c9 sc:Nat}{l5:List ai}{e:Nat × Nat}(h:EM σ b1 g pb t W a7 V n a6 b4 S j0 f0 d0 c9 sc l5 L w)(i2:t.head? =some c)(hc:F2 c)(hs:S[d3]? =some s)(r9:e∈s.ent)(hd:b4[e.2]? =some (.emphP st H E (e.2:Nat) y))(v3:e.2+1<b4.length)(t5:b4.length<=f0)(u0:t.length<1000000000)(n3: ∀w,EM σ b1 g pb (t.drop (dOf t st)) W a7 V n a6 (xx b4 e.2 (rp st (dOf t st)) H E (e.2:Nat) y++ [xOf t (dOf t st) (b4.drop (e.2+1))]) (S.map (STK.trim (xx b4 e.2 (rp st (dOf t st)) H E (e.2:Nat) y).length)) j0 f0 d0 c9 sc l5 L w->
  e5 d0 c9 sc b1 g cl1 (cl2 g b1) e3 (kE pb) (some (hZ g d3)) w):
 aw.k6 R Xa e5 o0 d0 c9 sc b1 g cl1 (cl2 g b1) e3 (kE pb) (some (hZ g d3)) (kE e.1) (dOf t st:Nat) w:=by
 obtain⟨b7,b8,b6,v5,d1,c4,f5,q4,e9,f2,f4,v2,h⟩:=h
 have s1:s∈S:=lR1 hs
 have m6:=(f2 s s1).2.2 e r9
 have u8:=f5.length
 have q1:=f5.oneCell
 have r5:b4=b4.take e.2++(.emphP st H E (e.2:Nat) y)::b4.drop (e.2+1):=by
  have o2:e.2<b4.length:=by omega
  have s5:b4[e.2]= .emphP st H E (e.2:Nat) y:=by rw[lI0 o2] at hd;exact Option.some.inj hd
  rw[<-s5,<-lI1 o2,lX1]
 have m9:=f5
 rw[r5] at m9
 obtain⟨h8,v,h6,O,v4,U,f3,rfl,h7,hv,m3⟩:=m9.mid
 have i8:h8.length=e.2:=by have:=h7.length;rw[lF1] at this;omega
 obtain⟨sb,se,rfl,rfl⟩:=hv
 have q8:sb=e.1:=by
  obtain⟨_,_,_,_,_,b5,_⟩:=m6
  rw[f3,lH0 (by omega),i8] at b5
  simp at b5
  exact ry b5
 subst q8
 obtain⟨p1,p5,o6,t7⟩:st≠ []/\0<=y/\y<=1000000000/\st.length<1000000000:=by
  obtain⟨t',h9,i0,d2,f6,b5,t2,s9,e9⟩:=m6
  rw[hd] at f6
  simp only[lG1,Inl.emphP.injEq] at f6
  obtain⟨rfl,rfl,rfl,_,rfl⟩:=f6
  exact⟨e9.1,t2,s9,e9.2⟩
 have t8:=lY0.2 (FE i2)
 have t6:=lY0.2 p1
 generalize r6:dOf t st=d at n3⊢
 have g6:(d=1\/d=2)/\d<=t.length/\d<=st.length:=by
  rw[<-r6];unfold dOf;split<;>omega
 obtain⟨g6,u2,t9⟩:=g6
 have o5:b6.drop (e.2+1)=h6:=by rw[f3,lV5,lE2 (by omega),i8];simp
 have o4:b6.take e.2=h8:=by rw[f3,lQ3 (by omega),lB2 (by omega)]
 have o3:b6.take (e.2+1)=h8++ [gO aT e.1]:=by
  rw[f3,List.take_append,lB2 (by omega),i8];simp
 have h:Sat σ w (emC pb t W a7 V n a6::kb g S::(b1,cel [hT b7 b6.length b8] ap)::(d1++((O++([emC e.1 st H E (e.2:Nat) y se]++U))++(c4++L)))):=h
 have h:Sat σ w (emC pb t W a7 V n a6::emC e.1 st H E (e.2:Nat) y se::(b1,cel [hT b7 b6.length b8] ap)::kb g S::(d1++(O++(U++(c4++L))))):=h.re
 refine aa ⟨_,Sat.ld h (.head _) rfl,by omega,kS i2,?_⟩
 refine h.tk λw h=>?_
 refine aa (aa ?_)
 refine⟨_,Sat.ld h (.head _) rfl,by omega,by rw[aJ];omega,?_⟩
 refine⟨_,_,_,Sat.ld h (.tail _ (.tail _ (.head _))) rfl,?_⟩
 refine⟨_,Sat.ld h (.tail _ (.head _)) rfl,?_⟩
 have n1:i64.wrap (((e.2:Nat):Int)+1)=((e.2+1:Nat):Int):=aN (by omega)
 rw[n1]
 have j1:=h
 have hr:Sat σ w (c4++(emC pb t W a7 V n a6::emC e.1 st H E (e.2:Nat) y se::(b1,cel [hT b7 b6.length b8] ap)::kb g S::(d1++(O++(U++L))))):=h.re
 refine f4.copy hr (k:=e.2+1) (by omega) (by omega) q1 (C:=λe4=>SameC _ e4 _ 1) (λe4 X s4=>j1.same s4 (.head _) (lB0 _ (lB0 _ (.head _))) 1) λq b9 c1 w M g7 h=>?_
 rw[o5] at g7
 have h:Sat σ w (emC pb t W a7 V n a6::emC e.1 st H E (e.2:Nat) y se::(b1,cel [hT b7 b6.length b8] ap)::kb g S::(d1++(O++(M++(U++(c4++L)))))):=h.re
 refine Sat.bx h λI w h=>?_
 rw[lC0,cm,lK2] at h
 have h:Sat σ w (emC pb t W a7 V n a6::emC e.1 st H E (e.2:Nat) y se::(b1,cel [hT b7 b6.length b8] ap)::kb g S::(d1++(O++((I,cel [hX (bs (t.take d)),hT q b9 c1] i9)::(M++(U++(c4++L))))))):=h.re
 refine h.tk λw h=>?_
 refine aa (aa ?_)
 refine⟨_,Sat.ld h (.tail _ (.head _)) rfl,_,Sat.ld h (.tail _ (.head _)) rfl,?_⟩
 have s8:i64.wrap (((bs st).size:Int) - (d:Int))=((st.length - d:Nat):Int):=by rw[aJ,i64_in _ (by omega)];omega
 rw[s8,aJ]
 refine⟨by omega,by omega,aa ?_⟩
 rw[lC0,cm,lK2]
 refine h.stA 1 λw h=>?_
 have h:Sat σ w (emC pb t W a7 V n a6::emC e.1 (rp st d) H E (e.2:Nat) y se::(b1,cel [hT b7 b6.length b8] ap)::kb g S::(d1++(O++((I,cel [hX (bs (t.take d)),hT q b9 c1] i9)::(M++(U++(c4++L))))))):=h
 refine aa ⟨_,Sat.ld h (.head _) rfl,by omega,by rw[aJ];omega,aa ?_⟩
 rw[aJ,lC0,nw]
 refine h.stA 0 λw h=>?_
 have h:Sat σ w (emC pb (t.drop d) W a7 V n a6::emC e.1 (rp st d) H E (e.2:Nat) y se::(b1,cel [hT b7 b6.length b8] ap)::kb g S::(d1++(O++((I,cel [hX (bs (t.take d)),hT q b9 c1] i9)::(M++(U++(c4++L))))))):=h
 refine aa ⟨_,Sat.ld h (.tail _ (.head _)) rfl,?_⟩
 rw[nv]
 have rest: ∀(m:Nat) w,m=(xx b4 e.2 (rp st d) H E (e.2:Nat) y).length->m<=e.2+1->
  (∃f1,InlsAt (xx b4 e.2 (rp st d) H E (e.2:Nat) y) (b6.take m) f1/\ ∃G,(∀a,cnt a (emC e.1 (rp st d) H E (e.2:Nat) y se::O)=cnt a (G++f1)))->
  Sat σ w (emC pb (t.drop d) W a7 V n a6::emC e.1 (rp st d) H E (e.2:Nat) y se::(b1,cel [hT b7 m b8] ap)::kb g S::(d1++(O++((I,cel [hX (bs (t.take d)),hT q b9 c1] i9)::(M++(U++(c4++L)))))))->
  aw.k7 R Xa e5 o0 d0 c9 sc b1 g cl1 (cl2 g b1) e3 (kE pb) (some (hZ g d3)) (d:Nat) ((bt (bs t) 0)==126) (kE I) w:=by
  intro m w e6 u1 q5 h
  obtain⟨f1,q3,G,t0⟩:=q5
  refine gN ?_
  have h:Sat σ w (kb g S::(b1,cel [hT b7 m b8] ap)::(d1++(emC e.1 (rp st d) H E (e.2:Nat) y se::(O++(U++(emC pb (t.drop d) W a7 V n a6::(I,cel [hX (bs (t.take d)),hT q b9 c1] i9)::(M++(c4++L)))))))):=h.re
  have r3: ∀s∈S,CU s.ent (emC e.1 (rp st d) H E (e.2:Nat) y se::(O++(U++(emC pb (t.drop d) W a7 V n a6::(I,cel [hX (bs (t.take d)),hT q b9 c1] i9)::(M++(c4++L)))))):=by
   intro s' i3 x g0
   obtain⟨t',h9,i0,d2,ty,f6,b5,_⟩:=((f2 s' i3).2.2 x g0).chunk f5
   rcases lO0.1 b5 with b5|b5
   ·exact⟨_,ty,.tail _ (lE1 _ b5),rfl⟩
   ·rcases lO0.1 b5 with b5|b5
    ·simp only[lQ0] at b5
     have s2:x.1=e.1:=by have:=congrArg (λc:ai=>c.1) b5;exact this
     have v0:(x.2:Int)=(e.2:Int):=by
      have:=congrArg (λc:ai=>c.2) b5
      simp only[emC,cel,Obj.cells.injEq] at this
      have:=congrArg Array.toList this.1
      simp only[lU0,Value.int.injEq,true_and] at this
      exact this.2.2.2.1
     have r4:x.2=e.2:=by omega
     exact⟨_,se,by rw[s2];exact .head _,by rw[r4];rfl⟩
    ·exact⟨_,ty,.tail _ (lB0 _ (lE1 _ b5)),rfl⟩
  refine zJ e9 q4 r3 (λs hs=>(f2 s hs).1) h λw e0 p3 h=>⟨rfl,?_⟩
  rw[bt0 i2]
  refine ae (by rcases hc with rfl|rfl<;>rfl) ?_
  have e7:(b6.take m).length=m:=by rw[lF1];omega
  have n0:=f4.take (k:=m) (by omega)
  have p4:StkIn (xx b4 e.2 (rp st d) H E (e.2:Nat) y++ [xOf t d (b4.drop (e.2+1))]) (b6.take m++ [gO (if d=2 then ft else iU) I]) (S.map (STK.trim m)):=by
   intro s' i3
   obtain⟨s0,r7,rfl⟩:=lS1.1 i3
   obtain⟨a1,a2,a3⟩:=f2 s0 r7
   refine⟨Nat.lt_of_le_of_lt (A4 m s0.ent) a1,C8 a2,λx g0=>?_⟩
   have q2:=yV a2 x g0
   obtain⟨t',h9,i0,d2,s7,t3,s6,s3,t4⟩:=a3 x (A1 g0)
   have m5:(b6.take m++ [gO (if d=2 then ft else iU) I])[x.2]? =some (gO aT x.1):=by
    rw[lM0 (by omega),lM3 q2];exact t3
   by_cases i1:x.2<e.2
   ·refine⟨t',h9,i0,d2,?_,m5,s6,s3,t4⟩
    unfold xx
    rw[lD0,lM0 (by rw[lF1];omega),lM3 i1]
    exact s7
   ·have i1:x.2=e.2:=by omega
    have m8:rp st d≠ []:=by
     intro j1
     unfold xx at e6
     rw[j1,if_pos rfl,lG0,lF1] at e6
     omega
    refine⟨rp st d,H,E,y,?_,m5,p5,o6,m8,by unfold rp;rw[lF1];omega⟩
    unfold xx
    rw[if_neg m8,lD0,lH0 (by rw[lF1];omega),i1,lF1,lG6 (by omega),lW1]
    rfl
  have fin: ∀w (ty:TypeId),ty=(if d=2 then ft else iU)-> ∀c5 c8 c3,DRow c5 c8 (b6.take m++ [gO ty I]) j0 f0 d0 c9 sc l5 c3->
   Sat σ w ((b1,cel [hT c5 (m+1) c8] ap)::kb g (S.map (STK.trim m))::(e0++(emC e.1 (rp st d) H E (e.2:Nat) y se::(O++(U++(emC pb (t.drop d) W a7 V n a6::(I,cel [hX (bs (t.take d)),hT q b9 c1] i9)::(M++(c3++L))))))))->
   e5 d0 c9 sc b1 g cl1 (cl2 g b1) e3 (kE pb) (some (hZ g d3)) w:=by
   intro w ty r8 c5 c8 c3 e8 h
   subst r8
   refine n3 w ⟨c5,c8,_,f1++((I,cel [hX (bs (t.take d)),hT q b9 c1] i9)::(M++U)),e0,c3,q3.append (InlsAt.one ?_),by rw[<-e6];exact p3,by rw[lS0];exact e9,by rw[<-e6];exact p4,e8,?_,?_⟩
   ·unfold xOf
    split
    ·exact⟨I,_,q,b9,c1,h6,M,U,rfl,rfl,g7,m3⟩
    ·exact⟨I,_,q,b9,c1,h6,M,U,rfl,rfl,g7,m3⟩
   ·rw[lA0,<-e6];simp;omega
   ·rw[lA0,e7]
    rw[<-e6]
    have h:Sat σ w ((emC e.1 (rp st d) H E (e.2:Nat) y se::O)++(emC pb (t.drop d) W a7 V n a6::kb g (S.map (STK.trim m))::(b1,cel [hT c5 (m+1) c8] ap)::(e0++(U++((I,cel [hX (bs (t.take d)),hT q b9 c1] i9)::(M++(c3++L))))))):=h.re
    refine h.less G λa=>?_
    have:=t0 a
    simp only[dE,eP] at this⊢
    simp only[lE0]
    omega
  have h:Sat σ w (c4++((b1,cel [hT b7 m b8] ap)::kb g (S.map (STK.trim m))::(e0++(emC e.1 (rp st d) H E (e.2:Nat) y se::(O++(U++(emC pb (t.drop d) W a7 V n a6::(I,cel [hX (bs (t.take d)),hT q b9 c1] i9)::(M++L)))))))):=h.re
  have m4:w.cell? (hZ b1 0)=some (hT b7 m b8):=Sat.ld h (lB0 _ (.head _)) rfl
  rcases g6 with rfl|rfl
  ·refine ae rfl ⟨b7,m,b8,m4,?_⟩
   have:=n0.app (ty:=ap) (t:=iU) (b:=I) h (by omega) (by omega) (C:=λ_=>True) (λ_ _ _=>trivial) (K:=λm2 d2 k0 d4=>stV d4 (hZ b1 0) (hT m2 d2 k0) λw=>e5 d0 c9 sc b1 g cl1 (cl2 g b1) e3 (kE pb) (some (hZ g d3)) w) (λc5 c8 c3 d4 e8 h=>by
    have h:Sat σ d4 ((b1,cel [hT b7 m b8] ap)::kb g (S.map (STK.trim m))::(e0++(emC e.1 (rp st 1) H E (e.2:Nat) y se::(O++(U++(emC pb (t.drop 1) W a7 V n a6::(I,cel [hX (bs (t.take 1)),hT q b9 c1] i9)::(M++(c3++L)))))))):=h.re
    rw[e7]
    refine Sat.st h (k:=0) rfl (lO3 _) trivial rfl λw h=>?_
    exact fin w iU rfl c5 c8 c3 e8 h)
   rw[e7] at this
   obtain⟨a,b,c,e4,m1,_,r2⟩:=this
   exact⟨a,b,c,e4,m1,r2⟩
  ·refine ag rfl ⟨b7,m,b8,m4,?_⟩
   have:=n0.app (ty:=ap) (t:=ft) (b:=I) h (by omega) (by omega) (C:=λ_=>True) (λ_ _ _=>trivial) (K:=λm2 d2 k0 d4=>stV d4 (hZ b1 0) (hT m2 d2 k0) λw=>e5 d0 c9 sc b1 g cl1 (cl2 g b1) e3 (kE pb) (some (hZ g d3)) w) (λc5 c8 c3 d4 e8 h=>by
    have h:Sat σ d4 ((b1,cel [hT b7 m b8] ap)::kb g (S.map (STK.trim m))::(e0++(emC e.1 (rp st 2) H E (e.2:Nat) y se::(O++(U++(emC pb (t.drop 2) W a7 V n a6::(I,cel [hX (bs (t.take 2)),hT q b9 c1] i9)::(M++(c3++L)))))))):=h.re
    rw[e7]
    refine Sat.st h (k:=0) rfl (lO3 _) trivial rfl λw h=>?_
    exact fin w ft rfl c5 c8 c3 e8 h)
   rw[e7] at this
   obtain⟨a,b,c,e4,m1,_,r2⟩:=this
   exact⟨a,b,c,e4,m1,r2⟩
 by_cases d5:rp st d= []
 ·refine ag (by simpa using d5) ?_
  refine h.tk λw h=>?_
  refine aa ⟨_,_,_,Sat.ld h (.tail _ (.tail _ (.head _))) rfl,_,Sat.ld h (.tail _ (.head _)) rfl,?_⟩
  have q0:=f4.2.1
  refine⟨_,_,_,λw=>qD rowInl.ht rowInl.hi _ _ _ e.2 (by omega) w,?_⟩
  refine Sat.st h (k:=2) rfl (lO3 _) trivial rfl λw h=>?_
  refine rest e.2 w ?_ (by omega) ⟨O,?_,[emC e.1 (rp st d) H E (e.2:Nat) y se],λa=>rfl⟩ h
  ·unfold xx;rw[if_pos d5,lG0,lF1];omega
  ·unfold xx;rw[if_pos d5,lG0,o4];exact h7
 ·refine ae (by simpa using d5) ?_
  refine h.tk λw h=>?_
  refine aa ⟨_,_,_,Sat.ld h (.tail _ (.tail _ (.head _))) rfl,_,Sat.ld h (.tail _ (.head _)) rfl,?_⟩
  have q0:=f4.2.1
  rw[n1]
  refine⟨_,_,_,λw=>qD rowInl.ht rowInl.hi _ _ _ (e.2+1) (by omega) w,?_⟩
  refine Sat.st h (k:=2) rfl (lO3 _) trivial rfl λw h=>?_
  refine rest (e.2+1) w ?_ (by omega) ⟨O++ [emC e.1 (rp st d) H E (e.2:Nat) y se],?_,[],λa=>?_⟩ h
  ·unfold xx;rw[if_neg d5,lA0,lF1];simp;omega
  ·unfold xx;rw[if_neg d5,o3];exact h7.append (InlsAt.one ⟨e.1,se,rfl,rfl⟩)
  ·simp only[dE,eP,mg,lT0];omega

theorem uW {S:List STK}{g:Nat}{s:STK}(hs:S[g]? =some s):(tT S).getD g []=s.ent.map Prod.snd:=by
 rw[lP0]
 simp[tT,hs]
theorem wP {p:Nat->Bool}{g:List (Nat × Nat)}(h: ∀e∈g,p e.2=false):(g.map Prod.snd).reverse.find? p=none:=by
 rw[List.find?_eq_none]
 intro x y
 rw[List.mem_reverse] at y
 obtain⟨e,E,rfl⟩:=lS1.1 y
 simp[h e E]
theorem Ci {p:Nat->Bool}{y g:List (Nat × Nat)}{e:Nat × Nat}(E:p e.2=true)(H: ∀x∈g,p x.2=false):((y++e::g).map Prod.snd).reverse.find? p=some e.2:=by
 rw[lV0,lE5,lU1,lQ4,lD0,List.find?_append,wP H]
 simp[E]
def AllC (c:UInt8)(t:List UInt8):Prop:= ∀x∈t,x=c
theorem AllC.head {c:UInt8}{t:List UInt8}(h:AllC c t)(ht:t≠ []):t.head? =some c:=by
 cases t with
 |nil=>exact absurd rfl ht
 |cons x t=>rw[h x (by simp)];rfl
theorem AllC.drop {c:UInt8}{t:List UInt8}(h:AllC c t)(d:Nat):AllC c (t.drop d):=λx g=>h x (lW4 g)
theorem DV {Xa:XA}{c4:XB}{b1 y pb E b5:Nat}{c:UInt8}{c5 c3:Bool}{e8 n b4:Int}{e9:TypeId}{e2:List Value}{U:Option Addr}{O sc:Nat}{e3:List ai}(h8:E<5)(hc:F2 c)(h2:0<=n/\n<=1000000000)(b6: ∀w,aw.bl2 R Xa c4 U O sc b1 y cl1 (cl2 y b1) b4 (kE pb) (some (hZ y E)) w->c4 U O sc b1 y cl1 (cl2 y b1) b4 (kE pb) (some (hZ y E)) w):
 ∀(f:Nat) (t:List UInt8) (g:List Inl) (S:List STK) (w:World),t.length<=f->AllC c t->t.length<1000000000->EM σ b1 y pb t c5 c3 e8 n e9 g S e2 b5 U O sc e3 L w->g.length<=b5->
  (∀s,S[E]? =some s-> ∀e∈s.ent,e.2+1<g.length)->
  (∀t' H V w,jN E c5 c3 n f t g (tT S)=(t',H,tT V)->AllC c t'->t'.length<=t.length->EM σ b1 y pb t' c5 c3 e8 n e9 H V e2 b5 U O sc e3 L w->H.length<=b5->H.length<=g.length->
   (t'=t/\H=g/\V=S\/ ∀s∈V,∀e∈s.ent,e.2+1<H.length)->
   aw.k1 R Xa U O sc b1 y cl1 (cl2 y b1) b4 (kE pb) w)->
  c4 U O sc b1 y cl1 (cl2 y b1) b4 (kE pb) (some (hZ y E)) w:=by
 intro f
 induction f with
 |zero=>
  intro t g S w g5 I d4 h W c8 a6
  have ht:t= []:=lB1 (by omega)
  subst ht
  refine b6 _ ?_
  have a7:=h
  obtain⟨f0,e6,d2,e4,e5,e7,_,_,_,_,_,_,h⟩:=h
  refine aa ⟨_,Sat.ld h (.head _) rfl,ae (by rw[nv];rfl) ?_⟩
  exact a6 [] g S w rfl I (lZ0 _) a7 W (lZ0 _) (.inl ⟨rfl,rfl,rfl⟩)
 |succ f g6=>
  intro t g S w g5 I d4 h W c8 a6
  by_cases ht:t= []
  ·subst ht
   refine b6 _ ?_
   have a7:=h
   obtain⟨f0,e6,d2,e4,e5,e7,_,_,_,_,_,_,h⟩:=h
   refine aa ⟨_,Sat.ld h (.head _) rfl,ae (by rw[nv];rfl) ?_⟩
   exact a6 [] g S w rfl I (lZ0 _) a7 W (lZ0 _) (.inl ⟨rfl,rfl,rfl⟩)
  have e0:=I.head ht
  refine b6 _ ?_
  have a7:=h
  have i2:S.length=5:=by obtain⟨_,_,_,_,_,_,_,_,h,_⟩:=h;exact h
  have hs:S[E]? =some S[E]:=lI0 (by omega)
  generalize S[E]=s at hs
  obtain⟨f0,e6,d2,e4,e5,e7,_,_,_,f6,_,_,d1⟩:=h
  refine aa ⟨_,Sat.ld d1 (.head _) rfl,ag (by rw[nv];simpa using ht) (aa ?_)⟩
  have g0:w.cell? (hZ y E)=some (hT s.q s.n s.c):=by
   refine Sat.ld d1 (.tail _ (.head _)) ?_
   rw[lF2,hs];rfl
  refine⟨_,_,_,g0,?_⟩
  intro i1 g1
  refine Bj a7 e0 hc h2 hs (λi0 w g4=>g1 _ _ _ _ _ _ _ _ _ _ _ _ g4) (λc2 w h=>?_) (λh7 e h9 st b7 b8 b9 e1 f3 c2 hd w h=>?_)
  ·refine a6 t g S w ?_ I (lZ0 _) h W (lZ0 _) (.inl ⟨rfl,rfl,rfl⟩)
   rw[jN,if_neg ht,uW hs,wP c2]
  ·have d5:e∈s.ent:=by rw[e1];simp
   have g3:=c8 s hs e d5
   refine Fb h e0 hc hs d5 hd g3 W d4 λw h=>?_
   have h3:(xx g e.2 (rp st (dOf t st)) b7 b8 (e.2:Nat) b9).length<=e.2+1:=by
    unfold xx
    rw[lA0,lF1]
    split<;>simp<;>omega
   have h4:0<dOf t st:=by unfold dOf;split<;>omega
   have h6:=lY0.2 ht
   have c9: ∀s'∈S.map (STK.trim (xx g e.2 (rp st (dOf t st)) b7 b8 (e.2:Nat) b9).length),∀x∈s'.ent,x.2+1<(xx g e.2 (rp st (dOf t st)) b7 b8 (e.2:Nat) b9++ [xOf t (dOf t st) (g.drop (e.2+1))]).length:=by
    intro s' c1 x h1
    obtain⟨s0,g2,rfl⟩:=lS1.1 c1
    have:=yV (f6 s0 g2).2.1 x h1
    rw[lA0];simp;omega
   refine g6 (t.drop (dOf t st)) _ _ w (by rw[lN1];omega) (I.drop _) (by rw[lN1];omega) h (by rw[lA0];simp;omega) (λs' c1=>c9 s' (lR1 c1)) ?_
   intro t' H V w d3 f2 f5 h f4 d0 f1
   refine a6 t' H V w ?_ f2 (by rw[lN1] at f5;omega) h f4 (by rw[lA0] at d0;simp at d0;omega) (.inr ?_)
   ·rw[jN,if_neg ht,uW hs,e1,Ci f3 c2]
    simp only[hd]
    rw[B3] at d3
    exact d3
   ·rcases f1 with ⟨_,rfl,rfl⟩|g7
    ·exact c9
    ·exact g7

def sD:Inl->Option UInt8
 | .emphP s _ _ _ _=>s.head?
 |_=>none
def wfE (ts:List Inl):Prop:= ∀s y g i n,Inl.emphP s y g i n∈ts->s≠ []/\(∃c,F2 c/\AllC c s)/\s.length<1000000000/\0<=n/\n<=1000000000
def nz:Option UInt8->List Inl->Prop
 |_,[]=>True
 |h,t::ts=>(h=none\/sD t≠h)/\nz (sD t) ts
theorem EI {c:UInt8}(hc:F2 c)(g:R (hQ (hY (sV c:Nat))) w):callE P fA #[.int .u8 (c.toNat:Int)] R w:=by
 refine iK.sound ?_
 refine uV (l:= [95,42,126,34,39]) ⟨_,rfl,?_⟩
 rcases hc with rfl|rfl
 ·exact g
 ·exact g
theorem Fa {y m pb g:Nat}{S:List STK}{s:STK}{c3:List ai}(e8:S.length=5)(hs:S[g]? =some s)(c8:StksAt S c3)(e7:s.ent.length<999999999)(h:Sat σ w (kb y S::(c3++L))){K:World->Prop}(e1: ∀w s' c2,s'.ent=s.ent++ [(pb,m)]->StksAt (S.set g s') c2->Sat σ w (kb y (S.set g s')::(c2++L))->K w):
 aA (some ((hZ y g):Addr)) λd2=> ∃(b4:Option Addr),∃(a7:Nat),∃(O:Nat),w.cell? d2=some (hT b4 a7 O)/\
  ∃(W:Option Addr),∃(I:Nat),∃(b5:Nat),∃b7,(Instr.buildSlice cI 1 #[(0,kT (kE pb))]).run P w= .ok (hT W I b5) b7/\
  ∃(a6:Option Addr),∃(V:Nat),∃(U:Nat),∃b9,(Builtin.append_ #[cI,cI] cI #[hT b4 a7 O,hT W I b5]).run P b7= .ok (hT a6 V U) b9/\
  aA (some ((hZ y g):Addr)) λd4=>stV b9 (d4.add 0) (hT a6 V U) λd3=>K d3:=by
 have b8:=(lL0.1 hs).1
 have d1:S=S.take g++s::S.drop (g+1):=by
  have e5:S[g]=s:=(lL0.1 hs).2
  rw[<-e5,<-lI1 b8,lX1]
 have b6: ∀s':STK,S.set g s'=S.take g++s'::S.drop (g+1):=by
  intro s';rw[lL4,if_pos b8]
 have c1:(S.take g).length=g:=by rw[lF1];omega
 rw[d1] at c8 h
 obtain⟨H,e3,E,rfl,e4,c5,e0⟩:=c8.split
 have e6:=c5.1
 simp at e6
 refine aa ⟨_,_,_,lS h c1.symm,?_⟩
 have h:Sat σ w (e3++(kb y (S.take g++s::S.drop (g+1))::(H++(E++L)))):=h.re
 refine Sat.app1 rowEP c5 h (v:= kT (kE pb)) rfl (by simp[Value.cells,Value.oneCell']) (by kernel_rfl) (by omega) (by omega) (by decide) λc9 d0 e2 c4 d5 h=>?_
 have h:Sat σ e2 (kb y (S.take g++s::S.drop (g+1))::(H++(c4++(E++L)))):=h.re
 refine aa ?_
 simp only[lK0,lL1]
 refine vJ (s':=⟨c9,s.n+1,d0,s.ent++ [(pb,m)]⟩) h c1.symm λw h=>?_
 refine e1 w ⟨c9,s.n+1,d0,s.ent++ [(pb,m)]⟩ (H++(c4++E)) rfl ?_ ?_
 ·rw[b6];exact e4.join (by unfold STK.ok;rw[lV0];exact d5) e0
 ·rw[b6];exact h.re
def EM0 (σ:Out)(b1 b6:Nat)(y W:List Inl)(S:List STK)(a6:Nat)(a7:Option Addr)(b4 sc:Nat)(b5:List ai)(L:List ai)(w:World):Prop:=
 ∃U O g E H I V RM,InlsAt y g H/\StksAt S I/\S.length=5/\StkIn y g S/\DRow U O g E a6 a7 b4 sc b5 V/\y.length<999999998/\InlsAt W E RM/\
  Sat σ w (kb b6 S::(b1,cel [hT U g.length O] ap)::(I++(H++(V++(RM++L)))))
def Late (c:UInt8)(g:List Inl)(S:List STK):Prop:= ∀s,S[sV c]? =some s-> ∀e∈s.ent,e.2+1<g.length
theorem StkIn.lt {g:List Inl}{y:List Value}{S:List STK}(h:StkIn g y S): ∀s∈S,∀e∈s.ent,e.2<g.length:=by
 intro s hs e H
 obtain⟨t,O,I,n,E,_⟩:=(h s hs).2.2 e H
 exact(lL0.1 E).1
theorem StkIn.grow {E x:List Inl}{g y:List Value}{S:List STK}(h:StkIn E g S):StkIn (E++x) (g++y) S:=by
 intro s hs
 obtain⟨a,b,c⟩:=h s hs
 refine⟨a,b,λe V=>?_⟩
 obtain⟨t,U,O,n,H,I,W⟩:=c e V
 exact⟨t,U,O,n,by rw[lM0 (lL0.1 H).1];exact H,by rw[lM0 (lL0.1 I).1];exact I,W⟩

theorem rD {b1 V b8 b:Nat}{t:TypeId}{H c5:Option Addr}{E c3 sc:Nat}{g b9:List Value}{S:List STK}{U O c1 b5:List ai}(d2:DRow H E g b9 (b8+1) c5 c3 sc c1 b5)(e0:g.length<=b8)(d5:g.length<1000000000)(h:Sat σ w (kb V S::(b1,cel [hT H g.length E] ap)::(U++(O++(b5++L))))){C:World->Prop}(d4: ∀y X,Sat σ y (X::(kb V S::(b1,cel [hT H g.length E] ap)::(U++(O++(b5++L)))))->C y){K:World->Prop}(d0: ∀w W a6 I,DRow W a6 (g++ [gO t b]) b9 (b8+1) c5 c3 sc c1 I->Sat σ w (kb V S::(b1,cel [hT W (g.length+1) a6] ap)::(U++(O++(I++L))))->K w):
 ∃c8 c2 c4 y,(Instr.buildSlice ap 1 #[(0,gO t b)]).run P w= .ok (hT c8 c2 c4) y/\C y/\
  ∃b6 a7 b7 b4,(Builtin.append_ #[ap,ap] ap #[hT H g.length E,hT c8 c2 c4]).run P y= .ok (hT b6 a7 b7) b4/\stV b4 (hZ b1 0) (hT b6 a7 b7) K:=by
 have hr:Sat σ w (b5++(kb V S::(b1,cel [hT H g.length E] ap)::(U++(O++L)))):=h.re
 refine d2.app (ty:=ap) hr (by omega) d5 (C:=C) (λy X d3=>d4 y X (d3.re)) (K:=λb6 a7 b7 b4=>stV b4 (hZ b1 0) (hT b6 a7 b7) K) λW a6 I d1 c9 h=>?_
 have h:Sat σ d1 (kb V S::(b1,cel [hT H g.length E] ap)::(U++(O++(I++L)))):=h.re
 refine Sat.st h (k:=1) rfl (lO3 _) trivial rfl λw h=>?_
 exact d0 w W a6 I c9 h
theorem xY {q:Option Addr}{a:Addr}{K:Addr->Prop}(h:q=some a)(g:K a):aA q K:=by subst h;exact g
theorem noC {A:Option Addr->Nat->Nat->World->Prop}{B:Option Addr->Nat->Nat->World->Prop}(h: ∃H y g E,A H y g E/\True/\B H y g E): ∃H y g E,A H y g E/\B H y g E:=by
 obtain⟨a,b,c,d,I,_,O⟩:=h
 exact⟨a,b,c,d,I,O⟩
theorem Co {Xa:XA}{b1 E:Nat}{c5:Option Addr}{b9 sc:Nat}{h2:List ai}(o6: ∀q2 w,aw.bl1 R Xa c5 b9 sc b1 E cl1 (cl2 E b1) q2 w->Xa c5 b9 sc b1 E cl1 (cl2 E b1) q2 w)(v3:b9<999999990)(f2:List Inl)(t8: ∀w a6 b4 g I b6,InlsAt f2 g I->DRow a6 b4 g [] b9 c5 b9 sc h2 b6->g.length<=b9->Sat σ w (I++(b6++L))->R (hQ (hT a6 g.length b4)) w):
 ∀(W c4:List Inl) (S:List STK) (O:Nat) (hd:Option UInt8) (w:World),EM0 σ b1 E c4 W S O c5 b9 sc h2 L w->O+W.length=b9->c4.length<=O->wfE W->nz hd W->(∀c,F2 c->hd≠some c->Late c c4 S)->
  dR c4 (tT S) W=f2->Xa c5 b9 sc b1 E cl1 (cl2 E b1) (O:Int) w:=by
 intro W
 induction W with
 |nil=>
  intro c4 S O hd w h h7 p4 m3 e6 o2 e5
  obtain⟨a6,b4,g,t0,I,a7,b6,RM,c8,e4,d5,d1,j1,q3,m8,h⟩:=h
  obtain⟨rfl,rfl⟩:=m8
  have f4:=c8.length
  simp at h7
  subst h7
  refine o6 _ _ (ae (by simp) ?_)
  refine⟨_,_,_,Sat.ld h (.tail _ (.head _)) rfl,?_⟩
  simp only[dR] at e5
  simp only[lT0] at h
  refine t8 w a6 b4 g I b6 (by rw[<-e5];exact c8) j1 (by omega) ?_
  exact h.less (kb E S::(b1,cel [hT a6 g.length b4] ap)::a7)
 |cons t W k0=>
  intro c4 S O hd w h h7 p4 m3 e6 o2 e5
  obtain⟨a6,b4,g,t0,I,a7,b6,RM,c8,e4,d5,d1,j1,q3,m8,h⟩:=h
  obtain⟨v,e2,h4,b7,rfl,rfl,hv,h6⟩:=m8
  have f4:=c8.length
  simp at h7
  have o4: ∀w,Sat σ w (kb E S::(b1,cel [hT a6 g.length b4] ap)::(a7++(I++(b6++((h4++b7)++L)))))-> ∃n3 n1,c5=some (hZ n3 n1)/\w.cell? ⟨n3,n1+O,none⟩=some v:=by
   intro w h
   have h:Sat σ w (b6++(kb E S::(b1,cel [hT a6 g.length b4] ap)::(a7++(I++((h4++b7)++L))))):=h.re
   exact j1.read h
  have e3:=j1.consume
  have h8:wfE W:=λs V y i n u0=>m3 s V y i n (.tail _ u0)
  have g0:i64.wrap ((O:Int)+1)=((O+1:Nat):Int):=aN (by omega)
  have e7:=d1.lt
  have next: ∀w (t':Inl) (ty:TypeId) (b:Nat) (f5:List ai),InlAt t' (gO ty b) f5->dR (c4++ [t']) (tT S) W=f2-> ∀c2 c3 c1,DRow c2 c3 (g++ [gO ty b]) e2 (O+1) c5 b9 sc h2 c1->
   Sat σ w (kb E S::(b1,cel [hT c2 (g.length+1) c3] ap)::(a7++(I++(c1++(f5++(b7++L))))))->Xa c5 b9 sc b1 E cl1 (cl2 E b1) ((O+1:Nat):Int) w:=by
   intro w t' ty b f5 s9 b8 c2 c3 c1 d2 h
   refine k0 (c4++ [t']) S (O+1) (sD t) w ⟨c2,c3,_,e2,I++f5,a7,c1,b7,c8.append (InlsAt.one s9),e4,d5,d1.grow,d2,by simp;omega,h6,?_⟩ (by omega) (by simp;omega) h8 e6.2 ?_ b8
   ·rw[lA0,lE0];exact h.re
   ·intro c _ _ s hs e b5
    have:=e7 s (lR1 hs) e b5
    simp;omega
  obtain⟨pb,cs,v5,f5,rfl,v4⟩:=hv.ptr
  refine o6 _ _ (ag (by simp;omega) ⟨by omega,by omega,?_⟩)
  obtain⟨n3,n1,i1,o3⟩:=o4 w h
  refine xY i1 ?_
  simp only[lK0,lC0,lC1]
  refine⟨_,o3,?_⟩
  by_cases h9:t.ty=aQ
  ·-- an open bracket becomes plain
   obtain⟨s,i,rfl⟩: ∃s i,t= .openP s i:=by
    cases t<;>simp only[Inl.ty] at h9<;>first|exact⟨_,_,rfl⟩|exact absurd h9 (by decide)
   have m4:(Instr.typeAssert (gO (Inl.openP s i).ty pb) aC aQ true).run P w= .ok (.tuple #[kT (kE pb),hV true]) w:=oD w
   refine⟨_,_,w,m4,ag rfl ?_⟩
   refine h.tk λw h=>?_
   refine aa ⟨_,_,_,Sat.ld h (.tail _ (.head _)) rfl,?_⟩
   have d3:=h
   refine rD e3 (by omega) (by omega) h (C:=λe0=>SameC _ e0 _ 1) (λe0 X f6=>d3.same f6 (.tail _ (.head _)) (.tail _ (.tail _ (.head _))) 1) λw c2 c3 c1 d2 h=>?_
   rw[g0]
   refine next w (.plain s) bH pb h4 ?_ (by rw[<-e5,dR]) c2 c3 c1 d2 (h.re)
   obtain⟨t6,e',m9,rfl⟩:=hv
   have:=ry m9
   subst this
   exact⟨pb,_,_,rfl,rfl⟩
  ·refine⟨_,_,w,pT h9 w,ae rfl ⟨by omega,by omega,?_⟩⟩
   refine xY i1 ?_
   simp only[lK0,lC0,lC1]
   refine⟨_,o3,?_⟩
   by_cases i2:t.ty=aT
   ·-- a run of delimiters
    obtain⟨s,V,y,i,n,rfl⟩: ∃s V y i n,t= .emphP s V y i n:=by
     cases t<;>simp only[Inl.ty] at i2<;>first|exact⟨_,_,_,_,_,rfl⟩|exact absurd i2 (by decide)
    obtain⟨t6,c9,m9,rfl⟩:=hv
    have:=ry m9
    subst this
    obtain⟨m6,⟨c,hc,m1⟩,s4,p3,q4⟩:=m3 s V y i n (.head _)
    have i0:=m1.head m6
    have i8:sD (.emphP s V y i n)=some c:=i0
    have r6:hd≠some c:=by
     rcases e6.1 with h|h
     ·rw[h];simp
     ·rw[i8] at h;exact λn2=>h n2.symm
    have s5:sV (s.headD 0)=sV c:=by rw[List.headD_eq_head?_getD,i0];rfl
    have s1:sV c<5:=by rcases hc with rfl|rfl<;>decide
    have j0: ∀w,Sat σ w (kb E S::(b1,cel [hT a6 g.length b4] ap)::(a7++(I++(b6++(([emC pb s V y i n c9]++b7)++L)))))->EM σ b1 E pb s V y i n c9 c4 S e2 (O+1) c5 b9 sc h2 (b7++L) w:=λw h=>
     ⟨a6,b4,g,I,a7,b6,c8,e4,d5,d1,e3,by omega,h.re⟩
    have m4:(Instr.typeAssert (gO (Inl.emphP s V y i n).ty pb) aC aT true).run P w= .ok (.tuple #[kT (kE pb),hV true]) w:=rO w
    refine⟨_,_,w,m4,ae rfl (aa ?_)⟩
    have fin: ∀(t':List UInt8) (U:List Inl) (H:List STK) w,AllC c t'->t'.length<=s.length->EM σ b1 E pb t' V y i n c9 U H e2 (O+1) c5 b9 sc h2 (b7++L) w->U.length<=O->
     (t'= []-> ∀s∈H,∀e∈s.ent,e.2+1<U.length)->
     (if t'= [] then dR U (tT H) W else if V then dR (U++ [.emphP t' V y U.length n]) ((tT H).set (sV c) ((tT H).getD (sV c) []++ [U.length])) W else dR (U++ [.plain t']) (tT H) W)=f2->
     aw.k1 R Xa c5 b9 sc b1 E cl1 (cl2 E b1) O (kE pb) w:=by
     intro t' U H w f1 o5 h v0 r9 b8
     obtain⟨a6,b4,g,I,a7,b6,c8,e4,d5,d1,e3,q3,h⟩:=h
     have f4:=c8.length
     have e7:=d1.lt
     refine aa ⟨_,Sat.ld h (.head _) rfl,?_⟩
     rw[nv]
     by_cases d4:t'= []
     ·subst d4
      rw[if_pos rfl] at b8
      refine ae (by simp) ?_
      rw[g0]
      refine k0 U H (O+1) (some c) w ⟨a6,b4,g,e2,I,a7,b6,b7,c8,e4,d5,d1,e3,by omega,h6,?_⟩ (by omega) (by omega) h8 (by have:=e6.2;rw[i8] at this;exact this) ?_ b8
      ·exact(h.tail).re
      ·intro n0 _ _ s' i3 e b5
       exact r9 rfl s' (lR1 i3) e b5
     ·rw[if_neg d4] at b8
      refine ag (by simpa using d4) (aa ⟨_,Sat.ld h (.head _) rfl,by omega,kS (f1.head d4),?_⟩)
      rw[bt0 (f1.head d4)]
      refine gN ?_
      refine EI hc ⟨_,rfl,by omega,by omega,aa ⟨_,Sat.ld h (.head _) rfl,?_⟩⟩
      have q0: ∀(d:UInt8),c≠d->((bs t').toList==(hP #[d]).toList)=false:=by
       intro d hd
       rw[cZ,gk,beq_eq_false_iff_ne]
       intro d3
       have:t'= [d]:=d3
       subst this
       exact hd (f1 d (by simp)).symm
      refine ae (q0 39 (by rcases hc with rfl|rfl<;>decide)) ?_
      refine aa ⟨_,Sat.ld h (.head _) rfl,ae (q0 34 (by rcases hc with rfl|rfl<;>decide)) ?_⟩
      simp only[lK0,lC0,lC1,lN0]
      refine aa ⟨V,Sat.ld h (.head _) rfl,?_⟩
      cases q1:V with
      |true=>
       rw[q1] at h b8
       rw[if_pos rfl] at b8
       refine ag rfl ⟨_,_,_,Sat.ld h (.tail _ (.tail _ (.head _))) rfl,aa ?_⟩
       refine Sat.st h (k:=0) rfl (lG3 rfl) trivial rfl λw h=>?_
       have h:Sat σ w (emC pb t' true y (g.length:Nat) n c9::kb E H::(b1,cel [hT a6 g.length b4] ap)::(a7++(I++(b6++(b7++L))))):=h
       refine⟨_,_,_,Sat.ld h (.tail _ (.tail _ (.head _))) rfl,?_⟩
       have h:Sat σ w (kb E H::(b1,cel [hT a6 g.length b4] ap)::(a7++(I++(b6++(emC pb t' true y (g.length:Nat) n c9::(b7++L)))))):=h.re
       refine noC (rD (t:=aT) (b:=pb) e3 (by omega) (by omega) h (C:=λ_=>True) (λ_ _ _=>trivial) λw c2 c3 c1 d2 h=>?_)
       have e8:H[sV c]? =some H[sV c]:=lI0 (by omega)
       generalize H[sV c]=sx at e8
       have l5:=d1 sx (lR1 e8)
       have h:Sat σ w (kb E H::(a7++((b1,cel [hT c2 (g.length+1) c3] ap)::(I++(c1++(emC pb t' true y (g.length:Nat) n c9::(b7++L))))))):=h.re
       have r5:sx.ent.length<999999999:=by
        have: ∀(f0:List (Nat × Nat)) (k:Nat),f0.Pairwise (λa b=>a.2<b.2)->(∀e∈f0,k<=e.2/\e.2<U.length)->k<=U.length->k+f0.length<=U.length:=by
         intro f0
         induction f0 with
         |nil=>intro k _ _ q5;simpa using q5
         |cons e f0 s7=>
          intro k o0 hb q5
          rw[List.pairwise_cons] at o0
          have v6:=hb e (.head _)
          have:=s7 (e.2+1) o0.2 (λx r3=>⟨o0.1 x r3,(hb x (.tail _ r3)).2⟩) (by omega)
          simp;omega
        have:=this sx.ent 0 l5.2.1 (λe b5=>⟨lC2 _,e7 sx (lR1 e8) e b5⟩) (lC2 _)
        omega
       refine Fa (m:=g.length) (pb:=pb) d5 e8 e4 r5 h λw s' s6 i3 r7 h=>?_
       rw[g0]
       have s3:(tT H).set (sV c) ((tT H).getD (sV c) []++ [U.length])=tT (H.set (sV c) s'):=by
        rw[uW e8,tT,tT,List.map_set,i3,lV0,f4];rfl
       rw[s3] at b8
       refine k0 _ (H.set (sV c) s') (O+1) (some c) w ⟨c2,c3,g++ [gO aT pb],e2,I++ [emC pb t' true y (g.length:Nat) n c9],s6,c1,b7,c8.append (InlsAt.one (t:= .emphP t' true y (g.length:Nat) n) ⟨pb,c9,rfl,rfl⟩),r7,by rw[lA5];exact d5,?_,d2,by simp;omega,h6,?_⟩ (by omega) (by simp;omega) h8 (by have:=e6.2;rw[i8] at this;exact this) ?_ (by rw[<-b8,f4])
       ·intro h3 d0
        rcases List.mem_or_eq_of_mem_set d0 with d0|d0
        ·exact d1.grow h3 d0
        ·subst d0
         rw[i3]
         refine⟨by simp;omega,?_,?_⟩
         ·rw[lL6]
          refine⟨l5.2.1,by simp,λa t7 b hb=>?_⟩
          simp at hb;subst hb
          have:=e7 sx (lR1 e8) a t7
          show a.2<g.length
          omega
         ·intro e b5
          rcases lO0.1 b5 with b5|b5
          ·obtain⟨t5,t9,t3,t2,q8,r1,t4⟩:=l5.2.2 e b5
           exact⟨t5,t9,t3,t2,by rw[lM0 (lL0.1 q8).1];exact q8,by rw[lM0 (lL0.1 r1).1];exact r1,t4⟩
          ·simp at b5;subst b5
           exact⟨t',true,y,n,by show (U++_)[g.length]? =_;rw[f4,lH0 (lZ0 _)];simp,by show (g++_)[g.length]? =_;simp,p3,q4,d4,by omega⟩
       ·rw[lA0,lE0];exact h.re
       ·intro n0 p1 p5 h3 d0 e b5
        have r8:sV n0≠sV c:=by
         intro d3
         apply p5
         rcases hc with rfl|rfl<;>rcases p1 with rfl|rfl<;>first|rfl|exact absurd d3 (by decide)
        rw[List.getElem?_set_ne (λh=>r8 h.symm)] at d0
        have:=e7 h3 (lR1 d0) e b5
        simp;omega
      |false=>
       rw[q1] at h b8
       rw[if_neg (by simp)] at b8
       refine ae rfl ?_
       refine h.tk λw h=>?_
       refine aa ⟨_,_,_,Sat.ld h (.tail _ (.tail _ (.head _))) rfl,?_⟩
       have h:Sat σ w (kb E H::(b1,cel [hT a6 g.length b4] ap)::(a7++(I++(b6++(emC pb t' false y i n c9::(b7++L)))))):=h.re
       have d3:=h
       refine rD (t:=bH) (b:=pb) e3 (by omega) (by omega) h (C:=λe0=>SameC _ e0 _ 1) (λe0 X f6=>d3.same f6 (.tail _ (.head _)) (.tail _ (.tail _ (.head _))) 1) λw c2 c3 c1 d2 h=>?_
       rw[g0]
       refine k0 (U++ [.plain t']) H (O+1) (some c) w ⟨c2,c3,g++ [gO bH pb],e2,I++ [emC pb t' false y i n c9],a7,c1,b7,c8.append (InlsAt.one (t:= .plain t') ⟨pb,_,c9,rfl,rfl⟩),e4,d5,d1.grow,d2,by simp;omega,h6,?_⟩ (by omega) (by simp;omega) h8 (by have:=e6.2;rw[i8] at this;exact this) ?_ b8
       ·rw[lA0,lE0];exact h.re
       ·intro n0 p1 p5 h3 d0 e b5
        have:=e7 h3 (lR1 d0) e b5
        simp;omega
    refine⟨y,Sat.ld h (.tail _ (.tail _ (lB0 _ (lB0 _ (lB0 _ (.head _)))))) rfl,?_⟩
    have f3:(let r:=if y then jN (sV c) V y n s.length s c4 (tT S) else (s,c4,tT S)
     if r.1= [] then dR r.2.1 r.2.2 W else if V then dR (r.2.1++ [.emphP r.1 V y r.2.1.length n]) (r.2.2.set (sV c) (r.2.2.getD (sV c) []++ [r.2.1.length])) W else dR (r.2.1++ [.plain r.1]) r.2.2 W)=f2:=by
     rw[<-e5,dR,s5]
    cases m5:y with
    |false=>
     rw[m5] at f3 j0 fin
     refine ae rfl (fin s c4 S w m1 (lZ0 _) (j0 w (by rw[m5] at h;exact h)) p4 (λh=>absurd h m6) ?_)
     simpa using f3
    |true=>
     rw[m5] at f3 j0 fin h
     refine ag rfl (aa ⟨_,Sat.ld h (.tail _ (.tail _ (lB0 _ (lB0 _ (lB0 _ (.head _)))))) rfl,by omega,kS i0,?_⟩)
     rw[bt0 i0]
     refine gN ?_
     refine EI hc ⟨_,rfl,by omega,by omega,?_⟩
     simp only[lK0,lC0,lC1,lN0]
     intro v7 s8
     refine DV s1 hc ⟨p3,q4⟩ (λw n2=>s8 _ _ _ _ _ _ _ _ _ _ _ n2) s.length s c4 S w (lZ0 _) m1 s4 (j0 w h) (by omega) (o2 c hc r6) ?_
     intro t' U H w b8 f1 o5 h u1 u2 e9
     refine fin t' U H w f1 o5 h (by omega) ?_ ?_
     ·intro d4
      rcases e9 with ⟨e9,_⟩|e9
      ·rw[d4] at e9;exact absurd e9.symm m6
      ·exact e9
     ·simp only[if_true,b8] at f3
      exact f3
   ·-- anything else
    refine⟨_,_,w,pU i2 w,ag rfl ?_⟩
    refine A5 (A:=λw=>Sat σ w (kb E S::(b1,cel [hT a6 g.length b4] ap)::(a7++(I++(b6++((h4++b7)++L)))))) h.tick λw h=>?_
    refine⟨by omega,by omega,xY i1 ?_⟩
    refine⟨_,_,_,Sat.ld h (.tail _ (.head _)) rfl,?_⟩
    simp only[lK0,lC0,lC1]
    obtain⟨v2,u8,m2,r4⟩:=o4 w h
    rw[i1] at m2
    simp only[lG1,Addr.mk.injEq,and_true] at m2
    obtain⟨rfl,rfl⟩:=m2
    refine⟨_,r4,?_⟩
    have d3:=h
    refine rD e3 (by omega) (by omega) h (C:=λe0=>SameC _ e0 _ 1) (λe0 X f6=>d3.same f6 (.tail _ (.head _)) (.tail _ (.tail _ (.head _))) 1) λw c2 c3 c1 d2 h=>?_
    rw[g0]
    refine next w t t.ty pb h4 hv (by rw[<-e5];cases t<;>first|rfl|exact absurd rfl h9|exact absurd rfl i2) c2 c3 c1 d2 (h.re)

theorem DRow.same {q:Option Addr}{n c:Nat}{vs:List Value}{RM:List ai}(h:Sl 1 aC q n c vs RM):DRow q c [] vs 0 q n c [] RM:=by
 obtain⟨H,E,⟨rfl,rfl,rfl,rfl⟩|⟨g,sp,rfl,rfl,y⟩⟩:=h
 ·have:vs= []:=lB1 (by omega)
  subst this
  exact⟨by simp,by simp,.inr ⟨[],Sl.nil 1 aC,rfl,λj v hv=>by simp at hv⟩⟩
 ·refine⟨by omega,by simp,.inl ⟨g,[],sp,rfl,rfl,rfl,rfl,?_⟩⟩
  rw[lA0] at y;omega
theorem DRow.done {E W:Option Addr}{y O a6 sc:Nat}{g:List Value}{H:List ai}(h:DRow E y g [] O W a6 sc [] H):Sl 1 aC E g.length y g H:=by
 obtain⟨b5,I,⟨U,junk,sp,rfl,rfl,rfl,b4,V⟩|⟨b3,a7,rfl,hr⟩⟩:=h
 ·refine⟨by omega,I,.inr ⟨U,junk++sp,rfl,rfl,?_⟩⟩
  simp only[lA0,lK1] at V⊢;omega
 ·rw[lG0];exact a7
theorem Cn {c3 E a6:Option Addr}{g I sc:Nat}{ts:List Inl}{vs:List Value}{a7 y V:List ai}(b4:DRow E g [] vs 0 a6 I sc a7 y)(b5:InlsAt ts vs V)(b7:wfE ts)(b6:nz none ts)(d0:I<999999990)(h:Sat σ w (y++(V++L)))(c2: ∀w E g H U y,InlsAt (wW ts) H U->DRow E g H [] I a6 I sc a7 y->H.length<=I->Sat σ w (U++(y++L))->R (hQ (hT E H.length g)) w):
 callE P fi #[kT c3,hT E 0 g,hT a6 I sc] R w:=by
 refine aw.sound ?_
 refine Sat.bx h λb1 w h=>?_
 refine Sat.bx h λc9 w h=>?_
 intro X b8
 have d3:=b5.length
 have d2:=b4.1
 let s0:STK:=⟨none,0,0,[]⟩
 have h:Sat σ w (kb c9 [s0,s0,s0,s0,s0]::(b1,cel [hT E 0 g] ap)::(y++(V++L))):=h
 have O:s0.ok []:=Sl.nil 1 aT
 refine Co (Xa:=X) (λd1 w b9=>b8 _ _ _ _ _ _ _ _ _ b9) d0 (wW ts) (λw E g H U y c4 c5 c1 c8=>c2 w E g H U y c4 c5 c1 c8) ts [] [s0,s0,s0,s0,s0] 0 none w
  ⟨E,g,[],vs,[],[],y,V,⟨rfl,rfl⟩,⟨[],[],rfl,O,[],[],rfl,O,[],[],rfl,O,[],[],rfl,O,[],[],rfl,O,rfl⟩,rfl,?_,b4,by simp,b5,h⟩ (by omega) (by simp) b7 b6 ?_ rfl
 ·intro s hs
  simp only[lW0,lW5,or_false,or_self] at hs
  subst hs
  exact⟨by show (0:Nat)<_;decide,List.Pairwise.nil,λe W=>by cases W⟩
 ·intro c hc _ s hs e W
  have:s=s0:=by
   rcases hc with rfl|rfl
   ·exact(Option.some.inj hs).symm
   ·exact(Option.some.inj hs).symm
  subst this
  cases W
theorem Aj {ts:List Inl}(I:wfE ts)(H:nz none ts)(b7:ts.length<999999990):zF ts (wW ts):=by
 intro σ R b8 q n c vs RM EM L w y E c1 h U
 have b9:=E.length
 have b6:=y.1
 exact Cn (DRow.same y) E I H (by omega) h λw b5 a7 g V b3 W a6 O b4=>U w b5 g.length a7 g b3 V a6.done O W (b4.re)
theorem pW {s:List UInt8}{i j:Nat}(h:j<=s.length):(sub s i j).length=j - i:=by unfold sub;rw[lN1,lF1];omega
theorem pw {a b:List UInt8}{k:Nat}(h:a.length<=k):(a++b).getD k 0=b.getD (k - a.length) 0:=by
 rw[lP0,lH0 h,<-lP0]
theorem nf {a b:List UInt8}{k:Nat}{d:UInt8}(h:k<a.length):(a++b).getD k d=a.getD k d:=by
 rw[lP0,lM0 h,<-lP0]
theorem pV (A B C:List UInt8):sub (A++(B++C)) A.length (A.length+B.length)=B:=by
 unfold sub
 rw[<-lD0,show A.length+B.length=(A++B).length by simp,lP4,lB4]
theorem uY (A C:List UInt8)(b d:UInt8):(A++(b::C)).getD A.length d=b:=by
 rw[lP0,lH0 (lZ0 _),lW1];rfl
theorem na {l:List UInt8}{i:Nat}(h:i<l.length)(d:UInt8):l[i]=l.getD i d:=by
 rw[lP0,lI0 h];rfl
def Ex:Opt:=⟨false,false,false,false,false,false,false,false,false,false⟩
theorem Cs (s:List UInt8)(i k:Nat)(d:UInt8):(s.drop i).getD k d=s.getD (i+k) d:=by
 rw[lP0,lP0,lK4]

theorem uO {s:List UInt8}(hs:s.length<1000000000)(g: ∀r,R (hQ (hV r)) w):callE P mV #[hX (bs s)] R w:=by
 refine gv.sound ?_
 intro X H
 have E: ∀ {Q:Ending->World->Prop} (c:Int),(∀r,Q (hQ (hV r)) w)->callE P kR #[.int .u8 c] Q w:=by
  intro Q c V
  refine nk.sound ?_
  exact V _
 have I: ∀k m,m+k=s.length->X (bs s) (m:Int) w:=by
  intro k
  induction k with
  |zero=>intro m W;exact H _ _ _ (ae (by simp;omega) (g _))
  |succ k O=>
   intro m W
   refine H _ _ _ (ag (by simp;omega) ⟨by omega,by simp;omega,?_⟩)
   rw[show i64.wrap ((m:Int)+2)=((m+2:Nat):Int) by rw[show ((m:Int)+2)=((m+2:Nat):Int) by omega,i64_in _ (by omega)],aN (by omega)]
   have y:=O (m+1) (by omega)
   refine bM (λ_=>?_) (λ_=>y)
   refine⟨λU=>?_,?_⟩
   ·simp at U;exact⟨by omega,by simp;omega⟩
   refine bM (λ_=>?_) (λhb=>?_)
   ·exact⟨λh=>Bool.noConfusion h,g _⟩
   have a6:m+2<s.length:=by simp at hb;omega
   refine E _ λr=>⟨_,rfl,?_⟩
   refine⟨λ_=>⟨by omega,by simp;omega⟩,?_⟩
   refine bM (λ_=>g _) (λ_=>?_)
   exact E _ λr=>⟨_,rfl,bM (λ_=>g _) (λ_=>y)⟩
 exact I s.length 0 (by omega)
theorem uN {b i:Nat}{p:PS}{s:List UInt8}(hs:s.length<1000000000)(hi:i<s.length)(hc:s[i]=91):pN b p s i (.func (.func gn) #[] #[]) [] (some (.openP [91] (i+1),i,i+1)) (λp'=>p'=p):=by
 intro σ R L w _ h g
 refine gN (i5.sound ?_)
 unfold i5
 rw[aN (by omega)]
 refine⟨by omega,by omega,by simp;omega,?_⟩
 rw[lC0,lC0,cm]
 have e:(s.take (i+1)).drop i= [91]:=by
  rw[lH1 hi,lB5 (by rw[lF1];omega),hc]
 rw[e]
 refine Sat.bx h λnb w h=>?_
 exact g w p _ _ rfl rfl ⟨nb,_,rfl,rfl⟩ h.up1

def mu (s:List UInt8)(e i:Nat):List Inl:=if e<i then [.plain (sub s e i)] else []
theorem DP {b e i:Nat}{p:PS}{vs:List Value}{RM:List ai}(O:Sl 1 aC p.lq p.ln p.lc vs RM)(h:Sat σ w (p.at b::(RM++L)))(y:p.em=e)(W:i<=p.s.length)(a6:vs.length<1073741823)(U: ∀w (p':PS) E xs I,p'.core=p.core->p'.bt=p.bt->p'.em=((max e i:Nat):Int)->p'.corner=p.corner->Sl 1 aC p'.lq p'.ln p'.lc (vs++xs) E->InlsAt (mu p.s e i) xs I->Sat σ w (p'.at b::(E++(I++L)))->R (hQ (.tuple #[])) w):
 callE P dn #[kT (kE b),hY i] R w:=by
 by_cases hi:e<i
 ·have h:Sat σ w (p.at b::RM++L):=h
  refine Cq h ⟨O,by omega⟩ y hi W (by omega) λw p' H nb g V h=>?_
  refine U w p' H _ [qI nb (sub p.s e i)] (by rw[g];rfl) (by rw[g]) (by rw[g];show ((i:Nat):Int)=_;congr 1;omega) (by rw[g]) V.1 ?_ ?_
  ·unfold mu;rw[if_pos hi]
   exact InlsAt.one ⟨nb,[],_,rfl,rfl⟩
  ·have h:Sat σ w (p'.at b::H++(qI nb (sub p.s e i)::L)):=h
   exact h.re
 ·refine Cr h (by rw[y];omega) λw h=>?_
  refine U w p RM [] [] rfl rfl (by rw[y];congr 1;omega) rfl (by rw[lG0];exact O) ?_ h
  unfold mu;rw[if_neg hi];exact⟨rfl,rfl⟩
def xp (lb:Nat)(inner:Value)(url title:List UInt8)(tc:UInt8)(cor:Bool):ai:=(lb,cel [inner,hX (bs url),hX (bs title),.int .u8 tc.toNat,hV cor] um)
def vv (b:Nat)(p:PS)(raw:List UInt8)(i:Nat)(t:List UInt8)(k:Nat)(L0:List ai)(url title:List UInt8)(tc:UInt8)(cor:Bool)(en:Nat):Prop:=
 ∀(σ:Out) (R:Ending->World->Prop) (L:List ai) (w:World) (ob:Nat) (e:TypeId),(∀c∈L0,c∈L)->(ob,cel [hX (bs t),hY k] e)∈L->p.at b∈L->Sat σ w L->
  (∀w lb,Sat σ w (xp lb (hT none 0 0) url title tc cor::L)->R (hQ (.tuple #[kT (kE lb),hY en,hV true])) w)->
  callE P eA #[kT (kE b),hX (bs raw),hY i,kT (kE ob)] R w
theorem Sl.shrink {sz:Nat}{e:TypeId}{q:Option Addr}{n c m:Nat}{vs:List Value}{M:List ai}(h:Sl sz e q n c vs M)(E:m<=n):Sl sz e q m c (vs.take (m*sz)) M:=by
 obtain⟨O,I,y⟩:=h
 have H:m*sz<=n*sz:=lN2 _ E
 refine⟨by rw[lF1];omega,by omega,?_⟩
 rcases y with ⟨rfl,rfl,rfl,rfl⟩|⟨b,sp,rfl,rfl,g⟩
 ·exact .inl ⟨rfl,by omega,rfl,rfl⟩
 ·refine .inr ⟨b,vs.drop (m*sz)++sp,rfl,?_,?_⟩
  ·rw[<-lD0,lX1]
  ·rw[<-lD0,lX1];exact g
theorem Da {v:Value}(w:World):(Instr.typeAssert (.iface aQ v) aC aQ false).run P w= .ok v w:=
 xF (by rw[nB];intro g h;cases h) nB w
def zz (img:Bool)(g:List Inl)(url title:List UInt8)(tc:UInt8)(cor:Bool):Inl:=if img then .image g url title tc cor else .link g url title tc cor
def AtC (I:Bool)(H:BT->Prop)(X:XI)(σ:Out)(b:Nat)(p0:PS)(raw:List UInt8)(L:List ai)(i e:Nat)(ts:List Inl)(opens:List Nat)(lo:Int):Prop:=
 ∀w (p:PS) y E g,H p.bt->p.coreS=p0.coreS->p.s=raw->p.em=(e:Int)->IIn σ b p ts opens y E g L w->X (kE b) (bs raw) y E g lo I (i:Int) w
def GU (R:Ending->World->Prop)(X:XI)(b:Nat)(raw:List UInt8)(y:Bool):Prop:=
 ∀g E H lo (i:Int) w,av.bl1 R X (kE b) (bs raw) g E H lo y i w->X (kE b) (bs raw) g E H lo y i w
theorem AtC.close {X:XI}{b7:Bool}{e5:BT->Prop}{b pb i e en k:Nat}{p0:PS}{raw:List UInt8}{ts1 ts2:List Inl}{opens:List Nat}{lo:Int}{o:Opt}{t url title:List UInt8}{tc:UInt8}{cor img:Bool}{L0:List ai}(q1:GU R X b raw b7)(hi:i<raw.length)(hs:raw.length<1000000)(hc:raw[i]=93)(m8:p0.pz=kE pb)(o3:o.at pb∈L)(n1: ∀c∈L0,c∈L)(ht:t.getD 0 0=(if img then 33 else 91))(n2:t≠ [])(l5:img=true\/lo<=(k:Int))(r3:url.length<1000000)(g6: ∀p:PS,p.coreS=p0.coreS->p.s=raw->vv b p raw i t k L0 url title tc cor en)(m2:ts2++mu raw e i≠ [])(m1:wfE (ts2++mu raw e i))(i2:nz none (ts2++mu raw e i))(o4:(ts1++ts2).length<1000000)(r7:opens.length<1000000)(c2:AtC b7 e5 X σ b p0 raw L en en (ts1++ [zz img (wW (ts2++mu raw e i)) url title tc cor]) opens (if img then lo else (k:Int))):
 AtC b7 e5 X σ b p0 raw L i e (ts1++ .openP t k::ts2) (opens++ [ts1.length]) lo:=by
 intro w p b6 e3 b5 i1 e2 e7 q2 q0
 refine q1 _ _ _ _ _ _ ?_
 obtain⟨vs,RM,EM,H,c9,g2,c8,q5,c3⟩:=q0
 refine kN (p:=p) hi (by omega) (by rw[PS.pz_of e2,m8]) (.head _) (.tail _ (lB0 _ (lB0 _ (lB0 _ o3)))) c3 ?_
 rw[hc,show jU o 93= .nil from rfl]
 refine zk ⟨by omega,by simp;omega,?_⟩
 have n3:=c8.1
 rw[lS0,lA0,lE0] at n3
 refine ag (by rw[de hi 93 93 rfl,hc];simp;omega) ?_
 have o5:i64.wrap ((e3:Int) - 1)=((opens.length:Nat):Int):=by rw[show ((e3:Int) - 1)=((opens.length:Nat):Int) by omega,i64_in _ (by omega)]
 rw[o5]
 refine⟨by omega,by omega,?_⟩
 have r5:=c9.1
 have r4:=c9.2.1
 have o0:=g2.length
 simp only[lA0,lF0] at o0 o4
 have h1:Sat σ w (H++(p.at b::(RM++(EM++L)))):=c3.re
 refine c8.loadAt h1 (j:=opens.length) (v:= hY (ts1.length:Nat)) (by simp[lV0]) λs3 s2 m3=>?_
 simp only[lK0,lC0,lC1,lN0]
 refine⟨_,m3,aa ?_⟩
 have h:=c3
 refine⟨_,_,_,h.ldA,?_⟩
 refine⟨by omega,by omega,?_⟩
 obtain⟨E,v,y,I,t3,b9,rfl,rfl,f6,n0,g5⟩:=g2.mid
 have o2:=f6.length
 have q8:=g5.length
 have s1:(E++v::y).length=E.length+(y.length+1):=by simp
 obtain⟨ob,g,rfl,rfl⟩:=n0
 have g7:Sat σ w (RM++(p.at b::((I++([(ob,cel [hX (bs t),hY k] g)]++b9))++(H++L)))):=c3.re
 refine c9.loadAt g7 (j:=ts1.length) (v:=gO aQ ob) (by rw[lH0 (by omega),show ts1.length - E.length=0 by omega];rfl) λt0 s5 i8=>?_
 simp only[lK0,lC0,lC1,lN0]
 refine⟨_,i8,_,_,Da w,_,_,_,_,qD rowInt.ht rowInt.hi b6 e3 b5 opens.length (by have:=c8.2.1;omega) w,aa ?_⟩
 have d5:(ob,cel [hX (bs t),hY k] g)∈p.at b::(RM++((I++([(ob,cel [hX (bs t),hY k] g)]++b9))++(H++L))):=
  .tail _ (lB0 _ (lE1 _ (lB0 _ (lE1 _ (.head _)))))
 have d4:bt (bs t) 0=((t.getD 0 0).toNat:Int):=oO t 0
 have r9:0<t.length:=lY0.2 n2
 refine⟨_,Sat.ld h d5 rfl,by decide,by simp;omega,?_⟩
 rw[d4]
 have g1:=c8.shrink (m:=opens.length) (by omega)
 rw[lC1,lV0,lC5 (by simp)] at g1
 have k8:av.k8 R X (kE b) (bs raw) b6 opens.length b5 lo b7 (i:Int) (ts1.length:Int) (kE ob) true w:=by
  refine ag rfl ?_
  have j0:=g6 p e2 e7
  refine j0 σ _ _ w ob g (λc hc=> .tail _ (lB0 _ (lB0 _ (lB0 _ (n1 c hc))))) d5 (.head _) h λw lb h=>⟨_,_,_,rfl,ag rfl ?_⟩
  have k9: ∀w r,Sat σ w (({p with corner:=r}:PS).at b::(xp lb (hT none 0 0) url title tc cor::(RM++((I++([(ob,cel [hX (bs t),hY k] g)]++b9))++(H++L)))))->
   av.k9 R X (kE b) (bs raw) b6 opens.length b5 lo b7 (i:Int) (ts1.length:Int) (kE ob) (kE lb) (en:Int) w:=by
   intro w r h
   generalize c1:({p with corner:=r}:PS)=p1 at h
   have m4:Sl 1 aC p1.lq p1.ln p1.lc (E++gO aQ ob::y) RM:=by rw[<-c1];exact c9
   have h9:p1.coreS=p0.coreS:=by rw[<-c1];exact e2
   have e0:p1.s=raw:=by rw[<-c1];exact e7
   have m5:p1.em=(e:Int):=by rw[<-c1];exact q2
   have h:Sat σ w (p1.at b::(RM++(xp lb (hT none 0 0) url title tc cor::((I++([(ob,cel [hX (bs t),hY k] g)]++b9))++(H++L))))):=h.re
   refine DP m4 h m5 (by rw[e0];omega) (by simp only[lA0,lF0];omega) λw p2 b8 xs o6 g3 h8 r8 r1 d3 d2 h=>⟨rfl,aa ?_⟩
   rw[e0] at d2
   have h5:=PS.coreS_of g3 h9
   have m9:p2.s=raw:=by rw[<-e0];have:=congrArg PS.s g3;exact this
   refine⟨_,_,_,h.ldA,?_⟩
   have h3:=d3.1
   have q4:=d3.2.1
   have r6:=d2.length
   have e8:=g5.append d2
   have h2:=e8.length
   have h6:0<(ts2++mu raw e i).length:=lY0.2 m2
   simp only[lA0,lF0] at h3 h2 h6
   have s6:(mu raw e i).length<=1:=by unfold mu;split<;>simp
   rw[aN (by omega)]
   refine⟨_,_,_,_,y0 rowInl.ht rowInl.hi p2.lq p2.ln p2.lc (ts1.length+1) (by omega) w,?_⟩
   rw[if_neg (by omega)]
   obtain⟨_,_,⟨_,s9,_⟩|⟨b3,sp,c4,d1,g4⟩⟩:=d3
   ·omega
   rw[c4]
   simp only[lI3,lK0,lN0,rowInl.hs,lC1]
   have h4:E++gO aQ ob::y++xs++sp=(E++ [gO aQ ob])++((y++xs)++sp):=by simp
   rw[h4] at d1 g4
   have p5:DRow none 0 [] (y++xs) 0 (some ⟨b3,ts1.length+1,none⟩) (p2.ln - (ts1.length+1)) (p2.lc - (ts1.length+1)) b8 b8:=by
    refine⟨by simp;omega,by simp,.inr ⟨[],Sl.nil 1 aC,rfl,λj v hv=>⟨b3,_,(E++ [gO aQ ob])++((y++xs)++sp),aC,rfl,by rw[d1];exact .head _,?_⟩⟩⟩
    rw[lH0 (by simp;omega),lM0 (by have:=(lL0.1 hv).1;simp at this⊢;omega)]
    rw[<-hv];congr 1;simp;omega
   have h:Sat σ w (b8++((b9++o6)++(p2.at b::(xp lb (hT none 0 0) url title tc cor::((ob,cel [hX (bs t),hY k] g)::(I++(H++L))))))):=h.re
   refine Cn p5 e8 m1 i2 (by omega) h λw a6 a7 O W t2 f3 j1 s7 h=>⟨_,_,_,rfl,aa ?_⟩
   obtain⟨_,_,⟨s8,junk,s4,_,m6,_⟩|⟨V,f2,i3,_⟩⟩:=j1
   ·simp at m6
   subst i3
   have h:Sat σ w (xp lb (hT none 0 0) url title tc cor::(W++((V++b8)++(p2.at b::((ob,cel [hX (bs t),hY k] g)::(I++(H++L))))))):=h.re
   refine h.stA 0 λw h=>?_
   have h:Sat σ w (xp lb (hT a6 O.length a7) url title tc cor::(W++((V++b8)++(p2.at b::((ob,cel [hX (bs t),hY k] g)::(I++(H++L))))))):=h
   have h7:(ob,cel [hX (bs t),hY k] g)∈xp lb (hT a6 O.length a7) url title tc cor::(W++((V++b8)++(p2.at b::((ob,cel [hX (bs t),hY k] g)::(I++(H++L)))))):=
    .tail _ (lB0 _ (lB0 _ (.tail _ (.head _))))
   refine aa ⟨_,Sat.ld h h7 rfl,by decide,by simp;omega,?_⟩
   rw[d4]
   have h:Sat σ w ((b3,cel ((E++ [gO aQ ob])++((y++xs)++sp)) aC)::(p2.at b::((ob,cel [hX (bs t),hY k] g)::(xp lb (hT a6 O.length a7) url title tc cor::(W++(V++(I++(H++L)))))))):=by rw[d1] at h;exact h.re
   have k10: ∀w (ty:TypeId),Sat σ w ((b3,cel ((E++ [gO ty lb])++((y++xs)++sp)) aC)::(p2.at b::((ob,cel [hX (bs t),hY k] g)::(xp lb (hT a6 O.length a7) url title tc cor::(W++(V++(I++(H++L))))))))->
    InlAt (zz img (wW (ts2++mu raw e i)) url title tc cor) (gO ty lb) (xp lb (hT a6 O.length a7) url title tc cor::(V++W))->
    av.k10 R X (kE b) (bs raw) b6 opens.length b5 lo b7 (ts1.length:Int) (kE ob) (en:Int) w:=by
    intro w ty h k0
    refine aa ?_
    refine⟨_,_,_,h.ldA,?_⟩
    rw[aN (by omega)]
    refine⟨_,_,_,_,qD rowInl.ht rowInl.hi p2.lq p2.ln p2.lc (ts1.length+1) (by omega) w,aa ?_⟩
    refine h.stA 1 λw h=>?_
    let d0:PS:= {p2 with ln:=ts1.length+1}
    have h:Sat σ w ((b3,cel ((E++ [gO ty lb])++((y++xs)++sp)) aC)::(d0.at b::((ob,cel [hX (bs t),hY k] g)::(xp lb (hT a6 O.length a7) url title tc cor::(W++(V++(I++(H++L)))))))):=h
    have h:Sat σ w (d0.at b::((b3,cel ((E++ [gO ty lb])++((y++xs)++sp)) aC)::((ob,cel [hX (bs t),hY k] g)::(xp lb (hT a6 O.length a7) url title tc cor::(W++(V++(I++(H++L)))))))):=h.re
    refine vN h λw h=>⟨rfl,aa ?_⟩
    generalize b4:({d0 with em:=(en:Int)}:PS)=p4 at h
    have i0:p4.core=p2.core:=by rw[<-b4];rfl
    have c5: ∀w,Sat σ w (p4.at b::((b3,cel ((E++ [gO ty lb])++((y++xs)++sp)) aC)::((ob,cel [hX (bs t),hY k] g)::(xp lb (hT a6 O.length a7) url title tc cor::(W++(V++(I++(H++L))))))))->
     IIn σ b p4 (ts1++ [zz img (wW (ts2++mu raw e i)) url title tc cor]) opens b6 opens.length b5 L w:=by
     intro w h
     refine⟨E++ [gO ty lb],[(b3,cel ((E++ [gO ty lb])++((y++xs)++sp)) aC)],I++(xp lb (hT a6 O.length a7) url title tc cor::(V++W)),H,?_,f6.append (InlsAt.one k0),g1,by simp;omega,?_⟩
     ·refine⟨by rw[<-b4];simp[d0];omega,by rw[<-b4];show ts1.length+1<=p2.lc;omega,.inr ⟨b3,(y++xs)++sp,by rw[<-b4];exact c4,rfl,?_⟩⟩
      rw[<-b4];show _=p2.lc*1
      simp only[lA0,lE0] at g4⊢;omega
     ·exact h.less [(ob,cel [hX (bs t),hY k] g)]
    have f0:(ob,cel [hX (bs t),hY k] g)∈p4.at b::((b3,cel ((E++ [gO ty lb])++((y++xs)++sp)) aC)::((ob,cel [hX (bs t),hY k] g)::(xp lb (hT a6 O.length a7) url title tc cor::(W++(V++(I++(H++L))))))):= .tail _ (.tail _ (.head _))
    refine⟨_,Sat.ld h f0 rfl,by decide,by simp;omega,?_⟩
    rw[d4]
    have e9:p4.coreS=p0.coreS:=PS.coreS_of i0 h5
    have f4:p4.s=raw:=by rw[<-b4];exact m9
    have g0:p4.em=(en:Int):=by rw[<-b4]
    have f1:e5 p4.bt:=by
     have q3:p4.bt=p.bt:=by rw[<-b4];show p2.bt=_;rw[h8,<-c1]
     rw[q3];exact i1
    rcases lI4 img with U|U
    ·rw[U] at ht c2 c5
     exact ae (by rw[ht];rfl) (c2 w p4 b6 _ b5 f1 e9 f4 g0 (c5 w h))
    ·rw[U] at ht c2 c5
     exact ag (by rw[ht];rfl) (aa ⟨_,Sat.ld h f0 rfl,c2 w p4 b6 _ b5 f1 e9 f4 g0 (c5 w h)⟩)
   have e6: ∀v:Value,((E++ [gO aQ ob])++((y++xs)++sp)).set ts1.length v=(E++ [v])++((y++xs)++sp):=by
    intro v
    rw[<-o2,lD0,lD0,lO1 _ _ (lZ0 _),lW1];simp
   have f5:ts1.length<((E++ [gO aQ ob])++((y++xs)++sp)).length:=by simp;omega
   rcases lI4 img with U|U
   ·refine ag (by rw[ht,U];rfl) (aa ?_)
    refine⟨_,_,_,h.ldA,?_⟩
    refine⟨by omega,by omega,?_⟩
    rw[c4]
    refine aa ?_
    simp only[lK0,lC0,lC1,lN0,lL1]
    refine Sat.st h (k:=0) rfl f5 trivial rfl λw h=>?_
    rw[e6] at h
    refine k10 w lw h ?_
    rw[U]
    exact⟨lb,um,a6,O.length,a7,O,V,W,rfl,rfl,f2,f3⟩
   ·refine ae (by rw[ht,U];rfl) (aa ?_)
    refine⟨_,_,_,h.ldA,?_⟩
    refine⟨by omega,by omega,?_⟩
    rw[c4]
    refine aa ?_
    simp only[lK0,lC0,lC1,lN0,lL1]
    refine Sat.st h (k:=0) rfl f5 trivial rfl λw h=>?_
    rw[e6] at h
    refine k10 w lu h ?_
    rw[U]
    exact⟨lb,um,a6,O.length,a7,O,V,W,rfl,rfl,f2,f3⟩
  have fin: ∀w r,Sat σ w (xp lb (hT none 0 0) url title tc cor::(({p with corner:=r}:PS).at b::(RM++((I++([(ob,cel [hX (bs t),hY k] g)]++b9))++(H++L)))))->
   av.k9 R X (kE b) (bs raw) b6 opens.length b5 lo b7 (i:Int) (ts1.length:Int) (kE ob) (kE lb) (en:Int) w:=λw r h=>k9 w r h.up1
  refine aa ⟨p.corner,Sat.ld h (.tail _ (.head _)) rfl,bM (λ_=>aa ?_) (λ_=>?_)⟩
  ·refine h.stA 1 λw h=>?_
   exact fin _ true h
  ·refine aa ⟨cor,Sat.ld h (.head _) rfl,bM (λ_=>aa ?_) (λ_=>?_)⟩
   ·refine h.stA 1 λw h=>?_
    exact fin _ true h
   ·refine aa ⟨bs url,Sat.ld h (.head _) rfl,?_⟩
    refine uO (by omega) λr=>⟨_,rfl,aa ?_⟩
    refine h.stA 1 λw h=>?_
    exact fin _ r h
 rcases lI4 img with U|U
 ·exact ag (by rw[ht,U];rfl) k8
 ·refine ae (by rw[ht,U];rfl) (aa ⟨_,Sat.ld h d5 rfl,?_⟩)
  rw[decide_eq_true (l5.resolve_left (by rw[U];decide))]
  exact k8

structure TX where
 t:Nat
 s:Nat
 e:Nat
 raw:List UInt8
def TX.chunk (x:TX):ai:=fu x.t x.s x.e none 0 0 x.raw
structure DB where
 v:Value
 own:List ai
 txs:List TX
def cX (D:List DB):List ai:=D.flatMap DB.own
def cl (D:List DB):List TX:=D.flatMap DB.txs
theorem lx (D:List DB)(d:DB):cX (D++ [d])=cX D++d.own:=by simp[cX]
theorem jz (D:List DB)(d:DB):cl (D++ [d])=cl D++d.txs:=by simp[cl]
def jO (g s e:Nat):OB:=⟨.iface ar (kT (kE g)),none,0,0,s,e⟩
theorem z5 {q:Option Addr}{n c:Nat}{ts:List (List UInt8)}{g:List ai}(y:Sl 1 aq q n c (ts.map λt=> hX (bs t)) g)(h:Sat σ w (g++L))(I:ts≠ [])(U:ts.length<1048576)(O:bF [10] ts≠ [])(hb:(bF [10] ts).length<1073741824)(E: ∀w,Sat σ w (g++L)->R (hQ (hX (bs (bF [10] ts)))) w):callE P fR #[hT q n c,hX (bs [10])] R w:=by
 have H:=y.1
 simp only[lS0,lC1] at H
 match ts,I with
 | [t],_=>
  obtain rfl:n=1:=by simpa using H.symm
  have e:bF [10] [t]=t:=by simp[bF]
  rw[e] at E
  exact DD h y E
 |t::u::ts,_=>
  exact BU (t:=t) (ts:=u::ts) y h (by simp) (by omega) (by decide) (lY0.2 O) hb E
theorem wa {b g:Nat}{p:PS}{ob:List OB}{o:OB}{M E O:List ai}{ts:List Nat}{ls:List (List UInt8)}{s:List UInt8}(h:Sat σ w (p.at b::M++(E++(O++L))))(hs:Stk p (ob++ [o]) M)(ht:Txts p ts E)(b5:ts.length<1048575)(c1:rg g ls O)(W:ls≠ [])(b3:ls.length<1048576)(U:bF [10] ls=s)(c2:s.length<1073741824)(a6:s≠ [])(hb:Ed s)(c4:o.s<1000000000)(b8: ∀w p' H t nb,p'= {p with tq:=p'.tq,tn:=ts.length+1,tc:=p'.tc}->Txts p' (ts++ [t]) H->
  Sat σ w (p'.at b::M++(H++(O++(kY nb o.s (o.s+ls.length - 1) t::fu t o.s (o.s+ls.length - 1) none 0 0 s::L))))->R (hQ (.iface bB (kT (kE nb)))) w):
 callE P iA #[kT (kE g),.iface ah (kT (kE b))] R w:=by
 obtain⟨q,c,y,b9,rfl⟩:=c1
 have c3:1<=ls.length:=lY0.2 W
 refine cG.sound ?_
 have h:Sat σ w (p.at b::M++(E++(((g,cel [hT q ls.length c,kT none] aL)::y)++L))):=h
 have h:Sat σ w ((g,cel [hT q ls.length c,kT none] aL)::(y++(p.at b::M++(E++L)))):=h.re
 repeat (first|refine aa ?_|refine h.tk λw h=>?_|refine⟨_,h.ldA,?_⟩|refine⟨_,_,_,h.ldA,?_⟩)
 refine⟨_,w,jf vA _ _ _ w,ae rfl ?_⟩
 repeat (first|refine aa ?_|refine h.tk λw h=>?_|refine⟨_,h.ldA,?_⟩|refine⟨_,_,_,h.ldA,?_⟩)
 have h:Sat σ w (y++((g,cel [hT q ls.length c,kT none] aL)::(p.at b::M++(E++L)))):=h.re
 refine z5 b9 h W b3 (by rw[U];exact a6) (by rw[U];exact c2) λw h=>⟨_,rfl,?_⟩
 rw[U]
 intro X b7
 have V:((bs s).toList==(hP #[]).toList)=false:=by rw[cZ,gk];simpa using a6
 refine b7 _ _ _ _ (ag (by rw[V];rfl) ?_)
 refine hb _ _ _ ⟨_,_,rfl,ag rfl ?_⟩
 refine ae V ?_
 have h:Sat σ w (p.at b::M++(E++(y++(g,cel [hT q ls.length c,kT none] aL)::L))):=h.re
 refine bm nJ ?_
 refine tL h hs λw h=>⟨_,_,rfl,?_⟩
 refine Sat.bx h λI w h=>?_
 repeat (first|refine aa ?_|refine h.tk λw h=>?_|refine⟨_,h.ldA,?_⟩|refine⟨_,_,_,h.ldA,?_⟩|refine h.stA 0 λw h=>?_|refine h.stA 1 λw h=>?_|refine h.stA 2 λw h=>?_|refine h.stA 3 λw h=>?_|refine h.stA 4 λw h=>?_|refine h.stA 5 λw h=>?_|refine h.stA 6 λw h=>?_|refine h.bx λb0 w h=>?_)
 have h:Sat σ _ ((I,cel [hY o.s,hY o.e] aF)::(p.at b::M++(E++(y++(g,cel [hT q ls.length c,kT none] aL)::L)))):=h
 have h:Sat σ _ ((I,cel [hY o.s,hY o.e] aF)::(g,cel [hT q ls.length c,kT none] aL)::(p.at b::M++(E++(y++L)))):=h.re
 refine⟨_,_,_,h.ldA,?_⟩
 refine h.stA 0 λw h=>?_
 refine h.tk λw h=>?_
 refine⟨_,h.ldA,?_⟩
 refine⟨_,h.ldA,?_⟩
 refine⟨_,h.ldA,?_⟩
 refine⟨_,h.ldA,?_⟩
 have b6:i64.wrap (i64.wrap ((o.s:Int)+((ls.length:Nat):Int)) - 1)=((o.s+ls.length - 1:Nat):Int):=by
  rw[i64_in (_+_) (by omega),i64_in _ (by omega)];omega
 rw[b6] at h⊢
 have h:Sat σ _ ((I,cel [hY o.s,hY (o.s+ls.length - 1:Nat)] aF)::(g,cel [hT q ls.length c,kT none] aL)::(p.at b::M++(E++(y++L)))):=h
 have hz:=h
 have h:Sat σ _ (p.at b::E++((I,cel [hY o.s,hY (o.s+ls.length - 1:Nat)] aF)::(g,cel [hT q ls.length c,kT none] aL)::(M++(y++L)))):=h.re
 refine bm wl ?_
 refine tN h ht b5 λw p' H t b4 a7 h=>⟨_,rfl,?_⟩
 refine⟨hz.same h (.head _) (by simp) 2,?_⟩
 refine Sat.bx h λnb w h=>?_
 have h:Sat σ w (kY nb o.s (o.s+ls.length - 1) t::(p'.at b::H++(fu t o.s (o.s+ls.length - 1) none 0 0 s::((I,cel [hY o.s,hY (o.s+ls.length - 1:Nat)] aF)::(g,cel [hT q ls.length c,kT none] aL)::(M++(y++L)))))):=h
 refine b8 w p' H t nb b4 a7 ?_
 have h:=Sat.less (L':=p'.at b::M++(H++(((g,cel [hT q ls.length c,kT none] aL)::y)++(kY nb o.s (o.s+ls.length - 1) t::fu t o.s (o.s+ls.length - 1) none 0 0 s::L)))) [(I,cel [hY o.s,hY (o.s+ls.length - 1:Nat)] aF)] h
 exact h
theorem wY {b b5:Nat}{p:PS}{ob:List OB}{par o:OB}{M V y IM:List ai}{inner:List Value}{ts:List Nat}{ls:List (List UInt8)}{s:List UInt8}(h:Sat σ w (p.at b::M++(IM++(V++(y++L)))))(hs:Stk p (ob++ [par]++ [o]) M)(a6:o.bd= .iface ar (kT (kE b5)))(d5:Sl 1 aO par.q par.n par.c inner IM)(d1:par.n<1000000)(ht:Txts p ts V)(d0:ts.length<1048575)(e0:rg b5 ls y)(c1:ls≠ [])(c5:ls.length<1048576)(e2:bF [10] ls=s)(e1:s.length<1073741824)(c9:s≠ [])(hb:Ed s)(b8:o.s<1000000000)(d2: ∀w p' b4 W g t nb O U x,p'= {p with stn:=ob.length+1,tq:=p'.tq,tn:=ts.length+1,tc:=p'.tc}->Stk p' (ob++ [{par with q:=O,n:=par.n+1,c:=U}]) b4->Txts p' (ts++ [t]) g->
  Sl 1 aO O (par.n+1) U (inner++ [.iface bB (kT (kE nb))]) W->
  Sat σ w (p'.at b::b4++(W++(g++(kY nb o.s (o.s+ls.length - 1) t::fu t o.s (o.s+ls.length - 1) none 0 0 s::L))))->R (hQ x) w):
 callE P aI #[kT (kE b)] R w:=by
 refine pC (ob:=ob) (par:=par) (IM:=IM) (inner:=inner) (λE b3 a7 q=> ∃g t nb,E= {p with tq:=E.tq,tn:=ts.length+1,tc:=E.tc}/\Txts E (ts++ [t]) g/\
  b3=g++(y++(kY nb o.s (o.s+ls.length - 1) t::fu t o.s (o.s+ls.length - 1) none 0 0 s::L))/\a7=bB/\q=kE nb) h hs a6 d5 d1 ?_ ?_
 ·intro e3 w h d4
  rw[a6]
  have h:Sat σ w (p.at b::M++(V++(y++(IM++L)))):=h.re
  refine bm th ?_
  refine wa (ob:=ob++ [par]) (o:=o) (ts:=ts) h hs ht d0 e0 c1 c5 e2 e1 c9 hb b8 λw p' g t nb I c3 h=>?_
  exact d4 w p' _ bB _ (by rw[I]) (by rw[I]) (by rw[I]) (by decide) ⟨g,t,nb,I,c3,rfl,rfl,rfl⟩ (h.re)
 ·intro w p2 d3 c4 E b3 a7 q O U b6 H c8 b7 h
  obtain⟨g,t,nb,b9,c2,rfl,rfl,rfl⟩:=b6
  refine d2 w p2 d3 c4 g t nb O U _ ?_ c8 (c2.of (by rw[H]) (by rw[H]) (by rw[H])) b7 (h.less y)
  rw[H,b9]

def dK (ls:List (List UInt8)):List UInt8:=ls.flatMap λl=>l++ [10]
def dJ (R:EP)(y g:BA)(w:World):Prop:=
 br (decide ((y.size:Int) >= (g.size:Int)))
 (0<=(g.size:Int)/\(g.size:Int)<=(y.size:Int)/\
 R (hQ (hV ((y.extract 0 (Int.toNat (g.size:Int))).toList==g.toList))) w)
 (R (hQ (hV false)) w)
theorem dJ.sound {R x0 x1 w}(h:dJ R x0 x1 w):callE P eY #[hX x0,hX x1] R w:=
 cD Tryz.func231 Tryz.call231 h
def nR (R:EP)(g:Int)(w:World):Prop:=
 R (hQ (hV (((decide (65<=g)) && (decide (g<=90)))||((decide (97<=g)) && (decide (g<=122)))))) w
theorem nR.sound {R x0 w}(h:nR R x0 w):callE P ql #[.int .u8 x0] R w:=
 cD Tryz.func202 Tryz.call202 h
def iH (R:EP)(y E:BA)(w:World):Prop:=
 callE P eY #[hX y,hX E] (λe H=> ∃g,e= hQ (hV g)/\
 R (hQ (hV g)) H) w
theorem iH.sound {R x0 x1 w}(h:iH R x0 x1 w):callE P iw #[hX x0,hX x1] R w:=
 cD Tryz.func176 Tryz.call176 h

theorem En (c:UInt8)(n:Nat):decide ((n:Int)<=((c.toNat:Nat):Int))=decide (n<=c.toNat):=by rw[decide_eq_decide];omega
theorem Eo (c:UInt8)(n:Nat):decide (((c.toNat:Nat):Int)<=(n:Int))=decide (c.toNat<=n):=by rw[decide_eq_decide];omega
def AE (c:UInt8):Bool:=(decide (65<=c.toNat) && decide (c.toNat<=90))||(decide (97<=c.toNat) && decide (c.toNat<=122))
theorem yi {c:UInt8}(g:R (hQ (hV (AE c))) w):callE P ql #[.int .u8 (c.toNat:Int)] R w:=by
 refine nR.sound ?_
 unfold nR
 have e:(((decide ((65:Int)<=((c.toNat:Nat):Int))) && (decide (((c.toNat:Nat):Int)<=90)))||((decide ((97:Int)<=((c.toNat:Nat):Int))) && (decide (((c.toNat:Nat):Int)<=122))))=AE c:=by
  unfold AE
  rw[<-En c 65,<-Eo c 90,<-En c 97,<-Eo c 122];rfl
 rw[e];exact g
theorem wL {s t:List UInt8}(g:R (hQ (hV (decide (s.take t.length=t)))) w):callE P iw #[hX (bs s),hX (bs t)] R w:=by
 refine iH.sound ?_
 refine dJ.sound ?_
 by_cases y:t.length<=s.length
 ·refine ag (by simp;omega) ⟨by omega,by simp;omega,?_⟩
  rw[aJ,lC0,cm,lK2,cZ,cZ]
  have e:(s.take t.length==t)=decide (s.take t.length=t):=by rw[lZ4];simp
  rw[e];exact⟨_,rfl,g⟩
 ·refine ae (by simp;omega) ?_
  have:decide (s.take t.length=t)=false:=decide_eq_false λh=>by have:=congrArg List.length h;simp at this;omega
  rw[<-this];exact⟨_,rfl,g⟩
namespace cP
def bl1 (R:EP)(Xa:OA->Nat->Int->WP)(E:OA)(g:Nat)(y:Int)(w:World):Prop:=
 callE P fB #[kT (kE g),.int .u8 y] (λe U=> ∃O,e= hQ (hV O)/\
 br O
 (Xa E g y U)
 (callE P il #[kT (kE g)] (λe a6=>e= hQ (.tuple #[])/\
 callE P nM #[kT (kE g)] (λe I=> ∃H,e= hQ (hV H)/\
 br H
 (br (y==61)
 (aA E λV=>
 stV I (V.add 0) (hY 1) λW=>
 R (hQ (hV true)) W)
 (aA E λa7=>
 stV I (a7.add 0) (hY 2) λb3=>
 R (hQ (hV true)) b3))
 (False)) a6) U)) w
def l1 (R:EP)(g:OA)(y:Nat)(E:Int)(w:World):Prop:=
 ∀X:OA->Nat->Int->WP,(∀g y E w,bl1 R X g y E w->X g y E w)->X g y E w
def k1 (R:EP)(y:OA)(E:Nat)(H:Int)(g:Bool)(w:World):Prop:=
 br g
 (l1 R y E H w)
 (R (hQ (hV false)) w)
end cP
def cP (R:EP)(b9 b8:OA)(w:World):Prop:=
 aA b9 λa1=>
 ∃E,w.cell? (a1.add 0)=some (hY E)/\
 ∃I,w.cell? (a1.add 1)=some (hY I)/\
 ∃O,w.cell? (a1.add 2)=some (hY O)/\
 ∃U,w.cell? (a1.add 3)=some (hX U)/\
 ∃H,w.cell? (a1.add 4)=some (.int .u8 H)/\
 box w #[hY 0,hY 0,hY 0,hX (hP #[]),.int .u8 0] aW λg b6=>
 stV b6 (hZ g 0) (hY E) λc1=>
 stV c1 (hZ g 1) (hY I) λW=>
 stV W (hZ g 2) (hY O) λa6=>
 stV a6 (hZ g 3) (hX U) λb3=>
 stV b3 (hZ g 4) (.int .u8 H) λb5=>
 callE P bl #[kT (kE g),hY 0,hY 3,hV false] (λe a7=> ∃b4,e= hQ (hV b4)/\
 callE P iC #[kT (kE g)] (λe V=> ∃y,e= hQ (.int .u8 y)/\
 cP.k1 R b8 g y ((y==45)||(y==61)) V) a7) b5
theorem cP.sound {R x0 x1 w}(h:cP R x0 x1 w):callE P fk #[kT x0,kT x1] R w:=
 aH [(111,.mk [22,106,128,340] (cP.k1 R)),(559,.lp [22,106,128] (cP.bl1 R) λXa=> []),(4015,.no)] Tryz.func194 Tryz.call194 h
def gZ (R:EP)(c9 d0:OA)(b9 b7 c1:Int)(b6:BA)(b8:Int)(w:World):Prop:=
 box w #[hY b9,hY b7,hY c1,hX b6,.int .u8 b8] aW λb1 c8=>
 box c8 #[hY 0,hY 0,hY 0,hX (hP #[]),.int .u8 0] aW λg E=>
 ∃b5,E.cell? (hZ b1 0)=some (hY b5)/\
 ∃W,E.cell? (hZ b1 1)=some (hY W)/\
 ∃b4,E.cell? (hZ b1 2)=some (hY b4)/\
 ∃a6,E.cell? (hZ b1 3)=some (hX a6)/\
 ∃a7,E.cell? (hZ b1 4)=some (.int .u8 a7)/\
 stV E (hZ g 0) (hY b5) λc5=>
 stV c5 (hZ g 1) (hY W) λc2=>
 stV c2 (hZ g 2) (hY b4) λc3=>
 stV c3 (hZ g 3) (hX a6) λc4=>
 stV c4 (hZ g 4) (.int .u8 a7) λy=>
 ∃H,y.cell? (hZ g 0)=some (hY H)/\
 ∃V,y.cell? (hZ g 1)=some (hY V)/\
 ∃I,y.cell? (hZ g 2)=some (hY I)/\
 ∃O,y.cell? (hZ g 3)=some (hX O)/\
 ∃U,y.cell? (hZ g 4)=some (.int .u8 U)/\
 R (hQ (.tuple #[.agg #[hY H,hY V,hY I,hX O,.int .u8 U],hV false])) y
theorem gZ.sound {R x0 x1 x2_0 x2_1 x2_2 x2_3 x2_4 w}(h:gZ R x0 x1 x2_0 x2_1 x2_2 x2_3 x2_4 w):callE P gU #[kT x0,kT x1,.agg #[hY x2_0,hY x2_1,hY x2_2,hX x2_3,.int .u8 x2_4]] R w:=
 cD Tryz.func423 Tryz.call423 h

inductive Leaf where
 |none
 |para (ls:List (List UInt8))
 |other (A:List OB->List ai->Prop)
def CS:Leaf->List OB->List ai->Prop
 | .none,ob,M=>ob= []/\M= []
 | .para ls,ob,M=> ∃g s e,ob= [jO g s e]/\rg g ls M/\s<1000000000/\ls≠ []/\ls.length<1048570
 | .other A,ob,M=>A ob M
def Gi (g:Nat):Value:= .iface ij (kT (kE g))
def PS.base (p:PS):PS:= {p with lineno:=0,stq:=none,stn:=0,stc:=0,depth:=0,corner:=false,tq:=none,tn:=0,tc:=0}
def kf (nb t s e:Nat)(raw:List UInt8):DB:=⟨.iface bB (kT (kE nb)),[kY nb s e t],[⟨t,s,e,raw⟩]⟩
def Leaf.fin:Leaf->Prop
 | .none=>True
 | .para ls=>(bF [10] ls).length<1073741824/\bF [10] ls≠ []/\((bF [10] ls).dropWhile lg).head? ≠some 91
 | .other _=>False
def Leaf.finN:Leaf->Prop
 | .none=>True
 | .para ls=>(bF [10] ls).length<1073741824/\bF [10] ls≠ []/\Ed (bF [10] ls)
 | .other _=>False
theorem Leaf.fin.toN {lf:Leaf}(h:lf.fin):lf.finN:=by
 cases lf with
 |none=>trivial
 |para ls=>exact⟨h.1,h.2.1,Du (by have:=h.1;omega) h.2.2⟩
 |other A=>exact h
theorem sg:mQ P ar "pub-paratext/pub/rscmarkdown.extend" gU=true:=by kernel_rfl
theorem uF {E y:Option Addr}{l:Ln}(h:Sat σ w L)(g: ∀w,Sat σ w L->R (hQ (.tuple #[l.val,hV false])) w):callE P gU #[kT E,kT y,l.val] R w:=by
 refine gZ.sound ?_
 refine Sat.bx h λb1 w h=>?_
 refine Sat.bx h λH w h=>?_
 repeat (first|refine aa ?_|refine h.tk λw h=>?_|refine⟨_,h.ldA,?_⟩|refine⟨_,_,_,h.ldA,?_⟩|refine h.stA 0 λw h=>?_|refine h.stA 1 λw h=>?_|refine h.stA 2 λw h=>?_|refine h.stA 3 λw h=>?_|refine h.stA 4 λw h=>?_|refine h.stA 5 λw h=>?_|refine h.stA 6 λw h=>?_|refine h.bx λb0 w h=>?_)
 exact g _ h.tail.tail
theorem tP:(P.fieldsOf aW).toList.map (λf=>(f.name== "_",f.type,f.offset))= [(false,bg,0),(false,bg,1),(false,bg,2),(false,aq,3),(false,dx,4)]:=by kernel_rfl
theorem qX {xs I:Array Value}: ∀ {fs:List Field} {gs:List (TypeId × Nat)},fs.map (λf=>(f.name== "_",f.type,f.offset))=gs.map (λy=>(false,y.1,y.2))->
 (∀y∈gs,∃v,(part y.1 xs y.2).run P w= .ok v w/\(part y.1 I y.2).run P w= .ok v w/\(Op.equalIn 9999 y.1 v v).run P w= .ok true w)->(Op.eqFields 9999 xs I fs).run P w= .ok true w
 | [],[],_,_=>rfl
 | [],y::gs,h,_=>by simp at h
 |f::fs,[],h,_=>by simp at h
 |f::fs,y::gs,h,hg=>by
  simp only[lU1,lU0,Prod.mk.injEq] at h
  obtain⟨⟨W,E,b4⟩,b5⟩:=h
  obtain⟨v,H,O,U⟩:=hg y (lY1 ..)
  have a6:=qX b5 (λa7 V=>hg a7 (lQ1 _ V))
  have b3:f.name≠ "_" :=by simpa using W
  rw[<-E,<-b4] at H O
  rw[<-E] at U
  simp only[Op.eqFields,ne_eq,b3,not_false_eq_true,if_true,lX0,H,O,U,lJ0,Bool.not_true,lE3,if_false]
  exact a6
theorem pP:P.underlying bg=some (.int .i64):=by kernel_rfl
theorem Ej:P.underlying dx=some (.int .u8):=by kernel_rfl
theorem mw:P.underlying aq=some .string:=by kernel_rfl
theorem jB {t:TypeId}{d:TypeDesc}(hd:P.underlying t=some d)(g: ∀f,d≠ .struct f)(y: ∀n e,d≠ .array n e){cs:Array Value}{k:Nat}{v:Value}(hv:cs[k]? =some v)(w:World):(part t cs k).run P w= .ok v w:=by
 cases d<;>first|exact absurd rfl (g _)|exact absurd rfl (y _ _)|simp[part,isAgg,run_underlying hd,hv]
theorem u3 {t:TypeId}{k:IntKind}(y:P.underlying t=some (.int k)){cs:Array Value}{i:Nat}{a:Int}(hv:cs[i]? =some (.int k a)): ∃v,(part t cs i).run P w= .ok v w/\(part t cs i).run P w= .ok v w/\(Op.equalIn 9999 t v v).run P w= .ok true w:=by
 have g:=jB y (λ_ h=>by cases h) (λ_ _ h=>by cases h) hv w
 exact⟨_,g,g,by rw[run_equalIn_int w 9998 t k k a a y,beq_self_eq_true]⟩
theorem FJ {cs:Array Value}{i:Nat}{a:ByteArray}(hv:cs[i]? =some (hX a)): ∃v,(part aq cs i).run P w= .ok v w/\(part aq cs i).run P w= .ok v w/\(Op.equalIn 9999 aq v v).run P w= .ok true w:=by
 have g:=jB mw (λ_ h=>by cases h) (λ_ _ h=>by cases h) hv w
 exact⟨_,g,g,by rw[run_equalIn_string w 9998 aq a a mw,beq_self_eq_true]⟩
theorem Dx (l:Ln)(x H:Operand)(w:World):(do eqGuard .neq aW x H l.val l.val;binOp .neq aW l.val l.val).run P w= .ok (hV false) w:=by
 have E:(eqGuard .neq aW x H l.val l.val).run P w= .ok () w:=run_eqGuard_agg w .neq aW x H _ _ (by kernel_rfl)
 have hb:=run_neq_struct (P:=P) w aW #[hY l.sp,hY l.i,hY l.tab,hX (bs l.text),.int .u8 l.nl.toNat] #[hY l.sp,hY l.i,hY l.tab,hX (bs l.text),.int .u8 l.nl.toNat]
 have I:(Op.equalIn 10000 aW (.agg #[hY l.sp,hY l.i,hY l.tab,hX (bs l.text),.int .u8 l.nl.toNat]) (.agg #[hY l.sp,hY l.i,hY l.tab,hX (bs l.text),.int .u8 l.nl.toNat])).run P w= .ok true w:=by
  rw[run_equalIn_struct w 9999 aW _ _ (by kernel_rfl) (by kernel_rfl)]
  refine qX (gs:= [(bg,0),(bg,1),(bg,2),(aq,3),(dx,4)]) tP ?_
  intro O E
  simp only[lW0,lW5,or_false] at E
  rcases E with rfl|rfl|rfl|rfl|rfl
  ·exact u3 pP rfl
  ·exact u3 pP rfl
  ·exact u3 pP rfl
  ·exact FJ rfl
  ·exact u3 Ej rfl
 rw[lX0,E,lJ0]
 refine hb.trans ?_
 rw[I];rfl

theorem oI {b6:OA->Nat->WP}{Y:OA->Nat->OA->Nat->Nat->Int->Int->WP}{b b1 nb:Nat}{e:TypeId}{p:PS}{M:List ai}{l:Ln}(b5: ∀V U H y E I O w,aj.bl2 R b6 Y V U H y E I O w->Y V U H y E I O w)(i:Nat):
 ∀(k:Nat) w,i<=8->k<=i->(∀j (W:j<newsF.length),k<=j->j<i->AL b p M l newsF[j])->Sat σ w (p.at b::M++(l.at b1::(nb,cel newsC e)::L))->
  (∀w,Sat σ w (p.at b::M++(l.at b1::(nb,cel newsC e)::L))->Y (kE b) b1 (kE nb) 8 8 8 (i:Nat) w)->Y (kE b) b1 (kE nb) 8 8 8 (k:Nat) w:=by
 intro k
 generalize b9:i - k=m
 induction m generalizing k with
 |zero=>
  intro w hi b3 hd h g
  obtain rfl:k=i:=by omega
  exact g w h
 |succ m b4=>
  intro w hi b3 hd h g
  refine b5 _ _ _ _ _ _ _ _ (ag (by simp;omega) ⟨by omega,by omega,?_⟩)
  have a6:k<newsF.length:=by show k<8;omega
  have b7:=lI0 a6
  refine aa ?_
  simp only[lK0,lN0,lC0,lC1]
  have h:Sat σ w (l.at b1::(nb,cel newsC e)::(p.at b::(M++L))):=h.re
  refine⟨_,Sat.ld h (.tail _ (.head _)) (rZ b7),?_⟩
  refine⟨_,Sat.ld h (.head _) rfl,_,Sat.ld h (.head _) rfl,_,Sat.ld h (.head _) rfl,_,Sat.ld h (.head _) rfl,_,Sat.ld h (.head _) rfl,?_⟩
  have h:Sat σ w (p.at b::M++(l.at b1::(nb,cel newsC e)::L)):=h.re
  refine gN ?_
  refine hd k a6 (lZ0 _) (by omega) σ w _ _ h λw h=>⟨_,_,_,_,_,_,rfl,?_⟩
  repeat (first|refine aa ?_|refine h.tk λw h=>?_|refine⟨_,h.ldA,?_⟩|refine⟨_,_,_,h.ldA,?_⟩|refine h.stA 0 λw h=>?_|refine h.stA 1 λw h=>?_|refine h.stA 2 λw h=>?_|refine h.stA 3 λw h=>?_|refine h.stA 4 λw h=>?_|refine h.stA 5 λw h=>?_|refine h.stA 6 λw h=>?_|refine h.bx λb0 w h=>?_)
  rw[aN (by omega)]
  have h:Sat σ _ (l.at b0::(p.at b::M++(l.at b1::(nb,cel newsC e)::L))):=h
  exact b4 (k+1) (by omega) _ hi (by omega) (λj W b8 a7=>hd j W (by omega) a7) h.tail g
theorem uf {I:OA->Nat->WP}{b b1:Nat}{p:PS}{M:List ai}{l:Ln}(h:Sat σ w (p.at b::M++(l.at b1::L)))(hd: ∀f∈newsF,AL b p M l f)(H: ∀w nb e (y:Ending->World->Prop),Sat σ w (p.at b::M++(l.at b1::(nb,cel newsC e)::L))->(∀w k,R (hQ (.tuple #[])) w->y (hQ (.tuple #[Ln.zero.val,hV k])) w)->callE P pr #[kT (kE b),l.val] y w):
 aj.bl102 R I (kE b) b1 w:=by
 refine xZ h λw nb e h=>⟨_,_,_,rfl,?_⟩
 intro Y E
 have h:Sat σ w (p.at b::M++(l.at b1::(nb,cel newsC e)::L)):=h.re
 refine oI E 8 0 w (by omega) (by omega) (λj O _ _=>hd _ (lP1 O)) h λw h=>?_
 refine E _ _ _ _ _ _ _ _ (ae (by simp) ?_)
 have g:l.at b1∈p.at b::M++(l.at b1::(nb,cel newsC e)::L):=by simp
 refine⟨_,Sat.ld h g (i:=0) rfl,_,Sat.ld h g (i:=1) rfl,_,Sat.ld h g (i:=2) rfl,_,Sat.ld h g (i:=3) rfl,_,Sat.ld h g (i:=4) rfl,?_⟩
 exact H w nb e _ h λw k U=>⟨_,_,_,_,_,_,rfl,U⟩
theorem nW {V:OA->Nat->WP}{b b1:Nat}{p:PS}{M:List ai}{l:Ln}(i:Nat)(hi:i<newsF.length)(h:Sat σ w (p.at b::M++(l.at b1::L)))(hd: ∀j (I:j<newsF.length),j<i->AL b p M l newsF[j])(U: ∀w nb e (E:Ending->World->Prop),Sat σ w (p.at b::M++(l.at b1::(nb,cel newsC e)::L))->
  (∀w g,Sat σ w (l.at b1::g)->(∀w,Sat σ w g->R (hQ (.tuple #[])) w)->E (hQ (.tuple #[Ln.zero.val,hV true])) w)->callE P newsF[i] #[kT (kE b),l.val] E w):
 aj.bl102 R V (kE b) b1 w:=by
 have a7:i<8:=hi
 refine xZ h λw nb e h=>⟨_,_,_,rfl,?_⟩
 intro Y H
 have h:Sat σ w (p.at b::M++(l.at b1::(nb,cel newsC e)::L)):=h.re
 refine oI H i 0 w (by omega) (by omega) (λj I _ O=>hd j I O) h λw h=>?_
 refine H _ _ _ _ _ _ _ _ (ag (by simp;omega) ⟨by omega,by omega,?_⟩)
 have a6:=lI0 hi
 refine aa ?_
 simp only[lK0,lN0,lC0,lC1]
 have h:Sat σ w (l.at b1::(nb,cel newsC e)::(p.at b::(M++L))):=h.re
 refine⟨_,Sat.ld h (.tail _ (.head _)) (rZ a6),?_⟩
 refine⟨_,Sat.ld h (.head _) rfl,_,Sat.ld h (.head _) rfl,_,Sat.ld h (.head _) rfl,_,Sat.ld h (.head _) rfl,_,Sat.ld h (.head _) rfl,?_⟩
 have h:Sat σ w (p.at b::M++(l.at b1::(nb,cel newsC e)::L)):=h.re
 refine gN ?_
 refine U w nb e _ h λw g h W=>⟨_,_,_,_,_,_,rfl,?_⟩
 refine Sat.bx h λy w h=>?_
 refine h.stA 0 λw h=>?_
 refine h.stA 0 λw h=>?_
 refine h.stA 0 λw h=>?_
 refine h.stA 0 λw h=>?_
 refine h.stA 0 λw h=>?_
 have h:Sat σ w (Ln.zero.at y::l.at b1::g):=h
 refine ag rfl ?_
 refine⟨_,h.ldA,?_⟩
 refine⟨_,h.ldA,?_⟩
 refine⟨_,h.ldA,?_⟩
 refine⟨_,h.ldA,?_⟩
 refine⟨_,h.ldA,?_⟩
 refine h.stA 1 λw h=>?_
 refine h.stA 1 λw h=>?_
 refine h.stA 1 λw h=>?_
 refine h.stA 1 λw h=>?_
 refine h.stA 1 λw h=>?_
 have h:Sat σ w (Ln.zero.at y::Ln.zero.at b1::g):=h
 refine dC (l:=Ln.zero) h (.tail _ (.head _)) ⟨by decide,by decide,by decide,by decide⟩ λw h=>⟨_,rfl,?_⟩
 exact ag rfl (W _ h.tail.tail)
def Ln.rest (l:Ln):List UInt8:=(l.text.drop l.i).dropWhile cM
theorem ut {b nb:Nat}{l:Ln}{v:Int}{e:TypeId}(h:Sat σ w (l.at b::(nb,cel [hY v] e)::L))(g:l.ok)(y:(l.lead 3 false).peek≠45)(E:(l.lead 3 false).peek≠61)(H: ∀w,Sat σ w (l.at b::(nb,cel [hY v] e)::L)->R (hQ (hV false)) w):callE P fk #[kT (kE b),kT (kE nb)] R w:=by
 refine cP.sound ?_
 repeat (first|refine aa ?_|refine h.tk λw h=>?_|refine⟨_,h.ldA,?_⟩|refine⟨_,_,_,h.ldA,?_⟩|refine h.stA 0 λw h=>?_|refine h.stA 1 λw h=>?_|refine h.stA 2 λw h=>?_|refine h.stA 3 λw h=>?_|refine h.stA 4 λw h=>?_|refine h.stA 5 λw h=>?_|refine h.stA 6 λw h=>?_|refine h.bx λb0 w h=>?_)
 have h:Sat σ _ (l.at b0::l.at b::(nb,cel [hY v] e)::L):=h
 refine lead_ok (max:=3) h g (by decide) λw h=>⟨_,rfl,?_⟩
 refine lU h (by first|assumption|(repeat (first|exact .head _|apply List.Mem.tail))) (Ln.lead_ok g) λw h=>⟨_,rfl,?_⟩
 rw[u8b _ 45 45 rfl,u8b _ 61 61 rfl]
 exact ae (by simp[y,E]) (H _ h.tail)
theorem u9 {t u e:TypeId}{i j:TypeInfo}{H:Array (String × TypeId)}(I:P.underlying t=some (.interface H))(hi:P.info? u=some i)(hc:i.comparable=true)(U:P.underlying u=some (.pointer e))(O:P.info? e=some j)(hs:j.size≠0)(b:Nat)(x V:Operand)(w:World):
 (do eqGuard .eql t x V (.iface u (kT (kE b))) (.iface u (kT (kE b)));binOp .eql t (.iface u (kT (kE b))) (.iface u (kT (kE b)))).run P w= .ok (hV true) w:=by
 refine w0 rfl rfl ?_
 have g: ∀d,(Op.equalIn (d+1) u (kT (kE b)) (kT (kE b))).run P w= .ok true w:=λd=>by
  simp[Op.equalIn,run_underlying U,sizeOf,typeInfo,O,hs,sameAddr]
 have E: ∀d,(Op.equalIn (d+2) t (.iface u (kT (kE b))) (.iface u (kT (kE b)))).run P w= .ok true w:=λd=>by
  rw[Op.equalIn]
  simp[run_underlying I,typeInfo,hi,hc,g]
 exact E 9998
theorem qW (b:Nat)(x g:Operand)(w:World):
 (do eqGuard .eql bP x g (.iface ar (kT (kE b))) (.iface ar (kT (kE b)));binOp .eql bP (.iface ar (kT (kE b))) (.iface ar (kT (kE b)))).run P w= .ok (hV true) w:=
 u9 tB (i:=(P.info? ar).getD default) (j:=(P.info? aL).getD default) (by kernel_rfl) (by kernel_rfl) kA (by kernel_rfl) (by rw[show ((P.info? aL).getD default).size=2 by kernel_rfl];decide) b x g w
structure Ln.cont (l:Ln):Prop where
 plain:l.plain
 lt:(l.lead 3 false).peek≠60
 dash:(l.lead 3 false).peek≠45
 eq:(l.lead 3 false).peek≠61

theorem vm {t:TypeId}{k:IntKind}(g:P.underlying t=some (.int k)){cs y:Array Value}{i:Nat}{a b:Int}(hv:cs[i]? =some (.int k a))(E:y[i]? =some (.int k b)): ∃u v r,(part t cs i).run P w= .ok u w/\(part t y i).run P w= .ok v w/\(Op.equalIn 9999 t u v).run P w= .ok r w:=
 ⟨_,_,_,jB g (λ_ h=>by cases h) (λ_ _ h=>by cases h) hv w,jB g (λ_ h=>by cases h) (λ_ _ h=>by cases h) E w,run_equalIn_int w 9998 t k k a b g⟩
theorem FS {cs g:Array Value}{i:Nat}{a b:ByteArray}(hv:cs[i]? =some (hX a))(y:g[i]? =some (hX b)): ∃u v r,(part aq cs i).run P w= .ok u w/\(part aq g i).run P w= .ok v w/\(Op.equalIn 9999 aq u v).run P w= .ok r w:=
 ⟨_,_,_,jB mw (λ_ h=>by cases h) (λ_ _ h=>by cases h) hv w,jB mw (λ_ h=>by cases h) (λ_ _ h=>by cases h) y w,run_equalIn_string w 9998 aq a b mw⟩

structure TF where
 q:Option Addr
 n:Nat
 c:Nat
 vs:List Value
 RM:List ai
 KM:List ai
 KM':List ai
 f:List UInt8->List UInt8
def fill (x:TX)(t:TF):List ai:=fu x.t x.s x.e t.q t.n t.c x.raw::(t.RM++t.KM)
def iP (R:EP)(b4:OA)(b3:Value)(w:World):Prop:=
 aA b4 λa1=>
 ∃a7,w.cell? a1=some (kT a7)/\
 aA a7 λa3=>
 stV w ((a3.add 3).add 0) (kT none) λb8=>
 tk b8 λE=>
 aA b4 λg=>
 ∃b5,E.cell? (g.add 1)=some (hY b5)/\
 cY P (callMethod b3 "pub-paratext/pub/rscmarkdown.pos" #[]) (λe y=> ∃I O,e= hQ (.agg #[hY I,hY O])/\
 SameC E y (g.add 1) 1/\
 cY P (callMethod b3 "pub-paratext/pub/rscmarkdown.blocks" #[]) (λe W=> ∃V H U,e= hQ (hT V H U)/\
 SameC y W (g.add 1) 1/\
 box W #[hY I,hY O,hT V H U,hY b5] mH λb7 b6=>
 R (hQ (.iface fI (kT (kE b7)))) b6) y) E
theorem iP.sound {R x0 x1 w}(h:iP R x0 x1 w):callE P iF #[kT x0,x1] R w:=
 aH [(11,.dr (rpN [0,6,12,15,18,22,5,11,24,29,30,33]))] Tryz.func438 Tryz.call438 h
def gX (R:EP)(a7:OA)(O:Value)(w:World):Prop:=
 cY P (callMethod O "pub-paratext/pub/rscmarkdown.pos" #[]) (λe a6=> ∃g y,e= hQ (.agg #[hY g,hY y])/\
 cY P (callMethod O "pub-paratext/pub/rscmarkdown.blocks" #[]) (λe U=> ∃H E I,e= hQ (hT H E I)/\
 box U #[hY g,hY y,hT H E I] yR λV W=>
 R (hQ (.iface j2 (kT (kE V)))) W) a6) w
theorem gX.sound {R x0 x1 w}(h:gX R x0 x1 w):callE P gR #[kT x0,x1] R w:=
 cD Tryz.func434 Tryz.call434 h
namespace aV
def k3 (R:EP)(H:OA)(b9:Value)(E:Nat)(w:World):Prop:=
 tk w λg=>
 aA H λb5=>
 aA H λb4=>
 aA H λa7=>
 ∃b6,g.cell? (hZ E 0)=some (hY b6)/\
 ∃a6,g.cell? (hZ E 1)=some (hY a6)/\
 ∃b3,g.cell? b5=some (.int .i32 b3)/\
 ∃V,g.cell? (b4.add 1)=some (hY V)/\
 ∃W,g.cell? (a7.add 2)=some (hV W)/\
 cY P (callMethod b9 "pub-paratext/pub/rscmarkdown.blocks" #[]) (λe y=> ∃O U I,e= hQ (hT O U I)/\
 SameC g y (a7.add 2) 1/\
 SameC g y (b4.add 1) 1/\
 SameC g y (b5) 1/\
 SameC g y (hZ E 0) 2/\
 box y #[hY b6,hY a6,.int .i32 b3,hY V,hV W,hT O U I] ul λb7 b8=>
 R (hQ (.iface dl (kT (kE b7)))) b8) g
def bl4 (R:EP)(Xa:OA->Value->Nat->OA->Nat->Nat->Int->Int->WP)(c5:OA->Value->Nat->OA->OA->Nat->Nat->Int->Int->OA->Nat->Nat->Int->Int->WP)(b4:OA)(b6:Value)(b5:Nat)(a6 E:OA)(H I:Nat)(U W:Int)(y:OA)(O b7:Nat)(V g:Int)(w:World):Prop:=
 br (decide (g<V))
 (0<=g/\g<(O:Int)/\
 aA y λd2=>
 ∃(c4:Value),w.cell? (d2.add (Int.toNat g*1))=some c4/\
 ∃b8 b9 b3,(Instr.typeAssert c4 aO bB true).run P w= .ok (.tuple #[kT b8,hV b9]) b3/\
 br b9
 (tk b3 λa7=>
 aA a6 λd0=>
 aA b8 λc9=>
 ∃c2 c1 c8,a7.cell? (d0.add 2)=some (hT c2 c1 c8)/\
 ∃c3,a7.cell? (c9.add 2)=some (kT c3)/\
 0<=g/\g<(c1:Int)/\
 aA c2 λd1=>
 stV a7 ((d1.add (Int.toNat g*1)).add 0) (.iface dU (kT c3)) λd3=>
 c5 b4 b6 b5 a6 E H I U W y O b7 V (i64.wrap (g+1)) d3)
 (c5 b4 b6 b5 a6 E H I U W y O b7 V (i64.wrap (g+1)) b3))
 (Xa b4 b6 b5 E H I U (i64.wrap (W+1)) w)
def l4 (R:EP)(Xa:OA->Value->Nat->OA->Nat->Nat->Int->Int->WP)(b5:OA)(b4:Value)(b3:Nat)(a7 H:OA)(E O:Nat)(W U:Int)(y:OA)(I g:Nat)(a6 V:Int)(w:World):Prop:=
 ∀X:OA->Value->Nat->OA->OA->Nat->Nat->Int->Int->OA->Nat->Nat->Int->Int->WP,(∀b5 b4 b3 a7 H E O W U y I g a6 V w,bl4 R Xa X b5 b4 b3 a7 H E O W U y I g a6 V w->X b5 b4 b3 a7 H E O W U y I g a6 V w)->X b5 b4 b3 a7 H E O W U y I g a6 V w
def bl2 (R:EP)(Xa:OA->Value->Nat->OA->Nat->Nat->Int->Int->WP)(b4:OA)(b3:Value)(a7:Nat)(O:OA)(I b5:Nat)(W g:Int)(w:World):Prop:=
 br (decide (g<W))
 (0<=g/\g<(I:Int)/\
 aA O λb7=>
 ∃(a6:Value),w.cell? (b7.add (Int.toNat g*1))=some a6/\
 ∃E H,(Instr.typeAssert a6 aO fI false).run P w= .ok (kT E) H/\
 aA E λb6=>
 ∃U y V,H.cell? (b6.add 2)=some (hT U y V)/\
 l4 R Xa b4 b3 a7 E O I b5 W g U y V (y:Int) 0 H)
 (k3 R b4 b3 a7 w)
def l2 (R:EP)(V:OA)(U:Value)(O:Nat)(y:OA)(g E:Nat)(I H:Int)(w:World):Prop:=
 ∀X:OA->Value->Nat->OA->Nat->Nat->Int->Int->WP,(∀V U O y g E I H w,bl2 R X V U O y g E I H w->X V U O y g E I H w)->X V U O y g E I H w
def k1 (R:EP)(g:OA)(I:Value)(V:OA)(y U H:Nat)(w:World):Prop:=
 aA g λO=>
 ∃E,w.cell? (O.add 2)=some (hV E)/\
 br (!E)
 (l2 R g I H V y U (y:Int) 0 w)
 (k3 R g I H w)
def bl3 (R:EP)(e7:OA->Value->OA->Nat->Nat->Nat->OA->Nat->Nat->Int->Int->WP)(d1:OA->Value->OA->Nat->Nat->Nat->OA->OA->Nat->Nat->Int->Int->OA->Nat->Nat->Int->Int->WP)(E:OA)(W:Value)(I:OA)(O H V:Nat)(U b4:OA)(b3 b5:Nat)(b6 b7:Int)(a6:OA)(a7 c3:Nat)(b8 g:Int)(w:World):Prop:=
 br (decide (g<b8))
 (0<=g/\g<(a7:Int)/\
 aA a6 λe2=>
 ∃(c8:Value),w.cell? (e2.add (Int.toNat g*1))=some c8/\
 cY P (callMethod c8 "Pos" #[]) (λe y=> ∃d3 b9,e= hQ (.agg #[hY d3,hY b9])/\
 aA U λe1=>
 ∃d5 c4 e0,y.cell? (e1.add 2)=some (hT d5 c4 e0)/\
 br (decide ((i64.wrap (g+1))<(c4:Int)))
 (aA U λe6=>
 ∃c2 c5 d4,y.cell? (e6.add 2)=some (hT c2 c5 d4)/\
 0<=(i64.wrap (g+1))/\(i64.wrap (g+1))<(c5:Int)/\
 aA c2 λe4=>
 ∃(d0:Value),y.cell? (e4.add (Int.toNat (i64.wrap (g+1))*1))=some d0/\
 cY P (callMethod d0 "Pos" #[]) (λe c9=> ∃c1 d2,e= hQ (.agg #[hY c1,hY d2])/\
 br (decide ((i64.wrap (c1 - b9))>1))
 (aA E λe5=>
 stV c9 ((e5.add 2).add 0) (hV true) λe3=>
 k1 R E W I O H V e3)
 (d1 E W I O H V U b4 b3 b5 b6 b7 a6 a7 c3 b8 (i64.wrap (g+1)) c9)) y)
 (d1 E W I O H V U b4 b3 b5 b6 b7 a6 a7 c3 b8 (i64.wrap (g+1)) y)) w)
 (e7 E W I O H V b4 b3 b5 b6 (i64.wrap (b7+1)) w)
def l3 (R:EP)(b9:OA->Value->OA->Nat->Nat->Nat->OA->Nat->Nat->Int->Int->WP)(b8:OA)(b7:Value)(b4:OA)(U a6 b6:Nat)(b5 E:OA)(O H:Nat)(V W:Int)(g:OA)(y I:Nat)(b3 a7:Int)(w:World):Prop:=
 ∀X:OA->Value->OA->Nat->Nat->Nat->OA->OA->Nat->Nat->Int->Int->OA->Nat->Nat->Int->Int->WP,(∀b8 b7 b4 U a6 b6 b5 E O H V W g y I b3 a7 w,bl3 R b9 X b8 b7 b4 U a6 b6 b5 E O H V W g y I b3 a7 w->X b8 b7 b4 U a6 b6 b5 E O H V W g y I b3 a7 w)->X b8 b7 b4 U a6 b6 b5 E O H V W g y I b3 a7 w
def k2 (R:EP)(b8:OA->Value->OA->Nat->Nat->Nat->OA->Nat->Nat->Int->Int->WP)(b7:OA)(b6:Value)(b4:OA)(V b3 b5:Nat)(H I:OA)(U O:Nat)(W a7:Int)(w:World):Prop:=
 aA H λa6=>
 ∃E g y,w.cell? (a6.add 2)=some (hT E g y)/\
 l3 R b8 b7 b6 b4 V b3 b5 H I U O W a7 E g y (g:Int) 0 w
def bl1 (R:EP)(c3:OA->Value->OA->Nat->Nat->Nat->OA->Nat->Nat->Int->Int->WP)(H:OA)(W:Value)(E:OA)(y I V:Nat)(a7:OA)(a6 b7:Nat)(b4 g:Int)(w:World):Prop:=
 br (decide (g<b4))
 (0<=g/\g<(a6:Int)/\
 aA a7 λa14=>
 ∃(b8:Value),w.cell? (a14.add (Int.toNat g*1))=some b8/\
 ∃O b3,(Instr.typeAssert b8 aO fI false).run P w= .ok (kT O) b3/\
 br (decide ((i64.wrap (g+1))<(y:Int)))
 (tk b3 λU=>
 0<=(i64.wrap (g+1))/\(i64.wrap (g+1))<(y:Int)/\
 aA E λc9=>
 aA O λc2=>
 ∃(b9:Value),U.cell? (c9.add (Int.toNat (i64.wrap (g+1))*1))=some b9/\
 ∃c1,U.cell? (c2.add 1)=some (hY c1)/\
 cY P (callMethod b9 "Pos" #[]) (λe b5=> ∃b6 c4,e= hQ (.agg #[hY b6,hY c4])/\
 SameC U b5 (c2.add 1) 1/\
 br (decide ((i64.wrap (b6 - c1))>1))
 (aA H λc5=>
 stV b5 ((c5.add 2).add 0) (hV true) λc8=>
 k1 R H W E y I V c8)
 (k2 R c3 H W E y I V O a7 a6 b7 b4 g b5)) U)
 (k2 R c3 H W E y I V O a7 a6 b7 b4 g b3))
 (k1 R H W E y I V w)
def l1 (R:EP)(a7:OA)(a6:Value)(V:OA)(H U W:Nat)(g:OA)(E y:Nat)(I O:Int)(w:World):Prop:=
 ∀X:OA->Value->OA->Nat->Nat->Nat->OA->Nat->Nat->Int->Int->WP,(∀a7 a6 V H U W g E y I O w,bl1 R X a7 a6 V H U W g E y I O w->X a7 a6 V H U W g E y I O w)->X a7 a6 V H U W g E y I O w
end aV
def aV (R:EP)(b9:OA)(I:Value)(w:World):Prop:=
 cY P (callMethod I "pub-paratext/pub/rscmarkdown.blocks" #[]) (λe c1=> ∃y g H,e= hQ (hT y g H)/\
 cY P (callMethod I "pub-paratext/pub/rscmarkdown.pos" #[]) (λe b7=> ∃U V,e= hQ (.agg #[hY U,hY V])/\
 box b7 #[hY 0,hY 0] aF λE b8=>
 stV b8 (hZ E 0) (hY U) λb6=>
 stV b6 (hZ E 1) (hY V) λa6=>
 0<=(i64.wrap ((g:Int) - 1))/\(i64.wrap ((g:Int) - 1))<(g:Int)/\
 aA y λa9=>
 ∃(W:Value),a6.cell? (a9.add (Int.toNat (i64.wrap ((g:Int) - 1))*1))=some W/\
 cY P (callMethod W "Pos" #[]) (λe b3=> ∃a7 O,e= hQ (.agg #[hY a7,hY O])/\
 stV b3 (hZ E 1) (hY O) λb4=>
 aV.l1 R b9 I y g H E y g H (g:Int) 0 b4) a6) c1) w
theorem aV.sound {R x0 x1 w}(h:aV R x0 x1 w):callE P iB #[kT x0,x1] R w:=
 aH [(701,.lp [2,25,103,126,663,687,707] (aV.bl1 R) λg=> [(1203,.dr (rpN [0,3,6,9,21,24,27,30,13,34,17,18,36,39])),(243,.mk [2,25,103,126,182,663,687,707] (aV.k2 R g)),(755,.lp [2,25,103,126,182,663,687,707,1343,1367,1387] (aV.bl3 R g) λy=> [])]),(253,.mk [2,25,103,126] (aV.k1 R)),(5501,.lp [2,25,126,2163,2187,2207] (aV.bl2 R) λXa=> [(371,.lp [2,25,126,302,2163,2187,2207,2383,2407,2427] (aV.bl4 R Xa) λE=> [(371,.dr (rpN [0,3,6,12,15,18,21,10,25,27,30,35]))])]),(509,.mk [2,25,126] (aV.k3 R)),(765,.dr (rpN [3,6,9,15,18,21,27,30,33,39,1,13,25,37,44,45,50,51,54]))] Tryz.func436 Tryz.call436 h
namespace gu
def bl1 (R:EP)(Xa:OA->Nat->Nat->Int->Int->WP)(b7:OA)(b8 c9:Nat)(b5 y:Int)(w:World):Prop:=
 br (decide (y<b5))
 (0<=y/\y<(b8:Int)/\
 aA b7 λa3=>
 ∃(b9:Value),w.cell? (a3.add (Int.toNat y*1))=some b9/\
 ∃I g,(Instr.typeAssert b9 aO fI false).run P w= .ok (kT I) g/\
 aA I λd0=>
 ∃c8 b6 c5,g.cell? (d0.add 2)=some (hT c8 b6 c5)/\
 br ((b6:Int)==0)
 (R (hQ (hV true)) g)
 (aA I λa9=>
 ∃W a6 c4,g.cell? (a9.add 2)=some (hT W a6 c4)/\
 0<=(0:Int)/\0<(a6:Int)/\
 aA W λa11=>
 ∃(E:Value),g.cell? (a11.add (Int.toNat 0*1))=some E/\
 ∃c3 U b3,(Instr.typeAssert E aO dl true).run P g= .ok (.tuple #[kT c3,hV U]) b3/\
 ∃c2 V b4,(Instr.typeAssert E aO cU true).run P b3= .ok (.tuple #[kT c2,hV V]) b4/\
 ∃c1 O H,(Instr.typeAssert E aO cJ true).run P b4= .ok (.tuple #[kT c1,hV O]) H/\
 br (U||(V||O))
 (R (hQ (hV true)) H)
 (Xa b7 b8 c9 b5 (i64.wrap (y+1)) H)))
 (R (hQ (hV false)) w)
def l1 (R:EP)(I:OA)(y g:Nat)(E H:Int)(w:World):Prop:=
 ∀X:OA->Nat->Nat->Int->Int->WP,(∀I y g E H w,bl1 R X I y g E H w->X I y g E H w)->X I y g E H w
end gu
def gu (R:EP)(H:OA)(w:World):Prop:=
 aA H λa1=>
 ∃y g E,w.cell? (a1.add 5)=some (hT y g E)/\
 gu.l1 R y g E (g:Int) 0 w
theorem gu.sound {R x0 w}(h:gu R x0 w):callE P kQ #[kT x0] R w:=
 aH [(21,.lp [183,207,227] (gu.bl1 R) λXa=> [])] Tryz.func154 Tryz.call154 h
def ll (R:EP)(W V:Int)(w:World):Prop:=
 box w #[hY W,hY V] aF λb1 a7=>
 box a7 #[hY 0,hY 0] aF λg y=>
 ∃U,y.cell? (hZ b1 0)=some (hY U)/\
 ∃I,y.cell? (hZ b1 1)=some (hY I)/\
 stV y (hZ g 0) (hY U) λa6=>
 stV a6 (hZ g 1) (hY I) λE=>
 ∃O,E.cell? (hZ g 0)=some (hY O)/\
 ∃H,E.cell? (hZ g 1)=some (hY H)/\
 R (hQ (.agg #[hY O,hY H])) E
theorem ll.sound {R x0_0 x0_1 w}(h:ll R x0_0 x0_1 w):callE P cA #[.agg #[hY x0_0,hY x0_1]] R w:=
 cD Tryz.func305 Tryz.call305 h

def kJ (P:Program)(t:TypeId)(H:String)(f:FuncId):Bool:=
 match P.info? t with
 |some i=>match i.methods.find? (·.name==H) with
  |some m=>match m.path.toList with
   | [s]=>s.deref && (match P.underlying s.struct with
    |some (.struct E)=>match E[s.index]? with
     |some y=>Nat.beq y.offset 0 && (match P.info? y.type with
      |some I=>Nat.beq I.size 2 && (match P.underlying y.type with
       |some (.struct _)=>(match m.func with|some (g,false)=>Nat.beq g f|_=>false)
       |_=>false)
      |none=>false)
     |none=>false
    |_=>false)
   |_=>false
  |none=>false
 |none=>false
theorem zX {P:Program}{t:TypeId}{U:String}{f:FuncId}(h:kJ P t U f=true)(b:Nat)(V:Nat)(w:World){x H:Value}(c1:w.cell? (hZ b 0)=some x)(b9:w.cell? (hZ b 1)=some H):
 (Go.method (V+1) t (kT (kE b)) U).run P w= .ok (f,.agg #[x,H]) w:=by
 have a7:(loadCells (hZ b 0) 2).run P w= .ok #[x,H] w:=by
  refine run_loadCells_list (P:=P) (w:=w) (hZ b 0) [x,H] ?_
  intro j v E
  match j,E with
  |0,E=>cases E;simpa[Addr.add] using c1
  |1,E=>cases E;simpa[Addr.add] using b9
 unfold kJ at h
 split at h
 ·rename_i i hi
  split at h
  ·rename_i m b5
   split at h
   ·rename_i s b8
    simp only[lM1] at h
    obtain⟨hd,h⟩:=h
    split at h
    ·rename_i c2 b7
     split at h
     ·rename_i c4 b4
      simp only[lM1] at h
      obtain⟨O,h⟩:=h
      have O:=lJ1 O
      split at h
      ·rename_i c3 b3
       simp only[lM1] at h
       obtain⟨I,h⟩:=h
       have I:=lJ1 I
       split at h
       ·rename_i fs W
        split at h
        ·rename_i g b6
         have a6:=lJ1 h
         subst a6
         simp[Go.method,typeInfo,hi,b5,b8,Go.follow,run_underlying b7,b4,hd,Go.Place.get,asAddr,Go.fieldPlace,sizeOf,b3,I,O,b6,Go.receiverAt,run_underlying W,lK0,loadVar,isAgg,a7]
        ·cases h
       ·cases h
      ·cases h
     ·cases h
    ·cases h
   ·cases h
  ·cases h
 ·cases h
theorem yz {t:TypeId}{E:String}{f:FuncId}{b:Nat}{g:Array Value}{x H:Value}(V:kJ P t E f=true)(O:w.cell? (hZ b 0)=some x)(I:w.cell? (hZ b 1)=some H)(h:callE P f (#[.agg #[x,H]]++g) R w):
 cY P (callMethod (.iface t (kT (kE b))) E g) R w:=by
 obtain⟨n,U⟩:=ua P
 have hr:=zX V b n w O I
 have e:(callMethod (.iface t (kT (kE b))) E g).run P w=(callFunc f (#[.agg #[x,H]]++g)).run P w:=by
  simp only[callMethod,lX0,run_program,lJ0,U,hr]
 unfold cY
 rw[e]
 exact h.imp (λh=>⟨f,_,w,h.1 _ _,h.2⟩) id
theorem xR {s e:Int}(h:Sat σ w L)(g: ∀w,Sat σ w L->R (hQ (.agg #[hY s,hY e])) w):callE P cA #[.agg #[hY s,hY e]] R w:=by
 refine ll.sound ?_
 refine Sat.bx h λb1 w h=>?_
 refine Sat.bx h λy w h=>?_
 repeat (first|refine aa ?_|refine h.tk λw h=>?_|refine⟨_,h.ldA,?_⟩|refine⟨_,_,_,h.ldA,?_⟩|refine h.stA 0 λw h=>?_|refine h.stA 1 λw h=>?_|refine h.stA 2 λw h=>?_|refine h.stA 3 λw h=>?_|refine h.stA 4 λw h=>?_|refine h.stA 5 λw h=>?_|refine h.stA 6 λw h=>?_|refine h.bx λb0 w h=>?_)
 exact g _ h.tail.tail
theorem o9:kJ P bB "Pos" cA=true:=by kernel_rfl
theorem y8:kJ P fI "Pos" cA=true:=by kernel_rfl
theorem y7:kJ P dl "Pos" cA=true:=by kernel_rfl
theorem vV:kJ P j2 "Pos" cA=true:=by kernel_rfl
theorem pa:kJ P cJ "Pos" cA=true:=by kernel_rfl
def DB.posIs (d:DB)(s e:Nat):Prop:=
 ∀(σ:Out) (R:Ending->World->Prop) (L:List ai) (w:World),(∀c∈d.own,c∈L)->Sat σ w L->(∀w,Sat σ w L->R (hQ (.agg #[hY s,hY e])) w)->cY P (callMethod d.v "Pos" #[]) R w
theorem jT {t:TypeId}{b s e:Nat}{cs:List Value}{ty:TypeId}{d:DB}(H:kJ P t "Pos" cA=true) (hv:d.v= .iface t (kT (kE b))) (E:(b,cel (hY s:: hY e::cs) ty)∈d.own):d.posIs s e:=by
 intro σ R L w y h I
 rw[hv]
 have g:=y _ E
 exact yz H (Sat.ld h g (i:=0) rfl) (Sat.ld h g (i:=1) rfl) (xR h I)
def dt (R:EP)(c9 b9:Nat)(d0 E:Nat)(w:World):Prop:=
 box w #[hY 0,hY 0,hY 0,hX (hP #[]),.int .u8 0] aW λb1 I=>
 ∃b8,I.cell? (hZ c9 0)=some (kT b8)/\
 ∃c2,I.cell? (hZ b9 0)=some (kT c2)/\
 callE P bR #[kT b8,.iface bu (kT c2)] (λe H=>e= hQ (.tuple #[])/\
 ∃c1,H.cell? (hZ d0 0)=some (kT c1)/\
 ∃b7,H.cell? (hZ b9 0)=some (kT b7)/\
 aA c1 λa9=>
 stV H ((a9.add 3).add 0) (kT b7) λg=>
 ∃b5,g.cell? (hZ E 0)=some (hY b5)/\
 ∃b4,g.cell? (hZ E 1)=some (hY b4)/\
 ∃W,g.cell? (hZ E 2)=some (hY W)/\
 ∃U,g.cell? (hZ E 3)=some (hX U)/\
 ∃O,g.cell? (hZ E 4)=some (.int .u8 O)/\
 stV g (hZ b1 0) (hY b5) λc3=>
 stV c3 (hZ b1 1) (hY b4) λc4=>
 stV c4 (hZ b1 2) (hY W) λc8=>
 stV c8 (hZ b1 3) (hX U) λc5=>
 stV c5 (hZ b1 4) (.int .u8 O) λy=>
 ∃V,y.cell? (hZ b1 0)=some (hY V)/\
 ∃a6,y.cell? (hZ b1 1)=some (hY a6)/\
 ∃a7,y.cell? (hZ b1 2)=some (hY a7)/\
 ∃b3,y.cell? (hZ b1 3)=some (hX b3)/\
 ∃b6,y.cell? (hZ b1 4)=some (.int .u8 b6)/\
 R (hQ (.agg #[hY V,hY a6,hY a7,hX b3,.int .u8 b6])) y) I
theorem dt.sound {R x0 x1 x2 x3 w}(h:dt R x0 x1 x2 x3 w):callE P eh #[kT (kE x0),kT (kE x1),kT (kE x2),kT (kE x3)] R w:=
 cD Tryz.func244 Tryz.call244 h

theorem jt {I:OA->Nat->WP}{b b1:Nat}{p:PS}{M:List ai}{l l2:Ln}(i:Nat)(hi:i<newsF.length)(h:Sat σ w (p.at b::M++(l.at b1::L)))(hd: ∀j (O:j<newsF.length),j<i->AL b p M l newsF[j])(V:l2.ok)(U:l2.blank=false)(a7: ∀w nb e (E:Ending->World->Prop),Sat σ w (p.at b::M++(l.at b1::(nb,cel newsC e)::L))->
  (∀w g (p2:PS),p2.depth<1000000/\0<=p2.depth->Sat σ w (l.at b1::p2.at b::g)->(∀w,Sat σ w (l2.at b1::({p2 with depth:=p2.depth+1}:PS).at b::g)->I (kE b) b1 w)->E (hQ (.tuple #[l2.val,hV true])) w)->callE P newsF[i] #[kT (kE b),l.val] E w):
 aj.bl102 R I (kE b) b1 w:=by
 have b5:i<8:=hi
 refine xZ h λw nb e h=>⟨_,_,_,rfl,?_⟩
 intro Y H
 have h:Sat σ w (p.at b::M++(l.at b1::(nb,cel newsC e)::L)):=h.re
 refine oI H i 0 w (by omega) (by omega) (λj O _ W=>hd j O W) h λw h=>?_
 refine H _ _ _ _ _ _ _ _ (ag (by simp;omega) ⟨by omega,by omega,?_⟩)
 have b3:=lI0 hi
 refine aa ?_
 simp only[lK0,lN0,lC0,lC1]
 have h:Sat σ w (l.at b1::(nb,cel newsC e)::(p.at b::(M++L))):=h.re
 refine⟨_,Sat.ld h (.tail _ (.head _)) (rZ b3),?_⟩
 refine⟨_,Sat.ld h (.head _) rfl,_,Sat.ld h (.head _) rfl,_,Sat.ld h (.head _) rfl,_,Sat.ld h (.head _) rfl,_,Sat.ld h (.head _) rfl,?_⟩
 have h:Sat σ w (p.at b::M++(l.at b1::(nb,cel newsC e)::L)):=h.re
 refine gN ?_
 refine a7 w nb e _ h λw g p2 b4 h a6=>⟨_,_,_,_,_,_,rfl,?_⟩
 refine Sat.bx h λy w h=>?_
 refine h.stA 0 λw h=>?_
 refine h.stA 0 λw h=>?_
 refine h.stA 0 λw h=>?_
 refine h.stA 0 λw h=>?_
 refine h.stA 0 λw h=>?_
 have h:Sat σ w (l2.at y::l.at b1::p2.at b::g):=h
 refine ag rfl ?_
 refine⟨_,h.ldA,?_⟩
 refine⟨_,h.ldA,?_⟩
 refine⟨_,h.ldA,?_⟩
 refine⟨_,h.ldA,?_⟩
 refine⟨_,h.ldA,?_⟩
 refine h.stA 1 λw h=>?_
 refine h.stA 1 λw h=>?_
 refine h.stA 1 λw h=>?_
 refine h.stA 1 λw h=>?_
 refine h.stA 1 λw h=>?_
 have h:Sat σ w (l2.at y::l2.at b1::p2.at b::g):=h
 refine dC h (.tail _ (.head _)) V λw h=>⟨_,rfl,?_⟩
 rw[U]
 refine ae rfl (aa ?_)
 refine⟨_,h.ldA,?_⟩
 refine aa ?_
 rw[i64_in _ (by omega)]
 refine Sat.st h (k:=2) rfl (by simp[PS.cells]) trivial rfl λw h=>?_
 have h:Sat σ w (l2.at y::l2.at b1::({p2 with depth:=p2.depth+1}:PS).at b::g):=h
 exact a6 w h.tail
def Fh (g:Nat):ai:=(g,cel [] mB)
def quoV (g:Nat):Value:= .iface gF (kT (kE g))

def Ln.bullet (l:Ln):Option (UInt8 × Nat × Ln):=
 if (l.strip 3 0).2.peek=45\/(l.strip 3 0).2.peek=42\/(l.strip 3 0).2.peek=43 then
  match ((l.strip 3 0).2.trimC (l.strip 3 0).2.peek).bind (·.trimSp 1 1 true) with
  |none=>none
  |some g=>match (g.strip 3 0).2.trimSp 1 1 true with
   |none=>some ((l.strip 3 0).2.peek,(l.strip 3 0).1+2+(g.strip 3 0).1,(g.strip 3 0).2)
   |some _=>some ((l.strip 3 0).2.peek,(l.strip 3 0).1+2,g)
 else none
theorem Ln.bullet_ok {l t:Ln}{c:UInt8}{n:Nat}(U:l.ok)(h:l.bullet=some (c,n,t)):t.ok/\n<=8/\(c=45\/c=42\/c=43):=by
 unfold Ln.bullet at h
 have O:=Ln.strip_ok 3 0 U
 split at h
 ·rename_i hc
  split at h
  ·cases h
  ·rename_i V y
   obtain⟨t1,E,H⟩:=lX5.1 y
   have g:=Ln.trimSp_ok (Ln.trimC_ok O.1 E) H
   have I:=Ln.strip_ok 3 0 g
   split at h
   ·simp only[lG1,Prod.mk.injEq] at h
    obtain⟨rfl,rfl,rfl⟩:=h
    exact⟨I.1,by omega,hc⟩
   ·simp only[lG1,Prod.mk.injEq] at h
    obtain⟨rfl,rfl,rfl⟩:=h
    exact⟨g,by omega,hc⟩
 ·cases h
theorem Bg {b:Nat}{q:Option Addr}{l t:Ln}{c:UInt8}{n:Nat}(h:Sat σ w (l.at b::L))(c9:l.ok)(hb:l.bullet=some (c,n,t))(b8: ∀w b0 b1 b2 (t':Ln),Sat σ w (t.at b0::(b1,cel [kT q] ah)::t'.at b2::l.at b::L)->am.k8 R b1 b0 (n:Nat) (c.toNat:Int) 0 w):
 callE P bO #[kT q,kT (kE b)] R w:=by
 refine am.sound ?_
 refine Sat.bx h λb1 w h=>?_
 repeat (first|refine aa ?_|refine h.tk λw h=>?_|refine⟨_,h.ldA,?_⟩|refine⟨_,_,_,h.ldA,?_⟩|refine h.stA 0 λw h=>?_|refine h.stA 1 λw h=>?_|refine h.stA 2 λw h=>?_|refine h.stA 3 λw h=>?_|refine h.stA 4 λw h=>?_|refine h.stA 5 λw h=>?_|refine h.stA 6 λw h=>?_|refine h.bx λb0 w h=>?_)
 have h:Sat σ _ (l.at b0::(b1,cel [kT q] ah)::l.at b::L):=h
 have k6: ∀(E g:Ln) (y m:Nat) b2 w,y<=100->m<=100->E.ok->g.ok->(match g.trimSp 1 1 true with|none=>some (c,y+m,g)|some _=>some (c,y,E))=some (c,n,t)->
  Sat σ w (E.at b0::(b1,cel [kT q] ah)::g.at b2::l.at b::L)->am.k6 R b1 b0 (y:Nat) (c.toNat:Int) 0 b2 (m:Nat) w:=by
  intro E g y m b2 w c2 d0 a6 I O h
  have h:Sat σ w (g.at b2::E.at b0::(b1,cel [kT q] ah)::l.at b::L):=h.re
  refine YtendaipfdnhnaaaGreatDoor.trimSp_ok (min:=1) (max:=1) h I (by decide) (by decide) ?_
  cases hs:g.trimSp 1 1 true with
  |none=>
   rw[hs] at O
   simp only[lG1,Prod.mk.injEq,true_and] at O
   obtain⟨rfl,rfl⟩:=O
   intro w h
   refine⟨_,rfl,ag rfl ?_⟩
   refine⟨_,h.ldA,?_⟩
   refine⟨_,h.ldA,?_⟩
   refine⟨_,h.ldA,?_⟩
   refine⟨_,h.ldA,?_⟩
   refine⟨_,h.ldA,?_⟩
   refine h.stA 1 λw h=>?_
   refine h.stA 1 λw h=>?_
   refine h.stA 1 λw h=>?_
   refine h.stA 1 λw h=>?_
   refine h.stA 1 λw h=>?_
   rw[show ((y:Nat):Int)+((m:Nat):Int)=((y+m:Nat):Int) by omega,i64_in _ (by omega)]
   have h:Sat σ w (g.at b2::g.at b0::(b1,cel [kT q] ah)::l.at b::L):=h
   exact b8 w b0 b1 b2 g (h.re)
  |some c8=>
   rw[hs] at O
   simp only[lG1,Prod.mk.injEq,true_and] at O
   obtain⟨rfl,rfl⟩:=O
   intro w h
   refine⟨_,rfl,ae rfl ?_⟩
   exact b8 w b0 b1 b2 c8 (h.re)
 have fin: ∀(y:Nat) (W:Ln) w,W.ok->y<=3->l.strip 3 0=(y,W)->Sat σ w (W.at b0::(b1,cel [kT q] ah)::l.at b::L)->am.k1 R b1 b0 (y:Nat) w:=by
  intro y W w b7 c2 c1 h
  unfold Ln.bullet at hb
  rw[c1] at hb
  simp only at hb
  split at hb
  case isFalse=>cases hb
  rename_i hc
  refine lU h (by first|assumption|(repeat (first|exact .head _|apply List.Mem.tail))) b7 λw h=>⟨_,rfl,?_⟩
  split at hb
  case h_1=>cases hb
  rename_i E c4
  obtain⟨t1,b5,b9⟩:=lX5.1 c4
  have ec:W.peek=c:=by
   split at hb<;>simp only[lG1,Prod.mk.injEq] at hb<;>exact hb.1
  rw[ec] at hc b5 hb⊢
  have o1:=Ln.trimC_ok b7 b5
  have a6:=Ln.trimSp_ok o1 b9
  have k2:am.k2 R b1 b0 (y:Nat) (c.toNat:Int) 0 (c.toNat:Int) true w:=by
   refine ag rfl ?_
   refine trimC_ok (c:=c) rfl h b7 ?_
   rw[b5]
   intro w h
   refine⟨_,rfl,?_⟩
   unfold am.k3
   refine YtendaipfdnhnaaaGreatDoor.trimSp_ok (min:=1) (max:=1) h o1 (by decide) (by decide) ?_
   rw[b9]
   intro w h
   refine⟨_,rfl,ae rfl ?_⟩
   refine⟨_,h.ldA,?_⟩
   refine⟨_,h.ldA,?_⟩
   refine⟨_,h.ldA,?_⟩
   refine⟨_,h.ldA,?_⟩
   refine⟨_,h.ldA,?_⟩
   refine Sat.bx h λb2 w h=>?_
   refine h.stA 0 λw h=>?_
   refine h.stA 0 λw h=>?_
   refine h.stA 0 λw h=>?_
   refine h.stA 0 λw h=>?_
   refine h.stA 0 λw h=>?_
   have h:Sat σ w (E.at b2::E.at b0::(b1,cel [kT q] ah)::l.at b::L):=h
   rw[aN (by omega),aN (by omega)]
   intro X V
   have a7: ∀k m (g:Ln) w,g.ok->k+m=3->g.strip k m=E.strip 3 0->Sat σ w (g.at b2::E.at b0::(b1,cel [kT q] ah)::l.at b::L)->X b1 b0 ((y+1+1:Nat):Int) (c.toNat:Int) 0 b2 (m:Nat) (m:Nat) w:=by
    intro k m g w I c5 H h
    induction k generalizing m g w with
    |zero=>
     have H:(m,g)=E.strip 3 0:=H
     refine V _ _ _ _ _ _ _ _ _ (ae (by simp;omega) ?_)
     rw[<-H] at hb
     exact k6 E g (y+1+1) m b2 w (by omega) (by omega) a6 I hb (h.re)
    |succ k b6=>
     refine V _ _ _ _ _ _ _ _ _ (ag (by simp;omega) ?_)
     refine YtendaipfdnhnaaaGreatDoor.trimSp_ok (min:=1) (max:=1) h I (by decide) (by decide) ?_
     simp only[Ln.strip] at H
     cases hs:g.trimSp 1 1 false with
     |none=>
      rw[hs] at H
      have H:(m,g)=E.strip 3 0:=H
      rw[<-H] at hb
      exact λw h=>⟨_,rfl,ae rfl (k6 E g (y+1+1) m b2 w (by omega) (by omega) a6 I hb (h.re))⟩
     |some t'=>
      rw[hs] at H
      intro w h
      refine⟨_,rfl,ag rfl ?_⟩
      unfold am.k5
      rw[aN (by omega)]
      exact b6 (m+1) t' w (Ln.trimSp_ok I hs) (by omega) H h
   exact a7 3 0 E w a6 rfl rfl h
  by_cases b4:c=45
  ·subst b4;exact ag rfl k2
  refine ae (ug (d:=45) rfl b4) ?_
  by_cases b3:c=42
  ·subst b3;exact ag rfl k2
  refine ae (ug (d:=42) rfl b3) ?_
  have c3:c=43:=by
   rcases hc with h|h|h
   ·exact absurd h b4
   ·exact absurd h b3
   ·exact h
  rw[show (((c.toNat:Nat):Int)==43)=true by rw[c3];rfl]
  exact k2
 intro X V
 have a7: ∀k n (t:Ln) w,t.ok->k+n=3->t.strip k n=l.strip 3 0->Sat σ w (t.at b0::(b1,cel [kT q] ah)::l.at b::L)->X b1 b0 n n w:=by
  intro k n t w ht c5 U h
  induction k generalizing n t w with
  |zero=>exact V _ _ _ _ _ (ae (by simp;omega) (fin n t w ht (by omega) U.symm h))
  |succ k b6=>
   refine V _ _ _ _ _ (ag (by simp;omega) ?_)
   refine YtendaipfdnhnaaaGreatDoor.trimSp_ok (min:=1) (max:=1) h ht (by decide) (by decide) ?_
   simp only[Ln.strip] at U
   cases hs:t.trimSp 1 1 false with
   |none=>
    rw[hs] at U
    exact λw h=>⟨_,rfl,ag rfl (fin n t w ht (by omega) U.symm h)⟩
   |some t'=>
    rw[hs] at U
    intro w h
    refine⟨_,rfl,ae rfl ?_⟩
    rw[aN (by omega)]
    exact b6 (n+1) t' w (Ln.trimSp_ok ht hs) (by omega) U h
 exact a7 3 0 l _ c9 rfl rfl h
structure pM (l:Ln) (c:UInt8) (num n:Nat) (t:Ln):Prop where
 ok:t.ok
 wd:n<=100
 run: ∀ {σ:Out} {w:World} {L:List ai} {R:Ending->World->Prop} {b:Nat} {q:Option Addr},Sat σ w (l.at b::L)->
  (∀w b0 b1 b2 (t':Ln),Sat σ w (t.at b0::(b1,cel [kT q] ah)::t'.at b2::l.at b::L)->am.k8 R b1 b0 (n:Nat) (c.toNat:Int) (num:Nat) w)->
  callE P bO #[kT q,kT (kE b)] R w
theorem Ln.marks {l t:Ln}{c:UInt8}{n:Nat}(g:l.ok)(hb:l.bullet=some (c,n,t)):pM l c 0 n t:=by
 obtain⟨ht,E,_⟩:=Ln.bullet_ok g hb
 exact⟨ht,by omega,λh y=>Bg h g hb y⟩
def xi (x:UInt8):Prop:=cM x=false/\x≠62/\x≠35
theorem zn (c:UInt8):IntKind.i32.wrap ((c.toNat:Nat):Int)=((c.toNat:Nat):Int):=by
 have:=lD2.1 (show (List.range 256).all (λn=>IntKind.i32.wrap (n:Int)==(n:Int))=true by kernel_rfl) c.toNat (lV2.2 c.toNat_lt)
 simpa using this

def cN (lb:Nat)(bul num:Int)(loose:Bool)(item:Option Addr)(g:Value):ai:=(lb,cel [.int .i32 bul,hY num,hV loose,kT item,g] fO)
def BK (lb:Nat):Value:= .iface az (kT (kE lb))
def gh (ib lb n:Nat)(hv:Bool):ai:=(ib,cel [kT (kE lb),hY n,hV hv] hU)
def CZ (ib:Nat):Value:= .iface bu (kT (kE ib))
def kz (H g y E:Nat):Value:= .func (.func eh) #[] #[kT (kE H),kT (kE g),kT (kE y),kT (kE E)]
abbrev gP (x lb:Nat):ai:=(x,cel [kT (kE lb)] az)
abbrev jh (x ib:Nat):ai:=(x,cel [kT (kE ib)] bu)
theorem pY {O E y lb n:Nat}{bul num:Int}{loose:Bool}{item:Option Addr}{td:Value}{t:Ln}(h:Sat σ w (cN lb bul num loose item td::t.at E::gP y lb::L))(ht:t.ok)(V: ∀w g ib,Sat σ w (cN lb bul num loose item (kz O g y E)::t.at E::gP y lb::jh g ib::gh ib lb n (!t.blank)::L)->R (hQ (hV true)) w):
 am.k13 R O E (n:Nat) y w:=by
 have k14: ∀w g ib,Sat σ w (cN lb bul num loose item td::t.at E::gP y lb::jh g ib::gh ib lb n (!t.blank)::L)->am.k14 R O E y g w:=by
  intro w g ib h
  refine⟨_,Sat.ld h (.tail _ (.tail _ (.head _))) (i:=0) rfl,aa ?_⟩
  refine h.stA 0 λw h=>?_
  exact V w g ib h
 have H:gP y lb∈(cN lb bul num loose item td::t.at E::gP y lb::L):= .tail _ (.tail _ (.head _))
 refine Sat.tk h λw h=>⟨kE lb,Sat.ld h H (i:=0) rfl,?_,?_⟩
 ·have U:=h
  refine dC h (.tail _ (.head _)) ht λw h=>⟨_,rfl,U.same h H H 1,?_,?_⟩
  ·refine Sat.bx h λib w h=>?_
   have I:=h
   refine Sat.bx h λg w h=>⟨I.same h (.tail _ H) (.tail _ (.tail _ H)) 1,?_⟩
   refine h.stA 0 λw h=>?_
   have h:Sat σ w (jh g ib::gh ib lb n (!t.blank)::(cN lb bul num loose item td::t.at E::gP y lb::L)):=h
   exact k14 w g ib (h.re)
  ·have I:=h
   refine Sat.bx h λg w h=>⟨I.same h H (.tail _ H) 1,?_⟩
   refine Sat.bx h λib w h=>?_
   have h:Sat σ w ((g,cel [kT none] bu)::gh ib lb n (!t.blank)::(cN lb bul num loose item td::t.at E::gP y lb::L)):=h.re (by intro _;simp only[gh,lN3,dE,eP,mg]<;>omega)
   refine h.stA 0 λw h=>?_
   have h:Sat σ w (jh g ib::gh ib lb n (!t.blank)::(cN lb bul num loose item td::t.at E::gP y lb::L)):=h
   exact k14 w g ib (h.re)
 ·have I:=h
  refine Sat.bx h λg w h=>⟨I.same h H (.tail _ H) 1,?_⟩
  have U:=h
  refine dC h (.tail _ (.tail _ (.head _))) ht λw h=>⟨_,rfl,U.same h (.tail _ H) (.tail _ H) 1,?_⟩
  refine Sat.bx h λib w h=>?_
  have h:Sat σ w ((g,cel [kT none] bu)::gh ib lb n (!t.blank)::(cN lb bul num loose item td::t.at E::gP y lb::L)):=h.re (by intro _;simp only[gh,lN3,dE,eP,mg]<;>omega)
  refine h.stA 0 λw h=>?_
  have h:Sat σ w (jh g ib::gh ib lb n (!t.blank)::(cN lb bul num loose item td::t.at E::gP y lb::L)):=h
  exact k14 w g ib (h.re)
theorem my:P.underlying az=some (.pointer fO):=by kernel_rfl
theorem EW:P.underlying ar=some (.pointer aL):=by kernel_rfl
theorem xG (w:World):(Instr.typeAssert .nilIface bP az true).run P w= .ok (.tuple #[kT none,hV false]) w:=by
 have hi:P.info? az=some ((P.info? az).getD default):=by kernel_rfl
 have hz:((P.info? az).getD default).zero=some (kT none):=by kernel_rfl
 generalize (P.info? az).getD default=i at hi hz
 simp[Instr.typeAssert,run_underlying my,zeroValue,typeInfo,hi,hz]
theorem kG (q:Option Addr)(w:World):(Instr.typeAssert (.iface az (kT q)) bP az true).run P w= .ok (.tuple #[kT q,hV true]) w:=
 ol (by rw[my];intro g h;cases h) my w
theorem zN {b b1:Nat}{p:PS}{ob:List OB}{o:OB}{M:List ai}{l t:Ln}{c:UInt8}{num n:Nat}{ty:TypeId}{v:Value}(h:Sat σ w (l.at b1::(p.at b::M++L)))(hs:Stk p (ob++ [o]) M)(hd:p.depth=ob.length)(b4:ob.length<1048570)(a7:o.bd= .iface ty v)(U:ty≠ar)(b5:l.ok)(hb:pM l c num n t)(b3: ∀w p' I lb E y g O ib,p'= {p with stq:=p'.stq,stn:=ob.length+2,stc:=p'.stc}->Stk p' (ob++ [o]++ [⟨BK lb,none,0,0,p.lineno,p.lineno⟩]) I->
  Sat σ w (l.at b1::(p'.at b::I++(cN lb c.toNat (num:Nat) false none (kz E O g y)::(E,cel [kT (kE b)] ah)::t.at y::gP g lb::jh O ib::gh ib lb n (!t.blank)::L)))->R (hQ (hV true)) w):
 callE P bO #[kT (kE b),kT (kE b1)] R w:=by
 have ht:=hb.ok
 refine hb.run h λw y E H t' h=>?_
 refine Sat.bx h λg w h=>?_
 refine⟨_,Sat.ld h (.tail _ (.tail _ (.head _))) (i:=0) rfl,?_⟩
 have h:Sat σ w (p.at b::M++((g,cel [kT none] az)::(E,cel [kT (kE b)] ah)::t.at y::t'.at H::l.at b1::L)):=h.re
 refine lV (d:=ob.length) h hs hd (by omega) λw h=>⟨_,rfl,?_⟩
 rw[lT1 (by simp)]
 refine⟨none,false,w,xG w,ae rfl ?_⟩
 have h:Sat σ w ((g,cel [kT none] az)::(E,cel [kT (kE b)] ah)::t.at y::(p.at b::M++(t'.at H::l.at b1::L))):=h.re
 refine⟨_,Sat.ld h (.head _) (i:=0) rfl,_,_,ke my _ w,ag rfl (ag rfl ?_)⟩
 refine⟨_,Sat.ld h (.head _) (i:=0) rfl,_,_,ke my _ w,ag rfl ?_⟩
 refine⟨_,Sat.ld h (.tail _ (.head _)) (i:=0) rfl,?_⟩
 have h:Sat σ w (p.at b::M++((g,cel [kT none] az)::(E,cel [kT (kE b)] ah)::t.at y::t'.at H::l.at b1::L)):=h.re
 refine qB h hs a7 (λw h=>?_) (λa6=>absurd a6 U)
 rw[if_neg U]
 refine⟨none,rfl,_,w,dN EW none w,ae rfl (ae rfl ?_)⟩
 refine Sat.bx h λlb w h=>?_
 have h:Sat σ w ((g,cel [kT none] az)::(lb,cel [.int .i32 (IntKind.i32.wrap (c.toNat:Nat)),hY (num:Nat),hV false,kT none,.nilFunc] fO)::(E,cel [kT (kE b)] ah)::t.at y::(p.at b::M++(t'.at H::l.at b1::L))):=h.re
 refine h.stA 0 λw h=>?_
 rw[zn] at h
 have h:Sat σ w (gP g lb::cN lb c.toNat (num:Nat) false none .nilFunc::(E,cel [kT (kE b)] ah)::t.at y::(p.at b::M++(t'.at H::l.at b1::L))):=h
 refine⟨_,Sat.ld h (.tail _ (.tail _ (.head _))) (i:=0) rfl,_,Sat.ld h (.head _) (i:=0) rfl,?_⟩
 have h:Sat σ w (p.at b::M++(gP g lb::cN lb c.toNat (num:Nat) false none .nilFunc::(E,cel [kT (kE b)] ah)::t.at y::(t'.at H::l.at b1::L))):=h.re
 refine oQ h hs (by simp;omega) (by simp;omega) λw p' I V W h=>⟨rfl,?_⟩
 have h:Sat σ w (cN lb c.toNat (num:Nat) false none .nilFunc::t.at y::gP g lb::(p'.at b::I++((E,cel [kT (kE b)] ah)::(t'.at H::l.at b1::L)))):=h.re
 refine pY h ht λw O ib h=>?_
 refine b3 w p' I lb E y g O ib (by rw[V];simp) W ?_
 exact h.less [t'.at H]

theorem uI {b:Nat}{p:PS}{ob:List OB}{o:OB}{M:List ai}{l t:Ln}{c:UInt8}{num n:Nat}{ty:TypeId}{v:Value}(h:Sat σ w (p.at b::M++L))(hs:Stk p (ob++ [o]) M)(hd:p.depth=ob.length)(a6:ob.length<1048570)(U:o.bd= .iface ty v)(V:ty≠ar)(a7:ty≠az)(b6:l.ok)(hb:pM l c num n t)(b5: ∀w p' I lb H E y g ib,p'= {p with stq:=p'.stq,stn:=ob.length+2,stc:=p'.stc}->Stk p' (ob++ [o]++ [⟨BK lb,none,0,0,p.lineno,p.lineno⟩]) I->
  Sat σ w (p'.at b::I++(cN lb c.toNat (num:Nat) false none (kz H g y E)::(H,cel [kT (kE b)] ah)::t.at E::gP y lb::jh g ib::gh ib lb n (!t.blank)::L))->R (hQ (.tuple #[l.val,hV true])) w):
 callE P cq #[kT (kE b),l.val] R w:=by
 refine cO.sound ?_
 refine Sat.bx h λb1 w h=>?_
 refine Sat.bx h λO w h=>?_
 have h:Sat σ w (zLn O::l.at b1::(p.at b::M++L)):=h
 have h:Sat σ w (p.at b::M++(zLn O::l.at b1::L)):=h.re
 refine qt h hs hd λw h=>?_
 rw[ik]
 dsimp only
 refine⟨_,rfl,none,false,w,by rw[U];exact gH a7 w,ae rfl (ae rfl ?_)⟩
 have h:Sat σ w (l.at b1::(p.at b::M++(zLn O::L))):=h.re
 refine zN h hs hd a6 U V b6 hb λw p' I lb H E y g ib W b4 h=>⟨_,rfl,ag rfl ?_⟩
 have h:Sat σ w (zLn O::l.at b1::(p'.at b::I++(cN lb c.toNat (num:Nat) false none (kz H g y E)::(H,cel [kT (kE b)] ah)::t.at E::gP y lb::jh g ib::gh ib lb n (!t.blank)::L))):=h.re
 repeat (first|refine aa ?_|refine h.tk λw h=>?_|refine⟨_,h.ldA,?_⟩|refine⟨_,_,_,h.ldA,?_⟩|refine h.stA 0 λw h=>?_|refine h.stA 1 λw h=>?_|refine h.stA 2 λw h=>?_|refine h.stA 3 λw h=>?_|refine h.stA 4 λw h=>?_|refine h.stA 5 λw h=>?_|refine h.stA 6 λw h=>?_|refine h.bx λb0 w h=>?_)
 have h:Sat σ _ (l.at O::l.at b1::(p'.at b::I++(cN lb c.toNat (num:Nat) false none (kz H g y E)::(H,cel [kT (kE b)] ah)::t.at E::gP y lb::jh g ib::gh ib lb n (!t.blank)::L))):=h
 exact b5 _ p' I lb H E y g ib W b4 h.tail.tail
theorem vB:uU P mD=true:=by kernel_rfl
theorem wi {b lb E H y g ib n:Nat}{bul num:Int}{loose hv:Bool}{item:Option Addr}{p:PS}{ob:List OB}{o:OB}{M:List ai}{l t:Ln}(h:Sat σ w (p.at b::M++(cN lb bul num loose item (kz E g y H)::(E,cel [kT (kE b)] ah)::t.at H::gP y lb::jh g ib::gh ib lb n hv::L)))(hs:Stk p (ob++ [o]) M)(hd:p.depth=ob.length)(b8:ob.length<1048570)(b6:o.bd=BK lb)(b7: ∀w p' U,p'= {p with stq:=p'.stq,stn:=ob.length+2,stc:=p'.stc}->Stk p' (ob++ [o]++ [⟨CZ ib,none,0,0,p.lineno,p.lineno⟩]) U->
  Sat σ w (p'.at b::U++(cN lb bul num loose (kE ib) .nilFunc::gh ib lb n hv::L))->R (hQ (.tuple #[t.val,hV true])) w):
 callE P cq #[kT (kE b),l.val] R w:=by
 refine cO.sound ?_
 refine Sat.bx h λb1 w h=>?_
 refine Sat.bx h λI w h=>?_
 have h:Sat σ w (zLn I::l.at b1::(p.at b::M++(cN lb bul num loose item (kz E g y H)::(E,cel [kT (kE b)] ah)::t.at H::gP y lb::jh g ib::gh ib lb n hv::L))):=h
 have h:Sat σ w (p.at b::M++(zLn I::l.at b1::cN lb bul num loose item (kz E g y H)::(E,cel [kT (kE b)] ah)::t.at H::gP y lb::jh g ib::gh ib lb n hv::L)):=h.re
 refine qt h hs hd λw h=>?_
 rw[ik]
 dsimp only
 have h:Sat σ w (cN lb bul num loose item (kz E g y H)::zLn I::l.at b1::(p.at b::M++((E,cel [kT (kE b)] ah)::t.at H::gP y lb::jh g ib::gh ib lb n hv::L))):=h.re
 refine⟨_,rfl,kE lb,true,w,by rw[b6];exact kG _ w,ag rfl (aa ?_)⟩
 obtain⟨_,_,_,a6⟩:=nK vB
 refine⟨_,Sat.ld h (.head _) (i:=4) rfl,true,w,mO a6 _ _ _ w,ag rfl (aa ?_)⟩
 refine⟨_,Sat.ld h (.head _) (i:=4) rfl,?_⟩
 refine gN ?_
 refine dt.sound ?_
 refine Sat.bx h λO w h=>?_
 have h:Sat σ w (p.at b::M++(zLn O::cN lb bul num loose item (kz E g y H)::zLn I::l.at b1::(E,cel [kT (kE b)] ah)::t.at H::gP y lb::jh g ib::gh ib lb n hv::L)):=by
  have h:Sat σ w (zLn O::cN lb bul num loose item (kz E g y H)::zLn I::l.at b1::(p.at b::M++((E,cel [kT (kE b)] ah)::t.at H::gP y lb::jh g ib::gh ib lb n hv::L))):=h
  exact h.re
 have W:(E,cel [kT (kE b)] ah)∈p.at b::M++(zLn O::cN lb bul num loose item (kz E g y H)::zLn I::l.at b1::(E,cel [kT (kE b)] ah)::t.at H::gP y lb::jh g ib::gh ib lb n hv::L):=by simp
 have V:jh g ib∈p.at b::M++(zLn O::cN lb bul num loose item (kz E g y H)::zLn I::l.at b1::(E,cel [kT (kE b)] ah)::t.at H::gP y lb::jh g ib::gh ib lb n hv::L):=by simp
 refine⟨_,Sat.ld h W (i:=0) rfl,_,Sat.ld h V (i:=0) rfl,?_⟩
 refine oQ h hs (by simp;omega) (by simp;omega) λw p' U b4 a7 h=>⟨rfl,?_⟩
 have h:Sat σ w (cN lb bul num loose item (kz E g y H)::zLn O::t.at H::zLn I::l.at b1::gP y lb::jh g ib::(p'.at b::U++((E,cel [kT (kE b)] ah)::gh ib lb n hv::L))):=h.re
 refine⟨_,Sat.ld h (by simp:gP y lb∈_) (i:=0) rfl,_,Sat.ld h (by simp:jh g ib∈_) (i:=0) rfl,aa ?_⟩
 refine h.stA 0 λw h=>?_
 have h:Sat σ w (t.at H::zLn O::cN lb bul num loose (kE ib) (kz E g y H)::zLn I::l.at b1::gP y lb::jh g ib::(p'.at b::U++((E,cel [kT (kE b)] ah)::gh ib lb n hv::L))):=by
  have h:Sat σ w (cN lb bul num loose (kE ib) (kz E g y H)::zLn O::t.at H::zLn I::l.at b1::gP y lb::jh g ib::(p'.at b::U++((E,cel [kT (kE b)] ah)::gh ib lb n hv::L))):=h
  exact h.re
 refine⟨_,h.ldA,?_⟩
 refine⟨_,h.ldA,?_⟩
 refine⟨_,h.ldA,?_⟩
 refine⟨_,h.ldA,?_⟩
 refine⟨_,h.ldA,?_⟩
 refine h.stA 1 λw h=>?_
 refine h.stA 1 λw h=>?_
 refine h.stA 1 λw h=>?_
 refine h.stA 1 λw h=>?_
 refine h.stA 1 λw h=>?_
 have h:Sat σ w (t.at H::t.at O::cN lb bul num loose (kE ib) (kz E g y H)::zLn I::l.at b1::gP y lb::jh g ib::(p'.at b::U++((E,cel [kT (kE b)] ah)::gh ib lb n hv::L))):=h
 have h:Sat σ w (t.at O::l.at b1::cN lb bul num loose (kE ib) (kz E g y H)::zLn I::t.at H::gP y lb::jh g ib::(p'.at b::U++((E,cel [kT (kE b)] ah)::gh ib lb n hv::L))):=h.re
 refine⟨_,h.ldA,?_⟩
 refine⟨_,h.ldA,?_⟩
 refine⟨_,h.ldA,?_⟩
 refine⟨_,h.ldA,?_⟩
 refine⟨_,h.ldA,?_⟩
 refine⟨_,_,_,_,_,rfl,?_⟩
 refine h.stA 1 λw h=>?_
 refine h.stA 1 λw h=>?_
 refine h.stA 1 λw h=>?_
 refine h.stA 1 λw h=>?_
 refine h.stA 1 λw h=>?_
 have h:Sat σ w (t.at O::t.at b1::cN lb bul num loose (kE ib) (kz E g y H)::zLn I::t.at H::gP y lb::jh g ib::(p'.at b::U++((E,cel [kT (kE b)] ah)::gh ib lb n hv::L))):=h
 refine aa ?_
 refine Sat.st h (k:=2) rfl (by simp[cN]) trivial rfl λw h=>?_
 have h:Sat σ w (t.at b1::zLn I::cN lb bul num loose (kE ib) .nilFunc::t.at O::t.at H::gP y lb::jh g ib::(p'.at b::U++((E,cel [kT (kE b)] ah)::gh ib lb n hv::L))):=by
  have h:Sat σ w (t.at O::t.at b1::cN lb bul num loose (kE ib) .nilFunc::zLn I::t.at H::gP y lb::jh g ib::(p'.at b::U++((E,cel [kT (kE b)] ah)::gh ib lb n hv::L))):=h
  exact h.re
 refine⟨_,h.ldA,?_⟩
 refine⟨_,h.ldA,?_⟩
 refine⟨_,h.ldA,?_⟩
 refine⟨_,h.ldA,?_⟩
 refine⟨_,h.ldA,?_⟩
 refine h.stA 1 λw h=>?_
 refine h.stA 1 λw h=>?_
 refine h.stA 1 λw h=>?_
 refine h.stA 1 λw h=>?_
 refine h.stA 1 λw h=>?_
 have h:Sat σ w (t.at b1::t.at I::cN lb bul num loose (kE ib) .nilFunc::t.at O::t.at H::gP y lb::jh g ib::(p'.at b::U++((E,cel [kT (kE b)] ah)::gh ib lb n hv::L))):=h
 have h:Sat σ w (t.at I::t.at b1::cN lb bul num loose (kE ib) .nilFunc::t.at O::t.at H::gP y lb::jh g ib::(p'.at b::U++((E,cel [kT (kE b)] ah)::gh ib lb n hv::L))):=h.re
 refine⟨_,h.ldA,?_⟩
 refine⟨_,h.ldA,?_⟩
 refine⟨_,h.ldA,?_⟩
 refine⟨_,h.ldA,?_⟩
 refine⟨_,h.ldA,?_⟩
 refine b7 _ p' U (by rw[b4];simp) a7 ?_
 exact h.less [t.at I,t.at b1,t.at O,t.at H,gP y lb,jh g ib,(E,cel [kT (kE b)] ah)]

theorem Sl.loadMem {q:Option Addr}{n c j:Nat}{e:TypeId}{vs:List Value}{RM:List ai}{v:Value}{K:Addr->Prop}(H:Sl 1 e q n c vs RM)(h:Sat σ w L)(y: ∀x∈RM,x∈L)(g:vs[j]? =some v)(I: ∀b,q=kE b->w.cell? (hZ b j)=some v->K (hZ b 0)):aA q K:=by
 obtain⟨O,_,⟨rfl,rfl,_,_⟩|⟨E,sp,rfl,rfl,_⟩⟩:=H
 ·have:=(lL0.1 g).1;omega
 ·refine aa (I E rfl (h.ld (y _ (.head _)) ?_))
  rw[lM0 (lL0.1 g).1];exact g
theorem lL {b:Nat}{E:PS}{ob:List OB}{par o:OB}{M IM I:List ai}{inner:List Value}{O:TypeId}{q:Option Addr}(h:Sat σ w (E.at b::M++(IM++I)))(hs:Stk E (ob++ [par]++ [o]) M)(b7:Sl 1 aO par.q par.n par.c inner IM)(b9:par.n<1000000)(b8: ∀w p2 a6 H y g,p2= {E with stn:=ob.length+1}->Stk p2 (ob++ [{par with q:=y,n:=par.n+1,c:=g}]) a6->Sl 1 aO y (par.n+1) g (inner++ [.iface O (kT q)]) H->
  Sat σ w (p2.at b::a6++(H++I))->R (hQ (.iface O (kT q))) w):aK.k3 R (kE b) (.iface O (kT q)) w:=by
 have b6:=hs.2.2
 have U:=hs.2.1
 have V:=hs.1.2.1
 obtain⟨sb,sp,W,rfl,b3⟩:=hs.split (by simp)
 simp only[lA0,lE0] at U b6
 rw[U] at V
 unfold aK.k3
 refine h.tk λw h=>?_
 refine aa (aa ?_)
 refine⟨_,_,_,h.ldA,?_⟩
 refine⟨_,_,_,h.ldA,?_⟩
 rw[U,ki (by omega),W]
 refine⟨_,_,_,λw=>uy rowOB.ht rowOB.hi sb (ob.length+1+1) E.stc (ob.length+1) (by omega) V w,?_⟩
 refine aa ?_
 refine h.stA 0 λw h=>?_
 let p2:PS:= {E with stq:=kE sb,stn:=ob.length+1}
 have b4:p2= {E with stn:=ob.length+1}:=by simp only[p2,<-W]
 have h:Sat σ w (p2.at b:: [(sb,cel (aP (ob++ [par])++(o.cells++sp)) ay)]++(IM++I)):=by
  rw[iQ,lD0] at h
  exact h
 refine aa ?_
 refine⟨_,_,_,h.ldA,?_⟩
 refine ag (by simp[p2]) ?_
 refine h.tk λw h=>?_
 refine aa (aa ?_)
 refine⟨_,_,_,h.ldA,?_⟩
 refine⟨_,_,_,h.ldA,?_⟩
 rw[show p2.stn=ob.length+1 from rfl,ki (by omega),show p2.stq=kE sb from rfl]
 refine⟨by omega,by omega,aa ?_⟩
 simp only[lK0,lN0,lC0,lL1]
 refine⟨_,_,_,Sat.ld h (.tail _ (.head _)) (fg (f:=1) (by decide) (ik par)),?_⟩
 have h:Sat σ _ (IM++(p2.at b::(sb,cel (aP (ob++ [par])++(o.cells++sp)) ay)::I)):=h.re
 refine Sat.app1 rowBlock b7 h (v:= .iface O (kT q)) rfl (by simp[Value.cells,Value.oneCell']) (by kernel_rfl) (by omega) (by omega) (by decide) λy g w H b5 h=>?_
 have h:Sat σ _ (p2.at b::(sb,cel (aP (ob++ [par])++(o.cells++sp)) ay)::(H++I)):=h.re
 refine Sat.st h (k:=1) rfl (by rw[lA0,aR,lA0,lE0];omega) trivial rfl λw h=>?_
 have e:=kW (l:=ob) (sp:=o.cells++sp) (o:=par) (o':= {par with q:=y,n:=par.n+1,c:=g}) (f:=1) (v:= hT y (par.n+1) g) (by decide) rfl
 have h:Sat σ w (p2.at b::(sb,cel (aP (ob++ [{par with q:=y,n:=par.n+1,c:=g}])++(o.cells++sp)) ay)::(H++I)):=by
  rw[<-e];exact h
 have a7:Stk p2 (ob++ [{par with q:=y,n:=par.n+1,c:=g}]) [(sb,cel (aP (ob++ [{par with q:=y,n:=par.n+1,c:=g}])++(o.cells++sp)) ay)]:=by
  refine Stk.mk' rfl ?_ (by simp[p2]) (by simp;omega)
  show _=E.stc*4
  rw[<-b3]
  simp only[lA0,aR,lE0,OB.cells,lF0,lK1]
  omega
 refine b8 w p2 _ H y g b4 a7 b5 h
theorem iS {b:Nat}{p:PS}{ob:List OB}{o:OB}{M:List ai}{t:TypeId}{v:Value}(h:Sat σ w (p.at b::M++L))(hs:Stk p (ob++ [o]) M)(b8:o.bd= .iface t v)(hb: ∀w,Sat σ w (p.at b::M++L)->cY P (callMethod o.bd "pub-paratext/pub/rscmarkdown.build" #[.iface ah (kT (kE b))]) (λe b4=> ∃(y:Value),e= hQ y/\
  ∃(E:Option Addr),∃(H:Bool),∃g,(Instr.typeAssert y aO dl true).run P b4= .ok (.tuple #[kT E,hV H]) g/\
  br H (aA (kE b) λW=> ∃(O:Bool),g.cell? (W.add 6)=some (hV O)/\br O
   (aA (kE b) λb3=>stV g ((b3.add 6).add 0) (hV true) λb5=>aK.k2 R (kE b) y E b5)
   (callE P kQ #[kT E] (λe V=> ∃(I:Bool),e= hQ (hV I)/\aA (kE b) λa6=>stV V ((a6.add 6).add 0) (hV I) λa7=>aK.k2 R (kE b) y E a7) g))
   (aK.k3 R (kE b) y g)) w):callE P aI #[kT (kE b)] R w:=by
 have b6:=hs.2.2
 have U:=hs.2.1
 obtain⟨sb,sp,b7,rfl,b9⟩:=hs.split (by simp)
 simp only[lA0,lE0] at U b6
 refine aK.sound ?_
 refine h.tk λw h=>?_
 refine aa (aa ?_)
 refine⟨_,_,_,h.ldA,?_⟩
 refine⟨_,_,_,h.ldA,?_⟩
 rw[U,ki (by omega)]
 refine⟨by omega,by omega,?_⟩
 rw[b7]
 refine aa ?_
 simp only[lK0,lN0,lC0]
 refine⟨o.bd,Sat.ld h (.tail _ (.head _)) (fg (f:=0) (by decide) (ik o)),false,w,by rw[b8];exact ns tB _ _ w,ae rfl ?_⟩
 refine aa ?_
 refine⟨o.bd,Sat.ld h (.tail _ (.head _)) (fg (f:=0) (by decide) (ik o)),?_⟩
 exact hb _ h
structure IT where
 nb:Nat
 s:Nat
 e:Nat
 q:Option Addr
 n:Nat
 c:Nat
 wd:Nat
 IM:List ai
 D:List DB
def IT.chunk (i:IT):ai:=(i.nb,cel [hY i.s,hY i.e,hT i.q i.n i.c,hY i.wd] mH)
def IT.v (i:IT):Value:= .iface fI (kT (kE i.nb))
def IT.db (i:IT):DB:=⟨i.v,i.chunk::(i.IM++cX i.D),cl i.D⟩
structure IT.ok (i:IT):Prop where
 sl:Sl 1 aO i.q i.n i.c (i.D.map DB.v) i.IM
 len:i.D.length<1000000
 se:i.s<1000000000/\i.e<1000000000
theorem IT.n_eq {i:IT}(h:i.ok):i.n=i.D.length:=by have:=h.sl.1;simp at this;omega
theorem IT.posIs (i:IT):i.db.posIs i.s i.e:=jT y8 rfl (.head _)
def DB.ifc (d:DB):Prop:= ∃ty q,d.v= .iface ty (kT q)
def tj (nb s e:Nat)(bul num:Int)(loose:Bool)(q:Option Addr)(n c:Nat):ai:=(nb,cel [hY s,hY e,.int .i32 bul,hY num,hV loose,hT q n c] ul)
theorem Bb {t e xt:TypeId}{q:Option Addr}{ty:TypeId}{i:TypeInfo}(g:P.underlying t=some (.pointer e))(hi:P.info? t=some i)(hz:i.zero=some (kT none))(w:World):
 ∃r k,(Instr.typeAssert (.iface ty (kT q)) xt t true).run P w= .ok (.tuple #[kT r,hV k]) w:=by
 by_cases ht:ty=t
 ·subst ht
  exact⟨q,true,ol (by rw[g];intro y h;cases h) g w⟩
 ·exact⟨none,false,uv (by rw[g];intro y h;cases h) g ht hi hz w⟩
theorem mz:P.underlying dl=some (.pointer ul):=by kernel_rfl
theorem EX:P.underlying cU=some (.pointer jJ):=by kernel_rfl
theorem EY:P.underlying cJ=some (.pointer mI):=by kernel_rfl
theorem AU:P.underlying fI=some (.pointer mH):=by kernel_rfl
theorem xH (q:Option Addr)(w:World):(Instr.typeAssert (.iface fI (kT q)) aO fI false).run P w= .ok (kT q) w:=by
 simp[Instr.typeAssert,run_underlying AU]
theorem IT.own_mem {items:List IT}{i:IT}(hi:i∈items): ∀x∈i.db.own,x∈cX (items.map IT.db):=by
 intro x g
 exact lS2.2 ⟨i.db,lF5 hi,g⟩
theorem pj {nb s e:Nat}{bul num:Int}{loose:Bool}{q:Option Addr}{n c:Nat}{items:List IT}{IM:List ai}(b4:Sl 1 aO q n c (items.map IT.v) IM)(b5: ∀i∈items,i.ok/\ ∀d∈i.D,d.ifc)(e0:items.length<1000000)(h:Sat σ w L)(H: ∀x∈tj nb s e bul num loose q n c::(IM++cX (items.map IT.db)),x∈L)(I: ∀k,R (hQ (hV k)) w):callE P kQ #[kT (kE nb)] R w:=by
 have d3:n=items.length:=by have:=b4.1;simp at this;omega
 refine gu.sound ?_
 refine aa ⟨_,_,_,Sat.ld h (H _ (.head _)) (i:=5) rfl,?_⟩
 intro X b3
 have b6: ∀k j:Nat,j+k=items.length->X q n c (n:Int) (j:Int) w:=by
  intro k
  induction k with
  |zero=>
   intro j d1
   exact b3 _ _ _ _ _ _ (ae (by simp;omega) (I false))
  |succ k c5=>
   intro j d1
   have a7:j<items.length:=by omega
   have y:=lP1 a7
   generalize c1:items[j]=i at y
   obtain⟨E,b8⟩:=b5 i y
   have W: ∀x∈i.db.own,x∈L:=λx g=>H x (.tail _ (lB0 _ (IT.own_mem y x g)))
   have V:i.chunk∈L:=W _ (.head _)
   have b7: ∀x∈i.IM,x∈L:=λx g=>W x (.tail _ (lE1 _ g))
   refine b3 _ _ _ _ _ _ (ag (by simp;omega) ⟨by omega,by omega,?_⟩)
   refine b4.loadMem h (λx g=>H x (.tail _ (lE1 _ g))) (j:=j) (v:=i.v) (by simp[a7,c1]) λe4 d5 hc=>?_
   simp only[lK0,lC0,lC1,lN0]
   refine⟨_,hc,kE i.nb,w,xH _ w,aa ?_⟩
   refine⟨_,_,_,Sat.ld h V (i:=2) rfl,?_⟩
   rw[IT.n_eq E]
   refine bM (λ_=>I true) λb9=>aa ?_
   have U:0<i.D.length:=by
    have:i.D.length≠0:=by simpa using b9
    omega
   obtain⟨ty,O,c2⟩:=b8 i.D[0] (lP1 U)
   refine⟨_,_,_,Sat.ld h V (i:=2) rfl,by decide,by rw[IT.n_eq E];omega,?_⟩
   refine E.sl.loadMem h b7 (j:=0) (v:=i.D[0].v) (by simp[U]) λd4 d2 a6=>?_
   simp only[lK0,lC0,lC1,lN0]
   rw[c2] at a6
   obtain⟨c8,k1,c3⟩:=Bb (xt:=aO) (q:=O) (ty:=ty) mz (i:=(P.info? dl).getD default) (by kernel_rfl) (by kernel_rfl) w
   obtain⟨r2,k2,d0⟩:=Bb (xt:=aO) (q:=O) (ty:=ty) EX (i:=(P.info? cU).getD default) (by kernel_rfl) (by kernel_rfl) w
   obtain⟨c9,k3,c4⟩:=Bb (xt:=aO) (q:=O) (ty:=ty) EY (i:=(P.info? cJ).getD default) (by kernel_rfl) (by kernel_rfl) w
   refine⟨_,a6,c8,k1,w,c3,r2,k2,w,d0,c9,k3,w,c4,?_⟩
   refine bM (λ_=>I true) λ_=>?_
   rw[aN (by omega)]
   exact c5 (j+1) (by omega)
 exact b6 items.length 0 (by omega)

theorem Sl.storeAt {q:Option Addr}{n c j:Nat}{e:TypeId}{vs:List Value}{RM:List ai}{v:Value}{K:World->Prop}(O:Sl 1 e q n c vs RM)(h:Sat σ w (RM++L))(V:j<vs.length)(hv:nA v)(U: ∀w g,Sl 1 e q n c (vs.set j v) g->Sat σ w (g++L)->K w):aA q λa=>stV w ((a.add j).add 0) v K:=by
 obtain⟨E,hc,⟨rfl,rfl,_,rfl⟩|⟨y,sp,rfl,rfl,H⟩⟩:=O
 ·exact absurd E (by omega)
 ·refine aa ?_
  simp only[lK0,lN0,lL1]
  refine Sat.st h (k:=0) rfl (by rw[lA0];omega) hv rfl λw h=>?_
  refine U w [(y,cel (vs.set j v++sp) e)] ⟨by simpa using E,hc,.inr ⟨y,sp,rfl,rfl,by simpa using H⟩⟩ ?_
  have I:(vs++sp).set j v=vs.set j v++sp:=lV4 _ _ V
  rw[<-I]
  exact h
def C0 (pos:DB->Nat × Nat):List DB->Bool
 |d::d2::ds=>decide ((pos d).2+1<(pos d2).1)||C0 pos (d2::ds)
 |_=>false
def mb (pos:DB->Nat × Nat):List IT->Bool
 |i::i2::is=>decide (i.e+1<i2.s)||(C0 pos i.D||mb pos (i2::is))
 | [i]=>C0 pos i.D
 | []=>false
def du (d:DB):DB:=match d.v with
 | .iface ty _=>if ty=bB then match d.txs with| [x]=>⟨.iface dU (kT (kE x.t)),d.own,d.txs⟩|_=>d else d
 |_=>d
theorem kF (nb t s e:Nat)(raw:List UInt8):du (kf nb t s e raw)=⟨.iface dU (kT (kE t)),[kY nb s e t],[⟨t,s,e,raw⟩]⟩:=by
 unfold du kf
 simp
theorem d8 {d:DB}{ty:TypeId}{q:Option Addr}(h:d.v= .iface ty (kT q))(ht:ty≠bB):du d=d:=by
 unfold du
 rw[h]
 simp[ht]
def DB.kindOK (d:DB):Prop:=(∃nb t s e raw,d=kf nb t s e raw)\/(∃ty q,d.v= .iface ty (kT q)/\ty≠bB)
theorem xE {d:DB}(h:d.kindOK):(du d).own=d.own/\(du d).txs=d.txs:=by
 rcases h with ⟨nb,t,s,e,raw,rfl⟩|⟨ty,q,h,ht⟩
 ·rw[kF];exact⟨rfl,rfl⟩
 ·rw[d8 h ht];exact⟨rfl,rfl⟩
theorem p7 {D:List DB}(h: ∀d∈D,d.kindOK):cX (D.map du)=cX D/\cl (D.map du)=cl D:=by
 induction D with
 |nil=>exact⟨rfl,rfl⟩
 |cons d D g=>
  obtain⟨a,b⟩:=xE (h d (by simp))
  obtain⟨c,e⟩:=g λx y=>h x (lQ1 _ y)
  constructor
  ·show (du d).own++cX (D.map du)=d.own++cX D
   rw[a,c]
  ·show (du d).txs++cl (D.map du)=d.txs++cl D
   rw[b,e]
inductive Ret:List IT->List IT->Prop where
 |nil:Ret [] []
 |cons {i i':IT} {is is':List IT}:i'= {i with D:=i.D.map du,IM:=i'.IM}->i'.ok->Ret is is'->Ret (i::is) (i'::is')
theorem Ret.snoc {E y:List IT}{i g:IT}(h:Ret E y)(H:g= {i with D:=i.D.map du,IM:=g.IM})(I:g.ok):Ret (E++ [i]) (y++ [g]):=by
 induction h with
 |nil=>exact .cons H I .nil
 |cons a b _ O=>exact .cons a b O
theorem Ret.vs {y g:List IT}(h:Ret y g):g.map IT.v=y.map IT.v:=by
 induction h with
 |nil=>rfl
 |cons a b _ E=>rw[lU1,lU1,E,a];rfl
theorem rv:P.underlying bB=some (.pointer mF):=by kernel_rfl
theorem rN (q:Option Addr)(w:World):(Instr.typeAssert (.iface bB (kT q)) aO bB true).run P w= .ok (.tuple #[kT q,hV true]) w:=
 ol (by rw[rv];intro g h;cases h) rv w
theorem zL {ty:TypeId}{v:Value}(ht:ty≠bB)(w:World):(Instr.typeAssert (.iface ty v) aO bB true).run P w= .ok (.tuple #[kT none,hV false]) w:=
 uv (by rw[rv];intro g h;cases h) rv ht (i:=(P.info? bB).getD default) (by kernel_rfl) (by kernel_rfl) w
theorem oo:mQ P az "pub-paratext/pub/rscmarkdown.build" iB=true:=by kernel_rfl
theorem ot:mQ P bu "pub-paratext/pub/rscmarkdown.build" iF=true:=by kernel_rfl
theorem mP:mQ P gF "pub-paratext/pub/rscmarkdown.build" gR=true:=by kernel_rfl
theorem qN {b lb:Nat}{bul num:Int}{td:Value}{p:PS}{ob:List OB}{o:OB}{M IM:List ai}{items:List IT}{pos:DB->Nat × Nat}{it:Option Addr}(h:Sat σ w (p.at b::M++(cN lb bul num false it td::(IM++(cX (items.map IT.db)++L)))))(hs:Stk p (ob++ [o]) M)(c1:Sl 1 aO o.q o.n o.c (items.map IT.v) IM)(m1:items≠ [])(q2:items.length<1000000)(p4:o.s<1000000000)(e9: ∀i∈items,i.ok/\ ∀d∈i.D,d.kindOK/\d.posIs (pos d).1 (pos d).2/\(pos d).1<1000000000/\(pos d).2<2000000000)(b4: ∀w nb e (U:List IT),(mb pos items=true/\U=items\/mb pos items=false/\Ret items U)->((∃i∈items,e=i.e)/\items.getLast?.map IT.e=some e)->
  Sat σ w (p.at b::M++(tj nb o.s e bul num (mb pos items) o.q o.n o.c::(IM++(cX (U.map IT.db)++L))))->R (hQ (.iface dl (kT (kE nb)))) w):
 callE P iB #[kT (kE lb),.iface ah (kT (kE b))] R w:=by
 have e4:o.n=items.length:=by have:=c1.1;simp at this;omega
 have q0:0<items.length:=lY0.2 m1
 refine aV.sound ?_
 refine bm kh ?_
 refine nx h hs λw h=>⟨_,_,_,rfl,?_⟩
 refine bm nJ ?_
 refine tL h hs λw h=>⟨_,_,rfl,?_⟩
 refine Sat.bx h λg w h=>?_
 refine h.stA 0 λw h=>?_
 refine h.stA 0 λw h=>?_
 have h:Sat σ w ((g,cel [hY o.s,hY o.e] aF)::(p.at b::M++(cN lb bul num false it td::(IM++(cX (items.map IT.db)++L))))):=h
 rw[e4] at c1⊢
 have m4:i64.wrap ((items.length:Int) - 1)=((items.length - 1:Nat):Int):=by rw[i64_in _ (by omega)];omega
 rw[m4]
 refine⟨by omega,by omega,?_⟩
 generalize e7:items[items.length - 1]'(by omega)=la
 have d5:la∈items:=by rw[<-e7];exact lP1 _
 have g1:items.getLast?.map IT.e=some la.e:=by rw[List.getLast?_eq_getElem?,lI0 (by omega),e7];rfl
 have e5: ∀ {K:List ai} {x:ai},x∈IM->x∈K++(cN lb bul num false it td::(IM++(cX (items.map IT.db)++L))):=λI=>by simp[I]
 refine c1.loadMem h (λx I=> .tail _ (e5 I)) (j:=items.length - 1) (v:=la.v) (by rw[lF2,lI0 (by omega),e7];rfl) λf5 g0 hc=>?_
 simp only[lK0,lC0,lC1,lN0]
 refine⟨_,hc,?_⟩
 have f0: ∀ {K:List ai} {i:IT},i∈items-> ∀x∈i.db.own,x∈K++(cN lb bul num false it td::(IM++(cX (items.map IT.db)++L))):=λhi x I=>by
  have:=IT.own_mem hi x I
  simp[this]
 refine la.posIs σ _ _ w (λx I=> .tail _ (f0 d5 x I)) h λw h=>⟨_,_,rfl,?_⟩
 refine h.stA 0 λw h=>?_
 have h:Sat σ w ((g,cel [hY o.s,hY la.e] aF)::(p.at b::M++(cN lb bul num false it td::(IM++(cX (items.map IT.db)++L))))):=h
 have k3: ∀(lo:Bool) (U:List IT) w,(∀w nb,Sat σ w (p.at b::M++(tj nb o.s la.e bul num lo o.q items.length o.c::(IM++(cX (U.map IT.db)++L))))->R (hQ (.iface dl (kT (kE nb)))) w)->
  Sat σ w ((g,cel [hY o.s,hY la.e] aF)::cN lb bul num lo it td::(p.at b::M++(IM++(cX (U.map IT.db)++L))))->aV.k3 R (kE lb) (.iface ah (kT (kE b))) g w:=by
  intro lo U w b4 h
  refine Sat.tk h λw h=>aa (aa (aa ?_))
  refine⟨_,Sat.ld h (.head _) (i:=0) rfl,_,Sat.ld h (.head _) (i:=1) rfl,_,Sat.ld h (.tail _ (.head _)) (i:=0) rfl,_,Sat.ld h (.tail _ (.head _)) (i:=1) rfl,_,Sat.ld h (.tail _ (.head _)) (i:=2) rfl,?_⟩
  have b9:=h
  have h:Sat σ w (p.at b::M++((g,cel [hY o.s,hY la.e] aF)::cN lb bul num lo it td::(IM++(cX (U.map IT.db)++L)))):=h.re
  have e6:cN lb bul num lo it td∈p.at b::M++((g,cel [hY o.s,hY la.e] aF)::cN lb bul num lo it td::(IM++(cX (U.map IT.db)++L))):=by simp
  have m3:(g,cel [hY o.s,hY la.e] aF)∈p.at b::M++((g,cel [hY o.s,hY la.e] aF)::cN lb bul num lo it td::(IM++(cX (U.map IT.db)++L))):=by simp
  refine bm kh ?_
  refine nx h hs λw h=>⟨_,_,_,rfl,b9.same h (.tail _ (.head _)) e6 1,b9.same h (.tail _ (.head _)) e6 1,b9.same h (.tail _ (.head _)) e6 1,b9.same h (.head _) m3 2,?_⟩
  refine Sat.bx h λnb w h=>?_
  refine b4 w nb ?_
  rw[e4] at h
  have h:Sat σ w (tj nb o.s la.e bul num lo o.q items.length o.c::(p.at b::M++((g,cel [hY o.s,hY la.e] aF)::cN lb bul num lo it td::(IM++(cX (U.map IT.db)++L))))):=h
  exact h.less [(g,cel [hY o.s,hY la.e] aF),cN lb bul num lo it td]
 have l2: ∀w,(∀w nb (U:List IT),Ret items U->Sat σ w (p.at b::M++(tj nb o.s la.e bul num false o.q items.length o.c::(IM++(cX (U.map IT.db)++L))))->R (hQ (.iface dl (kT (kE nb)))) w)->
  Sat σ w ((g,cel [hY o.s,hY la.e] aF)::cN lb bul num false it td::(p.at b::M++(IM++(cX (items.map IT.db)++L))))->
  aV.l2 R (kE lb) (.iface ah (kT (kE b))) g o.q items.length o.c (items.length:Int) 0 w:=by
  intro w b4 h X d0
  have f2: ∀(suf pre V:List IT) w,pre++suf=items->Ret pre V->Sat σ w ((g,cel [hY o.s,hY la.e] aF)::cN lb bul num false it td::(p.at b::M++(IM++(cX ((V++suf).map IT.db)++L))))->
   X (kE lb) (.iface ah (kT (kE b))) g o.q items.length o.c (items.length:Int) (pre.length:Int) w:=by
   intro suf
   induction suf with
   |nil=>
    intro pre V w H d4 h
    rw[lG0] at H h
    exact d0 _ _ _ _ _ _ _ _ _ (ae (by rw[H];simp) (k3 false V w (λw nb h=>b4 w nb V (H▸d4) h) h))
   |cons i suf d3=>
    intro pre V w H d4 h
    have e8:pre.length<items.length:=by rw[<-H];simp
    have d1:i∈items:=by rw[<-H];simp
    obtain⟨a6,c8⟩:=e9 i d1
    have f1:items[pre.length]=i:=by simp[<-H]
    refine d0 _ _ _ _ _ _ _ _ _ (ag (by simp;omega) ⟨by omega,by omega,?_⟩)
    refine c1.loadMem h (λx I=>by simp[I]) (j:=pre.length) (v:=i.v) (by rw[lF2,lI0 e8,f1];rfl) λf5 g0 hc=>?_
    simp only[lK0,lC0,lC1,lN0]
    refine⟨_,hc,kE i.nb,w,xH _ w,aa ?_⟩
    have i8:cX ((V++i::suf).map IT.db)=cX (V.map IT.db)++(i.chunk::(i.IM++cX i.D)++cX (suf.map IT.db)):=by
     simp[cX,IT.db]
    rw[i8] at h
    have h:Sat σ w (i.IM++(i.chunk::((g,cel [hY o.s,hY la.e] aF)::cN lb bul num false it td::(p.at b::M++(IM++(cX (V.map IT.db)++(cX i.D++(cX (suf.map IT.db)++L)))))))):=h.re
    have g6: ∀ {K:List ai},i.chunk∈K++(i.chunk::((g,cel [hY o.s,hY la.e] aF)::cN lb bul num false it td::(p.at b::M++(IM++(cX (V.map IT.db)++(cX i.D++(cX (suf.map IT.db)++L))))))):=by intro K;simp
    refine⟨_,_,_,Sat.ld h g6 (i:=2) rfl,?_⟩
    have b3:=IT.n_eq a6
    have h4:=a6.len
    rw[b3]
    intro Y c9
    have inner: ∀(O y:List DB) RM w,y++O=i.D->Sl 1 aO i.q i.D.length i.c ((y.map du++O).map DB.v) RM->
     Sat σ w (RM++(i.chunk::((g,cel [hY o.s,hY la.e] aF)::cN lb bul num false it td::(p.at b::M++(IM++(cX (V.map IT.db)++(cX i.D++(cX (suf.map IT.db)++L))))))))->
     Y (kE lb) (.iface ah (kT (kE b))) g (kE i.nb) o.q items.length o.c (items.length:Int) (pre.length:Int) i.q i.D.length i.c (i.D.length:Int) (y.length:Int) w:=by
     intro O
     induction O with
     |nil=>
      intro y RM w E b7 h
      rw[lG0] at E b7
      rw[E] at b7
      refine c9 _ _ _ _ _ _ _ _ _ _ _ _ _ _ _ (ae (by rw[E];simp) ?_)
      rw[aN (by omega)]
      have:=d3 (pre++ [i]) (V++ [{i with D:=i.D.map du,IM:=RM}]) w (by rw[<-H];simp) (d4.snoc rfl ⟨by simpa[b3] using b7,by simpa using a6.len,a6.se⟩) ?_
      ·rw[lA0,lE0] at this;exact this
      ·have n2:=(p7 (D:=i.D) λd hd=>(c8 d hd).1).1
       have n0:cX (((V++ [{i with D:=i.D.map du,IM:=RM}])++suf).map IT.db)=cX (V.map IT.db)++(i.chunk::(RM++cX i.D)++cX (suf.map IT.db)):=by
        rw[<-n2]
        simp[cX,IT.db,IT.chunk]
       rw[n0]
       exact h.re
     |cons d O c4=>
      intro y RM w E b7 h
      have m9:y.length<i.D.length:=by rw[<-E];simp
      have c3:d∈i.D:=by rw[<-E];simp
      obtain⟨n3,_,_⟩:=c8 d c3
      refine c9 _ _ _ _ _ _ _ _ _ _ _ _ _ _ _ (ag (by simp;omega) ⟨by omega,by omega,?_⟩)
      have h8:((y.map du++d::O).map DB.v)[y.length]? =some d.v:=by
       rw[lF2,lH0 (by simp)];simp
      refine b7.loadAt h h8 λf5 g0 hc=>?_
      simp only[lK0,lC0,lC1,lN0]
      refine⟨_,hc,?_⟩
      have i1: ∀v:Value,v=(du d).v->((y.map du++d::O).map DB.v).set y.length v=((y++ [d]).map du++O).map DB.v:=by
       rintro v rfl
       simp
      rcases n3 with ⟨nb,t,s,e,raw,rfl⟩|⟨ty,q4,hv,h2⟩
      ·refine⟨kE nb,true,w,rN _ w,ag rfl ?_⟩
       refine Sat.tk h λw h=>aa (aa ?_)
       have j1:kY nb s e t∈RM++(i.chunk::((g,cel [hY o.s,hY la.e] aF)::cN lb bul num false it td::(p.at b::M++(IM++(cX (V.map IT.db)++(cX i.D++(cX (suf.map IT.db)++L))))))):=by
        have:kY nb s e t∈cX i.D:=lS2.2 ⟨_,c3,by simp[kf]⟩
        simp[this]
       refine⟨_,_,_,Sat.ld h g6 (i:=2) rfl,_,Sat.ld h j1 (i:=2) rfl,by omega,by rw[b3];omega,?_⟩
       refine b7.storeAt h (j:=y.length) (v:= .iface dU (kT (kE t))) (by simp) trivial λw l5 g2 h=>?_
       rw[i1 _ (by rw[kF])] at g2
       rw[aN (by omega)]
       have:=c4 (y++ [kf nb t s e raw]) l5 w (by rw[<-E];simp) g2 h
       rw[lA0,lE0] at this;exact this
      ·rw[hv]
       refine⟨none,false,w,zL h2 w,ae rfl ?_⟩
       rw[aN (by omega)]
       have n1:(y.map du++d::O).map DB.v=((y++ [d]).map du++O).map DB.v:=by simp[d8 hv h2]
       rw[n1] at b7
       have:=c4 (y++ [d]) RM w (by rw[<-E];simp) b7 h
       rw[lA0,lE0] at this;exact this
    have i3:Sl 1 aO i.q i.D.length i.c (([].map du++i.D).map DB.v) i.IM:=by rw[<-b3];exact a6.sl
    exact inner i.D [] i.IM w rfl i3 h
  exact f2 items [] [] w rfl .nil h
 have k1: ∀w,Sat σ w ((g,cel [hY o.s,hY la.e] aF)::cN lb bul num (mb pos items) it td::(p.at b::M++(IM++(cX (items.map IT.db)++L))))->aV.k1 R (kE lb) (.iface ah (kT (kE b))) o.q items.length o.c g w:=by
  intro w h
  refine aa ⟨_,Sat.ld h (.tail _ (.head _)) (i:=2) rfl,?_⟩
  rw[e4] at b4
  cases a7:mb pos items with
  |true=>
   rw[a7] at h b4
   exact ae rfl (k3 true items w (λw nb h=>b4 w nb la.e items (.inl ⟨rfl,rfl⟩) ⟨⟨la,d5,rfl⟩,g1⟩ h) h)
  |false=>
   rw[a7] at h b4
   exact ag rfl (l2 w (λw nb U hr h=>b4 w nb la.e U (.inr ⟨rfl,hr⟩) ⟨⟨la,d5,rfl⟩,g1⟩ h) h)
 intro X d0
 have h3: ∀w,mb pos items=true->Sat σ w ((g,cel [hY o.s,hY la.e] aF)::(p.at b::M++(cN lb bul num false it td::(IM++(cX (items.map IT.db)++L)))))->
  aA (kE lb) λa=>stV w ((a.add 2).add 0) (hV true) λw=>aV.k1 R (kE lb) (.iface ah (kT (kE b))) o.q items.length o.c g w:=by
  intro w a7 h
  have h:Sat σ w (cN lb bul num false it td::(g,cel [hY o.s,hY la.e] aF)::(p.at b::M++(IM++(cX (items.map IT.db)++L)))):=h.re
  refine aa ?_
  refine h.stA 0 λw h=>?_
  refine k1 w ?_
  rw[a7]
  have h:Sat σ w (cN lb bul num true it td::(g,cel [hY o.s,hY la.e] aF)::(p.at b::M++(IM++(cX (items.map IT.db)++L)))):=h
  exact h.re
 have f2: ∀(suf pre:List IT) w,pre++suf=items->mb pos items=mb pos suf->Sat σ w ((g,cel [hY o.s,hY la.e] aF)::(p.at b::M++(cN lb bul num false it td::(IM++(cX (items.map IT.db)++L)))))->
  X (kE lb) (.iface ah (kT (kE b))) o.q items.length o.c g o.q items.length o.c (items.length:Int) (pre.length:Int) w:=by
  intro suf
  induction suf with
  |nil=>
   intro pre w H a7 h
   rw[lG0] at H
   subst H
   refine d0 _ _ _ _ _ _ _ _ _ _ _ _ (ae (by simp) (k1 w ?_))
   rw[a7]
   have h:Sat σ w ((g,cel [hY o.s,hY la.e] aF)::(p.at b::M++(cN lb bul num (mb pos []) it td::(IM++(cX (pre.map IT.db)++L))))):=h
   exact h.re
  |cons i suf d3=>
   intro pre w H a7 h
   have e8:pre.length<items.length:=by rw[<-H];simp
   have d1:i∈items:=by rw[<-H];simp
   obtain⟨a6,c8⟩:=e9 i d1
   have f1:items[pre.length]=i:=by simp[<-H]
   have b6: ∀x∈i.db.own,x∈(g,cel [hY o.s,hY la.e] aF)::(p.at b::M++(cN lb bul num false it td::(IM++(cX (items.map IT.db)++L)))):=λx I=> .tail _ (f0 d1 x I)
   refine d0 _ _ _ _ _ _ _ _ _ _ _ _ (ag (by simp;omega) ⟨by omega,by omega,?_⟩)
   refine c1.loadMem h (λx I=> .tail _ (e5 I)) (j:=pre.length) (v:=i.v) (by rw[lF2,lI0 e8,f1];rfl) λf5 g0 hc=>?_
   simp only[lK0,lC0,lC1,lN0]
   refine⟨_,hc,kE i.nb,w,xH _ w,?_⟩
   rw[aN (by omega)]
   have inner: ∀rest w,(mb pos items=(C0 pos i.D||rest))->(∀w,mb pos items=rest->Sat σ w ((g,cel [hY o.s,hY la.e] aF)::(p.at b::M++(cN lb bul num false it td::(IM++(cX (items.map IT.db)++L)))))->
    X (kE lb) (.iface ah (kT (kE b))) o.q items.length o.c g o.q items.length o.c (items.length:Int) ((pre.length+1:Nat):Int) w)->
    Sat σ w ((g,cel [hY o.s,hY la.e] aF)::(p.at b::M++(cN lb bul num false it td::(IM++(cX (items.map IT.db)++L)))))->
    aV.k2 R X (kE lb) (.iface ah (kT (kE b))) o.q items.length o.c g (kE i.nb) o.q items.length o.c (items.length:Int) (pre.length:Int) w:=by
    intro rest w k0 h5 h
    refine aa ⟨_,_,_,Sat.ld h (b6 _ (.head _)) (i:=2) rfl,?_⟩
    have b3:=IT.n_eq a6
    rw[b3]
    have e0:=a6.sl
    rw[b3] at e0
    have h1: ∀x∈i.IM,x∈(g,cel [hY o.s,hY la.e] aF)::(p.at b::M++(cN lb bul num false it td::(IM++(cX (items.map IT.db)++L)))):=λx I=>b6 x (.tail _ (lE1 _ I))
    have g7: ∀d∈i.D,∀x∈d.own,x∈(g,cel [hY o.s,hY la.e] aF)::(p.at b::M++(cN lb bul num false it td::(IM++(cX (items.map IT.db)++L)))):=λd hd x I=>b6 x (.tail _ (lB0 _ (lS2.2 ⟨d,hd,I⟩)))
    intro Y c9
    have i0: ∀(O y:List DB) w,y++O=i.D->mb pos items=(C0 pos O||rest)->Sat σ w ((g,cel [hY o.s,hY la.e] aF)::(p.at b::M++(cN lb bul num false it td::(IM++(cX (items.map IT.db)++L)))))->
     Y (kE lb) (.iface ah (kT (kE b))) o.q items.length o.c g (kE i.nb) o.q items.length o.c (items.length:Int) (pre.length:Int) i.q i.D.length i.c (i.D.length:Int) (y.length:Int) w:=by
     intro O
     induction O with
     |nil=>
      intro y w E c5 h
      rw[lG0] at E
      refine c9 _ _ _ _ _ _ _ _ _ _ _ _ _ _ _ _ _ _ (ae (by rw[E];simp) ?_)
      rw[aN (by omega)]
      exact h5 w (by rw[c5];rfl) h
     |cons d O c4=>
      intro y w E c5 h
      have m9:y.length<i.D.length:=by rw[<-E];simp
      have c3:d∈i.D:=by rw[<-E];simp
      have h4:=a6.len
      obtain⟨_,o0,o6,p1⟩:=c8 d c3
      refine c9 _ _ _ _ _ _ _ _ _ _ _ _ _ _ _ _ _ _ (ag (by simp;omega) ⟨by omega,by omega,?_⟩)
      refine e0.loadMem h h1 (j:=y.length) (v:=d.v) (by rw[<-E];simp) λp3 q1 j0=>?_
      simp only[lK0,lC0,lC1,lN0]
      refine⟨_,j0,?_⟩
      refine o0 σ _ _ w (g7 d c3) h λw h=>⟨_,_,rfl,aa ?_⟩
      refine⟨_,_,_,Sat.ld h (b6 _ (.head _)) (i:=2) rfl,?_⟩
      rw[b3,aN (by omega)]
      cases O with
      |nil=>
       refine ae (by rw[<-E];simp) ?_
       have:=c4 (y++ [d]) w (by rw[<-E];simp) (by rw[c5];rfl) h
       rw[lA0,lE0] at this;exact this
      |cons c2 q3=>
       have o4:y.length+1<i.D.length:=by rw[<-E];simp
       have g3:c2∈i.D:=by rw[<-E];simp
       obtain⟨_,m5,o5,o2⟩:=c8 c2 g3
       refine ag (by simp;omega) (aa ?_)
       refine⟨_,_,_,Sat.ld h (b6 _ (.head _)) (i:=2) rfl,by omega,by rw[b3];omega,?_⟩
       refine e0.loadMem h h1 (j:=y.length+1) (v:=c2.v) (by rw[<-E];simp) λm8 m6 f4=>?_
       simp only[lK0,lC0,lC1,lN0]
       refine⟨_,f4,?_⟩
       refine m5 σ _ _ w (g7 c2 g3) h λw h=>⟨_,_,rfl,?_⟩
       rw[i64_in _ (by omega)]
       refine bM (λb8=>?_) λb8=>?_
       ·refine h3 w ?_ h
        have:decide ((pos d).2+1<(pos c2).1)=true:=by simp at b8⊢;omega
        rw[c5,C0,this];rfl
       ·have:=c4 (y++ [d]) w (by rw[<-E];simp) ?_ h
        ·rw[lA0,lE0] at this;exact this
        ·have:decide ((pos d).2+1<(pos c2).1)=false:=by simp at b8⊢;omega
         rw[c5,C0,this];rfl
    exact i0 i.D [] w rfl k0 h
   cases suf with
   |nil=>
    refine ae (by rw[<-H];simp) ?_
    refine inner false w (by rw[a7];simp[mb]) (λw f3 h=>?_) h
    have:=d3 (pre++ [i]) w (by rw[<-H];simp) (by rw[f3];rfl) h
    rw[lA0,lE0] at this;exact this
   |cons W f6=>
    have h9:pre.length+1<items.length:=by rw[<-H];simp
    have h6:items[pre.length+1]=W:=by simp[<-H]
    have g4:W∈items:=by rw[<-H];simp
    obtain⟨h7,_⟩:=e9 W g4
    have p5:=a6.se
    have o3:=h7.se
    refine ag (by simp;omega) ?_
    refine Sat.tk h λw h=>⟨by omega,by omega,?_⟩
    refine c1.loadMem h (λx I=> .tail _ (e5 I)) (j:=pre.length+1) (v:=W.v) (by rw[lF2,lI0 h9,h6];rfl) λm8 m6 f4=>?_
    simp only[lK0,lC0,lC1,lN0]
    refine aa ⟨_,f4,_,Sat.ld h (b6 _ (.head _)) (i:=1) rfl,?_⟩
    have b9:=h
    refine W.posIs σ _ _ w (λx I=> .tail _ (f0 g4 x I)) h λw h=>⟨_,_,rfl,b9.same h (b6 _ (.head _)) (b6 _ (.head _)) 1,?_⟩
    rw[i64_in _ (by omega)]
    have g5:mb pos (i::W::f6)=(decide (i.e+1<W.s)||(C0 pos i.D||mb pos (W::f6))):=rfl
    refine bM (λb8=>?_) λb8=>?_
    ·refine h3 w ?_ h
     have:decide (i.e+1<W.s)=true:=by simp at b8⊢;omega
     rw[a7,g5,this];rfl
    ·have m2:decide (i.e+1<W.s)=false:=by simp at b8⊢;omega
     refine inner (mb pos (W::f6)) w (by rw[a7,g5,m2];rfl) (λw f3 h=>?_) h
     have:=d3 (pre++ [i]) w (by rw[<-H];simp) f3 h
     rw[lA0,lE0] at this;exact this
 exact f2 items [] w rfl rfl h

def Do (nb s e:Nat)(q:Option Addr)(n c:Nat):ai:=(nb,cel [hY s,hY e,hT q n c] yR)
def nX (nb s e:Nat)(q:Option Addr)(n c:Nat)(IM:List ai)(D:List DB):DB:=⟨.iface j2 (kT (kE nb)),Do nb s e q n c::(IM++cX D),cl D⟩
def p8 (nb s e:Nat)(bul num:Int)(lo:Bool)(q:Option Addr)(n c:Nat)(IM:List ai)(items:List IT):DB:=
 ⟨.iface dl (kT (kE nb)),tj nb s e bul num lo q n c::(IM++cX (items.map IT.db)),cl (items.map IT.db)⟩

structure Bk where
 ob:OB
 own:List ai
 D:List DB
 IM:List ai
def Bk.ok (f:Bk):Prop:=Sl 1 aO f.ob.q f.ob.n f.ob.c (f.D.map DB.v) f.IM/\f.D.length<100000/\f.ob.s<1000000000/\f.ob.e<1000000000
def txc (D:List DB):List ai:=(cl D).map TX.chunk
def Bk.mem (f:Bk):List ai:=f.IM++(f.own++(cX f.D++txc f.D))
def aM (fs:List Bk):List ai:=fs.flatMap Bk.mem
def txF (fs:List Bk):List TX:=fs.flatMap λf=>cl f.D
theorem bh (a b:List Bk):aM (a++b)=aM a++aM b:=by simp[aM]
theorem dy (f:Bk):aM [f]=f.IM++(f.own++(cX f.D++txc f.D)):=by simp[aM,Bk.mem]
theorem jD (f y:Bk):aM [f,y]=f.IM++(f.own++(cX f.D++txc f.D))++(y.IM++(y.own++(cX y.D++txc y.D))):=by simp[aM,Bk.mem]
theorem bD (a b:List Bk):txF (a++b)=txF a++txF b:=by simp[txF]
theorem dH (f:Bk):txF [f]=cl f.D:=by simp[txF]
theorem un (f y:Bk):txF [f,y]=cl f.D++cl y.D:=by simp[txF]
theorem nE (D:List DB)(d:DB):txc (D++ [d])=txc D++d.txs.map TX.chunk:=by simp[txc,jz]
def DocC (σ:Out)(b:Nat)(L:List ai)(fs:List Bk)(lf:Leaf)(p:PS)(w:World):Prop:=
 ∃M y g E,Stk p (fs.map Bk.ob++g) M/\Txts p ((txF fs).map TX.t) y/\(∀f∈fs,f.ok)/\CS lf g E/\Sat σ w (p.at b::M++(y++(aM fs++(E++L))))
def Bk.like (g f:Bk):Prop:=g.ob.bd=f.ob.bd/\g.ob.s=f.ob.s/\g.ob.e=f.ob.e/\g.own=f.own
theorem DocC.closed {b:Nat}{gs:List Bk}{par f:Bk}{p2:PS}{O y U:List ai}{V:Option Addr}{I:Nat}{d:DB}{H:List ai}(a6: ∀W∈gs++ [par,f],Bk.ok W)(b7:par.D.length<99999)(b3:Stk p2 (gs.map Bk.ob++ [{par.ob with q:=V,n:=par.ob.n+1,c:=I}]) O)(b4:Sl 1 aO V (par.ob.n+1) I (par.D.map DB.v++ [d.v]) y)(ht:Txts p2 ((txF (gs++ [par,f])).map TX.t) U)(a7:d.txs=cl f.D)(h:Sat σ w (p2.at b::O++(y++(U++(aM gs++(H++(cX par.D++(txc par.D++(d.own++(txc f.D++L)))))))))):
 DocC σ b L (gs++ [⟨{par.ob with q:=V,n:=par.ob.n+1,c:=I},H,par.D++ [d],y⟩]) .none p2 w:=by
 refine⟨O,U,[],[],?_,?_,?_,⟨rfl,rfl⟩,?_⟩
 ·rw[lV0,lG0];exact b3
 ·have e:txF (gs++ [⟨{par.ob with q:=V,n:=par.ob.n+1,c:=I},H,par.D++ [d],y⟩])=txF (gs++ [par,f]):=by
   rw[bD,bD,dH,un,jz,a7]
  rw[e];exact ht
 ·intro W E
  rcases lO0.1 E with E|E
  ·exact a6 W (by simp[E])
  ·obtain rfl:=lQ0.1 E
   obtain⟨_,b6,b5⟩:=a6 par (by simp)
   exact⟨by rw[lV0];exact b4,by simp;omega,b5⟩
 ·rw[bh,dy,lx,nE,a7]
  show Sat σ w (p2.at b::O++(U++(aM gs++(y++(H++((cX par.D++d.own)++(txc par.D++txc f.D))))++([]++L))))
  exact h.re
theorem o7 {b:Nat}{y:Option Addr}{p:PS}{ob:List OB}{o:OB}{M:List ai}(h:Sat σ w (p.at b::M++L))(hs:Stk p (ob++ [o]) M)(g: ∀w nb,Sat σ w (p.at b::M++(Do nb o.s o.e o.q o.n o.c::L))->R (hQ (.iface j2 (kT (kE nb)))) w):
 callE P gR #[kT y,.iface ah (kT (kE b))] R w:=by
 refine gX.sound ?_
 refine bm nJ ?_
 refine tL h hs λw h=>⟨_,_,rfl,?_⟩
 refine bm kh ?_
 refine nx h hs λw h=>⟨_,_,_,rfl,?_⟩
 refine Sat.bx h λnb w h=>g w nb ?_
 have h:Sat σ w (Do nb o.s o.e o.q o.n o.c::(p.at b::M++L)):=h
 exact h.re
theorem qO {b ib lb wd:Nat}{hv:Bool}{bul num:Int}{lo:Bool}{it:Option Addr}{td:Value}{p:PS}{ob:List OB}{o:OB}{M:List ai}(h:Sat σ w (p.at b::M++(gh ib lb wd hv::cN lb bul num lo it td::L)))(hs:Stk p (ob++ [o]) M)(E: ∀w nb,Sat σ w (p.at b::M++((nb,cel [hY o.s,hY o.e,hT o.q o.n o.c,hY wd] mH)::cN lb bul num lo none td::L))->R (hQ (.iface fI (kT (kE nb)))) w):
 callE P iF #[kT (kE ib),.iface ah (kT (kE b))] R w:=by
 refine iP.sound ?_
 have h:Sat σ w (cN lb bul num lo it td::gh ib lb wd hv::(p.at b::M++L)):=h.re
 refine aa ⟨_,Sat.ld h (.tail _ (.head _)) (i:=0) rfl,aa ?_⟩
 refine h.stA 0 λw h=>?_
 have h:Sat σ w (cN lb bul num lo none td::gh ib lb wd hv::(p.at b::M++L)):=h
 refine Sat.tk h λw h=>aa ⟨_,Sat.ld h (.tail _ (.head _)) (i:=1) rfl,?_⟩
 have H:=h
 have h:Sat σ w (p.at b::M++(cN lb bul num lo none td::gh ib lb wd hv::L)):=h.re
 have g:gh ib lb wd hv∈p.at b::M++(cN lb bul num lo none td::gh ib lb wd hv::L):=by simp
 refine bm nJ ?_
 refine tL h hs λw h=>⟨_,_,rfl,H.same h (.tail _ (.head _)) g 1,?_⟩
 have y:=h
 refine bm kh ?_
 refine nx h hs λw h=>⟨_,_,_,rfl,y.same h g g 1,?_⟩
 refine Sat.bx h λnb w h=>E w nb ?_
 have h:Sat σ w ((nb,cel [hY o.s,hY o.e,hT o.q o.n o.c,hY wd] mH)::(p.at b::M++(cN lb bul num lo none td::gh ib lb wd hv::L))):=h
 exact h.less [gh ib lb wd hv]
def Bk.isQuote (f:Bk):Prop:= ∃g,f.ob.bd=quoV g/\f.own= [Fh g]
def Bk.isItem (f:Bk)(lb wd:Nat)(hv:Bool):Prop:= ∃ib,f.ob.bd=CZ ib/\f.own= [gh ib lb wd hv]
def ItemOf (it:Option Addr)(f:Bk)(lb wd:Nat)(hv:Bool):Prop:= ∃ib,it=kE ib/\f.ob.bd=CZ ib/\f.own= [gh ib lb wd hv]
theorem ItemOf.item {it:Option Addr}{f:Bk}{lb wd:Nat}{hv:Bool}(h:ItemOf it f lb wd hv):f.isItem lb wd hv:=⟨h.choose,h.choose_spec.2⟩
def Bk.isListT (f:Bk)(lb:Nat)(bul num:Int)(it:Option Addr)(td:Value):Prop:=f.ob.bd=BK lb/\f.own= [cN lb bul num false it td]
abbrev Bk.isList (f:Bk)(lb:Nat)(bul num:Int)(it:Option Addr):Prop:=f.isListT lb bul num it .nilFunc
theorem yE {b:Nat}{gs:List Bk}{par f:Bk}{p:PS}(h:DocC σ b L (gs++ [par,f]) .none p w)(b3:f.isQuote)(b4:par.D.length<99999)(a7: ∀w g nb x,g.like par->g.D=par.D++ [nX nb f.ob.s f.ob.e f.ob.q f.ob.n f.ob.c f.IM f.D]->DocC σ b L (gs++ [g]) .none {p with stn:=gs.length+1} w->R (hQ x) w):
 callE P aI #[kT (kE b)] R w:=by
 obtain⟨M,b5,b8,c1,hs,ht,E,⟨rfl,rfl⟩,h⟩:=h
 obtain⟨O,H,U⟩:=b3
 have hs:Stk p (gs.map Bk.ob++ [par.ob]++ [f.ob]) M:=by simpa using hs
 have y:=(E par (by simp)).1
 have b9:par.ob.n=par.D.length:=by have:=y.1;simp at this;omega
 rw[bh,jD,U] at h
 refine iS h hs H λw h=>?_
 rw[H]
 refine bm mP ?_
 refine o7 h hs λw nb h=>⟨_,rfl,none,false,w,j3 (by decide) w,ae rfl ?_⟩
 have h:Sat σ w (p.at b::M++(par.IM++(b5++(aM gs++(par.own++(cX par.D++(txc par.D++((Do nb f.ob.s f.ob.e f.ob.q f.ob.n f.ob.c::(f.IM++cX f.D))++(txc f.D++(Fh O::L)))))))))):=h.re
 refine lL h hs y (by omega) λw p2 c2 a6 b6 b7 W I V h=>?_
 have e:p2= {p with stn:=gs.length+1}:=by rw[W,lS0]
 rw[e] at I h
 refine a7 w ⟨{par.ob with q:=b6,n:=par.ob.n+1,c:=b7},par.own,par.D++ [nX nb f.ob.s f.ob.e f.ob.q f.ob.n f.ob.c f.IM f.D],a6⟩ nb _ ⟨rfl,rfl,rfl,rfl⟩ rfl (DocC.closed (par:=par) (f:=f) (d:=nX nb f.ob.s f.ob.e f.ob.q f.ob.n f.ob.c f.IM f.D) E b4 I V (ht.of rfl rfl rfl) rfl ?_)
 exact h.less [Fh O] (by intro _;simp only[nX,lN3,dE,eP,mg]<;>omega)
theorem ud {b lb wd:Nat}{hv:Bool}{bul num:Int}{it:Option Addr}{td:Value}{gs:List Bk}{par f:Bk}{p:PS}(h:DocC σ b L (gs++ [par,f]) .none p w)(b7:f.isItem lb wd hv)(b9:par.isListT lb bul num it td)(b8:par.D.length<99999)(b6: ∀w g nb x,g.isListT lb bul num none td->g.ob.s=par.ob.s->g.ob.e=par.ob.e->g.D=par.D++ [(IT.mk nb f.ob.s f.ob.e f.ob.q f.ob.n f.ob.c wd f.IM f.D).db]->(IT.mk nb f.ob.s f.ob.e f.ob.q f.ob.n f.ob.c wd f.IM f.D).ok->DocC σ b L (gs++ [g]) .none {p with stn:=gs.length+1} w->R (hQ x) w):
 callE P aI #[kT (kE b)] R w:=by
 obtain⟨M,E,c3,c8,hs,ht,y,⟨rfl,rfl⟩,h⟩:=h
 obtain⟨ib,I,a6⟩:=b7
 obtain⟨a7,V⟩:=b9
 have hs:Stk p (gs.map Bk.ob++ [par.ob]++ [f.ob]) M:=by simpa using hs
 have H:=(y par (by simp)).1
 obtain⟨U,c4,W⟩:=y f (by simp)
 have c5:par.ob.n=par.D.length:=by have:=H.1;simp at this;omega
 rw[bh,jD,a6,V] at h
 refine iS h hs I λw h=>?_
 rw[I]
 have h:Sat σ w (p.at b::M++(gh ib lb wd hv::cN lb bul num false it td::(par.IM++(E++(aM gs++(cX par.D++(txc par.D++(f.IM++(cX f.D++(txc f.D++L)))))))))):=h.re
 refine bm ot ?_
 refine qO h hs λw nb h=>⟨_,rfl,none,false,w,j3 (by decide) w,ae rfl ?_⟩
 have h:Sat σ w (p.at b::M++(par.IM++(E++(aM gs++([cN lb bul num false none td]++(cX par.D++(txc par.D++(((IT.mk nb f.ob.s f.ob.e f.ob.q f.ob.n f.ob.c wd f.IM f.D).chunk::(f.IM++cX f.D))++(txc f.D++L))))))))):=by
  have h:Sat σ w (p.at b::M++((IT.mk nb f.ob.s f.ob.e f.ob.q f.ob.n f.ob.c wd f.IM f.D).chunk::cN lb bul num false none td::(par.IM++(E++(aM gs++(cX par.D++(txc par.D++(f.IM++(cX f.D++(txc f.D++L)))))))))):=h
  exact h.re
 refine lL h hs H (by omega) λw p2 c9 b5 c1 c2 b4 O b3 h=>?_
 have e:p2= {p with stn:=gs.length+1}:=by rw[b4,lS0]
 rw[e] at O h
 refine b6 w ⟨{par.ob with q:=c1,n:=par.ob.n+1,c:=c2},[cN lb bul num false none td],par.D++ [(IT.mk nb f.ob.s f.ob.e f.ob.q f.ob.n f.ob.c wd f.IM f.D).db],b5⟩ nb _ ⟨a7,rfl⟩ rfl rfl rfl ⟨U,by show f.D.length<1000000;omega,W⟩ (DocC.closed (par:=par) (f:=f) (d:=(IT.mk nb f.ob.s f.ob.e f.ob.q f.ob.n f.ob.c wd f.IM f.D).db) y b8 O b3 (ht.of rfl rfl rfl) rfl ?_)
 exact h

theorem DB.kindOK.ifc {d:DB}(h:d.kindOK):d.ifc/\(du d).ifc:=by
 rcases h with ⟨nb,t,s,e,raw,rfl⟩|⟨ty,q,h,ht⟩
 ·rw[kF]
  exact⟨⟨_,_,rfl⟩,⟨_,_,rfl⟩⟩
 ·rw[d8 h ht]
  exact⟨⟨_,_,h⟩,⟨_,_,h⟩⟩
theorem Ret.facts {y g:List IT}(h:Ret y g)(I: ∀i∈y,∀d∈i.D,d.kindOK):cl (g.map IT.db)=cl (y.map IT.db)/\ ∀i∈g,i.ok/\ ∀d∈i.D,d.ifc:=by
 induction h with
 |nil=>exact⟨rfl,by simp⟩
 | @cons i i' y g h1 h2 _ ih=>
  obtain⟨V,W⟩:=ih λj E=>I j (lQ1 _ E)
  have H:=I i (by simp)
  have O:i'.D=i.D.map du:=by rw[h1]
  refine⟨?_,λj E=>?_⟩
  ·show cl i'.D++cl (g.map IT.db)=cl i.D++cl (y.map IT.db)
   rw[V,O,(p7 H).2]
  ·rcases lW0.1 E with rfl|E
   ·refine⟨h2,λd hd=>?_⟩
    rw[O] at hd
    obtain⟨a6,U,rfl⟩:=lS1.1 hd
    exact(H a6 U).ifc.2
   ·exact W j E
def Tgh (lo:Bool)(items g:List IT):Prop:=lo=true/\g=items\/lo=false/\Ret items g
theorem Ao {b lb pb:Nat}{op:Opt}{bul num:Int}{it:Option Addr}{gs:List Bk}{par f:Bk}{p:PS}{items:List IT}{pos:DB->Nat × Nat}(h:DocC σ b L (gs++ [par,f]) .none p w)(d3:f.isList lb bul num it)(E:f.D=items.map IT.db)(d0:items≠ [])(I: ∀i∈items,i.ok/\ ∀d∈i.D,d.kindOK/\d.posIs (pos d).1 (pos d).2/\(pos d).1<1000000000/\(pos d).2<2000000000)(c8:p.pz=kE pb)(c3:op.at pb∈L)(b9:op.task=false)(d4:par.D.length<99999)(d2: ∀w (p':PS) U nb e g x,p'.base=p.base->p'.depth=p.depth->p'.lineno=p.lineno->p'.stn=gs.length+1->U.like par->Tgh (mb pos items) items g->((∃i∈items,e=i.e)/\items.getLast?.map IT.e=some e)->U.D=par.D++ [p8 nb f.ob.s e bul num (mb pos items) f.ob.q f.ob.n f.ob.c f.IM g]->
  DocC σ b L (gs++ [U]) .none p' w->R (hQ x) w):
 callE P aI #[kT (kE b)] R w:=by
 obtain⟨M,a6,e4,e9,hs,ht,V,⟨rfl,rfl⟩,h⟩:=h
 obtain⟨b5,c2⟩:=d3
 have hs:Stk p (gs.map Bk.ob++ [par.ob]++ [f.ob]) M:=by simpa using hs
 have b3:=(V par (by simp)).1
 obtain⟨O,b4,c1⟩:=V f (by simp)
 have e6:par.ob.n=par.D.length:=by have:=b3.1;simp at this;omega
 have d1:f.D.map DB.v=items.map IT.v:=by rw[E];simp[Function.comp_def,IT.db]
 rw[d1] at O
 have e7:items.length<100000:=by rw[E] at b4;simpa using b4
 have e5:txc f.D=(cl (items.map IT.db)).map TX.chunk:=by rw[E];rfl
 rw[bh,jD,c2,E] at h
 refine iS h hs b5 λw h=>?_
 rw[b5]
 have h:Sat σ w (p.at b::M++(cN lb bul num false it .nilFunc::(f.IM++(cX (items.map IT.db)++(par.IM++(a6++(aM gs++(par.own++(cX par.D++(txc par.D++(txc (items.map IT.db)++L))))))))))):=h.re
 refine bm oo ?_
 refine qN (pos:=pos) h hs O d0 (by omega) c1.1 I λw nb e g W d5 h=>⟨_,rfl,kE nb,true,w,ol (by rw[mz];intro e8 h;cases h) mz w,ag rfl (aa ?_)⟩
 have b7:g.map IT.v=items.map IT.v:=by
  rcases W with ⟨_,rfl⟩|⟨_,hr⟩
  ·rfl
  ·exact hr.vs
 have a7:cl (g.map IT.db)=cl (items.map IT.db)/\ ∀i∈g,i.ok/\ ∀d∈i.D,d.ifc:=by
  rcases W with ⟨_,rfl⟩|⟨_,hr⟩
  ·exact⟨rfl,λi hi=>⟨(I i hi).1,λd hd=>((I i hi).2 d hd).1.ifc.1⟩⟩
  ·exact hr.facts λi hi d hd=>((I i hi).2 d hd).1
 have b8:g.length<1000000:=by have:=congrArg List.length b7;simp at this;omega
 have k2: ∀(y:Bool) w,Sat σ w (({p with corner:=y}:PS).at b::M++(tj nb f.ob.s e bul num (mb pos items) f.ob.q f.ob.n f.ob.c::(f.IM++(cX (g.map IT.db)++(par.IM++(a6++(aM gs++(par.own++(cX par.D++(txc par.D++(txc (items.map IT.db)++L)))))))))))->
  aK.k2 R (kE b) (.iface dl (kT (kE nb))) (kE nb) w:=by
  intro y w h
  refine aa ⟨_,Sat.ld h (.head _) (i:=0) rfl,?_⟩
  rw[c8]
  refine aa ⟨_,Sat.ld h (by simp[c3]:op.at pb∈_) rfl,ae b9 ?_⟩
  have h:Sat σ w (({p with corner:=y}:PS).at b::M++(par.IM++(a6++(aM gs++(par.own++(cX par.D++(txc par.D++((tj nb f.ob.s e bul num (mb pos items) f.ob.q f.ob.n f.ob.c::(f.IM++cX (g.map IT.db)))++(txc f.D++L))))))))):=by
   rw[E]
   exact h.re
  refine lL h (hs.of rfl rfl rfl) b3 (by omega) λw p2 f0 c9 e1 e3 c5 b6 c4 h=>?_
  have e0:p2= {p with corner:=y,stn:=gs.length+1}:=by rw[c5,lS0]
  rw[e0] at b6 h
  refine d2 w {p with corner:=y,stn:=gs.length+1} ⟨{par.ob with q:=e1,n:=par.ob.n+1,c:=e3},par.own,par.D++ [p8 nb f.ob.s e bul num (mb pos items) f.ob.q f.ob.n f.ob.c f.IM g],c9⟩ nb e g _ rfl rfl rfl rfl ⟨rfl,rfl,rfl,rfl⟩ W d5 rfl
   (DocC.closed (par:=par) (f:=f) (d:=p8 nb f.ob.s e bul num (mb pos items) f.ob.q f.ob.n f.ob.c f.IM g) V d4 b6 c4 (ht.of rfl rfl rfl) ?_ ?_)
  ·rw[E];exact a7.1
  ·exact h
 refine⟨_,Sat.ld h (.head _) (i:=6) rfl,bM (λ_=>aa ?_) λ_=>?_⟩
 ·refine Sat.st h (k:=0) rfl (by simp[PS.cells]) trivial rfl λw h=>?_
  exact k2 true w h
 ·refine pj (nb:=nb) (s:=f.ob.s) (e:=e) (bul:=bul) (num:=num) (loose:=mb pos items) (items:=g) (b7▸O) a7.2 b8 h (λx H=>?_) λy=>⟨_,rfl,aa ?_⟩
  ·rcases lW0.1 H with rfl|H
   ·simp
   ·rcases lO0.1 H with H|H<;>simp[H]
  ·refine Sat.st h (k:=0) rfl (by simp[PS.cells]) trivial rfl λw h=>?_
   exact k2 y w h

structure Ln.has (l:Ln) (c:UInt8) (rest:List UInt8):Prop where
 ok:l.ok
 sp:l.sp=0
 tx:l.text.drop l.i=c::rest
theorem Ln.has.get {l:Ln}{c:UInt8}{r:List UInt8}(h:l.has c r):l.text[l.i]? =some c:=by
 have:=congrArg (λx:List UInt8=>x[0]?) h.tx
 simpa using this
theorem Ln.has.lt {l:Ln}{c:UInt8}{r:List UInt8}(h:l.has c r):l.i<l.text.length:=by
 have:=congrArg List.length h.tx
 simp at this;omega
theorem Ln.has.next {l:Ln}{c d:UInt8}{r:List UInt8}(h:l.has c (d::r)):({l with i:=l.i+1}:Ln).has d r:=by
 have g:=congrArg List.length h.tx
 simp at g
 refine⟨⟨by show l.i+1<=l.text.length;omega,by show l.tab<=l.i+1;have:=h.ok.tab;omega,h.ok.len,h.ok.sp⟩,h.sp,?_⟩
 show l.text.drop (l.i+1)=d::r
 have:=congrArg (List.drop 1) h.tx
 rw[lK5] at this
 simpa[lR4] using this
theorem Ln.has.tsGo {l:Ln}{c:UInt8}{r:List UInt8}(h:l.has c r)(hc:cM c=false)(mn k n:Nat)(e:Bool):l.tsGo mn e (k+1) n=if mn<=n then some l else none:=by
 simp only[cM,lI2,beq_eq_false_iff_ne,ne_eq] at hc
 have g:=h.lt
 simp[Ln.tsGo,h.sp,h.get,hc.1,hc.2,Nat.not_le.2 g]
theorem Ln.has.sp1 {l:Ln}{r:List UInt8}{mn:Nat}{e:Bool}(h:l.has 32 r):l.trimSp mn 1 e=some {l with i:=l.i+1}:=by
 have g:=h.lt
 simp[Ln.trimSp,Ln.tsGo,h.sp,h.get,Nat.not_le.2 g]
theorem Ln.has.lead {l:Ln}{c:UInt8}{r:List UInt8}(h:l.has c r)(hc:cM c=false)(k:Nat)(e:Bool):l.lead (k+1) e=l:=by
 unfold Ln.lead Ln.trimSp;rw[h.tsGo hc];rfl
theorem Ln.has.strip {l:Ln}{c:UInt8}{r:List UInt8}(h:l.has c r)(hc:cM c=false):l.strip 3 0=(0,l):=by
 simp only[Ln.strip,Ln.trimSp];rw[h.tsGo hc];rfl
theorem Ln.has.peek {l:Ln}{c:UInt8}{r:List UInt8}(h:l.has c r):l.peek=c:=by
 unfold Ln.peek
 rw[h.sp,if_neg (by decide),lP0,h.get];rfl
theorem Ln.has.trimC {l:Ln}{c:UInt8}{r:List UInt8}(h:l.has c r)(d:UInt8):l.trimC d=if c=d then some {l with i:=l.i+1} else none:=by
 unfold Ln.trimC
 rw[h.sp,if_neg (by decide),h.get]
 simp
theorem Ln.has.blank {l:Ln}{c:UInt8}{r:List UInt8}(h:l.has c r)(hc:cM c=false):l.blank=false:=by
 unfold Ln.blank
 rw[h.tx,lL3,hc];rfl
theorem Ln.has.plain {l:Ln}{c:UInt8}{r:List UInt8}(h:l.has c r)(hc:nG c=true):l.plain:=by
 simp only[nG,lM1,lN5,bne_iff_ne,ne_eq] at hc
 obtain⟨⟨E,a6⟩,b4⟩:=hc
 have g:=te E
 simp only[lT,lN5,lI2,beq_eq_false_iff_ne,ne_eq] at E
 obtain⟨⟨⟨⟨⟨⟨⟨⟨_,O⟩,V⟩,W⟩,b3⟩,H⟩,b5⟩,I⟩,a7⟩:=E
 have y: ∀e,l.lead 3 e=l:=h.lead g 2
 have U:(l.lead 3 false).peek=c:=by rw[y];exact h.peek
 refine⟨h.ok,h.blank g,?_,?_,?_,LDecl.of_peek h.ok (by rw[h.strip g,h.peek];exact b4),HDecl.of_peek h.ok (by rw[U];exact a6),?_,?_⟩
 ·unfold Ln.quote;rw[y,h.trimC,if_neg O];rfl
 ·unfold Ln.heading;rw[y,h.trimC,if_neg V]
 ·unfold Ln.isHR
  simp only[y,h.peek]
  rw[if_neg]
  rintro (hh|hh|hh)
  ·exact I hh
  ·exact W hh
  ·exact a7 hh
 ·rw[h.strip g,h.peek];exact⟨b3,H⟩
 ·unfold Ln.trimSp;rw[h.tsGo g];rfl
theorem Ln.has.bullet {l:Ln}{c d:UInt8}{r:List UInt8}(h:l.has c (32::d::r))(hc:c=45\/c=42\/c=43)(hd:cM d=false):l.bullet=some (c,2,{l with i:=l.i+2}):=by
 have y:cM c=false:=by rcases hc with rfl|rfl|rfl<;>decide
 have g:=h.next.next
 unfold Ln.bullet
 rw[h.strip y]
 simp only[h.peek]
 rw[if_pos hc,h.trimC,if_pos rfl]
 show (match (Ln.trimSp 1 1 true _) with|none=>none|some t2=>_)=_
 rw[h.next.sp1]
 simp only
 rw[g.strip hd]
 simp only
 have:Ln.trimSp 1 1 true ({l with i:=l.i+1+1}:Ln)=none:=by
  unfold Ln.trimSp;rw[g.tsGo hd];rfl
 rw[this]
theorem drop_suffix {u s:List UInt8}(h:u<:+s):s.drop (s.length - u.length)=u:=by
 obtain⟨a,rfl⟩:=h
 rw[lA0,lF3,lB4]
theorem js {b:Nat}{p:PS}{M:List ai}{l:Ln}{c:UInt8}{r:List UInt8}(g:AL b p M l ci)(h:l.has c r)(hc:xi c)(O:l.isHR=false): ∀j (V:j<newsF.length),j<4->AL b p M l newsF[j]:=by
 obtain⟨E,H,I⟩:=hc
 intro j V U
 match j,U with
 |0,_=>exact λσ w L R g y=>iu (x:= .nilIface) g h.ok (by unfold Ln.quote;rw[h.lead E 2,h.trimC,if_neg H];rfl) y
 |1,_=>exact λσ w L R g y=>ly g h.ok (by unfold Ln.heading;rw[h.lead E 2,h.trimC,if_neg I]) y
 |2,_=>exact g
 |3,_=>exact λσ w L R g y=>rA g h.ok O y
end Go.Proofs.YtendaipfdnhnaaaGreatDoor
