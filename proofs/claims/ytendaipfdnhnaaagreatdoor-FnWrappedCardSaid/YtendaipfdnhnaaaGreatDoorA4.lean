/- Part 4 of the proof of the law FnWrapped: for every input the law returns true, the inputs read as they did, and memory that was there is as it was; under the conditions of the given row alone. -/
import Derived.Laws.RangeString
import Derived.Test.YtendaipfdnhnaaaGreatDoorA3
set_option linter.all false
open Go.IntKind(i64)
open ByteArray renaming mk→hP
open List renaming replicate→hN
namespace Go.Proofs.YtendaipfdnhnaaaGreatDoor
open Go.Proofs Go.IntWalk Go.RowKit
set_option maxRecDepth 20000
variable {σ:Out} {w:World} {L L':List ai} {R:Ending->World->Prop} {G:List UInt8->List Inl} {op:Opt}

def Bk.isRoot (f:Bk):Prop:= ∃g,f.ob.bd=HN g/\f.own= [(g,cel [] fh)]
def qE (op:Opt)(fs:List Bk)(lf:Leaf)(Q:List DB->Prop):Prop:=
 ∀(σ:Out) (R:Ending->World->Prop) (L:List ai) (b pb:Nat) (p:PS) (w:World) (X:OA->Int->WP),(∀y g w,aI.bl1 R X y g w->X y g w)->op.at pb∈L->p.pz=kE pb->DocC σ b L fs lf p w->
  (∀w (p':PS) root,p'.base=p.base->root.isRoot->Q root.D->DocC σ b L [root] .none p' w->X (kE b) 0 w)->X (kE b) 0 w
theorem Br {op:Opt}{b pb:Nat}{p:PS}{fs:List Bk}{lf:Leaf}{Q:List DB->Prop}(b9:qE op fs lf Q)(h:DocC σ b L fs lf p w)(b3:p.pz=kE pb)(b5:op.at pb∈L)(c3: ∀w (p':PS) E db IM y q n c s e,p'.base= {p.base with root:=kE db}->Q E->Txts p' ((cj E).map TX.t) y->Sl 1 aO q n c (E.map DB.v) IM->n<1000000->
  Sat σ w (p'.at b::(y++((cj E).map TX.chunk++(B1 db s e q n c p.links::(IM++(cZ E++L))))))->R (hQ (.tuple #[])) w):
 callE P bm #[kT (kE b),hY 0] R w:=by
 refine aI.sound ?_;have h0:=h;obtain⟨M,y,a6,c2,hs,ht,O,c5,h⟩:=h;refine aa ?_;refine⟨_,_,_,h.ldA,?_⟩;refine af (by simp) ?_;intro X I;refine b9 σ R L b pb p w X I b5 b3 h0 λw g root hb W c1 h=>?_
 obtain⟨U,b6,a7⟩:=W;obtain⟨M,y,a6,c2,hs,ht,O,⟨rfl,rfl⟩,h⟩:=h;have hs:Stk g [root.ob] M:=hs;have b8:g.stn=1:=hs.2.1;have b7:g.links=p.links:=by have:=congrArg PS.links hb;exact this
 refine I _ _ _ (aa ?_);refine⟨_,_,_,h.ldA,?_⟩;rw[b8];refine ag rfl ?_;refine yp h hs b6 λw db h=>⟨_,rfl,I _ _ _ (aa ?_)⟩
 refine⟨_,_,_,h.ldA,?_⟩;refine af rfl ?_;obtain⟨V,c4,_⟩:=O root (by simp);have b4:=V.1;simp only[lQ0,lA1] at b4;rw[dO] at ht;refine c3 w {g with stn:=0,root:=kE db} root.D db root.IM y root.ob.q root.ob.n root.ob.c root.ob.s root.ob.e ?_ c1 (ht.of rfl rfl rfl) V (by omega) ?_
 ·have e:({g with stn:=0,root:=kE db}:PS).base= {g.base with root:=kE db}:=rfl
  rw[e,hb]
 ·rw[<-b7];rw[dC,a7] at h;have h:Sat σ w (({g with stn:=0,root:=kE db}:PS).at b::M++(B1 db root.ob.s root.ob.e root.ob.q root.ob.n root.ob.c g.links::(y++(root.IM++([(U,cel [] fh)]++(cZ root.D++(cj root.D).map TX.chunk))++([]++L))))):=h
  exact h.less (M++ [(U,cel [] fh)])
def qz (L0:List ai)(op:Opt)(n:Nat)(l:List UInt8)(nl:UInt8)(fs:List Bk)(lf:Leaf)(J:List Bk->Leaf->Prop):Prop:=
 ∀(σ:Out) (R:Ending->World->Prop) (L:List ai) (b pb:Nat) (p:PS) (w:World),(∀c∈L0,c∈L)->op.at pb∈L->p.pz=kE pb->p.lineno=n->n<1000000000->DocC σ b L fs lf p w->
  (∀w (p':PS) y g,p'.base=p.base->p'.lineno=p.lineno->J y g->DocC σ b L y g p' w->R (hQ (.tuple #[])) w)->callE P iA #[kT (kE b),(CZ l nl).val] R w
theorem C2 {L0:List ai}{op:Opt}{E:List (List UInt8 × UInt8)->Nat->List Bk->Leaf->Prop}(step: ∀l nl rem n fs lf,E ((l,nl)::rem) n fs lf->qz L0 op (n+1) l nl fs lf (E rem (n+1)))(d3: ∀c∈L0,c∈L){X:OA->BA->Nat->WP}{b pb:Nat}{p0:PS}(V: ∀c1 c2 c3 w,bu.bl1 R X c1 c2 c3 w->X c1 c2 c3 w)(d1:op.at pb∈L)(d0:p0.pz=kE pb)(b9: ∀w (p:PS) fs lf,p.base=p0.base->E [] p.lineno fs lf->DocC σ b L fs lf p w->bu.bl1 R X (kE pb) (bs []) b w){text:List UInt8}{ls:List (List UInt8 × UInt8)}(O:LinesOf text ls):
 ∀w (p:PS) fs lf,text.length<1000000->p.lineno+ls.length<1000000000->p.base=p0.base->E ls p.lineno fs lf->DocC σ b L fs lf p w->X (kE pb) (bs text) b w:=by
 have k3: ∀(l:List UInt8) (nl:UInt8) (t:List UInt8) (rem:List (List UInt8 × UInt8)) w (p:PS) fs lf,(∀w (p:PS) fs lf,p.lineno+rem.length<1000000000->p.base=p0.base->E rem p.lineno fs lf->DocC σ b L fs lf p w->X (kE pb) (bs t) b w)->
  p.lineno+rem.length+1<1000000000->p.base=p0.base->E ((l,nl)::rem) p.lineno fs lf->DocC σ b L fs lf p w->bu.k3 R X (kE pb) (bs t) b (bs l) (nl.toNat:Int) w:=by
  intro l nl t rem w p fs lf next y hb g h
  obtain⟨M,a6,b3,W,hs,ht,b7,O,h⟩:=h;unfold bu.k3;refine⟨_,Sat.ld h (.head _) (i:=3) rfl,?_⟩;rw[aL (by omega)];refine h.stA 0 λw h=>?_
  let U:PS:= {p with lineno:=p.lineno+1}
  have h:Sat σ w (U.at b::M++(a6++(aN fs++(W++L)))):=h
  have b8:U.base=p0.base:=hb;have c8:U.pz=kE pb:=by
   have:=congrArg PS.pz b8;rw[show U.pz=p0.pz from this];exact d0
  refine step l nl rem p.lineno fs lf g σ _ L b pb U w d3 d1 c8 rfl (by omega) ⟨M,a6,b3,W,hs.of rfl rfl rfl,ht.of rfl rfl rfl,b7,O,h⟩ λw p2 c9 d2 e1 c4 e2 e3=>⟨rfl,?_⟩
  exact next w p2 c9 d2 (by rw[c4];show p.lineno+1+_<_;omega) (e1.trans b8) (by rw[c4];exact e2) e3
 induction O with
 |nil=>
  intro w p fs lf b4 y hb g h;exact V _ _ _ _ (b9 w p fs lf hb g h)
 | @last l hne hnl=>
  intro w p fs lf b4 y hb g h;have b5:lG l [10]= -1:=by unfold lG;rw[lF hnl.1]
  have b6:lG l [13]= -1:=by unfold lG;rw[lF hnl.2]
  refine V _ _ _ _ (ag (by rw[cn];simpa using hne) ?_);refine kA (sub:= [10]) (by omega) (by decide) ⟨_,rfl,?_⟩;refine kA (sub:= [13]) (by omega) (by decide) ⟨_,rfl,?_⟩;rw[b5,b6];refine af rfl (af rfl ?_);refine k3 l 0 [] [] w p fs lf ?_ (by simp at y⊢;omega) hb g h;intro w p fs lf y hb g h;exact V _ _ _ _ (b9 w p fs lf hb g h)
 | @cons l t ls hnl hLt ih=>
  intro w p fs lf b4 y hb g h;have c5:13 ∉ l++10::t:=(LinesOf.cons hnl hLt).no13
  have b5:lG (l++10::t) [10]=(l.length:Nat):=by unfold lG;rw[Dk hnl.1]
  have b6:lG (l++10::t) [13]= -1:=by unfold lG;rw[lF c5]
  have a7:(l++10::t).length=l.length+t.length+1:=by simp;omega
  refine V _ _ _ _ (ag (by rw[cn];simp[gL]) ?_);refine kA (sub:= [10]) (by omega) (by decide) ⟨_,rfl,?_⟩;refine kA (sub:= [13]) (by omega) (by decide) ⟨_,rfl,?_⟩;rw[b5,b6];refine af rfl ?_;refine ag (by simp) ?_;obtain⟨M,a6,b3,W,hs,ht,b7,O,h⟩:=h;refine Sat.tk h λw h=>?_
  rw[aL (by omega),aF,lC0,lC0,og,bV,lO2,lS4];refine⟨by omega,by rw[a7];omega,by omega,by rw[a7];omega,?_⟩;have e0:(l++10::t).drop (l.length+1)=t:=by rw[lY5];simp
  rw[e0];refine k3 l 10 t ls w p fs lf ?_ (by simp at y⊢;omega) hb g ⟨M,a6,b3,W,hs,ht,b7,O,h⟩;intro w p fs lf y hb g h;exact ih w p fs lf (by rw[a7] at b4;omega) y hb g h
theorem pQ {X:OA->Int->WP}{b k:Nat}{fs:List Bk}{lf:Leaf}{p:PS}(U: ∀y E w,aI.bl1 R X y E w->X y E w)(h:DocC σ b L fs lf p w)(b3:k<fs.length)(hc:callE P aJ #[kT (kE b)] (λe O=> ∃(I:Value),e= hQ I/\X (kE b) (k:Int) O) w):X (kE b) (k:Int) w:=by
 obtain⟨M,a6,V,a7,hs,ht,W,b4,h⟩:=h;have g:=hs.2.1;rw[lA0,lQ0] at g;refine U _ _ _ (aa ?_);refine⟨_,_,_,h.ldA,?_⟩;rw[g];exact ag (by simp;omega) hc
theorem pJ {p p':PS}(h:p'.base=p.base):p'.pz=p.pz:=by have:=congrArg PS.pz h;exact this
namespace bY
def k1 (R:EP)(e5:OA)(y g:Nat)(w:World):Prop:=callE P ct #[kT (kE y)] (λe b4=>∃c8,e= hQ (hV c8)/\br c8 (stV b4 (hZ g 0) (hY 0) λd1=>stV d1 (hZ g 1) (hY 0) λe0=>stV e0 (hZ g 2) (hY 0) λd2=>stV d2 (hZ g 3) (hX (hP #[])) λe3=>stV e3 (hZ g 4) (.int .u8 0) λI=>∃c5,I.cell? (hZ g 0)=some (hY c5)/\∃a6,I.cell? (hZ g 1)=some (hY a6)/\∃U,I.cell? (hZ g 2)=some (hY U)/\∃b5,I.cell? (hZ g 3)=some (hX b5)/\∃a7,I.cell? (hZ g 4)=some (.int .u8 a7)/\R (hQ (.tuple #[.agg #[hY c5,hY a6,hY U,hX b5,.int .u8 a7],hV true])) I) (callE P ct #[kT (kE y)] (λe c9=>∃b8,e= hQ (hV b8)/\br (!b8) (aA e5 λd0=>stV c9 ((d0.add 2).add 0) (hV true) λO=>∃W,O.cell? (hZ y 0)=some (hY W)/\∃c3,O.cell? (hZ y 1)=some (hY c3)/\∃c4,O.cell? (hZ y 2)=some (hY c4)/\∃c2,O.cell? (hZ y 3)=some (hX c2)/\∃V,O.cell? (hZ y 4)=some (.int .u8 V)/\stV O (hZ g 0) (hY W) λd3=>stV d3 (hZ g 1) (hY c3) λe2=>stV e2 (hZ g 2) (hY c4) λe1=>stV e1 (hZ g 3) (hX c2) λe4=>stV e4 (hZ g 4) (.int .u8 V) λE=>∃b3,E.cell? (hZ g 0)=some (hY b3)/\∃b7,E.cell? (hZ g 1)=some (hY b7)/\∃b9,E.cell? (hZ g 2)=some (hY b9)/\∃c1,E.cell? (hZ g 3)=some (hX c1)/\∃b6,E.cell? (hZ g 4)=some (.int .u8 b6)/\R (hQ (.tuple #[.agg #[hY b3,hY b7,hY b9,hX c1,.int .u8 b6],hV true])) E) (False)) b4)) w
end bY
def bY (R:EP)(y b8:OA)(V W b4:Int)(U:BA)(a6:Int)(w:World):Prop:=box w #[hY V,hY W,hY b4,hX U,.int .u8 a6] aW λb1 b5=>box b5 #[hY 0,hY 0,hY 0,hX (hP #[]),.int .u8 0] aW λO b7=>callE P ct #[kT (kE b1)] (λe g=>∃E,e= hQ (hV E)/\br E (aA y λb6=>∃I,g.cell? (b6.add 2)=some (hV I)/\br (!I) (False) (bY.k1 R y b1 O g)) (bY.k1 R y b1 O g)) b7
theorem bY.sound {R x0 x1 x2_0 x2_1 x2_2 x2_3 x2_4 w}(h:bY R x0 x1 x2_0 x2_1 x2_2 x2_3 x2_4 w):callE P fA #[kT x0,kT x1,.agg #[hY x2_0,hY x2_1,hY x2_2,hX x2_3,.int .u8 x2_4]] R w:=
 aG [(21,.no),(7,.mk [2,106,126] (bY.k1 R)),(119,.no)] Tryz.func439 Tryz.call439 h
def gS (R:EP)(e3 e4:OA)(c9 c5 c8:Int)(c4:BA)(d0:Int)(w:World):Prop:=box w #[hY c9,hY c5,hY c8,hX c4,.int .u8 d0] aW λb1 e2=>box e2 #[hY 0,hY 0,hY 0,hX (hP #[]),.int .u8 0] aW λg E=>∃b9,E.cell? (hZ b1 0)=some (hY b9)/\∃c3,E.cell? (hZ b1 1)=some (hY c3)/\∃b8,E.cell? (hZ b1 2)=some (hY b8)/\∃c1,E.cell? (hZ b1 3)=some (hX c1)/\∃c2,E.cell? (hZ b1 4)=some (.int .u8 c2)/\callE P mF #[.agg #[hY b9,hY c3,hY b8,hX c1,.int .u8 c2]] (λe d1=>∃V O,∃I U,∃W a6,e= hQ (.tuple #[.agg #[hY V,hY O,hY I,hX U,.int .u8 W],hV a6])/\stV d1 (hZ g 0) (hY V) λe0=>stV e0 (hZ g 1) (hY O) λd2=>stV d2 (hZ g 2) (hY I) λe1=>stV e1 (hZ g 3) (hX U) λd3=>stV d3 (hZ g 4) (.int .u8 W) λy=>∃b5,y.cell? (hZ g 0)=some (hY b5)/\∃a7,y.cell? (hZ g 1)=some (hY a7)/\∃b7,y.cell? (hZ g 2)=some (hY b7)/\∃b6,y.cell? (hZ g 3)=some (hX b6)/\∃b4,y.cell? (hZ g 4)=some (.int .u8 b4)/\R (hQ (.tuple #[.agg #[hY b5,hY a7,hY b7,hX b6,.int .u8 b4],hV a6])) y) E
theorem gS.sound {R x0 x1 x2_0 x2_1 x2_2 x2_3 x2_4 w}(h:gS R x0 x1 x2_0 x2_1 x2_2 x2_3 x2_4 w):callE P gN #[kT x0,kT x1,.agg #[hY x2_0,hY x2_1,hY x2_2,hX x2_3,.int .u8 x2_4]] R w:=
 cF Tryz.func435 Tryz.call435 h
def iH (R:EP)(u4 v2:OA)(r4 q2 r1:Int)(q4:BA)(q3:Int)(w:World):Prop:=box w #[hY r4,hY q2,hY r1,hX q4,.int .u8 q3] aW λb1 v0=>box v0 #[hY 0,hY 0,hY 0,hX (hP #[]),.int .u8 0] aW λg q0=>aA u4 λa5=>∃U,q0.cell? (a5.add 3)=some (kT U)/\tk q0 λO=>∃q1,(∀w,(do eqGuard .neq bw (.tmp 13) (.const (kT none)) (kT U) (kT none);binOp .neq bw (kT U) (kT none)).run P w= .ok (hV q1) w)/\br q1 (aA U λa9=>aA U λa10=>∃f1,O.cell? (a9.add 1)=some (hY f1)/\∃m3,O.cell? (a10.add 1)=some (hY m3)/\callE P bp #[kT (kE b1),hY f1,hY m3,hV true] (λe y=>∃f5,e= hQ (hV f5)/\br f5 (∃i4,y.cell? (hZ b1 0)=some (hY i4)/\∃h8,y.cell? (hZ b1 1)=some (hY h8)/\∃e7,y.cell? (hZ b1 2)=some (hY e7)/\∃h9,y.cell? (hZ b1 3)=some (hX h9)/\∃l5,y.cell? (hZ b1 4)=some (.int .u8 l5)/\stV y (hZ g 0) (hY i4) λt9=>stV t9 (hZ g 1) (hY h8) λs7=>stV s7 (hZ g 2) (hY e7) λt7=>stV t7 (hZ g 3) (hX h9) λs5=>stV s5 (hZ g 4) (.int .u8 l5) λa7=>∃i2,a7.cell? (hZ g 0)=some (hY i2)/\∃f7,a7.cell? (hZ g 1)=some (hY f7)/\∃h7,a7.cell? (hZ g 2)=some (hY h7)/\∃m5,a7.cell? (hZ g 3)=some (hX m5)/\∃n2,a7.cell? (hZ g 4)=some (.int .u8 n2)/\R (hQ (.tuple #[.agg #[hY i2,hY f7,hY h7,hX m5,.int .u8 n2],hV true])) a7) (∃k0,(∀w,(do eqGuard .eql bw (.tmp 27) (.const (kT none)) (kT U) (kT none);binOp .eql bw (kT U) (kT none)).run P w= .ok (hV k0) w)/\br k0 (callE P ct #[kT (kE b1)] (λe E=>∃m4,e= hQ (hV m4)/\br m4 (∃h2,E.cell? (hZ b1 0)=some (hY h2)/\∃p5,E.cell? (hZ b1 1)=some (hY p5)/\∃e8,E.cell? (hZ b1 2)=some (hY e8)/\∃h4,E.cell? (hZ b1 3)=some (hX h4)/\∃m1,E.cell? (hZ b1 4)=some (.int .u8 m1)/\stV E (hZ g 0) (hY h2) λs4=>stV s4 (hZ g 1) (hY p5) λu1=>stV u1 (hZ g 2) (hY e8) λs9=>stV s9 (hZ g 3) (hX h4) λt4=>stV t4 (hZ g 4) (.int .u8 m1) λa6=>∃e6,a6.cell? (hZ g 0)=some (hY e6)/\∃g0,a6.cell? (hZ g 1)=some (hY g0)/\∃g5,a6.cell? (hZ g 2)=some (hY g5)/\∃f0,a6.cell? (hZ g 3)=some (hX f0)/\∃o0,a6.cell? (hZ g 4)=some (.int .u8 o0)/\R (hQ (.tuple #[.agg #[hY e6,hY g0,hY g5,hX f0,.int .u8 o0],hV true])) a6) (∃g3,E.cell? (hZ b1 0)=some (hY g3)/\∃g1,E.cell? (hZ b1 1)=some (hY g1)/\∃o2,E.cell? (hZ b1 2)=some (hY o2)/\∃f4,E.cell? (hZ b1 3)=some (hX f4)/\∃g2,E.cell? (hZ b1 4)=some (.int .u8 g2)/\stV E (hZ g 0) (hY g3) λs6=>stV s6 (hZ g 1) (hY g1) λt2=>stV t2 (hZ g 2) (hY o2) λs8=>stV s8 (hZ g 3) (hX f4) λt6=>stV t6 (hZ g 4) (.int .u8 g2) λb5=>∃i0,b5.cell? (hZ g 0)=some (hY i0)/\∃j1,b5.cell? (hZ g 1)=some (hY j1)/\∃j0,b5.cell? (hZ g 2)=some (hY j0)/\∃h6,b5.cell? (hZ g 3)=some (hX h6)/\∃o4,b5.cell? (hZ g 4)=some (.int .u8 o4)/\R (hQ (.tuple #[.agg #[hY i0,hY j1,hY j0,hX h6,.int .u8 o4],hV false])) b5)) y) (∃e4,y.cell? (hZ b1 0)=some (hY e4)/\∃n0,y.cell? (hZ b1 1)=some (hY n0)/\∃e2,y.cell? (hZ b1 2)=some (hY e2)/\∃o3,y.cell? (hZ b1 3)=some (hX o3)/\∃m2,y.cell? (hZ b1 4)=some (.int .u8 m2)/\stV y (hZ g 0) (hY e4) λt0=>stV t0 (hZ g 1) (hY n0) λt8=>stV t8 (hZ g 2) (hY e2) λt5=>stV t5 (hZ g 3) (hX o3) λu0=>stV u0 (hZ g 4) (.int .u8 m2) λb4=>∃h5,b4.cell? (hZ g 0)=some (hY h5)/\∃i8,b4.cell? (hZ g 1)=some (hY i8)/\∃f3,b4.cell? (hZ g 2)=some (hY f3)/\∃p4,b4.cell? (hZ g 3)=some (hX p4)/\∃i3,b4.cell? (hZ g 4)=some (.int .u8 i3)/\R (hQ (.tuple #[.agg #[hY h5,hY i8,hY f3,hX p4,.int .u8 i3],hV false])) b4))) O) (∃e9,(∀w,(do eqGuard .eql bw (.tmp 27) (.const (kT none)) (kT U) (kT none);binOp .eql bw (kT U) (kT none)).run P w= .ok (hV e9) w)/\br e9 (callE P ct #[kT (kE b1)] (λe I=>∃e3,e= hQ (hV e3)/\br e3 (∃g6,I.cell? (hZ b1 0)=some (hY g6)/\∃n3,I.cell? (hZ b1 1)=some (hY n3)/\∃i1,I.cell? (hZ b1 2)=some (hY i1)/\∃h1,I.cell? (hZ b1 3)=some (hX h1)/\∃h3,I.cell? (hZ b1 4)=some (.int .u8 h3)/\stV I (hZ g 0) (hY g6) λu2=>stV u2 (hZ g 1) (hY n3) λt3=>stV t3 (hZ g 2) (hY i1) λs3=>stV s3 (hZ g 3) (hX h1) λs2=>stV s2 (hZ g 4) (.int .u8 h3) λb6=>∃f2,b6.cell? (hZ g 0)=some (hY f2)/\∃p1,b6.cell? (hZ g 1)=some (hY p1)/\∃n1,b6.cell? (hZ g 2)=some (hY n1)/\∃p3,b6.cell? (hZ g 3)=some (hX p3)/\∃g7,b6.cell? (hZ g 4)=some (.int .u8 g7)/\R (hQ (.tuple #[.agg #[hY f2,hY p1,hY n1,hX p3,.int .u8 g7],hV true])) b6) (∃m6,I.cell? (hZ b1 0)=some (hY m6)/\∃g4,I.cell? (hZ b1 1)=some (hY g4)/\∃e5,I.cell? (hZ b1 2)=some (hY e5)/\∃f6,I.cell? (hZ b1 3)=some (hX f6)/\∃c4,I.cell? (hZ b1 4)=some (.int .u8 c4)/\stV I (hZ g 0) (hY m6) λr3=>stV r3 (hZ g 1) (hY g4) λq5=>stV q5 (hZ g 2) (hY e5) λr6=>stV r6 (hZ g 3) (hX f6) λr5=>stV r5 (hZ g 4) (.int .u8 c4) λW=>∃c8,W.cell? (hZ g 0)=some (hY c8)/\∃d1,W.cell? (hZ g 1)=some (hY d1)/\∃d0,W.cell? (hZ g 2)=some (hY d0)/\∃b8,W.cell? (hZ g 3)=some (hX b8)/\∃e1,W.cell? (hZ g 4)=some (.int .u8 e1)/\R (hQ (.tuple #[.agg #[hY c8,hY d1,hY d0,hX b8,.int .u8 e1],hV false])) W)) O) (∃c5,O.cell? (hZ b1 0)=some (hY c5)/\∃e0,O.cell? (hZ b1 1)=some (hY e0)/\∃c3,O.cell? (hZ b1 2)=some (hY c3)/\∃c1,O.cell? (hZ b1 3)=some (hX c1)/\∃d2,O.cell? (hZ b1 4)=some (.int .u8 d2)/\stV O (hZ g 0) (hY c5) λs1=>stV s1 (hZ g 1) (hY e0) λq8=>stV q8 (hZ g 2) (hY c3) λr9=>stV r9 (hZ g 3) (hX c1) λr7=>stV r7 (hZ g 4) (.int .u8 d2) λV=>∃b7,V.cell? (hZ g 0)=some (hY b7)/\∃c2,V.cell? (hZ g 1)=some (hY c2)/\∃b9,V.cell? (hZ g 2)=some (hY b9)/\∃c9,V.cell? (hZ g 3)=some (hX c9)/\∃d3,V.cell? (hZ g 4)=some (.int .u8 d3)/\R (hQ (.tuple #[.agg #[hY b7,hY c2,hY b9,hX c9,.int .u8 d3],hV false])) V))
theorem iH.sound {R x0 x1 x2_0 x2_1 x2_2 x2_3 x2_4 w}(h:iH R x0 x1 x2_0 x2_1 x2_2 x2_3 x2_4 w):callE P iC #[kT x0,kT x1,.agg #[hY x2_0,hY x2_1,hY x2_2,hX x2_3,.int .u8 x2_4]] R w:=
 aG [(19,.dr (rpN [0,3,6,9,12,15,21,24,27,19,31,35,36,39,42,45,48,53,54,57]))] Tryz.func437 Tryz.call437 h

theorem u5 {d:UInt8}(hd:cO d=false)(r:List UInt8): ∀m:List UInt8,∃g,(m++d::r).dropWhile cO=g++d::r
 | []=>⟨[],by simp[hd]⟩
 |x::m=>by
  rw[lR0,lB3];split
  ·exact u5 hd r m
  ·exact⟨x::m,rfl⟩
theorem Ln.hrGo_has {c d:UInt8}{r:List UInt8}: ∀(f n:Nat) (l:Ln),l.ok->l.sp=0->(∃m,l.text.drop l.i=m++d::r)->d≠c->cO d=false->l.hrGo c f n=false
 |0,_,_,_,_,_,_,_=>rfl
 |f+1,n,l,hl,hsp,⟨m,hm⟩,hdc,hd=>by
  cases m with
  |nil=>
   have h:l.has d r:=⟨hl,hsp,hm⟩;have:=h.lt;simp only[Ln.hrGo];rw[h.trimC,if_neg hdc];simp;omega
  |cons x m=>
   have h:l.has x (m++d::r):=⟨hl,hsp,by rw[hm];rfl⟩
   have b3:=h.lt;simp only[Ln.hrGo];rw[h.trimC]
   by_cases O:x=c
   ·rw[if_pos O];simp only;have a6: ∃E g,m++d::r=E::g:=by cases m with|nil=>exact⟨_,_,rfl⟩|cons E g=>exact⟨_,_,rfl⟩
    obtain⟨E,g,U⟩:=a6;have I:=(U▸h:l.has x (E::g)).next
    have V:({l with i:=l.i+1}:Ln).text.drop (l.i+1)=m++d::r:=by rw[U];exact I.tx
    have W:=Ln.skip_ok I.ok;refine Ln.hrGo_has (r:=r) f (n+1) _ W rfl ?_ hdc hd
    show∃a7,l.text.drop (({l with i:=l.i+1}:Ln).skip.i)=a7++d::r
    have e:l.text.drop (l.i+1)=m++d::r:=V
    have hi:({l with i:=l.i+1}:Ln).skip.i=l.text.length - ((m++d::r).dropWhile cO).length:=by
     simp only[Ln.skip,e]
    rw[hi,drop_suffix ((lW4 _).trans (e▸List.drop_suffix _ _))];exact u5 hd r m
   ·rw[if_neg O];simp;omega

theorem callE.mono {f:FuncId}{g:Array Value}{R y:Ending->World->Prop}(h:callE P f g R w)(hr: ∀e w,R e w->y e w):callE P f g y w:=
 h.imp (λ⟨a,c⟩=>⟨a,c.mono hr⟩) λ⟨v,O,E,I⟩=>⟨v,O,E,hr _ _ I⟩
theorem sa {b:Nat}{p:PS}{K:List ai}{t:TypeId}{v:Value}(h:Sat σ w (p.at b::K))(hd:0<=p.depth/\p.depth<1000000)(b3: ∀w,Sat σ w (p.at b::K)->callE P bm #[kT (kE b),hY (p.depth+1)] (λe w=>e= hQ (.tuple #[])/\ ∃(g:PS) (l:List OB) (M L:List ai),Stk g l M/\l.length<1048575/\Sat σ w (g.at b::M++L)/\
  ∀w (p':PS) y,p'= {g with stq:=p'.stq,stn:=l.length+1,stc:=p'.stc}->Stk p' (l++ [⟨.iface t v,none,0,0,g.lineno,g.lineno⟩]) y->Sat σ w (p'.at b::y++L)->R (hQ (.tuple #[])) w) w):
 callE P bQ #[kT (kE b),.iface t v] R w:=by
 refine fc.sound ?_
 repeat (first|refine aa ?_|refine h.tk λw h=>?_|refine⟨_,h.ldA,?_⟩|refine⟨_,_,_,h.ldA,?_⟩)
 rw[i64_in _ (by omega)];refine(b3 w h).mono λe w U=>⟨U.1,?_⟩
 obtain⟨_,g,l,M,L,hs,b7,h,b4⟩:=U;have a6:=hs.2.1
 repeat (first|refine aa ?_|refine h.tk λw h=>?_|refine⟨_,h.ldA,?_⟩|refine⟨_,_,_,h.ldA,?_⟩)
 have h:Sat σ w (M++(g.at b::L)):=h.re
 refine Sat.app1 rowOB hs.1 h (v:= .agg #[.nilIface,hT none 0 0,hY 0,hY 0]) rfl (by decide) (by kernel_rfl) (by omega) (by omega) (by decide) λb5 a7 w y I h=>?_
 have h:Sat σ w (g.at b::y++L):=h.re
 let p':PS:= {g with stq:=b5,stn:=l.length+1,stc:=a7}
 rw[a6] at I⊢
 (first|refine aa ?_|refine h.tk λw h=>?_|refine⟨_,h.ldA,?_⟩|refine⟨_,_,_,h.ldA,?_⟩|refine h.stA 0 λw h=>?_|refine h.stA 1 λw h=>?_|refine h.stA 2 λw h=>?_|refine h.stA 3 λw h=>?_|refine h.stA 4 λw h=>?_|refine h.stA 5 λw h=>?_|refine h.stA 6 λw h=>?_|refine h.bx λb0 w h=>?_)
 (first|refine aa ?_|refine h.tk λw h=>?_|refine⟨_,h.ldA,?_⟩|refine⟨_,_,_,h.ldA,?_⟩|refine h.stA 0 λw h=>?_|refine h.stA 1 λw h=>?_|refine h.stA 2 λw h=>?_|refine h.stA 3 λw h=>?_|refine h.stA 4 λw h=>?_|refine h.stA 5 λw h=>?_|refine h.stA 6 λw h=>?_|refine h.bx λb0 w h=>?_)
 have h:Sat σ w (p'.at b::y++L):=h
 have V:Stk p' (l++ [⟨.nilIface,none,0,0,0,0⟩]) y:=by
  refine⟨?_,by simp[p'],by simp;omega⟩;rw[jm];exact I
 obtain⟨sb,sp,O,rfl,W⟩:=V.split (by simp)
 repeat (first|refine aa ?_|refine h.tk λw h=>?_|refine⟨_,h.ldA,?_⟩|refine⟨_,_,_,h.ldA,?_⟩)
 rw[show p'.stn=l.length+1 from rfl,kP (by omega)];refine⟨by omega,by omega,?_⟩;rw[O];refine aa ?_;dsimp only[DP];simp only[lL0,lO0,lC0,lL1];have E: ∀(o:OB) (sp:List Value) f,f<4->l.length*4+f<(aP (l++ [o])++sp).length:=by
  intro o sp f b6;rw[lA0,aR,lA0,lE0];omega
 refine Sat.st h (k:=1) rfl (by have:=E ⟨.nilIface,none,0,0,0,0⟩ sp 0 (by decide);simpa using this) trivial rfl λw h=>?_
 have h:Sat σ w (p'.at b:: [(sb,cel (aP (l++ [⟨.iface t v,none,0,0,0,0⟩])++sp) az)]++L):=by
  have e:=lO (l:=l) (sp:=sp) (o:=⟨.nilIface,none,0,0,0,0⟩) (o':=⟨.iface t v,none,0,0,0,0⟩) (f:=0) (v:= .iface t v) (by decide) rfl
  rw[lL1] at e;rw[e] at h;exact h
 repeat (first|refine aa ?_|refine h.tk λw h=>?_|refine⟨_,h.ldA,?_⟩|refine⟨_,_,_,h.ldA,?_⟩)
 refine Sat.st h (k:=1) rfl (E _ sp 2 (by decide)) trivial rfl λw h=>?_
 have h:Sat σ w (p'.at b:: [(sb,cel (aP (l++ [⟨.iface t v,none,0,0,g.lineno,0⟩])++sp) az)]++L):=by
  have e:=lO (l:=l) (sp:=sp) (o:=⟨.iface t v,none,0,0,0,0⟩) (o':=⟨.iface t v,none,0,0,g.lineno,0⟩) (f:=2) (v:= hY g.lineno) (by decide) rfl
  have h:=h;rw[e] at h;exact h
 repeat (first|refine aa ?_|refine h.tk λw h=>?_|refine⟨_,h.ldA,?_⟩|refine⟨_,_,_,h.ldA,?_⟩)
 refine Sat.st h (k:=1) rfl (E _ sp 3 (by decide)) trivial rfl λw h=>?_
 have h:Sat σ w (p'.at b:: [(sb,cel (aP (l++ [⟨.iface t v,none,0,0,g.lineno,g.lineno⟩])++sp) az)]++L):=by
  have e:=lO (l:=l) (sp:=sp) (o:=⟨.iface t v,none,0,0,g.lineno,0⟩) (o':=⟨.iface t v,none,0,0,g.lineno,g.lineno⟩) (f:=3) (v:= hY g.lineno) (by decide) rfl
  have h:=h;rw[e] at h;exact h
 refine b4 _ p' _ rfl ?_ h;refine Stk.mk' O ?_ (by simp[p']) (by simp;omega);rw[<-W,lA0,lA0,aR,aR,lA0,lA0];rfl

theorem lA {b d:Nat}{p:PS}{ob:List OB}{o o1:OB}{M:List ai}{t t1:TypeId}{v v1:Value}{l:Ln}(h:Sat σ w (p.at b::M++L))(hs:Stk p (ob++ [o]) M)(hd:p.depth=d)(b6:d<1000000)(a7:(ob++ [o])[d+1]? =some o1)(a6:o1.bd= .iface t1 v1)(W:t1≠ar)(hb:o.bd= .iface t v)(hv:t=ar-> ∃q,v= kT q)(b7:l.ok)(b4: ∀w,Sat σ w (p.at b::M++L)->R (hQ (.tuple #[l.val,hV false])) w):callE P cg #[kT (kE b),l.val] R w:=by
 refine bM.sound ?_;refine Sat.bx h λb1 w h=>?_
 refine Sat.bx h λy w h=>?_
 refine Sat.bx h λg w h=>?_
 repeat (first|refine aa ?_|refine h.tk λw h=>?_|refine⟨_,h.ldA,?_⟩|refine⟨_,_,_,h.ldA,?_⟩|refine h.stA 0 λw h=>?_|refine h.stA 1 λw h=>?_|refine h.stA 2 λw h=>?_|refine h.stA 3 λw h=>?_|refine h.stA 4 λw h=>?_|refine h.stA 5 λw h=>?_|refine h.stA 6 λw h=>?_|refine h.bx λb0 w h=>?_)
 have h:Sat σ _ (l.at b0::(g,cel [hY 0] ba)::zLn y::l.at b1::(p.at b::M++L)):=h
 have h:Sat σ _ (p.at b::M++(l.at b0::(g,cel [hY 0] ba)::zLn y::l.at b1::L)):=h.re
 refine mA h hs hd (by omega) λw h=>?_
 rw[a7];refine⟨_,rfl,?_⟩;have fin: ∀(q:Option Addr) w,Sat σ w (p.at b::M++(l.at b0::(g,cel [hY 0] ba)::zLn y::l.at b1::L))-> ∃(I:Option Addr),hQ (.pointer q)= hQ (kT I)/\
  ∃(O:Bool),∃E,(do eqGuard .eql bO (.tmp 12) (.tmp 15) o1.bd (.iface ar (kT I));binOp .eql bO o1.bd (.iface ar (kT I))).run P w= .ok (hV O) E/\
  br O (callE P fG #[kT (kE b0),kT (kE g)] (λe V=> ∃(U:Bool),e= hQ (hV U)/\bM.k1 R (kE b) b1 y g U V) E) (bM.k1 R (kE b) b1 y g false E):=by
  intro q w h;refine⟨q,rfl,false,w,by rw[a6];exact zG uA W _ _ w,af rfl ?_⟩;have h:Sat σ _ (zLn y::l.at b1::(g,cel [hY 0] ba)::l.at b0::(p.at b::M++L)):=h.re
  refine af rfl ?_
  repeat (first|refine aa ?_|refine h.tk λw h=>?_|refine⟨_,h.ldA,?_⟩|refine⟨_,_,_,h.ldA,?_⟩|refine h.stA 0 λw h=>?_|refine h.stA 1 λw h=>?_|refine h.stA 2 λw h=>?_|refine h.stA 3 λw h=>?_|refine h.stA 4 λw h=>?_|refine h.stA 5 λw h=>?_|refine h.stA 6 λw h=>?_|refine h.bx λb0 w h=>?_)
  have h:Sat σ _ (l.at y::l.at b1::(g,cel [hY 0] ba)::l.at b0::(p.at b::M++L)):=h
  exact b4 _ h.tail.tail.tail.tail
 refine rC h hs hb (λw h=>?_) hv
 by_cases ht:t=ar
 ·rw[if_pos ht];obtain⟨q,rfl⟩:=hv ht;exact fin q w h
 ·rw[if_neg ht];exact fin none w h
theorem B8:P.underlying bw=some (.pointer iJ):=by kernel_rfl
theorem yZ {b b1 lb d:Nat}{num:Int}{lo:Bool}{it:Option Addr}{td:Value}{p:PS}{ob:List OB}{o:OB}{M:List ai}{l t:Ln}{c:UInt8}{W n:Nat}(h:Sat σ w (l.at b1::(p.at b::M++(cP lb c.toNat num lo it td::L))))(hs:Stk p ob M)(hd:p.depth=d)(a7:d<1000000)(V:ob[d+1]? =some o)(U:o.bd=C1 lb)(b3:l.ok)(hb:qB l c W n t)(a6: ∀w E y g O ib,Sat σ w (l.at b1::(p.at b::M++(cP lb c.toNat num lo it (li E O g y)::(E,cel [kT (kE b)] ah)::t.at y::iv g lb::jK O ib::gC ib lb n (!t.blank)::L)))->R (hQ (hV true)) w):
 callE P bN #[kT (kE b),kT (kE b1)] R w:=by
 have ht:=hb.ok;refine hb.run h λw y E I t' h=>?_
 refine Sat.bx h λg w h=>?_
 refine⟨_,Sat.ld h (.tail _ (.tail _ (.head _))) (i:=0) rfl,?_⟩;have h:Sat σ w (p.at b::M++((g,cel [kT none] aB)::cP lb c.toNat num lo it td::(E,cel [kT (kE b)] ah)::t.at y::t'.at I::l.at b1::L)):=h.re
 refine mA (d:=d) h hs hd (by omega) λw h=>⟨_,rfl,?_⟩
 rw[V];dsimp only;refine⟨kE lb,true,w,by rw[U];exact lx _ w,ag rfl ?_⟩;have h:Sat σ w ((g,cel [kT none] aB)::cP lb c.toNat num lo it td::(E,cel [kT (kE b)] ah)::t.at y::(p.at b::M++(t'.at I::l.at b1::L))):=h.re
 refine h.stA 0 λw h=>?_
 have h:Sat σ w (iv g lb::cP lb c.toNat num lo it td::(E,cel [kT (kE b)] ah)::t.at y::(p.at b::M++(t'.at I::l.at b1::L))):=h
 refine⟨_,Sat.ld h (.head _) (i:=0) rfl,_,_,kK ni _ w,af rfl ?_⟩;refine⟨_,Sat.ld h (.head _) (i:=0) rfl,aa ?_⟩;refine⟨_,Sat.ld h (.tail _ (.head _)) (i:=0) rfl,?_⟩;rw[Au];refine af (by simp) ?_;have h:Sat σ w (cP lb c.toNat num lo it td::t.at y::iv g lb::(p.at b::M++((E,cel [kT (kE b)] ah)::(t'.at I::l.at b1::L)))):=h.re
 refine qQ h ht λw O ib h=>?_
 refine a6 w E y g O ib ?_;exact h.less [t'.at I]
theorem vN {b lb d:Nat}{num:Int}{lo:Bool}{it:Option Addr}{td:Value}{p:PS}{ob:List OB}{U o:OB}{M:List ai}{l t:Ln}{c:UInt8}{b6 n:Nat}{ty:TypeId}{v:Value}(h:Sat σ w (p.at b::M++(cP lb c.toNat num lo it td::L)))(hs:Stk p ob M)(hd:p.depth=d)(V:d<1000000)(W:ob[d]? =some U)(b4:U.bd= .iface ty v)(a6:ty≠aB)(b5:ob[d+1]? =some o)(a7:o.bd=C1 lb)(b7:l.ok)(hb:qB l c b6 n t)(b8: ∀w I E g y ib,Sat σ w (p.at b::M++(cP lb c.toNat num lo it (li I y g E)::(I,cel [kT (kE b)] ah)::t.at E::iv g lb::jK y ib::gC ib lb n (!t.blank)::L))->R (hQ (.tuple #[l.val,hV true])) w):
 callE P cm #[kT (kE b),l.val] R w:=by
 refine cQ.sound ?_;refine Sat.bx h λb1 w h=>?_
 refine Sat.bx h λO w h=>?_
 have h:Sat σ w (zLn O::l.at b1::(p.at b::M++(cP lb c.toNat num lo it td::L))):=h
 have h:Sat σ w (p.at b::M++(zLn O::l.at b1::cP lb c.toNat num lo it td::L)):=h.re
 refine ro h hs hd λw h=>?_
 rw[W];dsimp only;refine⟨_,rfl,none,false,w,by rw[b4];exact ie a6 w,af rfl (af rfl ?_)⟩;have h:Sat σ w (l.at b1::(p.at b::M++(cP lb c.toNat num lo it td::(zLn O::L)))):=h.re
 refine yZ h hs hd V b5 a7 b7 hb λw I E g y ib h=>⟨_,rfl,ag rfl ?_⟩
 have h:Sat σ w (zLn O::l.at b1::(p.at b::M++(cP lb c.toNat num lo it (li I y g E)::(I,cel [kT (kE b)] ah)::t.at E::iv g lb::jK y ib::gC ib lb n (!t.blank)::L))):=h.re
 repeat (first|refine aa ?_|refine h.tk λw h=>?_|refine⟨_,h.ldA,?_⟩|refine⟨_,_,_,h.ldA,?_⟩|refine h.stA 0 λw h=>?_|refine h.stA 1 λw h=>?_|refine h.stA 2 λw h=>?_|refine h.stA 3 λw h=>?_|refine h.stA 4 λw h=>?_|refine h.stA 5 λw h=>?_|refine h.stA 6 λw h=>?_|refine h.bx λb0 w h=>?_)
 have h:Sat σ _ (l.at O::l.at b1::(p.at b::M++(cP lb c.toNat num lo it (li I y g E)::(I,cel [kT (kE b)] ah)::t.at E::iv g lb::jK y ib::gC ib lb n (!t.blank)::L))):=h
 exact b8 _ I E g y ib h.tail.tail
def fJ (b I E g y lb ib n:Nat)(hv:Bool)(t:Ln):List ai:= [(I,cel [kT (kE b)] ah),t.at E,iv g lb,jK y ib,gC ib lb n hv]
theorem HF {b lb U O I E ib n:Nat}{bul num:Int}{hv:Bool}{p:PS}{gs:List Bk}{V:Bk}{rest:List Bk}{it:Option Addr}{lf:Leaf}{l t:Ln}{Post:PS->Bk->Prop}(h:DocC σ b (fJ b U O I E lb ib n hv t++L) (gs++V::rest) lf p w)(c8:V.isListT lb bul num it (li U E I O))(hd:p.depth=gs.length)(h2:gs.length<100000)(d2:p.lineno<1000000000)(g2: ∀(K:List ai) (e2:Ending->World->Prop) w,(∀x∈fJ b U O I E lb ib n hv t++L,x∈K)->DocC σ b K (gs++V::rest) lf p w->(∀w (a7:PS) y c3,Post a7 y->a7.base=p.base->a7.lineno=p.lineno->a7.depth=p.depth->y.isListT lb bul num c3 (li U E I O)->DocC σ b K (gs++ [y]) .none a7 w->e2 (hQ (.tuple #[])) w)->
  callE P bm #[kT (kE b),hY ((gs.length:Int)+1)] e2 w)(g4: ∀w (p':PS) a7 y c2 g,Post a7 y->p'.base=p.base->p'.lineno=p.lineno->p'.depth=p.depth->c2.isListT lb bul num (kE ib) .nilFunc->c2.ob=y.ob->c2.D=y.D->ItemOf (kE ib) g lb n hv->g.D= []->g.ob.s=p.lineno->g.ob.e=p.lineno->DocC σ b L (gs++ [c2,g]) .none p' w->R (hQ (.tuple #[t.val,hV true])) w):
 callE P cm #[kT (kE b),l.val] R w:=by
 have h1:=h;obtain⟨M,b6,c9,b4,hs,ht,e0,g0,h⟩:=h;have h3:=e0 V (by simp);refine cQ.sound ?_;refine Sat.bx h λb1 w h=>?_
 refine Sat.bx h λW w h=>?_
 have e6:((gs++V::rest).map Bk.ob++c9)[gs.length]? =some V.ob:=by simp
 have e7:aN (gs++V::rest)=aN gs++(V.IM++(V.own++(cZ V.D++txc V.D))++aN rest):=by
  rw[bi,show V::rest= [V]++rest from rfl,bi,dC]
 have h:Sat σ w (zLn W::l.at b1::(p.at b::M++(b6++(aN (gs++V::rest)++(b4++(fJ b U O I E lb ib n hv t++L)))))):=h
 have h:Sat σ w (p.at b::M++(zLn W::l.at b1::(b6++(aN (gs++V::rest)++(b4++(fJ b U O I E lb ib n hv t++L)))))):=h.re
 refine ro h hs hd λw h=>?_
 rw[e6];dsimp only;refine⟨_,rfl,kE lb,true,w,by rw[c8.1];exact lx _ w,ag rfl (aa ?_)⟩;obtain⟨_,_,_,f1⟩:=oF wJ;have d1:cP lb bul num false it (li U E I O)∈p.at b::M++(zLn W::l.at b1::(b6++(aN (gs++V::rest)++(b4++(fJ b U O I E lb ib n hv t++L))))):=by rw[e7,c8.2];simp
 refine⟨_,Sat.ld h d1 (i:=4) rfl,true,w,nE f1 _ _ _ w,ag rfl (aa ?_)⟩;refine⟨_,Sat.ld h d1 (i:=4) rfl,?_⟩;refine ir ?_;refine dw.sound ?_;refine Sat.bx h λa6 w h=>?_
 have h:Sat σ w (zLn a6::(p.at b::M++(zLn W::l.at b1::(b6++(aN (gs++V::rest)++(b4++(fJ b U O I E lb ib n hv t++L))))))):=h
 have f2:(U,cel [kT (kE b)] ah)∈fJ b U O I E lb ib n hv t:= .head _;have e8:jK E ib∈fJ b U O I E lb ib n hv t:=by simp[fJ]
 have g6:iv I lb∈fJ b U O I E lb ib n hv t:=by simp[fJ]
 refine⟨_,Sat.ld h (by simp[f2]:(U,cel [kT (kE b)] ah)∈_) (i:=0) rfl,_,Sat.ld h (by simp[e8]:jK E ib∈_) (i:=0) rfl,?_⟩
 let c5:List ai:=zLn a6::zLn W::l.at b1::(fJ b U O I E lb ib n hv t++L)
 have h:Sat σ w (p.at b::(M++(b6++(aN (gs++V::rest)++(b4++c5))))):=by
  show Sat σ w (p.at b::(M++(b6++(aN (gs++V::rest)++(b4++(zLn a6::zLn W::l.at b1::(fJ b U O I E lb ib n hv t++L)))))))
  exact h.re
 refine sa h (by omega) λw h=>?_
 have f0:DocC σ b c5 (gs++V::rest) lf p w:=⟨M,b6,c9,b4,hs,ht,e0,g0,h⟩
 rw[hd];refine g2 c5 _ w (λx g1=> .tail _ (.tail _ (.tail _ g1))) f0 λw a7 y c3 e4 f4 d3 f3 e1 g3=>⟨rfl,?_⟩
 obtain⟨f7,b9,g5,g7,f6,f5,d0,⟨rfl,rfl⟩,h⟩:=g3;have e9:=d0 y (by simp);rw[bi,dC,e1.2] at h;refine⟨a7,(gs++ [y]).map Bk.ob++ [],f7,_,f6,by simp;omega,h,λw p' c1 b8 c4 h=>⟨rfl,?_⟩⟩;have h:Sat σ w (cP lb bul num false c3 (li U E I O)::zLn a6::t.at O::zLn W::l.at b1::iv I lb::jK E ib::(p'.at b::c1++(b9++(aN gs++(y.IM++(cZ y.D++(txc y.D++((U,cel [kT (kE b)] ah)::gC ib lb n hv::L)))))))):=by
  have h:Sat σ w (p'.at b::c1++(b9++(aN gs++(y.IM++([cP lb bul num false c3 (li U E I O)]++(cZ y.D++txc y.D)))++([]++(zLn a6::zLn W::l.at b1::((U,cel [kT (kE b)] ah)::t.at O::iv I lb::jK E ib::gC ib lb n hv::L)))))):=h
  exact h.re
 refine⟨_,Sat.ld h (by simp:iv I lb∈_) (i:=0) rfl,_,Sat.ld h (by simp:jK E ib∈_) (i:=0) rfl,aa ?_⟩;generalize e3:(p'.at b::c1++(b9++(aN gs++(y.IM++(cZ y.D++(txc y.D++((U,cel [kT (kE b)] ah)::gC ib lb n hv::L)))))))=KK at h;refine h.stA 0 λw h=>?_
 have h:Sat σ w (t.at O::zLn a6::cP lb bul num false (kE ib) (li U E I O)::zLn W::l.at b1::iv I lb::jK E ib::KK):=by
  have h:Sat σ w (cP lb bul num false (kE ib) (li U E I O)::zLn a6::t.at O::zLn W::l.at b1::iv I lb::jK E ib::KK):=h
  exact h.re
 refine⟨_,h.ldA,?_⟩;refine⟨_,h.ldA,?_⟩;refine⟨_,h.ldA,?_⟩;refine⟨_,h.ldA,?_⟩;refine⟨_,h.ldA,?_⟩;refine h.stA 1 λw h=>?_
 refine h.stA 1 λw h=>?_
 refine h.stA 1 λw h=>?_
 refine h.stA 1 λw h=>?_
 refine h.stA 1 λw h=>?_
 have h:Sat σ w (t.at O::t.at a6::cP lb bul num false (kE ib) (li U E I O)::zLn W::l.at b1::iv I lb::jK E ib::KK):=h
 have h:Sat σ w (t.at a6::l.at b1::cP lb bul num false (kE ib) (li U E I O)::zLn W::t.at O::iv I lb::jK E ib::KK):=h.re
 refine⟨_,h.ldA,?_⟩;refine⟨_,h.ldA,?_⟩;refine⟨_,h.ldA,?_⟩;refine⟨_,h.ldA,?_⟩;refine⟨_,h.ldA,?_⟩;refine⟨_,_,_,_,_,rfl,?_⟩;refine h.stA 1 λw h=>?_
 refine h.stA 1 λw h=>?_
 refine h.stA 1 λw h=>?_
 refine h.stA 1 λw h=>?_
 refine h.stA 1 λw h=>?_
 have h:Sat σ w (t.at a6::t.at b1::cP lb bul num false (kE ib) (li U E I O)::zLn W::t.at O::iv I lb::jK E ib::KK):=h
 refine aa ?_;refine Sat.st h (k:=2) rfl (by simp[cP]) trivial rfl λw h=>?_
 have h:Sat σ w (t.at b1::zLn W::cP lb bul num false (kE ib) .nilFunc::t.at a6::t.at O::iv I lb::jK E ib::KK):=by
  have h:Sat σ w (t.at a6::t.at b1::cP lb bul num false (kE ib) .nilFunc::zLn W::t.at O::iv I lb::jK E ib::KK):=h
  exact h.re
 refine⟨_,h.ldA,?_⟩;refine⟨_,h.ldA,?_⟩;refine⟨_,h.ldA,?_⟩;refine⟨_,h.ldA,?_⟩;refine⟨_,h.ldA,?_⟩;refine h.stA 1 λw h=>?_
 refine h.stA 1 λw h=>?_
 refine h.stA 1 λw h=>?_
 refine h.stA 1 λw h=>?_
 refine h.stA 1 λw h=>?_
 have h:Sat σ w (t.at b1::t.at W::cP lb bul num false (kE ib) .nilFunc::t.at a6::t.at O::iv I lb::jK E ib::KK):=h
 have h:Sat σ w (t.at W::t.at b1::cP lb bul num false (kE ib) .nilFunc::t.at a6::t.at O::iv I lb::jK E ib::KK):=h.re
 refine⟨_,h.ldA,?_⟩;refine⟨_,h.ldA,?_⟩;refine⟨_,h.ldA,?_⟩;refine⟨_,h.ldA,?_⟩;refine⟨_,h.ldA,?_⟩;subst e3;have e5:(gs++ [y]).map Bk.ob++ []=(gs++ [y]).map Bk.ob:=lG0 _;rw[e5] at c4;refine g4 _ p' a7 y ⟨y.ob,[cP lb bul num false (kE ib) .nilFunc],y.D,y.IM⟩ ⟨⟨El ib,none,0,0,p.lineno,p.lineno⟩,[gC ib lb n hv],[],[]⟩ e4 (by rw[b8,<-f4];rfl) (by rw[b8];exact d3) (by rw[b8];exact f3.trans rfl) ⟨e1.1,rfl⟩ rfl rfl ⟨ib,rfl,rfl,rfl⟩ rfl rfl rfl ?_;refine⟨c1,b9,[],[],?_,?_,?_,⟨rfl,rfl⟩,?_⟩
 ·rw[lG0];rw[d3] at c4;have e:(gs++ [(⟨y.ob,[cP lb bul num false (kE ib) .nilFunc],y.D,y.IM⟩:Bk),⟨⟨El ib,none,0,0,p.lineno,p.lineno⟩,[gC ib lb n hv],[],[]⟩]).map Bk.ob=(gs++ [y]).map Bk.ob++ [⟨El ib,none,0,0,p.lineno,p.lineno⟩]:=by simp
  rw[e];exact c4
 ·have e:txF (gs++ [(⟨y.ob,[cP lb bul num false (kE ib) .nilFunc],y.D,y.IM⟩:Bk),⟨⟨El ib,none,0,0,p.lineno,p.lineno⟩,[gC ib lb n hv],[],[]⟩])=txF (gs++ [y]):=by
   rw[bF,bF,dO,vq]
   show txF gs++(cj y.D++ [])=_
   rw[lG0]
  rw[e];exact f5.of (by rw[b8]) (by rw[b8]) (by rw[b8])
 ·intro g b7;rcases lP0.1 b7 with b7|b7
  ·exact d0 g (by simp[b7])
  ·rcases lW0.1 b7 with rfl|b7
   ·exact e9
   ·obtain rfl:=lN0.1 b7;exact⟨Sl.nil 1 aO,by simp,d2,d2⟩
 ·rw[bi gs,j8]
  show Sat σ _ (_::c1++(b9++(aN gs++((y.IM++([cP lb bul num false (kE ib) .nilFunc]++(cZ y.D++txc y.D)))++([]++([gC ib lb n hv]++([]++ []))))++([]++L))))
  exact h.less [t.at W,t.at b1,t.at a6,t.at O,iv I lb,jK E ib,(U,cel [kT (kE b)] ah)]

theorem gM:nG P aB "pub-paratext/pub/rscmarkdown.extend" iC=true:=by kernel_rfl
theorem kN:nG P bw "pub-paratext/pub/rscmarkdown.extend" fA=true:=by kernel_rfl
theorem wi {X:OA->Nat->WP}(b6: ∀V O w,ak.bl1 R X V O w->X V O w){b b1 j:Nat}{p:PS}{ob:List OB}{o:OB}{M:List ai}{l l2:Ln}{ok:Bool}(h:Sat σ w (l.at b1::(p.at b::M++L)))(hs:Stk p ob M)(hd:p.depth=j)(c5:j<1000000)(I:ob[j+1]? =some o)(b8:l.ok)(b5: ∀(U:Ending->World->Prop) b0 w,Sat σ w (l.at b0::l.at b1::(p.at b::M++L))->(∀w,Sat σ w (l.at b0::l.at b1::(p.at b::M++L))->U (hQ (.tuple #[l2.val,hV ok])) w)->de P (callMethod o.bd "pub-paratext/pub/rscmarkdown.extend" #[kT (kE b),l.val]) U w)
 (a7:l.blank=true\/(ok=false/\l2=l))
 (b4:ok=true-> ∀w,Sat σ w (l2.at b1::(({p with depth:=(j:Int)+1}:PS).at b::M++L))->X (kE b) b1 w)
 (W:ok=false-> ∀w,Sat σ w (l2.at b1::(p.at b::M++L))->ak.k2 R (kE b) b1 w):X (kE b) b1 w:=by
 have y:=(lJ0.1 I).1;have c4:=hs.2.2;have E:=hs.2.1;have c2:=hs;obtain⟨sb,sp,c1,b9,c3⟩:=hs.split (by intro b7;rw[b7] at y;simp at y);refine b6 _ _ _ ?_;have h:Sat σ w (l.at b1::p.at b::(M++L)):=h
 refine Sat.tk h λw h=>aa (aa ?_)
 refine⟨_,Sat.ld h (.tail _ (.head _)) (i:=5) rfl,_,_,_,Sat.ld h (.tail _ (.head _)) (i:=4) rfl,?_⟩;rw[hd,i64_in _ (by omega),E];refine ag (by simp;omega) ?_;refine⟨_,h.ldA,?_⟩;refine⟨_,h.ldA,?_⟩;refine⟨_,h.ldA,?_⟩;refine⟨_,h.ldA,?_⟩;refine⟨_,h.ldA,?_⟩;refine Sat.bx h λb0 w h=>?_
 refine h.stA 0 λw h=>?_
 refine h.stA 0 λw h=>?_
 refine h.stA 0 λw h=>?_
 refine h.stA 0 λw h=>?_
 refine h.stA 0 λw h=>?_
 have h:Sat σ w (l.at b0::l.at b1::p.at b::(M++L)):=h
 refine Sat.tk h λw h=>aa (aa ?_)
 refine⟨_,_,_,Sat.ld h (.tail _ (.tail _ (.head _))) (i:=4) rfl,_,Sat.ld h (.tail _ (.tail _ (.head _))) (i:=5) rfl,?_⟩;rw[hd,i64_in _ (by omega),E,c1];refine⟨by omega,by omega,aa ?_⟩;have b3:((j:Int)+1).toNat=j+1:=by omega
 rw[b3];simp only[lL0,lO0];have a6:(sb,cel (aP ob++sp) az)∈(l.at b0::l.at b1::p.at b::(M++L)):=by rw[b9];simp
 refine⟨o.bd,Sat.ld h a6 (fD (j:=j+1) (f:=0) (by decide) I),?_⟩;have g:l.at b1∈(l.at b0::l.at b1::p.at b::(M++L)):= .tail _ (.head _)
 refine⟨_,Sat.ld h g (i:=0) rfl,_,Sat.ld h g (i:=1) rfl,_,Sat.ld h g (i:=2) rfl,_,Sat.ld h g (i:=3) rfl,_,Sat.ld h g (i:=4) rfl,?_⟩;refine b5 _ b0 w h λw h=>⟨_,_,_,_,_,_,rfl,?_⟩
 have h:Sat σ w (l.at b0::l.at b1::(p.at b::M++L)):=h
 refine h.stA 1 λw h=>?_
 refine h.stA 1 λw h=>?_
 refine h.stA 1 λw h=>?_
 refine h.stA 1 λw h=>?_
 refine h.stA 1 λw h=>?_
 have h:Sat σ w (l.at b0::l2.at b1::(p.at b::M++L)):=h
 refine dH h (.head _) b8 λw h=>⟨_,rfl,?_⟩
 have fin: ∀w,Sat σ w (l.at b0::l2.at b1::(p.at b::M++L))->ak.k1 R X (kE b) b1 ok false w:=by
  intro w h;refine af rfl ?_;cases ok with
  |true=>
   refine af rfl (aa ?_);have h:Sat σ w (l.at b0::l2.at b1::p.at b::(M++L)):=h
   refine⟨_,Sat.ld h (.tail _ (.tail _ (.head _))) (i:=5) rfl,aa ?_⟩;rw[hd,i64_in _ (by omega)];refine Sat.st h (k:=2) rfl (by simp[PS.cells]) trivial rfl λw h=>?_
   have h:Sat σ w (l.at b0::l2.at b1::(({p with depth:=(j:Int)+1}:PS).at b::M++L)):=h
   exact b4 rfl w h.tail
  |false=>exact ag rfl (W rfl w h.tail)
 cases hb:l.blank with
 |true=>exact af rfl (fin w h)
 |false=>
  refine ag rfl ?_;obtain⟨rfl,rfl⟩:=a7.resolve_left (by rw[hb];decide);refine af rfl ?_;refine⟨_,h.ldA,?_⟩;refine⟨_,h.ldA,?_⟩;refine⟨_,h.ldA,?_⟩;refine⟨_,h.ldA,?_⟩;refine⟨_,h.ldA,?_⟩;refine⟨_,h.ldA,?_⟩;refine⟨_,h.ldA,?_⟩;refine⟨_,h.ldA,?_⟩;refine⟨_,h.ldA,?_⟩;refine⟨_,h.ldA,?_⟩;exact⟨_,_,EX l2 _ _ w,fin w h⟩
theorem ma {lb ib n:Nat}{q:Option Addr}{bul num:Int}{lo hv:Bool}{td:Value}{l l2:Ln}{ok:Bool}(h:Sat σ w L)(U:l.ok)(V:n<1000000)(O:cP lb bul num lo (kE ib) td∈L)(E:gC ib lb n hv∈L)(ht:match l.trimSp n n true with|some y=>l2=y/\ok=true|none=>l2=l/\ok=false)(I: ∀w,Sat σ w L->R (hQ (.tuple #[l2.val,hV ok])) w):
 callE P iC #[kT (kE lb),kT q,l.val] R w:=by
 refine iH.sound ?_;refine Sat.bx h λb1 w h=>?_
 refine Sat.bx h λg w h=>?_
 have h:Sat σ w (zLn g::l.at b1::L):=h
 refine aa ⟨_,Sat.ld h (.tail _ (.tail _ O)) (i:=3) rfl,?_⟩;refine Sat.tk h λw h=>⟨_,λw=>dU B8 _ w,ag rfl (aa (aa ?_))⟩
 refine⟨_,Sat.ld h (.tail _ (.tail _ E)) (i:=1) rfl,_,Sat.ld h (.tail _ (.tail _ E)) (i:=1) rfl,?_⟩;have h:Sat σ w (l.at b1::zLn g::L):=h.re
 refine YtendaipfdnhnaaaGreatDoor.trimSp_ok (min:=n) (max:=n) h U (by omega) (by omega) ?_;cases hs:l.trimSp n n true with
 |some y=>
  rw[hs] at ht;obtain⟨rfl,rfl⟩:=ht;intro w h;refine⟨_,rfl,ag rfl ?_⟩;refine⟨_,h.ldA,?_⟩;refine⟨_,h.ldA,?_⟩;refine⟨_,h.ldA,?_⟩;refine⟨_,h.ldA,?_⟩;refine⟨_,h.ldA,?_⟩;refine h.stA 1 λw h=>?_
  refine h.stA 1 λw h=>?_
  refine h.stA 1 λw h=>?_
  refine h.stA 1 λw h=>?_
  refine h.stA 1 λw h=>?_
  have h:Sat σ w (l2.at b1::l2.at g::L):=h
  have h:Sat σ w (l2.at g::l2.at b1::L):=h.re
  refine⟨_,h.ldA,?_⟩;refine⟨_,h.ldA,?_⟩;refine⟨_,h.ldA,?_⟩;refine⟨_,h.ldA,?_⟩;refine⟨_,h.ldA,?_⟩;exact I _ h.tail.tail
 |none=>
  rw[hs] at ht;obtain⟨rfl,rfl⟩:=ht;intro w h;refine⟨_,rfl,af rfl ⟨_,λw=>kK B8 _ w,af rfl ?_⟩⟩;refine⟨_,h.ldA,?_⟩;refine⟨_,h.ldA,?_⟩;refine⟨_,h.ldA,?_⟩;refine⟨_,h.ldA,?_⟩;refine⟨_,h.ldA,?_⟩;refine h.stA 1 λw h=>?_
  refine h.stA 1 λw h=>?_
  refine h.stA 1 λw h=>?_
  refine h.stA 1 λw h=>?_
  refine h.stA 1 λw h=>?_
  have h:Sat σ w (l2.at b1::l2.at g::L):=h
  have h:Sat σ w (l2.at g::l2.at b1::L):=h.re
  refine⟨_,h.ldA,?_⟩;refine⟨_,h.ldA,?_⟩;refine⟨_,h.ldA,?_⟩;refine⟨_,h.ldA,?_⟩;refine⟨_,h.ldA,?_⟩;exact I _ h.tail.tail
theorem qd {ib lb n:Nat}{q:Option Addr}{l:Ln}(h:Sat σ w L)(g:l.ok)(hb:l.blank=true)(I:gC ib lb n true∈L)(E: ∀w,Sat σ w L->R (hQ (.tuple #[Ln.zero.val,hV true])) w):
 callE P fA #[kT (kE ib),kT q,l.val] R w:=by
 refine bY.sound ?_;refine Sat.bx h λb1 w h=>?_
 refine Sat.bx h λy w h=>?_
 have h:Sat σ w (zLn y::l.at b1::L):=h
 refine dH h (.tail _ (.head _)) g λw h=>⟨_,rfl,?_⟩
 rw[hb];refine ag rfl (aa ⟨_,Sat.ld h (.tail _ (.tail _ I)) (i:=2) rfl,af rfl ?_⟩);refine dH h (.tail _ (.head _)) g λw h=>⟨_,rfl,?_⟩
 rw[hb];refine ag rfl ?_;refine h.stA 0 λw h=>?_
 refine h.stA 0 λw h=>?_
 refine h.stA 0 λw h=>?_
 refine h.stA 0 λw h=>?_
 refine h.stA 0 λw h=>?_
 have h:Sat σ w (zLn y::l.at b1::L):=h
 refine⟨_,h.ldA,?_⟩;refine⟨_,h.ldA,?_⟩;refine⟨_,h.ldA,?_⟩;refine⟨_,h.ldA,?_⟩;refine⟨_,h.ldA,?_⟩;exact E _ h.tail.tail
theorem wO {b k:Nat}{fs:List Bk}{lf:Leaf}{p:PS}(h:DocC σ b L fs lf p w)(a6:k<=fs.length)(I: ∀X:OA->Int->WP,(∀y E w,aI.bl1 R X y E w->X y E w)->X (kE b) (k:Int) w):callE P bm #[kT (kE b),hY (k:Int)] R w:=by
 obtain⟨M,V,O,W,hs,ht,U,a7,h⟩:=h;have g:=hs.2.1;rw[lA0,lQ0] at g;refine aI.sound ?_;refine aa ?_;refine⟨_,_,_,h.ldA,?_⟩;rw[g];exact af (by simp;omega) I
theorem wP {X:OA->Int->WP}{b k:Nat}{fs:List Bk}{p:PS}(O: ∀y E w,aI.bl1 R X y E w->X y E w)(h:DocC σ b L fs .none p w)(a7:fs.length=k)(I:R (hQ (.tuple #[])) w):X (kE b) (k:Int) w:=by
 obtain⟨M,W,U,a6,hs,ht,V,⟨rfl,rfl⟩,h⟩:=h;have g:=hs.2.1;rw[lG0,lQ0] at g;refine O _ _ _ (aa ?_);refine⟨_,_,_,h.ldA,?_⟩;rw[g];exact af (by simp;omega) I

def OB.setE (o:OB)(m:Nat):OB:= {o with e:=m}
theorem Fu {g:Type}{l:List g}{j:Nat}{o:g}(I:l[j]? =some o): ∃a c,l=a++o::c/\a.length=j:=by
 obtain⟨E,y⟩:=lJ0.1 I;refine⟨l.take j,l.drop (j+1),?_,by simp;omega⟩;rw[<-y,<-lG1 E,lW1]
theorem vy {ob:List OB}{sp:List Value}{j m:Nat}{o:OB}(O:ob[j]? =some o):(aP ob++sp).set (j*4+3) (hY (m:Nat))=aP (ob.set j (o.setE m))++sp:=by
 obtain⟨a,c,rfl,rfl⟩:=Fu O;have E: ∀x g:List OB,aP (x++g)=aP x++aP g:=by intro x g;simp[aP]
 have I: ∀x:OB,∀g:List OB,aP (x::g)=x.cells++aP g:=by intro x g;simp[aP]
 rw[lR1 _ _ (lE1 _),lQ1,lN4,E,E,I,I,lD0,lR1 _ _ (by rw[aR];omega),aR,show a.length*4+3 - a.length*4=3 by omega,
  lD0,lD0,lD0]
 congr 1
theorem Stk.setE {p:PS}{ob:List OB}{sb:Nat}{sp:List Value}{j m:Nat}{o:OB}(E:p.stq=kE sb)(y:p.stn=ob.length)(I:ob.length<1048576)(g:(aP ob++sp).length=p.stc*4)(O:ob[j]? =some o):
 Stk p (ob.set j (o.setE m)) [(sb,cel (aP (ob.set j (o.setE m))++sp) az)]:=by
 refine Stk.mk' E ?_ (by rw[lL4];exact y) (by rw[lL4];exact I);rw[<-g,lA0,lA0,aR,aR,lL4]
theorem Dy {X:OA->Nat->WP}(c1: ∀a7 W w,ak.bl1 R X a7 W w->X a7 W w){b b1 j:Nat}{p:PS}{ob:List OB}{o:OB}{M:List ai}{l l2:Ln}(h:Sat σ w (l.at b1::(p.at b::M++L)))(hs:Stk p ob M)(hd:p.depth=j)(c5:j<1000000)(I:ob[j+1]? =some o)(c3:l.ok)(hb:l.blank=false)(b9: ∀(a6:Ending->World->Prop) b0 w,Sat σ w (l.at b0::l.at b1::(p.at b::M++L))->(∀w,Sat σ w (l.at b0::l.at b1::(p.at b::M++L))->a6 (hQ (.tuple #[l2.val,hV true])) w)->de P (callMethod o.bd "pub-paratext/pub/rscmarkdown.extend" #[kT (kE b),l.val]) a6 w)
 (b8: ∀w b4,Stk ({p with depth:=(j:Int)+1}:PS) (ob.set (j+1) (o.setE p.lineno)) b4->Sat σ w (l2.at b1::(({p with depth:=(j:Int)+1}:PS).at b::b4++L))->X (kE b) b1 w):X (kE b) b1 w:=by
 have U:=(lJ0.1 I).1;have b7:=hs.2.2;have E:=hs.2.1;have c4:=hs;obtain⟨sb,sp,O,b3,b6⟩:=hs.split (by intro c2;rw[c2] at U;simp at U);refine c1 _ _ _ ?_;have h:Sat σ w (l.at b1::p.at b::(M++L)):=h
 refine Sat.tk h λw h=>aa (aa ?_)
 refine⟨_,Sat.ld h (.tail _ (.head _)) (i:=5) rfl,_,_,_,Sat.ld h (.tail _ (.head _)) (i:=4) rfl,?_⟩;rw[hd,i64_in _ (by omega),E];refine ag (by simp;omega) ?_;refine⟨_,h.ldA,?_⟩;refine⟨_,h.ldA,?_⟩;refine⟨_,h.ldA,?_⟩;refine⟨_,h.ldA,?_⟩;refine⟨_,h.ldA,?_⟩;refine Sat.bx h λb0 w h=>?_
 refine h.stA 0 λw h=>?_
 refine h.stA 0 λw h=>?_
 refine h.stA 0 λw h=>?_
 refine h.stA 0 λw h=>?_
 refine h.stA 0 λw h=>?_
 have h:Sat σ w (l.at b0::l.at b1::p.at b::(M++L)):=h
 refine Sat.tk h λw h=>aa (aa ?_)
 refine⟨_,_,_,Sat.ld h (.tail _ (.tail _ (.head _))) (i:=4) rfl,_,Sat.ld h (.tail _ (.tail _ (.head _))) (i:=5) rfl,?_⟩;rw[hd,i64_in _ (by omega),E,O];refine⟨by omega,by omega,aa ?_⟩;have V:((j:Int)+1).toNat=j+1:=by omega
 rw[V];simp only[lL0,lO0];have b5:(sb,cel (aP ob++sp) az)∈(l.at b0::l.at b1::p.at b::(M++L)):=by rw[b3];simp
 refine⟨o.bd,Sat.ld h b5 (fD (j:=j+1) (f:=0) (by decide) I),?_⟩;have y:l.at b1∈(l.at b0::l.at b1::p.at b::(M++L)):= .tail _ (.head _)
 refine⟨_,Sat.ld h y (i:=0) rfl,_,Sat.ld h y (i:=1) rfl,_,Sat.ld h y (i:=2) rfl,_,Sat.ld h y (i:=3) rfl,_,Sat.ld h y (i:=4) rfl,?_⟩;refine b9 _ b0 w h λw h=>⟨_,_,_,_,_,_,rfl,?_⟩
 have h:Sat σ w (l.at b0::l.at b1::(p.at b::M++L)):=h
 refine h.stA 1 λw h=>?_
 refine h.stA 1 λw h=>?_
 refine h.stA 1 λw h=>?_
 refine h.stA 1 λw h=>?_
 refine h.stA 1 λw h=>?_
 have h:Sat σ w (l.at b0::l2.at b1::(p.at b::M++L)):=h
 refine dH h (.head _) c3 λw h=>⟨_,rfl,?_⟩
 rw[hb];refine ag rfl (ag rfl ?_);unfold ak.k1;have h:Sat σ w (l.at b0::l2.at b1::p.at b::(M++L)):=h
 refine ag rfl (h.tk λw h=>aa (aa (aa ?_)));have g:p.at b∈(l.at b0::l2.at b1::p.at b::(M++L)):= .tail _ (.tail _ (.head _))
 refine⟨_,_,_,Sat.ld h g (i:=4) rfl,_,Sat.ld h g (i:=5) rfl,_,Sat.ld h g (i:=3) rfl,?_⟩;rw[hd,i64_in _ (by omega),E,O];refine⟨by omega,by omega,aa ?_⟩;rw[V];simp only[lL0,lO0,lL1];have h:Sat σ w ((sb,cel (aP ob++sp) az)::l.at b0::l2.at b1::p.at b::L):=by
  rw[b3] at h;exact h.re
 refine Sat.st h (k:=0) rfl (by rw[lA0,aR];omega) trivial rfl λw h=>?_
 rw[vy I] at h;have h:Sat σ w ((sb,cel (aP (ob.set (j+1) (o.setE p.lineno))++sp) az)::l.at b0::l2.at b1::p.at b::L):=h
 refine af rfl (aa ?_);have g:p.at b∈((sb,cel (aP (ob.set (j+1) (o.setE p.lineno))++sp) az)::l.at b0::l2.at b1::p.at b::L):= .tail _ (.tail _ (.tail _ (.head _)))
 refine⟨_,Sat.ld h g (i:=5) rfl,aa ?_⟩;rw[hd,i64_in _ (by omega)];refine Sat.st h (k:=3) rfl (by simp[PS.cells]) trivial rfl λw h=>?_
 have h:Sat σ w ((sb,cel (aP (ob.set (j+1) (o.setE p.lineno))++sp) az)::l.at b0::l2.at b1::({p with depth:=(j:Int)+1}:PS).at b::L):=h
 refine b8 w [(sb,cel (aP (ob.set (j+1) (o.setE p.lineno))++sp) az)] (Stk.setE O E b7 b6 I) ?_;exact h.less [l.at b0]
theorem vL {b pb g d:Nat}{op:Opt}{p:PS}{fs:List OB}{o:OB}{M b4:List ai}{ls:List (List UInt8)}{l:Ln}(h:Sat σ w (p.at b::M++(b4++L)))(hs:Stk p (fs++ [o]) M)(c8:o.bd= .iface ar (kT (kE g)))(hd:p.depth=d)(f4:d<=fs.length)(c2:p.pz=kE pb)(c5:op.at pb∈L)(c3:op.table=false)(b5:sd g ls b4)(f3:ls.length<1048570)(e6:l.ok)(f2: ∀w b6 O,Stk p ((fs++ [o]).take d++((fs++ [o]).drop d).map (·.setE p.lineno)) b6->sd g (ls++ [l.rest]) O->Sat σ w (p.at b::b6++(O++L))->R (hQ (.tuple #[Ln.zero.val,hV true])) w):
 callE P qi #[kT (kE b),l.val] R w:=by
 have U:p.stn=fs.length+1:=by rw[hs.2.1];simp
 have e4:=hs.2.2;rw[lA0,lE0] at e4;obtain⟨sb,sp,b7,rfl,d1⟩:=hs.split (by simp);have c1:=b5;obtain⟨q,c,E,f5,rfl⟩:=b5;refine d7.sound ?_;refine Sat.bx h λb1 w h=>?_
 refine Sat.bx h λy w h=>?_
 have h:Sat σ w (zLn y::l.at b1::(p.at b:: [(sb,cel (aP (fs++ [o])++sp) az)]++(((g,cel [hT q ls.length c,kT none] aM)::E)++L))):=h
 have h:Sat σ w (p.at b:: [(sb,cel (aP (fs++ [o])++sp) az)]++(zLn y::l.at b1::(((g,cel [hT q ls.length c,kT none] aM)::E)++L))):=h.re
 refine rC (l:=fs) h hs (o:=o) c8 (λw h=>?_) (λ_=>⟨_,rfl⟩);rw[if_pos rfl];refine⟨_,rfl,?_⟩
 repeat (first|refine aa ?_|refine h.tk λw h=>?_|refine⟨_,h.ldA,?_⟩|refine⟨_,_,_,h.ldA,?_⟩)
 have f1:l.at b1∈p.at b:: [(sb,cel (aP (fs++ [o])++sp) az)]++(zLn y::l.at b1::(((g,cel [hT q ls.length c,kT none] aM)::E)++L)):=by simp
 refine lu h f1 e6 λw h=>⟨_,rfl,?_⟩
 rw[show (l.text.drop l.i).dropWhile cO=l.rest from rfl];refine⟨_,w,jI ll _ _ _ w,ag rfl (aa ?_)⟩;simp only[lL0,lO0];have c9:(g,cel [hT q ls.length c,kT none] aM)∈p.at b:: [(sb,cel (aP (fs++ [o])++sp) az)]++(zLn y::l.at b1::(((g,cel [hT q ls.length c,kT none] aM)::E)++L)):=by simp
 refine⟨_,Sat.ld h c9 rfl,_,w,jI wI _ _ _ w,af rfl ?_⟩;unfold d7.k3;refine Sat.tk h λw h=>?_
 refine aa ⟨_,Sat.ld h (.head _) rfl,?_⟩;rw[c2];refine aa ?_;simp only[lL0,lO0];have d0:op.at pb∈p.at b:: [(sb,cel (aP (fs++ [o])++sp) az)]++(zLn y::l.at b1::(((g,cel [hT q ls.length c,kT none] aM)::E)++L)):=by simp[c5]
 refine⟨op.table,Sat.ld h d0 rfl,af c3 ?_⟩;unfold d7.k4;refine af rfl ⟨_,w,jI ll _ _ _ w,ag rfl (aa ?_)⟩;simp only[lL0,lO0];refine⟨_,Sat.ld h (.head _) (i:=5) rfl,?_⟩;rw[hd];intro X a7;have c4: ∀(k i:Nat) w,i+k=fs.length+1->d<=i->Sat σ w ((sb,cel (aP ((fs++ [o]).take d++(((fs++ [o]).drop d).take (i - d)).map (·.setE p.lineno)++(fs++ [o]).drop i)++sp) az)::p.at b::(zLn y::l.at b1::(((g,cel [hT q ls.length c,kT none] aM)::E)++L)))->
  X (kE b) y (kE g) (bs l.rest) (i:Nat) w:=by
  intro k
  induction k with
  |zero=>
   intro i w hi e5 h;refine a7 _ _ _ _ _ _ (aa ?_);refine⟨_,_,_,Sat.ld h (.tail _ (.head _)) (i:=4) rfl,?_⟩;rw[U];refine af (by simp;omega) ?_;have I:(fs++ [o]).drop i= []:=lE2 (by simp;omega);have e7:((fs++ [o]).drop d).take (i - d)=(fs++ [o]).drop d:=lB2 (by simp;omega);rw[I,e7,lG0] at h;have h:Sat σ w (zLn y::((g,cel [hT q ls.length c,kT none] aM)::E)++(p.at b::(sb,cel (aP ((fs++ [o]).take d++((fs++ [o]).drop d).map (·.setE p.lineno))++sp) az)::(l.at b1::L))):=h.re
   refine th h c1 (by omega) λw O d3 h=>?_
   have W:((fs++ [o]).take d++((fs++ [o]).drop d).map (·.setE p.lineno)).length=fs.length+1:=by
    rw[lA0,lQ0,<-lA0,lW1];simp
   refine f2 w [(sb,cel (aP ((fs++ [o]).take d++((fs++ [o]).drop d).map (·.setE p.lineno))++sp) az)] O (Stk.mk' b7 ?_ (by rw[U,W]) (by rw[W];omega)) d3 (h.less [l.at b1]);rw[<-d1,lA0,lA0,aR,aR,W];simp
  |succ k e9=>
   intro i w hi e5 h;have a6:i<(fs++ [o]).length:=by simp;omega
   have I:=lG1 a6;have V:((fs++ [o]).take d++(((fs++ [o]).drop d).take (i - d)).map (·.setE p.lineno)).length=i:=by
    simp only[lA0,lQ0,lY0,lJ1] at a6⊢;omega
   refine a7 _ _ _ _ _ _ (aa ?_);refine⟨_,_,_,Sat.ld h (.tail _ (.head _)) (i:=4) rfl,?_⟩;rw[U];refine ag (by simp;omega) (h.tk λw h=>aa (aa ?_));refine⟨_,_,_,Sat.ld h (.tail _ (.head _)) (i:=4) rfl,_,Sat.ld h (.tail _ (.head _)) (i:=3) rfl,?_⟩;rw[U,b7];refine⟨by omega,by omega,aa ?_⟩;simp only[lL0,lO0,lL1,lC0];have b9:((fs++ [o]).take d++(((fs++ [o]).drop d).take (i - d)).map (·.setE p.lineno)++(fs++ [o]).drop i)[i]? =some (fs++ [o])[i]:=by
    rw[lI0 (by omega),V,lQ1,I];rfl
   refine Sat.st h (k:=0) rfl (by rw[lA0,aR,lA0,V,I,lF0];omega) trivial rfl λw h=>?_
   rw[vy b9] at h;have b8:((fs++ [o]).take d++(((fs++ [o]).drop d).take (i - d)).map (·.setE p.lineno)++(fs++ [o]).drop i).set i ((fs++ [o])[i].setE p.lineno)=(fs++ [o]).take d++(((fs++ [o]).drop d).take (i+1 - d)).map (·.setE p.lineno)++(fs++ [o]).drop (i+1):=by
    rw[lR1 _ _ (by omega),V,lQ1,I,lN4];have d2:i - d<((fs++ [o]).drop d).length:=by rw[lJ1];omega
    have f0:((fs++ [o]).drop d).take (i+1 - d)=((fs++ [o]).drop d).take (i - d)++ [(fs++ [o])[i]]:=by
     rw[show i+1 - d=i - d+1 by omega,lB1 d2];congr 2;rw[List.getElem_drop];congr 1;omega
    rw[f0,lV0];simp
   rw[b8] at h;rw[aL (by omega)];exact e9 (i+1) w (by omega) (by omega) h
 have e8:(fs++ [o]).take d++(((fs++ [o]).drop d).take (d - d)).map (·.setE p.lineno)++(fs++ [o]).drop d=fs++ [o]:=by rw[lQ1];simp
 refine c4 (fs.length+1 - d) d w (by omega) (lE1 _) ?_;rw[e8];exact h.re

theorem sub_self (s:List UInt8)(i:Nat):sub s i i= []:=lE2 (by rw[lY0];omega)

def mark1 (x:Bool):List UInt8:=if x then [45,32] else [62,32]
def marks (s:List Bool):List UInt8:=s.flatMap mark1

theorem tw {b d O:Nat}{p:PS}{fs:List OB}{o:OB}{M:List ai}{l:Ln}(h:Sat σ w (p.at b::M++L))(hs:Stk p (fs++ [o]) M)(I:o.bd= .iface ar (kT (kE O)))(hd:p.depth=d)(W:d+1=fs.length)(E:l.cont)(a6: ∀w,Sat σ w (p.at b::M++L)->R (hQ (.tuple #[l.val,hV false])) w):callE P cg #[kT (kE b),l.val] R w:=by
 have V:=hs.2.2;rw[lA0,lE0] at V;refine bM.sound ?_;refine Sat.bx h λb1 w h=>?_
 refine Sat.bx h λy w h=>?_
 refine Sat.bx h λg w h=>?_
 repeat (first|refine aa ?_|refine h.tk λw h=>?_|refine⟨_,h.ldA,?_⟩|refine⟨_,_,_,h.ldA,?_⟩|refine h.stA 0 λw h=>?_|refine h.stA 1 λw h=>?_|refine h.stA 2 λw h=>?_|refine h.stA 3 λw h=>?_|refine h.stA 4 λw h=>?_|refine h.stA 5 λw h=>?_|refine h.stA 6 λw h=>?_|refine h.bx λb0 w h=>?_)
 have h:Sat σ _ (l.at b0::(g,cel [hY 0] ba)::zLn y::l.at b1::(p.at b::M++L)):=h
 have h:Sat σ _ (p.at b::M++(l.at b0::(g,cel [hY 0] ba)::zLn y::l.at b1::L)):=h.re
 refine mA (d:=d) h hs hd (by omega) λw h=>?_
 have U:(fs++ [o])[d+1]? =some o:=by rw[W];simp
 rw[U];dsimp only;rw[I];refine⟨_,rfl,?_⟩;refine rC (l:=fs) h hs (o:=o) I (λw h=>?_) (λ_=>⟨_,rfl⟩);rw[if_pos rfl];refine⟨_,rfl,_,w,rV O _ _ w,ag rfl ?_⟩;have h:Sat σ _ (l.at b0::(g,cel [hY 0] ba)::(zLn y::l.at b1::(p.at b::M++L))):=h.re
 refine vw h E.plain.ok E.dash E.eq λw h=>⟨_,rfl,af rfl ?_⟩
 have h:Sat σ _ (zLn y::l.at b1::(g,cel [hY 0] ba)::l.at b0::(p.at b::M++L)):=h.re
 repeat (first|refine aa ?_|refine h.tk λw h=>?_|refine⟨_,h.ldA,?_⟩|refine⟨_,_,_,h.ldA,?_⟩|refine h.stA 0 λw h=>?_|refine h.stA 1 λw h=>?_|refine h.stA 2 λw h=>?_|refine h.stA 3 λw h=>?_|refine h.stA 4 λw h=>?_|refine h.stA 5 λw h=>?_|refine h.stA 6 λw h=>?_|refine h.bx λb0 w h=>?_)
 have h:Sat σ _ (l.at y::l.at b1::(g,cel [hY 0] ba)::l.at b0::(p.at b::M++L)):=h
 exact a6 _ h.tail.tail.tail.tail
theorem Bx {b d b6:Nat}{p:PS}{fs:List OB}{o U:OB}{M:List ai}{l:Ln}{td:TypeId}{vd:Value}(hs:Stk p (fs++ [o]) M)(I:o.bd= .iface ar (kT (kE b6)))(hd:p.depth=d)(c1:d<1000000)(a6:d<fs.length)(b5:fs[d]? =some U)(a7:U.bd= .iface td vd)(b3:td≠aB)(b4: ∀o1,fs[d+1]? =some o1-> ∃t v,o1.bd= .iface t v/\t≠ar)(O:l.cont): ∀f∈newsF,B3 b p M l f:=by
 have W:=hs.2.2;rw[lA0,lE0] at W;intro f V;have g:=O.plain;simp only[newsF,lW0,lH1,or_false] at V;intro σ w L R h y;rcases V with rfl|rfl|rfl|rfl|rfl|rfl|rfl|rfl
 ·exact iU (x:= .nilIface) h g.ok g.quote y
 ·exact l9 h g.ok g.heading y
 ·by_cases b9:d+1=fs.length
  ·exact tw h hs I hd b9 O y
  ·have E:d+1<fs.length:=by omega
   obtain⟨t,v,b7,b8⟩:=b4 _ (lH0 E);exact lA (ob:=fs) (o:=o) (o1:=fs[d+1]) (t1:=t) (v1:=v) h hs hd (by omega) (by rw[lM0 E];exact lH0 E) b7 b8 I (λ_=>⟨_,rfl⟩) g.ok y
 ·exact sH h g.ok g.hr y
 ·exact g.bullet b d p (fs++ [o]) U M td vd hs hd (by rw[lM0 a6];exact b5) a7 b3 σ w L R h y
 ·exact oB h g.ok O.lt y
 ·exact tz h g.ok g.fence y
 ·exact xx (ob:=fs) h hs (o:=o) I (λ_=>⟨_,rfl⟩) g.ok g.pre y
def Bk.sim (f g:Bk):Prop:=(∃m,g.ob=f.ob.setE m)/\g.own=f.own/\g.D=f.D/\g.IM=f.IM/\g.ob.e<1000000000
inductive Sims:List Bk->List Bk->Prop where
 |nil:Sims [] []
 |cons {f f':Bk} {fs fs':List Bk}:f.sim f'->Sims fs fs'->Sims (f::fs) (f'::fs')
theorem Bk.sim.rfl' {f:Bk}(h:f.ob.e<1000000000):f.sim f:=⟨⟨f.ob.e,rfl⟩,rfl,rfl,rfl,h⟩
theorem Bk.sim.trans {f y k:Bk}(I:f.sim y)(U:y.sim k):f.sim k:=by
 obtain⟨⟨a6,a1⟩,a2,a3,a4,a5⟩:=I;obtain⟨⟨E,b1⟩,b2,V,W,O⟩:=U;exact⟨⟨E,by rw[b1,a1];rfl⟩,b2.trans a2,V.trans a3,W.trans a4,O⟩
theorem Sims.refl: ∀ {fs:List Bk},(∀f∈fs,f.ob.e<1000000000)->Sims fs fs
 | [],_=> .nil
 |f::fs,h=> .cons (Bk.sim.rfl' (h f (by simp))) (Sims.refl λE y=>h E (by simp[y]))
theorem Sims.trans {fs gs g:List Bk}(y:Sims fs gs):Sims gs g->Sims fs g:=by
 induction y generalizing g with
 |nil=>exact λh=>h
 |cons a _ E=>
  intro I;cases I with
  |cons b d=>exact .cons (a.trans b) (E d)
theorem Sims.len {fs gs:List Bk}(h:Sims fs gs):gs.length=fs.length:=by
 induction h with
 |nil=>rfl
 |cons _ _ g=>simp[g]
theorem Sims.append {fs gs y g:List Bk}(h:Sims fs gs)(I:Sims y g):Sims (fs++y) (gs++g):=by
 induction h with
 |nil=>exact I
 |cons a _ E=>exact .cons a E
theorem Sims.mem {fs gs:List Bk}(h:Sims fs gs):aN gs=aN fs/\txF gs=txF fs:=by
 induction h with
 |nil=>exact⟨rfl,rfl⟩
 | @cons f f' fs fs' a _ ih=>
  obtain⟨_,a2,a3,a4,_⟩:=a;refine⟨?_,?_⟩
  ·have e: ∀(y:Bk) (l:List Bk),aN (y::l)=y.mem++aN l:=λy l=>by simp[aN]
   rw[e,e,ih.1,Bk.mem,Bk.mem,a2,a3,a4]
  ·have e: ∀(y:Bk) (l:List Bk),txF (y::l)=cj y.D++txF l:=λy l=>by simp[txF]
   rw[e,e,ih.2,a3]
theorem Bk.sim.ok {f g:Bk}(h:f.sim g)(y:f.ok):g.ok:=by
 obtain⟨⟨m,a1⟩,a2,a3,a4,a5⟩:=h;obtain⟨o1,E,I,O⟩:=y;refine⟨?_,by rw[a3];exact E,by rw[a1];exact I,a5⟩;rw[a1,a3,a4];exact o1
theorem Sims.ok {fs gs:List Bk}(h:Sims fs gs)(E: ∀f∈fs,f.ok): ∀f∈gs,f.ok:=by
 induction h with
 |nil=>simp
 |cons a _ O=>
  intro U y;rcases lW0.1 y with rfl|y
  ·exact a.ok (E _ (by simp))
  ·exact O (λf I=>E f (by simp[I])) U y
theorem Bk.sim.quote {f g:Bk}(h:f.sim g)(I:f.isQuote):g.isQuote:=by
 obtain⟨⟨m,a1⟩,a2,_⟩:=h;obtain⟨y,E,O⟩:=I;exact⟨y,by rw[a1];exact E,a2.trans O⟩
theorem Bk.sim.list {f g:Bk}{lb:Nat}{bul num:Int}{it:OA}{td:Value}(h:f.sim g)(y:f.isListT lb bul num it td):g.isListT lb bul num it td:=by
 obtain⟨⟨m,a1⟩,a2,_⟩:=h;obtain⟨E,I⟩:=y;exact⟨by rw[a1];exact E,a2.trans I⟩
theorem Bk.sim.itemOf {f g:Bk}{lb wd:Nat}{it:OA}{hv:Bool}(h:f.sim g)(E:ItemOf it f lb wd hv):ItemOf it g lb wd hv:=by
 obtain⟨⟨m,a1⟩,a2,_⟩:=h;obtain⟨ib,y,I,O⟩:=E;exact⟨ib,y,by rw[a1];exact I,a2.trans O⟩

theorem mU:nG P hU "pub-paratext/pub/rscmarkdown.extend" gN=true:=by kernel_rfl
theorem te {c5 c8:OA}{l l2:Ln}{ok:Bool}(h:Sat σ w L)(c9:l.ok)(E:match l.quote with|some b8=>l2=b8/\ok=true|none=>l2=l/\ok=false)(d0: ∀w,Sat σ w L->R (hQ (.tuple #[l2.val,hV ok])) w):
 callE P gN #[kT c5,kT c8,l.val] R w:=by
 refine gS.sound ?_;refine Sat.bx h λb1 w h=>?_
 refine Sat.bx h λg w h=>?_
 have h:Sat σ w (zLn g::l.at b1::L):=h
 refine⟨_,h.ldA,?_⟩;refine⟨_,h.ldA,?_⟩;refine⟨_,h.ldA,?_⟩;refine⟨_,h.ldA,?_⟩;refine⟨_,h.ldA,?_⟩;have fin: ∀w,Sat σ w (zLn g::l.at b1::L)-> ∃(V:Int),∃(O:Int),∃(I:Int),∃(U:BA),∃(W:Int),∃(a6:Bool),(hQ (.tuple #[l2.val,hV ok]))= hQ (.tuple #[.agg #[hY V,hY O,hY I,hX U,.int .u8 W],hV a6])/\
  stV w (hZ g 0) (hY V) λc3=>stV c3 (hZ g 1) (hY O) λc1=>stV c1 (hZ g 2) (hY I) λc4=>stV c4 (hZ g 3) (hX U) λc2=>stV c2 (hZ g 4) (.int .u8 W) λy=>
  ∃(b5:Int),y.cell? (hZ g 0)=some (hY b5)/\ ∃(a7:Int),y.cell? (hZ g 1)=some (hY a7)/\ ∃(b7:Int),y.cell? (hZ g 2)=some (hY b7)/\ ∃(b6:BA),y.cell? (hZ g 3)=some (hX b6)/\ ∃(b4:Int),y.cell? (hZ g 4)=some (.int .u8 b4)/\
  R (hQ (.tuple #[.agg #[hY b5,hY a7,hY b7,hX b6,.int .u8 b4],hV a6])) y:=by
  intro w h;refine⟨_,_,_,_,_,_,rfl,?_⟩;refine h.stA 0 λw h=>?_
  refine h.stA 0 λw h=>?_
  refine h.stA 0 λw h=>?_
  refine h.stA 0 λw h=>?_
  refine h.stA 0 λw h=>?_
  have h:Sat σ w (l2.at g::l.at b1::L):=h
  refine⟨_,h.ldA,?_⟩;refine⟨_,h.ldA,?_⟩;refine⟨_,h.ldA,?_⟩;refine⟨_,h.ldA,?_⟩;refine⟨_,h.ldA,?_⟩;exact d0 w h.tail.tail
 refine ny (l:=l) h c9 ?_;cases b9:l.quote with
 |some b8=>
  rw[b9] at E;obtain⟨rfl,rfl⟩:=E;exact fin
 |none=>
  rw[b9] at E;obtain⟨rfl,rfl⟩:=E;exact fin
theorem xO {ib lb n:Nat}{q:OA}{l:Ln}(h:Sat σ w L)(y:l.ok)(hb:l.blank=false)(I:gC ib lb n true∈L)(E: ∀w,Sat σ w L->R (hQ (.tuple #[l.val,hV true])) w):
 callE P fA #[kT (kE ib),kT q,l.val] R w:=by
 obtain⟨A,B,rfl⟩:=lU3 I;refine bY.sound ?_;refine Sat.bx h λb1 w h=>?_
 refine Sat.bx h λg w h=>?_
 have h:Sat σ w (zLn g::l.at b1::(A++gC ib lb n true::B)):=h
 refine dH h (.tail _ (.head _)) y λw h=>⟨_,rfl,?_⟩
 rw[hb];refine af rfl ?_;unfold bY.k1;refine dH h (.tail _ (.head _)) y λw h=>⟨_,rfl,?_⟩
 rw[hb];refine af rfl ?_;refine dH h (.tail _ (.head _)) y λw h=>⟨_,rfl,?_⟩
 rw[hb];refine ag rfl (aa ?_);have h:Sat σ w (gC ib lb n true::zLn g::l.at b1::(A++B)):=h.re
 refine Sat.st h (k:=0) rfl (by show 2<3;decide) trivial rfl λw h=>?_
 have h:Sat σ w (gC ib lb n true::zLn g::l.at b1::(A++B)):=h
 have h:Sat σ w (zLn g::l.at b1::(A++gC ib lb n true::B)):=h.re
 refine⟨_,h.ldA,?_⟩;refine⟨_,h.ldA,?_⟩;refine⟨_,h.ldA,?_⟩;refine⟨_,h.ldA,?_⟩;refine⟨_,h.ldA,?_⟩;refine h.stA 0 λw h=>?_
 refine h.stA 0 λw h=>?_
 refine h.stA 0 λw h=>?_
 refine h.stA 0 λw h=>?_
 refine h.stA 0 λw h=>?_
 have h:Sat σ w (l.at g::l.at b1::(A++gC ib lb n true::B)):=h
 refine⟨_,h.ldA,?_⟩;refine⟨_,h.ldA,?_⟩;refine⟨_,h.ldA,?_⟩;refine⟨_,h.ldA,?_⟩;refine⟨_,h.ldA,?_⟩;exact E w h.tail.tail

theorem vD {a:List Bk}: ∀ {c fs:List Bk},Sims (a++c) fs-> ∃y g,fs=y++g/\Sims a y/\Sims c g:=by
 induction a with
 |nil=>intro c fs h;exact⟨[],fs,rfl,.nil,h⟩
 |cons x a U=>
  intro c fs h;cases h with
  |cons k E=>
   obtain⟨y,g,rfl,O,I⟩:=U E;exact⟨_::y,g,rfl,.cons k O,I⟩
def nZ (R:EP)(c4 d0:Bool)(c2 c9:Bool)(c8 d1:Bool)(c1 c5:Bool)(c3 d2:Bool)(e4:BA)(w:World):Prop:=box w #[hV c4,hV d0,hV c2,hV c9,hV c8,hV d1,hV c1,hV c5,hV c3,hV d2] fB λb1 e5=>box e5 (N16.C {}) aj λb8 g=>∃b5,g.cell? (hZ b1 0)=some (hV b5)/\∃b9,g.cell? (hZ b1 1)=some (hV b9)/\∃b4,g.cell? (hZ b1 2)=some (hV b4)/\∃b6,g.cell? (hZ b1 3)=some (hV b6)/\∃b7,g.cell? (hZ b1 4)=some (hV b7)/\∃O,g.cell? (hZ b1 5)=some (hV O)/\∃E,g.cell? (hZ b1 6)=some (hV E)/\∃W,g.cell? (hZ b1 7)=some (hV W)/\∃U,g.cell? (hZ b1 8)=some (hV U)/\∃a7,g.cell? (hZ b1 9)=some (hV a7)/\callE P mK #[.agg #[hV b5,hV b9,hV b4,hV b6,hV b7,hV O,hV E,hV W,hV U,hV a7]] (λe e1=>∃y,e= hQ (kT y)/\callE P ph #[kT y,hX e4] (λe e2=>∃I,e= hQ (kT I)/\callE P bR #[.iface df (kT I)] (λe e0=>Hq e λe3=>st16 e0 b8 e3 λa6=>ldB16 a6 b8 λd3=>R (hQ (d3.V)) a6) e2) e1) g
theorem nZ.sound {R x0_0 x0_1 x0_2 x0_3 x0_4 x0_5 x0_6 x0_7 x0_8 x0_9 x1 w}(h:nZ R x0_0 x0_1 x0_2 x0_3 x0_4 x0_5 x0_6 x0_7 x0_8 x0_9 x1 w):callE P nP #[.agg #[hV x0_0,hV x0_1,hV x0_2,hV x0_3,hV x0_4,hV x0_5,hV x0_6,hV x0_7,hV x0_8,hV x0_9],hX x1] R w:=
 cF Tryz.func14 Tryz.call14 h
def tP (R:EP)(y:OA)(w:World):Prop:=aA y λa1=>∃g,w.cell? (a1.add 3)=some (hY g)/\R (hQ (hY g)) w
theorem tP.sound {R x0 w}(h:tP R x0 w):callE P xX #[kT x0] R w:=
 cF Tryz.func49 Tryz.call49 h
namespace ci
def bl1 (R:EP)(Xa:Nat->Nat->Value->WP)(a7 a6:Nat)(W:Value)(w:World):Prop:=(∃g,(Instr.next W false ty_).run P w= .ok (.tuple #[hV false]) g/\∃y E I,g.cell? (hZ a6 15)=some (hT y E I)/\callE P dj #[hT y E I,.func (.func uu) #[] #[]] (λe O=>e= hQ (.tuple #[])/\ldB16 O a6 λb7=>st16 O a7 b7 λU=>ldB16 U a7 λb6=>R (hQ (b6.V)) U) g)\/ (∃(b4:Value),∃(b3:Value),∃b5,(Instr.next W false ty_).run P w= .ok (.tuple #[hV true,b4,b3]) b5/\False)
def l1 (R:EP)(y E:Nat)(g:Value)(w:World):Prop:=∀X:Nat->Nat->Value->WP,(∀y E g w,bl1 R X y E g w->X y E g w)->X y E g w
def k1 (R:EP)(g y:Nat)(b6:OA)(b3:Bool)(w:World):Prop:=br b3 (aA b6 λb4=>∃I,w.cell? (b4.add 3)=some (hY I)/\stV w (hZ y 3) (hY I) λO=>ldB16 O y λb5=>st16 O g b5 λE=>ldB16 E g λW=>R (hQ (W.V)) E) (ldB16 w y λa7=>st16 w g a7 λU=>ldB16 U g λa6=>R (hQ (a6.V)) U)
end ci
def ci (R:EP)(y:Value)(w:World):Prop:=box w (N16.C {}) aj λb1 K3=>de P (callMethod y "Pos" #[]) (λe K1=>∃t0 p1,e= hQ (.agg #[hY t0,hY p1])/\box K1 #[hY 0,hY 0] aH λd2 K2=>stV K2 (hZ d2 0) (hY t0) λK4=>stV K4 (hZ d2 1) (hY p1) λe8=>∃w1,e8.cell? (hZ d2 0)=some (hY w1)/\∃v4,e8.cell? (hZ d2 1)=some (hY v4)/\box e8 (N16.C {}) aj λg J1=>st16 J1 g {a8:=w1,a9:=v4} λJ8=>∃e0 k0 d0,(Instr.typeAssert y aO df true).run P J8= .ok (.tuple #[kT e0,hV k0]) d0/\br k0 (aA e0 λK0=>∃q0 p5 r4,d0.cell? (K0.add 2)=some (hT q0 p5 r4)/\callE P io #[hT q0 p5 r4] (λe J3=>∃s8 q4 s6,e= hQ (hT s8 q4 s6)/\stV J3 (hZ g 0) (hY 1) λJ5=>stV J5 (hZ g 7) (hT s8 q4 s6) λv6=>aA e0 λJ7=>∃(v5:Option Nat),v6.cell? (J7.add 3)=some (.map v5)/\∃(v3:Value),∃v2,(Instr.range iw (.map v5)).run P v6= .ok v3 v2/\ci.l1 R b1 g v3 v2) d0) (∃o0 i4 d1,(Instr.typeAssert y aO kB true).run P d0= .ok (.tuple #[kT o0,hV i4]) d1/\br i4 (aA o0 λJ9=>∃t4 v0 q8,d1.cell? (J9.add 2)=some (hT t4 v0 q8)/\callE P io #[hT t4 v0 q8] (λe J4=>∃s3 q3 o3,e= hQ (hT s3 q3 o3)/\stV J4 (hZ g 0) (hY 2) λJ6=>stV J6 (hZ g 7) (hT s3 q3 o3) λv8=>ldB16 v8 g λJ2=>st16 v8 b1 J2 λv7=>ldB16 v7 b1 λJ0=>R (hQ (J0.V)) v7) d1) (∃E h9 e7,(Instr.typeAssert y aO dn true).run P d1= .ok (.tuple #[kT E,hV h9]) e7/\br h9 (tk e7 λU=>aA E λc4=>aA E λa7=>aA E λI3=>∃u8,U.cell? (c4.add 2)=some (.int .i32 u8)/\∃r7,U.cell? (a7.add 4)=some (hV r7)/\∃g5 j0 g4,U.cell? (I3.add 5)=some (hT g5 j0 g4)/\callE P io #[hT g5 j0 g4] (λe b3=>∃g2 n0 h8,e= hQ (hT g2 n0 h8)/\SameC U b3 (a7.add 4) 1/\SameC U b3 (c4.add 2) 1/\stV b3 (hZ g 0) (hY 3) λW=>SameC b3 W (a7.add 4) 1/\SameC b3 W (c4.add 2) 1/\stV W (hZ g 3) (hY (-1)) λc3=>SameC W c3 (a7.add 4) 1/\SameC W c3 (c4.add 2) 1/\stV c3 (hZ g 4) (hX (Utf8.encode u8)) λq1=>SameC c3 q1 (a7.add 4) 1/\stV q1 (hZ g 5) (hV r7) λy4=>stV y4 (hZ g 7) (hT g2 n0 h8) λc5=>aA E λz2=>∃q5,c5.cell? (z2.add 2)=some (.int .i32 q5)/\br (q5==46) (ci.k1 R b1 g E true c5) (aA E λI8=>∃u0,c5.cell? (I8.add 2)=some (.int .i32 u0)/\ci.k1 R b1 g E (u0==41) c5)) U) (∃d3 g0 e6,(Instr.typeAssert y aO gf true).run P e7= .ok (.tuple #[kT d3,hV g0]) e6/\br g0 (tk e6 λe4=>aA d3 λu4=>∃h4 m4 i3,e4.cell? (u4.add 2)=some (hT h4 m4 i3)/\callE P xX #[kT d3] (λe p3=>∃r9,e= hQ (hY r9)/\SameC e4 p3 (u4.add 2) 1/\callE P io #[hT h4 m4 i3] (λe x5=>∃g1 h7 h2,e= hQ (hT g1 h7 h2)/\stV x5 (hZ g 0) (hY 4) λI9=>stV I9 (hZ g 11) (hY r9) λy3=>stV y3 (hZ g 7) (hT g1 h7 h2) λq2=>ldB16 q2 g λx6=>st16 q2 b1 x6 λt7=>ldB16 t7 b1 λz3=>R (hQ (z3.V)) t7) p3) e4) (∃b8 f0 e2,(Instr.typeAssert y aO gH true).run P e6= .ok (.tuple #[kT b8,hV f0]) e2/\br f0 (tk e2 λI=>aA b8 λe5=>aA b8 λc2=>aA b8 λy2=>∃s4,I.cell? (e5.add 2)=some (hY s4)/\∃o4,I.cell? (c2.add 4)=some (hX o4)/\∃s5,I.cell? (y2.add 3)=some (kT s5)/\aA s5 λx9=>∃m1 i8 l5,I.cell? (x9.add 2)=some (hT m1 i8 l5)/\callE P dz #[hT m1 i8 l5] (λe b6=>∃i2 m6 m2,e= hQ (hT i2 m6 m2)/\SameC I b6 (c2.add 4) 1/\SameC I b6 (e5.add 2) 1/\stV b6 (hZ g 0) (hY 5) λc1=>SameC b6 c1 (c2.add 4) 1/\SameC b6 c1 (e5.add 2) 1/\stV c1 (hZ g 3) (hY s4) λs1=>SameC c1 s1 (c2.add 4) 1/\stV s1 (hZ g 2) (hX o4) λD3=>stV D3 (hZ g 7) (hT i2 m6 m2) λr3=>ldB16 r3 g λI7=>st16 r3 b1 I7 λs2=>ldB16 s2 b1 λI6=>R (hQ (I6.V)) s2) I) (∃f3 e9 b4,(Instr.typeAssert y aO bE true).run P e2= .ok (.tuple #[kT f3,hV e9]) b4/\br e9 (aA f3 λI2=>∃t8,b4.cell? (I2.add 2)=some (kT t8)/\aA t8 λI0=>∃g3 i1 g6,b4.cell? (I0.add 2)=some (hT g3 i1 g6)/\callE P dz #[hT g3 i1 g6] (λe x2=>∃j1 m3 n2,e= hQ (hT j1 m3 n2)/\stV x2 (hZ g 0) (hY 6) λw5=>stV w5 (hZ g 7) (hT j1 m3 n2) λt2=>ldB16 t2 g λD1=>st16 t2 b1 D1 λp4=>ldB16 p4 b1 λx7=>R (hQ (x7.V)) p4) b4) (∃f1 f6 c8,(Instr.typeAssert y aO d4 true).run P b4= .ok (.tuple #[kT f1,hV f6]) c8/\br f6 (aA f1 λH1=>∃n3 h6 m5,c8.cell? (H1.add 2)=some (hT n3 h6 m5)/\callE P dz #[hT n3 h6 m5] (λe x4=>∃n1 h3 g7,e= hQ (hT n1 h3 g7)/\stV x4 (hZ g 0) (hY 6) λz1=>stV z1 (hZ g 12) (hV true) λI4=>stV I4 (hZ g 7) (hT n1 h3 g7) λs9=>ldB16 s9 g λy5=>st16 s9 b1 y5 λt3=>ldB16 t3 b1 λI5=>R (hQ (I5.V)) t3) c8) (∃b7 f4 e1,(Instr.typeAssert y aO cL true).run P c8= .ok (.tuple #[kT b7,hV f4]) e1/\br f4 (tk e1 λO=>aA b7 λe3=>aA b7 λb9=>aA b7 λx1=>∃u2,O.cell? (e3.add 3)=some (hX u2)/\∃s7,O.cell? (b9.add 2)=some (hX s7)/\∃h1 i0 h5,O.cell? (x1.add 4)=some (hT h1 i0 h5)/\callE P nO #[hT h1 i0 h5] (λe a6=>∃r6,e= hQ (hX r6)/\SameC O a6 (b9.add 2) 1/\SameC O a6 (e3.add 3) 1/\stV a6 (hZ g 0) (hY 7) λc9=>SameC a6 c9 (b9.add 2) 1/\SameC a6 c9 (e3.add 3) 1/\stV c9 (hZ g 2) (hX u2) λr1=>SameC c9 r1 (b9.add 2) 1/\stV r1 (hZ g 10) (hX s7) λz4=>stV z4 (hZ g 1) (hX r6) λr8=>ldB16 r8 g λD2=>st16 r8 b1 D2 λt9=>ldB16 t9 b1 λw9=>R (hQ (w9.V)) t9) O) (∃w3 f7 o2,(Instr.typeAssert y aO uh true).run P e1= .ok (.tuple #[kT w3,hV f7]) o2/\br f7 (False) (∃f2 f5 u1,(Instr.typeAssert y aO cW true).run P o2= .ok (.tuple #[kT f2,hV f5]) u1/\br f5 (callE P Do #[kT f2] (λe x8=>∃t5,e= hQ (hX t5)/\stV x8 (hZ g 0) (hY 9) λx3=>stV x3 (hZ g 10) (hX t5) λt6=>ldB16 t6 g λy1=>st16 t6 b1 y1 λr5=>ldB16 r5 b1 λI1=>R (hQ (I1.V)) r5) u1) (False))))))))))) K3
theorem ci.sound {R x0 w}(h:ci R x0 w):callE P bR #[x0] R w:=
 aG [(11095,.lp [46,86,905] (ci.bl1 R) λXa=> [(9,.no),(27,.dr (rpN [0,6,9,12,15,21,24,27,33,36,39,4,19,31,43,47,48,53,56,57,62]))]),(22487,.dr (rpN [0,3,6,15,18,21,27,30,33,42,10,12,25,37,41,47,48,53,54,59,60,65,66,71])),(63447,.mk [46,86,182,2340] (ci.k1 R)),(57303,.dr (rpN [0,6,9,12,21,16,5,20,26,27,32,33,38])),(229335,.dr (rpN [0,3,6,12,15,18,24,27,30,48,10,22,34,36,39,43,47,53,54,59,60,65,66,71])),(14680023,.dr (rpN [0,3,6,12,15,18,24,27,30,39,10,22,34,38,44,45,50,51,56,57,62])),(25165783,.no),(134217687,.no)] Tryz.func32 Tryz.call32 h
namespace gY
def bl1 (R:EP)(Xa:Nat->OA->Nat->Nat->Int->Int->WP)(y:Nat)(I:OA)(E a7:Nat)(V g:Int)(w:World):Prop:=br (decide (g<V)) (0<=g/\g<(E:Int)/\aA I λa3=>∃U,w.cell? (a3.add (Int.toNat g*1))=some (hX U)/\callE P bz #[kT (kE y),hX U] (λe b6=>∃W,∃(a6:Value),e= hQ (.tuple #[hY W,a6])/\callE P bT #[kT (kE y),.int .u8 10] (λe b4=>∃(b5:Value),e= hQ b5/\Xa y I E a7 V (i64.wrap (g+1)) b4) b6) w) (callE P du #[kT (kE y)] (λe b3=>∃O,e= hQ (hX O)/\R (hQ (hX O)) b3) w)
def l1 (R:EP)(I:Nat)(y:OA)(E g:Nat)(U O:Int)(w:World):Prop:=∀X:Nat->OA->Nat->Nat->Int->Int->WP,(∀I y E g U O w,bl1 R X I y E g U O w->X I y E g U O w)->X I y E g U O w
end gY
def gY (R:EP)(y:OA)(g E:Nat)(w:World):Prop:=box w #[kT none,hT none 0 0] cq λb1 I=>gY.l1 R b1 y g E (g:Int) 0 I
theorem gY.sound {R x0q x0n x0c w}(h:gY R x0q x0n x0c w):callE P nO #[hT x0q x0n x0c] R w:=
 aG [(43,.lp [66,123,147,167] (gY.bl1 R) λXa=> [])] Tryz.func51 Tryz.call51 h
def kZ (R:EP)(E:Int)(w:World):Prop:=callE P mh #[.int .u64 E] (λe y=>∃g,e= hQ (hY g)/\R (hQ (hY g)) y) w
theorem kZ.sound {R x0 w}(h:kZ R x0 w):callE P kV #[.int .u64 x0] R w:=
 cF Tryz.func70 Tryz.call70 h
namespace cC
def k3 (R:EP)(g y:Int)(w:World):Prop:=0<=(IntKind.u8.wrap g)/\(IntKind.u8.wrap g)<((hP #[0,1,2,2,3,3,3,3,4,4,4,4,4,4,4,4,5,5,5,5,5,5,5,5,5,5,5,5,5,5,5,5,6,6,6,6,6,6,6,6,6,6,6,6,6,6,6,6,6,6,6,6,6,6,6,6,6,6,6,6,6,6,6,6,7,7,7,7,7,7,7,7,7,7,7,7,7,7,7,7,7,7,7,7,7,7,7,7,7,7,7,7,7,7,7,7,7,7,7,7,7,7,7,7,7,7,7,7,7,7,7,7,7,7,7,7,7,7,7,7,7,7,7,7,7,7,7,7,8,8,8,8,8,8,8,8,8,8,8,8,8,8,8,8,8,8,8,8,8,8,8,8,8,8,8,8,8,8,8,8,8,8,8,8,8,8,8,8,8,8,8,8,8,8,8,8,8,8,8,8,8,8,8,8,8,8,8,8,8,8,8,8,8,8,8,8,8,8,8,8,8,8,8,8,8,8,8,8,8,8,8,8,8,8,8,8,8,8,8,8,8,8,8,8,8,8,8,8,8,8,8,8,8,8,8,8,8,8,8,8,8,8,8,8,8,8,8,8,8,8,8,8,8,8,8,8]).size:Int)/\R (hQ (hY (i64.wrap (y+(i64.wrap (bt (hP #[0,1,2,2,3,3,3,3,4,4,4,4,4,4,4,4,5,5,5,5,5,5,5,5,5,5,5,5,5,5,5,5,6,6,6,6,6,6,6,6,6,6,6,6,6,6,6,6,6,6,6,6,6,6,6,6,6,6,6,6,6,6,6,6,7,7,7,7,7,7,7,7,7,7,7,7,7,7,7,7,7,7,7,7,7,7,7,7,7,7,7,7,7,7,7,7,7,7,7,7,7,7,7,7,7,7,7,7,7,7,7,7,7,7,7,7,7,7,7,7,7,7,7,7,7,7,7,7,8,8,8,8,8,8,8,8,8,8,8,8,8,8,8,8,8,8,8,8,8,8,8,8,8,8,8,8,8,8,8,8,8,8,8,8,8,8,8,8,8,8,8,8,8,8,8,8,8,8,8,8,8,8,8,8,8,8,8,8,8,8,8,8,8,8,8,8,8,8,8,8,8,8,8,8,8,8,8,8,8,8,8,8,8,8,8,8,8,8,8,8,8,8,8,8,8,8,8,8,8,8,8,8,8,8,8,8,8,8,8,8,8,8,8,8,8,8,8,8,8,8,8,8,8,8,8,8]) (IntKind.u8.wrap g))))))) w
def k2 (R:EP)(g y:Int)(w:World):Prop:=br (decide (g >= 256)) (False) (k3 R g y w)
def k1 (R:EP)(g y:Int)(w:World):Prop:=br (decide (g >= 65536)) (False) (k2 R g y w)
end cC
def cC (R:EP)(g:Int)(w:World):Prop:=br (decide (g >= 4294967296)) (False) (cC.k1 R g 0 w)
theorem cC.sound {R x0 w}(h:cC R x0 w):callE P mh #[.int .u64 x0] R w:=
 aG [(21,.no),(7,.mk [10,47] (cC.k1 R)),(43,.no),(15,.mk [10,47] (cC.k2 R)),(87,.no),(31,.mk [10,47] (cC.k3 R))] Tryz.func100 Tryz.call100 h
def dk (R:EP)(I:OA)(g E:Nat)(V:Value)(w:World):Prop:=callE P kV #[.int .u64 (IntKind.u64.wrap (g:Int))] (λe O=>∃y,e= hQ (hY y)/\callE P fu #[hT I g E,hY 0,hY (g:Int),hY y,V] (λe U=>e= hQ (.tuple #[])/\R (hQ (.tuple #[])) U) O) w
theorem dk.sound {R x0q x0n x0c x1 w}(h:dk R x0q x0n x0c x1 w):callE P dj #[hT x0q x0n x0c,x1] R w:=
 cF Tryz.func46 Tryz.call46 h
namespace be
def bl1 (R:EP)(Xa:OA->Nat->Nat->Int->Int->Value->Int->WP)(O:OA)(E I:Nat)(V y:Int)(U:Value)(g:Int)(w:World):Prop:=br (decide (g<y)) (False) (R (hQ (.tuple #[])) w)
def l1 (R:EP)(E:OA)(g y:Nat)(V U:Int)(I:Value)(O:Int)(w:World):Prop:=∀X:OA->Nat->Nat->Int->Int->Value->Int->WP,(∀E g y V U I O w,bl1 R X E g y V U I O w->X E g y V U I O w)->X E g y V U I O w
end be
def be (R:EP)(I:OA)(y E:Nat)(g U:Int)(O:Value)(w:World):Prop:=be.l1 R I y E g U O (i64.wrap (g+1)) w
theorem be.sound {R x0q x0n x0c x1 x2 x3 w}(h:be R x0q x0n x0c x1 x2 x3 w):callE P eh #[hT x0q x0n x0c,hY x1,hY x2,x3] R w:=
 aG [(5,.lp [3,27,47,65,167] (be.bl1 R) λXa=> [(10,.no),(41,.no)])] Tryz.func91 Tryz.call91 h
namespace bD
def bl1 (R:EP)(Xa:OA->Nat->Nat->Int->Int->Int->Value->Bool->Bool->WP)(O:OA)(E I:Nat)(y g a7:Int)(V:Value)(W a6:Bool)(w:World):Prop:=br (decide ((i64.wrap (g - y))<=12)) (callE P eh #[hT O E I,hY y,hY g,V] (λe U=>e= hQ (.tuple #[])/\R (hQ (.tuple #[])) U) w) (False)
def l1 (R:EP)(I:OA)(g y:Nat)(a6 W V:Int)(U:Value)(E O:Bool)(w:World):Prop:=∀X:OA->Nat->Nat->Int->Int->Int->Value->Bool->Bool->WP,(∀I g y a6 W V U E O w,bl1 R X I g y a6 W V U E O w->X I g y a6 W V U E O w)->X I g y a6 W V U E O w
end bD
def bD (R:EP)(E:OA)(g y:Nat)(V U O:Int)(I:Value)(w:World):Prop:=bD.l1 R E g y V U O I true true w
theorem bD.sound {R x0q x0n x0c x1 x2 x3 x4 w}(h:bD R x0q x0n x0c x1 x2 x3 x4 w):callE P fu #[hT x0q x0n x0c,hY x1,hY x2,hY x3,x4] R w:=
 aG [(11,.lp [3,27,47,67,85,200,220] (bD.bl1 R) λXa=> [(58,.no),(86,.no),(118,.no),(174,.no),(238,.no),(62,.no)])] Tryz.func69 Tryz.call69 h
def g8 (R:EP)(E:Value)(w:World):Prop:=callE P kR #[E] (λe y=>∃g,e= hQ (kT g)/\R (hQ (kT g)) y) w
theorem g8.sound {R x0 w}(h:g8 R x0 w):callE P xY #[x0] R w:=
 cF Tryz.func102 Tryz.call102 h
def dG (R:EP)(g:Value)(w:World):Prop:=box w (N16.C {}) aj λb1 I7=>callE P xY #[g] (λe I5=>∃c1,e= hQ (kT c1)/\∃w3 c2,(do eqGuard .neq bJ (.tmp 19) (.const (kT none)) (kT c1) (kT none);binOp .neq bJ (kT c1) (kT none)).run P I5= .ok (hV w3) c2/\br w3 (aA c1 λI6=>∃w5,c2.cell? I6=some (hX w5)/\st16 c2 b1 {a0:=20,a1:=w5} λv9=>ldB16 v9 b1 λI1=>R (hQ (I1.V)) v9) (∃p4 m1 b9,(Instr.typeAssert g aD lr true).run P c2= .ok (.tuple #[kT p4,hV m1]) b9/\br m1 (aA p4 λI4=>∃v6,b9.cell? I4=some (hX v6)/\st16 b9 b1 {a0:=20,a1:=v6,a13:=true} λv7=>ldB16 v7 b1 λI3=>R (hQ (I3.V)) v7) (∃w8 p5 f2,(Instr.typeAssert g aD jY true).run P b9= .ok (.tuple #[kT w8,hV p5]) f2/\br p5 (st16 f2 b1 {a0:=21} λw1=>ldB16 w1 b1 λI2=>R (hQ (I2.V)) w1) (∃w7 g0 e4,(Instr.typeAssert g aD lN true).run P f2= .ok (.tuple #[kT w7,hV g0]) e4/\br g0 (st16 e4 b1 {a0:=22} λr8=>ldB16 r8 b1 λx9=>R (hQ (x9.V)) r8) (∃f5 g2 b7,(Instr.typeAssert g aD pP true).run P e4= .ok (.tuple #[kT f5,hV g2]) b7/\br g2 (aA f5 λx6=>∃t4,b7.cell? x6=some (hX t4)/\st16 b7 b1 {a0:=23,a1:=t4} λs7=>ldB16 s7 b1 λD1=>R (hQ (D1.V)) s7) (∃c3 h1 e5,(Instr.typeAssert g aD jr true).run P b7= .ok (.tuple #[kT c3,hV h1]) e5/\br h1 (tk e5 λb6=>aA c3 λt2=>aA c3 λx2=>∃q5,b6.cell? t2=some (hX q5)/\∃n2 m3 n1,b6.cell? (x2.add 1)=some (hT n2 m3 n1)/\callE P dz #[hT n2 m3 n1] (λe t7=>∃k0 o2 n3,e= hQ (hT k0 o2 n3)/\SameC b6 t7 (t2) 1/\st16 t7 b1 {a0:=24,q7:=k0,n7:=o2,c7:=n3,a10:=q5} λv5=>ldB16 v5 b1 λx7=>R (hQ (x7.V)) v5) b6) (∃c9 f3 e3,(Instr.typeAssert g aD fK true).run P e5= .ok (.tuple #[kT c9,hV f3]) e3/\br f3 (tk e3 λb8=>aA c9 λu2=>aA c9 λw9=>∃r6,b8.cell? u2=some (hX r6)/\∃h7 i0 i8,b8.cell? (w9.add 1)=some (hT h7 i0 i8)/\callE P dz #[hT h7 i0 i8] (λe v4=>∃i3 p1 l5,e= hQ (hT i3 p1 l5)/\SameC b8 v4 (u2) 1/\st16 v4 b1 {a0:=25,q7:=i3,n7:=p1,c7:=l5,a10:=r6} λq8=>ldB16 q8 b1 λx8=>R (hQ (x8.V)) q8) b8) (∃c4 f4 e2,(Instr.typeAssert g aD vn true).run P e3= .ok (.tuple #[kT c4,hV f4]) e2/\br f4 (tk e2 λb3=>aA c4 λt8=>aA c4 λH1=>∃t5,b3.cell? t8=some (hX t5)/\∃h2 m2 j0,b3.cell? (H1.add 1)=some (hT h2 m2 j0)/\callE P dz #[hT h2 m2 j0] (λe v2=>∃o3 h8 p3,e= hQ (hT o3 h8 p3)/\SameC b3 v2 (t8) 1/\st16 v2 b1 {a0:=26,q7:=o3,n7:=h8,c7:=p3,a10:=t5} λs2=>ldB16 s2 b1 λD3=>R (hQ (D3.V)) s2) b3) (∃U g7 d3,(Instr.typeAssert g aD l6 true).run P e2= .ok (.tuple #[kT U,hV g7]) d3/\br g7 (tk d3 λE=>aA U λe6=>aA U λe9=>aA U λx3=>aA U λs5=>∃s8,E.cell? (e6.add 1)=some (hX s8)/\∃r1,E.cell? (e9.add 2)=some (hX r1)/\∃u4,E.cell? (x3.add 3)=some (.int .u8 u4)/\∃h4 h3 h6,E.cell? s5=some (hT h4 h3 h6)/\callE P mL #[.int .u8 u4] (λe O=>∃v3,e= hQ (hX v3)/\SameC E O (s5) 1/\SameC E O (e9.add 2) 1/\SameC E O (e6.add 1) 1/\callE P dz #[hT h4 h3 h6] (λe f0=>∃m6 h9 i4,e= hQ (hT m6 h9 i4)/\SameC O f0 (e9.add 2) 1/\SameC O f0 (e6.add 1) 1/\st16 f0 b1 {a0:=27,a1:=s8,a2:=r1,q7:=m6,n7:=h9,c7:=i4,a10:=v3} λq2=>ldB16 q2 b1 λz2=>R (hQ (z2.V)) q2) O) E) (∃W g1 d0,(Instr.typeAssert g aD l7 true).run P d3= .ok (.tuple #[kT W,hV g1]) d0/\br g1 (tk d0 λy=>aA W λf1=>aA W λe1=>aA W λD2=>aA W λs3=>∃q3,y.cell? (f1.add 1)=some (hX q3)/\∃r9,y.cell? (e1.add 2)=some (hX r9)/\∃u0,y.cell? (D2.add 3)=some (.int .u8 u0)/\∃i1 m5 i2,y.cell? s3=some (hT i1 m5 i2)/\callE P mL #[.int .u8 u0] (λe I=>∃t9,e= hQ (hX t9)/\SameC y I (s3) 1/\SameC y I (e1.add 2) 1/\SameC y I (f1.add 1) 1/\callE P dz #[hT i1 m5 i2] (λe e8=>∃m4 h5 n0,e= hQ (hT m4 h5 n0)/\SameC I e8 (e1.add 2) 1/\SameC I e8 (f1.add 1) 1/\st16 e8 b1 {a0:=28,a1:=q3,a2:=r9,q7:=m4,n7:=h5,c7:=n0,a10:=t9} λt0=>ldB16 t0 b1 λz4=>R (hQ (z4.V)) t0) I) y) (∃c5 g6 d2,(Instr.typeAssert g aD mr true).run P d0= .ok (.tuple #[kT c5,hV g6]) d2/\br g6 (tk d2 λb4=>aA c5 λq0=>aA c5 λx1=>∃v0,b4.cell? (q0.add 1)=some (hX v0)/\∃u1,b4.cell? x1=some (hX u1)/\∃o4 j1,∃o0 d1,(Instr.buildSlice cr 1 #[(0,(N16.V {a0:=20,a1:=u1}))]).run P b4= .ok (hT o4 j1 o0) d1/\SameC b4 d1 (q0.add 1) 1/\st16 d1 b1 {a0:=27,a1:=v0,q7:=o4,n7:=j1,c7:=o0,a14:=true} λq1=>ldB16 q1 b1 λx4=>R (hQ (x4.V)) q1) (∃g4 f6 b5,(Instr.typeAssert g aD nv true).run P d2= .ok (.tuple #[kT g4,hV f6]) b5/\br f6 (aA g4 λx5=>∃t3,b5.cell? x5=some (hX t3)/\st16 b5 b1 {a0:=29,a1:=t3} λt6=>ldB16 t6 b1 λz3=>R (hQ (z3.V)) t6) (∃g5 f7 a6,(Instr.typeAssert g aD sS true).run P b5= .ok (.tuple #[kT g5,hV f7]) a6/\br f7 (aA g5 λy5=>∃r4,a6.cell? y5=some (hV r4)/\br r4 (st16 a6 b1 {a0:=30,a3:=2} λs9=>ldB16 s9 b1 λy2=>R (hQ (y2.V)) s9) (st16 a6 b1 {a0:=30,a3:=1} λs1=>ldB16 s1 b1 λy3=>R (hQ (y3.V)) s1)) (∃c8 g3 e0,(Instr.typeAssert g aD AU true).run P a6= .ok (.tuple #[kT c8,hV g3]) e0/\br g3 (tk e0 λe7=>aA c8 λy4=>aA c8 λy1=>∃s4,e7.cell? (y4.add 1)=some (hX s4)/\∃r7,e7.cell? y1=some (hX r7)/\st16 e7 b1 {a0:=31,a1:=s4,a10:=r7} λs6=>ldB16 s6 b1 λz1=>R (hQ (z1.V)) s6) (st16 e0 b1 {} λq4=>ldB16 q4 b1 λI0=>R (hQ (I0.V)) q4))))))))))))))) I7
theorem dG.sound {R x0 w}(h:dG R x0 w):callE P eG #[x0] R w:=
 aG [(180203,.dr (rpN [0,3,6,12,15,18,10,22,26,27,32])),(720875,.dr (rpN [0,3,6,12,15,18,10,22,26,27,32])),(2883563,.dr (rpN [0,3,6,12,15,18,10,22,26,27,32])),(11534315,.dr (rpN [0,3,6,12,15,18,24,27,30,39,42,45,10,22,34,49,38,53,54,59])),(46137323,.dr (rpN [0,3,6,12,15,18,24,27,30,39,42,45,10,22,34,49,38,53,54,59])),(184549355,.dr (rpN [0,3,6,12,15,18,10,22,24,29,30,35])),(11811160043,.dr (rpN [0,3,6,12,15,18,10,22,24,29]))] Tryz.func72 Tryz.call72 h
def pE (R:EP)(g:Int)(w:World):Prop:=br (g==0) (R (hQ (hX (hP #[]))) w) (False)
theorem pE.sound {R x0 w}(h:pE R x0 w):callE P mL #[.int .u8 x0] R w:=
 aG [(29,.no)] Tryz.func45 Tryz.call45 h
namespace f9
def bl1 (R:EP)(Xa:OA->Nat->Nat->OA->Nat->Nat->Int->Int->WP)(U:OA)(a7 b5:Nat)(E:OA)(I c1:Nat)(b8 g:Int)(w:World):Prop:=br (decide (g<b8)) (0<=g/\g<(I:Int)/\aA E λa1=>∃(b7:Value),w.cell? (a1.add (Int.toNat g*1))=some b7/\callE P bR #[b7] (λe c2=>Hq e λc3=>∃b3 O,∃y b6,(Instr.buildSlice cr 1 #[(0,c3.V)]).run P c2= .ok (hT b3 O y) b6/\∃b4 W,∃a6 b9,(Builtin.append_ #[cr,cr] cr #[hT U a7 b5,hT b3 O y]).run P b6= .ok (hT b4 W a6) b9/\Xa b4 W a6 E I c1 b8 (i64.wrap (g+1)) b9) w) (R (hQ (hT U a7 b5)) w)
def l1 (R:EP)(I:OA)(y E:Nat)(O:OA)(U g:Nat)(V W:Int)(w:World):Prop:=∀X:OA->Nat->Nat->OA->Nat->Nat->Int->Int->WP,(∀I y E O U g V W w,bl1 R X I y E O U g V W w->X I y E O U g V W w)->X I y E O U g V W w
end f9
def f9 (R:EP)(y:OA)(g E:Nat)(w:World):Prop:=f9.l1 R none 0 0 y g E (g:Int) 0 w
theorem f9.sound {R x0q x0n x0c w}(h:f9 R x0q x0n x0c w):callE P io #[hT x0q x0n x0c] R w:=
 aG [(43,.lp [63,123,147,167] (f9.bl1 R) λXa=> [])] Tryz.func44 Tryz.call44 h
namespace fo
def bl1 (R:EP)(Xa:OA->Nat->Nat->OA->Nat->Nat->Int->Int->WP)(U:OA)(a7 b5:Nat)(E:OA)(I c1:Nat)(b8 g:Int)(w:World):Prop:=br (decide (g<b8)) (0<=g/\g<(I:Int)/\aA E λa1=>∃(b7:Value),w.cell? (a1.add (Int.toNat g*1))=some b7/\callE P eG #[b7] (λe c2=>Hq e λc3=>∃b3 O,∃y b6,(Instr.buildSlice cr 1 #[(0,c3.V)]).run P c2= .ok (hT b3 O y) b6/\∃b4 W,∃a6 b9,(Builtin.append_ #[cr,cr] cr #[hT U a7 b5,hT b3 O y]).run P b6= .ok (hT b4 W a6) b9/\Xa b4 W a6 E I c1 b8 (i64.wrap (g+1)) b9) w) (R (hQ (hT U a7 b5)) w)
def l1 (R:EP)(I:OA)(y E:Nat)(O:OA)(U g:Nat)(V W:Int)(w:World):Prop:=∀X:OA->Nat->Nat->OA->Nat->Nat->Int->Int->WP,(∀I y E O U g V W w,bl1 R X I y E O U g V W w->X I y E O U g V W w)->X I y E O U g V W w
end fo
def fo (R:EP)(y:OA)(g E:Nat)(w:World):Prop:=fo.l1 R none 0 0 y g E (g:Int) 0 w
theorem fo.sound {R x0q x0n x0c w}(h:fo R x0q x0n x0c w):callE P dz #[hT x0q x0n x0c] R w:=
 aG [(43,.lp [63,123,147,167] (fo.bl1 R) λXa=> [])] Tryz.func50 Tryz.call50 h

theorem C5 {A:Nat->Addr}{v:N16}{K:N16->Prop}(h: ∀i u,v.C[i]? =some u->w.cell? (A i)=some u)(g:K v):ld16 w A K:=
 ⟨_,h 0 _ rfl,_,h 1 _ rfl,_,h 2 _ rfl,_,h 3 _ rfl,_,h 4 _ rfl,_,h 5 _ rfl,_,_,_,h 6 _ rfl,_,_,_,h 7 _ rfl,_,h 8 _ rfl,_,h 9 _ rfl,_,h 10 _ rfl,_,h 11 _ rfl,_,h 12 _ rfl,_,h 13 _ rfl,_,h 14 _ rfl,_,_,_,h 15 _ rfl,g⟩
theorem C6 {A:Nat->Addr}{v:N10}{K:N10->Prop}(h: ∀i u,v.C[i]? =some u->w.cell? (A i)=some u)(g:K v):ld10 w A K:=
 ⟨_,h 0 _ rfl,_,h 1 _ rfl,_,h 2 _ rfl,_,h 3 _ rfl,_,h 4 _ rfl,_,h 5 _ rfl,_,_,_,h 6 _ rfl,_,_,_,h 7 _ rfl,_,h 8 _ rfl,_,h 9 _ rfl,g⟩
theorem Sat.ldB16 (h:Sat σ w L){b:Nat}{e:TypeId}(v:N16){K:N16->Prop}(E:(b,cel v.C.toList e)∈L)(y:K v):ldB16 w b K:=
 C5 (λi u g=>h.ld E (by rw[lT2];exact g)) y
theorem Sat.ldB10 (h:Sat σ w L){b:Nat}{e:TypeId}(v:N10){K:N10->Prop}(E:(b,cel v.C.toList e)∈L)(y:K v):ldB10 w b K:=
 C6 (λi u g=>h.ld E (by rw[lT2];exact g)) y
theorem y9 {pre mid suf:List Value}{i o:Nat}{u:Value}(y:pre.length=o)(g:mid[i]? =some u):(pre++(mid++suf))[o+i]? =some u:=by
 have hi:=(lJ0.1 g).1;rw[lI0 (by omega),show o+i - pre.length=i by omega,lM0 hi];exact g
theorem Sat.ldA16 (h:Sat σ w L){b o:Nat}{pre suf:List Value}{e:TypeId}(v:N16){K:N16->Prop}(I:(b,cel (pre++(v.C.toList++suf)) e)∈L)(E:pre.length=o)(y:K v):ldA16 w (hZ b o) K:=
 C5 (λi u g=>by rw[lL0];exact h.ld I (y9 E (by rw[lT2];exact g))) y
theorem Sat.ldA10 (h:Sat σ w L){b o:Nat}{pre suf:List Value}{e:TypeId}(v:N10){K:N10->Prop}(I:(b,cel (pre++(v.C.toList++suf)) e)∈L)(E:pre.length=o)(y:K v):ldA10 w (hZ b o) K:=
 C6 (λi u g=>by rw[lL0];exact h.ld I (y9 E (by rw[lT2];exact g))) y
def stAll:List Value->Nat->Nat->World->(World->Prop)->Prop
 | [],b,i,w,K=>K w
 |v::vs,b,i,w,K=>stV w (hZ b i) v λw=>stAll vs b (i+1) w K
theorem Ac {g:Type}{l:List g}{k:Nat}{a:g}(h:l[k]? =some a):l.set k a=l:=by
 refine List.ext_getElem? λi=>?_
 rw[lP5];split
 ·subst_vars
  rw[if_pos (lJ0.1 h).1,h]
 ·rfl
theorem Sat.stAll {k b:Nat}{e:TypeId}{K:World->Prop}(y:k<L.length): ∀(vs old pre:List Value) (w:World),Sat σ w (L.set k (b,cel (pre++old) e))->old.length=vs.length->(∀v∈vs,ot v)->(∀g,Sat σ g (L.set k (b,cel (pre++vs) e))->K g)->stAll vs b pre.length w K
 | [],old,pre,w,h,hl,h1,hK=>by
  obtain rfl:old= []:=lF1 (by simpa using hl);exact hK w h
 |v::vs,o::old,pre,w,h,hl,h1,hK=>by
  refine h.st (k:=k) (L':=L.set k (b,cel ((pre++ [v])++old) e)) (List.getElem?_set_self y) (by simp) (h1 v (by simp)) ?_ λw h=>?_
  ·rw[List.set_set,lR1 _ _ (lE1 _),lQ1];simp
  ·have:=Sat.stAll y vs old (pre++ [v]) w h (by simpa using hl) (λu E=>h1 u (by simp[E])) (λg I=>hK g (by simpa using I));rw[lA0] at this;exact this
theorem Sat.st16 (h:Sat σ w L)(k:Nat){b:Nat}{e:TypeId}(u v:N16){K:World->Prop}(I: ∀g,Sat σ g L'->K g)(E:L[k]? =some (b,cel u.C.toList e):=by exact rfl)(U:L.set k (b,cel v.C.toList e)=L':=by first|(dsimp only[List.set];exact rfl)|exact rfl):st16 w b v K:=by
 have hs:Sat σ w (L.set k (b,cel ([]++u.C.toList) e)):=by rw[lT0,Ac E];exact h
 refine Sat.stAll (lJ0.1 E).1 v.C.toList u.C.toList [] w hs rfl ?_ (λg O=>I g (by rw[<-U];exact O));intro x y;simp only[N16.C,lW0,lH1,or_false] at y;rcases y with rfl|rfl|rfl|rfl|rfl|rfl|rfl|rfl|rfl|rfl|rfl|rfl|rfl|rfl|rfl|rfl<;>trivial
theorem Sat.st10 (h:Sat σ w L)(k:Nat){b:Nat}{e:TypeId}(u v:N10){K:World->Prop}(I: ∀g,Sat σ g L'->K g)(E:L[k]? =some (b,cel u.C.toList e):=by exact rfl)(U:L.set k (b,cel v.C.toList e)=L':=by first|(dsimp only[List.set];exact rfl)|exact rfl):st10 w b v K:=by
 have hs:Sat σ w (L.set k (b,cel ([]++u.C.toList) e)):=by rw[lT0,Ac E];exact h
 refine Sat.stAll (lJ0.1 E).1 v.C.toList u.C.toList [] w hs rfl ?_ (λg O=>I g (by rw[<-U];exact O));intro x y;simp only[N10.C,lW0,lH1,or_false] at y;rcases y with rfl|rfl|rfl|rfl|rfl|rfl|rfl|rfl|rfl|rfl<;>trivial
theorem y8 {v:N16}{K:N16->Prop}(g:K v):Hq (hQ v.V) K:=⟨_,_,_,_,_,_,_,_,_,_,_,_,_,_,_,_,_,_,_,_,_,_,rfl,g⟩
theorem vH {v:N10}{K:N10->Prop}(g:K v):HM (hQ v.V) K:=⟨_,_,_,_,_,_,_,_,_,_,_,_,_,_,rfl,g⟩

structure IH where
 kind:Nat
 text:List UInt8:= []
 title:List UInt8:= []
 num:Int:=0
 char:List UInt8:= []
 loose:Bool:=false
 s:Nat:=0
 e:Nat:=0
 mark:List UInt8:= []
 width:Nat:=0
 tight:Bool:=false
 escaped:Bool:=false
 auto:Bool:=false
inductive IN where
 |mk (h:IH) (kids:List IN)
def IN.h:IN->IH
 | .mk h _=>h
def IN.kids:IN->List IN
 | .mk _ ks=>ks
structure NH where
 kind:Nat
 text:List UInt8:= []
 title:List UInt8:= []
 num:Int:=0
 char:List UInt8:= []
 loose:Bool:=false
 s:Nat:=0
 e:Nat:=0
inductive ND where
 |mk (h:NH) (kids:List ND)
def ND.h:ND->NH
 | .mk h _=>h
def ND.kids:ND->List ND
 | .mk _ ks=>ks
abbrev IH.nd (h:IH)(q:OA)(n c:Nat):N16:=⟨h.kind,bs h.text,bs h.title,h.num,bs h.char,h.loose,none,0,0,q,n,c,h.s,h.e,bs h.mark,h.width,h.tight,h.escaped,h.auto,none,0,0⟩
abbrev NH.nd (h:NH)(qa:OA)(ca:Nat)(q:OA)(n c:Nat):N10:=⟨h.kind,bs h.text,bs h.title,h.num,bs h.char,h.loose,qa,0,ca,q,n,c,h.s,h.e⟩
abbrev IH.cells (h:IH)(q:OA)(n c:Nat):List Value:=(h.nd q n c).C.toList
abbrev NH.cells (h:NH)(qa:OA)(ca:Nat)(q:OA)(n c:Nat):List Value:=(h.nd qa ca q n c).C.toList
def IH.ok (h:IH):Prop:=h.text.length<1073741824/\h.title.length<1073741824/\h.char.length<1073741824/\h.mark.length<1073741824
inductive INs:List IN->List Value->List ai->Prop where
 |nil:INs [] [] []
 |cons {h:IH} {ks xs:List IN} {q:OA} {n c:Nat} {vs us:List Value} {RM KM XM:List ai}:h.ok->n<1073741824->INs ks vs KM->Sl 16 aj q n c vs RM->INs xs us XM->INs (.mk h ks::xs) (h.cells q n c++us) ((RM++KM)++XM)
inductive NDs:List ND->List Value->List ai->Prop where
 |nil:NDs [] [] []
 |cons {h:NH} {ks xs:List ND} {qa:OA} {ca:Nat} {q:OA} {n c:Nat} {vs us:List Value} {RM KM XM:List ai}:n<1073741824->NDs ks vs KM->Sl 10 ae q n c vs RM->NDs xs us XM->NDs (.mk h ks::xs) (h.cells qa ca q n c++us) ((RM++KM)++XM)
theorem NDs.len {xs:List ND}{vs:List Value}{M:List ai}(h:NDs xs vs M):vs.length=xs.length*10:=by
 induction h with
 |nil=>rfl
 |cons _ _ _ _ _ g=>rw[lA0,g,lF0,lV3,lH4];rfl
theorem INs.append {xs g:List IN}{vs us:List Value}{M N:List ai}(h:INs xs vs M)(E:INs g us N):INs (xs++g) (vs++us) (M++N):=by
 induction h with
 |nil=>exact E
 |cons a1 a2 a3 a4 _ _ y=>
  rw[lD0,lD0];exact .cons a1 a2 a3 a4 y
theorem NDs.append {xs g:List ND}{vs us:List Value}{M N:List ai}(h:NDs xs vs M)(E:NDs g us N):NDs (xs++g) (vs++us) (M++N):=by
 induction h with
 |nil=>exact E
 |cons a1 a2 a3 _ _ y=>
  rw[lD0,lD0];exact .cons a1 a2 a3 y
def gG:List ND->ND->List ND
 | [],x=> [x]
 | [.mk h ks],x=>if x.h.kind=20/\h.kind=20 then [.mk {h with text:=h.text++x.h.text} ks] else [.mk h ks,x]
 |a::b::l,x=>a::gG (b::l) x
def rv (h:IH):NH:= {kind:=h.kind,text:=if h.kind=6\/h.kind=5\/h.kind=12 then [] else h.text,title:=h.title,num:=h.num,char:=h.char,loose:=h.loose}
mutual
def gF:IN->ND
 | .mk h ks=> .mk (rv h) (eA [] ks)
def eA:List ND->List IN->List ND
 |acc,[]=>acc
 |acc,k::ks=>eA (if k.h.kind=13 then acc else gG acc (gF k)) ks
end
def l0 (h:NH):NH:= {h with text:=if h.kind=6\/h.kind=5\/h.kind=12 then [] else h.text,s:=0,e:=0}
mutual
def fp:ND->ND
 | .mk h ks=> .mk (l0 h) (dA [] ks)
def dA:List ND->List ND->List ND
 |acc,[]=>acc
 |acc,k::ks=>dA (gG acc (fp k)) ks
end

noncomputable def rowIN:Row P cr aj 16 192:=
 ⟨(P.info? aj).getD default,((P.info? aj).bind (·.zero)).getD default,by kernel_rfl,by kernel_rfl,by kernel_rfl,by kernel_rfl,by kernel_rfl,by kernel_rfl,by decide⟩
theorem H7 (v:N16):Instr.fill (λi=>some (i*16,16)) ((Array.range (1*16)).map (rowIN.z.cells[· %rowIN.z.cells.size]!)) [(0,v.V)]=some v.C:=by kernel_rfl
theorem one16 (v:N16): ∀u∈v.V.cells.toList,u.oneCell'=true:=by
 intro x g;simp only[N16.V,Value.cells,N16.C,lW0,lH1,or_false] at g;rcases g with rfl|rfl|rfl|rfl|rfl|rfl|rfl|rfl|rfl|rfl|rfl|rfl|rfl|rfl|rfl|rfl<;>rfl
def NodeAt (x:IN)(v:N16)(M:List ai):Prop:= ∃h g q n c vs RM KM,x= .mk h g/\v=h.nd q n c/\M=RM++KM/\h.ok/\n<1073741824/\INs g vs KM/\Sl 16 aj q n c vs RM
theorem NodeAt.cons {x:IN}{xs:List IN}{v:N16}{us:List Value}{M g:List ai}(h:NodeAt x v M)(y:INs xs us g):INs (x::xs) (v.C.toList++us) (M++g):=by
 obtain⟨h0,E,q,n,c,vs,RM,KM,rfl,rfl,rfl,a,b,d,e⟩:=h;exact .cons a b d e y
theorem NodeAt.leaf {h:IH}(a:h.ok):NodeAt (.mk h []) (h.nd none 0 0) []:=⟨h,[],none,0,0,[],[],[],rfl,rfl,rfl,a,by decide,.nil,Sl.nil 16 aj⟩
def ry (f:FuncId)(x:IN)(v:Value)(T:List ai):Prop:=
 ∀(σ:Out) (R:Ending->World->Prop) (L:List ai) (w:World),Sat σ w (T++L)->(∀w u M,NodeAt x u M->Sat σ w (M++(T++L))->R (hQ u.V) w)->callE P f #[v] R w
inductive kl (f:FuncId):List IN->List Value->List ai->Prop where
 |nil:kl f [] [] []
 |cons {x:IN} {v:Value} {T:List ai} {xs:List IN} {vs:List Value} {K:List ai}:ry f x v T->kl f xs vs K->kl f (x::xs) (v::vs) (T++K)
theorem xw {f:FuncId}{X:OA->Nat->Nat->OA->Nat->Nat->Int->Int->WP}{q:OA}{n c:Nat}{e:TypeId}{xs:List IN}{vs:List Value}{RM KM:List ai}(e2:Sl 1 e q n c vs RM)(d3: ∀O b8 U (j:Int) w,br (decide (j<(n:Int))) (0<=j/\j<(n:Int)/\aA q λa=> ∃(v:Value),w.cell? (a.add (Int.toNat j*1))=some v/\
  callE P f #[v] (λe e7=>Hq e λe9=> ∃(d0:OA),∃(c4:Nat),∃(c2:Nat),∃d2,(Instr.buildSlice cr 1 #[(0,e9.V)]).run P e7= .ok (hT d0 c4 c2) d2/\
   ∃(d1:OA),∃(c5:Nat),∃(c8:Nat),∃e1,(Builtin.append_ #[cr,cr] cr #[hT O b8 U,hT d0 c4 c2]).run P d2= .ok (hT d1 c5 c8) e1/\X d1 c5 c8 q n c (n:Int) (i64.wrap (j+1)) e1) w)
  (R (hQ (hT O b8 U)) w)->X O b8 U q n c (n:Int) j w)(b9:kl f xs vs KM)(h:Sat σ w (RM++(KM++L)))(f1:n<1073741824)(a7: ∀w W I E us g NM,I<1073741824->INs xs us NM->Sl 16 aj W I E us g->Sat σ w (g++NM++(RM++(KM++L)))->R (hQ (hT W I E)) w):X none 0 0 q n c (n:Int) 0 w:=by
 have b3:=e2.1;have e4: ∀(b4:List IN) (b5:List Value) (KM:List ai),kl f b4 b5 KM-> ∀(y:List IN) (a6:List Value) (D:List ai) O U us g NM w,a6++b5=vs->a6.length=y.length->INs y us NM->Sl 16 aj O y.length U us g->Sat σ w (g++NM++(RM++(D++(KM++L))))->
  (∀w W I E us g NM,I<1073741824->INs (y++b4) us NM->Sl 16 aj W I E us g->Sat σ w (g++NM++(RM++(D++(KM++L))))->R (hQ (hT W I E)) w)->X O y.length U q n c (n:Int) (a6.length:Nat) w:=by
  intro b4 b5 KM b9
  induction b9 with
  |nil=>
   intro y a6 D O U us g NM w hv e0 c1 b6 h a7;refine d3 _ _ _ _ _ (af ?_ ?_)
   ·rw[<-hv] at b3;simp at b3;simp;omega
   ·have:y.length<1073741824:=by rw[<-hv] at b3;simp at b3;omega
    rw[lG0] at a7;exact a7 w O y.length U us g NM this c1 b6 h
  | @cons x v T b4 b5 K h1 h2 ih=>
   intro y a6 D O U us g NM w hv e0 c1 b6 h a7;have f0:a6.length<n:=by rw[<-hv] at b3;simp at b3;omega
   refine d3 _ _ _ _ _ (ag (by simp;omega) ⟨by omega,by omega,?_⟩);have c9:vs[a6.length]? =some v:=by rw[<-hv];simp
   have e6:=e2;obtain⟨_,_,⟨rfl,h0,_,_⟩|⟨b7,sp,rfl,rfl,_⟩⟩:=e6
   ·omega
   refine aa ?_;simp only[lL0,lC0,lA1,lO0];refine⟨v,Sat.ld h (lB0 _ (.head _)) ?_,?_⟩
   ·rw[lM0 (lJ0.1 c9).1];exact c9
   have h:Sat σ w (T++(g++NM++([(b7,cel (vs++sp) e)]++(D++(K++L))))):=h.re;refine h1 σ _ _ w h λw u M e8 h=>y8 ?_
   have h:Sat σ w (g++(M++(T++(NM++([(b7,cel (vs++sp) e)]++(D++(K++L))))))):=h.re;refine Sat.app1 rowIN b6 h (v:=u.V) rfl (one16 u) (H7 u) (by omega) (by omega) (by decide) λW E w c3 e5 h=>?_
   rw[aL (by omega)];have e3:INs (y++ [x]) (us++u.V.cells.toList) (NM++M):=by
    have:=c1.append (e8.cons .nil);rw[lG0,lG0] at this;exact this
   have h:Sat σ w (c3++(NM++M)++([(b7,cel (vs++sp) e)]++((D++T)++(K++L)))):=h.re;have:=ih (y++ [x]) (a6++ [v]) (D++T) W E _ c3 (NM++M) w (by simpa using hv) (by simp[e0]) e3 (by rw[lA0];exact e5) h (λw W I E us g NM a b d h=>a7 w W I E us g NM a (by simpa using b) d (h.re))
   simpa using this
 exact e4 xs vs KM b9 [] [] [] none 0 [] [] [] w rfl rfl .nil (Sl.nil 16 aj) h a7
theorem jH {q:OA}{n c:Nat}{e:TypeId}{xs:List IN}{vs:List Value}{RM KM:List ai}(a6:Sl 1 e q n c vs RM)(U:kl eG xs vs KM)(h:Sat σ w (RM++(KM++L)))(O:n<1073741824)(V: ∀w I g y us E NM,g<1073741824->INs xs us NM->Sl 16 aj I g y us E->Sat σ w (E++NM++(RM++(KM++L)))->R (hQ (hT I g y)) w):callE P dz #[hT q n c] R w:=by
 refine fo.sound ?_;intro X W;exact xw (f:=eG) a6 (λb5 b3 b4 j w a7=>W _ _ _ _ _ _ _ _ _ a7) U h O V
theorem oC {q:OA}{n c:Nat}{e:TypeId}{xs:List IN}{vs:List Value}{RM KM:List ai}(a6:Sl 1 e q n c vs RM)(U:kl bR xs vs KM)(h:Sat σ w (RM++(KM++L)))(O:n<1073741824)(V: ∀w I g y us E NM,g<1073741824->INs xs us NM->Sl 16 aj I g y us E->Sat σ w (E++NM++(RM++(KM++L)))->R (hQ (hT I g y)) w):callE P io #[hT q n c] R w:=by
 refine f9.sound ?_;intro X W;exact xw (f:=bR) a6 (λb5 b3 b4 j w a7=>W _ _ _ _ _ _ _ _ _ a7) U h O V
def An (P:Program)(a:TypeId):Bool:=
 match P.underlying a,P.info? a with
 |some (.pointer _),some i=>match i.zero with
  |some (.pointer none)=>true
  |_=>false
 |_,_=>false
theorem xP {a:TypeId}(h:An P a=true): ∃e i,P.underlying a=some (.pointer e)/\P.info? a=some i/\i.zero=some (kT none):=by
 unfold An at h;split at h
 ·rename_i e i y g;split at h
  ·rename_i E;exact⟨e,i,y,g,E⟩
  ·exact absurd h (by decide)
 ·exact absurd h (by decide)
theorem cl {t a xt:TypeId}{v:Value}(E:An P a=true)(y:t≠a)(w:World):(Instr.typeAssert (.iface t v) xt a true).run P w= .ok (.tuple #[kT none,hV false]) w:=by
 obtain⟨e,i,g,I,O⟩:=xP E;exact vx (by rw[g];intro U h;cases h) g y I O w
theorem iT {a xt:TypeId}{v:Value}(y:An P a=true)(w:World):(Instr.typeAssert (.iface a v) xt a true).run P w= .ok (.tuple #[v,hV true]) w:=by
 obtain⟨e,i,g,E,I⟩:=xP y;exact o7 (by rw[g];intro O h;cases h) g w
def tcT (c:UInt8):List UInt8:=if c=0 then [] else [c]
mutual
def BX:Inl->IN
 | .plain s=> .mk {kind:=20,text:=s} []
 | .openP s _=> .mk {kind:=20,text:=s} []
 | .emphP s _ _ _ _=> .mk {kind:=20,text:=s} []
 | .esc s=> .mk {kind:=20,text:=s,escaped:=true} []
 | .code s=> .mk {kind:=23,text:=s} []
 | .strong m ks=> .mk {kind:=25,mark:=m} (eK ks)
 | .del m ks=> .mk {kind:=26,mark:=m} (eK ks)
 | .emph m ks=> .mk {kind:=24,mark:=m} (eK ks)
 | .link ks u t tc _=> .mk {kind:=27,text:=u,title:=t,mark:=tcT tc} (eK ks)
 | .image ks u t tc _=> .mk {kind:=28,text:=u,title:=t,mark:=tcT tc} (eK ks)
 | .auto t u=> .mk {kind:=27,text:=u,auto:=true} [.mk {kind:=20,text:=t} []]
 | .tag s=> .mk {kind:=29,text:=s} []
 | .hard=> .mk {kind:=22} []
 | .soft=> .mk {kind:=21} []
 | .task b=> .mk {kind:=30,num:=if b then 2 else 1} []
def eK:List Inl->List IN
 | []=> []
 |t::ts=>BX t::eK ts
end
mutual
def sU:Inl->Prop
 | .plain s=>s.length<1073741824
 | .openP s _=>s.length<1073741824
 | .emphP s _ _ _ _=>s.length<1073741824
 | .esc s=>s.length<1073741824
 | .code s=>s.length<1073741824
 | .strong m ks=>m.length<1073741824/\ks.length<1073741824/\mu ks
 | .emph m ks=>m.length<1073741824/\ks.length<1073741824/\mu ks
 | .link ks u t tc _=>u.length<1073741824/\t.length<1073741824/\tc=0/\ks.length<1073741824/\mu ks
 | .soft=>True
 |_=>False
def mu:List Inl->Prop
 | []=>True
 |t::ts=>sU t/\mu ts
end

theorem bZ:([]:List UInt8).length<1073741824:=by decide
theorem ku {u v:N16}{x:IN}{b1:Nat}{NM K:List ai}(E:NodeAt x v NM)(h:Sat σ w ((b1,cel u.C.toList aj)::(NM++K)))(y: ∀w u M,NodeAt x u M->Sat σ w (M++K)->R (hQ u.V) w):
 st16 w b1 v λg=>ldB16 g b1 λm=>R (hQ m.V) g:=
 h.st16 0 u v λw h=>h.ldB16 v (.head _) (y w v NM E h.tail)
theorem EY (g:R (hQ (hX (bs []))) w):callE P mL #[.int .u8 0] R w:=by
 refine pE.sound ?_;exact ag rfl g
mutual
theorem xR: ∀ {t:Inl} {v:Value} {M:List ai},sU t->InlAt t v M->ry eG (BX t) v M
 | .plain s,v,M,ht,hI=>by
  intro σ R L w h hR;refine dG.sound ?_;refine Sat.bx h λb1 w h=>?_
  have h:Sat σ w ((b1,cel (N16.C {}).toList aj)::(M++L)):=h
  refine g8.sound ?_;refine jE hI rfl λb cs e hM=>⟨_,rfl,_,rfl,_,_,dU eX _ w,ag rfl (aa ⟨_,Sat.ld h (.tail _ (by rw[hM];exact .head _)) rfl,?_⟩)⟩
  exact ku (NodeAt.leaf (h:= {kind:=20,text:=s}) ⟨ht,bZ,bZ,bZ⟩) h hR
 | .openP s i,v,M,ht,hI=>by
  intro σ R L w h hR;refine dG.sound ?_;refine Sat.bx h λb1 w h=>?_
  have h:Sat σ w ((b1,cel (N16.C {}).toList aj)::(M++L)):=h
  refine g8.sound ?_;refine jE hI rfl λb cs e hM=>⟨_,rfl,_,rfl,_,_,dU eX _ w,ag rfl (aa ⟨_,Sat.ld h (.tail _ (by rw[hM];exact .head _)) rfl,?_⟩)⟩
  exact ku (NodeAt.leaf (h:= {kind:=20,text:=s}) ⟨ht,bZ,bZ,bZ⟩) h hR
 | .emphP s co cc i n,v,M,ht,hI=>by
  intro σ R L w h hR;refine dG.sound ?_;refine Sat.bx h λb1 w h=>?_
  have h:Sat σ w ((b1,cel (N16.C {}).toList aj)::(M++L)):=h
  refine g8.sound ?_;refine jE hI rfl λb cs e hM=>⟨_,rfl,_,rfl,_,_,dU eX _ w,ag rfl (aa ⟨_,Sat.ld h (.tail _ (by rw[hM];exact .head _)) rfl,?_⟩)⟩
  exact ku (NodeAt.leaf (h:= {kind:=20,text:=s}) ⟨ht,bZ,bZ,bZ⟩) h hR
 | .esc s,v,M,ht,hI=>by
  intro σ R L w h hR;refine dG.sound ?_;refine Sat.bx h λb1 w h=>?_
  have h:Sat σ w ((b1,cel (N16.C {}).toList aj)::(M++L)):=h
  refine g8.sound ?_;refine jF hI rfl ⟨_,rfl,_,rfl,_,_,dU eX _ w,af rfl ?_⟩;obtain⟨b,e,rfl,rfl⟩:=hI;refine⟨_,_,_,iT (by kernel_rfl) w,ag rfl ?_⟩;refine aa ⟨_,Sat.ld h (.tail _ (.head _)) rfl,?_⟩;exact ku (NodeAt.leaf (h:= {kind:=20,text:=s,escaped:=true}) ⟨ht,bZ,bZ,bZ⟩) h hR
 | .soft,v,M,ht,hI=>by
  intro σ R L w h hR;refine dG.sound ?_;refine Sat.bx h λb1 w h=>?_
  have h:Sat σ w ((b1,cel (N16.C {}).toList aj)::(M++L)):=h
  refine g8.sound ?_;refine jF hI rfl ⟨_,rfl,_,rfl,_,_,dU eX _ w,af rfl ?_⟩;obtain⟨b,e,rfl,rfl⟩:=hI;refine⟨_,_,_,cl (by kernel_rfl) (by decide) w,af rfl ?_⟩;refine⟨_,_,_,iT (by kernel_rfl) w,ag rfl ?_⟩;exact ku (NodeAt.leaf (h:= {kind:=21}) ⟨bZ,bZ,bZ,bZ⟩) h hR
 | .code s,v,M,ht,hI=>by
  intro σ R L w h hR;refine dG.sound ?_;refine Sat.bx h λb1 w h=>?_
  have h:Sat σ w ((b1,cel (N16.C {}).toList aj)::(M++L)):=h
  refine g8.sound ?_;refine jF hI rfl ⟨_,rfl,_,rfl,_,_,dU eX _ w,af rfl ?_⟩;obtain⟨b,e,rfl,rfl⟩:=hI;refine⟨_,_,_,cl (by kernel_rfl) (by decide) w,af rfl ?_⟩;refine⟨_,_,_,cl (by kernel_rfl) (by decide) w,af rfl ?_⟩;refine⟨_,_,_,cl (by kernel_rfl) (by decide) w,af rfl ?_⟩;refine⟨_,_,_,iT (by kernel_rfl) w,ag rfl ?_⟩;refine aa ⟨_,Sat.ld h (.tail _ (.head _)) rfl,?_⟩;exact ku (NodeAt.leaf (h:= {kind:=23,text:=s}) ⟨ht,bZ,bZ,bZ⟩) h hR
 | .emph m ks,v,M,ht,hI=>by
  intro σ R L w h hR;refine dG.sound ?_;refine Sat.bx h λb1 w h=>?_
  have h:Sat σ w ((b1,cel (N16.C {}).toList aj)::(M++L)):=h
  refine g8.sound ?_;refine jF hI rfl ⟨_,rfl,_,rfl,_,_,dU eX _ w,af rfl ?_⟩;obtain⟨b,e,q,n,c,vs,RM,KM,rfl,rfl,hS,hK⟩:=hI;have hg:=fa ht.2.2 hK;have hn:n<1073741824:=by have h1:=hK.length;have h2:=hS.1;have h3:=ht.2.1;omega
  refine⟨_,_,_,cl (by kernel_rfl) (by decide) w,af rfl ?_⟩;refine⟨_,_,_,cl (by kernel_rfl) (by decide) w,af rfl ?_⟩;refine⟨_,_,_,cl (by kernel_rfl) (by decide) w,af rfl ?_⟩;refine⟨_,_,_,cl (by kernel_rfl) (by decide) w,af rfl ?_⟩;refine⟨_,_,_,iT (by kernel_rfl) w,ag rfl ?_⟩;refine h.tk λw h=>aa (aa ⟨_,Sat.ld h (.tail _ (.head _)) rfl,?_⟩)
  refine⟨_,_,_,h.ldA,?_⟩;have h:Sat σ w (RM++(KM++((b,cel [hX (bs m),hT q n c] e)::(b1,cel (N16.C {}).toList aj)::L))):=h.re
  have h0:=h;refine jH hS hg h hn λw q' n' c' us OM NM hn' hIN hO h=>⟨_,_,_,rfl,?_,?_⟩
  ·exact h0.same h (lB0 _ (lB0 _ (.head _))) (lB0 _ (lB0 _ (lB0 _ (.head _)))) 1
  ·exact ku (u:= {}) (NM:=OM++NM) ⟨{kind:=24,mark:=m},eK ks,q',n',c',us,OM,NM,rfl,rfl,rfl,⟨bZ,bZ,bZ,ht.1⟩,hn',hIN,hO⟩ (h.re:Sat σ w ((b1,cel (N16.C {}).toList aj)::((OM++NM)++((b,cel [hX (bs m),hT q n c] e)::(RM++KM)++L)))) hR
 | .strong m ks,v,M,ht,hI=>by
  intro σ R L w h hR;refine dG.sound ?_;refine Sat.bx h λb1 w h=>?_
  have h:Sat σ w ((b1,cel (N16.C {}).toList aj)::(M++L)):=h
  refine g8.sound ?_;refine jF hI rfl ⟨_,rfl,_,rfl,_,_,dU eX _ w,af rfl ?_⟩;obtain⟨b,e,q,n,c,vs,RM,KM,rfl,rfl,hS,hK⟩:=hI;have hg:=fa ht.2.2 hK;have hn:n<1073741824:=by have h1:=hK.length;have h2:=hS.1;have h3:=ht.2.1;omega
  refine⟨_,_,_,cl (by kernel_rfl) (by decide) w,af rfl ?_⟩;refine⟨_,_,_,cl (by kernel_rfl) (by decide) w,af rfl ?_⟩;refine⟨_,_,_,cl (by kernel_rfl) (by decide) w,af rfl ?_⟩;refine⟨_,_,_,cl (by kernel_rfl) (by decide) w,af rfl ?_⟩;refine⟨_,_,_,cl (by kernel_rfl) (by decide) w,af rfl ?_⟩;refine⟨_,_,_,iT (by kernel_rfl) w,ag rfl ?_⟩;refine h.tk λw h=>aa (aa ⟨_,Sat.ld h (.tail _ (.head _)) rfl,?_⟩)
  refine⟨_,_,_,h.ldA,?_⟩;have h:Sat σ w (RM++(KM++((b,cel [hX (bs m),hT q n c] e)::(b1,cel (N16.C {}).toList aj)::L))):=h.re
  have h0:=h;refine jH hS hg h hn λw q' n' c' us OM NM hn' hIN hO h=>⟨_,_,_,rfl,?_,?_⟩
  ·exact h0.same h (lB0 _ (lB0 _ (.head _))) (lB0 _ (lB0 _ (lB0 _ (.head _)))) 1
  ·exact ku (u:= {}) (NM:=OM++NM) ⟨{kind:=25,mark:=m},eK ks,q',n',c',us,OM,NM,rfl,rfl,rfl,⟨bZ,bZ,bZ,ht.1⟩,hn',hIN,hO⟩ (h.re:Sat σ w ((b1,cel (N16.C {}).toList aj)::((OM++NM)++((b,cel [hX (bs m),hT q n c] e)::(RM++KM)++L)))) hR
 | .link ks ur ti tc k,v,M,ht,hI=>by
  intro σ R L w h hR;refine dG.sound ?_;refine Sat.bx h λb1 w h=>?_
  have h:Sat σ w ((b1,cel (N16.C {}).toList aj)::(M++L)):=h
  refine g8.sound ?_;refine jF hI rfl ⟨_,rfl,_,rfl,_,_,dU eX _ w,af rfl ?_⟩;obtain⟨b,e,q,n,c,vs,RM,KM,rfl,rfl,hS,hK⟩:=hI;obtain⟨hu,hti,htc,hkl,hkt⟩:=ht;subst htc;have hg:=fa hkt hK;have hn:n<1073741824:=by have h1:=hK.length;have h2:=hS.1;omega
  refine⟨_,_,_,cl (by kernel_rfl) (by decide) w,af rfl ?_⟩;refine⟨_,_,_,cl (by kernel_rfl) (by decide) w,af rfl ?_⟩;refine⟨_,_,_,cl (by kernel_rfl) (by decide) w,af rfl ?_⟩;refine⟨_,_,_,cl (by kernel_rfl) (by decide) w,af rfl ?_⟩;refine⟨_,_,_,cl (by kernel_rfl) (by decide) w,af rfl ?_⟩;refine⟨_,_,_,cl (by kernel_rfl) (by decide) w,af rfl ?_⟩;refine⟨_,_,_,cl (by kernel_rfl) (by decide) w,af rfl ?_⟩;refine⟨_,_,_,iT (by kernel_rfl) w,ag rfl ?_⟩;refine h.tk λw h=>aa (aa (aa (aa ⟨_,Sat.ld h (.tail _ (.head _)) rfl,_,Sat.ld h (.tail _ (.head _)) rfl,_,Sat.ld h (.tail _ (.head _)) rfl,_,_,_,Sat.ld h (.tail _ (.head _)) rfl,?_⟩)))
  refine EY ⟨_,rfl,λ_ _=>rfl,λ_ _=>rfl,λ_ _=>rfl,?_⟩;have h:Sat σ w (RM++(KM++((b,cel [hT q n c,hX (bs ur),hX (bs ti),.int .u8 (0:UInt8).toNat,hV k] e)::(b1,cel (N16.C {}).toList aj)::L))):=h.re
  have h0:=h;refine jH hS hg h hn λw q' n' c' us OM NM hn' hIN hO h=>⟨_,_,_,rfl,?_,?_,?_⟩
  ·exact h0.same h (lB0 _ (lB0 _ (.head _))) (lB0 _ (lB0 _ (lB0 _ (.head _)))) 1
  ·exact h0.same h (lB0 _ (lB0 _ (.head _))) (lB0 _ (lB0 _ (lB0 _ (.head _)))) 1
  ·exact ku (u:= {}) (NM:=OM++NM) ⟨{kind:=27,text:=ur,title:=ti,mark:=tcT 0},eK ks,q',n',c',us,OM,NM,rfl,rfl,rfl,⟨hu,hti,bZ,bZ⟩,hn',hIN,hO⟩ (h.re:Sat σ w ((b1,cel (N16.C {}).toList aj)::((OM++NM)++((b,cel [hT q n c,hX (bs ur),hX (bs ti),.int .u8 (0:UInt8).toNat,hV k] e)::(RM++KM)++L)))) hR
 | .del _ _,v,M,ht,hI=>ht.elim
 | .image _ _ _ _ _,v,M,ht,hI=>ht.elim
 | .auto _ _,v,M,ht,hI=>ht.elim
 | .tag _,v,M,ht,hI=>ht.elim
 | .hard,v,M,ht,hI=>ht.elim
 | .task _,v,M,ht,hI=>ht.elim
theorem fa: ∀ {ts:List Inl} {vs:List Value} {M:List ai},mu ts->InlsAt ts vs M->kl eG (eK ts) vs M
 | [],vs,M,ht,hI=>by
  obtain⟨rfl,rfl⟩:=hI;exact .nil
 |t::ts,vs,M,ht,hI=>by
  obtain⟨v,vs',M1,M2,rfl,rfl,h1,h2⟩:=hI;exact .cons (xR ht.1 h1) (fa ht.2 h2)
end

theorem zc (ls:List (List UInt8))(l:List UInt8):dK (ls++ [l])=dK ls++l++ [10]:=by unfold dK;simp
theorem Di {q:OA}{c:Nat}{ls:List (List UInt8)}{E:List ai}(c1:Sl 1 aq q ls.length c (sv ls) E)(h:Sat σ w (E++L))(c2:ls.length<1048576)(hb:(dK ls).length<1073741824)(b5:ls.head? ≠some [])(b9: ∀w,Sat σ w (E++L)->R (hQ (hX (bs (dK ls)))) w):callE P nO #[hT q ls.length c] R w:=by
 refine gY.sound ?_;refine Sat.bx h λb w h=>?_
 intro X a6;have b3: ∀k j I M w,j+k=ls.length->(I=true\/j=0)->Bld b I (dK (ls.take j)) M->Sat σ w (M++(E++L))->X b q ls.length c (ls.length:Int) (j:Int) w:=by
  intro k
  induction k with
  |zero=>
   intro j I M w b7 O y h;rw[lB2 (by omega)] at y;refine a6 _ _ _ _ _ _ _ (af (by simp;omega) ?_);exact ua y h (by omega) λw h=>⟨_,rfl,b9 w h⟩
  |succ k b8=>
   intro j I M w b7 O y h;have U:j<ls.length:=by omega
   have W:dK (ls.take (j+1))=dK (ls.take j)++ls[j]++ [10]:=by rw[lB1 U,zc]
   have V:(dK (ls.take (j+1))).length<=(dK ls).length:=by
    have:dK ls=dK (ls.take (j+1))++dK (ls.drop (j+1)):=by unfold dK;rw[<-lK5,lW1]
    rw[this,lA0];omega
   rw[W] at V;simp only[lA0,lF0,lM1] at V;have b4:Sat σ w (E++(M++L)):=h.re;refine a6 _ _ _ _ _ _ _ (ag (by simp;omega) ⟨by omega,by omega,?_⟩);refine c1.loadAt b4 (uF U) λc3 c4 hc=>?_
   simp only[lL0,lC0,lA1,lO0];refine⟨_,hc,?_⟩;have a7:ls[j]≠ []\/I=true:=by
    rcases O with O|rfl
    ·exact .inr O
    ·left;intro b6;apply b5;rw[lF6,lH0 U,b6]
   refine ub (s:=ls[j]) y h a7 (by omega) λw M y h=>⟨_,_,rfl,?_⟩
   refine zO (k:=10) y h (by simp only[lA0];omega) λw M y h=>⟨_,rfl,?_⟩
   rw[aL (by omega)];refine b8 (j+1) true M w (by omega) (.inl rfl) ?_ h;rw[W];exact y
 exact b3 ls.length 0 false _ w (by omega) (.inr rfl) (DZ b) h
theorem B7: ∃k v,P.underlying iw=some (.map k v):=⟨aq,l6,by kernel_rfl⟩
theorem Sat.alo (h:Sat σ w L)(o:Obj):Sat σ (w.alloc o) ((w.heap.size,o)::L):=by
 refine⟨h.os,h.out,?_,?_⟩
 ·simp only[lP1,lX3];refine⟨λy=>?_,h.nodup⟩;obtain⟨c,hc,g⟩:=lU1.1 y;exact lQ6 _ (g▸h.lt hc)
 ·intro c hc;cases hc with
  |head=>exact(lJ4 ..).trans rfl
  |tail _ hc=>
   have:=h.lt hc
   show (w.heap.push o)[c.1]? =some c.2
   rw[lR4 this,<-lS2 this];exact h.at_ _ hc
theorem vG (w:World):(Instr.range iw (.map none)).run P w= .ok (kT (kE w.heap.size)) (w.alloc (.mapIter none 0 #[] 0)):=by
 obtain⟨k,v,g⟩:=B7;unfold Instr.range;rw[lX0,run_underlying g];rfl
theorem xa {b:Nat}{t:TypeId}(h:w.heap[b]? =some (.mapIter none 0 #[] 0)):(Instr.next (kT (kE b)) false t).run P w= .ok (.tuple #[hV false]) w:=by
 have g:(getObj b).run P w= .ok (.mapIter none 0 #[] 0) w:=by simp[getObj,Sem.run,h]
 simp[Instr.next,g]
theorem GU (E:R (hQ (hY 0)) w):callE P kV #[.int .u64 0] R w:=by
 refine kZ.sound ?_;refine cC.sound ?_;refine af rfl (af rfl (af rfl ?_));unfold cC.k3;generalize g:hP _=T;have O:IntKind.u8.wrap 0=((0:Nat):Int):=rfl
 have I:T.size=256:=by rw[<-g];kernel_rfl
 have y:bt T ((0:Nat):Int)=0:=by rw[<-g];kernel_rfl
 rw[O,I,y];exact⟨by decide,by decide,_,rfl,E⟩
theorem Ey {f:Value}(g:R (hQ (.tuple #[])) w):callE P dj #[hT none 0 0,f] R w:=by
 refine dk.sound ?_;refine GU ⟨_,rfl,?_⟩;refine bD.sound ?_;intro X E;refine E _ _ _ _ _ _ _ _ _ _ (ag rfl ?_);refine be.sound ?_;intro Y y;exact y _ _ _ _ _ _ _ _ (af rfl ⟨rfl,rfl,g⟩)
theorem gc {t:TypeId}{b s e:Nat}{cs:List Value}{ty:TypeId}{K:Nat->Nat->World->Prop}(b6:lB P t "Pos" cB=true) (h:Sat σ w L) (hc:(b,cel (hY s:: hY e::cs) ty)∈L)
 (b4: ∀b1 g w,Sat σ w ((g,cel (N16.C {a8:=s,a9:=e}).toList aj)::(b1,cel (N16.C {}).toList aj)::L)->K b1 g w):
 box w (N16.C {}) aj λb1 b3=>de P (callMethod (.iface t (kT (kE b))) "Pos" #[]) (λe b9=> ∃(O:Int),∃(I:Int),e= hQ (.agg #[hY O,hY I])/\
  box b9 #[hY 0,hY 0] aH λy b7=>stV b7 (hZ y 0) (hY O) λb8=>stV b8 (hZ y 1) (hY I) λE=> ∃(V:Int),E.cell? (hZ y 0)=some (hY V)/\ ∃(U:Int),E.cell? (hZ y 1)=some (hY U)/\
  box E (N16.C {}) aj λg W=>st16 W g {a8:=V,a9:=U} λa6=>K b1 g a6) b3:=by
 refine Sat.bx h λb1 w h=>?_
 have c1:DB.posIs ⟨.iface t (kT (kE b)),[(b,cel (hY s:: hY e::cs) ty)],[]⟩ s e:=kr b6 rfl (.head _)
 refine c1 σ _ _ w (λc a7=> .tail _ (by rw[lN0.1 a7];exact hc)) h λw h=>⟨_,_,rfl,?_⟩
 refine Sat.bx h λy w h=>?_
 refine h.stA 0 λw h=>?_
 refine h.stA 0 λw h=>?_
 refine⟨_,Sat.ld h (.head _) (i:=0) rfl,_,Sat.ld h (.head _) (i:=1) rfl,?_⟩;refine Sat.bx h λg w h=>?_
 have h:Sat σ w ((g,cel (N16.C {}).toList aj)::(y,cel [hY s,hY e] aH)::(b1,cel (N16.C {}).toList aj)::L):=h
 refine h.st16 0 {} {a8:=s,a9:=e} λw h=>b4 b1 g w ?_
 exact h.sub (.cons_cons _ (.cons _ (List.Sublist.refl _)))
theorem iL {u v:N16}{x:IN}{b1 g:Nat}{NM K:List ai}(E:NodeAt x v NM)(h:Sat σ w ((g,cel v.C.toList aj)::(b1,cel u.C.toList aj)::(NM++K)))(I: ∀w u M,NodeAt x u M->Sat σ w (M++K)->R (hQ u.V) w):
 ldB16 w g λm=>st16 w b1 m λy=>ldB16 y b1 λO=>R (hQ O.V) y:=
 h.ldB16 v (.head _) (h.st16 1 u v λw h=>h.ldB16 v (.tail _ (.head _)) (I w v NM E h.tail.tail))
def iI (R:EP)(E:OA)(b5:Value)(w:World):Prop:=tk w λg=>aA E λa2=>aA E λa3=>aA E λa4=>∃a6,g.cell? a2=some (hX a6)/\∃a7,g.cell? (a3.add 1)=some (hX a7)/\∃U W V,g.cell? (a4.add 3)=some (hT U W V)/\de P (callMethod b5 "pub-paratext/pub/rscmarkdown.pos" #[]) (λe y=>∃I O,e= hQ (.agg #[hY I,hY O])/\SameC g y (a4.add 3) 1/\SameC g y (a3.add 1) 1/\SameC g y (a2) 1/\box y #[hY I,hY O,hX a6,hX a7,hT U W V] nx λb4 b3=>R (hQ (.iface cL (kT (kE b4)))) b3) g
theorem iI.sound {R x0 x1 w}(h:iI R x0 x1 w):callE P iD #[kT x0,x1] R w:=
 aG [(5,.dr (rpN [0,6,9,12,18,21,24,30,33,36,16,28,40,5,42,47,48,51]))] Tryz.func440 Tryz.call440 h
namespace bB
def k2 (R:EP)(e5 a6:OA)(e4 g:Nat)(w:World):Prop:=tk w λW=>aA e5 λU=>∃b9 a7 b7,W.cell? (U.add 3)=some (hT b9 a7 b7)/\callE P im #[kT (kE e4)] (λe V=>∃e2,e= hQ (hX e2)/\SameC W V (U.add 3) 1/\∃b4 b6,∃b5 O,(Instr.buildSlice al 1 #[(0,hX e2)]).run P V= .ok (hT b4 b6 b5) O/\SameC V O (U.add 3) 1/\∃c1 b3,∃b8 d1,(Builtin.append_ #[al,al] al #[hT b9 a7 b7,hT b4 b6 b5]).run P O= .ok (hT c1 b3 b8) d1/\aA e5 λf3=>stV d1 ((f3.add 3).add 0) (hT c1 b3 b8) λI=>aA a6 λf4=>∃e3,I.cell? (f4.add 6)=some (hV e3)/\br e3 (aA a6 λf1=>stV I ((f1.add 6).add 0) (hV true) λf7=>stV f7 (hZ g 0) (hY 0) λf0=>stV f0 (hZ g 1) (hY 0) λe8=>stV e8 (hZ g 2) (hY 0) λe6=>stV e6 (hZ g 3) (hX (hP #[])) λf2=>stV f2 (hZ g 4) (.int .u8 0) λE=>∃d2,E.cell? (hZ g 0)=some (hY d2)/\∃d0,E.cell? (hZ g 1)=some (hY d0)/\∃e1,E.cell? (hZ g 2)=some (hY e1)/\∃e0,E.cell? (hZ g 3)=some (hX e0)/\∃d3,E.cell? (hZ g 4)=some (.int .u8 d3)/\R (hQ (.tuple #[.agg #[hY d2,hY d0,hY e1,hX e0,.int .u8 d3],hV true])) E) (∃c4,I.cell? (hZ e4 4)=some (.int .u8 c4)/\aA a6 λg1=>stV I ((g1.add 6).add 0) (hV (c4 !=10)) λf5=>stV f5 (hZ g 0) (hY 0) λf6=>stV f6 (hZ g 1) (hY 0) λe9=>stV e9 (hZ g 2) (hY 0) λg0=>stV g0 (hZ g 3) (hX (hP #[])) λe7=>stV e7 (hZ g 4) (.int .u8 0) λy=>∃c3,y.cell? (hZ g 0)=some (hY c3)/\∃c2,y.cell? (hZ g 1)=some (hY c2)/\∃c5,y.cell? (hZ g 2)=some (hY c5)/\∃c9,y.cell? (hZ g 3)=some (hX c9)/\∃c8,y.cell? (hZ g 4)=some (.int .u8 c8)/\R (hQ (.tuple #[.agg #[hY c3,hY c2,hY c5,hX c9,.int .u8 c8],hV true])) y)) W
def k1 (R:EP)(y b3:OA)(U a7:Nat)(w:World):Prop:=tk w λg=>aA y λV=>aA y λW=>∃O,g.cell? (V.add 2)=some (hY O)/\∃E,g.cell? (W.add 2)=some (hY E)/\callE P bp #[kT (kE U),hY O,hY E,hV false] (λe a6=>∃I,e= hQ (hV I)/\br (!I) (False) (k2 R y b3 U a7 a6)) g
end bB
def bB (R:EP)(V W:OA)(e4 e2 e3:Int)(e1:BA)(e5:Int)(w:World):Prop:=box w #[hY e4,hY e2,hY e3,hX e1,.int .u8 e5] aW λb1 g3=>box g3 #[hY 0,hY 0,hY 0,hX (hP #[]),.int .u8 0] aW λg g1=>box g1 #[hX (hP #[])] aq λd3 g0=>box g0 #[hX (hP #[])] aq λe0 g4=>box g4 #[hY 0] ba λg2 y=>∃b8,y.cell? (hZ b1 0)=some (hY b8)/\∃c8,y.cell? (hZ b1 1)=some (hY c8)/\∃c2,y.cell? (hZ b1 2)=some (hY c2)/\∃d0,y.cell? (hZ b1 3)=some (hX d0)/\∃a7,y.cell? (hZ b1 4)=some (.int .u8 a7)/\box y #[hY 0,hY 0,hY 0,hX (hP #[]),.int .u8 0] aW λE f0=>stV f0 (hZ E 0) (hY b8) λf5=>stV f5 (hZ E 1) (hY c8) λe7=>stV e7 (hZ E 2) (hY c2) λf1=>stV f1 (hZ E 3) (hX d0) λe8=>stV e8 (hZ E 4) (.int .u8 a7) λe9=>tk e9 λf6=>callE P gh #[kT (kE E),kT (kE d3),kT (kE e0),kT (kE g2)] (λe U=>∃b6,e= hQ (hV b6)/\br b6 (aA V λf2=>∃d1,U.cell? (hZ d3 0)=some (hX d1)/\∃c9,U.cell? f2=some (hX c9)/\callE P iW #[hX d1,hX c9] (λe O=>∃a6,e= hQ (hV a6)/\br a6 (∃b4,O.cell? (hZ e0 0)=some (hX b4)/\br (b4.toList==(hP #[]).toList) (stV O (hZ g 0) (hY 0) λf3=>stV f3 (hZ g 1) (hY 0) λf4=>stV f4 (hZ g 2) (hY 0) λe6=>stV e6 (hZ g 3) (hX (hP #[])) λf7=>stV f7 (hZ g 4) (.int .u8 0) λI=>∃c4,I.cell? (hZ g 0)=some (hY c4)/\∃c5,I.cell? (hZ g 1)=some (hY c5)/\∃c3,I.cell? (hZ g 2)=some (hY c3)/\∃c1,I.cell? (hZ g 3)=some (hX c1)/\∃d2,I.cell? (hZ g 4)=some (.int .u8 d2)/\R (hQ (.tuple #[.agg #[hY c4,hY c5,hY c3,hX c1,.int .u8 d2],hV false])) I) (bB.k1 R V W b1 g O)) (bB.k1 R V W b1 g O)) U) (bB.k1 R V W b1 g U)) f6
theorem bB.sound {R x0 x1 x2_0 x2_1 x2_2 x2_3 x2_4 w}(h:bB R x0 x1 x2_0 x2_1 x2_2 x2_3 x2_4 w):callE P gQ #[kT x0,kT x1,.agg #[hY x2_0,hY x2_1,hY x2_2,hX x2_3,.int .u8 x2_4]] R w:=
 aG [(87,.dr (rpN [2,3,9,12,15,7,19,23,24,27,31,33,36])),(31,.mk [2,22,106,126] (bB.k1 R)),(79,.dr (rpN [0,3,6,12,15,18,10,22,26,27])),(175,.no),(63,.mk [2,22,106,126] (bB.k2 R)),(95,.dr (rpN [0,3,6,9,13,17,20,23,24,27,32]))] Tryz.func441 Tryz.call441 h
namespace gZ
def bl1 (R:EP)(Xa:BA->Int->WP)(y:BA)(g:Int)(w:World):Prop:=br (decide (g<12)) (0<=g/\g<(12:Int)/\0<=(0:Int)/\0<(2:Int)/\∃v1,w.cell? (((⟨1,0,none⟩:Addr).add (Int.toNat g*2)).add (Int.toNat 0*1))=some (hX v1)/\br (v1.toList==y.toList) (0<=g/\g<(12:Int)/\0<=(1:Int)/\1<(2:Int)/\∃E,w.cell? (((⟨1,0,none⟩:Addr).add (Int.toNat g*2)).add (Int.toNat 1*1))=some (hX E)/\R (hQ (.tuple #[hX E,hV true])) w) (Xa y (i64.wrap (g+1)) w)) (R (hQ (.tuple #[hX (hP #[]),hV false])) w)
def l1 (R:EP)(y:BA)(g:Int)(w:World):Prop:=∀X:BA->Int->WP,(∀y g w,bl1 R X y g w->X y g w)->X y g w
end gZ
def gZ (R:EP)(g:BA)(w:World):Prop:=gZ.l1 R g 0 w
theorem gZ.sound {R x0 w}(h:gZ R x0 w):callE P nQ #[hX x0] R w:=
 aG [(21,.lp [1,87] (gZ.bl1 R) λXa=> [])] Tryz.func169 Tryz.call169 h
namespace bj
def k3 (R:EP)(Xa:BA->Nat->Int->WP)(y:BA)(E:Nat)(g:Int)(w:World):Prop:=0<=g/\g<(y.size:Int)/\callE P bT #[kT (kE E),.int .u8 (bt y g)] (λe I=>∃(O:Value),e= hQ O/\Xa y E (i64.wrap (g+1)) I) w
def k2 (R:EP)(Xa:BA->Nat->Int->WP)(g:BA)(I:Nat)(y E:Int)(w:World):Prop:=br (decide (E<(g.size:Int))) (0<=y/\y<=(i64.wrap (E+1))/\(i64.wrap (E+1))<=(g.size:Int)/\callE P nQ #[hX (g.extract (Int.toNat y) (Int.toNat (i64.wrap (E+1))))] (λe V=>∃O U,e= hQ (.tuple #[hX O,hV U])/\br U (callE P bz #[kT (kE I),hX O] (λe a7=>∃W,∃(a6:Value),e= hQ (.tuple #[hY W,a6])/\Xa g I (i64.wrap (E+1)) a7) V) (k3 R Xa g I y V)) w) (k3 R Xa g I y w)
def bl2 (R:EP)(Xa:BA->Nat->Int->WP)(O:BA->Nat->Int->Int->WP)(y:BA)(E:Nat)(I g:Int)(w:World):Prop:=((decide (g<(y.size:Int)))=true->0<=g/\g<(y.size:Int))/\br ((decide (g<(y.size:Int))) && ((bt y g) !=59)) (O y E I (i64.wrap (g+1)) w) (k2 R Xa y E I g w)
def l2 (R:EP)(Xa:BA->Nat->Int->WP)(E:BA)(g:Nat)(y I:Int)(w:World):Prop:=∀X:BA->Nat->Int->Int->WP,(∀E g y I w,bl2 R Xa X E g y I w->X E g y I w)->X E g y I w
def k1 (R:EP)(Xa:BA->Nat->Int->WP)(y:BA)(E:Nat)(g:Int)(O:Bool)(w:World):Prop:=br O (0<=(i64.wrap (g+1))/\(i64.wrap (g+1))<(y.size:Int)/\callE P bT #[kT (kE E),.int .u8 (bt y (i64.wrap (g+1)))] (λe U=>∃(W:Value),e= hQ W/\Xa y E (i64.wrap ((i64.wrap (g+1))+1)) U) w) (0<=g/\g<(y.size:Int)/\br ((bt y g)==38) (l2 R Xa y E g (i64.wrap (g+1)) w) (0<=g/\g<(y.size:Int)/\callE P bT #[kT (kE E),.int .u8 (bt y g)] (λe I=>∃(V:Value),e= hQ V/\Xa y E (i64.wrap (g+1)) I) w))
def bl1 (R:EP)(Xa:BA->Nat->Int->WP)(y:BA)(E:Nat)(g:Int)(w:World):Prop:=br (decide (g<(y.size:Int))) (0<=g/\g<(y.size:Int)/\((((bt y g)==92) && (decide ((i64.wrap (g+1))<(y.size:Int))))=true->0<=(i64.wrap (g+1))/\(i64.wrap (g+1))<(y.size:Int))/\br (((bt y g)==92) && (decide ((i64.wrap (g+1))<(y.size:Int)))) (callE P mi #[.int .u8 (bt y (i64.wrap (g+1)))] (λe V=>∃I,e= hQ (hV I)/\k1 R Xa y E g I V) w) (k1 R Xa y E g false w)) (callE P du #[kT (kE E)] (λe U=>∃O,e= hQ (hX O)/\R (hQ (hX O)) U) w)
def l1 (R:EP)(E:BA)(g:Nat)(y:Int)(w:World):Prop:=∀X:BA->Nat->Int->WP,(∀E g y w,bl1 R X E g y w->X E g y w)->X E g y w
end bj
def bj (R:EP)(y:BA)(w:World):Prop:=box w #[] jX λb1 g=>box g #[kT none,hT none 0 0] cq λE I=>bj.l1 R y E 0 I
theorem bj.sound {R x1 w}(h:bj R x1 w):callE P gP #[.agg #[],hX x1] R w:=
 aG [(43,.lp [21,106,127] (bj.bl1 R) λXa=> [(49,.mk [21,106,127,400] (bj.k1 R Xa)),(2417,.lp [21,106,127,147] (bj.bl2 R Xa) λg=> []),(1905,.mk [21,106,127,147] (bj.k2 R Xa)),(3953,.mk [21,106,127] (bj.k3 R Xa))])] Tryz.func229 Tryz.call229 h
def nV (R:EP)(g:BA)(w:World):Prop:=callE P jn #[hX g,hX (hP #[92])] (λe I=>∃y,e= hQ (hV y)/\br (!y) (callE P jn #[hX g,hX (hP #[38])] (λe O=>∃E,e= hQ (hV E)/\br (!E) (R (hQ (hX g)) O) (False)) I) (False)) w
theorem nV.sound {R x0 w}(h:nV R x0 w):callE P nK #[hX x0] R w:=
 aG [(29,.no),(7,.no)] Tryz.func228 Tryz.call228 h
namespace d6
def k2 (R:EP)(E:BA)(y g:Int)(w:World):Prop:=0<=y/\y<=g/\g<=(E.size:Int)/\callE P nK #[hX (E.extract (Int.toNat y) (Int.toNat g))] (λe O=>∃I,e= hQ (hX I)/\R (hQ (.tuple #[hX I,hY g,hV true])) O) w
def bl2 (R:EP)(Xa:BA->Int->Int->Int->WP)(y:BA)(I E g:Int)(w:World):Prop:=br (decide (g<(y.size:Int))) (0<=g/\g<(y.size:Int)/\br ((bt y g)==40) (False) (br ((bt y g)==41) (br (E==0) (k2 R y I g w) (False)) (br ((bt y g)==92) (False) (br ((bt y g)==32) (False) (br ((bt y g)==9) (False) (br ((bt y g)==10) (False) (Xa y I E (i64.wrap (g+1)) w))))))) (False)
def l2 (R:EP)(I:BA)(E g y:Int)(w:World):Prop:=∀X:BA->Int->Int->Int->WP,(∀I E g y w,bl2 R X I E g y w->X I E g y w)->X I E g y w
end d6
def d6 (R:EP)(y:BA)(g:Int)(w:World):Prop:=br (decide (g >= (y.size:Int))) (False) (0<=g/\g<(y.size:Int)/\br ((bt y g)==60) (False) (d6.l2 R y g 0 g w))
theorem d6.sound {R x0 x1 w}(h:d6 R x0 x1 w):callE P kU #[hX x0,hY x1] R w:=
 aG [(41,.no),(85,.no),(637,.lp [1,27,167,187] (d6.bl2 R) λXa=> [(14,.no),(169,.no),(7401,.no),(3049,.no),(22505,.no),(96233,.no),(12265,.no)]),(509,.mk [1,27,187] (d6.k2 R))] Tryz.func172 Tryz.call172 h
namespace aZ
def k7 (R:EP)(a7:OA)(b4:BA)(b3:Int)(a6:OA)(O:Int)(U E:BA)(I:Int)(g y:Bool)(w:World):Prop:=br y (box w #[hT none 0 0,hX U,hX E,.int .u8 I,hV g] vp λW V=>R (hQ (.tuple #[kT (kE W),hY (i64.wrap (O+1)),hV true])) V) (False)
def k4 (R:EP)(W:OA)(y:BA)(a6:Int)(V:OA)(g:Int)(U I:BA)(O:Int)(E:Bool)(w:World):Prop:=((decide (g<(y.size:Int)))=true->0<=g/\g<(y.size:Int))/\k7 R W y a6 V g U I O E ((decide (g<(y.size:Int))) && ((bt y g)==41)) w
def k3 (R:EP)(W:OA)(a7:BA)(a6:Int)(V:OA)(O:Int)(U E:BA)(I:Int)(y g:Bool)(w:World):Prop:=br g (False) (k4 R W a7 a6 V O U E I y w)
def k1 (R:EP)(b6:OA)(y:BA)(b7:Int)(b3:OA)(a7:Int)(b8 W:BA)(a6:Int)(V U:Bool)(w:World):Prop:=br U (callE P kU #[hX y,hY a7] (λe b5=>∃O I E,e= hQ (.tuple #[hX O,hY I,hV E])/\br (!E) (False) (callE P kS #[hX y,hY I] (λe b4=>∃g,e= hQ (hY g)/\((decide (g<(y.size:Int)))=true->0<=g/\g<(y.size:Int))/\k3 R b6 y b7 b3 g O W a6 V ((decide (g<(y.size:Int))) && ((bt y g) !=41)) b4) b5)) w) (False)
end aZ
def aZ (R:EP)(U:OA)(g:BA)(E:Int)(O:OA)(w:World):Prop:=br (decide ((i64.wrap (E+1))<(g.size:Int))) (0<=(i64.wrap (E+1))/\(i64.wrap (E+1))<(g.size:Int)/\br ((bt g (i64.wrap (E+1)))==40) (callE P kS #[hX g,hY (i64.wrap (E+2))] (λe I=>∃y,e= hQ (hY y)/\((decide (y<(g.size:Int)))=true->0<=y/\y<(g.size:Int))/\aZ.k1 R U g E O y (hP #[]) (hP #[]) 0 false ((decide (y<(g.size:Int))) && ((bt g y) !=41)) I) w) (False)) (False)
theorem aZ.sound {R x0 x1 x2 x3 w}(h:aZ R x0 x1 x2 x3 w):callE P eQ #[kT x0,hX x1,hY x2,kT x3] R w:=
 aG [(28501,.mk [2,21,47,62,227,241,261,288,300,980] (aZ.k1 R)),(1421141,.no),(2076501,.mk [2,21,47,62,227,241,261,288,300,1420] (aZ.k3 R)),(3125077,.no),(61269,.no),(16213,.mk [2,21,47,62,227,241,261,288,300] (aZ.k4 R)),(32597,.mk [2,21,47,62,227,241,261,288,300,1920] (aZ.k7 R)),(65365,.no),(469,.no),(29,.no),(7,.no)] Tryz.func123 Tryz.call123 h

theorem rK {s:List UInt8}{i:Nat}(hi:i<s.length)(h:lS (s.getD i 0)=false):pt s i=i:=by
 unfold pt;rw[lG1 hi,lL2 (by rw[nS hi 0,h];decide)];simp;omega
theorem sr {s:List UInt8}(hs:s.length<4611686018427387904)(y:(92:UInt8) ∉ s)(E:(38:UInt8) ∉ s)(g:R (hQ (hX (bs s))) w):callE P nK #[hX (bs s)] R w:=by
 refine nV.sound ?_;refine km (sub:= [92]) hs (by decide) ⟨_,rfl,ag (by rw[lF y];rfl) ?_⟩;exact km (sub:= [38]) hs (by decide) ⟨_,rfl,ag (by rw[lF E];rfl) g⟩
def zJ (c:UInt8):Bool:=c !=40 && c !=41 && c !=92 && c !=32 && c !=9 && c !=10 && c !=38 && c !=60
theorem pu {s D:List UInt8}{i j:Nat}(hs:s.length<1000000)(W:i<j)(d2:j<s.length)(E:sub s i j=D)(O: ∀k,i<=k->k<j->zJ (s.getD k 0)=true)(a7:s.getD j 0=41)(b7:R (hQ (.tuple #[hX (bs D),hY j,hV true])) w):callE P kU #[hX (bs s),hY i] R w:=by
 have nb: ∀k,i<=k->k<j-> ∀d:UInt8,(d=40\/d=41\/d=92\/d=32\/d=9\/d=10\/d=60)->(bt (bs s) (k:Int)==(d.toNat:Int))=false:=by
  intro k b4 b6 d hd;rw[pI,nk];have:=O k b4 b6;simp only[zJ,lN1,bne_iff_ne,ne_eq] at this;obtain⟨⟨⟨⟨⟨⟨⟨c9,d1⟩,d3⟩,b9⟩,e1⟩,c6⟩,c7⟩,e0⟩:=this;rcases hd with rfl|rfl|rfl|rfl|rfl|rfl|rfl<;>simpa using ‹_›
 refine d6.sound ?_;refine af (by simp;omega) ⟨by omega,by simp;omega,af (nb i (lE1 _) W 60 (by decide)) ?_⟩;intro X V;have I: ∀c∈D,zJ c=true:=by
  intro c hc;rw[<-E] at hc;obtain⟨m,y,rfl⟩:=lB5.1 hc;have d0:=qN (s:=s) (i:=i) (j:=j) (by omega)
  rw[nS y 0];have e:(sub s i j).getD m 0=s.getD (i+m) 0:=by
   unfold sub;rw[DI,lS0,lS0,lO3 (by omega)]
  rw[e];exact O _ (by omega) (by omega)
 have b8:D.length<1000000:=by rw[<-E,qN (by omega)];omega
 have a6: ∀k m,m+k=j->i<=m->X (bs s) (i:Int) 0 (m:Int) w:=by
  intro k
  induction k with
  |zero=>
   intro m y U;obtain rfl:m=j:=y;have b3:bt (bs s) (m:Int)=41:=by rw[pI,a7];rfl
   refine V _ _ _ _ _ (ag (by simp;omega) ⟨by omega,by simp;omega,?_⟩);rw[b3];refine af rfl (ag rfl (ag rfl ⟨by omega,by omega,by simp;omega,?_⟩));rw[lC0,lC0,bV,show (s.take m).drop i=D from E];exact sr (by omega) (λh=>by have:=I _ h;revert this;decide) (λh=>by have:=I _ h;revert this;decide) ⟨_,rfl,b7⟩
  |succ k b5=>
   intro m y U;have g:=nb m U (by omega);refine V _ _ _ _ _ (ag (by simp;omega) ⟨by omega,by simp;omega,?_⟩);refine af (g 40 (by decide)) (af (g 41 (by decide)) (af (g 92 (by decide)) (af (g 32 (by decide)) (af (g 9 (by decide)) (af (g 10 (by decide)) ?_)))));rw[aL (by omega)];exact b5 (m+1) (by omega) (by omega)
 exact a6 (j - i) i (by omega) (lE1 _)
theorem zz {A B:List UInt8}{i:Nat}(h:A.length=i)(k:Nat):(A++B).getD (i+k) 0=B.getD k 0:=by
 subst h;rw[qm (by omega),lB6]
theorem zK {b:Nat}{p:PS}{A B D t:List UInt8}{k:Nat}(b3:(A++93::40::(D++41::B)).length<1000000)(W:D≠ [])(V: ∀c∈D,zJ c=true/\lS c=false):
 wC b p (A++93::40::(D++41::B)) A.length t k [] D [] 0 false (A.length+3+D.length):=by
 intro σ R L w ob e _ _ _ h a7;generalize hs:A++93::40::(D++41::B)=s at b3⊢;have b5:s.length=A.length+3+D.length+B.length:=by rw[<-hs];simp;omega
 have O:=lZ0.2 W;have b4:s.getD (A.length+1) 0=40:=by rw[<-hs,zz rfl];rfl
 have U: ∀m (I:m<D.length),s.getD (A.length+2+m) 0=D[m]:=by
  intro m I;rw[<-hs,show A.length+2+m=A.length+(m+2) by omega,zz rfl]
  show (D++41::B).getD m 0=_
  rw[nT I,<-nS I]
 have g:s.getD (A.length+2+D.length) 0=41:=by
  rw[<-hs,show A.length+2+D.length=A.length+(D.length+2) by omega,zz rfl];exact wa D B 41 0
 refine aZ.sound ?_;unfold aZ;rw[aL (by omega),show i64.wrap ((A.length:Int)+2)=((A.length+2:Nat):Int) by rw[show ((A.length:Int)+2)=((A.length+2:Nat):Int) by omega,i64_in _ (by omega)]];refine ag (by simp;omega) ⟨by omega,by simp;omega,?_⟩;rw[pI,b4];refine ag rfl ?_;have E:=U 0 O;rw[lL1] at E;have y:=V D[0] (lO1 O);refine sY (by omega) (by omega) ⟨_,rfl,?_⟩;rw[rK (by omega) (by rw[E];exact y.2)];refine⟨λ_=>⟨by omega,by simp;omega⟩,?_⟩;rw[pI,E];refine ag ?_ ?_
 ·have a6:D[0]≠41:=by intro h;rw[h] at y;exact absurd y.1 (by decide)
  rw[bne,u8b D[0] 41 41 rfl];simp[a6];omega
 refine pu (D:=D) (j:=A.length+2+D.length) (by omega) (by omega) (by omega) ?_ (λm b6 b7=>?_) g ⟨_,_,_,rfl,af rfl ?_⟩
 ·unfold sub;rw[<-hs,show A++93::40::(D++41::B)=(A++ [93,40])++(D++41::B) by simp,<-lD0,lF5 (by simp;omega),lE5 (by simp)]
 ·obtain⟨d,rfl⟩: ∃d,m=A.length+2+d:=⟨m - (A.length+2),by omega⟩
  rw[U d (by omega)];exact(V _ (lO1 _)).1
 refine sY (by omega) (by omega) ⟨_,rfl,?_⟩;rw[rK (by omega) (by rw[g];decide)];refine⟨λ_=>⟨by omega,by simp;omega⟩,?_⟩;rw[pI,g];refine af (by rw[show (((41:UInt8).toNat:Int) !=41)=false from rfl,Bool.and_false]) ⟨λ_=>⟨by omega,by simp;omega⟩,?_⟩;rw[pI,g];refine ag (by rw[show (((41:UInt8).toNat:Int)==41)=true from rfl,Bool.and_true];simp;omega) ?_;rw[aL (by omega),show A.length+2+D.length+1=A.length+3+D.length by omega];exact Sat.bx h λlb w h=>a7 w lb h

def tkS (tk:UInt8->List UInt8)(s:List UInt8):List UInt8:=s.flatMap tk
@[simp] theorem tkS_nil (tk:UInt8->List UInt8):tkS tk []= []:=rfl
@[simp] theorem tkS_cons (tk:UInt8->List UInt8) (c:UInt8) (s:List UInt8):tkS tk (c::s)=tk c++tkS tk s:=lL3 ..
@[simp] theorem Ho (tk:UInt8->List UInt8) (s t:List UInt8):tkS tk (s++t)=tkS tk s++tkS tk t:=lK5 ..

def BP (c:ai):Prop:= ∃cs e g,c=(1,.cells cs e g)/\ ∀i:Nat,i<12-> ∃a b:List UInt8,cs[2*i]? =some (hX (bs a))/\cs[2*i+1]? =some (hX (bs b))/\b.length<=10/\b≠ []
theorem uv {c:ai}{s:List UInt8}(W:BP c)(hc:c∈L)(h:Sat σ w L)(g: ∀(t:List UInt8) (k:Bool),t.length<=10->(k=true->t≠ [])->R (hQ (.tuple #[hX (bs t),hV k])) w):callE P nQ #[hX (bs s)] R w:=by
 obtain⟨cs,e,a7,rfl,I⟩:=W;have hb:=h.at_ _ hc;refine gZ.sound ?_;intro X y;have E: ∀k i:Nat,i+k=12->X (bs s) (i:Int) w:=by
  intro k
  induction k with
  |zero=>
   intro i hi;exact y _ _ _ (af (by simp;omega) (g [] false (by simp) (by simp)))
  |succ k a6=>
   intro i hi;obtain⟨a,b,h0,U,V,O⟩:=I i (by omega);refine y _ _ _ (ag (by simp;omega) ⟨by omega,by omega,by decide,by decide,bs a,?_,?_⟩)
   ·simp only[lL0,lC0,lO0];rw[n9 hb,<-h0];congr 1;simp;omega
   refine bh (λ_=>⟨by omega,by omega,by decide,by decide,bs b,?_,g b true V λ_=>O⟩) λ_=>?_
   ·simp only[lL0,lC0,lO0];rw[n9 hb,<-U];congr 1;simp;omega
   ·rw[aL (by omega)];exact a6 (i+1) (by omega)
 exact E 12 0 rfl
def UnE (s t:List UInt8):Prop:=t.length<=10*s.length/\((∀c∈s,c≠92/\c≠38)->t=s)
theorem za {s:List UInt8}{ec:ai}(e3:s.length<1000000)(d1:BP ec)(c3:ec∈L)(h:Sat σ w L)(d3: ∀w t,UnE s t->Sat σ w L->R (hQ (hX (bs t))) w):
 callE P gP #[.agg #[],hX (bs s)] R w:=by
 refine bj.sound ?_;refine Sat.bx h λb0 w h=>?_
 refine Sat.bx h λb w h=>?_
 intro X b8;have c8: ∀(n i:Nat) (E:List UInt8) (g:Bool) (M:List ai) w,i+n=s.length->E.length<=10*i->((∀c∈s,c≠92/\c≠38)->E=s.take i)->Bld b g E M->Sat σ w (M++((b0,cel [] jX)::L))->
  X (bs s) b (i:Int) w:=by
  intro n
  induction n using Nat.strongRecOn with
  |_ n b4=>
  intro i E g M w e2 e1 b6 a7 h
  by_cases d0:n=0
  ·subst d0;refine b8 _ _ _ _ (af (by simp;omega) ?_);refine ua a7 h (by omega) λw h=>⟨_,rfl,d3 w E ⟨by omega,λhc=>?_⟩ h.tail⟩
   rw[b6 hc,lB2 (by omega)]
  have I:i<s.length:=by omega
  have a6:i64.wrap ((i:Int)+1)=((i+1:Nat):Int):=aL (by omega)
  have b5: ∀w,Sat σ w (M++((b0,cel [] jX)::L))->callE P bT #[kT (kE b),.int .u8 (bt (bs s) (i:Int))] (λe c9=> ∃(c5:Value),e= hQ c5/\X (bs s) b (i64.wrap ((i:Int)+1)) c9) w:=by
   intro w h;rw[pH I];refine zO (k:=s[i]) a7 h (by omega) λw V O U=>⟨_,rfl,?_⟩
   rw[a6];refine b4 (n - 1) (by omega) (i+1) (E++ [s[i]]) _ V w (by omega) (by simp;omega) (λhc=>?_) O U;rw[b6 hc,lB1 I]
  have k3: ∀w,Sat σ w (M++((b0,cel [] jX)::L))->bj.k3 R X (bs s) b (i:Int) w:=λw h=>⟨by omega,by simp;omega,b5 w h⟩
  have b7:bj.k1 R X (bs s) b (i:Int) false w:=by
   refine af rfl ⟨by omega,by simp;omega,bh (λW=>?_) λ_=>⟨by omega,by simp;omega,b5 w h⟩⟩;have W:s[i]=38:=by rw[pH I,u8b _ 38 38 rfl] at W;simpa using W
   have b3: ¬ ∀c∈s,c≠92/\c≠38:=λhc=>(hc s[i] (lO1 I)).2 W
   rw[a6];intro Y b9;have go: ∀m j:Nat,i<j->j+m=s.length->Y (bs s) b (i:Int) (j:Int) w:=by
    intro m
    induction m with
    |zero=>
     intro j c4 d2;refine b9 _ _ _ _ _ ⟨λy=>by simp at y;omega,af (by simp;omega) ?_⟩;exact af (by simp;omega) (k3 w h)
    |succ m c2=>
     intro j c4 d2;refine b9 _ _ _ _ _ ⟨λy=>⟨by omega,by simp;omega⟩,bh (λ_=>?_) λ_=>?_⟩
     ·rw[aL (by omega)];exact c2 (j+1) (by omega) (by omega)
     ·refine ag (by simp;omega) ?_;rw[aL (by omega)];refine⟨by omega,by omega,by simp;omega,?_⟩;rw[lC0,lC0,bV];refine uv d1 (lB0 _ (.tail _ c3)) h λt k ht c1=>⟨_,_,rfl,bh (λe0=>?_) λ_=>k3 w h⟩
      refine ub (s:=t) a7 h (.inl (c1 e0)) (by omega) λw V O U=>⟨_,_,rfl,?_⟩
      exact b4 (n - (j+1 - i)) (by omega) (j+1) (E++t) _ V w (by omega) (by simp;omega) (λhc=>absurd hc b3) O U
   exact go (s.length - (i+1)) (i+1) (by omega) (by omega)
  refine b8 _ _ _ _ (ag (by simp;omega) ⟨by omega,by simp;omega,?_⟩);rw[a6];refine⟨λy=>?_,bh (λy=>?_) λ_=>b7⟩
  ·simp at y;exact⟨by omega,by simp;omega⟩
  have y:s[i]=92/\i+1<s.length:=by
   rw[pH I,u8b _ 92 92 rfl] at y;simp at y;exact⟨y.1,by omega⟩
  have b3: ¬ ∀c∈s,c≠92/\c≠38:=λhc=>(hc s[i] (lO1 I)).1 y.1
  rw[pH y.2];refine uU ⟨_,rfl,?_⟩;cases puB s[i+1] with
  |false=>exact b7
  |true=>
   refine ag rfl ?_;rw[a6];refine⟨by omega,by simp;omega,?_⟩;rw[pH y.2];refine zO (k:=s[i+1]) a7 h (by omega) λw V O U=>⟨_,rfl,?_⟩
   rw[aL (by omega)];exact b4 (n - 2) (by omega) (i+2) (E++ [s[i+1]]) _ V w (by omega) (by simp;omega) (λhc=>absurd hc b3) O U
 exact c8 s.length 0 [] false _ w (by omega) (by simp) (λ_=>rfl) (DZ b) h

theorem tQ {c:UInt8}{l:List UInt8}: ∀f i,lg [c] l f i=none->l.length<i+f-> ∀j,i<=j->l[j]? ≠some c
 |0,i,_,hl,j,hj=>by rw[lV1 (by omega)];simp
 |f+1,i,h,hl,j,hj=>by
  simp only[lg,lE0] at h;split at h
  ·rename_i hi;split at h
   ·cases h
   ·rename_i E;rcases lP4 i j with g|g
    ·exact tQ f (i+1) h (by omega) j g
    ·obtain rfl:j=i:=by omega
     intro hc;apply E;have y:j<l.length:=by omega
     rw[lH0 y,lI1] at hc;rw[lG1 y,hc];rfl
  ·rename_i hi;rw[lV1 (by omega)];simp
theorem G0 {c:UInt8}{l:List UInt8}(y:c∈l):(idx l [c]).isSome=true:=by
 cases h:idx l [c] with
 |some _=>rfl
 |none=>
  obtain⟨j,g,rfl⟩:=lB5.1 y;exact absurd (lH0 g) (tQ _ _ h (by omega) j (lD2 _))

def uG (c:UInt8)(s:List UInt8):Nat:=(s.takeWhile (· ==c)).length
theorem xd (c:UInt8)(s:List UInt8):s.take (uG c s)=hN (uG c s) c:=by
 induction s with
 |nil=>rfl
 |cons d s g=>
  by_cases h:d=c
  ·subst h;simp only[uG,lC3,beq_self_eq_true,if_true,lF0,lJ5,lA2];exact congrArg _ g
  ·simp[uG,lC3,h]
theorem EF {c:UInt8}{s:List UInt8}{k:Nat}(h:k<uG c s):s[k]? =some c:=by
 have g:=xd c s;have y:uG c s<=s.length:=(lG6 _).length_le;have:(s.take (uG c s))[k]? =some c:=by rw[g];simp[h]
 rwa [lO3 h] at this
theorem EG {c:UInt8}{s:List UInt8}:s[uG c s]? ≠some c:=by
 induction s with
 |nil=>simp[uG]
 |cons d s g=>
  by_cases h:d=c
  ·subst h;simp only[uG,lC3,beq_self_eq_true,if_true,lF0,lZ2];exact g
  ·simp[uG,lC3,h]
theorem GC (c:UInt8)(s:List UInt8):uG c s<=s.length:=(lG6 _).length_le
def Ln.adv (l:Ln)(k:Nat):Ln:= {l with i:=l.i+k}
def sf (l:Ln)(n:Nat)(c:UInt8)(t info:List UInt8):Prop:=
 (c=96\/c=126)/\3<=n/\(l.strip 3 0).2.peek=c/\n=uG c ((l.strip 3 0).2.text.drop (l.strip 3 0).2.i)/\UnE (gI cO ((l.strip 3 0).2.text.drop ((l.strip 3 0).2.i+n))) t/\info=gI cO t/\(c=96->96 ∉ t)
def yF (l:Ln):Prop:=
 ((l.strip 3 0).2.peek≠96/\(l.strip 3 0).2.peek≠126)\/(uG (l.strip 3 0).2.peek ((l.strip 3 0).2.text.drop (l.strip 3 0).2.i)<3)\/
 ((l.strip 3 0).2.peek=96/\ ∃t,UnE (gI cO ((l.strip 3 0).2.text.drop ((l.strip 3 0).2.i+uG 96 ((l.strip 3 0).2.text.drop (l.strip 3 0).2.i)))) t/\96∈t)
theorem Cf (p:UInt8->Bool)(s:List UInt8):(gI p s).length<=s.length:=by
 unfold gI wM;have g:=(lQ2 p (l:=(s.dropWhile p).reverse)).length_le;have y:=(lQ2 p (l:=s)).length_le;rw[List.length_reverse] at g⊢;omega
theorem pR {b nb g ib:Nat}{l:Ln}{v:Int}{b4 a6:List UInt8}{e O I:TypeId}{ec:ai}(h:Sat σ w (l.at b::(nb,cel [hY v] e)::(ib,cel [hX (bs a6)] I)::(g,cel [hX (bs b4)] O)::L))(d3:l.ok)(c4:l.text.length<100000)(d2:BP ec)(c9:ec∈L)(V:yF l-> ∀w v,Sat σ w (l.at b::(nb,cel [hY v] e)::(ib,cel [hX (bs a6)] I)::(g,cel [hX (bs b4)] O)::L)->R (hQ (hV false)) w)(b3: ∀n c t info,sf l n c t info-> ∀w,Sat σ w (Ln.zero.at b::(nb,cel [hY ((l.strip 3 0).1:Nat)] e)::(ib,cel [hX (bs info)] I)::(g,cel [hX (bs (hN n c))] O)::L)->R (hQ (hV true)) w):
 callE P gh #[kT (kE b),kT (kE g),kT (kE ib),kT (kE nb)] R w:=by
 refine bA.sound ?_
 repeat (first|refine aa ?_|refine h.tk λw h=>?_|refine⟨_,h.ldA,?_⟩|refine⟨_,_,_,h.ldA,?_⟩|refine h.stA 0 λw h=>?_|refine h.stA 1 λw h=>?_|refine h.stA 2 λw h=>?_|refine h.stA 3 λw h=>?_|refine h.stA 4 λw h=>?_|refine h.stA 5 λw h=>?_|refine h.stA 6 λw h=>?_|refine h.bx λb0 w h=>?_)
 let W:List ai:=(ib,cel [hX (bs a6)] I)::(g,cel [hX (bs b4)] O)::L
 have h:Sat σ _ (l.at b0::l.at b::(nb,cel [hY 0] e)::W):=h
 have fin: ∀(n:Nat) (t:Ln) w,t.ok->t.text.length<100000->(n,t)=l.strip 3 0->Sat σ w (t.at b0::l.at b::(nb,cel [hY n] e)::W)->bA.k2 R (kE b) (kE g) (kE ib) b0 w:=by
  intro n t w ht b5 d0 h;unfold yF at V;unfold sf at b3;rw[<-d0] at V b3;simp only at V b3;refine my h (by first|assumption|(repeat (first|exact .head _|apply List.Mem.tail))) ht λw h=>⟨_,rfl,?_⟩
  by_cases hc:t.peek=96\/t.peek=126
  ·have k3:bA.k3 R (kE b) (kE g) (kE ib) b0 (t.peek.toNat:Int) true w:=by
    refine ag rfl ?_;have d1:t.sp=0:=by
     unfold Ln.peek at hc;split at hc
     ·rcases hc with hc|hc<;>exact absurd hc (by decide)
     ·omega
    have c5:t.str=t.text.drop t.i:=by unfold Ln.str;rw[d1];rfl
    generalize e6:t.peek=c at hc V b3⊢;have e1:=ht.i;have hr:=GC c (t.text.drop t.i);simp only[lJ1] at hr;refine pS h (by first|assumption|(repeat (first|exact .head _|apply List.Mem.tail))) ht λw h=>⟨_,rfl,?_⟩
    rw[c5];intro X a7;have c2: ∀k,t.i+k<=t.text.length->(t.adv k).ok:=λk y=>⟨y,by show t.tab<=t.i+k;have:=ht.tab;omega,ht.len,ht.sp⟩
    have c3: ∀k:Nat,(t.adv k).text[(t.adv k).i]? =(t.text.drop t.i)[k]? :=by intro k;rw[lG3];rfl
    have b8: ∀m k w,k+m=uG c (t.text.drop t.i)->Sat σ w ((t.adv k).at b0::l.at b::(nb,cel [hY n] e)::W)->X (kE b) (kE g) (kE ib) b0 (c.toNat:Int) (bs (t.text.drop t.i)) (k:Int) (k:Int) w:=by
     intro m
     induction m with
     |succ m c1=>
      intro k w y h;refine a7 _ _ _ _ _ _ _ _ _ ?_;have b6:=c2 k (by omega);refine trimC_ok (c:=c) rfl h b6 ?_;have:(t.adv k).trimC c=some (t.adv (k+1)):=by
       unfold Ln.trimC;rw[if_neg (by show ¬ 0<t.sp;omega),if_pos (by rw[c3];exact EF (by omega))];rfl
      rw[this];intro w h;refine⟨_,rfl,af rfl ?_⟩;rw[aL (by omega)];exact c1 (k+1) w (by omega) h
     |zero=>
      intro k w y h;rw[lL1] at y;refine a7 _ _ _ _ _ _ _ _ _ ?_;have b6:=c2 k (by omega);refine trimC_ok (c:=c) rfl h b6 ?_;have:(t.adv k).trimC c=none:=by
       unfold Ln.trimC;rw[if_neg (by show ¬ 0<t.sp;omega),if_neg (by rw[c3,y];exact EG)]
      rw[this];intro w h;refine⟨_,rfl,ag rfl ?_⟩
      by_cases e2:k<3
      ·exact af (by simp;omega) (V (.inr (.inl (by rw[<-y];omega))) _ _ h.tail)
      refine ag (by simp;omega) ?_;refine vv h (by first|assumption|(repeat (first|exact .head _|apply List.Mem.tail))) b6 λw h=>⟨_,rfl,?_⟩
      have e3:=Cf cO ((t.adv k).text.drop (t.adv k).i);have e4:((t.adv k).text.drop (t.adv k).i).length<=t.text.length:=by rw[lJ1];exact Nat.sub_le _ _
      refine za (by omega) d2 (by simp[W,c9]) h λw u b9 h=>⟨_,rfl,?_⟩
      have e5:u.length<1000000:=by have:=b9.1;omega
      have k4: ∀w,(c=96->96 ∉ u)->Sat σ w ((t.adv k).at b0::l.at b::(nb,cel [hY n] e)::W)->bA.k4 R (kE b) (kE g) (kE ib) (bs (t.text.drop t.i)) (k:Int) (bs u) w:=by
       intro w c8 h;refine kH (by omega) ⟨_,rfl,aa ?_⟩;have h:Sat σ w ((t.adv k).at b0::l.at b::(nb,cel [hY n] e)::(ib,cel [hX (bs a6)] I)::(g,cel [hX (bs b4)] O)::L):=h
       have h:Sat σ w ((ib,cel [hX (bs a6)] I)::(g,cel [hX (bs b4)] O)::l.at b::(t.adv k).at b0::(nb,cel [hY n] e)::L):=h.re
       refine h.stA 0 λw h=>?_
       refine⟨by omega,by simp;omega,aa ?_⟩;rw[lC0,bV,lO2,y,xd,<-y];refine h.stA 1 λw h=>?_
       have h:Sat σ _ ((ib,cel [hX (bs (gI cO u))] I)::(g,cel [hX (bs (hN k c))] O)::l.at b::(t.adv k).at b0::(nb,cel [hY n] e)::L):=h
       have h:Sat σ _ (l.at b::(ib,cel [hX (bs (gI cO u))] I)::(g,cel [hX (bs (hN k c))] O)::(t.adv k).at b0::(nb,cel [hY n] e)::L):=h.re
       refine aa ?_;refine h.stA 0 λw h=>?_
       refine h.stA 0 λw h=>?_
       refine h.stA 0 λw h=>?_
       refine h.stA 0 λw h=>?_
       refine h.stA 0 λw h=>?_
       have h:Sat σ _ (Ln.zero.at b::(ib,cel [hX (bs (gI cO u))] I)::(g,cel [hX (bs (hN k c))] O)::(t.adv k).at b0::(nb,cel [hY n] e)::L):=h
       refine b3 k c u _ ⟨hc,by omega,rfl,y,b9,rfl,c8⟩ _ ?_;exact h.less [(t.adv k).at b0]
      by_cases U:c=96
      ·subst U;refine ag rfl ?_;refine km (sub:= [96]) (by omega) (by decide) ⟨_,rfl,?_⟩
       by_cases b7:96∈u
       ·refine ag ?_ (V (.inr (.inr ⟨rfl,u,by rw[<-y];exact b9,b7⟩)) _ _ h.tail);rw[G0 b7]
       ·exact af (by rw[lF b7];rfl) (k4 w (λ_=>b7) h)
      ·exact af (by rw[u8b _ 96 96 rfl];simpa using U) (k4 w (λe0=>absurd e0 U) h)
    have h:Sat σ w ((t.adv 0).at b0::l.at b::(nb,cel [hY n] e)::W):=h
    exact b8 _ 0 w (lO0 _) h
   by_cases U:t.peek=96
   ·exact ag (by rw[u8b _ 96 96 rfl];simpa using U) k3
   ·refine af (by rw[u8b _ 96 96 rfl];simpa using U) ?_;rw[u8b _ 126 126 rfl];rw[show (t.peek==126)=true by have:=hc.resolve_left U;simpa using this];exact k3
  ·have E:t.peek≠96/\t.peek≠126:=by simpa using hc
   rw[vf (d:=126) (n:=126) rfl E.2];exact af (vf (d:=96) rfl E.1) (af rfl (V (.inl E) _ _ h.tail))
 intro X a7;have b8: ∀k n (t:Ln) w,t.ok->t.text.length<100000->k+n=3->t.strip k n=l.strip 3 0->Sat σ w (t.at b0::l.at b::(nb,cel [hY n] e)::W)->
  X (kE b) (kE g) (kE ib) (kE nb) b0 w:=by
  intro k n t w ht b5 y E h
  induction k generalizing n t w with
  |zero=>
   refine a7 _ _ _ _ _ _ ?_
   repeat (first|refine aa ?_|refine h.tk λw h=>?_|refine⟨_,h.ldA,?_⟩|refine⟨_,_,_,h.ldA,?_⟩)
   exact af (by simp;omega) (fin n t w ht b5 E h)
  |succ k c1=>
   refine a7 _ _ _ _ _ _ ?_
   repeat (first|refine aa ?_|refine h.tk λw h=>?_|refine⟨_,h.ldA,?_⟩|refine⟨_,_,_,h.ldA,?_⟩)
   refine ag (by simp;omega) ?_;refine YtendaipfdnhnaaaGreatDoor.trimSp_ok (min:=1) (max:=1) h ht (by decide) (by decide) ?_;simp only[Ln.strip] at E;cases hs:t.trimSp 1 1 false with
   |none=>
    rw[hs] at E;exact λw h=>⟨_,rfl,af rfl (fin n t w ht b5 E h)⟩
   |some t'=>
    rw[hs] at E;intro w h;refine⟨_,rfl,ag rfl ?_⟩
    repeat (first|refine aa ?_|refine h.tk λw h=>?_|refine⟨_,h.ldA,?_⟩|refine⟨_,_,_,h.ldA,?_⟩|refine h.stA 0 λw h=>?_|refine h.stA 1 λw h=>?_|refine h.stA 2 λw h=>?_|refine h.stA 3 λw h=>?_|refine h.stA 4 λw h=>?_|refine h.stA 5 λw h=>?_|refine h.stA 6 λw h=>?_|refine h.bx λb0 w h=>?_)
    rw[aL (by omega)] at h;refine c1 (n+1) t' _ (Ln.trimSp_ok ht hs) ?_ (by omega) E h;rw[(Ln.tsGo_ok 1 0 ht hs).2.1];exact b5
 exact b8 3 0 l _ d3 c4 rfl rfl h

theorem Sat.allocO (h:Sat σ w L)(o:Obj):Sat σ (w.alloc o) ((w.heap.size,o)::L):=by
 refine⟨h.os,h.out,?_,λc hc=>?_⟩
 ·simp only[lP1,lX3];refine⟨λE=>?_,h.nodup⟩;obtain⟨c,hc,y⟩:=lU1.1 E;exact lQ6 _ (y▸h.lt hc)
 ·cases hc with
  |head=>exact(lJ4 ..).trans rfl
  |tail _ hc=>
   have g:=h.lt hc;have:=h.at_ _ hc
   show (w.heap.push o)[c.1]? =_
   rw[lR4 g,<-lS2 g];exact this
theorem Sat.setO (b:Nat)(o o':Obj)(h:Sat σ w ((b,o)::L)):Sat σ {w with heap:=w.heap.setIfInBounds b o'} ((b,o')::L):=by
 have y:=h.nodup;simp only[lP1,lX3] at y;have hb:b<w.heap.size:=h.lt (.head _);refine⟨h.os,h.out,by simp only[lP1,lX3];exact y,λc hc=>?_⟩;cases hc with
 |head=>simp[hb]
 |tail _ hc=>
  have E:c.1≠b:=λg=>y.1 (g▸lI5 hc)
  have:=h.at_ _ (.tail _ hc)
  show (w.heap.setIfInBounds b o')[c.1]? =_
  rw[lU4 (λg=>E g.symm)];exact this
theorem EL {s:ByteArray}(h:Sat σ w L){K:Value->World->Prop}(y: ∀w b,Sat σ w ((b,.stringIter s 0)::L)->K (kT (kE b)) w):
 ∃v g,(Instr.range aq (hX s)).run P w= .ok v g/\K v g:=
 ⟨_,_,run_range_string (P:=P) w aq s (by kernel_rfl),y _ _ (h.allocO _)⟩
theorem GN {b pos:Nat}{s:ByteArray}{ty:TypeId}(h:Sat σ w ((b,.stringIter s pos)::L))(g:pos<s.size)(O:(s[pos]'g).toNat<128){K:Int->Int->World->Prop}(I: ∀w,Sat σ w ((b,.stringIter s (pos+1))::L)->K pos (s[pos]'g).toNat w):
 ∃r0 E y,(Instr.next (kT (kE b)) true ty).run P w= .ok (.tuple #[hV true,hY r0,.int .i32 E]) y/\K r0 E y:=by
 have hb:=h.at_ _ (.head _);refine⟨_,_,_,?_,I _ (h.setO b _ (.stringIter s (pos+1)))⟩;have hd:=decode_ascii s pos g O;simp only[Instr.next,getObj,setObj,lX0,Sem.run,hb,Result.andThen,g,if_true,hd];simp[goInt,Sem.run,hb]
theorem EV {b pos:Nat}{s:ByteArray}{ty:TypeId}(h:Sat σ w ((b,.stringIter s pos)::L))(g: ¬ pos<s.size):(Instr.next (kT (kE b)) true ty).run P w= .ok (.tuple #[hV false]) w:=by
 have hb:=h.at_ _ (.head _);simp[Instr.next,getObj,Sem.run,hb,g]

def pN (g:Nat)(F info:List UInt8)(q:Option Addr)(n c:Nat):ai:=(g,cel [hX (bs F),hX (bs info),hY 0,hT q n c] nt)
def yG (y:Nat)(F info:List UInt8)(ls:List (List UInt8))(M:List ai):Prop:=
 ∃q c g,Sl 1 aq q ls.length c (sv ls) g/\M=pN y F info q ls.length c::g
theorem pd:nG P ia "pub-paratext/pub/rscmarkdown.extend" gQ=true:=by kernel_rfl
theorem vO:nG P ia "pub-paratext/pub/rscmarkdown.build" iD=true:=by kernel_rfl
theorem yS (l:Ln)(e:Bool):l.trimSp 0 0 e=some l:=rfl
def Ef (F:List UInt8)(l:Ln):Prop:= ¬ yF l/\ ∀n c t info,sf l n c t info->(hN n c).take F.length=F/\info= []
def wz (F:List UInt8)(l:Ln):Prop:= ∀n c t info,sf l n c t info->(hN n c).take F.length≠F
theorem rU {g b:Nat}{p:PS}{F info:List UInt8}{ls:List (List UInt8)}{c8:List ai}{l:Ln}{ec:ai}(h:Sat σ w (p.at b::(c8++L)))(e4:yG g F info ls c8)(c3:l.ok)(e9:ls.length<1048576)(e1:l.text.length<100000)(e3:BP ec)(d3:ec∈L)(e2:wz F l-> ∀w (p':PS) d1,p'= {p with corner:=p'.corner}->yG g F info (ls++ [l.str]) d1->Sat σ w (p'.at b::(d1++L))->R (hQ (.tuple #[Ln.zero.val,hV true])) w)(d2: ¬ wz F l-> ∀w,Sat σ w (p.at b::(c8++L))->R (hQ (.tuple #[Ln.zero.val,hV false])) w)(c2:wz F l\/Ef F l):callE P gQ #[kT (kE g),kT (kE b),l.val] R w:=by
 obtain⟨q,c,a7,e8,rfl⟩:=e4;refine bB.sound ?_;refine Sat.bx h λb1 w h=>?_
 refine Sat.bx h λy w h=>?_
 refine Sat.bx h λE w h=>?_
 refine Sat.bx h λO w h=>?_
 refine Sat.bx h λI w h=>?_
 repeat (first|refine aa ?_|refine h.tk λw h=>?_|refine⟨_,h.ldA,?_⟩|refine⟨_,_,_,h.ldA,?_⟩|refine h.stA 0 λw h=>?_|refine h.stA 1 λw h=>?_|refine h.stA 2 λw h=>?_|refine h.stA 3 λw h=>?_|refine h.stA 4 λw h=>?_|refine h.stA 5 λw h=>?_|refine h.stA 6 λw h=>?_|refine h.bx λb0 w h=>?_)
 have h:Sat σ _ (l.at b0::(I,cel [hY 0] ba)::(O,cel [hX (bs [])] aq)::(E,cel [hX (bs [])] aq)::(zLn y::l.at b1::(p.at b::(pN g F info q ls.length c::a7++L)))):=h
 have k1: ∀w (U:Ln) (v:Int) (i f:List UInt8),wz F l->Sat σ w (U.at b0::(I,cel [hY v] ba)::(O,cel [hX (bs i)] aq)::(E,cel [hX (bs f)] aq)::(zLn y::l.at b1::(p.at b::(pN g F info q ls.length c::a7++L))))->
  bB.k1 R (kE g) (kE b) b1 y w:=by
  intro w U v i f c5 h;have h:Sat σ w (l.at b1::pN g F info q ls.length c::zLn y::p.at b::(a7++(U.at b0::(I,cel [hY v] ba)::(O,cel [hX (bs i)] aq)::(E,cel [hX (bs f)] aq)::L))):=h.re
  refine h.tk λw h=>?_
  refine aa (aa ?_);refine⟨_,Sat.ld h (.tail _ (.head _)) (i:=2) rfl,_,Sat.ld h (.tail _ (.head _)) (i:=2) rfl,?_⟩;refine trimSp_ok (min:=0) (max:=0) h c3 (by decide) (by decide) ?_;rw[yS];intro w h;refine⟨_,rfl,af rfl ?_⟩;unfold bB.k2;refine h.tk λw h=>?_
  refine aa ?_;refine⟨_,_,_,Sat.ld h (.tail _ (.head _)) (i:=3) rfl,?_⟩;have h0:=h;refine pS h (.head _) c3 λw h=>⟨_,rfl,h0.same h (.tail _ (.head _)) (.tail _ (.head _)) 1,?_⟩
  have h:Sat σ w (a7++(l.at b1::pN g F info q ls.length c::zLn y::p.at b::(U.at b0::(I,cel [hY v] ba)::(O,cel [hX (bs i)] aq)::(E,cel [hX (bs f)] aq)::L))):=h.re
  have c1:pN g F info q ls.length c∈(a7++(l.at b1::pN g F info q ls.length c::zLn y::p.at b::(U.at b0::(I,cel [hY v] ba)::(O,cel [hX (bs i)] aq)::(E,cel [hX (bs f)] aq)::L))):=by simp
  have e6:=h;refine Sat.app1S rowStr e8 h (v:= hX (bs l.str)) rfl (by simp[Value.cells,Value.oneCell']) (E9 l.str) (by omega) (by omega) (by decide) (λf0 X e7=>e6.same e7 c1 (.tail _ c1) 1) λa6 W w V e0 h=>?_
  have h:Sat σ w (pN g F info q ls.length c::p.at b::zLn y::l.at b1::(V++(U.at b0::(I,cel [hY v] ba)::(O,cel [hX (bs i)] aq)::(E,cel [hX (bs f)] aq)::L))):=h.re
  refine aa ?_;refine h.stA 0 λw h=>?_
  have h:Sat σ w (p.at b::zLn y::l.at b1::pN g F info a6 (ls.length+1) W::(V++(U.at b0::(I,cel [hY v] ba)::(O,cel [hX (bs i)] aq)::(E,cel [hX (bs f)] aq)::L))):=by
   have h:Sat σ w (pN g F info a6 (ls.length+1) W::p.at b::zLn y::l.at b1::(V++(U.at b0::(I,cel [hY v] ba)::(O,cel [hX (bs i)] aq)::(E,cel [hX (bs f)] aq)::L))):=h
   exact h.re
  have c9: ∀(k:Bool) w,Sat σ w (({p with corner:=k}:PS).at b::zLn y::l.at b1::pN g F info a6 (ls.length+1) W::(V++(U.at b0::(I,cel [hY v] ba)::(O,cel [hX (bs i)] aq)::(E,cel [hX (bs f)] aq)::L)))->R (hQ (.tuple #[Ln.zero.val,hV true])) w:=by
   intro k w h;refine e2 c5 w {p with corner:=k} (pN g F info a6 (ls++ [l.str]).length W::V) rfl ⟨a6,W,V,?_,rfl⟩ ?_
   ·rw[lA0,lE0];have e:sv (ls++ [l.str])=sv ls++ [hX (bs l.str)]:=by simp[sv]
    rw[e];exact e0
   ·rw[lA0,lE0];exact h.less [zLn y,l.at b1,U.at b0,(I,cel [hY v] ba),(O,cel [hX (bs i)] aq),(E,cel [hX (bs f)] aq)]
  refine aa ?_;refine⟨_,Sat.ld h (.head _) (i:=6) rfl,bh (λ_=>?_) λ_=>?_⟩
  ·refine aa ?_;refine h.stA 0 λw h=>?_
   have h:Sat σ w (zLn y::({p with corner:=true}:PS).at b::l.at b1::pN g F info a6 (ls.length+1) W::(V++(U.at b0::(I,cel [hY v] ba)::(O,cel [hX (bs i)] aq)::(E,cel [hX (bs f)] aq)::L))):=by
    have h:Sat σ w (({p with corner:=true}:PS).at b::zLn y::l.at b1::pN g F info a6 (ls.length+1) W::(V++(U.at b0::(I,cel [hY v] ba)::(O,cel [hX (bs i)] aq)::(E,cel [hX (bs f)] aq)::L))):=h
    exact h.re
   repeat (first|refine aa ?_|refine h.tk λw h=>?_|refine⟨_,h.ldA,?_⟩|refine⟨_,_,_,h.ldA,?_⟩|refine h.stA 0 λw h=>?_|refine h.stA 1 λw h=>?_|refine h.stA 2 λw h=>?_|refine h.stA 3 λw h=>?_|refine h.stA 4 λw h=>?_|refine h.stA 5 λw h=>?_|refine h.stA 6 λw h=>?_|refine h.bx λb0 w h=>?_)
   refine c9 true _ ?_;have h:Sat σ _ (zLn y::({p with corner:=true}:PS).at b::l.at b1::pN g F info a6 (ls.length+1) W::(V++(U.at b0::(I,cel [hY v] ba)::(O,cel [hX (bs i)] aq)::(E,cel [hX (bs f)] aq)::L))):=h
   exact h.re
  ·refine⟨_,Sat.ld h (.tail _ (.tail _ (.head _))) (i:=4) rfl,aa ?_⟩;refine h.stA 0 λw h=>?_
   generalize ((l.nl.toNat:Int) !=10)=kk at h;have h:Sat σ w (zLn y::({p with corner:=kk}:PS).at b::l.at b1::pN g F info a6 (ls.length+1) W::(V++(U.at b0::(I,cel [hY v] ba)::(O,cel [hX (bs i)] aq)::(E,cel [hX (bs f)] aq)::L))):=by
    have h:Sat σ w (({p with corner:=kk}:PS).at b::zLn y::l.at b1::pN g F info a6 (ls.length+1) W::(V++(U.at b0::(I,cel [hY v] ba)::(O,cel [hX (bs i)] aq)::(E,cel [hX (bs f)] aq)::L))):=h
    exact h.re
   repeat (first|refine aa ?_|refine h.tk λw h=>?_|refine⟨_,h.ldA,?_⟩|refine⟨_,_,_,h.ldA,?_⟩|refine h.stA 0 λw h=>?_|refine h.stA 1 λw h=>?_|refine h.stA 2 λw h=>?_|refine h.stA 3 λw h=>?_|refine h.stA 4 λw h=>?_|refine h.stA 5 λw h=>?_|refine h.stA 6 λw h=>?_|refine h.bx λb0 w h=>?_)
   refine c9 kk _ ?_;have h:Sat σ _ (zLn y::({p with corner:=kk}:PS).at b::l.at b1::pN g F info a6 (ls.length+1) W::(V++(U.at b0::(I,cel [hY v] ba)::(O,cel [hX (bs i)] aq)::(E,cel [hX (bs f)] aq)::L))):=h
   exact h.re
 refine pR h c3 e1 e3 (by simp[d3]) ?_ ?_
 ·intro e5 w v h;refine⟨_,rfl,af rfl (k1 w _ _ _ _ ?_ h)⟩;exact c2.resolve_right λb6=>b6.1 e5
 ·intro n c0 t b4 c4 w h;refine⟨_,rfl,ag rfl (aa ?_)⟩;refine⟨_,Sat.ld h (.tail _ (.tail _ (.tail _ (.head _)))) (i:=0) rfl,?_⟩;have c1:pN g F info q ls.length c∈(Ln.zero.at b0::(I,cel [hY ((l.strip 3 0).1:Nat)] ba)::(O,cel [hX (bs b4)] aq)::(E,cel [hX (bs (hN n c0))] aq)::(zLn y::l.at b1::(p.at b::(pN g F info q ls.length c::a7++L)))):=by simp
  refine⟨_,Sat.ld h c1 (i:=0) rfl,?_⟩;refine xZ (s:=hN n c0) (t:=F) ⟨_,rfl,?_⟩
  by_cases b8:(hN n c0).take F.length=F
  ·have d0: ¬ wz F l:=λc5=>c5 n c0 t b4 c4 b8
   have b6:=c2.resolve_left d0;have hi:b4= []:=(b6.2 n c0 t b4 c4).2;refine ag (decide_eq_true b8) ?_;refine⟨_,Sat.ld h (.tail _ (.tail _ (.head _))) (i:=0) rfl,ag (by rw[hi,cn,gL];rfl) ?_⟩;have h:Sat σ w (zLn y::l.at b1::(I,cel [hY ((l.strip 3 0).1:Nat)] ba)::(O,cel [hX (bs b4)] aq)::(E,cel [hX (bs (hN n c0))] aq)::Ln.zero.at b0::(p.at b::(pN g F info q ls.length c::a7++L))):=h.re
   repeat (first|refine aa ?_|refine h.tk λw h=>?_|refine⟨_,h.ldA,?_⟩|refine⟨_,_,_,h.ldA,?_⟩|refine h.stA 0 λw h=>?_|refine h.stA 1 λw h=>?_|refine h.stA 2 λw h=>?_|refine h.stA 3 λw h=>?_|refine h.stA 4 λw h=>?_|refine h.stA 5 λw h=>?_|refine h.stA 6 λw h=>?_|refine h.bx λb0 w h=>?_)
   have h:Sat σ _ (zLn y::l.at b1::(I,cel [hY ((l.strip 3 0).1:Nat)] ba)::(O,cel [hX (bs b4)] aq)::(E,cel [hX (bs (hN n c0))] aq)::Ln.zero.at b0::(p.at b::(pN g F info q ls.length c::a7++L))):=h
   exact d2 d0 _ h.tail.tail.tail.tail.tail.tail
  ·refine af (decide_eq_false b8) (k1 w _ _ _ _ ?_ h);refine c2.resolve_right λb6=>b8 (b6.2 n c0 t b4 c4).1
def B2 (nb s e:Nat)(F info:List UInt8)(q:Option Addr)(n c:Nat):ai:=(nb,cel [hY s,hY e,hX (bs F),hX (bs info),hT q n c] nx)
theorem zE {b y:Nat}{p:PS}{ob:List OB}{o:OB}{F info:List UInt8}{ls:List (List UInt8)}{M I:List ai}(h:Sat σ w (p.at b::M++(I++L)))(hs:Stk p (ob++ [o]) M)(O:yG y F info ls I)(U: ∀w nb q c g,Sl 1 aq q ls.length c (sv ls) g->Sat σ w (p.at b::M++(B2 nb o.s o.e F info q ls.length c::(g++L)))->R (hQ (.iface cL (kT (kE nb)))) w):
 callE P iD #[kT (kE y),.iface ah (kT (kE b))] R w:=by
 obtain⟨q,c,g,V,rfl⟩:=O;refine iI.sound ?_;have h:Sat σ w (pN y F info q ls.length c::(p.at b::M++(g++L))):=h.re
 refine h.tk λw h=>?_
 refine aa (aa (aa ?_));refine⟨_,Sat.ld h (.head _) (i:=0) rfl,_,Sat.ld h (.head _) (i:=1) rfl,_,_,_,Sat.ld h (.head _) (i:=3) rfl,?_⟩;have h0:=h;have h:Sat σ w (p.at b::M++(pN y F info q ls.length c::(g++L))):=h.re
 refine bq oD ?_;have E:pN y F info q ls.length c∈p.at b::M++(pN y F info q ls.length c::(g++L)):=by simp
 refine uL h hs λw h=>⟨_,_,rfl,h0.same h (.head _) E 1,h0.same h (.head _) E 1,h0.same h (.head _) E 1,?_⟩
 refine Sat.bx h λnb w h=>?_
 refine U w nb q c g V ?_;have h:Sat σ w (B2 nb o.s o.e F info q ls.length c::(p.at b::M++(pN y F info q ls.length c::(g++L)))):=h
 exact h.less [pN y F info q ls.length c]

theorem xj:lB P df "Pos" cB=true:=by kernel_rfl
theorem CG:lB P d4 "Pos" cB=true:=by kernel_rfl
abbrev bkV (t:TypeId)(nb:Nat):Value:= .iface t (kT (kE nb))
theorem Bq {nb s e:Nat}{F info:List UInt8}{q:OA}{c:Nat}{ls:List (List UInt8)}{y:List ai}(W:Sl 1 aq q ls.length c (sv ls) y)(O:ls.length<1048576)(hb:(dK ls).length<1073741824)(I:ls.head? ≠some [])(U:F.length<1073741824)(hi:info.length<1073741824):
 ry bR (.mk {kind:=7,text:=dK ls,title:=info,mark:=F,s:=s,e:=e} []) (bkV cL nb) (B2 nb s e F info q ls.length c::y):=by
 intro σ R L w h V;refine ci.sound ?_;refine gc pX h (.head _) λb1 E w h=>?_
 refine⟨_,_,_,cl (by kernel_rfl) (by decide) w,af rfl ?_⟩;refine⟨_,_,_,cl (by kernel_rfl) (by decide) w,af rfl ?_⟩;refine⟨_,_,_,cl (by kernel_rfl) (by decide) w,af rfl ?_⟩;refine⟨_,_,_,cl (by kernel_rfl) (by decide) w,af rfl ?_⟩;refine⟨_,_,_,cl (by kernel_rfl) (by decide) w,af rfl ?_⟩;refine⟨_,_,_,cl (by kernel_rfl) (by decide) w,af rfl ?_⟩;refine⟨_,_,_,cl (by kernel_rfl) (by decide) w,af rfl ?_⟩;refine⟨_,_,_,iT (by kernel_rfl) w,ag rfl ?_⟩;refine h.tk λw h=>aa (aa (aa ⟨_,Sat.ld h (.tail _ (.tail _ (.head _))) (i:=3) rfl,_,Sat.ld h (.tail _ (.tail _ (.head _))) (i:=2) rfl,_,_,_,Sat.ld h (.tail _ (.tail _ (.head _))) (i:=4) rfl,?_⟩))
 have h0:=h;have g:B2 nb s e F info q ls.length c∈((E,cel (N16.C {a8:=s,a9:=e}).toList aj)::(b1,cel (N16.C {}).toList aj)::(B2 nb s e F info q ls.length c::y++L)):= .tail _ (.tail _ (.head _))
 have h:Sat σ w (y++((E,cel (N16.C {a8:=s,a9:=e}).toList aj)::(b1,cel (N16.C {}).toList aj)::B2 nb s e F info q ls.length c::L)):=h.re
 refine Di W h O hb I λw h=>⟨_,rfl,?_⟩
 have h:Sat σ w ((E,cel (N16.C {a8:=s,a9:=e}).toList aj)::(b1,cel (N16.C {}).toList aj)::(B2 nb s e F info q ls.length c::y++L)):=h.re
 refine⟨h0.same h g g 1,h0.same h g g 1,?_⟩;have h0:=h;refine Sat.st h (k:=0) rfl (by show 0<16;decide) trivial rfl λw h=>?_
 refine⟨h0.same h g (.tail _ (.tail _ (.head _))) 1,h0.same h g (.tail _ (.tail _ (.head _))) 1,?_⟩;have h0:=h;refine Sat.st h (k:=0) rfl (by show 2<16;decide) trivial rfl λw h=>?_
 refine⟨h0.same h (.tail _ (.tail _ (.head _))) (.tail _ (.tail _ (.head _))) 1,?_⟩;refine Sat.st h (k:=0) rfl (by show 10<16;decide) trivial rfl λw h=>?_
 refine Sat.st h (k:=0) rfl (by show 1<16;decide) trivial rfl λw h=>?_
 exact iL (v:=IH.nd {kind:=7,text:=dK ls,title:=info,mark:=F,s:=s,e:=e} none 0 0) (u:= {}) (NM:= []) (NodeAt.leaf ⟨hb,hi,bZ,U⟩) h V
theorem zx {nb s e:Nat}{q:OA}{n c:Nat}{vs:List Value}{IM KM:List ai}{xs:List IN}(b4:Sl 1 aO q n c vs IM)(a7:kl bR xs vs KM)(a6:n<1073741824):
 ry bR (.mk {kind:=2,s:=s,e:=e} xs) (bkV kB nb) (EN nb s e q n c::(IM++KM)):=by
 intro σ R L w h b3;refine ci.sound ?_;refine gc xi h (.head _) λb1 y w h=>?_
 refine⟨_,_,_,cl (by kernel_rfl) (by decide) w,af rfl ?_⟩;refine⟨_,_,_,iT (by kernel_rfl) w,ag rfl ?_⟩;refine aa ⟨_,_,_,Sat.ld h (.tail _ (.tail _ (.head _))) (i:=2) rfl,?_⟩;have h:Sat σ w (IM++(KM++((y,cel (N16.C {a8:=s,a9:=e}).toList aj)::(b1,cel (N16.C {}).toList aj)::EN nb s e q n c::L))):=h.re
 refine oC b4 a7 h a6 λw O I E us g NM V U W h=>⟨_,_,_,rfl,?_⟩
 have h:Sat σ w ((y,cel (N16.C {a8:=s,a9:=e}).toList aj)::(b1,cel (N16.C {}).toList aj)::((g++NM)++(EN nb s e q n c::(IM++KM)++L))):=h.re
 refine Sat.st h (k:=0) rfl (by show 0<16;decide) trivial rfl λw h=>?_
 refine Sat.st h (k:=0) rfl (by show 7<16;decide) trivial rfl λw h=>?_
 exact iL (v:=IH.nd {kind:=2,s:=s,e:=e} O I E) (u:= {}) (NM:=g++NM) ⟨_,xs,O,I,E,us,g,NM,rfl,rfl,rfl,⟨bZ,bZ,bZ,bZ⟩,V,U,W⟩ h b3
theorem Ds {db s e:Nat}{q:OA}{n c:Nat}{vs:List Value}{IM KM:List ai}{xs:List IN}(b6:Sl 1 aO q n c vs IM)(b3:kl bR xs vs KM)(a7:n<1073741824):
 ry bR (.mk {kind:=1,s:=s,e:=e} xs) (bkV df db) (B1 db s e q n c none::(IM++KM)):=by
 intro σ R L w h b4;refine ci.sound ?_;refine gc xj h (.head _) λb1 y w h=>?_
 refine⟨_,_,_,iT (by kernel_rfl) w,ag rfl ?_⟩;refine aa ⟨_,_,_,Sat.ld h (.tail _ (.tail _ (.head _))) (i:=2) rfl,?_⟩;have h:Sat σ w (IM++(KM++((y,cel (N16.C {a8:=s,a9:=e}).toList aj)::(b1,cel (N16.C {}).toList aj)::B1 db s e q n c none::L))):=h.re
 refine oC b6 b3 h a7 λw O I E us g NM W U a6 h=>⟨_,_,_,rfl,?_⟩
 have h:Sat σ w ((y,cel (N16.C {a8:=s,a9:=e}).toList aj)::(b1,cel (N16.C {}).toList aj)::((g++NM)++(B1 db s e q n c none::(IM++KM)++L))):=h.re
 refine Sat.st h (k:=0) rfl (by show 0<16;decide) trivial rfl λw h=>?_
 refine Sat.st h (k:=0) rfl (by show 7<16;decide) trivial rfl λw h=>?_
 have h:Sat σ w ((y,cel (IH.nd {kind:=1,s:=s,e:=e} O I E).C.toList aj)::(b1,cel (N16.C {}).toList aj)::((g++NM)++(B1 db s e q n c none::(IM++KM)++L))):=h
 have V:B1 db s e q n c none∈((y,cel (IH.nd {kind:=1,s:=s,e:=e} O I E).C.toList aj)::(b1,cel (N16.C {}).toList aj)::((g++NM)++(B1 db s e q n c none::(IM++KM)++L))):=by simp
 refine aa ⟨_,Sat.ld h V (i:=3) rfl,_,_,vG w,?_⟩;have h:=h.alo (.mapIter none 0 #[] 0);generalize b7:w.alloc (.mapIter none 0 #[] 0)=w at h⊢;intro X b5;refine b5 _ _ _ _ (.inl ⟨_,xa (h.at_ _ (.head _)),?_⟩);have h:=h.tail;refine⟨_,_,_,Sat.ld h (.head _) (i:=15) rfl,?_⟩;refine Ey ⟨rfl,?_⟩;exact iL (v:=IH.nd {kind:=1,s:=s,e:=e} O I E) (u:= {}) (NM:=g++NM) ⟨_,xs,O,I,E,us,g,NM,rfl,rfl,rfl,⟨bZ,bZ,bZ,bZ⟩,W,U,a6⟩ h b4
theorem Bp {nb s e wd:Nat}{q:OA}{n c:Nat}{vs:List Value}{IM KM:List ai}{xs:List IN}(b4:Sl 1 aO q n c vs IM)(a7:kl bR xs vs KM)(a6:n<1073741824):
 ry bR (.mk {kind:=4,width:=wd,s:=s,e:=e} xs) (bkV gf nb) ((nb,cel [hY s,hY e,hT q n c,hY wd] nw)::(IM++KM)):=by
 intro σ R L w h b3;refine ci.sound ?_;refine gc Ae h (.head _) λb1 y w h=>?_
 refine⟨_,_,_,cl (by kernel_rfl) (by decide) w,af rfl ?_⟩;refine⟨_,_,_,cl (by kernel_rfl) (by decide) w,af rfl ?_⟩;refine⟨_,_,_,cl (by kernel_rfl) (by decide) w,af rfl ?_⟩;refine⟨_,_,_,iT (by kernel_rfl) w,ag rfl ?_⟩;refine h.tk λw h=>aa ⟨_,_,_,Sat.ld h (.tail _ (.tail _ (.head _))) (i:=2) rfl,?_⟩
 refine tP.sound ?_;refine aa ⟨_,Sat.ld h (.tail _ (.tail _ (.head _))) (i:=3) rfl,_,rfl,λ_ _=>rfl,?_⟩;have h:Sat σ w (IM++(KM++((y,cel (N16.C {a8:=s,a9:=e}).toList aj)::(b1,cel (N16.C {}).toList aj)::(nb,cel [hY s,hY e,hT q n c,hY wd] nw)::L))):=h.re
 refine oC b4 a7 h a6 λw O I E us g NM V U W h=>⟨_,_,_,rfl,?_⟩
 have h:Sat σ w ((y,cel (N16.C {a8:=s,a9:=e}).toList aj)::(b1,cel (N16.C {}).toList aj)::((g++NM)++((nb,cel [hY s,hY e,hT q n c,hY wd] nw)::(IM++KM)++L))):=h.re
 refine Sat.st h (k:=0) rfl (by show 0<16;decide) trivial rfl λw h=>?_
 refine Sat.st h (k:=0) rfl (by show 11<16;decide) trivial rfl λw h=>?_
 refine Sat.st h (k:=0) rfl (by show 7<16;decide) trivial rfl λw h=>?_
 exact iL (v:=IH.nd {kind:=4,width:=wd,s:=s,e:=e} O I E) (u:= {}) (NM:=g++NM) ⟨_,xs,O,I,E,us,g,NM,rfl,rfl,rfl,⟨bZ,bZ,bZ,bZ⟩,V,U,W⟩ h b3
theorem Bo {nb s e:Nat}{bul:UInt8}{num:Int}{lo:Bool}{q:OA}{n c:Nat}{vs:List Value}{IM KM:List ai}{xs:List IN}(c1:Utf8.encode (bul.toNat:Int)=bs [bul])(c3:Sl 1 aO q n c vs IM)(c2:kl bR xs vs KM)(b9:n<1073741824):
 ry bR (.mk {kind:=3,num:=if bul=46\/bul=41 then num else -1,char:= [bul],loose:=lo,s:=s,e:=e} xs) (bkV dn nb) (uo nb s e (bul.toNat:Int) num lo q n c::(IM++KM)):=by
 intro σ R L w h a6;refine ci.sound ?_;refine gc Ad h (.head _) λb1 V w h=>?_
 refine⟨_,_,_,cl (by kernel_rfl) (by decide) w,af rfl ?_⟩;refine⟨_,_,_,cl (by kernel_rfl) (by decide) w,af rfl ?_⟩;refine⟨_,_,_,iT (by kernel_rfl) w,ag rfl ?_⟩;have g: ∀ {X:ai} {K:List ai},uo nb s e (bul.toNat:Int) num lo q n c∈X::(b1,cel (N16.C {}).toList aj)::(uo nb s e (bul.toNat:Int) num lo q n c::K):= .tail _ (.tail _ (.head _))
 refine h.tk λw h=>aa (aa (aa ⟨_,Sat.ld h g (i:=2) rfl,_,Sat.ld h g (i:=4) rfl,_,_,_,Sat.ld h g (i:=5) rfl,?_⟩))
 have h0:=h;have h:Sat σ w (IM++(KM++((V,cel (N16.C {a8:=s,a9:=e}).toList aj)::(b1,cel (N16.C {}).toList aj)::uo nb s e (bul.toNat:Int) num lo q n c::L))):=h.re
 refine oC c3 c2 h b9 λw U O I us E NM b4 b3 b5 h=>⟨_,_,_,rfl,?_⟩
 have h:Sat σ w ((V,cel (N16.C {a8:=s,a9:=e}).toList aj)::(b1,cel (N16.C {}).toList aj)::(uo nb s e (bul.toNat:Int) num lo q n c::(E++NM++(IM++KM++L)))):=h.re
 refine⟨h0.same h g g 1,h0.same h g g 1,?_⟩;have h0:=h;refine Sat.st h (k:=0) rfl (by show 0<16;decide) trivial rfl λw h=>?_
 refine⟨h0.same h g g 1,h0.same h g g 1,?_⟩;have h0:=h;refine Sat.st h (k:=0) rfl (by show 3<16;decide) trivial rfl λw h=>?_
 refine⟨h0.same h g g 1,h0.same h g g 1,?_⟩;have h0:=h;rw[c1];refine Sat.st h (k:=0) rfl (by show 4<16;decide) trivial rfl λw h=>?_
 refine⟨h0.same h g g 1,?_⟩;refine Sat.st h (k:=0) rfl (by show 5<16;decide) trivial rfl λw h=>?_
 refine Sat.st h (k:=0) rfl (by show 7<16;decide) trivial rfl λw h=>?_
 have h:Sat σ w ((V,cel (IH.nd {kind:=3,num:= -1,char:= [bul],loose:=lo,s:=s,e:=e} U O I).C.toList aj)::(b1,cel (N16.C {}).toList aj)::(uo nb s e (bul.toNat:Int) num lo q n c::(E++NM++(IM++KM++L)))):=h
 refine aa ⟨_,Sat.ld h g (i:=2) rfl,?_⟩;have fin: ∀(k:Bool) w,(k=true<->(bul=46\/bul=41))->Sat σ w ((V,cel (IH.nd {kind:=3,num:= -1,char:= [bul],loose:=lo,s:=s,e:=e} U O I).C.toList aj)::(b1,cel (N16.C {}).toList aj)::(uo nb s e (bul.toNat:Int) num lo q n c::(E++NM++(IM++KM++L))))->
  ci.k1 R b1 V (kE nb) k w:=by
  intro k w b6 h;cases k with
  |true=>
   have a7:=b6.1 rfl;rw[if_pos a7] at a6;refine ag rfl (aa ⟨_,Sat.ld h g (i:=3) rfl,?_⟩);refine Sat.st h (k:=0) rfl (by show 3<16;decide) trivial rfl λw h=>?_
   have h:Sat σ w ((V,cel (IH.nd {kind:=3,num:=num,char:= [bul],loose:=lo,s:=s,e:=e} U O I).C.toList aj)::(b1,cel (N16.C {}).toList aj)::(uo nb s e (bul.toNat:Int) num lo q n c::(E++NM++(IM++KM++L)))):=h
   exact iL (v:=IH.nd {kind:=3,num:=num,char:= [bul],loose:=lo,s:=s,e:=e} U O I) (u:= {}) (NM:=E++NM) (K:=uo nb s e (bul.toNat:Int) num lo q n c::(IM++KM)++L) ⟨_,xs,U,O,I,us,E,NM,rfl,rfl,rfl,⟨bZ,bZ,by show 1<_;decide,bZ⟩,b4,b3,b5⟩ h.re a6
  |false=>
   have a7: ¬ (bul=46\/bul=41):=λy=>absurd (b6.2 y) (by decide)
   rw[if_neg a7] at a6;refine af rfl ?_;exact iL (v:=IH.nd {kind:=3,num:= -1,char:= [bul],loose:=lo,s:=s,e:=e} U O I) (u:= {}) (NM:=E++NM) (K:=uo nb s e (bul.toNat:Int) num lo q n c::(IM++KM)++L) ⟨_,xs,U,O,I,us,E,NM,rfl,rfl,rfl,⟨bZ,bZ,by show 1<_;decide,bZ⟩,b4,b3,b5⟩ h.re a6
 have b7:(((bul.toNat:Nat):Int)==46)=(bul==46):=nk bul 46
 have b8:(((bul.toNat:Nat):Int)==41)=(bul==41):=nk bul 41
 rw[b7];refine bh (λW=>?_) λW=>?_
 ·have:=eq_of_beq W;exact fin true w ⟨λ_=> .inl this,λ_=>rfl⟩ h
 ·refine aa ⟨_,Sat.ld h g (i:=2) rfl,?_⟩;rw[b8];refine fin _ w ⟨λy=> .inr (eq_of_beq y),λy=>?_⟩ h;rcases y with y|y
  ·rw[y] at W;exact absurd W (by decide)
  ·rw[y];rfl
theorem Bn {nb t s e s' e':Nat}{raw:List UInt8}{q:OA}{n c:Nat}{vs:List Value}{RM KM:List ai}{xs:List IN}(b4:Sl 1 aD q n c vs RM)(a7:kl eG xs vs KM)(a6:n<1073741824):
 ry bR (.mk {kind:=6,s:=s,e:=e} xs) (bkV bE nb) (lQ nb s e t::fL t s' e' q n c raw::(RM++KM)):=by
 intro σ R L w h b3;refine ci.sound ?_;refine gc pW h (.head _) λb1 y w h=>?_
 refine⟨_,_,_,cl (by kernel_rfl) (by decide) w,af rfl ?_⟩;refine⟨_,_,_,cl (by kernel_rfl) (by decide) w,af rfl ?_⟩;refine⟨_,_,_,cl (by kernel_rfl) (by decide) w,af rfl ?_⟩;refine⟨_,_,_,cl (by kernel_rfl) (by decide) w,af rfl ?_⟩;refine⟨_,_,_,cl (by kernel_rfl) (by decide) w,af rfl ?_⟩;refine⟨_,_,_,iT (by kernel_rfl) w,ag rfl ?_⟩;refine aa ⟨_,Sat.ld h (.tail _ (.tail _ (.head _))) (i:=2) rfl,aa ⟨_,_,_,Sat.ld h (.tail _ (.tail _ (.tail _ (.head _)))) (i:=2) rfl,?_⟩⟩;have h:Sat σ w (RM++(KM++((y,cel (N16.C {a8:=s,a9:=e}).toList aj)::(b1,cel (N16.C {}).toList aj)::lQ nb s e t::fL t s' e' q n c raw::L))):=h.re
 refine jH b4 a7 h a6 λw O I E us g NM V U W h=>⟨_,_,_,rfl,?_⟩
 have h:Sat σ w ((y,cel (N16.C {a8:=s,a9:=e}).toList aj)::(b1,cel (N16.C {}).toList aj)::((g++NM)++(lQ nb s e t::fL t s' e' q n c raw::(RM++KM)++L))):=h.re
 refine Sat.st h (k:=0) rfl (by show 0<16;decide) trivial rfl λw h=>?_
 refine Sat.st h (k:=0) rfl (by show 7<16;decide) trivial rfl λw h=>?_
 exact iL (v:=IH.nd {kind:=6,s:=s,e:=e} O I E) (u:= {}) (NM:=g++NM) ⟨_,xs,O,I,E,us,g,NM,rfl,rfl,rfl,⟨bZ,bZ,bZ,bZ⟩,V,U,W⟩ h b3
theorem Bm {t s e:Nat}{raw:List UInt8}{q:OA}{n c:Nat}{vs:List Value}{RM KM:List ai}{xs:List IN}(b4:Sl 1 aD q n c vs RM)(a7:kl eG xs vs KM)(a6:n<1073741824):
 ry bR (.mk {kind:=6,tight:=true,s:=s,e:=e} xs) (bkV d4 t) (fL t s e q n c raw::(RM++KM)):=by
 intro σ R L w h b3;refine ci.sound ?_;refine gc CG h (.head _) λb1 y w h=>?_
 refine⟨_,_,_,cl (by kernel_rfl) (by decide) w,af rfl ?_⟩;refine⟨_,_,_,cl (by kernel_rfl) (by decide) w,af rfl ?_⟩;refine⟨_,_,_,cl (by kernel_rfl) (by decide) w,af rfl ?_⟩;refine⟨_,_,_,cl (by kernel_rfl) (by decide) w,af rfl ?_⟩;refine⟨_,_,_,cl (by kernel_rfl) (by decide) w,af rfl ?_⟩;refine⟨_,_,_,cl (by kernel_rfl) (by decide) w,af rfl ?_⟩;refine⟨_,_,_,iT (by kernel_rfl) w,ag rfl ?_⟩;refine aa ⟨_,_,_,Sat.ld h (.tail _ (.tail _ (.head _))) (i:=2) rfl,?_⟩;have h:Sat σ w (RM++(KM++((y,cel (N16.C {a8:=s,a9:=e}).toList aj)::(b1,cel (N16.C {}).toList aj)::fL t s e q n c raw::L))):=h.re
 refine jH b4 a7 h a6 λw O I E us g NM V U W h=>⟨_,_,_,rfl,?_⟩
 have h:Sat σ w ((y,cel (N16.C {a8:=s,a9:=e}).toList aj)::(b1,cel (N16.C {}).toList aj)::((g++NM)++(fL t s e q n c raw::(RM++KM)++L))):=h.re
 refine Sat.st h (k:=0) rfl (by show 0<16;decide) trivial rfl λw h=>?_
 refine Sat.st h (k:=0) rfl (by show 12<16;decide) trivial rfl λw h=>?_
 refine Sat.st h (k:=0) rfl (by show 7<16;decide) trivial rfl λw h=>?_
 exact iL (v:=IH.nd {kind:=6,tight:=true,s:=s,e:=e} O I E) (u:= {}) (NM:=g++NM) ⟨_,xs,O,I,E,us,g,NM,rfl,rfl,rfl,⟨bZ,bZ,bZ,bZ⟩,V,U,W⟩ h b3

structure TI2 where
 q:OA
 n:Nat
 c:Nat
 vs:List Value
 RM:List ai
 KM:List ai
 ts:List Inl
def TI2.ok (t:TI2):Prop:=Sl 1 aD t.q t.n t.c t.vs t.RM/\t.n<1073741824/\InlsAt t.ts t.vs t.KM
def yi (x:TX)(t:TI2):List ai:=fL x.t x.s x.e t.q t.n t.c x.raw::(t.RM++t.KM)
def gi:List TX->List TI2->List ai
 |x::xs,t::ts=>yi x t++gi xs ts
 |_,_=> []
inductive FilledI (G:List UInt8->List Inl):List TX->List TI2->Prop where
 |nil:FilledI G [] []
 |cons {x:TX} {t:TI2} {xs:List TX} {ts:List TI2}:t.ok->t.ts=G x.raw->FilledI G xs ts->FilledI G (x::xs) (t::ts)
theorem FilledI.split {G:List UInt8->List Inl}: ∀ {xs g:List TX} {ts:List TI2},FilledI G (xs++g) ts-> ∃ts1 ts2,ts=ts1++ts2/\FilledI G xs ts1/\FilledI G g ts2
 | [],g,ts,h=>⟨[],ts,rfl,.nil,h⟩
 |x::xs,g,ts,h=>by
  cases h with
  |cons E I U=>
   obtain⟨ts1,ts2,rfl,O,y⟩:=U.split;exact⟨_::ts1,ts2,rfl,.cons E I O,y⟩
theorem FilledI.append {G:List UInt8->List Inl}{xs g:List TX}{ts us:List TI2}(E:FilledI G xs ts)(y:FilledI G g us):FilledI G (xs++g) (ts++us):=by
 induction E with
 |nil=>exact y
 |cons a b _ I=>exact .cons a b I
theorem mQ {G:List UInt8->List Inl}: ∀ {xs g:List TX} {ts us:List TI2},FilledI G xs ts->gi (xs++g) (ts++us)=gi xs ts++gi g us
 |_,_,_,_,.nil=>rfl
 |_,_,_,_,.cons h1 h2 h3=>by simp only[lR0,gi,lD0];rw[mQ h3]
def jW (lk:Option Nat)(L0:List ai)(op:Opt)(s:List UInt8)(ts:List Inl):Prop:=
 ∀(σ:Out) (R:Ending->World->Prop) (b pb:Nat) (p:PS) (L:List ai) (w:World),(∀c∈L0,c∈L)->Sat σ w (p.at b::L)->p.pz=kE pb->op.at pb∈L->p.links=lk->
  (∀w (p':PS) q n c vs RM KM,p'.coreS=p.coreS->Sl 1 aD q n c vs RM->n<1073741824->InlsAt ts vs KM->Sat σ w (p'.at b::(RM++(KM++L)))->R (hQ (hT q n c)) w)->
  callE P fP #[kT (kE b),hX (bs s)] R w
theorem Cm {b pb:Nat}{op:Opt}{G:List UInt8->List Inl}{p:PS}{xs:List TX}{U L0:List ai}{lk:Option Nat}(h:Sat σ w (p.at b::(U++(xs.map TX.chunk++L))))(ht:Txts p (xs.map TX.t) U)(b9:p.pz=kE pb)(b4:op.at pb∈L)(c3:p.links=lk)(c2: ∀c∈L0,c∈L)(a6:p.Lq=none/\p.Ln=0/\p.Lc=0)(c8: ∀x∈xs,jW lk L0 op x.raw (G x.raw))(e4: ∀w (p':PS) ts,p'.coreS=p.coreS->FilledI G xs ts->Sat σ w (p'.at b::(U++(gi xs ts++L)))->bu.k4 R b w):
 bu.l2 R (kE pb) b p.tq p.tn p.tc (p.tn:Nat) 0 w:=by
 have e8:p.tn=xs.length:=by rw[ht.2.1,lQ0]
 have e9:xs.length<1048576:=by have:=ht.2.2;rwa [lQ0] at this
 intro Y b3;have b8:=h;clear h;have c1: ∀(E y:List TX) ts1 w (g:PS),y++E=xs->g.coreS=p.coreS->FilledI G y ts1->Sat σ w (g.at b::(U++(gi y ts1++(E.map TX.chunk++L))))->Y (kE pb) b p.tq p.tn p.tc (p.tn:Nat) (y.length:Nat) w:=by
  intro E
  induction E with
  |nil=>
   intro y ts1 w g O I W h;rw[lG0] at O;subst O;have c9:g.Lq=none:=by have:=congrArg PS.Lq I;rw[show g.Lq=p.Lq from this];exact a6.1
   have d3:g.Ln=0:=by have:=congrArg PS.Ln I;rw[show g.Ln=p.Ln from this];exact a6.2.1
   have d1:g.Lc=0:=by have:=congrArg PS.Lc I;rw[show g.Lc=p.Lc from this];exact a6.2.2
   have h:Sat σ w (g.at b::(U++(gi y ts1++L))):=h
   have e0:op.at pb∈g.at b::(U++(gi y ts1++L)):=by simp[b4]
   have fin:bu.k4 R b w:=e4 w g ts1 I W h;refine b3 _ _ _ _ _ _ _ _ (af (by simp;omega) (aa ?_));simp only[lL0,lO0];refine⟨op.task,Sat.ld h e0 rfl,bh (λ_=>?_) (λ_=>fin)⟩;refine⟨_,_,_,Sat.ld h (.head _) (i:=10) rfl,?_⟩;rw[c9,d3,d1];intro Z c5;exact c5 _ _ _ _ _ _ _ (af rfl fin)
  |cons x E d2=>
   intro y ts1 w g O I W h;have e7:y.length<xs.length:=by rw[<-O];simp
   obtain⟨V,sp,a7,rfl⟩:=ht.1.rowAt (by omega);refine b3 _ _ _ _ _ _ _ _ (ag (by simp;omega) ⟨by omega,by omega,?_⟩);rw[a7];refine aa ?_;simp only[lL0,lO0,lC0,lA1];have b5:((xs.map TX.t).map (λt=>kT (kE t))++sp)[y.length]? =some (kT (kE x.t)):=by
    rw[lM0 (by simp;omega),<-O];simp
   refine⟨_,Sat.ld h (.tail _ (.head _)) b5,aa ?_⟩;simp only[lL0,lO0];have h:Sat σ w (g.at b::(x.chunk::([(V,cel ((xs.map TX.t).map (λt=>kT (kE t))++sp) d4)]++(gi y ts1++(E.map TX.chunk++L))))):=by
    rw[lP1] at h;exact h.re
   refine⟨_,Sat.ld h (.tail _ (.head _)) (i:=3) rfl,?_⟩;have hc:g.pz=kE pb:=by have:=congrArg PS.pz I;rw[show g.pz=p.pz from this];exact b9
   have e5:g.links=lk:=by have:=congrArg PS.links I;rw[show g.links=p.links from this];exact c3
   refine c8 x (by rw[<-O];simp) σ _ b pb g _ w (λc hc=>by simp[c2 c hc]) h hc (by simp[b4]) e5 λw p2 q n c vs RM KM b6 e6 b7 d0 h=>⟨_,_,_,rfl,aa ?_⟩
   have h:Sat σ w (fL x.t x.s x.e none 0 0 x.raw::(p2.at b::(RM++(KM++([(V,cel ((xs.map TX.t).map (λt=>kT (kE t))++sp) d4)]++(gi y ts1++(E.map TX.chunk++L))))))):=by
    have h:Sat σ w (p2.at b::(RM++(KM++(fL x.t x.s x.e none 0 0 x.raw::([(V,cel ((xs.map TX.t).map (λt=>kT (kE t))++sp) d4)]++(gi y ts1++(E.map TX.chunk++L))))))):=h
    exact h.re
   refine h.stA 0 λw h=>?_
   have h:Sat σ w (fL x.t x.s x.e q n c x.raw::(p2.at b::(RM++(KM++([(V,cel ((xs.map TX.t).map (λt=>kT (kE t))++sp) d4)]++(gi y ts1++(E.map TX.chunk++L))))))):=h
   rw[aL (by omega)];have c4:FilledI G (y++ [x]) (ts1++ [⟨q,n,c,vs,RM,KM,G x.raw⟩]):=W.append (.cons ⟨e6,b7,d0⟩ rfl .nil);have:=d2 (y++ [x]) _ w p2 (by rw[<-O];simp) (b6.trans I) c4 ?_
   ·rw[lA0,lE0,a7] at this;exact this
   ·rw[mQ W]
    show Sat σ w (p2.at b::([(V,cel ((xs.map TX.t).map (λt=>kT (kE t))++sp) d4)]++((gi y ts1++((fL x.t x.s x.e q n c x.raw::(RM++KM))++ []))++(E.map TX.chunk++L))))
    exact h.re
 exact c1 xs [] [] w p rfl rfl .nil b8
def DB.tree (G:List UInt8->List Inl)(d:DB)(x:IN):Prop:= ∀ts,FilledI G d.txs ts-> ∃T,ry bR x d.v T/\ ∀a,cnt a (d.own++gi d.txs ts)=cnt a T
inductive pL (G:List UInt8->List Inl):List DB->List IN->Prop where
 |nil:pL G [] []
 |cons {d:DB} {x:IN} {D:List DB} {xs:List IN}:d.tree G x->pL G D xs->pL G (d::D) (x::xs)
theorem qq {G:List UInt8->List Inl}{D:List DB}{xs:List IN}(h:pL G D xs): ∀ts,FilledI G (cj D) ts-> ∃KM,kl bR xs (D.map DB.v) KM/\ ∀a,cnt a (cZ D++gi (cj D) ts)=cnt a KM:=by
 induction h with
 |nil=>intro ts ht;cases ht;exact⟨[],.nil,λa=>rfl⟩
 | @cons d x D xs h1 h2 ih=>
  intro ts ht;have e:cj (d::D)=d.txs++cj D:=by simp[cj]
  rw[e] at ht⊢;obtain⟨ts1,ts2,rfl,g,O⟩:=ht.split;obtain⟨KM,E,y⟩:=ih ts2 O;obtain⟨T,I,U⟩:=h1 ts1 g;refine⟨_,.cons I E,λa=>?_⟩;have:=y a;have:=U a;rw[mQ g,show cZ (d::D)=d.own++cZ D by simp[cZ]];simp only[dJ] at*
  omega
theorem CK {G:List UInt8->List Inl}{nb t s e:Nat}{raw:List UInt8}(y:mu (G raw)):(kM nb t s e raw).tree G (.mk {kind:=6,s:=s,e:=e} (eK (G raw))):=by
 intro ts ht;cases ht with
 |cons g E I=>
  cases I
  rw[<-E] at y⊢;exact⟨_,Bn (nb:=nb) (t:=t) (s:=s) (e:=e) (s':=s) (e':=e) (raw:=raw) g.1 (fa y g.2.2) g.2.1,λa=>by simp[kM,gi,yi]⟩
theorem Cn {G:List UInt8->List Inl}{nb t s e:Nat}{raw:List UInt8}(g:mu (G raw)):(dx (kM nb t s e raw)).tree G (.mk {kind:=6,tight:=true,s:=s,e:=e} (eK (G raw))):=by
 rw[lw];intro ts ht;cases ht with
 | @cons x t1 xs ts h1 h2 h3=>
  cases h3
  rw[<-h2] at g⊢;have y:=Bm (t:=t) (s:=s) (e:=e) (raw:=raw) h1.1 (fa g h1.2.2) h1.2.1
  refine⟨lQ nb s e t::(fL t s e t1.q t1.n t1.c raw::(t1.RM++t1.KM)),λσ R L w h I=>?_,λa=>by simp[gi,yi]⟩;have h:Sat σ w ((fL t s e t1.q t1.n t1.c raw::(t1.RM++t1.KM))++(lQ nb s e t::L)):=h.re
  exact y σ R _ w h λw u M E h=>I w u M E h.re
theorem A3 {G:List UInt8->List Inl}{nb s e:Nat}{q:OA}{n c:Nat}{IM:List ai}{D:List DB}{xs:List IN}(O:Sl 1 aO q n c (D.map DB.v) IM)(g:n<1073741824)(I:pL G D xs):(oT nb s e q n c IM D).tree G (.mk {kind:=2,s:=s,e:=e} xs):=by
 intro ts ht;obtain⟨KM,y,E⟩:=qq I ts ht;refine⟨_,zx (nb:=nb) (s:=s) (e:=e) O y g,λa=>?_⟩;have:=E a
 show cnt a (EN nb s e q n c::(IM++cZ D)++gi (cj D) ts)=_
 simp only[dJ,ff] at this⊢;omega
theorem xM {G:List UInt8->List Inl}{i:IT}{xs:List IN}(hi:i.ok)(y:pL G i.D xs):i.db.tree G (.mk {kind:=4,width:=i.wd,s:=i.s,e:=i.e} xs):=by
 intro ts ht;obtain⟨KM,g,E⟩:=qq y ts ht;refine⟨_,Bp (nb:=i.nb) (s:=i.s) (e:=i.e) (wd:=i.wd) hi.sl g (by have:=IT.n_eq hi;have:=hi.len;omega),λa=>?_⟩;have:=E a
 show cnt a (i.chunk::(i.IM++cZ i.D)++gi (cj i.D) ts)=_
 unfold IT.chunk;simp only[dJ,ff] at this⊢;omega
theorem C0 {G:List UInt8->List Inl}{nb s e:Nat}{bul:UInt8}{num:Int}{lo:Bool}{q:OA}{n c:Nat}{IM:List ai}{items:List IT}{xs:List IN}(E:Utf8.encode (bul.toNat:Int)=bs [bul])(V:Sl 1 aO q n c (items.map IT.v) IM)(I:n<1073741824)(U:pL G (items.map IT.db) xs):
 (qX nb s e (bul.toNat:Int) num lo q n c IM items).tree G (.mk {kind:=3,num:=if bul=46\/bul=41 then num else -1,char:= [bul],loose:=lo,s:=s,e:=e} xs):=by
 intro ts ht;obtain⟨KM,g,O⟩:=qq U ts ht;have y:(items.map IT.db).map DB.v=items.map IT.v:=by simp[Function.comp_def,IT.db]
 rw[y] at g;refine⟨_,Bo (nb:=nb) (s:=s) (e:=e) (num:=num) (lo:=lo) E V g I,λa=>?_⟩;have:=O a
 show cnt a (uo nb s e (bul.toNat:Int) num lo q n c::(IM++cZ (items.map IT.db))++gi (cj (items.map IT.db)) ts)=_
 simp only[dJ,ff] at this⊢;omega

def wx (L0:List ai)(op:Opt)(text:List UInt8)(y:List IN->Prop):Prop:=
 ∀(σ:Out) (R:Ending->World->Prop) (L:List ai) (w:World) (pb:Nat),(∀c∈L0,c∈L)->Sat σ w L->op.at pb∈L->
  (∀w db k s e xs g,ry bR (.mk {kind:=1,s:=s,e:=e} xs) (bkV df db) g->y xs->Sat σ w (g++L)->R (hQ (.tuple #[kT (kE db),hV k])) w)->
  callE P lV #[kT (kE pb),hX (bs text)] R w
theorem zg {L0:List ai}{op:Opt}{text:List UInt8}{ls:List (List UInt8 × UInt8)}{G:List UInt8->List Inl}{a6:List IN->Prop}(a7:LinesOf text ls)(h0:0 ∉ text)(b8:text.length<1000000)(O:List (List UInt8 × UInt8)->Nat->List Bk->Leaf->Prop)(e0: ∀root,root.isRoot->root.D= []->O ls 0 [root] .none)(step: ∀l nl rem n fs lf,O ((l,nl)::rem) n fs lf->qz L0 op (n+1) l nl fs lf (O rem (n+1)))(fin: ∀n fs lf,O [] n fs lf->qE op fs lf λD=> ∃xs,pL G D xs/\a6 xs/\ ∀x∈cj D,jW none [] op x.raw (G x.raw)):wx L0 op text a6:=by
 intro σ R L w pb e4 h W f1;refine bu.sound ?_;refine Sat.bx h λb w h=>?_
 refine h.stA 0 λw h=>?_
 have h:Sat σ w ((PS0 (kE pb)).at b::L):=h
 refine km (sub:= [0]) (by omega) (by decide) ⟨_,rfl,?_⟩;rw[lF h0];refine af rfl ?_;refine h.stA 0 λw h=>?_
 refine Sat.bx h λE w h=>?_
 let p0:PS:= {PS0 (kE pb) with depth:= -1}
 have h:Sat σ w (p0.at b:: []++((E,cel [] fh)::L)):=h.up1
 have b6:Stk p0 [] []:=⟨Sl.nil 4 az,rfl,by simp⟩;refine pK h b6 rfl (by decide) λw g M U e5 h=>⟨rfl,?_⟩
 intro X e6;have f3:=a7.len;have f0:g.base=p0.base:=by rw[U];rfl
 have b3:g.lineno=0:=by rw[U];rfl
 have d0:Txts g [] []:=by
  have:g.tq=none/\g.tn=0/\g.tc=0:=by rw[U];exact⟨rfl,rfl,rfl⟩
  obtain⟨a,b,c⟩:=this;unfold Txts;rw[a,b,c];exact⟨Sl.nil 1 d4,rfl,by simp⟩
 let root:Bk:=⟨⟨HN E,none,0,0,0,0⟩,[(E,cel [] fh)],[],[]⟩
 have hd:DocC σ b L [root] .none g w:=by
  refine⟨M,[],[],[],e5,d0,λf V=>?_,⟨rfl,rfl⟩,?_⟩
  ·obtain rfl:=lN0.1 V;exact⟨Sl.nil 1 aO,by simp[root],by show 0<1000000000;decide,by show 0<1000000000;decide⟩
  ·have em:aN [root]= [(E,cel [] fh)]:=by simp[root,dC,cZ,txc,cj]
   rw[em];exact h
 refine C2 (p0:=p0) (op:=op) step e4 e6 W rfl ?_ a7 w g [root] .none b8 (by rw[b3];omega) f0 (by rw[b3];exact e0 root ⟨E,rfl,rfl⟩ rfl) hd;intro w p fs lf hb e9 d2;have b5:p.pz=kE pb:=by have:=congrArg PS.pz hb;exact this
 refine af (by rw[cn,gL];rfl) ?_;refine Br (fin _ fs lf e9) d2 b5 W λw p' f5 db IM e7 q n c s e c4 c8 ht c3 f4 h=>⟨rfl,?_⟩
 obtain⟨xs,f2,b4,e3⟩:=c8;have y:p'.base= {p0.base with root:=kE db}:=by rw[c4,hb]
 have d1:p'.pz=kE pb:=by have:=congrArg PS.pz y;exact this
 have d3:p'.links=none:=by have:=congrArg PS.links y;exact this
 have c1:p.links=none:=by have:=congrArg PS.links hb;exact this
 have c9:p'.root=kE db:=by have:=congrArg PS.root y;exact this
 have c5:p'.Lq=none/\p'.Ln=0/\p'.Lc=0:=⟨by have:=congrArg PS.Lq y;exact this,by have:=congrArg PS.Ln y;exact this,by have:=congrArg PS.Lc y;exact this⟩
 refine⟨_,_,_,Sat.ld h (.head _) (i:=11) rfl,?_⟩;refine Cm (op:=op) (G:=G) (L0:= []) h ht d1 (by simp[W]) d3 (by simp) c5 e3 λw p2 ts c2 V h=>?_
 have b9:p2.root=kE db:=by have:=congrArg PS.root c2;rw[show p2.root=p'.root from this];exact c9
 unfold bu.k4;refine h.tk λw h=>?_
 refine⟨_,Sat.ld h (.head _) (i:=1) rfl,_,Sat.ld h (.head _) (i:=6) rfl,?_⟩;rw[b9];obtain⟨KM,e8,b7⟩:=qq f2 ts V;rw[c1] at h;refine f1 w db p2.corner s e xs (B1 db s e q n c none::(IM++KM)) (Ds c3 e8 (by omega)) b4 ?_;refine Sat.less (p2.at b::e7) h λa=>?_
 have:=b7 a;simp only[lP3,dJ,ff,mS] at this⊢;omega
namespace cE
def bl1 (R:EP)(Xa:Nat->Nat->OA->Nat->Nat->Int->Int->WP)(I y:Nat)(W:OA)(U b9:Nat)(a6 g:Int)(w:World):Prop:=br (decide (g<a6)) (0<=g/\g<(U:Int)/\aA W λd2=>ldA16 w (d2.add (Int.toNat g*16)) λe0=>box w (N16.C {}) aj λa7 d3=>st16 d3 a7 e0 λO=>∃c3,O.cell? (hZ a7 0)=some (hY c3)/\br (c3 !=13) (tk O λE=>∃b7 b8 b5,E.cell? (hZ y 7)=some (hT b7 b8 b5)/\ldB16 E a7 λc5=>callE P mJ #[c5.V] (λe c1=>HM e λc9=>SameC E c1 (hZ y 7) 1/\callE P eO #[hT b7 b8 b5,c9.V] (λe c4=>∃b4 b3 b6,e= hQ (hT b4 b3 b6)/\stV c4 (hZ y 7) (hT b4 b3 b6) λd0=>Xa I y W U b9 a6 (i64.wrap (g+1)) d0) c1) E) (Xa I y W U b9 a6 (i64.wrap (g+1)) O)) (ldB10 w y λc8=>st10 w I c8 λc2=>ldB10 c2 I λd1=>R (hQ (d1.V)) c2)
def l1 (R:EP)(V U:Nat)(E:OA)(g y:Nat)(O I:Int)(w:World):Prop:=∀X:Nat->Nat->OA->Nat->Nat->Int->Int->WP,(∀V U E g y O I w,bl1 R X V U E g y O I w->X V U E g y O I w)->X V U E g y O I w
def k4 (R:EP)(U O I:Nat)(w:World):Prop:=∃E g y,w.cell? (hZ U 7)=some (hT E g y)/\l1 R O I E g y (g:Int) 0 w
def k3 (R:EP)(I E y:Nat)(g:Bool)(w:World):Prop:=br g (False) (k4 R I E y w)
def k2 (R:EP)(g O I:Nat)(w:World):Prop:=∃y,w.cell? (hZ g 0)=some (hY y)/\br (y==7) (∃E,w.cell? (hZ g 10)=some (hX E)/\k3 R g O I (E.toList==(hP #[]).toList) w) (k3 R g O I false w)
def k1 (R:EP)(y E g:Nat)(w:World):Prop:=∃U,w.cell? (hZ y 0)=some (hY U)/\br (U==6) (stV w (hZ g 1) (hX (hP #[])) λV=>k2 R y E g V) (∃I,w.cell? (hZ y 0)=some (hY I)/\br (I==5) (stV w (hZ g 1) (hX (hP #[])) λW=>k2 R y E g W) (∃O,w.cell? (hZ y 0)=some (hY O)/\br (O==12) (stV w (hZ g 1) (hX (hP #[])) λa6=>k2 R y E g a6) (k2 R y E g w)))
end cE
def cE (R:EP)(h1:Int)(h4 g6:BA)(h3:Int)(h2:BA)(h5:Bool)(g2:OA)(f4 f5:Nat)(f7:OA)(f6 g5:Nat)(g7 h6:Int)(f3:BA)(g1:Int)(g0 g3 g4:Bool)(f0:OA)(f2 f1:Nat)(w:World):Prop:=box w (N16.C {a0:=h1,a1:=h4,a2:=g6,a3:=h3,a4:=h2,a5:=h5,q6:=g2,n6:=f4,c6:=f5,q7:=f7,n7:=f6,c7:=g5,a8:=g7,a9:=h6,a10:=f3,a11:=g1,a12:=g0,a13:=g3,a14:=g4,q15:=f0,n15:=f2,c15:=f1}) aj λb1 i1=>box i1 (N10.C {}) ae λc8 i0=>tk i0 λy=>∃c2,y.cell? (hZ b1 0)=some (hY c2)/\∃b8,y.cell? (hZ b1 1)=some (hX b8)/\∃b9,y.cell? (hZ b1 2)=some (hX b9)/\∃c1,y.cell? (hZ b1 3)=some (hY c1)/\∃b7,y.cell? (hZ b1 4)=some (hX b7)/\∃b6,y.cell? (hZ b1 5)=some (hV b6)/\∃b4 b5 a7,y.cell? (hZ b1 6)=some (hT b4 b5 a7)/\(∃c5 c4,∃c3 g,(Instr.buildSlice cA 0 #[]).run P y= .ok (hT c5 c4 c3) g/\SameC y g (hZ b1 6) 1/\SameC y g (hZ b1 5) 1/\SameC y g (hZ b1 4) 1/\SameC y g (hZ b1 3) 1/\SameC y g (hZ b1 2) 1/\SameC y g (hZ b1 1) 1/\SameC y g (hZ b1 0) 1/\(∃d3 e0,∃d1 I,(Builtin.append_ #[cA,cA] cA #[hT c5 c4 c3,hT b4 b5 a7]).run P g= .ok (hT d3 e0 d1) I/\SameC g I (hZ b1 5) 1/\SameC g I (hZ b1 4) 1/\SameC g I (hZ b1 3) 1/\SameC g I (hZ b1 2) 1/\SameC g I (hZ b1 1) 1/\SameC g I (hZ b1 0) 1/\box I (N10.C {}) ae λe8 a6=>SameC I a6 (hZ b1 6) 1/\SameC I a6 (hZ b1 5) 1/\SameC I a6 (hZ b1 4) 1/\SameC I a6 (hZ b1 3) 1/\SameC I a6 (hZ b1 2) 1/\SameC I a6 (hZ b1 1) 1/\SameC I a6 (hZ b1 0) 1/\st10 a6 e8 {a0:=c2,a1:=b8,a2:=b9,a3:=c1,a4:=b7,a5:=b6,q6:=d3,n6:=e0,c6:=d1} λh8=>cE.k1 R b1 c8 e8 h8)/\(box g (N10.C {}) ae λe7 U=>SameC g U (hZ b1 6) 1/\SameC g U (hZ b1 5) 1/\SameC g U (hZ b1 4) 1/\SameC g U (hZ b1 3) 1/\SameC g U (hZ b1 2) 1/\SameC g U (hZ b1 1) 1/\SameC g U (hZ b1 0) 1/\∃e4 e6,∃e2 W,(Builtin.append_ #[cA,cA] cA #[hT c5 c4 c3,hT b4 b5 a7]).run P U= .ok (hT e4 e6 e2) W/\SameC U W (hZ b1 5) 1/\SameC U W (hZ b1 4) 1/\SameC U W (hZ b1 3) 1/\SameC U W (hZ b1 2) 1/\SameC U W (hZ b1 1) 1/\SameC U W (hZ b1 0) 1/\st10 W e7 {a0:=c2,a1:=b8,a2:=b9,a3:=c1,a4:=b7,a5:=b6,q6:=e4,n6:=e6,c6:=e2} λh9=>cE.k1 R b1 c8 e7 h9))/\(box y (N10.C {}) ae λe9 O=>SameC y O (hZ b1 6) 1/\SameC y O (hZ b1 5) 1/\SameC y O (hZ b1 4) 1/\SameC y O (hZ b1 3) 1/\SameC y O (hZ b1 2) 1/\SameC y O (hZ b1 1) 1/\SameC y O (hZ b1 0) 1/\∃d0 e5,∃c9 E,(Instr.buildSlice cA 0 #[]).run P O= .ok (hT d0 e5 c9) E/\SameC O E (hZ b1 6) 1/\SameC O E (hZ b1 5) 1/\SameC O E (hZ b1 4) 1/\SameC O E (hZ b1 3) 1/\SameC O E (hZ b1 2) 1/\SameC O E (hZ b1 1) 1/\SameC O E (hZ b1 0) 1/\∃e1 e3,∃d2 V,(Builtin.append_ #[cA,cA] cA #[hT d0 e5 c9,hT b4 b5 a7]).run P E= .ok (hT e1 e3 d2) V/\SameC E V (hZ b1 5) 1/\SameC E V (hZ b1 4) 1/\SameC E V (hZ b1 3) 1/\SameC E V (hZ b1 2) 1/\SameC E V (hZ b1 1) 1/\SameC E V (hZ b1 0) 1/\st10 V e9 {a0:=c2,a1:=b8,a2:=b9,a3:=c1,a4:=b7,a5:=b6,q6:=e1,n6:=e3,c6:=d2} λh7=>cE.k1 R b1 c8 e9 h7)
theorem cE.sound {R x0_0 x0_1 x0_2 x0_3 x0_4 x0_5 x0_6q x0_6n x0_6c x0_7q x0_7n x0_7c x0_8 x0_9 x0_10 x0_11 x0_12 x0_13 x0_14 x0_15q x0_15n x0_15c w}(h:cE R x0_0 x0_1 x0_2 x0_3 x0_4 x0_5 x0_6q x0_6n x0_6c x0_7q x0_7n x0_7c x0_8 x0_9 x0_10 x0_11 x0_12 x0_13 x0_14 x0_15q x0_15n x0_15c w):callE P mJ #[(N16.V {a0:=x0_0,a1:=x0_1,a2:=x0_2,a3:=x0_3,a4:=x0_4,a5:=x0_5,q6:=x0_6q,n6:=x0_6n,c6:=x0_6c,q7:=x0_7q,n7:=x0_7n,c7:=x0_7c,a8:=x0_8,a9:=x0_9,a10:=x0_10,a11:=x0_11,a12:=x0_12,a13:=x0_13,a14:=x0_14,q15:=x0_15q,n15:=x0_15n,c15:=x0_15c})] R w:=
 aG [(5,.dr (.pure 0 (.pure 2 (.pure 4 (.pure 6 (.pure 8 (.pure 10 (.pure 13 (.load 1 (.load 3 (.load 5 (.load 7 (.load 9 (.load 11 (.load 14 (.two 12 (.two 15 (.pure 16 (.one 17 (.one 18 .done))) 17 (.one 15 (.pure 16 (.one 18 .done)))) 17 (.one 12 (.one 15 (.pure 16 (.one 18 .done)))))))))))))))))))),(7,.mk [26,46,66] (cE.k1 R)),(15,.mk [26,46,66] (cE.k2 R)),(55,.mk [26,46,66,880] (cE.k3 R)),(87,.no),(31,.mk [26,46,66] (cE.k4 R)),(175,.lp [46,66,1003,1027,1047] (cE.bl1 R) λXa=> [(179,.dr (rpN [0,4,7,11,14,15,20]))])] Tryz.func13 Tryz.call13 h
namespace gp
def k1 (R:EP)(y:OA)(E b7 c1:Nat)(g:Int)(c3:Bool)(w:World):Prop:=br c3 (tk w λI=>0<=g/\g<(E:Int)/\aA y λc5=>∃O,I.cell? ((c5.add (Int.toNat g*10)).add 1)=some (hX O)/\∃U,I.cell? (hZ c1 1)=some (hX U)/\((O.size+U.size:Nat):Int)<=i64.max/\0<=g/\g<(E:Int)/\aA y λa10=>stV I (((a10.add (Int.toNat g*10)).add 1).add 0) (hX (O++U)) λc2=>R (hQ (hT y E b7)) c2) (ldB10 w c1 λc4=>∃a6 b4,∃b5 b9,(Instr.buildSlice au 1 #[(0,c4.V)]).run P w= .ok (hT a6 b4 b5) b9/\∃b3 b6,∃W b8,(Builtin.append_ #[au,au] au #[hT y E b7,hT a6 b4 b5]).run P b9= .ok (hT b3 b6 W) b8/\R (hQ (hT b3 b6 W)) b8)
end gp
def gp (R:EP)(E:OA)(g I:Nat)(b5:Int)(c3 c1:BA)(c2:Int)(b8:BA)(b7:Bool)(b3:OA)(W V:Nat)(a6:OA)(a7 b4:Nat)(b9 b6:Int)(w:World):Prop:=box w (N10.C {a0:=b5,a1:=c3,a2:=c1,a3:=c2,a4:=b8,a5:=b7,q6:=b3,n6:=W,c6:=V,q7:=a6,n7:=a7,c7:=b4,a8:=b9,a9:=b6}) ae λb1 y=>br (decide ((i64.wrap ((g:Int) - 1)) >= 0)) (∃U,y.cell? (hZ b1 0)=some (hY U)/\br (U==20) (0<=(i64.wrap ((g:Int) - 1))/\(i64.wrap ((g:Int) - 1))<(g:Int)/\aA E λa4=>∃O,y.cell? (a4.add (Int.toNat (i64.wrap ((g:Int) - 1))*10))=some (hY O)/\gp.k1 R E g I b1 (i64.wrap ((g:Int) - 1)) (O==20) y) (gp.k1 R E g I b1 (i64.wrap ((g:Int) - 1)) false y)) (gp.k1 R E g I b1 (i64.wrap ((g:Int) - 1)) false y)
theorem gp.sound {R x0q x0n x0c x1_0 x1_1 x1_2 x1_3 x1_4 x1_5 x1_6q x1_6n x1_6c x1_7q x1_7n x1_7c x1_8 x1_9 w}(h:gp R x0q x0n x0c x1_0 x1_1 x1_2 x1_3 x1_4 x1_5 x1_6q x1_6n x1_6c x1_7q x1_7n x1_7c x1_8 x1_9 w):callE P eO #[hT x0q x0n x0c,(N10.V {a0:=x1_0,a1:=x1_1,a2:=x1_2,a3:=x1_3,a4:=x1_4,a5:=x1_5,q6:=x1_6q,n6:=x1_6n,c6:=x1_6c,q7:=x1_7q,n7:=x1_7n,c7:=x1_7c,a8:=x1_8,a9:=x1_9})] R w:=
 aG [(29,.mk [3,66,107,460] (gp.k1 R)),(77,.dr (rpN [0,3,6,9,15,13,19,21,24,27,32]))] Tryz.func31 Tryz.call31 h

noncomputable def rowND:Row P au ae 10 136:=
 ⟨(P.info? ae).getD default,((P.info? ae).bind (·.zero)).getD default,by kernel_rfl,by kernel_rfl,by kernel_rfl,by kernel_rfl,by kernel_rfl,by kernel_rfl,by decide⟩
theorem Ay (v:N10):Instr.fill (λi=>some (i*10,10)) ((Array.range (1*10)).map (rowND.z.cells[· %rowND.z.cells.size]!)) [(0,v.V)]=some v.C:=by kernel_rfl
theorem ET (v:N10): ∀u∈v.V.cells.toList,u.oneCell'=true:=by
 intro x g;simp only[N10.V,Value.cells,N10.C,lW0,lH1,or_false] at g;rcases g with rfl|rfl|rfl|rfl|rfl|rfl|rfl|rfl|rfl|rfl<;>rfl
def NodeDt (x:ND)(v:N10)(M:List ai):Prop:= ∃h g qa ca q n c vs RM KM,x= .mk h g/\v=h.nd qa ca q n c/\M=RM++KM/\n<1073741824/\NDs g vs KM/\Sl 10 ae q n c vs RM
theorem NodeDt.cons {x:ND}{xs:List ND}{v:N10}{us:List Value}{M g:List ai}(h:NodeDt x v M)(y:NDs xs us g):NDs (x::xs) (v.C.toList++us) (M++g):=by
 obtain⟨h0,E,qa,ca,q,n,c,vs,RM,KM,rfl,rfl,rfl,b,d,e⟩:=h;exact .cons b d e y
theorem NodeDt.one {x:ND}{v:N10}{M:List ai}(h:NodeDt x v M):NDs [x] v.C.toList M:=by
 have:=h.cons .nil
 rwa [lG0,lG0] at this
theorem NodeDt.leaf {h:NH}{qa:OA}{ca:Nat}:NodeDt (.mk h []) (h.nd qa ca none 0 0) []:=⟨h,[],qa,ca,none,0,0,[],[],[],rfl,rfl,rfl,by decide,.nil,Sl.nil 10 ae⟩
theorem NodeDt.kind {x:ND}{v:N10}{M:List ai}(h:NodeDt x v M):v.a0=(x.h.kind:Int)/\v.a1=bs x.h.text:=by
 obtain⟨h0,g,qa,ca,q,n,c,vs,RM,KM,rfl,rfl,rfl,_⟩:=h;exact⟨rfl,rfl⟩
theorem NDs.snoc: ∀ {pre:List ND} {E:ND} {vs:List Value} {M:List ai},NDs (pre++ [E]) vs M-> ∃I O u g,vs=I++u.C.toList/\M=O++g/\NDs pre I O/\NodeDt E u g
 | [],E,vs,M,h=>by
  cases h with
  | @cons h0 ks _ qa ca q n c vs us RM KM XM a b d e=>
   cases e
   refine⟨[],[],h0.nd qa ca q n c,RM++KM,?_,?_,.nil,⟨h0,ks,qa,ca,q,n,c,vs,RM,KM,rfl,rfl,rfl,a,b,d⟩⟩
   ·rw[lT0,lG0]
   ·rw[lT0,lG0]
 |x::pre,E,vs,M,h=>by
  cases h with
  | @cons h0 ks _ qa ca q n c vs us RM KM XM a b d e=>
   obtain⟨I,O,u,g,rfl,rfl,U,V⟩:=NDs.snoc e;refine⟨_,_,u,g,?_,?_,NDs.cons (qa:=qa) (ca:=ca) a b d U,V⟩
   ·simp only[lD0]
   ·simp only[lD0]
def m8:List ND->Nat
 | []=>0
 |x::xs=>x.h.text.length+m8 xs
theorem jD (a b:List ND):m8 (a++b)=m8 a+m8 b:=by
 induction a with
 |nil=>simp[m8]
 |cons x a g=>rw[lR0,m8,m8,g,lD3]
theorem xf (pre:List ND)(h:NH)(g:List ND)(x:ND):gG (pre++ [.mk h g]) x=if x.h.kind=20/\h.kind=20 then pre++ [.mk {h with text:=h.text++x.h.text} g] else pre++ [.mk h g,x]:=by
 induction pre with
 |nil=>rfl
 |cons a pre y=>
  have e:gG (a::(pre++ [.mk h g])) x=a::gG (pre++ [.mk h g]) x:=by
   obtain⟨a1,a2⟩:=a;cases pre with
   |nil=>rfl
   |cons b pre=>rfl
  rw[lR0,e,y];split<;>rfl
theorem pV (g:List ND)(x:ND):m8 (gG g x)=m8 g+x.h.text.length:=by
 rcases lY1 g with rfl|⟨pre,⟨h,y⟩,rfl⟩
 ·show x.h.text.length+0=0+_
  omega
 ·rw[lK2,xf];split
  ·rw[jD,jD]
   show m8 pre+((h.text++x.h.text).length+0)=m8 pre+(h.text.length+0)+_
   rw[lA0];omega
  ·rw[jD,jD]
   show m8 pre+(h.text.length+(x.h.text.length+0))=m8 pre+(h.text.length+0)+_
   omega
theorem nA {g:List ND}{x:ND}{q:OA}{n c:Nat}{vs:List Value}{RM KM M:List ai}{u:N10}(b4:NDs g vs KM)(b3:Sl 10 ae q n c vs RM)(d3:NodeDt x u M)(g4:n<1073741823)(e5:m8 g+x.h.text.length<4611686018427387904)(h:Sat σ w (RM++(KM++(M++L))))(e3: ∀w b5 c4 a7 d1 a6 KM',c4<=n+1->NDs (gG g x) d1 KM'->Sl 10 ae b5 c4 a7 d1 a6->Sat σ w (a6++(KM'++L))->R (hQ (hT b5 c4 a7)) w):
 callE P eO #[hT q n c,u.V] R w:=by
 have e8:i64.max=9223372036854775807:=rfl;have g1:=b4.len;have e0:=b3.1;have c8:n=g.length:=by omega
 obtain⟨e4,ht⟩:=d3.kind;refine gp.sound ?_;refine Sat.bx h λb1 w h=>?_
 have h:Sat σ w ((b1,cel u.C.toList ae)::(RM++(KM++(M++L)))):=h
 have b7:g= []\/gG g x=g++ [x]-> ∀i w,Sat σ w ((b1,cel u.C.toList ae)::(RM++(KM++(M++L))))->gp.k1 R q n c b1 i false w:=by
  intro c2 i w h;refine af rfl (h.ldB10 u (.head _) ?_);have h:Sat σ w (RM++(KM++(M++((b1,cel u.C.toList ae)::L)))):=h.re
  refine Sat.app1 rowND b3 h (v:=u.V) rfl (ET u) (Ay u) (by omega) (by omega) (by decide) λb5 a7 w a6 f1 h=>?_
  have e:gG g x=g++ [x]:=by
   rcases c2 with rfl|c2
   ·rfl
   ·exact c2
  refine e3 w b5 (n+1) a7 _ a6 (KM++M) (lE1 _) (by rw[e];exact b4.append d3.one) f1 ?_;exact h.less [(b1,cel u.C.toList ae)]
 rcases lY1 g with rfl|⟨pre,y,rfl⟩
 ·have f0:n=0:=c8;subst f0;exact af rfl (b7 (.inl rfl) _ w h)
 rw[lK2] at*
 have f2:n=pre.length+1:=by rw[c8];simp
 have f4:i64.wrap ((n:Int) - 1)=(pre.length:Nat):=by rw[gR (by omega) (by omega),f2];rfl
 have g2:=b4;obtain⟨O,d2,v,g5,rfl,rfl,d0,g0⟩:=b4.snoc;have e9:=d0.len;obtain⟨h0,W,qa,ca,E,I,c0,us,b9,c1,rfl,rfl,rfl,f7,f5,f6⟩:=g0;have e1:=xf pre h0 W x;rw[f4];refine ag (by simp) ⟨_,Sat.ld h (.head _) (i:=0) rfl,?_⟩;have c5: ¬ (x.h.kind=20/\h0.kind=20)->gG (pre++ [.mk h0 W]) x=(pre++ [.mk h0 W])++ [x]:=by
  intro hc;rw[e1,if_neg hc];simp
 refine bh (λU=>?_) (λU=>?_)
 ·have e6:x.h.kind=20:=by
   rw[e4] at U;have:=eq_of_beq U;omega
  refine⟨by omega,by omega,?_⟩;have f3:=b3;obtain⟨_,_,⟨rfl,hz,_,_⟩|⟨c3,sp,rfl,rfl,c9⟩⟩:=f3
  ·omega
  refine aa ?_;simp only[lL0,lC0,lO0];have b8: ∀(i:Nat) (z:Value),(h0.nd qa ca E I c0).C.toList[i]? =some z->(O++(h0.nd qa ca E I c0).C.toList++sp)[pre.length*10+i]? =some z:=by
   intro i z hz;rw[lD0];exact y9 e9 hz
  refine⟨_,Sat.ld h (.tail _ (.head _)) (b8 0 _ rfl),?_⟩
  by_cases b6:h0.kind=20
  ·rw[show (((h0.kind:Nat):Int)==20)=true by rw[b6];rfl];refine ag rfl (h.tk λw h=>⟨by omega,by omega,aa ?_⟩);simp only[lL0,lC0,lO0];refine⟨_,Sat.ld h (.tail _ (.head _)) (b8 1 _ rfl),_,Sat.ld h (.head _) (i:=1) rfl,?_⟩;rw[ht,bG];rw[jD] at e5;have g3:m8 [.mk h0 W]=h0.text.length+0:=rfl;refine⟨by rw[e8,aF,aF];omega,by omega,by omega,aa ?_⟩;simp only[lL0,lC0,lO0,lL1];have e7:(O++(h0.nd qa ca E I c0).C.toList++sp).set (pre.length*10+1) (hX (bs (h0.text++x.h.text)))=O++(NH.nd {h0 with text:=h0.text++x.h.text} qa ca E I c0).C.toList++sp:=by
    rw[lD0,lR1 _ _ (by omega),show pre.length*10+1 - O.length=1 by omega,lD0];rfl
   refine Sat.st h (k:=1) rfl (by have:=(lJ0.1 (b8 1 _ rfl)).1;exact this) trivial rfl λw h=>?_
   rw[e7] at h;have h:Sat σ w ((b1,cel u.C.toList ae)::([(c3,cel (O++(NH.nd {h0 with text:=h0.text++x.h.text} qa ca E I c0).C.toList++sp) ae)]++(d2++(b9++c1)++(M++L)))):=h
   refine e3 w _ n c (O++(NH.nd {h0 with text:=h0.text++x.h.text} qa ca E I c0).C.toList) [(c3,cel (O++(NH.nd {h0 with text:=h0.text++x.h.text} qa ca E I c0).C.toList++sp) ae)] (d2++(b9++c1)) (by omega) ?_ ⟨?_,b3.2.1,.inr ⟨c3,sp,rfl,rfl,?_⟩⟩ ?_
   ·rw[e1,if_pos ⟨e6,b6⟩];exact d0.append (NodeDt.one ⟨_,W,qa,ca,E,I,c0,us,b9,c1,rfl,rfl,rfl,f7,f5,f6⟩)
   ·rw[lA0];rw[lA0] at e0;exact e0
   ·rw[lA0,lA0] at c9⊢;exact c9
   ·exact h.less ((b1,cel u.C.toList ae)::M)
  ·rw[show (((h0.kind:Nat):Int)==20)=false by rw[beq_eq_false_iff_ne];omega];exact b7 (.inr (c5 (λhc=>b6 hc.2))) _ w h
 ·refine b7 (.inr (c5 (λhc=>?_))) _ w h;rw[e4,hc.1] at U;exact absurd U (by decide)

noncomputable def rowI64:Row P cA ba 1 8:=
 ⟨(P.info? ba).getD default,((P.info? ba).bind (·.zero)).getD default,by kernel_rfl,by kernel_rfl,by kernel_rfl,by kernel_rfl,by kernel_rfl,by kernel_rfl,by decide⟩
theorem y7 (w:World):(Instr.buildSlice cA 0 #[]).run P w= .ok (hT (kE w.heap.size) 0 0) (w.alloc (.cells #[] ba)):=by
 have hi:=rowI64.hi;simp[Instr.buildSlice,run_underlying rowI64.ht,sizeOf,typeInfo,hi,Instr.fill,newRow];have e: ∀f:Nat->Value,(Array.range 0).map f= #[]:=λf=>Array.eq_empty_of_size_eq_zero (by simp)
 rw[e]
theorem Sat.build0 (h:Sat σ w L){K:OA->Nat->Nat->World->Prop}(y: ∀b g,Sat σ g ((b,cel [] ba)::L)->K (kE b) 0 0 g): ∃(q:OA),∃(n:Nat),∃(c:Nat),∃g,(Instr.buildSlice cA 0 #[]).run P w= .ok (hT q n c) g/\K q n c g:=
 ⟨_,_,_,_,y7 w,y _ _ (h.alc [] ba)⟩
theorem Sat.app0 {b:Nat}{qa:OA}{ca:Nat}(h:Sat σ w ((b,cel [] ba)::L)){K:OA->Nat->Nat->World->Prop}(O: ∀q c g,Sat σ g L->K q 0 c g): ∃(q:OA),∃(n:Nat),∃(c:Nat),∃g,(Builtin.append_ #[cA,cA] cA #[hT (kE b) 0 0,hT qa 0 ca]).run P w= .ok (hT q n c) g/\K q n c g:=by
 have hs:Src P 1 cA (hT qa 0 ca) 0 [] w:=by
  cases qa with
  |none=>exact Src.ofNil w rowI64.ht ca
  |some a=>exact Src.ofSlice w rowI64.ht a 0 ca [] rfl (λj u I=>by simp at I) (by simp)
 obtain⟨E,y,g,W,hr,V,U,_⟩:=Sat.app rowI64 (M:= [(b,cel [] ba)]) (tx:=cA) (ty:=cA) (n:=0) (c:=0) (vs:= []) ⟨rfl,lE1 _,.inr ⟨b,[],rfl,rfl,rfl⟩⟩ h hs (.inr (by simp)) (by decide) (by decide);exact⟨E,0,y,g,hr,O E y g U.right⟩
def Hk (x:IN)(v:N16)(T:List ai):Prop:=
 ∀(σ:Out) (R:Ending->World->Prop) (L:List ai) (w:World),Sat σ w (T++L)->(∀w u M,NodeDt (gF x) u M->Sat σ w (M++(T++L))->R (hQ u.V) w)->callE P mJ #[v.V] R w
inductive BareGs:List IN->List Value->List ai->Prop where
 |nil:BareGs [] [] []
 |cons {x:IN} {xs:List IN} {v:N16} {us:List Value} {T K:List ai}:Hk x v T->v.a0=(x.h.kind:Int)->x.h.text.length<1073741824->BareGs xs us K->BareGs (x::xs) (v.C.toList++us) (T++K)
theorem BareGs.len {xs:List IN}{vs:List Value}{M:List ai}(h:BareGs xs vs M):vs.length=xs.length*16:=by
 induction h with
 |nil=>rfl
 |cons _ _ _ _ g=>rw[lA0,g,lF0,lV3,lH4];rfl
theorem BJ (h:IH):(rv h).text.length<=h.text.length:=by
 unfold rv;dsimp only;split
 ·exact lD2 _
 ·exact lE1 _
theorem Hg (x:IN):(gF x).h=rv x.h:=by
 obtain⟨h,g⟩:=x;rw[gF];rfl
theorem D5 {b7:List IN}{q:OA}{n c:Nat}{vs:List Value}{RM KM:List ai}{b1 a6 W:Nat}{h0:IH}{H:NH}{qa:OA}{ca:Nat}(c1:BareGs b7 vs KM)(e3:Sl 16 aj q n c vs RM)(g7:n<1073741824)(h:Sat σ w ((W,cel (H.nd qa ca none 0 0).C.toList ae)::(b1,cel (h0.nd q n c).C.toList aj)::(a6,cel (N10.C {}).toList ae)::(RM++KM++L)))(b6: ∀w u M,NodeDt (.mk H (eA [] b7)) u M->Sat σ w (M++(RM++KM++L))->R (hQ u.V) w):cE.l1 R a6 W q n c (n:Int) 0 w:=by
 have h2:=e3.1;have f6:=c1.len;intro X e1;have f0: ∀(a7:List IN) (c5:List Value) (K:List ai),BareGs a7 c5 K-> ∀(g:List ND) (U:List Value) (D:List ai) (j:Nat) y E us I NM w,U++c5=vs->U.length=j*16->j+a7.length=n->eA g a7=eA [] b7->g.length<=j->m8 g<=j*1073741824->
  NDs g us NM->Sl 10 ae y g.length E us I->Sat σ w ((W,cel (H.nd qa ca y g.length E).C.toList ae)::(b1,cel (h0.nd q n c).C.toList aj)::(a6,cel (N10.C {}).toList ae)::(I++NM++(RM++(D++(K++L)))))->
  (∀w u M,NodeDt (.mk H (eA [] b7)) u M->Sat σ w (M++(RM++(D++(K++L))))->R (hQ u.V) w)->X a6 W q n c (n:Int) (j:Nat) w:=by
  intro a7 c5 K c1
  induction c1 with
  |nil=>
   intro g U D j y E us I NM w hv c8 b9 hb e0 d0 c2 b8 h b6;simp only[lM1,lL1] at b9;refine e1 _ _ _ _ _ _ _ _ (af (by simp;omega) ?_);refine h.ldB10 _ (.head _) ?_;refine h.st10 2 {} (H.nd qa ca y g.length E) λw h=>?_
   refine h.ldB10 _ (.tail _ (.tail _ (.head _))) ?_;have e:eA g []=g:=by rw[eA]
   rw[<-hb,e] at b6;refine b6 w _ (I++NM) ⟨H,g,qa,ca,y,g.length,E,us,I,NM,rfl,rfl,rfl,by omega,c2,b8⟩ ?_;have h:Sat σ w ((W,cel (H.nd qa ca y g.length E).C.toList ae)::(b1,cel (h0.nd q n c).C.toList aj)::(a6,cel (H.nd qa ca y g.length E).C.toList ae)::(I++NM++(RM++(D++([]++L))))):=h
   exact h.tail.tail.tail
  | @cons x a7 v us2 T K g1 g2 g3 g4 ih=>
   intro g U D j y E us I NM w hv c8 b9 hb e0 d0 c2 b8 h b6;simp only[lF0] at b9;have e6:j<n:=by omega
   refine e1 _ _ _ _ _ _ _ _ (ag (by simp;omega) ⟨by omega,by omega,?_⟩);have f2:=e3;obtain⟨_,_,⟨rfl,hz,_,_⟩|⟨O,sp,rfl,rfl,g5⟩⟩:=f2
   ·omega
   refine aa ?_;simp only[lL0,lC0,lO0];have e5:vs++sp=U++(v.C.toList++(us2++sp)):=by rw[<-hv];simp only[lD0]
   refine Sat.ldA16 h v (b:=O) (pre:=U) (suf:=us2++sp) (e:=aj) (by rw[<-e5];simp) c8 ?_;refine Sat.bx h λb5 w h=>?_
   have h:Sat σ w ((b5,cel (N16.C {}).toList aj)::(W,cel (H.nd qa ca y g.length E).C.toList ae)::(b1,cel (h0.nd (kE O) n c).C.toList aj)::(a6,cel (N10.C {}).toList ae)::(I++NM++([(O,cel (vs++sp) aj)]++(D++(T++K++L))))):=h
   refine h.st16 0 {} v λw h=>⟨_,Sat.ld h (.head _) (i:=0) rfl,?_⟩
   rw[g2];have f4:eA g (x::a7)=eA (if x.h.kind=13 then g else gG g (gF x)) a7:=by rw[eA]
   rw[f4] at hb;have d3:(U++v.C.toList)++us2=vs:=by rw[<-hv];simp only[lD0]
   have c9:(U++v.C.toList).length=(j+1)*16:=by rw[lA0,c8,lV3];rfl
   by_cases c3:x.h.kind=13
   ·rw[if_pos c3] at hb;refine af (by rw[c3];rfl) ?_;rw[aL (by omega)];have e9:j+1+a7.length=n:=by rw[<-b9];exact lH3 j 1 _
    refine ih g (U++v.C.toList) (D++T) (j+1) y E us I NM w d3 c9 e9 hb (Nat.le_succ_of_le e0) (Nat.le_trans d0 (lC2 _ (Nat.le_succ j))) c2 b8 ?_ (λw u M b4 h=>b6 w u M b4 h.re);exact Sat.less [(b5,cel v.C.toList aj)] h
   ·rw[if_neg c3] at hb;refine ag (by simp;omega) (h.tk λw h=>?_);refine⟨_,_,_,Sat.ld h (.tail _ (.head _)) (i:=7) rfl,?_⟩;refine h.ldB16 v (.head _) ?_;have g6:=e6;have f7:(gF x).h.text.length<=x.h.text.length:=by rw[Hg];exact BJ x.h
    have h:Sat σ w (T++((b5,cel v.C.toList aj)::(W,cel (H.nd qa ca y g.length E).C.toList ae)::(b1,cel (h0.nd (kE O) n c).C.toList aj)::(a6,cel (N10.C {}).toList ae)::(I++NM++([(O,cel (vs++sp) aj)]++(D++(K++L)))))):=h.re
    have e8:=h;refine g1 σ _ _ w h λw u M b4 h=>vH ⟨?_,?_⟩
    ·exact e8.same h (lB0 _ (.tail _ (.head _))) (lB0 _ (lB0 _ (.tail _ (.head _)))) 1
    have h:Sat σ w (I++(NM++(M++((W,cel (H.nd qa ca y g.length E).C.toList ae)::(b5,cel v.C.toList aj)::(b1,cel (h0.nd (kE O) n c).C.toList aj)::(a6,cel (N10.C {}).toList ae)::([(O,cel (vs++sp) aj)]++(D++(T++(K++L)))))))):=h.re
    refine nA (n:=g.length) c2 b8 b4 (by omega) (by omega) h λw e4 f3 e2 f1 c4 KM' g0 d1 d2 h=>⟨_,_,_,rfl,?_⟩
    have e7:f3=(gG g (gF x)).length:=by have a:=d1.len;have b:=d2.1;omega
    subst e7;have h:Sat σ w ((W,cel (H.nd qa ca y g.length E).C.toList ae)::(c4++(KM'++((b5,cel v.C.toList aj)::(b1,cel (h0.nd (kE O) n c).C.toList aj)::(a6,cel (N10.C {}).toList ae)::([(O,cel (vs++sp) aj)]++(D++(T++(K++L)))))))):=h.re
    refine Sat.st h (k:=0) rfl (by show 7<10;decide) trivial rfl λw h=>?_
    have h:Sat σ w ((W,cel (H.nd qa ca e4 (gG g (gF x)).length e2).C.toList ae)::(c4++(KM'++((b5,cel v.C.toList aj)::(b1,cel (h0.nd (kE O) n c).C.toList aj)::(a6,cel (N10.C {}).toList ae)::([(O,cel (vs++sp) aj)]++(D++(T++(K++L)))))))):=h
    rw[aL (by omega)];have f5:=pV g (gF x);refine ih (gG g (gF x)) (U++v.C.toList) (D++T) (j+1) e4 e2 f1 c4 KM' w d3 c9 (by omega) hb (by omega) (by omega) d1 d2 ?_ (λw u M b4 h=>b6 w u M b4 h.re);exact Sat.less [(b5,cel v.C.toList aj)] h
 exact f0 b7 vs KM c1 [] [] [] 0 none 0 [] [] [] w rfl rfl (by omega) rfl (lE1 _) (lE1 _) .nil (Sl.nil 10 ae) (by simpa using h) (λw u M b4 h=>b6 w u M b4 (by simpa using h))

def IH.fenced (h:IH):Prop:=h.kind=7->h.mark≠ []
theorem iy (k d:Nat):(((k:Nat):Int)==(d:Int))=decide (k=d):=by
 rw[lD5,beq_iff_eq,decide_eq_true_eq];omega
theorem yy {h0:IH}{c5:List IN}{q:OA}{n c:Nat}{vs:List Value}{RM KM:List ai}(e0:BareGs c5 vs KM)(d2:Sl 16 aj q n c vs RM)(d0:n<1073741824)(d3:h0.fenced):Hk (.mk h0 c5) (h0.nd q n c) (RM++KM):=by
 intro σ R L w h e1;refine cE.sound ?_;refine Sat.bx h λb1 w h=>?_
 refine Sat.bx h λV w h=>h.tk λw h=>?_
 have h:Sat σ w ((V,cel (N10.C {}).toList ae)::(b1,cel (h0.nd q n c).C.toList aj)::(RM++KM++L)):=h
 let b9:NH:= {kind:=h0.kind,text:=h0.text,title:=h0.title,num:=h0.num,char:=h0.char,loose:=h0.loose}
 have fin: ∀E qa ca w,Sat σ w ((E,cel (b9.nd qa ca none 0 0).C.toList ae)::(V,cel (N10.C {}).toList ae)::(b1,cel (h0.nd q n c).C.toList aj)::(RM++KM++L))->cE.k1 R b1 V E w:=by
  intro E qa ca w h;have k2: ∀w,Sat σ w ((E,cel ((rv h0).nd qa ca none 0 0).C.toList ae)::(V,cel (N10.C {}).toList ae)::(b1,cel (h0.nd q n c).C.toList aj)::(RM++KM++L))->cE.k2 R b1 V E w:=by
   intro w h;have k4: ∀w,Sat σ w ((E,cel ((rv h0).nd qa ca none 0 0).C.toList ae)::(V,cel (N10.C {}).toList ae)::(b1,cel (h0.nd q n c).C.toList aj)::(RM++KM++L))->cE.k4 R b1 V E w:=by
    intro w h;refine⟨_,_,_,Sat.ld h (.tail _ (.tail _ (.head _))) (i:=7) rfl,?_⟩;refine D5 (b1:=b1) (qa:=qa) (ca:=ca) (H:=rv h0) (h0:=h0) e0 d2 d0 (h.re) λw u M d1 h=>e1 w u M ?_ h
    rw[gF];exact d1
   refine⟨_,Sat.ld h (.tail _ (.tail _ (.head _))) (i:=0) rfl,bh (λc2=>?_) (λ_=>af rfl (k4 w h))⟩;refine⟨_,Sat.ld h (.tail _ (.tail _ (.head _))) (i:=10) rfl,af ?_ (k4 w h)⟩;have c2:(((h0.kind:Nat):Int)==((7:Nat):Int))=true:=c2
   rw[iy,decide_eq_true_eq] at c2;have:=d3 c2;rw[cn];have e:(hP #[]).toList= []:=cn [];rw[e]
   simpa using this
  have c9:h0.kind≠6->h0.kind≠5->h0.kind≠12->rv h0=b9:=by
   intro a b d;unfold rv;rw[if_neg (by omega)]
  have c8:h0.kind=6\/h0.kind=5\/h0.kind=12->rv h0= {b9 with text:= []}:=by
   intro a;unfold rv;rw[if_pos a]
  have c4:(h0.kind=6\/h0.kind=5\/h0.kind=12)->stV w (hZ E 1) (hX (hP #[])) λw=>cE.k2 R b1 V E w:=by
   intro a;refine Sat.st h (k:=0) rfl (by show 1<10;decide) trivial rfl λw h=>k2 w ?_
   rw[c8 a];exact h
  refine⟨_,Sat.ld h (.tail _ (.tail _ (.head _))) (i:=0) rfl,bh (λb5=>?_) λb5=>?_⟩
  ·have b5:(((h0.kind:Nat):Int)==((6:Nat):Int))=true:=b5
   rw[iy,decide_eq_true_eq] at b5;exact c4 (.inl b5)
  have b5:(((h0.kind:Nat):Int)==((6:Nat):Int))=false:=b5
  rw[iy,decide_eq_false_iff_not] at b5;refine⟨_,Sat.ld h (.tail _ (.tail _ (.head _))) (i:=0) rfl,bh (λb4=>?_) λb4=>?_⟩
  ·have b4:(((h0.kind:Nat):Int)==((5:Nat):Int))=true:=b4
   rw[iy,decide_eq_true_eq] at b4;exact c4 (.inr (.inl b4))
  have b4:(((h0.kind:Nat):Int)==((5:Nat):Int))=false:=b4
  rw[iy,decide_eq_false_iff_not] at b4;refine⟨_,Sat.ld h (.tail _ (.tail _ (.head _))) (i:=0) rfl,bh (λa7=>?_) λa7=>?_⟩
  ·have a7:(((h0.kind:Nat):Int)==((12:Nat):Int))=true:=a7
   rw[iy,decide_eq_true_eq] at a7;exact c4 (.inr (.inr a7))
  have a7:(((h0.kind:Nat):Int)==((12:Nat):Int))=false:=a7
  rw[iy,decide_eq_false_iff_not] at a7;refine k2 w ?_;rw[c9 b5 b4 a7];exact h
 have I:(b1,cel (h0.nd q n c).C.toList aj)∈((V,cel (N10.C {}).toList ae)::(b1,cel (h0.nd q n c).C.toList aj)::(RM++KM++L)):= .tail _ (.head _)
 refine⟨_,Sat.ld h I (i:=0) rfl,_,Sat.ld h I (i:=1) rfl,_,Sat.ld h I (i:=2) rfl,_,Sat.ld h I (i:=3) rfl,_,Sat.ld h I (i:=4) rfl,_,Sat.ld h I (i:=5) rfl,_,_,_,Sat.ld h I (i:=6) rfl,?_,?_⟩
 ·refine h.build0 λc3 b7 W=>?_
  have c1:(b1,cel (h0.nd q n c).C.toList aj)∈((c3,cel [] ba)::(V,cel (N10.C {}).toList ae)::(b1,cel (h0.nd q n c).C.toList aj)::(RM++KM++L)):= .tail _ (.tail _ (.head _))
  have O: ∀i,SameC w b7 (hZ b1 i) 1:=λi=>h.same W I c1 1
  refine⟨O 6,O 5,O 4,O 3,O 2,O 1,O 0,?_,?_⟩
  ·refine W.app0 λqa ca b8 a6=>?_
   have y: ∀i,SameC b7 b8 (hZ b1 i) 1:=λi=>W.same a6 c1 I 1
   refine⟨y 5,y 4,y 3,y 2,y 1,y 0,?_⟩;refine Sat.bx a6 λE b6 U=>?_
   have U:Sat σ b6 ((E,cel (N10.C {}).toList ae)::(V,cel (N10.C {}).toList ae)::(b1,cel (h0.nd q n c).C.toList aj)::(RM++KM++L)):=U
   have g: ∀i,SameC b8 b6 (hZ b1 i) 1:=λi=>a6.same U I (.tail _ I) 1
   refine⟨g 6,g 5,g 4,g 3,g 2,g 1,g 0,?_⟩;exact U.st10 0 {} (b9.nd qa ca none 0 0) λw h=>fin E qa ca w h
  ·refine Sat.bx W λE b6 U=>?_
   have U:Sat σ b6 ((E,cel (N10.C {}).toList ae)::(c3,cel [] ba)::(V,cel (N10.C {}).toList ae)::(b1,cel (h0.nd q n c).C.toList aj)::(RM++KM++L)):=U
   have g: ∀i,SameC b7 b6 (hZ b1 i) 1:=λi=>W.same U c1 (.tail _ c1) 1
   refine⟨g 6,g 5,g 4,g 3,g 2,g 1,g 0,?_⟩;refine U.up1.app0 λqa ca b8 a6=>?_
   have y: ∀i,SameC b6 b8 (hZ b1 i) 1:=λi=>U.same a6 (.tail _ c1) (.tail _ I) 1
   refine⟨y 5,y 4,y 3,y 2,y 1,y 0,?_⟩;exact a6.st10 0 {} (b9.nd qa ca none 0 0) λw h=>fin E qa ca w h
 ·refine Sat.bx h λE b7 W=>?_
  have W:Sat σ b7 ((E,cel (N10.C {}).toList ae)::(V,cel (N10.C {}).toList ae)::(b1,cel (h0.nd q n c).C.toList aj)::(RM++KM++L)):=W
  have O: ∀i,SameC w b7 (hZ b1 i) 1:=λi=>h.same W I (.tail _ I) 1
  refine⟨O 6,O 5,O 4,O 3,O 2,O 1,O 0,?_⟩;refine W.build0 λc3 b8 a6=>?_
  have y: ∀i,SameC b7 b8 (hZ b1 i) 1:=λi=>W.same a6 (.tail _ I) (.tail _ (.tail _ I)) 1
  refine⟨y 6,y 5,y 4,y 3,y 2,y 1,y 0,?_⟩;refine a6.app0 λqa ca b6 U=>?_
  have g: ∀i,SameC b8 b6 (hZ b1 i) 1:=λi=>a6.same U (.tail _ (.tail _ I)) (.tail _ I) 1
  refine⟨g 5,g 4,g 3,g 2,g 1,g 0,?_⟩;exact U.st10 0 {} (b9.nd qa ca none 0 0) λw h=>fin E qa ca w h
mutual
def IN.fenced:IN->Prop
 | .mk h ks=>h.fenced/\ez ks
def ez:List IN->Prop
 | []=>True
 |k::ks=>k.fenced/\ez ks
end
theorem da {h:IH}{g:List IN}:(IN.mk h g).fenced<->h.fenced/\ez g:=by rw[IN.fenced]
theorem ga {k:IN}{g:List IN}:ez (k::g)<->k.fenced/\ez g:=by rw[ez]
theorem Ig {xs:List IN}{vs:List Value}{M:List ai}(h:INs xs vs M):ez xs->BareGs xs vs M:=by
 induction h with
 |nil=>exact λ_=> .nil
 |cons a1 a2 a3 a4 a5 y g=>
  intro I;obtain⟨O,U⟩:=ga.1 I;obtain⟨E,V⟩:=da.1 O;exact .cons (yy (y V) a4 a2 E) rfl a1.1 (g U)

def gJ:List UInt8->List (List UInt8)
 | []=> [[]]
 |c::s=>if c=10 then []::gJ s else match gJ s with
  | []=> [[c]]
  |l::ls=>(c::l)::ls

theorem FN {b:Nat}{e:TypeId}: ∀(vs pre mid g:List Value) (k:Nat) {w:World} {K:World->Prop},(∀v∈vs,ot v)->mid.length=vs.length->k=0->Sat σ w ((b,cel (pre++mid++g) e)::L)->(∀y,Sat σ y ((b,cel (pre++vs++g) e)::L)->K y)->stS vs (hZ b pre.length) k w K
 | [],pre,mid,g,k,w,K,_,hm,hk,h,hK=>by
  obtain rfl:=lF1 hm;exact hK w h
 |v::vs,pre,[],g,k,w,K,_,hm,hk,h,hK=>by simp at hm
 |v::vs,pre,m::mid,g,k,w,K,hv,hm,hk,h,hK=>by
  subst hk;refine Sat.st h (k:=0) (i:=pre.length) rfl (by simp) (hv v (.head _)) rfl λy h=>?_
  have b3:(pre++(m::mid)++g).set pre.length v=(pre++ [v])++mid++g:=by
   rw[lD0,lR1 _ _ (lE1 _),lQ1];simp
  have h:Sat σ y ((b,cel ((pre++ [v])++mid++g) e)::L):=by rw[<-b3];exact h
  have E:=FN vs (pre++ [v]) mid g 0 (K:=K) (λx a7=>hv x (.tail _ a7)) (by simpa using hm) rfl h (λy h=>hK y (by simpa using h));have V: ∀(vs:List Value) (n k:Nat) (w:World),stS vs ⟨b,n+1,none⟩ k w K->stS vs (hZ b n) (k+1) w K:=by
   intro vs
   induction vs with
   |nil=>intro n k w h;exact h
   |cons u us E=>
    intro n k w h;have W:(⟨b,n+1,none⟩:Addr).add k=((hZ b n):Addr).add (k+1):=by simp only[lL0];congr 1;omega
    obtain⟨a6,I,U,O⟩:=h;rw[W] at I U O;exact⟨a6,I,U,E n (k+1) _ O⟩
  refine V vs pre.length 0 y ?_
  simpa using E
def btV:List Value:=hN 80 (hY 0)++ [hV false]
theorem EK {b:Nat}{p:PS}(h:Sat σ w (p.at b::L))(g: ∀w,Sat σ w (({p with bt:= .z}:PS).at b::L)->R (hQ (.tuple #[])) w):callE P dT #[kT (some (hZ b 12))] R w:=by
 refine gy.sound ?_;refine aa ?_
 let pre:List Value:= [kT p.pz,kT p.root,.map p.links,hY p.lineno,hT p.stq p.stn p.stc,hY p.depth,hV p.corner,hX (bs p.s),hY p.em,
  hT p.lq p.ln p.lc,hT p.Lq p.Ln p.Lc,hT p.tq p.tn p.tc]
 have e:p.cells=pre++p.bt.cells++ []:=by rw[lG0];rfl
 have h:Sat σ w ((b,cel (pre++p.bt.cells++ []) g9)::L):=by rw[<-e];exact h
 have:=FN btV pre p.bt.cells [] 0 (K:=λw=>R (hQ (.tuple #[])) w) (λv hv=>by simp[btV] at hv;rcases hv with rfl|rfl<;>trivial) (by simp[BT.cells,p.bt.ok,btV]) rfl h λw h=>g w (by
  have y:({p with bt:= .z}:PS).cells=pre++btV++ []:=by rw[lG0];rfl
  show Sat σ w ((b,cel ({p with bt:= .z}:PS).cells g9)::L)
  rw[y];exact h)
 exact this
theorem uj {s:List UInt8}(hs:s.length<1000000000)(g:s≠ [])(y:(10:UInt8) ∉ s)(h:Sat σ w L)(I: ∀w M,Sat σ w (M++L)->R (hQ (hX (bs s))) w):callE P lT #[hX (bs s),hX (hP #[10]),hX (hP #[32])] R w:=by
 refine fi.sound ?_;intro X V;refine V _ _ _ _ _ _ _ ?_;refine kA (sub:= [10]) (by omega) (by decide) ⟨_,rfl,?_⟩;have e:lG s [10]= -1:=by unfold lG;rw[lF y]
 rw[e];refine ag rfl ?_;refine By.appS By.nil (L:=L) h s (.inl g) (by omega) λa6 W O E U h _ _=>?_
 exact⟨_,_,U.str h,I O E h⟩
theorem PS.bt80 (p:PS):p.cells[92]? =some (hV p.bt.sc):=by
 show (p.bt.cells)[80]? =_
 unfold BT.cells;rw[lI0 (by simp[p.bt.ok])];simp[p.bt.ok]
def BT.set0 (t:BT)(n:Int):BT:=⟨t.l.set 0 n,t.sc,by simp[t.ok]⟩
theorem PS.set12 (p:PS)(n:Int):p.cells.set 12 (hY n)=({p with bt:=p.bt.set0 n}:PS).cells:=by
 have e:p.bt.cells.set 0 (hY n)=(p.bt.set0 n).cells:=by
  obtain⟨l,sc,ok⟩:=p.bt;cases l with
  |nil=>simp at ok
  |cons x l=>rfl
 have g: ∀(q:PS) (l:List Value),({q with bt:= .z}:PS).cells.take 12=q.cells.take 12:=λq l=>rfl
 show [kT p.pz,kT p.root,.map p.links,hY p.lineno,hT p.stq p.stn p.stc,hY p.depth,hV p.corner,hX (bs p.s),hY p.em,hT p.lq p.ln p.lc,hT p.Lq p.Ln p.Lc,hT p.tq p.tn p.tc]++p.bt.cells.set 0 (hY n)=_
 rw[e];rfl
theorem PS.cells12 (p:PS):12<p.cells.length:=by
 show 12<(p.bt.cells.length+12)
 simp[BT.cells,p.bt.ok]
theorem DK {b:Nat}{p:PS}{A T B:List UInt8}(b5:T≠ [])(y: ∀c∈T,c≠96/\c≠10/\c≠32)(c9:B.head? ≠some 96)(b8:(A++96::(T++96::B)).length<1000000)(O:p.bt.sc=false):
 qD b p (A++96::(T++96::B)) A.length (.func (.func bK) #[kT (some (hZ b 12))] #[]) [] (some (.code T,A.length,A.length+T.length+2)) (λp'=>p'.bt.sc=false):=by
 intro σ R L w _ h e0;refine ir ?_;generalize hs:A++96::(T++96::B)=s at b8;have e3:s.length=A.length+(T.length+B.length+2):=by rw[<-hs];simp;omega
 have g:0<T.length:=lZ0.2 b5
 show callE P bK #[kT (some (hZ b 12)),kT (kE b),hX (bs s),hY (A.length:Nat)] R w
 have a7: ∀(k:Nat) (b6:k<T.length) (h:A.length+1+k<s.length),s[A.length+1+k]=T[k]:=by
  intro k b6 h;subst hs;rw[lN2 (by omega)];simp only[show A.length+1+k - A.length=k+1 by omega,lH6];rw[lT5 b6]
 have b4: ∀(h:A.length+1+T.length<s.length),s[A.length+1+T.length]=96:=by
  intro h;subst hs;rw[lN2 (by omega)];simp only[show A.length+1+T.length - A.length=T.length+1 by omega,lH6];rw[lN2 (by omega)];simp
 have c5: ∀(h:A.length+1+T.length+1<s.length),s[A.length+1+T.length+1]≠96:=by
  intro h c2;have e:s[A.length+1+T.length+1]? =some 96:=by rw[lH0 h,c2]
  rw[<-hs,lI0 (by omega)] at e;rw[show A.length+1+T.length+1 - A.length=(T.length+1)+1 by omega,lZ2,lI0 (by omega),show T.length+1 - T.length=0+1 by omega,lZ2] at e;rw[<-lF6] at e;exact c9 e
 refine aE.sound ?_;intro e4 c1;refine c1 _ _ _ _ _ _ ?_;have E:i64.wrap (((A.length:Nat):Int)+1)=((A.length+1:Nat):Int):=aL (by omega)
 refine⟨λ_=>by rw[E];exact⟨by omega,by simp;omega⟩,?_⟩;rw[E];have c8:s[A.length+1]'(by omega)≠96:=by
  have:s[A.length+1]'(by omega)=T[0]:=a7 0 g (by omega);rw[this];exact(y _ (lO1 g)).1
 refine af ?_ ?_
 ·rw[dh (by omega) 96 96 rfl];simp[c8]
 refine af rfl (aa ⟨_,Sat.ld h (.head _) (i:=92) p.bt80,?_⟩);rw[O];refine af rfl ?_;unfold aE.k3;rw[E];intro e1 U;have b9: ∀k m,m+k=T.length->e1 (some (hZ b 12)) (bs s) (A.length:Nat) (A.length:Nat) 1 ((A.length+1+m:Nat):Int) w:=by
  intro k
  induction k with
  |succ k d0=>
   intro m d2;refine U _ _ _ _ _ _ _ (ag (by simp;omega) ⟨by omega,by simp;omega,ag ?_ ?_⟩)
   ·have e:=dh (l:=s) (i:=A.length+1+m) (by omega) 96 96 rfl
    have:(bt (bs s) ((A.length+1+m:Nat):Int) !=96)= !(bt (bs s) ((A.length+1+m:Nat):Int)==96):=rfl
    rw[this,e,a7 m (by omega) (by omega)];simp[(y _ (lO1 (show m<T.length by omega))).1]
   ·rw[aL (by omega)];exact d0 (m+1) (by omega)
  |zero=>
   intro m d2;obtain rfl:m=T.length:=by omega
   refine U _ _ _ _ _ _ _ (ag (by simp;omega) ⟨by omega,by simp;omega,af ?_ ?_⟩)
   ·have e:=dh (l:=s) (i:=A.length+1+T.length) (by omega) 96 96 rfl
    have:(bt (bs s) ((A.length+1+T.length:Nat):Int) !=96)= !(bt (bs s) ((A.length+1+T.length:Nat):Int)==96):=rfl
    rw[this,e,b4 (by omega)];rfl
   intro e5 V;refine V _ _ _ _ _ _ _ _ ⟨λ_=>⟨by omega,by simp;omega⟩,ag ?_ ?_⟩
   ·rw[dh (by omega) 96 96 rfl,b4 (by omega)];simp;omega
   rw[aL (by omega)];refine V _ _ _ _ _ _ _ _ ⟨λI=>⟨by omega,by simpa using I⟩,af ?_ ?_⟩
   ·by_cases a6:A.length+1+T.length+1<s.length
    ·rw[dh a6 96 96 rfl];simp[c5 a6]
    ·rw[show decide (((A.length+1+T.length+1:Nat):Int)<((bs s).size:Int))=false by simp;omega];rfl
   refine aa ⟨_,Sat.ld h (.head _) (i:=92) p.bt80,?_⟩;have d1:i64.wrap (((A.length+1+T.length+1:Nat):Int) - ((A.length+1+T.length:Nat):Int))=1:=by
    rw[show (((A.length+1+T.length+1:Nat):Int) - ((A.length+1+T.length:Nat):Int))=1 by omega];rfl
   rw[d1,O];refine ag rfl (aa ⟨by decide,by decide,?_⟩);refine Sat.st h (k:=0) (i:=12) rfl p.cells12 trivial rfl λw h=>?_
   rw[p.set12] at h;have h:Sat σ w (({p with bt:=p.bt.set0 ((A.length+1+T.length:Nat):Int)}:PS).at b::L):=h
   generalize W:({p with bt:=p.bt.set0 ((A.length+1+T.length:Nat):Int)}:PS)=p' at h;have c3:p'.core2=p.core2:=by rw[<-W];rfl
   have b7:p'.bt.sc=false:=by rw[<-W];exact O
   refine ag rfl ?_;rw[E];refine⟨by omega,by omega,by simp;omega,?_⟩;rw[lC0,lC0,bV];have c4:(s.take (A.length+1+T.length)).drop (A.length+1)=T:=by
    rw[<-hs];rw[show A++96::(T++96::B)=((A++ [96])++T)++96::B by simp,lF5 (by simp;omega),lE5 (by simp)]
   rw[c4];refine uj (by omega) b5 (λh=>(y _ h).2.1 rfl) h λw M h=>⟨_,rfl,?_⟩
   have b3:(bt (bs T) 0==32)=false:=by
    have:=dh (l:=T) (i:=0) g 32 32 rfl
    rw[show ((0:Nat):Int)=0 from rfl] at this;rw[this];simp[(y _ (lO1 g)).2.2]
   refine⟨λ_=>⟨by decide,by simp;omega⟩,λI=>by rw[b3] at I;simp at I,af (by rw[b3];simp) ?_⟩;refine af rfl (Sat.bx h λe2 w h=>?_);have d3:((A.length+1+T.length+1:Nat):Int)=((A.length+T.length+2:Nat):Int):=by omega
   rw[d3];exact e0 w p' _ _ c3 b7 ⟨e2,Cc,rfl,rfl⟩ (h.less M)
 exact b9 T.length 0 (by omega)

def AtD (X:XI)(σ:Out)(b:Nat)(p0:PS)(raw:List UInt8)(L:List ai)(i e:Nat)(ts:List Inl)(opens:List Nat)(lo:Int):Prop:=
 ∀g,AtC g (λt=>g=true->t.sc=false) X σ b p0 raw L i e ts opens lo
def yE (R:Ending->World->Prop)(X:XI)(b:Nat)(raw:List UInt8):Prop:= ∀g,Im R X b raw g
theorem AtD.plain {X:XI}{b pb i e:Nat}{p0:PS}{raw:List UInt8}{ts:List Inl}{opens:List Nat}{lo:Int}{o:Opt}(b4:yE R X b raw)(hi:i<raw.length)(hs:raw.length<1000000000)(W:p0.pz=kE pb)(b8:o.at pb∈L)(c2:kt o raw[i]= .nil)(a6:raw[i]≠93\/opens= [])(h:AtD X σ b p0 raw L (i+1) e ts opens lo):AtD X σ b p0 raw L i e ts opens lo:=by
 intro I w p b6 b7 c1 V hc U b5 b9;refine b4 I _ _ _ _ _ _ ?_;obtain⟨vs,RM,EM,b3,c3,a7,E,O,g⟩:=b9;refine lE (p:=p) hi (by omega) (by rw[PS.pz_of hc,W]) (.head _) (.tail _ (lB0 _ (lB0 _ (lB0 _ b8)))) g ?_;rw[c2];have y:=E.1;rw[lQ0] at y;exact Aq (HZ hi (by omega) (a6.imp id (by rintro rfl;simp at y;omega)) (h I w p b6 b7 c1 V hc U b5 ⟨vs,RM,EM,b3,c3,a7,E,O,g⟩))
theorem AtD.plains {X:XI}{b pb e:Nat}{p0:PS}{raw:List UInt8}{ts:List Inl}{opens:List Nat}{lo:Int}{o:Opt}(I:yE R X b raw)(hs:raw.length<1000000000)(g:p0.pz=kE pb)(E:o.at pb∈L):
 ∀(k i:Nat),i+k<=raw.length->(∀j (y:j<raw.length),i<=j->j<i+k->kt o raw[j]= .nil/\raw[j]≠93)->AtD X σ b p0 raw L (i+k) e ts opens lo->AtD X σ b p0 raw L i e ts opens lo
 |0,i,_,_,h=>h
 |k+1,i,hk,hall,h=>by
  have hi:i<raw.length:=by omega
  have h0:=hall i hi (lE1 _) (by omega);refine AtD.plain I hi hs g E h0.1 (.inl h0.2) ?_;refine AtD.plains I hs g E k (i+1) (by omega) (λj y O U=>hall j y (by omega) (by omega)) ?_;rw[show i+1+k=i+(k+1) by omega];exact h
theorem AtD.leaf {X:XI}{b pb i e st en:Nat}{p0:PS}{raw:List UInt8}{ts:List Inl}{opens:List Nat}{lo:Int}{o:Opt}{f:FuncId}{t:Inl}{L0:List ai}(c4:yE R X b raw)(hi:i<raw.length)(hs:raw.length<1000000000)(b6:p0.pz=kE pb)(c8:o.at pb∈L)(d2:kt o raw[i]= .fn f)(b9: ∀c∈L0,c∈L)(c9: ∀p:PS,p.coreS=p0.coreS->p.s=raw->qD b p raw i (.func (.func f) #[] #[]) L0 (some (t,st,en)) (λp'=>p'=p))(b7:st<=raw.length)(c2:ts.length<1000000000)(b4:opens.length<1000000000)(h:AtD X σ b p0 raw L en en (lh raw e st ts++ [t]) (if t.isOpen then opens++ [(lh raw e st ts).length] else opens) lo):AtD X σ b p0 raw L i e ts opens lo:=by
 intro U w p I O V b5 hc y c5 d0;refine c4 U _ _ _ _ _ _ ?_;obtain⟨vs,RM,EM,c3,e1,b8,c1,a6,g⟩:=d0;refine lE (p:=p) hi (by omega) (by rw[PS.pz_of hc,b6]) (.head _) (.tail _ (lB0 _ (lB0 _ (lB0 _ c8)))) g ?_;rw[d2];dsimp only;have W:=c9 p hc y;subst y;refine Ar ⟨vs,RM,EM,c3,e1,b8,c1,a6,g⟩ b9 W c5 b7 hs c2 b4 λw p2 I O V E a7 d3 e0=>?_
 have b3:p2.bt=p.bt:=by obtain⟨e2,rfl,d1⟩:=d3;exact d1
 refine h U w p2 I O V (by rw[b3];exact b5) (PS.coreS_of E hc) ?_ a7 e0;have:=congrArg PS.s E;exact this
theorem AtD.code {X:XI}{b pb e:Nat}{p0:PS}{A T B raw:List UInt8}{ts:List Inl}{opens:List Nat}{lo:Int}{o:Opt}(c9:yE R X b raw)(y:raw=A++96::(T++96::B))(d0:T≠ [])(c2: ∀c∈T,c≠96/\c≠10/\c≠32)(d2:B.head? ≠some 96)(hs:raw.length<1000000)(c1:p0.pz=kE pb)(d1:o.at pb∈L)(c8:ts.length<1000000000)(b8:opens.length<1000000000)(h:AtD X σ b p0 raw L (A.length+T.length+2) (A.length+T.length+2) (lh raw e A.length ts++ [.code T]) opens lo):AtD X σ b p0 raw L A.length e ts opens lo:=by
 have e6:raw.length=A.length+(T.length+B.length+2):=by rw[y];simp;omega
 have hi:A.length<raw.length:=by omega
 have e1:raw[A.length]=96:=by subst y;rw[lN2 (lE1 _)];simp
 intro b4 w p U V W b9 hc E I d3;refine c9 b4 _ _ _ _ _ _ ?_;obtain⟨vs,RM,EM,b3,O,c3,c5,b5,g⟩:=d3;have fin: ∀w (p:PS),p.bt.sc=false->p.coreS=p0.coreS->p.s=raw->p.em=(e:Int)->Sl 1 aD p.lq p.ln p.lc vs RM->Sat σ w (p.at b::(RM++(EM++(b3++L))))->av.k1 R X (kE b) (bs raw) U V W lo true (A.length:Nat) (.func (.func bK) #[kT (some (hZ b 12))] #[]) w:=by
  intro w p c4 hc E I O g;have a6:=DK (b:=b) (p:=p) (A:=A) (T:=T) (B:=B) d0 c2 d2 (by rw[<-y];exact hs) c4
  rw[<-y] at a6;subst E;refine Ar ⟨vs,RM,EM,b3,O,c3,c5,b5,g⟩ (L0:= []) (by simp) a6 I (by omega) (by omega) c8 b8 λw p2 U V W a7 b6 e2 e3=>?_
  have b7:p2.bt.sc=false:=by obtain⟨e5,e0,e4⟩:=e2;rw[e4];exact e0
  refine h true w p2 U V W (λ_=>b7) (PS.coreS_of a7 hc) ?_ b6 e3;have:=congrArg PS.s a7;exact this
 refine lE (p:=p) hi (by omega) (by rw[PS.pz_of hc,c1]) (.head _) (.tail _ (lB0 _ (lB0 _ (lB0 _ d1)))) g ?_;rw[e1,show kt o 96= .code from rfl];cases b4 with
 |true=>exact af rfl (fin w p (b9 rfl) hc E I O g)
 |false=>
  refine ag rfl ?_;refine EK g λw g=>⟨rfl,?_⟩
  refine fin w {p with bt:= .z} rfl ?_ E I O g;rw[<-hc];rfl
theorem AtD.close {X:XI}{b pb i e en k:Nat}{p0:PS}{raw:List UInt8}{ts1 ts2:List Inl}{opens:List Nat}{lo:Int}{o:Opt}{t url title:List UInt8}{tc:UInt8}{cor img:Bool}{L0:List ai}(b7:yE R X b raw)(hi:i<raw.length)(hs:raw.length<1000000)(hc:raw[i]=93)(b4:p0.pz=kE pb)(b5:o.at pb∈L)(b3: ∀c∈L0,c∈L)(ht:t.getD 0 0=(if img then 33 else 91))(O:t≠ [])(V:img=true\/lo<=(k:Int))(I:url.length<1000000)(y: ∀p:PS,p.coreS=p0.coreS->p.s=raw->wC b p raw i t k L0 url title tc cor en)(W:ts2++nf raw e i≠ [])(U:wfE (ts2++nf raw e i))(a6:oo none (ts2++nf raw e i))(b6:(ts1++ts2).length<1000000)(a7:opens.length<1000000)(E:AtD X σ b p0 raw L en en (ts1++ [AF img (yo (ts2++nf raw e i)) url title tc cor]) opens (if img then lo else (k:Int))):
 AtD X σ b p0 raw L i e (ts1++ .openP t k::ts2) (opens++ [ts1.length]) lo:=
 λg=>AtC.close (b7 g) hi hs hc b4 b5 b3 ht O V I y W U a6 b6 a7 (E g)
theorem AtD.fin {X:XI}{b pb e:Nat}{p0:PS}{raw:List UInt8}{ts ts':List Inl}{opens:List Nat}{lo:Int}{o:Opt}(b5:yE R X b raw)(hs:raw.length<1000000000)(V:p0.pz=kE pb)(W:o.at pb∈L)(O:o.auto=false)(g:ts.length<1000000000)(b4:AP (lh raw e raw.length ts) ts')(E: ∀t∈ts',∀s,t.plain? =some s->s≠ [])(hb:sk ts'<1073741824)(b3: ∀w (p':PS) q n c vs RM EM,p'.coreS=p0.coreS->Sl 1 aD q n c vs RM->n<1073741824->InlsAt (lD ts') vs EM->Sat σ w (p'.at b::(RM++(EM++L)))->R (hQ (hT q n c)) w):
 AtD X σ b p0 raw L raw.length e ts opens lo:=by
 intro a7 w p c1 b8 b9 b7 hc I b6 y;refine b5 a7 _ _ _ _ _ _ ?_;subst I;exact GX y b6 hs g (by rw[PS.pz_of hc,V]) W O b4 E hb λw p2 q n c vs RM EM U a6 g y h=>b3 w p2 q n c vs RM EM (PS.coreS_of U hc) a6 g y h
namespace bU
def k3 (R:EP)(y g:Int)(E:Bool)(w:World):Prop:=br E (False) (box w #[] wK λb1 I=>R (hQ (.tuple #[.iface jY (kT (kE b1)),hY y,hY g,hV true])) I)
def k2 (R:EP)(y:BA)(g E I:Int)(w:World):Prop:=((decide (g >= 2))=true->0<=(i64.wrap (g - 1))/\(i64.wrap (g - 1))<(y.size:Int))/\(((decide (g >= 2)) && ((bt y (i64.wrap (g - 1)))==32))=true->0<=(i64.wrap (g - 2))/\(i64.wrap (g - 2))<(y.size:Int))/\k3 R E I (((decide (g >= 2)) && ((bt y (i64.wrap (g - 1)))==32)) && ((bt y (i64.wrap (g - 2)))==32)) w
def bl2 (R:EP)(Xa:BA->Int->Int->Int->WP)(y:BA)(I E g:Int)(w:World):Prop:=((decide (g<(y.size:Int)))=true->0<=g/\g<(y.size:Int))/\(((decide (g<(y.size:Int))) && (!((bt y g)==32)))=true->0<=g/\g<(y.size:Int))/\br ((decide (g<(y.size:Int))) && (((bt y g)==32)||((bt y g)==9))) (False) (k2 R y I E g w)
def l2 (R:EP)(I:BA)(E g y:Int)(w:World):Prop:=∀X:BA->Int->Int->Int->WP,(∀I E g y w,bl2 R X I E g y w->X I E g y w)->X I E g y w
def k1 (R:EP)(E:BA)(g y:Int)(w:World):Prop:=l2 R E g y (i64.wrap (g+1)) w
def bl1 (R:EP)(I:BA->Int->Int->WP)(y:BA)(E g:Int)(w:World):Prop:=((decide (g>0))=true->0<=(i64.wrap (g - 1))/\(i64.wrap (g - 1))<(y.size:Int))/\(((decide (g>0)) && (!((bt y (i64.wrap (g - 1)))==32)))=true->0<=(i64.wrap (g - 1))/\(i64.wrap (g - 1))<(y.size:Int))/\br ((decide (g>0)) && (((bt y (i64.wrap (g - 1)))==32)||((bt y (i64.wrap (g - 1)))==9))) (False) (k1 R y E g w)
def l1 (R:EP)(E:BA)(y g:Int)(w:World):Prop:=∀X:BA->Int->Int->WP,(∀E y g w,bl1 R X E y g w->X E y g w)->X E y g w
end bU
def bU (R:EP)(E:OA)(y:BA)(g:Int)(w:World):Prop:=bU.l1 R y g g w
theorem bU.sound {R x0 x1 x2 w}(h:bU R x0 x1 x2 w):callE P j9 #[kT x0,hX x1,hY x2] R w:=
 aG [(19,.lp [21,47,207] (bU.bl1 R) λg=> [(10,.no)]),(15,.mk [21,47,207] (bU.k1 R)),(79,.lp [21,47,207,227] (bU.bl2 R) λXa=> [(10,.no)]),(63,.mk [21,47,207,227] (bU.k2 R)),(223,.mk [207,227,1320] (bU.k3 R)),(351,.no)] Tryz.func118 Tryz.call118 h
def kx (R:EP)(V:OA)(y:BA)(g:Int)(w:World):Prop:=br (decide ((i64.wrap (g+1))<(y.size:Int))) (0<=(i64.wrap (g+1))/\(i64.wrap (g+1))<(y.size:Int)/\callE P mi #[.int .u8 (bt y (i64.wrap (g+1)))] (λe I=>∃E,e= hQ (hV E)/\br E (0<=(i64.wrap (g+1))/\(i64.wrap (g+1))<=(i64.wrap (g+2))/\(i64.wrap (g+2))<=(y.size:Int)/\box I #[hX (y.extract (Int.toNat (i64.wrap (g+1))) (Int.toNat (i64.wrap (g+2))))] AV λU O=>R (hQ (.tuple #[.iface lr (kT (kE U)),hY g,hY (i64.wrap (g+2)),hV true])) O) (False)) w) (False)
theorem kx.sound {R x0 x1 x2 w}(h:kx R x0 x1 x2 w):callE P jw #[kT x0,hX x1,hY x2] R w:=
 aG [(469,.no),(373,.no),(501,.no),(29,.no),(7,.no)] Tryz.func109 Tryz.call109 h

def punB (c:UInt8):Bool:=(((decide (33<=c.toNat) && decide (c.toNat<=47))||(decide (58<=c.toNat) && decide (c.toNat<=64)))||(decide (91<=c.toNat) && decide (c.toNat<=96)))||(decide (123<=c.toNat) && decide (c.toNat<=126))
theorem zV (c:UInt8)(n:Nat):decide ((n:Int)<=((c.toNat:Nat):Int))=decide (n<=c.toNat):=by rw[decide_eq_decide];omega
theorem zW (c:UInt8)(n:Nat):decide (((c.toNat:Nat):Int)<=(n:Int))=decide (c.toNat<=n):=by rw[decide_eq_decide];omega
theorem zr {c:UInt8}(g:R (hQ (hV (punB c))) w):callE P mi #[.int .u8 (c.toNat:Int)] R w:=by
 refine mj.sound ?_;unfold mj;unfold punB at g;rw[<-zV c 33,<-zW c 47,<-zV c 58,<-zW c 64,<-zV c 91,<-zW c 96,<-zV c 123,<-zW c 126] at g;exact g
theorem zF {b:Nat}{p:PS}{c:UInt8}{A B:List UInt8}(hc:punB c=true)(hs:(A++92::c::B).length<1000000):
 qD b p (A++92::c::B) A.length (.func (.func jw) #[] #[]) [] (some (.esc [c],A.length,A.length+2)) (λp'=>p'=p):=by
 intro σ R L w _ h U;refine ir ?_;have y:(A++92::c::B).length=A.length+B.length+2:=by simp;omega
 have O:(A++92::c::B).getD (A.length+1) 0=c:=by
  have:=wa (A++ [92]) B c 0;rw[show (A++ [92]:List UInt8).length=A.length+1 by simp] at this;rw[<-this];simp
 refine kx.sound ?_;unfold kx;have I:i64.wrap ((A.length:Int)+2)=((A.length+2:Nat):Int):=by simp (disch:=omega) only[i64_in];omega
 rw[aL (by omega),I];refine ag (by rw[aF,y];simp;omega) ⟨by omega,by rw[aF,y];omega,?_⟩;rw[pI,O];refine zr ⟨_,rfl,ag hc ⟨by omega,by omega,by rw[aF,y];omega,?_⟩⟩;have g:=qM (A++ [92]) [c] B;rw[show (A++ [92]:List UInt8).length=A.length+1 by simp] at g;rw[lC0,lC0,bV];have E:((A++92::c::B).take (A.length+2)).drop (A.length+1)= [c]:=by
  unfold sub at g;rw[<-g];simp
 rw[E];refine Sat.bx h λnb w h=>?_
 exact U w p _ _ rfl rfl ⟨nb,_,rfl,rfl⟩ h.up1
theorem BF {b:Nat}{p:PS}{A B:List UInt8}(a6: ∀k,k+1=A.length->cO (A.getD k 0)=false)(b4:0<B.length->cO (B.getD 0 0)=false)(hs:(A++10::B).length<1000000):
 qD b p (A++10::B) A.length (.func (.func j9) #[] #[]) [] (some (.soft,A.length,A.length+1)) (λp'=>p'=p):=by
 intro σ R L w _ h U;refine ir ?_;have g:(A++10::B).length=A.length+B.length+1:=by simp;omega
 have I: ∀ {c:UInt8},cO c=false->(((c.toNat:Nat):Int)==32)=false/\(((c.toNat:Nat):Int)==9)=false:=by
  intro c hc;simp only[cO,lH2] at hc;rw[u8b _ 32 32 rfl,u8b _ 9 9 rfl];exact hc
 refine bU.sound ?_;intro X V;have k1:bU.k1 R (bs (A++10::B)) (A.length:Nat) (A.length:Nat) w:=by
  unfold bU.k1;rw[aL (by omega)];intro Y W;have k2:bU.k2 R (bs (A++10::B)) (A.length:Nat) (A.length:Nat) ((A.length+1:Nat):Int) w:=by
   rcases lP4 A.length 2 with b3|b3
   ·have y:decide (((A.length:Nat):Int) >= 2)=false:=decide_eq_false (by omega)
    unfold bU.k2;rw[y];refine⟨λh=>by simp at h,λh=>by simp at h,af rfl ?_⟩;exact Sat.bx h λnb w h=>U w p _ _ rfl rfl ⟨nb,_,rfl,rfl⟩ h.up1
   ·have ht:decide (((A.length:Nat):Int) >= 2)=true:=decide_eq_true (by omega)
    have O:i64.wrap ((A.length:Int) - 1)=((A.length - 1:Nat):Int):=gR (by omega) (by omega)
    have hc:=I (a6 (A.length - 1) (by omega));have E:bt (bs (A++10::B)) ((A.length - 1:Nat):Int)=((A.getD (A.length - 1) 0).toNat:Int):=by rw[pI,nT (by omega)]
    unfold bU.k2;rw[ht,O,E,hc.1];refine⟨λ_=>⟨by omega,by rw[aF,g];omega⟩,λh=>by simp at h,af rfl ?_⟩;exact Sat.bx h λnb w h=>U w p _ _ rfl rfl ⟨nb,_,rfl,rfl⟩ h.up1
  rcases lM4 B.length with hb|hb
  ·have y:decide (((A.length+1:Nat):Int)<((bs (A++10::B)).size:Int))=false:=decide_eq_false (by rw[aF,g];omega)
   refine W _ _ _ _ _ ?_;unfold bU.bl2;rw[y];exact⟨λh=>by simp at h,λh=>by simp at h,af rfl k2⟩
  ·have hc:=I (b4 hb);have E:bt (bs (A++10::B)) ((A.length+1:Nat):Int)=((B.getD 0 0).toNat:Int):=by
    rw[pI,qm (by omega),show A.length+1 - A.length=0+1 by omega,lL5]
   refine W _ _ _ _ _ ?_;unfold bU.bl2;rw[E,hc.1,hc.2];exact⟨λh=>⟨by omega,by rw[aF,g];omega⟩,λh=>⟨by omega,by rw[aF,g];omega⟩,af (by simp) k2⟩
 rcases lM4 A.length with a7|a7
 ·have y:decide (((A.length:Nat):Int)>0)=false:=decide_eq_false (by omega)
  refine V _ _ _ _ ?_;unfold bU.bl1;rw[y];exact⟨λh=>by simp at h,λh=>by simp at h,af rfl k1⟩
 ·have O:i64.wrap ((A.length:Int) - 1)=((A.length - 1:Nat):Int):=gR (by omega) (by omega)
  have hc:=I (a6 (A.length - 1) (by omega));have E:bt (bs (A++10::B)) ((A.length - 1:Nat):Int)=((A.getD (A.length - 1) 0).toNat:Int):=by rw[pI,nT (by omega)]
  refine V _ _ _ _ ?_;unfold bU.bl1;rw[O,E,hc.1,hc.2];exact⟨λh=>⟨by omega,by rw[aF,g];omega⟩,λh=>⟨by omega,by rw[aF,g];omega⟩,af (by simp) k1⟩
theorem jG: ∀(a b:List Inl),sk (a++b)=sk a+sk b
 | [],b=>by simp[sk]
 |t::a,b=>by simp only[lR0,sk,jG a b];omega
theorem z8 {A B:List UInt8}{e:Nat}(x:List UInt8)(g:e<=A.length):sub (A++(x++B)) e (A.length+x.length)=sub (A++(x++B)) e A.length++x:=by
 unfold sub;have y:(A++(x++B)).take (A.length+x.length)=A++x:=by rw[<-lD0,show A.length+x.length=(A++x).length by simp,lS4]
 have E:(A++(x++B)).take A.length=A:=lS4;rw[y,E,lM2 g]
end Go.Proofs.YtendaipfdnhnaaaGreatDoor
