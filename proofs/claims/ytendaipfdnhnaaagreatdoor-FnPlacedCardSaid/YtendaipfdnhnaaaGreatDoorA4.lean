/- Part 4 of the proof of the law FnPlaced: for every input the law returns true, the inputs read as they did, and memory that was there is as it was; under the conditions of the given row alone. -/
import Derived.Laws.RangeString
import Derived.Test.YtendaipfdnhnaaaGreatDoorA3
set_option linter.all false
open Go.IntKind(i64)
open ByteArray renaming mk→hP
open List renaming replicate→hN
namespace Go.Proofs.YtendaipfdnhnaaaGreatDoor
open Go.Proofs Go.IntWalk Go.RowKit
set_option maxRecDepth 20000
variable {σ:Out} {w:World} {L L':List ai} {R:Ending->World->Prop} {G:List UInt8->List Inl} {op:Opt}

def Bk.isRoot (f:Bk):Prop:= ∃g,f.ob.bd=Ga g/\f.own= [(g,cel [] eO)]
def pN (op:Opt)(fs:List Bk)(lf:Leaf)(Q:List DB->Prop):Prop:=
 ∀(σ:Out) (R:Ending->World->Prop) (L:List ai) (b pb:Nat) (p:PS) (w:World) (X:OA->Int->WP),(∀g y w,aG.bl1 R X g y w->X g y w)->op.at pb∈L->p.pz=kE pb->DocC σ b L fs lf p w->
  (∀w (p':PS) root,p'.base=p.base->root.isRoot->Q root.D->DocC σ b L [root] .none p' w->X (kE b) 0 w)->X (kE b) 0 w
theorem Ab {op:Opt}{b pb:Nat}{p:PS}{fs:List Bk}{lf:Leaf}{Q:List DB->Prop}(b7:pN op fs lf Q)(h:DocC σ b L fs lf p w)(a7:p.pz=kE pb)(b5:op.at pb∈L)(b9: ∀w (p':PS) E db IM y q n c s e,p'.base= {p.base with root:=kE db}->Q E->Txts p' ((cj E).map TX.t) y->Sl 1 aO q n c (E.map DB.v) IM->n<1000000->
  Sat σ w (p'.at b::(y++((cj E).map TX.chunk++(AA db s e q n c p.links::(IM++(cV E++L))))))->R (hQ (.tuple #[])) w):
 callE P bj #[kT (kE b),hY 0] R w:=by
 refine aG.sound ?_;have c3:=h;obtain⟨M,y,a6,c2,hs,ht,I,c5,h⟩:=h;refine aa ?_;refine⟨_,_,_,h.ldA,?_⟩;refine ae (by simp) ?_;intro X H;refine b7 σ R L b pb p w X H b5 a7 c3 λw g root hb V b8 h=>?_
 obtain⟨O,b4,W⟩:=V;obtain⟨M,y,a6,c2,hs,ht,I,⟨rfl,rfl⟩,h⟩:=h;have hs:Stk g [root.ob] M:=hs;have c1:g.stn=1:=hs.2.1;have b3:g.links=p.links:=by have:=congrArg PS.links hb;exact this
 refine H _ _ _ (aa ?_);refine⟨_,_,_,h.ldA,?_⟩;rw[c1];refine ag rfl ?_;refine wU h hs b4 λw db h=>⟨_,rfl,H _ _ _ (aa ?_)⟩
 refine⟨_,_,_,h.ldA,?_⟩;refine ae rfl ?_;obtain⟨U,c4,_⟩:=I root (by simp);have b6:=U.1;simp only[lS0,lD1] at b6;rw[dH] at ht;refine b9 w {g with stn:=0,root:=kE db} root.D db root.IM y root.ob.q root.ob.n root.ob.c root.ob.s root.ob.e ?_ b8 (ht.of rfl rfl rfl) U (by omega) ?_
 ·have e:({g with stn:=0,root:=kE db}:PS).base= {g.base with root:=kE db}:=rfl
  rw[e,hb]
 ·rw[<-b3];rw[dy,W] at h;have h:Sat σ w (({g with stn:=0,root:=kE db}:PS).at b::M++(AA db root.ob.s root.ob.e root.ob.q root.ob.n root.ob.c g.links::(y++(root.IM++([(O,cel [] eO)]++(cV root.D++(cj root.D).map TX.chunk))++([]++L))))):=h
  exact h.less (M++ [(O,cel [] eO)])
def pJ (L0:List ai)(op:Opt)(n:Nat)(l:List UInt8)(nl:UInt8)(fs:List Bk)(lf:Leaf)(J:List Bk->Leaf->Prop):Prop:=
 ∀(σ:Out) (R:Ending->World->Prop) (L:List ai) (b pb:Nat) (p:PS) (w:World),(∀c∈L0,c∈L)->op.at pb∈L->p.pz=kE pb->p.lineno=n->n<1000000000->DocC σ b L fs lf p w->
  (∀w (p':PS) y g,p'.base=p.base->p'.lineno=p.lineno->J y g->DocC σ b L y g p' w->R (hQ (.tuple #[])) w)->callE P gQ #[kT (kE b),(Bx l nl).val] R w
theorem BC {L0:List ai}{op:Opt}{E:List (List UInt8 × UInt8)->Nat->List Bk->Leaf->Prop}(step: ∀l nl rem n fs lf,E ((l,nl)::rem) n fs lf->pJ L0 op (n+1) l nl fs lf (E rem (n+1)))(d2: ∀c∈L0,c∈L){X:OA->BA->Nat->WP}{b pb:Nat}{p0:PS}(U: ∀c1 c2 b9 w,bp.bl1 R X c1 c2 b9 w->X c1 c2 b9 w)(d1:op.at pb∈L)(c8:p0.pz=kE pb)(b8: ∀w (p:PS) fs lf,p.base=p0.base->E [] p.lineno fs lf->DocC σ b L fs lf p w->bp.bl1 R X (kE pb) (bs []) b w){text:List UInt8}{ls:List (List UInt8 × UInt8)}(O:LinesOf text ls):
 ∀w (p:PS) fs lf,text.length<1000000->p.lineno+ls.length<1000000000->p.base=p0.base->E ls p.lineno fs lf->DocC σ b L fs lf p w->X (kE pb) (bs text) b w:=by
 have k3: ∀(l:List UInt8) (nl:UInt8) (t:List UInt8) (rem:List (List UInt8 × UInt8)) w (p:PS) fs lf,(∀w (p:PS) fs lf,p.lineno+rem.length<1000000000->p.base=p0.base->E rem p.lineno fs lf->DocC σ b L fs lf p w->X (kE pb) (bs t) b w)->
  p.lineno+rem.length+1<1000000000->p.base=p0.base->E ((l,nl)::rem) p.lineno fs lf->DocC σ b L fs lf p w->bp.k3 R X (kE pb) (bs t) b (bs l) (nl.toNat:Int) w:=by
  intro l nl t rem w p fs lf next y hb g h
  obtain⟨M,V,b3,W,hs,ht,b6,O,h⟩:=h;unfold bp.k3;refine⟨_,Sat.ld h (.head _) (i:=3) rfl,?_⟩;rw[aN (by omega)];refine h.stA 0 λw h=>?_
  let H:PS:= {p with lineno:=p.lineno+1}
  have h:Sat σ w (H.at b::M++(V++(aM fs++(W++L)))):=h
  have b7:H.base=p0.base:=hb;have c4:H.pz=kE pb:=by
   have:=congrArg PS.pz b7;rw[show H.pz=p0.pz from this];exact c8
  refine step l nl rem p.lineno fs lf g σ _ L b pb H w d2 d1 c4 rfl (by omega) ⟨M,V,b3,W,hs.of rfl rfl rfl,ht.of rfl rfl rfl,b6,O,h⟩ λw p2 c9 d0 e2 c3 d3 e0=>⟨rfl,?_⟩
  exact next w p2 c9 d0 (by rw[c3];show p.lineno+1+_<_;omega) (e2.trans b7) (by rw[c3];exact d3) e0
 induction O with
 |nil=>
  intro w p fs lf a7 y hb g h;exact U _ _ _ _ (b8 w p fs lf hb g h)
 | @last l hne hnl=>
  intro w p fs lf a7 y hb g h;have b4:kM l [10]= -1:=by unfold kM;rw[kK hnl.1]
  have b5:kM l [13]= -1:=by unfold kM;rw[kK hnl.2]
  refine U _ _ _ _ (ag (by rw[cX];simpa using hne) ?_);refine jW (sub:= [10]) (by omega) (by decide) ⟨_,rfl,?_⟩;refine jW (sub:= [13]) (by omega) (by decide) ⟨_,rfl,?_⟩;rw[b4,b5];refine ae rfl (ae rfl ?_);refine k3 l 0 [] [] w p fs lf ?_ (by simp at y⊢;omega) hb g h;intro w p fs lf y hb g h;exact U _ _ _ _ (b8 w p fs lf hb g h)
 | @cons l t ls hnl hLt ih=>
  intro w p fs lf a7 y hb g h;have c5:13 ∉ l++10::t:=(LinesOf.cons hnl hLt).no13
  have b4:kM (l++10::t) [10]=(l.length:Nat):=by unfold kM;rw[BW hnl.1]
  have b5:kM (l++10::t) [13]= -1:=by unfold kM;rw[kK c5]
  have a6:(l++10::t).length=l.length+t.length+1:=by simp;omega
  refine U _ _ _ _ (ag (by rw[cX];simp[gi]) ?_);refine jW (sub:= [10]) (by omega) (by decide) ⟨_,rfl,?_⟩;refine jW (sub:= [13]) (by omega) (by decide) ⟨_,rfl,?_⟩;rw[b4,b5];refine ae rfl ?_;refine ag (by simp) ?_;obtain⟨M,V,b3,W,hs,ht,b6,O,h⟩:=h;refine Sat.tk h λw h=>?_
  rw[aN (by omega),aI,lC0,lC0,nt,bV,lL2,lO4];refine⟨by omega,by rw[a6];omega,by omega,by rw[a6];omega,?_⟩;have e1:(l++10::t).drop (l.length+1)=t:=by rw[lU5];simp
  rw[e1];refine k3 l 10 t ls w p fs lf ?_ (by simp at y⊢;omega) hb g ⟨M,V,b3,W,hs,ht,b6,O,h⟩;intro w p fs lf y hb g h;exact ih w p fs lf (by rw[a6] at a7;omega) y hb g h
theorem oY {X:OA->Int->WP}{b k:Nat}{fs:List Bk}{lf:Leaf}{p:PS}(O: ∀E y w,aG.bl1 R X E y w->X E y w)(h:DocC σ b L fs lf p w)(a6:k<fs.length)(hc:callE P aJ #[kT (kE b)] (λe I=> ∃(H:Value),e= hQ H/\X (kE b) (k:Int) I) w):X (kE b) (k:Int) w:=by
 obtain⟨M,a7,U,W,hs,ht,V,b3,h⟩:=h;have g:=hs.2.1;rw[lA0,lS0] at g;refine O _ _ _ (aa ?_);refine⟨_,_,_,h.ldA,?_⟩;rw[g];exact ag (by simp;omega) hc
theorem oQ {p p':PS}(h:p'.base=p.base):p'.pz=p.pz:=by have:=congrArg PS.pz h;exact this
namespace bY
def k1 (R:EP)(e4:OA)(y g:Nat)(w:World):Prop:=callE P cr #[kT (kE y)] (λe W=>∃c5,e= hQ (hV c5)/\br c5 (stV W (hZ g 0) (hY 0) λd1=>stV d1 (hZ g 1) (hY 0) λd0=>stV d0 (hZ g 2) (hY 0) λe3=>stV e3 (hZ g 3) (hX (hP #[])) λd2=>stV d2 (hZ g 4) (.int .u8 0) λI=>∃b5,I.cell? (hZ g 0)=some (hY b5)/\∃U,I.cell? (hZ g 1)=some (hY U)/\∃c2,I.cell? (hZ g 2)=some (hY c2)/\∃b9,I.cell? (hZ g 3)=some (hX b9)/\∃c1,I.cell? (hZ g 4)=some (.int .u8 c1)/\R (hQ (.tuple #[.agg #[hY b5,hY U,hY c2,hX b9,.int .u8 c1],hV true])) I) (callE P cr #[kT (kE y)] (λe e1=>∃b4,e= hQ (hV b4)/\br (!b4) (aA e4 λc8=>stV e1 ((c8.add 2).add 0) (hV true) λE=>∃c3,E.cell? (hZ y 0)=some (hY c3)/\∃b8,E.cell? (hZ y 1)=some (hY b8)/\∃b3,E.cell? (hZ y 2)=some (hY b3)/\∃b7,E.cell? (hZ y 3)=some (hX b7)/\∃b6,E.cell? (hZ y 4)=some (.int .u8 b6)/\stV E (hZ g 0) (hY c3) λe2=>stV e2 (hZ g 1) (hY b8) λe0=>stV e0 (hZ g 2) (hY b3) λc9=>stV c9 (hZ g 3) (hX b7) λd3=>stV d3 (hZ g 4) (.int .u8 b6) λH=>∃a6,H.cell? (hZ g 0)=some (hY a6)/\∃c4,H.cell? (hZ g 1)=some (hY c4)/\∃V,H.cell? (hZ g 2)=some (hY V)/\∃a7,H.cell? (hZ g 3)=some (hX a7)/\∃O,H.cell? (hZ g 4)=some (.int .u8 O)/\R (hQ (.tuple #[.agg #[hY a6,hY c4,hY V,hX a7,.int .u8 O],hV true])) H) (False)) W)) w
end bY
def bY (R:EP)(g b7:OA)(U W O:Int)(V:BA)(a6:Int)(w:World):Prop:=box w #[hY U,hY W,hY O,hX V,.int .u8 a6] aW λb1 b4=>box b4 #[hY 0,hY 0,hY 0,hX (hP #[]),.int .u8 0] aW λE b5=>callE P cr #[kT (kE b1)] (λe y=>∃H,e= hQ (hV H)/\br H (aA g λb6=>∃I,y.cell? (b6.add 2)=some (hV I)/\br (!I) (False) (bY.k1 R g b1 E y)) (bY.k1 R g b1 E y)) b5
theorem bY.sound {R x0 x1 x2_0 x2_1 x2_2 x2_3 x2_4 w}(h:bY R x0 x1 x2_0 x2_1 x2_2 x2_3 x2_4 w):callE P eZ #[kT x0,kT x1,.agg #[hY x2_0,hY x2_1,hY x2_2,hX x2_3,.int .u8 x2_4]] R w:=
 aH [(21,.no),(7,.mk [2,106,126] (bY.k1 R)),(119,.no)] Tryz.func439 Tryz.call439 h
def gp (R:EP)(e2 e3:OA)(c9 c4 c3:Int)(c5:BA)(c8:Int)(w:World):Prop:=box w #[hY c9,hY c4,hY c3,hX c5,.int .u8 c8] aW λb1 e1=>box e1 #[hY 0,hY 0,hY 0,hX (hP #[]),.int .u8 0] aW λg E=>∃b7,E.cell? (hZ b1 0)=some (hY b7)/\∃b9,E.cell? (hZ b1 1)=some (hY b9)/\∃c1,E.cell? (hZ b1 2)=some (hY c1)/\∃b8,E.cell? (hZ b1 3)=some (hX b8)/\∃c2,E.cell? (hZ b1 4)=some (.int .u8 c2)/\callE P lZ #[.agg #[hY b7,hY b9,hY c1,hX b8,.int .u8 c2]] (λe d1=>∃I U,∃V O,∃H W,e= hQ (.tuple #[.agg #[hY I,hY U,hY V,hX O,.int .u8 H],hV W])/\stV d1 (hZ g 0) (hY I) λd0=>stV d0 (hZ g 1) (hY U) λe0=>stV e0 (hZ g 2) (hY V) λd2=>stV d2 (hZ g 3) (hX O) λd3=>stV d3 (hZ g 4) (.int .u8 H) λy=>∃a7,y.cell? (hZ g 0)=some (hY a7)/\∃b6,y.cell? (hZ g 1)=some (hY b6)/\∃b4,y.cell? (hZ g 2)=some (hY b4)/\∃b5,y.cell? (hZ g 3)=some (hX b5)/\∃a6,y.cell? (hZ g 4)=some (.int .u8 a6)/\R (hQ (.tuple #[.agg #[hY a7,hY b6,hY b4,hX b5,.int .u8 a6],hV W])) y) E
theorem gp.sound {R x0 x1 x2_0 x2_1 x2_2 x2_3 x2_4 w}(h:gp R x0 x1 x2_0 x2_1 x2_2 x2_3 x2_4 w):callE P gk #[kT x0,kT x1,.agg #[hY x2_0,hY x2_1,hY x2_2,hX x2_3,.int .u8 x2_4]] R w:=
 cC Tryz.func435 Tryz.call435 h
def gZ (R:EP)(v0 v2:OA)(r4 q8 r7:Int)(q4:BA)(r9:Int)(w:World):Prop:=box w #[hY r4,hY q8,hY r7,hX q4,.int .u8 r9] aW λb1 u2=>box u2 #[hY 0,hY 0,hY 0,hX (hP #[]),.int .u8 0] aW λg p5=>aA v0 λa5=>∃O,p5.cell? (a5.add 3)=some (kT O)/\tk p5 λI=>∃q0,(∀w,(do eqGuard .neq bu (.tmp 13) (.const (kT none)) (kT O) (kT none);binOp .neq bu (kT O) (kT none)).run P w= .ok (hV q0) w)/\br q0 (aA O λa9=>aA O λa10=>∃e4,I.cell? (a9.add 1)=some (hY e4)/\∃e1,I.cell? (a10.add 1)=some (hY e1)/\callE P bl #[kT (kE b1),hY e4,hY e1,hV true] (λe y=>∃l5,e= hQ (hV l5)/\br l5 (∃e9,y.cell? (hZ b1 0)=some (hY e9)/\∃p1,y.cell? (hZ b1 1)=some (hY p1)/\∃e2,y.cell? (hZ b1 2)=some (hY e2)/\∃h4,y.cell? (hZ b1 3)=some (hX h4)/\∃g6,y.cell? (hZ b1 4)=some (.int .u8 g6)/\stV y (hZ g 0) (hY e9) λt4=>stV t4 (hZ g 1) (hY p1) λs2=>stV s2 (hZ g 2) (hY e2) λs7=>stV s7 (hZ g 3) (hX h4) λs6=>stV s6 (hZ g 4) (.int .u8 g6) λa6=>∃m2,a6.cell? (hZ g 0)=some (hY m2)/\∃i8,a6.cell? (hZ g 1)=some (hY i8)/\∃g2,a6.cell? (hZ g 2)=some (hY g2)/\∃i3,a6.cell? (hZ g 3)=some (hX i3)/\∃g3,a6.cell? (hZ g 4)=some (.int .u8 g3)/\R (hQ (.tuple #[.agg #[hY m2,hY i8,hY g2,hX i3,.int .u8 g3],hV true])) a6) (∃e6,(∀w,(do eqGuard .eql bu (.tmp 27) (.const (kT none)) (kT O) (kT none);binOp .eql bu (kT O) (kT none)).run P w= .ok (hV e6) w)/\br e6 (callE P cr #[kT (kE b1)] (λe H=>∃m1,e= hQ (hV m1)/\br m1 (∃f4,H.cell? (hZ b1 0)=some (hY f4)/\∃i0,H.cell? (hZ b1 1)=some (hY i0)/\∃g0,H.cell? (hZ b1 2)=some (hY g0)/\∃m4,H.cell? (hZ b1 3)=some (hX m4)/\∃h7,H.cell? (hZ b1 4)=some (.int .u8 h7)/\stV H (hZ g 0) (hY f4) λs8=>stV s8 (hZ g 1) (hY i0) λs9=>stV s9 (hZ g 2) (hY g0) λs3=>stV s3 (hZ g 3) (hX m4) λt7=>stV t7 (hZ g 4) (.int .u8 h7) λb4=>∃n2,b4.cell? (hZ g 0)=some (hY n2)/\∃f1,b4.cell? (hZ g 1)=some (hY f1)/\∃i1,b4.cell? (hZ g 2)=some (hY i1)/\∃k0,b4.cell? (hZ g 3)=some (hX k0)/\∃f5,b4.cell? (hZ g 4)=some (.int .u8 f5)/\R (hQ (.tuple #[.agg #[hY n2,hY f1,hY i1,hX k0,.int .u8 f5],hV true])) b4) (∃g7,H.cell? (hZ b1 0)=some (hY g7)/\∃h1,H.cell? (hZ b1 1)=some (hY h1)/\∃o0,H.cell? (hZ b1 2)=some (hY o0)/\∃h5,H.cell? (hZ b1 3)=some (hX h5)/\∃m5,H.cell? (hZ b1 4)=some (.int .u8 m5)/\stV H (hZ g 0) (hY g7) λu1=>stV u1 (hZ g 1) (hY h1) λs1=>stV s1 (hZ g 2) (hY o0) λt2=>stV t2 (hZ g 3) (hX h5) λt3=>stV t3 (hZ g 4) (.int .u8 m5) λa7=>∃f3,a7.cell? (hZ g 0)=some (hY f3)/\∃p3,a7.cell? (hZ g 1)=some (hY p3)/\∃f2,a7.cell? (hZ g 2)=some (hY f2)/\∃o3,a7.cell? (hZ g 3)=some (hX o3)/\∃j0,a7.cell? (hZ g 4)=some (.int .u8 j0)/\R (hQ (.tuple #[.agg #[hY f3,hY p3,hY f2,hX o3,.int .u8 j0],hV false])) a7)) y) (∃g1,y.cell? (hZ b1 0)=some (hY g1)/\∃e7,y.cell? (hZ b1 1)=some (hY e7)/\∃h3,y.cell? (hZ b1 2)=some (hY h3)/\∃e5,y.cell? (hZ b1 3)=some (hX e5)/\∃f0,y.cell? (hZ b1 4)=some (.int .u8 f0)/\stV y (hZ g 0) (hY g1) λs5=>stV s5 (hZ g 1) (hY e7) λt5=>stV t5 (hZ g 2) (hY h3) λt0=>stV t0 (hZ g 3) (hX e5) λt9=>stV t9 (hZ g 4) (.int .u8 f0) λW=>∃e8,W.cell? (hZ g 0)=some (hY e8)/\∃f6,W.cell? (hZ g 1)=some (hY f6)/\∃i2,W.cell? (hZ g 2)=some (hY i2)/\∃h6,W.cell? (hZ g 3)=some (hX h6)/\∃e3,W.cell? (hZ g 4)=some (.int .u8 e3)/\R (hQ (.tuple #[.agg #[hY e8,hY f6,hY i2,hX h6,.int .u8 e3],hV false])) W))) I) (∃g5,(∀w,(do eqGuard .eql bu (.tmp 27) (.const (kT none)) (kT O) (kT none);binOp .eql bu (kT O) (kT none)).run P w= .ok (hV g5) w)/\br g5 (callE P cr #[kT (kE b1)] (λe E=>∃o4,e= hQ (hV o4)/\br o4 (∃h2,E.cell? (hZ b1 0)=some (hY h2)/\∃o2,E.cell? (hZ b1 1)=some (hY o2)/\∃m3,E.cell? (hZ b1 2)=some (hY m3)/\∃h9,E.cell? (hZ b1 3)=some (hX h9)/\∃j1,E.cell? (hZ b1 4)=some (.int .u8 j1)/\stV E (hZ g 0) (hY h2) λt6=>stV t6 (hZ g 1) (hY o2) λs4=>stV s4 (hZ g 2) (hY m3) λt8=>stV t8 (hZ g 3) (hX h9) λu0=>stV u0 (hZ g 4) (.int .u8 j1) λb5=>∃p4,b5.cell? (hZ g 0)=some (hY p4)/\∃m8,b5.cell? (hZ g 1)=some (hY m8)/\∃h0,b5.cell? (hZ g 2)=some (hY h0)/\∃n3,b5.cell? (hZ g 3)=some (hX n3)/\∃m6,b5.cell? (hZ g 4)=some (.int .u8 m6)/\R (hQ (.tuple #[.agg #[hY p4,hY m8,hY h0,hX n3,.int .u8 m6],hV true])) b5) (∃n0,E.cell? (hZ b1 0)=some (hY n0)/\∃h8,E.cell? (hZ b1 1)=some (hY h8)/\∃g4,E.cell? (hZ b1 2)=some (hY g4)/\∃n1,E.cell? (hZ b1 3)=some (hX n1)/\∃b6,E.cell? (hZ b1 4)=some (.int .u8 b6)/\stV E (hZ g 0) (hY n0) λq1=>stV q1 (hZ g 1) (hY h8) λr5=>stV r5 (hZ g 2) (hY g4) λr6=>stV r6 (hZ g 3) (hX n1) λr1=>stV r1 (hZ g 4) (.int .u8 b6) λV=>∃c8,V.cell? (hZ g 0)=some (hY c8)/\∃d0,V.cell? (hZ g 1)=some (hY d0)/\∃c2,V.cell? (hZ g 2)=some (hY c2)/\∃c9,V.cell? (hZ g 3)=some (hX c9)/\∃d2,V.cell? (hZ g 4)=some (.int .u8 d2)/\R (hQ (.tuple #[.agg #[hY c8,hY d0,hY c2,hX c9,.int .u8 d2],hV false])) V)) I) (∃c1,I.cell? (hZ b1 0)=some (hY c1)/\∃e0,I.cell? (hZ b1 1)=some (hY e0)/\∃d1,I.cell? (hZ b1 2)=some (hY d1)/\∃b8,I.cell? (hZ b1 3)=some (hX b8)/\∃d3,I.cell? (hZ b1 4)=some (.int .u8 d3)/\stV I (hZ g 0) (hY c1) λq2=>stV q2 (hZ g 1) (hY e0) λq3=>stV q3 (hZ g 2) (hY d1) λr3=>stV r3 (hZ g 3) (hX b8) λq5=>stV q5 (hZ g 4) (.int .u8 d3) λU=>∃c3,U.cell? (hZ g 0)=some (hY c3)/\∃c4,U.cell? (hZ g 1)=some (hY c4)/\∃c5,U.cell? (hZ g 2)=some (hY c5)/\∃b7,U.cell? (hZ g 3)=some (hX b7)/\∃b9,U.cell? (hZ g 4)=some (.int .u8 b9)/\R (hQ (.tuple #[.agg #[hY c3,hY c4,hY c5,hX b7,.int .u8 b9],hV false])) U))
theorem gZ.sound {R x0 x1 x2_0 x2_1 x2_2 x2_3 x2_4 w}(h:gZ R x0 x1 x2_0 x2_1 x2_2 x2_3 x2_4 w):callE P gS #[kT x0,kT x1,.agg #[hY x2_0,hY x2_1,hY x2_2,hX x2_3,.int .u8 x2_4]] R w:=
 aH [(19,.dr (rpN [0,3,6,9,12,15,21,24,27,19,31,35,36,39,42,45,48,53,54,57]))] Tryz.func437 Tryz.call437 h

theorem tW {d:UInt8}(hd:cL d=false)(r:List UInt8): ∀m:List UInt8,∃g,(m++d::r).dropWhile cL=g++d::r
 | []=>⟨[],by simp[hd]⟩
 |x::m=>by
  rw[lQ0,lB3];split
  ·exact tW hd r m
  ·exact⟨x::m,rfl⟩
theorem Ln.hrGo_has {c d:UInt8}{r:List UInt8}: ∀(f n:Nat) (l:Ln),l.ok->l.sp=0->(∃m,l.text.drop l.i=m++d::r)->d≠c->cL d=false->l.hrGo c f n=false
 |0,_,_,_,_,_,_,_=>rfl
 |f+1,n,l,hl,hsp,⟨m,hm⟩,hdc,hd=>by
  cases m with
  |nil=>
   have h:l.has d r:=⟨hl,hsp,hm⟩;have:=h.lt;simp only[Ln.hrGo];rw[h.trimC,if_neg hdc];simp;omega
  |cons x m=>
   have h:l.has x (m++d::r):=⟨hl,hsp,by rw[hm];rfl⟩
   have a7:=h.lt;simp only[Ln.hrGo];rw[h.trimC]
   by_cases O:x=c
   ·rw[if_pos O];simp only;have W: ∃E g,m++d::r=E::g:=by cases m with|nil=>exact⟨_,_,rfl⟩|cons E g=>exact⟨_,_,rfl⟩
    obtain⟨E,g,I⟩:=W;have H:=(I▸h:l.has x (E::g)).next
    have U:({l with i:=l.i+1}:Ln).text.drop (l.i+1)=m++d::r:=by rw[I];exact H.tx
    have V:=Ln.skip_ok H.ok;refine Ln.hrGo_has (r:=r) f (n+1) _ V rfl ?_ hdc hd
    show∃a6,l.text.drop (({l with i:=l.i+1}:Ln).skip.i)=a6++d::r
    have e:l.text.drop (l.i+1)=m++d::r:=U
    have hi:({l with i:=l.i+1}:Ln).skip.i=l.text.length - ((m++d::r).dropWhile cL).length:=by
     simp only[Ln.skip,e]
    rw[hi,drop_suffix ((lT4 _).trans (e▸List.drop_suffix _ _))];exact tW hd r m
   ·rw[if_neg O];simp;omega

theorem callE.mono {f:FuncId}{g:Array Value}{R y:Ending->World->Prop}(h:callE P f g R w)(hr: ∀e w,R e w->y e w):callE P f g y w:=
 h.imp (λ⟨a,c⟩=>⟨a,c.mono hr⟩) λ⟨v,E,H,I⟩=>⟨v,E,H,hr _ _ I⟩
theorem qZ {b:Nat}{p:PS}{K:List ai}{t:TypeId}{v:Value}(h:Sat σ w (p.at b::K))(hd:0<=p.depth/\p.depth<1000000)(b4: ∀w,Sat σ w (p.at b::K)->callE P bj #[kT (kE b),hY (p.depth+1)] (λe w=>e= hQ (.tuple #[])/\ ∃(g:PS) (l:List OB) (M L:List ai),Stk g l M/\l.length<1048575/\Sat σ w (g.at b::M++L)/\
  ∀w (p':PS) y,p'= {g with stq:=p'.stq,stn:=l.length+1,stc:=p'.stc}->Stk p' (l++ [⟨.iface t v,none,0,0,g.lineno,g.lineno⟩]) y->Sat σ w (p'.at b::y++L)->R (hQ (.tuple #[])) w) w):
 callE P bQ #[kT (kE b),.iface t v] R w:=by
 refine eH.sound ?_
 repeat (first|refine aa ?_|refine h.tk λw h=>?_|refine⟨_,h.ldA,?_⟩|refine⟨_,_,_,h.ldA,?_⟩)
 rw[i64_in _ (by omega)];refine(b4 w h).mono λe w I=>⟨I.1,?_⟩
 obtain⟨_,g,l,M,L,hs,b5,h,a6⟩:=I;have a7:=hs.2.1
 repeat (first|refine aa ?_|refine h.tk λw h=>?_|refine⟨_,h.ldA,?_⟩|refine⟨_,_,_,h.ldA,?_⟩)
 have h:Sat σ w (M++(g.at b::L)):=h.re
 refine Sat.app1 rowOB hs.1 h (v:= .agg #[.nilIface,hT none 0 0,hY 0,hY 0]) rfl (by decide) (by kernel_rfl) (by omega) (by omega) (by decide) λb3 W w y H h=>?_
 have h:Sat σ w (g.at b::y++L):=h.re
 let p':PS:= {g with stq:=b3,stn:=l.length+1,stc:=W}
 rw[a7] at H⊢
 (first|refine aa ?_|refine h.tk λw h=>?_|refine⟨_,h.ldA,?_⟩|refine⟨_,_,_,h.ldA,?_⟩|refine h.stA 0 λw h=>?_|refine h.stA 1 λw h=>?_|refine h.stA 2 λw h=>?_|refine h.stA 3 λw h=>?_|refine h.stA 4 λw h=>?_|refine h.stA 5 λw h=>?_|refine h.stA 6 λw h=>?_|refine h.bx λb0 w h=>?_)
 (first|refine aa ?_|refine h.tk λw h=>?_|refine⟨_,h.ldA,?_⟩|refine⟨_,_,_,h.ldA,?_⟩|refine h.stA 0 λw h=>?_|refine h.stA 1 λw h=>?_|refine h.stA 2 λw h=>?_|refine h.stA 3 λw h=>?_|refine h.stA 4 λw h=>?_|refine h.stA 5 λw h=>?_|refine h.stA 6 λw h=>?_|refine h.bx λb0 w h=>?_)
 have h:Sat σ w (p'.at b::y++L):=h
 have U:Stk p' (l++ [⟨.nilIface,none,0,0,0,0⟩]) y:=by
  refine⟨?_,by simp[p'],by simp;omega⟩;rw[iN];exact H
 obtain⟨sb,sp,O,rfl,V⟩:=U.split (by simp)
 repeat (first|refine aa ?_|refine h.tk λw h=>?_|refine⟨_,h.ldA,?_⟩|refine⟨_,_,_,h.ldA,?_⟩)
 rw[show p'.stn=l.length+1 from rfl,ke (by omega)];refine⟨by omega,by omega,?_⟩;rw[O];refine aa ?_;dsimp only[Ct];simp only[lK0,lN0,lC0,lN1];have E: ∀(o:OB) (sp:List Value) f,f<4->l.length*4+f<(aP (l++ [o])++sp).length:=by
  intro o sp f b6;rw[lA0,aR,lA0,lE0];omega
 refine Sat.st h (k:=1) rfl (by have:=E ⟨.nilIface,none,0,0,0,0⟩ sp 0 (by decide);simpa using this) trivial rfl λw h=>?_
 have h:Sat σ w (p'.at b:: [(sb,cel (aP (l++ [⟨.iface t v,none,0,0,0,0⟩])++sp) ay)]++L):=by
  have e:=kS (l:=l) (sp:=sp) (o:=⟨.nilIface,none,0,0,0,0⟩) (o':=⟨.iface t v,none,0,0,0,0⟩) (f:=0) (v:= .iface t v) (by decide) rfl
  rw[lN1] at e;rw[e] at h;exact h
 repeat (first|refine aa ?_|refine h.tk λw h=>?_|refine⟨_,h.ldA,?_⟩|refine⟨_,_,_,h.ldA,?_⟩)
 refine Sat.st h (k:=1) rfl (E _ sp 2 (by decide)) trivial rfl λw h=>?_
 have h:Sat σ w (p'.at b:: [(sb,cel (aP (l++ [⟨.iface t v,none,0,0,g.lineno,0⟩])++sp) ay)]++L):=by
  have e:=kS (l:=l) (sp:=sp) (o:=⟨.iface t v,none,0,0,0,0⟩) (o':=⟨.iface t v,none,0,0,g.lineno,0⟩) (f:=2) (v:= hY g.lineno) (by decide) rfl
  have h:=h;rw[e] at h;exact h
 repeat (first|refine aa ?_|refine h.tk λw h=>?_|refine⟨_,h.ldA,?_⟩|refine⟨_,_,_,h.ldA,?_⟩)
 refine Sat.st h (k:=1) rfl (E _ sp 3 (by decide)) trivial rfl λw h=>?_
 have h:Sat σ w (p'.at b:: [(sb,cel (aP (l++ [⟨.iface t v,none,0,0,g.lineno,g.lineno⟩])++sp) ay)]++L):=by
  have e:=kS (l:=l) (sp:=sp) (o:=⟨.iface t v,none,0,0,g.lineno,0⟩) (o':=⟨.iface t v,none,0,0,g.lineno,g.lineno⟩) (f:=3) (v:= hY g.lineno) (by decide) rfl
  have h:=h;rw[e] at h;exact h
 refine a6 _ p' _ rfl ?_ h;refine Stk.mk' O ?_ (by simp[p']) (by simp;omega);rw[<-V,lA0,lA0,aR,aR,lA0,lA0];rfl

theorem kF {b d:Nat}{p:PS}{ob:List OB}{o o1:OB}{M:List ai}{t t1:TypeId}{v v1:Value}{l:Ln}(h:Sat σ w (p.at b::M++L))(hs:Stk p (ob++ [o]) M)(hd:p.depth=d)(b4:d<1000000)(a6:(ob++ [o])[d+1]? =some o1)(V:o1.bd= .iface t1 v1)(U:t1≠ar)(hb:o.bd= .iface t v)(hv:t=ar-> ∃q,v= kT q)(b6:l.ok)(a7: ∀w,Sat σ w (p.at b::M++L)->R (hQ (.tuple #[l.val,hV false])) w):callE P cg #[kT (kE b),l.val] R w:=by
 refine bL.sound ?_;refine Sat.bx h λb1 w h=>?_
 refine Sat.bx h λy w h=>?_
 refine Sat.bx h λg w h=>?_
 repeat (first|refine aa ?_|refine h.tk λw h=>?_|refine⟨_,h.ldA,?_⟩|refine⟨_,_,_,h.ldA,?_⟩|refine h.stA 0 λw h=>?_|refine h.stA 1 λw h=>?_|refine h.stA 2 λw h=>?_|refine h.stA 3 λw h=>?_|refine h.stA 4 λw h=>?_|refine h.stA 5 λw h=>?_|refine h.stA 6 λw h=>?_|refine h.bx λb0 w h=>?_)
 have h:Sat σ _ (l.at b0::(g,cel [hY 0] bg)::zLn y::l.at b1::(p.at b::M++L)):=h
 have h:Sat σ _ (p.at b::M++(l.at b0::(g,cel [hY 0] bg)::zLn y::l.at b1::L)):=h.re
 refine lT h hs hd (by omega) λw h=>?_
 rw[a6];refine⟨_,rfl,?_⟩;have fin: ∀(q:Option Addr) w,Sat σ w (p.at b::M++(l.at b0::(g,cel [hY 0] bg)::zLn y::l.at b1::L))-> ∃(E:Option Addr),hQ (.pointer q)= hQ (kT E)/\
  ∃(I:Bool),∃H,(do eqGuard .eql bO (.tmp 12) (.tmp 15) o1.bd (.iface ar (kT E));binOp .eql bO o1.bd (.iface ar (kT E))).run P w= .ok (hV I) H/\
  br I (callE P fi #[kT (kE b0),kT (kE g)] (λe W=> ∃(O:Bool),e= hQ (hV O)/\bL.k1 R (kE b) b1 y g O W) H) (bL.k1 R (kE b) b1 y g false H):=by
  intro q w h;refine⟨q,rfl,false,w,by rw[V];exact yu tr U _ _ w,ae rfl ?_⟩;have h:Sat σ _ (zLn y::l.at b1::(g,cel [hY 0] bg)::l.at b0::(p.at b::M++L)):=h.re
  refine ae rfl ?_
  repeat (first|refine aa ?_|refine h.tk λw h=>?_|refine⟨_,h.ldA,?_⟩|refine⟨_,_,_,h.ldA,?_⟩|refine h.stA 0 λw h=>?_|refine h.stA 1 λw h=>?_|refine h.stA 2 λw h=>?_|refine h.stA 3 λw h=>?_|refine h.stA 4 λw h=>?_|refine h.stA 5 λw h=>?_|refine h.stA 6 λw h=>?_|refine h.bx λb0 w h=>?_)
  have h:Sat σ _ (l.at y::l.at b1::(g,cel [hY 0] bg)::l.at b0::(p.at b::M++L)):=h
  exact a7 _ h.tail.tail.tail.tail
 refine qy h hs hb (λw h=>?_) hv
 by_cases ht:t=ar
 ·rw[if_pos ht];obtain⟨q,rfl⟩:=hv ht;exact fin q w h
 ·rw[if_neg ht];exact fin none w h
theorem AJ:P.underlying bu=some (.pointer g9):=by kernel_rfl
theorem xD {b b1 lb d:Nat}{num:Int}{lo:Bool}{it:Option Addr}{td:Value}{p:PS}{ob:List OB}{o:OB}{M:List ai}{l t:Ln}{c:UInt8}{U n:Nat}(h:Sat σ w (l.at b1::(p.at b::M++(cM lb c.toNat num lo it td::L))))(hs:Stk p ob M)(hd:p.depth=d)(a6:d<1000000)(V:ob[d+1]? =some o)(O:o.bd=BB lb)(a7:l.ok)(hb:pL l c U n t)(W: ∀w E y g I ib,Sat σ w (l.at b1::(p.at b::M++(cM lb c.toNat num lo it (ku E I g y)::(E,cel [kT (kE b)] ah)::t.at y::gM g lb::jf I ib::gc ib lb n (!t.blank)::L)))->R (hQ (hV true)) w):
 callE P bN #[kT (kE b),kT (kE b1)] R w:=by
 have ht:=hb.ok;refine hb.run h λw y E H t' h=>?_
 refine Sat.bx h λg w h=>?_
 refine⟨_,Sat.ld h (.tail _ (.tail _ (.head _))) (i:=0) rfl,?_⟩;have h:Sat σ w (p.at b::M++((g,cel [kT none] az)::cM lb c.toNat num lo it td::(E,cel [kT (kE b)] ah)::t.at y::t'.at H::l.at b1::L)):=h.re
 refine lT (d:=d) h hs hd (by omega) λw h=>⟨_,rfl,?_⟩
 rw[V];dsimp only;refine⟨kE lb,true,w,by rw[O];exact kC _ w,ag rfl ?_⟩;have h:Sat σ w ((g,cel [kT none] az)::cM lb c.toNat num lo it td::(E,cel [kT (kE b)] ah)::t.at y::(p.at b::M++(t'.at H::l.at b1::L))):=h.re
 refine h.stA 0 λw h=>?_
 have h:Sat σ w (gM g lb::cM lb c.toNat num lo it td::(E,cel [kT (kE b)] ah)::t.at y::(p.at b::M++(t'.at H::l.at b1::L))):=h
 refine⟨_,Sat.ld h (.head _) (i:=0) rfl,_,_,j8 mv _ w,ae rfl ?_⟩;refine⟨_,Sat.ld h (.head _) (i:=0) rfl,aa ?_⟩;refine⟨_,Sat.ld h (.tail _ (.head _)) (i:=0) rfl,?_⟩;rw[zf];refine ae (by simp) ?_;have h:Sat σ w (cM lb c.toNat num lo it td::t.at y::gM g lb::(p.at b::M++((E,cel [kT (kE b)] ah)::(t'.at H::l.at b1::L)))):=h.re
 refine pX h ht λw I ib h=>?_
 refine W w E y g I ib ?_;exact h.less [t'.at H]
theorem uH {b lb d:Nat}{num:Int}{lo:Bool}{it:Option Addr}{td:Value}{p:PS}{ob:List OB}{O o:OB}{M:List ai}{l t:Ln}{c:UInt8}{b4 n:Nat}{ty:TypeId}{v:Value}(h:Sat σ w (p.at b::M++(cM lb c.toNat num lo it td::L)))(hs:Stk p ob M)(hd:p.depth=d)(a7:d<1000000)(a6:ob[d]? =some O)(W:O.bd= .iface ty v)(U:ty≠az)(b5:ob[d+1]? =some o)(V:o.bd=BB lb)(b6:l.ok)(hb:pL l c b4 n t)(b7: ∀w H E y g ib,Sat σ w (p.at b::M++(cM lb c.toNat num lo it (ku H g y E)::(H,cel [kT (kE b)] ah)::t.at E::gM y lb::jf g ib::gc ib lb n (!t.blank)::L))->R (hQ (.tuple #[l.val,hV true])) w):
 callE P cm #[kT (kE b),l.val] R w:=by
 refine cN.sound ?_;refine Sat.bx h λb1 w h=>?_
 refine Sat.bx h λI w h=>?_
 have h:Sat σ w (zLn I::l.at b1::(p.at b::M++(cM lb c.toNat num lo it td::L))):=h
 have h:Sat σ w (p.at b::M++(zLn I::l.at b1::cM lb c.toNat num lo it td::L)):=h.re
 refine qq h hs hd λw h=>?_
 rw[a6];dsimp only;refine⟨_,rfl,none,false,w,by rw[W];exact gC U w,ae rfl (ae rfl ?_)⟩;have h:Sat σ w (l.at b1::(p.at b::M++(cM lb c.toNat num lo it td::(zLn I::L)))):=h.re
 refine xD h hs hd a7 b5 V b6 hb λw H E y g ib h=>⟨_,rfl,ag rfl ?_⟩
 have h:Sat σ w (zLn I::l.at b1::(p.at b::M++(cM lb c.toNat num lo it (ku H g y E)::(H,cel [kT (kE b)] ah)::t.at E::gM y lb::jf g ib::gc ib lb n (!t.blank)::L))):=h.re
 repeat (first|refine aa ?_|refine h.tk λw h=>?_|refine⟨_,h.ldA,?_⟩|refine⟨_,_,_,h.ldA,?_⟩|refine h.stA 0 λw h=>?_|refine h.stA 1 λw h=>?_|refine h.stA 2 λw h=>?_|refine h.stA 3 λw h=>?_|refine h.stA 4 λw h=>?_|refine h.stA 5 λw h=>?_|refine h.stA 6 λw h=>?_|refine h.bx λb0 w h=>?_)
 have h:Sat σ _ (l.at I::l.at b1::(p.at b::M++(cM lb c.toNat num lo it (ku H g y E)::(H,cel [kT (kE b)] ah)::t.at E::gM y lb::jf g ib::gc ib lb n (!t.blank)::L))):=h
 exact b7 _ H E y g ib h.tail.tail
def fm (b H E y g lb ib n:Nat)(hv:Bool)(t:Ln):List ai:= [(H,cel [kT (kE b)] ah),t.at E,gM y lb,jf g ib,gc ib lb n hv]
theorem F4 {b lb O I H E ib n:Nat}{bul num:Int}{hv:Bool}{p:PS}{gs:List Bk}{U:Bk}{rest:List Bk}{it:Option Addr}{lf:Leaf}{l t:Ln}{Post:PS->Bk->Prop}(h:DocC σ b (fm b O I H E lb ib n hv t++L) (gs++U::rest) lf p w)(c5:U.isListT lb bul num it (ku O E H I))(hd:p.depth=gs.length)(h0:gs.length<100000)(e0:p.lineno<1000000000)(g2: ∀(K:List ai) (e1:Ending->World->Prop) w,(∀x∈fm b O I H E lb ib n hv t++L,x∈K)->DocC σ b K (gs++U::rest) lf p w->(∀w (a6:PS) y c2,Post a6 y->a6.base=p.base->a6.lineno=p.lineno->a6.depth=p.depth->y.isListT lb bul num c2 (ku O E H I)->DocC σ b K (gs++ [y]) .none a6 w->e1 (hQ (.tuple #[])) w)->
  callE P bj #[kT (kE b),hY ((gs.length:Int)+1)] e1 w)(g0: ∀w (p':PS) a6 y c1 g,Post a6 y->p'.base=p.base->p'.lineno=p.lineno->p'.depth=p.depth->c1.isListT lb bul num (kE ib) .nilFunc->c1.ob=y.ob->c1.D=y.D->ItemOf (kE ib) g lb n hv->g.D= []->g.ob.s=p.lineno->g.ob.e=p.lineno->DocC σ b L (gs++ [c1,g]) .none p' w->R (hQ (.tuple #[t.val,hV true])) w):
 callE P cm #[kT (kE b),l.val] R w:=by
 have h2:=h;obtain⟨M,a7,c8,b6,hs,ht,d3,g1,h⟩:=h;have h1:=d3 U (by simp);refine cN.sound ?_;refine Sat.bx h λb1 w h=>?_
 refine Sat.bx h λV w h=>?_
 have e6:((gs++U::rest).map Bk.ob++c8)[gs.length]? =some U.ob:=by simp
 have e8:aM (gs++U::rest)=aM gs++(U.IM++(U.own++(cV U.D++txc U.D))++aM rest):=by
  rw[bh,show U::rest= [U]++rest from rfl,bh,dy]
 have h:Sat σ w (zLn V::l.at b1::(p.at b::M++(a7++(aM (gs++U::rest)++(b6++(fm b O I H E lb ib n hv t++L)))))):=h
 have h:Sat σ w (p.at b::M++(zLn V::l.at b1::(a7++(aM (gs++U::rest)++(b6++(fm b O I H E lb ib n hv t++L)))))):=h.re
 refine qq h hs hd λw h=>?_
 rw[e6];dsimp only;refine⟨_,rfl,kE lb,true,w,by rw[c5.1];exact kC _ w,ag rfl (aa ?_)⟩;obtain⟨_,_,_,e9⟩:=nH vz;have d2:cM lb bul num false it (ku O E H I)∈p.at b::M++(zLn V::l.at b1::(a7++(aM (gs++U::rest)++(b6++(fm b O I H E lb ib n hv t++L))))):=by rw[e8,c5.2];simp
 refine⟨_,Sat.ld h d2 (i:=4) rfl,true,w,mM e9 _ _ _ w,ag rfl (aa ?_)⟩;refine⟨_,Sat.ld h d2 (i:=4) rfl,?_⟩;refine gK ?_;refine dn.sound ?_;refine Sat.bx h λW w h=>?_
 have h:Sat σ w (zLn W::(p.at b::M++(zLn V::l.at b1::(a7++(aM (gs++U::rest)++(b6++(fm b O I H E lb ib n hv t++L))))))):=h
 have f2:(O,cel [kT (kE b)] ah)∈fm b O I H E lb ib n hv t:= .head _;have e5:jf E ib∈fm b O I H E lb ib n hv t:=by simp[fm]
 have g6:gM H lb∈fm b O I H E lb ib n hv t:=by simp[fm]
 refine⟨_,Sat.ld h (by simp[f2]:(O,cel [kT (kE b)] ah)∈_) (i:=0) rfl,_,Sat.ld h (by simp[e5]:jf E ib∈_) (i:=0) rfl,?_⟩
 let c4:List ai:=zLn W::zLn V::l.at b1::(fm b O I H E lb ib n hv t++L)
 have h:Sat σ w (p.at b::(M++(a7++(aM (gs++U::rest)++(b6++c4))))):=by
  show Sat σ w (p.at b::(M++(a7++(aM (gs++U::rest)++(b6++(zLn W::zLn V::l.at b1::(fm b O I H E lb ib n hv t++L)))))))
  exact h.re
 refine qZ h (by omega) λw h=>?_
 have f3:DocC σ b c4 (gs++U::rest) lf p w:=⟨M,a7,c8,b6,hs,ht,d3,g1,h⟩
 rw[hd];refine g2 c4 _ w (λx f6=> .tail _ (.tail _ (.tail _ f6))) f3 λw a6 y c2 e3 f0 d0 f1 d1 g3=>⟨rfl,?_⟩
 obtain⟨g4,b8,g5,g7,f4,f5,c9,⟨rfl,rfl⟩,h⟩:=g3;have e7:=c9 y (by simp);rw[bh,dy,d1.2] at h;refine⟨a6,(gs++ [y]).map Bk.ob++ [],g4,_,f4,by simp;omega,h,λw p' b9 b7 c3 h=>⟨rfl,?_⟩⟩;have h:Sat σ w (cM lb bul num false c2 (ku O E H I)::zLn W::t.at I::zLn V::l.at b1::gM H lb::jf E ib::(p'.at b::b9++(b8++(aM gs++(y.IM++(cV y.D++(txc y.D++((O,cel [kT (kE b)] ah)::gc ib lb n hv::L)))))))):=by
  have h:Sat σ w (p'.at b::b9++(b8++(aM gs++(y.IM++([cM lb bul num false c2 (ku O E H I)]++(cV y.D++txc y.D)))++([]++(zLn W::zLn V::l.at b1::((O,cel [kT (kE b)] ah)::t.at I::gM H lb::jf E ib::gc ib lb n hv::L)))))):=h
  exact h.re
 refine⟨_,Sat.ld h (by simp:gM H lb∈_) (i:=0) rfl,_,Sat.ld h (by simp:jf E ib∈_) (i:=0) rfl,aa ?_⟩;generalize e2:(p'.at b::b9++(b8++(aM gs++(y.IM++(cV y.D++(txc y.D++((O,cel [kT (kE b)] ah)::gc ib lb n hv::L)))))))=KK at h;refine h.stA 0 λw h=>?_
 have h:Sat σ w (t.at I::zLn W::cM lb bul num false (kE ib) (ku O E H I)::zLn V::l.at b1::gM H lb::jf E ib::KK):=by
  have h:Sat σ w (cM lb bul num false (kE ib) (ku O E H I)::zLn W::t.at I::zLn V::l.at b1::gM H lb::jf E ib::KK):=h
  exact h.re
 refine⟨_,h.ldA,?_⟩;refine⟨_,h.ldA,?_⟩;refine⟨_,h.ldA,?_⟩;refine⟨_,h.ldA,?_⟩;refine⟨_,h.ldA,?_⟩;refine h.stA 1 λw h=>?_
 refine h.stA 1 λw h=>?_
 refine h.stA 1 λw h=>?_
 refine h.stA 1 λw h=>?_
 refine h.stA 1 λw h=>?_
 have h:Sat σ w (t.at I::t.at W::cM lb bul num false (kE ib) (ku O E H I)::zLn V::l.at b1::gM H lb::jf E ib::KK):=h
 have h:Sat σ w (t.at W::l.at b1::cM lb bul num false (kE ib) (ku O E H I)::zLn V::t.at I::gM H lb::jf E ib::KK):=h.re
 refine⟨_,h.ldA,?_⟩;refine⟨_,h.ldA,?_⟩;refine⟨_,h.ldA,?_⟩;refine⟨_,h.ldA,?_⟩;refine⟨_,h.ldA,?_⟩;refine⟨_,_,_,_,_,rfl,?_⟩;refine h.stA 1 λw h=>?_
 refine h.stA 1 λw h=>?_
 refine h.stA 1 λw h=>?_
 refine h.stA 1 λw h=>?_
 refine h.stA 1 λw h=>?_
 have h:Sat σ w (t.at W::t.at b1::cM lb bul num false (kE ib) (ku O E H I)::zLn V::t.at I::gM H lb::jf E ib::KK):=h
 refine aa ?_;refine Sat.st h (k:=2) rfl (by simp[cM]) trivial rfl λw h=>?_
 have h:Sat σ w (t.at b1::zLn V::cM lb bul num false (kE ib) .nilFunc::t.at W::t.at I::gM H lb::jf E ib::KK):=by
  have h:Sat σ w (t.at W::t.at b1::cM lb bul num false (kE ib) .nilFunc::zLn V::t.at I::gM H lb::jf E ib::KK):=h
  exact h.re
 refine⟨_,h.ldA,?_⟩;refine⟨_,h.ldA,?_⟩;refine⟨_,h.ldA,?_⟩;refine⟨_,h.ldA,?_⟩;refine⟨_,h.ldA,?_⟩;refine h.stA 1 λw h=>?_
 refine h.stA 1 λw h=>?_
 refine h.stA 1 λw h=>?_
 refine h.stA 1 λw h=>?_
 refine h.stA 1 λw h=>?_
 have h:Sat σ w (t.at b1::t.at V::cM lb bul num false (kE ib) .nilFunc::t.at W::t.at I::gM H lb::jf E ib::KK):=h
 have h:Sat σ w (t.at V::t.at b1::cM lb bul num false (kE ib) .nilFunc::t.at W::t.at I::gM H lb::jf E ib::KK):=h.re
 refine⟨_,h.ldA,?_⟩;refine⟨_,h.ldA,?_⟩;refine⟨_,h.ldA,?_⟩;refine⟨_,h.ldA,?_⟩;refine⟨_,h.ldA,?_⟩;subst e2;have e4:(gs++ [y]).map Bk.ob++ []=(gs++ [y]).map Bk.ob:=lG0 _;rw[e4] at c3;refine g0 _ p' a6 y ⟨y.ob,[cM lb bul num false (kE ib) .nilFunc],y.D,y.IM⟩ ⟨⟨CU ib,none,0,0,p.lineno,p.lineno⟩,[gc ib lb n hv],[],[]⟩ e3 (by rw[b7,<-f0];rfl) (by rw[b7];exact d0) (by rw[b7];exact f1.trans rfl) ⟨d1.1,rfl⟩ rfl rfl ⟨ib,rfl,rfl,rfl⟩ rfl rfl rfl ?_;refine⟨b9,b8,[],[],?_,?_,?_,⟨rfl,rfl⟩,?_⟩
 ·rw[lG0];rw[d0] at c3;have e:(gs++ [(⟨y.ob,[cM lb bul num false (kE ib) .nilFunc],y.D,y.IM⟩:Bk),⟨⟨CU ib,none,0,0,p.lineno,p.lineno⟩,[gc ib lb n hv],[],[]⟩]).map Bk.ob=(gs++ [y]).map Bk.ob++ [⟨CU ib,none,0,0,p.lineno,p.lineno⟩]:=by simp
  rw[e];exact c3
 ·have e:txF (gs++ [(⟨y.ob,[cM lb bul num false (kE ib) .nilFunc],y.D,y.IM⟩:Bk),⟨⟨CU ib,none,0,0,p.lineno,p.lineno⟩,[gc ib lb n hv],[],[]⟩])=txF (gs++ [y]):=by
   rw[bE,bE,dH,ul]
   show txF gs++(cj y.D++ [])=_
   rw[lG0]
  rw[e];exact f5.of (by rw[b7]) (by rw[b7]) (by rw[b7])
 ·intro g b4;rcases lO0.1 b4 with b4|b4
  ·exact c9 g (by simp[b4])
  ·rcases lX0.1 b4 with rfl|b4
   ·exact e7
   ·obtain rfl:=lR0.1 b4;exact⟨Sl.nil 1 aO,by simp,e0,e0⟩
 ·rw[bh gs,jB]
  show Sat σ _ (_::b9++(b8++(aM gs++((y.IM++([cM lb bul num false (kE ib) .nilFunc]++(cV y.D++txc y.D)))++([]++([gc ib lb n hv]++([]++ []))))++([]++L))))
  exact h.less [t.at V,t.at b1,t.at W,t.at I,gM H lb,jf E ib,(O,cel [kT (kE b)] ah)]

theorem gj:mO P az "pub-paratext/pub/rscmarkdown.extend" gS=true:=by kernel_rfl
theorem ka:mO P bu "pub-paratext/pub/rscmarkdown.extend" eZ=true:=by kernel_rfl
theorem u4 {X:OA->Nat->WP}(b6: ∀H O w,aj.bl1 R X H O w->X H O w){b b1 j:Nat}{p:PS}{ob:List OB}{o:OB}{M:List ai}{l l2:Ln}{ok:Bool}(h:Sat σ w (l.at b1::(p.at b::M++L)))(hs:Stk p ob M)(hd:p.depth=j)(c4:j<1000000)(U:ob[j+1]? =some o)(b9:l.ok)(b4: ∀(I:Ending->World->Prop) b0 w,Sat σ w (l.at b0::l.at b1::(p.at b::M++L))->(∀w,Sat σ w (l.at b0::l.at b1::(p.at b::M++L))->I (hQ (.tuple #[l2.val,hV ok])) w)->cW P (callMethod o.bd "pub-paratext/pub/rscmarkdown.extend" #[kT (kE b),l.val]) I w)
 (b3:l.blank=true\/(ok=false/\l2=l))
 (a7:ok=true-> ∀w,Sat σ w (l2.at b1::(({p with depth:=(j:Int)+1}:PS).at b::M++L))->X (kE b) b1 w)
 (V:ok=false-> ∀w,Sat σ w (l2.at b1::(p.at b::M++L))->aj.k2 R (kE b) b1 w):X (kE b) b1 w:=by
 have y:=(lL0.1 U).1;have c3:=hs.2.2;have E:=hs.2.1;have c1:=hs;obtain⟨sb,sp,b8,b5,c2⟩:=hs.split (by intro b7;rw[b7] at y;simp at y);refine b6 _ _ _ ?_;have h:Sat σ w (l.at b1::p.at b::(M++L)):=h
 refine Sat.tk h λw h=>aa (aa ?_)
 refine⟨_,Sat.ld h (.tail _ (.head _)) (i:=5) rfl,_,_,_,Sat.ld h (.tail _ (.head _)) (i:=4) rfl,?_⟩;rw[hd,i64_in _ (by omega),E];refine ag (by simp;omega) ?_;refine⟨_,h.ldA,?_⟩;refine⟨_,h.ldA,?_⟩;refine⟨_,h.ldA,?_⟩;refine⟨_,h.ldA,?_⟩;refine⟨_,h.ldA,?_⟩;refine Sat.bx h λb0 w h=>?_
 refine h.stA 0 λw h=>?_
 refine h.stA 0 λw h=>?_
 refine h.stA 0 λw h=>?_
 refine h.stA 0 λw h=>?_
 refine h.stA 0 λw h=>?_
 have h:Sat σ w (l.at b0::l.at b1::p.at b::(M++L)):=h
 refine Sat.tk h λw h=>aa (aa ?_)
 refine⟨_,_,_,Sat.ld h (.tail _ (.tail _ (.head _))) (i:=4) rfl,_,Sat.ld h (.tail _ (.tail _ (.head _))) (i:=5) rfl,?_⟩;rw[hd,i64_in _ (by omega),E,b8];refine⟨by omega,by omega,aa ?_⟩;have a6:((j:Int)+1).toNat=j+1:=by omega
 rw[a6];simp only[lK0,lN0];have W:(sb,cel (aP ob++sp) ay)∈(l.at b0::l.at b1::p.at b::(M++L)):=by rw[b5];simp
 refine⟨o.bd,Sat.ld h W (fe (j:=j+1) (f:=0) (by decide) U),?_⟩;have g:l.at b1∈(l.at b0::l.at b1::p.at b::(M++L)):= .tail _ (.head _)
 refine⟨_,Sat.ld h g (i:=0) rfl,_,Sat.ld h g (i:=1) rfl,_,Sat.ld h g (i:=2) rfl,_,Sat.ld h g (i:=3) rfl,_,Sat.ld h g (i:=4) rfl,?_⟩;refine b4 _ b0 w h λw h=>⟨_,_,_,_,_,_,rfl,?_⟩
 have h:Sat σ w (l.at b0::l.at b1::(p.at b::M++L)):=h
 refine h.stA 1 λw h=>?_
 refine h.stA 1 λw h=>?_
 refine h.stA 1 λw h=>?_
 refine h.stA 1 λw h=>?_
 refine h.stA 1 λw h=>?_
 have h:Sat σ w (l.at b0::l2.at b1::(p.at b::M++L)):=h
 refine dC h (.head _) b9 λw h=>⟨_,rfl,?_⟩
 have fin: ∀w,Sat σ w (l.at b0::l2.at b1::(p.at b::M++L))->aj.k1 R X (kE b) b1 ok false w:=by
  intro w h;refine ae rfl ?_;cases ok with
  |true=>
   refine ae rfl (aa ?_);have h:Sat σ w (l.at b0::l2.at b1::p.at b::(M++L)):=h
   refine⟨_,Sat.ld h (.tail _ (.tail _ (.head _))) (i:=5) rfl,aa ?_⟩;rw[hd,i64_in _ (by omega)];refine Sat.st h (k:=2) rfl (by simp[PS.cells]) trivial rfl λw h=>?_
   have h:Sat σ w (l.at b0::l2.at b1::(({p with depth:=(j:Int)+1}:PS).at b::M++L)):=h
   exact a7 rfl w h.tail
  |false=>exact ag rfl (V rfl w h.tail)
 cases hb:l.blank with
 |true=>exact ae rfl (fin w h)
 |false=>
  refine ag rfl ?_;obtain⟨rfl,rfl⟩:=b3.resolve_left (by rw[hb];decide);refine ae rfl ?_;refine⟨_,h.ldA,?_⟩;refine⟨_,h.ldA,?_⟩;refine⟨_,h.ldA,?_⟩;refine⟨_,h.ldA,?_⟩;refine⟨_,h.ldA,?_⟩;refine⟨_,h.ldA,?_⟩;refine⟨_,h.ldA,?_⟩;refine⟨_,h.ldA,?_⟩;refine⟨_,h.ldA,?_⟩;refine⟨_,h.ldA,?_⟩;exact⟨_,_,Dt l2 _ _ w,fin w h⟩
theorem lx {lb ib n:Nat}{q:Option Addr}{bul num:Int}{lo hv:Bool}{td:Value}{l l2:Ln}{ok:Bool}(h:Sat σ w L)(O:l.ok)(U:n<1000000)(I:cM lb bul num lo (kE ib) td∈L)(H:gc ib lb n hv∈L)(ht:match l.trimSp n n true with|some y=>l2=y/\ok=true|none=>l2=l/\ok=false)(E: ∀w,Sat σ w L->R (hQ (.tuple #[l2.val,hV ok])) w):
 callE P gS #[kT (kE lb),kT q,l.val] R w:=by
 refine gZ.sound ?_;refine Sat.bx h λb1 w h=>?_
 refine Sat.bx h λg w h=>?_
 have h:Sat σ w (zLn g::l.at b1::L):=h
 refine aa ⟨_,Sat.ld h (.tail _ (.tail _ I)) (i:=3) rfl,?_⟩;refine Sat.tk h λw h=>⟨_,λw=>dN AJ _ w,ag rfl (aa (aa ?_))⟩
 refine⟨_,Sat.ld h (.tail _ (.tail _ H)) (i:=1) rfl,_,Sat.ld h (.tail _ (.tail _ H)) (i:=1) rfl,?_⟩;have h:Sat σ w (l.at b1::zLn g::L):=h.re
 refine YtendaipfdnhnaaaGreatDoor.trimSp_ok (min:=n) (max:=n) h O (by omega) (by omega) ?_;cases hs:l.trimSp n n true with
 |some y=>
  rw[hs] at ht;obtain⟨rfl,rfl⟩:=ht;intro w h;refine⟨_,rfl,ag rfl ?_⟩;refine⟨_,h.ldA,?_⟩;refine⟨_,h.ldA,?_⟩;refine⟨_,h.ldA,?_⟩;refine⟨_,h.ldA,?_⟩;refine⟨_,h.ldA,?_⟩;refine h.stA 1 λw h=>?_
  refine h.stA 1 λw h=>?_
  refine h.stA 1 λw h=>?_
  refine h.stA 1 λw h=>?_
  refine h.stA 1 λw h=>?_
  have h:Sat σ w (l2.at b1::l2.at g::L):=h
  have h:Sat σ w (l2.at g::l2.at b1::L):=h.re
  refine⟨_,h.ldA,?_⟩;refine⟨_,h.ldA,?_⟩;refine⟨_,h.ldA,?_⟩;refine⟨_,h.ldA,?_⟩;refine⟨_,h.ldA,?_⟩;exact E _ h.tail.tail
 |none=>
  rw[hs] at ht;obtain⟨rfl,rfl⟩:=ht;intro w h;refine⟨_,rfl,ae rfl ⟨_,λw=>j8 AJ _ w,ae rfl ?_⟩⟩;refine⟨_,h.ldA,?_⟩;refine⟨_,h.ldA,?_⟩;refine⟨_,h.ldA,?_⟩;refine⟨_,h.ldA,?_⟩;refine⟨_,h.ldA,?_⟩;refine h.stA 1 λw h=>?_
  refine h.stA 1 λw h=>?_
  refine h.stA 1 λw h=>?_
  refine h.stA 1 λw h=>?_
  refine h.stA 1 λw h=>?_
  have h:Sat σ w (l2.at b1::l2.at g::L):=h
  have h:Sat σ w (l2.at g::l2.at b1::L):=h.re
  refine⟨_,h.ldA,?_⟩;refine⟨_,h.ldA,?_⟩;refine⟨_,h.ldA,?_⟩;refine⟨_,h.ldA,?_⟩;refine⟨_,h.ldA,?_⟩;exact E _ h.tail.tail
theorem pm {ib lb n:Nat}{q:Option Addr}{l:Ln}(h:Sat σ w L)(y:l.ok)(hb:l.blank=true)(H:gc ib lb n true∈L)(E: ∀w,Sat σ w L->R (hQ (.tuple #[Ln.zero.val,hV true])) w):
 callE P eZ #[kT (kE ib),kT q,l.val] R w:=by
 refine bY.sound ?_;refine Sat.bx h λb1 w h=>?_
 refine Sat.bx h λg w h=>?_
 have h:Sat σ w (zLn g::l.at b1::L):=h
 refine dC h (.tail _ (.head _)) y λw h=>⟨_,rfl,?_⟩
 rw[hb];refine ag rfl (aa ⟨_,Sat.ld h (.tail _ (.tail _ H)) (i:=2) rfl,ae rfl ?_⟩);refine dC h (.tail _ (.head _)) y λw h=>⟨_,rfl,?_⟩
 rw[hb];refine ag rfl ?_;refine h.stA 0 λw h=>?_
 refine h.stA 0 λw h=>?_
 refine h.stA 0 λw h=>?_
 refine h.stA 0 λw h=>?_
 refine h.stA 0 λw h=>?_
 have h:Sat σ w (zLn g::l.at b1::L):=h
 refine⟨_,h.ldA,?_⟩;refine⟨_,h.ldA,?_⟩;refine⟨_,h.ldA,?_⟩;refine⟨_,h.ldA,?_⟩;refine⟨_,h.ldA,?_⟩;exact E _ h.tail.tail
theorem vE {b k:Nat}{fs:List Bk}{lf:Leaf}{p:PS}(h:DocC σ b L fs lf p w)(W:k<=fs.length)(H: ∀X:OA->Int->WP,(∀E y w,aG.bl1 R X E y w->X E y w)->X (kE b) (k:Int) w):callE P bj #[kT (kE b),hY (k:Int)] R w:=by
 obtain⟨M,V,I,U,hs,ht,O,a6,h⟩:=h;have g:=hs.2.1;rw[lA0,lS0] at g;refine aG.sound ?_;refine aa ?_;refine⟨_,_,_,h.ldA,?_⟩;rw[g];exact ae (by simp;omega) H
theorem vF {X:OA->Int->WP}{b k:Nat}{fs:List Bk}{p:PS}(I: ∀E y w,aG.bl1 R X E y w->X E y w)(h:DocC σ b L fs .none p w)(a6:fs.length=k)(H:R (hQ (.tuple #[])) w):X (kE b) (k:Int) w:=by
 obtain⟨M,W,O,V,hs,ht,U,⟨rfl,rfl⟩,h⟩:=h;have g:=hs.2.1;rw[lG0,lS0] at g;refine I _ _ _ (aa ?_);refine⟨_,_,_,h.ldA,?_⟩;rw[g];exact ae (by simp;omega) H

def OB.setE (o:OB)(m:Nat):OB:= {o with e:=m}
theorem D4 {g:Type}{l:List g}{j:Nat}{o:g}(E:l[j]? =some o): ∃a c,l=a++o::c/\a.length=j:=by
 obtain⟨y,H⟩:=lL0.1 E;refine⟨l.take j,l.drop (j+1),?_,by simp;omega⟩;rw[<-H,<-lG1 y,lT1]
theorem uu {ob:List OB}{sp:List Value}{j m:Nat}{o:OB}(I:ob[j]? =some o):(aP ob++sp).set (j*4+3) (hY (m:Nat))=aP (ob.set j (o.setE m))++sp:=by
 obtain⟨a,c,rfl,rfl⟩:=D4 I;have E: ∀x g:List OB,aP (x++g)=aP x++aP g:=by intro x g;simp[aP]
 have H: ∀x:OB,∀g:List OB,aP (x::g)=x.cells++aP g:=by intro x g;simp[aP]
 rw[lO1 _ _ (lZ0 _),lV1,List.set_cons_zero,E,E,H,H,lD0,lO1 _ _ (by rw[aR];omega),aR,show a.length*4+3 - a.length*4=3 by omega,
  lD0,lD0,lD0]
 congr 1
theorem Stk.setE {p:PS}{ob:List OB}{sb:Nat}{sp:List Value}{j m:Nat}{o:OB}(y:p.stq=kE sb)(H:p.stn=ob.length)(E:ob.length<1048576)(g:(aP ob++sp).length=p.stc*4)(I:ob[j]? =some o):
 Stk p (ob.set j (o.setE m)) [(sb,cel (aP (ob.set j (o.setE m))++sp) ay)]:=by
 refine Stk.mk' y ?_ (by rw[lZ4];exact H) (by rw[lZ4];exact E);rw[<-g,lA0,lA0,aR,aR,lZ4]
theorem Cc {X:OA->Nat->WP}(b9: ∀a6 b3 w,aj.bl1 R X a6 b3 w->X a6 b3 w){b b1 j:Nat}{p:PS}{ob:List OB}{o:OB}{M:List ai}{l l2:Ln}(h:Sat σ w (l.at b1::(p.at b::M++L)))(hs:Stk p ob M)(hd:p.depth=j)(c4:j<1000000)(H:ob[j+1]? =some o)(c2:l.ok)(hb:l.blank=false)(b8: ∀(a7:Ending->World->Prop) b0 w,Sat σ w (l.at b0::l.at b1::(p.at b::M++L))->(∀w,Sat σ w (l.at b0::l.at b1::(p.at b::M++L))->a7 (hQ (.tuple #[l2.val,hV true])) w)->cW P (callMethod o.bd "pub-paratext/pub/rscmarkdown.extend" #[kT (kE b),l.val]) a7 w)
 (b5: ∀w V,Stk ({p with depth:=(j:Int)+1}:PS) (ob.set (j+1) (o.setE p.lineno)) V->Sat σ w (l2.at b1::(({p with depth:=(j:Int)+1}:PS).at b::V++L))->X (kE b) b1 w):X (kE b) b1 w:=by
 have U:=(lL0.1 H).1;have b7:=hs.2.2;have E:=hs.2.1;have c3:=hs;obtain⟨sb,sp,I,W,b6⟩:=hs.split (by intro c1;rw[c1] at U;simp at U);refine b9 _ _ _ ?_;have h:Sat σ w (l.at b1::p.at b::(M++L)):=h
 refine Sat.tk h λw h=>aa (aa ?_)
 refine⟨_,Sat.ld h (.tail _ (.head _)) (i:=5) rfl,_,_,_,Sat.ld h (.tail _ (.head _)) (i:=4) rfl,?_⟩;rw[hd,i64_in _ (by omega),E];refine ag (by simp;omega) ?_;refine⟨_,h.ldA,?_⟩;refine⟨_,h.ldA,?_⟩;refine⟨_,h.ldA,?_⟩;refine⟨_,h.ldA,?_⟩;refine⟨_,h.ldA,?_⟩;refine Sat.bx h λb0 w h=>?_
 refine h.stA 0 λw h=>?_
 refine h.stA 0 λw h=>?_
 refine h.stA 0 λw h=>?_
 refine h.stA 0 λw h=>?_
 refine h.stA 0 λw h=>?_
 have h:Sat σ w (l.at b0::l.at b1::p.at b::(M++L)):=h
 refine Sat.tk h λw h=>aa (aa ?_)
 refine⟨_,_,_,Sat.ld h (.tail _ (.tail _ (.head _))) (i:=4) rfl,_,Sat.ld h (.tail _ (.tail _ (.head _))) (i:=5) rfl,?_⟩;rw[hd,i64_in _ (by omega),E,I];refine⟨by omega,by omega,aa ?_⟩;have O:((j:Int)+1).toNat=j+1:=by omega
 rw[O];simp only[lK0,lN0];have b4:(sb,cel (aP ob++sp) ay)∈(l.at b0::l.at b1::p.at b::(M++L)):=by rw[W];simp
 refine⟨o.bd,Sat.ld h b4 (fe (j:=j+1) (f:=0) (by decide) H),?_⟩;have g:l.at b1∈(l.at b0::l.at b1::p.at b::(M++L)):= .tail _ (.head _)
 refine⟨_,Sat.ld h g (i:=0) rfl,_,Sat.ld h g (i:=1) rfl,_,Sat.ld h g (i:=2) rfl,_,Sat.ld h g (i:=3) rfl,_,Sat.ld h g (i:=4) rfl,?_⟩;refine b8 _ b0 w h λw h=>⟨_,_,_,_,_,_,rfl,?_⟩
 have h:Sat σ w (l.at b0::l.at b1::(p.at b::M++L)):=h
 refine h.stA 1 λw h=>?_
 refine h.stA 1 λw h=>?_
 refine h.stA 1 λw h=>?_
 refine h.stA 1 λw h=>?_
 refine h.stA 1 λw h=>?_
 have h:Sat σ w (l.at b0::l2.at b1::(p.at b::M++L)):=h
 refine dC h (.head _) c2 λw h=>⟨_,rfl,?_⟩
 rw[hb];refine ag rfl (ag rfl ?_);unfold aj.k1;have h:Sat σ w (l.at b0::l2.at b1::p.at b::(M++L)):=h
 refine ag rfl (h.tk λw h=>aa (aa (aa ?_)));have y:p.at b∈(l.at b0::l2.at b1::p.at b::(M++L)):= .tail _ (.tail _ (.head _))
 refine⟨_,_,_,Sat.ld h y (i:=4) rfl,_,Sat.ld h y (i:=5) rfl,_,Sat.ld h y (i:=3) rfl,?_⟩;rw[hd,i64_in _ (by omega),E,I];refine⟨by omega,by omega,aa ?_⟩;rw[O];simp only[lK0,lN0,lN1];have h:Sat σ w ((sb,cel (aP ob++sp) ay)::l.at b0::l2.at b1::p.at b::L):=by
  rw[W] at h;exact h.re
 refine Sat.st h (k:=0) rfl (by rw[lA0,aR];omega) trivial rfl λw h=>?_
 rw[uu H] at h;have h:Sat σ w ((sb,cel (aP (ob.set (j+1) (o.setE p.lineno))++sp) ay)::l.at b0::l2.at b1::p.at b::L):=h
 refine ae rfl (aa ?_);have y:p.at b∈((sb,cel (aP (ob.set (j+1) (o.setE p.lineno))++sp) ay)::l.at b0::l2.at b1::p.at b::L):= .tail _ (.tail _ (.tail _ (.head _)))
 refine⟨_,Sat.ld h y (i:=5) rfl,aa ?_⟩;rw[hd,i64_in _ (by omega)];refine Sat.st h (k:=3) rfl (by simp[PS.cells]) trivial rfl λw h=>?_
 have h:Sat σ w ((sb,cel (aP (ob.set (j+1) (o.setE p.lineno))++sp) ay)::l.at b0::l2.at b1::({p with depth:=(j:Int)+1}:PS).at b::L):=h
 refine b5 w [(sb,cel (aP (ob.set (j+1) (o.setE p.lineno))++sp) ay)] (Stk.setE I E b7 b6 H) ?_;exact h.less [l.at b0]
theorem uF {b pb g d:Nat}{op:Opt}{p:PS}{fs:List OB}{o:OB}{M b6:List ai}{ls:List (List UInt8)}{l:Ln}(h:Sat σ w (p.at b::M++(b6++L)))(hs:Stk p (fs++ [o]) M)(c8:o.bd= .iface ar (kT (kE g)))(hd:p.depth=d)(f3:d<=fs.length)(b9:p.pz=kE pb)(c9:op.at pb∈L)(e4:op.table=false)(a7:q9 g ls b6)(f2:ls.length<1048570)(f0:l.ok)(e5: ∀w a6 I,Stk p ((fs++ [o]).take d++((fs++ [o]).drop d).map (·.setE p.lineno)) a6->q9 g (ls++ [l.rest]) I->Sat σ w (p.at b::a6++(I++L))->R (hQ (.tuple #[Ln.zero.val,hV true])) w):
 callE P pr #[kT (kE b),l.val] R w:=by
 have O:p.stn=fs.length+1:=by rw[hs.2.1];simp
 have d0:=hs.2.2;rw[lA0,lE0] at d0;obtain⟨sb,sp,b5,rfl,c5⟩:=hs.split (by simp);have c2:=a7;obtain⟨q,c,E,f4,rfl⟩:=a7;refine dX.sound ?_;refine Sat.bx h λb1 w h=>?_
 refine Sat.bx h λy w h=>?_
 have h:Sat σ w (zLn y::l.at b1::(p.at b:: [(sb,cel (aP (fs++ [o])++sp) ay)]++(((g,cel [hT q ls.length c,kT none] aL)::E)++L))):=h
 have h:Sat σ w (p.at b:: [(sb,cel (aP (fs++ [o])++sp) ay)]++(zLn y::l.at b1::(((g,cel [hT q ls.length c,kT none] aL)::E)++L))):=h.re
 refine qy (l:=fs) h hs (o:=o) c8 (λw h=>?_) (λ_=>⟨_,rfl⟩);rw[if_pos rfl];refine⟨_,rfl,?_⟩
 repeat (first|refine aa ?_|refine h.tk λw h=>?_|refine⟨_,h.ldA,?_⟩|refine⟨_,_,_,h.ldA,?_⟩)
 have f1:l.at b1∈p.at b:: [(sb,cel (aP (fs++ [o])++sp) ay)]++(zLn y::l.at b1::(((g,cel [hT q ls.length c,kT none] aL)::E)++L)):=by simp
 refine kA h f1 f0 λw h=>⟨_,rfl,?_⟩
 rw[show (l.text.drop l.i).dropWhile cL=l.rest from rfl];refine⟨_,w,jd kw _ _ _ w,ag rfl (aa ?_)⟩;simp only[lK0,lN0];have c4:(g,cel [hT q ls.length c,kT none] aL)∈p.at b:: [(sb,cel (aP (fs++ [o])++sp) ay)]++(zLn y::l.at b1::(((g,cel [hT q ls.length c,kT none] aL)::E)++L)):=by simp
 refine⟨_,Sat.ld h c4 rfl,_,w,jd vy _ _ _ w,ae rfl ?_⟩;unfold dX.k3;refine Sat.tk h λw h=>?_
 refine aa ⟨_,Sat.ld h (.head _) rfl,?_⟩;rw[b9];refine aa ?_;simp only[lK0,lN0];have d1:op.at pb∈p.at b:: [(sb,cel (aP (fs++ [o])++sp) ay)]++(zLn y::l.at b1::(((g,cel [hT q ls.length c,kT none] aL)::E)++L)):=by simp[c9]
 refine⟨op.table,Sat.ld h d1 rfl,ae e4 ?_⟩;unfold dX.k4;refine ae rfl ⟨_,w,jd kw _ _ _ w,ag rfl (aa ?_)⟩;simp only[lK0,lN0];refine⟨_,Sat.ld h (.head _) (i:=5) rfl,?_⟩;rw[hd];intro X b4;have d2: ∀(k i:Nat) w,i+k=fs.length+1->d<=i->Sat σ w ((sb,cel (aP ((fs++ [o]).take d++(((fs++ [o]).drop d).take (i - d)).map (·.setE p.lineno)++(fs++ [o]).drop i)++sp) ay)::p.at b::(zLn y::l.at b1::(((g,cel [hT q ls.length c,kT none] aL)::E)++L)))->
  X (kE b) y (kE g) (bs l.rest) (i:Nat) w:=by
  intro k
  induction k with
  |zero=>
   intro i w hi c1 h;refine b4 _ _ _ _ _ _ (aa ?_);refine⟨_,_,_,Sat.ld h (.tail _ (.head _)) (i:=4) rfl,?_⟩;rw[O];refine ae (by simp;omega) ?_;have H:(fs++ [o]).drop i= []:=lA2 (by simp;omega);have e6:((fs++ [o]).drop d).take (i - d)=(fs++ [o]).drop d:=lB2 (by simp;omega);rw[H,e6,lG0] at h;have h:Sat σ w (zLn y::((g,cel [hT q ls.length c,kT none] aL)::E)++(p.at b::(sb,cel (aP ((fs++ [o]).take d++((fs++ [o]).drop d).map (·.setE p.lineno))++sp) ay)::(l.at b1::L))):=h.re
   refine rS h c2 (by omega) λw I c3 h=>?_
   have V:((fs++ [o]).take d++((fs++ [o]).drop d).map (·.setE p.lineno)).length=fs.length+1:=by
    rw[lA0,lS0,<-lA0,lT1];simp
   refine e5 w [(sb,cel (aP ((fs++ [o]).take d++((fs++ [o]).drop d).map (·.setE p.lineno))++sp) ay)] I (Stk.mk' b5 ?_ (by rw[O,V]) (by rw[V];omega)) c3 (h.less [l.at b1]);rw[<-c5,lA0,lA0,aR,aR,V];simp
  |succ k e7=>
   intro i w hi c1 h;have W:i<(fs++ [o]).length:=by simp;omega
   have H:=lG1 W;have U:((fs++ [o]).take d++(((fs++ [o]).drop d).take (i - d)).map (·.setE p.lineno)).length=i:=by
    simp only[lA0,lS0,lB1,lL1] at W⊢;omega
   refine b4 _ _ _ _ _ _ (aa ?_);refine⟨_,_,_,Sat.ld h (.tail _ (.head _)) (i:=4) rfl,?_⟩;rw[O];refine ag (by simp;omega) (h.tk λw h=>aa (aa ?_));refine⟨_,_,_,Sat.ld h (.tail _ (.head _)) (i:=4) rfl,_,Sat.ld h (.tail _ (.head _)) (i:=3) rfl,?_⟩;rw[O,b5];refine⟨by omega,by omega,aa ?_⟩;simp only[lK0,lN0,lN1,lC0];have b7:((fs++ [o]).take d++(((fs++ [o]).drop d).take (i - d)).map (·.setE p.lineno)++(fs++ [o]).drop i)[i]? =some (fs++ [o])[i]:=by
    rw[lH0 (by omega),U,lV1,H];rfl
   refine Sat.st h (k:=0) rfl (by rw[lA0,aR,lA0,U,H,lF0];omega) trivial rfl λw h=>?_
   rw[uu b7] at h;have b8:((fs++ [o]).take d++(((fs++ [o]).drop d).take (i - d)).map (·.setE p.lineno)++(fs++ [o]).drop i).set i ((fs++ [o])[i].setE p.lineno)=(fs++ [o]).take d++(((fs++ [o]).drop d).take (i+1 - d)).map (·.setE p.lineno)++(fs++ [o]).drop (i+1):=by
    rw[lO1 _ _ (by omega),U,lV1,H,List.set_cons_zero];have d3:i - d<((fs++ [o]).drop d).length:=by rw[lL1];omega
    have e8:((fs++ [o]).drop d).take (i+1 - d)=((fs++ [o]).drop d).take (i - d)++ [(fs++ [o])[i]]:=by
     rw[show i+1 - d=i - d+1 by omega,lF1 d3];congr 2;rw[List.getElem_drop];congr 1;omega
    rw[e8,lV0];simp
   rw[b8] at h;rw[aN (by omega)];exact e7 (i+1) w (by omega) (by omega) h
 have e9:(fs++ [o]).take d++(((fs++ [o]).drop d).take (d - d)).map (·.setE p.lineno)++(fs++ [o]).drop d=fs++ [o]:=by rw[lV1];simp
 refine d2 (fs.length+1 - d) d w (by omega) (lZ0 _) ?_;rw[e9];exact h.re

theorem sub_self (s:List UInt8)(i:Nat):sub s i i= []:=lA2 (by rw[lB1];omega)

def mark1 (x:Bool):List UInt8:=if x then [45,32] else [62,32]
def marks (s:List Bool):List UInt8:=s.flatMap mark1

theorem rX {b d H:Nat}{p:PS}{fs:List OB}{o:OB}{M:List ai}{l:Ln}(h:Sat σ w (p.at b::M++L))(hs:Stk p (fs++ [o]) M)(I:o.bd= .iface ar (kT (kE H)))(hd:p.depth=d)(U:d+1=fs.length)(E:l.cont)(W: ∀w,Sat σ w (p.at b::M++L)->R (hQ (.tuple #[l.val,hV false])) w):callE P cg #[kT (kE b),l.val] R w:=by
 have V:=hs.2.2;rw[lA0,lE0] at V;refine bL.sound ?_;refine Sat.bx h λb1 w h=>?_
 refine Sat.bx h λg w h=>?_
 refine Sat.bx h λy w h=>?_
 repeat (first|refine aa ?_|refine h.tk λw h=>?_|refine⟨_,h.ldA,?_⟩|refine⟨_,_,_,h.ldA,?_⟩|refine h.stA 0 λw h=>?_|refine h.stA 1 λw h=>?_|refine h.stA 2 λw h=>?_|refine h.stA 3 λw h=>?_|refine h.stA 4 λw h=>?_|refine h.stA 5 λw h=>?_|refine h.stA 6 λw h=>?_|refine h.bx λb0 w h=>?_)
 have h:Sat σ _ (l.at b0::(y,cel [hY 0] bg)::zLn g::l.at b1::(p.at b::M++L)):=h
 have h:Sat σ _ (p.at b::M++(l.at b0::(y,cel [hY 0] bg)::zLn g::l.at b1::L)):=h.re
 refine lT (d:=d) h hs hd (by omega) λw h=>?_
 have O:(fs++ [o])[d+1]? =some o:=by rw[U];simp
 rw[O];dsimp only;rw[I];refine⟨_,rfl,?_⟩;refine qy (l:=fs) h hs (o:=o) I (λw h=>?_) (λ_=>⟨_,rfl⟩);rw[if_pos rfl];refine⟨_,rfl,_,w,qR H _ _ w,ag rfl ?_⟩;have h:Sat σ _ (l.at b0::(y,cel [hY 0] bg)::(zLn g::l.at b1::(p.at b::M++L))):=h.re
 refine uo h E.plain.ok E.dash E.eq λw h=>⟨_,rfl,ae rfl ?_⟩
 have h:Sat σ _ (zLn g::l.at b1::(y,cel [hY 0] bg)::l.at b0::(p.at b::M++L)):=h.re
 repeat (first|refine aa ?_|refine h.tk λw h=>?_|refine⟨_,h.ldA,?_⟩|refine⟨_,_,_,h.ldA,?_⟩|refine h.stA 0 λw h=>?_|refine h.stA 1 λw h=>?_|refine h.stA 2 λw h=>?_|refine h.stA 3 λw h=>?_|refine h.stA 4 λw h=>?_|refine h.stA 5 λw h=>?_|refine h.stA 6 λw h=>?_|refine h.bx λb0 w h=>?_)
 have h:Sat σ _ (l.at g::l.at b1::(y,cel [hY 0] bg)::l.at b0::(p.at b::M++L)):=h
 exact W _ h.tail.tail.tail.tail
theorem Af {b d b5:Nat}{p:PS}{fs:List OB}{o O:OB}{M:List ai}{l:Ln}{td:TypeId}{vd:Value}(hs:Stk p (fs++ [o]) M)(H:o.bd= .iface ar (kT (kE b5)))(hd:p.depth=d)(b9:d<1000000)(a6:d<fs.length)(a7:fs[d]? =some O)(W:O.bd= .iface td vd)(V:td≠az)(b4: ∀o1,fs[d+1]? =some o1-> ∃t v,o1.bd= .iface t v/\t≠ar)(I:l.cont): ∀f∈newsF,AD b p M l f:=by
 have b3:=hs.2.2;rw[lA0,lE0] at b3;intro f U;have g:=I.plain;simp only[newsF,lX0,lJ1,or_false] at U;intro σ w L R h y;rcases U with rfl|rfl|rfl|rfl|rfl|rfl|rfl|rfl
 ·exact ip (x:= .nilIface) h g.ok g.quote y
 ·exact lw h g.ok g.heading y
 ·by_cases b7:d+1=fs.length
  ·exact rX h hs H hd b7 I y
  ·have E:d+1<fs.length:=by omega
   obtain⟨t,v,b6,b8⟩:=b4 _ (lI0 E);exact kF (ob:=fs) (o:=o) (o1:=fs[d+1]) (t1:=t) (v1:=v) h hs hd (by omega) (by rw[lM0 E];exact lI0 E) b6 b8 H (λ_=>⟨_,rfl⟩) g.ok y
 ·exact rx h g.ok g.hr y
 ·exact g.bullet b d p (fs++ [o]) O M td vd hs hd (by rw[lM0 a6];exact a7) W V σ w L R h y
 ·exact nE h g.ok I.lt y
 ·exact rY h g.ok g.fence y
 ·exact we (ob:=fs) h hs (o:=o) H (λ_=>⟨_,rfl⟩) g.ok g.pre y
def Bk.sim (f g:Bk):Prop:=(∃m,g.ob=f.ob.setE m)/\g.own=f.own/\g.D=f.D/\g.IM=f.IM/\g.ob.e<1000000000
inductive Sims:List Bk->List Bk->Prop where
 |nil:Sims [] []
 |cons {f f':Bk} {fs fs':List Bk}:f.sim f'->Sims fs fs'->Sims (f::fs) (f'::fs')
theorem Bk.sim.rfl' {f:Bk}(h:f.ob.e<1000000000):f.sim f:=⟨⟨f.ob.e,rfl⟩,rfl,rfl,rfl,h⟩
theorem Bk.sim.trans {f y k:Bk}(H:f.sim y)(O:y.sim k):f.sim k:=by
 obtain⟨⟨W,a1⟩,a2,a3,a4,a5⟩:=H;obtain⟨⟨U,b1⟩,b2,E,I,V⟩:=O;exact⟨⟨U,by rw[b1,a1];rfl⟩,b2.trans a2,E.trans a3,I.trans a4,V⟩
theorem Sims.refl: ∀ {fs:List Bk},(∀f∈fs,f.ob.e<1000000000)->Sims fs fs
 | [],_=> .nil
 |f::fs,h=> .cons (Bk.sim.rfl' (h f (by simp))) (Sims.refl λE y=>h E (by simp[y]))
theorem Sims.trans {fs gs g:List Bk}(H:Sims fs gs):Sims gs g->Sims fs g:=by
 induction H generalizing g with
 |nil=>exact λh=>h
 |cons a _ E=>
  intro y;cases y with
  |cons b d=>exact .cons (a.trans b) (E d)
theorem Sims.len {fs gs:List Bk}(h:Sims fs gs):gs.length=fs.length:=by
 induction h with
 |nil=>rfl
 |cons _ _ g=>simp[g]
theorem Sims.append {fs gs g y:List Bk}(h:Sims fs gs)(E:Sims g y):Sims (fs++g) (gs++y):=by
 induction h with
 |nil=>exact E
 |cons a _ H=>exact .cons a H
theorem Sims.mem {fs gs:List Bk}(h:Sims fs gs):aM gs=aM fs/\txF gs=txF fs:=by
 induction h with
 |nil=>exact⟨rfl,rfl⟩
 | @cons f f' fs fs' a _ ih=>
  obtain⟨_,a2,a3,a4,_⟩:=a;refine⟨?_,?_⟩
  ·have e: ∀(y:Bk) (l:List Bk),aM (y::l)=y.mem++aM l:=λy l=>by simp[aM]
   rw[e,e,ih.1,Bk.mem,Bk.mem,a2,a3,a4]
  ·have e: ∀(y:Bk) (l:List Bk),txF (y::l)=cj y.D++txF l:=λy l=>by simp[txF]
   rw[e,e,ih.2,a3]
theorem Bk.sim.ok {f g:Bk}(h:f.sim g)(H:f.ok):g.ok:=by
 obtain⟨⟨m,a1⟩,a2,a3,a4,a5⟩:=h;obtain⟨o1,E,y,I⟩:=H;refine⟨?_,by rw[a3];exact E,by rw[a1];exact y,a5⟩;rw[a1,a3,a4];exact o1
theorem Sims.ok {fs gs:List Bk}(h:Sims fs gs)(E: ∀f∈fs,f.ok): ∀f∈gs,f.ok:=by
 induction h with
 |nil=>simp
 |cons a _ H=>
  intro O y;rcases lX0.1 y with rfl|y
  ·exact a.ok (E _ (by simp))
  ·exact H (λf I=>E f (by simp[I])) O y
theorem Bk.sim.quote {f g:Bk}(h:f.sim g)(H:f.isQuote):g.isQuote:=by
 obtain⟨⟨m,a1⟩,a2,_⟩:=h;obtain⟨y,E,I⟩:=H;exact⟨y,by rw[a1];exact E,a2.trans I⟩
theorem Bk.sim.list {f g:Bk}{lb:Nat}{bul num:Int}{it:OA}{td:Value}(h:f.sim g)(y:f.isListT lb bul num it td):g.isListT lb bul num it td:=by
 obtain⟨⟨m,a1⟩,a2,_⟩:=h;obtain⟨H,E⟩:=y;exact⟨by rw[a1];exact H,a2.trans E⟩
theorem Bk.sim.itemOf {f g:Bk}{lb wd:Nat}{it:OA}{hv:Bool}(h:f.sim g)(E:ItemOf it f lb wd hv):ItemOf it g lb wd hv:=by
 obtain⟨⟨m,a1⟩,a2,_⟩:=h;obtain⟨ib,y,I,H⟩:=E;exact⟨ib,y,by rw[a1];exact I,a2.trans H⟩

theorem mh:mO P gz "pub-paratext/pub/rscmarkdown.extend" gk=true:=by kernel_rfl
theorem rP {c8 c4:OA}{l l2:Ln}{ok:Bool}(h:Sat σ w L)(c9:l.ok)(E:match l.quote with|some b8=>l2=b8/\ok=true|none=>l2=l/\ok=false)(c5: ∀w,Sat σ w L->R (hQ (.tuple #[l2.val,hV ok])) w):
 callE P gk #[kT c8,kT c4,l.val] R w:=by
 refine gp.sound ?_;refine Sat.bx h λb1 w h=>?_
 refine Sat.bx h λg w h=>?_
 have h:Sat σ w (zLn g::l.at b1::L):=h
 refine⟨_,h.ldA,?_⟩;refine⟨_,h.ldA,?_⟩;refine⟨_,h.ldA,?_⟩;refine⟨_,h.ldA,?_⟩;refine⟨_,h.ldA,?_⟩;have fin: ∀w,Sat σ w (zLn g::l.at b1::L)-> ∃(O:Int),∃(U:Int),∃(V:Int),∃(I:BA),∃(H:Int),∃(W:Bool),(hQ (.tuple #[l2.val,hV ok]))= hQ (.tuple #[.agg #[hY O,hY U,hY V,hX I,.int .u8 H],hV W])/\
  stV w (hZ g 0) (hY O) λb9=>stV b9 (hZ g 1) (hY U) λc3=>stV c3 (hZ g 2) (hY V) λc1=>stV c1 (hZ g 3) (hX I) λc2=>stV c2 (hZ g 4) (.int .u8 H) λy=>
  ∃(a7:Int),y.cell? (hZ g 0)=some (hY a7)/\ ∃(b6:Int),y.cell? (hZ g 1)=some (hY b6)/\ ∃(b4:Int),y.cell? (hZ g 2)=some (hY b4)/\ ∃(b5:BA),y.cell? (hZ g 3)=some (hX b5)/\ ∃(a6:Int),y.cell? (hZ g 4)=some (.int .u8 a6)/\
  R (hQ (.tuple #[.agg #[hY a7,hY b6,hY b4,hX b5,.int .u8 a6],hV W])) y:=by
  intro w h;refine⟨_,_,_,_,_,_,rfl,?_⟩;refine h.stA 0 λw h=>?_
  refine h.stA 0 λw h=>?_
  refine h.stA 0 λw h=>?_
  refine h.stA 0 λw h=>?_
  refine h.stA 0 λw h=>?_
  have h:Sat σ w (l2.at g::l.at b1::L):=h
  refine⟨_,h.ldA,?_⟩;refine⟨_,h.ldA,?_⟩;refine⟨_,h.ldA,?_⟩;refine⟨_,h.ldA,?_⟩;refine⟨_,h.ldA,?_⟩;exact c5 w h.tail.tail
 refine mH (l:=l) h c9 ?_;cases b7:l.quote with
 |some b8=>
  rw[b7] at E;obtain⟨rfl,rfl⟩:=E;exact fin
 |none=>
  rw[b7] at E;obtain⟨rfl,rfl⟩:=E;exact fin
theorem ww {ib lb n:Nat}{q:OA}{l:Ln}(h:Sat σ w L)(y:l.ok)(hb:l.blank=false)(H:gc ib lb n true∈L)(E: ∀w,Sat σ w L->R (hQ (.tuple #[l.val,hV true])) w):
 callE P eZ #[kT (kE ib),kT q,l.val] R w:=by
 obtain⟨A,B,rfl⟩:=lS3 H;refine bY.sound ?_;refine Sat.bx h λb1 w h=>?_
 refine Sat.bx h λg w h=>?_
 have h:Sat σ w (zLn g::l.at b1::(A++gc ib lb n true::B)):=h
 refine dC h (.tail _ (.head _)) y λw h=>⟨_,rfl,?_⟩
 rw[hb];refine ae rfl ?_;unfold bY.k1;refine dC h (.tail _ (.head _)) y λw h=>⟨_,rfl,?_⟩
 rw[hb];refine ae rfl ?_;refine dC h (.tail _ (.head _)) y λw h=>⟨_,rfl,?_⟩
 rw[hb];refine ag rfl (aa ?_);have h:Sat σ w (gc ib lb n true::zLn g::l.at b1::(A++B)):=h.re
 refine Sat.st h (k:=0) rfl (by show 2<3;decide) trivial rfl λw h=>?_
 have h:Sat σ w (gc ib lb n true::zLn g::l.at b1::(A++B)):=h
 have h:Sat σ w (zLn g::l.at b1::(A++gc ib lb n true::B)):=h.re
 refine⟨_,h.ldA,?_⟩;refine⟨_,h.ldA,?_⟩;refine⟨_,h.ldA,?_⟩;refine⟨_,h.ldA,?_⟩;refine⟨_,h.ldA,?_⟩;refine h.stA 0 λw h=>?_
 refine h.stA 0 λw h=>?_
 refine h.stA 0 λw h=>?_
 refine h.stA 0 λw h=>?_
 refine h.stA 0 λw h=>?_
 have h:Sat σ w (l.at g::l.at b1::(A++gc ib lb n true::B)):=h
 refine⟨_,h.ldA,?_⟩;refine⟨_,h.ldA,?_⟩;refine⟨_,h.ldA,?_⟩;refine⟨_,h.ldA,?_⟩;refine⟨_,h.ldA,?_⟩;exact E w h.tail.tail

theorem ux {a:List Bk}: ∀ {c fs:List Bk},Sims (a++c) fs-> ∃y g,fs=y++g/\Sims a y/\Sims c g:=by
 induction a with
 |nil=>intro c fs h;exact⟨[],fs,rfl,.nil,h⟩
 |cons x a I=>
  intro c fs h;cases h with
  |cons k O=>
   obtain⟨y,g,rfl,H,E⟩:=I O;exact⟨_::y,g,rfl,.cons k H,E⟩
def ni (R:EP)(c9 b9:Bool)(c2 c8:Bool)(c4 c5:Bool)(c3 d0:Bool)(d1 c1:Bool)(e4:BA)(w:World):Prop:=box w #[hV c9,hV b9,hV c2,hV c8,hV c4,hV c5,hV c3,hV d0,hV d1,hV c1] fa λb1 e3=>box e3 (N16.C {}) al λb4 g=>∃a7,g.cell? (hZ b1 0)=some (hV a7)/\∃b6,g.cell? (hZ b1 1)=some (hV b6)/\∃b7,g.cell? (hZ b1 2)=some (hV b7)/\∃b5,g.cell? (hZ b1 3)=some (hV b5)/\∃b8,g.cell? (hZ b1 4)=some (hV b8)/\∃a6,g.cell? (hZ b1 5)=some (hV a6)/\∃H,g.cell? (hZ b1 6)=some (hV H)/\∃y,g.cell? (hZ b1 7)=some (hV y)/\∃I,g.cell? (hZ b1 8)=some (hV I)/\∃O,g.cell? (hZ b1 9)=some (hV O)/\callE P l6 #[.agg #[hV a7,hV b6,hV b7,hV b5,hV b8,hV a6,hV H,hV y,hV I,hV O]] (λe e1=>∃U,e= hQ (kT U)/\callE P ow #[kT U,hX e4] (λe e0=>∃E,e= hQ (kT E)/\callE P bR #[.iface cY (kT E)] (λe e2=>FR e λd3=>st16 e2 b4 d3 λW=>ldB16 W b4 λd2=>R (hQ (d2.V)) W) e0) e1) g
theorem ni.sound {R x0_0 x0_1 x0_2 x0_3 x0_4 x0_5 x0_6 x0_7 x0_8 x0_9 x1 w}(h:ni R x0_0 x0_1 x0_2 x0_3 x0_4 x0_5 x0_6 x0_7 x0_8 x0_9 x1 w):callE P mX #[.agg #[hV x0_0,hV x0_1,hV x0_2,hV x0_3,hV x0_4,hV x0_5,hV x0_6,hV x0_7,hV x0_8,hV x0_9],hX x1] R w:=
 cC Tryz.func14 Tryz.call14 h
def sD (R:EP)(y:OA)(w:World):Prop:=aA y λa1=>∃g,w.cell? (a1.add 3)=some (hY g)/\R (hQ (hY g)) w
theorem sD.sound {R x0 w}(h:sD R x0 w):callE P wG #[kT x0] R w:=
 cC Tryz.func49 Tryz.call49 h
namespace ci
def bl1 (R:EP)(Xa:Nat->Nat->Value->WP)(a6 W:Nat)(U:Value)(w:World):Prop:=(∃g,(Instr.next U false ty_).run P w= .ok (.tuple #[hV false]) g/\∃H y E,g.cell? (hZ W 15)=some (hT H y E)/\callE P df #[hT H y E,.func (.func tg) #[] #[]] (λe O=>e= hQ (.tuple #[])/\ldB16 O W λb6=>st16 O a6 b6 λI=>ldB16 I a6 λb4=>R (hQ (b4.V)) I) g)\/ (∃(b3:Value),∃(a7:Value),∃b5,(Instr.next U false ty_).run P w= .ok (.tuple #[hV true,b3,a7]) b5/\False)
def l1 (R:EP)(E y:Nat)(g:Value)(w:World):Prop:=∀X:Nat->Nat->Value->WP,(∀E y g w,bl1 R X E y g w->X E y g w)->X E y g w
def k1 (R:EP)(g y:Nat)(b5:OA)(U:Bool)(w:World):Prop:=br U (aA b5 λb3=>∃I,w.cell? (b3.add 3)=some (hY I)/\stV w (hZ y 3) (hY I) λH=>ldB16 H y λa6=>st16 H g a6 λE=>ldB16 E g λb4=>R (hQ (b4.V)) E) (ldB16 w y λW=>st16 w g W λO=>ldB16 O g λa7=>R (hQ (a7.V)) O)
end ci
def ci (R:EP)(y:Value)(w:World):Prop:=box w (N16.C {}) al λb1 I4=>cW P (callMethod y "Pos" #[]) (λe I3=>∃v0 u2,e= hQ (.agg #[hY v0,hY u2])/\box I3 #[hY 0,hY 0] aF λd1 I5=>stV I5 (hZ d1 0) (hY v0) λI2=>stV I2 (hZ d1 1) (hY u2) λe7=>∃w1,e7.cell? (hZ d1 0)=some (hY w1)/\∃v5,e7.cell? (hZ d1 1)=some (hY v5)/\box e7 (N16.C {}) al λg H5=>st16 H5 g {a8:=w1,a9:=v5} λH3=>∃d3 g4 c9,(Instr.typeAssert y aO cY true).run P H3= .ok (.tuple #[kT d3,hV g4]) c9/\br g4 (aA d3 λH2=>∃t0 r8 r4,c9.cell? (H2.add 2)=some (hT t0 r8 r4)/\callE P gI #[hT t0 r8 r4] (λe I1=>∃r7 q2 p5,e= hQ (hT r7 q2 p5)/\stV I1 (hZ g 0) (hY 1) λH6=>stV H6 (hZ g 7) (hT r7 q2 p5) λv8=>aA d3 λH9=>∃(v6:Option Nat),v8.cell? (H9.add 3)=some (.map v6)/\∃(v4:Value),∃v3,(Instr.range gN (.map v6)).run P v8= .ok v4 v3/\ci.l1 R b1 g v4 v3) c9) (∃h1 n1 d0,(Instr.typeAssert y aO jX true).run P c9= .ok (.tuple #[kT h1,hV n1]) d0/\br n1 (aA h1 λH8=>∃u0 s3 r5,d0.cell? (H8.add 2)=some (hT u0 s3 r5)/\callE P gI #[hT u0 s3 r5] (λe H4=>∃s5 t7 q4,e= hQ (hT s5 t7 q4)/\stV H4 (hZ g 0) (hY 2) λH7=>stV H7 (hZ g 7) (hT s5 t7 q4) λv7=>ldB16 v7 g λH1=>st16 v7 b1 H1 λv2=>ldB16 v2 b1 λI0=>R (hQ (I0.V)) v2) d0) (∃E i0 e6,(Instr.typeAssert y aO dk true).run P d0= .ok (.tuple #[kT E,hV i0]) e6/\br i0 (tk e6 λO=>aA E λc1=>aA E λa7=>aA E λy1=>∃t5,O.cell? (c1.add 2)=some (.int .i32 t5)/\∃o2,O.cell? (a7.add 4)=some (hV o2)/\∃j0 l5 i3,O.cell? (y1.add 5)=some (hT j0 l5 i3)/\callE P gI #[hT j0 l5 i3] (λe U=>∃g6 n2 g2,e= hQ (hT g6 n2 g2)/\SameC O U (a7.add 4) 1/\SameC O U (c1.add 2) 1/\stV U (hZ g 0) (hY 3) λa6=>SameC U a6 (a7.add 4) 1/\SameC U a6 (c1.add 2) 1/\stV a6 (hZ g 3) (hY (-1)) λc8=>SameC a6 c8 (a7.add 4) 1/\SameC a6 c8 (c1.add 2) 1/\stV c8 (hZ g 4) (hX (Utf8.encode t5)) λt3=>SameC c8 t3 (a7.add 4) 1/\stV t3 (hZ g 5) (hV o2) λG4=>stV G4 (hZ g 7) (hT g6 n2 g2) λc5=>aA E λz1=>∃p4,c5.cell? (z1.add 2)=some (.int .i32 p4)/\br (p4==46) (ci.k1 R b1 g E true c5) (aA E λz4=>∃u8,c5.cell? (z4.add 2)=some (.int .i32 u8)/\ci.k1 R b1 g E (u8==41) c5)) O) (∃d2 f0 e4,(Instr.typeAssert y aO fG true).run P e6= .ok (.tuple #[kT d2,hV f0]) e4/\br f0 (tk e4 λe3=>aA d2 λt4=>∃h7 g7 h5,e3.cell? (t4.add 2)=some (hT h7 g7 h5)/\callE P wG #[kT d2] (λe r3=>∃o3,e= hQ (hY o3)/\SameC e3 r3 (t4.add 2) 1/\callE P gI #[hT h7 g7 h5] (λe x6=>∃g1 i8 m4,e= hQ (hT g1 i8 m4)/\stV x6 (hZ g 0) (hY 4) λy5=>stV y5 (hZ g 11) (hY o3) λG8=>stV G8 (hZ g 7) (hT g1 i8 m4) λp3=>ldB16 p3 g λD2=>st16 p3 b1 D2 λq1=>ldB16 q1 b1 λG7=>R (hQ (G7.V)) q1) r3) e3) (∃b7 f6 e1,(Instr.typeAssert y aO gd true).run P e4= .ok (.tuple #[kT b7,hV f6]) e1/\br f6 (tk e1 λH=>aA b7 λe0=>aA b7 λc4=>aA b7 λx5=>∃o4,H.cell? (e0.add 2)=some (hY o4)/\∃s2,H.cell? (c4.add 4)=some (hX s2)/\∃s8,H.cell? (x5.add 3)=some (kT s8)/\aA s8 λx4=>∃m2 g5 j1,H.cell? (x4.add 2)=some (hT m2 g5 j1)/\callE P dv #[hT m2 g5 j1] (λe W=>∃m3 h2 m1,e= hQ (hT m3 h2 m1)/\SameC H W (c4.add 4) 1/\SameC H W (e0.add 2) 1/\stV W (hZ g 0) (hY 5) λb9=>SameC W b9 (c4.add 4) 1/\SameC W b9 (e0.add 2) 1/\stV b9 (hZ g 3) (hY o4) λr6=>SameC b9 r6 (c4.add 4) 1/\stV r6 (hZ g 2) (hX s2) λy3=>stV y3 (hZ g 7) (hT m3 h2 m1) λu1=>ldB16 u1 g λw5=>st16 u1 b1 w5 λs4=>ldB16 s4 b1 λx7=>R (hQ (x7.V)) s4) H) (∃f2 f5 b4,(Instr.typeAssert y aO bD true).run P e1= .ok (.tuple #[kT f2,hV f5]) b4/\br f5 (aA f2 λG6=>∃s7,b4.cell? (G6.add 2)=some (kT s7)/\aA s7 λx1=>∃g3 i1 h3,b4.cell? (x1.add 2)=some (hT g3 i1 h3)/\callE P dv #[hT g3 i1 h3] (λe z2=>∃h0 h4 h6,e= hQ (hT h0 h4 h6)/\stV z2 (hZ g 0) (hY 6) λG3=>stV G3 (hZ g 7) (hT h0 h4 h6) λr9=>ldB16 r9 g λH0=>st16 r9 b1 H0 λq5=>ldB16 q5 b1 λG5=>R (hQ (G5.V)) q5) b4) (∃f3 g0 c3,(Instr.typeAssert y aO dU true).run P b4= .ok (.tuple #[kT f3,hV g0]) c3/\br g0 (aA f3 λy2=>∃h9 k0 n3,c3.cell? (y2.add 2)=some (hT h9 k0 n3)/\callE P dv #[hT h9 k0 n3] (λe y4=>∃n0 m6 m5,e= hQ (hT n0 m6 m5)/\stV y4 (hZ g 0) (hY 6) λx8=>stV x8 (hZ g 12) (hV true) λG0=>stV G0 (hZ g 7) (hT n0 m6 m5) λt6=>ldB16 t6 g λG9=>st16 t6 b1 G9 λp1=>ldB16 p1 b1 λG1=>R (hQ (G1.V)) p1) c3) (∃b6 e8 e5,(Instr.typeAssert y aO cI true).run P c3= .ok (.tuple #[kT b6,hV e8]) e5/\br e8 (tk e5 λI=>aA b6 λe2=>aA b6 λc2=>aA b6 λD1=>∃s1,I.cell? (e2.add 3)=some (hX s1)/\∃t2,I.cell? (c2.add 2)=some (hX t2)/\∃h8 i2 m8,I.cell? (D1.add 4)=some (hT h8 i2 m8)/\callE P mW #[hT h8 i2 m8] (λe b3=>∃o0,e= hQ (hX o0)/\SameC I b3 (c2.add 2) 1/\SameC I b3 (e2.add 3) 1/\stV b3 (hZ g 0) (hY 7) λb8=>SameC b3 b8 (c2.add 2) 1/\SameC b3 b8 (e2.add 3) 1/\stV b8 (hZ g 2) (hX s1) λt8=>SameC b8 t8 (c2.add 2) 1/\stV t8 (hZ g 10) (hX t2) λz3=>stV z3 (hZ g 1) (hX o0) λq0=>ldB16 q0 g λx3=>st16 q0 b1 x3 λq8=>ldB16 q8 b1 λG2=>R (hQ (G2.V)) q8) I) (∃w3 e9 s6,(Instr.typeAssert y aO sT true).run P e5= .ok (.tuple #[kT w3,hV e9]) s6/\br e9 (False) (∃f4 f1 q3,(Instr.typeAssert y aO cT true).run P s6= .ok (.tuple #[kT f4,hV f1]) q3/\br f1 (callE P B1 #[kT f4] (λe x2=>∃t9,e= hQ (hX t9)/\stV x2 (hZ g 0) (hY 9) λw9=>stV w9 (hZ g 10) (hX t9) λs9=>ldB16 s9 g λx9=>st16 s9 b1 x9 λr1=>ldB16 r1 b1 λD3=>R (hQ (D3.V)) r1) q3) (False))))))))))) I4
theorem ci.sound {R x0 w}(h:ci R x0 w):callE P bR #[x0] R w:=
 aH [(11095,.lp [46,86,905] (ci.bl1 R) λXa=> [(9,.no),(27,.dr (rpN [0,6,9,12,15,21,24,27,33,36,39,4,19,31,43,47,48,53,56,57,62]))]),(22487,.dr (rpN [0,3,6,15,18,21,27,30,33,42,10,12,25,37,41,47,48,53,54,59,60,65,66,71])),(63447,.mk [46,86,182,2340] (ci.k1 R)),(57303,.dr (rpN [0,6,9,12,21,16,5,20,26,27,32,33,38])),(229335,.dr (rpN [0,3,6,12,15,18,24,27,30,48,10,22,34,36,39,43,47,53,54,59,60,65,66,71])),(14680023,.dr (rpN [0,3,6,12,15,18,24,27,30,39,10,22,34,38,44,45,50,51,56,57,62])),(25165783,.no),(134217687,.no)] Tryz.func32 Tryz.call32 h
namespace gv
def bl1 (R:EP)(Xa:Nat->OA->Nat->Nat->Int->Int->WP)(y:Nat)(E:OA)(H a7:Nat)(U g:Int)(w:World):Prop:=br (decide (g<U)) (0<=g/\g<(H:Int)/\aA E λa3=>∃I,w.cell? (a3.add (Int.toNat g*1))=some (hX I)/\callE P bw #[kT (kE y),hX I] (λe b4=>∃W,∃(V:Value),e= hQ (.tuple #[hY W,V])/\callE P bT #[kT (kE y),.int .u8 10] (λe b5=>∃(b3:Value),e= hQ b3/\Xa y E H a7 U (i64.wrap (g+1)) b5) b4) w) (callE P dl #[kT (kE y)] (λe a6=>∃O,e= hQ (hX O)/\R (hQ (hX O)) a6) w)
def l1 (R:EP)(O:Nat)(g:OA)(E y:Nat)(I H:Int)(w:World):Prop:=∀X:Nat->OA->Nat->Nat->Int->Int->WP,(∀O g E y I H w,bl1 R X O g E y I H w->X O g E y I H w)->X O g E y I H w
end gv
def gv (R:EP)(y:OA)(g E:Nat)(w:World):Prop:=box w #[kT none,hT none 0 0] cn λb1 H=>gv.l1 R b1 y g E (g:Int) 0 H
theorem gv.sound {R x0q x0n x0c w}(h:gv R x0q x0n x0c w):callE P mW #[hT x0q x0n x0c] R w:=
 aH [(43,.lp [66,123,147,167] (gv.bl1 R) λXa=> [])] Tryz.func51 Tryz.call51 h
def km (R:EP)(E:Int)(w:World):Prop:=callE P lF #[.int .u64 E] (λe y=>∃g,e= hQ (hY g)/\R (hQ (hY g)) y) w
theorem km.sound {R x0 w}(h:km R x0 w):callE P ki #[.int .u64 x0] R w:=
 cC Tryz.func70 Tryz.call70 h
namespace cA
def k3 (R:EP)(g y:Int)(w:World):Prop:=0<=(IntKind.u8.wrap g)/\(IntKind.u8.wrap g)<((hP #[0,1,2,2,3,3,3,3,4,4,4,4,4,4,4,4,5,5,5,5,5,5,5,5,5,5,5,5,5,5,5,5,6,6,6,6,6,6,6,6,6,6,6,6,6,6,6,6,6,6,6,6,6,6,6,6,6,6,6,6,6,6,6,6,7,7,7,7,7,7,7,7,7,7,7,7,7,7,7,7,7,7,7,7,7,7,7,7,7,7,7,7,7,7,7,7,7,7,7,7,7,7,7,7,7,7,7,7,7,7,7,7,7,7,7,7,7,7,7,7,7,7,7,7,7,7,7,7,8,8,8,8,8,8,8,8,8,8,8,8,8,8,8,8,8,8,8,8,8,8,8,8,8,8,8,8,8,8,8,8,8,8,8,8,8,8,8,8,8,8,8,8,8,8,8,8,8,8,8,8,8,8,8,8,8,8,8,8,8,8,8,8,8,8,8,8,8,8,8,8,8,8,8,8,8,8,8,8,8,8,8,8,8,8,8,8,8,8,8,8,8,8,8,8,8,8,8,8,8,8,8,8,8,8,8,8,8,8,8,8,8,8,8,8,8,8,8,8,8,8,8,8,8,8,8,8]).size:Int)/\R (hQ (hY (i64.wrap (y+(i64.wrap (bt (hP #[0,1,2,2,3,3,3,3,4,4,4,4,4,4,4,4,5,5,5,5,5,5,5,5,5,5,5,5,5,5,5,5,6,6,6,6,6,6,6,6,6,6,6,6,6,6,6,6,6,6,6,6,6,6,6,6,6,6,6,6,6,6,6,6,7,7,7,7,7,7,7,7,7,7,7,7,7,7,7,7,7,7,7,7,7,7,7,7,7,7,7,7,7,7,7,7,7,7,7,7,7,7,7,7,7,7,7,7,7,7,7,7,7,7,7,7,7,7,7,7,7,7,7,7,7,7,7,7,8,8,8,8,8,8,8,8,8,8,8,8,8,8,8,8,8,8,8,8,8,8,8,8,8,8,8,8,8,8,8,8,8,8,8,8,8,8,8,8,8,8,8,8,8,8,8,8,8,8,8,8,8,8,8,8,8,8,8,8,8,8,8,8,8,8,8,8,8,8,8,8,8,8,8,8,8,8,8,8,8,8,8,8,8,8,8,8,8,8,8,8,8,8,8,8,8,8,8,8,8,8,8,8,8,8,8,8,8,8,8,8,8,8,8,8,8,8,8,8,8,8,8,8,8,8,8,8]) (IntKind.u8.wrap g))))))) w
def k2 (R:EP)(g y:Int)(w:World):Prop:=br (decide (g >= 256)) (False) (k3 R g y w)
def k1 (R:EP)(g y:Int)(w:World):Prop:=br (decide (g >= 65536)) (False) (k2 R g y w)
end cA
def cA (R:EP)(g:Int)(w:World):Prop:=br (decide (g >= 4294967296)) (False) (cA.k1 R g 0 w)
theorem cA.sound {R x0 w}(h:cA R x0 w):callE P lF #[.int .u64 x0] R w:=
 aH [(21,.no),(7,.mk [10,47] (cA.k1 R)),(43,.no),(15,.mk [10,47] (cA.k2 R)),(87,.no),(31,.mk [10,47] (cA.k3 R))] Tryz.func100 Tryz.call100 h
def dh (R:EP)(E:OA)(g H:Nat)(U:Value)(w:World):Prop:=callE P ki #[.int .u64 (IntKind.u64.wrap (g:Int))] (λe I=>∃y,e= hQ (hY y)/\callE P eU #[hT E g H,hY 0,hY (g:Int),hY y,U] (λe O=>e= hQ (.tuple #[])/\R (hQ (.tuple #[])) O) I) w
theorem dh.sound {R x0q x0n x0c x1 w}(h:dh R x0q x0n x0c x1 w):callE P df #[hT x0q x0n x0c,x1] R w:=
 cC Tryz.func46 Tryz.call46 h
namespace ba
def bl1 (R:EP)(Xa:OA->Nat->Nat->Int->Int->Value->Int->WP)(E:OA)(H I:Nat)(O y:Int)(U:Value)(g:Int)(w:World):Prop:=br (decide (g<y)) (False) (R (hQ (.tuple #[])) w)
def l1 (R:EP)(g:OA)(y E:Nat)(O U:Int)(I:Value)(H:Int)(w:World):Prop:=∀X:OA->Nat->Nat->Int->Int->Value->Int->WP,(∀g y E O U I H w,bl1 R X g y E O U I H w->X g y E O U I H w)->X g y E O U I H w
end ba
def ba (R:EP)(y:OA)(E H:Nat)(g O:Int)(I:Value)(w:World):Prop:=ba.l1 R y E H g O I (i64.wrap (g+1)) w
theorem ba.sound {R x0q x0n x0c x1 x2 x3 w}(h:ba R x0q x0n x0c x1 x2 x3 w):callE P dY #[hT x0q x0n x0c,hY x1,hY x2,x3] R w:=
 aH [(5,.lp [3,27,47,65,167] (ba.bl1 R) λXa=> [(10,.no),(41,.no)])] Tryz.func91 Tryz.call91 h
namespace bB
def bl1 (R:EP)(Xa:OA->Nat->Nat->Int->Int->Int->Value->Bool->Bool->WP)(E:OA)(H I:Nat)(g y a6:Int)(U:Value)(W V:Bool)(w:World):Prop:=br (decide ((i64.wrap (y - g))<=12)) (callE P dY #[hT E H I,hY g,hY y,U] (λe O=>e= hQ (.tuple #[])/\R (hQ (.tuple #[])) O) w) (False)
def l1 (R:EP)(g:OA)(E H:Nat)(V W U:Int)(O:Value)(I y:Bool)(w:World):Prop:=∀X:OA->Nat->Nat->Int->Int->Int->Value->Bool->Bool->WP,(∀g E H V W U O I y w,bl1 R X g E H V W U O I y w->X g E H V W U O I y w)->X g E H V W U O I y w
end bB
def bB (R:EP)(g:OA)(y E:Nat)(I U O:Int)(H:Value)(w:World):Prop:=bB.l1 R g y E I U O H true true w
theorem bB.sound {R x0q x0n x0c x1 x2 x3 x4 w}(h:bB R x0q x0n x0c x1 x2 x3 x4 w):callE P eU #[hT x0q x0n x0c,hY x1,hY x2,hY x3,x4] R w:=
 aH [(11,.lp [3,27,47,67,85,200,220] (bB.bl1 R) λXa=> [(58,.no),(86,.no),(118,.no),(174,.no),(238,.no),(62,.no)])] Tryz.func69 Tryz.call69 h
def gx (R:EP)(E:Value)(w:World):Prop:=callE P kf #[E] (λe y=>∃g,e= hQ (kT g)/\R (hQ (kT g)) y) w
theorem gx.sound {R x0 w}(h:gx R x0 w):callE P wH #[x0] R w:=
 cC Tryz.func102 Tryz.call102 h
def dB (R:EP)(g:Value)(w:World):Prop:=box w (N16.C {}) al λb1 G8=>callE P wH #[g] (λe G7=>∃b9,e= hQ (kT b9)/\∃w3 c1,(do eqGuard .neq bH (.tmp 19) (.const (kT none)) (kT b9) (kT none);binOp .neq bH (kT b9) (kT none)).run P G7= .ok (hV w3) c1/\br w3 (aA b9 λG6=>∃w5,c1.cell? G6=some (hX w5)/\st16 c1 b1 {a0:=20,a1:=w5} λv9=>ldB16 v9 b1 λG5=>R (hQ (G5.V)) v9) (∃h9 o4 b8,(Instr.typeAssert g aC kz true).run P c1= .ok (.tuple #[kT h9,hV o4]) b8/\br o4 (aA h9 λG4=>∃v7,b8.cell? G4=some (hX v7)/\st16 b8 b1 {a0:=20,a1:=v7,a13:=true} λv6=>ldB16 v6 b1 λG3=>R (hQ (G3.V)) v6) (∃w8 h2 f1,(Instr.typeAssert g aC ju true).run P b8= .ok (.tuple #[kT w8,hV h2]) f1/\br h2 (st16 f1 b1 {a0:=21} λw1=>ldB16 w1 b1 λG2=>R (hQ (G2.V)) w1) (∃w7 g4 e6,(Instr.typeAssert g aC kR true).run P f1= .ok (.tuple #[kT w7,hV g4]) e6/\br g4 (st16 e6 b1 {a0:=22} λq2=>ldB16 q2 b1 λz4=>R (hQ (z4.V)) q2) (∃g1 g6 b5,(Instr.typeAssert g aC oX true).run P e6= .ok (.tuple #[kT g1,hV g6]) b5/\br g6 (aA g1 λx3=>∃q3,b5.cell? x3=some (hX q3)/\st16 b5 b1 {a0:=23,a1:=q3} λt5=>ldB16 t5 b1 λy2=>R (hQ (y2.V)) t5) (∃c4 g2 c9,(Instr.typeAssert g aC iR true).run P b5= .ok (.tuple #[kT c4,hV g2]) c9/\br g2 (tk c9 λa6=>aA c4 λs8=>aA c4 λz2=>∃s1,a6.cell? s8=some (hX s1)/\∃n0 h5 m4,a6.cell? (z2.add 1)=some (hT n0 h5 m4)/\callE P dv #[hT n0 h5 m4] (λe q1=>∃n3 i0 m5,e= hQ (hT n3 i0 m5)/\SameC a6 q1 (s8) 1/\st16 q1 b1 {a0:=24,q7:=n3,n7:=i0,c7:=m5,a10:=s1} λv4=>ldB16 v4 b1 λz3=>R (hQ (z3.V)) v4) a6) (∃c2 f4 e9,(Instr.typeAssert g aC fo true).run P c9= .ok (.tuple #[kT c2,hV f4]) e9/\br f4 (tk e9 λb4=>aA c2 λr9=>aA c2 λx6=>∃u1,b4.cell? r9=some (hX u1)/\∃p3 j1 k0,b4.cell? (x6.add 1)=some (hT p3 j1 k0)/\callE P dv #[hT p3 j1 k0] (λe v0=>∃m2 l5 o2,e= hQ (hT m2 l5 o2)/\SameC b4 v0 (r9) 1/\st16 v0 b1 {a0:=25,q7:=m2,n7:=l5,c7:=o2,a10:=u1} λr7=>ldB16 r7 b1 λx5=>R (hQ (x5.V)) r7) b4) (∃c3 f3 d0,(Instr.typeAssert g aC ui true).run P e9= .ok (.tuple #[kT c3,hV f3]) d0/\br f3 (tk d0 λb3=>aA c3 λv2=>aA c3 λy1=>∃s6,b3.cell? v2=some (hX s6)/\∃i8 j0 h8,b3.cell? (y1.add 1)=some (hT i8 j0 h8)/\callE P dv #[hT i8 j0 h8] (λe s4=>∃o3 o0 i2,e= hQ (hT o3 o0 i2)/\SameC b3 s4 (v2) 1/\st16 s4 b1 {a0:=26,q7:=o3,n7:=o0,c7:=i2,a10:=s6} λs5=>ldB16 s5 b1 λy3=>R (hQ (y3.V)) s5) b3) (∃U g7 e4,(Instr.typeAssert g aC lm true).run P d0= .ok (.tuple #[kT U,hV g7]) e4/\br g7 (tk e4 λy=>aA U λe7=>aA U λd2=>aA U λy5=>aA U λq4=>∃s2,y.cell? (e7.add 1)=some (hX s2)/\∃r1,y.cell? (d2.add 2)=some (hX r1)/\∃q5,y.cell? (y5.add 3)=some (.int .u8 q5)/\∃i3 m6 h3,y.cell? q4=some (hT i3 m6 h3)/\callE P l7 #[.int .u8 q5] (λe H=>∃u0,e= hQ (hX u0)/\SameC y H (q4) 1/\SameC y H (d2.add 2) 1/\SameC y H (e7.add 1) 1/\callE P dv #[hT i3 m6 h3] (λe e1=>∃m1 n2 m8,e= hQ (hT m1 n2 m8)/\SameC H e1 (d2.add 2) 1/\SameC H e1 (e7.add 1) 1/\st16 e1 b1 {a0:=27,a1:=s2,a2:=r1,q7:=m1,n7:=n2,c7:=m8,a10:=u0} λt2=>ldB16 t2 b1 λG1=>R (hQ (G1.V)) t2) H) y) (∃O f6 e0,(Instr.typeAssert g aC lr true).run P e4= .ok (.tuple #[kT O,hV f6]) e0/\br f6 (tk e0 λE=>aA O λe3=>aA O λf0=>aA O λx2=>aA O λt6=>∃t7,E.cell? (e3.add 1)=some (hX t7)/\∃u2,E.cell? (f0.add 2)=some (hX u2)/\∃t3,E.cell? (x2.add 3)=some (.int .u8 t3)/\∃h6 h1 h4,E.cell? t6=some (hT h6 h1 h4)/\callE P l7 #[.int .u8 t3] (λe I=>∃t4,e= hQ (hX t4)/\SameC E I (t6) 1/\SameC E I (f0.add 2) 1/\SameC E I (e3.add 1) 1/\callE P dv #[hT h6 h1 h4] (λe e8=>∃p1 p4 i1,e= hQ (hT p1 p4 i1)/\SameC I e8 (f0.add 2) 1/\SameC I e8 (e3.add 1) 1/\st16 e8 b1 {a0:=28,a1:=t7,a2:=u2,q7:=p1,n7:=p4,c7:=i1,a10:=t4} λs9=>ldB16 s9 b1 λx9=>R (hQ (x9.V)) s9) I) E) (∃c8 f5 d3,(Instr.typeAssert g aC lN true).run P e0= .ok (.tuple #[kT c8,hV f5]) d3/\br f5 (tk d3 λb7=>aA c8 λp5=>aA c8 λz1=>∃q0,b7.cell? (p5.add 1)=some (hX q0)/\∃v5,b7.cell? z1=some (hX v5)/\∃m3 h7,∃n1 e2,(Instr.buildSlice cq 1 #[(0,(N16.V {a0:=20,a1:=v5}))]).run P b7= .ok (hT m3 h7 n1) e2/\SameC b7 e2 (p5.add 1) 1/\st16 e2 b1 {a0:=27,a1:=q0,q7:=m3,n7:=h7,c7:=n1,a14:=true} λt8=>ldB16 t8 b1 λx7=>R (hQ (x7.V)) t8) (∃g3 g5 b6,(Instr.typeAssert g aC mE true).run P d3= .ok (.tuple #[kT g3,hV g5]) b6/\br g5 (aA g3 λw9=>∃t0,b6.cell? w9=some (hX t0)/\st16 b6 b1 {a0:=29,a1:=t0} λt9=>ldB16 t9 b1 λG0=>R (hQ (G0.V)) t9) (∃g0 h0 W,(Instr.typeAssert g aC rH true).run P b6= .ok (.tuple #[kT g0,hV h0]) W/\br h0 (aA g0 λD1=>∃r4,W.cell? D1=some (hV r4)/\br r4 (st16 W b1 {a0:=30,a3:=2} λv3=>ldB16 v3 b1 λx8=>R (hQ (x8.V)) v3) (st16 W b1 {a0:=30,a3:=1} λr8=>ldB16 r8 b1 λD2=>R (hQ (D2.V)) r8)) (∃c5 f2 e5,(Instr.typeAssert g aC zy true).run P W= .ok (.tuple #[kT c5,hV f2]) e5/\br f2 (tk e5 λd1=>aA c5 λx1=>aA c5 λx4=>∃r6,d1.cell? (x1.add 1)=some (hX r6)/\∃s3,d1.cell? x4=some (hX s3)/\st16 d1 b1 {a0:=31,a1:=r6,a10:=s3} λs7=>ldB16 s7 b1 λy4=>R (hQ (y4.V)) s7) (st16 e5 b1 {} λq8=>ldB16 q8 b1 λD3=>R (hQ (D3.V)) q8))))))))))))))) G8
theorem dB.sound {R x0 w}(h:dB R x0 w):callE P d9 #[x0] R w:=
 aH [(180203,.dr (rpN [0,3,6,12,15,18,10,22,26,27,32])),(720875,.dr (rpN [0,3,6,12,15,18,10,22,26,27,32])),(2883563,.dr (rpN [0,3,6,12,15,18,10,22,26,27,32])),(11534315,.dr (rpN [0,3,6,12,15,18,24,27,30,39,42,45,10,22,34,49,38,53,54,59])),(46137323,.dr (rpN [0,3,6,12,15,18,24,27,30,39,42,45,10,22,34,49,38,53,54,59])),(184549355,.dr (rpN [0,3,6,12,15,18,10,22,24,29,30,35])),(11811160043,.dr (rpN [0,3,6,12,15,18,10,22,24,29]))] Tryz.func72 Tryz.call72 h
def oN (R:EP)(g:Int)(w:World):Prop:=br (g==0) (R (hQ (hX (hP #[]))) w) (False)
theorem oN.sound {R x0 w}(h:oN R x0 w):callE P l7 #[.int .u8 x0] R w:=
 aH [(29,.no)] Tryz.func45 Tryz.call45 h
namespace fD
def bl1 (R:EP)(Xa:OA->Nat->Nat->OA->Nat->Nat->Int->Int->WP)(I:OA)(W O:Nat)(b3:OA)(b4 b9:Nat)(b6 g:Int)(w:World):Prop:=br (decide (g<b6)) (0<=g/\g<(b4:Int)/\aA b3 λa1=>∃(b7:Value),w.cell? (a1.add (Int.toNat g*1))=some b7/\callE P bR #[b7] (λe c2=>FR e λc1=>∃H E,∃a7 b5,(Instr.buildSlice cq 1 #[(0,c1.V)]).run P c2= .ok (hT H E a7) b5/\∃a6 U,∃y b8,(Builtin.append_ #[cq,cq] cq #[hT I W O,hT H E a7]).run P b5= .ok (hT a6 U y) b8/\Xa a6 U y b3 b4 b9 b6 (i64.wrap (g+1)) b8) w) (R (hQ (hT I W O)) w)
def l1 (R:EP)(H:OA)(I y:Nat)(g:OA)(O E:Nat)(V U:Int)(w:World):Prop:=∀X:OA->Nat->Nat->OA->Nat->Nat->Int->Int->WP,(∀H I y g O E V U w,bl1 R X H I y g O E V U w->X H I y g O E V U w)->X H I y g O E V U w
end fD
def fD (R:EP)(y:OA)(g E:Nat)(w:World):Prop:=fD.l1 R none 0 0 y g E (g:Int) 0 w
theorem fD.sound {R x0q x0n x0c w}(h:fD R x0q x0n x0c w):callE P gI #[hT x0q x0n x0c] R w:=
 aH [(43,.lp [63,123,147,167] (fD.bl1 R) λXa=> [])] Tryz.func44 Tryz.call44 h
namespace eS
def bl1 (R:EP)(Xa:OA->Nat->Nat->OA->Nat->Nat->Int->Int->WP)(I:OA)(W O:Nat)(b3:OA)(b4 b9:Nat)(b6 g:Int)(w:World):Prop:=br (decide (g<b6)) (0<=g/\g<(b4:Int)/\aA b3 λa1=>∃(b7:Value),w.cell? (a1.add (Int.toNat g*1))=some b7/\callE P d9 #[b7] (λe c2=>FR e λc1=>∃H E,∃a7 b5,(Instr.buildSlice cq 1 #[(0,c1.V)]).run P c2= .ok (hT H E a7) b5/\∃a6 U,∃y b8,(Builtin.append_ #[cq,cq] cq #[hT I W O,hT H E a7]).run P b5= .ok (hT a6 U y) b8/\Xa a6 U y b3 b4 b9 b6 (i64.wrap (g+1)) b8) w) (R (hQ (hT I W O)) w)
def l1 (R:EP)(H:OA)(I y:Nat)(g:OA)(O E:Nat)(V U:Int)(w:World):Prop:=∀X:OA->Nat->Nat->OA->Nat->Nat->Int->Int->WP,(∀H I y g O E V U w,bl1 R X H I y g O E V U w->X H I y g O E V U w)->X H I y g O E V U w
end eS
def eS (R:EP)(y:OA)(g E:Nat)(w:World):Prop:=eS.l1 R none 0 0 y g E (g:Int) 0 w
theorem eS.sound {R x0q x0n x0c w}(h:eS R x0q x0n x0c w):callE P dv #[hT x0q x0n x0c] R w:=
 aH [(43,.lp [63,123,147,167] (eS.bl1 R) λXa=> [])] Tryz.func50 Tryz.call50 h

theorem BG {A:Nat->Addr}{v:N16}{K:N16->Prop}(h: ∀i u,v.C[i]? =some u->w.cell? (A i)=some u)(g:K v):ld16 w A K:=
 ⟨_,h 0 _ rfl,_,h 1 _ rfl,_,h 2 _ rfl,_,h 3 _ rfl,_,h 4 _ rfl,_,h 5 _ rfl,_,_,_,h 6 _ rfl,_,_,_,h 7 _ rfl,_,h 8 _ rfl,_,h 9 _ rfl,_,h 10 _ rfl,_,h 11 _ rfl,_,h 12 _ rfl,_,h 13 _ rfl,_,h 14 _ rfl,_,_,_,h 15 _ rfl,g⟩
theorem BH {A:Nat->Addr}{v:N10}{K:N10->Prop}(h: ∀i u,v.C[i]? =some u->w.cell? (A i)=some u)(g:K v):ld10 w A K:=
 ⟨_,h 0 _ rfl,_,h 1 _ rfl,_,h 2 _ rfl,_,h 3 _ rfl,_,h 4 _ rfl,_,h 5 _ rfl,_,_,_,h 6 _ rfl,_,_,_,h 7 _ rfl,_,h 8 _ rfl,_,h 9 _ rfl,g⟩
theorem Sat.ldB16 (h:Sat σ w L){b:Nat}{e:TypeId}(v:N16){K:N16->Prop}(g:(b,cel v.C.toList e)∈L)(y:K v):ldB16 w b K:=
 BG (λi u E=>h.ld g (by rw[lQ2];exact E)) y
theorem Sat.ldB10 (h:Sat σ w L){b:Nat}{e:TypeId}(v:N10){K:N10->Prop}(g:(b,cel v.C.toList e)∈L)(y:K v):ldB10 w b K:=
 BH (λi u E=>h.ld g (by rw[lQ2];exact E)) y
theorem xI {pre mid suf:List Value}{i o:Nat}{u:Value}(y:pre.length=o)(g:mid[i]? =some u):(pre++(mid++suf))[o+i]? =some u:=by
 have hi:=(lL0.1 g).1;rw[lH0 (by omega),show o+i - pre.length=i by omega,lM0 hi];exact g
theorem Sat.ldA16 (h:Sat σ w L){b o:Nat}{pre suf:List Value}{e:TypeId}(v:N16){K:N16->Prop}(g:(b,cel (pre++(v.C.toList++suf)) e)∈L)(H:pre.length=o)(E:K v):ldA16 w (hZ b o) K:=
 BG (λi u y=>by rw[lK0];exact h.ld g (xI H (by rw[lQ2];exact y))) E
theorem Sat.ldA10 (h:Sat σ w L){b o:Nat}{pre suf:List Value}{e:TypeId}(v:N10){K:N10->Prop}(g:(b,cel (pre++(v.C.toList++suf)) e)∈L)(H:pre.length=o)(E:K v):ldA10 w (hZ b o) K:=
 BH (λi u y=>by rw[lK0];exact h.ld g (xI H (by rw[lQ2];exact y))) E
def stAll:List Value->Nat->Nat->World->(World->Prop)->Prop
 | [],b,i,w,K=>K w
 |v::vs,b,i,w,K=>stV w (hZ b i) v λw=>stAll vs b (i+1) w K
theorem yV {g:Type}{l:List g}{k:Nat}{a:g}(h:l[k]? =some a):l.set k a=l:=by
 refine List.ext_getElem? λi=>?_
 rw[lL5];split
 ·subst_vars
  rw[if_pos (lL0.1 h).1,h]
 ·rfl
theorem Sat.stAll {k b:Nat}{e:TypeId}{K:World->Prop}(y:k<L.length): ∀(vs old pre:List Value) (w:World),Sat σ w (L.set k (b,cel (pre++old) e))->old.length=vs.length->(∀v∈vs,nx v)->(∀g,Sat σ g (L.set k (b,cel (pre++vs) e))->K g)->stAll vs b pre.length w K
 | [],old,pre,w,h,hl,h1,hK=>by
  obtain rfl:old= []:=lC1 (by simpa using hl);exact hK w h
 |v::vs,o::old,pre,w,h,hl,h1,hK=>by
  refine h.st (k:=k) (L':=L.set k (b,cel ((pre++ [v])++old) e)) (List.getElem?_set_self y) (by simp) (h1 v (by simp)) ?_ λw h=>?_
  ·rw[List.set_set,lO1 _ _ (lZ0 _),lV1];simp
  ·have:=Sat.stAll y vs old (pre++ [v]) w h (by simpa using hl) (λu E=>h1 u (by simp[E])) (λg H=>hK g (by simpa using H));rw[lA0] at this;exact this
theorem Sat.st16 (h:Sat σ w L)(k:Nat){b:Nat}{e:TypeId}(u v:N16){K:World->Prop}(I: ∀g,Sat σ g L'->K g)(y:L[k]? =some (b,cel u.C.toList e):=by exact rfl)(O:L.set k (b,cel v.C.toList e)=L':=by first|(dsimp only[List.set];exact rfl)|exact rfl):st16 w b v K:=by
 have hs:Sat σ w (L.set k (b,cel ([]++u.C.toList) e)):=by rw[lT0,yV y];exact h
 refine Sat.stAll (lL0.1 y).1 v.C.toList u.C.toList [] w hs rfl ?_ (λg H=>I g (by rw[<-O];exact H));intro x E;simp only[N16.C,lX0,lJ1,or_false] at E;rcases E with rfl|rfl|rfl|rfl|rfl|rfl|rfl|rfl|rfl|rfl|rfl|rfl|rfl|rfl|rfl|rfl<;>trivial
theorem Sat.st10 (h:Sat σ w L)(k:Nat){b:Nat}{e:TypeId}(u v:N10){K:World->Prop}(I: ∀g,Sat σ g L'->K g)(y:L[k]? =some (b,cel u.C.toList e):=by exact rfl)(O:L.set k (b,cel v.C.toList e)=L':=by first|(dsimp only[List.set];exact rfl)|exact rfl):st10 w b v K:=by
 have hs:Sat σ w (L.set k (b,cel ([]++u.C.toList) e)):=by rw[lT0,yV y];exact h
 refine Sat.stAll (lL0.1 y).1 v.C.toList u.C.toList [] w hs rfl ?_ (λg H=>I g (by rw[<-O];exact H));intro x E;simp only[N10.C,lX0,lJ1,or_false] at E;rcases E with rfl|rfl|rfl|rfl|rfl|rfl|rfl|rfl|rfl|rfl<;>trivial
theorem xH {v:N16}{K:N16->Prop}(g:K v):FR (hQ v.V) K:=⟨_,_,_,_,_,_,_,_,_,_,_,_,_,_,_,_,_,_,_,_,_,_,rfl,g⟩

structure IH where
 kind:Nat
 text:List UInt8:= []
 title:List UInt8:= []
 num:Int:=0
 char:List UInt8:= []
 loose:Bool:=false
 s:Nat:=0
 e:Nat:=0
 mark:List UInt8:= []
 width:Nat:=0
 tight:Bool:=false
 escaped:Bool:=false
 auto:Bool:=false
inductive IN where
 |mk (h:IH) (kids:List IN)
def IN.h:IN->IH
 | .mk h _=>h
def IN.kids:IN->List IN
 | .mk _ ks=>ks
structure NH where
 kind:Nat
 text:List UInt8:= []
 title:List UInt8:= []
 num:Int:=0
 char:List UInt8:= []
 loose:Bool:=false
 s:Nat:=0
 e:Nat:=0
inductive ND where
 |mk (h:NH) (kids:List ND)
def ND.h:ND->NH
 | .mk h _=>h
abbrev IH.nd (h:IH)(q:OA)(n c:Nat):N16:=⟨h.kind,bs h.text,bs h.title,h.num,bs h.char,h.loose,none,0,0,q,n,c,h.s,h.e,bs h.mark,h.width,h.tight,h.escaped,h.auto,none,0,0⟩
abbrev NH.nd (h:NH)(qa:OA)(ca:Nat)(q:OA)(n c:Nat):N10:=⟨h.kind,bs h.text,bs h.title,h.num,bs h.char,h.loose,qa,0,ca,q,n,c,h.s,h.e⟩
abbrev IH.cells (h:IH)(q:OA)(n c:Nat):List Value:=(h.nd q n c).C.toList
abbrev NH.cells (h:NH)(qa:OA)(ca:Nat)(q:OA)(n c:Nat):List Value:=(h.nd qa ca q n c).C.toList
def IH.ok (h:IH):Prop:=h.text.length<1073741824/\h.title.length<1073741824/\h.char.length<1073741824/\h.mark.length<1073741824
inductive INs:List IN->List Value->List ai->Prop where
 |nil:INs [] [] []
 |cons {h:IH} {ks xs:List IN} {q:OA} {n c:Nat} {vs us:List Value} {RM KM XM:List ai}:h.ok->n<1073741824->INs ks vs KM->Sl 16 al q n c vs RM->INs xs us XM->INs (.mk h ks::xs) (h.cells q n c++us) ((RM++KM)++XM)
inductive NDs:List ND->List Value->List ai->Prop where
 |nil:NDs [] [] []
 |cons {h:NH} {ks xs:List ND} {qa:OA} {ca:Nat} {q:OA} {n c:Nat} {vs us:List Value} {RM KM XM:List ai}:n<1073741824->NDs ks vs KM->Sl 10 af q n c vs RM->NDs xs us XM->NDs (.mk h ks::xs) (h.cells qa ca q n c++us) ((RM++KM)++XM)
theorem INs.len {xs:List IN}{vs:List Value}{M:List ai}(h:INs xs vs M):vs.length=xs.length*16:=by
 induction h with
 |nil=>rfl
 |cons _ _ _ _ _ _ g=>rw[lA0,g,lF0,lB6,lQ4];rfl
theorem NDs.len {xs:List ND}{vs:List Value}{M:List ai}(h:NDs xs vs M):vs.length=xs.length*10:=by
 induction h with
 |nil=>rfl
 |cons _ _ _ _ _ g=>rw[lA0,g,lF0,lB6,lQ4];rfl
theorem INs.append {xs g:List IN}{vs us:List Value}{M N:List ai}(h:INs xs vs M)(y:INs g us N):INs (xs++g) (vs++us) (M++N):=by
 induction h with
 |nil=>exact y
 |cons a1 a2 a3 a4 _ _ E=>
  rw[lD0,lD0];exact .cons a1 a2 a3 a4 E
theorem NDs.append {xs g:List ND}{vs us:List Value}{M N:List ai}(h:NDs xs vs M)(y:NDs g us N):NDs (xs++g) (vs++us) (M++N):=by
 induction h with
 |nil=>exact y
 |cons a1 a2 a3 _ _ E=>
  rw[lD0,lD0];exact .cons a1 a2 a3 E
def kv:List ND->ND->List ND
 | [],x=> [x]
 | [.mk h ks],x=>if x.h.kind=20/\h.kind=20 then [.mk {h with text:=h.text++x.h.text} ks] else [.mk h ks,x]
 |a::b::l,x=>a::kv (b::l) x
def GD (h:IH):NH:= {kind:=h.kind,text:=if h.kind=6\/h.kind=5\/h.kind=12 then [] else h.text,title:=h.title,num:=h.num,char:=h.char,loose:=h.loose}
mutual
def vh:IN->ND
 | .mk h ks=> .mk (GD h) (yE [] ks)
def yE:List ND->List IN->List ND
 |acc,[]=>acc
 |acc,k::ks=>yE (if k.h.kind=13 then acc else kv acc (vh k)) ks
end

noncomputable def rowIN:Row P cq al 16 192:=
 ⟨(P.info? al).getD default,((P.info? al).bind (·.zero)).getD default,by kernel_rfl,by kernel_rfl,by kernel_rfl,by kernel_rfl,by kernel_rfl,by kernel_rfl,by decide⟩
theorem Gv (v:N16):Instr.fill (λi=>some (i*16,16)) ((Array.range (1*16)).map (rowIN.z.cells[· %rowIN.z.cells.size]!)) [(0,v.V)]=some v.C:=by kernel_rfl
theorem one16 (v:N16): ∀u∈v.V.cells.toList,u.oneCell'=true:=by
 intro x g;simp only[N16.V,Value.cells,N16.C,lX0,lJ1,or_false] at g;rcases g with rfl|rfl|rfl|rfl|rfl|rfl|rfl|rfl|rfl|rfl|rfl|rfl|rfl|rfl|rfl|rfl<;>rfl
def NodeAt (x:IN)(v:N16)(M:List ai):Prop:= ∃h g q n c vs RM KM,x= .mk h g/\v=h.nd q n c/\M=RM++KM/\h.ok/\n<1073741824/\INs g vs KM/\Sl 16 al q n c vs RM
theorem NodeAt.cons {x:IN}{xs:List IN}{v:N16}{us:List Value}{M g:List ai}(h:NodeAt x v M)(y:INs xs us g):INs (x::xs) (v.C.toList++us) (M++g):=by
 obtain⟨H,E,q,n,c,vs,RM,KM,rfl,rfl,rfl,a,b,d,e⟩:=h;exact .cons a b d e y
theorem NodeAt.leaf {h:IH}(a:h.ok):NodeAt (.mk h []) (h.nd none 0 0) []:=⟨h,[],none,0,0,[],[],[],rfl,rfl,rfl,a,by decide,.nil,Sl.nil 16 al⟩
def qu (f:FuncId)(x:IN)(v:Value)(T:List ai):Prop:=
 ∀(σ:Out) (R:Ending->World->Prop) (L:List ai) (w:World),Sat σ w (T++L)->(∀w u M,NodeAt x u M->Sat σ w (M++(T++L))->R (hQ u.V) w)->callE P f #[v] R w
inductive jN (f:FuncId):List IN->List Value->List ai->Prop where
 |nil:jN f [] [] []
 |cons {x:IN} {v:Value} {T:List ai} {xs:List IN} {vs:List Value} {K:List ai}:qu f x v T->jN f xs vs K->jN f (x::xs) (v::vs) (T++K)
theorem wc {f:FuncId}{X:OA->Nat->Nat->OA->Nat->Nat->Int->Int->WP}{q:OA}{n c:Nat}{e:TypeId}{xs:List IN}{vs:List Value}{RM KM:List ai}(d3:Sl 1 e q n c vs RM)(e0: ∀E b8 H (j:Int) w,br (decide (j<(n:Int))) (0<=j/\j<(n:Int)/\aA q λa=> ∃(v:Value),w.cell? (a.add (Int.toNat j*1))=some v/\
  callE P f #[v] (λe e7=>FR e λe6=> ∃(c3:OA),∃(c2:Nat),∃(c9:Nat),∃d1,(Instr.buildSlice cq 1 #[(0,e6.V)]).run P e7= .ok (hT c3 c2 c9) d1/\
   ∃(c8:OA),∃(c4:Nat),∃(c1:Nat),∃e1,(Builtin.append_ #[cq,cq] cq #[hT E b8 H,hT c3 c2 c9]).run P d1= .ok (hT c8 c4 c1) e1/\X c8 c4 c1 q n c (n:Int) (i64.wrap (j+1)) e1) w)
  (R (hQ (hT E b8 H)) w)->X E b8 H q n c (n:Int) j w)(b9:jN f xs vs KM)(h:Sat σ w (RM++(KM++L)))(f0:n<1073741824)(a6: ∀w U I O us g NM,I<1073741824->INs xs us NM->Sl 16 al U I O us g->Sat σ w (g++NM++(RM++(KM++L)))->R (hQ (hT U I O)) w):X none 0 0 q n c (n:Int) 0 w:=by
 have a7:=d3.1;have e5: ∀(b4:List IN) (b3:List Value) (KM:List ai),jN f b4 b3 KM-> ∀(y:List IN) (W:List Value) (D:List ai) E H us g NM w,W++b3=vs->W.length=y.length->INs y us NM->Sl 16 al E y.length H us g->Sat σ w (g++NM++(RM++(D++(KM++L))))->
  (∀w U I O us g NM,I<1073741824->INs (y++b4) us NM->Sl 16 al U I O us g->Sat σ w (g++NM++(RM++(D++(KM++L))))->R (hQ (hT U I O)) w)->X E y.length H q n c (n:Int) (W.length:Nat) w:=by
  intro b4 b3 KM b9
  induction b9 with
  |nil=>
   intro y W D E H us g NM w hv d2 b7 b5 h a6;refine e0 _ _ _ _ _ (ae ?_ ?_)
   ·rw[<-hv] at a7;simp at a7;simp;omega
   ·have:y.length<1073741824:=by rw[<-hv] at a7;simp at a7;omega
    rw[lG0] at a6;exact a6 w E y.length H us g NM this b7 b5 h
  | @cons x v T b4 b3 K h1 h2 ih=>
   intro y W D E H us g NM w hv d2 b7 b5 h a6;have e9:W.length<n:=by rw[<-hv] at a7;simp at a7;omega
   refine e0 _ _ _ _ _ (ag (by simp;omega) ⟨by omega,by omega,?_⟩);have d0:vs[W.length]? =some v:=by rw[<-hv];simp
   have e4:=d3;obtain⟨_,_,⟨rfl,f1,_,_⟩|⟨b6,sp,rfl,rfl,_⟩⟩:=e4
   ·omega
   refine aa ?_;simp only[lK0,lC0,lD1,lN0];refine⟨v,Sat.ld h (lB0 _ (.head _)) ?_,?_⟩
   ·rw[lM0 (lL0.1 d0).1];exact d0
   have h:Sat σ w (T++(g++NM++([(b6,cel (vs++sp) e)]++(D++(K++L))))):=h.re;refine h1 σ _ _ w h λw u M e8 h=>xH ?_
   have h:Sat σ w (g++(M++(T++(NM++([(b6,cel (vs++sp) e)]++(D++(K++L))))))):=h.re;refine Sat.app1 rowIN b5 h (v:=u.V) rfl (one16 u) (Gv u) (by omega) (by omega) (by decide) λU O w c5 e3 h=>?_
   rw[aN (by omega)];have e2:INs (y++ [x]) (us++u.V.cells.toList) (NM++M):=by
    have:=b7.append (e8.cons .nil);rw[lG0,lG0] at this;exact this
   have h:Sat σ w (c5++(NM++M)++([(b6,cel (vs++sp) e)]++((D++T)++(K++L)))):=h.re;have:=ih (y++ [x]) (W++ [v]) (D++T) U O _ c5 (NM++M) w (by simpa using hv) (by simp[d2]) e2 (by rw[lA0];exact e3) h (λw U I O us g NM a b d h=>a6 w U I O us g NM a (by simpa using b) d (h.re))
   simpa using this
 exact e5 xs vs KM b9 [] [] [] none 0 [] [] [] w rfl rfl .nil (Sl.nil 16 al) h a6
theorem jc {q:OA}{n c:Nat}{e:TypeId}{xs:List IN}{vs:List Value}{RM KM:List ai}(U:Sl 1 e q n c vs RM)(O:jN d9 xs vs KM)(h:Sat σ w (RM++(KM++L)))(a6:n<1073741824)(V: ∀w H g y us E NM,g<1073741824->INs xs us NM->Sl 16 al H g y us E->Sat σ w (E++NM++(RM++(KM++L)))->R (hQ (hT H g y)) w):callE P dv #[hT q n c] R w:=by
 refine eS.sound ?_;intro X W;exact wc (f:=d9) U (λb3 b4 a7 j w I=>W _ _ _ _ _ _ _ _ _ I) O h a6 V
theorem nF {q:OA}{n c:Nat}{e:TypeId}{xs:List IN}{vs:List Value}{RM KM:List ai}(U:Sl 1 e q n c vs RM)(O:jN bR xs vs KM)(h:Sat σ w (RM++(KM++L)))(a6:n<1073741824)(V: ∀w H g y us E NM,g<1073741824->INs xs us NM->Sl 16 al H g y us E->Sat σ w (E++NM++(RM++(KM++L)))->R (hQ (hT H g y)) w):callE P gI #[hT q n c] R w:=by
 refine fD.sound ?_;intro X W;exact wc (f:=bR) U (λb3 b4 a7 j w I=>W _ _ _ _ _ _ _ _ _ I) O h a6 V
def y8 (P:Program)(a:TypeId):Bool:=
 match P.underlying a,P.info? a with
 |some (.pointer _),some i=>match i.zero with
  |some (.pointer none)=>true
  |_=>false
 |_,_=>false
theorem wx {a:TypeId}(h:y8 P a=true): ∃e i,P.underlying a=some (.pointer e)/\P.info? a=some i/\i.zero=some (kT none):=by
 unfold y8 at h;split at h
 ·rename_i e i E y;split at h
  ·rename_i g;exact⟨e,i,E,y,g⟩
  ·exact absurd h (by decide)
 ·exact absurd h (by decide)
theorem cl {t a xt:TypeId}{v:Value}(E:y8 P a=true)(y:t≠a)(w:World):(Instr.typeAssert (.iface t v) xt a true).run P w= .ok (.tuple #[kT none,hV false]) w:=by
 obtain⟨e,i,g,I,H⟩:=wx E;exact ut (by rw[g];intro O h;cases h) g y I H w
theorem io {a xt:TypeId}{v:Value}(y:y8 P a=true)(w:World):(Instr.typeAssert (.iface a v) xt a true).run P w= .ok (.tuple #[v,hV true]) w:=by
 obtain⟨e,i,g,I,H⟩:=wx y;exact oa (by rw[g];intro E h;cases h) g w
def tcT (c:UInt8):List UInt8:=if c=0 then [] else [c]
mutual
def inlN:Inl->IN
 | .plain s=> .mk {kind:=20,text:=s} []
 | .openP s _=> .mk {kind:=20,text:=s} []
 | .emphP s _ _ _ _=> .mk {kind:=20,text:=s} []
 | .esc s=> .mk {kind:=20,text:=s,escaped:=true} []
 | .code s=> .mk {kind:=23,text:=s} []
 | .strong m ks=> .mk {kind:=25,mark:=m} (gO ks)
 | .del m ks=> .mk {kind:=26,mark:=m} (gO ks)
 | .emph m ks=> .mk {kind:=24,mark:=m} (gO ks)
 | .link ks u t tc _=> .mk {kind:=27,text:=u,title:=t,mark:=tcT tc} (gO ks)
 | .image ks u t tc _=> .mk {kind:=28,text:=u,title:=t,mark:=tcT tc} (gO ks)
 | .auto t u=> .mk {kind:=27,text:=u,auto:=true} [.mk {kind:=20,text:=t} []]
 | .tag s=> .mk {kind:=29,text:=s} []
 | .hard=> .mk {kind:=22} []
 | .soft=> .mk {kind:=21} []
 | .task b=> .mk {kind:=30,num:=if b then 2 else 1} []
def gO:List Inl->List IN
 | []=> []
 |t::ts=>inlN t::gO ts
end
mutual
def rJ:Inl->Prop
 | .plain s=>s.length<1073741824
 | .openP s _=>s.length<1073741824
 | .emphP s _ _ _ _=>s.length<1073741824
 | .esc s=>s.length<1073741824
 | .code s=>s.length<1073741824
 | .strong m ks=>m.length<1073741824/\ks.length<1073741824/\lP ks
 | .emph m ks=>m.length<1073741824/\ks.length<1073741824/\lP ks
 | .link ks u t tc _=>u.length<1073741824/\t.length<1073741824/\tc=0/\ks.length<1073741824/\lP ks
 | .soft=>True
 |_=>False
def lP:List Inl->Prop
 | []=>True
 |t::ts=>rJ t/\lP ts
end

theorem bZ:([]:List UInt8).length<1073741824:=by decide
theorem jS {u v:N16}{x:IN}{b1:Nat}{NM K:List ai}(E:NodeAt x v NM)(h:Sat σ w ((b1,cel u.C.toList al)::(NM++K)))(y: ∀w u M,NodeAt x u M->Sat σ w (M++K)->R (hQ u.V) w):
 st16 w b1 v λg=>ldB16 g b1 λm=>R (hQ m.V) g:=
 h.st16 0 u v λw h=>h.ldB16 v (.head _) (y w v NM E h.tail)
theorem Du (g:R (hQ (hX (bs []))) w):callE P l7 #[.int .u8 0] R w:=by
 refine oN.sound ?_;exact ag rfl g
mutual
theorem wz: ∀ {t:Inl} {v:Value} {M:List ai},rJ t->InlAt t v M->qu d9 (inlN t) v M
 | .plain s,v,M,ht,hI=>by
  intro σ R L w h hR;refine dB.sound ?_;refine Sat.bx h λb1 w h=>?_
  have h:Sat σ w ((b1,cel (N16.C {}).toList al)::(M++L)):=h
  refine gx.sound ?_;refine i9 hI rfl λb cs e hM=>⟨_,rfl,_,rfl,_,_,dN eE _ w,ag rfl (aa ⟨_,Sat.ld h (.tail _ (by rw[hM];exact .head _)) rfl,?_⟩)⟩
  exact jS (NodeAt.leaf (h:= {kind:=20,text:=s}) ⟨ht,bZ,bZ,bZ⟩) h hR
 | .openP s i,v,M,ht,hI=>by
  intro σ R L w h hR;refine dB.sound ?_;refine Sat.bx h λb1 w h=>?_
  have h:Sat σ w ((b1,cel (N16.C {}).toList al)::(M++L)):=h
  refine gx.sound ?_;refine i9 hI rfl λb cs e hM=>⟨_,rfl,_,rfl,_,_,dN eE _ w,ag rfl (aa ⟨_,Sat.ld h (.tail _ (by rw[hM];exact .head _)) rfl,?_⟩)⟩
  exact jS (NodeAt.leaf (h:= {kind:=20,text:=s}) ⟨ht,bZ,bZ,bZ⟩) h hR
 | .emphP s co cc i n,v,M,ht,hI=>by
  intro σ R L w h hR;refine dB.sound ?_;refine Sat.bx h λb1 w h=>?_
  have h:Sat σ w ((b1,cel (N16.C {}).toList al)::(M++L)):=h
  refine gx.sound ?_;refine i9 hI rfl λb cs e hM=>⟨_,rfl,_,rfl,_,_,dN eE _ w,ag rfl (aa ⟨_,Sat.ld h (.tail _ (by rw[hM];exact .head _)) rfl,?_⟩)⟩
  exact jS (NodeAt.leaf (h:= {kind:=20,text:=s}) ⟨ht,bZ,bZ,bZ⟩) h hR
 | .esc s,v,M,ht,hI=>by
  intro σ R L w h hR;refine dB.sound ?_;refine Sat.bx h λb1 w h=>?_
  have h:Sat σ w ((b1,cel (N16.C {}).toList al)::(M++L)):=h
  refine gx.sound ?_;refine ja hI rfl ⟨_,rfl,_,rfl,_,_,dN eE _ w,ae rfl ?_⟩;obtain⟨b,e,rfl,rfl⟩:=hI;refine⟨_,_,_,io (by kernel_rfl) w,ag rfl ?_⟩;refine aa ⟨_,Sat.ld h (.tail _ (.head _)) rfl,?_⟩;exact jS (NodeAt.leaf (h:= {kind:=20,text:=s,escaped:=true}) ⟨ht,bZ,bZ,bZ⟩) h hR
 | .soft,v,M,ht,hI=>by
  intro σ R L w h hR;refine dB.sound ?_;refine Sat.bx h λb1 w h=>?_
  have h:Sat σ w ((b1,cel (N16.C {}).toList al)::(M++L)):=h
  refine gx.sound ?_;refine ja hI rfl ⟨_,rfl,_,rfl,_,_,dN eE _ w,ae rfl ?_⟩;obtain⟨b,e,rfl,rfl⟩:=hI;refine⟨_,_,_,cl (by kernel_rfl) (by decide) w,ae rfl ?_⟩;refine⟨_,_,_,io (by kernel_rfl) w,ag rfl ?_⟩;exact jS (NodeAt.leaf (h:= {kind:=21}) ⟨bZ,bZ,bZ,bZ⟩) h hR
 | .code s,v,M,ht,hI=>by
  intro σ R L w h hR;refine dB.sound ?_;refine Sat.bx h λb1 w h=>?_
  have h:Sat σ w ((b1,cel (N16.C {}).toList al)::(M++L)):=h
  refine gx.sound ?_;refine ja hI rfl ⟨_,rfl,_,rfl,_,_,dN eE _ w,ae rfl ?_⟩;obtain⟨b,e,rfl,rfl⟩:=hI;refine⟨_,_,_,cl (by kernel_rfl) (by decide) w,ae rfl ?_⟩;refine⟨_,_,_,cl (by kernel_rfl) (by decide) w,ae rfl ?_⟩;refine⟨_,_,_,cl (by kernel_rfl) (by decide) w,ae rfl ?_⟩;refine⟨_,_,_,io (by kernel_rfl) w,ag rfl ?_⟩;refine aa ⟨_,Sat.ld h (.tail _ (.head _)) rfl,?_⟩;exact jS (NodeAt.leaf (h:= {kind:=23,text:=s}) ⟨ht,bZ,bZ,bZ⟩) h hR
 | .emph m ks,v,M,ht,hI=>by
  intro σ R L w h hR;refine dB.sound ?_;refine Sat.bx h λb1 w h=>?_
  have h:Sat σ w ((b1,cel (N16.C {}).toList al)::(M++L)):=h
  refine gx.sound ?_;refine ja hI rfl ⟨_,rfl,_,rfl,_,_,dN eE _ w,ae rfl ?_⟩;obtain⟨b,e,q,n,c,vs,RM,KM,rfl,rfl,hS,hK⟩:=hI;have hg:=eG ht.2.2 hK;have hn:n<1073741824:=by have h1:=hK.length;have h2:=hS.1;have h3:=ht.2.1;omega
  refine⟨_,_,_,cl (by kernel_rfl) (by decide) w,ae rfl ?_⟩;refine⟨_,_,_,cl (by kernel_rfl) (by decide) w,ae rfl ?_⟩;refine⟨_,_,_,cl (by kernel_rfl) (by decide) w,ae rfl ?_⟩;refine⟨_,_,_,cl (by kernel_rfl) (by decide) w,ae rfl ?_⟩;refine⟨_,_,_,io (by kernel_rfl) w,ag rfl ?_⟩;refine h.tk λw h=>aa (aa ⟨_,Sat.ld h (.tail _ (.head _)) rfl,?_⟩)
  refine⟨_,_,_,h.ldA,?_⟩;have h:Sat σ w (RM++(KM++((b,cel [hX (bs m),hT q n c] e)::(b1,cel (N16.C {}).toList al)::L))):=h.re
  have h0:=h;refine jc hS hg h hn λw q' n' c' us OM NM hn' hIN hO h=>⟨_,_,_,rfl,?_,?_⟩
  ·exact h0.same h (lB0 _ (lB0 _ (.head _))) (lB0 _ (lB0 _ (lB0 _ (.head _)))) 1
  ·exact jS (u:= {}) (NM:=OM++NM) ⟨{kind:=24,mark:=m},gO ks,q',n',c',us,OM,NM,rfl,rfl,rfl,⟨bZ,bZ,bZ,ht.1⟩,hn',hIN,hO⟩ (h.re:Sat σ w ((b1,cel (N16.C {}).toList al)::((OM++NM)++((b,cel [hX (bs m),hT q n c] e)::(RM++KM)++L)))) hR
 | .strong m ks,v,M,ht,hI=>by
  intro σ R L w h hR;refine dB.sound ?_;refine Sat.bx h λb1 w h=>?_
  have h:Sat σ w ((b1,cel (N16.C {}).toList al)::(M++L)):=h
  refine gx.sound ?_;refine ja hI rfl ⟨_,rfl,_,rfl,_,_,dN eE _ w,ae rfl ?_⟩;obtain⟨b,e,q,n,c,vs,RM,KM,rfl,rfl,hS,hK⟩:=hI;have hg:=eG ht.2.2 hK;have hn:n<1073741824:=by have h1:=hK.length;have h2:=hS.1;have h3:=ht.2.1;omega
  refine⟨_,_,_,cl (by kernel_rfl) (by decide) w,ae rfl ?_⟩;refine⟨_,_,_,cl (by kernel_rfl) (by decide) w,ae rfl ?_⟩;refine⟨_,_,_,cl (by kernel_rfl) (by decide) w,ae rfl ?_⟩;refine⟨_,_,_,cl (by kernel_rfl) (by decide) w,ae rfl ?_⟩;refine⟨_,_,_,cl (by kernel_rfl) (by decide) w,ae rfl ?_⟩;refine⟨_,_,_,io (by kernel_rfl) w,ag rfl ?_⟩;refine h.tk λw h=>aa (aa ⟨_,Sat.ld h (.tail _ (.head _)) rfl,?_⟩)
  refine⟨_,_,_,h.ldA,?_⟩;have h:Sat σ w (RM++(KM++((b,cel [hX (bs m),hT q n c] e)::(b1,cel (N16.C {}).toList al)::L))):=h.re
  have h0:=h;refine jc hS hg h hn λw q' n' c' us OM NM hn' hIN hO h=>⟨_,_,_,rfl,?_,?_⟩
  ·exact h0.same h (lB0 _ (lB0 _ (.head _))) (lB0 _ (lB0 _ (lB0 _ (.head _)))) 1
  ·exact jS (u:= {}) (NM:=OM++NM) ⟨{kind:=25,mark:=m},gO ks,q',n',c',us,OM,NM,rfl,rfl,rfl,⟨bZ,bZ,bZ,ht.1⟩,hn',hIN,hO⟩ (h.re:Sat σ w ((b1,cel (N16.C {}).toList al)::((OM++NM)++((b,cel [hX (bs m),hT q n c] e)::(RM++KM)++L)))) hR
 | .link ks ur ti tc k,v,M,ht,hI=>by
  intro σ R L w h hR;refine dB.sound ?_;refine Sat.bx h λb1 w h=>?_
  have h:Sat σ w ((b1,cel (N16.C {}).toList al)::(M++L)):=h
  refine gx.sound ?_;refine ja hI rfl ⟨_,rfl,_,rfl,_,_,dN eE _ w,ae rfl ?_⟩;obtain⟨b,e,q,n,c,vs,RM,KM,rfl,rfl,hS,hK⟩:=hI;obtain⟨hu,hti,htc,hkl,hkt⟩:=ht;subst htc;have hg:=eG hkt hK;have hn:n<1073741824:=by have h1:=hK.length;have h2:=hS.1;omega
  refine⟨_,_,_,cl (by kernel_rfl) (by decide) w,ae rfl ?_⟩;refine⟨_,_,_,cl (by kernel_rfl) (by decide) w,ae rfl ?_⟩;refine⟨_,_,_,cl (by kernel_rfl) (by decide) w,ae rfl ?_⟩;refine⟨_,_,_,cl (by kernel_rfl) (by decide) w,ae rfl ?_⟩;refine⟨_,_,_,cl (by kernel_rfl) (by decide) w,ae rfl ?_⟩;refine⟨_,_,_,cl (by kernel_rfl) (by decide) w,ae rfl ?_⟩;refine⟨_,_,_,cl (by kernel_rfl) (by decide) w,ae rfl ?_⟩;refine⟨_,_,_,io (by kernel_rfl) w,ag rfl ?_⟩;refine h.tk λw h=>aa (aa (aa (aa ⟨_,Sat.ld h (.tail _ (.head _)) rfl,_,Sat.ld h (.tail _ (.head _)) rfl,_,Sat.ld h (.tail _ (.head _)) rfl,_,_,_,Sat.ld h (.tail _ (.head _)) rfl,?_⟩)))
  refine Du ⟨_,rfl,λ_ _=>rfl,λ_ _=>rfl,λ_ _=>rfl,?_⟩;have h:Sat σ w (RM++(KM++((b,cel [hT q n c,hX (bs ur),hX (bs ti),.int .u8 (0:UInt8).toNat,hV k] e)::(b1,cel (N16.C {}).toList al)::L))):=h.re
  have h0:=h;refine jc hS hg h hn λw q' n' c' us OM NM hn' hIN hO h=>⟨_,_,_,rfl,?_,?_,?_⟩
  ·exact h0.same h (lB0 _ (lB0 _ (.head _))) (lB0 _ (lB0 _ (lB0 _ (.head _)))) 1
  ·exact h0.same h (lB0 _ (lB0 _ (.head _))) (lB0 _ (lB0 _ (lB0 _ (.head _)))) 1
  ·exact jS (u:= {}) (NM:=OM++NM) ⟨{kind:=27,text:=ur,title:=ti,mark:=tcT 0},gO ks,q',n',c',us,OM,NM,rfl,rfl,rfl,⟨hu,hti,bZ,bZ⟩,hn',hIN,hO⟩ (h.re:Sat σ w ((b1,cel (N16.C {}).toList al)::((OM++NM)++((b,cel [hT q n c,hX (bs ur),hX (bs ti),.int .u8 (0:UInt8).toNat,hV k] e)::(RM++KM)++L)))) hR
 | .del _ _,v,M,ht,hI=>ht.elim
 | .image _ _ _ _ _,v,M,ht,hI=>ht.elim
 | .auto _ _,v,M,ht,hI=>ht.elim
 | .tag _,v,M,ht,hI=>ht.elim
 | .hard,v,M,ht,hI=>ht.elim
 | .task _,v,M,ht,hI=>ht.elim
theorem eG: ∀ {ts:List Inl} {vs:List Value} {M:List ai},lP ts->InlsAt ts vs M->jN d9 (gO ts) vs M
 | [],vs,M,ht,hI=>by
  obtain⟨rfl,rfl⟩:=hI;exact .nil
 |t::ts,vs,M,ht,hI=>by
  obtain⟨v,vs',M1,M2,rfl,rfl,h1,h2⟩:=hI;exact .cons (wz ht.1 h1) (eG ht.2 h2)
end

theorem xL (ls:List (List UInt8))(l:List UInt8):dK (ls++ [l])=dK ls++l++ [10]:=by unfold dK;simp
theorem BU {q:OA}{c:Nat}{ls:List (List UInt8)}{E:List ai}(b5:Sl 1 aq q ls.length c (sv ls) E)(h:Sat σ w (E++L))(c2:ls.length<1048576)(hb:(dK ls).length<1073741824)(b3:ls.head? ≠some [])(b6: ∀w,Sat σ w (E++L)->R (hQ (hX (bs (dK ls)))) w):callE P mW #[hT q ls.length c] R w:=by
 refine gv.sound ?_;refine Sat.bx h λb w h=>?_
 intro X W;have b4: ∀k j H M w,j+k=ls.length->(H=true\/j=0)->Bld b H (dK (ls.take j)) M->Sat σ w (M++(E++L))->X b q ls.length c (ls.length:Int) (j:Int) w:=by
  intro k
  induction k with
  |zero=>
   intro j H M w b9 I y h;rw[lB2 (by omega)] at y;refine W _ _ _ _ _ _ _ (ae (by simp;omega) ?_);exact sM y h (by omega) λw h=>⟨_,rfl,b6 w h⟩
  |succ k b8=>
   intro j H M w b9 I y h;have O:j<ls.length:=by omega
   have U:dK (ls.take (j+1))=dK (ls.take j)++ls[j]++ [10]:=by rw[lF1 O,xL]
   have V:(dK (ls.take (j+1))).length<=(dK ls).length:=by
    have:dK ls=dK (ls.take (j+1))++dK (ls.drop (j+1)):=by unfold dK;rw[<-lG5,lT1]
    rw[this,lA0];omega
   rw[U] at V;simp only[lA0,lF0,lM1] at V;have a7:Sat σ w (E++(M++L)):=h.re;refine W _ _ _ _ _ _ _ (ag (by simp;omega) ⟨by omega,by omega,?_⟩);refine b5.loadAt a7 (tB O) λc1 c3 hc=>?_
   simp only[lK0,lC0,lD1,lN0];refine⟨_,hc,?_⟩;have a6:ls[j]≠ []\/H=true:=by
    rcases I with I|rfl
    ·exact .inr I
    ·left;intro b7;apply b3;rw[lC6,lI0 O,b7]
   refine sN (s:=ls[j]) y h a6 (by omega) λw M y h=>⟨_,_,rfl,?_⟩
   refine yD (k:=10) y h (by simp only[lA0];omega) λw M y h=>⟨_,rfl,?_⟩
   rw[aN (by omega)];refine b8 (j+1) true M w (by omega) (.inl rfl) ?_ h;rw[U];exact y
 exact b4 ls.length 0 false _ w (by omega) (.inr rfl) (CC b) h
theorem AH: ∃k v,P.underlying gN=some (.map k v):=⟨aq,lm,by kernel_rfl⟩
theorem Sat.alo (h:Sat σ w L)(o:Obj):Sat σ (w.alloc o) ((w.heap.size,o)::L):=by
 refine⟨h.os,h.out,?_,?_⟩
 ·simp only[lY1,lV3];refine⟨λg=>?_,h.nodup⟩;obtain⟨c,hc,y⟩:=lZ1.1 g;exact lO6 _ (y▸h.lt hc)
 ·intro c hc;cases hc with
  |head=>exact(lG4 ..).trans rfl
  |tail _ hc=>
   have:=h.lt hc
   show (w.heap.push o)[c.1]? =some c.2
   rw[lN4 this,<-lP2 this];exact h.at_ _ hc
theorem uA (w:World):(Instr.range gN (.map none)).run P w= .ok (kT (kE w.heap.size)) (w.alloc (.mapIter none 0 #[] 0)):=by
 obtain⟨k,v,g⟩:=AH;unfold Instr.range;rw[lW0,run_underlying g];rfl
theorem vN {b:Nat}{t:TypeId}(h:w.heap[b]? =some (.mapIter none 0 #[] 0)):(Instr.next (kT (kE b)) false t).run P w= .ok (.tuple #[hV false]) w:=by
 have g:(getObj b).run P w= .ok (.mapIter none 0 #[] 0) w:=by simp[getObj,Sem.run,h]
 simp[Instr.next,g]
theorem Fm (y:R (hQ (hY 0)) w):callE P ki #[.int .u64 0] R w:=by
 refine km.sound ?_;refine cA.sound ?_;refine ae rfl (ae rfl (ae rfl ?_));unfold cA.k3;generalize g:hP _=T;have E:IntKind.u8.wrap 0=((0:Nat):Int):=rfl
 have H:T.size=256:=by rw[<-g];kernel_rfl
 have I:bt T ((0:Nat):Int)=0:=by rw[<-g];kernel_rfl
 rw[E,H,I];exact⟨by decide,by decide,_,rfl,y⟩
theorem C7 {f:Value}(g:R (hQ (.tuple #[])) w):callE P df #[hT none 0 0,f] R w:=by
 refine dh.sound ?_;refine Fm ⟨_,rfl,?_⟩;refine bB.sound ?_;intro X E;refine E _ _ _ _ _ _ _ _ _ _ (ag rfl ?_);refine ba.sound ?_;intro Y y;exact y _ _ _ _ _ _ _ _ (ae rfl ⟨rfl,rfl,g⟩)
theorem fE {t:TypeId}{b s e:Nat}{cs:List Value}{ty:TypeId}{K:Nat->Nat->World->Prop}(b7:kG P t "Pos" cz=true) (h:Sat σ w L) (hc:(b,cel (hY s:: hY e::cs) ty)∈L)
 (b4: ∀b1 g w,Sat σ w ((g,cel (N16.C {a8:=s,a9:=e}).toList al)::(b1,cel (N16.C {}).toList al)::L)->K b1 g w):
 box w (N16.C {}) al λb1 b6=>cW P (callMethod (.iface t (kT (kE b))) "Pos" #[]) (λe b8=> ∃(I:Int),∃(H:Int),e= hQ (.agg #[hY I,hY H])/\
  box b8 #[hY 0,hY 0] aF λy b3=>stV b3 (hZ y 0) (hY I) λb9=>stV b9 (hZ y 1) (hY H) λE=> ∃(U:Int),E.cell? (hZ y 0)=some (hY U)/\ ∃(O:Int),E.cell? (hZ y 1)=some (hY O)/\
  box E (N16.C {}) al λg a6=>st16 a6 g {a8:=U,a9:=O} λW=>K b1 g W) b6:=by
 refine Sat.bx h λb1 w h=>?_
 have a7:DB.posIs ⟨.iface t (kT (kE b)),[(b,cel (hY s:: hY e::cs) ty)],[]⟩ s e:=jQ b7 rfl (.head _)
 refine a7 σ _ _ w (λc V=> .tail _ (by rw[lR0.1 V];exact hc)) h λw h=>⟨_,_,rfl,?_⟩
 refine Sat.bx h λy w h=>?_
 refine h.stA 0 λw h=>?_
 refine h.stA 0 λw h=>?_
 refine⟨_,Sat.ld h (.head _) (i:=0) rfl,_,Sat.ld h (.head _) (i:=1) rfl,?_⟩;refine Sat.bx h λg w h=>?_
 have h:Sat σ w ((g,cel (N16.C {}).toList al)::(y,cel [hY s,hY e] aF)::(b1,cel (N16.C {}).toList al)::L):=h
 refine h.st16 0 {} {a8:=s,a9:=e} λw h=>b4 b1 g w ?_
 exact h.sub (.cons_cons _ (.cons _ (List.Sublist.refl _)))
theorem hU {u v:N16}{x:IN}{b1 g:Nat}{NM K:List ai}(E:NodeAt x v NM)(h:Sat σ w ((g,cel v.C.toList al)::(b1,cel u.C.toList al)::(NM++K)))(I: ∀w u M,NodeAt x u M->Sat σ w (M++K)->R (hQ u.V) w):
 ldB16 w g λm=>st16 w b1 m λy=>ldB16 y b1 λH=>R (hQ H.V) y:=
 h.ldB16 v (.head _) (h.st16 1 u v λw h=>h.ldB16 v (.tail _ (.head _)) (I w v NM E h.tail.tail))
def g8 (R:EP)(E:OA)(b4:Value)(w:World):Prop:=tk w λg=>aA E λa2=>aA E λa3=>aA E λa4=>∃W,g.cell? a2=some (hX W)/\∃a6,g.cell? (a3.add 1)=some (hX a6)/\∃U V O,g.cell? (a4.add 3)=some (hT U V O)/\cW P (callMethod b4 "pub-paratext/pub/rscmarkdown.pos" #[]) (λe y=>∃H I,e= hQ (.agg #[hY H,hY I])/\SameC g y (a4.add 3) 1/\SameC g y (a3.add 1) 1/\SameC g y (a2) 1/\box y #[hY H,hY I,hX W,hX a6,hT U V O] mG λb3 a7=>R (hQ (.iface cI (kT (kE b3)))) a7) g
theorem g8.sound {R x0 x1 w}(h:g8 R x0 x1 w):callE P gU #[kT x0,x1] R w:=
 aH [(5,.dr (rpN [0,6,9,12,18,21,24,30,33,36,16,28,40,5,42,47,48,51]))] Tryz.func440 Tryz.call440 h
namespace bA
def k2 (R:EP)(e3 W:OA)(e4 g:Nat)(w:World):Prop:=tk w λI=>aA e3 λU=>∃b9 b3 b8,I.cell? (U.add 3)=some (hT b9 b3 b8)/\callE P gH #[kT (kE e4)] (λe V=>∃d1,e= hQ (hX d1)/\SameC I V (U.add 3) 1/\∃b6 b4,∃a7 O,(Instr.buildSlice ak 1 #[(0,hX d1)]).run P V= .ok (hT b6 b4 a7) O/\SameC V O (U.add 3) 1/\∃a6 b7,∃b5 c2,(Builtin.append_ #[ak,ak] ak #[hT b9 b3 b8,hT b6 b4 a7]).run P O= .ok (hT a6 b7 b5) c2/\aA e3 λf0=>stV c2 ((f0.add 3).add 0) (hT a6 b7 b5) λH=>aA W λf2=>∃c9,H.cell? (f2.add 6)=some (hV c9)/\br c9 (aA W λf4=>stV H ((f4.add 6).add 0) (hV true) λe5=>stV e5 (hZ g 0) (hY 0) λe9=>stV e9 (hZ g 1) (hY 0) λg0=>stV g0 (hZ g 2) (hY 0) λf1=>stV f1 (hZ g 3) (hX (hP #[])) λf3=>stV f3 (hZ g 4) (.int .u8 0) λE=>∃c4,E.cell? (hZ g 0)=some (hY c4)/\∃c5,E.cell? (hZ g 1)=some (hY c5)/\∃e1,E.cell? (hZ g 2)=some (hY e1)/\∃c1,E.cell? (hZ g 3)=some (hX c1)/\∃d0,E.cell? (hZ g 4)=some (.int .u8 d0)/\R (hQ (.tuple #[.agg #[hY c4,hY c5,hY e1,hX c1,.int .u8 d0],hV true])) E) (∃e2,H.cell? (hZ e4 4)=some (.int .u8 e2)/\aA W λf5=>stV H ((f5.add 6).add 0) (hV (e2 !=10)) λe6=>stV e6 (hZ g 0) (hY 0) λe8=>stV e8 (hZ g 1) (hY 0) λf6=>stV f6 (hZ g 2) (hY 0) λg1=>stV g1 (hZ g 3) (hX (hP #[])) λe7=>stV e7 (hZ g 4) (.int .u8 0) λy=>∃c8,y.cell? (hZ g 0)=some (hY c8)/\∃e0,y.cell? (hZ g 1)=some (hY e0)/\∃c3,y.cell? (hZ g 2)=some (hY c3)/\∃d2,y.cell? (hZ g 3)=some (hX d2)/\∃d3,y.cell? (hZ g 4)=some (.int .u8 d3)/\R (hQ (.tuple #[.agg #[hY c8,hY e0,hY c3,hX d2,.int .u8 d3],hV true])) y)) I
def k1 (R:EP)(y a7:OA)(O a6:Nat)(w:World):Prop:=tk w λg=>aA y λV=>aA y λW=>∃H,g.cell? (V.add 2)=some (hY H)/\∃E,g.cell? (W.add 2)=some (hY E)/\callE P bl #[kT (kE O),hY H,hY E,hV false] (λe U=>∃I,e= hQ (hV I)/\br (!I) (False) (k2 R y a7 O a6 U)) g
end bA
def bA (R:EP)(U V:OA)(e4 e1 e0:Int)(e2:BA)(e3:Int)(w:World):Prop:=box w #[hY e4,hY e1,hY e0,hX e2,.int .u8 e3] aW λb1 g3=>box g3 #[hY 0,hY 0,hY 0,hX (hP #[]),.int .u8 0] aW λg g1=>box g1 #[hX (hP #[])] aq λd2 g0=>box g0 #[hX (hP #[])] aq λd3 g4=>box g4 #[hY 0] bg λg2 y=>∃b6,y.cell? (hZ b1 0)=some (hY b6)/\∃W,y.cell? (hZ b1 1)=some (hY W)/\∃c4,y.cell? (hZ b1 2)=some (hY c4)/\∃c8,y.cell? (hZ b1 3)=some (hX c8)/\∃c3,y.cell? (hZ b1 4)=some (.int .u8 c3)/\box y #[hY 0,hY 0,hY 0,hX (hP #[]),.int .u8 0] aW λE e5=>stV e5 (hZ E 0) (hY b6) λe8=>stV e8 (hZ E 1) (hY W) λf4=>stV f4 (hZ E 2) (hY c4) λf0=>stV f0 (hZ E 3) (hX c8) λf1=>stV f1 (hZ E 4) (.int .u8 c3) λf6=>tk f6 λf3=>callE P fH #[kT (kE E),kT (kE d2),kT (kE d3),kT (kE g2)] (λe I=>∃c9,e= hQ (hV c9)/\br c9 (aA U λf5=>∃c1,I.cell? (hZ d2 0)=some (hX c1)/\∃c5,I.cell? f5=some (hX c5)/\callE P iu #[hX c1,hX c5] (λe O=>∃d1,e= hQ (hV d1)/\br d1 (∃d0,O.cell? (hZ d3 0)=some (hX d0)/\br (d0.toList==(hP #[]).toList) (stV O (hZ g 0) (hY 0) λe7=>stV e7 (hZ g 1) (hY 0) λe9=>stV e9 (hZ g 2) (hY 0) λf2=>stV f2 (hZ g 3) (hX (hP #[])) λe6=>stV e6 (hZ g 4) (.int .u8 0) λH=>∃a7,H.cell? (hZ g 0)=some (hY a7)/\∃b4,H.cell? (hZ g 1)=some (hY b4)/\∃a6,H.cell? (hZ g 2)=some (hY a6)/\∃c2,H.cell? (hZ g 3)=some (hX c2)/\∃b8,H.cell? (hZ g 4)=some (.int .u8 b8)/\R (hQ (.tuple #[.agg #[hY a7,hY b4,hY a6,hX c2,.int .u8 b8],hV false])) H) (bA.k1 R U V b1 g O)) (bA.k1 R U V b1 g O)) I) (bA.k1 R U V b1 g I)) f3
theorem bA.sound {R x0 x1 x2_0 x2_1 x2_2 x2_3 x2_4 w}(h:bA R x0 x1 x2_0 x2_1 x2_2 x2_3 x2_4 w):callE P gn #[kT x0,kT x1,.agg #[hY x2_0,hY x2_1,hY x2_2,hX x2_3,.int .u8 x2_4]] R w:=
 aH [(87,.dr (rpN [2,3,9,12,15,7,19,23,24,27,31,33,36])),(31,.mk [2,22,106,126] (bA.k1 R)),(79,.dr (rpN [0,3,6,12,15,18,10,22,26,27])),(175,.no),(63,.mk [2,22,106,126] (bA.k2 R)),(95,.dr (rpN [0,3,6,9,13,17,20,23,24,27,32]))] Tryz.func441 Tryz.call441 h
namespace gw
def bl1 (R:EP)(Xa:BA->Int->WP)(E:BA)(g:Int)(w:World):Prop:=br (decide (g<12)) (0<=g/\g<(12:Int)/\0<=(0:Int)/\0<(2:Int)/\∃v1,w.cell? (((⟨1,0,none⟩:Addr).add (Int.toNat g*2)).add (Int.toNat 0*1))=some (hX v1)/\br (v1.toList==E.toList) (0<=g/\g<(12:Int)/\0<=(1:Int)/\1<(2:Int)/\∃y,w.cell? (((⟨1,0,none⟩:Addr).add (Int.toNat g*2)).add (Int.toNat 1*1))=some (hX y)/\R (hQ (.tuple #[hX y,hV true])) w) (Xa E (i64.wrap (g+1)) w)) (R (hQ (.tuple #[hX (hP #[]),hV false])) w)
def l1 (R:EP)(y:BA)(g:Int)(w:World):Prop:=∀X:BA->Int->WP,(∀y g w,bl1 R X y g w->X y g w)->X y g w
end gw
def gw (R:EP)(g:BA)(w:World):Prop:=gw.l1 R g 0 w
theorem gw.sound {R x0 w}(h:gw R x0 w):callE P mY #[hX x0] R w:=
 aH [(21,.lp [1,87] (gw.bl1 R) λXa=> [])] Tryz.func169 Tryz.call169 h
namespace bi
def k3 (R:EP)(Xa:BA->Nat->Int->WP)(y:BA)(E:Nat)(g:Int)(w:World):Prop:=0<=g/\g<(y.size:Int)/\callE P bT #[kT (kE E),.int .u8 (bt y g)] (λe I=>∃(H:Value),e= hQ H/\Xa y E (i64.wrap (g+1)) I) w
def k2 (R:EP)(Xa:BA->Nat->Int->WP)(g:BA)(H:Nat)(y E:Int)(w:World):Prop:=br (decide (E<(g.size:Int))) (0<=y/\y<=(i64.wrap (E+1))/\(i64.wrap (E+1))<=(g.size:Int)/\callE P mY #[hX (g.extract (Int.toNat y) (Int.toNat (i64.wrap (E+1))))] (λe U=>∃O I,e= hQ (.tuple #[hX O,hV I])/\br I (callE P bw #[kT (kE H),hX O] (λe a6=>∃W,∃(V:Value),e= hQ (.tuple #[hY W,V])/\Xa g H (i64.wrap (E+1)) a6) U) (k3 R Xa g H y U)) w) (k3 R Xa g H y w)
def bl2 (R:EP)(Xa:BA->Nat->Int->WP)(I:BA->Nat->Int->Int->WP)(y:BA)(H:Nat)(E g:Int)(w:World):Prop:=((decide (g<(y.size:Int)))=true->0<=g/\g<(y.size:Int))/\br ((decide (g<(y.size:Int))) && ((bt y g) !=59)) (I y H E (i64.wrap (g+1)) w) (k2 R Xa y H E g w)
def l2 (R:EP)(Xa:BA->Nat->Int->WP)(H:BA)(y:Nat)(E g:Int)(w:World):Prop:=∀X:BA->Nat->Int->Int->WP,(∀H y E g w,bl2 R Xa X H y E g w->X H y E g w)->X H y E g w
def k1 (R:EP)(Xa:BA->Nat->Int->WP)(y:BA)(E:Nat)(g:Int)(U:Bool)(w:World):Prop:=br U (0<=(i64.wrap (g+1))/\(i64.wrap (g+1))<(y.size:Int)/\callE P bT #[kT (kE E),.int .u8 (bt y (i64.wrap (g+1)))] (λe O=>∃(V:Value),e= hQ V/\Xa y E (i64.wrap ((i64.wrap (g+1))+1)) O) w) (0<=g/\g<(y.size:Int)/\br ((bt y g)==38) (l2 R Xa y E g (i64.wrap (g+1)) w) (0<=g/\g<(y.size:Int)/\callE P bT #[kT (kE E),.int .u8 (bt y g)] (λe I=>∃(H:Value),e= hQ H/\Xa y E (i64.wrap (g+1)) I) w))
def bl1 (R:EP)(Xa:BA->Nat->Int->WP)(y:BA)(E:Nat)(g:Int)(w:World):Prop:=br (decide (g<(y.size:Int))) (0<=g/\g<(y.size:Int)/\((((bt y g)==92) && (decide ((i64.wrap (g+1))<(y.size:Int))))=true->0<=(i64.wrap (g+1))/\(i64.wrap (g+1))<(y.size:Int))/\br (((bt y g)==92) && (decide ((i64.wrap (g+1))<(y.size:Int)))) (callE P lG #[.int .u8 (bt y (i64.wrap (g+1)))] (λe O=>∃I,e= hQ (hV I)/\k1 R Xa y E g I O) w) (k1 R Xa y E g false w)) (callE P dl #[kT (kE E)] (λe U=>∃H,e= hQ (hX H)/\R (hQ (hX H)) U) w)
def l1 (R:EP)(E:BA)(g:Nat)(y:Int)(w:World):Prop:=∀X:BA->Nat->Int->WP,(∀E g y w,bl1 R X E g y w->X E g y w)->X E g y w
end bi
def bi (R:EP)(H:BA)(w:World):Prop:=box w #[] jt λb1 E=>box E #[kT none,hT none 0 0] cn λg y=>bi.l1 R H g 0 y
theorem bi.sound {R x1 w}(h:bi R x1 w):callE P gm #[.agg #[],hX x1] R w:=
 aH [(43,.lp [21,106,127] (bi.bl1 R) λXa=> [(49,.mk [21,106,127,400] (bi.k1 R Xa)),(2417,.lp [21,106,127,147] (bi.bl2 R Xa) λg=> []),(1905,.mk [21,106,127,147] (bi.k2 R Xa)),(3953,.mk [21,106,127] (bi.k3 R Xa))])] Tryz.func229 Tryz.call229 h
def na (R:EP)(g:BA)(w:World):Prop:=callE P iO #[hX g,hX (hP #[92])] (λe H=>∃E,e= hQ (hV E)/\br (!E) (callE P iO #[hX g,hX (hP #[38])] (λe I=>∃y,e= hQ (hV y)/\br (!y) (R (hQ (hX g)) I) (False)) H) (False)) w
theorem na.sound {R x0 w}(h:na R x0 w):callE P mR #[hX x0] R w:=
 aH [(29,.no),(7,.no)] Tryz.func228 Tryz.call228 h
namespace dW
def k2 (R:EP)(H:BA)(y g:Int)(w:World):Prop:=0<=y/\y<=g/\g<=(H.size:Int)/\callE P mR #[hX (H.extract (Int.toNat y) (Int.toNat g))] (λe I=>∃E,e= hQ (hX E)/\R (hQ (.tuple #[hX E,hY g,hV true])) I) w
def bl2 (R:EP)(Xa:BA->Int->Int->Int->WP)(y:BA)(H E g:Int)(w:World):Prop:=br (decide (g<(y.size:Int))) (0<=g/\g<(y.size:Int)/\br ((bt y g)==40) (False) (br ((bt y g)==41) (br (E==0) (k2 R y H g w) (False)) (br ((bt y g)==92) (False) (br ((bt y g)==32) (False) (br ((bt y g)==9) (False) (br ((bt y g)==10) (False) (Xa y H E (i64.wrap (g+1)) w))))))) (False)
def l2 (R:EP)(E:BA)(H y g:Int)(w:World):Prop:=∀X:BA->Int->Int->Int->WP,(∀E H y g w,bl2 R X E H y g w->X E H y g w)->X E H y g w
end dW
def dW (R:EP)(y:BA)(g:Int)(w:World):Prop:=br (decide (g >= (y.size:Int))) (False) (0<=g/\g<(y.size:Int)/\br ((bt y g)==60) (False) (dW.l2 R y g 0 g w))
theorem dW.sound {R x0 x1 w}(h:dW R x0 x1 w):callE P kh #[hX x0,hY x1] R w:=
 aH [(41,.no),(85,.no),(637,.lp [1,27,167,187] (dW.bl2 R) λXa=> [(14,.no),(169,.no),(7401,.no),(3049,.no),(22505,.no),(96233,.no),(12265,.no)]),(509,.mk [1,27,187] (dW.k2 R))] Tryz.func172 Tryz.call172 h
namespace aZ
def k7 (R:EP)(a7:OA)(W:BA)(b3:Int)(a6:OA)(y:Int)(I H:BA)(E:Int)(O g:Bool)(w:World):Prop:=br g (box w #[hT none 0 0,hX I,hX H,.int .u8 E,hV O] uk λU V=>R (hQ (.tuple #[kT (kE U),hY (i64.wrap (y+1)),hV true])) V) (False)
def k4 (R:EP)(V:OA)(y:BA)(W:Int)(U:OA)(g:Int)(I H:BA)(E:Int)(O:Bool)(w:World):Prop:=((decide (g<(y.size:Int)))=true->0<=g/\g<(y.size:Int))/\k7 R V y W U g I H E O ((decide (g<(y.size:Int))) && ((bt y g)==41)) w
def k3 (R:EP)(W:OA)(U:BA)(a6:Int)(V:OA)(g:Int)(I H:BA)(E:Int)(O y:Bool)(w:World):Prop:=br y (False) (k4 R W U a6 V g I H E O w)
def k1 (R:EP)(a7:OA)(y:BA)(b6:Int)(b5:OA)(U:Int)(b7 a6:BA)(V:Int)(W O:Bool)(w:World):Prop:=br O (callE P kh #[hX y,hY U] (λe b4=>∃I E H,e= hQ (.tuple #[hX I,hY E,hV H])/\br (!H) (False) (callE P kg #[hX y,hY E] (λe b3=>∃g,e= hQ (hY g)/\((decide (g<(y.size:Int)))=true->0<=g/\g<(y.size:Int))/\k3 R a7 y b6 b5 g I a6 V W ((decide (g<(y.size:Int))) && ((bt y g) !=41)) b3) b4)) w) (False)
end aZ
def aZ (R:EP)(O:OA)(g:BA)(E:Int)(I:OA)(w:World):Prop:=br (decide ((i64.wrap (E+1))<(g.size:Int))) (0<=(i64.wrap (E+1))/\(i64.wrap (E+1))<(g.size:Int)/\br ((bt g (i64.wrap (E+1)))==40) (callE P kg #[hX g,hY (i64.wrap (E+2))] (λe H=>∃y,e= hQ (hY y)/\((decide (y<(g.size:Int)))=true->0<=y/\y<(g.size:Int))/\aZ.k1 R O g E I y (hP #[]) (hP #[]) 0 false ((decide (y<(g.size:Int))) && ((bt g y) !=41)) H) w) (False)) (False)
theorem aZ.sound {R x0 x1 x2 x3 w}(h:aZ R x0 x1 x2 x3 w):callE P ej #[kT x0,hX x1,hY x2,kT x3] R w:=
 aH [(28501,.mk [2,21,47,62,227,241,261,288,300,980] (aZ.k1 R)),(1421141,.no),(2076501,.mk [2,21,47,62,227,241,261,288,300,1420] (aZ.k3 R)),(3125077,.no),(61269,.no),(16213,.mk [2,21,47,62,227,241,261,288,300] (aZ.k4 R)),(32597,.mk [2,21,47,62,227,241,261,288,300,1920] (aZ.k7 R)),(65365,.no),(469,.no),(29,.no),(7,.no)] Tryz.func123 Tryz.call123 h

theorem qG {s:List UInt8}{i:Nat}(hi:i<s.length)(h:kX (s.getD i 0)=false):oF s i=i:=by
 unfold oF;rw[lG1 hi,lH2 (by rw[m0 hi 0,h];decide)];simp;omega
theorem ri {s:List UInt8}(hs:s.length<4611686018427387904)(E:(92:UInt8) ∉ s)(y:(38:UInt8) ∉ s)(g:R (hQ (hX (bs s))) w):callE P mR #[hX (bs s)] R w:=by
 refine na.sound ?_;refine jO (sub:= [92]) hs (by decide) ⟨_,rfl,ag (by rw[kK E];rfl) ?_⟩;exact jO (sub:= [38]) hs (by decide) ⟨_,rfl,ag (by rw[kK y];rfl) g⟩
def yx (c:UInt8):Bool:=c !=40 && c !=41 && c !=92 && c !=32 && c !=9 && c !=10 && c !=38 && c !=60
theorem oG {s D:List UInt8}{i j:Nat}(hs:s.length<1000000)(V:i<j)(d1:j<s.length)(E:sub s i j=D)(H: ∀k,i<=k->k<j->yx (s.getD k 0)=true)(a6:s.getD j 0=41)(b3:R (hQ (.tuple #[hX (bs D),hY j,hV true])) w):callE P kh #[hX (bs s),hY i] R w:=by
 have nb: ∀k,i<=k->k<j-> ∀d:UInt8,(d=40\/d=41\/d=92\/d=32\/d=9\/d=10\/d=60)->(bt (bs s) (k:Int)==(d.toNat:Int))=false:=by
  intro k b4 b6 d hd;rw[oP,my];have:=H k b4 b6;simp only[yx,lK1,bne_iff_ne,ne_eq] at this;obtain⟨⟨⟨⟨⟨⟨⟨c9,b9⟩,e0⟩,b8⟩,d2⟩,c6⟩,c7⟩,d0⟩:=this;rcases hd with rfl|rfl|rfl|rfl|rfl|rfl|rfl<;>simpa using ‹_›
 refine dW.sound ?_;refine ae (by simp;omega) ⟨by omega,by simp;omega,ae (nb i (lZ0 _) V 60 (by decide)) ?_⟩;intro X U;have I: ∀c∈D,yx c=true:=by
  intro c hc;rw[<-E] at hc;obtain⟨m,y,rfl⟩:=lN6.1 hc;have d3:=pV (s:=s) (i:=i) (j:=j) (by omega)
  rw[m0 y 0];have e:(sub s i j).getD m 0=s.getD (i+m) 0:=by
   unfold sub;rw[Cm,lP0,lP0,lM3 (by omega)]
  rw[e];exact H _ (by omega) (by omega)
 have b7:D.length<1000000:=by rw[<-E,pV (by omega)];omega
 have W: ∀k m,m+k=j->i<=m->X (bs s) (i:Int) 0 (m:Int) w:=by
  intro k
  induction k with
  |zero=>
   intro m y O;obtain rfl:m=j:=y;have a7:bt (bs s) (m:Int)=41:=by rw[oP,a6];rfl
   refine U _ _ _ _ _ (ag (by simp;omega) ⟨by omega,by simp;omega,?_⟩);rw[a7];refine ae rfl (ag rfl (ag rfl ⟨by omega,by omega,by simp;omega,?_⟩));rw[lC0,lC0,bV,show (s.take m).drop i=D from E];exact ri (by omega) (λh=>by have:=I _ h;revert this;decide) (λh=>by have:=I _ h;revert this;decide) ⟨_,rfl,b3⟩
  |succ k b5=>
   intro m y O;have g:=nb m O (by omega);refine U _ _ _ _ _ (ag (by simp;omega) ⟨by omega,by simp;omega,?_⟩);refine ae (g 40 (by decide)) (ae (g 41 (by decide)) (ae (g 92 (by decide)) (ae (g 32 (by decide)) (ae (g 9 (by decide)) (ae (g 10 (by decide)) ?_)))));rw[aN (by omega)];exact b5 (m+1) (by omega) (by omega)
 exact W (j - i) i (by omega) (lZ0 _)
theorem yk {A B:List UInt8}{i:Nat}(h:A.length=i)(k:Nat):(A++B).getD (i+k) 0=B.getD k 0:=by
 subst h;rw[pw (by omega),lX5]
theorem yy {b:Nat}{p:PS}{A B D t:List UInt8}{k:Nat}(a6:(A++93::40::(D++41::B)).length<1000000)(W:D≠ [])(O: ∀c∈D,yx c=true/\kX c=false):
 vt b p (A++93::40::(D++41::B)) A.length t k [] D [] 0 false (A.length+3+D.length):=by
 intro σ R L w ob e _ _ _ h a7;generalize hs:A++93::40::(D++41::B)=s at a6⊢;have b4:s.length=A.length+3+D.length+B.length:=by rw[<-hs];simp;omega
 have I:=lY0.2 W;have b3:s.getD (A.length+1) 0=40:=by rw[<-hs,yk rfl];rfl
 have U: ∀m (H:m<D.length),s.getD (A.length+2+m) 0=D[m]:=by
  intro m H;rw[<-hs,show A.length+2+m=A.length+(m+2) by omega,yk rfl]
  show (D++41::B).getD m 0=_
  rw[m7 H,<-m0 H]
 have g:s.getD (A.length+2+D.length) 0=41:=by
  rw[<-hs,show A.length+2+D.length=A.length+(D.length+2) by omega,yk rfl];exact uW D B 41 0
 refine aZ.sound ?_;unfold aZ;rw[aN (by omega),show i64.wrap ((A.length:Int)+2)=((A.length+2:Nat):Int) by rw[show ((A.length:Int)+2)=((A.length+2:Nat):Int) by omega,i64_in _ (by omega)]];refine ag (by simp;omega) ⟨by omega,by simp;omega,?_⟩;rw[oP,b3];refine ag rfl ?_;have y:=U 0 I;rw[lN1] at y;have E:=O D[0] (lP1 I);refine rN (by omega) (by omega) ⟨_,rfl,?_⟩;rw[qG (by omega) (by rw[y];exact E.2)];refine⟨λ_=>⟨by omega,by simp;omega⟩,?_⟩;rw[oP,y];refine ag ?_ ?_
 ·have V:D[0]≠41:=by intro h;rw[h] at E;exact absurd E.1 (by decide)
  rw[bne,u8b D[0] 41 41 rfl];simp[V];omega
 refine oG (D:=D) (j:=A.length+2+D.length) (by omega) (by omega) (by omega) ?_ (λm b5 b6=>?_) g ⟨_,_,_,rfl,ae rfl ?_⟩
 ·unfold sub;rw[<-hs,show A++93::40::(D++41::B)=(A++ [93,40])++(D++41::B) by simp,<-lD0,lB5 (by simp;omega),lA5 (by simp)]
 ·obtain⟨d,rfl⟩: ∃d,m=A.length+2+d:=⟨m - (A.length+2),by omega⟩
  rw[U d (by omega)];exact(O _ (lP1 _)).1
 refine rN (by omega) (by omega) ⟨_,rfl,?_⟩;rw[qG (by omega) (by rw[g];decide)];refine⟨λ_=>⟨by omega,by simp;omega⟩,?_⟩;rw[oP,g];refine ae (by rw[show (((41:UInt8).toNat:Int) !=41)=false from rfl,Bool.and_false]) ⟨λ_=>⟨by omega,by simp;omega⟩,?_⟩;rw[oP,g];refine ag (by rw[show (((41:UInt8).toNat:Int)==41)=true from rfl,Bool.and_true];simp;omega) ?_;rw[aN (by omega),show A.length+2+D.length+1=A.length+3+D.length by omega];exact Sat.bx h λlb w h=>a7 w lb h

def tkS (tk:UInt8->List UInt8)(s:List UInt8):List UInt8:=s.flatMap tk
@[simp] theorem tkS_nil (tk:UInt8->List UInt8):tkS tk []= []:=rfl
@[simp] theorem tkS_cons (tk:UInt8->List UInt8) (c:UInt8) (s:List UInt8):tkS tk (c::s)=tk c++tkS tk s:=lJ3 ..
@[simp] theorem FP (tk:UInt8->List UInt8) (s t:List UInt8):tkS tk (s++t)=tkS tk s++tkS tk t:=lG5 ..

def As (c:ai):Prop:= ∃cs e g,c=(1,.cells cs e g)/\ ∀i:Nat,i<12-> ∃a b:List UInt8,cs[2*i]? =some (hX (bs a))/\cs[2*i+1]? =some (hX (bs b))/\b.length<=10/\b≠ []
theorem th {c:ai}{s:List UInt8}(O:As c)(hc:c∈L)(h:Sat σ w L)(g: ∀(t:List UInt8) (k:Bool),t.length<=10->(k=true->t≠ [])->R (hQ (.tuple #[hX (bs t),hV k])) w):callE P mY #[hX (bs s)] R w:=by
 obtain⟨cs,e,a7,rfl,I⟩:=O;have hb:=h.at_ _ hc;refine gw.sound ?_;intro X y;have E: ∀k i:Nat,i+k=12->X (bs s) (i:Int) w:=by
  intro k
  induction k with
  |zero=>
   intro i hi;exact y _ _ _ (ae (by simp;omega) (g [] false (by simp) (by simp)))
  |succ k W=>
   intro i hi;obtain⟨a,b,a6,U,V,H⟩:=I i (by omega);refine y _ _ _ (ag (by simp;omega) ⟨by omega,by omega,by decide,by decide,bs a,?_,?_⟩)
   ·simp only[lK0,lC0,lN0];rw[nr hb,<-a6];congr 1;simp;omega
   refine bJ (λ_=>⟨by omega,by omega,by decide,by decide,bs b,?_,g b true V λ_=>H⟩) λ_=>?_
   ·simp only[lK0,lC0,lN0];rw[nr hb,<-U];congr 1;simp;omega
   ·rw[aN (by omega)];exact W (i+1) (by omega)
 exact E 12 0 rfl
def UnE (s t:List UInt8):Prop:=t.length<=10*s.length/\((∀c∈s,c≠92/\c≠38)->t=s)
theorem xJ {s:List UInt8}{ec:ai}(e2:s.length<1000000)(c9:As ec)(c4:ec∈L)(h:Sat σ w L)(d1: ∀w t,UnE s t->Sat σ w L->R (hQ (hX (bs t))) w):
 callE P gm #[.agg #[],hX (bs s)] R w:=by
 refine bi.sound ?_;refine Sat.bx h λb0 w h=>?_
 refine Sat.bx h λb w h=>?_
 intro X b8;have c8: ∀(n i:Nat) (E:List UInt8) (g:Bool) (M:List ai) w,i+n=s.length->E.length<=10*i->((∀c∈s,c≠92/\c≠38)->E=s.take i)->Bld b g E M->Sat σ w (M++((b0,cel [] jt)::L))->
  X (bs s) b (i:Int) w:=by
  intro n
  induction n using Nat.strongRecOn with
  |_ n b3=>
  intro i E g M w e0 e1 b6 W h
  by_cases d2:n=0
  ·subst d2;refine b8 _ _ _ _ (ae (by simp;omega) ?_);refine sM W h (by omega) λw h=>⟨_,rfl,d1 w E ⟨by omega,λhc=>?_⟩ h.tail⟩
   rw[b6 hc,lB2 (by omega)]
  have H:i<s.length:=by omega
  have a6:i64.wrap ((i:Int)+1)=((i+1:Nat):Int):=aN (by omega)
  have b4: ∀w,Sat σ w (M++((b0,cel [] jt)::L))->callE P bT #[kT (kE b),.int .u8 (bt (bs s) (i:Int))] (λe c1=> ∃(b9:Value),e= hQ b9/\X (bs s) b (i64.wrap ((i:Int)+1)) c1) w:=by
   intro w h;rw[oO H];refine yD (k:=s[i]) W h (by omega) λw O I U=>⟨_,rfl,?_⟩
   rw[a6];refine b3 (n - 1) (by omega) (i+1) (E++ [s[i]]) _ O w (by omega) (by simp;omega) (λhc=>?_) I U;rw[b6 hc,lF1 H]
  have k3: ∀w,Sat σ w (M++((b0,cel [] jt)::L))->bi.k3 R X (bs s) b (i:Int) w:=λw h=>⟨by omega,by simp;omega,b4 w h⟩
  have b5:bi.k1 R X (bs s) b (i:Int) false w:=by
   refine ae rfl ⟨by omega,by simp;omega,bJ (λV=>?_) λ_=>⟨by omega,by simp;omega,b4 w h⟩⟩;have V:s[i]=38:=by rw[oO H,u8b _ 38 38 rfl] at V;simpa using V
   have a7: ¬ ∀c∈s,c≠92/\c≠38:=λhc=>(hc s[i] (lP1 H)).2 V
   rw[a6];intro Y b7;have go: ∀m j:Nat,i<j->j+m=s.length->Y (bs s) b (i:Int) (j:Int) w:=by
    intro m
    induction m with
    |zero=>
     intro j c5 d3;refine b7 _ _ _ _ _ ⟨λy=>by simp at y;omega,ae (by simp;omega) ?_⟩;exact ae (by simp;omega) (k3 w h)
    |succ m c2=>
     intro j c5 d3;refine b7 _ _ _ _ _ ⟨λy=>⟨by omega,by simp;omega⟩,bJ (λ_=>?_) λ_=>?_⟩
     ·rw[aN (by omega)];exact c2 (j+1) (by omega) (by omega)
     ·refine ag (by simp;omega) ?_;rw[aN (by omega)];refine⟨by omega,by omega,by simp;omega,?_⟩;rw[lC0,lC0,bV];refine th c9 (lB0 _ (.tail _ c4)) h λt k ht c3=>⟨_,_,rfl,bJ (λd0=>?_) λ_=>k3 w h⟩
      refine sN (s:=t) W h (.inl (c3 d0)) (by omega) λw O I U=>⟨_,_,rfl,?_⟩
      exact b3 (n - (j+1 - i)) (by omega) (j+1) (E++t) _ O w (by omega) (by simp;omega) (λhc=>absurd hc a7) I U
   exact go (s.length - (i+1)) (i+1) (by omega) (by omega)
  refine b8 _ _ _ _ (ag (by simp;omega) ⟨by omega,by simp;omega,?_⟩);rw[a6];refine⟨λy=>?_,bJ (λy=>?_) λ_=>b5⟩
  ·simp at y;exact⟨by omega,by simp;omega⟩
  have y:s[i]=92/\i+1<s.length:=by
   rw[oO H,u8b _ 92 92 rfl] at y;simp at y;exact⟨y.1,by omega⟩
  have a7: ¬ ∀c∈s,c≠92/\c≠38:=λhc=>(hc s[i] (lP1 H)).1 y.1
  rw[oO y.2];refine tQ ⟨_,rfl,?_⟩;cases puB s[i+1] with
  |false=>exact b5
  |true=>
   refine ag rfl ?_;rw[a6];refine⟨by omega,by simp;omega,?_⟩;rw[oO y.2];refine yD (k:=s[i+1]) W h (by omega) λw O I U=>⟨_,rfl,?_⟩
   rw[aN (by omega)];exact b3 (n - 2) (by omega) (i+2) (E++ [s[i+1]]) _ O w (by omega) (by simp;omega) (λhc=>absurd hc a7) I U
 exact c8 s.length 0 [] false _ w (by omega) (by simp) (λ_=>rfl) (CC b) h

theorem sE {c:UInt8}{l:List UInt8}: ∀f i,kr [c] l f i=none->l.length<i+f-> ∀j,i<=j->l[j]? ≠some c
 |0,i,_,hl,j,hj=>by rw[lS1 (by omega)];simp
 |f+1,i,h,hl,j,hj=>by
  simp only[kr,lE0] at h;split at h
  ·rename_i hi;split at h
   ·cases h
   ·rename_i E;rcases lL4 i j with g|g
    ·exact sE f (i+1) h (by omega) j g
    ·obtain rfl:j=i:=by omega
     intro hc;apply E;have y:j<l.length:=by omega
     rw[lI0 y,lH1] at hc;rw[lG1 y,hc];rfl
  ·rename_i hi;rw[lS1 (by omega)];simp
theorem Ft {c:UInt8}{l:List UInt8}(y:c∈l):(idx l [c]).isSome=true:=by
 cases h:idx l [c] with
 |some _=>rfl
 |none=>
  obtain⟨j,g,rfl⟩:=lN6.1 y;exact absurd (lI0 g) (sE _ _ h (by omega) j (lC2 _))

def tD (c:UInt8)(s:List UInt8):Nat:=(s.takeWhile (· ==c)).length
theorem vO (c:UInt8)(s:List UInt8):s.take (tD c s)=hN (tD c s) c:=by
 induction s with
 |nil=>rfl
 |cons d s g=>
  by_cases h:d=c
  ·subst h;simp only[tD,lC3,beq_self_eq_true,if_true,lF0,lF5,lX1];exact congrArg _ g
  ·simp[tD,lC3,h]
theorem Dc {c:UInt8}{s:List UInt8}{k:Nat}(h:k<tD c s):s[k]? =some c:=by
 have g:=vO c s;have y:tD c s<=s.length:=(lD6 _).length_le;have:(s.take (tD c s))[k]? =some c:=by rw[g];simp[h]
 rwa [lM3 h] at this
theorem Dd {c:UInt8}{s:List UInt8}:s[tD c s]? ≠some c:=by
 induction s with
 |nil=>simp[tD]
 |cons d s g=>
  by_cases h:d=c
  ·subst h;simp only[tD,lC3,beq_self_eq_true,if_true,lF0,lZ2];exact g
  ·simp[tD,lC3,h]
theorem E4 (c:UInt8)(s:List UInt8):tD c s<=s.length:=(lD6 _).length_le
def Ln.adv (l:Ln)(k:Nat):Ln:= {l with i:=l.i+k}
def ra (l:Ln)(n:Nat)(c:UInt8)(t info:List UInt8):Prop:=
 (c=96\/c=126)/\3<=n/\(l.strip 3 0).2.peek=c/\n=tD c ((l.strip 3 0).2.text.drop (l.strip 3 0).2.i)/\UnE (gf cL ((l.strip 3 0).2.text.drop ((l.strip 3 0).2.i+n))) t/\info=gf cL t/\(c=96->96 ∉ t)
def xg (l:Ln):Prop:=
 ((l.strip 3 0).2.peek≠96/\(l.strip 3 0).2.peek≠126)\/(tD (l.strip 3 0).2.peek ((l.strip 3 0).2.text.drop (l.strip 3 0).2.i)<3)\/
 ((l.strip 3 0).2.peek=96/\ ∃t,UnE (gf cL ((l.strip 3 0).2.text.drop ((l.strip 3 0).2.i+tD 96 ((l.strip 3 0).2.text.drop (l.strip 3 0).2.i)))) t/\96∈t)
theorem AR (p:UInt8->Bool)(s:List UInt8):(gf p s).length<=s.length:=by
 unfold gf vC;have g:=(lO2 p (l:=(s.dropWhile p).reverse)).length_le;have y:=(lO2 p (l:=s)).length_le;rw[List.length_reverse] at g⊢;omega
theorem oZ {b nb g ib:Nat}{l:Ln}{v:Int}{W b3:List UInt8}{e I H:TypeId}{ec:ai}(h:Sat σ w (l.at b::(nb,cel [hY v] e)::(ib,cel [hX (bs b3)] H)::(g,cel [hX (bs W)] I)::L))(d3:l.ok)(c3:l.text.length<100000)(d1:As ec)(c9:ec∈L)(V:xg l-> ∀w v,Sat σ w (l.at b::(nb,cel [hY v] e)::(ib,cel [hX (bs b3)] H)::(g,cel [hX (bs W)] I)::L)->R (hQ (hV false)) w)(a6: ∀n c t info,ra l n c t info-> ∀w,Sat σ w (Ln.zero.at b::(nb,cel [hY ((l.strip 3 0).1:Nat)] e)::(ib,cel [hX (bs info)] H)::(g,cel [hX (bs (hN n c))] I)::L)->R (hQ (hV true)) w):
 callE P fH #[kT (kE b),kT (kE g),kT (kE ib),kT (kE nb)] R w:=by
 refine bz.sound ?_
 repeat (first|refine aa ?_|refine h.tk λw h=>?_|refine⟨_,h.ldA,?_⟩|refine⟨_,_,_,h.ldA,?_⟩|refine h.stA 0 λw h=>?_|refine h.stA 1 λw h=>?_|refine h.stA 2 λw h=>?_|refine h.stA 3 λw h=>?_|refine h.stA 4 λw h=>?_|refine h.stA 5 λw h=>?_|refine h.stA 6 λw h=>?_|refine h.bx λb0 w h=>?_)
 let U:List ai:=(ib,cel [hX (bs b3)] H)::(g,cel [hX (bs W)] I)::L
 have h:Sat σ _ (l.at b0::l.at b::(nb,cel [hY 0] e)::U):=h
 have fin: ∀(n:Nat) (t:Ln) w,t.ok->t.text.length<100000->(n,t)=l.strip 3 0->Sat σ w (t.at b0::l.at b::(nb,cel [hY n] e)::U)->bz.k2 R (kE b) (kE g) (kE ib) b0 w:=by
  intro n t w ht b4 c5 h;unfold xg at V;unfold ra at a6;rw[<-c5] at V a6;simp only at V a6;refine lS h (by first|assumption|(repeat (first|exact .head _|apply List.Mem.tail))) ht λw h=>⟨_,rfl,?_⟩
  by_cases hc:t.peek=96\/t.peek=126
  ·have k3:bz.k3 R (kE b) (kE g) (kE ib) b0 (t.peek.toNat:Int) true w:=by
    refine ag rfl ?_;have c8:t.sp=0:=by
     unfold Ln.peek at hc;split at hc
     ·rcases hc with hc|hc<;>exact absurd hc (by decide)
     ·omega
    have c4:t.str=t.text.drop t.i:=by unfold Ln.str;rw[c8];rfl
    generalize e1:t.peek=c at hc V a6⊢;have e4:=ht.i;have hr:=E4 c (t.text.drop t.i);simp only[lL1] at hr;refine o5 h (by first|assumption|(repeat (first|exact .head _|apply List.Mem.tail))) ht λw h=>⟨_,rfl,?_⟩
    rw[c4];intro X a7;have c1: ∀k,t.i+k<=t.text.length->(t.adv k).ok:=λk y=>⟨y,by show t.tab<=t.i+k;have:=ht.tab;omega,ht.len,ht.sp⟩
    have c2: ∀k:Nat,(t.adv k).text[(t.adv k).i]? =(t.text.drop t.i)[k]? :=by intro k;rw[lJ4];rfl
    have b7: ∀m k w,k+m=tD c (t.text.drop t.i)->Sat σ w ((t.adv k).at b0::l.at b::(nb,cel [hY n] e)::U)->X (kE b) (kE g) (kE ib) b0 (c.toNat:Int) (bs (t.text.drop t.i)) (k:Int) (k:Int) w:=by
     intro m
     induction m with
     |succ m b9=>
      intro k w y h;refine a7 _ _ _ _ _ _ _ _ _ ?_;have b5:=c1 k (by omega);refine trimC_ok (c:=c) rfl h b5 ?_;have:(t.adv k).trimC c=some (t.adv (k+1)):=by
       unfold Ln.trimC;rw[if_neg (by show ¬ 0<t.sp;omega),if_pos (by rw[c2];exact Dc (by omega))];rfl
      rw[this];intro w h;refine⟨_,rfl,ae rfl ?_⟩;rw[aN (by omega)];exact b9 (k+1) w (by omega) h
     |zero=>
      intro k w y h;rw[lN1] at y;refine a7 _ _ _ _ _ _ _ _ _ ?_;have b5:=c1 k (by omega);refine trimC_ok (c:=c) rfl h b5 ?_;have:(t.adv k).trimC c=none:=by
       unfold Ln.trimC;rw[if_neg (by show ¬ 0<t.sp;omega),if_neg (by rw[c2,y];exact Dd)]
      rw[this];intro w h;refine⟨_,rfl,ag rfl ?_⟩
      by_cases e3:k<3
      ·exact ae (by simp;omega) (V (.inr (.inl (by rw[<-y];omega))) _ _ h.tail)
      refine ag (by simp;omega) ?_;refine un h (by first|assumption|(repeat (first|exact .head _|apply List.Mem.tail))) b5 λw h=>⟨_,rfl,?_⟩
      have e2:=AR cL ((t.adv k).text.drop (t.adv k).i);have e5:((t.adv k).text.drop (t.adv k).i).length<=t.text.length:=by rw[lL1];exact Nat.sub_le _ _
      refine xJ (by omega) d1 (by simp[U,c9]) h λw u b8 h=>⟨_,rfl,?_⟩
      have e0:u.length<1000000:=by have:=b8.1;omega
      have k4: ∀w,(c=96->96 ∉ u)->Sat σ w ((t.adv k).at b0::l.at b::(nb,cel [hY n] e)::U)->bz.k4 R (kE b) (kE g) (kE ib) (bs (t.text.drop t.i)) (k:Int) (bs u) w:=by
       intro w d0 h;refine j4 (by omega) ⟨_,rfl,aa ?_⟩;have h:Sat σ w ((t.adv k).at b0::l.at b::(nb,cel [hY n] e)::(ib,cel [hX (bs b3)] H)::(g,cel [hX (bs W)] I)::L):=h
       have h:Sat σ w ((ib,cel [hX (bs b3)] H)::(g,cel [hX (bs W)] I)::l.at b::(t.adv k).at b0::(nb,cel [hY n] e)::L):=h.re
       refine h.stA 0 λw h=>?_
       refine⟨by omega,by simp;omega,aa ?_⟩;rw[lC0,bV,lL2,y,vO,<-y];refine h.stA 1 λw h=>?_
       have h:Sat σ _ ((ib,cel [hX (bs (gf cL u))] H)::(g,cel [hX (bs (hN k c))] I)::l.at b::(t.adv k).at b0::(nb,cel [hY n] e)::L):=h
       have h:Sat σ _ (l.at b::(ib,cel [hX (bs (gf cL u))] H)::(g,cel [hX (bs (hN k c))] I)::(t.adv k).at b0::(nb,cel [hY n] e)::L):=h.re
       refine aa ?_;refine h.stA 0 λw h=>?_
       refine h.stA 0 λw h=>?_
       refine h.stA 0 λw h=>?_
       refine h.stA 0 λw h=>?_
       refine h.stA 0 λw h=>?_
       have h:Sat σ _ (Ln.zero.at b::(ib,cel [hX (bs (gf cL u))] H)::(g,cel [hX (bs (hN k c))] I)::(t.adv k).at b0::(nb,cel [hY n] e)::L):=h
       refine a6 k c u _ ⟨hc,by omega,rfl,y,b8,rfl,d0⟩ _ ?_;exact h.less [(t.adv k).at b0]
      by_cases O:c=96
      ·subst O;refine ag rfl ?_;refine jO (sub:= [96]) (by omega) (by decide) ⟨_,rfl,?_⟩
       by_cases b6:96∈u
       ·refine ag ?_ (V (.inr (.inr ⟨rfl,u,by rw[<-y];exact b8,b6⟩)) _ _ h.tail);rw[Ft b6]
       ·exact ae (by rw[kK b6];rfl) (k4 w (λ_=>b6) h)
      ·exact ae (by rw[u8b _ 96 96 rfl];simpa using O) (k4 w (λd2=>absurd d2 O) h)
    have h:Sat σ w ((t.adv 0).at b0::l.at b::(nb,cel [hY n] e)::U):=h
    exact b7 _ 0 w (lN0 _) h
   by_cases O:t.peek=96
   ·exact ag (by rw[u8b _ 96 96 rfl];simpa using O) k3
   ·refine ae (by rw[u8b _ 96 96 rfl];simpa using O) ?_;rw[u8b _ 126 126 rfl];rw[show (t.peek==126)=true by have:=hc.resolve_left O;simpa using this];exact k3
  ·have E:t.peek≠96/\t.peek≠126:=by simpa using hc
   rw[ue (d:=126) (n:=126) rfl E.2];exact ae (ue (d:=96) rfl E.1) (ae rfl (V (.inl E) _ _ h.tail))
 intro X a7;have b7: ∀k n (t:Ln) w,t.ok->t.text.length<100000->k+n=3->t.strip k n=l.strip 3 0->Sat σ w (t.at b0::l.at b::(nb,cel [hY n] e)::U)->
  X (kE b) (kE g) (kE ib) (kE nb) b0 w:=by
  intro k n t w ht b4 y E h
  induction k generalizing n t w with
  |zero=>
   refine a7 _ _ _ _ _ _ ?_
   repeat (first|refine aa ?_|refine h.tk λw h=>?_|refine⟨_,h.ldA,?_⟩|refine⟨_,_,_,h.ldA,?_⟩)
   exact ae (by simp;omega) (fin n t w ht b4 E h)
  |succ k b9=>
   refine a7 _ _ _ _ _ _ ?_
   repeat (first|refine aa ?_|refine h.tk λw h=>?_|refine⟨_,h.ldA,?_⟩|refine⟨_,_,_,h.ldA,?_⟩)
   refine ag (by simp;omega) ?_;refine YtendaipfdnhnaaaGreatDoor.trimSp_ok (min:=1) (max:=1) h ht (by decide) (by decide) ?_;simp only[Ln.strip] at E;cases hs:t.trimSp 1 1 false with
   |none=>
    rw[hs] at E;exact λw h=>⟨_,rfl,ae rfl (fin n t w ht b4 E h)⟩
   |some t'=>
    rw[hs] at E;intro w h;refine⟨_,rfl,ag rfl ?_⟩
    repeat (first|refine aa ?_|refine h.tk λw h=>?_|refine⟨_,h.ldA,?_⟩|refine⟨_,_,_,h.ldA,?_⟩|refine h.stA 0 λw h=>?_|refine h.stA 1 λw h=>?_|refine h.stA 2 λw h=>?_|refine h.stA 3 λw h=>?_|refine h.stA 4 λw h=>?_|refine h.stA 5 λw h=>?_|refine h.stA 6 λw h=>?_|refine h.bx λb0 w h=>?_)
    rw[aN (by omega)] at h;refine b9 (n+1) t' _ (Ln.trimSp_ok ht hs) ?_ (by omega) E h;rw[(Ln.tsGo_ok 1 0 ht hs).2.1];exact b4
 exact b7 3 0 l _ d3 c3 rfl rfl h

theorem Sat.allocO (h:Sat σ w L)(o:Obj):Sat σ (w.alloc o) ((w.heap.size,o)::L):=by
 refine⟨h.os,h.out,?_,λc hc=>?_⟩
 ·simp only[lY1,lV3];refine⟨λy=>?_,h.nodup⟩;obtain⟨c,hc,E⟩:=lZ1.1 y;exact lO6 _ (E▸h.lt hc)
 ·cases hc with
  |head=>exact(lG4 ..).trans rfl
  |tail _ hc=>
   have g:=h.lt hc;have:=h.at_ _ hc
   show (w.heap.push o)[c.1]? =_
   rw[lN4 g,<-lP2 g];exact this
theorem Sat.setO (b:Nat)(o o':Obj)(h:Sat σ w ((b,o)::L)):Sat σ {w with heap:=w.heap.setIfInBounds b o'} ((b,o')::L):=by
 have g:=h.nodup;simp only[lY1,lV3] at g;have hb:b<w.heap.size:=h.lt (.head _);refine⟨h.os,h.out,by simp only[lY1,lV3];exact g,λc hc=>?_⟩;cases hc with
 |head=>simp[hb]
 |tail _ hc=>
  have E:c.1≠b:=λy=>g.1 (y▸lE5 hc)
  have:=h.at_ _ (.tail _ hc)
  show (w.heap.setIfInBounds b o')[c.1]? =_
  rw[lR4 (λy=>E y.symm)];exact this
theorem Dj {s:ByteArray}(h:Sat σ w L){K:Value->World->Prop}(y: ∀w b,Sat σ w ((b,.stringIter s 0)::L)->K (kT (kE b)) w):
 ∃v g,(Instr.range aq (hX s)).run P w= .ok v g/\K v g:=
 ⟨_,_,run_range_string (P:=P) w aq s (by kernel_rfl),y _ _ (h.allocO _)⟩
theorem Fh {b pos:Nat}{s:ByteArray}{ty:TypeId}(h:Sat σ w ((b,.stringIter s pos)::L))(g:pos<s.size)(I:(s[pos]'g).toNat<128){K:Int->Int->World->Prop}(H: ∀w,Sat σ w ((b,.stringIter s (pos+1))::L)->K pos (s[pos]'g).toNat w):
 ∃r0 E y,(Instr.next (kT (kE b)) true ty).run P w= .ok (.tuple #[hV true,hY r0,.int .i32 E]) y/\K r0 E y:=by
 have hb:=h.at_ _ (.head _);refine⟨_,_,_,?_,H _ (h.setO b _ (.stringIter s (pos+1)))⟩;have hd:=decode_ascii s pos g I;simp only[Instr.next,getObj,setObj,lW0,Sem.run,hb,Result.andThen,g,if_true,hd];simp[goInt,Sem.run,hb]
theorem Dr {b pos:Nat}{s:ByteArray}{ty:TypeId}(h:Sat σ w ((b,.stringIter s pos)::L))(g: ¬ pos<s.size):(Instr.next (kT (kE b)) true ty).run P w= .ok (.tuple #[hV false]) w:=by
 have hb:=h.at_ _ (.head _);simp[Instr.next,getObj,Sem.run,hb,g]

def oV (g:Nat)(F info:List UInt8)(q:Option Addr)(n c:Nat):ai:=(g,cel [hX (bs F),hX (bs info),hY 0,hT q n c] mC)
def xh (y:Nat)(F info:List UInt8)(ls:List (List UInt8))(M:List ai):Prop:=
 ∃q c g,Sl 1 aq q ls.length c (sv ls) g/\M=oV y F info q ls.length c::g
theorem oo:mO P gA "pub-paratext/pub/rscmarkdown.extend" gn=true:=by kernel_rfl
theorem uI:mO P gA "pub-paratext/pub/rscmarkdown.build" gU=true:=by kernel_rfl
theorem xw (l:Ln)(e:Bool):l.trimSp 0 0 e=some l:=rfl
def CO (F:List UInt8)(l:Ln):Prop:= ¬ xg l/\ ∀n c t info,ra l n c t info->(hN n c).take F.length=F/\info= []
def vp (F:List UInt8)(l:Ln):Prop:= ∀n c t info,ra l n c t info->(hN n c).take F.length≠F
theorem qQ {g b:Nat}{p:PS}{F info:List UInt8}{ls:List (List UInt8)}{c3:List ai}{l:Ln}{ec:ai}(h:Sat σ w (p.at b::(c3++L)))(e5:xh g F info ls c3)(c5:l.ok)(e9:ls.length<1048576)(e1:l.text.length<100000)(e2:As ec)(e0:ec∈L)(d2:vp F l-> ∀w (p':PS) c9,p'= {p with corner:=p'.corner}->xh g F info (ls++ [l.str]) c9->Sat σ w (p'.at b::(c9++L))->R (hQ (.tuple #[Ln.zero.val,hV true])) w)(d1: ¬ vp F l-> ∀w,Sat σ w (p.at b::(c3++L))->R (hQ (.tuple #[Ln.zero.val,hV false])) w)(c1:vp F l\/CO F l):callE P gn #[kT (kE g),kT (kE b),l.val] R w:=by
 obtain⟨q,c,a6,e3,rfl⟩:=e5;refine bA.sound ?_;refine Sat.bx h λb1 w h=>?_
 refine Sat.bx h λy w h=>?_
 refine Sat.bx h λE w h=>?_
 refine Sat.bx h λI w h=>?_
 refine Sat.bx h λH w h=>?_
 repeat (first|refine aa ?_|refine h.tk λw h=>?_|refine⟨_,h.ldA,?_⟩|refine⟨_,_,_,h.ldA,?_⟩|refine h.stA 0 λw h=>?_|refine h.stA 1 λw h=>?_|refine h.stA 2 λw h=>?_|refine h.stA 3 λw h=>?_|refine h.stA 4 λw h=>?_|refine h.stA 5 λw h=>?_|refine h.stA 6 λw h=>?_|refine h.bx λb0 w h=>?_)
 have h:Sat σ _ (l.at b0::(H,cel [hY 0] bg)::(I,cel [hX (bs [])] aq)::(E,cel [hX (bs [])] aq)::(zLn y::l.at b1::(p.at b::(oV g F info q ls.length c::a6++L)))):=h
 have k1: ∀w (O:Ln) (v:Int) (i f:List UInt8),vp F l->Sat σ w (O.at b0::(H,cel [hY v] bg)::(I,cel [hX (bs i)] aq)::(E,cel [hX (bs f)] aq)::(zLn y::l.at b1::(p.at b::(oV g F info q ls.length c::a6++L))))->
  bA.k1 R (kE g) (kE b) b1 y w:=by
  intro w O v i f c4 h;have h:Sat σ w (l.at b1::oV g F info q ls.length c::zLn y::p.at b::(a6++(O.at b0::(H,cel [hY v] bg)::(I,cel [hX (bs i)] aq)::(E,cel [hX (bs f)] aq)::L))):=h.re
  refine h.tk λw h=>?_
  refine aa (aa ?_);refine⟨_,Sat.ld h (.tail _ (.head _)) (i:=2) rfl,_,Sat.ld h (.tail _ (.head _)) (i:=2) rfl,?_⟩;refine trimSp_ok (min:=0) (max:=0) h c5 (by decide) (by decide) ?_;rw[xw];intro w h;refine⟨_,rfl,ae rfl ?_⟩;unfold bA.k2;refine h.tk λw h=>?_
  refine aa ?_;refine⟨_,_,_,Sat.ld h (.tail _ (.head _)) (i:=3) rfl,?_⟩;have e8:=h;refine o5 h (.head _) c5 λw h=>⟨_,rfl,e8.same h (.tail _ (.head _)) (.tail _ (.head _)) 1,?_⟩
  have h:Sat σ w (a6++(l.at b1::oV g F info q ls.length c::zLn y::p.at b::(O.at b0::(H,cel [hY v] bg)::(I,cel [hX (bs i)] aq)::(E,cel [hX (bs f)] aq)::L))):=h.re
  have b8:oV g F info q ls.length c∈(a6++(l.at b1::oV g F info q ls.length c::zLn y::p.at b::(O.at b0::(H,cel [hY v] bg)::(I,cel [hX (bs i)] aq)::(E,cel [hX (bs f)] aq)::L))):=by simp
  have e4:=h;refine Sat.app1S rowStr e3 h (v:= hX (bs l.str)) rfl (by simp[Value.cells,Value.oneCell']) (DE l.str) (by omega) (by omega) (by decide) (λf0 X e7=>e4.same e7 b8 (.tail _ b8) 1) λW V w U d3 h=>?_
  have h:Sat σ w (oV g F info q ls.length c::p.at b::zLn y::l.at b1::(U++(O.at b0::(H,cel [hY v] bg)::(I,cel [hX (bs i)] aq)::(E,cel [hX (bs f)] aq)::L))):=h.re
  refine aa ?_;refine h.stA 0 λw h=>?_
  have h:Sat σ w (p.at b::zLn y::l.at b1::oV g F info W (ls.length+1) V::(U++(O.at b0::(H,cel [hY v] bg)::(I,cel [hX (bs i)] aq)::(E,cel [hX (bs f)] aq)::L))):=by
   have h:Sat σ w (oV g F info W (ls.length+1) V::p.at b::zLn y::l.at b1::(U++(O.at b0::(H,cel [hY v] bg)::(I,cel [hX (bs i)] aq)::(E,cel [hX (bs f)] aq)::L))):=h
   exact h.re
  have c8: ∀(k:Bool) w,Sat σ w (({p with corner:=k}:PS).at b::zLn y::l.at b1::oV g F info W (ls.length+1) V::(U++(O.at b0::(H,cel [hY v] bg)::(I,cel [hX (bs i)] aq)::(E,cel [hX (bs f)] aq)::L)))->R (hQ (.tuple #[Ln.zero.val,hV true])) w:=by
   intro k w h;refine d2 c4 w {p with corner:=k} (oV g F info W (ls++ [l.str]).length V::U) rfl ⟨W,V,U,?_,rfl⟩ ?_
   ·rw[lA0,lE0];have e:sv (ls++ [l.str])=sv ls++ [hX (bs l.str)]:=by simp[sv]
    rw[e];exact d3
   ·rw[lA0,lE0];exact h.less [zLn y,l.at b1,O.at b0,(H,cel [hY v] bg),(I,cel [hX (bs i)] aq),(E,cel [hX (bs f)] aq)]
  refine aa ?_;refine⟨_,Sat.ld h (.head _) (i:=6) rfl,bJ (λ_=>?_) λ_=>?_⟩
  ·refine aa ?_;refine h.stA 0 λw h=>?_
   have h:Sat σ w (zLn y::({p with corner:=true}:PS).at b::l.at b1::oV g F info W (ls.length+1) V::(U++(O.at b0::(H,cel [hY v] bg)::(I,cel [hX (bs i)] aq)::(E,cel [hX (bs f)] aq)::L))):=by
    have h:Sat σ w (({p with corner:=true}:PS).at b::zLn y::l.at b1::oV g F info W (ls.length+1) V::(U++(O.at b0::(H,cel [hY v] bg)::(I,cel [hX (bs i)] aq)::(E,cel [hX (bs f)] aq)::L))):=h
    exact h.re
   repeat (first|refine aa ?_|refine h.tk λw h=>?_|refine⟨_,h.ldA,?_⟩|refine⟨_,_,_,h.ldA,?_⟩|refine h.stA 0 λw h=>?_|refine h.stA 1 λw h=>?_|refine h.stA 2 λw h=>?_|refine h.stA 3 λw h=>?_|refine h.stA 4 λw h=>?_|refine h.stA 5 λw h=>?_|refine h.stA 6 λw h=>?_|refine h.bx λb0 w h=>?_)
   refine c8 true _ ?_;have h:Sat σ _ (zLn y::({p with corner:=true}:PS).at b::l.at b1::oV g F info W (ls.length+1) V::(U++(O.at b0::(H,cel [hY v] bg)::(I,cel [hX (bs i)] aq)::(E,cel [hX (bs f)] aq)::L))):=h
   exact h.re
  ·refine⟨_,Sat.ld h (.tail _ (.tail _ (.head _))) (i:=4) rfl,aa ?_⟩;refine h.stA 0 λw h=>?_
   generalize ((l.nl.toNat:Int) !=10)=kk at h;have h:Sat σ w (zLn y::({p with corner:=kk}:PS).at b::l.at b1::oV g F info W (ls.length+1) V::(U++(O.at b0::(H,cel [hY v] bg)::(I,cel [hX (bs i)] aq)::(E,cel [hX (bs f)] aq)::L))):=by
    have h:Sat σ w (({p with corner:=kk}:PS).at b::zLn y::l.at b1::oV g F info W (ls.length+1) V::(U++(O.at b0::(H,cel [hY v] bg)::(I,cel [hX (bs i)] aq)::(E,cel [hX (bs f)] aq)::L))):=h
    exact h.re
   repeat (first|refine aa ?_|refine h.tk λw h=>?_|refine⟨_,h.ldA,?_⟩|refine⟨_,_,_,h.ldA,?_⟩|refine h.stA 0 λw h=>?_|refine h.stA 1 λw h=>?_|refine h.stA 2 λw h=>?_|refine h.stA 3 λw h=>?_|refine h.stA 4 λw h=>?_|refine h.stA 5 λw h=>?_|refine h.stA 6 λw h=>?_|refine h.bx λb0 w h=>?_)
   refine c8 kk _ ?_;have h:Sat σ _ (zLn y::({p with corner:=kk}:PS).at b::l.at b1::oV g F info W (ls.length+1) V::(U++(O.at b0::(H,cel [hY v] bg)::(I,cel [hX (bs i)] aq)::(E,cel [hX (bs f)] aq)::L))):=h
   exact h.re
 refine oZ h c5 e1 e2 (by simp[e0]) ?_ ?_
 ·intro e6 w v h;refine⟨_,rfl,ae rfl (k1 w _ _ _ _ ?_ h)⟩;exact c1.resolve_right λb4=>b4.1 e6
 ·intro n c0 t a7 c2 w h;refine⟨_,rfl,ag rfl (aa ?_)⟩;refine⟨_,Sat.ld h (.tail _ (.tail _ (.tail _ (.head _)))) (i:=0) rfl,?_⟩;have b8:oV g F info q ls.length c∈(Ln.zero.at b0::(H,cel [hY ((l.strip 3 0).1:Nat)] bg)::(I,cel [hX (bs a7)] aq)::(E,cel [hX (bs (hN n c0))] aq)::(zLn y::l.at b1::(p.at b::(oV g F info q ls.length c::a6++L)))):=by simp
  refine⟨_,Sat.ld h b8 (i:=0) rfl,?_⟩;refine wI (s:=hN n c0) (t:=F) ⟨_,rfl,?_⟩
  by_cases b6:(hN n c0).take F.length=F
  ·have d0: ¬ vp F l:=λc4=>c4 n c0 t a7 c2 b6
   have b4:=c1.resolve_left d0;have hi:a7= []:=(b4.2 n c0 t a7 c2).2;refine ag (decide_eq_true b6) ?_;refine⟨_,Sat.ld h (.tail _ (.tail _ (.head _))) (i:=0) rfl,ag (by rw[hi,cX,gi];rfl) ?_⟩;have h:Sat σ w (zLn y::l.at b1::(H,cel [hY ((l.strip 3 0).1:Nat)] bg)::(I,cel [hX (bs a7)] aq)::(E,cel [hX (bs (hN n c0))] aq)::Ln.zero.at b0::(p.at b::(oV g F info q ls.length c::a6++L))):=h.re
   repeat (first|refine aa ?_|refine h.tk λw h=>?_|refine⟨_,h.ldA,?_⟩|refine⟨_,_,_,h.ldA,?_⟩|refine h.stA 0 λw h=>?_|refine h.stA 1 λw h=>?_|refine h.stA 2 λw h=>?_|refine h.stA 3 λw h=>?_|refine h.stA 4 λw h=>?_|refine h.stA 5 λw h=>?_|refine h.stA 6 λw h=>?_|refine h.bx λb0 w h=>?_)
   have h:Sat σ _ (zLn y::l.at b1::(H,cel [hY ((l.strip 3 0).1:Nat)] bg)::(I,cel [hX (bs a7)] aq)::(E,cel [hX (bs (hN n c0))] aq)::Ln.zero.at b0::(p.at b::(oV g F info q ls.length c::a6++L))):=h
   exact d1 d0 _ h.tail.tail.tail.tail.tail.tail
  ·refine ae (decide_eq_false b6) (k1 w _ _ _ _ ?_ h);refine c1.resolve_right λb4=>b6 (b4.2 n c0 t a7 c2).1
def AB (nb s e:Nat)(F info:List UInt8)(q:Option Addr)(n c:Nat):ai:=(nb,cel [hY s,hY e,hX (bs F),hX (bs info),hT q n c] mG)
theorem yp {b y:Nat}{p:PS}{ob:List OB}{o:OB}{F info:List UInt8}{ls:List (List UInt8)}{M I:List ai}(h:Sat σ w (p.at b::M++(I++L)))(hs:Stk p (ob++ [o]) M)(O:xh y F info ls I)(V: ∀w nb q c g,Sl 1 aq q ls.length c (sv ls) g->Sat σ w (p.at b::M++(AB nb o.s o.e F info q ls.length c::(g++L)))->R (hQ (.iface cI (kT (kE nb)))) w):
 callE P gU #[kT (kE y),.iface ah (kT (kE b))] R w:=by
 obtain⟨q,c,g,U,rfl⟩:=O;refine g8.sound ?_;have h:Sat σ w (oV y F info q ls.length c::(p.at b::M++(g++L))):=h.re
 refine h.tk λw h=>?_
 refine aa (aa (aa ?_));refine⟨_,Sat.ld h (.head _) (i:=0) rfl,_,Sat.ld h (.head _) (i:=1) rfl,_,_,_,Sat.ld h (.head _) (i:=3) rfl,?_⟩;have H:=h;have h:Sat σ w (p.at b::M++(oV y F info q ls.length c::(g++L))):=h.re
 refine bm nG ?_;have E:oV y F info q ls.length c∈p.at b::M++(oV y F info q ls.length c::(g++L)):=by simp
 refine tH h hs λw h=>⟨_,_,rfl,H.same h (.head _) E 1,H.same h (.head _) E 1,H.same h (.head _) E 1,?_⟩
 refine Sat.bx h λnb w h=>?_
 refine V w nb q c g U ?_;have h:Sat σ w (AB nb o.s o.e F info q ls.length c::(p.at b::M++(oV y F info q ls.length c::(g++L)))):=h
 exact h.less [oV y F info q ls.length c]

theorem vU:kG P cY "Pos" cz=true:=by kernel_rfl
theorem Bg:kG P dU "Pos" cz=true:=by kernel_rfl
abbrev bkV (t:TypeId)(nb:Nat):Value:= .iface t (kT (kE nb))
theorem Aa {nb s e:Nat}{F info:List UInt8}{q:OA}{c:Nat}{ls:List (List UInt8)}{E:List ai}(U:Sl 1 aq q ls.length c (sv ls) E)(W:ls.length<1048576)(hb:(dK ls).length<1073741824)(I:ls.head? ≠some [])(O:F.length<1073741824)(hi:info.length<1073741824):
 qu bR (.mk {kind:=7,text:=dK ls,title:=info,mark:=F,s:=s,e:=e} []) (bkV cI nb) (AB nb s e F info q ls.length c::E):=by
 intro σ R L w h V;refine ci.sound ?_;refine fE pa h (.head _) λb1 H w h=>?_
 refine⟨_,_,_,cl (by kernel_rfl) (by decide) w,ae rfl ?_⟩;refine⟨_,_,_,cl (by kernel_rfl) (by decide) w,ae rfl ?_⟩;refine⟨_,_,_,cl (by kernel_rfl) (by decide) w,ae rfl ?_⟩;refine⟨_,_,_,cl (by kernel_rfl) (by decide) w,ae rfl ?_⟩;refine⟨_,_,_,cl (by kernel_rfl) (by decide) w,ae rfl ?_⟩;refine⟨_,_,_,cl (by kernel_rfl) (by decide) w,ae rfl ?_⟩;refine⟨_,_,_,cl (by kernel_rfl) (by decide) w,ae rfl ?_⟩;refine⟨_,_,_,io (by kernel_rfl) w,ag rfl ?_⟩;refine h.tk λw h=>aa (aa (aa ⟨_,Sat.ld h (.tail _ (.tail _ (.head _))) (i:=3) rfl,_,Sat.ld h (.tail _ (.tail _ (.head _))) (i:=2) rfl,_,_,_,Sat.ld h (.tail _ (.tail _ (.head _))) (i:=4) rfl,?_⟩))
 have g:=h;have y:AB nb s e F info q ls.length c∈((H,cel (N16.C {a8:=s,a9:=e}).toList al)::(b1,cel (N16.C {}).toList al)::(AB nb s e F info q ls.length c::E++L)):= .tail _ (.tail _ (.head _))
 have h:Sat σ w (E++((H,cel (N16.C {a8:=s,a9:=e}).toList al)::(b1,cel (N16.C {}).toList al)::AB nb s e F info q ls.length c::L)):=h.re
 refine BU U h W hb I λw h=>⟨_,rfl,?_⟩
 have h:Sat σ w ((H,cel (N16.C {a8:=s,a9:=e}).toList al)::(b1,cel (N16.C {}).toList al)::(AB nb s e F info q ls.length c::E++L)):=h.re
 refine⟨g.same h y y 1,g.same h y y 1,?_⟩;have g:=h;refine Sat.st h (k:=0) rfl (by show 0<16;decide) trivial rfl λw h=>?_
 refine⟨g.same h y (.tail _ (.tail _ (.head _))) 1,g.same h y (.tail _ (.tail _ (.head _))) 1,?_⟩;have g:=h;refine Sat.st h (k:=0) rfl (by show 2<16;decide) trivial rfl λw h=>?_
 refine⟨g.same h (.tail _ (.tail _ (.head _))) (.tail _ (.tail _ (.head _))) 1,?_⟩;refine Sat.st h (k:=0) rfl (by show 10<16;decide) trivial rfl λw h=>?_
 refine Sat.st h (k:=0) rfl (by show 1<16;decide) trivial rfl λw h=>?_
 exact hU (v:=IH.nd {kind:=7,text:=dK ls,title:=info,mark:=F,s:=s,e:=e} none 0 0) (u:= {}) (NM:= []) (NodeAt.leaf ⟨hb,hi,bZ,O⟩) h V
theorem yi {nb s e:Nat}{q:OA}{n c:Nat}{vs:List Value}{IM KM:List ai}{xs:List IN}(a6:Sl 1 aO q n c vs IM)(W:jN bR xs vs KM)(b3:n<1073741824):
 qu bR (.mk {kind:=2,s:=s,e:=e} xs) (bkV jX nb) (Dk nb s e q n c::(IM++KM)):=by
 intro σ R L w h a7;refine ci.sound ?_;refine fE vT h (.head _) λb1 y w h=>?_
 refine⟨_,_,_,cl (by kernel_rfl) (by decide) w,ae rfl ?_⟩;refine⟨_,_,_,io (by kernel_rfl) w,ag rfl ?_⟩;refine aa ⟨_,_,_,Sat.ld h (.tail _ (.tail _ (.head _))) (i:=2) rfl,?_⟩;have h:Sat σ w (IM++(KM++((y,cel (N16.C {a8:=s,a9:=e}).toList al)::(b1,cel (N16.C {}).toList al)::Dk nb s e q n c::L))):=h.re
 refine nF a6 W h b3 λw I E H us g NM U O V h=>⟨_,_,_,rfl,?_⟩
 have h:Sat σ w ((y,cel (N16.C {a8:=s,a9:=e}).toList al)::(b1,cel (N16.C {}).toList al)::((g++NM)++(Dk nb s e q n c::(IM++KM)++L))):=h.re
 refine Sat.st h (k:=0) rfl (by show 0<16;decide) trivial rfl λw h=>?_
 refine Sat.st h (k:=0) rfl (by show 7<16;decide) trivial rfl λw h=>?_
 exact hU (v:=IH.nd {kind:=2,s:=s,e:=e} I E H) (u:= {}) (NM:=g++NM) ⟨_,xs,I,E,H,us,g,NM,rfl,rfl,rfl,⟨bZ,bZ,bZ,bZ⟩,U,O,V⟩ h a7
theorem B5 {db s e:Nat}{q:OA}{n c:Nat}{vs:List Value}{IM KM:List ai}{xs:List IN}(a7:Sl 1 aO q n c vs IM)(a6:jN bR xs vs KM)(b5:n<1073741824):
 qu bR (.mk {kind:=1,s:=s,e:=e} xs) (bkV cY db) (AA db s e q n c none::(IM++KM)):=by
 intro σ R L w h b3;refine ci.sound ?_;refine fE vU h (.head _) λb1 y w h=>?_
 refine⟨_,_,_,io (by kernel_rfl) w,ag rfl ?_⟩;refine aa ⟨_,_,_,Sat.ld h (.tail _ (.tail _ (.head _))) (i:=2) rfl,?_⟩;have h:Sat σ w (IM++(KM++((y,cel (N16.C {a8:=s,a9:=e}).toList al)::(b1,cel (N16.C {}).toList al)::AA db s e q n c none::L))):=h.re
 refine nF a7 a6 h b5 λw I E H us g NM V O W h=>⟨_,_,_,rfl,?_⟩
 have h:Sat σ w ((y,cel (N16.C {a8:=s,a9:=e}).toList al)::(b1,cel (N16.C {}).toList al)::((g++NM)++(AA db s e q n c none::(IM++KM)++L))):=h.re
 refine Sat.st h (k:=0) rfl (by show 0<16;decide) trivial rfl λw h=>?_
 refine Sat.st h (k:=0) rfl (by show 7<16;decide) trivial rfl λw h=>?_
 have h:Sat σ w ((y,cel (IH.nd {kind:=1,s:=s,e:=e} I E H).C.toList al)::(b1,cel (N16.C {}).toList al)::((g++NM)++(AA db s e q n c none::(IM++KM)++L))):=h
 have U:AA db s e q n c none∈((y,cel (IH.nd {kind:=1,s:=s,e:=e} I E H).C.toList al)::(b1,cel (N16.C {}).toList al)::((g++NM)++(AA db s e q n c none::(IM++KM)++L))):=by simp
 refine aa ⟨_,Sat.ld h U (i:=3) rfl,_,_,uA w,?_⟩;have h:=h.alo (.mapIter none 0 #[] 0);generalize b6:w.alloc (.mapIter none 0 #[] 0)=w at h⊢;intro X b4;refine b4 _ _ _ _ (.inl ⟨_,vN (h.at_ _ (.head _)),?_⟩);have h:=h.tail;refine⟨_,_,_,Sat.ld h (.head _) (i:=15) rfl,?_⟩;refine C7 ⟨rfl,?_⟩;exact hU (v:=IH.nd {kind:=1,s:=s,e:=e} I E H) (u:= {}) (NM:=g++NM) ⟨_,xs,I,E,H,us,g,NM,rfl,rfl,rfl,⟨bZ,bZ,bZ,bZ⟩,V,O,W⟩ h b3
theorem z9 {nb s e wd:Nat}{q:OA}{n c:Nat}{vs:List Value}{IM KM:List ai}{xs:List IN}(a6:Sl 1 aO q n c vs IM)(W:jN bR xs vs KM)(b3:n<1073741824):
 qu bR (.mk {kind:=4,width:=wd,s:=s,e:=e} xs) (bkV fG nb) ((nb,cel [hY s,hY e,hT q n c,hY wd] mF)::(IM++KM)):=by
 intro σ R L w h a7;refine ci.sound ?_;refine fE yX h (.head _) λb1 y w h=>?_
 refine⟨_,_,_,cl (by kernel_rfl) (by decide) w,ae rfl ?_⟩;refine⟨_,_,_,cl (by kernel_rfl) (by decide) w,ae rfl ?_⟩;refine⟨_,_,_,cl (by kernel_rfl) (by decide) w,ae rfl ?_⟩;refine⟨_,_,_,io (by kernel_rfl) w,ag rfl ?_⟩;refine h.tk λw h=>aa ⟨_,_,_,Sat.ld h (.tail _ (.tail _ (.head _))) (i:=2) rfl,?_⟩
 refine sD.sound ?_;refine aa ⟨_,Sat.ld h (.tail _ (.tail _ (.head _))) (i:=3) rfl,_,rfl,λ_ _=>rfl,?_⟩;have h:Sat σ w (IM++(KM++((y,cel (N16.C {a8:=s,a9:=e}).toList al)::(b1,cel (N16.C {}).toList al)::(nb,cel [hY s,hY e,hT q n c,hY wd] mF)::L))):=h.re
 refine nF a6 W h b3 λw I E H us g NM U O V h=>⟨_,_,_,rfl,?_⟩
 have h:Sat σ w ((y,cel (N16.C {a8:=s,a9:=e}).toList al)::(b1,cel (N16.C {}).toList al)::((g++NM)++((nb,cel [hY s,hY e,hT q n c,hY wd] mF)::(IM++KM)++L))):=h.re
 refine Sat.st h (k:=0) rfl (by show 0<16;decide) trivial rfl λw h=>?_
 refine Sat.st h (k:=0) rfl (by show 11<16;decide) trivial rfl λw h=>?_
 refine Sat.st h (k:=0) rfl (by show 7<16;decide) trivial rfl λw h=>?_
 exact hU (v:=IH.nd {kind:=4,width:=wd,s:=s,e:=e} I E H) (u:= {}) (NM:=g++NM) ⟨_,xs,I,E,H,us,g,NM,rfl,rfl,rfl,⟨bZ,bZ,bZ,bZ⟩,U,O,V⟩ h a7
theorem z8 {nb s e:Nat}{bul:UInt8}{num:Int}{lo:Bool}{q:OA}{n c:Nat}{vs:List Value}{IM KM:List ai}{xs:List IN}(c2:Utf8.encode (bul.toNat:Int)=bs [bul])(b9:Sl 1 aO q n c vs IM)(c3:jN bR xs vs KM)(c1:n<1073741824):
 qu bR (.mk {kind:=3,num:=if bul=46\/bul=41 then num else -1,char:= [bul],loose:=lo,s:=s,e:=e} xs) (bkV dk nb) (ta nb s e (bul.toNat:Int) num lo q n c::(IM++KM)):=by
 intro σ R L w h a6;refine ci.sound ?_;refine fE yW h (.head _) λb1 V w h=>?_
 refine⟨_,_,_,cl (by kernel_rfl) (by decide) w,ae rfl ?_⟩;refine⟨_,_,_,cl (by kernel_rfl) (by decide) w,ae rfl ?_⟩;refine⟨_,_,_,io (by kernel_rfl) w,ag rfl ?_⟩;have g: ∀ {X:ai} {K:List ai},ta nb s e (bul.toNat:Int) num lo q n c∈X::(b1,cel (N16.C {}).toList al)::(ta nb s e (bul.toNat:Int) num lo q n c::K):= .tail _ (.tail _ (.head _))
 refine h.tk λw h=>aa (aa (aa ⟨_,Sat.ld h g (i:=2) rfl,_,Sat.ld h g (i:=4) rfl,_,_,_,Sat.ld h g (i:=5) rfl,?_⟩))
 have y:=h;have h:Sat σ w (IM++(KM++((V,cel (N16.C {a8:=s,a9:=e}).toList al)::(b1,cel (N16.C {}).toList al)::ta nb s e (bul.toNat:Int) num lo q n c::L))):=h.re
 refine nF b9 c3 h c1 λw U I O us H NM b4 b3 b5 h=>⟨_,_,_,rfl,?_⟩
 have h:Sat σ w ((V,cel (N16.C {a8:=s,a9:=e}).toList al)::(b1,cel (N16.C {}).toList al)::(ta nb s e (bul.toNat:Int) num lo q n c::(H++NM++(IM++KM++L)))):=h.re
 refine⟨y.same h g g 1,y.same h g g 1,?_⟩;have y:=h;refine Sat.st h (k:=0) rfl (by show 0<16;decide) trivial rfl λw h=>?_
 refine⟨y.same h g g 1,y.same h g g 1,?_⟩;have y:=h;refine Sat.st h (k:=0) rfl (by show 3<16;decide) trivial rfl λw h=>?_
 refine⟨y.same h g g 1,y.same h g g 1,?_⟩;have y:=h;rw[c2];refine Sat.st h (k:=0) rfl (by show 4<16;decide) trivial rfl λw h=>?_
 refine⟨y.same h g g 1,?_⟩;refine Sat.st h (k:=0) rfl (by show 5<16;decide) trivial rfl λw h=>?_
 refine Sat.st h (k:=0) rfl (by show 7<16;decide) trivial rfl λw h=>?_
 have h:Sat σ w ((V,cel (IH.nd {kind:=3,num:= -1,char:= [bul],loose:=lo,s:=s,e:=e} U I O).C.toList al)::(b1,cel (N16.C {}).toList al)::(ta nb s e (bul.toNat:Int) num lo q n c::(H++NM++(IM++KM++L)))):=h
 refine aa ⟨_,Sat.ld h g (i:=2) rfl,?_⟩;have fin: ∀(k:Bool) w,(k=true<->(bul=46\/bul=41))->Sat σ w ((V,cel (IH.nd {kind:=3,num:= -1,char:= [bul],loose:=lo,s:=s,e:=e} U I O).C.toList al)::(b1,cel (N16.C {}).toList al)::(ta nb s e (bul.toNat:Int) num lo q n c::(H++NM++(IM++KM++L))))->
  ci.k1 R b1 V (kE nb) k w:=by
  intro k w b6 h;cases k with
  |true=>
   have a7:=b6.1 rfl;rw[if_pos a7] at a6;refine ag rfl (aa ⟨_,Sat.ld h g (i:=3) rfl,?_⟩);refine Sat.st h (k:=0) rfl (by show 3<16;decide) trivial rfl λw h=>?_
   have h:Sat σ w ((V,cel (IH.nd {kind:=3,num:=num,char:= [bul],loose:=lo,s:=s,e:=e} U I O).C.toList al)::(b1,cel (N16.C {}).toList al)::(ta nb s e (bul.toNat:Int) num lo q n c::(H++NM++(IM++KM++L)))):=h
   exact hU (v:=IH.nd {kind:=3,num:=num,char:= [bul],loose:=lo,s:=s,e:=e} U I O) (u:= {}) (NM:=H++NM) (K:=ta nb s e (bul.toNat:Int) num lo q n c::(IM++KM)++L) ⟨_,xs,U,I,O,us,H,NM,rfl,rfl,rfl,⟨bZ,bZ,by show 1<_;decide,bZ⟩,b4,b3,b5⟩ h.re a6
  |false=>
   have a7: ¬ (bul=46\/bul=41):=λE=>absurd (b6.2 E) (by decide)
   rw[if_neg a7] at a6;refine ae rfl ?_;exact hU (v:=IH.nd {kind:=3,num:= -1,char:= [bul],loose:=lo,s:=s,e:=e} U I O) (u:= {}) (NM:=H++NM) (K:=ta nb s e (bul.toNat:Int) num lo q n c::(IM++KM)++L) ⟨_,xs,U,I,O,us,H,NM,rfl,rfl,rfl,⟨bZ,bZ,by show 1<_;decide,bZ⟩,b4,b3,b5⟩ h.re a6
 have b8:(((bul.toNat:Nat):Int)==46)=(bul==46):=my bul 46
 have b7:(((bul.toNat:Nat):Int)==41)=(bul==41):=my bul 41
 rw[b8];refine bJ (λW=>?_) λW=>?_
 ·have:=eq_of_beq W;exact fin true w ⟨λ_=> .inl this,λ_=>rfl⟩ h
 ·refine aa ⟨_,Sat.ld h g (i:=2) rfl,?_⟩;rw[b7];refine fin _ w ⟨λE=> .inr (eq_of_beq E),λE=>?_⟩ h;rcases E with E|E
  ·rw[E] at W;exact absurd W (by decide)
  ·rw[E];rfl
theorem z7 {nb t s e s' e':Nat}{raw:List UInt8}{q:OA}{n c:Nat}{vs:List Value}{RM KM:List ai}{xs:List IN}(a6:Sl 1 aC q n c vs RM)(W:jN d9 xs vs KM)(b3:n<1073741824):
 qu bR (.mk {kind:=6,s:=s,e:=e} xs) (bkV bD nb) (kV nb s e t::fp t s' e' q n c raw::(RM++KM)):=by
 intro σ R L w h a7;refine ci.sound ?_;refine fE o9 h (.head _) λb1 y w h=>?_
 refine⟨_,_,_,cl (by kernel_rfl) (by decide) w,ae rfl ?_⟩;refine⟨_,_,_,cl (by kernel_rfl) (by decide) w,ae rfl ?_⟩;refine⟨_,_,_,cl (by kernel_rfl) (by decide) w,ae rfl ?_⟩;refine⟨_,_,_,cl (by kernel_rfl) (by decide) w,ae rfl ?_⟩;refine⟨_,_,_,cl (by kernel_rfl) (by decide) w,ae rfl ?_⟩;refine⟨_,_,_,io (by kernel_rfl) w,ag rfl ?_⟩;refine aa ⟨_,Sat.ld h (.tail _ (.tail _ (.head _))) (i:=2) rfl,aa ⟨_,_,_,Sat.ld h (.tail _ (.tail _ (.tail _ (.head _)))) (i:=2) rfl,?_⟩⟩;have h:Sat σ w (RM++(KM++((y,cel (N16.C {a8:=s,a9:=e}).toList al)::(b1,cel (N16.C {}).toList al)::kV nb s e t::fp t s' e' q n c raw::L))):=h.re
 refine jc a6 W h b3 λw I E H us g NM U O V h=>⟨_,_,_,rfl,?_⟩
 have h:Sat σ w ((y,cel (N16.C {a8:=s,a9:=e}).toList al)::(b1,cel (N16.C {}).toList al)::((g++NM)++(kV nb s e t::fp t s' e' q n c raw::(RM++KM)++L))):=h.re
 refine Sat.st h (k:=0) rfl (by show 0<16;decide) trivial rfl λw h=>?_
 refine Sat.st h (k:=0) rfl (by show 7<16;decide) trivial rfl λw h=>?_
 exact hU (v:=IH.nd {kind:=6,s:=s,e:=e} I E H) (u:= {}) (NM:=g++NM) ⟨_,xs,I,E,H,us,g,NM,rfl,rfl,rfl,⟨bZ,bZ,bZ,bZ⟩,U,O,V⟩ h a7
theorem z6 {t s e:Nat}{raw:List UInt8}{q:OA}{n c:Nat}{vs:List Value}{RM KM:List ai}{xs:List IN}(a6:Sl 1 aC q n c vs RM)(W:jN d9 xs vs KM)(b3:n<1073741824):
 qu bR (.mk {kind:=6,tight:=true,s:=s,e:=e} xs) (bkV dU t) (fp t s e q n c raw::(RM++KM)):=by
 intro σ R L w h a7;refine ci.sound ?_;refine fE Bg h (.head _) λb1 y w h=>?_
 refine⟨_,_,_,cl (by kernel_rfl) (by decide) w,ae rfl ?_⟩;refine⟨_,_,_,cl (by kernel_rfl) (by decide) w,ae rfl ?_⟩;refine⟨_,_,_,cl (by kernel_rfl) (by decide) w,ae rfl ?_⟩;refine⟨_,_,_,cl (by kernel_rfl) (by decide) w,ae rfl ?_⟩;refine⟨_,_,_,cl (by kernel_rfl) (by decide) w,ae rfl ?_⟩;refine⟨_,_,_,cl (by kernel_rfl) (by decide) w,ae rfl ?_⟩;refine⟨_,_,_,io (by kernel_rfl) w,ag rfl ?_⟩;refine aa ⟨_,_,_,Sat.ld h (.tail _ (.tail _ (.head _))) (i:=2) rfl,?_⟩;have h:Sat σ w (RM++(KM++((y,cel (N16.C {a8:=s,a9:=e}).toList al)::(b1,cel (N16.C {}).toList al)::fp t s e q n c raw::L))):=h.re
 refine jc a6 W h b3 λw I E H us g NM U O V h=>⟨_,_,_,rfl,?_⟩
 have h:Sat σ w ((y,cel (N16.C {a8:=s,a9:=e}).toList al)::(b1,cel (N16.C {}).toList al)::((g++NM)++(fp t s e q n c raw::(RM++KM)++L))):=h.re
 refine Sat.st h (k:=0) rfl (by show 0<16;decide) trivial rfl λw h=>?_
 refine Sat.st h (k:=0) rfl (by show 12<16;decide) trivial rfl λw h=>?_
 refine Sat.st h (k:=0) rfl (by show 7<16;decide) trivial rfl λw h=>?_
 exact hU (v:=IH.nd {kind:=6,tight:=true,s:=s,e:=e} I E H) (u:= {}) (NM:=g++NM) ⟨_,xs,I,E,H,us,g,NM,rfl,rfl,rfl,⟨bZ,bZ,bZ,bZ⟩,U,O,V⟩ h a7

structure TI2 where
 q:OA
 n:Nat
 c:Nat
 vs:List Value
 RM:List ai
 KM:List ai
 ts:List Inl
def TI2.ok (t:TI2):Prop:=Sl 1 aC t.q t.n t.c t.vs t.RM/\t.n<1073741824/\InlsAt t.ts t.vs t.KM
def wO (x:TX)(t:TI2):List ai:=fp x.t x.s x.e t.q t.n t.c x.raw::(t.RM++t.KM)
def fI:List TX->List TI2->List ai
 |x::xs,t::ts=>wO x t++fI xs ts
 |_,_=> []
inductive FilledI (G:List UInt8->List Inl):List TX->List TI2->Prop where
 |nil:FilledI G [] []
 |cons {x:TX} {t:TI2} {xs:List TX} {ts:List TI2}:t.ok->t.ts=G x.raw->FilledI G xs ts->FilledI G (x::xs) (t::ts)
theorem FilledI.split {G:List UInt8->List Inl}: ∀ {xs g:List TX} {ts:List TI2},FilledI G (xs++g) ts-> ∃ts1 ts2,ts=ts1++ts2/\FilledI G xs ts1/\FilledI G g ts2
 | [],g,ts,h=>⟨[],ts,rfl,.nil,h⟩
 |x::xs,g,ts,h=>by
  cases h with
  |cons y H E=>
   obtain⟨ts1,ts2,rfl,O,I⟩:=E.split;exact⟨_::ts1,ts2,rfl,.cons y H O,I⟩
theorem FilledI.append {G:List UInt8->List Inl}{xs g:List TX}{ts us:List TI2}(H:FilledI G xs ts)(y:FilledI G g us):FilledI G (xs++g) (ts++us):=by
 induction H with
 |nil=>exact y
 |cons a b _ E=>exact .cons a b E
theorem mc {G:List UInt8->List Inl}: ∀ {xs g:List TX} {ts us:List TI2},FilledI G xs ts->fI (xs++g) (ts++us)=fI xs ts++fI g us
 |_,_,_,_,.nil=>rfl
 |_,_,_,_,.cons h1 h2 h3=>by simp only[lQ0,fI,lD0];rw[mc h3]
def js (lk:Option Nat)(L0:List ai)(op:Opt)(s:List UInt8)(ts:List Inl):Prop:=
 ∀(σ:Out) (R:Ending->World->Prop) (b pb:Nat) (p:PS) (L:List ai) (w:World),(∀c∈L0,c∈L)->Sat σ w (p.at b::L)->p.pz=kE pb->op.at pb∈L->p.links=lk->
  (∀w (p':PS) q n c vs RM KM,p'.coreS=p.coreS->Sl 1 aC q n c vs RM->n<1073741824->InlsAt ts vs KM->Sat σ w (p'.at b::(RM++(KM++L)))->R (hQ (hT q n c)) w)->
  callE P fw #[kT (kE b),hX (bs s)] R w
theorem AZ {b pb:Nat}{op:Opt}{G:List UInt8->List Inl}{p:PS}{xs:List TX}{O L0:List ai}{lk:Option Nat}(h:Sat σ w (p.at b::(O++(xs.map TX.chunk++L))))(ht:Txts p (xs.map TX.t) O)(b5:p.pz=kE pb)(b3:op.at pb∈L)(b6:p.links=lk)(c2: ∀c∈L0,c∈L)(W:p.Lq=none/\p.Ln=0/\p.Lc=0)(d1: ∀x∈xs,js lk L0 op x.raw (G x.raw))(c9: ∀w (p':PS) ts,p'.coreS=p.coreS->FilledI G xs ts->Sat σ w (p'.at b::(O++(fI xs ts++L)))->bp.k4 R b w):
 bp.l2 R (kE pb) b p.tq p.tn p.tc (p.tn:Nat) 0 w:=by
 have e8:p.tn=xs.length:=by rw[ht.2.1,lS0]
 have e7:xs.length<1048576:=by have:=ht.2.2;rwa [lS0] at this
 intro Y a7;have b8:=h;clear h;have c1: ∀(E y:List TX) ts1 w (g:PS),y++E=xs->g.coreS=p.coreS->FilledI G y ts1->Sat σ w (g.at b::(O++(fI y ts1++(E.map TX.chunk++L))))->Y (kE pb) b p.tq p.tn p.tc (p.tn:Nat) (y.length:Nat) w:=by
  intro E
  induction E with
  |nil=>
   intro y ts1 w g I H V h;rw[lG0] at I;subst I;have d0:g.Lq=none:=by have:=congrArg PS.Lq H;rw[show g.Lq=p.Lq from this];exact W.1
   have d3:g.Ln=0:=by have:=congrArg PS.Ln H;rw[show g.Ln=p.Ln from this];exact W.2.1
   have e4:g.Lc=0:=by have:=congrArg PS.Lc H;rw[show g.Lc=p.Lc from this];exact W.2.2
   have h:Sat σ w (g.at b::(O++(fI y ts1++L))):=h
   have e5:op.at pb∈g.at b::(O++(fI y ts1++L)):=by simp[b3]
   have fin:bp.k4 R b w:=c9 w g ts1 H V h;refine a7 _ _ _ _ _ _ _ _ (ae (by simp;omega) (aa ?_));simp only[lK0,lN0];refine⟨op.task,Sat.ld h e5 rfl,bJ (λ_=>?_) (λ_=>fin)⟩;refine⟨_,_,_,Sat.ld h (.head _) (i:=10) rfl,?_⟩;rw[d0,d3,e4];intro Z c4;exact c4 _ _ _ _ _ _ _ (ae rfl fin)
  |cons x E d2=>
   intro y ts1 w g I H V h;have e6:y.length<xs.length:=by rw[<-I];simp
   obtain⟨U,sp,a6,rfl⟩:=ht.1.rowAt (by omega);refine a7 _ _ _ _ _ _ _ _ (ag (by simp;omega) ⟨by omega,by omega,?_⟩);rw[a6];refine aa ?_;simp only[lK0,lN0,lC0,lD1];have b4:((xs.map TX.t).map (λt=>kT (kE t))++sp)[y.length]? =some (kT (kE x.t)):=by
    rw[lM0 (by simp;omega),<-I];simp
   refine⟨_,Sat.ld h (.tail _ (.head _)) b4,aa ?_⟩;simp only[lK0,lN0];have h:Sat σ w (g.at b::(x.chunk::([(U,cel ((xs.map TX.t).map (λt=>kT (kE t))++sp) dU)]++(fI y ts1++(E.map TX.chunk++L))))):=by
    rw[lY1] at h;exact h.re
   refine⟨_,Sat.ld h (.tail _ (.head _)) (i:=3) rfl,?_⟩;have hc:g.pz=kE pb:=by have:=congrArg PS.pz H;rw[show g.pz=p.pz from this];exact b5
   have c5:g.links=lk:=by have:=congrArg PS.links H;rw[show g.links=p.links from this];exact b6
   refine d1 x (by rw[<-I];simp) σ _ b pb g _ w (λc hc=>by simp[c2 c hc]) h hc (by simp[b3]) c5 λw p2 q n c vs RM KM c3 c8 b9 e0 h=>⟨_,_,_,rfl,aa ?_⟩
   have h:Sat σ w (fp x.t x.s x.e none 0 0 x.raw::(p2.at b::(RM++(KM++([(U,cel ((xs.map TX.t).map (λt=>kT (kE t))++sp) dU)]++(fI y ts1++(E.map TX.chunk++L))))))):=by
    have h:Sat σ w (p2.at b::(RM++(KM++(fp x.t x.s x.e none 0 0 x.raw::([(U,cel ((xs.map TX.t).map (λt=>kT (kE t))++sp) dU)]++(fI y ts1++(E.map TX.chunk++L))))))):=h
    exact h.re
   refine h.stA 0 λw h=>?_
   have h:Sat σ w (fp x.t x.s x.e q n c x.raw::(p2.at b::(RM++(KM++([(U,cel ((xs.map TX.t).map (λt=>kT (kE t))++sp) dU)]++(fI y ts1++(E.map TX.chunk++L))))))):=h
   rw[aN (by omega)];have b7:FilledI G (y++ [x]) (ts1++ [⟨q,n,c,vs,RM,KM,G x.raw⟩]):=V.append (.cons ⟨c8,b9,e0⟩ rfl .nil);have:=d2 (y++ [x]) _ w p2 (by rw[<-I];simp) (c3.trans H) b7 ?_
   ·rw[lA0,lE0,a6] at this;exact this
   ·rw[mc V]
    show Sat σ w (p2.at b::([(U,cel ((xs.map TX.t).map (λt=>kT (kE t))++sp) dU)]++((fI y ts1++((fp x.t x.s x.e q n c x.raw::(RM++KM))++ []))++(E.map TX.chunk++L))))
    exact h.re
 exact c1 xs [] [] w p rfl rfl .nil b8
def DB.tree (G:List UInt8->List Inl)(d:DB)(x:IN):Prop:= ∀ts,FilledI G d.txs ts-> ∃T,qu bR x d.v T/\ ∀a,cnt a (d.own++fI d.txs ts)=cnt a T
inductive oS (G:List UInt8->List Inl):List DB->List IN->Prop where
 |nil:oS G [] []
 |cons {d:DB} {x:IN} {D:List DB} {xs:List IN}:d.tree G x->oS G D xs->oS G (d::D) (x::xs)
theorem pB {G:List UInt8->List Inl}{D:List DB}{xs:List IN}(h:oS G D xs): ∀ts,FilledI G (cj D) ts-> ∃KM,jN bR xs (D.map DB.v) KM/\ ∀a,cnt a (cV D++fI (cj D) ts)=cnt a KM:=by
 induction h with
 |nil=>intro ts ht;cases ht;exact⟨[],.nil,λa=>rfl⟩
 | @cons d x D xs h1 h2 ih=>
  intro ts ht;have e:cj (d::D)=d.txs++cj D:=by simp[cj]
  rw[e] at ht⊢;obtain⟨ts1,ts2,rfl,g,O⟩:=ht.split;obtain⟨KM,I,y⟩:=ih ts2 O;obtain⟨T,H,E⟩:=h1 ts1 g;refine⟨_,.cons H I,λa=>?_⟩;have:=y a;have:=E a;rw[mc g,show cV (d::D)=d.own++cV D by simp[cV]];simp only[dE] at*
  omega
theorem Bj {G:List UInt8->List Inl}{nb t s e:Nat}{raw:List UInt8}(y:lP (G raw)):(j9 nb t s e raw).tree G (.mk {kind:=6,s:=s,e:=e} (gO (G raw))):=by
 intro ts ht;cases ht with
 |cons g H E=>
  cases E
  rw[<-H] at y⊢;exact⟨_,z7 (nb:=nb) (t:=t) (s:=s) (e:=e) (s':=s) (e':=e) (raw:=raw) g.1 (eG y g.2.2) g.2.1,λa=>by simp[j9,fI,wO]⟩
theorem A0 {G:List UInt8->List Inl}{nb t s e:Nat}{raw:List UInt8}(g:lP (G raw)):(dt (j9 nb t s e raw)).tree G (.mk {kind:=6,tight:=true,s:=s,e:=e} (gO (G raw))):=by
 rw[kB];intro ts ht;cases ht with
 | @cons x t1 xs ts h1 h2 h3=>
  cases h3
  rw[<-h2] at g⊢;have E:=z6 (t:=t) (s:=s) (e:=e) (raw:=raw) h1.1 (eG g h1.2.2) h1.2.1
  refine⟨kV nb s e t::(fp t s e t1.q t1.n t1.c raw::(t1.RM++t1.KM)),λσ R L w h y=>?_,λa=>by simp[fI,wO]⟩;have h:Sat σ w ((fp t s e t1.q t1.n t1.c raw::(t1.RM++t1.KM))++(kV nb s e t::L)):=h.re
  exact E σ R _ w h λw u M H h=>y w u M H h.re
theorem zH {G:List UInt8->List Inl}{nb s e:Nat}{q:OA}{n c:Nat}{IM:List ai}{D:List DB}{xs:List IN}(E:Sl 1 aO q n c (D.map DB.v) IM)(I:n<1073741824)(g:oS G D xs):(nU nb s e q n c IM D).tree G (.mk {kind:=2,s:=s,e:=e} xs):=by
 intro ts ht;obtain⟨KM,y,H⟩:=pB g ts ht;refine⟨_,yi (nb:=nb) (s:=s) (e:=e) E y I,λa=>?_⟩;have:=H a
 show cnt a (Dk nb s e q n c::(IM++cV D)++fI (cj D) ts)=_
 simp only[dE,eK] at this⊢;omega
theorem wu {G:List UInt8->List Inl}{i:IT}{xs:List IN}(hi:i.ok)(g:oS G i.D xs):i.db.tree G (.mk {kind:=4,width:=i.wd,s:=i.s,e:=i.e} xs):=by
 intro ts ht;obtain⟨KM,y,E⟩:=pB g ts ht;refine⟨_,z9 (nb:=i.nb) (s:=i.s) (e:=i.e) (wd:=i.wd) hi.sl y (by have:=IT.n_eq hi;have:=hi.len;omega),λa=>?_⟩;have:=E a
 show cnt a (i.chunk::(i.IM++cV i.D)++fI (cj i.D) ts)=_
 unfold IT.chunk;simp only[dE,eK] at this⊢;omega
theorem Bz {G:List UInt8->List Inl}{nb s e:Nat}{bul:UInt8}{num:Int}{lo:Bool}{q:OA}{n c:Nat}{IM:List ai}{items:List IT}{xs:List IN}(E:Utf8.encode (bul.toNat:Int)=bs [bul])(H:Sl 1 aO q n c (items.map IT.v) IM)(U:n<1073741824)(y:oS G (items.map IT.db) xs):
 (p7 nb s e (bul.toNat:Int) num lo q n c IM items).tree G (.mk {kind:=3,num:=if bul=46\/bul=41 then num else -1,char:= [bul],loose:=lo,s:=s,e:=e} xs):=by
 intro ts ht;obtain⟨KM,g,O⟩:=pB y ts ht;have I:(items.map IT.db).map DB.v=items.map IT.v:=by simp[Function.comp_def,IT.db]
 rw[I] at g;refine⟨_,z8 (nb:=nb) (s:=s) (e:=e) (num:=num) (lo:=lo) E H g U,λa=>?_⟩;have:=O a
 show cnt a (ta nb s e (bul.toNat:Int) num lo q n c::(IM++cV (items.map IT.db))++fI (cj (items.map IT.db)) ts)=_
 simp only[dE,eK] at this⊢;omega

def vn (L0:List ai)(op:Opt)(text:List UInt8)(y:List IN->Prop):Prop:=
 ∀(σ:Out) (R:Ending->World->Prop) (L:List ai) (w:World) (pb:Nat),(∀c∈L0,c∈L)->Sat σ w L->op.at pb∈L->
  (∀w db k s e xs g,qu bR (.mk {kind:=1,s:=s,e:=e} xs) (bkV cY db) g->y xs->Sat σ w (g++L)->R (hQ (.tuple #[kT (kE db),hV k])) w)->
  callE P lg #[kT (kE pb),hX (bs text)] R w
theorem xP {L0:List ai}{op:Opt}{text:List UInt8}{ls:List (List UInt8 × UInt8)}{G:List UInt8->List Inl}{W:List IN->Prop}(a7:LinesOf text ls)(f2:0 ∉ text)(b5:text.length<1000000)(H:List (List UInt8 × UInt8)->Nat->List Bk->Leaf->Prop)(d3: ∀root,root.isRoot->root.D= []->H ls 0 [root] .none)(step: ∀l nl rem n fs lf,H ((l,nl)::rem) n fs lf->pJ L0 op (n+1) l nl fs lf (H rem (n+1)))(fin: ∀n fs lf,H [] n fs lf->pN op fs lf λD=> ∃xs,oS G D xs/\W xs/\ ∀x∈cj D,js none [] op x.raw (G x.raw)):vn L0 op text W:=by
 intro σ R L w pb e0 h V e6;refine bp.sound ?_;refine Sat.bx h λb w h=>?_
 refine h.stA 0 λw h=>?_
 have h:Sat σ w ((PS0 (kE pb)).at b::L):=h
 refine jO (sub:= [0]) (by omega) (by decide) ⟨_,rfl,?_⟩;rw[kK f2];refine ae rfl ?_;refine h.stA 0 λw h=>?_
 refine Sat.bx h λE w h=>?_
 let p0:PS:= {PS0 (kE pb) with depth:= -1}
 have h:Sat σ w (p0.at b:: []++((E,cel [] eO)::L)):=h.up1
 have b8:Stk p0 [] []:=⟨Sl.nil 4 ay,rfl,by simp⟩;refine oR h b8 rfl (by decide) λw g M O d2 h=>⟨rfl,?_⟩
 intro X e8;have f3:=a7.len;have e7:g.base=p0.base:=by rw[O];rfl
 have a6:g.lineno=0:=by rw[O];rfl
 have c3:Txts g [] []:=by
  have:g.tq=none/\g.tn=0/\g.tc=0:=by rw[O];exact⟨rfl,rfl,rfl⟩
  obtain⟨a,b,c⟩:=this;unfold Txts;rw[a,b,c];exact⟨Sl.nil 1 dU,rfl,by simp⟩
 let root:Bk:=⟨⟨Ga E,none,0,0,0,0⟩,[(E,cel [] eO)],[],[]⟩
 have hd:DocC σ b L [root] .none g w:=by
  refine⟨M,[],[],[],d2,c3,λf U=>?_,⟨rfl,rfl⟩,?_⟩
  ·obtain rfl:=lR0.1 U;exact⟨Sl.nil 1 aO,by simp[root],by show 0<1000000000;decide,by show 0<1000000000;decide⟩
  ·have em:aM [root]= [(E,cel [] eO)]:=by simp[root,dy,cV,txc,cj]
   rw[em];exact h
 refine BC (p0:=p0) (op:=op) step e0 e8 V rfl ?_ a7 w g [root] .none b5 (by rw[a6];omega) e7 (by rw[a6];exact d3 root ⟨E,rfl,rfl⟩ rfl) hd;intro w p fs lf hb e9 c4;have b4:p.pz=kE pb:=by have:=congrArg PS.pz hb;exact this
 refine ae (by rw[cX,gi];rfl) ?_;refine Ab (fin _ fs lf e9) c4 b4 V λw p' f5 db IM f0 q n c s e e4 c5 ht c9 f4 h=>⟨rfl,?_⟩
 obtain⟨xs,e5,b7,d0⟩:=c5;have y:p'.base= {p0.base with root:=kE db}:=by rw[e4,hb]
 have c2:p'.pz=kE pb:=by have:=congrArg PS.pz y;exact this
 have c8:p'.links=none:=by have:=congrArg PS.links y;exact this
 have b3:p.links=none:=by have:=congrArg PS.links hb;exact this
 have d1:p'.root=kE db:=by have:=congrArg PS.root y;exact this
 have c1:p'.Lq=none/\p'.Ln=0/\p'.Lc=0:=⟨by have:=congrArg PS.Lq y;exact this,by have:=congrArg PS.Ln y;exact this,by have:=congrArg PS.Lc y;exact this⟩
 refine⟨_,_,_,Sat.ld h (.head _) (i:=11) rfl,?_⟩;refine AZ (op:=op) (G:=G) (L0:= []) h ht c2 (by simp[V]) c8 (by simp) c1 d0 λw p2 ts e3 U h=>?_
 have b9:p2.root=kE db:=by have:=congrArg PS.root e3;rw[show p2.root=p'.root from this];exact d1
 unfold bp.k4;refine h.tk λw h=>?_
 refine⟨_,Sat.ld h (.head _) (i:=1) rfl,_,Sat.ld h (.head _) (i:=6) rfl,?_⟩;rw[b9];obtain⟨KM,f1,b6⟩:=pB e5 ts U;rw[b3] at h;refine e6 w db p2.corner s e xs (AA db s e q n c none::(IM++KM)) (B5 c9 f1 (by omega)) b7 ?_;refine Sat.less (p2.at b::f0) h λa=>?_
 have:=b6 a;simp only[lN3,dE,eK,me] at this⊢;omega
namespace fQ
def k1 (R:EP)(y:OA)(E b7 b9:Nat)(g:Int)(c1:Bool)(w:World):Prop:=br c1 (tk w λH=>0<=g/\g<(E:Int)/\aA y λc4=>∃I,H.cell? ((c4.add (Int.toNat g*10)).add 1)=some (hX I)/\∃O,H.cell? (hZ b9 1)=some (hX O)/\((I.size+O.size:Nat):Int)<=i64.max/\0<=g/\g<(E:Int)/\aA y λa10=>stV H (((a10.add (Int.toNat g*10)).add 1).add 0) (hX (I++O)) λc2=>R (hQ (hT y E b7)) c2) (ldB10 w b9 λc3=>∃b5 W,∃a6 b8,(Instr.buildSlice au 1 #[(0,c3.V)]).run P w= .ok (hT b5 W a6) b8/\∃U b4,∃b3 b6,(Builtin.append_ #[au,au] au #[hT y E b7,hT b5 W a6]).run P b8= .ok (hT U b4 b3) b6/\R (hQ (hT U b4 b3)) b6)
end fQ
def fQ (R:EP)(E:OA)(g H:Nat)(b7:Int)(b4 b8:BA)(b5:Int)(c2:BA)(b9:Bool)(a6:OA)(a7 U:Nat)(V:OA)(b3 W:Nat)(c1 b6:Int)(w:World):Prop:=box w (N10.C {a0:=b7,a1:=b4,a2:=b8,a3:=b5,a4:=c2,a5:=b9,q6:=a6,n6:=a7,c6:=U,q7:=V,n7:=b3,c7:=W,a8:=c1,a9:=b6}) af λb1 y=>br (decide ((i64.wrap ((g:Int) - 1)) >= 0)) (∃I,y.cell? (hZ b1 0)=some (hY I)/\br (I==20) (0<=(i64.wrap ((g:Int) - 1))/\(i64.wrap ((g:Int) - 1))<(g:Int)/\aA E λa4=>∃O,y.cell? (a4.add (Int.toNat (i64.wrap ((g:Int) - 1))*10))=some (hY O)/\fQ.k1 R E g H b1 (i64.wrap ((g:Int) - 1)) (O==20) y) (fQ.k1 R E g H b1 (i64.wrap ((g:Int) - 1)) false y)) (fQ.k1 R E g H b1 (i64.wrap ((g:Int) - 1)) false y)
theorem fQ.sound {R x0q x0n x0c x1_0 x1_1 x1_2 x1_3 x1_4 x1_5 x1_6q x1_6n x1_6c x1_7q x1_7n x1_7c x1_8 x1_9 w}(h:fQ R x0q x0n x0c x1_0 x1_1 x1_2 x1_3 x1_4 x1_5 x1_6q x1_6n x1_6c x1_7q x1_7n x1_7c x1_8 x1_9 w):callE P fj #[hT x0q x0n x0c,(N10.V {a0:=x1_0,a1:=x1_1,a2:=x1_2,a3:=x1_3,a4:=x1_4,a5:=x1_5,q6:=x1_6q,n6:=x1_6n,c6:=x1_6c,q7:=x1_7q,n7:=x1_7n,c7:=x1_7c,a8:=x1_8,a9:=x1_9})] R w:=
 aH [(29,.mk [3,66,107,460] (fQ.k1 R)),(77,.dr (rpN [0,3,6,9,15,13,19,21,24,27,32]))] Tryz.func31 Tryz.call31 h

noncomputable def rowND:Row P au af 10 136:=
 ⟨(P.info? af).getD default,((P.info? af).bind (·.zero)).getD default,by kernel_rfl,by kernel_rfl,by kernel_rfl,by kernel_rfl,by kernel_rfl,by kernel_rfl,by decide⟩
theorem zk (v:N10):Instr.fill (λi=>some (i*10,10)) ((Array.range (1*10)).map (rowND.z.cells[· %rowND.z.cells.size]!)) [(0,v.V)]=some v.C:=by kernel_rfl
theorem Dp (v:N10): ∀u∈v.V.cells.toList,u.oneCell'=true:=by
 intro x g;simp only[N10.V,Value.cells,N10.C,lX0,lJ1,or_false] at g;rcases g with rfl|rfl|rfl|rfl|rfl|rfl|rfl|rfl|rfl|rfl<;>rfl
def NodeDt (x:ND)(v:N10)(M:List ai):Prop:= ∃h g qa ca q n c vs RM KM,x= .mk h g/\v=h.nd qa ca q n c/\M=RM++KM/\n<1073741824/\NDs g vs KM/\Sl 10 af q n c vs RM
theorem NodeDt.cons {x:ND}{xs:List ND}{v:N10}{us:List Value}{M g:List ai}(h:NodeDt x v M)(y:NDs xs us g):NDs (x::xs) (v.C.toList++us) (M++g):=by
 obtain⟨H,E,qa,ca,q,n,c,vs,RM,KM,rfl,rfl,rfl,b,d,e⟩:=h;exact .cons b d e y
theorem NodeDt.one {x:ND}{v:N10}{M:List ai}(h:NodeDt x v M):NDs [x] v.C.toList M:=by
 have:=h.cons .nil
 rwa [lG0,lG0] at this
theorem NodeDt.leaf {h:NH}{qa:OA}{ca:Nat}:NodeDt (.mk h []) (h.nd qa ca none 0 0) []:=⟨h,[],qa,ca,none,0,0,[],[],[],rfl,rfl,rfl,by decide,.nil,Sl.nil 10 af⟩
theorem NodeDt.kind {x:ND}{v:N10}{M:List ai}(h:NodeDt x v M):v.a0=(x.h.kind:Int)/\v.a1=bs x.h.text:=by
 obtain⟨y,g,qa,ca,q,n,c,vs,RM,KM,rfl,rfl,rfl,_⟩:=h;exact⟨rfl,rfl⟩
theorem NDs.snoc: ∀ {pre:List ND} {E:ND} {vs:List Value} {M:List ai},NDs (pre++ [E]) vs M-> ∃H I u g,vs=H++u.C.toList/\M=I++g/\NDs pre H I/\NodeDt E u g
 | [],E,vs,M,h=>by
  cases h with
  | @cons h0 ks _ qa ca q n c vs us RM KM XM a b d e=>
   cases e
   refine⟨[],[],h0.nd qa ca q n c,RM++KM,?_,?_,.nil,⟨h0,ks,qa,ca,q,n,c,vs,RM,KM,rfl,rfl,rfl,a,b,d⟩⟩
   ·rw[lT0,lG0]
   ·rw[lT0,lG0]
 |x::pre,E,vs,M,h=>by
  cases h with
  | @cons h0 ks _ qa ca q n c vs us RM KM XM a b d e=>
   obtain⟨H,I,u,g,rfl,rfl,O,U⟩:=NDs.snoc e;refine⟨_,_,u,g,?_,?_,NDs.cons (qa:=qa) (ca:=ca) a b d O,U⟩
   ·simp only[lD0]
   ·simp only[lD0]
def n5:List ND->Nat
 | []=>0
 |x::xs=>x.h.text.length+n5 xs
theorem i7 (a b:List ND):n5 (a++b)=n5 a+n5 b:=by
 induction a with
 |nil=>simp[n5]
 |cons x a g=>rw[lQ0,n5,n5,g,lD3]
theorem vQ (pre:List ND)(h:NH)(g:List ND)(x:ND):kv (pre++ [.mk h g]) x=if x.h.kind=20/\h.kind=20 then pre++ [.mk {h with text:=h.text++x.h.text} g] else pre++ [.mk h g,x]:=by
 induction pre with
 |nil=>rfl
 |cons a pre y=>
  have e:kv (a::(pre++ [.mk h g])) x=a::kv (pre++ [.mk h g]) x:=by
   obtain⟨a1,a2⟩:=a;cases pre with
   |nil=>rfl
   |cons b pre=>rfl
  rw[lQ0,e,y];split<;>rfl
theorem uC (g:List ND)(x:ND):n5 (kv g x)=n5 g+x.h.text.length:=by
 rcases lE2 g with rfl|⟨pre,⟨h,y⟩,rfl⟩
 ·show x.h.text.length+0=0+_
  omega
 ·rw[lS2,vQ];split
  ·rw[i7,i7]
   show n5 pre+((h.text++x.h.text).length+0)=n5 pre+(h.text.length+0)+_
   rw[lA0];omega
  ·rw[i7,i7]
   show n5 pre+(h.text.length+(x.h.text.length+0))=n5 pre+(h.text.length+0)+_
   omega
theorem o8 {E:List ND}{x:ND}{q:OA}{n c:Nat}{vs:List Value}{RM KM M:List ai}{u:N10}(b4:NDs E vs KM)(b3:Sl 10 af q n c vs RM)(d2:NodeDt x u M)(g5:n<1073741823)(e6:n5 E+x.h.text.length<4611686018427387904)(h:Sat σ w (RM++(KM++(M++L))))(e0: ∀w a7 c4 b5 d1 a6 KM',c4<=n+1->NDs (kv E x) d1 KM'->Sl 10 af a7 c4 b5 d1 a6->Sat σ w (a6++(KM'++L))->R (hQ (hT a7 c4 b5)) w):
 callE P fj #[hT q n c,u.V] R w:=by
 have e7:i64.max=9223372036854775807:=rfl;have g2:=b4.len;have e3:=b3.1;have c8:n=E.length:=by omega
 obtain⟨d3,ht⟩:=d2.kind;refine fQ.sound ?_;refine Sat.bx h λb1 w h=>?_
 have h:Sat σ w ((b1,cel u.C.toList af)::(RM++(KM++(M++L)))):=h
 have b7:E= []\/kv E x=E++ [x]-> ∀i w,Sat σ w ((b1,cel u.C.toList af)::(RM++(KM++(M++L))))->fQ.k1 R q n c b1 i false w:=by
  intro c3 i w h;refine ae rfl (h.ldB10 u (.head _) ?_);have h:Sat σ w (RM++(KM++(M++((b1,cel u.C.toList af)::L)))):=h.re
  refine Sat.app1 rowND b3 h (v:=u.V) rfl (Dp u) (zk u) (by omega) (by omega) (by decide) λa7 b5 w a6 e9 h=>?_
  have e:kv E x=E++ [x]:=by
   rcases c3 with rfl|c3
   ·rfl
   ·exact c3
  refine e0 w a7 (n+1) b5 _ a6 (KM++M) (lZ0 _) (by rw[e];exact b4.append d2.one) e9 ?_;exact h.less [(b1,cel u.C.toList af)]
 rcases lE2 E with rfl|⟨pre,y,rfl⟩
 ·have f3:n=0:=c8;subst f3;exact ae rfl (b7 (.inl rfl) _ w h)
 rw[lS2] at*
 have f2:n=pre.length+1:=by rw[c8];simp
 have g0:i64.wrap ((n:Int) - 1)=(pre.length:Nat):=by rw[gV (by omega) (by omega),f2];rfl
 have g3:=b4;obtain⟨O,e4,v,g6,rfl,rfl,d0,f5⟩:=b4.snoc;have f0:=d0.len;obtain⟨g,W,qa,ca,H,I,c0,us,c1,b9,rfl,rfl,rfl,g1,f4,f6⟩:=f5;have e1:=vQ pre g W x;rw[g0];refine ag (by simp) ⟨_,Sat.ld h (.head _) (i:=0) rfl,?_⟩;have c5: ¬ (x.h.kind=20/\g.kind=20)->kv (pre++ [.mk g W]) x=(pre++ [.mk g W])++ [x]:=by
  intro hc;rw[e1,if_neg hc];simp
 refine bJ (λU=>?_) (λU=>?_)
 ·have e8:x.h.kind=20:=by
   rw[d3] at U;have:=eq_of_beq U;omega
  refine⟨by omega,by omega,?_⟩;have f1:=b3;obtain⟨_,_,⟨rfl,hz,_,_⟩|⟨c2,sp,rfl,rfl,c9⟩⟩:=f1
  ·omega
  refine aa ?_;simp only[lK0,lC0,lN0];have b8: ∀(i:Nat) (z:Value),(g.nd qa ca H I c0).C.toList[i]? =some z->(O++(g.nd qa ca H I c0).C.toList++sp)[pre.length*10+i]? =some z:=by
   intro i z hz;rw[lD0];exact xI f0 hz
  refine⟨_,Sat.ld h (.tail _ (.head _)) (b8 0 _ rfl),?_⟩
  by_cases b6:g.kind=20
  ·rw[show (((g.kind:Nat):Int)==20)=true by rw[b6];rfl];refine ag rfl (h.tk λw h=>⟨by omega,by omega,aa ?_⟩);simp only[lK0,lC0,lN0];refine⟨_,Sat.ld h (.tail _ (.head _)) (b8 1 _ rfl),_,Sat.ld h (.head _) (i:=1) rfl,?_⟩;rw[ht,bM];rw[i7] at e6;have g4:n5 [.mk g W]=g.text.length+0:=rfl;refine⟨by rw[e7,aI,aI];omega,by omega,by omega,aa ?_⟩;simp only[lK0,lC0,lN0,lN1];have e5:(O++(g.nd qa ca H I c0).C.toList++sp).set (pre.length*10+1) (hX (bs (g.text++x.h.text)))=O++(NH.nd {g with text:=g.text++x.h.text} qa ca H I c0).C.toList++sp:=by
    rw[lD0,lO1 _ _ (by omega),show pre.length*10+1 - O.length=1 by omega,lD0];rfl
   refine Sat.st h (k:=1) rfl (by have:=(lL0.1 (b8 1 _ rfl)).1;exact this) trivial rfl λw h=>?_
   rw[e5] at h;have h:Sat σ w ((b1,cel u.C.toList af)::([(c2,cel (O++(NH.nd {g with text:=g.text++x.h.text} qa ca H I c0).C.toList++sp) af)]++(e4++(c1++b9)++(M++L)))):=h
   refine e0 w _ n c (O++(NH.nd {g with text:=g.text++x.h.text} qa ca H I c0).C.toList) [(c2,cel (O++(NH.nd {g with text:=g.text++x.h.text} qa ca H I c0).C.toList++sp) af)] (e4++(c1++b9)) (by omega) ?_ ⟨?_,b3.2.1,.inr ⟨c2,sp,rfl,rfl,?_⟩⟩ ?_
   ·rw[e1,if_pos ⟨e8,b6⟩];exact d0.append (NodeDt.one ⟨_,W,qa,ca,H,I,c0,us,c1,b9,rfl,rfl,rfl,g1,f4,f6⟩)
   ·rw[lA0];rw[lA0] at e3;exact e3
   ·rw[lA0,lA0] at c9⊢;exact c9
   ·exact h.less ((b1,cel u.C.toList af)::M)
  ·rw[show (((g.kind:Nat):Int)==20)=false by rw[beq_eq_false_iff_ne];omega];exact b7 (.inr (c5 (λhc=>b6 hc.2))) _ w h
 ·refine b7 (.inr (c5 (λhc=>?_))) _ w h;rw[d3,hc.1] at U;exact absurd U (by decide)

theorem uP (k d:Nat):(((k:Nat):Int)==(d:Int))=decide (k=d):=by
 rw[lY4,beq_iff_eq,decide_eq_true_eq];omega

def fT:List UInt8->List (List UInt8)
 | []=> [[]]
 |c::s=>if c=10 then []::fT s else match fT s with
  | []=> [[c]]
  |l::ls=>(c::l)::ls

theorem Em {b:Nat}{e:TypeId}: ∀(vs pre mid g:List Value) (k:Nat) {w:World} {K:World->Prop},(∀v∈vs,nx v)->mid.length=vs.length->k=0->Sat σ w ((b,cel (pre++mid++g) e)::L)->(∀y,Sat σ y ((b,cel (pre++vs++g) e)::L)->K y)->stS vs (hZ b pre.length) k w K
 | [],pre,mid,g,k,w,K,_,hm,hk,h,hK=>by
  obtain rfl:=lC1 hm;exact hK w h
 |v::vs,pre,[],g,k,w,K,_,hm,hk,h,hK=>by simp at hm
 |v::vs,pre,m::mid,g,k,w,K,hv,hm,hk,h,hK=>by
  subst hk;refine Sat.st h (k:=0) (i:=pre.length) rfl (by simp) (hv v (.head _)) rfl λy h=>?_
  have W:(pre++(m::mid)++g).set pre.length v=(pre++ [v])++mid++g:=by
   rw[lD0,lO1 _ _ (lZ0 _),lV1];simp
  have h:Sat σ y ((b,cel ((pre++ [v])++mid++g) e)::L):=by rw[<-W];exact h
  have E:=Em vs (pre++ [v]) mid g 0 (K:=K) (λx a6=>hv x (.tail _ a6)) (by simpa using hm) rfl h (λy h=>hK y (by simpa using h));have U: ∀(vs:List Value) (n k:Nat) (w:World),stS vs ⟨b,n+1,none⟩ k w K->stS vs (hZ b n) (k+1) w K:=by
   intro vs
   induction vs with
   |nil=>intro n k w h;exact h
   |cons u us E=>
    intro n k w h;have a7:(⟨b,n+1,none⟩:Addr).add k=((hZ b n):Addr).add (k+1):=by simp only[lK0];congr 1;omega
    obtain⟨V,I,H,O⟩:=h;rw[a7] at I H O;exact⟨V,I,H,E n (k+1) _ O⟩
  refine U vs pre.length 0 y ?_
  simpa using E
def btV:List Value:=hN 80 (hY 0)++ [hV false]
theorem Di {b:Nat}{p:PS}(h:Sat σ w (p.at b::L))(g: ∀w,Sat σ w (({p with bt:= .z}:PS).at b::L)->R (hQ (.tuple #[])) w):callE P dM #[kT (some (hZ b 12))] R w:=by
 refine f8.sound ?_;refine aa ?_
 let pre:List Value:= [kT p.pz,kT p.root,.map p.links,hY p.lineno,hT p.stq p.stn p.stc,hY p.depth,hV p.corner,hX (bs p.s),hY p.em,
  hT p.lq p.ln p.lc,hT p.Lq p.Ln p.Lc,hT p.tq p.tn p.tc]
 have e:p.cells=pre++p.bt.cells++ []:=by rw[lG0];rfl
 have h:Sat σ w ((b,cel (pre++p.bt.cells++ []) gy)::L):=by rw[<-e];exact h
 have:=Em btV pre p.bt.cells [] 0 (K:=λw=>R (hQ (.tuple #[])) w) (λv hv=>by simp[btV] at hv;rcases hv with rfl|rfl<;>trivial) (by simp[BT.cells,p.bt.ok,btV]) rfl h λw h=>g w (by
  have y:({p with bt:= .z}:PS).cells=pre++btV++ []:=by rw[lG0];rfl
  show Sat σ w ((b,cel ({p with bt:= .z}:PS).cells gy)::L)
  rw[y];exact h)
 exact this
theorem sV {s:List UInt8}(hs:s.length<1000000000)(g:s≠ [])(y:(10:UInt8) ∉ s)(h:Sat σ w L)(I: ∀w M,Sat σ w (M++L)->R (hQ (hX (bs s))) w):callE P kY #[hX (bs s),hX (hP #[10]),hX (hP #[32])] R w:=by
 refine eP.sound ?_;intro X O;refine O _ _ _ _ _ _ _ ?_;refine jW (sub:= [10]) (by omega) (by decide) ⟨_,rfl,?_⟩;have e:kM s [10]= -1:=by unfold kM;rw[kK y]
 rw[e];refine ag rfl ?_;refine By.appS By.nil (L:=L) h s (.inl g) (by omega) λW V E H U h _ _=>?_
 exact⟨_,_,U.str h,I E H h⟩
theorem PS.bt80 (p:PS):p.cells[92]? =some (hV p.bt.sc):=by
 show (p.bt.cells)[80]? =_
 unfold BT.cells;rw[lH0 (by simp[p.bt.ok])];simp[p.bt.ok]
def BT.set0 (t:BT)(n:Int):BT:=⟨t.l.set 0 n,t.sc,by simp[t.ok]⟩
theorem PS.set12 (p:PS)(n:Int):p.cells.set 12 (hY n)=({p with bt:=p.bt.set0 n}:PS).cells:=by
 have e:p.bt.cells.set 0 (hY n)=(p.bt.set0 n).cells:=by
  obtain⟨l,sc,ok⟩:=p.bt;cases l with
  |nil=>simp at ok
  |cons x l=>rfl
 have g: ∀(q:PS) (l:List Value),({q with bt:= .z}:PS).cells.take 12=q.cells.take 12:=λq l=>rfl
 show [kT p.pz,kT p.root,.map p.links,hY p.lineno,hT p.stq p.stn p.stc,hY p.depth,hV p.corner,hX (bs p.s),hY p.em,hT p.lq p.ln p.lc,hT p.Lq p.Ln p.Lc,hT p.tq p.tn p.tc]++p.bt.cells.set 0 (hY n)=_
 rw[e];rfl
theorem PS.cells12 (p:PS):12<p.cells.length:=by
 show 12<(p.bt.cells.length+12)
 simp[BT.cells,p.bt.ok]
theorem Cp {b:Nat}{p:PS}{A T B:List UInt8}(b5:T≠ [])(y: ∀c∈T,c≠96/\c≠10/\c≠32)(c9:B.head? ≠some 96)(b6:(A++96::(T++96::B)).length<1000000)(I:p.bt.sc=false):
 pM b p (A++96::(T++96::B)) A.length (.func (.func bI) #[kT (some (hZ b 12))] #[]) [] (some (.code T,A.length,A.length+T.length+2)) (λp'=>p'.bt.sc=false):=by
 intro σ R L w _ h c8;refine gK ?_;generalize hs:A++96::(T++96::B)=s at b6;have e2:s.length=A.length+(T.length+B.length+2):=by rw[<-hs];simp;omega
 have g:0<T.length:=lY0.2 b5
 show callE P bI #[kT (some (hZ b 12)),kT (kE b),hX (bs s),hY (A.length:Nat)] R w
 have b4: ∀(k:Nat) (b3:k<T.length) (h:A.length+1+k<s.length),s[A.length+1+k]=T[k]:=by
  intro k b3 h;subst hs;rw[lK2 (by omega)];simp only[show A.length+1+k - A.length=k+1 by omega,lE6];rw[lP5 b3]
 have a7: ∀(h:A.length+1+T.length<s.length),s[A.length+1+T.length]=96:=by
  intro h;subst hs;rw[lK2 (by omega)];simp only[show A.length+1+T.length - A.length=T.length+1 by omega,lE6];rw[lK2 (by omega)];simp
 have c5: ∀(h:A.length+1+T.length+1<s.length),s[A.length+1+T.length+1]≠96:=by
  intro h b9;have e:s[A.length+1+T.length+1]? =some 96:=by rw[lI0 h,b9]
  rw[<-hs,lH0 (by omega)] at e;rw[show A.length+1+T.length+1 - A.length=(T.length+1)+1 by omega,lZ2,lH0 (by omega),show T.length+1 - T.length=0+1 by omega,lZ2] at e;rw[<-lC6] at e;exact c9 e
 refine aE.sound ?_;intro e4 b8;refine b8 _ _ _ _ _ _ ?_;have H:i64.wrap (((A.length:Nat):Int)+1)=((A.length+1:Nat):Int):=aN (by omega)
 refine⟨λ_=>by rw[H];exact⟨by omega,by simp;omega⟩,?_⟩;rw[H];have d2:s[A.length+1]'(by omega)≠96:=by
  have:s[A.length+1]'(by omega)=T[0]:=b4 0 g (by omega);rw[this];exact(y _ (lP1 g)).1
 refine ae ?_ ?_
 ·rw[da (by omega) 96 96 rfl];simp[d2]
 refine ae rfl (aa ⟨_,Sat.ld h (.head _) (i:=92) p.bt80,?_⟩);rw[I];refine ae rfl ?_;unfold aE.k3;rw[H];intro d3 U;have c1: ∀k m,m+k=T.length->d3 (some (hZ b 12)) (bs s) (A.length:Nat) (A.length:Nat) 1 ((A.length+1+m:Nat):Int) w:=by
  intro k
  induction k with
  |succ k d1=>
   intro m e0;refine U _ _ _ _ _ _ _ (ag (by simp;omega) ⟨by omega,by simp;omega,ag ?_ ?_⟩)
   ·have e:=da (l:=s) (i:=A.length+1+m) (by omega) 96 96 rfl
    have:(bt (bs s) ((A.length+1+m:Nat):Int) !=96)= !(bt (bs s) ((A.length+1+m:Nat):Int)==96):=rfl
    rw[this,e,b4 m (by omega) (by omega)];simp[(y _ (lP1 (show m<T.length by omega))).1]
   ·rw[aN (by omega)];exact d1 (m+1) (by omega)
  |zero=>
   intro m e0;obtain rfl:m=T.length:=by omega
   refine U _ _ _ _ _ _ _ (ag (by simp;omega) ⟨by omega,by simp;omega,ae ?_ ?_⟩)
   ·have e:=da (l:=s) (i:=A.length+1+T.length) (by omega) 96 96 rfl
    have:(bt (bs s) ((A.length+1+T.length:Nat):Int) !=96)= !(bt (bs s) ((A.length+1+T.length:Nat):Int)==96):=rfl
    rw[this,e,a7 (by omega)];rfl
   intro e3 O;refine O _ _ _ _ _ _ _ _ ⟨λ_=>⟨by omega,by simp;omega⟩,ag ?_ ?_⟩
   ·rw[da (by omega) 96 96 rfl,a7 (by omega)];simp;omega
   rw[aN (by omega)];refine O _ _ _ _ _ _ _ _ ⟨λE=>⟨by omega,by simpa using E⟩,ae ?_ ?_⟩
   ·by_cases W:A.length+1+T.length+1<s.length
    ·rw[da W 96 96 rfl];simp[c5 W]
    ·rw[show decide (((A.length+1+T.length+1:Nat):Int)<((bs s).size:Int))=false by simp;omega];rfl
   refine aa ⟨_,Sat.ld h (.head _) (i:=92) p.bt80,?_⟩;have d0:i64.wrap (((A.length+1+T.length+1:Nat):Int) - ((A.length+1+T.length:Nat):Int))=1:=by
    rw[show (((A.length+1+T.length+1:Nat):Int) - ((A.length+1+T.length:Nat):Int))=1 by omega];rfl
   rw[d0,I];refine ag rfl (aa ⟨by decide,by decide,?_⟩);refine Sat.st h (k:=0) (i:=12) rfl p.cells12 trivial rfl λw h=>?_
   rw[p.set12] at h;have h:Sat σ w (({p with bt:=p.bt.set0 ((A.length+1+T.length:Nat):Int)}:PS).at b::L):=h
   generalize V:({p with bt:=p.bt.set0 ((A.length+1+T.length:Nat):Int)}:PS)=p' at h;have c2:p'.core2=p.core2:=by rw[<-V];rfl
   have b7:p'.bt.sc=false:=by rw[<-V];exact I
   refine ag rfl ?_;rw[H];refine⟨by omega,by omega,by simp;omega,?_⟩;rw[lC0,lC0,bV];have e1:(s.take (A.length+1+T.length)).drop (A.length+1)=T:=by
    rw[<-hs];rw[show A++96::(T++96::B)=((A++ [96])++T)++96::B by simp,lB5 (by simp;omega),lA5 (by simp)]
   rw[e1];refine sV (by omega) b5 (λh=>(y _ h).2.1 rfl) h λw M h=>⟨_,rfl,?_⟩
   have a6:(bt (bs T) 0==32)=false:=by
    have:=da (l:=T) (i:=0) g 32 32 rfl
    rw[show ((0:Nat):Int)=0 from rfl] at this;rw[this];simp[(y _ (lP1 g)).2.2]
   refine⟨λ_=>⟨by decide,by simp;omega⟩,λE=>by rw[a6] at E;simp at E,ae (by rw[a6];simp) ?_⟩;refine ae rfl (Sat.bx h λc3 w h=>?_);have c4:((A.length+1+T.length+1:Nat):Int)=((A.length+T.length+2:Nat):Int):=by omega
   rw[c4];exact c8 w p' _ _ c2 b7 ⟨c3,AO,rfl,rfl⟩ (h.less M)
 exact c1 T.length 0 (by omega)

def AtD (X:XI)(σ:Out)(b:Nat)(p0:PS)(raw:List UInt8)(L:List ai)(i e:Nat)(ts:List Inl)(opens:List Nat)(lo:Int):Prop:=
 ∀g,AtC g (λt=>g=true->t.sc=false) X σ b p0 raw L i e ts opens lo
def xf (R:Ending->World->Prop)(X:XI)(b:Nat)(raw:List UInt8):Prop:= ∀g,GH R X b raw g
theorem AtD.plain {X:XI}{b pb i e:Nat}{p0:PS}{raw:List UInt8}{ts:List Inl}{opens:List Nat}{lo:Int}{o:Opt}(b5:xf R X b raw)(hi:i<raw.length)(hs:raw.length<1000000000)(U:p0.pz=kE pb)(c2:o.at pb∈L)(a7:jR o raw[i]= .nil)(V:raw[i]≠93\/opens= [])(h:AtD X σ b p0 raw L (i+1) e ts opens lo):AtD X σ b p0 raw L i e ts opens lo:=by
 intro H w p b8 b9 c1 W hc O b7 b6;refine b5 H _ _ _ _ _ _ ?_;obtain⟨vs,RM,EM,b3,b4,a6,E,I,g⟩:=b6;refine kJ (p:=p) hi (by omega) (by rw[PS.pz_of hc,U]) (.head _) (.tail _ (lB0 _ (lB0 _ (lB0 _ c2)))) g ?_;rw[a7];have y:=E.1;rw[lS0] at y;exact zc (Gm hi (by omega) (V.imp id (by rintro rfl;simp at y;omega)) (h H w p b8 b9 c1 W hc O b7 ⟨vs,RM,EM,b3,b4,a6,E,I,g⟩))
theorem AtD.plains {X:XI}{b pb e:Nat}{p0:PS}{raw:List UInt8}{ts:List Inl}{opens:List Nat}{lo:Int}{o:Opt}(E:xf R X b raw)(hs:raw.length<1000000000)(g:p0.pz=kE pb)(y:o.at pb∈L):
 ∀(k i:Nat),i+k<=raw.length->(∀j (I:j<raw.length),i<=j->j<i+k->jR o raw[j]= .nil/\raw[j]≠93)->AtD X σ b p0 raw L (i+k) e ts opens lo->AtD X σ b p0 raw L i e ts opens lo
 |0,i,_,_,h=>h
 |k+1,i,hk,hall,h=>by
  have hi:i<raw.length:=by omega
  have H:=hall i hi (lZ0 _) (by omega);refine AtD.plain E hi hs g y H.1 (.inl H.2) ?_;refine AtD.plains E hs g y k (i+1) (by omega) (λj I O U=>hall j I (by omega) (by omega)) ?_;rw[show i+1+k=i+(k+1) by omega];exact h
theorem AtD.leaf {X:XI}{b pb i e st en:Nat}{p0:PS}{raw:List UInt8}{ts:List Inl}{opens:List Nat}{lo:Int}{o:Opt}{f:FuncId}{t:Inl}{L0:List ai}(c5:xf R X b raw)(hi:i<raw.length)(hs:raw.length<1000000000)(a7:p0.pz=kE pb)(d3:o.at pb∈L)(c2:jR o raw[i]= .fn f)(b8: ∀c∈L0,c∈L)(d1: ∀p:PS,p.coreS=p0.coreS->p.s=raw->pM b p raw i (.func (.func f) #[] #[]) L0 (some (t,st,en)) (λp'=>p'=p))(b4:st<=raw.length)(c8:ts.length<1000000000)(b3:opens.length<1000000000)(h:AtD X σ b p0 raw L en en (kt raw e st ts++ [t]) (if t.isOpen then opens++ [(kt raw e st ts).length] else opens) lo):AtD X σ b p0 raw L i e ts opens lo:=by
 intro O w p H I U b5 hc g d0 c9;refine c5 O _ _ _ _ _ _ ?_;obtain⟨vs,RM,EM,c3,c4,b6,b9,W,y⟩:=c9;refine kJ (p:=p) hi (by omega) (by rw[PS.pz_of hc,a7]) (.head _) (.tail _ (lB0 _ (lB0 _ (lB0 _ d3)))) y ?_;rw[c2];dsimp only;have V:=d1 p hc g;subst g;refine zd ⟨vs,RM,EM,c3,c4,b6,b9,W,y⟩ b8 V d0 b4 hs c8 b3 λw p2 H I U E a6 d2 e0=>?_
 have b7:p2.bt=p.bt:=by obtain⟨e1,rfl,c1⟩:=d2;exact c1
 refine h O w p2 H I U (by rw[b7];exact b5) (PS.coreS_of E hc) ?_ a6 e0;have:=congrArg PS.s E;exact this
theorem AtD.code {X:XI}{b pb e:Nat}{p0:PS}{A T B raw:List UInt8}{ts:List Inl}{opens:List Nat}{lo:Int}{o:Opt}(c9:xf R X b raw)(y:raw=A++96::(T++96::B))(d3:T≠ [])(c3: ∀c∈T,c≠96/\c≠10/\c≠32)(d0:B.head? ≠some 96)(hs:raw.length<1000000)(b6:p0.pz=kE pb)(e2:o.at pb∈L)(d1:ts.length<1000000000)(b8:opens.length<1000000000)(h:AtD X σ b p0 raw L (A.length+T.length+2) (A.length+T.length+2) (kt raw e A.length ts++ [.code T]) opens lo):AtD X σ b p0 raw L A.length e ts opens lo:=by
 have e5:raw.length=A.length+(T.length+B.length+2):=by rw[y];simp;omega
 have hi:A.length<raw.length:=by omega
 have e0:raw[A.length]=96:=by subst y;rw[lK2 (lZ0 _)];simp
 intro b3 w p O U V b9 hc E I d2;refine c9 b3 _ _ _ _ _ _ ?_;obtain⟨vs,RM,EM,a7,H,c1,c4,b4,g⟩:=d2;have fin: ∀w (p:PS),p.bt.sc=false->p.coreS=p0.coreS->p.s=raw->p.em=(e:Int)->Sl 1 aC p.lq p.ln p.lc vs RM->Sat σ w (p.at b::(RM++(EM++(a7++L))))->av.k1 R X (kE b) (bs raw) O U V lo true (A.length:Nat) (.func (.func bI) #[kT (some (hZ b 12))] #[]) w:=by
  intro w p b7 hc E I H g;have W:=Cp (b:=b) (p:=p) (A:=A) (T:=T) (B:=B) d3 c3 d0 (by rw[<-y];exact hs) b7
  rw[<-y] at W;subst E;refine zd ⟨vs,RM,EM,a7,H,c1,c4,b4,g⟩ (L0:= []) (by simp) W I (by omega) (by omega) d1 b8 λw p2 O U V a6 b5 e1 e3=>?_
  have c2:p2.bt.sc=false:=by obtain⟨e4,c5,c8⟩:=e1;rw[c8];exact c5
  refine h true w p2 O U V (λ_=>c2) (PS.coreS_of a6 hc) ?_ b5 e3;have:=congrArg PS.s a6;exact this
 refine kJ (p:=p) hi (by omega) (by rw[PS.pz_of hc,b6]) (.head _) (.tail _ (lB0 _ (lB0 _ (lB0 _ e2)))) g ?_;rw[e0,show jR o 96= .code from rfl];cases b3 with
 |true=>exact ae rfl (fin w p (b9 rfl) hc E I H g)
 |false=>
  refine ag rfl ?_;refine Di g λw g=>⟨rfl,?_⟩
  refine fin w {p with bt:= .z} rfl ?_ E I H g;rw[<-hc];rfl
theorem AtD.close {X:XI}{b pb i e en k:Nat}{p0:PS}{raw:List UInt8}{ts1 ts2:List Inl}{opens:List Nat}{lo:Int}{o:Opt}{t url title:List UInt8}{tc:UInt8}{cor img:Bool}{L0:List ai}(b5:xf R X b raw)(hi:i<raw.length)(hs:raw.length<1000000)(hc:raw[i]=93)(O:p0.pz=kE pb)(b4:o.at pb∈L)(a7: ∀c∈L0,c∈L)(ht:t.getD 0 0=(if img then 33 else 91))(I:t≠ [])(U:img=true\/lo<=(k:Int))(H:url.length<1000000)(y: ∀p:PS,p.coreS=p0.coreS->p.s=raw->vt b p raw i t k L0 url title tc cor en)(W:ts2++mr raw e i≠ [])(b3:wfE (ts2++mr raw e i))(V:nw none (ts2++mr raw e i))(b6:(ts1++ts2).length<1000000)(a6:opens.length<1000000)(E:AtD X σ b p0 raw L en en (ts1++ [zq img (wT (ts2++mr raw e i)) url title tc cor]) opens (if img then lo else (k:Int))):
 AtD X σ b p0 raw L i e (ts1++ .openP t k::ts2) (opens++ [ts1.length]) lo:=
 λg=>AtC.close (b5 g) hi hs hc O b4 a7 ht I U H y W b3 V b6 a6 (E g)
theorem AtD.fin {X:XI}{b pb e:Nat}{p0:PS}{raw:List UInt8}{ts ts':List Inl}{opens:List Nat}{lo:Int}{o:Opt}(b5:xf R X b raw)(hs:raw.length<1000000000)(O:p0.pz=kE pb)(a7:o.at pb∈L)(E:o.auto=false)(g:ts.length<1000000000)(W:zx (kt raw e raw.length ts) ts')(I: ∀t∈ts',∀s,t.plain? =some s->s≠ [])(hb:rh ts'<1073741824)(b4: ∀w (p':PS) q n c vs RM EM,p'.coreS=p0.coreS->Sl 1 aC q n c vs RM->n<1073741824->InlsAt (kI ts') vs EM->Sat σ w (p'.at b::(RM++(EM++L)))->R (hQ (hT q n c)) w):
 AtD X σ b p0 raw L raw.length e ts opens lo:=by
 intro V w p b8 b9 b7 b6 hc H a6 y;refine b5 V _ _ _ _ _ _ ?_;subst H;exact Fq y a6 hs g (by rw[PS.pz_of hc,O]) a7 E W I hb λw p2 q n c vs RM EM U b3 g y h=>b4 w p2 q n c vs RM EM (PS.coreS_of U hc) b3 g y h
namespace bU
def k3 (R:EP)(g E:Int)(y:Bool)(w:World):Prop:=br y (False) (box w #[] vA λb1 H=>R (hQ (.tuple #[.iface ju (kT (kE b1)),hY g,hY E,hV true])) H)
def k2 (R:EP)(y:BA)(g E H:Int)(w:World):Prop:=((decide (g >= 2))=true->0<=(i64.wrap (g - 1))/\(i64.wrap (g - 1))<(y.size:Int))/\(((decide (g >= 2)) && ((bt y (i64.wrap (g - 1)))==32))=true->0<=(i64.wrap (g - 2))/\(i64.wrap (g - 2))<(y.size:Int))/\k3 R E H (((decide (g >= 2)) && ((bt y (i64.wrap (g - 1)))==32)) && ((bt y (i64.wrap (g - 2)))==32)) w
def bl2 (R:EP)(Xa:BA->Int->Int->Int->WP)(y:BA)(H E g:Int)(w:World):Prop:=((decide (g<(y.size:Int)))=true->0<=g/\g<(y.size:Int))/\(((decide (g<(y.size:Int))) && (!((bt y g)==32)))=true->0<=g/\g<(y.size:Int))/\br ((decide (g<(y.size:Int))) && (((bt y g)==32)||((bt y g)==9))) (False) (k2 R y H E g w)
def l2 (R:EP)(E:BA)(H g y:Int)(w:World):Prop:=∀X:BA->Int->Int->Int->WP,(∀E H g y w,bl2 R X E H g y w->X E H g y w)->X E H g y w
def k1 (R:EP)(E:BA)(g y:Int)(w:World):Prop:=l2 R E g y (i64.wrap (g+1)) w
def bl1 (R:EP)(H:BA->Int->Int->WP)(y:BA)(E g:Int)(w:World):Prop:=((decide (g>0))=true->0<=(i64.wrap (g - 1))/\(i64.wrap (g - 1))<(y.size:Int))/\(((decide (g>0)) && (!((bt y (i64.wrap (g - 1)))==32)))=true->0<=(i64.wrap (g - 1))/\(i64.wrap (g - 1))<(y.size:Int))/\br ((decide (g>0)) && (((bt y (i64.wrap (g - 1)))==32)||((bt y (i64.wrap (g - 1)))==9))) (False) (k1 R y E g w)
def l1 (R:EP)(y:BA)(E g:Int)(w:World):Prop:=∀X:BA->Int->Int->WP,(∀y E g w,bl1 R X y E g w->X y E g w)->X y E g w
end bU
def bU (R:EP)(E:OA)(y:BA)(g:Int)(w:World):Prop:=bU.l1 R y g g w
theorem bU.sound {R x0 x1 x2 w}(h:bU R x0 x1 x2 w):callE P jD #[kT x0,hX x1,hY x2] R w:=
 aH [(19,.lp [21,47,207] (bU.bl1 R) λg=> [(10,.no)]),(15,.mk [21,47,207] (bU.k1 R)),(79,.lp [21,47,207,227] (bU.bl2 R) λXa=> [(10,.no)]),(63,.mk [21,47,207,227] (bU.k2 R)),(223,.mk [207,227,1320] (bU.k3 R)),(351,.no)] Tryz.func118 Tryz.call118 h
def jV (R:EP)(U:OA)(y:BA)(g:Int)(w:World):Prop:=br (decide ((i64.wrap (g+1))<(y.size:Int))) (0<=(i64.wrap (g+1))/\(i64.wrap (g+1))<(y.size:Int)/\callE P lG #[.int .u8 (bt y (i64.wrap (g+1)))] (λe I=>∃E,e= hQ (hV E)/\br E (0<=(i64.wrap (g+1))/\(i64.wrap (g+1))<=(i64.wrap (g+2))/\(i64.wrap (g+2))<=(y.size:Int)/\box I #[hX (y.extract (Int.toNat (i64.wrap (g+1))) (Int.toNat (i64.wrap (g+2))))] zz λH O=>R (hQ (.tuple #[.iface kz (kT (kE H)),hY g,hY (i64.wrap (g+2)),hV true])) O) (False)) w) (False)
theorem jV.sound {R x0 x1 x2 w}(h:jV R x0 x1 x2 w):callE P iU #[kT x0,hX x1,hY x2] R w:=
 aH [(469,.no),(373,.no),(501,.no),(29,.no),(7,.no)] Tryz.func109 Tryz.call109 h

def punB (c:UInt8):Bool:=(((decide (33<=c.toNat) && decide (c.toNat<=47))||(decide (58<=c.toNat) && decide (c.toNat<=64)))||(decide (91<=c.toNat) && decide (c.toNat<=96)))||(decide (123<=c.toNat) && decide (c.toNat<=126))
theorem yK (c:UInt8)(n:Nat):decide ((n:Int)<=((c.toNat:Nat):Int))=decide (n<=c.toNat):=by rw[decide_eq_decide];omega
theorem yL (c:UInt8)(n:Nat):decide (((c.toNat:Nat):Int)<=(n:Int))=decide (c.toNat<=n):=by rw[decide_eq_decide];omega
theorem ya {c:UInt8}(g:R (hQ (hV (punB c))) w):callE P lG #[.int .u8 (c.toNat:Int)] R w:=by
 refine lH.sound ?_;unfold lH;unfold punB at g;rw[<-yK c 33,<-yL c 47,<-yK c 58,<-yL c 64,<-yK c 91,<-yL c 96,<-yK c 123,<-yL c 126] at g;exact g
theorem yr {b:Nat}{p:PS}{c:UInt8}{A B:List UInt8}(hc:punB c=true)(hs:(A++92::c::B).length<1000000):
 pM b p (A++92::c::B) A.length (.func (.func iU) #[] #[]) [] (some (.esc [c],A.length,A.length+2)) (λp'=>p'=p):=by
 intro σ R L w _ h I;refine gK ?_;have y:(A++92::c::B).length=A.length+B.length+2:=by simp;omega
 have H:(A++92::c::B).getD (A.length+1) 0=c:=by
  have:=uW (A++ [92]) B c 0;rw[show (A++ [92]:List UInt8).length=A.length+1 by simp] at this;rw[<-this];simp
 refine jV.sound ?_;unfold jV;have O:i64.wrap ((A.length:Int)+2)=((A.length+2:Nat):Int):=by simp (disch:=omega) only[i64_in];omega
 rw[aN (by omega),O];refine ag (by rw[aI,y];simp;omega) ⟨by omega,by rw[aI,y];omega,?_⟩;rw[oP,H];refine ya ⟨_,rfl,ag hc ⟨by omega,by omega,by rw[aI,y];omega,?_⟩⟩;have g:=pU (A++ [92]) [c] B;rw[show (A++ [92]:List UInt8).length=A.length+1 by simp] at g;rw[lC0,lC0,bV];have E:((A++92::c::B).take (A.length+2)).drop (A.length+1)= [c]:=by
  unfold sub at g;rw[<-g];simp
 rw[E];refine Sat.bx h λnb w h=>?_
 exact I w p _ _ rfl rfl ⟨nb,_,rfl,rfl⟩ h.up1
theorem Ak {b:Nat}{p:PS}{A B:List UInt8}(O: ∀k,k+1=A.length->cL (A.getD k 0)=false)(b3:0<B.length->cL (B.getD 0 0)=false)(hs:(A++10::B).length<1000000):
 pM b p (A++10::B) A.length (.func (.func jD) #[] #[]) [] (some (.soft,A.length,A.length+1)) (λp'=>p'=p):=by
 intro σ R L w _ h U;refine gK ?_;have g:(A++10::B).length=A.length+B.length+1:=by simp;omega
 have H: ∀ {c:UInt8},cL c=false->(((c.toNat:Nat):Int)==32)=false/\(((c.toNat:Nat):Int)==9)=false:=by
  intro c hc;simp only[cL,lI2] at hc;rw[u8b _ 32 32 rfl,u8b _ 9 9 rfl];exact hc
 refine bU.sound ?_;intro X V;have k1:bU.k1 R (bs (A++10::B)) (A.length:Nat) (A.length:Nat) w:=by
  unfold bU.k1;rw[aN (by omega)];intro Y W;have k2:bU.k2 R (bs (A++10::B)) (A.length:Nat) (A.length:Nat) ((A.length+1:Nat):Int) w:=by
   rcases lL4 A.length 2 with a7|a7
   ·have E:decide (((A.length:Nat):Int) >= 2)=false:=decide_eq_false (by omega)
    unfold bU.k2;rw[E];refine⟨λh=>by simp at h,λh=>by simp at h,ae rfl ?_⟩;exact Sat.bx h λnb w h=>U w p _ _ rfl rfl ⟨nb,_,rfl,rfl⟩ h.up1
   ·have ht:decide (((A.length:Nat):Int) >= 2)=true:=decide_eq_true (by omega)
    have I:i64.wrap ((A.length:Int) - 1)=((A.length - 1:Nat):Int):=gV (by omega) (by omega)
    have hc:=H (O (A.length - 1) (by omega));have y:bt (bs (A++10::B)) ((A.length - 1:Nat):Int)=((A.getD (A.length - 1) 0).toNat:Int):=by rw[oP,m7 (by omega)]
    unfold bU.k2;rw[ht,I,y,hc.1];refine⟨λ_=>⟨by omega,by rw[aI,g];omega⟩,λh=>by simp at h,ae rfl ?_⟩;exact Sat.bx h λnb w h=>U w p _ _ rfl rfl ⟨nb,_,rfl,rfl⟩ h.up1
  rcases lI4 B.length with hb|hb
  ·have E:decide (((A.length+1:Nat):Int)<((bs (A++10::B)).size:Int))=false:=decide_eq_false (by rw[aI,g];omega)
   refine W _ _ _ _ _ ?_;unfold bU.bl2;rw[E];exact⟨λh=>by simp at h,λh=>by simp at h,ae rfl k2⟩
  ·have hc:=H (b3 hb);have y:bt (bs (A++10::B)) ((A.length+1:Nat):Int)=((B.getD 0 0).toNat:Int):=by
    rw[oP,pw (by omega),show A.length+1 - A.length=0+1 by omega,lH5]
   refine W _ _ _ _ _ ?_;unfold bU.bl2;rw[y,hc.1,hc.2];exact⟨λh=>⟨by omega,by rw[aI,g];omega⟩,λh=>⟨by omega,by rw[aI,g];omega⟩,ae (by simp) k2⟩
 rcases lI4 A.length with a6|a6
 ·have E:decide (((A.length:Nat):Int)>0)=false:=decide_eq_false (by omega)
  refine V _ _ _ _ ?_;unfold bU.bl1;rw[E];exact⟨λh=>by simp at h,λh=>by simp at h,ae rfl k1⟩
 ·have I:i64.wrap ((A.length:Int) - 1)=((A.length - 1:Nat):Int):=gV (by omega) (by omega)
  have hc:=H (O (A.length - 1) (by omega));have y:bt (bs (A++10::B)) ((A.length - 1:Nat):Int)=((A.getD (A.length - 1) 0).toNat:Int):=by rw[oP,m7 (by omega)]
  refine V _ _ _ _ ?_;unfold bU.bl1;rw[I,y,hc.1,hc.2];exact⟨λh=>⟨by omega,by rw[aI,g];omega⟩,λh=>⟨by omega,by rw[aI,g];omega⟩,ae (by simp) k1⟩
theorem jb: ∀(a b:List Inl),rh (a++b)=rh a+rh b
 | [],b=>by simp[rh]
 |t::a,b=>by simp only[lQ0,rh,jb a b];omega
theorem yS {A B:List UInt8}{e:Nat}(x:List UInt8)(E:e<=A.length):sub (A++(x++B)) e (A.length+x.length)=sub (A++(x++B)) e A.length++x:=by
 unfold sub;have y:(A++(x++B)).take (A.length+x.length)=A++x:=by rw[<-lD0,show A.length+x.length=(A++x).length by simp,lO4]
 have g:(A++(x++B)).take A.length=A:=lO4;rw[y,g,lJ2 E]

def wB (c:UInt8):Bool:=(97<=c && c<=122)||128<=c
structure WdP (s:List UInt8):Prop where
 ne:s≠ []
 by_: ∀c∈s,wB c=true
 len:s.length<=100
 opn: ∀(b:Nat) (p:PS) (A B:List UInt8) (k:Nat),1<=k->(A++32::(hN k 42++(s++B))).length<1000000->
  pM b p (A++32::(hN k 42++(s++B))) (A.length+1) (.func (.func dO) #[] #[]) [] (some (.emphP (hN k 42) true false 0 (k:Nat),A.length+1,A.length+1+k)) (λp'=>p'=p)
 cls: ∀(b:Nat) (p:PS) (A B:List UInt8) (k:Nat),1<=k->(B= []\/ ∃B',B=32::B'\/B=10::B')->(A++(s++(hN k 42++B))).length<1000000->
  pM b p (A++(s++(hN k 42++B))) (A.length+s.length) (.func (.func dO) #[] #[]) [] (some (.emphP (hN k 42) false true 0 (k:Nat),A.length+s.length,A.length+s.length+k)) (λp'=>p'=p)
structure DsP (d:List UInt8):Prop where
 ne:d≠ []
 by_: ∀c∈d,yx c=true/\kX c=false
 len:d.length<=200
inductive Tk where
 |wd (s:List UInt8)
 |sp
 |nl
 |em (k:Nat) (s:List UInt8)
 |cd (s:List UInt8)
 |lk (s d:List UInt8)
 |es (s:List UInt8)
def Tk.B:Tk->List UInt8
 | .wd s=>s
 | .sp=> [32]
 | .nl=> [10]
 | .em k s=>hN k 42++(s++hN k 42)
 | .cd s=>96::(s++ [96])
 | .lk s d=>91::(s++93::40::(d++ [41]))
 | .es s=>92::42::s
def tkB (l:List Tk):List UInt8:=l.flatMap Tk.B
theorem cu (t:Tk)(l:List Tk):tkB (t::l)=t.B++tkB l:=rfl
theorem tA (a b:List Tk):tkB (a++b)=tkB a++tkB b:=by simp[tkB]
def okT:Nat->List Tk->Prop
 |n,[]=>n=2
 |n,.wd s::r=>n≠2/\WdP s/\okT 2 r
 |n,.sp::r=>n=2/\okT 1 r
 |n,.nl::r=>n=2/\okT 0 r
 |n,.em k s::r=>n=1/\WdP s/\(k=1\/k=2)/\okT 2 r
 |n,.cd s::r=>n=1/\WdP s/\okT 2 r
 |n,.lk s d::r=>n=1/\WdP s/\DsP d/\okT 2 r
 |n,.es s::r=>n=1/\WdP s/\okT 2 r
def fl (p:List UInt8):List Inl:=if p= [] then [] else [.plain p]
def Tk.raw:Tk->List Inl
 | .em k s=> [.emphP (hN k 42) true false 0 (k:Nat),.plain s,.emphP (hN k 42) false true 0 (k:Nat)]
 | .cd s=> [.code s]
 | .lk s d=> [.link [.plain s] d [] 0 false]
 |_=> [.soft]
def Tk.out:Tk->List Inl
 | .em k s=> [if k=1 then .emph [42] [.plain s] else .strong [42,42] [.plain s]]
 | .cd s=> [.code s]
 | .lk s d=> [.link [.plain s] d [] 0 false]
 |_=> [.soft]
def tkG (f:Tk->List Inl):List UInt8->List Tk->List Inl
 |p,[]=>fl p
 |p,.wd s::r=>tkG f (p++s) r
 |p,.sp::r=>tkG f (p++ [32]) r
 |p,.es s::r=>fl p++ .esc [42]::tkG f s r
 |p,.nl::r=>fl p++(f .nl++tkG f [] r)
 |p,.em k s::r=>fl p++(f (.em k s)++tkG f [] r)
 |p,.cd s::r=>fl p++(f (.cd s)++tkG f [] r)
 |p,.lk s d::r=>fl p++(f (.lk s d)++tkG f [] r)
structure De where
 out:List Inl
 p:List UInt8
 m:Nat
 a:List UInt8
 d:List UInt8
def De.step (st:De)(c:UInt8):De:=
 if st.m=0 then
  if c=42 then ⟨st.out,st.p,1,[],[]⟩ else if c=96 then ⟨st.out,st.p,5,[],[]⟩ else if c=91 then ⟨st.out,st.p,6,[],[]⟩ else if c=92 then ⟨st.out,st.p,9,[],[]⟩
  else if c=10 then ⟨st.out++(fl st.p++ [.soft]),[],0,[],[]⟩ else ⟨st.out,st.p++ [c],0,[],[]⟩
 else if st.m=1 then if c=42 then ⟨st.out,st.p,3,[],[]⟩ else ⟨st.out,st.p,2,[c],[]⟩
 else if st.m=2 then if c=42 then ⟨st.out++(fl st.p++ [.emph [42] [.plain st.a]]),[],0,[],[]⟩ else ⟨st.out,st.p,2,st.a++ [c],[]⟩
 else if st.m=3 then if c=42 then ⟨st.out,st.p,4,st.a,[]⟩ else ⟨st.out,st.p,3,st.a++ [c],[]⟩
 else if st.m=4 then ⟨st.out++(fl st.p++ [.strong [42,42] [.plain st.a]]),[],0,[],[]⟩
 else if st.m=5 then if c=96 then ⟨st.out++(fl st.p++ [.code st.a]),[],0,[],[]⟩ else ⟨st.out,st.p,5,st.a++ [c],[]⟩
 else if st.m=6 then if c=93 then ⟨st.out,st.p,7,st.a,[]⟩ else ⟨st.out,st.p,6,st.a++ [c],[]⟩
 else if st.m=7 then ⟨st.out,st.p,8,st.a,[]⟩
 else if st.m=8 then if c=41 then ⟨st.out++(fl st.p++ [.link [.plain st.a] st.d [] 0 false]),[],0,[],[]⟩ else ⟨st.out,st.p,8,st.a,st.d++ [c]⟩
 else ⟨st.out++(fl st.p++ [.esc [c]]),[],0,[],[]⟩
def vv (raw:List UInt8):List Inl:=
 let st:=raw.foldl De.step ⟨[],[],0,[],[]⟩
 st.out++fl st.p
theorem vx {c:UInt8}(h:wB c=true):c≠42/\c≠96/\c≠91/\c≠92/\c≠10/\c≠93/\c≠41/\c≠32/\c≠9:=by
 refine⟨?_,?_,?_,?_,?_,?_,?_,?_,?_⟩<;>(rintro rfl;revert h;decide)
theorem FA {out:List Inl}: ∀ {s p:List UInt8},(∀c∈s,wB c=true)->s.foldl De.step ⟨out,p,0,[],[]⟩=⟨out,p++s,0,[],[]⟩
 | [],p,_=>by simp
 |c::s,p,h=>by
  obtain⟨g,E,y,I,H,_⟩:=vx (h c (.head _));have e:De.step ⟨out,p,0,[],[]⟩ c=⟨out,p++ [c],0,[],[]⟩:=by simp[De.step,g,E,y,I,H]
  rw[lU1,e,FA λd hd=>h d (.tail _ hd)];simp
theorem Gu {out:List Inl}{p:List UInt8}: ∀ {s a:List UInt8},(∀c∈s,wB c=true)->s.foldl De.step ⟨out,p,2,a,[]⟩=⟨out,p,2,a++s,[]⟩
 | [],a,_=>by simp
 |c::s,a,h=>by
  have e:De.step ⟨out,p,2,a,[]⟩ c=⟨out,p,2,a++ [c],[]⟩:=by simp[De.step,(vx (h c (.head _))).1]
  rw[lU1,e,Gu λd hd=>h d (.tail _ hd)];simp
theorem Gt {out:List Inl}{p:List UInt8}: ∀ {s a:List UInt8},(∀c∈s,wB c=true)->s.foldl De.step ⟨out,p,3,a,[]⟩=⟨out,p,3,a++s,[]⟩
 | [],a,_=>by simp
 |c::s,a,h=>by
  have e:De.step ⟨out,p,3,a,[]⟩ c=⟨out,p,3,a++ [c],[]⟩:=by simp[De.step,(vx (h c (.head _))).1]
  rw[lU1,e,Gt λd hd=>h d (.tail _ hd)];simp
theorem Gs {out:List Inl}{p:List UInt8}: ∀ {s a:List UInt8},(∀c∈s,wB c=true)->s.foldl De.step ⟨out,p,5,a,[]⟩=⟨out,p,5,a++s,[]⟩
 | [],a,_=>by simp
 |c::s,a,h=>by
  have e:De.step ⟨out,p,5,a,[]⟩ c=⟨out,p,5,a++ [c],[]⟩:=by simp[De.step,(vx (h c (.head _))).2.1]
  rw[lU1,e,Gs λd hd=>h d (.tail _ hd)];simp
theorem Gr {out:List Inl}{p:List UInt8}: ∀ {s a:List UInt8},(∀c∈s,wB c=true)->s.foldl De.step ⟨out,p,6,a,[]⟩=⟨out,p,6,a++s,[]⟩
 | [],a,_=>by simp
 |c::s,a,h=>by
  have e:De.step ⟨out,p,6,a,[]⟩ c=⟨out,p,6,a++ [c],[]⟩:=by simp[De.step,(vx (h c (.head _))).2.2.2.2.2.1]
  rw[lU1,e,Gr λd hd=>h d (.tail _ hd)];simp
theorem Gq {out:List Inl}{p a:List UInt8}: ∀ {s d:List UInt8},(∀c∈s,c≠41)->s.foldl De.step ⟨out,p,8,a,d⟩=⟨out,p,8,a,d++s⟩
 | [],d,_=>by simp
 |c::s,d,h=>by
  have e:De.step ⟨out,p,8,a,d⟩ c=⟨out,p,8,a,d++ [c]⟩:=by simp[De.step,h c (.head _)]
  rw[lU1,e,Gq λx g=>h x (.tail _ g)];simp
theorem Fz {out:List Inl}{p s:List UInt8}{k:Nat}(hs:WdP s)(E:k=1\/k=2):(Tk.em k s).B.foldl De.step ⟨out,p,0,[],[]⟩=⟨out++(fl p++Tk.out (.em k s)),[],0,[],[]⟩:=by
 obtain⟨c,t,rfl⟩:=lA1 hs.ne;have hc:=(vx (hs.by_ c (.head _))).1;have ht: ∀d∈t,wB d=true:=λd hd=>hs.by_ d (.tail _ hd)
 rcases E with rfl|rfl
 ·have e:(Tk.em 1 (c::t)).B=42::c::(t++ [42]):=rfl
  have g:De.step ⟨out,p,0,[],[]⟩ 42=⟨out,p,1,[],[]⟩:=rfl;have y:De.step ⟨out,p,1,[],[]⟩ c=⟨out,p,2,[c],[]⟩:=by simp[De.step,hc]
  rw[e,lU1,lU1,g,y,lM2,Gu ht];rfl
 ·have e:(Tk.em 2 (c::t)).B=42::42::((c::t)++ [42,42]):=rfl
  have g:De.step ⟨out,p,0,[],[]⟩ 42=⟨out,p,1,[],[]⟩:=rfl;have y:De.step ⟨out,p,1,[],[]⟩ 42=⟨out,p,3,[],[]⟩:=rfl;rw[e,lU1,lU1,g,y,lM2,Gt hs.by_];rfl
theorem qU: ∀(l:List Tk) (n:Nat) (out:List Inl) (p:List UInt8),okT n l-> ∃I p',(tkB l).foldl De.step ⟨out,p,0,[],[]⟩=⟨I,p',0,[],[]⟩/\I++fl p'=out++tkG Tk.out p l
 | [],n,out,p,_=>⟨out,p,rfl,rfl⟩
 | .wd s::r,n,out,p,h=>by
  obtain⟨o,q,g,y⟩:=qU r 2 out (p++s) h.2.2;refine⟨o,q,?_,y⟩;rw[cu,lM2]
  show (tkB r).foldl De.step (s.foldl De.step _)=_
  rw[FA h.2.1.by_];exact g
 | .sp::r,n,out,p,h=>by
  obtain⟨o,q,g,y⟩:=qU r 1 out (p++ [32]) h.2;exact⟨o,q,g,y⟩
 | .nl::r,n,out,p,h=>by
  obtain⟨o,q,g,y⟩:=qU r 0 (out++(fl p++ [.soft])) [] h.2;refine⟨o,q,g,?_⟩;rw[y];simp[tkG,Tk.out]
 | .em k s::r,n,out,p,h=>by
  obtain⟨o,q,g,y⟩:=qU r 2 (out++(fl p++Tk.out (.em k s))) [] h.2.2.2;refine⟨o,q,?_,?_⟩
  ·rw[cu,lM2,Fz h.2.1 h.2.2.1];exact g
  ·rw[y];simp[tkG]
 | .cd s::r,n,out,p,h=>by
  obtain⟨o,q,g,y⟩:=qU r 2 (out++(fl p++ [.code s])) [] h.2.2;refine⟨o,q,?_,?_⟩
  ·have e:(Tk.cd s).B=96::(s++ [96]):=rfl
   have E:De.step ⟨out,p,0,[],[]⟩ 96=⟨out,p,5,[],[]⟩:=rfl;rw[cu,lM2,e,lU1,E,lM2,Gs h.2.1.by_];exact g
  ·rw[y];simp[tkG,Tk.out]
 | .lk s d::r,n,out,p,h=>by
  obtain⟨o,q,g,y⟩:=qU r 2 (out++(fl p++ [.link [.plain s] d [] 0 false])) [] h.2.2.2;refine⟨o,q,?_,?_⟩
  ·have e:(Tk.lk s d).B=91::(s++93::40::(d++ [41])):=rfl
   have E:De.step ⟨out,p,0,[],[]⟩ 91=⟨out,p,6,[],[]⟩:=rfl;have H: ∀a,De.step ⟨out,p,6,a,[]⟩ 93=⟨out,p,7,a,[]⟩:=λ_=>rfl
   have U: ∀a,De.step ⟨out,p,7,a,[]⟩ 40=⟨out,p,8,a,[]⟩:=λ_=>rfl
   have hd: ∀c∈d,c≠41:=λc hc O=>by
    have:=(h.2.2.1.by_ c hc).1;rw[O] at this;exact absurd this (by decide)
   rw[cu,lM2,e,lU1,E,lM2,Gr h.2.1.by_,lU1,lU1,H,U,lM2,Gq hd];exact g
  ·rw[y];simp[tkG,Tk.out]
 | .es s::r,n,out,p,h=>by
  obtain⟨o,q,g,y⟩:=qU r 2 (out++(fl p++ [.esc [42]])) s h.2.2;refine⟨o,q,?_,?_⟩
  ·have e:(Tk.es s).B=92::42::s:=rfl
   have E:De.step ⟨out,p,0,[],[]⟩ 92=⟨out,p,9,[],[]⟩:=rfl;have H:De.step ⟨out,p,9,[],[]⟩ 42=⟨out++(fl p++ [.esc [42]]),[],0,[],[]⟩:=rfl;rw[cu,lM2,e,lU1,lU1,E,H,FA h.2.1.by_];exact g
  ·rw[y];simp[tkG]
theorem zn {l:List Tk}{n:Nat}(h:okT n l):vv (tkB l)=tkG Tk.out [] l:=by
 obtain⟨o,q,y,g⟩:=qU l n [] [] h;unfold vv;rw[y];exact g
def st0:List (List Nat):= [[],[],[],[],[]]
theorem pu {g:List Inl}{st:List (List Nat)}{t:Inl}{ts:List Inl}(h:t.plain? =none\/ ∃s,t= .plain s):dR g st (t::ts)=dR (g++ [t]) st ts:=by
 cases t<;>first|rfl|(rcases h with h|⟨s,h⟩<;>simp[Inl.plain?] at h)
theorem z5 (g:List Inl)(st:List (List Nat))(p:List UInt8)(ts:List Inl):dR g st (fl p++ts)=dR (g++fl p) st ts:=by
 unfold fl;split
 ·simp
 ·exact pu (.inr ⟨_,rfl⟩)
theorem go_em {g:List Inl}{k:Nat}{s:List UInt8}{ts:List Inl}(V:k=1\/k=2):dR g st0 (Tk.raw (.em k s)++ts)=dR (g++Tk.out (.em k s)) st0 ts:=by
 have y:(g++ [Inl.emphP (hN k 42) true false g.length (k:Nat)]++ [.plain s])[g.length]? =some (.emphP (hN k 42) true false g.length (k:Nat)):=by
  rw[lD0,lH0 (lZ0 _),lV1];rfl
 have E:Cv false true (k:Nat) (g++ [Inl.emphP (hN k 42) true false g.length (k:Nat)]++ [.plain s]) g.length=true:=by
  unfold Cv;rw[y];rfl
 have H:(g++ [Inl.emphP (hN k 42) true false g.length (k:Nat)]++ [Inl.plain s]).drop (g.length+1)= [Inl.plain s]:=by
  rw[lA5 (by simp)]
 have I:(g++ [Inl.emphP (hN k 42) true false g.length (k:Nat)]++ [Inl.plain s]).take g.length=g:=by
  rw[lD0,lB5 rfl]
 have U: [[],[g.length],[],[],[]].map (zC g.length)=st0:=by
  simp[zC,st0]
 have W:dR g st0 (Tk.raw (.em k s)++ts)=dR (g++ [Inl.emphP (hN k 42) true false g.length (k:Nat)]++ [.plain s]) [[],[g.length],[],[],[]] (.emphP (hN k 42) false true 0 (k:Nat)::ts):=by
  rcases V with rfl|rfl<;>rfl
 rw[W];rcases V with rfl|rfl
 ·have O:jL 1 false true ((1:Nat):Int) 1 [42] (g++ [Inl.emphP [42] true false g.length ((1:Nat):Int)]++ [.plain s]) [[],[g.length],[],[],[]]=([],g++ [.emph [42] [.plain s]],st0):=by
   have y:=y;have E:=E;have H:=H;have I:=I
   simp only[hN] at y E H I;unfold jL;simp only[lH5,List.getD_cons_zero,lP4,lS5,lT0,List.find?_cons,E,y];simp[jL,H,I,U]
  show dR _ _ (.emphP [42] false true 0 ((1:Nat):Int)::ts)=_
  rw[dR];simp only[if_true,show sQ (([42]:List UInt8).headD 0)=1 from rfl,lE0];rw[show hN 1 (42:UInt8)= [42] from rfl,O];simp[Tk.out]
 ·have O:jL 1 false true ((2:Nat):Int) 2 [42,42] (g++ [Inl.emphP [42,42] true false g.length ((2:Nat):Int)]++ [.plain s]) [[],[g.length],[],[],[]]=([],g++ [.strong [42,42] [.plain s]],st0):=by
   have y:=y;have E:=E;have H:=H;have I:=I
   simp only[hN] at y E H I;unfold jL;simp only[lH5,List.getD_cons_zero,lP4,lS5,lT0,List.find?_cons,E,y];simp[jL,H,I,U]
  show dR _ _ (.emphP [42,42] false true 0 ((2:Nat):Int)::ts)=_
  rw[dR];simp only[if_true,show sQ (([42,42]:List UInt8).headD 0)=1 from rfl,show ([42,42]:List UInt8).length=2 from rfl];rw[show hN 2 (42:UInt8)= [42,42] from rfl,O];simp[Tk.out]
theorem wK: ∀(l:List Tk) (n:Nat) (p:List UInt8) (g:List Inl),okT n l->dR g st0 (tkG Tk.raw p l)=g++tkG Tk.out p l
 | [],n,p,g,_=>by
  show dR g st0 (fl p)=_
  have:=z5 g st0 p [];rw[lG0] at this;rw[this];rfl
 | .wd s::r,n,p,g,h=>wK r 2 (p++s) g h.2.2
 | .sp::r,n,p,g,h=>wK r 1 (p++ [32]) g h.2
 | .nl::r,n,p,g,h=>by
  show dR g st0 (fl p++([.soft]++tkG Tk.raw [] r))=g++(fl p++([.soft]++tkG Tk.out [] r))
  rw[z5,lR2,pu (.inl rfl),wK r 0 [] _ h.2];simp
 | .em k s::r,n,p,g,h=>by
  show dR g st0 (fl p++(Tk.raw (.em k s)++tkG Tk.raw [] r))=g++(fl p++(Tk.out (.em k s)++tkG Tk.out [] r))
  rw[z5,go_em h.2.2.1,wK r 2 [] _ h.2.2.2];simp
 | .cd s::r,n,p,g,h=>by
  show dR g st0 (fl p++([.code s]++tkG Tk.raw [] r))=g++(fl p++([.code s]++tkG Tk.out [] r))
  rw[z5,lR2,pu (.inl rfl),wK r 2 [] _ h.2.2];simp
 | .lk s d::r,n,p,g,h=>by
  show dR g st0 (fl p++([.link [.plain s] d [] 0 false]++tkG Tk.raw [] r))=g++(fl p++([.link [.plain s] d [] 0 false]++tkG Tk.out [] r))
  rw[z5,lR2,pu (.inl rfl),wK r 2 [] _ h.2.2.2];simp
 | .es s::r,n,p,g,h=>by
  show dR g st0 (fl p++(.esc [42]::tkG Tk.raw s r))=g++(fl p++(.esc [42]::tkG Tk.out s r))
  rw[z5,pu (.inl rfl),wK r 2 s _ h.2.2];simp
theorem DH {l:List Tk}{n:Nat}(h:okT n l):wT (tkG Tk.raw [] l)=tkG Tk.out [] l:=by
 have:=wK l n [] [] h;rw[lT0] at this;exact this
end Go.Proofs.YtendaipfdnhnaaaGreatDoor
