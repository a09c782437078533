/- Part 4 of the proof of the law FnExactLines: for every input the law returns true, the inputs read as they did, and memory that was there is as it was; under the conditions of the given row alone. -/
import Derived.Laws.RangeString
import Derived.Test.YtendaipfdnhnaaaGreatDoorA3
set_option linter.all false
open Go.IntKind(i64)
open ByteArray renaming mk→hP
open List renaming replicate→hN
namespace Go.Proofs.YtendaipfdnhnaaaGreatDoor
open Go.Proofs Go.IntWalk Go.RowKit
set_option maxRecDepth 20000
variable {σ:Out} {w:World} {L L':List ai} {R:Ending->World->Prop} {G:List UInt8->List Inl} {op:Opt}

def Runs (R:Ending->World->Prop)(E:OA->Nat->WP)(b b1:Nat):Prop:=
 ∀w,(∀X:OA->Nat->WP,(∀y g w,aj.bl102 R X y g w->X y g w)->aj.bl102 R X (kE b) b1 w)->E (kE b) b1 w
theorem Runs.top (b b1:Nat):Runs R (aj.l102 R) b b1:=λw y X g=>g _ _ _ (y X g)
theorem Runs.of {X:OA->Nat->WP}(g: ∀E y w,aj.bl102 R X E y w->X E y w)(b b1:Nat):Runs R X b b1:=λw I=>g _ _ _ (I X g)
theorem Bl {d4:OA->Nat->WP}{b b1:Nat}{gs:List Bk}{top:Bk}{p:PS}{l l2:Ln}{r r2:List UInt8}{x c d:UInt8}{num n:Nat}{ty:TypeId}{v:Value}(e5:Runs R d4 b b1)(h:DocC σ b (l.at b1::L) (gs++ [top]) .none p w)(hd:p.depth=gs.length)(g1:gs.length<100000)(c3:top.ob.bd= .iface ty v)(d5:ty≠ar)(f3:ty≠az)(a6:l.has x r)(hc:xi x)(c5:l.isHR=false)(e0:pM l c num n l2)(d1:l2.has d r2)(e6:cM d=false)(b5:p.lineno<1000000000)(f2: ∀(X:OA->Nat->WP),(∀d3 d2 w,aj.bl102 R X d3 d2 w->X d3 d2 w)-> ∀w (p':PS) f g lb it,p'.base=p.base->p'.lineno=p.lineno->p'.depth=p.depth+2->f.isList lb c.toNat (num:Nat) it->f.D= []->ItemOf it g lb n true->g.D= []->f.ob.s=p.lineno->g.ob.s=p.lineno->g.ob.e=p.lineno->DocC σ b (l2.at b1::L) (gs++ [top]++ [f,g]) .none p' w->X (kE b) b1 w):
 aj.bl102 R d4 (kE b) b1 w:=by
 obtain⟨M,E,g0,g2,hs,ht,e4,⟨rfl,rfl⟩,h⟩:=h
 have hs:Stk p (gs.map Bk.ob++ [top.ob]) M:=by simpa using hs
 have e3:cM x=false:=hc.1
 have c2:=d1.blank e6
 have h:Sat σ w (p.at b::M++(l.at b1::(E++(aM (gs++ [top])++L)))):=h.re
 refine jt (l2:=l) 4 (by decide) h (js (λσ w L R b8 b7=>kH b8 hs (by rw[hd]) (by simp) c3 d5 a6.ok b7) a6 hc c5) a6.ok (a6.blank e3) λw nb e f6 h f5=>?_
 show callE P cq _ f6 w
 refine uI h hs (by rw[hd];simp) (by simp;omega) c3 d5 f3 a6.ok e0 λw p' b4 lb O U H I ib V e9 h=>?_
 have c9:p'.depth=gs.length:=by rw[V];exact hd
 rw[c2,show (!false)=true from rfl] at h
 have h:Sat σ w (l.at b1::p'.at b::(b4++(cN lb c.toNat (num:Nat) false none (kz O I H U)::(O,cel [kT (kE b)] ah)::l2.at U::gP H lb::jh I ib::gh ib lb n true::((nb,cel newsC e)::(E++(aM (gs++ [top])++L)))))):=h.re
 refine f5 w _ p' (by omega) h λw h=>?_
 refine e5 w λX f0=>?_
 let b3:PS:= {p' with depth:=p'.depth+1}
 have c8:Stk b3 (gs.map Bk.ob++ [top.ob]++ [⟨BK lb,none,0,0,p.lineno,p.lineno⟩]) b4:=e9.of rfl rfl rfl
 have d0:b3.depth=(gs.map Bk.ob++ [top.ob]).length:=by show p'.depth+1=_;rw[c9];simp
 have h:Sat σ w (l.at b1::b3.at b::(b4++(cN lb c.toNat (num:Nat) false none (kz O I H U)::(O,cel [kT (kE b)] ah)::l2.at U::gP H lb::jh I ib::gh ib lb n true::((nb,cel newsC e)::(E++(aM (gs++ [top])++L)))))):=h
 have h:Sat σ w (b3.at b::b4++(l.at b1::(cN lb c.toNat (num:Nat) false none (kz O I H U)::(O,cel [kT (kE b)] ah)::l2.at U::gP H lb::jh I ib::gh ib lb n true::((nb,cel newsC e)::(E++(aM (gs++ [top])++L)))))):=h.re
 refine jt (l2:=l2) 4 (by decide) h (js (λσ w L R b8 b7=>kH b8 c8 d0 rfl rfl (by decide) a6.ok b7) a6 hc c5) d1.ok c2 λw b6 b9 f4 h e7=>?_
 show callE P cq _ f4 w
 have h:Sat σ w (b3.at b::b4++(cN lb c.toNat (num:Nat) false none (kz O I H U)::(O,cel [kT (kE b)] ah)::l2.at U::gP H lb::jh I ib::gh ib lb n true::(l.at b1::(b6,cel newsC b9)::(nb,cel newsC e)::(E++(aM (gs++ [top])++L))))):=h.re
 refine wi (l:=l) h c8 d0 (by simp;omega) rfl λw y c1 a7 c4 h=>?_
 have e8:y.depth=gs.length+1:=by rw[a7];show p'.depth+1=_;rw[c9]
 have f1:y.lineno=p.lineno:=by rw[a7];show p'.lineno=_;rw[V]
 have h:Sat σ w (l.at b1::y.at b::(c1++(cN lb c.toNat (num:Nat) false (kE ib) .nilFunc::gh ib lb n true::((b6,cel newsC b9)::(nb,cel newsC e)::(E++(aM (gs++ [top])++L)))))):=h.re
 refine e7 w _ y (by omega) h λw h=>?_
 have e1:b3.lineno=p.lineno:=by show p'.lineno=_;rw[V]
 rw[e1] at c4
 refine f2 X f0 w {y with depth:=y.depth+1} ⟨⟨BK lb,none,0,0,p.lineno,p.lineno⟩,[cN lb c.toNat (num:Nat) false (kE ib) .nilFunc],[],[]⟩ ⟨⟨CZ ib,none,0,0,p.lineno,p.lineno⟩,[gh ib lb n true],[],[]⟩ lb (kE ib)
  (by rw[a7];show p'.base=_;rw[V];rfl) f1 (by show y.depth+1=_;rw[e8,hd];omega) ⟨rfl,rfl⟩ rfl ⟨ib,rfl,rfl,rfl⟩ rfl rfl rfl rfl ?_
 refine⟨c1,E,[],[],?_,?_,?_,⟨rfl,rfl⟩,?_⟩
 ·rw[lG0]
  have e:(gs++ [top]++ [(⟨⟨BK lb,none,0,0,p.lineno,p.lineno⟩,[cN lb c.toNat (num:Nat) false (kE ib) .nilFunc],[],[]⟩:Bk),⟨⟨CZ ib,none,0,0,p.lineno,p.lineno⟩,[gh ib lb n true],[],[]⟩]).map Bk.ob=gs.map Bk.ob++ [top.ob]++ [⟨BK lb,none,0,0,p.lineno,p.lineno⟩]++ [⟨CZ ib,none,0,0,p.lineno,p.lineno⟩]:=by simp
  rw[e]
  exact c4.of rfl rfl rfl
 ·rw[bD,un]
  show Txts _ ((txF (gs++ [top])++([]++ [])).map TX.t) E
  rw[lG0,lG0]
  exact ht.of (by show y.tq=_;rw[a7];show p'.tq=_;rw[V]) (by show y.tn=_;rw[a7];show p'.tn=_;rw[V]) (by show y.tc=_;rw[a7];show p'.tc=_;rw[V])
 ·intro g W
  rcases lO0.1 W with W|W
  ·exact e4 g W
  ·rcases lW0.1 W with rfl|W
   ·exact⟨Sl.nil 1 aO,by simp,b5,b5⟩
   ·obtain rfl:=lQ0.1 W
    exact⟨Sl.nil 1 aO,by simp,b5,b5⟩
 ·rw[bh (gs++ [top]),jD]
  show Sat σ w (_::c1++(E++(aM (gs++ [top])++(([]++([cN lb c.toNat (num:Nat) false (kE ib) .nilFunc]++([]++ [])))++([]++([gh ib lb n true]++([]++ []))))++([]++(l2.at b1::L)))))
  exact h.less [(nb,cel newsC e),(b6,cel newsC b9)]

def noNL (l:List UInt8):Prop:=10 ∉ l/\13 ∉ l
inductive LinesOf:List UInt8->List (List UInt8 × UInt8)->Prop where
 |nil:LinesOf [] []
 |last {l:List UInt8}:l≠ []->noNL l->LinesOf l [(l,0)]
 |cons {l t:List UInt8} {ls:List (List UInt8 × UInt8)}:noNL l->LinesOf t ls->LinesOf (l++10::t) ((l,10)::ls)
theorem LinesOf.no13 {t:List UInt8}{ls:List (List UInt8 × UInt8)}(h:LinesOf t ls):13 ∉ t:=by
 induction h with
 |nil=>simp
 |last g y=>exact y.2
 |cons g y E=>
  simp only[lO0,lW0,not_or]
  exact⟨g.2,by decide,E⟩
theorem LinesOf.len {t:List UInt8}{ls:List (List UInt8 × UInt8)}(h:LinesOf t ls):ls.length<=t.length:=by
 induction h with
 |nil=>simp
 |last g y=>have:=lY0.2 g;simp;omega
 |cons g y E=>simp;omega
theorem py {A B:List UInt8}{c:UInt8}(hc:c ∉ A): ∀(k i:Nat),i+k=A.length-> ∀f,k<f->kw [c] (A++c::B) f i=some A.length
 |0,i,hi,f+1,_=>by
  obtain rfl:i=A.length:=by omega
  simp only[kw,lE0]
  rw[if_pos (by simp),lB4,if_pos (by simp)]
 |k+1,i,hi,f+1,hf=>by
  simp only[kw,lE0]
  rw[if_pos (by simp;omega),if_neg]
  ·exact py hc k (i+1) (by omega) f (by omega)
  ·intro y
   have g:i<A.length:=by omega
   rw[lX2 (by omega),lI1 g,lR0,lG5,List.take_zero] at y
   have E:A[i]=c:=(List.cons.inj y).1
   exact hc (E▸lP1 g)
theorem B4 {A B:List UInt8}{c:UInt8}(hc:c ∉ A):idx (A++c::B) [c]=some A.length:=by
 unfold idx
 exact py hc A.length 0 (by omega) _ (by simp;omega)

def Bk.isRoot (f:Bk):Prop:= ∃g,f.ob.bd=Gi g/\f.own= [(g,cel [] eR)]
def pO (op:Opt)(fs:List Bk)(lf:Leaf)(Q:List DB->Prop):Prop:=
 ∀(σ:Out) (R:Ending->World->Prop) (L:List ai) (b pb:Nat) (p:PS) (w:World) (X:OA->Int->WP),(∀g y w,aG.bl1 R X g y w->X g y w)->op.at pb∈L->p.pz=kE pb->DocC σ b L fs lf p w->
  (∀w (p':PS) root,p'.base=p.base->root.isRoot->Q root.D->DocC σ b L [root] .none p' w->X (kE b) 0 w)->X (kE b) 0 w
theorem Ah {op:Opt}{b pb:Nat}{p:PS}{fs:List Bk}{lf:Leaf}{Q:List DB->Prop}(b9:pO op fs lf Q)(h:DocC σ b L fs lf p w)(b5:p.pz=kE pb)(a7:op.at pb∈L)(b7: ∀w (p':PS) E db IM y q n c s e,p'.base= {p.base with root:=kE db}->Q E->Txts p' ((cl E).map TX.t) y->Sl 1 aO q n c (E.map DB.v) IM->n<1000000->
  Sat σ w (p'.at b::(y++((cl E).map TX.chunk++(AJ db s e q n c p.links::(IM++(cX E++L))))))->R (hQ (.tuple #[])) w):
 callE P bj #[kT (kE b),hY 0] R w:=by
 refine aG.sound ?_
 have c1:=h
 obtain⟨M,y,W,b8,hs,ht,I,c5,h⟩:=h
 refine aa ?_
 refine⟨_,_,_,h.ldA,?_⟩
 refine ae (by simp) ?_
 intro X H
 refine b9 σ R L b pb p w X H a7 b5 c1 λw g root hb V c2 h=>?_
 obtain⟨O,b4,a6⟩:=V
 obtain⟨M,y,W,b8,hs,ht,I,⟨rfl,rfl⟩,h⟩:=h
 have hs:Stk g [root.ob] M:=hs
 have c3:g.stn=1:=hs.2.1
 have b3:g.links=p.links:=by have:=congrArg PS.links hb;exact this
 refine H _ _ _ (aa ?_)
 refine⟨_,_,_,h.ldA,?_⟩
 rw[c3]
 refine ag rfl ?_
 refine wX h hs b4 λw db h=>⟨_,rfl,H _ _ _ (aa ?_)⟩
 refine⟨_,_,_,h.ldA,?_⟩
 refine ae rfl ?_
 obtain⟨U,c4,_⟩:=I root (by simp)
 have b6:=U.1
 simp only[lS0,lC1] at b6
 rw[dH] at ht
 refine b7 w {g with stn:=0,root:=kE db} root.D db root.IM y root.ob.q root.ob.n root.ob.c root.ob.s root.ob.e ?_ c2 (ht.of rfl rfl rfl) U (by omega) ?_
 ·have e:({g with stn:=0,root:=kE db}:PS).base= {g.base with root:=kE db}:=rfl
  rw[e,hb]
 ·rw[<-b3]
  rw[dy,a6] at h
  have h:Sat σ w (({g with stn:=0,root:=kE db}:PS).at b::M++(AJ db root.ob.s root.ob.e root.ob.q root.ob.n root.ob.c g.links::(y++(root.IM++([(O,cel [] eR)]++(cX root.D++(cl root.D).map TX.chunk))++([]++L))))):=h
  exact h.less (M++ [(O,cel [] eR)])
def pK (L0:List ai)(op:Opt)(n:Nat)(l:List UInt8)(nl:UInt8)(fs:List Bk)(lf:Leaf)(J:List Bk->Leaf->Prop):Prop:=
 ∀(σ:Out) (R:Ending->World->Prop) (L:List ai) (b pb:Nat) (p:PS) (w:World),(∀c∈L0,c∈L)->op.at pb∈L->p.pz=kE pb->p.lineno=n->n<1000000000->DocC σ b L fs lf p w->
  (∀w (p':PS) g y,p'.base=p.base->p'.lineno=p.lineno->J g y->DocC σ b L g y p' w->R (hQ (.tuple #[])) w)->callE P gS #[kT (kE b),(BI l nl).val] R w
theorem BL {L0:List ai}{op:Opt}{E:List (List UInt8 × UInt8)->Nat->List Bk->Leaf->Prop}(step: ∀l nl rem n fs lf,E ((l,nl)::rem) n fs lf->pK L0 op (n+1) l nl fs lf (E rem (n+1)))(c9: ∀c∈L0,c∈L){X:OA->BA->Nat->WP}{b pb:Nat}{p0:PS}(U: ∀b9 c3 c2 w,bp.bl1 R X b9 c3 c2 w->X b9 c3 c2 w)(c8:op.at pb∈L)(d1:p0.pz=kE pb)(b8: ∀w (p:PS) fs lf,p.base=p0.base->E [] p.lineno fs lf->DocC σ b L fs lf p w->bp.bl1 R X (kE pb) (bs []) b w){text:List UInt8}{ls:List (List UInt8 × UInt8)}(H:LinesOf text ls):
 ∀w (p:PS) fs lf,text.length<1000000->p.lineno+ls.length<1000000000->p.base=p0.base->E ls p.lineno fs lf->DocC σ b L fs lf p w->X (kE pb) (bs text) b w:=by
 have k3: ∀(l:List UInt8) (nl:UInt8) (t:List UInt8) (rem:List (List UInt8 × UInt8)) w (p:PS) fs lf,(∀w (p:PS) fs lf,p.lineno+rem.length<1000000000->p.base=p0.base->E rem p.lineno fs lf->DocC σ b L fs lf p w->X (kE pb) (bs t) b w)->
  p.lineno+rem.length+1<1000000000->p.base=p0.base->E ((l,nl)::rem) p.lineno fs lf->DocC σ b L fs lf p w->bp.k3 R X (kE pb) (bs t) b (bs l) (nl.toNat:Int) w:=by
  intro l nl t rem w p fs lf next y hb g h
  obtain⟨M,W,a7,V,hs,ht,b4,H,h⟩:=h
  unfold bp.k3
  refine⟨_,Sat.ld h (.head _) (i:=3) rfl,?_⟩
  rw[aN (by omega)]
  refine h.stA 0 λw h=>?_
  let O:PS:= {p with lineno:=p.lineno+1}
  have h:Sat σ w (O.at b::M++(W++(aM fs++(V++L)))):=h
  have b7:O.base=p0.base:=hb
  have c4:O.pz=kE pb:=by
   have:=congrArg PS.pz b7
   rw[show O.pz=p0.pz from this];exact d1
  refine step l nl rem p.lineno fs lf g σ _ L b pb O w c9 c8 c4 rfl (by omega) ⟨M,W,a7,V,hs.of rfl rfl rfl,ht.of rfl rfl rfl,b4,H,h⟩ λw p2 d2 d0 d4 c1 d3 d5=>⟨rfl,?_⟩
  exact next w p2 d2 d0 (by rw[c1];show p.lineno+1+_<_;omega) (d4.trans b7) (by rw[c1];exact d3) d5
 induction H with
 |nil=>
  intro w p fs lf b3 y hb g h
  exact U _ _ _ _ (b8 w p fs lf hb g h)
 | @last l hne hnl=>
  intro w p fs lf b3 y hb g h
  have b5:kP l [10]= -1:=by unfold kP;rw[kO hnl.1]
  have b6:kP l [13]= -1:=by unfold kP;rw[kO hnl.2]
  refine U _ _ _ _ (ag (by rw[cZ];simpa using hne) ?_)
  refine jZ (sub:= [10]) (by omega) (by decide) ⟨_,rfl,?_⟩
  refine jZ (sub:= [13]) (by omega) (by decide) ⟨_,rfl,?_⟩
  rw[b5,b6]
  refine ae rfl (ae rfl ?_)
  refine k3 l 0 [] [] w p fs lf ?_ (by simp at y⊢;omega) hb g h
  intro w p fs lf y hb g h
  exact U _ _ _ _ (b8 w p fs lf hb g h)
 | @cons l t ls hnl hLt ih=>
  intro w p fs lf b3 y hb g h
  have c5:13 ∉ l++10::t:=(LinesOf.cons hnl hLt).no13
  have b5:kP (l++10::t) [10]=(l.length:Nat):=by unfold kP;rw[B4 hnl.1]
  have b6:kP (l++10::t) [13]= -1:=by unfold kP;rw[kO c5]
  have a6:(l++10::t).length=l.length+t.length+1:=by simp;omega
  refine U _ _ _ _ (ag (by rw[cZ];simp[gk]) ?_)
  refine jZ (sub:= [10]) (by omega) (by decide) ⟨_,rfl,?_⟩
  refine jZ (sub:= [13]) (by omega) (by decide) ⟨_,rfl,?_⟩
  rw[b5,b6]
  refine ae rfl ?_
  refine ag (by simp) ?_
  obtain⟨M,W,a7,V,hs,ht,b4,H,h⟩:=h
  refine Sat.tk h λw h=>?_
  rw[aN (by omega),aJ,lC0,lC0,nw,cm,lK2,lP4]
  refine⟨by omega,by rw[a6];omega,by omega,by rw[a6];omega,?_⟩
  have e0:(l++10::t).drop (l.length+1)=t:=by rw[lV5];simp
  rw[e0]
  refine k3 l 10 t ls w p fs lf ?_ (by simp at y⊢;omega) hb g ⟨M,W,a7,V,hs,ht,b4,H,h⟩
  intro w p fs lf y hb g h
  exact ih w p fs lf (by rw[a6] at b3;omega) y hb g h
theorem oW {X:OA->Int->WP}{b k:Nat}{fs:List Bk}{lf:Leaf}{p:PS}(I: ∀y g w,aG.bl1 R X y g w->X y g w)(h:DocC σ b L fs lf p w)(W:k<fs.length)(hc:callE P aI #[kT (kE b)] (λe O=> ∃(H:Value),e= hQ H/\X (kE b) (k:Int) O) w):X (kE b) (k:Int) w:=by
 obtain⟨M,b3,U,a7,hs,ht,V,a6,h⟩:=h
 have E:=hs.2.1
 rw[lA0,lS0] at E
 refine I _ _ _ (aa ?_)
 refine⟨_,_,_,h.ldA,?_⟩
 rw[E]
 exact ag (by simp;omega) hc
theorem oP {p p':PS}(h:p'.base=p.base):p'.pz=p.pz:=by have:=congrArg PS.pz h;exact this
namespace bZ
def k1 (R:EP)(e2:OA)(y g:Nat)(w:World):Prop:=
 callE P ct #[kT (kE y)] (λe b7=> ∃c5,e= hQ (hV c5)/\
 br c5
 (stV b7 (hZ g 0) (hY 0) λc9=>
 stV c9 (hZ g 1) (hY 0) λd0=>
 stV d0 (hZ g 2) (hY 0) λd1=>
 stV d1 (hZ g 3) (hX (hP #[])) λc8=>
 stV c8 (hZ g 4) (.int .u8 0) λE=>
 ∃c2,E.cell? (hZ g 0)=some (hY c2)/\
 ∃V,E.cell? (hZ g 1)=some (hY V)/\
 ∃W,E.cell? (hZ g 2)=some (hY W)/\
 ∃c1,E.cell? (hZ g 3)=some (hX c1)/\
 ∃O,E.cell? (hZ g 4)=some (.int .u8 O)/\
 R (hQ (.tuple #[.agg #[hY c2,hY V,hY W,hX c1,.int .u8 O],hV true])) E)
 (callE P ct #[kT (kE y)] (λe d4=> ∃b9,e= hQ (hV b9)/\
 br (!b9)
 (aA e2 λd2=>
 stV d4 ((d2.add 2).add 0) (hV true) λH=>
 ∃c4,H.cell? (hZ y 0)=some (hY c4)/\
 ∃b3,H.cell? (hZ y 1)=some (hY b3)/\
 ∃a6,H.cell? (hZ y 2)=some (hY a6)/\
 ∃b8,H.cell? (hZ y 3)=some (hX b8)/\
 ∃b5,H.cell? (hZ y 4)=some (.int .u8 b5)/\
 stV H (hZ g 0) (hY c4) λd5=>
 stV d5 (hZ g 1) (hY b3) λe0=>
 stV e0 (hZ g 2) (hY a6) λd3=>
 stV d3 (hZ g 3) (hX b8) λe1=>
 stV e1 (hZ g 4) (.int .u8 b5) λI=>
 ∃a7,I.cell? (hZ g 0)=some (hY a7)/\
 ∃c3,I.cell? (hZ g 1)=some (hY c3)/\
 ∃U,I.cell? (hZ g 2)=some (hY U)/\
 ∃b6,I.cell? (hZ g 3)=some (hX b6)/\
 ∃b4,I.cell? (hZ g 4)=some (.int .u8 b4)/\
 R (hQ (.tuple #[.agg #[hY a7,hY c3,hY U,hX b6,.int .u8 b4],hV true])) I)
 (False)) b7)) w
end bZ
def bZ (R:EP)(y b7:OA)(U V a6:Int)(W:BA)(O:Int)(w:World):Prop:=
 box w #[hY U,hY V,hY a6,hX W,.int .u8 O] aW λb1 b6=>
 box b6 #[hY 0,hY 0,hY 0,hX (hP #[]),.int .u8 0] aW λH b4=>
 callE P ct #[kT (kE b1)] (λe g=> ∃E,e= hQ (hV E)/\
 br E
 (aA y λb5=>
 ∃I,g.cell? (b5.add 2)=some (hV I)/\
 br (!I)
 (False)
 (bZ.k1 R y b1 H g))
 (bZ.k1 R y b1 H g)) b4
theorem bZ.sound {R x0 x1 x2_0 x2_1 x2_2 x2_3 x2_4 w}(h:bZ R x0 x1 x2_0 x2_1 x2_2 x2_3 x2_4 w):callE P fc #[kT x0,kT x1,.agg #[hY x2_0,hY x2_1,hY x2_2,hX x2_3,.int .u8 x2_4]] R w:=
 aH [(21,.no),(7,.mk [2,106,126] (bZ.k1 R)),(119,.no)] Tryz.func439 Tryz.call439 h
def gt (R:EP)(e0 e1:OA)(c8 c4 c9:Int)(c3:BA)(c5:Int)(w:World):Prop:=
 box w #[hY c8,hY c4,hY c9,hX c3,.int .u8 c5] aW λb1 d5=>
 box d5 #[hY 0,hY 0,hY 0,hX (hP #[]),.int .u8 0] aW λg E=>
 ∃c2,E.cell? (hZ b1 0)=some (hY c2)/\
 ∃b7,E.cell? (hZ b1 1)=some (hY b7)/\
 ∃c1,E.cell? (hZ b1 2)=some (hY c1)/\
 ∃b8,E.cell? (hZ b1 3)=some (hX b8)/\
 ∃b9,E.cell? (hZ b1 4)=some (.int .u8 b9)/\
 callE P l6 #[.agg #[hY c2,hY b7,hY c1,hX b8,.int .u8 b9]] (λe d1=> ∃H V,∃I U,∃O W,e= hQ (.tuple #[.agg #[hY H,hY V,hY I,hX U,.int .u8 O],hV W])/\
 stV d1 (hZ g 0) (hY H) λd3=>
 stV d3 (hZ g 1) (hY V) λd4=>
 stV d4 (hZ g 2) (hY I) λd0=>
 stV d0 (hZ g 3) (hX U) λd2=>
 stV d2 (hZ g 4) (.int .u8 O) λy=>
 ∃b4,y.cell? (hZ g 0)=some (hY b4)/\
 ∃b5,y.cell? (hZ g 1)=some (hY b5)/\
 ∃b6,y.cell? (hZ g 2)=some (hY b6)/\
 ∃a6,y.cell? (hZ g 3)=some (hX a6)/\
 ∃a7,y.cell? (hZ g 4)=some (.int .u8 a7)/\
 R (hQ (.tuple #[.agg #[hY b4,hY b5,hY b6,hX a6,.int .u8 a7],hV W])) y) E
theorem gt.sound {R x0 x1 x2_0 x2_1 x2_2 x2_3 x2_4 w}(h:gt R x0 x1 x2_0 x2_1 x2_2 x2_3 x2_4 w):callE P gm #[kT x0,kT x1,.agg #[hY x2_0,hY x2_1,hY x2_2,hX x2_3,.int .u8 x2_4]] R w:=
 cD Tryz.func435 Tryz.call435 h
def g8 (R:EP)(t8 t9:OA)(p5 q4 r1:Int)(p3:BA)(p4:Int)(w:World):Prop:=
 box w #[hY p5,hY q4,hY r1,hX p3,.int .u8 p4] aW λb1 t7=>
 box t7 #[hY 0,hY 0,hY 0,hX (hP #[]),.int .u8 0] aW λg o6=>
 aA t8 λa5=>
 ∃O,o6.cell? (a5.add 3)=some (kT O)/\
 tk o6 λI=>
 ∃o5,(∀w,(do eqGuard .neq bu (.tmp 13) (.const (kT none)) (kT O) (kT none);binOp .neq bu (kT O) (kT none)).run P w= .ok (hV o5) w)/\
 br o5
 (aA O λa9=>
 aA O λa10=>
 ∃j1,I.cell? (a9.add 1)=some (hY j1)/\
 ∃o0,I.cell? (a10.add 1)=some (hY o0)/\
 callE P bl #[kT (kE b1),hY j1,hY o0,hV true] (λe y=> ∃h3,e= hQ (hV h3)/\
 br h3
 (∃f4,y.cell? (hZ b1 0)=some (hY f4)/\
 ∃f1,y.cell? (hZ b1 1)=some (hY f1)/\
 ∃f5,y.cell? (hZ b1 2)=some (hY f5)/\
 ∃e1,y.cell? (hZ b1 3)=some (hX e1)/\
 ∃h1,y.cell? (hZ b1 4)=some (.int .u8 h1)/\
 stV y (hZ g 0) (hY f4) λr6=>
 stV r6 (hZ g 1) (hY f1) λs3=>
 stV s3 (hZ g 2) (hY f5) λs4=>
 stV s4 (hZ g 3) (hX e1) λt0=>
 stV t0 (hZ g 4) (.int .u8 h1) λa7=>
 ∃l5,a7.cell? (hZ g 0)=some (hY l5)/\
 ∃m8,a7.cell? (hZ g 1)=some (hY m8)/\
 ∃g2,a7.cell? (hZ g 2)=some (hY g2)/\
 ∃h0,a7.cell? (hZ g 3)=some (hX h0)/\
 ∃m9,a7.cell? (hZ g 4)=some (.int .u8 m9)/\
 R (hQ (.tuple #[.agg #[hY l5,hY m8,hY g2,hX h0,.int .u8 m9],hV true])) a7)
 (∃i2,(∀w,(do eqGuard .eql bu (.tmp 27) (.const (kT none)) (kT O) (kT none);binOp .eql bu (kT O) (kT none)).run P w= .ok (hV i2) w)/\
 br i2
 (callE P ct #[kT (kE b1)] (λe E=> ∃m5,e= hQ (hV m5)/\
 br m5
 (∃h7,E.cell? (hZ b1 0)=some (hY h7)/\
 ∃n3,E.cell? (hZ b1 1)=some (hY n3)/\
 ∃m6,E.cell? (hZ b1 2)=some (hY m6)/\
 ∃f2,E.cell? (hZ b1 3)=some (hX f2)/\
 ∃d5,E.cell? (hZ b1 4)=some (.int .u8 d5)/\
 stV E (hZ g 0) (hY h7) λs7=>
 stV s7 (hZ g 1) (hY n3) λt6=>
 stV t6 (hZ g 2) (hY m6) λt4=>
 stV t4 (hZ g 3) (hX f2) λs5=>
 stV s5 (hZ g 4) (.int .u8 d5) λb4=>
 ∃i8,b4.cell? (hZ g 0)=some (hY i8)/\
 ∃e7,b4.cell? (hZ g 1)=some (hY e7)/\
 ∃i1,b4.cell? (hZ g 2)=some (hY i1)/\
 ∃o4,b4.cell? (hZ g 3)=some (hX o4)/\
 ∃h6,b4.cell? (hZ g 4)=some (.int .u8 h6)/\
 R (hQ (.tuple #[.agg #[hY i8,hY e7,hY i1,hX o4,.int .u8 h6],hV true])) b4)
 (∃e6,E.cell? (hZ b1 0)=some (hY e6)/\
 ∃m3,E.cell? (hZ b1 1)=some (hY m3)/\
 ∃k0,E.cell? (hZ b1 2)=some (hY k0)/\
 ∃g1,E.cell? (hZ b1 3)=some (hX g1)/\
 ∃n2,E.cell? (hZ b1 4)=some (.int .u8 n2)/\
 stV E (hZ g 0) (hY e6) λr4=>
 stV r4 (hZ g 1) (hY m3) λr9=>
 stV r9 (hZ g 2) (hY k0) λs6=>
 stV s6 (hZ g 3) (hX g1) λr5=>
 stV r5 (hZ g 4) (.int .u8 n2) λa6=>
 ∃m4,a6.cell? (hZ g 0)=some (hY m4)/\
 ∃j0,a6.cell? (hZ g 1)=some (hY j0)/\
 ∃g0,a6.cell? (hZ g 2)=some (hY g0)/\
 ∃h5,a6.cell? (hZ g 3)=some (hX h5)/\
 ∃e5,a6.cell? (hZ g 4)=some (.int .u8 e5)/\
 R (hQ (.tuple #[.agg #[hY m4,hY j0,hY g0,hX h5,.int .u8 e5],hV false])) a6)) y)
 (∃h4,y.cell? (hZ b1 0)=some (hY h4)/\
 ∃h8,y.cell? (hZ b1 1)=some (hY h8)/\
 ∃g7,y.cell? (hZ b1 2)=some (hY g7)/\
 ∃f6,y.cell? (hZ b1 3)=some (hX f6)/\
 ∃i0,y.cell? (hZ b1 4)=some (.int .u8 i0)/\
 stV y (hZ g 0) (hY h4) λt2=>
 stV t2 (hZ g 1) (hY h8) λs9=>
 stV s9 (hZ g 2) (hY g7) λs1=>
 stV s1 (hZ g 3) (hX f6) λs2=>
 stV s2 (hZ g 4) (.int .u8 i0) λb5=>
 ∃e8,b5.cell? (hZ g 0)=some (hY e8)/\
 ∃g3,b5.cell? (hZ g 1)=some (hY g3)/\
 ∃g5,b5.cell? (hZ g 2)=some (hY g5)/\
 ∃m1,b5.cell? (hZ g 3)=some (hX m1)/\
 ∃e4,b5.cell? (hZ g 4)=some (.int .u8 e4)/\
 R (hQ (.tuple #[.agg #[hY e8,hY g3,hY g5,hX m1,.int .u8 e4],hV false])) b5))) I)
 (∃e2,(∀w,(do eqGuard .eql bu (.tmp 27) (.const (kT none)) (kT O) (kT none);binOp .eql bu (kT O) (kT none)).run P w= .ok (hV e2) w)/\
 br e2
 (callE P ct #[kT (kE b1)] (λe H=> ∃n1,e= hQ (hV n1)/\
 br n1
 (∃h2,H.cell? (hZ b1 0)=some (hY h2)/\
 ∃e0,H.cell? (hZ b1 1)=some (hY e0)/\
 ∃e9,H.cell? (hZ b1 2)=some (hY e9)/\
 ∃f0,H.cell? (hZ b1 3)=some (hX f0)/\
 ∃e3,H.cell? (hZ b1 4)=some (.int .u8 e3)/\
 stV H (hZ g 0) (hY h2) λt5=>
 stV t5 (hZ g 1) (hY e0) λr7=>
 stV r7 (hZ g 2) (hY e9) λs8=>
 stV s8 (hZ g 3) (hX f0) λt3=>
 stV t3 (hZ g 4) (.int .u8 e3) λW=>
 ∃f3,W.cell? (hZ g 0)=some (hY f3)/\
 ∃m2,W.cell? (hZ g 1)=some (hY m2)/\
 ∃o3,W.cell? (hZ g 2)=some (hY o3)/\
 ∃n0,W.cell? (hZ g 3)=some (hX n0)/\
 ∃h9,W.cell? (hZ g 4)=some (.int .u8 h9)/\
 R (hQ (.tuple #[.agg #[hY f3,hY m2,hY o3,hX n0,.int .u8 h9],hV true])) W)
 (∃i3,H.cell? (hZ b1 0)=some (hY i3)/\
 ∃o2,H.cell? (hZ b1 1)=some (hY o2)/\
 ∃g6,H.cell? (hZ b1 2)=some (hY g6)/\
 ∃g4,H.cell? (hZ b1 3)=some (hX g4)/\
 ∃b8,H.cell? (hZ b1 4)=some (.int .u8 b8)/\
 stV H (hZ g 0) (hY i3) λq0=>
 stV q0 (hZ g 1) (hY o2) λq3=>
 stV q3 (hZ g 2) (hY g6) λq1=>
 stV q1 (hZ g 3) (hX g4) λq2=>
 stV q2 (hZ g 4) (.int .u8 b8) λV=>
 ∃b6,V.cell? (hZ g 0)=some (hY b6)/\
 ∃c9,V.cell? (hZ g 1)=some (hY c9)/\
 ∃b9,V.cell? (hZ g 2)=some (hY b9)/\
 ∃d2,V.cell? (hZ g 3)=some (hX d2)/\
 ∃c1,V.cell? (hZ g 4)=some (.int .u8 c1)/\
 R (hQ (.tuple #[.agg #[hY b6,hY c9,hY b9,hX d2,.int .u8 c1],hV false])) V)) I)
 (∃c3,I.cell? (hZ b1 0)=some (hY c3)/\
 ∃c2,I.cell? (hZ b1 1)=some (hY c2)/\
 ∃c5,I.cell? (hZ b1 2)=some (hY c5)/\
 ∃b7,I.cell? (hZ b1 3)=some (hX b7)/\
 ∃c8,I.cell? (hZ b1 4)=some (.int .u8 c8)/\
 stV I (hZ g 0) (hY c3) λq8=>
 stV q8 (hZ g 1) (hY c2) λq5=>
 stV q5 (hZ g 2) (hY c5) λp1=>
 stV p1 (hZ g 3) (hX b7) λr3=>
 stV r3 (hZ g 4) (.int .u8 c8) λU=>
 ∃d3,U.cell? (hZ g 0)=some (hY d3)/\
 ∃d0,U.cell? (hZ g 1)=some (hY d0)/\
 ∃d4,U.cell? (hZ g 2)=some (hY d4)/\
 ∃c4,U.cell? (hZ g 3)=some (hX c4)/\
 ∃d1,U.cell? (hZ g 4)=some (.int .u8 d1)/\
 R (hQ (.tuple #[.agg #[hY d3,hY d0,hY d4,hX c4,.int .u8 d1],hV false])) U))
theorem g8.sound {R x0 x1 x2_0 x2_1 x2_2 x2_3 x2_4 w}(h:g8 R x0 x1 x2_0 x2_1 x2_2 x2_3 x2_4 w):callE P gV #[kT x0,kT x1,.agg #[hY x2_0,hY x2_1,hY x2_2,hX x2_3,.int .u8 x2_4]] R w:=
 aH [(19,.dr (rpN [0,3,6,9,12,15,21,24,27,19,31,35,36,39,42,45,48,53,54,57]))] Tryz.func437 Tryz.call437 h

theorem tY {d:UInt8}(hd:cM d=false)(r:List UInt8): ∀m:List UInt8,∃g,(m++d::r).dropWhile cM=g++d::r
 | []=>⟨[],by simp[hd]⟩
 |x::m=>by
  rw[lR0,lA3]
  split
  ·exact tY hd r m
  ·exact⟨x::m,rfl⟩
theorem Ln.hrGo_has {c d:UInt8}{r:List UInt8}: ∀(f n:Nat) (l:Ln),l.ok->l.sp=0->(∃m,l.text.drop l.i=m++d::r)->d≠c->cM d=false->l.hrGo c f n=false
 |0,_,_,_,_,_,_,_=>rfl
 |f+1,n,l,hl,hsp,⟨m,hm⟩,hdc,hd=>by
  cases m with
  |nil=>
   have h:l.has d r:=⟨hl,hsp,hm⟩
   have:=h.lt
   simp only[Ln.hrGo]
   rw[h.trimC,if_neg hdc]
   simp;omega
  |cons x m=>
   have h:l.has x (m++d::r):=⟨hl,hsp,by rw[hm];rfl⟩
   have a7:=h.lt
   simp only[Ln.hrGo]
   rw[h.trimC]
   by_cases O:x=c
   ·rw[if_pos O]
    simp only
    have W: ∃E g,m++d::r=E::g:=by cases m with|nil=>exact⟨_,_,rfl⟩|cons E g=>exact⟨_,_,rfl⟩
    obtain⟨E,g,I⟩:=W
    have H:=(I▸h:l.has x (E::g)).next
    have U:({l with i:=l.i+1}:Ln).text.drop (l.i+1)=m++d::r:=by rw[I];exact H.tx
    have V:=Ln.skip_ok H.ok
    refine Ln.hrGo_has (r:=r) f (n+1) _ V rfl ?_ hdc hd
    show∃a6,l.text.drop (({l with i:=l.i+1}:Ln).skip.i)=a6++d::r
    have e:l.text.drop (l.i+1)=m++d::r:=U
    have hi:({l with i:=l.i+1}:Ln).skip.i=l.text.length - ((m++d::r).dropWhile cM).length:=by
     simp only[Ln.skip,e]
    rw[hi,drop_suffix ((lU4 _).trans (e▸List.drop_suffix _ _))]
    exact tY hd r m
   ·rw[if_neg O]
    simp;omega

theorem callE.mono {f:FuncId}{g:Array Value}{R y:Ending->World->Prop}(h:callE P f g R w)(hr: ∀e w,R e w->y e w):callE P f g y w:=
 h.imp (λ⟨a,c⟩=>⟨a,c.mono hr⟩) λ⟨v,I,E,H⟩=>⟨v,I,E,hr _ _ H⟩
theorem rf {b:Nat}{p:PS}{K:List ai}{t:TypeId}{v:Value}(h:Sat σ w (p.at b::K))(hd:0<=p.depth/\p.depth<1000000)(a6: ∀w,Sat σ w (p.at b::K)->callE P bj #[kT (kE b),hY (p.depth+1)] (λe w=>e= hQ (.tuple #[])/\ ∃(g:PS) (l:List OB) (M L:List ai),Stk g l M/\l.length<1048575/\Sat σ w (g.at b::M++L)/\
  ∀w (p':PS) y,p'= {g with stq:=p'.stq,stn:=l.length+1,stc:=p'.stc}->Stk p' (l++ [⟨.iface t v,none,0,0,g.lineno,g.lineno⟩]) y->Sat σ w (p'.at b::y++L)->R (hQ (.tuple #[])) w) w):
 callE P bR #[kT (kE b),.iface t v] R w:=by
 refine eL.sound ?_
 repeat (first|refine aa ?_|refine h.tk λw h=>?_|refine⟨_,h.ldA,?_⟩|refine⟨_,_,_,h.ldA,?_⟩)
 rw[i64_in _ (by omega)]
 refine(a6 w h).mono λe w O=>⟨O.1,?_⟩
 obtain⟨_,g,l,M,L,hs,b6,h,b3⟩:=O
 have a7:=hs.2.1
 repeat (first|refine aa ?_|refine h.tk λw h=>?_|refine⟨_,h.ldA,?_⟩|refine⟨_,_,_,h.ldA,?_⟩)
 have h:Sat σ w (M++(g.at b::L)):=h.re
 refine Sat.app1 rowOB hs.1 h (v:= .agg #[.nilIface,hT none 0 0,hY 0,hY 0]) rfl (by decide) (by kernel_rfl) (by omega) (by omega) (by decide) λb4 W w y H h=>?_
 have h:Sat σ w (g.at b::y++L):=h.re
 let p':PS:= {g with stq:=b4,stn:=l.length+1,stc:=W}
 rw[a7] at H⊢
 (first|refine aa ?_|refine h.tk λw h=>?_|refine⟨_,h.ldA,?_⟩|refine⟨_,_,_,h.ldA,?_⟩|refine h.stA 0 λw h=>?_|refine h.stA 1 λw h=>?_|refine h.stA 2 λw h=>?_|refine h.stA 3 λw h=>?_|refine h.stA 4 λw h=>?_|refine h.stA 5 λw h=>?_|refine h.stA 6 λw h=>?_|refine h.bx λb0 w h=>?_)
 (first|refine aa ?_|refine h.tk λw h=>?_|refine⟨_,h.ldA,?_⟩|refine⟨_,_,_,h.ldA,?_⟩|refine h.stA 0 λw h=>?_|refine h.stA 1 λw h=>?_|refine h.stA 2 λw h=>?_|refine h.stA 3 λw h=>?_|refine h.stA 4 λw h=>?_|refine h.stA 5 λw h=>?_|refine h.stA 6 λw h=>?_|refine h.bx λb0 w h=>?_)
 have h:Sat σ w (p'.at b::y++L):=h
 have U:Stk p' (l++ [⟨.nilIface,none,0,0,0,0⟩]) y:=by
  refine⟨?_,by simp[p'],by simp;omega⟩
  rw[iQ]
  exact H
 obtain⟨sb,sp,I,rfl,V⟩:=U.split (by simp)
 repeat (first|refine aa ?_|refine h.tk λw h=>?_|refine⟨_,h.ldA,?_⟩|refine⟨_,_,_,h.ldA,?_⟩)
 rw[show p'.stn=l.length+1 from rfl,ki (by omega)]
 refine⟨by omega,by omega,?_⟩
 rw[I]
 refine aa ?_
 dsimp only[Cy]
 simp only[lK0,lN0,lC0,lL1]
 have E: ∀(o:OB) (sp:List Value) f,f<4->l.length*4+f<(aP (l++ [o])++sp).length:=by
  intro o sp f b5
  rw[lA0,aR,lA0,lE0];omega
 refine Sat.st h (k:=1) rfl (by have:=E ⟨.nilIface,none,0,0,0,0⟩ sp 0 (by decide);simpa using this) trivial rfl λw h=>?_
 have h:Sat σ w (p'.at b:: [(sb,cel (aP (l++ [⟨.iface t v,none,0,0,0,0⟩])++sp) ay)]++L):=by
  have e:=kW (l:=l) (sp:=sp) (o:=⟨.nilIface,none,0,0,0,0⟩) (o':=⟨.iface t v,none,0,0,0,0⟩) (f:=0) (v:= .iface t v) (by decide) rfl
  rw[lL1] at e
  rw[e] at h
  exact h
 repeat (first|refine aa ?_|refine h.tk λw h=>?_|refine⟨_,h.ldA,?_⟩|refine⟨_,_,_,h.ldA,?_⟩)
 refine Sat.st h (k:=1) rfl (E _ sp 2 (by decide)) trivial rfl λw h=>?_
 have h:Sat σ w (p'.at b:: [(sb,cel (aP (l++ [⟨.iface t v,none,0,0,g.lineno,0⟩])++sp) ay)]++L):=by
  have e:=kW (l:=l) (sp:=sp) (o:=⟨.iface t v,none,0,0,0,0⟩) (o':=⟨.iface t v,none,0,0,g.lineno,0⟩) (f:=2) (v:= hY g.lineno) (by decide) rfl
  have h:=h
  rw[e] at h
  exact h
 repeat (first|refine aa ?_|refine h.tk λw h=>?_|refine⟨_,h.ldA,?_⟩|refine⟨_,_,_,h.ldA,?_⟩)
 refine Sat.st h (k:=1) rfl (E _ sp 3 (by decide)) trivial rfl λw h=>?_
 have h:Sat σ w (p'.at b:: [(sb,cel (aP (l++ [⟨.iface t v,none,0,0,g.lineno,g.lineno⟩])++sp) ay)]++L):=by
  have e:=kW (l:=l) (sp:=sp) (o:=⟨.iface t v,none,0,0,g.lineno,0⟩) (o':=⟨.iface t v,none,0,0,g.lineno,g.lineno⟩) (f:=3) (v:= hY g.lineno) (by decide) rfl
  have h:=h
  rw[e] at h
  exact h
 refine b3 _ p' _ rfl ?_ h
 refine Stk.mk' I ?_ (by simp[p']) (by simp;omega)
 rw[<-V,lA0,lA0,aR,aR,lA0,lA0]
 rfl

theorem kI {b d:Nat}{p:PS}{ob:List OB}{o o1:OB}{M:List ai}{t t1:TypeId}{v v1:Value}{l:Ln}(h:Sat σ w (p.at b::M++L))(hs:Stk p (ob++ [o]) M)(hd:p.depth=d)(b4:d<1000000)(V:(ob++ [o])[d+1]? =some o1)(W:o1.bd= .iface t1 v1)(a6:t1≠ar)(hb:o.bd= .iface t v)(hv:t=ar-> ∃q,v= kT q)(b6:l.ok)(a7: ∀w,Sat σ w (p.at b::M++L)->R (hQ (.tuple #[l.val,hV false])) w):callE P ci #[kT (kE b),l.val] R w:=by
 refine bK.sound ?_
 refine Sat.bx h λb1 w h=>?_
 refine Sat.bx h λy w h=>?_
 refine Sat.bx h λg w h=>?_
 repeat (first|refine aa ?_|refine h.tk λw h=>?_|refine⟨_,h.ldA,?_⟩|refine⟨_,_,_,h.ldA,?_⟩|refine h.stA 0 λw h=>?_|refine h.stA 1 λw h=>?_|refine h.stA 2 λw h=>?_|refine h.stA 3 λw h=>?_|refine h.stA 4 λw h=>?_|refine h.stA 5 λw h=>?_|refine h.stA 6 λw h=>?_|refine h.bx λb0 w h=>?_)
 have h:Sat σ _ (l.at b0::(g,cel [hY 0] bg)::zLn y::l.at b1::(p.at b::M++L)):=h
 have h:Sat σ _ (p.at b::M++(l.at b0::(g,cel [hY 0] bg)::zLn y::l.at b1::L)):=h.re
 refine lV h hs hd (by omega) λw h=>?_
 rw[V]
 refine⟨_,rfl,?_⟩
 have fin: ∀(q:Option Addr) w,Sat σ w (p.at b::M++(l.at b0::(g,cel [hY 0] bg)::zLn y::l.at b1::L))-> ∃(H:Option Addr),hQ (.pointer q)= hQ (kT H)/\
  ∃(I:Bool),∃E,(do eqGuard .eql bP (.tmp 12) (.tmp 15) o1.bd (.iface ar (kT H));binOp .eql bP o1.bd (.iface ar (kT H))).run P w= .ok (hV I) E/\
  br I (callE P fk #[kT (kE b0),kT (kE g)] (λe U=> ∃(O:Bool),e= hQ (hV O)/\bK.k1 R (kE b) b1 y g O U) E) (bK.k1 R (kE b) b1 y g false E):=by
  intro q w h
  refine⟨q,rfl,false,w,by rw[W];exact yy tB a6 _ _ w,ae rfl ?_⟩
  have h:Sat σ _ (zLn y::l.at b1::(g,cel [hY 0] bg)::l.at b0::(p.at b::M++L)):=h.re
  refine ae rfl ?_
  repeat (first|refine aa ?_|refine h.tk λw h=>?_|refine⟨_,h.ldA,?_⟩|refine⟨_,_,_,h.ldA,?_⟩|refine h.stA 0 λw h=>?_|refine h.stA 1 λw h=>?_|refine h.stA 2 λw h=>?_|refine h.stA 3 λw h=>?_|refine h.stA 4 λw h=>?_|refine h.stA 5 λw h=>?_|refine h.stA 6 λw h=>?_|refine h.bx λb0 w h=>?_)
  have h:Sat σ _ (l.at y::l.at b1::(g,cel [hY 0] bg)::l.at b0::(p.at b::M++L)):=h
  exact a7 _ h.tail.tail.tail.tail
 refine qB h hs hb (λw h=>?_) hv
 by_cases ht:t=ar
 ·rw[if_pos ht]
  obtain⟨q,rfl⟩:=hv ht
  exact fin q w h
 ·rw[if_neg ht]
  exact fin none w h
theorem AR:P.underlying bu=some (.pointer hU):=by kernel_rfl
theorem xI {b b1 lb d:Nat}{num:Int}{lo:Bool}{it:Option Addr}{td:Value}{p:PS}{ob:List OB}{o:OB}{M:List ai}{l t:Ln}{c:UInt8}{U n:Nat}(h:Sat σ w (l.at b1::(p.at b::M++(cN lb c.toNat num lo it td::L))))(hs:Stk p ob M)(hd:p.depth=d)(a6:d<1000000)(V:ob[d+1]? =some o)(O:o.bd=BK lb)(a7:l.ok)(hb:pM l c U n t)(W: ∀w E y g I ib,Sat σ w (l.at b1::(p.at b::M++(cN lb c.toNat num lo it (kz E I g y)::(E,cel [kT (kE b)] ah)::t.at y::gP g lb::jh I ib::gh ib lb n (!t.blank)::L)))->R (hQ (hV true)) w):
 callE P bO #[kT (kE b),kT (kE b1)] R w:=by
 have ht:=hb.ok
 refine hb.run h λw y E H t' h=>?_
 refine Sat.bx h λg w h=>?_
 refine⟨_,Sat.ld h (.tail _ (.tail _ (.head _))) (i:=0) rfl,?_⟩
 have h:Sat σ w (p.at b::M++((g,cel [kT none] az)::cN lb c.toNat num lo it td::(E,cel [kT (kE b)] ah)::t.at y::t'.at H::l.at b1::L)):=h.re
 refine lV (d:=d) h hs hd (by omega) λw h=>⟨_,rfl,?_⟩
 rw[V]
 dsimp only
 refine⟨kE lb,true,w,by rw[O];exact kG _ w,ag rfl ?_⟩
 have h:Sat σ w ((g,cel [kT none] az)::cN lb c.toNat num lo it td::(E,cel [kT (kE b)] ah)::t.at y::(p.at b::M++(t'.at H::l.at b1::L))):=h.re
 refine h.stA 0 λw h=>?_
 have h:Sat σ w (gP g lb::cN lb c.toNat num lo it td::(E,cel [kT (kE b)] ah)::t.at y::(p.at b::M++(t'.at H::l.at b1::L))):=h
 refine⟨_,Sat.ld h (.head _) (i:=0) rfl,_,_,ke my _ w,ae rfl ?_⟩
 refine⟨_,Sat.ld h (.head _) (i:=0) rfl,aa ?_⟩
 refine⟨_,Sat.ld h (.tail _ (.head _)) (i:=0) rfl,?_⟩
 rw[zn]
 refine ae (by simp) ?_
 have h:Sat σ w (cN lb c.toNat num lo it td::t.at y::gP g lb::(p.at b::M++((E,cel [kT (kE b)] ah)::(t'.at H::l.at b1::L)))):=h.re
 refine pY h ht λw I ib h=>?_
 refine W w E y g I ib ?_
 exact h.less [t'.at H]
theorem uJ {b lb d:Nat}{num:Int}{lo:Bool}{it:Option Addr}{td:Value}{p:PS}{ob:List OB}{O o:OB}{M:List ai}{l t:Ln}{c:UInt8}{b5 n:Nat}{ty:TypeId}{v:Value}(h:Sat σ w (p.at b::M++(cN lb c.toNat num lo it td::L)))(hs:Stk p ob M)(hd:p.depth=d)(W:d<1000000)(a7:ob[d]? =some O)(V:O.bd= .iface ty v)(a6:ty≠az)(b6:ob[d+1]? =some o)(U:o.bd=BK lb)(b4:l.ok)(hb:pM l c b5 n t)(b7: ∀w H E y g ib,Sat σ w (p.at b::M++(cN lb c.toNat num lo it (kz H g y E)::(H,cel [kT (kE b)] ah)::t.at E::gP y lb::jh g ib::gh ib lb n (!t.blank)::L))->R (hQ (.tuple #[l.val,hV true])) w):
 callE P cq #[kT (kE b),l.val] R w:=by
 refine cO.sound ?_
 refine Sat.bx h λb1 w h=>?_
 refine Sat.bx h λI w h=>?_
 have h:Sat σ w (zLn I::l.at b1::(p.at b::M++(cN lb c.toNat num lo it td::L))):=h
 have h:Sat σ w (p.at b::M++(zLn I::l.at b1::cN lb c.toNat num lo it td::L)):=h.re
 refine qt h hs hd λw h=>?_
 rw[a7]
 dsimp only
 refine⟨_,rfl,none,false,w,by rw[V];exact gH a6 w,ae rfl (ae rfl ?_)⟩
 have h:Sat σ w (l.at b1::(p.at b::M++(cN lb c.toNat num lo it td::(zLn I::L)))):=h.re
 refine xI h hs hd W b6 U b4 hb λw H E y g ib h=>⟨_,rfl,ag rfl ?_⟩
 have h:Sat σ w (zLn I::l.at b1::(p.at b::M++(cN lb c.toNat num lo it (kz H g y E)::(H,cel [kT (kE b)] ah)::t.at E::gP y lb::jh g ib::gh ib lb n (!t.blank)::L))):=h.re
 repeat (first|refine aa ?_|refine h.tk λw h=>?_|refine⟨_,h.ldA,?_⟩|refine⟨_,_,_,h.ldA,?_⟩|refine h.stA 0 λw h=>?_|refine h.stA 1 λw h=>?_|refine h.stA 2 λw h=>?_|refine h.stA 3 λw h=>?_|refine h.stA 4 λw h=>?_|refine h.stA 5 λw h=>?_|refine h.stA 6 λw h=>?_|refine h.bx λb0 w h=>?_)
 have h:Sat σ _ (l.at I::l.at b1::(p.at b::M++(cN lb c.toNat num lo it (kz H g y E)::(H,cel [kT (kE b)] ah)::t.at E::gP y lb::jh g ib::gh ib lb n (!t.blank)::L))):=h
 exact b7 _ H E y g ib h.tail.tail
def fp (b H E y g lb ib n:Nat)(hv:Bool)(t:Ln):List ai:= [(H,cel [kT (kE b)] ah),t.at E,gP y lb,jh g ib,gh ib lb n hv]
theorem Gd {b lb O I H E ib n:Nat}{bul num:Int}{hv:Bool}{p:PS}{gs:List Bk}{U:Bk}{rest:List Bk}{it:Option Addr}{lf:Leaf}{l t:Ln}{Post:PS->Bk->Prop}(h:DocC σ b (fp b O I H E lb ib n hv t++L) (gs++U::rest) lf p w)(c8:U.isListT lb bul num it (kz O E H I))(hd:p.depth=gs.length)(g5:gs.length<100000)(d4:p.lineno<1000000000)(f5: ∀(K:List ai) (d5:Ending->World->Prop) w,(∀x∈fp b O I H E lb ib n hv t++L,x∈K)->DocC σ b K (gs++U::rest) lf p w->(∀w (a6:PS) y c2,Post a6 y->a6.base=p.base->a6.lineno=p.lineno->a6.depth=p.depth->y.isListT lb bul num c2 (kz O E H I)->DocC σ b K (gs++ [y]) .none a6 w->d5 (hQ (.tuple #[])) w)->
  callE P bj #[kT (kE b),hY ((gs.length:Int)+1)] d5 w)(f6: ∀w (p':PS) a6 y c1 g,Post a6 y->p'.base=p.base->p'.lineno=p.lineno->p'.depth=p.depth->c1.isListT lb bul num (kE ib) .nilFunc->c1.ob=y.ob->c1.D=y.D->ItemOf (kE ib) g lb n hv->g.D= []->g.ob.s=p.lineno->g.ob.e=p.lineno->DocC σ b L (gs++ [c1,g]) .none p' w->R (hQ (.tuple #[t.val,hV true])) w):
 callE P cq #[kT (kE b),l.val] R w:=by
 have g7:=h
 obtain⟨M,b6,c5,a7,hs,ht,d0,f4,h⟩:=h
 have h0:=d0 U (by simp)
 refine cO.sound ?_
 refine Sat.bx h λb1 w h=>?_
 refine Sat.bx h λV w h=>?_
 have e4:((gs++U::rest).map Bk.ob++c5)[gs.length]? =some U.ob:=by simp
 have e2:aM (gs++U::rest)=aM gs++(U.IM++(U.own++(cX U.D++txc U.D))++aM rest):=by
  rw[bh,show U::rest= [U]++rest from rfl,bh,dy]
 have h:Sat σ w (zLn V::l.at b1::(p.at b::M++(b6++(aM (gs++U::rest)++(a7++(fp b O I H E lb ib n hv t++L)))))):=h
 have h:Sat σ w (p.at b::M++(zLn V::l.at b1::(b6++(aM (gs++U::rest)++(a7++(fp b O I H E lb ib n hv t++L)))))):=h.re
 refine qt h hs hd λw h=>?_
 rw[e4]
 dsimp only
 refine⟨_,rfl,kE lb,true,w,by rw[c8.1];exact kG _ w,ag rfl (aa ?_)⟩
 obtain⟨_,_,_,f0⟩:=nK vB
 have d2:cN lb bul num false it (kz O E H I)∈p.at b::M++(zLn V::l.at b1::(b6++(aM (gs++U::rest)++(a7++(fp b O I H E lb ib n hv t++L))))):=by rw[e2,c8.2];simp
 refine⟨_,Sat.ld h d2 (i:=4) rfl,true,w,mO f0 _ _ _ w,ag rfl (aa ?_)⟩
 refine⟨_,Sat.ld h d2 (i:=4) rfl,?_⟩
 refine gN ?_
 refine dt.sound ?_
 refine Sat.bx h λW w h=>?_
 have h:Sat σ w (zLn W::(p.at b::M++(zLn V::l.at b1::(b6++(aM (gs++U::rest)++(a7++(fp b O I H E lb ib n hv t++L))))))):=h
 have f3:(O,cel [kT (kE b)] ah)∈fp b O I H E lb ib n hv t:= .head _
 have e6:jh E ib∈fp b O I H E lb ib n hv t:=by simp[fp]
 have g4:gP H lb∈fp b O I H E lb ib n hv t:=by simp[fp]
 refine⟨_,Sat.ld h (by simp[f3]:(O,cel [kT (kE b)] ah)∈_) (i:=0) rfl,_,Sat.ld h (by simp[e6]:jh E ib∈_) (i:=0) rfl,?_⟩
 let c4:List ai:=zLn W::zLn V::l.at b1::(fp b O I H E lb ib n hv t++L)
 have h:Sat σ w (p.at b::(M++(b6++(aM (gs++U::rest)++(a7++c4))))):=by
  show Sat σ w (p.at b::(M++(b6++(aM (gs++U::rest)++(a7++(zLn W::zLn V::l.at b1::(fp b O I H E lb ib n hv t++L)))))))
  exact h.re
 refine rf h (by omega) λw h=>?_
 have e8:DocC σ b c4 (gs++U::rest) lf p w:=⟨M,b6,c5,a7,hs,ht,d0,f4,h⟩
 rw[hd]
 refine f5 c4 _ w (λx g2=> .tail _ (.tail _ (.tail _ g2))) e8 λw a6 y c2 e1 e7 d1 f1 d3 g0=>⟨rfl,?_⟩
 obtain⟨g1,b8,g3,g6,e9,f2,c9,⟨rfl,rfl⟩,h⟩:=g0
 have e3:=c9 y (by simp)
 rw[bh,dy,d3.2] at h
 refine⟨a6,(gs++ [y]).map Bk.ob++ [],g1,_,e9,by simp;omega,h,λw p' b9 b7 c3 h=>⟨rfl,?_⟩⟩
 have h:Sat σ w (cN lb bul num false c2 (kz O E H I)::zLn W::t.at I::zLn V::l.at b1::gP H lb::jh E ib::(p'.at b::b9++(b8++(aM gs++(y.IM++(cX y.D++(txc y.D++((O,cel [kT (kE b)] ah)::gh ib lb n hv::L)))))))):=by
  have h:Sat σ w (p'.at b::b9++(b8++(aM gs++(y.IM++([cN lb bul num false c2 (kz O E H I)]++(cX y.D++txc y.D)))++([]++(zLn W::zLn V::l.at b1::((O,cel [kT (kE b)] ah)::t.at I::gP H lb::jh E ib::gh ib lb n hv::L)))))):=h
  exact h.re
 refine⟨_,Sat.ld h (by simp:gP H lb∈_) (i:=0) rfl,_,Sat.ld h (by simp:jh E ib∈_) (i:=0) rfl,aa ?_⟩
 generalize e0:(p'.at b::b9++(b8++(aM gs++(y.IM++(cX y.D++(txc y.D++((O,cel [kT (kE b)] ah)::gh ib lb n hv::L)))))))=KK at h
 refine h.stA 0 λw h=>?_
 have h:Sat σ w (t.at I::zLn W::cN lb bul num false (kE ib) (kz O E H I)::zLn V::l.at b1::gP H lb::jh E ib::KK):=by
  have h:Sat σ w (cN lb bul num false (kE ib) (kz O E H I)::zLn W::t.at I::zLn V::l.at b1::gP H lb::jh E ib::KK):=h
  exact h.re
 refine⟨_,h.ldA,?_⟩
 refine⟨_,h.ldA,?_⟩
 refine⟨_,h.ldA,?_⟩
 refine⟨_,h.ldA,?_⟩
 refine⟨_,h.ldA,?_⟩
 refine h.stA 1 λw h=>?_
 refine h.stA 1 λw h=>?_
 refine h.stA 1 λw h=>?_
 refine h.stA 1 λw h=>?_
 refine h.stA 1 λw h=>?_
 have h:Sat σ w (t.at I::t.at W::cN lb bul num false (kE ib) (kz O E H I)::zLn V::l.at b1::gP H lb::jh E ib::KK):=h
 have h:Sat σ w (t.at W::l.at b1::cN lb bul num false (kE ib) (kz O E H I)::zLn V::t.at I::gP H lb::jh E ib::KK):=h.re
 refine⟨_,h.ldA,?_⟩
 refine⟨_,h.ldA,?_⟩
 refine⟨_,h.ldA,?_⟩
 refine⟨_,h.ldA,?_⟩
 refine⟨_,h.ldA,?_⟩
 refine⟨_,_,_,_,_,rfl,?_⟩
 refine h.stA 1 λw h=>?_
 refine h.stA 1 λw h=>?_
 refine h.stA 1 λw h=>?_
 refine h.stA 1 λw h=>?_
 refine h.stA 1 λw h=>?_
 have h:Sat σ w (t.at W::t.at b1::cN lb bul num false (kE ib) (kz O E H I)::zLn V::t.at I::gP H lb::jh E ib::KK):=h
 refine aa ?_
 refine Sat.st h (k:=2) rfl (by simp[cN]) trivial rfl λw h=>?_
 have h:Sat σ w (t.at b1::zLn V::cN lb bul num false (kE ib) .nilFunc::t.at W::t.at I::gP H lb::jh E ib::KK):=by
  have h:Sat σ w (t.at W::t.at b1::cN lb bul num false (kE ib) .nilFunc::zLn V::t.at I::gP H lb::jh E ib::KK):=h
  exact h.re
 refine⟨_,h.ldA,?_⟩
 refine⟨_,h.ldA,?_⟩
 refine⟨_,h.ldA,?_⟩
 refine⟨_,h.ldA,?_⟩
 refine⟨_,h.ldA,?_⟩
 refine h.stA 1 λw h=>?_
 refine h.stA 1 λw h=>?_
 refine h.stA 1 λw h=>?_
 refine h.stA 1 λw h=>?_
 refine h.stA 1 λw h=>?_
 have h:Sat σ w (t.at b1::t.at V::cN lb bul num false (kE ib) .nilFunc::t.at W::t.at I::gP H lb::jh E ib::KK):=h
 have h:Sat σ w (t.at V::t.at b1::cN lb bul num false (kE ib) .nilFunc::t.at W::t.at I::gP H lb::jh E ib::KK):=h.re
 refine⟨_,h.ldA,?_⟩
 refine⟨_,h.ldA,?_⟩
 refine⟨_,h.ldA,?_⟩
 refine⟨_,h.ldA,?_⟩
 refine⟨_,h.ldA,?_⟩
 subst e0
 have e5:(gs++ [y]).map Bk.ob++ []=(gs++ [y]).map Bk.ob:=lG0 _
 rw[e5] at c3
 refine f6 _ p' a6 y ⟨y.ob,[cN lb bul num false (kE ib) .nilFunc],y.D,y.IM⟩ ⟨⟨CZ ib,none,0,0,p.lineno,p.lineno⟩,[gh ib lb n hv],[],[]⟩ e1 (by rw[b7,<-e7];rfl) (by rw[b7];exact d1) (by rw[b7];exact f1.trans rfl) ⟨d3.1,rfl⟩ rfl rfl ⟨ib,rfl,rfl,rfl⟩ rfl rfl rfl ?_
 refine⟨b9,b8,[],[],?_,?_,?_,⟨rfl,rfl⟩,?_⟩
 ·rw[lG0]
  rw[d1] at c3
  have e:(gs++ [(⟨y.ob,[cN lb bul num false (kE ib) .nilFunc],y.D,y.IM⟩:Bk),⟨⟨CZ ib,none,0,0,p.lineno,p.lineno⟩,[gh ib lb n hv],[],[]⟩]).map Bk.ob=(gs++ [y]).map Bk.ob++ [⟨CZ ib,none,0,0,p.lineno,p.lineno⟩]:=by simp
  rw[e]
  exact c3
 ·have e:txF (gs++ [(⟨y.ob,[cN lb bul num false (kE ib) .nilFunc],y.D,y.IM⟩:Bk),⟨⟨CZ ib,none,0,0,p.lineno,p.lineno⟩,[gh ib lb n hv],[],[]⟩])=txF (gs++ [y]):=by
   rw[bD,bD,dH,un]
   show txF gs++(cl y.D++ [])=_
   rw[lG0]
  rw[e]
  exact f2.of (by rw[b7]) (by rw[b7]) (by rw[b7])
 ·intro g b4
  rcases lO0.1 b4 with b4|b4
  ·exact c9 g (by simp[b4])
  ·rcases lW0.1 b4 with rfl|b4
   ·exact e3
   ·obtain rfl:=lQ0.1 b4
    exact⟨Sl.nil 1 aO,by simp,d4,d4⟩
 ·rw[bh gs,jD]
  show Sat σ _ (_::b9++(b8++(aM gs++((y.IM++([cN lb bul num false (kE ib) .nilFunc]++(cX y.D++txc y.D)))++([]++([gh ib lb n hv]++([]++ []))))++([]++L))))
  exact h.less [t.at V,t.at b1,t.at W,t.at I,gP H lb,jh E ib,(O,cel [kT (kE b)] ah)]

theorem gl:mQ P az "pub-paratext/pub/rscmarkdown.extend" gV=true:=by kernel_rfl
theorem kg:mQ P bu "pub-paratext/pub/rscmarkdown.extend" fc=true:=by kernel_rfl
theorem u6 {X:OA->Nat->WP}(b5: ∀I H w,aj.bl1 R X I H w->X I H w){b b1 j:Nat}{p:PS}{ob:List OB}{o:OB}{M:List ai}{l l2:Ln}{ok:Bool}(h:Sat σ w (l.at b1::(p.at b::M++L)))(hs:Stk p ob M)(hd:p.depth=j)(c4:j<1000000)(E:ob[j+1]? =some o)(b8:l.ok)(b7: ∀(O:Ending->World->Prop) b0 w,Sat σ w (l.at b0::l.at b1::(p.at b::M++L))->(∀w,Sat σ w (l.at b0::l.at b1::(p.at b::M++L))->O (hQ (.tuple #[l2.val,hV ok])) w)->cY P (callMethod o.bd "pub-paratext/pub/rscmarkdown.extend" #[kT (kE b),l.val]) O w)
 (b3:l.blank=true\/(ok=false/\l2=l))
 (a7:ok=true-> ∀w,Sat σ w (l2.at b1::(({p with depth:=(j:Int)+1}:PS).at b::M++L))->X (kE b) b1 w)
 (V:ok=false-> ∀w,Sat σ w (l2.at b1::(p.at b::M++L))->aj.k2 R (kE b) b1 w):X (kE b) b1 w:=by
 have y:=(lL0.1 E).1
 have c3:=hs.2.2
 have U:=hs.2.1
 have c2:=hs
 obtain⟨sb,sp,b9,b4,c1⟩:=hs.split (by intro b6;rw[b6] at y;simp at y)
 refine b5 _ _ _ ?_
 have h:Sat σ w (l.at b1::p.at b::(M++L)):=h
 refine Sat.tk h λw h=>aa (aa ?_)
 refine⟨_,Sat.ld h (.tail _ (.head _)) (i:=5) rfl,_,_,_,Sat.ld h (.tail _ (.head _)) (i:=4) rfl,?_⟩
 rw[hd,i64_in _ (by omega),U]
 refine ag (by simp;omega) ?_
 refine⟨_,h.ldA,?_⟩
 refine⟨_,h.ldA,?_⟩
 refine⟨_,h.ldA,?_⟩
 refine⟨_,h.ldA,?_⟩
 refine⟨_,h.ldA,?_⟩
 refine Sat.bx h λb0 w h=>?_
 refine h.stA 0 λw h=>?_
 refine h.stA 0 λw h=>?_
 refine h.stA 0 λw h=>?_
 refine h.stA 0 λw h=>?_
 refine h.stA 0 λw h=>?_
 have h:Sat σ w (l.at b0::l.at b1::p.at b::(M++L)):=h
 refine Sat.tk h λw h=>aa (aa ?_)
 refine⟨_,_,_,Sat.ld h (.tail _ (.tail _ (.head _))) (i:=4) rfl,_,Sat.ld h (.tail _ (.tail _ (.head _))) (i:=5) rfl,?_⟩
 rw[hd,i64_in _ (by omega),U,b9]
 refine⟨by omega,by omega,aa ?_⟩
 have a6:((j:Int)+1).toNat=j+1:=by omega
 rw[a6]
 simp only[lK0,lN0]
 have W:(sb,cel (aP ob++sp) ay)∈(l.at b0::l.at b1::p.at b::(M++L)):=by rw[b4];simp
 refine⟨o.bd,Sat.ld h W (fg (j:=j+1) (f:=0) (by decide) E),?_⟩
 have g:l.at b1∈(l.at b0::l.at b1::p.at b::(M++L)):= .tail _ (.head _)
 refine⟨_,Sat.ld h g (i:=0) rfl,_,Sat.ld h g (i:=1) rfl,_,Sat.ld h g (i:=2) rfl,_,Sat.ld h g (i:=3) rfl,_,Sat.ld h g (i:=4) rfl,?_⟩
 refine b7 _ b0 w h λw h=>⟨_,_,_,_,_,_,rfl,?_⟩
 have h:Sat σ w (l.at b0::l.at b1::(p.at b::M++L)):=h
 refine h.stA 1 λw h=>?_
 refine h.stA 1 λw h=>?_
 refine h.stA 1 λw h=>?_
 refine h.stA 1 λw h=>?_
 refine h.stA 1 λw h=>?_
 have h:Sat σ w (l.at b0::l2.at b1::(p.at b::M++L)):=h
 refine dC h (.head _) b8 λw h=>⟨_,rfl,?_⟩
 have fin: ∀w,Sat σ w (l.at b0::l2.at b1::(p.at b::M++L))->aj.k1 R X (kE b) b1 ok false w:=by
  intro w h
  refine ae rfl ?_
  cases ok with
  |true=>
   refine ae rfl (aa ?_)
   have h:Sat σ w (l.at b0::l2.at b1::p.at b::(M++L)):=h
   refine⟨_,Sat.ld h (.tail _ (.tail _ (.head _))) (i:=5) rfl,aa ?_⟩
   rw[hd,i64_in _ (by omega)]
   refine Sat.st h (k:=2) rfl (by simp[PS.cells]) trivial rfl λw h=>?_
   have h:Sat σ w (l.at b0::l2.at b1::(({p with depth:=(j:Int)+1}:PS).at b::M++L)):=h
   exact a7 rfl w h.tail
  |false=>exact ag rfl (V rfl w h.tail)
 cases hb:l.blank with
 |true=>exact ae rfl (fin w h)
 |false=>
  refine ag rfl ?_
  obtain⟨rfl,rfl⟩:=b3.resolve_left (by rw[hb];decide)
  refine ae rfl ?_
  refine⟨_,h.ldA,?_⟩
  refine⟨_,h.ldA,?_⟩
  refine⟨_,h.ldA,?_⟩
  refine⟨_,h.ldA,?_⟩
  refine⟨_,h.ldA,?_⟩
  refine⟨_,h.ldA,?_⟩
  refine⟨_,h.ldA,?_⟩
  refine⟨_,h.ldA,?_⟩
  refine⟨_,h.ldA,?_⟩
  refine⟨_,h.ldA,?_⟩
  exact⟨_,_,Dx l2 _ _ w,fin w h⟩
theorem lA {lb ib n:Nat}{q:Option Addr}{bul num:Int}{lo hv:Bool}{td:Value}{l l2:Ln}{ok:Bool}(h:Sat σ w L)(O:l.ok)(U:n<1000000)(I:cN lb bul num lo (kE ib) td∈L)(y:gh ib lb n hv∈L)(ht:match l.trimSp n n true with|some E=>l2=E/\ok=true|none=>l2=l/\ok=false)(H: ∀w,Sat σ w L->R (hQ (.tuple #[l2.val,hV ok])) w):
 callE P gV #[kT (kE lb),kT q,l.val] R w:=by
 refine g8.sound ?_
 refine Sat.bx h λb1 w h=>?_
 refine Sat.bx h λg w h=>?_
 have h:Sat σ w (zLn g::l.at b1::L):=h
 refine aa ⟨_,Sat.ld h (.tail _ (.tail _ I)) (i:=3) rfl,?_⟩
 refine Sat.tk h λw h=>⟨_,λw=>dN AR _ w,ag rfl (aa (aa ?_))⟩
 refine⟨_,Sat.ld h (.tail _ (.tail _ y)) (i:=1) rfl,_,Sat.ld h (.tail _ (.tail _ y)) (i:=1) rfl,?_⟩
 have h:Sat σ w (l.at b1::zLn g::L):=h.re
 refine YtendaipfdnhnaaaGreatDoor.trimSp_ok (min:=n) (max:=n) h O (by omega) (by omega) ?_
 cases hs:l.trimSp n n true with
 |some E=>
  rw[hs] at ht
  obtain⟨rfl,rfl⟩:=ht
  intro w h
  refine⟨_,rfl,ag rfl ?_⟩
  refine⟨_,h.ldA,?_⟩
  refine⟨_,h.ldA,?_⟩
  refine⟨_,h.ldA,?_⟩
  refine⟨_,h.ldA,?_⟩
  refine⟨_,h.ldA,?_⟩
  refine h.stA 1 λw h=>?_
  refine h.stA 1 λw h=>?_
  refine h.stA 1 λw h=>?_
  refine h.stA 1 λw h=>?_
  refine h.stA 1 λw h=>?_
  have h:Sat σ w (l2.at b1::l2.at g::L):=h
  have h:Sat σ w (l2.at g::l2.at b1::L):=h.re
  refine⟨_,h.ldA,?_⟩
  refine⟨_,h.ldA,?_⟩
  refine⟨_,h.ldA,?_⟩
  refine⟨_,h.ldA,?_⟩
  refine⟨_,h.ldA,?_⟩
  exact H _ h.tail.tail
 |none=>
  rw[hs] at ht
  obtain⟨rfl,rfl⟩:=ht
  intro w h
  refine⟨_,rfl,ae rfl ⟨_,λw=>ke AR _ w,ae rfl ?_⟩⟩
  refine⟨_,h.ldA,?_⟩
  refine⟨_,h.ldA,?_⟩
  refine⟨_,h.ldA,?_⟩
  refine⟨_,h.ldA,?_⟩
  refine⟨_,h.ldA,?_⟩
  refine h.stA 1 λw h=>?_
  refine h.stA 1 λw h=>?_
  refine h.stA 1 λw h=>?_
  refine h.stA 1 λw h=>?_
  refine h.stA 1 λw h=>?_
  have h:Sat σ w (l2.at b1::l2.at g::L):=h
  have h:Sat σ w (l2.at g::l2.at b1::L):=h.re
  refine⟨_,h.ldA,?_⟩
  refine⟨_,h.ldA,?_⟩
  refine⟨_,h.ldA,?_⟩
  refine⟨_,h.ldA,?_⟩
  refine⟨_,h.ldA,?_⟩
  exact H _ h.tail.tail
theorem pm {ib lb n:Nat}{q:Option Addr}{l:Ln}(h:Sat σ w L)(y:l.ok)(hb:l.blank=true)(E:gh ib lb n true∈L)(H: ∀w,Sat σ w L->R (hQ (.tuple #[Ln.zero.val,hV true])) w):
 callE P fc #[kT (kE ib),kT q,l.val] R w:=by
 refine bZ.sound ?_
 refine Sat.bx h λb1 w h=>?_
 refine Sat.bx h λg w h=>?_
 have h:Sat σ w (zLn g::l.at b1::L):=h
 refine dC h (.tail _ (.head _)) y λw h=>⟨_,rfl,?_⟩
 rw[hb]
 refine ag rfl (aa ⟨_,Sat.ld h (.tail _ (.tail _ E)) (i:=2) rfl,ae rfl ?_⟩)
 refine dC h (.tail _ (.head _)) y λw h=>⟨_,rfl,?_⟩
 rw[hb]
 refine ag rfl ?_
 refine h.stA 0 λw h=>?_
 refine h.stA 0 λw h=>?_
 refine h.stA 0 λw h=>?_
 refine h.stA 0 λw h=>?_
 refine h.stA 0 λw h=>?_
 have h:Sat σ w (zLn g::l.at b1::L):=h
 refine⟨_,h.ldA,?_⟩
 refine⟨_,h.ldA,?_⟩
 refine⟨_,h.ldA,?_⟩
 refine⟨_,h.ldA,?_⟩
 refine⟨_,h.ldA,?_⟩
 exact H _ h.tail.tail
theorem vG {b k:Nat}{fs:List Bk}{lf:Leaf}{p:PS}(h:DocC σ b L fs lf p w)(U:k<=fs.length)(H: ∀X:OA->Int->WP,(∀y g w,aG.bl1 R X y g w->X y g w)->X (kE b) (k:Int) w):callE P bj #[kT (kE b),hY (k:Int)] R w:=by
 obtain⟨M,a6,I,W,hs,ht,O,V,h⟩:=h
 have E:=hs.2.1
 rw[lA0,lS0] at E
 refine aG.sound ?_
 refine aa ?_
 refine⟨_,_,_,h.ldA,?_⟩
 rw[E]
 exact ae (by simp;omega) H
theorem vH {X:OA->Int->WP}{b k:Nat}{fs:List Bk}{p:PS}(H: ∀y g w,aG.bl1 R X y g w->X y g w)(h:DocC σ b L fs .none p w)(V:fs.length=k)(I:R (hQ (.tuple #[])) w):X (kE b) (k:Int) w:=by
 obtain⟨M,a6,O,W,hs,ht,U,⟨rfl,rfl⟩,h⟩:=h
 have E:=hs.2.1
 rw[lG0,lS0] at E
 refine H _ _ _ (aa ?_)
 refine⟨_,_,_,h.ldA,?_⟩
 rw[E]
 exact ae (by simp;omega) I

def OB.setE (o:OB)(m:Nat):OB:= {o with e:=m}
theorem Ea {g:Type}{l:List g}{j:Nat}{o:g}(y:l[j]? =some o): ∃a c,l=a++o::c/\a.length=j:=by
 obtain⟨E,H⟩:=lL0.1 y
 refine⟨l.take j,l.drop (j+1),?_,by simp;omega⟩
 rw[<-H,<-lI1 E,lX1]
theorem uw {ob:List OB}{sp:List Value}{j m:Nat}{o:OB}(I:ob[j]? =some o):(aP ob++sp).set (j*4+3) (hY (m:Nat))=aP (ob.set j (o.setE m))++sp:=by
 obtain⟨a,c,rfl,rfl⟩:=Ea I
 have H: ∀x g:List OB,aP (x++g)=aP x++aP g:=by intro x g;simp[aP]
 have E: ∀x:OB,∀g:List OB,aP (x::g)=x.cells++aP g:=by intro x g;simp[aP]
 rw[lO1 _ _ (lZ0 _),lW1,List.set_cons_zero,H,H,E,E,lD0,lO1 _ _ (by rw[aR];omega),aR,show a.length*4+3 - a.length*4=3 by omega,
  lD0,lD0,lD0]
 congr 1
theorem Stk.setE {p:PS}{ob:List OB}{sb:Nat}{sp:List Value}{j m:Nat}{o:OB}(y:p.stq=kE sb)(E:p.stn=ob.length)(H:ob.length<1048576)(g:(aP ob++sp).length=p.stc*4)(I:ob[j]? =some o):
 Stk p (ob.set j (o.setE m)) [(sb,cel (aP (ob.set j (o.setE m))++sp) ay)]:=by
 refine Stk.mk' y ?_ (by rw[lA5];exact E) (by rw[lA5];exact H)
 rw[<-g,lA0,lA0,aR,aR,lA5]
theorem Cj {X:OA->Nat->WP}(b8: ∀a6 W w,aj.bl1 R X a6 W w->X a6 W w){b b1 j:Nat}{p:PS}{ob:List OB}{o:OB}{M:List ai}{l l2:Ln}(h:Sat σ w (l.at b1::(p.at b::M++L)))(hs:Stk p ob M)(hd:p.depth=j)(c4:j<1000000)(E:ob[j+1]? =some o)(c2:l.ok)(hb:l.blank=false)(c1: ∀(b3:Ending->World->Prop) b0 w,Sat σ w (l.at b0::l.at b1::(p.at b::M++L))->(∀w,Sat σ w (l.at b0::l.at b1::(p.at b::M++L))->b3 (hQ (.tuple #[l2.val,hV true])) w)->cY P (callMethod o.bd "pub-paratext/pub/rscmarkdown.extend" #[kT (kE b),l.val]) b3 w)
 (b5: ∀w a7,Stk ({p with depth:=(j:Int)+1}:PS) (ob.set (j+1) (o.setE p.lineno)) a7->Sat σ w (l2.at b1::(({p with depth:=(j:Int)+1}:PS).at b::a7++L))->X (kE b) b1 w):X (kE b) b1 w:=by
 have U:=(lL0.1 E).1
 have b7:=hs.2.2
 have H:=hs.2.1
 have c3:=hs
 obtain⟨sb,sp,I,V,b6⟩:=hs.split (by intro b9;rw[b9] at U;simp at U)
 refine b8 _ _ _ ?_
 have h:Sat σ w (l.at b1::p.at b::(M++L)):=h
 refine Sat.tk h λw h=>aa (aa ?_)
 refine⟨_,Sat.ld h (.tail _ (.head _)) (i:=5) rfl,_,_,_,Sat.ld h (.tail _ (.head _)) (i:=4) rfl,?_⟩
 rw[hd,i64_in _ (by omega),H]
 refine ag (by simp;omega) ?_
 refine⟨_,h.ldA,?_⟩
 refine⟨_,h.ldA,?_⟩
 refine⟨_,h.ldA,?_⟩
 refine⟨_,h.ldA,?_⟩
 refine⟨_,h.ldA,?_⟩
 refine Sat.bx h λb0 w h=>?_
 refine h.stA 0 λw h=>?_
 refine h.stA 0 λw h=>?_
 refine h.stA 0 λw h=>?_
 refine h.stA 0 λw h=>?_
 refine h.stA 0 λw h=>?_
 have h:Sat σ w (l.at b0::l.at b1::p.at b::(M++L)):=h
 refine Sat.tk h λw h=>aa (aa ?_)
 refine⟨_,_,_,Sat.ld h (.tail _ (.tail _ (.head _))) (i:=4) rfl,_,Sat.ld h (.tail _ (.tail _ (.head _))) (i:=5) rfl,?_⟩
 rw[hd,i64_in _ (by omega),H,I]
 refine⟨by omega,by omega,aa ?_⟩
 have O:((j:Int)+1).toNat=j+1:=by omega
 rw[O]
 simp only[lK0,lN0]
 have b4:(sb,cel (aP ob++sp) ay)∈(l.at b0::l.at b1::p.at b::(M++L)):=by rw[V];simp
 refine⟨o.bd,Sat.ld h b4 (fg (j:=j+1) (f:=0) (by decide) E),?_⟩
 have g:l.at b1∈(l.at b0::l.at b1::p.at b::(M++L)):= .tail _ (.head _)
 refine⟨_,Sat.ld h g (i:=0) rfl,_,Sat.ld h g (i:=1) rfl,_,Sat.ld h g (i:=2) rfl,_,Sat.ld h g (i:=3) rfl,_,Sat.ld h g (i:=4) rfl,?_⟩
 refine c1 _ b0 w h λw h=>⟨_,_,_,_,_,_,rfl,?_⟩
 have h:Sat σ w (l.at b0::l.at b1::(p.at b::M++L)):=h
 refine h.stA 1 λw h=>?_
 refine h.stA 1 λw h=>?_
 refine h.stA 1 λw h=>?_
 refine h.stA 1 λw h=>?_
 refine h.stA 1 λw h=>?_
 have h:Sat σ w (l.at b0::l2.at b1::(p.at b::M++L)):=h
 refine dC h (.head _) c2 λw h=>⟨_,rfl,?_⟩
 rw[hb]
 refine ag rfl (ag rfl ?_)
 unfold aj.k1
 have h:Sat σ w (l.at b0::l2.at b1::p.at b::(M++L)):=h
 refine ag rfl (h.tk λw h=>aa (aa (aa ?_)))
 have y:p.at b∈(l.at b0::l2.at b1::p.at b::(M++L)):= .tail _ (.tail _ (.head _))
 refine⟨_,_,_,Sat.ld h y (i:=4) rfl,_,Sat.ld h y (i:=5) rfl,_,Sat.ld h y (i:=3) rfl,?_⟩
 rw[hd,i64_in _ (by omega),H,I]
 refine⟨by omega,by omega,aa ?_⟩
 rw[O]
 simp only[lK0,lN0,lL1]
 have h:Sat σ w ((sb,cel (aP ob++sp) ay)::l.at b0::l2.at b1::p.at b::L):=by
  rw[V] at h
  exact h.re
 refine Sat.st h (k:=0) rfl (by rw[lA0,aR];omega) trivial rfl λw h=>?_
 rw[uw E] at h
 have h:Sat σ w ((sb,cel (aP (ob.set (j+1) (o.setE p.lineno))++sp) ay)::l.at b0::l2.at b1::p.at b::L):=h
 refine ae rfl (aa ?_)
 have y:p.at b∈((sb,cel (aP (ob.set (j+1) (o.setE p.lineno))++sp) ay)::l.at b0::l2.at b1::p.at b::L):= .tail _ (.tail _ (.tail _ (.head _)))
 refine⟨_,Sat.ld h y (i:=5) rfl,aa ?_⟩
 rw[hd,i64_in _ (by omega)]
 refine Sat.st h (k:=3) rfl (by simp[PS.cells]) trivial rfl λw h=>?_
 have h:Sat σ w ((sb,cel (aP (ob.set (j+1) (o.setE p.lineno))++sp) ay)::l.at b0::l2.at b1::({p with depth:=(j:Int)+1}:PS).at b::L):=h
 refine b5 w [(sb,cel (aP (ob.set (j+1) (o.setE p.lineno))++sp) ay)] (Stk.setE I H b7 b6 E) ?_
 exact h.less [l.at b0]
theorem uH {b pb g d:Nat}{op:Opt}{p:PS}{fs:List OB}{o:OB}{M a7:List ai}{ls:List (List UInt8)}{l:Ln}(h:Sat σ w (p.at b::M++(a7++L)))(hs:Stk p (fs++ [o]) M)(c3:o.bd= .iface ar (kT (kE g)))(hd:p.depth=d)(f1:d<=fs.length)(c8:p.pz=kE pb)(c1:op.at pb∈L)(d3:op.table=false)(b5:rg g ls a7)(f0:ls.length<1048570)(e9:l.ok)(e4: ∀w b4 I,Stk p ((fs++ [o]).take d++((fs++ [o]).drop d).map (·.setE p.lineno)) b4->rg g (ls++ [l.rest]) I->Sat σ w (p.at b::b4++(I++L))->R (hQ (.tuple #[Ln.zero.val,hV true])) w):
 callE P pr #[kT (kE b),l.val] R w:=by
 have O:p.stn=fs.length+1:=by rw[hs.2.1];simp
 have d4:=hs.2.2
 rw[lA0,lE0] at d4
 obtain⟨sb,sp,b6,rfl,c9⟩:=hs.split (by simp)
 have c5:=b5
 obtain⟨q,c,E,f2,rfl⟩:=b5
 refine dX.sound ?_
 refine Sat.bx h λb1 w h=>?_
 refine Sat.bx h λy w h=>?_
 have h:Sat σ w (zLn y::l.at b1::(p.at b:: [(sb,cel (aP (fs++ [o])++sp) ay)]++(((g,cel [hT q ls.length c,kT none] aL)::E)++L))):=h
 have h:Sat σ w (p.at b:: [(sb,cel (aP (fs++ [o])++sp) ay)]++(zLn y::l.at b1::(((g,cel [hT q ls.length c,kT none] aL)::E)++L))):=h.re
 refine qB (l:=fs) h hs (o:=o) c3 (λw h=>?_) (λ_=>⟨_,rfl⟩)
 rw[if_pos rfl]
 refine⟨_,rfl,?_⟩
 repeat (first|refine aa ?_|refine h.tk λw h=>?_|refine⟨_,h.ldA,?_⟩|refine⟨_,_,_,h.ldA,?_⟩)
 have e5:l.at b1∈p.at b:: [(sb,cel (aP (fs++ [o])++sp) ay)]++(zLn y::l.at b1::(((g,cel [hT q ls.length c,kT none] aL)::E)++L)):=by simp
 refine kD h e5 e9 λw h=>⟨_,rfl,?_⟩
 rw[show (l.text.drop l.i).dropWhile cM=l.rest from rfl]
 refine⟨_,w,jf kA _ _ _ w,ag rfl (aa ?_)⟩
 simp only[lK0,lN0]
 have d2:(g,cel [hT q ls.length c,kT none] aL)∈p.at b:: [(sb,cel (aP (fs++ [o])++sp) ay)]++(zLn y::l.at b1::(((g,cel [hT q ls.length c,kT none] aL)::E)++L)):=by simp
 refine⟨_,Sat.ld h d2 rfl,_,w,jf vA _ _ _ w,ae rfl ?_⟩
 unfold dX.k3
 refine Sat.tk h λw h=>?_
 refine aa ⟨_,Sat.ld h (.head _) rfl,?_⟩
 rw[c8]
 refine aa ?_
 simp only[lK0,lN0]
 have c2:op.at pb∈p.at b:: [(sb,cel (aP (fs++ [o])++sp) ay)]++(zLn y::l.at b1::(((g,cel [hT q ls.length c,kT none] aL)::E)++L)):=by simp[c1]
 refine⟨op.table,Sat.ld h c2 rfl,ae d3 ?_⟩
 unfold dX.k4
 refine ae rfl ⟨_,w,jf kA _ _ _ w,ag rfl (aa ?_)⟩
 simp only[lK0,lN0]
 refine⟨_,Sat.ld h (.head _) (i:=5) rfl,?_⟩
 rw[hd]
 intro X a6
 have c4: ∀(k i:Nat) w,i+k=fs.length+1->d<=i->Sat σ w ((sb,cel (aP ((fs++ [o]).take d++(((fs++ [o]).drop d).take (i - d)).map (·.setE p.lineno)++(fs++ [o]).drop i)++sp) ay)::p.at b::(zLn y::l.at b1::(((g,cel [hT q ls.length c,kT none] aL)::E)++L)))->
  X (kE b) y (kE g) (bs l.rest) (i:Nat) w:=by
  intro k
  induction k with
  |zero=>
   intro i w hi b9 h
   refine a6 _ _ _ _ _ _ (aa ?_)
   refine⟨_,_,_,Sat.ld h (.tail _ (.head _)) (i:=4) rfl,?_⟩
   rw[O]
   refine ae (by simp;omega) ?_
   have H:(fs++ [o]).drop i= []:=lE2 (by simp;omega)
   have d5:((fs++ [o]).drop d).take (i - d)=(fs++ [o]).drop d:=lB2 (by simp;omega)
   rw[H,d5,lG0] at h
   have h:Sat σ w (zLn y::((g,cel [hT q ls.length c,kT none] aL)::E)++(p.at b::(sb,cel (aP ((fs++ [o]).take d++((fs++ [o]).drop d).map (·.setE p.lineno))++sp) ay)::(l.at b1::L))):=h.re
   refine rV h c5 (by omega) λw I d0 h=>?_
   have V:((fs++ [o]).take d++((fs++ [o]).drop d).map (·.setE p.lineno)).length=fs.length+1:=by
    rw[lA0,lS0,<-lA0,lX1];simp
   refine e4 w [(sb,cel (aP ((fs++ [o]).take d++((fs++ [o]).drop d).map (·.setE p.lineno))++sp) ay)] I (Stk.mk' b6 ?_ (by rw[O,V]) (by rw[V];omega)) d0 (h.less [l.at b1])
   rw[<-c9,lA0,lA0,aR,aR,V];simp
  |succ k e7=>
   intro i w hi b9 h
   have W:i<(fs++ [o]).length:=by simp;omega
   have H:=lI1 W
   have U:((fs++ [o]).take d++(((fs++ [o]).drop d).take (i - d)).map (·.setE p.lineno)).length=i:=by
    simp only[lA0,lS0,lF1,lN1] at W⊢
    omega
   refine a6 _ _ _ _ _ _ (aa ?_)
   refine⟨_,_,_,Sat.ld h (.tail _ (.head _)) (i:=4) rfl,?_⟩
   rw[O]
   refine ag (by simp;omega) (h.tk λw h=>aa (aa ?_))
   refine⟨_,_,_,Sat.ld h (.tail _ (.head _)) (i:=4) rfl,_,Sat.ld h (.tail _ (.head _)) (i:=3) rfl,?_⟩
   rw[O,b6]
   refine⟨by omega,by omega,aa ?_⟩
   simp only[lK0,lN0,lL1,lC0]
   have b7:((fs++ [o]).take d++(((fs++ [o]).drop d).take (i - d)).map (·.setE p.lineno)++(fs++ [o]).drop i)[i]? =some (fs++ [o])[i]:=by
    rw[lH0 (by omega),U,lW1,H];rfl
   refine Sat.st h (k:=0) rfl (by rw[lA0,aR,lA0,U,H,lF0];omega) trivial rfl λw h=>?_
   rw[uw b7] at h
   have b8:((fs++ [o]).take d++(((fs++ [o]).drop d).take (i - d)).map (·.setE p.lineno)++(fs++ [o]).drop i).set i ((fs++ [o])[i].setE p.lineno)=(fs++ [o]).take d++(((fs++ [o]).drop d).take (i+1 - d)).map (·.setE p.lineno)++(fs++ [o]).drop (i+1):=by
    rw[lO1 _ _ (by omega),U,lW1,H,List.set_cons_zero]
    have d1:i - d<((fs++ [o]).drop d).length:=by rw[lN1];omega
    have e8:((fs++ [o]).drop d).take (i+1 - d)=((fs++ [o]).drop d).take (i - d)++ [(fs++ [o])[i]]:=by
     rw[show i+1 - d=i - d+1 by omega,lH1 d1]
     congr 2
     rw[List.getElem_drop]
     congr 1
     omega
    rw[e8,lV0]
    simp
   rw[b8] at h
   rw[aN (by omega)]
   exact e7 (i+1) w (by omega) (by omega) h
 have e6:(fs++ [o]).take d++(((fs++ [o]).drop d).take (d - d)).map (·.setE p.lineno)++(fs++ [o]).drop d=fs++ [o]:=by rw[lW1];simp
 refine c4 (fs.length+1 - d) d w (by omega) (lZ0 _) ?_
 rw[e6]
 exact h.re

theorem sub_self (s:List UInt8)(i:Nat):sub s i i= []:=lE2 (by rw[lF1];omega)

def mark1 (x:Bool):List UInt8:=if x then [45,32] else [62,32]
def marks (s:List Bool):List UInt8:=s.flatMap mark1

theorem sa {b d I:Nat}{p:PS}{fs:List OB}{o:OB}{M:List ai}{l:Ln}(h:Sat σ w (p.at b::M++L))(hs:Stk p (fs++ [o]) M)(H:o.bd= .iface ar (kT (kE I)))(hd:p.depth=d)(U:d+1=fs.length)(E:l.cont)(W: ∀w,Sat σ w (p.at b::M++L)->R (hQ (.tuple #[l.val,hV false])) w):callE P ci #[kT (kE b),l.val] R w:=by
 have V:=hs.2.2
 rw[lA0,lE0] at V
 refine bK.sound ?_
 refine Sat.bx h λb1 w h=>?_
 refine Sat.bx h λy w h=>?_
 refine Sat.bx h λg w h=>?_
 repeat (first|refine aa ?_|refine h.tk λw h=>?_|refine⟨_,h.ldA,?_⟩|refine⟨_,_,_,h.ldA,?_⟩|refine h.stA 0 λw h=>?_|refine h.stA 1 λw h=>?_|refine h.stA 2 λw h=>?_|refine h.stA 3 λw h=>?_|refine h.stA 4 λw h=>?_|refine h.stA 5 λw h=>?_|refine h.stA 6 λw h=>?_|refine h.bx λb0 w h=>?_)
 have h:Sat σ _ (l.at b0::(g,cel [hY 0] bg)::zLn y::l.at b1::(p.at b::M++L)):=h
 have h:Sat σ _ (p.at b::M++(l.at b0::(g,cel [hY 0] bg)::zLn y::l.at b1::L)):=h.re
 refine lV (d:=d) h hs hd (by omega) λw h=>?_
 have O:(fs++ [o])[d+1]? =some o:=by rw[U];simp
 rw[O]
 dsimp only
 rw[H]
 refine⟨_,rfl,?_⟩
 refine qB (l:=fs) h hs (o:=o) H (λw h=>?_) (λ_=>⟨_,rfl⟩)
 rw[if_pos rfl]
 refine⟨_,rfl,_,w,qW I _ _ w,ag rfl ?_⟩
 have h:Sat σ _ (l.at b0::(g,cel [hY 0] bg)::(zLn y::l.at b1::(p.at b::M++L))):=h.re
 refine ut h E.plain.ok E.dash E.eq λw h=>⟨_,rfl,ae rfl ?_⟩
 have h:Sat σ _ (zLn y::l.at b1::(g,cel [hY 0] bg)::l.at b0::(p.at b::M++L)):=h.re
 repeat (first|refine aa ?_|refine h.tk λw h=>?_|refine⟨_,h.ldA,?_⟩|refine⟨_,_,_,h.ldA,?_⟩|refine h.stA 0 λw h=>?_|refine h.stA 1 λw h=>?_|refine h.stA 2 λw h=>?_|refine h.stA 3 λw h=>?_|refine h.stA 4 λw h=>?_|refine h.stA 5 λw h=>?_|refine h.stA 6 λw h=>?_|refine h.bx λb0 w h=>?_)
 have h:Sat σ _ (l.at y::l.at b1::(g,cel [hY 0] bg)::l.at b0::(p.at b::M++L)):=h
 exact W _ h.tail.tail.tail.tail
theorem Al {b d b8:Nat}{p:PS}{fs:List OB}{o H:OB}{M:List ai}{l:Ln}{td:TypeId}{vd:Value}(hs:Stk p (fs++ [o]) M)(I:o.bd= .iface ar (kT (kE b8)))(hd:p.depth=d)(b9:d<1000000)(a7:d<fs.length)(b3:fs[d]? =some H)(V:H.bd= .iface td vd)(a6:td≠az)(W: ∀o1,fs[d+1]? =some o1-> ∃t v,o1.bd= .iface t v/\t≠ar)(O:l.cont): ∀f∈newsF,AL b p M l f:=by
 have b4:=hs.2.2
 rw[lA0,lE0] at b4
 intro f U
 have g:=O.plain
 simp only[newsF,lW0,lD1,or_false] at U
 intro σ w L R h y
 rcases U with rfl|rfl|rfl|rfl|rfl|rfl|rfl|rfl
 ·exact iu (x:= .nilIface) h g.ok g.quote y
 ·exact ly h g.ok g.heading y
 ·by_cases b7:d+1=fs.length
  ·exact sa h hs I hd b7 O y
  ·have E:d+1<fs.length:=by omega
   obtain⟨t,v,b5,b6⟩:=W _ (lI0 E)
   exact kI (ob:=fs) (o:=o) (o1:=fs[d+1]) (t1:=t) (v1:=v) h hs hd (by omega) (by rw[lM0 E];exact lI0 E) b5 b6 I (λ_=>⟨_,rfl⟩) g.ok y
 ·exact rA h g.ok g.hr y
 ·exact g.bullet b d p (fs++ [o]) H M td vd hs hd (by rw[lM0 a7];exact b3) V a6 σ w L R h y
 ·exact nH h g.ok O.lt y
 ·exact sd h g.ok g.fence y
 ·exact wh (ob:=fs) h hs (o:=o) I (λ_=>⟨_,rfl⟩) g.ok g.pre y
def Bk.sim (f g:Bk):Prop:=(∃m,g.ob=f.ob.setE m)/\g.own=f.own/\g.D=f.D/\g.IM=f.IM/\g.ob.e<1000000000
inductive Sims:List Bk->List Bk->Prop where
 |nil:Sims [] []
 |cons {f f':Bk} {fs fs':List Bk}:f.sim f'->Sims fs fs'->Sims (f::fs) (f'::fs')
theorem Bk.sim.rfl' {f:Bk}(h:f.ob.e<1000000000):f.sim f:=⟨⟨f.ob.e,rfl⟩,rfl,rfl,rfl,h⟩
theorem Bk.sim.trans {f y k:Bk}(E:f.sim y)(H:y.sim k):f.sim k:=by
 obtain⟨⟨W,a1⟩,a2,a3,a4,a5⟩:=E
 obtain⟨⟨I,b1⟩,b2,V,O,U⟩:=H
 exact⟨⟨I,by rw[b1,a1];rfl⟩,b2.trans a2,V.trans a3,O.trans a4,U⟩
theorem Sims.refl: ∀ {fs:List Bk},(∀f∈fs,f.ob.e<1000000000)->Sims fs fs
 | [],_=> .nil
 |f::fs,h=> .cons (Bk.sim.rfl' (h f (by simp))) (Sims.refl λE y=>h E (by simp[y]))
theorem Sims.trans {fs gs g:List Bk}(y:Sims fs gs):Sims gs g->Sims fs g:=by
 induction y generalizing g with
 |nil=>exact λh=>h
 |cons a _ E=>
  intro H
  cases H with
  |cons b d=>exact .cons (a.trans b) (E d)
theorem Sims.len {fs gs:List Bk}(h:Sims fs gs):gs.length=fs.length:=by
 induction h with
 |nil=>rfl
 |cons _ _ g=>simp[g]
theorem Sims.append {fs gs g y:List Bk}(h:Sims fs gs)(H:Sims g y):Sims (fs++g) (gs++y):=by
 induction h with
 |nil=>exact H
 |cons a _ E=>exact .cons a E
theorem Sims.mem {fs gs:List Bk}(h:Sims fs gs):aM gs=aM fs/\txF gs=txF fs:=by
 induction h with
 |nil=>exact⟨rfl,rfl⟩
 | @cons f f' fs fs' a _ ih=>
  obtain⟨_,a2,a3,a4,_⟩:=a
  refine⟨?_,?_⟩
  ·have e: ∀(y:Bk) (l:List Bk),aM (y::l)=y.mem++aM l:=λy l=>by simp[aM]
   rw[e,e,ih.1,Bk.mem,Bk.mem,a2,a3,a4]
  ·have e: ∀(y:Bk) (l:List Bk),txF (y::l)=cl y.D++txF l:=λy l=>by simp[txF]
   rw[e,e,ih.2,a3]
theorem Bk.sim.ok {f g:Bk}(h:f.sim g)(E:f.ok):g.ok:=by
 obtain⟨⟨m,a1⟩,a2,a3,a4,a5⟩:=h
 obtain⟨o1,H,y,I⟩:=E
 refine⟨?_,by rw[a3];exact H,by rw[a1];exact y,a5⟩
 rw[a1,a3,a4];exact o1
theorem Sims.ok {fs gs:List Bk}(h:Sims fs gs)(E: ∀f∈fs,f.ok): ∀f∈gs,f.ok:=by
 induction h with
 |nil=>simp
 |cons a _ H=>
  intro O y
  rcases lW0.1 y with rfl|y
  ·exact a.ok (E _ (by simp))
  ·exact H (λf I=>E f (by simp[I])) O y
theorem Bk.sim.quote {f g:Bk}(h:f.sim g)(E:f.isQuote):g.isQuote:=by
 obtain⟨⟨m,a1⟩,a2,_⟩:=h
 obtain⟨I,y,H⟩:=E
 exact⟨I,by rw[a1];exact y,a2.trans H⟩
theorem Bk.sim.list {f g:Bk}{lb:Nat}{bul num:Int}{it:OA}{td:Value}(h:f.sim g)(E:f.isListT lb bul num it td):g.isListT lb bul num it td:=by
 obtain⟨⟨m,a1⟩,a2,_⟩:=h
 obtain⟨y,H⟩:=E
 exact⟨by rw[a1];exact y,a2.trans H⟩
theorem Bk.sim.itemOf {f g:Bk}{lb wd:Nat}{it:OA}{hv:Bool}(h:f.sim g)(E:ItemOf it f lb wd hv):ItemOf it g lb wd hv:=by
 obtain⟨⟨m,a1⟩,a2,_⟩:=h
 obtain⟨ib,y,H,I⟩:=E
 exact⟨ib,y,by rw[a1];exact H,a2.trans I⟩

theorem mi:mQ P gF "pub-paratext/pub/rscmarkdown.extend" gm=true:=by kernel_rfl
theorem rS {c4 c8:OA}{l l2:Ln}{ok:Bool}(h:Sat σ w L)(c9:l.ok)(E:match l.quote with|some b7=>l2=b7/\ok=true|none=>l2=l/\ok=false)(c5: ∀w,Sat σ w L->R (hQ (.tuple #[l2.val,hV ok])) w):
 callE P gm #[kT c4,kT c8,l.val] R w:=by
 refine gt.sound ?_
 refine Sat.bx h λb1 w h=>?_
 refine Sat.bx h λg w h=>?_
 have h:Sat σ w (zLn g::l.at b1::L):=h
 refine⟨_,h.ldA,?_⟩
 refine⟨_,h.ldA,?_⟩
 refine⟨_,h.ldA,?_⟩
 refine⟨_,h.ldA,?_⟩
 refine⟨_,h.ldA,?_⟩
 have fin: ∀w,Sat σ w (zLn g::l.at b1::L)-> ∃(H:Int),∃(V:Int),∃(I:Int),∃(U:BA),∃(O:Int),∃(W:Bool),(hQ (.tuple #[l2.val,hV ok]))= hQ (.tuple #[.agg #[hY H,hY V,hY I,hX U,.int .u8 O],hV W])/\
  stV w (hZ g 0) (hY H) λc2=>stV c2 (hZ g 1) (hY V) λc3=>stV c3 (hZ g 2) (hY I) λb9=>stV b9 (hZ g 3) (hX U) λc1=>stV c1 (hZ g 4) (.int .u8 O) λy=>
  ∃(b4:Int),y.cell? (hZ g 0)=some (hY b4)/\ ∃(b5:Int),y.cell? (hZ g 1)=some (hY b5)/\ ∃(b6:Int),y.cell? (hZ g 2)=some (hY b6)/\ ∃(a6:BA),y.cell? (hZ g 3)=some (hX a6)/\ ∃(a7:Int),y.cell? (hZ g 4)=some (.int .u8 a7)/\
  R (hQ (.tuple #[.agg #[hY b4,hY b5,hY b6,hX a6,.int .u8 a7],hV W])) y:=by
  intro w h
  refine⟨_,_,_,_,_,_,rfl,?_⟩
  refine h.stA 0 λw h=>?_
  refine h.stA 0 λw h=>?_
  refine h.stA 0 λw h=>?_
  refine h.stA 0 λw h=>?_
  refine h.stA 0 λw h=>?_
  have h:Sat σ w (l2.at g::l.at b1::L):=h
  refine⟨_,h.ldA,?_⟩
  refine⟨_,h.ldA,?_⟩
  refine⟨_,h.ldA,?_⟩
  refine⟨_,h.ldA,?_⟩
  refine⟨_,h.ldA,?_⟩
  exact c5 w h.tail.tail
 refine mJ (l:=l) h c9 ?_
 cases b8:l.quote with
 |some b7=>
  rw[b8] at E
  obtain⟨rfl,rfl⟩:=E
  exact fin
 |none=>
  rw[b8] at E
  obtain⟨rfl,rfl⟩:=E
  exact fin
theorem wy {ib lb n:Nat}{q:OA}{l:Ln}(h:Sat σ w L)(y:l.ok)(hb:l.blank=false)(E:gh ib lb n true∈L)(H: ∀w,Sat σ w L->R (hQ (.tuple #[l.val,hV true])) w):
 callE P fc #[kT (kE ib),kT q,l.val] R w:=by
 obtain⟨A,B,rfl⟩:=lS3 E
 refine bZ.sound ?_
 refine Sat.bx h λb1 w h=>?_
 refine Sat.bx h λg w h=>?_
 have h:Sat σ w (zLn g::l.at b1::(A++gh ib lb n true::B)):=h
 refine dC h (.tail _ (.head _)) y λw h=>⟨_,rfl,?_⟩
 rw[hb]
 refine ae rfl ?_
 unfold bZ.k1
 refine dC h (.tail _ (.head _)) y λw h=>⟨_,rfl,?_⟩
 rw[hb]
 refine ae rfl ?_
 refine dC h (.tail _ (.head _)) y λw h=>⟨_,rfl,?_⟩
 rw[hb]
 refine ag rfl (aa ?_)
 have h:Sat σ w (gh ib lb n true::zLn g::l.at b1::(A++B)):=h.re
 refine Sat.st h (k:=0) rfl (by show 2<3;decide) trivial rfl λw h=>?_
 have h:Sat σ w (gh ib lb n true::zLn g::l.at b1::(A++B)):=h
 have h:Sat σ w (zLn g::l.at b1::(A++gh ib lb n true::B)):=h.re
 refine⟨_,h.ldA,?_⟩
 refine⟨_,h.ldA,?_⟩
 refine⟨_,h.ldA,?_⟩
 refine⟨_,h.ldA,?_⟩
 refine⟨_,h.ldA,?_⟩
 refine h.stA 0 λw h=>?_
 refine h.stA 0 λw h=>?_
 refine h.stA 0 λw h=>?_
 refine h.stA 0 λw h=>?_
 refine h.stA 0 λw h=>?_
 have h:Sat σ w (l.at g::l.at b1::(A++gh ib lb n true::B)):=h
 refine⟨_,h.ldA,?_⟩
 refine⟨_,h.ldA,?_⟩
 refine⟨_,h.ldA,?_⟩
 refine⟨_,h.ldA,?_⟩
 refine⟨_,h.ldA,?_⟩
 exact H w h.tail.tail

theorem uz {a:List Bk}: ∀ {c fs:List Bk},Sims (a++c) fs-> ∃y g,fs=y++g/\Sims a y/\Sims c g:=by
 induction a with
 |nil=>intro c fs h;exact⟨[],fs,rfl,.nil,h⟩
 |cons x a I=>
  intro c fs h
  cases h with
  |cons k E=>
   obtain⟨y,g,rfl,O,H⟩:=I E
   exact⟨_::y,g,rfl,.cons k O,H⟩
def nm (R:EP)(d0 c9:Bool)(c4 d1:Bool)(c5 c3:Bool)(c8 c2:Bool)(c1 b9:Bool)(e2:BA)(w:World):Prop:=
 box w #[hV d0,hV c9,hV c4,hV d1,hV c5,hV c3,hV c8,hV c2,hV c1,hV b9] fe λb1 e1=>
 box e1 (N16.C {}) ak λb6 g=>
 ∃b8,g.cell? (hZ b1 0)=some (hV b8)/\
 ∃a7,g.cell? (hZ b1 1)=some (hV a7)/\
 ∃b7,g.cell? (hZ b1 2)=some (hV b7)/\
 ∃b4,g.cell? (hZ b1 3)=some (hV b4)/\
 ∃b5,g.cell? (hZ b1 4)=some (hV b5)/\
 ∃I,g.cell? (hZ b1 5)=some (hV I)/\
 ∃W,g.cell? (hZ b1 6)=some (hV W)/\
 ∃U,g.cell? (hZ b1 7)=some (hV U)/\
 ∃E,g.cell? (hZ b1 8)=some (hV E)/\
 ∃y,g.cell? (hZ b1 9)=some (hV y)/\
 callE P l8 #[.agg #[hV b8,hV a7,hV b7,hV b4,hV b5,hV I,hV W,hV U,hV E,hV y]] (λe d2=> ∃a6,e= hQ (kT a6)/\
 callE P oA #[kT a6,hX e2] (λe e0=> ∃O,e= hQ (kT O)/\
 callE P bS #[.iface da (kT O)] (λe d4=>F0 e λd5=>
 st16 d4 b6 d5 λH=>
 ldB16 H b6 λd3=>
 R (hQ (d3.V)) H) e0) d2) g
theorem nm.sound {R x0_0 x0_1 x0_2 x0_3 x0_4 x0_5 x0_6 x0_7 x0_8 x0_9 x1 w}(h:nm R x0_0 x0_1 x0_2 x0_3 x0_4 x0_5 x0_6 x0_7 x0_8 x0_9 x1 w):callE P mZ #[.agg #[hV x0_0,hV x0_1,hV x0_2,hV x0_3,hV x0_4,hV x0_5,hV x0_6,hV x0_7,hV x0_8,hV x0_9],hX x1] R w:=
 cD Tryz.func14 Tryz.call14 h
def sG (R:EP)(y:OA)(w:World):Prop:=
 aA y λa1=>
 ∃g,w.cell? (a1.add 3)=some (hY g)/\
 R (hQ (hY g)) w
theorem sG.sound {R x0 w}(h:sG R x0 w):callE P wJ #[kT x0] R w:=
 cD Tryz.func49 Tryz.call49 h
namespace cj
def bl1 (R:EP)(Xa:Nat->Nat->Value->WP)(W a6:Nat)(U:Value)(w:World):Prop:=
 (∃g,(Instr.next U false ty_).run P w= .ok (.tuple #[hV false]) g/\
 ∃E H y,g.cell? (hZ a6 15)=some (hT E H y)/\
 callE P dh #[hT E H y,.func (.func tu) #[] #[]] (λe O=>e= hQ (.tuple #[])/\
 ldB16 O a6 λb4=>
 st16 O W b4 λI=>
 ldB16 I W λb5=>
 R (hQ (b5.V)) I) g)\/
 (∃(a7:Value),∃(b3:Value),∃b6,(Instr.next U false ty_).run P w= .ok (.tuple #[hV true,a7,b3]) b6/\
 False)
def l1 (R:EP)(E y:Nat)(g:Value)(w:World):Prop:=
 ∀X:Nat->Nat->Value->WP,(∀E y g w,bl1 R X E y g w->X E y g w)->X E y g w
def k1 (R:EP)(g y:Nat)(b5:OA)(U:Bool)(w:World):Prop:=
 br U
 (aA b5 λa7=>
 ∃I,w.cell? (a7.add 3)=some (hY I)/\
 stV w (hZ y 3) (hY I) λO=>
 ldB16 O y λW=>
 st16 O g W λE=>
 ldB16 E g λb4=>
 R (hQ (b4.V)) E)
 (ldB16 w y λb3=>
 st16 w g b3 λH=>
 ldB16 H g λa6=>
 R (hQ (a6.V)) H)
end cj
def cj (R:EP)(y:Value)(w:World):Prop:=
 box w (N16.C {}) ak λb1 H9=>
 cY P (callMethod y "Pos" #[]) (λe H8=> ∃t2 r5,e= hQ (.agg #[hY t2,hY r5])/\
 box H8 #[hY 0,hY 0] aF λd1 H7=>
 stV H7 (hZ d1 0) (hY t2) λI0=>
 stV I0 (hZ d1 1) (hY r5) λe5=>
 ∃v4,e5.cell? (hZ d1 0)=some (hY v4)/\
 ∃v0,e5.cell? (hZ d1 1)=some (hY v0)/\
 box e5 (N16.C {}) ak λg H1=>
 st16 H1 g {a8:=v4,a9:=v0} λG8=>
 ∃d3 h2 d0,(Instr.typeAssert y aO da true).run P G8= .ok (.tuple #[kT d3,hV h2]) d0/\
 br h2
 (aA d3 λH6=>
 ∃r3 n1 t6,d0.cell? (H6.add 2)=some (hT r3 n1 t6)/\
 callE P gL #[hT r3 n1 t6] (λe G6=> ∃s4 r8 o6,e= hQ (hT s4 r8 o6)/\
 stV G6 (hZ g 0) (hY 1) λG7=>
 stV G7 (hZ g 7) (hT s4 r8 o6) λu1=>
 aA d3 λH3=>
 ∃(u2:Option Nat),u1.cell? (H3.add 3)=some (.map u2)/\
 ∃(u0:Value),∃v3,(Instr.range gQ (.map u2)).run P u1= .ok u0 v3/\
 cj.l1 R b1 g u0 v3) d0)
 (∃m2 h4 c9,(Instr.typeAssert y aO j2 true).run P d0= .ok (.tuple #[kT m2,hV h4]) c9/\
 br h4
 (aA m2 λH4=>
 ∃s7 q8 p5,c9.cell? (H4.add 2)=some (hT s7 q8 p5)/\
 callE P gL #[hT s7 q8 p5] (λe H5=> ∃s1 r6 t5,e= hQ (hT s1 r6 t5)/\
 stV H5 (hZ g 0) (hY 2) λG9=>
 stV G9 (hZ g 7) (hT s1 r6 t5) λu8=>
 ldB16 u8 g λH2=>
 st16 u8 b1 H2 λv2=>
 ldB16 v2 b1 λH0=>
 R (hQ (H0.V)) v2) c9)
 (∃E n0 e4,(Instr.typeAssert y aO dl true).run P c9= .ok (.tuple #[kT E,hV n0]) e4/\
 br n0
 (tk e4 λO=>
 aA E λb9=>
 aA E λb4=>
 aA E λx5=>
 ∃p3,O.cell? (b9.add 2)=some (.int .i32 p3)/\
 ∃t3,O.cell? (b4.add 4)=some (hV t3)/\
 ∃h0 l5 j1,O.cell? (x5.add 5)=some (hT h0 l5 j1)/\
 callE P gL #[hT h0 l5 j1] (λe W=> ∃i0 j0 h9,e= hQ (hT i0 j0 h9)/\
 SameC O W (b4.add 4) 1/\
 SameC O W (b9.add 2) 1/\
 stV W (hZ g 0) (hY 3) λb3=>
 SameC W b3 (b4.add 4) 1/\
 SameC W b3 (b9.add 2) 1/\
 stV b3 (hZ g 3) (hY (-1)) λc8=>
 SameC b3 c8 (b4.add 4) 1/\
 SameC b3 c8 (b9.add 2) 1/\
 stV c8 (hZ g 4) (hX (Utf8.encode p3)) λo0=>
 SameC c8 o0 (b4.add 4) 1/\
 stV o0 (hZ g 5) (hV t3) λv6=>
 stV v6 (hZ g 7) (hT i0 j0 h9) λc5=>
 aA E λD2=>
 ∃o3,c5.cell? (D2.add 2)=some (.int .i32 o3)/\
 br (o3==46)
 (cj.k1 R b1 g E true c5)
 (aA E λw9=>
 ∃s5,c5.cell? (w9.add 2)=some (.int .i32 s5)/\
 cj.k1 R b1 g E (s5==41) c5)) O)
 (∃d2 e9 d4,(Instr.typeAssert y aO fI true).run P e4= .ok (.tuple #[kT d2,hV e9]) d4/\
 br e9
 (tk d4 λe3=>
 aA d2 λs9=>
 ∃i2 h3 g3,e3.cell? (s9.add 2)=some (hT i2 h3 g3)/\
 callE P wJ #[kT d2] (λe r1=> ∃q2,e= hQ (hY q2)/\
 SameC e3 r1 (s9.add 2) 1/\
 callE P gL #[hT i2 h3 g3] (λe w3=> ∃m1 f6 h6,e= hQ (hT m1 f6 h6)/\
 stV w3 (hZ g 0) (hY 4) λy3=>
 stV y3 (hZ g 11) (hY q2) λv7=>
 stV v7 (hZ g 7) (hT m1 f6 h6) λo5=>
 ldB16 o5 g λx3=>
 st16 o5 b1 x3 λp4=>
 ldB16 p4 b1 λy1=>
 R (hQ (y1.V)) p4) r1) e3)
 (∃b7 f1 d5,(Instr.typeAssert y aO gi true).run P d4= .ok (.tuple #[kT b7,hV f1]) d5/\
 br f1
 (tk d5 λH=>
 aA b7 λe2=>
 aA b7 λc4=>
 aA b7 λx6=>
 ∃s8,H.cell? (e2.add 2)=some (hY s8)/\
 ∃n2,H.cell? (c4.add 4)=some (hX n2)/\
 ∃n3,H.cell? (x6.add 3)=some (kT n3)/\
 aA n3 λz2=>
 ∃k0 g6 g0,H.cell? (z2.add 2)=some (hT k0 g6 g0)/\
 callE P dw #[hT k0 g6 g0] (λe U=> ∃h1 h5 g2,e= hQ (hT h1 h5 g2)/\
 SameC H U (c4.add 4) 1/\
 SameC H U (e2.add 2) 1/\
 stV U (hZ g 0) (hY 5) λc2=>
 SameC U c2 (c4.add 4) 1/\
 SameC U c2 (e2.add 2) 1/\
 stV c2 (hZ g 3) (hY s8) λq4=>
 SameC c2 q4 (c4.add 4) 1/\
 stV q4 (hZ g 2) (hX n2) λG3=>
 stV G3 (hZ g 7) (hT h1 h5 g2) λq0=>
 ldB16 q0 g λz4=>
 st16 q0 b1 z4 λq3=>
 ldB16 q3 b1 λG1=>
 R (hQ (G1.V)) q3) H)
 (∃f5 e8 a6,(Instr.typeAssert y aO bB true).run P d5= .ok (.tuple #[kT f5,hV e8]) a6/\
 br e8
 (aA f5 λG2=>
 ∃p1,a6.cell? (G2.add 2)=some (kT p1)/\
 aA p1 λx9=>
 ∃i8 m8 m6,a6.cell? (x9.add 2)=some (hT i8 m8 m6)/\
 callE P dw #[hT i8 m8 m6] (λe x7=> ∃g5 m9 m4,e= hQ (hT g5 m9 m4)/\
 stV x7 (hZ g 0) (hY 6) λy5=>
 stV y5 (hZ g 7) (hT g5 m9 m4) λt4=>
 ldB16 t4 g λx4=>
 st16 t4 b1 x4 λq5=>
 ldB16 q5 b1 λx8=>
 R (hQ (x8.V)) q5) a6)
 (∃f3 f0 b8,(Instr.typeAssert y aO dU true).run P a6= .ok (.tuple #[kT f3,hV f0]) b8/\
 br f0
 (aA f3 λz3=>
 ∃h7 m5 g1,b8.cell? (z3.add 2)=some (hT h7 m5 g1)/\
 callE P dw #[hT h7 m5 g1] (λe D3=> ∃g7 g4 i1,e= hQ (hT g7 g4 i1)/\
 stV D3 (hZ g 0) (hY 6) λw1=>
 stV w1 (hZ g 12) (hV true) λz1=>
 stV z1 (hZ g 7) (hT g7 g4 i1) λr9=>
 ldB16 r9 g λD1=>
 st16 r9 b1 D1 λr7=>
 ldB16 r7 b1 λx2=>
 R (hQ (x2.V)) r7) b8)
 (∃b6 f4 e1,(Instr.typeAssert y aO cJ true).run P b8= .ok (.tuple #[kT b6,hV f4]) e1/\
 br f4
 (tk e1 λI=>
 aA b6 λe0=>
 aA b6 λc3=>
 aA b6 λG4=>
 ∃q1,I.cell? (e0.add 3)=some (hX q1)/\
 ∃t9,I.cell? (c3.add 2)=some (hX t9)/\
 ∃h8 i3 m3,I.cell? (G4.add 4)=some (hT h8 i3 m3)/\
 callE P mY #[hT h8 i3 m3] (λe a7=> ∃r4,e= hQ (hX r4)/\
 SameC I a7 (c3.add 2) 1/\
 SameC I a7 (e0.add 3) 1/\
 stV a7 (hZ g 0) (hY 7) λc1=>
 SameC a7 c1 (c3.add 2) 1/\
 SameC a7 c1 (e0.add 3) 1/\
 stV c1 (hZ g 2) (hX q1) λt8=>
 SameC c1 t8 (c3.add 2) 1/\
 stV t8 (hZ g 10) (hX t9) λG5=>
 stV G5 (hZ g 1) (hX r4) λt0=>
 ldB16 t0 g λw5=>
 st16 t0 b1 w5 λs2=>
 ldB16 s2 b1 λy2=>
 R (hQ (y2.V)) s2) I)
 (∃v5 e6 s3,(Instr.typeAssert y aO sY true).run P e1= .ok (.tuple #[kT v5,hV e6]) s3/\
 br e6
 (False)
 (∃f2 e7 s6,(Instr.typeAssert y aO cU true).run P s3= .ok (.tuple #[kT f2,hV e7]) s6/\
 br e7
 (callE P B8 #[kT f2] (λe y4=> ∃t7,e= hQ (hX t7)/\
 stV y4 (hZ g 0) (hY 9) λv8=>
 stV v8 (hZ g 10) (hX t7) λo4=>
 ldB16 o4 g λx1=>
 st16 o4 b1 x1 λo2=>
 ldB16 o2 b1 λG0=>
 R (hQ (G0.V)) o2) s6)
 (False))))))))))) H9
theorem cj.sound {R x0 w}(h:cj R x0 w):callE P bS #[x0] R w:=
 aH [(11095,.lp [46,86,905] (cj.bl1 R) λXa=> [(9,.no),(27,.dr (rpN [0,6,9,12,15,21,24,27,33,36,39,4,19,31,43,47,48,53,56,57,62]))]),(22487,.dr (rpN [0,3,6,15,18,21,27,30,33,42,10,12,25,37,41,47,48,53,54,59,60,65,66,71])),(63447,.mk [46,86,182,2340] (cj.k1 R)),(57303,.dr (rpN [0,6,9,12,21,16,5,20,26,27,32,33,38])),(229335,.dr (rpN [0,3,6,12,15,18,24,27,30,48,10,22,34,36,39,43,47,53,54,59,60,65,66,71])),(14680023,.dr (rpN [0,3,6,12,15,18,24,27,30,39,10,22,34,38,44,45,50,51,56,57,62])),(25165783,.no),(134217687,.no)] Tryz.func32 Tryz.call32 h
namespace gy
def bl1 (R:EP)(Xa:Nat->OA->Nat->Nat->Int->Int->WP)(y:Nat)(E:OA)(H a7:Nat)(I g:Int)(w:World):Prop:=
 br (decide (g<I))
 (0<=g/\g<(H:Int)/\
 aA E λa3=>
 ∃U,w.cell? (a3.add (Int.toNat g*1))=some (hX U)/\
 callE P bv #[kT (kE y),hX U] (λe b4=> ∃W,∃(V:Value),e= hQ (.tuple #[hY W,V])/\
 callE P bU #[kT (kE y),.int .u8 10] (λe b3=> ∃(b5:Value),e= hQ b5/\
 Xa y E H a7 I (i64.wrap (g+1)) b3) b4) w)
 (callE P dm #[kT (kE y)] (λe a6=> ∃O,e= hQ (hX O)/\
 R (hQ (hX O)) a6) w)
def l1 (R:EP)(H:Nat)(g:OA)(y E:Nat)(I O:Int)(w:World):Prop:=
 ∀X:Nat->OA->Nat->Nat->Int->Int->WP,(∀H g y E I O w,bl1 R X H g y E I O w->X H g y E I O w)->X H g y E I O w
end gy
def gy (R:EP)(E:OA)(g y:Nat)(w:World):Prop:=
 box w #[kT none,hT none 0 0] cr λb1 H=>
 gy.l1 R b1 E g y (g:Int) 0 H
theorem gy.sound {R x0q x0n x0c w}(h:gy R x0q x0n x0c w):callE P mY #[hT x0q x0n x0c] R w:=
 aH [(43,.lp [66,123,147,167] (gy.bl1 R) λXa=> [])] Tryz.func51 Tryz.call51 h
def kv (R:EP)(y:Int)(w:World):Prop:=
 callE P lH #[.int .u64 y] (λe E=> ∃g,e= hQ (hY g)/\
 R (hQ (hY g)) E) w
theorem kv.sound {R x0 w}(h:kv R x0 w):callE P ko #[.int .u64 x0] R w:=
 cD Tryz.func70 Tryz.call70 h
namespace cB
def k3 (R:EP)(g y:Int)(w:World):Prop:=
 0<=(IntKind.u8.wrap g)/\(IntKind.u8.wrap g)<((hP #[0,1,2,2,3,3,3,3,4,4,4,4,4,4,4,4,5,5,5,5,5,5,5,5,5,5,5,5,5,5,5,5,6,6,6,6,6,6,6,6,6,6,6,6,6,6,6,6,6,6,6,6,6,6,6,6,6,6,6,6,6,6,6,6,7,7,7,7,7,7,7,7,7,7,7,7,7,7,7,7,7,7,7,7,7,7,7,7,7,7,7,7,7,7,7,7,7,7,7,7,7,7,7,7,7,7,7,7,7,7,7,7,7,7,7,7,7,7,7,7,7,7,7,7,7,7,7,7,8,8,8,8,8,8,8,8,8,8,8,8,8,8,8,8,8,8,8,8,8,8,8,8,8,8,8,8,8,8,8,8,8,8,8,8,8,8,8,8,8,8,8,8,8,8,8,8,8,8,8,8,8,8,8,8,8,8,8,8,8,8,8,8,8,8,8,8,8,8,8,8,8,8,8,8,8,8,8,8,8,8,8,8,8,8,8,8,8,8,8,8,8,8,8,8,8,8,8,8,8,8,8,8,8,8,8,8,8,8,8,8,8,8,8,8,8,8,8,8,8,8,8,8,8,8,8,8]).size:Int)/\
 R (hQ (hY (i64.wrap (y+(i64.wrap (bt (hP #[0,1,2,2,3,3,3,3,4,4,4,4,4,4,4,4,5,5,5,5,5,5,5,5,5,5,5,5,5,5,5,5,6,6,6,6,6,6,6,6,6,6,6,6,6,6,6,6,6,6,6,6,6,6,6,6,6,6,6,6,6,6,6,6,7,7,7,7,7,7,7,7,7,7,7,7,7,7,7,7,7,7,7,7,7,7,7,7,7,7,7,7,7,7,7,7,7,7,7,7,7,7,7,7,7,7,7,7,7,7,7,7,7,7,7,7,7,7,7,7,7,7,7,7,7,7,7,7,8,8,8,8,8,8,8,8,8,8,8,8,8,8,8,8,8,8,8,8,8,8,8,8,8,8,8,8,8,8,8,8,8,8,8,8,8,8,8,8,8,8,8,8,8,8,8,8,8,8,8,8,8,8,8,8,8,8,8,8,8,8,8,8,8,8,8,8,8,8,8,8,8,8,8,8,8,8,8,8,8,8,8,8,8,8,8,8,8,8,8,8,8,8,8,8,8,8,8,8,8,8,8,8,8,8,8,8,8,8,8,8,8,8,8,8,8,8,8,8,8,8,8,8,8,8,8,8]) (IntKind.u8.wrap g))))))) w
def k2 (R:EP)(g y:Int)(w:World):Prop:=
 br (decide (g >= 256))
 (False)
 (k3 R g y w)
def k1 (R:EP)(g y:Int)(w:World):Prop:=
 br (decide (g >= 65536))
 (False)
 (k2 R g y w)
end cB
def cB (R:EP)(g:Int)(w:World):Prop:=
 br (decide (g >= 4294967296))
 (False)
 (cB.k1 R g 0 w)
theorem cB.sound {R x0 w}(h:cB R x0 w):callE P lH #[.int .u64 x0] R w:=
 aH [(21,.no),(7,.mk [10,47] (cB.k1 R)),(43,.no),(15,.mk [10,47] (cB.k2 R)),(87,.no),(31,.mk [10,47] (cB.k3 R))] Tryz.func100 Tryz.call100 h
def di (R:EP)(H:OA)(g E:Nat)(O:Value)(w:World):Prop:=
 callE P ko #[.int .u64 (IntKind.u64.wrap (g:Int))] (λe U=> ∃y,e= hQ (hY y)/\
 callE P eW #[hT H g E,hY 0,hY (g:Int),hY y,O] (λe I=>e= hQ (.tuple #[])/\
 R (hQ (.tuple #[])) I) U) w
theorem di.sound {R x0q x0n x0c x1 w}(h:di R x0q x0n x0c x1 w):callE P dh #[hT x0q x0n x0c,x1] R w:=
 cD Tryz.func46 Tryz.call46 h
namespace ba
def bl1 (R:EP)(Xa:OA->Nat->Nat->Int->Int->Value->Int->WP)(I:OA)(E H:Nat)(U g:Int)(O:Value)(y:Int)(w:World):Prop:=
 br (decide (y<g))
 (False)
 (R (hQ (.tuple #[])) w)
def l1 (R:EP)(E:OA)(g y:Nat)(I O:Int)(H:Value)(U:Int)(w:World):Prop:=
 ∀X:OA->Nat->Nat->Int->Int->Value->Int->WP,(∀E g y I O H U w,bl1 R X E g y I O H U w->X E g y I O H U w)->X E g y I O H U w
end ba
def ba (R:EP)(H:OA)(y E:Nat)(g O:Int)(I:Value)(w:World):Prop:=
 ba.l1 R H y E g O I (i64.wrap (g+1)) w
theorem ba.sound {R x0q x0n x0c x1 x2 x3 w}(h:ba R x0q x0n x0c x1 x2 x3 w):callE P dY #[hT x0q x0n x0c,hY x1,hY x2,x3] R w:=
 aH [(5,.lp [3,27,47,65,167] (ba.bl1 R) λXa=> [(10,.no),(41,.no)])] Tryz.func91 Tryz.call91 h
namespace bA
def bl1 (R:EP)(Xa:OA->Nat->Nat->Int->Int->Int->Value->Bool->Bool->WP)(I:OA)(E H:Nat)(g y a6:Int)(O:Value)(V W:Bool)(w:World):Prop:=
 br (decide ((i64.wrap (y - g))<=12))
 (callE P dY #[hT I E H,hY g,hY y,O] (λe U=>e= hQ (.tuple #[])/\
 R (hQ (.tuple #[])) U) w)
 (False)
def l1 (R:EP)(E:OA)(g y:Nat)(U V O:Int)(W:Value)(H I:Bool)(w:World):Prop:=
 ∀X:OA->Nat->Nat->Int->Int->Int->Value->Bool->Bool->WP,(∀E g y U V O W H I w,bl1 R X E g y U V O W H I w->X E g y U V O W H I w)->X E g y U V O W H I w
end bA
def bA (R:EP)(E:OA)(g y:Nat)(I O H:Int)(U:Value)(w:World):Prop:=
 bA.l1 R E g y I O H U true true w
theorem bA.sound {R x0q x0n x0c x1 x2 x3 x4 w}(h:bA R x0q x0n x0c x1 x2 x3 x4 w):callE P eW #[hT x0q x0n x0c,hY x1,hY x2,hY x3,x4] R w:=
 aH [(11,.lp [3,27,47,67,85,200,220] (bA.bl1 R) λXa=> [(58,.no),(86,.no),(118,.no),(174,.no),(238,.no),(62,.no)])] Tryz.func69 Tryz.call69 h
def gA (R:EP)(y:Value)(w:World):Prop:=
 callE P kj #[y] (λe E=> ∃g,e= hQ (kT g)/\
 R (hQ (kT g)) E) w
theorem gA.sound {R x0 w}(h:gA R x0 w):callE P wK #[x0] R w:=
 cD Tryz.func102 Tryz.call102 h
def dB (R:EP)(g:Value)(w:World):Prop:=
 box w (N16.C {}) ak λb1 G3=>
 callE P wK #[g] (λe G2=> ∃c1,e= hQ (kT c1)/\
 ∃v6 b9,(do eqGuard .neq bH (.tmp 19) (.const (kT none)) (kT c1) (kT none);binOp .neq bH (kT c1) (kT none)).run P G2= .ok (hV v6) b9/\
 br v6
 (aA c1 λG1=>
 ∃v5,b9.cell? G1=some (hX v5)/\
 st16 b9 b1 {a0:=20,a1:=v5} λv3=>
 ldB16 v3 b1 λD3=>
 R (hQ (D3.V)) v3)
 (∃n1 j1 b8,(Instr.typeAssert g aC kC true).run P b9= .ok (.tuple #[kT n1,hV j1]) b8/\
 br j1
 (aA n1 λG0=>
 ∃v2,b8.cell? G0=some (hX v2)/\
 st16 b8 b1 {a0:=20,a1:=v2,a13:=true} λv4=>
 ldB16 v4 b1 λD1=>
 R (hQ (D1.V)) v4)
 (∃v9 n0 e9,(Instr.typeAssert g aC jw true).run P b8= .ok (.tuple #[kT v9,hV n0]) e9/\
 br n0
 (st16 e9 b1 {a0:=21} λv0=>
 ldB16 v0 b1 λD2=>
 R (hQ (D2.V)) v0)
 (∃v7 g6 e5,(Instr.typeAssert g aC kV true).run P e9= .ok (.tuple #[kT v7,hV g6]) e5/\
 br g6
 (st16 e5 b1 {a0:=22} λr1=>
 ldB16 r1 b1 λw8=>
 R (hQ (w8.V)) r1)
 (∃g1 f0 b4,(Instr.typeAssert g aC oV true).run P e5= .ok (.tuple #[kT g1,hV f0]) b4/\
 br f0
 (aA g1 λw1=>
 ∃t3,b4.cell? w1=some (hX t3)/\
 st16 b4 b1 {a0:=23,a1:=t3} λt8=>
 ldB16 t8 b1 λx6=>
 R (hQ (x6.V)) t8)
 (∃c2 g4 e0,(Instr.typeAssert g aC iU true).run P b4= .ok (.tuple #[kT c2,hV g4]) e0/\
 br g4
 (tk e0 λb3=>
 aA c2 λr9=>
 aA c2 λx5=>
 ∃q1,b3.cell? r9=some (hX q1)/\
 ∃m9 i0 h3,b3.cell? (x5.add 1)=some (hT m9 i0 h3)/\
 callE P dw #[hT m9 i0 h3] (λe q0=> ∃i2 m2 h6,e= hQ (hT i2 m2 h6)/\
 SameC b3 q0 (r9) 1/\
 st16 q0 b1 {a0:=24,q7:=i2,n7:=m2,c7:=h6,a10:=q1} λu2=>
 ldB16 u2 b1 λy2=>
 R (hQ (y2.V)) u2) b3)
 (∃c5 f1 c9,(Instr.typeAssert g aC ft true).run P e0= .ok (.tuple #[kT c5,hV f1]) c9/\
 br f1
 (tk c9 λb7=>
 aA c5 λt4=>
 aA c5 λx9=>
 ∃q8,b7.cell? t4=some (hX q8)/\
 ∃i8 m6 h9,b7.cell? (x9.add 1)=some (hT i8 m6 h9)/\
 callE P dw #[hT i8 m6 h9] (λe q2=> ∃m4 m3 h7,e= hQ (hT m4 m3 h7)/\
 SameC b7 q2 (t4) 1/\
 st16 q2 b1 {a0:=25,q7:=m4,n7:=m3,c7:=h7,a10:=q8} λp4=>
 ldB16 p4 b1 λz4=>
 R (hQ (z4.V)) p4) b7)
 (∃c3 f6 d4,(Instr.typeAssert g aC uk true).run P c9= .ok (.tuple #[kT c3,hV f6]) d4/\
 br f6
 (tk d4 λa6=>
 aA c3 λq3=>
 aA c3 λx1=>
 ∃u1,a6.cell? q3=some (hX u1)/\
 ∃h1 l5 n2,a6.cell? (x1.add 1)=some (hT h1 l5 n2)/\
 callE P dw #[hT h1 l5 n2] (λe s9=> ∃i3 i1 h0,e= hQ (hT i3 i1 h0)/\
 SameC a6 s9 (q3) 1/\
 st16 s9 b1 {a0:=26,q7:=i3,n7:=i1,c7:=h0,a10:=u1} λr6=>
 ldB16 r6 b1 λx4=>
 R (hQ (x4.V)) r6) a6)
 (∃U g5 e6,(Instr.typeAssert g aC lu true).run P d4= .ok (.tuple #[kT U,hV g5]) e6/\
 br g5
 (tk e6 λy=>
 aA U λe7=>
 aA U λe3=>
 aA U λx2=>
 aA U λs6=>
 ∃t9,y.cell? (e7.add 1)=some (hX t9)/\
 ∃s2,y.cell? (e3.add 2)=some (hX s2)/\
 ∃t6,y.cell? (x2.add 3)=some (.int .u8 t6)/\
 ∃h4 o4 h8,y.cell? s6=some (hT h4 o4 h8)/\
 callE P l9 #[.int .u8 t6] (λe I=> ∃o6,e= hQ (hX o6)/\
 SameC y I (s6) 1/\
 SameC y I (e3.add 2) 1/\
 SameC y I (e7.add 1) 1/\
 callE P dw #[hT h4 o4 h8] (λe d3=> ∃m8 o3 j0,e= hQ (hT m8 o3 j0)/\
 SameC I d3 (e3.add 2) 1/\
 SameC I d3 (e7.add 1) 1/\
 st16 d3 b1 {a0:=27,a1:=t9,a2:=s2,q7:=m8,n7:=o3,c7:=j0,a10:=o6} λt2=>
 ldB16 t2 b1 λy3=>
 R (hQ (y3.V)) t2) I) y)
 (∃O f3 e8,(Instr.typeAssert g aC lw true).run P e6= .ok (.tuple #[kT O,hV f3]) e8/\
 br f3
 (tk e8 λE=>
 aA O λd0=>
 aA O λd1=>
 aA O λw7=>
 aA O λs4=>
 ∃r4,E.cell? (d0.add 1)=some (hX r4)/\
 ∃s7,E.cell? (d1.add 2)=some (hX s7)/\
 ∃r7,E.cell? (w7.add 3)=some (.int .u8 r7)/\
 ∃h2 o0 o2,E.cell? s4=some (hT h2 o0 o2)/\
 callE P l9 #[.int .u8 r7] (λe H=> ∃p3,e= hQ (hX p3)/\
 SameC E H (s4) 1/\
 SameC E H (d1.add 2) 1/\
 SameC E H (d0.add 1) 1/\
 callE P dw #[hT h2 o0 o2] (λe e4=> ∃m5 h5 k0,e= hQ (hT m5 h5 k0)/\
 SameC H e4 (d1.add 2) 1/\
 SameC H e4 (d0.add 1) 1/\
 st16 e4 b1 {a0:=28,a1:=r4,a2:=s7,q7:=m5,n7:=h5,c7:=k0,a10:=p3} λu0=>
 ldB16 u0 b1 λx8=>
 R (hQ (x8.V)) u0) H) E)
 (∃c8 g2 d2,(Instr.typeAssert g aC lP true).run P e8= .ok (.tuple #[kT c8,hV g2]) d2/\
 br g2
 (tk d2 λb6=>
 aA c8 λo5=>
 aA c8 λy4=>
 ∃s5,b6.cell? (o5.add 1)=some (hX s5)/\
 ∃q5,b6.cell? y4=some (hX q5)/\
 ∃m1 n3,∃g7 e1,(Instr.buildSlice bN 1 #[(0,(N16.V {a0:=20,a1:=q5}))]).run P b6= .ok (hT m1 n3 g7) e1/\
 SameC b6 e1 (o5.add 1) 1/\
 st16 e1 b1 {a0:=27,a1:=s5,q7:=m1,n7:=n3,c7:=g7,a14:=true} λt5=>
 ldB16 t5 b1 λy5=>
 R (hQ (y5.V)) t5)
 (∃g0 f4 b5,(Instr.typeAssert g aC mG true).run P d2= .ok (.tuple #[kT g0,hV f4]) b5/\
 br f4
 (aA g0 λz3=>
 ∃s1,b5.cell? z3=some (hX s1)/\
 st16 b5 b1 {a0:=29,a1:=s1} λp1=>
 ldB16 p1 b1 λx3=>
 R (hQ (x3.V)) p1)
 (∃f5 g3 W,(Instr.typeAssert g aC rK true).run P b5= .ok (.tuple #[kT f5,hV g3]) W/\
 br g3
 (aA f5 λy1=>
 ∃s3,W.cell? y1=some (hV s3)/\
 br s3
 (st16 W b1 {a0:=30,a3:=2} λt7=>
 ldB16 t7 b1 λw9=>
 R (hQ (w9.V)) t7)
 (st16 W b1 {a0:=30,a3:=1} λr8=>
 ldB16 r8 b1 λx7=>
 R (hQ (x7.V)) r8))
 (∃c4 f2 d5,(Instr.typeAssert g aC zG true).run P W= .ok (.tuple #[kT c4,hV f2]) d5/\
 br f2
 (tk d5 λe2=>
 aA c4 λz1=>
 aA c4 λw5=>
 ∃q4,e2.cell? (z1.add 1)=some (hX q4)/\
 ∃t0,e2.cell? w5=some (hX t0)/\
 st16 e2 b1 {a0:=31,a1:=q4,a10:=t0} λs8=>
 ldB16 s8 b1 λw3=>
 R (hQ (w3.V)) s8)
 (st16 d5 b1 {} λp5=>
 ldB16 p5 b1 λz2=>
 R (hQ (z2.V)) p5))))))))))))))) G3
theorem dB.sound {R x0 w}(h:dB R x0 w):callE P ej #[x0] R w:=
 aH [(180203,.dr (rpN [0,3,6,12,15,18,10,22,26,27,32])),(720875,.dr (rpN [0,3,6,12,15,18,10,22,26,27,32])),(2883563,.dr (rpN [0,3,6,12,15,18,10,22,26,27,32])),(11534315,.dr (rpN [0,3,6,12,15,18,24,27,30,39,42,45,10,22,34,49,38,53,54,59])),(46137323,.dr (rpN [0,3,6,12,15,18,24,27,30,39,42,45,10,22,34,49,38,53,54,59])),(184549355,.dr (rpN [0,3,6,12,15,18,10,22,24,29,30,35])),(11811160043,.dr (rpN [0,3,6,12,15,18,10,22,24,29]))] Tryz.func72 Tryz.call72 h
def oN (R:EP)(g:Int)(w:World):Prop:=
 br (g==0)
 (R (hQ (hX (hP #[]))) w)
 (False)
theorem oN.sound {R x0 w}(h:oN R x0 w):callE P l9 #[.int .u8 x0] R w:=
 aH [(29,.no)] Tryz.func45 Tryz.call45 h
namespace fF
def bl1 (R:EP)(Xa:OA->Nat->Nat->OA->Nat->Nat->Int->Int->WP)(a7:OA)(O I:Nat)(b3:OA)(E b9:Nat)(b7 g:Int)(w:World):Prop:=
 br (decide (g<b7))
 (0<=g/\g<(E:Int)/\
 aA b3 λa1=>
 ∃(b6:Value),w.cell? (a1.add (Int.toNat g*1))=some b6/\
 callE P bS #[b6] (λe c1=>F0 e λc2=>
 ∃b4 H,∃U b5,(Instr.buildSlice bN 1 #[(0,c2.V)]).run P c1= .ok (hT b4 H U) b5/\
 ∃a6 y,∃W b8,(Builtin.append_ #[bN,bN] bN #[hT a7 O I,hT b4 H U]).run P b5= .ok (hT a6 y W) b8/\
 Xa a6 y W b3 E b9 b7 (i64.wrap (g+1)) b8) w)
 (R (hQ (hT a7 O I)) w)
def l1 (R:EP)(E:OA)(y O:Nat)(H:OA)(g I:Nat)(U V:Int)(w:World):Prop:=
 ∀X:OA->Nat->Nat->OA->Nat->Nat->Int->Int->WP,(∀E y O H g I U V w,bl1 R X E y O H g I U V w->X E y O H g I U V w)->X E y O H g I U V w
end fF
def fF (R:EP)(E:OA)(g y:Nat)(w:World):Prop:=
 fF.l1 R none 0 0 E g y (g:Int) 0 w
theorem fF.sound {R x0q x0n x0c w}(h:fF R x0q x0n x0c w):callE P gL #[hT x0q x0n x0c] R w:=
 aH [(43,.lp [63,123,147,167] (fF.bl1 R) λXa=> [])] Tryz.func44 Tryz.call44 h
namespace eV
def bl1 (R:EP)(Xa:OA->Nat->Nat->OA->Nat->Nat->Int->Int->WP)(a7:OA)(O I:Nat)(b3:OA)(E b9:Nat)(b7 g:Int)(w:World):Prop:=
 br (decide (g<b7))
 (0<=g/\g<(E:Int)/\
 aA b3 λa1=>
 ∃(b6:Value),w.cell? (a1.add (Int.toNat g*1))=some b6/\
 callE P ej #[b6] (λe c1=>F0 e λc2=>
 ∃b4 H,∃U b5,(Instr.buildSlice bN 1 #[(0,c2.V)]).run P c1= .ok (hT b4 H U) b5/\
 ∃a6 y,∃W b8,(Builtin.append_ #[bN,bN] bN #[hT a7 O I,hT b4 H U]).run P b5= .ok (hT a6 y W) b8/\
 Xa a6 y W b3 E b9 b7 (i64.wrap (g+1)) b8) w)
 (R (hQ (hT a7 O I)) w)
def l1 (R:EP)(E:OA)(y O:Nat)(H:OA)(g I:Nat)(U V:Int)(w:World):Prop:=
 ∀X:OA->Nat->Nat->OA->Nat->Nat->Int->Int->WP,(∀E y O H g I U V w,bl1 R X E y O H g I U V w->X E y O H g I U V w)->X E y O H g I U V w
end eV
def eV (R:EP)(E:OA)(g y:Nat)(w:World):Prop:=
 eV.l1 R none 0 0 E g y (g:Int) 0 w
theorem eV.sound {R x0q x0n x0c w}(h:eV R x0q x0n x0c w):callE P dw #[hT x0q x0n x0c] R w:=
 aH [(43,.lp [63,123,147,167] (eV.bl1 R) λXa=> [])] Tryz.func50 Tryz.call50 h

theorem BP {A:Nat->Addr}{v:N16}{K:N16->Prop}(h: ∀i u,v.C[i]? =some u->w.cell? (A i)=some u)(g:K v):ld16 w A K:=
 ⟨_,h 0 _ rfl,_,h 1 _ rfl,_,h 2 _ rfl,_,h 3 _ rfl,_,h 4 _ rfl,_,h 5 _ rfl,_,_,_,h 6 _ rfl,_,_,_,h 7 _ rfl,_,h 8 _ rfl,_,h 9 _ rfl,_,h 10 _ rfl,_,h 11 _ rfl,_,h 12 _ rfl,_,h 13 _ rfl,_,h 14 _ rfl,_,_,_,h 15 _ rfl,g⟩
theorem BQ {A:Nat->Addr}{v:N10}{K:N10->Prop}(h: ∀i u,v.C[i]? =some u->w.cell? (A i)=some u)(g:K v):ld10 w A K:=
 ⟨_,h 0 _ rfl,_,h 1 _ rfl,_,h 2 _ rfl,_,h 3 _ rfl,_,h 4 _ rfl,_,h 5 _ rfl,_,_,_,h 6 _ rfl,_,_,_,h 7 _ rfl,_,h 8 _ rfl,_,h 9 _ rfl,g⟩
theorem Sat.ldB16 (h:Sat σ w L){b:Nat}{e:TypeId}(v:N16){K:N16->Prop}(y:(b,cel v.C.toList e)∈L)(g:K v):ldB16 w b K:=
 BP (λi u E=>h.ld y (by rw[lQ2];exact E)) g
theorem Sat.ldB10 (h:Sat σ w L){b:Nat}{e:TypeId}(v:N10){K:N10->Prop}(y:(b,cel v.C.toList e)∈L)(g:K v):ldB10 w b K:=
 BQ (λi u E=>h.ld y (by rw[lQ2];exact E)) g
theorem xN {pre mid suf:List Value}{i o:Nat}{u:Value}(y:pre.length=o)(g:mid[i]? =some u):(pre++(mid++suf))[o+i]? =some u:=by
 have hi:=(lL0.1 g).1
 rw[lH0 (by omega),show o+i - pre.length=i by omega,lM0 hi]
 exact g
theorem Sat.ldA16 (h:Sat σ w L){b o:Nat}{pre suf:List Value}{e:TypeId}(v:N16){K:N16->Prop}(y:(b,cel (pre++(v.C.toList++suf)) e)∈L)(g:pre.length=o)(E:K v):ldA16 w (hZ b o) K:=
 BP (λi u H=>by rw[lK0];exact h.ld y (xN g (by rw[lQ2];exact H))) E
theorem Sat.ldA10 (h:Sat σ w L){b o:Nat}{pre suf:List Value}{e:TypeId}(v:N10){K:N10->Prop}(y:(b,cel (pre++(v.C.toList++suf)) e)∈L)(g:pre.length=o)(E:K v):ldA10 w (hZ b o) K:=
 BQ (λi u H=>by rw[lK0];exact h.ld y (xN g (by rw[lQ2];exact H))) E
def stAll:List Value->Nat->Nat->World->(World->Prop)->Prop
 | [],b,i,w,K=>K w
 |v::vs,b,i,w,K=>stV w (hZ b i) v λw=>stAll vs b (i+1) w K
theorem y6 {g:Type}{l:List g}{k:Nat}{a:g}(h:l[k]? =some a):l.set k a=l:=by
 refine List.ext_getElem? λi=>?_
 rw[lM5]
 split
 ·subst_vars
  rw[if_pos (lL0.1 h).1,h]
 ·rfl
theorem Sat.stAll {k b:Nat}{e:TypeId}{K:World->Prop}(y:k<L.length): ∀(vs old pre:List Value) (w:World),Sat σ w (L.set k (b,cel (pre++old) e))->old.length=vs.length->(∀v∈vs,nA v)->(∀g,Sat σ g (L.set k (b,cel (pre++vs) e))->K g)->stAll vs b pre.length w K
 | [],old,pre,w,h,hl,h1,hK=>by
  obtain rfl:old= []:=lB1 (by simpa using hl)
  exact hK w h
 |v::vs,o::old,pre,w,h,hl,h1,hK=>by
  refine h.st (k:=k) (L':=L.set k (b,cel ((pre++ [v])++old) e)) (List.getElem?_set_self y) (by simp) (h1 v (by simp)) ?_ λw h=>?_
  ·rw[List.set_set,lO1 _ _ (lZ0 _),lW1]
   simp
  ·have:=Sat.stAll y vs old (pre++ [v]) w h (by simpa using hl) (λu H=>h1 u (by simp[H])) (λg E=>hK g (by simpa using E))
   rw[lA0] at this
   exact this
theorem Sat.st16 (h:Sat σ w L)(k:Nat){b:Nat}{e:TypeId}(u v:N16){K:World->Prop}(O: ∀g,Sat σ g L'->K g)(y:L[k]? =some (b,cel u.C.toList e):=by exact rfl)(H:L.set k (b,cel v.C.toList e)=L':=by first|(dsimp only[List.set];exact rfl)|exact rfl):st16 w b v K:=by
 have hs:Sat σ w (L.set k (b,cel ([]++u.C.toList) e)):=by rw[lT0,y6 y];exact h
 refine Sat.stAll (lL0.1 y).1 v.C.toList u.C.toList [] w hs rfl ?_ (λg I=>O g (by rw[<-H];exact I))
 intro x E
 simp only[N16.C,lW0,lD1,or_false] at E
 rcases E with rfl|rfl|rfl|rfl|rfl|rfl|rfl|rfl|rfl|rfl|rfl|rfl|rfl|rfl|rfl|rfl<;>trivial
theorem Sat.st10 (h:Sat σ w L)(k:Nat){b:Nat}{e:TypeId}(u v:N10){K:World->Prop}(O: ∀g,Sat σ g L'->K g)(y:L[k]? =some (b,cel u.C.toList e):=by exact rfl)(H:L.set k (b,cel v.C.toList e)=L':=by first|(dsimp only[List.set];exact rfl)|exact rfl):st10 w b v K:=by
 have hs:Sat σ w (L.set k (b,cel ([]++u.C.toList) e)):=by rw[lT0,y6 y];exact h
 refine Sat.stAll (lL0.1 y).1 v.C.toList u.C.toList [] w hs rfl ?_ (λg I=>O g (by rw[<-H];exact I))
 intro x E
 simp only[N10.C,lW0,lD1,or_false] at E
 rcases E with rfl|rfl|rfl|rfl|rfl|rfl|rfl|rfl|rfl|rfl<;>trivial
theorem xM {v:N16}{K:N16->Prop}(g:K v):F0 (hQ v.V) K:=⟨_,_,_,_,_,_,_,_,_,_,_,_,_,_,_,_,_,_,_,_,_,_,rfl,g⟩

structure IH where
 kind:Nat
 text:List UInt8:= []
 title:List UInt8:= []
 num:Int:=0
 char:List UInt8:= []
 loose:Bool:=false
 s:Nat:=0
 e:Nat:=0
 mark:List UInt8:= []
 width:Nat:=0
 tight:Bool:=false
 escaped:Bool:=false
 auto:Bool:=false
inductive IN where
 |mk (h:IH) (kids:List IN)
def IN.h:IN->IH
 | .mk h _=>h
def IN.kids:IN->List IN
 | .mk _ ks=>ks
structure NH where
 kind:Nat
 text:List UInt8:= []
 title:List UInt8:= []
 num:Int:=0
 char:List UInt8:= []
 loose:Bool:=false
 s:Nat:=0
 e:Nat:=0
inductive ND where
 |mk (h:NH) (kids:List ND)
def ND.h:ND->NH
 | .mk h _=>h
def ND.kids:ND->List ND
 | .mk _ ks=>ks
abbrev IH.nd (h:IH)(q:OA)(n c:Nat):N16:=⟨h.kind,bs h.text,bs h.title,h.num,bs h.char,h.loose,none,0,0,q,n,c,h.s,h.e,bs h.mark,h.width,h.tight,h.escaped,h.auto,none,0,0⟩
abbrev NH.nd (h:NH)(qa:OA)(ca:Nat)(q:OA)(n c:Nat):N10:=⟨h.kind,bs h.text,bs h.title,h.num,bs h.char,h.loose,qa,0,ca,q,n,c,h.s,h.e⟩
abbrev IH.cells (h:IH)(q:OA)(n c:Nat):List Value:=(h.nd q n c).C.toList
abbrev NH.cells (h:NH)(qa:OA)(ca:Nat)(q:OA)(n c:Nat):List Value:=(h.nd qa ca q n c).C.toList
def IH.ok (h:IH):Prop:=h.text.length<1073741824/\h.title.length<1073741824/\h.char.length<1073741824/\h.mark.length<1073741824
inductive INs:List IN->List Value->List ai->Prop where
 |nil:INs [] [] []
 |cons {h:IH} {ks xs:List IN} {q:OA} {n c:Nat} {vs us:List Value} {RM KM XM:List ai}:h.ok->n<1073741824->INs ks vs KM->Sl 16 ak q n c vs RM->INs xs us XM->INs (.mk h ks::xs) (h.cells q n c++us) ((RM++KM)++XM)
inductive NDs:List ND->List Value->List ai->Prop where
 |nil:NDs [] [] []
 |cons {h:NH} {ks xs:List ND} {qa:OA} {ca:Nat} {q:OA} {n c:Nat} {vs us:List Value} {RM KM XM:List ai}:n<1073741824->NDs ks vs KM->Sl 10 af q n c vs RM->NDs xs us XM->NDs (.mk h ks::xs) (h.cells qa ca q n c++us) ((RM++KM)++XM)
theorem INs.len {xs:List IN}{vs:List Value}{M:List ai}(h:INs xs vs M):vs.length=xs.length*16:=by
 induction h with
 |nil=>rfl
 |cons _ _ _ _ _ _ g=>rw[lA0,g,lF0,lF4,lR4];rfl
theorem NDs.len {xs:List ND}{vs:List Value}{M:List ai}(h:NDs xs vs M):vs.length=xs.length*10:=by
 induction h with
 |nil=>rfl
 |cons _ _ _ _ _ g=>rw[lA0,g,lF0,lF4,lR4];rfl
theorem INs.append {xs g:List IN}{vs us:List Value}{M N:List ai}(h:INs xs vs M)(y:INs g us N):INs (xs++g) (vs++us) (M++N):=by
 induction h with
 |nil=>exact y
 |cons a1 a2 a3 a4 _ _ E=>
  rw[lD0,lD0]
  exact .cons a1 a2 a3 a4 E
theorem NDs.append {xs g:List ND}{vs us:List Value}{M N:List ai}(h:NDs xs vs M)(y:NDs g us N):NDs (xs++g) (vs++us) (M++N):=by
 induction h with
 |nil=>exact y
 |cons a1 a2 a3 _ _ E=>
  rw[lD0,lD0]
  exact .cons a1 a2 a3 E
def j4:List ND->ND->List ND
 | [],x=> [x]
 | [.mk h ks],x=>if x.h.kind=20/\h.kind=20 then [.mk {h with text:=h.text++x.h.text} ks] else [.mk h ks,x]
 |a::b::l,x=>a::j4 (b::l) x
def GM (h:IH):NH:= {kind:=h.kind,text:=if h.kind=6\/h.kind=5\/h.kind=12 then [] else h.text,title:=h.title,num:=h.num,char:=h.char,loose:=h.loose}
mutual
def vj:IN->ND
 | .mk h ks=> .mk (GM h) (yI [] ks)
def yI:List ND->List IN->List ND
 |acc,[]=>acc
 |acc,k::ks=>yI (if k.h.kind=13 then acc else j4 acc (vj k)) ks
end

noncomputable def rowIN:Row P bN ak 16 192:=
 ⟨(P.info? ak).getD default,((P.info? ak).bind (·.zero)).getD default,by kernel_rfl,by kernel_rfl,by kernel_rfl,by kernel_rfl,by kernel_rfl,by kernel_rfl,by decide⟩
theorem EG (v:N16):Instr.fill (λi=>some (i*16,16)) ((Array.range (1*16)).map (rowIN.z.cells[· %rowIN.z.cells.size]!)) [(0,v.V)]=some v.C:=by kernel_rfl
theorem Gn (v:N16): ∀u∈v.V.cells.toList,u.oneCell'=true:=by
 intro x g
 simp only[N16.V,Value.cells,N16.C,lW0,lD1,or_false] at g
 rcases g with rfl|rfl|rfl|rfl|rfl|rfl|rfl|rfl|rfl|rfl|rfl|rfl|rfl|rfl|rfl|rfl<;>rfl
def NodeAt (x:IN)(v:N16)(M:List ai):Prop:= ∃h g q n c vs RM KM,x= .mk h g/\v=h.nd q n c/\M=RM++KM/\h.ok/\n<1073741824/\INs g vs KM/\Sl 16 ak q n c vs RM
theorem NodeAt.cons {x:IN}{xs:List IN}{v:N16}{us:List Value}{M g:List ai}(h:NodeAt x v M)(y:INs xs us g):INs (x::xs) (v.C.toList++us) (M++g):=by
 obtain⟨H,E,q,n,c,vs,RM,KM,rfl,rfl,rfl,a,b,d,e⟩:=h
 exact .cons a b d e y
theorem NodeAt.leaf {h:IH}(a:h.ok):NodeAt (.mk h []) (h.nd none 0 0) []:=⟨h,[],none,0,0,[],[],[],rfl,rfl,rfl,a,by decide,.nil,Sl.nil 16 ak⟩
def qx (f:FuncId)(x:IN)(v:Value)(T:List ai):Prop:=
 ∀(σ:Out) (R:Ending->World->Prop) (L:List ai) (w:World),Sat σ w (T++L)->(∀w u M,NodeAt x u M->Sat σ w (M++(T++L))->R (hQ u.V) w)->callE P f #[v] R w
inductive jQ (f:FuncId):List IN->List Value->List ai->Prop where
 |nil:jQ f [] [] []
 |cons {x:IN} {v:Value} {T:List ai} {xs:List IN} {vs:List Value} {K:List ai}:qx f x v T->jQ f xs vs K->jQ f (x::xs) (v::vs) (T++K)
theorem wg {f:FuncId}{X:OA->Nat->Nat->OA->Nat->Nat->Int->Int->WP}{q:OA}{n c:Nat}{e:TypeId}{xs:List IN}{vs:List Value}{RM KM:List ai}(d3:Sl 1 e q n c vs RM)(d1: ∀I b8 H (j:Int) w,br (decide (j<(n:Int))) (0<=j/\j<(n:Int)/\aA q λa=> ∃(v:Value),w.cell? (a.add (Int.toNat j*1))=some v/\
  callE P f #[v] (λe e5=>F0 e λe6=> ∃(d0:OA),∃(c2:Nat),∃(c4:Nat),∃d2,(Instr.buildSlice bN 1 #[(0,e6.V)]).run P e5= .ok (hT d0 c2 c4) d2/\
   ∃(c8:OA),∃(c1:Nat),∃(c5:Nat),∃d4,(Builtin.append_ #[bN,bN] bN #[hT I b8 H,hT d0 c2 c4]).run P d2= .ok (hT c8 c1 c5) d4/\X c8 c1 c5 q n c (n:Int) (i64.wrap (j+1)) d4) w)
  (R (hQ (hT I b8 H)) w)->X I b8 H q n c (n:Int) j w)(b5:jQ f xs vs KM)(h:Sat σ w (RM++(KM++L)))(e9:n<1073741824)(a6: ∀w O E U us g NM,E<1073741824->INs xs us NM->Sl 16 ak O E U us g->Sat σ w (g++NM++(RM++(KM++L)))->R (hQ (hT O E U)) w):X none 0 0 q n c (n:Int) 0 w:=by
 have a7:=d3.1
 have e1: ∀(b4:List IN) (b3:List Value) (KM:List ai),jQ f b4 b3 KM-> ∀(y:List IN) (W:List Value) (D:List ai) I H us g NM w,W++b3=vs->W.length=y.length->INs y us NM->Sl 16 ak I y.length H us g->Sat σ w (g++NM++(RM++(D++(KM++L))))->
  (∀w O E U us g NM,E<1073741824->INs (y++b4) us NM->Sl 16 ak O E U us g->Sat σ w (g++NM++(RM++(D++(KM++L))))->R (hQ (hT O E U)) w)->X I y.length H q n c (n:Int) (W.length:Nat) w:=by
  intro b4 b3 KM b5
  induction b5 with
  |nil=>
   intro y W D I H us g NM w hv d5 b9 b7 h a6
   refine d1 _ _ _ _ _ (ae ?_ ?_)
   ·rw[<-hv] at a7
    simp at a7
    simp;omega
   ·have:y.length<1073741824:=by rw[<-hv] at a7;simp at a7;omega
    rw[lG0] at a6
    exact a6 w I y.length H us g NM this b9 b7 h
  | @cons x v T b4 b3 K h1 h2 ih=>
   intro y W D I H us g NM w hv d5 b9 b7 h a6
   have e7:W.length<n:=by rw[<-hv] at a7;simp at a7;omega
   refine d1 _ _ _ _ _ (ag (by simp;omega) ⟨by omega,by omega,?_⟩)
   have c3:vs[W.length]? =some v:=by rw[<-hv];simp
   have e0:=d3
   obtain⟨_,_,⟨rfl,e8,_,_⟩|⟨b6,sp,rfl,rfl,_⟩⟩:=e0
   ·omega
   refine aa ?_
   simp only[lK0,lC0,lC1,lN0]
   refine⟨v,Sat.ld h (lB0 _ (.head _)) ?_,?_⟩
   ·rw[lM0 (lL0.1 c3).1];exact c3
   have h:Sat σ w (T++(g++NM++([(b6,cel (vs++sp) e)]++(D++(K++L))))):=h.re
   refine h1 σ _ _ w h λw u M e4 h=>xM ?_
   have h:Sat σ w (g++(M++(T++(NM++([(b6,cel (vs++sp) e)]++(D++(K++L))))))):=h.re
   refine Sat.app1 rowIN b7 h (v:=u.V) rfl (Gn u) (EG u) (by omega) (by omega) (by decide) λO U w c9 e2 h=>?_
   rw[aN (by omega)]
   have e3:INs (y++ [x]) (us++u.V.cells.toList) (NM++M):=by
    have:=b9.append (e4.cons .nil)
    rw[lG0,lG0] at this
    exact this
   have h:Sat σ w (c9++(NM++M)++([(b6,cel (vs++sp) e)]++((D++T)++(K++L)))):=h.re
   have:=ih (y++ [x]) (W++ [v]) (D++T) O U _ c9 (NM++M) w (by simpa using hv) (by simp[d5]) e3 (by rw[lA0];exact e2) h (λw O E U us g NM a b d h=>a6 w O E U us g NM a (by simpa using b) d (h.re))
   simpa using this
 exact e1 xs vs KM b5 [] [] [] none 0 [] [] [] w rfl rfl .nil (Sl.nil 16 ak) h a6
theorem je {q:OA}{n c:Nat}{e:TypeId}{xs:List IN}{vs:List Value}{RM KM:List ai}(U:Sl 1 e q n c vs RM)(I:jQ ej xs vs KM)(h:Sat σ w (RM++(KM++L)))(W:n<1073741824)(a6: ∀w E g H us y NM,g<1073741824->INs xs us NM->Sl 16 ak E g H us y->Sat σ w (y++NM++(RM++(KM++L)))->R (hQ (hT E g H)) w):callE P dw #[hT q n c] R w:=by
 refine eV.sound ?_
 intro X O
 exact wg (f:=ej) U (λb4 b3 a7 j w V=>O _ _ _ _ _ _ _ _ _ V) I h W a6
theorem nI {q:OA}{n c:Nat}{e:TypeId}{xs:List IN}{vs:List Value}{RM KM:List ai}(U:Sl 1 e q n c vs RM)(I:jQ bS xs vs KM)(h:Sat σ w (RM++(KM++L)))(W:n<1073741824)(a6: ∀w E g H us y NM,g<1073741824->INs xs us NM->Sl 16 ak E g H us y->Sat σ w (y++NM++(RM++(KM++L)))->R (hQ (hT E g H)) w):callE P gL #[hT q n c] R w:=by
 refine fF.sound ?_
 intro X O
 exact wg (f:=bS) U (λb4 b3 a7 j w V=>O _ _ _ _ _ _ _ _ _ V) I h W a6
def zh (P:Program)(a:TypeId):Bool:=
 match P.underlying a,P.info? a with
 |some (.pointer _),some i=>match i.zero with
  |some (.pointer none)=>true
  |_=>false
 |_,_=>false
theorem wz {a:TypeId}(h:zh P a=true): ∃e i,P.underlying a=some (.pointer e)/\P.info? a=some i/\i.zero=some (kT none):=by
 unfold zh at h
 split at h
 ·rename_i e i g E
  split at h
  ·rename_i y
   exact⟨e,i,g,E,y⟩
  ·exact absurd h (by decide)
 ·exact absurd h (by decide)
theorem cn {t a xt:TypeId}{v:Value}(H:zh P a=true)(y:t≠a)(w:World):(Instr.typeAssert (.iface t v) xt a true).run P w= .ok (.tuple #[kT none,hV false]) w:=by
 obtain⟨e,i,g,E,I⟩:=wz H
 exact uv (by rw[g];intro O h;cases h) g y E I w
theorem ir {a xt:TypeId}{v:Value}(y:zh P a=true)(w:World):(Instr.typeAssert (.iface a v) xt a true).run P w= .ok (.tuple #[v,hV true]) w:=by
 obtain⟨e,i,g,E,I⟩:=wz y
 exact ol (by rw[g];intro H h;cases h) g w
def tcT (c:UInt8):List UInt8:=if c=0 then [] else [c]
mutual
def inlN:Inl->IN
 | .plain s=> .mk {kind:=20,text:=s} []
 | .openP s _=> .mk {kind:=20,text:=s} []
 | .emphP s _ _ _ _=> .mk {kind:=20,text:=s} []
 | .esc s=> .mk {kind:=20,text:=s,escaped:=true} []
 | .code s=> .mk {kind:=23,text:=s} []
 | .strong m ks=> .mk {kind:=25,mark:=m} (fW ks)
 | .del m ks=> .mk {kind:=26,mark:=m} (fW ks)
 | .emph m ks=> .mk {kind:=24,mark:=m} (fW ks)
 | .link ks u t tc _=> .mk {kind:=27,text:=u,title:=t,mark:=tcT tc} (fW ks)
 | .image ks u t tc _=> .mk {kind:=28,text:=u,title:=t,mark:=tcT tc} (fW ks)
 | .auto t u=> .mk {kind:=27,text:=u,auto:=true} [.mk {kind:=20,text:=t} []]
 | .tag s=> .mk {kind:=29,text:=s} []
 | .hard=> .mk {kind:=22} []
 | .soft=> .mk {kind:=21} []
 | .task b=> .mk {kind:=30,num:=if b then 2 else 1} []
def fW:List Inl->List IN
 | []=> []
 |t::ts=>inlN t::fW ts
end
mutual
def rM:Inl->Prop
 | .plain s=>s.length<1073741824
 | .openP s _=>s.length<1073741824
 | .emphP s _ _ _ _=>s.length<1073741824
 | .esc s=>s.length<1073741824
 | .code s=>s.length<1073741824
 | .strong m ks=>m.length<1073741824/\ks.length<1073741824/\lR ks
 | .emph m ks=>m.length<1073741824/\ks.length<1073741824/\lR ks
 | .link ks u t tc _=>u.length<1073741824/\t.length<1073741824/\tc=0/\ks.length<1073741824/\lR ks
 | .soft=>True
 |_=>False
def lR:List Inl->Prop
 | []=>True
 |t::ts=>rM t/\lR ts
end

theorem cg:([]:List UInt8).length<1073741824:=by decide
theorem jV {u v:N16}{x:IN}{b1:Nat}{NM K:List ai}(E:NodeAt x v NM)(h:Sat σ w ((b1,cel u.C.toList ak)::(NM++K)))(y: ∀w u M,NodeAt x u M->Sat σ w (M++K)->R (hQ u.V) w):
 st16 w b1 v λg=>ldB16 g b1 λm=>R (hQ m.V) g:=
 h.st16 0 u v λw h=>h.ldB16 v (.head _) (y w v NM E h.tail)
theorem Dy (g:R (hQ (hX (bs []))) w):callE P l9 #[.int .u8 0] R w:=by
 refine oN.sound ?_
 exact ag rfl g
mutual
theorem wC: ∀ {t:Inl} {v:Value} {M:List ai},rM t->InlAt t v M->qx ej (inlN t) v M
 | .plain s,v,M,ht,hI=>by
  intro σ R L w h hR
  refine dB.sound ?_
  refine Sat.bx h λb1 w h=>?_
  have h:Sat σ w ((b1,cel (N16.C {}).toList ak)::(M++L)):=h
  refine gA.sound ?_
  refine jb hI rfl λb cs e hM=>⟨_,rfl,_,rfl,_,_,dN eH _ w,ag rfl (aa ⟨_,Sat.ld h (.tail _ (by rw[hM];exact .head _)) rfl,?_⟩)⟩
  exact jV (NodeAt.leaf (h:= {kind:=20,text:=s}) ⟨ht,cg,cg,cg⟩) h hR
 | .openP s i,v,M,ht,hI=>by
  intro σ R L w h hR
  refine dB.sound ?_
  refine Sat.bx h λb1 w h=>?_
  have h:Sat σ w ((b1,cel (N16.C {}).toList ak)::(M++L)):=h
  refine gA.sound ?_
  refine jb hI rfl λb cs e hM=>⟨_,rfl,_,rfl,_,_,dN eH _ w,ag rfl (aa ⟨_,Sat.ld h (.tail _ (by rw[hM];exact .head _)) rfl,?_⟩)⟩
  exact jV (NodeAt.leaf (h:= {kind:=20,text:=s}) ⟨ht,cg,cg,cg⟩) h hR
 | .emphP s co cc i n,v,M,ht,hI=>by
  intro σ R L w h hR
  refine dB.sound ?_
  refine Sat.bx h λb1 w h=>?_
  have h:Sat σ w ((b1,cel (N16.C {}).toList ak)::(M++L)):=h
  refine gA.sound ?_
  refine jb hI rfl λb cs e hM=>⟨_,rfl,_,rfl,_,_,dN eH _ w,ag rfl (aa ⟨_,Sat.ld h (.tail _ (by rw[hM];exact .head _)) rfl,?_⟩)⟩
  exact jV (NodeAt.leaf (h:= {kind:=20,text:=s}) ⟨ht,cg,cg,cg⟩) h hR
 | .esc s,v,M,ht,hI=>by
  intro σ R L w h hR
  refine dB.sound ?_
  refine Sat.bx h λb1 w h=>?_
  have h:Sat σ w ((b1,cel (N16.C {}).toList ak)::(M++L)):=h
  refine gA.sound ?_
  refine jc hI rfl ⟨_,rfl,_,rfl,_,_,dN eH _ w,ae rfl ?_⟩
  obtain⟨b,e,rfl,rfl⟩:=hI
  refine⟨_,_,_,ir (by kernel_rfl) w,ag rfl ?_⟩
  refine aa ⟨_,Sat.ld h (.tail _ (.head _)) rfl,?_⟩
  exact jV (NodeAt.leaf (h:= {kind:=20,text:=s,escaped:=true}) ⟨ht,cg,cg,cg⟩) h hR
 | .soft,v,M,ht,hI=>by
  intro σ R L w h hR
  refine dB.sound ?_
  refine Sat.bx h λb1 w h=>?_
  have h:Sat σ w ((b1,cel (N16.C {}).toList ak)::(M++L)):=h
  refine gA.sound ?_
  refine jc hI rfl ⟨_,rfl,_,rfl,_,_,dN eH _ w,ae rfl ?_⟩
  obtain⟨b,e,rfl,rfl⟩:=hI
  refine⟨_,_,_,cn (by kernel_rfl) (by decide) w,ae rfl ?_⟩
  refine⟨_,_,_,ir (by kernel_rfl) w,ag rfl ?_⟩
  exact jV (NodeAt.leaf (h:= {kind:=21}) ⟨cg,cg,cg,cg⟩) h hR
 | .code s,v,M,ht,hI=>by
  intro σ R L w h hR
  refine dB.sound ?_
  refine Sat.bx h λb1 w h=>?_
  have h:Sat σ w ((b1,cel (N16.C {}).toList ak)::(M++L)):=h
  refine gA.sound ?_
  refine jc hI rfl ⟨_,rfl,_,rfl,_,_,dN eH _ w,ae rfl ?_⟩
  obtain⟨b,e,rfl,rfl⟩:=hI
  refine⟨_,_,_,cn (by kernel_rfl) (by decide) w,ae rfl ?_⟩
  refine⟨_,_,_,cn (by kernel_rfl) (by decide) w,ae rfl ?_⟩
  refine⟨_,_,_,cn (by kernel_rfl) (by decide) w,ae rfl ?_⟩
  refine⟨_,_,_,ir (by kernel_rfl) w,ag rfl ?_⟩
  refine aa ⟨_,Sat.ld h (.tail _ (.head _)) rfl,?_⟩
  exact jV (NodeAt.leaf (h:= {kind:=23,text:=s}) ⟨ht,cg,cg,cg⟩) h hR
 | .emph m ks,v,M,ht,hI=>by
  intro σ R L w h hR
  refine dB.sound ?_
  refine Sat.bx h λb1 w h=>?_
  have h:Sat σ w ((b1,cel (N16.C {}).toList ak)::(M++L)):=h
  refine gA.sound ?_
  refine jc hI rfl ⟨_,rfl,_,rfl,_,_,dN eH _ w,ae rfl ?_⟩
  obtain⟨b,e,q,n,c,vs,RM,KM,rfl,rfl,hS,hK⟩:=hI
  have hg:=eK ht.2.2 hK
  have hn:n<1073741824:=by have h1:=hK.length;have h2:=hS.1;have h3:=ht.2.1;omega
  refine⟨_,_,_,cn (by kernel_rfl) (by decide) w,ae rfl ?_⟩
  refine⟨_,_,_,cn (by kernel_rfl) (by decide) w,ae rfl ?_⟩
  refine⟨_,_,_,cn (by kernel_rfl) (by decide) w,ae rfl ?_⟩
  refine⟨_,_,_,cn (by kernel_rfl) (by decide) w,ae rfl ?_⟩
  refine⟨_,_,_,ir (by kernel_rfl) w,ag rfl ?_⟩
  refine h.tk λw h=>aa (aa ⟨_,Sat.ld h (.tail _ (.head _)) rfl,?_⟩)
  refine⟨_,_,_,h.ldA,?_⟩
  have h:Sat σ w (RM++(KM++((b,cel [hX (bs m),hT q n c] e)::(b1,cel (N16.C {}).toList ak)::L))):=h.re
  have h0:=h
  refine je hS hg h hn λw q' n' c' us OM NM hn' hIN hO h=>⟨_,_,_,rfl,?_,?_⟩
  ·exact h0.same h (lB0 _ (lB0 _ (.head _))) (lB0 _ (lB0 _ (lB0 _ (.head _)))) 1
  ·exact jV (u:= {}) (NM:=OM++NM) ⟨{kind:=24,mark:=m},fW ks,q',n',c',us,OM,NM,rfl,rfl,rfl,⟨cg,cg,cg,ht.1⟩,hn',hIN,hO⟩ (h.re:Sat σ w ((b1,cel (N16.C {}).toList ak)::((OM++NM)++((b,cel [hX (bs m),hT q n c] e)::(RM++KM)++L)))) hR
 | .strong m ks,v,M,ht,hI=>by
  intro σ R L w h hR
  refine dB.sound ?_
  refine Sat.bx h λb1 w h=>?_
  have h:Sat σ w ((b1,cel (N16.C {}).toList ak)::(M++L)):=h
  refine gA.sound ?_
  refine jc hI rfl ⟨_,rfl,_,rfl,_,_,dN eH _ w,ae rfl ?_⟩
  obtain⟨b,e,q,n,c,vs,RM,KM,rfl,rfl,hS,hK⟩:=hI
  have hg:=eK ht.2.2 hK
  have hn:n<1073741824:=by have h1:=hK.length;have h2:=hS.1;have h3:=ht.2.1;omega
  refine⟨_,_,_,cn (by kernel_rfl) (by decide) w,ae rfl ?_⟩
  refine⟨_,_,_,cn (by kernel_rfl) (by decide) w,ae rfl ?_⟩
  refine⟨_,_,_,cn (by kernel_rfl) (by decide) w,ae rfl ?_⟩
  refine⟨_,_,_,cn (by kernel_rfl) (by decide) w,ae rfl ?_⟩
  refine⟨_,_,_,cn (by kernel_rfl) (by decide) w,ae rfl ?_⟩
  refine⟨_,_,_,ir (by kernel_rfl) w,ag rfl ?_⟩
  refine h.tk λw h=>aa (aa ⟨_,Sat.ld h (.tail _ (.head _)) rfl,?_⟩)
  refine⟨_,_,_,h.ldA,?_⟩
  have h:Sat σ w (RM++(KM++((b,cel [hX (bs m),hT q n c] e)::(b1,cel (N16.C {}).toList ak)::L))):=h.re
  have h0:=h
  refine je hS hg h hn λw q' n' c' us OM NM hn' hIN hO h=>⟨_,_,_,rfl,?_,?_⟩
  ·exact h0.same h (lB0 _ (lB0 _ (.head _))) (lB0 _ (lB0 _ (lB0 _ (.head _)))) 1
  ·exact jV (u:= {}) (NM:=OM++NM) ⟨{kind:=25,mark:=m},fW ks,q',n',c',us,OM,NM,rfl,rfl,rfl,⟨cg,cg,cg,ht.1⟩,hn',hIN,hO⟩ (h.re:Sat σ w ((b1,cel (N16.C {}).toList ak)::((OM++NM)++((b,cel [hX (bs m),hT q n c] e)::(RM++KM)++L)))) hR
 | .link ks ur ti tc k,v,M,ht,hI=>by
  intro σ R L w h hR
  refine dB.sound ?_
  refine Sat.bx h λb1 w h=>?_
  have h:Sat σ w ((b1,cel (N16.C {}).toList ak)::(M++L)):=h
  refine gA.sound ?_
  refine jc hI rfl ⟨_,rfl,_,rfl,_,_,dN eH _ w,ae rfl ?_⟩
  obtain⟨b,e,q,n,c,vs,RM,KM,rfl,rfl,hS,hK⟩:=hI
  obtain⟨hu,hti,htc,hkl,hkt⟩:=ht
  subst htc
  have hg:=eK hkt hK
  have hn:n<1073741824:=by have h1:=hK.length;have h2:=hS.1;omega
  refine⟨_,_,_,cn (by kernel_rfl) (by decide) w,ae rfl ?_⟩
  refine⟨_,_,_,cn (by kernel_rfl) (by decide) w,ae rfl ?_⟩
  refine⟨_,_,_,cn (by kernel_rfl) (by decide) w,ae rfl ?_⟩
  refine⟨_,_,_,cn (by kernel_rfl) (by decide) w,ae rfl ?_⟩
  refine⟨_,_,_,cn (by kernel_rfl) (by decide) w,ae rfl ?_⟩
  refine⟨_,_,_,cn (by kernel_rfl) (by decide) w,ae rfl ?_⟩
  refine⟨_,_,_,cn (by kernel_rfl) (by decide) w,ae rfl ?_⟩
  refine⟨_,_,_,ir (by kernel_rfl) w,ag rfl ?_⟩
  refine h.tk λw h=>aa (aa (aa (aa ⟨_,Sat.ld h (.tail _ (.head _)) rfl,_,Sat.ld h (.tail _ (.head _)) rfl,_,Sat.ld h (.tail _ (.head _)) rfl,_,_,_,Sat.ld h (.tail _ (.head _)) rfl,?_⟩)))
  refine Dy ⟨_,rfl,λ_ _=>rfl,λ_ _=>rfl,λ_ _=>rfl,?_⟩
  have h:Sat σ w (RM++(KM++((b,cel [hT q n c,hX (bs ur),hX (bs ti),.int .u8 (0:UInt8).toNat,hV k] e)::(b1,cel (N16.C {}).toList ak)::L))):=h.re
  have h0:=h
  refine je hS hg h hn λw q' n' c' us OM NM hn' hIN hO h=>⟨_,_,_,rfl,?_,?_,?_⟩
  ·exact h0.same h (lB0 _ (lB0 _ (.head _))) (lB0 _ (lB0 _ (lB0 _ (.head _)))) 1
  ·exact h0.same h (lB0 _ (lB0 _ (.head _))) (lB0 _ (lB0 _ (lB0 _ (.head _)))) 1
  ·exact jV (u:= {}) (NM:=OM++NM) ⟨{kind:=27,text:=ur,title:=ti,mark:=tcT 0},fW ks,q',n',c',us,OM,NM,rfl,rfl,rfl,⟨hu,hti,cg,cg⟩,hn',hIN,hO⟩ (h.re:Sat σ w ((b1,cel (N16.C {}).toList ak)::((OM++NM)++((b,cel [hT q n c,hX (bs ur),hX (bs ti),.int .u8 (0:UInt8).toNat,hV k] e)::(RM++KM)++L)))) hR
 | .del _ _,v,M,ht,hI=>ht.elim
 | .image _ _ _ _ _,v,M,ht,hI=>ht.elim
 | .auto _ _,v,M,ht,hI=>ht.elim
 | .tag _,v,M,ht,hI=>ht.elim
 | .hard,v,M,ht,hI=>ht.elim
 | .task _,v,M,ht,hI=>ht.elim
theorem eK: ∀ {ts:List Inl} {vs:List Value} {M:List ai},lR ts->InlsAt ts vs M->jQ ej (fW ts) vs M
 | [],vs,M,ht,hI=>by
  obtain⟨rfl,rfl⟩:=hI
  exact .nil
 |t::ts,vs,M,ht,hI=>by
  obtain⟨v,vs',M1,M2,rfl,rfl,h1,h2⟩:=hI
  exact .cons (wC ht.1 h1) (eK ht.2 h2)
end

theorem xQ (ls:List (List UInt8))(l:List UInt8):dK (ls++ [l])=dK ls++l++ [10]:=by unfold dK;simp
theorem B2 {q:OA}{c:Nat}{ls:List (List UInt8)}{E:List ai}(b8:Sl 1 aq q ls.length c (sv ls) E)(h:Sat σ w (E++L))(c2:ls.length<1048576)(hb:(dK ls).length<1073741824)(b4:ls.head? ≠some [])(b5: ∀w,Sat σ w (E++L)->R (hQ (hX (bs (dK ls)))) w):callE P mY #[hT q ls.length c] R w:=by
 refine gy.sound ?_
 refine Sat.bx h λb w h=>?_
 intro X W
 have a7: ∀k j H M w,j+k=ls.length->(H=true\/j=0)->Bld b H (dK (ls.take j)) M->Sat σ w (M++(E++L))->X b q ls.length c (ls.length:Int) (j:Int) w:=by
  intro k
  induction k with
  |zero=>
   intro j H M w b9 I y h
   rw[lB2 (by omega)] at y
   refine W _ _ _ _ _ _ _ (ae (by simp;omega) ?_)
   exact sQ y h (by omega) λw h=>⟨_,rfl,b5 w h⟩
  |succ k b7=>
   intro j H M w b9 I y h
   have O:j<ls.length:=by omega
   have U:dK (ls.take (j+1))=dK (ls.take j)++ls[j]++ [10]:=by rw[lH1 O,xQ]
   have V:(dK (ls.take (j+1))).length<=(dK ls).length:=by
    have:dK ls=dK (ls.take (j+1))++dK (ls.drop (j+1)):=by unfold dK;rw[<-lH5,lX1]
    rw[this,lA0];omega
   rw[U] at V
   simp only[lA0,lF0,lK1] at V
   have b3:Sat σ w (E++(M++L)):=h.re
   refine W _ _ _ _ _ _ _ (ag (by simp;omega) ⟨by omega,by omega,?_⟩)
   refine b8.loadAt b3 (tG O) λc3 c1 hc=>?_
   simp only[lK0,lC0,lC1,lN0]
   refine⟨_,hc,?_⟩
   have a6:ls[j]≠ []\/H=true:=by
    rcases I with I|rfl
    ·exact .inr I
    ·left
     intro b6
     apply b4
     rw[lC6,lI0 O,b6]
   refine sR (s:=ls[j]) y h a6 (by omega) λw M y h=>⟨_,_,rfl,?_⟩
   refine yH (k:=10) y h (by simp only[lA0];omega) λw M y h=>⟨_,rfl,?_⟩
   rw[aN (by omega)]
   refine b7 (j+1) true M w (by omega) (.inl rfl) ?_ h
   rw[U];exact y
 exact a7 ls.length 0 false _ w (by omega) (.inr rfl) (CH b) h
theorem AQ: ∃k v,P.underlying gQ=some (.map k v):=⟨aq,lu,by kernel_rfl⟩
theorem Sat.alo (h:Sat σ w L)(o:Obj):Sat σ (w.alloc o) ((w.heap.size,o)::L):=by
 refine⟨h.os,h.out,?_,?_⟩
 ·simp only[lU1,lV3]
  refine⟨λg=>?_,h.nodup⟩
  obtain⟨c,hc,y⟩:=lS1.1 g
  exact lN6 _ (y▸h.lt hc)
 ·intro c hc
  cases hc with
  |head=>exact(lH4 ..).trans rfl
  |tail _ hc=>
   have:=h.lt hc
   show (w.heap.push o)[c.1]? =some c.2
   rw[lO4 this,<-lP2 this]
   exact h.at_ _ hc
theorem uC (w:World):(Instr.range gQ (.map none)).run P w= .ok (kT (kE w.heap.size)) (w.alloc (.mapIter none 0 #[] 0)):=by
 obtain⟨k,v,g⟩:=AQ
 unfold Instr.range
 rw[lX0,run_underlying g]
 rfl
theorem vP {b:Nat}{t:TypeId}(h:w.heap[b]? =some (.mapIter none 0 #[] 0)):(Instr.next (kT (kE b)) false t).run P w= .ok (.tuple #[hV false]) w:=by
 have g:(getObj b).run P w= .ok (.mapIter none 0 #[] 0) w:=by simp[getObj,Sem.run,h]
 simp[Instr.next,g]
theorem Fu (I:R (hQ (hY 0)) w):callE P ko #[.int .u64 0] R w:=by
 refine kv.sound ?_
 refine cB.sound ?_
 refine ae rfl (ae rfl (ae rfl ?_))
 unfold cB.k3
 generalize g:hP _=T
 have H:IntKind.u8.wrap 0=((0:Nat):Int):=rfl
 have y:T.size=256:=by rw[<-g];kernel_rfl
 have E:bt T ((0:Nat):Int)=0:=by rw[<-g];kernel_rfl
 rw[H,y,E]
 exact⟨by decide,by decide,_,rfl,I⟩
theorem Db {f:Value}(E:R (hQ (.tuple #[])) w):callE P dh #[hT none 0 0,f] R w:=by
 refine di.sound ?_
 refine Fu ⟨_,rfl,?_⟩
 refine bA.sound ?_
 intro X g
 refine g _ _ _ _ _ _ _ _ _ _ (ag rfl ?_)
 refine ba.sound ?_
 intro Y y
 exact y _ _ _ _ _ _ _ _ (ae rfl ⟨rfl,rfl,E⟩)
theorem fG {t:TypeId}{b s e:Nat}{cs:List Value}{ty:TypeId}{K:Nat->Nat->World->Prop}(b8:kJ P t "Pos" cA=true) (h:Sat σ w L) (hc:(b,cel (hY s:: hY e::cs) ty)∈L)
 (b7: ∀b1 g w,Sat σ w ((g,cel (N16.C {a8:=s,a9:=e}).toList ak)::(b1,cel (N16.C {}).toList ak)::L)->K b1 g w):
 box w (N16.C {}) ak λb1 b6=>cY P (callMethod (.iface t (kT (kE b))) "Pos" #[]) (λe b3=> ∃(H:Int),∃(I:Int),e= hQ (.agg #[hY H,hY I])/\
  box b3 #[hY 0,hY 0] aF λy b4=>stV b4 (hZ y 0) (hY H) λa7=>stV a7 (hZ y 1) (hY I) λE=> ∃(U:Int),E.cell? (hZ y 0)=some (hY U)/\ ∃(O:Int),E.cell? (hZ y 1)=some (hY O)/\
  box E (N16.C {}) ak λg W=>st16 W g {a8:=U,a9:=O} λV=>K b1 g V) b6:=by
 refine Sat.bx h λb1 w h=>?_
 have b9:DB.posIs ⟨.iface t (kT (kE b)),[(b,cel (hY s:: hY e::cs) ty)],[]⟩ s e:=jT b8 rfl (.head _)
 refine b9 σ _ _ w (λc a6=> .tail _ (by rw[lQ0.1 a6];exact hc)) h λw h=>⟨_,_,rfl,?_⟩
 refine Sat.bx h λy w h=>?_
 refine h.stA 0 λw h=>?_
 refine h.stA 0 λw h=>?_
 refine⟨_,Sat.ld h (.head _) (i:=0) rfl,_,Sat.ld h (.head _) (i:=1) rfl,?_⟩
 refine Sat.bx h λg w h=>?_
 have h:Sat σ w ((g,cel (N16.C {}).toList ak)::(y,cel [hY s,hY e] aF)::(b1,cel (N16.C {}).toList ak)::L):=h
 refine h.st16 0 {} {a8:=s,a9:=e} λw h=>b7 b1 g w ?_
 exact h.sub (.cons_cons _ (.cons _ (List.Sublist.refl _)))
theorem ia {u v:N16}{x:IN}{b1 g:Nat}{NM K:List ai}(H:NodeAt x v NM)(h:Sat σ w ((g,cel v.C.toList ak)::(b1,cel u.C.toList ak)::(NM++K)))(I: ∀w u M,NodeAt x u M->Sat σ w (M++K)->R (hQ u.V) w):
 ldB16 w g λm=>st16 w b1 m λy=>ldB16 y b1 λE=>R (hQ E.V) y:=
 h.ldB16 v (.head _) (h.st16 1 u v λw h=>h.ldB16 v (.tail _ (.head _)) (I w v NM H h.tail.tail))
def g9 (R:EP)(E:OA)(b4:Value)(w:World):Prop:=
 tk w λg=>
 aA E λa2=>
 aA E λa3=>
 aA E λa4=>
 ∃a6,g.cell? a2=some (hX a6)/\
 ∃W,g.cell? (a3.add 1)=some (hX W)/\
 ∃U V O,g.cell? (a4.add 3)=some (hT U V O)/\
 cY P (callMethod b4 "pub-paratext/pub/rscmarkdown.pos" #[]) (λe y=> ∃I H,e= hQ (.agg #[hY I,hY H])/\
 SameC g y (a4.add 3) 1/\
 SameC g y (a3.add 1) 1/\
 SameC g y (a2) 1/\
 box y #[hY I,hY H,hX a6,hX W,hT U V O] mI λb3 a7=>
 R (hQ (.iface cJ (kT (kE b3)))) a7) g
theorem g9.sound {R x0 x1 w}(h:g9 R x0 x1 w):callE P gW #[kT x0,x1] R w:=
 aH [(5,.dr (rpN [0,6,9,12,18,21,24,30,33,36,16,28,40,5,42,47,48,51]))] Tryz.func440 Tryz.call440 h
namespace bz
def k2 (R:EP)(e1 W:OA)(e2 g:Nat)(w:World):Prop:=
 tk w λO=>
 aA e1 λI=>
 ∃a6 b8 b5,O.cell? (I.add 3)=some (hT a6 b8 b5)/\
 callE P gK #[kT (kE e2)] (λe U=> ∃c5,e= hQ (hX c5)/\
 SameC O U (I.add 3) 1/\
 ∃b3 b4,∃b6 V,(Instr.buildSlice al 1 #[(0,hX c5)]).run P U= .ok (hT b3 b4 b6) V/\
 SameC U V (I.add 3) 1/\
 ∃a7 b7,∃b9 c1,(Builtin.append_ #[al,al] al #[hT a6 b8 b5,hT b3 b4 b6]).run P V= .ok (hT a7 b7 b9) c1/\
 aA e1 λe5=>
 stV c1 ((e5.add 3).add 0) (hT a7 b7 b9) λH=>
 aA W λf6=>
 ∃c2,H.cell? (f6.add 6)=some (hV c2)/\
 br c2
 (aA W λe9=>
 stV H ((e9.add 6).add 0) (hV true) λe3=>
 stV e3 (hZ g 0) (hY 0) λe4=>
 stV e4 (hZ g 1) (hY 0) λe7=>
 stV e7 (hZ g 2) (hY 0) λf1=>
 stV f1 (hZ g 3) (hX (hP #[])) λf2=>
 stV f2 (hZ g 4) (.int .u8 0) λy=>
 ∃d2,y.cell? (hZ g 0)=some (hY d2)/\
 ∃e0,y.cell? (hZ g 1)=some (hY e0)/\
 ∃d0,y.cell? (hZ g 2)=some (hY d0)/\
 ∃c3,y.cell? (hZ g 3)=some (hX c3)/\
 ∃d1,y.cell? (hZ g 4)=some (.int .u8 d1)/\
 R (hQ (.tuple #[.agg #[hY d2,hY e0,hY d0,hX c3,.int .u8 d1],hV true])) y)
 (∃c9,H.cell? (hZ e2 4)=some (.int .u8 c9)/\
 aA W λf5=>
 stV H ((f5.add 6).add 0) (hV (c9 !=10)) λf0=>
 stV f0 (hZ g 0) (hY 0) λe6=>
 stV e6 (hZ g 1) (hY 0) λf4=>
 stV f4 (hZ g 2) (hY 0) λf3=>
 stV f3 (hZ g 3) (hX (hP #[])) λe8=>
 stV e8 (hZ g 4) (.int .u8 0) λE=>
 ∃c4,E.cell? (hZ g 0)=some (hY c4)/\
 ∃d3,E.cell? (hZ g 1)=some (hY d3)/\
 ∃d4,E.cell? (hZ g 2)=some (hY d4)/\
 ∃c8,E.cell? (hZ g 3)=some (hX c8)/\
 ∃d5,E.cell? (hZ g 4)=some (.int .u8 d5)/\
 R (hQ (.tuple #[.agg #[hY c4,hY d3,hY d4,hX c8,.int .u8 d5],hV true])) E)) O
def k1 (R:EP)(y a7:OA)(O a6:Nat)(w:World):Prop:=
 tk w λg=>
 aA y λW=>
 aA y λV=>
 ∃E,g.cell? (W.add 2)=some (hY E)/\
 ∃I,g.cell? (V.add 2)=some (hY I)/\
 callE P bl #[kT (kE O),hY E,hY I,hV false] (λe U=> ∃H,e= hQ (hV H)/\
 br (!H)
 (False)
 (k2 R y a7 O a6 U)) g
end bz
def bz (R:EP)(U V:OA)(e1 d5 e2:Int)(d4:BA)(e0:Int)(w:World):Prop:=
 box w #[hY e1,hY d5,hY e2,hX d4,.int .u8 e0] aW λb1 g0=>
 box g0 #[hY 0,hY 0,hY 0,hX (hP #[]),.int .u8 0] aW λg f5=>
 box f5 #[hX (hP #[])] aq λd2 f6=>
 box f6 #[hX (hP #[])] aq λd3 g1=>
 box g1 #[hY 0] bg λg2 E=>
 ∃d0,E.cell? (hZ b1 0)=some (hY d0)/\
 ∃c9,E.cell? (hZ b1 1)=some (hY c9)/\
 ∃a7,E.cell? (hZ b1 2)=some (hY a7)/\
 ∃W,E.cell? (hZ b1 3)=some (hX W)/\
 ∃a6,E.cell? (hZ b1 4)=some (.int .u8 a6)/\
 box E #[hY 0,hY 0,hY 0,hX (hP #[]),.int .u8 0] aW λH e4=>
 stV e4 (hZ H 0) (hY d0) λf3=>
 stV f3 (hZ H 1) (hY c9) λe9=>
 stV e9 (hZ H 2) (hY a7) λf2=>
 stV f2 (hZ H 3) (hX W) λe5=>
 stV e5 (hZ H 4) (.int .u8 a6) λe7=>
 tk e7 λe3=>
 callE P fK #[kT (kE H),kT (kE d2),kT (kE d3),kT (kE g2)] (λe O=> ∃d1,e= hQ (hV d1)/\
 br d1
 (aA U λf1=>
 ∃b6,O.cell? (hZ d2 0)=some (hX b6)/\
 ∃c4,O.cell? f1=some (hX c4)/\
 callE P iw #[hX b6,hX c4] (λe I=> ∃c8,e= hQ (hV c8)/\
 br c8
 (∃c3,I.cell? (hZ d3 0)=some (hX c3)/\
 br (c3.toList==(hP #[]).toList)
 (stV I (hZ g 0) (hY 0) λe6=>
 stV e6 (hZ g 1) (hY 0) λf0=>
 stV f0 (hZ g 2) (hY 0) λe8=>
 stV e8 (hZ g 3) (hX (hP #[])) λf4=>
 stV f4 (hZ g 4) (.int .u8 0) λy=>
 ∃b4,y.cell? (hZ g 0)=some (hY b4)/\
 ∃c1,y.cell? (hZ g 1)=some (hY c1)/\
 ∃b8,y.cell? (hZ g 2)=some (hY b8)/\
 ∃c2,y.cell? (hZ g 3)=some (hX c2)/\
 ∃c5,y.cell? (hZ g 4)=some (.int .u8 c5)/\
 R (hQ (.tuple #[.agg #[hY b4,hY c1,hY b8,hX c2,.int .u8 c5],hV false])) y)
 (bz.k1 R U V b1 g I))
 (bz.k1 R U V b1 g I)) O)
 (bz.k1 R U V b1 g O)) e3
theorem bz.sound {R x0 x1 x2_0 x2_1 x2_2 x2_3 x2_4 w}(h:bz R x0 x1 x2_0 x2_1 x2_2 x2_3 x2_4 w):callE P gq #[kT x0,kT x1,.agg #[hY x2_0,hY x2_1,hY x2_2,hX x2_3,.int .u8 x2_4]] R w:=
 aH [(87,.dr (rpN [2,3,9,12,15,7,19,23,24,27,31,33,36])),(31,.mk [2,22,106,126] (bz.k1 R)),(79,.dr (rpN [0,3,6,12,15,18,10,22,26,27])),(175,.no),(63,.mk [2,22,106,126] (bz.k2 R)),(95,.dr (rpN [0,3,6,9,13,17,20,23,24,27,32]))] Tryz.func441 Tryz.call441 h
namespace gz
def bl1 (R:EP)(Xa:BA->Int->WP)(y:BA)(g:Int)(w:World):Prop:=
 br (decide (g<12))
 (0<=g/\g<(12:Int)/\
 0<=(0:Int)/\0<(2:Int)/\
 ∃v1,w.cell? (((⟨1,0,none⟩:Addr).add (Int.toNat g*2)).add (Int.toNat 0*1))=some (hX v1)/\
 br (v1.toList==y.toList)
 (0<=g/\g<(12:Int)/\
 0<=(1:Int)/\1<(2:Int)/\
 ∃E,w.cell? (((⟨1,0,none⟩:Addr).add (Int.toNat g*2)).add (Int.toNat 1*1))=some (hX E)/\
 R (hQ (.tuple #[hX E,hV true])) w)
 (Xa y (i64.wrap (g+1)) w))
 (R (hQ (.tuple #[hX (hP #[]),hV false])) w)
def l1 (R:EP)(g:BA)(y:Int)(w:World):Prop:=
 ∀X:BA->Int->WP,(∀g y w,bl1 R X g y w->X g y w)->X g y w
end gz
def gz (R:EP)(g:BA)(w:World):Prop:=
 gz.l1 R g 0 w
theorem gz.sound {R x0 w}(h:gz R x0 w):callE P m0 #[hX x0] R w:=
 aH [(21,.lp [1,87] (gz.bl1 R) λXa=> [])] Tryz.func169 Tryz.call169 h
namespace bi
def k3 (R:EP)(Xa:BA->Nat->Int->WP)(y:BA)(E:Nat)(g:Int)(w:World):Prop:=
 0<=g/\g<(y.size:Int)/\
 callE P bU #[kT (kE E),.int .u8 (bt y g)] (λe H=> ∃(I:Value),e= hQ I/\
 Xa y E (i64.wrap (g+1)) H) w
def k2 (R:EP)(Xa:BA->Nat->Int->WP)(g:BA)(H:Nat)(E y:Int)(w:World):Prop:=
 br (decide (y<(g.size:Int)))
 (0<=E/\E<=(i64.wrap (y+1))/\(i64.wrap (y+1))<=(g.size:Int)/\
 callE P m0 #[hX (g.extract (Int.toNat E) (Int.toNat (i64.wrap (y+1))))] (λe U=> ∃I O,e= hQ (.tuple #[hX I,hV O])/\
 br O
 (callE P bv #[kT (kE H),hX I] (λe a6=> ∃W,∃(V:Value),e= hQ (.tuple #[hY W,V])/\
 Xa g H (i64.wrap (y+1)) a6) U)
 (k3 R Xa g H E U)) w)
 (k3 R Xa g H E w)
def bl2 (R:EP)(Xa:BA->Nat->Int->WP)(I:BA->Nat->Int->Int->WP)(y:BA)(E:Nat)(H g:Int)(w:World):Prop:=
 ((decide (g<(y.size:Int)))=true->0<=g/\g<(y.size:Int))/\
 br ((decide (g<(y.size:Int))) && ((bt y g) !=59))
 (I y E H (i64.wrap (g+1)) w)
 (k2 R Xa y E H g w)
def l2 (R:EP)(Xa:BA->Nat->Int->WP)(y:BA)(E:Nat)(H g:Int)(w:World):Prop:=
 ∀X:BA->Nat->Int->Int->WP,(∀y E H g w,bl2 R Xa X y E H g w->X y E H g w)->X y E H g w
def k1 (R:EP)(Xa:BA->Nat->Int->WP)(y:BA)(E:Nat)(g:Int)(H:Bool)(w:World):Prop:=
 br H
 (0<=(i64.wrap (g+1))/\(i64.wrap (g+1))<(y.size:Int)/\
 callE P bU #[kT (kE E),.int .u8 (bt y (i64.wrap (g+1)))] (λe I=> ∃(V:Value),e= hQ V/\
 Xa y E (i64.wrap ((i64.wrap (g+1))+1)) I) w)
 (0<=g/\g<(y.size:Int)/\
 br ((bt y g)==38)
 (l2 R Xa y E g (i64.wrap (g+1)) w)
 (0<=g/\g<(y.size:Int)/\
 callE P bU #[kT (kE E),.int .u8 (bt y g)] (λe O=> ∃(U:Value),e= hQ U/\
 Xa y E (i64.wrap (g+1)) O) w))
def bl1 (R:EP)(Xa:BA->Nat->Int->WP)(y:BA)(E:Nat)(g:Int)(w:World):Prop:=
 br (decide (g<(y.size:Int)))
 (0<=g/\g<(y.size:Int)/\
 ((((bt y g)==92) && (decide ((i64.wrap (g+1))<(y.size:Int))))=true->0<=(i64.wrap (g+1))/\(i64.wrap (g+1))<(y.size:Int))/\
 br (((bt y g)==92) && (decide ((i64.wrap (g+1))<(y.size:Int))))
 (callE P lI #[.int .u8 (bt y (i64.wrap (g+1)))] (λe U=> ∃H,e= hQ (hV H)/\
 k1 R Xa y E g H U) w)
 (k1 R Xa y E g false w))
 (callE P dm #[kT (kE E)] (λe O=> ∃I,e= hQ (hX I)/\
 R (hQ (hX I)) O) w)
def l1 (R:EP)(g:BA)(y:Nat)(E:Int)(w:World):Prop:=
 ∀X:BA->Nat->Int->WP,(∀g y E w,bl1 R X g y E w->X g y E w)->X g y E w
end bi
def bi (R:EP)(y:BA)(w:World):Prop:=
 box w #[] jv λb1 H=>
 box H #[kT none,hT none 0 0] cr λg E=>
 bi.l1 R y g 0 E
theorem bi.sound {R x1 w}(h:bi R x1 w):callE P gp #[.agg #[],hX x1] R w:=
 aH [(43,.lp [21,106,127] (bi.bl1 R) λXa=> [(49,.mk [21,106,127,400] (bi.k1 R Xa)),(2417,.lp [21,106,127,147] (bi.bl2 R Xa) λg=> []),(1905,.mk [21,106,127,147] (bi.k2 R Xa)),(3953,.mk [21,106,127] (bi.k3 R Xa))])] Tryz.func229 Tryz.call229 h
def nh (R:EP)(g:BA)(w:World):Prop:=
 callE P iR #[hX g,hX (hP #[92])] (λe I=> ∃y,e= hQ (hV y)/\
 br (!y)
 (callE P iR #[hX g,hX (hP #[38])] (λe H=> ∃E,e= hQ (hV E)/\
 br (!E)
 (R (hQ (hX g)) H)
 (False)) I)
 (False)) w
theorem nh.sound {R x0 w}(h:nh R x0 w):callE P mU #[hX x0] R w:=
 aH [(29,.no),(7,.no)] Tryz.func228 Tryz.call228 h
namespace dW
def k2 (R:EP)(H:BA)(y g:Int)(w:World):Prop:=
 0<=y/\y<=g/\g<=(H.size:Int)/\
 callE P mU #[hX (H.extract (Int.toNat y) (Int.toNat g))] (λe I=> ∃E,e= hQ (hX E)/\
 R (hQ (.tuple #[hX E,hY g,hV true])) I) w
def bl2 (R:EP)(Xa:BA->Int->Int->Int->WP)(y:BA)(E H g:Int)(w:World):Prop:=
 br (decide (g<(y.size:Int)))
 (0<=g/\g<(y.size:Int)/\
 br ((bt y g)==40)
 (False)
 (br ((bt y g)==41)
 (br (H==0)
 (k2 R y E g w)
 (False))
 (br ((bt y g)==92)
 (False)
 (br ((bt y g)==32)
 (False)
 (br ((bt y g)==9)
 (False)
 (br ((bt y g)==10)
 (False)
 (Xa y E H (i64.wrap (g+1)) w)))))))
 (False)
def l2 (R:EP)(g:BA)(y E H:Int)(w:World):Prop:=
 ∀X:BA->Int->Int->Int->WP,(∀g y E H w,bl2 R X g y E H w->X g y E H w)->X g y E H w
end dW
def dW (R:EP)(y:BA)(g:Int)(w:World):Prop:=
 br (decide (g >= (y.size:Int)))
 (False)
 (0<=g/\g<(y.size:Int)/\
 br ((bt y g)==60)
 (False)
 (dW.l2 R y g 0 g w))
theorem dW.sound {R x0 x1 w}(h:dW R x0 x1 w):callE P km #[hX x0,hY x1] R w:=
 aH [(41,.no),(85,.no),(637,.lp [1,27,167,187] (dW.bl2 R) λXa=> [(14,.no),(169,.no),(7401,.no),(3049,.no),(22505,.no),(96233,.no),(12265,.no)]),(509,.mk [1,27,187] (dW.k2 R))] Tryz.func172 Tryz.call172 h
namespace aZ
def k7 (R:EP)(b3:OA)(a6:BA)(a7:Int)(W:OA)(H:Int)(g E:BA)(y:Int)(O I:Bool)(w:World):Prop:=
 br I
 (box w #[hT none 0 0,hX g,hX E,.int .u8 y,hV O] um λU V=>
 R (hQ (.tuple #[kT (kE U),hY (i64.wrap (H+1)),hV true])) V)
 (False)
def k4 (R:EP)(W:OA)(y:BA)(V:Int)(U:OA)(g:Int)(E I:BA)(H:Int)(O:Bool)(w:World):Prop:=
 ((decide (g<(y.size:Int)))=true->0<=g/\g<(y.size:Int))/\
 k7 R W y V U g E I H O ((decide (g<(y.size:Int))) && ((bt y g)==41)) w
def k3 (R:EP)(a6:OA)(V:BA)(W:Int)(U:OA)(H:Int)(g E:BA)(y:Int)(O I:Bool)(w:World):Prop:=
 br I
 (False)
 (k4 R a6 V W U H g E y O w)
def k1 (R:EP)(b6:OA)(y:BA)(b4:Int)(b3:OA)(W:Int)(b7 V:BA)(O:Int)(a6 U:Bool)(w:World):Prop:=
 br U
 (callE P km #[hX y,hY W] (λe a7=> ∃E H I,e= hQ (.tuple #[hX E,hY H,hV I])/\
 br (!I)
 (False)
 (callE P kl #[hX y,hY H] (λe b5=> ∃g,e= hQ (hY g)/\
 ((decide (g<(y.size:Int)))=true->0<=g/\g<(y.size:Int))/\
 k3 R b6 y b4 b3 g E V O a6 ((decide (g<(y.size:Int))) && ((bt y g) !=41)) b5) a7)) w)
 (False)
end aZ
def aZ (R:EP)(I:OA)(g:BA)(E:Int)(H:OA)(w:World):Prop:=
 br (decide ((i64.wrap (E+1))<(g.size:Int)))
 (0<=(i64.wrap (E+1))/\(i64.wrap (E+1))<(g.size:Int)/\
 br ((bt g (i64.wrap (E+1)))==40)
 (callE P kl #[hX g,hY (i64.wrap (E+2))] (λe O=> ∃y,e= hQ (hY y)/\
 ((decide (y<(g.size:Int)))=true->0<=y/\y<(g.size:Int))/\
 aZ.k1 R I g E H y (hP #[]) (hP #[]) 0 false ((decide (y<(g.size:Int))) && ((bt g y) !=41)) O) w)
 (False))
 (False)
theorem aZ.sound {R x0 x1 x2 x3 w}(h:aZ R x0 x1 x2 x3 w):callE P eA #[kT x0,hX x1,hY x2,kT x3] R w:=
 aH [(28501,.mk [2,21,47,62,227,241,261,288,300,980] (aZ.k1 R)),(1421141,.no),(2076501,.mk [2,21,47,62,227,241,261,288,300,1420] (aZ.k3 R)),(3125077,.no),(61269,.no),(16213,.mk [2,21,47,62,227,241,261,288,300] (aZ.k4 R)),(32597,.mk [2,21,47,62,227,241,261,288,300,1920] (aZ.k7 R)),(65365,.no),(469,.no),(29,.no),(7,.no)] Tryz.func123 Tryz.call123 h

theorem qJ {s:List UInt8}{i:Nat}(hi:i<s.length)(h:lg (s.getD i 0)=false):oF s i=i:=by
 unfold oF
 rw[lI1 hi,lH2 (by rw[na hi 0,h];decide)]
 simp;omega
theorem rl {s:List UInt8}(hs:s.length<4611686018427387904)(g:(92:UInt8) ∉ s)(y:(38:UInt8) ∉ s)(E:R (hQ (hX (bs s))) w):callE P mU #[hX (bs s)] R w:=by
 refine nh.sound ?_
 refine jR (sub:= [92]) hs (by decide) ⟨_,rfl,ag (by rw[kO g];rfl) ?_⟩
 exact jR (sub:= [38]) hs (by decide) ⟨_,rfl,ag (by rw[kO y];rfl) E⟩
def yB (c:UInt8):Bool:=c !=40 && c !=41 && c !=92 && c !=32 && c !=9 && c !=10 && c !=38 && c !=60
theorem oG {s D:List UInt8}{i j:Nat}(hs:s.length<1000000)(a6:i<j)(d4:j<s.length)(E:sub s i j=D)(I: ∀k,i<=k->k<j->yB (s.getD k 0)=true)(V:s.getD j 0=41)(b3:R (hQ (.tuple #[hX (bs D),hY j,hV true])) w):callE P km #[hX (bs s),hY i] R w:=by
 have nb: ∀k,i<=k->k<j-> ∀d:UInt8,(d=40\/d=41\/d=92\/d=32\/d=9\/d=10\/d=60)->(bt (bs s) (k:Int)==(d.toNat:Int))=false:=by
  intro k b4 b5 d hd
  rw[oO,mA]
  have:=I k b4 b5
  simp only[yB,lM1,bne_iff_ne,ne_eq] at this
  obtain⟨⟨⟨⟨⟨⟨⟨b9,d0⟩,c9⟩,d1⟩,d2⟩,c6⟩,c7⟩,b8⟩:=this
  rcases hd with rfl|rfl|rfl|rfl|rfl|rfl|rfl<;>simpa using ‹_›
 refine dW.sound ?_
 refine ae (by simp;omega) ⟨by omega,by simp;omega,ae (nb i (lZ0 _) a6 60 (by decide)) ?_⟩
 intro X U
 have H: ∀c∈D,yB c=true:=by
  intro c hc
  rw[<-E] at hc
  obtain⟨m,y,rfl⟩:=lM6.1 hc
  have d3:=pW (s:=s) (i:=i) (j:=j) (by omega)
  rw[na y 0]
  have e:(sub s i j).getD m 0=s.getD (i+m) 0:=by
   unfold sub
   rw[Cs,lP0,lP0,lM3 (by omega)]
  rw[e];exact I _ (by omega) (by omega)
 have b7:D.length<1000000:=by rw[<-E,pW (by omega)];omega
 have W: ∀k m,m+k=j->i<=m->X (bs s) (i:Int) 0 (m:Int) w:=by
  intro k
  induction k with
  |zero=>
   intro m y O
   obtain rfl:m=j:=y
   have a7:bt (bs s) (m:Int)=41:=by rw[oO,V];rfl
   refine U _ _ _ _ _ (ag (by simp;omega) ⟨by omega,by simp;omega,?_⟩)
   rw[a7]
   refine ae rfl (ag rfl (ag rfl ⟨by omega,by omega,by simp;omega,?_⟩))
   rw[lC0,lC0,cm,show (s.take m).drop i=D from E]
   exact rl (by omega) (λh=>by have:=H _ h;revert this;decide) (λh=>by have:=H _ h;revert this;decide) ⟨_,rfl,b3⟩
  |succ k b6=>
   intro m y O
   have g:=nb m O (by omega)
   refine U _ _ _ _ _ (ag (by simp;omega) ⟨by omega,by simp;omega,?_⟩)
   refine ae (g 40 (by decide)) (ae (g 41 (by decide)) (ae (g 92 (by decide)) (ae (g 32 (by decide)) (ae (g 9 (by decide)) (ae (g 10 (by decide)) ?_)))))
   rw[aN (by omega)]
   exact b6 (m+1) (by omega) (by omega)
 exact W (j - i) i (by omega) (lZ0 _)
theorem yr {A B:List UInt8}{i:Nat}(h:A.length=i)(k:Nat):(A++B).getD (i+k) 0=B.getD k 0:=by
 subst h;rw[pw (by omega),lY5]
theorem yC {b:Nat}{p:PS}{A B D t:List UInt8}{k:Nat}(b3:(A++93::40::(D++41::B)).length<1000000)(W:D≠ [])(O: ∀c∈D,yB c=true/\lg c=false):
 vv b p (A++93::40::(D++41::B)) A.length t k [] D [] 0 false (A.length+3+D.length):=by
 intro σ R L w ob e _ _ _ h a7
 generalize hs:A++93::40::(D++41::B)=s at b3⊢
 have b4:s.length=A.length+3+D.length+B.length:=by rw[<-hs];simp;omega
 have I:=lY0.2 W
 have a6:s.getD (A.length+1) 0=40:=by rw[<-hs,yr rfl];rfl
 have U: ∀m (H:m<D.length),s.getD (A.length+2+m) 0=D[m]:=by
  intro m H
  rw[<-hs,show A.length+2+m=A.length+(m+2) by omega,yr rfl]
  show (D++41::B).getD m 0=_
  rw[nf H,<-na H]
 have g:s.getD (A.length+2+D.length) 0=41:=by
  rw[<-hs,show A.length+2+D.length=A.length+(D.length+2) by omega,yr rfl]
  exact uY D B 41 0
 refine aZ.sound ?_
 unfold aZ
 rw[aN (by omega),show i64.wrap ((A.length:Int)+2)=((A.length+2:Nat):Int) by rw[show ((A.length:Int)+2)=((A.length+2:Nat):Int) by omega,i64_in _ (by omega)]]
 refine ag (by simp;omega) ⟨by omega,by simp;omega,?_⟩
 rw[oO,a6]
 refine ag rfl ?_
 have E:=U 0 I
 rw[lL1] at E
 have y:=O D[0] (lP1 I)
 refine rQ (by omega) (by omega) ⟨_,rfl,?_⟩
 rw[qJ (by omega) (by rw[E];exact y.2)]
 refine⟨λ_=>⟨by omega,by simp;omega⟩,?_⟩
 rw[oO,E]
 refine ag ?_ ?_
 ·have V:D[0]≠41:=by intro h;rw[h] at y;exact absurd y.1 (by decide)
  rw[bne,u8b D[0] 41 41 rfl];simp[V];omega
 refine oG (D:=D) (j:=A.length+2+D.length) (by omega) (by omega) (by omega) ?_ (λm b6 b5=>?_) g ⟨_,_,_,rfl,ae rfl ?_⟩
 ·unfold sub
  rw[<-hs,show A++93::40::(D++41::B)=(A++ [93,40])++(D++41::B) by simp,<-lD0,lC5 (by simp;omega),lB5 (by simp)]
 ·obtain⟨d,rfl⟩: ∃d,m=A.length+2+d:=⟨m - (A.length+2),by omega⟩
  rw[U d (by omega)];exact(O _ (lP1 _)).1
 refine rQ (by omega) (by omega) ⟨_,rfl,?_⟩
 rw[qJ (by omega) (by rw[g];decide)]
 refine⟨λ_=>⟨by omega,by simp;omega⟩,?_⟩
 rw[oO,g]
 refine ae (by rw[show (((41:UInt8).toNat:Int) !=41)=false from rfl,Bool.and_false]) ⟨λ_=>⟨by omega,by simp;omega⟩,?_⟩
 rw[oO,g]
 refine ag (by rw[show (((41:UInt8).toNat:Int)==41)=true from rfl,Bool.and_true];simp;omega) ?_
 rw[aN (by omega),show A.length+2+D.length+1=A.length+3+D.length by omega]
 exact Sat.bx h λlb w h=>a7 w lb h

def tkS (tk:UInt8->List UInt8)(s:List UInt8):List UInt8:=s.flatMap tk
@[simp] theorem tkS_nil (tk:UInt8->List UInt8):tkS tk []= []:=rfl
@[simp] theorem tkS_cons (tk:UInt8->List UInt8) (c:UInt8) (s:List UInt8):tkS tk (c::s)=tk c++tkS tk s:=lJ3 ..
@[simp] theorem FY (tk:UInt8->List UInt8) (s t:List UInt8):tkS tk (s++t)=tkS tk s++tkS tk t:=lH5 ..

def Ay (c:ai):Prop:= ∃cs e g,c=(1,.cells cs e g)/\ ∀i:Nat,i<12-> ∃a b:List UInt8,cs[2*i]? =some (hX (bs a))/\cs[2*i+1]? =some (hX (bs b))/\b.length<=10/\b≠ []
theorem tw {c:ai}{s:List UInt8}(V:Ay c)(hc:c∈L)(h:Sat σ w L)(y: ∀(t:List UInt8) (k:Bool),t.length<=10->(k=true->t≠ [])->R (hQ (.tuple #[hX (bs t),hV k])) w):callE P m0 #[hX (bs s)] R w:=by
 obtain⟨cs,e,a7,rfl,H⟩:=V
 have hb:=h.at_ _ hc
 refine gz.sound ?_
 intro X g
 have E: ∀k i:Nat,i+k=12->X (bs s) (i:Int) w:=by
  intro k
  induction k with
  |zero=>
   intro i hi
   exact g _ _ _ (ae (by simp;omega) (y [] false (by simp) (by simp)))
  |succ k U=>
   intro i hi
   obtain⟨a,b,W,O,a6,I⟩:=H i (by omega)
   refine g _ _ _ (ag (by simp;omega) ⟨by omega,by omega,by decide,by decide,bs a,?_,?_⟩)
   ·simp only[lK0,lC0,lN0]
    rw[nu hb,<-W];congr 1;simp;omega
   refine bM (λ_=>⟨by omega,by omega,by decide,by decide,bs b,?_,y b true a6 λ_=>I⟩) λ_=>?_
   ·simp only[lK0,lC0,lN0]
    rw[nu hb,<-O];congr 1;simp;omega
   ·rw[aN (by omega)]
    exact U (i+1) (by omega)
 exact E 12 0 rfl
def UnE (s t:List UInt8):Prop:=t.length<=10*s.length/\((∀c∈s,c≠92/\c≠38)->t=s)
theorem xO {s:List UInt8}{ec:ai}(e0:s.length<1000000)(d0:Ay ec)(c2:ec∈L)(h:Sat σ w L)(c9: ∀w t,UnE s t->Sat σ w L->R (hQ (hX (bs t))) w):
 callE P gp #[.agg #[],hX (bs s)] R w:=by
 refine bi.sound ?_
 refine Sat.bx h λb0 w h=>?_
 refine Sat.bx h λb w h=>?_
 intro X b7
 have b9: ∀(n i:Nat) (E:List UInt8) (g:Bool) (M:List ai) w,i+n=s.length->E.length<=10*i->((∀c∈s,c≠92/\c≠38)->E=s.take i)->Bld b g E M->Sat σ w (M++((b0,cel [] jv)::L))->
  X (bs s) b (i:Int) w:=by
  intro n
  induction n using Nat.strongRecOn with
  |_ n b3=>
  intro i E g M w d5 d4 b6 W h
  by_cases d2:n=0
  ·subst d2
   refine b7 _ _ _ _ (ae (by simp;omega) ?_)
   refine sQ W h (by omega) λw h=>⟨_,rfl,c9 w E ⟨by omega,λhc=>?_⟩ h.tail⟩
   rw[b6 hc,lB2 (by omega)]
  have H:i<s.length:=by omega
  have a6:i64.wrap ((i:Int)+1)=((i+1:Nat):Int):=aN (by omega)
  have b4: ∀w,Sat σ w (M++((b0,cel [] jv)::L))->callE P bU #[kT (kE b),.int .u8 (bt (bs s) (i:Int))] (λe c8=> ∃(c4:Value),e= hQ c4/\X (bs s) b (i64.wrap ((i:Int)+1)) c8) w:=by
   intro w h
   rw[pE H]
   refine yH (k:=s[i]) W h (by omega) λw U I O=>⟨_,rfl,?_⟩
   rw[a6]
   refine b3 (n - 1) (by omega) (i+1) (E++ [s[i]]) _ U w (by omega) (by simp;omega) (λhc=>?_) I O
   rw[b6 hc,lH1 H]
  have k3: ∀w,Sat σ w (M++((b0,cel [] jv)::L))->bi.k3 R X (bs s) b (i:Int) w:=λw h=>⟨by omega,by simp;omega,b4 w h⟩
  have b5:bi.k1 R X (bs s) b (i:Int) false w:=by
   refine ae rfl ⟨by omega,by simp;omega,bM (λV=>?_) λ_=>⟨by omega,by simp;omega,b4 w h⟩⟩
   have V:s[i]=38:=by rw[pE H,u8b _ 38 38 rfl] at V;simpa using V
   have a7: ¬ ∀c∈s,c≠92/\c≠38:=λhc=>(hc s[i] (lP1 H)).2 V
   rw[a6]
   intro Y b8
   have go: ∀m j:Nat,i<j->j+m=s.length->Y (bs s) b (i:Int) (j:Int) w:=by
    intro m
    induction m with
    |zero=>
     intro j c1 d3
     refine b8 _ _ _ _ _ ⟨λy=>by simp at y;omega,ae (by simp;omega) ?_⟩
     exact ae (by simp;omega) (k3 w h)
    |succ m c5=>
     intro j c1 d3
     refine b8 _ _ _ _ _ ⟨λy=>⟨by omega,by simp;omega⟩,bM (λ_=>?_) λ_=>?_⟩
     ·rw[aN (by omega)]
      exact c5 (j+1) (by omega) (by omega)
     ·refine ag (by simp;omega) ?_
      rw[aN (by omega)]
      refine⟨by omega,by omega,by simp;omega,?_⟩
      rw[lC0,lC0,cm]
      refine tw d0 (lB0 _ (.tail _ c2)) h λt k ht c3=>⟨_,_,rfl,bM (λd1=>?_) λ_=>k3 w h⟩
      refine sR (s:=t) W h (.inl (c3 d1)) (by omega) λw U I O=>⟨_,_,rfl,?_⟩
      exact b3 (n - (j+1 - i)) (by omega) (j+1) (E++t) _ U w (by omega) (by simp;omega) (λhc=>absurd hc a7) I O
   exact go (s.length - (i+1)) (i+1) (by omega) (by omega)
  refine b7 _ _ _ _ (ag (by simp;omega) ⟨by omega,by simp;omega,?_⟩)
  rw[a6]
  refine⟨λy=>?_,bM (λy=>?_) λ_=>b5⟩
  ·simp at y;exact⟨by omega,by simp;omega⟩
  have y:s[i]=92/\i+1<s.length:=by
   rw[pE H,u8b _ 92 92 rfl] at y
   simp at y;exact⟨y.1,by omega⟩
  have a7: ¬ ∀c∈s,c≠92/\c≠38:=λhc=>(hc s[i] (lP1 H)).1 y.1
  rw[pE y.2]
  refine tR ⟨_,rfl,?_⟩
  cases puB s[i+1] with
  |false=>exact b5
  |true=>
   refine ag rfl ?_
   rw[a6]
   refine⟨by omega,by simp;omega,?_⟩
   rw[pE y.2]
   refine yH (k:=s[i+1]) W h (by omega) λw U I O=>⟨_,rfl,?_⟩
   rw[aN (by omega)]
   exact b3 (n - 2) (by omega) (i+2) (E++ [s[i+1]]) _ U w (by omega) (by simp;omega) (λhc=>absurd hc a7) I O
 exact b9 s.length 0 [] false _ w (by omega) (by simp) (λ_=>rfl) (CH b) h

theorem sJ {c:UInt8}{l:List UInt8}: ∀f i,kw [c] l f i=none->l.length<i+f-> ∀j,i<=j->l[j]? ≠some c
 |0,i,_,hl,j,hj=>by rw[lT1 (by omega)];simp
 |f+1,i,h,hl,j,hj=>by
  simp only[kw,lE0] at h
  split at h
  ·rename_i hi
   split at h
   ·cases h
   ·rename_i E
    rcases lM4 i j with y|y
    ·exact sJ f (i+1) h (by omega) j y
    ·obtain rfl:j=i:=by omega
     intro hc
     apply E
     have g:j<l.length:=by omega
     rw[lI0 g,lG1] at hc
     rw[lI1 g,hc];rfl
  ·rename_i hi
   rw[lT1 (by omega)];simp
theorem FB {c:UInt8}{l:List UInt8}(y:c∈l):(idx l [c]).isSome=true:=by
 cases h:idx l [c] with
 |some _=>rfl
 |none=>
  obtain⟨j,g,rfl⟩:=lM6.1 y
  exact absurd (lI0 g) (sJ _ _ h (by omega) j (lC2 _))

def tH (c:UInt8)(s:List UInt8):Nat:=(s.takeWhile (· ==c)).length
theorem vQ (c:UInt8)(s:List UInt8):s.take (tH c s)=hN (tH c s) c:=by
 induction s with
 |nil=>rfl
 |cons d s g=>
  by_cases h:d=c
  ·subst h
   simp only[tH,lB3,beq_self_eq_true,if_true,lF0,lG5,lZ1]
   exact congrArg _ g
  ·simp[tH,lB3,h]
theorem Dh {c:UInt8}{s:List UInt8}{k:Nat}(h:k<tH c s):s[k]? =some c:=by
 have g:=vQ c s
 have y:tH c s<=s.length:=(lD6 _).length_le
 have:(s.take (tH c s))[k]? =some c:=by rw[g];simp[h]
 rwa [lM3 h] at this
theorem Di {c:UInt8}{s:List UInt8}:s[tH c s]? ≠some c:=by
 induction s with
 |nil=>simp[tH]
 |cons d s g=>
  by_cases h:d=c
  ·subst h
   simp only[tH,lB3,beq_self_eq_true,if_true,lF0,lY2]
   exact g
  ·simp[tH,lB3,h]
theorem Fd (c:UInt8)(s:List UInt8):tH c s<=s.length:=(lD6 _).length_le
def Ln.adv (l:Ln)(k:Nat):Ln:= {l with i:=l.i+k}
def rh (l:Ln)(n:Nat)(c:UInt8)(t info:List UInt8):Prop:=
 (c=96\/c=126)/\3<=n/\(l.strip 3 0).2.peek=c/\n=tH c ((l.strip 3 0).2.text.drop (l.strip 3 0).2.i)/\UnE (gj cM ((l.strip 3 0).2.text.drop ((l.strip 3 0).2.i+n))) t/\info=gj cM t/\(c=96->96 ∉ t)
def xk (l:Ln):Prop:=
 ((l.strip 3 0).2.peek≠96/\(l.strip 3 0).2.peek≠126)\/(tH (l.strip 3 0).2.peek ((l.strip 3 0).2.text.drop (l.strip 3 0).2.i)<3)\/
 ((l.strip 3 0).2.peek=96/\ ∃t,UnE (gj cM ((l.strip 3 0).2.text.drop ((l.strip 3 0).2.i+tH 96 ((l.strip 3 0).2.text.drop (l.strip 3 0).2.i)))) t/\96∈t)
theorem A0 (p:UInt8->Bool)(s:List UInt8):(gj p s).length<=s.length:=by
 unfold gj vE
 have g:=(lO2 p (l:=(s.dropWhile p).reverse)).length_le
 have y:=(lO2 p (l:=s)).length_le
 rw[List.length_reverse] at g⊢
 omega
theorem oX {b nb g ib:Nat}{l:Ln}{v:Int}{a7 b3:List UInt8}{e I H:TypeId}{ec:ai}(h:Sat σ w (l.at b::(nb,cel [hY v] e)::(ib,cel [hX (bs b3)] H)::(g,cel [hX (bs a7)] I)::L))(d3:l.ok)(c4:l.text.length<100000)(d2:Ay ec)(c9:ec∈L)(U:xk l-> ∀w v,Sat σ w (l.at b::(nb,cel [hY v] e)::(ib,cel [hX (bs b3)] H)::(g,cel [hX (bs a7)] I)::L)->R (hQ (hV false)) w)(a6: ∀n c t info,rh l n c t info-> ∀w,Sat σ w (Ln.zero.at b::(nb,cel [hY ((l.strip 3 0).1:Nat)] e)::(ib,cel [hX (bs info)] H)::(g,cel [hX (bs (hN n c))] I)::L)->R (hQ (hV true)) w):
 callE P fK #[kT (kE b),kT (kE g),kT (kE ib),kT (kE nb)] R w:=by
 refine bw.sound ?_
 repeat (first|refine aa ?_|refine h.tk λw h=>?_|refine⟨_,h.ldA,?_⟩|refine⟨_,_,_,h.ldA,?_⟩|refine h.stA 0 λw h=>?_|refine h.stA 1 λw h=>?_|refine h.stA 2 λw h=>?_|refine h.stA 3 λw h=>?_|refine h.stA 4 λw h=>?_|refine h.stA 5 λw h=>?_|refine h.stA 6 λw h=>?_|refine h.bx λb0 w h=>?_)
 let V:List ai:=(ib,cel [hX (bs b3)] H)::(g,cel [hX (bs a7)] I)::L
 have h:Sat σ _ (l.at b0::l.at b::(nb,cel [hY 0] e)::V):=h
 have fin: ∀(n:Nat) (t:Ln) w,t.ok->t.text.length<100000->(n,t)=l.strip 3 0->Sat σ w (t.at b0::l.at b::(nb,cel [hY n] e)::V)->bw.k2 R (kE b) (kE g) (kE ib) b0 w:=by
  intro n t w ht b5 c8 h
  unfold xk at U
  unfold rh at a6
  rw[<-c8] at U a6
  simp only at U a6
  refine lU h (by first|assumption|(repeat (first|exact .head _|apply List.Mem.tail))) ht λw h=>⟨_,rfl,?_⟩
  by_cases hc:t.peek=96\/t.peek=126
  ·have k3:bw.k3 R (kE b) (kE g) (kE ib) b0 (t.peek.toNat:Int) true w:=by
    refine ag rfl ?_
    have d0:t.sp=0:=by
     unfold Ln.peek at hc
     split at hc
     ·rcases hc with hc|hc<;>exact absurd hc (by decide)
     ·omega
    have c3:t.str=t.text.drop t.i:=by unfold Ln.str;rw[d0];rfl
    generalize e1:t.peek=c at hc U a6⊢
    have e3:=ht.i
    have hr:=Fd c (t.text.drop t.i)
    simp only[lN1] at hr
    refine oY h (by first|assumption|(repeat (first|exact .head _|apply List.Mem.tail))) ht λw h=>⟨_,rfl,?_⟩
    rw[c3]
    intro X W
    have c1: ∀k,t.i+k<=t.text.length->(t.adv k).ok:=λk y=>⟨y,by show t.tab<=t.i+k;have:=ht.tab;omega,ht.len,ht.sp⟩
    have c2: ∀k:Nat,(t.adv k).text[(t.adv k).i]? =(t.text.drop t.i)[k]? :=by intro k;rw[lK4];rfl
    have b7: ∀m k w,k+m=tH c (t.text.drop t.i)->Sat σ w ((t.adv k).at b0::l.at b::(nb,cel [hY n] e)::V)->X (kE b) (kE g) (kE ib) b0 (c.toNat:Int) (bs (t.text.drop t.i)) (k:Int) (k:Int) w:=by
     intro m
     induction m with
     |succ m b8=>
      intro k w y h
      refine W _ _ _ _ _ _ _ _ _ ?_
      have b4:=c1 k (by omega)
      refine trimC_ok (c:=c) rfl h b4 ?_
      have:(t.adv k).trimC c=some (t.adv (k+1)):=by
       unfold Ln.trimC
       rw[if_neg (by show ¬ 0<t.sp;omega),if_pos (by rw[c2];exact Dh (by omega))]
       rfl
      rw[this]
      intro w h
      refine⟨_,rfl,ae rfl ?_⟩
      rw[aN (by omega)]
      exact b8 (k+1) w (by omega) h
     |zero=>
      intro k w y h
      rw[lL1] at y
      refine W _ _ _ _ _ _ _ _ _ ?_
      have b4:=c1 k (by omega)
      refine trimC_ok (c:=c) rfl h b4 ?_
      have:(t.adv k).trimC c=none:=by
       unfold Ln.trimC
       rw[if_neg (by show ¬ 0<t.sp;omega),if_neg (by rw[c2,y];exact Di)]
      rw[this]
      intro w h
      refine⟨_,rfl,ag rfl ?_⟩
      by_cases d4:k<3
      ·exact ae (by simp;omega) (U (.inr (.inl (by rw[<-y];omega))) _ _ h.tail)
      refine ag (by simp;omega) ?_
      refine uq h (by first|assumption|(repeat (first|exact .head _|apply List.Mem.tail))) b4 λw h=>⟨_,rfl,?_⟩
      have d5:=A0 cM ((t.adv k).text.drop (t.adv k).i)
      have e2:((t.adv k).text.drop (t.adv k).i).length<=t.text.length:=by rw[lN1];exact Nat.sub_le _ _
      refine xO (by omega) d2 (by simp[V,c9]) h λw u b9 h=>⟨_,rfl,?_⟩
      have e0:u.length<1000000:=by have:=b9.1;omega
      have k4: ∀w,(c=96->96 ∉ u)->Sat σ w ((t.adv k).at b0::l.at b::(nb,cel [hY n] e)::V)->bw.k4 R (kE b) (kE g) (kE ib) (bs (t.text.drop t.i)) (k:Int) (bs u) w:=by
       intro w c5 h
       refine j8 (by omega) ⟨_,rfl,aa ?_⟩
       have h:Sat σ w ((t.adv k).at b0::l.at b::(nb,cel [hY n] e)::(ib,cel [hX (bs b3)] H)::(g,cel [hX (bs a7)] I)::L):=h
       have h:Sat σ w ((ib,cel [hX (bs b3)] H)::(g,cel [hX (bs a7)] I)::l.at b::(t.adv k).at b0::(nb,cel [hY n] e)::L):=h.re
       refine h.stA 0 λw h=>?_
       refine⟨by omega,by simp;omega,aa ?_⟩
       rw[lC0,cm,lK2,y,vQ,<-y]
       refine h.stA 1 λw h=>?_
       have h:Sat σ _ ((ib,cel [hX (bs (gj cM u))] H)::(g,cel [hX (bs (hN k c))] I)::l.at b::(t.adv k).at b0::(nb,cel [hY n] e)::L):=h
       have h:Sat σ _ (l.at b::(ib,cel [hX (bs (gj cM u))] H)::(g,cel [hX (bs (hN k c))] I)::(t.adv k).at b0::(nb,cel [hY n] e)::L):=h.re
       refine aa ?_
       refine h.stA 0 λw h=>?_
       refine h.stA 0 λw h=>?_
       refine h.stA 0 λw h=>?_
       refine h.stA 0 λw h=>?_
       refine h.stA 0 λw h=>?_
       have h:Sat σ _ (Ln.zero.at b::(ib,cel [hX (bs (gj cM u))] H)::(g,cel [hX (bs (hN k c))] I)::(t.adv k).at b0::(nb,cel [hY n] e)::L):=h
       refine a6 k c u _ ⟨hc,by omega,rfl,y,b9,rfl,c5⟩ _ ?_
       exact h.less [(t.adv k).at b0]
      by_cases O:c=96
      ·subst O
       refine ag rfl ?_
       refine jR (sub:= [96]) (by omega) (by decide) ⟨_,rfl,?_⟩
       by_cases b6:96∈u
       ·refine ag ?_ (U (.inr (.inr ⟨rfl,u,by rw[<-y];exact b9,b6⟩)) _ _ h.tail)
        rw[FB b6]
       ·exact ae (by rw[kO b6];rfl) (k4 w (λ_=>b6) h)
      ·exact ae (by rw[u8b _ 96 96 rfl];simpa using O) (k4 w (λd1=>absurd d1 O) h)
    have h:Sat σ w ((t.adv 0).at b0::l.at b::(nb,cel [hY n] e)::V):=h
    exact b7 _ 0 w (lN0 _) h
   by_cases O:t.peek=96
   ·exact ag (by rw[u8b _ 96 96 rfl];simpa using O) k3
   ·refine ae (by rw[u8b _ 96 96 rfl];simpa using O) ?_
    rw[u8b _ 126 126 rfl]
    rw[show (t.peek==126)=true by have:=hc.resolve_left O;simpa using this]
    exact k3
  ·have E:t.peek≠96/\t.peek≠126:=by simpa using hc
   rw[ug (d:=126) (n:=126) rfl E.2]
   exact ae (ug (d:=96) rfl E.1) (ae rfl (U (.inl E) _ _ h.tail))
 intro X W
 have b7: ∀k n (t:Ln) w,t.ok->t.text.length<100000->k+n=3->t.strip k n=l.strip 3 0->Sat σ w (t.at b0::l.at b::(nb,cel [hY n] e)::V)->
  X (kE b) (kE g) (kE ib) (kE nb) b0 w:=by
  intro k n t w ht b5 y E h
  induction k generalizing n t w with
  |zero=>
   refine W _ _ _ _ _ _ ?_
   repeat (first|refine aa ?_|refine h.tk λw h=>?_|refine⟨_,h.ldA,?_⟩|refine⟨_,_,_,h.ldA,?_⟩)
   exact ae (by simp;omega) (fin n t w ht b5 E h)
  |succ k b8=>
   refine W _ _ _ _ _ _ ?_
   repeat (first|refine aa ?_|refine h.tk λw h=>?_|refine⟨_,h.ldA,?_⟩|refine⟨_,_,_,h.ldA,?_⟩)
   refine ag (by simp;omega) ?_
   refine YtendaipfdnhnaaaGreatDoor.trimSp_ok (min:=1) (max:=1) h ht (by decide) (by decide) ?_
   simp only[Ln.strip] at E
   cases hs:t.trimSp 1 1 false with
   |none=>
    rw[hs] at E
    exact λw h=>⟨_,rfl,ae rfl (fin n t w ht b5 E h)⟩
   |some t'=>
    rw[hs] at E
    intro w h
    refine⟨_,rfl,ag rfl ?_⟩
    repeat (first|refine aa ?_|refine h.tk λw h=>?_|refine⟨_,h.ldA,?_⟩|refine⟨_,_,_,h.ldA,?_⟩|refine h.stA 0 λw h=>?_|refine h.stA 1 λw h=>?_|refine h.stA 2 λw h=>?_|refine h.stA 3 λw h=>?_|refine h.stA 4 λw h=>?_|refine h.stA 5 λw h=>?_|refine h.stA 6 λw h=>?_|refine h.bx λb0 w h=>?_)
    rw[aN (by omega)] at h
    refine b8 (n+1) t' _ (Ln.trimSp_ok ht hs) ?_ (by omega) E h
    rw[(Ln.tsGo_ok 1 0 ht hs).2.1];exact b5
 exact b7 3 0 l _ d3 c4 rfl rfl h

theorem Sat.allocO (h:Sat σ w L)(o:Obj):Sat σ (w.alloc o) ((w.heap.size,o)::L):=by
 refine⟨h.os,h.out,?_,λc hc=>?_⟩
 ·simp only[lU1,lV3]
  refine⟨λy=>?_,h.nodup⟩
  obtain⟨c,hc,E⟩:=lS1.1 y
  exact lN6 _ (E▸h.lt hc)
 ·cases hc with
  |head=>exact(lH4 ..).trans rfl
  |tail _ hc=>
   have g:=h.lt hc
   have:=h.at_ _ hc
   show (w.heap.push o)[c.1]? =_
   rw[lO4 g,<-lP2 g]
   exact this
theorem Sat.setO (b:Nat)(o o':Obj)(h:Sat σ w ((b,o)::L)):Sat σ {w with heap:=w.heap.setIfInBounds b o'} ((b,o')::L):=by
 have g:=h.nodup
 simp only[lU1,lV3] at g
 have hb:b<w.heap.size:=h.lt (.head _)
 refine⟨h.os,h.out,by simp only[lU1,lV3];exact g,λc hc=>?_⟩
 cases hc with
 |head=>simp[hb]
 |tail _ hc=>
  have E:c.1≠b:=λy=>g.1 (y▸lF5 hc)
  have:=h.at_ _ (.tail _ hc)
  show (w.heap.setIfInBounds b o')[c.1]? =_
  rw[lS4 (λy=>E y.symm)]
  exact this
theorem Dn {s:ByteArray}(h:Sat σ w L){K:Value->World->Prop}(y: ∀w b,Sat σ w ((b,.stringIter s 0)::L)->K (kT (kE b)) w):
 ∃v g,(Instr.range aq (hX s)).run P w= .ok v g/\K v g:=
 ⟨_,_,run_range_string (P:=P) w aq s (by kernel_rfl),y _ _ (h.allocO _)⟩
theorem Fo {b pos:Nat}{s:ByteArray}{ty:TypeId}(h:Sat σ w ((b,.stringIter s pos)::L))(g:pos<s.size)(H:(s[pos]'g).toNat<128){K:Int->Int->World->Prop}(I: ∀w,Sat σ w ((b,.stringIter s (pos+1))::L)->K pos (s[pos]'g).toNat w):
 ∃r0 y E,(Instr.next (kT (kE b)) true ty).run P w= .ok (.tuple #[hV true,hY r0,.int .i32 y]) E/\K r0 y E:=by
 have hb:=h.at_ _ (.head _)
 refine⟨_,_,_,?_,I _ (h.setO b _ (.stringIter s (pos+1)))⟩
 have hd:=decode_ascii s pos g H
 simp only[Instr.next,getObj,setObj,lX0,Sem.run,hb,Result.andThen,g,if_true,hd]
 simp[goInt,Sem.run,hb]
theorem Dv {b pos:Nat}{s:ByteArray}{ty:TypeId}(h:Sat σ w ((b,.stringIter s pos)::L))(g: ¬ pos<s.size):(Instr.next (kT (kE b)) true ty).run P w= .ok (.tuple #[hV false]) w:=by
 have hb:=h.at_ _ (.head _)
 simp[Instr.next,getObj,Sem.run,hb,g]

def oT (g:Nat)(F info:List UInt8)(q:Option Addr)(n c:Nat):ai:=(g,cel [hX (bs F),hX (bs info),hY 0,hT q n c] mE)
def xl (y:Nat)(F info:List UInt8)(ls:List (List UInt8))(M:List ai):Prop:=
 ∃q c g,Sl 1 aq q ls.length c (sv ls) g/\M=oT y F info q ls.length c::g
theorem ou:mQ P gG "pub-paratext/pub/rscmarkdown.extend" gq=true:=by kernel_rfl
theorem uK:mQ P gG "pub-paratext/pub/rscmarkdown.build" gW=true:=by kernel_rfl
theorem xB (l:Ln)(e:Bool):l.trimSp 0 0 e=some l:=rfl
def CT (F:List UInt8)(l:Ln):Prop:= ¬ xk l/\ ∀n c t info,rh l n c t info->(hN n c).take F.length=F/\info= []
def vt (F:List UInt8)(l:Ln):Prop:= ∀n c t info,rh l n c t info->(hN n c).take F.length≠F
theorem qU {g b:Nat}{p:PS}{F info:List UInt8}{ls:List (List UInt8)}{c3:List ai}{l:Ln}{ec:ai}(h:Sat σ w (p.at b::(c3++L)))(e1:xl g F info ls c3)(c5:l.ok)(e7:ls.length<1048576)(d2:l.text.length<100000)(e2:Ay ec)(d5:ec∈L)(d3:vt F l-> ∀w (p':PS) c9,p'= {p with corner:=p'.corner}->xl g F info (ls++ [l.str]) c9->Sat σ w (p'.at b::(c9++L))->R (hQ (.tuple #[Ln.zero.val,hV true])) w)(d1: ¬ vt F l-> ∀w,Sat σ w (p.at b::(c3++L))->R (hQ (.tuple #[Ln.zero.val,hV false])) w)(c1:vt F l\/CT F l):callE P gq #[kT (kE g),kT (kE b),l.val] R w:=by
 obtain⟨q,c,a6,e6,rfl⟩:=e1
 refine bz.sound ?_
 refine Sat.bx h λb1 w h=>?_
 refine Sat.bx h λy w h=>?_
 refine Sat.bx h λE w h=>?_
 refine Sat.bx h λH w h=>?_
 refine Sat.bx h λI w h=>?_
 repeat (first|refine aa ?_|refine h.tk λw h=>?_|refine⟨_,h.ldA,?_⟩|refine⟨_,_,_,h.ldA,?_⟩|refine h.stA 0 λw h=>?_|refine h.stA 1 λw h=>?_|refine h.stA 2 λw h=>?_|refine h.stA 3 λw h=>?_|refine h.stA 4 λw h=>?_|refine h.stA 5 λw h=>?_|refine h.stA 6 λw h=>?_|refine h.bx λb0 w h=>?_)
 have h:Sat σ _ (l.at b0::(I,cel [hY 0] bg)::(H,cel [hX (bs [])] aq)::(E,cel [hX (bs [])] aq)::(zLn y::l.at b1::(p.at b::(oT g F info q ls.length c::a6++L)))):=h
 have k1: ∀w (O:Ln) (v:Int) (i f:List UInt8),vt F l->Sat σ w (O.at b0::(I,cel [hY v] bg)::(H,cel [hX (bs i)] aq)::(E,cel [hX (bs f)] aq)::(zLn y::l.at b1::(p.at b::(oT g F info q ls.length c::a6++L))))->
  bz.k1 R (kE g) (kE b) b1 y w:=by
  intro w O v i f c4 h
  have h:Sat σ w (l.at b1::oT g F info q ls.length c::zLn y::p.at b::(a6++(O.at b0::(I,cel [hY v] bg)::(H,cel [hX (bs i)] aq)::(E,cel [hX (bs f)] aq)::L))):=h.re
  refine h.tk λw h=>?_
  refine aa (aa ?_)
  refine⟨_,Sat.ld h (.tail _ (.head _)) (i:=2) rfl,_,Sat.ld h (.tail _ (.head _)) (i:=2) rfl,?_⟩
  refine trimSp_ok (min:=0) (max:=0) h c5 (by decide) (by decide) ?_
  rw[xB]
  intro w h
  refine⟨_,rfl,ae rfl ?_⟩
  unfold bz.k2
  refine h.tk λw h=>?_
  refine aa ?_
  refine⟨_,_,_,Sat.ld h (.tail _ (.head _)) (i:=3) rfl,?_⟩
  have e3:=h
  refine oY h (.head _) c5 λw h=>⟨_,rfl,e3.same h (.tail _ (.head _)) (.tail _ (.head _)) 1,?_⟩
  have h:Sat σ w (a6++(l.at b1::oT g F info q ls.length c::zLn y::p.at b::(O.at b0::(I,cel [hY v] bg)::(H,cel [hX (bs i)] aq)::(E,cel [hX (bs f)] aq)::L))):=h.re
  have b6:oT g F info q ls.length c∈(a6++(l.at b1::oT g F info q ls.length c::zLn y::p.at b::(O.at b0::(I,cel [hY v] bg)::(H,cel [hX (bs i)] aq)::(E,cel [hX (bs f)] aq)::L))):=by simp
  have e5:=h
  refine Sat.app1S rowStr e6 h (v:= hX (bs l.str)) rfl (by simp[Value.cells,Value.oneCell']) (DK l.str) (by omega) (by omega) (by decide) (λe8 X e4=>e5.same e4 b6 (.tail _ b6) 1) λV W w U d4 h=>?_
  have h:Sat σ w (oT g F info q ls.length c::p.at b::zLn y::l.at b1::(U++(O.at b0::(I,cel [hY v] bg)::(H,cel [hX (bs i)] aq)::(E,cel [hX (bs f)] aq)::L))):=h.re
  refine aa ?_
  refine h.stA 0 λw h=>?_
  have h:Sat σ w (p.at b::zLn y::l.at b1::oT g F info V (ls.length+1) W::(U++(O.at b0::(I,cel [hY v] bg)::(H,cel [hX (bs i)] aq)::(E,cel [hX (bs f)] aq)::L))):=by
   have h:Sat σ w (oT g F info V (ls.length+1) W::p.at b::zLn y::l.at b1::(U++(O.at b0::(I,cel [hY v] bg)::(H,cel [hX (bs i)] aq)::(E,cel [hX (bs f)] aq)::L))):=h
   exact h.re
  have c8: ∀(k:Bool) w,Sat σ w (({p with corner:=k}:PS).at b::zLn y::l.at b1::oT g F info V (ls.length+1) W::(U++(O.at b0::(I,cel [hY v] bg)::(H,cel [hX (bs i)] aq)::(E,cel [hX (bs f)] aq)::L)))->R (hQ (.tuple #[Ln.zero.val,hV true])) w:=by
   intro k w h
   refine d3 c4 w {p with corner:=k} (oT g F info V (ls++ [l.str]).length W::U) rfl ⟨V,W,U,?_,rfl⟩ ?_
   ·rw[lA0,lE0]
    have e:sv (ls++ [l.str])=sv ls++ [hX (bs l.str)]:=by simp[sv]
    rw[e];exact d4
   ·rw[lA0,lE0]
    exact h.less [zLn y,l.at b1,O.at b0,(I,cel [hY v] bg),(H,cel [hX (bs i)] aq),(E,cel [hX (bs f)] aq)]
  refine aa ?_
  refine⟨_,Sat.ld h (.head _) (i:=6) rfl,bM (λ_=>?_) λ_=>?_⟩
  ·refine aa ?_
   refine h.stA 0 λw h=>?_
   have h:Sat σ w (zLn y::({p with corner:=true}:PS).at b::l.at b1::oT g F info V (ls.length+1) W::(U++(O.at b0::(I,cel [hY v] bg)::(H,cel [hX (bs i)] aq)::(E,cel [hX (bs f)] aq)::L))):=by
    have h:Sat σ w (({p with corner:=true}:PS).at b::zLn y::l.at b1::oT g F info V (ls.length+1) W::(U++(O.at b0::(I,cel [hY v] bg)::(H,cel [hX (bs i)] aq)::(E,cel [hX (bs f)] aq)::L))):=h
    exact h.re
   repeat (first|refine aa ?_|refine h.tk λw h=>?_|refine⟨_,h.ldA,?_⟩|refine⟨_,_,_,h.ldA,?_⟩|refine h.stA 0 λw h=>?_|refine h.stA 1 λw h=>?_|refine h.stA 2 λw h=>?_|refine h.stA 3 λw h=>?_|refine h.stA 4 λw h=>?_|refine h.stA 5 λw h=>?_|refine h.stA 6 λw h=>?_|refine h.bx λb0 w h=>?_)
   refine c8 true _ ?_
   have h:Sat σ _ (zLn y::({p with corner:=true}:PS).at b::l.at b1::oT g F info V (ls.length+1) W::(U++(O.at b0::(I,cel [hY v] bg)::(H,cel [hX (bs i)] aq)::(E,cel [hX (bs f)] aq)::L))):=h
   exact h.re
  ·refine⟨_,Sat.ld h (.tail _ (.tail _ (.head _))) (i:=4) rfl,aa ?_⟩
   refine h.stA 0 λw h=>?_
   generalize ((l.nl.toNat:Int) !=10)=kk at h
   have h:Sat σ w (zLn y::({p with corner:=kk}:PS).at b::l.at b1::oT g F info V (ls.length+1) W::(U++(O.at b0::(I,cel [hY v] bg)::(H,cel [hX (bs i)] aq)::(E,cel [hX (bs f)] aq)::L))):=by
    have h:Sat σ w (({p with corner:=kk}:PS).at b::zLn y::l.at b1::oT g F info V (ls.length+1) W::(U++(O.at b0::(I,cel [hY v] bg)::(H,cel [hX (bs i)] aq)::(E,cel [hX (bs f)] aq)::L))):=h
    exact h.re
   repeat (first|refine aa ?_|refine h.tk λw h=>?_|refine⟨_,h.ldA,?_⟩|refine⟨_,_,_,h.ldA,?_⟩|refine h.stA 0 λw h=>?_|refine h.stA 1 λw h=>?_|refine h.stA 2 λw h=>?_|refine h.stA 3 λw h=>?_|refine h.stA 4 λw h=>?_|refine h.stA 5 λw h=>?_|refine h.stA 6 λw h=>?_|refine h.bx λb0 w h=>?_)
   refine c8 kk _ ?_
   have h:Sat σ _ (zLn y::({p with corner:=kk}:PS).at b::l.at b1::oT g F info V (ls.length+1) W::(U++(O.at b0::(I,cel [hY v] bg)::(H,cel [hX (bs i)] aq)::(E,cel [hX (bs f)] aq)::L))):=h
   exact h.re
 refine oX h c5 d2 e2 (by simp[d5]) ?_ ?_
 ·intro e0 w v h
  refine⟨_,rfl,ae rfl (k1 w _ _ _ _ ?_ h)⟩
  exact c1.resolve_right λb4=>b4.1 e0
 ·intro n c0 t a7 c2 w h
  refine⟨_,rfl,ag rfl (aa ?_)⟩
  refine⟨_,Sat.ld h (.tail _ (.tail _ (.tail _ (.head _)))) (i:=0) rfl,?_⟩
  have b6:oT g F info q ls.length c∈(Ln.zero.at b0::(I,cel [hY ((l.strip 3 0).1:Nat)] bg)::(H,cel [hX (bs a7)] aq)::(E,cel [hX (bs (hN n c0))] aq)::(zLn y::l.at b1::(p.at b::(oT g F info q ls.length c::a6++L)))):=by simp
  refine⟨_,Sat.ld h b6 (i:=0) rfl,?_⟩
  refine wL (s:=hN n c0) (t:=F) ⟨_,rfl,?_⟩
  by_cases b8:(hN n c0).take F.length=F
  ·have d0: ¬ vt F l:=λc4=>c4 n c0 t a7 c2 b8
   have b4:=c1.resolve_left d0
   have hi:a7= []:=(b4.2 n c0 t a7 c2).2
   refine ag (decide_eq_true b8) ?_
   refine⟨_,Sat.ld h (.tail _ (.tail _ (.head _))) (i:=0) rfl,ag (by rw[hi,cZ,gk];rfl) ?_⟩
   have h:Sat σ w (zLn y::l.at b1::(I,cel [hY ((l.strip 3 0).1:Nat)] bg)::(H,cel [hX (bs a7)] aq)::(E,cel [hX (bs (hN n c0))] aq)::Ln.zero.at b0::(p.at b::(oT g F info q ls.length c::a6++L))):=h.re
   repeat (first|refine aa ?_|refine h.tk λw h=>?_|refine⟨_,h.ldA,?_⟩|refine⟨_,_,_,h.ldA,?_⟩|refine h.stA 0 λw h=>?_|refine h.stA 1 λw h=>?_|refine h.stA 2 λw h=>?_|refine h.stA 3 λw h=>?_|refine h.stA 4 λw h=>?_|refine h.stA 5 λw h=>?_|refine h.stA 6 λw h=>?_|refine h.bx λb0 w h=>?_)
   have h:Sat σ _ (zLn y::l.at b1::(I,cel [hY ((l.strip 3 0).1:Nat)] bg)::(H,cel [hX (bs a7)] aq)::(E,cel [hX (bs (hN n c0))] aq)::Ln.zero.at b0::(p.at b::(oT g F info q ls.length c::a6++L))):=h
   exact d1 d0 _ h.tail.tail.tail.tail.tail.tail
  ·refine ae (decide_eq_false b8) (k1 w _ _ _ _ ?_ h)
   refine c1.resolve_right λb4=>b8 (b4.2 n c0 t a7 c2).1
def AK (nb s e:Nat)(F info:List UInt8)(q:Option Addr)(n c:Nat):ai:=(nb,cel [hY s,hY e,hX (bs F),hX (bs info),hT q n c] mI)
theorem yw {b y:Nat}{p:PS}{ob:List OB}{o:OB}{F info:List UInt8}{ls:List (List UInt8)}{M I:List ai}(h:Sat σ w (p.at b::M++(I++L)))(hs:Stk p (ob++ [o]) M)(O:xl y F info ls I)(V: ∀w nb q c g,Sl 1 aq q ls.length c (sv ls) g->Sat σ w (p.at b::M++(AK nb o.s o.e F info q ls.length c::(g++L)))->R (hQ (.iface cJ (kT (kE nb)))) w):
 callE P gW #[kT (kE y),.iface ah (kT (kE b))] R w:=by
 obtain⟨q,c,g,U,rfl⟩:=O
 refine g9.sound ?_
 have h:Sat σ w (oT y F info q ls.length c::(p.at b::M++(g++L))):=h.re
 refine h.tk λw h=>?_
 refine aa (aa (aa ?_))
 refine⟨_,Sat.ld h (.head _) (i:=0) rfl,_,Sat.ld h (.head _) (i:=1) rfl,_,_,_,Sat.ld h (.head _) (i:=3) rfl,?_⟩
 have H:=h
 have h:Sat σ w (p.at b::M++(oT y F info q ls.length c::(g++L))):=h.re
 refine bm nJ ?_
 have E:oT y F info q ls.length c∈p.at b::M++(oT y F info q ls.length c::(g++L)):=by simp
 refine tL h hs λw h=>⟨_,_,rfl,H.same h (.head _) E 1,H.same h (.head _) E 1,H.same h (.head _) E 1,?_⟩
 refine Sat.bx h λnb w h=>?_
 refine V w nb q c g U ?_
 have h:Sat σ w (AK nb o.s o.e F info q ls.length c::(p.at b::M++(oT y F info q ls.length c::(g++L)))):=h
 exact h.less [oT y F info q ls.length c]

theorem vW:kJ P da "Pos" cA=true:=by kernel_rfl
theorem Bo:kJ P dU "Pos" cA=true:=by kernel_rfl
abbrev bkV (t:TypeId)(nb:Nat):Value:= .iface t (kT (kE nb))
theorem Ag {nb s e:Nat}{F info:List UInt8}{q:OA}{c:Nat}{ls:List (List UInt8)}{E:List ai}(U:Sl 1 aq q ls.length c (sv ls) E)(V:ls.length<1048576)(hb:(dK ls).length<1073741824)(I:ls.head? ≠some [])(O:F.length<1073741824)(hi:info.length<1073741824):
 qx bS (.mk {kind:=7,text:=dK ls,title:=info,mark:=F,s:=s,e:=e} []) (bkV cJ nb) (AK nb s e F info q ls.length c::E):=by
 intro σ R L w h W
 refine cj.sound ?_
 refine fG pa h (.head _) λb1 H w h=>?_
 refine⟨_,_,_,cn (by kernel_rfl) (by decide) w,ae rfl ?_⟩
 refine⟨_,_,_,cn (by kernel_rfl) (by decide) w,ae rfl ?_⟩
 refine⟨_,_,_,cn (by kernel_rfl) (by decide) w,ae rfl ?_⟩
 refine⟨_,_,_,cn (by kernel_rfl) (by decide) w,ae rfl ?_⟩
 refine⟨_,_,_,cn (by kernel_rfl) (by decide) w,ae rfl ?_⟩
 refine⟨_,_,_,cn (by kernel_rfl) (by decide) w,ae rfl ?_⟩
 refine⟨_,_,_,cn (by kernel_rfl) (by decide) w,ae rfl ?_⟩
 refine⟨_,_,_,ir (by kernel_rfl) w,ag rfl ?_⟩
 refine h.tk λw h=>aa (aa (aa ⟨_,Sat.ld h (.tail _ (.tail _ (.head _))) (i:=3) rfl,_,Sat.ld h (.tail _ (.tail _ (.head _))) (i:=2) rfl,_,_,_,Sat.ld h (.tail _ (.tail _ (.head _))) (i:=4) rfl,?_⟩))
 have g:=h
 have y:AK nb s e F info q ls.length c∈((H,cel (N16.C {a8:=s,a9:=e}).toList ak)::(b1,cel (N16.C {}).toList ak)::(AK nb s e F info q ls.length c::E++L)):= .tail _ (.tail _ (.head _))
 have h:Sat σ w (E++((H,cel (N16.C {a8:=s,a9:=e}).toList ak)::(b1,cel (N16.C {}).toList ak)::AK nb s e F info q ls.length c::L)):=h.re
 refine B2 U h V hb I λw h=>⟨_,rfl,?_⟩
 have h:Sat σ w ((H,cel (N16.C {a8:=s,a9:=e}).toList ak)::(b1,cel (N16.C {}).toList ak)::(AK nb s e F info q ls.length c::E++L)):=h.re
 refine⟨g.same h y y 1,g.same h y y 1,?_⟩
 have g:=h
 refine Sat.st h (k:=0) rfl (by show 0<16;decide) trivial rfl λw h=>?_
 refine⟨g.same h y (.tail _ (.tail _ (.head _))) 1,g.same h y (.tail _ (.tail _ (.head _))) 1,?_⟩
 have g:=h
 refine Sat.st h (k:=0) rfl (by show 2<16;decide) trivial rfl λw h=>?_
 refine⟨g.same h (.tail _ (.tail _ (.head _))) (.tail _ (.tail _ (.head _))) 1,?_⟩
 refine Sat.st h (k:=0) rfl (by show 10<16;decide) trivial rfl λw h=>?_
 refine Sat.st h (k:=0) rfl (by show 1<16;decide) trivial rfl λw h=>?_
 exact ia (v:=IH.nd {kind:=7,text:=dK ls,title:=info,mark:=F,s:=s,e:=e} none 0 0) (u:= {}) (NM:= []) (NodeAt.leaf ⟨hb,hi,cg,O⟩) h W
theorem yo {nb s e:Nat}{q:OA}{n c:Nat}{vs:List Value}{IM KM:List ai}{xs:List IN}(a6:Sl 1 aO q n c vs IM)(V:jQ bS xs vs KM)(a7:n<1073741824):
 qx bS (.mk {kind:=2,s:=s,e:=e} xs) (bkV j2 nb) (Do nb s e q n c::(IM++KM)):=by
 intro σ R L w h b3
 refine cj.sound ?_
 refine fG vV h (.head _) λb1 y w h=>?_
 refine⟨_,_,_,cn (by kernel_rfl) (by decide) w,ae rfl ?_⟩
 refine⟨_,_,_,ir (by kernel_rfl) w,ag rfl ?_⟩
 refine aa ⟨_,_,_,Sat.ld h (.tail _ (.tail _ (.head _))) (i:=2) rfl,?_⟩
 have h:Sat σ w (IM++(KM++((y,cel (N16.C {a8:=s,a9:=e}).toList ak)::(b1,cel (N16.C {}).toList ak)::Do nb s e q n c::L))):=h.re
 refine nI a6 V h a7 λw E I H us g NM O U W h=>⟨_,_,_,rfl,?_⟩
 have h:Sat σ w ((y,cel (N16.C {a8:=s,a9:=e}).toList ak)::(b1,cel (N16.C {}).toList ak)::((g++NM)++(Do nb s e q n c::(IM++KM)++L))):=h.re
 refine Sat.st h (k:=0) rfl (by show 0<16;decide) trivial rfl λw h=>?_
 refine Sat.st h (k:=0) rfl (by show 7<16;decide) trivial rfl λw h=>?_
 exact ia (v:=IH.nd {kind:=2,s:=s,e:=e} E I H) (u:= {}) (NM:=g++NM) ⟨_,xs,E,I,H,us,g,NM,rfl,rfl,rfl,⟨cg,cg,cg,cg⟩,O,U,W⟩ h b3
theorem Cc {db s e:Nat}{q:OA}{n c:Nat}{vs:List Value}{IM KM:List ai}{xs:List IN}(b3:Sl 1 aO q n c vs IM)(W:jQ bS xs vs KM)(b4:n<1073741824):
 qx bS (.mk {kind:=1,s:=s,e:=e} xs) (bkV da db) (AJ db s e q n c none::(IM++KM)):=by
 intro σ R L w h b5
 refine cj.sound ?_
 refine fG vW h (.head _) λb1 y w h=>?_
 refine⟨_,_,_,ir (by kernel_rfl) w,ag rfl ?_⟩
 refine aa ⟨_,_,_,Sat.ld h (.tail _ (.tail _ (.head _))) (i:=2) rfl,?_⟩
 have h:Sat σ w (IM++(KM++((y,cel (N16.C {a8:=s,a9:=e}).toList ak)::(b1,cel (N16.C {}).toList ak)::AJ db s e q n c none::L))):=h.re
 refine nI b3 W h b4 λw E I H us g NM U V a7 h=>⟨_,_,_,rfl,?_⟩
 have h:Sat σ w ((y,cel (N16.C {a8:=s,a9:=e}).toList ak)::(b1,cel (N16.C {}).toList ak)::((g++NM)++(AJ db s e q n c none::(IM++KM)++L))):=h.re
 refine Sat.st h (k:=0) rfl (by show 0<16;decide) trivial rfl λw h=>?_
 refine Sat.st h (k:=0) rfl (by show 7<16;decide) trivial rfl λw h=>?_
 have h:Sat σ w ((y,cel (IH.nd {kind:=1,s:=s,e:=e} E I H).C.toList ak)::(b1,cel (N16.C {}).toList ak)::((g++NM)++(AJ db s e q n c none::(IM++KM)++L))):=h
 have O:AJ db s e q n c none∈((y,cel (IH.nd {kind:=1,s:=s,e:=e} E I H).C.toList ak)::(b1,cel (N16.C {}).toList ak)::((g++NM)++(AJ db s e q n c none::(IM++KM)++L))):=by simp
 refine aa ⟨_,Sat.ld h O (i:=3) rfl,_,_,uC w,?_⟩
 have h:=h.alo (.mapIter none 0 #[] 0)
 generalize b6:w.alloc (.mapIter none 0 #[] 0)=w at h⊢
 intro X a6
 refine a6 _ _ _ _ (.inl ⟨_,vP (h.at_ _ (.head _)),?_⟩)
 have h:=h.tail
 refine⟨_,_,_,Sat.ld h (.head _) (i:=15) rfl,?_⟩
 refine Db ⟨rfl,?_⟩
 exact ia (v:=IH.nd {kind:=1,s:=s,e:=e} E I H) (u:= {}) (NM:=g++NM) ⟨_,xs,E,I,H,us,g,NM,rfl,rfl,rfl,⟨cg,cg,cg,cg⟩,U,V,a7⟩ h b5
theorem Af {nb s e wd:Nat}{q:OA}{n c:Nat}{vs:List Value}{IM KM:List ai}{xs:List IN}(a6:Sl 1 aO q n c vs IM)(V:jQ bS xs vs KM)(a7:n<1073741824):
 qx bS (.mk {kind:=4,width:=wd,s:=s,e:=e} xs) (bkV fI nb) ((nb,cel [hY s,hY e,hT q n c,hY wd] mH)::(IM++KM)):=by
 intro σ R L w h b3
 refine cj.sound ?_
 refine fG y8 h (.head _) λb1 y w h=>?_
 refine⟨_,_,_,cn (by kernel_rfl) (by decide) w,ae rfl ?_⟩
 refine⟨_,_,_,cn (by kernel_rfl) (by decide) w,ae rfl ?_⟩
 refine⟨_,_,_,cn (by kernel_rfl) (by decide) w,ae rfl ?_⟩
 refine⟨_,_,_,ir (by kernel_rfl) w,ag rfl ?_⟩
 refine h.tk λw h=>aa ⟨_,_,_,Sat.ld h (.tail _ (.tail _ (.head _))) (i:=2) rfl,?_⟩
 refine sG.sound ?_
 refine aa ⟨_,Sat.ld h (.tail _ (.tail _ (.head _))) (i:=3) rfl,_,rfl,λ_ _=>rfl,?_⟩
 have h:Sat σ w (IM++(KM++((y,cel (N16.C {a8:=s,a9:=e}).toList ak)::(b1,cel (N16.C {}).toList ak)::(nb,cel [hY s,hY e,hT q n c,hY wd] mH)::L))):=h.re
 refine nI a6 V h a7 λw E I H us g NM O U W h=>⟨_,_,_,rfl,?_⟩
 have h:Sat σ w ((y,cel (N16.C {a8:=s,a9:=e}).toList ak)::(b1,cel (N16.C {}).toList ak)::((g++NM)++((nb,cel [hY s,hY e,hT q n c,hY wd] mH)::(IM++KM)++L))):=h.re
 refine Sat.st h (k:=0) rfl (by show 0<16;decide) trivial rfl λw h=>?_
 refine Sat.st h (k:=0) rfl (by show 11<16;decide) trivial rfl λw h=>?_
 refine Sat.st h (k:=0) rfl (by show 7<16;decide) trivial rfl λw h=>?_
 exact ia (v:=IH.nd {kind:=4,width:=wd,s:=s,e:=e} E I H) (u:= {}) (NM:=g++NM) ⟨_,xs,E,I,H,us,g,NM,rfl,rfl,rfl,⟨cg,cg,cg,cg⟩,O,U,W⟩ h b3
theorem Ae {nb s e:Nat}{bul:UInt8}{num:Int}{lo:Bool}{q:OA}{n c:Nat}{vs:List Value}{IM KM:List ai}{xs:List IN}(c1:Utf8.encode (bul.toNat:Int)=bs [bul])(c2:Sl 1 aO q n c vs IM)(b9:jQ bS xs vs KM)(c3:n<1073741824):
 qx bS (.mk {kind:=3,num:=if bul=46\/bul=41 then num else -1,char:= [bul],loose:=lo,s:=s,e:=e} xs) (bkV dl nb) (tj nb s e (bul.toNat:Int) num lo q n c::(IM++KM)):=by
 intro σ R L w h a6
 refine cj.sound ?_
 refine fG y7 h (.head _) λb1 V w h=>?_
 refine⟨_,_,_,cn (by kernel_rfl) (by decide) w,ae rfl ?_⟩
 refine⟨_,_,_,cn (by kernel_rfl) (by decide) w,ae rfl ?_⟩
 refine⟨_,_,_,ir (by kernel_rfl) w,ag rfl ?_⟩
 have g: ∀ {X:ai} {K:List ai},tj nb s e (bul.toNat:Int) num lo q n c∈X::(b1,cel (N16.C {}).toList ak)::(tj nb s e (bul.toNat:Int) num lo q n c::K):= .tail _ (.tail _ (.head _))
 refine h.tk λw h=>aa (aa (aa ⟨_,Sat.ld h g (i:=2) rfl,_,Sat.ld h g (i:=4) rfl,_,_,_,Sat.ld h g (i:=5) rfl,?_⟩))
 have y:=h
 have h:Sat σ w (IM++(KM++((V,cel (N16.C {a8:=s,a9:=e}).toList ak)::(b1,cel (N16.C {}).toList ak)::tj nb s e (bul.toNat:Int) num lo q n c::L))):=h.re
 refine nI c2 b9 h c3 λw O I U us H NM b3 b4 b5 h=>⟨_,_,_,rfl,?_⟩
 have h:Sat σ w ((V,cel (N16.C {a8:=s,a9:=e}).toList ak)::(b1,cel (N16.C {}).toList ak)::(tj nb s e (bul.toNat:Int) num lo q n c::(H++NM++(IM++KM++L)))):=h.re
 refine⟨y.same h g g 1,y.same h g g 1,?_⟩
 have y:=h
 refine Sat.st h (k:=0) rfl (by show 0<16;decide) trivial rfl λw h=>?_
 refine⟨y.same h g g 1,y.same h g g 1,?_⟩
 have y:=h
 refine Sat.st h (k:=0) rfl (by show 3<16;decide) trivial rfl λw h=>?_
 refine⟨y.same h g g 1,y.same h g g 1,?_⟩
 have y:=h
 rw[c1]
 refine Sat.st h (k:=0) rfl (by show 4<16;decide) trivial rfl λw h=>?_
 refine⟨y.same h g g 1,?_⟩
 refine Sat.st h (k:=0) rfl (by show 5<16;decide) trivial rfl λw h=>?_
 refine Sat.st h (k:=0) rfl (by show 7<16;decide) trivial rfl λw h=>?_
 have h:Sat σ w ((V,cel (IH.nd {kind:=3,num:= -1,char:= [bul],loose:=lo,s:=s,e:=e} O I U).C.toList ak)::(b1,cel (N16.C {}).toList ak)::(tj nb s e (bul.toNat:Int) num lo q n c::(H++NM++(IM++KM++L)))):=h
 refine aa ⟨_,Sat.ld h g (i:=2) rfl,?_⟩
 have fin: ∀(k:Bool) w,(k=true<->(bul=46\/bul=41))->Sat σ w ((V,cel (IH.nd {kind:=3,num:= -1,char:= [bul],loose:=lo,s:=s,e:=e} O I U).C.toList ak)::(b1,cel (N16.C {}).toList ak)::(tj nb s e (bul.toNat:Int) num lo q n c::(H++NM++(IM++KM++L))))->
  cj.k1 R b1 V (kE nb) k w:=by
  intro k w b6 h
  cases k with
  |true=>
   have a7:=b6.1 rfl
   rw[if_pos a7] at a6
   refine ag rfl (aa ⟨_,Sat.ld h g (i:=3) rfl,?_⟩)
   refine Sat.st h (k:=0) rfl (by show 3<16;decide) trivial rfl λw h=>?_
   have h:Sat σ w ((V,cel (IH.nd {kind:=3,num:=num,char:= [bul],loose:=lo,s:=s,e:=e} O I U).C.toList ak)::(b1,cel (N16.C {}).toList ak)::(tj nb s e (bul.toNat:Int) num lo q n c::(H++NM++(IM++KM++L)))):=h
   exact ia (v:=IH.nd {kind:=3,num:=num,char:= [bul],loose:=lo,s:=s,e:=e} O I U) (u:= {}) (NM:=H++NM) (K:=tj nb s e (bul.toNat:Int) num lo q n c::(IM++KM)++L) ⟨_,xs,O,I,U,us,H,NM,rfl,rfl,rfl,⟨cg,cg,by show 1<_;decide,cg⟩,b3,b4,b5⟩ h.re a6
  |false=>
   have a7: ¬ (bul=46\/bul=41):=λE=>absurd (b6.2 E) (by decide)
   rw[if_neg a7] at a6
   refine ae rfl ?_
   exact ia (v:=IH.nd {kind:=3,num:= -1,char:= [bul],loose:=lo,s:=s,e:=e} O I U) (u:= {}) (NM:=H++NM) (K:=tj nb s e (bul.toNat:Int) num lo q n c::(IM++KM)++L) ⟨_,xs,O,I,U,us,H,NM,rfl,rfl,rfl,⟨cg,cg,by show 1<_;decide,cg⟩,b3,b4,b5⟩ h.re a6
 have b8:(((bul.toNat:Nat):Int)==46)=(bul==46):=mA bul 46
 have b7:(((bul.toNat:Nat):Int)==41)=(bul==41):=mA bul 41
 rw[b8]
 refine bM (λW=>?_) λW=>?_
 ·have:=eq_of_beq W
  exact fin true w ⟨λ_=> .inl this,λ_=>rfl⟩ h
 ·refine aa ⟨_,Sat.ld h g (i:=2) rfl,?_⟩
  rw[b7]
  refine fin _ w ⟨λE=> .inr (eq_of_beq E),λE=>?_⟩ h
  rcases E with E|E
  ·rw[E] at W;exact absurd W (by decide)
  ·rw[E];rfl
theorem Ad {nb t s e s' e':Nat}{raw:List UInt8}{q:OA}{n c:Nat}{vs:List Value}{RM KM:List ai}{xs:List IN}(a6:Sl 1 aC q n c vs RM)(V:jQ ej xs vs KM)(a7:n<1073741824):
 qx bS (.mk {kind:=6,s:=s,e:=e} xs) (bkV bB nb) (kY nb s e t::fu t s' e' q n c raw::(RM++KM)):=by
 intro σ R L w h b3
 refine cj.sound ?_
 refine fG o9 h (.head _) λb1 y w h=>?_
 refine⟨_,_,_,cn (by kernel_rfl) (by decide) w,ae rfl ?_⟩
 refine⟨_,_,_,cn (by kernel_rfl) (by decide) w,ae rfl ?_⟩
 refine⟨_,_,_,cn (by kernel_rfl) (by decide) w,ae rfl ?_⟩
 refine⟨_,_,_,cn (by kernel_rfl) (by decide) w,ae rfl ?_⟩
 refine⟨_,_,_,cn (by kernel_rfl) (by decide) w,ae rfl ?_⟩
 refine⟨_,_,_,ir (by kernel_rfl) w,ag rfl ?_⟩
 refine aa ⟨_,Sat.ld h (.tail _ (.tail _ (.head _))) (i:=2) rfl,aa ⟨_,_,_,Sat.ld h (.tail _ (.tail _ (.tail _ (.head _)))) (i:=2) rfl,?_⟩⟩
 have h:Sat σ w (RM++(KM++((y,cel (N16.C {a8:=s,a9:=e}).toList ak)::(b1,cel (N16.C {}).toList ak)::kY nb s e t::fu t s' e' q n c raw::L))):=h.re
 refine je a6 V h a7 λw E I H us g NM O U W h=>⟨_,_,_,rfl,?_⟩
 have h:Sat σ w ((y,cel (N16.C {a8:=s,a9:=e}).toList ak)::(b1,cel (N16.C {}).toList ak)::((g++NM)++(kY nb s e t::fu t s' e' q n c raw::(RM++KM)++L))):=h.re
 refine Sat.st h (k:=0) rfl (by show 0<16;decide) trivial rfl λw h=>?_
 refine Sat.st h (k:=0) rfl (by show 7<16;decide) trivial rfl λw h=>?_
 exact ia (v:=IH.nd {kind:=6,s:=s,e:=e} E I H) (u:= {}) (NM:=g++NM) ⟨_,xs,E,I,H,us,g,NM,rfl,rfl,rfl,⟨cg,cg,cg,cg⟩,O,U,W⟩ h b3
theorem Ac {t s e:Nat}{raw:List UInt8}{q:OA}{n c:Nat}{vs:List Value}{RM KM:List ai}{xs:List IN}(a6:Sl 1 aC q n c vs RM)(V:jQ ej xs vs KM)(a7:n<1073741824):
 qx bS (.mk {kind:=6,tight:=true,s:=s,e:=e} xs) (bkV dU t) (fu t s e q n c raw::(RM++KM)):=by
 intro σ R L w h b3
 refine cj.sound ?_
 refine fG Bo h (.head _) λb1 y w h=>?_
 refine⟨_,_,_,cn (by kernel_rfl) (by decide) w,ae rfl ?_⟩
 refine⟨_,_,_,cn (by kernel_rfl) (by decide) w,ae rfl ?_⟩
 refine⟨_,_,_,cn (by kernel_rfl) (by decide) w,ae rfl ?_⟩
 refine⟨_,_,_,cn (by kernel_rfl) (by decide) w,ae rfl ?_⟩
 refine⟨_,_,_,cn (by kernel_rfl) (by decide) w,ae rfl ?_⟩
 refine⟨_,_,_,cn (by kernel_rfl) (by decide) w,ae rfl ?_⟩
 refine⟨_,_,_,ir (by kernel_rfl) w,ag rfl ?_⟩
 refine aa ⟨_,_,_,Sat.ld h (.tail _ (.tail _ (.head _))) (i:=2) rfl,?_⟩
 have h:Sat σ w (RM++(KM++((y,cel (N16.C {a8:=s,a9:=e}).toList ak)::(b1,cel (N16.C {}).toList ak)::fu t s e q n c raw::L))):=h.re
 refine je a6 V h a7 λw E I H us g NM O U W h=>⟨_,_,_,rfl,?_⟩
 have h:Sat σ w ((y,cel (N16.C {a8:=s,a9:=e}).toList ak)::(b1,cel (N16.C {}).toList ak)::((g++NM)++(fu t s e q n c raw::(RM++KM)++L))):=h.re
 refine Sat.st h (k:=0) rfl (by show 0<16;decide) trivial rfl λw h=>?_
 refine Sat.st h (k:=0) rfl (by show 12<16;decide) trivial rfl λw h=>?_
 refine Sat.st h (k:=0) rfl (by show 7<16;decide) trivial rfl λw h=>?_
 exact ia (v:=IH.nd {kind:=6,tight:=true,s:=s,e:=e} E I H) (u:= {}) (NM:=g++NM) ⟨_,xs,E,I,H,us,g,NM,rfl,rfl,rfl,⟨cg,cg,cg,cg⟩,O,U,W⟩ h b3

structure TI2 where
 q:OA
 n:Nat
 c:Nat
 vs:List Value
 RM:List ai
 KM:List ai
 ts:List Inl
def TI2.ok (t:TI2):Prop:=Sl 1 aC t.q t.n t.c t.vs t.RM/\t.n<1073741824/\InlsAt t.ts t.vs t.KM
def wQ (x:TX)(t:TI2):List ai:=fu x.t x.s x.e t.q t.n t.c x.raw::(t.RM++t.KM)
def fL:List TX->List TI2->List ai
 |x::xs,t::ts=>wQ x t++fL xs ts
 |_,_=> []
inductive FilledI (G:List UInt8->List Inl):List TX->List TI2->Prop where
 |nil:FilledI G [] []
 |cons {x:TX} {t:TI2} {xs:List TX} {ts:List TI2}:t.ok->t.ts=G x.raw->FilledI G xs ts->FilledI G (x::xs) (t::ts)
theorem FilledI.split {G:List UInt8->List Inl}: ∀ {xs g:List TX} {ts:List TI2},FilledI G (xs++g) ts-> ∃ts1 ts2,ts=ts1++ts2/\FilledI G xs ts1/\FilledI G g ts2
 | [],g,ts,h=>⟨[],ts,rfl,.nil,h⟩
 |x::xs,g,ts,h=>by
  cases h with
  |cons y E I=>
   obtain⟨ts1,ts2,rfl,O,H⟩:=I.split
   exact⟨_::ts1,ts2,rfl,.cons y E O,H⟩
theorem FilledI.append {G:List UInt8->List Inl}{xs g:List TX}{ts us:List TI2}(y:FilledI G xs ts)(H:FilledI G g us):FilledI G (xs++g) (ts++us):=by
 induction y with
 |nil=>exact H
 |cons a b _ E=>exact .cons a b E
theorem me {G:List UInt8->List Inl}: ∀ {xs g:List TX} {ts us:List TI2},FilledI G xs ts->fL (xs++g) (ts++us)=fL xs ts++fL g us
 |_,_,_,_,.nil=>rfl
 |_,_,_,_,.cons h1 h2 h3=>by simp only[lR0,fL,lD0];rw[me h3]
def ju (lk:Option Nat)(L0:List ai)(op:Opt)(s:List UInt8)(ts:List Inl):Prop:=
 ∀(σ:Out) (R:Ending->World->Prop) (b pb:Nat) (p:PS) (L:List ai) (w:World),(∀c∈L0,c∈L)->Sat σ w (p.at b::L)->p.pz=kE pb->op.at pb∈L->p.links=lk->
  (∀w (p':PS) q n c vs RM KM,p'.coreS=p.coreS->Sl 1 aC q n c vs RM->n<1073741824->InlsAt ts vs KM->Sat σ w (p'.at b::(RM++(KM++L)))->R (hQ (hT q n c)) w)->
  callE P fy #[kT (kE b),hX (bs s)] R w
theorem A6 {b pb:Nat}{op:Opt}{G:List UInt8->List Inl}{p:PS}{xs:List TX}{O L0:List ai}{lk:Option Nat}(h:Sat σ w (p.at b::(O++(xs.map TX.chunk++L))))(ht:Txts p (xs.map TX.t) O)(c2:p.pz=kE pb)(b3:op.at pb∈L)(b5:p.links=lk)(b6: ∀c∈L0,c∈L)(W:p.Lq=none/\p.Ln=0/\p.Lc=0)(e0: ∀x∈xs,ju lk L0 op x.raw (G x.raw))(c8: ∀w (p':PS) ts,p'.coreS=p.coreS->FilledI G xs ts->Sat σ w (p'.at b::(O++(fL xs ts++L)))->bp.k4 R b w):
 bp.l2 R (kE pb) b p.tq p.tn p.tc (p.tn:Nat) 0 w:=by
 have e6:p.tn=xs.length:=by rw[ht.2.1,lS0]
 have e5:xs.length<1048576:=by have:=ht.2.2;rwa [lS0] at this
 intro Y a7
 have b7:=h
 clear h
 have b9: ∀(E y:List TX) ts1 w (g:PS),y++E=xs->g.coreS=p.coreS->FilledI G y ts1->Sat σ w (g.at b::(O++(fL y ts1++(E.map TX.chunk++L))))->Y (kE pb) b p.tq p.tn p.tc (p.tn:Nat) (y.length:Nat) w:=by
  intro E
  induction E with
  |nil=>
   intro y ts1 w g I H V h
   rw[lG0] at I
   subst I
   have c4:g.Lq=none:=by have:=congrArg PS.Lq H;rw[show g.Lq=p.Lq from this];exact W.1
   have d5:g.Ln=0:=by have:=congrArg PS.Ln H;rw[show g.Ln=p.Ln from this];exact W.2.1
   have d1:g.Lc=0:=by have:=congrArg PS.Lc H;rw[show g.Lc=p.Lc from this];exact W.2.2
   have h:Sat σ w (g.at b::(O++(fL y ts1++L))):=h
   have d0:op.at pb∈g.at b::(O++(fL y ts1++L)):=by simp[b3]
   have fin:bp.k4 R b w:=c8 w g ts1 H V h
   refine a7 _ _ _ _ _ _ _ _ (ae (by simp;omega) (aa ?_))
   simp only[lK0,lN0]
   refine⟨op.task,Sat.ld h d0 rfl,bM (λ_=>?_) (λ_=>fin)⟩
   refine⟨_,_,_,Sat.ld h (.head _) (i:=10) rfl,?_⟩
   rw[c4,d5,d1]
   intro Z c9
   exact c9 _ _ _ _ _ _ _ (ae rfl fin)
  |cons x E d3=>
   intro y ts1 w g I H V h
   have e4:y.length<xs.length:=by rw[<-I];simp
   obtain⟨U,sp,a6,rfl⟩:=ht.1.rowAt (by omega)
   refine a7 _ _ _ _ _ _ _ _ (ag (by simp;omega) ⟨by omega,by omega,?_⟩)
   rw[a6]
   refine aa ?_
   simp only[lK0,lN0,lC0,lC1]
   have b4:((xs.map TX.t).map (λt=>kT (kE t))++sp)[y.length]? =some (kT (kE x.t)):=by
    rw[lM0 (by simp;omega),<-I];simp
   refine⟨_,Sat.ld h (.tail _ (.head _)) b4,aa ?_⟩
   simp only[lK0,lN0]
   have h:Sat σ w (g.at b::(x.chunk::([(U,cel ((xs.map TX.t).map (λt=>kT (kE t))++sp) dU)]++(fL y ts1++(E.map TX.chunk++L))))):=by
    rw[lU1] at h
    exact h.re
   refine⟨_,Sat.ld h (.tail _ (.head _)) (i:=3) rfl,?_⟩
   have hc:g.pz=kE pb:=by have:=congrArg PS.pz H;rw[show g.pz=p.pz from this];exact c2
   have d2:g.links=lk:=by have:=congrArg PS.links H;rw[show g.links=p.links from this];exact b5
   refine e0 x (by rw[<-I];simp) σ _ b pb g _ w (λc hc=>by simp[b6 c hc]) h hc (by simp[b3]) d2 λw p2 q n c vs RM KM c1 d4 b8 c5 h=>⟨_,_,_,rfl,aa ?_⟩
   have h:Sat σ w (fu x.t x.s x.e none 0 0 x.raw::(p2.at b::(RM++(KM++([(U,cel ((xs.map TX.t).map (λt=>kT (kE t))++sp) dU)]++(fL y ts1++(E.map TX.chunk++L))))))):=by
    have h:Sat σ w (p2.at b::(RM++(KM++(fu x.t x.s x.e none 0 0 x.raw::([(U,cel ((xs.map TX.t).map (λt=>kT (kE t))++sp) dU)]++(fL y ts1++(E.map TX.chunk++L))))))):=h
    exact h.re
   refine h.stA 0 λw h=>?_
   have h:Sat σ w (fu x.t x.s x.e q n c x.raw::(p2.at b::(RM++(KM++([(U,cel ((xs.map TX.t).map (λt=>kT (kE t))++sp) dU)]++(fL y ts1++(E.map TX.chunk++L))))))):=h
   rw[aN (by omega)]
   have c3:FilledI G (y++ [x]) (ts1++ [⟨q,n,c,vs,RM,KM,G x.raw⟩]):=V.append (.cons ⟨d4,b8,c5⟩ rfl .nil)
   have:=d3 (y++ [x]) _ w p2 (by rw[<-I];simp) (c1.trans H) c3 ?_
   ·rw[lA0,lE0,a6] at this;exact this
   ·rw[me V]
    show Sat σ w (p2.at b::([(U,cel ((xs.map TX.t).map (λt=>kT (kE t))++sp) dU)]++((fL y ts1++((fu x.t x.s x.e q n c x.raw::(RM++KM))++ []))++(E.map TX.chunk++L))))
    exact h.re
 exact b9 xs [] [] w p rfl rfl .nil b7
def DB.tree (G:List UInt8->List Inl)(d:DB)(x:IN):Prop:= ∀ts,FilledI G d.txs ts-> ∃T,qx bS x d.v T/\ ∀a,cnt a (d.own++fL d.txs ts)=cnt a T
inductive oR (G:List UInt8->List Inl):List DB->List IN->Prop where
 |nil:oR G [] []
 |cons {d:DB} {x:IN} {D:List DB} {xs:List IN}:d.tree G x->oR G D xs->oR G (d::D) (x::xs)
theorem pB {G:List UInt8->List Inl}{D:List DB}{xs:List IN}(h:oR G D xs): ∀ts,FilledI G (cl D) ts-> ∃KM,jQ bS xs (D.map DB.v) KM/\ ∀a,cnt a (cX D++fL (cl D) ts)=cnt a KM:=by
 induction h with
 |nil=>intro ts ht;cases ht;exact⟨[],.nil,λa=>rfl⟩
 | @cons d x D xs h1 h2 ih=>
  intro ts ht
  have e:cl (d::D)=d.txs++cl D:=by simp[cl]
  rw[e] at ht⊢
  obtain⟨ts1,ts2,rfl,g,O⟩:=ht.split
  obtain⟨KM,I,H⟩:=ih ts2 O
  obtain⟨T,y,E⟩:=h1 ts1 g
  refine⟨_,.cons y I,λa=>?_⟩
  have:=H a
  have:=E a
  rw[me g,show cX (d::D)=d.own++cX D by simp[cX]]
  simp only[dE] at*
  omega
theorem Br {G:List UInt8->List Inl}{nb t s e:Nat}{raw:List UInt8}(y:lR (G raw)):(kf nb t s e raw).tree G (.mk {kind:=6,s:=s,e:=e} (fW (G raw))):=by
 intro ts ht
 cases ht with
 |cons g H E=>
  cases E
  rw[<-H] at y⊢
  exact⟨_,Ad (nb:=nb) (t:=t) (s:=s) (e:=e) (s':=s) (e':=e) (raw:=raw) g.1 (eK y g.2.2) g.2.1,λa=>by simp[kf,fL,wQ]⟩
theorem A7 {G:List UInt8->List Inl}{nb t s e:Nat}{raw:List UInt8}(g:lR (G raw)):(du (kf nb t s e raw)).tree G (.mk {kind:=6,tight:=true,s:=s,e:=e} (fW (G raw))):=by
 rw[kF]
 intro ts ht
 cases ht with
 | @cons x t1 xs ts h1 h2 h3=>
  cases h3
  rw[<-h2] at g⊢
  have y:=Ac (t:=t) (s:=s) (e:=e) (raw:=raw) h1.1 (eK g h1.2.2) h1.2.1
  refine⟨kY nb s e t::(fu t s e t1.q t1.n t1.c raw::(t1.RM++t1.KM)),λσ R L w h E=>?_,λa=>by simp[fL,wQ]⟩
  have h:Sat σ w ((fu t s e t1.q t1.n t1.c raw::(t1.RM++t1.KM))++(kY nb s e t::L)):=h.re
  exact y σ R _ w h λw u M H h=>E w u M H h.re
theorem zP {G:List UInt8->List Inl}{nb s e:Nat}{q:OA}{n c:Nat}{IM:List ai}{D:List DB}{xs:List IN}(H:Sl 1 aO q n c (D.map DB.v) IM)(I:n<1073741824)(g:oR G D xs):(nX nb s e q n c IM D).tree G (.mk {kind:=2,s:=s,e:=e} xs):=by
 intro ts ht
 obtain⟨KM,E,y⟩:=pB g ts ht
 refine⟨_,yo (nb:=nb) (s:=s) (e:=e) H E I,λa=>?_⟩
 have:=y a
 show cnt a (Do nb s e q n c::(IM++cX D)++fL (cl D) ts)=_
 simp only[dE,eP] at this⊢;omega
theorem ww {G:List UInt8->List Inl}{i:IT}{xs:List IN}(hi:i.ok)(g:oR G i.D xs):i.db.tree G (.mk {kind:=4,width:=i.wd,s:=i.s,e:=i.e} xs):=by
 intro ts ht
 obtain⟨KM,E,y⟩:=pB g ts ht
 refine⟨_,Af (nb:=i.nb) (s:=i.s) (e:=i.e) (wd:=i.wd) hi.sl E (by have:=IT.n_eq hi;have:=hi.len;omega),λa=>?_⟩
 have:=y a
 show cnt a (i.chunk::(i.IM++cX i.D)++fL (cl i.D) ts)=_
 unfold IT.chunk
 simp only[dE,eP] at this⊢;omega
theorem BJ {G:List UInt8->List Inl}{nb s e:Nat}{bul:UInt8}{num:Int}{lo:Bool}{q:OA}{n c:Nat}{IM:List ai}{items:List IT}{xs:List IN}(H:Utf8.encode (bul.toNat:Int)=bs [bul])(I:Sl 1 aO q n c (items.map IT.v) IM)(O:n<1073741824)(y:oR G (items.map IT.db) xs):
 (p8 nb s e (bul.toNat:Int) num lo q n c IM items).tree G (.mk {kind:=3,num:=if bul=46\/bul=41 then num else -1,char:= [bul],loose:=lo,s:=s,e:=e} xs):=by
 intro ts ht
 obtain⟨KM,g,E⟩:=pB y ts ht
 have U:(items.map IT.db).map DB.v=items.map IT.v:=by simp[Function.comp_def,IT.db]
 rw[U] at g
 refine⟨_,Ae (nb:=nb) (s:=s) (e:=e) (num:=num) (lo:=lo) H I g O,λa=>?_⟩
 have:=E a
 show cnt a (tj nb s e (bul.toNat:Int) num lo q n c::(IM++cX (items.map IT.db))++fL (cl (items.map IT.db)) ts)=_
 simp only[dE,eP] at this⊢;omega

def vp (L0:List ai)(op:Opt)(text:List UInt8)(y:List IN->Prop):Prop:=
 ∀(σ:Out) (R:Ending->World->Prop) (L:List ai) (w:World) (pb:Nat),(∀c∈L0,c∈L)->Sat σ w L->op.at pb∈L->
  (∀w db k s e xs g,qx bS (.mk {kind:=1,s:=s,e:=e} xs) (bkV da db) g->y xs->Sat σ w (g++L)->R (hQ (.tuple #[kT (kE db),hV k])) w)->
  callE P li #[kT (kE pb),hX (bs text)] R w
theorem xU {L0:List ai}{op:Opt}{text:List UInt8}{ls:List (List UInt8 × UInt8)}{G:List UInt8->List Inl}{a6:List IN->Prop}(W:LinesOf text ls)(e7:0 ∉ text)(b7:text.length<1000000)(H:List (List UInt8 × UInt8)->Nat->List Bk->Leaf->Prop)(d5: ∀root,root.isRoot->root.D= []->H ls 0 [root] .none)(step: ∀l nl rem n fs lf,H ((l,nl)::rem) n fs lf->pK L0 op (n+1) l nl fs lf (H rem (n+1)))(fin: ∀n fs lf,H [] n fs lf->pO op fs lf λD=> ∃xs,oR G D xs/\a6 xs/\ ∀x∈cl D,ju none [] op x.raw (G x.raw)):vp L0 op text a6:=by
 intro σ R L w pb c2 h U e6
 refine bp.sound ?_
 refine Sat.bx h λb w h=>?_
 refine h.stA 0 λw h=>?_
 have h:Sat σ w ((PS0 (kE pb)).at b::L):=h
 refine jR (sub:= [0]) (by omega) (by decide) ⟨_,rfl,?_⟩
 rw[kO e7]
 refine ae rfl ?_
 refine h.stA 0 λw h=>?_
 refine Sat.bx h λE w h=>?_
 let p0:PS:= {PS0 (kE pb) with depth:= -1}
 have h:Sat σ w (p0.at b:: []++((E,cel [] eR)::L)):=h.up1
 have b3:Stk p0 [] []:=⟨Sl.nil 4 ay,rfl,by simp⟩
 refine oQ h b3 rfl (by decide) λw g M O c4 h=>⟨rfl,?_⟩
 intro X e5
 have f1:=W.len
 have e4:g.base=p0.base:=by rw[O];rfl
 have a7:g.lineno=0:=by rw[O];rfl
 have d4:Txts g [] []:=by
  have:g.tq=none/\g.tn=0/\g.tc=0:=by rw[O];exact⟨rfl,rfl,rfl⟩
  obtain⟨a,b,c⟩:=this
  unfold Txts
  rw[a,b,c]
  exact⟨Sl.nil 1 dU,rfl,by simp⟩
 let root:Bk:=⟨⟨Gi E,none,0,0,0,0⟩,[(E,cel [] eR)],[],[]⟩
 have hd:DocC σ b L [root] .none g w:=by
  refine⟨M,[],[],[],c4,d4,λf V=>?_,⟨rfl,rfl⟩,?_⟩
  ·obtain rfl:=lQ0.1 V
   exact⟨Sl.nil 1 aO,by simp[root],by show 0<1000000000;decide,by show 0<1000000000;decide⟩
  ·have em:aM [root]= [(E,cel [] eR)]:=by simp[root,dy,cX,txc,cl]
   rw[em]
   exact h
 refine BL (p0:=p0) (op:=op) step c2 e5 U rfl ?_ W w g [root] .none b7 (by rw[a7];omega) e4 (by rw[a7];exact d5 root ⟨E,rfl,rfl⟩ rfl) hd
 intro w p fs lf hb f0 d2
 have b8:p.pz=kE pb:=by have:=congrArg PS.pz hb;exact this
 refine ae (by rw[cZ,gk];rfl) ?_
 refine Ah (fin _ fs lf f0) d2 b8 U λw p' f2 db IM e9 q n c s e d0 c8 ht c9 f3 h=>⟨rfl,?_⟩
 obtain⟨xs,e8,b9,c3⟩:=c8
 have y:p'.base= {p0.base with root:=kE db}:=by rw[d0,hb]
 have d1:p'.pz=kE pb:=by have:=congrArg PS.pz y;exact this
 have c1:p'.links=none:=by have:=congrArg PS.links y;exact this
 have b5:p.links=none:=by have:=congrArg PS.links hb;exact this
 have e0:p'.root=kE db:=by have:=congrArg PS.root y;exact this
 have d3:p'.Lq=none/\p'.Ln=0/\p'.Lc=0:=⟨by have:=congrArg PS.Lq y;exact this,by have:=congrArg PS.Ln y;exact this,by have:=congrArg PS.Lc y;exact this⟩
 refine⟨_,_,_,Sat.ld h (.head _) (i:=11) rfl,?_⟩
 refine A6 (op:=op) (G:=G) (L0:= []) h ht d1 (by simp[U]) c1 (by simp) d3 c3 λw p2 ts c5 V h=>?_
 have b6:p2.root=kE db:=by have:=congrArg PS.root c5;rw[show p2.root=p'.root from this];exact e0
 unfold bp.k4
 refine h.tk λw h=>?_
 refine⟨_,Sat.ld h (.head _) (i:=1) rfl,_,Sat.ld h (.head _) (i:=6) rfl,?_⟩
 rw[b6]
 obtain⟨KM,e3,b4⟩:=pB e8 ts V
 rw[b5] at h
 refine e6 w db p2.corner s e xs (AJ db s e q n c none::(IM++KM)) (Cc c9 e3 (by omega)) b9 ?_
 refine Sat.less (p2.at b::e9) h λa=>?_
 have:=b4 a
 simp only[lN3,dE,eP,mg] at this⊢
 omega
namespace fU
def k1 (R:EP)(E:OA)(y b7 b9:Nat)(g:Int)(c2:Bool)(w:World):Prop:=
 br c2
 (tk w λH=>
 0<=g/\g<(y:Int)/\
 aA E λc4=>
 ∃I,H.cell? ((c4.add (Int.toNat g*10)).add 1)=some (hX I)/\
 ∃O,H.cell? (hZ b9 1)=some (hX O)/\
 ((I.size+O.size:Nat):Int)<=i64.max/\
 0<=g/\g<(y:Int)/\
 aA E λa10=>
 stV H (((a10.add (Int.toNat g*10)).add 1).add 0) (hX (I++O)) λc1=>
 R (hQ (hT E y b7)) c1)
 (ldB10 w b9 λc3=>
 ∃b5 b3,∃b4 b6,(Instr.buildSlice au 1 #[(0,c3.V)]).run P w= .ok (hT b5 b3 b4) b6/\
 ∃W U,∃a6 b8,(Builtin.append_ #[au,au] au #[hT E y b7,hT b5 b3 b4]).run P b6= .ok (hT W U a6) b8/\
 R (hQ (hT W U a6)) b8)
end fU
def fU (R:EP)(E:OA)(g H:Nat)(c1:Int)(b5 c2:BA)(b6:Int)(b4:BA)(b9:Bool)(a7:OA)(W a6:Nat)(b3:OA)(U V:Nat)(b7 b8:Int)(w:World):Prop:=
 box w (N10.C {a0:=c1,a1:=b5,a2:=c2,a3:=b6,a4:=b4,a5:=b9,q6:=a7,n6:=W,c6:=a6,q7:=b3,n7:=U,c7:=V,a8:=b7,a9:=b8}) af λb1 y=>
 br (decide ((i64.wrap ((g:Int) - 1)) >= 0))
 (∃I,y.cell? (hZ b1 0)=some (hY I)/\
 br (I==20)
 (0<=(i64.wrap ((g:Int) - 1))/\(i64.wrap ((g:Int) - 1))<(g:Int)/\
 aA E λa4=>
 ∃O,y.cell? (a4.add (Int.toNat (i64.wrap ((g:Int) - 1))*10))=some (hY O)/\
 fU.k1 R E g H b1 (i64.wrap ((g:Int) - 1)) (O==20) y)
 (fU.k1 R E g H b1 (i64.wrap ((g:Int) - 1)) false y))
 (fU.k1 R E g H b1 (i64.wrap ((g:Int) - 1)) false y)
theorem fU.sound {R x0q x0n x0c x1_0 x1_1 x1_2 x1_3 x1_4 x1_5 x1_6q x1_6n x1_6c x1_7q x1_7n x1_7c x1_8 x1_9 w}(h:fU R x0q x0n x0c x1_0 x1_1 x1_2 x1_3 x1_4 x1_5 x1_6q x1_6n x1_6c x1_7q x1_7n x1_7c x1_8 x1_9 w):callE P fm #[hT x0q x0n x0c,(N10.V {a0:=x1_0,a1:=x1_1,a2:=x1_2,a3:=x1_3,a4:=x1_4,a5:=x1_5,q6:=x1_6q,n6:=x1_6n,c6:=x1_6c,q7:=x1_7q,n7:=x1_7n,c7:=x1_7c,a8:=x1_8,a9:=x1_9})] R w:=
 aH [(29,.mk [3,66,107,460] (fU.k1 R)),(77,.dr (rpN [0,3,6,9,15,13,19,21,24,27,32]))] Tryz.func31 Tryz.call31 h

noncomputable def rowND:Row P au af 10 136:=
 ⟨(P.info? af).getD default,((P.info? af).bind (·.zero)).getD default,by kernel_rfl,by kernel_rfl,by kernel_rfl,by kernel_rfl,by kernel_rfl,by kernel_rfl,by decide⟩
theorem wR (v:N10):Instr.fill (λi=>some (i*10,10)) ((Array.range (1*10)).map (rowND.z.cells[· %rowND.z.cells.size]!)) [(0,v.V)]=some v.C:=by kernel_rfl
theorem Bt (v:N10): ∀u∈v.V.cells.toList,u.oneCell'=true:=by
 intro x g
 simp only[N10.V,Value.cells,N10.C,lW0,lD1,or_false] at g
 rcases g with rfl|rfl|rfl|rfl|rfl|rfl|rfl|rfl|rfl|rfl<;>rfl
def NodeDt (x:ND)(v:N10)(M:List ai):Prop:= ∃h g qa ca q n c vs RM KM,x= .mk h g/\v=h.nd qa ca q n c/\M=RM++KM/\n<1073741824/\NDs g vs KM/\Sl 10 af q n c vs RM
theorem NodeDt.cons {x:ND}{xs:List ND}{v:N10}{us:List Value}{M g:List ai}(h:NodeDt x v M)(y:NDs xs us g):NDs (x::xs) (v.C.toList++us) (M++g):=by
 obtain⟨H,E,qa,ca,q,n,c,vs,RM,KM,rfl,rfl,rfl,b,d,e⟩:=h
 exact .cons b d e y
theorem NodeDt.one {x:ND}{v:N10}{M:List ai}(h:NodeDt x v M):NDs [x] v.C.toList M:=by
 have:=h.cons .nil
 rwa [lG0,lG0] at this
theorem NodeDt.leaf {h:NH}{qa:OA}{ca:Nat}:NodeDt (.mk h []) (h.nd qa ca none 0 0) []:=⟨h,[],qa,ca,none,0,0,[],[],[],rfl,rfl,rfl,by decide,.nil,Sl.nil 10 af⟩
theorem NodeDt.kind {x:ND}{v:N10}{M:List ai}(h:NodeDt x v M):v.a0=(x.h.kind:Int)/\v.a1=bs x.h.text:=by
 obtain⟨y,g,qa,ca,q,n,c,vs,RM,KM,rfl,rfl,rfl,_⟩:=h
 exact⟨rfl,rfl⟩
theorem NDs.snoc: ∀ {pre:List ND} {E:ND} {vs:List Value} {M:List ai},NDs (pre++ [E]) vs M-> ∃H I u g,vs=H++u.C.toList/\M=I++g/\NDs pre H I/\NodeDt E u g
 | [],E,vs,M,h=>by
  cases h with
  | @cons h0 ks _ qa ca q n c vs us RM KM XM a b d e=>
   cases e
   refine⟨[],[],h0.nd qa ca q n c,RM++KM,?_,?_,.nil,⟨h0,ks,qa,ca,q,n,c,vs,RM,KM,rfl,rfl,rfl,a,b,d⟩⟩
   ·rw[lT0,lG0]
   ·rw[lT0,lG0]
 |x::pre,E,vs,M,h=>by
  cases h with
  | @cons h0 ks _ qa ca q n c vs us RM KM XM a b d e=>
   obtain⟨H,I,u,g,rfl,rfl,O,U⟩:=NDs.snoc e
   refine⟨_,_,u,g,?_,?_,NDs.cons (qa:=qa) (ca:=ca) a b d O,U⟩
   ·simp only[lD0]
   ·simp only[lD0]
def oa:List ND->Nat
 | []=>0
 |x::xs=>x.h.text.length+oa xs
theorem ja (a b:List ND):oa (a++b)=oa a+oa b:=by
 induction a with
 |nil=>simp[oa]
 |cons x a g=>rw[lR0,oa,oa,g,lC3]
theorem vS (pre:List ND)(h:NH)(g:List ND)(x:ND):j4 (pre++ [.mk h g]) x=if x.h.kind=20/\h.kind=20 then pre++ [.mk {h with text:=h.text++x.h.text} g] else pre++ [.mk h g,x]:=by
 induction pre with
 |nil=>rfl
 |cons a pre y=>
  have e:j4 (a::(pre++ [.mk h g])) x=a::j4 (pre++ [.mk h g]) x:=by
   obtain⟨a1,a2⟩:=a
   cases pre with
   |nil=>rfl
   |cons b pre=>rfl
  rw[lR0,e,y]
  split<;>rfl
theorem uE (g:List ND)(x:ND):oa (j4 g x)=oa g+x.h.text.length:=by
 rcases lA2 g with rfl|⟨pre,⟨h,y⟩,rfl⟩
 ·show x.h.text.length+0=0+_
  omega
 ·rw[lL2,vS]
  split
  ·rw[ja,ja]
   show oa pre+((h.text++x.h.text).length+0)=oa pre+(h.text.length+0)+_
   rw[lA0];omega
  ·rw[ja,ja]
   show oa pre+(h.text.length+(x.h.text.length+0))=oa pre+(h.text.length+0)+_
   omega
theorem o8 {E:List ND}{x:ND}{q:OA}{n c:Nat}{vs:List Value}{RM KM M:List ai}{u:N10}(b3:NDs E vs KM)(a7:Sl 10 af q n c vs RM)(e1:NodeDt x u M)(g4:n<1073741823)(e3:oa E+x.h.text.length<4611686018427387904)(h:Sat σ w (RM++(KM++(M++L))))(d2: ∀w b4 c2 b5 c9 a6 KM',c2<=n+1->NDs (j4 E x) c9 KM'->Sl 10 af b4 c2 b5 c9 a6->Sat σ w (a6++(KM'++L))->R (hQ (hT b4 c2 b5)) w):
 callE P fm #[hT q n c,u.V] R w:=by
 have e5:i64.max=9223372036854775807:=rfl
 have g0:=b3.len
 have e0:=a7.1
 have d1:n=E.length:=by omega
 obtain⟨d3,ht⟩:=e1.kind
 refine fU.sound ?_
 refine Sat.bx h λb1 w h=>?_
 have h:Sat σ w ((b1,cel u.C.toList af)::(RM++(KM++(M++L)))):=h
 have b6:E= []\/j4 E x=E++ [x]-> ∀i w,Sat σ w ((b1,cel u.C.toList af)::(RM++(KM++(M++L))))->fU.k1 R q n c b1 i false w:=by
  intro c4 i w h
  refine ae rfl (h.ldB10 u (.head _) ?_)
  have h:Sat σ w (RM++(KM++(M++((b1,cel u.C.toList af)::L)))):=h.re
  refine Sat.app1 rowND a7 h (v:=u.V) rfl (Bt u) (wR u) (by omega) (by omega) (by decide) λb4 b5 w a6 e7 h=>?_
  have e:j4 E x=E++ [x]:=by
   rcases c4 with rfl|c4
   ·rfl
   ·exact c4
  refine d2 w b4 (n+1) b5 _ a6 (KM++M) (lZ0 _) (by rw[e];exact b3.append e1.one) e7 ?_
  exact h.less [(b1,cel u.C.toList af)]
 rcases lA2 E with rfl|⟨pre,y,rfl⟩
 ·have e9:n=0:=d1
  subst e9
  exact ae rfl (b6 (.inl rfl) _ w h)
 rw[lL2] at*
 have f0:n=pre.length+1:=by rw[d1];simp
 have f4:i64.wrap ((n:Int) - 1)=(pre.length:Nat):=by rw[gr (by omega) (by omega),f0];rfl
 have g2:=b3
 obtain⟨O,d4,v,g3,rfl,rfl,c8,f6⟩:=b3.snoc
 have f1:=c8.len
 obtain⟨g,W,qa,ca,I,H,c0,us,c1,b9,rfl,rfl,rfl,f2,f3,f5⟩:=f6
 have d5:=vS pre g W x
 rw[f4]
 refine ag (by simp) ⟨_,Sat.ld h (.head _) (i:=0) rfl,?_⟩
 have c5: ¬ (x.h.kind=20/\g.kind=20)->j4 (pre++ [.mk g W]) x=(pre++ [.mk g W])++ [x]:=by
  intro hc
  rw[d5,if_neg hc];simp
 refine bM (λU=>?_) (λU=>?_)
 ·have e4:x.h.kind=20:=by
   rw[d3] at U
   have:=eq_of_beq U
   omega
  refine⟨by omega,by omega,?_⟩
  have e8:=a7
  obtain⟨_,_,⟨rfl,hz,_,_⟩|⟨c3,sp,rfl,rfl,d0⟩⟩:=e8
  ·omega
  refine aa ?_
  simp only[lK0,lC0,lN0]
  have b8: ∀(i:Nat) (z:Value),(g.nd qa ca I H c0).C.toList[i]? =some z->(O++(g.nd qa ca I H c0).C.toList++sp)[pre.length*10+i]? =some z:=by
   intro i z hz
   rw[lD0]
   exact xN f1 hz
  refine⟨_,Sat.ld h (.tail _ (.head _)) (b8 0 _ rfl),?_⟩
  by_cases b7:g.kind=20
  ·rw[show (((g.kind:Nat):Int)==20)=true by rw[b7];rfl]
   refine ag rfl (h.tk λw h=>⟨by omega,by omega,aa ?_⟩)
   simp only[lK0,lC0,lN0]
   refine⟨_,Sat.ld h (.tail _ (.head _)) (b8 1 _ rfl),_,Sat.ld h (.head _) (i:=1) rfl,?_⟩
   rw[ht,bL]
   rw[ja] at e3
   have g1:oa [.mk g W]=g.text.length+0:=rfl
   refine⟨by rw[e5,aJ,aJ];omega,by omega,by omega,aa ?_⟩
   simp only[lK0,lC0,lN0,lL1]
   have e6:(O++(g.nd qa ca I H c0).C.toList++sp).set (pre.length*10+1) (hX (bs (g.text++x.h.text)))=O++(NH.nd {g with text:=g.text++x.h.text} qa ca I H c0).C.toList++sp:=by
    rw[lD0,lO1 _ _ (by omega),show pre.length*10+1 - O.length=1 by omega,lD0]
    rfl
   refine Sat.st h (k:=1) rfl (by have:=(lL0.1 (b8 1 _ rfl)).1;exact this) trivial rfl λw h=>?_
   rw[e6] at h
   have h:Sat σ w ((b1,cel u.C.toList af)::([(c3,cel (O++(NH.nd {g with text:=g.text++x.h.text} qa ca I H c0).C.toList++sp) af)]++(d4++(c1++b9)++(M++L)))):=h
   refine d2 w _ n c (O++(NH.nd {g with text:=g.text++x.h.text} qa ca I H c0).C.toList) [(c3,cel (O++(NH.nd {g with text:=g.text++x.h.text} qa ca I H c0).C.toList++sp) af)] (d4++(c1++b9)) (by omega) ?_ ⟨?_,a7.2.1,.inr ⟨c3,sp,rfl,rfl,?_⟩⟩ ?_
   ·rw[d5,if_pos ⟨e4,b7⟩]
    exact c8.append (NodeDt.one ⟨_,W,qa,ca,I,H,c0,us,c1,b9,rfl,rfl,rfl,f2,f3,f5⟩)
   ·rw[lA0];rw[lA0] at e0;exact e0
   ·rw[lA0,lA0] at d0⊢;exact d0
   ·exact h.less ((b1,cel u.C.toList af)::M)
  ·rw[show (((g.kind:Nat):Int)==20)=false by rw[beq_eq_false_iff_ne];omega]
   exact b6 (.inr (c5 (λhc=>b7 hc.2))) _ w h
 ·refine b6 (.inr (c5 (λhc=>?_))) _ w h
  rw[d3,hc.1] at U
  exact absurd U (by decide)

theorem uR (k d:Nat):(((k:Nat):Int)==(d:Int))=decide (k=d):=by
 rw[lZ4,beq_iff_eq,decide_eq_true_eq];omega

theorem Et {b:Nat}{e:TypeId}: ∀(vs pre mid g:List Value) (k:Nat) {w:World} {K:World->Prop},(∀v∈vs,nA v)->mid.length=vs.length->k=0->Sat σ w ((b,cel (pre++mid++g) e)::L)->(∀y,Sat σ y ((b,cel (pre++vs++g) e)::L)->K y)->stS vs (hZ b pre.length) k w K
 | [],pre,mid,g,k,w,K,_,hm,hk,h,hK=>by
  obtain rfl:=lB1 hm
  exact hK w h
 |v::vs,pre,[],g,k,w,K,_,hm,hk,h,hK=>by simp at hm
 |v::vs,pre,m::mid,g,k,w,K,hv,hm,hk,h,hK=>by
  subst hk
  refine Sat.st h (k:=0) (i:=pre.length) rfl (by simp) (hv v (.head _)) rfl λy h=>?_
  have W:(pre++(m::mid)++g).set pre.length v=(pre++ [v])++mid++g:=by
   rw[lD0,lO1 _ _ (lZ0 _),lW1];simp
  have h:Sat σ y ((b,cel ((pre++ [v])++mid++g) e)::L):=by rw[<-W];exact h
  have E:=Et vs (pre++ [v]) mid g 0 (K:=K) (λx a6=>hv x (.tail _ a6)) (by simpa using hm) rfl h (λy h=>hK y (by simpa using h))
  have U: ∀(vs:List Value) (n k:Nat) (w:World),stS vs ⟨b,n+1,none⟩ k w K->stS vs (hZ b n) (k+1) w K:=by
   intro vs
   induction vs with
   |nil=>intro n k w h;exact h
   |cons u us E=>
    intro n k w h
    have a7:(⟨b,n+1,none⟩:Addr).add k=((hZ b n):Addr).add (k+1):=by simp only[lK0];congr 1;omega
    obtain⟨V,H,I,O⟩:=h
    rw[a7] at H I O
    exact⟨V,H,I,E n (k+1) _ O⟩
  refine U vs pre.length 0 y ?_
  simpa using E
def btV:List Value:=hN 80 (hY 0)++ [hV false]
theorem Dm {b:Nat}{p:PS}(h:Sat σ w (p.at b::L))(y: ∀w,Sat σ w (({p with bt:= .z}:PS).at b::L)->R (hQ (.tuple #[])) w):callE P dM #[kT (some (hZ b 12))] R w:=by
 refine gc.sound ?_
 refine aa ?_
 let pre:List Value:= [kT p.pz,kT p.root,.map p.links,hY p.lineno,hT p.stq p.stn p.stc,hY p.depth,hV p.corner,hX (bs p.s),hY p.em,
  hT p.lq p.ln p.lc,hT p.Lq p.Ln p.Lc,hT p.tq p.tn p.tc]
 have e:p.cells=pre++p.bt.cells++ []:=by rw[lG0];rfl
 have h:Sat σ w ((b,cel (pre++p.bt.cells++ []) gC)::L):=by rw[<-e];exact h
 have:=Et btV pre p.bt.cells [] 0 (K:=λw=>R (hQ (.tuple #[])) w) (λv hv=>by simp[btV] at hv;rcases hv with rfl|rfl<;>trivial) (by simp[BT.cells,p.bt.ok,btV]) rfl h λw h=>y w (by
  have g:({p with bt:= .z}:PS).cells=pre++btV++ []:=by rw[lG0];rfl
  show Sat σ w ((b,cel ({p with bt:= .z}:PS).cells gC)::L)
  rw[g];exact h)
 exact this
theorem ta {s:List UInt8}(hs:s.length<1000000000)(g:s≠ [])(y:(10:UInt8) ∉ s)(h:Sat σ w L)(O: ∀w M,Sat σ w (M++L)->R (hQ (hX (bs s))) w):callE P lh #[hX (bs s),hX (hP #[10]),hX (hP #[32])] R w:=by
 refine eS.sound ?_
 intro X H
 refine H _ _ _ _ _ _ _ ?_
 refine jZ (sub:= [10]) (by omega) (by decide) ⟨_,rfl,?_⟩
 have e:kP s [10]= -1:=by unfold kP;rw[kO y]
 rw[e]
 refine ag rfl ?_
 refine By.appS By.nil (L:=L) h s (.inl g) (by omega) λW V U E I h _ _=>?_
 exact⟨_,_,I.str h,O U E h⟩
theorem PS.bt80 (p:PS):p.cells[92]? =some (hV p.bt.sc):=by
 show (p.bt.cells)[80]? =_
 unfold BT.cells
 rw[lH0 (by simp[p.bt.ok])]
 simp[p.bt.ok]
def BT.set0 (t:BT)(n:Int):BT:=⟨t.l.set 0 n,t.sc,by simp[t.ok]⟩
theorem PS.set12 (p:PS)(n:Int):p.cells.set 12 (hY n)=({p with bt:=p.bt.set0 n}:PS).cells:=by
 have e:p.bt.cells.set 0 (hY n)=(p.bt.set0 n).cells:=by
  obtain⟨l,sc,ok⟩:=p.bt
  cases l with
  |nil=>simp at ok
  |cons x l=>rfl
 have g: ∀(q:PS) (l:List Value),({q with bt:= .z}:PS).cells.take 12=q.cells.take 12:=λq l=>rfl
 show [kT p.pz,kT p.root,.map p.links,hY p.lineno,hT p.stq p.stn p.stc,hY p.depth,hV p.corner,hX (bs p.s),hY p.em,hT p.lq p.ln p.lc,hT p.Lq p.Ln p.Lc,hT p.tq p.tn p.tc]++p.bt.cells.set 0 (hY n)=_
 rw[e]
 rfl
theorem PS.cells12 (p:PS):12<p.cells.length:=by
 show 12<(p.bt.cells.length+12)
 simp[BT.cells,p.bt.ok]
theorem Cu {b:Nat}{p:PS}{A T B:List UInt8}(a6:T≠ [])(g: ∀c∈T,c≠96/\c≠10/\c≠32)(d1:B.head? ≠some 96)(b7:(A++96::(T++96::B)).length<1000000)(I:p.bt.sc=false):
 pN b p (A++96::(T++96::B)) A.length (.func (.func bI) #[kT (some (hZ b 12))] #[]) [] (some (.code T,A.length,A.length+T.length+2)) (λp'=>p'.bt.sc=false):=by
 intro σ R L w _ h c8
 refine gN ?_
 generalize hs:A++96::(T++96::B)=s at b7
 have e0:s.length=A.length+(T.length+B.length+2):=by rw[<-hs];simp;omega
 have y:0<T.length:=lY0.2 a6
 show callE P bI #[kT (some (hZ b 12)),kT (kE b),hX (bs s),hY (A.length:Nat)] R w
 have b4: ∀(k:Nat) (b3:k<T.length) (h:A.length+1+k<s.length),s[A.length+1+k]=T[k]:=by
  intro k b3 h
  subst hs
  rw[lJ2 (by omega)]
  simp only[show A.length+1+k - A.length=k+1 by omega,lE6]
  rw[lQ5 b3]
 have b5: ∀(h:A.length+1+T.length<s.length),s[A.length+1+T.length]=96:=by
  intro h
  subst hs
  rw[lJ2 (by omega)]
  simp only[show A.length+1+T.length - A.length=T.length+1 by omega,lE6]
  rw[lJ2 (by omega)]
  simp
 have c3: ∀(h:A.length+1+T.length+1<s.length),s[A.length+1+T.length+1]≠96:=by
  intro h c1
  have e:s[A.length+1+T.length+1]? =some 96:=by rw[lI0 h,c1]
  rw[<-hs,lH0 (by omega)] at e
  rw[show A.length+1+T.length+1 - A.length=(T.length+1)+1 by omega,lY2,lH0 (by omega),show T.length+1 - T.length=0+1 by omega,lY2] at e
  rw[<-lC6] at e
  exact d1 e
 refine aE.sound ?_
 intro e1 c2
 refine c2 _ _ _ _ _ _ ?_
 have H:i64.wrap (((A.length:Nat):Int)+1)=((A.length+1:Nat):Int):=aN (by omega)
 refine⟨λ_=>by rw[H];exact⟨by omega,by simp;omega⟩,?_⟩
 rw[H]
 have c5:s[A.length+1]'(by omega)≠96:=by
  have:s[A.length+1]'(by omega)=T[0]:=b4 0 y (by omega)
  rw[this]
  exact(g _ (lP1 y)).1
 refine ae ?_ ?_
 ·rw[de (by omega) 96 96 rfl];simp[c5]
 refine ae rfl (aa ⟨_,Sat.ld h (.head _) (i:=92) p.bt80,?_⟩)
 rw[I]
 refine ae rfl ?_
 unfold aE.k3
 rw[H]
 intro d0 O
 have b8: ∀k m,m+k=T.length->d0 (some (hZ b 12)) (bs s) (A.length:Nat) (A.length:Nat) 1 ((A.length+1+m:Nat):Int) w:=by
  intro k
  induction k with
  |succ k d3=>
   intro m d2
   refine O _ _ _ _ _ _ _ (ag (by simp;omega) ⟨by omega,by simp;omega,ag ?_ ?_⟩)
   ·have e:=de (l:=s) (i:=A.length+1+m) (by omega) 96 96 rfl
    have:(bt (bs s) ((A.length+1+m:Nat):Int) !=96)= !(bt (bs s) ((A.length+1+m:Nat):Int)==96):=rfl
    rw[this,e,b4 m (by omega) (by omega)]
    simp[(g _ (lP1 (show m<T.length by omega))).1]
   ·rw[aN (by omega)]
    exact d3 (m+1) (by omega)
  |zero=>
   intro m d2
   obtain rfl:m=T.length:=by omega
   refine O _ _ _ _ _ _ _ (ag (by simp;omega) ⟨by omega,by simp;omega,ae ?_ ?_⟩)
   ·have e:=de (l:=s) (i:=A.length+1+T.length) (by omega) 96 96 rfl
    have:(bt (bs s) ((A.length+1+T.length:Nat):Int) !=96)= !(bt (bs s) ((A.length+1+T.length:Nat):Int)==96):=rfl
    rw[this,e,b5 (by omega)]
    rfl
   intro e2 U
   refine U _ _ _ _ _ _ _ _ ⟨λ_=>⟨by omega,by simp;omega⟩,ag ?_ ?_⟩
   ·rw[de (by omega) 96 96 rfl,b5 (by omega)];simp;omega
   rw[aN (by omega)]
   refine U _ _ _ _ _ _ _ _ ⟨λE=>⟨by omega,by simpa using E⟩,ae ?_ ?_⟩
   ·by_cases W:A.length+1+T.length+1<s.length
    ·rw[de W 96 96 rfl]
     simp[c3 W]
    ·rw[show decide (((A.length+1+T.length+1:Nat):Int)<((bs s).size:Int))=false by simp;omega];rfl
   refine aa ⟨_,Sat.ld h (.head _) (i:=92) p.bt80,?_⟩
   have d5:i64.wrap (((A.length+1+T.length+1:Nat):Int) - ((A.length+1+T.length:Nat):Int))=1:=by
    rw[show (((A.length+1+T.length+1:Nat):Int) - ((A.length+1+T.length:Nat):Int))=1 by omega];rfl
   rw[d5,I]
   refine ag rfl (aa ⟨by decide,by decide,?_⟩)
   refine Sat.st h (k:=0) (i:=12) rfl p.cells12 trivial rfl λw h=>?_
   rw[p.set12] at h
   have h:Sat σ w (({p with bt:=p.bt.set0 ((A.length+1+T.length:Nat):Int)}:PS).at b::L):=h
   generalize V:({p with bt:=p.bt.set0 ((A.length+1+T.length:Nat):Int)}:PS)=p' at h
   have b9:p'.core2=p.core2:=by rw[<-V];rfl
   have b6:p'.bt.sc=false:=by rw[<-V];exact I
   refine ag rfl ?_
   rw[H]
   refine⟨by omega,by omega,by simp;omega,?_⟩
   rw[lC0,lC0,cm]
   have c4:(s.take (A.length+1+T.length)).drop (A.length+1)=T:=by
    rw[<-hs]
    rw[show A++96::(T++96::B)=((A++ [96])++T)++96::B by simp,lC5 (by simp;omega),lB5 (by simp)]
   rw[c4]
   refine ta (by omega) a6 (λh=>(g _ h).2.1 rfl) h λw M h=>⟨_,rfl,?_⟩
   have a7:(bt (bs T) 0==32)=false:=by
    have:=de (l:=T) (i:=0) y 32 32 rfl
    rw[show ((0:Nat):Int)=0 from rfl] at this
    rw[this]
    simp[(g _ (lP1 y)).2.2]
   refine⟨λ_=>⟨by decide,by simp;omega⟩,λE=>by rw[a7] at E;simp at E,ae (by rw[a7];simp) ?_⟩
   refine ae rfl (Sat.bx h λd4 w h=>?_)
   have c9:((A.length+1+T.length+1:Nat):Int)=((A.length+T.length+2:Nat):Int):=by omega
   rw[c9]
   exact c8 w p' _ _ b9 b6 ⟨d4,AX,rfl,rfl⟩ (h.less M)
 exact b8 T.length 0 (by omega)

def AtD (X:XI)(σ:Out)(b:Nat)(p0:PS)(raw:List UInt8)(L:List ai)(i e:Nat)(ts:List Inl)(opens:List Nat)(lo:Int):Prop:=
 ∀g,AtC g (λt=>g=true->t.sc=false) X σ b p0 raw L i e ts opens lo
def xj (R:Ending->World->Prop)(X:XI)(b:Nat)(raw:List UInt8):Prop:= ∀g,GU R X b raw g
theorem AtD.plain {X:XI}{b pb i e:Nat}{p0:PS}{raw:List UInt8}{ts:List Inl}{opens:List Nat}{lo:Int}{o:Opt}(a7:xj R X b raw)(hi:i<raw.length)(hs:raw.length<1000000000)(W:p0.pz=kE pb)(b3:o.at pb∈L)(c1:jU o raw[i]= .nil)(a6:raw[i]≠93\/opens= [])(h:AtD X σ b p0 raw L (i+1) e ts opens lo):AtD X σ b p0 raw L i e ts opens lo:=by
 intro H w p b7 b5 b6 U hc I b4 b9
 refine a7 H _ _ _ _ _ _ ?_
 obtain⟨vs,RM,EM,c2,b8,V,E,O,g⟩:=b9
 refine kN (p:=p) hi (by omega) (by rw[PS.pz_of hc,W]) (.head _) (.tail _ (lB0 _ (lB0 _ (lB0 _ b3)))) g ?_
 rw[c1]
 have y:=E.1
 rw[lS0] at y
 exact zk (Gx hi (by omega) (a6.imp id (by rintro rfl;simp at y;omega)) (h H w p b7 b5 b6 U hc I b4 ⟨vs,RM,EM,c2,b8,V,E,O,g⟩))
theorem AtD.plains {X:XI}{b pb e:Nat}{p0:PS}{raw:List UInt8}{ts:List Inl}{opens:List Nat}{lo:Int}{o:Opt}(y:xj R X b raw)(hs:raw.length<1000000000)(g:p0.pz=kE pb)(E:o.at pb∈L):
 ∀(k i:Nat),i+k<=raw.length->(∀j (I:j<raw.length),i<=j->j<i+k->jU o raw[j]= .nil/\raw[j]≠93)->AtD X σ b p0 raw L (i+k) e ts opens lo->AtD X σ b p0 raw L i e ts opens lo
 |0,i,_,_,h=>h
 |k+1,i,hk,hall,h=>by
  have hi:i<raw.length:=by omega
  have H:=hall i hi (lZ0 _) (by omega)
  refine AtD.plain y hi hs g E H.1 (.inl H.2) ?_
  refine AtD.plains y hs g E k (i+1) (by omega) (λj I O U=>hall j I (by omega) (by omega)) ?_
  rw[show i+1+k=i+(k+1) by omega];exact h
theorem AtD.leaf {X:XI}{b pb i e st en:Nat}{p0:PS}{raw:List UInt8}{ts:List Inl}{opens:List Nat}{lo:Int}{o:Opt}{f:FuncId}{t:Inl}{L0:List ai}(b9:xj R X b raw)(hi:i<raw.length)(hs:raw.length<1000000000)(b6:p0.pz=kE pb)(c2:o.at pb∈L)(d1:jU o raw[i]= .fn f)(b3: ∀c∈L0,c∈L)(c3: ∀p:PS,p.coreS=p0.coreS->p.s=raw->pN b p raw i (.func (.func f) #[] #[]) L0 (some (t,st,en)) (λp'=>p'=p))(b5:st<=raw.length)(d4:ts.length<1000000000)(b8:opens.length<1000000000)(h:AtD X σ b p0 raw L en en (kx raw e st ts++ [t]) (if t.isOpen then opens++ [(kx raw e st ts).length] else opens) lo):AtD X σ b p0 raw L i e ts opens lo:=by
 intro U w p O H I a7 hc g c4 d0
 refine b9 U _ _ _ _ _ _ ?_
 obtain⟨vs,RM,EM,d3,c9,b4,c5,W,y⟩:=d0
 refine kN (p:=p) hi (by omega) (by rw[PS.pz_of hc,b6]) (.head _) (.tail _ (lB0 _ (lB0 _ (lB0 _ c2)))) y ?_
 rw[d1]
 dsimp only
 have V:=c3 p hc g
 subst g
 refine zl ⟨vs,RM,EM,d3,c9,b4,c5,W,y⟩ b3 V c4 b5 hs d4 b8 λw p2 O H I E a6 d2 c8=>?_
 have b7:p2.bt=p.bt:=by obtain⟨d5,rfl,c1⟩:=d2;exact c1
 refine h U w p2 O H I (by rw[b7];exact a7) (PS.coreS_of E hc) ?_ a6 c8
 have:=congrArg PS.s E;exact this
theorem AtD.code {X:XI}{b pb e:Nat}{p0:PS}{A T B raw:List UInt8}{ts:List Inl}{opens:List Nat}{lo:Int}{o:Opt}(c4:xj R X b raw)(y:raw=A++96::(T++96::B))(c5:T≠ [])(b9: ∀c∈T,c≠96/\c≠10/\c≠32)(d1:B.head? ≠some 96)(hs:raw.length<1000000)(c1:p0.pz=kE pb)(c8:o.at pb∈L)(e1:ts.length<1000000000)(c3:opens.length<1000000000)(h:AtD X σ b p0 raw L (A.length+T.length+2) (A.length+T.length+2) (kx raw e A.length ts++ [.code T]) opens lo):AtD X σ b p0 raw L A.length e ts opens lo:=by
 have e3:raw.length=A.length+(T.length+B.length+2):=by rw[y];simp;omega
 have hi:A.length<raw.length:=by omega
 have d3:raw[A.length]=96:=by subst y;rw[lJ2 (lZ0 _)];simp
 intro b3 w p V O U b6 hc E H d4
 refine c4 b3 _ _ _ _ _ _ ?_
 obtain⟨vs,RM,EM,a7,I,b7,d0,b4,g⟩:=d4
 have fin: ∀w (p:PS),p.bt.sc=false->p.coreS=p0.coreS->p.s=raw->p.em=(e:Int)->Sl 1 aC p.lq p.ln p.lc vs RM->Sat σ w (p.at b::(RM++(EM++(a7++L))))->av.k1 R X (kE b) (bs raw) V O U lo true (A.length:Nat) (.func (.func bI) #[kT (some (hZ b 12))] #[]) w:=by
  intro w p b8 hc E H I g
  have W:=Cu (b:=b) (p:=p) (A:=A) (T:=T) (B:=B) c5 b9 d1 (by rw[<-y];exact hs) b8
  rw[<-y] at W
  subst E
  refine zl ⟨vs,RM,EM,a7,I,b7,d0,b4,g⟩ (L0:= []) (by simp) W H (by omega) (by omega) e1 c3 λw p2 V O U a6 b5 e0 d2=>?_
  have c2:p2.bt.sc=false:=by obtain⟨e2,c9,d5⟩:=e0;rw[d5];exact c9
  refine h true w p2 V O U (λ_=>c2) (PS.coreS_of a6 hc) ?_ b5 d2
  have:=congrArg PS.s a6;exact this
 refine kN (p:=p) hi (by omega) (by rw[PS.pz_of hc,c1]) (.head _) (.tail _ (lB0 _ (lB0 _ (lB0 _ c8)))) g ?_
 rw[d3,show jU o 96= .code from rfl]
 cases b3 with
 |true=>exact ae rfl (fin w p (b6 rfl) hc E H I g)
 |false=>
  refine ag rfl ?_
  refine Dm g λw g=>⟨rfl,?_⟩
  refine fin w {p with bt:= .z} rfl ?_ E H I g
  rw[<-hc];rfl
theorem AtD.close {X:XI}{b pb i e en k:Nat}{p0:PS}{raw:List UInt8}{ts1 ts2:List Inl}{opens:List Nat}{lo:Int}{o:Opt}{t url title:List UInt8}{tc:UInt8}{cor img:Bool}{L0:List ai}(b4:xj R X b raw)(hi:i<raw.length)(hs:raw.length<1000000)(hc:raw[i]=93)(b3:p0.pz=kE pb)(b6:o.at pb∈L)(U: ∀c∈L0,c∈L)(ht:t.getD 0 0=(if img then 33 else 91))(W:t≠ [])(I:img=true\/lo<=(k:Int))(H:url.length<1000000)(y: ∀p:PS,p.coreS=p0.coreS->p.s=raw->vv b p raw i t k L0 url title tc cor en)(O:ts2++mu raw e i≠ [])(a7:wfE (ts2++mu raw e i))(V:nz none (ts2++mu raw e i))(b5:(ts1++ts2).length<1000000)(a6:opens.length<1000000)(E:AtD X σ b p0 raw L en en (ts1++ [zz img (wW (ts2++mu raw e i)) url title tc cor]) opens (if img then lo else (k:Int))):
 AtD X σ b p0 raw L i e (ts1++ .openP t k::ts2) (opens++ [ts1.length]) lo:=
 λg=>AtC.close (b4 g) hi hs hc b3 b6 U ht W I H y O a7 V b5 a6 (E g)
theorem AtD.fin {X:XI}{b pb e:Nat}{p0:PS}{raw:List UInt8}{ts ts':List Inl}{opens:List Nat}{lo:Int}{o:Opt}(V:xj R X b raw)(hs:raw.length<1000000000)(U:p0.pz=kE pb)(b4:o.at pb∈L)(I:o.auto=false)(g:ts.length<1000000000)(a7:zF (kx raw e raw.length ts) ts')(E: ∀t∈ts',∀s,t.plain? =some s->s≠ [])(hb:rk ts'<1073741824)(b5: ∀w (p':PS) q n c vs RM EM,p'.coreS=p0.coreS->Sl 1 aC q n c vs RM->n<1073741824->InlsAt (kM ts') vs EM->Sat σ w (p'.at b::(RM++(EM++L)))->R (hQ (hT q n c)) w):
 AtD X σ b p0 raw L raw.length e ts opens lo:=by
 intro W w p b9 b8 b7 b6 hc H a6 y
 refine V W _ _ _ _ _ _ ?_
 subst H
 exact FA y a6 hs g (by rw[PS.pz_of hc,U]) b4 I a7 E hb λw p2 q n c vs RM EM O b3 g y h=>b5 w p2 q n c vs RM EM (PS.coreS_of O hc) b3 g y h
namespace bV
def k3 (R:EP)(E g:Int)(y:Bool)(w:World):Prop:=
 br y
 (False)
 (box w #[] vC λb1 H=>
 R (hQ (.tuple #[.iface jw (kT (kE b1)),hY E,hY g,hV true])) H)
def k2 (R:EP)(y:BA)(g H E:Int)(w:World):Prop:=
 ((decide (g >= 2))=true->0<=(i64.wrap (g - 1))/\(i64.wrap (g - 1))<(y.size:Int))/\
 (((decide (g >= 2)) && ((bt y (i64.wrap (g - 1)))==32))=true->0<=(i64.wrap (g - 2))/\(i64.wrap (g - 2))<(y.size:Int))/\
 k3 R H E (((decide (g >= 2)) && ((bt y (i64.wrap (g - 1)))==32)) && ((bt y (i64.wrap (g - 2)))==32)) w
def bl2 (R:EP)(Xa:BA->Int->Int->Int->WP)(y:BA)(H E g:Int)(w:World):Prop:=
 ((decide (g<(y.size:Int)))=true->0<=g/\g<(y.size:Int))/\
 (((decide (g<(y.size:Int))) && (!((bt y g)==32)))=true->0<=g/\g<(y.size:Int))/\
 br ((decide (g<(y.size:Int))) && (((bt y g)==32)||((bt y g)==9)))
 (False)
 (k2 R y H E g w)
def l2 (R:EP)(E:BA)(H y g:Int)(w:World):Prop:=
 ∀X:BA->Int->Int->Int->WP,(∀E H y g w,bl2 R X E H y g w->X E H y g w)->X E H y g w
def k1 (R:EP)(E:BA)(g y:Int)(w:World):Prop:=
 l2 R E g y (i64.wrap (g+1)) w
def bl1 (R:EP)(H:BA->Int->Int->WP)(y:BA)(E g:Int)(w:World):Prop:=
 ((decide (g>0))=true->0<=(i64.wrap (g - 1))/\(i64.wrap (g - 1))<(y.size:Int))/\
 (((decide (g>0)) && (!((bt y (i64.wrap (g - 1)))==32)))=true->0<=(i64.wrap (g - 1))/\(i64.wrap (g - 1))<(y.size:Int))/\
 br ((decide (g>0)) && (((bt y (i64.wrap (g - 1)))==32)||((bt y (i64.wrap (g - 1)))==9)))
 (False)
 (k1 R y E g w)
def l1 (R:EP)(y:BA)(E g:Int)(w:World):Prop:=
 ∀X:BA->Int->Int->WP,(∀y E g w,bl1 R X y E g w->X y E g w)->X y E g w
end bV
def bV (R:EP)(E:OA)(y:BA)(g:Int)(w:World):Prop:=
 bV.l1 R y g g w
theorem bV.sound {R x0 x1 x2 w}(h:bV R x0 x1 x2 w):callE P jF #[kT x0,hX x1,hY x2] R w:=
 aH [(19,.lp [21,47,207] (bV.bl1 R) λg=> [(10,.no)]),(15,.mk [21,47,207] (bV.k1 R)),(79,.lp [21,47,207,227] (bV.bl2 R) λXa=> [(10,.no)]),(63,.mk [21,47,207,227] (bV.k2 R)),(223,.mk [207,227,1320] (bV.k3 R)),(351,.no)] Tryz.func118 Tryz.call118 h
def jY (R:EP)(U:OA)(y:BA)(g:Int)(w:World):Prop:=
 br (decide ((i64.wrap (g+1))<(y.size:Int)))
 (0<=(i64.wrap (g+1))/\(i64.wrap (g+1))<(y.size:Int)/\
 callE P lI #[.int .u8 (bt y (i64.wrap (g+1)))] (λe O=> ∃E,e= hQ (hV E)/\
 br E
 (0<=(i64.wrap (g+1))/\(i64.wrap (g+1))<=(i64.wrap (g+2))/\(i64.wrap (g+2))<=(y.size:Int)/\
 box O #[hX (y.extract (Int.toNat (i64.wrap (g+1))) (Int.toNat (i64.wrap (g+2))))] zH λI H=>
 R (hQ (.tuple #[.iface kC (kT (kE I)),hY g,hY (i64.wrap (g+2)),hV true])) H)
 (False)) w)
 (False)
theorem jY.sound {R x0 x1 x2 w}(h:jY R x0 x1 x2 w):callE P iX #[kT x0,hX x1,hY x2] R w:=
 aH [(469,.no),(373,.no),(501,.no),(29,.no),(7,.no)] Tryz.func109 Tryz.call109 h

def punB (c:UInt8):Bool:=(((decide (33<=c.toNat) && decide (c.toNat<=47))||(decide (58<=c.toNat) && decide (c.toNat<=64)))||(decide (91<=c.toNat) && decide (c.toNat<=96)))||(decide (123<=c.toNat) && decide (c.toNat<=126))
theorem yP (c:UInt8)(n:Nat):decide ((n:Int)<=((c.toNat:Nat):Int))=decide (n<=c.toNat):=by rw[decide_eq_decide];omega
theorem yQ (c:UInt8)(n:Nat):decide (((c.toNat:Nat):Int)<=(n:Int))=decide (c.toNat<=n):=by rw[decide_eq_decide];omega
theorem yg {c:UInt8}(g:R (hQ (hV (punB c))) w):callE P lI #[.int .u8 (c.toNat:Int)] R w:=by
 refine lJ.sound ?_
 unfold lJ
 unfold punB at g
 rw[<-yP c 33,<-yQ c 47,<-yP c 58,<-yQ c 64,<-yP c 91,<-yQ c 96,<-yP c 123,<-yQ c 126] at g
 exact g
theorem yx {b:Nat}{p:PS}{c:UInt8}{A B:List UInt8}(hc:punB c=true)(hs:(A++92::c::B).length<1000000):
 pN b p (A++92::c::B) A.length (.func (.func iX) #[] #[]) [] (some (.esc [c],A.length,A.length+2)) (λp'=>p'=p):=by
 intro σ R L w _ h O
 refine gN ?_
 have y:(A++92::c::B).length=A.length+B.length+2:=by simp;omega
 have H:(A++92::c::B).getD (A.length+1) 0=c:=by
  have:=uY (A++ [92]) B c 0
  rw[show (A++ [92]:List UInt8).length=A.length+1 by simp] at this
  rw[<-this];simp
 refine jY.sound ?_
 unfold jY
 have I:i64.wrap ((A.length:Int)+2)=((A.length+2:Nat):Int):=by simp (disch:=omega) only[i64_in];omega
 rw[aN (by omega),I]
 refine ag (by rw[aJ,y];simp;omega) ⟨by omega,by rw[aJ,y];omega,?_⟩
 rw[oO,H]
 refine yg ⟨_,rfl,ag hc ⟨by omega,by omega,by rw[aJ,y];omega,?_⟩⟩
 have g:=pV (A++ [92]) [c] B
 rw[show (A++ [92]:List UInt8).length=A.length+1 by simp] at g
 rw[lC0,lC0,cm]
 have E:((A++92::c::B).take (A.length+2)).drop (A.length+1)= [c]:=by
  unfold sub at g
  rw[<-g];simp
 rw[E]
 refine Sat.bx h λnb w h=>?_
 exact O w p _ _ rfl rfl ⟨nb,_,rfl,rfl⟩ h.up1
theorem Aq {b:Nat}{p:PS}{A B:List UInt8}(O: ∀k,k+1=A.length->cM (A.getD k 0)=false)(b3:0<B.length->cM (B.getD 0 0)=false)(hs:(A++10::B).length<1000000):
 pN b p (A++10::B) A.length (.func (.func jF) #[] #[]) [] (some (.soft,A.length,A.length+1)) (λp'=>p'=p):=by
 intro σ R L w _ h W
 refine gN ?_
 have g:(A++10::B).length=A.length+B.length+1:=by simp;omega
 have H: ∀ {c:UInt8},cM c=false->(((c.toNat:Nat):Int)==32)=false/\(((c.toNat:Nat):Int)==9)=false:=by
  intro c hc
  simp only[cM,lI2] at hc
  rw[u8b _ 32 32 rfl,u8b _ 9 9 rfl];exact hc
 refine bV.sound ?_
 intro X U
 have k1:bV.k1 R (bs (A++10::B)) (A.length:Nat) (A.length:Nat) w:=by
  unfold bV.k1
  rw[aN (by omega)]
  intro Y V
  have k2:bV.k2 R (bs (A++10::B)) (A.length:Nat) (A.length:Nat) ((A.length+1:Nat):Int) w:=by
   rcases lM4 A.length 2 with a6|a6
   ·have E:decide (((A.length:Nat):Int) >= 2)=false:=decide_eq_false (by omega)
    unfold bV.k2
    rw[E]
    refine⟨λh=>by simp at h,λh=>by simp at h,ae rfl ?_⟩
    exact Sat.bx h λnb w h=>W w p _ _ rfl rfl ⟨nb,_,rfl,rfl⟩ h.up1
   ·have ht:decide (((A.length:Nat):Int) >= 2)=true:=decide_eq_true (by omega)
    have I:i64.wrap ((A.length:Int) - 1)=((A.length - 1:Nat):Int):=gr (by omega) (by omega)
    have hc:=H (O (A.length - 1) (by omega))
    have y:bt (bs (A++10::B)) ((A.length - 1:Nat):Int)=((A.getD (A.length - 1) 0).toNat:Int):=by rw[oO,nf (by omega)]
    unfold bV.k2
    rw[ht,I,y,hc.1]
    refine⟨λ_=>⟨by omega,by rw[aJ,g];omega⟩,λh=>by simp at h,ae rfl ?_⟩
    exact Sat.bx h λnb w h=>W w p _ _ rfl rfl ⟨nb,_,rfl,rfl⟩ h.up1
  rcases lJ4 B.length with hb|hb
  ·have E:decide (((A.length+1:Nat):Int)<((bs (A++10::B)).size:Int))=false:=decide_eq_false (by rw[aJ,g];omega)
   refine V _ _ _ _ _ ?_
   unfold bV.bl2
   rw[E]
   exact⟨λh=>by simp at h,λh=>by simp at h,ae rfl k2⟩
  ·have hc:=H (b3 hb)
   have y:bt (bs (A++10::B)) ((A.length+1:Nat):Int)=((B.getD 0 0).toNat:Int):=by
    rw[oO,pw (by omega),show A.length+1 - A.length=0+1 by omega,lI5]
   refine V _ _ _ _ _ ?_
   unfold bV.bl2
   rw[y,hc.1,hc.2]
   exact⟨λh=>⟨by omega,by rw[aJ,g];omega⟩,λh=>⟨by omega,by rw[aJ,g];omega⟩,ae (by simp) k2⟩
 rcases lJ4 A.length with a7|a7
 ·have E:decide (((A.length:Nat):Int)>0)=false:=decide_eq_false (by omega)
  refine U _ _ _ _ ?_
  unfold bV.bl1
  rw[E]
  exact⟨λh=>by simp at h,λh=>by simp at h,ae rfl k1⟩
 ·have I:i64.wrap ((A.length:Int) - 1)=((A.length - 1:Nat):Int):=gr (by omega) (by omega)
  have hc:=H (O (A.length - 1) (by omega))
  have y:bt (bs (A++10::B)) ((A.length - 1:Nat):Int)=((A.getD (A.length - 1) 0).toNat:Int):=by rw[oO,nf (by omega)]
  refine U _ _ _ _ ?_
  unfold bV.bl1
  rw[I,y,hc.1,hc.2]
  exact⟨λh=>⟨by omega,by rw[aJ,g];omega⟩,λh=>⟨by omega,by rw[aJ,g];omega⟩,ae (by simp) k1⟩
theorem jd: ∀(a b:List Inl),rk (a++b)=rk a+rk b
 | [],b=>by simp[rk]
 |t::a,b=>by simp only[lR0,rk,jd a b];omega
theorem yY {A B:List UInt8}{e:Nat}(x:List UInt8)(E:e<=A.length):sub (A++(x++B)) e (A.length+x.length)=sub (A++(x++B)) e A.length++x:=by
 unfold sub
 have g:(A++(x++B)).take (A.length+x.length)=A++x:=by rw[<-lD0,show A.length+x.length=(A++x).length by simp,lP4]
 have y:(A++(x++B)).take A.length=A:=lP4
 rw[g,y,lX2 E]

def wB (c:UInt8):Bool:=(97<=c && c<=122)||128<=c
structure WdP (s:List UInt8):Prop where
 ne:s≠ []
 by_: ∀c∈s,wB c=true
 len:s.length<=100
 opn: ∀(b:Nat) (p:PS) (A B:List UInt8) (k:Nat),1<=k->(A++32::(hN k 42++(s++B))).length<1000000->
  pN b p (A++32::(hN k 42++(s++B))) (A.length+1) (.func (.func dO) #[] #[]) [] (some (.emphP (hN k 42) true false 0 (k:Nat),A.length+1,A.length+1+k)) (λp'=>p'=p)
 cls: ∀(b:Nat) (p:PS) (A B:List UInt8) (k:Nat),1<=k->(B= []\/ ∃B',B=32::B'\/B=10::B')->(A++(s++(hN k 42++B))).length<1000000->
  pN b p (A++(s++(hN k 42++B))) (A.length+s.length) (.func (.func dO) #[] #[]) [] (some (.emphP (hN k 42) false true 0 (k:Nat),A.length+s.length,A.length+s.length+k)) (λp'=>p'=p)
structure DsP (d:List UInt8):Prop where
 ne:d≠ []
 by_: ∀c∈d,yB c=true/\lg c=false
 len:d.length<=200
inductive Tk where
 |wd (s:List UInt8)
 |sp
 |nl
 |em (k:Nat) (s:List UInt8)
 |cd (s:List UInt8)
 |lk (s d:List UInt8)
 |es (s:List UInt8)
def Tk.B:Tk->List UInt8
 | .wd s=>s
 | .sp=> [32]
 | .nl=> [10]
 | .em k s=>hN k 42++(s++hN k 42)
 | .cd s=>96::(s++ [96])
 | .lk s d=>91::(s++93::40::(d++ [41]))
 | .es s=>92::42::s
def tkB (l:List Tk):List UInt8:=l.flatMap Tk.B
theorem cv (t:Tk)(l:List Tk):tkB (t::l)=t.B++tkB l:=rfl
theorem tF (a b:List Tk):tkB (a++b)=tkB a++tkB b:=by simp[tkB]
def okT:Nat->List Tk->Prop
 |n,[]=>n=2
 |n,.wd s::r=>n≠2/\WdP s/\okT 2 r
 |n,.sp::r=>n=2/\okT 1 r
 |n,.nl::r=>n=2/\okT 0 r
 |n,.em k s::r=>n=1/\WdP s/\(k=1\/k=2)/\okT 2 r
 |n,.cd s::r=>n=1/\WdP s/\okT 2 r
 |n,.lk s d::r=>n=1/\WdP s/\DsP d/\okT 2 r
 |n,.es s::r=>n=1/\WdP s/\okT 2 r
def fl (p:List UInt8):List Inl:=if p= [] then [] else [.plain p]
def Tk.raw:Tk->List Inl
 | .em k s=> [.emphP (hN k 42) true false 0 (k:Nat),.plain s,.emphP (hN k 42) false true 0 (k:Nat)]
 | .cd s=> [.code s]
 | .lk s d=> [.link [.plain s] d [] 0 false]
 |_=> [.soft]
def Tk.out:Tk->List Inl
 | .em k s=> [if k=1 then .emph [42] [.plain s] else .strong [42,42] [.plain s]]
 | .cd s=> [.code s]
 | .lk s d=> [.link [.plain s] d [] 0 false]
 |_=> [.soft]
def tkG (f:Tk->List Inl):List UInt8->List Tk->List Inl
 |p,[]=>fl p
 |p,.wd s::r=>tkG f (p++s) r
 |p,.sp::r=>tkG f (p++ [32]) r
 |p,.es s::r=>fl p++ .esc [42]::tkG f s r
 |p,.nl::r=>fl p++(f .nl++tkG f [] r)
 |p,.em k s::r=>fl p++(f (.em k s)++tkG f [] r)
 |p,.cd s::r=>fl p++(f (.cd s)++tkG f [] r)
 |p,.lk s d::r=>fl p++(f (.lk s d)++tkG f [] r)
structure De where
 out:List Inl
 p:List UInt8
 m:Nat
 a:List UInt8
 d:List UInt8
def De.step (st:De)(c:UInt8):De:=
 if st.m=0 then
  if c=42 then ⟨st.out,st.p,1,[],[]⟩ else if c=96 then ⟨st.out,st.p,5,[],[]⟩ else if c=91 then ⟨st.out,st.p,6,[],[]⟩ else if c=92 then ⟨st.out,st.p,9,[],[]⟩
  else if c=10 then ⟨st.out++(fl st.p++ [.soft]),[],0,[],[]⟩ else ⟨st.out,st.p++ [c],0,[],[]⟩
 else if st.m=1 then if c=42 then ⟨st.out,st.p,3,[],[]⟩ else ⟨st.out,st.p,2,[c],[]⟩
 else if st.m=2 then if c=42 then ⟨st.out++(fl st.p++ [.emph [42] [.plain st.a]]),[],0,[],[]⟩ else ⟨st.out,st.p,2,st.a++ [c],[]⟩
 else if st.m=3 then if c=42 then ⟨st.out,st.p,4,st.a,[]⟩ else ⟨st.out,st.p,3,st.a++ [c],[]⟩
 else if st.m=4 then ⟨st.out++(fl st.p++ [.strong [42,42] [.plain st.a]]),[],0,[],[]⟩
 else if st.m=5 then if c=96 then ⟨st.out++(fl st.p++ [.code st.a]),[],0,[],[]⟩ else ⟨st.out,st.p,5,st.a++ [c],[]⟩
 else if st.m=6 then if c=93 then ⟨st.out,st.p,7,st.a,[]⟩ else ⟨st.out,st.p,6,st.a++ [c],[]⟩
 else if st.m=7 then ⟨st.out,st.p,8,st.a,[]⟩
 else if st.m=8 then if c=41 then ⟨st.out++(fl st.p++ [.link [.plain st.a] st.d [] 0 false]),[],0,[],[]⟩ else ⟨st.out,st.p,8,st.a,st.d++ [c]⟩
 else ⟨st.out++(fl st.p++ [.esc [c]]),[],0,[],[]⟩
def vx (raw:List UInt8):List Inl:=
 let st:=raw.foldl De.step ⟨[],[],0,[],[]⟩
 st.out++fl st.p
theorem vz {c:UInt8}(h:wB c=true):c≠42/\c≠96/\c≠91/\c≠92/\c≠10/\c≠93/\c≠41/\c≠32/\c≠9:=by
 refine⟨?_,?_,?_,?_,?_,?_,?_,?_,?_⟩<;>(rintro rfl;revert h;decide)
theorem FI {out:List Inl}: ∀ {s p:List UInt8},(∀c∈s,wB c=true)->s.foldl De.step ⟨out,p,0,[],[]⟩=⟨out,p++s,0,[],[]⟩
 | [],p,_=>by simp
 |c::s,p,h=>by
  obtain⟨g,y,H,I,E,_⟩:=vz (h c (.head _))
  have e:De.step ⟨out,p,0,[],[]⟩ c=⟨out,p++ [c],0,[],[]⟩:=by simp[De.step,g,y,H,I,E]
  rw[lV1,e,FI λd hd=>h d (.tail _ hd)];simp
theorem GE {out:List Inl}{p:List UInt8}: ∀ {s a:List UInt8},(∀c∈s,wB c=true)->s.foldl De.step ⟨out,p,2,a,[]⟩=⟨out,p,2,a++s,[]⟩
 | [],a,_=>by simp
 |c::s,a,h=>by
  have e:De.step ⟨out,p,2,a,[]⟩ c=⟨out,p,2,a++ [c],[]⟩:=by simp[De.step,(vz (h c (.head _))).1]
  rw[lV1,e,GE λd hd=>h d (.tail _ hd)];simp
theorem GD {out:List Inl}{p:List UInt8}: ∀ {s a:List UInt8},(∀c∈s,wB c=true)->s.foldl De.step ⟨out,p,3,a,[]⟩=⟨out,p,3,a++s,[]⟩
 | [],a,_=>by simp
 |c::s,a,h=>by
  have e:De.step ⟨out,p,3,a,[]⟩ c=⟨out,p,3,a++ [c],[]⟩:=by simp[De.step,(vz (h c (.head _))).1]
  rw[lV1,e,GD λd hd=>h d (.tail _ hd)];simp
theorem GC {out:List Inl}{p:List UInt8}: ∀ {s a:List UInt8},(∀c∈s,wB c=true)->s.foldl De.step ⟨out,p,5,a,[]⟩=⟨out,p,5,a++s,[]⟩
 | [],a,_=>by simp
 |c::s,a,h=>by
  have e:De.step ⟨out,p,5,a,[]⟩ c=⟨out,p,5,a++ [c],[]⟩:=by simp[De.step,(vz (h c (.head _))).2.1]
  rw[lV1,e,GC λd hd=>h d (.tail _ hd)];simp
theorem GB {out:List Inl}{p:List UInt8}: ∀ {s a:List UInt8},(∀c∈s,wB c=true)->s.foldl De.step ⟨out,p,6,a,[]⟩=⟨out,p,6,a++s,[]⟩
 | [],a,_=>by simp
 |c::s,a,h=>by
  have e:De.step ⟨out,p,6,a,[]⟩ c=⟨out,p,6,a++ [c],[]⟩:=by simp[De.step,(vz (h c (.head _))).2.2.2.2.2.1]
  rw[lV1,e,GB λd hd=>h d (.tail _ hd)];simp
theorem GA {out:List Inl}{p a:List UInt8}: ∀ {s d:List UInt8},(∀c∈s,c≠41)->s.foldl De.step ⟨out,p,8,a,d⟩=⟨out,p,8,a,d++s⟩
 | [],d,_=>by simp
 |c::s,d,h=>by
  have e:De.step ⟨out,p,8,a,d⟩ c=⟨out,p,8,a,d++ [c]⟩:=by simp[De.step,h c (.head _)]
  rw[lV1,e,GA λx g=>h x (.tail _ g)];simp
theorem FH {out:List Inl}{p s:List UInt8}{k:Nat}(hs:WdP s)(E:k=1\/k=2):(Tk.em k s).B.foldl De.step ⟨out,p,0,[],[]⟩=⟨out++(fl p++Tk.out (.em k s)),[],0,[],[]⟩:=by
 obtain⟨c,t,rfl⟩:=lA1 hs.ne
 have hc:=(vz (hs.by_ c (.head _))).1
 have ht: ∀d∈t,wB d=true:=λd hd=>hs.by_ d (.tail _ hd)
 rcases E with rfl|rfl
 ·have e:(Tk.em 1 (c::t)).B=42::c::(t++ [42]):=rfl
  have y:De.step ⟨out,p,0,[],[]⟩ 42=⟨out,p,1,[],[]⟩:=rfl
  have g:De.step ⟨out,p,1,[],[]⟩ c=⟨out,p,2,[c],[]⟩:=by simp[De.step,hc]
  rw[e,lV1,lV1,y,g,lM2,GE ht]
  rfl
 ·have e:(Tk.em 2 (c::t)).B=42::42::((c::t)++ [42,42]):=rfl
  have y:De.step ⟨out,p,0,[],[]⟩ 42=⟨out,p,1,[],[]⟩:=rfl
  have g:De.step ⟨out,p,1,[],[]⟩ 42=⟨out,p,3,[],[]⟩:=rfl
  rw[e,lV1,lV1,y,g,lM2,GD hs.by_]
  rfl
theorem qY: ∀(l:List Tk) (n:Nat) (out:List Inl) (p:List UInt8),okT n l-> ∃I p',(tkB l).foldl De.step ⟨out,p,0,[],[]⟩=⟨I,p',0,[],[]⟩/\I++fl p'=out++tkG Tk.out p l
 | [],n,out,p,_=>⟨out,p,rfl,rfl⟩
 | .wd s::r,n,out,p,h=>by
  obtain⟨o,q,g,y⟩:=qY r 2 out (p++s) h.2.2
  refine⟨o,q,?_,y⟩
  rw[cv,lM2]
  show (tkB r).foldl De.step (s.foldl De.step _)=_
  rw[FI h.2.1.by_];exact g
 | .sp::r,n,out,p,h=>by
  obtain⟨o,q,g,y⟩:=qY r 1 out (p++ [32]) h.2
  exact⟨o,q,g,y⟩
 | .nl::r,n,out,p,h=>by
  obtain⟨o,q,g,y⟩:=qY r 0 (out++(fl p++ [.soft])) [] h.2
  refine⟨o,q,g,?_⟩
  rw[y];simp[tkG,Tk.out]
 | .em k s::r,n,out,p,h=>by
  obtain⟨o,q,g,y⟩:=qY r 2 (out++(fl p++Tk.out (.em k s))) [] h.2.2.2
  refine⟨o,q,?_,?_⟩
  ·rw[cv,lM2,FH h.2.1 h.2.2.1];exact g
  ·rw[y];simp[tkG]
 | .cd s::r,n,out,p,h=>by
  obtain⟨o,q,g,y⟩:=qY r 2 (out++(fl p++ [.code s])) [] h.2.2
  refine⟨o,q,?_,?_⟩
  ·have e:(Tk.cd s).B=96::(s++ [96]):=rfl
   have E:De.step ⟨out,p,0,[],[]⟩ 96=⟨out,p,5,[],[]⟩:=rfl
   rw[cv,lM2,e,lV1,E,lM2,GC h.2.1.by_];exact g
  ·rw[y];simp[tkG,Tk.out]
 | .lk s d::r,n,out,p,h=>by
  obtain⟨o,q,g,y⟩:=qY r 2 (out++(fl p++ [.link [.plain s] d [] 0 false])) [] h.2.2.2
  refine⟨o,q,?_,?_⟩
  ·have e:(Tk.lk s d).B=91::(s++93::40::(d++ [41])):=rfl
   have E:De.step ⟨out,p,0,[],[]⟩ 91=⟨out,p,6,[],[]⟩:=rfl
   have H: ∀a,De.step ⟨out,p,6,a,[]⟩ 93=⟨out,p,7,a,[]⟩:=λ_=>rfl
   have U: ∀a,De.step ⟨out,p,7,a,[]⟩ 40=⟨out,p,8,a,[]⟩:=λ_=>rfl
   have hd: ∀c∈d,c≠41:=λc hc O=>by
    have:=(h.2.2.1.by_ c hc).1
    rw[O] at this;exact absurd this (by decide)
   rw[cv,lM2,e,lV1,E,lM2,GB h.2.1.by_,lV1,lV1,H,U,lM2,GA hd];exact g
  ·rw[y];simp[tkG,Tk.out]
 | .es s::r,n,out,p,h=>by
  obtain⟨o,q,g,y⟩:=qY r 2 (out++(fl p++ [.esc [42]])) s h.2.2
  refine⟨o,q,?_,?_⟩
  ·have e:(Tk.es s).B=92::42::s:=rfl
   have E:De.step ⟨out,p,0,[],[]⟩ 92=⟨out,p,9,[],[]⟩:=rfl
   have H:De.step ⟨out,p,9,[],[]⟩ 42=⟨out++(fl p++ [.esc [42]]),[],0,[],[]⟩:=rfl
   rw[cv,lM2,e,lV1,lV1,E,H,FI h.2.1.by_];exact g
  ·rw[y];simp[tkG]
theorem zw {l:List Tk}{n:Nat}(h:okT n l):vx (tkB l)=tkG Tk.out [] l:=by
 obtain⟨o,q,g,y⟩:=qY l n [] [] h
 unfold vx
 rw[g]
 exact y
def st0:List (List Nat):= [[],[],[],[],[]]
theorem pu {g:List Inl}{st:List (List Nat)}{t:Inl}{ts:List Inl}(h:t.plain? =none\/ ∃s,t= .plain s):dR g st (t::ts)=dR (g++ [t]) st ts:=by
 cases t<;>first|rfl|(rcases h with h|⟨s,h⟩<;>simp[Inl.plain?] at h)
theorem Ab (g:List Inl)(st:List (List Nat))(p:List UInt8)(ts:List Inl):dR g st (fl p++ts)=dR (g++fl p) st ts:=by
 unfold fl
 split
 ·simp
 ·exact pu (.inr ⟨_,rfl⟩)
theorem go_em {g:List Inl}{k:Nat}{s:List UInt8}{ts:List Inl}(V:k=1\/k=2):dR g st0 (Tk.raw (.em k s)++ts)=dR (g++Tk.out (.em k s)) st0 ts:=by
 have y:(g++ [Inl.emphP (hN k 42) true false g.length (k:Nat)]++ [.plain s])[g.length]? =some (.emphP (hN k 42) true false g.length (k:Nat)):=by
  rw[lD0,lH0 (lZ0 _),lW1];rfl
 have E:CA false true (k:Nat) (g++ [Inl.emphP (hN k 42) true false g.length (k:Nat)]++ [.plain s]) g.length=true:=by
  unfold CA;rw[y];rfl
 have H:(g++ [Inl.emphP (hN k 42) true false g.length (k:Nat)]++ [Inl.plain s]).drop (g.length+1)= [Inl.plain s]:=by
  rw[lB5 (by simp)]
 have I:(g++ [Inl.emphP (hN k 42) true false g.length (k:Nat)]++ [Inl.plain s]).take g.length=g:=by
  rw[lD0,lC5 rfl]
 have U: [[],[g.length],[],[],[]].map (zK g.length)=st0:=by
  simp[zK,st0]
 have W:dR g st0 (Tk.raw (.em k s)++ts)=dR (g++ [Inl.emphP (hN k 42) true false g.length (k:Nat)]++ [.plain s]) [[],[g.length],[],[],[]] (.emphP (hN k 42) false true 0 (k:Nat)::ts):=by
  rcases V with rfl|rfl<;>rfl
 rw[W]
 rcases V with rfl|rfl
 ·have O:jN 1 false true ((1:Nat):Int) 1 [42] (g++ [Inl.emphP [42] true false g.length ((1:Nat):Int)]++ [.plain s]) [[],[g.length],[],[],[]]=([],g++ [.emph [42] [.plain s]],st0):=by
   have y:=y;have E:=E;have H:=H;have I:=I
   simp only[hN] at y E H I
   unfold jN
   simp only[lI5,List.getD_cons_zero,lQ4,lT5,lT0,List.find?_cons,E,y]
   simp[jN,H,I,U]
  show dR _ _ (.emphP [42] false true 0 ((1:Nat):Int)::ts)=_
  rw[dR]
  simp only[if_true,show sV (([42]:List UInt8).headD 0)=1 from rfl,lE0]
  rw[show hN 1 (42:UInt8)= [42] from rfl,O]
  simp[Tk.out]
 ·have O:jN 1 false true ((2:Nat):Int) 2 [42,42] (g++ [Inl.emphP [42,42] true false g.length ((2:Nat):Int)]++ [.plain s]) [[],[g.length],[],[],[]]=([],g++ [.strong [42,42] [.plain s]],st0):=by
   have y:=y;have E:=E;have H:=H;have I:=I
   simp only[hN] at y E H I
   unfold jN
   simp only[lI5,List.getD_cons_zero,lQ4,lT5,lT0,List.find?_cons,E,y]
   simp[jN,H,I,U]
  show dR _ _ (.emphP [42,42] false true 0 ((2:Nat):Int)::ts)=_
  rw[dR]
  simp only[if_true,show sV (([42,42]:List UInt8).headD 0)=1 from rfl,show ([42,42]:List UInt8).length=2 from rfl]
  rw[show hN 2 (42:UInt8)= [42,42] from rfl,O]
  simp[Tk.out]
theorem wN: ∀(l:List Tk) (n:Nat) (p:List UInt8) (g:List Inl),okT n l->dR g st0 (tkG Tk.raw p l)=g++tkG Tk.out p l
 | [],n,p,g,_=>by
  show dR g st0 (fl p)=_
  have:=Ab g st0 p []
  rw[lG0] at this
  rw[this];rfl
 | .wd s::r,n,p,g,h=>wN r 2 (p++s) g h.2.2
 | .sp::r,n,p,g,h=>wN r 1 (p++ [32]) g h.2
 | .nl::r,n,p,g,h=>by
  show dR g st0 (fl p++([.soft]++tkG Tk.raw [] r))=g++(fl p++([.soft]++tkG Tk.out [] r))
  rw[Ab,lR2,pu (.inl rfl),wN r 0 [] _ h.2];simp
 | .em k s::r,n,p,g,h=>by
  show dR g st0 (fl p++(Tk.raw (.em k s)++tkG Tk.raw [] r))=g++(fl p++(Tk.out (.em k s)++tkG Tk.out [] r))
  rw[Ab,go_em h.2.2.1,wN r 2 [] _ h.2.2.2];simp
 | .cd s::r,n,p,g,h=>by
  show dR g st0 (fl p++([.code s]++tkG Tk.raw [] r))=g++(fl p++([.code s]++tkG Tk.out [] r))
  rw[Ab,lR2,pu (.inl rfl),wN r 2 [] _ h.2.2];simp
 | .lk s d::r,n,p,g,h=>by
  show dR g st0 (fl p++([.link [.plain s] d [] 0 false]++tkG Tk.raw [] r))=g++(fl p++([.link [.plain s] d [] 0 false]++tkG Tk.out [] r))
  rw[Ab,lR2,pu (.inl rfl),wN r 2 [] _ h.2.2.2];simp
 | .es s::r,n,p,g,h=>by
  show dR g st0 (fl p++(.esc [42]::tkG Tk.raw s r))=g++(fl p++(.esc [42]::tkG Tk.out s r))
  rw[Ab,pu (.inl rfl),wN r 2 s _ h.2.2];simp
theorem DO {l:List Tk}{n:Nat}(h:okT n l):wW (tkG Tk.raw [] l)=tkG Tk.out [] l:=by
 have:=wN l n [] [] h
 rw[lT0] at this
 exact this
end Go.Proofs.YtendaipfdnhnaaaGreatDoor
