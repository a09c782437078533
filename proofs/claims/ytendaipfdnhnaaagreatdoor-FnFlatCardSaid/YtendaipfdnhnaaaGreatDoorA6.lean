/- Part 6 of the proof of the law FnFlat: for every input the law returns true, the inputs read as they did, and memory that was there is as it was; under the conditions of the given row alone. -/
import Derived.Test.YtendaipfdnhnaaaGreatDoorA5
set_option linter.all false
open Go.IntKind(i64)
open ByteArray renaming mk→hP
open List renaming replicate→hN
namespace Go.Proofs.YtendaipfdnhnaaaGreatDoor
open Go.Proofs Go.IntWalk Go.RowKit
set_option maxRecDepth 20000
variable {σ:Out} {w:World} {L L':List ai} {R:Ending->World->Prop} {G:List UInt8->List Inl} {op:Opt}

theorem FrX.relast {m:Nat}{cs:List CX}{fs:List Bk}(h:FrX m cs fs): ∀(a:List Bk) (t t':Bk),fs=a++ [t]->t'.like t->FrX m cs (a++ [t']):=by
 induction h with
 |nil=>intro a t t' e;simp at e
 | @q cs fs f hq he h2 ih=>
  intro a t t' e E
  cases a with
  |nil=>
   simp only[lT0,lU0] at e
   obtain⟨rfl,rfl⟩:=e
   cases h2
   exact .q (E.quote hq) (E.2.2.1.trans he) .nil
  |cons x a=>
   simp only[lR0,lU0] at e
   obtain⟨rfl,e⟩:=e
   exact .q hq he (ih a t t' e E)
 | @i cs fs f g lb w bul num it hf hg hw he h2 ih=>
  intro a t t' e E
  cases a with
  |nil=>simp at e
  |cons x a=>
   simp only[lR0,lU0] at e
   obtain⟨rfl,e⟩:=e
   cases a with
   |nil=>
    simp only[lT0,lU0] at e
    obtain⟨rfl,rfl⟩:=e
    cases h2
    exact .i hf (E.itemOf hg) hw (E.2.2.1.trans he) .nil
   |cons I a=>
    simp only[lR0,lU0] at e
    obtain⟨rfl,e⟩:=e
    exact .i hf hg hw he (ih a t t' e E)
theorem jR {m:Nat}{cx:List CX}{root top g:Bk}{cf gs:List Bk}(U:FrX m cx cf)(hr:root.isRoot)(y:root::cf=gs++ [top])(O:g.like top): ∃E I,E::I=gs++ [g]/\E.isRoot/\FrX m cx I:=by
 cases gs with
 |nil=>
  simp only[lT0,lU0] at y
  obtain⟨rfl,rfl⟩:=y
  exact⟨g,[],rfl,O.root hr,by cases U;exact .nil⟩
 |cons x gs=>
  simp only[lR0,lU0] at y
  obtain⟨rfl,e⟩:=y
  exact⟨root,gs++ [g],rfl,hr,U.relast gs top g e O⟩
theorem ss {cx:List CX}{root top:Bk}{cf gs:List Bk}(U:FrS cx cf)(hr:root.isRoot)(E:root::cf=gs++ [top]):top.box_:=by
 have I: ∀ {cs:List CX} {fs:List Bk},FrS cs fs-> ∀a t,fs=a++ [t]->t.box_:=by
  intro cs fs h
  induction h with
  |nil=>intro a t e;simp at e
  | @q cs fs f hq h2 ih=>
   intro a t e
   cases a with
   |nil=>simp only[lT0,lU0] at e;obtain⟨rfl,_⟩:=e;exact hq.box_
   |cons x a=>simp only[lR0,lU0] at e;exact ih a t e.2
  | @i cs fs f g lb w bul num it hf hg hw h2 ih=>
   intro a t e
   cases a with
   |nil=>simp at e
   |cons x a=>
    simp only[lR0,lU0] at e
    obtain⟨_,e⟩:=e
    cases a with
    |nil=>simp only[lT0,lU0] at e;obtain⟨rfl,_⟩:=e;exact hg.box_
    |cons W a=>simp only[lR0,lU0] at e;exact ih a t e.2
 cases gs with
 |nil=>
  simp only[lT0,lU0] at E
  obtain⟨rfl,_⟩:=E
  obtain⟨V,O,_⟩:=hr
  exact⟨_,_,O,by decide,by decide⟩
 |cons x gs=>
  simp only[lR0,lU0] at E
  exact I U gs top E.2
def BD (n:Nat)(fs:List Bk):Prop:=(∀f∈fs,f.D.length<=3*n)/\(txF fs).length<=3*n
def BDi (n:Nat)(gs:List Bk)(top:Bk)(junk:List Bk):Prop:=(∀f∈gs,f.D.length<=3*n+1)/\(∀f∈top::junk,f.D.length<=3*n)/\((txF (gs++top::junk)).length<=3*n\/junk= []/\(txF (gs++top::junk)).length<=3*n+1)
theorem BDi.all {n:Nat}{gs junk:List Bk}{top:Bk}(h:BDi n gs top junk):(∀f∈gs++top::junk,f.D.length<=3*n+1)/\(txF (gs++top::junk)).length<=3*n+1:=by
 refine⟨λf g=>?_,by rcases h.2.2 with h|h<;>omega⟩
 rcases lP0.1 g with g|g
 ·exact h.1 f g
 ·have:=h.2.1 f g;omega
theorem BDi.le {n:Nat}{gs junk:List Bk}{top:Bk}(h:BDi n gs top junk)(y:n<=20000):(∀f∈gs++top::junk,f.D.length<=90000)/\(txF (gs++top::junk)).length<=90000:=⟨λf g=>by have:=h.all.1 f g;omega,by have:=h.all.2;omega⟩
theorem BD.i {n:Nat}{gs junk:List Bk}{top:Bk}(h:BD n (gs++top::junk)):BDi n gs top junk:=⟨λf g=>by have:=h.1 f (by simp[g]);omega,λf g=>h.1 f (lB0 _ g),.inl h.2⟩
def St (G:List UInt8->List Inl)(op:Opt)(cx:List CX)(d n:Nat)(gs0:List Bk)(top0:Bk)(xs:List IN)(fs:List Bk)(lf:Leaf):Prop:=
 ∃root cf gs top junk y g pend,fs=gs++top::junk/\root.isRoot/\root::cf=gs++ [top]/\FrX n cx cf/\Sims gs0 gs/\top.lk top0/\top.D=top0.D++y/\TDs G op y g/\Pd G op pend junk lf/\g++pend=xs/\junk.length<=2*d/\BD n fs
def DA (c:UInt8)(junk:List Bk):Prop:=junk= []\/ ∃g y I c0 num0 E,junk=g::y/\g.isList I (UInt8.toNat c0) num0 E/\c0≠c
def BlkP (G:List UInt8->List Inl)(op:Opt)(ec:ai)(ls:List (List UInt8))(x:Nat->IN)(d:Nat)(bc:Option UInt8):Prop:=
 ∀(cx:List CX) (root top:Bk) (cf gs junk:List Bk) (pend0:List IN) (rem:List (List UInt8)) (n:Nat) (Q:List DB->Prop),cx.length+d<=400->n+ls.length<=20000->(∀s∈ls,(ctx cx s).length<100000)->root.isRoot->root::cf=gs++ [top]->FrX (n+1) cx cf->Pd G op pend0 junk .none->junk.length<=900->(∀c,bc=some c->DA c junk)->BDi n gs top junk->
  (∀fs lf,St G op cx d (n+ls.length) gs top (pend0++ [x (n+1)]) fs lf->OkL ec op Q rem (n+ls.length) fs lf)->
  ∀(σ:Out) (R:Ending->World->Prop) (L:List ai) (b b1 pb:Nat) (p:PS) (w:World) (l:Ln) (E:OA->Nat->WP),Runs R E b b1->ec∈L->op.at pb∈L->p.pz=kE pb->p.lineno=n+1->p.depth=gs.length->LnR l (ls.headD [])->l.text.length<100000->DocC σ b (l.at b1::L) (gs++top::junk) .none p w->
   (∀w (p':PS) y g,p'.base=p.base->p'.lineno=p.lineno->OkL ec op Q (ls.tail.map (ctx cx)++rem) (n+1) y g->DocC σ b L y g p' w->R (hQ (.tuple #[])) w)->ak.bl102 R E (kE b) b1 w
theorem BD.le {n:Nat}{fs:List Bk}(h:BD n fs)(y:n<=20000):(∀f∈fs,f.D.length<=90000)/\(txF fs).length<=90000:=⟨λf g=>by have:=h.1 f g;omega,by have:=h.2;omega⟩
theorem St.done {cx:List CX}{d n b:Nat}{root top y:Bk}{cf gs junk:List Bk}{pend0:List IN}{x:IN}{I:List DB}{E:DB}{p:PS}(c2:FrX (n+1) cx cf)(hr:root.isRoot)(b5:root::cf=gs++ [top])(a6:y.like top)(U:y.D=top.D++(I++ [E]))(V:TDs G op I pend0)(c3:pend0.length<=1)(b8:TD G op E x)(c5:(ci I).length<=(txF junk).length+1)(c4:E.txs.length<=1)(O:BDi n gs top junk)(h:DocC σ b L (gs++ [y]) .none p w):St G op cx d (n+1) gs top (pend0++ [x]) (gs++ [y]) .none:=by
 obtain⟨_,_,_,_,_,_,b3,_⟩:=h
 obtain⟨a7,b4,c1,r2,b6⟩:=jR c2 hr b5 a6
 have c8:=V.len
 refine⟨a7,b4,gs,y,[],I++ [E],pend0++ [x],[],rfl,r2,c1,b6,Sims.refl λf g=>(b3 f (by simp[g])).2.2.2,a6.lk,U,V.append (.cons b8 .nil),.none,by simp,by simp,λf g=>?_,?_⟩
 ·rcases lP0.1 g with g|g
  ·have:=O.all.1 f (by simp[g]);omega
  ·obtain rfl:=lN0.1 g
   have:=O.all.1 top (by simp)
   rw[U];simp;omega
 ·have W:=O.all.2
  have b7:txF (gs++top::junk)=txF gs++(ci top.D++txF junk):=by simp[txF]
  have b9:txF (gs++ [y])=txF gs++(ci top.D++(ci I++E.txs)):=by rw[bE,dL,U,di,di];simp[ci]
  rw[b7] at W
  rw[b9]
  simp only[lA0] at W⊢
  omega
theorem LnR.noSkip {l:Ln}{s:List UInt8}(h:LnR l s)(hs:s.head?.map cO≠some true):l.skip=l:=by
 have E:=h.ok.i
 have g:=congrArg List.length h.tx
 rw[lM1] at g
 have y:s.dropWhile cO=s:=by
  cases s with
  |nil=>rfl
  |cons c s=>
   rw[lI2]
   intro h0
   exact hs (by simp[h0])
 unfold Ln.skip
 rw[h.tx,y,<-g,<-h.sp]
 have:l.text.length - (l.text.length - l.i)=l.i:=by omega
 rw[this]
theorem LnR.hr3 {l:Ln}(h:LnR l [42,42,42]):l.isHR=true:=by
 have U: ∀e,l.lead 3 e=l:=h.has.lead (by decide) 2
 have O:=congrArg List.length h.tx
 rw[lM1] at O
 simp only[lF0,lK1] at O
 obtain⟨m,b4⟩: ∃m,l.text.length+1=m+4:=⟨l.text.length - 3,by omega⟩
 unfold Ln.isHR
 simp only[U,h.has.peek]
 rw[if_pos (by decide),b4]
 have y:LnR {l with i:=l.i+1} [42,42]:=LnR.skip (a:= [42]) h
 have E:LnR {l with i:=l.i+1+1} [42]:=LnR.skip (a:= [42]) y
 have g:LnR {l with i:=l.i+1+1+1} []:=LnR.skip (a:= [42]) E
 have b5:l.trimC 42=some {l with i:=l.i+1}:=by rw[h.has.trimC,if_pos rfl]
 have b7:({l with i:=l.i+1}:Ln).trimC 42=some {l with i:=l.i+1+1}:=by rw[y.has.trimC,if_pos rfl]
 have b3:({l with i:=l.i+1+1}:Ln).trimC 42=some {l with i:=l.i+1+1+1}:=by rw[E.has.trimC,if_pos rfl]
 have W:({l with i:=l.i+1+1+1}:Ln).trimC 42=none:=by
  have I:=g.lenNil
  have V:l.text[l.i+1+1+1]? =none:=lT1 I
  unfold Ln.trimC
  rw[if_neg (by show ¬ 0<l.sp;rw[h.sp];omega),if_neg (by show ¬ l.text[l.i+1+1+1]? =some 42;rw[V];simp)]
 have a6:=y.noSkip (by decide)
 have a7:=E.noSkip (by decide)
 have b6:=g.noSkip (by decide)
 simp only[Ln.hrGo,b5,a6,b7,a7,b3,b6,W]
 have I:=g.lenNil
 simp only[lL1,decide_eq_true_eq]
 exact⟨by omega,I⟩
theorem HC (W:op.task=false){ec:ai}{d:Nat}:BlkP G op ec [[42,42,42]] (λn=> .mk {kind:=9,mark:= [42,42,42],s:=n,e:=n} []) d none:=by
 intro cx root top cf gs junk pend0 rem n Q d2 e3 c5 hr y O V c9 d3 E b6 σ R L b b1 pb p w l e5 d0 e0 b9 b3 b4 hd g d1 h c1
 have g:LnR l [42,42,42]:=g
 have e2:=O.len
 have e1:gs.length=cf.length:=by have:=congrArg List.length y;simp at this;omega
 have I:=g.has
 have U: ∀e,l.lead 3 e=l:=I.lead (by decide) 2
 have c2:l.quote=none:=by unfold Ln.quote;rw[U,I.trimC,if_neg (by decide)];rfl
 have b5:l.heading=none:=by unfold Ln.heading;rw[U,I.trimC,if_neg (by decide)]
 have a6:l.str= [42,42,42]:=by unfold Ln.str;rw[g.sp,g.tx];rfl
 have b7:l.isHR=true:=g.hr3
 have a7:=ss O.toS hr y
 refine F7 W V h hd (by omega) a7.np g.ok c2 b5 b7 (E.le (by omega)).1 (E.le (by omega)).2 b3 b9 (by omega) λw p' c8 e4 nb c4 c3 k1 k2 k3 k4 h=>?_
 rw[a6,b4] at k2
 have b8:=St.done (G:=G) (op:=op) (d:=d) O hr y k1 k2 k3 V.len (td_hr (by decide) (by omega)) k4 (by simp[CQ]) E h
 exact c1 w p' _ _ c4 c3 (b6 _ _ b8) h

structure TxL (s:List UInt8):Prop where
 cont: ∀l,LnR l s->l.cont/\l.rest=s
 nb:s.all cO=false
theorem ES (V:op.task=false)(W:op.ids=false){ec:ai}{d lv:Nat}{m:List UInt8}{g:UInt8}(b7:1<=lv/\lv<=6)(b6:cO g=false/\g≠35)(b4:m.length<100000)(c2:jL none [] op (m++ [g]) (G (m++ [g])))(c3:mf (G (m++ [g]))):
 BlkP G op ec [hN lv 35++32::(m++ [g])] (λn=> .mk {kind:=5,num:=(lv:Nat),s:=n,e:=n} (eC (G (m++ [g])))) d none:=by
 intro cx root top cf gs junk pend0 rem n Q e5 f1 d1 hr I O U d3 e6 E b5 σ R L b b1 pb p w l f4 e0 e7 a7 a6 b3 hd y f0 h c4
 have y:LnR l (hN lv 35++32::(m++ [g])):=y
 have e9:=O.len
 have e8:gs.length=cf.length:=by have:=congrArg List.length I;simp at this;omega
 obtain⟨b9,c1,c5,f3⟩:=y.heading b7
 refine B9 V W U h hd (by omega) y.ok c5 b9 c1 b6 b4 (E.le (by omega)).1 (E.le (by omega)).2 a6 a7 (by omega) λw p' d2 f2 nb t c9 c8 k1 k2 k3 k4 h=>?_
 rw[b3] at k2
 have b8:=St.done (G:=G) (op:=op) (d:=d) O hr I k1 k2 k3 U.len (FR (by omega) (by omega) c3 c2) k4 (by simp[yV]) E h
 exact c4 w p' _ _ c9 c8 (b5 _ _ b8) h
theorem k2nb {b b1:Nat}{fs:List Bk}{lf:Leaf}{p:PS}{l:Ln}(h:DocC σ b (l.at b1::L) fs lf p w)(V:l.ok)(hb:l.blank=false)(O: ∀w,DocC σ b (l.at b1::L) fs lf p w->ak.bl102 R (ak.l102 R) (kE b) b1 w):
 ak.k2 R (kE b) b1 w:=by
 obtain⟨M,g,E,y,hs,ht,I,U,h⟩:=h
 unfold ak.k2
 have h:Sat σ w (l.at b1::p.at b::(M++(g++(aM fs++(y++L))))):=h.re
 refine dF h (.head _) V λw h=>⟨_,rfl,?_⟩
 rw[hb]
 exact af rfl (O w ⟨M,g,E,y,hs,ht,I,U,h.re⟩)
theorem FrX.lastE {m:Nat}{cs:List CX}{fs:List Bk}(h:FrX m cs fs): ∀(a:List Bk) (t:Bk),fs=a++ [t]->t.ob.e=m:=by
 induction h with
 |nil=>intro a t e;simp at e
 | @q cs fs f hq he h2 ih=>
  intro a t e
  cases a with
  |nil=>simp only[lT0,lU0] at e;obtain⟨rfl,_⟩:=e;exact he
  |cons x a=>simp only[lR0,lU0] at e;exact ih a t e.2
 | @i cs fs f g lb w bul num it hf hg hw he h2 ih=>
  intro a t e
  cases a with
  |nil=>simp at e
  |cons x a=>
   simp only[lR0,lU0] at e
   obtain⟨_,e⟩:=e
   cases a with
   |nil=>simp only[lT0,lU0] at e;obtain⟨rfl,_⟩:=e;exact he
   |cons E a=>simp only[lR0,lU0] at e;exact ih a t e.2
theorem Bk.setE_same {t:Bk}{m:Nat}(h:t.ob.e=m):t.setE m=t:=by
 cases t with
 |mk ob own D IM=>
  cases ob
  subst h
  rfl
theorem Bk.isRoot.setE {f:Bk}{m:Nat}(h:f.isRoot):(f.setE m).isRoot:=h
theorem F4 {m:Nat}{cx:List CX}{root top:Bk}{cf gs:List Bk}(y:FrX m cx cf)(hr:root.isRoot)(g:root::cf=gs++ [top]): ∃E I,E::I=gs++ [top.setE m]/\E.isRoot/\FrX m cx I:=by
 cases gs with
 |nil=>
  simp only[lT0,lU0] at g
  obtain⟨rfl,rfl⟩:=g
  exact⟨root.setE m,[],rfl,hr.setE,y⟩
 |cons x gs=>
  have O:=g
  simp only[lR0,lU0] at g
  obtain⟨rfl,e⟩:=g
  rw[Bk.setE_same (y.lastE gs top e)]
  exact⟨root,cf,O,hr,y⟩
theorem Ff (d0:op.table=false){ec:ai}{Q:List DB->Prop}{rem:List (List UInt8)}{cx:List CX}{s0:Nat}(e7:cx.length<1000): ∀(rest E:List (List UInt8)) (n:Nat) (root top:Bk) (cf gs:List Bk),FrX n cx cf->root.isRoot->root::cf=gs++ [top]->(∀f∈gs++ [top],f.ob.e<1000000000)->(∀s∈rest,TxL s/\(ctx cx s).length<100000)->E.length+rest.length<100000->n+rest.length<1000000->
 (∀y g V I,Sims gs y->top.sim g->V.isRoot->V::I=y++ [g]->FrX (n+rest.length) cx I->(∀f∈y++ [g],f.ob.e<1000000000)->OkL ec op Q rem (n+rest.length) (y++ [g]) (oZ s0 (E++rest)))->OkL ec op Q (rest.map (ctx cx)++rem) n (gs++ [top]) (oZ s0 E):=by
 intro rest
 induction rest with
 |nil=>
  intro E n root top cf gs b8 hr b5 U a7 c3 c2 b3
  have:=b3 gs top root cf (Sims.refl λf b9=>U f (by simp[b9])) (Bk.sim.rfl' (U top (by simp))) hr b5 b8 U
  simpa using this
 |cons s rest f6=>
  intro E n root top cf gs b8 hr b5 U a7 c3 c2 b3
  simp only[lF0] at c3 c2
  obtain⟨hs,d2⟩:=a7 s (.head _)
  show∀nl,qd [ec] op (n+1) (ctx cx s) nl (gs++top:: []) (oZ s0 E) (OkL ec op Q (rest.map (ctx cx)++rem) (n+1))
  intro nl
  have e4: ∀a c b4,cx=a++c::b4->(ctx (c::b4) s).all cO=false:=by
   have e8: ∀cs:List CX,(ctx cs s).all cO=false:=by
    intro cs
    induction cs with
    |nil=>exact hs.nb
    |cons c cs b6=>
     cases c with
     |q=>rfl
     |i w=>
      have e9:ctx cs s≠ []:=by intro h0;rw[h0] at b6;cases b6
      show (if ctx cs s= [] then [] else hN w 32++ctx cs s).all cO=false
      rw[if_neg e9,vU];exact b6
   intro a c b4 _
   exact e8 _
  refine AJ b8.toS hr b5 e4 e7 d2 λσ R L b b1 pb p w X y g V I l2 f5 g6 e2 e0 e3 g5 f3 g0 b7 c1 W O h2 hd g4 h g2=>?_
  obtain⟨c4,c9⟩:=hs.cont l2 O
  have f1:l2.blank=false:=by unfold Ln.blank;rw[O.tx];exact hs.nb
  have h1:=b7.len
  have g7:y.length=I.length:=by have:=congrArg List.length W;simp at this;omega
  refine FX f5 h (by simp;omega) ⟨by simp,by simp;omega⟩ O.ok λw h=>?_
  refine k2nb h O.ok f1 λw h=>?_
  refine contS h hd (by omega) (ss b7.toS c1 W) c4 (by omega) e0 e2 d0 (by omega) λw h=>?_
  rw[c9,e3] at h
  obtain⟨c8,e1,g1,r2,f2⟩:=F4 b7 c1 W
  have e6: ∀f∈y++ [g.setE (n+1)],f.ob.e<1000000000:=by
   obtain⟨_,_,_,_,_,_,d3,_⟩:=h
   exact λf b9=>(d3 f b9).2.2.2
  refine g2 w p _ _ rfl rfl (f6 (E++ [s]) (n+1) c8 (g.setE (n+1)) e1 y f2 r2 g1 e6 (λx f4=>a7 x (.tail _ f4)) (by simp;omega) (by omega) λf0 d1 c5 e5 a1 a2 a3 a4 a5 g3=>?_) h
  have:=b3 f0 d1 c5 e5 (f3.trans a1) ((g0.trans (g.setE_sim (by omega))).trans a2) a3 a4 (by
   have e:n+(s::rest).length=n+1+rest.length:=by simp;omega
   rw[e];exact a5) g3
  have e:n+(s::rest).length=n+1+rest.length:=by simp;omega
  rw[e] at this
  rw[lD0]
  exact this

theorem B5 {k:Nat}{I O:List Bk}(h:Sims I O):(∀y∈I,y.D.length<=k)-> ∀y∈O,y.D.length<=k:=by
 induction h with
 |nil=>intro _ y E;cases E
 |cons a6 _ V=>
  intro U y E
  rcases lW0.1 E with rfl|E
  ·rw[a6.2.2.1];exact U _ (.head _)
  ·exact V (λx W=>U x (.tail _ W)) y E
theorem St.fin {cx:List CX}{d n a7:Nat}{I top g:Bk}{U gs y junk:List Bk}{O pend:List IN}{ds2:List DB}{lf:Leaf}(V:BDi n gs top junk)(b6:g.lk top)(a6:g.D=top.D++ds2)(b5:TDs G op ds2 O)(c3:ds2.length<=2)(c4:(ci ds2).length<=(txF junk).length+2)(W:Sims gs y)(hr3:I.isRoot)(b4:I::U=y++ [g])(c1:FrX a7 cx U)(c2:Pd G op pend [] lf)(c5:n+1<=a7):
 St G op cx d a7 gs top (O++pend) (y++ [g]) lf:=by
 refine⟨I,U,y,g,[],ds2,O,pend,rfl,hr3,b4,c1,W,b6,a6,b5,c2,rfl,by simp,λf E=>?_,?_⟩
 ·rcases lP0.1 E with E|E
  ·have:=B5 (k:=3*n+1) W (λx b7=>V.all.1 x (by simp[b7])) f E;omega
  ·obtain rfl:=lN0.1 E
   have:=V.all.1 top (by simp)
   rw[a6];simp;omega
 ·have b3:=V.all.2
  have b8:txF (gs++top::junk)=txF gs++(ci top.D++txF junk):=by simp[txF]
  have b9:txF (y++ [g])=txF gs++(ci top.D++ci ds2):=by rw[bE,dL,a6,di,W.mem.2]
  rw[b8] at b3
  rw[b9]
  simp only[lA0] at b3⊢
  omega
theorem EQ (b3:op.task=false)(b7:op.table=false){ec:ai}{d:Nat}{ls:List (List UInt8)}(c9:ls≠ [])(V: ∀s∈ls,TxL s)(d0:xR G op ls):
 BlkP G op ec ls (λn=> .mk {kind:=6,s:=n,e:=n+ls.length - 1} (eC (G (bG [10] ls)))) d none:=by
 intro cx root top cf gs junk pend0 rem n Q e9 e0 b8 hr g E a7 e6 f2 y c8 σ R L b b1 pb p w l g3 e8 f1 c3 c1 c4 hd I g0 h d3
 obtain⟨s,rest,rfl⟩:=lZ0 c9
 have I:LnR l s:=I
 obtain⟨b4,b6⟩:=(V s (.head _)).cont l I
 have f6:=E.len
 have f5:gs.length=cf.length:=by have:=congrArg List.length g;simp at this;omega
 simp only[lF0] at e0
 refine wD b3 a7 h hd (by omega) (ss E.toS hr g) b4 (y.le (by omega)).1 (y.le (by omega)).2 c1 c3 (by omega) λw p' O g1 e3 e1 k1 k2 k3 k4 h=>?_
 rw[b6,c4] at h
 obtain⟨b5,c2,d2,r2,d1⟩:=jR E hr g k1
 have c5: ∀f∈gs++ [O],f.ob.e<1000000000:=by
  obtain⟨_,_,_,_,_,_,b9,_⟩:=h
  exact λf e2=>(b9 f e2).2.2.2
 have f4:=k3.len
 have e7:=a7.len
 refine d3 w p' _ _ e3 e1 (Ff b7 (by omega) rest [s] (n+1) b5 O c2 gs d1 r2 d2 c5 (λx W=>⟨V x (.tail _ W),b8 x (.tail _ W)⟩) (by simp;omega) (by omega) λf3 e5 e4 f0 a1 a2 a3 a4 a5 g2=>?_) h
 have U:=St.fin (G:=G) (op:=op) (d:=d) (pend:= [.mk {kind:=6,s:=n+1,e:=n+1+(s::rest).length - 1} (eC (G (bG [10] (s::rest))))]) y (a2.lk.trans k1.lk) (by rw[a2.2.2.1,k2]) k3 (by omega) (by omega) a1 a3 a4 a5 (.para d0) (by omega)
 have e:n+1+rest.length=n+(s::rest).length:=by simp;omega
 rw[e] at U⊢
 exact c8 _ _ U
theorem Ck {s:List UInt8}(hs:s.all cO=false): ∀cs:List CX,(ctx cs s).all cO=false:=by
 intro cs
 induction cs with
 |nil=>exact hs
 |cons c cs g=>
  cases c with
  |q=>rfl
  |i w=>
   have y:ctx cs s≠ []:=by intro h0;rw[h0] at g;cases g
   show (if ctx cs s= [] then [] else hN w 32++ctx cs s).all cO=false
   rw[if_neg y,vU];exact g
theorem Ba (c2:op.task=false)(e7:op.table=false){ec:ai}{d:Nat}{c:UInt8}{ls:List (List UInt8)}(hc:c=61\/c=45)(g3:ls≠ [])(d3: ∀s∈ls,TxL s)(I:xR G op ls):
 BlkP G op ec (ls++ [[c,c,c]]) (λn=> .mk {kind:=5,num:=(Bm c:Nat),s:=n,e:=n+ls.length} (eC (G (bG [10] ls)))) d none:=by
 intro cx root top cf gs junk pend0 rem n Q i4 h5 c5 hr b5 b8 e3 m5 m3 U y σ R L b b1 pb p w l o4 m6 f5 b6 a7 b7 hd b9 g4 h O
 obtain⟨s,rest,rfl⟩:=lZ0 g3
 have b9:LnR l s:=b9
 obtain⟨e4,e5⟩:=(d3 s (.head _)).cont l b9
 have m4:=b8.len
 have j1:gs.length=cf.length:=by have:=congrArg List.length b5;simp at this;omega
 have en:n+((s::rest)++ [[c,c,c]]).length=n+1+rest.length+1:=by simp;omega
 have g5:n+1+(s::rest).length=n+1+rest.length+1:=by simp;omega
 have y: ∀fs lf,St G op cx d (n+((s::rest)++ [[c,c,c]]).length) gs top (pend0++ [.mk {kind:=5,num:=(Bm c:Nat),s:=n+1,e:=n+1+(s::rest).length} (eC (G (bG [10] (s::rest))))]) fs lf->OkL ec op Q rem (n+((s::rest)++ [[c,c,c]]).length) fs lf:=y
 rw[en,g5] at y
 rw[en] at h5
 refine wD c2 e3 h hd (by omega) (ss b8.toS hr b5) e4 (U.le (by omega)).1 (U.le (by omega)).2 a7 b6 (by omega) λw p' c3 g7 h7 h1 k1 k2 k3 k4 h=>?_
 rw[e5,b7] at h
 obtain⟨e6,g2,h3,r2,h8⟩:=jR b8 hr b5 k1
 have f4: ∀f∈gs++ [c3],f.ob.e<1000000000:=by
  obtain⟨_,_,_,_,_,_,g1,_⟩:=h
  exact λf h6=>(g1 f h6).2.2.2
 have j0:=k3.len
 have k0:=e3.len
 have f0:cO c=false:=by rcases hc with rfl|rfl<;>decide
 have c1:([c,c,c]:List UInt8).all cO=false:=by simp[f0]
 have e9:((s::rest)++ [[c,c,c]]).tail.map (ctx cx)++rem=rest.map (ctx cx)++(ctx cx [c,c,c]::rem):=by simp
 rw[e9] at O
 refine O w p' _ _ h7 h1 (Ff e7 (by omega) rest [s] (n+1) e6 c3 g2 gs h8 r2 h3 f4 (λx e1=>⟨d3 x (.tail _ e1),c5 x (by simp[e1])⟩) (by simp;omega) (by omega) λf6 e8 h9 i8 a1 a2 a3 a4 a5 n3=>?_) h
 show∀nl,qd [ec] op (n+1+rest.length+1) (ctx cx [c,c,c]) nl (f6++e8:: []) (oZ (n+1) ([s]++rest)) (OkL ec op Q rem (n+1+rest.length+1))
 intro nl
 refine AJ a5.toS a3 a4 (λa x n0 _=>Ck c1 _) (by omega) (c5 _ (by simp)) λσ R L b b1 pb p w X b3 c4 i1 f1 l2 g6 f5 b6 a7 b7 m2 d2 V b4 c9 W g g4 hd n1 h O=>?_
 have g0:l2.blank=false:=by unfold Ln.blank;rw[g.tx];exact c1
 have i3:=b4.len
 have n2:b3.length=f1.length:=by have:=congrArg List.length W;simp at this;omega
 have c8:(∀f∈b3++ [c4],f.D.length<=90000)/\(txF (b3++ [c4])).length<=90000:=by
  have E:=St.fin (G:=G) (op:=op) (d:=d) (pend:= [.mk {kind:=6,s:=n+1,e:=n+1+(s::rest).length - 1} (eC (G (bG [10] (s::rest))))]) U (V.lk.trans (a2.lk.trans k1.lk)) (by rw[V.2.2.1,a2.2.2.1,k2]) k3 (by omega) (by omega) (a1.trans d2) c9 W b4 (.para I) (by omega)
  obtain⟨_,_,o3,o2,o0,_,_,_,p1,_,_,_,_,_,_,_,_,_,_,hb⟩:=E
  exact hb.le (by omega)
 refine FX g6 h (by simp;omega) ⟨by simp,by simp;omega⟩ g.ok λw h=>?_
 refine k2nb h g.ok g0 λw h=>?_
 refine F0 (n:=3) c2 h hd (by omega) hc (by decide) g I c8.1 c8.2 a7 b6 (by omega) λw p' i2 hb t f3 f2 d1 d0 m1 h=>?_
 obtain⟨i0,l5,t1,h2,h4⟩:=jR b4 c9 W d1
 rw[b7] at d0
 have E:=St.fin (G:=G) (op:=op) (d:=d) (pend:= []) (ds2:=g7++ [rv hb t (n+1) (n+1+rest.length+1) (n+1) (n+1+([s]++rest).length - 1) (Bm c) (bG [10] ([s]++rest))]) U (d1.lk.trans (V.lk.trans (a2.lk.trans k1.lk))) (by rw[d0,V.2.2.1,a2.2.2.1,k2,lD0]) (k3.append (.cons (BR (by omega) (by omega) I.tame I.inl) .nil)) (by simp;omega) (by rw[di];simp[ci,rv];simp[ci] at k4;omega) (a1.trans d2) h2 t1 h4 .none (by omega)
 rw[lG0] at E
 exact O w p' _ _ f3 f2 (y _ _ E) h

structure CoL (F s:List UInt8):Prop where
 go: ∀l,LnR l s->vY F l
 nb:s.all cO=false
theorem LnR.str {l:Ln}{s:List UInt8}(h:LnR l s):l.str=s:=by unfold Ln.str;rw[h.sp,h.tx];rfl
theorem fenGo {ec:ai}{Q:List DB->Prop}{rem:List (List UInt8)}{cx:List CX}{s0:Nat}{F info:List UInt8}(e9:Bh ec)(d1:cx.length<1000): ∀(rest E:List (List UInt8)) (n:Nat) (root top:Bk) (cf gs:List Bk),FrX n cx cf->root.isRoot->root::cf=gs++ [top]->(∀f∈gs++ [top],f.ob.e<1000000000)->(∀s∈rest,CoL F s/\(ctx cx s).length<100000)->E.length+rest.length<100000->n+rest.length<1000000->
 (∀g y O I,Sims gs g->top.sim y->O.isRoot->O::I=g++ [y]->FrX (n+rest.length) cx I->OkL ec op Q rem (n+rest.length) (g++ [y]) (DL s0 (n+rest.length) F info (E++rest)))->OkL ec op Q (rest.map (ctx cx)++rem) n (gs++ [top]) (DL s0 n F info E):=by
 intro rest
 induction rest with
 |nil=>
  intro E n root top cf gs b3 hr a7 a6 V b8 b7 W
  have:=W gs top root cf (Sims.refl λf b4=>a6 f (by simp[b4])) (Bk.sim.rfl' (a6 top (by simp))) hr a7 b3
  simpa using this
 |cons s rest e6=>
  intro E n root top cf gs b3 hr a7 a6 V b8 b7 W
  simp only[lF0] at b8 b7
  obtain⟨hs,c2⟩:=V s (.head _)
  show∀nl,qd [ec] op (n+1) (ctx cx s) nl (gs++top:: []) (DL s0 n F info E) (OkL ec op Q (rest.map (ctx cx)++rem) (n+1))
  intro nl
  refine AJ b3.toS hr a7 (λa x f2 _=>Ck hs.nb _) d1 c2 λσ R L b b1 pb p w X g y O I l2 e5 d2 f1 f0 c5 f4 e3 e7 b6 c8 b5 U e2 hd f3 h e8=>?_
  have e0:l2.blank=false:=by unfold Ln.blank;rw[U.tx];exact hs.nb
  have f6:=b6.len
  have f5:g.length=I.length:=by have:=congrArg List.length b5;simp at this;omega
  have d0: ∀f∈g++ [y],f.ob.e<1000000000:=by
   obtain⟨_,_,_,_,_,_,c3,_⟩:=h
   exact λf b4=>(c3 f b4).2.2.2
  refine EB (gs:=g++ [y]) e5 h (by simp;omega) ⟨by simp,by simp;omega⟩ U.ok e0 e2 (by omega) e9 d2 (hs.go l2 U) λw p' c4 e1 h=>?_
  rw[U.str,c5] at h
  refine e8 w p' _ _ c4 e1 (e6 (E++ [s]) (n+1) O y I g b6 c8 b5 d0 (λx e4=>V x (.tail _ e4)) (by simp;omega) (by omega) λd3 c1 b9 c9 a1 a2 a3 a4 a5=>?_) h
  have e:n+(s::rest).length=n+1+rest.length:=by simp;omega
  have:=W d3 c1 b9 c9 (e3.trans a1) (e7.trans a2) a3 a4 (by rw[e];exact a5)
  rw[e] at this
  rw[lD0]
  exact this
theorem ET (d2:op.task=false){ec:ai}{d:Nat}{info:List UInt8}{ls:List (List UInt8)}(a7:Bh ec)(g7: ∀c∈info,Bn c=true)(e4:info.length<10000)(e6: ∀s∈ls,CoL [96,96,96] s)(g2:ls.head? ≠some [])(e2:(dI ls).length<1073741824):
 BlkP G op ec ((96::96::96::info)::(ls++ [[96,96,96]])) (λn=> .mk {kind:=7,text:=dI ls,title:=info,mark:= [96,96,96],s:=n,e:=n+ls.length+1} []) d none:=by
 intro cx root top cf gs junk pend0 rem n Q l5 h7 b9 hr U a6 d1 n1 m6 E g σ R L b b1 pb p w l o4 n2 I c8 c1 V hd b3 W h y
 have b3:LnR l (hN 3 96++info):=b3
 have n0:=a6.len
 have m3:gs.length=cf.length:=by have:=congrArg List.length U;simp at this;omega
 have en:n+((96::96::96::info)::(ls++ [[96,96,96]])).length=n+1+ls.length+1:=by simp;omega
 have g: ∀fs lf,St G op cx d (n+((96::96::96::info)::(ls++ [[96,96,96]])).length) gs top (pend0++ [.mk {kind:=7,text:=dI ls,title:=info,mark:= [96,96,96],s:=n+1,e:=n+1+ls.length+1} []]) fs lf->OkL ec op Q rem (n+((96::96::96::info)::(ls++ [[96,96,96]])).length) fs lf:=g
 rw[en] at g h7
 have k0:=d1.len
 refine Ax d2 d1 h hd (by omega) (ss a6.toS hr U) b3 W (by decide) (by decide) g7 e4 a7 I (E.le (by omega)).1 (E.le (by omega)).2 c1 c8 (by omega) λw p' b6 g6 h9 h2 k1 k2 k3 k4 h=>?_
 rw[V] at h
 obtain⟨d3,g1,h5,r2,i1⟩:=jR a6 hr U k1
 have f3: ∀f∈gs++ [b6],f.ob.e<1000000000:=by
  obtain⟨_,_,_,_,_,_,g0,_⟩:=h
  exact λf h8=>(g0 f h8).2.2.2
 have m2:=k3.len
 have e1:((96::96::96::info)::(ls++ [[96,96,96]])).tail.map (ctx cx)++rem=ls.map (ctx cx)++(ctx cx [96,96,96]::rem):=by simp
 rw[e1] at y
 refine y w p' _ _ h9 h2 (fenGo a7 (by omega) ls [] (n+1) d3 b6 g1 gs i1 r2 h5 f3 (λx d0=>⟨e6 x d0,b9 x (by simp[d0])⟩) (by simp;omega) (by omega) λf4 e0 i3 m1 a1 a2 a3 a4 a5=>?_) h
 show∀nl,qd [ec] op (n+1+ls.length+1) (ctx cx [96,96,96]) nl (f4++e0:: []) (DL (n+1) (n+1+ls.length) [96,96,96] info ([]++ls)) (OkL ec op Q rem (n+1+ls.length+1))
 intro nl
 have b5:([96,96,96]:List UInt8).all cO=false:=by decide
 refine AJ a5.toS a3 a4 (λa x n3 _=>Ck b5 _) (by omega) (b9 _ (by simp)) λσ R L b b1 pb p w X c2 b8 i8 e5 l2 g5 I c8 c1 V m5 h1 b4 c3 f2 b7 O W hd o0 h y=>?_
 have f5:l2.blank=false:=by unfold Ln.blank;rw[O.tx];exact b5
 have j1:=c3.len
 have o2:c2.length=e5.length:=by have:=congrArg List.length b7;simp at this;omega
 have e9:LnR l2 (hN 3 96++ []):=O
 obtain⟨i0,i2,p1,e8⟩:=tr (word:= []) (by decide) (λc hc=>by cases hc) e9
 have f6: ¬ vY [96,96,96] l2:=λh0=>h0 3 96 [] [] e8 rfl
 have e3:DD [96,96,96] l2:=⟨i0,λn c t info g4=>by
  obtain⟨rfl,rfl,rfl⟩:=i2 n c t info g4
  exact⟨rfl,rfl⟩⟩
 have e7:b8.D.length<=90000:=by
  have:=E.all.1 top (by simp)
  rw[b4.2.2.1,a2.2.2.1,k2];simp;omega
 refine GB (gs:=c2) (top:=b8) g5 h hd (by omega) O.ok f5 W (by simp;omega) a7 I f6 e3 e7 λw p' j0 nb q c h3 f1 f0 c9 c4 g3 o3 h=>?_
 obtain⟨i4,m4,t1,h4,h6⟩:=jR c3 f2 b7 c9
 rw[V] at c4
 have c5:=St.fin (G:=G) (op:=op) (d:=d) (pend:= []) (ds2:=g6++ [mM nb (n+1) (n+1+ls.length+1) [96,96,96] info q ls.length c h3]) E (c9.lk.trans (b4.lk.trans (a2.lk.trans k1.lk))) (by rw[c4,b4.2.2.1,a2.2.2.1,k2,lD0];rfl) (k3.append (.cons (FS g3 (by omega) e2 g2 (by decide) (by omega) (by omega) (by omega)) .nil)) (by simp;omega) (by rw[di];simp[ci,mM];simp[ci] at k4;omega) (a1.trans h1) h4 t1 h6 .none (by omega)
 rw[lG0] at c5
 exact y w p' _ _ f1 f0 (g _ _ c5) h

theorem qc {c:UInt8}(h:97<=c.toNat/\c.toNat<=122):wB c=true/\spB c=false/\puB c=false/\c<128/\c≠42/\Bn c=true:=by
 have:(List.range 256).all (λn=>(!(decide (97<=n) && decide (n<=122)))||(wB (UInt8.ofNat n) && !spB (UInt8.ofNat n) && !puB (UInt8.ofNat n) && decide (UInt8.ofNat n<128) && UInt8.ofNat n !=42 && Bn (UInt8.ofNat n)))=true:=by kernel_rfl
 have:=lD2.1 this c.toNat (lV2.2 c.toNat_lt)
 rw[lZ3] at this
 simp[h.1,h.2] at this
 exact⟨this.1.1.1.1.1,this.1.1.1.1.2,this.1.1.1.2,this.1.1.2,this.1.2,this.2⟩
theorem FH {s:List UInt8}(E:s≠ [])(h: ∀c∈s,97<=c.toNat/\c.toNat<=122)(d0:s.length<=100):WdP s:=by
 refine⟨E,λc hc=>(qc (h c hc)).1,d0,?_,?_⟩
 ·intro b p A B k c9 U
  obtain⟨c,t,rfl⟩:=lZ0 E
  obtain⟨_,b5,a7,b3,b6,_⟩:=qc (h c (.head _))
  generalize hr:A++32::(hN k 42++(c::t++B))=raw at U
  have c1:raw.length=A.length+(1+(k+(t.length+1+B.length))):=by rw[<-hr];simp;omega
  have r2:raw=(A++ [32])++(hN k 42++(c::t++B)):=by rw[<-hr];simp
  have I:raw=(A++ [32]++hN k 42)++(c::(t++B)):=by rw[r2,lD0 (A++ [32])];rfl
  have l2:(A++ [32]).length=A.length+1:=by simp
  have l3:(A++ [32]++hN k 42).length=A.length+1+k:=by simp;omega
  have O: ∀m,A.length+1<=m->m<A.length+1+k->raw.getD m 0=42:=by
   intro m c5 c8
   rw[r2,pR (by omega),l2,nE (by simp;omega),lQ0,lZ5,if_pos (by omega)];rfl
  have V:raw.getD (A.length+1+k) 32=c:=by
   rw[I,lQ0,lH0 (by omega),l3,lW1];rfl
  have b7:raw.getD (A.length+1+k) 0=c:=by
   rw[I,lQ0,lH0 (by omega),l3,lW1];rfl
  have y:Ae raw (A.length+1)=32:=by
   unfold Ae
   rw[if_neg (by omega),lE3,<-hr,lQ0,lH0 (lA1 _),lW1];rfl
  have g:Aj raw (A.length+1+k)=c:=V
  have:=oM (b:=b) (p:=p) (s:=raw) (i:=A.length+1) (j:=A.length+1+k) (by omega) (by omega) (by omega) O (λ_=>by rw[b7];exact b6) (by rw[y];decide) (by rw[g];exact b3)
  rw[y,g,show A.length+1+k - (A.length+1)=k by omega] at this
  have W:vw 32 c=true:=by unfold vw;rw[b5,a7];rfl
  have a6:rj 32 c=false:=rfl
  have b4:sub raw (A.length+1) (A.length+1+k)=hN k 42:=by
   have:=qr (A++ [32]) (hN k 42) (c::t++B)
   rw[<-r2,l2,lH2] at this
   exact this
  rw[W,a6,b4] at this
  exact this
 ·intro b p A B k c9 c3 U
  obtain⟨t,c,rfl⟩: ∃t c,s=t++ [c]:=⟨s.dropLast,s.getLast E,(lX3 E).symm⟩
  obtain⟨_,b5,a7,b3,b6,_⟩:=qc (h c (by simp))
  generalize hr:A++(t++ [c]++(hN k 42++B))=raw at U
  have c1:raw.length=A.length+(t.length+1+(k+B.length)):=by rw[<-hr];simp;omega
  have b9:(t++ [c]).length=t.length+1:=by simp
  rw[b9]
  have c4:raw=(A++t)++c::(hN k 42++B):=by rw[<-hr];simp
  have r2:raw=(A++(t++ [c]))++(hN k 42++B):=by rw[<-hr];simp
  have I:raw=(A++(t++ [c])++hN k 42)++B:=by rw[r2,lD0 (A++(t++ [c]))]
  have l2:(A++(t++ [c])).length=A.length+(t.length+1):=by simp
  have l3:(A++(t++ [c])++hN k 42).length=A.length+(t.length+1)+k:=by simp;omega
  have O: ∀m,A.length+(t.length+1)<=m->m<A.length+(t.length+1)+k->raw.getD m 0=42:=by
   intro m c5 c8
   rw[r2,pR (by omega),l2,nE (by simp;omega),lQ0,lZ5,if_pos (by omega)];rfl
  have V: ∃d:UInt8,(d=32\/d=10)/\Aj raw (A.length+(t.length+1)+k)=d:=by
   unfold Aj
   rw[I,lQ0,lH0 (by omega),l3,lW1]
   rcases c3 with rfl|⟨B',rfl|rfl⟩
   ·exact⟨32,.inl rfl,rfl⟩
   ·exact⟨32,.inl rfl,rfl⟩
   ·exact⟨10,.inr rfl,rfl⟩
  obtain⟨d,hd,g⟩:=V
  have b8:A.length+(t.length+1)+k<raw.length->raw.getD (A.length+(t.length+1)+k) 0≠42:=by
   intro c2
   have:raw.getD (A.length+(t.length+1)+k) 0=d:=by
    unfold Aj at g
    rw[lQ0,lI0 c2] at g⊢
    exact g
   rw[this]
   rcases hd with rfl|rfl<;>decide
  have y:Ae raw (A.length+(t.length+1))=c:=by
   unfold Ae
   rw[if_neg (by omega),show A.length+(t.length+1) - 1=(A++t).length by simp,c4,lQ0,lH0 (lA1 _),lW1];rfl
  have:=oM (b:=b) (p:=p) (s:=raw) (i:=A.length+(t.length+1)) (j:=A.length+(t.length+1)+k) (by omega) (by omega) (by omega) O b8 (by rw[y];exact b3) (by rw[g];rcases hd with rfl|rfl<;>decide)
  rw[y,g,show A.length+(t.length+1)+k - (A.length+(t.length+1))=k by omega] at this
  have W:vw c d=false:=by rcases hd with rfl|rfl<;>rfl
  have a6:rj c d=true:=by unfold rj;rw[b5,a7];rfl
  have b4:sub raw (A.length+(t.length+1)) (A.length+(t.length+1)+k)=hN k 42:=by
   have:=qr (A++(t++ [c])) (hN k 42) B
   rw[<-r2,l2,lH2] at this
   exact this
  rw[W,a6,b4] at this
  exact this
abbrev LT:=List UInt8 × List Tk
def GR:Tk->Prop
 | .wd s=>WdP s
 | .em k s=>WdP s/\(k=1\/k=2)
 | .cd s=>WdP s
 | .lk s d=>WdP s/\DsP d
 | .es s=>WdP s
 |_=>False
def wV (x:LT):Prop:=WdP x.1/\ ∀t∈x.2,GR t
def qB (l:List Tk):List Tk:=l.flatMap λt=> [.sp,t]
def d4 (x:LT):List Tk:= .wd x.1::qB x.2
def cu (x:LT):List UInt8:=tkB (d4 x)
def fg:List LT->List Tk
 | []=> []
 | [x]=>d4 x
 |x::y::r=>d4 x++ .nl::fg (y::r)
theorem mj: ∀ls:List LT,tkB (fg ls)=bG [10] (ls.map cu)
 | []=>rfl
 | [x]=>by simp[fg,bG,cu]
 |x::y::r=>by
  have g:=mj (y::r)
  have e:bG [10] ((x::y::r).map cu)=cu x++10::bG [10] ((y::r).map cu):=by simp[bG]
  rw[e,<-g,fg,ud,cv];rfl
theorem Ci {r:List Tk}(hr:okT 2 r): ∀l:List Tk,(∀t∈l,GR t)->okT 2 (qB l++r)
 | [],_=>hr
 |t::l,h=>by
  have g:=Ci hr l λx y=>h x (.tail _ y)
  have ht:=h t (.head _)
  have e:qB (t::l)++r= .sp::t::(qB l++r):=rfl
  rw[e]
  refine⟨rfl,?_⟩
  cases t with
  |wd s=>exact⟨by decide,ht,g⟩
  |sp=>exact ht.elim
  |nl=>exact ht.elim
  |em k s=>exact⟨rfl,ht.1,ht.2,g⟩
  |cd s=>exact⟨rfl,ht,g⟩
  |lk s d=>exact⟨rfl,ht.1,ht.2,g⟩
  |es s=>exact⟨rfl,ht,g⟩
theorem rV {x:LT}{r:List Tk}(h:wV x)(hr:okT 2 r):okT 0 (d4 x++r):=⟨by decide,h.1,Ci hr x.2 h.2⟩
theorem pG: ∀ {ls:List LT},ls≠ []->(∀x∈ls,wV x)->okT 0 (fg ls)
 | [],h,_=>absurd rfl h
 | [x],_,h=>by
  have:=rV (r:= []) (h x (.head _)) rfl
  rw[lG0] at this
  exact this
 |x::y::r,_,h=>rV (h x (.head _)) ⟨rfl,pG (ls:=y::r) (by simp) λz hz=>h z (.tail _ hz)⟩
theorem qz {x:LT}(h:wV x): ∃c r,cu x=c::r/\wB c=true:=by
 obtain⟨c,t,g⟩:=lZ0 h.1.ne
 refine⟨c,t++tkB (qB x.2),?_,h.1.by_ c (by rw[g];exact .head _)⟩
 show x.1++_=_
 rw[g];rfl
theorem rP {c:UInt8}(h:wB c=true):nZ c=true/\cO c=false/\lG c=false/\c≠45/\c≠60/\c≠61/\c≠10/\c≠13/\c≠0/\c≠91:=by
 have:=lD2.1 (show (List.range 256).all (λn=> !(wB (UInt8.ofNat n))||(nZ (UInt8.ofNat n) && !cO (UInt8.ofNat n) && !lG (UInt8.ofNat n) && UInt8.ofNat n !=45 && UInt8.ofNat n !=60 && UInt8.ofNat n !=61 && UInt8.ofNat n !=10 && UInt8.ofNat n !=13 && UInt8.ofNat n !=0 && UInt8.ofNat n !=91))=true by kernel_rfl) c.toNat (lV2.2 c.toNat_lt)
 rw[lZ3,h] at this
 simpa[and_assoc] using this
theorem zv {x:LT}(h:wV x):TxL (cu x):=by
 obtain⟨c,r,e,hc⟩:=qz h
 obtain⟨W,y,_,U,O,V,_⟩:=rP hc
 rw[e]
 refine⟨λl I=>?_,by rw[lL3,y];rfl⟩
 have E:=I.has
 have a6:=E.plain W
 have g:(l.lead 3 false).peek=c:=by rw[E.lead y 2];exact E.peek
 refine⟨⟨a6,by rw[g];exact O,by rw[g];exact U,by rw[g];exact V⟩,?_⟩
 unfold Ln.rest
 rw[I.tx,lI2 (by simp[y])]
theorem rm {op:Opt}(O:op.auto=false){ls:List LT}(U:ls≠ [])(h: ∀x∈ls,wV x)(I:(bG [10] (ls.map cu)).length<200000):xR wc op (ls.map cu):=by
 have g:=pG U h
 have y:=mj ls
 have E:=uc O g (by rw[y];exact I)
 have hd:=z9 g
 rw[y] at E hd
 refine⟨Leaf.fin.toN (lf:= .para (ls.map cu)) ⟨by omega,?_,?_⟩,?_,?_⟩
 ·rw[<-y]
  obtain⟨s,r,e,hs⟩:=g.first
  rw[e]
  obtain⟨c,t,rfl⟩:=lZ0 hs.ne
  simp[cv,Tk.B]
 ·rw[<-y]
  obtain⟨s,r,e,hs⟩:=g.first
  rw[e]
  obtain⟨c,t,rfl⟩:=lZ0 hs.ne
  have hc:=rP (hs.by_ c (.head _))
  have V:tkB (.wd (c::t)::r)=c::(t++tkB r):=rfl
  rw[V,lI2 (by simp[hc.2.2.1])]
  simp[hc.2.2.2.2.2.2.2.2.2]
 ·rw[hd];exact E
 ·rw[hd];exact BV g (by rw[y];simp;omega)
theorem CR {op:Opt}(O:op.task=false)(V:op.ids=false)(U:op.auto=false){ec:ai}{d lv:Nat}(W:1<=lv/\lv<=6){x:LT}(h:wV x)(I:(cu x).length<90000):
 BlkP wc op ec [hN lv 35++32::cu x] (λn=> .mk {kind:=5,num:=(lv:Nat),s:=n,e:=n} (eC (tkG Tk.out [] (d4 x)))) d none:=by
 have g:okT 0 (d4 x):=by
  have:=rV (r:= []) h rfl
  rw[lG0] at this
  exact this
 have hd:=z9 g
 obtain⟨m,b3,e,a7,a6⟩:=g.last (by simp[d4])
 have E:=uc (o:=op) U g (by show (cu x).length<_;omega)
 have y:=BV (p:= []) g (by show [].length+(cu x).length<_;simp;omega)
 have e':cu x=m++ [b3]:=e
 rw[<-hd] at E y⊢
 rw[e] at E y⊢
 rw[e'] at I⊢
 exact ES (G:=wc) O V W ⟨a7,a6⟩ (by simp at I;omega) E y
theorem AA {op:Opt}(y:op.task=false)(I:op.table=false)(O:op.auto=false){ec:ai}{d:Nat}{ls:List LT}(g:ls≠ [])(h: ∀x∈ls,wV x)(E:(bG [10] (ls.map cu)).length<200000):
 BlkP wc op ec (ls.map cu) (λn=> .mk {kind:=6,s:=n,e:=n+ls.length - 1} (eC (tkG Tk.out [] (fg ls)))) d none:=by
 have:=EQ (G:=wc) y I (ec:=ec) (d:=d) (ls:=ls.map cu) (by simpa using g) (λs hs=>by obtain⟨x,U,rfl⟩:=lU1.1 hs;exact zv (h x U)) (rm O g h E)
 rw[lS0,<-mj,z9 (pG g h)] at this
 exact this
theorem ww {op:Opt}(y:op.task=false)(I:op.table=false)(O:op.auto=false){ec:ai}{d:Nat}{c:UInt8}(hc:c=61\/c=45){ls:List LT}(g:ls≠ [])(h: ∀x∈ls,wV x)(E:(bG [10] (ls.map cu)).length<200000):
 BlkP wc op ec (ls.map cu++ [[c,c,c]]) (λn=> .mk {kind:=5,num:=(Bm c:Nat),s:=n,e:=n+ls.length} (eC (tkG Tk.out [] (fg ls)))) d none:=by
 have:=Ba (G:=wc) y I (ec:=ec) (d:=d) hc (ls:=ls.map cu) (by simpa using g) (λs hs=>by obtain⟨x,U,rfl⟩:=lU1.1 hs;exact zv (h x U)) (rm O g h E)
 rw[lS0,<-mj,z9 (pG g h)] at this
 exact this
def qP (x:Nat × List UInt8):List UInt8:=hN x.1 32++x.2
theorem EJ {k:Nat}{s:List UInt8}(W:k<=3)(hs:WdP s):CoL [96,96,96] (qP (k,s)):=by
 obtain⟨c,t,rfl⟩:=lZ0 hs.ne
 have hc:=hs.by_ c (.head _)
 have E:=(Bu hc).1
 refine⟨λl I=>?_,?_⟩
 ·intro n d u info V
  have O:=LnR.strip (c:=c) (r:=t) E k 3 0 W I
  obtain⟨U,a6,g,_⟩:=V
  have y:=LnR.skip (a:=hN k 32) I
  rw[O] at g
  rw[lH2] at y
  have:({l with i:=l.i+k}:Ln).peek=c:=y.has.peek
  exfalso
  have g:c=d:=this.symm.trans g
  subst g
  rcases U with rfl|rfl
  ·exact absurd hc (by decide)
  ·exact absurd hc (by decide)
 ·show (hN k 32++c::t).all cO=false
  rw[lD5,lL3,E];simp

def Dz (G:List UInt8->List Inl)(op:Opt)(ec:ai)(ls:List (List UInt8))(xs:Nat->List IN)(d:Nat)(bc:Option UInt8):Prop:=
 ∀(cx:List CX) (root top:Bk) (cf gs junk:List Bk) (pend0:List IN) (rem:List (List UInt8)) (n:Nat) (Q:List DB->Prop),cx.length+d<=400->n+ls.length<=20000->(∀s∈ls,(ctx cx s).length<100000)->root.isRoot->root::cf=gs++ [top]->FrX (n+1) cx cf->Pd G op pend0 junk .none->junk.length<=900->(∀c,bc=some c->DA c junk)->BDi n gs top junk->
  (∀fs lf,St G op cx d (n+ls.length) gs top (pend0++xs (n+1)) fs lf->OkL ec op Q rem (n+ls.length) fs lf)->
  ∀(σ:Out) (R:Ending->World->Prop) (L:List ai) (b b1 pb:Nat) (p:PS) (w:World) (l:Ln) (E:OA->Nat->WP),Runs R E b b1->ec∈L->op.at pb∈L->p.pz=kE pb->p.lineno=n+1->p.depth=gs.length->LnR l (ls.headD [])->l.text.length<100000->DocC σ b (l.at b1::L) (gs++top::junk) .none p w->
   (∀w (p':PS) y g,p'.base=p.base->p'.lineno=p.lineno->OkL ec op Q (ls.tail.map (ctx cx)++rem) (n+1) y g->DocC σ b L y g p' w->R (hQ (.tuple #[])) w)->ak.bl102 R E (kE b) b1 w
theorem BlkP.seq {ec:ai}{ls:List (List UInt8)}{x:Nat->IN}{d:Nat}{bc:Option UInt8}(h:BlkP G op ec ls x d bc):Dz G op ec ls (λn=> [x n]) d bc:=h
theorem St.comp {cx:List CX}{d n:Nat}{gs0 y fs:List Bk}{top0 g:Bk}{dsA:List DB}{accA p2 xsA E:List IN}{lf:Leaf}(b8:Sims gs0 y)(c2:g.lk top0)(U:g.D=top0.D++dsA)(b3:TDs G op dsA accA)(b5:accA++p2=xsA)(h:St G op cx d n y g (p2++E) fs lf):St G op cx d n gs0 top0 (xsA++E) fs lf:=by
 obtain⟨root,cf,gs,top,junk,b7,I,pend,e,hr,O,b9,W,a7,a6,c1,b4,V,c3,b6⟩:=h
 exact⟨root,cf,gs,top,junk,dsA++b7,accA++I,pend,e,hr,O,b9,b8.trans W,a7.trans c2,by rw[a6,U,lD0],b3.append c1,b4,by rw[lD0,V,<-lD0,b5],c3,b6⟩
theorem Fd {ec:ai}{ls:List (List UInt8)}{xs:Nat->List IN}{d:Nat}{bc:Option UInt8}(f4:Dz G op ec ls xs d bc){c0:UInt8}{r0:List UInt8}(b5:ls.headD []=c0::r0)(b4:cO c0=false){cx:List CX}{root top:Bk}{cf gs junk:List Bk}{pend0:List IN}{rem:List (List UInt8)}{n:Nat}{Q:List DB->Prop}(e2:cx.length+d<=400)(g0:n+ls.length<=20000)(V: ∀s∈ls,(ctx cx s).length<100000)(hr:root.isRoot)(e4:root::cf=gs++ [top])(g3:FrS cx cf)(c3:Pd G op pend0 junk .none)(d0:junk.length<=900)(c5:junk= []\/ ∃f rest lb num it,∃bul:UInt8,junk=f::rest/\f.isList lb bul.toNat num it)(e7: ∀c,bc=some c->DA c junk)(b7:BD n (gs++top::junk))(e5: ∀y E,Sims gs y->top.sim E-> ∀fs lf,St G op cx d (n+ls.length) y E (pend0++xs (n+1)) fs lf->OkL ec op Q rem (n+ls.length) fs lf):OkL ec op Q (ls.map (ctx cx)++rem) n (gs++top::junk) .none:=by
 obtain⟨s,rest,rfl⟩: ∃s rest,ls=s::rest:=by
  cases ls with
  |nil=>cases b5
  |cons s rest=>exact⟨s,rest,rfl⟩
 have hs:s=c0::r0:=b5
 have b3:s.all cO=false:=by rw[hs,lL3,b4];rfl
 simp only[lF0] at g0
 show∀nl,qd [ec] op (n+1) (ctx cx s) nl (gs++top::junk) .none (OkL ec op Q (rest.map (ctx cx)++rem) (n+1))
 intro nl
 refine AJ g3 hr e4 (λa x h1 _=>Ck b3 _) (by omega) (V s (.head _)) λσ R L b b1 pb p w X y E c4 a6 l2 c1 e6 e0 d2 e1 h3 b8 c2 b6 e3 U I f0 hd h2 h f6=>?_
 have e9:l2.blank=false:=by unfold Ln.blank;rw[I.tx];exact b3
 have h5:=b6.len
 have h4:y.length=a6.length:=by have:=congrArg List.length U;simp at this;omega
 have d1:BD n (y++E::junk):=by
  obtain⟨_,_,_,_,_,_,c9,_⟩:=h
  have W:Sims (gs++top::junk) (y++E::junk):=Sims.append b8 (.cons c2 (Sims.refl λf O=>(c9 f (by simp[O])).2.2.2))
  exact⟨B5 W b7.1,by rw[W.mem.2];exact b7.2⟩
 have go: ∀w,DocC σ b (l2.at b1::L) (y++E::junk) .none p w->ak.k2 R (kE b) b1 w:=by
  intro w h
  refine k2nb h I.ok e9 λw h=>?_
  refine f4 cx c4 E a6 y junk pend0 rem n Q e2 (by simp;omega) V e3 U b6 c3 d0 e7 d1.i (e5 y E b8 c2) σ R L b b1 pb p w l2 _ (Runs.top b b1) e6 e0 d2 e1 hd I f0 h λw p' c8 d3 a1 a2 a3 h=>?_
  exact f6 w p' c8 d3 a1 a2 a3 h
 rcases c5 with rfl|⟨f,g7,lb,num,it,bul,rfl,O⟩
 ·exact endX c1 h (by simp;omega) ⟨by simp,by simp;omega⟩ go
 ·have e8:LnR l2 (c0::r0):=by rw[<-hs];exact I
  have a7:=O.1
  cases c3 with
  |quote g1 _ _=>
   obtain⟨h8,g5,_⟩:=g1
   rw[g5] at a7;cases a7
  | @list _ g junk2 _ lb2 wd2 bul2 num2 it2 items ixs xs2 ys2 hf2 hfD hit hg hwd hu hxs hys=>
   obtain⟨ib,f5,h7,g2⟩:=hg
   obtain⟨f3,g4⟩:=hf2
   have h:DocC σ b (l2.at b1::L) ((y++ [E])++f::(g::junk2)) .none p w:=by simpa using h
   refine FW c1 h (by simp;omega) ⟨by simp,by simp;omega⟩ I.ok (λh6 K w b9 h g6=>?_) λw h=>go w (by simpa using h)
   rw[f3]
   refine bm gy ?_
   refine lT (ib:=ib) (lb:=lb2) (n:=wd2) (hv:=true) (bul:=bul2.toNat) (num:=num2) (lo:=false) (td:= .nilFunc) h I.ok (by omega) ?_ ?_ (by rw[e8.padNo b4 hwd.1];exact⟨rfl,rfl⟩) g6
   ·rw[<-f5];exact b9 f (by simp) _ (by rw[g4];exact .head _)
   ·exact b9 g (by simp) _ (by rw[g2];exact .head _)

theorem Gj {E pend pend0:List IN}{x g:IN}(h:E++pend=pend0++ [x])(I:pend= [g]):g=x:=by
 subst I
 exact(lF4 h rfl).2|>λh=>by simpa using h
theorem DZ (d1:op.task=false){ec:ai}{y E:List (List UInt8)}{U:Nat->IN}{a6:Nat->List IN}{d:Nat}{c1 b8:Option UInt8}(n3:BlkP G op ec y U d c1)(e4:y≠ [])(o0:Dz G op ec E a6 d b8){c0:UInt8}{r0:List UInt8}(g0:E.headD []=c0::r0)(f6:cO c0=false)(e9: ∀c,b8=some c-> ∀n,(U n).h.char≠ [c]):
 Dz G op ec (y++ []::E) (λn=>U n::a6 (n+y.length+1)) d c1:=by
 intro cx root top cf gs junk pend0 rem n Q b6 m5 W hr f5 i0 o2 g4 g1 n0 O σ R L b b1 pb p w l j1 g5 f3 g3 e7 g6 hd k0 h7 h m3
 have en:n+(y++ []::E).length=n+y.length+1+E.length:=by simp;omega
 have O: ∀fs lf,St G op cx d (n+(y++ []::E).length) gs top (pend0++(U (n+1)::a6 (n+1+y.length+1))) fs lf->OkL ec op Q rem (n+(y++ []::E).length) fs lf:=O
 rw[en] at O m5
 have h8:n+1+y.length+1=n+y.length+1+1:=by omega
 rw[h8] at O
 obtain⟨s,rest,rfl⟩:=lZ0 e4
 have g7:=W [] (by simp)
 refine n3 cx root top cf gs junk pend0 (ctx cx []::(E.map (ctx cx)++rem)) n Q b6 (by omega) (λs hs=>W s (by simp at hs⊢;rcases hs with hs|hs<;>simp[hs])) hr f5 i0 o2 g4 g1 n0 (λfs lf a7=>?_) σ R L b b1 pb p w l j1 g5 f3 g3 e7 g6 hd k0 h7 h λw p' e6 f1 a1 a2 a3 h=>m3 w p' e6 f1 a1 a2 (by simpa using a3) h
 obtain⟨o3,q0,h6,b5,d2,f2,e3,o4,rfl,m2,r2,f4,i1,n1,i4,m6,c4,c5,q5,V⟩:=a7
 show∀nl,qd [ec] op (n+(s::rest).length+1) (ctx cx []) nl (h6++b5::d2) lf (OkL ec op Q (E.map (ctx cx)++rem) (n+(s::rest).length+1))
 intro nl
 have b9:=V.le (by omega)
 refine Fx d1 f4.toS m2 r2 (by omega) g7 c4 (by omega) b9.1 b9.2 λe8 e1 d3 ds2 e5 e0 p1 q3 t1 m1 m4 i8 l5 d0 c9 h9 c2 f0 q4 b7 p5=>?_
 have p4:=c4.len
 have q2:ds2.length<=1:=by
  have:=c9.len
  have:=congrArg List.length c2
  rw[lA0] at this
  omega
 have g2:BD (n+(s::rest).length+1) (e8++e1::d3):=by
  refine⟨λf I=>?_,by have:=V.2;omega⟩
  rcases lP0.1 I with I|I
  ·have:=B5 t1 (λx b4=>V.1 x (by simp[b4])) f I;omega
  ·rcases lW0.1 I with rfl|I
   ·have:=V.1 b5 (by simp)
    rw[d0,lA0];omega
   ·have:=f0.2 (3*(n+(s::rest).length)) (λg i2=>V.1 g (by simp[i2])) f I;omega
 refine Fd o0 g0 f6 b6 (by omega) (λs hs=>W s (by simp[hs])) i8 l5 m4 h9 (by omega) ?_ ?_ g2 λq1 p3 i3 c8 fs lf a7=>?_
 ·rcases b7 with h0|⟨f,rs,lb,num,it,bul,h0,b3,_⟩
  ·exact .inl h0
  ·exact .inr ⟨f,rs,lb,num,it,bul,h0,b3⟩
 ·intro c hc
  rcases b7 with h0|⟨f,rs,lb,num,it,bul,h0,b3,x,n2,j0⟩
  ·exact .inl h0
  ·refine .inr ⟨f,rs,lb,bul,num,it,h0,b3,?_⟩
   rintro rfl
   have b4:=Gj c5 n2
   exact e9 bul hc (n+1) (b4▸j0)
 ·refine O fs lf ?_
  have c3:=a7.comp (gs0:=gs) (top0:=top) (dsA:=f2++ds2) (accA:=e3++e5) (p2:=e0) (xsA:=pend0++ [U (n+1)]) ((i1.trans t1).trans i3) (c8.lk.trans (m1.trans n1)) (by rw[c8.2.2.1,d0,i4,lD0]) (m6.append c9) (by rw[lD0,c2,c5])
  rw[lD0] at c3
  exact c3
theorem Do (g0:op.task=false){ec:ai}{ls:List (List UInt8)}{xs:Nat->List IN}{d:Nat}{bc:Option UInt8}(n2:Dz G op ec ls xs d bc){c0:UInt8}{r0:List UInt8}(e0:ls.headD []=c0::r0)(i1:cO c0=false):
 BlkP G op ec (ls.map λs=>62::32::s) (λn=> .mk {kind:=2,s:=n,e:=n+ls.length - 1} (xs n)) (d+1) none:=by
 intro cx root top cf gs junk pend0 rem n Q q8 e8 g7 hr d2 e5 c3 r9 r7 a7 d3 σ R L b b1 pb p w l s2 j0 h9 e3 d1 b9 hd b4 k0 h o0
 obtain⟨s,rest,rfl⟩: ∃s rest,ls=s::rest:=by
  cases ls with
  |nil=>cases e0
  |cons s rest=>exact⟨s,rest,rfl⟩
 have hs:s=c0::r0:=e0
 have h8:s.all cO=false:=by rw[hs,lL3,i1];rfl
 have b4:LnR l (62::32::s):=b4
 have r8:=e5.len
 have r5:gs.length=cf.length:=by have:=congrArg List.length d2;simp at this;omega
 rw[lS0] at e8 d3
 have d0: ∀s:List UInt8,ctx cx (62::32::s)=ctx (cx++ [.q]) s:=λs=>(ov cx [.q] s).symm
 refine Aw g0 c3 h hd (by omega) b4 h8 (a7.le (by omega)).1 (a7.le (by omega)).2 d1 e3 (by omega) λw p' b3 c2 f e9 e7 m3 k1 k2 k3 k4 e6 n0 l5 c1 h=>?_
 obtain⟨c8,b7,n3,r2,o3⟩:=jR e5 hr d2 k1
 have r4:=k3.len
 have r6:=c3.len
 have i4:FrX (n+1) (cx++ [.q]) (b7++ [f]):=o3.append (.q e6 (by rw[l5,b9]) .nil)
 have g3:c8::(b7++ [f])=(gs++ [b3])++ [f]:=by rw[<-n3];simp
 have h6:junk= []->c2= []:=by
  rintro rfl
  cases c3
  cases k3
  rfl
 have i3:BDi n (gs++ [b3]) f []:=by
  have m5:txF (gs++top::junk)=txF gs++(ci top.D++txF junk):=by simp[txF]
  have E:txF ((gs++ [b3])++ [f])=txF gs++(ci top.D++ci c2):=by rw[bE,bE,dL,dL,k2,c1,di];simp[ci]
  refine⟨λg O=>?_,λg O=>?_,.inr ⟨rfl,?_⟩⟩
  ·rcases lP0.1 O with O|O
   ·exact a7.1 g O
   ·obtain rfl:=lN0.1 O
    have:=a7.2.1 top (.head _)
    rw[k2,lA0];omega
  ·obtain rfl:=lN0.1 O
   rw[c1];simp
  ·rw[E]
   have W:=a7.2.2
   rw[m5] at W
   simp only[lA0] at W⊢
   rcases W with W|⟨h0,W⟩
   ·omega
   ·rw[h6 h0]
    simp[ci] at W⊢
    omega
 have g4:p'.pz=kE pb:=by rw[<-d1];exact pk e9
 refine j0 w λX h5=>?_
 refine n2 (cx++ [.q]) c8 f (b7++ [f]) (gs++ [b3]) [] [] rem n Q (by simp;omega) e8 (λs hs=>by rw[<-d0];exact g7 _ (lU1.2 ⟨s,hs,rfl⟩)) r2 g3 i4 .none (by simp) (λc _=> .inl rfl) i3 (λfs lf i2=>?_) σ R L b b1 pb p' w _ X (Runs.of h5 b b1) h9 e3 g4 (e7.trans b9) (by rw[m3,hd];simp) (LnR.skip (a:= [62,32]) b4) k0 (by simpa using h) λw n1 h1 h7 a1 a2 a3 h=>?_
 ·obtain⟨c9,h4,q5,U,c5,s1,q0,p5,rfl,m4,b5,b8,v1,c4,f0,m6,p1,f5,s3,p4⟩:=i2
  have q4:=b8
  obtain⟨a6,b6,rfl,o2,f6⟩:=yu v1
  have g5: ∃V,h4=V++ [U]/\c9::V=a6++ [b6]:=by
   cases a6 with
   |nil=>
    simp only[lT0,lR0,lU0] at b5
    obtain⟨rfl,rfl⟩:=b5
    exact⟨[],rfl,rfl⟩
   |cons y a6=>
    simp only[lR0,lU0] at b5
    obtain⟨rfl,rfl⟩:=b5
    exact⟨a6++ [b6],by simp,rfl⟩
  obtain⟨V,rfl,g6⟩:=g5
  have e4:FrX (n+(s::rest).length) cx V/\U.ob.e=n+(s::rest).length:=by
   refine⟨?_,b8.lastE V U rfl⟩
   have i0: ∀ {cs:List CX} {fs:List Bk},FrX (n+(s::rest).length) cs fs-> ∀a t I,fs=a++ [t]->cs=I++ [.q]->FrX (n+(s::rest).length) I a:=by
    intro cs fs h
    induction h with
    |nil=>intro a t I e;simp at e
    | @q cs fs f hq he h2 ih=>
     intro a t I e E
     cases a with
     |nil=>
      simp only[lT0,lU0] at e
      obtain⟨rfl,rfl⟩:=e
      cases h2
      cases I with
      |nil=>exact .nil
      |cons y I=>simp at E
     |cons x a=>
      simp only[lR0,lU0] at e
      obtain⟨rfl,e⟩:=e
      cases I with
      |nil=>
       simp only[lT0,lU0] at E
       rw[E.2] at h2;cases h2;simp at e
      |cons y I=>
       simp only[lR0,lU0] at E
       rw[<-E.1]
       exact .q hq he (ih a t I e E.2)
    | @i cs fs f g lb w bul num it hf O hw he h2 ih=>
     intro a t I e E
     cases I with
     |nil=>simp at E
     |cons y I=>
      simp only[lR0,lU0] at E
      cases a with
      |nil=>simp at e
      |cons x a=>
       simp only[lR0,lU0] at e
       obtain⟨rfl,e⟩:=e
       cases a with
       |nil=>
        simp only[lT0,lU0] at e
        obtain⟨rfl,rfl⟩:=e
        cases h2
        simp at E
       |cons z a=>
        simp only[lR0,lU0] at e
        obtain⟨rfl,e⟩:=e
        rw[<-E.1]
        exact .i hf O hw he (ih a t I e E.2)
   exact i0 b8 V U cx rfl rfl
  rw[c1,lT0] at f0
  rw[lT0] at f5
  have j1:U.isQuote:=by
   obtain⟨m1,m2,o4⟩:=e6
   exact⟨m1,c4.1.trans m2,c4.2.2.trans o4⟩
  have i8:Pd G op [.mk {kind:=2,s:=n+1,e:=n+1+(s::rest).length - 1} (xs (n+1))] (U::c5) lf:=by
   have:=Pd.quote (G:=G) (op:=op) j1 (by rw[f0];exact m6) p1
   rw[f5,e4.2,c4.2.1,n0,b9] at this
   have e:n+1+(s::rest).length - 1=n+(s::rest).length:=by omega
   rw[e];exact this
  refine d3 _ _ ⟨c9,V,a6,b6,U::c5,c2,pend0,[.mk {kind:=2,s:=n+1,e:=n+1+(s::rest).length - 1} (xs (n+1))],by simp,m4,g6,e4.1,o2,f6.lk.trans k1.lk,by rw[f6.2.2.1,k2],k3,i8,rfl,by simp;omega,?_⟩
  simpa using p4
 ·refine o0 w n1 h1 h7 (a1.trans e9) (a2.trans e7) ?_ h
  have:((s::rest).map λs=>62::32::s).tail.map (ctx cx)=(s::rest).tail.map (ctx (cx++ [.q])):=by
   simp[d0]
  rw[this];exact a3

theorem FrX.split {m:Nat}{b:List CX}: ∀ {a:List CX} {fs:List Bk},FrX m (a++b) fs-> ∃gs g,fs=gs++g/\FrX m a gs/\FrX m b g
 | [],fs,h=>⟨[],fs,rfl,.nil,h⟩
 |c::a,fs,h=>by
  cases h with
  |q x U I=>
   obtain⟨gs,g,rfl,E,O⟩:=FrX.split I
   exact⟨_::gs,g,rfl,.q x U E,O⟩
  |i x U z v I=>
   obtain⟨gs,g,rfl,E,O⟩:=FrX.split I
   exact⟨_::_::gs,g,rfl,.i x U z v E,O⟩
theorem Da {a b:List UInt8}(h:a.length=b.length): ∀cx:List CX,(ctx cx a).length=(ctx cx b).length
 | []=>h
 | .q::cs=>by
  show (62::32::ctx cs a).length=(62::32::ctx cs b).length
  simp[Da h cs]
 | .i w::cs=>by
  have g:=Da h cs
  show (if ctx cs a= [] then [] else hN w 32++ctx cs a).length=(if ctx cs b= [] then [] else hN w 32++ctx cs b).length
  by_cases y:ctx cs a= []
  ·have hb:ctx cs b= []:=by rw[y] at g;exact lA6.1 g.symm
   rw[if_pos y,if_pos hb]
  ·have hb:ctx cs b≠ []:=by intro h0;rw[h0] at g;exact y (lA6.1 g)
   rw[if_neg y,if_neg hb]
   simp[g]
structure ItOK (G:List UInt8->List Inl) (op:Opt) (ec:ai) (c:UInt8) (num:Nat) (mk:List UInt8) (ls:List (List UInt8)) (xs:Nat->List IN) (d:Nat):Prop where
 seq: ∃bc,Dz G op ec ls xs d bc
 hd: ∃c0 r0,ls.headD []=c0::r0/\cO c0=false
 mkc: ∃x r,mk=x::r/\xS x
 marks: ∀l,LnR l (mk++ls.headD [])->qh l c num mk.length {l with i:=l.i+mk.length}/\l.isHR=false
 w:mk.length<100
def itL (mk:List UInt8)(ls:List (List UInt8)):List (List UInt8):=(mk++ls.headD [])::ls.tail.map (CX.pre (.i mk.length))
def LsSt (G:List UInt8->List Inl)(op:Opt)(ex:Bool)(cx:List CX)(d n U V wd:Nat)(gs0:List Bk)(top0:Bk)(pend0:List IN)(c:UInt8)(num0:Int)(s0:Nat)(ixs O:List IN)(fs:List Bk)(lf:Leaf):Prop:=
 ∃root cf gs top f y junk lb I items dsA E pend,fs=gs++top::f::y::junk/\root.isRoot/\root::cf=gs++ [top]/\FrS cx cf/\(ex=true->FrX n cx cf)/\Sims gs0 gs/\top.lk top0/\top.D=top0.D++dsA/\TDs G op dsA pend0/\
  f.isList lb c.toNat num0 I/\f.ob.s=s0/\f.D=List.map IT.db items/\ItR G op items ixs/\ItemOf I y lb wd true/\(1<=wd/\wd<100)/\y.ob.s=V/\y.ob.e=U/\TDs G op y.D E/\Pd G op pend junk lf/\E++pend=O/\junk.length<=2*d/\BD n fs
theorem LsSt.done {cx:List CX}{d n I E wd:Nat}{gs0:List Bk}{top0:Bk}{pend0:List IN}{c:UInt8}{num0:Int}{s0:Nat}{ixs y:List IN}{fs:List Bk}{lf:Leaf}(c2:Utf8.encode (c.toNat:Int)=bs [c])(h:LsSt G op true cx d n I E wd gs0 top0 pend0 c num0 s0 ixs y fs lf):
 St G op cx (d+1) n gs0 top0 (pend0++ [xZ s0 c num0 (ixs++ [.mk {kind:=4,width:=wd,s:=E,e:=I} y])]) fs lf:=by
 obtain⟨root,cf,gs,top,f,g,junk,lb,d3,items,dsA,d2,pend,rfl,c5,c9,e0,c1,c3,b9,c4,d0,c8,b5,b4,W,b3,V,b6,a7,b7,b8,a6,d1,U⟩:=h
 have O:=Pd.list c8 b4 W b3 V c2 b7 b8
 rw[b5,b6,a7,a6] at O
 exact⟨root,cf,gs,top,f::g::junk,dsA,pend0,_,rfl,c5,c9,c1 rfl,c3,b9,c4,d0,O,rfl,by simp;omega,U⟩
theorem CF {ec:ai}{c:UInt8}{num:Nat}{mk:List UInt8}{ls:List (List UInt8)}{xs:Nat->List IN}{d:Nat}(i4:ItOK G op ec c num mk ls xs d){cx:List CX}{n:Nat}{rem:List (List UInt8)}{Q:List DB->Prop}{root top f y:Bk}{cf gs:List Bk}{gs0:List Bk}{top0:Bk}{pend0:List IN}{num0:Int}{s0 lb:Nat}{O:OA}{items:List IT}{ixs:List IN}{dsA:List DB}(o4:cx.length+(d+1)<=400)(m1:n+ls.length<=20000)(b4: ∀s∈itL mk ls,(ctx cx s).length<100000)(hr:root.isRoot)(e8:root::cf=gs++ [top])(h7:FrX (n+1) cx cf)(f1:Sims gs0 gs)(f2:top.lk top0)(i0:top.D=top0.D++dsA)(e4:TDs G op dsA pend0)(c2:f.isList lb c.toNat num0 O)(h2:f.ob.s=s0)(e7:f.D=items.map IT.db)(e0:ItR G op items ixs)(b9:ItemOf O y lb mk.length true)(h3:y.D= [])(f3:y.ob.s=n+1)(e5:y.ob.e=n+1)(b5:1<=mk.length)(m5:BDi n (gs++ [top,f]) y [])(e9: ∀fs lf,LsSt G op true cx d (n+ls.length) (n+ls.length) (n+1) mk.length gs0 top0 pend0 c num0 s0 ixs (xs (n+1)) fs lf->OkL ec op Q rem (n+ls.length) fs lf){b b1 pb:Nat}{p:PS}{l:Ln}{a6:OA->Nat->WP}(g3:Runs R a6 b b1)(e6:ec∈L)(g0:op.at pb∈L)(d3:p.pz=kE pb)(g5:p.lineno=n+1)(hd:p.depth=gs.length+2)(j1:LnR l (ls.headD []))(h4:l.text.length<100000)(h:DocC σ b (l.at b1::L) (gs++top::f:: [y]) .none p w)(l5: ∀w (p':PS) I U,p'.base=p.base->p'.lineno=p.lineno->OkL ec op Q ((itL mk ls).tail.map (ctx cx)++rem) (n+1) I U->DocC σ b L I U p' w->R (hQ (.tuple #[])) w):ak.bl102 R a6 (kE b) b1 w:=by
 obtain⟨⟨bc,k0⟩,⟨c0,r0,W,p4⟩,⟨x,r,p1,q0⟩,_,b8⟩:=i4
 have b3: ∀s:List UInt8,ctx cx (CX.pre (.i mk.length) s)=ctx (cx++ [.i mk.length]) s:=λs=>(ov cx [.i mk.length] s).symm
 have c5: ∀s∈ls,(ctx (cx++ [.i mk.length]) s).length<100000:=by
  intro s hs
  rw[<-b3]
  cases ls with
  |nil=>cases hs
  |cons q1 rest=>
   rcases lW0.1 hs with rfl|hs
   ·have n1:=b4 (mk++s) (.head _)
    have d1:s≠ []:=by
     intro h0
     have W:s=c0::r0:=W
     rw[h0] at W;cases W
    have e:CX.pre (.i mk.length) s=hN mk.length 32++s:=by
     show (if s= [] then [] else hN mk.length 32++s)=_
     rw[if_neg d1]
    rw[e,Da (b:=mk++s) (by simp)]
    exact n1
   ·exact b4 _ (.tail _ (lU1.2 ⟨s,hs,rfl⟩))
 have f4:FrX (n+1) (cx++ [.i mk.length]) (cf++ [f,y]):=h7.append (.i c2 b9 ⟨b5,b8⟩ e5 .nil)
 have d2:root::(cf++ [f,y])=(gs++ [top,f])++ [y]:=by
  have:root::(cf++ [f,y])=(root::cf)++ [f,y]:=rfl
  rw[this,e8];simp
 refine k0 (cx++ [.i mk.length]) root y (cf++ [f,y]) (gs++ [top,f]) [] [] rem n Q (by simp;omega) m1 c5 hr d2 f4 .none (by simp) (λc _=> .inl rfl) m5 (λfs lf f0=>?_) σ R L b b1 pb p w l a6 g3 e6 g0 d3 g5 (by rw[hd];simp) j1 h4 (by simpa using h) λw j0 I U a1 a2 a3 h=>?_
 ·obtain⟨E,o2,o3,m2,c8,p5,d0,c9,rfl,h8,n0,g2,v1,a7,c3,i8,n2,c4,q2,o0⟩:=f0
  obtain⟨V,q3,rfl,b7,g1⟩:=g2.split
  obtain⟨b6,k5,rfl,m4,n3⟩:=vc v1
  cases n3 with
  | @cons _ top5 _ fs5 z1 z2=>
   cases z2 with
   | @cons _ f5 _ _ z3 z4=>
    cases z4
    cases g1 with
    | @i _ fsn f6 g6 lb6 w6 bul6 num6 it6 y1 y2 y3 y4 y5=>
     cases y5
     have h9:(E::V)++ [f6,g6]=(b6++ [top5])++ [f5,m2]:=by
      have:(E::V)++ [f6,g6]=E::(V++ [f6,g6]):=rfl
      rw[this,n0];simp
     obtain⟨h5,c1⟩:=lF4 h9 rfl
     simp only[lU0,and_true] at c1
     obtain⟨rfl,rfl⟩:=c1
     rw[h3,lT0] at c3
     rw[lT0] at c4
     have g7:ItemOf O g6 lb mk.length true:=by
      obtain⟨ib,m6,h6,m3⟩:=b9
      exact⟨ib,m6,a7.1.trans h6,a7.2.2.trans m3⟩
     refine e9 _ _ ⟨E,V,b6,top5,f6,g6,c8,lb,O,items,dsA,d0,c9,by simp,h8,h5,b7.toS,λ_=>b7,f1.trans m4,z1.lk.trans f2,by rw[z1.2.2.1,i0],e4,z3.list c2,(z3.lk.2.1).trans h2,by rw[z3.2.2.1,e7],e0,g7,⟨b5,b8⟩,a7.2.1.trans f3,y4,by rw[c3];exact i8,n2,c4,by omega,by simpa using o0⟩
 ·refine l5 w j0 I U a1 a2 ?_ h
  have:(itL mk ls).tail.map (ctx cx)=ls.tail.map (ctx (cx++ [.i mk.length])):=by
   show (ls.tail.map (CX.pre (.i mk.length))).map (ctx cx)=_
   rw[List.map_map]
   exact List.map_congr_left λs _=>b3 s
  rw[this];exact a3

theorem xg (g0:op.task=false){ec:ai}{c:UInt8}{num:Nat}{mk:List UInt8}{ls:List (List UInt8)}{xs:Nat->List IN}{d:Nat}(b3:ItOK G op ec c num mk ls xs d){ex:Bool}{cx:List CX}{n c5 c3 wd:Nat}{gs0:List Bk}{top0:Bk}{pend0:List IN}{num0:Int}{s0:Nat}{ixs b9:List IN}{fs:List Bk}{lf:Leaf}{rem:List (List UInt8)}{Q:List DB->Prop}(m5:LsSt G op ex cx d n c5 c3 wd gs0 top0 pend0 c num0 s0 ixs b9 fs lf)(h1:cx.length+(d+1)<=400)(r1:n+ls.length<=20000)(d1: ∀s∈itL mk ls,(ctx cx s).length<100000)(m2: ∀fs lf,LsSt G op true cx d (n+ls.length) (n+ls.length) (n+1) mk.length gs0 top0 pend0 c num0 s0 (ixs++ [.mk {kind:=4,width:=wd,s:=c3,e:=c5} b9]) (xs (n+1)) fs lf->OkL ec op Q rem (n+ls.length) fs lf):OkL ec op Q ((itL mk ls).map (ctx cx)++rem) n fs lf:=by
 obtain⟨root,cf,gs,top,f,O,junk,lb,r9,items,dsA,r8,pend,rfl,hr,m1,p5,s4,n0,n1,q3,h2,f0,o3,l5,g7,e8,o0,n2,h9,g2,r5,h7,s7,f3⟩:=m5
 obtain⟨c0,r0,e5,m3⟩:=b3.hd
 obtain⟨x,r,b6,c2⟩:=b3.mkc
 have h4:1<=mk.length:=by rw[b6];simp
 have r7:1<=ls.length:=by
  cases ls with
  |nil=>cases e5
  |cons s rest=>simp
 have e4:(mk++ls.headD []).all cO=false:=by rw[b6];simp[c2.1]
 show∀nl,qd [ec] op (n+1) (ctx cx (mk++ls.headD [])) nl (gs++top::(f::O::junk)) lf (OkL ec op Q ((itL mk ls).tail.map (ctx cx)++rem) (n+1))
 intro nl
 refine AJ p5 hr m1 (λa x s9 _=>Ck e4 _) (by omega) (d1 _ (.head _)) λσ R L b b1 pb p w X y E r6 i0 l2 p4 j0 e6 d2 c1 s5 e7 c9 b7 e3 b5 U o4 hd t0 h q8=>?_
 have j1:l2.blank=false:=by unfold Ln.blank;rw[U.tx];exact e4
 have s6:=b7.len
 have s3:y.length=i0.length:=by have:=congrArg List.length b5;simp at this;omega
 obtain⟨f6,g6⟩:=b3.marks l2 U
 have e0:LnR l2 (x::(r++ls.headD [])):=by rw[b6] at U;exact U
 have d0:Sims (gs++top::f::O::junk) (y++E::f::O::junk):=by
  obtain⟨_,_,_,_,_,_,k0,_⟩:=h
  exact Sims.append e7 (.cons c9 (Sims.refl λk I=>(k0 k (lB0 _ (.tail _ I))).2.2.2))
 have V:BD n (y++E::f::O::junk):=⟨B5 d0 f3.1,by rw[d0.mem.2];exact f3.2⟩
 have d3:=V.le (by omega)
 have n3:=e8
 obtain⟨ib,r4,t3,r3⟩:=e8
 have m4:=f0
 obtain⟨q1,q4⟩:=f0
 have h:DocC σ b (l2.at b1::L) ((y++ [E])++f::(O::junk)) lf p w:=by simpa using h
 refine FW p4 h (by simp;omega) ⟨by simp,by simp;omega⟩ U.ok (λt2 K w f5 h I=>?_) λw h=>?_
 ·rw[q1]
  refine bm gy ?_
  refine lT (ib:=ib) (lb:=lb) (n:=wd) (hv:=true) (bul:=c.toNat) (num:=num0) (lo:=false) (td:= .nilFunc) h U.ok (by omega) ?_ ?_ (by rw[e0.padNo c2.1 o0.1];exact⟨rfl,rfl⟩) I
  ·rw[<-r4];exact f5 f (by simp) _ (by rw[q4];exact .head _)
  ·exact f5 O (by simp) _ (by rw[r3];exact .head _)
 refine k2nb h U.ok j1 λw h=>?_
 have h:DocC σ b (l2.at b1::L) (y++E::f::O::junk) lf p w:=by simpa using h
 have b8:=LnR.skip U
 have g4:({l2 with i:=l2.i+mk.length}:Ln).has c0 r0:=by rw[e5] at b8;exact b8.has
 refine Cj g0 (Runs.top b b1) r5 h hd (by omega) (ss b7.toS e3 b5) m4 n3 g2 e0.has c2 g6 f6 g4 m3 d3.1 d3.2 d2 e6 (by omega) λY f4 w p' W b4 c8 s8 a1 a2 a3 a4 a5 c4 q0 a8 a9 a10 a11 a12 a13 a14 i8 h6 h=>?_
 have g3:p'.pz=kE pb:=by rw[<-d2];exact pk a1
 have g1:ItR G op (items++ [c8]) (ixs++ [.mk {kind:=4,width:=wd,s:=c3,e:=c5} b9]):=by
  refine g7.append ?_
  have:=ItR.cons (G:=G) (op:=op) q0 a8 .nil
  rw[a9,a10,a11,n2,h9,h7] at this
  exact this
 have m6:BDi n (y++ [E,W]) b4 []:=by
  have q2:txF (y++E::f::O::junk)=txF y++(ci E.D++(ci f.D++txF (O::junk))):=by simp[txF]
  have p1:txF ((y++ [E,W])++ [b4])=txF y++(ci E.D++(ci f.D++ci c8.D)):=by
   have:ci W.D=ci f.D++ci c8.D:=by rw[c4,jQ];simp[IT.db]
   rw[show (y++ [E,W])++ [b4]=y++([E]++([W]++ [b4])) by simp,bE,bE,bE,dL,dL,dL,this,a14]
   simp[ci]
  refine⟨λk I=>?_,λk I=>?_,.inr ⟨rfl,?_⟩⟩
  ·simp only[lP0,lW0,lF1,or_false] at I
   rcases I with I|rfl|rfl
   ·have:=V.1 k (by simp[I]);omega
   ·have:=V.1 k (by simp);omega
   ·have:=V.1 f (by simp)
    rw[c4,lA0];simp;omega
  ·obtain rfl:=lN0.1 I
   rw[a14];simp
  ·rw[p1]
   have e9:=V.2
   rw[q2] at e9
   simp only[lA0] at e9⊢
   omega
 refine f4 _ _ _ (CF b3 h1 r1 d1 e3 b5 b7 (n0.trans e7) (c9.lk.trans n1) (by rw[c9.2.2.1,q3]) h2 a4 (a5.trans o3) (by rw[c4,l5];simp) g1 a13 a14 (i8.trans c1) (h6.trans c1) h4 m6 m2 (Runs.of f4 b b1) j0 e6 g3 (a2.trans c1) (by rw[a3,hd]) b8 o4 h λw q5 g5 i4 h8 h5 o2 h=>?_)
 exact q8 w q5 g5 i4 (h8.trans a1) (h5.trans a2) o2 h
theorem AO (e7:op.task=false){ec:ai}{c:UInt8}{d:Nat}{cx:List CX}{n b6 c8 wd:Nat}{gs0:List Bk}{top0:Bk}{pend0:List IN}{num0:Int}{s0:Nat}{ixs c3:List IN}{fs:List Bk}{lf:Leaf}{rem:List (List UInt8)}{Q:List DB->Prop}(h7:LsSt G op true cx d n b6 c8 wd gs0 top0 pend0 c num0 s0 ixs c3 fs lf)(q0:cx.length+(d+1)<=400)(r1:n+1<=20000)(f4:(ctx cx []).length<100000)(h6: ∀fs lf,LsSt G op false cx d (n+1) b6 c8 wd gs0 top0 pend0 c num0 s0 ixs c3 fs lf->OkL ec op Q rem (n+1) fs lf):OkL ec op Q (ctx cx []::rem) n fs lf:=by
 obtain⟨root,cf,gs,top,f,y,junk,lb,c1,items,dsA,g1,pend,rfl,hr,h5,m5,q4,h9,i0,n1,g4,d0,l5,h2,g3,c9,c4,i4,h1,f0,d2,g7,q5,b7⟩:=h7
 have b8:ctx cx []=ctx (cx++ [.i wd]) []:=by rw[ov];rfl
 have j0:FrS (cx++ [.i wd]) (cf++ [f,y]):=m5.append (.i d0 c9 c4 .nil)
 have f1:root::(cf++ [f,y])=(gs++ [top,f])++ [y]:=by
  have:root::(cf++ [f,y])=(root::cf)++ [f,y]:=rfl
  rw[this,h5];simp
 have a7:gs++top::f::y::junk=(gs++ [top,f])++y::junk:=by simp
 have b9:=b7.le (by omega)
 have f2: ∀k∈(gs++ [top,f])++y::junk,k.D.length<=90000:=λk E=>b9.1 k (by simpa using E)
 have f3:(txF ((gs++ [top,f])++y::junk)).length<=90000:=by rw[<-a7];exact b9.2
 have e6:(ctx (cx++ [.i wd]) []).length<100000:=b8▸f4
 show∀nl,qd [ec] op (n+1) (ctx cx []) nl (gs++top::f::y::junk) lf (OkL ec op Q rem (n+1))
 intro nl
 suffices hs:qd [ec] op (n+1) (ctx (cx++ [.i wd]) []) nl ((gs++ [top,f])++y::junk) lf (OkL ec op Q rem (n+1)) by
  have a6:ctx (cx++ [.i wd]) []=ctx cx []:=b8.symm
  rw[a6] at hs
  have o2:(gs++ [top,f])++y::junk=gs++top::f::y::junk:=a7.symm
  rw[o2] at hs
  exact hs
 refine Fx e7 j0 hr f1 (by simp;omega) e6 d2 (by omega) f2 f3 λp5 o3 O ds2 g0 e8 V q2 t1 b4 n3 n0 n2 e0 d3 m3 c5 c2 h8 q3 g5=>?_
 obtain⟨W,r3,rfl,m1,j1⟩:=n3.split
 obtain⟨I,k5,rfl,d1,p3⟩:=vc t1
 have p4:=d2.len
 have q1:ds2.length<=1:=by
  have:=d3.len
  have:=congrArg List.length c5
  rw[lA0] at this
  omega
 cases p3 with
 | @cons _ top5 _ fs5 z1 z2=>
  cases z2 with
  | @cons _ f5 _ _ z3 z4=>
   cases z4
   cases j1 with
   | @i _ fsn f6 g6 lb6 w6 bul6 num6 it6 y1 y2 y3 y5=>
    cases y5
    have m6:(V::W)++ [f6,g6]=(I++ [top5])++ [f5,o3]:=by
     have:(V::W)++ [f6,g6]=V::(W++ [f6,g6]):=rfl
     rw[this,n2];simp
    obtain⟨m2,a6⟩:=lF4 m6 rfl
    simp only[lU0,and_true] at a6
    obtain⟨rfl,rfl⟩:=a6
    have k0:ItemOf c1 g6 lb wd true:=by
     obtain⟨ib,o4,m4,o0⟩:=c9
     exact⟨ib,o4,b4.1.trans m4,b4.2.2.trans o0⟩
    have i8:BD (n+1) (I++top5::f6::g6::O):=by
     have U:=b7.1
     refine⟨λk E=>?_,?_⟩
     ·simp only[lP0,lW0] at E
      rcases E with E|rfl|rfl|rfl|E
      ·have:=B5 d1 (λx b5=>U x (by simp[b5])) k E;omega
      ·have:=U top (by simp);rw[z1.2.2.1];omega
      ·have:=U f (by simp);rw[z3.2.2.1];omega
      ·have:=U y (by simp);rw[e0,lA0];omega
      ·have:=c2.2 (3*n) (λx b5=>U x (by simp[b5])) k E;omega
     ·have q8:=b7.2
      have p1:=h8
      have b3:(I++ [top5,f6])++g6::O=I++top5::f6::g6::O:=by simp
      rw[b3,<-a7] at p1
      omega
    have b3:(I++ [top5,f6])++g6::O=I++top5::f6::g6::O:=by simp
    rw[b3]
    have e9:g6.ob.e=b6:=(g5 wd (by simp)).trans h1
    refine h6 _ _ ⟨V,W,I,top5,f6,g6,O,lb,c1,items,dsA,g1++g0,e8,rfl,n0,m2,m1,λh0=>(by cases h0),h9.trans d1,z1.lk.trans i0,by rw[z1.2.2.1,n1],g4,z3.list d0,(z3.lk.2.1).trans l5,by rw[z3.2.2.1,h2],g3,k0,c4,b4.2.1.trans i4,e9,by rw[e0];exact f0.append d3,m3,by rw[lD0,c5,g7],by have:=c2.1;omega,i8⟩

structure Itm where
 mark:List UInt8
 ls:List (List UInt8)
 xs:Nat->List IN
def ke (gap:Bool):List Itm->List (List UInt8)
 | []=> []
 |it::r=>if gap then []::(itL it.mark it.ls++ke gap r) else itL it.mark it.ls++ke gap r
def sX (gap:Bool):Nat->List Itm->List IN
 |_,[]=> []
 |n,it::r=>if gap then .mk {kind:=4,width:=it.mark.length,s:=n+2,e:=n+1+it.ls.length} (it.xs (n+2))::sX gap (n+1+it.ls.length) r else .mk {kind:=4,width:=it.mark.length,s:=n+1,e:=n+it.ls.length} (it.xs (n+1))::sX gap (n+it.ls.length) r
theorem sY {mk:List UInt8}{ls:List (List UInt8)}(h:ls≠ []):(itL mk ls).length=ls.length:=by
 cases ls with
 |nil=>exact absurd rfl h
 |cons s r=>simp[itL]
theorem ItOK.ne {ec:ai}{c:UInt8}{num:Nat}{mk:List UInt8}{ls:List (List UInt8)}{xs:Nat->List IN}{d:Nat}(g:ItOK G op ec c num mk ls xs d):ls≠ []:=by
 rintro rfl
 obtain⟨c0,r0,h,_⟩:=g.hd
 cases h
theorem Eu (a6:op.task=false){ec:ai}{c:UInt8}{d:Nat}(c1:Utf8.encode (c.toNat:Int)=bs [c])(gap:Bool){cx:List CX}{gs0:List Bk}{top0:Bk}{pend0:List IN}{num0:Int}{s0:Nat}{rem:List (List UInt8)}{Q:List DB->Prop}(a7:cx.length+(d+1)<=400): ∀(its:List Itm) {n O U wd:Nat} {ixs E:List IN} {fs:List Bk} {lf:Leaf},(∀it∈its,∃num,ItOK G op ec c num it.mark it.ls it.xs d)->LsSt G op true cx d n O U wd gs0 top0 pend0 c num0 s0 ixs E fs lf->n+(ke gap its).length<=20000->(∀s∈ke gap its,(ctx cx s).length<100000)->
 (∀fs lf,St G op cx (d+1) (n+(ke gap its).length) gs0 top0 (pend0++ [xZ s0 c num0 (ixs++ .mk {kind:=4,width:=wd,s:=U,e:=O} E::sX gap n its)]) fs lf->OkL ec op Q rem (n+(ke gap its).length) fs lf)->OkL ec op Q ((ke gap its).map (ctx cx)++rem) n fs lf:=by
 intro its
 induction its with
 |nil=>
  intro n O U wd ixs E fs lf _ I _ _ g
  exact g _ _ (I.done c1)
 |cons it r b9=>
  intro n O U wd ixs E fs lf b8 I W y g
  obtain⟨num,b4⟩:=b8 it (.head _)
  have b7:=λi hi=>b8 i (lR1 _ hi)
  have V:=sY (mk:=it.mark) b4.ne
  cases gap with
  |false=>
   have b5:ke false (it::r)=itL it.mark it.ls++ke false r:=rfl
   have b6:sX false n (it::r)= .mk {kind:=4,width:=it.mark.length,s:=n+1,e:=n+it.ls.length} (it.xs (n+1))::sX false (n+it.ls.length) r:=rfl
   rw[b6] at g
   rw[b5] at g W y⊢
   rw[lA0,V] at W
   have b3:n+(itL it.mark it.ls++ke false r).length=n+it.ls.length+(ke false r).length:=by rw[lA0,V];omega
   rw[b3] at g
   rw[lV0,lD0]
   refine xg a6 b4 I a7 (by omega) (λs hs=>y s (lD1 _ hs)) λfs lf h=>?_
   refine b9 b7 h (by omega) (λs hs=>y s (lB0 _ hs)) λfs lf h=>g fs lf ?_
   simpa[lD0] using h
  |true=>
   have b5:ke true (it::r)= []::(itL it.mark it.ls++ke true r):=rfl
   have b6:sX true n (it::r)= .mk {kind:=4,width:=it.mark.length,s:=n+2,e:=n+1+it.ls.length} (it.xs (n+2))::sX true (n+1+it.ls.length) r:=rfl
   rw[b6] at g
   rw[b5] at g W y⊢
   rw[lF0,lA0,V] at W
   have b3:n+([]::(itL it.mark it.ls++ke true r)).length=n+1+it.ls.length+(ke true r).length:=by rw[lF0,lA0,V];omega
   rw[b3] at g
   rw[lO1,lR0,lV0,lD0]
   refine AO a6 I a7 (by omega) (y [] (.head _)) λfs lf h=>?_
   refine xg a6 b4 h a7 (by omega) (λs hs=>y s (.tail _ (lD1 _ hs))) λfs lf h=>?_
   refine b9 b7 h (by omega) (λs hs=>y s (.tail _ (lB0 _ hs))) λfs lf h=>g fs lf ?_
   simpa[lD0] using h
theorem ER (b8:op.task=false){ec:ai}{c:UInt8}{num d:Nat}(j0:Utf8.encode (c.toNat:Int)=bs [c])(gap:Bool){mk:List UInt8}{ls:List (List UInt8)}{xs:Nat->List IN}{its:List Itm}(O:ItOK G op ec c num mk ls xs d)(e6: ∀it∈its,∃num,ItOK G op ec c num it.mark it.ls it.xs d):
 BlkP G op ec (itL mk ls++ke gap its) (λn=>xZ n c num (.mk {kind:=4,width:=mk.length,s:=n,e:=n - 1+ls.length} (xs n)::sX gap (n - 1+ls.length) its)) (d+1) (some c):=by
 intro cx root top cf gs junk pend0 rem n Q d0 d3 b9 hr a6 b6 b7 m4 g5 W d1 σ R L b b1 pb p w l n3 f4 g6 c8 c4 V hd I f5 h i4
 obtain⟨c0,r0,g4,g1⟩:=O.hd
 obtain⟨x,r,c5,h5⟩:=O.mkc
 have g2:1<=mk.length:=by rw[c5];simp
 have i8:=sY (mk:=mk) O.ne
 have I:LnR l (mk++ls.headD []):=I
 obtain⟨e0,f1⟩:=O.marks l I
 have g7:LnR l (x::(r++ls.headD [])):=by rw[c5] at I;exact I
 have b4:=LnR.skip I
 have e8:({l with i:=l.i+mk.length}:Ln).has c0 r0:=by rw[g4] at b4;exact b4.has
 have n2:=b6.len
 have n1:gs.length=cf.length:=by have:=congrArg List.length a6;simp at this;omega
 have m5:=b7.len
 have j1:n+(itL mk ls++ke gap its).length=n+ls.length+(ke gap its).length:=by rw[lA0,i8];omega
 rw[j1] at d1 d3
 have c9:=W.le (by omega)
 refine AG b8 f4 b7 (g5 c rfl) h hd (by omega) (ss b6.toS hr a6) g7.has h5 f1 e0 e8 g1 c9.1 c9.2 c4 c8 (by omega) λY d2 w p' U b5 f g lb it a1 a2 a3 k1 k2 k3 k4 f2 b3 g0 a7 g3 h4 h6 h=>?_
 obtain⟨m3,m6,i3,r2,h8⟩:=jR b6 hr a6 k1
 have n0:=k3.len
 have f6:junk= []->b5= []:=by
  rintro rfl
  cases b7
  cases k3
  rfl
 have h7:BDi n (gs++ [U,f]) g []:=by
  have i1:txF (gs++top::junk)=txF gs++(ci top.D++txF junk):=by simp[txF]
  have i2:txF ((gs++ [U,f])++ [g])=txF gs++(ci top.D++ci b5):=by
   rw[show (gs++ [U,f])++ [g]=gs++([U]++([f]++ [g])) by simp,bE,bE,bE,dL,dL,dL,k2,b3,a7,di]
   simp[ci]
  refine⟨λk y=>?_,λk y=>?_,.inr ⟨rfl,?_⟩⟩
  ·simp only[lP0,lW0,lF1,or_false] at y
   rcases y with y|rfl|rfl
   ·exact W.1 k y
   ·have:=W.2.1 top (.head _)
    rw[k2,lA0];omega
   ·rw[b3];simp
  ·obtain rfl:=lN0.1 y
   rw[a7];simp
  ·rw[i2]
   have E:=W.2.2
   rw[i1] at E
   simp only[lA0] at E⊢
   rcases E with E|⟨h0,E⟩
   ·omega
   ·rw[f6 h0]
    simp[ci] at E⊢
    omega
 have e7:p'.pz=kE pb:=by rw[<-c4];exact pk a1
 have h2:Sims gs gs:=by
  obtain⟨_,_,_,_,_,_,f0,_⟩:=h
  exact Sims.refl λk y=>(f0 k (by simp[y])).2.2.2
 refine d2 _ _ _ (CF O (gs0:=gs) (top0:=top) (pend0:=pend0) (num0:=(num:Nat)) (s0:=n+1) (ixs:= []) (items:= []) (dsA:=b5) (rem:=(ke gap its).map (ctx cx)++rem) (Q:=Q) d0 (by omega) (λs hs=>b9 s (lD1 _ hs)) r2 i3 h8 h2 k1.lk k2 k3 f2 (g3.trans V) (by rw[b3];rfl) .nil g0 a7 (h4.trans V) (h6.trans V) g2 h7 (λfs lf h1=>?_) (Runs.of d2 b b1) g6 c8 e7 (a2.trans V) (by rw[a3,hd]) b4 f5 h λw m2 e9 f3 i0 h9 m1 h=>?_)
 ·refine Eu b8 j0 gap d0 its e6 h1 d3 (λs hs=>b9 s (lB0 _ hs)) λfs lf h=>d1 fs lf ?_
  have k0:n+1 - 1=n:=by omega
  simp only[k0]
  exact h
 ·refine i4 w m2 e9 f3 (i0.trans a1) (h9.trans a2) ?_ h
  have l5:(itL mk ls++ke gap its).tail=(itL mk ls).tail++ke gap its:=rfl
  rw[l5,lV0,lD0]
  exact m1

def jl:List (List UInt8)->List (List UInt8 × UInt8)
 | []=> []
 |l::ls=>(l,if ls= [] then 0 else 10)::jl ls

theorem sW: ∀ {ls:List (List UInt8)},ls≠ []->(∀l∈ls,noNL l)->ls.getLast? ≠some []->LinesOf (bG [10] ls) (jl ls)
 | [l],_,h,hl=>by
  have:=LinesOf.last (l:=l) (by rintro rfl;exact hl rfl) (h l (by simp))
  simpa[bG,jl] using this
 |l::m::ls,_,h,hl=>by
  have y:=sW (ls:=m::ls) (by simp) (λx g=>h x (by simp[g])) (by simpa using hl)
  have e:bG [10] (l::m::ls)=l++10::bG [10] (m::ls):=by simp[bG]
  rw[e]
  exact LinesOf.cons (h l (by simp)) y
theorem Fn: ∀ls:List (List UInt8),(jl ls).map Prod.fst=ls
 | []=>rfl
 |l::ls=>by rw[jl,lO1,Fn ls]
theorem St.closeAll (I:op.task=false){d n:Nat}{g:Bk}{xs:List IN}{fs:List Bk}{lf:Leaf}{Q:List DB->Prop}(b8:n<=20000)(a6:g.D= [])(b9: ∀D,TDs G op D xs->Q D)(h:St G op [] d n [] g xs fs lf):qj op fs lf Q:=by
 obtain⟨root,cf,gs,top,junk,d1,c8,pend,rfl,hr,E,c3,b4,d0,b5,c4,c1,b3,d2,c2⟩:=h
 cases b4
 cases c3
 simp only[lT0,lU0,and_true] at E
 subst E
 have y:=c2.le b8
 intro σ R L b pb p w X b6 a7 U h b7
 refine c1.close I σ R L b pb p w X [] root 0 b6 a7 U (by omega) y.1 y.2 h λw p' O l a1 a2 a3 c5 W V c9 h=>?_
 refine b7 w p' O a1 (c5.root hr) (b9 _ ?_) h
 rw[W,b5,a6,lT0,<-b3]
 exact c4.append V
theorem wI (V:op.task=false){ec:ai}{ls:List (List UInt8)}{xs:Nat->List IN}{d:Nat}{bc:Option UInt8}(b7:Dz G op ec ls xs d bc){c0:UInt8}{r0:List UInt8}(U:ls.headD []=c0::r0)(b4:cO c0=false)(hd:d<=400)(c5:ls.length<=20000)(I: ∀l∈ls,noNL l/\0 ∉ l/\l.length<100000)(W:ls.getLast? ≠some [])(a6:(bG [10] ls).length<1000000):
 vW [ec] op (bG [10] ls) (λy=>y=xs 1):=by
 have a7:ls≠ []:=by rintro rfl;cases U
 refine yF (G:=G) (sW a7 (λl O=>(I l O).1) W) (λh0=>?_) a6 (λrem n fs lf=>OkL ec op (λD=> ∃y,po G D y/\y=xs 1/\ ∀x∈ci D,jL none [] op x.raw (G x.raw)) (rem.map Prod.fst) n fs lf) ?_ ?_ ?_
 ·have b3: ∀ls:List (List UInt8),(∀l∈ls,0 ∉ l)->(0:UInt8) ∉ bG [10] ls:=by
   intro ls
   induction ls with
   |nil=>intro _ h;simp[bG] at h
   |cons l ls b9=>
    intro h g
    cases ls with
    |nil=>simp[bG] at g;exact h l (by simp) g
    |cons m ls=>
     have e:bG [10] (l::m::ls)=l++10::bG [10] (m::ls):=by simp[bG]
     rw[e] at g
     simp only[lP0,lW0] at g
     rcases g with g|g|g
     ·exact h l (by simp) g
     ·cases g
     ·exact b9 (λx b8=>h x (.tail _ b8)) g
  exact b3 ls (λl O=>(I l O).2.1) h0
 ·intro root hr E
  show OkL ec op _ ((jl ls).map Prod.fst) 0 [root] .none
  rw[Fn]
  have:=Fd b7 U b4 (cx:= []) (root:=root) (top:=root) (cf:= []) (gs:= []) (junk:= []) (pend0:= []) (rem:= []) (n:=0) (Q:=λD=> ∃y,po G D y/\y=xs 1/\ ∀x∈ci D,jL none [] op x.raw (G x.raw)) (by simpa using hd) (by omega) (λs hs=>(I s hs).2.2) hr rfl .nil .none (by simp) (.inl rfl) (λc _=> .inl rfl) ⟨λf c2=>by obtain rfl:=lN0.1 c2;rw[E];simp,by simp[txF,ci,E]⟩ ?_
  ·have e:ls.map (ctx [])=ls:=by
    have:(ctx []:List UInt8->List UInt8)=id:=rfl
    rw[this,List.map_id]
   rw[e,lG0] at this
   exact this
  ·intro c4 c3 b6 c1 fs lf b5
   cases b6
   show qj op fs lf _
   refine b5.closeAll V (by omega) (by rw[c1.2.2.1,E]) λD E=>⟨_,E.trees,rfl,E.txs⟩
 ·intro l nl rem n fs lf h
  exact h nl
 ·intro n fs lf h
  exact h
theorem Az {ec:ai}{text:List UInt8}{I:List IN->Prop}(U:vW [ec] op text I)(O:ec∈L)(h:Sat σ w L)(a6: ∀w u M s e xs,NodeAt (.mk {kind:=1,s:=s,e:=e} xs) u M->I xs->Sat σ w (M++L)->R (hQ u.V) w):
 callE P nA #[optV op,hX (bs text)] R w:=by
 refine nJ.sound ?_
 refine Sat.bx h λb w h=>?_
 refine Sat.bx h λy w h=>?_
 have ld: ∀(k:Nat) (v:Bool),([hV op.strike,hV op.task,hV op.auto,hV op.http,hV op.table,hV op.dot,hV op.dash,hV op.quote,hV op.ids,hV op.emoji])[k]? =some (hV v)->w.cell? (hZ b k)=some (hV v):=λk v hv=>Sat.ld h (.tail _ (.head _)) hv
 refine⟨_,ld 0 _ rfl,_,ld 1 _ rfl,_,ld 2 _ rfl,_,ld 3 _ rfl,_,ld 4 _ rfl,_,ld 5 _ rfl,_,ld 6 _ rfl,_,ld 7 _ rfl,_,ld 8 _ rfl,_,ld 9 _ rfl,?_⟩
 refine Ce (o:=op) h λw pb h=>⟨_,rfl,?_⟩
 refine lL.sound ?_
 refine U σ _ _ w pb (by simp[O]) h (.head _) λw db k s e xs g W b4 h=>⟨_,_,rfl,_,rfl,?_⟩
 refine W σ _ _ w h λw u M a7 h=>yy ?_
 generalize E:((b,cel [hV op.strike,hV op.task,hV op.auto,hV op.http,hV op.table,hV op.dot,hV op.dash,hV op.quote,hV op.ids,hV op.emoji] fp):ai)=ob at h
 have h:Sat σ w (M++(g++(op.at pb::(y,cel (N16.C {}).toList aj)::ob::L))):=by rw[<-E];rw[<-E] at h;exact h
 have h:Sat σ w ((y,cel (N16.C {}).toList aj)::(M++(g++(op.at pb::ob::L)))):=h.re
 refine h.st16 0 {} u λw h=>h.ldB16 u (.head _) ?_
 refine a6 w u M s e xs a7 b4 ?_
 exact h.less ((y,cel u.C.toList aj)::op.at pb::ob::g)

def Bl (g:List UInt8):Nat:=g.foldl (λa c=>a*10+(c.toNat - 48)) 0
theorem wN (g:List UInt8)(c:UInt8):Bl (g++ [c])=Bl g*10+(c.toNat - 48):=by simp[Bl]
theorem Gc: ∀(n:Nat) (g:List UInt8),g.length=n->(∀c∈g,DN c=true)->Bl g<10 ^ n:=by
 intro n
 induction n with
 |zero=>intro g h _;obtain rfl:=lB1 h;decide
 |succ n I=>
  intro g h hd
  obtain⟨m,c,rfl⟩: ∃m c,g=m++ [c]:=by
   have y:g≠ []:=by intro h0;rw[h0] at h;simp at h
   exact⟨g.dropLast,g.getLast y,(lX3 y).symm⟩
  have U:=I m (by simpa using h) λx O=>hd x (by simp[O])
  have E:=hd c (by simp)
  simp only[DN,lL1,decide_eq_true_eq] at E
  rw[wN,Nat.pow_succ]
  omega
theorem B4 {b b0 b1 g num:Nat}{q:Option Addr}{l t1:Ln}{c d:UInt8}{r:List UInt8}(h:Sat σ w (t1.at b0::(b1,cel [kT q] ah)::l.at b::L))(E:t1.has 32 (d::r))(hd:cO d=false)(W:g<=90)(O: ∀w b2 (t':Ln),Sat σ w (({t1 with i:=t1.i+1}:Ln).at b0::(b1,cel [kT q] ah)::t'.at b2::l.at b::L)->am.k8 R b1 b0 ((g+1:Nat):Int) (c.toNat:Int) (num:Nat) w):
 am.k3 R b1 b0 (g:Nat) (c.toNat:Int) (num:Nat) w:=by
 have y:=E.next
 generalize U:({t1 with i:=t1.i+1}:Ln)=t2 at y O
 have I: ∀e,t2.trimSp 1 1 e=none:=by intro e;unfold Ln.trimSp;rw[y.tsGo hd];rfl
 refine YtendaipfdnhnaaaGreatDoor.trimSp_ok (min:=1) (max:=1) h E.ok (by decide) (by decide) ?_
 rw[E.sp1,U]
 intro w h
 refine⟨_,rfl,af rfl ?_⟩
 refine⟨_,h.ldA,?_⟩
 refine⟨_,h.ldA,?_⟩
 refine⟨_,h.ldA,?_⟩
 refine⟨_,h.ldA,?_⟩
 refine⟨_,h.ldA,?_⟩
 refine Sat.bx h λb2 w h=>?_
 refine h.stA 0 λw h=>?_
 refine h.stA 0 λw h=>?_
 refine h.stA 0 λw h=>?_
 refine h.stA 0 λw h=>?_
 refine h.stA 0 λw h=>?_
 have h:Sat σ w (t2.at b2::t2.at b0::(b1,cel [kT q] ah)::l.at b::L):=h
 rw[aN (by omega)]
 intro X V
 refine V _ _ _ _ _ _ _ _ _ (ag (by decide) ?_)
 refine YtendaipfdnhnaaaGreatDoor.trimSp_ok (min:=1) (max:=1) h y.ok (by decide) (by decide) ?_
 rw[I]
 intro w h
 refine⟨_,rfl,af rfl ?_⟩
 unfold am.k6
 refine YtendaipfdnhnaaaGreatDoor.trimSp_ok (min:=1) (max:=1) h y.ok (by decide) (by decide) ?_
 rw[I]
 intro w h
 refine⟨_,rfl,ag rfl ?_⟩
 refine⟨_,h.ldA,?_⟩
 refine⟨_,h.ldA,?_⟩
 refine⟨_,h.ldA,?_⟩
 refine⟨_,h.ldA,?_⟩
 refine⟨_,h.ldA,?_⟩
 refine h.stA 1 λw h=>?_
 refine h.stA 1 λw h=>?_
 refine h.stA 1 λw h=>?_
 refine h.stA 1 λw h=>?_
 refine h.stA 1 λw h=>?_
 rw[show ((g+1:Nat):Int)+0=((g+1:Nat):Int) by omega,i64_in _ (by omega)]
 have h:Sat σ w (t2.at b2::t2.at b0::(b1,cel [kT q] ah)::l.at b::L):=h
 exact O w b2 t2 (h.re)
theorem Ln.has.skip {l:Ln}{x:UInt8}{s:List UInt8}(h:l.has x s): ∀(m:Nat) {g:UInt8} {u:List UInt8},(x::s).drop m=g::u->({l with i:=l.i+m}:Ln).has g u
 |0,g,u,he=>by
  simp only[lM2,lU0] at he
  obtain⟨rfl,rfl⟩:=he
  exact h
 |m+1,g,u,he=>by
  have O:m<(x::s).length:=by
   rcases lN4 m (x::s).length with I|I
   ·exact I
   ·rw[lE2 (by omega)] at he;cases he
  have E:(x::s).drop m=(x::s)[m]::(x::s).drop (m+1):=lI1 O
  rw[he] at E
  have:=(Ln.has.skip h m E).next
  simpa[lC3] using this
theorem Ln.has.numberM {l:Ln}{x mk:UInt8}{g r:List UInt8}{d:UInt8}(c9:mk=46\/mk=41)(E:l.has x (g++mk::32::d::r))(e9:l.text.length<4611686018427387904)(U: ∀c∈x::g,DN c=true)(e3:g.length<=8)(hd:cO d=false):
 qh l mk (Bl (x::g)) (g.length+3) {l with i:=l.i+(g.length+3)}/\({l with i:=l.i+(g.length+3)}:Ln).has d r:=by
 have b6:x::(g++mk::32::d::r)=(x::g)++mk::32::d::r:=rfl
 have a7:({l with i:=l.i+(g.length+2)}:Ln).has 32 (d::r):=E.skip (g.length+2) (by rw[b6,lV5,lE2 (by simp),lF0,show g.length+2 - (g.length+1)=1 by omega];rfl)
 have b3:({l with i:=l.i+(g.length+3)}:Ln).has d r:=a7.next
 refine⟨⟨b3.ok,by omega,?_⟩,b3⟩
 intro σ w L R b q h d0
 have e5:(x::g).length=g.length+1:=rfl
 have a6:=U x (by simp)
 simp only[DN,lL1,decide_eq_true_eq] at a6
 have c4:cO x=false:=by
  simp only[cO,lK2,beq_eq_false_iff_ne,ne_eq]
  constructor<;>(rintro rfl;revert a6;decide)
 have V:=E.ok
 have e7:l.text.length=l.i+(g.length+1+(3+r.length)):=by have:=congrArg List.length E.tx;have:=E.lt;simp at*;omega
 have W: ∀j,l.text.getD (l.i+j) 0=((x::g)++mk::32::d::r).getD j 0:=by intro j;rw[<-b6,<-E.tx,lQ0,lQ0,lL4]
 refine am.sound ?_
 refine Sat.bx h λb1 w h=>?_
 repeat (first|refine aa ?_|refine h.tk λw h=>?_|refine⟨_,h.ldA,?_⟩|refine⟨_,_,_,h.ldA,?_⟩|refine h.stA 0 λw h=>?_|refine h.stA 1 λw h=>?_|refine h.stA 2 λw h=>?_|refine h.stA 3 λw h=>?_|refine h.stA 4 λw h=>?_|refine h.stA 5 λw h=>?_|refine h.stA 6 λw h=>?_|refine h.bx λb0 w h=>?_)
 have h:Sat σ _ (l.at b0::(b1,cel [kT q] ah)::l.at b::L):=h
 intro X d3
 refine d3 _ _ _ _ _ (ag (by simp) ?_)
 refine YtendaipfdnhnaaaGreatDoor.trimSp_ok (min:=1) (max:=1) h V (by decide) (by decide) ?_
 have b8:l.trimSp 1 1 false=none:=by unfold Ln.trimSp;rw[E.tsGo c4];rfl
 rw[b8]
 intro w h
 refine⟨_,rfl,ag rfl ?_⟩
 refine mi h (by first|assumption|(repeat (first|exact .head _|apply List.Mem.tail))) V λw h=>⟨_,rfl,?_⟩
 rw[E.peek]
 have ne: ∀(d:UInt8) (n:Int),(d.toNat:Int)=n->(d.toNat<48\/57<d.toNat)->(((x.toNat:Nat):Int)==n)=false:=by
  intro d n hd e8
  refine uL hd ?_
  rintro rfl;omega
 have k4:am.k4 R b1 b0 0 0 true w:=by
  refine ag rfl ?_
  refine⟨_,h.ldA,?_⟩
  intro Y b4
  have c3: ∀k j w,j+k=(x::g).length->Sat σ w (l.at b0::(b1,cel [kT q] ah)::l.at b::L)->Y b1 b0 0 ((Bl ((x::g).take j):Nat):Int) ((l.i+j:Nat):Int) w:=by
   intro k
   induction k with
   |zero=>
    intro j w b5 h
    have c5:j=g.length+1:=by simpa using b5
    refine b4 _ _ _ _ _ _ ?_
    refine⟨_,h.ldA,?_⟩
    refine af (by rw[aJ];simp;omega) ?_
    refine⟨_,h.ldA,?_⟩
    refine⟨by omega,by rw[aJ];omega,?_⟩
    rw[pj,W]
    have I:((x::g)++mk::32::d::r).getD j 0=mk:=by
     rw[lQ0,lH0 (by simp;omega),lF0,show j - (g.length+1)=0 by omega];rfl
    rw[I]
    refine ag (by rcases c9 with rfl|rfl<;>rfl) ?_
    refine⟨_,h.ldA,?_⟩
    rw[aN (by omega)]
    refine h.stA 0 λw h=>?_
    rw[lC2 (by simp;omega)]
    have d1:i64.wrap (0+i64.wrap (((l.i+j+1:Nat):Int) - ((l.i:Nat):Int)))=((g.length+2:Nat):Int):=by
     rw[i64_in (_ - _) (by omega),i64_in _ (by omega)];omega
    rw[d1]
    have h:Sat σ w (({l with i:=l.i+(g.length+2)}:Ln).at b0::(b1,cel [kT q] ah)::l.at b::L):=by
     rw[c5,show l.i+(g.length+1)+1=l.i+(g.length+2) by omega] at h
     exact h
    refine B4 (c:=mk) (l:=l) h a7 hd (by omega) λw b2 t' h=>?_
    exact d0 w b0 b1 b2 t' h
   |succ k e0=>
    intro j w b5 h
    have y:j<(x::g).length:=by omega
    have b9:j<=8:=by simp at y;omega
    refine b4 _ _ _ _ _ _ ?_
    refine⟨_,h.ldA,?_⟩
    refine af (by rw[aJ];simp at y;simp;omega) ?_
    refine⟨_,h.ldA,?_⟩
    refine⟨by omega,by rw[aJ];simp at y;omega,?_⟩
    rw[pj,W]
    have I:((x::g)++mk::32::d::r).getD j 0=(x::g)[j]:=by rw[lQ0,lM0 y,lI0 y];rfl
    rw[I]
    have c2:(x::g).take (j+1)=(x::g).take j++ [(x::g)[j]]:=lH1 y
    have b7:=U _ (lQ1 y)
    have c1:=Gc j ((x::g).take j) (by simp at y⊢;omega) λc hc=>U c (lX4 hc)
    have e4:Bl ((x::g).take j)<10 ^ 8:=Nat.lt_of_lt_of_le c1 (Nat.pow_le_pow_right (by decide) b9)
    generalize (x::g)[j]=dg at*
    have O:=b7
    simp only[DN,lL1,decide_eq_true_eq] at O
    refine af ?_ (af (by simp;omega) ?_)
    ·have a1:=u8b dg 46 46 rfl
     have a2:=u8b dg 41 41 rfl
     rw[a1,a2]
     have b1:dg≠46:=by rintro rfl;revert O;decide
     have b2:dg≠41:=by rintro rfl;revert O;decide
     simp[b1,b2]
    unfold am.k9
    refine⟨_,h.ldA,?_⟩
    refine af ?_ ?_
    ·rw[i64_in _ (by omega)];simp;omega
    rw[aN (by omega),show l.i+j+1=l.i+(j+1) by omega]
    have d2:i64.wrap (i64.wrap (i64.wrap (((Bl ((x::g).take j):Nat):Int)*10)+i64.wrap ((dg.toNat:Nat):Int)) - 48)=((Bl ((x::g).take (j+1)):Nat):Int):=by
     have e6:(10:Nat) ^ 8=100000000:=rfl
     rw[c2,wN]
     rw[i64_in (_*10) (by omega),i64_in ((dg.toNat:Nat):Int) (by omega),i64_in (_+_) (by omega),i64_in _ (by omega)]
     omega
    rw[d2]
    exact e0 (j+1) w (by omega) h
  have:=c3 (x::g).length 0 w (by simp) h
  rw[lN1] at this;exact this
 refine af (ne 45 45 rfl (by decide)) (af (ne 42 42 rfl (by decide)) ?_)
 rw[ne 43 43 rfl (by decide)]
 refine af rfl ?_
 have c8:x.toNat=48\/x.toNat=49\/x.toNat=50\/x.toNat=51\/x.toNat=52\/x.toNat=53\/x.toNat=54\/x.toNat=55\/x.toNat=56\/x.toNat=57:=by omega
 rcases c8 with e|e|e|e|e|e|e|e|e|e<;>rw[e]
 ·exact ag rfl k4
 ·exact af rfl (ag rfl k4)
 ·exact af rfl (af rfl (ag rfl k4))
 ·exact af rfl (af rfl (af rfl (ag rfl k4)))
 ·exact af rfl (af rfl (af rfl (af rfl (ag rfl k4))))
 ·exact af rfl (af rfl (af rfl (af rfl (af rfl (ag rfl k4)))))
 ·exact af rfl (af rfl (af rfl (af rfl (af rfl (af rfl (ag rfl k4))))))
 ·exact af rfl (af rfl (af rfl (af rfl (af rfl (af rfl (af rfl (ag rfl k4)))))))
 ·exact af rfl (af rfl (af rfl (af rfl (af rfl (af rfl (af rfl (af rfl (ag rfl k4))))))))
 ·exact af rfl (af rfl (af rfl (af rfl (af rfl (af rfl (af rfl (af rfl (af rfl (by exact k4)))))))))

theorem Ln.has.noHR2 {l:Ln}{c d:UInt8}{r m r2:List UInt8}(h:l.has c r)(hc:cO c=false)(y:c::r=m++d::r2)(hd:cO d=false)(g:d≠c):l.isHR=false:=by
 unfold Ln.isHR
 simp only[h.lead hc 2,h.peek]
 split
 ·exact Ln.hrGo_has _ _ l h.ok h.sp ⟨m,by rw[h.tx,y]⟩ g hd
 ·rfl
theorem Ln.has.noHR3 {l:Ln}{c:UInt8}{r:List UInt8}(h:l.has c r)(hc:cO c=false)(g:c≠42/\c≠45/\c≠95):l.isHR=false:=by
 unfold Ln.isHR
 simp only[h.lead hc 2,h.peek]
 rw[if_neg]
 rintro (rfl|rfl|rfl)
 ·exact absurd rfl (by first|exact g.1|exact g.2.1|exact g.2.2)
 ·exact absurd rfl (by first|exact g.1|exact g.2.1|exact g.2.2)
 ·exact absurd rfl (by first|exact g.1|exact g.2.1|exact g.2.2)
def inkB (s:List UInt8):Prop:= ∃d∈s,cO d=false/\d≠45
theorem zJ {c c0:UInt8}{r0:List UInt8}(hc:c=45\/c=43)(E:cO c0=false)(y:inkB (c0::r0)): ∀l,LnR l ([c,32]++(c0::r0))->qh l c 0 2 {l with i:=l.i+2}/\l.isHR=false:=by
 intro l g
 have g:LnR l (c::32::c0::r0):=g
 have U:cO c=false:=by rcases hc with rfl|rfl<;>decide
 refine⟨Ln.marks g.ok (g.has.bullet (by rcases hc with rfl|rfl<;>simp) E),?_⟩
 rcases hc with rfl|rfl
 ·obtain⟨d,hd,I,O⟩:=y
  obtain⟨a,b,e⟩:=lT3 hd
  exact g.has.noHR2 (by decide) (m:=45::32::a) (d:=d) (r2:=b) (by rw[e];rfl) I O
 ·exact g.has.noHR3 (by decide) (by decide)
theorem zI {x mk c0:UInt8}{g r0:List UInt8}(V:mk=46\/mk=41)(I: ∀c∈x::g,DN c=true)(O:g.length<=8)(U:cO c0=false): ∀l,LnR l ((x::(g++ [mk,32]))++(c0::r0))->qh l mk (Bl (x::g)) (g.length+3) {l with i:=l.i+(g.length+3)}/\l.isHR=false:=by
 intro l y
 have e:(x::(g++ [mk,32]))++(c0::r0)=x::(g++mk::32::c0::r0):=by simp
 rw[e] at y
 have hd:=I x (.head _)
 have E:cO x=false/\x≠42/\x≠45/\x≠95:=by
  refine⟨?_,?_,?_,?_⟩
  ·simp only[cO,lK2,beq_eq_false_iff_ne,ne_eq]
   constructor<;>(rintro rfl;revert hd;decide)
  all_goals (rintro rfl;revert hd;decide)
 exact⟨(y.has.numberM V y.ok.len I O U).1,y.has.noHR3 E.1 E.2⟩

inductive BN where
 |para (ls:List LT)
 |head (lv:Nat) (x:LT)
 |hr
 |code (w:List UInt8) (ls:List (Nat × List UInt8))
 |setx (c:UInt8) (ls:List LT)
 |quote (bs:List BN)
 |list (c:UInt8) (num:Nat) (gap:Bool) (its:List (List BN))
def DO (n:Nat):List UInt8:=if n<10 then [UInt8.ofNat (48+n)] else [UInt8.ofNat (48+n/10),UInt8.ofNat (48+n%10)]
def mkI (c:UInt8)(num:Nat):List UInt8:=if c=46\/c=41 then DO num++ [c,32] else [c,32]
mutual
def bg:BN->List (List UInt8)
 | .para ls=>ls.map cu
 | .head lv x=> [hN lv 35++32::cu x]
 | .hr=> [[42,42,42]]
 | .code w ls=>(96::96::96::w)::(ls.map qP++ [[96,96,96]])
 | .setx c ls=>ls.map cu++ [[c,c,c]]
 | .quote bs=>(aE bs).tail.map λs=>62::32::s
 | .list c num gap its=>dB c gap num its
def aE:List BN->List (List UInt8)
 | []=> []
 |b::r=> []::(bg b++aE r)
def dB (c:UInt8)(gap:Bool)(num:Nat):List (List BN)->List (List UInt8)
 | []=> []
 |it::r=>itL (mkI c num) (aE it).tail++d9 c gap (num+1) r
def d9 (c:UInt8)(gap:Bool)(num:Nat):List (List BN)->List (List UInt8)
 | []=> []
 |it::r=>if gap then []::(itL (mkI c num) (aE it).tail++d9 c gap (num+1) r) else itL (mkI c num) (aE it).tail++d9 c gap (num+1) r
end
mutual
def iz (n:Nat):BN->IN
 | .para ls=> .mk {kind:=6,s:=n,e:=n+ls.length - 1} (eC (tkG Tk.out [] (fg ls)))
 | .head lv x=> .mk {kind:=5,num:=(lv:Nat),s:=n,e:=n} (eC (tkG Tk.out [] (d4 x)))
 | .hr=> .mk {kind:=9,mark:= [42,42,42],s:=n,e:=n} []
 | .code w ls=> .mk {kind:=7,text:=dI (ls.map qP),title:=w,mark:= [96,96,96],s:=n,e:=n+ls.length+1} []
 | .setx c ls=> .mk {kind:=5,num:=(Bm c:Nat),s:=n,e:=n+ls.length} (eC (tkG Tk.out [] (fg ls)))
 | .quote bs=> .mk {kind:=2,s:=n,e:=n+(aE bs).tail.length - 1} (eO n bs)
 | .list c num gap its=>xZ n c (num:Nat) (kA c gap num n its)
def eO (n:Nat):List BN->List IN
 | []=> []
 |b::r=>iz n b::eO (n+(bg b).length+1) r
def kA (c:UInt8)(gap:Bool)(num n:Nat):List (List BN)->List IN
 | []=> []
 |it::r=> .mk {kind:=4,width:=(mkI c num).length,s:=n,e:=n - 1+(aE it).tail.length} (eO n it)::ja c gap (num+1) (n - 1+(aE it).tail.length) r
def ja (c:UInt8)(gap:Bool)(num n:Nat):List (List BN)->List IN
 | []=> []
 |it::r=>if gap then .mk {kind:=4,width:=(mkI c num).length,s:=n+2,e:=n+1+(aE it).tail.length} (eO (n+2) it)::ja c gap (num+1) (n+1+(aE it).tail.length) r else .mk {kind:=4,width:=(mkI c num).length,s:=n+1,e:=n+(aE it).tail.length} (eO (n+1) it)::ja c gap (num+1) (n+(aE it).tail.length) r
end
def bcB:BN->Option UInt8
 | .list c _ _ _=>some c
 |_=>none
def okLs (ls:List LT):Prop:=ls≠ []/\ls.length<=3/\ ∀x∈ls,wV x/\x.2.length<=2
mutual
def okB:BN->Prop
 | .para ls=>okLs ls
 | .head lv x=>(1<=lv/\lv<=6)/\wV x/\x.2.length<=2
 | .hr=>True
 | .code w ls=>(∀c∈w,Bn c=true)/\w.length<=100/\ls≠ []/\ls.length<=3/\ ∀x∈ls,x.1<=2/\WdP x.2
 | .setx c ls=>(c=61\/c=45)/\okLs ls
 | .quote bs=>bs≠ []/\okS bs
 | .list c num gap its=>(c=45\/c=43\/c=46\/c=41)/\num+its.length<=90/\its≠ []/\okJ its
def okS:List BN->Prop
 | []=>True
 |b::r=>okB b/\(∀c,(r.head?.bind bcB)=some c->bcB b≠some c)/\okS r
def okJ:List (List BN)->Prop
 | []=>True
 |it::r=>it≠ []/\okS it/\okJ r
end
mutual
def dpB:BN->Nat
 | .quote bs=>dpT bs+1
 | .list _ _ _ its=>dpJ its+1
 |_=>0
def dpT:List BN->Nat
 | []=>0
 |b::r=>max (dpB b) (dpT r)
def dpJ:List (List BN)->Nat
 | []=>0
 |it::r=>max (dpT it) (dpJ r)
end
theorem BN.ind {P:BN->Prop}{S:List BN->Prop}{J:List (List BN)->Prop}(b4: ∀ls,P (.para ls))(W: ∀lv x,P (.head lv x))(V:P .hr)(b3: ∀w ls,P (.code w ls))(a6: ∀c ls,P (.setx c ls))(b5: ∀bs,S bs->P (.quote bs))(a7: ∀c num gap its,J its->P (.list c num gap its))(s0:S [])(I: ∀b r,P b->S r->S (b::r))(E:J [])(U: ∀it r,S it->J r->J (it::r)):(∀b,P b)/\(∀l,S l)/\ ∀l,J l:=by
 have O: ∀b,P b:=λb=>BN.rec (motive_1:=P) (motive_2:=S) (motive_3:=J) b4 W V b3 a6 (λbs h=>b5 bs h) (λc num gap its h=>a7 c num gap its h) s0 (λb r h y=>I b r h y) E (λit r h y=>U it r h y) b
 have hs: ∀l,S l:=by
  intro l
  induction l with
  |nil=>exact s0
  |cons b r g=>exact I b r (O b) g
 refine⟨O,hs,λl=>?_⟩
 induction l with
 |nil=>exact E
 |cons it r g=>exact U it r (hs it) g

theorem FP {t:Tk}(h:GR t):t.B.length<=304:=by
 cases t with
 |wd s=>have:=h.len;simp only[Tk.B];omega
 |sp=>exact h.elim
 |nl=>exact h.elim
 |em k s=>have y:=h.1.len;have g:=h.2;simp only[Tk.B,lA0,lH2];omega
 |cd s=>have:=h.len;simp only[Tk.B,lA0,lF0,lK1];omega
 |lk s d=>have y:=h.1.len;have g:=h.2.len;simp only[Tk.B,lA0,lF0,lK1];omega
 |es s=>have:=h.len;simp only[Tk.B,lF0];omega
theorem xe: ∀l:List Tk,(∀t∈l,GR t)->(tkB (qB l)).length<=305*l.length
 | [],_=>by simp[qB,tkB]
 |t::l,h=>by
  have E:=xe l λx g=>h x (.tail _ g)
  have ht:=FP (h t (.head _))
  have e:qB (t::l)= .sp::t::qB l:=rfl
  rw[e,cv,cv]
  have y:Tk.sp.B.length=1:=rfl
  simp only[lA0,lF0,y]
  omega
theorem jg {x:LT}(h:wV x)(y:x.2.length<=2):(cu x).length<=710:=by
 have E:=h.1.len
 have g:=xe x.2 h.2
 have e:cu x=x.1++tkB (qB x.2):=rfl
 rw[e,lA0]
 omega
theorem qA: ∀ls:List LT,(∀x∈ls,wV x/\x.2.length<=2)->(bG [10] (ls.map cu)).length<=711*ls.length
 | [],_=>by simp[bG]
 | [x],h=>by
  have:=jg (h x (.head _)).1 (h x (.head _)).2
  simp[bG];omega
 |x::y::r,h=>by
  have g:=qA (y::r) λz hz=>h z (.tail _ hz)
  have:=jg (h x (.head _)).1 (h x (.head _)).2
  have e:bG [10] ((x::y::r).map cu)=cu x++10::bG [10] ((y::r).map cu):=by simp[bG]
  rw[e]
  simp only[lA0,lF0] at g⊢
  omega
theorem okLs.len {ls:List LT}(h:okLs ls):(bG [10] (ls.map cu)).length<200000:=by
 have:=qA ls h.2.2
 have:=h.2.1
 omega
theorem ou {n:Nat}(h:n<100): ∃x g,DO n=x::g/\(∀c∈x::g,DN c=true)/\g.length<=1/\Bl (x::g)=n:=by
 have O:(List.range 100).all (λn=>(DO n).all DN && decide (DO n≠ []) && decide ((DO n).length<=2) && decide (Bl (DO n)=n))=true:=by kernel_rfl
 have:=lD2.1 O n (lV2.2 h)
 simp only[lL1,decide_eq_true_eq,lD2] at this
 obtain⟨⟨⟨I,U⟩,y⟩,E⟩:=this
 obtain⟨x,g,e⟩:=lZ0 U
 rw[e] at I y E
 exact⟨x,g,e,I,by simpa using y,E⟩
theorem uE {c:UInt8}(h:DN c=true):cO c=false/\c≠45/\c≠62/\c≠35/\c≠10/\c≠13/\c≠0:=by
 have:=lD2.1 (show (List.range 256).all (λn=> !(DN (UInt8.ofNat n))||(!cO (UInt8.ofNat n) && UInt8.ofNat n !=45 && UInt8.ofNat n !=62 && UInt8.ofNat n !=35 && UInt8.ofNat n !=10 && UInt8.ofNat n !=13 && UInt8.ofNat n !=0))=true by kernel_rfl) c.toNat (lV2.2 c.toNat_lt)
 rw[lZ3,h] at this
 simpa[and_assoc] using this
def Hd (ls:List (List UInt8)):Prop:= ∃c0 r0 rest,ls=(c0::r0)::rest/\cO c0=false/\inkB (c0::r0)
theorem Gu {x:LT}(h:wV x)(rest:List (List UInt8)):Hd (cu x::rest):=by
 obtain⟨c,r,e,hc⟩:=qz h
 obtain⟨_,g,_,y,_⟩:=rP hc
 exact⟨c,r,rest,by rw[e],g,c,.head _,g,y⟩
theorem zY {ls:List LT}(h:okLs ls)(rest:List (List UInt8)):Hd (ls.map cu++rest):=by
 obtain⟨x,r,rfl⟩:=lZ0 h.1
 exact Gu (h.2.2 x (.head _)).1 (r.map cu++rest)
theorem Hd.append {a:List (List UInt8)}(h:Hd a)(b:List (List UInt8)):Hd (a++b):=by
 obtain⟨c0,r0,rest,rfl,y,g⟩:=h
 exact⟨c0,r0,rest++b,rfl,y,g⟩
theorem Hd.item {mk:List UInt8}{x:UInt8}{r:List UInt8}{ls:List (List UInt8)}(h:Hd ls)(O:mk=x::r)(U:cO x=false)(rest:List (List UInt8)):Hd (itL mk ls++rest):=by
 obtain⟨c0,r0,g,rfl,V,d,E,y,I⟩:=h
 subst O
 refine⟨x,r++(c0::r0),g.map (CX.pre (.i (x::r).length))++rest,rfl,U,d,?_,y,I⟩
 rw[<-lR0]
 exact lB0 _ E
theorem wS {c:UInt8}{num:Nat}(hc:c=45\/c=43\/c=46\/c=41)(O:num<100): ∃x r,mkI c num=x::r/\xS x/\(mkI c num).length<100:=by
 rcases hc with rfl|rfl|rfl|rfl
 ·exact⟨45,[32],rfl,by unfold xS;decide,by show 2<100;decide⟩
 ·exact⟨43,[32],rfl,by unfold xS;decide,by show 2<100;decide⟩
 all_goals
  obtain⟨x,a6,e,I,V,U⟩:=ou O
  obtain⟨g,W,E,y,_⟩:=uE (I x (.head _))
  refine⟨x,_,by unfold mkI;rw[if_pos (by decide),e];rfl,⟨g,E,y⟩,?_⟩
  unfold mkI
  rw[if_pos (by decide),e]
  simp only[lA0,lF0,lK1]
  omega
theorem Cn {c:UInt8}{num:Nat}(hc:c=45\/c=43\/c=46\/c=41)(V:num<100){ls:List (List UInt8)}(h:Hd ls): ∀l,LnR l (mkI c num++ls.headD [])->qh l c ((if c=46\/c=41 then num else 0:Nat)) (mkI c num).length {l with i:=l.i+(mkI c num).length}/\l.isHR=false:=by
 obtain⟨c0,r0,rest,rfl,y,U⟩:=h
 rcases hc with rfl|rfl|rfl|rfl
 ·exact zJ (.inl rfl) y U
 ·exact zJ (.inr rfl) y U
 ·obtain⟨x,g,e,I,W,E⟩:=ou V
  have em:mkI 46 num=x::(g++ [46,32]):=by unfold mkI;rw[if_pos (by decide),e];rfl
  have O:(mkI 46 num).length=g.length+3:=by rw[em];simp
  rw[if_pos (by decide),O,em,<-E]
  exact zI (.inl rfl) I (by omega) y
 ·obtain⟨x,g,e,I,W,E⟩:=ou V
  have em:mkI 41 num=x::(g++ [41,32]):=by unfold mkI;rw[if_pos (by decide),e];rfl
  have O:(mkI 41 num).length=g.length+3:=by rw[em];simp
  rw[if_pos (by decide),O,em,<-E]
  exact zI (.inr rfl) I (by omega) y
theorem o6 (b:BN)(r:List BN):(aE (b::r)).tail=bg b++aE r:=rfl
theorem uA:(∀b,okB b->Hd (bg b))/\(∀l,okS l->l≠ []->Hd (aE l).tail)/\ ∀l,okJ l-> ∀it∈l,it≠ []/\okS it/\Hd (aE it).tail:=by
 refine BN.ind (P:=λb=>okB b->Hd (bg b)) (S:=λl=>okS l->l≠ []->Hd (aE l).tail) (J:=λl=>okJ l-> ∀it∈l,it≠ []/\okS it/\Hd (aE it).tail) ?_ ?_ ?_ ?_ ?_ ?_ ?_ ?_ ?_ ?_ ?_
 ·intro ls h
  have:=zY h []
  rwa [lG0] at this
 ·intro lv x ⟨⟨W,V⟩,b4,_⟩
  obtain⟨k,rfl⟩: ∃k,lv=k+1:=⟨lv - 1,by omega⟩
  exact⟨35,hN k 35++32::cu x,[],rfl,by decide,35,.head _,by decide,by decide⟩
 ·intro _
  exact⟨42,[42,42],[],rfl,by decide,42,.head _,by decide,by decide⟩
 ·intro w ls _
  exact⟨96,96::96::w,_,rfl,by decide,96,.head _,by decide,by decide⟩
 ·intro c ls h
  exact zY h.2 _
 ·intro bs y h
  obtain⟨c0,r0,rest,e,W,V⟩:=y h.2 h.1
  refine⟨62,32::c0::r0,rest.map λs=>62::32::s,?_,by decide,62,.head _,by decide,by decide⟩
  show (aE bs).tail.map _=_
  rw[e];rfl
 ·intro c num gap its y h
  obtain⟨hc,a7,U,a6⟩:=h
  obtain⟨it,r,rfl⟩:=lZ0 U
  simp only[lF0] at a7
  obtain⟨x,t,e,g,_⟩:=wS (num:=num) hc (by omega)
  exact(y a6 it (.head _)).2.2.item e g.1 _
 ·intro _ h;exact absurd rfl h
 ·intro b r I b3 h _
  rw[o6]
  exact(I h.1).append _
 ·intro _ it h;cases h
 ·intro it r O E h x g
  cases g with
  |head=>exact⟨h.1,h.2.1,O h.2.1 h.1⟩
  |tail _ g=>exact E h.2.2 x g
def DI (c:UInt8):Nat->List (List BN)->List Itm
 |_,[]=> []
 |num,it::r=>⟨mkI c num,(aE it).tail,λn=>eO n it⟩::DI c (num+1) r
theorem wW (c:UInt8)(gap:Bool): ∀(its:List (List BN)) (num:Nat),d9 c gap num its=ke gap (DI c num its)
 | [],_=>rfl
 |it::r,num=>by
  rw[d9,DI,ke,wW c gap r (num+1)]
theorem sK (c:UInt8)(gap:Bool): ∀(its:List (List BN)) (num n:Nat),ja c gap num n its=sX gap n (DI c num its)
 | [],_,_=>rfl
 |it::r,num,n=>by
  rw[ja,DI,sX,sK c gap r,sK c gap r]
theorem zN {c:UInt8}: ∀ {its:List (List BN)} {num:Nat} {i:Itm},i∈DI c num its-> ∃k it,it∈its/\k<num+its.length/\i=⟨mkI c k,(aE it).tail,λn=>eO n it⟩
 |it::r,num,i,h=>by
  rw[DI] at h
  cases h with
  |head=>exact⟨num,it,.head _,by simp,rfl⟩
  |tail _ h=>
   obtain⟨k,x,y,E,g⟩:=zN h
   exact⟨k,x,.tail _ y,by simp;omega,g⟩
theorem Eq {s:Nat}{c:UInt8}{a b:Int}{its:List IN}(h:c=46\/c=41->a=b):xZ s c a its=xZ s c b its:=by
 unfold xZ
 by_cases hc:c=46\/c=41
 ·rw[h hc]
 ·rw[if_neg hc,if_neg hc]
theorem AD {c:UInt8}: ∀b:BN,okB b->bcB b≠some c-> ∀n,(iz n b).h.char≠ [c]:=by
 intro b hb h n
 cases b with
 |list E num gap its=>
  intro g
  have y:([E]:List UInt8)= [c]:=g
  exact h (by rw[List.cons.inj y|>.1];rfl)
 |_=>intro g;cases g
theorem ED {c:UInt8}(hc:c=45\/c=43\/c=46\/c=41):Utf8.encode (c.toNat:Int)=bs [c]:=by
 rcases hc with rfl|rfl|rfl|rfl<;>decide
theorem vj: ∀ls:List (Nat × List UInt8),(∀x∈ls,x.1<=2/\WdP x.2)->(dI (ls.map qP)).length<=103*ls.length
 | [],_=>by simp[dI]
 |x::r,h=>by
  have E:=vj r λz hz=>h z (.tail _ hz)
  obtain⟨I,g⟩:=h x (.head _)
  have y:=g.len
  have e:dI ((x::r).map qP)=(qP x++ [10])++dI (r.map qP):=by simp[dI]
  rw[e]
  simp only[lA0,lF0,lK1,qP,lH2]
  omega
theorem Dl (E:op.task=false)(b6:op.table=false)(O:op.auto=false)(c4:op.ids=false){ec:ai}(e5:Bh ec):
 (∀b,okB b-> ∀d,dpB b<=d->BlkP wc op ec (bg b) (λn=>iz n b) d (bcB b))/\(∀l,okS l->l≠ []-> ∀d,dpT l<=d->Dz wc op ec (aE l).tail (λn=>eO n l) d (l.head?.bind bcB))/\
 ∀l,okJ l-> ∀d,dpJ l<=d-> ∀it∈l,Dz wc op ec (aE it).tail (λn=>eO n it) d (it.head?.bind bcB):=by
 obtain⟨c5,b8,b9⟩:=uA
 refine BN.ind (P:=λb=>okB b-> ∀d,dpB b<=d->BlkP wc op ec (bg b) (λn=>iz n b) d (bcB b)) (S:=λl=>okS l->l≠ []-> ∀d,dpT l<=d->Dz wc op ec (aE l).tail (λn=>eO n l) d (l.head?.bind bcB))
  (J:=λl=>okJ l-> ∀d,dpJ l<=d-> ∀it∈l,Dz wc op ec (aE it).tail (λn=>eO n it) d (it.head?.bind bcB)) ?_ ?_ ?_ ?_ ?_ ?_ ?_ ?_ ?_ ?_ ?_
 ·intro ls h d _
  exact AA E b6 O h.1 (λx g=>(h.2.2 x g).1) h.len
 ·intro lv x h d _
  exact CR E c4 O h.1 h.2.1 (by have:=jg h.2.1 h.2.2;omega)
 ·intro _ d _
  exact HC E
 ·intro w ls h d _
  obtain⟨y,e4,d3,e9,b5⟩:=h
  have c3:=vj ls b5
  have:=ET (G:=wc) E (ec:=ec) (d:=d) (info:=w) (ls:=ls.map qP) e5 y (by omega) (λs hs=>?_) ?_ (by omega)
  ·rw[lS0] at this
   exact this
  ·obtain⟨x,g,rfl⟩:=lU1.1 hs
   obtain⟨a,b⟩:=b5 x g
   exact EJ (by omega) b
  ·obtain⟨x,r,rfl⟩:=lZ0 d3
   obtain⟨a,b⟩:=b5 x (.head _)
   intro h0
   have h0:some (qP x)=some []:=h0
   have:=congrArg List.length (Option.some.inj h0)
   have hb:=b.ne
   have:0<x.2.length:=lY0.2 hb
   simp only[qP,lA0,lH2,lK1] at*
   omega
 ·intro c ls h d _
  exact ww E b6 O h.1 h.2.1 (λx g=>(h.2.2.2 x g).1) h.2.len
 ·intro bs b4 h d hd
  obtain⟨k,rfl⟩: ∃k,d=k+1:=⟨d - 1,by have:dpT bs+1<=d:=hd;omega⟩
  have V:dpT bs<=k:=by have:dpT bs+1<=k+1:=hd;omega
  obtain⟨c0,r0,rest,e,y,_⟩:=b8 bs h.2 h.1
  exact Do E (b4 h.2 h.1 k V) (c0:=c0) (r0:=r0) (by rw[e];rfl) y
 ·intro c num gap its b4 h d hd
  obtain⟨hc,e3,d0,b3⟩:=h
  obtain⟨k,rfl⟩: ∃k,d=k+1:=⟨d - 1,by have:dpJ its+1<=d:=hd;omega⟩
  have V:dpJ its<=k:=by have:dpJ its+1<=k+1:=hd;omega
  have b7: ∀m it,it∈its->m<100->ItOK wc op ec c (if c=46\/c=41 then m else 0) (mkI c m) (aE it).tail (λn=>eO n it) k:=by
   intro m it I c2
   obtain⟨c0,r0,rest,e,y,_⟩:=(b9 its b3 it I).2.2
   obtain⟨x,t,a7,g,c3⟩:=wS (num:=m) hc c2
   exact⟨⟨_,b4 b3 k V it I⟩,⟨c0,r0,by rw[e];rfl,y⟩,⟨x,t,a7,g⟩,Cn hc c2 (b9 its b3 it I).2.2,c3⟩
  obtain⟨it,r,rfl⟩:=lZ0 d0
  simp only[lF0] at e3
  have:=ER (G:=wc) E (ED hc) gap (b7 num it (.head _) (by omega)) (its:=DI c (num+1) r) λi hi=>by
   obtain⟨m,x,y,e4,rfl⟩:=zN hi
   exact⟨_,b7 m x (.tail _ y) (by omega)⟩
  have a6:bg (.list c num gap (it::r))=itL (mkI c num) (aE it).tail++ke gap (DI c (num+1) r):=by rw[bg,dB,wW]
  have a7:(λn=>iz n (.list c num gap (it::r)))=λn=>xZ n c ((if c=46\/c=41 then num else 0:Nat):Int) (.mk {kind:=4,width:=(mkI c num).length,s:=n,e:=n - 1+(aE it).tail.length} (eO n it)::sX gap (n - 1+(aE it).tail.length) (DI c (num+1) r)):=by
   funext n
   rw[iz,kA,sK]
   exact Eq λh=>by rw[if_pos h]
  rw[a6,a7]
  exact this
 ·intro _ h;exact absurd rfl h
 ·intro b r c9 d1 h _ d hd
  have U:dpB b<=d:=by have:max (dpB b) (dpT r)<=d:=hd;omega
  have W:dpT r<=d:=by have:max (dpB b) (dpT r)<=d:=hd;omega
  have y:=c9 h.1 d U
  rw[o6]
  cases r with
  |nil=>
   have e:bg b++aE []=bg b:=lG0 _
   rw[e]
   exact y.seq
  |cons b2 r=>
   obtain⟨c0,r0,rest,e,e0,_⟩:=b8 (b2::r) h.2.2 (by simp)
   obtain⟨e7,e8,e6,a6,_⟩:=c5 b h.1
   exact DZ E y (by rw[a6];simp) (d1 h.2.2 (by simp) d W) (c0:=c0) (r0:=r0) (by rw[e];rfl) e0 λc hc n=>AD b h.1 (h.2.1 c hc) n
 ·intro _ d _ it I;cases I
 ·intro it r c8 d2 h d hd x g
  have U:dpT it<=d:=by have:max (dpT it) (dpJ r)<=d:=hd;omega
  have W:dpJ r<=d:=by have:max (dpT it) (dpJ r)<=d:=hd;omega
  cases g with
  |head=>exact c8 h.2.1 h.1 d U
  |tail _ g=>exact d2 h.2.2 d W x g

def chB (c:UInt8):Prop:=c≠10/\c≠13/\c≠0
structure GdL (n:Nat) (ls:List (List UInt8)):Prop where
 ch: ∀s∈ls,(∀c∈s,chB c)/\s.length<=n
 last: ∃m s,ls=m++ [s]/\s≠ []
theorem rD {c:UInt8}(h:wB c=true):chB c:=by
 obtain⟨_,_,_,_,_,_,E,y,g,_⟩:=rP h
 exact⟨E,y,g⟩
def dsOK:Tk->Prop
 | .lk _ d=> ∀c∈d,chB c
 |_=>True
theorem G5 {t:Tk}(h:GR t)(hd:dsOK t): ∀c∈t.B,chB c:=by
 intro c hc
 cases t with
 |wd s=>exact rD (h.by_ c hc)
 |sp=>exact h.elim
 |nl=>exact h.elim
 |em k s=>
  simp only[Tk.B,lP0,lV3] at hc
  rcases hc with ⟨_,rfl⟩|hc|⟨_,rfl⟩
  ·exact⟨by decide,by decide,by decide⟩
  ·exact rD (h.1.by_ c hc)
  ·exact⟨by decide,by decide,by decide⟩
 |cd s=>
  simp only[Tk.B,lP0,lW0,lF1,or_false] at hc
  rcases hc with rfl|hc|rfl
  ·exact⟨by decide,by decide,by decide⟩
  ·exact rD (h.by_ c hc)
  ·exact⟨by decide,by decide,by decide⟩
 |lk s d=>
  simp only[Tk.B,lP0,lW0,lF1,or_false] at hc
  rcases hc with rfl|hc|rfl|rfl|hc|rfl
  ·exact⟨by decide,by decide,by decide⟩
  ·exact rD (h.1.by_ c hc)
  ·exact⟨by decide,by decide,by decide⟩
  ·exact⟨by decide,by decide,by decide⟩
  ·exact hd c hc
  ·exact⟨by decide,by decide,by decide⟩
 |es s=>
  simp only[Tk.B,lW0] at hc
  rcases hc with rfl|rfl|hc
  ·exact⟨by decide,by decide,by decide⟩
  ·exact⟨by decide,by decide,by decide⟩
  ·exact rD (h.by_ c hc)
def Gg (x:LT):Prop:= ∀t∈x.2,dsOK t
theorem zK {x:LT}(h:wV x)(hd:Gg x): ∀c∈cu x,chB c:=by
 intro c hc
 have e:cu x=x.1++tkB (qB x.2):=rfl
 rw[e] at hc
 rcases lP0.1 hc with hc|hc
 ·exact rD (h.1.by_ c hc)
 ·obtain⟨t,ht,hc⟩:=lS2.1 hc
  obtain⟨u,g,ht⟩:=lS2.1 ht
  simp only[lW0,lF1,or_false] at ht
  rcases ht with rfl|rfl
  ·obtain rfl:=lN0.1 hc
   exact⟨by decide,by decide,by decide⟩
  ·exact G5 (h.2 _ g) (hd _ g) c hc
theorem Er {x:LT}(h:wV x):cu x≠ []:=by
 obtain⟨c,r,e,_⟩:=qz h
 rw[e];simp
theorem GdL.mono {n m:Nat}{ls:List (List UInt8)}(h:GdL n ls)(g:n<=m):GdL m ls:=⟨λs hs=>⟨(h.ch s hs).1,by have:=(h.ch s hs).2;omega⟩,h.last⟩
theorem GdL.ne {n:Nat}{ls:List (List UInt8)}(h:GdL n ls):ls≠ []:=by
 obtain⟨m,s,e,_⟩:=h.last
 rw[e];simp
theorem GdL.append {n:Nat}{a b:List (List UInt8)}(y: ∀s∈a,(∀c∈s,chB c)/\s.length<=n)(hb:GdL n b):GdL n (a++b):=by
 obtain⟨m,s,e,h⟩:=hb.last
 refine⟨λx g=>?_,a++m,s,by rw[e,lD0],h⟩
 rcases lP0.1 g with g|g
 ·exact y x g
 ·exact hb.ch x g
theorem GdL.map {n k:Nat}{ls:List (List UInt8)}{f:List UInt8->List UInt8}(h:GdL n ls)(U: ∀s,(∀c∈s,chB c)->(∀c∈f s,chB c))(W: ∀s,(f s).length<=s.length+k)(E: ∀s,s≠ []->f s≠ []):GdL (n+k) (ls.map f):=by
 obtain⟨m,s,e,O⟩:=h.last
 refine⟨λx a6=>?_,m.map f,f s,by rw[e,lV0];rfl,E s O⟩
 obtain⟨g,V,rfl⟩:=lU1.1 a6
 obtain⟨I,a7⟩:=h.ch g V
 exact⟨U g I,by have:=W g;omega⟩
theorem GdL.lines {ls:List LT}(h:okLs ls)(hd: ∀x∈ls,Gg x):GdL 710 (ls.map cu):=by
 obtain⟨m,x,e⟩: ∃m x,ls=m++ [x]:=⟨_,_,(lX3 h.1).symm⟩
 refine⟨λs hs=>?_,m.map cu,cu x,by rw[e,lV0];rfl,Er (h.2.2 x (by rw[e];simp)).1⟩
 obtain⟨I,g,rfl⟩:=lU1.1 hs
 obtain⟨E,O⟩:=h.2.2 I g
 exact⟨zK E (hd I g),jg E O⟩
theorem GdL.item {n k:Nat}{mk:List UInt8}{ls:List (List UInt8)}(h:GdL n ls)(a6: ∀c∈mk,chB c)(a7:mk.length<=k)(V:mk≠ []):GdL (n+k) (itL mk ls):=by
 obtain⟨s,r,rfl⟩:=lZ0 h.ne
 have O:=h.ch s (.head _)
 have e:itL mk (s::r)=(mk++s)::r.map (CX.pre (.i mk.length)):=rfl
 rw[e]
 have hs:(∀c∈mk++s,chB c)/\(mk++s).length<=n+k:=by
  refine⟨λc hc=>?_,by rw[lA0];have:=O.2;omega⟩
  rcases lP0.1 hc with hc|hc
  ·exact a6 c hc
  ·exact O.1 c hc
 refine⟨λx E=>?_,?_⟩
 ·cases E with
  |head=>exact hs
  |tail _ E=>
   obtain⟨U,W,rfl⟩:=lU1.1 E
   obtain⟨a,b⟩:=h.ch U (.tail _ W)
   unfold CX.pre
   dsimp only
   split
   ·exact And.intro (λc hc=>absurd hc lF1) (lB2 _)
   ·refine⟨λc hc=>?_,by simp;omega⟩
    rcases lP0.1 hc with hc|hc
    ·obtain⟨_,rfl⟩:=lV3.1 hc
     exact⟨by decide,by decide,by decide⟩
    ·exact a c hc
 ·obtain⟨m,x,g,I⟩:=h.last
  cases m with
  |nil=>
   simp only[lT0,lU0] at g
   obtain⟨rfl,rfl⟩:=g
   exact⟨[],mk++s,rfl,by simp[V]⟩
  |cons U m=>
   simp only[lR0,lU0] at g
   obtain⟨rfl,rfl⟩:=g
   refine⟨(mk++s)::m.map (CX.pre (.i mk.length)),CX.pre (.i mk.length) x,by rw[lV0];rfl,?_⟩
   unfold CX.pre
   dsimp only
   rw[if_neg I]
   simp[I]
mutual
def dsB:BN->Prop
 | .para ls=> ∀x∈ls,Gg x
 | .head _ x=>Gg x
 | .hr=>True
 | .code w _=> ∀c∈w,chB c
 | .setx _ ls=> ∀x∈ls,Gg x
 | .quote bs=>dsS bs
 | .list _ _ _ its=>dsJ its
def dsS:List BN->Prop
 | []=>True
 |b::r=>dsB b/\dsS r
def dsJ:List (List BN)->Prop
 | []=>True
 |it::r=>dsS it/\dsJ r
end
theorem Fj {c:UInt8}{num:Nat}(hc:c=45\/c=43\/c=46\/c=41)(V:num<100):(∀x∈mkI c num,chB x)/\(mkI c num).length<=4/\mkI c num≠ []:=by
 have E:chB c:=by rcases hc with rfl|rfl|rfl|rfl<;>exact⟨by decide,by decide,by decide⟩
 have I:chB 32:=⟨by decide,by decide,by decide⟩
 unfold mkI
 split
 ·obtain⟨x,a6,e,U,W,_⟩:=ou V
  rw[e]
  refine⟨λO g=>?_,by simp;omega,by simp⟩
  rcases lP0.1 g with g|g
  ·obtain⟨_,_,_,_,a,b,d⟩:=uE (U O g)
   exact⟨a,b,d⟩
  ·simp only[lW0,lF1,or_false] at g
   rcases g with rfl|rfl
   ·exact E
   ·exact I
 ·refine⟨λO g=>?_,by simp,by simp⟩
  simp only[lW0,lF1,or_false] at g
  rcases g with rfl|rfl
  ·exact E
  ·exact I
theorem Fp {n:Nat}: ∀s∈([[]]:List (List UInt8)),(∀c∈s,chB c)/\s.length<=n:=by
 intro s hs
 obtain rfl:=lN0.1 hs
 exact And.intro (λc hc=>absurd hc lF1) (lB2 _)
theorem zZ:(∀b,okB b->dsB b->GdL (720+4*dpB b) (bg b))/\(∀l,okS l->dsS l->l≠ []->GdL (720+4*dpT l) (aE l).tail)/\ ∀l,okJ l->dsJ l->(∀(c:UInt8) (num:Nat) (gap:Bool),(c=45\/c=43\/c=46\/c=41)->num+l.length<100->l≠ []->GdL (720+4*dpJ l+4) (dB c gap num l)/\GdL (720+4*dpJ l+4) (d9 c gap num l)):=by
 refine BN.ind (P:=λb=>okB b->dsB b->GdL (720+4*dpB b) (bg b)) (S:=λl=>okS l->dsS l->l≠ []->GdL (720+4*dpT l) (aE l).tail) (J:=λl=>okJ l->dsJ l->(∀(c:UInt8) (num:Nat) (gap:Bool),(c=45\/c=43\/c=46\/c=41)->num+l.length<100->l≠ []->GdL (720+4*dpJ l+4) (dB c gap num l)/\GdL (720+4*dpJ l+4) (d9 c gap num l)))
  ?_ ?_ ?_ ?_ ?_ ?_ ?_ ?_ ?_ ?_ ?_
 ·intro ls h hd
  exact(GdL.lines h hd).mono (by omega)
 ·intro lv x h hd
  obtain⟨⟨b8,c1⟩,E,U⟩:=h
  have c2:=jg E U
  refine⟨λs hs=>?_,[],_,rfl,by simp⟩
  obtain rfl:=lN0.1 hs
  refine⟨λc hc=>?_,by simp;omega⟩
  simp only[lP0,lW0,lV3] at hc
  rcases hc with ⟨_,rfl⟩|rfl|hc
  ·exact⟨by decide,by decide,by decide⟩
  ·exact⟨by decide,by decide,by decide⟩
  ·exact zK E hd c hc
 ·intro _ _
  refine⟨λs hs=>?_,[],_,rfl,by simp⟩
  obtain rfl:=lN0.1 hs
  refine⟨λc hc=>?_,by simp;omega⟩
  simp only[lW0,lF1,or_false,or_self] at hc
  subst hc
  exact⟨by decide,by decide,by decide⟩
 ·intro w ls h hd
  obtain⟨b8,c1,E,U,b7⟩:=h
  refine⟨λs hs=>?_,(96::96::96::w)::ls.map qP,[96,96,96],rfl,by simp⟩
  have g:chB 96:=⟨by decide,by decide,by decide⟩
  have b9:s=96::96::96::w\/s∈ls.map qP\/s= [96,96,96]:=by simpa[bg] using hs
  rcases b9 with rfl|hs|rfl
  ·refine⟨λc hc=>?_,by simp;omega⟩
   simp only[lW0] at hc
   rcases hc with rfl|rfl|rfl|hc
   ·exact g
   ·exact g
   ·exact g
   ·exact hd c hc
  ·obtain⟨x,y,rfl⟩:=lU1.1 hs
   obtain⟨a,b⟩:=b7 x y
   have:=b.len
   refine⟨λc hc=>?_,by simp[qP];omega⟩
   rcases lP0.1 hc with hc|hc
   ·obtain⟨_,rfl⟩:=lV3.1 hc
    exact⟨by decide,by decide,by decide⟩
   ·exact rD (b.by_ c hc)
  ·refine⟨λc hc=>?_,by simp;omega⟩
   simp only[lW0,lF1,or_false,or_self] at hc
   subst hc
   exact g
 ·intro c ls h hd
  have hc:chB c:=by rcases h.1 with rfl|rfl<;>exact⟨by decide,by decide,by decide⟩
  refine GdL.append (λs hs=>?_) ⟨λs hs=>?_,[],_,rfl,by simp⟩
  ·obtain⟨a,b⟩:=(GdL.lines h.2 hd).ch s hs
   exact⟨a,by omega⟩
  ·obtain rfl:=lN0.1 hs
   refine⟨λx y=>?_,by simp;omega⟩
   simp only[lW0,lF1,or_false,or_self] at y
   subst y
   exact hc
 ·intro bs I h hd
  have:=(I h.2 hd h.1).map (f:=λs=>62::32::s) (k:=2) (λs hs c hc=>?_) (λs=>by simp) (λs _=>by simp)
  ·exact this.mono (by show _<=720+4*(dpT bs+1);omega)
  ·simp only[lW0] at hc
   rcases hc with rfl|rfl|hc
   ·exact⟨by decide,by decide,by decide⟩
   ·exact⟨by decide,by decide,by decide⟩
   ·exact hs c hc
 ·intro c num gap its I h hd
  obtain⟨hc,O,a6,b5⟩:=h
  exact(I b5 hd c num gap hc (by omega) a6).1.mono (by show _<=720+4*(dpJ its+1);omega)
 ·intro _ _ h;exact absurd rfl h
 ·intro b r W a7 h hd _
  rw[o6]
  have hb:=W h.1 hd.1
  have b4:dpB b<=dpT (b::r):=Nat.le_max_left _ _
  have b6:dpT r<=dpT (b::r):=Nat.le_max_right _ _
  cases r with
  |nil=>
   have e:bg b++aE []=bg b:=lG0 _
   rw[e]
   exact hb.mono (by omega)
  |cons b2 r=>
   have e:aE (b2::r)= [[]]++(aE (b2::r)).tail:=rfl
   rw[e]
   refine GdL.append (hb.mono (by omega)).ch (GdL.append Fp ((a7 h.2.2 hd.2 (by simp)).mono (by omega)))
 ·intro _ _ c num gap _ _ h;exact absurd rfl h
 ·intro it r V b3 h hd c num gap hc O _
  simp only[lF0] at O
  obtain⟨k1,k2,k3⟩:=Fj (num:=num) hc (by omega)
  have b4:dpT it<=dpJ (it::r):=Nat.le_max_left _ _
  have b6:dpJ r<=dpJ (it::r):=Nat.le_max_right _ _
  have hi:=((V h.2.1 hd.1 h.1).item k1 k2 k3).mono (m:=720+4*dpJ (it::r)+4) (by omega)
  have hr:GdL (720+4*dpJ (it::r)+4) (itL (mkI c num) (aE it).tail++d9 c gap (num+1) r):=by
   cases r with
   |nil=>
    have e:itL (mkI c num) (aE it).tail++d9 c gap (num+1) []=itL (mkI c num) (aE it).tail:=lG0 _
    rw[e];exact hi
   |cons x r=>exact GdL.append hi.ch ((b3 h.2.2 hd.2 c (num+1) gap hc (by simp at O⊢;omega) (by simp)).2.mono (by omega))
  refine⟨hr,?_⟩
  rw[d9]
  split
  ·exact GdL.append Fp hr
  ·exact hr
def NBd:Nat->Nat
 |0=>5
 |1=>35
 |d+2=>3*NBd (d+1)+2
theorem qg: ∀d,3*NBd d+2<=NBd (d+1)
 |0=>by decide
 |d+1=>lA1 _
theorem E0 (d:Nat):6*NBd (d - 1)+5<=NBd (d+1):=by
 cases d with
 |zero=>decide
 |succ d=>
  have y:=qg d
  have g:=qg (d+1)
  show 6*NBd d+5<=NBd (d+1+1)
  omega
mutual
def smB:Nat->BN->Prop
 |d,.quote bs=>1<=d/\bs.length<=3/\smS (d - 1) bs
 |d,.list _ _ _ its=>1<=d/\its.length<=3/\smJ (d - 2) its
 |_,_=>True
def smS:Nat->List BN->Prop
 |_,[]=>True
 |d,b::r=>smB d b/\smS d r
def smJ:Nat->List (List BN)->Prop
 |_,[]=>True
 |d,it::r=>it.length<=2/\smS d it/\smJ d r
end
theorem qJ:(∀b,okB b-> ∀d,smB d b->(bg b).length<=NBd d/\dpB b<=d)/\(∀l,okS l-> ∀d,smS d l->(aE l).length<=l.length*(NBd d+1)/\dpT l<=d)/\ ∀l,okJ l-> ∀d,smJ d l->(∀c gap num,(d9 c gap num l).length<=l.length*(2*NBd d+2)/\(l≠ []->(dB c gap num l).length+1<=l.length*(2*NBd d+2)))/\dpJ l<=d:=by
 have g: ∀d,5<=NBd d:=by
  intro d
  induction d with
  |zero=>decide
  |succ d E=>have:=qg d;omega
 refine BN.ind (P:=λb=>okB b-> ∀d,smB d b->(bg b).length<=NBd d/\dpB b<=d) (S:=λl=>okS l-> ∀d,smS d l->(aE l).length<=l.length*(NBd d+1)/\dpT l<=d) (J:=λl=>okJ l-> ∀d,smJ d l->(∀c gap num,(d9 c gap num l).length<=l.length*(2*NBd d+2)/\(l≠ []->(dB c gap num l).length+1<=l.length*(2*NBd d+2)))/\dpJ l<=d) ?_ ?_ ?_ ?_ ?_ ?_ ?_ ?_ ?_ ?_ ?_
 ·intro ls h d _
  have:=g d
  have:=h.2.1
  exact⟨by simp[bg];omega,lB2 _⟩
 ·intro lv x h d _
  have:=g d
  exact⟨by simp[bg];omega,lB2 _⟩
 ·intro h d _
  have:=g d
  exact⟨by simp[bg];omega,lB2 _⟩
 ·intro w ls h d _
  have:=g d
  have:=h.2.2.2.1
  exact⟨by simp[bg];omega,lB2 _⟩
 ·intro c ls h d _
  have:=g d
  have:=h.2.2.1
  exact⟨by simp[bg];omega,lB2 _⟩
 ·intro bs E h d hs
  obtain⟨b3,I,y⟩:=hs
  obtain⟨k,rfl⟩: ∃k,d=k+1:=⟨d - 1,by omega⟩
  obtain⟨a,b⟩:=E h.2 k y
  have b8:=qg k
  refine⟨?_,by show dpT bs+1<=_;omega⟩
  have e:(bg (.quote bs)).length=(aE bs).length - 1:=by simp[bg]
  rw[e]
  have:=lJ2 (NBd k+1) I
  omega
 ·intro c num gap its E h d hs
  obtain⟨hc,b9,a6,b7⟩:=h
  obtain⟨b3,I,y⟩:=hs
  obtain⟨k,rfl⟩: ∃k,d=k+1:=⟨d - 1,by omega⟩
  have e:k+1 - 2=k - 1:=by omega
  rw[e] at y
  obtain⟨a,b⟩:=E b7 (k - 1) y
  have b8:=E0 k
  refine⟨?_,by show dpJ its+1<=_;omega⟩
  have a2:=(a c gap num).2 a6
  have:=lJ2 (2*NBd (k - 1)+2) I
  show (dB c gap num its).length<=NBd (k+1)
  omega
 ·intro _ d _
  exact⟨by simp[aE],lB2 _⟩
 ·intro b r V a7 h d hs
  obtain⟨a1,a2⟩:=V h.1 d hs.1
  obtain⟨b1,b2⟩:=a7 h.2.2 d hs.2
  refine⟨?_,by show max (dpB b) (dpT r)<=d;omega⟩
  rw[lF0,lQ3,Nat.one_mul]
  simp only[aE,lF0,lA0]
  omega
 ·intro _ d _
  exact⟨λc gap num=>by simp[d9,dB],lB2 _⟩
 ·intro it r W U h d hs
  obtain⟨b4,b5,b6⟩:=hs
  obtain⟨a1,a2⟩:=W h.2.1 d b5
  obtain⟨b1,b2⟩:=U h.2.2 d b6
  have m:=lJ2 (NBd d+1) b4
  have hi: ∀mk,(itL mk (aE it).tail).length<=2*NBd d+1:=by
   intro mk
   simp only[itL,lF0,lS0,lP3]
   omega
  have O:(it::r).length*(2*NBd d+2)=r.length*(2*NBd d+2)+(2*NBd d+2):=by rw[lF0,lQ3,Nat.one_mul]
  refine⟨λc gap num=>⟨?_,λ_=>?_⟩,by show max (dpT it) (dpJ r)<=d;omega⟩
  ·have:=hi (mkI c num)
   have:=(b1 c gap (num+1)).1
   rw[O,d9]
   split
   ·simp only[lF0,lA0];omega
   ·simp only[lA0];omega
  ·have:=hi (mkI c num)
   have:=(b1 c gap (num+1)).1
   rw[O,dB,lA0]
   omega
namespace cY
def bl1 (R:EP)(Xa:Nat->Nat->OA->Nat->Nat->Int->Int->WP)(I y:Nat)(b4:OA)(b5 c1:Nat)(b7 g:Int)(w:World):Prop:=
 br (decide (g<b7))
 (0<=g/\g<(b5:Int)/\
 aA b4 λd0=>
 ldA10 w (d0.add (Int.toNat g*10)) λd2=>
 box w (N10.C {}) ae λb8 c4=>
 st10 c4 b8 d2 λd1=>
 tk d1 λE=>
 ∃a6 U a7,E.cell? (hZ y 7)=some (hT a6 U a7)/\
 ldB10 E b8 λc9=>
 callE P lu #[c9.V] (λe b9=>Ha e λc8=>
 SameC E b9 (hZ y 7) 1/\
 callE P eF #[hT a6 U a7,c8.V] (λe c3=> ∃W O b3,e= hQ (hT W O b3)/\
 stV c3 (hZ y 7) (hT W O b3) λd3=>
 Xa I y b4 b5 c1 b7 (i64.wrap (g+1)) d3) b9) E)
 (ldB10 w y λc5=>
 st10 w I c5 λb6=>
 ldB10 b6 I λc2=>
 R (hQ (c2.V)) b6)
def l1 (R:EP)(U V:Nat)(g:OA)(y E:Nat)(O I:Int)(w:World):Prop:=
 ∀X:Nat->Nat->OA->Nat->Nat->Int->Int->WP,(∀U V g y E O I w,bl1 R X U V g y E O I w->X U V g y E O I w)->X U V g y E O I w
def k1 (R:EP)(b9 c2 E:Nat)(w:World):Prop:=
 ∃I a7,∃a6 y,(Instr.buildSlice cz 0 #[]).run P w= .ok (hT I a7 a6) y/\
 ∃b6 b3 U,y.cell? (hZ b9 6)=some (hT b6 b3 U)/\
 ∃b5 W,∃b4 b7,(Builtin.append_ #[cz,cz] cz #[hT I a7 a6,hT b6 b3 U]).run P y= .ok (hT b5 W b4) b7/\
 stV b7 (hZ E 6) (hT b5 W b4) λc1=>
 stV c1 (hZ E 7) (hT none 0 0) λb8=>
 ∃O g V,b8.cell? (hZ b9 7)=some (hT O g V)/\
 l1 R c2 E O g V (g:Int) 0 b8
end cY
def cY (R:EP)(c4:Int)(c2 c1:BA)(c3:Int)(b9:BA)(b7:Bool)(b5:OA)(a7 b6:Nat)(b4:OA)(W a6:Nat)(c5 b8:Int)(w:World):Prop:=
 box w (N10.C {a0:=c4,a1:=c2,a2:=c1,a3:=c3,a4:=b9,a5:=b7,q6:=b5,n6:=a7,c6:=b6,q7:=b4,n7:=W,c7:=a6,a8:=c5,a9:=b8}) ae λb1 e1=>
 box e1 (N10.C {}) ae λE V=>
 ldB10 V b1 λe0=>
 box V (N10.C {}) ae λg d2=>
 st10 d2 g e0 λc8=>
 stV c8 (hZ g 8) (hY 0) λd1=>
 stV d1 (hZ g 9) (hY 0) λy=>
 ∃I,y.cell? (hZ b1 0)=some (hY I)/\
 br (I==6)
 (stV y (hZ g 1) (hX (hP #[])) λd3=>
 cY.k1 R b1 E g d3)
 (∃U,y.cell? (hZ b1 0)=some (hY U)/\
 br (U==5)
 (stV y (hZ g 1) (hX (hP #[])) λc9=>
 cY.k1 R b1 E g c9)
 (∃O,y.cell? (hZ b1 0)=some (hY O)/\
 br (O==12)
 (stV y (hZ g 1) (hX (hP #[])) λd0=>
 cY.k1 R b1 E g d0)
 (cY.k1 R b1 E g y)))
theorem cY.sound {R x0_0 x0_1 x0_2 x0_3 x0_4 x0_5 x0_6q x0_6n x0_6c x0_7q x0_7n x0_7c x0_8 x0_9 w}(h:cY R x0_0 x0_1 x0_2 x0_3 x0_4 x0_5 x0_6q x0_6n x0_6c x0_7q x0_7n x0_7c x0_8 x0_9 w):callE P lu #[(N10.V {a0:=x0_0,a1:=x0_1,a2:=x0_2,a3:=x0_3,a4:=x0_4,a5:=x0_5,q6:=x0_6q,n6:=x0_6n,c6:=x0_6c,q7:=x0_7q,n7:=x0_7n,c7:=x0_7c,a8:=x0_8,a9:=x0_9})] R w:=
 aG [(31,.mk [26,46,66] (cY.k1 R)),(703,.lp [46,66,603,627,647] (cY.bl1 R) λXa=> [(51,.dr (rpN [0,4,7,11,14,15,20]))])] Tryz.func16 Tryz.call16 h

def Dy (x:ND)(v:N10)(T:List ai):Prop:=
 ∀(σ:Out) (R:Ending->World->Prop) (L:List ai) (w:World),Sat σ w (T++L)->(∀w u M,NodeDt (fT x) u M->Sat σ w (M++(T++L))->R (hQ u.V) w)->callE P lu #[v.V] R w
inductive WholeGs:List ND->List Value->List ai->Prop where
 |nil:WholeGs [] [] []
 |cons {x:ND} {xs:List ND} {v:N10} {us:List Value} {T K:List ai}:Dy x v T->v.a0=(x.h.kind:Int)->x.h.text.length<1073741824->WholeGs xs us K->WholeGs (x::xs) (v.C.toList++us) (T++K)
theorem WholeGs.len {xs:List ND}{vs:List Value}{M:List ai}(h:WholeGs xs vs M):vs.length=xs.length*10:=by
 induction h with
 |nil=>rfl
 |cons _ _ _ _ g=>rw[lA0,g,lF0,lU3,lG4];rfl
theorem yg (h:NH):(lO h).text.length<=h.text.length:=by
 unfold lO
 dsimp only
 split
 ·exact lB2 _
 ·exact lA1 _
theorem DT (x:ND):(fT x).h=lO x.h:=by
 obtain⟨h,g⟩:=x
 rw[fT];rfl
theorem Al {b7:List ND}{q:OA}{n c:Nat}{vs:List Value}{RM KM:List ai}{b1 U O:Nat}{h0 H:NH}{qa0:OA}{ca0:Nat}{qa:OA}{ca:Nat}(b8:WholeGs b7 vs KM)(d0:Sl 10 ae q n c vs RM)(g6:n<1073741824)(h:Sat σ w ((O,cel (H.nd qa ca none 0 0).C.toList ae)::(b1,cel (h0.nd qa0 ca0 q n c).C.toList ae)::(U,cel (N10.C {}).toList ae)::(RM++KM++L)))(b5: ∀w u M,NodeDt (.mk H (ff [] b7)) u M->Sat σ w (M++(RM++KM++L))->R (hQ u.V) w):cY.l1 R U O q n c (n:Int) 0 w:=by
 have g7:=d0.1
 have g5:=b8.len
 intro X d1
 have e8: ∀(a7:List ND) (b9:List Value) (K:List ai),WholeGs a7 b9 K-> ∀(g:List ND) (a6:List Value) (D:List ai) (j:Nat) y I us W NM w,a6++b9=vs->a6.length=j*10->j+a7.length=n->ff g a7=ff [] b7->g.length<=j->mO g<=j*1073741824->
  NDs g us NM->Sl 10 ae y g.length I us W->Sat σ w ((O,cel (H.nd qa ca y g.length I).C.toList ae)::(b1,cel (h0.nd qa0 ca0 q n c).C.toList ae)::(U,cel (N10.C {}).toList ae)::(W++NM++(RM++(D++(K++L)))))->
  (∀w u M,NodeDt (.mk H (ff [] b7)) u M->Sat σ w (M++(RM++(D++(K++L))))->R (hQ u.V) w)->X U O q n c (n:Int) (j:Nat) w:=by
  intro a7 b9 K b8
  induction b8 with
  |nil=>
   intro g a6 D j y I us W NM w hv c4 c2 hb e5 e3 c3 c5 h b5
   simp only[lK1,lN1] at c2
   refine d1 _ _ _ _ _ _ _ _ (af (by simp;omega) ?_)
   refine h.ldB10 _ (.head _) ?_
   refine h.st10 2 {} (H.nd qa ca y g.length I) λw h=>?_
   refine h.ldB10 _ (.tail _ (.tail _ (.head _))) ?_
   have e:ff g []=g:=by rw[ff]
   rw[<-hb,e] at b5
   refine b5 w _ (W++NM) ⟨H,g,qa,ca,y,g.length,I,us,W,NM,rfl,rfl,rfl,by omega,c3,c5⟩ ?_
   have h:Sat σ w ((O,cel (H.nd qa ca y g.length I).C.toList ae)::(b1,cel (h0.nd qa0 ca0 q n c).C.toList ae)::(U,cel (H.nd qa ca y g.length I).C.toList ae)::(W++NM++(RM++(D++([]++L))))):=h
   exact h.tail.tail.tail
  | @cons x a7 v us2 T K g1 g2 g3 g4 ih=>
   intro g a6 D j y I us W NM w hv c4 c2 hb e5 e3 c3 c5 h b5
   simp only[lF0] at c2
   have e2:j<n:=by omega
   refine d1 _ _ _ _ _ _ _ _ (ag (by simp;omega) ⟨by omega,by omega,?_⟩)
   have e6:=d0
   obtain⟨_,_,⟨rfl,hz,_,_⟩|⟨E,sp,rfl,rfl,f4⟩⟩:=e6
   ·omega
   refine aa ?_
   simp only[lK0,lC0,lO0]
   have e0:vs++sp=a6++(v.C.toList++(us2++sp)):=by rw[<-hv];simp only[lD0]
   refine Sat.ldA10 h v (b:=E) (pre:=a6) (suf:=us2++sp) (e:=ae) (by rw[<-e0];simp) c4 ?_
   refine Sat.bx h λb4 w h=>?_
   have h:Sat σ w ((b4,cel (N10.C {}).toList ae)::(O,cel (H.nd qa ca y g.length I).C.toList ae)::(b1,cel (h0.nd qa0 ca0 (kE E) n c).C.toList ae)::(U,cel (N10.C {}).toList ae)::(W++NM++([(E,cel (vs++sp) ae)]++(D++(T++K++L))))):=h
   refine h.st10 0 {} v λw h=>?_
   have h:Sat σ w ((b4,cel v.C.toList ae)::(O,cel (H.nd qa ca y g.length I).C.toList ae)::(b1,cel (h0.nd qa0 ca0 (kE E) n c).C.toList ae)::(U,cel (N10.C {}).toList ae)::(W++NM++([(E,cel (vs++sp) ae)]++(D++(T++K++L))))):=h
   have f1:ff g (x::a7)=ff (gu g (fT x)) a7:=by rw[ff]
   rw[f1] at hb
   have e7:(a6++v.C.toList)++us2=vs:=by rw[<-hv];simp only[lD0]
   have e1:(a6++v.C.toList).length=(j+1)*10:=by rw[lA0,c4,lU3];rfl
   ·refine h.tk λw h=>?_
    refine⟨_,_,_,Sat.ld h (.tail _ (.head _)) (i:=7) rfl,?_⟩
    refine h.ldB10 v (.head _) ?_
    have g0:=e2
    have f6:(fT x).h.text.length<=x.h.text.length:=by rw[DT];exact yg x.h
    have h:Sat σ w (T++((b4,cel v.C.toList ae)::(O,cel (H.nd qa ca y g.length I).C.toList ae)::(b1,cel (h0.nd qa0 ca0 (kE E) n c).C.toList ae)::(U,cel (N10.C {}).toList ae)::(W++NM++([(E,cel (vs++sp) ae)]++(D++(K++L)))))):=h.re
    have e9:=h
    refine g1 σ _ _ w h λw u M b6 h=>vh ⟨?_,?_⟩
    ·exact e9.same h (lB0 _ (.tail _ (.head _))) (lB0 _ (lB0 _ (.tail _ (.head _)))) 1
    have h:Sat σ w (W++(NM++(M++((O,cel (H.nd qa ca y g.length I).C.toList ae)::(b4,cel v.C.toList ae)::(b1,cel (h0.nd qa0 ca0 (kE E) n c).C.toList ae)::(U,cel (N10.C {}).toList ae)::([(E,cel (vs++sp) ae)]++(D++(T++(K++L)))))))):=h.re
    refine nh (n:=g.length) c3 c5 b6 (by omega) (by omega) h λw d2 f2 d3 f0 c1 KM' f5 c8 c9 h=>⟨_,_,_,rfl,?_⟩
    have e4:f2=(gu g (fT x)).length:=by have a:=c8.len;have b:=c9.1;omega
    subst e4
    have h:Sat σ w ((O,cel (H.nd qa ca y g.length I).C.toList ae)::(c1++(KM'++((b4,cel v.C.toList ae)::(b1,cel (h0.nd qa0 ca0 (kE E) n c).C.toList ae)::(U,cel (N10.C {}).toList ae)::([(E,cel (vs++sp) ae)]++(D++(T++(K++L)))))))):=h.re
    refine Sat.st h (k:=0) rfl (by show 7<10;decide) trivial rfl λw h=>?_
    have h:Sat σ w ((O,cel (H.nd qa ca d2 (gu g (fT x)).length d3).C.toList ae)::(c1++(KM'++((b4,cel v.C.toList ae)::(b1,cel (h0.nd qa0 ca0 (kE E) n c).C.toList ae)::(U,cel (N10.C {}).toList ae)::([(E,cel (vs++sp) ae)]++(D++(T++(K++L)))))))):=h
    rw[aN (by omega)]
    have f3:=pB g (fT x)
    refine ih (gu g (fT x)) (a6++v.C.toList) (D++T) (j+1) d2 d3 f0 c1 KM' w e7 e1 (by omega) hb (by omega) (by omega) c8 c9 ?_ (λw u M b6 h=>b5 w u M b6 h.re)
    exact Sat.less [(b4,cel v.C.toList ae)] h
 exact e8 b7 vs KM b8 [] [] [] 0 none 0 [] [] [] w rfl rfl (by omega) rfl (lA1 _) (lA1 _) .nil (Sl.nil 10 ae) (by simpa using h) (λw u M b6 h=>b5 w u M b6 (by simpa using h))
mutual
def ra:ND->Prop
 | .mk h ks=>h.text.length<1073741824/\i7 ks
def i7:List ND->Prop
 | []=>True
 |k::ks=>ra k/\i7 ks
end
theorem gp {h:NH}{g:List ND}:ra (.mk h g)<->h.text.length<1073741824/\i7 g:=by rw[ra]
theorem kl {k:ND}{g:List ND}:i7 (k::g)<->ra k/\i7 g:=by rw[i7]
theorem tX {h0:NH}{W:List ND}{qa0 q:OA}{ca0 n c:Nat}{vs:List Value}{RM KM:List ai}(b4:WholeGs W vs KM)(a7:Sl 10 ae q n c vs RM)(b7:n<1073741824):Dy (.mk h0 W) (h0.nd qa0 ca0 q n c) (RM++KM):=by
 intro σ R L w h b5
 refine cY.sound ?_
 refine Sat.bx h λb1 w h=>?_
 refine Sat.bx h λO w h=>?_
 have h:Sat σ w ((O,cel (N10.C {}).toList ae)::(b1,cel (h0.nd qa0 ca0 q n c).C.toList ae)::(RM++KM++L)):=h
 refine h.ldB10 (h0.nd qa0 ca0 q n c) (.tail _ (.head _)) ?_
 refine Sat.bx h λI w h=>?_
 have h:Sat σ w ((I,cel (N10.C {}).toList ae)::(O,cel (N10.C {}).toList ae)::(b1,cel (h0.nd qa0 ca0 q n c).C.toList ae)::(RM++KM++L)):=h
 refine h.st10 0 {} (h0.nd qa0 ca0 q n c) λw h=>?_
 refine Sat.st h (k:=0) rfl (by show 8<10;decide) trivial rfl λw h=>?_
 refine Sat.st h (k:=0) rfl (by show 9<10;decide) trivial rfl λw h=>?_
 let V:NH:= {h0 with s:=0,e:=0}
 have h:Sat σ w ((I,cel (V.nd qa0 ca0 q n c).C.toList ae)::(O,cel (N10.C {}).toList ae)::(b1,cel (h0.nd qa0 ca0 q n c).C.toList ae)::(RM++KM++L)):=h
 have k1: ∀w,Sat σ w ((I,cel ((lO h0).nd qa0 ca0 q n c).C.toList ae)::(O,cel (N10.C {}).toList ae)::(b1,cel (h0.nd qa0 ca0 q n c).C.toList ae)::(RM++KM++L))->cY.k1 R b1 O I w:=by
  intro w h
  refine h.build0 λb8 w h=>?_
  refine⟨_,_,_,Sat.ld h (.tail _ (.tail _ (.tail _ (.head _)))) (i:=6) rfl,?_⟩
  refine h.app0 λqa ca w h=>?_
  refine Sat.st h (k:=0) rfl (by show 6<10;decide) trivial rfl λw h=>?_
  refine Sat.st h (k:=0) rfl (by show 7<10;decide) trivial rfl λw h=>?_
  have h:Sat σ w ((I,cel ((lO h0).nd qa ca none 0 0).C.toList ae)::(O,cel (N10.C {}).toList ae)::(b1,cel (h0.nd qa0 ca0 q n c).C.toList ae)::(RM++KM++L)):=h
  refine⟨_,_,_,Sat.ld h (.tail _ (.tail _ (.head _))) (i:=7) rfl,?_⟩
  refine Al (b1:=b1) (qa:=qa) (ca:=ca) (qa0:=qa0) (ca0:=ca0) (H:=lO h0) (h0:=h0) b4 a7 b7 (h.re) λw u M b6 h=>b5 w u M ?_ h
  rw[fT];exact b6
 have a6:h0.kind=6\/h0.kind=5\/h0.kind=12->lO h0= {V with text:= []}:=by
  intro a
  unfold lO
  rw[if_pos a]
 have U:(h0.kind=6\/h0.kind=5\/h0.kind=12)->stV w (hZ I 1) (hX (hP #[])) λw=>cY.k1 R b1 O I w:=by
  intro a
  refine Sat.st h (k:=0) rfl (by show 1<10;decide) trivial rfl λw h=>k1 w ?_
  rw[a6 a]
  exact h
 refine⟨_,Sat.ld h (.tail _ (.tail _ (.head _))) (i:=0) rfl,bp (λE=>?_) λE=>?_⟩
 ·have E:(((h0.kind:Nat):Int)==((6:Nat):Int))=true:=E
  rw[hU,decide_eq_true_eq] at E
  exact U (.inl E)
 have E:(((h0.kind:Nat):Int)==((6:Nat):Int))=false:=E
 rw[hU,decide_eq_false_iff_not] at E
 refine⟨_,Sat.ld h (.tail _ (.tail _ (.head _))) (i:=0) rfl,bp (λy=>?_) λy=>?_⟩
 ·have y:(((h0.kind:Nat):Int)==((5:Nat):Int))=true:=y
  rw[hU,decide_eq_true_eq] at y
  exact U (.inr (.inl y))
 have y:(((h0.kind:Nat):Int)==((5:Nat):Int))=false:=y
 rw[hU,decide_eq_false_iff_not] at y
 refine⟨_,Sat.ld h (.tail _ (.tail _ (.head _))) (i:=0) rfl,bp (λg=>?_) λg=>?_⟩
 ·have g:(((h0.kind:Nat):Int)==((12:Nat):Int))=true:=g
  rw[hU,decide_eq_true_eq] at g
  exact U (.inr (.inr g))
 have g:(((h0.kind:Nat):Int)==((12:Nat):Int))=false:=g
 rw[hU,decide_eq_false_iff_not] at g
 refine k1 w ?_
 have:lO h0=V:=by unfold lO;rw[if_neg (by omega)]
 rw[this]
 exact h
theorem FF {xs:List ND}{vs:List Value}{M:List ai}(h:NDs xs vs M):i7 xs->WholeGs xs vs M:=by
 induction h with
 |nil=>exact λ_=> .nil
 |cons a1 a2 a3 a4 y g=>
  intro V
  obtain⟨E,O⟩:=kl.1 V
  obtain⟨U,I⟩:=gp.1 E
  exact .cons (tX (y I) a3 a1) rfl U (g O)

theorem Sat.buildN (h:Sat σ w L)(v:N10){K:OA->Nat->Nat->World->Prop}(O: ∀b g,Sat σ g ((b,cel v.C.toList ae)::L)->K (kE b) 1 1 g):
 ∃(q:OA),∃(n:Nat),∃(c:Nat),∃g,(Instr.buildSlice au 1 #[(0,v.V)]).run P w= .ok (hT q n c) g/\K q n c g:=by
 have E:=run_buildSlice (P:=P) w au ae 1 #[(0,v.V)] v.V.cells rowND.i rowND.z rowND.ht rowND.hi rowND.hz (by rw[rowND.hs];decide) (by rw[rowND.hs];decide) (by rw[rowND.hs];exact z6 v)
 refine⟨_,_,_,_,E,?_⟩
 have y:=h.alc v.C.toList ae
 have I:YtendaipfdnhnaaaGreatDoor.alc w v.C.toList.toArray ae=w.alloc (.cells v.V.cells ae):=rfl
 rw[I] at y
 exact O _ _ y
theorem slN {b:Nat}{v:N10}:Sl 10 ae (kE b) 1 1 v.C.toList [(b,cel v.C.toList ae)]:=⟨rfl,lA1 _,.inr ⟨b,[],rfl,by rw[lG0],rfl⟩⟩
theorem HG {x:IN}{u:N16}{M:List ai}(I:NodeAt x u M)(E:x.fenced):GK x u M:=by
 obtain⟨h,O,q,n,c,vs,RM,KM,rfl,rfl,rfl,a,b,d,e⟩:=I
 obtain⟨g,y⟩:=da.1 E
 exact xN (HF d y) e b g
theorem FG {x:ND}{u:N10}{M:List ai}(y:NodeDt x u M)(g:ra x):Dy x u M:=by
 obtain⟨h,E,qa,ca,q,n,c,vs,RM,KM,rfl,rfl,rfl,b,d,e⟩:=y
 exact tX (FF d (gp.1 g).2) e b

def cat (g l:List ND):List ND:=l.foldl gu g
theorem ly (g:List ND)(x:ND)(l:List ND):cat g (x::l)=cat (gu g x) l:=rfl
theorem ma (g a b:List ND):cat g (a++b)=cat (cat g a) b:=by simp[cat]
def plN (s:List UInt8):ND:= .mk {kind:=20,text:=s} []
theorem DH: ∀(a:List ND) (g x:ND),gu (a++ [g]) x=a++gu [g] x
 | [],g,x=>rfl
 | [z],g,x=>by
  show gu (z::g:: []) x=z::gu [g] x
  rw[gu]
 |z::z2::a,g,x=>by
  have E:=DH (z2::a) g x
  rw[lR0] at E
  rw[lR0,lR0,lR0]
  rw[gu,E]
theorem ug (a:List ND)(h:NH)(I:List ND)(x:ND)(W:h.kind=20)(V:x.h.kind=20):gu (gu a (.mk h I)) x=gu a (.mk {h with text:=h.text++x.h.text} I)\/ ∃m g E,a=m++ [.mk g E]/\g.kind=20/\gu (gu a (.mk h I)) x=m++ [.mk {g with text:=g.text++h.text++x.h.text} E]:=by
 rcases lX1 a with rfl|⟨m,y,rfl⟩
 ·left
  show gu [.mk h I] x= [_]
  rw[gu,if_pos ⟨V,W⟩]
 ·rw[lG2,DH]
  cases y with
  |mk g E=>
   by_cases O:g.kind=20
   ·right
    refine⟨m,g,E,rfl,O,?_⟩
    have e:gu [.mk g E] (.mk h I)= [.mk {g with text:=g.text++h.text} E]:=by rw[gu,if_pos ⟨W,O⟩];rfl
    rw[e,DH,gu,if_pos ⟨V,O⟩]
   ·left
    have e:gu [.mk g E] (.mk h I)= [.mk g E]++ [.mk h I]:=by rw[gu,if_neg λU=>O U.2];rfl
    rw[e,<-lD0,DH,gu,if_pos ⟨V,W⟩,DH,gu,if_neg λU=>O U.2]
    simp
theorem B7 (a:List ND)(s t:List UInt8):gu (gu a (plN s)) (plN t)=gu a (plN (s++t)):=by
 rcases ug a {kind:=20,text:=s} [] (plN t) rfl rfl with h|⟨m,g,y,rfl,E,h⟩
 ·exact h
 ·have e:gu [.mk g y] (plN (s++t))= [.mk {g with text:=g.text++(s++t)} y]:=by rw[gu,if_pos ⟨rfl,E⟩];rfl
  have I:gu (gu (m++ [.mk g y]) (plN s)) (plN t)=m++ [.mk {g with text:=g.text++s++t} y]:=h
  rw[I,DH,e,lD0]
theorem GD (g l:List ND)(x:ND):cat g (gu l x)=gu (cat g l) x:=by
 rcases lX1 l with rfl|⟨m,y,rfl⟩
 ·rfl
 ·rw[lG2,DH,ma,ma]
  cases y with
  |mk E O=>
   show cat (cat g m) (gu [.mk E O] x)=gu (gu (cat g m) (.mk E O)) x
   rw[gu]
   split
   ·rename_i I
    rcases ug (cat g m) E O x I.2 I.1 with h|⟨W,V,k2,e,U,h⟩
    ·rw[h];rfl
    ·rw[h,e]
     show gu (W++ [.mk V k2]) _=_
     rw[DH,gu,if_pos ⟨I.2,U⟩]
     simp[ND.h]
   ·rfl
theorem Dh (g a:List ND): ∀l,cat g (cat a l)=cat (cat g a) l:=by
 intro l
 induction l generalizing a with
 |nil=>rfl
 |cons x l y=>rw[ly,ly,y,GD]
theorem Ad (l:List ND):cat [] (cat [] l)=cat [] l:=Dh [] [] l
def tkN:Tk->ND
 | .wd s=>plN s
 | .sp=>plN [32]
 | .nl=> .mk {kind:=21} []
 | .em k s=> .mk {kind:=if k=1 then 24 else 25} [plN s]
 | .cd s=> .mk {kind:=23,text:=s} []
 | .lk s d=> .mk {kind:=27,text:=d} [plN s]
 | .es s=>plN (42::s)
def inT (l:List Tk):List ND:=cat [] (l.map tkN)
theorem p6 (g:List ND)(k:IN)(y:List IN)(h:k.h.kind≠13):fe g (k::y)=fe (gu g (iv k)) y:=by rw[fe,if_neg h]
theorem eA: ∀a b:List Inl,eC (a++b)=eC a++eC b
 | [],b=>rfl
 |t::a,b=>by rw[lR0,eC,eC,eA a b];rfl
theorem eB: ∀(a b:List IN) (g:List ND),fe g (a++b)=fe (fe g a) b
 | [],b,g=>by rw[fe];rfl
 |x::a,b,g=>by rw[lR0,fe,fe,eB a b]
def plM (g:List ND)(p:List UInt8):List ND:=if p= [] then g else gu g (plN p)
theorem oB (g:List ND)(p:List UInt8):fe g (eC (fl p))=plM g p:=by
 unfold fl plM
 split
 ·rfl
 ·rw[eC,eC,p6 _ _ _ (by show (20:Nat)≠13;decide)]
  rfl
theorem Cd {g:List ND}{p s:List UInt8}(hs:s≠ []):plM g (p++s)=gu (plM g p) (plN s):=by
 unfold plM
 rw[if_neg (by simp[hs])]
 split
 ·rename_i h;rw[h];rfl
 ·rw[B7]
theorem nS: ∀(l:List Tk) (n:Nat) (p:List UInt8) (g:List ND),okT n l->fe g (eC (tkG Tk.out p l))=cat (plM g p) (l.map tkN)
 | [],n,p,g,_=>oB g p
 | .wd s::r,n,p,g,h=>by
  rw[tkG,nS r 2 (p++s) g h.2.2,Cd h.2.1.ne];rfl
 | .sp::r,n,p,g,h=>by
  rw[tkG,nS r 1 (p++ [32]) g h.2,Cd (by simp)];rfl
 | .es s::r,n,p,g,h=>by
  rw[tkG,eA,eB,oB,eC,p6 _ _ _ (by decide),nS r 2 s _ h.2.2,lO1,ly]
  congr 1
  have e:plM (gu (plM g p) (plN [42])) s=gu (gu (plM g p) (plN [42])) (plN s):=by unfold plM;rw[if_neg h.2.1.ne]
  have y:iv (Bo (.esc [42]))=plN [42]:=rfl
  rw[y,e,B7];rfl
 | .nl::r,n,p,g,h=>by
  rw[tkG,eA,eA,eB,eB,oB,nS r 0 [] _ h.2,lO1,ly]
  rfl
 | .em k s::r,n,p,g,h=>by
  rw[tkG,eA,eA,eB,eB,oB,nS r 2 [] _ h.2.2.2,lO1,ly]
  rcases h.2.2.1 with rfl|rfl<;>rfl
 | .cd s::r,n,p,g,h=>by
  rw[tkG,eA,eA,eB,eB,oB,nS r 2 [] _ h.2.2,lO1,ly]
  rfl
 | .lk s d::r,n,p,g,h=>by
  rw[tkG,eA,eA,eB,eB,oB,nS r 2 [] _ h.2.2.2,lO1,ly]
  rfl
theorem zl {l:List Tk}(h:okT 0 l):fe [] (eC (tkG Tk.out [] l))=inT l:=nS l 0 [] [] h
def DS (x:ND):Prop:=fT x=x
theorem tY: ∀(l g:List ND),(∀x∈l,DS x)->ff g l=cat g l
 | [],g,_=>by rw[ff];rfl
 |x::l,g,h=>by
  rw[ff,h x (.head _),tY l _ λI E=>h I (.tail _ E)];rfl
theorem Gn (t:Tk):DS (tkN t):=by
 cases t with
 |em k s=>by_cases g:k=1<;>simp only[tkN,g,if_true,if_false]<;>rfl
 |_=>rfl
theorem Ew {a:List ND}{x:ND}(O: ∀g∈a,DS g)(V:DS x): ∀g∈gu a x,DS g:=by
 rcases lX1 a with rfl|⟨m,g,rfl⟩
 ·intro z hz
  obtain rfl:=lN0.1 hz
  exact V
 ·rw[lG2] at O⊢
  rw[DH]
  have E:=O g (by simp)
  intro z hz
  rcases lP0.1 hz with hz|hz
  ·exact O z (by simp[hz])
  ·cases g with
   |mk I a7=>
    rw[gu] at hz
    split at hz
    ·rename_i W
     obtain rfl:=lN0.1 hz
     unfold DS at E⊢
     rw[fT] at E⊢
     obtain⟨U,a6⟩:=ND.mk.inj E
     rw[a6]
     congr 1
     have a1:I.s=0:=(congrArg NH.s U).symm
     have a2:I.e=0:=(congrArg NH.e U).symm
     unfold lO
     rw[if_neg (by simp[W.2])]
     cases I
     simp_all
    ·simp only[lW0,lF1,or_false] at hz
     rcases hz with rfl|rfl
     ·exact E
     ·exact V
theorem zU: ∀(l E:List ND),(∀g∈E,DS g)->(∀x∈l,DS x)-> ∀g∈cat E l,DS g
 | [],E,ha,_=>ha
 |x::l,E,ha,h=>zU l _ (Ew ha (h x (.head _))) λg I=>h g (.tail _ I)
theorem Gp (l:List Tk): ∀E∈inT l,DS E:=zU _ [] (λ_ h=>by cases h) λx g=>by
 obtain⟨t,_,rfl⟩:=lU1.1 g
 exact Gn t
theorem uQ (l:List Tk):ff [] (inT l)=inT l:=by
 rw[tY _ _ (Gp l)]
 exact Ad _

def lz (gap:Bool)(its:List (List BN)):Bool:=(gap && decide (2<=its.length))||its.any λit=>decide (2<=it.length)
mutual
def mI (f:Nat):BN->ND
 | .para ls=> .mk {kind:=6,s:=f,e:=f+ls.length - 1} (inT (fg ls))
 | .head lv x=> .mk {kind:=5,num:=(lv:Nat),s:=f,e:=f} (inT (d4 x))
 | .hr=> .mk {kind:=9,s:=f,e:=f} []
 | .code w ls=> .mk {kind:=7,title:=w,text:=dI (ls.map qP),s:=f,e:=f+ls.length+1} []
 | .setx c ls=> .mk {kind:=5,num:=(Bm c:Nat),s:=f,e:=f+ls.length} (inT (fg ls))
 | .quote bs=> .mk {kind:=2,s:=f,e:=f+(aE bs).tail.length - 1} (lM 1 bs)
 | .list c num gap its=> .mk {kind:=3,num:=if c=46\/c=41 then (num:Nat) else -1,char:= [c],loose:=lz gap its,s:=f,e:=f+(dB c gap num its).length - 1} (ut gap its)
def lM (f:Nat):List BN->List ND
 | []=> []
 |b::r=>mI f b::lM (f+(bg b).length+1) r
def ut (gap:Bool):List (List BN)->List ND
 | []=> []
 |it::r=> .mk {kind:=4,s:=1,e:=(aE it).tail.length} (lM 1 it)::vy gap (aE it).tail.length r
def vy (gap:Bool)(n:Nat):List (List BN)->List ND
 | []=> []
 |it::r=> .mk {kind:=4,s:=n+gap.toNat+1,e:=n+gap.toNat+(aE it).tail.length} (lM 1 it)::vy gap (n+gap.toNat+(aE it).tail.length) r
end
theorem zO {mk:List UInt8}{it:List BN}(h:Hd (aE it).tail):(itL mk (aE it).tail).length=(aE it).tail.length:=by
 obtain⟨c,r,rest,e,_⟩:=h
 exact sY (by rw[e];simp)
theorem lastE (c:UInt8)(gap:Bool): ∀(l:List (List BN)) (num n:Nat) (x:IN),okJ l->x.h.e=n->((x::ja c gap num n l).getLast?.map λx=>x.h.e).getD 0=n+(d9 c gap num l).length
 | [],num,n,x,_,hx=>by simp[ja,d9,hx]
 |it::r,num,n,x,h,hx=>by
  have hd:=(uA.2.2 _ h it (.head _)).2.2
  have g:=zO (mk:=mkI c num) hd
  rw[ja,d9]
  cases gap with
  |true=>
   rw[if_pos rfl,if_pos rfl,lT2,lastE c true r (num+1) (n+1+(aE it).tail.length) _ h.2.2 rfl]
   simp only[lF0,lA0,g];omega
  |false=>
   rw[if_neg (by decide),if_neg (by decide),lT2,lastE c false r (num+1) (n+(aE it).tail.length) _ h.2.2 rfl]
   simp only[lA0,g];omega
theorem endB (b:BN)(h:okB b)(n:Nat)(W:1<=n):(iz n b).h.s=n/\(iz n b).h.e+1=n+(bg b).length:=by
 cases b with
 |para ls=>
  refine⟨rfl,?_⟩
  have:0<ls.length:=lY0.2 h.1
  show n+ls.length - 1+1=n+(ls.map cu).length
  simp;omega
 |head lv x=>exact⟨rfl,rfl⟩
 |hr=>exact⟨rfl,rfl⟩
 |code w ls=>
  refine⟨rfl,?_⟩
  show n+ls.length+1+1=n+(bg (.code w ls)).length
  simp[bg];omega
 |setx c ls=>
  refine⟨rfl,?_⟩
  show n+ls.length+1=n+(bg (.setx c ls)).length
  simp[bg];omega
 |quote bs=>
  refine⟨rfl,?_⟩
  obtain⟨c0,r0,rest,e,_⟩:=uA.2.1 bs h.2 h.1
  show n+(aE bs).tail.length - 1+1=n+((aE bs).tail.map _).length
  rw[lS0,e]
  simp only[lF0];omega
 |list c num gap its=>
  obtain⟨hc,V,y,g⟩:=h
  obtain⟨it,r,rfl⟩:=lZ0 y
  refine⟨by rw[iz];rfl,?_⟩
  have hd:=(uA.2.2 _ g it (.head _)).2.2
  have O:=zO (mk:=mkI c num) hd
  obtain⟨c0,r0,rest,E,_⟩:=hd
  have I:(bg (.list c num gap (it::r))).length=(aE it).tail.length+(d9 c gap (num+1) r).length:=by rw[bg,dB,lA0,O]
  have U:(iz n (.list c num gap (it::r))).h.e=(n - 1+(aE it).tail.length)+(d9 c gap (num+1) r).length:=by
   rw[iz,kA]
   exact lastE c gap r (num+1) _ _ g.2.2 rfl
  rw[I,U,E]
  simp only[lF0]
  omega
theorem Fq: ∀(l:List BN) (n:Nat),okS l->1<=n->Fs (eO n l)=decide (2<=l.length)
 | [],n,_,_=>rfl
 | [b],n,_,_=>rfl
 |b::b2::r,n,h,hn=>by
  have E:=(endB b h.1 n hn).2
  have y:=(endB b2 h.2.2.1 (n+(bg b).length+1) (by omega)).1
  rw[eO,eO,Fs,y]
  have g:decide ((iz n b).h.e+1<n+(bg b).length+1)=true:=by rw[decide_eq_true_eq];omega
  rw[g]
  simp
theorem Ft (c:UInt8)(gap:Bool): ∀(l:List (List BN)) (num n m:Nat) (it:List BN) (h:IH),okJ l->okS it->1<=m->h.e=n->yZ (.mk h (eO m it)::ja c gap num n l)=((gap && decide (1<=l.length))||(decide (2<=it.length)||l.any λit=>decide (2<=it.length)))
 | [],num,n,m,it,h,_,hs,hm,_=>by
  rw[ja,yZ]
  have:=Fq it m hs hm
  simp[IN.kids,this]
 |it2::r,num,n,m,it,h,hj,hs,hm,he=>by
  have O:Fs (eO m it)=decide (2<=it.length):=Fq it m hs hm
  rw[ja]
  cases gap with
  |true=>
   rw[if_pos rfl,yZ]
   have E:decide ((IN.mk h (eO m it)).h.e+1<n+2)=true:=by rw[decide_eq_true_eq];show h.e+1<_;omega
   have I: ∀g y,(IN.mk g y).h=g:=λ_ _=>rfl
   simp only[I] at E⊢
   rw[E];simp
  |false=>
   rw[if_neg (by decide),yZ,Ft c false r (num+1) (n+(aE it2).tail.length) (n+1) it2 _ hj.2.2 hj.2.1 (by omega) rfl]
   have I: ∀g y,(IN.mk g y).h=g:=λ_ _=>rfl
   have U: ∀g y,(IN.mk g y).kids=y:=λ_ _=>rfl
   simp only[I,U,O]
   have E:decide (h.e+1<n+1)=false:=by rw[decide_eq_false_iff_not];omega
   rw[E];simp
theorem Hq {c:UInt8}{gap:Bool}{num n:Nat}{its:List (List BN)}(E:1<=n)(y:its≠ [])(g:okJ its):yZ (kA c gap num n its)=lz gap its:=by
 obtain⟨it,r,rfl⟩:=lZ0 y
 rw[kA,Ft c gap r (num+1) _ n it _ g.2.2 g.2.1 E rfl]
 simp[lz]
theorem Dr (h:IH)(g:List IN):iv (.mk h g)= .mk (qT h) (fe [] g):=by rw[iv]
theorem Af (x:IN):iv x.tgt=iv x/\x.tgt.h.kind=x.h.kind:=by
 cases x with
 |mk h g=>
  by_cases y:h.kind=6
  ·have e:(IN.mk h g).tgt= .mk {h with tight:=true} g:=if_pos y
   rw[e,Dr,Dr]
   exact⟨rfl,rfl⟩
  ·have e:(IN.mk h g).tgt= .mk h g:=if_neg y
   rw[e]
   exact⟨rfl,rfl⟩
theorem xO: ∀(l:List IN) (g:List ND),fe g (l.map IN.tgt)=fe g l
 | [],g=>rfl
 |x::l,g=>by
  rw[lO1,fe,fe,(Af x).1,(Af x).2,xO l]
theorem xM (x:IN):iv x.tgtI=iv x/\x.tgtI.h.kind=x.h.kind:=by
 cases x with
 |mk h g=>exact⟨by rw[IN.tgtI,iv,iv,xO],rfl⟩
theorem uM: ∀(l:List IN) (g:List ND),fe g (l.map IN.tgtI)=fe g l
 | [],g=>rfl
 |x::l,g=>by
  rw[lO1,fe,fe,(xM x).1,(xM x).2,uM l]
theorem um {ls:List LT}(h:okLs ls):okT 0 (fg ls):=pG h.1 λx g=>(h.2.2 x g).1
theorem yI {x:LT}(h:wV x):okT 0 (d4 x):=by
 have:=rV (r:= []) h rfl
 rwa [lG0] at this
theorem AB (n:Nat)(b:BN):(iz n b).h.kind≠13:=by
 cases b<;>simp[iz,IN.h,xZ]
theorem D6:(∀b,okB b-> ∀n f,1<=n->iv (iz n b)=fT (mI f b))/\(∀l,okS l-> ∀n f g,1<=n->fe g (eO n l)=ff g (lM f l))/\ ∀l,okJ l-> ∀(c:UInt8) (gap:Bool) (num n m:Nat) g,(fe g (ja c gap num n l)=ff g (vy gap m l))/\(1<=n->fe g (kA c gap num n l)=ff g (ut gap l)):=by
 refine BN.ind (P:=λb=>okB b-> ∀n f,1<=n->iv (iz n b)=fT (mI f b)) (S:=λl=>okS l-> ∀n f g,1<=n->fe g (eO n l)=ff g (lM f l)) (J:=λl=>okJ l-> ∀(c:UInt8) (gap:Bool) (num n m:Nat) g,(fe g (ja c gap num n l)=ff g (vy gap m l))/\(1<=n->fe g (kA c gap num n l)=ff g (ut gap l))) ?_ ?_ ?_ ?_ ?_ ?_ ?_ ?_ ?_ ?_ ?_
 ·intro ls h n f _
  rw[iz,mI,iv,fT,zl (um h),uQ];rfl
 ·intro lv x h n f _
  rw[iz,mI,iv,fT,zl (yI h.2.1),uQ];rfl
 ·intro _ n f _
  rw[iz,mI,iv,fT];rfl
 ·intro w ls _ n f _
  rw[iz,mI,iv,fT];rfl
 ·intro c ls h n f _
  rw[iz,mI,iv,fT,zl (um h.2),uQ];rfl
 ·intro bs I h n f y
  rw[iz,mI,iv,fT,I h.2 n 1 [] y];rfl
 ·intro c num gap its I h n f y
  obtain⟨hc,c1,b4,U⟩:=h
  have b7:=Hq (c:=c) (gap:=gap) (num:=num) y b4 U
  rw[iz,mI,xZ,iv,fT,b7]
  have e:fe [] (if lz gap its then kA c gap num n its else (kA c gap num n its).map IN.tgtI)=ff [] (ut gap its):=by
   split
   ·exact(I U c gap num n 0 []).2 y
   ·rw[uM];exact(I U c gap num n 0 []).2 y
  rw[e];rfl
 ·intro _ n f g _
  rw[eO,lM,fe,ff]
 ·intro b r b3 b5 h n f g y
  rw[eO,lM,p6 _ _ _ (AB n b),ff,b3 h.1 n f y]
  exact b5 h.2.2 _ _ _ (by omega)
 ·intro _ c gap num n m g
  refine⟨?_,λ_=>?_⟩
  ·rw[ja,vy,fe,ff]
  ·rw[kA,ut,fe,ff]
 ·intro it r a7 b6 h c gap num n m g
  have O: ∀(E:IH) (a6:NH) (k W V:Nat) (g:List ND),1<=k->E.kind=4->qT E=lO a6->fe g (.mk E (eO k it)::ja c gap (num+1) W r)=ff g (.mk a6 (lM 1 it)::vy gap V r):=by
   intro E a6 k W V g b9 c2 b8
   rw[p6 _ _ _ (by show E.kind≠13;omega),ff,iv,fT,a7 h.2.1 k 1 [] b9,b8]
   exact(b6 h.2.2 c gap (num+1) W V _).1
  refine⟨?_,λy=>?_⟩
  ·rw[ja,vy]
   split
   ·exact O _ _ _ _ _ _ (by omega) rfl rfl
   ·exact O _ _ _ _ _ _ (by omega) rfl rfl
  ·rw[kA,ut]
   exact O _ _ _ _ _ _ y rfl rfl

def Wa (s:List UInt8):Prop:=s≠ []/\(∀c∈s,97<=c.toNat/\c.toNat<=122)/\s.length<=4
def tkA:Tk->Prop
 | .wd s=>Wa s
 | .em k s=>Wa s/\(k=1\/k=2)
 | .cd s=>Wa s
 | .lk s d=>Wa s/\ ∃w,Wa w/\d=47::w
 | .es s=>Wa s
 |_=>False
def lnA (x:LT):Prop:=(Wa x.1/\ ∀t∈x.2,tkA t)/\x.2.length<=2
def lsA (ls:List LT):Prop:=ls≠ []/\ls.length<=3/\ ∀x∈ls,lnA x
def Adj (b:BN)(r:List BN):Prop:= ∀c,(r.head?.bind bcB)=some c->bcB b≠some c
mutual
def abB:BN->Prop
 | .para ls=>lsA ls
 | .head lv x=>(1<=lv/\lv<=6)/\lnA x
 | .hr=>True
 | .code w ls=>(w= []\/Wa w)/\ls≠ []/\ls.length<=3/\ ∀x∈ls,x.1<=2/\Wa x.2
 | .setx c ls=>(c=61\/c=45)/\lsA ls
 | .quote bs=>bs≠ []/\abS bs
 | .list c num gap its=>(c=45\/c=43\/c=46\/c=41)/\num+its.length<=90/\its≠ []/\abJ its
def abS:List BN->Prop
 | []=>True
 |b::r=>abB b/\Adj b r/\abS r
def abJ:List (List BN)->Prop
 | []=>True
 |it::r=>it≠ []/\abS it/\abJ r
end
theorem Wa.wd {s:List UInt8}(h:Wa s):WdP s:=FH h.1 h.2.1 (by have:=h.2.2;omega)
theorem Wa.ch {s:List UInt8}(h:Wa s): ∀c∈s,chB c:=λc hc=>rD (h.wd.by_ c hc)
theorem EY {c:UInt8}(h:97<=c.toNat/\c.toNat<=122):ze c=true/\lG c=false:=by
 have:(List.range 256).all (λn=>(!(decide (97<=n) && decide (n<=122)))||(ze (UInt8.ofNat n) && !lG (UInt8.ofNat n)))=true:=by kernel_rfl
 have:=lD2.1 this c.toNat (lV2.2 c.toNat_lt)
 rw[lZ3] at this
 simpa[h.1,h.2] using this
theorem Wa.dest {s:List UInt8}(h:Wa s):DsP (47::s)/\ ∀c∈(47::s:List UInt8),chB c:=by
 refine⟨⟨by simp,λc hc=>?_,by have:=h.2.2;simp;omega⟩,λc hc=>?_⟩
 ·cases hc with
  |head=>exact⟨by decide,by decide⟩
  |tail _ hc=>exact EY (h.2.1 c hc)
 ·cases hc with
  |head=>exact⟨by decide,by decide,by decide⟩
  |tail _ hc=>exact h.ch c hc
theorem tkA.ok {t:Tk}(h:tkA t):GR t/\dsOK t:=by
 cases t with
 |wd s=>exact⟨Wa.wd h,trivial⟩
 |sp=>exact h.elim
 |nl=>exact h.elim
 |em k s=>exact⟨⟨h.1.wd,h.2⟩,trivial⟩
 |cd s=>exact⟨Wa.wd h,trivial⟩
 |lk s d=>
  obtain⟨y,w,g,rfl⟩:=h
  exact⟨⟨y.wd,g.dest.1⟩,g.dest.2⟩
 |es s=>exact⟨Wa.wd h,trivial⟩
theorem lnA.ok {x:LT}(h:lnA x):wV x/\Gg x:=⟨⟨h.1.1.wd,λt ht=>(h.1.2 t ht).ok.1⟩,λt ht=>(h.1.2 t ht).ok.2⟩
theorem lsA.ok {ls:List LT}(h:lsA ls):okLs ls/\ ∀x∈ls,Gg x:=⟨⟨h.1,h.2.1,λx g=>⟨(h.2.2 x g).ok.1,(h.2.2 x g).2⟩⟩,λx g=>(h.2.2 x g).ok.2⟩
theorem Bg:(∀b,abB b->okB b/\dsB b)/\(∀l,abS l->okS l/\dsS l)/\ ∀l,abJ l->okJ l/\dsJ l:=by
 refine BN.ind (P:=λb=>abB b->okB b/\dsB b) (S:=λl=>abS l->okS l/\dsS l) (J:=λl=>abJ l->okJ l/\dsJ l) ?_ ?_ ?_ ?_ ?_ ?_ ?_ ?_ ?_ ?_ ?_
 ·intro ls h
  exact lsA.ok h
 ·intro lv x h
  exact⟨⟨h.1,h.2.ok.1,h.2.2⟩,h.2.ok.2⟩
 ·intro _
  exact⟨trivial,trivial⟩
 ·intro w ls h
  obtain⟨g,E,y,O⟩:=h
  have U:(∀c∈w,Bn c=true)/\w.length<=100/\ ∀c∈w,chB c:=by
   rcases g with rfl|g
   ·exact⟨λc hc=>absurd hc lF1,lB2 _,λc hc=>absurd hc lF1⟩
   ·exact⟨λc hc=>(qc (g.2.1 c hc)).2.2.2.2.2,by have:=g.2.2;omega,g.ch⟩
  exact⟨⟨U.1,U.2.1,E,y,λx b3=>⟨(O x b3).1,(O x b3).2.wd⟩⟩,U.2.2⟩
 ·intro c ls h
  exact⟨⟨h.1,h.2.ok.1⟩,h.2.ok.2⟩
 ·intro bs I h
  exact⟨⟨h.1,(I h.2).1⟩,(I h.2).2⟩
 ·intro c num gap its I h
  obtain⟨g,E,y,O⟩:=h
  exact⟨⟨g,E,y,(I O).1⟩,(I O).2⟩
 ·intro _
  exact⟨trivial,trivial⟩
 ·intro b r W a7 h
  obtain⟨g,E,y⟩:=h
  exact⟨⟨(W g).1,E,(a7 y).1⟩,⟨(W g).2,(a7 y).2⟩⟩
 ·intro _
  exact⟨trivial,trivial⟩
 ·intro it r a6 V h
  obtain⟨g,E,y⟩:=h
  exact⟨⟨g,(a6 E).1,(V y).1⟩,⟨(a6 E).2,(V y).2⟩⟩
def kdOK (odd:Bool)(b:BN):Prop:= ∀c,bcB b=some c->if odd then c=43\/c=41 else c=45\/c=46
def alt:Bool->List BN->Prop
 |_,[]=>True
 |o,b::r=>kdOK o b/\alt (!o) r
def Fi (n:Nat):Bool:=n%2==1
theorem Ag: ∀(l:List BN) (o:Bool) (b:BN),alt o l->kdOK (o ^^ Fi l.length) b->alt o (l++ [b])
 | [],o,b,_,h=>⟨by simpa[Fi] using h,trivial⟩
 |x::l,o,b,h,hb=>by
  refine⟨h.1,Ag l (!o) b h.2 ?_⟩
  have e:(!o ^^ Fi l.length)=(o ^^ Fi (x::l).length):=by
   simp only[lF0,Fi]
   rcases Nat.mod_two_eq_zero_or_one l.length with h0|h0
   ·have:(l.length+1)%2=1:=by omega
    rw[h0,this];cases o<;>rfl
   ·have:(l.length+1)%2=0:=by omega
    rw[h0,this];cases o<;>rfl
  rw[e];exact hb
theorem zm: ∀(l:List BN) (o:Bool),alt o l->(∀b∈l,abB b)->abS l
 | [],_,_,_=>trivial
 |b::r,o,h,hb=>by
  refine⟨hb b (.head _),λc hc E=>?_,zm r (!o) h.2 λx I=>hb x (.tail _ I)⟩
  cases r with
  |nil=>cases hc
  |cons b2 r=>
   have y:=h.1 c E
   have g:=h.2.1 c hc
   cases o
   ·rcases y with rfl|rfl<;>rcases g with g|g<;>exact absurd g (by decide)
   ·rcases y with rfl|rfl<;>rcases g with g|g<;>exact absurd g (by decide)
theorem sR: ∀(l:List BN) (b:BN),aE (l++ [b])=aE l++ []::bg b
 | [],b=>by show []::(bg b++ [])=_;rw[lG0];rfl
 |x::l,b=>by
  have g:=sR l b
  show []::(bg x++aE (l++ [b]))=([]::(bg x++aE l))++_
  rw[g];simp
theorem wX: ∀(l:List BN) (f:Nat) (b:BN),lM f (l++ [b])=lM f l++ [mI (f+(aE l).length) b]
 | [],f,b=>by rw[lT0,lM,lM,lM];rfl
 |x::l,f,b=>by
  have g:=wX l (f+(bg x).length+1) b
  rw[lR0,lM,g,lM]
  have e:(aE (x::l)).length=(bg x).length+1+(aE l).length:=by simp[aE];omega
  rw[e,lR0]
  congr 4
  omega
theorem zD: ∀(l:List BN) (d:Nat) (b:BN),smS d l->smB d b->smS d (l++ [b])
 | [],d,b,_,h=>⟨h,trivial⟩
 |x::l,d,b,h,hb=>⟨h.1,zD l d b h.2 hb⟩
theorem B1:(∀b d e,d<=e->smB d b->smB e b)/\(∀l d e,d<=e->smS d l->smS e l)/\ ∀l d e,d<=e->smJ d l->smJ e l:=by
 refine BN.ind (P:=λb=> ∀d e,d<=e->smB d b->smB e b) (S:=λl=> ∀d e,d<=e->smS d l->smS e l) (J:=λl=> ∀d e,d<=e->smJ d l->smJ e l) ?_ ?_ ?_ ?_ ?_ ?_ ?_ ?_ ?_ ?_ ?_
 ·intro ls d e _ _;simp only[smB]
 ·intro lv x d e _ _;simp only[smB]
 ·intro d e _ _;simp only[smB]
 ·intro w ls d e _ _;simp only[smB]
 ·intro c ls d e _ _;simp only[smB]
 ·intro bs y d e g h
  simp only[smB] at h⊢
  exact⟨by omega,h.2.1,y _ _ (by omega) h.2.2⟩
 ·intro c num gap its y d e g h
  simp only[smB] at h⊢
  exact⟨by omega,h.2.1,y _ _ (by omega) h.2.2⟩
 ·intro d e _ _;exact trivial
 ·intro b r I U d e g h
  exact⟨I _ _ g h.1,U _ _ g h.2⟩
 ·intro d e _ _;exact trivial
 ·intro it r O E d e g h
  exact⟨h.1,O _ _ g h.2.1,E _ _ g h.2.2⟩
theorem sS (c:UInt8)(gap:Bool): ∀(l:List (List BN)) (num:Nat) (it:List BN),d9 c gap num (l++ [it])=d9 c gap num l++((if gap then [[]] else [])++itL (mkI c (num+l.length)) (aE it).tail)
 | [],num,it=>by
  rw[lT0,d9,d9]
  cases gap<;>simp[d9]
 |x::l,num,it=>by
  have g:=sS c gap l (num+1) it
  have e:num+1+l.length=num+(x::l).length:=by simp;omega
  rw[lR0,d9,g,e,d9]
  cases gap<;>simp
theorem yP (c:UInt8)(gap:Bool)(l:List (List BN))(num:Nat)(it:List BN):dB c gap num (l++ [it])=dB c gap num l++((if gap && !l.isEmpty then [[]] else [])++itL (mkI c (num+l.length)) (aE it).tail):=by
 cases l with
 |nil=>
  rw[lT0,dB,dB,d9]
  simp
 |cons x l=>
  have e:num+1+l.length=num+(x::l).length:=by simp;omega
  rw[lR0,dB,sS,e,dB]
  cases gap<;>simp
def lawI (s:Nat)(it:List BN):ND:= .mk {kind:=4,s:=s+1,e:=s+(aE it).tail.length} (lM 1 it)
theorem wY (gap:Bool)(c:UInt8): ∀(l:List (List BN)) (n num:Nat) (it:List BN),(∀x∈l,(aE x).tail≠ [])->vy gap n (l++ [it])=vy gap n l++ [lawI (n+(d9 c gap num l).length+gap.toNat) it]
 | [],n,num,it,_=>by
  rw[lT0,vy,vy,vy,d9];rfl
 |x::l,n,num,it,h=>by
  have E:=wY gap c l (n+gap.toNat+(aE x).tail.length) (num+1) it λO I=>h O (.tail _ I)
  have g:=sY (mk:=mkI c num) (h x (.head _))
  rw[lR0,vy,E,vy,lR0]
  have e:(d9 c gap num (x::l)).length=gap.toNat+(aE x).tail.length+(d9 c gap (num+1) l).length:=by
   rw[d9]
   cases gap
   ·simp[g]
   ·simp[g];omega
  rw[e]
  congr 4
  omega
theorem CB (gap:Bool)(c:UInt8)(l:List (List BN))(num:Nat)(it:List BN)(h: ∀x∈l,(aE x).tail≠ []):ut gap (l++ [it])=ut gap l++ [lawI ((dB c gap num l).length+(gap && !l.isEmpty).toNat) it]:=by
 cases l with
 |nil=>
  rw[lT0,ut,ut,dB,vy]
  simp[lawI]
 |cons x l=>
  have g:=sY (mk:=mkI c num) (h x (.head _))
  rw[lR0,ut,wY gap c l _ (num+1) it λI E=>h I (.tail _ E),ut,lR0]
  have e:(dB c gap num (x::l)).length=(aE x).tail.length+(d9 c gap (num+1) l).length:=by rw[dB,lA0,g]
  rw[e]
  cases gap<;>simp
theorem Ge (gap:Bool)(l:List (List BN))(it:List BN):lz gap (l++ [it])=(lz gap l||((gap && !l.isEmpty)||decide (2<=it.length))):=by
 unfold lz
 cases l with
 |nil=>simp
 |cons x l=>
  cases gap
  ·simp[Bool.or_assoc]
  ·simp[Bool.or_assoc]
theorem vV: ∀(l:List (List BN)) (it:List BN),abJ l->it≠ []->abS it->abJ (l++ [it])
 | [],it,_,h1,h2=>⟨h1,h2,trivial⟩
 |x::l,it,h,h1,h2=>⟨h.1,h.2.1,vV l it h.2.2 h1 h2⟩
theorem va: ∀(l:List (List BN)) (d:Nat) (it:List BN),smJ d l->it.length<=2->smS d it->smJ d (l++ [it])
 | [],d,it,_,h1,h2=>⟨h1,h2,trivial⟩
 |x::l,d,it,h,h1,h2=>⟨h.1,h.2.1,va l d it h.2.2 h1 h2⟩
def BArg (σ:Out)(L:List ai)(q:Option Addr)(n:Nat)(vs:List UInt8):Prop:=
 n=vs.length/\ ∀i (hi:i<vs.length),∃a,q=some a/\ ∀w,Sat σ w L->w.cell? (a.add i)=some (.int .u8 (vs[i].toNat:Int))
namespace gK
def bl1 (R:EP)(Xa:BA->BA->Int->Int->WP)(y g:BA)(E I:Int)(w:World):Prop:=
 br (decide (I<E))
 (((g.size+y.size:Nat):Int)<=i64.max/\
 Xa y (g++y) E (i64.wrap (I+1)) w)
 (R (hQ (hX g)) w)
def l1 (R:EP)(E g:BA)(y I:Int)(w:World):Prop:=
 ∀X:BA->BA->Int->Int->WP,(∀E g y I w,bl1 R X E g y I w->X E g y I w)->X E g y I w
end gK
def gK (R:EP)(y:BA)(g:Int)(w:World):Prop:=
 gK.l1 R y (hP #[]) g 0 w
theorem gK.sound {R x0 x1 w}(h:gK R x0 x1 w):callE P jW #[hX x0,hY x1] R w:=
 aG [(43,.lp [1,101,127,147] (gK.bl1 R) λXa=> [])] Tryz.func37 Tryz.call37 h

def SArg (σ:Out)(L:List ai)(q:Option Addr)(n:Nat)(ls:List (List UInt8)):Prop:=
 n=ls.length/\ ∀i (hi:i<ls.length),∃a,q=some a/\ ∀w,Sat σ w L->w.cell? (a.add i)=some (hX (bs ls[i]))
theorem SArg.ofSl {q:Option Addr}{n c:Nat}{ts:List (List UInt8)}{M:List ai}(g:Sl 1 aq q n c (sv ts) M)(E: ∀c∈M,c∈L):SArg σ L q n ts:=by
 have y:=g.1
 rw[kv,lC1] at y
 refine⟨y.symm,λi hi=>?_⟩
 obtain⟨b,sp,rfl,rfl⟩:=g.rowAt (by omega)
 refine⟨_,rfl,λw h=>?_⟩
 rw[lK0,lO0]
 exact Sat.ld h (E _ (.head _)) (by rw[lM0 (by rw[kv];exact hi),ue hi])

theorem u3 {s:List UInt8}{n:Nat}(W:n<1000000)(hs:s.length<1000000)(U:R (hQ (hX (bs (hN n s).flatten))) w):callE P jW #[hX (bs s),hY n] R w:=by
 refine gK.sound ?_
 have y:i64.max=9223372036854775807:=rfl
 intro X g
 have I: ∀k,(hN k s).flatten.length=k*s.length:=by intro k;simp
 have E: ∀k i,i+k=n->X (bs s) (bs (hN i s).flatten) (n:Nat) (i:Int) w:=by
  intro k
  induction k with
  |zero=>
   intro i hi
   obtain rfl:i=n:=hi
   exact g _ _ _ _ _ (af (by simp) U)
  |succ k O=>
   intro i hi
   have V:i*s.length<=1000000*1000000:=lL5 (by omega) (by omega)
   refine g _ _ _ _ _ (ag (by simp;omega) ⟨?_,?_⟩)
   ·rw[y,aJ,aJ,I];omega
   ·rw[bM,aN (by omega)]
    have e:(hN i s).flatten++s=(hN (i+1) s).flatten:=by rw[lY4];simp
    rw[e]
    exact O (i+1) (by omega)
 exact E n 0 (by omega)

structure BS where
 at_:Nat
 size:Int
 flat:Bool
 deep:Int
def bC (b:Nat)(q:OA)(n c:Nat)(s:BS):ai:=(b,cel [hT q n c,hY (s.at_:Nat),hY s.size,hV s.flat,hY s.deep] mY)
def Rd (σ:Out)(L:List ai)(q:OA)(n:Nat)(vs:List UInt8):Prop:=BArg σ L q n vs/\n<=1000
theorem Rd.up {q:OA}{n:Nat}{vs:List UInt8}(h:Rd σ L q n vs)(y: ∀w,Sat σ w L'->Sat σ w L):Rd σ L' q n vs:=
 ⟨⟨h.1.1,λi hi=>by obtain⟨a,I,g⟩:=h.1.2 i hi;exact⟨a,I,λw E=>g w (y w E)⟩⟩,h.2⟩
def BS.same (s s':BS):Prop:=s'.size=s.size/\s'.flat=s.flat/\s'.deep=s.deep
theorem BS.same.refl (s:BS):s.same s:=⟨rfl,rfl,rfl⟩
theorem BS.same.trans {a b c:BS}(y:a.same b)(g:b.same c):a.same c:=⟨g.1.trans y.1,g.2.1.trans y.2.1,g.2.2.trans y.2.2⟩
theorem eX {b:Nat}{q:OA}{n c k:Nat}{vs:List UInt8}{s:BS}(g:Rd σ L q n vs)(a7:1<=k)(W:k<1000)(h:Sat σ w (bC b q n c s::L))(y: ∀w (r:Nat) (s':BS),r<k->s.same s'->Sat σ w (bC b q n c s'::L)->R (hQ (hY (r:Nat))) w):callE P aS #[kT (kE b),hY (k:Nat)] R w:=by
 refine i5.sound ?_
 refine h.tk λw h=>aa (aa ⟨_,Sat.ld h (.head _) (i:=1) rfl,_,_,_,Sat.ld h (.head _) (i:=0) rfl,?_⟩)
 refine bp (λ_=>y w 0 s (by omega) (BS.same.refl s) h) λhc=>?_
 simp only[decide_eq_false_iff_not] at hc
 have I:s.at_<n:=by omega
 have a6:=g.2
 refine aa ⟨_,Sat.ld h (.head _) (i:=1) rfl,aa ?_⟩
 refine Sat.st h (k:=0) rfl (by show 1<5;decide) trivial rfl λw h=>?_
 rw[aN (by omega)] at h
 have h:Sat σ w (bC b q n c {s with at_:=s.at_+1}::L):=h
 refine h.tk λw h=>aa (aa ⟨_,_,_,Sat.ld h (.head _) (i:=0) rfl,((s.at_+1:Nat):Int),Sat.ld h (.head _) (i:=1) rfl,?_⟩)
 have e:i64.wrap (((s.at_+1:Nat):Int) - 1)=(s.at_:Nat):=by rw[il (by omega) (by omega)];congr 1
 have E:s.at_<vs.length:=by rw[<-g.1.1];exact I
 obtain⟨a,rfl,U⟩:=g.1.2 s.at_ E
 rw[e]
 refine⟨by omega,by omega,aa ?_⟩
 rw[lC0,lC1]
 refine⟨_,U w (h.less [bC b (some a) n c {s with at_:=s.at_+1}]),by omega,?_⟩
 have hb:=vs[s.at_].toNat_lt
 have V:i64.wrap ((vs[s.at_].toNat:Nat):Int)=((vs[s.at_].toNat:Nat):Int):=i64_in _ (by omega)
 rw[V]
 have O:Int.tmod ((vs[s.at_].toNat:Nat):Int) (k:Int)=((vs[s.at_].toNat%k:Nat):Int):=rfl
 rw[O]
 exact y w _ {s with at_:=s.at_+1} (Nat.mod_lt _ (by omega)) ⟨rfl,rfl,rfl⟩ h
def GI:List UInt8:= [97,98,99,100,101,102,103,104,105,106,107,108,109,110,111,112,113,114,115,116,117,118,119,120,121,122]
def yH:List UInt8:= [111,110,108,121,119,111,114,100,115]
theorem GZ:(List.range 26).all (λr=>(List.range 4).all λk=>(sub GI r (r+1)++sub yH 0 k).all (λc=>decide (97<=c.toNat) && decide (c.toNat<=122)) && decide ((sub GI r (r+1)++sub yH 0 k).length<=4) && decide (sub GI r (r+1)++sub yH 0 k≠ []))=true:=by kernel_rfl
theorem wa_of {r k:Nat}(hr:r<26)(y:k<4):Wa (sub GI r (r+1)++sub yH 0 k):=by
 have g:=lD2.1 (lD2.1 GZ r (lV2.2 hr)) k (lV2.2 y)
 simp only[lL1,decide_eq_true_eq,lD2] at g
 exact⟨g.2,λc hc=>g.1.1 c hc,g.1.2⟩
theorem oz {b:Nat}{q:OA}{n c:Nat}{vs:List UInt8}{s:BS}(y:Rd σ L q n vs)(h:Sat σ w (bC b q n c s::L))(a6: ∀w (x:List UInt8) (s':BS),Wa x->s.same s'->Sat σ w (bC b q n c s'::L)->R (hQ (hX (bs x))) w):callE P cG #[kT (kE b)] R w:=by
 refine iZ.sound ?_
 refine eX (k:=26) y (by omega) (by omega) h λw r b5 hr a7 h=>⟨_,rfl,?_⟩
 refine h.tk λw h=>?_
 have V:(hP #[97,98,99,100,101,102,103,104,105,106,107,108,109,110,111,112,113,114,115,116,117,118,119,120,121,122])=bs GI:=rfl
 have O:(hP #[111,110,108,121,119,111,114,100,115])=bs yH:=rfl
 have E:(bs GI).size=26:=rfl
 have I:(bs yH).size=9:=rfl
 have b4:i64.max=9223372036854775807:=rfl
 rw[V,aN (by omega),E]
 refine⟨by omega,by omega,by omega,?_⟩
 refine eX (k:=4) y (by omega) (by omega) h λw k U W b3 h=>⟨_,rfl,?_⟩
 have g:=wa_of hr W
 have b6:(0:Nat)=Int.toNat 0:=rfl
 rw[O,I]
 refine⟨by omega,by omega,?_⟩
 rw[lC0,lC0,lC0,cj,cj]
 refine⟨?_,?_⟩
 ·have:=g.2.2
  rw[lA0] at this
  show (((sub GI r (r+1)).length+(sub yH 0 k).length:Nat):Int)<=_
  omega
 ·rw[bM]
  exact a6 w _ U g (a7.trans b3) h

theorem vz {n:Nat}: ∀ls:List (List UInt8),(∀s∈ls,s.length<=n)->(bG [10] ls).length<=ls.length*(n+1)
 | [],_=>by simp[bG]
 | [x],h=>by
  have:=h x (.head _)
  simp[bG];omega
 |x::y::r,h=>by
  have g:=vz (y::r) λz hz=>h z (.tail _ hz)
  have:=h x (.head _)
  have e:bG [10] (x::y::r)=x++10::bG [10] (y::r):=by simp[bG]
  rw[e,lA0,lF0,lF0,lU3]
  omega
theorem A2 (I:op.task=false)(U:op.table=false)(W:op.auto=false)(a6:op.ids=false){ec:ai}(b7:Bh ec){l:List BN}(E:okS l)(hd:dsS l)(g:l≠ [])(c1:(aE l).length<=1300)(b8:dpT l<=12):
 (bG [10] (aE l).tail).length<1000000/\vW [ec] op (bG [10] (aE l).tail) (λb4=>b4=eO 1 l):=by
 have a7:=(Dl I U W a6 b7).2.1 l E g (dpT l) (lA1 _)
 obtain⟨c0,r0,rest,e,b5,_⟩:=uA.2.1 l E g
 have y:=zZ.2.1 l E hd g
 have V:(aE l).tail.length<=1300:=by rw[lP3];omega
 have b9:=vz (n:=768) (aE l).tail λs hs=>by have:=(y.ch s hs).2;omega
 have c2:=lJ2 769 V
 have O:(bG [10] (aE l).tail).length<1000000:=by omega
 obtain⟨m,s,b3,b6⟩:=y.last
 refine⟨O,wI I a7 (c0:=c0) (r0:=r0) (by rw[e];rfl) b5 (by omega) (by omega) (λs hs=>?_) (by rw[b3];simpa using b6) O⟩
 obtain⟨a,b⟩:=y.ch s hs
 exact⟨⟨λh=>(a 10 h).1 rfl,λh=>(a 13 h).2.1 rfl⟩,λh=>(a 0 h).2.2 rfl,by omega⟩
theorem GA {l:List BN}(y:okS l)(g:l.length<=4)(hs:smS 3 l):(aE l).length<=1300/\dpT l<=12:=by
 obtain⟨a,b⟩:=qJ.2.1 l y 3 hs
 have e:NBd 3=323:=by decide
 rw[e] at a
 have:=lJ2 (323+1) g
 exact⟨by omega,by omega⟩
theorem D5 {l:List BN}(g:okS l)(s e:Nat):iv (.mk {kind:=1,s:=s,e:=e} (eO 1 l))=fT (.mk {kind:=1} (lM 1 l)):=by
 rw[iv,fT,D6.2.1 l g 1 1 [] (by omega)];rfl
theorem jI {h:IH}(g:h.kind≠7):(IN.mk h []).fenced:=by
 rw[da];exact⟨λy=>absurd y g,by rw[d8];trivial⟩
theorem tm (s:List UInt8):d8 (eC [.plain s]):=by
 rw[eC,eC,fP]
 exact⟨by rw[Bo];exact jI (by simp),by rw[d8];trivial⟩
theorem uB: ∀ts:List Inl,(∀t∈ts,(Bo t).fenced)->d8 (eC ts)
 | [],_=>by rw[eC,d8];trivial
 |t::ts,h=>by
  rw[eC,fP]
  exact⟨h t (.head _),uB ts λx g=>h x (.tail _ g)⟩
theorem tj {l:List Tk}(h:okT 0 l):d8 (eC (tkG Tk.out [] l)):=by
 refine uB _ λt ht=>?_
 rcases nt l 0 [] t h ht with ⟨s,_,_,rfl⟩|rfl|ht|⟨k,s,_,y,ht⟩|⟨s,_,ht⟩|⟨s,d,_,_,ht⟩
 ·rw[Bo];exact jI (by simp)
 ·rw[Bo];exact jI (by simp)
 ·obtain rfl:=lN0.1 ht
  rw[Bo];exact jI (by simp)
 ·rcases y with rfl|rfl
  ·have ht:t∈ [Inl.emph [42] [.plain s]]:=ht
   obtain rfl:=lN0.1 ht
   rw[Bo,da]
   exact⟨λg=>by simp at g,tm s⟩
  ·have ht:t∈ [Inl.strong [42,42] [.plain s]]:=ht
   obtain rfl:=lN0.1 ht
   rw[Bo,da]
   exact⟨λg=>by simp at g,tm s⟩
 ·have ht:t∈ [Inl.code s]:=ht
  obtain rfl:=lN0.1 ht
  rw[Bo];exact jI (by simp)
 ·have ht:t∈ [Inl.link [.plain s] d [] 0 false]:=ht
  obtain rfl:=lN0.1 ht
  rw[Bo,da]
  exact⟨λg=>by simp at g,tm s⟩
theorem AZ {x:IN}(h:x.fenced):x.tgt.fenced:=by
 cases x with
 |mk g y=>
  rw[da] at h
  by_cases E:g.kind=6
  ·have e:(IN.mk g y).tgt= .mk {g with tight:=true} y:=if_pos E
   rw[e,da]
   exact⟨h.1,h.2⟩
  ·have e:(IN.mk g y).tgt= .mk g y:=if_neg E
   rw[e,da]
   exact⟨h.1,h.2⟩
theorem ph {f:IN->IN}(g: ∀x:IN,x.fenced->(f x).fenced): ∀l:List IN,d8 l->d8 (l.map f)
 | [],_=>by rw[List.map_nil,d8];trivial
 |x::l,h=>by
  rw[fP] at h
  rw[lO1,fP]
  exact⟨g x h.1,ph g l h.2⟩
theorem y7 {x:IN}(h:x.fenced):x.tgtI.fenced:=by
 cases x with
 |mk y g=>
  rw[da] at h
  rw[IN.tgtI,da]
  exact⟨h.1,ph (λ_=>AZ) g h.2⟩
theorem A0:(∀b,okB b-> ∀n,(iz n b).fenced)/\(∀l,okS l-> ∀n,d8 (eO n l))/\ ∀l,okJ l-> ∀(c:UInt8) (gap:Bool) (num n:Nat),d8 (ja c gap num n l)/\d8 (kA c gap num n l):=by
 refine BN.ind (P:=λb=>okB b-> ∀n,(iz n b).fenced) (S:=λl=>okS l-> ∀n,d8 (eO n l)) (J:=λl=>okJ l-> ∀(c:UInt8) (gap:Bool) (num n:Nat),d8 (ja c gap num n l)/\d8 (kA c gap num n l)) ?_ ?_ ?_ ?_ ?_ ?_ ?_ ?_ ?_ ?_ ?_
 ·intro ls h n
  rw[iz,da]
  exact⟨λg=>by simp at g,tj (um h)⟩
 ·intro lv x h n
  rw[iz,da]
  exact⟨λg=>by simp at g,tj (yI h.2.1)⟩
 ·intro h n
  rw[iz];exact jI (by simp)
 ·intro w ls h n
  rw[iz,da]
  exact⟨λ_=>by simp,by rw[d8];trivial⟩
 ·intro c ls h n
  rw[iz,da]
  exact⟨λg=>by simp at g,tj (um h.2)⟩
 ·intro bs I h n
  rw[iz,da]
  exact⟨λg=>by simp at g,I h.2 n⟩
 ·intro c num gap its I h n
  have O:=(I h.2.2.2 c gap num n).2
  rw[iz,xZ,da]
  refine⟨λg=>by simp at g,?_⟩
  split
  ·exact O
  ·exact ph (λ_=>y7) _ O
 ·intro _ n
  rw[eO,d8];trivial
 ·intro b r U V h n
  rw[eO,fP]
  exact⟨U h.1 n,V h.2.2 _⟩
 ·intro _ c gap num n
  rw[ja,kA,d8];exact⟨trivial,trivial⟩
 ·intro it r E y h c gap num n
  refine⟨?_,?_⟩
  ·rw[ja]
   split
   ·rw[fP,da]
    exact⟨⟨λg=>by simp at g,E h.2.1 _⟩,(y h.2.2 c gap (num+1) _).1⟩
   ·rw[fP,da]
    exact⟨⟨λg=>by simp at g,E h.2.1 _⟩,(y h.2.2 c gap (num+1) _).1⟩
  ·rw[kA,fP,da]
   exact⟨⟨λg=>by simp at g,E h.2.1 _⟩,(y h.2.2 c gap (num+1) _).1⟩
theorem zx: ∀(l:List ND) (x:ND),x∈l->x.h.text.length<=mO l
 |y::l,x,h=>by
  cases h with
  |head=>exact Nat.le_add_right _ _
  |tail _ h=>
   have:=zx l x h
   show _<=y.h.text.length+mO l
   omega
theorem uX: ∀(l g:List ND),mO (cat g l)=mO g+mO l
 | [],g=>rfl
 |x::l,g=>by
  rw[ly,uX l,pB]
  show _=mO g+(x.h.text.length+mO l)
  omega
theorem BG: ∀l:List Tk,mO (l.map tkN)<=(tkB l).length
 | []=>lB2 _
 |t::l=>by
  have g:=BG l
  rw[cv,lA0]
  have:(tkN t).h.text.length<=t.B.length:=by
   cases t<;>simp only[tkN,Tk.B,ND.h,plN,lA0,lF0,lK1,lH2,lA1]<;>omega
  show (tkN t).h.text.length+mO (l.map tkN)<=_
  omega
theorem uW (l:List Tk):mO (inT l)<=(tkB l).length:=by
 have:=uX (l.map tkN) []
 have g:=BG l
 unfold inT
 rw[this]
 show 0+_<=_
 omega
theorem Es {Q:ND->Prop}(V: ∀h W O,Q (.mk h O)->Q (.mk W O)){a:List ND}{x:ND}(E: ∀g∈a,Q g)(U:Q x): ∀g∈gu a x,Q g:=by
 rcases lX1 a with rfl|⟨m,g,rfl⟩
 ·intro z hz
  obtain rfl:=lN0.1 hz
  exact U
 ·rw[lG2] at E⊢
  rw[DH]
  have I:=E g (by simp)
  intro z hz
  rcases lP0.1 hz with hz|hz
  ·exact E z (by simp[hz])
  ·cases g with
   |mk a6 a7=>
    rw[gu] at hz
    split at hz
    ·obtain rfl:=lN0.1 hz
     exact V _ _ _ I
    ·simp only[lW0,lF1,or_false] at hz
     rcases hz with rfl|rfl
     ·exact I
     ·exact U
theorem zM {Q:ND->Prop}(I: ∀h V O,Q (.mk h O)->Q (.mk V O)): ∀(l E:List ND),(∀g∈E,Q g)->(∀x∈l,Q x)-> ∀g∈cat E l,Q g
 | [],E,ha,_=>ha
 |x::l,E,ha,h=>zM I l _ (Es I ha (h x (.head _))) λg U=>h g (.tail _ U)
theorem u7: ∀l:List ND,(∀x∈l,ra x)->i7 l
 | [],_=>by rw[i7];trivial
 |x::l,h=>by rw[kl];exact⟨h x (.head _),u7 l λE g=>h E (.tail _ g)⟩
theorem fV:i7 []:=u7 [] λ_ h=>by cases h
theorem zC {s:List UInt8}(h:s.length<1000000):i7 [plN s]:=by
 rw[kl,plN,gp]
 exact⟨⟨by show s.length<_;omega,fV⟩,fV⟩
theorem ro: ∀ {l:List Tk} {n:Nat},okT n l-> ∀t∈l,i7 (tkN t).kids
 | .wd s::r,n,h,t,ht=>by
  cases ht with
  |head=>exact fV
  |tail _ ht=>exact ro h.2.2 t ht
 | .sp::r,n,h,t,ht=>by
  cases ht with
  |head=>exact fV
  |tail _ ht=>exact ro h.2 t ht
 | .nl::r,n,h,t,ht=>by
  cases ht with
  |head=>exact fV
  |tail _ ht=>exact ro h.2 t ht
 | .em k s::r,n,h,t,ht=>by
  cases ht with
  |head=>exact zC (by have:=h.2.1.len;omega)
  |tail _ ht=>exact ro h.2.2.2 t ht
 | .cd s::r,n,h,t,ht=>by
  cases ht with
  |head=>exact fV
  |tail _ ht=>exact ro h.2.2 t ht
 | .lk s d::r,n,h,t,ht=>by
  cases ht with
  |head=>exact zC (by have:=h.2.1.len;omega)
  |tail _ ht=>exact ro h.2.2.2 t ht
 | .es s::r,n,h,t,ht=>by
  cases ht with
  |head=>exact fV
  |tail _ ht=>exact ro h.2.2 t ht
theorem u9 {l:List Tk}{n:Nat}(h:okT n l)(b3:(tkB l).length<1000000):i7 (inT l):=by
 refine u7 _ λx I=>?_
 have E:=zx _ _ I
 have a6:=uW l
 have U:=zM (Q:=λO=>i7 O.kids) (λ_ _ _ h=>h) (l.map tkN) [] (λ_ h=>by cases h) (λO V=>by
  obtain⟨t,ht,rfl⟩:=lU1.1 V
  exact ro h t ht) x I
 cases x with
 |mk W a7=>
  rw[gp]
  exact⟨by have E:W.text.length<=mO (inT l):=E;omega,U⟩
theorem B0:(∀b,okB b-> ∀f,ra (mI f b))/\(∀l,okS l-> ∀f,i7 (lM f l))/\ ∀l,okJ l-> ∀(gap:Bool) (n:Nat),i7 (vy gap n l)/\i7 (ut gap l):=by
 have z:([]:List UInt8).length<1073741824:=by decide
 refine BN.ind (P:=λb=>okB b-> ∀f,ra (mI f b)) (S:=λl=>okS l-> ∀f,i7 (lM f l)) (J:=λl=>okJ l-> ∀(gap:Bool) (n:Nat),i7 (vy gap n l)/\i7 (ut gap l)) ?_ ?_ ?_ ?_ ?_ ?_ ?_ ?_ ?_ ?_ ?_
 ·intro ls h f
  rw[mI,gp]
  exact⟨z,u9 (um h) (by rw[mj];have:=h.len;omega)⟩
 ·intro lv x h f
  rw[mI,gp]
  exact⟨z,u9 (yI h.2.1) (by have:(cu x).length<=710:=jg h.2.1 h.2.2;show (cu x).length<_;omega)⟩
 ·intro h f
  rw[mI,gp]
  exact⟨z,fV⟩
 ·intro w ls h f
  have:=vj ls h.2.2.2.2
  have:=h.2.2.2.1
  rw[mI,gp]
  exact⟨by show (dI (ls.map qP)).length<_;omega,fV⟩
 ·intro c ls h f
  rw[mI,gp]
  exact⟨z,u9 (um h.2) (by rw[mj];have:=h.2.len;omega)⟩
 ·intro bs g h f
  rw[mI,gp]
  exact⟨z,g h.2 1⟩
 ·intro c num gap its g h f
  rw[mI,gp]
  exact⟨z,(g h.2.2.2 gap 0).2⟩
 ·intro _ f
  rw[lM];exact fV
 ·intro b r I O h f
  rw[lM,kl]
  exact⟨I h.1 f,O h.2.2 _⟩
 ·intro _ gap n
  rw[vy,ut];exact⟨fV,fV⟩
 ·intro it r E y h gap n
  rw[vy,ut,kl,kl,gp,gp]
  exact⟨⟨⟨z,E h.2.1 1⟩,(y h.2.2 gap _).1⟩,⟨z,E h.2.1 1⟩,(y h.2.2 gap _).1⟩

theorem sT (x:List UInt8)(its:List Tk)(t:Tk):d4 (x,its++ [t])=d4 (x,its)++ [.sp,t]:=by simp[d4,qB]
theorem Ex (x:List UInt8)(its:List Tk)(t:Tk):inT (d4 (x,its++ [t]))=gu (gu (inT (d4 (x,its))) (plN [32])) (tkN t):=by
 rw[sT]
 unfold inT
 rw[lV0,ma];rfl
theorem AK (x:List UInt8)(its:List Tk)(t:Tk):cu (x,its++ [t])=cu (x,its)++(32::t.B):=by
 show tkB (d4 _)=tkB (d4 _)++_
 rw[sT,ud]
 simp[tkB,Tk.B]
theorem yN {h:NH}{s:List UInt8}{b:Nat}:NodeDt (.mk h [plN s]) (h.nd none 0 (kE b) 1 1) [(b,cel (N10.C {a0:=20,a1:=bs s}).toList ae)]:=
 ⟨h,[plN s],none,0,kE b,1,1,_,[(b,_)],[],rfl,rfl,rfl,by decide,NodeDt.one (x:=plN s) NodeDt.leaf,slN (v:= {a0:=20,a1:=bs s})⟩
theorem vP {b:Nat}{q:OA}{n c:Nat}{vs:List UInt8}{s:BS}(d2:Rd σ L q n vs)(h:Sat σ w (bC b q n c s::L))(h2: ∀w (x:LT) (s':BS) (c3:OA) (b7 c4:Nat) (us:List Value) (RM KM:List ai),lnA x->s.same s'->NDs (inT (d4 x)) us KM->Sl 10 ae c3 b7 c4 us RM->b7<=5->Sat σ w (RM++(KM++(bC b q n c s'::L)))->R (hQ (.tuple #[hX (bs (cu x)),hT c3 b7 c4])) w):
 callE P eH #[kT (kE b)] R w:=by
 have g0:i64.max=9223372036854775807:=rfl
 refine dl.sound ?_
 refine oz d2 h λw x g5 e9 b3 h=>⟨_,rfl,?_⟩
 refine Sat.buildN h {a0:=20,a1:=bs x} λb1 w h=>?_
 have h:Sat σ w (bC b q n c g5::(b1,cel (N10.C {a0:=20,a1:=bs x}).toList ae)::L):=h.re
 refine eX (k:=3) (d2.up λw h=>h.less [(b1,cel (N10.C {a0:=20,a1:=bs x}).toList ae)]) (by omega) (by omega) h λw m h1 j1 b5 h=>⟨_,rfl,?_⟩
 intro X f5
 have g2: ∀k (its:List Tk) (c3:OA) (b7 c4:Nat) (us:List Value) (RM KM:List ai) (s':BS) (w:World),its.length+k=m->(∀t∈its,tkA t)->s.same s'->NDs (inT (d4 (x,its))) us KM->Sl 10 ae c3 b7 c4 us RM->b7<=1+2*its.length->Sat σ w (RM++(KM++(bC b q n c s'::L)))->X (kE b) (bs (cu (x,its))) c3 b7 c4 (m:Nat) (its.length:Nat) w:=by
  intro k
  induction k with
  |zero=>
   intro its c3 b7 c4 us RM KM s' w h5 e6 e7 f0 e8 h3 h
   refine f5 _ _ _ _ _ _ _ _ (af (by simp;omega) ?_)
   exact h2 w (x,its) s' c3 b7 c4 us RM KM ⟨⟨e9,e6⟩,by show its.length<=2;omega⟩ e7 f0 e8 (by omega) h
  |succ k g7=>
   intro its c3 b7 c4 us RM KM s' w h5 e6 e7 f0 e8 h3 h
   have f3:lnA (x,its):=⟨⟨e9,e6⟩,by show its.length<=2;omega⟩
   have h9:=jg f3.ok.1 f3.2
   have g1:=uW (d4 (x,its))
   have g1:mO (inT (d4 (x,its)))<=710:=by
    have e:(tkB (d4 (x,its))).length=(cu (x,its)).length:=rfl
    omega
   have i4:=e9.2.2
   refine f5 _ _ _ _ _ _ _ _ (ag (by simp;omega) ?_)
   have h:Sat σ w (bC b q n c s'::(RM++(KM++L))):=h.re
   refine oz (d2.up λw h=>h.less (RM++KM)) h λw g f4 c5 f1 h=>⟨_,rfl,?_⟩
   have h8:=c5.2.2
   refine Sat.buildN h {a0:=20,a1:=bs g} λb2 w h=>?_
   have h:Sat σ w (RM++(KM++([]++(bC b q n c f4::(b2,cel (N10.C {a0:=20,a1:=bs g}).toList ae)::L)))):=h.re
   refine nh (x:=plN [32]) (u:= {a0:=20,a1:=bs [32]}) f0 e8 NodeDt.leaf (by omega) (by show _+1<_;omega) h λw l5 g6 i8 i0 b8 b9 i2 c9 d1 h=>⟨_,_,_,rfl,?_⟩
   have h6:mO (gu (inT (d4 (x,its))) (plN [32]))<=711:=by rw[pB];show _+1<=_;omega
   have h:Sat σ w (bC b q n c f4::(b8++(b9++((b2,cel (N10.C {a0:=20,a1:=bs g}).toList ae)::L)))):=h.re
   refine eX (k:=7) (d2.up λw h=>h.less (b8++(b9++ [(b2,cel (N10.C {a0:=20,a1:=bs g}).toList ae)]))) (by omega) (by omega) h λw r b6 hr f2 h=>⟨_,rfl,?_⟩
   have next: ∀(t:Tk) (W:OA) (E V:Nat) (I:List Value) (U O:List ai) (c8:BS) (w:World) (z:ByteArray),tkA t->s.same c8->z=bs (32::t.B)->E<=g6+1->NDs (gu (gu (inT (d4 (x,its))) (plN [32])) (tkN t)) I O->Sl 10 ae W E V I U->Sat σ w (U++(O++(bC b q n c c8::L)))->X (kE b) (bs (cu (x,its))++z) W E V (m:Nat) (i64.wrap (((its.length:Nat):Int)+1)) w:=by
    intro t W E V I U O c8 w z ht g3 hz b4 a7 a6 h
    rw[hz,bM,<-AK,aN (by omega)]
    have e:(its++ [t]).length=its.length+1:=by simp
    rw[<-e]
    refine g7 (its++ [t]) W E V I U O c8 w (by omega) (λu d3=>?_) g3 (by rw[Ex];exact a7) a6 (by omega) h
    rcases lP0.1 d3 with d3|d3
    ·exact e6 u d3
    ·obtain rfl:=lN0.1 d3
     exact ht
   have d0:s.same b6:=e7.trans (f1.trans f2)
   have sz: ∀a b:List UInt8,a.length+b.length<=2000->(((bs a).size+(bs b).size:Nat):Int)<=i64.max:=by
    intro a b i1
    rw[g0,aJ,aJ];omega
   have j0: ∀c:List UInt8,(hP c.toArray)=bs c:=λ_=>rfl
   rcases (show r=0\/r=1\/r=2\/r=3\/r=4\/5<=r by omega) with rfl|rfl|rfl|rfl|rfl|h7
   ·have b3:((hP #[32,42]):ByteArray)=bs [32,42]:=rfl
    have b5:((hP #[42]):ByteArray)=bs [42]:=rfl
    refine ag rfl ?_
    rw[b3,b5,bM,bM]
    refine⟨sz _ _ (by simp;omega),sz _ _ (by simp;omega),sz _ _ (by simp;omega),?_⟩
    have h:Sat σ w (b8++(b9++([(b2,cel (N10.C {a0:=20,a1:=bs g}).toList ae)]++(bC b q n c b6::L)))):=h.re
    refine nh (x:=tkN (.em 1 g)) (u:= {a0:=24,q7:=kE b2,n7:=1,c7:=1}) c9 d1 (yN (h:= {kind:=24})) (by omega) (by show _+0<_;omega) h λw W E V I U O b4 a7 a6 h=>⟨_,_,_,rfl,?_⟩
    exact next (.em 1 g) W E V I U O b6 w _ ⟨c5,.inl rfl⟩ d0 rfl b4 a7 a6 h
   ·have b3:((hP #[32,42,42]):ByteArray)=bs [32,42,42]:=rfl
    have b5:((hP #[42,42]):ByteArray)=bs [42,42]:=rfl
    refine af rfl (ag rfl ?_)
    rw[b3,b5,bM,bM]
    refine⟨sz _ _ (by simp;omega),sz _ _ (by simp;omega),sz _ _ (by simp;omega),?_⟩
    have h:Sat σ w (b8++(b9++([(b2,cel (N10.C {a0:=20,a1:=bs g}).toList ae)]++(bC b q n c b6::L)))):=h.re
    refine nh (x:=tkN (.em 2 g)) (u:= {a0:=25,q7:=kE b2,n7:=1,c7:=1}) c9 d1 (yN (h:= {kind:=25})) (by omega) (by show _+0<_;omega) h λw W E V I U O b4 a7 a6 h=>⟨_,_,_,rfl,?_⟩
    exact next (.em 2 g) W E V I U O b6 w _ ⟨c5,.inr rfl⟩ d0 rfl b4 a7 a6 h
   ·have b3:((hP #[32,96]):ByteArray)=bs [32,96]:=rfl
    have b5:((hP #[96]):ByteArray)=bs [96]:=rfl
    refine af rfl (af rfl (ag rfl ?_))
    rw[b3,b5,bM,bM]
    refine⟨sz _ _ (by simp;omega),sz _ _ (by simp;omega),sz _ _ (by simp;omega),?_⟩
    have h:Sat σ w (b8++(b9++([]++(bC b q n c b6::L)))):=h.less [(b2,cel (N10.C {a0:=20,a1:=bs g}).toList ae)]
    refine nh (x:=tkN (.cd g)) (u:= {a0:=23,a1:=bs g}) c9 d1 (NodeDt.leaf (h:= {kind:=23,text:=g})) (by omega) (by show _+g.length<_;omega) h λw W E V I U O b4 a7 a6 h=>⟨_,_,_,rfl,?_⟩
    exact next (.cd g) W E V I U O b6 w _ c5 d0 rfl b4 a7 a6 h
   ·refine af rfl (af rfl (af rfl (ag rfl ?_)))
    refine oz (d2.up λw h=>h.less (b8++(b9++ [(b2,cel (N10.C {a0:=20,a1:=bs g}).toList ae)]))) h λw z c8 hz h4 h=>⟨_,rfl,?_⟩
    have i3:=hz.2.2
    have b3:((hP #[32,91]):ByteArray)=bs [32,91]:=rfl
    have b5:((hP #[93,40]):ByteArray)=bs [93,40]:=rfl
    have f1:((hP #[41]):ByteArray)=bs [41]:=rfl
    have f2:((hP #[47]):ByteArray)=bs [47]:=rfl
    rw[b3,b5,f1,f2,bM,bM,bM,bM,bM]
    refine⟨sz _ _ (by simp;omega),sz _ _ (by simp;omega),sz _ _ (by simp;omega),sz _ _ (by simp;omega),sz _ _ (by simp;omega),sz _ _ (by simp;omega),?_⟩
    have h:Sat σ w (b8++(b9++([(b2,cel (N10.C {a0:=20,a1:=bs g}).toList ae)]++(bC b q n c c8::L)))):=h.re
    refine nh (x:=tkN (.lk g (47::z))) (u:= {a0:=27,a1:=bs (47::z),q7:=kE b2,n7:=1,c7:=1}) c9 d1 (yN (h:= {kind:=27,text:=47::z})) (by omega) (by show _+(z.length+1)<_;omega) h λw W E V I U O b4 a7 a6 h=>⟨_,_,_,rfl,?_⟩
    refine next (.lk g (47::z)) W E V I U O c8 w _ ⟨c5,z,hz,rfl⟩ (d0.trans h4) ?_ b4 a7 a6 h
    congr 1
    simp[Tk.B]
   ·have b3:((hP #[32,92,42]):ByteArray)=bs [32,92,42]:=rfl
    have b5:((hP #[42]):ByteArray)=bs [42]:=rfl
    refine af rfl (af rfl (af rfl (af rfl (ag rfl ?_))))
    rw[b3,b5,bM,bM]
    refine⟨sz _ _ (by simp;omega),sz _ _ (by simp;omega),sz _ _ (by simp;omega),?_⟩
    have h:Sat σ w (b8++(b9++([]++(bC b q n c b6::L)))):=h.less [(b2,cel (N10.C {a0:=20,a1:=bs g}).toList ae)]
    refine nh (x:=tkN (.es g)) (u:= {a0:=20,a1:=bs (42::g)}) c9 d1 (NodeDt.leaf (h:= {kind:=20,text:=42::g})) (by omega) (by show _+(g.length+1)<_;omega) h λw W E V I U O b4 a7 a6 h=>⟨_,_,_,rfl,?_⟩
    exact next (.es g) W E V I U O b6 w _ c5 d0 rfl b4 a7 a6 h
   ·have b3:((hP #[32]):ByteArray)=bs [32]:=rfl
    have e0: ∀d:Nat,d<5->(((r:Nat):Int)==((d:Nat):Int))=false:=λd hd=>by rw[hU,decide_eq_false_iff_not];omega
    refine af (e0 0 (by omega)) (af (e0 1 (by omega)) (af (e0 2 (by omega)) (af (e0 3 (by omega)) (af (e0 4 (by omega)) ?_))))
    rw[b3,bM]
    refine⟨sz _ _ (by simp;omega),sz _ _ (by simp;omega),by decide,by decide,aa ?_⟩
    refine Sat.ldA10 h {a0:=20,a1:=bs g} (b:=b2) (pre:= []) (suf:= []) (e:=ae) (by simp) rfl ?_
    have h:Sat σ w (b8++(b9++([]++(bC b q n c b6::L)))):=h.less [(b2,cel (N10.C {a0:=20,a1:=bs g}).toList ae)]
    refine nh (x:=tkN (.wd g)) (u:= {a0:=20,a1:=bs g}) c9 d1 (NodeDt.leaf (h:= {kind:=20,text:=g})) (by omega) (by show _+g.length<_;omega) h λw W E V I U O b4 a7 a6 h=>⟨_,_,_,rfl,?_⟩
    exact next (.wd g) W E V I U O b6 w _ c5 d0 rfl b4 a7 a6 h
 have g4:cu (x,[])=x:=by simp[cu,d4,qB,tkB,Tk.B]
 have f6:=g2 m [] (kE b1) 1 1 _ _ _ h1 w (by simp) (λt ht=>by cases ht) (b3.trans b5) (NodeDt.one (x:=plN x) NodeDt.leaf) (slN (v:= {a0:=20,a1:=bs x})) (by simp) h.re
 rw[g4] at f6
 exact f6
namespace eV
def k1 (R:EP)(Xa:BA->BA->OA->Nat->Nat->Int->Int->WP)(V y g:BA)(O:OA)(U E:Nat)(W I:Int)(w:World):Prop:=
 ((y.size+g.size:Nat):Int)<=i64.max/\
 Xa V (y++g) O U E W (i64.wrap (I+1)) w
def bl1 (R:EP)(Xa:BA->BA->OA->Nat->Nat->Int->Int->WP)(y E:BA)(I:OA)(O W:Nat)(V g:Int)(w:World):Prop:=
 br (decide (g<V))
 (0<=g/\g<(O:Int)/\
 aA I λa1=>
 ∃U,w.cell? (a1.add (Int.toNat g*1))=some (hX U)/\
 br (decide (g>0))
 (((E.size+y.size:Nat):Int)<=i64.max/\
 k1 R Xa y (E++y) U I O W V g w)
 (k1 R Xa y E U I O W V g w))
 (R (hQ (hX E)) w)
def l1 (R:EP)(O U:BA)(E:OA)(I g:Nat)(V y:Int)(w:World):Prop:=
 ∀X:BA->BA->OA->Nat->Nat->Int->Int->WP,(∀O U E I g V y w,bl1 R X O U E I g V y w->X O U E I g V y w)->X O U E I g V y w
end eV
def eV (R:EP)(y:OA)(g E:Nat)(I:BA)(w:World):Prop:=
 eV.l1 R I (hP #[]) y g E (g:Int) 0 w
theorem eV.sound {R x0q x0n x0c x1 w}(h:eV R x0q x0n x0c x1 w):callE P jm #[hT x0q x0n x0c,hX x1] R w:=
 aG [(43,.lp [21,101,163,187,207] (eV.bl1 R) λXa=> [(115,.mk [21,101,141,163,187,207] (eV.k1 R Xa))])] Tryz.func26 Tryz.call26 h

theorem AN (sep:List UInt8)(ls:List (List UInt8))(l:List UInt8):bG sep (ls++ [l])=if ls= [] then l else bG sep ls++(sep++l):=by
 cases ls with
 |nil=>simp[bG]
 |cons t ts=>simp[bG]
theorem xa {q:Option Addr}{n c:Nat}{ls:List (List UInt8)}{sep:List UInt8}(V:SArg σ L q n ls)(h:Sat σ w L)(b7:n<1000000)(hb:(bG sep ls).length<1000000000)(hs:sep.length<1000000)(b3: ∀w,Sat σ w L->R (hQ (hX (bs (bG sep ls)))) w):callE P jm #[hT q n c,hX (bs sep)] R w:=by
 refine eV.sound ?_
 have y:i64.max=9223372036854775807:=rfl
 have b5:=V.1
 intro X U
 have I: ∀i,i<=ls.length->(bG sep (ls.take i)).length<=(bG sep ls).length:=by
  intro i hi
  cases ls with
  |nil=>simp[bG]
  |cons t ts=>
   cases i with
   |zero=>simp[bG]
   |succ i=>
    simp only[lG5,bG,lA0]
    have:(List.take i ts).flatMap (λu=>sep++u)++(List.drop i ts).flatMap (λu=>sep++u)=ts.flatMap (λu=>sep++u):=by
     rw[<-lH5,lY1]
    have:=congrArg List.length this
    rw[lA0] at this;omega
 have W: ∀k i,i+k=n->X (bs sep) (bs (bG sep (ls.take i))) q n c (n:Nat) (i:Int) w:=by
  intro k
  induction k with
  |zero=>
   intro i hi
   refine U _ _ _ _ _ _ _ _ (af (by simp;omega) ?_)
   rw[lC2 (by omega)];exact b3 w h
  |succ k a7=>
   intro i hi
   have O:i<ls.length:=by omega
   obtain⟨a,rfl,b4⟩:=V.2 i O
   have g:bG sep (ls.take (i+1))=if i=0 then ls[i] else bG sep (ls.take i)++(sep++ls[i]):=by
    rw[lH1 O,AN]
    by_cases h0:i=0
    ·subst h0;simp
    ·rw[if_neg (by intro a6;have:=congrArg List.length a6;rw[lE1,lK1] at this;omega),if_neg h0]
   have E:=I (i+1) (by omega)
   have next:=a7 (i+1) (by omega)
   refine U _ _ _ _ _ _ _ _ (ag (by simp;omega) ⟨by omega,by omega,aa ?_⟩)
   rw[lC0,lC1]
   refine⟨_,b4 w h,?_⟩
   by_cases h0:i=0
   ·subst h0
    rw[if_pos rfl] at g
    rw[g] at E next
    refine af rfl ⟨?_,?_⟩
    ·rw[y,aJ,aJ]
     show ((([]:List UInt8).length+ls[0].length:Nat):Int)<=_
     simp only[lK1];omega
    ·rw[bM,aN (by omega)]
     simpa[bG] using next
   ·rw[if_neg h0] at g
    rw[g] at E next
    simp only[lA0] at E
    refine ag (by simp;omega) ⟨?_,?_⟩
    ·rw[y,aJ,aJ]
     have b6:=I i (by omega)
     omega
    ·refine⟨?_,?_⟩
     ·rw[y,bM,aJ,aJ,lA0];omega
     ·rw[bM,bM,aN (by omega),lD0]
      exact next
 exact W n 0 (by omega)

theorem FU (ls:List (List UInt8))(s:List UInt8):sv (ls++ [s])=sv ls++ [hX (bs s)]:=by simp[sv]

abbrev SlS (q:OA)(c:Nat)(ls:List (List UInt8))(M:List ai):Prop:=Sl 1 aq q ls.length c (sv ls) M
theorem SlS.nil:SlS none 0 [] []:=Sl.nil 1 aq
theorem Sat.appS {q:OA}{c:Nat}{ls:List (List UInt8)}{M:List ai}(b4:SlS q c ls M)(h:Sat σ w (M++L))(s:List UInt8)(b6:ls.length<1000000){K:OA->Nat->Nat->World->Prop}(b5: ∀g y a7 E,SlS g y (ls++ [s]) E->Sat σ a7 (E++L)->K g (ls++ [s]).length y a7):
 ∃(W:OA),∃(I:Nat),∃(V:Nat),∃U,(Instr.buildSlice al 1 #[(0,hX (bs s))]).run P w= .ok (hT W I V) U/\
  ∃(g:OA),∃(a6:Nat),∃(y:Nat),∃O,(Builtin.append_ #[al,al] al #[hT q ls.length c,hT W I V]).run P U= .ok (hT g a6 y) O/\K g a6 y O:=by
 refine Sat.app1 rowStr b4 h (v:= hX (bs s)) rfl (by simp[Value.cells,Value.oneCell']) (EA s) (by omega) (by omega) (by decide) λg y w E b3 h=>?_
 have e:(ls++ [s]).length=ls.length+1:=by simp
 rw[<-e]
 refine b5 g y w E ?_ h
 show Sl 1 aq g (ls++ [s]).length y (sv (ls++ [s])) E
 rw[FU,e]
 exact b3
theorem Sat.buildS (h:Sat σ w L)(s:List UInt8){K:OA->Nat->Nat->World->Prop}(O: ∀q c g M,SlS q c [s] M->Sat σ g (M++L)->K q 1 c g):
 ∃(q:OA),∃(n:Nat),∃(c:Nat),∃g,(Instr.buildSlice al 1 #[(0,hX (bs s))]).run P w= .ok (hT q n c) g/\K q n c g:=by
 have E:=run_buildSlice (P:=P) w al aq 1 #[(0,hX (bs s))] #[hX (bs s)] rowStr.i rowStr.z rowStr.ht rowStr.hi rowStr.hz (by rw[rowStr.hs];decide) (by rw[rowStr.hs];decide) (by rw[rowStr.hs];exact EA s)
 refine⟨_,_,_,_,E,?_⟩
 have y:=h.alc [hX (bs s)] aq
 have I:YtendaipfdnhnaaaGreatDoor.alc w [hX (bs s)].toArray aq=w.alloc (.cells #[hX (bs s)] aq):=rfl
 rw[I] at y
 exact O _ _ _ [(_,cel [hX (bs s)] aq)] ⟨rfl,lA1 _,.inr ⟨_,[],rfl,rfl,rfl⟩⟩ y
theorem Sat.appL {q a7:OA}{c U:Nat}{ls g:List (List UInt8)}{M a6:List ai}(b8:SlS q c ls M)(b4:SlS a7 U g a6)(h:Sat σ w (M++(a6++L)))(b6:g≠ [])(c8:ls.length+g.length<1000000){K:OA->Nat->Nat->World->Prop}(b9: ∀y E I O,SlS y E (ls++g) O->Sat σ I (O++L)->K y (ls++g).length E I):
 ∃(y:OA),∃(W:Nat),∃(E:Nat),∃b3,(Builtin.append_ #[al,al] al #[hT q ls.length c,hT a7 g.length U]).run P w= .ok (hT y W E) b3/\K y W E b3:=by
 have c4:0<g.length:=lY0.2 b6
 obtain⟨c9,d0,b7⟩:=b4
 rcases b7 with ⟨_,h0,_⟩|⟨b,sp,rfl,rfl,c5⟩
 ·omega
 have hs:Src P 1 al (hT (kE b) g.length U) g.length (sv g) w:=by
  refine Src.ofSlice w rowStr.ht _ _ U _ (by simp) (λj u V=>?_) λu V=>?_
  ·rw[show (Addr.add (hZ b 0) j)=⟨b,j,none⟩ from Addr.add_zero_lit b j]
   refine h.ld (lB0 _ (.head _)) ?_
   rw[lM0 (lL0.1 V).1]
   exact V
  ·obtain⟨s,_,rfl⟩:=lU1.1 V
   rfl
 obtain⟨y,E,I,O,hr,b5,c1,_⟩:=Sat.app rowStr (ty:=al) b8 h hs (.inl c4) (by omega) (by omega)
 refine⟨y,_,E,I,hr,?_⟩
 have e:(ls++g).length=ls.length+g.length:=by simp
 rw[<-e]
 refine b9 y E I O ?_ (c1.sub (List.Sublist.append_left (lH3 _ _) _))
 show Sl 1 aq y (ls++g).length E (sv (ls++g)) O
 have c3:sv (ls++g)=sv ls++sv g:=by simp[sv]
 rw[c3,e]
 exact b5
theorem SlS.get {q:OA}{c:Nat}{ls:List (List UInt8)}{M:List ai}(y:SlS q c ls M){i:Nat}(hi:i<ls.length): ∃a,q=some a/\ ∀ {L:List ai} {w:World},Sat σ w L->(∀x∈M,x∈L)->w.cell? (a.add i)=some (hX (bs ls[i])):=by
 obtain⟨O,E,g⟩:=y
 rcases g with ⟨_,h0,_⟩|⟨b,sp,rfl,rfl,I⟩
 ·omega
 refine⟨_,rfl,λ{L w} h hM=>?_⟩
 rw[show (Addr.add (hZ b 0) i)=⟨b,i,none⟩ from Addr.add_zero_lit b i]
 exact h.ld (hM _ (.head _)) (by rw[lM0 (by rw[kv];exact hi),ue hi])
theorem Fg {n:Nat}(I:n<1000000)(E:R (hQ (hX (bs (hN n 32)))) w):callE P oh #[hY (n:Nat)] R w:=by
 refine oo.sound ?_
 have e:((hP #[32]):ByteArray)=bs [32]:=rfl
 unfold oo
 rw[e]
 refine u3 (s:= [32]) I (by simp) ⟨_,rfl,?_⟩
 have y: ∀n,(hN n [(32:UInt8)]).flatten=hN n 32:=by
  intro n
  induction n with
  |zero=>rfl
  |succ n g=>rw[lA2,lK3,g];rfl
 rw[y]
 exact E
theorem A4 {n:Nat}(a7:n<100)(g:R (hQ (hX (bs (DO n)))) w):callE P gc #[hY (n:Nat)] R w:=by
 have U:i64.max=9223372036854775807:=rfl
 let y:List UInt8:= [48,49,50,51,52,53,54,55,56,57]
 have V: ∀k,k<10->sub y k (k+1)= [UInt8.ofNat (48+k)]:=by
  intro k O
  have:(List.range 10).all (λk=>sub y k (k+1)== [UInt8.ofNat (48+k)])=true:=by kernel_rfl
  exact eq_of_beq (lD2.1 this k (lV2.2 O))
 have E: ∀ {R:Ending->World->Prop} {w:World} (k:Nat),k<10->R (hQ (hX (bs [UInt8.ofNat (48+k)]))) w->callE P gc #[hY (k:Nat)] R w:=by
  intro R w k O g
  refine gf.sound ?_
  have e:((hP #[48,49,50,51,52,53,54,55,56,57]):ByteArray)=bs y:=rfl
  unfold gf
  rw[e,aN (by omega)]
  refine ag (by simp;omega) ⟨by omega,by omega,by show ((k+1:Nat):Int)<=10;omega,?_⟩
  rw[lC0,lC0,cj]
  show R (hQ (hX (bs (sub y k (k+1))))) w
  rw[V k O]
  exact g
 by_cases I:n<10
 ·unfold DO at g
  rw[if_pos I] at g
  exact E n I g
 ·unfold DO at g
  rw[if_neg I] at g
  refine gf.sound ?_
  unfold gf
  have W:i64.wrap (Int.tdiv ((n:Nat):Int) 10)=((n/10:Nat):Int):=by
   rw[show Int.tdiv ((n:Nat):Int) 10=((n/10:Nat):Int) from rfl]
   exact i64_in _ (by omega)
  have a6:Int.tmod ((n:Nat):Int) 10=((n%10:Nat):Int):=rfl
  rw[W,a6]
  refine af (by simp;omega) ⟨by omega,?_⟩
  refine E (n/10) (by omega) ⟨_,rfl,by omega,?_⟩
  refine E (n%10) (by omega) ⟨_,rfl,?_⟩
  rw[bM]
  exact⟨by rw[aJ,aJ,U];simp,g⟩
theorem yT {q:OA}{c:Nat}{pad:List UInt8}{ls:List (List UInt8)}(b7:SArg σ L q ls.length ls)(d0:pad.length<=100)(b3: ∀l∈ls,l.length<=100000)(c9:ls.length<100000)(h:Sat σ w L)(b9: ∀w y E g,SlS y E (ls.map λs=>if s= [] then [] else pad++s) g->Sat σ w (g++L)->R (hQ (hT y ls.length E)) w):callE P kK #[hX (bs pad),hT q ls.length c] R w:=by
 have a7:i64.max=9223372036854775807:=rfl
 refine dD.sound ?_
 intro X W
 have b4: ∀k i y E g w,i+k=ls.length->SlS y E ((ls.take i).map λs=>if s= [] then [] else pad++s) g->Sat σ w (g++L)->X (bs pad) y ((ls.take i).map λs=>if s= [] then [] else pad++s).length E q ls.length c (ls.length:Nat) (i:Nat) w:=by
  intro k
  induction k with
  |zero=>
   intro i y E g w a6 I h
   obtain rfl:i=ls.length:=a6
   refine W _ _ _ _ _ _ _ _ _ _ (af (by simp) ?_)
   rw[lW2] at I⊢
   rw[lS0]
   exact b9 w y E g I h
  |succ k b8=>
   intro i y E g w a6 I h
   have O:i<ls.length:=by omega
   obtain⟨a,rfl,c4⟩:=b7.2 i O
   refine W _ _ _ _ _ _ _ _ _ _ (ag (by simp;omega) ⟨by omega,by omega,aa ?_⟩)
   rw[lC0,lC1]
   refine⟨_,c4 w (h.less g),?_⟩
   have c8:=b3 ls[i] (lQ1 O)
   have c3:(hP #[]).toList= []:=cJ []
   rw[cJ,c3]
   have V:(ls.take (i+1)).map (λs=>if s= [] then [] else pad++s)=((ls.take i).map λs=>if s= [] then [] else pad++s)++ [if ls[i]= [] then [] else pad++ls[i]]:=by
    rw[lH1 O,lV0];rfl
   have b5:((ls.take i).map λs=>if s= [] then [] else pad++s).length<1000000:=by rw[lS0,lE1];omega
   have next: ∀z,z=(if ls[i]= [] then [] else pad++ls[i])->dD.k1 R X (bs pad) y ((ls.take i).map λs=>if s= [] then [] else pad++s).length E (bs z) (some a) ls.length c (ls.length:Nat) (i:Nat) w:=by
    intro z hz
    refine Sat.appS I h z b5 λc5 b6 w c1 U h=>?_
    rw[hz,<-V] at U
    rw[hz,<-V,aN (by omega)]
    exact b8 (i+1) c5 b6 c1 w (by omega) U h
   by_cases hz:ls[i]= []
   ·rw[hz]
    refine af rfl ?_
    exact next [] (by rw[if_pos hz])
   ·refine ag (by simp[hz]) ⟨by rw[aJ,aJ,a7];omega,?_⟩
    rw[bM]
    exact next _ (by rw[if_neg hz])
 exact b4 ls.length 0 none 0 [] w (by omega) SlS.nil h
theorem uu: ∀ {ls:List (List UInt8)},ls≠ []->bG [10] ls++ [10]=dI ls
 | [],h=>absurd rfl h
 | [x],_=>by simp[bG,dI]
 |x::y::r,_=>by
  have E:=uu (ls:=y::r) (by simp)
  have e:bG [10] (x::y::r)=x++10::bG [10] (y::r):=by simp[bG]
  have g:dI (x::y::r)=(x++ [10])++dI (y::r):=by simp[dI]
  rw[e,g,<-E];simp
theorem EV {b:Nat}{q:OA}{n c:Nat}{vs:List UInt8}{s:BS}(V:Rd σ L q n vs)(h:Sat σ w (bC b q n c s::L))(e6: ∀w (ls:List (Nat × List UInt8)) (s':BS) (g:OA) (E:Nat) (M:List ai),ls≠ []->ls.length<=3->(∀x∈ls,x.1<=2/\Wa x.2)->s.same s'->SlS g E (ls.map qP) M->Sat σ w (M++(bC b q n c s'::L))->R (hQ (.tuple #[hT g (ls.map qP).length E,hX (bs (dI (ls.map qP)))])) w):
 callE P iR #[kT (kE b)] R w:=by
 have b3:i64.max=9223372036854775807:=rfl
 refine dm.sound ?_
 refine oz V h λw x c8 I d2 h=>⟨_,rfl,?_⟩
 refine h.buildS x λf1 d0 w a7 c5 h=>?_
 have h:Sat σ w (bC b q n c c8::(a7++L)):=h.re
 refine eX (k:=3) (V.up λw h=>h.less a7) (by omega) (by omega) h λw m e5 f6 d3 h=>⟨_,rfl,?_⟩
 intro X b8
 have c3: ∀k (ls:List (Nat × List UInt8)) (g:OA) (E:Nat) (M:List ai) (s':BS) (w:World),ls.length+k=m+1->ls≠ []->(∀x∈ls,x.1<=2/\Wa x.2)->s.same s'->SlS g E (ls.map qP) M->Sat σ w (M++(bC b q n c s'::L))->X (kE b) g (ls.map qP).length E (m:Nat) ((ls.length - 1:Nat):Int) w:=by
  intro k
  induction k with
  |zero=>
   intro ls g E M s' w f2 U O a6 W h
   refine b8 _ _ _ _ _ _ _ (af (by simp;omega) ?_)
   have c4:((hP #[10]):ByteArray)=bs [10]:=rfl
   rw[c4]
   have hr:=vj ls λx I=>⟨(O x I).1,(O x I).2.wd⟩
   have b7:=uu (ls:=ls.map qP) (by simpa using U)
   have b4:=congrArg List.length b7
   rw[lA0] at b4
   simp only[lE0] at b4
   refine xa (L:=M++(bC b q n c s'::L)) (SArg.ofSl W λx I=>lD1 _ I) h (by simp;omega) (by omega) (by simp) λw h=>⟨_,rfl,?_⟩
   rw[bM,b7]
   refine⟨by rw[aJ,aJ,b3];simp;omega,?_⟩
   exact e6 w ls s' g E M U (by omega) O a6 W h
  |succ k e0=>
   intro ls g E M s' w f2 U O a6 W h
   have g0:0<ls.length:=lY0.2 U
   refine b8 _ _ _ _ _ _ _ (ag (by simp;omega) ?_)
   have h:Sat σ w (bC b q n c s'::(M++L)):=h.re
   refine eX (k:=3) (V.up λw h=>h.less M) (by omega) (by omega) h λw r f5 hr e8 h=>⟨_,rfl,?_⟩
   refine Fg (by omega) ⟨_,rfl,?_⟩
   refine oz (V.up λw h=>h.less M) h λw y b9 b6 f0 h=>⟨_,rfl,?_⟩
   have f4:=b6.2.2
   refine⟨by rw[aJ,aJ,b3];simp;omega,?_⟩
   rw[bM]
   have h:Sat σ w (M++(bC b q n c b9::L)):=h.re
   refine Sat.appS W h _ (by simp;omega) λe9 c9 w e7 b5 h=>?_
   have em:ls.map qP++ [hN r 32++y]=(ls++ [(r,y)]).map qP:=by simp[qP]
   rw[em] at b5⊢
   have d1:i64.wrap (((ls.length - 1:Nat):Int)+1)=(((ls++ [(r,y)]).length - 1:Nat):Int):=by
    rw[aN (by omega)]
    congr 1
    simp;omega
   rw[d1]
   refine e0 (ls++ [(r,y)]) e9 c9 e7 b9 w (by simp;omega) (by simp) (λz hz=>?_) (a6.trans (e8.trans f0)) b5 h
   rcases lP0.1 hz with hz|hz
   ·exact O z hz
   ·obtain rfl:=lN0.1 hz
    exact⟨by omega,b6⟩
 have f3:=c3 m [(0,x)] f1 d0 a7 e5 w (by simp;omega) (by simp) (λz hz=>by obtain rfl:=lN0.1 hz;exact⟨by omega,I⟩) (d2.trans d3) c5 h.re
 exact f3

theorem sH: ∀(ls:List LT) (x:LT),ls≠ []->fg (ls++ [x])=fg ls++ .nl::d4 x
 | [],x,h=>absurd rfl h
 | [y],x,_=>rfl
 |y::z::r,x,_=>by
  have g:=sH (z::r) x (by simp)
  have e:fg ((y::z::r)++ [x])=d4 y++ .nl::fg ((z::r)++ [x]):=rfl
  rw[e,g,fg];simp
def sE (ls:List LT):List ND:=if ls= [] then [] else gu (inT (fg ls)) (tkN .nl)
theorem Ca (ls:List LT)(x:LT):cat (sE ls) (inT (d4 x))=inT (fg (ls++ [x])):=by
 unfold sE
 by_cases h:ls= []
 ·subst h
  rw[if_pos rfl]
  exact Ad _
 ·rw[if_neg h,sH ls x h]
  unfold inT
  rw[Dh,lV0,ma]
  rfl
theorem BH {ls:List LT}(h: ∀x∈ls,lnA x)(E:ls.length<=3):mO (inT (fg ls))<=2200:=by
 have y:=uW (fg ls)
 rw[mj] at y
 have I:=qA ls λx g=>⟨(h x g).ok.1,(h x g).2⟩
 omega
theorem pZ {b:Nat}{q:OA}{n c:Nat}{vs:List UInt8}{s:BS}(g7:Rd σ L q n vs)(h:Sat σ w (bC b q n c s::L))(m3: ∀w (ls:List LT) (s':BS) (b4:OA) (b5:Nat) (U:List ai) (I:OA) (g E:Nat) (us:List Value) (RM KM:List ai),lsA ls->s.same s'->SlS b4 b5 (ls.map cu) U->NDs (inT (fg ls)) us KM->Sl 10 ae I g E us RM->g<=30->Sat σ w (U++(RM++(KM++(bC b q n c s'::L))))->R (hQ (.tuple #[hT b4 (ls.map cu).length b5,(({kind:=6}:NH).nd none 0 I g E).V])) w):
 callE P dG #[kT (kE b)] R w:=by
 have n0:i64.max=9223372036854775807:=rfl
 refine bW.sound ?_
 refine Sat.bx h λb1 w h=>?_
 refine Sat.bx h λO w h=>?_
 have h:Sat σ w ((O,cel (N10.C {}).toList ae)::(b1,cel (N10.C {}).toList ae)::bC b q n c s::L):=h
 refine h.st10 0 {} {a0:=6} λw h=>?_
 have h:Sat σ w ((O,cel (N10.C {a0:=6}).toList ae)::(b1,cel (N10.C {}).toList ae)::bC b q n c s::L):=h
 have h:Sat σ w (bC b q n c s::((O,cel (N10.C {a0:=6}).toList ae)::(b1,cel (N10.C {}).toList ae)::L)):=h.re
 refine eX (k:=3) (g7.up λw h=>h.less [(O,cel (N10.C {a0:=6}).toList ae),(b1,cel (N10.C {}).toList ae)]) (by omega) (by omega) h λw m h5 g5 i4 h=>⟨_,rfl,?_⟩
 have m2:i64.wrap (1+((m:Nat):Int))=((m+1:Nat):Int):=by
  rw[i64_in _ (by omega)];omega
 rw[m2]
 intro X g4
 have i1: ∀k (ls:List LT) (b4:OA) (b5:Nat) (U:List ai) (I:OA) (g E:Nat) (us:List Value) (RM KM:List ai) (s':BS) (w:World),ls.length+k=m+1->(∀x∈ls,lnA x)->s.same s'->SlS b4 b5 (ls.map cu) U->NDs (inT (fg ls)) us KM->Sl 10 ae I g E us RM->g<=10*ls.length->
  Sat σ w ((O,cel (({kind:=6}:NH).nd none 0 I g E).C.toList ae)::(b1,cel (N10.C {}).toList ae)::(U++(RM++(KM++(bC b q n c s'::L)))))->X (kE b) b1 O b4 (ls.map cu).length b5 ((m+1:Nat):Int) (ls.length:Nat) w:=by
  intro k
  induction k with
  |zero=>
   intro ls b4 b5 U I g E us RM KM s' w g6 e0 f4 f5 a7 b7 d0 h
   refine g4 _ _ _ _ _ _ _ _ _ (af (by simp;omega) ?_)
   refine h.tk λw h=>?_
   refine h.ldB10 _ (.head _) ?_
   refine h.st10 1 {} (({kind:=6}:NH).nd none 0 I g E) λw h=>?_
   have h:Sat σ w ((O,cel (({kind:=6}:NH).nd none 0 I g E).C.toList ae)::(b1,cel (({kind:=6}:NH).nd none 0 I g E).C.toList ae)::(U++(RM++(KM++(bC b q n c s'::L))))):=h
   refine h.ldB10 _ (.tail _ (.head _)) ?_
   refine m3 w ls s' b4 b5 U I g E us RM KM ⟨?_,by omega,e0⟩ f4 f5 a7 b7 (by omega) (h.less [(O,cel (({kind:=6}:NH).nd none 0 I g E).C.toList ae),(b1,cel (({kind:=6}:NH).nd none 0 I g E).C.toList ae)])
   rintro rfl
   simp at g6
  |succ k i8=>
   intro ls b4 b5 U I g E us RM KM s' w g6 e0 f4 f5 a7 b7 d0 h
   have i2:=BH e0 (by omega)
   refine g4 _ _ _ _ _ _ _ _ _ (ag (by simp;omega) ?_)
   have h:Sat σ w (bC b q n c s'::((O,cel (({kind:=6}:NH).nd none 0 I g E).C.toList ae)::(b1,cel (N10.C {}).toList ae)::(U++(RM++(KM++L))))):=h.re
   refine vP (g7.up λw h=>h.less ((O,cel (({kind:=6}:NH).nd none 0 I g E).C.toList ae)::(b1,cel (N10.C {}).toList ae)::(U++(RM++KM)))) h λw x a6 lq ln lc b8 c5 e1 f6 j0 g3 g2 o0 h=>⟨_,_,_,_,rfl,?_⟩
   have rest: ∀(I:OA) (g E:Nat) (us:List Value) (RM KM:List ai) (w:World),NDs (sE ls) us KM->Sl 10 ae I g E us RM->g<=10*ls.length+1->
    Sat σ w ((O,cel (({kind:=6}:NH).nd none 0 I g E).C.toList ae)::(b1,cel (N10.C {}).toList ae)::(U++(RM++(KM++(c5++(e1++(bC b q n c a6::L)))))))->bW.k1 R X (kE b) b1 O b4 (ls.map cu).length b5 (bs (cu x)) lq ln lc ((m+1:Nat):Int) (ls.length:Nat) w:=by
    intro I g E us RM KM w a7 b7 d0 h
    have o2:mO (sE ls)<=2200:=by
     unfold sE
     split
     ·exact lB2 _
     ·rw[pB];exact i2
    have o4:mO (inT (d4 x))<=710:=by
     have m5:=uW (d4 x)
     have h6:(tkB (d4 x)).length<=710:=jg f6.ok.1 f6.2
     omega
    have n2:=g3.len
    have p1:=g2.1
    have f1:(inT (d4 x)).length=ln:=by omega
    intro Y h4
    have inner: ∀(c1 W:List ND) (v1 e4:List Value) (c9:List ai) (I:OA) (g E:Nat) (us:List Value) (RM KM:List ai) (w:World),W++c1=inT (d4 x)->v1++e4=b8->v1.length=W.length*10->NDs c1 e4 c9->NDs (cat (sE ls) W) us KM->Sl 10 ae I g E us RM->g<=10*ls.length+1+W.length->
     Sat σ w ((O,cel (({kind:=6}:NH).nd none 0 I g E).C.toList ae)::(b1,cel (N10.C {}).toList ae)::(U++(RM++(KM++(c5++(c9++(bC b q n c a6::L)))))))->Y (kE b) b1 O b4 (ls.map cu).length b5 (bs (cu x)) ((m+1:Nat):Int) (ls.length:Nat) lq ln lc (ln:Nat) (W.length:Nat) w:=by
     intro c1
     induction c1 with
     |nil=>
      intro W v1 e4 c9 I g E us RM KM w b9 hv e9 g1 a7 b7 d0 h
      rw[lG0] at b9
      refine h4 _ _ _ _ _ _ _ _ _ _ _ _ _ _ _ (af (by rw[b9,f1];simp) ?_)
      have h:Sat σ w (U++((O,cel (({kind:=6}:NH).nd none 0 I g E).C.toList ae)::(b1,cel (N10.C {}).toList ae)::(RM++(KM++(c5++(c9++(bC b q n c a6::L))))))):=h.re
      refine Sat.appS f5 h _ (by simp;omega) λj1 m1 w m4 g0 h=>?_
      have em:ls.map cu++ [cu x]=(ls++ [x]).map cu:=by simp
      rw[em] at g0⊢
      rw[aN (by omega)]
      have c8:(ls++ [x]).length=ls.length+1:=by simp
      rw[<-c8]
      refine i8 (ls++ [x]) j1 m1 m4 I g E us RM KM a6 w (by simp;omega) (λz hz=>?_) (f4.trans j0) g0 ?_ b7 ?_ ?_
      ·rcases lP0.1 hz with hz|hz
       ·exact e0 z hz
       ·obtain rfl:=lN0.1 hz
        exact f6
      ·rw[<-Ca,<-b9];exact a7
      ·rw[b9,f1] at d0
       rw[c8];omega
      ·exact h.less (c5++c9)
     |cons y c1 h9=>
      intro W v1 e4 c9 I g E us RM KM w b9 hv e9 g1 a7 b7 d0 h
      have i0:=congrArg List.length b9
      rw[lA0,lF0,f1] at i0
      refine h4 _ _ _ _ _ _ _ _ _ _ _ _ _ _ _ (ag (by simp;omega) ⟨by omega,by omega,?_⟩)
      have h8:=g2
      obtain⟨_,_,⟨rfl,hz,_,_⟩|⟨c3,sp,rfl,rfl,o3⟩⟩:=h8
      ·omega
      refine aa ?_
      simp only[lK0,lC0,lO0]
      cases g1 with
      | @cons yh ks _ qa ca yq yn yc yvs yus YR YK _ a1 a2 a3 a4=>
      have i3:NodeDt (.mk yh ks) (yh.nd qa ca yq yn yc) (YR++YK):=⟨yh,ks,qa,ca,yq,yn,yc,yvs,YR,YK,rfl,rfl,rfl,a1,a2,a3⟩
      rename_i c4
      have g5:(c3,cel (v1++((yh.nd qa ca yq yn yc).C.toList++(yus++sp))) ae)∈((O,cel (({kind:=6}:NH).nd none 0 I g E).C.toList ae)::(b1,cel (N10.C {}).toList ae)::(U++(RM++(KM++([(c3,cel (b8++sp) ae)]++(((YR++YK)++c4)++(bC b q n c a6::L))))))):=by
       have e:v1++((yh.nd qa ca yq yn yc).C.toList++(yus++sp))=b8++sp:=by rw[<-hv];simp only[lD0]
       rw[e];simp
      refine Sat.ldA10 h (yh.nd qa ca yq yn yc) (b:=c3) (pre:=v1) (suf:=yus++sp) (e:=ae) g5 e9 ?_
      refine Sat.bx h λf3 w h=>?_
      have h:Sat σ w ((f3,cel (N10.C {}).toList ae)::(O,cel (({kind:=6}:NH).nd none 0 I g E).C.toList ae)::(b1,cel (N10.C {}).toList ae)::(U++(RM++(KM++([(c3,cel (b8++sp) ae)]++(((YR++YK)++c4)++(bC b q n c a6::L))))))):=h
      refine h.st10 0 {} (yh.nd qa ca yq yn yc) λw h=>?_
      have h:Sat σ w ((f3,cel (yh.nd qa ca yq yn yc).C.toList ae)::(O,cel (({kind:=6}:NH).nd none 0 I g E).C.toList ae)::(b1,cel (N10.C {}).toList ae)::(U++(RM++(KM++([(c3,cel (b8++sp) ae)]++(((YR++YK)++c4)++(bC b q n c a6::L))))))):=h
      refine⟨I,g,E,Sat.ld h (.tail _ (.head _)) (i:=7) rfl,?_⟩
      refine h.ldB10 _ (.head _) ?_
      have n1:mO (cat (sE ls) W)+yh.text.length<=3000:=by
       have m5:=uX W (sE ls)
       have h6:=congrArg mO b9
       rw[js] at h6
       have p3:mO (ND.mk yh ks::c1)=yh.text.length+mO c1:=rfl
       omega
      have h:Sat σ w (RM++(KM++((YR++YK)++((O,cel (({kind:=6}:NH).nd none 0 I g E).C.toList ae)::(b1,cel (N10.C {}).toList ae)::(U++([(c3,cel (b8++sp) ae)]++(c4++(bC b q n c a6::L)))))))):=h.less [(f3,cel (yh.nd qa ca yq yn yc).C.toList ae)]
      refine nh a7 b7 i3 (by omega) (by show _+yh.text.length<_;omega) h λw e6 f2 e7 e5 d3 d2 h7 e8 f0 h=>⟨_,_,_,rfl,?_⟩
      have h:Sat σ w ((O,cel (({kind:=6}:NH).nd none 0 I g E).C.toList ae)::(b1,cel (N10.C {}).toList ae)::(U++(d3++(d2++([(c3,cel (b8++sp) ae)]++(c4++(bC b q n c a6::L))))))):=h.re
      refine Sat.st h (k:=0) rfl (by show 7<10;decide) trivial rfl λw h=>?_
      rw[aN (by omega)]
      have c8:(W++ [ND.mk yh ks]).length=W.length+1:=by simp
      rw[<-c8]
      refine h9 (W++ [.mk yh ks]) (v1++(yh.nd qa ca yq yn yc).C.toList) yus c4 e6 f2 e7 e5 d3 d2 w (by rw[<-b9];simp) (by rw[<-hv];simp only[lD0]) ?_ a4 ?_ f0 ?_ h
      ·rw[lA0,e9,c8,lQ3];rfl
      ·rw[ma];exact e8
      ·rw[c8];omega
    exact inner (inT (d4 x)) [] [] b8 e1 I g E us RM KM w rfl rfl rfl g3 a7 b7 (by simp;omega) h
   by_cases d1:ls= []
   ·have l5:sE ls= []:=by unfold sE;rw[if_pos d1]
    refine af (by rw[d1];rfl) (rest I g E us RM KM w ?_ b7 (by omega) h.re)
    rw[l5]
    rw[d1] at a7
    exact a7
   ·have n3:0<ls.length:=lY0.2 d1
    refine ag (by simp;omega) ?_
    refine⟨I,g,E,Sat.ld h (lB0 _ (lB0 _ (.tail _ (.head _)))) (i:=7) rfl,?_⟩
    have h:Sat σ w (RM++(KM++([]++((O,cel (({kind:=6}:NH).nd none 0 I g E).C.toList ae)::(b1,cel (N10.C {}).toList ae)::(U++(c5++(e1++(bC b q n c a6::L)))))))):=h.re
    refine nh (x:=tkN .nl) (u:= {a0:=21}) a7 b7 (NodeDt.leaf (h:= {kind:=21})) (by omega) (by show _+0<_;omega) h λw e6 f2 e7 e5 d3 d2 h7 e8 f0 h=>⟨_,_,_,rfl,?_⟩
    have h:Sat σ w ((O,cel (({kind:=6}:NH).nd none 0 I g E).C.toList ae)::(b1,cel (N10.C {}).toList ae)::(U++(d3++(d2++(c5++(e1++(bC b q n c a6::L))))))):=h.re
    refine Sat.st h (k:=0) rfl (by show 7<10;decide) trivial rfl λw h=>?_
    exact rest e6 f2 e7 e5 d3 d2 w (by unfold sE;rw[if_neg d1];exact e8) f0 (by omega) h
 have h:Sat σ w (bC b q n c h5::((O,cel (({kind:=6}:NH).nd none 0 none 0 0).C.toList ae)::(b1,cel (N10.C {}).toList ae)::L)):=h
 have m6:=i1 (m+1) [] none 0 [] none 0 0 [] [] [] h5 w (by simp) (λz hz=>by cases hz) i4 SlS.nil .nil (Sl.nil 10 ae) (by simp) h.re
 exact m6

mutual
def flB (quo:Bool):BN->Prop
 | .setx _ ls=>ls.length=1
 | .code w _=>w= []
 | .quote bs=>flS true bs
 | .list _ _ gap its=>(quo=true->gap=false/\its.all (λit=>it.length==1)=true)/\flJ quo its
 |_=>True
def flS (quo:Bool):List BN->Prop
 | []=>True
 |b::r=>flB quo b/\flS quo r
def flJ (quo:Bool):List (List BN)->Prop
 | []=>True
 |it::r=>(∃ls t,it= .para ls::t)/\flS quo it/\flJ quo r
end
theorem z5 {g:Bool}: ∀(l:List BN) (b:BN),flS g l->flB g b->flS g (l++ [b])
 | [],b,_,h=>⟨h,trivial⟩
 |x::l,b,h,hb=>⟨h.1,z5 l b h.2 hb⟩
theorem vH {g:Bool}: ∀(l:List (List BN)) (it:List BN),flJ g l->(∃ls t,it= .para ls::t)->flS g it->flJ g (l++ [it])
 | [],it,_,h1,h2=>⟨h1,h2,trivial⟩
 |x::l,it,h,h1,h2=>⟨h.1,h.2.1,vH l it h.2.2 h1 h2⟩
def BS.kp (s s':BS):Prop:=s'.flat=s.flat/\s'.deep=s.deep
theorem BS.kp.trans {a b c:BS}(y:a.kp b)(g:b.kp c):a.kp c:=⟨g.1.trans y.1,g.2.trans y.2⟩
theorem BS.same.kp {a b:BS}(h:a.same b):a.kp b:=⟨h.2.1,h.2.2⟩
def BS.dp (s:BS)(d:Nat):Prop:=0<=s.deep/\s.deep+(d:Int)<=100
theorem BS.kp.dp {a b:BS}{d:Nat}(h:a.kp b)(hd:a.dp d):b.dp d:=by unfold BS.dp;rw[h.2];exact hd
abbrev BS.fq (s:BS):Bool:=decide (0<s.deep)
def NdOf (bn:BN)(h:NH)(g:List ND):Prop:=h.s=0/\h.e=0/\ ∀f,1<=f->mI f bn= .mk {h with s:=f,e:=f+(bg bn).length - 1} g
structure Made (d:Nat) (odd:Bool) (s:BS) (bn:BN):Prop where
 ab:abB bn
 sm:smB d bn
 kd:kdOK odd bn
 fl:s.flat=true->flB s.fq bn
structure E2 (d most:Nat) (s:BS) (l:List BN):Prop where
 ab:abS l
 ne:l≠ []
 len:l.length<=most
 sm:smS d l
 fl:s.flat=true->flS s.fq l
def xW (d:Nat):Prop:= ∀ {σ:Out} {w:World} {L:List ai} {R:Ending->World->Prop} {b:Nat} {q:OA} {n c:Nat} {vs:List UInt8} {s:BS} (odd:Bool),Rd σ L q n vs->s.dp d->Sat σ w (bC b q n c s::L)->
 (∀w (bn:BN) (s':BS) (y:OA) (E:Nat) (W:List ai) (h:NH) (O:List ND) (U:OA) (g I:Nat) (us:List Value) (RM KM:List ai),Made d odd s bn->s.kp s'->SlS y E (bg bn) W->NdOf bn h O->NDs O us KM->Sl 10 ae U g I us RM->g<=100->Sat σ w (W++(RM++(KM++(bC b q n c s'::L))))->R (hQ (.tuple #[hT y (bg bn).length E,(h.nd none 0 U g I).V])) w)->
 callE P fm #[kT (kE b),hY (d:Nat),hV odd] R w
def zq (d most:Nat):Prop:= ∀ {σ:Out} {w:World} {L:List ai} {R:Ending->World->Prop} {b:Nat} {q:OA} {n c:Nat} {vs:List UInt8} {s:BS},Rd σ L q n vs->s.dp d->Sat σ w (bC b q n c s::L)->
 (∀w (l:List BN) (s':BS) (g:OA) (y:Nat) (O:List ai) (I:OA) (E:Nat) (us:List Value) (RM KM:List ai),E2 d most s l->s.kp s'->SlS g y (aE l).tail O->NDs (lM 1 l) us KM->Sl 10 ae I l.length E us RM->Sat σ w (O++(RM++(KM++(bC b q n c s'::L))))->R (hQ (.tuple #[hT g (aE l).tail.length y,hT I l.length E])) w)->
 callE P dX #[kT (kE b),hY (d:Nat),hY (most:Nat)] R w
theorem E1 {d:Nat}(hd:d<=3):NBd d<=323:=by
 rcases (show d=0\/d=1\/d=2\/d=3 by omega) with rfl|rfl|rfl|rfl<;>decide
theorem uo {d:Nat}{bn:BN}(hd:d<=3)(I:abB bn)(hs:smB d bn):(bg bn).length<=323/\(∀s∈bg bn,s.length<=740)/\bg bn≠ []:=by
 obtain⟨y,E⟩:=Bg.1 bn I
 obtain⟨O,U⟩:=qJ.1 bn y d hs
 have g:=zZ.1 bn y E
 exact⟨by have:=E1 hd;omega,λs hs=>by have:=(g.ch s hs).2;omega,g.ne⟩
theorem sQ {d:Nat}{l:List BN}(hd:d<=3)(U:abS l)(hs:smS d l)(E:l≠ [])(O:l.length<=4):(aE l).tail.length<=1300/\(∀s∈(aE l).tail,s.length<=740)/\(aE l).tail≠ []:=by
 obtain⟨g,I⟩:=Bg.2.1 l U
 obtain⟨V,W⟩:=qJ.2.1 l g d hs
 have y:=zZ.2.1 l g I E
 have a6:=E1 hd
 have a7:=lL5 O (show NBd d+1<=324 by omega)
 exact⟨by rw[lP3];omega,λs hs=>by have:=(y.ch s hs).2;omega,y.ne⟩
def Bj (l:List BN):List (List UInt8):=if l= [] then [] else (aE l).tail++ [[]]
theorem Eg (l:List BN):(Bj l).length=(aE l).length:=by
 unfold Bj
 cases l with
 |nil=>rfl
 |cons b r=>
  rw[if_neg (by simp)]
  simp[aE];omega
theorem ui (l:List BN)(b:BN):Bj l++bg b=(aE (l++ [b])).tail:=by
 unfold Bj
 cases l with
 |nil=>
  show []++bg b=bg b++ []
  simp
 |cons x r=>
  rw[if_neg (by simp),sR]
  simp[aE]
theorem tB {d most:Nat}(hd:d<=3)(h1:1<=most)(m6:most<=4)(hb:xW d):zq d most:=by
 intro σ w L R b q n c vs s f2 g7 h i8
 have m3:i64.max=9223372036854775807:=rfl
 refine bS.sound ?_
 refine eX f2 h1 (by omega) h λw m h5 o0 h9 h=>⟨_,rfl,?_⟩
 have i4:i64.wrap (1+((m:Nat):Int))=((m+1:Nat):Int):=by
  rw[i64_in _ (by omega)];omega
 rw[i4]
 intro X f4
 have g5: ∀k (l:List BN) (U:OA) (W:Nat) (g:List ai) (c1:OA) (b9:Nat) (us:List Value) (RM KM:List ai) (s':BS) (w:World),l.length+k=m+1->alt false l->(∀b∈l,abB b)->smS d l->(s.flat=true->flS s.fq l)->s.kp s'->SlS U W (aE l).tail g->NDs (lM 1 l) us KM->Sl 10 ae c1 l.length b9 us RM->
  Sat σ w (g++(RM++(KM++(bC b q n c s'::L))))->X (kE b) (d:Nat) U (aE l).tail.length W c1 l.length b9 ((m+1:Nat):Int) (l.length:Nat) w:=by
  intro k
  induction k with
  |zero=>
   intro l U W g c1 b9 us RM KM s' w f6 d1 d2 c9 e3 b8 b4 e6 e5 h
   refine f4 _ _ _ _ _ _ _ _ _ _ _ (af (by simp;omega) ?_)
   exact i8 w l s' U W g c1 b9 us RM KM ⟨zm l false d1 d2,by rintro rfl;simp at f6,by omega,c9,e3⟩ b8 b4 e6 e5 h
  |succ k i3=>
   intro l U W g c1 b9 us RM KM s' w f6 d1 d2 c9 e3 b8 b4 e6 e5 h
   have g1:=Bg.2.1 l (zm l false d1 d2)
   have n1:(aE l).length<=1300:=by
    obtain⟨n0,_⟩:=qJ.2.1 l g1.1 d c9
    have n3:=E1 hd
    have o2:=lL5 (show l.length<=4 by omega) (show NBd d+1<=324 by omega)
    omega
   refine f4 _ _ _ _ _ _ _ _ _ _ _ (ag (by simp;omega) ⟨by decide,?_⟩)
   have l5:((Int.tmod ((l.length:Nat):Int) 2)==1)=Fi l.length:=by
    rw[show Int.tmod ((l.length:Nat):Int) 2=((l.length%2:Nat):Int) from rfl]
    show (((l.length%2:Nat):Int)==((1:Nat):Int))=_
    rw[hU]
    unfold Fi
    by_cases h0:l.length%2=1<;>simp[h0]
   rw[l5]
   have h:Sat σ w (bC b q n c s'::(g++(RM++(KM++L)))):=h.re
   refine hb (Fi l.length) (f2.up λw h=>h.less (g++(RM++KM))) (b8.dp g7) h λw bn b3 k0 h6 b6 a7 m1 k2 O y g0 I E b7 i0 g3 j0 g6 g4 m5 h=>⟨_,_,_,_,_,_,_,_,_,_,_,_,_,_,_,_,_,rfl,?_⟩
   obtain⟨bl1,bl2,bl3⟩:=uo hd b7.ab b7.sm
   refine Sat.bx h λa6 w h=>?_
   have h:Sat σ w ((a6,cel (N10.C {}).toList ae)::(b6++(I++(E++(bC b q n c b3::(g++(RM++(KM++L)))))))):=h
   refine h.st10 0 {} (a7.nd none 0 k2 O y) λw h=>?_
   have h:Sat σ w ((a6,cel (a7.nd none 0 k2 O y).C.toList ae)::(b6++(I++(E++(bC b q n c b3::(g++(RM++(KM++L)))))))):=h
   have rest: ∀(U:OA) (W:Nat) (g:List ai) (w:World),SlS U W (Bj l) g->Sat σ w ((a6,cel (a7.nd none 0 k2 O y).C.toList ae)::(b6++(I++(E++(bC b q n c b3::(g++(RM++(KM++L))))))))->
    bS.k1 R X (kE b) (d:Nat) U (Bj l).length W c1 l.length b9 k0 (bg bn).length h6 a6 ((m+1:Nat):Int) (l.length:Nat) w:=by
    intro U W g w b4 h
    have f1:=Eg l
    have m2:i64.wrap (((Bj l).length:Int)+1)=(((aE l).length+1:Nat):Int):=by rw[f1,aN (by omega)]
    have h4:i64.wrap (((Bj l).length:Int)+((bg bn).length:Int))=(((aE l).length+1+(bg bn).length - 1:Nat):Int):=by
     rw[f1,i64_in _ (by omega)];omega
    unfold bS.k1
    rw[m2,h4]
    refine Sat.st h (k:=0) rfl (by show 8<10;decide) trivial rfl λw h=>?_
    refine Sat.st h (k:=0) rfl (by show 9<10;decide) trivial rfl λw h=>?_
    have h:Sat σ w ((a6,cel (({a7 with s:=(aE l).length+1,e:=(aE l).length+1+(bg bn).length - 1}:NH).nd none 0 k2 O y).C.toList ae)::(b6++(I++(E++(bC b q n c b3::(g++(RM++(KM++L)))))))):=h
    have f3:NodeDt (mI (1+(aE l).length) bn) (({a7 with s:=(aE l).length+1,e:=(aE l).length+1+(bg bn).length - 1}:NH).nd none 0 k2 O y) (I++E):=by
     rw[lG4 1,j0.2.2 _ (by omega)]
     exact⟨_,m1,none,0,k2,O,y,g0,I,E,rfl,rfl,rfl,by omega,g6,g4⟩
    have h:Sat σ w (g++(b6++((a6,cel (({a7 with s:=(aE l).length+1,e:=(aE l).length+1+(bg bn).length - 1}:NH).nd none 0 k2 O y).C.toList ae)::(I++(E++(bC b q n c b3::(RM++(KM++L)))))))):=h.re
    refine Sat.appL b4 g3 h bl3 (by omega) λe4 f0 w d0 c5 h=>?_
    refine h.ldB10 _ (lB0 _ (.head _)) ?_
    have h:Sat σ w (RM++(d0++((a6,cel (({a7 with s:=(aE l).length+1,e:=(aE l).length+1+(bg bn).length - 1}:NH).nd none 0 k2 O y).C.toList ae)::(I++(E++(bC b q n c b3::(KM++L))))))):=h.re
    generalize n2:({a7 with s:=(aE l).length+1,e:=(aE l).length+1+(bg bn).length - 1}:NH).nd none 0 k2 O y=u at h f3⊢
    refine Sat.app1 rowND e5 h (v:=u.V) rfl (Ek u) (z6 u) (by omega) (by omega) (by decide) λi1 i2 w h2 g2 h=>?_
    have e7:(l++ [bn]).length=l.length+1:=by simp
    rw[ui,aN (by omega),<-e7]
    rw[ui] at c5
    refine i3 (l++ [bn]) e4 f0 d0 i1 i2 _ h2 (KM++(I++E)) b3 w (by rw[e7];omega) (Ag l false bn d1 (by simpa using b7.kd)) (λz hz=>?_) (zD l d bn c9 b7.sm) (λf5=>z5 l bn (e3 f5) ?_) (b8.trans i0) c5 ?_ (by rw[e7];exact g2) ?_
    ·rcases lP0.1 hz with hz|hz
     ·exact d2 z hz
     ·obtain rfl:=lN0.1 hz
      exact b7.ab
    ·have:=b7.fl (by rw[b8.1];exact f5)
     unfold BS.fq at this⊢
     rw[b8.2] at this
     exact this
    ·rw[wX]
     exact e6.append f3.one
    ·exact h.less [(a6,cel u.C.toList ae)]
   by_cases c8:l= []
   ·have d3:Bj l= []:=by unfold Bj;rw[if_pos c8]
    have ht:(aE l).tail= []:=by rw[c8];rfl
    have:=rest U W g w (by rw[d3];rw[ht] at b4;exact b4) h
    refine af (by rw[c8];rfl) ?_
    rw[d3] at this
    rw[ht]
    exact this
   ·have m4:0<l.length:=lY0.2 c8
    have d3:Bj l=(aE l).tail++ [[]]:=by unfold Bj;rw[if_neg c8]
    refine ag (by simp;omega) ?_
    have j1:(hP #[])=bs []:=rfl
    rw[j1]
    have h:Sat σ w (g++((a6,cel (a7.nd none 0 k2 O y).C.toList ae)::(b6++(I++(E++(bC b q n c b3::(RM++(KM++L)))))))):=h.re
    refine Sat.appS b4 h [] (by rw[lP3];omega) λe4 f0 w d0 c5 h=>?_
    rw[<-d3] at c5⊢
    exact rest e4 f0 d0 w c5 h.re
 exact g5 (m+1) [] none 0 [] none 0 [] [] [] h5 w (by simp) trivial (λz hz=>by cases hz) trivial (λ_=>trivial) h9.kp SlS.nil .nil (Sl.nil 10 ae) h

def HM (d:Nat):Prop:= ∀ {σ:Out} {w:World} {L:List ai} {R:Ending->World->Prop} {b:Nat} {q:OA} {n c:Nat} {vs:List UInt8} {s:BS} (odd:Bool),Rd σ L q n vs->s.dp d->Sat σ w (bC b q n c s::L)->
 (∀w (bn:BN) (s':BS) (y:OA) (E:Nat) (W:List ai) (h:NH) (O:List ND) (U:OA) (g I:Nat) (us:List Value) (RM KM:List ai),Made (d+1) odd s bn->s.kp s'->SlS y E (bg bn) W->NdOf bn h O->NDs O us KM->Sl 10 ae U g I us RM->g<=100->Sat σ w (W++(RM++(KM++(bC b q n c s'::L))))->R (hQ (.tuple #[hT y (bg bn).length E,(h.nd none 0 U g I).V])) w)->
 callE P iQ #[kT (kE b),hY (d:Nat),hV odd] R w
theorem z0 (n:Nat)(c:UInt8):(hN n [c]).flatten=hN n c:=by
 induction n with
 |zero=>rfl
 |succ n g=>rw[lA2,lK3,g];rfl
theorem CP {x:Int}(h0:0<=x)(g:x<=200):i64.wrap x=x:=by
 obtain⟨k,rfl⟩: ∃k:Nat,x=(k:Int):=⟨x.toNat,by omega⟩
 exact i64_in _ (by omega)
theorem EO {d:Nat}(hd:d<=3)(t2:1<=d->zq (d - 1) 3)(o0:1<=d->HM (d - 1)):xW d:=by
 intro σ w L R b q n c vs s odd m2 g4 h t3
 have h9:i64.max=9223372036854775807:=rfl
 refine aY.sound ?_
 refine Sat.bx h λb1 w h=>?_
 have h:Sat σ w ((b1,cel (N10.C {}).toList ae)::bC b q n c s::L):=h
 have h:Sat σ w (bC b q n c s::(b1,cel (N10.C {}).toList ae)::L):=h.re
 have d3:Rd σ ((b1,cel (N10.C {}).toList ae)::L) q n vs:=m2.up λw h=>h.less [(b1,cel (N10.C {}).toList ae)]
 refine aa ⟨_,Sat.ld h (.head _) (i:=2) rfl,aa ?_⟩
 refine Sat.st h (k:=0) rfl (by show 2<5;decide) trivial rfl λw h=>?_
 have h:Sat σ w (bC b q n c {s with size:=i64.wrap (s.size+1)}::(b1,cel (N10.C {}).toList ae)::L):=h
 have i8:s.kp {s with size:=i64.wrap (s.size+1)}:=⟨rfl,rfl⟩
 revert h i8
 generalize ({s with size:=i64.wrap (s.size+1)}:BS)=s1
 intro h i8
 refine eX (k:=9) d3 (by omega) (by omega) h λw r a7 hr s8 h=>⟨_,rfl,?_⟩
 have a6:s.kp a7:=i8.trans s8.kp
 refine aa ⟨_,Sat.ld h (.head _) (i:=2) rfl,?_⟩
 have fin: ∀(w:World) (bn:BN) (s':BS) (b3:OA) (b4:Nat) (E:List ai) (e5:NH) (f4:List ND) (I:OA) (O g:Nat) (us:List Value) (RM KM:List ai) (l5:N10) (X:List ai),Made d odd s bn->s.kp s'->SlS b3 b4 (bg bn) E->NdOf bn e5 f4->NDs f4 us KM->Sl 10 ae I O g us RM->O<=100->
  Sat σ w ((b1,cel l5.C.toList ae)::(X++(E++(RM++(KM++(bC b q n c s'::L))))))->st10 w b1 (e5.nd none 0 I O g) λw=>ldB10 w b1 λm=>R (hQ (.tuple #[hT b3 (bg bn).length b4,m.V])) w:=by
  intro w bn s' b3 b4 E e5 f4 I O g us RM KM l5 X W g7 b7 h7 c8 d0 e9 h
  refine h.st10 0 l5 (e5.nd none 0 I O g) λw h=>?_
  have h:Sat σ w ((b1,cel (e5.nd none 0 I O g).C.toList ae)::(X++(E++(RM++(KM++(bC b q n c s'::L)))))):=h
  refine h.ldB10 _ (.head _) ?_
  exact t3 w bn s' b3 b4 E e5 f4 I O g us RM KM W g7 b7 h7 c8 d0 e9 (h.less ((b1,cel (e5.nd none 0 I O g).C.toList ae)::X))
 have g2: ∀bn,bcB bn=none->kdOK odd bn:=λbn h c hc=>by rw[h] at hc;cases hc
 have para: ∀(w:World) (a7:BS),s.kp a7->Sat σ w (bC b q n c a7::(b1,cel (N10.C {}).toList ae)::L)->aY.k4 R (kE b) (d:Nat) odd b1 false w:=by
  intro w a7 a6 h
  refine af rfl ?_
  refine pZ d3 h λw ls U b3 b4 E I O g us RM KM e7 b9 b7 c8 d0 e9 h=>⟨_,_,_,_,_,_,_,_,_,_,_,_,_,_,_,_,_,rfl,?_⟩
  refine fin w (.para ls) U b3 b4 E {kind:=6} _ I O g us RM KM {} [] ⟨e7,by simp only[smB],g2 _ rfl,λ_=>trivial⟩ (a6.trans b9.kp) b7 ⟨rfl,rfl,λf c1=>?_⟩ c8 d0 (by omega) h.re
  rw[mI]
  have:(bg (.para ls)).length=ls.length:=by simp[bg]
  rw[this]
 have m3: ∀(w:World) (U:BS) (ls:List LT) (b3:OA) (b4:Nat) (E:List ai) (b5:Nat) (h0:NH) (I:OA) (O g:Nat) (us:List Value) (RM KM X:List ai),lsA ls->(s.flat=true->ls.length=1)->s.kp U->SlS b3 b4 (ls.map cu) E->NDs (inT (fg ls)) us KM->Sl 10 ae I O g us RM->O<=30->h0= {kind:=6}\/h0= {kind:=0}->
  Sat σ w (bC b q n c U::(b5,cel (h0.nd none 0 I O g).C.toList ae)::(b1,cel (N10.C {}).toList ae)::(E++(RM++(KM++(X++L)))))->aY.k3 R (kE b) b1 b3 (ls.map cu).length b4 b5 w:=by
  intro w U ls b3 b4 E b5 h0 I O g us RM KM X e7 f0 d1 b7 c8 d0 e9 r7 h
  refine eX (k:=2) (m2.up λw h=>h.less ((b5,cel (h0.nd none 0 I O g).C.toList ae)::(b1,cel (N10.C {}).toList ae)::(E++(RM++(KM++X))))) (by omega) (by omega) h λw r b8 hr f2 h=>⟨_,rfl,?_⟩
  have m1:i64.wrap (1+((r:Nat):Int))=((r+1:Nat):Int):=by
   rw[i64_in _ (by omega)];omega
  rw[m1]
  have h:Sat σ w ((b5,cel (h0.nd none 0 I O g).C.toList ae)::(b1,cel (N10.C {}).toList ae)::(E++(RM++(KM++(bC b q n c b8::(X++L)))))):=h.re
  refine Sat.st h (k:=0) rfl (by show 0<10;decide) trivial rfl λw h=>?_
  refine Sat.st h (k:=0) rfl (by show 3<10;decide) trivial rfl λw h=>h.tk λw h=>?_
  have h:Sat σ w ((b5,cel (({kind:=5,num:=((r+1:Nat):Int)}:NH).nd none 0 I O g).C.toList ae)::(b1,cel (N10.C {}).toList ae)::(E++(RM++(KM++(bC b q n c b8::(X++L)))))):=by
   rcases r7 with rfl|rfl<;>exact h
  refine⟨((r+1:Nat):Int),Sat.ld h (.head _) (i:=3) rfl,((r+1:Nat):Int),Sat.ld h (.head _) (i:=3) rfl,?_⟩
  have f5:i64.wrap (((r+1:Nat):Int) - 1)=(r:Nat):=by rw[il (by omega) (by omega)];congr 1
  have e6:(hP #[61,45])=bs [61,45]:=rfl
  rw[f5,e6]
  refine⟨by omega,by omega,by show ((r+1:Nat):Int)<=2;omega,?_⟩
  refine h.ldB10 _ (.head _) ?_
  rw[lC0,lC0,cj]
  obtain⟨ch,r3,q0,r8⟩: ∃ch:UInt8,(ch=61\/ch=45)/\sub [61,45] r (r+1)= [ch]/\Bm ch=r+1:=by
   rcases (show r=0\/r=1 by omega) with rfl|rfl
   ·exact⟨61,.inl rfl,rfl,rfl⟩
   ·exact⟨45,.inr rfl,rfl,rfl⟩
  have b9:List.drop r (List.take (r+1) [(61:UInt8),45])= [ch]:=q0
  rw[b9]
  refine u3 (s:= [ch]) (n:=3) (by omega) (by simp) ⟨_,rfl,?_⟩
  rw[z0]
  refine⟨h.same h (.head _) (.head _) 10,?_⟩
  have u1:(ls.map cu).length<1000000:=by have:=e7.2.1;simp;omega
  generalize s9:(b5,cel (({kind:=5,num:=((r+1:Nat):Int)}:NH).nd none 0 I O g).C.toList ae)=ch6 at h
  refine h.buildS _ λf1 f3 t5 d2 c9 p3=>?_
  have i2: ∀Y:List ai,(b5,cel (({kind:=5,num:=((r+1:Nat):Int)}:NH).nd none 0 I O g).C.toList ae)∈ch6::Y:=λY=>by rw[s9];exact .head _
  refine⟨h.same p3 (i2 _) (lB0 _ (i2 _)) 10,?_⟩
  have p4:Sat σ t5 (E++(d2++(ch6::(b1,cel (N10.C {}).toList ae)::(RM++(KM++(bC b q n c b8::(X++L))))))):=p3.re
  refine Sat.appL b7 c9 p4 (by simp) (by have v0:=e7.2.1;simp only[lS0,lF0,lK1];omega) λo2 o3 t7 o4 i1 n3=>?_
  refine⟨p4.same n3 (lB0 _ (lB0 _ (i2 _))) (lB0 _ (i2 _)) 10,?_⟩
  have em:ls.map cu++ [hN 3 ch]=bg (.setx ch ls):=rfl
  rw[em] at i1⊢
  refine fin t7 (.setx ch ls) b8 o2 o3 o4 {kind:=5,num:=((r+1:Nat):Int)} _ I O g us RM KM {} (ch6::X) ⟨⟨r3,e7⟩,by simp only[smB],g2 _ rfl,f0⟩ (d1.trans f2.kp) i1 ⟨rfl,rfl,λf c1=>?_⟩ c8 d0 (by omega) n3.re
  rw[mI,r8]
  have:(bg (.setx ch ls)).length=ls.length+1:=by simp[bg]
  rw[this];rfl
 have code: ∀(w:World) (U:BS) (wd:List UInt8),(wd= []\/Wa wd)->(s.flat=true->wd= [])->s.kp U->Sat σ w (bC b q n c U::(b1,cel (N10.C {}).toList ae)::L)->aY.k2 R (kE b) b1 (bs wd) w:=by
  intro w U wd i0 f0 d1 h
  have t9:wd.length<=4:=by
   rcases i0 with rfl|i0
   ·simp
   ·exact i0.2.2
  refine EV d3 h λw ls b8 b3 b4 E n0 r5 e7 f2 b7 h=>⟨_,_,_,_,rfl,?_⟩
  have e6:(hP #[96,96,96])=bs [96,96,96]:=rfl
  rw[e6,bM]
  refine⟨by rw[aJ,aJ,h9];simp;omega,?_⟩
  refine h.buildS _ λf1 f3 w d2 c9 h=>?_
  refine Sat.appL c9 b7 h (by simpa using n0) (by simp;omega) λo2 o3 w o4 i1 h=>?_
  refine Sat.appS i1 h _ (by simp;omega) λt8 r9 w s6 n1 h=>?_
  have em: [[96,96,96]++wd]++ls.map qP++ [[96,96,96]]=bg (.code wd ls):=by simp[bg]
  rw[em] at n1⊢
  refine fin w (.code wd ls) b8 t8 r9 s6 {kind:=7,title:=wd,text:=dI (ls.map qP)} [] none 0 0 [] [] [] {} [] ⟨⟨i0,n0,r5,e7⟩,by simp only[smB],g2 _ rfl,f0⟩ (d1.trans f2.kp) n1 ⟨rfl,rfl,λf c1=>?_⟩ .nil (Sl.nil 10 ae) (by omega) h.re
  rw[mI]
  have:(bg (.code wd ls)).length=ls.length+2:=by simp[bg]
  rw[this];rfl
 have m4: ∀k:Nat,k<9->(6<=k->1<=d)->aY.k1 R (kE b) (d:Nat) odd b1 (k:Nat) w:=by
  intro k u4 i3
  have g0: ∀d:Nat,k≠d->(((k:Nat):Int)==((d:Nat):Int))=false:=λd hd=>by rw[hU,decide_eq_false_iff_not];omega
  rcases (show k=2\/k=3\/k=4\/k=5\/k=6\/k=7\/k=8\/k<2 by omega) with rfl|rfl|rfl|rfl|rfl|rfl|rfl|g7
  ·refine ag rfl ?_
   refine eX (k:=6) d3 (by omega) (by omega) h λw r U hr b9 h=>⟨_,rfl,?_⟩
   refine vP d3 h λw x b8 lq ln lc us RM KM f6 f2 c8 b7 q8 h=>⟨_,_,_,_,rfl,?_⟩
   have m1:i64.wrap (1+((r:Nat):Int))=((r+1:Nat):Int):=by
    rw[i64_in _ (by omega)];omega
   have e6:(hP #[35])=bs [35]:=rfl
   have f5:(hP #[32])=bs [32]:=rfl
   have v2:=jg f6.ok.1 f6.2
   rw[m1,e6,f5]
   refine u3 (s:= [35]) (n:=r+1) (by omega) (by simp) ⟨_,rfl,?_⟩
   rw[z0,bM,bM]
   refine⟨by rw[aJ,aJ,h9];simp;omega,by rw[aJ,aJ,h9];simp;omega,?_⟩
   refine h.buildS _ λf1 f3 w d2 c9 h=>?_
   have em: [hN (r+1) 35++ [32]++cu x]=bg (.head (r+1) x):=by simp[bg]
   rw[em] at c9
   refine fin w (.head (r+1) x) b8 f1 f3 d2 {kind:=5,num:=((r+1:Nat):Int)} _ lq ln lc us RM KM {} [] ⟨⟨⟨by omega,by omega⟩,f6⟩,by simp only[smB],g2 _ rfl,λ_=>trivial⟩ (a6.trans (b9.kp.trans f2.kp)) c9 ⟨rfl,rfl,λf c1=>?_⟩ c8 b7 (by omega) h.re
   rw[mI];rfl
  ·refine af rfl (ag rfl ?_)
   have e6:(hP #[42,42,42])=bs [42,42,42]:=rfl
   rw[e6]
   refine h.buildS _ λf1 f3 w d2 c9 h=>?_
   refine fin w .hr a7 f1 f3 d2 {kind:=9} [] none 0 0 [] [] [] {} [] ⟨trivial,by simp only[smB],g2 _ rfl,λ_=>trivial⟩ a6 c9 ⟨rfl,rfl,λf c1=>?_⟩ .nil (Sl.nil 10 ae) (by omega) h.re
   rw[mI];rfl
  ·refine af rfl (af rfl (ag rfl ?_))
   refine eX (k:=2) d3 (by omega) (by omega) h λw r U hr b9 h=>⟨_,rfl,?_⟩
   have d1:=a6.trans b9.kp
   have e6:(hP #[])=bs []:=rfl
   rw[e6]
   refine bp (λ_=>?_) λ_=>code w U [] (.inl rfl) (λ_=>rfl) d1 h
   refine aa ⟨_,Sat.ld h (.head _) (i:=3) rfl,bp (λc1=>?_) λc1=>code w U [] (.inl rfl) (λ_=>rfl) d1 h⟩
   have m5:U.flat=false:=by simpa using c1
   refine oz d3 h λw y b8 s5 f2 h=>⟨_,rfl,?_⟩
   refine code w b8 y (.inr s5) (λf0=>?_) (d1.trans f2.kp) h
   rw[d1.1,f0] at m5
   cases m5
  ·refine af rfl (af rfl (af rfl (ag rfl ?_)))
   refine pZ d3 h λw ls U b3 b4 E I O g us RM KM e7 b9 b7 c8 d0 e9 h=>⟨_,_,_,_,_,_,_,_,_,_,_,_,_,_,_,_,_,rfl,?_⟩
   have d1:=a6.trans b9.kp
   refine Sat.bx h λb5 w h=>?_
   have h:Sat σ w ((b5,cel (N10.C {}).toList ae)::(E++(RM++(KM++(bC b q n c U::(b1,cel (N10.C {}).toList ae)::L))))):=h
   refine h.st10 0 {} (({kind:=6}:NH).nd none 0 I O g) λw h=>?_
   have h:Sat σ w ((b5,cel (({kind:=6}:NH).nd none 0 I O g).C.toList ae)::(E++(RM++(KM++(bC b q n c U::(b1,cel (N10.C {}).toList ae)::L))))):=h
   have h:Sat σ w (bC b q n c U::(b5,cel (({kind:=6}:NH).nd none 0 I O g).C.toList ae)::(b1,cel (N10.C {}).toList ae)::(E++(RM++(KM++([]++L))))):=h.re
   refine aa ⟨_,Sat.ld h (.head _) (i:=3) rfl,bp (λc1=>?_) λc1=>?_⟩
   ·refine vP (m2.up λw h=>h.less ((b5,cel (({kind:=6}:NH).nd none 0 I O g).C.toList ae)::(b1,cel (N10.C {}).toList ae)::(E++(RM++KM)))) h λw x b8 lq ln lc q1 j0 i4 f6 f2 r4 g1 q8 h=>⟨_,_,_,_,rfl,?_⟩
    refine h.buildS _ λf1 f3 w d2 c9 h=>?_
    have h:Sat σ w ((b5,cel (({kind:=6}:NH).nd none 0 I O g).C.toList ae)::bC b q n c b8::(b1,cel (N10.C {}).toList ae)::(d2++(j0++(i4++((E++(RM++KM))++L))))):=h.re
    refine h.st10 0 (({kind:=6}:NH).nd none 0 I O g) {q7:=lq,n7:=ln,c7:=lc} λw h=>?_
    have h:Sat σ w ((b5,cel (({kind:=0}:NH).nd none 0 lq ln lc).C.toList ae)::bC b q n c b8::(b1,cel (N10.C {}).toList ae)::(d2++(j0++(i4++((E++(RM++KM))++L))))):=h
    exact m3 w b8 [x] f1 f3 d2 b5 {kind:=0} lq ln lc q1 j0 i4 (E++(RM++KM)) ⟨by simp,by simp,λz hz=>by obtain rfl:=lN0.1 hz;exact f6⟩ (λ_=>rfl) (d1.trans f2.kp) c9 r4 g1 (by omega) (.inr rfl) h.re
   ·refine m3 w U ls b3 b4 E b5 {kind:=6} I O g us RM KM [] e7 (λf0=>?_) d1 b7 c8 d0 e9 (.inl rfl) h
    rw[d1.1,f0] at c1
    cases c1
  ·refine af rfl (af rfl (af rfl (af rfl (ag rfl ?_))))
   have g3:=i3 (by omega)
   have g5:i64.wrap (((d:Nat):Int) - 1)=((d - 1:Nat):Int):=by rw[il (by omega) (by omega)]
   have p5:=a6.dp g4
   obtain⟨v3,p2⟩:=p5
   refine aa ⟨_,Sat.ld h (.head _) (i:=4) rfl,aa ?_⟩
   rw[g5,CP (by omega) (by omega)]
   refine Sat.st h (k:=0) rfl (by show 4<5;decide) trivial rfl λw h=>?_
   have h:Sat σ w (bC b q n c {a7 with deep:=a7.deep+1}::(b1,cel (N10.C {}).toList ae)::L):=h
   refine t2 g3 d3 ⟨by show 0<=a7.deep+1;omega,by show a7.deep+1+((d - 1:Nat):Int)<=100;omega⟩ h λw l U b3 b4 E I g us RM KM W b9 b7 c8 d0 h=>⟨_,_,_,_,_,_,rfl,?_⟩
   have r1:U.deep=a7.deep+1:=b9.2
   have h:Sat σ w (bC b q n c U::(b1,cel (N10.C {}).toList ae)::(E++(RM++(KM++L)))):=h.re
   refine aa ⟨_,Sat.ld h (.head _) (i:=4) rfl,aa ?_⟩
   rw[r1,CP (by omega) (by omega)]
   refine Sat.st h (k:=0) rfl (by show 4<5;decide) trivial rfl λw h=>?_
   have h:Sat σ w (bC b q n c {U with deep:=a7.deep+1 - 1}::(b1,cel (N10.C {}).toList ae)::(E++(RM++(KM++L)))):=h
   have k0:s.kp {U with deep:=a7.deep+1 - 1}:=⟨b9.1.trans a6.1,by show a7.deep+1 - 1=s.deep;have:=a6.2;omega⟩
   revert h k0
   generalize ({U with deep:=a7.deep+1 - 1}:BS)=b8
   intro h k0
   obtain⟨bl1,bl2,bl3⟩:=sQ (by omega) W.ab W.sm W.ne (by have:=W.len;omega)
   intro X n2
   have r6: ∀k i g6 h4 h8 w,i+k=(aE l).tail.length->SlS g6 h4 (((aE l).tail.take i).map λs=>62::32::s) h8->Sat σ w (h8++(E++(bC b q n c b8::(b1,cel (N10.C {}).toList ae)::(RM++(KM++L)))))->X b1 I l.length g g6 (((aE l).tail.take i).map λs=>62::32::s).length h4 b3 (aE l).tail.length b4 ((aE l).tail.length:Nat) (i:Nat) w:=by
    intro k
    induction k with
    |zero=>
     intro i g6 h4 h8 w g7 g1 h
     obtain rfl:i=(aE l).tail.length:=g7
     refine n2 _ _ _ _ _ _ _ _ _ _ _ _ _ (af (by simp) ?_)
     rw[lW2] at g1⊢
     refine fin w (.quote l) b8 g6 h4 h8 {kind:=2} (lM 1 l) I l.length g us RM KM {} E ⟨⟨W.ne,W.ab⟩,?_,g2 _ rfl,λf0=>?_⟩ k0 g1 ⟨rfl,rfl,λf c1=>?_⟩ c8 d0 (by have:=W.len;omega) h.re
     ·simp only[smB]
      exact⟨g3,W.len,W.sm⟩
     ·have:=W.fl (by show a7.flat=true;rw[a6.1];exact f0)
      have e:BS.fq {a7 with deep:=a7.deep+1}=true:=by
       unfold BS.fq
       rw[decide_eq_true_eq]
       show 0<a7.deep+1
       omega
      rw[e] at this
      exact this
     ·rw[mI]
      have:(bg (.quote l)).length=(aE l).tail.length:=by simp[bg]
      rw[this]
    |succ k t0=>
     intro i g6 h4 h8 w g7 g1 h
     have j1:i<(aE l).tail.length:=by omega
     obtain⟨a,rfl,t4⟩:=b7.get j1
     refine n2 _ _ _ _ _ _ _ _ _ _ _ _ _ (ag (by rw[decide_eq_true_eq];omega) ⟨by omega,by omega,aa ?_⟩)
     rw[lC0,lC1]
     have u2:=bl2 _ (lQ1 j1)
     refine⟨_,t4 h (λx f6=>lB0 _ (lD1 _ f6)),?_⟩
     have e6:(hP #[62,32])=bs [62,32]:=rfl
     rw[e6,bM]
     refine⟨by rw[aJ,aJ,h9];simp only[lF0,lK1];omega,?_⟩
     refine Sat.appS g1 h _ (by rw[lS0];have:=List.length_take_le i (aE l).tail;omega) λf1 f3 w d2 c9 h=>?_
     have s7:(((aE l).tail.take i).map λs=>62::32::s)++ [[62,32]++(aE l).tail[i]]=((aE l).tail.take (i+1)).map λs=>62::32::s:=by
      rw[lH1 j1,lV0];rfl
     rw[s7] at c9⊢
     rw[aN (by omega)]
     exact t0 (i+1) f1 f3 d2 w (by omega) c9 h
   exact r6 (aE l).tail.length 0 none 0 [] w (by omega) SlS.nil h.re
  ·have g3:=i3 (by omega)
   have g5:i64.wrap (((d:Nat):Int) - 1)=((d - 1:Nat):Int):=by rw[il (by omega) (by omega)]
   refine af rfl (af rfl (af rfl (af rfl (af rfl (ag rfl (ag rfl ?_))))))
   rw[g5]
   refine o0 g3 odd d3 ⟨(a6.dp g4).1,by have:=(a6.dp g4).2;omega⟩ h λw bn U b3 b4 E e5 f4 I O g us RM KM W b9 b7 h7 c8 d0 e9 h=>⟨_,_,_,_,_,_,_,_,_,_,_,_,_,_,_,_,_,rfl,?_⟩
   have f5:d - 1+1=d:=by omega
   refine fin w bn U b3 b4 E e5 f4 I O g us RM KM {} [] ⟨W.ab,by have:=W.sm;rwa [f5] at this,W.kd,λc1=>?_⟩ (a6.trans b9) b7 h7 c8 d0 e9 h.re
   have:=W.fl (by rw[a6.1];exact c1)
   unfold BS.fq at this⊢
   rw[a6.2] at this
   exact this
  ·have g3:=i3 (by omega)
   have g5:i64.wrap (((d:Nat):Int) - 1)=((d - 1:Nat):Int):=by rw[il (by omega) (by omega)]
   refine af rfl (af rfl (af rfl (af rfl (af rfl (af rfl (ag rfl ?_))))))
   rw[g5]
   refine o0 g3 odd d3 ⟨(a6.dp g4).1,by have:=(a6.dp g4).2;omega⟩ h λw bn U b3 b4 E e5 f4 I O g us RM KM W b9 b7 h7 c8 d0 e9 h=>⟨_,_,_,_,_,_,_,_,_,_,_,_,_,_,_,_,_,rfl,?_⟩
   have f5:d - 1+1=d:=by omega
   refine fin w bn U b3 b4 E e5 f4 I O g us RM KM {} [] ⟨W.ab,by have:=W.sm;rwa [f5] at this,W.kd,λc1=>?_⟩ (a6.trans b9) b7 h7 c8 d0 e9 h.re
   have:=W.fl (by rw[a6.1];exact c1)
   unfold BS.fq at this⊢
   rw[a6.2] at this
   exact this
  ·have t6:(((k:Nat):Int)==8)=false:=g0 8 (by omega)
   refine af (g0 2 (by omega)) (af (g0 3 (by omega)) (af (g0 4 (by omega)) (af (g0 5 (by omega)) (af (g0 6 (by omega)) (af (g0 7 (by omega)) ?_)))))
   rw[t6]
   exact para w a7 a6 h
 refine bp (λ_=>m4 0 (by omega) (by omega)) λhc=>m4 r hr λu8=>?_
 simp only[lK2,lY3,decide_eq_false_iff_not] at hc
 omega

theorem Sat.appL0 {q b3:OA}{c U:Nat}{ls E:List (List UInt8)}{M b7:List ai}(W:SlS q c ls M)(b4:SlS b3 U E b7)(h:Sat σ w (M++(b7++L)))(c1:ls≠ [])(a7:ls.length+E.length<1000000){K:OA->Nat->Nat->World->Prop}(I: ∀g y O V,SlS g y (ls++E) V->Sat σ O (V++L)->K g (ls++E).length y O):
 ∃(g:OA),∃(b6:Nat),∃(y:Nat),∃b9,(Builtin.append_ #[al,al] al #[hT q ls.length c,hT b3 E.length U]).run P w= .ok (hT g b6 y) b9/\K g b6 y b9:=by
 by_cases b8:E= []
 ·subst b8
  have d0:0<ls.length:=lY0.2 c1
  have c5:q≠none:=by
   rintro rfl
   obtain⟨_,_,⟨_,h0,_⟩|⟨b,sp,h0,_⟩⟩:=W
   ·omega
   ·cases h0
  obtain⟨c9,c4,c8⟩:=b4
  have hs:Src P 1 al (hT b3 0 U) 0 [] w:=by
   rcases c8 with ⟨rfl,_,rfl,rfl⟩|⟨b,sp,rfl,rfl,c4⟩
   ·exact Src.ofNil w rowStr.ht 0
   ·exact Src.ofSlice w rowStr.ht _ _ U _ (by simp) (λj u a6=>by simp at a6) λu a6=>by cases a6
  obtain⟨g,y,O,V,hr,b5,c3,_⟩:=Sat.app rowStr (ty:=al) W h hs (.inr c5) (by simp at a7;omega) (by simp at a7;omega)
  refine⟨g,_,y,O,hr,?_⟩
  have I:=I g y O V
  rw[lG0] at I
  rw[lG0] at b5
  exact I b5 (c3.sub (List.Sublist.append_left (lH3 _ _) _))
 ·exact Sat.appL W b4 h b8 a7 I
theorem Sat.appG {t ty e b7:TypeId}{sz bytes:Nat}(r:Row P t e sz bytes){q:OA}{n c b:Nat}{us E:List Value}{M:List ai}(b3:Sl sz e q n c us M)(h:Sat σ w (M++((b,cel E b7)::L)))(a7:E.length=1*sz)(b6: ∀u∈E,u.oneCell'=true)(hb:(n+1)*bytes<=140737488355328)(a6:n+1<4611686018427387904){K:OA->Nat->Nat->World->Prop}(b4: ∀g y I O,Sl sz e g (n+1) y (us++E) O->Sat σ I (O++L)->K g (n+1) y I):
 ∃(g:OA),∃(V:Nat),∃(y:Nat),∃U,(Builtin.append_ #[t,t] ty #[hT q n c,hT (kE b) 1 1]).run P w= .ok (hT g V y) U/\K g V y U:=by
 have hs:Src P sz t (hT (kE b) 1 1) 1 E w:=by
  refine Src.ofSlice w r.ht _ 1 1 _ a7 (λj u b8=>?_) b6
  rw[show (Addr.add (hZ b 0) j)=⟨b,j,none⟩ from Addr.add_zero_lit b j]
  exact h.ld (lB0 _ (.head _)) b8
 obtain⟨g,y,I,O,hr,W,b5,_⟩:=Sat.app r (ty:=ty) b3 h hs (.inl (by omega)) hb a6
 refine⟨g,n+1,y,I,hr,b4 g y I O W ?_⟩
 exact b5.sub (List.Sublist.append_left (lS3 ..) _)
theorem Sat.appNd {q:OA}{n c b:Nat}{us:List Value}{M:List ai}(V:Sl 10 ae q n c us M){v:N10}(h:Sat σ w (M++((b,cel v.C.toList ae)::L)))(a6:n<1000000){K:OA->Nat->Nat->World->Prop}(W: ∀g y O U,Sl 10 ae g (n+1) y (us++v.C.toList) U->Sat σ O (U++L)->K g (n+1) y O):
 ∃(g:OA),∃(I:Nat),∃(y:Nat),∃E,(Builtin.append_ #[au,au] au #[hT q n c,hT (kE b) 1 1]).run P w= .ok (hT g I y) E/\K g I y E:=
 Sat.appG rowND V h rfl (Ek v) (by omega) (by omega) W
theorem SlS.tail {q:OA}{c:Nat}{x:List UInt8}{ls:List (List UInt8)}{M:List ai}(O:SlS q c (x::ls) M)(I: ∀U∈M,U∈L):SArg σ L (if c=1 then q else q.map (·.add (1*rowStr.i.size))) ls.length ls:=by
 obtain⟨W,E,g⟩:=O
 rcases g with ⟨_,h0,_⟩|⟨b,sp,rfl,rfl,V⟩
 ·simp at h0
 refine⟨rfl,λi hi=>?_⟩
 have hc:c≠1:=by simp only[lF0] at E;omega
 rw[if_neg hc,rowStr.hs]
 refine⟨⟨b,1,none⟩,rfl,λw h=>?_⟩
 rw[show (Addr.add (hZ b 1) i)=⟨b,1+i,none⟩ from lK0 ..]
 refine h.ld (I _ (.head _)) ?_
 rw[lG4,lM0 (by rw[kv];simp;omega)]
 have:=ue (ts:=x::ls) (j:=i+1) (by simp;omega)
 simpa using this
end Go.Proofs.YtendaipfdnhnaaaGreatDoor
