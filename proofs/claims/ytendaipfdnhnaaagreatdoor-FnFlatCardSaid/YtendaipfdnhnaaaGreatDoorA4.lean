/- Part 4 of the proof of the law FnFlat: for every input the law returns true, the inputs read as they did, and memory that was there is as it was; under the conditions of the given row alone. -/
import Derived.Laws.RangeString
import Derived.Test.YtendaipfdnhnaaaGreatDoorA3
set_option linter.all false
open Go.IntKind(i64)
open ByteArray renaming mk→hP
open List renaming replicate→hN
namespace Go.Proofs.YtendaipfdnhnaaaGreatDoor
open Go.Proofs Go.IntWalk Go.RowKit
set_option maxRecDepth 20000
variable {σ:Out} {w:World} {L L':List ai} {R:Ending->World->Prop} {G:List UInt8->List Inl} {op:Opt}

structure Ln.has (l:Ln) (c:UInt8) (rest:List UInt8):Prop where
 ok:l.ok
 sp:l.sp=0
 tx:l.text.drop l.i=c::rest
theorem Ln.has.get {l:Ln}{c:UInt8}{r:List UInt8}(h:l.has c r):l.text[l.i]? =some c:=by
 have:=congrArg (λx:List UInt8=>x[0]?) h.tx
 simpa using this
theorem Ln.has.lt {l:Ln}{c:UInt8}{r:List UInt8}(h:l.has c r):l.i<l.text.length:=by
 have:=congrArg List.length h.tx
 simp at this;omega
theorem Ln.has.next {l:Ln}{c d:UInt8}{r:List UInt8}(h:l.has c (d::r)):({l with i:=l.i+1}:Ln).has d r:=by
 have g:=congrArg List.length h.tx
 simp at g
 refine⟨⟨by show l.i+1<=l.text.length;omega,by show l.tab<=l.i+1;have:=h.ok.tab;omega,h.ok.len,h.ok.sp⟩,h.sp,?_⟩
 show l.text.drop (l.i+1)=d::r
 have:=congrArg (List.drop 1) h.tx
 rw[lK5] at this
 simpa[lG4] using this
theorem Ln.has.tsGo {l:Ln}{c:UInt8}{r:List UInt8}(h:l.has c r)(hc:cO c=false)(mn k n:Nat)(e:Bool):l.tsGo mn e (k+1) n=if mn<=n then some l else none:=by
 simp only[cO,lK2,beq_eq_false_iff_ne,ne_eq] at hc
 have g:=h.lt
 simp[Ln.tsGo,h.sp,h.get,hc.1,hc.2,Nat.not_le.2 g]
theorem Ln.has.sp1 {l:Ln}{r:List UInt8}{mn:Nat}{e:Bool}(h:l.has 32 r):l.trimSp mn 1 e=some {l with i:=l.i+1}:=by
 have g:=h.lt
 simp[Ln.trimSp,Ln.tsGo,h.sp,h.get,Nat.not_le.2 g]
theorem Ln.has.lead {l:Ln}{c:UInt8}{r:List UInt8}(h:l.has c r)(hc:cO c=false)(k:Nat)(e:Bool):l.lead (k+1) e=l:=by
 unfold Ln.lead Ln.trimSp;rw[h.tsGo hc];rfl
theorem Ln.has.strip {l:Ln}{c:UInt8}{r:List UInt8}(h:l.has c r)(hc:cO c=false):l.strip 3 0=(0,l):=by
 simp only[Ln.strip,Ln.trimSp];rw[h.tsGo hc];rfl
theorem Ln.has.peek {l:Ln}{c:UInt8}{r:List UInt8}(h:l.has c r):l.peek=c:=by
 unfold Ln.peek
 rw[h.sp,if_neg (by decide),lQ0,h.get];rfl
theorem Ln.has.trimC {l:Ln}{c:UInt8}{r:List UInt8}(h:l.has c r)(d:UInt8):l.trimC d=if c=d then some {l with i:=l.i+1} else none:=by
 unfold Ln.trimC
 rw[h.sp,if_neg (by decide),h.get]
 simp
theorem Ln.has.blank {l:Ln}{c:UInt8}{r:List UInt8}(h:l.has c r)(hc:cO c=false):l.blank=false:=by
 unfold Ln.blank
 rw[h.tx,lL3,hc];rfl
theorem Ln.has.plain {l:Ln}{c:UInt8}{r:List UInt8}(h:l.has c r)(hc:nZ c=true):l.plain:=by
 simp only[nZ,lL1,lN5,bne_iff_ne,ne_eq] at hc
 obtain⟨⟨h0,b3⟩,V⟩:=hc
 have g:=tM h0
 simp only[mh,lN5,lK2,beq_eq_false_iff_ne,ne_eq] at h0
 obtain⟨⟨⟨⟨⟨⟨⟨⟨_,U⟩,I⟩,O⟩,W⟩,E⟩,b5⟩,a6⟩,a7⟩:=h0
 have y: ∀e,l.lead 3 e=l:=h.lead g 2
 have b4:(l.lead 3 false).peek=c:=by rw[y];exact h.peek
 refine⟨h.ok,h.blank g,?_,?_,?_,LDecl.of_peek h.ok (by rw[h.strip g,h.peek];exact V),HDecl.of_peek h.ok (by rw[b4];exact b3),?_,?_⟩
 ·unfold Ln.quote;rw[y,h.trimC,if_neg U];rfl
 ·unfold Ln.heading;rw[y,h.trimC,if_neg I]
 ·unfold Ln.isHR
  simp only[y,h.peek]
  rw[if_neg]
  rintro (hh|hh|hh)
  ·exact a6 hh
  ·exact O hh
  ·exact a7 hh
 ·rw[h.strip g,h.peek];exact⟨W,E⟩
 ·unfold Ln.trimSp;rw[h.tsGo g];rfl
theorem Ln.has.bullet {l:Ln}{c d:UInt8}{r:List UInt8}(h:l.has c (32::d::r))(hc:c=45\/c=42\/c=43)(hd:cO d=false):l.bullet=some (c,2,{l with i:=l.i+2}):=by
 have y:cO c=false:=by rcases hc with rfl|rfl|rfl<;>decide
 have g:=h.next.next
 unfold Ln.bullet
 rw[h.strip y]
 simp only[h.peek]
 rw[if_pos hc,h.trimC,if_pos rfl]
 show (match (Ln.trimSp 1 1 true _) with|none=>none|some t2=>_)=_
 rw[h.next.sp1]
 simp only
 rw[g.strip hd]
 simp only
 have:Ln.trimSp 1 1 true ({l with i:=l.i+1+1}:Ln)=none:=by
  unfold Ln.trimSp;rw[g.tsGo hd];rfl
 rw[this]
theorem drop_suffix {u s:List UInt8}(h:u<:+s):s.drop (s.length - u.length)=u:=by
 obtain⟨a,rfl⟩:=h
 rw[lA0,lE3,lC4]
theorem jJ {b:Nat}{p:PS}{M:List ai}{l:Ln}{c:UInt8}{r:List UInt8}(g:Bt b p M l bZ)(h:l.has c r)(hc:xS c)(O:l.isHR=false): ∀j (V:j<newsF.length),j<4->Bt b p M l newsF[j]:=by
 obtain⟨E,I,U⟩:=hc
 intro j V W
 match j,W with
 |0,_=>exact λσ w L R g y=>iI (x:= .nilIface) g h.ok (by unfold Ln.quote;rw[h.lead E 2,h.trimC,if_neg I];rfl) y
 |1,_=>exact λσ w L R g y=>lS g h.ok (by unfold Ln.heading;rw[h.lead E 2,h.trimC,if_neg U]) y
 |2,_=>exact g
 |3,_=>exact λσ w L R g y=>rW g h.ok O y

def Runs (R:Ending->World->Prop)(E:OA->Nat->WP)(b b1:Nat):Prop:=
 ∀w,(∀X:OA->Nat->WP,(∀y g w,ak.bl102 R X y g w->X y g w)->ak.bl102 R X (kE b) b1 w)->E (kE b) b1 w
theorem Runs.top (b b1:Nat):Runs R (ak.l102 R) b b1:=λw H X g=>g _ _ _ (H X g)
theorem Runs.of {X:OA->Nat->WP}(y: ∀E g w,ak.bl102 R X E g w->X E g w)(b b1:Nat):Runs R X b b1:=λw H=>y _ _ _ (H X y)
theorem B8 {e1:OA->Nat->WP}{b b1:Nat}{gs:List Bk}{top:Bk}{p:PS}{l l2:Ln}{r r2:List UInt8}{x c d:UInt8}{num n:Nat}{ty:TypeId}{v:Value}(e8:Runs R e1 b b1)(h:DocC σ b (l.at b1::L) (gs++ [top]) .none p w)(hd:p.depth=gs.length)(g4:gs.length<100000)(c4:top.ob.bd= .iface ty v)(e0:ty≠ar)(g1:ty≠az)(a7:l.has x r)(hc:xS x)(c3:l.isHR=false)(e5:qh l c num n l2)(c8:l2.has d r2)(f0:cO d=false)(b6:p.lineno<1000000000)(f5: ∀(X:OA->Nat->WP),(∀e3 d3 w,ak.bl102 R X e3 d3 w->X e3 d3 w)-> ∀w (p':PS) f g lb it,p'.base=p.base->p'.lineno=p.lineno->p'.depth=p.depth+2->f.isList lb c.toNat (num:Nat) it->f.D= []->ItemOf it g lb n true->g.D= []->f.ob.s=p.lineno->g.ob.s=p.lineno->g.ob.e=p.lineno->DocC σ b (l2.at b1::L) (gs++ [top]++ [f,g]) .none p' w->X (kE b) b1 w):
 ak.bl102 R e1 (kE b) b1 w:=by
 obtain⟨M,E,g3,g5,hs,ht,e7,⟨rfl,rfl⟩,h⟩:=h
 have hs:Stk p (gs.map Bk.ob++ [top.ob]) M:=by simpa using hs
 have e4:cO x=false:=hc.1
 have c5:=c8.blank f0
 have h:Sat σ w (p.at b::M++(l.at b1::(E++(aM (gs++ [top])++L)))):=h.re
 refine jK (l2:=l) 4 (by decide) h (jJ (λσ w L R b8 c1=>kY b8 hs (by rw[hd]) (by simp) c4 e0 a7.ok c1) a7 hc c3) a7.ok (a7.blank e4) λw nb e f6 h g2=>?_
 show callE P cm _ f6 w
 refine vn h hs (by rw[hd];simp) (by simp;omega) c4 e0 g1 a7.ok e5 λw p' b5 lb U V O I ib W f2 h=>?_
 have d0:p'.depth=gs.length:=by rw[W];exact hd
 rw[c5,show (!false)=true from rfl] at h
 have h:Sat σ w (l.at b1::p'.at b::(b5++(cP lb c.toNat (num:Nat) false none (kQ U I O V)::(U,cel [kT (kE b)] ah)::l2.at V::g8 O lb::jz I ib::gt ib lb n true::((nb,cel newsC e)::(E++(aM (gs++ [top])++L)))))):=h.re
 refine g2 w _ p' (by omega) h λw h=>?_
 refine e8 w λX e9=>?_
 let b4:PS:= {p' with depth:=p'.depth+1}
 have d1:Stk b4 (gs.map Bk.ob++ [top.ob]++ [⟨Cv lb,none,0,0,p.lineno,p.lineno⟩]) b5:=f2.of rfl rfl rfl
 have d2:b4.depth=(gs.map Bk.ob++ [top.ob]).length:=by show p'.depth+1=_;rw[d0];simp
 have h:Sat σ w (l.at b1::b4.at b::(b5++(cP lb c.toNat (num:Nat) false none (kQ U I O V)::(U,cel [kT (kE b)] ah)::l2.at V::g8 O lb::jz I ib::gt ib lb n true::((nb,cel newsC e)::(E++(aM (gs++ [top])++L)))))):=h
 have h:Sat σ w (b4.at b::b5++(l.at b1::(cP lb c.toNat (num:Nat) false none (kQ U I O V)::(U,cel [kT (kE b)] ah)::l2.at V::g8 O lb::jz I ib::gt ib lb n true::((nb,cel newsC e)::(E++(aM (gs++ [top])++L)))))):=h.re
 refine jK (l2:=l2) 4 (by decide) h (jJ (λσ w L R b8 c1=>kY b8 d1 d2 rfl rfl (by decide) a7.ok c1) a7 hc c3) c8.ok c5 λw b7 b9 g0 h f4=>?_
 show callE P cm _ g0 w
 have h:Sat σ w (b4.at b::b5++(cP lb c.toNat (num:Nat) false none (kQ U I O V)::(U,cel [kT (kE b)] ah)::l2.at V::g8 O lb::jz I ib::gt ib lb n true::(l.at b1::(b7,cel newsC b9)::(nb,cel newsC e)::(E++(aM (gs++ [top])++L))))):=h.re
 refine wQ (l:=l) h d1 d2 (by simp;omega) rfl λw y c2 b3 c9 h=>?_
 have f1:y.depth=gs.length+1:=by rw[b3];show p'.depth+1=_;rw[d0]
 have f3:y.lineno=p.lineno:=by rw[b3];show p'.lineno=_;rw[W]
 have h:Sat σ w (l.at b1::y.at b::(c2++(cP lb c.toNat (num:Nat) false (kE ib) .nilFunc::gt ib lb n true::((b7,cel newsC b9)::(nb,cel newsC e)::(E++(aM (gs++ [top])++L)))))):=h.re
 refine f4 w _ y (by omega) h λw h=>?_
 have e6:b4.lineno=p.lineno:=by show p'.lineno=_;rw[W]
 rw[e6] at c9
 refine f5 X e9 w {y with depth:=y.depth+1} ⟨⟨Cv lb,none,0,0,p.lineno,p.lineno⟩,[cP lb c.toNat (num:Nat) false (kE ib) .nilFunc],[],[]⟩ ⟨⟨DJ ib,none,0,0,p.lineno,p.lineno⟩,[gt ib lb n true],[],[]⟩ lb (kE ib)
  (by rw[b3];show p'.base=_;rw[W];rfl) f3 (by show y.depth+1=_;rw[f1,hd];omega) ⟨rfl,rfl⟩ rfl ⟨ib,rfl,rfl,rfl⟩ rfl rfl rfl rfl ?_
 refine⟨c2,E,[],[],?_,?_,?_,⟨rfl,rfl⟩,?_⟩
 ·rw[lG0]
  have e:(gs++ [top]++ [(⟨⟨Cv lb,none,0,0,p.lineno,p.lineno⟩,[cP lb c.toNat (num:Nat) false (kE ib) .nilFunc],[],[]⟩:Bk),⟨⟨DJ ib,none,0,0,p.lineno,p.lineno⟩,[gt ib lb n true],[],[]⟩]).map Bk.ob=gs.map Bk.ob++ [top.ob]++ [⟨Cv lb,none,0,0,p.lineno,p.lineno⟩]++ [⟨DJ ib,none,0,0,p.lineno,p.lineno⟩]:=by simp
  rw[e]
  exact c9.of rfl rfl rfl
 ·rw[bE,uV]
  show Txts _ ((txF (gs++ [top])++([]++ [])).map TX.t) E
  rw[lG0,lG0]
  exact ht.of (by show y.tq=_;rw[b3];show p'.tq=_;rw[W]) (by show y.tn=_;rw[b3];show p'.tn=_;rw[W]) (by show y.tc=_;rw[b3];show p'.tc=_;rw[W])
 ·intro g a6
  rcases lP0.1 a6 with a6|a6
  ·exact e7 g a6
  ·rcases lW0.1 a6 with rfl|a6
   ·exact⟨Sl.nil 1 aO,by simp,b6,b6⟩
   ·obtain rfl:=lN0.1 a6
    exact⟨Sl.nil 1 aO,by simp,b6,b6⟩
 ·rw[bh (gs++ [top]),jT]
  show Sat σ w (_::c2++(E++(aM (gs++ [top])++(([]++([cP lb c.toNat (num:Nat) false (kE ib) .nilFunc]++([]++ [])))++([]++([gt ib lb n true]++([]++ []))))++([]++(l2.at b1::L)))))
  exact h.less [(nb,cel newsC e),(b7,cel newsC b9)]

def noNL (l:List UInt8):Prop:=10 ∉ l/\13 ∉ l
inductive LinesOf:List UInt8->List (List UInt8 × UInt8)->Prop where
 |nil:LinesOf [] []
 |last {l:List UInt8}:l≠ []->noNL l->LinesOf l [(l,0)]
 |cons {l t:List UInt8} {ls:List (List UInt8 × UInt8)}:noNL l->LinesOf t ls->LinesOf (l++10::t) ((l,10)::ls)
theorem LinesOf.no13 {t:List UInt8}{ls:List (List UInt8 × UInt8)}(h:LinesOf t ls):13 ∉ t:=by
 induction h with
 |nil=>simp
 |last y g=>exact g.2
 |cons y g E=>
  simp only[lP0,lW0,not_or]
  exact⟨y.2,by decide,E⟩
theorem LinesOf.len {t:List UInt8}{ls:List (List UInt8 × UInt8)}(h:LinesOf t ls):ls.length<=t.length:=by
 induction h with
 |nil=>simp
 |last g y=>have:=lY0.2 g;simp;omega
 |cons g y E=>simp;omega
theorem pT {A B:List UInt8}{c:UInt8}(hc:c ∉ A): ∀(k i:Nat),i+k=A.length-> ∀f,k<f->kO [c] (A++c::B) f i=some A.length
 |0,i,hi,f+1,_=>by
  obtain rfl:i=A.length:=by omega
  simp only[kO,lE0]
  rw[if_pos (by simp),lC4,if_pos (by simp)]
 |k+1,i,hi,f+1,hf=>by
  simp only[kO,lE0]
  rw[if_pos (by simp;omega),if_neg]
  ·exact pT hc k (i+1) (by omega) f (by omega)
  ·intro y
   have g:i<A.length:=by omega
   rw[lX2 (by omega),lI1 g,lR0,lG5,List.take_zero] at y
   have E:A[i]=c:=(List.cons.inj y).1
   exact hc (E▸lQ1 g)
theorem CK {A B:List UInt8}{c:UInt8}(hc:c ∉ A):idx (A++c::B) [c]=some A.length:=by
 unfold idx
 exact pT hc A.length 0 (by omega) _ (by simp;omega)

def Bk.isRoot (f:Bk):Prop:= ∃g,f.ob.bd=Hb g/\f.own= [(g,cel [] eY)]
def qj (op:Opt)(fs:List Bk)(lf:Leaf)(Q:List DB->Prop):Prop:=
 ∀(σ:Out) (R:Ending->World->Prop) (L:List ai) (b pb:Nat) (p:PS) (w:World) (X:OA->Int->WP),(∀y g w,aH.bl1 R X y g w->X y g w)->op.at pb∈L->p.pz=kE pb->DocC σ b L fs lf p w->
  (∀w (p':PS) root,p'.base=p.base->root.isRoot->Q root.D->DocC σ b L [root] .none p' w->X (kE b) 0 w)->X (kE b) 0 w
theorem AX {op:Opt}{b pb:Nat}{p:PS}{fs:List Bk}{lf:Leaf}{Q:List DB->Prop}(b8:qj op fs lf Q)(h:DocC σ b L fs lf p w)(b3:p.pz=kE pb)(b7:op.at pb∈L)(b9: ∀w (p':PS) E db IM y q n c s e,p'.base= {p.base with root:=kE db}->Q E->Txts p' ((ci E).map TX.t) y->Sl 1 aO q n c (E.map DB.v) IM->n<1000000->
  Sat σ w (p'.at b::(y++((ci E).map TX.chunk++(Br db s e q n c p.links::(IM++(cZ E++L))))))->R (hQ (.tuple #[])) w):
 callE P bj #[kT (kE b),hY 0] R w:=by
 refine aH.sound ?_
 have h0:=h
 obtain⟨M,y,a7,c3,hs,ht,O,c5,h⟩:=h
 refine aa ?_
 refine⟨_,_,_,h.ldA,?_⟩
 refine af (by simp) ?_
 intro X I
 refine b8 σ R L b pb p w X I b7 b3 h0 λw g root hb W c1 h=>?_
 obtain⟨U,b5,a6⟩:=W
 obtain⟨M,y,a7,c3,hs,ht,O,⟨rfl,rfl⟩,h⟩:=h
 have hs:Stk g [root.ob] M:=hs
 have c2:g.stn=1:=hs.2.1
 have b6:g.links=p.links:=by have:=congrArg PS.links hb;exact this
 refine I _ _ _ (aa ?_)
 refine⟨_,_,_,h.ldA,?_⟩
 rw[c2]
 refine ag rfl ?_
 refine xH h hs b5 λw db h=>⟨_,rfl,I _ _ _ (aa ?_)⟩
 refine⟨_,_,_,h.ldA,?_⟩
 refine af rfl ?_
 obtain⟨V,c4,_⟩:=O root (by simp)
 have b4:=V.1
 simp only[lS0,lC1] at b4
 rw[dL] at ht
 refine b9 w {g with stn:=0,root:=kE db} root.D db root.IM y root.ob.q root.ob.n root.ob.c root.ob.s root.ob.e ?_ c1 (ht.of rfl rfl rfl) V (by omega) ?_
 ·have e:({g with stn:=0,root:=kE db}:PS).base= {g.base with root:=kE db}:=rfl
  rw[e,hb]
 ·rw[<-b6]
  rw[dA,a6] at h
  have h:Sat σ w (({g with stn:=0,root:=kE db}:PS).at b::M++(Br db root.ob.s root.ob.e root.ob.q root.ob.n root.ob.c g.links::(y++(root.IM++([(U,cel [] eY)]++(cZ root.D++(ci root.D).map TX.chunk))++([]++L))))):=h
  exact h.less (M++ [(U,cel [] eY)])
def qd (L0:List ai)(op:Opt)(n:Nat)(l:List UInt8)(nl:UInt8)(fs:List Bk)(lf:Leaf)(J:List Bk->Leaf->Prop):Prop:=
 ∀(σ:Out) (R:Ending->World->Prop) (L:List ai) (b pb:Nat) (p:PS) (w:World),(∀c∈L0,c∈L)->op.at pb∈L->p.pz=kE pb->p.lineno=n->n<1000000000->DocC σ b L fs lf p w->
  (∀w (p':PS) y g,p'.base=p.base->p'.lineno=p.lineno->J y g->DocC σ b L y g p' w->R (hQ (.tuple #[])) w)->callE P ie #[kT (kE b),(Ct l nl).val] R w
theorem Cw {L0:List ai}{op:Opt}{E:List (List UInt8 × UInt8)->Nat->List Bk->Leaf->Prop}(step: ∀l nl rem n fs lf,E ((l,nl)::rem) n fs lf->qd L0 op (n+1) l nl fs lf (E rem (n+1)))(d3: ∀c∈L0,c∈L){X:OA->BA->Nat->WP}{b pb:Nat}{p0:PS}(V: ∀c4 b9 c1 w,bq.bl1 R X c4 b9 c1 w->X c4 b9 c1 w)(d2:op.at pb∈L)(d1:p0.pz=kE pb)(c3: ∀w (p:PS) fs lf,p.base=p0.base->E [] p.lineno fs lf->DocC σ b L fs lf p w->bq.bl1 R X (kE pb) (bs []) b w){text:List UInt8}{ls:List (List UInt8 × UInt8)}(O:LinesOf text ls):
 ∀w (p:PS) fs lf,text.length<1000000->p.lineno+ls.length<1000000000->p.base=p0.base->E ls p.lineno fs lf->DocC σ b L fs lf p w->X (kE pb) (bs text) b w:=by
 have k3: ∀(l:List UInt8) (nl:UInt8) (t:List UInt8) (rem:List (List UInt8 × UInt8)) w (p:PS) fs lf,(∀w (p:PS) fs lf,p.lineno+rem.length<1000000000->p.base=p0.base->E rem p.lineno fs lf->DocC σ b L fs lf p w->X (kE pb) (bs t) b w)->
  p.lineno+rem.length+1<1000000000->p.base=p0.base->E ((l,nl)::rem) p.lineno fs lf->DocC σ b L fs lf p w->bq.k3 R X (kE pb) (bs t) b (bs l) (nl.toNat:Int) w:=by
  intro l nl t rem w p fs lf next y hb g h
  obtain⟨M,W,b4,a6,hs,ht,b5,O,h⟩:=h
  unfold bq.k3
  refine⟨_,Sat.ld h (.head _) (i:=3) rfl,?_⟩
  rw[aN (by omega)]
  refine h.stA 0 λw h=>?_
  let U:PS:= {p with lineno:=p.lineno+1}
  have h:Sat σ w (U.at b::M++(W++(aM fs++(a6++L)))):=h
  have b8:U.base=p0.base:=hb
  have c8:U.pz=kE pb:=by
   have:=congrArg PS.pz b8
   rw[show U.pz=p0.pz from this];exact d1
  refine step l nl rem p.lineno fs lf g σ _ L b pb U w d3 d2 c8 rfl (by omega) ⟨M,W,b4,a6,hs.of rfl rfl rfl,ht.of rfl rfl rfl,b5,O,h⟩ λw p2 c9 d0 e3 c2 e0 e2=>⟨rfl,?_⟩
  exact next w p2 c9 d0 (by rw[c2];show p.lineno+1+_<_;omega) (e3.trans b8) (by rw[c2];exact e0) e2
 induction O with
 |nil=>
  intro w p fs lf b3 y hb g h
  exact V _ _ _ _ (c3 w p fs lf hb g h)
 | @last l hne hnl=>
  intro w p fs lf b3 y hb g h
  have b7:lm l [10]= -1:=by unfold lm;rw[ll hnl.1]
  have b6:lm l [13]= -1:=by unfold lm;rw[ll hnl.2]
  refine V _ _ _ _ (ag (by rw[cJ];simpa using hne) ?_)
  refine kh (sub:= [10]) (by omega) (by decide) ⟨_,rfl,?_⟩
  refine kh (sub:= [13]) (by omega) (by decide) ⟨_,rfl,?_⟩
  rw[b7,b6]
  refine af rfl (af rfl ?_)
  refine k3 l 0 [] [] w p fs lf ?_ (by simp at y⊢;omega) hb g h
  intro w p fs lf y hb g h
  exact V _ _ _ _ (c3 w p fs lf hb g h)
 | @cons l t ls hnl hLt ih=>
  intro w p fs lf b3 y hb g h
  have c5:13 ∉ l++10::t:=(LinesOf.cons hnl hLt).no13
  have b7:lm (l++10::t) [10]=(l.length:Nat):=by unfold lm;rw[CK hnl.1]
  have b6:lm (l++10::t) [13]= -1:=by unfold lm;rw[ll c5]
  have a7:(l++10::t).length=l.length+t.length+1:=by simp;omega
  refine V _ _ _ _ (ag (by rw[cJ];simp[gx]) ?_)
  refine kh (sub:= [10]) (by omega) (by decide) ⟨_,rfl,?_⟩
  refine kh (sub:= [13]) (by omega) (by decide) ⟨_,rfl,?_⟩
  rw[b7,b6]
  refine af rfl ?_
  refine ag (by simp) ?_
  obtain⟨M,W,b4,a6,hs,ht,b5,O,h⟩:=h
  refine Sat.tk h λw h=>?_
  rw[aN (by omega),aJ,lC0,lC0,nP,cj,lM2,lQ4]
  refine⟨by omega,by rw[a7];omega,by omega,by rw[a7];omega,?_⟩
  have e1:(l++10::t).drop (l.length+1)=t:=by rw[lV5];simp
  rw[e1]
  refine k3 l 10 t ls w p fs lf ?_ (by simp at y⊢;omega) hb g ⟨M,W,b4,a6,hs,ht,b5,O,h⟩
  intro w p fs lf y hb g h
  exact ih w p fs lf (by rw[a7] at b3;omega) y hb g h
theorem pv {X:OA->Int->WP}{b k:Nat}{fs:List Bk}{lf:Leaf}{p:PS}(O: ∀g y w,aH.bl1 R X g y w->X g y w)(h:DocC σ b L fs lf p w)(b3:k<fs.length)(hc:callE P aI #[kT (kE b)] (λe I=> ∃(U:Value),e= hQ U/\X (kE b) (k:Int) I) w):X (kE b) (k:Int) w:=by
 obtain⟨M,a7,V,b4,hs,ht,W,a6,h⟩:=h
 have E:=hs.2.1
 rw[lA0,lS0] at E
 refine O _ _ _ (aa ?_)
 refine⟨_,_,_,h.ldA,?_⟩
 rw[E]
 exact ag (by simp;omega) hc
theorem pk {p p':PS}(h:p'.base=p.base):p'.pz=p.pz:=by have:=congrArg PS.pz h;exact this
namespace bX
def k1 (R:EP)(e5:OA)(y g:Nat)(w:World):Prop:=
 callE P cr #[kT (kE y)] (λe b5=> ∃c8,e= hQ (hV c8)/\
 br c8
 (stV b5 (hZ g 0) (hY 0) λe0=>
 stV e0 (hZ g 1) (hY 0) λe1=>
 stV e1 (hZ g 2) (hY 0) λe4=>
 stV e4 (hZ g 3) (hX (hP #[])) λd0=>
 stV d0 (hZ g 4) (.int .u8 0) λO=>
 ∃a6,O.cell? (hZ g 0)=some (hY a6)/\
 ∃b4,O.cell? (hZ g 1)=some (hY b4)/\
 ∃b9,O.cell? (hZ g 2)=some (hY b9)/\
 ∃a7,O.cell? (hZ g 3)=some (hX a7)/\
 ∃c4,O.cell? (hZ g 4)=some (.int .u8 c4)/\
 R (hQ (.tuple #[.agg #[hY a6,hY b4,hY b9,hX a7,.int .u8 c4],hV true])) O)
 (callE P cr #[kT (kE y)] (λe e3=> ∃W,e= hQ (hV W)/\
 br (!W)
 (aA e5 λc9=>
 stV e3 ((c9.add 2).add 0) (hV true) λI=>
 ∃b7,I.cell? (hZ y 0)=some (hY b7)/\
 ∃c5,I.cell? (hZ y 1)=some (hY c5)/\
 ∃b3,I.cell? (hZ y 2)=some (hY b3)/\
 ∃b6,I.cell? (hZ y 3)=some (hX b6)/\
 ∃U,I.cell? (hZ y 4)=some (.int .u8 U)/\
 stV I (hZ g 0) (hY b7) λe2=>
 stV e2 (hZ g 1) (hY c5) λd3=>
 stV d3 (hZ g 2) (hY b3) λd2=>
 stV d2 (hZ g 3) (hX b6) λd1=>
 stV d1 (hZ g 4) (.int .u8 U) λE=>
 ∃V,E.cell? (hZ g 0)=some (hY V)/\
 ∃c1,E.cell? (hZ g 1)=some (hY c1)/\
 ∃b8,E.cell? (hZ g 2)=some (hY b8)/\
 ∃c2,E.cell? (hZ g 3)=some (hX c2)/\
 ∃c3,E.cell? (hZ g 4)=some (.int .u8 c3)/\
 R (hQ (.tuple #[.agg #[hY V,hY c1,hY b8,hX c2,.int .u8 c3],hV true])) E)
 (False)) b5)) w
end bX
def bX (R:EP)(y b8:OA)(U b4 V:Int)(W:BA)(a6:Int)(w:World):Prop:=
 box w #[hY U,hY b4,hY V,hX W,.int .u8 a6] aW λb1 b6=>
 box b6 #[hY 0,hY 0,hY 0,hX (hP #[]),.int .u8 0] aW λI b7=>
 callE P cr #[kT (kE b1)] (λe g=> ∃O,e= hQ (hV O)/\
 br O
 (aA y λb5=>
 ∃E,g.cell? (b5.add 2)=some (hV E)/\
 br (!E)
 (False)
 (bX.k1 R y b1 I g))
 (bX.k1 R y b1 I g)) b7
theorem bX.sound {R x0 x1 x2_0 x2_1 x2_2 x2_3 x2_4 w}(h:bX R x0 x1 x2_0 x2_1 x2_2 x2_3 x2_4 w):callE P fo #[kT x0,kT x1,.agg #[hY x2_0,hY x2_1,hY x2_2,hX x2_3,.int .u8 x2_4]] R w:=
 aG [(21,.no),(7,.mk [2,106,126] (bX.k1 R)),(119,.no)] Tryz.func439 Tryz.call439 h
def gG (R:EP)(e4 e3:OA)(d0 c9 c4:Int)(c8:BA)(c5:Int)(w:World):Prop:=
 box w #[hY d0,hY c9,hY c4,hX c8,.int .u8 c5] aW λb1 e2=>
 box e2 #[hY 0,hY 0,hY 0,hX (hP #[]),.int .u8 0] aW λg E=>
 ∃c2,E.cell? (hZ b1 0)=some (hY c2)/\
 ∃c1,E.cell? (hZ b1 1)=some (hY c1)/\
 ∃b9,E.cell? (hZ b1 2)=some (hY b9)/\
 ∃c3,E.cell? (hZ b1 3)=some (hX c3)/\
 ∃b8,E.cell? (hZ b1 4)=some (.int .u8 b8)/\
 callE P mr #[.agg #[hY c2,hY c1,hY b9,hX c3,.int .u8 b8]] (λe d2=> ∃U O,∃I V,∃W a6,e= hQ (.tuple #[.agg #[hY U,hY O,hY I,hX V,.int .u8 W],hV a6])/\
 stV d2 (hZ g 0) (hY U) λe0=>
 stV e0 (hZ g 1) (hY O) λe1=>
 stV e1 (hZ g 2) (hY I) λd1=>
 stV d1 (hZ g 3) (hX V) λd3=>
 stV d3 (hZ g 4) (.int .u8 W) λy=>
 ∃b4,y.cell? (hZ g 0)=some (hY b4)/\
 ∃b5,y.cell? (hZ g 1)=some (hY b5)/\
 ∃a7,y.cell? (hZ g 2)=some (hY a7)/\
 ∃b7,y.cell? (hZ g 3)=some (hX b7)/\
 ∃b6,y.cell? (hZ g 4)=some (.int .u8 b6)/\
 R (hQ (.tuple #[.agg #[hY b4,hY b5,hY a7,hX b7,.int .u8 b6],hV a6])) y) E
theorem gG.sound {R x0 x1 x2_0 x2_1 x2_2 x2_3 x2_4 w}(h:gG R x0 x1 x2_0 x2_1 x2_2 x2_3 x2_4 w):callE P gz #[kT x0,kT x1,.agg #[hY x2_0,hY x2_1,hY x2_2,hX x2_3,.int .u8 x2_4]] R w:=
 cE Tryz.func435 Tryz.call435 h
def ir (R:EP)(v0 v3:OA)(s2 s1 r3:Int)(r5:BA)(r4:Int)(w:World):Prop:=
 box w #[hY s2,hY s1,hY r3,hX r5,.int .u8 r4] aW λb1 v2=>
 box v2 #[hY 0,hY 0,hY 0,hX (hP #[]),.int .u8 0] aW λg q1=>
 aA v0 λa5=>
 ∃U,q1.cell? (a5.add 3)=some (kT U)/\
 tk q1 λO=>
 ∃q2,(∀w,(do eqGuard .neq bv (.tmp 13) (.const (kT none)) (kT U) (kT none);binOp .neq bv (kT U) (kT none)).run P w= .ok (hV q2) w)/\
 br q2
 (aA U λa9=>
 aA U λa10=>
 ∃o3,O.cell? (a9.add 1)=some (hY o3)/\
 ∃e8,O.cell? (a10.add 1)=some (hY e8)/\
 callE P bl #[kT (kE b1),hY o3,hY e8,hV true] (λe y=> ∃h3,e= hQ (hV h3)/\
 br h3
 (∃m1,y.cell? (hZ b1 0)=some (hY m1)/\
 ∃e4,y.cell? (hZ b1 1)=some (hY e4)/\
 ∃g7,y.cell? (hZ b1 2)=some (hY g7)/\
 ∃h2,y.cell? (hZ b1 3)=some (hX h2)/\
 ∃h9,y.cell? (hZ b1 4)=some (.int .u8 h9)/\
 stV y (hZ g 0) (hY m1) λs6=>
 stV s6 (hZ g 1) (hY e4) λu0=>
 stV u0 (hZ g 2) (hY g7) λu4=>
 stV u4 (hZ g 3) (hX h2) λs3=>
 stV s3 (hZ g 4) (.int .u8 h9) λb4=>
 ∃j0,b4.cell? (hZ g 0)=some (hY j0)/\
 ∃p5,b4.cell? (hZ g 1)=some (hY p5)/\
 ∃n1,b4.cell? (hZ g 2)=some (hY n1)/\
 ∃i4,b4.cell? (hZ g 3)=some (hX i4)/\
 ∃h5,b4.cell? (hZ g 4)=some (.int .u8 h5)/\
 R (hQ (.tuple #[.agg #[hY j0,hY p5,hY n1,hX i4,.int .u8 h5],hV true])) b4)
 (∃n3,(∀w,(do eqGuard .eql bv (.tmp 27) (.const (kT none)) (kT U) (kT none);binOp .eql bv (kT U) (kT none)).run P w= .ok (hV n3) w)/\
 br n3
 (callE P cr #[kT (kE b1)] (λe I=> ∃g4,e= hQ (hV g4)/\
 br g4
 (∃e3,I.cell? (hZ b1 0)=some (hY e3)/\
 ∃m6,I.cell? (hZ b1 1)=some (hY m6)/\
 ∃g1,I.cell? (hZ b1 2)=some (hY g1)/\
 ∃p3,I.cell? (hZ b1 3)=some (hX p3)/\
 ∃o4,I.cell? (hZ b1 4)=some (.int .u8 o4)/\
 stV I (hZ g 0) (hY e3) λt2=>
 stV t2 (hZ g 1) (hY m6) λs9=>
 stV s9 (hZ g 2) (hY g1) λt8=>
 stV t8 (hZ g 3) (hX p3) λt7=>
 stV t7 (hZ g 4) (.int .u8 o4) λa6=>
 ∃h6,a6.cell? (hZ g 0)=some (hY h6)/\
 ∃f1,a6.cell? (hZ g 1)=some (hY f1)/\
 ∃m5,a6.cell? (hZ g 2)=some (hY m5)/\
 ∃h7,a6.cell? (hZ g 3)=some (hX h7)/\
 ∃e2,a6.cell? (hZ g 4)=some (.int .u8 e2)/\
 R (hQ (.tuple #[.agg #[hY h6,hY f1,hY m5,hX h7,.int .u8 e2],hV true])) a6)
 (∃i2,I.cell? (hZ b1 0)=some (hY i2)/\
 ∃f4,I.cell? (hZ b1 1)=some (hY f4)/\
 ∃f6,I.cell? (hZ b1 2)=some (hY f6)/\
 ∃m4,I.cell? (hZ b1 3)=some (hX m4)/\
 ∃i3,I.cell? (hZ b1 4)=some (.int .u8 i3)/\
 stV I (hZ g 0) (hY i2) λt0=>
 stV t0 (hZ g 1) (hY f4) λt9=>
 stV t9 (hZ g 2) (hY f6) λt4=>
 stV t4 (hZ g 3) (hX m4) λu1=>
 stV u1 (hZ g 4) (.int .u8 i3) λb5=>
 ∃i1,b5.cell? (hZ g 0)=some (hY i1)/\
 ∃p1,b5.cell? (hZ g 1)=some (hY p1)/\
 ∃q0,b5.cell? (hZ g 2)=some (hY q0)/\
 ∃n2,b5.cell? (hZ g 3)=some (hX n2)/\
 ∃e6,b5.cell? (hZ g 4)=some (.int .u8 e6)/\
 R (hQ (.tuple #[.agg #[hY i1,hY p1,hY q0,hX n2,.int .u8 e6],hV false])) b5)) y)
 (∃j1,y.cell? (hZ b1 0)=some (hY j1)/\
 ∃g2,y.cell? (hZ b1 1)=some (hY g2)/\
 ∃e9,y.cell? (hZ b1 2)=some (hY e9)/\
 ∃m3,y.cell? (hZ b1 3)=some (hX m3)/\
 ∃h1,y.cell? (hZ b1 4)=some (.int .u8 h1)/\
 stV y (hZ g 0) (hY j1) λs5=>
 stV s5 (hZ g 1) (hY g2) λs8=>
 stV s8 (hZ g 2) (hY e9) λt3=>
 stV t3 (hZ g 3) (hX m3) λt6=>
 stV t6 (hZ g 4) (.int .u8 h1) λb6=>
 ∃h8,b6.cell? (hZ g 0)=some (hY h8)/\
 ∃h4,b6.cell? (hZ g 1)=some (hY h4)/\
 ∃e5,b6.cell? (hZ g 2)=some (hY e5)/\
 ∃g6,b6.cell? (hZ g 3)=some (hX g6)/\
 ∃g0,b6.cell? (hZ g 4)=some (.int .u8 g0)/\
 R (hQ (.tuple #[.agg #[hY h8,hY h4,hY e5,hX g6,.int .u8 g0],hV false])) b6))) O)
 (∃g3,(∀w,(do eqGuard .eql bv (.tmp 27) (.const (kT none)) (kT U) (kT none);binOp .eql bv (kT U) (kT none)).run P w= .ok (hV g3) w)/\
 br g3
 (callE P cr #[kT (kE b1)] (λe E=> ∃f0,e= hQ (hV f0)/\
 br f0
 (∃i0,E.cell? (hZ b1 0)=some (hY i0)/\
 ∃f3,E.cell? (hZ b1 1)=some (hY f3)/\
 ∃f5,E.cell? (hZ b1 2)=some (hY f5)/\
 ∃i8,E.cell? (hZ b1 3)=some (hX i8)/\
 ∃m2,E.cell? (hZ b1 4)=some (.int .u8 m2)/\
 stV E (hZ g 0) (hY i0) λs4=>
 stV s4 (hZ g 1) (hY f3) λt5=>
 stV t5 (hZ g 2) (hY f5) λs7=>
 stV s7 (hZ g 3) (hX i8) λu2=>
 stV u2 (hZ g 4) (.int .u8 m2) λa7=>
 ∃o0,a7.cell? (hZ g 0)=some (hY o0)/\
 ∃e7,a7.cell? (hZ g 1)=some (hY e7)/\
 ∃p4,a7.cell? (hZ g 2)=some (hY p4)/\
 ∃n0,a7.cell? (hZ g 3)=some (hX n0)/\
 ∃l5,a7.cell? (hZ g 4)=some (.int .u8 l5)/\
 R (hQ (.tuple #[.agg #[hY o0,hY e7,hY p4,hX n0,.int .u8 l5],hV true])) a7)
 (∃k0,E.cell? (hZ b1 0)=some (hY k0)/\
 ∃g5,E.cell? (hZ b1 1)=some (hY g5)/\
 ∃o2,E.cell? (hZ b1 2)=some (hY o2)/\
 ∃f2,E.cell? (hZ b1 3)=some (hX f2)/\
 ∃d1,E.cell? (hZ b1 4)=some (.int .u8 d1)/\
 stV E (hZ g 0) (hY k0) λq5=>
 stV q5 (hZ g 1) (hY g5) λq8=>
 stV q8 (hZ g 2) (hY o2) λq3=>
 stV q3 (hZ g 3) (hX f2) λr6=>
 stV r6 (hZ g 4) (.int .u8 d1) λW=>
 ∃c4,W.cell? (hZ g 0)=some (hY c4)/\
 ∃e1,W.cell? (hZ g 1)=some (hY e1)/\
 ∃e0,W.cell? (hZ g 2)=some (hY e0)/\
 ∃b9,W.cell? (hZ g 3)=some (hX b9)/\
 ∃d3,W.cell? (hZ g 4)=some (.int .u8 d3)/\
 R (hQ (.tuple #[.agg #[hY c4,hY e1,hY e0,hX b9,.int .u8 d3],hV false])) W)) O)
 (∃d2,O.cell? (hZ b1 0)=some (hY d2)/\
 ∃c9,O.cell? (hZ b1 1)=some (hY c9)/\
 ∃c8,O.cell? (hZ b1 2)=some (hY c8)/\
 ∃c3,O.cell? (hZ b1 3)=some (hX c3)/\
 ∃c1,O.cell? (hZ b1 4)=some (.int .u8 c1)/\
 stV O (hZ g 0) (hY d2) λr1=>
 stV r1 (hZ g 1) (hY c9) λr7=>
 stV r7 (hZ g 2) (hY c8) λr9=>
 stV r9 (hZ g 3) (hX c3) λq4=>
 stV q4 (hZ g 4) (.int .u8 c1) λV=>
 ∃c2,V.cell? (hZ g 0)=some (hY c2)/\
 ∃b7,V.cell? (hZ g 1)=some (hY b7)/\
 ∃d0,V.cell? (hZ g 2)=some (hY d0)/\
 ∃b8,V.cell? (hZ g 3)=some (hX b8)/\
 ∃c5,V.cell? (hZ g 4)=some (.int .u8 c5)/\
 R (hQ (.tuple #[.agg #[hY c2,hY b7,hY d0,hX b8,.int .u8 c5],hV false])) V))
theorem ir.sound {R x0 x1 x2_0 x2_1 x2_2 x2_3 x2_4 w}(h:ir R x0 x1 x2_0 x2_1 x2_2 x2_3 x2_4 w):callE P ij #[kT x0,kT x1,.agg #[hY x2_0,hY x2_1,hY x2_2,hX x2_3,.int .u8 x2_4]] R w:=
 aG [(19,.dr (rpN [0,3,6,9,12,15,21,24,27,19,31,35,36,39,42,45,48,53,54,57]))] Tryz.func437 Tryz.call437 h

theorem uD {d:UInt8}(hd:cO d=false)(r:List UInt8): ∀m:List UInt8,∃g,(m++d::r).dropWhile cO=g++d::r
 | []=>⟨[],by simp[hd]⟩
 |x::m=>by
  rw[lR0,lA3]
  split
  ·exact uD hd r m
  ·exact⟨x::m,rfl⟩
theorem Ln.hrGo_has {c d:UInt8}{r:List UInt8}: ∀(f n:Nat) (l:Ln),l.ok->l.sp=0->(∃m,l.text.drop l.i=m++d::r)->d≠c->cO d=false->l.hrGo c f n=false
 |0,_,_,_,_,_,_,_=>rfl
 |f+1,n,l,hl,hsp,⟨m,hm⟩,hdc,hd=>by
  cases m with
  |nil=>
   have h:l.has d r:=⟨hl,hsp,hm⟩
   have:=h.lt
   simp only[Ln.hrGo]
   rw[h.trimC,if_neg hdc]
   simp;omega
  |cons x m=>
   have h:l.has x (m++d::r):=⟨hl,hsp,by rw[hm];rfl⟩
   have b3:=h.lt
   simp only[Ln.hrGo]
   rw[h.trimC]
   by_cases U:x=c
   ·rw[if_pos U]
    simp only
    have W: ∃E g,m++d::r=E::g:=by cases m with|nil=>exact⟨_,_,rfl⟩|cons E g=>exact⟨_,_,rfl⟩
    obtain⟨E,g,I⟩:=W
    have O:=(I▸h:l.has x (E::g)).next
    have V:({l with i:=l.i+1}:Ln).text.drop (l.i+1)=m++d::r:=by rw[I];exact O.tx
    have a6:=Ln.skip_ok O.ok
    refine Ln.hrGo_has (r:=r) f (n+1) _ a6 rfl ?_ hdc hd
    show∃a7,l.text.drop (({l with i:=l.i+1}:Ln).skip.i)=a7++d::r
    have e:l.text.drop (l.i+1)=m++d::r:=V
    have hi:({l with i:=l.i+1}:Ln).skip.i=l.text.length - ((m++d::r).dropWhile cO).length:=by
     simp only[Ln.skip,e]
    rw[hi,drop_suffix ((lU4 _).trans (e▸List.drop_suffix _ _))]
    exact uD hd r m
   ·rw[if_neg U]
    simp;omega

theorem callE.mono {f:FuncId}{g:Array Value}{R y:Ending->World->Prop}(h:callE P f g R w)(hr: ∀e w,R e w->y e w):callE P f g y w:=
 h.imp (λ⟨a,c⟩=>⟨a,c.mono hr⟩) λ⟨v,I,O,E⟩=>⟨v,I,O,hr _ _ E⟩
theorem rF {b:Nat}{p:PS}{K:List ai}{t:TypeId}{v:Value}(h:Sat σ w (p.at b::K))(hd:0<=p.depth/\p.depth<1000000)(b4: ∀w,Sat σ w (p.at b::K)->callE P bj #[kT (kE b),hY (p.depth+1)] (λe w=>e= hQ (.tuple #[])/\ ∃(g:PS) (l:List OB) (M L:List ai),Stk g l M/\l.length<1048575/\Sat σ w (g.at b::M++L)/\
  ∀w (p':PS) y,p'= {g with stq:=p'.stq,stn:=l.length+1,stc:=p'.stc}->Stk p' (l++ [⟨.iface t v,none,0,0,g.lineno,g.lineno⟩]) y->Sat σ w (p'.at b::y++L)->R (hQ (.tuple #[])) w) w):
 callE P bQ #[kT (kE b),.iface t v] R w:=by
 refine eU.sound ?_
 repeat (first|refine aa ?_|refine h.tk λw h=>?_|refine⟨_,h.ldA,?_⟩|refine⟨_,_,_,h.ldA,?_⟩)
 rw[i64_in _ (by omega)]
 refine(b4 w h).mono λe w O=>⟨O.1,?_⟩
 obtain⟨_,g,l,M,L,hs,b7,h,b5⟩:=O
 have a7:=hs.2.1
 repeat (first|refine aa ?_|refine h.tk λw h=>?_|refine⟨_,h.ldA,?_⟩|refine⟨_,_,_,h.ldA,?_⟩)
 have h:Sat σ w (M++(g.at b::L)):=h.re
 refine Sat.app1 rowOB hs.1 h (v:= .agg #[.nilIface,hT none 0 0,hY 0,hY 0]) rfl (by decide) (by kernel_rfl) (by omega) (by omega) (by decide) λa6 b3 w y I h=>?_
 have h:Sat σ w (g.at b::y++L):=h.re
 let p':PS:= {g with stq:=a6,stn:=l.length+1,stc:=b3}
 rw[a7] at I⊢
 (first|refine aa ?_|refine h.tk λw h=>?_|refine⟨_,h.ldA,?_⟩|refine⟨_,_,_,h.ldA,?_⟩|refine h.stA 0 λw h=>?_|refine h.stA 1 λw h=>?_|refine h.stA 2 λw h=>?_|refine h.stA 3 λw h=>?_|refine h.stA 4 λw h=>?_|refine h.stA 5 λw h=>?_|refine h.stA 6 λw h=>?_|refine h.bx λb0 w h=>?_)
 (first|refine aa ?_|refine h.tk λw h=>?_|refine⟨_,h.ldA,?_⟩|refine⟨_,_,_,h.ldA,?_⟩|refine h.stA 0 λw h=>?_|refine h.stA 1 λw h=>?_|refine h.stA 2 λw h=>?_|refine h.stA 3 λw h=>?_|refine h.stA 4 λw h=>?_|refine h.stA 5 λw h=>?_|refine h.stA 6 λw h=>?_|refine h.bx λb0 w h=>?_)
 have h:Sat σ w (p'.at b::y++L):=h
 have V:Stk p' (l++ [⟨.nilIface,none,0,0,0,0⟩]) y:=by
  refine⟨?_,by simp[p'],by simp;omega⟩
  rw[i9]
  exact I
 obtain⟨sb,sp,U,rfl,W⟩:=V.split (by simp)
 repeat (first|refine aa ?_|refine h.tk λw h=>?_|refine⟨_,h.ldA,?_⟩|refine⟨_,_,_,h.ldA,?_⟩)
 rw[show p'.stn=l.length+1 from rfl,kD (by omega)]
 refine⟨by omega,by omega,?_⟩
 rw[U]
 refine aa ?_
 dsimp only[Dg]
 simp only[lK0,lO0,lC0,lN1]
 have E: ∀(o:OB) (sp:List Value) f,f<4->l.length*4+f<(aP (l++ [o])++sp).length:=by
  intro o sp f b6
  rw[lA0,aR,lA0,lE0];omega
 refine Sat.st h (k:=1) rfl (by have:=E ⟨.nilIface,none,0,0,0,0⟩ sp 0 (by decide);simpa using this) trivial rfl λw h=>?_
 have h:Sat σ w (p'.at b:: [(sb,cel (aP (l++ [⟨.iface t v,none,0,0,0,0⟩])++sp) ay)]++L):=by
  have e:=lC (l:=l) (sp:=sp) (o:=⟨.nilIface,none,0,0,0,0⟩) (o':=⟨.iface t v,none,0,0,0,0⟩) (f:=0) (v:= .iface t v) (by decide) rfl
  rw[lN1] at e
  rw[e] at h
  exact h
 repeat (first|refine aa ?_|refine h.tk λw h=>?_|refine⟨_,h.ldA,?_⟩|refine⟨_,_,_,h.ldA,?_⟩)
 refine Sat.st h (k:=1) rfl (E _ sp 2 (by decide)) trivial rfl λw h=>?_
 have h:Sat σ w (p'.at b:: [(sb,cel (aP (l++ [⟨.iface t v,none,0,0,g.lineno,0⟩])++sp) ay)]++L):=by
  have e:=lC (l:=l) (sp:=sp) (o:=⟨.iface t v,none,0,0,0,0⟩) (o':=⟨.iface t v,none,0,0,g.lineno,0⟩) (f:=2) (v:= hY g.lineno) (by decide) rfl
  have h:=h
  rw[e] at h
  exact h
 repeat (first|refine aa ?_|refine h.tk λw h=>?_|refine⟨_,h.ldA,?_⟩|refine⟨_,_,_,h.ldA,?_⟩)
 refine Sat.st h (k:=1) rfl (E _ sp 3 (by decide)) trivial rfl λw h=>?_
 have h:Sat σ w (p'.at b:: [(sb,cel (aP (l++ [⟨.iface t v,none,0,0,g.lineno,g.lineno⟩])++sp) ay)]++L):=by
  have e:=lC (l:=l) (sp:=sp) (o:=⟨.iface t v,none,0,0,g.lineno,0⟩) (o':=⟨.iface t v,none,0,0,g.lineno,g.lineno⟩) (f:=3) (v:= hY g.lineno) (by decide) rfl
  have h:=h
  rw[e] at h
  exact h
 refine b5 _ p' _ rfl ?_ h
 refine Stk.mk' U ?_ (by simp[p']) (by simp;omega)
 rw[<-W,lA0,lA0,aR,aR,lA0,lA0]
 rfl

theorem kZ {b d:Nat}{p:PS}{ob:List OB}{o o1:OB}{M:List ai}{t t1:TypeId}{v v1:Value}{l:Ln}(h:Sat σ w (p.at b::M++L))(hs:Stk p (ob++ [o]) M)(hd:p.depth=d)(b6:d<1000000)(V:(ob++ [o])[d+1]? =some o1)(a7:o1.bd= .iface t1 v1)(a6:t1≠ar)(hb:o.bd= .iface t v)(hv:t=ar-> ∃q,v= kT q)(b7:l.ok)(b4: ∀w,Sat σ w (p.at b::M++L)->R (hQ (.tuple #[l.val,hV false])) w):callE P bZ #[kT (kE b),l.val] R w:=by
 refine bL.sound ?_
 refine Sat.bx h λb1 w h=>?_
 refine Sat.bx h λy w h=>?_
 refine Sat.bx h λg w h=>?_
 repeat (first|refine aa ?_|refine h.tk λw h=>?_|refine⟨_,h.ldA,?_⟩|refine⟨_,_,_,h.ldA,?_⟩|refine h.stA 0 λw h=>?_|refine h.stA 1 λw h=>?_|refine h.stA 2 λw h=>?_|refine h.stA 3 λw h=>?_|refine h.stA 4 λw h=>?_|refine h.stA 5 λw h=>?_|refine h.stA 6 λw h=>?_|refine h.bx λb0 w h=>?_)
 have h:Sat σ _ (l.at b0::(g,cel [hY 0] ba)::zLn y::l.at b1::(p.at b::M++L)):=h
 have h:Sat σ _ (p.at b::M++(l.at b0::(g,cel [hY 0] ba)::zLn y::l.at b1::L)):=h.re
 refine ml h hs hd (by omega) λw h=>?_
 rw[V]
 refine⟨_,rfl,?_⟩
 have fin: ∀(q:Option Addr) w,Sat σ w (p.at b::M++(l.at b0::(g,cel [hY 0] ba)::zLn y::l.at b1::L))-> ∃(E:Option Addr),hQ (.pointer q)= hQ (kT E)/\
  ∃(U:Bool),∃I,(do eqGuard .eql bO (.tmp 12) (.tmp 15) o1.bd (.iface ar (kT E));binOp .eql bO o1.bd (.iface ar (kT E))).run P w= .ok (hV U) I/\
  br U (callE P fy #[kT (kE b0),kT (kE g)] (λe W=> ∃(O:Bool),e= hQ (hV O)/\bL.k1 R (kE b) b1 y g O W) I) (bL.k1 R (kE b) b1 y g false I):=by
  intro q w h
  refine⟨q,rfl,false,w,by rw[a7];exact za tZ a6 _ _ w,af rfl ?_⟩
  have h:Sat σ _ (zLn y::l.at b1::(g,cel [hY 0] ba)::l.at b0::(p.at b::M++L)):=h.re
  refine af rfl ?_
  repeat (first|refine aa ?_|refine h.tk λw h=>?_|refine⟨_,h.ldA,?_⟩|refine⟨_,_,_,h.ldA,?_⟩|refine h.stA 0 λw h=>?_|refine h.stA 1 λw h=>?_|refine h.stA 2 λw h=>?_|refine h.stA 3 λw h=>?_|refine h.stA 4 λw h=>?_|refine h.stA 5 λw h=>?_|refine h.stA 6 λw h=>?_|refine h.bx λb0 w h=>?_)
  have h:Sat σ _ (l.at y::l.at b1::(g,cel [hY 0] ba)::l.at b0::(p.at b::M++L)):=h
  exact b4 _ h.tail.tail.tail.tail
 refine q9 h hs hb (λw h=>?_) hv
 by_cases ht:t=ar
 ·rw[if_pos ht]
  obtain⟨q,rfl⟩:=hv ht
  exact fin q w h
 ·rw[if_neg ht]
  exact fin none w h
theorem Bz:P.underlying bv=some (.pointer iw):=by kernel_rfl
theorem yr {b b1 lb d:Nat}{num:Int}{lo:Bool}{it:Option Addr}{td:Value}{p:PS}{ob:List OB}{o:OB}{M:List ai}{l t:Ln}{c:UInt8}{V n:Nat}(h:Sat σ w (l.at b1::(p.at b::M++(cP lb c.toNat num lo it td::L))))(hs:Stk p ob M)(hd:p.depth=d)(a7:d<1000000)(W:ob[d+1]? =some o)(U:o.bd=Cv lb)(b3:l.ok)(hb:qh l c V n t)(a6: ∀w E y g O ib,Sat σ w (l.at b1::(p.at b::M++(cP lb c.toNat num lo it (kQ E O g y)::(E,cel [kT (kE b)] ah)::t.at y::g8 g lb::jz O ib::gt ib lb n (!t.blank)::L)))->R (hQ (hV true)) w):
 callE P bN #[kT (kE b),kT (kE b1)] R w:=by
 have ht:=hb.ok
 refine hb.run h λw y E I t' h=>?_
 refine Sat.bx h λg w h=>?_
 refine⟨_,Sat.ld h (.tail _ (.tail _ (.head _))) (i:=0) rfl,?_⟩
 have h:Sat σ w (p.at b::M++((g,cel [kT none] az)::cP lb c.toNat num lo it td::(E,cel [kT (kE b)] ah)::t.at y::t'.at I::l.at b1::L)):=h.re
 refine ml (d:=d) h hs hd (by omega) λw h=>⟨_,rfl,?_⟩
 rw[W]
 dsimp only
 refine⟨kE lb,true,w,by rw[U];exact kX _ w,ag rfl ?_⟩
 have h:Sat σ w ((g,cel [kT none] az)::cP lb c.toNat num lo it td::(E,cel [kT (kE b)] ah)::t.at y::(p.at b::M++(t'.at I::l.at b1::L))):=h.re
 refine h.stA 0 λw h=>?_
 have h:Sat σ w (g8 g lb::cP lb c.toNat num lo it td::(E,cel [kT (kE b)] ah)::t.at y::(p.at b::M++(t'.at I::l.at b1::L))):=h
 refine⟨_,Sat.ld h (.head _) (i:=0) rfl,_,_,kx mU _ w,af rfl ?_⟩
 refine⟨_,Sat.ld h (.head _) (i:=0) rfl,aa ?_⟩
 refine⟨_,Sat.ld h (.tail _ (.head _)) (i:=0) rfl,?_⟩
 rw[zW]
 refine af (by simp) ?_
 have h:Sat σ w (cP lb c.toNat num lo it td::t.at y::g8 g lb::(p.at b::M++((E,cel [kT (kE b)] ah)::(t'.at I::l.at b1::L)))):=h.re
 refine qu h ht λw O ib h=>?_
 refine a6 w E y g O ib ?_
 exact h.less [t'.at I]
theorem vo {b lb d:Nat}{num:Int}{lo:Bool}{it:Option Addr}{td:Value}{p:PS}{ob:List OB}{U o:OB}{M:List ai}{l t:Ln}{c:UInt8}{b5 n:Nat}{ty:TypeId}{v:Value}(h:Sat σ w (p.at b::M++(cP lb c.toNat num lo it td::L)))(hs:Stk p ob M)(hd:p.depth=d)(W:d<1000000)(b4:ob[d]? =some U)(V:U.bd= .iface ty v)(a7:ty≠az)(b7:ob[d+1]? =some o)(a6:o.bd=Cv lb)(b6:l.ok)(hb:qh l c b5 n t)(b8: ∀w E I y g ib,Sat σ w (p.at b::M++(cP lb c.toNat num lo it (kQ E g y I)::(E,cel [kT (kE b)] ah)::t.at I::g8 y lb::jz g ib::gt ib lb n (!t.blank)::L))->R (hQ (.tuple #[l.val,hV true])) w):
 callE P cm #[kT (kE b),l.val] R w:=by
 refine cQ.sound ?_
 refine Sat.bx h λb1 w h=>?_
 refine Sat.bx h λO w h=>?_
 have h:Sat σ w (zLn O::l.at b1::(p.at b::M++(cP lb c.toNat num lo it td::L))):=h
 have h:Sat σ w (p.at b::M++(zLn O::l.at b1::cP lb c.toNat num lo it td::L)):=h.re
 refine qO h hs hd λw h=>?_
 rw[b4]
 dsimp only
 refine⟨_,rfl,none,false,w,by rw[V];exact gR a7 w,af rfl (af rfl ?_)⟩
 have h:Sat σ w (l.at b1::(p.at b::M++(cP lb c.toNat num lo it td::(zLn O::L)))):=h.re
 refine yr h hs hd W b7 a6 b6 hb λw E I y g ib h=>⟨_,rfl,ag rfl ?_⟩
 have h:Sat σ w (zLn O::l.at b1::(p.at b::M++(cP lb c.toNat num lo it (kQ E g y I)::(E,cel [kT (kE b)] ah)::t.at I::g8 y lb::jz g ib::gt ib lb n (!t.blank)::L))):=h.re
 repeat (first|refine aa ?_|refine h.tk λw h=>?_|refine⟨_,h.ldA,?_⟩|refine⟨_,_,_,h.ldA,?_⟩|refine h.stA 0 λw h=>?_|refine h.stA 1 λw h=>?_|refine h.stA 2 λw h=>?_|refine h.stA 3 λw h=>?_|refine h.stA 4 λw h=>?_|refine h.stA 5 λw h=>?_|refine h.stA 6 λw h=>?_|refine h.bx λb0 w h=>?_)
 have h:Sat σ _ (l.at O::l.at b1::(p.at b::M++(cP lb c.toNat num lo it (kQ E g y I)::(E,cel [kT (kE b)] ah)::t.at I::g8 y lb::jz g ib::gt ib lb n (!t.blank)::L))):=h
 exact b8 _ E I y g ib h.tail.tail
def fA (b E I g y lb ib n:Nat)(hv:Bool)(t:Ln):List ai:= [(E,cel [kT (kE b)] ah),t.at I,g8 g lb,jz y ib,gt ib lb n hv]
theorem G4 {b lb U O I E ib n:Nat}{bul num:Int}{hv:Bool}{p:PS}{gs:List Bk}{V:Bk}{rest:List Bk}{it:Option Addr}{lf:Leaf}{l t:Ln}{Post:PS->Bk->Prop}(h:DocC σ b (fA b U O I E lb ib n hv t++L) (gs++V::rest) lf p w)(d0:V.isListT lb bul num it (kQ U E I O))(hd:p.depth=gs.length)(h1:gs.length<100000)(e0:p.lineno<1000000000)(g0: ∀(K:List ai) (e2:Ending->World->Prop) w,(∀x∈fA b U O I E lb ib n hv t++L,x∈K)->DocC σ b K (gs++V::rest) lf p w->(∀w (a7:PS) y c3,Post a7 y->a7.base=p.base->a7.lineno=p.lineno->a7.depth=p.depth->y.isListT lb bul num c3 (kQ U E I O)->DocC σ b K (gs++ [y]) .none a7 w->e2 (hQ (.tuple #[])) w)->
  callE P bj #[kT (kE b),hY ((gs.length:Int)+1)] e2 w)(g4: ∀w (p':PS) a7 y c2 g,Post a7 y->p'.base=p.base->p'.lineno=p.lineno->p'.depth=p.depth->c2.isListT lb bul num (kE ib) .nilFunc->c2.ob=y.ob->c2.D=y.D->ItemOf (kE ib) g lb n hv->g.D= []->g.ob.s=p.lineno->g.ob.e=p.lineno->DocC σ b L (gs++ [c2,g]) .none p' w->R (hQ (.tuple #[t.val,hV true])) w):
 callE P cm #[kT (kE b),l.val] R w:=by
 have h3:=h
 obtain⟨M,b6,c9,b7,hs,ht,d2,g5,h⟩:=h
 have h2:=d2 V (by simp)
 refine cQ.sound ?_
 refine Sat.bx h λb1 w h=>?_
 refine Sat.bx h λW w h=>?_
 have e5:((gs++V::rest).map Bk.ob++c9)[gs.length]? =some V.ob:=by simp
 have e9:aM (gs++V::rest)=aM gs++(V.IM++(V.own++(cZ V.D++txc V.D))++aM rest):=by
  rw[bh,show V::rest= [V]++rest from rfl,bh,dA]
 have h:Sat σ w (zLn W::l.at b1::(p.at b::M++(b6++(aM (gs++V::rest)++(b7++(fA b U O I E lb ib n hv t++L)))))):=h
 have h:Sat σ w (p.at b::M++(zLn W::l.at b1::(b6++(aM (gs++V::rest)++(b7++(fA b U O I E lb ib n hv t++L)))))):=h.re
 refine qO h hs hd λw h=>?_
 rw[e5]
 dsimp only
 refine⟨_,rfl,kE lb,true,w,by rw[d0.1];exact kX _ w,ag rfl (aa ?_)⟩
 obtain⟨_,_,_,f4⟩:=n9 wi
 have e1:cP lb bul num false it (kQ U E I O)∈p.at b::M++(zLn W::l.at b1::(b6++(aM (gs++V::rest)++(b7++(fA b U O I E lb ib n hv t++L))))):=by rw[e9,d0.2];simp
 refine⟨_,Sat.ld h e1 (i:=4) rfl,true,w,nm f4 _ _ _ w,ag rfl (aa ?_)⟩
 refine⟨_,Sat.ld h e1 (i:=4) rfl,?_⟩
 refine gY ?_
 refine dv.sound ?_
 refine Sat.bx h λa6 w h=>?_
 have h:Sat σ w (zLn a6::(p.at b::M++(zLn W::l.at b1::(b6++(aM (gs++V::rest)++(b7++(fA b U O I E lb ib n hv t++L))))))):=h
 have f5:(U,cel [kT (kE b)] ah)∈fA b U O I E lb ib n hv t:= .head _
 have e7:jz E ib∈fA b U O I E lb ib n hv t:=by simp[fA]
 have g7:g8 I lb∈fA b U O I E lb ib n hv t:=by simp[fA]
 refine⟨_,Sat.ld h (by simp[f5]:(U,cel [kT (kE b)] ah)∈_) (i:=0) rfl,_,Sat.ld h (by simp[e7]:jz E ib∈_) (i:=0) rfl,?_⟩
 let c5:List ai:=zLn a6::zLn W::l.at b1::(fA b U O I E lb ib n hv t++L)
 have h:Sat σ w (p.at b::(M++(b6++(aM (gs++V::rest)++(b7++c5))))):=by
  show Sat σ w (p.at b::(M++(b6++(aM (gs++V::rest)++(b7++(zLn a6::zLn W::l.at b1::(fA b U O I E lb ib n hv t++L)))))))
  exact h.re
 refine rF h (by omega) λw h=>?_
 have f3:DocC σ b c5 (gs++V::rest) lf p w:=⟨M,b6,c9,b7,hs,ht,d2,g5,h⟩
 rw[hd]
 refine g0 c5 _ w (λx g2=> .tail _ (.tail _ (.tail _ g2))) f3 λw a7 y c3 e3 f6 d3 f0 d1 g3=>⟨rfl,?_⟩
 obtain⟨g1,b9,g6,h4,f2,f1,c8,⟨rfl,rfl⟩,h⟩:=g3
 have e8:=c8 y (by simp)
 rw[bh,dA,d1.2] at h
 refine⟨a7,(gs++ [y]).map Bk.ob++ [],g1,_,f2,by simp;omega,h,λw p' c1 b8 c4 h=>⟨rfl,?_⟩⟩
 have h:Sat σ w (cP lb bul num false c3 (kQ U E I O)::zLn a6::t.at O::zLn W::l.at b1::g8 I lb::jz E ib::(p'.at b::c1++(b9++(aM gs++(y.IM++(cZ y.D++(txc y.D++((U,cel [kT (kE b)] ah)::gt ib lb n hv::L)))))))):=by
  have h:Sat σ w (p'.at b::c1++(b9++(aM gs++(y.IM++([cP lb bul num false c3 (kQ U E I O)]++(cZ y.D++txc y.D)))++([]++(zLn a6::zLn W::l.at b1::((U,cel [kT (kE b)] ah)::t.at O::g8 I lb::jz E ib::gt ib lb n hv::L)))))):=h
  exact h.re
 refine⟨_,Sat.ld h (by simp:g8 I lb∈_) (i:=0) rfl,_,Sat.ld h (by simp:jz E ib∈_) (i:=0) rfl,aa ?_⟩
 generalize e4:(p'.at b::c1++(b9++(aM gs++(y.IM++(cZ y.D++(txc y.D++((U,cel [kT (kE b)] ah)::gt ib lb n hv::L)))))))=KK at h
 refine h.stA 0 λw h=>?_
 have h:Sat σ w (t.at O::zLn a6::cP lb bul num false (kE ib) (kQ U E I O)::zLn W::l.at b1::g8 I lb::jz E ib::KK):=by
  have h:Sat σ w (cP lb bul num false (kE ib) (kQ U E I O)::zLn a6::t.at O::zLn W::l.at b1::g8 I lb::jz E ib::KK):=h
  exact h.re
 refine⟨_,h.ldA,?_⟩
 refine⟨_,h.ldA,?_⟩
 refine⟨_,h.ldA,?_⟩
 refine⟨_,h.ldA,?_⟩
 refine⟨_,h.ldA,?_⟩
 refine h.stA 1 λw h=>?_
 refine h.stA 1 λw h=>?_
 refine h.stA 1 λw h=>?_
 refine h.stA 1 λw h=>?_
 refine h.stA 1 λw h=>?_
 have h:Sat σ w (t.at O::t.at a6::cP lb bul num false (kE ib) (kQ U E I O)::zLn W::l.at b1::g8 I lb::jz E ib::KK):=h
 have h:Sat σ w (t.at a6::l.at b1::cP lb bul num false (kE ib) (kQ U E I O)::zLn W::t.at O::g8 I lb::jz E ib::KK):=h.re
 refine⟨_,h.ldA,?_⟩
 refine⟨_,h.ldA,?_⟩
 refine⟨_,h.ldA,?_⟩
 refine⟨_,h.ldA,?_⟩
 refine⟨_,h.ldA,?_⟩
 refine⟨_,_,_,_,_,rfl,?_⟩
 refine h.stA 1 λw h=>?_
 refine h.stA 1 λw h=>?_
 refine h.stA 1 λw h=>?_
 refine h.stA 1 λw h=>?_
 refine h.stA 1 λw h=>?_
 have h:Sat σ w (t.at a6::t.at b1::cP lb bul num false (kE ib) (kQ U E I O)::zLn W::t.at O::g8 I lb::jz E ib::KK):=h
 refine aa ?_
 refine Sat.st h (k:=2) rfl (by simp[cP]) trivial rfl λw h=>?_
 have h:Sat σ w (t.at b1::zLn W::cP lb bul num false (kE ib) .nilFunc::t.at a6::t.at O::g8 I lb::jz E ib::KK):=by
  have h:Sat σ w (t.at a6::t.at b1::cP lb bul num false (kE ib) .nilFunc::zLn W::t.at O::g8 I lb::jz E ib::KK):=h
  exact h.re
 refine⟨_,h.ldA,?_⟩
 refine⟨_,h.ldA,?_⟩
 refine⟨_,h.ldA,?_⟩
 refine⟨_,h.ldA,?_⟩
 refine⟨_,h.ldA,?_⟩
 refine h.stA 1 λw h=>?_
 refine h.stA 1 λw h=>?_
 refine h.stA 1 λw h=>?_
 refine h.stA 1 λw h=>?_
 refine h.stA 1 λw h=>?_
 have h:Sat σ w (t.at b1::t.at W::cP lb bul num false (kE ib) .nilFunc::t.at a6::t.at O::g8 I lb::jz E ib::KK):=h
 have h:Sat σ w (t.at W::t.at b1::cP lb bul num false (kE ib) .nilFunc::t.at a6::t.at O::g8 I lb::jz E ib::KK):=h.re
 refine⟨_,h.ldA,?_⟩
 refine⟨_,h.ldA,?_⟩
 refine⟨_,h.ldA,?_⟩
 refine⟨_,h.ldA,?_⟩
 refine⟨_,h.ldA,?_⟩
 subst e4
 have e6:(gs++ [y]).map Bk.ob++ []=(gs++ [y]).map Bk.ob:=lG0 _
 rw[e6] at c4
 refine g4 _ p' a7 y ⟨y.ob,[cP lb bul num false (kE ib) .nilFunc],y.D,y.IM⟩ ⟨⟨DJ ib,none,0,0,p.lineno,p.lineno⟩,[gt ib lb n hv],[],[]⟩ e3 (by rw[b8,<-f6];rfl) (by rw[b8];exact d3) (by rw[b8];exact f0.trans rfl) ⟨d1.1,rfl⟩ rfl rfl ⟨ib,rfl,rfl,rfl⟩ rfl rfl rfl ?_
 refine⟨c1,b9,[],[],?_,?_,?_,⟨rfl,rfl⟩,?_⟩
 ·rw[lG0]
  rw[d3] at c4
  have e:(gs++ [(⟨y.ob,[cP lb bul num false (kE ib) .nilFunc],y.D,y.IM⟩:Bk),⟨⟨DJ ib,none,0,0,p.lineno,p.lineno⟩,[gt ib lb n hv],[],[]⟩]).map Bk.ob=(gs++ [y]).map Bk.ob++ [⟨DJ ib,none,0,0,p.lineno,p.lineno⟩]:=by simp
  rw[e]
  exact c4
 ·have e:txF (gs++ [(⟨y.ob,[cP lb bul num false (kE ib) .nilFunc],y.D,y.IM⟩:Bk),⟨⟨DJ ib,none,0,0,p.lineno,p.lineno⟩,[gt ib lb n hv],[],[]⟩])=txF (gs++ [y]):=by
   rw[bE,bE,dL,uV]
   show txF gs++(ci y.D++ [])=_
   rw[lG0]
  rw[e]
  exact f1.of (by rw[b8]) (by rw[b8]) (by rw[b8])
 ·intro g b4
  rcases lP0.1 b4 with b4|b4
  ·exact c8 g (by simp[b4])
  ·rcases lW0.1 b4 with rfl|b4
   ·exact e8
   ·obtain rfl:=lN0.1 b4
    exact⟨Sl.nil 1 aO,by simp,e0,e0⟩
 ·rw[bh gs,jT]
  show Sat σ _ (_::c1++(b9++(aM gs++((y.IM++([cP lb bul num false (kE ib) .nilFunc]++(cZ y.D++txc y.D)))++([]++([gt ib lb n hv]++([]++ []))))++([]++L))))
  exact h.less [t.at W,t.at b1,t.at a6,t.at O,g8 I lb,jz E ib,(U,cel [kT (kE b)] ah)]

theorem gy:ns P az "pub-paratext/pub/rscmarkdown.extend" ij=true:=by kernel_rfl
theorem kB:ns P bv "pub-paratext/pub/rscmarkdown.extend" fo=true:=by kernel_rfl
theorem vJ {X:OA->Nat->WP}(b7: ∀U E w,ak.bl1 R X U E w->X U E w){b b1 j:Nat}{p:PS}{ob:List OB}{o:OB}{M:List ai}{l l2:Ln}{ok:Bool}(h:Sat σ w (l.at b1::(p.at b::M++L)))(hs:Stk p ob M)(hd:p.depth=j)(c5:j<1000000)(V:ob[j+1]? =some o)(c1:l.ok)(b9: ∀(I:Ending->World->Prop) b0 w,Sat σ w (l.at b0::l.at b1::(p.at b::M++L))->(∀w,Sat σ w (l.at b0::l.at b1::(p.at b::M++L))->I (hQ (.tuple #[l2.val,hV ok])) w)->de P (callMethod o.bd "pub-paratext/pub/rscmarkdown.extend" #[kT (kE b),l.val]) I w)
 (b3:l.blank=true\/(ok=false/\l2=l))
 (b4:ok=true-> ∀w,Sat σ w (l2.at b1::(({p with depth:=(j:Int)+1}:PS).at b::M++L))->X (kE b) b1 w)
 (W:ok=false-> ∀w,Sat σ w (l2.at b1::(p.at b::M++L))->ak.k2 R (kE b) b1 w):X (kE b) b1 w:=by
 have y:=(lL0.1 V).1
 have c4:=hs.2.2
 have O:=hs.2.1
 have c3:=hs
 obtain⟨sb,sp,b8,b5,c2⟩:=hs.split (by intro b6;rw[b6] at y;simp at y)
 refine b7 _ _ _ ?_
 have h:Sat σ w (l.at b1::p.at b::(M++L)):=h
 refine Sat.tk h λw h=>aa (aa ?_)
 refine⟨_,Sat.ld h (.tail _ (.head _)) (i:=5) rfl,_,_,_,Sat.ld h (.tail _ (.head _)) (i:=4) rfl,?_⟩
 rw[hd,i64_in _ (by omega),O]
 refine ag (by simp;omega) ?_
 refine⟨_,h.ldA,?_⟩
 refine⟨_,h.ldA,?_⟩
 refine⟨_,h.ldA,?_⟩
 refine⟨_,h.ldA,?_⟩
 refine⟨_,h.ldA,?_⟩
 refine Sat.bx h λb0 w h=>?_
 refine h.stA 0 λw h=>?_
 refine h.stA 0 λw h=>?_
 refine h.stA 0 λw h=>?_
 refine h.stA 0 λw h=>?_
 refine h.stA 0 λw h=>?_
 have h:Sat σ w (l.at b0::l.at b1::p.at b::(M++L)):=h
 refine Sat.tk h λw h=>aa (aa ?_)
 refine⟨_,_,_,Sat.ld h (.tail _ (.tail _ (.head _))) (i:=4) rfl,_,Sat.ld h (.tail _ (.tail _ (.head _))) (i:=5) rfl,?_⟩
 rw[hd,i64_in _ (by omega),O,b8]
 refine⟨by omega,by omega,aa ?_⟩
 have a7:((j:Int)+1).toNat=j+1:=by omega
 rw[a7]
 simp only[lK0,lO0]
 have a6:(sb,cel (aP ob++sp) ay)∈(l.at b0::l.at b1::p.at b::(M++L)):=by rw[b5];simp
 refine⟨o.bd,Sat.ld h a6 (fu (j:=j+1) (f:=0) (by decide) V),?_⟩
 have g:l.at b1∈(l.at b0::l.at b1::p.at b::(M++L)):= .tail _ (.head _)
 refine⟨_,Sat.ld h g (i:=0) rfl,_,Sat.ld h g (i:=1) rfl,_,Sat.ld h g (i:=2) rfl,_,Sat.ld h g (i:=3) rfl,_,Sat.ld h g (i:=4) rfl,?_⟩
 refine b9 _ b0 w h λw h=>⟨_,_,_,_,_,_,rfl,?_⟩
 have h:Sat σ w (l.at b0::l.at b1::(p.at b::M++L)):=h
 refine h.stA 1 λw h=>?_
 refine h.stA 1 λw h=>?_
 refine h.stA 1 λw h=>?_
 refine h.stA 1 λw h=>?_
 refine h.stA 1 λw h=>?_
 have h:Sat σ w (l.at b0::l2.at b1::(p.at b::M++L)):=h
 refine dF h (.head _) c1 λw h=>⟨_,rfl,?_⟩
 have fin: ∀w,Sat σ w (l.at b0::l2.at b1::(p.at b::M++L))->ak.k1 R X (kE b) b1 ok false w:=by
  intro w h
  refine af rfl ?_
  cases ok with
  |true=>
   refine af rfl (aa ?_)
   have h:Sat σ w (l.at b0::l2.at b1::p.at b::(M++L)):=h
   refine⟨_,Sat.ld h (.tail _ (.tail _ (.head _))) (i:=5) rfl,aa ?_⟩
   rw[hd,i64_in _ (by omega)]
   refine Sat.st h (k:=2) rfl (by simp[PS.cells]) trivial rfl λw h=>?_
   have h:Sat σ w (l.at b0::l2.at b1::(({p with depth:=(j:Int)+1}:PS).at b::M++L)):=h
   exact b4 rfl w h.tail
  |false=>exact ag rfl (W rfl w h.tail)
 cases hb:l.blank with
 |true=>exact af rfl (fin w h)
 |false=>
  refine ag rfl ?_
  obtain⟨rfl,rfl⟩:=b3.resolve_left (by rw[hb];decide)
  refine af rfl ?_
  refine⟨_,h.ldA,?_⟩
  refine⟨_,h.ldA,?_⟩
  refine⟨_,h.ldA,?_⟩
  refine⟨_,h.ldA,?_⟩
  refine⟨_,h.ldA,?_⟩
  refine⟨_,h.ldA,?_⟩
  refine⟨_,h.ldA,?_⟩
  refine⟨_,h.ldA,?_⟩
  refine⟨_,h.ldA,?_⟩
  refine⟨_,h.ldA,?_⟩
  exact⟨_,_,Eo l2 _ _ w,fin w h⟩
theorem lT {lb ib n:Nat}{q:Option Addr}{bul num:Int}{lo hv:Bool}{td:Value}{l l2:Ln}{ok:Bool}(h:Sat σ w L)(U:l.ok)(V:n<1000000)(O:cP lb bul num lo (kE ib) td∈L)(y:gt ib lb n hv∈L)(ht:match l.trimSp n n true with|some E=>l2=E/\ok=true|none=>l2=l/\ok=false)(I: ∀w,Sat σ w L->R (hQ (.tuple #[l2.val,hV ok])) w):
 callE P ij #[kT (kE lb),kT q,l.val] R w:=by
 refine ir.sound ?_
 refine Sat.bx h λb1 w h=>?_
 refine Sat.bx h λg w h=>?_
 have h:Sat σ w (zLn g::l.at b1::L):=h
 refine aa ⟨_,Sat.ld h (.tail _ (.tail _ O)) (i:=3) rfl,?_⟩
 refine Sat.tk h λw h=>⟨_,λw=>dQ Bz _ w,ag rfl (aa (aa ?_))⟩
 refine⟨_,Sat.ld h (.tail _ (.tail _ y)) (i:=1) rfl,_,Sat.ld h (.tail _ (.tail _ y)) (i:=1) rfl,?_⟩
 have h:Sat σ w (l.at b1::zLn g::L):=h.re
 refine YtendaipfdnhnaaaGreatDoor.trimSp_ok (min:=n) (max:=n) h U (by omega) (by omega) ?_
 cases hs:l.trimSp n n true with
 |some E=>
  rw[hs] at ht
  obtain⟨rfl,rfl⟩:=ht
  intro w h
  refine⟨_,rfl,ag rfl ?_⟩
  refine⟨_,h.ldA,?_⟩
  refine⟨_,h.ldA,?_⟩
  refine⟨_,h.ldA,?_⟩
  refine⟨_,h.ldA,?_⟩
  refine⟨_,h.ldA,?_⟩
  refine h.stA 1 λw h=>?_
  refine h.stA 1 λw h=>?_
  refine h.stA 1 λw h=>?_
  refine h.stA 1 λw h=>?_
  refine h.stA 1 λw h=>?_
  have h:Sat σ w (l2.at b1::l2.at g::L):=h
  have h:Sat σ w (l2.at g::l2.at b1::L):=h.re
  refine⟨_,h.ldA,?_⟩
  refine⟨_,h.ldA,?_⟩
  refine⟨_,h.ldA,?_⟩
  refine⟨_,h.ldA,?_⟩
  refine⟨_,h.ldA,?_⟩
  exact I _ h.tail.tail
 |none=>
  rw[hs] at ht
  obtain⟨rfl,rfl⟩:=ht
  intro w h
  refine⟨_,rfl,af rfl ⟨_,λw=>kx Bz _ w,af rfl ?_⟩⟩
  refine⟨_,h.ldA,?_⟩
  refine⟨_,h.ldA,?_⟩
  refine⟨_,h.ldA,?_⟩
  refine⟨_,h.ldA,?_⟩
  refine⟨_,h.ldA,?_⟩
  refine h.stA 1 λw h=>?_
  refine h.stA 1 λw h=>?_
  refine h.stA 1 λw h=>?_
  refine h.stA 1 λw h=>?_
  refine h.stA 1 λw h=>?_
  have h:Sat σ w (l2.at b1::l2.at g::L):=h
  have h:Sat σ w (l2.at g::l2.at b1::L):=h.re
  refine⟨_,h.ldA,?_⟩
  refine⟨_,h.ldA,?_⟩
  refine⟨_,h.ldA,?_⟩
  refine⟨_,h.ldA,?_⟩
  refine⟨_,h.ldA,?_⟩
  exact I _ h.tail.tail
theorem pK {ib lb n:Nat}{q:Option Addr}{l:Ln}(h:Sat σ w L)(y:l.ok)(hb:l.blank=true)(E:gt ib lb n true∈L)(I: ∀w,Sat σ w L->R (hQ (.tuple #[Ln.zero.val,hV true])) w):
 callE P fo #[kT (kE ib),kT q,l.val] R w:=by
 refine bX.sound ?_
 refine Sat.bx h λb1 w h=>?_
 refine Sat.bx h λg w h=>?_
 have h:Sat σ w (zLn g::l.at b1::L):=h
 refine dF h (.tail _ (.head _)) y λw h=>⟨_,rfl,?_⟩
 rw[hb]
 refine ag rfl (aa ⟨_,Sat.ld h (.tail _ (.tail _ E)) (i:=2) rfl,af rfl ?_⟩)
 refine dF h (.tail _ (.head _)) y λw h=>⟨_,rfl,?_⟩
 rw[hb]
 refine ag rfl ?_
 refine h.stA 0 λw h=>?_
 refine h.stA 0 λw h=>?_
 refine h.stA 0 λw h=>?_
 refine h.stA 0 λw h=>?_
 refine h.stA 0 λw h=>?_
 have h:Sat σ w (zLn g::l.at b1::L):=h
 refine⟨_,h.ldA,?_⟩
 refine⟨_,h.ldA,?_⟩
 refine⟨_,h.ldA,?_⟩
 refine⟨_,h.ldA,?_⟩
 refine⟨_,h.ldA,?_⟩
 exact I _ h.tail.tail
theorem wn {b k:Nat}{fs:List Bk}{lf:Leaf}{p:PS}(h:DocC σ b L fs lf p w)(a6:k<=fs.length)(I: ∀X:OA->Int->WP,(∀g y w,aH.bl1 R X g y w->X g y w)->X (kE b) (k:Int) w):callE P bj #[kT (kE b),hY (k:Int)] R w:=by
 obtain⟨M,W,O,a7,hs,ht,U,V,h⟩:=h
 have E:=hs.2.1
 rw[lA0,lS0] at E
 refine aH.sound ?_
 refine aa ?_
 refine⟨_,_,_,h.ldA,?_⟩
 rw[E]
 exact af (by simp;omega) I
theorem wo {X:OA->Int->WP}{b k:Nat}{fs:List Bk}{p:PS}(I: ∀g y w,aH.bl1 R X g y w->X g y w)(h:DocC σ b L fs .none p w)(a6:fs.length=k)(O:R (hQ (.tuple #[])) w):X (kE b) (k:Int) w:=by
 obtain⟨M,W,U,a7,hs,ht,V,⟨rfl,rfl⟩,h⟩:=h
 have E:=hs.2.1
 rw[lG0,lS0] at E
 refine I _ _ _ (aa ?_)
 refine⟨_,_,_,h.ldA,?_⟩
 rw[E]
 exact af (by simp;omega) O

def OB.setE (o:OB)(m:Nat):OB:= {o with e:=m}
theorem EW {g:Type}{l:List g}{j:Nat}{o:g}(y:l[j]? =some o): ∃a c,l=a++o::c/\a.length=j:=by
 obtain⟨E,I⟩:=lL0.1 y
 refine⟨l.take j,l.drop (j+1),?_,by simp;omega⟩
 rw[<-I,<-lI1 E,lY1]
theorem u6 {ob:List OB}{sp:List Value}{j m:Nat}{o:OB}(O:ob[j]? =some o):(aP ob++sp).set (j*4+3) (hY (m:Nat))=aP (ob.set j (o.setE m))++sp:=by
 obtain⟨a,c,rfl,rfl⟩:=EW O
 have E: ∀x g:List OB,aP (x++g)=aP x++aP g:=by intro x g;simp[aP]
 have I: ∀x:OB,∀g:List OB,aP (x::g)=x.cells++aP g:=by intro x g;simp[aP]
 rw[lP1 _ _ (lA1 _),lW1,List.set_cons_zero,E,E,I,I,lD0,lP1 _ _ (by rw[aR];omega),aR,show a.length*4+3 - a.length*4=3 by omega,
  lD0,lD0,lD0]
 congr 1
theorem Stk.setE {p:PS}{ob:List OB}{sb:Nat}{sp:List Value}{j m:Nat}{o:OB}(E:p.stq=kE sb)(I:p.stn=ob.length)(y:ob.length<1048576)(g:(aP ob++sp).length=p.stc*4)(O:ob[j]? =some o):
 Stk p (ob.set j (o.setE m)) [(sb,cel (aP (ob.set j (o.setE m))++sp) ay)]:=by
 refine Stk.mk' E ?_ (by rw[lA5];exact I) (by rw[lA5];exact y)
 rw[<-g,lA0,lA0,aR,aR,lA5]
theorem C0 {X:OA->Nat->WP}(c1: ∀b4 a6 w,ak.bl1 R X b4 a6 w->X b4 a6 w){b b1 j:Nat}{p:PS}{ob:List OB}{o:OB}{M:List ai}{l l2:Ln}(h:Sat σ w (l.at b1::(p.at b::M++L)))(hs:Stk p ob M)(hd:p.depth=j)(c5:j<1000000)(I:ob[j+1]? =some o)(c3:l.ok)(hb:l.blank=false)(c2: ∀(a7:Ending->World->Prop) b0 w,Sat σ w (l.at b0::l.at b1::(p.at b::M++L))->(∀w,Sat σ w (l.at b0::l.at b1::(p.at b::M++L))->a7 (hQ (.tuple #[l2.val,hV true])) w)->de P (callMethod o.bd "pub-paratext/pub/rscmarkdown.extend" #[kT (kE b),l.val]) a7 w)
 (b7: ∀w b3,Stk ({p with depth:=(j:Int)+1}:PS) (ob.set (j+1) (o.setE p.lineno)) b3->Sat σ w (l2.at b1::(({p with depth:=(j:Int)+1}:PS).at b::b3++L))->X (kE b) b1 w):X (kE b) b1 w:=by
 have V:=(lL0.1 I).1
 have b8:=hs.2.2
 have E:=hs.2.1
 have c4:=hs
 obtain⟨sb,sp,O,W,b6⟩:=hs.split (by intro b9;rw[b9] at V;simp at V)
 refine c1 _ _ _ ?_
 have h:Sat σ w (l.at b1::p.at b::(M++L)):=h
 refine Sat.tk h λw h=>aa (aa ?_)
 refine⟨_,Sat.ld h (.tail _ (.head _)) (i:=5) rfl,_,_,_,Sat.ld h (.tail _ (.head _)) (i:=4) rfl,?_⟩
 rw[hd,i64_in _ (by omega),E]
 refine ag (by simp;omega) ?_
 refine⟨_,h.ldA,?_⟩
 refine⟨_,h.ldA,?_⟩
 refine⟨_,h.ldA,?_⟩
 refine⟨_,h.ldA,?_⟩
 refine⟨_,h.ldA,?_⟩
 refine Sat.bx h λb0 w h=>?_
 refine h.stA 0 λw h=>?_
 refine h.stA 0 λw h=>?_
 refine h.stA 0 λw h=>?_
 refine h.stA 0 λw h=>?_
 refine h.stA 0 λw h=>?_
 have h:Sat σ w (l.at b0::l.at b1::p.at b::(M++L)):=h
 refine Sat.tk h λw h=>aa (aa ?_)
 refine⟨_,_,_,Sat.ld h (.tail _ (.tail _ (.head _))) (i:=4) rfl,_,Sat.ld h (.tail _ (.tail _ (.head _))) (i:=5) rfl,?_⟩
 rw[hd,i64_in _ (by omega),E,O]
 refine⟨by omega,by omega,aa ?_⟩
 have U:((j:Int)+1).toNat=j+1:=by omega
 rw[U]
 simp only[lK0,lO0]
 have b5:(sb,cel (aP ob++sp) ay)∈(l.at b0::l.at b1::p.at b::(M++L)):=by rw[W];simp
 refine⟨o.bd,Sat.ld h b5 (fu (j:=j+1) (f:=0) (by decide) I),?_⟩
 have y:l.at b1∈(l.at b0::l.at b1::p.at b::(M++L)):= .tail _ (.head _)
 refine⟨_,Sat.ld h y (i:=0) rfl,_,Sat.ld h y (i:=1) rfl,_,Sat.ld h y (i:=2) rfl,_,Sat.ld h y (i:=3) rfl,_,Sat.ld h y (i:=4) rfl,?_⟩
 refine c2 _ b0 w h λw h=>⟨_,_,_,_,_,_,rfl,?_⟩
 have h:Sat σ w (l.at b0::l.at b1::(p.at b::M++L)):=h
 refine h.stA 1 λw h=>?_
 refine h.stA 1 λw h=>?_
 refine h.stA 1 λw h=>?_
 refine h.stA 1 λw h=>?_
 refine h.stA 1 λw h=>?_
 have h:Sat σ w (l.at b0::l2.at b1::(p.at b::M++L)):=h
 refine dF h (.head _) c3 λw h=>⟨_,rfl,?_⟩
 rw[hb]
 refine ag rfl (ag rfl ?_)
 unfold ak.k1
 have h:Sat σ w (l.at b0::l2.at b1::p.at b::(M++L)):=h
 refine ag rfl (h.tk λw h=>aa (aa (aa ?_)))
 have g:p.at b∈(l.at b0::l2.at b1::p.at b::(M++L)):= .tail _ (.tail _ (.head _))
 refine⟨_,_,_,Sat.ld h g (i:=4) rfl,_,Sat.ld h g (i:=5) rfl,_,Sat.ld h g (i:=3) rfl,?_⟩
 rw[hd,i64_in _ (by omega),E,O]
 refine⟨by omega,by omega,aa ?_⟩
 rw[U]
 simp only[lK0,lO0,lN1]
 have h:Sat σ w ((sb,cel (aP ob++sp) ay)::l.at b0::l2.at b1::p.at b::L):=by
  rw[W] at h
  exact h.re
 refine Sat.st h (k:=0) rfl (by rw[lA0,aR];omega) trivial rfl λw h=>?_
 rw[u6 I] at h
 have h:Sat σ w ((sb,cel (aP (ob.set (j+1) (o.setE p.lineno))++sp) ay)::l.at b0::l2.at b1::p.at b::L):=h
 refine af rfl (aa ?_)
 have g:p.at b∈((sb,cel (aP (ob.set (j+1) (o.setE p.lineno))++sp) ay)::l.at b0::l2.at b1::p.at b::L):= .tail _ (.tail _ (.tail _ (.head _)))
 refine⟨_,Sat.ld h g (i:=5) rfl,aa ?_⟩
 rw[hd,i64_in _ (by omega)]
 refine Sat.st h (k:=3) rfl (by simp[PS.cells]) trivial rfl λw h=>?_
 have h:Sat σ w ((sb,cel (aP (ob.set (j+1) (o.setE p.lineno))++sp) ay)::l.at b0::l2.at b1::({p with depth:=(j:Int)+1}:PS).at b::L):=h
 refine b7 w [(sb,cel (aP (ob.set (j+1) (o.setE p.lineno))++sp) ay)] (Stk.setE O E b8 b6 I) ?_
 exact h.less [l.at b0]
theorem vm {b pb g d:Nat}{op:Opt}{p:PS}{fs:List OB}{o:OB}{M b6:List ai}{ls:List (List UInt8)}{l:Ln}(h:Sat σ w (p.at b::M++(b6++L)))(hs:Stk p (fs++ [o]) M)(c4:o.bd= .iface ar (kT (kE g)))(hd:p.depth=d)(f4:d<=fs.length)(c2:p.pz=kE pb)(c3:op.at pb∈L)(c8:op.table=false)(b7:rG g ls b6)(f3:ls.length<1048570)(f2:l.ok)(e9: ∀w b5 O,Stk p ((fs++ [o]).take d++((fs++ [o]).drop d).map (·.setE p.lineno)) b5->rG g (ls++ [l.rest]) O->Sat σ w (p.at b::b5++(O++L))->R (hQ (.tuple #[Ln.zero.val,hV true])) w):
 callE P pN #[kT (kE b),l.val] R w:=by
 have U:p.stn=fs.length+1:=by rw[hs.2.1];simp
 have e5:=hs.2.2
 rw[lA0,lE0] at e5
 obtain⟨sb,sp,b4,rfl,c5⟩:=hs.split (by simp)
 have c1:=b7
 obtain⟨q,c,E,f5,rfl⟩:=b7
 refine dZ.sound ?_
 refine Sat.bx h λb1 w h=>?_
 refine Sat.bx h λy w h=>?_
 have h:Sat σ w (zLn y::l.at b1::(p.at b:: [(sb,cel (aP (fs++ [o])++sp) ay)]++(((g,cel [hT q ls.length c,kT none] aL)::E)++L))):=h
 have h:Sat σ w (p.at b:: [(sb,cel (aP (fs++ [o])++sp) ay)]++(zLn y::l.at b1::(((g,cel [hT q ls.length c,kT none] aL)::E)++L))):=h.re
 refine q9 (l:=fs) h hs (o:=o) c4 (λw h=>?_) (λ_=>⟨_,rfl⟩)
 rw[if_pos rfl]
 refine⟨_,rfl,?_⟩
 repeat (first|refine aa ?_|refine h.tk λw h=>?_|refine⟨_,h.ldA,?_⟩|refine⟨_,_,_,h.ldA,?_⟩)
 have f1:l.at b1∈p.at b:: [(sb,cel (aP (fs++ [o])++sp) ay)]++(zLn y::l.at b1::(((g,cel [hT q ls.length c,kT none] aL)::E)++L)):=by simp
 refine kV h f1 f2 λw h=>⟨_,rfl,?_⟩
 rw[show (l.text.drop l.i).dropWhile cO=l.rest from rfl]
 refine⟨_,w,jx kR _ _ _ w,ag rfl (aa ?_)⟩
 simp only[lK0,lO0]
 have d2:(g,cel [hT q ls.length c,kT none] aL)∈p.at b:: [(sb,cel (aP (fs++ [o])++sp) ay)]++(zLn y::l.at b1::(((g,cel [hT q ls.length c,kT none] aL)::E)++L)):=by simp
 refine⟨_,Sat.ld h d2 rfl,_,w,jx wh _ _ _ w,af rfl ?_⟩
 unfold dZ.k3
 refine Sat.tk h λw h=>?_
 refine aa ⟨_,Sat.ld h (.head _) rfl,?_⟩
 rw[c2]
 refine aa ?_
 simp only[lK0,lO0]
 have d3:op.at pb∈p.at b:: [(sb,cel (aP (fs++ [o])++sp) ay)]++(zLn y::l.at b1::(((g,cel [hT q ls.length c,kT none] aL)::E)++L)):=by simp[c3]
 refine⟨op.table,Sat.ld h d3 rfl,af c8 ?_⟩
 unfold dZ.k4
 refine af rfl ⟨_,w,jx kR _ _ _ w,ag rfl (aa ?_)⟩
 simp only[lK0,lO0]
 refine⟨_,Sat.ld h (.head _) (i:=5) rfl,?_⟩
 rw[hd]
 intro X a7
 have d0: ∀(k i:Nat) w,i+k=fs.length+1->d<=i->Sat σ w ((sb,cel (aP ((fs++ [o]).take d++(((fs++ [o]).drop d).take (i - d)).map (·.setE p.lineno)++(fs++ [o]).drop i)++sp) ay)::p.at b::(zLn y::l.at b1::(((g,cel [hT q ls.length c,kT none] aL)::E)++L)))->
  X (kE b) y (kE g) (bs l.rest) (i:Nat) w:=by
  intro k
  induction k with
  |zero=>
   intro i w hi e4 h
   refine a7 _ _ _ _ _ _ (aa ?_)
   refine⟨_,_,_,Sat.ld h (.tail _ (.head _)) (i:=4) rfl,?_⟩
   rw[U]
   refine af (by simp;omega) ?_
   have I:(fs++ [o]).drop i= []:=lE2 (by simp;omega)
   have e6:((fs++ [o]).drop d).take (i - d)=(fs++ [o]).drop d:=lC2 (by simp;omega)
   rw[I,e6,lG0] at h
   have h:Sat σ w (zLn y::((g,cel [hT q ls.length c,kT none] aL)::E)++(p.at b::(sb,cel (aP ((fs++ [o]).take d++((fs++ [o]).drop d).map (·.setE p.lineno))++sp) ay)::(l.at b1::L))):=h.re
   refine sG h c1 (by omega) λw O c9 h=>?_
   have W:((fs++ [o]).take d++((fs++ [o]).drop d).map (·.setE p.lineno)).length=fs.length+1:=by
    rw[lA0,lS0,<-lA0,lY1];simp
   refine e9 w [(sb,cel (aP ((fs++ [o]).take d++((fs++ [o]).drop d).map (·.setE p.lineno))++sp) ay)] O (Stk.mk' b4 ?_ (by rw[U,W]) (by rw[W];omega)) c9 (h.less [l.at b1])
   rw[<-c5,lA0,lA0,aR,aR,W];simp
  |succ k e8=>
   intro i w hi e4 h
   have a6:i<(fs++ [o]).length:=by simp;omega
   have I:=lI1 a6
   have V:((fs++ [o]).take d++(((fs++ [o]).drop d).take (i - d)).map (·.setE p.lineno)).length=i:=by
    simp only[lA0,lS0,lE1,lM1] at a6⊢
    omega
   refine a7 _ _ _ _ _ _ (aa ?_)
   refine⟨_,_,_,Sat.ld h (.tail _ (.head _)) (i:=4) rfl,?_⟩
   rw[U]
   refine ag (by simp;omega) (h.tk λw h=>aa (aa ?_))
   refine⟨_,_,_,Sat.ld h (.tail _ (.head _)) (i:=4) rfl,_,Sat.ld h (.tail _ (.head _)) (i:=3) rfl,?_⟩
   rw[U,b4]
   refine⟨by omega,by omega,aa ?_⟩
   simp only[lK0,lO0,lN1,lC0]
   have b9:((fs++ [o]).take d++(((fs++ [o]).drop d).take (i - d)).map (·.setE p.lineno)++(fs++ [o]).drop i)[i]? =some (fs++ [o])[i]:=by
    rw[lH0 (by omega),V,lW1,I];rfl
   refine Sat.st h (k:=0) rfl (by rw[lA0,aR,lA0,V,I,lF0];omega) trivial rfl λw h=>?_
   rw[u6 b9] at h
   have b8:((fs++ [o]).take d++(((fs++ [o]).drop d).take (i - d)).map (·.setE p.lineno)++(fs++ [o]).drop i).set i ((fs++ [o])[i].setE p.lineno)=(fs++ [o]).take d++(((fs++ [o]).drop d).take (i+1 - d)).map (·.setE p.lineno)++(fs++ [o]).drop (i+1):=by
    rw[lP1 _ _ (by omega),V,lW1,I,List.set_cons_zero]
    have d1:i - d<((fs++ [o]).drop d).length:=by rw[lM1];omega
    have e7:((fs++ [o]).drop d).take (i+1 - d)=((fs++ [o]).drop d).take (i - d)++ [(fs++ [o])[i]]:=by
     rw[show i+1 - d=i - d+1 by omega,lH1 d1]
     congr 2
     rw[List.getElem_drop]
     congr 1
     omega
    rw[e7,lV0]
    simp
   rw[b8] at h
   rw[aN (by omega)]
   exact e8 (i+1) w (by omega) (by omega) h
 have f0:(fs++ [o]).take d++(((fs++ [o]).drop d).take (d - d)).map (·.setE p.lineno)++(fs++ [o]).drop d=fs++ [o]:=by rw[lW1];simp
 refine d0 (fs.length+1 - d) d w (by omega) (lA1 _) ?_
 rw[f0]
 exact h.re

theorem sub_self (s:List UInt8)(i:Nat):sub s i i= []:=lE2 (by rw[lE1];omega)

def mark1 (x:Bool):List UInt8:=if x then [45,32] else [62,32]
def marks (s:List Bool):List UInt8:=s.flatMap mark1

theorem sM {b d I:Nat}{p:PS}{fs:List OB}{o:OB}{M:List ai}{l:Ln}(h:Sat σ w (p.at b::M++L))(hs:Stk p (fs++ [o]) M)(O:o.bd= .iface ar (kT (kE I)))(hd:p.depth=d)(V:d+1=fs.length)(E:l.cont)(a6: ∀w,Sat σ w (p.at b::M++L)->R (hQ (.tuple #[l.val,hV false])) w):callE P bZ #[kT (kE b),l.val] R w:=by
 have W:=hs.2.2
 rw[lA0,lE0] at W
 refine bL.sound ?_
 refine Sat.bx h λb1 w h=>?_
 refine Sat.bx h λg w h=>?_
 refine Sat.bx h λy w h=>?_
 repeat (first|refine aa ?_|refine h.tk λw h=>?_|refine⟨_,h.ldA,?_⟩|refine⟨_,_,_,h.ldA,?_⟩|refine h.stA 0 λw h=>?_|refine h.stA 1 λw h=>?_|refine h.stA 2 λw h=>?_|refine h.stA 3 λw h=>?_|refine h.stA 4 λw h=>?_|refine h.stA 5 λw h=>?_|refine h.stA 6 λw h=>?_|refine h.bx λb0 w h=>?_)
 have h:Sat σ _ (l.at b0::(y,cel [hY 0] ba)::zLn g::l.at b1::(p.at b::M++L)):=h
 have h:Sat σ _ (p.at b::M++(l.at b0::(y,cel [hY 0] ba)::zLn g::l.at b1::L)):=h.re
 refine ml (d:=d) h hs hd (by omega) λw h=>?_
 have U:(fs++ [o])[d+1]? =some o:=by rw[V];simp
 rw[U]
 dsimp only
 rw[O]
 refine⟨_,rfl,?_⟩
 refine q9 (l:=fs) h hs (o:=o) O (λw h=>?_) (λ_=>⟨_,rfl⟩)
 rw[if_pos rfl]
 refine⟨_,rfl,_,w,rA I _ _ w,ag rfl ?_⟩
 have h:Sat σ _ (l.at b0::(y,cel [hY 0] ba)::(zLn g::l.at b1::(p.at b::M++L))):=h.re
 refine uZ h E.plain.ok E.dash E.eq λw h=>⟨_,rfl,af rfl ?_⟩
 have h:Sat σ _ (zLn g::l.at b1::(y,cel [hY 0] ba)::l.at b0::(p.at b::M++L)):=h.re
 repeat (first|refine aa ?_|refine h.tk λw h=>?_|refine⟨_,h.ldA,?_⟩|refine⟨_,_,_,h.ldA,?_⟩|refine h.stA 0 λw h=>?_|refine h.stA 1 λw h=>?_|refine h.stA 2 λw h=>?_|refine h.stA 3 λw h=>?_|refine h.stA 4 λw h=>?_|refine h.stA 5 λw h=>?_|refine h.stA 6 λw h=>?_|refine h.bx λb0 w h=>?_)
 have h:Sat σ _ (l.at g::l.at b1::(y,cel [hY 0] ba)::l.at b0::(p.at b::M++L)):=h
 exact a6 _ h.tail.tail.tail.tail
theorem A3 {b d b7:Nat}{p:PS}{fs:List OB}{o O:OB}{M:List ai}{l:Ln}{td:TypeId}{vd:Value}(hs:Stk p (fs++ [o]) M)(U:o.bd= .iface ar (kT (kE b7)))(hd:p.depth=d)(c1:d<1000000)(b3:d<fs.length)(W:fs[d]? =some O)(b5:O.bd= .iface td vd)(a7:td≠az)(a6: ∀o1,fs[d+1]? =some o1-> ∃t v,o1.bd= .iface t v/\t≠ar)(I:l.cont): ∀f∈newsF,Bt b p M l f:=by
 have b4:=hs.2.2
 rw[lA0,lE0] at b4
 intro f V
 have g:=I.plain
 simp only[newsF,lW0,lF1,or_false] at V
 intro σ w L R h y
 rcases V with rfl|rfl|rfl|rfl|rfl|rfl|rfl|rfl
 ·exact iI (x:= .nilIface) h g.ok g.quote y
 ·exact lS h g.ok g.heading y
 ·by_cases b8:d+1=fs.length
  ·exact sM h hs U hd b8 I y
  ·have E:d+1<fs.length:=by omega
   obtain⟨t,v,b9,b6⟩:=a6 _ (lI0 E)
   exact kZ (ob:=fs) (o:=o) (o1:=fs[d+1]) (t1:=t) (v1:=v) h hs hd (by omega) (by rw[lM0 E];exact lI0 E) b9 b6 U (λ_=>⟨_,rfl⟩) g.ok y
 ·exact rW h g.ok g.hr y
 ·exact g.bullet b d p (fs++ [o]) O M td vd hs hd (by rw[lM0 b3];exact W) b5 a7 σ w L R h y
 ·exact n4 h g.ok I.lt y
 ·exact sN h g.ok g.fence y
 ·exact wP (ob:=fs) h hs (o:=o) U (λ_=>⟨_,rfl⟩) g.ok g.pre y
def Bk.sim (f g:Bk):Prop:=(∃m,g.ob=f.ob.setE m)/\g.own=f.own/\g.D=f.D/\g.IM=f.IM/\g.ob.e<1000000000
inductive Sims:List Bk->List Bk->Prop where
 |nil:Sims [] []
 |cons {f f':Bk} {fs fs':List Bk}:f.sim f'->Sims fs fs'->Sims (f::fs) (f'::fs')
theorem Bk.sim.rfl' {f:Bk}(h:f.ob.e<1000000000):f.sim f:=⟨⟨f.ob.e,rfl⟩,rfl,rfl,rfl,h⟩
theorem Bk.sim.trans {f y k:Bk}(W:f.sim y)(E:y.sim k):f.sim k:=by
 obtain⟨⟨a6,a1⟩,a2,a3,a4,a5⟩:=W
 obtain⟨⟨U,b1⟩,b2,O,I,V⟩:=E
 exact⟨⟨U,by rw[b1,a1];rfl⟩,b2.trans a2,O.trans a3,I.trans a4,V⟩
theorem Sims.refl: ∀ {fs:List Bk},(∀f∈fs,f.ob.e<1000000000)->Sims fs fs
 | [],_=> .nil
 |f::fs,h=> .cons (Bk.sim.rfl' (h f (by simp))) (Sims.refl λE y=>h E (by simp[y]))
theorem Sims.trans {fs gs g:List Bk}(I:Sims fs gs):Sims gs g->Sims fs g:=by
 induction I generalizing g with
 |nil=>exact λh=>h
 |cons a _ E=>
  intro y
  cases y with
  |cons b d=>exact .cons (a.trans b) (E d)
theorem Sims.len {fs gs:List Bk}(h:Sims fs gs):gs.length=fs.length:=by
 induction h with
 |nil=>rfl
 |cons _ _ g=>simp[g]
theorem Sims.append {fs gs g y:List Bk}(h:Sims fs gs)(E:Sims g y):Sims (fs++g) (gs++y):=by
 induction h with
 |nil=>exact E
 |cons a _ I=>exact .cons a I
theorem Sims.mem {fs gs:List Bk}(h:Sims fs gs):aM gs=aM fs/\txF gs=txF fs:=by
 induction h with
 |nil=>exact⟨rfl,rfl⟩
 | @cons f f' fs fs' a _ ih=>
  obtain⟨_,a2,a3,a4,_⟩:=a
  refine⟨?_,?_⟩
  ·have e: ∀(y:Bk) (l:List Bk),aM (y::l)=y.mem++aM l:=λy l=>by simp[aM]
   rw[e,e,ih.1,Bk.mem,Bk.mem,a2,a3,a4]
  ·have e: ∀(y:Bk) (l:List Bk),txF (y::l)=ci y.D++txF l:=λy l=>by simp[txF]
   rw[e,e,ih.2,a3]
theorem Bk.sim.ok {f g:Bk}(h:f.sim g)(E:f.ok):g.ok:=by
 obtain⟨⟨m,a1⟩,a2,a3,a4,a5⟩:=h
 obtain⟨o1,I,y,O⟩:=E
 refine⟨?_,by rw[a3];exact I,by rw[a1];exact y,a5⟩
 rw[a1,a3,a4];exact o1
theorem Sims.ok {fs gs:List Bk}(h:Sims fs gs)(E: ∀f∈fs,f.ok): ∀f∈gs,f.ok:=by
 induction h with
 |nil=>simp
 |cons a _ I=>
  intro U y
  rcases lW0.1 y with rfl|y
  ·exact a.ok (E _ (by simp))
  ·exact I (λf O=>E f (by simp[O])) U y
theorem Bk.sim.quote {f g:Bk}(h:f.sim g)(O:f.isQuote):g.isQuote:=by
 obtain⟨⟨m,a1⟩,a2,_⟩:=h
 obtain⟨E,I,y⟩:=O
 exact⟨E,by rw[a1];exact I,a2.trans y⟩
theorem Bk.sim.list {f g:Bk}{lb:Nat}{bul num:Int}{it:OA}{td:Value}(h:f.sim g)(E:f.isListT lb bul num it td):g.isListT lb bul num it td:=by
 obtain⟨⟨m,a1⟩,a2,_⟩:=h
 obtain⟨I,y⟩:=E
 exact⟨by rw[a1];exact I,a2.trans y⟩
theorem Bk.sim.itemOf {f g:Bk}{lb wd:Nat}{it:OA}{hv:Bool}(h:f.sim g)(O:ItemOf it f lb wd hv):ItemOf it g lb wd hv:=by
 obtain⟨⟨m,a1⟩,a2,_⟩:=h
 obtain⟨ib,I,E,y⟩:=O
 exact⟨ib,I,by rw[a1];exact E,a2.trans y⟩

theorem mH:ns P gP "pub-paratext/pub/rscmarkdown.extend" gz=true:=by kernel_rfl
theorem sD {c9 c8:OA}{l l2:Ln}{ok:Bool}(h:Sat σ w L)(d0:l.ok)(E:match l.quote with|some b9=>l2=b9/\ok=true|none=>l2=l/\ok=false)(c5: ∀w,Sat σ w L->R (hQ (.tuple #[l2.val,hV ok])) w):
 callE P gz #[kT c9,kT c8,l.val] R w:=by
 refine gG.sound ?_
 refine Sat.bx h λb1 w h=>?_
 refine Sat.bx h λg w h=>?_
 have h:Sat σ w (zLn g::l.at b1::L):=h
 refine⟨_,h.ldA,?_⟩
 refine⟨_,h.ldA,?_⟩
 refine⟨_,h.ldA,?_⟩
 refine⟨_,h.ldA,?_⟩
 refine⟨_,h.ldA,?_⟩
 have fin: ∀w,Sat σ w (zLn g::l.at b1::L)-> ∃(U:Int),∃(O:Int),∃(I:Int),∃(V:BA),∃(W:Int),∃(a6:Bool),(hQ (.tuple #[l2.val,hV ok]))= hQ (.tuple #[.agg #[hY U,hY O,hY I,hX V,.int .u8 W],hV a6])/\
  stV w (hZ g 0) (hY U) λc3=>stV c3 (hZ g 1) (hY O) λc4=>stV c4 (hZ g 2) (hY I) λc1=>stV c1 (hZ g 3) (hX V) λc2=>stV c2 (hZ g 4) (.int .u8 W) λy=>
  ∃(b4:Int),y.cell? (hZ g 0)=some (hY b4)/\ ∃(b5:Int),y.cell? (hZ g 1)=some (hY b5)/\ ∃(a7:Int),y.cell? (hZ g 2)=some (hY a7)/\ ∃(b7:BA),y.cell? (hZ g 3)=some (hX b7)/\ ∃(b6:Int),y.cell? (hZ g 4)=some (.int .u8 b6)/\
  R (hQ (.tuple #[.agg #[hY b4,hY b5,hY a7,hX b7,.int .u8 b6],hV a6])) y:=by
  intro w h
  refine⟨_,_,_,_,_,_,rfl,?_⟩
  refine h.stA 0 λw h=>?_
  refine h.stA 0 λw h=>?_
  refine h.stA 0 λw h=>?_
  refine h.stA 0 λw h=>?_
  refine h.stA 0 λw h=>?_
  have h:Sat σ w (l2.at g::l.at b1::L):=h
  refine⟨_,h.ldA,?_⟩
  refine⟨_,h.ldA,?_⟩
  refine⟨_,h.ldA,?_⟩
  refine⟨_,h.ldA,?_⟩
  refine⟨_,h.ldA,?_⟩
  exact c5 w h.tail.tail
 refine nf (l:=l) h d0 ?_
 cases b8:l.quote with
 |some b9=>
  rw[b8] at E
  obtain⟨rfl,rfl⟩:=E
  exact fin
 |none=>
  rw[b8] at E
  obtain⟨rfl,rfl⟩:=E
  exact fin
theorem xh {ib lb n:Nat}{q:OA}{l:Ln}(h:Sat σ w L)(y:l.ok)(hb:l.blank=false)(E:gt ib lb n true∈L)(I: ∀w,Sat σ w L->R (hQ (.tuple #[l.val,hV true])) w):
 callE P fo #[kT (kE ib),kT q,l.val] R w:=by
 obtain⟨A,B,rfl⟩:=lT3 E
 refine bX.sound ?_
 refine Sat.bx h λb1 w h=>?_
 refine Sat.bx h λg w h=>?_
 have h:Sat σ w (zLn g::l.at b1::(A++gt ib lb n true::B)):=h
 refine dF h (.tail _ (.head _)) y λw h=>⟨_,rfl,?_⟩
 rw[hb]
 refine af rfl ?_
 unfold bX.k1
 refine dF h (.tail _ (.head _)) y λw h=>⟨_,rfl,?_⟩
 rw[hb]
 refine af rfl ?_
 refine dF h (.tail _ (.head _)) y λw h=>⟨_,rfl,?_⟩
 rw[hb]
 refine ag rfl (aa ?_)
 have h:Sat σ w (gt ib lb n true::zLn g::l.at b1::(A++B)):=h.re
 refine Sat.st h (k:=0) rfl (by show 2<3;decide) trivial rfl λw h=>?_
 have h:Sat σ w (gt ib lb n true::zLn g::l.at b1::(A++B)):=h
 have h:Sat σ w (zLn g::l.at b1::(A++gt ib lb n true::B)):=h.re
 refine⟨_,h.ldA,?_⟩
 refine⟨_,h.ldA,?_⟩
 refine⟨_,h.ldA,?_⟩
 refine⟨_,h.ldA,?_⟩
 refine⟨_,h.ldA,?_⟩
 refine h.stA 0 λw h=>?_
 refine h.stA 0 λw h=>?_
 refine h.stA 0 λw h=>?_
 refine h.stA 0 λw h=>?_
 refine h.stA 0 λw h=>?_
 have h:Sat σ w (l.at g::l.at b1::(A++gt ib lb n true::B)):=h
 refine⟨_,h.ldA,?_⟩
 refine⟨_,h.ldA,?_⟩
 refine⟨_,h.ldA,?_⟩
 refine⟨_,h.ldA,?_⟩
 refine⟨_,h.ldA,?_⟩
 exact I w h.tail.tail

theorem vc {a:List Bk}: ∀ {c fs:List Bk},Sims (a++c) fs-> ∃g y,fs=g++y/\Sims a g/\Sims c y:=by
 induction a with
 |nil=>intro c fs h;exact⟨[],fs,rfl,.nil,h⟩
 |cons x a O=>
  intro c fs h
  cases h with
  |cons k I=>
   obtain⟨g,y,rfl,E,U⟩:=O I
   exact⟨_::g,y,rfl,.cons k E,U⟩
def nJ (R:EP)(d1 c9:Bool)(c8 d0:Bool)(c4 c2:Bool)(c1 c5:Bool)(d2 c3:Bool)(e4:BA)(w:World):Prop:=
 box w #[hV d1,hV c9,hV c8,hV d0,hV c4,hV c2,hV c1,hV c5,hV d2,hV c3] fp λb1 e5=>
 box e5 (N16.C {}) aj λb5 g=>
 ∃b8,g.cell? (hZ b1 0)=some (hV b8)/\
 ∃b7,g.cell? (hZ b1 1)=some (hV b7)/\
 ∃b6,g.cell? (hZ b1 2)=some (hV b6)/\
 ∃b9,g.cell? (hZ b1 3)=some (hV b9)/\
 ∃b4,g.cell? (hZ b1 4)=some (hV b4)/\
 ∃E,g.cell? (hZ b1 5)=some (hV E)/\
 ∃U,g.cell? (hZ b1 6)=some (hV U)/\
 ∃O,g.cell? (hZ b1 7)=some (hV O)/\
 ∃y,g.cell? (hZ b1 8)=some (hV y)/\
 ∃a7,g.cell? (hZ b1 9)=some (hV a7)/\
 callE P mv #[.agg #[hV b8,hV b7,hV b6,hV b9,hV b4,hV E,hV U,hV O,hV y,hV a7]] (λe e3=> ∃I,e= hQ (kT I)/\
 callE P oS #[kT I,hX e4] (λe d3=> ∃W,e= hQ (kT W)/\
 callE P bR #[.iface df (kT W)] (λe e1=>GQ e λe0=>
 st16 e1 b5 e0 λa6=>
 ldB16 a6 b5 λe2=>
 R (hQ (e2.V)) a6) d3) e3) g
theorem nJ.sound {R x0_0 x0_1 x0_2 x0_3 x0_4 x0_5 x0_6 x0_7 x0_8 x0_9 x1 w}(h:nJ R x0_0 x0_1 x0_2 x0_3 x0_4 x0_5 x0_6 x0_7 x0_8 x0_9 x1 w):callE P nA #[.agg #[hV x0_0,hV x0_1,hV x0_2,hV x0_3,hV x0_4,hV x0_5,hV x0_6,hV x0_7,hV x0_8,hV x0_9],hX x1] R w:=
 cE Tryz.func14 Tryz.call14 h
def tg (R:EP)(y:OA)(w:World):Prop:=
 aA y λa1=>
 ∃g,w.cell? (a1.add 3)=some (hY g)/\
 R (hQ (hY g)) w
theorem tg.sound {R x0 w}(h:tg R x0 w):callE P xu #[kT x0] R w:=
 cE Tryz.func49 Tryz.call49 h
namespace cg
def bl1 (R:EP)(Xa:Nat->Nat->Value->WP)(a6 a7:Nat)(W:Value)(w:World):Prop:=
 (∃g,(Instr.next W false ty_).run P w= .ok (.tuple #[hV false]) g/\
 ∃y E I,g.cell? (hZ a7 15)=some (hT y E I)/\
 callE P dj #[hT y E I,.func (.func tT) #[] #[]] (λe U=>e= hQ (.tuple #[])/\
 ldB16 U a7 λb5=>
 st16 U a6 b5 λO=>
 ldB16 O a6 λb7=>
 R (hQ (b7.V)) O) g)\/
 (∃(b3:Value),∃(b4:Value),∃b6,(Instr.next W false ty_).run P w= .ok (.tuple #[hV true,b3,b4]) b6/\
 False)
def l1 (R:EP)(y E:Nat)(g:Value)(w:World):Prop:=
 ∀X:Nat->Nat->Value->WP,(∀y E g w,bl1 R X y E g w->X y E g w)->X y E g w
def k1 (R:EP)(g y:Nat)(b6:OA)(b4:Bool)(w:World):Prop:=
 br b4
 (aA b6 λb5=>
 ∃U,w.cell? (b5.add 3)=some (hY U)/\
 stV w (hZ y 3) (hY U) λE=>
 ldB16 E y λW=>
 st16 E g W λI=>
 ldB16 I g λa6=>
 R (hQ (a6.V)) I)
 (ldB16 w y λa7=>
 st16 w g a7 λO=>
 ldB16 O g λb3=>
 R (hQ (b3.V)) O)
end cg
def cg (R:EP)(y:Value)(w:World):Prop:=
 box w (N16.C {}) aj λb1 J6=>
 de P (callMethod y "Pos" #[]) (λe J3=> ∃t5 s8,e= hQ (.agg #[hY t5,hY s8])/\
 box J3 #[hY 0,hY 0] aF λd2 J5=>
 stV J5 (hZ d2 0) (hY t5) λJ4=>
 stV J4 (hZ d2 1) (hY s8) λe8=>
 ∃w3,e8.cell? (hZ d2 0)=some (hY w3)/\
 ∃v3,e8.cell? (hZ d2 1)=some (hY v3)/\
 box e8 (N16.C {}) aj λg I4=>
 st16 I4 g {a8:=w3,a9:=v3} λJ0=>
 ∃e0 k0 d1,(Instr.typeAssert y aO df true).run P J0= .ok (.tuple #[kT e0,hV k0]) d1/\
 br k0
 (aA e0 λI2=>
 ∃s9 q0 s6,d1.cell? (I2.add 2)=some (hT s9 q0 s6)/\
 callE P gW #[hT s9 q0 s6] (λe I6=> ∃o3 t3 p5,e= hQ (hT o3 t3 p5)/\
 stV I6 (hZ g 0) (hY 1) λI7=>
 stV I7 (hZ g 7) (hT o3 t3 p5) λv5=>
 aA e0 λJ2=>
 ∃(w1:Option Nat),v5.cell? (J2.add 3)=some (.map w1)/\
 ∃(v8:Value),∃v7,(Instr.range g9 (.map w1)).run P v5= .ok v8 v7/\
 cg.l1 R b1 g v8 v7) d1)
 (∃i3 m6 d0,(Instr.typeAssert y aO ki true).run P d1= .ok (.tuple #[kT i3,hV m6]) d0/\
 br m6
 (aA i3 λJ1=>
 ∃p4 o4 r8,d0.cell? (J1.add 2)=some (hT p4 o4 r8)/\
 callE P gW #[hT p4 o4 r8] (λe I3=> ∃p1 u0 r4,e= hQ (hT p1 u0 r4)/\
 stV I3 (hZ g 0) (hY 2) λI5=>
 stV I5 (hZ g 7) (hT p1 u0 r4) λv6=>
 ldB16 v6 g λI9=>
 st16 v6 b1 I9 λv4=>
 ldB16 v4 b1 λI8=>
 R (hQ (I8.V)) v4) d0)
 (∃E o2 e7,(Instr.typeAssert y aO dn true).run P d0= .ok (.tuple #[kT E,hV o2]) e7/\
 br o2
 (tk e7 λU=>
 aA E λb9=>
 aA E λa7=>
 aA E λH8=>
 ∃s1,U.cell? (b9.add 2)=some (.int .i32 s1)/\
 ∃u1,U.cell? (a7.add 4)=some (hV u1)/\
 ∃j0 g6 n3,U.cell? (H8.add 5)=some (hT j0 g6 n3)/\
 callE P gW #[hT j0 g6 n3] (λe W=> ∃h1 m4 m5,e= hQ (hT h1 m4 m5)/\
 SameC U W (a7.add 4) 1/\
 SameC U W (b9.add 2) 1/\
 stV W (hZ g 0) (hY 3) λa6=>
 SameC W a6 (a7.add 4) 1/\
 SameC W a6 (b9.add 2) 1/\
 stV a6 (hZ g 3) (hY (-1)) λc3=>
 SameC a6 c3 (a7.add 4) 1/\
 SameC a6 c3 (b9.add 2) 1/\
 stV c3 (hZ g 4) (hX (Utf8.encode s1)) λu8=>
 SameC c3 u8 (a7.add 4) 1/\
 stV u8 (hZ g 5) (hV u1) λH5=>
 stV H5 (hZ g 7) (hT h1 m4 m5) λc4=>
 aA E λH4=>
 ∃q2,c4.cell? (H4.add 2)=some (.int .i32 q2)/\
 br (q2==46)
 (cg.k1 R b1 g E true c4)
 (aA E λz4=>
 ∃t0,c4.cell? (z4.add 2)=some (.int .i32 t0)/\
 cg.k1 R b1 g E (t0==41) c4)) U)
 (∃d3 f4 e5,(Instr.typeAssert y aO fU true).run P e7= .ok (.tuple #[kT d3,hV f4]) e5/\
 br f4
 (tk e5 λe2=>
 aA d3 λs3=>
 ∃i4 h2 g5,e2.cell? (s3.add 2)=some (hT i4 h2 g5)/\
 callE P xu #[kT d3] (λe s7=> ∃s4,e= hQ (hY s4)/\
 SameC e2 s7 (s3.add 2) 1/\
 callE P gW #[hT i4 h2 g5] (λe x4=> ∃l5 h3 i1,e= hQ (hT l5 h3 i1)/\
 stV x4 (hZ g 0) (hY 4) λH1=>
 stV H1 (hZ g 11) (hY s4) λx1=>
 stV x1 (hZ g 7) (hT l5 h3 i1) λr3=>
 ldB16 r3 g λH7=>
 st16 r3 b1 H7 λu2=>
 ldB16 u2 b1 λH9=>
 R (hQ (H9.V)) u2) s7) e2)
 (∃b7 g1 e1,(Instr.typeAssert y aO gv true).run P e5= .ok (.tuple #[kT b7,hV g1]) e1/\
 br g1
 (tk e1 λI=>
 aA b7 λe6=>
 aA b7 λc2=>
 aA b7 λy3=>
 ∃r9,I.cell? (e6.add 2)=some (hY r9)/\
 ∃t2,I.cell? (c2.add 4)=some (hX t2)/\
 ∃u4,I.cell? (y3.add 3)=some (kT u4)/\
 aA u4 λz2=>
 ∃g4 i8 i0,I.cell? (z2.add 2)=some (hT g4 i8 i0)/\
 callE P dy #[hT g4 i8 i0] (λe b6=> ∃n1 h7 m1,e= hQ (hT n1 h7 m1)/\
 SameC I b6 (c2.add 4) 1/\
 SameC I b6 (e6.add 2) 1/\
 stV b6 (hZ g 0) (hY 5) λc1=>
 SameC b6 c1 (c2.add 4) 1/\
 SameC b6 c1 (e6.add 2) 1/\
 stV c1 (hZ g 3) (hY r9) λq4=>
 SameC c1 q4 (c2.add 4) 1/\
 stV q4 (hZ g 2) (hX t2) λz3=>
 stV z3 (hZ g 7) (hT n1 h7 m1) λs2=>
 ldB16 s2 g λx7=>
 st16 s2 b1 x7 λr7=>
 ldB16 r7 b1 λD2=>
 R (hQ (D2.V)) r7) I)
 (∃f6 e9 b4,(Instr.typeAssert y aO bD true).run P e1= .ok (.tuple #[kT f6,hV e9]) b4/\
 br e9
 (aA f6 λH0=>
 ∃q3,b4.cell? (H0.add 2)=some (kT q3)/\
 aA q3 λH3=>
 ∃h5 j1 h6,b4.cell? (H3.add 2)=some (hT h5 j1 h6)/\
 callE P dy #[hT h5 j1 h6] (λe z1=> ∃i2 g7 g2,e= hQ (hT i2 g7 g2)/\
 stV z1 (hZ g 0) (hY 6) λx3=>
 stV x3 (hZ g 7) (hT i2 g7 g2) λt7=>
 ldB16 t7 g λD3=>
 st16 t7 b1 D3 λt9=>
 ldB16 t9 b1 λx8=>
 R (hQ (x8.V)) t9) b4)
 (∃f0 f5 c9,(Instr.typeAssert y aO dW true).run P b4= .ok (.tuple #[kT f0,hV f5]) c9/\
 br f5
 (aA f0 λx2=>
 ∃g3 h4 n2,c9.cell? (x2.add 2)=some (hT g3 h4 n2)/\
 callE P dy #[hT g3 h4 n2] (λe x5=> ∃h9 m3 n0,e= hQ (hT h9 m3 n0)/\
 stV x5 (hZ g 0) (hY 6) λH2=>
 stV H2 (hZ g 12) (hV true) λI1=>
 stV I1 (hZ g 7) (hT h9 m3 n0) λq1=>
 ldB16 q1 g λH6=>
 st16 q1 b1 H6 λr5=>
 ldB16 r5 b1 λx6=>
 R (hQ (x6.V)) r5) c9)
 (∃b8 f1 e3,(Instr.typeAssert y aO cL true).run P c9= .ok (.tuple #[kT b8,hV f1]) e3/\
 br f1
 (tk e3 λO=>
 aA b8 λe4=>
 aA b8 λc8=>
 aA b8 λy4=>
 ∃r6,O.cell? (e4.add 3)=some (hX r6)/\
 ∃q5,O.cell? (c8.add 2)=some (hX q5)/\
 ∃m2 h8 o0,O.cell? (y4.add 4)=some (hT m2 h8 o0)/\
 callE P nz #[hT m2 h8 o0] (λe b3=> ∃t6,e= hQ (hX t6)/\
 SameC O b3 (c8.add 2) 1/\
 SameC O b3 (e4.add 3) 1/\
 stV b3 (hZ g 0) (hY 7) λc5=>
 SameC b3 c5 (c8.add 2) 1/\
 SameC b3 c5 (e4.add 3) 1/\
 stV c5 (hZ g 2) (hX r6) λp3=>
 SameC c5 p3 (c8.add 2) 1/\
 stV p3 (hZ g 10) (hX q5) λy5=>
 stV y5 (hZ g 1) (hX t6) λt8=>
 ldB16 t8 g λw9=>
 st16 t8 b1 w9 λv2=>
 ldB16 v2 b1 λx9=>
 R (hQ (x9.V)) v2) O)
 (∃w5 f3 q8,(Instr.typeAssert y aO tJ true).run P e3= .ok (.tuple #[kT w5,hV f3]) q8/\
 br f3
 (False)
 (∃f2 g0 s5,(Instr.typeAssert y aO cW true).run P q8= .ok (.tuple #[kT f2,hV g0]) s5/\
 br g0
 (callE P CO #[kT f2] (λe y1=> ∃r1,e= hQ (hX r1)/\
 stV y1 (hZ g 0) (hY 9) λy2=>
 stV y2 (hZ g 10) (hX r1) λv0=>
 ldB16 v0 g λI0=>
 st16 v0 b1 I0 λt4=>
 ldB16 t4 b1 λD1=>
 R (hQ (D1.V)) t4) s5)
 (False))))))))))) J6
theorem cg.sound {R x0 w}(h:cg R x0 w):callE P bR #[x0] R w:=
 aG [(11095,.lp [46,86,905] (cg.bl1 R) λXa=> [(9,.no),(27,.dr (rpN [0,6,9,12,15,21,24,27,33,36,39,4,19,31,43,47,48,53,56,57,62]))]),(22487,.dr (rpN [0,3,6,15,18,21,27,30,33,42,10,12,25,37,41,47,48,53,54,59,60,65,66,71])),(63447,.mk [46,86,182,2340] (cg.k1 R)),(57303,.dr (rpN [0,6,9,12,21,16,5,20,26,27,32,33,38])),(229335,.dr (rpN [0,3,6,12,15,18,24,27,30,48,10,22,34,36,39,43,47,53,54,59,60,65,66,71])),(14680023,.dr (rpN [0,3,6,12,15,18,24,27,30,39,10,22,34,38,44,45,50,51,56,57,62])),(25165783,.no),(134217687,.no)] Tryz.func32 Tryz.call32 h
namespace gL
def bl1 (R:EP)(Xa:Nat->OA->Nat->Nat->Int->Int->WP)(y:Nat)(E:OA)(I b3:Nat)(U g:Int)(w:World):Prop:=
 br (decide (g<U))
 (0<=g/\g<(I:Int)/\
 aA E λa3=>
 ∃V,w.cell? (a3.add (Int.toNat g*1))=some (hX V)/\
 callE P bw #[kT (kE y),hX V] (λe b4=> ∃W,∃(a6:Value),e= hQ (.tuple #[hY W,a6])/\
 callE P bT #[kT (kE y),.int .u8 10] (λe b5=> ∃(b6:Value),e= hQ b6/\
 Xa y E I b3 U (i64.wrap (g+1)) b5) b4) w)
 (callE P dt #[kT (kE y)] (λe a7=> ∃O,e= hQ (hX O)/\
 R (hQ (hX O)) a7) w)
def l1 (R:EP)(O:Nat)(g:OA)(y E:Nat)(U I:Int)(w:World):Prop:=
 ∀X:Nat->OA->Nat->Nat->Int->Int->WP,(∀O g y E U I w,bl1 R X O g y E U I w->X O g y E U I w)->X O g y E U I w
end gL
def gL (R:EP)(y:OA)(g E:Nat)(w:World):Prop:=
 box w #[kT none,hT none 0 0] cn λb1 I=>
 gL.l1 R b1 y g E (g:Int) 0 I
theorem gL.sound {R x0q x0n x0c w}(h:gL R x0q x0n x0c w):callE P nz #[hT x0q x0n x0c] R w:=
 aG [(43,.lp [66,123,147,167] (gL.bl1 R) λXa=> [])] Tryz.func51 Tryz.call51 h
def kN (R:EP)(E:Int)(w:World):Prop:=
 callE P l0 #[.int .u64 E] (λe y=> ∃g,e= hQ (hY g)/\
 R (hQ (hY g)) y) w
theorem kN.sound {R x0 w}(h:kN R x0 w):callE P kI #[.int .u64 x0] R w:=
 cE Tryz.func70 Tryz.call70 h
namespace cB
def k3 (R:EP)(g y:Int)(w:World):Prop:=
 0<=(IntKind.u8.wrap g)/\(IntKind.u8.wrap g)<((hP #[0,1,2,2,3,3,3,3,4,4,4,4,4,4,4,4,5,5,5,5,5,5,5,5,5,5,5,5,5,5,5,5,6,6,6,6,6,6,6,6,6,6,6,6,6,6,6,6,6,6,6,6,6,6,6,6,6,6,6,6,6,6,6,6,7,7,7,7,7,7,7,7,7,7,7,7,7,7,7,7,7,7,7,7,7,7,7,7,7,7,7,7,7,7,7,7,7,7,7,7,7,7,7,7,7,7,7,7,7,7,7,7,7,7,7,7,7,7,7,7,7,7,7,7,7,7,7,7,8,8,8,8,8,8,8,8,8,8,8,8,8,8,8,8,8,8,8,8,8,8,8,8,8,8,8,8,8,8,8,8,8,8,8,8,8,8,8,8,8,8,8,8,8,8,8,8,8,8,8,8,8,8,8,8,8,8,8,8,8,8,8,8,8,8,8,8,8,8,8,8,8,8,8,8,8,8,8,8,8,8,8,8,8,8,8,8,8,8,8,8,8,8,8,8,8,8,8,8,8,8,8,8,8,8,8,8,8,8,8,8,8,8,8,8,8,8,8,8,8,8,8,8,8,8,8,8]).size:Int)/\
 R (hQ (hY (i64.wrap (y+(i64.wrap (bt (hP #[0,1,2,2,3,3,3,3,4,4,4,4,4,4,4,4,5,5,5,5,5,5,5,5,5,5,5,5,5,5,5,5,6,6,6,6,6,6,6,6,6,6,6,6,6,6,6,6,6,6,6,6,6,6,6,6,6,6,6,6,6,6,6,6,7,7,7,7,7,7,7,7,7,7,7,7,7,7,7,7,7,7,7,7,7,7,7,7,7,7,7,7,7,7,7,7,7,7,7,7,7,7,7,7,7,7,7,7,7,7,7,7,7,7,7,7,7,7,7,7,7,7,7,7,7,7,7,7,8,8,8,8,8,8,8,8,8,8,8,8,8,8,8,8,8,8,8,8,8,8,8,8,8,8,8,8,8,8,8,8,8,8,8,8,8,8,8,8,8,8,8,8,8,8,8,8,8,8,8,8,8,8,8,8,8,8,8,8,8,8,8,8,8,8,8,8,8,8,8,8,8,8,8,8,8,8,8,8,8,8,8,8,8,8,8,8,8,8,8,8,8,8,8,8,8,8,8,8,8,8,8,8,8,8,8,8,8,8,8,8,8,8,8,8,8,8,8,8,8,8,8,8,8,8,8,8]) (IntKind.u8.wrap g))))))) w
def k2 (R:EP)(g y:Int)(w:World):Prop:=
 br (decide (g >= 256))
 (False)
 (k3 R g y w)
def k1 (R:EP)(g y:Int)(w:World):Prop:=
 br (decide (g >= 65536))
 (False)
 (k2 R g y w)
end cB
def cB (R:EP)(g:Int)(w:World):Prop:=
 br (decide (g >= 4294967296))
 (False)
 (cB.k1 R g 0 w)
theorem cB.sound {R x0 w}(h:cB R x0 w):callE P l0 #[.int .u64 x0] R w:=
 aG [(21,.no),(7,.mk [10,47] (cB.k1 R)),(43,.no),(15,.mk [10,47] (cB.k2 R)),(87,.no),(31,.mk [10,47] (cB.k3 R))] Tryz.func100 Tryz.call100 h
def dk (R:EP)(E:OA)(g I:Nat)(U:Value)(w:World):Prop:=
 callE P kI #[.int .u64 (IntKind.u64.wrap (g:Int))] (λe O=> ∃y,e= hQ (hY y)/\
 callE P fh #[hT E g I,hY 0,hY (g:Int),hY y,U] (λe V=>e= hQ (.tuple #[])/\
 R (hQ (.tuple #[])) V) O) w
theorem dk.sound {R x0q x0n x0c x1 w}(h:dk R x0q x0n x0c x1 w):callE P dj #[hT x0q x0n x0c,x1] R w:=
 cE Tryz.func46 Tryz.call46 h
namespace be
def bl1 (R:EP)(Xa:OA->Nat->Nat->Int->Int->Value->Int->WP)(I:OA)(E O:Nat)(V y:Int)(U:Value)(g:Int)(w:World):Prop:=
 br (decide (g<y))
 (False)
 (R (hQ (.tuple #[])) w)
def l1 (R:EP)(y:OA)(g E:Nat)(V O:Int)(U:Value)(I:Int)(w:World):Prop:=
 ∀X:OA->Nat->Nat->Int->Int->Value->Int->WP,(∀y g E V O U I w,bl1 R X y g E V O U I w->X y g E V O U I w)->X y g E V O U I w
end be
def be (R:EP)(E:OA)(y I:Nat)(g O:Int)(U:Value)(w:World):Prop:=
 be.l1 R E y I g O U (i64.wrap (g+1)) w
theorem be.sound {R x0q x0n x0c x1 x2 x3 w}(h:be R x0q x0n x0c x1 x2 x3 w):callE P d5 #[hT x0q x0n x0c,hY x1,hY x2,x3] R w:=
 aG [(5,.lp [3,27,47,65,167] (be.bl1 R) λXa=> [(10,.no),(41,.no)])] Tryz.func91 Tryz.call91 h
namespace bB
def bl1 (R:EP)(Xa:OA->Nat->Nat->Int->Int->Int->Value->Bool->Bool->WP)(I:OA)(E O:Nat)(y g a7:Int)(V:Value)(W a6:Bool)(w:World):Prop:=
 br (decide ((i64.wrap (g - y))<=12))
 (callE P d5 #[hT I E O,hY y,hY g,V] (λe U=>e= hQ (.tuple #[])/\
 R (hQ (.tuple #[])) U) w)
 (False)
def l1 (R:EP)(I:OA)(y O:Nat)(W U V:Int)(a6:Value)(g E:Bool)(w:World):Prop:=
 ∀X:OA->Nat->Nat->Int->Int->Int->Value->Bool->Bool->WP,(∀I y O W U V a6 g E w,bl1 R X I y O W U V a6 g E w->X I y O W U V a6 g E w)->X I y O W U V a6 g E w
end bB
def bB (R:EP)(y:OA)(g E:Nat)(U I O:Int)(V:Value)(w:World):Prop:=
 bB.l1 R y g E U I O V true true w
theorem bB.sound {R x0q x0n x0c x1 x2 x3 x4 w}(h:bB R x0q x0n x0c x1 x2 x3 x4 w):callE P fh #[hT x0q x0n x0c,hY x1,hY x2,hY x3,x4] R w:=
 aG [(11,.lp [3,27,47,67,85,200,220] (bB.bl1 R) λXa=> [(58,.no),(86,.no),(118,.no),(174,.no),(238,.no),(62,.no)])] Tryz.func69 Tryz.call69 h
def gN (R:EP)(E:Value)(w:World):Prop:=
 callE P kF #[E] (λe y=> ∃g,e= hQ (kT g)/\
 R (hQ (kT g)) y) w
theorem gN.sound {R x0 w}(h:gN R x0 w):callE P xv #[x0] R w:=
 cE Tryz.func102 Tryz.call102 h
def dE (R:EP)(g:Value)(w:World):Prop:=
 box w (N16.C {}) aj λb1 H9=>
 callE P xv #[g] (λe H7=> ∃c1,e= hQ (kT c1)/\
 ∃w5 c2,(do eqGuard .neq bI (.tmp 19) (.const (kT none)) (kT c1) (kT none);binOp .neq bI (kT c1) (kT none)).run P H7= .ok (hV w5) c2/\
 br w5
 (aA c1 λH8=>
 ∃w7,c2.cell? H8=some (hX w7)/\
 st16 c2 b1 {a0:=20,a1:=w7} λv9=>
 ldB16 v9 b1 λH5=>
 R (hQ (H5.V)) v9)
 (∃n2 p5 b9,(Instr.typeAssert g aC kU true).run P c2= .ok (.tuple #[kT n2,hV p5]) b9/\
 br p5
 (aA n2 λH6=>
 ∃v7,b9.cell? H6=some (hX v7)/\
 st16 b9 b1 {a0:=20,a1:=v7,a13:=true} λw3=>
 ldB16 w3 b1 λH3=>
 R (hQ (H3.V)) w3)
 (∃w9 m3 f2,(Instr.typeAssert g aC jN true).run P b9= .ok (.tuple #[kT w9,hV m3]) f2/\
 br m3
 (st16 f2 b1 {a0:=21} λw1=>
 ldB16 w1 b1 λH4=>
 R (hQ (H4.V)) w1)
 (∃w8 g3 e7,(Instr.typeAssert g aC lB true).run P f2= .ok (.tuple #[kT w8,hV g3]) e7/\
 br g3
 (st16 e7 b1 {a0:=22} λr9=>
 ldB16 r9 b1 λH0=>
 R (hQ (H0.V)) r9)
 (∃g5 g6 b3,(Instr.typeAssert g aC pu true).run P e7= .ok (.tuple #[kT g5,hV g6]) b3/\
 br g6
 (aA g5 λD1=>
 ∃s7,b3.cell? D1=some (hX s7)/\
 st16 b3 b1 {a0:=23,a1:=s7} λu4=>
 ldB16 u4 b1 λz4=>
 R (hQ (z4.V)) u4)
 (∃c4 g0 f0,(Instr.typeAssert g aC je true).run P b3= .ok (.tuple #[kT c4,hV g0]) f0/\
 br g0
 (tk f0 λb6=>
 aA c4 λs4=>
 aA c4 λy4=>
 ∃r7,b6.cell? s4=some (hX r7)/\
 ∃i2 o0 n0,b6.cell? (y4.add 1)=some (hT i2 o0 n0)/\
 callE P dy #[hT i2 o0 n0] (λe v4=> ∃q0 m5 o4,e= hQ (hT q0 m5 o4)/\
 SameC b6 v4 (s4) 1/\
 st16 v4 b1 {a0:=24,q7:=q0,n7:=m5,c7:=o4,a10:=r7} λr4=>
 ldB16 r4 b1 λx6=>
 R (hQ (x6.V)) r4) b6)
 (∃c3 g7 e8,(Instr.typeAssert g aC fB true).run P f0= .ok (.tuple #[kT c3,hV g7]) e8/\
 br g7
 (tk e8 λb4=>
 aA c3 λq5=>
 aA c3 λH1=>
 ∃t7,b4.cell? q5=some (hX t7)/\
 ∃i0 m6 m4,b4.cell? (H1.add 1)=some (hT i0 m6 m4)/\
 callE P dy #[hT i0 m6 m4] (λe s2=> ∃i4 j1 h5,e= hQ (hT i4 j1 h5)/\
 SameC b4 s2 (q5) 1/\
 st16 s2 b1 {a0:=25,q7:=i4,n7:=j1,c7:=h5,a10:=t7} λt9=>
 ldB16 t9 b1 λx2=>
 R (hQ (x2.V)) t9) b4)
 (∃c5 g4 d2,(Instr.typeAssert g aC uS true).run P e8= .ok (.tuple #[kT c5,hV g4]) d2/\
 br g4
 (tk d2 λb5=>
 aA c5 λt5=>
 aA c5 λy2=>
 ∃t3,b5.cell? t5=some (hX t3)/\
 ∃h8 p3 p4,b5.cell? (y2.add 1)=some (hT h8 p3 p4)/\
 callE P dy #[hT h8 p3 p4] (λe s3=> ∃l5 n3 h9,e= hQ (hT l5 n3 h9)/\
 SameC b5 s3 (t5) 1/\
 st16 s3 b1 {a0:=26,q7:=l5,n7:=n3,c7:=h9,a10:=t3} λt0=>
 ldB16 t0 b1 λz2=>
 R (hQ (z2.V)) t0) b5)
 (∃W h2 d1,(Instr.typeAssert g aC lP true).run P d2= .ok (.tuple #[kT W,hV h2]) d1/\
 br h2
 (tk d1 λE=>
 aA W λe0=>
 aA W λf1=>
 aA W λH2=>
 aA W λt2=>
 ∃s1,E.cell? (e0.add 1)=some (hX s1)/\
 ∃u2,E.cell? (f1.add 2)=some (hX u2)/\
 ∃v0,E.cell? (H2.add 3)=some (.int .u8 v0)/\
 ∃i8 i3 j0,E.cell? t2=some (hT i8 i3 j0)/\
 callE P mw #[.int .u8 v0] (λe O=> ∃q3,e= hQ (hX q3)/\
 SameC E O (t2) 1/\
 SameC E O (f1.add 2) 1/\
 SameC E O (e0.add 1) 1/\
 callE P dy #[hT i8 i3 j0] (λe e4=> ∃n1 h6 o2,e= hQ (hT n1 h6 o2)/\
 SameC O e4 (f1.add 2) 1/\
 SameC O e4 (e0.add 1) 1/\
 st16 e4 b1 {a0:=27,a1:=s1,a2:=u2,q7:=n1,n7:=h6,c7:=o2,a10:=q3} λr8=>
 ldB16 r8 b1 λx7=>
 R (hQ (x7.V)) r8) O) E)
 (∃U g2 e1,(Instr.typeAssert g aC lQ true).run P d1= .ok (.tuple #[kT U,hV g2]) e1/\
 br g2
 (tk e1 λy=>
 aA U λe2=>
 aA U λe9=>
 aA U λy3=>
 aA U λv5=>
 ∃t4,y.cell? (e2.add 1)=some (hX t4)/\
 ∃v2,y.cell? (e9.add 2)=some (hX v2)/\
 ∃r6,y.cell? (y3.add 3)=some (.int .u8 r6)/\
 ∃h3 i1 h7,y.cell? v5=some (hT h3 i1 h7)/\
 callE P mw #[.int .u8 r6] (λe I=> ∃q2,e= hQ (hX q2)/\
 SameC y I (v5) 1/\
 SameC y I (e9.add 2) 1/\
 SameC y I (e2.add 1) 1/\
 callE P dy #[hT h3 i1 h7] (λe d3=> ∃p1 m2 k0,e= hQ (hT p1 m2 k0)/\
 SameC I d3 (e9.add 2) 1/\
 SameC I d3 (e2.add 1) 1/\
 st16 d3 b1 {a0:=28,a1:=t4,a2:=v2,q7:=p1,n7:=m2,c7:=k0,a10:=q2} λs6=>
 ldB16 s6 b1 λx1=>
 R (hQ (x1.V)) s6) I) y)
 (∃c9 f3 e5,(Instr.typeAssert g aC md true).run P e1= .ok (.tuple #[kT c9,hV f3]) e5/\
 br f3
 (tk e5 λb7=>
 aA c9 λs9=>
 aA c9 λy1=>
 ∃s5,b7.cell? (s9.add 1)=some (hX s5)/\
 ∃u1,b7.cell? y1=some (hX u1)/\
 ∃m1 o3,∃h4 e6,(Instr.buildSlice cq 1 #[(0,(N16.V {a0:=20,a1:=u1}))]).run P b7= .ok (hT m1 o3 h4) e6/\
 SameC b7 e6 (s9.add 1) 1/\
 st16 e6 b1 {a0:=27,a1:=s5,q7:=m1,n7:=o3,c7:=h4,a14:=true} λq8=>
 ldB16 q8 b1 λx9=>
 R (hQ (x9.V)) q8)
 (∃f5 h1 b8,(Instr.typeAssert g aC m8 true).run P e5= .ok (.tuple #[kT f5,hV h1]) b8/\
 br h1
 (aA f5 λx5=>
 ∃s8,b8.cell? x5=some (hX s8)/\
 st16 b8 b1 {a0:=29,a1:=s8} λt6=>
 ldB16 t6 b1 λy5=>
 R (hQ (y5.V)) t6)
 (∃g1 f4 a6,(Instr.typeAssert g aC sr true).run P b8= .ok (.tuple #[kT g1,hV f4]) a6/\
 br f4
 (aA g1 λz3=>
 ∃v6,a6.cell? z3=some (hV v6)/\
 br v6
 (st16 a6 b1 {a0:=30,a3:=2} λr1=>
 ldB16 r1 b1 λz1=>
 R (hQ (z1.V)) r1)
 (st16 a6 b1 {a0:=30,a3:=1} λq4=>
 ldB16 q4 b1 λx4=>
 R (hQ (x4.V)) q4))
 (∃c8 f6 e3,(Instr.typeAssert g aC Am true).run P a6= .ok (.tuple #[kT c8,hV f6]) e3/\
 br f6
 (tk e3 λd0=>
 aA c8 λD2=>
 aA c8 λx8=>
 ∃u0,d0.cell? (D2.add 1)=some (hX u0)/\
 ∃q1,d0.cell? x8=some (hX q1)/\
 st16 d0 b1 {a0:=31,a1:=u0,a10:=q1} λv3=>
 ldB16 v3 b1 λD3=>
 R (hQ (D3.V)) v3)
 (st16 e3 b1 {} λt8=>
 ldB16 t8 b1 λx3=>
 R (hQ (x3.V)) t8))))))))))))))) H9
theorem dE.sound {R x0 w}(h:dE R x0 w):callE P ez #[x0] R w:=
 aG [(180203,.dr (rpN [0,3,6,12,15,18,10,22,26,27,32])),(720875,.dr (rpN [0,3,6,12,15,18,10,22,26,27,32])),(2883563,.dr (rpN [0,3,6,12,15,18,10,22,26,27,32])),(11534315,.dr (rpN [0,3,6,12,15,18,24,27,30,39,42,45,10,22,34,49,38,53,54,59])),(46137323,.dr (rpN [0,3,6,12,15,18,24,27,30,39,42,45,10,22,34,49,38,53,54,59])),(184549355,.dr (rpN [0,3,6,12,15,18,10,22,24,29,30,35])),(11811160043,.dr (rpN [0,3,6,12,15,18,10,22,24,29]))] Tryz.func72 Tryz.call72 h
def pg (R:EP)(g:Int)(w:World):Prop:=
 br (g==0)
 (R (hQ (hX (hP #[]))) w)
 (False)
theorem pg.sound {R x0 w}(h:pg R x0 w):callE P mw #[.int .u8 x0] R w:=
 aG [(29,.no)] Tryz.func45 Tryz.call45 h
namespace fO
def bl1 (R:EP)(Xa:OA->Nat->Nat->OA->Nat->Nat->Int->Int->WP)(b5:OA)(O b4:Nat)(a6:OA)(E c1:Nat)(b6 g:Int)(w:World):Prop:=
 br (decide (g<b6))
 (0<=g/\g<(E:Int)/\
 aA a6 λa1=>
 ∃(b9:Value),w.cell? (a1.add (Int.toNat g*1))=some b9/\
 callE P bR #[b9] (λe c3=>GQ e λc2=>
 ∃U a7,∃I b7,(Instr.buildSlice cq 1 #[(0,c2.V)]).run P c3= .ok (hT U a7 I) b7/\
 ∃b3 W,∃y b8,(Builtin.append_ #[cq,cq] cq #[hT b5 O b4,hT U a7 I]).run P b7= .ok (hT b3 W y) b8/\
 Xa b3 W y a6 E c1 b6 (i64.wrap (g+1)) b8) w)
 (R (hQ (hT b5 O b4)) w)
def l1 (R:EP)(U:OA)(O I:Nat)(g:OA)(y E:Nat)(W V:Int)(w:World):Prop:=
 ∀X:OA->Nat->Nat->OA->Nat->Nat->Int->Int->WP,(∀U O I g y E W V w,bl1 R X U O I g y E W V w->X U O I g y E W V w)->X U O I g y E W V w
end fO
def fO (R:EP)(y:OA)(g E:Nat)(w:World):Prop:=
 fO.l1 R none 0 0 y g E (g:Int) 0 w
theorem fO.sound {R x0q x0n x0c w}(h:fO R x0q x0n x0c w):callE P gW #[hT x0q x0n x0c] R w:=
 aG [(43,.lp [63,123,147,167] (fO.bl1 R) λXa=> [])] Tryz.func44 Tryz.call44 h
namespace fc
def bl1 (R:EP)(Xa:OA->Nat->Nat->OA->Nat->Nat->Int->Int->WP)(b5:OA)(O b4:Nat)(a6:OA)(E c1:Nat)(b6 g:Int)(w:World):Prop:=
 br (decide (g<b6))
 (0<=g/\g<(E:Int)/\
 aA a6 λa1=>
 ∃(b9:Value),w.cell? (a1.add (Int.toNat g*1))=some b9/\
 callE P ez #[b9] (λe c3=>GQ e λc2=>
 ∃U a7,∃I b7,(Instr.buildSlice cq 1 #[(0,c2.V)]).run P c3= .ok (hT U a7 I) b7/\
 ∃b3 W,∃y b8,(Builtin.append_ #[cq,cq] cq #[hT b5 O b4,hT U a7 I]).run P b7= .ok (hT b3 W y) b8/\
 Xa b3 W y a6 E c1 b6 (i64.wrap (g+1)) b8) w)
 (R (hQ (hT b5 O b4)) w)
def l1 (R:EP)(U:OA)(O I:Nat)(g:OA)(y E:Nat)(W V:Int)(w:World):Prop:=
 ∀X:OA->Nat->Nat->OA->Nat->Nat->Int->Int->WP,(∀U O I g y E W V w,bl1 R X U O I g y E W V w->X U O I g y E W V w)->X U O I g y E W V w
end fc
def fc (R:EP)(y:OA)(g E:Nat)(w:World):Prop:=
 fc.l1 R none 0 0 y g E (g:Int) 0 w
theorem fc.sound {R x0q x0n x0c w}(h:fc R x0q x0n x0c w):callE P dy #[hT x0q x0n x0c] R w:=
 aG [(43,.lp [63,123,147,167] (fc.bl1 R) λXa=> [])] Tryz.func50 Tryz.call50 h

theorem Cz {A:Nat->Addr}{v:N16}{K:N16->Prop}(h: ∀i u,v.C[i]? =some u->w.cell? (A i)=some u)(g:K v):ld16 w A K:=
 ⟨_,h 0 _ rfl,_,h 1 _ rfl,_,h 2 _ rfl,_,h 3 _ rfl,_,h 4 _ rfl,_,h 5 _ rfl,_,_,_,h 6 _ rfl,_,_,_,h 7 _ rfl,_,h 8 _ rfl,_,h 9 _ rfl,_,h 10 _ rfl,_,h 11 _ rfl,_,h 12 _ rfl,_,h 13 _ rfl,_,h 14 _ rfl,_,_,_,h 15 _ rfl,g⟩
theorem CA {A:Nat->Addr}{v:N10}{K:N10->Prop}(h: ∀i u,v.C[i]? =some u->w.cell? (A i)=some u)(g:K v):ld10 w A K:=
 ⟨_,h 0 _ rfl,_,h 1 _ rfl,_,h 2 _ rfl,_,h 3 _ rfl,_,h 4 _ rfl,_,h 5 _ rfl,_,_,_,h 6 _ rfl,_,_,_,h 7 _ rfl,_,h 8 _ rfl,_,h 9 _ rfl,g⟩
theorem Sat.ldB16 (h:Sat σ w L){b:Nat}{e:TypeId}(v:N16){K:N16->Prop}(g:(b,cel v.C.toList e)∈L)(y:K v):ldB16 w b K:=
 Cz (λi u E=>h.ld g (by rw[lQ2];exact E)) y
theorem Sat.ldB10 (h:Sat σ w L){b:Nat}{e:TypeId}(v:N10){K:N10->Prop}(g:(b,cel v.C.toList e)∈L)(y:K v):ldB10 w b K:=
 CA (λi u E=>h.ld g (by rw[lQ2];exact E)) y
theorem yz {pre mid suf:List Value}{i o:Nat}{u:Value}(y:pre.length=o)(g:mid[i]? =some u):(pre++(mid++suf))[o+i]? =some u:=by
 have hi:=(lL0.1 g).1
 rw[lH0 (by omega),show o+i - pre.length=i by omega,lM0 hi]
 exact g
theorem Sat.ldA16 (h:Sat σ w L){b o:Nat}{pre suf:List Value}{e:TypeId}(v:N16){K:N16->Prop}(g:(b,cel (pre++(v.C.toList++suf)) e)∈L)(I:pre.length=o)(y:K v):ldA16 w (hZ b o) K:=
 Cz (λi u E=>by rw[lK0];exact h.ld g (yz I (by rw[lQ2];exact E))) y
theorem Sat.ldA10 (h:Sat σ w L){b o:Nat}{pre suf:List Value}{e:TypeId}(v:N10){K:N10->Prop}(g:(b,cel (pre++(v.C.toList++suf)) e)∈L)(I:pre.length=o)(y:K v):ldA10 w (hZ b o) K:=
 CA (λi u E=>by rw[lK0];exact h.ld g (yz I (by rw[lQ2];exact E))) y
def stAll:List Value->Nat->Nat->World->(World->Prop)->Prop
 | [],b,i,w,K=>K w
 |v::vs,b,i,w,K=>stV w (hZ b i) v λw=>stAll vs b (i+1) w K
theorem zF {g:Type}{l:List g}{k:Nat}{a:g}(h:l[k]? =some a):l.set k a=l:=by
 refine List.ext_getElem? λi=>?_
 rw[lM5]
 split
 ·subst_vars
  rw[if_pos (lL0.1 h).1,h]
 ·rfl
theorem Sat.stAll {k b:Nat}{e:TypeId}{K:World->Prop}(y:k<L.length): ∀(vs old pre:List Value) (w:World),Sat σ w (L.set k (b,cel (pre++old) e))->old.length=vs.length->(∀v∈vs,nU v)->(∀g,Sat σ g (L.set k (b,cel (pre++vs) e))->K g)->stAll vs b pre.length w K
 | [],old,pre,w,h,hl,h1,hK=>by
  obtain rfl:old= []:=lB1 (by simpa using hl)
  exact hK w h
 |v::vs,o::old,pre,w,h,hl,h1,hK=>by
  refine h.st (k:=k) (L':=L.set k (b,cel ((pre++ [v])++old) e)) (List.getElem?_set_self y) (by simp) (h1 v (by simp)) ?_ λw h=>?_
  ·rw[List.set_set,lP1 _ _ (lA1 _),lW1]
   simp
  ·have:=Sat.stAll y vs old (pre++ [v]) w h (by simpa using hl) (λu E=>h1 u (by simp[E])) (λg I=>hK g (by simpa using I))
   rw[lA0] at this
   exact this
theorem Sat.st16 (h:Sat σ w L)(k:Nat){b:Nat}{e:TypeId}(u v:N16){K:World->Prop}(O: ∀g,Sat σ g L'->K g)(y:L[k]? =some (b,cel u.C.toList e):=by exact rfl)(I:L.set k (b,cel v.C.toList e)=L':=by first|(dsimp only[List.set];exact rfl)|exact rfl):st16 w b v K:=by
 have hs:Sat σ w (L.set k (b,cel ([]++u.C.toList) e)):=by rw[lT0,zF y];exact h
 refine Sat.stAll (lL0.1 y).1 v.C.toList u.C.toList [] w hs rfl ?_ (λg U=>O g (by rw[<-I];exact U))
 intro x E
 simp only[N16.C,lW0,lF1,or_false] at E
 rcases E with rfl|rfl|rfl|rfl|rfl|rfl|rfl|rfl|rfl|rfl|rfl|rfl|rfl|rfl|rfl|rfl<;>trivial
theorem Sat.st10 (h:Sat σ w L)(k:Nat){b:Nat}{e:TypeId}(u v:N10){K:World->Prop}(O: ∀g,Sat σ g L'->K g)(y:L[k]? =some (b,cel u.C.toList e):=by exact rfl)(I:L.set k (b,cel v.C.toList e)=L':=by first|(dsimp only[List.set];exact rfl)|exact rfl):st10 w b v K:=by
 have hs:Sat σ w (L.set k (b,cel ([]++u.C.toList) e)):=by rw[lT0,zF y];exact h
 refine Sat.stAll (lL0.1 y).1 v.C.toList u.C.toList [] w hs rfl ?_ (λg U=>O g (by rw[<-I];exact U))
 intro x E
 simp only[N10.C,lW0,lF1,or_false] at E
 rcases E with rfl|rfl|rfl|rfl|rfl|rfl|rfl|rfl|rfl|rfl<;>trivial
theorem yy {v:N16}{K:N16->Prop}(g:K v):GQ (hQ v.V) K:=⟨_,_,_,_,_,_,_,_,_,_,_,_,_,_,_,_,_,_,_,_,_,_,rfl,g⟩
theorem vh {v:N10}{K:N10->Prop}(g:K v):Ha (hQ v.V) K:=⟨_,_,_,_,_,_,_,_,_,_,_,_,_,_,rfl,g⟩

structure IH where
 kind:Nat
 text:List UInt8:= []
 title:List UInt8:= []
 num:Int:=0
 char:List UInt8:= []
 loose:Bool:=false
 s:Nat:=0
 e:Nat:=0
 mark:List UInt8:= []
 width:Nat:=0
 tight:Bool:=false
 escaped:Bool:=false
 auto:Bool:=false
inductive IN where
 |mk (h:IH) (kids:List IN)
def IN.h:IN->IH
 | .mk h _=>h
def IN.kids:IN->List IN
 | .mk _ ks=>ks
structure NH where
 kind:Nat
 text:List UInt8:= []
 title:List UInt8:= []
 num:Int:=0
 char:List UInt8:= []
 loose:Bool:=false
 s:Nat:=0
 e:Nat:=0
inductive ND where
 |mk (h:NH) (kids:List ND)
def ND.h:ND->NH
 | .mk h _=>h
def ND.kids:ND->List ND
 | .mk _ ks=>ks
abbrev IH.nd (h:IH)(q:OA)(n c:Nat):N16:=⟨h.kind,bs h.text,bs h.title,h.num,bs h.char,h.loose,none,0,0,q,n,c,h.s,h.e,bs h.mark,h.width,h.tight,h.escaped,h.auto,none,0,0⟩
abbrev NH.nd (h:NH)(qa:OA)(ca:Nat)(q:OA)(n c:Nat):N10:=⟨h.kind,bs h.text,bs h.title,h.num,bs h.char,h.loose,qa,0,ca,q,n,c,h.s,h.e⟩
abbrev IH.cells (h:IH)(q:OA)(n c:Nat):List Value:=(h.nd q n c).C.toList
abbrev NH.cells (h:NH)(qa:OA)(ca:Nat)(q:OA)(n c:Nat):List Value:=(h.nd qa ca q n c).C.toList
def IH.ok (h:IH):Prop:=h.text.length<1073741824/\h.title.length<1073741824/\h.char.length<1073741824/\h.mark.length<1073741824
inductive INs:List IN->List Value->List ai->Prop where
 |nil:INs [] [] []
 |cons {h:IH} {ks xs:List IN} {q:OA} {n c:Nat} {vs us:List Value} {RM KM XM:List ai}:h.ok->n<1073741824->INs ks vs KM->Sl 16 aj q n c vs RM->INs xs us XM->INs (.mk h ks::xs) (h.cells q n c++us) ((RM++KM)++XM)
inductive NDs:List ND->List Value->List ai->Prop where
 |nil:NDs [] [] []
 |cons {h:NH} {ks xs:List ND} {qa:OA} {ca:Nat} {q:OA} {n c:Nat} {vs us:List Value} {RM KM XM:List ai}:n<1073741824->NDs ks vs KM->Sl 10 ae q n c vs RM->NDs xs us XM->NDs (.mk h ks::xs) (h.cells qa ca q n c++us) ((RM++KM)++XM)
theorem NDs.len {xs:List ND}{vs:List Value}{M:List ai}(h:NDs xs vs M):vs.length=xs.length*10:=by
 induction h with
 |nil=>rfl
 |cons _ _ _ _ _ g=>rw[lA0,g,lF0,lU3,lG4];rfl
theorem INs.append {xs g:List IN}{vs us:List Value}{M N:List ai}(h:INs xs vs M)(y:INs g us N):INs (xs++g) (vs++us) (M++N):=by
 induction h with
 |nil=>exact y
 |cons a1 a2 a3 a4 _ _ E=>
  rw[lD0,lD0]
  exact .cons a1 a2 a3 a4 E
theorem NDs.append {xs g:List ND}{vs us:List Value}{M N:List ai}(h:NDs xs vs M)(y:NDs g us N):NDs (xs++g) (vs++us) (M++N):=by
 induction h with
 |nil=>exact y
 |cons a1 a2 a3 _ _ E=>
  rw[lD0,lD0]
  exact .cons a1 a2 a3 E
def gu:List ND->ND->List ND
 | [],x=> [x]
 | [.mk h ks],x=>if x.h.kind=20/\h.kind=20 then [.mk {h with text:=h.text++x.h.text} ks] else [.mk h ks,x]
 |a::b::l,x=>a::gu (b::l) x
def qT (h:IH):NH:= {kind:=h.kind,text:=if h.kind=6\/h.kind=5\/h.kind=12 then [] else h.text,title:=h.title,num:=h.num,char:=h.char,loose:=h.loose}
mutual
def iv:IN->ND
 | .mk h ks=> .mk (qT h) (fe [] ks)
def fe:List ND->List IN->List ND
 |acc,[]=>acc
 |acc,k::ks=>fe (if k.h.kind=13 then acc else gu acc (iv k)) ks
end
def lO (h:NH):NH:= {h with text:=if h.kind=6\/h.kind=5\/h.kind=12 then [] else h.text,s:=0,e:=0}
mutual
def fT:ND->ND
 | .mk h ks=> .mk (lO h) (ff [] ks)
def ff:List ND->List ND->List ND
 |acc,[]=>acc
 |acc,k::ks=>ff (gu acc (fT k)) ks
end

noncomputable def rowIN:Row P cq aj 16 192:=
 ⟨(P.info? aj).getD default,((P.info? aj).bind (·.zero)).getD default,by kernel_rfl,by kernel_rfl,by kernel_rfl,by kernel_rfl,by kernel_rfl,by kernel_rfl,by decide⟩
theorem Hw (v:N16):Instr.fill (λi=>some (i*16,16)) ((Array.range (1*16)).map (rowIN.z.cells[· %rowIN.z.cells.size]!)) [(0,v.V)]=some v.C:=by kernel_rfl
theorem one16 (v:N16): ∀u∈v.V.cells.toList,u.oneCell'=true:=by
 intro x g
 simp only[N16.V,Value.cells,N16.C,lW0,lF1,or_false] at g
 rcases g with rfl|rfl|rfl|rfl|rfl|rfl|rfl|rfl|rfl|rfl|rfl|rfl|rfl|rfl|rfl|rfl<;>rfl
def NodeAt (x:IN)(v:N16)(M:List ai):Prop:= ∃h g q n c vs RM KM,x= .mk h g/\v=h.nd q n c/\M=RM++KM/\h.ok/\n<1073741824/\INs g vs KM/\Sl 16 aj q n c vs RM
theorem NodeAt.cons {x:IN}{xs:List IN}{v:N16}{us:List Value}{M g:List ai}(h:NodeAt x v M)(y:INs xs us g):INs (x::xs) (v.C.toList++us) (M++g):=by
 obtain⟨h0,E,q,n,c,vs,RM,KM,rfl,rfl,rfl,a,b,d,e⟩:=h
 exact .cons a b d e y
theorem NodeAt.leaf {h:IH}(a:h.ok):NodeAt (.mk h []) (h.nd none 0 0) []:=⟨h,[],none,0,0,[],[],[],rfl,rfl,rfl,a,by decide,.nil,Sl.nil 16 aj⟩
def qW (f:FuncId)(x:IN)(v:Value)(T:List ai):Prop:=
 ∀(σ:Out) (R:Ending->World->Prop) (L:List ai) (w:World),Sat σ w (T++L)->(∀w u M,NodeAt x u M->Sat σ w (M++(T++L))->R (hQ u.V) w)->callE P f #[v] R w
inductive j6 (f:FuncId):List IN->List Value->List ai->Prop where
 |nil:j6 f [] [] []
 |cons {x:IN} {v:Value} {T:List ai} {xs:List IN} {vs:List Value} {K:List ai}:qW f x v T->j6 f xs vs K->j6 f (x::xs) (v::vs) (T++K)
theorem wO {f:FuncId}{X:OA->Nat->Nat->OA->Nat->Nat->Int->Int->WP}{q:OA}{n c:Nat}{e:TypeId}{xs:List IN}{vs:List Value}{RM KM:List ai}(d2:Sl 1 e q n c vs RM)(e1: ∀E b6 W (j:Int) w,br (decide (j<(n:Int))) (0<=j/\j<(n:Int)/\aA q λa=> ∃(v:Value),w.cell? (a.add (Int.toNat j*1))=some v/\
  callE P f #[v] (λe e9=>GQ e λe7=> ∃(c5:OA),∃(c9:Nat),∃(c4:Nat),∃e0,(Instr.buildSlice cq 1 #[(0,e7.V)]).run P e9= .ok (hT c5 c9 c4) e0/\
   ∃(d1:OA),∃(c8:Nat),∃(c2:Nat),∃e2,(Builtin.append_ #[cq,cq] cq #[hT E b6 W,hT c5 c9 c4]).run P e0= .ok (hT d1 c8 c2) e2/\X d1 c8 c2 q n c (n:Int) (i64.wrap (j+1)) e2) w)
  (R (hQ (hT E b6 W)) w)->X E b6 W q n c (n:Int) j w)(b9:j6 f xs vs KM)(h:Sat σ w (RM++(KM++L)))(f1:n<1073741824)(a7: ∀w O I U us g NM,I<1073741824->INs xs us NM->Sl 16 aj O I U us g->Sat σ w (g++NM++(RM++(KM++L)))->R (hQ (hT O I U)) w):X none 0 0 q n c (n:Int) 0 w:=by
 have b3:=d2.1
 have e4: ∀(b5:List IN) (b4:List Value) (KM:List ai),j6 f b5 b4 KM-> ∀(y:List IN) (a6:List Value) (D:List ai) E W us g NM w,a6++b4=vs->a6.length=y.length->INs y us NM->Sl 16 aj E y.length W us g->Sat σ w (g++NM++(RM++(D++(KM++L))))->
  (∀w O I U us g NM,I<1073741824->INs (y++b5) us NM->Sl 16 aj O I U us g->Sat σ w (g++NM++(RM++(D++(KM++L))))->R (hQ (hT O I U)) w)->X E y.length W q n c (n:Int) (a6.length:Nat) w:=by
  intro b5 b4 KM b9
  induction b9 with
  |nil=>
   intro y a6 D E W us g NM w hv d3 b8 c1 h a7
   refine e1 _ _ _ _ _ (af ?_ ?_)
   ·rw[<-hv] at b3
    simp at b3
    simp;omega
   ·have:y.length<1073741824:=by rw[<-hv] at b3;simp at b3;omega
    rw[lG0] at a7
    exact a7 w E y.length W us g NM this b8 c1 h
  | @cons x v T b5 b4 K h1 h2 ih=>
   intro y a6 D E W us g NM w hv d3 b8 c1 h a7
   have f0:a6.length<n:=by rw[<-hv] at b3;simp at b3;omega
   refine e1 _ _ _ _ _ (ag (by simp;omega) ⟨by omega,by omega,?_⟩)
   have d0:vs[a6.length]? =some v:=by rw[<-hv];simp
   have e3:=d2
   obtain⟨_,_,⟨rfl,h0,_,_⟩|⟨b7,sp,rfl,rfl,_⟩⟩:=e3
   ·omega
   refine aa ?_
   simp only[lK0,lC0,lC1,lO0]
   refine⟨v,Sat.ld h (lB0 _ (.head _)) ?_,?_⟩
   ·rw[lM0 (lL0.1 d0).1];exact d0
   have h:Sat σ w (T++(g++NM++([(b7,cel (vs++sp) e)]++(D++(K++L))))):=h.re
   refine h1 σ _ _ w h λw u M e8 h=>yy ?_
   have h:Sat σ w (g++(M++(T++(NM++([(b7,cel (vs++sp) e)]++(D++(K++L))))))):=h.re
   refine Sat.app1 rowIN c1 h (v:=u.V) rfl (one16 u) (Hw u) (by omega) (by omega) (by decide) λO U w c3 e6 h=>?_
   rw[aN (by omega)]
   have e5:INs (y++ [x]) (us++u.V.cells.toList) (NM++M):=by
    have:=b8.append (e8.cons .nil)
    rw[lG0,lG0] at this
    exact this
   have h:Sat σ w (c3++(NM++M)++([(b7,cel (vs++sp) e)]++((D++T)++(K++L)))):=h.re
   have:=ih (y++ [x]) (a6++ [v]) (D++T) O U _ c3 (NM++M) w (by simpa using hv) (by simp[d3]) e5 (by rw[lA0];exact e6) h (λw O I U us g NM a b d h=>a7 w O I U us g NM a (by simpa using b) d (h.re))
   simpa using this
 exact e4 xs vs KM b9 [] [] [] none 0 [] [] [] w rfl rfl .nil (Sl.nil 16 aj) h a7
theorem jw {q:OA}{n c:Nat}{e:TypeId}{xs:List IN}{vs:List Value}{RM KM:List ai}(U:Sl 1 e q n c vs RM)(V:j6 ez xs vs KM)(h:Sat σ w (RM++(KM++L)))(a7:n<1073741824)(W: ∀w y g E us I NM,g<1073741824->INs xs us NM->Sl 16 aj y g E us I->Sat σ w (I++NM++(RM++(KM++L)))->R (hQ (hT y g E)) w):callE P dy #[hT q n c] R w:=by
 refine fc.sound ?_
 intro X O
 exact wO (f:=ez) U (λb3 b5 b4 j w a6=>O _ _ _ _ _ _ _ _ _ a6) V h a7 W
theorem n5 {q:OA}{n c:Nat}{e:TypeId}{xs:List IN}{vs:List Value}{RM KM:List ai}(U:Sl 1 e q n c vs RM)(V:j6 bR xs vs KM)(h:Sat σ w (RM++(KM++L)))(a7:n<1073741824)(W: ∀w y g E us I NM,g<1073741824->INs xs us NM->Sl 16 aj y g E us I->Sat σ w (I++NM++(RM++(KM++L)))->R (hQ (hT y g E)) w):callE P gW #[hT q n c] R w:=by
 refine fO.sound ?_
 intro X O
 exact wO (f:=bR) U (λb3 b5 b4 j w a6=>O _ _ _ _ _ _ _ _ _ a6) V h a7 W
def zP (P:Program)(a:TypeId):Bool:=
 match P.underlying a,P.info? a with
 |some (.pointer _),some i=>match i.zero with
  |some (.pointer none)=>true
  |_=>false
 |_,_=>false
theorem xi {a:TypeId}(h:zP P a=true): ∃e i,P.underlying a=some (.pointer e)/\P.info? a=some i/\i.zero=some (kT none):=by
 unfold zP at h
 split at h
 ·rename_i e i E y
  split at h
  ·rename_i g
   exact⟨e,i,E,y,g⟩
  ·exact absurd h (by decide)
 ·exact absurd h (by decide)
theorem cl {t a xt:TypeId}{v:Value}(O:zP P a=true)(y:t≠a)(w:World):(Instr.typeAssert (.iface t v) xt a true).run P w= .ok (.tuple #[kT none,hV false]) w:=by
 obtain⟨e,i,g,I,E⟩:=xi O
 exact u5 (by rw[g];intro U h;cases h) g y I E w
theorem iH {a xt:TypeId}{v:Value}(y:zP P a=true)(w:World):(Instr.typeAssert (.iface a v) xt a true).run P w= .ok (.tuple #[v,hV true]) w:=by
 obtain⟨e,i,g,I,E⟩:=xi y
 exact oL (by rw[g];intro O h;cases h) g w
def tcT (c:UInt8):List UInt8:=if c=0 then [] else [c]
mutual
def Bo:Inl->IN
 | .plain s=> .mk {kind:=20,text:=s} []
 | .openP s _=> .mk {kind:=20,text:=s} []
 | .emphP s _ _ _ _=> .mk {kind:=20,text:=s} []
 | .esc s=> .mk {kind:=20,text:=s,escaped:=true} []
 | .code s=> .mk {kind:=23,text:=s} []
 | .strong m ks=> .mk {kind:=25,mark:=m} (eC ks)
 | .del m ks=> .mk {kind:=26,mark:=m} (eC ks)
 | .emph m ks=> .mk {kind:=24,mark:=m} (eC ks)
 | .link ks u t tc _=> .mk {kind:=27,text:=u,title:=t,mark:=tcT tc} (eC ks)
 | .image ks u t tc _=> .mk {kind:=28,text:=u,title:=t,mark:=tcT tc} (eC ks)
 | .auto t u=> .mk {kind:=27,text:=u,auto:=true} [.mk {kind:=20,text:=t} []]
 | .tag s=> .mk {kind:=29,text:=s} []
 | .hard=> .mk {kind:=22} []
 | .soft=> .mk {kind:=21} []
 | .task b=> .mk {kind:=30,num:=if b then 2 else 1} []
def eC:List Inl->List IN
 | []=> []
 |t::ts=>Bo t::eC ts
end
mutual
def su:Inl->Prop
 | .plain s=>s.length<1073741824
 | .openP s _=>s.length<1073741824
 | .emphP s _ _ _ _=>s.length<1073741824
 | .esc s=>s.length<1073741824
 | .code s=>s.length<1073741824
 | .strong m ks=>m.length<1073741824/\ks.length<1073741824/\mf ks
 | .emph m ks=>m.length<1073741824/\ks.length<1073741824/\mf ks
 | .link ks u t tc _=>u.length<1073741824/\t.length<1073741824/\tc=0/\ks.length<1073741824/\mf ks
 | .soft=>True
 |_=>False
def mf:List Inl->Prop
 | []=>True
 |t::ts=>su t/\mf ts
end

theorem bY:([]:List UInt8).length<1073741824:=by decide
theorem kb {u v:N16}{x:IN}{b1:Nat}{NM K:List ai}(y:NodeAt x v NM)(h:Sat σ w ((b1,cel u.C.toList aj)::(NM++K)))(E: ∀w u M,NodeAt x u M->Sat σ w (M++K)->R (hQ u.V) w):
 st16 w b1 v λg=>ldB16 g b1 λm=>R (hQ m.V) g:=
 h.st16 0 u v λw h=>h.ldB16 v (.head _) (E w v NM y h.tail)
theorem Ep (g:R (hQ (hX (bs []))) w):callE P mw #[.int .u8 0] R w:=by
 refine pg.sound ?_
 exact ag rfl g
mutual
theorem xk: ∀ {t:Inl} {v:Value} {M:List ai},su t->InlAt t v M->qW ez (Bo t) v M
 | .plain s,v,M,ht,hI=>by
  intro σ R L w h hR
  refine dE.sound ?_
  refine Sat.bx h λb1 w h=>?_
  have h:Sat σ w ((b1,cel (N16.C {}).toList aj)::(M++L)):=h
  refine gN.sound ?_
  refine jt hI rfl λb cs e hM=>⟨_,rfl,_,rfl,_,_,dQ eQ _ w,ag rfl (aa ⟨_,Sat.ld h (.tail _ (by rw[hM];exact .head _)) rfl,?_⟩)⟩
  exact kb (NodeAt.leaf (h:= {kind:=20,text:=s}) ⟨ht,bY,bY,bY⟩) h hR
 | .openP s i,v,M,ht,hI=>by
  intro σ R L w h hR
  refine dE.sound ?_
  refine Sat.bx h λb1 w h=>?_
  have h:Sat σ w ((b1,cel (N16.C {}).toList aj)::(M++L)):=h
  refine gN.sound ?_
  refine jt hI rfl λb cs e hM=>⟨_,rfl,_,rfl,_,_,dQ eQ _ w,ag rfl (aa ⟨_,Sat.ld h (.tail _ (by rw[hM];exact .head _)) rfl,?_⟩)⟩
  exact kb (NodeAt.leaf (h:= {kind:=20,text:=s}) ⟨ht,bY,bY,bY⟩) h hR
 | .emphP s co cc i n,v,M,ht,hI=>by
  intro σ R L w h hR
  refine dE.sound ?_
  refine Sat.bx h λb1 w h=>?_
  have h:Sat σ w ((b1,cel (N16.C {}).toList aj)::(M++L)):=h
  refine gN.sound ?_
  refine jt hI rfl λb cs e hM=>⟨_,rfl,_,rfl,_,_,dQ eQ _ w,ag rfl (aa ⟨_,Sat.ld h (.tail _ (by rw[hM];exact .head _)) rfl,?_⟩)⟩
  exact kb (NodeAt.leaf (h:= {kind:=20,text:=s}) ⟨ht,bY,bY,bY⟩) h hR
 | .esc s,v,M,ht,hI=>by
  intro σ R L w h hR
  refine dE.sound ?_
  refine Sat.bx h λb1 w h=>?_
  have h:Sat σ w ((b1,cel (N16.C {}).toList aj)::(M++L)):=h
  refine gN.sound ?_
  refine ju hI rfl ⟨_,rfl,_,rfl,_,_,dQ eQ _ w,af rfl ?_⟩
  obtain⟨b,e,rfl,rfl⟩:=hI
  refine⟨_,_,_,iH (by kernel_rfl) w,ag rfl ?_⟩
  refine aa ⟨_,Sat.ld h (.tail _ (.head _)) rfl,?_⟩
  exact kb (NodeAt.leaf (h:= {kind:=20,text:=s,escaped:=true}) ⟨ht,bY,bY,bY⟩) h hR
 | .soft,v,M,ht,hI=>by
  intro σ R L w h hR
  refine dE.sound ?_
  refine Sat.bx h λb1 w h=>?_
  have h:Sat σ w ((b1,cel (N16.C {}).toList aj)::(M++L)):=h
  refine gN.sound ?_
  refine ju hI rfl ⟨_,rfl,_,rfl,_,_,dQ eQ _ w,af rfl ?_⟩
  obtain⟨b,e,rfl,rfl⟩:=hI
  refine⟨_,_,_,cl (by kernel_rfl) (by decide) w,af rfl ?_⟩
  refine⟨_,_,_,iH (by kernel_rfl) w,ag rfl ?_⟩
  exact kb (NodeAt.leaf (h:= {kind:=21}) ⟨bY,bY,bY,bY⟩) h hR
 | .code s,v,M,ht,hI=>by
  intro σ R L w h hR
  refine dE.sound ?_
  refine Sat.bx h λb1 w h=>?_
  have h:Sat σ w ((b1,cel (N16.C {}).toList aj)::(M++L)):=h
  refine gN.sound ?_
  refine ju hI rfl ⟨_,rfl,_,rfl,_,_,dQ eQ _ w,af rfl ?_⟩
  obtain⟨b,e,rfl,rfl⟩:=hI
  refine⟨_,_,_,cl (by kernel_rfl) (by decide) w,af rfl ?_⟩
  refine⟨_,_,_,cl (by kernel_rfl) (by decide) w,af rfl ?_⟩
  refine⟨_,_,_,cl (by kernel_rfl) (by decide) w,af rfl ?_⟩
  refine⟨_,_,_,iH (by kernel_rfl) w,ag rfl ?_⟩
  refine aa ⟨_,Sat.ld h (.tail _ (.head _)) rfl,?_⟩
  exact kb (NodeAt.leaf (h:= {kind:=23,text:=s}) ⟨ht,bY,bY,bY⟩) h hR
 | .emph m ks,v,M,ht,hI=>by
  intro σ R L w h hR
  refine dE.sound ?_
  refine Sat.bx h λb1 w h=>?_
  have h:Sat σ w ((b1,cel (N16.C {}).toList aj)::(M++L)):=h
  refine gN.sound ?_
  refine ju hI rfl ⟨_,rfl,_,rfl,_,_,dQ eQ _ w,af rfl ?_⟩
  obtain⟨b,e,q,n,c,vs,RM,KM,rfl,rfl,hS,hK⟩:=hI
  have hg:=eS ht.2.2 hK
  have hn:n<1073741824:=by have h1:=hK.length;have h2:=hS.1;have h3:=ht.2.1;omega
  refine⟨_,_,_,cl (by kernel_rfl) (by decide) w,af rfl ?_⟩
  refine⟨_,_,_,cl (by kernel_rfl) (by decide) w,af rfl ?_⟩
  refine⟨_,_,_,cl (by kernel_rfl) (by decide) w,af rfl ?_⟩
  refine⟨_,_,_,cl (by kernel_rfl) (by decide) w,af rfl ?_⟩
  refine⟨_,_,_,iH (by kernel_rfl) w,ag rfl ?_⟩
  refine h.tk λw h=>aa (aa ⟨_,Sat.ld h (.tail _ (.head _)) rfl,?_⟩)
  refine⟨_,_,_,h.ldA,?_⟩
  have h:Sat σ w (RM++(KM++((b,cel [hX (bs m),hT q n c] e)::(b1,cel (N16.C {}).toList aj)::L))):=h.re
  have h0:=h
  refine jw hS hg h hn λw q' n' c' us OM NM hn' hIN hO h=>⟨_,_,_,rfl,?_,?_⟩
  ·exact h0.same h (lB0 _ (lB0 _ (.head _))) (lB0 _ (lB0 _ (lB0 _ (.head _)))) 1
  ·exact kb (u:= {}) (NM:=OM++NM) ⟨{kind:=24,mark:=m},eC ks,q',n',c',us,OM,NM,rfl,rfl,rfl,⟨bY,bY,bY,ht.1⟩,hn',hIN,hO⟩ (h.re:Sat σ w ((b1,cel (N16.C {}).toList aj)::((OM++NM)++((b,cel [hX (bs m),hT q n c] e)::(RM++KM)++L)))) hR
 | .strong m ks,v,M,ht,hI=>by
  intro σ R L w h hR
  refine dE.sound ?_
  refine Sat.bx h λb1 w h=>?_
  have h:Sat σ w ((b1,cel (N16.C {}).toList aj)::(M++L)):=h
  refine gN.sound ?_
  refine ju hI rfl ⟨_,rfl,_,rfl,_,_,dQ eQ _ w,af rfl ?_⟩
  obtain⟨b,e,q,n,c,vs,RM,KM,rfl,rfl,hS,hK⟩:=hI
  have hg:=eS ht.2.2 hK
  have hn:n<1073741824:=by have h1:=hK.length;have h2:=hS.1;have h3:=ht.2.1;omega
  refine⟨_,_,_,cl (by kernel_rfl) (by decide) w,af rfl ?_⟩
  refine⟨_,_,_,cl (by kernel_rfl) (by decide) w,af rfl ?_⟩
  refine⟨_,_,_,cl (by kernel_rfl) (by decide) w,af rfl ?_⟩
  refine⟨_,_,_,cl (by kernel_rfl) (by decide) w,af rfl ?_⟩
  refine⟨_,_,_,cl (by kernel_rfl) (by decide) w,af rfl ?_⟩
  refine⟨_,_,_,iH (by kernel_rfl) w,ag rfl ?_⟩
  refine h.tk λw h=>aa (aa ⟨_,Sat.ld h (.tail _ (.head _)) rfl,?_⟩)
  refine⟨_,_,_,h.ldA,?_⟩
  have h:Sat σ w (RM++(KM++((b,cel [hX (bs m),hT q n c] e)::(b1,cel (N16.C {}).toList aj)::L))):=h.re
  have h0:=h
  refine jw hS hg h hn λw q' n' c' us OM NM hn' hIN hO h=>⟨_,_,_,rfl,?_,?_⟩
  ·exact h0.same h (lB0 _ (lB0 _ (.head _))) (lB0 _ (lB0 _ (lB0 _ (.head _)))) 1
  ·exact kb (u:= {}) (NM:=OM++NM) ⟨{kind:=25,mark:=m},eC ks,q',n',c',us,OM,NM,rfl,rfl,rfl,⟨bY,bY,bY,ht.1⟩,hn',hIN,hO⟩ (h.re:Sat σ w ((b1,cel (N16.C {}).toList aj)::((OM++NM)++((b,cel [hX (bs m),hT q n c] e)::(RM++KM)++L)))) hR
 | .link ks ur ti tc k,v,M,ht,hI=>by
  intro σ R L w h hR
  refine dE.sound ?_
  refine Sat.bx h λb1 w h=>?_
  have h:Sat σ w ((b1,cel (N16.C {}).toList aj)::(M++L)):=h
  refine gN.sound ?_
  refine ju hI rfl ⟨_,rfl,_,rfl,_,_,dQ eQ _ w,af rfl ?_⟩
  obtain⟨b,e,q,n,c,vs,RM,KM,rfl,rfl,hS,hK⟩:=hI
  obtain⟨hu,hti,htc,hkl,hkt⟩:=ht
  subst htc
  have hg:=eS hkt hK
  have hn:n<1073741824:=by have h1:=hK.length;have h2:=hS.1;omega
  refine⟨_,_,_,cl (by kernel_rfl) (by decide) w,af rfl ?_⟩
  refine⟨_,_,_,cl (by kernel_rfl) (by decide) w,af rfl ?_⟩
  refine⟨_,_,_,cl (by kernel_rfl) (by decide) w,af rfl ?_⟩
  refine⟨_,_,_,cl (by kernel_rfl) (by decide) w,af rfl ?_⟩
  refine⟨_,_,_,cl (by kernel_rfl) (by decide) w,af rfl ?_⟩
  refine⟨_,_,_,cl (by kernel_rfl) (by decide) w,af rfl ?_⟩
  refine⟨_,_,_,cl (by kernel_rfl) (by decide) w,af rfl ?_⟩
  refine⟨_,_,_,iH (by kernel_rfl) w,ag rfl ?_⟩
  refine h.tk λw h=>aa (aa (aa (aa ⟨_,Sat.ld h (.tail _ (.head _)) rfl,_,Sat.ld h (.tail _ (.head _)) rfl,_,Sat.ld h (.tail _ (.head _)) rfl,_,_,_,Sat.ld h (.tail _ (.head _)) rfl,?_⟩)))
  refine Ep ⟨_,rfl,λ_ _=>rfl,λ_ _=>rfl,λ_ _=>rfl,?_⟩
  have h:Sat σ w (RM++(KM++((b,cel [hT q n c,hX (bs ur),hX (bs ti),.int .u8 (0:UInt8).toNat,hV k] e)::(b1,cel (N16.C {}).toList aj)::L))):=h.re
  have h0:=h
  refine jw hS hg h hn λw q' n' c' us OM NM hn' hIN hO h=>⟨_,_,_,rfl,?_,?_,?_⟩
  ·exact h0.same h (lB0 _ (lB0 _ (.head _))) (lB0 _ (lB0 _ (lB0 _ (.head _)))) 1
  ·exact h0.same h (lB0 _ (lB0 _ (.head _))) (lB0 _ (lB0 _ (lB0 _ (.head _)))) 1
  ·exact kb (u:= {}) (NM:=OM++NM) ⟨{kind:=27,text:=ur,title:=ti,mark:=tcT 0},eC ks,q',n',c',us,OM,NM,rfl,rfl,rfl,⟨hu,hti,bY,bY⟩,hn',hIN,hO⟩ (h.re:Sat σ w ((b1,cel (N16.C {}).toList aj)::((OM++NM)++((b,cel [hT q n c,hX (bs ur),hX (bs ti),.int .u8 (0:UInt8).toNat,hV k] e)::(RM++KM)++L)))) hR
 | .del _ _,v,M,ht,hI=>ht.elim
 | .image _ _ _ _ _,v,M,ht,hI=>ht.elim
 | .auto _ _,v,M,ht,hI=>ht.elim
 | .tag _,v,M,ht,hI=>ht.elim
 | .hard,v,M,ht,hI=>ht.elim
 | .task _,v,M,ht,hI=>ht.elim
theorem eS: ∀ {ts:List Inl} {vs:List Value} {M:List ai},mf ts->InlsAt ts vs M->j6 ez (eC ts) vs M
 | [],vs,M,ht,hI=>by
  obtain⟨rfl,rfl⟩:=hI
  exact .nil
 |t::ts,vs,M,ht,hI=>by
  obtain⟨v,vs',M1,M2,rfl,rfl,h1,h2⟩:=hI
  exact .cons (xk ht.1 h1) (eS ht.2 h2)
end

theorem yB (ls:List (List UInt8))(l:List UInt8):dI (ls++ [l])=dI ls++l++ [10]:=by unfold dI;simp
theorem CI {q:OA}{c:Nat}{ls:List (List UInt8)}{E:List ai}(b7:Sl 1 aq q ls.length c (sv ls) E)(h:Sat σ w (E++L))(c3:ls.length<1048576)(hb:(dI ls).length<1073741824)(b5:ls.head? ≠some [])(c1: ∀w,Sat σ w (E++L)->R (hQ (hX (bs (dI ls)))) w):callE P nz #[hT q ls.length c] R w:=by
 refine gL.sound ?_
 refine Sat.bx h λb w h=>?_
 intro X a6
 have b4: ∀k j I M w,j+k=ls.length->(I=true\/j=0)->Bld b I (dI (ls.take j)) M->Sat σ w (M++(E++L))->X b q ls.length c (ls.length:Int) (j:Int) w:=by
  intro k
  induction k with
  |zero=>
   intro j I M w b8 O y h
   rw[lC2 (by omega)] at y
   refine a6 _ _ _ _ _ _ _ (af (by simp;omega) ?_)
   exact tC y h (by omega) λw h=>⟨_,rfl,c1 w h⟩
  |succ k b9=>
   intro j I M w b8 O y h
   have U:j<ls.length:=by omega
   have W:dI (ls.take (j+1))=dI (ls.take j)++ls[j]++ [10]:=by rw[lH1 U,yB]
   have V:(dI (ls.take (j+1))).length<=(dI ls).length:=by
    have:dI ls=dI (ls.take (j+1))++dI (ls.drop (j+1)):=by unfold dI;rw[<-lH5,lY1]
    rw[this,lA0];omega
   rw[W] at V
   simp only[lA0,lF0,lK1] at V
   have b3:Sat σ w (E++(M++L)):=h.re
   refine a6 _ _ _ _ _ _ _ (ag (by simp;omega) ⟨by omega,by omega,?_⟩)
   refine b7.loadAt b3 (ue U) λc4 c2 hc=>?_
   simp only[lK0,lC0,lC1,lO0]
   refine⟨_,hc,?_⟩
   have a7:ls[j]≠ []\/I=true:=by
    rcases O with O|rfl
    ·exact .inr O
    ·left
     intro b6
     apply b5
     rw[lC6,lI0 U,b6]
   refine tD (s:=ls[j]) y h a7 (by omega) λw M y h=>⟨_,_,rfl,?_⟩
   refine zk (k:=10) y h (by simp only[lA0];omega) λw M y h=>⟨_,rfl,?_⟩
   rw[aN (by omega)]
   refine b9 (j+1) true M w (by omega) (.inl rfl) ?_ h
   rw[W];exact y
 exact b4 ls.length 0 false _ w (by omega) (.inr rfl) (Dp b) h
theorem Bx: ∃k v,P.underlying g9=some (.map k v):=⟨aq,lP,by kernel_rfl⟩
theorem Sat.alo (h:Sat σ w L)(o:Obj):Sat σ (w.alloc o) ((w.heap.size,o)::L):=by
 refine⟨h.os,h.out,?_,?_⟩
 ·simp only[lO1,lW3]
  refine⟨λg=>?_,h.nodup⟩
  obtain⟨c,hc,y⟩:=lU1.1 g
  exact lN6 _ (y▸h.lt hc)
 ·intro c hc
  cases hc with
  |head=>exact(lI4 ..).trans rfl
  |tail _ hc=>
   have:=h.lt hc
   show (w.heap.push o)[c.1]? =some c.2
   rw[lP4 this,<-lP2 this]
   exact h.at_ _ hc
theorem vg (w:World):(Instr.range g9 (.map none)).run P w= .ok (kT (kE w.heap.size)) (w.alloc (.mapIter none 0 #[] 0)):=by
 obtain⟨k,v,g⟩:=Bx
 unfold Instr.range
 rw[lX0,run_underlying g]
 rfl
theorem wy {b:Nat}{t:TypeId}(h:w.heap[b]? =some (.mapIter none 0 #[] 0)):(Instr.next (kT (kE b)) false t).run P w= .ok (.tuple #[hV false]) w:=by
 have g:(getObj b).run P w= .ok (.mapIter none 0 #[] 0) w:=by simp[getObj,Sem.run,h]
 simp[Instr.next,g]
theorem Gi (E:R (hQ (hY 0)) w):callE P kI #[.int .u64 0] R w:=by
 refine kN.sound ?_
 refine cB.sound ?_
 refine af rfl (af rfl (af rfl ?_))
 unfold cB.k3
 generalize g:hP _=T
 have y:IntKind.u8.wrap 0=((0:Nat):Int):=rfl
 have I:T.size=256:=by rw[<-g];kernel_rfl
 have O:bt T ((0:Nat):Int)=0:=by rw[<-g];kernel_rfl
 rw[y,I,O]
 exact⟨by decide,by decide,_,rfl,E⟩
theorem DY {f:Value}(E:R (hQ (.tuple #[])) w):callE P dj #[hT none 0 0,f] R w:=by
 refine dk.sound ?_
 refine Gi ⟨_,rfl,?_⟩
 refine bB.sound ?_
 intro X y
 refine y _ _ _ _ _ _ _ _ _ _ (ag rfl ?_)
 refine be.sound ?_
 intro Y g
 exact g _ _ _ _ _ _ _ _ (af rfl ⟨rfl,rfl,E⟩)
theorem fQ {t:TypeId}{b s e:Nat}{cs:List Value}{ty:TypeId}{K:Nat->Nat->World->Prop}(b9:lg P t "Pos" cA=true) (h:Sat σ w L) (hc:(b,cel (hY s:: hY e::cs) ty)∈L)
 (b8: ∀b1 g w,Sat σ w ((g,cel (N16.C {a8:=s,a9:=e}).toList aj)::(b1,cel (N16.C {}).toList aj)::L)->K b1 g w):
 box w (N16.C {}) aj λb1 b6=>de P (callMethod (.iface t (kT (kE b))) "Pos" #[]) (λe c1=> ∃(I:Int),∃(O:Int),e= hQ (.agg #[hY I,hY O])/\
  box c1 #[hY 0,hY 0] aF λy b3=>stV b3 (hZ y 0) (hY I) λb4=>stV b4 (hZ y 1) (hY O) λE=> ∃(V:Int),E.cell? (hZ y 0)=some (hY V)/\ ∃(U:Int),E.cell? (hZ y 1)=some (hY U)/\
  box E (N16.C {}) aj λg a6=>st16 a6 g {a8:=V,a9:=U} λW=>K b1 g W) b6:=by
 refine Sat.bx h λb1 w h=>?_
 have b7:DB.posIs ⟨.iface t (kT (kE b)),[(b,cel (hY s:: hY e::cs) ty)],[]⟩ s e:=j9 b9 rfl (.head _)
 refine b7 σ _ _ w (λc a7=> .tail _ (by rw[lN0.1 a7];exact hc)) h λw h=>⟨_,_,rfl,?_⟩
 refine Sat.bx h λy w h=>?_
 refine h.stA 0 λw h=>?_
 refine h.stA 0 λw h=>?_
 refine⟨_,Sat.ld h (.head _) (i:=0) rfl,_,Sat.ld h (.head _) (i:=1) rfl,?_⟩
 refine Sat.bx h λg w h=>?_
 have h:Sat σ w ((g,cel (N16.C {}).toList aj)::(y,cel [hY s,hY e] aF)::(b1,cel (N16.C {}).toList aj)::L):=h
 refine h.st16 0 {} {a8:=s,a9:=e} λw h=>b8 b1 g w ?_
 exact h.sub (.cons_cons _ (.cons _ (List.Sublist.refl _)))
theorem iy {u v:N16}{x:IN}{b1 g:Nat}{NM K:List ai}(O:NodeAt x v NM)(h:Sat σ w ((g,cel v.C.toList aj)::(b1,cel u.C.toList aj)::(NM++K)))(I: ∀w u M,NodeAt x u M->Sat σ w (M++K)->R (hQ u.V) w):
 ldB16 w g λm=>st16 w b1 m λy=>ldB16 y b1 λE=>R (hQ E.V) y:=
 h.ldB16 v (.head _) (h.st16 1 u v λw h=>h.ldB16 v (.tail _ (.head _)) (I w v NM O h.tail.tail))
def iu (R:EP)(E:OA)(b5:Value)(w:World):Prop:=
 tk w λg=>
 aA E λa2=>
 aA E λa3=>
 aA E λa4=>
 ∃a7,g.cell? a2=some (hX a7)/\
 ∃a6,g.cell? (a3.add 1)=some (hX a6)/\
 ∃V W U,g.cell? (a4.add 3)=some (hT V W U)/\
 de P (callMethod b5 "pub-paratext/pub/rscmarkdown.pos" #[]) (λe y=> ∃I O,e= hQ (.agg #[hY I,hY O])/\
 SameC g y (a4.add 3) 1/\
 SameC g y (a3.add 1) 1/\
 SameC g y (a2) 1/\
 box y #[hY I,hY O,hX a7,hX a6,hT V W U] na λb3 b4=>
 R (hQ (.iface cL (kT (kE b3)))) b4) g
theorem iu.sound {R x0 x1 w}(h:iu R x0 x1 w):callE P ik #[kT x0,x1] R w:=
 aG [(5,.dr (rpN [0,6,9,12,18,21,24,30,33,36,16,28,40,5,42,47,48,51]))] Tryz.func440 Tryz.call440 h
namespace bA
def k2 (R:EP)(e5 a6:OA)(e4 g:Nat)(w:World):Prop:=
 tk w λU=>
 aA e5 λV=>
 ∃b6 b9 b8,U.cell? (V.add 3)=some (hT b6 b9 b8)/\
 callE P gV #[kT (kE e4)] (λe W=> ∃d0,e= hQ (hX d0)/\
 SameC U W (V.add 3) 1/\
 ∃b4 a7,∃b5 O,(Instr.buildSlice al 1 #[(0,hX d0)]).run P W= .ok (hT b4 a7 b5) O/\
 SameC W O (V.add 3) 1/\
 ∃c1 b7,∃b3 d3,(Builtin.append_ #[al,al] al #[hT b6 b9 b8,hT b4 a7 b5]).run P O= .ok (hT c1 b7 b3) d3/\
 aA e5 λf2=>
 stV d3 ((f2.add 3).add 0) (hT c1 b7 b3) λI=>
 aA a6 λf3=>
 ∃c8,I.cell? (f3.add 6)=some (hV c8)/\
 br c8
 (aA a6 λe7=>
 stV I ((e7.add 6).add 0) (hV true) λf0=>
 stV f0 (hZ g 0) (hY 0) λe9=>
 stV e9 (hZ g 1) (hY 0) λf6=>
 stV f6 (hZ g 2) (hY 0) λe6=>
 stV e6 (hZ g 3) (hX (hP #[])) λg0=>
 stV g0 (hZ g 4) (.int .u8 0) λE=>
 ∃d2,E.cell? (hZ g 0)=some (hY d2)/\
 ∃c9,E.cell? (hZ g 1)=some (hY c9)/\
 ∃c5,E.cell? (hZ g 2)=some (hY c5)/\
 ∃c4,E.cell? (hZ g 3)=some (hX c4)/\
 ∃c3,E.cell? (hZ g 4)=some (.int .u8 c3)/\
 R (hQ (.tuple #[.agg #[hY d2,hY c9,hY c5,hX c4,.int .u8 c3],hV true])) E)
 (∃e1,I.cell? (hZ e4 4)=some (.int .u8 e1)/\
 aA a6 λf5=>
 stV I ((f5.add 6).add 0) (hV (e1 !=10)) λe8=>
 stV e8 (hZ g 0) (hY 0) λf1=>
 stV f1 (hZ g 1) (hY 0) λg1=>
 stV g1 (hZ g 2) (hY 0) λg2=>
 stV g2 (hZ g 3) (hX (hP #[])) λf4=>
 stV f4 (hZ g 4) (.int .u8 0) λy=>
 ∃e0,y.cell? (hZ g 0)=some (hY e0)/\
 ∃e2,y.cell? (hZ g 1)=some (hY e2)/\
 ∃d1,y.cell? (hZ g 2)=some (hY d1)/\
 ∃e3,y.cell? (hZ g 3)=some (hX e3)/\
 ∃c2,y.cell? (hZ g 4)=some (.int .u8 c2)/\
 R (hQ (.tuple #[.agg #[hY e0,hY e2,hY d1,hX e3,.int .u8 c2],hV true])) y)) U
def k1 (R:EP)(y a7:OA)(U b3:Nat)(w:World):Prop:=
 tk w λg=>
 aA y λV=>
 aA y λW=>
 ∃E,g.cell? (V.add 2)=some (hY E)/\
 ∃I,g.cell? (W.add 2)=some (hY I)/\
 callE P bl #[kT (kE U),hY E,hY I,hV false] (λe a6=> ∃O,e= hQ (hV O)/\
 br (!O)
 (False)
 (k2 R y a7 U b3 a6)) g
end bA
def bA (R:EP)(V W:OA)(e5 e4 e1:Int)(e3:BA)(e2:Int)(w:World):Prop:=
 box w #[hY e5,hY e4,hY e1,hX e3,.int .u8 e2] aW λb1 g4=>
 box g4 #[hY 0,hY 0,hY 0,hX (hP #[]),.int .u8 0] aW λg g5=>
 box g5 #[hX (hP #[])] aq λd3 g2=>
 box g2 #[hX (hP #[])] aq λe0 g3=>
 box g3 #[hY 0] ba λg1 y=>
 ∃c1,y.cell? (hZ b1 0)=some (hY c1)/\
 ∃b6,y.cell? (hZ b1 1)=some (hY b6)/\
 ∃a6,y.cell? (hZ b1 2)=some (hY a6)/\
 ∃d1,y.cell? (hZ b1 3)=some (hX d1)/\
 ∃d0,y.cell? (hZ b1 4)=some (.int .u8 d0)/\
 box y #[hY 0,hY 0,hY 0,hX (hP #[]),.int .u8 0] aW λE e6=>
 stV e6 (hZ E 0) (hY c1) λf2=>
 stV f2 (hZ E 1) (hY b6) λf6=>
 stV f6 (hZ E 2) (hY a6) λf5=>
 stV f5 (hZ E 3) (hX d1) λf1=>
 stV f1 (hZ E 4) (.int .u8 d0) λg0=>
 tk g0 λe8=>
 callE P fW #[kT (kE E),kT (kE d3),kT (kE e0),kT (kE g1)] (λe U=> ∃c5,e= hQ (hV c5)/\
 br c5
 (aA V λe9=>
 ∃a7,U.cell? (hZ d3 0)=some (hX a7)/\
 ∃b8,U.cell? e9=some (hX b8)/\
 callE P iK #[hX a7,hX b8] (λe O=> ∃c9,e= hQ (hV c9)/\
 br c9
 (∃b4,O.cell? (hZ e0 0)=some (hX b4)/\
 br (b4.toList==(hP #[]).toList)
 (stV O (hZ g 0) (hY 0) λf3=>
 stV f3 (hZ g 1) (hY 0) λe7=>
 stV e7 (hZ g 2) (hY 0) λf4=>
 stV f4 (hZ g 3) (hX (hP #[])) λf0=>
 stV f0 (hZ g 4) (.int .u8 0) λI=>
 ∃c2,I.cell? (hZ g 0)=some (hY c2)/\
 ∃c4,I.cell? (hZ g 1)=some (hY c4)/\
 ∃c8,I.cell? (hZ g 2)=some (hY c8)/\
 ∃d2,I.cell? (hZ g 3)=some (hX d2)/\
 ∃c3,I.cell? (hZ g 4)=some (.int .u8 c3)/\
 R (hQ (.tuple #[.agg #[hY c2,hY c4,hY c8,hX d2,.int .u8 c3],hV false])) I)
 (bA.k1 R V W b1 g O))
 (bA.k1 R V W b1 g O)) U)
 (bA.k1 R V W b1 g U)) e8
theorem bA.sound {R x0 x1 x2_0 x2_1 x2_2 x2_3 x2_4 w}(h:bA R x0 x1 x2_0 x2_1 x2_2 x2_3 x2_4 w):callE P gF #[kT x0,kT x1,.agg #[hY x2_0,hY x2_1,hY x2_2,hX x2_3,.int .u8 x2_4]] R w:=
 aG [(87,.dr (rpN [2,3,9,12,15,7,19,23,24,27,31,33,36])),(31,.mk [2,22,106,126] (bA.k1 R)),(79,.dr (rpN [0,3,6,12,15,18,10,22,26,27])),(175,.no),(63,.mk [2,22,106,126] (bA.k2 R)),(95,.dr (rpN [0,3,6,9,13,17,20,23,24,27,32]))] Tryz.func441 Tryz.call441 h
namespace gM
def bl1 (R:EP)(Xa:BA->Int->WP)(E:BA)(g:Int)(w:World):Prop:=
 br (decide (g<12))
 (0<=g/\g<(12:Int)/\
 0<=(0:Int)/\0<(2:Int)/\
 ∃v1,w.cell? (((⟨1,0,none⟩:Addr).add (Int.toNat g*2)).add (Int.toNat 0*1))=some (hX v1)/\
 br (v1.toList==E.toList)
 (0<=g/\g<(12:Int)/\
 0<=(1:Int)/\1<(2:Int)/\
 ∃y,w.cell? (((⟨1,0,none⟩:Addr).add (Int.toNat g*2)).add (Int.toNat 1*1))=some (hX y)/\
 R (hQ (.tuple #[hX y,hV true])) w)
 (Xa E (i64.wrap (g+1)) w))
 (R (hQ (.tuple #[hX (hP #[]),hV false])) w)
def l1 (R:EP)(y:BA)(g:Int)(w:World):Prop:=
 ∀X:BA->Int->WP,(∀y g w,bl1 R X y g w->X y g w)->X y g w
end gM
def gM (R:EP)(g:BA)(w:World):Prop:=
 gM.l1 R g 0 w
theorem gM.sound {R x0 w}(h:gM R x0 w):callE P nB #[hX x0] R w:=
 aG [(21,.lp [1,87] (gM.bl1 R) λXa=> [])] Tryz.func169 Tryz.call169 h
namespace bi
def k3 (R:EP)(Xa:BA->Nat->Int->WP)(y:BA)(E:Nat)(g:Int)(w:World):Prop:=
 0<=g/\g<(y.size:Int)/\
 callE P bT #[kT (kE E),.int .u8 (bt y g)] (λe I=> ∃(O:Value),e= hQ O/\
 Xa y E (i64.wrap (g+1)) I) w
def k2 (R:EP)(Xa:BA->Nat->Int->WP)(g:BA)(I:Nat)(y E:Int)(w:World):Prop:=
 br (decide (E<(g.size:Int)))
 (0<=y/\y<=(i64.wrap (E+1))/\(i64.wrap (E+1))<=(g.size:Int)/\
 callE P nB #[hX (g.extract (Int.toNat y) (Int.toNat (i64.wrap (E+1))))] (λe V=> ∃U O,e= hQ (.tuple #[hX U,hV O])/\
 br O
 (callE P bw #[kT (kE I),hX U] (λe a7=> ∃a6,∃(W:Value),e= hQ (.tuple #[hY a6,W])/\
 Xa g I (i64.wrap (E+1)) a7) V)
 (k3 R Xa g I y V)) w)
 (k3 R Xa g I y w)
def bl2 (R:EP)(Xa:BA->Nat->Int->WP)(O:BA->Nat->Int->Int->WP)(y:BA)(I:Nat)(E g:Int)(w:World):Prop:=
 ((decide (g<(y.size:Int)))=true->0<=g/\g<(y.size:Int))/\
 br ((decide (g<(y.size:Int))) && ((bt y g) !=59))
 (O y I E (i64.wrap (g+1)) w)
 (k2 R Xa y I E g w)
def l2 (R:EP)(Xa:BA->Nat->Int->WP)(g:BA)(E:Nat)(y I:Int)(w:World):Prop:=
 ∀X:BA->Nat->Int->Int->WP,(∀g E y I w,bl2 R Xa X g E y I w->X g E y I w)->X g E y I w
def k1 (R:EP)(Xa:BA->Nat->Int->WP)(y:BA)(E:Nat)(g:Int)(I:Bool)(w:World):Prop:=
 br I
 (0<=(i64.wrap (g+1))/\(i64.wrap (g+1))<(y.size:Int)/\
 callE P bT #[kT (kE E),.int .u8 (bt y (i64.wrap (g+1)))] (λe U=> ∃(W:Value),e= hQ W/\
 Xa y E (i64.wrap ((i64.wrap (g+1))+1)) U) w)
 (0<=g/\g<(y.size:Int)/\
 br ((bt y g)==38)
 (l2 R Xa y E g (i64.wrap (g+1)) w)
 (0<=g/\g<(y.size:Int)/\
 callE P bT #[kT (kE E),.int .u8 (bt y g)] (λe O=> ∃(V:Value),e= hQ V/\
 Xa y E (i64.wrap (g+1)) O) w))
def bl1 (R:EP)(Xa:BA->Nat->Int->WP)(y:BA)(E:Nat)(g:Int)(w:World):Prop:=
 br (decide (g<(y.size:Int)))
 (0<=g/\g<(y.size:Int)/\
 ((((bt y g)==92) && (decide ((i64.wrap (g+1))<(y.size:Int))))=true->0<=(i64.wrap (g+1))/\(i64.wrap (g+1))<(y.size:Int))/\
 br (((bt y g)==92) && (decide ((i64.wrap (g+1))<(y.size:Int))))
 (callE P l6 #[.int .u8 (bt y (i64.wrap (g+1)))] (λe U=> ∃I,e= hQ (hV I)/\
 k1 R Xa y E g I U) w)
 (k1 R Xa y E g false w))
 (callE P dt #[kT (kE E)] (λe V=> ∃O,e= hQ (hX O)/\
 R (hQ (hX O)) V) w)
def l1 (R:EP)(g:BA)(E:Nat)(y:Int)(w:World):Prop:=
 ∀X:BA->Nat->Int->WP,(∀g E y w,bl1 R X g E y w->X g E y w)->X g E y w
end bi
def bi (R:EP)(I:BA)(w:World):Prop:=
 box w #[] jM λb1 y=>
 box y #[kT none,hT none 0 0] cn λg E=>
 bi.l1 R I g 0 E
theorem bi.sound {R x1 w}(h:bi R x1 w):callE P gC #[.agg #[],hX x1] R w:=
 aG [(43,.lp [21,106,127] (bi.bl1 R) λXa=> [(49,.mk [21,106,127,400] (bi.k1 R Xa)),(2417,.lp [21,106,127,147] (bi.bl2 R Xa) λg=> []),(1905,.mk [21,106,127,147] (bi.k2 R Xa)),(3953,.mk [21,106,127] (bi.k3 R Xa))])] Tryz.func229 Tryz.call229 h
def nG (R:EP)(g:BA)(w:World):Prop:=
 callE P jb #[hX g,hX (hP #[92])] (λe I=> ∃E,e= hQ (hV E)/\
 br (!E)
 (callE P jb #[hX g,hX (hP #[38])] (λe O=> ∃y,e= hQ (hV y)/\
 br (!y)
 (R (hQ (hX g)) O)
 (False)) I)
 (False)) w
theorem nG.sound {R x0 w}(h:nG R x0 w):callE P nw #[hX x0] R w:=
 aG [(29,.no),(7,.no)] Tryz.func228 Tryz.call228 h
namespace dY
def k2 (R:EP)(I:BA)(y g:Int)(w:World):Prop:=
 0<=y/\y<=g/\g<=(I.size:Int)/\
 callE P nw #[hX (I.extract (Int.toNat y) (Int.toNat g))] (λe O=> ∃E,e= hQ (hX E)/\
 R (hQ (.tuple #[hX E,hY g,hV true])) O) w
def bl2 (R:EP)(Xa:BA->Int->Int->Int->WP)(y:BA)(I E g:Int)(w:World):Prop:=
 br (decide (g<(y.size:Int)))
 (0<=g/\g<(y.size:Int)/\
 br ((bt y g)==40)
 (False)
 (br ((bt y g)==41)
 (br (E==0)
 (k2 R y I g w)
 (False))
 (br ((bt y g)==92)
 (False)
 (br ((bt y g)==32)
 (False)
 (br ((bt y g)==9)
 (False)
 (br ((bt y g)==10)
 (False)
 (Xa y I E (i64.wrap (g+1)) w)))))))
 (False)
def l2 (R:EP)(E:BA)(y g I:Int)(w:World):Prop:=
 ∀X:BA->Int->Int->Int->WP,(∀E y g I w,bl2 R X E y g I w->X E y g I w)->X E y g I w
end dY
def dY (R:EP)(y:BA)(g:Int)(w:World):Prop:=
 br (decide (g >= (y.size:Int)))
 (False)
 (0<=g/\g<(y.size:Int)/\
 br ((bt y g)==60)
 (False)
 (dY.l2 R y g 0 g w))
theorem dY.sound {R x0 x1 w}(h:dY R x0 x1 w):callE P kH #[hX x0,hY x1] R w:=
 aG [(41,.no),(85,.no),(637,.lp [1,27,167,187] (dY.bl2 R) λXa=> [(14,.no),(169,.no),(7401,.no),(3049,.no),(22505,.no),(96233,.no),(12265,.no)]),(509,.mk [1,27,187] (dY.k2 R))] Tryz.func172 Tryz.call172 h
namespace aZ
def k7 (R:EP)(a7:OA)(b3:BA)(a6:Int)(b4:OA)(U:Int)(y g:BA)(I:Int)(O E:Bool)(w:World):Prop:=
 br E
 (box w #[hT none 0 0,hX y,hX g,.int .u8 I,hV O] uU λW V=>
 R (hQ (.tuple #[kT (kE W),hY (i64.wrap (U+1)),hV true])) V)
 (False)
def k4 (R:EP)(W:OA)(y:BA)(V:Int)(a6:OA)(g:Int)(U E:BA)(I:Int)(O:Bool)(w:World):Prop:=
 ((decide (g<(y.size:Int)))=true->0<=g/\g<(y.size:Int))/\
 k7 R W y V a6 g U E I O ((decide (g<(y.size:Int))) && ((bt y g)==41)) w
def k3 (R:EP)(W:OA)(a6:BA)(V:Int)(a7:OA)(U:Int)(O y:BA)(E:Int)(I g:Bool)(w:World):Prop:=
 br g
 (False)
 (k4 R W a6 V a7 U O y E I w)
def k1 (R:EP)(b5:OA)(g:BA)(b4:Int)(b6:OA)(a7:Int)(b8 V:BA)(W:Int)(a6 U:Bool)(w:World):Prop:=
 br U
 (callE P kH #[hX g,hY a7] (λe b7=> ∃I E O,e= hQ (.tuple #[hX I,hY E,hV O])/\
 br (!O)
 (False)
 (callE P kG #[hX g,hY E] (λe b3=> ∃y,e= hQ (hY y)/\
 ((decide (y<(g.size:Int)))=true->0<=y/\y<(g.size:Int))/\
 k3 R b5 g b4 b6 y I V W a6 ((decide (y<(g.size:Int))) && ((bt g y) !=41)) b3) b7)) w)
 (False)
end aZ
def aZ (R:EP)(O:OA)(g:BA)(E:Int)(U:OA)(w:World):Prop:=
 br (decide ((i64.wrap (E+1))<(g.size:Int)))
 (0<=(i64.wrap (E+1))/\(i64.wrap (E+1))<(g.size:Int)/\
 br ((bt g (i64.wrap (E+1)))==40)
 (callE P kG #[hX g,hY (i64.wrap (E+2))] (λe I=> ∃y,e= hQ (hY y)/\
 ((decide (y<(g.size:Int)))=true->0<=y/\y<(g.size:Int))/\
 aZ.k1 R O g E U y (hP #[]) (hP #[]) 0 false ((decide (y<(g.size:Int))) && ((bt g y) !=41)) I) w)
 (False))
 (False)
theorem aZ.sound {R x0 x1 x2 x3 w}(h:aZ R x0 x1 x2 x3 w):callE P eG #[kT x0,hX x1,hY x2,kT x3] R w:=
 aG [(28501,.mk [2,21,47,62,227,241,261,288,300,980] (aZ.k1 R)),(1421141,.no),(2076501,.mk [2,21,47,62,227,241,261,288,300,1420] (aZ.k3 R)),(3125077,.no),(61269,.no),(16213,.mk [2,21,47,62,227,241,261,288,300] (aZ.k4 R)),(32597,.mk [2,21,47,62,227,241,261,288,300,1920] (aZ.k7 R)),(65365,.no),(469,.no),(29,.no),(7,.no)] Tryz.func123 Tryz.call123 h

theorem rl {s:List UInt8}{i:Nat}(hi:i<s.length)(h:lG (s.getD i 0)=false):oX s i=i:=by
 unfold oX
 rw[lI1 hi,lI2 (by rw[nD hi 0,h];decide)]
 simp;omega
theorem rL {s:List UInt8}(hs:s.length<4611686018427387904)(E:(92:UInt8) ∉ s)(g:(38:UInt8) ∉ s)(y:R (hQ (hX (bs s))) w):callE P nw #[hX (bs s)] R w:=by
 refine nG.sound ?_
 refine j7 (sub:= [92]) hs (by decide) ⟨_,rfl,ag (by rw[ll E];rfl) ?_⟩
 exact j7 (sub:= [38]) hs (by decide) ⟨_,rfl,ag (by rw[ll g];rfl) y⟩
def ze (c:UInt8):Bool:=c !=40 && c !=41 && c !=92 && c !=32 && c !=9 && c !=10 && c !=38 && c !=60
theorem oY {s D:List UInt8}{i j:Nat}(hs:s.length<1000000)(W:i<j)(d1:j<s.length)(E:sub s i j=D)(I: ∀k,i<=k->k<j->ze (s.getD k 0)=true)(a6:s.getD j 0=41)(b5:R (hQ (.tuple #[hX (bs D),hY j,hV true])) w):callE P kH #[hX (bs s),hY i] R w:=by
 have nb: ∀k,i<=k->k<j-> ∀d:UInt8,(d=40\/d=41\/d=92\/d=32\/d=9\/d=10\/d=60)->(bt (bs s) (k:Int)==(d.toNat:Int))=false:=by
  intro k b6 b7 d hd
  rw[pj,mW]
  have:=I k b6 b7
  simp only[ze,lL1,bne_iff_ne,ne_eq] at this
  obtain⟨⟨⟨⟨⟨⟨⟨d0,c9⟩,d3⟩,d2⟩,b9⟩,c6⟩,c7⟩,e0⟩:=this
  rcases hd with rfl|rfl|rfl|rfl|rfl|rfl|rfl<;>simpa using ‹_›
 refine dY.sound ?_
 refine af (by simp;omega) ⟨by omega,by simp;omega,af (nb i (lA1 _) W 60 (by decide)) ?_⟩
 intro X V
 have O: ∀c∈D,ze c=true:=by
  intro c hc
  rw[<-E] at hc
  obtain⟨m,y,rfl⟩:=lM6.1 hc
  have e1:=qs (s:=s) (i:=i) (j:=j) (by omega)
  rw[nD y 0]
  have e:(sub s i j).getD m 0=s.getD (i+m) 0:=by
   unfold sub
   rw[C9,lQ0,lQ0,lM3 (by omega)]
  rw[e];exact I _ (by omega) (by omega)
 have b8:D.length<1000000:=by rw[<-E,qs (by omega)];omega
 have a7: ∀k m,m+k=j->i<=m->X (bs s) (i:Int) 0 (m:Int) w:=by
  intro k
  induction k with
  |zero=>
   intro m y U
   obtain rfl:m=j:=y
   have b3:bt (bs s) (m:Int)=41:=by rw[pj,a6];rfl
   refine V _ _ _ _ _ (ag (by simp;omega) ⟨by omega,by simp;omega,?_⟩)
   rw[b3]
   refine af rfl (ag rfl (ag rfl ⟨by omega,by omega,by simp;omega,?_⟩))
   rw[lC0,lC0,cj,show (s.take m).drop i=D from E]
   exact rL (by omega) (λh=>by have:=O _ h;revert this;decide) (λh=>by have:=O _ h;revert this;decide) ⟨_,rfl,b5⟩
  |succ k b4=>
   intro m y U
   have g:=nb m U (by omega)
   refine V _ _ _ _ _ (ag (by simp;omega) ⟨by omega,by simp;omega,?_⟩)
   refine af (g 40 (by decide)) (af (g 41 (by decide)) (af (g 92 (by decide)) (af (g 32 (by decide)) (af (g 9 (by decide)) (af (g 10 (by decide)) ?_)))))
   rw[aN (by omega)]
   exact b4 (m+1) (by omega) (by omega)
 exact a7 (j - i) i (by omega) (lA1 _)
theorem yY {A B:List UInt8}{i:Nat}(h:A.length=i)(k:Nat):(A++B).getD (i+k) 0=B.getD k 0:=by
 subst h;rw[pR (by omega),lY5]
theorem zf {b:Nat}{p:PS}{A B D t:List UInt8}{k:Nat}(b3:(A++93::40::(D++41::B)).length<1000000)(a6:D≠ [])(U: ∀c∈D,ze c=true/\lG c=false):
 wa b p (A++93::40::(D++41::B)) A.length t k [] D [] 0 false (A.length+3+D.length):=by
 intro σ R L w ob e _ _ _ h b4
 generalize hs:A++93::40::(D++41::B)=s at b3⊢
 have b5:s.length=A.length+3+D.length+B.length:=by rw[<-hs];simp;omega
 have O:=lY0.2 a6
 have a7:s.getD (A.length+1) 0=40:=by rw[<-hs,yY rfl];rfl
 have V: ∀m (I:m<D.length),s.getD (A.length+2+m) 0=D[m]:=by
  intro m I
  rw[<-hs,show A.length+2+m=A.length+(m+2) by omega,yY rfl]
  show (D++41::B).getD m 0=_
  rw[nE I,<-nD I]
 have g:s.getD (A.length+2+D.length) 0=41:=by
  rw[<-hs,show A.length+2+D.length=A.length+(D.length+2) by omega,yY rfl]
  exact vE D B 41 0
 refine aZ.sound ?_
 unfold aZ
 rw[aN (by omega),show i64.wrap ((A.length:Int)+2)=((A.length+2:Nat):Int) by rw[show ((A.length:Int)+2)=((A.length+2:Nat):Int) by omega,i64_in _ (by omega)]]
 refine ag (by simp;omega) ⟨by omega,by simp;omega,?_⟩
 rw[pj,a7]
 refine ag rfl ?_
 have E:=V 0 O
 rw[lN1] at E
 have y:=U D[0] (lQ1 O)
 refine sB (by omega) (by omega) ⟨_,rfl,?_⟩
 rw[rl (by omega) (by rw[E];exact y.2)]
 refine⟨λ_=>⟨by omega,by simp;omega⟩,?_⟩
 rw[pj,E]
 refine ag ?_ ?_
 ·have W:D[0]≠41:=by intro h;rw[h] at y;exact absurd y.1 (by decide)
  rw[bne,u8b D[0] 41 41 rfl];simp[W];omega
 refine oY (D:=D) (j:=A.length+2+D.length) (by omega) (by omega) (by omega) ?_ (λm b6 b7=>?_) g ⟨_,_,_,rfl,af rfl ?_⟩
 ·unfold sub
  rw[<-hs,show A++93::40::(D++41::B)=(A++ [93,40])++(D++41::B) by simp,<-lD0,lC5 (by simp;omega),lB5 (by simp)]
 ·obtain⟨d,rfl⟩: ∃d,m=A.length+2+d:=⟨m - (A.length+2),by omega⟩
  rw[V d (by omega)];exact(U _ (lQ1 _)).1
 refine sB (by omega) (by omega) ⟨_,rfl,?_⟩
 rw[rl (by omega) (by rw[g];decide)]
 refine⟨λ_=>⟨by omega,by simp;omega⟩,?_⟩
 rw[pj,g]
 refine af (by rw[show (((41:UInt8).toNat:Int) !=41)=false from rfl,Bool.and_false]) ⟨λ_=>⟨by omega,by simp;omega⟩,?_⟩
 rw[pj,g]
 refine ag (by rw[show (((41:UInt8).toNat:Int)==41)=true from rfl,Bool.and_true];simp;omega) ?_
 rw[aN (by omega),show A.length+2+D.length+1=A.length+3+D.length by omega]
 exact Sat.bx h λlb w h=>b4 w lb h

def tkS (tk:UInt8->List UInt8)(s:List UInt8):List UInt8:=s.flatMap tk
@[simp] theorem tkS_nil (tk:UInt8->List UInt8):tkS tk []= []:=rfl
@[simp] theorem tkS_cons (tk:UInt8->List UInt8) (c:UInt8) (s:List UInt8):tkS tk (c::s)=tk c++tkS tk s:=lJ3 ..
@[simp] theorem GO (tk:UInt8->List UInt8) (s t:List UInt8):tkS tk (s++t)=tkS tk s++tkS tk t:=lH5 ..

def Bh (c:ai):Prop:= ∃cs e g,c=(1,.cells cs e g)/\ ∀i:Nat,i<12-> ∃a b:List UInt8,cs[2*i]? =some (hX (bs a))/\cs[2*i+1]? =some (hX (bs b))/\b.length<=10/\b≠ []
theorem tU {c:ai}{s:List UInt8}(W:Bh c)(hc:c∈L)(h:Sat σ w L)(y: ∀(t:List UInt8) (k:Bool),t.length<=10->(k=true->t≠ [])->R (hQ (.tuple #[hX (bs t),hV k])) w):callE P nB #[hX (bs s)] R w:=by
 obtain⟨cs,e,a7,rfl,O⟩:=W
 have hb:=h.at_ _ hc
 refine gM.sound ?_
 intro X g
 have E: ∀k i:Nat,i+k=12->X (bs s) (i:Int) w:=by
  intro k
  induction k with
  |zero=>
   intro i hi
   exact g _ _ _ (af (by simp;omega) (y [] false (by simp) (by simp)))
  |succ k V=>
   intro i hi
   obtain⟨a,b,h0,U,a6,I⟩:=O i (by omega)
   refine g _ _ _ (ag (by simp;omega) ⟨by omega,by omega,by decide,by decide,bs a,?_,?_⟩)
   ·simp only[lK0,lC0,lO0]
    rw[nN hb,<-h0];congr 1;simp;omega
   refine bp (λ_=>⟨by omega,by omega,by decide,by decide,bs b,?_,y b true a6 λ_=>I⟩) λ_=>?_
   ·simp only[lK0,lC0,lO0]
    rw[nN hb,<-U];congr 1;simp;omega
   ·rw[aN (by omega)]
    exact V (i+1) (by omega)
 exact E 12 0 rfl
def UnE (s t:List UInt8):Prop:=t.length<=10*s.length/\((∀c∈s,c≠92/\c≠38)->t=s)
theorem yA {s:List UInt8}{ec:ai}(e3:s.length<1000000)(d3:Bh ec)(c8:ec∈L)(h:Sat σ w L)(d1: ∀w t,UnE s t->Sat σ w L->R (hQ (hX (bs t))) w):
 callE P gC #[.agg #[],hX (bs s)] R w:=by
 refine bi.sound ?_
 refine Sat.bx h λb0 w h=>?_
 refine Sat.bx h λb w h=>?_
 intro X b9
 have c4: ∀(n i:Nat) (E:List UInt8) (g:Bool) (M:List ai) w,i+n=s.length->E.length<=10*i->((∀c∈s,c≠92/\c≠38)->E=s.take i)->Bld b g E M->Sat σ w (M++((b0,cel [] jM)::L))->
  X (bs s) b (i:Int) w:=by
  intro n
  induction n using Nat.strongRecOn with
  |_ n b4=>
  intro i E g M w e2 e1 b6 a6 h
  by_cases d2:n=0
  ·subst d2
   refine b9 _ _ _ _ (af (by simp;omega) ?_)
   refine tC a6 h (by omega) λw h=>⟨_,rfl,d1 w E ⟨by omega,λhc=>?_⟩ h.tail⟩
   rw[b6 hc,lC2 (by omega)]
  have I:i<s.length:=by omega
  have a7:i64.wrap ((i:Int)+1)=((i+1:Nat):Int):=aN (by omega)
  have b5: ∀w,Sat σ w (M++((b0,cel [] jM)::L))->callE P bT #[kT (kE b),.int .u8 (bt (bs s) (i:Int))] (λe c2=> ∃(c5:Value),e= hQ c5/\X (bs s) b (i64.wrap ((i:Int)+1)) c2) w:=by
   intro w h
   rw[pY I]
   refine zk (k:=s[i]) a6 h (by omega) λw V O U=>⟨_,rfl,?_⟩
   rw[a7]
   refine b4 (n - 1) (by omega) (i+1) (E++ [s[i]]) _ V w (by omega) (by simp;omega) (λhc=>?_) O U
   rw[b6 hc,lH1 I]
  have k3: ∀w,Sat σ w (M++((b0,cel [] jM)::L))->bi.k3 R X (bs s) b (i:Int) w:=λw h=>⟨by omega,by simp;omega,b5 w h⟩
  have b7:bi.k1 R X (bs s) b (i:Int) false w:=by
   refine af rfl ⟨by omega,by simp;omega,bp (λW=>?_) λ_=>⟨by omega,by simp;omega,b5 w h⟩⟩
   have W:s[i]=38:=by rw[pY I,u8b _ 38 38 rfl] at W;simpa using W
   have b3: ¬ ∀c∈s,c≠92/\c≠38:=λhc=>(hc s[i] (lQ1 I)).2 W
   rw[a7]
   intro Y b8
   have go: ∀m j:Nat,i<j->j+m=s.length->Y (bs s) b (i:Int) (j:Int) w:=by
    intro m
    induction m with
    |zero=>
     intro j c1 d0
     refine b8 _ _ _ _ _ ⟨λy=>by simp at y;omega,af (by simp;omega) ?_⟩
     exact af (by simp;omega) (k3 w h)
    |succ m c9=>
     intro j c1 d0
     refine b8 _ _ _ _ _ ⟨λy=>⟨by omega,by simp;omega⟩,bp (λ_=>?_) λ_=>?_⟩
     ·rw[aN (by omega)]
      exact c9 (j+1) (by omega) (by omega)
     ·refine ag (by simp;omega) ?_
      rw[aN (by omega)]
      refine⟨by omega,by omega,by simp;omega,?_⟩
      rw[lC0,lC0,cj]
      refine tU d3 (lB0 _ (.tail _ c8)) h λt k ht c3=>⟨_,_,rfl,bp (λe0=>?_) λ_=>k3 w h⟩
      refine tD (s:=t) a6 h (.inl (c3 e0)) (by omega) λw V O U=>⟨_,_,rfl,?_⟩
      exact b4 (n - (j+1 - i)) (by omega) (j+1) (E++t) _ V w (by omega) (by simp;omega) (λhc=>absurd hc b3) O U
   exact go (s.length - (i+1)) (i+1) (by omega) (by omega)
  refine b9 _ _ _ _ (ag (by simp;omega) ⟨by omega,by simp;omega,?_⟩)
  rw[a7]
  refine⟨λy=>?_,bp (λy=>?_) λ_=>b7⟩
  ·simp at y;exact⟨by omega,by simp;omega⟩
  have y:s[i]=92/\i+1<s.length:=by
   rw[pY I,u8b _ 92 92 rfl] at y
   simp at y;exact⟨y.1,by omega⟩
  have b3: ¬ ∀c∈s,c≠92/\c≠38:=λhc=>(hc s[i] (lQ1 I)).1 y.1
  rw[pY y.2]
  refine uv ⟨_,rfl,?_⟩
  cases puB s[i+1] with
  |false=>exact b7
  |true=>
   refine ag rfl ?_
   rw[a7]
   refine⟨by omega,by simp;omega,?_⟩
   rw[pY y.2]
   refine zk (k:=s[i+1]) a6 h (by omega) λw V O U=>⟨_,rfl,?_⟩
   rw[aN (by omega)]
   exact b4 (n - 2) (by omega) (i+2) (E++ [s[i+1]]) _ V w (by omega) (by simp;omega) (λhc=>absurd hc b3) O U
 exact c4 s.length 0 [] false _ w (by omega) (by simp) (λ_=>rfl) (Dp b) h

theorem th {c:UInt8}{l:List UInt8}: ∀f i,kO [c] l f i=none->l.length<i+f-> ∀j,i<=j->l[j]? ≠some c
 |0,i,_,hl,j,hj=>by rw[lT1 (by omega)];simp
 |f+1,i,h,hl,j,hj=>by
  simp only[kO,lE0] at h
  split at h
  ·rename_i hi
   split at h
   ·cases h
   ·rename_i E
    rcases lN4 i j with g|g
    ·exact th f (i+1) h (by omega) j g
    ·obtain rfl:j=i:=by omega
     intro hc
     apply E
     have y:j<l.length:=by omega
     rw[lI0 y,lG1] at hc
     rw[lI1 y,hc];rfl
  ·rename_i hi
   rw[lT1 (by omega)];simp
theorem Gq {c:UInt8}{l:List UInt8}(y:c∈l):(idx l [c]).isSome=true:=by
 cases h:idx l [c] with
 |some _=>rfl
 |none=>
  obtain⟨j,g,rfl⟩:=lM6.1 y
  exact absurd (lI0 g) (th _ _ h (by omega) j (lB2 _))

def uf (c:UInt8)(s:List UInt8):Nat:=(s.takeWhile (· ==c)).length
theorem wz (c:UInt8)(s:List UInt8):s.take (uf c s)=hN (uf c s) c:=by
 induction s with
 |nil=>rfl
 |cons d s g=>
  by_cases h:d=c
  ·subst h
   simp only[uf,lB3,beq_self_eq_true,if_true,lF0,lG5,lA2]
   exact congrArg _ g
  ·simp[uf,lB3,h]
theorem D8 {c:UInt8}{s:List UInt8}{k:Nat}(h:k<uf c s):s[k]? =some c:=by
 have g:=wz c s
 have y:uf c s<=s.length:=(lD6 _).length_le
 have:(s.take (uf c s))[k]? =some c:=by rw[g];simp[h]
 rwa [lM3 h] at this
theorem D9 {c:UInt8}{s:List UInt8}:s[uf c s]? ≠some c:=by
 induction s with
 |nil=>simp[uf]
 |cons d s g=>
  by_cases h:d=c
  ·subst h
   simp only[uf,lB3,beq_self_eq_true,if_true,lF0,lY2]
   exact g
  ·simp[uf,lB3,h]
theorem F2 (c:UInt8)(s:List UInt8):uf c s<=s.length:=(lD6 _).length_le
def Ln.adv (l:Ln)(k:Nat):Ln:= {l with i:=l.i+k}
def rH (l:Ln)(n:Nat)(c:UInt8)(t info:List UInt8):Prop:=
 (c=96\/c=126)/\3<=n/\(l.strip 3 0).2.peek=c/\n=uf c ((l.strip 3 0).2.text.drop (l.strip 3 0).2.i)/\UnE (gw cO ((l.strip 3 0).2.text.drop ((l.strip 3 0).2.i+n))) t/\info=gw cO t/\(c=96->96 ∉ t)
def xU (l:Ln):Prop:=
 ((l.strip 3 0).2.peek≠96/\(l.strip 3 0).2.peek≠126)\/(uf (l.strip 3 0).2.peek ((l.strip 3 0).2.text.drop (l.strip 3 0).2.i)<3)\/
 ((l.strip 3 0).2.peek=96/\ ∃t,UnE (gw cO ((l.strip 3 0).2.text.drop ((l.strip 3 0).2.i+uf 96 ((l.strip 3 0).2.text.drop (l.strip 3 0).2.i)))) t/\96∈t)
theorem BI (p:UInt8->Bool)(s:List UInt8):(gw p s).length<=s.length:=by
 unfold gw wl
 have g:=(lO2 p (l:=(s.dropWhile p).reverse)).length_le
 have y:=(lO2 p (l:=s)).length_le
 rw[List.length_reverse] at g⊢
 omega
theorem pw {b nb g ib:Nat}{l:Ln}{v:Int}{b4 b3:List UInt8}{e O I:TypeId}{ec:ai}(h:Sat σ w (l.at b::(nb,cel [hY v] e)::(ib,cel [hX (bs b3)] I)::(g,cel [hX (bs b4)] O)::L))(e0:l.ok)(c5:l.text.length<100000)(d3:Bh ec)(d0:ec∈L)(W:xU l-> ∀w v,Sat σ w (l.at b::(nb,cel [hY v] e)::(ib,cel [hX (bs b3)] I)::(g,cel [hX (bs b4)] O)::L)->R (hQ (hV false)) w)(a6: ∀n c t info,rH l n c t info-> ∀w,Sat σ w (Ln.zero.at b::(nb,cel [hY ((l.strip 3 0).1:Nat)] e)::(ib,cel [hX (bs info)] I)::(g,cel [hX (bs (hN n c))] O)::L)->R (hQ (hV true)) w):
 callE P fW #[kT (kE b),kT (kE g),kT (kE ib),kT (kE nb)] R w:=by
 refine bz.sound ?_
 repeat (first|refine aa ?_|refine h.tk λw h=>?_|refine⟨_,h.ldA,?_⟩|refine⟨_,_,_,h.ldA,?_⟩|refine h.stA 0 λw h=>?_|refine h.stA 1 λw h=>?_|refine h.stA 2 λw h=>?_|refine h.stA 3 λw h=>?_|refine h.stA 4 λw h=>?_|refine h.stA 5 λw h=>?_|refine h.stA 6 λw h=>?_|refine h.bx λb0 w h=>?_)
 let V:List ai:=(ib,cel [hX (bs b3)] I)::(g,cel [hX (bs b4)] O)::L
 have h:Sat σ _ (l.at b0::l.at b::(nb,cel [hY 0] e)::V):=h
 have fin: ∀(n:Nat) (t:Ln) w,t.ok->t.text.length<100000->(n,t)=l.strip 3 0->Sat σ w (t.at b0::l.at b::(nb,cel [hY n] e)::V)->bz.k2 R (kE b) (kE g) (kE ib) b0 w:=by
  intro n t w ht b6 d1 h
  unfold xU at W
  unfold rH at a6
  rw[<-d1] at W a6
  simp only at W a6
  refine mi h (by first|assumption|(repeat (first|exact .head _|apply List.Mem.tail))) ht λw h=>⟨_,rfl,?_⟩
  by_cases hc:t.peek=96\/t.peek=126
  ·have k3:bz.k3 R (kE b) (kE g) (kE ib) b0 (t.peek.toNat:Int) true w:=by
    refine ag rfl ?_
    have c8:t.sp=0:=by
     unfold Ln.peek at hc
     split at hc
     ·rcases hc with hc|hc<;>exact absurd hc (by decide)
     ·omega
    have c4:t.str=t.text.drop t.i:=by unfold Ln.str;rw[c8];rfl
    generalize e4:t.peek=c at hc W a6⊢
    have e6:=ht.i
    have hr:=F2 c (t.text.drop t.i)
    simp only[lM1] at hr
    refine px h (by first|assumption|(repeat (first|exact .head _|apply List.Mem.tail))) ht λw h=>⟨_,rfl,?_⟩
    rw[c4]
    intro X a7
    have c2: ∀k,t.i+k<=t.text.length->(t.adv k).ok:=λk y=>⟨y,by show t.tab<=t.i+k;have:=ht.tab;omega,ht.len,ht.sp⟩
    have c3: ∀k:Nat,(t.adv k).text[(t.adv k).i]? =(t.text.drop t.i)[k]? :=by intro k;rw[lL4];rfl
    have b8: ∀m k w,k+m=uf c (t.text.drop t.i)->Sat σ w ((t.adv k).at b0::l.at b::(nb,cel [hY n] e)::V)->X (kE b) (kE g) (kE ib) b0 (c.toNat:Int) (bs (t.text.drop t.i)) (k:Int) (k:Int) w:=by
     intro m
     induction m with
     |succ m b9=>
      intro k w y h
      refine a7 _ _ _ _ _ _ _ _ _ ?_
      have b5:=c2 k (by omega)
      refine trimC_ok (c:=c) rfl h b5 ?_
      have:(t.adv k).trimC c=some (t.adv (k+1)):=by
       unfold Ln.trimC
       rw[if_neg (by show ¬ 0<t.sp;omega),if_pos (by rw[c3];exact D8 (by omega))]
       rfl
      rw[this]
      intro w h
      refine⟨_,rfl,af rfl ?_⟩
      rw[aN (by omega)]
      exact b9 (k+1) w (by omega) h
     |zero=>
      intro k w y h
      rw[lN1] at y
      refine a7 _ _ _ _ _ _ _ _ _ ?_
      have b5:=c2 k (by omega)
      refine trimC_ok (c:=c) rfl h b5 ?_
      have:(t.adv k).trimC c=none:=by
       unfold Ln.trimC
       rw[if_neg (by show ¬ 0<t.sp;omega),if_neg (by rw[c3,y];exact D9)]
      rw[this]
      intro w h
      refine⟨_,rfl,ag rfl ?_⟩
      by_cases e2:k<3
      ·exact af (by simp;omega) (W (.inr (.inl (by rw[<-y];omega))) _ _ h.tail)
      refine ag (by simp;omega) ?_
      refine uY h (by first|assumption|(repeat (first|exact .head _|apply List.Mem.tail))) b5 λw h=>⟨_,rfl,?_⟩
      have e1:=BI cO ((t.adv k).text.drop (t.adv k).i)
      have e5:((t.adv k).text.drop (t.adv k).i).length<=t.text.length:=by rw[lM1];exact Nat.sub_le _ _
      refine yA (by omega) d3 (by simp[V,d0]) h λw u c1 h=>⟨_,rfl,?_⟩
      have e3:u.length<1000000:=by have:=c1.1;omega
      have k4: ∀w,(c=96->96 ∉ u)->Sat σ w ((t.adv k).at b0::l.at b::(nb,cel [hY n] e)::V)->bz.k4 R (kE b) (kE g) (kE ib) (bs (t.text.drop t.i)) (k:Int) (bs u) w:=by
       intro w c9 h
       refine kt (by omega) ⟨_,rfl,aa ?_⟩
       have h:Sat σ w ((t.adv k).at b0::l.at b::(nb,cel [hY n] e)::(ib,cel [hX (bs b3)] I)::(g,cel [hX (bs b4)] O)::L):=h
       have h:Sat σ w ((ib,cel [hX (bs b3)] I)::(g,cel [hX (bs b4)] O)::l.at b::(t.adv k).at b0::(nb,cel [hY n] e)::L):=h.re
       refine h.stA 0 λw h=>?_
       refine⟨by omega,by simp;omega,aa ?_⟩
       rw[lC0,cj,lM2,y,wz,<-y]
       refine h.stA 1 λw h=>?_
       have h:Sat σ _ ((ib,cel [hX (bs (gw cO u))] I)::(g,cel [hX (bs (hN k c))] O)::l.at b::(t.adv k).at b0::(nb,cel [hY n] e)::L):=h
       have h:Sat σ _ (l.at b::(ib,cel [hX (bs (gw cO u))] I)::(g,cel [hX (bs (hN k c))] O)::(t.adv k).at b0::(nb,cel [hY n] e)::L):=h.re
       refine aa ?_
       refine h.stA 0 λw h=>?_
       refine h.stA 0 λw h=>?_
       refine h.stA 0 λw h=>?_
       refine h.stA 0 λw h=>?_
       refine h.stA 0 λw h=>?_
       have h:Sat σ _ (Ln.zero.at b::(ib,cel [hX (bs (gw cO u))] I)::(g,cel [hX (bs (hN k c))] O)::(t.adv k).at b0::(nb,cel [hY n] e)::L):=h
       refine a6 k c u _ ⟨hc,by omega,rfl,y,c1,rfl,c9⟩ _ ?_
       exact h.less [(t.adv k).at b0]
      by_cases U:c=96
      ·subst U
       refine ag rfl ?_
       refine j7 (sub:= [96]) (by omega) (by decide) ⟨_,rfl,?_⟩
       by_cases b7:96∈u
       ·refine ag ?_ (W (.inr (.inr ⟨rfl,u,by rw[<-y];exact c1,b7⟩)) _ _ h.tail)
        rw[Gq b7]
       ·exact af (by rw[ll b7];rfl) (k4 w (λ_=>b7) h)
      ·exact af (by rw[u8b _ 96 96 rfl];simpa using U) (k4 w (λd2=>absurd d2 U) h)
    have h:Sat σ w ((t.adv 0).at b0::l.at b::(nb,cel [hY n] e)::V):=h
    exact b8 _ 0 w (lO0 _) h
   by_cases U:t.peek=96
   ·exact ag (by rw[u8b _ 96 96 rfl];simpa using U) k3
   ·refine af (by rw[u8b _ 96 96 rfl];simpa using U) ?_
    rw[u8b _ 126 126 rfl]
    rw[show (t.peek==126)=true by have:=hc.resolve_left U;simpa using this]
    exact k3
  ·have E:t.peek≠96/\t.peek≠126:=by simpa using hc
   rw[uL (d:=126) (n:=126) rfl E.2]
   exact af (uL (d:=96) rfl E.1) (af rfl (W (.inl E) _ _ h.tail))
 intro X a7
 have b8: ∀k n (t:Ln) w,t.ok->t.text.length<100000->k+n=3->t.strip k n=l.strip 3 0->Sat σ w (t.at b0::l.at b::(nb,cel [hY n] e)::V)->
  X (kE b) (kE g) (kE ib) (kE nb) b0 w:=by
  intro k n t w ht b6 y E h
  induction k generalizing n t w with
  |zero=>
   refine a7 _ _ _ _ _ _ ?_
   repeat (first|refine aa ?_|refine h.tk λw h=>?_|refine⟨_,h.ldA,?_⟩|refine⟨_,_,_,h.ldA,?_⟩)
   exact af (by simp;omega) (fin n t w ht b6 E h)
  |succ k b9=>
   refine a7 _ _ _ _ _ _ ?_
   repeat (first|refine aa ?_|refine h.tk λw h=>?_|refine⟨_,h.ldA,?_⟩|refine⟨_,_,_,h.ldA,?_⟩)
   refine ag (by simp;omega) ?_
   refine YtendaipfdnhnaaaGreatDoor.trimSp_ok (min:=1) (max:=1) h ht (by decide) (by decide) ?_
   simp only[Ln.strip] at E
   cases hs:t.trimSp 1 1 false with
   |none=>
    rw[hs] at E
    exact λw h=>⟨_,rfl,af rfl (fin n t w ht b6 E h)⟩
   |some t'=>
    rw[hs] at E
    intro w h
    refine⟨_,rfl,ag rfl ?_⟩
    repeat (first|refine aa ?_|refine h.tk λw h=>?_|refine⟨_,h.ldA,?_⟩|refine⟨_,_,_,h.ldA,?_⟩|refine h.stA 0 λw h=>?_|refine h.stA 1 λw h=>?_|refine h.stA 2 λw h=>?_|refine h.stA 3 λw h=>?_|refine h.stA 4 λw h=>?_|refine h.stA 5 λw h=>?_|refine h.stA 6 λw h=>?_|refine h.bx λb0 w h=>?_)
    rw[aN (by omega)] at h
    refine b9 (n+1) t' _ (Ln.trimSp_ok ht hs) ?_ (by omega) E h
    rw[(Ln.tsGo_ok 1 0 ht hs).2.1];exact b6
 exact b8 3 0 l _ e0 c5 rfl rfl h

theorem Sat.allocO (h:Sat σ w L)(o:Obj):Sat σ (w.alloc o) ((w.heap.size,o)::L):=by
 refine⟨h.os,h.out,?_,λc hc=>?_⟩
 ·simp only[lO1,lW3]
  refine⟨λy=>?_,h.nodup⟩
  obtain⟨c,hc,E⟩:=lU1.1 y
  exact lN6 _ (E▸h.lt hc)
 ·cases hc with
  |head=>exact(lI4 ..).trans rfl
  |tail _ hc=>
   have g:=h.lt hc
   have:=h.at_ _ hc
   show (w.heap.push o)[c.1]? =_
   rw[lP4 g,<-lP2 g]
   exact this
theorem Sat.setO (b:Nat)(o o':Obj)(h:Sat σ w ((b,o)::L)):Sat σ {w with heap:=w.heap.setIfInBounds b o'} ((b,o')::L):=by
 have g:=h.nodup
 simp only[lO1,lW3] at g
 have hb:b<w.heap.size:=h.lt (.head _)
 refine⟨h.os,h.out,by simp only[lO1,lW3];exact g,λc hc=>?_⟩
 cases hc with
 |head=>simp[hb]
 |tail _ hc=>
  have E:c.1≠b:=λy=>g.1 (y▸lF5 hc)
  have:=h.at_ _ (.tail _ hc)
  show (w.heap.setIfInBounds b o')[c.1]? =_
  rw[lS4 (λy=>E y.symm)]
  exact this
theorem Ee {s:ByteArray}(h:Sat σ w L){K:Value->World->Prop}(y: ∀w b,Sat σ w ((b,.stringIter s 0)::L)->K (kT (kE b)) w):
 ∃v g,(Instr.range aq (hX s)).run P w= .ok v g/\K v g:=
 ⟨_,_,run_range_string (P:=P) w aq s (by kernel_rfl),y _ _ (h.allocO _)⟩
theorem Gd {b pos:Nat}{s:ByteArray}{ty:TypeId}(h:Sat σ w ((b,.stringIter s pos)::L))(g:pos<s.size)(O:(s[pos]'g).toNat<128){K:Int->Int->World->Prop}(I: ∀w,Sat σ w ((b,.stringIter s (pos+1))::L)->K pos (s[pos]'g).toNat w):
 ∃r0 y E,(Instr.next (kT (kE b)) true ty).run P w= .ok (.tuple #[hV true,hY r0,.int .i32 y]) E/\K r0 y E:=by
 have hb:=h.at_ _ (.head _)
 refine⟨_,_,_,?_,I _ (h.setO b _ (.stringIter s (pos+1)))⟩
 have hd:=decode_ascii s pos g O
 simp only[Instr.next,getObj,setObj,lX0,Sem.run,hb,Result.andThen,g,if_true,hd]
 simp[goInt,Sem.run,hb]
theorem Em {b pos:Nat}{s:ByteArray}{ty:TypeId}(h:Sat σ w ((b,.stringIter s pos)::L))(g: ¬ pos<s.size):(Instr.next (kT (kE b)) true ty).run P w= .ok (.tuple #[hV false]) w:=by
 have hb:=h.at_ _ (.head _)
 simp[Instr.next,getObj,Sem.run,hb,g]

def pr (g:Nat)(F info:List UInt8)(q:Option Addr)(n c:Nat):ai:=(g,cel [hX (bs F),hX (bs info),hY 0,hT q n c] m0)
def xV (y:Nat)(F info:List UInt8)(ls:List (List UInt8))(M:List ai):Prop:=
 ∃q c g,Sl 1 aq q ls.length c (sv ls) g/\M=pr y F info q ls.length c::g
theorem oP:ns P gQ "pub-paratext/pub/rscmarkdown.extend" gF=true:=by kernel_rfl
theorem vp:ns P gQ "pub-paratext/pub/rscmarkdown.build" ik=true:=by kernel_rfl
theorem yi (l:Ln)(e:Bool):l.trimSp 0 0 e=some l:=rfl
def DD (F:List UInt8)(l:Ln):Prop:= ¬ xU l/\ ∀n c t info,rH l n c t info->(hN n c).take F.length=F/\info= []
def vY (F:List UInt8)(l:Ln):Prop:= ∀n c t info,rH l n c t info->(hN n c).take F.length≠F
theorem rz {g b:Nat}{p:PS}{F info:List UInt8}{ls:List (List UInt8)}{c5:List ai}{l:Ln}{ec:ai}(h:Sat σ w (p.at b::(c5++L)))(e8:xV g F info ls c5)(c8:l.ok)(e9:ls.length<1048576)(e2:l.text.length<100000)(e7:Bh ec)(e0:ec∈L)(e1:vY F l-> ∀w (p':PS) d0,p'= {p with corner:=p'.corner}->xV g F info (ls++ [l.str]) d0->Sat σ w (p'.at b::(d0++L))->R (hQ (.tuple #[Ln.zero.val,hV true])) w)(d2: ¬ vY F l-> ∀w,Sat σ w (p.at b::(c5++L))->R (hQ (.tuple #[Ln.zero.val,hV false])) w)(c2:vY F l\/DD F l):callE P gF #[kT (kE g),kT (kE b),l.val] R w:=by
 obtain⟨q,c,a7,e3,rfl⟩:=e8
 refine bA.sound ?_
 refine Sat.bx h λb1 w h=>?_
 refine Sat.bx h λy w h=>?_
 refine Sat.bx h λI w h=>?_
 refine Sat.bx h λO w h=>?_
 refine Sat.bx h λE w h=>?_
 repeat (first|refine aa ?_|refine h.tk λw h=>?_|refine⟨_,h.ldA,?_⟩|refine⟨_,_,_,h.ldA,?_⟩|refine h.stA 0 λw h=>?_|refine h.stA 1 λw h=>?_|refine h.stA 2 λw h=>?_|refine h.stA 3 λw h=>?_|refine h.stA 4 λw h=>?_|refine h.stA 5 λw h=>?_|refine h.stA 6 λw h=>?_|refine h.bx λb0 w h=>?_)
 have h:Sat σ _ (l.at b0::(E,cel [hY 0] ba)::(O,cel [hX (bs [])] aq)::(I,cel [hX (bs [])] aq)::(zLn y::l.at b1::(p.at b::(pr g F info q ls.length c::a7++L)))):=h
 have k1: ∀w (U:Ln) (v:Int) (i f:List UInt8),vY F l->Sat σ w (U.at b0::(E,cel [hY v] ba)::(O,cel [hX (bs i)] aq)::(I,cel [hX (bs f)] aq)::(zLn y::l.at b1::(p.at b::(pr g F info q ls.length c::a7++L))))->
  bA.k1 R (kE g) (kE b) b1 y w:=by
  intro w U v i f c4 h
  have h:Sat σ w (l.at b1::pr g F info q ls.length c::zLn y::p.at b::(a7++(U.at b0::(E,cel [hY v] ba)::(O,cel [hX (bs i)] aq)::(I,cel [hX (bs f)] aq)::L))):=h.re
  refine h.tk λw h=>?_
  refine aa (aa ?_)
  refine⟨_,Sat.ld h (.tail _ (.head _)) (i:=2) rfl,_,Sat.ld h (.tail _ (.head _)) (i:=2) rfl,?_⟩
  refine trimSp_ok (min:=0) (max:=0) h c8 (by decide) (by decide) ?_
  rw[yi]
  intro w h
  refine⟨_,rfl,af rfl ?_⟩
  unfold bA.k2
  refine h.tk λw h=>?_
  refine aa ?_
  refine⟨_,_,_,Sat.ld h (.tail _ (.head _)) (i:=3) rfl,?_⟩
  have h0:=h
  refine px h (.head _) c8 λw h=>⟨_,rfl,h0.same h (.tail _ (.head _)) (.tail _ (.head _)) 1,?_⟩
  have h:Sat σ w (a7++(l.at b1::pr g F info q ls.length c::zLn y::p.at b::(U.at b0::(E,cel [hY v] ba)::(O,cel [hX (bs i)] aq)::(I,cel [hX (bs f)] aq)::L))):=h.re
  have b8:pr g F info q ls.length c∈(a7++(l.at b1::pr g F info q ls.length c::zLn y::p.at b::(U.at b0::(E,cel [hY v] ba)::(O,cel [hX (bs i)] aq)::(I,cel [hX (bs f)] aq)::L))):=by simp
  have e5:=h
  refine Sat.app1S rowStr e3 h (v:= hX (bs l.str)) rfl (by simp[Value.cells,Value.oneCell']) (EA l.str) (by omega) (by omega) (by decide) (λf0 X e6=>e5.same e6 b8 (.tail _ b8) 1) λW a6 w V d3 h=>?_
  have h:Sat σ w (pr g F info q ls.length c::p.at b::zLn y::l.at b1::(V++(U.at b0::(E,cel [hY v] ba)::(O,cel [hX (bs i)] aq)::(I,cel [hX (bs f)] aq)::L))):=h.re
  refine aa ?_
  refine h.stA 0 λw h=>?_
  have h:Sat σ w (p.at b::zLn y::l.at b1::pr g F info W (ls.length+1) a6::(V++(U.at b0::(E,cel [hY v] ba)::(O,cel [hX (bs i)] aq)::(I,cel [hX (bs f)] aq)::L))):=by
   have h:Sat σ w (pr g F info W (ls.length+1) a6::p.at b::zLn y::l.at b1::(V++(U.at b0::(E,cel [hY v] ba)::(O,cel [hX (bs i)] aq)::(I,cel [hX (bs f)] aq)::L))):=h
   exact h.re
  have c9: ∀(k:Bool) w,Sat σ w (({p with corner:=k}:PS).at b::zLn y::l.at b1::pr g F info W (ls.length+1) a6::(V++(U.at b0::(E,cel [hY v] ba)::(O,cel [hX (bs i)] aq)::(I,cel [hX (bs f)] aq)::L)))->R (hQ (.tuple #[Ln.zero.val,hV true])) w:=by
   intro k w h
   refine e1 c4 w {p with corner:=k} (pr g F info W (ls++ [l.str]).length a6::V) rfl ⟨W,a6,V,?_,rfl⟩ ?_
   ·rw[lA0,lE0]
    have e:sv (ls++ [l.str])=sv ls++ [hX (bs l.str)]:=by simp[sv]
    rw[e];exact d3
   ·rw[lA0,lE0]
    exact h.less [zLn y,l.at b1,U.at b0,(E,cel [hY v] ba),(O,cel [hX (bs i)] aq),(I,cel [hX (bs f)] aq)]
  refine aa ?_
  refine⟨_,Sat.ld h (.head _) (i:=6) rfl,bp (λ_=>?_) λ_=>?_⟩
  ·refine aa ?_
   refine h.stA 0 λw h=>?_
   have h:Sat σ w (zLn y::({p with corner:=true}:PS).at b::l.at b1::pr g F info W (ls.length+1) a6::(V++(U.at b0::(E,cel [hY v] ba)::(O,cel [hX (bs i)] aq)::(I,cel [hX (bs f)] aq)::L))):=by
    have h:Sat σ w (({p with corner:=true}:PS).at b::zLn y::l.at b1::pr g F info W (ls.length+1) a6::(V++(U.at b0::(E,cel [hY v] ba)::(O,cel [hX (bs i)] aq)::(I,cel [hX (bs f)] aq)::L))):=h
    exact h.re
   repeat (first|refine aa ?_|refine h.tk λw h=>?_|refine⟨_,h.ldA,?_⟩|refine⟨_,_,_,h.ldA,?_⟩|refine h.stA 0 λw h=>?_|refine h.stA 1 λw h=>?_|refine h.stA 2 λw h=>?_|refine h.stA 3 λw h=>?_|refine h.stA 4 λw h=>?_|refine h.stA 5 λw h=>?_|refine h.stA 6 λw h=>?_|refine h.bx λb0 w h=>?_)
   refine c9 true _ ?_
   have h:Sat σ _ (zLn y::({p with corner:=true}:PS).at b::l.at b1::pr g F info W (ls.length+1) a6::(V++(U.at b0::(E,cel [hY v] ba)::(O,cel [hX (bs i)] aq)::(I,cel [hX (bs f)] aq)::L))):=h
   exact h.re
  ·refine⟨_,Sat.ld h (.tail _ (.tail _ (.head _))) (i:=4) rfl,aa ?_⟩
   refine h.stA 0 λw h=>?_
   generalize ((l.nl.toNat:Int) !=10)=kk at h
   have h:Sat σ w (zLn y::({p with corner:=kk}:PS).at b::l.at b1::pr g F info W (ls.length+1) a6::(V++(U.at b0::(E,cel [hY v] ba)::(O,cel [hX (bs i)] aq)::(I,cel [hX (bs f)] aq)::L))):=by
    have h:Sat σ w (({p with corner:=kk}:PS).at b::zLn y::l.at b1::pr g F info W (ls.length+1) a6::(V++(U.at b0::(E,cel [hY v] ba)::(O,cel [hX (bs i)] aq)::(I,cel [hX (bs f)] aq)::L))):=h
    exact h.re
   repeat (first|refine aa ?_|refine h.tk λw h=>?_|refine⟨_,h.ldA,?_⟩|refine⟨_,_,_,h.ldA,?_⟩|refine h.stA 0 λw h=>?_|refine h.stA 1 λw h=>?_|refine h.stA 2 λw h=>?_|refine h.stA 3 λw h=>?_|refine h.stA 4 λw h=>?_|refine h.stA 5 λw h=>?_|refine h.stA 6 λw h=>?_|refine h.bx λb0 w h=>?_)
   refine c9 kk _ ?_
   have h:Sat σ _ (zLn y::({p with corner:=kk}:PS).at b::l.at b1::pr g F info W (ls.length+1) a6::(V++(U.at b0::(E,cel [hY v] ba)::(O,cel [hX (bs i)] aq)::(I,cel [hX (bs f)] aq)::L))):=h
   exact h.re
 refine pw h c8 e2 e7 (by simp[e0]) ?_ ?_
 ·intro e4 w v h
  refine⟨_,rfl,af rfl (k1 w _ _ _ _ ?_ h)⟩
  exact c2.resolve_right λb6=>b6.1 e4
 ·intro n c0 t b4 c3 w h
  refine⟨_,rfl,ag rfl (aa ?_)⟩
  refine⟨_,Sat.ld h (.tail _ (.tail _ (.tail _ (.head _)))) (i:=0) rfl,?_⟩
  have b8:pr g F info q ls.length c∈(Ln.zero.at b0::(E,cel [hY ((l.strip 3 0).1:Nat)] ba)::(O,cel [hX (bs b4)] aq)::(I,cel [hX (bs (hN n c0))] aq)::(zLn y::l.at b1::(p.at b::(pr g F info q ls.length c::a7++L)))):=by simp
  refine⟨_,Sat.ld h b8 (i:=0) rfl,?_⟩
  refine xw (s:=hN n c0) (t:=F) ⟨_,rfl,?_⟩
  by_cases c1:(hN n c0).take F.length=F
  ·have d1: ¬ vY F l:=λc4=>c4 n c0 t b4 c3 c1
   have b6:=c2.resolve_left d1
   have hi:b4= []:=(b6.2 n c0 t b4 c3).2
   refine ag (decide_eq_true c1) ?_
   refine⟨_,Sat.ld h (.tail _ (.tail _ (.head _))) (i:=0) rfl,ag (by rw[hi,cJ,gx];rfl) ?_⟩
   have h:Sat σ w (zLn y::l.at b1::(E,cel [hY ((l.strip 3 0).1:Nat)] ba)::(O,cel [hX (bs b4)] aq)::(I,cel [hX (bs (hN n c0))] aq)::Ln.zero.at b0::(p.at b::(pr g F info q ls.length c::a7++L))):=h.re
   repeat (first|refine aa ?_|refine h.tk λw h=>?_|refine⟨_,h.ldA,?_⟩|refine⟨_,_,_,h.ldA,?_⟩|refine h.stA 0 λw h=>?_|refine h.stA 1 λw h=>?_|refine h.stA 2 λw h=>?_|refine h.stA 3 λw h=>?_|refine h.stA 4 λw h=>?_|refine h.stA 5 λw h=>?_|refine h.stA 6 λw h=>?_|refine h.bx λb0 w h=>?_)
   have h:Sat σ _ (zLn y::l.at b1::(E,cel [hY ((l.strip 3 0).1:Nat)] ba)::(O,cel [hX (bs b4)] aq)::(I,cel [hX (bs (hN n c0))] aq)::Ln.zero.at b0::(p.at b::(pr g F info q ls.length c::a7++L))):=h
   exact d2 d1 _ h.tail.tail.tail.tail.tail.tail
  ·refine af (decide_eq_false c1) (k1 w _ _ _ _ ?_ h)
   refine c2.resolve_right λb6=>c1 (b6.2 n c0 t b4 c3).1
def Bs (nb s e:Nat)(F info:List UInt8)(q:Option Addr)(n c:Nat):ai:=(nb,cel [hY s,hY e,hX (bs F),hX (bs info),hT q n c] na)
theorem y8 {b g:Nat}{p:PS}{ob:List OB}{o:OB}{F info:List UInt8}{ls:List (List UInt8)}{M I:List ai}(h:Sat σ w (p.at b::M++(I++L)))(hs:Stk p (ob++ [o]) M)(V:xV g F info ls I)(U: ∀w nb q c y,Sl 1 aq q ls.length c (sv ls) y->Sat σ w (p.at b::M++(Bs nb o.s o.e F info q ls.length c::(y++L)))->R (hQ (.iface cL (kT (kE nb)))) w):
 callE P ik #[kT (kE g),.iface ah (kT (kE b))] R w:=by
 obtain⟨q,c,y,O,rfl⟩:=V
 refine iu.sound ?_
 have h:Sat σ w (pr g F info q ls.length c::(p.at b::M++(y++L))):=h.re
 refine h.tk λw h=>?_
 refine aa (aa (aa ?_))
 refine⟨_,Sat.ld h (.head _) (i:=0) rfl,_,Sat.ld h (.head _) (i:=1) rfl,_,_,_,Sat.ld h (.head _) (i:=3) rfl,?_⟩
 have h0:=h
 have h:Sat σ w (p.at b::M++(pr g F info q ls.length c::(y++L))):=h.re
 refine bm n8 ?_
 have E:pr g F info q ls.length c∈p.at b::M++(pr g F info q ls.length c::(y++L)):=by simp
 refine uk h hs λw h=>⟨_,_,rfl,h0.same h (.head _) E 1,h0.same h (.head _) E 1,h0.same h (.head _) E 1,?_⟩
 refine Sat.bx h λnb w h=>?_
 refine U w nb q c y O ?_
 have h:Sat σ w (Bs nb o.s o.e F info q ls.length c::(p.at b::M++(pr g F info q ls.length c::(y++L)))):=h
 exact h.less [pr g F info q ls.length c]

theorem wG:lg P df "Pos" cA=true:=by kernel_rfl
theorem Cb:lg P dW "Pos" cA=true:=by kernel_rfl
abbrev bkV (t:TypeId)(nb:Nat):Value:= .iface t (kT (kE nb))
theorem AW {nb s e:Nat}{F info:List UInt8}{q:OA}{c:Nat}{ls:List (List UInt8)}{y:List ai}(U:Sl 1 aq q ls.length c (sv ls) y)(O:ls.length<1048576)(hb:(dI ls).length<1073741824)(I:ls.head? ≠some [])(W:F.length<1073741824)(hi:info.length<1073741824):
 qW bR (.mk {kind:=7,text:=dI ls,title:=info,mark:=F,s:=s,e:=e} []) (bkV cL nb) (Bs nb s e F info q ls.length c::y):=by
 intro σ R L w h V
 refine cg.sound ?_
 refine fQ pD h (.head _) λb1 E w h=>?_
 refine⟨_,_,_,cl (by kernel_rfl) (by decide) w,af rfl ?_⟩
 refine⟨_,_,_,cl (by kernel_rfl) (by decide) w,af rfl ?_⟩
 refine⟨_,_,_,cl (by kernel_rfl) (by decide) w,af rfl ?_⟩
 refine⟨_,_,_,cl (by kernel_rfl) (by decide) w,af rfl ?_⟩
 refine⟨_,_,_,cl (by kernel_rfl) (by decide) w,af rfl ?_⟩
 refine⟨_,_,_,cl (by kernel_rfl) (by decide) w,af rfl ?_⟩
 refine⟨_,_,_,cl (by kernel_rfl) (by decide) w,af rfl ?_⟩
 refine⟨_,_,_,iH (by kernel_rfl) w,ag rfl ?_⟩
 refine h.tk λw h=>aa (aa (aa ⟨_,Sat.ld h (.tail _ (.tail _ (.head _))) (i:=3) rfl,_,Sat.ld h (.tail _ (.tail _ (.head _))) (i:=2) rfl,_,_,_,Sat.ld h (.tail _ (.tail _ (.head _))) (i:=4) rfl,?_⟩))
 have h0:=h
 have g:Bs nb s e F info q ls.length c∈((E,cel (N16.C {a8:=s,a9:=e}).toList aj)::(b1,cel (N16.C {}).toList aj)::(Bs nb s e F info q ls.length c::y++L)):= .tail _ (.tail _ (.head _))
 have h:Sat σ w (y++((E,cel (N16.C {a8:=s,a9:=e}).toList aj)::(b1,cel (N16.C {}).toList aj)::Bs nb s e F info q ls.length c::L)):=h.re
 refine CI U h O hb I λw h=>⟨_,rfl,?_⟩
 have h:Sat σ w ((E,cel (N16.C {a8:=s,a9:=e}).toList aj)::(b1,cel (N16.C {}).toList aj)::(Bs nb s e F info q ls.length c::y++L)):=h.re
 refine⟨h0.same h g g 1,h0.same h g g 1,?_⟩
 have h0:=h
 refine Sat.st h (k:=0) rfl (by show 0<16;decide) trivial rfl λw h=>?_
 refine⟨h0.same h g (.tail _ (.tail _ (.head _))) 1,h0.same h g (.tail _ (.tail _ (.head _))) 1,?_⟩
 have h0:=h
 refine Sat.st h (k:=0) rfl (by show 2<16;decide) trivial rfl λw h=>?_
 refine⟨h0.same h (.tail _ (.tail _ (.head _))) (.tail _ (.tail _ (.head _))) 1,?_⟩
 refine Sat.st h (k:=0) rfl (by show 10<16;decide) trivial rfl λw h=>?_
 refine Sat.st h (k:=0) rfl (by show 1<16;decide) trivial rfl λw h=>?_
 exact iy (v:=IH.nd {kind:=7,text:=dI ls,title:=info,mark:=F,s:=s,e:=e} none 0 0) (u:= {}) (NM:= []) (NodeAt.leaf ⟨hb,hi,bY,W⟩) h V
theorem yW {nb s e:Nat}{q:OA}{n c:Nat}{vs:List Value}{IM KM:List ai}{xs:List IN}(a6:Sl 1 aO q n c vs IM)(a7:j6 bR xs vs KM)(b4:n<1073741824):
 qW bR (.mk {kind:=2,s:=s,e:=e} xs) (bkV ki nb) (Ef nb s e q n c::(IM++KM)):=by
 intro σ R L w h b3
 refine cg.sound ?_
 refine fQ wF h (.head _) λb1 y w h=>?_
 refine⟨_,_,_,cl (by kernel_rfl) (by decide) w,af rfl ?_⟩
 refine⟨_,_,_,iH (by kernel_rfl) w,ag rfl ?_⟩
 refine aa ⟨_,_,_,Sat.ld h (.tail _ (.tail _ (.head _))) (i:=2) rfl,?_⟩
 have h:Sat σ w (IM++(KM++((y,cel (N16.C {a8:=s,a9:=e}).toList aj)::(b1,cel (N16.C {}).toList aj)::Ef nb s e q n c::L))):=h.re
 refine n5 a6 a7 h b4 λw E O I us g NM V U W h=>⟨_,_,_,rfl,?_⟩
 have h:Sat σ w ((y,cel (N16.C {a8:=s,a9:=e}).toList aj)::(b1,cel (N16.C {}).toList aj)::((g++NM)++(Ef nb s e q n c::(IM++KM)++L))):=h.re
 refine Sat.st h (k:=0) rfl (by show 0<16;decide) trivial rfl λw h=>?_
 refine Sat.st h (k:=0) rfl (by show 7<16;decide) trivial rfl λw h=>?_
 exact iy (v:=IH.nd {kind:=2,s:=s,e:=e} E O I) (u:= {}) (NM:=g++NM) ⟨_,xs,E,O,I,us,g,NM,rfl,rfl,rfl,⟨bY,bY,bY,bY⟩,V,U,W⟩ h b3
theorem CS {db s e:Nat}{q:OA}{n c:Nat}{vs:List Value}{IM KM:List ai}{xs:List IN}(b3:Sl 1 aO q n c vs IM)(b4:j6 bR xs vs KM)(b6:n<1073741824):
 qW bR (.mk {kind:=1,s:=s,e:=e} xs) (bkV df db) (Br db s e q n c none::(IM++KM)):=by
 intro σ R L w h b5
 refine cg.sound ?_
 refine fQ wG h (.head _) λb1 y w h=>?_
 refine⟨_,_,_,iH (by kernel_rfl) w,ag rfl ?_⟩
 refine aa ⟨_,_,_,Sat.ld h (.tail _ (.tail _ (.head _))) (i:=2) rfl,?_⟩
 have h:Sat σ w (IM++(KM++((y,cel (N16.C {a8:=s,a9:=e}).toList aj)::(b1,cel (N16.C {}).toList aj)::Br db s e q n c none::L))):=h.re
 refine n5 b3 b4 h b6 λw E O I us g NM V U a6 h=>⟨_,_,_,rfl,?_⟩
 have h:Sat σ w ((y,cel (N16.C {a8:=s,a9:=e}).toList aj)::(b1,cel (N16.C {}).toList aj)::((g++NM)++(Br db s e q n c none::(IM++KM)++L))):=h.re
 refine Sat.st h (k:=0) rfl (by show 0<16;decide) trivial rfl λw h=>?_
 refine Sat.st h (k:=0) rfl (by show 7<16;decide) trivial rfl λw h=>?_
 have h:Sat σ w ((y,cel (IH.nd {kind:=1,s:=s,e:=e} E O I).C.toList aj)::(b1,cel (N16.C {}).toList aj)::((g++NM)++(Br db s e q n c none::(IM++KM)++L))):=h
 have W:Br db s e q n c none∈((y,cel (IH.nd {kind:=1,s:=s,e:=e} E O I).C.toList aj)::(b1,cel (N16.C {}).toList aj)::((g++NM)++(Br db s e q n c none::(IM++KM)++L))):=by simp
 refine aa ⟨_,Sat.ld h W (i:=3) rfl,_,_,vg w,?_⟩
 have h:=h.alo (.mapIter none 0 #[] 0)
 generalize b7:w.alloc (.mapIter none 0 #[] 0)=w at h⊢
 intro X a7
 refine a7 _ _ _ _ (.inl ⟨_,wy (h.at_ _ (.head _)),?_⟩)
 have h:=h.tail
 refine⟨_,_,_,Sat.ld h (.head _) (i:=15) rfl,?_⟩
 refine DY ⟨rfl,?_⟩
 exact iy (v:=IH.nd {kind:=1,s:=s,e:=e} E O I) (u:= {}) (NM:=g++NM) ⟨_,xs,E,O,I,us,g,NM,rfl,rfl,rfl,⟨bY,bY,bY,bY⟩,V,U,a6⟩ h b5
theorem AV {nb s e wd:Nat}{q:OA}{n c:Nat}{vs:List Value}{IM KM:List ai}{xs:List IN}(a6:Sl 1 aO q n c vs IM)(a7:j6 bR xs vs KM)(b4:n<1073741824):
 qW bR (.mk {kind:=4,width:=wd,s:=s,e:=e} xs) (bkV fU nb) ((nb,cel [hY s,hY e,hT q n c,hY wd] m9)::(IM++KM)):=by
 intro σ R L w h b3
 refine cg.sound ?_
 refine fQ zH h (.head _) λb1 y w h=>?_
 refine⟨_,_,_,cl (by kernel_rfl) (by decide) w,af rfl ?_⟩
 refine⟨_,_,_,cl (by kernel_rfl) (by decide) w,af rfl ?_⟩
 refine⟨_,_,_,cl (by kernel_rfl) (by decide) w,af rfl ?_⟩
 refine⟨_,_,_,iH (by kernel_rfl) w,ag rfl ?_⟩
 refine h.tk λw h=>aa ⟨_,_,_,Sat.ld h (.tail _ (.tail _ (.head _))) (i:=2) rfl,?_⟩
 refine tg.sound ?_
 refine aa ⟨_,Sat.ld h (.tail _ (.tail _ (.head _))) (i:=3) rfl,_,rfl,λ_ _=>rfl,?_⟩
 have h:Sat σ w (IM++(KM++((y,cel (N16.C {a8:=s,a9:=e}).toList aj)::(b1,cel (N16.C {}).toList aj)::(nb,cel [hY s,hY e,hT q n c,hY wd] m9)::L))):=h.re
 refine n5 a6 a7 h b4 λw E O I us g NM V U W h=>⟨_,_,_,rfl,?_⟩
 have h:Sat σ w ((y,cel (N16.C {a8:=s,a9:=e}).toList aj)::(b1,cel (N16.C {}).toList aj)::((g++NM)++((nb,cel [hY s,hY e,hT q n c,hY wd] m9)::(IM++KM)++L))):=h.re
 refine Sat.st h (k:=0) rfl (by show 0<16;decide) trivial rfl λw h=>?_
 refine Sat.st h (k:=0) rfl (by show 11<16;decide) trivial rfl λw h=>?_
 refine Sat.st h (k:=0) rfl (by show 7<16;decide) trivial rfl λw h=>?_
 exact iy (v:=IH.nd {kind:=4,width:=wd,s:=s,e:=e} E O I) (u:= {}) (NM:=g++NM) ⟨_,xs,E,O,I,us,g,NM,rfl,rfl,rfl,⟨bY,bY,bY,bY⟩,V,U,W⟩ h b3
theorem AU {nb s e:Nat}{bul:UInt8}{num:Int}{lo:Bool}{q:OA}{n c:Nat}{vs:List Value}{IM KM:List ai}{xs:List IN}(c2:Utf8.encode (bul.toNat:Int)=bs [bul])(b9:Sl 1 aO q n c vs IM)(c1:j6 bR xs vs KM)(c3:n<1073741824):
 qW bR (.mk {kind:=3,num:=if bul=46\/bul=41 then num else -1,char:= [bul],loose:=lo,s:=s,e:=e} xs) (bkV dn nb) (tQ nb s e (bul.toNat:Int) num lo q n c::(IM++KM)):=by
 intro σ R L w h a6
 refine cg.sound ?_
 refine fQ zG h (.head _) λb1 V w h=>?_
 refine⟨_,_,_,cl (by kernel_rfl) (by decide) w,af rfl ?_⟩
 refine⟨_,_,_,cl (by kernel_rfl) (by decide) w,af rfl ?_⟩
 refine⟨_,_,_,iH (by kernel_rfl) w,ag rfl ?_⟩
 have g: ∀ {X:ai} {K:List ai},tQ nb s e (bul.toNat:Int) num lo q n c∈X::(b1,cel (N16.C {}).toList aj)::(tQ nb s e (bul.toNat:Int) num lo q n c::K):= .tail _ (.tail _ (.head _))
 refine h.tk λw h=>aa (aa (aa ⟨_,Sat.ld h g (i:=2) rfl,_,Sat.ld h g (i:=4) rfl,_,_,_,Sat.ld h g (i:=5) rfl,?_⟩))
 have h0:=h
 have h:Sat σ w (IM++(KM++((V,cel (N16.C {a8:=s,a9:=e}).toList aj)::(b1,cel (N16.C {}).toList aj)::tQ nb s e (bul.toNat:Int) num lo q n c::L))):=h.re
 refine n5 b9 c1 h c3 λw O I U us E NM b4 b3 b5 h=>⟨_,_,_,rfl,?_⟩
 have h:Sat σ w ((V,cel (N16.C {a8:=s,a9:=e}).toList aj)::(b1,cel (N16.C {}).toList aj)::(tQ nb s e (bul.toNat:Int) num lo q n c::(E++NM++(IM++KM++L)))):=h.re
 refine⟨h0.same h g g 1,h0.same h g g 1,?_⟩
 have h0:=h
 refine Sat.st h (k:=0) rfl (by show 0<16;decide) trivial rfl λw h=>?_
 refine⟨h0.same h g g 1,h0.same h g g 1,?_⟩
 have h0:=h
 refine Sat.st h (k:=0) rfl (by show 3<16;decide) trivial rfl λw h=>?_
 refine⟨h0.same h g g 1,h0.same h g g 1,?_⟩
 have h0:=h
 rw[c2]
 refine Sat.st h (k:=0) rfl (by show 4<16;decide) trivial rfl λw h=>?_
 refine⟨h0.same h g g 1,?_⟩
 refine Sat.st h (k:=0) rfl (by show 5<16;decide) trivial rfl λw h=>?_
 refine Sat.st h (k:=0) rfl (by show 7<16;decide) trivial rfl λw h=>?_
 have h:Sat σ w ((V,cel (IH.nd {kind:=3,num:= -1,char:= [bul],loose:=lo,s:=s,e:=e} O I U).C.toList aj)::(b1,cel (N16.C {}).toList aj)::(tQ nb s e (bul.toNat:Int) num lo q n c::(E++NM++(IM++KM++L)))):=h
 refine aa ⟨_,Sat.ld h g (i:=2) rfl,?_⟩
 have fin: ∀(k:Bool) w,(k=true<->(bul=46\/bul=41))->Sat σ w ((V,cel (IH.nd {kind:=3,num:= -1,char:= [bul],loose:=lo,s:=s,e:=e} O I U).C.toList aj)::(b1,cel (N16.C {}).toList aj)::(tQ nb s e (bul.toNat:Int) num lo q n c::(E++NM++(IM++KM++L))))->
  cg.k1 R b1 V (kE nb) k w:=by
  intro k w b6 h
  cases k with
  |true=>
   have a7:=b6.1 rfl
   rw[if_pos a7] at a6
   refine ag rfl (aa ⟨_,Sat.ld h g (i:=3) rfl,?_⟩)
   refine Sat.st h (k:=0) rfl (by show 3<16;decide) trivial rfl λw h=>?_
   have h:Sat σ w ((V,cel (IH.nd {kind:=3,num:=num,char:= [bul],loose:=lo,s:=s,e:=e} O I U).C.toList aj)::(b1,cel (N16.C {}).toList aj)::(tQ nb s e (bul.toNat:Int) num lo q n c::(E++NM++(IM++KM++L)))):=h
   exact iy (v:=IH.nd {kind:=3,num:=num,char:= [bul],loose:=lo,s:=s,e:=e} O I U) (u:= {}) (NM:=E++NM) (K:=tQ nb s e (bul.toNat:Int) num lo q n c::(IM++KM)++L) ⟨_,xs,O,I,U,us,E,NM,rfl,rfl,rfl,⟨bY,bY,by show 1<_;decide,bY⟩,b4,b3,b5⟩ h.re a6
  |false=>
   have a7: ¬ (bul=46\/bul=41):=λy=>absurd (b6.2 y) (by decide)
   rw[if_neg a7] at a6
   refine af rfl ?_
   exact iy (v:=IH.nd {kind:=3,num:= -1,char:= [bul],loose:=lo,s:=s,e:=e} O I U) (u:= {}) (NM:=E++NM) (K:=tQ nb s e (bul.toNat:Int) num lo q n c::(IM++KM)++L) ⟨_,xs,O,I,U,us,E,NM,rfl,rfl,rfl,⟨bY,bY,by show 1<_;decide,bY⟩,b4,b3,b5⟩ h.re a6
 have b8:(((bul.toNat:Nat):Int)==46)=(bul==46):=mW bul 46
 have b7:(((bul.toNat:Nat):Int)==41)=(bul==41):=mW bul 41
 rw[b8]
 refine bp (λW=>?_) λW=>?_
 ·have:=eq_of_beq W
  exact fin true w ⟨λ_=> .inl this,λ_=>rfl⟩ h
 ·refine aa ⟨_,Sat.ld h g (i:=2) rfl,?_⟩
  rw[b7]
  refine fin _ w ⟨λy=> .inr (eq_of_beq y),λy=>?_⟩ h
  rcases y with y|y
  ·rw[y] at W;exact absurd W (by decide)
  ·rw[y];rfl
theorem AR {nb t s e s' e':Nat}{raw:List UInt8}{q:OA}{n c:Nat}{vs:List Value}{RM KM:List ai}{xs:List IN}(a6:Sl 1 aC q n c vs RM)(a7:j6 ez xs vs KM)(b4:n<1073741824):
 qW bR (.mk {kind:=6,s:=s,e:=e} xs) (bkV bD nb) (lE nb s e t::fC t s' e' q n c raw::(RM++KM)):=by
 intro σ R L w h b3
 refine cg.sound ?_
 refine fQ pC h (.head _) λb1 y w h=>?_
 refine⟨_,_,_,cl (by kernel_rfl) (by decide) w,af rfl ?_⟩
 refine⟨_,_,_,cl (by kernel_rfl) (by decide) w,af rfl ?_⟩
 refine⟨_,_,_,cl (by kernel_rfl) (by decide) w,af rfl ?_⟩
 refine⟨_,_,_,cl (by kernel_rfl) (by decide) w,af rfl ?_⟩
 refine⟨_,_,_,cl (by kernel_rfl) (by decide) w,af rfl ?_⟩
 refine⟨_,_,_,iH (by kernel_rfl) w,ag rfl ?_⟩
 refine aa ⟨_,Sat.ld h (.tail _ (.tail _ (.head _))) (i:=2) rfl,aa ⟨_,_,_,Sat.ld h (.tail _ (.tail _ (.tail _ (.head _)))) (i:=2) rfl,?_⟩⟩
 have h:Sat σ w (RM++(KM++((y,cel (N16.C {a8:=s,a9:=e}).toList aj)::(b1,cel (N16.C {}).toList aj)::lE nb s e t::fC t s' e' q n c raw::L))):=h.re
 refine jw a6 a7 h b4 λw E O I us g NM V U W h=>⟨_,_,_,rfl,?_⟩
 have h:Sat σ w ((y,cel (N16.C {a8:=s,a9:=e}).toList aj)::(b1,cel (N16.C {}).toList aj)::((g++NM)++(lE nb s e t::fC t s' e' q n c raw::(RM++KM)++L))):=h.re
 refine Sat.st h (k:=0) rfl (by show 0<16;decide) trivial rfl λw h=>?_
 refine Sat.st h (k:=0) rfl (by show 7<16;decide) trivial rfl λw h=>?_
 exact iy (v:=IH.nd {kind:=6,s:=s,e:=e} E O I) (u:= {}) (NM:=g++NM) ⟨_,xs,E,O,I,us,g,NM,rfl,rfl,rfl,⟨bY,bY,bY,bY⟩,V,U,W⟩ h b3
theorem AQ {t s e:Nat}{raw:List UInt8}{q:OA}{n c:Nat}{vs:List Value}{RM KM:List ai}{xs:List IN}(a6:Sl 1 aC q n c vs RM)(a7:j6 ez xs vs KM)(b4:n<1073741824):
 qW bR (.mk {kind:=6,tight:=true,s:=s,e:=e} xs) (bkV dW t) (fC t s e q n c raw::(RM++KM)):=by
 intro σ R L w h b3
 refine cg.sound ?_
 refine fQ Cb h (.head _) λb1 y w h=>?_
 refine⟨_,_,_,cl (by kernel_rfl) (by decide) w,af rfl ?_⟩
 refine⟨_,_,_,cl (by kernel_rfl) (by decide) w,af rfl ?_⟩
 refine⟨_,_,_,cl (by kernel_rfl) (by decide) w,af rfl ?_⟩
 refine⟨_,_,_,cl (by kernel_rfl) (by decide) w,af rfl ?_⟩
 refine⟨_,_,_,cl (by kernel_rfl) (by decide) w,af rfl ?_⟩
 refine⟨_,_,_,cl (by kernel_rfl) (by decide) w,af rfl ?_⟩
 refine⟨_,_,_,iH (by kernel_rfl) w,ag rfl ?_⟩
 refine aa ⟨_,_,_,Sat.ld h (.tail _ (.tail _ (.head _))) (i:=2) rfl,?_⟩
 have h:Sat σ w (RM++(KM++((y,cel (N16.C {a8:=s,a9:=e}).toList aj)::(b1,cel (N16.C {}).toList aj)::fC t s e q n c raw::L))):=h.re
 refine jw a6 a7 h b4 λw E O I us g NM V U W h=>⟨_,_,_,rfl,?_⟩
 have h:Sat σ w ((y,cel (N16.C {a8:=s,a9:=e}).toList aj)::(b1,cel (N16.C {}).toList aj)::((g++NM)++(fC t s e q n c raw::(RM++KM)++L))):=h.re
 refine Sat.st h (k:=0) rfl (by show 0<16;decide) trivial rfl λw h=>?_
 refine Sat.st h (k:=0) rfl (by show 12<16;decide) trivial rfl λw h=>?_
 refine Sat.st h (k:=0) rfl (by show 7<16;decide) trivial rfl λw h=>?_
 exact iy (v:=IH.nd {kind:=6,tight:=true,s:=s,e:=e} E O I) (u:= {}) (NM:=g++NM) ⟨_,xs,E,O,I,us,g,NM,rfl,rfl,rfl,⟨bY,bY,bY,bY⟩,V,U,W⟩ h b3

structure TI2 where
 q:OA
 n:Nat
 c:Nat
 vs:List Value
 RM:List ai
 KM:List ai
 ts:List Inl
def TI2.ok (t:TI2):Prop:=Sl 1 aC t.q t.n t.c t.vs t.RM/\t.n<1073741824/\InlsAt t.ts t.vs t.KM
def xB (x:TX)(t:TI2):List ai:=fC x.t x.s x.e t.q t.n t.c x.raw::(t.RM++t.KM)
def fX:List TX->List TI2->List ai
 |x::xs,t::ts=>xB x t++fX xs ts
 |_,_=> []
inductive FilledI (G:List UInt8->List Inl):List TX->List TI2->Prop where
 |nil:FilledI G [] []
 |cons {x:TX} {t:TI2} {xs:List TX} {ts:List TI2}:t.ok->t.ts=G x.raw->FilledI G xs ts->FilledI G (x::xs) (t::ts)
theorem FilledI.split {G:List UInt8->List Inl}: ∀ {xs g:List TX} {ts:List TI2},FilledI G (xs++g) ts-> ∃ts1 ts2,ts=ts1++ts2/\FilledI G xs ts1/\FilledI G g ts2
 | [],g,ts,h=>⟨[],ts,rfl,.nil,h⟩
 |x::xs,g,ts,h=>by
  cases h with
  |cons U E y=>
   obtain⟨ts1,ts2,rfl,O,I⟩:=y.split
   exact⟨_::ts1,ts2,rfl,.cons U E O,I⟩
theorem FilledI.append {G:List UInt8->List Inl}{xs g:List TX}{ts us:List TI2}(I:FilledI G xs ts)(y:FilledI G g us):FilledI G (xs++g) (ts++us):=by
 induction I with
 |nil=>exact y
 |cons a b _ E=>exact .cons a b E
theorem mD {G:List UInt8->List Inl}: ∀ {xs g:List TX} {ts us:List TI2},FilledI G xs ts->fX (xs++g) (ts++us)=fX xs ts++fX g us
 |_,_,_,_,.nil=>rfl
 |_,_,_,_,.cons h1 h2 h3=>by simp only[lR0,fX,lD0];rw[mD h3]
def jL (lk:Option Nat)(L0:List ai)(op:Opt)(s:List UInt8)(ts:List Inl):Prop:=
 ∀(σ:Out) (R:Ending->World->Prop) (b pb:Nat) (p:PS) (L:List ai) (w:World),(∀c∈L0,c∈L)->Sat σ w (p.at b::L)->p.pz=kE pb->op.at pb∈L->p.links=lk->
  (∀w (p':PS) q n c vs RM KM,p'.coreS=p.coreS->Sl 1 aC q n c vs RM->n<1073741824->InlsAt ts vs KM->Sat σ w (p'.at b::(RM++(KM++L)))->R (hQ (hT q n c)) w)->
  callE P fF #[kT (kE b),hX (bs s)] R w
theorem BP {b pb:Nat}{op:Opt}{G:List UInt8->List Inl}{p:PS}{xs:List TX}{U L0:List ai}{lk:Option Nat}(h:Sat σ w (p.at b::(U++(xs.map TX.chunk++L))))(ht:Txts p (xs.map TX.t) U)(b6:p.pz=kE pb)(b4:op.at pb∈L)(c4:p.links=lk)(b9: ∀c∈L0,c∈L)(a6:p.Lq=none/\p.Ln=0/\p.Lc=0)(d1: ∀x∈xs,jL lk L0 op x.raw (G x.raw))(d2: ∀w (p':PS) ts,p'.coreS=p.coreS->FilledI G xs ts->Sat σ w (p'.at b::(U++(fX xs ts++L)))->bq.k4 R b w):
 bq.l2 R (kE pb) b p.tq p.tn p.tc (p.tn:Nat) 0 w:=by
 have e9:p.tn=xs.length:=by rw[ht.2.1,lS0]
 have e8:xs.length<1048576:=by have:=ht.2.2;rwa [lS0] at this
 intro Y b3
 have c2:=h
 clear h
 have c1: ∀(E y:List TX) ts1 w (g:PS),y++E=xs->g.coreS=p.coreS->FilledI G y ts1->Sat σ w (g.at b::(U++(fX y ts1++(E.map TX.chunk++L))))->Y (kE pb) b p.tq p.tn p.tc (p.tn:Nat) (y.length:Nat) w:=by
  intro E
  induction E with
  |nil=>
   intro y ts1 w g O I W h
   rw[lG0] at O
   subst O
   have c8:g.Lq=none:=by have:=congrArg PS.Lq I;rw[show g.Lq=p.Lq from this];exact a6.1
   have c9:g.Ln=0:=by have:=congrArg PS.Ln I;rw[show g.Ln=p.Ln from this];exact a6.2.1
   have d3:g.Lc=0:=by have:=congrArg PS.Lc I;rw[show g.Lc=p.Lc from this];exact a6.2.2
   have h:Sat σ w (g.at b::(U++(fX y ts1++L))):=h
   have e0:op.at pb∈g.at b::(U++(fX y ts1++L)):=by simp[b4]
   have fin:bq.k4 R b w:=d2 w g ts1 I W h
   refine b3 _ _ _ _ _ _ _ _ (af (by simp;omega) (aa ?_))
   simp only[lK0,lO0]
   refine⟨op.task,Sat.ld h e0 rfl,bp (λ_=>?_) (λ_=>fin)⟩
   refine⟨_,_,_,Sat.ld h (.head _) (i:=10) rfl,?_⟩
   rw[c8,c9,d3]
   intro Z e5
   exact e5 _ _ _ _ _ _ _ (af rfl fin)
  |cons x E d0=>
   intro y ts1 w g O I W h
   have e7:y.length<xs.length:=by rw[<-O];simp
   obtain⟨V,sp,a7,rfl⟩:=ht.1.rowAt (by omega)
   refine b3 _ _ _ _ _ _ _ _ (ag (by simp;omega) ⟨by omega,by omega,?_⟩)
   rw[a7]
   refine aa ?_
   simp only[lK0,lO0,lC0,lC1]
   have b5:((xs.map TX.t).map (λt=>kT (kE t))++sp)[y.length]? =some (kT (kE x.t)):=by
    rw[lM0 (by simp;omega),<-O];simp
   refine⟨_,Sat.ld h (.tail _ (.head _)) b5,aa ?_⟩
   simp only[lK0,lO0]
   have h:Sat σ w (g.at b::(x.chunk::([(V,cel ((xs.map TX.t).map (λt=>kT (kE t))++sp) dW)]++(fX y ts1++(E.map TX.chunk++L))))):=by
    rw[lO1] at h
    exact h.re
   refine⟨_,Sat.ld h (.tail _ (.head _)) (i:=3) rfl,?_⟩
   have hc:g.pz=kE pb:=by have:=congrArg PS.pz I;rw[show g.pz=p.pz from this];exact b6
   have e6:g.links=lk:=by have:=congrArg PS.links I;rw[show g.links=p.links from this];exact c4
   refine d1 x (by rw[<-O];simp) σ _ b pb g _ w (λc hc=>by simp[b9 c hc]) h hc (by simp[b4]) e6 λw p2 q n c vs RM KM b7 c5 b8 e4 h=>⟨_,_,_,rfl,aa ?_⟩
   have h:Sat σ w (fC x.t x.s x.e none 0 0 x.raw::(p2.at b::(RM++(KM++([(V,cel ((xs.map TX.t).map (λt=>kT (kE t))++sp) dW)]++(fX y ts1++(E.map TX.chunk++L))))))):=by
    have h:Sat σ w (p2.at b::(RM++(KM++(fC x.t x.s x.e none 0 0 x.raw::([(V,cel ((xs.map TX.t).map (λt=>kT (kE t))++sp) dW)]++(fX y ts1++(E.map TX.chunk++L))))))):=h
    exact h.re
   refine h.stA 0 λw h=>?_
   have h:Sat σ w (fC x.t x.s x.e q n c x.raw::(p2.at b::(RM++(KM++([(V,cel ((xs.map TX.t).map (λt=>kT (kE t))++sp) dW)]++(fX y ts1++(E.map TX.chunk++L))))))):=h
   rw[aN (by omega)]
   have c3:FilledI G (y++ [x]) (ts1++ [⟨q,n,c,vs,RM,KM,G x.raw⟩]):=W.append (.cons ⟨c5,b8,e4⟩ rfl .nil)
   have:=d0 (y++ [x]) _ w p2 (by rw[<-O];simp) (b7.trans I) c3 ?_
   ·rw[lA0,lE0,a7] at this;exact this
   ·rw[mD W]
    show Sat σ w (p2.at b::([(V,cel ((xs.map TX.t).map (λt=>kT (kE t))++sp) dW)]++((fX y ts1++((fC x.t x.s x.e q n c x.raw::(RM++KM))++ []))++(E.map TX.chunk++L))))
    exact h.re
 exact c1 xs [] [] w p rfl rfl .nil c2
def DB.tree (G:List UInt8->List Inl)(d:DB)(x:IN):Prop:= ∀ts,FilledI G d.txs ts-> ∃T,qW bR x d.v T/\ ∀a,cnt a (d.own++fX d.txs ts)=cnt a T
inductive po (G:List UInt8->List Inl):List DB->List IN->Prop where
 |nil:po G [] []
 |cons {d:DB} {x:IN} {D:List DB} {xs:List IN}:d.tree G x->po G D xs->po G (d::D) (x::xs)
theorem pV {G:List UInt8->List Inl}{D:List DB}{xs:List IN}(h:po G D xs): ∀ts,FilledI G (ci D) ts-> ∃KM,j6 bR xs (D.map DB.v) KM/\ ∀a,cnt a (cZ D++fX (ci D) ts)=cnt a KM:=by
 induction h with
 |nil=>intro ts ht;cases ht;exact⟨[],.nil,λa=>rfl⟩
 | @cons d x D xs h1 h2 ih=>
  intro ts ht
  have e:ci (d::D)=d.txs++ci D:=by simp[ci]
  rw[e] at ht⊢
  obtain⟨ts1,ts2,rfl,g,I⟩:=ht.split
  obtain⟨KM,y,U⟩:=ih ts2 I
  obtain⟨T,E,O⟩:=h1 ts1 g
  refine⟨_,.cons E y,λa=>?_⟩
  have:=U a
  have:=O a
  rw[mD g,show cZ (d::D)=d.own++cZ D by simp[cZ]]
  simp only[dH] at*
  omega
theorem Cf {G:List UInt8->List Inl}{nb t s e:Nat}{raw:List UInt8}(y:mf (G raw)):(kz nb t s e raw).tree G (.mk {kind:=6,s:=s,e:=e} (eC (G raw))):=by
 intro ts ht
 cases ht with
 |cons g I E=>
  cases E
  rw[<-I] at y⊢
  exact⟨_,AR (nb:=nb) (t:=t) (s:=s) (e:=e) (s':=s) (e':=e) (raw:=raw) g.1 (eS y g.2.2) g.2.1,λa=>by simp[kz,fX,xB]⟩
theorem BQ {G:List UInt8->List Inl}{nb t s e:Nat}{raw:List UInt8}(g:mf (G raw)):(dw (kz nb t s e raw)).tree G (.mk {kind:=6,tight:=true,s:=s,e:=e} (eC (G raw))):=by
 rw[kW]
 intro ts ht
 cases ht with
 | @cons x t1 xs ts h1 h2 h3=>
  cases h3
  rw[<-h2] at g⊢
  have E:=AQ (t:=t) (s:=s) (e:=e) (raw:=raw) h1.1 (eS g h1.2.2) h1.2.1
  refine⟨lE nb s e t::(fC t s e t1.q t1.n t1.c raw::(t1.RM++t1.KM)),λσ R L w h y=>?_,λa=>by simp[fX,xB]⟩
  have h:Sat σ w ((fC t s e t1.q t1.n t1.c raw::(t1.RM++t1.KM))++(lE nb s e t::L)):=h.re
  exact E σ R _ w h λw u M I h=>y w u M I h.re
theorem Av {G:List UInt8->List Inl}{nb s e:Nat}{q:OA}{n c:Nat}{IM:List ai}{D:List DB}{xs:List IN}(y:Sl 1 aO q n c (D.map DB.v) IM)(O:n<1073741824)(E:po G D xs):(oC nb s e q n c IM D).tree G (.mk {kind:=2,s:=s,e:=e} xs):=by
 intro ts ht
 obtain⟨KM,I,g⟩:=pV E ts ht
 refine⟨_,yW (nb:=nb) (s:=s) (e:=e) y I O,λa=>?_⟩
 have:=g a
 show cnt a (Ef nb s e q n c::(IM++cZ D)++fX (ci D) ts)=_
 simp only[dH,eW] at this⊢;omega
theorem xf {G:List UInt8->List Inl}{i:IT}{xs:List IN}(hi:i.ok)(g:po G i.D xs):i.db.tree G (.mk {kind:=4,width:=i.wd,s:=i.s,e:=i.e} xs):=by
 intro ts ht
 obtain⟨KM,E,y⟩:=pV g ts ht
 refine⟨_,AV (nb:=i.nb) (s:=i.s) (e:=i.e) (wd:=i.wd) hi.sl E (by have:=IT.n_eq hi;have:=hi.len;omega),λa=>?_⟩
 have:=y a
 show cnt a (i.chunk::(i.IM++cZ i.D)++fX (ci i.D) ts)=_
 unfold IT.chunk
 simp only[dH,eW] at this⊢;omega
theorem Cu {G:List UInt8->List Inl}{nb s e:Nat}{bul:UInt8}{num:Int}{lo:Bool}{q:OA}{n c:Nat}{IM:List ai}{items:List IT}{xs:List IN}(U:Utf8.encode (bul.toNat:Int)=bs [bul])(I:Sl 1 aO q n c (items.map IT.v) IM)(V:n<1073741824)(O:po G (items.map IT.db) xs):
 (qy nb s e (bul.toNat:Int) num lo q n c IM items).tree G (.mk {kind:=3,num:=if bul=46\/bul=41 then num else -1,char:= [bul],loose:=lo,s:=s,e:=e} xs):=by
 intro ts ht
 obtain⟨KM,g,y⟩:=pV O ts ht
 have E:(items.map IT.db).map DB.v=items.map IT.v:=by simp[Function.comp_def,IT.db]
 rw[E] at g
 refine⟨_,AU (nb:=nb) (s:=s) (e:=e) (num:=num) (lo:=lo) U I g V,λa=>?_⟩
 have:=y a
 show cnt a (tQ nb s e (bul.toNat:Int) num lo q n c::(IM++cZ (items.map IT.db))++fX (ci (items.map IT.db)) ts)=_
 simp only[dH,eW] at this⊢;omega

def vW (L0:List ai)(op:Opt)(text:List UInt8)(y:List IN->Prop):Prop:=
 ∀(σ:Out) (R:Ending->World->Prop) (L:List ai) (w:World) (pb:Nat),(∀c∈L0,c∈L)->Sat σ w L->op.at pb∈L->
  (∀w db k s e xs g,qW bR (.mk {kind:=1,s:=s,e:=e} xs) (bkV df db) g->y xs->Sat σ w (g++L)->R (hQ (.tuple #[kT (kE db),hV k])) w)->
  callE P lI #[kT (kE pb),hX (bs text)] R w
theorem yF {L0:List ai}{op:Opt}{text:List UInt8}{ls:List (List UInt8 × UInt8)}{G:List UInt8->List Inl}{a6:List IN->Prop}(b3:LinesOf text ls)(h0:0 ∉ text)(b5:text.length<1000000)(O:List (List UInt8 × UInt8)->Nat->List Bk->Leaf->Prop)(c2: ∀root,root.isRoot->root.D= []->O ls 0 [root] .none)(step: ∀l nl rem n fs lf,O ((l,nl)::rem) n fs lf->qd L0 op (n+1) l nl fs lf (O rem (n+1)))(fin: ∀n fs lf,O [] n fs lf->qj op fs lf λD=> ∃xs,po G D xs/\a6 xs/\ ∀x∈ci D,jL none [] op x.raw (G x.raw)):vW L0 op text a6:=by
 intro σ R L w pb c8 h W f1
 refine bq.sound ?_
 refine Sat.bx h λb w h=>?_
 refine h.stA 0 λw h=>?_
 have h:Sat σ w ((PS0 (kE pb)).at b::L):=h
 refine j7 (sub:= [0]) (by omega) (by decide) ⟨_,rfl,?_⟩
 rw[ll h0]
 refine af rfl ?_
 refine h.stA 0 λw h=>?_
 refine Sat.bx h λE w h=>?_
 let p0:PS:= {PS0 (kE pb) with depth:= -1}
 have h:Sat σ w (p0.at b:: []++((E,cel [] eY)::L)):=h.up1
 have b9:Stk p0 [] []:=⟨Sl.nil 4 ay,rfl,by simp⟩
 refine pm h b9 rfl (by decide) λw g M U c9 h=>⟨rfl,?_⟩
 intro X e8
 have f3:=b3.len
 have e7:g.base=p0.base:=by rw[U];rfl
 have a7:g.lineno=0:=by rw[U];rfl
 have e0:Txts g [] []:=by
  have:g.tq=none/\g.tn=0/\g.tc=0:=by rw[U];exact⟨rfl,rfl,rfl⟩
  obtain⟨a,b,c⟩:=this
  unfold Txts
  rw[a,b,c]
  exact⟨Sl.nil 1 dW,rfl,by simp⟩
 let root:Bk:=⟨⟨Hb E,none,0,0,0,0⟩,[(E,cel [] eY)],[],[]⟩
 have hd:DocC σ b L [root] .none g w:=by
  refine⟨M,[],[],[],c9,e0,λf V=>?_,⟨rfl,rfl⟩,?_⟩
  ·obtain rfl:=lN0.1 V
   exact⟨Sl.nil 1 aO,by simp[root],by show 0<1000000000;decide,by show 0<1000000000;decide⟩
  ·have em:aM [root]= [(E,cel [] eY)]:=by simp[root,dA,cZ,txc,ci]
   rw[em]
   exact h
 refine Cw (p0:=p0) (op:=op) step c8 e8 W rfl ?_ b3 w g [root] .none b5 (by rw[a7];omega) e7 (by rw[a7];exact c2 root ⟨E,rfl,rfl⟩ rfl) hd
 intro w p fs lf hb e9 d3
 have b8:p.pz=kE pb:=by have:=congrArg PS.pz hb;exact this
 refine af (by rw[cJ,gx];rfl) ?_
 refine AX (fin _ fs lf e9) d3 b8 W λw p' f4 db IM f2 q n c s e d2 d1 ht e5 f5 h=>⟨rfl,?_⟩
 obtain⟨xs,e6,c1,e4⟩:=d1
 have y:p'.base= {p0.base with root:=kE db}:=by rw[d2,hb]
 have c3:p'.pz=kE pb:=by have:=congrArg PS.pz y;exact this
 have e3:p'.links=none:=by have:=congrArg PS.links y;exact this
 have b6:p.links=none:=by have:=congrArg PS.links hb;exact this
 have d0:p'.root=kE db:=by have:=congrArg PS.root y;exact this
 have c5:p'.Lq=none/\p'.Ln=0/\p'.Lc=0:=⟨by have:=congrArg PS.Lq y;exact this,by have:=congrArg PS.Ln y;exact this,by have:=congrArg PS.Lc y;exact this⟩
 refine⟨_,_,_,Sat.ld h (.head _) (i:=11) rfl,?_⟩
 refine BP (op:=op) (G:=G) (L0:= []) h ht c3 (by simp[W]) e3 (by simp) c5 e4 λw p2 ts c4 V h=>?_
 have b4:p2.root=kE db:=by have:=congrArg PS.root c4;rw[show p2.root=p'.root from this];exact d0
 unfold bq.k4
 refine h.tk λw h=>?_
 refine⟨_,Sat.ld h (.head _) (i:=1) rfl,_,Sat.ld h (.head _) (i:=6) rfl,?_⟩
 rw[b4]
 obtain⟨KM,f0,b7⟩:=pV e6 ts V
 rw[b6] at h
 refine f1 w db p2.corner s e xs (Br db s e q n c none::(IM++KM)) (CS e5 f0 (by omega)) c1 ?_
 refine Sat.less (p2.at b::f2) h λa=>?_
 have:=b7 a
 simp only[lN3,dH,eW,mF] at this⊢
 omega
namespace cD
def bl1 (R:EP)(Xa:Nat->Nat->OA->Nat->Nat->Int->Int->WP)(I y:Nat)(U:OA)(O b9:Nat)(a7 g:Int)(w:World):Prop:=
 br (decide (g<a7))
 (0<=g/\g<(O:Int)/\
 aA U λd3=>
 ldA16 w (d3.add (Int.toNat g*16)) λe0=>
 box w (N16.C {}) aj λa6 d2=>
 st16 d2 a6 e0 λW=>
 ∃c2,W.cell? (hZ a6 0)=some (hY c2)/\
 br (c2 !=13)
 (tk W λE=>
 ∃b4 b7 b8,E.cell? (hZ y 7)=some (hT b4 b7 b8)/\
 ldB16 E a6 λc4=>
 callE P mu #[c4.V] (λe c3=>Ha e λc9=>
 SameC E c3 (hZ y 7) 1/\
 callE P eF #[hT b4 b7 b8,c9.V] (λe c8=> ∃b5 b3 b6,e= hQ (hT b5 b3 b6)/\
 stV c8 (hZ y 7) (hT b5 b3 b6) λc5=>
 Xa I y U O b9 a7 (i64.wrap (g+1)) c5) c3) E)
 (Xa I y U O b9 a7 (i64.wrap (g+1)) W))
 (ldB10 w y λd1=>
 st10 w I d1 λc1=>
 ldB10 c1 I λd0=>
 R (hQ (d0.V)) c1)
def l1 (R:EP)(U V:Nat)(g:OA)(E y:Nat)(I O:Int)(w:World):Prop:=
 ∀X:Nat->Nat->OA->Nat->Nat->Int->Int->WP,(∀U V g E y I O w,bl1 R X U V g E y I O w->X U V g E y I O w)->X U V g E y I O w
def k4 (R:EP)(U I O:Nat)(w:World):Prop:=
 ∃E g y,w.cell? (hZ U 7)=some (hT E g y)/\
 l1 R I O E g y (g:Int) 0 w
def k3 (R:EP)(I y E:Nat)(g:Bool)(w:World):Prop:=
 br g
 (False)
 (k4 R I y E w)
def k2 (R:EP)(g I O:Nat)(w:World):Prop:=
 ∃y,w.cell? (hZ g 0)=some (hY y)/\
 br (y==7)
 (∃E,w.cell? (hZ g 10)=some (hX E)/\
 k3 R g I O (E.toList==(hP #[]).toList) w)
 (k3 R g I O false w)
def k1 (R:EP)(g E y:Nat)(w:World):Prop:=
 ∃U,w.cell? (hZ g 0)=some (hY U)/\
 br (U==6)
 (stV w (hZ y 1) (hX (hP #[])) λW=>
 k2 R g E y W)
 (∃I,w.cell? (hZ g 0)=some (hY I)/\
 br (I==5)
 (stV w (hZ y 1) (hX (hP #[])) λa6=>
 k2 R g E y a6)
 (∃O,w.cell? (hZ g 0)=some (hY O)/\
 br (O==12)
 (stV w (hZ y 1) (hX (hP #[])) λV=>
 k2 R g E y V)
 (k2 R g E y w)))
end cD
def cD (R:EP)(h6:Int)(h4 h3:BA)(h5:Int)(h2:BA)(g7:Bool)(g4:OA)(f5 g6:Nat)(g2:OA)(f3 f4:Nat)(h7 h1:Int)(f6:BA)(g1:Int)(g0 g5 g3:Bool)(f0:OA)(f1 f2:Nat)(w:World):Prop:=
 box w (N16.C {a0:=h6,a1:=h4,a2:=h3,a3:=h5,a4:=h2,a5:=g7,q6:=g4,n6:=f5,c6:=g6,q7:=g2,n7:=f3,c7:=f4,a8:=h7,a9:=h1,a10:=f6,a11:=g1,a12:=g0,a13:=g5,a14:=g3,q15:=f0,n15:=f1,c15:=f2}) aj λb1 i1=>
 box i1 (N10.C {}) ae λc8 i2=>
 tk i2 λy=>
 ∃c1,y.cell? (hZ b1 0)=some (hY c1)/\
 ∃b9,y.cell? (hZ b1 1)=some (hX b9)/\
 ∃c2,y.cell? (hZ b1 2)=some (hX c2)/\
 ∃b8,y.cell? (hZ b1 3)=some (hY b8)/\
 ∃b6,y.cell? (hZ b1 4)=some (hX b6)/\
 ∃b7,y.cell? (hZ b1 5)=some (hV b7)/\
 ∃a7 b4 b5,y.cell? (hZ b1 6)=some (hT a7 b4 b5)/\
 (∃c4 c5,∃c3 g,(Instr.buildSlice cz 0 #[]).run P y= .ok (hT c4 c5 c3) g/\
 SameC y g (hZ b1 6) 1/\
 SameC y g (hZ b1 5) 1/\
 SameC y g (hZ b1 4) 1/\
 SameC y g (hZ b1 3) 1/\
 SameC y g (hZ b1 2) 1/\
 SameC y g (hZ b1 1) 1/\
 SameC y g (hZ b1 0) 1/\
 (∃d1 e5,∃c9 O,(Builtin.append_ #[cz,cz] cz #[hT c4 c5 c3,hT a7 b4 b5]).run P g= .ok (hT d1 e5 c9) O/\
 SameC g O (hZ b1 5) 1/\
 SameC g O (hZ b1 4) 1/\
 SameC g O (hZ b1 3) 1/\
 SameC g O (hZ b1 2) 1/\
 SameC g O (hZ b1 1) 1/\
 SameC g O (hZ b1 0) 1/\
 box O (N10.C {}) ae λe9 V=>
 SameC O V (hZ b1 6) 1/\
 SameC O V (hZ b1 5) 1/\
 SameC O V (hZ b1 4) 1/\
 SameC O V (hZ b1 3) 1/\
 SameC O V (hZ b1 2) 1/\
 SameC O V (hZ b1 1) 1/\
 SameC O V (hZ b1 0) 1/\
 st10 V e9 {a0:=c1,a1:=b9,a2:=c2,a3:=b8,a4:=b6,a5:=b7,q6:=d1,n6:=e5,c6:=c9} λi0=>
 cD.k1 R b1 c8 e9 i0)/\
 (box g (N10.C {}) ae λe7 U=>
 SameC g U (hZ b1 6) 1/\
 SameC g U (hZ b1 5) 1/\
 SameC g U (hZ b1 4) 1/\
 SameC g U (hZ b1 3) 1/\
 SameC g U (hZ b1 2) 1/\
 SameC g U (hZ b1 1) 1/\
 SameC g U (hZ b1 0) 1/\
 ∃d0 e4,∃e3 W,(Builtin.append_ #[cz,cz] cz #[hT c4 c5 c3,hT a7 b4 b5]).run P U= .ok (hT d0 e4 e3) W/\
 SameC U W (hZ b1 5) 1/\
 SameC U W (hZ b1 4) 1/\
 SameC U W (hZ b1 3) 1/\
 SameC U W (hZ b1 2) 1/\
 SameC U W (hZ b1 1) 1/\
 SameC U W (hZ b1 0) 1/\
 st10 W e7 {a0:=c1,a1:=b9,a2:=c2,a3:=b8,a4:=b6,a5:=b7,q6:=d0,n6:=e4,c6:=e3} λh9=>
 cD.k1 R b1 c8 e7 h9))/\
 (box y (N10.C {}) ae λe8 E=>
 SameC y E (hZ b1 6) 1/\
 SameC y E (hZ b1 5) 1/\
 SameC y E (hZ b1 4) 1/\
 SameC y E (hZ b1 3) 1/\
 SameC y E (hZ b1 2) 1/\
 SameC y E (hZ b1 1) 1/\
 SameC y E (hZ b1 0) 1/\
 ∃e2 d2,∃e0 I,(Instr.buildSlice cz 0 #[]).run P E= .ok (hT e2 d2 e0) I/\
 SameC E I (hZ b1 6) 1/\
 SameC E I (hZ b1 5) 1/\
 SameC E I (hZ b1 4) 1/\
 SameC E I (hZ b1 3) 1/\
 SameC E I (hZ b1 2) 1/\
 SameC E I (hZ b1 1) 1/\
 SameC E I (hZ b1 0) 1/\
 ∃e6 e1,∃d3 a6,(Builtin.append_ #[cz,cz] cz #[hT e2 d2 e0,hT a7 b4 b5]).run P I= .ok (hT e6 e1 d3) a6/\
 SameC I a6 (hZ b1 5) 1/\
 SameC I a6 (hZ b1 4) 1/\
 SameC I a6 (hZ b1 3) 1/\
 SameC I a6 (hZ b1 2) 1/\
 SameC I a6 (hZ b1 1) 1/\
 SameC I a6 (hZ b1 0) 1/\
 st10 a6 e8 {a0:=c1,a1:=b9,a2:=c2,a3:=b8,a4:=b6,a5:=b7,q6:=e6,n6:=e1,c6:=d3} λh8=>
 cD.k1 R b1 c8 e8 h8)
theorem cD.sound {R x0_0 x0_1 x0_2 x0_3 x0_4 x0_5 x0_6q x0_6n x0_6c x0_7q x0_7n x0_7c x0_8 x0_9 x0_10 x0_11 x0_12 x0_13 x0_14 x0_15q x0_15n x0_15c w}(h:cD R x0_0 x0_1 x0_2 x0_3 x0_4 x0_5 x0_6q x0_6n x0_6c x0_7q x0_7n x0_7c x0_8 x0_9 x0_10 x0_11 x0_12 x0_13 x0_14 x0_15q x0_15n x0_15c w):callE P mu #[(N16.V {a0:=x0_0,a1:=x0_1,a2:=x0_2,a3:=x0_3,a4:=x0_4,a5:=x0_5,q6:=x0_6q,n6:=x0_6n,c6:=x0_6c,q7:=x0_7q,n7:=x0_7n,c7:=x0_7c,a8:=x0_8,a9:=x0_9,a10:=x0_10,a11:=x0_11,a12:=x0_12,a13:=x0_13,a14:=x0_14,q15:=x0_15q,n15:=x0_15n,c15:=x0_15c})] R w:=
 aG [(5,.dr (.pure 0 (.pure 2 (.pure 4 (.pure 6 (.pure 8 (.pure 10 (.pure 13 (.load 1 (.load 3 (.load 5 (.load 7 (.load 9 (.load 11 (.load 14 (.two 12 (.two 15 (.pure 16 (.one 17 (.one 18 .done))) 17 (.one 15 (.pure 16 (.one 18 .done)))) 17 (.one 12 (.one 15 (.pure 16 (.one 18 .done)))))))))))))))))))),(7,.mk [26,46,66] (cD.k1 R)),(15,.mk [26,46,66] (cD.k2 R)),(55,.mk [26,46,66,880] (cD.k3 R)),(87,.no),(31,.mk [26,46,66] (cD.k4 R)),(175,.lp [46,66,1003,1027,1047] (cD.bl1 R) λXa=> [(179,.dr (rpN [0,4,7,11,14,15,20]))])] Tryz.func13 Tryz.call13 h
namespace gd
def k1 (R:EP)(y:OA)(E b8 c1:Nat)(g:Int)(c3:Bool)(w:World):Prop:=
 br c3
 (tk w λO=>
 0<=g/\g<(E:Int)/\
 aA y λc5=>
 ∃U,O.cell? ((c5.add (Int.toNat g*10)).add 1)=some (hX U)/\
 ∃I,O.cell? (hZ c1 1)=some (hX I)/\
 ((U.size+I.size:Nat):Int)<=i64.max/\
 0<=g/\g<(E:Int)/\
 aA y λa10=>
 stV O (((a10.add (Int.toNat g*10)).add 1).add 0) (hX (U++I)) λc2=>
 R (hQ (hT y E b8)) c2)
 (ldB10 w c1 λc4=>
 ∃b5 W,∃a6 b7,(Instr.buildSlice au 1 #[(0,c4.V)]).run P w= .ok (hT b5 W a6) b7/\
 ∃b4 b6,∃b3 b9,(Builtin.append_ #[au,au] au #[hT y E b8,hT b5 W a6]).run P b7= .ok (hT b4 b6 b3) b9/\
 R (hQ (hT b4 b6 b3)) b9)
end gd
def gd (R:EP)(E:OA)(g I:Nat)(b6:Int)(b9 c3:BA)(b8:Int)(c1:BA)(b7:Bool)(V:OA)(a6 a7:Nat)(b3:OA)(b4 W:Nat)(c2 b5:Int)(w:World):Prop:=
 box w (N10.C {a0:=b6,a1:=b9,a2:=c3,a3:=b8,a4:=c1,a5:=b7,q6:=V,n6:=a6,c6:=a7,q7:=b3,n7:=b4,c7:=W,a8:=c2,a9:=b5}) ae λb1 y=>
 br (decide ((i64.wrap ((g:Int) - 1)) >= 0))
 (∃O,y.cell? (hZ b1 0)=some (hY O)/\
 br (O==20)
 (0<=(i64.wrap ((g:Int) - 1))/\(i64.wrap ((g:Int) - 1))<(g:Int)/\
 aA E λa4=>
 ∃U,y.cell? (a4.add (Int.toNat (i64.wrap ((g:Int) - 1))*10))=some (hY U)/\
 gd.k1 R E g I b1 (i64.wrap ((g:Int) - 1)) (U==20) y)
 (gd.k1 R E g I b1 (i64.wrap ((g:Int) - 1)) false y))
 (gd.k1 R E g I b1 (i64.wrap ((g:Int) - 1)) false y)
theorem gd.sound {R x0q x0n x0c x1_0 x1_1 x1_2 x1_3 x1_4 x1_5 x1_6q x1_6n x1_6c x1_7q x1_7n x1_7c x1_8 x1_9 w}(h:gd R x0q x0n x0c x1_0 x1_1 x1_2 x1_3 x1_4 x1_5 x1_6q x1_6n x1_6c x1_7q x1_7n x1_7c x1_8 x1_9 w):callE P eF #[hT x0q x0n x0c,(N10.V {a0:=x1_0,a1:=x1_1,a2:=x1_2,a3:=x1_3,a4:=x1_4,a5:=x1_5,q6:=x1_6q,n6:=x1_6n,c6:=x1_6c,q7:=x1_7q,n7:=x1_7n,c7:=x1_7c,a8:=x1_8,a9:=x1_9})] R w:=
 aG [(29,.mk [3,66,107,460] (gd.k1 R)),(77,.dr (rpN [0,3,6,9,15,13,19,21,24,27,32]))] Tryz.func31 Tryz.call31 h

noncomputable def rowND:Row P au ae 10 136:=
 ⟨(P.info? ae).getD default,((P.info? ae).bind (·.zero)).getD default,by kernel_rfl,by kernel_rfl,by kernel_rfl,by kernel_rfl,by kernel_rfl,by kernel_rfl,by decide⟩
theorem z6 (v:N10):Instr.fill (λi=>some (i*10,10)) ((Array.range (1*10)).map (rowND.z.cells[· %rowND.z.cells.size]!)) [(0,v.V)]=some v.C:=by kernel_rfl
theorem Ek (v:N10): ∀u∈v.V.cells.toList,u.oneCell'=true:=by
 intro x g
 simp only[N10.V,Value.cells,N10.C,lW0,lF1,or_false] at g
 rcases g with rfl|rfl|rfl|rfl|rfl|rfl|rfl|rfl|rfl|rfl<;>rfl
def NodeDt (x:ND)(v:N10)(M:List ai):Prop:= ∃h g qa ca q n c vs RM KM,x= .mk h g/\v=h.nd qa ca q n c/\M=RM++KM/\n<1073741824/\NDs g vs KM/\Sl 10 ae q n c vs RM
theorem NodeDt.cons {x:ND}{xs:List ND}{v:N10}{us:List Value}{M g:List ai}(h:NodeDt x v M)(y:NDs xs us g):NDs (x::xs) (v.C.toList++us) (M++g):=by
 obtain⟨h0,E,qa,ca,q,n,c,vs,RM,KM,rfl,rfl,rfl,b,d,e⟩:=h
 exact .cons b d e y
theorem NodeDt.one {x:ND}{v:N10}{M:List ai}(h:NodeDt x v M):NDs [x] v.C.toList M:=by
 have:=h.cons .nil
 rwa [lG0,lG0] at this
theorem NodeDt.leaf {h:NH}{qa:OA}{ca:Nat}:NodeDt (.mk h []) (h.nd qa ca none 0 0) []:=⟨h,[],qa,ca,none,0,0,[],[],[],rfl,rfl,rfl,by decide,.nil,Sl.nil 10 ae⟩
theorem NodeDt.kind {x:ND}{v:N10}{M:List ai}(h:NodeDt x v M):v.a0=(x.h.kind:Int)/\v.a1=bs x.h.text:=by
 obtain⟨h0,g,qa,ca,q,n,c,vs,RM,KM,rfl,rfl,rfl,_⟩:=h
 exact⟨rfl,rfl⟩
theorem NDs.snoc: ∀ {pre:List ND} {E:ND} {vs:List Value} {M:List ai},NDs (pre++ [E]) vs M-> ∃I O u g,vs=I++u.C.toList/\M=O++g/\NDs pre I O/\NodeDt E u g
 | [],E,vs,M,h=>by
  cases h with
  | @cons h0 ks _ qa ca q n c vs us RM KM XM a b d e=>
   cases e
   refine⟨[],[],h0.nd qa ca q n c,RM++KM,?_,?_,.nil,⟨h0,ks,qa,ca,q,n,c,vs,RM,KM,rfl,rfl,rfl,a,b,d⟩⟩
   ·rw[lT0,lG0]
   ·rw[lT0,lG0]
 |x::pre,E,vs,M,h=>by
  cases h with
  | @cons h0 ks _ qa ca q n c vs us RM KM XM a b d e=>
   obtain⟨I,O,u,g,rfl,rfl,U,V⟩:=NDs.snoc e
   refine⟨_,_,u,g,?_,?_,NDs.cons (qa:=qa) (ca:=ca) a b d U,V⟩
   ·simp only[lD0]
   ·simp only[lD0]
def mO:List ND->Nat
 | []=>0
 |x::xs=>x.h.text.length+mO xs
theorem js (a b:List ND):mO (a++b)=mO a+mO b:=by
 induction a with
 |nil=>simp[mO]
 |cons x a g=>rw[lR0,mO,mO,g,lC3]
theorem wC (pre:List ND)(h:NH)(g:List ND)(x:ND):gu (pre++ [.mk h g]) x=if x.h.kind=20/\h.kind=20 then pre++ [.mk {h with text:=h.text++x.h.text} g] else pre++ [.mk h g,x]:=by
 induction pre with
 |nil=>rfl
 |cons a pre y=>
  have e:gu (a::(pre++ [.mk h g])) x=a::gu (pre++ [.mk h g]) x:=by
   obtain⟨a1,a2⟩:=a
   cases pre with
   |nil=>rfl
   |cons b pre=>rfl
  rw[lR0,e,y]
  split<;>rfl
theorem pB (g:List ND)(x:ND):mO (gu g x)=mO g+x.h.text.length:=by
 rcases lX1 g with rfl|⟨pre,⟨h,y⟩,rfl⟩
 ·show x.h.text.length+0=0+_
  omega
 ·rw[lG2,wC]
  split
  ·rw[js,js]
   show mO pre+((h.text++x.h.text).length+0)=mO pre+(h.text.length+0)+_
   rw[lA0];omega
  ·rw[js,js]
   show mO pre+(h.text.length+(x.h.text.length+0))=mO pre+(h.text.length+0)+_
   omega
theorem nh {g:List ND}{x:ND}{q:OA}{n c:Nat}{vs:List Value}{RM KM M:List ai}{u:N10}(b3:NDs g vs KM)(a7:Sl 10 ae q n c vs RM)(d3:NodeDt x u M)(g5:n<1073741823)(e5:mO g+x.h.text.length<4611686018427387904)(h:Sat σ w (RM++(KM++(M++L))))(e1: ∀w b4 c4 b5 d1 a6 KM',c4<=n+1->NDs (gu g x) d1 KM'->Sl 10 ae b4 c4 b5 d1 a6->Sat σ w (a6++(KM'++L))->R (hQ (hT b4 c4 b5)) w):
 callE P eF #[hT q n c,u.V] R w:=by
 have e6:i64.max=9223372036854775807:=rfl
 have g2:=b3.len
 have e4:=a7.1
 have d0:n=g.length:=by omega
 obtain⟨e3,ht⟩:=d3.kind
 refine gd.sound ?_
 refine Sat.bx h λb1 w h=>?_
 have h:Sat σ w ((b1,cel u.C.toList ae)::(RM++(KM++(M++L)))):=h
 have b6:g= []\/gu g x=g++ [x]-> ∀i w,Sat σ w ((b1,cel u.C.toList ae)::(RM++(KM++(M++L))))->gd.k1 R q n c b1 i false w:=by
  intro c2 i w h
  refine af rfl (h.ldB10 u (.head _) ?_)
  have h:Sat σ w (RM++(KM++(M++((b1,cel u.C.toList ae)::L)))):=h.re
  refine Sat.app1 rowND a7 h (v:=u.V) rfl (Ek u) (z6 u) (by omega) (by omega) (by decide) λb4 b5 w a6 f1 h=>?_
  have e:gu g x=g++ [x]:=by
   rcases c2 with rfl|c2
   ·rfl
   ·exact c2
  refine e1 w b4 (n+1) b5 _ a6 (KM++M) (lA1 _) (by rw[e];exact b3.append d3.one) f1 ?_
  exact h.less [(b1,cel u.C.toList ae)]
 rcases lX1 g with rfl|⟨pre,y,rfl⟩
 ·have f3:n=0:=d0
  subst f3
  exact af rfl (b6 (.inl rfl) _ w h)
 rw[lG2] at*
 have f2:n=pre.length+1:=by rw[d0];simp
 have f5:i64.wrap ((n:Int) - 1)=(pre.length:Nat):=by rw[il (by omega) (by omega),f2];rfl
 have g3:=b3
 obtain⟨O,d2,v,g6,rfl,rfl,c8,f4⟩:=b3.snoc
 have f0:=c8.len
 obtain⟨h0,W,qa,ca,I,E,c0,us,b9,c1,rfl,rfl,rfl,g0,g1,f6⟩:=f4
 have e0:=wC pre h0 W x
 rw[f5]
 refine ag (by simp) ⟨_,Sat.ld h (.head _) (i:=0) rfl,?_⟩
 have c5: ¬ (x.h.kind=20/\h0.kind=20)->gu (pre++ [.mk h0 W]) x=(pre++ [.mk h0 W])++ [x]:=by
  intro hc
  rw[e0,if_neg hc];simp
 refine bp (λU=>?_) (λU=>?_)
 ·have e7:x.h.kind=20:=by
   rw[e3] at U
   have:=eq_of_beq U
   omega
  refine⟨by omega,by omega,?_⟩
  have e9:=a7
  obtain⟨_,_,⟨rfl,hz,_,_⟩|⟨c3,sp,rfl,rfl,c9⟩⟩:=e9
  ·omega
  refine aa ?_
  simp only[lK0,lC0,lO0]
  have b8: ∀(i:Nat) (z:Value),(h0.nd qa ca I E c0).C.toList[i]? =some z->(O++(h0.nd qa ca I E c0).C.toList++sp)[pre.length*10+i]? =some z:=by
   intro i z hz
   rw[lD0]
   exact yz f0 hz
  refine⟨_,Sat.ld h (.tail _ (.head _)) (b8 0 _ rfl),?_⟩
  by_cases b7:h0.kind=20
  ·rw[show (((h0.kind:Nat):Int)==20)=true by rw[b7];rfl]
   refine ag rfl (h.tk λw h=>⟨by omega,by omega,aa ?_⟩)
   simp only[lK0,lC0,lO0]
   refine⟨_,Sat.ld h (.tail _ (.head _)) (b8 1 _ rfl),_,Sat.ld h (.head _) (i:=1) rfl,?_⟩
   rw[ht,bM]
   rw[js] at e5
   have g4:mO [.mk h0 W]=h0.text.length+0:=rfl
   refine⟨by rw[e6,aJ,aJ];omega,by omega,by omega,aa ?_⟩
   simp only[lK0,lC0,lO0,lN1]
   have e8:(O++(h0.nd qa ca I E c0).C.toList++sp).set (pre.length*10+1) (hX (bs (h0.text++x.h.text)))=O++(NH.nd {h0 with text:=h0.text++x.h.text} qa ca I E c0).C.toList++sp:=by
    rw[lD0,lP1 _ _ (by omega),show pre.length*10+1 - O.length=1 by omega,lD0]
    rfl
   refine Sat.st h (k:=1) rfl (by have:=(lL0.1 (b8 1 _ rfl)).1;exact this) trivial rfl λw h=>?_
   rw[e8] at h
   have h:Sat σ w ((b1,cel u.C.toList ae)::([(c3,cel (O++(NH.nd {h0 with text:=h0.text++x.h.text} qa ca I E c0).C.toList++sp) ae)]++(d2++(b9++c1)++(M++L)))):=h
   refine e1 w _ n c (O++(NH.nd {h0 with text:=h0.text++x.h.text} qa ca I E c0).C.toList) [(c3,cel (O++(NH.nd {h0 with text:=h0.text++x.h.text} qa ca I E c0).C.toList++sp) ae)] (d2++(b9++c1)) (by omega) ?_ ⟨?_,a7.2.1,.inr ⟨c3,sp,rfl,rfl,?_⟩⟩ ?_
   ·rw[e0,if_pos ⟨e7,b7⟩]
    exact c8.append (NodeDt.one ⟨_,W,qa,ca,I,E,c0,us,b9,c1,rfl,rfl,rfl,g0,g1,f6⟩)
   ·rw[lA0];rw[lA0] at e4;exact e4
   ·rw[lA0,lA0] at c9⊢;exact c9
   ·exact h.less ((b1,cel u.C.toList ae)::M)
  ·rw[show (((h0.kind:Nat):Int)==20)=false by rw[beq_eq_false_iff_ne];omega]
   exact b6 (.inr (c5 (λhc=>b7 hc.2))) _ w h
 ·refine b6 (.inr (c5 (λhc=>?_))) _ w h
  rw[e3,hc.1] at U
  exact absurd U (by decide)

noncomputable def rowI64:Row P cz ba 1 8:=
 ⟨(P.info? ba).getD default,((P.info? ba).bind (·.zero)).getD default,by kernel_rfl,by kernel_rfl,by kernel_rfl,by kernel_rfl,by kernel_rfl,by kernel_rfl,by decide⟩
theorem yx (w:World):(Instr.buildSlice cz 0 #[]).run P w= .ok (hT (kE w.heap.size) 0 0) (w.alloc (.cells #[] ba)):=by
 have hi:=rowI64.hi
 simp[Instr.buildSlice,run_underlying rowI64.ht,sizeOf,typeInfo,hi,Instr.fill,newRow]
 have e: ∀f:Nat->Value,(Array.range 0).map f= #[]:=λf=>Array.eq_empty_of_size_eq_zero (by simp)
 rw[e]
theorem Sat.build0 (h:Sat σ w L){K:OA->Nat->Nat->World->Prop}(y: ∀b g,Sat σ g ((b,cel [] ba)::L)->K (kE b) 0 0 g): ∃(q:OA),∃(n:Nat),∃(c:Nat),∃g,(Instr.buildSlice cz 0 #[]).run P w= .ok (hT q n c) g/\K q n c g:=
 ⟨_,_,_,_,yx w,y _ _ (h.alc [] ba)⟩
theorem Sat.app0 {b:Nat}{qa:OA}{ca:Nat}(h:Sat σ w ((b,cel [] ba)::L)){K:OA->Nat->Nat->World->Prop}(I: ∀q c g,Sat σ g L->K q 0 c g): ∃(q:OA),∃(n:Nat),∃(c:Nat),∃g,(Builtin.append_ #[cz,cz] cz #[hT (kE b) 0 0,hT qa 0 ca]).run P w= .ok (hT q n c) g/\K q n c g:=by
 have hs:Src P 1 cz (hT qa 0 ca) 0 [] w:=by
  cases qa with
  |none=>exact Src.ofNil w rowI64.ht ca
  |some a=>exact Src.ofSlice w rowI64.ht a 0 ca [] rfl (λj u U=>by simp at U) (by simp)
 obtain⟨y,E,g,W,hr,V,O,_⟩:=Sat.app rowI64 (M:= [(b,cel [] ba)]) (tx:=cz) (ty:=cz) (n:=0) (c:=0) (vs:= []) ⟨rfl,lA1 _,.inr ⟨b,[],rfl,rfl,rfl⟩⟩ h hs (.inr (by simp)) (by decide) (by decide)
 exact⟨y,0,E,g,hr,I y E g O.right⟩
def GK (x:IN)(v:N16)(T:List ai):Prop:=
 ∀(σ:Out) (R:Ending->World->Prop) (L:List ai) (w:World),Sat σ w (T++L)->(∀w u M,NodeDt (iv x) u M->Sat σ w (M++(T++L))->R (hQ u.V) w)->callE P mu #[v.V] R w
inductive BareGs:List IN->List Value->List ai->Prop where
 |nil:BareGs [] [] []
 |cons {x:IN} {xs:List IN} {v:N16} {us:List Value} {T K:List ai}:GK x v T->v.a0=(x.h.kind:Int)->x.h.text.length<1073741824->BareGs xs us K->BareGs (x::xs) (v.C.toList++us) (T++K)
theorem BareGs.len {xs:List IN}{vs:List Value}{M:List ai}(h:BareGs xs vs M):vs.length=xs.length*16:=by
 induction h with
 |nil=>rfl
 |cons _ _ _ _ g=>rw[lA0,g,lF0,lU3,lG4];rfl
theorem Bc (h:IH):(qT h).text.length<=h.text.length:=by
 unfold qT
 dsimp only
 split
 ·exact lB2 _
 ·exact lA1 _
theorem GG (x:IN):(iv x).h=qT x.h:=by
 obtain⟨h,g⟩:=x
 rw[iv];rfl
theorem Ds {b7:List IN}{q:OA}{n c:Nat}{vs:List Value}{RM KM:List ai}{b1 a6 W:Nat}{h0:IH}{H:NH}{qa:OA}{ca:Nat}(c1:BareGs b7 vs KM)(e1:Sl 16 aj q n c vs RM)(h2:n<1073741824)(h:Sat σ w ((W,cel (H.nd qa ca none 0 0).C.toList ae)::(b1,cel (h0.nd q n c).C.toList aj)::(a6,cel (N10.C {}).toList ae)::(RM++KM++L)))(b5: ∀w u M,NodeDt (.mk H (fe [] b7)) u M->Sat σ w (M++(RM++KM++L))->R (hQ u.V) w):cD.l1 R a6 W q n c (n:Int) 0 w:=by
 have h3:=e1.1
 have g7:=c1.len
 intro X e2
 have e9: ∀(a7:List IN) (c3:List Value) (K:List ai),BareGs a7 c3 K-> ∀(g:List ND) (U:List Value) (D:List ai) (j:Nat) y E us O NM w,U++c3=vs->U.length=j*16->j+a7.length=n->fe g a7=fe [] b7->g.length<=j->mO g<=j*1073741824->
  NDs g us NM->Sl 10 ae y g.length E us O->Sat σ w ((W,cel (H.nd qa ca y g.length E).C.toList ae)::(b1,cel (h0.nd q n c).C.toList aj)::(a6,cel (N10.C {}).toList ae)::(O++NM++(RM++(D++(K++L)))))->
  (∀w u M,NodeDt (.mk H (fe [] b7)) u M->Sat σ w (M++(RM++(D++(K++L))))->R (hQ u.V) w)->X a6 W q n c (n:Int) (j:Nat) w:=by
  intro a7 c3 K c1
  induction c1 with
  |nil=>
   intro g U D j y E us O NM w hv c8 b8 hb d1 d0 b9 c2 h b5
   simp only[lK1,lN1] at b8
   refine e2 _ _ _ _ _ _ _ _ (af (by simp;omega) ?_)
   refine h.ldB10 _ (.head _) ?_
   refine h.st10 2 {} (H.nd qa ca y g.length E) λw h=>?_
   refine h.ldB10 _ (.tail _ (.tail _ (.head _))) ?_
   have e:fe g []=g:=by rw[fe]
   rw[<-hb,e] at b5
   refine b5 w _ (O++NM) ⟨H,g,qa,ca,y,g.length,E,us,O,NM,rfl,rfl,rfl,by omega,b9,c2⟩ ?_
   have h:Sat σ w ((W,cel (H.nd qa ca y g.length E).C.toList ae)::(b1,cel (h0.nd q n c).C.toList aj)::(a6,cel (H.nd qa ca y g.length E).C.toList ae)::(O++NM++(RM++(D++([]++L))))):=h
   exact h.tail.tail.tail
  | @cons x a7 v us2 T K g1 g2 g3 g4 ih=>
   intro g U D j y E us O NM w hv c8 b8 hb d1 d0 b9 c2 h b5
   simp only[lF0] at b8
   have e6:j<n:=by omega
   refine e2 _ _ _ _ _ _ _ _ (ag (by simp;omega) ⟨by omega,by omega,?_⟩)
   have e8:=e1
   obtain⟨_,_,⟨rfl,hz,_,_⟩|⟨I,sp,rfl,rfl,f6⟩⟩:=e8
   ·omega
   refine aa ?_
   simp only[lK0,lC0,lO0]
   have e5:vs++sp=U++(v.C.toList++(us2++sp)):=by rw[<-hv];simp only[lD0]
   refine Sat.ldA16 h v (b:=I) (pre:=U) (suf:=us2++sp) (e:=aj) (by rw[<-e5];simp) c8 ?_
   refine Sat.bx h λb4 w h=>?_
   have h:Sat σ w ((b4,cel (N16.C {}).toList aj)::(W,cel (H.nd qa ca y g.length E).C.toList ae)::(b1,cel (h0.nd (kE I) n c).C.toList aj)::(a6,cel (N10.C {}).toList ae)::(O++NM++([(I,cel (vs++sp) aj)]++(D++(T++K++L))))):=h
   refine h.st16 0 {} v λw h=>⟨_,Sat.ld h (.head _) (i:=0) rfl,?_⟩
   rw[g2]
   have f3:fe g (x::a7)=fe (if x.h.kind=13 then g else gu g (iv x)) a7:=by rw[fe]
   rw[f3] at hb
   have d2:(U++v.C.toList)++us2=vs:=by rw[<-hv];simp only[lD0]
   have c9:(U++v.C.toList).length=(j+1)*16:=by rw[lA0,c8,lU3];rfl
   by_cases c5:x.h.kind=13
   ·rw[if_pos c5] at hb
    refine af (by rw[c5];rfl) ?_
    rw[aN (by omega)]
    have f2:j+1+a7.length=n:=by rw[<-b8];exact lF3 j 1 _
    refine ih g (U++v.C.toList) (D++T) (j+1) y E us O NM w d2 c9 f2 hb (Nat.le_succ_of_le d1) (Nat.le_trans d0 (lJ2 _ (Nat.le_succ j))) b9 c2 ?_ (λw u M b6 h=>b5 w u M b6 h.re)
    exact Sat.less [(b4,cel v.C.toList aj)] h
   ·rw[if_neg c5] at hb
    refine ag (by simp;omega) (h.tk λw h=>?_)
    refine⟨_,_,_,Sat.ld h (.tail _ (.head _)) (i:=7) rfl,?_⟩
    refine h.ldB16 v (.head _) ?_
    have g6:=e6
    have g5:(iv x).h.text.length<=x.h.text.length:=by rw[GG];exact Bc x.h
    have h:Sat σ w (T++((b4,cel v.C.toList aj)::(W,cel (H.nd qa ca y g.length E).C.toList ae)::(b1,cel (h0.nd (kE I) n c).C.toList aj)::(a6,cel (N10.C {}).toList ae)::(O++NM++([(I,cel (vs++sp) aj)]++(D++(K++L)))))):=h.re
    have f0:=h
    refine g1 σ _ _ w h λw u M b6 h=>vh ⟨?_,?_⟩
    ·exact f0.same h (lB0 _ (.tail _ (.head _))) (lB0 _ (lB0 _ (.tail _ (.head _)))) 1
    have h:Sat σ w (O++(NM++(M++((W,cel (H.nd qa ca y g.length E).C.toList ae)::(b4,cel v.C.toList aj)::(b1,cel (h0.nd (kE I) n c).C.toList aj)::(a6,cel (N10.C {}).toList ae)::([(I,cel (vs++sp) aj)]++(D++(T++(K++L)))))))):=h.re
    refine nh (n:=g.length) b9 c2 b6 (by omega) (by omega) h λw e3 f4 e4 f1 c4 KM' g0 d3 e0 h=>⟨_,_,_,rfl,?_⟩
    have e7:f4=(gu g (iv x)).length:=by have a:=d3.len;have b:=e0.1;omega
    subst e7
    have h:Sat σ w ((W,cel (H.nd qa ca y g.length E).C.toList ae)::(c4++(KM'++((b4,cel v.C.toList aj)::(b1,cel (h0.nd (kE I) n c).C.toList aj)::(a6,cel (N10.C {}).toList ae)::([(I,cel (vs++sp) aj)]++(D++(T++(K++L)))))))):=h.re
    refine Sat.st h (k:=0) rfl (by show 7<10;decide) trivial rfl λw h=>?_
    have h:Sat σ w ((W,cel (H.nd qa ca e3 (gu g (iv x)).length e4).C.toList ae)::(c4++(KM'++((b4,cel v.C.toList aj)::(b1,cel (h0.nd (kE I) n c).C.toList aj)::(a6,cel (N10.C {}).toList ae)::([(I,cel (vs++sp) aj)]++(D++(T++(K++L)))))))):=h
    rw[aN (by omega)]
    have f5:=pB g (iv x)
    refine ih (gu g (iv x)) (U++v.C.toList) (D++T) (j+1) e3 e4 f1 c4 KM' w d2 c9 (by omega) hb (by omega) (by omega) d3 e0 ?_ (λw u M b6 h=>b5 w u M b6 h.re)
    exact Sat.less [(b4,cel v.C.toList aj)] h
 exact e9 b7 vs KM c1 [] [] [] 0 none 0 [] [] [] w rfl rfl (by omega) rfl (lA1 _) (lA1 _) .nil (Sl.nil 10 ae) (by simpa using h) (λw u M b6 h=>b5 w u M b6 (by simpa using h))

def IH.fenced (h:IH):Prop:=h.kind=7->h.mark≠ []
theorem hU (k d:Nat):(((k:Nat):Int)==(d:Int))=decide (k=d):=by
 rw[lZ4,beq_iff_eq,decide_eq_true_eq];omega
theorem xN {h0:IH}{c5:List IN}{q:OA}{n c:Nat}{vs:List Value}{RM KM:List ai}(d1:BareGs c5 vs KM)(d0:Sl 16 aj q n c vs RM)(e0:n<1073741824)(e1:h0.fenced):GK (.mk h0 c5) (h0.nd q n c) (RM++KM):=by
 intro σ R L w h d2
 refine cD.sound ?_
 refine Sat.bx h λb1 w h=>?_
 refine Sat.bx h λV w h=>h.tk λw h=>?_
 have h:Sat σ w ((V,cel (N10.C {}).toList ae)::(b1,cel (h0.nd q n c).C.toList aj)::(RM++KM++L)):=h
 let b9:NH:= {kind:=h0.kind,text:=h0.text,title:=h0.title,num:=h0.num,char:=h0.char,loose:=h0.loose}
 have fin: ∀E qa ca w,Sat σ w ((E,cel (b9.nd qa ca none 0 0).C.toList ae)::(V,cel (N10.C {}).toList ae)::(b1,cel (h0.nd q n c).C.toList aj)::(RM++KM++L))->cD.k1 R b1 V E w:=by
  intro E qa ca w h
  have k2: ∀w,Sat σ w ((E,cel ((qT h0).nd qa ca none 0 0).C.toList ae)::(V,cel (N10.C {}).toList ae)::(b1,cel (h0.nd q n c).C.toList aj)::(RM++KM++L))->cD.k2 R b1 V E w:=by
   intro w h
   have k4: ∀w,Sat σ w ((E,cel ((qT h0).nd qa ca none 0 0).C.toList ae)::(V,cel (N10.C {}).toList ae)::(b1,cel (h0.nd q n c).C.toList aj)::(RM++KM++L))->cD.k4 R b1 V E w:=by
    intro w h
    refine⟨_,_,_,Sat.ld h (.tail _ (.tail _ (.head _))) (i:=7) rfl,?_⟩
    refine Ds (b1:=b1) (qa:=qa) (ca:=ca) (H:=qT h0) (h0:=h0) d1 d0 e0 (h.re) λw u M d3 h=>d2 w u M ?_ h
    rw[iv];exact d3
   refine⟨_,Sat.ld h (.tail _ (.tail _ (.head _))) (i:=0) rfl,bp (λc2=>?_) (λ_=>af rfl (k4 w h))⟩
   refine⟨_,Sat.ld h (.tail _ (.tail _ (.head _))) (i:=10) rfl,af ?_ (k4 w h)⟩
   have c2:(((h0.kind:Nat):Int)==((7:Nat):Int))=true:=c2
   rw[hU,decide_eq_true_eq] at c2
   have:=e1 c2
   rw[cJ]
   have e:(hP #[]).toList= []:=cJ []
   rw[e]
   simpa using this
  have c9:h0.kind≠6->h0.kind≠5->h0.kind≠12->qT h0=b9:=by
   intro a b d
   unfold qT
   rw[if_neg (by omega)]
  have c8:h0.kind=6\/h0.kind=5\/h0.kind=12->qT h0= {b9 with text:= []}:=by
   intro a
   unfold qT
   rw[if_pos a]
  have c4:(h0.kind=6\/h0.kind=5\/h0.kind=12)->stV w (hZ E 1) (hX (hP #[])) λw=>cD.k2 R b1 V E w:=by
   intro a
   refine Sat.st h (k:=0) rfl (by show 1<10;decide) trivial rfl λw h=>k2 w ?_
   rw[c8 a]
   exact h
  refine⟨_,Sat.ld h (.tail _ (.tail _ (.head _))) (i:=0) rfl,bp (λb4=>?_) λb4=>?_⟩
  ·have b4:(((h0.kind:Nat):Int)==((6:Nat):Int))=true:=b4
   rw[hU,decide_eq_true_eq] at b4
   exact c4 (.inl b4)
  have b4:(((h0.kind:Nat):Int)==((6:Nat):Int))=false:=b4
  rw[hU,decide_eq_false_iff_not] at b4
  refine⟨_,Sat.ld h (.tail _ (.tail _ (.head _))) (i:=0) rfl,bp (λb5=>?_) λb5=>?_⟩
  ·have b5:(((h0.kind:Nat):Int)==((5:Nat):Int))=true:=b5
   rw[hU,decide_eq_true_eq] at b5
   exact c4 (.inr (.inl b5))
  have b5:(((h0.kind:Nat):Int)==((5:Nat):Int))=false:=b5
  rw[hU,decide_eq_false_iff_not] at b5
  refine⟨_,Sat.ld h (.tail _ (.tail _ (.head _))) (i:=0) rfl,bp (λa7=>?_) λa7=>?_⟩
  ·have a7:(((h0.kind:Nat):Int)==((12:Nat):Int))=true:=a7
   rw[hU,decide_eq_true_eq] at a7
   exact c4 (.inr (.inr a7))
  have a7:(((h0.kind:Nat):Int)==((12:Nat):Int))=false:=a7
  rw[hU,decide_eq_false_iff_not] at a7
  refine k2 w ?_
  rw[c9 b4 b5 a7]
  exact h
 have I:(b1,cel (h0.nd q n c).C.toList aj)∈((V,cel (N10.C {}).toList ae)::(b1,cel (h0.nd q n c).C.toList aj)::(RM++KM++L)):= .tail _ (.head _)
 refine⟨_,Sat.ld h I (i:=0) rfl,_,Sat.ld h I (i:=1) rfl,_,Sat.ld h I (i:=2) rfl,_,Sat.ld h I (i:=3) rfl,_,Sat.ld h I (i:=4) rfl,_,Sat.ld h I (i:=5) rfl,_,_,_,Sat.ld h I (i:=6) rfl,?_,?_⟩
 ·refine h.build0 λc3 b8 W=>?_
  have c1:(b1,cel (h0.nd q n c).C.toList aj)∈((c3,cel [] ba)::(V,cel (N10.C {}).toList ae)::(b1,cel (h0.nd q n c).C.toList aj)::(RM++KM++L)):= .tail _ (.tail _ (.head _))
  have O: ∀i,SameC w b8 (hZ b1 i) 1:=λi=>h.same W I c1 1
  refine⟨O 6,O 5,O 4,O 3,O 2,O 1,O 0,?_,?_⟩
  ·refine W.app0 λqa ca b7 a6=>?_
   have y: ∀i,SameC b8 b7 (hZ b1 i) 1:=λi=>W.same a6 c1 I 1
   refine⟨y 5,y 4,y 3,y 2,y 1,y 0,?_⟩
   refine Sat.bx a6 λE b6 U=>?_
   have U:Sat σ b6 ((E,cel (N10.C {}).toList ae)::(V,cel (N10.C {}).toList ae)::(b1,cel (h0.nd q n c).C.toList aj)::(RM++KM++L)):=U
   have g: ∀i,SameC b7 b6 (hZ b1 i) 1:=λi=>a6.same U I (.tail _ I) 1
   refine⟨g 6,g 5,g 4,g 3,g 2,g 1,g 0,?_⟩
   exact U.st10 0 {} (b9.nd qa ca none 0 0) λw h=>fin E qa ca w h
  ·refine Sat.bx W λE b6 U=>?_
   have U:Sat σ b6 ((E,cel (N10.C {}).toList ae)::(c3,cel [] ba)::(V,cel (N10.C {}).toList ae)::(b1,cel (h0.nd q n c).C.toList aj)::(RM++KM++L)):=U
   have g: ∀i,SameC b8 b6 (hZ b1 i) 1:=λi=>W.same U c1 (.tail _ c1) 1
   refine⟨g 6,g 5,g 4,g 3,g 2,g 1,g 0,?_⟩
   refine U.up1.app0 λqa ca b7 a6=>?_
   have y: ∀i,SameC b6 b7 (hZ b1 i) 1:=λi=>U.same a6 (.tail _ c1) (.tail _ I) 1
   refine⟨y 5,y 4,y 3,y 2,y 1,y 0,?_⟩
   exact a6.st10 0 {} (b9.nd qa ca none 0 0) λw h=>fin E qa ca w h
 ·refine Sat.bx h λE b8 W=>?_
  have W:Sat σ b8 ((E,cel (N10.C {}).toList ae)::(V,cel (N10.C {}).toList ae)::(b1,cel (h0.nd q n c).C.toList aj)::(RM++KM++L)):=W
  have O: ∀i,SameC w b8 (hZ b1 i) 1:=λi=>h.same W I (.tail _ I) 1
  refine⟨O 6,O 5,O 4,O 3,O 2,O 1,O 0,?_⟩
  refine W.build0 λc3 b7 a6=>?_
  have y: ∀i,SameC b8 b7 (hZ b1 i) 1:=λi=>W.same a6 (.tail _ I) (.tail _ (.tail _ I)) 1
  refine⟨y 6,y 5,y 4,y 3,y 2,y 1,y 0,?_⟩
  refine a6.app0 λqa ca b6 U=>?_
  have g: ∀i,SameC b7 b6 (hZ b1 i) 1:=λi=>a6.same U (.tail _ (.tail _ I)) (.tail _ I) 1
  refine⟨g 5,g 4,g 3,g 2,g 1,g 0,?_⟩
  exact U.st10 0 {} (b9.nd qa ca none 0 0) λw h=>fin E qa ca w h
mutual
def IN.fenced:IN->Prop
 | .mk h ks=>h.fenced/\d8 ks
def d8:List IN->Prop
 | []=>True
 |k::ks=>k.fenced/\d8 ks
end
theorem da {h:IH}{g:List IN}:(IN.mk h g).fenced<->h.fenced/\d8 g:=by rw[IN.fenced]
theorem fP {k:IN}{g:List IN}:d8 (k::g)<->k.fenced/\d8 g:=by rw[d8]
theorem HF {xs:List IN}{vs:List Value}{M:List ai}(h:INs xs vs M):d8 xs->BareGs xs vs M:=by
 induction h with
 |nil=>exact λ_=> .nil
 |cons a1 a2 a3 a4 a5 y g=>
  intro V
  obtain⟨E,O⟩:=fP.1 V
  obtain⟨U,I⟩:=da.1 E
  exact .cons (xN (y I) a4 a2 U) rfl a1.1 (g O)

theorem Fe {b:Nat}{e:TypeId}: ∀(vs pre mid g:List Value) (k:Nat) {w:World} {K:World->Prop},(∀v∈vs,nU v)->mid.length=vs.length->k=0->Sat σ w ((b,cel (pre++mid++g) e)::L)->(∀y,Sat σ y ((b,cel (pre++vs++g) e)::L)->K y)->stS vs (hZ b pre.length) k w K
 | [],pre,mid,g,k,w,K,_,hm,hk,h,hK=>by
  obtain rfl:=lB1 hm
  exact hK w h
 |v::vs,pre,[],g,k,w,K,_,hm,hk,h,hK=>by simp at hm
 |v::vs,pre,m::mid,g,k,w,K,hv,hm,hk,h,hK=>by
  subst hk
  refine Sat.st h (k:=0) (i:=pre.length) rfl (by simp) (hv v (.head _)) rfl λy h=>?_
  have a7:(pre++(m::mid)++g).set pre.length v=(pre++ [v])++mid++g:=by
   rw[lD0,lP1 _ _ (lA1 _),lW1];simp
  have h:Sat σ y ((b,cel ((pre++ [v])++mid++g) e)::L):=by rw[<-a7];exact h
  have E:=Fe vs (pre++ [v]) mid g 0 (K:=K) (λx W=>hv x (.tail _ W)) (by simpa using hm) rfl h (λy h=>hK y (by simpa using h))
  have V: ∀(vs:List Value) (n k:Nat) (w:World),stS vs ⟨b,n+1,none⟩ k w K->stS vs (hZ b n) (k+1) w K:=by
   intro vs
   induction vs with
   |nil=>intro n k w h;exact h
   |cons u us E=>
    intro n k w h
    have b3:(⟨b,n+1,none⟩:Addr).add k=((hZ b n):Addr).add (k+1):=by simp only[lK0];congr 1;omega
    obtain⟨a6,O,I,U⟩:=h
    rw[b3] at O I U
    exact⟨a6,O,I,E n (k+1) _ U⟩
  refine V vs pre.length 0 y ?_
  simpa using E
def btV:List Value:=hN 80 (hY 0)++ [hV false]
theorem Ed {b:Nat}{p:PS}(h:Sat σ w (p.at b::L))(y: ∀w,Sat σ w (({p with bt:= .z}:PS).at b::L)->R (hQ (.tuple #[])) w):callE P dP #[kT (some (hZ b 12))] R w:=by
 refine gn.sound ?_
 refine aa ?_
 let pre:List Value:= [kT p.pz,kT p.root,.map p.links,hY p.lineno,hT p.stq p.stn p.stc,hY p.depth,hV p.corner,hX (bs p.s),hY p.em,
  hT p.lq p.ln p.lc,hT p.Lq p.Ln p.Lc,hT p.tq p.tn p.tc]
 have e:p.cells=pre++p.bt.cells++ []:=by rw[lG0];rfl
 have h:Sat σ w ((b,cel (pre++p.bt.cells++ []) gO)::L):=by rw[<-e];exact h
 have:=Fe btV pre p.bt.cells [] 0 (K:=λw=>R (hQ (.tuple #[])) w) (λv hv=>by simp[btV] at hv;rcases hv with rfl|rfl<;>trivial) (by simp[BT.cells,p.bt.ok,btV]) rfl h λw h=>y w (by
  have g:({p with bt:= .z}:PS).cells=pre++btV++ []:=by rw[lG0];rfl
  show Sat σ w ((b,cel ({p with bt:= .z}:PS).cells gO)::L)
  rw[g];exact h)
 exact this
theorem tL {s:List UInt8}(hs:s.length<1000000000)(y:s≠ [])(g:(10:UInt8) ∉ s)(h:Sat σ w L)(U: ∀w M,Sat σ w (M++L)->R (hQ (hX (bs s))) w):callE P lH #[hX (bs s),hX (hP #[10]),hX (hP #[32])] R w:=by
 refine eZ.sound ?_
 intro X I
 refine I _ _ _ _ _ _ _ ?_
 refine kh (sub:= [10]) (by omega) (by decide) ⟨_,rfl,?_⟩
 have e:lm s [10]= -1:=by unfold lm;rw[ll g]
 rw[e]
 refine ag rfl ?_
 refine By.appS By.nil (L:=L) h s (.inl y) (by omega) λW a6 O V E h _ _=>?_
 exact⟨_,_,E.str h,U O V h⟩
theorem PS.bt80 (p:PS):p.cells[92]? =some (hV p.bt.sc):=by
 show (p.bt.cells)[80]? =_
 unfold BT.cells
 rw[lH0 (by simp[p.bt.ok])]
 simp[p.bt.ok]
def BT.set0 (t:BT)(n:Int):BT:=⟨t.l.set 0 n,t.sc,by simp[t.ok]⟩
theorem PS.set12 (p:PS)(n:Int):p.cells.set 12 (hY n)=({p with bt:=p.bt.set0 n}:PS).cells:=by
 have e:p.bt.cells.set 0 (hY n)=(p.bt.set0 n).cells:=by
  obtain⟨l,sc,ok⟩:=p.bt
  cases l with
  |nil=>simp at ok
  |cons x l=>rfl
 have g: ∀(q:PS) (l:List Value),({q with bt:= .z}:PS).cells.take 12=q.cells.take 12:=λq l=>rfl
 show [kT p.pz,kT p.root,.map p.links,hY p.lineno,hT p.stq p.stn p.stc,hY p.depth,hV p.corner,hX (bs p.s),hY p.em,hT p.lq p.ln p.lc,hT p.Lq p.Ln p.Lc,hT p.tq p.tn p.tc]++p.bt.cells.set 0 (hY n)=_
 rw[e]
 rfl
theorem PS.cells12 (p:PS):12<p.cells.length:=by
 show 12<(p.bt.cells.length+12)
 simp[BT.cells,p.bt.ok]
theorem Db {b:Nat}{p:PS}{A T B:List UInt8}(a7:T≠ [])(g: ∀c∈T,c≠96/\c≠10/\c≠32)(c5:B.head? ≠some 96)(b7:(A++96::(T++96::B)).length<1000000)(O:p.bt.sc=false):
 qi b p (A++96::(T++96::B)) A.length (.func (.func bJ) #[kT (some (hZ b 12))] #[]) [] (some (.code T,A.length,A.length+T.length+2)) (λp'=>p'.bt.sc=false):=by
 intro σ R L w _ h d1
 refine gY ?_
 generalize hs:A++96::(T++96::B)=s at b7
 have e3:s.length=A.length+(T.length+B.length+2):=by rw[<-hs];simp;omega
 have y:0<T.length:=lY0.2 a7
 show callE P bJ #[kT (some (hZ b 12)),kT (kE b),hX (bs s),hY (A.length:Nat)] R w
 have b3: ∀(k:Nat) (b6:k<T.length) (h:A.length+1+k<s.length),s[A.length+1+k]=T[k]:=by
  intro k b6 h
  subst hs
  rw[lL2 (by omega)]
  simp only[show A.length+1+k - A.length=k+1 by omega,lE6]
  rw[lQ5 b6]
 have b5: ∀(h:A.length+1+T.length<s.length),s[A.length+1+T.length]=96:=by
  intro h
  subst hs
  rw[lL2 (by omega)]
  simp only[show A.length+1+T.length - A.length=T.length+1 by omega,lE6]
  rw[lL2 (by omega)]
  simp
 have e2: ∀(h:A.length+1+T.length+1<s.length),s[A.length+1+T.length+1]≠96:=by
  intro h b9
  have e:s[A.length+1+T.length+1]? =some 96:=by rw[lI0 h,b9]
  rw[<-hs,lH0 (by omega)] at e
  rw[show A.length+1+T.length+1 - A.length=(T.length+1)+1 by omega,lY2,lH0 (by omega),show T.length+1 - T.length=0+1 by omega,lY2] at e
  rw[<-lC6] at e
  exact c5 e
 refine aD.sound ?_
 intro e4 c2
 refine c2 _ _ _ _ _ _ ?_
 have I:i64.wrap (((A.length:Nat):Int)+1)=((A.length+1:Nat):Int):=aN (by omega)
 refine⟨λ_=>by rw[I];exact⟨by omega,by simp;omega⟩,?_⟩
 rw[I]
 have d2:s[A.length+1]'(by omega)≠96:=by
  have:s[A.length+1]'(by omega)=T[0]:=b3 0 y (by omega)
  rw[this]
  exact(g _ (lQ1 y)).1
 refine af ?_ ?_
 ·rw[dh (by omega) 96 96 rfl];simp[d2]
 refine af rfl (aa ⟨_,Sat.ld h (.head _) (i:=92) p.bt80,?_⟩)
 rw[O]
 refine af rfl ?_
 unfold aD.k3
 rw[I]
 intro d0 a6
 have c3: ∀k m,m+k=T.length->d0 (some (hZ b 12)) (bs s) (A.length:Nat) (A.length:Nat) 1 ((A.length+1+m:Nat):Int) w:=by
  intro k
  induction k with
  |succ k c8=>
   intro m d3
   refine a6 _ _ _ _ _ _ _ (ag (by simp;omega) ⟨by omega,by simp;omega,ag ?_ ?_⟩)
   ·have e:=dh (l:=s) (i:=A.length+1+m) (by omega) 96 96 rfl
    have:(bt (bs s) ((A.length+1+m:Nat):Int) !=96)= !(bt (bs s) ((A.length+1+m:Nat):Int)==96):=rfl
    rw[this,e,b3 m (by omega) (by omega)]
    simp[(g _ (lQ1 (show m<T.length by omega))).1]
   ·rw[aN (by omega)]
    exact c8 (m+1) (by omega)
  |zero=>
   intro m d3
   obtain rfl:m=T.length:=by omega
   refine a6 _ _ _ _ _ _ _ (ag (by simp;omega) ⟨by omega,by simp;omega,af ?_ ?_⟩)
   ·have e:=dh (l:=s) (i:=A.length+1+T.length) (by omega) 96 96 rfl
    have:(bt (bs s) ((A.length+1+T.length:Nat):Int) !=96)= !(bt (bs s) ((A.length+1+T.length:Nat):Int)==96):=rfl
    rw[this,e,b5 (by omega)]
    rfl
   intro e5 U
   refine U _ _ _ _ _ _ _ _ ⟨λ_=>⟨by omega,by simp;omega⟩,ag ?_ ?_⟩
   ·rw[dh (by omega) 96 96 rfl,b5 (by omega)];simp;omega
   rw[aN (by omega)]
   refine U _ _ _ _ _ _ _ _ ⟨λE=>⟨by omega,by simpa using E⟩,af ?_ ?_⟩
   ·by_cases W:A.length+1+T.length+1<s.length
    ·rw[dh W 96 96 rfl]
     simp[e2 W]
    ·rw[show decide (((A.length+1+T.length+1:Nat):Int)<((bs s).size:Int))=false by simp;omega];rfl
   refine aa ⟨_,Sat.ld h (.head _) (i:=92) p.bt80,?_⟩
   have e0:i64.wrap (((A.length+1+T.length+1:Nat):Int) - ((A.length+1+T.length:Nat):Int))=1:=by
    rw[show (((A.length+1+T.length+1:Nat):Int) - ((A.length+1+T.length:Nat):Int))=1 by omega];rfl
   rw[e0,O]
   refine ag rfl (aa ⟨by decide,by decide,?_⟩)
   refine Sat.st h (k:=0) (i:=12) rfl p.cells12 trivial rfl λw h=>?_
   rw[p.set12] at h
   have h:Sat σ w (({p with bt:=p.bt.set0 ((A.length+1+T.length:Nat):Int)}:PS).at b::L):=h
   generalize V:({p with bt:=p.bt.set0 ((A.length+1+T.length:Nat):Int)}:PS)=p' at h
   have c1:p'.core2=p.core2:=by rw[<-V];rfl
   have b8:p'.bt.sc=false:=by rw[<-V];exact O
   refine ag rfl ?_
   rw[I]
   refine⟨by omega,by omega,by simp;omega,?_⟩
   rw[lC0,lC0,cj]
   have c4:(s.take (A.length+1+T.length)).drop (A.length+1)=T:=by
    rw[<-hs]
    rw[show A++96::(T++96::B)=((A++ [96])++T)++96::B by simp,lC5 (by simp;omega),lB5 (by simp)]
   rw[c4]
   refine tL (by omega) a7 (λh=>(g _ h).2.1 rfl) h λw M h=>⟨_,rfl,?_⟩
   have b4:(bt (bs T) 0==32)=false:=by
    have:=dh (l:=T) (i:=0) y 32 32 rfl
    rw[show ((0:Nat):Int)=0 from rfl] at this
    rw[this]
    simp[(g _ (lQ1 y)).2.2]
   refine⟨λ_=>⟨by decide,by simp;omega⟩,λE=>by rw[b4] at E;simp at E,af (by rw[b4];simp) ?_⟩
   refine af rfl (Sat.bx h λc9 w h=>?_)
   have e1:((A.length+1+T.length+1:Nat):Int)=((A.length+T.length+2:Nat):Int):=by omega
   rw[e1]
   exact d1 w p' _ _ c1 b8 ⟨c9,BF,rfl,rfl⟩ (h.less M)
 exact c3 T.length 0 (by omega)
end Go.Proofs.YtendaipfdnhnaaaGreatDoor
