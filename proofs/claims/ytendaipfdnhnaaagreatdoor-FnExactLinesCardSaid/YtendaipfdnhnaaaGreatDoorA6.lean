/- Part 6 of the proof of the law FnExactLines: for every input the law returns true, the inputs read as they did, and memory that was there is as it was; under the conditions of the given row alone. -/
import Derived.Test.YtendaipfdnhnaaaGreatDoorA5
set_option linter.all false
open Go.IntKind(i64)
open ByteArray renaming mk→hP
open List renaming replicate→hN
namespace Go.Proofs.YtendaipfdnhnaaaGreatDoor
open Go.Proofs Go.IntWalk Go.RowKit
set_option maxRecDepth 20000
variable {σ:Out} {w:World} {L L':List ai} {R:Ending->World->Prop} {G:List UInt8->List Inl} {op:Opt}

theorem pJ {c:UInt8}(h:97<=c.toNat/\c.toNat<=122):wB c=true/\spB c=false/\puB c=false/\c<128/\c≠42/\AE c=true:=by
 have:(List.range 256).all (λn=>(!(decide (97<=n) && decide (n<=122)))||(wB (UInt8.ofNat n) && !spB (UInt8.ofNat n) && !puB (UInt8.ofNat n) && decide (UInt8.ofNat n<128) && UInt8.ofNat n !=42 && AE (UInt8.ofNat n)))=true:=by kernel_rfl
 have:=lD2.1 this c.toNat (lV2.2 c.toNat_lt)
 rw[lY3] at this
 simp[h.1,h.2] at this
 exact⟨this.1.1.1.1.1,this.1.1.1.1.2,this.1.1.1.2,this.1.1.2,this.1.2,this.2⟩
theorem EU {s:List UInt8}(E:s≠ [])(h: ∀c∈s,97<=c.toNat/\c.toNat<=122)(c9:s.length<=100):WdP s:=by
 refine⟨E,λc hc=>(pJ (h c hc)).1,c9,?_,?_⟩
 ·intro b p A B k c5 O
  obtain⟨c,t,rfl⟩:=lA1 E
  obtain⟨_,W,a7,b4,b5,_⟩:=pJ (h c (.head _))
  generalize hr:A++32::(hN k 42++(c::t++B))=raw at O
  have b8:raw.length=A.length+(1+(k+(t.length+1+B.length))):=by rw[<-hr];simp;omega
  have r2:raw=(A++ [32])++(hN k 42++(c::t++B)):=by rw[<-hr];simp
  have H:raw=(A++ [32]++hN k 42)++(c::(t++B)):=by rw[r2,lD0 (A++ [32])];rfl
  have l2:(A++ [32]).length=A.length+1:=by simp
  have l3:(A++ [32]++hN k 42).length=A.length+1+k:=by simp;omega
  have U: ∀m,A.length+1<=m->m<A.length+1+k->raw.getD m 0=42:=by
   intro m c3 c4
   rw[r2,pw (by omega),l2,nf (by simp;omega),lP0,lZ5,if_pos (by omega)];rfl
  have I:raw.getD (A.length+1+k) 32=c:=by
   rw[H,lP0,lH0 (by omega),l3,lW1];rfl
  have b6:raw.getD (A.length+1+k) 0=c:=by
   rw[H,lP0,lH0 (by omega),l3,lW1];rfl
  have y:zA raw (A.length+1)=32:=by
   unfold zA
   rw[if_neg (by omega),lF3,<-hr,lP0,lH0 (lZ0 _),lW1];rfl
  have g:zE raw (A.length+1+k)=c:=I
  have:=om (b:=b) (p:=p) (s:=raw) (i:=A.length+1) (j:=A.length+1+k) (by omega) (by omega) (by omega) U (λ_=>by rw[b6];exact b5) (by rw[y];decide) (by rw[g];exact b4)
  rw[y,g,show A.length+1+k - (A.length+1)=k by omega] at this
  have V:uP 32 c=true:=by unfold uP;rw[W,a7];rfl
  have b3:qH 32 c=false:=rfl
  have a6:sub raw (A.length+1) (A.length+1+k)=hN k 42:=by
   have:=pV (A++ [32]) (hN k 42) (c::t++B)
   rw[<-r2,l2,lG2] at this
   exact this
  rw[V,b3,a6] at this
  exact this
 ·intro b p A B k c5 c2 O
  obtain⟨t,c,rfl⟩: ∃t c,s=t++ [c]:=⟨s.dropLast,s.getLast E,(lW3 E).symm⟩
  obtain⟨_,W,a7,b4,b5,_⟩:=pJ (h c (by simp))
  generalize hr:A++(t++ [c]++(hN k 42++B))=raw at O
  have b8:raw.length=A.length+(t.length+1+(k+B.length)):=by rw[<-hr];simp;omega
  have b9:(t++ [c]).length=t.length+1:=by simp
  rw[b9]
  have c8:raw=(A++t)++c::(hN k 42++B):=by rw[<-hr];simp
  have r2:raw=(A++(t++ [c]))++(hN k 42++B):=by rw[<-hr];simp
  have H:raw=(A++(t++ [c])++hN k 42)++B:=by rw[r2,lD0 (A++(t++ [c]))]
  have l2:(A++(t++ [c])).length=A.length+(t.length+1):=by simp
  have l3:(A++(t++ [c])++hN k 42).length=A.length+(t.length+1)+k:=by simp;omega
  have U: ∀m,A.length+(t.length+1)<=m->m<A.length+(t.length+1)+k->raw.getD m 0=42:=by
   intro m c3 c4
   rw[r2,pw (by omega),l2,nf (by simp;omega),lP0,lZ5,if_pos (by omega)];rfl
  have I: ∃d:UInt8,(d=32\/d=10)/\zE raw (A.length+(t.length+1)+k)=d:=by
   unfold zE
   rw[H,lP0,lH0 (by omega),l3,lW1]
   rcases c2 with rfl|⟨B',rfl|rfl⟩
   ·exact⟨32,.inl rfl,rfl⟩
   ·exact⟨32,.inl rfl,rfl⟩
   ·exact⟨10,.inr rfl,rfl⟩
  obtain⟨d,hd,g⟩:=I
  have b7:A.length+(t.length+1)+k<raw.length->raw.getD (A.length+(t.length+1)+k) 0≠42:=by
   intro c1
   have:raw.getD (A.length+(t.length+1)+k) 0=d:=by
    unfold zE at g
    rw[lP0,lI0 c1] at g⊢
    exact g
   rw[this]
   rcases hd with rfl|rfl<;>decide
  have y:zA raw (A.length+(t.length+1))=c:=by
   unfold zA
   rw[if_neg (by omega),show A.length+(t.length+1) - 1=(A++t).length by simp,c8,lP0,lH0 (lZ0 _),lW1];rfl
  have:=om (b:=b) (p:=p) (s:=raw) (i:=A.length+(t.length+1)) (j:=A.length+(t.length+1)+k) (by omega) (by omega) (by omega) U b7 (by rw[y];exact b4) (by rw[g];rcases hd with rfl|rfl<;>decide)
  rw[y,g,show A.length+(t.length+1)+k - (A.length+(t.length+1))=k by omega] at this
  have V:uP c d=false:=by rcases hd with rfl|rfl<;>rfl
  have b3:qH c d=true:=by unfold qH;rw[W,a7];rfl
  have a6:sub raw (A.length+(t.length+1)) (A.length+(t.length+1)+k)=hN k 42:=by
   have:=pV (A++(t++ [c])) (hN k 42) B
   rw[<-r2,l2,lG2] at this
   exact this
  rw[V,b3,a6] at this
  exact this
abbrev LT:=List UInt8 × List Tk
def F1:Tk->Prop
 | .wd s=>WdP s
 | .em k s=>WdP s/\(k=1\/k=2)
 | .cd s=>WdP s
 | .lk s d=>WdP s/\DsP d
 | .es s=>WdP s
 |_=>False
def xr (x:LT):Prop:=WdP x.1/\ ∀t∈x.2,F1 t
def qh (l:List Tk):List Tk:=l.flatMap λt=> [.sp,t]
def d7 (x:LT):List Tk:= .wd x.1::qh x.2
def cw (x:LT):List UInt8:=tkB (d7 x)
def fh:List LT->List Tk
 | []=> []
 | [x]=>d7 x
 |x::y::r=>d7 x++ .nl::fh (y::r)
theorem pg: ∀ls:List LT,tkB (fh ls)=bF [10] (ls.map cw)
 | []=>rfl
 | [x]=>by simp[fh,bF,cw]
 |x::y::r=>by
  have g:=pg (y::r)
  have e:bF [10] ((x::y::r).map cw)=cw x++10::bF [10] ((y::r).map cw):=by simp[bF]
  rw[e,<-g,fh,tF,cv];rfl
theorem Bu {r:List Tk}(hr:okT 2 r): ∀l:List Tk,(∀t∈l,F1 t)->okT 2 (qh l++r)
 | [],_=>hr
 |t::l,h=>by
  have g:=Bu hr l λx y=>h x (.tail _ y)
  have ht:=h t (.head _)
  have e:qh (t::l)++r= .sp::t::(qh l++r):=rfl
  rw[e]
  refine⟨rfl,?_⟩
  cases t with
  |wd s=>exact⟨by decide,ht,g⟩
  |sp=>exact ht.elim
  |nl=>exact ht.elim
  |em k s=>exact⟨rfl,ht.1,ht.2,g⟩
  |cd s=>exact⟨rfl,ht,g⟩
  |lk s d=>exact⟨rfl,ht.1,ht.2,g⟩
  |es s=>exact⟨rfl,ht,g⟩
theorem uG {x:LT}{r:List Tk}(h:xr x)(hr:okT 2 r):okT 0 (d7 x++r):=⟨by decide,h.1,Bu hr x.2 h.2⟩
theorem rz: ∀ {ls:List LT},ls≠ []->(∀x∈ls,xr x)->okT 0 (fh ls)
 | [],h,_=>absurd rfl h
 | [x],_,h=>by
  have:=uG (r:= []) (h x (.head _)) rfl
  rw[lG0] at this
  exact this
 |x::y::r,_,h=>uG (h x (.head _)) ⟨rfl,rz (ls:=y::r) (by simp) λz hz=>h z (.tail _ hz)⟩
theorem qd {x:LT}(h:xr x): ∃c r,cw x=c::r/\wB c=true:=by
 obtain⟨c,t,g⟩:=lA1 h.1.ne
 refine⟨c,t++tkB (qh x.2),?_,h.1.by_ c (by rw[g];exact .head _)⟩
 show x.1++_=_
 rw[g];rfl
theorem rr {c:UInt8}(h:wB c=true):nG c=true/\cM c=false/\lg c=false/\c≠45/\c≠60/\c≠61/\c≠10/\c≠13/\c≠0/\c≠91:=by
 have:=lD2.1 (show (List.range 256).all (λn=> !(wB (UInt8.ofNat n))||(nG (UInt8.ofNat n) && !cM (UInt8.ofNat n) && !lg (UInt8.ofNat n) && UInt8.ofNat n !=45 && UInt8.ofNat n !=60 && UInt8.ofNat n !=61 && UInt8.ofNat n !=10 && UInt8.ofNat n !=13 && UInt8.ofNat n !=0 && UInt8.ofNat n !=91))=true by kernel_rfl) c.toNat (lV2.2 c.toNat_lt)
 rw[lY3,h] at this
 simpa[and_assoc] using this
theorem yS {x:LT}(h:xr x):TxL (cw x):=by
 obtain⟨c,r,e,hc⟩:=qd h
 obtain⟨I,y,_,W,O,U,_⟩:=rr hc
 rw[e]
 refine⟨λl H=>?_,by rw[lL3,y];rfl⟩
 have E:=H.has
 have V:=E.plain I
 have g:(l.lead 3 false).peek=c:=by rw[E.lead y 2];exact E.peek
 refine⟨⟨V,by rw[g];exact O,by rw[g];exact W,by rw[g];exact U⟩,?_⟩
 unfold Ln.rest
 rw[H.tx,lH2 (by simp[y])]
theorem qK {op:Opt}(I:op.auto=false){ls:List LT}(O:ls≠ [])(h: ∀x∈ls,xr x)(H:(bF [10] (ls.map cw)).length<200000):xh vx op (ls.map cw):=by
 have g:=rz O h
 have y:=pg ls
 have E:=tE I g (by rw[y];exact H)
 have hd:=zw g
 rw[y] at E hd
 refine⟨Leaf.fin.toN (lf:= .para (ls.map cw)) ⟨by omega,?_,?_⟩,?_,?_⟩
 ·rw[<-y]
  obtain⟨s,r,e,hs⟩:=g.first
  rw[e]
  obtain⟨c,t,rfl⟩:=lA1 hs.ne
  simp[cv,Tk.B]
 ·rw[<-y]
  obtain⟨s,r,e,hs⟩:=g.first
  rw[e]
  obtain⟨c,t,rfl⟩:=lA1 hs.ne
  have hc:=rr (hs.by_ c (.head _))
  have U:tkB (.wd (c::t)::r)=c::(t++tkB r):=rfl
  rw[U,lH2 (by simp[hc.2.2.1])]
  simp[hc.2.2.2.2.2.2.2.2.2]
 ·rw[hd];exact E
 ·rw[hd];exact Ba g (by rw[y];simp;omega)
theorem Cb {op:Opt}(I:op.task=false)(U:op.ids=false)(O:op.auto=false){ec:ai}{d lv:Nat}(V:1<=lv/\lv<=6){x:LT}(h:xr x)(H:(cw x).length<90000):
 BlkP vx op ec [hN lv 35++32::cw x] (λn=> .mk {kind:=5,num:=(lv:Nat),s:=n,e:=n} (fW (tkG Tk.out [] (d7 x)))) d none:=by
 have g:okT 0 (d7 x):=by
  have:=uG (r:= []) h rfl
  rw[lG0] at this
  exact this
 have hd:=zw g
 obtain⟨m,a7,e,W,a6⟩:=g.last (by simp[d7])
 have E:=tE (o:=op) O g (by show (cw x).length<_;omega)
 have y:=Ba (p:= []) g (by show [].length+(cw x).length<_;simp;omega)
 have e':cw x=m++ [a7]:=e
 rw[<-hd] at E y⊢
 rw[e] at E y⊢
 rw[e'] at H⊢
 exact D6 (G:=vx) I U V ⟨W,a6⟩ (by simp at H;omega) E y
theorem zV {op:Opt}(y:op.task=false)(H:op.table=false)(I:op.auto=false){ec:ai}{d:Nat}{ls:List LT}(g:ls≠ [])(h: ∀x∈ls,xr x)(E:(bF [10] (ls.map cw)).length<200000):
 BlkP vx op ec (ls.map cw) (λn=> .mk {kind:=6,s:=n,e:=n+ls.length - 1} (fW (tkG Tk.out [] (fh ls)))) d none:=by
 have:=D4 (G:=vx) y H (ec:=ec) (d:=d) (ls:=ls.map cw) (by simpa using g) (λs hs=>by obtain⟨x,O,rfl⟩:=lS1.1 hs;exact yS (h x O)) (qK I g h E)
 rw[lS0,<-pg,zw (rz g h)] at this
 exact this
theorem vO {op:Opt}(y:op.task=false)(H:op.table=false)(I:op.auto=false){ec:ai}{d:Nat}{c:UInt8}(hc:c=61\/c=45){ls:List LT}(g:ls≠ [])(h: ∀x∈ls,xr x)(E:(bF [10] (ls.map cw)).length<200000):
 BlkP vx op ec (ls.map cw++ [[c,c,c]]) (λn=> .mk {kind:=5,num:=(AD c:Nat),s:=n,e:=n+ls.length} (fW (tkG Tk.out [] (fh ls)))) d none:=by
 have:=As (G:=vx) y H (ec:=ec) (d:=d) hc (ls:=ls.map cw) (by simpa using g) (λs hs=>by obtain⟨x,O,rfl⟩:=lS1.1 hs;exact yS (h x O)) (qK I g h E)
 rw[lS0,<-pg,zw (rz g h)] at this
 exact this
def qZ (x:Nat × List UInt8):List UInt8:=hN x.1 32++x.2
theorem DU {k:Nat}{s:List UInt8}(U:k<=3)(hs:WdP s):CoL [96,96,96] (qZ (k,s)):=by
 obtain⟨c,t,rfl⟩:=lA1 hs.ne
 have hc:=hs.by_ c (.head _)
 have y:=(AN hc).1
 refine⟨λl H=>?_,?_⟩
 ·intro n d u info V
  have I:=LnR.strip (c:=c) (r:=t) y k 3 0 U H
  obtain⟨O,W,g,_⟩:=V
  have E:=LnR.skip (a:=hN k 32) H
  rw[I] at g
  rw[lG2] at E
  have:({l with i:=l.i+k}:Ln).peek=c:=E.has.peek
  exfalso
  have g:c=d:=this.symm.trans g
  subst g
  rcases O with rfl|rfl
  ·exact absurd hc (by decide)
  ·exact absurd hc (by decide)
 ·show (hN k 32++c::t).all cM=false
  rw[lD5,lL3,y];simp

def CQ (G:List UInt8->List Inl)(op:Opt)(ec:ai)(ls:List (List UInt8))(xs:Nat->List IN)(d:Nat)(bc:Option UInt8):Prop:=
 ∀(cx:List CX) (root top:Bk) (cf gs junk:List Bk) (pend0:List IN) (rem:List (List UInt8)) (n:Nat) (Q:List DB->Prop),cx.length+d<=400->n+ls.length<=20000->(∀s∈ls,(ctx cx s).length<100000)->root.isRoot->root::cf=gs++ [top]->FrX (n+1) cx cf->Pd G op pend0 junk .none->junk.length<=900->(∀c,bc=some c->CR c junk)->BDi n gs top junk->
  (∀fs lf,St G op cx d (n+ls.length) gs top (pend0++xs (n+1)) fs lf->OkL ec op Q rem (n+ls.length) fs lf)->
  ∀(σ:Out) (R:Ending->World->Prop) (L:List ai) (b b1 pb:Nat) (p:PS) (w:World) (l:Ln) (E:OA->Nat->WP),Runs R E b b1->ec∈L->op.at pb∈L->p.pz=kE pb->p.lineno=n+1->p.depth=gs.length->LnR l (ls.headD [])->l.text.length<100000->DocC σ b (l.at b1::L) (gs++top::junk) .none p w->
   (∀w (p':PS) g y,p'.base=p.base->p'.lineno=p.lineno->OkL ec op Q (ls.tail.map (ctx cx)++rem) (n+1) g y->DocC σ b L g y p' w->R (hQ (.tuple #[])) w)->aj.bl102 R E (kE b) b1 w
theorem BlkP.seq {ec:ai}{ls:List (List UInt8)}{x:Nat->IN}{d:Nat}{bc:Option UInt8}(h:BlkP G op ec ls x d bc):CQ G op ec ls (λn=> [x n]) d bc:=h
theorem St.comp {cx:List CX}{d n:Nat}{gs0 E fs:List Bk}{top0 g:Bk}{dsA:List DB}{accA p2 xsA y:List IN}{lf:Leaf}(b3:Sims gs0 E)(b4:g.lk top0)(V:g.D=top0.D++dsA)(b6:TDs G op dsA accA)(c1:accA++p2=xsA)(h:St G op cx d n E g (p2++y) fs lf):St G op cx d n gs0 top0 (xsA++y) fs lf:=by
 obtain⟨root,cf,gs,top,junk,b7,H,pend,e,hr,I,b9,b5,W,a7,b8,c2,O,a6,U⟩:=h
 exact⟨root,cf,gs,top,junk,dsA++b7,accA++H,pend,e,hr,I,b9,b3.trans b5,W.trans b4,by rw[a7,V,lD0],b6.append b8,c2,by rw[lD0,O,<-lD0,c1],a6,U⟩
theorem Es {ec:ai}{ls:List (List UInt8)}{xs:Nat->List IN}{d:Nat}{bc:Option UInt8}(g0:CQ G op ec ls xs d bc){c0:UInt8}{r0:List UInt8}(b5:ls.headD []=c0::r0)(W:cM c0=false){cx:List CX}{root top:Bk}{cf gs junk:List Bk}{pend0:List IN}{rem:List (List UInt8)}{n:Nat}{Q:List DB->Prop}(d2:cx.length+d<=400)(g3:n+ls.length<=20000)(U: ∀s∈ls,(ctx cx s).length<100000)(hr:root.isRoot)(e3:root::cf=gs++ [top])(g2:FrS cx cf)(b7:Pd G op pend0 junk .none)(d5:junk.length<=900)(e4:junk= []\/ ∃f rest lb num it,∃bul:UInt8,junk=f::rest/\f.isList lb bul.toNat num it)(c9: ∀c,bc=some c->CR c junk)(c1:BD n (gs++top::junk))(e2: ∀y E,Sims gs y->top.sim E-> ∀fs lf,St G op cx d (n+ls.length) y E (pend0++xs (n+1)) fs lf->OkL ec op Q rem (n+ls.length) fs lf):OkL ec op Q (ls.map (ctx cx)++rem) n (gs++top::junk) .none:=by
 obtain⟨s,rest,rfl⟩: ∃s rest,ls=s::rest:=by
  cases ls with
  |nil=>cases b5
  |cons s rest=>exact⟨s,rest,rfl⟩
 have hs:s=c0::r0:=b5
 have b4:s.all cM=false:=by rw[hs,lL3,W];rfl
 simp only[lF0] at g3
 show∀nl,pK [ec] op (n+1) (ctx cx s) nl (gs++top::junk) .none (OkL ec op Q (rest.map (ctx cx)++rem) (n+1))
 intro nl
 refine z6 g2 hr e3 (λa x h0 _=>Bw b4 _) (by omega) (U s (.head _)) λσ R L b b1 pb p w X y E c3 a6 l2 b6 e0 c8 e1 e5 h1 c2 b9 a7 d4 O H d1 hd g5 h f3=>?_
 have c5:l2.blank=false:=by unfold Ln.blank;rw[H.tx];exact b4
 have g6:=a7.len
 have g7:y.length=a6.length:=by have:=congrArg List.length O;simp at this;omega
 have e7:BD n (y++E::junk):=by
  obtain⟨_,_,_,_,_,_,c4,_⟩:=h
  have V:Sims (gs++top::junk) (y++E::junk):=Sims.append c2 (.cons b9 (Sims.refl λf I=>(c4 f (by simp[I])).2.2.2))
  exact⟨Bi V c1.1,by rw[V.mem.2];exact c1.2⟩
 have go: ∀w,DocC σ b (l2.at b1::L) (y++E::junk) .none p w->aj.k2 R (kE b) b1 w:=by
  intro w h
  refine k2nb h H.ok c5 λw h=>?_
  refine g0 cx c3 E a6 y junk pend0 rem n Q d2 (by simp;omega) U d4 O a7 b7 d5 c9 e7.i (e2 y E c2 b9) σ R L b b1 pb p w l2 _ (Runs.top b b1) e0 c8 e1 e5 hd H d1 h λw p' e6 d0 a1 a2 a3 h=>?_
  exact f3 w p' e6 d0 a1 a2 a3 h
 rcases e4 with rfl|⟨f,g4,lb,num,it,bul,rfl,I⟩
 ·exact endX b6 h (by simp;omega) ⟨by simp,by simp;omega⟩ go
 ·have d3:LnR l2 (c0::r0):=by rw[<-hs];exact H
  have b3:=I.1
  cases b7 with
  |quote g1 _ _=>
   obtain⟨h4,f0,_⟩:=g1
   rw[f0] at b3;cases b3
  | @list _ g junk2 _ lb2 wd2 bul2 num2 it2 items ixs xs2 ys2 hf2 hfD hit hg hwd hu hxs hys=>
   obtain⟨ib,e8,h2,f4⟩:=hg
   obtain⟨e9,f5⟩:=hf2
   have h:DocC σ b (l2.at b1::L) ((y++ [E])++f::(g::junk2)) .none p w:=by simpa using h
   refine E8 b6 h (by simp;omega) ⟨by simp,by simp;omega⟩ H.ok (λh3 K w b8 h f6=>?_) λw h=>go w (by simpa using h)
   rw[e9]
   refine bm gl ?_
   refine lA (ib:=ib) (lb:=lb2) (n:=wd2) (hv:=true) (bul:=bul2.toNat) (num:=num2) (lo:=false) (td:= .nilFunc) h H.ok (by omega) ?_ ?_ (by rw[d3.padNo W hwd.1];exact⟨rfl,rfl⟩) f6
   ·rw[<-e8];exact b8 f (by simp) _ (by rw[f5];exact .head _)
   ·exact b8 g (by simp) _ (by rw[f4];exact .head _)

theorem Fw {E pend pend0:List IN}{x g:IN}(h:E++pend=pend0++ [x])(H:pend= [g]):g=x:=by
 subst H
 exact(lE4 h rfl).2|>λh=>by simpa using h
theorem Dc (d3:op.task=false){ec:ai}{y E:List (List UInt8)}{V:Nat->IN}{a7:Nat->List IN}{d:Nat}{c1 b8:Option UInt8}(m3:BlkP G op ec y V d c1)(e3:y≠ [])(h7:CQ G op ec E a7 d b8){c0:UInt8}{r0:List UInt8}(f3:E.headD []=c0::r0)(g5:cM c0=false)(g1: ∀c,b8=some c-> ∀n,(V n).h.char≠ [c]):
 CQ G op ec (y++ []::E) (λn=>V n::a7 (n+y.length+1)) d c1:=by
 intro cx root top cf gs junk pend0 rem n Q b6 i0 W hr g2 m8 k0 f2 g3 h6 O σ R L b b1 pb p w l m9 e9 g6 e8 g0 f4 hd h9 f1 h l5
 have en:n+(y++ []::E).length=n+y.length+1+E.length:=by simp;omega
 have O: ∀fs lf,St G op cx d (n+(y++ []::E).length) gs top (pend0++(V (n+1)::a7 (n+1+y.length+1))) fs lf->OkL ec op Q rem (n+(y++ []::E).length) fs lf:=O
 rw[en] at O i0
 have i2:n+1+y.length+1=n+y.length+1+1:=by omega
 rw[i2] at O
 obtain⟨s,rest,rfl⟩:=lA1 e3
 have e6:=W [] (by simp)
 refine m3 cx root top cf gs junk pend0 (ctx cx []::(E.map (ctx cx)++rem)) n Q b6 (by omega) (λs hs=>W s (by simp at hs⊢;rcases hs with hs|hs<;>simp[hs])) hr g2 m8 k0 f2 g3 h6 (λfs lf a6=>?_) σ R L b b1 pb p w l m9 e9 g6 e8 g0 f4 hd h9 f1 h λw p' e7 f0 a1 a2 a3 h=>l5 w p' e7 f0 a1 a2 (by simpa using a3) h
 obtain⟨o0,p5,e5,b5,d1,g4,e0,n3,rfl,m5,r2,e4,m4,m1,n2,i8,c3,c5,q0,U⟩:=a6
 show∀nl,pK [ec] op (n+(s::rest).length+1) (ctx cx []) nl (e5++b5::d1) lf (OkL ec op Q (E.map (ctx cx)++rem) (n+(s::rest).length+1))
 intro nl
 have b7:=U.le (by omega)
 refine EK d3 e4.toS m5 r2 (by omega) e6 c3 (by omega) b7.1 b7.2 λf5 d5 d2 ds2 e1 d4 o2 o6 t1 j1 m6 n1 m2 c8 c9 i1 d0 f6 p1 b9 o5=>?_
 have p3:=c3.len
 have p4:ds2.length<=1:=by
  have:=c9.len
  have:=congrArg List.length d0
  rw[lA0] at this
  omega
 have g7:BD (n+(s::rest).length+1) (f5++d5::d2):=by
  refine⟨λf I=>?_,by have:=U.2;omega⟩
  rcases lO0.1 I with I|I
  ·have:=Bi t1 (λx b4=>U.1 x (by simp[b4])) f I;omega
  ·rcases lW0.1 I with rfl|I
   ·have:=U.1 b5 (by simp)
    rw[c8,lA0];omega
   ·have:=f6.2 (3*(n+(s::rest).length)) (λg h8=>U.1 g (by simp[h8])) f I;omega
 refine Es h7 f3 g5 b6 (by omega) (λs hs=>W s (by simp[hs])) n1 m2 m6 i1 (by omega) ?_ ?_ g7 λo4 o3 n0 c2 fs lf a6=>?_
 ·rcases b9 with H|⟨f,rs,lb,num,it,bul,H,b3,_⟩
  ·exact .inl H
  ·exact .inr ⟨f,rs,lb,num,it,bul,H,b3⟩
 ·intro c hc
  rcases b9 with H|⟨f,rs,lb,num,it,bul,H,b3,x,i3,j0⟩
  ·exact .inl H
  ·refine .inr ⟨f,rs,lb,bul,num,it,H,b3,?_⟩
   rintro rfl
   have b4:=Fw c5 i3
   exact g1 bul hc (n+1) (b4▸j0)
 ·refine O fs lf ?_
  have c4:=a6.comp (gs0:=gs) (top0:=top) (dsA:=g4++ds2) (accA:=e0++e1) (p2:=d4) (xsA:=pend0++ [V (n+1)]) ((m4.trans t1).trans n0) (c2.lk.trans (j1.trans m1)) (by rw[c2.2.2.1,c8,n2,lD0]) (i8.append c9) (by rw[lD0,d0,c5])
  rw[lD0] at c4
  exact c4
theorem CG (f0:op.task=false){ec:ai}{ls:List (List UInt8)}{xs:Nat->List IN}{d:Nat}{bc:Option UInt8}(m3:CQ G op ec ls xs d bc){c0:UInt8}{r0:List UInt8}(d2:ls.headD []=c0::r0)(i3:cM c0=false):
 BlkP G op ec (ls.map λs=>62::32::s) (λn=> .mk {kind:=2,s:=n,e:=n+ls.length - 1} (xs n)) (d+1) none:=by
 intro cx root top cf gs junk pend0 rem n Q p1 e3 f6 hr d5 e9 c3 q4 q8 a6 d1 σ R L b b1 pb p w l r7 h4 i8 d0 d3 b8 hd b4 h6 h m5
 obtain⟨s,rest,rfl⟩: ∃s rest,ls=s::rest:=by
  cases ls with
  |nil=>cases d2
  |cons s rest=>exact⟨s,rest,rfl⟩
 have hs:s=c0::r0:=d2
 have h8:s.all cM=false:=by rw[hs,lL3,i3];rfl
 have b4:LnR l (62::32::s):=b4
 have q5:=e9.len
 have p5:gs.length=cf.length:=by have:=congrArg List.length d5;simp at this;omega
 rw[lS0] at e3 d1
 have c9: ∀s:List UInt8,ctx cx (62::32::s)=ctx (cx++ [.q]) s:=λs=>(nT cx [.q] s).symm
 refine zR f0 c3 h hd (by omega) b4 h8 (a6.le (by omega)).1 (a6.le (by omega)).2 d3 d0 (by omega) λw p' a7 c2 f e7 e0 n2 k1 k2 k3 k4 e4 m8 m9 b9 h=>?_
 obtain⟨c8,b6,n0,r2,k0⟩:=jA e9 hr d5 k1
 have r5:=k3.len
 have r4:=c3.len
 have h7:FrX (n+1) (cx++ [.q]) (b6++ [f]):=k0.append (.q e4 (by rw[m9,b8]) .nil)
 have f5:c8::(b6++ [f])=(gs++ [a7])++ [f]:=by rw[<-n0];simp
 have g7:junk= []->c2= []:=by
  rintro rfl
  cases c3
  cases k3
  rfl
 have j0:BDi n (gs++ [a7]) f []:=by
  have l5:txF (gs++top::junk)=txF gs++(cl top.D++txF junk):=by simp[txF]
  have E:txF ((gs++ [a7])++ [f])=txF gs++(cl top.D++cl c2):=by rw[bD,bD,dH,dH,k2,b9,df];simp[cl]
  refine⟨λg I=>?_,λg I=>?_,.inr ⟨rfl,?_⟩⟩
  ·rcases lO0.1 I with I|I
   ·exact a6.1 g I
   ·obtain rfl:=lQ0.1 I
    have:=a6.2.1 top (.head _)
    rw[k2,lA0];omega
  ·obtain rfl:=lQ0.1 I
   rw[b9];simp
  ·rw[E]
   have V:=a6.2.2
   rw[l5] at V
   simp only[lA0] at V⊢
   rcases V with V|⟨j1,V⟩
   ·omega
   ·rw[g7 j1]
    simp[cl] at V⊢
    omega
 have g3:p'.pz=kE pb:=by rw[<-d3];exact oP e7
 refine h4 w λX i1=>?_
 refine m3 (cx++ [.q]) c8 f (b6++ [f]) (gs++ [a7]) [] [] rem n Q (by simp;omega) e3 (λs hs=>by rw[<-c9];exact f6 _ (lS1.2 ⟨s,hs,rfl⟩)) r2 f5 h7 .none (by simp) (λc _=> .inl rfl) j0 (λfs lf h9=>?_) σ R L b b1 pb p' w _ X (Runs.of i1 b b1) i8 d0 g3 (e0.trans b8) (by rw[n2,hd];simp) (LnR.skip (a:= [62,32]) b4) h6 (by simpa using h) λw m6 h1 h5 a1 a2 a3 h=>?_
 ·obtain⟨c4,g5,q0,O,c5,p4,o5,o4,rfl,o2,b3,b7,v1,c1,e5,o0,o3,e6,r6,m2⟩:=h9
  have o6:=b7
  obtain⟨W,b5,rfl,n3,e8⟩:=xJ v1
  have g0: ∃U,g5=U++ [O]/\c4::U=W++ [b5]:=by
   cases W with
   |nil=>
    simp only[lT0,lR0,lU0] at b3
    obtain⟨rfl,rfl⟩:=b3
    exact⟨[],rfl,rfl⟩
   |cons y W=>
    simp only[lR0,lU0] at b3
    obtain⟨rfl,rfl⟩:=b3
    exact⟨W++ [b5],by simp,rfl⟩
  obtain⟨U,rfl,g4⟩:=g0
  have d4:FrX (n+(s::rest).length) cx U/\O.ob.e=n+(s::rest).length:=by
   refine⟨?_,b7.lastE U O rfl⟩
   have i0: ∀ {cs:List CX} {fs:List Bk},FrX (n+(s::rest).length) cs fs-> ∀a t H,fs=a++ [t]->cs=H++ [.q]->FrX (n+(s::rest).length) H a:=by
    intro cs fs h
    induction h with
    |nil=>intro a t H e;simp at e
    | @q cs fs f hq he h2 ih=>
     intro a t H e E
     cases a with
     |nil=>
      simp only[lT0,lU0] at e
      obtain⟨rfl,rfl⟩:=e
      cases h2
      cases H with
      |nil=>exact .nil
      |cons y H=>simp at E
     |cons x a=>
      simp only[lR0,lU0] at e
      obtain⟨rfl,e⟩:=e
      cases H with
      |nil=>
       simp only[lT0,lU0] at E
       rw[E.2] at h2;cases h2;simp at e
      |cons y H=>
       simp only[lR0,lU0] at E
       rw[<-E.1]
       exact .q hq he (ih a t H e E.2)
    | @i cs fs f g lb w bul num it hf I hw he h2 ih=>
     intro a t H e E
     cases H with
     |nil=>simp at E
     |cons y H=>
      simp only[lR0,lU0] at E
      cases a with
      |nil=>simp at e
      |cons x a=>
       simp only[lR0,lU0] at e
       obtain⟨rfl,e⟩:=e
       cases a with
       |nil=>
        simp only[lT0,lU0] at e
        obtain⟨rfl,rfl⟩:=e
        cases h2
        simp at E
       |cons z a=>
        simp only[lR0,lU0] at e
        obtain⟨rfl,e⟩:=e
        rw[<-E.1]
        exact .i hf I hw he (ih a t H e E.2)
   exact i0 b7 U O cx rfl rfl
  rw[b9,lT0] at e5
  rw[lT0] at e6
  have g6:O.isQuote:=by
   obtain⟨m4,m1,n1⟩:=e4
   exact⟨m4,c1.1.trans m1,c1.2.2.trans n1⟩
  have i2:Pd G op [.mk {kind:=2,s:=n+1,e:=n+1+(s::rest).length - 1} (xs (n+1))] (O::c5) lf:=by
   have:=Pd.quote (G:=G) (op:=op) g6 (by rw[e5];exact o0) o3
   rw[e6,d4.2,c1.2.1,m8,b8] at this
   have e:n+1+(s::rest).length - 1=n+(s::rest).length:=by omega
   rw[e];exact this
  refine d1 _ _ ⟨c4,U,W,b5,O::c5,c2,pend0,[.mk {kind:=2,s:=n+1,e:=n+1+(s::rest).length - 1} (xs (n+1))],by simp,o2,g4,d4.1,n3,e8.lk.trans k1.lk,by rw[e8.2.2.1,k2],k3,i2,rfl,by simp;omega,?_⟩
  simpa using m2
 ·refine m5 w m6 h1 h5 (a1.trans e7) (a2.trans e0) ?_ h
  have:((s::rest).map λs=>62::32::s).tail.map (ctx cx)=(s::rest).tail.map (ctx (cx++ [.q])):=by
   simp[c9]
  rw[this];exact a3

theorem FrX.split {m:Nat}{b:List CX}: ∀ {a:List CX} {fs:List Bk},FrX m (a++b) fs-> ∃gs g,fs=gs++g/\FrX m a gs/\FrX m b g
 | [],fs,h=>⟨[],fs,rfl,.nil,h⟩
 |c::a,fs,h=>by
  cases h with
  |q x O E=>
   obtain⟨gs,g,rfl,H,I⟩:=FrX.split E
   exact⟨_::gs,g,rfl,.q x O H,I⟩
  |i x O z v E=>
   obtain⟨gs,g,rfl,H,I⟩:=FrX.split E
   exact⟨_::_::gs,g,rfl,.i x O z v H,I⟩
theorem Ct {a b:List UInt8}(h:a.length=b.length): ∀cx:List CX,(ctx cx a).length=(ctx cx b).length
 | []=>h
 | .q::cs=>by
  show (62::32::ctx cs a).length=(62::32::ctx cs b).length
  simp[Ct h cs]
 | .i w::cs=>by
  have g:=Ct h cs
  show (if ctx cs a= [] then [] else hN w 32++ctx cs a).length=(if ctx cs b= [] then [] else hN w 32++ctx cs b).length
  by_cases y:ctx cs a= []
  ·have hb:ctx cs b= []:=by rw[y] at g;exact lA6.1 g.symm
   rw[if_pos y,if_pos hb]
  ·have hb:ctx cs b≠ []:=by intro E;rw[E] at g;exact y (lA6.1 g)
   rw[if_neg y,if_neg hb]
   simp[g]
structure ItOK (G:List UInt8->List Inl) (op:Opt) (ec:ai) (c:UInt8) (num:Nat) (mk:List UInt8) (ls:List (List UInt8)) (xs:Nat->List IN) (d:Nat):Prop where
 seq: ∃bc,CQ G op ec ls xs d bc
 hd: ∃c0 r0,ls.headD []=c0::r0/\cM c0=false
 mkc: ∃x r,mk=x::r/\xi x
 marks: ∀l,LnR l (mk++ls.headD [])->pM l c num mk.length {l with i:=l.i+mk.length}/\l.isHR=false
 w:mk.length<100
def itL (mk:List UInt8)(ls:List (List UInt8)):List (List UInt8):=(mk++ls.headD [])::ls.tail.map (CX.pre (.i mk.length))
def LsSt (G:List UInt8->List Inl)(op:Opt)(ex:Bool)(cx:List CX)(d n U O wd:Nat)(gs0:List Bk)(top0:Bk)(pend0:List IN)(c:UInt8)(num0:Int)(s0:Nat)(ixs I:List IN)(fs:List Bk)(lf:Leaf):Prop:=
 ∃root cf gs top f y junk lb H items dsA E pend,fs=gs++top::f::y::junk/\root.isRoot/\root::cf=gs++ [top]/\FrS cx cf/\(ex=true->FrX n cx cf)/\Sims gs0 gs/\top.lk top0/\top.D=top0.D++dsA/\TDs G op dsA pend0/\
  f.isList lb c.toNat num0 H/\f.ob.s=s0/\f.D=List.map IT.db items/\ItR G op items ixs/\ItemOf H y lb wd true/\(1<=wd/\wd<100)/\y.ob.s=O/\y.ob.e=U/\TDs G op y.D E/\Pd G op pend junk lf/\E++pend=I/\junk.length<=2*d/\BD n fs
theorem LsSt.done {cx:List CX}{d n H E wd:Nat}{gs0:List Bk}{top0:Bk}{pend0:List IN}{c:UInt8}{num0:Int}{s0:Nat}{ixs y:List IN}{fs:List Bk}{lf:Leaf}(c2:Utf8.encode (c.toNat:Int)=bs [c])(h:LsSt G op true cx d n H E wd gs0 top0 pend0 c num0 s0 ixs y fs lf):
 St G op cx (d+1) n gs0 top0 (pend0++ [z0 s0 c num0 (ixs++ [.mk {kind:=4,width:=wd,s:=E,e:=H} y])]) fs lf:=by
 obtain⟨root,cf,gs,top,f,g,junk,lb,d2,items,dsA,d0,pend,rfl,b8,b9,d3,c5,c9,c3,c8,c1,c4,b4,b5,b6,U,V,W,b3,b7,a6,a7,d1,O⟩:=h
 have I:=Pd.list c4 b5 b6 U V c2 b7 a6
 rw[b4,W,b3,a7] at I
 exact⟨root,cf,gs,top,f::g::junk,dsA,pend0,_,rfl,b8,b9,c5 rfl,c9,c3,c8,c1,I,rfl,by simp;omega,O⟩
theorem BX {ec:ai}{c:UInt8}{num:Nat}{mk:List UInt8}{ls:List (List UInt8)}{xs:Nat->List IN}{d:Nat}(k0:ItOK G op ec c num mk ls xs d){cx:List CX}{n:Nat}{rem:List (List UInt8)}{Q:List DB->Prop}{root top f y:Bk}{cf gs:List Bk}{gs0:List Bk}{top0:Bk}{pend0:List IN}{num0:Int}{s0 lb:Nat}{H:OA}{items:List IT}{ixs:List IN}{dsA:List DB}(n3:cx.length+(d+1)<=400)(h7:n+ls.length<=20000)(a7: ∀s∈itL mk ls,(ctx cx s).length<100000)(hr:root.isRoot)(g1:root::cf=gs++ [top])(m5:FrX (n+1) cx cf)(g0:Sims gs0 gs)(g3:top.lk top0)(i0:top.D=top0.D++dsA)(d2:TDs G op dsA pend0)(c3:f.isList lb c.toNat num0 H)(f4:f.ob.s=s0)(f2:f.D=items.map IT.db)(d3:ItR G op items ixs)(b8:ItemOf H y lb mk.length true)(e8:y.D= [])(g7:y.ob.s=n+1)(e5:y.ob.e=n+1)(b6:1<=mk.length)(h4:BDi n (gs++ [top,f]) y [])(e7: ∀fs lf,LsSt G op true cx d (n+ls.length) (n+ls.length) (n+1) mk.length gs0 top0 pend0 c num0 s0 ixs (xs (n+1)) fs lf->OkL ec op Q rem (n+ls.length) fs lf){b b1 pb:Nat}{p:PS}{l:Ln}{a6:OA->Nat->WP}(e0:Runs R a6 b b1)(g5:ec∈L)(d5:op.at pb∈L)(f3:p.pz=kE pb)(f0:p.lineno=n+1)(hd:p.depth=gs.length+2)(h6:LnR l (ls.headD []))(e4:l.text.length<100000)(h:DocC σ b (l.at b1::L) (gs++top::f:: [y]) .none p w)(l5: ∀w (p':PS) I O,p'.base=p.base->p'.lineno=p.lineno->OkL ec op Q ((itL mk ls).tail.map (ctx cx)++rem) (n+1) I O->DocC σ b L I O p' w->R (hQ (.tuple #[])) w):aj.bl102 R a6 (kE b) b1 w:=by
 obtain⟨⟨bc,j0⟩,⟨c0,r0,U,o5⟩,⟨x,r,n2,o3⟩,_,b7⟩:=k0
 have b3: ∀s:List UInt8,ctx cx (CX.pre (.i mk.length) s)=ctx (cx++ [.i mk.length]) s:=λs=>(nT cx [.i mk.length] s).symm
 have c5: ∀s∈ls,(ctx (cx++ [.i mk.length]) s).length<100000:=by
  intro s hs
  rw[<-b3]
  cases ls with
  |nil=>cases hs
  |cons p4 rest=>
   rcases lW0.1 hs with rfl|hs
   ·have m3:=a7 (mk++s) (.head _)
    have c9:s≠ []:=by
     intro h3
     have U:s=c0::r0:=U
     rw[h3] at U;cases U
    have e:CX.pre (.i mk.length) s=hN mk.length 32++s:=by
     show (if s= [] then [] else hN mk.length 32++s)=_
     rw[if_neg c9]
    rw[e,Ct (b:=mk++s) (by simp)]
    exact m3
   ·exact a7 _ (.tail _ (lS1.2 ⟨s,hs,rfl⟩))
 have e6:FrX (n+1) (cx++ [.i mk.length]) (cf++ [f,y]):=m5.append (.i c3 b8 ⟨b6,b7⟩ e5 .nil)
 have d0:root::(cf++ [f,y])=(gs++ [top,f])++ [y]:=by
  have:root::(cf++ [f,y])=(root::cf)++ [f,y]:=rfl
  rw[this,g1];simp
 refine j0 (cx++ [.i mk.length]) root y (cf++ [f,y]) (gs++ [top,f]) [] [] rem n Q (by simp;omega) h7 c5 hr d0 e6 .none (by simp) (λc _=> .inl rfl) h4 (λfs lf f1=>?_) σ R L b b1 pb p w l a6 e0 g5 d5 f3 f0 (by rw[hd];simp) h6 e4 (by simpa using h) λw m1 I O a1 a2 a3 h=>?_
 ·obtain⟨E,o0,o4,h2,c4,o2,d1,c8,rfl,n0,h5,d4,v1,W,c1,m8,n1,c2,o6,i8⟩:=f1
  obtain⟨V,p1,rfl,b4,g2⟩:=d4.split
  obtain⟨b5,k5,rfl,m6,m4⟩:=uz v1
  cases m4 with
  | @cons _ top5 _ fs5 z1 z2=>
   cases z2 with
   | @cons _ f5 _ _ z3 z4=>
    cases z4
    cases g2 with
    | @i _ fsn f6 g6 lb6 w6 bul6 num6 it6 y1 y2 y3 y4 y5=>
     cases y5
     have h8:(E::V)++ [f6,g6]=(b5++ [top5])++ [f5,h2]:=by
      have:(E::V)++ [f6,g6]=E::(V++ [f6,g6]):=rfl
      rw[this,h5];simp
     obtain⟨j1,b9⟩:=lE4 h8 rfl
     simp only[lU0,and_true] at b9
     obtain⟨rfl,rfl⟩:=b9
     rw[e8,lT0] at c1
     rw[lT0] at c2
     have e9:ItemOf H g6 lb mk.length true:=by
      obtain⟨ib,m9,h9,m2⟩:=b8
      exact⟨ib,m9,W.1.trans h9,W.2.2.trans m2⟩
     refine e7 _ _ ⟨E,V,b5,top5,f6,g6,c4,lb,H,items,dsA,d1,c8,by simp,n0,j1,b4.toS,λ_=>b4,g0.trans m6,z1.lk.trans g3,by rw[z1.2.2.1,i0],d2,z3.list c3,(z3.lk.2.1).trans f4,by rw[z3.2.2.1,f2],d3,e9,⟨b6,b7⟩,W.2.1.trans g7,y4,by rw[c1];exact m8,n1,c2,by omega,by simpa using i8⟩
 ·refine l5 w m1 I O a1 a2 ?_ h
  have:(itL mk ls).tail.map (ctx cx)=ls.tail.map (ctx (cx++ [.i mk.length])):=by
   show (ls.tail.map (CX.pre (.i mk.length))).map (ctx cx)=_
   rw[List.map_map]
   exact List.map_congr_left λs _=>b3 s
  rw[this];exact a3

theorem wx (f5:op.task=false){ec:ai}{c:UInt8}{num:Nat}{mk:List UInt8}{ls:List (List UInt8)}{xs:Nat->List IN}{d:Nat}(b3:ItOK G op ec c num mk ls xs d){ex:Bool}{cx:List CX}{n c2 c4 wd:Nat}{gs0:List Bk}{top0:Bk}{pend0:List IN}{num0:Int}{s0:Nat}{ixs b7:List IN}{fs:List Bk}{lf:Leaf}{rem:List (List UInt8)}{Q:List DB->Prop}(j0:LsSt G op ex cx d n c2 c4 wd gs0 top0 pend0 c num0 s0 ixs b7 fs lf)(g6:cx.length+(d+1)<=400)(o0:n+ls.length<=20000)(c9: ∀s∈itL mk ls,(ctx cx s).length<100000)(h9: ∀fs lf,LsSt G op true cx d (n+ls.length) (n+ls.length) (n+1) mk.length gs0 top0 pend0 c num0 s0 (ixs++ [.mk {kind:=4,width:=wd,s:=c4,e:=c2} b7]) (xs (n+1)) fs lf->OkL ec op Q rem (n+ls.length) fs lf):OkL ec op Q ((itL mk ls).map (ctx cx)++rem) n fs lf:=by
 obtain⟨root,cf,gs,top,f,I,junk,lb,q8,items,dsA,r7,pend,rfl,hr,m4,q2,r8,m3,m5,o4,g7,f0,m2,l5,h0,e6,i8,n2,h8,g0,p1,g4,r5,e5⟩:=j0
 obtain⟨c0,r0,d3,m6⟩:=b3.hd
 obtain⟨x,r,b5,b8⟩:=b3.mkc
 have j1:1<=mk.length:=by rw[b5];simp
 have q5:1<=ls.length:=by
  cases ls with
  |nil=>cases d3
  |cons s rest=>simp
 have d2:(mk++ls.headD []).all cM=false:=by rw[b5];simp[b8.1]
 show∀nl,pK [ec] op (n+1) (ctx cx (mk++ls.headD [])) nl (gs++top::(f::I::junk)) lf (OkL ec op Q ((itL mk ls).tail.map (ctx cx)++rem) (n+1))
 intro nl
 refine z6 q2 hr m4 (λa x r4 _=>Bw d2 _) (by omega) (c9 _ (.head _)) λσ R L b b1 pb p w X y E q4 m8 l2 o6 m9 d1 e0 b9 s3 e9 c3 b6 d5 b4 O h6 hd r1 h p4=>?_
 have g2:l2.blank=false:=by unfold Ln.blank;rw[O.tx];exact d2
 have r6:=b6.len
 have r3:y.length=m8.length:=by have:=congrArg List.length b4;simp at this;omega
 obtain⟨f3,k0⟩:=b3.marks l2 O
 have d4:LnR l2 (x::(r++ls.headD [])):=by rw[b5] at O;exact O
 have d0:Sims (gs++top::f::I::junk) (y++E::f::I::junk):=by
  obtain⟨_,_,_,_,_,_,h4,_⟩:=h
  exact Sims.append e9 (.cons c3 (Sims.refl λk H=>(h4 k (lB0 _ (.tail _ H))).2.2.2))
 have U:BD n (y++E::f::I::junk):=⟨Bi d0 e5.1,by rw[d0.mem.2];exact e5.2⟩
 have e3:=U.le (by omega)
 have h7:=e6
 obtain⟨ib,q3,s4,q0⟩:=e6
 have g5:=f0
 obtain⟨o3,q1⟩:=f0
 have h:DocC σ b (l2.at b1::L) ((y++ [E])++f::(I::junk)) lf p w:=by simpa using h
 refine E8 o6 h (by simp;omega) ⟨by simp,by simp;omega⟩ O.ok (λs5 K w e8 h H=>?_) λw h=>?_
 ·rw[o3]
  refine bm gl ?_
  refine lA (ib:=ib) (lb:=lb) (n:=wd) (hv:=true) (bul:=c.toNat) (num:=num0) (lo:=false) (td:= .nilFunc) h O.ok (by omega) ?_ ?_ (by rw[d4.padNo b8.1 i8.1];exact⟨rfl,rfl⟩) H
  ·rw[<-q3];exact e8 f (by simp) _ (by rw[q1];exact .head _)
  ·exact e8 I (by simp) _ (by rw[q0];exact .head _)
 refine k2nb h O.ok g2 λw h=>?_
 have h:DocC σ b (l2.at b1::L) (y++E::f::I::junk) lf p w:=by simpa using h
 have c1:=LnR.skip O
 have f6:({l2 with i:=l2.i+mk.length}:Ln).has c0 r0:=by rw[d3] at c1;exact c1.has
 refine Bv f5 (Runs.top b b1) p1 h hd (by omega) (rL b6.toS d5 b4) g5 h7 g0 d4.has b8 k0 f3 f6 m6 e3.1 e3.2 e0 d1 (by omega) λY e4 w p' V W c5 r9 a1 a2 a3 a4 a5 c8 n3 a8 a9 a10 a11 a12 a13 a14 h1 g3 h=>?_
 have g1:p'.pz=kE pb:=by rw[<-e0];exact oP a1
 have f4:ItR G op (items++ [c5]) (ixs++ [.mk {kind:=4,width:=wd,s:=c4,e:=c2} b7]):=by
  refine h0.append ?_
  have:=ItR.cons (G:=G) (op:=op) n3 a8 .nil
  rw[a9,a10,a11,n2,h8,g4] at this
  exact this
 have n1:BDi n (y++ [E,V]) W []:=by
  have o2:txF (y++E::f::I::junk)=txF y++(cl E.D++(cl f.D++txF (I::junk))):=by simp[txF]
  have o5:txF ((y++ [E,V])++ [W])=txF y++(cl E.D++(cl f.D++cl c5.D)):=by
   have:cl V.D=cl f.D++cl c5.D:=by rw[c8,jz];simp[IT.db]
   rw[show (y++ [E,V])++ [W]=y++([E]++([V]++ [W])) by simp,bD,bD,bD,dH,dH,dH,this,a14]
   simp[cl]
  refine⟨λk H=>?_,λk H=>?_,.inr ⟨rfl,?_⟩⟩
  ·simp only[lO0,lW0,lD1,or_false] at H
   rcases H with H|rfl|rfl
   ·have:=U.1 k (by simp[H]);omega
   ·have:=U.1 k (by simp);omega
   ·have:=U.1 f (by simp)
    rw[c8,lA0];simp;omega
  ·obtain rfl:=lQ0.1 H
   rw[a14];simp
  ·rw[o5]
   have e7:=U.2
   rw[o2] at e7
   simp only[lA0] at e7⊢
   omega
 refine e4 _ _ _ (BX b3 g6 o0 c9 d5 b4 b6 (m3.trans e9) (c3.lk.trans m5) (by rw[c3.2.2.1,o4]) g7 a4 (a5.trans m2) (by rw[c8,l5];simp) f4 a13 a14 (h1.trans b9) (g3.trans b9) j1 n1 h9 (Runs.of e4 b b1) m9 d1 g1 (a2.trans b9) (by rw[a3,hd]) c1 h6 h λw p5 h2 h5 i0 n0 m1 h=>?_)
 exact p4 w p5 h2 h5 (i0.trans a1) (n0.trans a2) m1 h
theorem Aa (d5:op.task=false){ec:ai}{c:UInt8}{d:Nat}{cx:List CX}{n b3 c8 wd:Nat}{gs0:List Bk}{top0:Bk}{pend0:List IN}{num0:Int}{s0:Nat}{ixs b9:List IN}{fs:List Bk}{lf:Leaf}{rem:List (List UInt8)}{Q:List DB->Prop}(h6:LsSt G op true cx d n b3 c8 wd gs0 top0 pend0 c num0 s0 ixs b9 fs lf)(o4:cx.length+(d+1)<=400)(q1:n+1<=20000)(e7:(ctx cx []).length<100000)(g7: ∀fs lf,LsSt G op false cx d (n+1) b3 c8 wd gs0 top0 pend0 c num0 s0 ixs b9 fs lf->OkL ec op Q rem (n+1) fs lf):OkL ec op Q (ctx cx []::rem) n fs lf:=by
 obtain⟨root,cf,gs,top,f,y,junk,lb,b8,items,dsA,h5,pend,rfl,hr,i0,n3,p5,h9,j0,m3,f4,d1,h8,h7,g1,c4,c1,k0,g4,e9,c5,f3,o6,a7⟩:=h6
 have b7:ctx cx []=ctx (cx++ [.i wd]) []:=by rw[nT];rfl
 have g5:FrS (cx++ [.i wd]) (cf++ [f,y]):=n3.append (.i d1 c4 c1 .nil)
 have e6:root::(cf++ [f,y])=(gs++ [top,f])++ [y]:=by
  have:root::(cf++ [f,y])=(root::cf)++ [f,y]:=rfl
  rw[this,i0];simp
 have a6:gs++top::f::y::junk=(gs++ [top,f])++y::junk:=by simp
 have c3:=a7.le (by omega)
 have f1: ∀k∈(gs++ [top,f])++y::junk,k.D.length<=90000:=λk E=>c3.1 k (by simpa using E)
 have f2:(txF ((gs++ [top,f])++y::junk)).length<=90000:=by rw[<-a6];exact c3.2
 have d4:(ctx (cx++ [.i wd]) []).length<100000:=b7▸e7
 show∀nl,pK [ec] op (n+1) (ctx cx []) nl (gs++top::f::y::junk) lf (OkL ec op Q rem (n+1))
 intro nl
 suffices hs:pK [ec] op (n+1) (ctx (cx++ [.i wd]) []) nl ((gs++ [top,f])++y::junk) lf (OkL ec op Q rem (n+1)) by
  have W:ctx (cx++ [.i wd]) []=ctx cx []:=b7.symm
  rw[W] at hs
  have o3:(gs++ [top,f])++y::junk=gs++top::f::y::junk:=a6.symm
  rw[o3] at hs
  exact hs
 refine EK d5 g5 hr e6 (by simp;omega) d4 c5 (by omega) f1 f2 λp3 n0 I ds2 f0 e0 U o5 t1 b5 n1 o2 m9 d0 d2 m4 d3 c2 h2 q0 g0=>?_
 obtain⟨V,q3,rfl,g3,i8⟩:=n1.split
 obtain⟨H,k5,rfl,c9,n2⟩:=uz t1
 have p1:=c5.len
 have p4:ds2.length<=1:=by
  have:=d2.len
  have:=congrArg List.length d3
  rw[lA0] at this
  omega
 cases n2 with
 | @cons _ top5 _ fs5 z1 z2=>
  cases z2 with
  | @cons _ f5 _ _ z3 z4=>
   cases z4
   cases i8 with
   | @i _ fsn f6 g6 lb6 w6 bul6 num6 it6 y1 y2 y3 y5=>
    cases y5
    have m1:(U::V)++ [f6,g6]=(H++ [top5])++ [f5,n0]:=by
     have:(U::V)++ [f6,g6]=U::(V++ [f6,g6]):=rfl
     rw[this,m9];simp
    obtain⟨m5,W⟩:=lE4 m1 rfl
    simp only[lU0,and_true] at W
    obtain⟨rfl,rfl⟩:=W
    have h1:ItemOf b8 g6 lb wd true:=by
     obtain⟨ib,o0,m2,m8⟩:=c4
     exact⟨ib,o0,b5.1.trans m2,b5.2.2.trans m8⟩
    have j1:BD (n+1) (H++top5::f6::g6::I):=by
     have O:=a7.1
     refine⟨λk E=>?_,?_⟩
     ·simp only[lO0,lW0] at E
      rcases E with E|rfl|rfl|rfl|E
      ·have:=Bi c9 (λx b6=>O x (by simp[b6])) k E;omega
      ·have:=O top (by simp);rw[z1.2.2.1];omega
      ·have:=O f (by simp);rw[z3.2.2.1];omega
      ·have:=O y (by simp);rw[d0,lA0];omega
      ·have:=c2.2 (3*n) (λx b6=>O x (by simp[b6])) k E;omega
     ·have q2:=a7.2
      have m6:=h2
      have b4:(H++ [top5,f6])++g6::I=H++top5::f6::g6::I:=by simp
      rw[b4,<-a6] at m6
      omega
    have b4:(H++ [top5,f6])++g6::I=H++top5::f6::g6::I:=by simp
    rw[b4]
    have e8:g6.ob.e=b3:=(g0 wd (by simp)).trans g4
    refine g7 _ _ ⟨U,V,H,top5,f6,g6,I,lb,b8,items,dsA,h5++f0,e0,rfl,o2,m5,g3,λl5=>(by cases l5),h9.trans c9,z1.lk.trans j0,by rw[z1.2.2.1,m3],f4,z3.list d1,(z3.lk.2.1).trans h8,by rw[z3.2.2.1,h7],g1,h1,c1,b5.2.1.trans k0,e8,by rw[d0];exact e9.append d2,m4,by rw[lD0,d3,f3],by have:=c2.1;omega,j1⟩

structure Itm where
 mark:List UInt8
 ls:List (List UInt8)
 xs:Nat->List IN
def jW (gap:Bool):List Itm->List (List UInt8)
 | []=> []
 |it::r=>if gap then []::(itL it.mark it.ls++jW gap r) else itL it.mark it.ls++jW gap r
def sA (gap:Bool):Nat->List Itm->List IN
 |_,[]=> []
 |n,it::r=>if gap then .mk {kind:=4,width:=it.mark.length,s:=n+2,e:=n+1+it.ls.length} (it.xs (n+2))::sA gap (n+1+it.ls.length) r else .mk {kind:=4,width:=it.mark.length,s:=n+1,e:=n+it.ls.length} (it.xs (n+1))::sA gap (n+it.ls.length) r
theorem sB {mk:List UInt8}{ls:List (List UInt8)}(h:ls≠ []):(itL mk ls).length=ls.length:=by
 cases ls with
 |nil=>exact absurd rfl h
 |cons s r=>simp[itL]
theorem ItOK.ne {ec:ai}{c:UInt8}{num:Nat}{mk:List UInt8}{ls:List (List UInt8)}{xs:Nat->List IN}{d:Nat}(g:ItOK G op ec c num mk ls xs d):ls≠ []:=by
 rintro rfl
 obtain⟨c0,r0,h,_⟩:=g.hd
 cases h
theorem DE (W:op.task=false){ec:ai}{c:UInt8}{d:Nat}(b9:Utf8.encode (c.toNat:Int)=bs [c])(gap:Bool){cx:List CX}{gs0:List Bk}{top0:Bk}{pend0:List IN}{num0:Int}{s0:Nat}{rem:List (List UInt8)}{Q:List DB->Prop}(a6:cx.length+(d+1)<=400): ∀(its:List Itm) {n V I wd:Nat} {ixs E:List IN} {fs:List Bk} {lf:Leaf},(∀it∈its,∃num,ItOK G op ec c num it.mark it.ls it.xs d)->LsSt G op true cx d n V I wd gs0 top0 pend0 c num0 s0 ixs E fs lf->n+(jW gap its).length<=20000->(∀s∈jW gap its,(ctx cx s).length<100000)->
 (∀fs lf,St G op cx (d+1) (n+(jW gap its).length) gs0 top0 (pend0++ [z0 s0 c num0 (ixs++ .mk {kind:=4,width:=wd,s:=I,e:=V} E::sA gap n its)]) fs lf->OkL ec op Q rem (n+(jW gap its).length) fs lf)->OkL ec op Q ((jW gap its).map (ctx cx)++rem) n fs lf:=by
 intro its
 induction its with
 |nil=>
  intro n V I wd ixs E fs lf _ H _ _ g
  exact g _ _ (H.done b9)
 |cons it r b8=>
  intro n V I wd ixs E fs lf b7 H U y g
  obtain⟨num,b4⟩:=b7 it (.head _)
  have b6:=λi hi=>b7 i (lQ1 _ hi)
  have O:=sB (mk:=it.mark) b4.ne
  cases gap with
  |false=>
   have a7:jW false (it::r)=itL it.mark it.ls++jW false r:=rfl
   have b3:sA false n (it::r)= .mk {kind:=4,width:=it.mark.length,s:=n+1,e:=n+it.ls.length} (it.xs (n+1))::sA false (n+it.ls.length) r:=rfl
   rw[b3] at g
   rw[a7] at g U y⊢
   rw[lA0,O] at U
   have b5:n+(itL it.mark it.ls++jW false r).length=n+it.ls.length+(jW false r).length:=by rw[lA0,O];omega
   rw[b5] at g
   rw[lV0,lD0]
   refine wx W b4 H a6 (by omega) (λs hs=>y s (lE1 _ hs)) λfs lf h=>?_
   refine b8 b6 h (by omega) (λs hs=>y s (lB0 _ hs)) λfs lf h=>g fs lf ?_
   simpa[lD0] using h
  |true=>
   have a7:jW true (it::r)= []::(itL it.mark it.ls++jW true r):=rfl
   have b3:sA true n (it::r)= .mk {kind:=4,width:=it.mark.length,s:=n+2,e:=n+1+it.ls.length} (it.xs (n+2))::sA true (n+1+it.ls.length) r:=rfl
   rw[b3] at g
   rw[a7] at g U y⊢
   rw[lF0,lA0,O] at U
   have b5:n+([]::(itL it.mark it.ls++jW true r)).length=n+1+it.ls.length+(jW true r).length:=by rw[lF0,lA0,O];omega
   rw[b5] at g
   rw[lU1,lR0,lV0,lD0]
   refine Aa W H a6 (by omega) (y [] (.head _)) λfs lf h=>?_
   refine wx W b4 h a6 (by omega) (λs hs=>y s (.tail _ (lE1 _ hs))) λfs lf h=>?_
   refine b8 b6 h (by omega) (λs hs=>y s (.tail _ (lB0 _ hs))) λfs lf h=>g fs lf ?_
   simpa[lD0] using h
theorem D5 (b8:op.task=false){ec:ai}{c:UInt8}{num d:Nat}(k0:Utf8.encode (c.toNat:Int)=bs [c])(gap:Bool){mk:List UInt8}{ls:List (List UInt8)}{xs:Nat->List IN}{its:List Itm}(I:ItOK G op ec c num mk ls xs d)(e6: ∀it∈its,∃num,ItOK G op ec c num it.mark it.ls it.xs d):
 BlkP G op ec (itL mk ls++jW gap its) (λn=>z0 n c num (.mk {kind:=4,width:=mk.length,s:=n,e:=n - 1+ls.length} (xs n)::sA gap (n - 1+ls.length) its)) (d+1) (some c):=by
 intro cx root top cf gs junk pend0 rem n Q c8 d3 b9 hr b4 b7 b5 m8 f0 V d0 σ R L b b1 pb p w l n1 e9 g3 c4 c9 U hd H f5 h h7
 obtain⟨c0,r0,g7,g1⟩:=I.hd
 obtain⟨x,r,c5,e8⟩:=I.mkc
 have f3:1<=mk.length:=by rw[c5];simp
 have h9:=sB (mk:=mk) I.ne
 have H:LnR l (mk++ls.headD []):=H
 obtain⟨d4,g2⟩:=I.marks l H
 have g0:LnR l (x::(r++ls.headD [])):=by rw[c5] at H;exact H
 have a7:=LnR.skip H
 have d5:({l with i:=l.i+mk.length}:Ln).has c0 r0:=by rw[g7] at a7;exact a7.has
 have m4:=b7.len
 have m5:gs.length=cf.length:=by have:=congrArg List.length b4;simp at this;omega
 have m6:=b5.len
 have i1:n+(itL mk ls++jW gap its).length=n+ls.length+(jW gap its).length:=by rw[lA0,h9];omega
 rw[i1] at d0 d3
 have d1:=V.le (by omega)
 refine zZ b8 e9 b5 (f0 c rfl) h hd (by omega) (rL b7.toS hr b4) g0.has e8 g2 d4 d5 g1 d1.1 d1.2 c9 c4 (by omega) λY d2 w p' O b6 f W lb it a1 a2 a3 k1 k2 k3 k4 g6 a6 h1 b3 f1 h4 f6 h=>?_
 obtain⟨m3,n0,j0,r2,l5⟩:=jA b7 hr b4 k1
 have m9:=k3.len
 have g4:junk= []->b6= []:=by
  rintro rfl
  cases b5
  cases k3
  rfl
 have g5:BDi n (gs++ [O,f]) W []:=by
  have h6:txF (gs++top::junk)=txF gs++(cl top.D++txF junk):=by simp[txF]
  have m1:txF ((gs++ [O,f])++ [W])=txF gs++(cl top.D++cl b6):=by
   rw[show (gs++ [O,f])++ [W]=gs++([O]++([f]++ [W])) by simp,bD,bD,bD,dH,dH,dH,k2,a6,b3,df]
   simp[cl]
  refine⟨λk y=>?_,λk y=>?_,.inr ⟨rfl,?_⟩⟩
  ·simp only[lO0,lW0,lD1,or_false] at y
   rcases y with y|rfl|rfl
   ·exact V.1 k y
   ·have:=V.2.1 top (.head _)
    rw[k2,lA0];omega
   ·rw[a6];simp
  ·obtain rfl:=lQ0.1 y
   rw[b3];simp
  ·rw[m1]
   have E:=V.2.2
   rw[h6] at E
   simp only[lA0] at E⊢
   rcases E with E|⟨i0,E⟩
   ·omega
   ·rw[g4 i0]
    simp[cl] at E⊢
    omega
 have e0:p'.pz=kE pb:=by rw[<-c9];exact oP a1
 have h2:Sims gs gs:=by
  obtain⟨_,_,_,_,_,_,e7,_⟩:=h
  exact Sims.refl λk y=>(e7 k (by simp[y])).2.2.2
 refine d2 _ _ _ (BX I (gs0:=gs) (top0:=top) (pend0:=pend0) (num0:=(num:Nat)) (s0:=n+1) (ixs:= []) (items:= []) (dsA:=b6) (rem:=(jW gap its).map (ctx cx)++rem) (Q:=Q) c8 (by omega) (λs hs=>b9 s (lE1 _ hs)) r2 j0 l5 h2 k1.lk k2 k3 g6 (f1.trans U) (by rw[a6];rfl) .nil h1 b3 (h4.trans U) (f6.trans U) f3 g5 (λfs lf f2=>?_) (Runs.of d2 b b1) g3 c4 e0 (a2.trans U) (by rw[a3,hd]) a7 f5 h λw h8 h5 f4 i2 j1 i3 h=>?_)
 ·refine DE b8 k0 gap c8 its e6 f2 d3 (λs hs=>b9 s (lB0 _ hs)) λfs lf h=>d0 fs lf ?_
  have m2:n+1 - 1=n:=by omega
  simp only[m2]
  exact h
 ·refine h7 w h8 h5 f4 (i2.trans a1) (j1.trans a2) ?_ h
  have i8:(itL mk ls++jW gap its).tail=(itL mk ls).tail++jW gap its:=rfl
  rw[i8,lV0,lD0]
  exact i3

def jl:List (List UInt8)->List (List UInt8 × UInt8)
 | []=> []
 |l::ls=>(l,if ls= [] then 0 else 10)::jl ls

theorem sy: ∀ {ls:List (List UInt8)},ls≠ []->(∀l∈ls,noNL l)->ls.getLast? ≠some []->LinesOf (bF [10] ls) (jl ls)
 | [l],_,h,hl=>by
  have:=LinesOf.last (l:=l) (by rintro rfl;exact hl rfl) (h l (by simp))
  simpa[bF,jl] using this
 |l::m::ls,_,h,hl=>by
  have g:=sy (ls:=m::ls) (by simp) (λx y=>h x (by simp[y])) (by simpa using hl)
  have e:bF [10] (l::m::ls)=l++10::bF [10] (m::ls):=by simp[bF]
  rw[e]
  exact LinesOf.cons (h l (by simp)) g
theorem EE: ∀ls:List (List UInt8),(jl ls).map Prod.fst=ls
 | []=>rfl
 |l::ls=>by rw[jl,lU1,EE ls]
theorem St.closeAll (H:op.task=false){d n:Nat}{g:Bk}{xs:List IN}{fs:List Bk}{lf:Leaf}{Q:List DB->Prop}(c4:n<=20000)(a6:g.D= [])(c3: ∀D,TDs G op D xs->Q D)(h:St G op [] d n [] g xs fs lf):pO op fs lf Q:=by
 obtain⟨root,cf,gs,top,junk,d1,c5,pend,rfl,hr,E,c2,b8,c9,b6,c1,b7,b4,d0,b5⟩:=h
 cases b8
 cases c2
 simp only[lT0,lU0,and_true] at E
 subst E
 have y:=b5.le c4
 intro σ R L b pb p w X b3 O V h a7
 refine b7.close H σ R L b pb p w X [] root 0 b3 O V (by omega) y.1 y.2 h λw p' I l a1 a2 a3 b9 W U c8 h=>?_
 refine a7 w p' I a1 (b9.root hr) (c3 _ ?_) h
 rw[W,b6,a6,lT0,<-b4]
 exact c1.append U
theorem vY (V:op.task=false){ec:ai}{ls:List (List UInt8)}{xs:Nat->List IN}{d:Nat}{bc:Option UInt8}(c1:CQ G op ec ls xs d bc){c0:UInt8}{r0:List UInt8}(O:ls.headD []=c0::r0)(b4:cM c0=false)(hd:d<=400)(c5:ls.length<=20000)(H: ∀l∈ls,noNL l/\0 ∉ l/\l.length<100000)(U:ls.getLast? ≠some [])(W:(bF [10] ls).length<1000000):
 vp [ec] op (bF [10] ls) (λy=>y=xs 1):=by
 have a6:ls≠ []:=by rintro rfl;cases O
 refine xU (G:=G) (sy a6 (λl I=>(H l I).1) U) (λb7=>?_) W (λrem n fs lf=>OkL ec op (λD=> ∃y,oR G D y/\y=xs 1/\ ∀x∈cl D,ju none [] op x.raw (G x.raw)) (rem.map Prod.fst) n fs lf) ?_ ?_ ?_
 ·have b3: ∀ls:List (List UInt8),(∀l∈ls,0 ∉ l)->(0:UInt8) ∉ bF [10] ls:=by
   intro ls
   induction ls with
   |nil=>intro _ h;simp[bF] at h
   |cons l ls b9=>
    intro h g
    cases ls with
    |nil=>simp[bF] at g;exact h l (by simp) g
    |cons m ls=>
     have e:bF [10] (l::m::ls)=l++10::bF [10] (m::ls):=by simp[bF]
     rw[e] at g
     simp only[lO0,lW0] at g
     rcases g with g|g|g
     ·exact h l (by simp) g
     ·cases g
     ·exact b9 (λx c2=>h x (.tail _ c2)) g
  exact b3 ls (λl I=>(H l I).2.1) b7
 ·intro root hr E
  show OkL ec op _ ((jl ls).map Prod.fst) 0 [root] .none
  rw[EE]
  have:=Es c1 O b4 (cx:= []) (root:=root) (top:=root) (cf:= []) (gs:= []) (junk:= []) (pend0:= []) (rem:= []) (n:=0) (Q:=λD=> ∃y,oR G D y/\y=xs 1/\ ∀x∈cl D,ju none [] op x.raw (G x.raw)) (by simpa using hd) (by omega) (λs hs=>(H s hs).2.2) hr rfl .nil .none (by simp) (.inl rfl) (λc _=> .inl rfl) ⟨λf b5=>by obtain rfl:=lQ0.1 b5;rw[E];simp,by simp[txF,cl,E]⟩ ?_
  ·have e:ls.map (ctx [])=ls:=by
    have:(ctx []:List UInt8->List UInt8)=id:=rfl
    rw[this,List.map_id]
   rw[e,lG0] at this
   exact this
  ·intro c4 c3 b8 b6 fs lf a7
   cases b8
   show pO op fs lf _
   refine a7.closeAll V (by omega) (by rw[b6.2.2.1,E]) λD E=>⟨_,E.trees,rfl,E.txs⟩
 ·intro l nl rem n fs lf h
  exact h nl
 ·intro n fs lf h
  exact h
theorem zU {ec:ai}{text:List UInt8}{H:List IN->Prop}(a7:vp [ec] op text H)(I:ec∈L)(h:Sat σ w L)(W: ∀w u M s e xs,NodeAt (.mk {kind:=1,s:=s,e:=e} xs) u M->H xs->Sat σ w (M++L)->R (hQ u.V) w):
 callE P mZ #[optV op,hX (bs text)] R w:=by
 refine nm.sound ?_
 refine Sat.bx h λb w h=>?_
 refine Sat.bx h λy w h=>?_
 have ld: ∀(k:Nat) (v:Bool),([hV op.strike,hV op.task,hV op.auto,hV op.http,hV op.table,hV op.dot,hV op.dash,hV op.quote,hV op.ids,hV op.emoji])[k]? =some (hV v)->w.cell? (hZ b k)=some (hV v):=λk v hv=>Sat.ld h (.tail _ (.head _)) hv
 refine⟨_,ld 0 _ rfl,_,ld 1 _ rfl,_,ld 2 _ rfl,_,ld 3 _ rfl,_,ld 4 _ rfl,_,ld 5 _ rfl,_,ld 6 _ rfl,_,ld 7 _ rfl,_,ld 8 _ rfl,_,ld 9 _ rfl,?_⟩
 refine Bq (o:=op) h λw pb h=>⟨_,rfl,?_⟩
 refine lm.sound ?_
 refine a7 σ _ _ w pb (by simp[I]) h (.head _) λw db k s e xs g O U h=>⟨_,_,rfl,_,rfl,?_⟩
 refine O σ _ _ w h λw u M a6 h=>xM ?_
 generalize E:((b,cel [hV op.strike,hV op.task,hV op.auto,hV op.http,hV op.table,hV op.dot,hV op.dash,hV op.quote,hV op.ids,hV op.emoji] fe):ai)=ob at h
 have h:Sat σ w (M++(g++(op.at pb::(y,cel (N16.C {}).toList ak)::ob::L))):=by rw[<-E];rw[<-E] at h;exact h
 have h:Sat σ w ((y,cel (N16.C {}).toList ak)::(M++(g++(op.at pb::ob::L)))):=h.re
 refine h.st16 0 {} u λw h=>h.ldB16 u (.head _) ?_
 refine W w u M s e xs a6 U ?_
 exact h.less ((y,cel u.C.toList ak)::op.at pb::ob::g)

def AB (g:List UInt8):Nat:=g.foldl (λa c=>a*10+(c.toNat - 48)) 0
theorem we (g:List UInt8)(c:UInt8):AB (g++ [c])=AB g*10+(c.toNat - 48):=by simp[AB]
theorem Fn: ∀(n:Nat) (g:List UInt8),g.length=n->(∀c∈g,C2 c=true)->AB g<10 ^ n:=by
 intro n
 induction n with
 |zero=>intro g h _;obtain rfl:=lB1 h;decide
 |succ n H=>
  intro g h hd
  obtain⟨m,c,rfl⟩: ∃m c,g=m++ [c]:=by
   have y:g≠ []:=by intro O;rw[O] at h;simp at h
   exact⟨g.dropLast,g.getLast y,(lW3 y).symm⟩
  have U:=H m (by simpa using h) λx I=>hd x (by simp[I])
  have E:=hd c (by simp)
  simp only[C2,lM1,decide_eq_true_eq] at E
  rw[we,Nat.pow_succ]
  omega
theorem Bh {b b0 b1 g num:Nat}{q:Option Addr}{l t1:Ln}{c d:UInt8}{r:List UInt8}(h:Sat σ w (t1.at b0::(b1,cel [kT q] ah)::l.at b::L))(E:t1.has 32 (d::r))(hd:cM d=false)(V:g<=90)(I: ∀w b2 (t':Ln),Sat σ w (({t1 with i:=t1.i+1}:Ln).at b0::(b1,cel [kT q] ah)::t'.at b2::l.at b::L)->am.k8 R b1 b0 ((g+1:Nat):Int) (c.toNat:Int) (num:Nat) w):
 am.k3 R b1 b0 (g:Nat) (c.toNat:Int) (num:Nat) w:=by
 have y:=E.next
 generalize O:({t1 with i:=t1.i+1}:Ln)=t2 at y I
 have H: ∀e,t2.trimSp 1 1 e=none:=by intro e;unfold Ln.trimSp;rw[y.tsGo hd];rfl
 refine YtendaipfdnhnaaaGreatDoor.trimSp_ok (min:=1) (max:=1) h E.ok (by decide) (by decide) ?_
 rw[E.sp1,O]
 intro w h
 refine⟨_,rfl,ae rfl ?_⟩
 refine⟨_,h.ldA,?_⟩
 refine⟨_,h.ldA,?_⟩
 refine⟨_,h.ldA,?_⟩
 refine⟨_,h.ldA,?_⟩
 refine⟨_,h.ldA,?_⟩
 refine Sat.bx h λb2 w h=>?_
 refine h.stA 0 λw h=>?_
 refine h.stA 0 λw h=>?_
 refine h.stA 0 λw h=>?_
 refine h.stA 0 λw h=>?_
 refine h.stA 0 λw h=>?_
 have h:Sat σ w (t2.at b2::t2.at b0::(b1,cel [kT q] ah)::l.at b::L):=h
 rw[aN (by omega)]
 intro X U
 refine U _ _ _ _ _ _ _ _ _ (ag (by decide) ?_)
 refine YtendaipfdnhnaaaGreatDoor.trimSp_ok (min:=1) (max:=1) h y.ok (by decide) (by decide) ?_
 rw[H]
 intro w h
 refine⟨_,rfl,ae rfl ?_⟩
 unfold am.k6
 refine YtendaipfdnhnaaaGreatDoor.trimSp_ok (min:=1) (max:=1) h y.ok (by decide) (by decide) ?_
 rw[H]
 intro w h
 refine⟨_,rfl,ag rfl ?_⟩
 refine⟨_,h.ldA,?_⟩
 refine⟨_,h.ldA,?_⟩
 refine⟨_,h.ldA,?_⟩
 refine⟨_,h.ldA,?_⟩
 refine⟨_,h.ldA,?_⟩
 refine h.stA 1 λw h=>?_
 refine h.stA 1 λw h=>?_
 refine h.stA 1 λw h=>?_
 refine h.stA 1 λw h=>?_
 refine h.stA 1 λw h=>?_
 rw[show ((g+1:Nat):Int)+0=((g+1:Nat):Int) by omega,i64_in _ (by omega)]
 have h:Sat σ w (t2.at b2::t2.at b0::(b1,cel [kT q] ah)::l.at b::L):=h
 exact I w b2 t2 (h.re)
theorem Ln.has.skip {l:Ln}{x:UInt8}{s:List UInt8}(h:l.has x s): ∀(m:Nat) {g:UInt8} {u:List UInt8},(x::s).drop m=g::u->({l with i:=l.i+m}:Ln).has g u
 |0,g,u,he=>by
  simp only[lK2,lU0] at he
  obtain⟨rfl,rfl⟩:=he
  exact h
 |m+1,g,u,he=>by
  have I:m<(x::s).length:=by
   rcases lM4 m (x::s).length with E|E
   ·exact E
   ·rw[lE2 (by omega)] at he;cases he
  have H:(x::s).drop m=(x::s)[m]::(x::s).drop (m+1):=lI1 I
  rw[he] at H
  have:=(Ln.has.skip h m H).next
  simpa[lC3] using this
theorem Ln.has.numberM {l:Ln}{x mk:UInt8}{g r:List UInt8}{d:UInt8}(b8:mk=46\/mk=41)(E:l.has x (g++mk::32::d::r))(e5:l.text.length<4611686018427387904)(O: ∀c∈x::g,C2 c=true)(d5:g.length<=8)(hd:cM d=false):
 pM l mk (AB (x::g)) (g.length+3) {l with i:=l.i+(g.length+3)}/\({l with i:=l.i+(g.length+3)}:Ln).has d r:=by
 have b4:x::(g++mk::32::d::r)=(x::g)++mk::32::d::r:=rfl
 have a6:({l with i:=l.i+(g.length+2)}:Ln).has 32 (d::r):=E.skip (g.length+2) (by rw[b4,lV5,lE2 (by simp),lF0,show g.length+2 - (g.length+1)=1 by omega];rfl)
 have W:({l with i:=l.i+(g.length+3)}:Ln).has d r:=a6.next
 refine⟨⟨W.ok,by omega,?_⟩,W⟩
 intro σ w L R b q h d1
 have e3:(x::g).length=g.length+1:=rfl
 have V:=O x (by simp)
 simp only[C2,lM1,decide_eq_true_eq] at V
 have b7:cM x=false:=by
  simp only[cM,lI2,beq_eq_false_iff_ne,ne_eq]
  constructor<;>(rintro rfl;revert V;decide)
 have U:=E.ok
 have e0:l.text.length=l.i+(g.length+1+(3+r.length)):=by have:=congrArg List.length E.tx;have:=E.lt;simp at*;omega
 have a7: ∀j,l.text.getD (l.i+j) 0=((x::g)++mk::32::d::r).getD j 0:=by intro j;rw[<-b4,<-E.tx,lP0,lP0,lK4]
 refine am.sound ?_
 refine Sat.bx h λb1 w h=>?_
 repeat (first|refine aa ?_|refine h.tk λw h=>?_|refine⟨_,h.ldA,?_⟩|refine⟨_,_,_,h.ldA,?_⟩|refine h.stA 0 λw h=>?_|refine h.stA 1 λw h=>?_|refine h.stA 2 λw h=>?_|refine h.stA 3 λw h=>?_|refine h.stA 4 λw h=>?_|refine h.stA 5 λw h=>?_|refine h.stA 6 λw h=>?_|refine h.bx λb0 w h=>?_)
 have h:Sat σ _ (l.at b0::(b1,cel [kT q] ah)::l.at b::L):=h
 intro X d0
 refine d0 _ _ _ _ _ (ag (by simp) ?_)
 refine YtendaipfdnhnaaaGreatDoor.trimSp_ok (min:=1) (max:=1) h U (by decide) (by decide) ?_
 have c8:l.trimSp 1 1 false=none:=by unfold Ln.trimSp;rw[E.tsGo b7];rfl
 rw[c8]
 intro w h
 refine⟨_,rfl,ag rfl ?_⟩
 refine lU h (by first|assumption|(repeat (first|exact .head _|apply List.Mem.tail))) U λw h=>⟨_,rfl,?_⟩
 rw[E.peek]
 have ne: ∀(d:UInt8) (n:Int),(d.toNat:Int)=n->(d.toNat<48\/57<d.toNat)->(((x.toNat:Nat):Int)==n)=false:=by
  intro d n hd e6
  refine ug hd ?_
  rintro rfl;omega
 have k4:am.k4 R b1 b0 0 0 true w:=by
  refine ag rfl ?_
  refine⟨_,h.ldA,?_⟩
  intro Y b3
  have b9: ∀k j w,j+k=(x::g).length->Sat σ w (l.at b0::(b1,cel [kT q] ah)::l.at b::L)->Y b1 b0 0 ((AB ((x::g).take j):Nat):Int) ((l.i+j:Nat):Int) w:=by
   intro k
   induction k with
   |zero=>
    intro j w b5 h
    have c1:j=g.length+1:=by simpa using b5
    refine b3 _ _ _ _ _ _ ?_
    refine⟨_,h.ldA,?_⟩
    refine ae (by rw[aJ];simp;omega) ?_
    refine⟨_,h.ldA,?_⟩
    refine⟨by omega,by rw[aJ];omega,?_⟩
    rw[oO,a7]
    have H:((x::g)++mk::32::d::r).getD j 0=mk:=by
     rw[lP0,lH0 (by simp;omega),lF0,show j - (g.length+1)=0 by omega];rfl
    rw[H]
    refine ag (by rcases b8 with rfl|rfl<;>rfl) ?_
    refine⟨_,h.ldA,?_⟩
    rw[aN (by omega)]
    refine h.stA 0 λw h=>?_
    rw[lB2 (by simp;omega)]
    have c9:i64.wrap (0+i64.wrap (((l.i+j+1:Nat):Int) - ((l.i:Nat):Int)))=((g.length+2:Nat):Int):=by
     rw[i64_in (_ - _) (by omega),i64_in _ (by omega)];omega
    rw[c9]
    have h:Sat σ w (({l with i:=l.i+(g.length+2)}:Ln).at b0::(b1,cel [kT q] ah)::l.at b::L):=by
     rw[c1,show l.i+(g.length+1)+1=l.i+(g.length+2) by omega] at h
     exact h
    refine Bh (c:=mk) (l:=l) h a6 hd (by omega) λw b2 t' h=>?_
    exact d1 w b0 b1 b2 t' h
   |succ k d2=>
    intro j w b5 h
    have y:j<(x::g).length:=by omega
    have c2:j<=8:=by simp at y;omega
    refine b3 _ _ _ _ _ _ ?_
    refine⟨_,h.ldA,?_⟩
    refine ae (by rw[aJ];simp at y;simp;omega) ?_
    refine⟨_,h.ldA,?_⟩
    refine⟨by omega,by rw[aJ];simp at y;omega,?_⟩
    rw[oO,a7]
    have H:((x::g)++mk::32::d::r).getD j 0=(x::g)[j]:=by rw[lP0,lM0 y,lI0 y];rfl
    rw[H]
    have c3:(x::g).take (j+1)=(x::g).take j++ [(x::g)[j]]:=lH1 y
    have b6:=O _ (lP1 y)
    have c5:=Fn j ((x::g).take j) (by simp at y⊢;omega) λc hc=>O c (lX4 hc)
    have d4:AB ((x::g).take j)<10 ^ 8:=Nat.lt_of_lt_of_le c5 (Nat.pow_le_pow_right (by decide) c2)
    generalize (x::g)[j]=dg at*
    have I:=b6
    simp only[C2,lM1,decide_eq_true_eq] at I
    refine ae ?_ (ae (by simp;omega) ?_)
    ·have a1:=u8b dg 46 46 rfl
     have a2:=u8b dg 41 41 rfl
     rw[a1,a2]
     have b1:dg≠46:=by rintro rfl;revert I;decide
     have b2:dg≠41:=by rintro rfl;revert I;decide
     simp[b1,b2]
    unfold am.k9
    refine⟨_,h.ldA,?_⟩
    refine ae ?_ ?_
    ·rw[i64_in _ (by omega)];simp;omega
    rw[aN (by omega),show l.i+j+1=l.i+(j+1) by omega]
    have d3:i64.wrap (i64.wrap (i64.wrap (((AB ((x::g).take j):Nat):Int)*10)+i64.wrap ((dg.toNat:Nat):Int)) - 48)=((AB ((x::g).take (j+1)):Nat):Int):=by
     have e4:(10:Nat) ^ 8=100000000:=rfl
     rw[c3,we]
     rw[i64_in (_*10) (by omega),i64_in ((dg.toNat:Nat):Int) (by omega),i64_in (_+_) (by omega),i64_in _ (by omega)]
     omega
    rw[d3]
    exact d2 (j+1) w (by omega) h
  have:=b9 (x::g).length 0 w (by simp) h
  rw[lL1] at this;exact this
 refine ae (ne 45 45 rfl (by decide)) (ae (ne 42 42 rfl (by decide)) ?_)
 rw[ne 43 43 rfl (by decide)]
 refine ae rfl ?_
 have c4:x.toNat=48\/x.toNat=49\/x.toNat=50\/x.toNat=51\/x.toNat=52\/x.toNat=53\/x.toNat=54\/x.toNat=55\/x.toNat=56\/x.toNat=57:=by omega
 rcases c4 with e|e|e|e|e|e|e|e|e|e<;>rw[e]
 ·exact ag rfl k4
 ·exact ae rfl (ag rfl k4)
 ·exact ae rfl (ae rfl (ag rfl k4))
 ·exact ae rfl (ae rfl (ae rfl (ag rfl k4)))
 ·exact ae rfl (ae rfl (ae rfl (ae rfl (ag rfl k4))))
 ·exact ae rfl (ae rfl (ae rfl (ae rfl (ae rfl (ag rfl k4)))))
 ·exact ae rfl (ae rfl (ae rfl (ae rfl (ae rfl (ae rfl (ag rfl k4))))))
 ·exact ae rfl (ae rfl (ae rfl (ae rfl (ae rfl (ae rfl (ae rfl (ag rfl k4)))))))
 ·exact ae rfl (ae rfl (ae rfl (ae rfl (ae rfl (ae rfl (ae rfl (ae rfl (ag rfl k4))))))))
 ·exact ae rfl (ae rfl (ae rfl (ae rfl (ae rfl (ae rfl (ae rfl (ae rfl (ae rfl (by exact k4)))))))))

theorem Ln.has.noHR2 {l:Ln}{c d:UInt8}{r m r2:List UInt8}(h:l.has c r)(hc:cM c=false)(y:c::r=m++d::r2)(hd:cM d=false)(g:d≠c):l.isHR=false:=by
 unfold Ln.isHR
 simp only[h.lead hc 2,h.peek]
 split
 ·exact Ln.hrGo_has _ _ l h.ok h.sp ⟨m,by rw[h.tx,y]⟩ g hd
 ·rfl
theorem Ln.has.noHR3 {l:Ln}{c:UInt8}{r:List UInt8}(h:l.has c r)(hc:cM c=false)(g:c≠42/\c≠45/\c≠95):l.isHR=false:=by
 unfold Ln.isHR
 simp only[h.lead hc 2,h.peek]
 rw[if_neg]
 rintro (rfl|rfl|rfl)
 ·exact absurd rfl (by first|exact g.1|exact g.2.1|exact g.2.2)
 ·exact absurd rfl (by first|exact g.1|exact g.2.1|exact g.2.2)
 ·exact absurd rfl (by first|exact g.1|exact g.2.1|exact g.2.2)
def inkB (s:List UInt8):Prop:= ∃d∈s,cM d=false/\d≠45
theorem za {c c0:UInt8}{r0:List UInt8}(hc:c=45\/c=43)(E:cM c0=false)(y:inkB (c0::r0)): ∀l,LnR l ([c,32]++(c0::r0))->pM l c 0 2 {l with i:=l.i+2}/\l.isHR=false:=by
 intro l g
 have g:LnR l (c::32::c0::r0):=g
 have O:cM c=false:=by rcases hc with rfl|rfl<;>decide
 refine⟨Ln.marks g.ok (g.has.bullet (by rcases hc with rfl|rfl<;>simp) E),?_⟩
 rcases hc with rfl|rfl
 ·obtain⟨d,hd,I,H⟩:=y
  obtain⟨a,b,e⟩:=lS3 hd
  exact g.has.noHR2 (by decide) (m:=45::32::a) (d:=d) (r2:=b) (by rw[e];rfl) I H
 ·exact g.has.noHR3 (by decide) (by decide)
theorem y9 {x mk c0:UInt8}{g r0:List UInt8}(U:mk=46\/mk=41)(H: ∀c∈x::g,C2 c=true)(I:g.length<=8)(O:cM c0=false): ∀l,LnR l ((x::(g++ [mk,32]))++(c0::r0))->pM l mk (AB (x::g)) (g.length+3) {l with i:=l.i+(g.length+3)}/\l.isHR=false:=by
 intro l y
 have e:(x::(g++ [mk,32]))++(c0::r0)=x::(g++mk::32::c0::r0):=by simp
 rw[e] at y
 have hd:=H x (.head _)
 have E:cM x=false/\x≠42/\x≠45/\x≠95:=by
  refine⟨?_,?_,?_,?_⟩
  ·simp only[cM,lI2,beq_eq_false_iff_ne,ne_eq]
   constructor<;>(rintro rfl;revert hd;decide)
  all_goals (rintro rfl;revert hd;decide)
 exact⟨(y.has.numberM U y.ok.len H I O).1,y.has.noHR3 E.1 E.2⟩

inductive BN where
 |para (ls:List LT)
 |head (lv:Nat) (x:LT)
 |hr
 |code (w:List UInt8) (ls:List (Nat × List UInt8))
 |setx (c:UInt8) (ls:List LT)
 |quote (bs:List BN)
 |list (c:UInt8) (num:Nat) (gap:Bool) (its:List (List BN))
def C3 (n:Nat):List UInt8:=if n<10 then [UInt8.ofNat (48+n)] else [UInt8.ofNat (48+n/10),UInt8.ofNat (48+n%10)]
def mkI (c:UInt8)(num:Nat):List UInt8:=if c=46\/c=41 then C3 num++ [c,32] else [c,32]
mutual
def be:BN->List (List UInt8)
 | .para ls=>ls.map cw
 | .head lv x=> [hN lv 35++32::cw x]
 | .hr=> [[42,42,42]]
 | .code w ls=>(96::96::96::w)::(ls.map qZ++ [[96,96,96]])
 | .setx c ls=>ls.map cw++ [[c,c,c]]
 | .quote bs=>(aD bs).tail.map λs=>62::32::s
 | .list c num gap its=>cV c gap num its
def aD:List BN->List (List UInt8)
 | []=> []
 |b::r=> []::(be b++aD r)
def cV (c:UInt8)(gap:Bool)(num:Nat):List (List BN)->List (List UInt8)
 | []=> []
 |it::r=>itL (mkI c num) (aD it).tail++dQ c gap (num+1) r
def dQ (c:UInt8)(gap:Bool)(num:Nat):List (List BN)->List (List UInt8)
 | []=> []
 |it::r=>if gap then []::(itL (mkI c num) (aD it).tail++dQ c gap (num+1) r) else itL (mkI c num) (aD it).tail++dQ c gap (num+1) r
end
mutual
def eu (n:Nat):BN->IN
 | .para ls=> .mk {kind:=6,s:=n,e:=n+ls.length - 1} (fW (tkG Tk.out [] (fh ls)))
 | .head lv x=> .mk {kind:=5,num:=(lv:Nat),s:=n,e:=n} (fW (tkG Tk.out [] (d7 x)))
 | .hr=> .mk {kind:=9,mark:= [42,42,42],s:=n,e:=n} []
 | .code w ls=> .mk {kind:=7,text:=dK (ls.map qZ),title:=w,mark:= [96,96,96],s:=n,e:=n+ls.length+1} []
 | .setx c ls=> .mk {kind:=5,num:=(AD c:Nat),s:=n,e:=n+ls.length} (fW (tkG Tk.out [] (fh ls)))
 | .quote bs=> .mk {kind:=2,s:=n,e:=n+(aD bs).tail.length - 1} (fJ n bs)
 | .list c num gap its=>z0 n c (num:Nat) (jC c gap num n its)
def fJ (n:Nat):List BN->List IN
 | []=> []
 |b::r=>eu n b::fJ (n+(be b).length+1) r
def jC (c:UInt8)(gap:Bool)(num n:Nat):List (List BN)->List IN
 | []=> []
 |it::r=> .mk {kind:=4,width:=(mkI c num).length,s:=n,e:=n - 1+(aD it).tail.length} (fJ n it)::jP c gap (num+1) (n - 1+(aD it).tail.length) r
def jP (c:UInt8)(gap:Bool)(num n:Nat):List (List BN)->List IN
 | []=> []
 |it::r=>if gap then .mk {kind:=4,width:=(mkI c num).length,s:=n+2,e:=n+1+(aD it).tail.length} (fJ (n+2) it)::jP c gap (num+1) (n+1+(aD it).tail.length) r else .mk {kind:=4,width:=(mkI c num).length,s:=n+1,e:=n+(aD it).tail.length} (fJ (n+1) it)::jP c gap (num+1) (n+(aD it).tail.length) r
end
def bcB:BN->Option UInt8
 | .list c _ _ _=>some c
 |_=>none
def okLs (ls:List LT):Prop:=ls≠ []/\ls.length<=3/\ ∀x∈ls,xr x/\x.2.length<=2
mutual
def okB:BN->Prop
 | .para ls=>okLs ls
 | .head lv x=>(1<=lv/\lv<=6)/\xr x/\x.2.length<=2
 | .hr=>True
 | .code w ls=>(∀c∈w,AE c=true)/\w.length<=100/\ls≠ []/\ls.length<=3/\ ∀x∈ls,x.1<=2/\WdP x.2
 | .setx c ls=>(c=61\/c=45)/\okLs ls
 | .quote bs=>bs≠ []/\okS bs
 | .list c num gap its=>(c=45\/c=43\/c=46\/c=41)/\num+its.length<=90/\its≠ []/\okJ its
def okS:List BN->Prop
 | []=>True
 |b::r=>okB b/\(∀c,(r.head?.bind bcB)=some c->bcB b≠some c)/\okS r
def okJ:List (List BN)->Prop
 | []=>True
 |it::r=>it≠ []/\okS it/\okJ r
end
mutual
def dpB:BN->Nat
 | .quote bs=>dpT bs+1
 | .list _ _ _ its=>dpJ its+1
 |_=>0
def dpT:List BN->Nat
 | []=>0
 |b::r=>max (dpB b) (dpT r)
def dpJ:List (List BN)->Nat
 | []=>0
 |it::r=>max (dpT it) (dpJ r)
end
theorem BN.ind {P:BN->Prop}{S:List BN->Prop}{J:List (List BN)->Prop}(U: ∀ls,P (.para ls))(V: ∀lv x,P (.head lv x))(b4:P .hr)(W: ∀w ls,P (.code w ls))(b3: ∀c ls,P (.setx c ls))(a7: ∀bs,S bs->P (.quote bs))(a6: ∀c num gap its,J its->P (.list c num gap its))(s0:S [])(H: ∀b r,P b->S r->S (b::r))(E:J [])(I: ∀it r,S it->J r->J (it::r)):(∀b,P b)/\(∀l,S l)/\ ∀l,J l:=by
 have O: ∀b,P b:=λb=>BN.rec (motive_1:=P) (motive_2:=S) (motive_3:=J) U V b4 W b3 (λbs h=>a7 bs h) (λc num gap its h=>a6 c num gap its h) s0 (λb r h y=>H b r h y) E (λit r h y=>I it r h y) b
 have hs: ∀l,S l:=by
  intro l
  induction l with
  |nil=>exact s0
  |cons b r g=>exact H b r (O b) g
 refine⟨O,hs,λl=>?_⟩
 induction l with
 |nil=>exact E
 |cons it r g=>exact I it r (hs it) g

theorem E1 {t:Tk}(h:F1 t):t.B.length<=304:=by
 cases t with
 |wd s=>have:=h.len;simp only[Tk.B];omega
 |sp=>exact h.elim
 |nl=>exact h.elim
 |em k s=>have g:=h.1.len;have y:=h.2;simp only[Tk.B,lA0,lG2];omega
 |cd s=>have:=h.len;simp only[Tk.B,lA0,lF0,lK1];omega
 |lk s d=>have g:=h.1.len;have y:=h.2.len;simp only[Tk.B,lA0,lF0,lK1];omega
 |es s=>have:=h.len;simp only[Tk.B,lF0];omega
theorem wv: ∀l:List Tk,(∀t∈l,F1 t)->(tkB (qh l)).length<=305*l.length
 | [],_=>by simp[qh,tkB]
 |t::l,h=>by
  have E:=wv l λx y=>h x (.tail _ y)
  have ht:=E1 (h t (.head _))
  have e:qh (t::l)= .sp::t::qh l:=rfl
  rw[e,cv,cv]
  have g:Tk.sp.B.length=1:=rfl
  simp only[lA0,lF0,g]
  omega
theorem jE {x:LT}(h:xr x)(g:x.2.length<=2):(cw x).length<=710:=by
 have E:=h.1.len
 have y:=wv x.2 h.2
 have e:cw x=x.1++tkB (qh x.2):=rfl
 rw[e,lA0]
 omega
theorem qg: ∀ls:List LT,(∀x∈ls,xr x/\x.2.length<=2)->(bF [10] (ls.map cw)).length<=711*ls.length
 | [],_=>by simp[bF]
 | [x],h=>by
  have:=jE (h x (.head _)).1 (h x (.head _)).2
  simp[bF];omega
 |x::y::r,h=>by
  have g:=qg (y::r) λz hz=>h z (.tail _ hz)
  have:=jE (h x (.head _)).1 (h x (.head _)).2
  have e:bF [10] ((x::y::r).map cw)=cw x++10::bF [10] ((y::r).map cw):=by simp[bF]
  rw[e]
  simp only[lA0,lF0] at g⊢
  omega
theorem okLs.len {ls:List LT}(h:okLs ls):(bF [10] (ls.map cw)).length<200000:=by
 have:=qg ls h.2.2
 have:=h.2.1
 omega
theorem nS {n:Nat}(h:n<100): ∃x g,C3 n=x::g/\(∀c∈x::g,C2 c=true)/\g.length<=1/\AB (x::g)=n:=by
 have I:(List.range 100).all (λn=>(C3 n).all C2 && decide (C3 n≠ []) && decide ((C3 n).length<=2) && decide (AB (C3 n)=n))=true:=by kernel_rfl
 have:=lD2.1 I n (lV2.2 h)
 simp only[lM1,decide_eq_true_eq,lD2] at this
 obtain⟨⟨⟨y,O⟩,H⟩,E⟩:=this
 obtain⟨x,g,e⟩:=lA1 O
 rw[e] at y H E
 exact⟨x,g,e,y,by simpa using H,E⟩
theorem tZ {c:UInt8}(h:C2 c=true):cM c=false/\c≠45/\c≠62/\c≠35/\c≠10/\c≠13/\c≠0:=by
 have:=lD2.1 (show (List.range 256).all (λn=> !(C2 (UInt8.ofNat n))||(!cM (UInt8.ofNat n) && UInt8.ofNat n !=45 && UInt8.ofNat n !=62 && UInt8.ofNat n !=35 && UInt8.ofNat n !=10 && UInt8.ofNat n !=13 && UInt8.ofNat n !=0))=true by kernel_rfl) c.toNat (lV2.2 c.toNat_lt)
 rw[lY3,h] at this
 simpa[and_assoc] using this
def Hd (ls:List (List UInt8)):Prop:= ∃c0 r0 rest,ls=(c0::r0)::rest/\cM c0=false/\inkB (c0::r0)
theorem FF {x:LT}(h:xr x)(rest:List (List UInt8)):Hd (cw x::rest):=by
 obtain⟨c,r,e,hc⟩:=qd h
 obtain⟨_,g,_,y,_⟩:=rr hc
 exact⟨c,r,rest,by rw[e],g,c,.head _,g,y⟩
theorem zp {ls:List LT}(h:okLs ls)(rest:List (List UInt8)):Hd (ls.map cw++rest):=by
 obtain⟨x,r,rfl⟩:=lA1 h.1
 exact FF (h.2.2 x (.head _)).1 (r.map cw++rest)
theorem Hd.append {a:List (List UInt8)}(h:Hd a)(b:List (List UInt8)):Hd (a++b):=by
 obtain⟨c0,r0,rest,rfl,g,y⟩:=h
 exact⟨c0,r0,rest++b,rfl,g,y⟩
theorem Hd.item {mk:List UInt8}{x:UInt8}{r:List UInt8}{ls:List (List UInt8)}(h:Hd ls)(O:mk=x::r)(E:cM x=false)(rest:List (List UInt8)):Hd (itL mk ls++rest):=by
 obtain⟨c0,r0,g,rfl,U,d,y,H,I⟩:=h
 subst O
 refine⟨x,r++(c0::r0),g.map (CX.pre (.i (x::r).length))++rest,rfl,E,d,?_,H,I⟩
 rw[<-lR0]
 exact lB0 _ y
theorem wk {c:UInt8}{num:Nat}(hc:c=45\/c=43\/c=46\/c=41)(I:num<100): ∃x r,mkI c num=x::r/\xi x/\(mkI c num).length<100:=by
 rcases hc with rfl|rfl|rfl|rfl
 ·exact⟨45,[32],rfl,by unfold xi;decide,by show 2<100;decide⟩
 ·exact⟨43,[32],rfl,by unfold xi;decide,by show 2<100;decide⟩
 all_goals
  obtain⟨x,W,e,g,O,V⟩:=nS I
  obtain⟨E,U,y,H,_⟩:=tZ (g x (.head _))
  refine⟨x,_,by unfold mkI;rw[if_pos (by decide),e];rfl,⟨E,y,H⟩,?_⟩
  unfold mkI
  rw[if_pos (by decide),e]
  simp only[lA0,lF0,lK1]
  omega
theorem BB {c:UInt8}{num:Nat}(hc:c=45\/c=43\/c=46\/c=41)(U:num<100){ls:List (List UInt8)}(h:Hd ls): ∀l,LnR l (mkI c num++ls.headD [])->pM l c ((if c=46\/c=41 then num else 0:Nat)) (mkI c num).length {l with i:=l.i+(mkI c num).length}/\l.isHR=false:=by
 obtain⟨c0,r0,rest,rfl,y,O⟩:=h
 rcases hc with rfl|rfl|rfl|rfl
 ·exact za (.inl rfl) y O
 ·exact za (.inr rfl) y O
 ·obtain⟨x,g,e,I,V,H⟩:=nS U
  have em:mkI 46 num=x::(g++ [46,32]):=by unfold mkI;rw[if_pos (by decide),e];rfl
  have E:(mkI 46 num).length=g.length+3:=by rw[em];simp
  rw[if_pos (by decide),E,em,<-H]
  exact y9 (.inl rfl) I (by omega) y
 ·obtain⟨x,g,e,I,V,H⟩:=nS U
  have em:mkI 41 num=x::(g++ [41,32]):=by unfold mkI;rw[if_pos (by decide),e];rfl
  have E:(mkI 41 num).length=g.length+3:=by rw[em];simp
  rw[if_pos (by decide),E,em,<-H]
  exact y9 (.inr rfl) I (by omega) y
theorem lW (b:BN)(r:List BN):(aD (b::r)).tail=be b++aD r:=rfl
theorem pt:(∀b,okB b->Hd (be b))/\(∀l,okS l->l≠ []->Hd (aD l).tail)/\ ∀l,okJ l-> ∀it∈l,it≠ []/\okS it/\Hd (aD it).tail:=by
 refine BN.ind (P:=λb=>okB b->Hd (be b)) (S:=λl=>okS l->l≠ []->Hd (aD l).tail) (J:=λl=>okJ l-> ∀it∈l,it≠ []/\okS it/\Hd (aD it).tail) ?_ ?_ ?_ ?_ ?_ ?_ ?_ ?_ ?_ ?_ ?_
 ·intro ls h
  have:=zp h []
  rwa [lG0] at this
 ·intro lv x ⟨⟨V,U⟩,b3,_⟩
  obtain⟨k,rfl⟩: ∃k,lv=k+1:=⟨lv - 1,by omega⟩
  exact⟨35,hN k 35++32::cw x,[],rfl,by decide,35,.head _,by decide,by decide⟩
 ·intro _
  exact⟨42,[42,42],[],rfl,by decide,42,.head _,by decide,by decide⟩
 ·intro w ls _
  exact⟨96,96::96::w,_,rfl,by decide,96,.head _,by decide,by decide⟩
 ·intro c ls h
  exact zp h.2 _
 ·intro bs y h
  obtain⟨c0,r0,rest,e,V,U⟩:=y h.2 h.1
  refine⟨62,32::c0::r0,rest.map λs=>62::32::s,?_,by decide,62,.head _,by decide,by decide⟩
  show (aD bs).tail.map _=_
  rw[e];rfl
 ·intro c num gap its y h
  obtain⟨hc,W,H,a6⟩:=h
  obtain⟨it,r,rfl⟩:=lA1 H
  simp only[lF0] at W
  obtain⟨x,t,e,g,_⟩:=wk (num:=num) hc (by omega)
  exact(y a6 it (.head _)).2.2.item e g.1 _
 ·intro _ h;exact absurd rfl h
 ·intro b r E a7 h _
  rw[lW]
  exact(E h.1).append _
 ·intro _ it h;cases h
 ·intro it r O I h x g
  cases g with
  |head=>exact⟨h.1,h.2.1,O h.2.1 h.1⟩
  |tail _ g=>exact I h.2.2 x g
def CY (c:UInt8):Nat->List (List BN)->List Itm
 |_,[]=> []
 |num,it::r=>⟨mkI c num,(aD it).tail,λn=>fJ n it⟩::CY c (num+1) r
theorem wn (c:UInt8)(gap:Bool): ∀(its:List (List BN)) (num:Nat),dQ c gap num its=jW gap (CY c num its)
 | [],_=>rfl
 |it::r,num=>by
  rw[dQ,CY,jW,wn c gap r (num+1)]
theorem rY (c:UInt8)(gap:Bool): ∀(its:List (List BN)) (num n:Nat),jP c gap num n its=sA gap n (CY c num its)
 | [],_,_=>rfl
 |it::r,num,n=>by
  rw[jP,CY,sA,rY c gap r,rY c gap r]
theorem zg {c:UInt8}: ∀ {its:List (List BN)} {num:Nat} {i:Itm},i∈CY c num its-> ∃k it,it∈its/\k<num+its.length/\i=⟨mkI c k,(aD it).tail,λn=>fJ n it⟩
 |it::r,num,i,h=>by
  rw[CY] at h
  cases h with
  |head=>exact⟨num,it,.head _,by simp,rfl⟩
  |tail _ h=>
   obtain⟨k,x,g,E,y⟩:=zg h
   exact⟨k,x,.tail _ g,by simp;omega,y⟩
theorem Dz {s:Nat}{c:UInt8}{a b:Int}{its:List IN}(h:c=46\/c=41->a=b):z0 s c a its=z0 s c b its:=by
 unfold z0
 by_cases hc:c=46\/c=41
 ·rw[h hc]
 ·rw[if_neg hc,if_neg hc]
theorem zW {c:UInt8}: ∀b:BN,okB b->bcB b≠some c-> ∀n,(eu n b).h.char≠ [c]:=by
 intro b hb h n
 cases b with
 |list E num gap its=>
  intro g
  have y:([E]:List UInt8)= [c]:=g
  exact h (by rw[List.cons.inj y|>.1];rfl)
 |_=>intro g;cases g
theorem DN {c:UInt8}(hc:c=45\/c=43\/c=46\/c=41):Utf8.encode (c.toNat:Int)=bs [c]:=by
 rcases hc with rfl|rfl|rfl|rfl<;>decide
theorem xP: ∀ls:List (Nat × List UInt8),(∀x∈ls,x.1<=2/\WdP x.2)->(dK (ls.map qZ)).length<=103*ls.length
 | [],_=>by simp[dK]
 |x::r,h=>by
  have H:=xP r λz hz=>h z (.tail _ hz)
  obtain⟨y,g⟩:=h x (.head _)
  have E:=g.len
  have e:dK ((x::r).map qZ)=(qZ x++ [10])++dK (r.map qZ):=by simp[dK]
  rw[e]
  simp only[lA0,lF0,lK1,qZ,lG2]
  omega
theorem CD (E:op.task=false)(b6:op.table=false)(I:op.auto=false)(c4:op.ids=false){ec:ai}(d5:Ay ec):
 (∀b,okB b-> ∀d,dpB b<=d->BlkP vx op ec (be b) (λn=>eu n b) d (bcB b))/\(∀l,okS l->l≠ []-> ∀d,dpT l<=d->CQ vx op ec (aD l).tail (λn=>fJ n l) d (l.head?.bind bcB))/\
 ∀l,okJ l-> ∀d,dpJ l<=d-> ∀it∈l,CQ vx op ec (aD it).tail (λn=>fJ n it) d (it.head?.bind bcB):=by
 obtain⟨d0,b9,b8⟩:=pt
 refine BN.ind (P:=λb=>okB b-> ∀d,dpB b<=d->BlkP vx op ec (be b) (λn=>eu n b) d (bcB b)) (S:=λl=>okS l->l≠ []-> ∀d,dpT l<=d->CQ vx op ec (aD l).tail (λn=>fJ n l) d (l.head?.bind bcB))
  (J:=λl=>okJ l-> ∀d,dpJ l<=d-> ∀it∈l,CQ vx op ec (aD it).tail (λn=>fJ n it) d (it.head?.bind bcB)) ?_ ?_ ?_ ?_ ?_ ?_ ?_ ?_ ?_ ?_ ?_
 ·intro ls h d _
  exact zV E b6 I h.1 (λx g=>(h.2.2 x g).1) h.len
 ·intro lv x h d _
  exact Cb E c4 I h.1 h.2.1 (by have:=jE h.2.1 h.2.2;omega)
 ·intro _ d _
  exact GJ E
 ·intro w ls h d _
  obtain⟨y,e0,d4,e7,b4⟩:=h
  have c3:=xP ls b4
  have:=D7 (G:=vx) E (ec:=ec) (d:=d) (info:=w) (ls:=ls.map qZ) d5 y (by omega) (λs hs=>?_) ?_ (by omega)
  ·rw[lS0] at this
   exact this
  ·obtain⟨x,g,rfl⟩:=lS1.1 hs
   obtain⟨a,b⟩:=b4 x g
   exact DU (by omega) b
  ·obtain⟨x,r,rfl⟩:=lA1 d4
   obtain⟨a,b⟩:=b4 x (.head _)
   intro a6
   have a6:some (qZ x)=some []:=a6
   have:=congrArg List.length (Option.some.inj a6)
   have hb:=b.ne
   have:0<x.2.length:=lY0.2 hb
   simp only[qZ,lA0,lG2,lK1] at*
   omega
 ·intro c ls h d _
  exact vO E b6 I h.1 h.2.1 (λx g=>(h.2.2.2 x g).1) h.2.len
 ·intro bs a7 h d hd
  obtain⟨k,rfl⟩: ∃k,d=k+1:=⟨d - 1,by have:dpT bs+1<=d:=hd;omega⟩
  have O:dpT bs<=k:=by have:dpT bs+1<=k+1:=hd;omega
  obtain⟨c0,r0,rest,e,y,_⟩:=b9 bs h.2 h.1
  exact CG E (a7 h.2 h.1 k O) (c0:=c0) (r0:=r0) (by rw[e];rfl) y
 ·intro c num gap its a7 h d hd
  obtain⟨hc,e3,d2,b5⟩:=h
  obtain⟨k,rfl⟩: ∃k,d=k+1:=⟨d - 1,by have:dpJ its+1<=d:=hd;omega⟩
  have O:dpJ its<=k:=by have:dpJ its+1<=k+1:=hd;omega
  have b7: ∀m it,it∈its->m<100->ItOK vx op ec c (if c=46\/c=41 then m else 0) (mkI c m) (aD it).tail (λn=>fJ n it) k:=by
   intro m it H c2
   obtain⟨c0,r0,rest,e,y,_⟩:=(b8 its b5 it H).2.2
   obtain⟨x,t,b3,g,c3⟩:=wk (num:=m) hc c2
   exact⟨⟨_,a7 b5 k O it H⟩,⟨c0,r0,by rw[e];rfl,y⟩,⟨x,t,b3,g⟩,BB hc c2 (b8 its b5 it H).2.2,c3⟩
  obtain⟨it,r,rfl⟩:=lA1 d2
  simp only[lF0] at e3
  have:=D5 (G:=vx) E (DN hc) gap (b7 num it (.head _) (by omega)) (its:=CY c (num+1) r) λi hi=>by
   obtain⟨m,x,y,e0,rfl⟩:=zg hi
   exact⟨_,b7 m x (.tail _ y) (by omega)⟩
  have W:be (.list c num gap (it::r))=itL (mkI c num) (aD it).tail++jW gap (CY c (num+1) r):=by rw[be,cV,wn]
  have b3:(λn=>eu n (.list c num gap (it::r)))=λn=>z0 n c ((if c=46\/c=41 then num else 0:Nat):Int) (.mk {kind:=4,width:=(mkI c num).length,s:=n,e:=n - 1+(aD it).tail.length} (fJ n it)::sA gap (n - 1+(aD it).tail.length) (CY c (num+1) r)):=by
   funext n
   rw[eu,jC,rY]
   exact Dz λh=>by rw[if_pos h]
  rw[W,b3]
  exact this
 ·intro _ h;exact absurd rfl h
 ·intro b r c5 c8 h _ d hd
  have U:dpB b<=d:=by have:max (dpB b) (dpT r)<=d:=hd;omega
  have V:dpT r<=d:=by have:max (dpB b) (dpT r)<=d:=hd;omega
  have y:=c5 h.1 d U
  rw[lW]
  cases r with
  |nil=>
   have e:be b++aD []=be b:=lG0 _
   rw[e]
   exact y.seq
  |cons b2 r=>
   obtain⟨c0,r0,rest,e,d3,_⟩:=b9 (b2::r) h.2.2 (by simp)
   obtain⟨e5,e6,e4,W,_⟩:=d0 b h.1
   exact Dc E y (by rw[W];simp) (c8 h.2.2 (by simp) d V) (c0:=c0) (r0:=r0) (by rw[e];rfl) d3 λc hc n=>zW b h.1 (h.2.1 c hc) n
 ·intro _ d _ it H;cases H
 ·intro it r c9 d1 h d hd x g
  have U:dpT it<=d:=by have:max (dpT it) (dpJ r)<=d:=hd;omega
  have V:dpJ r<=d:=by have:max (dpT it) (dpJ r)<=d:=hd;omega
  cases g with
  |head=>exact c9 h.2.1 h.1 d U
  |tail _ g=>exact d1 h.2.2 d V x g

def chB (c:UInt8):Prop:=c≠10/\c≠13/\c≠0
structure GdL (n:Nat) (ls:List (List UInt8)):Prop where
 ch: ∀s∈ls,(∀c∈s,chB c)/\s.length<=n
 last: ∃m s,ls=m++ [s]/\s≠ []
theorem q9 {c:UInt8}(h:wB c=true):chB c:=by
 obtain⟨_,_,_,_,_,_,g,E,y,_⟩:=rr h
 exact⟨g,E,y⟩
def dsOK:Tk->Prop
 | .lk _ d=> ∀c∈d,chB c
 |_=>True
theorem Ge {t:Tk}(h:F1 t)(hd:dsOK t): ∀c∈t.B,chB c:=by
 intro c hc
 cases t with
 |wd s=>exact q9 (h.by_ c hc)
 |sp=>exact h.elim
 |nl=>exact h.elim
 |em k s=>
  simp only[Tk.B,lO0,lT3] at hc
  rcases hc with ⟨_,rfl⟩|hc|⟨_,rfl⟩
  ·exact⟨by decide,by decide,by decide⟩
  ·exact q9 (h.1.by_ c hc)
  ·exact⟨by decide,by decide,by decide⟩
 |cd s=>
  simp only[Tk.B,lO0,lW0,lD1,or_false] at hc
  rcases hc with rfl|hc|rfl
  ·exact⟨by decide,by decide,by decide⟩
  ·exact q9 (h.by_ c hc)
  ·exact⟨by decide,by decide,by decide⟩
 |lk s d=>
  simp only[Tk.B,lO0,lW0,lD1,or_false] at hc
  rcases hc with rfl|hc|rfl|rfl|hc|rfl
  ·exact⟨by decide,by decide,by decide⟩
  ·exact q9 (h.1.by_ c hc)
  ·exact⟨by decide,by decide,by decide⟩
  ·exact⟨by decide,by decide,by decide⟩
  ·exact hd c hc
  ·exact⟨by decide,by decide,by decide⟩
 |es s=>
  simp only[Tk.B,lW0] at hc
  rcases hc with rfl|rfl|hc
  ·exact⟨by decide,by decide,by decide⟩
  ·exact⟨by decide,by decide,by decide⟩
  ·exact q9 (h.by_ c hc)
def Fs (x:LT):Prop:= ∀t∈x.2,dsOK t
theorem zc {x:LT}(h:xr x)(hd:Fs x): ∀c∈cw x,chB c:=by
 intro c hc
 have e:cw x=x.1++tkB (qh x.2):=rfl
 rw[e] at hc
 rcases lO0.1 hc with hc|hc
 ·exact q9 (h.1.by_ c hc)
 ·obtain⟨t,ht,hc⟩:=lS2.1 hc
  obtain⟨u,g,ht⟩:=lS2.1 ht
  simp only[lW0,lD1,or_false] at ht
  rcases ht with rfl|rfl
  ·obtain rfl:=lQ0.1 hc
   exact⟨by decide,by decide,by decide⟩
  ·exact Ge (h.2 _ g) (hd _ g) c hc
theorem DA {x:LT}(h:xr x):cw x≠ []:=by
 obtain⟨c,r,e,_⟩:=qd h
 rw[e];simp
theorem GdL.mono {n m:Nat}{ls:List (List UInt8)}(h:GdL n ls)(g:n<=m):GdL m ls:=⟨λs hs=>⟨(h.ch s hs).1,by have:=(h.ch s hs).2;omega⟩,h.last⟩
theorem GdL.ne {n:Nat}{ls:List (List UInt8)}(h:GdL n ls):ls≠ []:=by
 obtain⟨m,s,e,_⟩:=h.last
 rw[e];simp
theorem GdL.append {n:Nat}{a b:List (List UInt8)}(y: ∀s∈a,(∀c∈s,chB c)/\s.length<=n)(hb:GdL n b):GdL n (a++b):=by
 obtain⟨m,s,e,h⟩:=hb.last
 refine⟨λx g=>?_,a++m,s,by rw[e,lD0],h⟩
 rcases lO0.1 g with g|g
 ·exact y x g
 ·exact hb.ch x g
theorem GdL.map {n k:Nat}{ls:List (List UInt8)}{f:List UInt8->List UInt8}(h:GdL n ls)(V: ∀s,(∀c∈s,chB c)->(∀c∈f s,chB c))(W: ∀s,(f s).length<=s.length+k)(E: ∀s,s≠ []->f s≠ []):GdL (n+k) (ls.map f):=by
 obtain⟨m,s,e,H⟩:=h.last
 refine⟨λx O=>?_,m.map f,f s,by rw[e,lV0];rfl,E s H⟩
 obtain⟨g,I,rfl⟩:=lS1.1 O
 obtain⟨U,a6⟩:=h.ch g I
 exact⟨V g U,by have:=W g;omega⟩
theorem GdL.lines {ls:List LT}(h:okLs ls)(hd: ∀x∈ls,Fs x):GdL 710 (ls.map cw):=by
 obtain⟨m,x,e⟩: ∃m x,ls=m++ [x]:=⟨_,_,(lW3 h.1).symm⟩
 refine⟨λs hs=>?_,m.map cw,cw x,by rw[e,lV0];rfl,DA (h.2.2 x (by rw[e];simp)).1⟩
 obtain⟨H,E,rfl⟩:=lS1.1 hs
 obtain⟨g,I⟩:=h.2.2 H E
 exact⟨zc g (hd H E),jE g I⟩
theorem GdL.item {n k:Nat}{mk:List UInt8}{ls:List (List UInt8)}(h:GdL n ls)(W: ∀c∈mk,chB c)(a6:mk.length<=k)(U:mk≠ []):GdL (n+k) (itL mk ls):=by
 obtain⟨s,r,rfl⟩:=lA1 h.ne
 have I:=h.ch s (.head _)
 have e:itL mk (s::r)=(mk++s)::r.map (CX.pre (.i mk.length)):=rfl
 rw[e]
 have hs:(∀c∈mk++s,chB c)/\(mk++s).length<=n+k:=by
  refine⟨λc hc=>?_,by rw[lA0];have:=I.2;omega⟩
  rcases lO0.1 hc with hc|hc
  ·exact W c hc
  ·exact I.1 c hc
 refine⟨λx E=>?_,?_⟩
 ·cases E with
  |head=>exact hs
  |tail _ E=>
   obtain⟨O,V,rfl⟩:=lS1.1 E
   obtain⟨a,b⟩:=h.ch O (.tail _ V)
   unfold CX.pre
   dsimp only
   split
   ·exact And.intro (λc hc=>absurd hc lD1) (lC2 _)
   ·refine⟨λc hc=>?_,by simp;omega⟩
    rcases lO0.1 hc with hc|hc
    ·obtain⟨_,rfl⟩:=lT3.1 hc
     exact⟨by decide,by decide,by decide⟩
    ·exact a c hc
 ·obtain⟨m,x,g,H⟩:=h.last
  cases m with
  |nil=>
   simp only[lT0,lU0] at g
   obtain⟨rfl,rfl⟩:=g
   exact⟨[],mk++s,rfl,by simp[U]⟩
  |cons O m=>
   simp only[lR0,lU0] at g
   obtain⟨rfl,rfl⟩:=g
   refine⟨(mk++s)::m.map (CX.pre (.i mk.length)),CX.pre (.i mk.length) x,by rw[lV0];rfl,?_⟩
   unfold CX.pre
   dsimp only
   rw[if_neg H]
   simp[H]
mutual
def dsB:BN->Prop
 | .para ls=> ∀x∈ls,Fs x
 | .head _ x=>Fs x
 | .hr=>True
 | .code w _=> ∀c∈w,chB c
 | .setx _ ls=> ∀x∈ls,Fs x
 | .quote bs=>dsS bs
 | .list _ _ _ its=>dsJ its
def dsS:List BN->Prop
 | []=>True
 |b::r=>dsB b/\dsS r
def dsJ:List (List BN)->Prop
 | []=>True
 |it::r=>dsS it/\dsJ r
end
theorem Ez {c:UInt8}{num:Nat}(hc:c=45\/c=43\/c=46\/c=41)(U:num<100):(∀x∈mkI c num,chB x)/\(mkI c num).length<=4/\mkI c num≠ []:=by
 have E:chB c:=by rcases hc with rfl|rfl|rfl|rfl<;>exact⟨by decide,by decide,by decide⟩
 have H:chB 32:=⟨by decide,by decide,by decide⟩
 unfold mkI
 split
 ·obtain⟨x,W,e,O,V,_⟩:=nS U
  rw[e]
  refine⟨λI g=>?_,by simp;omega,by simp⟩
  rcases lO0.1 g with g|g
  ·obtain⟨_,_,_,_,a,b,d⟩:=tZ (O I g)
   exact⟨a,b,d⟩
  ·simp only[lW0,lD1,or_false] at g
   rcases g with rfl|rfl
   ·exact E
   ·exact H
 ·refine⟨λI g=>?_,by simp,by simp⟩
  simp only[lW0,lD1,or_false] at g
  rcases g with rfl|rfl
  ·exact E
  ·exact H
theorem EF {n:Nat}: ∀s∈([[]]:List (List UInt8)),(∀c∈s,chB c)/\s.length<=n:=by
 intro s hs
 obtain rfl:=lQ0.1 hs
 exact And.intro (λc hc=>absurd hc lD1) (lC2 _)
theorem zq:(∀b,okB b->dsB b->GdL (720+4*dpB b) (be b))/\(∀l,okS l->dsS l->l≠ []->GdL (720+4*dpT l) (aD l).tail)/\ ∀l,okJ l->dsJ l->(∀(c:UInt8) (num:Nat) (gap:Bool),(c=45\/c=43\/c=46\/c=41)->num+l.length<100->l≠ []->GdL (720+4*dpJ l+4) (cV c gap num l)/\GdL (720+4*dpJ l+4) (dQ c gap num l)):=by
 refine BN.ind (P:=λb=>okB b->dsB b->GdL (720+4*dpB b) (be b)) (S:=λl=>okS l->dsS l->l≠ []->GdL (720+4*dpT l) (aD l).tail) (J:=λl=>okJ l->dsJ l->(∀(c:UInt8) (num:Nat) (gap:Bool),(c=45\/c=43\/c=46\/c=41)->num+l.length<100->l≠ []->GdL (720+4*dpJ l+4) (cV c gap num l)/\GdL (720+4*dpJ l+4) (dQ c gap num l)))
  ?_ ?_ ?_ ?_ ?_ ?_ ?_ ?_ ?_ ?_ ?_
 ·intro ls h hd
  exact(GdL.lines h hd).mono (by omega)
 ·intro lv x h hd
  obtain⟨⟨b3,b4⟩,E,O⟩:=h
  have c1:=jE E O
  refine⟨λs hs=>?_,[],_,rfl,by simp⟩
  obtain rfl:=lQ0.1 hs
  refine⟨λc hc=>?_,by simp;omega⟩
  simp only[lO0,lW0,lT3] at hc
  rcases hc with ⟨_,rfl⟩|rfl|hc
  ·exact⟨by decide,by decide,by decide⟩
  ·exact⟨by decide,by decide,by decide⟩
  ·exact zc E hd c hc
 ·intro _ _
  refine⟨λs hs=>?_,[],_,rfl,by simp⟩
  obtain rfl:=lQ0.1 hs
  refine⟨λc hc=>?_,by simp;omega⟩
  simp only[lW0,lD1,or_false,or_self] at hc
  subst hc
  exact⟨by decide,by decide,by decide⟩
 ·intro w ls h hd
  obtain⟨b3,b4,E,O,b8⟩:=h
  refine⟨λs hs=>?_,(96::96::96::w)::ls.map qZ,[96,96,96],rfl,by simp⟩
  have g:chB 96:=⟨by decide,by decide,by decide⟩
  have b7:s=96::96::96::w\/s∈ls.map qZ\/s= [96,96,96]:=by simpa[be] using hs
  rcases b7 with rfl|hs|rfl
  ·refine⟨λc hc=>?_,by simp;omega⟩
   simp only[lW0] at hc
   rcases hc with rfl|rfl|rfl|hc
   ·exact g
   ·exact g
   ·exact g
   ·exact hd c hc
  ·obtain⟨x,y,rfl⟩:=lS1.1 hs
   obtain⟨a,b⟩:=b8 x y
   have:=b.len
   refine⟨λc hc=>?_,by simp[qZ];omega⟩
   rcases lO0.1 hc with hc|hc
   ·obtain⟨_,rfl⟩:=lT3.1 hc
    exact⟨by decide,by decide,by decide⟩
   ·exact q9 (b.by_ c hc)
  ·refine⟨λc hc=>?_,by simp;omega⟩
   simp only[lW0,lD1,or_false,or_self] at hc
   subst hc
   exact g
 ·intro c ls h hd
  have hc:chB c:=by rcases h.1 with rfl|rfl<;>exact⟨by decide,by decide,by decide⟩
  refine GdL.append (λs hs=>?_) ⟨λs hs=>?_,[],_,rfl,by simp⟩
  ·obtain⟨a,b⟩:=(GdL.lines h.2 hd).ch s hs
   exact⟨a,by omega⟩
  ·obtain rfl:=lQ0.1 hs
   refine⟨λx y=>?_,by simp;omega⟩
   simp only[lW0,lD1,or_false,or_self] at y
   subst y
   exact hc
 ·intro bs H h hd
  have:=(H h.2 hd h.1).map (f:=λs=>62::32::s) (k:=2) (λs hs c hc=>?_) (λs=>by simp) (λs _=>by simp)
  ·exact this.mono (by show _<=720+4*(dpT bs+1);omega)
  ·simp only[lW0] at hc
   rcases hc with rfl|rfl|hc
   ·exact⟨by decide,by decide,by decide⟩
   ·exact⟨by decide,by decide,by decide⟩
   ·exact hs c hc
 ·intro c num gap its H h hd
  obtain⟨hc,I,a7,b9⟩:=h
  exact(H b9 hd c num gap hc (by omega) a7).1.mono (by show _<=720+4*(dpJ its+1);omega)
 ·intro _ _ h;exact absurd rfl h
 ·intro b r U V h hd _
  rw[lW]
  have hb:=U h.1 hd.1
  have b5:dpB b<=dpT (b::r):=Nat.le_max_left _ _
  have b6:dpT r<=dpT (b::r):=Nat.le_max_right _ _
  cases r with
  |nil=>
   have e:be b++aD []=be b:=lG0 _
   rw[e]
   exact hb.mono (by omega)
  |cons b2 r=>
   have e:aD (b2::r)= [[]]++(aD (b2::r)).tail:=rfl
   rw[e]
   refine GdL.append (hb.mono (by omega)).ch (GdL.append EF ((V h.2.2 hd.2 (by simp)).mono (by omega)))
 ·intro _ _ c num gap _ _ h;exact absurd rfl h
 ·intro it r W a6 h hd c num gap hc I _
  simp only[lF0] at I
  obtain⟨k1,k2,k3⟩:=Ez (num:=num) hc (by omega)
  have b5:dpT it<=dpJ (it::r):=Nat.le_max_left _ _
  have b6:dpJ r<=dpJ (it::r):=Nat.le_max_right _ _
  have hi:=((W h.2.1 hd.1 h.1).item k1 k2 k3).mono (m:=720+4*dpJ (it::r)+4) (by omega)
  have hr:GdL (720+4*dpJ (it::r)+4) (itL (mkI c num) (aD it).tail++dQ c gap (num+1) r):=by
   cases r with
   |nil=>
    have e:itL (mkI c num) (aD it).tail++dQ c gap (num+1) []=itL (mkI c num) (aD it).tail:=lG0 _
    rw[e];exact hi
   |cons x r=>exact GdL.append hi.ch ((a6 h.2.2 hd.2 c (num+1) gap hc (by simp at I⊢;omega) (by simp)).2.mono (by omega))
  refine⟨hr,?_⟩
  rw[dQ]
  split
  ·exact GdL.append EF hr
  ·exact hr
def NBd:Nat->Nat
 |0=>5
 |1=>35
 |d+2=>3*NBd (d+1)+2
theorem pL: ∀d,3*NBd d+2<=NBd (d+1)
 |0=>by decide
 |d+1=>lZ0 _
theorem Ee (d:Nat):6*NBd (d - 1)+5<=NBd (d+1):=by
 cases d with
 |zero=>decide
 |succ d=>
  have y:=pL d
  have g:=pL (d+1)
  show 6*NBd d+5<=NBd (d+1+1)
  omega
mutual
def smB:Nat->BN->Prop
 |d,.quote bs=>1<=d/\bs.length<=3/\smS (d - 1) bs
 |d,.list _ _ _ its=>1<=d/\its.length<=3/\smJ (d - 2) its
 |_,_=>True
def smS:Nat->List BN->Prop
 |_,[]=>True
 |d,b::r=>smB d b/\smS d r
def smJ:Nat->List (List BN)->Prop
 |_,[]=>True
 |d,it::r=>it.length<=2/\smS d it/\smJ d r
end
theorem qp:(∀b,okB b-> ∀d,smB d b->(be b).length<=NBd d/\dpB b<=d)/\(∀l,okS l-> ∀d,smS d l->(aD l).length<=l.length*(NBd d+1)/\dpT l<=d)/\ ∀l,okJ l-> ∀d,smJ d l->(∀c gap num,(dQ c gap num l).length<=l.length*(2*NBd d+2)/\(l≠ []->(cV c gap num l).length+1<=l.length*(2*NBd d+2)))/\dpJ l<=d:=by
 have g: ∀d,5<=NBd d:=by
  intro d
  induction d with
  |zero=>decide
  |succ d y=>have:=pL d;omega
 refine BN.ind (P:=λb=>okB b-> ∀d,smB d b->(be b).length<=NBd d/\dpB b<=d) (S:=λl=>okS l-> ∀d,smS d l->(aD l).length<=l.length*(NBd d+1)/\dpT l<=d) (J:=λl=>okJ l-> ∀d,smJ d l->(∀c gap num,(dQ c gap num l).length<=l.length*(2*NBd d+2)/\(l≠ []->(cV c gap num l).length+1<=l.length*(2*NBd d+2)))/\dpJ l<=d) ?_ ?_ ?_ ?_ ?_ ?_ ?_ ?_ ?_ ?_ ?_
 ·intro ls h d _
  have:=g d
  have:=h.2.1
  exact⟨by simp[be];omega,lC2 _⟩
 ·intro lv x h d _
  have:=g d
  exact⟨by simp[be];omega,lC2 _⟩
 ·intro h d _
  have:=g d
  exact⟨by simp[be];omega,lC2 _⟩
 ·intro w ls h d _
  have:=g d
  have:=h.2.2.2.1
  exact⟨by simp[be];omega,lC2 _⟩
 ·intro c ls h d _
  have:=g d
  have:=h.2.2.1
  exact⟨by simp[be];omega,lC2 _⟩
 ·intro bs y h d hs
  obtain⟨a7,H,E⟩:=hs
  obtain⟨k,rfl⟩: ∃k,d=k+1:=⟨d - 1,by omega⟩
  obtain⟨a,b⟩:=y h.2 k E
  have b3:=pL k
  refine⟨?_,by show dpT bs+1<=_;omega⟩
  have e:(be (.quote bs)).length=(aD bs).length - 1:=by simp[be]
  rw[e]
  have:=lN2 (NBd k+1) H
  omega
 ·intro c num gap its y h d hs
  obtain⟨hc,b8,V,b7⟩:=h
  obtain⟨a7,H,E⟩:=hs
  obtain⟨k,rfl⟩: ∃k,d=k+1:=⟨d - 1,by omega⟩
  have e:k+1 - 2=k - 1:=by omega
  rw[e] at E
  obtain⟨a,b⟩:=y b7 (k - 1) E
  have b3:=Ee k
  refine⟨?_,by show dpJ its+1<=_;omega⟩
  have a2:=(a c gap num).2 V
  have:=lN2 (2*NBd (k - 1)+2) H
  show (cV c gap num its).length<=NBd (k+1)
  omega
 ·intro _ d _
  exact⟨by simp[aD],lC2 _⟩
 ·intro b r O U h d hs
  obtain⟨a1,a2⟩:=O h.1 d hs.1
  obtain⟨b1,b2⟩:=U h.2.2 d hs.2
  refine⟨?_,by show max (dpB b) (dpT r)<=d;omega⟩
  rw[lF0,lP3,Nat.one_mul]
  simp only[aD,lF0,lA0]
  omega
 ·intro _ d _
  exact⟨λc gap num=>by simp[dQ,cV],lC2 _⟩
 ·intro it r a6 W h d hs
  obtain⟨b5,b4,b6⟩:=hs
  obtain⟨a1,a2⟩:=a6 h.2.1 d b4
  obtain⟨b1,b2⟩:=W h.2.2 d b6
  have m:=lN2 (NBd d+1) b5
  have hi: ∀mk,(itL mk (aD it).tail).length<=2*NBd d+1:=by
   intro mk
   simp only[itL,lF0,lS0,lD3]
   omega
  have I:(it::r).length*(2*NBd d+2)=r.length*(2*NBd d+2)+(2*NBd d+2):=by rw[lF0,lP3,Nat.one_mul]
  refine⟨λc gap num=>⟨?_,λ_=>?_⟩,by show max (dpT it) (dpJ r)<=d;omega⟩
  ·have:=hi (mkI c num)
   have:=(b1 c gap (num+1)).1
   rw[I,dQ]
   split
   ·simp only[lF0,lA0];omega
   ·simp only[lA0];omega
  ·have:=hi (mkI c num)
   have:=(b1 c gap (num+1)).1
   rw[I,cV,lA0]
   omega

theorem Sat.buildN (h:Sat σ w L)(v:N10){K:OA->Nat->Nat->World->Prop}(H: ∀b g,Sat σ g ((b,cel v.C.toList af)::L)->K (kE b) 1 1 g):
 ∃(q:OA),∃(n:Nat),∃(c:Nat),∃g,(Instr.buildSlice au 1 #[(0,v.V)]).run P w= .ok (hT q n c) g/\K q n c g:=by
 have E:=run_buildSlice (P:=P) w au af 1 #[(0,v.V)] v.V.cells rowND.i rowND.z rowND.ht rowND.hi rowND.hz (by rw[rowND.hs];decide) (by rw[rowND.hs];decide) (by rw[rowND.hs];exact wR v)
 refine⟨_,_,_,_,E,?_⟩
 have y:=h.alc v.C.toList af
 have I:YtendaipfdnhnaaaGreatDoor.alc w v.C.toList.toArray af=w.alloc (.cells v.V.cells af):=rfl
 rw[I] at y
 exact H _ _ y
theorem slN {b:Nat}{v:N10}:Sl 10 af (kE b) 1 1 v.C.toList [(b,cel v.C.toList af)]:=⟨rfl,lZ0 _,.inr ⟨b,[],rfl,by rw[lG0],rfl⟩⟩

def cat (g l:List ND):List ND:=l.foldl j4 g
theorem ve (g:List ND)(x:ND)(l:List ND):cat g (x::l)=cat (j4 g x) l:=rfl
theorem lM (g a b:List ND):cat g (a++b)=cat (cat g a) b:=by simp[cat]
def plN (s:List UInt8):ND:= .mk {kind:=20,text:=s} []
theorem Eu: ∀(a:List ND) (g x:ND),j4 (a++ [g]) x=a++j4 [g] x
 | [],g,x=>rfl
 | [z],g,x=>by
  show j4 (z::g:: []) x=z::j4 [g] x
  rw[j4]
 |z::z2::a,g,x=>by
  have E:=Eu (z2::a) g x
  rw[lR0] at E
  rw[lR0,lR0,lR0]
  rw[j4,E]
theorem zQ (a:List ND)(h:NH)(H:List ND)(x:ND)(O:h.kind=20)(U:x.h.kind=20):j4 (j4 a (.mk h H)) x=j4 a (.mk {h with text:=h.text++x.h.text} H)\/ ∃m g E,a=m++ [.mk g E]/\g.kind=20/\j4 (j4 a (.mk h H)) x=m++ [.mk {g with text:=g.text++h.text++x.h.text} E]:=by
 rcases lA2 a with rfl|⟨m,W,rfl⟩
 ·left
  show j4 [.mk h H] x= [_]
  rw[j4,if_pos ⟨U,O⟩]
 ·rw[lL2,Eu]
  cases W with
  |mk g E=>
   by_cases I:g.kind=20
   ·right
    refine⟨m,g,E,rfl,I,?_⟩
    have e:j4 [.mk g E] (.mk h H)= [.mk {g with text:=g.text++h.text} E]:=by rw[j4,if_pos ⟨O,I⟩];rfl
    rw[e,Eu,j4,if_pos ⟨U,I⟩]
   ·left
    have e:j4 [.mk g E] (.mk h H)= [.mk g E]++ [.mk h H]:=by rw[j4,if_neg λV=>I V.2];rfl
    rw[e,<-lD0,Eu,j4,if_pos ⟨U,O⟩,Eu,j4,if_neg λV=>I V.2]
    simp
theorem FO (g l:List ND)(x:ND):cat g (j4 l x)=j4 (cat g l) x:=by
 rcases lA2 l with rfl|⟨m,W,rfl⟩
 ·rfl
 ·rw[lL2,Eu,lM,lM]
  cases W with
  |mk E I=>
   show cat (cat g m) (j4 [.mk E I] x)=j4 (j4 (cat g m) (.mk E I)) x
   rw[j4]
   split
   ·rename_i H
    rcases zQ (cat g m) E I x H.2 H.1 with h|⟨V,U,k2,e,O,h⟩
    ·rw[h];rfl
    ·rw[h,e]
     show j4 (V++ [.mk U k2]) _=_
     rw[Eu,j4,if_pos ⟨H.2,O⟩]
     simp[ND.h]
   ·rfl
theorem Cz (g a:List ND): ∀l,cat g (cat a l)=cat (cat g a) l:=by
 intro l
 induction l generalizing a with
 |nil=>rfl
 |cons x l y=>rw[ve,ve,y,FO]
theorem DW (l:List ND):cat [] (cat [] l)=cat [] l:=Cz [] [] l
def tkN:Tk->ND
 | .wd s=>plN s
 | .sp=>plN [32]
 | .nl=> .mk {kind:=21} []
 | .em k s=> .mk {kind:=if k=1 then 24 else 25} [plN s]
 | .cd s=> .mk {kind:=23,text:=s} []
 | .lk s d=> .mk {kind:=27,text:=d} [plN s]
 | .es s=>plN (42::s)
def inT (l:List Tk):List ND:=cat [] (l.map tkN)

def lz (gap:Bool)(its:List (List BN)):Bool:=(gap && decide (2<=its.length))||its.any λit=>decide (2<=it.length)
mutual
def mj (f:Nat):BN->ND
 | .para ls=> .mk {kind:=6,s:=f,e:=f+ls.length - 1} (inT (fh ls))
 | .head lv x=> .mk {kind:=5,num:=(lv:Nat),s:=f,e:=f} (inT (d7 x))
 | .hr=> .mk {kind:=9,s:=f,e:=f} []
 | .code w ls=> .mk {kind:=7,title:=w,text:=dK (ls.map qZ),s:=f,e:=f+ls.length+1} []
 | .setx c ls=> .mk {kind:=5,num:=(AD c:Nat),s:=f,e:=f+ls.length} (inT (fh ls))
 | .quote bs=> .mk {kind:=2,s:=f,e:=f+(aD bs).tail.length - 1} (mR 1 bs)
 | .list c num gap its=> .mk {kind:=3,num:=if c=46\/c=41 then (num:Nat) else -1,char:= [c],loose:=lz gap its,s:=f,e:=f+(cV c gap num its).length - 1} (xu gap its)
def mR (f:Nat):List BN->List ND
 | []=> []
 |b::r=>mj f b::mR (f+(be b).length+1) r
def xu (gap:Bool):List (List BN)->List ND
 | []=> []
 |it::r=> .mk {kind:=4,s:=1,e:=(aD it).tail.length} (mR 1 it)::ze gap (aD it).tail.length r
def ze (gap:Bool)(n:Nat):List (List BN)->List ND
 | []=> []
 |it::r=> .mk {kind:=4,s:=n+gap.toNat+1,e:=n+gap.toNat+(aD it).tail.length} (mR 1 it)::ze gap (n+gap.toNat+(aD it).tail.length) r
end
theorem uT {mk:List UInt8}{it:List BN}(h:Hd (aD it).tail):(itL mk (aD it).tail).length=(aD it).tail.length:=by
 obtain⟨c,r,rest,e,_⟩:=h
 exact sB (by rw[e];simp)
theorem lastE (c:UInt8)(gap:Bool): ∀(l:List (List BN)) (num n:Nat) (x:IN),okJ l->x.h.e=n->((x::jP c gap num n l).getLast?.map λx=>x.h.e).getD 0=n+(dQ c gap num l).length
 | [],num,n,x,_,hx=>by simp[jP,dQ,hx]
 |it::r,num,n,x,h,hx=>by
  have hd:=(pt.2.2 _ h it (.head _)).2.2
  have g:=uT (mk:=mkI c num) hd
  rw[jP,dQ]
  cases gap with
  |true=>
   rw[if_pos rfl,if_pos rfl,lT2,lastE c true r (num+1) (n+1+(aD it).tail.length) _ h.2.2 rfl]
   simp only[lF0,lA0,g];omega
  |false=>
   rw[if_neg (by decide),if_neg (by decide),lT2,lastE c false r (num+1) (n+(aD it).tail.length) _ h.2.2 rfl]
   simp only[lA0,g];omega
theorem endB (b:BN)(h:okB b)(n:Nat)(V:1<=n):(eu n b).h.s=n/\(eu n b).h.e+1=n+(be b).length:=by
 cases b with
 |para ls=>
  refine⟨rfl,?_⟩
  have:0<ls.length:=lY0.2 h.1
  show n+ls.length - 1+1=n+(ls.map cw).length
  simp;omega
 |head lv x=>exact⟨rfl,rfl⟩
 |hr=>exact⟨rfl,rfl⟩
 |code w ls=>
  refine⟨rfl,?_⟩
  show n+ls.length+1+1=n+(be (.code w ls)).length
  simp[be];omega
 |setx c ls=>
  refine⟨rfl,?_⟩
  show n+ls.length+1=n+(be (.setx c ls)).length
  simp[be];omega
 |quote bs=>
  refine⟨rfl,?_⟩
  obtain⟨c0,r0,rest,e,_⟩:=pt.2.1 bs h.2 h.1
  show n+(aD bs).tail.length - 1+1=n+((aD bs).tail.map _).length
  rw[lS0,e]
  simp only[lF0];omega
 |list c num gap its=>
  obtain⟨hc,U,y,g⟩:=h
  obtain⟨it,r,rfl⟩:=lA1 y
  refine⟨by rw[eu];rfl,?_⟩
  have hd:=(pt.2.2 _ g it (.head _)).2.2
  have H:=uT (mk:=mkI c num) hd
  obtain⟨c0,r0,rest,O,_⟩:=hd
  have E:(be (.list c num gap (it::r))).length=(aD it).tail.length+(dQ c gap (num+1) r).length:=by rw[be,cV,lA0,H]
  have I:(eu n (.list c num gap (it::r))).h.e=(n - 1+(aD it).tail.length)+(dQ c gap (num+1) r).length:=by
   rw[eu,jC]
   exact lastE c gap r (num+1) _ _ g.2.2 rfl
  rw[E,I,O]
  simp only[lF0]
  omega
theorem CJ (h:IH)(g:List IN):vj (.mk h g)= .mk (GM h) (yI [] g):=by rw[vj]
theorem vi (x:IN):vj x.tgt=vj x/\x.tgt.h.kind=x.h.kind:=by
 cases x with
 |mk h g=>
  by_cases y:h.kind=6
  ·have e:(IN.mk h g).tgt= .mk {h with tight:=true} g:=if_pos y
   rw[e,CJ,CJ]
   exact⟨rfl,rfl⟩
  ·have e:(IN.mk h g).tgt= .mk h g:=if_neg y
   rw[e]
   exact⟨rfl,rfl⟩
theorem xe: ∀(l:List IN) (g:List ND),yI g (l.map IN.tgt)=yI g l
 | [],g=>rfl
 |x::l,g=>by
  rw[lU1,yI,yI,(vi x).1,(vi x).2,xe l]
theorem xd (x:IN):vj x.tgtI=vj x/\x.tgtI.h.kind=x.h.kind:=by
 cases x with
 |mk h g=>exact⟨by rw[IN.tgtI,vj,vj,xe],rfl⟩

inductive InO:List IN->Nat->Nat->Prop where
 |nil {f t:Nat}:InO [] f t
 |leaf {x:IN} {xs:List IN} {f t:Nat}:20<=x.h.kind->InO (x::xs) f t
 |cons {h:IH} {ks xs:List IN} {f t:Nat}:h.kind<11->f<=h.s->h.s<=h.e->h.e<=t->InO ks h.s h.e->InO xs (h.e+1) t->InO (.mk h ks::xs) f t
inductive AtL:Bool->Nat->List IN->List ND->Prop where
 |leaf {base:Nat} {xs:List IN} {ys:List ND}:(∀x∈xs,20<=x.h.kind)->(∀y∈ys,20<=y.h.kind)->AtL false base xs ys
 |nil {base:Nat}:AtL true base [] []
 |cons {k:Bool} {base:Nat} {h:IH} {g:NH} {ks xs:List IN} {kds ys:List ND}:h.kind=g.kind->h.kind<11->1<=g.s->h.s=base+g.s->h.e=base+g.e->AtL k (base+g.s - 1) ks kds->AtL true base xs ys->AtL true base (.mk h ks::xs) (.mk g kds::ys)
theorem Er (h:IH)(y:List IN): ∃g,(IN.mk h y).tgt= .mk g y/\g.kind=h.kind/\g.s=h.s/\g.e=h.e:=by
 by_cases E:h.kind=6
 ·exact⟨_,if_pos E,rfl,rfl,rfl⟩
 ·exact⟨_,if_neg E,rfl,rfl,rfl⟩
theorem yW (x:IN):x.tgt.h.kind=x.h.kind:=(vi x).2
theorem InO.tgt {xs:List IN}{f t:Nat}(h:InO xs f t):InO (xs.map IN.tgt) f t:=by
 induction h with
 |nil=>exact .nil
 |leaf h=>exact .leaf (by rw[yW];exact h)
 | @cons h ks xs f t a b c d e e2 ih1 ih2=>
  obtain⟨g,e',k1,k2,k3⟩:=Er h ks
  rw[lU1,e']
  exact .cons (by rw[k1];exact a) (by rw[k2];exact b) (by rw[k2,k3];exact c) (by rw[k3];exact d) (by rw[k2,k3];exact e) (by rw[k3];exact ih2)
theorem AtL.tgt {k:Bool}{base:Nat}{xs:List IN}{E:List ND}(h:AtL k base xs E):AtL k base (xs.map IN.tgt) E:=by
 induction h with
 |leaf H I=>
  refine .leaf (λx U=>?_) I
  obtain⟨V,O,rfl⟩:=lS1.1 U
  rw[yW]
  exact H V O
 |nil=>exact .nil
 | @cons k base h g ks xs kds E a b c d e e2 e3 ih1 ih2=>
  obtain⟨W,e',k1,k2,k3⟩:=Er h ks
  rw[lU1,e']
  exact .cons (by rw[k1];exact a) (by rw[k1];exact b) c (by rw[k2];exact d) (by rw[k3];exact e) e2 ih2
theorem InO.tgtI {xs:List IN}{f t:Nat}(h:InO xs f t):InO (xs.map IN.tgtI) f t:=by
 induction h with
 |nil=>exact .nil
 |leaf h=>exact .leaf (by rw[(xd _).2];exact h)
 | @cons h ks xs f t a b c d e e2 ih1 ih2=>
  rw[lU1,IN.tgtI]
  exact .cons a b c d e.tgt ih2
theorem AtL.tgtI {k:Bool}{base:Nat}{xs:List IN}{E:List ND}(h:AtL k base xs E):AtL k base (xs.map IN.tgtI) E:=by
 induction h with
 |leaf H I=>
  refine .leaf (λx U=>?_) I
  obtain⟨V,O,rfl⟩:=lS1.1 U
  rw[(xd _).2]
  exact H V O
 |nil=>exact .nil
 | @cons k base h g ks xs kds E a b c d e e2 e3 ih1 ih2=>
  rw[lU1,IN.tgtI]
  exact .cons a b c d e e2.tgt ih2
theorem wD (t:Inl):20<=(inlN t).h.kind:=by
 cases t<;>simp[inlN,IN.h]
theorem tS: ∀(ts:List Inl),∀x∈fW ts,20<=x.h.kind
 | [],x,h=>by rw[fW] at h;cases h
 |t::ts,x,h=>by
  rw[fW] at h
  cases h with
  |head=>exact wD t
  |tail _ h=>exact tS ts x h
theorem DC {a:List ND}{x:ND}(E: ∀g∈a,20<=g.h.kind)(I:20<=x.h.kind): ∀g∈j4 a x,20<=g.h.kind:=by
 rcases lA2 a with rfl|⟨m,g,rfl⟩
 ·intro z hz
  obtain rfl:=lQ0.1 hz
  exact I
 ·rw[lL2] at E⊢
  rw[Eu]
  have H:=E g (by simp)
  intro z hz
  rcases lO0.1 hz with hz|hz
  ·exact E z (by simp[hz])
  ·cases g with
   |mk O U=>
    rw[j4] at hz
    split at hz
    ·obtain rfl:=lQ0.1 hz
     exact H
    ·simp only[lW0,lD1,or_false] at hz
     rcases hz with rfl|rfl
     ·exact H
     ·exact I
theorem zf: ∀(l E:List ND),(∀g∈E,20<=g.h.kind)->(∀x∈l,20<=x.h.kind)-> ∀g∈cat E l,20<=g.h.kind
 | [],E,ha,_=>ha
 |x::l,E,ha,h=>zf l _ (DC ha (h x (.head _))) λg H=>h g (.tail _ H)
theorem C9 (t:Tk):20<=(tkN t).h.kind:=by
 cases t with
 |em k s=>by_cases g:k=1<;>simp[tkN,ND.h,g]
 |_=>simp[tkN,ND.h,plN]
theorem DH (l:List Tk): ∀E∈inT l,20<=E.h.kind:=zf _ [] (λ_ h=>by cases h) λx g=>by
 obtain⟨t,_,rfl⟩:=lS1.1 g
 exact C9 t
theorem yk (ts:List Inl)(f t:Nat):InO (fW ts) f t:=by
 cases ts with
 |nil=>rw[fW];exact .nil
 |cons x ts=>rw[fW];exact .leaf (wD x)
theorem yJ (base:Nat)(ts:List Inl)(l:List Tk):AtL false base (fW ts) (inT l):= .leaf (tS ts) (DH l)
theorem sT (base:Nat):AtL true base [] []:= .nil
theorem qc (b:BN)(h:okB b):1<=(be b).length:=by
 obtain⟨c,r,rest,e,_⟩:=pt.1 b h
 rw[e];simp
theorem p9 (l:List BN)(h:okS l)(g:l≠ []):1<=(aD l).tail.length:=by
 obtain⟨c,r,rest,e,_⟩:=pt.2.1 l h g
 rw[e];simp
theorem B1:(∀b,okB b-> ∀n,1<=n->(eu n b).h.kind<11/\InO (eu n b).kids n (eu n b).h.e)/\(∀l,okS l-> ∀n f t,1<=n->f<=n->n+(aD l).tail.length<=t+1->InO (fJ n l) f t)/\ ∀l,okJ l-> ∀(c:UInt8) (gap:Bool) (num n f t:Nat),(f<=n+1->n+(dQ c gap num l).length<=t->InO (jP c gap num n l) f t)/\(1<=n->f<=n->n+(cV c gap num l).length<=t+1->InO (jC c gap num n l) f t):=by
 refine BN.ind (P:=λb=>okB b-> ∀n,1<=n->(eu n b).h.kind<11/\InO (eu n b).kids n (eu n b).h.e) (S:=λl=>okS l-> ∀n f t,1<=n->f<=n->n+(aD l).tail.length<=t+1->InO (fJ n l) f t)
  (J:=λl=>okJ l-> ∀(c:UInt8) (gap:Bool) (num n f t:Nat),(f<=n+1->n+(dQ c gap num l).length<=t->InO (jP c gap num n l) f t)/\(1<=n->f<=n->n+(cV c gap num l).length<=t+1->InO (jC c gap num n l) f t)) ?_ ?_ ?_ ?_ ?_ ?_ ?_ ?_ ?_ ?_ ?_
 ·intro ls h n _
  rw[eu]
  exact⟨by show (6:Nat)<11;decide,yk _ _ _⟩
 ·intro lv x h n _
  rw[eu]
  exact⟨by show (5:Nat)<11;decide,yk _ _ _⟩
 ·intro h n _
  rw[eu]
  exact⟨by show (9:Nat)<11;decide,.nil⟩
 ·intro w ls h n _
  rw[eu]
  exact⟨by show (7:Nat)<11;decide,.nil⟩
 ·intro c ls h n _
  rw[eu]
  exact⟨by show (5:Nat)<11;decide,yk _ _ _⟩
 ·intro bs W h n g
  have a7:=p9 bs h.2 h.1
  rw[eu]
  exact⟨by show (2:Nat)<11;decide,W h.2 n n _ g (lZ0 _) (by show _<=n+(aD bs).tail.length - 1+1;omega)⟩
 ·intro c num gap its W h n g
  have b6:=(endB _ h n g).2
  obtain⟨hc,b8,b9,b7⟩:=h
  refine⟨by rw[eu];show (3:Nat)<11;decide,?_⟩
  have a6:=(W b7 c gap num n n (eu n (.list c num gap its)).h.e).2 g (lZ0 _) (by rw[b6];exact lZ0 _)
  have e:(eu n (.list c num gap its)).kids=if AH (jC c gap num n its) then jC c gap num n its else (jC c gap num n its).map IN.tgtI:=by rw[eu];rfl
  rw[e]
  split
  ·exact a6
  ·exact a6.tgtI
 ·intro _ n f t _ _ _
  rw[fJ]
  exact .nil
 ·intro b r b4 b5 h n f t g O ht
  rw[lW,lA0] at ht
  obtain⟨k1,k2⟩:=b4 h.1 n g
  obtain⟨y,E⟩:=endB b h.1 n g
  have a7:=qc b h.1
  rw[fJ]
  revert k1 k2 y E
  generalize eu n b=x
  intro k1 k2 y E
  cases x with
  |mk b3 c1=>
   have y:b3.s=n:=y
   have E:b3.e+1=n+(be b).length:=E
   refine .cons k1 (by omega) (by omega) (by omega) (by rw[y];exact k2) ?_
   cases r with
   |nil=>rw[fJ];exact .nil
   |cons b2 r=>
    refine b5 h.2.2 _ _ _ (by omega) (by omega) ?_
    simp only[aD,lF0,List.tail_cons] at ht⊢
    omega
 ·intro _ c gap num n f t
  refine⟨λ_ _=>?_,λ_ _ _=>?_⟩
  ·rw[jP];exact .nil
  ·rw[jC];exact .nil
 ·intro it r H I h c gap num n f t
  have a7:=p9 it h.2.1 h.1
  have hd:=(pt.2.2 _ h it (.head _)).2.2
  have U:=uT (mk:=mkI c num) hd
  refine⟨λO ht=>?_,λg O ht=>?_⟩
  ·rw[jP]
   rw[dQ] at ht
   split
   ·rename_i V
    rw[if_pos V,lF0,lA0,U] at ht
    refine .cons (by show (4:Nat)<11;decide) (by show f<=n+2;omega) (by show n+2<=n+1+_;omega) (by show n+1+_<=t;omega) (H h.2.1 (n+2) (n+2) _ (by omega) (lZ0 _) (by show n+2+_<=n+1+_+1;omega)) ?_
    exact(I h.2.2 c gap (num+1) _ _ t).1 (lZ0 _) (by omega)
   ·rename_i V
    rw[if_neg V,lA0,U] at ht
    refine .cons (by show (4:Nat)<11;decide) (by show f<=n+1;omega) (by show n+1<=n+_;omega) (by show n+_<=t;omega) (H h.2.1 (n+1) (n+1) _ (by omega) (lZ0 _) (by show n+1+_<=n+_+1;omega)) ?_
    exact(I h.2.2 c gap (num+1) _ _ t).1 (lZ0 _) (by omega)
  ·rw[jC]
   rw[cV,lA0,U] at ht
   refine .cons (by show (4:Nat)<11;decide) O (by show n<=n - 1+_;omega) (by show n - 1+_<=t;omega) (H h.2.1 n n _ g (lZ0 _) (by show n+_<=n - 1+_+1;omega)) ?_
   exact(I h.2.2 c gap (num+1) _ _ t).1 (by show n - 1+(aD it).tail.length+1<=_;omega) (by omega)
theorem Dt (n:Nat)(b:BN):eu n b= .mk (eu n b).h (eu n b).kids:=by
 cases eu n b with
 |mk h g=>rfl
theorem Fv (f:Nat)(b:BN):mj f b= .mk (mj f b).h (mj f b).kids:=by
 cases mj f b with
 |mk h g=>rfl
theorem Gv (b:BN)(h:okB b)(f:Nat)(y:1<=f):(mj f b).h.s=f/\(mj f b).h.e+1=f+(be b).length/\(mj f b).h.kind=(eu f b).h.kind:=by
 have g:=qc b h
 cases b with
 |para ls=>
  refine⟨rfl,?_,rfl⟩
  have:0<ls.length:=lY0.2 h.1
  show f+ls.length - 1+1=f+(ls.map cw).length
  simp;omega
 |head lv x=>exact⟨rfl,rfl,rfl⟩
 |hr=>exact⟨rfl,rfl,rfl⟩
 |code w ls=>
  refine⟨rfl,?_,rfl⟩
  show f+ls.length+1+1=f+(be (.code w ls)).length
  simp[be];omega
 |setx c ls=>
  refine⟨rfl,?_,rfl⟩
  show f+ls.length+1=f+(be (.setx c ls)).length
  simp[be];omega
 |quote bs=>
  have g:=p9 bs h.2 h.1
  refine⟨rfl,?_,rfl⟩
  show f+(aD bs).tail.length - 1+1=f+((aD bs).tail.map _).length
  rw[lS0]
  omega
 |list c num gap its=>
  refine⟨rfl,?_,by rw[mj,eu];rfl⟩
  have e:be (.list c num gap its)=cV c gap num its:=rfl
  rw[e] at g⊢
  show f+(cV c gap num its).length - 1+1=_
  omega
theorem Fy (b:BN)(n m:Nat):(eu n b).h.kind=(eu m b).h.kind:=by
 cases b<;>(rw[eu,eu];rfl)
theorem FR:(∀b,okB b-> ∀n f base,1<=f->n=base+f-> ∃k,AtL k (base+f - 1) (eu n b).kids (mj f b).kids)/\(∀l,okS l-> ∀n f base,1<=f->n=base+f->AtL true base (fJ n l) (mR f l))/\ ∀l,okJ l-> ∀(c:UInt8) (gap:Bool) (num n m base:Nat),(n=base+m->AtL true base (jP c gap num n l) (ze gap m l))/\(n=base+1->AtL true base (jC c gap num n l) (xu gap l)):=by
 refine BN.ind (P:=λb=>okB b-> ∀n f base,1<=f->n=base+f-> ∃k,AtL k (base+f - 1) (eu n b).kids (mj f b).kids) (S:=λl=>okS l-> ∀n f base,1<=f->n=base+f->AtL true base (fJ n l) (mR f l))
  (J:=λl=>okJ l-> ∀(c:UInt8) (gap:Bool) (num n m base:Nat),(n=base+m->AtL true base (jP c gap num n l) (ze gap m l))/\(n=base+1->AtL true base (jC c gap num n l) (xu gap l))) ?_ ?_ ?_ ?_ ?_ ?_ ?_ ?_ ?_ ?_ ?_
 ·intro ls h n f base _ _
  rw[eu,mj]
  exact⟨_,yJ _ _ _⟩
 ·intro lv x h n f base _ _
  rw[eu,mj]
  exact⟨_,yJ _ _ _⟩
 ·intro h n f base _ _
  rw[eu,mj]
  exact⟨_,sT _⟩
 ·intro w ls h n f base _ _
  rw[eu,mj]
  exact⟨_,sT _⟩
 ·intro c ls h n f base _ _
  rw[eu,mj]
  exact⟨_,yJ _ _ _⟩
 ·intro bs U h n f base E y
  rw[eu,mj]
  exact⟨_,U h.2 n 1 _ (by omega) (by omega)⟩
 ·intro c num gap its U h n f base E y
  obtain⟨hc,b7,b8,b5⟩:=h
  have e:(eu n (.list c num gap its)).kids=if AH (jC c gap num n its) then jC c gap num n its else (jC c gap num n its).map IN.tgtI:=by rw[eu];rfl
  have V:(mj f (.list c num gap its)).kids=xu gap its:=by rw[mj];rfl
  have H:=(U b5 c gap num n 0 (base+f - 1)).2 (by omega)
  rw[e,V]
  split
  ·exact⟨_,H⟩
  ·exact⟨_,H.tgtI⟩
 ·intro _ n f base _ _
  rw[fJ,mR]
  exact sT _
 ·intro b r W a7 h n f base E y
  obtain⟨b9,V⟩:=endB b h.1 n (by omega)
  obtain⟨b3,c1,b6⟩:=Gv b h.1 f E
  have c2:=qc b h.1
  have H:=(B1.1 b h.1 n (by omega)).1
  obtain⟨b4,a6⟩:=W h.1 n f base E y
  rw[fJ,mR,Dt,Fv]
  refine .cons (k:=b4) ?_ H (by omega) (by omega) (by omega) ?_ (a7 h.2.2 _ _ _ (by omega) (by omega))
  ·rw[b6];exact Fy b n f
  ·rw[b3];exact a6
 ·intro _ c gap num n m base
  refine⟨λ_=>?_,λ_=>?_⟩
  ·rw[jP,ze];exact sT _
  ·rw[jC,xu];exact sT _
 ·intro it r I O h c gap num n m base
  refine⟨λy=>?_,λy=>?_⟩
  ·rw[jP,ze]
   split
   ·rename_i g
    rw[g]
    refine .cons rfl (by show (4:Nat)<11;decide) (by show 1<=m+1+1;omega) (by show n+2=base+(m+1+1);omega) (by show n+1+_=base+(m+1+_);omega) (I h.2.1 _ _ _ (by omega) (by show n+2=base+(m+1+1) - 1+1;omega)) ((O h.2.2 c true (num+1) _ _ base).1 (by show _=base+(m+1+_);omega))
   ·rename_i g
    have g:gap=false:=by simpa using g
    rw[g]
    refine .cons rfl (by show (4:Nat)<11;decide) (by show 1<=m+0+1;omega) (by show n+1=base+(m+0+1);omega) (by show n+_=base+(m+0+_);omega) (I h.2.1 _ _ _ (by omega) (by show n+1=base+(m+0+1) - 1+1;omega)) ((O h.2.2 c false (num+1) _ _ base).1 (by show _=base+(m+0+_);omega))
  ·rw[jC,xu]
   refine .cons rfl (by show (4:Nat)<11;decide) (by show 1<=1;omega) (by show n=base+1;omega) (by show n - 1+(aD it).tail.length=base+(aD it).tail.length;omega) (I h.2.1 _ _ _ (by omega) (by show n=base+1 - 1+1;omega)) ((O h.2.2 c gap (num+1) _ _ base).1 (by omega))

def Wa (s:List UInt8):Prop:=s≠ []/\(∀c∈s,97<=c.toNat/\c.toNat<=122)/\s.length<=4
def tkA:Tk->Prop
 | .wd s=>Wa s
 | .em k s=>Wa s/\(k=1\/k=2)
 | .cd s=>Wa s
 | .lk s d=>Wa s/\ ∃w,Wa w/\d=47::w
 | .es s=>Wa s
 |_=>False
def lnA (x:LT):Prop:=(Wa x.1/\ ∀t∈x.2,tkA t)/\x.2.length<=2
def lsA (ls:List LT):Prop:=ls≠ []/\ls.length<=3/\ ∀x∈ls,lnA x
def Adj (b:BN)(r:List BN):Prop:= ∀c,(r.head?.bind bcB)=some c->bcB b≠some c
mutual
def abB:BN->Prop
 | .para ls=>lsA ls
 | .head lv x=>(1<=lv/\lv<=6)/\lnA x
 | .hr=>True
 | .code w ls=>(w= []\/Wa w)/\ls≠ []/\ls.length<=3/\ ∀x∈ls,x.1<=2/\Wa x.2
 | .setx c ls=>(c=61\/c=45)/\lsA ls
 | .quote bs=>bs≠ []/\abS bs
 | .list c num gap its=>(c=45\/c=43\/c=46\/c=41)/\num+its.length<=90/\its≠ []/\abJ its
def abS:List BN->Prop
 | []=>True
 |b::r=>abB b/\Adj b r/\abS r
def abJ:List (List BN)->Prop
 | []=>True
 |it::r=>it≠ []/\abS it/\abJ r
end
theorem Wa.wd {s:List UInt8}(h:Wa s):WdP s:=EU h.1 h.2.1 (by have:=h.2.2;omega)
theorem Wa.ch {s:List UInt8}(h:Wa s): ∀c∈s,chB c:=λc hc=>q9 (h.wd.by_ c hc)
theorem Ec {c:UInt8}(h:97<=c.toNat/\c.toNat<=122):yB c=true/\lg c=false:=by
 have:(List.range 256).all (λn=>(!(decide (97<=n) && decide (n<=122)))||(yB (UInt8.ofNat n) && !lg (UInt8.ofNat n)))=true:=by kernel_rfl
 have:=lD2.1 this c.toNat (lV2.2 c.toNat_lt)
 rw[lY3] at this
 simpa[h.1,h.2] using this
theorem Wa.dest {s:List UInt8}(h:Wa s):DsP (47::s)/\ ∀c∈(47::s:List UInt8),chB c:=by
 refine⟨⟨by simp,λc hc=>?_,by have:=h.2.2;simp;omega⟩,λc hc=>?_⟩
 ·cases hc with
  |head=>exact⟨by decide,by decide⟩
  |tail _ hc=>exact Ec (h.2.1 c hc)
 ·cases hc with
  |head=>exact⟨by decide,by decide,by decide⟩
  |tail _ hc=>exact h.ch c hc
theorem tkA.ok {t:Tk}(h:tkA t):F1 t/\dsOK t:=by
 cases t with
 |wd s=>exact⟨Wa.wd h,trivial⟩
 |sp=>exact h.elim
 |nl=>exact h.elim
 |em k s=>exact⟨⟨h.1.wd,h.2⟩,trivial⟩
 |cd s=>exact⟨Wa.wd h,trivial⟩
 |lk s d=>
  obtain⟨y,w,g,rfl⟩:=h
  exact⟨⟨y.wd,g.dest.1⟩,g.dest.2⟩
 |es s=>exact⟨Wa.wd h,trivial⟩
theorem lnA.ok {x:LT}(h:lnA x):xr x/\Fs x:=⟨⟨h.1.1.wd,λt ht=>(h.1.2 t ht).ok.1⟩,λt ht=>(h.1.2 t ht).ok.2⟩
theorem lsA.ok {ls:List LT}(h:lsA ls):okLs ls/\ ∀x∈ls,Fs x:=⟨⟨h.1,h.2.1,λx g=>⟨(h.2.2 x g).ok.1,(h.2.2 x g).2⟩⟩,λx g=>(h.2.2 x g).ok.2⟩
theorem Ax:(∀b,abB b->okB b/\dsB b)/\(∀l,abS l->okS l/\dsS l)/\ ∀l,abJ l->okJ l/\dsJ l:=by
 refine BN.ind (P:=λb=>abB b->okB b/\dsB b) (S:=λl=>abS l->okS l/\dsS l) (J:=λl=>abJ l->okJ l/\dsJ l) ?_ ?_ ?_ ?_ ?_ ?_ ?_ ?_ ?_ ?_ ?_
 ·intro ls h
  exact lsA.ok h
 ·intro lv x h
  exact⟨⟨h.1,h.2.ok.1,h.2.2⟩,h.2.ok.2⟩
 ·intro _
  exact⟨trivial,trivial⟩
 ·intro w ls h
  obtain⟨g,E,y,H⟩:=h
  have O:(∀c∈w,AE c=true)/\w.length<=100/\ ∀c∈w,chB c:=by
   rcases g with rfl|g
   ·exact⟨λc hc=>absurd hc lD1,lC2 _,λc hc=>absurd hc lD1⟩
   ·exact⟨λc hc=>(pJ (g.2.1 c hc)).2.2.2.2.2,by have:=g.2.2;omega,g.ch⟩
  exact⟨⟨O.1,O.2.1,E,y,λx a7=>⟨(H x a7).1,(H x a7).2.wd⟩⟩,O.2.2⟩
 ·intro c ls h
  exact⟨⟨h.1,h.2.ok.1⟩,h.2.ok.2⟩
 ·intro bs I h
  exact⟨⟨h.1,(I h.2).1⟩,(I h.2).2⟩
 ·intro c num gap its I h
  obtain⟨g,E,y,H⟩:=h
  exact⟨⟨g,E,y,(I H).1⟩,(I H).2⟩
 ·intro _
  exact⟨trivial,trivial⟩
 ·intro b r V U h
  obtain⟨g,E,y⟩:=h
  exact⟨⟨(V g).1,E,(U y).1⟩,⟨(V g).2,(U y).2⟩⟩
 ·intro _
  exact⟨trivial,trivial⟩
 ·intro it r a6 W h
  obtain⟨g,E,y⟩:=h
  exact⟨⟨g,(a6 E).1,(W y).1⟩,⟨(a6 E).2,(W y).2⟩⟩
def kdOK (odd:Bool)(b:BN):Prop:= ∀c,bcB b=some c->if odd then c=43\/c=41 else c=45\/c=46
def alt:Bool->List BN->Prop
 |_,[]=>True
 |o,b::r=>kdOK o b/\alt (!o) r
def Ey (n:Nat):Bool:=n%2==1
theorem zB: ∀(l:List BN) (o:Bool) (b:BN),alt o l->kdOK (o ^^ Ey l.length) b->alt o (l++ [b])
 | [],o,b,_,h=>⟨by simpa[Ey] using h,trivial⟩
 |x::l,o,b,h,hb=>by
  refine⟨h.1,zB l (!o) b h.2 ?_⟩
  have e:(!o ^^ Ey l.length)=(o ^^ Ey (x::l).length):=by
   simp only[lF0,Ey]
   rcases Nat.mod_two_eq_zero_or_one l.length with g|g
   ·have:(l.length+1)%2=1:=by omega
    rw[g,this];cases o<;>rfl
   ·have:(l.length+1)%2=0:=by omega
    rw[g,this];cases o<;>rfl
  rw[e];exact hb
theorem yK: ∀(l:List BN) (o:Bool),alt o l->(∀b∈l,abB b)->abS l
 | [],_,_,_=>trivial
 |b::r,o,h,hb=>by
  refine⟨hb b (.head _),λc hc E=>?_,yK r (!o) h.2 λx H=>hb x (.tail _ H)⟩
  cases r with
  |nil=>cases hc
  |cons b2 r=>
   have y:=h.1 c E
   have g:=h.2.1 c hc
   cases o
   ·rcases y with rfl|rfl<;>rcases g with g|g<;>exact absurd g (by decide)
   ·rcases y with rfl|rfl<;>rcases g with g|g<;>exact absurd g (by decide)
theorem sk: ∀(l:List BN) (b:BN),aD (l++ [b])=aD l++ []::be b
 | [],b=>by show []::(be b++ [])=_;rw[lG0];rfl
 |x::l,b=>by
  have g:=sk l b
  show []::(be x++aD (l++ [b]))=([]::(be x++aD l))++_
  rw[g];simp
theorem wo: ∀(l:List BN) (f:Nat) (b:BN),mR f (l++ [b])=mR f l++ [mj (f+(aD l).length) b]
 | [],f,b=>by rw[lT0,mR,mR,mR];rfl
 |x::l,f,b=>by
  have g:=wo l (f+(be x).length+1) b
  rw[lR0,mR,g,mR]
  have e:(aD (x::l)).length=(be x).length+1+(aD l).length:=by simp[aD];omega
  rw[e,lR0]
  congr 4
  omega
theorem yZ: ∀(l:List BN) (d:Nat) (b:BN),smS d l->smB d b->smS d (l++ [b])
 | [],d,b,_,h=>⟨h,trivial⟩
 |x::l,d,b,h,hb=>⟨h.1,yZ l d b h.2 hb⟩
theorem Be:(∀b d e,d<=e->smB d b->smB e b)/\(∀l d e,d<=e->smS d l->smS e l)/\ ∀l d e,d<=e->smJ d l->smJ e l:=by
 refine BN.ind (P:=λb=> ∀d e,d<=e->smB d b->smB e b) (S:=λl=> ∀d e,d<=e->smS d l->smS e l) (J:=λl=> ∀d e,d<=e->smJ d l->smJ e l) ?_ ?_ ?_ ?_ ?_ ?_ ?_ ?_ ?_ ?_ ?_
 ·intro ls d e _ _;simp only[smB]
 ·intro lv x d e _ _;simp only[smB]
 ·intro d e _ _;simp only[smB]
 ·intro w ls d e _ _;simp only[smB]
 ·intro c ls d e _ _;simp only[smB]
 ·intro bs y d e g h
  simp only[smB] at h⊢
  exact⟨by omega,h.2.1,y _ _ (by omega) h.2.2⟩
 ·intro c num gap its y d e g h
  simp only[smB] at h⊢
  exact⟨by omega,h.2.1,y _ _ (by omega) h.2.2⟩
 ·intro d e _ _;exact trivial
 ·intro b r H E d e g h
  exact⟨H _ _ g h.1,E _ _ g h.2⟩
 ·intro d e _ _;exact trivial
 ·intro it r O I d e g h
  exact⟨h.1,O _ _ g h.2.1,I _ _ g h.2.2⟩
theorem sr (c:UInt8)(gap:Bool): ∀(l:List (List BN)) (num:Nat) (it:List BN),dQ c gap num (l++ [it])=dQ c gap num l++((if gap then [[]] else [])++itL (mkI c (num+l.length)) (aD it).tail)
 | [],num,it=>by
  rw[lT0,dQ,dQ]
  cases gap<;>simp[dQ]
 |x::l,num,it=>by
  have g:=sr c gap l (num+1) it
  have e:num+1+l.length=num+(x::l).length:=by simp;omega
  rw[lR0,dQ,g,e,dQ]
  cases gap<;>simp
theorem ye (c:UInt8)(gap:Bool)(l:List (List BN))(num:Nat)(it:List BN):cV c gap num (l++ [it])=cV c gap num l++((if gap && !l.isEmpty then [[]] else [])++itL (mkI c (num+l.length)) (aD it).tail):=by
 cases l with
 |nil=>
  rw[lT0,cV,cV,dQ]
  simp
 |cons x l=>
  have e:num+1+l.length=num+(x::l).length:=by simp;omega
  rw[lR0,cV,sr,e,cV]
  cases gap<;>simp
def lawI (s:Nat)(it:List BN):ND:= .mk {kind:=4,s:=s+1,e:=s+(aD it).tail.length} (mR 1 it)
theorem wq (gap:Bool)(c:UInt8): ∀(l:List (List BN)) (n num:Nat) (it:List BN),(∀x∈l,(aD x).tail≠ [])->ze gap n (l++ [it])=ze gap n l++ [lawI (n+(dQ c gap num l).length+gap.toNat) it]
 | [],n,num,it,_=>by
  rw[lT0,ze,ze,ze,dQ];rfl
 |x::l,n,num,it,h=>by
  have E:=wq gap c l (n+gap.toNat+(aD x).tail.length) (num+1) it λI H=>h I (.tail _ H)
  have g:=sB (mk:=mkI c num) (h x (.head _))
  rw[lR0,ze,E,ze,lR0]
  have e:(dQ c gap num (x::l)).length=gap.toNat+(aD x).tail.length+(dQ c gap (num+1) l).length:=by
   rw[dQ]
   cases gap
   ·simp[g]
   ·simp[g];omega
  rw[e]
  congr 4
  omega
theorem BR (gap:Bool)(c:UInt8)(l:List (List BN))(num:Nat)(it:List BN)(h: ∀x∈l,(aD x).tail≠ []):xu gap (l++ [it])=xu gap l++ [lawI ((cV c gap num l).length+(gap && !l.isEmpty).toNat) it]:=by
 cases l with
 |nil=>
  rw[lT0,xu,xu,cV,ze]
  simp[lawI]
 |cons x l=>
  have E:=sB (mk:=mkI c num) (h x (.head _))
  rw[lR0,xu,wq gap c l _ (num+1) it λH g=>h H (.tail _ g),xu,lR0]
  have e:(cV c gap num (x::l)).length=(aD x).tail.length+(dQ c gap (num+1) l).length:=by rw[cV,lA0,E]
  rw[e]
  cases gap<;>simp
theorem Fp (gap:Bool)(l:List (List BN))(it:List BN):lz gap (l++ [it])=(lz gap l||((gap && !l.isEmpty)||decide (2<=it.length))):=by
 unfold lz
 cases l with
 |nil=>simp
 |cons x l=>
  cases gap
  ·simp[Bool.or_assoc]
  ·simp[Bool.or_assoc]
theorem vo: ∀(l:List (List BN)) (it:List BN),abJ l->it≠ []->abS it->abJ (l++ [it])
 | [],it,_,h1,h2=>⟨h1,h2,trivial⟩
 |x::l,it,h,h1,h2=>⟨h.1,h.2.1,vo l it h.2.2 h1 h2⟩
theorem ux: ∀(l:List (List BN)) (d:Nat) (it:List BN),smJ d l->it.length<=2->smS d it->smJ d (l++ [it])
 | [],d,it,_,h1,h2=>⟨h1,h2,trivial⟩
 |x::l,d,it,h,h1,h2=>⟨h.1,h.2.1,ux l d it h.2.2 h1 h2⟩
def BArg (σ:Out)(L:List ai)(q:Option Addr)(n:Nat)(vs:List UInt8):Prop:=
 n=vs.length/\ ∀i (hi:i<vs.length),∃a,q=some a/\ ∀w,Sat σ w L->w.cell? (a.add i)=some (.int .u8 (vs[i].toNat:Int))
namespace gx
def bl1 (R:EP)(Xa:BA->BA->Int->Int->WP)(g y:BA)(H E:Int)(w:World):Prop:=
 br (decide (E<H))
 (((y.size+g.size:Nat):Int)<=i64.max/\
 Xa g (y++g) H (i64.wrap (E+1)) w)
 (R (hQ (hX y)) w)
def l1 (R:EP)(g E:BA)(H y:Int)(w:World):Prop:=
 ∀X:BA->BA->Int->Int->WP,(∀g E H y w,bl1 R X g E H y w->X g E H y w)->X g E H y w
end gx
def gx (R:EP)(g:BA)(y:Int)(w:World):Prop:=
 gx.l1 R g (hP #[]) y 0 w
theorem gx.sound {R x0 x1 w}(h:gx R x0 x1 w):callE P jH #[hX x0,hY x1] R w:=
 aH [(43,.lp [1,101,127,147] (gx.bl1 R) λXa=> [])] Tryz.func37 Tryz.call37 h

def SArg (σ:Out)(L:List ai)(q:Option Addr)(n:Nat)(ls:List (List UInt8)):Prop:=
 n=ls.length/\ ∀i (hi:i<ls.length),∃a,q=some a/\ ∀w,Sat σ w L->w.cell? (a.add i)=some (hX (bs ls[i]))
theorem SArg.ofSl {q:Option Addr}{n c:Nat}{ts:List (List UInt8)}{M:List ai}(g:Sl 1 aq q n c (sv ts) M)(E: ∀c∈M,c∈L):SArg σ L q n ts:=by
 have y:=g.1
 rw[ka,lC1] at y
 refine⟨y.symm,λi hi=>?_⟩
 obtain⟨b,sp,rfl,rfl⟩:=g.rowAt (by omega)
 refine⟨_,rfl,λw h=>?_⟩
 rw[lK0,lN0]
 exact Sat.ld h (E _ (.head _)) (by rw[lM0 (by rw[ka];exact hi),tG hi])

theorem uu {s:List UInt8}{n:Nat}(U:n<1000000)(hs:s.length<1000000)(O:R (hQ (hX (bs (hN n s).flatten))) w):callE P jH #[hX (bs s),hY n] R w:=by
 refine gx.sound ?_
 have y:i64.max=9223372036854775807:=rfl
 intro X g
 have H: ∀k,(hN k s).flatten.length=k*s.length:=by intro k;simp
 have E: ∀k i,i+k=n->X (bs s) (bs (hN i s).flatten) (n:Nat) (i:Int) w:=by
  intro k
  induction k with
  |zero=>
   intro i hi
   obtain rfl:i=n:=hi
   exact g _ _ _ _ _ (ae (by simp) O)
  |succ k I=>
   intro i hi
   have V:i*s.length<=1000000*1000000:=lL5 (by omega) (by omega)
   refine g _ _ _ _ _ (ag (by simp;omega) ⟨?_,?_⟩)
   ·rw[y,aJ,aJ,H];omega
   ·rw[bL,aN (by omega)]
    have e:(hN i s).flatten++s=(hN (i+1) s).flatten:=by rw[lY4];simp
    rw[e]
    exact I (i+1) (by omega)
 exact E n 0 (by omega)

structure BS where
 at_:Nat
 size:Int
 flat:Bool
 deep:Int
def bC (b:Nat)(q:OA)(n c:Nat)(s:BS):ai:=(b,cel [hT q n c,hY (s.at_:Nat),hY s.size,hV s.flat,hY s.deep] mC)
def Rd (σ:Out)(L:List ai)(q:OA)(n:Nat)(vs:List UInt8):Prop:=BArg σ L q n vs/\n<=1000
theorem Rd.up {q:OA}{n:Nat}{vs:List UInt8}(h:Rd σ L q n vs)(y: ∀w,Sat σ w L'->Sat σ w L):Rd σ L' q n vs:=
 ⟨⟨h.1.1,λi hi=>by obtain⟨a,g,E⟩:=h.1.2 i hi;exact⟨a,g,λw H=>E w (y w H)⟩⟩,h.2⟩
def BS.same (s s':BS):Prop:=s'.size=s.size/\s'.flat=s.flat/\s'.deep=s.deep
theorem BS.same.refl (s:BS):s.same s:=⟨rfl,rfl,rfl⟩
theorem BS.same.trans {a b c:BS}(g:a.same b)(y:b.same c):a.same c:=⟨y.1.trans g.1,y.2.1.trans g.2.1,y.2.2.trans g.2.2⟩
theorem eQ {b:Nat}{q:OA}{n c k:Nat}{vs:List UInt8}{s:BS}(g:Rd σ L q n vs)(W:1<=k)(V:k<1000)(h:Sat σ w (bC b q n c s::L))(y: ∀w (r:Nat) (s':BS),r<k->s.same s'->Sat σ w (bC b q n c s'::L)->R (hQ (hY (r:Nat))) w):callE P aS #[kT (kE b),hY (k:Nat)] R w:=by
 refine iN.sound ?_
 refine h.tk λw h=>aa (aa ⟨_,Sat.ld h (.head _) (i:=1) rfl,_,_,_,Sat.ld h (.head _) (i:=0) rfl,?_⟩)
 refine bM (λ_=>y w 0 s (by omega) (BS.same.refl s) h) λhc=>?_
 simp only[decide_eq_false_iff_not] at hc
 have H:s.at_<n:=by omega
 have a6:=g.2
 refine aa ⟨_,Sat.ld h (.head _) (i:=1) rfl,aa ?_⟩
 refine Sat.st h (k:=0) rfl (by show 1<5;decide) trivial rfl λw h=>?_
 rw[aN (by omega)] at h
 have h:Sat σ w (bC b q n c {s with at_:=s.at_+1}::L):=h
 refine h.tk λw h=>aa (aa ⟨_,_,_,Sat.ld h (.head _) (i:=0) rfl,((s.at_+1:Nat):Int),Sat.ld h (.head _) (i:=1) rfl,?_⟩)
 have e:i64.wrap (((s.at_+1:Nat):Int) - 1)=(s.at_:Nat):=by rw[gr (by omega) (by omega)];congr 1
 have E:s.at_<vs.length:=by rw[<-g.1.1];exact H
 obtain⟨a,rfl,I⟩:=g.1.2 s.at_ E
 rw[e]
 refine⟨by omega,by omega,aa ?_⟩
 rw[lC0,lC1]
 refine⟨_,I w (h.less [bC b (some a) n c {s with at_:=s.at_+1}]),by omega,?_⟩
 have hb:=vs[s.at_].toNat_lt
 have O:i64.wrap ((vs[s.at_].toNat:Nat):Int)=((vs[s.at_].toNat:Nat):Int):=i64_in _ (by omega)
 rw[O]
 have U:Int.tmod ((vs[s.at_].toNat:Nat):Int) (k:Int)=((vs[s.at_].toNat%k:Nat):Int):=rfl
 rw[U]
 exact y w _ {s with at_:=s.at_+1} (Nat.mod_lt _ (by omega)) ⟨rfl,rfl,rfl⟩ h
def FT:List UInt8:= [97,98,99,100,101,102,103,104,105,106,107,108,109,110,111,112,113,114,115,116,117,118,119,120,121,122]
def xW:List UInt8:= [111,110,108,121,119,111,114,100,115]
theorem F8:(List.range 26).all (λr=>(List.range 4).all λk=>(sub FT r (r+1)++sub xW 0 k).all (λc=>decide (97<=c.toNat) && decide (c.toNat<=122)) && decide ((sub FT r (r+1)++sub xW 0 k).length<=4) && decide (sub FT r (r+1)++sub xW 0 k≠ []))=true:=by kernel_rfl
theorem wa_of {r k:Nat}(hr:r<26)(y:k<4):Wa (sub FT r (r+1)++sub xW 0 k):=by
 have g:=lD2.1 (lD2.1 F8 r (lV2.2 hr)) k (lV2.2 y)
 simp only[lM1,decide_eq_true_eq,lD2] at g
 exact⟨g.2,λc hc=>g.1.1 c hc,g.1.2⟩
theorem nV {b:Nat}{q:OA}{n c:Nat}{vs:List UInt8}{s:BS}(y:Rd σ L q n vs)(h:Sat σ w (bC b q n c s::L))(a7: ∀w (x:List UInt8) (s':BS),Wa x->s.same s'->Sat σ w (bC b q n c s'::L)->R (hQ (hX (bs x))) w):callE P cF #[kT (kE b)] R w:=by
 refine iM.sound ?_
 refine eQ (k:=26) y (by omega) (by omega) h λw r b4 hr U h=>⟨_,rfl,?_⟩
 refine h.tk λw h=>?_
 have I:(hP #[97,98,99,100,101,102,103,104,105,106,107,108,109,110,111,112,113,114,115,116,117,118,119,120,121,122])=bs FT:=rfl
 have W:(hP #[111,110,108,121,119,111,114,100,115])=bs xW:=rfl
 have E:(bs FT).size=26:=rfl
 have H:(bs xW).size=9:=rfl
 have b3:i64.max=9223372036854775807:=rfl
 rw[I,aN (by omega),E]
 refine⟨by omega,by omega,by omega,?_⟩
 refine eQ (k:=4) y (by omega) (by omega) h λw k O V a6 h=>⟨_,rfl,?_⟩
 have g:=wa_of hr V
 have b5:(0:Nat)=Int.toNat 0:=rfl
 rw[W,H]
 refine⟨by omega,by omega,?_⟩
 rw[lC0,lC0,lC0,cm,cm]
 refine⟨?_,?_⟩
 ·have:=g.2.2
  rw[lA0] at this
  show (((sub FT r (r+1)).length+(sub xW 0 k).length:Nat):Int)<=_
  omega
 ·rw[bL]
  exact a7 w _ O g (U.trans a6) h

theorem uS {n:Nat}: ∀ls:List (List UInt8),(∀s∈ls,s.length<=n)->(bF [10] ls).length<=ls.length*(n+1)
 | [],_=>by simp[bF]
 | [x],h=>by
  have:=h x (.head _)
  simp[bF];omega
 |x::y::r,h=>by
  have g:=uS (y::r) λz hz=>h z (.tail _ hz)
  have:=h x (.head _)
  have e:bF [10] (x::y::r)=x++10::bF [10] (y::r):=by simp[bF]
  rw[e,lA0,lF0,lF0,lF4]
  omega
theorem Ak (H:op.task=false)(O:op.table=false)(V:op.auto=false)(U:op.ids=false){ec:ai}(a6:Ay ec){l:List BN}(E:okS l)(hd:dsS l)(g:l≠ [])(b9:(aD l).length<=1300)(b7:dpT l<=12):
 (bF [10] (aD l).tail).length<1000000/\vp [ec] op (bF [10] (aD l).tail) (λb4=>b4=fJ 1 l):=by
 have b5:=(CD H O V U a6).2.1 l E g (dpT l) (lZ0 _)
 obtain⟨c0,r0,rest,e,a7,_⟩:=pt.2.1 l E g
 have y:=zq.2.1 l E hd g
 have W:(aD l).tail.length<=1300:=by rw[lD3];omega
 have c1:=uS (n:=768) (aD l).tail λs hs=>by have:=(y.ch s hs).2;omega
 have b8:=lN2 769 W
 have I:(bF [10] (aD l).tail).length<1000000:=by omega
 obtain⟨m,s,b6,b3⟩:=y.last
 refine⟨I,vY H b5 (c0:=c0) (r0:=r0) (by rw[e];rfl) a7 (by omega) (by omega) (λs hs=>?_) (by rw[b6];simpa using b3) I⟩
 obtain⟨a,b⟩:=y.ch s hs
 exact⟨⟨λh=>(a 10 h).1 rfl,λh=>(a 13 h).2.1 rfl⟩,λh=>(a 0 h).2.2 rfl,by omega⟩
theorem FK {l:List BN}(y:okS l)(g:l.length<=4)(hs:smS 3 l):(aD l).length<=1300/\dpT l<=12:=by
 obtain⟨a,b⟩:=qp.2.1 l y 3 hs
 have e:NBd 3=323:=by decide
 rw[e] at a
 have:=lN2 (323+1) g
 exact⟨by omega,by omega⟩
theorem uo: ∀(l g:List ND),oa (cat g l)=oa g+oa l
 | [],g=>rfl
 |x::l,g=>by
  rw[ve,uo l,uE]
  show _=oa g+(x.h.text.length+oa l)
  omega
theorem AY: ∀l:List Tk,oa (l.map tkN)<=(tkB l).length
 | []=>lC2 _
 |t::l=>by
  have g:=AY l
  rw[cv,lA0]
  have:(tkN t).h.text.length<=t.B.length:=by
   cases t<;>simp only[tkN,Tk.B,ND.h,plN,lA0,lF0,lK1,lG2,lZ0]<;>omega
  show (tkN t).h.text.length+oa (l.map tkN)<=_
  omega
theorem xA (l:List Tk):oa (inT l)<=(tkB l).length:=by
 have:=uo (l.map tkN) []
 have g:=AY l
 unfold inT
 rw[this]
 show 0+_<=_
 omega

theorem ss (x:List UInt8)(its:List Tk)(t:Tk):d7 (x,its++ [t])=d7 (x,its)++ [.sp,t]:=by simp[d7,qh]
theorem DG (x:List UInt8)(its:List Tk)(t:Tk):inT (d7 (x,its++ [t]))=j4 (j4 (inT (d7 (x,its))) (plN [32])) (tkN t):=by
 rw[ss]
 unfold inT
 rw[lV0,lM];rfl
theorem z7 (x:List UInt8)(its:List Tk)(t:Tk):cw (x,its++ [t])=cw (x,its)++(32::t.B):=by
 show tkB (d7 _)=tkB (d7 _)++_
 rw[ss,tF]
 simp[tkB,Tk.B]
theorem yb {h:NH}{s:List UInt8}{b:Nat}:NodeDt (.mk h [plN s]) (h.nd none 0 (kE b) 1 1) [(b,cel (N10.C {a0:=20,a1:=bs s}).toList af)]:=
 ⟨h,[plN s],none,0,kE b,1,1,_,[(b,_)],[],rfl,rfl,rfl,by decide,NodeDt.one (x:=plN s) NodeDt.leaf,slN (v:= {a0:=20,a1:=bs s})⟩
theorem vf {b:Nat}{q:OA}{n c:Nat}{vs:List UInt8}{s:BS}(d1:Rd σ L q n vs)(h:Sat σ w (bC b q n c s::L))(g2: ∀w (x:LT) (s':BS) (b9:OA) (b6 c3:Nat) (us:List Value) (RM KM:List ai),lnA x->s.same s'->NDs (inT (d7 x)) us KM->Sl 10 af b9 b6 c3 us RM->b6<=5->Sat σ w (RM++(KM++(bC b q n c s'::L)))->R (hQ (.tuple #[hX (bs (cw x)),hT b9 b6 c3])) w):
 callE P eB #[kT (kE b)] R w:=by
 have f4:i64.max=9223372036854775807:=rfl
 refine dj.sound ?_
 refine nV d1 h λw x g6 e9 a7 h=>⟨_,rfl,?_⟩
 refine Sat.buildN h {a0:=20,a1:=bs x} λb1 w h=>?_
 have h:Sat σ w (bC b q n c g6::(b1,cel (N10.C {a0:=20,a1:=bs x}).toList af)::L):=h.re
 refine eQ (k:=3) (d1.up λw h=>h.less [(b1,cel (N10.C {a0:=20,a1:=bs x}).toList af)]) (by omega) (by omega) h λw m g3 i8 b4 h=>⟨_,rfl,?_⟩
 intro X f1
 have f6: ∀k (its:List Tk) (b9:OA) (b6 c3:Nat) (us:List Value) (RM KM:List ai) (s':BS) (w:World),its.length+k=m->(∀t∈its,tkA t)->s.same s'->NDs (inT (d7 (x,its))) us KM->Sl 10 af b9 b6 c3 us RM->b6<=1+2*its.length->Sat σ w (RM++(KM++(bC b q n c s'::L)))->X (kE b) (bs (cw (x,its))) b9 b6 c3 (m:Nat) (its.length:Nat) w:=by
  intro k
  induction k with
  |zero=>
   intro its b9 b6 c3 us RM KM s' w g5 d4 d5 e7 e6 h1 h
   refine f1 _ _ _ _ _ _ _ _ (ae (by simp;omega) ?_)
   exact g2 w (x,its) s' b9 b6 c3 us RM KM ⟨⟨e9,d4⟩,by show its.length<=2;omega⟩ d5 e7 e6 (by omega) h
  |succ k g7=>
   intro its b9 b6 c3 us RM KM s' w g5 d4 d5 e7 e6 h1 h
   have f0:lnA (x,its):=⟨⟨e9,d4⟩,by show its.length<=2;omega⟩
   have h5:=jE f0.ok.1 f0.2
   have g1:=xA (d7 (x,its))
   have g1:oa (inT (d7 (x,its)))<=710:=by
    have e:(tkB (d7 (x,its))).length=(cw (x,its)).length:=rfl
    omega
   have h4:=e9.2.2
   refine f1 _ _ _ _ _ _ _ _ (ag (by simp;omega) ?_)
   have h:Sat σ w (bC b q n c s'::(RM++(KM++L))):=h.re
   refine nV (d1.up λw h=>h.less (RM++KM)) h λw g f3 c4 e0 h=>⟨_,rfl,?_⟩
   have h6:=c4.2.2
   refine Sat.buildN h {a0:=20,a1:=bs g} λb2 w h=>?_
   have h:Sat σ w (RM++(KM++([]++(bC b q n c f3::(b2,cel (N10.C {a0:=20,a1:=bs g}).toList af)::L)))):=h.re
   refine o8 (x:=plN [32]) (u:= {a0:=20,a1:=bs [32]}) e7 e6 NodeDt.leaf (by omega) (by show _+1<_;omega) h λw i1 h0 i3 i0 b7 b8 h8 c9 c8 h=>⟨_,_,_,rfl,?_⟩
   have h2:oa (j4 (inT (d7 (x,its))) (plN [32]))<=711:=by rw[uE];show _+1<=_;omega
   have h:Sat σ w (bC b q n c f3::(b7++(b8++((b2,cel (N10.C {a0:=20,a1:=bs g}).toList af)::L)))):=h.re
   refine eQ (k:=7) (d1.up λw h=>h.less (b7++(b8++ [(b2,cel (N10.C {a0:=20,a1:=bs g}).toList af)]))) (by omega) (by omega) h λw r b5 hr e8 h=>⟨_,rfl,?_⟩
   have next: ∀(t:Tk) (U:OA) (E V:Nat) (I:List Value) (H O:List ai) (c5:BS) (w:World) (z:ByteArray),tkA t->s.same c5->z=bs (32::t.B)->E<=h0+1->NDs (j4 (j4 (inT (d7 (x,its))) (plN [32])) (tkN t)) I O->Sl 10 af U E V I H->Sat σ w (H++(O++(bC b q n c c5::L)))->X (kE b) (bs (cw (x,its))++z) U E V (m:Nat) (i64.wrap (((its.length:Nat):Int)+1)) w:=by
    intro t U E V I H O c5 w z ht g0 hz b3 W a6 h
    rw[hz,bL,<-z7,aN (by omega)]
    have e:(its++ [t]).length=its.length+1:=by simp
    rw[<-e]
    refine g7 (its++ [t]) U E V I H O c5 w (by omega) (λu d2=>?_) g0 (by rw[DG];exact W) a6 (by omega) h
    rcases lO0.1 d2 with d2|d2
    ·exact d4 u d2
    ·obtain rfl:=lQ0.1 d2
     exact ht
   have d0:s.same b5:=d5.trans (e0.trans e8)
   have sz: ∀a b:List UInt8,a.length+b.length<=2000->(((bs a).size+(bs b).size:Nat):Int)<=i64.max:=by
    intro a b h3
    rw[f4,aJ,aJ];omega
   have i2: ∀c:List UInt8,(hP c.toArray)=bs c:=λ_=>rfl
   rcases (show r=0\/r=1\/r=2\/r=3\/r=4\/5<=r by omega) with rfl|rfl|rfl|rfl|rfl|h9
   ·have a7:((hP #[32,42]):ByteArray)=bs [32,42]:=rfl
    have b4:((hP #[42]):ByteArray)=bs [42]:=rfl
    refine ag rfl ?_
    rw[a7,b4,bL,bL]
    refine⟨sz _ _ (by simp;omega),sz _ _ (by simp;omega),sz _ _ (by simp;omega),?_⟩
    have h:Sat σ w (b7++(b8++([(b2,cel (N10.C {a0:=20,a1:=bs g}).toList af)]++(bC b q n c b5::L)))):=h.re
    refine o8 (x:=tkN (.em 1 g)) (u:= {a0:=24,q7:=kE b2,n7:=1,c7:=1}) c9 c8 (yb (h:= {kind:=24})) (by omega) (by show _+0<_;omega) h λw U E V I H O b3 W a6 h=>⟨_,_,_,rfl,?_⟩
    exact next (.em 1 g) U E V I H O b5 w _ ⟨c4,.inl rfl⟩ d0 rfl b3 W a6 h
   ·have a7:((hP #[32,42,42]):ByteArray)=bs [32,42,42]:=rfl
    have b4:((hP #[42,42]):ByteArray)=bs [42,42]:=rfl
    refine ae rfl (ag rfl ?_)
    rw[a7,b4,bL,bL]
    refine⟨sz _ _ (by simp;omega),sz _ _ (by simp;omega),sz _ _ (by simp;omega),?_⟩
    have h:Sat σ w (b7++(b8++([(b2,cel (N10.C {a0:=20,a1:=bs g}).toList af)]++(bC b q n c b5::L)))):=h.re
    refine o8 (x:=tkN (.em 2 g)) (u:= {a0:=25,q7:=kE b2,n7:=1,c7:=1}) c9 c8 (yb (h:= {kind:=25})) (by omega) (by show _+0<_;omega) h λw U E V I H O b3 W a6 h=>⟨_,_,_,rfl,?_⟩
    exact next (.em 2 g) U E V I H O b5 w _ ⟨c4,.inr rfl⟩ d0 rfl b3 W a6 h
   ·have a7:((hP #[32,96]):ByteArray)=bs [32,96]:=rfl
    have b4:((hP #[96]):ByteArray)=bs [96]:=rfl
    refine ae rfl (ae rfl (ag rfl ?_))
    rw[a7,b4,bL,bL]
    refine⟨sz _ _ (by simp;omega),sz _ _ (by simp;omega),sz _ _ (by simp;omega),?_⟩
    have h:Sat σ w (b7++(b8++([]++(bC b q n c b5::L)))):=h.less [(b2,cel (N10.C {a0:=20,a1:=bs g}).toList af)]
    refine o8 (x:=tkN (.cd g)) (u:= {a0:=23,a1:=bs g}) c9 c8 (NodeDt.leaf (h:= {kind:=23,text:=g})) (by omega) (by show _+g.length<_;omega) h λw U E V I H O b3 W a6 h=>⟨_,_,_,rfl,?_⟩
    exact next (.cd g) U E V I H O b5 w _ c4 d0 rfl b3 W a6 h
   ·refine ae rfl (ae rfl (ae rfl (ag rfl ?_)))
    refine nV (d1.up λw h=>h.less (b7++(b8++ [(b2,cel (N10.C {a0:=20,a1:=bs g}).toList af)]))) h λw z c5 hz g4 h=>⟨_,rfl,?_⟩
    have h7:=hz.2.2
    have a7:((hP #[32,91]):ByteArray)=bs [32,91]:=rfl
    have b4:((hP #[93,40]):ByteArray)=bs [93,40]:=rfl
    have e0:((hP #[41]):ByteArray)=bs [41]:=rfl
    have e8:((hP #[47]):ByteArray)=bs [47]:=rfl
    rw[a7,b4,e0,e8,bL,bL,bL,bL,bL]
    refine⟨sz _ _ (by simp;omega),sz _ _ (by simp;omega),sz _ _ (by simp;omega),sz _ _ (by simp;omega),sz _ _ (by simp;omega),sz _ _ (by simp;omega),?_⟩
    have h:Sat σ w (b7++(b8++([(b2,cel (N10.C {a0:=20,a1:=bs g}).toList af)]++(bC b q n c c5::L)))):=h.re
    refine o8 (x:=tkN (.lk g (47::z))) (u:= {a0:=27,a1:=bs (47::z),q7:=kE b2,n7:=1,c7:=1}) c9 c8 (yb (h:= {kind:=27,text:=47::z})) (by omega) (by show _+(z.length+1)<_;omega) h λw U E V I H O b3 W a6 h=>⟨_,_,_,rfl,?_⟩
    refine next (.lk g (47::z)) U E V I H O c5 w _ ⟨c4,z,hz,rfl⟩ (d0.trans g4) ?_ b3 W a6 h
    congr 1
    simp[Tk.B]
   ·have a7:((hP #[32,92,42]):ByteArray)=bs [32,92,42]:=rfl
    have b4:((hP #[42]):ByteArray)=bs [42]:=rfl
    refine ae rfl (ae rfl (ae rfl (ae rfl (ag rfl ?_))))
    rw[a7,b4,bL,bL]
    refine⟨sz _ _ (by simp;omega),sz _ _ (by simp;omega),sz _ _ (by simp;omega),?_⟩
    have h:Sat σ w (b7++(b8++([]++(bC b q n c b5::L)))):=h.less [(b2,cel (N10.C {a0:=20,a1:=bs g}).toList af)]
    refine o8 (x:=tkN (.es g)) (u:= {a0:=20,a1:=bs (42::g)}) c9 c8 (NodeDt.leaf (h:= {kind:=20,text:=42::g})) (by omega) (by show _+(g.length+1)<_;omega) h λw U E V I H O b3 W a6 h=>⟨_,_,_,rfl,?_⟩
    exact next (.es g) U E V I H O b5 w _ c4 d0 rfl b3 W a6 h
   ·have a7:((hP #[32]):ByteArray)=bs [32]:=rfl
    have d3: ∀d:Nat,d<5->(((r:Nat):Int)==((d:Nat):Int))=false:=λd hd=>by rw[uR,decide_eq_false_iff_not];omega
    refine ae (d3 0 (by omega)) (ae (d3 1 (by omega)) (ae (d3 2 (by omega)) (ae (d3 3 (by omega)) (ae (d3 4 (by omega)) ?_))))
    rw[a7,bL]
    refine⟨sz _ _ (by simp;omega),sz _ _ (by simp;omega),by decide,by decide,aa ?_⟩
    refine Sat.ldA10 h {a0:=20,a1:=bs g} (b:=b2) (pre:= []) (suf:= []) (e:=af) (by simp) rfl ?_
    have h:Sat σ w (b7++(b8++([]++(bC b q n c b5::L)))):=h.less [(b2,cel (N10.C {a0:=20,a1:=bs g}).toList af)]
    refine o8 (x:=tkN (.wd g)) (u:= {a0:=20,a1:=bs g}) c9 c8 (NodeDt.leaf (h:= {kind:=20,text:=g})) (by omega) (by show _+g.length<_;omega) h λw U E V I H O b3 W a6 h=>⟨_,_,_,rfl,?_⟩
    exact next (.wd g) U E V I H O b5 w _ c4 d0 rfl b3 W a6 h
 have f5:cw (x,[])=x:=by simp[cw,d7,qh,tkB,Tk.B]
 have f2:=f6 m [] (kE b1) 1 1 _ _ _ g3 w (by simp) (λt ht=>by cases ht) (a7.trans b4) (NodeDt.one (x:=plN x) NodeDt.leaf) (slN (v:= {a0:=20,a1:=bs x})) (by simp) h.re
 rw[f5] at f2
 exact f2
namespace eO
def k1 (R:EP)(Xa:BA->BA->OA->Nat->Nat->Int->Int->WP)(V g y:BA)(H:OA)(E I:Nat)(U O:Int)(w:World):Prop:=
 ((g.size+y.size:Nat):Int)<=i64.max/\
 Xa V (g++y) H E I U (i64.wrap (O+1)) w
def bl1 (R:EP)(Xa:BA->BA->OA->Nat->Nat->Int->Int->WP)(E y:BA)(I:OA)(H V:Nat)(U g:Int)(w:World):Prop:=
 br (decide (g<U))
 (0<=g/\g<(H:Int)/\
 aA I λa1=>
 ∃O,w.cell? (a1.add (Int.toNat g*1))=some (hX O)/\
 br (decide (g>0))
 (((y.size+E.size:Nat):Int)<=i64.max/\
 k1 R Xa E (y++E) O I H V U g w)
 (k1 R Xa E y O I H V U g w))
 (R (hQ (hX y)) w)
def l1 (R:EP)(U I:BA)(y:OA)(g E:Nat)(O H:Int)(w:World):Prop:=
 ∀X:BA->BA->OA->Nat->Nat->Int->Int->WP,(∀U I y g E O H w,bl1 R X U I y g E O H w->X U I y g E O H w)->X U I y g E O H w
end eO
def eO (R:EP)(E:OA)(g y:Nat)(H:BA)(w:World):Prop:=
 eO.l1 R H (hP #[]) E g y (g:Int) 0 w
theorem eO.sound {R x0q x0n x0c x1 w}(h:eO R x0q x0n x0c x1 w):callE P iZ #[hT x0q x0n x0c,hX x1] R w:=
 aH [(43,.lp [21,101,163,187,207] (eO.bl1 R) λXa=> [(115,.mk [21,101,141,163,187,207] (eO.k1 R Xa))])] Tryz.func26 Tryz.call26 h

theorem z9 (sep:List UInt8)(ls:List (List UInt8))(l:List UInt8):bF sep (ls++ [l])=if ls= [] then l else bF sep ls++(sep++l):=by
 cases ls with
 |nil=>simp[bF]
 |cons t ts=>simp[bF]
theorem wt {q:Option Addr}{n c:Nat}{ls:List (List UInt8)}{sep:List UInt8}(U:SArg σ L q n ls)(h:Sat σ w L)(b6:n<1000000)(hb:(bF sep ls).length<1000000000)(hs:sep.length<1000000)(b4: ∀w,Sat σ w L->R (hQ (hX (bs (bF sep ls)))) w):callE P iZ #[hT q n c,hX (bs sep)] R w:=by
 refine eO.sound ?_
 have E:i64.max=9223372036854775807:=rfl
 have b5:=U.1
 intro X V
 have I: ∀i,i<=ls.length->(bF sep (ls.take i)).length<=(bF sep ls).length:=by
  intro i hi
  cases ls with
  |nil=>simp[bF]
  |cons t ts=>
   cases i with
   |zero=>simp[bF]
   |succ i=>
    simp only[lG5,bF,lA0]
    have:(List.take i ts).flatMap (λu=>sep++u)++(List.drop i ts).flatMap (λu=>sep++u)=ts.flatMap (λu=>sep++u):=by
     rw[<-lH5,lX1]
    have:=congrArg List.length this
    rw[lA0] at this;omega
 have W: ∀k i,i+k=n->X (bs sep) (bs (bF sep (ls.take i))) q n c (n:Nat) (i:Int) w:=by
  intro k
  induction k with
  |zero=>
   intro i hi
   refine V _ _ _ _ _ _ _ _ (ae (by simp;omega) ?_)
   rw[lB2 (by omega)];exact b4 w h
  |succ k b3=>
   intro i hi
   have O:i<ls.length:=by omega
   obtain⟨a,rfl,a7⟩:=U.2 i O
   have y:bF sep (ls.take (i+1))=if i=0 then ls[i] else bF sep (ls.take i)++(sep++ls[i]):=by
    rw[lH1 O,z9]
    by_cases g:i=0
    ·subst g;simp
    ·rw[if_neg (by intro a6;have:=congrArg List.length a6;rw[lF1,lK1] at this;omega),if_neg g]
   have H:=I (i+1) (by omega)
   have next:=b3 (i+1) (by omega)
   refine V _ _ _ _ _ _ _ _ (ag (by simp;omega) ⟨by omega,by omega,aa ?_⟩)
   rw[lC0,lC1]
   refine⟨_,a7 w h,?_⟩
   by_cases g:i=0
   ·subst g
    rw[if_pos rfl] at y
    rw[y] at H next
    refine ae rfl ⟨?_,?_⟩
    ·rw[E,aJ,aJ]
     show ((([]:List UInt8).length+ls[0].length:Nat):Int)<=_
     simp only[lK1];omega
    ·rw[bL,aN (by omega)]
     simpa[bF] using next
   ·rw[if_neg g] at y
    rw[y] at H next
    simp only[lA0] at H
    refine ag (by simp;omega) ⟨?_,?_⟩
    ·rw[E,aJ,aJ]
     have b7:=I i (by omega)
     omega
    ·refine⟨?_,?_⟩
     ·rw[E,bL,aJ,aJ,lA0];omega
     ·rw[bL,bL,aN (by omega),lD0]
      exact next
 exact W n 0 (by omega)

theorem E6 (ls:List (List UInt8))(s:List UInt8):sv (ls++ [s])=sv ls++ [hX (bs s)]:=by simp[sv]

abbrev SlS (q:OA)(c:Nat)(ls:List (List UInt8))(M:List ai):Prop:=Sl 1 aq q ls.length c (sv ls) M
theorem SlS.nil:SlS none 0 [] []:=Sl.nil 1 aq
theorem Sat.appS {q:OA}{c:Nat}{ls:List (List UInt8)}{M:List ai}(b3:SlS q c ls M)(h:Sat σ w (M++L))(s:List UInt8)(b5:ls.length<1000000){K:OA->Nat->Nat->World->Prop}(b4: ∀g y W E,SlS g y (ls++ [s]) E->Sat σ W (E++L)->K g (ls++ [s]).length y W):
 ∃(O:OA),∃(I:Nat),∃(H:Nat),∃V,(Instr.buildSlice al 1 #[(0,hX (bs s))]).run P w= .ok (hT O I H) V/\
  ∃(g:OA),∃(a6:Nat),∃(y:Nat),∃U,(Builtin.append_ #[al,al] al #[hT q ls.length c,hT O I H]).run P V= .ok (hT g a6 y) U/\K g a6 y U:=by
 refine Sat.app1 rowStr b3 h (v:= hX (bs s)) rfl (by simp[Value.cells,Value.oneCell']) (DK s) (by omega) (by omega) (by decide) λg y w E a7 h=>?_
 have e:(ls++ [s]).length=ls.length+1:=by simp
 rw[<-e]
 refine b4 g y w E ?_ h
 show Sl 1 aq g (ls++ [s]).length y (sv (ls++ [s])) E
 rw[E6,e]
 exact a7
theorem Sat.buildS (h:Sat σ w L)(s:List UInt8){K:OA->Nat->Nat->World->Prop}(H: ∀q c g M,SlS q c [s] M->Sat σ g (M++L)->K q 1 c g):
 ∃(q:OA),∃(n:Nat),∃(c:Nat),∃g,(Instr.buildSlice al 1 #[(0,hX (bs s))]).run P w= .ok (hT q n c) g/\K q n c g:=by
 have E:=run_buildSlice (P:=P) w al aq 1 #[(0,hX (bs s))] #[hX (bs s)] rowStr.i rowStr.z rowStr.ht rowStr.hi rowStr.hz (by rw[rowStr.hs];decide) (by rw[rowStr.hs];decide) (by rw[rowStr.hs];exact DK s)
 refine⟨_,_,_,_,E,?_⟩
 have y:=h.alc [hX (bs s)] aq
 have I:YtendaipfdnhnaaaGreatDoor.alc w [hX (bs s)].toArray aq=w.alloc (.cells #[hX (bs s)] aq):=rfl
 rw[I] at y
 exact H _ _ _ [(_,cel [hX (bs s)] aq)] ⟨rfl,lZ0 _,.inr ⟨_,[],rfl,rfl,rfl⟩⟩ y
theorem Sat.appL {q V:OA}{c O:Nat}{ls g:List (List UInt8)}{M a6:List ai}(b9:SlS q c ls M)(b4:SlS V O g a6)(h:Sat σ w (M++(a6++L)))(b5:g≠ [])(d0:ls.length+g.length<1000000){K:OA->Nat->Nat->World->Prop}(b7: ∀y E H I,SlS y E (ls++g) I->Sat σ H (I++L)->K y (ls++g).length E H):
 ∃(y:OA),∃(W:Nat),∃(E:Nat),∃a7,(Builtin.append_ #[al,al] al #[hT q ls.length c,hT V g.length O]).run P w= .ok (hT y W E) a7/\K y W E a7:=by
 have c3:0<g.length:=lY0.2 b5
 obtain⟨c5,c8,b8⟩:=b4
 rcases b8 with ⟨_,c4,_⟩|⟨b,sp,rfl,rfl,c9⟩
 ·omega
 have hs:Src P 1 al (hT (kE b) g.length O) g.length (sv g) w:=by
  refine Src.ofSlice w rowStr.ht _ _ O _ (by simp) (λj u U=>?_) λu U=>?_
  ·rw[show (Addr.add (hZ b 0) j)=⟨b,j,none⟩ from Addr.add_zero_lit b j]
   refine h.ld (lB0 _ (.head _)) ?_
   rw[lM0 (lL0.1 U).1]
   exact U
  ·obtain⟨s,_,rfl⟩:=lS1.1 U
   rfl
 obtain⟨y,E,H,I,hr,b3,b6,_⟩:=Sat.app rowStr (ty:=al) b9 h hs (.inl c3) (by omega) (by omega)
 refine⟨y,_,E,H,hr,?_⟩
 have e:(ls++g).length=ls.length+g.length:=by simp
 rw[<-e]
 refine b7 y E H I ?_ (b6.sub (List.Sublist.append_left (lH3 _ _) _))
 show Sl 1 aq y (ls++g).length E (sv (ls++g)) I
 have c1:sv (ls++g)=sv ls++sv g:=by simp[sv]
 rw[c1,e]
 exact b3
theorem SlS.get {q:OA}{c:Nat}{ls:List (List UInt8)}{M:List ai}(g:SlS q c ls M){i:Nat}(hi:i<ls.length): ∃a,q=some a/\ ∀ {L:List ai} {w:World},Sat σ w L->(∀x∈M,x∈L)->w.cell? (a.add i)=some (hX (bs ls[i])):=by
 obtain⟨E,H,y⟩:=g
 rcases y with ⟨_,O,_⟩|⟨b,sp,rfl,rfl,I⟩
 ·omega
 refine⟨_,rfl,λ{L w} h hM=>?_⟩
 rw[show (Addr.add (hZ b 0) i)=⟨b,i,none⟩ from Addr.add_zero_lit b i]
 exact h.ld (hM _ (.head _)) (by rw[lM0 (by rw[ka];exact hi),tG hi])
theorem Ew {n:Nat}(H:n<1000000)(E:R (hQ (hX (bs (hN n 32)))) w):callE P nN #[hY (n:Nat)] R w:=by
 refine nQ.sound ?_
 have e:((hP #[32]):ByteArray)=bs [32]:=rfl
 unfold nQ
 rw[e]
 refine uu (s:= [32]) H (by simp) ⟨_,rfl,?_⟩
 have g: ∀n,(hN n [(32:UInt8)]).flatten=hN n 32:=by
  intro n
  induction n with
  |zero=>rfl
  |succ n y=>rw[lZ1,lK3,y];rfl
 rw[g]
 exact E
theorem Am {n:Nat}(a6:n<100)(g:R (hQ (hX (bs (C3 n)))) w):callE P fT #[hY (n:Nat)] R w:=by
 have O:i64.max=9223372036854775807:=rfl
 let y:List UInt8:= [48,49,50,51,52,53,54,55,56,57]
 have U: ∀k,k<10->sub y k (k+1)= [UInt8.ofNat (48+k)]:=by
  intro k I
  have:(List.range 10).all (λk=>sub y k (k+1)== [UInt8.ofNat (48+k)])=true:=by kernel_rfl
  exact eq_of_beq (lD2.1 this k (lV2.2 I))
 have E: ∀ {R:Ending->World->Prop} {w:World} (k:Nat),k<10->R (hQ (hX (bs [UInt8.ofNat (48+k)]))) w->callE P fT #[hY (k:Nat)] R w:=by
  intro R w k I g
  refine fV.sound ?_
  have e:((hP #[48,49,50,51,52,53,54,55,56,57]):ByteArray)=bs y:=rfl
  unfold fV
  rw[e,aN (by omega)]
  refine ag (by simp;omega) ⟨by omega,by omega,by show ((k+1:Nat):Int)<=10;omega,?_⟩
  rw[lC0,lC0,cm]
  show R (hQ (hX (bs (sub y k (k+1))))) w
  rw[U k I]
  exact g
 by_cases H:n<10
 ·unfold C3 at g
  rw[if_pos H] at g
  exact E n H g
 ·unfold C3 at g
  rw[if_neg H] at g
  refine fV.sound ?_
  unfold fV
  have V:i64.wrap (Int.tdiv ((n:Nat):Int) 10)=((n/10:Nat):Int):=by
   rw[show Int.tdiv ((n:Nat):Int) 10=((n/10:Nat):Int) from rfl]
   exact i64_in _ (by omega)
  have W:Int.tmod ((n:Nat):Int) 10=((n%10:Nat):Int):=rfl
  rw[V,W]
  refine ae (by simp;omega) ⟨by omega,?_⟩
  refine E (n/10) (by omega) ⟨_,rfl,by omega,?_⟩
  refine E (n%10) (by omega) ⟨_,rfl,?_⟩
  rw[bL]
  exact⟨by rw[aJ,aJ,O];simp,g⟩
theorem yj {q:OA}{c:Nat}{pad:List UInt8}{ls:List (List UInt8)}(c3:SArg σ L q ls.length ls)(c8:pad.length<=100)(b3: ∀l∈ls,l.length<=100000)(c9:ls.length<100000)(h:Sat σ w L)(b6: ∀w y E g,SlS y E (ls.map λs=>if s= [] then [] else pad++s) g->Sat σ w (g++L)->R (hQ (hT y ls.length E)) w):callE P kr #[hX (bs pad),hT q ls.length c] R w:=by
 have a6:i64.max=9223372036854775807:=rfl
 refine dA.sound ?_
 intro X U
 have a7: ∀k i y E g w,i+k=ls.length->SlS y E ((ls.take i).map λs=>if s= [] then [] else pad++s) g->Sat σ w (g++L)->X (bs pad) y ((ls.take i).map λs=>if s= [] then [] else pad++s).length E q ls.length c (ls.length:Nat) (i:Nat) w:=by
  intro k
  induction k with
  |zero=>
   intro i y E g w W H h
   obtain rfl:i=ls.length:=W
   refine U _ _ _ _ _ _ _ _ _ _ (ae (by simp) ?_)
   rw[lW2] at H⊢
   rw[lS0]
   exact b6 w y E g H h
  |succ k b9=>
   intro i y E g w W H h
   have I:i<ls.length:=by omega
   obtain⟨a,rfl,b5⟩:=c3.2 i I
   refine U _ _ _ _ _ _ _ _ _ _ (ag (by simp;omega) ⟨by omega,by omega,aa ?_⟩)
   rw[lC0,lC1]
   refine⟨_,b5 w (h.less g),?_⟩
   have c5:=b3 ls[i] (lP1 I)
   have c4:(hP #[]).toList= []:=cZ []
   rw[cZ,c4]
   have V:(ls.take (i+1)).map (λs=>if s= [] then [] else pad++s)=((ls.take i).map λs=>if s= [] then [] else pad++s)++ [if ls[i]= [] then [] else pad++ls[i]]:=by
    rw[lH1 I,lV0];rfl
   have b4:((ls.take i).map λs=>if s= [] then [] else pad++s).length<1000000:=by rw[lS0,lF1];omega
   have next: ∀z,z=(if ls[i]= [] then [] else pad++ls[i])->dA.k1 R X (bs pad) y ((ls.take i).map λs=>if s= [] then [] else pad++s).length E (bs z) (some a) ls.length c (ls.length:Nat) (i:Nat) w:=by
    intro z hz
    refine Sat.appS H h z b4 λb7 c1 w b8 O h=>?_
    rw[hz,<-V] at O
    rw[hz,<-V,aN (by omega)]
    exact b9 (i+1) b7 c1 b8 w (by omega) O h
   by_cases hz:ls[i]= []
   ·rw[hz]
    refine ae rfl ?_
    exact next [] (by rw[if_pos hz])
   ·refine ag (by simp[hz]) ⟨by rw[aJ,aJ,a6];omega,?_⟩
    rw[bL]
    exact next _ (by rw[if_neg hz])
 exact a7 ls.length 0 none 0 [] w (by omega) SlS.nil h
theorem tQ: ∀ {ls:List (List UInt8)},ls≠ []->bF [10] ls++ [10]=dK ls
 | [],h=>absurd rfl h
 | [x],_=>by simp[bF,dK]
 |x::y::r,_=>by
  have E:=tQ (ls:=y::r) (by simp)
  have e:bF [10] (x::y::r)=x++10::bF [10] (y::r):=by simp[bF]
  have g:dK (x::y::r)=(x++ [10])++dK (y::r):=by simp[dK]
  rw[e,g,<-E];simp
theorem D9 {b:Nat}{q:OA}{n c:Nat}{vs:List UInt8}{s:BS}(U:Rd σ L q n vs)(h:Sat σ w (bC b q n c s::L))(d3: ∀w (ls:List (Nat × List UInt8)) (s':BS) (g:OA) (E:Nat) (M:List ai),ls≠ []->ls.length<=3->(∀x∈ls,x.1<=2/\Wa x.2)->s.same s'->SlS g E (ls.map qZ) M->Sat σ w (M++(bC b q n c s'::L))->R (hQ (.tuple #[hT g (ls.map qZ).length E,hX (bs (dK (ls.map qZ)))])) w):
 callE P iE #[kT (kE b)] R w:=by
 have b3:i64.max=9223372036854775807:=rfl
 refine dk.sound ?_
 refine nV U h λw x e7 H c9 h=>⟨_,rfl,?_⟩
 refine h.buildS x λd1 e0 w a7 c3 h=>?_
 have h:Sat σ w (bC b q n c e7::(a7++L)):=h.re
 refine eQ (k:=3) (U.up λw h=>h.less a7) (by omega) (by omega) h λw m d4 f3 f0 h=>⟨_,rfl,?_⟩
 intro X b6
 have c5: ∀k (ls:List (Nat × List UInt8)) (g:OA) (E:Nat) (M:List ai) (s':BS) (w:World),ls.length+k=m+1->ls≠ []->(∀x∈ls,x.1<=2/\Wa x.2)->s.same s'->SlS g E (ls.map qZ) M->Sat σ w (M++(bC b q n c s'::L))->X (kE b) g (ls.map qZ).length E (m:Nat) ((ls.length - 1:Nat):Int) w:=by
  intro k
  induction k with
  |zero=>
   intro ls g E M s' w e6 O I a6 V h
   refine b6 _ _ _ _ _ _ _ (ae (by simp;omega) ?_)
   have c4:((hP #[10]):ByteArray)=bs [10]:=rfl
   rw[c4]
   have hr:=xP ls λx H=>⟨(I x H).1,(I x H).2.wd⟩
   have b9:=tQ (ls:=ls.map qZ) (by simpa using O)
   have b4:=congrArg List.length b9
   rw[lA0] at b4
   simp only[lE0] at b4
   refine wt (L:=M++(bC b q n c s'::L)) (SArg.ofSl V λx H=>lE1 _ H) h (by simp;omega) (by omega) (by simp) λw h=>⟨_,rfl,?_⟩
   rw[bL,b9]
   refine⟨by rw[aJ,aJ,b3];simp;omega,?_⟩
   exact d3 w ls s' g E M O (by omega) I a6 V h
  |succ k e8=>
   intro ls g E M s' w e6 O I a6 V h
   have f4:0<ls.length:=lY0.2 O
   refine b6 _ _ _ _ _ _ _ (ag (by simp;omega) ?_)
   have h:Sat σ w (bC b q n c s'::(M++L)):=h.re
   refine eQ (k:=3) (U.up λw h=>h.less M) (by omega) (by omega) h λw r f5 hr d5 h=>⟨_,rfl,?_⟩
   refine Ew (by omega) ⟨_,rfl,?_⟩
   refine nV (U.up λw h=>h.less M) h λw W b7 b8 f1 h=>⟨_,rfl,?_⟩
   have f2:=b8.2.2
   refine⟨by rw[aJ,aJ,b3];simp;omega,?_⟩
   rw[bL]
   have h:Sat σ w (M++(bC b q n c b7::L)):=h.re
   refine Sat.appS V h _ (by simp;omega) λd2 e9 w e5 b5 h=>?_
   have em:ls.map qZ++ [hN r 32++W]=(ls++ [(r,W)]).map qZ:=by simp[qZ]
   rw[em] at b5⊢
   have c8:i64.wrap (((ls.length - 1:Nat):Int)+1)=(((ls++ [(r,W)]).length - 1:Nat):Int):=by
    rw[aN (by omega)]
    congr 1
    simp;omega
   rw[c8]
   refine e8 (ls++ [(r,W)]) d2 e9 e5 b7 w (by simp;omega) (by simp) (λz hz=>?_) (a6.trans (d5.trans f1)) b5 h
   rcases lO0.1 hz with hz|hz
   ·exact I z hz
   ·obtain rfl:=lQ0.1 hz
    exact⟨by omega,b8⟩
 have d0:=c5 m [(0,x)] d1 e0 a7 d4 w (by simp;omega) (by simp) (λz hz=>by obtain rfl:=lQ0.1 hz;exact⟨by omega,H⟩) (c9.trans f0) c3 h.re
 exact d0

theorem rW: ∀(ls:List LT) (x:LT),ls≠ []->fh (ls++ [x])=fh ls++ .nl::d7 x
 | [],x,h=>absurd rfl h
 | [y],x,_=>rfl
 |y::z::r,x,_=>by
  have g:=rW (z::r) x (by simp)
  have e:fh ((y::z::r)++ [x])=d7 y++ .nl::fh ((z::r)++ [x]):=rfl
  rw[e,g,fh];simp
def rT (ls:List LT):List ND:=if ls= [] then [] else j4 (inT (fh ls)) (tkN .nl)
theorem Bn (ls:List LT)(x:LT):cat (rT ls) (inT (d7 x))=inT (fh (ls++ [x])):=by
 unfold rT
 by_cases h:ls= []
 ·subst h
  rw[if_pos rfl]
  exact DW _
 ·rw[if_neg h,rW ls x h]
  unfold inT
  rw[Cz,lV0,lM]
  rfl
theorem AZ {ls:List LT}(h: ∀x∈ls,lnA x)(E:ls.length<=3):oa (inT (fh ls))<=2200:=by
 have y:=xA (fh ls)
 rw[pg] at y
 have H:=qg ls λx g=>⟨(h x g).ok.1,(h x g).2⟩
 omega
theorem pF {b:Nat}{q:OA}{n c:Nat}{vs:List UInt8}{s:BS}(g2:Rd σ L q n vs)(h:Sat σ w (bC b q n c s::L))(j0: ∀w (ls:List LT) (s':BS) (b5:OA) (a7:Nat) (O:List ai) (H:OA) (g E:Nat) (us:List Value) (RM KM:List ai),lsA ls->s.same s'->SlS b5 a7 (ls.map cw) O->NDs (inT (fh ls)) us KM->Sl 10 af H g E us RM->g<=30->Sat σ w (O++(RM++(KM++(bC b q n c s'::L))))->R (hQ (.tuple #[hT b5 (ls.map cw).length a7,(({kind:=6}:NH).nd none 0 H g E).V])) w):
 callE P dD #[kT (kE b)] R w:=by
 have m5:i64.max=9223372036854775807:=rfl
 refine bX.sound ?_
 refine Sat.bx h λb1 w h=>?_
 refine Sat.bx h λI w h=>?_
 have h:Sat σ w ((I,cel (N10.C {}).toList af)::(b1,cel (N10.C {}).toList af)::bC b q n c s::L):=h
 refine h.st10 0 {} {a0:=6} λw h=>?_
 have h:Sat σ w ((I,cel (N10.C {a0:=6}).toList af)::(b1,cel (N10.C {}).toList af)::bC b q n c s::L):=h
 have h:Sat σ w (bC b q n c s::((I,cel (N10.C {a0:=6}).toList af)::(b1,cel (N10.C {}).toList af)::L)):=h.re
 refine eQ (k:=3) (g2.up λw h=>h.less [(I,cel (N10.C {a0:=6}).toList af),(b1,cel (N10.C {}).toList af)]) (by omega) (by omega) h λw m g5 g7 i2 h=>⟨_,rfl,?_⟩
 have m1:i64.wrap (1+((m:Nat):Int))=((m+1:Nat):Int):=by
  rw[i64_in _ (by omega)];omega
 rw[m1]
 intro X g4
 have h5: ∀k (ls:List LT) (b5:OA) (a7:Nat) (O:List ai) (H:OA) (g E:Nat) (us:List Value) (RM KM:List ai) (s':BS) (w:World),ls.length+k=m+1->(∀x∈ls,lnA x)->s.same s'->SlS b5 a7 (ls.map cw) O->NDs (inT (fh ls)) us KM->Sl 10 af H g E us RM->g<=10*ls.length->
  Sat σ w ((I,cel (({kind:=6}:NH).nd none 0 H g E).C.toList af)::(b1,cel (N10.C {}).toList af)::(O++(RM++(KM++(bC b q n c s'::L)))))->X (kE b) b1 I b5 (ls.map cw).length a7 ((m+1:Nat):Int) (ls.length:Nat) w:=by
  intro k
  induction k with
  |zero=>
   intro ls b5 a7 O H g E us RM KM s' w g6 d3 f2 f0 W b4 c9 h
   refine g4 _ _ _ _ _ _ _ _ _ (ae (by simp;omega) ?_)
   refine h.tk λw h=>?_
   refine h.ldB10 _ (.head _) ?_
   refine h.st10 1 {} (({kind:=6}:NH).nd none 0 H g E) λw h=>?_
   have h:Sat σ w ((I,cel (({kind:=6}:NH).nd none 0 H g E).C.toList af)::(b1,cel (({kind:=6}:NH).nd none 0 H g E).C.toList af)::(O++(RM++(KM++(bC b q n c s'::L))))):=h
   refine h.ldB10 _ (.tail _ (.head _)) ?_
   refine j0 w ls s' b5 a7 O H g E us RM KM ⟨?_,by omega,d3⟩ f2 f0 W b4 (by omega) (h.less [(I,cel (({kind:=6}:NH).nd none 0 H g E).C.toList af),(b1,cel (({kind:=6}:NH).nd none 0 H g E).C.toList af)])
   rintro rfl
   simp at g6
  |succ k i1=>
   intro ls b5 a7 O H g E us RM KM s' w g6 d3 f2 f0 W b4 c9 h
   have h7:=AZ d3 (by omega)
   refine g4 _ _ _ _ _ _ _ _ _ (ag (by simp;omega) ?_)
   have h:Sat σ w (bC b q n c s'::((I,cel (({kind:=6}:NH).nd none 0 H g E).C.toList af)::(b1,cel (N10.C {}).toList af)::(O++(RM++(KM++L))))):=h.re
   refine vf (g2.up λw h=>h.less ((I,cel (({kind:=6}:NH).nd none 0 H g E).C.toList af)::(b1,cel (N10.C {}).toList af)::(O++(RM++KM)))) h λw x a6 lq ln lc b7 c5 d5 f3 i0 f5 g0 n0 h=>⟨_,_,_,_,rfl,?_⟩
   have rest: ∀(H:OA) (g E:Nat) (us:List Value) (RM KM:List ai) (w:World),NDs (rT ls) us KM->Sl 10 af H g E us RM->g<=10*ls.length+1->
    Sat σ w ((I,cel (({kind:=6}:NH).nd none 0 H g E).C.toList af)::(b1,cel (N10.C {}).toList af)::(O++(RM++(KM++(c5++(d5++(bC b q n c a6::L)))))))->bX.k1 R X (kE b) b1 I b5 (ls.map cw).length a7 (bs (cw x)) lq ln lc ((m+1:Nat):Int) (ls.length:Nat) w:=by
    intro H g E us RM KM w W b4 c9 h
    have n1:oa (rT ls)<=2200:=by
     unfold rT
     split
     ·exact lC2 _
     ·rw[uE];exact h7
    have m9:oa (inT (d7 x))<=710:=by
     have j1:=xA (d7 x)
     have g3:(tkB (d7 x)).length<=710:=jE f3.ok.1 f3.2
     omega
    have m6:=f5.len
    have n3:=g0.1
    have e9:(inT (d7 x)).length=ln:=by omega
    intro Y g1
    have inner: ∀(b9 U:List ND) (v1 d4:List Value) (c8:List ai) (H:OA) (g E:Nat) (us:List Value) (RM KM:List ai) (w:World),U++b9=inT (d7 x)->v1++d4=b7->v1.length=U.length*10->NDs b9 d4 c8->NDs (cat (rT ls) U) us KM->Sl 10 af H g E us RM->g<=10*ls.length+1+U.length->
     Sat σ w ((I,cel (({kind:=6}:NH).nd none 0 H g E).C.toList af)::(b1,cel (N10.C {}).toList af)::(O++(RM++(KM++(c5++(c8++(bC b q n c a6::L)))))))->Y (kE b) b1 I b5 (ls.map cw).length a7 (bs (cw x)) ((m+1:Nat):Int) (ls.length:Nat) lq ln lc (ln:Nat) (U.length:Nat) w:=by
     intro b9
     induction b9 with
     |nil=>
      intro U v1 d4 c8 H g E us RM KM w b8 hv e8 f6 W b4 c9 h
      rw[lG0] at b8
      refine g1 _ _ _ _ _ _ _ _ _ _ _ _ _ _ _ (ae (by rw[b8,e9];simp) ?_)
      have h:Sat σ w (O++((I,cel (({kind:=6}:NH).nd none 0 H g E).C.toList af)::(b1,cel (N10.C {}).toList af)::(RM++(KM++(c5++(c8++(bC b q n c a6::L))))))):=h.re
      refine Sat.appS f0 h _ (by simp;omega) λh9 m2 w l5 f4 h=>?_
      have em:ls.map cw++ [cw x]=(ls++ [x]).map cw:=by simp
      rw[em] at f4⊢
      rw[aN (by omega)]
      have c4:(ls++ [x]).length=ls.length+1:=by simp
      rw[<-c4]
      refine i1 (ls++ [x]) h9 m2 l5 H g E us RM KM a6 w (by simp;omega) (λz hz=>?_) (f2.trans i0) f4 ?_ b4 ?_ ?_
      ·rcases lO0.1 hz with hz|hz
       ·exact d3 z hz
       ·obtain rfl:=lQ0.1 hz
        exact f3
      ·rw[<-Bn,<-b8];exact W
      ·rw[b8,e9] at c9
       rw[c4];omega
      ·exact h.less (c5++c8)
     |cons y b9 h6=>
      intro U v1 d4 c8 H g E us RM KM w b8 hv e8 f6 W b4 c9 h
      have h4:=congrArg List.length b8
      rw[lA0,lF0,e9] at h4
      refine g1 _ _ _ _ _ _ _ _ _ _ _ _ _ _ _ (ag (by simp;omega) ⟨by omega,by omega,?_⟩)
      have h8:=g0
      obtain⟨_,_,⟨rfl,hz,_,_⟩|⟨c1,sp,rfl,rfl,n2⟩⟩:=h8
      ·omega
      refine aa ?_
      simp only[lK0,lC0,lN0]
      cases f6 with
      | @cons yh ks _ qa ca yq yn yc yvs yus YR YK _ a1 a2 a3 a4=>
      have i3:NodeDt (.mk yh ks) (yh.nd qa ca yq yn yc) (YR++YK):=⟨yh,ks,qa,ca,yq,yn,yc,yvs,YR,YK,rfl,rfl,rfl,a1,a2,a3⟩
      rename_i c3
      have g7:(c1,cel (v1++((yh.nd qa ca yq yn yc).C.toList++(yus++sp))) af)∈((I,cel (({kind:=6}:NH).nd none 0 H g E).C.toList af)::(b1,cel (N10.C {}).toList af)::(O++(RM++(KM++([(c1,cel (b7++sp) af)]++(((YR++YK)++c3)++(bC b q n c a6::L))))))):=by
       have e:v1++((yh.nd qa ca yq yn yc).C.toList++(yus++sp))=b7++sp:=by rw[<-hv];simp only[lD0]
       rw[e];simp
      refine Sat.ldA10 h (yh.nd qa ca yq yn yc) (b:=c1) (pre:=v1) (suf:=yus++sp) (e:=af) g7 e8 ?_
      refine Sat.bx h λf1 w h=>?_
      have h:Sat σ w ((f1,cel (N10.C {}).toList af)::(I,cel (({kind:=6}:NH).nd none 0 H g E).C.toList af)::(b1,cel (N10.C {}).toList af)::(O++(RM++(KM++([(c1,cel (b7++sp) af)]++(((YR++YK)++c3)++(bC b q n c a6::L))))))):=h
      refine h.st10 0 {} (yh.nd qa ca yq yn yc) λw h=>?_
      have h:Sat σ w ((f1,cel (yh.nd qa ca yq yn yc).C.toList af)::(I,cel (({kind:=6}:NH).nd none 0 H g E).C.toList af)::(b1,cel (N10.C {}).toList af)::(O++(RM++(KM++([(c1,cel (b7++sp) af)]++(((YR++YK)++c3)++(bC b q n c a6::L))))))):=h
      refine⟨H,g,E,Sat.ld h (.tail _ (.head _)) (i:=7) rfl,?_⟩
      refine h.ldB10 _ (.head _) ?_
      have m4:oa (cat (rT ls) U)+yh.text.length<=3000:=by
       have j1:=uo U (rT ls)
       have g3:=congrArg oa b8
       rw[ja] at g3
       have o0:oa (ND.mk yh ks::b9)=yh.text.length+oa b9:=rfl
       omega
      have h:Sat σ w (RM++(KM++((YR++YK)++((I,cel (({kind:=6}:NH).nd none 0 H g E).C.toList af)::(b1,cel (N10.C {}).toList af)::(O++([(c1,cel (b7++sp) af)]++(c3++(bC b q n c a6::L)))))))):=h.less [(f1,cel (yh.nd qa ca yq yn yc).C.toList af)]
      refine o8 W b4 i3 (by omega) (by show _+yh.text.length<_;omega) h λw e7 e0 e6 e1 d0 d2 h0 e4 e5 h=>⟨_,_,_,rfl,?_⟩
      have h:Sat σ w ((I,cel (({kind:=6}:NH).nd none 0 H g E).C.toList af)::(b1,cel (N10.C {}).toList af)::(O++(d0++(d2++([(c1,cel (b7++sp) af)]++(c3++(bC b q n c a6::L))))))):=h.re
      refine Sat.st h (k:=0) rfl (by show 7<10;decide) trivial rfl λw h=>?_
      rw[aN (by omega)]
      have c4:(U++ [ND.mk yh ks]).length=U.length+1:=by simp
      rw[<-c4]
      refine h6 (U++ [.mk yh ks]) (v1++(yh.nd qa ca yq yn yc).C.toList) yus c3 e7 e0 e6 e1 d0 d2 w (by rw[<-b8];simp) (by rw[<-hv];simp only[lD0]) ?_ a4 ?_ e5 ?_ h
      ·rw[lA0,e8,c4,lP3];rfl
      ·rw[lM];exact e4
      ·rw[c4];omega
    exact inner (inT (d7 x)) [] [] b7 d5 H g E us RM KM w rfl rfl rfl f5 W b4 (by simp;omega) h
   by_cases d1:ls= []
   ·have m3:rT ls= []:=by unfold rT;rw[if_pos d1]
    refine ae (by rw[d1];rfl) (rest H g E us RM KM w ?_ b4 (by omega) h.re)
    rw[m3]
    rw[d1] at W
    exact W
   ·have m8:0<ls.length:=lY0.2 d1
    refine ag (by simp;omega) ?_
    refine⟨H,g,E,Sat.ld h (lB0 _ (lB0 _ (.tail _ (.head _)))) (i:=7) rfl,?_⟩
    have h:Sat σ w (RM++(KM++([]++((I,cel (({kind:=6}:NH).nd none 0 H g E).C.toList af)::(b1,cel (N10.C {}).toList af)::(O++(c5++(d5++(bC b q n c a6::L)))))))):=h.re
    refine o8 (x:=tkN .nl) (u:= {a0:=21}) W b4 (NodeDt.leaf (h:= {kind:=21})) (by omega) (by show _+0<_;omega) h λw e7 e0 e6 e1 d0 d2 h0 e4 e5 h=>⟨_,_,_,rfl,?_⟩
    have h:Sat σ w ((I,cel (({kind:=6}:NH).nd none 0 H g E).C.toList af)::(b1,cel (N10.C {}).toList af)::(O++(d0++(d2++(c5++(d5++(bC b q n c a6::L))))))):=h.re
    refine Sat.st h (k:=0) rfl (by show 7<10;decide) trivial rfl λw h=>?_
    exact rest e7 e0 e6 e1 d0 d2 w (by unfold rT;rw[if_neg d1];exact e4) e5 (by omega) h
 have h:Sat σ w (bC b q n c g5::((I,cel (({kind:=6}:NH).nd none 0 none 0 0).C.toList af)::(b1,cel (N10.C {}).toList af)::L)):=h
 have i8:=h5 (m+1) [] none 0 [] none 0 0 [] [] [] g5 w (by simp) (λz hz=>by cases hz) i2 SlS.nil .nil (Sl.nil 10 af) (by simp) h.re
 exact i8

mutual
def flB (quo:Bool):BN->Prop
 | .setx _ ls=>ls.length=1
 | .code w _=>w= []
 | .quote bs=>flS true bs
 | .list _ _ gap its=>(quo=true->gap=false/\its.all (λit=>it.length==1)=true)/\flJ quo its
 |_=>True
def flS (quo:Bool):List BN->Prop
 | []=>True
 |b::r=>flB quo b/\flS quo r
def flJ (quo:Bool):List (List BN)->Prop
 | []=>True
 |it::r=>(∃ls t,it= .para ls::t)/\flS quo it/\flJ quo r
end
theorem zt {g:Bool}: ∀(l:List BN) (b:BN),flS g l->flB g b->flS g (l++ [b])
 | [],b,_,h=>⟨h,trivial⟩
 |x::l,b,h,hb=>⟨h.1,zt l b h.2 hb⟩
theorem u4 {g:Bool}: ∀(l:List (List BN)) (it:List BN),flJ g l->(∃ls t,it= .para ls::t)->flS g it->flJ g (l++ [it])
 | [],it,_,h1,h2=>⟨h1,h2,trivial⟩
 |x::l,it,h,h1,h2=>⟨h.1,h.2.1,u4 l it h.2.2 h1 h2⟩
def BS.kp (s s':BS):Prop:=s'.flat=s.flat/\s'.deep=s.deep
theorem BS.kp.trans {a b c:BS}(g:a.kp b)(y:b.kp c):a.kp c:=⟨y.1.trans g.1,y.2.trans g.2⟩
theorem BS.same.kp {a b:BS}(h:a.same b):a.kp b:=⟨h.2.1,h.2.2⟩
def BS.dp (s:BS)(d:Nat):Prop:=0<=s.deep/\s.deep+(d:Int)<=100
theorem BS.kp.dp {a b:BS}{d:Nat}(h:a.kp b)(hd:a.dp d):b.dp d:=by unfold BS.dp;rw[h.2];exact hd
abbrev BS.fq (s:BS):Bool:=decide (0<s.deep)
def NdOf (bn:BN)(h:NH)(g:List ND):Prop:=h.s=0/\h.e=0/\ ∀f,1<=f->mj f bn= .mk {h with s:=f,e:=f+(be bn).length - 1} g
structure Made (d:Nat) (odd:Bool) (s:BS) (bn:BN):Prop where
 ab:abB bn
 sm:smB d bn
 kd:kdOK odd bn
 fl:s.flat=true->flB s.fq bn
structure Eg (d most:Nat) (s:BS) (l:List BN):Prop where
 ab:abS l
 ne:l≠ []
 len:l.length<=most
 sm:smS d l
 fl:s.flat=true->flS s.fq l
def xm (d:Nat):Prop:= ∀ {σ:Out} {w:World} {L:List ai} {R:Ending->World->Prop} {b:Nat} {q:OA} {n c:Nat} {vs:List UInt8} {s:BS} (odd:Bool),Rd σ L q n vs->s.dp d->Sat σ w (bC b q n c s::L)->
 (∀w (bn:BN) (s':BS) (U:OA) (E:Nat) (y:List ai) (h:NH) (O:List ND) (I:OA) (g H:Nat) (us:List Value) (RM KM:List ai),Made d odd s bn->s.kp s'->SlS U E (be bn) y->NdOf bn h O->NDs O us KM->Sl 10 af I g H us RM->g<=100->Sat σ w (y++(RM++(KM++(bC b q n c s'::L))))->R (hQ (.tuple #[hT U (be bn).length E,(h.nd none 0 I g H).V])) w)->
 callE P fa #[kT (kE b),hY (d:Nat),hV odd] R w
def yO (d most:Nat):Prop:= ∀ {σ:Out} {w:World} {L:List ai} {R:Ending->World->Prop} {b:Nat} {q:OA} {n c:Nat} {vs:List UInt8} {s:BS},Rd σ L q n vs->s.dp d->Sat σ w (bC b q n c s::L)->
 (∀w (l:List BN) (s':BS) (I:OA) (y:Nat) (g:List ai) (H:OA) (E:Nat) (us:List Value) (RM KM:List ai),Eg d most s l->s.kp s'->SlS I y (aD l).tail g->NDs (mR 1 l) us KM->Sl 10 af H l.length E us RM->Sat σ w (g++(RM++(KM++(bC b q n c s'::L))))->R (hQ (.tuple #[hT I (aD l).tail.length y,hT H l.length E])) w)->
 callE P dV #[kT (kE b),hY (d:Nat),hY (most:Nat)] R w
theorem Ef {d:Nat}(hd:d<=3):NBd d<=323:=by
 rcases (show d=0\/d=1\/d=2\/d=3 by omega) with rfl|rfl|rfl|rfl<;>decide
theorem tO {d:Nat}{bn:BN}(hd:d<=3)(H:abB bn)(hs:smB d bn):(be bn).length<=323/\(∀s∈be bn,s.length<=740)/\be bn≠ []:=by
 obtain⟨g,E⟩:=Ax.1 bn H
 obtain⟨O,I⟩:=qp.1 bn g d hs
 have y:=zq.1 bn g E
 exact⟨by have:=Ef hd;omega,λs hs=>by have:=(y.ch s hs).2;omega,y.ne⟩
theorem sj {d:Nat}{l:List BN}(hd:d<=3)(O:abS l)(hs:smS d l)(E:l≠ [])(I:l.length<=4):(aD l).tail.length<=1300/\(∀s∈(aD l).tail,s.length<=740)/\(aD l).tail≠ []:=by
 obtain⟨g,H⟩:=Ax.2.1 l O
 obtain⟨a6,W⟩:=qp.2.1 l g d hs
 have y:=zq.2.1 l g H E
 have V:=Ef hd
 have U:=lL5 I (show NBd d+1<=324 by omega)
 exact⟨by rw[lD3];omega,λs hs=>by have:=(y.ch s hs).2;omega,y.ne⟩
def AA (l:List BN):List (List UInt8):=if l= [] then [] else (aD l).tail++ [[]]
theorem Dp (l:List BN):(AA l).length=(aD l).length:=by
 unfold AA
 cases l with
 |nil=>rfl
 |cons b r=>
  rw[if_neg (by simp)]
  simp[aD];omega
theorem tJ (l:List BN)(b:BN):AA l++be b=(aD (l++ [b])).tail:=by
 unfold AA
 cases l with
 |nil=>
  show []++be b=be b++ []
  simp
 |cons x r=>
  rw[if_neg (by simp),sk]
  simp[aD]
theorem sP {d most:Nat}(hd:d<=3)(g2:1<=most)(m5:most<=4)(hb:xm d):yO d most:=by
 intro σ w L R b q n c vs s f1 g4 h h2
 have m2:i64.max=9223372036854775807:=rfl
 refine bT.sound ?_
 refine eQ f1 g2 (by omega) h λw m i1 m9 h1 h=>⟨_,rfl,?_⟩
 have i0:i64.wrap (1+((m:Nat):Int))=((m+1:Nat):Int):=by
  rw[i64_in _ (by omega)];omega
 rw[i0]
 intro X e7
 have g1: ∀k (l:List BN) (O:OA) (U:Nat) (g:List ai) (b9:OA) (b7:Nat) (us:List Value) (RM KM:List ai) (s':BS) (w:World),l.length+k=m+1->alt false l->(∀b∈l,abB b)->smS d l->(s.flat=true->flS s.fq l)->s.kp s'->SlS O U (aD l).tail g->NDs (mR 1 l) us KM->Sl 10 af b9 l.length b7 us RM->
  Sat σ w (g++(RM++(KM++(bC b q n c s'::L))))->X (kE b) (d:Nat) O (aD l).tail.length U b9 l.length b7 ((m+1:Nat):Int) (l.length:Nat) w:=by
  intro k
  induction k with
  |zero=>
   intro l O U g b9 b7 us RM KM s' w f2 c8 d0 d1 d3 b8 b3 e4 d4 h
   refine e7 _ _ _ _ _ _ _ _ _ _ _ (ae (by simp;omega) ?_)
   exact h2 w l s' O U g b9 b7 us RM KM ⟨yK l false c8 d0,by rintro rfl;simp at f2,by omega,d1,d3⟩ b8 b3 e4 d4 h
  |succ k i2=>
   intro l O U g b9 b7 us RM KM s' w f2 c8 d0 d1 d3 b8 b3 e4 d4 h
   have f4:=Ax.2.1 l (yK l false c8 d0)
   have m6:(aD l).length<=1300:=by
    obtain⟨m8,_⟩:=qp.2.1 l f4.1 d d1
    have n2:=Ef hd
    have n0:=lL5 (show l.length<=4 by omega) (show NBd d+1<=324 by omega)
    omega
   refine e7 _ _ _ _ _ _ _ _ _ _ _ (ag (by simp;omega) ⟨by decide,?_⟩)
   have k0:((Int.tmod ((l.length:Nat):Int) 2)==1)=Ey l.length:=by
    rw[show Int.tmod ((l.length:Nat):Int) 2=((l.length%2:Nat):Int) from rfl]
    show (((l.length%2:Nat):Int)==((1:Nat):Int))=_
    rw[uR]
    unfold Ey
    by_cases h9:l.length%2=1<;>simp[h9]
   rw[k0]
   have h:Sat σ w (bC b q n c s'::(g++(RM++(KM++L)))):=h.re
   refine hb (Ey l.length) (f1.up λw h=>h.less (g++(RM++KM))) (b8.dp g4) h λw bn a7 h4 i8 b4 a6 h6 k2 E I g0 y H b6 j0 g3 g7 f6 f5 m4 h=>⟨_,_,_,_,_,_,_,_,_,_,_,_,_,_,_,_,_,rfl,?_⟩
   obtain⟨bl1,bl2,bl3⟩:=tO hd b6.ab b6.sm
   refine Sat.bx h λW w h=>?_
   have h:Sat σ w ((W,cel (N10.C {}).toList af)::(b4++(y++(H++(bC b q n c a7::(g++(RM++(KM++L)))))))):=h
   refine h.st10 0 {} (a6.nd none 0 k2 E I) λw h=>?_
   have h:Sat σ w ((W,cel (a6.nd none 0 k2 E I).C.toList af)::(b4++(y++(H++(bC b q n c a7::(g++(RM++(KM++L)))))))):=h
   have rest: ∀(O:OA) (U:Nat) (g:List ai) (w:World),SlS O U (AA l) g->Sat σ w ((W,cel (a6.nd none 0 k2 E I).C.toList af)::(b4++(y++(H++(bC b q n c a7::(g++(RM++(KM++L))))))))->
    bT.k1 R X (kE b) (d:Nat) O (AA l).length U b9 l.length b7 h4 (be bn).length i8 W ((m+1:Nat):Int) (l.length:Nat) w:=by
    intro O U g w b3 h
    have e6:=Dp l
    have l5:i64.wrap (((AA l).length:Int)+1)=(((aD l).length+1:Nat):Int):=by rw[e6,aN (by omega)]
    have h5:i64.wrap (((AA l).length:Int)+((be bn).length:Int))=(((aD l).length+1+(be bn).length - 1:Nat):Int):=by
     rw[e6,i64_in _ (by omega)];omega
    unfold bT.k1
    rw[l5,h5]
    refine Sat.st h (k:=0) rfl (by show 8<10;decide) trivial rfl λw h=>?_
    refine Sat.st h (k:=0) rfl (by show 9<10;decide) trivial rfl λw h=>?_
    have h:Sat σ w ((W,cel (({a6 with s:=(aD l).length+1,e:=(aD l).length+1+(be bn).length - 1}:NH).nd none 0 k2 E I).C.toList af)::(b4++(y++(H++(bC b q n c a7::(g++(RM++(KM++L)))))))):=h
    have f3:NodeDt (mj (1+(aD l).length) bn) (({a6 with s:=(aD l).length+1,e:=(aD l).length+1+(be bn).length - 1}:NH).nd none 0 k2 E I) (y++H):=by
     rw[lR4 1,g7.2.2 _ (by omega)]
     exact⟨_,h6,none,0,k2,E,I,g0,y,H,rfl,rfl,rfl,by omega,f6,f5⟩
    have h:Sat σ w (g++(b4++((W,cel (({a6 with s:=(aD l).length+1,e:=(aD l).length+1+(be bn).length - 1}:NH).nd none 0 k2 E I).C.toList af)::(y++(H++(bC b q n c a7::(RM++(KM++L)))))))):=h.re
    refine Sat.appL b3 g3 h bl3 (by omega) λe5 e3 w c9 c5 h=>?_
    refine h.ldB10 _ (lB0 _ (.head _)) ?_
    have h:Sat σ w (RM++(c9++((W,cel (({a6 with s:=(aD l).length+1,e:=(aD l).length+1+(be bn).length - 1}:NH).nd none 0 k2 E I).C.toList af)::(y++(H++(bC b q n c a7::(KM++L))))))):=h.re
    generalize n1:({a6 with s:=(aD l).length+1,e:=(aD l).length+1+(be bn).length - 1}:NH).nd none 0 k2 E I=u at h f3⊢
    refine Sat.app1 rowND d4 h (v:=u.V) rfl (Bt u) (wR u) (by omega) (by omega) (by decide) λm1 i3 w g6 g5 h=>?_
    have d5:(l++ [bn]).length=l.length+1:=by simp
    rw[tJ,aN (by omega),<-d5]
    rw[tJ] at c5
    refine i2 (l++ [bn]) e5 e3 c9 m1 i3 _ g6 (KM++(y++H)) a7 w (by rw[d5];omega) (zB l false bn c8 (by simpa using b6.kd)) (λz hz=>?_) (yZ l d bn d1 b6.sm) (λf0=>zt l bn (d3 f0) ?_) (b8.trans j0) c5 ?_ (by rw[d5];exact g5) ?_
    ·rcases lO0.1 hz with hz|hz
     ·exact d0 z hz
     ·obtain rfl:=lQ0.1 hz
      exact b6.ab
    ·have:=b6.fl (by rw[b8.1];exact f0)
     unfold BS.fq at this⊢
     rw[b8.2] at this
     exact this
    ·rw[wo]
     exact e4.append f3.one
    ·exact h.less [(W,cel u.C.toList af)]
   by_cases c1:l= []
   ·have d2:AA l= []:=by unfold AA;rw[if_pos c1]
    have ht:(aD l).tail= []:=by rw[c1];rfl
    have:=rest O U g w (by rw[d2];rw[ht] at b3;exact b3) h
    refine ae (by rw[c1];rfl) ?_
    rw[d2] at this
    rw[ht]
    exact this
   ·have m3:0<l.length:=lY0.2 c1
    have d2:AA l=(aD l).tail++ [[]]:=by unfold AA;rw[if_neg c1]
    refine ag (by simp;omega) ?_
    have j1:(hP #[])=bs []:=rfl
    rw[j1]
    have h:Sat σ w (g++((W,cel (a6.nd none 0 k2 E I).C.toList af)::(b4++(y++(H++(bC b q n c a7::(RM++(KM++L)))))))):=h.re
    refine Sat.appS b3 h [] (by rw[lD3];omega) λe5 e3 w c9 c5 h=>?_
    rw[<-d2] at c5⊢
    exact rest e5 e3 c9 w c5 h.re
 exact g1 (m+1) [] none 0 [] none 0 [] [] [] i1 w (by simp) trivial (λz hz=>by cases hz) trivial (λ_=>trivial) h1.kp SlS.nil .nil (Sl.nil 10 af) h

def GV (d:Nat):Prop:= ∀ {σ:Out} {w:World} {L:List ai} {R:Ending->World->Prop} {b:Nat} {q:OA} {n c:Nat} {vs:List UInt8} {s:BS} (odd:Bool),Rd σ L q n vs->s.dp d->Sat σ w (bC b q n c s::L)->
 (∀w (bn:BN) (s':BS) (U:OA) (E:Nat) (y:List ai) (h:NH) (O:List ND) (I:OA) (g H:Nat) (us:List Value) (RM KM:List ai),Made (d+1) odd s bn->s.kp s'->SlS U E (be bn) y->NdOf bn h O->NDs O us KM->Sl 10 af I g H us RM->g<=100->Sat σ w (y++(RM++(KM++(bC b q n c s'::L))))->R (hQ (.tuple #[hT U (be bn).length E,(h.nd none 0 I g H).V])) w)->
 callE P iD #[kT (kE b),hY (d:Nat),hV odd] R w
theorem zr (n:Nat)(c:UInt8):(hN n [c]).flatten=hN n c:=by
 induction n with
 |zero=>rfl
 |succ n g=>rw[lZ1,lK3,g];rfl
theorem B9 {x:Int}(y:0<=x)(g:x<=200):i64.wrap x=x:=by
 obtain⟨k,rfl⟩: ∃k:Nat,x=(k:Int):=⟨x.toNat,by omega⟩
 exact i64_in _ (by omega)
theorem D0 {d:Nat}(hd:d<=3)(s5:1<=d->yO (d - 1) 3)(m9:1<=d->GV (d - 1)):xm d:=by
 intro σ w L R b q n c vs s odd k0 g2 h s7
 have h7:i64.max=9223372036854775807:=rfl
 refine aY.sound ?_
 refine Sat.bx h λb1 w h=>?_
 have h:Sat σ w ((b1,cel (N10.C {}).toList af)::bC b q n c s::L):=h
 have h:Sat σ w (bC b q n c s::(b1,cel (N10.C {}).toList af)::L):=h.re
 have d2:Rd σ ((b1,cel (N10.C {}).toList af)::L) q n vs:=k0.up λw h=>h.less [(b1,cel (N10.C {}).toList af)]
 refine aa ⟨_,Sat.ld h (.head _) (i:=2) rfl,aa ?_⟩
 refine Sat.st h (k:=0) rfl (by show 2<5;decide) trivial rfl λw h=>?_
 have h:Sat σ w (bC b q n c {s with size:=i64.wrap (s.size+1)}::(b1,cel (N10.C {}).toList af)::L):=h
 have j0:s.kp {s with size:=i64.wrap (s.size+1)}:=⟨rfl,rfl⟩
 revert h j0
 generalize ({s with size:=i64.wrap (s.size+1)}:BS)=s1
 intro h j0
 refine eQ (k:=9) d2 (by omega) (by omega) h λw r a6 hr r7 h=>⟨_,rfl,?_⟩
 have W:s.kp a6:=j0.trans r7.kp
 refine aa ⟨_,Sat.ld h (.head _) (i:=2) rfl,?_⟩
 have fin: ∀(w:World) (bn:BN) (s':BS) (b3:OA) (a7:Nat) (E:List ai) (d3:NH) (f1:List ND) (H:OA) (I g:Nat) (us:List Value) (RM KM:List ai) (l5:N10) (X:List ai),Made d odd s bn->s.kp s'->SlS b3 a7 (be bn) E->NdOf bn d3 f1->NDs f1 us KM->Sl 10 af H I g us RM->I<=100->
  Sat σ w ((b1,cel l5.C.toList af)::(X++(E++(RM++(KM++(bC b q n c s'::L))))))->st10 w b1 (d3.nd none 0 H I g) λw=>ldB10 w b1 λm=>R (hQ (.tuple #[hT b3 (be bn).length a7,m.V])) w:=by
  intro w bn s' b3 a7 E d3 f1 H I g us RM KM l5 X U g5 b4 g3 c1 c9 d5 h
  refine h.st10 0 l5 (d3.nd none 0 H I g) λw h=>?_
  have h:Sat σ w ((b1,cel (d3.nd none 0 H I g).C.toList af)::(X++(E++(RM++(KM++(bC b q n c s'::L)))))):=h
  refine h.ldB10 _ (.head _) ?_
  exact s7 w bn s' b3 a7 E d3 f1 H I g us RM KM U g5 b4 g3 c1 c9 d5 (h.less ((b1,cel (d3.nd none 0 H I g).C.toList af)::X))
 have f5: ∀bn,bcB bn=none->kdOK odd bn:=λbn h c hc=>by rw[h] at hc;cases hc
 have para: ∀(w:World) (a6:BS),s.kp a6->Sat σ w (bC b q n c a6::(b1,cel (N10.C {}).toList af)::L)->aY.k4 R (kE b) (d:Nat) odd b1 false w:=by
  intro w a6 W h
  refine ae rfl ?_
  refine pF d2 h λw ls O b3 a7 E H I g us RM KM e6 b8 b4 c1 c9 d5 h=>⟨_,_,_,_,_,_,_,_,_,_,_,_,_,_,_,_,_,rfl,?_⟩
  refine fin w (.para ls) O b3 a7 E {kind:=6} _ H I g us RM KM {} [] ⟨e6,by simp only[smB],f5 _ rfl,λ_=>trivial⟩ (W.trans b8.kp) b4 ⟨rfl,rfl,λf b9=>?_⟩ c1 c9 (by omega) h.re
  rw[mj]
  have:(be (.para ls)).length=ls.length:=by simp[be]
  rw[this]
 have m2: ∀(w:World) (O:BS) (ls:List LT) (b3:OA) (a7:Nat) (E:List ai) (b7:Nat) (g1:NH) (H:OA) (I g:Nat) (us:List Value) (RM KM X:List ai),lsA ls->(s.flat=true->ls.length=1)->s.kp O->SlS b3 a7 (ls.map cw) E->NDs (inT (fh ls)) us KM->Sl 10 af H I g us RM->I<=30->g1= {kind:=6}\/g1= {kind:=0}->
  Sat σ w (bC b q n c O::(b7,cel (g1.nd none 0 H I g).C.toList af)::(b1,cel (N10.C {}).toList af)::(E++(RM++(KM++(X++L)))))->aY.k3 R (kE b) b1 b3 (ls.map cw).length a7 b7 w:=by
  intro w O ls b3 a7 E b7 g1 H I g us RM KM X e6 e5 d0 b4 c1 c9 d5 o6 h
  refine eQ (k:=2) (k0.up λw h=>h.less ((b7,cel (g1.nd none 0 H I g).C.toList af)::(b1,cel (N10.C {}).toList af)::(E++(RM++(KM++X))))) (by omega) (by omega) h λw r b5 hr f0 h=>⟨_,rfl,?_⟩
  have m1:i64.wrap (1+((r:Nat):Int))=((r+1:Nat):Int):=by
   rw[i64_in _ (by omega)];omega
  rw[m1]
  have h:Sat σ w ((b7,cel (g1.nd none 0 H I g).C.toList af)::(b1,cel (N10.C {}).toList af)::(E++(RM++(KM++(bC b q n c b5::(X++L)))))):=h.re
  refine Sat.st h (k:=0) rfl (by show 0<10;decide) trivial rfl λw h=>?_
  refine Sat.st h (k:=0) rfl (by show 3<10;decide) trivial rfl λw h=>h.tk λw h=>?_
  have h:Sat σ w ((b7,cel (({kind:=5,num:=((r+1:Nat):Int)}:NH).nd none 0 H I g).C.toList af)::(b1,cel (N10.C {}).toList af)::(E++(RM++(KM++(bC b q n c b5::(X++L)))))):=by
   rcases o6 with rfl|rfl<;>exact h
  refine⟨((r+1:Nat):Int),Sat.ld h (.head _) (i:=3) rfl,((r+1:Nat):Int),Sat.ld h (.head _) (i:=3) rfl,?_⟩
  have f3:i64.wrap (((r+1:Nat):Int) - 1)=(r:Nat):=by rw[gr (by omega) (by omega)];congr 1
  have d4:(hP #[61,45])=bs [61,45]:=rfl
  rw[f3,d4]
  refine⟨by omega,by omega,by show ((r+1:Nat):Int)<=2;omega,?_⟩
  refine h.ldB10 _ (.head _) ?_
  rw[lC0,lC0,cm]
  obtain⟨ch,r1,o5,p4⟩: ∃ch:UInt8,(ch=61\/ch=45)/\sub [61,45] r (r+1)= [ch]/\AD ch=r+1:=by
   rcases (show r=0\/r=1 by omega) with rfl|rfl
   ·exact⟨61,.inl rfl,rfl,rfl⟩
   ·exact⟨45,.inr rfl,rfl,rfl⟩
  have b8:List.drop r (List.take (r+1) [(61:UInt8),45])= [ch]:=o5
  rw[b8]
  refine uu (s:= [ch]) (n:=3) (by omega) (by simp) ⟨_,rfl,?_⟩
  rw[zr]
  refine⟨h.same h (.head _) (.head _) 10,?_⟩
  have t6:(ls.map cw).length<1000000:=by have:=e6.2.1;simp;omega
  generalize r6:(b7,cel (({kind:=5,num:=((r+1:Nat):Int)}:NH).nd none 0 H I g).C.toList af)=ch6 at h
  refine h.buildS _ λe9 e7 t2 d1 c8 o0=>?_
  have i0: ∀Y:List ai,(b7,cel (({kind:=5,num:=((r+1:Nat):Int)}:NH).nd none 0 H I g).C.toList af)∈ch6::Y:=λY=>by rw[r6];exact .head _
  refine⟨h.same o0 (i0 _) (lB0 _ (i0 _)) 10,?_⟩
  have n0:Sat σ t2 (E++(d1++(ch6::(b1,cel (N10.C {}).toList af)::(RM++(KM++(bC b q n c b5::(X++L))))))):=o0.re
  refine Sat.appL b4 c8 n0 (by simp) (by have t9:=e6.2.1;simp only[lS0,lF0,lK1];omega) λn1 o2 s9 o3 h8 n3=>?_
  refine⟨n0.same n3 (lB0 _ (lB0 _ (i0 _))) (lB0 _ (i0 _)) 10,?_⟩
  have em:ls.map cw++ [hN 3 ch]=be (.setx ch ls):=rfl
  rw[em] at h8⊢
  refine fin s9 (.setx ch ls) b5 n1 o2 o3 {kind:=5,num:=((r+1:Nat):Int)} _ H I g us RM KM {} (ch6::X) ⟨⟨r1,e6⟩,by simp only[smB],f5 _ rfl,e5⟩ (d0.trans f0.kp) h8 ⟨rfl,rfl,λf b9=>?_⟩ c1 c9 (by omega) n3.re
  rw[mj,p4]
  have:(be (.setx ch ls)).length=ls.length+1:=by simp[be]
  rw[this];rfl
 have code: ∀(w:World) (O:BS) (wd:List UInt8),(wd= []\/Wa wd)->(s.flat=true->wd= [])->s.kp O->Sat σ w (bC b q n c O::(b1,cel (N10.C {}).toList af)::L)->aY.k2 R (kE b) b1 (bs wd) w:=by
  intro w O wd h9 e5 d0 h
  have t4:wd.length<=4:=by
   rcases h9 with rfl|h9
   ·simp
   ·exact h9.2.2
  refine D9 d2 h λw ls b5 b3 a7 E m5 q8 e6 f0 b4 h=>⟨_,_,_,_,rfl,?_⟩
  have d4:(hP #[96,96,96])=bs [96,96,96]:=rfl
  rw[d4,bL]
  refine⟨by rw[aJ,aJ,h7];simp;omega,?_⟩
  refine h.buildS _ λe9 e7 w d1 c8 h=>?_
  refine Sat.appL c8 b4 h (by simpa using m5) (by simp;omega) λn1 o2 w o3 h8 h=>?_
  refine Sat.appS h8 h _ (by simp;omega) λt3 s8 w r8 m4 h=>?_
  have em: [[96,96,96]++wd]++ls.map qZ++ [[96,96,96]]=be (.code wd ls):=by simp[be]
  rw[em] at m4⊢
  refine fin w (.code wd ls) b5 t3 s8 r8 {kind:=7,title:=wd,text:=dK (ls.map qZ)} [] none 0 0 [] [] [] {} [] ⟨⟨h9,m5,q8,e6⟩,by simp only[smB],f5 _ rfl,e5⟩ (d0.trans f0.kp) m4 ⟨rfl,rfl,λf b9=>?_⟩ .nil (Sl.nil 10 af) (by omega) h.re
  rw[mj]
  have:(be (.code wd ls)).length=ls.length+2:=by simp[be]
  rw[this];rfl
 have m3: ∀k:Nat,k<9->(6<=k->1<=d)->aY.k1 R (kE b) (d:Nat) odd b1 (k:Nat) w:=by
  intro k t7 j1
  have f2: ∀d:Nat,k≠d->(((k:Nat):Int)==((d:Nat):Int))=false:=λd hd=>by rw[uR,decide_eq_false_iff_not];omega
  rcases (show k=2\/k=3\/k=4\/k=5\/k=6\/k=7\/k=8\/k<2 by omega) with rfl|rfl|rfl|rfl|rfl|rfl|rfl|g5
  ·refine ag rfl ?_
   refine eQ (k:=6) d2 (by omega) (by omega) h λw r O hr b8 h=>⟨_,rfl,?_⟩
   refine vf d2 h λw x b5 lq ln lc us RM KM f4 f0 c1 b4 q0 h=>⟨_,_,_,_,rfl,?_⟩
   have m1:i64.wrap (1+((r:Nat):Int))=((r+1:Nat):Int):=by
    rw[i64_in _ (by omega)];omega
   have d4:(hP #[35])=bs [35]:=rfl
   have f3:(hP #[32])=bs [32]:=rfl
   have t8:=jE f4.ok.1 f4.2
   rw[m1,d4,f3]
   refine uu (s:= [35]) (n:=r+1) (by omega) (by simp) ⟨_,rfl,?_⟩
   rw[zr,bL,bL]
   refine⟨by rw[aJ,aJ,h7];simp;omega,by rw[aJ,aJ,h7];simp;omega,?_⟩
   refine h.buildS _ λe9 e7 w d1 c8 h=>?_
   have em: [hN (r+1) 35++ [32]++cw x]=be (.head (r+1) x):=by simp[be]
   rw[em] at c8
   refine fin w (.head (r+1) x) b5 e9 e7 d1 {kind:=5,num:=((r+1:Nat):Int)} _ lq ln lc us RM KM {} [] ⟨⟨⟨by omega,by omega⟩,f4⟩,by simp only[smB],f5 _ rfl,λ_=>trivial⟩ (W.trans (b8.kp.trans f0.kp)) c8 ⟨rfl,rfl,λf b9=>?_⟩ c1 b4 (by omega) h.re
   rw[mj];rfl
  ·refine ae rfl (ag rfl ?_)
   have d4:(hP #[42,42,42])=bs [42,42,42]:=rfl
   rw[d4]
   refine h.buildS _ λe9 e7 w d1 c8 h=>?_
   refine fin w .hr a6 e9 e7 d1 {kind:=9} [] none 0 0 [] [] [] {} [] ⟨trivial,by simp only[smB],f5 _ rfl,λ_=>trivial⟩ W c8 ⟨rfl,rfl,λf b9=>?_⟩ .nil (Sl.nil 10 af) (by omega) h.re
   rw[mj];rfl
  ·refine ae rfl (ae rfl (ag rfl ?_))
   refine eQ (k:=2) d2 (by omega) (by omega) h λw r O hr b8 h=>⟨_,rfl,?_⟩
   have d0:=W.trans b8.kp
   have d4:(hP #[])=bs []:=rfl
   rw[d4]
   refine bM (λ_=>?_) λ_=>code w O [] (.inl rfl) (λ_=>rfl) d0 h
   refine aa ⟨_,Sat.ld h (.head _) (i:=3) rfl,bM (λb9=>?_) λb9=>code w O [] (.inl rfl) (λ_=>rfl) d0 h⟩
   have m8:O.flat=false:=by simpa using b9
   refine nV d2 h λw y b5 r9 f0 h=>⟨_,rfl,?_⟩
   refine code w b5 y (.inr r9) (λe5=>?_) (d0.trans f0.kp) h
   rw[d0.1,e5] at m8
   cases m8
  ·refine ae rfl (ae rfl (ae rfl (ag rfl ?_)))
   refine pF d2 h λw ls O b3 a7 E H I g us RM KM e6 b8 b4 c1 c9 d5 h=>⟨_,_,_,_,_,_,_,_,_,_,_,_,_,_,_,_,_,rfl,?_⟩
   have d0:=W.trans b8.kp
   refine Sat.bx h λb7 w h=>?_
   have h:Sat σ w ((b7,cel (N10.C {}).toList af)::(E++(RM++(KM++(bC b q n c O::(b1,cel (N10.C {}).toList af)::L))))):=h
   refine h.st10 0 {} (({kind:=6}:NH).nd none 0 H I g) λw h=>?_
   have h:Sat σ w ((b7,cel (({kind:=6}:NH).nd none 0 H I g).C.toList af)::(E++(RM++(KM++(bC b q n c O::(b1,cel (N10.C {}).toList af)::L))))):=h
   have h:Sat σ w (bC b q n c O::(b7,cel (({kind:=6}:NH).nd none 0 H I g).C.toList af)::(b1,cel (N10.C {}).toList af)::(E++(RM++(KM++([]++L))))):=h.re
   refine aa ⟨_,Sat.ld h (.head _) (i:=3) rfl,bM (λb9=>?_) λb9=>?_⟩
   ·refine vf (k0.up λw h=>h.less ((b7,cel (({kind:=6}:NH).nd none 0 H I g).C.toList af)::(b1,cel (N10.C {}).toList af)::(E++(RM++KM)))) h λw x b5 lq ln lc p3 i3 i8 f4 f0 r3 f6 q0 h=>⟨_,_,_,_,rfl,?_⟩
    refine h.buildS _ λe9 e7 w d1 c8 h=>?_
    have h:Sat σ w ((b7,cel (({kind:=6}:NH).nd none 0 H I g).C.toList af)::bC b q n c b5::(b1,cel (N10.C {}).toList af)::(d1++(i3++(i8++((E++(RM++KM))++L))))):=h.re
    refine h.st10 0 (({kind:=6}:NH).nd none 0 H I g) {q7:=lq,n7:=ln,c7:=lc} λw h=>?_
    have h:Sat σ w ((b7,cel (({kind:=0}:NH).nd none 0 lq ln lc).C.toList af)::bC b q n c b5::(b1,cel (N10.C {}).toList af)::(d1++(i3++(i8++((E++(RM++KM))++L))))):=h
    exact m2 w b5 [x] e9 e7 d1 b7 {kind:=0} lq ln lc p3 i3 i8 (E++(RM++KM)) ⟨by simp,by simp,λz hz=>by obtain rfl:=lQ0.1 hz;exact f4⟩ (λ_=>rfl) (d0.trans f0.kp) c8 r3 f6 (by omega) (.inr rfl) h.re
   ·refine m2 w O ls b3 a7 E b7 {kind:=6} H I g us RM KM [] e6 (λe5=>?_) d0 b4 c1 c9 d5 (.inl rfl) h
    rw[d0.1,e5] at b9
    cases b9
  ·refine ae rfl (ae rfl (ae rfl (ae rfl (ag rfl ?_))))
   have g0:=j1 (by omega)
   have h4:i64.wrap (((d:Nat):Int) - 1)=((d - 1:Nat):Int):=by rw[gr (by omega) (by omega)]
   have o4:=W.dp g2
   obtain⟨u1,p2⟩:=o4
   refine aa ⟨_,Sat.ld h (.head _) (i:=4) rfl,aa ?_⟩
   rw[h4,B9 (by omega) (by omega)]
   refine Sat.st h (k:=0) rfl (by show 4<5;decide) trivial rfl λw h=>?_
   have h:Sat σ w (bC b q n c {a6 with deep:=a6.deep+1}::(b1,cel (N10.C {}).toList af)::L):=h
   refine s5 g0 d2 ⟨by show 0<=a6.deep+1;omega,by show a6.deep+1+((d - 1:Nat):Int)<=100;omega⟩ h λw l O b3 a7 E H g us RM KM U b8 b4 c1 c9 h=>⟨_,_,_,_,_,_,rfl,?_⟩
   have p5:O.deep=a6.deep+1:=b8.2
   have h:Sat σ w (bC b q n c O::(b1,cel (N10.C {}).toList af)::(E++(RM++(KM++L)))):=h.re
   refine aa ⟨_,Sat.ld h (.head _) (i:=4) rfl,aa ?_⟩
   rw[p5,B9 (by omega) (by omega)]
   refine Sat.st h (k:=0) rfl (by show 4<5;decide) trivial rfl λw h=>?_
   have h:Sat σ w (bC b q n c {O with deep:=a6.deep+1 - 1}::(b1,cel (N10.C {}).toList af)::(E++(RM++(KM++L)))):=h
   have i1:s.kp {O with deep:=a6.deep+1 - 1}:=⟨b8.1.trans W.1,by show a6.deep+1 - 1=s.deep;have:=W.2;omega⟩
   revert h i1
   generalize ({O with deep:=a6.deep+1 - 1}:BS)=b5
   intro h i1
   obtain⟨bl1,bl2,bl3⟩:=sj (by omega) U.ab U.sm U.ne (by have:=U.len;omega)
   intro X n2
   have q1: ∀k i g4 g7 g6 w,i+k=(aD l).tail.length->SlS g4 g7 (((aD l).tail.take i).map λs=>62::32::s) g6->Sat σ w (g6++(E++(bC b q n c b5::(b1,cel (N10.C {}).toList af)::(RM++(KM++L)))))->X b1 H l.length g g4 (((aD l).tail.take i).map λs=>62::32::s).length g7 b3 (aD l).tail.length a7 ((aD l).tail.length:Nat) (i:Nat) w:=by
    intro k
    induction k with
    |zero=>
     intro i g4 g7 g6 w g5 f6 h
     obtain rfl:i=(aD l).tail.length:=g5
     refine n2 _ _ _ _ _ _ _ _ _ _ _ _ _ (ae (by simp) ?_)
     rw[lW2] at f6⊢
     refine fin w (.quote l) b5 g4 g7 g6 {kind:=2} (mR 1 l) H l.length g us RM KM {} E ⟨⟨U.ne,U.ab⟩,?_,f5 _ rfl,λe5=>?_⟩ i1 f6 ⟨rfl,rfl,λf b9=>?_⟩ c1 c9 (by have:=U.len;omega) h.re
     ·simp only[smB]
      exact⟨g0,U.len,U.sm⟩
     ·have:=U.fl (by show a6.flat=true;rw[W.1];exact e5)
      have e:BS.fq {a6 with deep:=a6.deep+1}=true:=by
       unfold BS.fq
       rw[decide_eq_true_eq]
       show 0<a6.deep+1
       omega
      rw[e] at this
      exact this
     ·rw[mj]
      have:(be (.quote l)).length=(aD l).tail.length:=by simp[be]
      rw[this]
    |succ k r5=>
     intro i g4 g7 g6 w g5 f6 h
     have i2:i<(aD l).tail.length:=by omega
     obtain⟨a,rfl,s6⟩:=b4.get i2
     refine n2 _ _ _ _ _ _ _ _ _ _ _ _ _ (ag (by rw[decide_eq_true_eq];omega) ⟨by omega,by omega,aa ?_⟩)
     rw[lC0,lC1]
     have t5:=bl2 _ (lP1 i2)
     refine⟨_,s6 h (λx f4=>lB0 _ (lE1 _ f4)),?_⟩
     have d4:(hP #[62,32])=bs [62,32]:=rfl
     rw[d4,bL]
     refine⟨by rw[aJ,aJ,h7];simp only[lF0,lK1];omega,?_⟩
     refine Sat.appS f6 h _ (by rw[lS0];have:=List.length_take_le i (aD l).tail;omega) λe9 e7 w d1 c8 h=>?_
     have r4:(((aD l).tail.take i).map λs=>62::32::s)++ [[62,32]++(aD l).tail[i]]=((aD l).tail.take (i+1)).map λs=>62::32::s:=by
      rw[lH1 i2,lV0];rfl
     rw[r4] at c8⊢
     rw[aN (by omega)]
     exact r5 (i+1) e9 e7 d1 w (by omega) c8 h
   exact q1 (aD l).tail.length 0 none 0 [] w (by omega) SlS.nil h.re
  ·have g0:=j1 (by omega)
   have h4:i64.wrap (((d:Nat):Int) - 1)=((d - 1:Nat):Int):=by rw[gr (by omega) (by omega)]
   refine ae rfl (ae rfl (ae rfl (ae rfl (ae rfl (ag rfl (ag rfl ?_))))))
   rw[h4]
   refine m9 g0 odd d2 ⟨(W.dp g2).1,by have:=(W.dp g2).2;omega⟩ h λw bn O b3 a7 E d3 f1 H I g us RM KM U b8 b4 g3 c1 c9 d5 h=>⟨_,_,_,_,_,_,_,_,_,_,_,_,_,_,_,_,_,rfl,?_⟩
   have f3:d - 1+1=d:=by omega
   refine fin w bn O b3 a7 E d3 f1 H I g us RM KM {} [] ⟨U.ab,by have:=U.sm;rwa [f3] at this,U.kd,λb9=>?_⟩ (W.trans b8) b4 g3 c1 c9 d5 h.re
   have:=U.fl (by rw[W.1];exact b9)
   unfold BS.fq at this⊢
   rw[W.2] at this
   exact this
  ·have g0:=j1 (by omega)
   have h4:i64.wrap (((d:Nat):Int) - 1)=((d - 1:Nat):Int):=by rw[gr (by omega) (by omega)]
   refine ae rfl (ae rfl (ae rfl (ae rfl (ae rfl (ae rfl (ag rfl ?_))))))
   rw[h4]
   refine m9 g0 odd d2 ⟨(W.dp g2).1,by have:=(W.dp g2).2;omega⟩ h λw bn O b3 a7 E d3 f1 H I g us RM KM U b8 b4 g3 c1 c9 d5 h=>⟨_,_,_,_,_,_,_,_,_,_,_,_,_,_,_,_,_,rfl,?_⟩
   have f3:d - 1+1=d:=by omega
   refine fin w bn O b3 a7 E d3 f1 H I g us RM KM {} [] ⟨U.ab,by have:=U.sm;rwa [f3] at this,U.kd,λb9=>?_⟩ (W.trans b8) b4 g3 c1 c9 d5 h.re
   have:=U.fl (by rw[W.1];exact b9)
   unfold BS.fq at this⊢
   rw[W.2] at this
   exact this
  ·have t0:(((k:Nat):Int)==8)=false:=f2 8 (by omega)
   refine ae (f2 2 (by omega)) (ae (f2 3 (by omega)) (ae (f2 4 (by omega)) (ae (f2 5 (by omega)) (ae (f2 6 (by omega)) (ae (f2 7 (by omega)) ?_)))))
   rw[t0]
   exact para w a6 W h
 refine bM (λ_=>m3 0 (by omega) (by omega)) λhc=>m3 r hr λu2=>?_
 simp only[lI2,lX3,decide_eq_false_iff_not] at hc
 omega

theorem Sat.appL0 {q V:OA}{c U:Nat}{ls E:List (List UInt8)}{M b7:List ai}(a6:SlS q c ls M)(b4:SlS V U E b7)(h:Sat σ w (M++(b7++L)))(c1:ls≠ [])(a7:ls.length+E.length<1000000){K:OA->Nat->Nat->World->Prop}(H: ∀g y I O,SlS g y (ls++E) O->Sat σ I (O++L)->K g (ls++E).length y I):
 ∃(g:OA),∃(b5:Nat),∃(y:Nat),∃b9,(Builtin.append_ #[al,al] al #[hT q ls.length c,hT V E.length U]).run P w= .ok (hT g b5 y) b9/\K g b5 y b9:=by
 by_cases b8:E= []
 ·subst b8
  have d0:0<ls.length:=lY0.2 c1
  have c5:q≠none:=by
   rintro rfl
   obtain⟨_,_,⟨_,b6,_⟩|⟨b,sp,b6,_⟩⟩:=a6
   ·omega
   ·cases b6
  obtain⟨c9,c4,c8⟩:=b4
  have hs:Src P 1 al (hT V 0 U) 0 [] w:=by
   rcases c8 with ⟨rfl,_,rfl,rfl⟩|⟨b,sp,rfl,rfl,c4⟩
   ·exact Src.ofNil w rowStr.ht 0
   ·exact Src.ofSlice w rowStr.ht _ _ U _ (by simp) (λj u W=>by simp at W) λu W=>by cases W
  obtain⟨g,y,I,O,hr,b3,c3,_⟩:=Sat.app rowStr (ty:=al) a6 h hs (.inr c5) (by simp at a7;omega) (by simp at a7;omega)
  refine⟨g,_,y,I,hr,?_⟩
  have H:=H g y I O
  rw[lG0] at H
  rw[lG0] at b3
  exact H b3 (c3.sub (List.Sublist.append_left (lH3 _ _) _))
 ·exact Sat.appL a6 b4 h b8 a7 H
theorem Sat.appG {t ty e b4:TypeId}{sz bytes:Nat}(r:Row P t e sz bytes){q:OA}{n c b:Nat}{us E:List Value}{M:List ai}(b3:Sl sz e q n c us M)(h:Sat σ w (M++((b,cel E b4)::L)))(a6:E.length=1*sz)(W: ∀u∈E,u.oneCell'=true)(hb:(n+1)*bytes<=140737488355328)(b6:n+1<4611686018427387904){K:OA->Nat->Nat->World->Prop}(b7: ∀g y H I,Sl sz e g (n+1) y (us++E) I->Sat σ H (I++L)->K g (n+1) y H):
 ∃(g:OA),∃(U:Nat),∃(y:Nat),∃O,(Builtin.append_ #[t,t] ty #[hT q n c,hT (kE b) 1 1]).run P w= .ok (hT g U y) O/\K g U y O:=by
 have hs:Src P sz t (hT (kE b) 1 1) 1 E w:=by
  refine Src.ofSlice w r.ht _ 1 1 _ a6 (λj u a7=>?_) W
  rw[show (Addr.add (hZ b 0) j)=⟨b,j,none⟩ from Addr.add_zero_lit b j]
  exact h.ld (lB0 _ (.head _)) a7
 obtain⟨g,y,H,I,hr,V,b5,_⟩:=Sat.app r (ty:=ty) b3 h hs (.inl (by omega)) hb b6
 refine⟨g,n+1,y,H,hr,b7 g y H I V ?_⟩
 exact b5.sub (List.Sublist.append_left (lR3 ..) _)
theorem Sat.appNd {q:OA}{n c b:Nat}{us:List Value}{M:List ai}(U:Sl 10 af q n c us M){v:N10}(h:Sat σ w (M++((b,cel v.C.toList af)::L)))(W:n<1000000){K:OA->Nat->Nat->World->Prop}(V: ∀g y I E,Sl 10 af g (n+1) y (us++v.C.toList) E->Sat σ I (E++L)->K g (n+1) y I):
 ∃(g:OA),∃(O:Nat),∃(y:Nat),∃H,(Builtin.append_ #[au,au] au #[hT q n c,hT (kE b) 1 1]).run P w= .ok (hT g O y) H/\K g O y H:=
 Sat.appG rowND U h rfl (Bt v) (by omega) (by omega) V
theorem SlS.tail {q:OA}{c:Nat}{x:List UInt8}{ls:List (List UInt8)}{M:List ai}(H:SlS q c (x::ls) M)(g: ∀U∈M,U∈L):SArg σ L (if c=1 then q else q.map (·.add (1*rowStr.i.size))) ls.length ls:=by
 obtain⟨V,E,I⟩:=H
 rcases I with ⟨_,O,_⟩|⟨b,sp,rfl,rfl,W⟩
 ·simp at O
 refine⟨rfl,λi hi=>?_⟩
 have hc:c≠1:=by simp only[lF0] at E;omega
 rw[if_neg hc,rowStr.hs]
 refine⟨⟨b,1,none⟩,rfl,λw h=>?_⟩
 rw[show (Addr.add (hZ b 1) i)=⟨b,1+i,none⟩ from lK0 ..]
 refine h.ld (g _ (.head _)) ?_
 rw[lR4,lM0 (by rw[ka];simp;omega)]
 have:=tG (ts:=x::ls) (j:=i+1) (by simp;omega)
 simpa using this

abbrev jX (q:OA)(n c:Nat):N10:=({kind:=4}:NH).nd none 0 q n c
abbrev jg (num:Int)(ch:UInt8)(lo:Bool)(q:OA)(n c:Nat):N10:=({kind:=3,num:=num,char:= [ch],loose:=lo}:NH).nd none 0 q n c
abbrev ndC (b:Nat)(v:N10):ai:=(b,cel v.C.toList af)
def tK (ch:UInt8)(gap:Bool)(num:Nat)(its:List (List BN)):List (List UInt8):=cV ch gap num its++(if gap && !its.isEmpty then [[]] else [])
theorem Dq (ch:UInt8)(gap:Bool)(num:Nat)(its:List (List BN)):(tK ch gap num its).length=(cV ch gap num its).length+(gap && !its.isEmpty).toNat:=by
 unfold tK
 rw[lA0]
 split
 ·rename_i h;rw[h];rfl
 ·rename_i h
  have h:(gap && !its.isEmpty)=false:=by simpa using h
  rw[h];rfl
theorem zT (ch:UInt8)(gap:Bool)(num:Nat)(its:List (List BN))(it:List BN){x:List UInt8}{r:List (List UInt8)}(h:(aD it).tail=x::r):
 (tK ch gap num its++ [mkI ch (num+its.length)++x])++r.map (λs=>if s= [] then [] else hN (mkI ch (num+its.length)).length 32++s)=cV ch gap num (its++ [it]):=by
 rw[ye,h]
 unfold tK itL
 simp only[lD0,List.headD_cons,List.tail_cons,lR2]
 rfl
structure MkP (odd:Bool) (ch:UInt8) (num:Nat) (numI:Int):Prop where
 ch_:if odd then ch=43\/ch=41 else ch=45\/ch=46
 num_:numI=if ch=46\/ch=41 then ((num:Nat):Int) else -1
 le:num<=30
theorem MkP.ch4 {odd:Bool}{ch:UInt8}{num:Nat}{numI:Int}(h:MkP odd ch num numI):ch=45\/ch=43\/ch=46\/ch=41:=by
 have:=h.ch_
 cases odd
 ·rcases this with h|h
  ·exact .inl h
  ·exact .inr (.inr (.inl h))
 ·rcases this with h|h
  ·exact .inr (.inl h)
  ·exact .inr (.inr (.inr h))
theorem BW {d m:Nat}{odd loose:Bool}{ch:UInt8}{num:Nat}{numI:Int}{b b1 E H:Nat}{q:OA}{n c:Nat}{a7:BS}{X:OA->Int->Bool->Nat->Nat->Bool->OA->Nat->Nat->Int->Int->WP}(hd:d<=3)(p3:m<=5)(c9:MkP odd ch num numI){its:List (List BN)}{it:List BN}(n0:its.length<=3)(n2:(cV ch loose num its).length<=2000)(m8: ∀x∈its,(aD x).tail≠ [])(m1:abS it)(h8:it≠ [])(o5:it.length<=2)(h9:smS d it){b8:OA}{b7:Nat}{b4:List ai}{W:OA}{U:Nat}{us:List Value}{RM KM:List ai}(e2:SlS b8 b7 (cV ch loose num its) b4)(k0:NDs (xu loose its) us KM)(m2:Sl 10 af W its.length U us RM){b6:OA}{b5:Nat}{f0:List Value}{I O:List ai}{d4:OA}{c1:Nat}{a6 g:List ai}(e7:SlS d4 c1 (aD it).tail a6)(h5:NDs (mR 1 it) f0 O)(h6:Sl 10 af b6 it.length b5 f0 I)(h:Sat σ w (bC b q n c a7::ndC E (jg numI ch (lz loose its||decide (2<=it.length)) W its.length U)::ndC H (jX b6 it.length b5)::(b4++(RM++(KM++(a6++(I++(O++(g++L)))))))))(next: ∀(w:World) (b8:OA) (b7:Nat) (b4:List ai) (W:OA) (U:Nat) (us:List Value) (RM KM:List ai),SlS b8 b7 (cV ch loose num (its++ [it])) b4->NDs (xu loose (its++ [it])) us KM->Sl 10 af W (its++ [it]).length U us RM->
  Sat σ w (bC b q n c a7::ndC E (jg numI ch (lz loose (its++ [it])) W (its++ [it]).length U)::(b4++(RM++(KM++L))))->X (kE b) (d:Nat) odd b1 E loose b8 (cV ch loose num (its++ [it])).length b7 ((m:Nat):Int) (((its++ [it]).length:Nat):Int) w){g5:Int}(i1:g5=((d:Nat):Int)):
 aB.k6 R X (kE b) g5 odd b1 E loose b8 (cV ch loose num its).length b7 ((its.length:Nat):Int) H d4 (aD it).tail.length c1 ((m:Nat):Int) ((its.length:Nat):Int) w:=by
 subst i1
 have e5:i64.max=9223372036854775807:=rfl
 obtain⟨g2,e6,i2⟩:=sj hd m1 h9 h8 (by omega)
 obtain⟨o2,o3,n3⟩:=Ez (num:=num+its.length) c9.ch4 (by have:=c9.le;omega)
 have i3:=Dq ch loose num its
 have o4:(loose && !its.isEmpty).toNat<=1:=by cases (loose && !its.isEmpty)<;>decide
 have k9: ∀(w:World) (b8:OA) (b7:Nat) (b4 g:List ai),SlS b8 b7 (tK ch loose num its) b4->Sat σ w (bC b q n c a7::ndC E (jg numI ch (lz loose (its++ [it])) W its.length U)::ndC H (jX b6 it.length b5)::(b4++(RM++(KM++(a6++(I++(O++(g++L))))))))->
  aB.k9 R X (kE b) (d:Nat) odd b1 E loose b8 (tK ch loose num its).length b7 H d4 (aD it).tail.length c1 (bs (mkI ch (num+its.length))) ((m:Nat):Int) ((its.length:Nat):Int) w:=by
  intro w b8 b7 b4 g e2 h
  have m6:i64.wrap (((tK ch loose num its).length:Int)+1)=(((tK ch loose num its).length+1:Nat):Int):=by rw[aN (by omega)]
  have i8:i64.wrap (((tK ch loose num its).length:Int)+((aD it).tail.length:Int))=(((tK ch loose num its).length+(aD it).tail.length:Nat):Int):=by
   rw[i64_in _ (by omega)];omega
  unfold aB.k9
  rw[m6,i8]
  have h:Sat σ w (ndC H (jX b6 it.length b5)::bC b q n c a7::ndC E (jg numI ch (lz loose (its++ [it])) W its.length U)::(b4++(RM++(KM++(a6++(I++(O++(g++L)))))))):=h.re
  refine Sat.st h (k:=0) rfl (by show 8<10;decide) trivial rfl λw h=>?_
  refine Sat.st h (k:=0) rfl (by show 9<10;decide) trivial rfl λw h=>?_
  have h:Sat σ w (ndC H (({kind:=4,s:=(tK ch loose num its).length+1,e:=(tK ch loose num its).length+(aD it).tail.length}:NH).nd none 0 b6 it.length b5)::bC b q n c a7::ndC E (jg numI ch (lz loose (its++ [it])) W its.length U)::(b4++(RM++(KM++(a6++(I++(O++(g++L)))))))):=h
  have f5:NodeDt (lawI ((cV ch loose num its).length+(loose && !its.isEmpty).toNat) it) (({kind:=4,s:=(tK ch loose num its).length+1,e:=(tK ch loose num its).length+(aD it).tail.length}:NH).nd none 0 b6 it.length b5) (I++O):=by
   rw[<-i3]
   exact⟨_,mR 1 it,none,0,b6,it.length,b5,f0,I,O,rfl,rfl,rfl,by omega,h5,h6⟩
  revert h f5
  generalize ({kind:=4,s:=(tK ch loose num its).length+1,e:=(tK ch loose num its).length+(aD it).tail.length}:NH).nd none 0 b6 it.length b5=u
  intro h f5
  obtain⟨x,r,f6⟩:=lA1 i2
  have h1:=zT ch loose num its it f6
  rw[f6] at e7 g2 e6⊢
  have n1:=e6 x (.head _)
  simp only[lF0] at g2
  obtain⟨a,rfl,h4⟩:=e7.get (i:=0) (by simp)
  refine⟨by decide,by simp only[lF0];omega,aa ?_⟩
  refine⟨bs x,h4 h (λy f3=>by simp only[lW0,lO0];simp[f3]),?_⟩
  rw[bL]
  refine⟨by rw[aJ,aJ,e5];omega,?_⟩
  have h:Sat σ w (b4++(ndC H u::bC b q n c a7::ndC E (jg numI ch (lz loose (its++ [it])) W its.length U)::(RM++(KM++(a6++(I++(O++(g++L)))))))):=h.re
  refine Sat.appS e2 h _ (by omega) λg3 h0 w b9 d3 h=>h.tk λw h=>?_
  refine⟨_,_,_,λw=>y0 rowStr.ht rowStr.hi _ _ c1 1 (by simp) w,?_⟩
  have i0:=SlS.tail (σ:=σ) (L:=a6++(b9++(ndC H u::bC b q n c a7::ndC E (jg numI ch (lz loose (its++ [it])) W its.length U)::(RM++(KM++(I++(O++(g++L)))))))) e7 (λy f3=>lE1 _ f3)
  have h:Sat σ w (a6++(b9++(ndC H u::bC b q n c a7::ndC E (jg numI ch (lz loose (its++ [it])) W its.length U)::(RM++(KM++(I++(O++(g++L)))))))):=h.re
  rw[aJ]
  refine Ew (by omega) ⟨_,rfl,?_⟩
  refine yj (c:=c1 - 1) i0 (by simp;omega) (λl j0=>by have:=e6 l (.tail _ j0);omega) (by omega) h λw p1 o6 j1 h7 h=>⟨_,_,_,rfl,?_⟩
  have h:Sat σ w (b9++(j1++(a6++(ndC H u::bC b q n c a7::ndC E (jg numI ch (lz loose (its++ [it])) W its.length U)::(RM++(KM++(I++(O++(g++L))))))))):=h.re
  have em:r.length=(r.map λs=>if s= [] then [] else hN (mkI ch (num+its.length)).length 32++s).length:=by simp
  rw[em]
  refine Sat.appL0 d3 h7 h (by simp) (by rw[lA0,<-em];simp only[lE0];omega) λl5 m5 w e4 g0 h=>?_
  rw[h1] at g0⊢
  have h:Sat σ w (RM++(ndC E (jg numI ch (lz loose (its++ [it])) W its.length U)::ndC H u::bC b q n c a7::(e4++(KM++(a6++(I++(O++(g++L)))))))):=h.re
  refine⟨W,its.length,U,Sat.ld h (lB0 _ (.head _)) (i:=7) rfl,?_⟩
  refine h.ldB10 u (lB0 _ (.tail _ (.head _))) ?_
  refine Sat.app1 rowND m2 h (v:=u.V) rfl (Bt u) (wR u) (by omega) (by omega) (by decide) λg7 g6 w f1 g1 h=>?_
  have h:Sat σ w (ndC E (jg numI ch (lz loose (its++ [it])) W its.length U)::bC b q n c a7::(e4++(f1++((KM++(I++O))++(ndC H u::(a6++(g++L))))))):=h.re
  refine Sat.st h (k:=0) rfl (by show 7<10;decide) trivial rfl λw h=>?_
  have h:Sat σ w (ndC E (jg numI ch (lz loose (its++ [it])) g7 (its.length+1) g6)::bC b q n c a7::(e4++(f1++((KM++(I++O))++(ndC H u::(a6++(g++L))))))):=h
  have g4:(its++ [it]).length=its.length+1:=by simp
  rw[aN (by omega),<-g4]
  rw[<-g4] at h g1
  refine next w l5 m5 e4 g7 g6 _ f1 (KM++(I++O)) g0 ?_ g1 ?_
  ·rw[BR loose ch its num it m8]
   exact k0.append f5.one
  ·exact h.less (ndC H u::(a6++g))
 have k7: ∀w,Sat σ w (bC b q n c a7::ndC E (jg numI ch (lz loose its||decide (2<=it.length)) W its.length U)::ndC H (jX b6 it.length b5)::(b4++(RM++(KM++(a6++(I++(O++(g++L))))))))->
  aB.k7 R X (kE b) (d:Nat) odd b1 E loose b8 (cV ch loose num its).length b7 ((its.length:Nat):Int) H d4 (aD it).tail.length c1 (bs (mkI ch (num+its.length))) ((m:Nat):Int) ((its.length:Nat):Int) w:=by
  intro w h
  have m4:((decide (((its.length:Nat):Int)>0)) && loose)=(loose && !its.isEmpty):=by
   cases its with
   |nil=>cases loose<;>rfl
   |cons y l=>
    have:decide ((((y::l).length:Nat):Int)>0)=true:=by rw[decide_eq_true_eq];simp only[lF0];omega
    rw[this]
    cases loose<;>rfl
  show aB.k8 R X _ _ _ _ _ _ _ _ _ _ _ _ _ _ _ _ ((decide (((its.length:Nat):Int)>0)) && loose) w
  rw[m4]
  have d1:=Fp loose its it
  by_cases c8:(loose && !its.isEmpty)=true
  ·have e3:tK ch loose num its=cV ch loose num its++ [[]]:=by unfold tK;rw[if_pos c8]
   rw[c8] at d1⊢
   refine ag rfl ?_
   have f4:(hP #[])=bs []:=rfl
   rw[f4]
   have h:Sat σ w (b4++(ndC E (jg numI ch (lz loose its||decide (2<=it.length)) W its.length U)::bC b q n c a7::ndC H (jX b6 it.length b5)::(RM++(KM++(a6++(I++(O++(g++L)))))))):=h.re
   refine Sat.appS e2 h [] (by omega) λg3 h0 w b9 d3 h=>?_
   have h:Sat σ w (ndC E (jg numI ch (lz loose its||decide (2<=it.length)) W its.length U)::bC b q n c a7::ndC H (jX b6 it.length b5)::(b9++(RM++(KM++(a6++(I++(O++(g++L)))))))):=h.re
   refine Sat.st h (k:=0) rfl (by show 5<10;decide) trivial rfl λw h=>?_
   have f2:lz loose (its++ [it])=true:=by rw[d1];simp
   have h:Sat σ w (ndC E (jg numI ch (lz loose (its++ [it])) W its.length U)::bC b q n c a7::ndC H (jX b6 it.length b5)::(b9++(RM++(KM++(a6++(I++(O++(g++L)))))))):=by rw[f2];exact h
   rw[<-e3] at d3⊢
   exact k9 w g3 h0 b9 g d3 h.re
  ·have c8:(loose && !its.isEmpty)=false:=by simpa using c8
   have e3:tK ch loose num its=cV ch loose num its:=by unfold tK;rw[c8];simp
   rw[c8] at d1⊢
   refine ae rfl ?_
   have f2:(lz loose its||decide (2<=it.length))=lz loose (its++ [it]):=by rw[d1];simp
   rw[f2] at h
   have:=k9 w b8 b7 b4 g (by rw[e3];exact e2) h
   rw[e3] at this
   exact this
 have f4:(hP #[32])=bs [32]:=rfl
 unfold aB.k6
 rw[f4]
 refine⟨bs [ch],Sat.ld h (.tail _ (.head _)) (i:=4) rfl,by rw[aJ,aJ,e5];simp,numI,Sat.ld h (.tail _ (.head _)) (i:=3) rfl,?_⟩
 rw[bL]
 by_cases d5:ch=46\/ch=41
 ·have d0:numI=((num:Nat):Int):=by rw[c9.num_,if_pos d5]
  have d2:mkI ch (num+its.length)=C3 (num+its.length)++([ch]++ [32]):=by unfold mkI;rw[if_pos d5];rfl
  have o0:=c9.le
  refine ag (by rw[d0];simp) ⟨numI,Sat.ld h (.tail _ (.head _)) (i:=3) rfl,?_⟩
  have m9:i64.wrap (numI+((its.length:Nat):Int))=((num+its.length:Nat):Int):=by
   rw[d0,i64_in _ (by omega)];omega
  rw[m9]
  refine Am (by omega) ⟨_,rfl,?_⟩
  have m3:=congrArg List.length d2
  rw[lA0] at m3
  refine⟨by rw[aJ,aJ,e5];omega,?_⟩
  rw[bL,<-d2]
  exact k7 w h
 ·have d0:numI= -1:=by rw[c9.num_,if_neg d5]
  have d2:mkI ch (num+its.length)= [ch]++ [32]:=by unfold mkI;rw[if_neg d5];rfl
  refine ae (by rw[d0];rfl) ?_
  rw[<-d2]
  exact k7 w h

theorem yv {u v:N10}{O E g:Nat}{o12:Obj}{c8 b3 Z:List ai}{f5 e9:OA}{g4 e8:Nat}{l1 a6:List (List UInt8)}(h9:SlS f5 g4 l1 c8)(f3:SlS e9 e8 a6 b3)(e2:(l1++ [[]]).length+a6.length<1000000)(f6:a6≠ [])(t6:Sl 10 af (kE O) 1 1 u.C.toList [ndC O u])(h:Sat σ w (c8++(b3++([ndC O u]++(ndC E v::(g,o12)::Z))))){K:OA->Nat->Nat->OA->Nat->Nat->World->Prop}(fin: ∀w d2 cf c9 d3 d1 g3 (Y:List ai),SlS d2 cf (l1++ [[]]++a6) c9->Sl 10 af d3 2 d1 (u.C.toList++v.C.toList) g3->Sat σ w (g3++(c9++(Y++(ndC E v::(g,o12)::Z))))->K d3 2 d1 d2 (l1++ [[]]++a6).length cf w):
 (∃(g5:OA),∃(g6:Nat),∃(h0:Nat),∃c3,(Instr.buildSlice al 1 #[(0,hX (bs []))]).run P w= .ok (hT g5 g6 h0) c3/\
 SameC w c3 (hZ E 0) 10/\
 SameC w c3 (hZ g 7) 1/\
 (∃(g7:OA),∃(h6:Nat),∃(h7:Nat),∃b7,(Builtin.append_ #[al,al] al #[hT f5 l1.length g4,hT g5 g6 h0]).run P c3= .ok (hT g7 h6 h7) b7/\
 SameC c3 b7 (hZ E 0) 10/\
 SameC c3 b7 (hZ g 7) 1/\
 (∃(p5:OA),∃(m6:Nat),∃(s6:Nat),∃e4,(Builtin.append_ #[al,al] al #[hT g7 h6 h7,hT e9 a6.length e8]).run P b7= .ok (hT p5 m6 s6) e4/\
 SameC b7 e4 (hZ E 0) 10/\
 SameC b7 e4 (hZ g 7) 1/\
 ∃(m9:OA),∃(r9:Nat),∃(s7:Nat),∃h8,(Instr.buildSlice au 1 #[(0,v.V)]).run P e4= .ok (hT m9 r9 s7) h8/\
 SameC e4 h8 (hZ g 7) 1/\
 ∃(j1:OA),∃(o4:Nat),∃(m4:Nat),∃t0,(Builtin.append_ #[au,au] au #[hT (kE O) 1 1,hT m9 r9 s7]).run P h8= .ok (hT j1 o4 m4) t0/\
 K j1 o4 m4 p5 m6 s6 t0)/\
 (∃(i8:OA),∃(s4:Nat),∃(m2:Nat),∃e6,(Instr.buildSlice au 1 #[(0,v.V)]).run P b7= .ok (hT i8 s4 m2) e6/\
 SameC b7 e6 (hZ g 7) 1/\
 ∃(o3:OA),∃(o5:Nat),∃(r3:Nat),∃f0,(Builtin.append_ #[al,al] al #[hT g7 h6 h7,hT e9 a6.length e8]).run P e6= .ok (hT o3 o5 r3) f0/\
 SameC e6 f0 (hZ E 0) 10/\
 SameC e6 f0 (hZ g 7) 1/\
 ∃(r1:OA),∃(k0:Nat),∃(q4:Nat),∃s8,(Builtin.append_ #[au,au] au #[hT (kE O) 1 1,hT i8 s4 m2]).run P f0= .ok (hT r1 k0 q4) s8/\
 K r1 k0 q4 o3 o5 r3 s8))/\
 (∃(m8:OA),∃(s5:Nat),∃(i3:Nat),∃e3,(Instr.buildSlice au 1 #[(0,v.V)]).run P c3= .ok (hT m8 s5 i3) e3/\
 SameC c3 e3 (hZ g 7) 1/\
 ∃(q0:OA),∃(p1:Nat),∃(r8:Nat),∃d5,(Builtin.append_ #[al,al] al #[hT f5 l1.length g4,hT g5 g6 h0]).run P e3= .ok (hT q0 p1 r8) d5/\
 SameC e3 d5 (hZ E 0) 10/\
 SameC e3 d5 (hZ g 7) 1/\
 ∃(q8:OA),∃(p4:Nat),∃(r5:Nat),∃f1,(Builtin.append_ #[al,al] al #[hT q0 p1 r8,hT e9 a6.length e8]).run P d5= .ok (hT q8 p4 r5) f1/\
 SameC d5 f1 (hZ E 0) 10/\
 SameC d5 f1 (hZ g 7) 1/\
 ∃(o2:OA),∃(r6:Nat),∃(o6:Nat),∃t2,(Builtin.append_ #[au,au] au #[hT (kE O) 1 1,hT m8 s5 i3]).run P f1= .ok (hT o2 r6 o6) t2/\
 K o2 r6 o6 q8 p4 r5 t2))/\
 (∃(m3:OA),∃(q3:Nat),∃(j0:Nat),∃e5,(Instr.buildSlice au 1 #[(0,v.V)]).run P w= .ok (hT m3 q3 j0) e5/\
 SameC w e5 (hZ g 7) 1/\
 ∃(p3:OA),∃(s1:Nat),∃(r4:Nat),∃e0,(Instr.buildSlice al 1 #[(0,hX (bs []))]).run P e5= .ok (hT p3 s1 r4) e0/\
 SameC e5 e0 (hZ E 0) 10/\
 SameC e5 e0 (hZ g 7) 1/\
 ∃(n2:OA),∃(r7:Nat),∃(m5:Nat),∃d4,(Builtin.append_ #[al,al] al #[hT f5 l1.length g4,hT p3 s1 r4]).run P e0= .ok (hT n2 r7 m5) d4/\
 SameC e0 d4 (hZ E 0) 10/\
 SameC e0 d4 (hZ g 7) 1/\
 ∃(o0:OA),∃(s3:Nat),∃(n0:Nat),∃f2,(Builtin.append_ #[al,al] al #[hT n2 r7 m5,hT e9 a6.length e8]).run P d4= .ok (hT o0 s3 n0) f2/\
 SameC d4 f2 (hZ E 0) 10/\
 SameC d4 f2 (hZ g 7) 1/\
 ∃(s2:OA),∃(m1:Nat),∃(n3:Nat),∃t3,(Builtin.append_ #[au,au] au #[hT (kE O) 1 1,hT m3 q3 j0]).run P f2= .ok (hT s2 m1 n3) t3/\
 K s2 m1 n3 o0 s3 n0 t3):=by
  have i0:l1.length+1<1000000:=by rw[lA0] at e2;simp only[lE0] at e2;omega
  have b5: ∀ {w b6:World} {A B:List ai},Sat σ w A->Sat σ b6 B->ndC E v∈A->ndC E v∈B->SameC w b6 (hZ E 0) 10:=λh i2 m i1=>h.same i2 m i1 10
  have W: ∀ {w b6:World} {A B:List ai},Sat σ w A->Sat σ b6 B->(g,o12)∈A->(g,o12)∈B->SameC w b6 (hZ g 7) 1:=λh i2 m i1=>h.same i2 m i1 1
  have g1: ∀(w:World) (d2:OA) (cf:Nat) (c9:List ai) (bx:Nat),SlS d2 cf (l1++ [[]]++a6) c9->Sat σ w ([ndC O u]++(ndC bx v::(c9++(ndC E v::(g,o12)::Z))))->
   ∃(d3:OA),∃(t4:Nat),∃(d1:Nat),∃a7,(Builtin.append_ #[au,au] au #[hT (kE O) 1 1,hT (kE bx) 1 1]).run P w= .ok (hT d3 t4 d1) a7/\K d3 t4 d1 d2 (l1++ [[]]++a6).length cf a7:=by
   intro w d2 cf c9 bx t7 h
   refine Sat.appNd t6 h (by omega) λd3 d1 a7 g3 t5 h=>?_
   exact fin a7 d2 cf c9 d3 d1 g3 [] t7 t5 h
  refine⟨?_,?_⟩
  ·refine h.buildS [] λt8 t9 b6 e7 f4 U=>⟨b5 h U (by simp) (by simp),W h U (by simp) (by simp),?_,?_⟩
   ·have U:Sat σ b6 (c8++(e7++(b3++([ndC O u]++(ndC E v::(g,o12)::Z))))):=U.re
    refine Sat.appL h9 f4 U (by simp) i0 λq6 c6 a7 g2 e1 y=>⟨b5 U y (by simp) (by simp),W U y (by simp) (by simp),?_,?_⟩
    ·refine Sat.appL e1 f3 y f6 e2 λq7 c7 g0 c4 d0 I=>⟨b5 y I (by simp) (by simp),W y I (by simp) (by simp),?_⟩
     refine Sat.buildN I v λbx b4 H=>⟨W I H (by simp) (by simp),?_⟩
     have H:Sat σ b4 (ndC bx v::(c4++([ndC O u]++(ndC E v::(g,o12)::Z)))):=H
     exact g1 b4 q7 c7 c4 bx d0 H.re
    ·refine Sat.buildN y v λbx b4 H=>⟨W y H (by simp) (by simp),?_⟩
     have H:Sat σ b4 (ndC bx v::(g2++(b3++([ndC O u]++(ndC E v::(g,o12)::Z))))):=H
     have H:Sat σ b4 (g2++(b3++(ndC bx v::([ndC O u]++(ndC E v::(g,o12)::Z))))):=H.re
     refine Sat.appL e1 f3 H f6 e2 λq7 c7 g0 c4 d0 I=>⟨b5 H I (by simp) (by simp),W H I (by simp) (by simp),?_⟩
     exact g1 g0 q7 c7 c4 bx d0 I.re
   ·refine Sat.buildN U v λbx a7 y=>⟨W U y (by simp) (by simp),?_⟩
    have y:Sat σ a7 (ndC bx v::(e7++(c8++(b3++([ndC O u]++(ndC E v::(g,o12)::Z)))))):=y
    have y:Sat σ a7 (c8++(e7++(b3++(ndC bx v::([ndC O u]++(ndC E v::(g,o12)::Z)))))):=y.re
    refine Sat.appL h9 f4 y (by simp) i0 λq6 c6 g0 g2 e1 I=>⟨b5 y I (by simp) (by simp),W y I (by simp) (by simp),?_⟩
    refine Sat.appL e1 f3 I f6 e2 λq7 c7 b4 c4 d0 H=>⟨b5 I H (by simp) (by simp),W I H (by simp) (by simp),?_⟩
    exact g1 b4 q7 c7 c4 bx d0 H.re
  ·refine Sat.buildN h v λbx b6 U=>⟨W h U (by simp) (by simp),?_⟩
   have U:Sat σ b6 (ndC bx v::(c8++(b3++([ndC O u]++(ndC E v::(g,o12)::Z))))):=U
   refine U.buildS [] λt8 t9 a7 e7 f4 y=>⟨b5 U y (by simp) (by simp),W U y (by simp) (by simp),?_⟩
   have y:Sat σ a7 (c8++(e7++(b3++(ndC bx v::([ndC O u]++(ndC E v::(g,o12)::Z)))))):=y.re
   refine Sat.appL h9 f4 y (by simp) i0 λq6 c6 g0 g2 e1 I=>⟨b5 y I (by simp) (by simp),W y I (by simp) (by simp),?_⟩
   refine Sat.appL e1 f3 I f6 e2 λq7 c7 b4 c4 d0 H=>⟨b5 I H (by simp) (by simp),W I H (by simp) (by simp),?_⟩
   exact g1 b4 q7 c7 c4 bx d0 H.re

theorem pf (ls:List LT):(aD [.para ls]).tail=ls.map cw:=by
 show ls.map cw++aD []=_
 rw[aD,lG0]
theorem yT (ls:List LT)(bn:BN):(aD [.para ls,bn]).tail=ls.map cw++ [[]]++be bn:=by
 show ls.map cw++([]::(be bn++aD []))=_
 rw[aD];simp
theorem Fl (d:Nat)(ls:List LT)(y:lsA ls):abS [.para ls]/\smS (d - 1) [.para ls]/\ ∀g,flS g [.para ls]:=⟨⟨y,(λc hc=>by cases hc),trivial⟩,⟨by simp only[smB],trivial⟩,λg=>⟨trivial,trivial⟩⟩
theorem Fk (ls:List LT)(E:OA)(g y:Nat)(us:List Value)(RM KM:List ai)(U:lsA ls)(H:NDs (inT (fh ls)) us KM)(I:Sl 10 af E g y us RM)(O:g<=30):NodeDt (mj 1 (.para ls)) (({kind:=6,s:=1,e:=ls.length}:NH).nd none 0 E g y) (RM++KM):=by
 have e:mj 1 (.para ls)= .mk {kind:=6,s:=1,e:=ls.length} (inT (fh ls)):=by
  rw[mj]
  have:1+ls.length - 1=ls.length:=by omega
  rw[this]
 rw[e]
 exact⟨_,_,none,0,E,g,y,us,RM,KM,rfl,rfl,rfl,by omega,H,I⟩
theorem Fz {d:Nat}{odd loose:Bool}{b b1 g0 y:Nat}{q:OA}{n c:Nat}{vs:List UInt8}{s s':BS}{Y:List ai}{X:OA->Int->Bool->Nat->Nat->Bool->OA->Nat->Nat->Int->Int->WP}{f6:OA}{g2 g1:Nat}{f0 f3 f2:Int}(hd:d<=3)(r8:1<=d)(n2:xm (d - 1))(h5:Rd σ Y q n vs)(g7:s.dp d)(h9:s.kp s')(h1:s.flat=true)(l5:s.fq=true->False)(h:Sat σ w (bC b q n c s'::(ndC y (jX none 0 0)::Y)))(k5: ∀(it:List BN) (W:BS) (h7:OA) (h6:Nat) (h3:List Value) (h2 h4:List ai) (h0:OA) (g6:Nat) (g3 o2:List ai) (w:World),abS it->it≠ []->it.length<=2->smS (d - 1) it->(s.flat=true->(∃ls t,it= .para ls::t)/\flS s.fq it/\(s.fq=true->it.length=1))->s.kp W->SlS h0 g6 (aD it).tail g3->NDs (mR 1 it) h3 h4->Sl 10 af h7 it.length h6 h3 h2->
  Sat σ w (bC b q n c W::ndC y (jX h7 it.length h6)::(g3++(h2++(h4++(o2++Y)))))->aB.k5 R X (kE b) (d:Nat) odd b1 g0 loose f6 g2 g1 f0 y h0 (aD it).tail.length g6 f3 f2 w):
 aB.k4 R X (kE b) (d:Nat) odd b1 g0 loose f6 g2 g1 f0 y f3 f2 true w:=by
 have r3:i64.wrap (((d:Nat):Int) - 1)=((d - 1:Nat):Int):=by rw[gr (by omega) (by omega)]
 have q0:s'.flat=true:=by rw[h9.1];exact h1
 have n1:Rd σ (ndC y (jX none 0 0)::Y) q n vs:=h5.up λw h=>h.less [ndC y (jX none 0 0)]
 refine ag rfl (aa ⟨_,Sat.ld h (.head _) (i:=3) rfl,?_⟩)
 refine ag q0 ?_
 refine pF n1 h λw ls W o3 q3 I d1 d5 d3 j1 E PK e7 p1 g4 m8 k0 m2 h=>⟨_,_,_,_,_,_,_,_,_,_,_,_,_,_,_,_,_,rfl,?_⟩
 obtain⟨m9,i3,m5⟩:=Fl d ls e7
 have r6:=e7.2.1
 refine Sat.bx h λH w h=>?_
 have h:Sat σ w (ndC H {}::(I++(E++(PK++(bC b q n c W::(ndC y (jX none 0 0)::Y)))))):=h
 refine h.st10 0 {} (({kind:=6}:NH).nd none 0 d1 d5 d3) λw h=>?_
 have h:Sat σ w (ndC H (({kind:=6}:NH).nd none 0 d1 d5 d3)::(I++(E++(PK++(bC b q n c W::(ndC y (jX none 0 0)::Y)))))):=h
 refine Sat.st h (k:=0) rfl (by show 8<10;decide) trivial rfl λw h=>?_
 refine Sat.st h (k:=0) rfl (by show 9<10;decide) trivial rfl λw h=>h.tk λw h=>?_
 rw[lS0] at h
 have h:Sat σ w (ndC H (({kind:=6,s:=1,e:=ls.length}:NH).nd none 0 d1 d5 d3)::(I++(E++(PK++(bC b q n c W::(ndC y (jX none 0 0)::Y)))))):=h
 have e6:=Fk ls d1 d5 d3 j1 E PK e7 m8 k0 m2
 revert h e6
 generalize ({kind:=6,s:=1,e:=ls.length}:NH).nd none 0 d1 d5 d3=u
 intro h e6
 refine h.ldB10 u (.head _) ?_
 refine Sat.buildN h u λg w h=>?_
 have h:Sat σ w (ndC g u::ndC H u::(I++(E++(PK++(bC b q n c W::(ndC y (jX none 0 0)::Y)))))):=h
 have h:Sat σ w (ndC y (jX none 0 0)::ndC g u::ndC H u::(I++(E++(PK++(bC b q n c W::Y))))):=h.re
 refine Sat.st h (k:=0) rfl (by show 7<10;decide) trivial rfl λw h=>?_
 have h:Sat σ w (ndC y (jX (kE g) 1 1)::ndC g u::ndC H u::(I++(E++(PK++(bC b q n c W::Y))))):=h
 have h:Sat σ w (bC b q n c W::(ndC y (jX (kE g) 1 1)::ndC g u::ndC H u::(I++(E++(PK++Y))))):=h.re
 have g5:Rd σ (ndC y (jX (kE g) 1 1)::ndC g u::ndC H u::(I++(E++(PK++Y)))) q n vs:=h5.up λw h=>h.less (ndC y (jX (kE g) 1 1)::ndC g u::ndC H u::(I++(E++PK)))
 refine eQ (k:=2) g5 (by omega) (by omega) h λw r h8 hr q8 h=>⟨_,rfl,?_⟩
 have a7:=h9.trans (p1.kp.trans q8.kp)
 refine bM (λ_=>?_) λ_=>?_
 ·rw[r3]
  refine n2 odd g5 ⟨(a7.dp g7).1,by have:=(a7.dp g7).2;omega⟩ h λw bn V s3 s1 e3 d2 p4 d0 c3 c4 n3 U O e1 o6 i8 o0 n0 j0 r9 h=>⟨_,_,_,_,_,_,_,_,_,_,_,_,_,_,_,_,_,rfl,?_⟩
  have m3:=a7.trans o6
  obtain⟨r5,r4,m1⟩:=tO (by omega) e1.ab e1.sm
  refine Sat.bx h λc9 w h=>?_
  have h:Sat σ w (ndC c9 {}::(e3++(U++(O++(bC b q n c V::(ndC y (jX (kE g) 1 1)::ndC g u::ndC H u::(I++(E++(PK++Y))))))))):=h
  refine h.st10 0 {} (d2.nd none 0 d0 c3 c4) λw h=>?_
  have h:Sat σ w (ndC c9 (d2.nd none 0 d0 c3 c4)::(e3++(U++(O++(bC b q n c V::(ndC y (jX (kE g) 1 1)::ndC g u::ndC H u::(I++(E++(PK++Y))))))))):=h
  have p5:i64.wrap ((((ls.map cw).length:Nat):Int)+2)=((ls.length+2:Nat):Int):=by
   rw[lS0,i64_in _ (by omega)];omega
  have o4:i64.wrap (i64.wrap ((((ls.map cw).length:Nat):Int)+1)+(((be bn).length:Nat):Int))=((ls.length+2+(be bn).length - 1:Nat):Int):=by
   rw[lS0,aN (by omega),i64_in _ (by omega)];omega
  rw[p5,o4]
  refine Sat.st h (k:=0) rfl (by show 8<10;decide) trivial rfl λw h=>?_
  refine Sat.st h (k:=0) rfl (by show 9<10;decide) trivial rfl λw h=>h.tk λw h=>?_
  have h:Sat σ w (ndC c9 (({d2 with s:=ls.length+2,e:=ls.length+2+(be bn).length - 1}:NH).nd none 0 d0 c3 c4)::(e3++(U++(O++(bC b q n c V::(ndC y (jX (kE g) 1 1)::ndC g u::ndC H u::(I++(E++(PK++Y))))))))):=h
  have f5:NodeDt (mj (1+(ls.map cw).length+1) bn) (({d2 with s:=ls.length+2,e:=ls.length+2+(be bn).length - 1}:NH).nd none 0 d0 c3 c4) (U++O):=by
   have e:1+(ls.map cw).length+1=ls.length+2:=by rw[lS0];omega
   rw[e,o0.2.2 _ (by omega)]
   exact⟨_,p4,none,0,d0,c3,c4,n3,U,O,rfl,rfl,rfl,by omega,n0,j0⟩
  revert h f5
  generalize ({d2 with s:=ls.length+2,e:=ls.length+2+(be bn).length - 1}:NH).nd none 0 d0 c3 c4=v
  intro h f5
  refine⟨kE g,1,1,Sat.ld (i:=7) (cs:=(jX (kE g) 1 1).C.toList) (e:=af) h (by simp) rfl,?_⟩
  refine h.ldB10 v (.head _) ?_
  have done: ∀(w:World) (b6:OA) (cf:Nat) (a6:List ai) (c8:OA) (b5:Nat) (b4 d4:List ai),SlS b6 cf (ls.map cw++ [[]]++be bn) a6->Sl 10 af c8 2 b5 (u.C.toList++v.C.toList) b4->
   Sat σ w (ndC y (jX (kE g) 1 1)::(a6++(b4++(d4++(U++(O++(bC b q n c V::(E++(PK++Y)))))))))->
   stV w (hZ y 7) (hT c8 2 b5) λw=>aB.k5 R X (kE b) (d:Nat) odd b1 g0 loose f6 g2 g1 f0 y b6 (ls.map cw++ [[]]++be bn).length cf f3 f2 w:=by
   intro w b6 cf a6 c8 b5 b4 d4 f4 f1 h
   refine Sat.st h (k:=0) rfl (by show 7<10;decide) trivial rfl λw h=>?_
   have h:Sat σ w (ndC y (jX c8 2 b5)::(a6++(b4++(d4++(U++(O++(bC b q n c V::(E++(PK++Y))))))))):=h
   have h:Sat σ w (bC b q n c V::ndC y (jX c8 2 b5)::(a6++(b4++(((E++PK)++(U++O))++(d4++Y))))):=h.re
   have i2:abS [.para ls,bn]:=⟨e7,(λc _ hc=>by cases hc),e1.ab,(λc hc=>by cases hc),trivial⟩
   have m4:mR 1 [BN.para ls,bn]= [mj 1 (.para ls),mj (1+(ls.map cw).length+1) bn]:=by rw[mR,mR,mR];rfl
   have:=k5 [.para ls,bn] V c8 b5 _ b4 ((E++PK)++(U++O)) b6 cf a6 d4 w i2 (by simp) (by simp) ⟨by simp only[smB],e1.sm,trivial⟩ (λ_=>⟨⟨ls,[bn],rfl⟩,⟨trivial,?_,trivial⟩,λr1=>(l5 r1).elim⟩) m3 (by rw[yT];exact f4) (by rw[m4];exact e6.cons f5.one) f1 h
   ·rw[yT] at this
    exact this
   ·have:=e1.fl (by rw[a7.1];exact h1)
    unfold BS.fq at this⊢
    rw[a7.2] at this
    exact this
  have q4:(hP #[])=bs []:=rfl
  rw[q4]
  have m6:Sl 10 af (kE g) 1 1 u.C.toList [ndC g u]:=slN
  have r7:(ls.map cw).length<1000:=by rw[lS0];omega
  have h:Sat σ w (I++(e3++([ndC g u]++(ndC c9 v::ndC y (jX (kE g) 1 1)::(ndC H u::(U++(O++(bC b q n c V::(E++(PK++Y)))))))))):=h.re
  refine yv (Z:=ndC H u::(U++(O++(bC b q n c V::(E++(PK++Y)))))) (o12:=cel (jX (kE g) 1 1).C.toList af) g4 i8 (by simp only[lA0,lE0];omega) m1 m6 h λw b6 cf a6 p3 o5 i0 i1 f4 f1 h=>?_
  have h:Sat σ w (i0++(a6++(i1++(ndC c9 v::ndC y (jX (kE g) 1 1)::(ndC H u::(U++(O++(bC b q n c V::(E++(PK++Y)))))))))):=h
  exact done w b6 cf a6 p3 o5 i0 (i1++ [ndC c9 v,ndC H u]) f4 f1 h.re
 ·have h:Sat σ w (bC b q n c h8::ndC y (jX (kE g) 1 1)::(I++([ndC g u]++((E++PK)++([ndC H u]++Y))))):=h.re
  have:=k5 [.para ls] h8 (kE g) 1 u.C.toList [ndC g u] (E++PK) o3 q3 I [ndC H u] w m9 (by simp) (by simp) i3 (λ_=>⟨⟨ls,[],rfl⟩,m5 _,λ_=>rfl⟩) a7 (by rw[pf];exact g4) (by rw[mR,mR];exact e6.one) slN h
  rw[pf] at this
  exact this
theorem Ft {d:Nat}(hd:d<=3)(o0:1<=d->xm (d - 1)):GV d:=by
 intro σ w L R b q n c vs s odd h1 i8 h r9
 have s8:i64.max=9223372036854775807:=rfl
 refine aB.sound ?_
 refine Sat.bx h λb1 w h=>?_
 refine Sat.bx h λg w h=>?_
 have h:Sat σ w (ndC g {}::ndC b1 {}::bC b q n c s::L):=h
 refine h.st10 0 {} (jg (-1) 45 false none 0 0) λw h=>?_
 have h:Sat σ w (ndC g (jg (-1) 45 false none 0 0)::ndC b1 {}::bC b q n c s::L):=h
 have k3: ∀(ch:UInt8) (num:Nat) (numI:Int) (loose:Bool) (e8:BS) (w:World),MkP odd ch num numI->(s.flat=true->s.fq=true->loose=false)->s.kp e8->Sat σ w (bC b q n c e8::ndC g (jg numI ch false none 0 0)::ndC b1 {}::L)->
  aB.k3 R (kE b) (d:Nat) odd b1 g loose w:=by
  intro ch num numI loose e8 w d3 m9 j1 h
  refine eQ (k:=3) (h1.up λw h=>h.less [ndC g (jg numI ch false none 0 0),ndC b1 {}]) (by omega) (by omega) h λw m H t5 e7 h=>⟨_,rfl,?_⟩
  have s5:i64.wrap (1+((m:Nat):Int))=((m+1:Nat):Int):=by
   rw[i64_in _ (by omega)];omega
  rw[s5]
  intro X p1
  have q8: ∀k (its:List (List BN)) (d2:OA) (d1:Nat) (I:List ai) (E:OA) (y:Nat) (us:List Value) (RM KM:List ai) (s':BS) (w:World),its.length+k=m+1->abJ its->smJ (d - 1) its->(s.flat=true->flJ s.fq its)->(s.flat=true->s.fq=true->its.all (λit=>it.length==1)=true)->s.kp s'->SlS d2 d1 (cV ch loose num its) I->NDs (xu loose its) us KM->Sl 10 af E its.length y us RM->
   Sat σ w (bC b q n c s'::ndC g (jg numI ch (lz loose its) E its.length y)::(I++(RM++(KM++(ndC b1 {}::L)))))->X (kE b) (d:Nat) odd b1 g loose d2 (cV ch loose num its).length d1 ((m+1:Nat):Int) ((its.length:Nat):Int) w:=by
   intro k
   induction k with
   |zero=>
    intro its d2 d1 I E y us RM KM s' w p3 g3 g5 i0 h9 e9 f2 d5 e3 h
    refine p1 _ _ _ _ _ _ _ _ _ _ _ _ (ae (by rw[decide_eq_false_iff_not];omega) ?_)
    refine h.tk λw h=>?_
    refine h.ldB10 (jg numI ch (lz loose its) E its.length y) (.tail _ (.head _)) ?_
    have h:Sat σ w (ndC b1 {}::ndC g (jg numI ch (lz loose its) E its.length y)::(I++(RM++(KM++(bC b q n c s'::L))))):=h.re
    refine h.st10 0 {} (jg numI ch (lz loose its) E its.length y) λw h=>?_
    have h:Sat σ w (ndC b1 (jg numI ch (lz loose its) E its.length y)::ndC g (jg numI ch (lz loose its) E its.length y)::(I++(RM++(KM++(bC b q n c s'::L))))):=h
    refine h.ldB10 _ (.head _) ?_
    have e5:its≠ []:=by rintro rfl;simp at p3
    refine r9 w (.list ch num loose its) s' d2 d1 I {kind:=3,num:=numI,char:= [ch],loose:=lz loose its} (xu loose its) E its.length y us RM KM ⟨⟨d3.ch4,by have:=d3.le;omega,e5,g3⟩,?_,?_,λO=>⟨λc3=>⟨m9 O c3,h9 O c3⟩,i0 O⟩⟩ e9 f2 ⟨rfl,rfl,λf O=>?_⟩ d5 e3 (by omega) (h.less [ndC b1 (jg numI ch (lz loose its) E its.length y),ndC g (jg numI ch (lz loose its) E its.length y)])
    ·simp only[smB]
     refine⟨by omega,by omega,?_⟩
     have e:d+1 - 2=d - 1:=by omega
     rw[e];exact g5
    ·intro s3 r3
     have e:some ch=some s3:=r3
     obtain rfl:=Option.some.inj e
     have c8:=d3.ch_
     cases odd
     ·exact c8
     ·exact c8
    ·rw[mj,d3.num_];rfl
   |succ k o6=>
    intro its d2 d1 I E y us RM KM s' w p3 g3 g5 i0 h9 e9 f2 d5 e3 h
    have m6:=(Ax.2.2 its g3).1
    have p4: ∀x∈its,(aD x).tail≠ []:=λx s6=>by
     obtain⟨c0,r0,rest,e,_⟩:=(pt.2.2 its m6 x s6).2.2
     rw[e];simp
    have m8:(cV ch loose num its).length<=2000:=by
     by_cases o3:its= []
     ·subst o3;simp[cV]
     ·have t6:=((qp.2.2 its m6 (d - 1) g5).1 ch loose num).2 o3
      have t4:=Ef (show d - 1<=3 by omega)
      have t3:=lL5 (show its.length<=2 by omega) (show 2*NBd (d - 1)+2<=648 by omega)
      omega
    refine p1 _ _ _ _ _ _ _ _ _ _ _ _ (ag (by rw[decide_eq_true_eq];omega) ?_)
    refine Sat.bx h λU w h=>?_
    have h:Sat σ w (ndC U {}::bC b q n c s'::ndC g (jg numI ch (lz loose its) E its.length y)::(I++(RM++(KM++(ndC b1 {}::L))))):=h
    refine h.st10 0 {} (jX none 0 0) λw h=>?_
    have h:Sat σ w (ndC U (jX none 0 0)::bC b q n c s'::ndC g (jg numI ch (lz loose its) E its.length y)::(I++(RM++(KM++(ndC b1 {}::L))))):=h
    have h:Sat σ w (bC b q n c s'::(ndC U (jX none 0 0)::ndC g (jg numI ch (lz loose its) E its.length y)::(I++(RM++(KM++(ndC b1 {}::L)))))):=h.re
    have n3:Rd σ (ndC U (jX none 0 0)::ndC g (jg numI ch (lz loose its) E its.length y)::(I++(RM++(KM++(ndC b1 {}::L))))) q n vs:=h1.up λw h=>h.less (ndC U (jX none 0 0)::ndC g (jg numI ch (lz loose its) E its.length y)::(I++(RM++(KM++ [ndC b1 {}]))))
    have k6: ∀(it:List BN) (H:BS) (b4:OA) (W:Nat) (c9:List Value) (b6 b9:List ai) (c5:OA) (c4:Nat) (b5 d0:List ai) (w:World),abS it->it≠ []->it.length<=2->smS (d - 1) it->(s.flat=true->(∃ls t,it= .para ls::t)/\flS s.fq it/\(s.fq=true->it.length=1))->s.kp H->SlS c5 c4 (aD it).tail b5->NDs (mR 1 it) c9 b9->Sl 10 af b4 it.length W c9 b6->
     Sat σ w (bC b q n c H::ndC g (jg numI ch (lz loose its||decide (2<=it.length)) E its.length y)::ndC U (jX b4 it.length W)::(I++(RM++(KM++(b5++(b6++(b9++(d0++(ndC b1 {}::L)))))))))->
     aB.k6 R X (kE b) (d:Nat) odd b1 g loose d2 (cV ch loose num its).length d1 ((its.length:Nat):Int) U c5 (aD it).tail.length c4 ((m+1:Nat):Int) ((its.length:Nat):Int) w:=by
     intro it H b4 W c9 b6 b9 c5 c4 b5 d0 w f3 e5 f5 f0 e4 V g4 g1 g2 h
     have o5:(its++ [it]).length=its.length+1:=by simp
     have O:=qp.2.1 it (Ax.2.1 it f3).1 (d - 1) f0
     by_cases t2:d=0
     ·refine BW (d:=d) (by omega) (by omega) d3 (by omega) m8 p4 f3 e5 f5 (Be.2.1 it (d - 1) d (by omega) f0) f2 d5 e3 g4 g1 g2 h (λw d2 d1 I E y us RM KM f2 d5 e3 h=>?_) rfl
      exact o6 (its++ [it]) d2 d1 I E y us RM KM H w (by rw[o5];omega) (vo its it g3 e5 f3) (ux its (d - 1) it g5 f5 f0) (λO=>u4 its it (i0 O) (e4 O).1 (e4 O).2.1) (λO c3=>by rw[lD5,h9 O c3];simp[(e4 O).2.2 c3]) V f2 d5 e3 h
     ·refine BW (d:=d) (by omega) (by omega) d3 (by omega) m8 p4 f3 e5 f5 (Be.2.1 it (d - 1) d (by omega) f0) f2 d5 e3 g4 g1 g2 h (λw d2 d1 I E y us RM KM f2 d5 e3 h=>?_) rfl
      exact o6 (its++ [it]) d2 d1 I E y us RM KM H w (by rw[o5];omega) (vo its it g3 e5 f3) (ux its (d - 1) it g5 f5 f0) (λO=>u4 its it (i0 O) (e4 O).1 (e4 O).2.1) (λO c3=>by rw[lD5,h9 O c3];simp[(e4 O).2.2 c3]) V f2 d5 e3 h
    have k5: ∀(it:List BN) (H:BS) (b4:OA) (W:Nat) (c9:List Value) (b6 b9:List ai) (c5:OA) (c4:Nat) (b5 d0:List ai) (w:World),abS it->it≠ []->it.length<=2->smS (d - 1) it->(s.flat=true->(∃ls t,it= .para ls::t)/\flS s.fq it/\(s.fq=true->it.length=1))->s.kp H->SlS c5 c4 (aD it).tail b5->NDs (mR 1 it) c9 b9->Sl 10 af b4 it.length W c9 b6->
     Sat σ w (bC b q n c H::ndC g (jg numI ch (lz loose its) E its.length y)::ndC U (jX b4 it.length W)::(I++(RM++(KM++(b5++(b6++(b9++(d0++(ndC b1 {}::L)))))))))->
     aB.k5 R X (kE b) (d:Nat) odd b1 g loose d2 (cV ch loose num its).length d1 ((its.length:Nat):Int) U c5 (aD it).tail.length c4 ((m+1:Nat):Int) ((its.length:Nat):Int) w:=by
     intro it H b4 W c9 b6 b9 c5 c4 b5 d0 w f3 e5 f5 f0 e4 V g4 g1 g2 h
     refine⟨lz loose its,Sat.ld h (.tail _ (.head _)) (i:=5) rfl,bM (λhz=>?_) λhz=>?_⟩
     ·refine Sat.st h (k:=1) rfl (by show 5<10;decide) trivial rfl λw h=>?_
      have h:Sat σ w (bC b q n c H::ndC g (jg numI ch true E its.length y)::ndC U (jX b4 it.length W)::(I++(RM++(KM++(b5++(b6++(b9++(d0++(ndC b1 {}::L))))))))):=h
      have e:(lz loose its||decide (2<=it.length))=true:=by rw[hz];rfl
      exact k6 it H b4 W c9 b6 b9 c5 c4 b5 d0 w f3 e5 f5 f0 e4 V g4 g1 g2 (by rw[e];exact h)
     ·refine⟨b4,it.length,W,Sat.ld h (.tail _ (.tail _ (.head _))) (i:=7) rfl,?_⟩
      refine Sat.st h (k:=1) rfl (by show 5<10;decide) trivial rfl λw h=>?_
      have h:Sat σ w (bC b q n c H::ndC g (jg numI ch (decide (((it.length:Nat):Int)>1)) E its.length y)::ndC U (jX b4 it.length W)::(I++(RM++(KM++(b5++(b6++(b9++(d0++(ndC b1 {}::L))))))))):=h
      have e:(lz loose its||decide (2<=it.length))=decide (((it.length:Nat):Int)>1):=by
       rw[hz,Bool.false_or,decide_eq_decide];omega
      exact k6 it H b4 W c9 b6 b9 c5 c4 b5 d0 w f3 e5 f5 f0 e4 V g4 g1 g2 (by rw[e];exact h)
    have r6: ∀ls,lsA ls->abS [.para ls]/\smS (d - 1) [.para ls]/\ ∀o2,flS o2 [.para ls]:=λls g6=>⟨⟨g6,(λc hc=>by cases hc),trivial⟩,⟨by simp only[smB],trivial⟩,λo2=>⟨trivial,trivial⟩⟩
    have r1: ∀(ls:List LT) (E:OA) (h3 y:Nat) (us:List Value) (RM KM:List ai),lsA ls->NDs (inT (fh ls)) us KM->Sl 10 af E h3 y us RM->h3<=30->NodeDt (mj 1 (.para ls)) (({kind:=6,s:=1,e:=ls.length}:NH).nd none 0 E h3 y) (RM++KM):=by
     intro ls E h3 y us RM KM g6 d5 e3 t0
     have e:mj 1 (.para ls)= .mk {kind:=6,s:=1,e:=ls.length} (inT (fh ls)):=by
      rw[mj]
      have:1+ls.length - 1=ls.length:=by omega
      rw[this]
     rw[e]
     exact⟨_,_,none,0,E,h3,y,us,RM,KM,rfl,rfl,rfl,by omega,d5,e3⟩
    have r4:decide (((d:Nat):Int)>0)=decide (0<d):=by rw[decide_eq_decide];omega
    rw[r4]
    by_cases g0:(loose && decide (0<d))=true
    ·rw[g0]
     have l5:1<=d:=by
      have:=(lM1 _ _▸g0).2
      rw[decide_eq_true_eq] at this
      exact this
     have q3:loose=true:=(lM1 _ _▸g0).1
     have s7:i64.wrap (((d:Nat):Int) - 1)=((d - 1:Nat):Int):=by rw[gr (by omega) (by omega)]
     by_cases O:s'.flat=true
     ·have f6:s.flat=true:=by rw[<-e9.1];exact O
      have q4:s.fq=true->False:=λc3=>by have:=m9 f6 c3;rw[q3] at this;cases this
      refine Fz (Y:=ndC g (jg numI ch (lz loose its) E its.length y)::(I++(RM++(KM++(ndC b1 {}::L))))) hd l5 (o0 l5) (h1.up λw h=>h.less (ndC g (jg numI ch (lz loose its) E its.length y)::(I++(RM++(KM++ [ndC b1 {}]))))) i8 e9 f6 q4 h λit H b4 W c9 b6 b9 c5 c4 b5 d0 w a1 a2 a3 a4 a5 s4 r8 a8 a9 h=>?_
      exact k5 it H b4 W c9 b6 b9 c5 c4 b5 d0 w a1 a2 a3 a4 a5 s4 r8 a8 a9 h.re
     ·refine ag rfl (aa ⟨_,Sat.ld h (.head _) (i:=3) rfl,ae (by simpa using O) ?_⟩)
      rw[s7]
      refine sP (d:=d - 1) (most:=2) (by omega) (by omega) (by omega) (o0 l5) n3 ⟨(e9.dp i8).1,by have:=(e9.dp i8).2;omega⟩ h λw l H m3 m4 c1 n1 n0 q0 j0 k0 i1 e7 i2 m1 i3 h=>⟨_,_,_,_,_,_,rfl,?_⟩
      have h:Sat σ w (ndC U (jX none 0 0)::bC b q n c H::ndC g (jg numI ch (lz loose its) E its.length y)::(I++(RM++(KM++(c1++(j0++(k0++([]++(ndC b1 {}::L))))))))):=h.re
      refine Sat.st h (k:=0) rfl (by show 7<10;decide) trivial rfl λw h=>?_
      have h:Sat σ w (ndC U (jX n1 l.length n0)::bC b q n c H::ndC g (jg numI ch (lz loose its) E its.length y)::(I++(RM++(KM++(c1++(j0++(k0++([]++(ndC b1 {}::L))))))))):=h
      refine k5 l H n1 n0 q0 j0 k0 m3 m4 c1 [] w i1.ab i1.ne i1.len i1.sm (λf6=>?_) (e9.trans e7) i2 m1 i3 h.re
      exact absurd (by rw[e9.1];exact f6) O
    ·have g0:(loose && decide (0<d))=false:=by simpa using g0
     rw[g0]
     refine ae rfl ?_
     refine pF n3 h λw ls H m3 m4 c1 g7 h5 h4 q1 e6 PK g6 e7 i2 m1 i3 q5 h=>⟨_,_,_,_,_,_,_,_,_,_,_,_,_,_,_,_,_,rfl,?_⟩
     obtain⟨r7,p5,r5⟩:=r6 ls g6
     refine Sat.bx h λf1 w h=>?_
     have h:Sat σ w (ndC f1 {}::(c1++(e6++(PK++(bC b q n c H::(ndC U (jX none 0 0)::ndC g (jg numI ch (lz loose its) E its.length y)::(I++(RM++(KM++(ndC b1 {}::L)))))))))):=h
     refine h.st10 0 {} (({kind:=6}:NH).nd none 0 g7 h5 h4) λw h=>?_
     have h:Sat σ w (ndC f1 (({kind:=6}:NH).nd none 0 g7 h5 h4)::(c1++(e6++(PK++(bC b q n c H::(ndC U (jX none 0 0)::ndC g (jg numI ch (lz loose its) E its.length y)::(I++(RM++(KM++(ndC b1 {}::L)))))))))):=h
     refine Sat.st h (k:=0) rfl (by show 8<10;decide) trivial rfl λw h=>?_
     refine Sat.st h (k:=0) rfl (by show 9<10;decide) trivial rfl λw h=>h.tk λw h=>?_
     rw[lS0] at h
     have h:Sat σ w (ndC f1 (({kind:=6,s:=1,e:=ls.length}:NH).nd none 0 g7 h5 h4)::(c1++(e6++(PK++(bC b q n c H::(ndC U (jX none 0 0)::ndC g (jg numI ch (lz loose its) E its.length y)::(I++(RM++(KM++(ndC b1 {}::L)))))))))):=h
     have m2:=r1 ls g7 h5 h4 q1 e6 PK g6 m1 i3 q5
     revert h m2
     generalize ({kind:=6,s:=1,e:=ls.length}:NH).nd none 0 g7 h5 h4=u
     intro h m2
     refine h.ldB10 u (.head _) ?_
     refine Sat.buildN h u λf4 w h=>?_
     have h:Sat σ w (ndC f4 u::ndC f1 u::(c1++(e6++(PK++(bC b q n c H::(ndC U (jX none 0 0)::ndC g (jg numI ch (lz loose its) E its.length y)::(I++(RM++(KM++(ndC b1 {}::L)))))))))):=h
     have h:Sat σ w (ndC U (jX none 0 0)::ndC f4 u::ndC f1 u::(c1++(e6++(PK++(bC b q n c H::(ndC g (jg numI ch (lz loose its) E its.length y)::(I++(RM++(KM++(ndC b1 {}::L)))))))))):=h.re
     refine Sat.st h (k:=0) rfl (by show 7<10;decide) trivial rfl λw h=>?_
     have h:Sat σ w (ndC U (jX (kE f4) 1 1)::ndC f4 u::ndC f1 u::(c1++(e6++(PK++(bC b q n c H::(ndC g (jg numI ch (lz loose its) E its.length y)::(I++(RM++(KM++(ndC b1 {}::L)))))))))):=h
     have m5:(lz loose its||decide (2<=([BN.para ls]:List BN).length))=lz loose its:=by simp
     have h:Sat σ w (bC b q n c H::ndC g (jg numI ch (lz loose its) E its.length y)::ndC U (jX (kE f4) 1 1)::(I++(RM++(KM++(c1++([ndC f4 u]++((e6++PK)++([ndC f1 u]++(ndC b1 {}::L))))))))):=h.re
     have:=k6 [.para ls] H (kE f4) 1 u.C.toList [ndC f4 u] (e6++PK) m3 m4 c1 [ndC f1 u] w r7 (by simp) (by simp) p5 (λ_=>⟨⟨ls,[],rfl⟩,r5 _,λ_=>rfl⟩) (e9.trans e7.kp) (by rw[pf];exact i2) (by rw[mR,mR];exact m2.one) slN (by rw[m5];exact h)
     rw[pf] at this
     exact this
  have m5:lz loose []=false:=by cases loose<;>rfl
  exact q8 (m+1) [] none 0 [] none 0 [] [] [] H w (by simp) trivial trivial (λ_=>trivial) (λ_ _=>rfl) (j1.trans e7.kp) SlS.nil .nil (Sl.nil 10 af) (by rw[m5];exact h)
 have k2: ∀(ch:UInt8) (num:Nat) (numI:Int) (e8:BS) (w:World),MkP odd ch num numI->s.kp e8->Sat σ w (bC b q n c e8::ndC g (jg numI ch false none 0 0)::ndC b1 {}::L)->aB.k2 R (kE b) (d:Nat) odd b1 g w:=by
  intro ch num numI e8 w d3 j1 h
  refine eQ (k:=2) (h1.up λw h=>h.less [ndC g (jg numI ch false none 0 0),ndC b1 {}]) (by omega) (by omega) h λw r H hr e7 h=>⟨_,rfl,?_⟩
  have V:=j1.trans e7.kp
  refine bM (λ_=>aa ⟨_,Sat.ld h (.head _) (i:=3) rfl,bM (λO=>aa ⟨_,Sat.ld h (.head _) (i:=4) rfl,?_⟩) λO=>?_⟩) λ_=>k3 ch num numI false H w d3 (λ_ _=>rfl) V h
  ·refine k3 ch num numI _ H w d3 (λ_ c3=>?_) V h
   have:decide (H.deep>0)=true:=by
    have e:H.deep=s.deep:=V.2
    rw[e];exact c3
   rw[this];rfl
  ·refine k3 ch num numI true H w d3 (λf6 _=>?_) V h
   rw[V.1,f6] at O
   cases O
 have k1: ∀(d4:UInt8) (w:World),(if odd then d4=43 else d4=45)->Sat σ w (ndC g (jg (-1) d4 false none 0 0)::ndC b1 {}::bC b q n c s::L)->aB.k1 R (kE b) (d:Nat) odd b1 g w:=by
  intro d4 w c8 h
  have h:Sat σ w (bC b q n c s::ndC g (jg (-1) d4 false none 0 0)::ndC b1 {}::L):=h.re
  have n2:Rd σ (ndC g (jg (-1) d4 false none 0 0)::ndC b1 {}::L) q n vs:=h1.up λw h=>h.less [ndC g (jg (-1) d4 false none 0 0),ndC b1 {}]
  refine eQ (k:=2) n2 (by omega) (by omega) h λw r e8 hr o4 h=>⟨_,rfl,?_⟩
  refine bM (λ_=>?_) λ_=>k2 d4 0 (-1) e8 w ⟨?_,?_,by omega⟩ o4.kp h
  ·refine eQ (k:=30) n2 (by omega) (by omega) h λw num H s9 e7 h=>⟨_,rfl,?_⟩
   refine Sat.st h (k:=1) rfl (by show 3<10;decide) trivial rfl λw h=>?_
   refine Sat.st h (k:=1) rfl (by show 4<10;decide) trivial rfl λw h=>?_
   have h:Sat σ w (bC b q n c H::ndC g (jg ((num:Nat):Int) 46 false none 0 0)::ndC b1 {}::L):=h
   have V:=o4.kp.trans e7.kp
   cases odd with
   |true=>
    refine ag rfl ?_
    refine Sat.st h (k:=1) rfl (by show 4<10;decide) trivial rfl λw h=>?_
    exact k2 41 num num H w ⟨.inr rfl,rfl,by omega⟩ V h
   |false=>exact ae rfl (k2 46 num num H w ⟨.inr rfl,rfl,by omega⟩ V h)
  ·cases odd
   ·exact .inl c8
   ·exact .inl c8
  ·cases odd
   ·have c8:d4=45:=c8
    subst c8;rfl
   ·have c8:d4=43:=c8
    subst c8;rfl
 cases odd with
 |true=>
  refine ag rfl ?_
  refine Sat.st h (k:=0) rfl (by show 4<10;decide) trivial rfl λw h=>?_
  exact k1 43 w rfl h
 |false=>exact ae rfl (k1 45 w rfl h)
theorem CF: ∀d,d<=3->xm d:=by
 intro d
 induction d using Nat.strongRecOn with
 |_ d g=>
  intro hd
  refine D0 hd (λy=>sP (by omega) (by omega) (by omega) (g (d - 1) (by omega) (by omega))) λy=>Ft (by omega) λE=>g (d - 1 - 1) (by omega) (by omega)
theorem Ar {d most:Nat}(hd:d<=3)(g:1<=most)(y:most<=4):yO d most:=sP hd g y (CF d hd)
def ni (R:EP)(w:World):Prop:=
 box w #[hV false,hV false,hV false,hV false,hV false,hV false,hV false,hV false,hV false,hV false] fe λb1 c2=>
 stV c2 (hZ b1 0) (hV false) λb8=>
 stV b8 (hZ b1 1) (hV false) λb5=>
 stV b5 (hZ b1 2) (hV false) λb7=>
 stV b7 (hZ b1 3) (hV false) λb6=>
 stV b6 (hZ b1 4) (hV false) λb9=>
 stV b9 (hZ b1 5) (hV false) λc3=>
 stV c3 (hZ b1 6) (hV false) λc1=>
 stV c1 (hZ b1 7) (hV false) λb4=>
 stV b4 (hZ b1 8) (hV false) λb3=>
 stV b3 (hZ b1 9) (hV false) λg=>
 ∃O,g.cell? (hZ b1 0)=some (hV O)/\
 ∃H,g.cell? (hZ b1 1)=some (hV H)/\
 ∃E,g.cell? (hZ b1 2)=some (hV E)/\
 ∃a7,g.cell? (hZ b1 3)=some (hV a7)/\
 ∃U,g.cell? (hZ b1 4)=some (hV U)/\
 ∃V,g.cell? (hZ b1 5)=some (hV V)/\
 ∃a6,g.cell? (hZ b1 6)=some (hV a6)/\
 ∃y,g.cell? (hZ b1 7)=some (hV y)/\
 ∃I,g.cell? (hZ b1 8)=some (hV I)/\
 ∃W,g.cell? (hZ b1 9)=some (hV W)/\
 R (hQ (.agg #[hV O,hV H,hV E,hV a7,hV U,hV V,hV a6,hV y,hV I,hV W])) g
theorem ni.sound {R w}(h:ni R w):callE P mW #[] R w:=
 cD Tryz.func15 Tryz.call15 h

theorem xT (h:Sat σ w L)(g: ∀w,Sat σ w L->R (hQ (optV Ex)) w):callE P mW #[] R w:=by
 refine ni.sound ?_
 refine Sat.bx h λb1 w h=>?_
 repeat (first|refine aa ?_|refine h.tk λw h=>?_|refine⟨_,h.ldA,?_⟩|refine⟨_,_,_,h.ldA,?_⟩|refine h.stA 0 λw h=>?_|refine h.stA 1 λw h=>?_|refine h.stA 2 λw h=>?_|refine h.stA 3 λw h=>?_|refine h.stA 4 λw h=>?_|refine h.stA 5 λw h=>?_|refine h.stA 6 λw h=>?_|refine h.bx λb0 w h=>?_)
 exact g _ h.tail

theorem GF {q:OA}{n c:Nat}(g:R (hQ (hV (decide (n<=300)))) w):callE P qj #[hT q n c] R w:=by
 refine nP.sound ?_
 have e:decide (((n:Nat):Int)<=300)=decide (n<=300):=by rw[decide_eq_decide];omega
 unfold nP
 rw[e];exact g
theorem FN {l:List BN}(H:okS l)(hd:dsS l)(y:l≠ [])(O:(aD l).length<=1300)(I:dpT l<=12):(bF [10] (aD l).tail).length<1000000:=by
 have E:=zq.2.1 l H hd y
 have g:(aD l).tail.length<=1300:=by rw[lD3];omega
 have U:=uS (n:=768) (aD l).tail λs hs=>by have:=(E.ch s hs).2;omega
 have V:=lN2 769 g
 omega
def ES (σ:Out)(L:List ai)(R:Ending->World->Prop)(fl:Bool):Prop:=
 ∀w (l:List BN) (y:OA) (g:Nat) (us:List Value) (RM KM:List ai),Eg 3 4 ⟨0,0,fl,0⟩ l->NDs (mR 1 l) us KM->Sl 10 af y l.length g us RM->Sat σ w (RM++(KM++L))->R (hQ (.tuple #[hX (bs (bF [10] (aD l).tail)),(({kind:=1}:NH).nd none 0 y l.length g).V])) w
theorem BF {l:List BN}{s:BS}(g:Eg 3 4 s l):okS l/\dsS l/\l≠ []/\(aD l).length<=1300/\dpT l<=12:=by
 obtain⟨y,E⟩:=Ax.2.1 l g.ab
 obtain⟨I,H⟩:=FK y g.len g.sm
 exact⟨y,E,g.ne,I,H⟩
theorem CC {b1:Nat}{l:List BN}{fl:Bool}{U:OA}{W:Nat}{H:List ai}{E:OA}{g:Nat}{us:List Value}{RM KM X:List ai}(b6:ES σ L R fl)(O:Eg 3 4 ⟨0,0,fl,0⟩ l)(b9:SlS U W (aD l).tail H)(c1:NDs (mR 1 l) us KM)(b4:Sl 10 af E l.length g us RM)(h:Sat σ w (ndC b1 {}::(H++(RM++(KM++(X++L)))))):
 callE P iZ #[hT U (aD l).tail.length W,hX (hP #[10])] (λe c4=> ∃(a6:BA),e= hQ (hX a6)/\st10 c4 b1 {a0:=1,q7:=E,n7:=l.length,c7:=g} λI=>ldB10 I b1 λb3=>R (hQ (.tuple #[hX a6,b3.V])) I) w:=by
 obtain⟨b8,b7,b5,c2,c5⟩:=BF O
 have c8:=FN b8 b7 b5 c2 c5
 have a7:((hP #[10]):ByteArray)=bs [10]:=rfl
 rw[a7]
 refine wt (L:=ndC b1 {}::(H++(RM++(KM++(X++L))))) (SArg.ofSl b9 λy c3=> .tail _ (lE1 _ c3)) h (by rw[lD3];omega) (by omega) (by simp) λw h=>⟨_,rfl,?_⟩
 refine h.st10 0 {} (({kind:=1}:NH).nd none 0 E l.length g) λw h=>?_
 have h:Sat σ w (ndC b1 (({kind:=1}:NH).nd none 0 E l.length g)::(H++(RM++(KM++(X++L))))):=h
 refine h.ldB10 _ (.head _) ?_
 exact b6 w l E g us RM KM O c1 b4 (h.less (ndC b1 (({kind:=1}:NH).nd none 0 E l.length g)::(H++X)))
theorem DZ {q:OA}{n c:Nat}{vs:List UInt8}(U:BArg σ L q n vs)(b6:n<=300)(h:Sat σ w L)(V:ES σ L R false):callE P mX #[hT q n c] R w:=by
 refine nj.sound ?_
 refine Sat.bx h λb1 w h=>?_
 refine Sat.bx h λg w h=>?_
 have h:Sat σ w (bC g q n c ⟨0,0,false,0⟩::(ndC b1 {}::L)):=h
 have y:Rd σ L q n vs:=⟨U,by omega⟩
 refine Ar (d:=3) (most:=4) (by omega) (by omega) (by omega) (y.up λw h=>h.less [ndC b1 {}]) ⟨by show (0:Int)<=0;omega,by show (0:Int)+((3:Nat):Int)<=100;omega⟩ h λw l s' b7 a7 W b5 b4 us RM KM E a6 H I O h=>⟨_,_,_,_,_,_,rfl,?_⟩
 exact CC (X:= [bC g q n c s']) V E H I O h.re
end Go.Proofs.YtendaipfdnhnaaaGreatDoor
