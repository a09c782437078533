/- Part 6 of the proof of the law FnPlaced: for every input the law returns true, the inputs read as they did, and memory that was there is as it was; under the conditions of the given row alone. -/
import Derived.Test.YtendaipfdnhnaaaGreatDoorA5
set_option linter.all false
open Go.IntKind(i64)
open ByteArray renaming mk→hP
open List renaming replicate→hN
namespace Go.Proofs.YtendaipfdnhnaaaGreatDoor
open Go.Proofs Go.IntWalk Go.RowKit
set_option maxRecDepth 20000
variable {σ:Out} {w:World} {L L':List ai} {R:Ending->World->Prop} {G:List UInt8->List Inl} {op:Opt}

theorem pI {c:UInt8}(h:97<=c.toNat/\c.toNat<=122):wB c=true/\spB c=false/\puB c=false/\c<128/\c≠42/\Ax c=true:=by
 have:(List.range 256).all (λn=>(!(decide (97<=n) && decide (n<=122)))||(wB (UInt8.ofNat n) && !spB (UInt8.ofNat n) && !puB (UInt8.ofNat n) && decide (UInt8.ofNat n<128) && UInt8.ofNat n !=42 && Ax (UInt8.ofNat n)))=true:=by kernel_rfl
 have:=lD2.1 this c.toNat (lX2.2 c.toNat_lt);rw[lY3] at this;simp[h.1,h.2] at this;exact⟨this.1.1.1.1.1,this.1.1.1.1.2,this.1.1.1.2,this.1.1.2,this.1.2,this.2⟩
theorem EJ {s:List UInt8}(E:s≠ [])(h: ∀c∈s,97<=c.toNat/\c.toNat<=122)(c8:s.length<=100):WdP s:=by
 refine⟨E,λc hc=>(pI (h c hc)).1,c8,?_,?_⟩
 ·intro b p A B k c3 I;obtain⟨c,t,rfl⟩:=lA1 E;obtain⟨_,b3,a6,W,b5,_⟩:=pI (h c (.head _));generalize hr:A++32::(hN k 42++(c::t++B))=raw at I;have b8:raw.length=A.length+(1+(k+(t.length+1+B.length))):=by rw[<-hr];simp;omega
  have r2:raw=(A++ [32])++(hN k 42++(c::t++B)):=by rw[<-hr];simp
  have H:raw=(A++ [32]++hN k 42)++(c::(t++B)):=by rw[r2,lD0 (A++ [32])];rfl
  have l2:(A++ [32]).length=A.length+1:=by simp
  have l3:(A++ [32]++hN k 42).length=A.length+1+k:=by simp;omega
  have U: ∀m,A.length+1<=m->m<A.length+1+k->raw.getD m 0=42:=by
   intro m c5 c9;rw[r2,pw (by omega),l2,m7 (by simp;omega),lP0,lY5,if_pos (by omega)];rfl
  have O:raw.getD (A.length+1+k) 32=c:=by
   rw[H,lP0,lH0 (by omega),l3,lV1];rfl
  have b6:raw.getD (A.length+1+k) 0=c:=by
   rw[H,lP0,lH0 (by omega),l3,lV1];rfl
  have y:zr raw (A.length+1)=32:=by
   unfold zr;rw[if_neg (by omega),lF3,<-hr,lP0,lH0 (lZ0 _),lV1];rfl
  have g:zw raw (A.length+1+k)=c:=O;have:=og (b:=b) (p:=p) (s:=raw) (i:=A.length+1) (j:=A.length+1+k) (by omega) (by omega) (by omega) U (λ_=>by rw[b6];exact b5) (by rw[y];decide) (by rw[g];exact W)
  rw[y,g,show A.length+1+k - (A.length+1)=k by omega] at this;have V:uN 32 c=true:=by unfold uN;rw[b3,a6];rfl
  have a7:qE 32 c=false:=rfl;have b4:sub raw (A.length+1) (A.length+1+k)=hN k 42:=by
   have:=pU (A++ [32]) (hN k 42) (c::t++B)
   rw[<-r2,l2,lG2] at this;exact this
  rw[V,a7,b4] at this;exact this
 ·intro b p A B k c3 c4 I;obtain⟨t,c,rfl⟩: ∃t c,s=t++ [c]:=⟨s.dropLast,s.getLast E,(lW3 E).symm⟩
  obtain⟨_,b3,a6,W,b5,_⟩:=pI (h c (by simp));generalize hr:A++(t++ [c]++(hN k 42++B))=raw at I;have b8:raw.length=A.length+(t.length+1+(k+B.length)):=by rw[<-hr];simp;omega
  have b9:(t++ [c]).length=t.length+1:=by simp
  rw[b9];have c2:raw=(A++t)++c::(hN k 42++B):=by rw[<-hr];simp
  have r2:raw=(A++(t++ [c]))++(hN k 42++B):=by rw[<-hr];simp
  have H:raw=(A++(t++ [c])++hN k 42)++B:=by rw[r2,lD0 (A++(t++ [c]))]
  have l2:(A++(t++ [c])).length=A.length+(t.length+1):=by simp
  have l3:(A++(t++ [c])++hN k 42).length=A.length+(t.length+1)+k:=by simp;omega
  have U: ∀m,A.length+(t.length+1)<=m->m<A.length+(t.length+1)+k->raw.getD m 0=42:=by
   intro m c5 c9;rw[r2,pw (by omega),l2,m7 (by simp;omega),lP0,lY5,if_pos (by omega)];rfl
  have O: ∃d:UInt8,(d=32\/d=10)/\zw raw (A.length+(t.length+1)+k)=d:=by
   unfold zw;rw[H,lP0,lH0 (by omega),l3,lV1];rcases c4 with rfl|⟨B',rfl|rfl⟩
   ·exact⟨32,.inl rfl,rfl⟩
   ·exact⟨32,.inl rfl,rfl⟩
   ·exact⟨10,.inr rfl,rfl⟩
  obtain⟨d,hd,g⟩:=O;have b7:A.length+(t.length+1)+k<raw.length->raw.getD (A.length+(t.length+1)+k) 0≠42:=by
   intro c1;have:raw.getD (A.length+(t.length+1)+k) 0=d:=by
    unfold zw at g;rw[lP0,lI0 c1] at g⊢;exact g
   rw[this];rcases hd with rfl|rfl<;>decide
  have y:zr raw (A.length+(t.length+1))=c:=by
   unfold zr;rw[if_neg (by omega),show A.length+(t.length+1) - 1=(A++t).length by simp,c2,lP0,lH0 (lZ0 _),lV1];rfl
  have:=og (b:=b) (p:=p) (s:=raw) (i:=A.length+(t.length+1)) (j:=A.length+(t.length+1)+k) (by omega) (by omega) (by omega) U b7 (by rw[y];exact W) (by rw[g];rcases hd with rfl|rfl<;>decide)
  rw[y,g,show A.length+(t.length+1)+k - (A.length+(t.length+1))=k by omega] at this;have V:uN c d=false:=by rcases hd with rfl|rfl<;>rfl
  have a7:qE c d=true:=by unfold qE;rw[b3,a6];rfl
  have b4:sub raw (A.length+(t.length+1)) (A.length+(t.length+1)+k)=hN k 42:=by
   have:=pU (A++(t++ [c])) (hN k 42) B;rw[<-r2,l2,lG2] at this;exact this
  rw[V,a7,b4] at this;exact this
abbrev LT:=List UInt8 × List Tk
def FS:Tk->Prop
 | .wd s=>WdP s
 | .em k s=>WdP s/\(k=1\/k=2)
 | .cd s=>WdP s
 | .lk s d=>WdP s/\DsP d
 | .es s=>WdP s
 |_=>False
def xl (x:LT):Prop:=WdP x.1/\ ∀t∈x.2,FS t
def qc (l:List Tk):List Tk:=l.flatMap λt=> [.sp,t]
def d5 (x:LT):List Tk:= .wd x.1::qc x.2
def cy (x:LT):List UInt8:=tkB (d5 x)
def ff:List LT->List Tk
 | []=> []
 | [x]=>d5 x
 |x::y::r=>d5 x++ .nl::ff (y::r)
theorem pg: ∀ls:List LT,tkB (ff ls)=bv [10] (ls.map cy)
 | []=>rfl
 | [x]=>by simp[ff,bv,cy]
 |x::y::r=>by
  have g:=pg (y::r)
  have e:bv [10] ((x::y::r).map cy)=cy x++10::bv [10] ((y::r).map cy):=by simp[bv]
  rw[e,<-g,ff,tA,cu];rfl
theorem Bm {r:List Tk}(hr:okT 2 r): ∀l:List Tk,(∀t∈l,FS t)->okT 2 (qc l++r)
 | [],_=>hr
 |t::l,h=>by
  have g:=Bm hr l λx y=>h x (.tail _ y)
  have ht:=h t (.head _);have e:qc (t::l)++r= .sp::t::(qc l++r):=rfl
  rw[e];refine⟨rfl,?_⟩;cases t with
  |wd s=>exact⟨by decide,ht,g⟩
  |sp=>exact ht.elim
  |nl=>exact ht.elim
  |em k s=>exact⟨rfl,ht.1,ht.2,g⟩
  |cd s=>exact⟨rfl,ht,g⟩
  |lk s d=>exact⟨rfl,ht.1,ht.2,g⟩
  |es s=>exact⟨rfl,ht,g⟩
theorem uE {x:LT}{r:List Tk}(h:xl x)(hr:okT 2 r):okT 0 (d5 x++r):=⟨by decide,h.1,Bm hr x.2 h.2⟩
theorem rv: ∀ {ls:List LT},ls≠ []->(∀x∈ls,xl x)->okT 0 (ff ls)
 | [],h,_=>absurd rfl h
 | [x],_,h=>by
  have:=uE (r:= []) (h x (.head _)) rfl;rw[lG0] at this;exact this
 |x::y::r,_,h=>uE (h x (.head _)) ⟨rfl,rv (ls:=y::r) (by simp) λz hz=>h z (.tail _ hz)⟩
theorem p8 {x:LT}(h:xl x): ∃c r,cy x=c::r/\wB c=true:=by
 obtain⟨c,t,g⟩:=lA1 h.1.ne;refine⟨c,t++tkB (qc x.2),?_,h.1.by_ c (by rw[g];exact .head _)⟩
 show x.1++_=_
 rw[g];rfl
theorem rm {c:UInt8}(h:wB c=true):nD c=true/\cL c=false/\kX c=false/\c≠45/\c≠60/\c≠61/\c≠10/\c≠13/\c≠0/\c≠91:=by
 have:=lD2.1 (show (List.range 256).all (λn=> !(wB (UInt8.ofNat n))||(nD (UInt8.ofNat n) && !cL (UInt8.ofNat n) && !kX (UInt8.ofNat n) && UInt8.ofNat n !=45 && UInt8.ofNat n !=60 && UInt8.ofNat n !=61 && UInt8.ofNat n !=10 && UInt8.ofNat n !=13 && UInt8.ofNat n !=0 && UInt8.ofNat n !=91))=true by kernel_rfl) c.toNat (lX2.2 c.toNat_lt);rw[lY3,h] at this
 simpa[and_assoc] using this
theorem yN {x:LT}(h:xl x):TxL (cy x):=by
 obtain⟨c,r,e,hc⟩:=p8 h;obtain⟨I,E,_,W,V,O,_⟩:=rm hc;rw[e];refine⟨λl H=>?_,by rw[lL3,E];rfl⟩;have y:=H.has;have U:=y.plain I;have g:(l.lead 3 false).peek=c:=by rw[y.lead E 2];exact y.peek
 refine⟨⟨U,by rw[g];exact V,by rw[g];exact W,by rw[g];exact O⟩,?_⟩;unfold Ln.rest;rw[H.tx,lH2 (by simp[E])]
theorem qH {op:Opt}(H:op.auto=false){ls:List LT}(O:ls≠ [])(h: ∀x∈ls,xl x)(I:(bv [10] (ls.map cy)).length<200000):xd vv op (ls.map cy):=by
 have g:=rv O h;have y:=pg ls;have E:=tz H g (by rw[y];exact I);have hd:=zn g;rw[y] at E hd;refine⟨Leaf.fin.toN (lf:= .para (ls.map cy)) ⟨by omega,?_,?_⟩,?_,?_⟩
 ·rw[<-y];obtain⟨s,r,e,hs⟩:=g.first
  rw[e];obtain⟨c,t,rfl⟩:=lA1 hs.ne;simp[cu,Tk.B]
 ·rw[<-y];obtain⟨s,r,e,hs⟩:=g.first
  rw[e];obtain⟨c,t,rfl⟩:=lA1 hs.ne;have hc:=rm (hs.by_ c (.head _));have U:tkB (.wd (c::t)::r)=c::(t++tkB r):=rfl
  rw[U,lH2 (by simp[hc.2.2.1])];simp[hc.2.2.2.2.2.2.2.2.2]
 ·rw[hd];exact E
 ·rw[hd];exact A3 g (by rw[y];simp;omega)
theorem B4 {op:Opt}(I:op.task=false)(O:op.ids=false)(U:op.auto=false){ec:ai}{d lv:Nat}(V:1<=lv/\lv<=6){x:LT}(h:xl x)(H:(cy x).length<90000):
 BlkP vv op ec [hN lv 35++32::cy x] (λn=> .mk {kind:=5,num:=(lv:Nat),s:=n,e:=n} (gO (tkG Tk.out [] (d5 x)))) d none:=by
 have g:okT 0 (d5 x):=by
  have:=uE (r:= []) h rfl;rw[lG0] at this;exact this
 have hd:=zn g;obtain⟨m,a7,e,W,a6⟩:=g.last (by simp[d5]);have y:=tz (o:=op) U g (by show (cy x).length<_;omega);have E:=A3 (p:= []) g (by show [].length+(cy x).length<_;simp;omega);have e':cy x=m++ [a7]:=e;rw[<-hd] at y E⊢;rw[e] at y E⊢;rw[e'] at H⊢;exact DX (G:=vv) I O V ⟨W,a6⟩ (by simp at H;omega) y E
theorem zN {op:Opt}(y:op.task=false)(E:op.table=false)(H:op.auto=false){ec:ai}{d:Nat}{ls:List LT}(g:ls≠ [])(h: ∀x∈ls,xl x)(I:(bv [10] (ls.map cy)).length<200000):
 BlkP vv op ec (ls.map cy) (λn=> .mk {kind:=6,s:=n,e:=n+ls.length - 1} (gO (tkG Tk.out [] (ff ls)))) d none:=by
 have:=DV (G:=vv) y E (ec:=ec) (d:=d) (ls:=ls.map cy) (by simpa using g) (λs hs=>by obtain⟨x,O,rfl⟩:=lZ1.1 hs;exact yN (h x O)) (qH H g h I)
 rw[lS0,<-pg,zn (rv g h)] at this;exact this
theorem vM {op:Opt}(y:op.task=false)(E:op.table=false)(H:op.auto=false){ec:ai}{d:Nat}{c:UInt8}(hc:c=61\/c=45){ls:List LT}(g:ls≠ [])(h: ∀x∈ls,xl x)(I:(bv [10] (ls.map cy)).length<200000):
 BlkP vv op ec (ls.map cy++ [[c,c,c]]) (λn=> .mk {kind:=5,num:=(Aw c:Nat),s:=n,e:=n+ls.length} (gO (tkG Tk.out [] (ff ls)))) d none:=by
 have:=Am (G:=vv) y E (ec:=ec) (d:=d) hc (ls:=ls.map cy) (by simpa using g) (λs hs=>by obtain⟨x,O,rfl⟩:=lZ1.1 hs;exact yN (h x O)) (qH H g h I)
 rw[lS0,<-pg,zn (rv g h)] at this;exact this
def qW (x:Nat × List UInt8):List UInt8:=hN x.1 32++x.2
theorem DN {k:Nat}{s:List UInt8}(U:k<=3)(hs:WdP s):CoL [96,96,96] (qW (k,s)):=by
 obtain⟨c,t,rfl⟩:=lA1 hs.ne;have hc:=hs.by_ c (.head _);have E:=(AE hc).1;refine⟨λl H=>?_,?_⟩
 ·intro n d u info V;have I:=LnR.strip (c:=c) (r:=t) E k 3 0 U H
  obtain⟨O,W,g,_⟩:=V;have y:=LnR.skip (a:=hN k 32) H;rw[I] at g;rw[lG2] at y;have:({l with i:=l.i+k}:Ln).peek=c:=y.has.peek
  exfalso;have g:c=d:=this.symm.trans g;subst g;rcases O with rfl|rfl
  ·exact absurd hc (by decide)
  ·exact absurd hc (by decide)
 ·show (hN k 32++c::t).all cL=false
  rw[lC5,lL3,E];simp

def CL (G:List UInt8->List Inl)(op:Opt)(ec:ai)(ls:List (List UInt8))(xs:Nat->List IN)(d:Nat)(bc:Option UInt8):Prop:=
 ∀(cx:List CX) (root top:Bk) (cf gs junk:List Bk) (pend0:List IN) (rem:List (List UInt8)) (n:Nat) (Q:List DB->Prop),cx.length+d<=400->n+ls.length<=20000->(∀s∈ls,(ctx cx s).length<100000)->root.isRoot->root::cf=gs++ [top]->FrX (n+1) cx cf->Pd G op pend0 junk .none->junk.length<=900->(∀c,bc=some c->CM c junk)->BDi n gs top junk->
  (∀fs lf,St G op cx d (n+ls.length) gs top (pend0++xs (n+1)) fs lf->OkL ec op Q rem (n+ls.length) fs lf)->
  ∀(σ:Out) (R:Ending->World->Prop) (L:List ai) (b b1 pb:Nat) (p:PS) (w:World) (l:Ln) (E:OA->Nat->WP),Runs R E b b1->ec∈L->op.at pb∈L->p.pz=kE pb->p.lineno=n+1->p.depth=gs.length->LnR l (ls.headD [])->l.text.length<100000->DocC σ b (l.at b1::L) (gs++top::junk) .none p w->
   (∀w (p':PS) y g,p'.base=p.base->p'.lineno=p.lineno->OkL ec op Q (ls.tail.map (ctx cx)++rem) (n+1) y g->DocC σ b L y g p' w->R (hQ (.tuple #[])) w)->aj.bl102 R E (kE b) b1 w
theorem BlkP.seq {ec:ai}{ls:List (List UInt8)}{x:Nat->IN}{d:Nat}{bc:Option UInt8}(h:BlkP G op ec ls x d bc):CL G op ec ls (λn=> [x n]) d bc:=h
theorem St.comp {cx:List CX}{d n:Nat}{gs0 E fs:List Bk}{top0 g:Bk}{dsA:List DB}{accA p2 xsA y:List IN}{lf:Leaf}(b6:Sims gs0 E)(c1:g.lk top0)(W:g.D=top0.D++dsA)(a7:TDs G op dsA accA)(b4:accA++p2=xsA)(h:St G op cx d n E g (p2++y) fs lf):St G op cx d n gs0 top0 (xsA++y) fs lf:=by
 obtain⟨root,cf,gs,top,junk,O,H,pend,e,hr,I,V,b8,b3,b5,b7,b9,c2,a6,U⟩:=h;exact⟨root,cf,gs,top,junk,dsA++O,accA++H,pend,e,hr,I,V,b6.trans b8,b3.trans c1,by rw[b5,W,lD0],a7.append b7,b9,by rw[lD0,c2,<-lD0,b4],a6,U⟩
theorem El {ec:ai}{ls:List (List UInt8)}{xs:Nat->List IN}{d:Nat}{bc:Option UInt8}(f4:CL G op ec ls xs d bc){c0:UInt8}{r0:List UInt8}(b3:ls.headD []=c0::r0)(b4:cL c0=false){cx:List CX}{root top:Bk}{cf gs junk:List Bk}{pend0:List IN}{rem:List (List UInt8)}{n:Nat}{Q:List DB->Prop}(e2:cx.length+d<=400)(f6:n+ls.length<=20000)(O: ∀s∈ls,(ctx cx s).length<100000)(hr:root.isRoot)(d2:root::cf=gs++ [top])(f0:FrS cx cf)(c2:Pd G op pend0 junk .none)(e6:junk.length<=900)(e3:junk= []\/ ∃f rest lb num it,∃bul:UInt8,junk=f::rest/\f.isList lb bul.toNat num it)(c9: ∀c,bc=some c->CM c junk)(b8:BD n (gs++top::junk))(d3: ∀y E,Sims gs y->top.sim E-> ∀fs lf,St G op cx d (n+ls.length) y E (pend0++xs (n+1)) fs lf->OkL ec op Q rem (n+ls.length) fs lf):OkL ec op Q (ls.map (ctx cx)++rem) n (gs++top::junk) .none:=by
 obtain⟨s,rest,rfl⟩: ∃s rest,ls=s::rest:=by
  cases ls with
  |nil=>cases b3
  |cons s rest=>exact⟨s,rest,rfl⟩
 have hs:s=c0::r0:=b3
 have a6:s.all cL=false:=by rw[hs,lL3,b4];rfl
 simp only[lF0] at f6
 show∀nl,pJ [ec] op (n+1) (ctx cx s) nl (gs++top::junk) .none (OkL ec op Q (rest.map (ctx cx)++rem) (n+1))
 intro nl;refine zW f0 hr d2 (λa x h1 _=>Bo a6 _) (by omega) (O s (.head _)) λσ R L b b1 pb p w X y E c3 a7 l2 b7 e1 e0 c4 d0 h3 c1 b6 b5 e8 V H e4 hd h0 h f5=>?_
 have e7:l2.blank=false:=by unfold Ln.blank;rw[H.tx];exact a6
 have g7:=b5.len;have h2:y.length=a7.length:=by have:=congrArg List.length V;simp at this;omega
 have d1:BD n (y++E::junk):=by
  obtain⟨_,_,_,_,_,_,e5,_⟩:=h;have U:Sims (gs++top::junk) (y++E::junk):=Sims.append c1 (.cons b6 (Sims.refl λf I=>(e5 f (by simp[I])).2.2.2))
  exact⟨Bb U b8.1,by rw[U.mem.2];exact b8.2⟩
 have go: ∀w,DocC σ b (l2.at b1::L) (y++E::junk) .none p w->aj.k2 R (kE b) b1 w:=by
  intro w h;refine k2nb h H.ok e7 λw h=>?_
  refine f4 cx c3 E a7 y junk pend0 rem n Q e2 (by simp;omega) O e8 V b5 c2 e6 c9 d1.i (d3 y E c1 b6) σ R L b b1 pb p w l2 _ (Runs.top b b1) e1 e0 c4 d0 hd H e4 h λw p' c5 c8 a1 a2 a3 h=>?_
  exact f5 w p' c5 c8 a1 a2 a3 h
 rcases e3 with rfl|⟨f,g6,lb,num,it,bul,rfl,I⟩
 ·exact endX b7 h (by simp;omega) ⟨by simp,by simp;omega⟩ go
 ·have e9:LnR l2 (c0::r0):=by rw[<-hs];exact H
  have W:=I.1;cases c2 with
  |quote g4 _ _=>
   obtain⟨h4,g2,_⟩:=g4;rw[g2] at W;cases W
  | @list _ g junk2 _ lb2 wd2 bul2 num2 it2 items ixs xs2 ys2 hf2 hfD hit hg hwd hu hxs hys=>
   obtain⟨ib,g0,h5,g1⟩:=hg;obtain⟨g5,g3⟩:=hf2;have h:DocC σ b (l2.at b1::L) ((y++ [E])++f::(g::junk2)) .none p w:=by simpa using h
   refine EZ b7 h (by simp;omega) ⟨by simp,by simp;omega⟩ H.ok (λh6 K w b9 h f3=>?_) λw h=>go w (by simpa using h)
   rw[g5];refine bm gj ?_;refine lx (ib:=ib) (lb:=lb2) (n:=wd2) (hv:=true) (bul:=bul2.toNat) (num:=num2) (lo:=false) (td:= .nilFunc) h H.ok (by omega) ?_ ?_ (by rw[e9.padNo b4 hwd.1];exact⟨rfl,rfl⟩) f3
   ·rw[<-g0];exact b9 f (by simp) _ (by rw[g3];exact .head _)
   ·exact b9 g (by simp) _ (by rw[g1];exact .head _)

theorem Fn {E pend pend0:List IN}{x g:IN}(h:E++pend=pend0++ [x])(H:pend= [g]):g=x:=by
 subst H;exact(lE4 h rfl).2|>λh=>by simpa using h
theorem C8 (d3:op.task=false){ec:ai}{y E:List (List UInt8)}{U:Nat->IN}{a7:Nat->List IN}{d:Nat}{b9 b8:Option UInt8}(m1:BlkP G op ec y U d b9)(e1:y≠ [])(o2:CL G op ec E a7 d b8){c0:UInt8}{r0:List UInt8}(g3:E.headD []=c0::r0)(g0:cL c0=false)(e7: ∀c,b8=some c-> ∀n,(U n).h.char≠ [c]):
 CL G op ec (y++ []::E) (λn=>U n::a7 (n+y.length+1)) d b9:=by
 intro cx root top cf gs junk pend0 rem n Q c1 l5 W hr g5 m8 i2 g7 f3 n3 O σ R L b b1 pb p w l i3 g6 f5 g2 e6 e9 hd o0 g4 h n2;have en:n+(y++ []::E).length=n+y.length+1+E.length:=by simp;omega
 have O: ∀fs lf,St G op cx d (n+(y++ []::E).length) gs top (pend0++(U (n+1)::a7 (n+1+y.length+1))) fs lf->OkL ec op Q rem (n+(y++ []::E).length) fs lf:=O
 rw[en] at O l5;have m4:n+1+y.length+1=n+y.length+1+1:=by omega
 rw[m4] at O;obtain⟨s,rest,rfl⟩:=lA1 e1;have f4:=W [] (by simp);refine m1 cx root top cf gs junk pend0 (ctx cx []::(E.map (ctx cx)++rem)) n Q c1 (by omega) (λs hs=>W s (by simp at hs⊢;rcases hs with hs|hs<;>simp[hs])) hr g5 m8 i2 g7 f3 n3 (λfs lf a6=>?_) σ R L b b1 pb p w l i3 g6 f5 g2 e6 e9 hd o0 g4 h λw p' g1 f2 a1 a2 a3 h=>n2 w p' g1 f2 a1 a2 (by simpa using a3) h
 obtain⟨o4,p4,f0,b5,d2,h6,e4,p1,rfl,m6,r2,e8,i0,j0,m3,h9,c4,c9,q5,V⟩:=a6
 show∀nl,pJ [ec] op (n+(s::rest).length+1) (ctx cx []) nl (f0++b5::d2) lf (OkL ec op Q (E.map (ctx cx)++rem) (n+(s::rest).length+1))
 intro nl;have b6:=V.le (by omega);refine EA d3 e8.toS m6 r2 (by omega) f4 c4 (by omega) b6.1 b6.2 λf1 e3 d1 ds2 e5 e0 o3 q1 t1 h8 n1 m2 i1 c2 c8 j1 c3 h7 q2 b7 p5=>?_
 have q4:=c4.len;have q3:ds2.length<=1:=by
  have:=c8.len;have:=congrArg List.length c3;rw[lA0] at this;omega
 have f6:BD (n+(s::rest).length+1) (f1++e3::d1):=by
  refine⟨λf I=>?_,by have:=V.2;omega⟩;rcases lO0.1 I with I|I
  ·have:=Bb t1 (λx b3=>V.1 x (by simp[b3])) f I;omega
  ·rcases lX0.1 I with rfl|I
   ·have:=V.1 b5 (by simp);rw[c2,lA0];omega
   ·have:=h7.2 (3*(n+(s::rest).length)) (λg m5=>V.1 g (by simp[m5])) f I;omega
 refine El o2 g3 g0 c1 (by omega) (λs hs=>W s (by simp[hs])) m2 i1 n1 j1 (by omega) ?_ ?_ f6 λq0 p3 n0 d0 fs lf a6=>?_
 ·rcases b7 with H|⟨f,rs,lb,num,it,bul,H,b4,_⟩
  ·exact .inl H
  ·exact .inr ⟨f,rs,lb,num,it,bul,H,b4⟩
 ·intro c hc;rcases b7 with H|⟨f,rs,lb,num,it,bul,H,b4,x,i8,k0⟩
  ·exact .inl H
  ·refine .inr ⟨f,rs,lb,bul,num,it,H,b4,?_⟩
   rintro rfl
   have b3:=Fn c9 i8;exact e7 bul hc (n+1) (b3▸k0)
 ·refine O fs lf ?_;have c5:=a6.comp (gs0:=gs) (top0:=top) (dsA:=h6++ds2) (accA:=e4++e5) (p2:=e0) (xsA:=pend0++ [U (n+1)]) ((i0.trans t1).trans n0) (d0.lk.trans (h8.trans j0)) (by rw[d0.2.2.1,c2,m3,lD0]) (h9.append c8) (by rw[lD0,c3,c9])
  rw[lD0] at c5;exact c5
theorem CB (f6:op.task=false){ec:ai}{ls:List (List UInt8)}{xs:Nat->List IN}{d:Nat}{bc:Option UInt8}(m6:CL G op ec ls xs d bc){c0:UInt8}{r0:List UInt8}(e0:ls.headD []=c0::r0)(i0:cL c0=false):
 BlkP G op ec (ls.map λs=>62::32::s) (λn=> .mk {kind:=2,s:=n,e:=n+ls.length - 1} (xs n)) (d+1) none:=by
 intro cx root top cf gs junk pend0 rem n Q r8 e6 g0 hr e3 e9 c1 r9 q5 a6 d2 σ R L b b1 pb p w l s2 j1 h7 d3 d0 b6 hd b4 i8 h p1;obtain⟨s,rest,rfl⟩: ∃s rest,ls=s::rest:=by
  cases ls with
  |nil=>cases e0
  |cons s rest=>exact⟨s,rest,rfl⟩
 have hs:s=c0::r0:=e0
 have j0:s.all cL=false:=by rw[hs,lL3,i0];rfl
 have b4:LnR l (62::32::s):=b4
 have r5:=e9.len;have r6:gs.length=cf.length:=by have:=congrArg List.length e3;simp at this;omega
 rw[lS0] at e6 d2;have c9: ∀s:List UInt8,ctx cx (62::32::s)=ctx (cx++ [.q]) s:=λs=>(nQ cx [.q] s).symm
 refine zJ f6 c1 h hd (by omega) b4 j0 (a6.le (by omega)).1 (a6.le (by omega)).2 d0 d3 (by omega) λw p' a7 c2 f f0 e4 m1 k1 k2 k3 k4 f5 m8 n3 c3 h=>?_
 obtain⟨c4,b7,o2,r2,m3⟩:=jz e9 hr e3 k1;have s1:=k3.len;have q8:=c1.len;have h6:FrX (n+1) (cx++ [.q]) (b7++ [f]):=m3.append (.q f5 (by rw[n3,b6]) .nil);have g5:c4::(b7++ [f])=(gs++ [a7])++ [f]:=by rw[<-o2];simp
 have h1:junk= []->c2= []:=by
  rintro rfl
  cases c1
  cases k3
  rfl
 have h9:BDi n (gs++ [a7]) f []:=by
  have n2:txF (gs++top::junk)=txF gs++(cj top.D++txF junk):=by simp[txF]
  have E:txF ((gs++ [a7])++ [f])=txF gs++(cj top.D++cj c2):=by rw[bE,bE,dH,dH,k2,c3,de];simp[cj]
  refine⟨λg I=>?_,λg I=>?_,.inr ⟨rfl,?_⟩⟩
  ·rcases lO0.1 I with I|I
   ·exact a6.1 g I
   ·obtain rfl:=lR0.1 I;have:=a6.2.1 top (.head _);rw[k2,lA0];omega
  ·obtain rfl:=lR0.1 I;rw[c3];simp
  ·rw[E];have V:=a6.2.2;rw[n2] at V;simp only[lA0] at V⊢;rcases V with V|⟨o0,V⟩
   ·omega
   ·rw[h1 o0];simp[cj] at V⊢;omega
 have g3:p'.pz=kE pb:=by rw[<-d0];exact oQ f0
 refine j1 w λX g7=>?_
 refine m6 (cx++ [.q]) c4 f (b7++ [f]) (gs++ [a7]) [] [] rem n Q (by simp;omega) e6 (λs hs=>by rw[<-c9];exact g0 _ (lZ1.2 ⟨s,hs,rfl⟩)) r2 g5 h6 .none (by simp) (λc _=> .inl rfl) h9 (λfs lf h4=>?_) σ R L b b1 pb p' w _ X (Runs.of g7 b b1) h7 d3 g3 (e4.trans b6) (by rw[m1,hd];simp) (LnR.skip (a:= [62,32]) b4) i8 (by simpa using h) λw n1 i1 h5 a1 a2 a3 h=>?_
 ·obtain⟨c8,h8,r4,O,c5,r7,q0,p5,rfl,o4,b3,b8,v1,b9,e8,m4,m2,e5,s3,m5⟩:=h4;have q4:=b8;obtain⟨W,b5,rfl,p4,e7⟩:=xE v1;have g6: ∃U,h8=U++ [O]/\c8::U=W++ [b5]:=by
   cases W with
   |nil=>
    simp only[lT0,lQ0,lU0] at b3;obtain⟨rfl,rfl⟩:=b3;exact⟨[],rfl,rfl⟩
   |cons y W=>
    simp only[lQ0,lU0] at b3;obtain⟨rfl,rfl⟩:=b3;exact⟨W++ [b5],by simp,rfl⟩
  obtain⟨U,rfl,g4⟩:=g6;have d1:FrX (n+(s::rest).length) cx U/\O.ob.e=n+(s::rest).length:=by
   refine⟨?_,b8.lastE U O rfl⟩;have k0: ∀ {cs:List CX} {fs:List Bk},FrX (n+(s::rest).length) cs fs-> ∀a t H,fs=a++ [t]->cs=H++ [.q]->FrX (n+(s::rest).length) H a:=by
    intro cs fs h
    induction h with
    |nil=>intro a t H e;simp at e
    | @q cs fs f hq he h2 ih=>
     intro a t H e E;cases a with
     |nil=>
      simp only[lT0,lU0] at e;obtain⟨rfl,rfl⟩:=e;cases h2
      cases H with
      |nil=>exact .nil
      |cons y H=>simp at E
     |cons x a=>
      simp only[lQ0,lU0] at e;obtain⟨rfl,e⟩:=e;cases H with
      |nil=>
       simp only[lT0,lU0] at E;rw[E.2] at h2;cases h2;simp at e
      |cons y H=>
       simp only[lQ0,lU0] at E;rw[<-E.1];exact .q hq he (ih a t H e E.2)
    | @i cs fs f g lb w bul num it hf I hw he h2 ih=>
     intro a t H e E;cases H with
     |nil=>simp at E
     |cons y H=>
      simp only[lQ0,lU0] at E;cases a with
      |nil=>simp at e
      |cons x a=>
       simp only[lQ0,lU0] at e;obtain⟨rfl,e⟩:=e;cases a with
       |nil=>
        simp only[lT0,lU0] at e;obtain⟨rfl,rfl⟩:=e;cases h2
        simp at E
       |cons z a=>
        simp only[lQ0,lU0] at e;obtain⟨rfl,e⟩:=e;rw[<-E.1];exact .i hf I hw he (ih a t H e E.2)
   exact k0 b8 U O cx rfl rfl
  rw[c3,lT0] at e8;rw[lT0] at e5;have i3:O.isQuote:=by
   obtain⟨l5,n0,o3⟩:=f5;exact⟨l5,b9.1.trans n0,b9.2.2.trans o3⟩
  have i2:Pd G op [.mk {kind:=2,s:=n+1,e:=n+1+(s::rest).length - 1} (xs (n+1))] (O::c5) lf:=by
   have:=Pd.quote (G:=G) (op:=op) i3 (by rw[e8];exact m4) m2
   rw[e5,d1.2,b9.2.1,m8,b6] at this;have e:n+1+(s::rest).length - 1=n+(s::rest).length:=by omega
   rw[e];exact this
  refine d2 _ _ ⟨c8,U,W,b5,O::c5,c2,pend0,[.mk {kind:=2,s:=n+1,e:=n+1+(s::rest).length - 1} (xs (n+1))],by simp,o4,g4,d1.1,p4,e7.lk.trans k1.lk,by rw[e7.2.2.1,k2],k3,i2,rfl,by simp;omega,?_⟩
  simpa using m5
 ·refine p1 w n1 i1 h5 (a1.trans f0) (a2.trans e4) ?_ h;have:((s::rest).map λs=>62::32::s).tail.map (ctx cx)=(s::rest).tail.map (ctx (cx++ [.q])):=by
   simp[c9]
  rw[this];exact a3

theorem FrX.split {m:Nat}{b:List CX}: ∀ {a:List CX} {fs:List Bk},FrX m (a++b) fs-> ∃gs g,fs=gs++g/\FrX m a gs/\FrX m b g
 | [],fs,h=>⟨[],fs,rfl,.nil,h⟩
 |c::a,fs,h=>by
  cases h with
  |q x O H=>
   obtain⟨gs,g,rfl,E,I⟩:=FrX.split H;exact⟨_::gs,g,rfl,.q x O E,I⟩
  |i x O z v H=>
   obtain⟨gs,g,rfl,E,I⟩:=FrX.split H;exact⟨_::_::gs,g,rfl,.i x O z v E,I⟩
theorem Co {a b:List UInt8}(h:a.length=b.length): ∀cx:List CX,(ctx cx a).length=(ctx cx b).length
 | []=>h
 | .q::cs=>by
  show (62::32::ctx cs a).length=(62::32::ctx cs b).length
  simp[Co h cs]
 | .i w::cs=>by
  have g:=Co h cs
  show (if ctx cs a= [] then [] else hN w 32++ctx cs a).length=(if ctx cs b= [] then [] else hN w 32++ctx cs b).length
  by_cases y:ctx cs a= []
  ·have hb:ctx cs b= []:=by rw[y] at g;exact lZ5.1 g.symm
   rw[if_pos y,if_pos hb]
  ·have hb:ctx cs b≠ []:=by intro E;rw[E] at g;exact y (lZ5.1 g)
   rw[if_neg y,if_neg hb];simp[g]
structure ItOK (G:List UInt8->List Inl) (op:Opt) (ec:ai) (c:UInt8) (num:Nat) (mk:List UInt8) (ls:List (List UInt8)) (xs:Nat->List IN) (d:Nat):Prop where
 seq: ∃bc,CL G op ec ls xs d bc
 hd: ∃c0 r0,ls.headD []=c0::r0/\cL c0=false
 mkc: ∃x r,mk=x::r/\xe x
 marks: ∀l,LnR l (mk++ls.headD [])->pL l c num mk.length {l with i:=l.i+mk.length}/\l.isHR=false
 w:mk.length<100
def itL (mk:List UInt8)(ls:List (List UInt8)):List (List UInt8):=(mk++ls.headD [])::ls.tail.map (CX.pre (.i mk.length))
def LsSt (G:List UInt8->List Inl)(op:Opt)(ex:Bool)(cx:List CX)(d n O U wd:Nat)(gs0:List Bk)(top0:Bk)(pend0:List IN)(c:UInt8)(num0:Int)(s0:Nat)(ixs I:List IN)(fs:List Bk)(lf:Leaf):Prop:=
 ∃root cf gs top f y junk lb H items dsA E pend,fs=gs++top::f::y::junk/\root.isRoot/\root::cf=gs++ [top]/\FrS cx cf/\(ex=true->FrX n cx cf)/\Sims gs0 gs/\top.lk top0/\top.D=top0.D++dsA/\TDs G op dsA pend0/\
  f.isList lb c.toNat num0 H/\f.ob.s=s0/\f.D=List.map IT.db items/\ItR G op items ixs/\ItemOf H y lb wd true/\(1<=wd/\wd<100)/\y.ob.s=U/\y.ob.e=O/\TDs G op y.D E/\Pd G op pend junk lf/\E++pend=I/\junk.length<=2*d/\BD n fs
theorem LsSt.done {cx:List CX}{d n I H wd:Nat}{gs0:List Bk}{top0:Bk}{pend0:List IN}{c:UInt8}{num0:Int}{s0:Nat}{ixs y:List IN}{fs:List Bk}{lf:Leaf}(c5:Utf8.encode (c.toNat:Int)=bs [c])(h:LsSt G op true cx d n I H wd gs0 top0 pend0 c num0 s0 ixs y fs lf):
 St G op cx (d+1) n gs0 top0 (pend0++ [zS s0 c num0 (ixs++ [.mk {kind:=4,width:=wd,s:=H,e:=I} y])]) fs lf:=by
 obtain⟨root,cf,gs,top,f,g,junk,lb,d2,items,dsA,d0,pend,rfl,c4,c9,d3,c1,c3,b8,c8,b9,c2,a7,b5,W,O,b4,V,b6,b7,b3,U,d1,a6⟩:=h;have E:=Pd.list c2 b5 W O b4 c5 b7 b3;rw[a7,V,b6,U] at E;exact⟨root,cf,gs,top,f::g::junk,dsA,pend0,_,rfl,c4,c9,c1 rfl,c3,b8,c8,b9,E,rfl,by simp;omega,a6⟩
theorem BO {ec:ai}{c:UInt8}{num:Nat}{mk:List UInt8}{ls:List (List UInt8)}{xs:Nat->List IN}{d:Nat}(h4:ItOK G op ec c num mk ls xs d){cx:List CX}{n:Nat}{rem:List (List UInt8)}{Q:List DB->Prop}{root top f y:Bk}{cf gs:List Bk}{gs0:List Bk}{top0:Bk}{pend0:List IN}{num0:Int}{s0 lb:Nat}{H:OA}{items:List IT}{ixs:List IN}{dsA:List DB}(q0:cx.length+(d+1)<=400)(i0:n+ls.length<=20000)(a7: ∀s∈itL mk ls,(ctx cx s).length<100000)(hr:root.isRoot)(g5:root::cf=gs++ [top])(m5:FrX (n+1) cx cf)(e9:Sims gs0 gs)(e8:top.lk top0)(m3:top.D=top0.D++dsA)(d3:TDs G op dsA pend0)(c3:f.isList lb c.toNat num0 H)(h2:f.ob.s=s0)(f3:f.D=items.map IT.db)(e4:ItR G op items ixs)(c2:ItemOf H y lb mk.length true)(g3:y.D= [])(g2:y.ob.s=n+1)(f1:y.ob.e=n+1)(b5:1<=mk.length)(n0:BDi n (gs++ [top,f]) y [])(e5: ∀fs lf,LsSt G op true cx d (n+ls.length) (n+ls.length) (n+1) mk.length gs0 top0 pend0 c num0 s0 ixs (xs (n+1)) fs lf->OkL ec op Q rem (n+ls.length) fs lf){b b1 pb:Nat}{p:PS}{l:Ln}{a6:OA->Nat->WP}(g7:Runs R a6 b b1)(f2:ec∈L)(g0:op.at pb∈L)(d2:p.pz=kE pb)(e6:p.lineno=n+1)(hd:p.depth=gs.length+2)(n3:LnR l (ls.headD []))(g1:l.text.length<100000)(h:DocC σ b (l.at b1::L) (gs++top::f:: [y]) .none p w)(m8: ∀w (p':PS) O I,p'.base=p.base->p'.lineno=p.lineno->OkL ec op Q ((itL mk ls).tail.map (ctx cx)++rem) (n+1) O I->DocC σ b L O I p' w->R (hQ (.tuple #[])) w):aj.bl102 R a6 (kE b) b1 w:=by
 obtain⟨⟨bc,h9⟩,⟨c0,r0,U,o3⟩,⟨x,r,p5,p1⟩,_,b7⟩:=h4;have b3: ∀s:List UInt8,ctx cx (CX.pre (.i mk.length) s)=ctx (cx++ [.i mk.length]) s:=λs=>(nQ cx [.i mk.length] s).symm
 have c8: ∀s∈ls,(ctx (cx++ [.i mk.length]) s).length<100000:=by
  intro s hs;rw[<-b3];cases ls with
  |nil=>cases hs
  |cons q1 rest=>
   rcases lX0.1 hs with rfl|hs
   ·have i8:=a7 (mk++s) (.head _);have d0:s≠ []:=by
     intro m4;have U:s=c0::r0:=U
     rw[m4] at U;cases U
    have e:CX.pre (.i mk.length) s=hN mk.length 32++s:=by
     show (if s= [] then [] else hN mk.length 32++s)=_
     rw[if_neg d0]
    rw[e,Co (b:=mk++s) (by simp)];exact i8
   ·exact a7 _ (.tail _ (lZ1.2 ⟨s,hs,rfl⟩))
 have f0:FrX (n+1) (cx++ [.i mk.length]) (cf++ [f,y]):=m5.append (.i c3 c2 ⟨b5,b7⟩ f1 .nil);have d1:root::(cf++ [f,y])=(gs++ [top,f])++ [y]:=by
  have:root::(cf++ [f,y])=(root::cf)++ [f,y]:=rfl
  rw[this,g5];simp
 refine h9 (cx++ [.i mk.length]) root y (cf++ [f,y]) (gs++ [top,f]) [] [] rem n Q (by simp;omega) i0 c8 hr d1 f0 .none (by simp) (λc _=> .inl rfl) n0 (λfs lf e7=>?_) σ R L b b1 pb p w l a6 g7 f2 g0 d2 e6 (by rw[hd];simp) n3 g1 (by simpa using h) λw k0 O I a1 a2 a3 h=>?_
 ·obtain⟨E,o2,o4,l5,c4,p4,c9,c5,rfl,m6,n2,f4,v1,W,c1,h7,h6,b8,q3,h8⟩:=e7;obtain⟨V,q2,rfl,b4,e0⟩:=f4.split;obtain⟨b6,k5,rfl,o0,j0⟩:=ux v1;cases j0 with
  | @cons _ top5 _ fs5 z1 z2=>
   cases z2 with
   | @cons _ f5 _ _ z3 z4=>
    cases z4
    cases e0 with
    | @i _ fsn f6 g6 lb6 w6 bul6 num6 it6 y1 y2 y3 y4 y5=>
     cases y5
     have m1:(E::V)++ [f6,g6]=(b6++ [top5])++ [f5,l5]:=by
      have:(E::V)++ [f6,g6]=E::(V++ [f6,g6]):=rfl
      rw[this,n2];simp
     obtain⟨m2,b9⟩:=lE4 m1 rfl;simp only[lU0,and_true] at b9;obtain⟨rfl,rfl⟩:=b9;rw[g3,lT0] at c1;rw[lT0] at b8;have h3:ItemOf H g6 lb mk.length true:=by
      obtain⟨ib,h5,n1,j1⟩:=c2;exact⟨ib,h5,W.1.trans n1,W.2.2.trans j1⟩
     refine e5 _ _ ⟨E,V,b6,top5,f6,g6,c4,lb,H,items,dsA,c9,c5,by simp,m6,m2,b4.toS,λ_=>b4,e9.trans o0,z1.lk.trans e8,by rw[z1.2.2.1,m3],d3,z3.list c3,(z3.lk.2.1).trans h2,by rw[z3.2.2.1,f3],e4,h3,⟨b5,b7⟩,W.2.1.trans g2,y4,by rw[c1];exact h7,h6,b8,by omega,by simpa using h8⟩
 ·refine m8 w k0 O I a1 a2 ?_ h;have:(itL mk ls).tail.map (ctx cx)=ls.tail.map (ctx (cx++ [.i mk.length])):=by
   show (ls.tail.map (CX.pre (.i mk.length))).map (ctx cx)=_
   rw[List.map_map];exact List.map_congr_left λs _=>b3 s
  rw[this];exact a3

theorem wv (g0:op.task=false){ec:ai}{c:UInt8}{num:Nat}{mk:List UInt8}{ls:List (List UInt8)}{xs:Nat->List IN}{d:Nat}(W:ItOK G op ec c num mk ls xs d){ex:Bool}{cx:List CX}{n c5 c3 wd:Nat}{gs0:List Bk}{top0:Bk}{pend0:List IN}{num0:Int}{s0:Nat}{ixs b9:List IN}{fs:List Bk}{lf:Leaf}{rem:List (List UInt8)}{Q:List DB->Prop}(h2:LsSt G op ex cx d n c5 c3 wd gs0 top0 pend0 c num0 s0 ixs b9 fs lf)(n1:cx.length+(d+1)<=400)(p5:n+ls.length<=20000)(c9: ∀s∈itL mk ls,(ctx cx s).length<100000)(g7: ∀fs lf,LsSt G op true cx d (n+ls.length) (n+ls.length) (n+1) mk.length gs0 top0 pend0 c num0 s0 (ixs++ [.mk {kind:=4,width:=wd,s:=c3,e:=c5} b9]) (xs (n+1)) fs lf->OkL ec op Q rem (n+ls.length) fs lf):OkL ec op Q ((itL mk ls).map (ctx cx)++rem) n fs lf:=by
 obtain⟨root,cf,gs,top,f,I,junk,lb,r7,items,dsA,s7,pend,rfl,hr,n0,q8,r8,h6,h5,q5,g4,f4,n2,i0,g6,e9,i8,m5,h8,g1,p1,o2,s8,f0⟩:=h2;obtain⟨c0,r0,e3,j1⟩:=W.hd;obtain⟨x,r,c1,b8⟩:=W.mkc;have h1:1<=mk.length:=by rw[c1];simp
 have r5:1<=ls.length:=by
  cases ls with
  |nil=>cases e3
  |cons s rest=>simp
 have e5:(mk++ls.headD []).all cL=false:=by rw[c1];simp[b8.1]
 show∀nl,pJ [ec] op (n+1) (ctx cx (mk++ls.headD [])) nl (gs++top::(f::I::junk)) lf (OkL ec op Q ((itL mk ls).tail.map (ctx cx)++rem) (n+1))
 intro nl;refine zW q8 hr n0 (λa x r6 _=>Bo e5 _) (by omega) (c9 _ (.head _)) λσ R L b b1 pb p w X y E r4 m8 l2 p4 h9 e0 d1 b5 r9 e7 c2 b7 e4 b4 O m1 hd s4 h r1=>?_
 have m2:l2.blank=false:=by unfold Ln.blank;rw[O.tx];exact e5
 have s3:=b7.len;have s5:y.length=m8.length:=by have:=congrArg List.length b4;simp at this;omega
 obtain⟨f5,m6⟩:=W.marks l2 O;have d2:LnR l2 (x::(r++ls.headD [])):=by rw[c1] at O;exact O
 have d0:Sims (gs++top::f::I::junk) (y++E::f::I::junk):=by
  obtain⟨_,_,_,_,_,_,n3,_⟩:=h;exact Sims.append e7 (.cons c2 (Sims.refl λk H=>(n3 k (lB0 _ (.tail _ H))).2.2.2))
 have U:BD n (y++E::f::I::junk):=⟨Bb d0 f0.1,by rw[d0.mem.2];exact f0.2⟩
 have d3:=U.le (by omega);have h4:=e9;obtain⟨ib,o4,t0,q0⟩:=e9;have m4:=f4;obtain⟨r3,q1⟩:=f4;have h:DocC σ b (l2.at b1::L) ((y++ [E])++f::(I::junk)) lf p w:=by simpa using h
 refine EZ p4 h (by simp;omega) ⟨by simp,by simp;omega⟩ O.ok (λs9 K w f3 h H=>?_) λw h=>?_
 ·rw[r3];refine bm gj ?_;refine lx (ib:=ib) (lb:=lb) (n:=wd) (hv:=true) (bul:=c.toNat) (num:=num0) (lo:=false) (td:= .nilFunc) h O.ok (by omega) ?_ ?_ (by rw[d2.padNo b8.1 i8.1];exact⟨rfl,rfl⟩) H
  ·rw[<-o4];exact f3 f (by simp) _ (by rw[q1];exact .head _)
  ·exact f3 I (by simp) _ (by rw[q0];exact .head _)
 refine k2nb h O.ok m2 λw h=>?_
 have h:DocC σ b (l2.at b1::L) (y++E::f::I::junk) lf p w:=by simpa using h
 have b6:=LnR.skip O;have g3:({l2 with i:=l2.i+mk.length}:Ln).has c0 r0:=by rw[e3] at b6;exact b6.has
 refine Bn g0 (Runs.top b b1) p1 h hd (by omega) (rI b7.toS e4 b4) m4 h4 g1 d2.has b8 m6 f5 g3 j1 d3.1 d3.2 d1 e0 (by omega) λY e6 w p' V b3 c8 s6 a1 a2 a3 a4 a5 c4 o3 a8 a9 a10 a11 a12 a13 a14 h0 o0 h=>?_
 have g2:p'.pz=kE pb:=by rw[<-d1];exact oQ a1
 have f6:ItR G op (items++ [c8]) (ixs++ [.mk {kind:=4,width:=wd,s:=c3,e:=c5} b9]):=by
  refine g6.append ?_;have:=ItR.cons (G:=G) (op:=op) o3 a8 .nil
  rw[a9,a10,a11,m5,h8,o2] at this;exact this
 have k0:BDi n (y++ [E,V]) b3 []:=by
  have q3:txF (y++E::f::I::junk)=txF y++(cj E.D++(cj f.D++txF (I::junk))):=by simp[txF]
  have q4:txF ((y++ [E,V])++ [b3])=txF y++(cj E.D++(cj f.D++cj c8.D)):=by
   have:cj V.D=cj f.D++cj c8.D:=by rw[c4,jy];simp[IT.db]
   rw[show (y++ [E,V])++ [b3]=y++([E]++([V]++ [b3])) by simp,bE,bE,bE,dH,dH,dH,this,a14];simp[cj]
  refine⟨λk H=>?_,λk H=>?_,.inr ⟨rfl,?_⟩⟩
  ·simp only[lO0,lX0,lJ1,or_false] at H;rcases H with H|rfl|rfl
   ·have:=U.1 k (by simp[H]);omega
   ·have:=U.1 k (by simp);omega
   ·have:=U.1 f (by simp);rw[c4,lA0];simp;omega
  ·obtain rfl:=lR0.1 H;rw[a14];simp
  ·rw[q4];have e8:=U.2;rw[q3] at e8;simp only[lA0] at e8⊢;omega
 refine e6 _ _ _ (BO W n1 p5 c9 e4 b4 b7 (h6.trans e7) (c2.lk.trans h5) (by rw[c2.2.2.1,q5]) g4 a4 (a5.trans n2) (by rw[c4,i0];simp) f6 a13 a14 (h0.trans b5) (o0.trans b5) h1 k0 g7 (Runs.of e6 b b1) h9 e0 g2 (a2.trans b5) (by rw[a3,hd]) b6 m1 h λw q2 l5 h7 g5 j0 m3 h=>?_);exact r1 w q2 l5 h7 (g5.trans a1) (j0.trans a2) m3 h
theorem z0 (e0:op.task=false){ec:ai}{c:UInt8}{d:Nat}{cx:List CX}{n b6 d0 wd:Nat}{gs0:List Bk}{top0:Bk}{pend0:List IN}{num0:Int}{s0:Nat}{ixs c2:List IN}{fs:List Bk}{lf:Leaf}{rem:List (List UInt8)}{Q:List DB->Prop}(h1:LsSt G op true cx d n b6 d0 wd gs0 top0 pend0 c num0 s0 ixs c2 fs lf)(q4:cx.length+(d+1)<=400)(r1:n+1<=20000)(e9:(ctx cx []).length<100000)(g4: ∀fs lf,LsSt G op false cx d (n+1) b6 d0 wd gs0 top0 pend0 c num0 s0 ixs c2 fs lf->OkL ec op Q rem (n+1) fs lf):OkL ec op Q (ctx cx []::rem) n fs lf:=by
 obtain⟨root,cf,gs,top,f,y,junk,lb,b8,items,dsA,i8,pend,rfl,hr,j1,o3,q0,h5,h2,o0,g0,d2,k0,h8,g3,d1,b9,j0,h7,e8,c8,m1,q5,b4⟩:=h1;have b7:ctx cx []=ctx (cx++ [.i wd]) []:=by rw[nQ];rfl
 have h6:FrS (cx++ [.i wd]) (cf++ [f,y]):=o3.append (.i d2 d1 b9 .nil);have f1:root::(cf++ [f,y])=(gs++ [top,f])++ [y]:=by
  have:root::(cf++ [f,y])=(root::cf)++ [f,y]:=rfl
  rw[this,j1];simp
 have a6:gs++top::f::y::junk=(gs++ [top,f])++y::junk:=by simp
 have c1:=b4.le (by omega);have f0: ∀k∈(gs++ [top,f])++y::junk,k.D.length<=90000:=λk E=>c1.1 k (by simpa using E)
 have f3:(txF ((gs++ [top,f])++y::junk)).length<=90000:=by rw[<-a6];exact c1.2
 have e6:(ctx (cx++ [.i wd]) []).length<100000:=b7▸e9
 show∀nl,pJ [ec] op (n+1) (ctx cx []) nl (gs++top::f::y::junk) lf (OkL ec op Q rem (n+1))
 intro nl
 suffices hs:pJ [ec] op (n+1) (ctx (cx++ [.i wd]) []) nl ((gs++ [top,f])++y::junk) lf (OkL ec op Q rem (n+1)) by
  have W:ctx (cx++ [.i wd]) []=ctx cx []:=b7.symm;rw[W] at hs;have m5:(gs++ [top,f])++y::junk=gs++top::f::y::junk:=a6.symm
  rw[m5] at hs;exact hs
 refine EA e0 h6 hr f1 (by simp;omega) e6 c8 (by omega) f0 f3 λp4 o4 I ds2 f2 e7 U p5 t1 b3 p1 n1 m3 c4 c9 m6 c5 c3 i0 q1 g5=>?_
 obtain⟨V,r3,rfl,g7,g1⟩:=p1.split;obtain⟨H,k5,rfl,d3,m8⟩:=ux t1;have q3:=c8.len;have q2:ds2.length<=1:=by
  have:=c9.len;have:=congrArg List.length c5;rw[lA0] at this;omega
 cases m8 with
 | @cons _ top5 _ fs5 z1 z2=>
  cases z2 with
  | @cons _ f5 _ _ z3 z4=>
   cases z4
   cases g1 with
   | @i _ fsn f6 g6 lb6 w6 bul6 num6 it6 y1 y2 y3 y5=>
    cases y5
    have n2:(U::V)++ [f6,g6]=(H++ [top5])++ [f5,o4]:=by
     have:(U::V)++ [f6,g6]=U::(V++ [f6,g6]):=rfl
     rw[this,m3];simp
    obtain⟨n3,W⟩:=lE4 n2 rfl;simp only[lU0,and_true] at W;obtain⟨rfl,rfl⟩:=W;have l5:ItemOf b8 g6 lb wd true:=by
     obtain⟨ib,m2,p3,n0⟩:=d1;exact⟨ib,m2,b3.1.trans p3,b3.2.2.trans n0⟩
    have h9:BD (n+1) (H++top5::f6::g6::I):=by
     have O:=b4.1;refine⟨λk E=>?_,?_⟩
     ·simp only[lO0,lX0] at E;rcases E with E|rfl|rfl|rfl|E
      ·have:=Bb d3 (λx a7=>O x (by simp[a7])) k E;omega
      ·have:=O top (by simp);rw[z1.2.2.1];omega
      ·have:=O f (by simp);rw[z3.2.2.1];omega
      ·have:=O y (by simp);rw[c4,lA0];omega
      ·have:=c3.2 (3*n) (λx a7=>O x (by simp[a7])) k E;omega
     ·have q8:=b4.2;have m4:=i0;have b5:(H++ [top5,f6])++g6::I=H++top5::f6::g6::I:=by simp
      rw[b5,<-a6] at m4;omega
    have b5:(H++ [top5,f6])++g6::I=H++top5::f6::g6::I:=by simp
    rw[b5];have f4:g6.ob.e=b6:=(g5 wd (by simp)).trans h7;refine g4 _ _ ⟨U,V,H,top5,f6,g6,I,lb,b8,items,dsA,i8++f2,e7,rfl,n1,n3,g7,λo2=>(by cases o2),h5.trans d3,z1.lk.trans h2,by rw[z1.2.2.1,o0],g0,z3.list d2,(z3.lk.2.1).trans k0,by rw[z3.2.2.1,h8],g3,l5,b9,b3.2.1.trans j0,f4,by rw[c4];exact e8.append c9,m6,by rw[lD0,c5,m1],by have:=c3.1;omega,h9⟩

structure Itm where
 mark:List UInt8
 ls:List (List UInt8)
 xs:Nat->List IN
def jT (gap:Bool):List Itm->List (List UInt8)
 | []=> []
 |it::r=>if gap then []::(itL it.mark it.ls++jT gap r) else itL it.mark it.ls++jT gap r
def su (gap:Bool):Nat->List Itm->List IN
 |_,[]=> []
 |n,it::r=>if gap then .mk {kind:=4,width:=it.mark.length,s:=n+2,e:=n+1+it.ls.length} (it.xs (n+2))::su gap (n+1+it.ls.length) r else .mk {kind:=4,width:=it.mark.length,s:=n+1,e:=n+it.ls.length} (it.xs (n+1))::su gap (n+it.ls.length) r
theorem sw {mk:List UInt8}{ls:List (List UInt8)}(h:ls≠ []):(itL mk ls).length=ls.length:=by
 cases ls with
 |nil=>exact absurd rfl h
 |cons s r=>simp[itL]
theorem ItOK.ne {ec:ai}{c:UInt8}{num:Nat}{mk:List UInt8}{ls:List (List UInt8)}{xs:Nat->List IN}{d:Nat}(g:ItOK G op ec c num mk ls xs d):ls≠ []:=by
 rintro rfl
 obtain⟨c0,r0,h,_⟩:=g.hd;cases h
theorem Dy (W:op.task=false){ec:ai}{c:UInt8}{d:Nat}(b9:Utf8.encode (c.toNat:Int)=bs [c])(gap:Bool){cx:List CX}{gs0:List Bk}{top0:Bk}{pend0:List IN}{num0:Int}{s0:Nat}{rem:List (List UInt8)}{Q:List DB->Prop}(a6:cx.length+(d+1)<=400): ∀(its:List Itm) {n O V wd:Nat} {ixs E:List IN} {fs:List Bk} {lf:Leaf},(∀it∈its,∃num,ItOK G op ec c num it.mark it.ls it.xs d)->LsSt G op true cx d n O V wd gs0 top0 pend0 c num0 s0 ixs E fs lf->n+(jT gap its).length<=20000->(∀s∈jT gap its,(ctx cx s).length<100000)->
 (∀fs lf,St G op cx (d+1) (n+(jT gap its).length) gs0 top0 (pend0++ [zS s0 c num0 (ixs++ .mk {kind:=4,width:=wd,s:=V,e:=O} E::su gap n its)]) fs lf->OkL ec op Q rem (n+(jT gap its).length) fs lf)->OkL ec op Q ((jT gap its).map (ctx cx)++rem) n fs lf:=by
 intro its
 induction its with
 |nil=>
  intro n O V wd ixs E fs lf _ H _ _ g;exact g _ _ (H.done b9)
 |cons it r b8=>
  intro n O V wd ixs E fs lf b7 H U y g;obtain⟨num,b5⟩:=b7 it (.head _);have b6:=λi hi=>b7 i (lQ1 _ hi)
  have I:=sw (mk:=it.mark) b5.ne;cases gap with
  |false=>
   have b3:jT false (it::r)=itL it.mark it.ls++jT false r:=rfl
   have b4:su false n (it::r)= .mk {kind:=4,width:=it.mark.length,s:=n+1,e:=n+it.ls.length} (it.xs (n+1))::su false (n+it.ls.length) r:=rfl
   rw[b4] at g;rw[b3] at g U y⊢;rw[lA0,I] at U;have a7:n+(itL it.mark it.ls++jT false r).length=n+it.ls.length+(jT false r).length:=by rw[lA0,I];omega
   rw[a7] at g;rw[lV0,lD0];refine wv W b5 H a6 (by omega) (λs hs=>y s (lE1 _ hs)) λfs lf h=>?_
   refine b8 b6 h (by omega) (λs hs=>y s (lB0 _ hs)) λfs lf h=>g fs lf ?_
   simpa[lD0] using h
  |true=>
   have b3:jT true (it::r)= []::(itL it.mark it.ls++jT true r):=rfl
   have b4:su true n (it::r)= .mk {kind:=4,width:=it.mark.length,s:=n+2,e:=n+1+it.ls.length} (it.xs (n+2))::su true (n+1+it.ls.length) r:=rfl
   rw[b4] at g;rw[b3] at g U y⊢;rw[lF0,lA0,I] at U;have a7:n+([]::(itL it.mark it.ls++jT true r)).length=n+1+it.ls.length+(jT true r).length:=by rw[lF0,lA0,I];omega
   rw[a7] at g;rw[lY1,lQ0,lV0,lD0];refine z0 W H a6 (by omega) (y [] (.head _)) λfs lf h=>?_
   refine wv W b5 h a6 (by omega) (λs hs=>y s (.tail _ (lE1 _ hs))) λfs lf h=>?_
   refine b8 b6 h (by omega) (λs hs=>y s (.tail _ (lB0 _ hs))) λfs lf h=>g fs lf ?_
   simpa[lD0] using h
theorem DW (b8:op.task=false){ec:ai}{c:UInt8}{num d:Nat}(k0:Utf8.encode (c.toNat:Int)=bs [c])(gap:Bool){mk:List UInt8}{ls:List (List UInt8)}{xs:Nat->List IN}{its:List Itm}(I:ItOK G op ec c num mk ls xs d)(e8: ∀it∈its,∃num,ItOK G op ec c num it.mark it.ls it.xs d):
 BlkP G op ec (itL mk ls++jT gap its) (λn=>zS n c num (.mk {kind:=4,width:=mk.length,s:=n,e:=n - 1+ls.length} (xs n)::su gap (n - 1+ls.length) its)) (d+1) (some c):=by
 intro cx root top cf gs junk pend0 rem n Q d1 d3 b9 hr b3 b6 b7 n2 g2 V c9 σ R L b b1 pb p w l o0 g4 g6 d0 c4 U hd H h2 h j1;obtain⟨c0,r0,g7,h1⟩:=I.hd;obtain⟨x,r,c5,g5⟩:=I.mkc;have f0:1<=mk.length:=by rw[c5];simp
 have m2:=sw (mk:=mk) I.ne;have H:LnR l (mk++ls.headD []):=H;obtain⟨e0,f5⟩:=I.marks l H;have h5:LnR l (x::(r++ls.headD [])):=by rw[c5] at H;exact H
 have a6:=LnR.skip H;have e7:({l with i:=l.i+mk.length}:Ln).has c0 r0:=by rw[g7] at a6;exact a6.has
 have m6:=b6.len;have n1:gs.length=cf.length:=by have:=congrArg List.length b3;simp at this;omega
 have m8:=b7.len;have m3:n+(itL mk ls++jT gap its).length=n+ls.length+(jT gap its).length:=by rw[lA0,m2];omega
 rw[m3] at c9 d3;have c8:=V.le (by omega);refine zR b8 g4 b7 (g2 c rfl) h hd (by omega) (rI b6.toS hr b3) h5.has g5 f5 e0 e7 h1 c8.1 c8.2 c4 d0 (by omega) λY d2 w p' O b5 f W lb it a1 a2 a3 k1 k2 k3 k4 f6 b4 e9 a7 f1 h7 g3 h=>?_
 obtain⟨m5,n0,i0,r2,h9⟩:=jz b6 hr b3 k1;have n3:=k3.len;have f2:junk= []->b5= []:=by
  rintro rfl
  cases b7
  cases k3
  rfl
 have h6:BDi n (gs++ [O,f]) W []:=by
  have j0:txF (gs++top::junk)=txF gs++(cj top.D++txF junk):=by simp[txF]
  have l5:txF ((gs++ [O,f])++ [W])=txF gs++(cj top.D++cj b5):=by
   rw[show (gs++ [O,f])++ [W]=gs++([O]++([f]++ [W])) by simp,bE,bE,bE,dH,dH,dH,k2,b4,a7,de];simp[cj]
  refine⟨λk y=>?_,λk y=>?_,.inr ⟨rfl,?_⟩⟩
  ·simp only[lO0,lX0,lJ1,or_false] at y;rcases y with y|rfl|rfl
   ·exact V.1 k y
   ·have:=V.2.1 top (.head _);rw[k2,lA0];omega
   ·rw[b4];simp
  ·obtain rfl:=lR0.1 y;rw[a7];simp
  ·rw[l5];have E:=V.2.2;rw[j0] at E;simp only[lA0] at E⊢;rcases E with E|⟨m4,E⟩
   ·omega
   ·rw[f2 m4];simp[cj] at E⊢;omega
 have e6:p'.pz=kE pb:=by rw[<-c4];exact oQ a1
 have g0:Sims gs gs:=by
  obtain⟨_,_,_,_,_,_,h4,_⟩:=h;exact Sims.refl λk y=>(h4 k (by simp[y])).2.2.2
 refine d2 _ _ _ (BO I (gs0:=gs) (top0:=top) (pend0:=pend0) (num0:=(num:Nat)) (s0:=n+1) (ixs:= []) (items:= []) (dsA:=b5) (rem:=(jT gap its).map (ctx cx)++rem) (Q:=Q) d1 (by omega) (λs hs=>b9 s (lE1 _ hs)) r2 i0 h9 g0 k1.lk k2 k3 f6 (f1.trans U) (by rw[b4];rfl) .nil e9 a7 (h7.trans U) (g3.trans U) f0 h6 (λfs lf f3=>?_) (Runs.of d2 b b1) g6 d0 e6 (a2.trans U) (by rw[a3,hd]) a6 h2 h λw h8 f4 g1 i3 i2 i1 h=>?_)
 ·refine Dy b8 k0 gap d1 its e8 f3 d3 (λs hs=>b9 s (lB0 _ hs)) λfs lf h=>c9 fs lf ?_
  have i8:n+1 - 1=n:=by omega
  simp only[i8];exact h
 ·refine j1 w h8 f4 g1 (i3.trans a1) (i2.trans a2) ?_ h;have m1:(itL mk ls++jT gap its).tail=(itL mk ls).tail++jT gap its:=rfl;rw[m1,lV0,lD0];exact i1

def jl:List (List UInt8)->List (List UInt8 × UInt8)
 | []=> []
 |l::ls=>(l,if ls= [] then 0 else 10)::jl ls

theorem ss: ∀ {ls:List (List UInt8)},ls≠ []->(∀l∈ls,noNL l)->ls.getLast? ≠some []->LinesOf (bv [10] ls) (jl ls)
 | [l],_,h,hl=>by
  have:=LinesOf.last (l:=l) (by rintro rfl;exact hl rfl) (h l (by simp))
  simpa[bv,jl] using this
 |l::m::ls,_,h,hl=>by
  have g:=ss (ls:=m::ls) (by simp) (λx y=>h x (by simp[y])) (by simpa using hl)
  have e:bv [10] (l::m::ls)=l++10::bv [10] (m::ls):=by simp[bv]
  rw[e];exact LinesOf.cons (h l (by simp)) g
theorem Ev: ∀ls:List (List UInt8),(jl ls).map Prod.fst=ls
 | []=>rfl
 |l::ls=>by rw[jl,lY1,Ev ls]
theorem St.closeAll (H:op.task=false){d n:Nat}{g:Bk}{xs:List IN}{fs:List Bk}{lf:Leaf}{Q:List DB->Prop}(b6:n<=20000)(U:g.D= [])(b4: ∀D,TDs G op D xs->Q D)(h:St G op [] d n [] g xs fs lf):pN op fs lf Q:=by
 obtain⟨root,cf,gs,top,junk,c9,c5,pend,rfl,hr,E,b3,b9,d1,b7,b8,c2,c4,d0,a7⟩:=h;cases b9
 cases b3
 simp only[lT0,lU0,and_true] at E;subst E;have y:=a7.le b6;intro σ R L b pb p w X b5 a6 O h c1;refine c2.close H σ R L b pb p w X [] root 0 b5 a6 O (by omega) y.1 y.2 h λw p' I l a1 a2 a3 c3 W V c8 h=>?_
 refine c1 w p' I a1 (c3.root hr) (b4 _ ?_) h;rw[W,b7,U,lT0,<-c4];exact b8.append V
theorem vW (V:op.task=false){ec:ai}{ls:List (List UInt8)}{xs:Nat->List IN}{d:Nat}{bc:Option UInt8}(b7:CL G op ec ls xs d bc){c0:UInt8}{r0:List UInt8}(O:ls.headD []=c0::r0)(b4:cL c0=false)(hd:d<=400)(c5:ls.length<=20000)(H: ∀l∈ls,noNL l/\0 ∉ l/\l.length<100000)(U:ls.getLast? ≠some [])(W:(bv [10] ls).length<1000000):
 vn [ec] op (bv [10] ls) (λy=>y=xs 1):=by
 have a6:ls≠ []:=by rintro rfl;cases O
 refine xP (G:=G) (ss a6 (λl I=>(H l I).1) U) (λc2=>?_) W (λrem n fs lf=>OkL ec op (λD=> ∃y,oS G D y/\y=xs 1/\ ∀x∈cj D,js none [] op x.raw (G x.raw)) (rem.map Prod.fst) n fs lf) ?_ ?_ ?_
 ·have b3: ∀ls:List (List UInt8),(∀l∈ls,0 ∉ l)->(0:UInt8) ∉ bv [10] ls:=by
   intro ls
   induction ls with
   |nil=>intro _ h;simp[bv] at h
   |cons l ls b8=>
    intro h g;cases ls with
    |nil=>simp[bv] at g;exact h l (by simp) g
    |cons m ls=>
     have e:bv [10] (l::m::ls)=l++10::bv [10] (m::ls):=by simp[bv]
     rw[e] at g;simp only[lO0,lX0] at g;rcases g with g|g|g
     ·exact h l (by simp) g
     ·cases g
     ·exact b8 (λx b5=>h x (.tail _ b5)) g
  exact b3 ls (λl I=>(H l I).2.1) c2
 ·intro root hr E
  show OkL ec op _ ((jl ls).map Prod.fst) 0 [root] .none
  rw[Ev];have:=El b7 O b4 (cx:= []) (root:=root) (top:=root) (cf:= []) (gs:= []) (junk:= []) (pend0:= []) (rem:= []) (n:=0) (Q:=λD=> ∃y,oS G D y/\y=xs 1/\ ∀x∈cj D,js none [] op x.raw (G x.raw)) (by simpa using hd) (by omega) (λs hs=>(H s hs).2.2) hr rfl .nil .none (by simp) (.inl rfl) (λc _=> .inl rfl) ⟨λf c1=>by obtain rfl:=lR0.1 c1;rw[E];simp,by simp[txF,cj,E]⟩ ?_
  ·have e:ls.map (ctx [])=ls:=by
    have:(ctx []:List UInt8->List UInt8)=id:=rfl
    rw[this,List.map_id]
   rw[e,lG0] at this;exact this
  ·intro c4 c3 b9 b6 fs lf a7;cases b9
   show pN op fs lf _
   refine a7.closeAll V (by omega) (by rw[b6.2.2.1,E]) λD E=>⟨_,E.trees,rfl,E.txs⟩
 ·intro l nl rem n fs lf h;exact h nl
 ·intro n fs lf h;exact h
theorem zM {ec:ai}{text:List UInt8}{H:List IN->Prop}(U:vn [ec] op text H)(I:ec∈L)(h:Sat σ w L)(a7: ∀w u M s e xs,NodeAt (.mk {kind:=1,s:=s,e:=e} xs) u M->H xs->Sat σ w (M++L)->R (hQ u.V) w):
 callE P mX #[optV op,hX (bs text)] R w:=by
 refine ni.sound ?_;refine Sat.bx h λb w h=>?_
 refine Sat.bx h λg w h=>?_
 have ld: ∀(k:Nat) (v:Bool),([hV op.strike,hV op.task,hV op.auto,hV op.http,hV op.table,hV op.dot,hV op.dash,hV op.quote,hV op.ids,hV op.emoji])[k]? =some (hV v)->w.cell? (hZ b k)=some (hV v):=λk v hv=>Sat.ld h (.tail _ (.head _)) hv
 refine⟨_,ld 0 _ rfl,_,ld 1 _ rfl,_,ld 2 _ rfl,_,ld 3 _ rfl,_,ld 4 _ rfl,_,ld 5 _ rfl,_,ld 6 _ rfl,_,ld 7 _ rfl,_,ld 8 _ rfl,_,ld 9 _ rfl,?_⟩;refine Bi (o:=op) h λw pb h=>⟨_,rfl,?_⟩
 refine lj.sound ?_;refine U σ _ _ w pb (by simp[I]) h (.head _) λw db k s e xs y a6 W h=>⟨_,_,rfl,_,rfl,?_⟩
 refine a6 σ _ _ w h λw u M O h=>xH ?_
 generalize E:((b,cel [hV op.strike,hV op.task,hV op.auto,hV op.http,hV op.table,hV op.dot,hV op.dash,hV op.quote,hV op.ids,hV op.emoji] fa):ai)=ob at h;have h:Sat σ w (M++(y++(op.at pb::(g,cel (N16.C {}).toList al)::ob::L))):=by rw[<-E];rw[<-E] at h;exact h
 have h:Sat σ w ((g,cel (N16.C {}).toList al)::(M++(y++(op.at pb::ob::L)))):=h.re
 refine h.st16 0 {} u λw h=>h.ldB16 u (.head _) ?_
 refine a7 w u M s e xs O W ?_;exact h.less ((g,cel u.C.toList al)::op.at pb::ob::y)

def Av (g:List UInt8):Nat:=g.foldl (λa c=>a*10+(c.toNat - 48)) 0
theorem wb (g:List UInt8)(c:UInt8):Av (g++ [c])=Av g*10+(c.toNat - 48):=by simp[Av]
theorem Fg: ∀(n:Nat) (g:List UInt8),g.length=n->(∀c∈g,CY c=true)->Av g<10 ^ n:=by
 intro n
 induction n with
 |zero=>intro g h _;obtain rfl:=lC1 h;decide
 |succ n H=>
  intro g h hd;obtain⟨m,c,rfl⟩: ∃m c,g=m++ [c]:=by
   have y:g≠ []:=by intro O;rw[O] at h;simp at h
   exact⟨g.dropLast,g.getLast y,(lW3 y).symm⟩
  have U:=H m (by simpa using h) λx I=>hd x (by simp[I])
  have E:=hd c (by simp);simp only[CY,lK1,decide_eq_true_eq] at E;rw[wb,Nat.pow_succ];omega
theorem Ba {b b0 b1 g num:Nat}{q:Option Addr}{l t1:Ln}{c d:UInt8}{r:List UInt8}(h:Sat σ w (t1.at b0::(b1,cel [kT q] ah)::l.at b::L))(E:t1.has 32 (d::r))(hd:cL d=false)(V:g<=90)(I: ∀w b2 (t':Ln),Sat σ w (({t1 with i:=t1.i+1}:Ln).at b0::(b1,cel [kT q] ah)::t'.at b2::l.at b::L)->am.k8 R b1 b0 ((g+1:Nat):Int) (c.toNat:Int) (num:Nat) w):
 am.k3 R b1 b0 (g:Nat) (c.toNat:Int) (num:Nat) w:=by
 have y:=E.next
 generalize O:({t1 with i:=t1.i+1}:Ln)=t2 at y I;have H: ∀e,t2.trimSp 1 1 e=none:=by intro e;unfold Ln.trimSp;rw[y.tsGo hd];rfl
 refine YtendaipfdnhnaaaGreatDoor.trimSp_ok (min:=1) (max:=1) h E.ok (by decide) (by decide) ?_;rw[E.sp1,O];intro w h;refine⟨_,rfl,ae rfl ?_⟩;refine⟨_,h.ldA,?_⟩;refine⟨_,h.ldA,?_⟩;refine⟨_,h.ldA,?_⟩;refine⟨_,h.ldA,?_⟩;refine⟨_,h.ldA,?_⟩;refine Sat.bx h λb2 w h=>?_
 refine h.stA 0 λw h=>?_
 refine h.stA 0 λw h=>?_
 refine h.stA 0 λw h=>?_
 refine h.stA 0 λw h=>?_
 refine h.stA 0 λw h=>?_
 have h:Sat σ w (t2.at b2::t2.at b0::(b1,cel [kT q] ah)::l.at b::L):=h
 rw[aN (by omega)];intro X U;refine U _ _ _ _ _ _ _ _ _ (ag (by decide) ?_);refine YtendaipfdnhnaaaGreatDoor.trimSp_ok (min:=1) (max:=1) h y.ok (by decide) (by decide) ?_;rw[H];intro w h;refine⟨_,rfl,ae rfl ?_⟩;unfold am.k6;refine YtendaipfdnhnaaaGreatDoor.trimSp_ok (min:=1) (max:=1) h y.ok (by decide) (by decide) ?_;rw[H];intro w h;refine⟨_,rfl,ag rfl ?_⟩;refine⟨_,h.ldA,?_⟩;refine⟨_,h.ldA,?_⟩;refine⟨_,h.ldA,?_⟩;refine⟨_,h.ldA,?_⟩;refine⟨_,h.ldA,?_⟩;refine h.stA 1 λw h=>?_
 refine h.stA 1 λw h=>?_
 refine h.stA 1 λw h=>?_
 refine h.stA 1 λw h=>?_
 refine h.stA 1 λw h=>?_
 rw[show ((g+1:Nat):Int)+0=((g+1:Nat):Int) by omega,i64_in _ (by omega)];have h:Sat σ w (t2.at b2::t2.at b0::(b1,cel [kT q] ah)::l.at b::L):=h
 exact I w b2 t2 (h.re)
theorem Ln.has.skip {l:Ln}{x:UInt8}{s:List UInt8}(h:l.has x s): ∀(m:Nat) {g:UInt8} {u:List UInt8},(x::s).drop m=g::u->({l with i:=l.i+m}:Ln).has g u
 |0,g,u,he=>by
  simp only[lL2,lU0] at he;obtain⟨rfl,rfl⟩:=he;exact h
 |m+1,g,u,he=>by
  have I:m<(x::s).length:=by
   rcases lL4 m (x::s).length with H|H
   ·exact H
   ·rw[lA2 (by omega)] at he;cases he
  have E:(x::s).drop m=(x::s)[m]::(x::s).drop (m+1):=lG1 I
  rw[he] at E;have:=(Ln.has.skip h m E).next
  simpa[lD3] using this
theorem Ln.has.numberM {l:Ln}{x mk:UInt8}{g r:List UInt8}{d:UInt8}(c2:mk=46\/mk=41)(E:l.has x (g++mk::32::d::r))(e8:l.text.length<4611686018427387904)(O: ∀c∈x::g,CY c=true)(e0:g.length<=8)(hd:cL d=false):
 pL l mk (Av (x::g)) (g.length+3) {l with i:=l.i+(g.length+3)}/\({l with i:=l.i+(g.length+3)}:Ln).has d r:=by
 have b5:x::(g++mk::32::d::r)=(x::g)++mk::32::d::r:=rfl
 have a6:({l with i:=l.i+(g.length+2)}:Ln).has 32 (d::r):=E.skip (g.length+2) (by rw[b5,lU5,lA2 (by simp),lF0,show g.length+2 - (g.length+1)=1 by omega];rfl)
 have W:({l with i:=l.i+(g.length+3)}:Ln).has d r:=a6.next
 refine⟨⟨W.ok,by omega,?_⟩,W⟩;intro σ w L R b q h d1;have e4:(x::g).length=g.length+1:=rfl
 have a7:=O x (by simp);simp only[CY,lK1,decide_eq_true_eq] at a7;have c1:cL x=false:=by
  simp only[cL,lI2,beq_eq_false_iff_ne,ne_eq];constructor<;>(rintro rfl;revert a7;decide)
 have U:=E.ok;have e6:l.text.length=l.i+(g.length+1+(3+r.length)):=by have:=congrArg List.length E.tx;have:=E.lt;simp at*;omega
 have V: ∀j,l.text.getD (l.i+j) 0=((x::g)++mk::32::d::r).getD j 0:=by intro j;rw[<-b5,<-E.tx,lP0,lP0,lJ4]
 refine am.sound ?_;refine Sat.bx h λb1 w h=>?_
 repeat (first|refine aa ?_|refine h.tk λw h=>?_|refine⟨_,h.ldA,?_⟩|refine⟨_,_,_,h.ldA,?_⟩|refine h.stA 0 λw h=>?_|refine h.stA 1 λw h=>?_|refine h.stA 2 λw h=>?_|refine h.stA 3 λw h=>?_|refine h.stA 4 λw h=>?_|refine h.stA 5 λw h=>?_|refine h.stA 6 λw h=>?_|refine h.bx λb0 w h=>?_)
 have h:Sat σ _ (l.at b0::(b1,cel [kT q] ah)::l.at b::L):=h
 intro X d0;refine d0 _ _ _ _ _ (ag (by simp) ?_);refine YtendaipfdnhnaaaGreatDoor.trimSp_ok (min:=1) (max:=1) h U (by decide) (by decide) ?_;have b7:l.trimSp 1 1 false=none:=by unfold Ln.trimSp;rw[E.tsGo c1];rfl
 rw[b7];intro w h;refine⟨_,rfl,ag rfl ?_⟩;refine lS h (by first|assumption|(repeat (first|exact .head _|apply List.Mem.tail))) U λw h=>⟨_,rfl,?_⟩
 rw[E.peek];have ne: ∀(d:UInt8) (n:Int),(d.toNat:Int)=n->(d.toNat<48\/57<d.toNat)->(((x.toNat:Nat):Int)==n)=false:=by
  intro d n hd e7;refine ue hd ?_
  rintro rfl;omega
 have k4:am.k4 R b1 b0 0 0 true w:=by
  refine ag rfl ?_;refine⟨_,h.ldA,?_⟩;intro Y b3;have c5: ∀k j w,j+k=(x::g).length->Sat σ w (l.at b0::(b1,cel [kT q] ah)::l.at b::L)->Y b1 b0 0 ((Av ((x::g).take j):Nat):Int) ((l.i+j:Nat):Int) w:=by
   intro k
   induction k with
   |zero=>
    intro j w b4 h;have b9:j=g.length+1:=by simpa using b4
    refine b3 _ _ _ _ _ _ ?_;refine⟨_,h.ldA,?_⟩;refine ae (by rw[aI];simp;omega) ?_;refine⟨_,h.ldA,?_⟩;refine⟨by omega,by rw[aI];omega,?_⟩;rw[oP,V];have H:((x::g)++mk::32::d::r).getD j 0=mk:=by
     rw[lP0,lH0 (by simp;omega),lF0,show j - (g.length+1)=0 by omega];rfl
    rw[H];refine ag (by rcases c2 with rfl|rfl<;>rfl) ?_;refine⟨_,h.ldA,?_⟩;rw[aN (by omega)];refine h.stA 0 λw h=>?_
    rw[lB2 (by simp;omega)];have c9:i64.wrap (0+i64.wrap (((l.i+j+1:Nat):Int) - ((l.i:Nat):Int)))=((g.length+2:Nat):Int):=by
     rw[i64_in (_ - _) (by omega),i64_in _ (by omega)];omega
    rw[c9];have h:Sat σ w (({l with i:=l.i+(g.length+2)}:Ln).at b0::(b1,cel [kT q] ah)::l.at b::L):=by
     rw[b9,show l.i+(g.length+1)+1=l.i+(g.length+2) by omega] at h;exact h
    refine Ba (c:=mk) (l:=l) h a6 hd (by omega) λw b2 t' h=>?_
    exact d1 w b0 b1 b2 t' h
   |succ k d2=>
    intro j w b4 h;have y:j<(x::g).length:=by omega
    have c8:j<=8:=by simp at y;omega
    refine b3 _ _ _ _ _ _ ?_;refine⟨_,h.ldA,?_⟩;refine ae (by rw[aI];simp at y;simp;omega) ?_;refine⟨_,h.ldA,?_⟩;refine⟨by omega,by rw[aI];simp at y;omega,?_⟩;rw[oP,V];have H:((x::g)++mk::32::d::r).getD j 0=(x::g)[j]:=by rw[lP0,lM0 y,lI0 y];rfl
    rw[H];have c3:(x::g).take (j+1)=(x::g).take j++ [(x::g)[j]]:=lF1 y
    have b6:=O _ (lP1 y);have b8:=Fg j ((x::g).take j) (by simp at y⊢;omega) λc hc=>O c (lW4 hc)
    have e3:Av ((x::g).take j)<10 ^ 8:=Nat.lt_of_lt_of_le b8 (Nat.pow_le_pow_right (by decide) c8)
    generalize (x::g)[j]=dg at*
    have I:=b6;simp only[CY,lK1,decide_eq_true_eq] at I;refine ae ?_ (ae (by simp;omega) ?_)
    ·have a1:=u8b dg 46 46 rfl;have a2:=u8b dg 41 41 rfl;rw[a1,a2];have b1:dg≠46:=by rintro rfl;revert I;decide
     have b2:dg≠41:=by rintro rfl;revert I;decide
     simp[b1,b2]
    unfold am.k9;refine⟨_,h.ldA,?_⟩;refine ae ?_ ?_
    ·rw[i64_in _ (by omega)];simp;omega
    rw[aN (by omega),show l.i+j+1=l.i+(j+1) by omega];have d3:i64.wrap (i64.wrap (i64.wrap (((Av ((x::g).take j):Nat):Int)*10)+i64.wrap ((dg.toNat:Nat):Int)) - 48)=((Av ((x::g).take (j+1)):Nat):Int):=by
     have e5:(10:Nat) ^ 8=100000000:=rfl
     rw[c3,wb];rw[i64_in (_*10) (by omega),i64_in ((dg.toNat:Nat):Int) (by omega),i64_in (_+_) (by omega),i64_in _ (by omega)];omega
    rw[d3];exact d2 (j+1) w (by omega) h
  have:=c5 (x::g).length 0 w (by simp) h
  rw[lN1] at this;exact this
 refine ae (ne 45 45 rfl (by decide)) (ae (ne 42 42 rfl (by decide)) ?_);rw[ne 43 43 rfl (by decide)];refine ae rfl ?_;have c4:x.toNat=48\/x.toNat=49\/x.toNat=50\/x.toNat=51\/x.toNat=52\/x.toNat=53\/x.toNat=54\/x.toNat=55\/x.toNat=56\/x.toNat=57:=by omega
 rcases c4 with e|e|e|e|e|e|e|e|e|e<;>rw[e]
 ·exact ag rfl k4
 ·exact ae rfl (ag rfl k4)
 ·exact ae rfl (ae rfl (ag rfl k4))
 ·exact ae rfl (ae rfl (ae rfl (ag rfl k4)))
 ·exact ae rfl (ae rfl (ae rfl (ae rfl (ag rfl k4))))
 ·exact ae rfl (ae rfl (ae rfl (ae rfl (ae rfl (ag rfl k4)))))
 ·exact ae rfl (ae rfl (ae rfl (ae rfl (ae rfl (ae rfl (ag rfl k4))))))
 ·exact ae rfl (ae rfl (ae rfl (ae rfl (ae rfl (ae rfl (ae rfl (ag rfl k4)))))))
 ·exact ae rfl (ae rfl (ae rfl (ae rfl (ae rfl (ae rfl (ae rfl (ae rfl (ag rfl k4))))))))
 ·exact ae rfl (ae rfl (ae rfl (ae rfl (ae rfl (ae rfl (ae rfl (ae rfl (ae rfl (by exact k4)))))))))

theorem Ln.has.noHR2 {l:Ln}{c d:UInt8}{r m r2:List UInt8}(h:l.has c r)(hc:cL c=false)(y:c::r=m++d::r2)(hd:cL d=false)(g:d≠c):l.isHR=false:=by
 unfold Ln.isHR;simp only[h.lead hc 2,h.peek];split
 ·exact Ln.hrGo_has _ _ l h.ok h.sp ⟨m,by rw[h.tx,y]⟩ g hd
 ·rfl
theorem Ln.has.noHR3 {l:Ln}{c:UInt8}{r:List UInt8}(h:l.has c r)(hc:cL c=false)(g:c≠42/\c≠45/\c≠95):l.isHR=false:=by
 unfold Ln.isHR;simp only[h.lead hc 2,h.peek];rw[if_neg]
 rintro (rfl|rfl|rfl)
 ·exact absurd rfl (by first|exact g.1|exact g.2.1|exact g.2.2)
 ·exact absurd rfl (by first|exact g.1|exact g.2.1|exact g.2.2)
 ·exact absurd rfl (by first|exact g.1|exact g.2.1|exact g.2.2)
def inkB (s:List UInt8):Prop:= ∃d∈s,cL d=false/\d≠45
theorem yZ {c c0:UInt8}{r0:List UInt8}(hc:c=45\/c=43)(E:cL c0=false)(y:inkB (c0::r0)): ∀l,LnR l ([c,32]++(c0::r0))->pL l c 0 2 {l with i:=l.i+2}/\l.isHR=false:=by
 intro l g;have g:LnR l (c::32::c0::r0):=g
 have O:cL c=false:=by rcases hc with rfl|rfl<;>decide
 refine⟨Ln.marks g.ok (g.has.bullet (by rcases hc with rfl|rfl<;>simp) E),?_⟩;rcases hc with rfl|rfl
 ·obtain⟨d,hd,H,I⟩:=y;obtain⟨a,b,e⟩:=lS3 hd;exact g.has.noHR2 (by decide) (m:=45::32::a) (d:=d) (r2:=b) (by rw[e];rfl) H I
 ·exact g.has.noHR3 (by decide) (by decide)
theorem yY {x mk c0:UInt8}{g r0:List UInt8}(U:mk=46\/mk=41)(H: ∀c∈x::g,CY c=true)(I:g.length<=8)(O:cL c0=false): ∀l,LnR l ((x::(g++ [mk,32]))++(c0::r0))->pL l mk (Av (x::g)) (g.length+3) {l with i:=l.i+(g.length+3)}/\l.isHR=false:=by
 intro l y;have e:(x::(g++ [mk,32]))++(c0::r0)=x::(g++mk::32::c0::r0):=by simp
 rw[e] at y;have hd:=H x (.head _);have E:cL x=false/\x≠42/\x≠45/\x≠95:=by
  refine⟨?_,?_,?_,?_⟩
  ·simp only[cL,lI2,beq_eq_false_iff_ne,ne_eq];constructor<;>(rintro rfl;revert hd;decide)
  all_goals (rintro rfl;revert hd;decide)
 exact⟨(y.has.numberM U y.ok.len H I O).1,y.has.noHR3 E.1 E.2⟩

inductive BN where
 |para (ls:List LT)
 |head (lv:Nat) (x:LT)
 |hr
 |code (w:List UInt8) (ls:List (Nat × List UInt8))
 |setx (c:UInt8) (ls:List LT)
 |quote (bs:List BN)
 |list (c:UInt8) (num:Nat) (gap:Bool) (its:List (List BN))
def CZ (n:Nat):List UInt8:=if n<10 then [UInt8.ofNat (48+n)] else [UInt8.ofNat (48+n/10),UInt8.ofNat (48+n%10)]
def mkI (c:UInt8)(num:Nat):List UInt8:=if c=46\/c=41 then CZ num++ [c,32] else [c,32]
mutual
def bf:BN->List (List UInt8)
 | .para ls=>ls.map cy
 | .head lv x=> [hN lv 35++32::cy x]
 | .hr=> [[42,42,42]]
 | .code w ls=>(96::96::96::w)::(ls.map qW++ [[96,96,96]])
 | .setx c ls=>ls.map cy++ [[c,c,c]]
 | .quote bs=>(aD bs).tail.map λs=>62::32::s
 | .list c num gap its=>cZ c gap num its
def aD:List BN->List (List UInt8)
 | []=> []
 |b::r=> []::(bf b++aD r)
def cZ (c:UInt8)(gap:Bool)(num:Nat):List (List BN)->List (List UInt8)
 | []=> []
 |it::r=>itL (mkI c num) (aD it).tail++dQ c gap (num+1) r
def dQ (c:UInt8)(gap:Bool)(num:Nat):List (List BN)->List (List UInt8)
 | []=> []
 |it::r=>if gap then []::(itL (mkI c num) (aD it).tail++dQ c gap (num+1) r) else itL (mkI c num) (aD it).tail++dQ c gap (num+1) r
end
mutual
def iZ (n:Nat):BN->IN
 | .para ls=> .mk {kind:=6,s:=n,e:=n+ls.length - 1} (gO (tkG Tk.out [] (ff ls)))
 | .head lv x=> .mk {kind:=5,num:=(lv:Nat),s:=n,e:=n} (gO (tkG Tk.out [] (d5 x)))
 | .hr=> .mk {kind:=9,mark:= [42,42,42],s:=n,e:=n} []
 | .code w ls=> .mk {kind:=7,text:=dK (ls.map qW),title:=w,mark:= [96,96,96],s:=n,e:=n+ls.length+1} []
 | .setx c ls=> .mk {kind:=5,num:=(Aw c:Nat),s:=n,e:=n+ls.length} (gO (tkG Tk.out [] (ff ls)))
 | .quote bs=> .mk {kind:=2,s:=n,e:=n+(aD bs).tail.length - 1} (gh n bs)
 | .list c num gap its=>zS n c (num:Nat) (oh c gap num n its)
def gh (n:Nat):List BN->List IN
 | []=> []
 |b::r=>iZ n b::gh (n+(bf b).length+1) r
def oh (c:UInt8)(gap:Bool)(num n:Nat):List (List BN)->List IN
 | []=> []
 |it::r=> .mk {kind:=4,width:=(mkI c num).length,s:=n,e:=n - 1+(aD it).tail.length} (gh n it)::mg c gap (num+1) (n - 1+(aD it).tail.length) r
def mg (c:UInt8)(gap:Bool)(num n:Nat):List (List BN)->List IN
 | []=> []
 |it::r=>if gap then .mk {kind:=4,width:=(mkI c num).length,s:=n+2,e:=n+1+(aD it).tail.length} (gh (n+2) it)::mg c gap (num+1) (n+1+(aD it).tail.length) r else .mk {kind:=4,width:=(mkI c num).length,s:=n+1,e:=n+(aD it).tail.length} (gh (n+1) it)::mg c gap (num+1) (n+(aD it).tail.length) r
end
def bcB:BN->Option UInt8
 | .list c _ _ _=>some c
 |_=>none
def okLs (ls:List LT):Prop:=ls≠ []/\ls.length<=3/\ ∀x∈ls,xl x/\x.2.length<=2
mutual
def okB:BN->Prop
 | .para ls=>okLs ls
 | .head lv x=>(1<=lv/\lv<=6)/\xl x/\x.2.length<=2
 | .hr=>True
 | .code w ls=>(∀c∈w,Ax c=true)/\w.length<=100/\ls≠ []/\ls.length<=3/\ ∀x∈ls,x.1<=2/\WdP x.2
 | .setx c ls=>(c=61\/c=45)/\okLs ls
 | .quote bs=>bs≠ []/\okS bs
 | .list c num gap its=>(c=45\/c=43\/c=46\/c=41)/\num+its.length<=90/\its≠ []/\okJ its
def okS:List BN->Prop
 | []=>True
 |b::r=>okB b/\(∀c,(r.head?.bind bcB)=some c->bcB b≠some c)/\okS r
def okJ:List (List BN)->Prop
 | []=>True
 |it::r=>it≠ []/\okS it/\okJ r
end
mutual
def dpB:BN->Nat
 | .quote bs=>dpT bs+1
 | .list _ _ _ its=>dpJ its+1
 |_=>0
def dpT:List BN->Nat
 | []=>0
 |b::r=>max (dpB b) (dpT r)
def dpJ:List (List BN)->Nat
 | []=>0
 |it::r=>max (dpT it) (dpJ r)
end
theorem BN.ind {P:BN->Prop}{S:List BN->Prop}{J:List (List BN)->Prop}(V: ∀ls,P (.para ls))(b3: ∀lv x,P (.head lv x))(a6:P .hr)(b4: ∀w ls,P (.code w ls))(a7: ∀c ls,P (.setx c ls))(U: ∀bs,S bs->P (.quote bs))(W: ∀c num gap its,J its->P (.list c num gap its))(s0:S [])(O: ∀b r,P b->S r->S (b::r))(H:J [])(I: ∀it r,S it->J r->J (it::r)):(∀b,P b)/\(∀l,S l)/\ ∀l,J l:=by
 have E: ∀b,P b:=λb=>BN.rec (motive_1:=P) (motive_2:=S) (motive_3:=J) V b3 a6 b4 a7 (λbs h=>U bs h) (λc num gap its h=>W c num gap its h) s0 (λb r h g=>O b r h g) H (λit r h g=>I it r h g) b
 have hs: ∀l,S l:=by
  intro l
  induction l with
  |nil=>exact s0
  |cons b r y=>exact O b r (E b) y
 refine⟨E,hs,λl=>?_⟩
 induction l with
 |nil=>exact H
 |cons it r y=>exact I it r (hs it) y

theorem ES {t:Tk}(h:FS t):t.B.length<=304:=by
 cases t with
 |wd s=>have:=h.len;simp only[Tk.B];omega
 |sp=>exact h.elim
 |nl=>exact h.elim
 |em k s=>have y:=h.1.len;have g:=h.2;simp only[Tk.B,lA0,lG2];omega
 |cd s=>have:=h.len;simp only[Tk.B,lA0,lF0,lM1];omega
 |lk s d=>have y:=h.1.len;have g:=h.2.len;simp only[Tk.B,lA0,lF0,lM1];omega
 |es s=>have:=h.len;simp only[Tk.B,lF0];omega
theorem wt: ∀l:List Tk,(∀t∈l,FS t)->(tkB (qc l)).length<=305*l.length
 | [],_=>by simp[qc,tkB]
 |t::l,h=>by
  have E:=wt l λx g=>h x (.tail _ g)
  have ht:=ES (h t (.head _));have e:qc (t::l)= .sp::t::qc l:=rfl
  rw[e,cu,cu];have y:Tk.sp.B.length=1:=rfl;simp only[lA0,lF0,y];omega
theorem jC {x:LT}(h:xl x)(y:x.2.length<=2):(cy x).length<=710:=by
 have E:=h.1.len;have g:=wt x.2 h.2;have e:cy x=x.1++tkB (qc x.2):=rfl;rw[e,lA0];omega
theorem p9: ∀ls:List LT,(∀x∈ls,xl x/\x.2.length<=2)->(bv [10] (ls.map cy)).length<=711*ls.length
 | [],_=>by simp[bv]
 | [x],h=>by
  have:=jC (h x (.head _)).1 (h x (.head _)).2;simp[bv];omega
 |x::y::r,h=>by
  have g:=p9 (y::r) λz hz=>h z (.tail _ hz)
  have:=jC (h x (.head _)).1 (h x (.head _)).2;have e:bv [10] ((x::y::r).map cy)=cy x++10::bv [10] ((y::r).map cy):=by simp[bv]
  rw[e];simp only[lA0,lF0] at g⊢;omega
theorem okLs.len {ls:List LT}(h:okLs ls):(bv [10] (ls.map cy)).length<200000:=by
 have:=p9 ls h.2.2;have:=h.2.1;omega
theorem nP {n:Nat}(h:n<100): ∃x g,CZ n=x::g/\(∀c∈x::g,CY c=true)/\g.length<=1/\Av (x::g)=n:=by
 have I:(List.range 100).all (λn=>(CZ n).all CY && decide (CZ n≠ []) && decide ((CZ n).length<=2) && decide (Av (CZ n)=n))=true:=by kernel_rfl
 have:=lD2.1 I n (lX2.2 h);simp only[lK1,decide_eq_true_eq,lD2] at this;obtain⟨⟨⟨y,O⟩,E⟩,H⟩:=this;obtain⟨x,g,e⟩:=lA1 O;rw[e] at y E H;exact⟨x,g,e,y,by simpa using E,H⟩
theorem tX {c:UInt8}(h:CY c=true):cL c=false/\c≠45/\c≠62/\c≠35/\c≠10/\c≠13/\c≠0:=by
 have:=lD2.1 (show (List.range 256).all (λn=> !(CY (UInt8.ofNat n))||(!cL (UInt8.ofNat n) && UInt8.ofNat n !=45 && UInt8.ofNat n !=62 && UInt8.ofNat n !=35 && UInt8.ofNat n !=10 && UInt8.ofNat n !=13 && UInt8.ofNat n !=0))=true by kernel_rfl) c.toNat (lX2.2 c.toNat_lt);rw[lY3,h] at this
 simpa[and_assoc] using this
def Hd (ls:List (List UInt8)):Prop:= ∃c0 r0 rest,ls=(c0::r0)::rest/\cL c0=false/\inkB (c0::r0)
theorem Fx {x:LT}(h:xl x)(rest:List (List UInt8)):Hd (cy x::rest):=by
 obtain⟨c,r,e,hc⟩:=p8 h;obtain⟨_,g,_,y,_⟩:=rm hc;exact⟨c,r,rest,by rw[e],g,c,.head _,g,y⟩
theorem zh {ls:List LT}(h:okLs ls)(rest:List (List UInt8)):Hd (ls.map cy++rest):=by
 obtain⟨x,r,rfl⟩:=lA1 h.1;exact Fx (h.2.2 x (.head _)).1 (r.map cy++rest)
theorem Hd.append {a:List (List UInt8)}(h:Hd a)(b:List (List UInt8)):Hd (a++b):=by
 obtain⟨c0,r0,rest,rfl,y,g⟩:=h;exact⟨c0,r0,rest++b,rfl,y,g⟩
theorem Hd.item {mk:List UInt8}{x:UInt8}{r:List UInt8}{ls:List (List UInt8)}(h:Hd ls)(H:mk=x::r)(I:cL x=false)(rest:List (List UInt8)):Hd (itL mk ls++rest):=by
 obtain⟨c0,r0,g,rfl,U,d,E,y,O⟩:=h;subst H;refine⟨x,r++(c0::r0),g.map (CX.pre (.i (x::r).length))++rest,rfl,I,d,?_,y,O⟩;rw[<-lQ0];exact lB0 _ E
theorem wi {c:UInt8}{num:Nat}(hc:c=45\/c=43\/c=46\/c=41)(H:num<100): ∃x r,mkI c num=x::r/\xe x/\(mkI c num).length<100:=by
 rcases hc with rfl|rfl|rfl|rfl
 ·exact⟨45,[32],rfl,by unfold xe;decide,by show 2<100;decide⟩
 ·exact⟨43,[32],rfl,by unfold xe;decide,by show 2<100;decide⟩
 all_goals
  obtain⟨x,U,e,g,W,V⟩:=nP H;obtain⟨I,O,E,y,_⟩:=tX (g x (.head _));refine⟨x,_,by unfold mkI;rw[if_pos (by decide),e];rfl,⟨I,E,y⟩,?_⟩;unfold mkI;rw[if_pos (by decide),e];simp only[lA0,lF0,lM1];omega
theorem Br {c:UInt8}{num:Nat}(hc:c=45\/c=43\/c=46\/c=41)(U:num<100){ls:List (List UInt8)}(h:Hd ls): ∀l,LnR l (mkI c num++ls.headD [])->pL l c ((if c=46\/c=41 then num else 0:Nat)) (mkI c num).length {l with i:=l.i+(mkI c num).length}/\l.isHR=false:=by
 obtain⟨c0,r0,rest,rfl,y,O⟩:=h;rcases hc with rfl|rfl|rfl|rfl
 ·exact yZ (.inl rfl) y O
 ·exact yZ (.inr rfl) y O
 ·obtain⟨x,g,e,I,V,H⟩:=nP U;have em:mkI 46 num=x::(g++ [46,32]):=by unfold mkI;rw[if_pos (by decide),e];rfl
  have E:(mkI 46 num).length=g.length+3:=by rw[em];simp
  rw[if_pos (by decide),E,em,<-H];exact yY (.inl rfl) I (by omega) y
 ·obtain⟨x,g,e,I,V,H⟩:=nP U;have em:mkI 41 num=x::(g++ [41,32]):=by unfold mkI;rw[if_pos (by decide),e];rfl
  have E:(mkI 41 num).length=g.length+3:=by rw[em];simp
  rw[if_pos (by decide),E,em,<-H];exact yY (.inr rfl) I (by omega) y
theorem lU (b:BN)(r:List BN):(aD (b::r)).tail=bf b++aD r:=rfl
theorem pt:(∀b,okB b->Hd (bf b))/\(∀l,okS l->l≠ []->Hd (aD l).tail)/\ ∀l,okJ l-> ∀it∈l,it≠ []/\okS it/\Hd (aD it).tail:=by
 refine BN.ind (P:=λb=>okB b->Hd (bf b)) (S:=λl=>okS l->l≠ []->Hd (aD l).tail) (J:=λl=>okJ l-> ∀it∈l,it≠ []/\okS it/\Hd (aD it).tail) ?_ ?_ ?_ ?_ ?_ ?_ ?_ ?_ ?_ ?_ ?_
 ·intro ls h;have:=zh h []
  rwa [lG0] at this
 ·intro lv x ⟨⟨U,V⟩,b3,_⟩;obtain⟨k,rfl⟩: ∃k,lv=k+1:=⟨lv - 1,by omega⟩
  exact⟨35,hN k 35++32::cy x,[],rfl,by decide,35,.head _,by decide,by decide⟩
 ·intro _;exact⟨42,[42,42],[],rfl,by decide,42,.head _,by decide,by decide⟩
 ·intro w ls _;exact⟨96,96::96::w,_,rfl,by decide,96,.head _,by decide,by decide⟩
 ·intro c ls h;exact zh h.2 _
 ·intro bs y h;obtain⟨c0,r0,rest,e,U,V⟩:=y h.2 h.1;refine⟨62,32::c0::r0,rest.map λs=>62::32::s,?_,by decide,62,.head _,by decide,by decide⟩
  show (aD bs).tail.map _=_
  rw[e];rfl
 ·intro c num gap its y h;obtain⟨hc,W,O,a6⟩:=h;obtain⟨it,r,rfl⟩:=lA1 O;simp only[lF0] at W;obtain⟨x,t,e,g,_⟩:=wi (num:=num) hc (by omega);exact(y a6 it (.head _)).2.2.item e g.1 _
 ·intro _ h;exact absurd rfl h
 ·intro b r I a7 h _;rw[lU];exact(I h.1).append _
 ·intro _ it h;cases h
 ·intro it r E H h x g;cases g with
  |head=>exact⟨h.1,h.2.1,E h.2.1 h.1⟩
  |tail _ g=>exact H h.2.2 x g
def CT (c:UInt8):Nat->List (List BN)->List Itm
 |_,[]=> []
 |num,it::r=>⟨mkI c num,(aD it).tail,λn=>gh n it⟩::CT c (num+1) r
theorem wl (c:UInt8)(gap:Bool): ∀(its:List (List BN)) (num:Nat),dQ c gap num its=jT gap (CT c num its)
 | [],_=>rfl
 |it::r,num=>by
  rw[dQ,CT,jT,wl c gap r (num+1)]
theorem rV (c:UInt8)(gap:Bool): ∀(its:List (List BN)) (num n:Nat),mg c gap num n its=su gap n (CT c num its)
 | [],_,_=>rfl
 |it::r,num,n=>by
  rw[mg,CT,su,rV c gap r,rV c gap r]
theorem y7 {c:UInt8}: ∀ {its:List (List BN)} {num:Nat} {i:Itm},i∈CT c num its-> ∃k it,it∈its/\k<num+its.length/\i=⟨mkI c k,(aD it).tail,λn=>gh n it⟩
 |it::r,num,i,h=>by
  rw[CT] at h;cases h with
  |head=>exact⟨num,it,.head _,by simp,rfl⟩
  |tail _ h=>
   obtain⟨k,x,y,E,g⟩:=y7 h;exact⟨k,x,.tail _ y,by simp;omega,g⟩
theorem Dv {s:Nat}{c:UInt8}{a b:Int}{its:List IN}(h:c=46\/c=41->a=b):zS s c a its=zS s c b its:=by
 unfold zS
 by_cases hc:c=46\/c=41
 ·rw[h hc]
 ·rw[if_neg hc,if_neg hc]
theorem zO {c:UInt8}: ∀b:BN,okB b->bcB b≠some c-> ∀n,(iZ n b).h.char≠ [c]:=by
 intro b hb h n;cases b with
 |list E num gap its=>
  intro g;have y:([E]:List UInt8)= [c]:=g
  exact h (by rw[List.cons.inj y|>.1];rfl)
 |_=>intro g;cases g
theorem DG {c:UInt8}(hc:c=45\/c=43\/c=46\/c=41):Utf8.encode (c.toNat:Int)=bs [c]:=by
 rcases hc with rfl|rfl|rfl|rfl<;>decide
theorem xK: ∀ls:List (Nat × List UInt8),(∀x∈ls,x.1<=2/\WdP x.2)->(dK (ls.map qW)).length<=103*ls.length
 | [],_=>by simp[dK]
 |x::r,h=>by
  have E:=xK r λz hz=>h z (.tail _ hz)
  obtain⟨H,g⟩:=h x (.head _);have y:=g.len;have e:dK ((x::r).map qW)=(qW x++ [10])++dK (r.map qW):=by simp[dK]
  rw[e];simp only[lA0,lF0,lM1,qW,lG2];omega
theorem Cy (E:op.task=false)(b6:op.table=false)(I:op.auto=false)(c4:op.ids=false){ec:ai}(e0:As ec):
 (∀b,okB b-> ∀d,dpB b<=d->BlkP vv op ec (bf b) (λn=>iZ n b) d (bcB b))/\(∀l,okS l->l≠ []-> ∀d,dpT l<=d->CL vv op ec (aD l).tail (λn=>gh n l) d (l.head?.bind bcB))/\
 ∀l,okJ l-> ∀d,dpJ l<=d-> ∀it∈l,CL vv op ec (aD it).tail (λn=>gh n it) d (it.head?.bind bcB):=by
 obtain⟨d1,b8,b7⟩:=pt;refine BN.ind (P:=λb=>okB b-> ∀d,dpB b<=d->BlkP vv op ec (bf b) (λn=>iZ n b) d (bcB b)) (S:=λl=>okS l->l≠ []-> ∀d,dpT l<=d->CL vv op ec (aD l).tail (λn=>gh n l) d (l.head?.bind bcB))
  (J:=λl=>okJ l-> ∀d,dpJ l<=d-> ∀it∈l,CL vv op ec (aD it).tail (λn=>gh n it) d (it.head?.bind bcB)) ?_ ?_ ?_ ?_ ?_ ?_ ?_ ?_ ?_ ?_ ?_
 ·intro ls h d _;exact zN E b6 I h.1 (λx g=>(h.2.2 x g).1) h.len
 ·intro lv x h d _;exact B4 E c4 I h.1 h.2.1 (by have:=jC h.2.1 h.2.2;omega)
 ·intro _ d _;exact GA E
 ·intro w ls h d _;obtain⟨y,e4,d3,e8,a6⟩:=h;have c2:=xK ls a6;have:=DY (G:=vv) E (ec:=ec) (d:=d) (info:=w) (ls:=ls.map qW) e0 y (by omega) (λs hs=>?_) ?_ (by omega)
  ·rw[lS0] at this;exact this
  ·obtain⟨x,g,rfl⟩:=lZ1.1 hs;obtain⟨a,b⟩:=a6 x g;exact DN (by omega) b
  ·obtain⟨x,r,rfl⟩:=lA1 d3;obtain⟨a,b⟩:=a6 x (.head _);intro b5;have b5:some (qW x)=some []:=b5;have:=congrArg List.length (Option.some.inj b5);have hb:=b.ne;have:0<x.2.length:=lY0.2 hb;simp only[qW,lA0,lG2,lM1] at*
   omega
 ·intro c ls h d _;exact vM E b6 I h.1 h.2.1 (λx g=>(h.2.2.2 x g).1) h.2.len
 ·intro bs a7 h d hd;obtain⟨k,rfl⟩: ∃k,d=k+1:=⟨d - 1,by have:dpT bs+1<=d:=hd;omega⟩
  have O:dpT bs<=k:=by have:dpT bs+1<=k+1:=hd;omega
  obtain⟨c0,r0,rest,e,y,_⟩:=b8 bs h.2 h.1;exact CB E (a7 h.2 h.1 k O) (c0:=c0) (r0:=r0) (by rw[e];rfl) y
 ·intro c num gap its a7 h d hd;obtain⟨hc,e3,d0,b4⟩:=h;obtain⟨k,rfl⟩: ∃k,d=k+1:=⟨d - 1,by have:dpJ its+1<=d:=hd;omega⟩
  have O:dpJ its<=k:=by have:dpJ its+1<=k+1:=hd;omega
  have b9: ∀m it,it∈its->m<100->ItOK vv op ec c (if c=46\/c=41 then m else 0) (mkI c m) (aD it).tail (λn=>gh n it) k:=by
   intro m it H c3;obtain⟨c0,r0,rest,e,y,_⟩:=(b7 its b4 it H).2.2;obtain⟨x,t,b3,g,c2⟩:=wi (num:=m) hc c3;exact⟨⟨_,a7 b4 k O it H⟩,⟨c0,r0,by rw[e];rfl,y⟩,⟨x,t,b3,g⟩,Br hc c3 (b7 its b4 it H).2.2,c2⟩
  obtain⟨it,r,rfl⟩:=lA1 d0;simp only[lF0] at e3;have:=DW (G:=vv) E (DG hc) gap (b9 num it (.head _) (by omega)) (its:=CT c (num+1) r) λi hi=>by
   obtain⟨m,x,y,e4,rfl⟩:=y7 hi;exact⟨_,b9 m x (.tail _ y) (by omega)⟩
  have W:bf (.list c num gap (it::r))=itL (mkI c num) (aD it).tail++jT gap (CT c (num+1) r):=by rw[bf,cZ,wl]
  have b3:(λn=>iZ n (.list c num gap (it::r)))=λn=>zS n c ((if c=46\/c=41 then num else 0:Nat):Int) (.mk {kind:=4,width:=(mkI c num).length,s:=n,e:=n - 1+(aD it).tail.length} (gh n it)::su gap (n - 1+(aD it).tail.length) (CT c (num+1) r)):=by
   funext n;rw[iZ,oh,rV];exact Dv λh=>by rw[if_pos h]
  rw[W,b3];exact this
 ·intro _ h;exact absurd rfl h
 ·intro b r c9 c5 h _ d hd;have V:dpB b<=d:=by have:max (dpB b) (dpT r)<=d:=hd;omega
  have U:dpT r<=d:=by have:max (dpB b) (dpT r)<=d:=hd;omega
  have y:=c9 h.1 d V;rw[lU];cases r with
  |nil=>
   have e:bf b++aD []=bf b:=lG0 _;rw[e];exact y.seq
  |cons b2 r=>
   obtain⟨c0,r0,rest,e,e5,_⟩:=b8 (b2::r) h.2.2 (by simp);obtain⟨e9,e7,e6,W,_⟩:=d1 b h.1;exact C8 E y (by rw[W];simp) (c5 h.2.2 (by simp) d U) (c0:=c0) (r0:=r0) (by rw[e];rfl) e5 λc hc n=>zO b h.1 (h.2.1 c hc) n
 ·intro _ d _ it H;cases H
 ·intro it r d2 c8 h d hd x g;have V:dpT it<=d:=by have:max (dpT it) (dpJ r)<=d:=hd;omega
  have U:dpJ r<=d:=by have:max (dpT it) (dpJ r)<=d:=hd;omega
  cases g with
  |head=>exact d2 h.2.1 h.1 d V
  |tail _ g=>exact c8 h.2.2 d U x g

def chB (c:UInt8):Prop:=c≠10/\c≠13/\c≠0
structure GdL (n:Nat) (ls:List (List UInt8)):Prop where
 ch: ∀s∈ls,(∀c∈s,chB c)/\s.length<=n
 last: ∃m s,ls=m++ [s]/\s≠ []
theorem qX {c:UInt8}(h:wB c=true):chB c:=by
 obtain⟨_,_,_,_,_,_,E,y,g,_⟩:=rm h;exact⟨E,y,g⟩
def dsOK:Tk->Prop
 | .lk _ d=> ∀c∈d,chB c
 |_=>True
theorem F5 {t:Tk}(h:FS t)(hd:dsOK t): ∀c∈t.B,chB c:=by
 intro c hc;cases t with
 |wd s=>exact qX (h.by_ c hc)
 |sp=>exact h.elim
 |nl=>exact h.elim
 |em k s=>
  simp only[Tk.B,lO0,lT3] at hc;rcases hc with ⟨_,rfl⟩|hc|⟨_,rfl⟩
  ·exact⟨by decide,by decide,by decide⟩
  ·exact qX (h.1.by_ c hc)
  ·exact⟨by decide,by decide,by decide⟩
 |cd s=>
  simp only[Tk.B,lO0,lX0,lJ1,or_false] at hc;rcases hc with rfl|hc|rfl
  ·exact⟨by decide,by decide,by decide⟩
  ·exact qX (h.by_ c hc)
  ·exact⟨by decide,by decide,by decide⟩
 |lk s d=>
  simp only[Tk.B,lO0,lX0,lJ1,or_false] at hc;rcases hc with rfl|hc|rfl|rfl|hc|rfl
  ·exact⟨by decide,by decide,by decide⟩
  ·exact qX (h.1.by_ c hc)
  ·exact⟨by decide,by decide,by decide⟩
  ·exact⟨by decide,by decide,by decide⟩
  ·exact hd c hc
  ·exact⟨by decide,by decide,by decide⟩
 |es s=>
  simp only[Tk.B,lX0] at hc;rcases hc with rfl|rfl|hc
  ·exact⟨by decide,by decide,by decide⟩
  ·exact⟨by decide,by decide,by decide⟩
  ·exact qX (h.by_ c hc)
def Fk (x:LT):Prop:= ∀t∈x.2,dsOK t
theorem y0 {x:LT}(h:xl x)(hd:Fk x): ∀c∈cy x,chB c:=by
 intro c hc;have e:cy x=x.1++tkB (qc x.2):=rfl;rw[e] at hc;rcases lO0.1 hc with hc|hc
 ·exact qX (h.1.by_ c hc)
 ·obtain⟨t,ht,hc⟩:=lU2.1 hc;obtain⟨u,g,ht⟩:=lU2.1 ht;simp only[lX0,lJ1,or_false] at ht;rcases ht with rfl|rfl
  ·obtain rfl:=lR0.1 hc;exact⟨by decide,by decide,by decide⟩
  ·exact F5 (h.2 _ g) (hd _ g) c hc
theorem Dw {x:LT}(h:xl x):cy x≠ []:=by
 obtain⟨c,r,e,_⟩:=p8 h;rw[e];simp
theorem GdL.mono {n m:Nat}{ls:List (List UInt8)}(h:GdL n ls)(g:n<=m):GdL m ls:=⟨λs hs=>⟨(h.ch s hs).1,by have:=(h.ch s hs).2;omega⟩,h.last⟩
theorem GdL.ne {n:Nat}{ls:List (List UInt8)}(h:GdL n ls):ls≠ []:=by
 obtain⟨m,s,e,_⟩:=h.last;rw[e];simp
theorem GdL.append {n:Nat}{a b:List (List UInt8)}(y: ∀s∈a,(∀c∈s,chB c)/\s.length<=n)(hb:GdL n b):GdL n (a++b):=by
 obtain⟨m,s,e,h⟩:=hb.last;refine⟨λx g=>?_,a++m,s,by rw[e,lD0],h⟩;rcases lO0.1 g with g|g
 ·exact y x g
 ·exact hb.ch x g
theorem GdL.map {n k:Nat}{ls:List (List UInt8)}{f:List UInt8->List UInt8}(h:GdL n ls)(W: ∀s,(∀c∈s,chB c)->(∀c∈f s,chB c))(I: ∀s,(f s).length<=s.length+k)(E: ∀s,s≠ []->f s≠ []):GdL (n+k) (ls.map f):=by
 obtain⟨m,s,e,U⟩:=h.last;refine⟨λx V=>?_,m.map f,f s,by rw[e,lV0];rfl,E s U⟩;obtain⟨g,H,rfl⟩:=lZ1.1 V;obtain⟨O,a6⟩:=h.ch g H;exact⟨W g O,by have:=I g;omega⟩
theorem GdL.lines {ls:List LT}(h:okLs ls)(hd: ∀x∈ls,Fk x):GdL 710 (ls.map cy):=by
 obtain⟨m,x,e⟩: ∃m x,ls=m++ [x]:=⟨_,_,(lW3 h.1).symm⟩
 refine⟨λs hs=>?_,m.map cy,cy x,by rw[e,lV0];rfl,Dw (h.2.2 x (by rw[e];simp)).1⟩;obtain⟨H,g,rfl⟩:=lZ1.1 hs;obtain⟨E,I⟩:=h.2.2 H g;exact⟨y0 E (hd H g),jC E I⟩
theorem GdL.item {n k:Nat}{mk:List UInt8}{ls:List (List UInt8)}(h:GdL n ls)(W: ∀c∈mk,chB c)(a6:mk.length<=k)(U:mk≠ []):GdL (n+k) (itL mk ls):=by
 obtain⟨s,r,rfl⟩:=lA1 h.ne;have H:=h.ch s (.head _);have e:itL mk (s::r)=(mk++s)::r.map (CX.pre (.i mk.length)):=rfl
 rw[e];have hs:(∀c∈mk++s,chB c)/\(mk++s).length<=n+k:=by
  refine⟨λc hc=>?_,by rw[lA0];have:=H.2;omega⟩;rcases lO0.1 hc with hc|hc
  ·exact W c hc
  ·exact H.1 c hc
 refine⟨λx E=>?_,?_⟩
 ·cases E with
  |head=>exact hs
  |tail _ E=>
   obtain⟨O,V,rfl⟩:=lZ1.1 E;obtain⟨a,b⟩:=h.ch O (.tail _ V);unfold CX.pre;dsimp only;split
   ·exact And.intro (λc hc=>absurd hc lJ1) (lC2 _)
   ·refine⟨λc hc=>?_,by simp;omega⟩;rcases lO0.1 hc with hc|hc
    ·obtain⟨_,rfl⟩:=lT3.1 hc;exact⟨by decide,by decide,by decide⟩
    ·exact a c hc
 ·obtain⟨m,x,g,I⟩:=h.last;cases m with
  |nil=>
   simp only[lT0,lU0] at g;obtain⟨rfl,rfl⟩:=g;exact⟨[],mk++s,rfl,by simp[U]⟩
  |cons O m=>
   simp only[lQ0,lU0] at g;obtain⟨rfl,rfl⟩:=g;refine⟨(mk++s)::m.map (CX.pre (.i mk.length)),CX.pre (.i mk.length) x,by rw[lV0];rfl,?_⟩;unfold CX.pre;dsimp only;rw[if_neg I];simp[I]
mutual
def dsB:BN->Prop
 | .para ls=> ∀x∈ls,Fk x
 | .head _ x=>Fk x
 | .hr=>True
 | .code w _=> ∀c∈w,chB c
 | .setx _ ls=> ∀x∈ls,Fk x
 | .quote bs=>dsS bs
 | .list _ _ _ its=>dsJ its
def dsS:List BN->Prop
 | []=>True
 |b::r=>dsB b/\dsS r
def dsJ:List (List BN)->Prop
 | []=>True
 |it::r=>dsS it/\dsJ r
end
theorem Er {c:UInt8}{num:Nat}(hc:c=45\/c=43\/c=46\/c=41)(U:num<100):(∀x∈mkI c num,chB x)/\(mkI c num).length<=4/\mkI c num≠ []:=by
 have E:chB c:=by rcases hc with rfl|rfl|rfl|rfl<;>exact⟨by decide,by decide,by decide⟩
 have H:chB 32:=⟨by decide,by decide,by decide⟩;unfold mkI;split
 ·obtain⟨x,V,e,O,W,_⟩:=nP U;rw[e];refine⟨λI g=>?_,by simp;omega,by simp⟩;rcases lO0.1 g with g|g
  ·obtain⟨_,_,_,_,a,b,d⟩:=tX (O I g);exact⟨a,b,d⟩
  ·simp only[lX0,lJ1,or_false] at g;rcases g with rfl|rfl
   ·exact E
   ·exact H
 ·refine⟨λI g=>?_,by simp,by simp⟩;simp only[lX0,lJ1,or_false] at g;rcases g with rfl|rfl
  ·exact E
  ·exact H
theorem Ew {n:Nat}: ∀s∈([[]]:List (List UInt8)),(∀c∈s,chB c)/\s.length<=n:=by
 intro s hs;obtain rfl:=lR0.1 hs;exact And.intro (λc hc=>absurd hc lJ1) (lC2 _)
theorem wM:(∀b,okB b->dsB b->GdL (720+4*dpB b) (bf b))/\(∀l,okS l->dsS l->l≠ []->GdL (720+4*dpT l) (aD l).tail)/\ ∀l,okJ l->dsJ l->(∀(c:UInt8) (num:Nat) (gap:Bool),(c=45\/c=43\/c=46\/c=41)->num+l.length<100->l≠ []->GdL (720+4*dpJ l+4) (cZ c gap num l)/\GdL (720+4*dpJ l+4) (dQ c gap num l)):=by
 refine BN.ind (P:=λb=>okB b->dsB b->GdL (720+4*dpB b) (bf b)) (S:=λl=>okS l->dsS l->l≠ []->GdL (720+4*dpT l) (aD l).tail) (J:=λl=>okJ l->dsJ l->(∀(c:UInt8) (num:Nat) (gap:Bool),(c=45\/c=43\/c=46\/c=41)->num+l.length<100->l≠ []->GdL (720+4*dpJ l+4) (cZ c gap num l)/\GdL (720+4*dpJ l+4) (dQ c gap num l)))
  ?_ ?_ ?_ ?_ ?_ ?_ ?_ ?_ ?_ ?_ ?_
 ·intro ls h hd;exact(GdL.lines h hd).mono (by omega)
 ·intro lv x h hd;obtain⟨⟨b5,b8⟩,E,O⟩:=h;have c1:=jC E O;refine⟨λs hs=>?_,[],_,rfl,by simp⟩;obtain rfl:=lR0.1 hs;refine⟨λc hc=>?_,by simp;omega⟩;simp only[lO0,lX0,lT3] at hc;rcases hc with ⟨_,rfl⟩|rfl|hc
  ·exact⟨by decide,by decide,by decide⟩
  ·exact⟨by decide,by decide,by decide⟩
  ·exact y0 E hd c hc
 ·intro _ _;refine⟨λs hs=>?_,[],_,rfl,by simp⟩;obtain rfl:=lR0.1 hs;refine⟨λc hc=>?_,by simp;omega⟩;simp only[lX0,lJ1,or_false,or_self] at hc;subst hc;exact⟨by decide,by decide,by decide⟩
 ·intro w ls h hd;obtain⟨b5,b8,E,O,b4⟩:=h;refine⟨λs hs=>?_,(96::96::96::w)::ls.map qW,[96,96,96],rfl,by simp⟩;have g:chB 96:=⟨by decide,by decide,by decide⟩;have b3:s=96::96::96::w\/s∈ls.map qW\/s= [96,96,96]:=by simpa[bf] using hs
  rcases b3 with rfl|hs|rfl
  ·refine⟨λc hc=>?_,by simp;omega⟩;simp only[lX0] at hc;rcases hc with rfl|rfl|rfl|hc
   ·exact g
   ·exact g
   ·exact g
   ·exact hd c hc
  ·obtain⟨x,y,rfl⟩:=lZ1.1 hs;obtain⟨a,b⟩:=b4 x y;have:=b.len;refine⟨λc hc=>?_,by simp[qW];omega⟩;rcases lO0.1 hc with hc|hc
   ·obtain⟨_,rfl⟩:=lT3.1 hc;exact⟨by decide,by decide,by decide⟩
   ·exact qX (b.by_ c hc)
  ·refine⟨λc hc=>?_,by simp;omega⟩;simp only[lX0,lJ1,or_false,or_self] at hc;subst hc;exact g
 ·intro c ls h hd;have hc:chB c:=by rcases h.1 with rfl|rfl<;>exact⟨by decide,by decide,by decide⟩
  refine GdL.append (λs hs=>?_) ⟨λs hs=>?_,[],_,rfl,by simp⟩
  ·obtain⟨a,b⟩:=(GdL.lines h.2 hd).ch s hs;exact⟨a,by omega⟩
  ·obtain rfl:=lR0.1 hs;refine⟨λx y=>?_,by simp;omega⟩;simp only[lX0,lJ1,or_false,or_self] at y;subst y;exact hc
 ·intro bs I h hd;have:=(I h.2 hd h.1).map (f:=λs=>62::32::s) (k:=2) (λs hs c hc=>?_) (λs=>by simp) (λs _=>by simp)
  ·exact this.mono (by show _<=720+4*(dpT bs+1);omega)
  ·simp only[lX0] at hc;rcases hc with rfl|rfl|hc
   ·exact⟨by decide,by decide,by decide⟩
   ·exact⟨by decide,by decide,by decide⟩
   ·exact hs c hc
 ·intro c num gap its I h hd;obtain⟨hc,H,a6,b7⟩:=h;exact(I b7 hd c num gap hc (by omega) a6).1.mono (by show _<=720+4*(dpJ its+1);omega)
 ·intro _ _ h;exact absurd rfl h
 ·intro b r W U h hd _;rw[lU];have hb:=W h.1 hd.1;have b6:dpB b<=dpT (b::r):=Nat.le_max_left _ _
  have b9:dpT r<=dpT (b::r):=Nat.le_max_right _ _
  cases r with
  |nil=>
   have e:bf b++aD []=bf b:=lG0 _;rw[e];exact hb.mono (by omega)
  |cons b2 r=>
   have e:aD (b2::r)= [[]]++(aD (b2::r)).tail:=rfl
   rw[e];refine GdL.append (hb.mono (by omega)).ch (GdL.append Ew ((U h.2.2 hd.2 (by simp)).mono (by omega)))
 ·intro _ _ c num gap _ _ h;exact absurd rfl h
 ·intro it r a7 V h hd c num gap hc H _;simp only[lF0] at H;obtain⟨k1,k2,k3⟩:=Er (num:=num) hc (by omega);have b6:dpT it<=dpJ (it::r):=Nat.le_max_left _ _
  have b9:dpJ r<=dpJ (it::r):=Nat.le_max_right _ _
  have hi:=((a7 h.2.1 hd.1 h.1).item k1 k2 k3).mono (m:=720+4*dpJ (it::r)+4) (by omega)
  have hr:GdL (720+4*dpJ (it::r)+4) (itL (mkI c num) (aD it).tail++dQ c gap (num+1) r):=by
   cases r with
   |nil=>
    have e:itL (mkI c num) (aD it).tail++dQ c gap (num+1) []=itL (mkI c num) (aD it).tail:=lG0 _;rw[e];exact hi
   |cons x r=>exact GdL.append hi.ch ((V h.2.2 hd.2 c (num+1) gap hc (by simp at H⊢;omega) (by simp)).2.mono (by omega))
  refine⟨hr,?_⟩;rw[dQ];split
  ·exact GdL.append Ew hr
  ·exact hr
def NBd:Nat->Nat
 |0=>5
 |1=>35
 |d+2=>3*NBd (d+1)+2
theorem pK: ∀d,3*NBd d+2<=NBd (d+1)
 |0=>by decide
 |d+1=>lZ0 _
theorem D8 (d:Nat):6*NBd (d - 1)+5<=NBd (d+1):=by
 cases d with
 |zero=>decide
 |succ d=>
  have y:=pK d;have g:=pK (d+1)
  show 6*NBd d+5<=NBd (d+1+1)
  omega
mutual
def smB:Nat->BN->Prop
 |d,.quote bs=>1<=d/\bs.length<=3/\smS (d - 1) bs
 |d,.list _ _ _ its=>1<=d/\its.length<=3/\smJ (d - 2) its
 |_,_=>True
def smS:Nat->List BN->Prop
 |_,[]=>True
 |d,b::r=>smB d b/\smS d r
def smJ:Nat->List (List BN)->Prop
 |_,[]=>True
 |d,it::r=>it.length<=2/\smS d it/\smJ d r
end
theorem qm:(∀b,okB b-> ∀d,smB d b->(bf b).length<=NBd d/\dpB b<=d)/\(∀l,okS l-> ∀d,smS d l->(aD l).length<=l.length*(NBd d+1)/\dpT l<=d)/\ ∀l,okJ l-> ∀d,smJ d l->(∀c gap num,(dQ c gap num l).length<=l.length*(2*NBd d+2)/\(l≠ []->(cZ c gap num l).length+1<=l.length*(2*NBd d+2)))/\dpJ l<=d:=by
 have g: ∀d,5<=NBd d:=by
  intro d
  induction d with
  |zero=>decide
  |succ d E=>have:=pK d;omega
 refine BN.ind (P:=λb=>okB b-> ∀d,smB d b->(bf b).length<=NBd d/\dpB b<=d) (S:=λl=>okS l-> ∀d,smS d l->(aD l).length<=l.length*(NBd d+1)/\dpT l<=d) (J:=λl=>okJ l-> ∀d,smJ d l->(∀c gap num,(dQ c gap num l).length<=l.length*(2*NBd d+2)/\(l≠ []->(cZ c gap num l).length+1<=l.length*(2*NBd d+2)))/\dpJ l<=d) ?_ ?_ ?_ ?_ ?_ ?_ ?_ ?_ ?_ ?_ ?_
 ·intro ls h d _;have:=g d;have:=h.2.1;exact⟨by simp[bf];omega,lC2 _⟩
 ·intro lv x h d _;have:=g d;exact⟨by simp[bf];omega,lC2 _⟩
 ·intro h d _;have:=g d;exact⟨by simp[bf];omega,lC2 _⟩
 ·intro w ls h d _;have:=g d;have:=h.2.2.2.1;exact⟨by simp[bf];omega,lC2 _⟩
 ·intro c ls h d _;have:=g d;have:=h.2.2.1;exact⟨by simp[bf];omega,lC2 _⟩
 ·intro bs E h d hs;obtain⟨a7,H,y⟩:=hs;obtain⟨k,rfl⟩: ∃k,d=k+1:=⟨d - 1,by omega⟩
  obtain⟨a,b⟩:=E h.2 k y;have b4:=pK k;refine⟨?_,by show dpT bs+1<=_;omega⟩;have e:(bf (.quote bs)).length=(aD bs).length - 1:=by simp[bf]
  rw[e];have:=lN2 (NBd k+1) H;omega
 ·intro c num gap its E h d hs;obtain⟨hc,b8,a6,b5⟩:=h;obtain⟨a7,H,y⟩:=hs;obtain⟨k,rfl⟩: ∃k,d=k+1:=⟨d - 1,by omega⟩
  have e:k+1 - 2=k - 1:=by omega
  rw[e] at y;obtain⟨a,b⟩:=E b5 (k - 1) y;have b4:=D8 k;refine⟨?_,by show dpJ its+1<=_;omega⟩;have a2:=(a c gap num).2 a6;have:=lN2 (2*NBd (k - 1)+2) H
  show (cZ c gap num its).length<=NBd (k+1)
  omega
 ·intro _ d _;exact⟨by simp[aD],lC2 _⟩
 ·intro b r W O h d hs;obtain⟨a1,a2⟩:=W h.1 d hs.1;obtain⟨b1,b2⟩:=O h.2.2 d hs.2;refine⟨?_,by show max (dpB b) (dpT r)<=d;omega⟩;rw[lF0,lP3,Nat.one_mul];simp only[aD,lF0,lA0];omega
 ·intro _ d _;exact⟨λc gap num=>by simp[dQ,cZ],lC2 _⟩
 ·intro it r U V h d hs;obtain⟨b6,b3,b7⟩:=hs;obtain⟨a1,a2⟩:=U h.2.1 d b3;obtain⟨b1,b2⟩:=V h.2.2 d b7;have m:=lN2 (NBd d+1) b6;have hi: ∀mk,(itL mk (aD it).tail).length<=2*NBd d+1:=by
   intro mk;simp only[itL,lF0,lS0,lY2];omega
  have I:(it::r).length*(2*NBd d+2)=r.length*(2*NBd d+2)+(2*NBd d+2):=by rw[lF0,lP3,Nat.one_mul]
  refine⟨λc gap num=>⟨?_,λ_=>?_⟩,by show max (dpT it) (dpJ r)<=d;omega⟩
  ·have:=hi (mkI c num);have:=(b1 c gap (num+1)).1;rw[I,dQ];split
   ·simp only[lF0,lA0];omega
   ·simp only[lA0];omega
  ·have:=hi (mkI c num);have:=(b1 c gap (num+1)).1;rw[I,cZ,lA0];omega

theorem Sat.buildN (h:Sat σ w L)(v:N10){K:OA->Nat->Nat->World->Prop}(I: ∀b g,Sat σ g ((b,cel v.C.toList af)::L)->K (kE b) 1 1 g):
 ∃(q:OA),∃(n:Nat),∃(c:Nat),∃g,(Instr.buildSlice au 1 #[(0,v.V)]).run P w= .ok (hT q n c) g/\K q n c g:=by
 have E:=run_buildSlice (P:=P) w au af 1 #[(0,v.V)] v.V.cells rowND.i rowND.z rowND.ht rowND.hi rowND.hz (by rw[rowND.hs];decide) (by rw[rowND.hs];decide) (by rw[rowND.hs];exact zk v)
 refine⟨_,_,_,_,E,?_⟩;have y:=h.alc v.C.toList af;have H:YtendaipfdnhnaaaGreatDoor.alc w v.C.toList.toArray af=w.alloc (.cells v.V.cells af):=rfl;rw[H] at y;exact I _ _ y
theorem slN {b:Nat}{v:N10}:Sl 10 af (kE b) 1 1 v.C.toList [(b,cel v.C.toList af)]:=⟨rfl,lZ0 _,.inr ⟨b,[],rfl,by rw[lG0],rfl⟩⟩

def cat (g l:List ND):List ND:=l.foldl kv g
theorem vb (g:List ND)(x:ND)(l:List ND):cat g (x::l)=cat (kv g x) l:=rfl
theorem lK (g a b:List ND):cat g (a++b)=cat (cat g a) b:=by simp[cat]
def plN (s:List UInt8):ND:= .mk {kind:=20,text:=s} []
theorem E9: ∀(a:List ND) (g x:ND),kv (a++ [g]) x=a++kv [g] x
 | [],g,x=>rfl
 | [z],g,x=>by
  show kv (z::g:: []) x=z::kv [g] x
  rw[kv]
 |z::z2::a,g,x=>by
  have E:=E9 (z2::a) g x
  rw[lQ0] at E;rw[lQ0,lQ0,lQ0];rw[kv,E]
theorem zI (a:List ND)(h:NH)(H:List ND)(x:ND)(O:h.kind=20)(V:x.h.kind=20):kv (kv a (.mk h H)) x=kv a (.mk {h with text:=h.text++x.h.text} H)\/ ∃m g E,a=m++ [.mk g E]/\g.kind=20/\kv (kv a (.mk h H)) x=m++ [.mk {g with text:=g.text++h.text++x.h.text} E]:=by
 rcases lE2 a with rfl|⟨m,W,rfl⟩
 ·left
  show kv [.mk h H] x= [_]
  rw[kv,if_pos ⟨V,O⟩]
 ·rw[lS2,E9];cases W with
  |mk g E=>
   by_cases I:g.kind=20
   ·right;refine⟨m,g,E,rfl,I,?_⟩;have e:kv [.mk g E] (.mk h H)= [.mk {g with text:=g.text++h.text} E]:=by rw[kv,if_pos ⟨O,I⟩];rfl
    rw[e,E9,kv,if_pos ⟨V,I⟩]
   ·left;have e:kv [.mk g E] (.mk h H)= [.mk g E]++ [.mk h H]:=by rw[kv,if_neg λU=>I U.2];rfl
    rw[e,<-lD0,E9,kv,if_pos ⟨V,O⟩,E9,kv,if_neg λU=>I U.2];simp
theorem FF (g l:List ND)(x:ND):cat g (kv l x)=kv (cat g l) x:=by
 rcases lE2 l with rfl|⟨m,W,rfl⟩
 ·rfl
 ·rw[lS2,E9,lK,lK];cases W with
  |mk H E=>
   show cat (cat g m) (kv [.mk H E] x)=kv (kv (cat g m) (.mk H E)) x
   rw[kv];split
   ·rename_i I;rcases zI (cat g m) H E x I.2 I.1 with h|⟨V,U,k2,e,O,h⟩
    ·rw[h];rfl
    ·rw[h,e]
     show kv (V++ [.mk U k2]) _=_
     rw[E9,kv,if_pos ⟨I.2,O⟩];simp[ND.h]
   ·rfl
theorem Cu (g a:List ND): ∀l,cat g (cat a l)=cat (cat g a) l:=by
 intro l
 induction l generalizing a with
 |nil=>rfl
 |cons x l y=>rw[vb,vb,y,FF]
theorem DP (l:List ND):cat [] (cat [] l)=cat [] l:=Cu [] [] l
def tkN:Tk->ND
 | .wd s=>plN s
 | .sp=>plN [32]
 | .nl=> .mk {kind:=21} []
 | .em k s=> .mk {kind:=if k=1 then 24 else 25} [plN s]
 | .cd s=> .mk {kind:=23,text:=s} []
 | .lk s d=> .mk {kind:=27,text:=d} [plN s]
 | .es s=>plN (42::s)
def inT (l:List Tk):List ND:=cat [] (l.map tkN)

def lz (gap:Bool)(its:List (List BN)):Bool:=(gap && decide (2<=its.length))||its.any λit=>decide (2<=it.length)
mutual
def tO (f:Nat):BN->ND
 | .para ls=> .mk {kind:=6,s:=f,e:=f+ls.length - 1} (inT (ff ls))
 | .head lv x=> .mk {kind:=5,num:=(lv:Nat),s:=f,e:=f} (inT (d5 x))
 | .hr=> .mk {kind:=9,s:=f,e:=f} []
 | .code w ls=> .mk {kind:=7,title:=w,text:=dK (ls.map qW),s:=f,e:=f+ls.length+1} []
 | .setx c ls=> .mk {kind:=5,num:=(Aw c:Nat),s:=f,e:=f+ls.length} (inT (ff ls))
 | .quote bs=> .mk {kind:=2,s:=f,e:=f+(aD bs).tail.length - 1} (oT 1 bs)
 | .list c num gap its=> .mk {kind:=3,num:=if c=46\/c=41 then (num:Nat) else -1,char:= [c],loose:=lz gap its,s:=f,e:=f+(cZ c gap num its).length - 1} (BJ gap its)
def oT (f:Nat):List BN->List ND
 | []=> []
 |b::r=>tO f b::oT (f+(bf b).length+1) r
def BJ (gap:Bool):List (List BN)->List ND
 | []=> []
 |it::r=> .mk {kind:=4,s:=1,e:=(aD it).tail.length} (oT 1 it)::CS gap (aD it).tail.length r
def CS (gap:Bool)(n:Nat):List (List BN)->List ND
 | []=> []
 |it::r=> .mk {kind:=4,s:=n+gap.toNat+1,e:=n+gap.toNat+(aD it).tail.length} (oT 1 it)::CS gap (n+gap.toNat+(aD it).tail.length) r
end
theorem uR {mk:List UInt8}{it:List BN}(h:Hd (aD it).tail):(itL mk (aD it).tail).length=(aD it).tail.length:=by
 obtain⟨c,r,rest,e,_⟩:=h;exact sw (by rw[e];simp)
theorem lastE (c:UInt8)(gap:Bool): ∀(l:List (List BN)) (num n:Nat) (x:IN),okJ l->x.h.e=n->((x::mg c gap num n l).getLast?.map λx=>x.h.e).getD 0=n+(dQ c gap num l).length
 | [],num,n,x,_,hx=>by simp[mg,dQ,hx]
 |it::r,num,n,x,h,hx=>by
  have hd:=(pt.2.2 _ h it (.head _)).2.2;have g:=uR (mk:=mkI c num) hd;rw[mg,dQ];cases gap with
  |true=>
   rw[if_pos rfl,if_pos rfl,lV2,lastE c true r (num+1) (n+1+(aD it).tail.length) _ h.2.2 rfl];simp only[lF0,lA0,g];omega
  |false=>
   rw[if_neg (by decide),if_neg (by decide),lV2,lastE c false r (num+1) (n+(aD it).tail.length) _ h.2.2 rfl];simp only[lA0,g];omega
theorem endB (b:BN)(h:okB b)(n:Nat)(V:1<=n):(iZ n b).h.s=n/\(iZ n b).h.e+1=n+(bf b).length:=by
 cases b with
 |para ls=>
  refine⟨rfl,?_⟩;have:0<ls.length:=lY0.2 h.1
  show n+ls.length - 1+1=n+(ls.map cy).length
  simp;omega
 |head lv x=>exact⟨rfl,rfl⟩
 |hr=>exact⟨rfl,rfl⟩
 |code w ls=>
  refine⟨rfl,?_⟩
  show n+ls.length+1+1=n+(bf (.code w ls)).length
  simp[bf];omega
 |setx c ls=>
  refine⟨rfl,?_⟩
  show n+ls.length+1=n+(bf (.setx c ls)).length
  simp[bf];omega
 |quote bs=>
  refine⟨rfl,?_⟩;obtain⟨c0,r0,rest,e,_⟩:=pt.2.1 bs h.2 h.1
  show n+(aD bs).tail.length - 1+1=n+((aD bs).tail.map _).length
  rw[lS0,e];simp only[lF0];omega
 |list c num gap its=>
  obtain⟨hc,U,y,g⟩:=h;obtain⟨it,r,rfl⟩:=lA1 y;refine⟨by rw[iZ];rfl,?_⟩;have hd:=(pt.2.2 _ g it (.head _)).2.2;have E:=uR (mk:=mkI c num) hd;obtain⟨c0,r0,rest,H,_⟩:=hd;have I:(bf (.list c num gap (it::r))).length=(aD it).tail.length+(dQ c gap (num+1) r).length:=by rw[bf,cZ,lA0,E]
  have O:(iZ n (.list c num gap (it::r))).h.e=(n - 1+(aD it).tail.length)+(dQ c gap (num+1) r).length:=by
   rw[iZ,oh];exact lastE c gap r (num+1) _ _ g.2.2 rfl
  rw[I,O,H];simp only[lF0];omega
theorem CF (h:IH)(g:List IN):vh (.mk h g)= .mk (GD h) (yE [] g):=by rw[vh]
theorem vg (x:IN):vh x.tgt=vh x/\x.tgt.h.kind=x.h.kind:=by
 cases x with
 |mk h g=>
  by_cases y:h.kind=6
  ·have e:(IN.mk h g).tgt= .mk {h with tight:=true} g:=if_pos y
   rw[e,CF,CF];exact⟨rfl,rfl⟩
  ·have e:(IN.mk h g).tgt= .mk h g:=if_neg y;rw[e];exact⟨rfl,rfl⟩
theorem wZ: ∀(l:List IN) (g:List ND),yE g (l.map IN.tgt)=yE g l
 | [],g=>rfl
 |x::l,g=>by
  rw[lY1,yE,yE,(vg x).1,(vg x).2,wZ l]
theorem CE (x:IN):vh x.tgtI=vh x/\x.tgtI.h.kind=x.h.kind:=by
 cases x with
 |mk h g=>exact⟨by rw[IN.tgtI,vh,vh,wZ],rfl⟩

inductive InO:List IN->Nat->Nat->Prop where
 |nil {f t:Nat}:InO [] f t
 |leaf {x:IN} {xs:List IN} {f t:Nat}:20<=x.h.kind->InO (x::xs) f t
 |cons {h:IH} {ks xs:List IN} {f t:Nat}:h.kind<11->f<=h.s->h.s<=h.e->h.e<=t->InO ks h.s h.e->InO xs (h.e+1) t->InO (.mk h ks::xs) f t
theorem F6 (h:IH)(y:List IN): ∃g,(IN.mk h y).tgt= .mk g y/\g.kind=h.kind/\g.s=h.s/\g.e=h.e:=by
 by_cases E:h.kind=6
 ·exact⟨_,if_pos E,rfl,rfl,rfl⟩
 ·exact⟨_,if_neg E,rfl,rfl,rfl⟩
theorem C5 (x:IN):x.tgt.h.kind=x.h.kind:=(vg x).2
theorem InO.tgt {xs:List IN}{f t:Nat}(h:InO xs f t):InO (xs.map IN.tgt) f t:=by
 induction h with
 |nil=>exact .nil
 |leaf h=>exact .leaf (by rw[C5];exact h)
 | @cons h ks xs f t a b c d e e2 ih1 ih2=>
  obtain⟨g,e',k1,k2,k3⟩:=F6 h ks;rw[lY1,e'];exact .cons (by rw[k1];exact a) (by rw[k2];exact b) (by rw[k2,k3];exact c) (by rw[k3];exact d) (by rw[k2,k3];exact e) (by rw[k3];exact ih2)
theorem InO.tgtI {xs:List IN}{f t:Nat}(h:InO xs f t):InO (xs.map IN.tgtI) f t:=by
 induction h with
 |nil=>exact .nil
 |leaf h=>exact .leaf (by rw[(CE _).2];exact h)
 | @cons h ks xs f t a b c d e e2 ih1 ih2=>
  rw[lY1,IN.tgtI];exact .cons a b c d e.tgt ih2
theorem BR (t:Inl):20<=(inlN t).h.kind:=by
 cases t<;>simp[inlN,IN.h]
theorem ye (ts:List Inl)(f t:Nat):InO (gO ts) f t:=by
 cases ts with
 |nil=>rw[gO];exact .nil
 |cons x ts=>rw[gO];exact .leaf (BR x)
theorem zV (b:BN)(h:okB b):1<=(bf b).length:=by
 obtain⟨c,r,rest,e,_⟩:=pt.1 b h;rw[e];simp
theorem tM (l:List BN)(h:okS l)(g:l≠ []):1<=(aD l).tail.length:=by
 obtain⟨c,r,rest,e,_⟩:=pt.2.1 l h g;rw[e];simp
theorem Fs:(∀b,okB b-> ∀n,1<=n->(iZ n b).h.kind<11/\InO (iZ n b).kids n (iZ n b).h.e)/\(∀l,okS l-> ∀n f t,1<=n->f<=n->n+(aD l).tail.length<=t+1->InO (gh n l) f t)/\ ∀l,okJ l-> ∀(c:UInt8) (gap:Bool) (num n f t:Nat),(f<=n+1->n+(dQ c gap num l).length<=t->InO (mg c gap num n l) f t)/\(1<=n->f<=n->n+(cZ c gap num l).length<=t+1->InO (oh c gap num n l) f t):=by
 refine BN.ind (P:=λb=>okB b-> ∀n,1<=n->(iZ n b).h.kind<11/\InO (iZ n b).kids n (iZ n b).h.e) (S:=λl=>okS l-> ∀n f t,1<=n->f<=n->n+(aD l).tail.length<=t+1->InO (gh n l) f t)
  (J:=λl=>okJ l-> ∀(c:UInt8) (gap:Bool) (num n f t:Nat),(f<=n+1->n+(dQ c gap num l).length<=t->InO (mg c gap num n l) f t)/\(1<=n->f<=n->n+(cZ c gap num l).length<=t+1->InO (oh c gap num n l) f t)) ?_ ?_ ?_ ?_ ?_ ?_ ?_ ?_ ?_ ?_ ?_
 ·intro ls h n _;rw[iZ];exact⟨by show (6:Nat)<11;decide,ye _ _ _⟩
 ·intro lv x h n _;rw[iZ];exact⟨by show (5:Nat)<11;decide,ye _ _ _⟩
 ·intro h n _;rw[iZ];exact⟨by show (9:Nat)<11;decide,.nil⟩
 ·intro w ls h n _;rw[iZ];exact⟨by show (7:Nat)<11;decide,.nil⟩
 ·intro c ls h n _;rw[iZ];exact⟨by show (5:Nat)<11;decide,ye _ _ _⟩
 ·intro bs O h n g;have a7:=tM bs h.2 h.1;rw[iZ];exact⟨by show (2:Nat)<11;decide,O h.2 n n _ g (lZ0 _) (by show _<=n+(aD bs).tail.length - 1+1;omega)⟩
 ·intro c num gap its O h n g;have b6:=(endB _ h n g).2;obtain⟨hc,b8,b9,b7⟩:=h;refine⟨by rw[iZ];show (3:Nat)<11;decide,?_⟩;have b3:=(O b7 c gap num n n (iZ n (.list c num gap its)).h.e).2 g (lZ0 _) (by rw[b6];exact lZ0 _);have e:(iZ n (.list c num gap its)).kids=if B7 (oh c gap num n its) then oh c gap num n its else (oh c gap num n its).map IN.tgtI:=by rw[iZ];rfl
  rw[e];split
  ·exact b3
  ·exact b3.tgtI
 ·intro _ n f t _ _ _;rw[gh];exact .nil
 ·intro b r b5 b4 h n f t g U ht;rw[lU,lA0] at ht;obtain⟨k1,k2⟩:=b5 h.1 n g;obtain⟨y,E⟩:=endB b h.1 n g;have a7:=zV b h.1;rw[gh];revert k1 k2 y E;generalize iZ n b=x;intro k1 k2 y E;cases x with
  |mk a6 c1=>
   have y:a6.s=n:=y;have E:a6.e+1=n+(bf b).length:=E;refine .cons k1 (by omega) (by omega) (by omega) (by rw[y];exact k2) ?_;cases r with
   |nil=>rw[gh];exact .nil
   |cons b2 r=>
    refine b4 h.2.2 _ _ _ (by omega) (by omega) ?_;simp only[aD,lF0,List.tail_cons] at ht⊢;omega
 ·intro _ c gap num n f t;refine⟨λ_ _=>?_,λ_ _ _=>?_⟩
  ·rw[mg];exact .nil
  ·rw[oh];exact .nil
 ·intro it r I H h c gap num n f t;have a7:=tM it h.2.1 h.1;have hd:=(pt.2.2 _ h it (.head _)).2.2;have W:=uR (mk:=mkI c num) hd;refine⟨λU ht=>?_,λg U ht=>?_⟩
  ·rw[mg];rw[dQ] at ht;split
   ·rename_i V;rw[if_pos V,lF0,lA0,W] at ht;refine .cons (by show (4:Nat)<11;decide) (by show f<=n+2;omega) (by show n+2<=n+1+_;omega) (by show n+1+_<=t;omega) (I h.2.1 (n+2) (n+2) _ (by omega) (lZ0 _) (by show n+2+_<=n+1+_+1;omega)) ?_;exact(H h.2.2 c gap (num+1) _ _ t).1 (lZ0 _) (by omega)
   ·rename_i V;rw[if_neg V,lA0,W] at ht;refine .cons (by show (4:Nat)<11;decide) (by show f<=n+1;omega) (by show n+1<=n+_;omega) (by show n+_<=t;omega) (I h.2.1 (n+1) (n+1) _ (by omega) (lZ0 _) (by show n+1+_<=n+_+1;omega)) ?_;exact(H h.2.2 c gap (num+1) _ _ t).1 (lZ0 _) (by omega)
  ·rw[oh];rw[cZ,lA0,W] at ht;refine .cons (by show (4:Nat)<11;decide) U (by show n<=n - 1+_;omega) (by show n - 1+_<=t;omega) (I h.2.1 n n _ g (lZ0 _) (by show n+_<=n - 1+_+1;omega)) ?_;exact(H h.2.2 c gap (num+1) _ _ t).1 (by show n - 1+(aD it).tail.length+1<=_;omega) (by omega)

def Wa (s:List UInt8):Prop:=s≠ []/\(∀c∈s,97<=c.toNat/\c.toNat<=122)/\s.length<=4
def tkA:Tk->Prop
 | .wd s=>Wa s
 | .em k s=>Wa s/\(k=1\/k=2)
 | .cd s=>Wa s
 | .lk s d=>Wa s/\ ∃w,Wa w/\d=47::w
 | .es s=>Wa s
 |_=>False
def lnA (x:LT):Prop:=(Wa x.1/\ ∀t∈x.2,tkA t)/\x.2.length<=2
def lsA (ls:List LT):Prop:=ls≠ []/\ls.length<=3/\ ∀x∈ls,lnA x
def Adj (b:BN)(r:List BN):Prop:= ∀c,(r.head?.bind bcB)=some c->bcB b≠some c
mutual
def abB:BN->Prop
 | .para ls=>lsA ls
 | .head lv x=>(1<=lv/\lv<=6)/\lnA x
 | .hr=>True
 | .code w ls=>(w= []\/Wa w)/\ls≠ []/\ls.length<=3/\ ∀x∈ls,x.1<=2/\Wa x.2
 | .setx c ls=>(c=61\/c=45)/\lsA ls
 | .quote bs=>bs≠ []/\abS bs
 | .list c num gap its=>(c=45\/c=43\/c=46\/c=41)/\num+its.length<=90/\its≠ []/\abJ its
def abS:List BN->Prop
 | []=>True
 |b::r=>abB b/\Adj b r/\abS r
def abJ:List (List BN)->Prop
 | []=>True
 |it::r=>it≠ []/\abS it/\abJ r
end
theorem Wa.wd {s:List UInt8}(h:Wa s):WdP s:=EJ h.1 h.2.1 (by have:=h.2.2;omega)
theorem Wa.ch {s:List UInt8}(h:Wa s): ∀c∈s,chB c:=λc hc=>qX (h.wd.by_ c hc)
theorem D6 {c:UInt8}(h:97<=c.toNat/\c.toNat<=122):yx c=true/\kX c=false:=by
 have:(List.range 256).all (λn=>(!(decide (97<=n) && decide (n<=122)))||(yx (UInt8.ofNat n) && !kX (UInt8.ofNat n)))=true:=by kernel_rfl
 have:=lD2.1 this c.toNat (lX2.2 c.toNat_lt);rw[lY3] at this
 simpa[h.1,h.2] using this
theorem Wa.dest {s:List UInt8}(h:Wa s):DsP (47::s)/\ ∀c∈(47::s:List UInt8),chB c:=by
 refine⟨⟨by simp,λc hc=>?_,by have:=h.2.2;simp;omega⟩,λc hc=>?_⟩
 ·cases hc with
  |head=>exact⟨by decide,by decide⟩
  |tail _ hc=>exact D6 (h.2.1 c hc)
 ·cases hc with
  |head=>exact⟨by decide,by decide,by decide⟩
  |tail _ hc=>exact h.ch c hc
theorem tkA.ok {t:Tk}(h:tkA t):FS t/\dsOK t:=by
 cases t with
 |wd s=>exact⟨Wa.wd h,trivial⟩
 |sp=>exact h.elim
 |nl=>exact h.elim
 |em k s=>exact⟨⟨h.1.wd,h.2⟩,trivial⟩
 |cd s=>exact⟨Wa.wd h,trivial⟩
 |lk s d=>
  obtain⟨y,w,g,rfl⟩:=h;exact⟨⟨y.wd,g.dest.1⟩,g.dest.2⟩
 |es s=>exact⟨Wa.wd h,trivial⟩
theorem lnA.ok {x:LT}(h:lnA x):xl x/\Fk x:=⟨⟨h.1.1.wd,λt ht=>(h.1.2 t ht).ok.1⟩,λt ht=>(h.1.2 t ht).ok.2⟩
theorem lsA.ok {ls:List LT}(h:lsA ls):okLs ls/\ ∀x∈ls,Fk x:=⟨⟨h.1,h.2.1,λx g=>⟨(h.2.2 x g).ok.1,(h.2.2 x g).2⟩⟩,λx g=>(h.2.2 x g).ok.2⟩
theorem Ar:(∀b,abB b->okB b/\dsB b)/\(∀l,abS l->okS l/\dsS l)/\ ∀l,abJ l->okJ l/\dsJ l:=by
 refine BN.ind (P:=λb=>abB b->okB b/\dsB b) (S:=λl=>abS l->okS l/\dsS l) (J:=λl=>abJ l->okJ l/\dsJ l) ?_ ?_ ?_ ?_ ?_ ?_ ?_ ?_ ?_ ?_ ?_
 ·intro ls h;exact lsA.ok h
 ·intro lv x h;exact⟨⟨h.1,h.2.ok.1,h.2.2⟩,h.2.ok.2⟩
 ·intro _;exact⟨trivial,trivial⟩
 ·intro w ls h;obtain⟨g,E,y,I⟩:=h;have O:(∀c∈w,Ax c=true)/\w.length<=100/\ ∀c∈w,chB c:=by
   rcases g with rfl|g
   ·exact⟨λc hc=>absurd hc lJ1,lC2 _,λc hc=>absurd hc lJ1⟩
   ·exact⟨λc hc=>(pI (g.2.1 c hc)).2.2.2.2.2,by have:=g.2.2;omega,g.ch⟩
  exact⟨⟨O.1,O.2.1,E,y,λx a7=>⟨(I x a7).1,(I x a7).2.wd⟩⟩,O.2.2⟩
 ·intro c ls h;exact⟨⟨h.1,h.2.ok.1⟩,h.2.ok.2⟩
 ·intro bs H h;exact⟨⟨h.1,(H h.2).1⟩,(H h.2).2⟩
 ·intro c num gap its H h;obtain⟨g,E,y,I⟩:=h;exact⟨⟨g,E,y,(H I).1⟩,(H I).2⟩
 ·intro _;exact⟨trivial,trivial⟩
 ·intro b r a6 V h;obtain⟨g,E,y⟩:=h;exact⟨⟨(a6 g).1,E,(V y).1⟩,⟨(a6 g).2,(V y).2⟩⟩
 ·intro _;exact⟨trivial,trivial⟩
 ·intro it r U W h;obtain⟨g,E,y⟩:=h;exact⟨⟨g,(U E).1,(W y).1⟩,⟨(U E).2,(W y).2⟩⟩
def kdOK (odd:Bool)(b:BN):Prop:= ∀c,bcB b=some c->if odd then c=43\/c=41 else c=45\/c=46
def alt:Bool->List BN->Prop
 |_,[]=>True
 |o,b::r=>kdOK o b/\alt (!o) r
def Eq (n:Nat):Bool:=n%2==1
theorem zt: ∀(l:List BN) (o:Bool) (b:BN),alt o l->kdOK (o ^^ Eq l.length) b->alt o (l++ [b])
 | [],o,b,_,h=>⟨by simpa[Eq] using h,trivial⟩
 |x::l,o,b,h,hb=>by
  refine⟨h.1,zt l (!o) b h.2 ?_⟩;have e:(!o ^^ Eq l.length)=(o ^^ Eq (x::l).length):=by
   simp only[lF0,Eq];rcases Nat.mod_two_eq_zero_or_one l.length with g|g
   ·have:(l.length+1)%2=1:=by omega
    rw[g,this];cases o<;>rfl
   ·have:(l.length+1)%2=0:=by omega
    rw[g,this];cases o<;>rfl
  rw[e];exact hb
theorem yF: ∀(l:List BN) (o:Bool),alt o l->(∀b∈l,abB b)->abS l
 | [],_,_,_=>trivial
 |b::r,o,h,hb=>by
  refine⟨hb b (.head _),λc hc E=>?_,yF r (!o) h.2 λx H=>hb x (.tail _ H)⟩;cases r with
  |nil=>cases hc
  |cons b2 r=>
   have y:=h.1 c E;have g:=h.2.1 c hc;cases o
   ·rcases y with rfl|rfl<;>rcases g with g|g<;>exact absurd g (by decide)
   ·rcases y with rfl|rfl<;>rcases g with g|g<;>exact absurd g (by decide)
theorem sf: ∀(l:List BN) (b:BN),aD (l++ [b])=aD l++ []::bf b
 | [],b=>by show []::(bf b++ [])=_;rw[lG0];rfl
 |x::l,b=>by
  have g:=sf l b
  show []::(bf x++aD (l++ [b]))=([]::(bf x++aD l))++_
  rw[g];simp
theorem wm: ∀(l:List BN) (f:Nat) (b:BN),oT f (l++ [b])=oT f l++ [tO (f+(aD l).length) b]
 | [],f,b=>by rw[lT0,oT,oT,oT];rfl
 |x::l,f,b=>by
  have g:=wm l (f+(bf x).length+1) b;rw[lQ0,oT,g,oT];have e:(aD (x::l)).length=(bf x).length+1+(aD l).length:=by simp[aD];omega
  rw[e,lQ0];congr 4;omega
theorem yT: ∀(l:List BN) (d:Nat) (b:BN),smS d l->smB d b->smS d (l++ [b])
 | [],d,b,_,h=>⟨h,trivial⟩
 |x::l,d,b,h,hb=>⟨h.1,yT l d b h.2 hb⟩
theorem A7:(∀b d e,d<=e->smB d b->smB e b)/\(∀l d e,d<=e->smS d l->smS e l)/\ ∀l d e,d<=e->smJ d l->smJ e l:=by
 refine BN.ind (P:=λb=> ∀d e,d<=e->smB d b->smB e b) (S:=λl=> ∀d e,d<=e->smS d l->smS e l) (J:=λl=> ∀d e,d<=e->smJ d l->smJ e l) ?_ ?_ ?_ ?_ ?_ ?_ ?_ ?_ ?_ ?_ ?_
 ·intro ls d e _ _;simp only[smB]
 ·intro lv x d e _ _;simp only[smB]
 ·intro d e _ _;simp only[smB]
 ·intro w ls d e _ _;simp only[smB]
 ·intro c ls d e _ _;simp only[smB]
 ·intro bs y d e g h;simp only[smB] at h⊢;exact⟨by omega,h.2.1,y _ _ (by omega) h.2.2⟩
 ·intro c num gap its y d e g h;simp only[smB] at h⊢;exact⟨by omega,h.2.1,y _ _ (by omega) h.2.2⟩
 ·intro d e _ _;exact trivial
 ·intro b r O H d e g h;exact⟨O _ _ g h.1,H _ _ g h.2⟩
 ·intro d e _ _;exact trivial
 ·intro it r E I d e g h;exact⟨h.1,E _ _ g h.2.1,I _ _ g h.2.2⟩
theorem sg (c:UInt8)(gap:Bool): ∀(l:List (List BN)) (num:Nat) (it:List BN),dQ c gap num (l++ [it])=dQ c gap num l++((if gap then [[]] else [])++itL (mkI c (num+l.length)) (aD it).tail)
 | [],num,it=>by
  rw[lT0,dQ,dQ];cases gap<;>simp[dQ]
 |x::l,num,it=>by
  have g:=sg c gap l (num+1) it;have e:num+1+l.length=num+(x::l).length:=by simp;omega
  rw[lQ0,dQ,g,e,dQ];cases gap<;>simp
theorem xY (c:UInt8)(gap:Bool)(l:List (List BN))(num:Nat)(it:List BN):cZ c gap num (l++ [it])=cZ c gap num l++((if gap && !l.isEmpty then [[]] else [])++itL (mkI c (num+l.length)) (aD it).tail):=by
 cases l with
 |nil=>
  rw[lT0,cZ,cZ,dQ];simp
 |cons x l=>
  have e:num+1+l.length=num+(x::l).length:=by simp;omega
  rw[lQ0,cZ,sg,e,cZ];cases gap<;>simp
def lawI (s:Nat)(it:List BN):ND:= .mk {kind:=4,s:=s+1,e:=s+(aD it).tail.length} (oT 1 it)
theorem wn (gap:Bool)(c:UInt8): ∀(l:List (List BN)) (n num:Nat) (it:List BN),(∀x∈l,(aD x).tail≠ [])->CS gap n (l++ [it])=CS gap n l++ [lawI (n+(dQ c gap num l).length+gap.toNat) it]
 | [],n,num,it,_=>by
  rw[lT0,CS,CS,CS,dQ];rfl
 |x::l,n,num,it,h=>by
  have E:=wn gap c l (n+gap.toNat+(aD x).tail.length) (num+1) it λI H=>h I (.tail _ H)
  have g:=sw (mk:=mkI c num) (h x (.head _));rw[lQ0,CS,E,CS,lQ0];have e:(dQ c gap num (x::l)).length=gap.toNat+(aD x).tail.length+(dQ c gap (num+1) l).length:=by
   rw[dQ];cases gap
   ·simp[g]
   ·simp[g];omega
  rw[e];congr 4;omega
theorem BI (gap:Bool)(c:UInt8)(l:List (List BN))(num:Nat)(it:List BN)(h: ∀x∈l,(aD x).tail≠ []):BJ gap (l++ [it])=BJ gap l++ [lawI ((cZ c gap num l).length+(gap && !l.isEmpty).toNat) it]:=by
 cases l with
 |nil=>
  rw[lT0,BJ,BJ,cZ,CS];simp[lawI]
 |cons x l=>
  have g:=sw (mk:=mkI c num) (h x (.head _));rw[lQ0,BJ,wn gap c l _ (num+1) it λH E=>h H (.tail _ E),BJ,lQ0];have e:(cZ c gap num (x::l)).length=(aD x).tail.length+(dQ c gap (num+1) l).length:=by rw[cZ,lA0,g]
  rw[e];cases gap<;>simp
theorem Fi (gap:Bool)(l:List (List BN))(it:List BN):lz gap (l++ [it])=(lz gap l||((gap && !l.isEmpty)||decide (2<=it.length))):=by
 unfold lz;cases l with
 |nil=>simp
 |cons x l=>
  cases gap
  ·simp[Bool.or_assoc]
  ·simp[Bool.or_assoc]
theorem vm: ∀(l:List (List BN)) (it:List BN),abJ l->it≠ []->abS it->abJ (l++ [it])
 | [],it,_,h1,h2=>⟨h1,h2,trivial⟩
 |x::l,it,h,h1,h2=>⟨h.1,h.2.1,vm l it h.2.2 h1 h2⟩
theorem uv: ∀(l:List (List BN)) (d:Nat) (it:List BN),smJ d l->it.length<=2->smS d it->smJ d (l++ [it])
 | [],d,it,_,h1,h2=>⟨h1,h2,trivial⟩
 |x::l,d,it,h,h1,h2=>⟨h.1,h.2.1,uv l d it h.2.2 h1 h2⟩
def BArg (σ:Out)(L:List ai)(q:Option Addr)(n:Nat)(vs:List UInt8):Prop:=
 n=vs.length/\ ∀i (hi:i<vs.length),∃a,q=some a/\ ∀w,Sat σ w L->w.cell? (a.add i)=some (.int .u8 (vs[i].toNat:Int))
namespace gu
def bl1 (R:EP)(Xa:BA->BA->Int->Int->WP)(y g:BA)(H E:Int)(w:World):Prop:=br (decide (E<H)) (((g.size+y.size:Nat):Int)<=i64.max/\Xa y (g++y) H (i64.wrap (E+1)) w) (R (hQ (hX g)) w)
def l1 (R:EP)(H y:BA)(E g:Int)(w:World):Prop:=∀X:BA->BA->Int->Int->WP,(∀H y E g w,bl1 R X H y E g w->X H y E g w)->X H y E g w
end gu
def gu (R:EP)(g:BA)(y:Int)(w:World):Prop:=gu.l1 R g (hP #[]) y 0 w
theorem gu.sound {R x0 x1 w}(h:gu R x0 x1 w):callE P jF #[hX x0,hY x1] R w:=
 aH [(43,.lp [1,101,127,147] (gu.bl1 R) λXa=> [])] Tryz.func37 Tryz.call37 h

def SArg (σ:Out)(L:List ai)(q:Option Addr)(n:Nat)(ls:List (List UInt8)):Prop:=
 n=ls.length/\ ∀i (hi:i<ls.length),∃a,q=some a/\ ∀w,Sat σ w L->w.cell? (a.add i)=some (hX (bs ls[i]))
theorem SArg.ofSl {q:Option Addr}{n c:Nat}{ts:List (List UInt8)}{M:List ai}(y:Sl 1 aq q n c (sv ts) M)(E: ∀c∈M,c∈L):SArg σ L q n ts:=by
 have g:=y.1;rw[j6,lD1] at g;refine⟨g.symm,λi hi=>?_⟩;obtain⟨b,sp,rfl,rfl⟩:=y.rowAt (by omega);refine⟨_,rfl,λw h=>?_⟩;rw[lK0,lN0];exact Sat.ld h (E _ (.head _)) (by rw[lM0 (by rw[j6];exact hi),tB hi])

theorem uq {s:List UInt8}{n:Nat}(V:n<1000000)(hs:s.length<1000000)(I:R (hQ (hX (bs (hN n s).flatten))) w):callE P jF #[hX (bs s),hY n] R w:=by
 refine gu.sound ?_;have y:i64.max=9223372036854775807:=rfl;intro X g;have H: ∀k,(hN k s).flatten.length=k*s.length:=by intro k;simp
 have E: ∀k i,i+k=n->X (bs s) (bs (hN i s).flatten) (n:Nat) (i:Int) w:=by
  intro k
  induction k with
  |zero=>
   intro i hi;obtain rfl:i=n:=hi;exact g _ _ _ _ _ (ae (by simp) I)
  |succ k O=>
   intro i hi;have U:i*s.length<=1000000*1000000:=lK5 (by omega) (by omega);refine g _ _ _ _ _ (ag (by simp;omega) ⟨?_,?_⟩)
   ·rw[y,aI,aI,H];omega
   ·rw[bM,aN (by omega)];have e:(hN i s).flatten++s=(hN (i+1) s).flatten:=by rw[lX4];simp
    rw[e];exact O (i+1) (by omega)
 exact E n 0 (by omega)

structure BS where
 at_:Nat
 size:Int
 flat:Bool
 deep:Int
def bC (b:Nat)(q:OA)(n c:Nat)(s:BS):ai:=(b,cel [hT q n c,hY (s.at_:Nat),hY s.size,hV s.flat,hY s.deep] mA)
def Rd (σ:Out)(L:List ai)(q:OA)(n:Nat)(vs:List UInt8):Prop:=BArg σ L q n vs/\n<=1000
theorem Rd.up {q:OA}{n:Nat}{vs:List UInt8}(h:Rd σ L q n vs)(g: ∀w,Sat σ w L'->Sat σ w L):Rd σ L' q n vs:=
 ⟨⟨h.1.1,λi hi=>by obtain⟨a,H,y⟩:=h.1.2 i hi;exact⟨a,H,λw E=>y w (g w E)⟩⟩,h.2⟩
def BS.same (s s':BS):Prop:=s'.size=s.size/\s'.flat=s.flat/\s'.deep=s.deep
theorem BS.same.refl (s:BS):s.same s:=⟨rfl,rfl,rfl⟩
theorem BS.same.trans {a b c:BS}(y:a.same b)(g:b.same c):a.same c:=⟨g.1.trans y.1,g.2.1.trans y.2.1,g.2.2.trans y.2.2⟩
theorem eL {b:Nat}{q:OA}{n c k:Nat}{vs:List UInt8}{s:BS}(g:Rd σ L q n vs)(W:1<=k)(V:k<1000)(h:Sat σ w (bC b q n c s::L))(y: ∀w (r:Nat) (s':BS),r<k->s.same s'->Sat σ w (bC b q n c s'::L)->R (hQ (hY (r:Nat))) w):callE P aS #[kT (kE b),hY (k:Nat)] R w:=by
 refine iL.sound ?_;refine h.tk λw h=>aa (aa ⟨_,Sat.ld h (.head _) (i:=1) rfl,_,_,_,Sat.ld h (.head _) (i:=0) rfl,?_⟩)
 refine bJ (λ_=>y w 0 s (by omega) (BS.same.refl s) h) λhc=>?_
 simp only[decide_eq_false_iff_not] at hc;have H:s.at_<n:=by omega
 have a6:=g.2;refine aa ⟨_,Sat.ld h (.head _) (i:=1) rfl,aa ?_⟩;refine Sat.st h (k:=0) rfl (by show 1<5;decide) trivial rfl λw h=>?_
 rw[aN (by omega)] at h;have h:Sat σ w (bC b q n c {s with at_:=s.at_+1}::L):=h
 refine h.tk λw h=>aa (aa ⟨_,_,_,Sat.ld h (.head _) (i:=0) rfl,((s.at_+1:Nat):Int),Sat.ld h (.head _) (i:=1) rfl,?_⟩)
 have e:i64.wrap (((s.at_+1:Nat):Int) - 1)=(s.at_:Nat):=by rw[gV (by omega) (by omega)];congr 1
 have E:s.at_<vs.length:=by rw[<-g.1.1];exact H
 obtain⟨a,rfl,O⟩:=g.1.2 s.at_ E;rw[e];refine⟨by omega,by omega,aa ?_⟩;rw[lC0,lD1];refine⟨_,O w (h.less [bC b (some a) n c {s with at_:=s.at_+1}]),by omega,?_⟩;have hb:=vs[s.at_].toNat_lt;have U:i64.wrap ((vs[s.at_].toNat:Nat):Int)=((vs[s.at_].toNat:Nat):Int):=i64_in _ (by omega)
 rw[U];have I:Int.tmod ((vs[s.at_].toNat:Nat):Int) (k:Int)=((vs[s.at_].toNat%k:Nat):Int):=rfl
 rw[I];exact y w _ {s with at_:=s.at_+1} (Nat.mod_lt _ (by omega)) ⟨rfl,rfl,rfl⟩ h
def FJ:List UInt8:= [97,98,99,100,101,102,103,104,105,106,107,108,109,110,111,112,113,114,115,116,117,118,119,120,121,122]
def xR:List UInt8:= [111,110,108,121,119,111,114,100,115]
theorem FZ:(List.range 26).all (λr=>(List.range 4).all λk=>(sub FJ r (r+1)++sub xR 0 k).all (λc=>decide (97<=c.toNat) && decide (c.toNat<=122)) && decide ((sub FJ r (r+1)++sub xR 0 k).length<=4) && decide (sub FJ r (r+1)++sub xR 0 k≠ []))=true:=by kernel_rfl
theorem wa_of {r k:Nat}(hr:r<26)(y:k<4):Wa (sub FJ r (r+1)++sub xR 0 k):=by
 have g:=lD2.1 (lD2.1 FZ r (lX2.2 hr)) k (lX2.2 y);simp only[lK1,decide_eq_true_eq,lD2] at g;exact⟨g.2,λc hc=>g.1.1 c hc,g.1.2⟩
theorem nS {b:Nat}{q:OA}{n c:Nat}{vs:List UInt8}{s:BS}(y:Rd σ L q n vs)(h:Sat σ w (bC b q n c s::L))(W: ∀w (x:List UInt8) (s':BS),Wa x->s.same s'->Sat σ w (bC b q n c s'::L)->R (hQ (hX (bs x))) w):callE P cE #[kT (kE b)] R w:=by
 refine iK.sound ?_;refine eL (k:=26) y (by omega) (by omega) h λw r b5 hr a6 h=>⟨_,rfl,?_⟩
 refine h.tk λw h=>?_
 have I:(hP #[97,98,99,100,101,102,103,104,105,106,107,108,109,110,111,112,113,114,115,116,117,118,119,120,121,122])=bs FJ:=rfl;have O:(hP #[111,110,108,121,119,111,114,100,115])=bs xR:=rfl;have H:(bs FJ).size=26:=rfl;have E:(bs xR).size=9:=rfl;have b3:i64.max=9223372036854775807:=rfl;rw[I,aN (by omega),H];refine⟨by omega,by omega,by omega,?_⟩;refine eL (k:=4) y (by omega) (by omega) h λw k U V a7 h=>⟨_,rfl,?_⟩
 have g:=wa_of hr V;have b4:(0:Nat)=Int.toNat 0:=rfl
 rw[O,E];refine⟨by omega,by omega,?_⟩;rw[lC0,lC0,lC0,bV,bV];refine⟨?_,?_⟩
 ·have:=g.2.2;rw[lA0] at this
  show (((sub FJ r (r+1)).length+(sub xR 0 k).length:Nat):Int)<=_
  omega
 ·rw[bM];exact W w _ U g (a6.trans a7) h

theorem uQ {n:Nat}: ∀ls:List (List UInt8),(∀s∈ls,s.length<=n)->(bv [10] ls).length<=ls.length*(n+1)
 | [],_=>by simp[bv]
 | [x],h=>by
  have:=h x (.head _);simp[bv];omega
 |x::y::r,h=>by
  have g:=uQ (y::r) λz hz=>h z (.tail _ hz)
  have:=h x (.head _);have e:bv [10] (x::y::r)=x++10::bv [10] (y::r):=by simp[bv]
  rw[e,lA0,lF0,lF0,lB6];omega
theorem Ae (H:op.task=false)(W:op.table=false)(O:op.auto=false)(V:op.ids=false){ec:ai}(a7:As ec){l:List BN}(E:okS l)(hd:dsS l)(g:l≠ [])(b8:(aD l).length<=1300)(b7:dpT l<=12):
 (bv [10] (aD l).tail).length<1000000/\vn [ec] op (bv [10] (aD l).tail) (λa6=>a6=gh 1 l):=by
 have b3:=(Cy H W O V a7).2.1 l E g (dpT l) (lZ0 _);obtain⟨c0,r0,rest,e,b4,_⟩:=pt.2.1 l E g;have y:=wM.2.1 l E hd g;have U:(aD l).tail.length<=1300:=by rw[lY2];omega
 have b9:=uQ (n:=768) (aD l).tail λs hs=>by have:=(y.ch s hs).2;omega
 have c1:=lN2 769 U;have I:(bv [10] (aD l).tail).length<1000000:=by omega
 obtain⟨m,s,b5,b6⟩:=y.last;refine⟨I,vW H b3 (c0:=c0) (r0:=r0) (by rw[e];rfl) b4 (by omega) (by omega) (λs hs=>?_) (by rw[b5];simpa using b6) I⟩;obtain⟨a,b⟩:=y.ch s hs;exact⟨⟨λh=>(a 10 h).1 rfl,λh=>(a 13 h).2.1 rfl⟩,λh=>(a 0 h).2.2 rfl,by omega⟩
theorem FC {l:List BN}(y:okS l)(g:l.length<=4)(hs:smS 3 l):(aD l).length<=1300/\dpT l<=12:=by
 obtain⟨a,b⟩:=qm.2.1 l y 3 hs;have e:NBd 3=323:=by decide
 rw[e] at a;have:=lN2 (323+1) g;exact⟨by omega,by omega⟩
theorem um: ∀(l g:List ND),n5 (cat g l)=n5 g+n5 l
 | [],g=>rfl
 |x::l,g=>by
  rw[vb,um l,uC]
  show _=n5 g+(x.h.text.length+n5 l)
  omega
theorem AP: ∀l:List Tk,n5 (l.map tkN)<=(tkB l).length
 | []=>lC2 _
 |t::l=>by
  have g:=AP l;rw[cu,lA0];have:(tkN t).h.text.length<=t.B.length:=by
   cases t<;>simp only[tkN,Tk.B,ND.h,plN,lA0,lF0,lM1,lG2,lZ0]<;>omega
  show (tkN t).h.text.length+n5 (l.map tkN)<=_
  omega
theorem xv (l:List Tk):n5 (inT l)<=(tkB l).length:=by
 have:=um (l.map tkN) [];have g:=AP l;unfold inT;rw[this]
 show 0+_<=_
 omega

theorem sj (x:List UInt8)(its:List Tk)(t:Tk):d5 (x,its++ [t])=d5 (x,its)++ [.sp,t]:=by simp[d5,qc]
theorem DA (x:List UInt8)(its:List Tk)(t:Tk):inT (d5 (x,its++ [t]))=kv (kv (inT (d5 (x,its))) (plN [32])) (tkN t):=by
 rw[sj];unfold inT;rw[lV0,lK];rfl
theorem zX (x:List UInt8)(its:List Tk)(t:Tk):cy (x,its++ [t])=cy (x,its)++(32::t.B):=by
 show tkB (d5 _)=tkB (d5 _)++_
 rw[sj,tA];simp[tkB,Tk.B]
theorem xW {h:NH}{s:List UInt8}{b:Nat}:NodeDt (.mk h [plN s]) (h.nd none 0 (kE b) 1 1) [(b,cel (N10.C {a0:=20,a1:=bs s}).toList af)]:=
 ⟨h,[plN s],none,0,kE b,1,1,_,[(b,_)],[],rfl,rfl,rfl,by decide,NodeDt.one (x:=plN s) NodeDt.leaf,slN (v:= {a0:=20,a1:=bs s})⟩
theorem vc {b:Nat}{q:OA}{n c:Nat}{vs:List UInt8}{s:BS}(d1:Rd σ L q n vs)(h:Sat σ w (bC b q n c s::L))(g6: ∀w (x:LT) (s':BS) (c3:OA) (b6 b9:Nat) (us:List Value) (RM KM:List ai),lnA x->s.same s'->NDs (inT (d5 x)) us KM->Sl 10 af c3 b6 b9 us RM->b6<=5->Sat σ w (RM++(KM++(bC b q n c s'::L)))->R (hQ (.tuple #[hX (bs (cy x)),hT c3 b6 b9])) w):
 callE P eu #[kT (kE b)] R w:=by
 have f6:i64.max=9223372036854775807:=rfl;refine di.sound ?_;refine nS d1 h λw x h2 e6 a7 h=>⟨_,rfl,?_⟩
 refine Sat.buildN h {a0:=20,a1:=bs x} λb1 w h=>?_
 have h:Sat σ w (bC b q n c h2::(b1,cel (N10.C {a0:=20,a1:=bs x}).toList af)::L):=h.re
 refine eL (k:=3) (d1.up λw h=>h.less [(b1,cel (N10.C {a0:=20,a1:=bs x}).toList af)]) (by omega) (by omega) h λw m g4 j1 b5 h=>⟨_,rfl,?_⟩
 intro X f4;have g2: ∀k (its:List Tk) (c3:OA) (b6 b9:Nat) (us:List Value) (RM KM:List ai) (s':BS) (w:World),its.length+k=m->(∀t∈its,tkA t)->s.same s'->NDs (inT (d5 (x,its))) us KM->Sl 10 af c3 b6 b9 us RM->b6<=1+2*its.length->Sat σ w (RM++(KM++(bC b q n c s'::L)))->X (kE b) (bs (cy (x,its))) c3 b6 b9 (m:Nat) (its.length:Nat) w:=by
  intro k
  induction k with
  |zero=>
   intro its c3 b6 b9 us RM KM s' w g5 e0 f0 e9 e8 g7 h;refine f4 _ _ _ _ _ _ _ _ (ae (by simp;omega) ?_);exact g6 w (x,its) s' c3 b6 b9 us RM KM ⟨⟨e6,e0⟩,by show its.length<=2;omega⟩ f0 e9 e8 (by omega) h
  |succ k h1=>
   intro its c3 b6 b9 us RM KM s' w g5 e0 f0 e9 e8 g7 h;have f2:lnA (x,its):=⟨⟨e6,e0⟩,by show its.length<=2;omega⟩;have h8:=jC f2.ok.1 f2.2;have g0:=xv (d5 (x,its));have g0:n5 (inT (d5 (x,its)))<=710:=by
    have e:(tkB (d5 (x,its))).length=(cy (x,its)).length:=rfl;omega
   have h9:=e6.2.2;refine f4 _ _ _ _ _ _ _ _ (ag (by simp;omega) ?_);have h:Sat σ w (bC b q n c s'::(RM++(KM++L))):=h.re
   refine nS (d1.up λw h=>h.less (RM++KM)) h λw g f5 c4 f1 h=>⟨_,rfl,?_⟩
   have h5:=c4.2.2;refine Sat.buildN h {a0:=20,a1:=bs g} λb2 w h=>?_
   have h:Sat σ w (RM++(KM++([]++(bC b q n c f5::(b2,cel (N10.C {a0:=20,a1:=bs g}).toList af)::L)))):=h.re
   refine o8 (x:=plN [32]) (u:= {a0:=20,a1:=bs [32]}) e9 e8 NodeDt.leaf (by omega) (by show _+1<_;omega) h λw j0 h0 i3 i2 b8 b7 i0 c8 d0 h=>⟨_,_,_,rfl,?_⟩
   have h4:n5 (kv (inT (d5 (x,its))) (plN [32]))<=711:=by rw[uC];show _+1<=_;omega
   have h:Sat σ w (bC b q n c f5::(b8++(b7++((b2,cel (N10.C {a0:=20,a1:=bs g}).toList af)::L)))):=h.re
   refine eL (k:=7) (d1.up λw h=>h.less (b8++(b7++ [(b2,cel (N10.C {a0:=20,a1:=bs g}).toList af)]))) (by omega) (by omega) h λw r b4 hr e7 h=>⟨_,rfl,?_⟩
   have next: ∀(t:Tk) (V:OA) (E U:Nat) (O:List Value) (I H:List ai) (c5:BS) (w:World) (z:ByteArray),tkA t->s.same c5->z=bs (32::t.B)->E<=h0+1->NDs (kv (kv (inT (d5 (x,its))) (plN [32])) (tkN t)) O H->Sl 10 af V E U O I->Sat σ w (I++(H++(bC b q n c c5::L)))->X (kE b) (bs (cy (x,its))++z) V E U (m:Nat) (i64.wrap (((its.length:Nat):Int)+1)) w:=by
    intro t V E U O I H c5 w z ht g3 hz b3 W a6 h;rw[hz,bM,<-zX,aN (by omega)];have e:(its++ [t]).length=its.length+1:=by simp
    rw[<-e];refine h1 (its++ [t]) V E U O I H c5 w (by omega) (λu d2=>?_) g3 (by rw[DA];exact W) a6 (by omega) h;rcases lO0.1 d2 with d2|d2
    ·exact e0 u d2
    ·obtain rfl:=lR0.1 d2;exact ht
   have c9:s.same b4:=f0.trans (f1.trans e7);have sz: ∀a b:List UInt8,a.length+b.length<=2000->(((bs a).size+(bs b).size:Nat):Int)<=i64.max:=by
    intro a b h6;rw[f6,aI,aI];omega
   have i8: ∀c:List UInt8,(hP c.toArray)=bs c:=λ_=>rfl
   rcases (show r=0\/r=1\/r=2\/r=3\/r=4\/5<=r by omega) with rfl|rfl|rfl|rfl|rfl|i1
   ·have a7:((hP #[32,42]):ByteArray)=bs [32,42]:=rfl
    have b5:((hP #[42]):ByteArray)=bs [42]:=rfl
    refine ag rfl ?_;rw[a7,b5,bM,bM];refine⟨sz _ _ (by simp;omega),sz _ _ (by simp;omega),sz _ _ (by simp;omega),?_⟩;have h:Sat σ w (b8++(b7++([(b2,cel (N10.C {a0:=20,a1:=bs g}).toList af)]++(bC b q n c b4::L)))):=h.re
    refine o8 (x:=tkN (.em 1 g)) (u:= {a0:=24,q7:=kE b2,n7:=1,c7:=1}) c8 d0 (xW (h:= {kind:=24})) (by omega) (by show _+0<_;omega) h λw V E U O I H b3 W a6 h=>⟨_,_,_,rfl,?_⟩
    exact next (.em 1 g) V E U O I H b4 w _ ⟨c4,.inl rfl⟩ c9 rfl b3 W a6 h
   ·have a7:((hP #[32,42,42]):ByteArray)=bs [32,42,42]:=rfl
    have b5:((hP #[42,42]):ByteArray)=bs [42,42]:=rfl
    refine ae rfl (ag rfl ?_);rw[a7,b5,bM,bM];refine⟨sz _ _ (by simp;omega),sz _ _ (by simp;omega),sz _ _ (by simp;omega),?_⟩;have h:Sat σ w (b8++(b7++([(b2,cel (N10.C {a0:=20,a1:=bs g}).toList af)]++(bC b q n c b4::L)))):=h.re
    refine o8 (x:=tkN (.em 2 g)) (u:= {a0:=25,q7:=kE b2,n7:=1,c7:=1}) c8 d0 (xW (h:= {kind:=25})) (by omega) (by show _+0<_;omega) h λw V E U O I H b3 W a6 h=>⟨_,_,_,rfl,?_⟩
    exact next (.em 2 g) V E U O I H b4 w _ ⟨c4,.inr rfl⟩ c9 rfl b3 W a6 h
   ·have a7:((hP #[32,96]):ByteArray)=bs [32,96]:=rfl
    have b5:((hP #[96]):ByteArray)=bs [96]:=rfl
    refine ae rfl (ae rfl (ag rfl ?_));rw[a7,b5,bM,bM];refine⟨sz _ _ (by simp;omega),sz _ _ (by simp;omega),sz _ _ (by simp;omega),?_⟩;have h:Sat σ w (b8++(b7++([]++(bC b q n c b4::L)))):=h.less [(b2,cel (N10.C {a0:=20,a1:=bs g}).toList af)]
    refine o8 (x:=tkN (.cd g)) (u:= {a0:=23,a1:=bs g}) c8 d0 (NodeDt.leaf (h:= {kind:=23,text:=g})) (by omega) (by show _+g.length<_;omega) h λw V E U O I H b3 W a6 h=>⟨_,_,_,rfl,?_⟩
    exact next (.cd g) V E U O I H b4 w _ c4 c9 rfl b3 W a6 h
   ·refine ae rfl (ae rfl (ae rfl (ag rfl ?_)));refine nS (d1.up λw h=>h.less (b8++(b7++ [(b2,cel (N10.C {a0:=20,a1:=bs g}).toList af)]))) h λw z c5 hz h3 h=>⟨_,rfl,?_⟩
    have h7:=hz.2.2;have a7:((hP #[32,91]):ByteArray)=bs [32,91]:=rfl
    have b5:((hP #[93,40]):ByteArray)=bs [93,40]:=rfl
    have f1:((hP #[41]):ByteArray)=bs [41]:=rfl
    have e7:((hP #[47]):ByteArray)=bs [47]:=rfl
    rw[a7,b5,f1,e7,bM,bM,bM,bM,bM];refine⟨sz _ _ (by simp;omega),sz _ _ (by simp;omega),sz _ _ (by simp;omega),sz _ _ (by simp;omega),sz _ _ (by simp;omega),sz _ _ (by simp;omega),?_⟩;have h:Sat σ w (b8++(b7++([(b2,cel (N10.C {a0:=20,a1:=bs g}).toList af)]++(bC b q n c c5::L)))):=h.re
    refine o8 (x:=tkN (.lk g (47::z))) (u:= {a0:=27,a1:=bs (47::z),q7:=kE b2,n7:=1,c7:=1}) c8 d0 (xW (h:= {kind:=27,text:=47::z})) (by omega) (by show _+(z.length+1)<_;omega) h λw V E U O I H b3 W a6 h=>⟨_,_,_,rfl,?_⟩
    refine next (.lk g (47::z)) V E U O I H c5 w _ ⟨c4,z,hz,rfl⟩ (c9.trans h3) ?_ b3 W a6 h
    congr 1;simp[Tk.B]
   ·have a7:((hP #[32,92,42]):ByteArray)=bs [32,92,42]:=rfl
    have b5:((hP #[42]):ByteArray)=bs [42]:=rfl
    refine ae rfl (ae rfl (ae rfl (ae rfl (ag rfl ?_))));rw[a7,b5,bM,bM];refine⟨sz _ _ (by simp;omega),sz _ _ (by simp;omega),sz _ _ (by simp;omega),?_⟩;have h:Sat σ w (b8++(b7++([]++(bC b q n c b4::L)))):=h.less [(b2,cel (N10.C {a0:=20,a1:=bs g}).toList af)]
    refine o8 (x:=tkN (.es g)) (u:= {a0:=20,a1:=bs (42::g)}) c8 d0 (NodeDt.leaf (h:= {kind:=20,text:=42::g})) (by omega) (by show _+(g.length+1)<_;omega) h λw V E U O I H b3 W a6 h=>⟨_,_,_,rfl,?_⟩
    exact next (.es g) V E U O I H b4 w _ c4 c9 rfl b3 W a6 h
   ·have a7:((hP #[32]):ByteArray)=bs [32]:=rfl
    have d3: ∀d:Nat,d<5->(((r:Nat):Int)==((d:Nat):Int))=false:=λd hd=>by rw[uP,decide_eq_false_iff_not];omega
    refine ae (d3 0 (by omega)) (ae (d3 1 (by omega)) (ae (d3 2 (by omega)) (ae (d3 3 (by omega)) (ae (d3 4 (by omega)) ?_))));rw[a7,bM];refine⟨sz _ _ (by simp;omega),sz _ _ (by simp;omega),by decide,by decide,aa ?_⟩;refine Sat.ldA10 h {a0:=20,a1:=bs g} (b:=b2) (pre:= []) (suf:= []) (e:=af) (by simp) rfl ?_;have h:Sat σ w (b8++(b7++([]++(bC b q n c b4::L)))):=h.less [(b2,cel (N10.C {a0:=20,a1:=bs g}).toList af)]
    refine o8 (x:=tkN (.wd g)) (u:= {a0:=20,a1:=bs g}) c8 d0 (NodeDt.leaf (h:= {kind:=20,text:=g})) (by omega) (by show _+g.length<_;omega) h λw V E U O I H b3 W a6 h=>⟨_,_,_,rfl,?_⟩
    exact next (.wd g) V E U O I H b4 w _ c4 c9 rfl b3 W a6 h
 have g1:cy (x,[])=x:=by simp[cy,d5,qc,tkB,Tk.B]
 have f3:=g2 m [] (kE b1) 1 1 _ _ _ g4 w (by simp) (λt ht=>by cases ht) (a7.trans b5) (NodeDt.one (x:=plN x) NodeDt.leaf) (slN (v:= {a0:=20,a1:=bs x})) (by simp) h.re
 rw[g1] at f3;exact f3
namespace eJ
def k1 (R:EP)(Xa:BA->BA->OA->Nat->Nat->Int->Int->WP)(V g y:BA)(E:OA)(O I:Nat)(U H:Int)(w:World):Prop:=((g.size+y.size:Nat):Int)<=i64.max/\Xa V (g++y) E O I U (i64.wrap (H+1)) w
def bl1 (R:EP)(Xa:BA->BA->OA->Nat->Nat->Int->Int->WP)(E y:BA)(H:OA)(I V:Nat)(U g:Int)(w:World):Prop:=br (decide (g<U)) (0<=g/\g<(I:Int)/\aA H λa1=>∃O,w.cell? (a1.add (Int.toNat g*1))=some (hX O)/\br (decide (g>0)) (((y.size+E.size:Nat):Int)<=i64.max/\k1 R Xa E (y++E) O H I V U g w) (k1 R Xa E y O H I V U g w)) (R (hQ (hX y)) w)
def l1 (R:EP)(U I:BA)(g:OA)(H E:Nat)(O y:Int)(w:World):Prop:=∀X:BA->BA->OA->Nat->Nat->Int->Int->WP,(∀U I g H E O y w,bl1 R X U I g H E O y w->X U I g H E O y w)->X U I g H E O y w
end eJ
def eJ (R:EP)(y:OA)(g E:Nat)(H:BA)(w:World):Prop:=eJ.l1 R H (hP #[]) y g E (g:Int) 0 w
theorem eJ.sound {R x0q x0n x0c x1 w}(h:eJ R x0q x0n x0c x1 w):callE P iW #[hT x0q x0n x0c,hX x1] R w:=
 aH [(43,.lp [21,101,163,187,207] (eJ.bl1 R) λXa=> [(115,.mk [21,101,141,163,187,207] (eJ.k1 R Xa))])] Tryz.func26 Tryz.call26 h

theorem zZ (sep:List UInt8)(ls:List (List UInt8))(l:List UInt8):bv sep (ls++ [l])=if ls= [] then l else bv sep ls++(sep++l):=by
 cases ls with
 |nil=>simp[bv]
 |cons t ts=>simp[bv]
theorem wr {q:Option Addr}{n c:Nat}{ls:List (List UInt8)}{sep:List UInt8}(U:SArg σ L q n ls)(h:Sat σ w L)(b7:n<1000000)(hb:(bv sep ls).length<1000000000)(hs:sep.length<1000000)(b4: ∀w,Sat σ w L->R (hQ (hX (bs (bv sep ls)))) w):callE P iW #[hT q n c,hX (bs sep)] R w:=by
 refine eJ.sound ?_;have E:i64.max=9223372036854775807:=rfl;have b5:=U.1;intro X V;have I: ∀i,i<=ls.length->(bv sep (ls.take i)).length<=(bv sep ls).length:=by
  intro i hi;cases ls with
  |nil=>simp[bv]
  |cons t ts=>
   cases i with
   |zero=>simp[bv]
   |succ i=>
    simp only[lF5,bv,lA0];have:(List.take i ts).flatMap (λu=>sep++u)++(List.drop i ts).flatMap (λu=>sep++u)=ts.flatMap (λu=>sep++u):=by
     rw[<-lG5,lT1]
    have:=congrArg List.length this;rw[lA0] at this;omega
 have W: ∀k i,i+k=n->X (bs sep) (bs (bv sep (ls.take i))) q n c (n:Nat) (i:Int) w:=by
  intro k
  induction k with
  |zero=>
   intro i hi;refine V _ _ _ _ _ _ _ _ (ae (by simp;omega) ?_);rw[lB2 (by omega)];exact b4 w h
  |succ k b3=>
   intro i hi;have O:i<ls.length:=by omega
   obtain⟨a,rfl,a7⟩:=U.2 i O;have y:bv sep (ls.take (i+1))=if i=0 then ls[i] else bv sep (ls.take i)++(sep++ls[i]):=by
    rw[lF1 O,zZ]
    by_cases g:i=0
    ·subst g;simp
    ·rw[if_neg (by intro a6;have:=congrArg List.length a6;rw[lB1,lM1] at this;omega),if_neg g]
   have H:=I (i+1) (by omega);have next:=b3 (i+1) (by omega)
   refine V _ _ _ _ _ _ _ _ (ag (by simp;omega) ⟨by omega,by omega,aa ?_⟩);rw[lC0,lD1];refine⟨_,a7 w h,?_⟩
   by_cases g:i=0
   ·subst g;rw[if_pos rfl] at y;rw[y] at H next;refine ae rfl ⟨?_,?_⟩
    ·rw[E,aI,aI]
     show ((([]:List UInt8).length+ls[0].length:Nat):Int)<=_
     simp only[lM1];omega
    ·rw[bM,aN (by omega)]
     simpa[bv] using next
   ·rw[if_neg g] at y;rw[y] at H next;simp only[lA0] at H;refine ag (by simp;omega) ⟨?_,?_⟩
    ·rw[E,aI,aI];have b6:=I i (by omega);omega
    ·refine⟨?_,?_⟩
     ·rw[E,bM,aI,aI,lA0];omega
     ·rw[bM,bM,aN (by omega),lD0];exact next
 exact W n 0 (by omega)

theorem EX (ls:List (List UInt8))(s:List UInt8):sv (ls++ [s])=sv ls++ [hX (bs s)]:=by simp[sv]

abbrev SlS (q:OA)(c:Nat)(ls:List (List UInt8))(M:List ai):Prop:=Sl 1 aq q ls.length c (sv ls) M
theorem SlS.nil:SlS none 0 [] []:=Sl.nil 1 aq
theorem Sat.appS {q:OA}{c:Nat}{ls:List (List UInt8)}{M:List ai}(b4:SlS q c ls M)(h:Sat σ w (M++L))(s:List UInt8)(b5:ls.length<1000000){K:OA->Nat->Nat->World->Prop}(b3: ∀y g H E,SlS y g (ls++ [s]) E->Sat σ H (E++L)->K y (ls++ [s]).length g H):
 ∃(U:OA),∃(a6:Nat),∃(V:Nat),∃O,(Instr.buildSlice ak 1 #[(0,hX (bs s))]).run P w= .ok (hT U a6 V) O/\
  ∃(y:OA),∃(I:Nat),∃(g:Nat),∃W,(Builtin.append_ #[ak,ak] ak #[hT q ls.length c,hT U a6 V]).run P O= .ok (hT y I g) W/\K y I g W:=by
 refine Sat.app1 rowStr b4 h (v:= hX (bs s)) rfl (by simp[Value.cells,Value.oneCell']) (DE s) (by omega) (by omega) (by decide) λy g w E a7 h=>?_
 have e:(ls++ [s]).length=ls.length+1:=by simp
 rw[<-e];refine b3 y g w E ?_ h
 show Sl 1 aq y (ls++ [s]).length g (sv (ls++ [s])) E
 rw[EX,e];exact a7
theorem Sat.buildS (h:Sat σ w L)(s:List UInt8){K:OA->Nat->Nat->World->Prop}(I: ∀q c g M,SlS q c [s] M->Sat σ g (M++L)->K q 1 c g):
 ∃(q:OA),∃(n:Nat),∃(c:Nat),∃g,(Instr.buildSlice ak 1 #[(0,hX (bs s))]).run P w= .ok (hT q n c) g/\K q n c g:=by
 have E:=run_buildSlice (P:=P) w ak aq 1 #[(0,hX (bs s))] #[hX (bs s)] rowStr.i rowStr.z rowStr.ht rowStr.hi rowStr.hz (by rw[rowStr.hs];decide) (by rw[rowStr.hs];decide) (by rw[rowStr.hs];exact DE s)
 refine⟨_,_,_,_,E,?_⟩;have y:=h.alc [hX (bs s)] aq;have H:YtendaipfdnhnaaaGreatDoor.alc w [hX (bs s)].toArray aq=w.alloc (.cells #[hX (bs s)] aq):=rfl;rw[H] at y;exact I _ _ _ [(_,cel [hX (bs s)] aq)] ⟨rfl,lZ0 _,.inr ⟨_,[],rfl,rfl,rfl⟩⟩ y
theorem Sat.appL {q V:OA}{c O:Nat}{ls g:List (List UInt8)}{M a7:List ai}(b9:SlS q c ls M)(b3:SlS V O g a7)(h:Sat σ w (M++(a7++L)))(b5:g≠ [])(c5:ls.length+g.length<1000000){K:OA->Nat->Nat->World->Prop}(c1: ∀E y H I,SlS E y (ls++g) I->Sat σ H (I++L)->K E (ls++g).length y H):
 ∃(E:OA),∃(a6:Nat),∃(y:Nat),∃W,(Builtin.append_ #[ak,ak] ak #[hT q ls.length c,hT V g.length O]).run P w= .ok (hT E a6 y) W/\K E a6 y W:=by
 have b7:0<g.length:=lY0.2 b5;obtain⟨c8,c9,b6⟩:=b3;rcases b6 with ⟨_,d0,_⟩|⟨b,sp,rfl,rfl,c4⟩
 ·omega
 have hs:Src P 1 ak (hT (kE b) g.length O) g.length (sv g) w:=by
  refine Src.ofSlice w rowStr.ht _ _ O _ (by simp) (λj u U=>?_) λu U=>?_
  ·rw[show (Addr.add (hZ b 0) j)=⟨b,j,none⟩ from Addr.add_zero_lit b j];refine h.ld (lB0 _ (.head _)) ?_;rw[lM0 (lL0.1 U).1];exact U
  ·obtain⟨s,_,rfl⟩:=lZ1.1 U;rfl
 obtain⟨E,y,H,I,hr,b4,b8,_⟩:=Sat.app rowStr (ty:=ak) b9 h hs (.inl b7) (by omega) (by omega);refine⟨E,_,y,H,hr,?_⟩;have e:(ls++g).length=ls.length+g.length:=by simp
 rw[<-e];refine c1 E y H I ?_ (b8.sub (List.Sublist.append_left (lH3 _ _) _))
 show Sl 1 aq E (ls++g).length y (sv (ls++g)) I
 have c3:sv (ls++g)=sv ls++sv g:=by simp[sv]
 rw[c3,e];exact b4
theorem SlS.get {q:OA}{c:Nat}{ls:List (List UInt8)}{M:List ai}(g:SlS q c ls M){i:Nat}(hi:i<ls.length): ∃a,q=some a/\ ∀ {L:List ai} {w:World},Sat σ w L->(∀x∈M,x∈L)->w.cell? (a.add i)=some (hX (bs ls[i])):=by
 obtain⟨E,H,y⟩:=g;rcases y with ⟨_,I,_⟩|⟨b,sp,rfl,rfl,O⟩
 ·omega
 refine⟨_,rfl,λ{L w} h hM=>?_⟩;rw[show (Addr.add (hZ b 0) i)=⟨b,i,none⟩ from Addr.add_zero_lit b i];exact h.ld (hM _ (.head _)) (by rw[lM0 (by rw[j6];exact hi),tB hi])
theorem Eo {n:Nat}(H:n<1000000)(y:R (hQ (hX (bs (hN n 32)))) w):callE P nK #[hY (n:Nat)] R w:=by
 refine nN.sound ?_;have e:((hP #[32]):ByteArray)=bs [32]:=rfl
 unfold nN;rw[e];refine uq (s:= [32]) H (by simp) ⟨_,rfl,?_⟩;have g: ∀n,(hN n [(32:UInt8)]).flatten=hN n 32:=by
  intro n
  induction n with
  |zero=>rfl
  |succ n E=>rw[lX1,lK3,E];rfl
 rw[g];exact y
theorem Ag {n:Nat}(a6:n<100)(g:R (hQ (hX (bs (CZ n)))) w):callE P fP #[hY (n:Nat)] R w:=by
 have O:i64.max=9223372036854775807:=rfl
 let y:List UInt8:= [48,49,50,51,52,53,54,55,56,57]
 have U: ∀k,k<10->sub y k (k+1)= [UInt8.ofNat (48+k)]:=by
  intro k I;have:(List.range 10).all (λk=>sub y k (k+1)== [UInt8.ofNat (48+k)])=true:=by kernel_rfl
  exact eq_of_beq (lD2.1 this k (lX2.2 I))
 have E: ∀ {R:Ending->World->Prop} {w:World} (k:Nat),k<10->R (hQ (hX (bs [UInt8.ofNat (48+k)]))) w->callE P fP #[hY (k:Nat)] R w:=by
  intro R w k I g;refine fR.sound ?_;have e:((hP #[48,49,50,51,52,53,54,55,56,57]):ByteArray)=bs y:=rfl
  unfold fR;rw[e,aN (by omega)];refine ag (by simp;omega) ⟨by omega,by omega,by show ((k+1:Nat):Int)<=10;omega,?_⟩;rw[lC0,lC0,bV]
  show R (hQ (hX (bs (sub y k (k+1))))) w
  rw[U k I];exact g
 by_cases H:n<10
 ·unfold CZ at g;rw[if_pos H] at g;exact E n H g
 ·unfold CZ at g;rw[if_neg H] at g;refine fR.sound ?_;unfold fR;have V:i64.wrap (Int.tdiv ((n:Nat):Int) 10)=((n/10:Nat):Int):=by
   rw[show Int.tdiv ((n:Nat):Int) 10=((n/10:Nat):Int) from rfl];exact i64_in _ (by omega)
  have W:Int.tmod ((n:Nat):Int) 10=((n%10:Nat):Int):=rfl
  rw[V,W];refine ae (by simp;omega) ⟨by omega,?_⟩;refine E (n/10) (by omega) ⟨_,rfl,by omega,?_⟩;refine E (n%10) (by omega) ⟨_,rfl,?_⟩;rw[bM];exact⟨by rw[aI,aI,O];simp,g⟩
theorem yd {q:OA}{c:Nat}{pad:List UInt8}{ls:List (List UInt8)}(b8:SArg σ L q ls.length ls)(c8:pad.length<=100)(a7: ∀l∈ls,l.length<=100000)(c9:ls.length<100000)(h:Sat σ w L)(b9: ∀w E y g,SlS E y (ls.map λs=>if s= [] then [] else pad++s) g->Sat σ w (g++L)->R (hQ (hT E ls.length y)) w):callE P kj #[hX (bs pad),hT q ls.length c] R w:=by
 have a6:i64.max=9223372036854775807:=rfl;refine dA.sound ?_;intro X W;have b4: ∀k i E y g w,i+k=ls.length->SlS E y ((ls.take i).map λs=>if s= [] then [] else pad++s) g->Sat σ w (g++L)->X (bs pad) E ((ls.take i).map λs=>if s= [] then [] else pad++s).length y q ls.length c (ls.length:Nat) (i:Nat) w:=by
  intro k
  induction k with
  |zero=>
   intro i E y g w V H h;obtain rfl:i=ls.length:=V;refine W _ _ _ _ _ _ _ _ _ _ (ae (by simp) ?_);rw[lT2] at H⊢;rw[lS0];exact b9 w E y g H h
  |succ k c3=>
   intro i E y g w V H h;have I:i<ls.length:=by omega
   obtain⟨a,rfl,c1⟩:=b8.2 i I;refine W _ _ _ _ _ _ _ _ _ _ (ag (by simp;omega) ⟨by omega,by omega,aa ?_⟩);rw[lC0,lD1];refine⟨_,c1 w (h.less g),?_⟩;have c5:=a7 ls[i] (lP1 I);have b5:(hP #[]).toList= []:=cX [];rw[cX,b5];have U:(ls.take (i+1)).map (λs=>if s= [] then [] else pad++s)=((ls.take i).map λs=>if s= [] then [] else pad++s)++ [if ls[i]= [] then [] else pad++ls[i]]:=by
    rw[lF1 I,lV0];rfl
   have b3:((ls.take i).map λs=>if s= [] then [] else pad++s).length<1000000:=by rw[lS0,lB1];omega
   have next: ∀z,z=(if ls[i]= [] then [] else pad++ls[i])->dA.k1 R X (bs pad) E ((ls.take i).map λs=>if s= [] then [] else pad++s).length y (bs z) (some a) ls.length c (ls.length:Nat) (i:Nat) w:=by
    intro z hz;refine Sat.appS H h z b3 λb7 b6 w c4 O h=>?_
    rw[hz,<-U] at O;rw[hz,<-U,aN (by omega)];exact c3 (i+1) b7 b6 c4 w (by omega) O h
   by_cases hz:ls[i]= []
   ·rw[hz];refine ae rfl ?_;exact next [] (by rw[if_pos hz])
   ·refine ag (by simp[hz]) ⟨by rw[aI,aI,a6];omega,?_⟩;rw[bM];exact next _ (by rw[if_neg hz])
 exact b4 ls.length 0 none 0 [] w (by omega) SlS.nil h
theorem tP: ∀ {ls:List (List UInt8)},ls≠ []->bv [10] ls++ [10]=dK ls
 | [],h=>absurd rfl h
 | [x],_=>by simp[bv,dK]
 |x::y::r,_=>by
  have g:=tP (ls:=y::r) (by simp)
  have e:bv [10] (x::y::r)=x++10::bv [10] (y::r):=by simp[bv]
  have E:dK (x::y::r)=(x++ [10])++dK (y::r):=by simp[dK]
  rw[e,E,<-g];simp
theorem D0 {b:Nat}{q:OA}{n c:Nat}{vs:List UInt8}{s:BS}(V:Rd σ L q n vs)(h:Sat σ w (bC b q n c s::L))(e6: ∀w (ls:List (Nat × List UInt8)) (s':BS) (g:OA) (E:Nat) (M:List ai),ls≠ []->ls.length<=3->(∀x∈ls,x.1<=2/\Wa x.2)->s.same s'->SlS g E (ls.map qW) M->Sat σ w (M++(bC b q n c s'::L))->R (hQ (.tuple #[hT g (ls.map qW).length E,hX (bs (dK (ls.map qW)))])) w):
 callE P iC #[kT (kE b)] R w:=by
 have b3:i64.max=9223372036854775807:=rfl;refine dj.sound ?_;refine nS V h λw x f0 H e7 h=>⟨_,rfl,?_⟩
 refine h.buildS x λf1 d1 w a7 c5 h=>?_
 have h:Sat σ w (bC b q n c f0::(a7++L)):=h.re
 refine eL (k:=3) (V.up λw h=>h.less a7) (by omega) (by omega) h λw m d2 g0 e9 h=>⟨_,rfl,?_⟩
 intro X b7;have c4: ∀k (ls:List (Nat × List UInt8)) (g:OA) (E:Nat) (M:List ai) (s':BS) (w:World),ls.length+k=m+1->ls≠ []->(∀x∈ls,x.1<=2/\Wa x.2)->s.same s'->SlS g E (ls.map qW) M->Sat σ w (M++(bC b q n c s'::L))->X (kE b) g (ls.map qW).length E (m:Nat) ((ls.length - 1:Nat):Int) w:=by
  intro k
  induction k with
  |zero=>
   intro ls g E M s' w e5 O I a6 U h;refine b7 _ _ _ _ _ _ _ (ae (by simp;omega) ?_);have c3:((hP #[10]):ByteArray)=bs [10]:=rfl
   rw[c3];have hr:=xK ls λx H=>⟨(I x H).1,(I x H).2.wd⟩
   have b9:=tP (ls:=ls.map qW) (by simpa using O);have b5:=congrArg List.length b9;rw[lA0] at b5;simp only[lE0] at b5;refine wr (L:=M++(bC b q n c s'::L)) (SArg.ofSl U λx H=>lE1 _ H) h (by simp;omega) (by omega) (by simp) λw h=>⟨_,rfl,?_⟩
   rw[bM,b9];refine⟨by rw[aI,aI,b3];simp;omega,?_⟩;exact e6 w ls s' g E M O (by omega) I a6 U h
  |succ k e8=>
   intro ls g E M s' w e5 O I a6 U h;have f5:0<ls.length:=lY0.2 O;refine b7 _ _ _ _ _ _ _ (ag (by simp;omega) ?_);have h:Sat σ w (bC b q n c s'::(M++L)):=h.re
   refine eL (k:=3) (V.up λw h=>h.less M) (by omega) (by omega) h λw r f6 hr f2 h=>⟨_,rfl,?_⟩
   refine Eo (by omega) ⟨_,rfl,?_⟩;refine nS (V.up λw h=>h.less M) h λw W b8 b6 d3 h=>⟨_,rfl,?_⟩
   have f4:=b6.2.2;refine⟨by rw[aI,aI,b3];simp;omega,?_⟩;rw[bM];have h:Sat σ w (M++(bC b q n c b8::L)):=h.re
   refine Sat.appS U h _ (by simp;omega) λe0 d0 w f3 b4 h=>?_
   have em:ls.map qW++ [hN r 32++W]=(ls++ [(r,W)]).map qW:=by simp[qW]
   rw[em] at b4⊢;have c9:i64.wrap (((ls.length - 1:Nat):Int)+1)=(((ls++ [(r,W)]).length - 1:Nat):Int):=by
    rw[aN (by omega)];congr 1;simp;omega
   rw[c9];refine e8 (ls++ [(r,W)]) e0 d0 f3 b8 w (by simp;omega) (by simp) (λz hz=>?_) (a6.trans (f2.trans d3)) b4 h;rcases lO0.1 hz with hz|hz
   ·exact I z hz
   ·obtain rfl:=lR0.1 hz;exact⟨by omega,b6⟩
 have c8:=c4 m [(0,x)] f1 d1 a7 d2 w (by simp;omega) (by simp) (λz hz=>by obtain rfl:=lR0.1 hz;exact⟨by omega,H⟩) (e7.trans e9) c5 h.re;exact c8

theorem rT: ∀(ls:List LT) (x:LT),ls≠ []->ff (ls++ [x])=ff ls++ .nl::d5 x
 | [],x,h=>absurd rfl h
 | [y],x,_=>rfl
 |y::z::r,x,_=>by
  have g:=rT (z::r) x (by simp)
  have e:ff ((y::z::r)++ [x])=d5 y++ .nl::ff ((z::r)++ [x]):=rfl
  rw[e,g,ff];simp
def rQ (ls:List LT):List ND:=if ls= [] then [] else kv (inT (ff ls)) (tkN .nl)
theorem Bf (ls:List LT)(x:LT):cat (rQ ls) (inT (d5 x))=inT (ff (ls++ [x])):=by
 unfold rQ
 by_cases h:ls= []
 ·subst h;rw[if_pos rfl];exact DP _
 ·rw[if_neg h,rT ls x h];unfold inT;rw[Cu,lV0,lK];rfl
theorem AQ {ls:List LT}(h: ∀x∈ls,lnA x)(E:ls.length<=3):n5 (inT (ff ls))<=2200:=by
 have y:=xv (ff ls);rw[pg] at y;have H:=p9 ls λx g=>⟨(h x g).ok.1,(h x g).2⟩
 omega
theorem pE {b:Nat}{q:OA}{n c:Nat}{vs:List UInt8}{s:BS}(g7:Rd σ L q n vs)(h:Sat σ w (bC b q n c s::L))(m5: ∀w (ls:List LT) (s':BS) (b5:OA) (b4:Nat) (O:List ai) (E:OA) (g H:Nat) (us:List Value) (RM KM:List ai),lsA ls->s.same s'->SlS b5 b4 (ls.map cy) O->NDs (inT (ff ls)) us KM->Sl 10 af E g H us RM->g<=30->Sat σ w (O++(RM++(KM++(bC b q n c s'::L))))->R (hQ (.tuple #[hT b5 (ls.map cy).length b4,(({kind:=6}:NH).nd none 0 E g H).V])) w):
 callE P dD #[kT (kE b)] R w:=by
 have m8:i64.max=9223372036854775807:=rfl;refine bX.sound ?_;refine Sat.bx h λb1 w h=>?_
 refine Sat.bx h λI w h=>?_
 have h:Sat σ w ((I,cel (N10.C {}).toList af)::(b1,cel (N10.C {}).toList af)::bC b q n c s::L):=h
 refine h.st10 0 {} {a0:=6} λw h=>?_
 have h:Sat σ w ((I,cel (N10.C {a0:=6}).toList af)::(b1,cel (N10.C {}).toList af)::bC b q n c s::L):=h
 have h:Sat σ w (bC b q n c s::((I,cel (N10.C {a0:=6}).toList af)::(b1,cel (N10.C {}).toList af)::L)):=h.re
 refine eL (k:=3) (g7.up λw h=>h.less [(I,cel (N10.C {a0:=6}).toList af),(b1,cel (N10.C {}).toList af)]) (by omega) (by omega) h λw m g4 h0 m4 h=>⟨_,rfl,?_⟩
 have j0:i64.wrap (1+((m:Nat):Int))=((m+1:Nat):Int):=by
  rw[i64_in _ (by omega)];omega
 rw[j0];intro X g5;have i0: ∀k (ls:List LT) (b5:OA) (b4:Nat) (O:List ai) (E:OA) (g H:Nat) (us:List Value) (RM KM:List ai) (s':BS) (w:World),ls.length+k=m+1->(∀x∈ls,lnA x)->s.same s'->SlS b5 b4 (ls.map cy) O->NDs (inT (ff ls)) us KM->Sl 10 af E g H us RM->g<=10*ls.length->
  Sat σ w ((I,cel (({kind:=6}:NH).nd none 0 E g H).C.toList af)::(b1,cel (N10.C {}).toList af)::(O++(RM++(KM++(bC b q n c s'::L)))))->X (kE b) b1 I b5 (ls.map cy).length b4 ((m+1:Nat):Int) (ls.length:Nat) w:=by
  intro k
  induction k with
  |zero=>
   intro ls b5 b4 O E g H us RM KM s' w g6 d3 f3 f4 W a7 d2 h;refine g5 _ _ _ _ _ _ _ _ _ (ae (by simp;omega) ?_);refine h.tk λw h=>?_
   refine h.ldB10 _ (.head _) ?_;refine h.st10 1 {} (({kind:=6}:NH).nd none 0 E g H) λw h=>?_
   have h:Sat σ w ((I,cel (({kind:=6}:NH).nd none 0 E g H).C.toList af)::(b1,cel (({kind:=6}:NH).nd none 0 E g H).C.toList af)::(O++(RM++(KM++(bC b q n c s'::L))))):=h
   refine h.ldB10 _ (.tail _ (.head _)) ?_;refine m5 w ls s' b5 b4 O E g H us RM KM ⟨?_,by omega,d3⟩ f3 f4 W a7 (by omega) (h.less [(I,cel (({kind:=6}:NH).nd none 0 E g H).C.toList af),(b1,cel (({kind:=6}:NH).nd none 0 E g H).C.toList af)])
   rintro rfl
   simp at g6
  |succ k m3=>
   intro ls b5 b4 O E g H us RM KM s' w g6 d3 f3 f4 W a7 d2 h;have h6:=AQ d3 (by omega);refine g5 _ _ _ _ _ _ _ _ _ (ag (by simp;omega) ?_);have h:Sat σ w (bC b q n c s'::((I,cel (({kind:=6}:NH).nd none 0 E g H).C.toList af)::(b1,cel (N10.C {}).toList af)::(O++(RM++(KM++L))))):=h.re
   refine vc (g7.up λw h=>h.less ((I,cel (({kind:=6}:NH).nd none 0 E g H).C.toList af)::(b1,cel (N10.C {}).toList af)::(O++(RM++KM)))) h λw x a6 lq ln lc b8 c8 e1 f2 l5 g1 g2 n2 h=>⟨_,_,_,_,rfl,?_⟩
   have rest: ∀(E:OA) (g H:Nat) (us:List Value) (RM KM:List ai) (w:World),NDs (rQ ls) us KM->Sl 10 af E g H us RM->g<=10*ls.length+1->
    Sat σ w ((I,cel (({kind:=6}:NH).nd none 0 E g H).C.toList af)::(b1,cel (N10.C {}).toList af)::(O++(RM++(KM++(c8++(e1++(bC b q n c a6::L)))))))->bX.k1 R X (kE b) b1 I b5 (ls.map cy).length b4 (bs (cy x)) lq ln lc ((m+1:Nat):Int) (ls.length:Nat) w:=by
    intro E g H us RM KM w W a7 d2 h;have o0:n5 (rQ ls)<=2200:=by
     unfold rQ;split
     ·exact lC2 _
     ·rw[uC];exact h6
    have o2:n5 (inT (d5 x))<=710:=by
     have j1:=xv (d5 x);have h4:(tkB (d5 x)).length<=710:=jC f2.ok.1 f2.2;omega
    have n0:=g1.len;have o4:=g2.1;have f1:(inT (d5 x)).length=ln:=by omega
    intro Y g3;have inner: ∀(b9 U:List ND) (v1 e0:List Value) (c4:List ai) (E:OA) (g H:Nat) (us:List Value) (RM KM:List ai) (w:World),U++b9=inT (d5 x)->v1++e0=b8->v1.length=U.length*10->NDs b9 e0 c4->NDs (cat (rQ ls) U) us KM->Sl 10 af E g H us RM->g<=10*ls.length+1+U.length->
     Sat σ w ((I,cel (({kind:=6}:NH).nd none 0 E g H).C.toList af)::(b1,cel (N10.C {}).toList af)::(O++(RM++(KM++(c8++(c4++(bC b q n c a6::L)))))))->Y (kE b) b1 I b5 (ls.map cy).length b4 (bs (cy x)) ((m+1:Nat):Int) (ls.length:Nat) lq ln lc (ln:Nat) (U.length:Nat) w:=by
     intro b9
     induction b9 with
     |nil=>
      intro U v1 e0 c4 E g H us RM KM w b7 hv e8 f6 W a7 d2 h;rw[lG0] at b7;refine g3 _ _ _ _ _ _ _ _ _ _ _ _ _ _ _ (ae (by rw[b7,f1];simp) ?_);have h:Sat σ w (O++((I,cel (({kind:=6}:NH).nd none 0 E g H).C.toList af)::(b1,cel (N10.C {}).toList af)::(RM++(KM++(c8++(c4++(bC b q n c a6::L))))))):=h.re
      refine Sat.appS f4 h _ (by simp;omega) λi2 i8 w m1 g0 h=>?_
      have em:ls.map cy++ [cy x]=(ls++ [x]).map cy:=by simp
      rw[em] at g0⊢;rw[aN (by omega)];have c3:(ls++ [x]).length=ls.length+1:=by simp
      rw[<-c3];refine m3 (ls++ [x]) i2 i8 m1 E g H us RM KM a6 w (by simp;omega) (λz hz=>?_) (f3.trans l5) g0 ?_ a7 ?_ ?_
      ·rcases lO0.1 hz with hz|hz
       ·exact d3 z hz
       ·obtain rfl:=lR0.1 hz;exact f2
      ·rw[<-Bf,<-b7];exact W
      ·rw[b7,f1] at d2;rw[c3];omega
      ·exact h.less (c8++c4)
     |cons y b9 h9=>
      intro U v1 e0 c4 E g H us RM KM w b7 hv e8 f6 W a7 d2 h;have h7:=congrArg List.length b7;rw[lA0,lF0,f1] at h7;refine g3 _ _ _ _ _ _ _ _ _ _ _ _ _ _ _ (ag (by simp;omega) ⟨by omega,by omega,?_⟩);have h8:=g2;obtain⟨_,_,⟨rfl,hz,_,_⟩|⟨c1,sp,rfl,rfl,n3⟩⟩:=h8
      ·omega
      refine aa ?_;simp only[lK0,lC0,lN0];cases f6 with
      | @cons yh ks _ qa ca yq yn yc yvs yus YR YK _ a1 a2 a3 a4=>
      have i1:NodeDt (.mk yh ks) (yh.nd qa ca yq yn yc) (YR++YK):=⟨yh,ks,qa,ca,yq,yn,yc,yvs,YR,YK,rfl,rfl,rfl,a1,a2,a3⟩;rename_i c5;have h0:(c1,cel (v1++((yh.nd qa ca yq yn yc).C.toList++(yus++sp))) af)∈((I,cel (({kind:=6}:NH).nd none 0 E g H).C.toList af)::(b1,cel (N10.C {}).toList af)::(O++(RM++(KM++([(c1,cel (b8++sp) af)]++(((YR++YK)++c5)++(bC b q n c a6::L))))))):=by
       have e:v1++((yh.nd qa ca yq yn yc).C.toList++(yus++sp))=b8++sp:=by rw[<-hv];simp only[lD0]
       rw[e];simp
      refine Sat.ldA10 h (yh.nd qa ca yq yn yc) (b:=c1) (pre:=v1) (suf:=yus++sp) (e:=af) h0 e8 ?_;refine Sat.bx h λf5 w h=>?_
      have h:Sat σ w ((f5,cel (N10.C {}).toList af)::(I,cel (({kind:=6}:NH).nd none 0 E g H).C.toList af)::(b1,cel (N10.C {}).toList af)::(O++(RM++(KM++([(c1,cel (b8++sp) af)]++(((YR++YK)++c5)++(bC b q n c a6::L))))))):=h
      refine h.st10 0 {} (yh.nd qa ca yq yn yc) λw h=>?_
      have h:Sat σ w ((f5,cel (yh.nd qa ca yq yn yc).C.toList af)::(I,cel (({kind:=6}:NH).nd none 0 E g H).C.toList af)::(b1,cel (N10.C {}).toList af)::(O++(RM++(KM++([(c1,cel (b8++sp) af)]++(((YR++YK)++c5)++(bC b q n c a6::L))))))):=h
      refine⟨E,g,H,Sat.ld h (.tail _ (.head _)) (i:=7) rfl,?_⟩;refine h.ldB10 _ (.head _) ?_;have m6:n5 (cat (rQ ls) U)+yh.text.length<=3000:=by
       have j1:=um U (rQ ls);have h4:=congrArg n5 b7;rw[i7] at h4;have o3:n5 (ND.mk yh ks::b9)=yh.text.length+n5 b9:=rfl
       omega
      have h:Sat σ w (RM++(KM++((YR++YK)++((I,cel (({kind:=6}:NH).nd none 0 E g H).C.toList af)::(b1,cel (N10.C {}).toList af)::(O++([(c1,cel (b8++sp) af)]++(c5++(bC b q n c a6::L)))))))):=h.less [(f5,cel (yh.nd qa ca yq yn yc).C.toList af)]
      refine o8 W a7 i1 (by omega) (by show _+yh.text.length<_;omega) h λw e9 f0 e6 e7 d0 c9 h5 e4 e5 h=>⟨_,_,_,rfl,?_⟩
      have h:Sat σ w ((I,cel (({kind:=6}:NH).nd none 0 E g H).C.toList af)::(b1,cel (N10.C {}).toList af)::(O++(d0++(c9++([(c1,cel (b8++sp) af)]++(c5++(bC b q n c a6::L))))))):=h.re
      refine Sat.st h (k:=0) rfl (by show 7<10;decide) trivial rfl λw h=>?_
      rw[aN (by omega)];have c3:(U++ [ND.mk yh ks]).length=U.length+1:=by simp
      rw[<-c3];refine h9 (U++ [.mk yh ks]) (v1++(yh.nd qa ca yq yn yc).C.toList) yus c5 e9 f0 e6 e7 d0 c9 w (by rw[<-b7];simp) (by rw[<-hv];simp only[lD0]) ?_ a4 ?_ e5 ?_ h
      ·rw[lA0,e8,c3,lP3];rfl
      ·rw[lK];exact e4
      ·rw[c3];omega
    exact inner (inT (d5 x)) [] [] b8 e1 E g H us RM KM w rfl rfl rfl g1 W a7 (by simp;omega) h
   by_cases d1:ls= []
   ·have m2:rQ ls= []:=by unfold rQ;rw[if_pos d1]
    refine ae (by rw[d1];rfl) (rest E g H us RM KM w ?_ a7 (by omega) h.re);rw[m2];rw[d1] at W;exact W
   ·have n1:0<ls.length:=lY0.2 d1;refine ag (by simp;omega) ?_;refine⟨E,g,H,Sat.ld h (lB0 _ (lB0 _ (.tail _ (.head _)))) (i:=7) rfl,?_⟩;have h:Sat σ w (RM++(KM++([]++((I,cel (({kind:=6}:NH).nd none 0 E g H).C.toList af)::(b1,cel (N10.C {}).toList af)::(O++(c8++(e1++(bC b q n c a6::L)))))))):=h.re
    refine o8 (x:=tkN .nl) (u:= {a0:=21}) W a7 (NodeDt.leaf (h:= {kind:=21})) (by omega) (by show _+0<_;omega) h λw e9 f0 e6 e7 d0 c9 h5 e4 e5 h=>⟨_,_,_,rfl,?_⟩
    have h:Sat σ w ((I,cel (({kind:=6}:NH).nd none 0 E g H).C.toList af)::(b1,cel (N10.C {}).toList af)::(O++(d0++(c9++(c8++(e1++(bC b q n c a6::L))))))):=h.re
    refine Sat.st h (k:=0) rfl (by show 7<10;decide) trivial rfl λw h=>?_
    exact rest e9 f0 e6 e7 d0 c9 w (by unfold rQ;rw[if_neg d1];exact e4) e5 (by omega) h
 have h:Sat σ w (bC b q n c g4::((I,cel (({kind:=6}:NH).nd none 0 none 0 0).C.toList af)::(b1,cel (N10.C {}).toList af)::L)):=h
 have i3:=i0 (m+1) [] none 0 [] none 0 0 [] [] [] g4 w (by simp) (λz hz=>by cases hz) m4 SlS.nil .nil (Sl.nil 10 af) (by simp) h.re;exact i3

mutual
def flB (quo:Bool):BN->Prop
 | .setx _ ls=>ls.length=1
 | .code w _=>w= []
 | .quote bs=>flS true bs
 | .list _ _ gap its=>(quo=true->gap=false/\its.all (λit=>it.length==1)=true)/\flJ quo its
 |_=>True
def flS (quo:Bool):List BN->Prop
 | []=>True
 |b::r=>flB quo b/\flS quo r
def flJ (quo:Bool):List (List BN)->Prop
 | []=>True
 |it::r=>(∃ls t,it= .para ls::t)/\flS quo it/\flJ quo r
end
theorem zj {g:Bool}: ∀(l:List BN) (b:BN),flS g l->flB g b->flS g (l++ [b])
 | [],b,_,h=>⟨h,trivial⟩
 |x::l,b,h,hb=>⟨h.1,zj l b h.2 hb⟩
theorem uZ {g:Bool}: ∀(l:List (List BN)) (it:List BN),flJ g l->(∃ls t,it= .para ls::t)->flS g it->flJ g (l++ [it])
 | [],it,_,h1,h2=>⟨h1,h2,trivial⟩
 |x::l,it,h,h1,h2=>⟨h.1,h.2.1,uZ l it h.2.2 h1 h2⟩
def BS.kp (s s':BS):Prop:=s'.flat=s.flat/\s'.deep=s.deep
theorem BS.kp.trans {a b c:BS}(y:a.kp b)(g:b.kp c):a.kp c:=⟨g.1.trans y.1,g.2.trans y.2⟩
theorem BS.same.kp {a b:BS}(h:a.same b):a.kp b:=⟨h.2.1,h.2.2⟩
def BS.dp (s:BS)(d:Nat):Prop:=0<=s.deep/\s.deep+(d:Int)<=100
theorem BS.kp.dp {a b:BS}{d:Nat}(h:a.kp b)(hd:a.dp d):b.dp d:=by unfold BS.dp;rw[h.2];exact hd
abbrev BS.fq (s:BS):Bool:=decide (0<s.deep)
def NdOf (bn:BN)(h:NH)(g:List ND):Prop:=h.s=0/\h.e=0/\ ∀f,1<=f->tO f bn= .mk {h with s:=f,e:=f+(bf bn).length - 1} g
structure Made (d:Nat) (odd:Bool) (s:BS) (bn:BN):Prop where
 ab:abB bn
 sm:smB d bn
 kd:kdOK odd bn
 fl:s.flat=true->flB s.fq bn
structure Ea (d most:Nat) (s:BS) (l:List BN):Prop where
 ab:abS l
 ne:l≠ []
 len:l.length<=most
 sm:smS d l
 fl:s.flat=true->flS s.fq l
def xi (d:Nat):Prop:= ∀ {σ:Out} {w:World} {L:List ai} {R:Ending->World->Prop} {b:Nat} {q:OA} {n c:Nat} {vs:List UInt8} {s:BS} (odd:Bool),Rd σ L q n vs->s.dp d->Sat σ w (bC b q n c s::L)->
 (∀w (bn:BN) (s':BS) (O:OA) (H:Nat) (y:List ai) (h:NH) (I:List ND) (U:OA) (g E:Nat) (us:List Value) (RM KM:List ai),Made d odd s bn->s.kp s'->SlS O H (bf bn) y->NdOf bn h I->NDs I us KM->Sl 10 af U g E us RM->g<=100->Sat σ w (y++(RM++(KM++(bC b q n c s'::L))))->R (hQ (.tuple #[hT O (bf bn).length H,(h.nd none 0 U g E).V])) w)->
 callE P eY #[kT (kE b),hY (d:Nat),hV odd] R w
def yJ (d most:Nat):Prop:= ∀ {σ:Out} {w:World} {L:List ai} {R:Ending->World->Prop} {b:Nat} {q:OA} {n c:Nat} {vs:List UInt8} {s:BS},Rd σ L q n vs->s.dp d->Sat σ w (bC b q n c s::L)->
 (∀w (l:List BN) (s':BS) (H:OA) (E:Nat) (g:List ai) (I:OA) (y:Nat) (us:List Value) (RM KM:List ai),Ea d most s l->s.kp s'->SlS H E (aD l).tail g->NDs (oT 1 l) us KM->Sl 10 af I l.length y us RM->Sat σ w (g++(RM++(KM++(bC b q n c s'::L))))->R (hQ (.tuple #[hT H (aD l).tail.length E,hT I l.length y])) w)->
 callE P dV #[kT (kE b),hY (d:Nat),hY (most:Nat)] R w
theorem D9 {d:Nat}(hd:d<=3):NBd d<=323:=by
 rcases (show d=0\/d=1\/d=2\/d=3 by omega) with rfl|rfl|rfl|rfl<;>decide
theorem tL {d:Nat}{bn:BN}(hd:d<=3)(E:abB bn)(hs:smB d bn):(bf bn).length<=323/\(∀s∈bf bn,s.length<=740)/\bf bn≠ []:=by
 obtain⟨g,H⟩:=Ar.1 bn E;obtain⟨I,O⟩:=qm.1 bn g d hs;have y:=wM.1 bn g H;exact⟨by have:=D9 hd;omega,λs hs=>by have:=(y.ch s hs).2;omega,y.ne⟩
theorem sd {d:Nat}{l:List BN}(hd:d<=3)(H:abS l)(hs:smS d l)(E:l≠ [])(O:l.length<=4):(aD l).tail.length<=1300/\(∀s∈(aD l).tail,s.length<=740)/\(aD l).tail≠ []:=by
 obtain⟨y,I⟩:=Ar.2.1 l H;obtain⟨W,a6⟩:=qm.2.1 l y d hs;have g:=wM.2.1 l y I E;have V:=D9 hd;have U:=lK5 O (show NBd d+1<=324 by omega);exact⟨by rw[lY2];omega,λs hs=>by have:=(g.ch s hs).2;omega,g.ne⟩
def Au (l:List BN):List (List UInt8):=if l= [] then [] else (aD l).tail++ [[]]
theorem Dl (l:List BN):(Au l).length=(aD l).length:=by
 unfold Au;cases l with
 |nil=>rfl
 |cons b r=>
  rw[if_neg (by simp)];simp[aD];omega
theorem tF (l:List BN)(b:BN):Au l++bf b=(aD (l++ [b])).tail:=by
 unfold Au;cases l with
 |nil=>
  show []++bf b=bf b++ []
  simp
 |cons x r=>
  rw[if_neg (by simp),sf];simp[aD]
theorem sL {d most:Nat}(hd:d<=3)(g3:1<=most)(m6:most<=4)(hb:xi d):yJ d most:=by
 intro σ w L R b q n c vs s f4 g0 h i8;have m5:i64.max=9223372036854775807:=rfl;refine bS.sound ?_;refine eL f4 g3 (by omega) h λw m l5 o2 i2 h=>⟨_,rfl,?_⟩
 have i3:i64.wrap (1+((m:Nat):Int))=((m+1:Nat):Int):=by
  rw[i64_in _ (by omega)];omega
 rw[i3];intro X f3;have g6: ∀k (l:List BN) (U:OA) (O:Nat) (g:List ai) (b9:OA) (b6:Nat) (us:List Value) (RM KM:List ai) (s':BS) (w:World),l.length+k=m+1->alt false l->(∀b∈l,abB b)->smS d l->(s.flat=true->flS s.fq l)->s.kp s'->SlS U O (aD l).tail g->NDs (oT 1 l) us KM->Sl 10 af b9 l.length b6 us RM->
  Sat σ w (g++(RM++(KM++(bC b q n c s'::L))))->X (kE b) (d:Nat) U (aD l).tail.length O b9 l.length b6 ((m+1:Nat):Int) (l.length:Nat) w:=by
  intro k
  induction k with
  |zero=>
   intro l U O g b9 b6 us RM KM s' w f2 d1 c9 d0 d3 b8 b3 e3 e5 h;refine f3 _ _ _ _ _ _ _ _ _ _ _ (ae (by simp;omega) ?_);exact i8 w l s' U O g b9 b6 us RM KM ⟨yF l false d1 c9,by rintro rfl;simp at f2,by omega,d0,d3⟩ b8 b3 e3 e5 h
  |succ k j1=>
   intro l U O g b9 b6 us RM KM s' w f2 d1 c9 d0 d3 b8 b3 e3 e5 h;have g5:=Ar.2.1 l (yF l false d1 c9);have o0:(aD l).length<=1300:=by
    obtain⟨n1,_⟩:=qm.2.1 l g5.1 d d0;have n2:=D9 hd;have n0:=lK5 (show l.length<=4 by omega) (show NBd d+1<=324 by omega);omega
   refine f3 _ _ _ _ _ _ _ _ _ _ _ (ag (by simp;omega) ⟨by decide,?_⟩);have j0:((Int.tmod ((l.length:Nat):Int) 2)==1)=Eq l.length:=by
    rw[show Int.tmod ((l.length:Nat):Int) 2=((l.length%2:Nat):Int) from rfl]
    show (((l.length%2:Nat):Int)==((1:Nat):Int))=_
    rw[uP];unfold Eq
    by_cases m3:l.length%2=1<;>simp[m3]
   rw[j0];have h:Sat σ w (bC b q n c s'::(g++(RM++(KM++L)))):=h.re
   refine hb (Eq l.length) (f4.up λw h=>h.less (g++(RM++KM))) (b8.dp g0) h λw bn a7 i1 h6 b4 a6 i0 k2 E H g7 I y b7 k0 g2 m1 g1 g4 m8 h=>⟨_,_,_,_,_,_,_,_,_,_,_,_,_,_,_,_,_,rfl,?_⟩
   obtain⟨bl1,bl2,bl3⟩:=tL hd b7.ab b7.sm;refine Sat.bx h λW w h=>?_
   have h:Sat σ w ((W,cel (N10.C {}).toList af)::(b4++(I++(y++(bC b q n c a7::(g++(RM++(KM++L)))))))):=h
   refine h.st10 0 {} (a6.nd none 0 k2 E H) λw h=>?_
   have h:Sat σ w ((W,cel (a6.nd none 0 k2 E H).C.toList af)::(b4++(I++(y++(bC b q n c a7::(g++(RM++(KM++L)))))))):=h
   have rest: ∀(U:OA) (O:Nat) (g:List ai) (w:World),SlS U O (Au l) g->Sat σ w ((W,cel (a6.nd none 0 k2 E H).C.toList af)::(b4++(I++(y++(bC b q n c a7::(g++(RM++(KM++L))))))))->
    bS.k1 R X (kE b) (d:Nat) U (Au l).length O b9 l.length b6 i1 (bf bn).length h6 W ((m+1:Nat):Int) (l.length:Nat) w:=by
    intro U O g w b3 h;have f0:=Dl l;have h4:i64.wrap (((Au l).length:Int)+1)=(((aD l).length+1:Nat):Int):=by rw[f0,aN (by omega)]
    have m2:i64.wrap (((Au l).length:Int)+((bf bn).length:Int))=(((aD l).length+1+(bf bn).length - 1:Nat):Int):=by
     rw[f0,i64_in _ (by omega)];omega
    unfold bS.k1;rw[h4,m2];refine Sat.st h (k:=0) rfl (by show 8<10;decide) trivial rfl λw h=>?_
    refine Sat.st h (k:=0) rfl (by show 9<10;decide) trivial rfl λw h=>?_
    have h:Sat σ w ((W,cel (({a6 with s:=(aD l).length+1,e:=(aD l).length+1+(bf bn).length - 1}:NH).nd none 0 k2 E H).C.toList af)::(b4++(I++(y++(bC b q n c a7::(g++(RM++(KM++L)))))))):=h
    have f1:NodeDt (tO (1+(aD l).length) bn) (({a6 with s:=(aD l).length+1,e:=(aD l).length+1+(bf bn).length - 1}:NH).nd none 0 k2 E H) (I++y):=by
     rw[lQ4 1,m1.2.2 _ (by omega)];exact⟨_,i0,none,0,k2,E,H,g7,I,y,rfl,rfl,rfl,by omega,g1,g4⟩
    have h:Sat σ w (g++(b4++((W,cel (({a6 with s:=(aD l).length+1,e:=(aD l).length+1+(bf bn).length - 1}:NH).nd none 0 k2 E H).C.toList af)::(I++(y++(bC b q n c a7::(RM++(KM++L)))))))):=h.re
    refine Sat.appL b3 g2 h bl3 (by omega) λe4 e7 w c8 c1 h=>?_
    refine h.ldB10 _ (lB0 _ (.head _)) ?_;have h:Sat σ w (RM++(c8++((W,cel (({a6 with s:=(aD l).length+1,e:=(aD l).length+1+(bf bn).length - 1}:NH).nd none 0 k2 E H).C.toList af)::(I++(y++(bC b q n c a7::(KM++L))))))):=h.re
    generalize n3:({a6 with s:=(aD l).length+1,e:=(aD l).length+1+(bf bn).length - 1}:NH).nd none 0 k2 E H=u at h f1⊢;refine Sat.app1 rowND e5 h (v:=u.V) rfl (Dp u) (zk u) (by omega) (by omega) (by decide) λh9 h2 w f6 h1 h=>?_
    have e6:(l++ [bn]).length=l.length+1:=by simp
    rw[tF,aN (by omega),<-e6];rw[tF] at c1;refine j1 (l++ [bn]) e4 e7 c8 h9 h2 _ f6 (KM++(I++y)) a7 w (by rw[e6];omega) (zt l false bn d1 (by simpa using b7.kd)) (λz hz=>?_) (yT l d bn d0 b7.sm) (λf5=>zj l bn (d3 f5) ?_) (b8.trans k0) c1 ?_ (by rw[e6];exact h1) ?_
    ·rcases lO0.1 hz with hz|hz
     ·exact c9 z hz
     ·obtain rfl:=lR0.1 hz;exact b7.ab
    ·have:=b7.fl (by rw[b8.1];exact f5);unfold BS.fq at this⊢;rw[b8.2] at this;exact this
    ·rw[wm];exact e3.append f1.one
    ·exact h.less [(W,cel u.C.toList af)]
   by_cases c5:l= []
   ·have d2:Au l= []:=by unfold Au;rw[if_pos c5]
    have ht:(aD l).tail= []:=by rw[c5];rfl
    have:=rest U O g w (by rw[d2];rw[ht] at b3;exact b3) h;refine ae (by rw[c5];rfl) ?_;rw[d2] at this;rw[ht];exact this
   ·have m4:0<l.length:=lY0.2 c5;have d2:Au l=(aD l).tail++ [[]]:=by unfold Au;rw[if_neg c5]
    refine ag (by simp;omega) ?_;have h5:(hP #[])=bs []:=rfl;rw[h5];have h:Sat σ w (g++((W,cel (a6.nd none 0 k2 E H).C.toList af)::(b4++(I++(y++(bC b q n c a7::(RM++(KM++L)))))))):=h.re
    refine Sat.appS b3 h [] (by rw[lY2];omega) λe4 e7 w c8 c1 h=>?_
    rw[<-d2] at c1⊢;exact rest e4 e7 c8 w c1 h.re
 exact g6 (m+1) [] none 0 [] none 0 [] [] [] l5 w (by simp) trivial (λz hz=>by cases hz) trivial (λ_=>trivial) i2.kp SlS.nil .nil (Sl.nil 10 af) h

def GI (d:Nat):Prop:= ∀ {σ:Out} {w:World} {L:List ai} {R:Ending->World->Prop} {b:Nat} {q:OA} {n c:Nat} {vs:List UInt8} {s:BS} (odd:Bool),Rd σ L q n vs->s.dp d->Sat σ w (bC b q n c s::L)->
 (∀w (bn:BN) (s':BS) (O:OA) (H:Nat) (y:List ai) (h:NH) (I:List ND) (U:OA) (g E:Nat) (us:List Value) (RM KM:List ai),Made (d+1) odd s bn->s.kp s'->SlS O H (bf bn) y->NdOf bn h I->NDs I us KM->Sl 10 af U g E us RM->g<=100->Sat σ w (y++(RM++(KM++(bC b q n c s'::L))))->R (hQ (.tuple #[hT O (bf bn).length H,(h.nd none 0 U g E).V])) w)->
 callE P iB #[kT (kE b),hY (d:Nat),hV odd] R w
theorem zi (n:Nat)(c:UInt8):(hN n [c]).flatten=hN n c:=by
 induction n with
 |zero=>rfl
 |succ n g=>rw[lX1,lK3,g];rfl
theorem B2 {x:Int}(g:0<=x)(y:x<=200):i64.wrap x=x:=by
 obtain⟨k,rfl⟩: ∃k:Nat,x=(k:Int):=⟨x.toNat,by omega⟩
 exact i64_in _ (by omega)
theorem DU {d:Nat}(hd:d<=3)(t6:1<=d->yJ (d - 1) 3)(n3:1<=d->GI (d - 1)):xi d:=by
 intro σ w L R b q n c vs s odd m3 g4 h t7;have h9:i64.max=9223372036854775807:=rfl;refine aY.sound ?_;refine Sat.bx h λb1 w h=>?_
 have h:Sat σ w ((b1,cel (N10.C {}).toList af)::bC b q n c s::L):=h
 have h:Sat σ w (bC b q n c s::(b1,cel (N10.C {}).toList af)::L):=h.re
 have d2:Rd σ ((b1,cel (N10.C {}).toList af)::L) q n vs:=m3.up λw h=>h.less [(b1,cel (N10.C {}).toList af)]
 refine aa ⟨_,Sat.ld h (.head _) (i:=2) rfl,aa ?_⟩;refine Sat.st h (k:=0) rfl (by show 2<5;decide) trivial rfl λw h=>?_
 have h:Sat σ w (bC b q n c {s with size:=i64.wrap (s.size+1)}::(b1,cel (N10.C {}).toList af)::L):=h
 have j0:s.kp {s with size:=i64.wrap (s.size+1)}:=⟨rfl,rfl⟩
 revert h j0;generalize ({s with size:=i64.wrap (s.size+1)}:BS)=s1;intro h j0;refine eL (k:=9) d2 (by omega) (by omega) h λw r a6 hr t4 h=>⟨_,rfl,?_⟩
 have W:s.kp a6:=j0.trans t4.kp;refine aa ⟨_,Sat.ld h (.head _) (i:=2) rfl,?_⟩;have fin: ∀(w:World) (bn:BN) (s':BS) (b3:OA) (a7:Nat) (E:List ai) (d3:NH) (f3:List ND) (g:OA) (I H:Nat) (us:List Value) (RM KM:List ai) (m1:N10) (X:List ai),Made d odd s bn->s.kp s'->SlS b3 a7 (bf bn) E->NdOf bn d3 f3->NDs f3 us KM->Sl 10 af g I H us RM->I<=100->
  Sat σ w ((b1,cel m1.C.toList af)::(X++(E++(RM++(KM++(bC b q n c s'::L))))))->st10 w b1 (d3.nd none 0 g I H) λw=>ldB10 w b1 λm=>R (hQ (.tuple #[hT b3 (bf bn).length a7,m.V])) w:=by
  intro w bn s' b3 a7 E d3 f3 g I H us RM KM m1 X U h7 b5 h8 c1 c9 e9 h;refine h.st10 0 m1 (d3.nd none 0 g I H) λw h=>?_
  have h:Sat σ w ((b1,cel (d3.nd none 0 g I H).C.toList af)::(X++(E++(RM++(KM++(bC b q n c s'::L)))))):=h
  refine h.ldB10 _ (.head _) ?_;exact t7 w bn s' b3 a7 E d3 f3 g I H us RM KM U h7 b5 h8 c1 c9 e9 (h.less ((b1,cel (d3.nd none 0 g I H).C.toList af)::X))
 have g0: ∀bn,bcB bn=none->kdOK odd bn:=λbn h c hc=>by rw[h] at hc;cases hc
 have para: ∀(w:World) (a6:BS),s.kp a6->Sat σ w (bC b q n c a6::(b1,cel (N10.C {}).toList af)::L)->aY.k4 R (kE b) (d:Nat) odd b1 false w:=by
  intro w a6 W h;refine ae rfl ?_;refine pE d2 h λw ls O b3 a7 E g I H us RM KM e7 b8 b5 c1 c9 e9 h=>⟨_,_,_,_,_,_,_,_,_,_,_,_,_,_,_,_,_,rfl,?_⟩
  refine fin w (.para ls) O b3 a7 E {kind:=6} _ g I H us RM KM {} [] ⟨e7,by simp only[smB],g0 _ rfl,λ_=>trivial⟩ (W.trans b8.kp) b5 ⟨rfl,rfl,λf b9=>?_⟩ c1 c9 (by omega) h.re;rw[tO];have:(bf (.para ls)).length=ls.length:=by simp[bf]
  rw[this]
 have m4: ∀(w:World) (O:BS) (ls:List LT) (b3:OA) (a7:Nat) (E:List ai) (b7:Nat) (g3:NH) (g:OA) (I H:Nat) (us:List Value) (RM KM X:List ai),lsA ls->(s.flat=true->ls.length=1)->s.kp O->SlS b3 a7 (ls.map cy) E->NDs (inT (ff ls)) us KM->Sl 10 af g I H us RM->I<=30->g3= {kind:=6}\/g3= {kind:=0}->
  Sat σ w (bC b q n c O::(b7,cel (g3.nd none 0 g I H).C.toList af)::(b1,cel (N10.C {}).toList af)::(E++(RM++(KM++(X++L)))))->aY.k3 R (kE b) b1 b3 (ls.map cy).length a7 b7 w:=by
  intro w O ls b3 a7 E b7 g3 g I H us RM KM X e7 e6 d0 b5 c1 c9 e9 r7 h;refine eL (k:=2) (m3.up λw h=>h.less ((b7,cel (g3.nd none 0 g I H).C.toList af)::(b1,cel (N10.C {}).toList af)::(E++(RM++(KM++X))))) (by omega) (by omega) h λw r b4 hr f2 h=>⟨_,rfl,?_⟩
  have m2:i64.wrap (1+((r:Nat):Int))=((r+1:Nat):Int):=by
   rw[i64_in _ (by omega)];omega
  rw[m2];have h:Sat σ w ((b7,cel (g3.nd none 0 g I H).C.toList af)::(b1,cel (N10.C {}).toList af)::(E++(RM++(KM++(bC b q n c b4::(X++L)))))):=h.re
  refine Sat.st h (k:=0) rfl (by show 0<10;decide) trivial rfl λw h=>?_
  refine Sat.st h (k:=0) rfl (by show 3<10;decide) trivial rfl λw h=>h.tk λw h=>?_
  have h:Sat σ w ((b7,cel (({kind:=5,num:=((r+1:Nat):Int)}:NH).nd none 0 g I H).C.toList af)::(b1,cel (N10.C {}).toList af)::(E++(RM++(KM++(bC b q n c b4::(X++L)))))):=by
   rcases r7 with rfl|rfl<;>exact h
  refine⟨((r+1:Nat):Int),Sat.ld h (.head _) (i:=3) rfl,((r+1:Nat):Int),Sat.ld h (.head _) (i:=3) rfl,?_⟩;have f6:i64.wrap (((r+1:Nat):Int) - 1)=(r:Nat):=by rw[gV (by omega) (by omega)];congr 1
  have e5:(hP #[61,45])=bs [61,45]:=rfl;rw[f6,e5];refine⟨by omega,by omega,by show ((r+1:Nat):Int)<=2;omega,?_⟩;refine h.ldB10 _ (.head _) ?_;rw[lC0,lC0,bV];obtain⟨ch,q8,q0,q1⟩: ∃ch:UInt8,(ch=61\/ch=45)/\sub [61,45] r (r+1)= [ch]/\Aw ch=r+1:=by
   rcases (show r=0\/r=1 by omega) with rfl|rfl
   ·exact⟨61,.inl rfl,rfl,rfl⟩
   ·exact⟨45,.inr rfl,rfl,rfl⟩
  have b8:List.drop r (List.take (r+1) [(61:UInt8),45])= [ch]:=q0
  rw[b8];refine uq (s:= [ch]) (n:=3) (by omega) (by simp) ⟨_,rfl,?_⟩;rw[zi];refine⟨h.same h (.head _) (.head _) 10,?_⟩;have u2:(ls.map cy).length<1000000:=by have:=e7.2.1;simp;omega
  generalize s7:(b7,cel (({kind:=5,num:=((r+1:Nat):Int)}:NH).nd none 0 g I H).C.toList af)=ch6 at h;refine h.buildS _ λf0 f1 t8 d1 c8 o3=>?_
  have i2: ∀Y:List ai,(b7,cel (({kind:=5,num:=((r+1:Nat):Int)}:NH).nd none 0 g I H).C.toList af)∈ch6::Y:=λY=>by rw[s7];exact .head _
  refine⟨h.same o3 (i2 _) (lB0 _ (i2 _)) 10,?_⟩;have p4:Sat σ t8 (E++(d1++(ch6::(b1,cel (N10.C {}).toList af)::(RM++(KM++(bC b q n c b4::(X++L))))))):=o3.re
  refine Sat.appL b5 c8 p4 (by simp) (by have v2:=e7.2.1;simp only[lS0,lF0,lM1];omega) λn2 p3 s8 o4 i1 o0=>?_
  refine⟨p4.same o0 (lB0 _ (lB0 _ (i2 _))) (lB0 _ (i2 _)) 10,?_⟩;have em:ls.map cy++ [hN 3 ch]=bf (.setx ch ls):=rfl;rw[em] at i1⊢;refine fin s8 (.setx ch ls) b4 n2 p3 o4 {kind:=5,num:=((r+1:Nat):Int)} _ g I H us RM KM {} (ch6::X) ⟨⟨q8,e7⟩,by simp only[smB],g0 _ rfl,e6⟩ (d0.trans f2.kp) i1 ⟨rfl,rfl,λf b9=>?_⟩ c1 c9 (by omega) o0.re;rw[tO,q1];have:(bf (.setx ch ls)).length=ls.length+1:=by simp[bf]
  rw[this];rfl
 have code: ∀(w:World) (O:BS) (wd:List UInt8),(wd= []\/Wa wd)->(s.flat=true->wd= [])->s.kp O->Sat σ w (bC b q n c O::(b1,cel (N10.C {}).toList af)::L)->aY.k2 R (kE b) b1 (bs wd) w:=by
  intro w O wd i0 e6 d0 h;have u8:wd.length<=4:=by
   rcases i0 with rfl|i0
   ·simp
   ·exact i0.2.2
  refine D0 d2 h λw ls b4 b3 a7 E m8 r4 e7 f2 b5 h=>⟨_,_,_,_,rfl,?_⟩
  have e5:(hP #[96,96,96])=bs [96,96,96]:=rfl;rw[e5,bM];refine⟨by rw[aI,aI,h9];simp;omega,?_⟩;refine h.buildS _ λf0 f1 w d1 c8 h=>?_
  refine Sat.appL c8 b5 h (by simpa using m8) (by simp;omega) λn2 p3 w o4 i1 h=>?_
  refine Sat.appS i1 h _ (by simp;omega) λt0 t5 w t3 n0 h=>?_
  have em: [[96,96,96]++wd]++ls.map qW++ [[96,96,96]]=bf (.code wd ls):=by simp[bf]
  rw[em] at n0⊢;refine fin w (.code wd ls) b4 t0 t5 t3 {kind:=7,title:=wd,text:=dK (ls.map qW)} [] none 0 0 [] [] [] {} [] ⟨⟨i0,m8,r4,e7⟩,by simp only[smB],g0 _ rfl,e6⟩ (d0.trans f2.kp) n0 ⟨rfl,rfl,λf b9=>?_⟩ .nil (Sl.nil 10 af) (by omega) h.re;rw[tO];have:(bf (.code wd ls)).length=ls.length+2:=by simp[bf]
  rw[this];rfl
 have m5: ∀k:Nat,k<9->(6<=k->1<=d)->aY.k1 R (kE b) (d:Nat) odd b1 (k:Nat) w:=by
  intro k u1 l5;have f5: ∀d:Nat,k≠d->(((k:Nat):Int)==((d:Nat):Int))=false:=λd hd=>by rw[uP,decide_eq_false_iff_not];omega
  rcases (show k=2\/k=3\/k=4\/k=5\/k=6\/k=7\/k=8\/k<2 by omega) with rfl|rfl|rfl|rfl|rfl|rfl|rfl|h7
  ·refine ag rfl ?_;refine eL (k:=6) d2 (by omega) (by omega) h λw r O hr b8 h=>⟨_,rfl,?_⟩
   refine vc d2 h λw x b4 lq ln lc us RM KM f4 f2 c1 b5 r1 h=>⟨_,_,_,_,rfl,?_⟩
   have m2:i64.wrap (1+((r:Nat):Int))=((r+1:Nat):Int):=by
    rw[i64_in _ (by omega)];omega
   have e5:(hP #[35])=bs [35]:=rfl;have f6:(hP #[32])=bs [32]:=rfl;have v4:=jC f4.ok.1 f4.2;rw[m2,e5,f6];refine uq (s:= [35]) (n:=r+1) (by omega) (by simp) ⟨_,rfl,?_⟩;rw[zi,bM,bM];refine⟨by rw[aI,aI,h9];simp;omega,by rw[aI,aI,h9];simp;omega,?_⟩;refine h.buildS _ λf0 f1 w d1 c8 h=>?_
   have em: [hN (r+1) 35++ [32]++cy x]=bf (.head (r+1) x):=by simp[bf]
   rw[em] at c8;refine fin w (.head (r+1) x) b4 f0 f1 d1 {kind:=5,num:=((r+1:Nat):Int)} _ lq ln lc us RM KM {} [] ⟨⟨⟨by omega,by omega⟩,f4⟩,by simp only[smB],g0 _ rfl,λ_=>trivial⟩ (W.trans (b8.kp.trans f2.kp)) c8 ⟨rfl,rfl,λf b9=>?_⟩ c1 b5 (by omega) h.re;rw[tO];rfl
  ·refine ae rfl (ag rfl ?_);have e5:(hP #[42,42,42])=bs [42,42,42]:=rfl;rw[e5];refine h.buildS _ λf0 f1 w d1 c8 h=>?_
   refine fin w .hr a6 f0 f1 d1 {kind:=9} [] none 0 0 [] [] [] {} [] ⟨trivial,by simp only[smB],g0 _ rfl,λ_=>trivial⟩ W c8 ⟨rfl,rfl,λf b9=>?_⟩ .nil (Sl.nil 10 af) (by omega) h.re;rw[tO];rfl
  ·refine ae rfl (ae rfl (ag rfl ?_));refine eL (k:=2) d2 (by omega) (by omega) h λw r O hr b8 h=>⟨_,rfl,?_⟩
   have d0:=W.trans b8.kp;have e5:(hP #[])=bs []:=rfl;rw[e5];refine bJ (λ_=>?_) λ_=>code w O [] (.inl rfl) (λ_=>rfl) d0 h
   refine aa ⟨_,Sat.ld h (.head _) (i:=3) rfl,bJ (λb9=>?_) λb9=>code w O [] (.inl rfl) (λ_=>rfl) d0 h⟩;have n1:O.flat=false:=by simpa using b9
   refine nS d2 h λw y b4 s5 f2 h=>⟨_,rfl,?_⟩
   refine code w b4 y (.inr s5) (λe6=>?_) (d0.trans f2.kp) h;rw[d0.1,e6] at n1;cases n1
  ·refine ae rfl (ae rfl (ae rfl (ag rfl ?_)));refine pE d2 h λw ls O b3 a7 E g I H us RM KM e7 b8 b5 c1 c9 e9 h=>⟨_,_,_,_,_,_,_,_,_,_,_,_,_,_,_,_,_,rfl,?_⟩
   have d0:=W.trans b8.kp;refine Sat.bx h λb7 w h=>?_
   have h:Sat σ w ((b7,cel (N10.C {}).toList af)::(E++(RM++(KM++(bC b q n c O::(b1,cel (N10.C {}).toList af)::L))))):=h
   refine h.st10 0 {} (({kind:=6}:NH).nd none 0 g I H) λw h=>?_
   have h:Sat σ w ((b7,cel (({kind:=6}:NH).nd none 0 g I H).C.toList af)::(E++(RM++(KM++(bC b q n c O::(b1,cel (N10.C {}).toList af)::L))))):=h
   have h:Sat σ w (bC b q n c O::(b7,cel (({kind:=6}:NH).nd none 0 g I H).C.toList af)::(b1,cel (N10.C {}).toList af)::(E++(RM++(KM++([]++L))))):=h.re
   refine aa ⟨_,Sat.ld h (.head _) (i:=3) rfl,bJ (λb9=>?_) λb9=>?_⟩
   ·refine vc (m3.up λw h=>h.less ((b7,cel (({kind:=6}:NH).nd none 0 g I H).C.toList af)::(b1,cel (N10.C {}).toList af)::(E++(RM++KM)))) h λw x b4 lq ln lc r5 i8 i3 f4 f2 r3 g1 r1 h=>⟨_,_,_,_,rfl,?_⟩
    refine h.buildS _ λf0 f1 w d1 c8 h=>?_
    have h:Sat σ w ((b7,cel (({kind:=6}:NH).nd none 0 g I H).C.toList af)::bC b q n c b4::(b1,cel (N10.C {}).toList af)::(d1++(i8++(i3++((E++(RM++KM))++L))))):=h.re
    refine h.st10 0 (({kind:=6}:NH).nd none 0 g I H) {q7:=lq,n7:=ln,c7:=lc} λw h=>?_
    have h:Sat σ w ((b7,cel (({kind:=0}:NH).nd none 0 lq ln lc).C.toList af)::bC b q n c b4::(b1,cel (N10.C {}).toList af)::(d1++(i8++(i3++((E++(RM++KM))++L))))):=h
    exact m4 w b4 [x] f0 f1 d1 b7 {kind:=0} lq ln lc r5 i8 i3 (E++(RM++KM)) ⟨by simp,by simp,λz hz=>by obtain rfl:=lR0.1 hz;exact f4⟩ (λ_=>rfl) (d0.trans f2.kp) c8 r3 g1 (by omega) (.inr rfl) h.re
   ·refine m4 w O ls b3 a7 E b7 {kind:=6} g I H us RM KM [] e7 (λe6=>?_) d0 b5 c1 c9 e9 (.inl rfl) h;rw[d0.1,e6] at b9;cases b9
  ·refine ae rfl (ae rfl (ae rfl (ae rfl (ag rfl ?_))));have g2:=l5 (by omega);have g7:i64.wrap (((d:Nat):Int) - 1)=((d - 1:Nat):Int):=by rw[gV (by omega) (by omega)]
   have p5:=W.dp g4;obtain⟨v3,p2⟩:=p5;refine aa ⟨_,Sat.ld h (.head _) (i:=4) rfl,aa ?_⟩;rw[g7,B2 (by omega) (by omega)];refine Sat.st h (k:=0) rfl (by show 4<5;decide) trivial rfl λw h=>?_
   have h:Sat σ w (bC b q n c {a6 with deep:=a6.deep+1}::(b1,cel (N10.C {}).toList af)::L):=h
   refine t6 g2 d2 ⟨by show 0<=a6.deep+1;omega,by show a6.deep+1+((d - 1:Nat):Int)<=100;omega⟩ h λw l O b3 a7 E g H us RM KM U b8 b5 c1 c9 h=>⟨_,_,_,_,_,_,rfl,?_⟩
   have r6:O.deep=a6.deep+1:=b8.2;have h:Sat σ w (bC b q n c O::(b1,cel (N10.C {}).toList af)::(E++(RM++(KM++L)))):=h.re
   refine aa ⟨_,Sat.ld h (.head _) (i:=4) rfl,aa ?_⟩;rw[r6,B2 (by omega) (by omega)];refine Sat.st h (k:=0) rfl (by show 4<5;decide) trivial rfl λw h=>?_
   have h:Sat σ w (bC b q n c {O with deep:=a6.deep+1 - 1}::(b1,cel (N10.C {}).toList af)::(E++(RM++(KM++L)))):=h
   have k0:s.kp {O with deep:=a6.deep+1 - 1}:=⟨b8.1.trans W.1,by show a6.deep+1 - 1=s.deep;have:=W.2;omega⟩
   revert h k0;generalize ({O with deep:=a6.deep+1 - 1}:BS)=b4;intro h k0;obtain⟨bl1,bl2,bl3⟩:=sd (by omega) U.ab U.sm U.ne (by have:=U.len;omega);intro X o2;have r8: ∀k i g5 g6 h4 w,i+k=(aD l).tail.length->SlS g5 g6 (((aD l).tail.take i).map λs=>62::32::s) h4->Sat σ w (h4++(E++(bC b q n c b4::(b1,cel (N10.C {}).toList af)::(RM++(KM++L)))))->X b1 g l.length H g5 (((aD l).tail.take i).map λs=>62::32::s).length g6 b3 (aD l).tail.length a7 ((aD l).tail.length:Nat) (i:Nat) w:=by
    intro k
    induction k with
    |zero=>
     intro i g5 g6 h4 w h7 g1 h;obtain rfl:i=(aD l).tail.length:=h7;refine o2 _ _ _ _ _ _ _ _ _ _ _ _ _ (ae (by simp) ?_);rw[lT2] at g1⊢;refine fin w (.quote l) b4 g5 g6 h4 {kind:=2} (oT 1 l) g l.length H us RM KM {} E ⟨⟨U.ne,U.ab⟩,?_,g0 _ rfl,λe6=>?_⟩ k0 g1 ⟨rfl,rfl,λf b9=>?_⟩ c1 c9 (by have:=U.len;omega) h.re
     ·simp only[smB];exact⟨g2,U.len,U.sm⟩
     ·have:=U.fl (by show a6.flat=true;rw[W.1];exact e6);have e:BS.fq {a6 with deep:=a6.deep+1}=true:=by
       unfold BS.fq;rw[decide_eq_true_eq]
       show 0<a6.deep+1
       omega
      rw[e] at this;exact this
     ·rw[tO];have:(bf (.quote l)).length=(aD l).tail.length:=by simp[bf]
      rw[this]
    |succ k t2=>
     intro i g5 g6 h4 w h7 g1 h;have j1:i<(aD l).tail.length:=by omega
     obtain⟨a,rfl,s9⟩:=b5.get j1;refine o2 _ _ _ _ _ _ _ _ _ _ _ _ _ (ag (by rw[decide_eq_true_eq];omega) ⟨by omega,by omega,aa ?_⟩);rw[lC0,lD1];have t9:=bl2 _ (lP1 j1);refine⟨_,s9 h (λx f4=>lB0 _ (lE1 _ f4)),?_⟩;have e5:(hP #[62,32])=bs [62,32]:=rfl;rw[e5,bM];refine⟨by rw[aI,aI,h9];simp only[lF0,lM1];omega,?_⟩;refine Sat.appS g1 h _ (by rw[lS0];have:=List.length_take_le i (aD l).tail;omega) λf0 f1 w d1 c8 h=>?_
     have r9:(((aD l).tail.take i).map λs=>62::32::s)++ [[62,32]++(aD l).tail[i]]=((aD l).tail.take (i+1)).map λs=>62::32::s:=by
      rw[lF1 j1,lV0];rfl
     rw[r9] at c8⊢;rw[aN (by omega)];exact t2 (i+1) f0 f1 d1 w (by omega) c8 h
   exact r8 (aD l).tail.length 0 none 0 [] w (by omega) SlS.nil h.re
  ·have g2:=l5 (by omega);have g7:i64.wrap (((d:Nat):Int) - 1)=((d - 1:Nat):Int):=by rw[gV (by omega) (by omega)]
   refine ae rfl (ae rfl (ae rfl (ae rfl (ae rfl (ag rfl (ag rfl ?_))))));rw[g7];refine n3 g2 odd d2 ⟨(W.dp g4).1,by have:=(W.dp g4).2;omega⟩ h λw bn O b3 a7 E d3 f3 g I H us RM KM U b8 b5 h8 c1 c9 e9 h=>⟨_,_,_,_,_,_,_,_,_,_,_,_,_,_,_,_,_,rfl,?_⟩
   have f6:d - 1+1=d:=by omega
   refine fin w bn O b3 a7 E d3 f3 g I H us RM KM {} [] ⟨U.ab,by have:=U.sm;rwa [f6] at this,U.kd,λb9=>?_⟩ (W.trans b8) b5 h8 c1 c9 e9 h.re;have:=U.fl (by rw[W.1];exact b9);unfold BS.fq at this⊢;rw[W.2] at this;exact this
  ·have g2:=l5 (by omega);have g7:i64.wrap (((d:Nat):Int) - 1)=((d - 1:Nat):Int):=by rw[gV (by omega) (by omega)]
   refine ae rfl (ae rfl (ae rfl (ae rfl (ae rfl (ae rfl (ag rfl ?_))))));rw[g7];refine n3 g2 odd d2 ⟨(W.dp g4).1,by have:=(W.dp g4).2;omega⟩ h λw bn O b3 a7 E d3 f3 g I H us RM KM U b8 b5 h8 c1 c9 e9 h=>⟨_,_,_,_,_,_,_,_,_,_,_,_,_,_,_,_,_,rfl,?_⟩
   have f6:d - 1+1=d:=by omega
   refine fin w bn O b3 a7 E d3 f3 g I H us RM KM {} [] ⟨U.ab,by have:=U.sm;rwa [f6] at this,U.kd,λb9=>?_⟩ (W.trans b8) b5 h8 c1 c9 e9 h.re;have:=U.fl (by rw[W.1];exact b9);unfold BS.fq at this⊢;rw[W.2] at this;exact this
  ·have s6:(((k:Nat):Int)==8)=false:=f5 8 (by omega)
   refine ae (f5 2 (by omega)) (ae (f5 3 (by omega)) (ae (f5 4 (by omega)) (ae (f5 5 (by omega)) (ae (f5 6 (by omega)) (ae (f5 7 (by omega)) ?_)))));rw[s6];exact para w a6 W h
 refine bJ (λ_=>m5 0 (by omega) (by omega)) λhc=>m5 r hr λv0=>?_
 simp only[lI2,lX3,decide_eq_false_iff_not] at hc;omega

theorem Sat.appL0 {q V:OA}{c U:Nat}{ls E:List (List UInt8)}{M b8:List ai}(W:SlS q c ls M)(b3:SlS V U E b8)(h:Sat σ w (M++(b8++L)))(c1:ls≠ [])(a6:ls.length+E.length<1000000){K:OA->Nat->Nat->World->Prop}(I: ∀y g H O,SlS y g (ls++E) O->Sat σ H (O++L)->K y (ls++E).length g H):
 ∃(y:OA),∃(b6:Nat),∃(g:Nat),∃b5,(Builtin.append_ #[ak,ak] ak #[hT q ls.length c,hT V E.length U]).run P w= .ok (hT y b6 g) b5/\K y b6 g b5:=by
 by_cases b7:E= []
 ·subst b7;have d0:0<ls.length:=lY0.2 c1;have c8:q≠none:=by
   rintro rfl
   obtain⟨_,_,⟨_,b9,_⟩|⟨b,sp,b9,_⟩⟩:=W
   ·omega
   ·cases b9
  obtain⟨c9,c3,c5⟩:=b3;have hs:Src P 1 ak (hT V 0 U) 0 [] w:=by
   rcases c5 with ⟨rfl,_,rfl,rfl⟩|⟨b,sp,rfl,rfl,c3⟩
   ·exact Src.ofNil w rowStr.ht 0
   ·exact Src.ofSlice w rowStr.ht _ _ U _ (by simp) (λj u a7=>by simp at a7) λu a7=>by cases a7
  obtain⟨y,g,H,O,hr,b4,c4,_⟩:=Sat.app rowStr (ty:=ak) W h hs (.inr c8) (by simp at a6;omega) (by simp at a6;omega);refine⟨y,_,g,H,hr,?_⟩;have I:=I y g H O;rw[lG0] at I;rw[lG0] at b4;exact I b4 (c4.sub (List.Sublist.append_left (lH3 _ _) _))
 ·exact Sat.appL W b3 h b7 a6 I
theorem Sat.appG {t ty e b6:TypeId}{sz bytes:Nat}(r:Row P t e sz bytes){q:OA}{n c b:Nat}{us H:List Value}{M:List ai}(b4:Sl sz e q n c us M)(h:Sat σ w (M++((b,cel H b6)::L)))(b5:H.length=1*sz)(W: ∀u∈H,u.oneCell'=true)(hb:(n+1)*bytes<=140737488355328)(b7:n+1<4611686018427387904){K:OA->Nat->Nat->World->Prop}(a7: ∀g y E I,Sl sz e g (n+1) y (us++H) I->Sat σ E (I++L)->K g (n+1) y E):
 ∃(g:OA),∃(O:Nat),∃(y:Nat),∃U,(Builtin.append_ #[t,t] ty #[hT q n c,hT (kE b) 1 1]).run P w= .ok (hT g O y) U/\K g O y U:=by
 have hs:Src P sz t (hT (kE b) 1 1) 1 H w:=by
  refine Src.ofSlice w r.ht _ 1 1 _ b5 (λj u b3=>?_) W;rw[show (Addr.add (hZ b 0) j)=⟨b,j,none⟩ from Addr.add_zero_lit b j];exact h.ld (lB0 _ (.head _)) b3
 obtain⟨g,y,E,I,hr,V,a6,_⟩:=Sat.app r (ty:=ty) b4 h hs (.inl (by omega)) hb b7;refine⟨g,n+1,y,E,hr,a7 g y E I V ?_⟩;exact a6.sub (List.Sublist.append_left (lR3 ..) _)
theorem Sat.appNd {q:OA}{n c b:Nat}{us:List Value}{M:List ai}(V:Sl 10 af q n c us M){v:N10}(h:Sat σ w (M++((b,cel v.C.toList af)::L)))(W:n<1000000){K:OA->Nat->Nat->World->Prop}(U: ∀y g E I,Sl 10 af y (n+1) g (us++v.C.toList) I->Sat σ E (I++L)->K y (n+1) g E):
 ∃(y:OA),∃(H:Nat),∃(g:Nat),∃O,(Builtin.append_ #[au,au] au #[hT q n c,hT (kE b) 1 1]).run P w= .ok (hT y H g) O/\K y H g O:=
 Sat.appG rowND V h rfl (Dp v) (by omega) (by omega) U
theorem SlS.tail {q:OA}{c:Nat}{x:List UInt8}{ls:List (List UInt8)}{M:List ai}(E:SlS q c (x::ls) M)(g: ∀U∈M,U∈L):SArg σ L (if c=1 then q else q.map (·.add (1*rowStr.i.size))) ls.length ls:=by
 obtain⟨V,I,H⟩:=E;rcases H with ⟨_,O,_⟩|⟨b,sp,rfl,rfl,W⟩
 ·simp at O
 refine⟨rfl,λi hi=>?_⟩;have hc:c≠1:=by simp only[lF0] at I;omega
 rw[if_neg hc,rowStr.hs];refine⟨⟨b,1,none⟩,rfl,λw h=>?_⟩;rw[show (Addr.add (hZ b 1) i)=⟨b,1+i,none⟩ from lK0 ..];refine h.ld (g _ (.head _)) ?_;rw[lQ4,lM0 (by rw[j6];simp;omega)];have:=tB (ts:=x::ls) (j:=i+1) (by simp;omega)
 simpa using this

abbrev jU (q:OA)(n c:Nat):N10:=({kind:=4}:NH).nd none 0 q n c
abbrev je (num:Int)(ch:UInt8)(lo:Bool)(q:OA)(n c:Nat):N10:=({kind:=3,num:=num,char:= [ch],loose:=lo}:NH).nd none 0 q n c
abbrev ndC (b:Nat)(v:N10):ai:=(b,cel v.C.toList af)
def tG (ch:UInt8)(gap:Bool)(num:Nat)(its:List (List BN)):List (List UInt8):=cZ ch gap num its++(if gap && !its.isEmpty then [[]] else [])
theorem Dm (ch:UInt8)(gap:Bool)(num:Nat)(its:List (List BN)):(tG ch gap num its).length=(cZ ch gap num its).length+(gap && !its.isEmpty).toNat:=by
 unfold tG;rw[lA0];split
 ·rename_i h;rw[h];rfl
 ·rename_i h;have h:(gap && !its.isEmpty)=false:=by simpa using h
  rw[h];rfl
theorem zL (ch:UInt8)(gap:Bool)(num:Nat)(its:List (List BN))(it:List BN){x:List UInt8}{r:List (List UInt8)}(h:(aD it).tail=x::r):
 (tG ch gap num its++ [mkI ch (num+its.length)++x])++r.map (λs=>if s= [] then [] else hN (mkI ch (num+its.length)).length 32++s)=cZ ch gap num (its++ [it]):=by
 rw[xY,h];unfold tG itL;simp only[lD0,List.headD_cons,List.tail_cons,lR2];rfl
structure MkP (odd:Bool) (ch:UInt8) (num:Nat) (numI:Int):Prop where
 ch_:if odd then ch=43\/ch=41 else ch=45\/ch=46
 num_:numI=if ch=46\/ch=41 then ((num:Nat):Int) else -1
 le:num<=30
theorem MkP.ch4 {odd:Bool}{ch:UInt8}{num:Nat}{numI:Int}(h:MkP odd ch num numI):ch=45\/ch=43\/ch=46\/ch=41:=by
 have:=h.ch_;cases odd
 ·rcases this with h|h
  ·exact .inl h
  ·exact .inr (.inr (.inl h))
 ·rcases this with h|h
  ·exact .inr (.inl h)
  ·exact .inr (.inr (.inr h))
theorem BM {d m:Nat}{odd loose:Bool}{ch:UInt8}{num:Nat}{numI:Int}{b b1 E O:Nat}{q:OA}{n c:Nat}{a7:BS}{X:OA->Int->Bool->Nat->Nat->Bool->OA->Nat->Nat->Int->Int->WP}(hd:d<=3)(q1:m<=5)(c9:MkP odd ch num numI){its:List (List BN)}{it:List BN}(n3:its.length<=3)(p3:(cZ ch loose num its).length<=2000)(l5: ∀x∈its,(aD x).tail≠ [])(m5:abS it)(i3:it≠ [])(q8:it.length<=2)(h8:smS d it){b8:OA}{b7:Nat}{b4:List ai}{U:OA}{W:Nat}{us:List Value}{RM KM:List ai}(e3:SlS b8 b7 (cZ ch loose num its) b4)(k0:NDs (BJ loose its) us KM)(n1:Sl 10 af U its.length W us RM){b6:OA}{b5:Nat}{f0:List Value}{H I:List ai}{d3:OA}{c1:Nat}{a6 g:List ai}(f1:SlS d3 c1 (aD it).tail a6)(h9:NDs (oT 1 it) f0 I)(i8:Sl 10 af b6 it.length b5 f0 H)(h:Sat σ w (bC b q n c a7::ndC E (je numI ch (lz loose its||decide (2<=it.length)) U its.length W)::ndC O (jU b6 it.length b5)::(b4++(RM++(KM++(a6++(H++(I++(g++L)))))))))(next: ∀(w:World) (b8:OA) (b7:Nat) (b4:List ai) (U:OA) (W:Nat) (us:List Value) (RM KM:List ai),SlS b8 b7 (cZ ch loose num (its++ [it])) b4->NDs (BJ loose (its++ [it])) us KM->Sl 10 af U (its++ [it]).length W us RM->
  Sat σ w (bC b q n c a7::ndC E (je numI ch (lz loose (its++ [it])) U (its++ [it]).length W)::(b4++(RM++(KM++L))))->X (kE b) (d:Nat) odd b1 E loose b8 (cZ ch loose num (its++ [it])).length b7 ((m:Nat):Int) (((its++ [it]).length:Nat):Int) w){h4:Int}(h7:h4=((d:Nat):Int)):
 aB.k6 R X (kE b) h4 odd b1 E loose b8 (cZ ch loose num its).length b7 ((its.length:Nat):Int) O d3 (aD it).tail.length c1 ((m:Nat):Int) ((its.length:Nat):Int) w:=by
 subst h7;have e7:i64.max=9223372036854775807:=rfl;obtain⟨g2,f3,i2⟩:=sd hd m5 h8 i3 (by omega);obtain⟨o3,o2,o0⟩:=Er (num:=num+its.length) c9.ch4 (by have:=c9.le;omega);have i0:=Dm ch loose num its;have p1:(loose && !its.isEmpty).toNat<=1:=by cases (loose && !its.isEmpty)<;>decide
 have k9: ∀(w:World) (b8:OA) (b7:Nat) (b4 g:List ai),SlS b8 b7 (tG ch loose num its) b4->Sat σ w (bC b q n c a7::ndC E (je numI ch (lz loose (its++ [it])) U its.length W)::ndC O (jU b6 it.length b5)::(b4++(RM++(KM++(a6++(H++(I++(g++L))))))))->
  aB.k9 R X (kE b) (d:Nat) odd b1 E loose b8 (tG ch loose num its).length b7 O d3 (aD it).tail.length c1 (bs (mkI ch (num+its.length))) ((m:Nat):Int) ((its.length:Nat):Int) w:=by
  intro w b8 b7 b4 g e3 h;have m2:i64.wrap (((tG ch loose num its).length:Int)+1)=(((tG ch loose num its).length+1:Nat):Int):=by rw[aN (by omega)]
  have m6:i64.wrap (((tG ch loose num its).length:Int)+((aD it).tail.length:Int))=(((tG ch loose num its).length+(aD it).tail.length:Nat):Int):=by
   rw[i64_in _ (by omega)];omega
  unfold aB.k9;rw[m2,m6];have h:Sat σ w (ndC O (jU b6 it.length b5)::bC b q n c a7::ndC E (je numI ch (lz loose (its++ [it])) U its.length W)::(b4++(RM++(KM++(a6++(H++(I++(g++L)))))))):=h.re
  refine Sat.st h (k:=0) rfl (by show 8<10;decide) trivial rfl λw h=>?_
  refine Sat.st h (k:=0) rfl (by show 9<10;decide) trivial rfl λw h=>?_
  have h:Sat σ w (ndC O (({kind:=4,s:=(tG ch loose num its).length+1,e:=(tG ch loose num its).length+(aD it).tail.length}:NH).nd none 0 b6 it.length b5)::bC b q n c a7::ndC E (je numI ch (lz loose (its++ [it])) U its.length W)::(b4++(RM++(KM++(a6++(H++(I++(g++L)))))))):=h
  have f5:NodeDt (lawI ((cZ ch loose num its).length+(loose && !its.isEmpty).toNat) it) (({kind:=4,s:=(tG ch loose num its).length+1,e:=(tG ch loose num its).length+(aD it).tail.length}:NH).nd none 0 b6 it.length b5) (H++I):=by
   rw[<-i0];exact⟨_,oT 1 it,none,0,b6,it.length,b5,f0,H,I,rfl,rfl,rfl,by omega,h9,i8⟩
  revert h f5;generalize ({kind:=4,s:=(tG ch loose num its).length+1,e:=(tG ch loose num its).length+(aD it).tail.length}:NH).nd none 0 b6 it.length b5=u;intro h f5;obtain⟨x,r,g3⟩:=lA1 i2;have h5:=zL ch loose num its it g3;rw[g3] at f1 g2 f3⊢;have o4:=f3 x (.head _);simp only[lF0] at g2;obtain⟨a,rfl,h6⟩:=f1.get (i:=0) (by simp);refine⟨by decide,by simp only[lF0];omega,aa ?_⟩;refine⟨bs x,h6 h (λy f4=>by simp only[lX0,lO0];simp[f4]),?_⟩;rw[bM];refine⟨by rw[aI,aI,e7];omega,?_⟩;have h:Sat σ w (b4++(ndC O u::bC b q n c a7::ndC E (je numI ch (lz loose (its++ [it])) U its.length W)::(RM++(KM++(a6++(H++(I++(g++L)))))))):=h.re
  refine Sat.appS e3 h _ (by omega) λg5 g7 w b9 d1 h=>h.tk λw h=>?_
  refine⟨_,_,_,λw=>yU rowStr.ht rowStr.hi _ _ c1 1 (by simp) w,?_⟩;have j0:=SlS.tail (σ:=σ) (L:=a6++(b9++(ndC O u::bC b q n c a7::ndC E (je numI ch (lz loose (its++ [it])) U its.length W)::(RM++(KM++(H++(I++(g++L)))))))) f1 (λy f4=>lE1 _ f4)
  have h:Sat σ w (a6++(b9++(ndC O u::bC b q n c a7::ndC E (je numI ch (lz loose (its++ [it])) U its.length W)::(RM++(KM++(H++(I++(g++L)))))))):=h.re
  rw[aI];refine Eo (by omega) ⟨_,rfl,?_⟩;refine yd (c:=c1 - 1) j0 (by simp;omega) (λl n2=>by have:=f3 l (.tail _ n2);omega) (by omega) h λw p5 q0 n0 i1 h=>⟨_,_,_,rfl,?_⟩
  have h:Sat σ w (b9++(n0++(a6++(ndC O u::bC b q n c a7::ndC E (je numI ch (lz loose (its++ [it])) U its.length W)::(RM++(KM++(H++(I++(g++L))))))))):=h.re
  have em:r.length=(r.map λs=>if s= [] then [] else hN (mkI ch (num+its.length)).length 32++s).length:=by simp
  rw[em];refine Sat.appL0 d1 i1 h (by simp) (by rw[lA0,<-em];simp only[lE0];omega) λj1 m8 w e5 g4 h=>?_
  rw[h5] at g4⊢;have h:Sat σ w (RM++(ndC E (je numI ch (lz loose (its++ [it])) U its.length W)::ndC O u::bC b q n c a7::(e5++(KM++(a6++(H++(I++(g++L)))))))):=h.re
  refine⟨U,its.length,W,Sat.ld h (lB0 _ (.head _)) (i:=7) rfl,?_⟩;refine h.ldB10 u (lB0 _ (.tail _ (.head _))) ?_;refine Sat.app1 rowND n1 h (v:=u.V) rfl (Dp u) (zk u) (by omega) (by omega) (by decide) λh0 h1 w f2 g1 h=>?_
  have h:Sat σ w (ndC E (je numI ch (lz loose (its++ [it])) U its.length W)::bC b q n c a7::(e5++(f2++((KM++(H++I))++(ndC O u::(a6++(g++L))))))):=h.re
  refine Sat.st h (k:=0) rfl (by show 7<10;decide) trivial rfl λw h=>?_
  have h:Sat σ w (ndC E (je numI ch (lz loose (its++ [it])) h0 (its.length+1) h1)::bC b q n c a7::(e5++(f2++((KM++(H++I))++(ndC O u::(a6++(g++L))))))):=h
  have g6:(its++ [it]).length=its.length+1:=by simp
  rw[aN (by omega),<-g6];rw[<-g6] at h g1;refine next w j1 m8 e5 h0 h1 _ f2 (KM++(H++I)) g4 ?_ g1 ?_
  ·rw[BI loose ch its num it l5];exact k0.append f5.one
  ·exact h.less (ndC O u::(a6++g))
 have k7: ∀w,Sat σ w (bC b q n c a7::ndC E (je numI ch (lz loose its||decide (2<=it.length)) U its.length W)::ndC O (jU b6 it.length b5)::(b4++(RM++(KM++(a6++(H++(I++(g++L))))))))->
  aB.k7 R X (kE b) (d:Nat) odd b1 E loose b8 (cZ ch loose num its).length b7 ((its.length:Nat):Int) O d3 (aD it).tail.length c1 (bs (mkI ch (num+its.length))) ((m:Nat):Int) ((its.length:Nat):Int) w:=by
  intro w h;have m4:((decide (((its.length:Nat):Int)>0)) && loose)=(loose && !its.isEmpty):=by
   cases its with
   |nil=>cases loose<;>rfl
   |cons y l=>
    have:decide ((((y::l).length:Nat):Int)>0)=true:=by rw[decide_eq_true_eq];simp only[lF0];omega
    rw[this];cases loose<;>rfl
  show aB.k8 R X _ _ _ _ _ _ _ _ _ _ _ _ _ _ _ _ ((decide (((its.length:Nat):Int)>0)) && loose) w
  rw[m4];have d2:=Fi loose its it
  by_cases c8:(loose && !its.isEmpty)=true
  ·have e6:tG ch loose num its=cZ ch loose num its++ [[]]:=by unfold tG;rw[if_pos c8]
   rw[c8] at d2⊢;refine ag rfl ?_;have g0:(hP #[])=bs []:=rfl;rw[g0];have h:Sat σ w (b4++(ndC E (je numI ch (lz loose its||decide (2<=it.length)) U its.length W)::bC b q n c a7::ndC O (jU b6 it.length b5)::(RM++(KM++(a6++(H++(I++(g++L)))))))):=h.re
   refine Sat.appS e3 h [] (by omega) λg5 g7 w b9 d1 h=>?_
   have h:Sat σ w (ndC E (je numI ch (lz loose its||decide (2<=it.length)) U its.length W)::bC b q n c a7::ndC O (jU b6 it.length b5)::(b9++(RM++(KM++(a6++(H++(I++(g++L)))))))):=h.re
   refine Sat.st h (k:=0) rfl (by show 5<10;decide) trivial rfl λw h=>?_
   have f6:lz loose (its++ [it])=true:=by rw[d2];simp
   have h:Sat σ w (ndC E (je numI ch (lz loose (its++ [it])) U its.length W)::bC b q n c a7::ndC O (jU b6 it.length b5)::(b9++(RM++(KM++(a6++(H++(I++(g++L)))))))):=by rw[f6];exact h
   rw[<-e6] at d1⊢;exact k9 w g5 g7 b9 g d1 h.re
  ·have c8:(loose && !its.isEmpty)=false:=by simpa using c8
   have e6:tG ch loose num its=cZ ch loose num its:=by unfold tG;rw[c8];simp
   rw[c8] at d2⊢;refine ae rfl ?_;have f6:(lz loose its||decide (2<=it.length))=lz loose (its++ [it]):=by rw[d2];simp
   rw[f6] at h;have:=k9 w b8 b7 b4 g (by rw[e6];exact e3) h;rw[e6] at this;exact this
 have g0:(hP #[32])=bs [32]:=rfl;unfold aB.k6;rw[g0];refine⟨bs [ch],Sat.ld h (.tail _ (.head _)) (i:=4) rfl,by rw[aI,aI,e7];simp,numI,Sat.ld h (.tail _ (.head _)) (i:=3) rfl,?_⟩;rw[bM]
 by_cases e4:ch=46\/ch=41
 ·have d0:numI=((num:Nat):Int):=by rw[c9.num_,if_pos e4]
  have e2:mkI ch (num+its.length)=CZ (num+its.length)++([ch]++ [32]):=by unfold mkI;rw[if_pos e4];rfl
  have p4:=c9.le;refine ag (by rw[d0];simp) ⟨numI,Sat.ld h (.tail _ (.head _)) (i:=3) rfl,?_⟩;have m3:i64.wrap (numI+((its.length:Nat):Int))=((num+its.length:Nat):Int):=by
   rw[d0,i64_in _ (by omega)];omega
  rw[m3];refine Ag (by omega) ⟨_,rfl,?_⟩;have m1:=congrArg List.length e2;rw[lA0] at m1;refine⟨by rw[aI,aI,e7];omega,?_⟩;rw[bM,<-e2];exact k7 w h
 ·have d0:numI= -1:=by rw[c9.num_,if_neg e4]
  have e2:mkI ch (num+its.length)= [ch]++ [32]:=by unfold mkI;rw[if_neg e4];rfl
  refine ae (by rw[d0];rfl) ?_;rw[<-e2];exact k7 w h

theorem ym {u v:N10}{O E g:Nat}{o12:Obj}{c9 b3 Z:List ai}{g0 f0:OA}{g3 f1:Nat}{l1 a6:List (List UInt8)}(i1:SlS g0 g3 l1 c9)(f6:SlS f0 f1 a6 b3)(e4:(l1++ [[]]).length+a6.length<1000000)(g4:a6≠ [])(u1:Sl 10 af (kE O) 1 1 u.C.toList [ndC O u])(h:Sat σ w (c9++(b3++([ndC O u]++(ndC E v::(g,o12)::Z))))){K:OA->Nat->Nat->OA->Nat->Nat->World->Prop}(fin: ∀w d2 cf d0 d3 d1 g2 (Y:List ai),SlS d2 cf (l1++ [[]]++a6) d0->Sl 10 af d3 2 d1 (u.C.toList++v.C.toList) g2->Sat σ w (g2++(d0++(Y++(ndC E v::(g,o12)::Z))))->K d3 2 d1 d2 (l1++ [[]]++a6).length cf w):
 (∃(h9:OA),∃(g7:Nat),∃(h7:Nat),∃c3,(Instr.buildSlice ak 1 #[(0,hX (bs []))]).run P w= .ok (hT h9 g7 h7) c3/\
 SameC w c3 (hZ E 0) 10/\
 SameC w c3 (hZ g 7) 1/\
 (∃(h6:OA),∃(h8:Nat),∃(h0:Nat),∃b7,(Builtin.append_ #[ak,ak] ak #[hT g0 l1.length g3,hT h9 g7 h7]).run P c3= .ok (hT h6 h8 h0) b7/\
 SameC c3 b7 (hZ E 0) 10/\
 SameC c3 b7 (hZ g 7) 1/\
 (∃(q4:OA),∃(s2:Nat),∃(m2:Nat),∃e5,(Builtin.append_ #[ak,ak] ak #[hT h6 h8 h0,hT f0 a6.length f1]).run P b7= .ok (hT q4 s2 m2) e5/\
 SameC b7 e5 (hZ E 0) 10/\
 SameC b7 e5 (hZ g 7) 1/\
 ∃(m5:OA),∃(j0:Nat),∃(o0:Nat),∃i0,(Instr.buildSlice au 1 #[(0,v.V)]).run P e5= .ok (hT m5 j0 o0) i0/\
 SameC e5 i0 (hZ g 7) 1/\
 ∃(p5:OA),∃(t4:Nat),∃(s4:Nat),∃t7,(Builtin.append_ #[au,au] au #[hT (kE O) 1 1,hT m5 j0 o0]).run P i0= .ok (hT p5 t4 s4) t7/\
 K p5 t4 s4 q4 s2 m2 t7)/\
 (∃(n0:OA),∃(o4:Nat),∃(s3:Nat),∃e7,(Instr.buildSlice au 1 #[(0,v.V)]).run P b7= .ok (hT n0 o4 s3) e7/\
 SameC b7 e7 (hZ g 7) 1/\
 ∃(s8:OA),∃(j1:Nat),∃(p4:Nat),∃f4,(Builtin.append_ #[ak,ak] ak #[hT h6 h8 h0,hT f0 a6.length f1]).run P e7= .ok (hT s8 j1 p4) f4/\
 SameC e7 f4 (hZ E 0) 10/\
 SameC e7 f4 (hZ g 7) 1/\
 ∃(s5:OA),∃(m3:Nat),∃(t0:Nat),∃t6,(Builtin.append_ #[au,au] au #[hT (kE O) 1 1,hT n0 o4 s3]).run P f4= .ok (hT s5 m3 t0) t6/\
 K s5 m3 t0 s8 j1 p4 t6))/\
 (∃(m4:OA),∃(m6:Nat),∃(q8:Nat),∃e6,(Instr.buildSlice au 1 #[(0,v.V)]).run P c3= .ok (hT m4 m6 q8) e6/\
 SameC c3 e6 (hZ g 7) 1/\
 ∃(q0:OA),∃(n2:Nat),∃(m1:Nat),∃e2,(Builtin.append_ #[ak,ak] ak #[hT g0 l1.length g3,hT h9 g7 h7]).run P e6= .ok (hT q0 n2 m1) e2/\
 SameC e6 e2 (hZ E 0) 10/\
 SameC e6 e2 (hZ g 7) 1/\
 ∃(m8:OA),∃(p1:Nat),∃(t3:Nat),∃f2,(Builtin.append_ #[ak,ak] ak #[hT q0 n2 m1,hT f0 a6.length f1]).run P e2= .ok (hT m8 p1 t3) f2/\
 SameC e2 f2 (hZ E 0) 10/\
 SameC e2 f2 (hZ g 7) 1/\
 ∃(o3:OA),∃(r6:Nat),∃(r4:Nat),∃t5,(Builtin.append_ #[au,au] au #[hT (kE O) 1 1,hT m4 m6 q8]).run P f2= .ok (hT o3 r6 r4) t5/\
 K o3 r6 r4 m8 p1 t3 t5))/\
 (∃(p3:OA),∃(r1:Nat),∃(k0:Nat),∃e8,(Instr.buildSlice au 1 #[(0,v.V)]).run P w= .ok (hT p3 r1 k0) e8/\
 SameC w e8 (hZ g 7) 1/\
 ∃(r9:OA),∃(r8:Nat),∃(r7:Nat),∃e0,(Instr.buildSlice ak 1 #[(0,hX (bs []))]).run P e8= .ok (hT r9 r8 r7) e0/\
 SameC e8 e0 (hZ E 0) 10/\
 SameC e8 e0 (hZ g 7) 1/\
 ∃(s6:OA),∃(r5:Nat),∃(t2:Nat),∃e1,(Builtin.append_ #[ak,ak] ak #[hT g0 l1.length g3,hT r9 r8 r7]).run P e0= .ok (hT s6 r5 t2) e1/\
 SameC e0 e1 (hZ E 0) 10/\
 SameC e0 e1 (hZ g 7) 1/\
 ∃(s1:OA),∃(n3:Nat),∃(s7:Nat),∃f3,(Builtin.append_ #[ak,ak] ak #[hT s6 r5 t2,hT f0 a6.length f1]).run P e1= .ok (hT s1 n3 s7) f3/\
 SameC e1 f3 (hZ E 0) 10/\
 SameC e1 f3 (hZ g 7) 1/\
 ∃(r3:OA),∃(o2:Nat),∃(q3:Nat),∃t8,(Builtin.append_ #[au,au] au #[hT (kE O) 1 1,hT p3 r1 k0]).run P f3= .ok (hT r3 o2 q3) t8/\
 K r3 o2 q3 s1 n3 s7 t8):=by
  have i2:l1.length+1<1000000:=by rw[lA0] at e4;simp only[lE0] at e4;omega
  have b6: ∀ {w b5:World} {A B:List ai},Sat σ w A->Sat σ b5 B->ndC E v∈A->ndC E v∈B->SameC w b5 (hZ E 0) 10:=λh i8 m i3=>h.same i8 m i3 10
  have W: ∀ {w b5:World} {A B:List ai},Sat σ w A->Sat σ b5 B->(g,o12)∈A->(g,o12)∈B->SameC w b5 (hZ g 7) 1:=λh i8 m i3=>h.same i8 m i3 1
  have g1: ∀(w:World) (d2:OA) (cf:Nat) (d0:List ai) (bx:Nat),SlS d2 cf (l1++ [[]]++a6) d0->Sat σ w ([ndC O u]++(ndC bx v::(d0++(ndC E v::(g,o12)::Z))))->
   ∃(d3:OA),∃(t9:Nat),∃(d1:Nat),∃a7,(Builtin.append_ #[au,au] au #[hT (kE O) 1 1,hT (kE bx) 1 1]).run P w= .ok (hT d3 t9 d1) a7/\K d3 t9 d1 d2 (l1++ [[]]++a6).length cf a7:=by
   intro w d2 cf d0 bx u2 h;refine Sat.appNd u1 h (by omega) λd3 d1 a7 g2 u0 h=>?_
   exact fin a7 d2 cf d0 d3 d1 g2 [] u2 u0 h
  refine⟨?_,?_⟩
  ·refine h.buildS [] λv0 u8 b5 e9 f5 U=>⟨b6 h U (by simp) (by simp),W h U (by simp) (by simp),?_,?_⟩
   ·have U:Sat σ b5 (c9++(e9++(b3++([ndC O u]++(ndC E v::(g,o12)::Z))))):=U.re
    refine Sat.appL i1 f5 U (by simp) i2 λq6 c6 a7 g6 e3 y=>⟨b6 U y (by simp) (by simp),W U y (by simp) (by simp),?_,?_⟩
    ·refine Sat.appL e3 f6 y g4 e4 λq7 c7 g5 c4 c8 I=>⟨b6 y I (by simp) (by simp),W y I (by simp) (by simp),?_⟩
     refine Sat.buildN I v λbx b4 H=>⟨W I H (by simp) (by simp),?_⟩
     have H:Sat σ b4 (ndC bx v::(c4++([ndC O u]++(ndC E v::(g,o12)::Z)))):=H
     exact g1 b4 q7 c7 c4 bx c8 H.re
    ·refine Sat.buildN y v λbx b4 H=>⟨W y H (by simp) (by simp),?_⟩
     have H:Sat σ b4 (ndC bx v::(g6++(b3++([ndC O u]++(ndC E v::(g,o12)::Z))))):=H
     have H:Sat σ b4 (g6++(b3++(ndC bx v::([ndC O u]++(ndC E v::(g,o12)::Z))))):=H.re
     refine Sat.appL e3 f6 H g4 e4 λq7 c7 g5 c4 c8 I=>⟨b6 H I (by simp) (by simp),W H I (by simp) (by simp),?_⟩
     exact g1 g5 q7 c7 c4 bx c8 I.re
   ·refine Sat.buildN U v λbx a7 y=>⟨W U y (by simp) (by simp),?_⟩
    have y:Sat σ a7 (ndC bx v::(e9++(c9++(b3++([ndC O u]++(ndC E v::(g,o12)::Z)))))):=y
    have y:Sat σ a7 (c9++(e9++(b3++(ndC bx v::([ndC O u]++(ndC E v::(g,o12)::Z)))))):=y.re
    refine Sat.appL i1 f5 y (by simp) i2 λq6 c6 g5 g6 e3 I=>⟨b6 y I (by simp) (by simp),W y I (by simp) (by simp),?_⟩
    refine Sat.appL e3 f6 I g4 e4 λq7 c7 b4 c4 c8 H=>⟨b6 I H (by simp) (by simp),W I H (by simp) (by simp),?_⟩
    exact g1 b4 q7 c7 c4 bx c8 H.re
  ·refine Sat.buildN h v λbx b5 U=>⟨W h U (by simp) (by simp),?_⟩
   have U:Sat σ b5 (ndC bx v::(c9++(b3++([ndC O u]++(ndC E v::(g,o12)::Z))))):=U
   refine U.buildS [] λv0 u8 a7 e9 f5 y=>⟨b6 U y (by simp) (by simp),W U y (by simp) (by simp),?_⟩
   have y:Sat σ a7 (c9++(e9++(b3++(ndC bx v::([ndC O u]++(ndC E v::(g,o12)::Z)))))):=y.re
   refine Sat.appL i1 f5 y (by simp) i2 λq6 c6 g5 g6 e3 I=>⟨b6 y I (by simp) (by simp),W y I (by simp) (by simp),?_⟩
   refine Sat.appL e3 f6 I g4 e4 λq7 c7 b4 c4 c8 H=>⟨b6 I H (by simp) (by simp),W I H (by simp) (by simp),?_⟩
   exact g1 b4 q7 c7 c4 bx c8 H.re

theorem pf (ls:List LT):(aD [.para ls]).tail=ls.map cy:=by
 show ls.map cy++aD []=_
 rw[aD,lG0]
theorem yO (ls:List LT)(bn:BN):(aD [.para ls,bn]).tail=ls.map cy++ [[]]++bf bn:=by
 show ls.map cy++([]::(bf bn++aD []))=_
 rw[aD];simp
theorem Fd (d:Nat)(ls:List LT)(y:lsA ls):abS [.para ls]/\smS (d - 1) [.para ls]/\ ∀g,flS g [.para ls]:=⟨⟨y,(λc hc=>by cases hc),trivial⟩,⟨by simp only[smB],trivial⟩,λg=>⟨trivial,trivial⟩⟩
theorem Fc (ls:List LT)(E:OA)(g y:Nat)(us:List Value)(RM KM:List ai)(O:lsA ls)(I:NDs (inT (ff ls)) us KM)(H:Sl 10 af E g y us RM)(U:g<=30):NodeDt (tO 1 (.para ls)) (({kind:=6,s:=1,e:=ls.length}:NH).nd none 0 E g y) (RM++KM):=by
 have e:tO 1 (.para ls)= .mk {kind:=6,s:=1,e:=ls.length} (inT (ff ls)):=by
  rw[tO];have:1+ls.length - 1=ls.length:=by omega
  rw[this]
 rw[e];exact⟨_,_,none,0,E,g,y,us,RM,KM,rfl,rfl,rfl,by omega,I,H⟩
theorem Fp {d:Nat}{odd loose:Bool}{b b1 g3 y:Nat}{q:OA}{n c:Nat}{vs:List UInt8}{s s':BS}{Y:List ai}{X:OA->Int->Bool->Nat->Nat->Bool->OA->Nat->Nat->Int->Int->WP}{g1:OA}{g4 g2:Nat}{g0 f2 f3:Int}(hd:d<=3)(s8:1<=d)(m1:xi (d - 1))(i3:Rd σ Y q n vs)(g7:s.dp d)(h7:s.kp s')(h5:s.flat=true)(o0:s.fq=true->False)(h:Sat σ w (bC b q n c s'::(ndC y (jU none 0 0)::Y)))(k5: ∀(it:List BN) (W:BS) (i1:OA) (i0:Nat) (g6:List Value) (h1 h2:List ai) (h6:OA) (h4:Nat) (g5 p1:List ai) (w:World),abS it->it≠ []->it.length<=2->smS (d - 1) it->(s.flat=true->(∃ls t,it= .para ls::t)/\flS s.fq it/\(s.fq=true->it.length=1))->s.kp W->SlS h6 h4 (aD it).tail g5->NDs (oT 1 it) g6 h2->Sl 10 af i1 it.length i0 g6 h1->
  Sat σ w (bC b q n c W::ndC y (jU i1 it.length i0)::(g5++(h1++(h2++(p1++Y)))))->aB.k5 R X (kE b) (d:Nat) odd b1 g3 loose g1 g4 g2 g0 y h6 (aD it).tail.length h4 f2 f3 w):
 aB.k4 R X (kE b) (d:Nat) odd b1 g3 loose g1 g4 g2 g0 y f2 f3 true w:=by
 have q0:i64.wrap (((d:Nat):Int) - 1)=((d - 1:Nat):Int):=by rw[gV (by omega) (by omega)]
 have r7:s'.flat=true:=by rw[h7.1];exact h5
 have m8:Rd σ (ndC y (jU none 0 0)::Y) q n vs:=i3.up λw h=>h.less [ndC y (jU none 0 0)]
 refine ag rfl (aa ⟨_,Sat.ld h (.head _) (i:=3) rfl,?_⟩);refine ag r7 ?_;refine pE m8 h λw ls W o4 p4 I e6 d3 d2 n2 E PK f1 q8 h0 m3 m4 n3 h=>⟨_,_,_,_,_,_,_,_,_,_,_,_,_,_,_,_,_,rfl,?_⟩
 obtain⟨o3,l5,m5⟩:=Fd d ls f1;have s3:=f1.2.1;refine Sat.bx h λH w h=>?_
 have h:Sat σ w (ndC H {}::(I++(E++(PK++(bC b q n c W::(ndC y (jU none 0 0)::Y)))))):=h
 refine h.st10 0 {} (({kind:=6}:NH).nd none 0 e6 d3 d2) λw h=>?_
 have h:Sat σ w (ndC H (({kind:=6}:NH).nd none 0 e6 d3 d2)::(I++(E++(PK++(bC b q n c W::(ndC y (jU none 0 0)::Y)))))):=h
 refine Sat.st h (k:=0) rfl (by show 8<10;decide) trivial rfl λw h=>?_
 refine Sat.st h (k:=0) rfl (by show 9<10;decide) trivial rfl λw h=>h.tk λw h=>?_
 rw[lS0] at h;have h:Sat σ w (ndC H (({kind:=6,s:=1,e:=ls.length}:NH).nd none 0 e6 d3 d2)::(I++(E++(PK++(bC b q n c W::(ndC y (jU none 0 0)::Y)))))):=h
 have f0:=Fc ls e6 d3 d2 n2 E PK f1 m3 m4 n3;revert h f0;generalize ({kind:=6,s:=1,e:=ls.length}:NH).nd none 0 e6 d3 d2=u;intro h f0;refine h.ldB10 u (.head _) ?_;refine Sat.buildN h u λg w h=>?_
 have h:Sat σ w (ndC g u::ndC H u::(I++(E++(PK++(bC b q n c W::(ndC y (jU none 0 0)::Y)))))):=h
 have h:Sat σ w (ndC y (jU none 0 0)::ndC g u::ndC H u::(I++(E++(PK++(bC b q n c W::Y))))):=h.re
 refine Sat.st h (k:=0) rfl (by show 7<10;decide) trivial rfl λw h=>?_
 have h:Sat σ w (ndC y (jU (kE g) 1 1)::ndC g u::ndC H u::(I++(E++(PK++(bC b q n c W::Y))))):=h
 have h:Sat σ w (bC b q n c W::(ndC y (jU (kE g) 1 1)::ndC g u::ndC H u::(I++(E++(PK++Y))))):=h.re
 have h3:Rd σ (ndC y (jU (kE g) 1 1)::ndC g u::ndC H u::(I++(E++(PK++Y)))) q n vs:=i3.up λw h=>h.less (ndC y (jU (kE g) 1 1)::ndC g u::ndC H u::(I++(E++PK)))
 refine eL (k:=2) h3 (by omega) (by omega) h λw r h8 hr p5 h=>⟨_,rfl,?_⟩
 have a7:=h7.trans (q8.kp.trans p5.kp);refine bJ (λ_=>?_) λ_=>?_
 ·rw[q0];refine m1 odd h3 ⟨(a7.dp g7).1,by have:=(a7.dp g7).2;omega⟩ h λw bn V s9 t0 e7 e3 q4 c8 b5 c4 j0 O U e1 r6 n1 r8 o2 j1 s7 h=>⟨_,_,_,_,_,_,_,_,_,_,_,_,_,_,_,_,_,rfl,?_⟩
  have m2:=a7.trans r6;obtain⟨s6,s1,k0⟩:=tL (by omega) e1.ab e1.sm;refine Sat.bx h λc9 w h=>?_
  have h:Sat σ w (ndC c9 {}::(e7++(O++(U++(bC b q n c V::(ndC y (jU (kE g) 1 1)::ndC g u::ndC H u::(I++(E++(PK++Y))))))))):=h
  refine h.st10 0 {} (e3.nd none 0 c8 b5 c4) λw h=>?_
  have h:Sat σ w (ndC c9 (e3.nd none 0 c8 b5 c4)::(e7++(O++(U++(bC b q n c V::(ndC y (jU (kE g) 1 1)::ndC g u::ndC H u::(I++(E++(PK++Y))))))))):=h
  have p3:i64.wrap ((((ls.map cy).length:Nat):Int)+2)=((ls.length+2:Nat):Int):=by
   rw[lS0,i64_in _ (by omega)];omega
  have r1:i64.wrap (i64.wrap ((((ls.map cy).length:Nat):Int)+1)+(((bf bn).length:Nat):Int))=((ls.length+2+(bf bn).length - 1:Nat):Int):=by
   rw[lS0,aN (by omega),i64_in _ (by omega)];omega
  rw[p3,r1];refine Sat.st h (k:=0) rfl (by show 8<10;decide) trivial rfl λw h=>?_
  refine Sat.st h (k:=0) rfl (by show 9<10;decide) trivial rfl λw h=>h.tk λw h=>?_
  have h:Sat σ w (ndC c9 (({e3 with s:=ls.length+2,e:=ls.length+2+(bf bn).length - 1}:NH).nd none 0 c8 b5 c4)::(e7++(O++(U++(bC b q n c V::(ndC y (jU (kE g) 1 1)::ndC g u::ndC H u::(I++(E++(PK++Y))))))))):=h
  have f5:NodeDt (tO (1+(ls.map cy).length+1) bn) (({e3 with s:=ls.length+2,e:=ls.length+2+(bf bn).length - 1}:NH).nd none 0 c8 b5 c4) (O++U):=by
   have e:1+(ls.map cy).length+1=ls.length+2:=by rw[lS0];omega
   rw[e,r8.2.2 _ (by omega)];exact⟨_,q4,none,0,c8,b5,c4,j0,O,U,rfl,rfl,rfl,by omega,o2,j1⟩
  revert h f5;generalize ({e3 with s:=ls.length+2,e:=ls.length+2+(bf bn).length - 1}:NH).nd none 0 c8 b5 c4=v;intro h f5;refine⟨kE g,1,1,Sat.ld (i:=7) (cs:=(jU (kE g) 1 1).C.toList) (e:=af) h (by simp) rfl,?_⟩;refine h.ldB10 v (.head _) ?_;have done: ∀(w:World) (d0:OA) (cf:Nat) (a6:List ai) (b6:OA) (c3:Nat) (b4 d1:List ai),SlS d0 cf (ls.map cy++ [[]]++bf bn) a6->Sl 10 af b6 2 c3 (u.C.toList++v.C.toList) b4->
   Sat σ w (ndC y (jU (kE g) 1 1)::(a6++(b4++(d1++(O++(U++(bC b q n c V::(E++(PK++Y)))))))))->
   stV w (hZ y 7) (hT b6 2 c3) λw=>aB.k5 R X (kE b) (d:Nat) odd b1 g3 loose g1 g4 g2 g0 y d0 (ls.map cy++ [[]]++bf bn).length cf f2 f3 w:=by
   intro w d0 cf a6 b6 c3 b4 d1 f6 f4 h;refine Sat.st h (k:=0) rfl (by show 7<10;decide) trivial rfl λw h=>?_
   have h:Sat σ w (ndC y (jU b6 2 c3)::(a6++(b4++(d1++(O++(U++(bC b q n c V::(E++(PK++Y))))))))):=h
   have h:Sat σ w (bC b q n c V::ndC y (jU b6 2 c3)::(a6++(b4++(((E++PK)++(O++U))++(d1++Y))))):=h.re
   have i8:abS [.para ls,bn]:=⟨f1,(λc _ hc=>by cases hc),e1.ab,(λc hc=>by cases hc),trivial⟩;have n0:oT 1 [BN.para ls,bn]= [tO 1 (.para ls),tO (1+(ls.map cy).length+1) bn]:=by rw[oT,oT,oT];rfl
   have:=k5 [.para ls,bn] V b6 c3 _ b4 ((E++PK)++(O++U)) d0 cf a6 d1 w i8 (by simp) (by simp) ⟨by simp only[smB],e1.sm,trivial⟩ (λ_=>⟨⟨ls,[bn],rfl⟩,⟨trivial,?_,trivial⟩,λr3=>(o0 r3).elim⟩) m2 (by rw[yO];exact f6) (by rw[n0];exact f0.cons f5.one) f4 h
   ·rw[yO] at this;exact this
   ·have:=e1.fl (by rw[a7.1];exact h5);unfold BS.fq at this⊢;rw[a7.2] at this;exact this
  have r4:(hP #[])=bs []:=rfl;rw[r4];have m6:Sl 10 af (kE g) 1 1 u.C.toList [ndC g u]:=slN;have r9:(ls.map cy).length<1000:=by rw[lS0];omega
  have h:Sat σ w (I++(e7++([ndC g u]++(ndC c9 v::ndC y (jU (kE g) 1 1)::(ndC H u::(O++(U++(bC b q n c V::(E++(PK++Y)))))))))):=h.re
  refine ym (Z:=ndC H u::(O++(U++(bC b q n c V::(E++(PK++Y)))))) (o12:=cel (jU (kE g) 1 1).C.toList af) h0 n1 (by simp only[lA0,lE0];omega) k0 m6 h λw d0 cf a6 r5 q3 h9 i2 f6 f4 h=>?_
  have h:Sat σ w (h9++(a6++(i2++(ndC c9 v::ndC y (jU (kE g) 1 1)::(ndC H u::(O++(U++(bC b q n c V::(E++(PK++Y)))))))))):=h
  exact done w d0 cf a6 r5 q3 h9 (i2++ [ndC c9 v,ndC H u]) f6 f4 h.re
 ·have h:Sat σ w (bC b q n c h8::ndC y (jU (kE g) 1 1)::(I++([ndC g u]++((E++PK)++([ndC H u]++Y))))):=h.re
  have:=k5 [.para ls] h8 (kE g) 1 u.C.toList [ndC g u] (E++PK) o4 p4 I [ndC H u] w o3 (by simp) (by simp) l5 (λ_=>⟨⟨ls,[],rfl⟩,m5 _,λ_=>rfl⟩) a7 (by rw[pf];exact h0) (by rw[oT,oT];exact f0.one) slN h;rw[pf] at this;exact this
theorem Fl {d:Nat}(hd:d<=3)(o0:1<=d->xi (d - 1)):GI d:=by
 intro σ w L R b q n c vs s odd i0 i8 h t0;have t5:i64.max=9223372036854775807:=rfl;refine aB.sound ?_;refine Sat.bx h λb1 w h=>?_
 refine Sat.bx h λy w h=>?_
 have h:Sat σ w (ndC y {}::ndC b1 {}::bC b q n c s::L):=h
 refine h.st10 0 {} (je (-1) 45 false none 0 0) λw h=>?_
 have h:Sat σ w (ndC y (je (-1) 45 false none 0 0)::ndC b1 {}::bC b q n c s::L):=h
 have k3: ∀(ch:UInt8) (num:Nat) (numI:Int) (loose:Bool) (e9:BS) (w:World),MkP odd ch num numI->(s.flat=true->s.fq=true->loose=false)->s.kp e9->Sat σ w (bC b q n c e9::ndC y (je numI ch false none 0 0)::ndC b1 {}::L)->
  aB.k3 R (kE b) (d:Nat) odd b1 y loose w:=by
  intro ch num numI loose e9 w e3 n3 m3 h;refine eL (k:=3) (i0.up λw h=>h.less [ndC y (je numI ch false none 0 0),ndC b1 {}]) (by omega) (by omega) h λw m H u1 f1 h=>⟨_,rfl,?_⟩
  have s8:i64.wrap (1+((m:Nat):Int))=((m+1:Nat):Int):=by
   rw[i64_in _ (by omega)];omega
  rw[s8];intro X p5;have s3: ∀k (its:List (List BN)) (d2:OA) (d1:Nat) (I:List ai) (g:OA) (E:Nat) (us:List Value) (RM KM:List ai) (s':BS) (w:World),its.length+k=m+1->abJ its->smJ (d - 1) its->(s.flat=true->flJ s.fq its)->(s.flat=true->s.fq=true->its.all (λit=>it.length==1)=true)->s.kp s'->SlS d2 d1 (cZ ch loose num its) I->NDs (BJ loose its) us KM->Sl 10 af g its.length E us RM->
   Sat σ w (bC b q n c s'::ndC y (je numI ch (lz loose its) g its.length E)::(I++(RM++(KM++(ndC b1 {}::L)))))->X (kE b) (d:Nat) odd b1 y loose d2 (cZ ch loose num its).length d1 ((m+1:Nat):Int) ((its.length:Nat):Int) w:=by
   intro k
   induction k with
   |zero=>
    intro its d2 d1 I g E us RM KM s' w q0 g6 g4 i2 i1 e8 f5 e4 e5 h;refine p5 _ _ _ _ _ _ _ _ _ _ _ _ (ae (by rw[decide_eq_false_iff_not];omega) ?_);refine h.tk λw h=>?_
    refine h.ldB10 (je numI ch (lz loose its) g its.length E) (.tail _ (.head _)) ?_;have h:Sat σ w (ndC b1 {}::ndC y (je numI ch (lz loose its) g its.length E)::(I++(RM++(KM++(bC b q n c s'::L))))):=h.re
    refine h.st10 0 {} (je numI ch (lz loose its) g its.length E) λw h=>?_
    have h:Sat σ w (ndC b1 (je numI ch (lz loose its) g its.length E)::ndC y (je numI ch (lz loose its) g its.length E)::(I++(RM++(KM++(bC b q n c s'::L))))):=h
    refine h.ldB10 _ (.head _) ?_;have e7:its≠ []:=by rintro rfl;simp at q0
    refine t0 w (.list ch num loose its) s' d2 d1 I {kind:=3,num:=numI,char:= [ch],loose:=lz loose its} (BJ loose its) g its.length E us RM KM ⟨⟨e3.ch4,by have:=e3.le;omega,e7,g6⟩,?_,?_,λO=>⟨λc3=>⟨n3 O c3,i1 O c3⟩,i2 O⟩⟩ e8 f5 ⟨rfl,rfl,λf O=>?_⟩ e4 e5 (by omega) (h.less [ndC b1 (je numI ch (lz loose its) g its.length E),ndC y (je numI ch (lz loose its) g its.length E)])
    ·simp only[smB];refine⟨by omega,by omega,?_⟩;have e:d+1 - 2=d - 1:=by omega
     rw[e];exact g4
    ·intro t2 r1;have e:some ch=some t2:=r1;obtain rfl:=Option.some.inj e;have c5:=e3.ch_;cases odd
     ·exact c5
     ·exact c5
    ·rw[tO,e3.num_];rfl
   |succ k q3=>
    intro its d2 d1 I g E us RM KM s' w q0 g6 g4 i2 i1 e8 f5 e4 e5 h;have n0:=(Ar.2.2 its g6).1;have p3: ∀x∈its,(aD x).tail≠ []:=λx s6=>by
     obtain⟨c0,r0,rest,e,_⟩:=(pt.2.2 its n0 x s6).2.2;rw[e];simp
    have p1:(cZ ch loose num its).length<=2000:=by
     by_cases q4:its= []
     ·subst q4;simp[cZ]
     ·have t9:=((qm.2.2 its n0 (d - 1) g4).1 ch loose num).2 q4;have u0:=D9 (show d - 1<=3 by omega);have t8:=lK5 (show its.length<=2 by omega) (show 2*NBd (d - 1)+2<=648 by omega);omega
    refine p5 _ _ _ _ _ _ _ _ _ _ _ _ (ag (by rw[decide_eq_true_eq];omega) ?_);refine Sat.bx h λU w h=>?_
    have h:Sat σ w (ndC U {}::bC b q n c s'::ndC y (je numI ch (lz loose its) g its.length E)::(I++(RM++(KM++(ndC b1 {}::L))))):=h
    refine h.st10 0 {} (jU none 0 0) λw h=>?_
    have h:Sat σ w (ndC U (jU none 0 0)::bC b q n c s'::ndC y (je numI ch (lz loose its) g its.length E)::(I++(RM++(KM++(ndC b1 {}::L))))):=h
    have h:Sat σ w (bC b q n c s'::(ndC U (jU none 0 0)::ndC y (je numI ch (lz loose its) g its.length E)::(I++(RM++(KM++(ndC b1 {}::L)))))):=h.re
    have o3:Rd σ (ndC U (jU none 0 0)::ndC y (je numI ch (lz loose its) g its.length E)::(I++(RM++(KM++(ndC b1 {}::L))))) q n vs:=i0.up λw h=>h.less (ndC U (jU none 0 0)::ndC y (je numI ch (lz loose its) g its.length E)::(I++(RM++(KM++ [ndC b1 {}]))))
    have k6: ∀(it:List BN) (H:BS) (b4:OA) (W:Nat) (c4:List Value) (b6 b9:List ai) (c9:OA) (c8:Nat) (b5 d0:List ai) (w:World),abS it->it≠ []->it.length<=2->smS (d - 1) it->(s.flat=true->(∃ls t,it= .para ls::t)/\flS s.fq it/\(s.fq=true->it.length=1))->s.kp H->SlS c9 c8 (aD it).tail b5->NDs (oT 1 it) c4 b9->Sl 10 af b4 it.length W c4 b6->
     Sat σ w (bC b q n c H::ndC y (je numI ch (lz loose its||decide (2<=it.length)) g its.length E)::ndC U (jU b4 it.length W)::(I++(RM++(KM++(b5++(b6++(b9++(d0++(ndC b1 {}::L)))))))))->
     aB.k6 R X (kE b) (d:Nat) odd b1 y loose d2 (cZ ch loose num its).length d1 ((its.length:Nat):Int) U c9 (aD it).tail.length c8 ((m+1:Nat):Int) ((its.length:Nat):Int) w:=by
     intro it H b4 W c4 b6 b9 c9 c8 b5 d0 w f6 e7 g0 f2 e6 V g3 g5 h1 h;have p4:(its++ [it]).length=its.length+1:=by simp
     have O:=qm.2.1 it (Ar.2.1 it f6).1 (d - 1) f2
     by_cases t6:d=0
     ·refine BM (d:=d) (by omega) (by omega) e3 (by omega) p1 p3 f6 e7 g0 (A7.2.1 it (d - 1) d (by omega) f2) f5 e4 e5 g3 g5 h1 h (λw d2 d1 I g E us RM KM f5 e4 e5 h=>?_) rfl;exact q3 (its++ [it]) d2 d1 I g E us RM KM H w (by rw[p4];omega) (vm its it g6 e7 f6) (uv its (d - 1) it g4 g0 f2) (λO=>uZ its it (i2 O) (e6 O).1 (e6 O).2.1) (λO c3=>by rw[lC5,i1 O c3];simp[(e6 O).2.2 c3]) V f5 e4 e5 h
     ·refine BM (d:=d) (by omega) (by omega) e3 (by omega) p1 p3 f6 e7 g0 (A7.2.1 it (d - 1) d (by omega) f2) f5 e4 e5 g3 g5 h1 h (λw d2 d1 I g E us RM KM f5 e4 e5 h=>?_) rfl;exact q3 (its++ [it]) d2 d1 I g E us RM KM H w (by rw[p4];omega) (vm its it g6 e7 f6) (uv its (d - 1) it g4 g0 f2) (λO=>uZ its it (i2 O) (e6 O).1 (e6 O).2.1) (λO c3=>by rw[lC5,i1 O c3];simp[(e6 O).2.2 c3]) V f5 e4 e5 h
    have k5: ∀(it:List BN) (H:BS) (b4:OA) (W:Nat) (c4:List Value) (b6 b9:List ai) (c9:OA) (c8:Nat) (b5 d0:List ai) (w:World),abS it->it≠ []->it.length<=2->smS (d - 1) it->(s.flat=true->(∃ls t,it= .para ls::t)/\flS s.fq it/\(s.fq=true->it.length=1))->s.kp H->SlS c9 c8 (aD it).tail b5->NDs (oT 1 it) c4 b9->Sl 10 af b4 it.length W c4 b6->
     Sat σ w (bC b q n c H::ndC y (je numI ch (lz loose its) g its.length E)::ndC U (jU b4 it.length W)::(I++(RM++(KM++(b5++(b6++(b9++(d0++(ndC b1 {}::L)))))))))->
     aB.k5 R X (kE b) (d:Nat) odd b1 y loose d2 (cZ ch loose num its).length d1 ((its.length:Nat):Int) U c9 (aD it).tail.length c8 ((m+1:Nat):Int) ((its.length:Nat):Int) w:=by
     intro it H b4 W c4 b6 b9 c9 c8 b5 d0 w f6 e7 g0 f2 e6 V g3 g5 h1 h;refine⟨lz loose its,Sat.ld h (.tail _ (.head _)) (i:=5) rfl,bJ (λhz=>?_) λhz=>?_⟩
     ·refine Sat.st h (k:=1) rfl (by show 5<10;decide) trivial rfl λw h=>?_
      have h:Sat σ w (bC b q n c H::ndC y (je numI ch true g its.length E)::ndC U (jU b4 it.length W)::(I++(RM++(KM++(b5++(b6++(b9++(d0++(ndC b1 {}::L))))))))):=h
      have e:(lz loose its||decide (2<=it.length))=true:=by rw[hz];rfl
      exact k6 it H b4 W c4 b6 b9 c9 c8 b5 d0 w f6 e7 g0 f2 e6 V g3 g5 h1 (by rw[e];exact h)
     ·refine⟨b4,it.length,W,Sat.ld h (.tail _ (.tail _ (.head _))) (i:=7) rfl,?_⟩;refine Sat.st h (k:=1) rfl (by show 5<10;decide) trivial rfl λw h=>?_
      have h:Sat σ w (bC b q n c H::ndC y (je numI ch (decide (((it.length:Nat):Int)>1)) g its.length E)::ndC U (jU b4 it.length W)::(I++(RM++(KM++(b5++(b6++(b9++(d0++(ndC b1 {}::L))))))))):=h
      have e:(lz loose its||decide (2<=it.length))=decide (((it.length:Nat):Int)>1):=by
       rw[hz,Bool.false_or,decide_eq_decide];omega
      exact k6 it H b4 W c4 b6 b9 c9 c8 b5 d0 w f6 e7 g0 f2 e6 V g3 g5 h1 (by rw[e];exact h)
    have s5: ∀ls,lsA ls->abS [.para ls]/\smS (d - 1) [.para ls]/\ ∀n1,flS n1 [.para ls]:=λls g7=>⟨⟨g7,(λc hc=>by cases hc),trivial⟩,⟨by simp only[smB],trivial⟩,λn1=>⟨trivial,trivial⟩⟩
    have r3: ∀(ls:List LT) (g:OA) (h9 E:Nat) (us:List Value) (RM KM:List ai),lsA ls->NDs (inT (ff ls)) us KM->Sl 10 af g h9 E us RM->h9<=30->NodeDt (tO 1 (.para ls)) (({kind:=6,s:=1,e:=ls.length}:NH).nd none 0 g h9 E) (RM++KM):=by
     intro ls g h9 E us RM KM g7 e4 e5 t7;have e:tO 1 (.para ls)= .mk {kind:=6,s:=1,e:=ls.length} (inT (ff ls)):=by
      rw[tO];have:1+ls.length - 1=ls.length:=by omega
      rw[this]
     rw[e];exact⟨_,_,none,0,g,h9,E,us,RM,KM,rfl,rfl,rfl,by omega,e4,e5⟩
    have q5:decide (((d:Nat):Int)>0)=decide (0<d):=by rw[decide_eq_decide];omega
    rw[q5]
    by_cases g2:(loose && decide (0<d))=true
    ·rw[g2];have m4:1<=d:=by
      have:=(lK1 _ _▸g2).2;rw[decide_eq_true_eq] at this;exact this
     have r9:loose=true:=(lK1 _ _▸g2).1;have s9:i64.wrap (((d:Nat):Int) - 1)=((d - 1:Nat):Int):=by rw[gV (by omega) (by omega)]
     by_cases O:s'.flat=true
     ·have g1:s.flat=true:=by rw[<-e8.1];exact O
      have r8:s.fq=true->False:=λc3=>by have:=n3 g1 c3;rw[r9] at this;cases this
      refine Fp (Y:=ndC y (je numI ch (lz loose its) g its.length E)::(I++(RM++(KM++(ndC b1 {}::L))))) hd m4 (o0 m4) (i0.up λw h=>h.less (ndC y (je numI ch (lz loose its) g its.length E)::(I++(RM++(KM++ [ndC b1 {}]))))) i8 e8 g1 r8 h λit H b4 W c4 b6 b9 c9 c8 b5 d0 w a1 a2 a3 a4 a5 t3 s7 a8 a9 h=>?_
      exact k5 it H b4 W c4 b6 b9 c9 c8 b5 d0 w a1 a2 a3 a4 a5 t3 s7 a8 a9 h.re
     ·refine ag rfl (aa ⟨_,Sat.ld h (.head _) (i:=3) rfl,ae (by simpa using O) ?_⟩);rw[s9];refine sL (d:=d - 1) (most:=2) (by omega) (by omega) (by omega) (o0 m4) o3 ⟨(e8.dp i8).1,by have:=(e8.dp i8).2;omega⟩ h λw l H m5 m6 c1 o4 o2 r5 j1 j0 i3 f1 l5 k0 m1 h=>⟨_,_,_,_,_,_,rfl,?_⟩
      have h:Sat σ w (ndC U (jU none 0 0)::bC b q n c H::ndC y (je numI ch (lz loose its) g its.length E)::(I++(RM++(KM++(c1++(j1++(j0++([]++(ndC b1 {}::L))))))))):=h.re
      refine Sat.st h (k:=0) rfl (by show 7<10;decide) trivial rfl λw h=>?_
      have h:Sat σ w (ndC U (jU o4 l.length o2)::bC b q n c H::ndC y (je numI ch (lz loose its) g its.length E)::(I++(RM++(KM++(c1++(j1++(j0++([]++(ndC b1 {}::L))))))))):=h
      refine k5 l H o4 o2 r5 j1 j0 m5 m6 c1 [] w i3.ab i3.ne i3.len i3.sm (λg1=>?_) (e8.trans f1) l5 k0 m1 h.re;exact absurd (by rw[e8.1];exact g1) O
    ·have g2:(loose && decide (0<d))=false:=by simpa using g2
     rw[g2];refine ae rfl ?_;refine pE o3 h λw ls H m5 m6 c1 h5 h4 h3 r6 f0 PK g7 f1 l5 k0 m1 r7 h=>⟨_,_,_,_,_,_,_,_,_,_,_,_,_,_,_,_,_,rfl,?_⟩
     obtain⟨s4,q8,r4⟩:=s5 ls g7;refine Sat.bx h λf3 w h=>?_
     have h:Sat σ w (ndC f3 {}::(c1++(f0++(PK++(bC b q n c H::(ndC U (jU none 0 0)::ndC y (je numI ch (lz loose its) g its.length E)::(I++(RM++(KM++(ndC b1 {}::L)))))))))):=h
     refine h.st10 0 {} (({kind:=6}:NH).nd none 0 h5 h4 h3) λw h=>?_
     have h:Sat σ w (ndC f3 (({kind:=6}:NH).nd none 0 h5 h4 h3)::(c1++(f0++(PK++(bC b q n c H::(ndC U (jU none 0 0)::ndC y (je numI ch (lz loose its) g its.length E)::(I++(RM++(KM++(ndC b1 {}::L)))))))))):=h
     refine Sat.st h (k:=0) rfl (by show 8<10;decide) trivial rfl λw h=>?_
     refine Sat.st h (k:=0) rfl (by show 9<10;decide) trivial rfl λw h=>h.tk λw h=>?_
     rw[lS0] at h;have h:Sat σ w (ndC f3 (({kind:=6,s:=1,e:=ls.length}:NH).nd none 0 h5 h4 h3)::(c1++(f0++(PK++(bC b q n c H::(ndC U (jU none 0 0)::ndC y (je numI ch (lz loose its) g its.length E)::(I++(RM++(KM++(ndC b1 {}::L)))))))))):=h
     have m2:=r3 ls h5 h4 h3 r6 f0 PK g7 k0 m1 r7;revert h m2;generalize ({kind:=6,s:=1,e:=ls.length}:NH).nd none 0 h5 h4 h3=u;intro h m2;refine h.ldB10 u (.head _) ?_;refine Sat.buildN h u λf4 w h=>?_
     have h:Sat σ w (ndC f4 u::ndC f3 u::(c1++(f0++(PK++(bC b q n c H::(ndC U (jU none 0 0)::ndC y (je numI ch (lz loose its) g its.length E)::(I++(RM++(KM++(ndC b1 {}::L)))))))))):=h
     have h:Sat σ w (ndC U (jU none 0 0)::ndC f4 u::ndC f3 u::(c1++(f0++(PK++(bC b q n c H::(ndC y (je numI ch (lz loose its) g its.length E)::(I++(RM++(KM++(ndC b1 {}::L)))))))))):=h.re
     refine Sat.st h (k:=0) rfl (by show 7<10;decide) trivial rfl λw h=>?_
     have h:Sat σ w (ndC U (jU (kE f4) 1 1)::ndC f4 u::ndC f3 u::(c1++(f0++(PK++(bC b q n c H::(ndC y (je numI ch (lz loose its) g its.length E)::(I++(RM++(KM++(ndC b1 {}::L)))))))))):=h
     have m8:(lz loose its||decide (2<=([BN.para ls]:List BN).length))=lz loose its:=by simp
     have h:Sat σ w (bC b q n c H::ndC y (je numI ch (lz loose its) g its.length E)::ndC U (jU (kE f4) 1 1)::(I++(RM++(KM++(c1++([ndC f4 u]++((f0++PK)++([ndC f3 u]++(ndC b1 {}::L))))))))):=h.re
     have:=k6 [.para ls] H (kE f4) 1 u.C.toList [ndC f4 u] (f0++PK) m5 m6 c1 [ndC f3 u] w s4 (by simp) (by simp) q8 (λ_=>⟨⟨ls,[],rfl⟩,r4 _,λ_=>rfl⟩) (e8.trans f1.kp) (by rw[pf];exact l5) (by rw[oT,oT];exact m2.one) slN (by rw[m8];exact h);rw[pf] at this;exact this
  have m8:lz loose []=false:=by cases loose<;>rfl
  exact s3 (m+1) [] none 0 [] none 0 [] [] [] H w (by simp) trivial trivial (λ_=>trivial) (λ_ _=>rfl) (m3.trans f1.kp) SlS.nil .nil (Sl.nil 10 af) (by rw[m8];exact h)
 have k2: ∀(ch:UInt8) (num:Nat) (numI:Int) (e9:BS) (w:World),MkP odd ch num numI->s.kp e9->Sat σ w (bC b q n c e9::ndC y (je numI ch false none 0 0)::ndC b1 {}::L)->aB.k2 R (kE b) (d:Nat) odd b1 y w:=by
  intro ch num numI e9 w e3 m3 h;refine eL (k:=2) (i0.up λw h=>h.less [ndC y (je numI ch false none 0 0),ndC b1 {}]) (by omega) (by omega) h λw r H hr f1 h=>⟨_,rfl,?_⟩
  have V:=m3.trans f1.kp;refine bJ (λ_=>aa ⟨_,Sat.ld h (.head _) (i:=3) rfl,bJ (λO=>aa ⟨_,Sat.ld h (.head _) (i:=4) rfl,?_⟩) λO=>?_⟩) λ_=>k3 ch num numI false H w e3 (λ_ _=>rfl) V h
  ·refine k3 ch num numI _ H w e3 (λ_ c3=>?_) V h;have:decide (H.deep>0)=true:=by
    have e:H.deep=s.deep:=V.2;rw[e];exact c3
   rw[this];rfl
  ·refine k3 ch num numI true H w e3 (λg1 _=>?_) V h;rw[V.1,g1] at O;cases O
 have k1: ∀(d3:UInt8) (w:World),(if odd then d3=43 else d3=45)->Sat σ w (ndC y (je (-1) d3 false none 0 0)::ndC b1 {}::bC b q n c s::L)->aB.k1 R (kE b) (d:Nat) odd b1 y w:=by
  intro d3 w c5 h;have h:Sat σ w (bC b q n c s::ndC y (je (-1) d3 false none 0 0)::ndC b1 {}::L):=h.re
  have n2:Rd σ (ndC y (je (-1) d3 false none 0 0)::ndC b1 {}::L) q n vs:=i0.up λw h=>h.less [ndC y (je (-1) d3 false none 0 0),ndC b1 {}]
  refine eL (k:=2) n2 (by omega) (by omega) h λw r e9 hr q1 h=>⟨_,rfl,?_⟩
  refine bJ (λ_=>?_) λ_=>k2 d3 0 (-1) e9 w ⟨?_,?_,by omega⟩ q1.kp h
  ·refine eL (k:=30) n2 (by omega) (by omega) h λw num H t4 f1 h=>⟨_,rfl,?_⟩
   refine Sat.st h (k:=1) rfl (by show 3<10;decide) trivial rfl λw h=>?_
   refine Sat.st h (k:=1) rfl (by show 4<10;decide) trivial rfl λw h=>?_
   have h:Sat σ w (bC b q n c H::ndC y (je ((num:Nat):Int) 46 false none 0 0)::ndC b1 {}::L):=h
   have V:=q1.kp.trans f1.kp;cases odd with
   |true=>
    refine ag rfl ?_;refine Sat.st h (k:=1) rfl (by show 4<10;decide) trivial rfl λw h=>?_
    exact k2 41 num num H w ⟨.inr rfl,rfl,by omega⟩ V h
   |false=>exact ae rfl (k2 46 num num H w ⟨.inr rfl,rfl,by omega⟩ V h)
  ·cases odd
   ·exact .inl c5
   ·exact .inl c5
  ·cases odd
   ·have c5:d3=45:=c5;subst c5;rfl
   ·have c5:d3=43:=c5;subst c5;rfl
 cases odd with
 |true=>
  refine ag rfl ?_;refine Sat.st h (k:=0) rfl (by show 4<10;decide) trivial rfl λw h=>?_
  exact k1 43 w rfl h
 |false=>exact ae rfl (k1 45 w rfl h)
theorem CA: ∀d,d<=3->xi d:=by
 intro d
 induction d using Nat.strongRecOn with
 |_ d g=>
  intro hd;refine DU hd (λy=>sL (by omega) (by omega) (by omega) (g (d - 1) (by omega) (by omega))) λy=>Fl (by omega) λE=>g (d - 1 - 1) (by omega) (by omega)
theorem Al {d most:Nat}(hd:d<=3)(y:1<=most)(g:most<=4):yJ d most:=sL hd y g (CA d hd)
def nf (R:EP)(w:World):Prop:=box w #[hV false,hV false,hV false,hV false,hV false,hV false,hV false,hV false,hV false,hV false] fa λb1 b9=>stV b9 (hZ b1 0) (hV false) λc1=>stV c1 (hZ b1 1) (hV false) λb8=>stV b8 (hZ b1 2) (hV false) λb5=>stV b5 (hZ b1 3) (hV false) λb6=>stV b6 (hZ b1 4) (hV false) λc3=>stV c3 (hZ b1 5) (hV false) λc2=>stV c2 (hZ b1 6) (hV false) λb7=>stV b7 (hZ b1 7) (hV false) λb3=>stV b3 (hZ b1 8) (hV false) λb4=>stV b4 (hZ b1 9) (hV false) λg=>∃O,g.cell? (hZ b1 0)=some (hV O)/\∃V,g.cell? (hZ b1 1)=some (hV V)/\∃I,g.cell? (hZ b1 2)=some (hV I)/\∃U,g.cell? (hZ b1 3)=some (hV U)/\∃E,g.cell? (hZ b1 4)=some (hV E)/\∃a7,g.cell? (hZ b1 5)=some (hV a7)/\∃W,g.cell? (hZ b1 6)=some (hV W)/\∃a6,g.cell? (hZ b1 7)=some (hV a6)/\∃y,g.cell? (hZ b1 8)=some (hV y)/\∃H,g.cell? (hZ b1 9)=some (hV H)/\R (hQ (.agg #[hV O,hV V,hV I,hV U,hV E,hV a7,hV W,hV a6,hV y,hV H])) g
theorem nf.sound {R w}(h:nf R w):callE P mT #[] R w:=
 cC Tryz.func15 Tryz.call15 h

theorem xO (h:Sat σ w L)(g: ∀w,Sat σ w L->R (hQ (optV Ep)) w):callE P mT #[] R w:=by
 refine nf.sound ?_;refine Sat.bx h λb1 w h=>?_
 repeat (first|refine aa ?_|refine h.tk λw h=>?_|refine⟨_,h.ldA,?_⟩|refine⟨_,_,_,h.ldA,?_⟩|refine h.stA 0 λw h=>?_|refine h.stA 1 λw h=>?_|refine h.stA 2 λw h=>?_|refine h.stA 3 λw h=>?_|refine h.stA 4 λw h=>?_|refine h.stA 5 λw h=>?_|refine h.stA 6 λw h=>?_|refine h.bx λb0 w h=>?_)
 exact g _ h.tail

theorem Gw {q:OA}{n c:Nat}(g:R (hQ (hV (decide (n<=300)))) w):callE P qg #[hT q n c] R w:=by
 refine nM.sound ?_;have e:decide (((n:Nat):Int)<=300)=decide (n<=300):=by rw[decide_eq_decide];omega
 unfold nM;rw[e];exact g
theorem FE {l:List BN}(H:okS l)(hd:dsS l)(y:l≠ [])(U:(aD l).length<=1300)(I:dpT l<=12):(bv [10] (aD l).tail).length<1000000:=by
 have E:=wM.2.1 l H hd y;have g:(aD l).tail.length<=1300:=by rw[lY2];omega
 have V:=uQ (n:=768) (aD l).tail λs hs=>by have:=(E.ch s hs).2;omega
 have O:=lN2 769 g;omega
def EH (σ:Out)(L:List ai)(R:Ending->World->Prop)(fl:Bool):Prop:=
 ∀w (l:List BN) (y:OA) (g:Nat) (us:List Value) (RM KM:List ai),Ea 3 4 ⟨0,0,fl,0⟩ l->NDs (oT 1 l) us KM->Sl 10 af y l.length g us RM->Sat σ w (RM++(KM++L))->R (hQ (.tuple #[hX (bs (bv [10] (aD l).tail)),(({kind:=1}:NH).nd none 0 y l.length g).V])) w
theorem Bu {l:List BN}{s:BS}(g:Ea 3 4 s l):okS l/\dsS l/\l≠ []/\(aD l).length<=1300/\dpT l<=12:=by
 obtain⟨y,H⟩:=Ar.2.1 l g.ab;obtain⟨E,I⟩:=FC y g.len g.sm;exact⟨y,H,g.ne,E,I⟩
theorem Cx {b1:Nat}{l:List BN}{fl:Bool}{a6:OA}{W:Nat}{H:List ai}{E:OA}{g:Nat}{us:List Value}{RM KM X:List ai}(b8:EH σ L R fl)(O:Ea 3 4 ⟨0,0,fl,0⟩ l)(b7:SlS a6 W (aD l).tail H)(c1:NDs (oT 1 l) us KM)(c3:Sl 10 af E l.length g us RM)(h:Sat σ w (ndC b1 {}::(H++(RM++(KM++(X++L)))))):
 callE P iW #[hT a6 (aD l).tail.length W,hX (hP #[10])] (λe c4=> ∃(U:BA),e= hQ (hX U)/\st10 c4 b1 {a0:=1,q7:=E,n7:=l.length,c7:=g} λI=>ldB10 I b1 λb3=>R (hQ (.tuple #[hX U,b3.V])) I) w:=by
 obtain⟨c2,c5,b5,b6,b9⟩:=Bu O;have c8:=FE c2 c5 b5 b6 b9;have a7:((hP #[10]):ByteArray)=bs [10]:=rfl
 rw[a7];refine wr (L:=ndC b1 {}::(H++(RM++(KM++(X++L))))) (SArg.ofSl b7 λy b4=> .tail _ (lE1 _ b4)) h (by rw[lY2];omega) (by omega) (by simp) λw h=>⟨_,rfl,?_⟩
 refine h.st10 0 {} (({kind:=1}:NH).nd none 0 E l.length g) λw h=>?_
 have h:Sat σ w (ndC b1 (({kind:=1}:NH).nd none 0 E l.length g)::(H++(RM++(KM++(X++L))))):=h
 refine h.ldB10 _ (.head _) ?_;exact b8 w l E g us RM KM O c1 c3 (h.less (ndC b1 (({kind:=1}:NH).nd none 0 E l.length g)::(H++X)))
theorem DT {q:OA}{n c:Nat}{vs:List UInt8}(U:BArg σ L q n vs)(b6:n<=300)(h:Sat σ w L)(O:EH σ L R false):callE P mU #[hT q n c] R w:=by
 refine ng.sound ?_;refine Sat.bx h λb1 w h=>?_
 refine Sat.bx h λg w h=>?_
 have h:Sat σ w (bC g q n c ⟨0,0,false,0⟩::(ndC b1 {}::L)):=h
 have y:Rd σ L q n vs:=⟨U,by omega⟩;refine Al (d:=3) (most:=4) (by omega) (by omega) (by omega) (y.up λw h=>h.less [ndC b1 {}]) ⟨by show (0:Int)<=0;omega,by show (0:Int)+((3:Nat):Int)<=100;omega⟩ h λw l s' a6 b4 W b7 a7 us RM KM H b5 I V E h=>⟨_,_,_,_,_,_,rfl,?_⟩
 exact Cx (X:= [bC g q n c s']) O H I V E h.re
namespace eR
def bl1 (R:EP)(Xa:BA->OA->Nat->Nat->Int->Int->WP)(g:BA)(H:OA)(O I:Nat)(E y:Int)(w:World):Prop:=br (decide (y<(g.size:Int))) (0<=y/\y<(g.size:Int)/\br ((bt g y)==10) (0<=E/\E<=y/\y<=(g.size:Int)/\∃b7 b3,∃a7 c3,(Instr.buildSlice ak 1 #[(0,hX (g.extract (Int.toNat E) (Int.toNat y)))]).run P w= .ok (hT b7 b3 a7) c3/\∃b8 a6,∃b9 c2,(Builtin.append_ #[ak,ak] ak #[hT H O I,hT b7 b3 a7]).run P c3= .ok (hT b8 a6 b9) c2/\Xa g b8 a6 b9 (i64.wrap (y+1)) (i64.wrap (y+1)) c2) (Xa g H O I E (i64.wrap (y+1)) w)) (0<=E/\E<=(g.size:Int)/\∃W V,∃b6 c1,(Instr.buildSlice ak 1 #[(0,hX (g.extract (Int.toNat E) g.size))]).run P w= .ok (hT W V b6) c1/\∃b5 b4,∃U c4,(Builtin.append_ #[ak,ak] ak #[hT H O I,hT W V b6]).run P c1= .ok (hT b5 b4 U) c4/\R (hQ (hT b5 b4 U)) c4)
def l1 (R:EP)(O:BA)(y:OA)(E g:Nat)(I H:Int)(w:World):Prop:=∀X:BA->OA->Nat->Nat->Int->Int->WP,(∀O y E g I H w,bl1 R X O y E g I H w->X O y E g I H w)->X O y E g I H w
end eR
def eR (R:EP)(g:BA)(w:World):Prop:=eR.l1 R g none 0 0 0 0 w
theorem eR.sound {R x0 w}(h:eR R x0 w):callE P kZ #[hX x0] R w:=
 aH [(87,.lp [1,63,87,107] (eR.bl1 R) λXa=> [])] Tryz.func20 Tryz.call20 h

theorem oD: ∀(a b:List UInt8),10 ∉ a->fT (a++10::b)=a::fT b
 | [],b,_=>by rw[lT0,fT,if_pos rfl]
 |c::a,b,h=>by
  have hc:c≠10:=λe=>h (by rw[e];exact .head _)
  rw[lQ0,fT,if_neg hc,oD a b λm=>h (.tail _ m)]
theorem oC: ∀(a:List UInt8),10 ∉ a->fT a= [a]
 | [],_=>rfl
 |c::a,h=>by
  have hc:c≠10:=λe=>h (by rw[e];exact .head _)
  rw[fT,if_neg hc,oC a λm=>h (.tail _ m)]
theorem tC: ∀ {ls:List (List UInt8)},ls≠ []->(∀l∈ls,10 ∉ l)->fT (bv [10] ls)=ls
 | [],h,_=>absurd rfl h
 | [x],_,h=>by
  have e:bv [10] [x]=x:=by simp[bv]
  rw[e,oC x (h x (.head _))]
 |x::y::r,_,h=>by
  have g:=tC (ls:=y::r) (by simp) λl E=>h l (.tail _ E)
  have e:bv [10] (x::y::r)=x++10::bv [10] (y::r):=by simp[bv]
  rw[e,oD x _ (h x (.head _)),g]
theorem zU {s:List UInt8}(hs:s.length<1000000)(c9:(fT s).length<100000)(h:Sat σ w L)(c1: ∀w q c M,SlS q c (fT s) M->Sat σ w (M++L)->R (hQ (hT q (fT s).length c)) w):callE P kZ #[hX (bs s)] R w:=by
 refine eR.sound ?_;intro X b5;have b8: ∀k i j (done:List (List UInt8)) (q:OA) (c:Nat) (M:List ai) (w:World),i+k=s.length->j<=i->10 ∉ sub s j i->done++fT (s.drop j)=fT s->SlS q c done M->Sat σ w (M++L)->X (bs s) q done.length c (j:Nat) (i:Nat) w:=by
  intro k
  induction k with
  |zero=>
   intro i j done q c M w hi c5 y hd I h;obtain rfl:i=s.length:=hi;refine b5 _ _ _ _ _ _ _ (ae (by rw[decide_eq_false_iff_not,aI];omega) ⟨by omega,by rw[aI];omega,?_⟩);have b4:sub s j s.length=s.drop j:=by unfold sub;rw[lT2]
   have c4:(bs s).extract (Int.toNat ((j:Nat):Int)) (bs s).size=bs (s.drop j):=by
    rw[lC0,aI,bV]
    show bs (sub s j s.length)=_
    rw[b4]
   rw[c4];rw[b4] at y;have g:done++ [s.drop j]=fT s:=by rw[<-hd,oC _ y]
   have V:done.length<1000000:=by
    have:=congrArg List.length g;rw[lA0] at this;omega
   refine Sat.appS I h _ V λa7 a6 w b3 H h=>?_
   rw[g] at H⊢;exact c1 w a7 a6 b3 H h
  |succ k b6=>
   intro i j done q c M w hi c5 y hd I h;have U:i<s.length:=by omega
   refine b5 _ _ _ _ _ _ _ (ag (by rw[decide_eq_true_eq,aI];omega) ⟨by omega,by rw[aI];omega,?_⟩);rw[oO U];have b7:sub s j (i+1)=sub s j i++ [s[i]]:=by
    unfold sub;rw[lF1 U,lJ2 (by rw[lB1];omega)]
   refine bJ (λhc=>?_) λhc=>?_
   ·have O:s[i]=10:=by
     have:((s[i].toNat:Nat):Int)=((10:Nat):Int):=eq_of_beq hc
     exact lH6.1 (by show s[i].toNat=10;omega)
    refine⟨by omega,by omega,by rw[aI];omega,?_⟩;rw[lC0,lC0,bV];have b9:s.drop j=sub s j i++10::s.drop (i+1):=by
     unfold sub;have c3:s=s.take i++s[i]::s.drop (i+1):=by rw[<-lG1 U,lT1]
     conv=>lhs;rw[c3]
     rw[lJ2 (by rw[lB1];omega),O]
    have g:(done++ [sub s j i])++fT (s.drop (i+1))=fT s:=by
     rw[<-hd,b9,oD _ _ y];simp
    have V:done.length<1000000:=by
     have:=congrArg List.length g;rw[lA0,lA0] at this;omega
    refine Sat.appS I h (sub s j i) V λa7 a6 w b3 H h=>?_
    rw[aN (by omega)];have W:sub s (i+1) (i+1)= []:=by unfold sub;rw[lA2 (by rw[lB1];omega)]
    exact b6 (i+1) (i+1) (done++ [sub s j i]) a7 a6 b3 w (by omega) (lZ0 _) (by rw[W];simp) g H h
   ·have O:s[i]≠10:=by
     intro c8;rw[c8] at hc;cases hc
    rw[aN (by omega)];refine b6 (i+1) j done q c M w (by omega) (by omega) ?_ hd I h;rw[b7];intro E;rcases lO0.1 E with E|E
    ·exact y E
    ·exact O (lR0.1 E).symm
 have W:sub s 0 0= []:=by unfold sub;simp
 exact b8 s.length 0 0 [] none 0 [] w (by omega) (lZ0 _) (by rw[W];simp) (by simp) SlS.nil h
namespace dw
def k2 (R:EP)(Xa:Int->Int->OA->Nat->Nat->Int->Int->WP)(V:Int)(U:Nat)(I:OA)(O y:Nat)(H E:Int)(w:World):Prop:=∃g,w.cell? (hZ U 9)=some (hY g)/\Xa (i64.wrap (g+1)) V I O y H (i64.wrap (E+1)) w
def k1 (R:EP)(Xa:Int->Int->OA->Nat->Nat->Int->Int->WP)(c1 b3:Int)(g:Nat)(b6:OA)(b7 b4:Nat)(b5 b9:Int)(w:World):Prop:=∃O,w.cell? (hZ g 8)=some (hY O)/\br (decide (O<c1)) (False) (∃W,w.cell? (hZ g 9)=some (hY W)/\∃U,w.cell? (hZ g 8)=some (hY U)/\br (decide (W<U)) (False) (∃I,w.cell? (hZ g 9)=some (hY I)/\br (decide (I>b3)) (False) (∃y H E,w.cell? (hZ g 7)=some (hT y H E)/\∃a7,w.cell? (hZ g 8)=some (hY a7)/\∃V,w.cell? (hZ g 9)=some (hY V)/\callE P jv #[hT y H E,hY a7,hY V] (λe b8=>∃a6,e= hQ (hV a6)/\br (!a6) (False) (k2 R Xa b3 g b6 b7 b4 b5 b9 b8)) w)))
def bl1 (R:EP)(Xa:Int->Int->OA->Nat->Nat->Int->Int->WP)(b3 b5:Int)(U:OA)(W a6:Nat)(O E:Int)(w:World):Prop:=br (decide (E<O)) (0<=E/\E<(W:Int)/\aA U λa1=>ldA16 w (a1.add (Int.toNat E*16)) λb4=>box w (N16.C {}) al λy a7=>st16 a7 y b4 λg=>∃V,g.cell? (hZ y 0)=some (hY V)/\br (decide (V >= 20)) (R (hQ (hV true)) g) (∃H,g.cell? (hZ y 0)=some (hY H)/\br (H==11) (R (hQ (hV true)) g) (∃I,g.cell? (hZ y 0)=some (hY I)/\br (I==12) (R (hQ (hV true)) g) (k1 R Xa b3 b5 y U W a6 O E g)))) (R (hQ (hV true)) w)
def l1 (R:EP)(O U:Int)(H:OA)(I g:Nat)(E y:Int)(w:World):Prop:=∀X:Int->Int->OA->Nat->Nat->Int->Int->WP,(∀O U H I g E y w,bl1 R X O U H I g E y w->X O U H I g E y w)->X O U H I g E y w
end dw
def dw (R:EP)(y:OA)(g E:Nat)(H I:Int)(w:World):Prop:=dw.l1 R H I y g E (g:Int) 0 w
theorem dw.sound {R x0q x0n x0c x1 x2 w}(h:dw R x0q x0n x0c x1 x2 w):callE P jv #[hT x0q x0n x0c,hY x1,hY x2] R w:=
 aH [(21,.lp [27,47,183,207,227] (dw.bl1 R) λXa=> [(115,.mk [27,47,166,183,207,227] (dw.k1 R Xa)),(691,.no),(243,.mk [47,166,183,207,227] (dw.k2 R Xa))])] Tryz.func19 Tryz.call19 h

abbrev inC (b:Nat)(v:N16):ai:=(b,cel v.C.toList al)
def OrdSt (xs:List IN)(f t:Nat):Prop:=t<1000000000-> ∀(σ:Out) (R:Ending->World->Prop) (X:Int->Int->OA->Nat->Nat->Int->Int->WP),(∀V W I O y H E w,dw.bl1 R X V W I O y H E w->X V W I O y H E w)->
 ∀(q:OA) (n c:Nat) (vs v1 U:List Value) (RM g L:List ai) (j:Nat) (w:World),v1++U=vs->v1.length=j*16->j+xs.length=n->INs xs U g->Sl 16 al q n c vs RM->n<1073741824->Sat σ w (RM++(g++L))->(∀w,Sat σ w (RM++(g++L))->R (hQ (hV true)) w)->X (f:Nat) (t:Nat) q n c (n:Nat) (j:Nat) w
theorem OrdSt.ok {xs:List IN}{f t:Nat}(E:OrdSt xs f t)(ht:t<1000000000){q:OA}{n c:Nat}{vs:List Value}{RM KM:List ai}(y:INs xs vs KM)(g:Sl 16 al q n c vs RM)(O:n<1073741824)(h:Sat σ w (RM++(KM++L)))(H: ∀w,Sat σ w (RM++(KM++L))->R (hQ (hV true)) w):
 callE P jv #[hT q n c,hY (f:Nat),hY (t:Nat)] R w:=by
 refine dw.sound ?_;intro X I;have U:=y.len;have V:=g.1;exact E ht σ R X I q n c vs [] vs RM KM L 0 w rfl rfl (by omega) y g O h H
theorem Fe {xs:List IN}{f t:Nat}(h:InO xs f t):OrdSt xs f t:=by
 induction h with
 |nil=>
  intro ht σ R X H q n c vs v1 b4 RM b7 L j w hv I V W O b3 h U;simp only[lM1,lN1] at V;exact H _ _ _ _ _ _ _ _ (ae (by rw[decide_eq_false_iff_not];omega) (U w h))
 | @leaf x xs f t b5=>
  intro ht σ R X H q n c vs v1 b4 RM b7 L j w hv I V W O b3 h U;simp only[lF0] at V;refine H _ _ _ _ _ _ _ _ (ag (by rw[decide_eq_true_eq];omega) ⟨by omega,by omega,?_⟩);have a6:=O;obtain⟨_,_,⟨rfl,hz,_,_⟩|⟨g,sp,rfl,rfl,b9⟩⟩:=a6
  ·omega
  refine aa ?_;simp only[lK0,lC0,lN0];cases W with
  | @cons h0 ks _ xq xn xc kvs us2 XR XK XM a1 a2 a3 a4 a5=>
  have a7:(g,cel (v1++((h0.nd xq xn xc).C.toList++(us2++sp))) al)∈([(g,cel (vs++sp) al)]++(((XR++XK)++XM)++L)):=by
   have e:v1++((h0.nd xq xn xc).C.toList++(us2++sp))=vs++sp:=by rw[<-hv];simp only[lD0]
   rw[e];exact .head _
  refine Sat.ldA16 h (h0.nd xq xn xc) (b:=g) (pre:=v1) (suf:=us2++sp) (e:=al) a7 I ?_;refine Sat.bx h λy w h=>?_
  have h:Sat σ w (inC y {}::([(g,cel (vs++sp) al)]++(((XR++XK)++XM)++L))):=h
  refine h.st16 0 {} (h0.nd xq xn xc) λw h=>?_
  have h:Sat σ w (inC y (h0.nd xq xn xc)::([(g,cel (vs++sp) al)]++(((XR++XK)++XM)++L))):=h
  refine⟨((h0.kind:Nat):Int),Sat.ld h (.head _) (i:=0) rfl,ag ?_ (U w (h.less [inC y (h0.nd xq xn xc)]))⟩;have b5:20<=h0.kind:=b5;rw[decide_eq_true_eq];omega
 | @cons h0 ks xs f t ek e1 e2 e3 e4 e5 ih1 ih2=>
  intro ht σ R X H q n c vs v1 b4 RM b7 L j w hv I V W O b3 h U;simp only[lF0] at V;refine H _ _ _ _ _ _ _ _ (ag (by rw[decide_eq_true_eq];omega) ⟨by omega,by omega,?_⟩);have a6:=O;obtain⟨_,_,⟨rfl,hz,_,_⟩|⟨g,sp,rfl,rfl,b9⟩⟩:=a6
  ·omega
  refine aa ?_;simp only[lK0,lC0,lN0];cases W with
  | @cons _ _ _ xq xn xc kvs us2 XR XK XM a1 a2 a3 a4 a5=>
  have a7:(g,cel (v1++((h0.nd xq xn xc).C.toList++(us2++sp))) al)∈([(g,cel (vs++sp) al)]++(((XR++XK)++XM)++L)):=by
   have e:v1++((h0.nd xq xn xc).C.toList++(us2++sp))=vs++sp:=by rw[<-hv];simp only[lD0]
   rw[e];exact .head _
  refine Sat.ldA16 h (h0.nd xq xn xc) (b:=g) (pre:=v1) (suf:=us2++sp) (e:=al) a7 I ?_;refine Sat.bx h λy w h=>?_
  have h:Sat σ w (inC y {}::([(g,cel (vs++sp) al)]++(((XR++XK)++XM)++L))):=h
  refine h.st16 0 {} (h0.nd xq xn xc) λw h=>?_
  have h:Sat σ w (inC y (h0.nd xq xn xc)::([(g,cel (vs++sp) al)]++(((XR++XK)++XM)++L))):=h
  have b6: ∀d:Nat,h0.kind≠d->(((h0.kind:Nat):Int)==((d:Nat):Int))=false:=λd hd=>by rw[uP,decide_eq_false_iff_not];omega
  have E:inC y (h0.nd xq xn xc)∈(inC y (h0.nd xq xn xc)::([(g,cel (vs++sp) al)]++(((XR++XK)++XM)++L))):= .head _
  refine⟨((h0.kind:Nat):Int),Sat.ld h E (i:=0) rfl,ae (by rw[decide_eq_false_iff_not];omega) ⟨((h0.kind:Nat):Int),Sat.ld h E (i:=0) rfl,ae (b6 11 (by omega)) ⟨((h0.kind:Nat):Int),Sat.ld h E (i:=0) rfl,ae (b6 12 (by omega)) ?_⟩⟩⟩;refine⟨((h0.s:Nat):Int),Sat.ld h E (i:=8) rfl,ae (by rw[decide_eq_false_iff_not];omega) ?_⟩;refine⟨((h0.e:Nat):Int),Sat.ld h E (i:=9) rfl,((h0.s:Nat):Int),Sat.ld h E (i:=8) rfl,ae (by rw[decide_eq_false_iff_not];omega) ?_⟩;refine⟨((h0.e:Nat):Int),Sat.ld h E (i:=9) rfl,ae (by rw[decide_eq_false_iff_not];omega) ?_⟩;refine⟨xq,xn,xc,Sat.ld h E (i:=7) rfl,((h0.s:Nat):Int),Sat.ld h E (i:=8) rfl,((h0.e:Nat):Int),Sat.ld h E (i:=9) rfl,?_⟩;have h:Sat σ w (XR++(XK++(inC y (h0.nd xq xn xc)::([(g,cel (vs++sp) al)]++(XM++L))))):=h.re
  refine OrdSt.ok ih1 (by omega) a3 a4 a2 h λw h=>⟨_,rfl,ae rfl ?_⟩
  have h:Sat σ w (inC y (h0.nd xq xn xc)::([(g,cel (vs++sp) al)]++(XM++((XR++XK)++L)))):=h.re
  refine⟨((h0.e:Nat):Int),Sat.ld h (.head _) (i:=9) rfl,?_⟩;rw[aN (by omega),aN (by omega)];refine ih2 ht σ R X H (kE g) n c vs (v1++(h0.nd xq xn xc).C.toList) us2 [(g,cel (vs++sp) al)] XM ((XR++XK)++L) (j+1) w (by rw[<-hv];simp only[lD0]) (by rw[lA0,I,lB6];rfl) (by omega) a5 O b3 (h.less [inC y (h0.nd xq xn xc)]) λw h=>U w h.re
end Go.Proofs.YtendaipfdnhnaaaGreatDoor
