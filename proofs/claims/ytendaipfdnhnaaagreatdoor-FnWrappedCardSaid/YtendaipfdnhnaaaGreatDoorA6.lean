/- Part 6 of the proof of the law FnWrapped: for every input the law returns true, the inputs read as they did, and memory that was there is as it was; under the conditions of the given row alone. -/
import Derived.Test.YtendaipfdnhnaaaGreatDoorA5
set_option linter.all false
open Go.IntKind(i64)
open ByteArray renaming mk→hP
open List renaming replicate→hN
namespace Go.Proofs.YtendaipfdnhnaaaGreatDoor
open Go.Proofs Go.IntWalk Go.RowKit
set_option maxRecDepth 20000
variable {σ:Out} {w:World} {L L':List ai} {R:Ending->World->Prop} {G:List UInt8->List Inl} {op:Opt}

structure CoL (F s:List UInt8):Prop where
 go: ∀l,LnR l s->wz F l
 nb:s.all cO=false
theorem LnR.str {l:Ln}{s:List UInt8}(h:LnR l s):l.str=s:=by unfold Ln.str;rw[h.sp,h.tx];rfl
theorem fenGo {ec:ai}{Q:List DB->Prop}{rem:List (List UInt8)}{cx:List CX}{s0:Nat}{F info:List UInt8}(e3:BP ec)(c5:cx.length<1000): ∀(rest E:List (List UInt8)) (n:Nat) (root top:Bk) (cf gs:List Bk),FrX n cx cf->root.isRoot->root::cf=gs++ [top]->(∀f∈gs++ [top],f.ob.e<1000000000)->(∀s∈rest,CoL F s/\(ctx cx s).length<100000)->E.length+rest.length<100000->n+rest.length<1000000->
 (∀g y O I,Sims gs g->top.sim y->O.isRoot->O::I=g++ [y]->FrX (n+rest.length) cx I->OkL ec op Q rem (n+rest.length) (g++ [y]) (En s0 (n+rest.length) F info (E++rest)))->OkL ec op Q (rest.map (ctx cx)++rem) n (gs++ [top]) (En s0 n F info E):=by
 intro rest
 induction rest with
 |nil=>
  intro E n root top cf gs b3 hr a6 a7 V b8 b7 W;have:=W gs top root cf (Sims.refl λf b4=>a7 f (by simp[b4])) (Bk.sim.rfl' (a7 top (by simp))) hr a6 b3
  simpa using this
 |cons s rest e7=>
  intro E n root top cf gs b3 hr a6 a7 V b8 b7 W;simp only[lF0] at b8 b7;obtain⟨hs,e1⟩:=V s (.head _)
  show∀nl,qz [ec] op (n+1) (ctx cx s) nl (gs++top:: []) (En s0 n F info E) (OkL ec op Q (rest.map (ctx cx)++rem) (n+1))
  intro nl;refine Bf b3.toS hr a6 (λa x f0 _=>CP hs.nb _) c5 e1 λσ R L b b1 pb p w X g y O I l2 e4 d0 f3 f2 d1 f6 e6 e8 b6 d3 b5 U c4 hd f1 h e9=>?_
  have e0:l2.blank=false:=by unfold Ln.blank;rw[U.tx];exact hs.nb
  have f4:=b6.len;have f5:g.length=I.length:=by have:=congrArg List.length b5;simp at this;omega
  have c2: ∀f∈g++ [y],f.ob.e<1000000000:=by
   obtain⟨_,_,_,_,_,_,e2,_⟩:=h;exact λf b4=>(e2 f b4).2.2.2
  refine Fa (gs:=g++ [y]) e4 h (by simp;omega) ⟨by simp,by simp;omega⟩ U.ok e0 c4 (by omega) e3 d0 (hs.go l2 U) λw p' c9 c3 h=>?_
  rw[U.str,d1] at h;refine e9 w p' _ _ c9 c3 (e7 (E++ [s]) (n+1) O y I g b6 d3 b5 c2 (λx e5=>V x (.tail _ e5)) (by simp;omega) (by omega) λc8 c1 b9 d2 a1 a2 a3 a4 a5=>?_) h;have e:n+(s::rest).length=n+1+rest.length:=by simp;omega
  have:=W c8 c1 b9 d2 (e6.trans a1) (e8.trans a2) a3 a4 (by rw[e];exact a5);rw[e] at this;rw[lD0];exact this
theorem Fq (d2:op.task=false){ec:ai}{d:Nat}{info:List UInt8}{ls:List (List UInt8)}(b3:BP ec)(g6: ∀c∈info,BW c=true)(f5:info.length<10000)(g1: ∀s∈ls,CoL [96,96,96] s)(e5:ls.head? ≠some [])(e3:(dK ls).length<1073741824):
 BlkP G op ec ((96::96::96::info)::(ls++ [[96,96,96]])) (λn=> .mk {kind:=7,text:=dK ls,title:=info,mark:= [96,96,96],s:=n,e:=n+ls.length+1} []) d none:=by
 intro cx root top cf gs junk pend0 rem n Q n0 g3 b8 hr U a6 d1 m5 o2 y g σ R L b b1 pb p w l o3 m2 W c3 c1 V hd a7 I h E;have a7:LnR l (hN 3 96++info):=a7;have m4:=a6.len;have n2:gs.length=cf.length:=by have:=congrArg List.length U;simp at this;omega
 have en:n+((96::96::96::info)::(ls++ [[96,96,96]])).length=n+1+ls.length+1:=by simp;omega
 have g: ∀fs lf,St G op cx d (n+((96::96::96::info)::(ls++ [[96,96,96]])).length) gs top (pend0++ [.mk {kind:=7,text:=dK ls,title:=info,mark:= [96,96,96],s:=n+1,e:=n+1+ls.length+1} []]) fs lf->OkL ec op Q rem (n+((96::96::96::info)::(ls++ [[96,96,96]])).length) fs lf:=g
 rw[en] at g g3;have j0:=d1.len;refine A5 d2 d1 h hd (by omega) (sT a6.toS hr U) a7 I (by decide) (by decide) g6 f5 b3 W (y.le (by omega)).1 (y.le (by omega)).2 c1 c3 (by omega) λw p' b6 h6 g4 h7 k1 k2 k3 k4 h=>?_
 rw[V] at h;obtain⟨d3,f6,i0,r2,h2⟩:=j6 a6 hr U k1;have g0: ∀f∈gs++ [b6],f.ob.e<1000000000:=by
  obtain⟨_,_,_,_,_,_,f0,_⟩:=h;exact λf g5=>(f0 f g5).2.2.2
 have n1:=k3.len;have e0:((96::96::96::info)::(ls++ [[96,96,96]])).tail.map (ctx cx)++rem=ls.map (ctx cx)++(ctx cx [96,96,96]::rem):=by simp
 rw[e0] at E;refine E w p' _ _ g4 h7 (fenGo b3 (by omega) ls [] (n+1) d3 b6 f6 gs h2 r2 i0 g0 (λx d0=>⟨g1 x d0,b8 x (by simp[d0])⟩) (by simp;omega) (by omega) λe4 e1 i2 m3 a1 a2 a3 a4 a5=>?_) h
 show∀nl,qz [ec] op (n+1+ls.length+1) (ctx cx [96,96,96]) nl (e4++e1:: []) (En (n+1) (n+1+ls.length) [96,96,96] info ([]++ls)) (OkL ec op Q rem (n+1+ls.length+1))
 intro nl;have b5:([96,96,96]:List UInt8).all cO=false:=by decide
 refine Bf a5.toS a3 a4 (λa x k0 _=>CP b5 _) (by omega) (b8 _ (by simp)) λσ R L b b1 pb p w X c2 b7 i4 f3 l2 g7 W c3 c1 V n3 h9 b4 c5 f4 b9 O I hd m6 h E=>?_
 have e6:l2.blank=false:=by unfold Ln.blank;rw[O.tx];exact b5
 have i8:=c5.len;have m1:c2.length=f3.length:=by have:=congrArg List.length b9;simp at this;omega
 have f1:LnR l2 (hN 3 96++ []):=O;obtain⟨h8,h4,o4,f7⟩:=tT (word:= []) (by decide) (λc hc=>by cases hc) f1;have e7: ¬ wz [96,96,96] l2:=λh0=>h0 3 96 [] [] f7 rfl
 have e2:Ef [96,96,96] l2:=⟨h8,λn c t info i1=>by
  obtain⟨rfl,rfl,rfl⟩:=h4 n c t info i1;exact⟨rfl,rfl⟩⟩
 have e9:b7.D.length<=90000:=by
  have:=y.all.1 top (by simp);rw[b4.2.2.1,a2.2.2.1,k2];simp;omega
 refine Ha (gs:=c2) (top:=b7) g7 h hd (by omega) O.ok e6 I (by simp;omega) b3 W e7 e2 e9 λw p' j1 nb q c h5 f2 g2 c9 c8 e8 l5 h=>?_
 obtain⟨i3,o0,t1,h3,h1⟩:=j6 c5 f4 b9 c9;rw[V] at c8;have c4:=St.fin (G:=G) (op:=op) (d:=d) (pend:= []) (ds2:=h6++ [m0 nb (n+1) (n+1+ls.length+1) [96,96,96] info q ls.length c h5]) y (c9.lk.trans (b4.lk.trans (a2.lk.trans k1.lk))) (by rw[c8,b4.2.2.1,a2.2.2.1,k2,lD0];rfl) (k3.append (.cons (Gs e8 (by omega) e3 e5 (by decide) (by omega) (by omega) (by omega)) .nil)) (by simp;omega) (by rw[di];simp[cj,m0];simp[cj] at k4;omega) (a1.trans h9) h3 t1 h1 .none (by omega)
 rw[lG0] at c4;exact E w p' _ _ f2 g2 (g _ _ c4) h

theorem qy {c:UInt8}(h:97<=c.toNat/\c.toNat<=122):wB c=true/\spB c=false/\puB c=false/\c<128/\c≠42/\BW c=true:=by
 have:(List.range 256).all (λn=>(!(decide (97<=n) && decide (n<=122)))||(wB (UInt8.ofNat n) && !spB (UInt8.ofNat n) && !puB (UInt8.ofNat n) && decide (UInt8.ofNat n<128) && UInt8.ofNat n !=42 && BW (UInt8.ofNat n)))=true:=by kernel_rfl
 have:=lF2.1 this c.toNat (lY2.2 c.toNat_lt);rw[lA4] at this;simp[h.1,h.2] at this;exact⟨this.1.1.1.1.1,this.1.1.1.1.2,this.1.1.1.2,this.1.1.2,this.1.2,this.2⟩
theorem Gh {s:List UInt8}(E:s≠ [])(h: ∀c∈s,97<=c.toNat/\c.toNat<=122)(c4:s.length<=100):WdP s:=by
 refine⟨E,λc hc=>(qy (h c hc)).1,c4,?_,?_⟩
 ·intro b p A B k d0 U;obtain⟨c,t,rfl⟩:=lD1 E;obtain⟨_,W,b4,b5,b6,_⟩:=qy (h c (.head _));generalize hr:A++32::(hN k 42++(c::t++B))=raw at U;have b9:raw.length=A.length+(1+(k+(t.length+1+B.length))):=by rw[<-hr];simp;omega
  have r2:raw=(A++ [32])++(hN k 42++(c::t++B)):=by rw[<-hr];simp
  have I:raw=(A++ [32]++hN k 42)++(c::(t++B)):=by rw[r2,lD0 (A++ [32])];rfl
  have l2:(A++ [32]).length=A.length+1:=by simp
  have l3:(A++ [32]++hN k 42).length=A.length+1+k:=by simp;omega
  have O: ∀m,A.length+1<=m->m<A.length+1+k->raw.getD m 0=42:=by
   intro m c3 c8;rw[r2,qm (by omega),l2,nT (by simp;omega),lS0,lC6,if_pos (by omega)];rfl
  have V:raw.getD (A.length+1+k) 32=c:=by
   rw[I,lS0,lI0 (by omega),l3,lQ1];rfl
  have b7:raw.getD (A.length+1+k) 0=c:=by
   rw[I,lS0,lI0 (by omega),l3,lQ1];rfl
  have y:AH raw (A.length+1)=32:=by
   unfold AH;rw[if_neg (by omega),lF3,<-hr,lS0,lI0 (lE1 _),lQ1];rfl
  have g:AO raw (A.length+1+k)=c:=V;have:=o8 (b:=b) (p:=p) (s:=raw) (i:=A.length+1) (j:=A.length+1+k) (by omega) (by omega) (by omega) O (λ_=>by rw[b7];exact b6) (by rw[y];decide) (by rw[g];exact b5)
  rw[y,g,show A.length+1+k - (A.length+1)=k by omega] at this;have a6:vT 32 c=true:=by unfold vT;rw[W,b4];rfl
  have b3:rI 32 c=false:=rfl;have a7:sub raw (A.length+1) (A.length+1+k)=hN k 42:=by
   have:=qM (A++ [32]) (hN k 42) (c::t++B)
   rw[<-r2,l2,lG2] at this;exact this
  rw[a6,b3,a7] at this;exact this
 ·intro b p A B k d0 c5 U;obtain⟨t,c,rfl⟩: ∃t c,s=t++ [c]:=⟨s.dropLast,s.getLast E,(lY3 E).symm⟩
  obtain⟨_,W,b4,b5,b6,_⟩:=qy (h c (by simp));generalize hr:A++(t++ [c]++(hN k 42++B))=raw at U;have b9:raw.length=A.length+(t.length+1+(k+B.length)):=by rw[<-hr];simp;omega
  have c2:(t++ [c]).length=t.length+1:=by simp
  rw[c2];have c9:raw=(A++t)++c::(hN k 42++B):=by rw[<-hr];simp
  have r2:raw=(A++(t++ [c]))++(hN k 42++B):=by rw[<-hr];simp
  have I:raw=(A++(t++ [c])++hN k 42)++B:=by rw[r2,lD0 (A++(t++ [c]))]
  have l2:(A++(t++ [c])).length=A.length+(t.length+1):=by simp
  have l3:(A++(t++ [c])++hN k 42).length=A.length+(t.length+1)+k:=by simp;omega
  have O: ∀m,A.length+(t.length+1)<=m->m<A.length+(t.length+1)+k->raw.getD m 0=42:=by
   intro m c3 c8;rw[r2,qm (by omega),l2,nT (by simp;omega),lS0,lC6,if_pos (by omega)];rfl
  have V: ∃d:UInt8,(d=32\/d=10)/\AO raw (A.length+(t.length+1)+k)=d:=by
   unfold AO;rw[I,lS0,lI0 (by omega),l3,lQ1];rcases c5 with rfl|⟨B',rfl|rfl⟩
   ·exact⟨32,.inl rfl,rfl⟩
   ·exact⟨32,.inl rfl,rfl⟩
   ·exact⟨10,.inr rfl,rfl⟩
  obtain⟨d,hd,g⟩:=V;have b8:A.length+(t.length+1)+k<raw.length->raw.getD (A.length+(t.length+1)+k) 0≠42:=by
   intro c1;have:raw.getD (A.length+(t.length+1)+k) 0=d:=by
    unfold AO at g;rw[lS0,lH0 c1] at g⊢;exact g
   rw[this];rcases hd with rfl|rfl<;>decide
  have y:AH raw (A.length+(t.length+1))=c:=by
   unfold AH;rw[if_neg (by omega),show A.length+(t.length+1) - 1=(A++t).length by simp,c9,lS0,lI0 (lE1 _),lQ1];rfl
  have:=o8 (b:=b) (p:=p) (s:=raw) (i:=A.length+(t.length+1)) (j:=A.length+(t.length+1)+k) (by omega) (by omega) (by omega) O b8 (by rw[y];exact b5) (by rw[g];rcases hd with rfl|rfl<;>decide)
  rw[y,g,show A.length+(t.length+1)+k - (A.length+(t.length+1))=k by omega] at this;have a6:vT c d=false:=by rcases hd with rfl|rfl<;>rfl
  have b3:rI c d=true:=by unfold rI;rw[W,b4];rfl
  have a7:sub raw (A.length+(t.length+1)) (A.length+(t.length+1)+k)=hN k 42:=by
   have:=qM (A++(t++ [c])) (hN k 42) B;rw[<-r2,l2,lG2] at this;exact this
  rw[a6,b3,a7] at this;exact this
abbrev LT:=List UInt8 × List Tk
def Hr:Tk->Prop
 | .wd s=>WdP s
 | .em k s=>WdP s/\(k=1\/k=2)
 | .cd s=>WdP s
 | .lk s d=>WdP s/\DsP d
 | .es s=>WdP s
 |_=>False
def xD (x:LT):Prop:=WdP x.1/\ ∀t∈x.2,Hr t
def q9 (l:List Tk):List Tk:=l.flatMap λt=> [.sp,t]
def d9 (x:LT):List Tk:= .wd x.1::q9 x.2
def cv (x:LT):List UInt8:=tkB (d9 x)
def ft:List LT->List Tk
 | []=> []
 | [x]=>d9 x
 |x::y::r=>d9 x++ .nl::ft (y::r)
theorem mz: ∀ls:List LT,tkB (ft ls)=bl [10] (ls.map cv)
 | []=>rfl
 | [x]=>by simp[ft,bl,cv]
 |x::y::r=>by
  have g:=mz (y::r)
  have e:bl [10] ((x::y::r).map cv)=cv x++10::bl [10] ((y::r).map cv):=by simp[bl]
  rw[e,<-g,ft,uE,cw];rfl
theorem CN {r:List Tk}(hr:okT 2 r): ∀l:List Tk,(∀t∈l,Hr t)->okT 2 (q9 l++r)
 | [],_=>hr
 |t::l,h=>by
  have g:=CN hr l λx y=>h x (.tail _ y)
  have ht:=h t (.head _);have e:q9 (t::l)++r= .sp::t::(q9 l++r):=rfl
  rw[e];refine⟨rfl,?_⟩;cases t with
  |wd s=>exact⟨by decide,ht,g⟩
  |sp=>exact ht.elim
  |nl=>exact ht.elim
  |em k s=>exact⟨rfl,ht.1,ht.2,g⟩
  |cd s=>exact⟨rfl,ht,g⟩
  |lk s d=>exact⟨rfl,ht.1,ht.2,g⟩
  |es s=>exact⟨rfl,ht,g⟩
theorem sG {x:LT}{r:List Tk}(h:xD x)(hr:okT 2 r):okT 0 (d9 x++r):=⟨by decide,h.1,CN hr x.2 h.2⟩
theorem p6: ∀ {ls:List LT},ls≠ []->(∀x∈ls,xD x)->okT 0 (ft ls)
 | [],h,_=>absurd rfl h
 | [x],_,h=>by
  have:=sG (r:= []) (h x (.head _)) rfl;rw[lG0] at this;exact this
 |x::y::r,_,h=>sG (h x (.head _)) ⟨rfl,p6 (ls:=y::r) (by simp) λz hz=>h z (.tail _ hz)⟩
theorem qY {x:LT}(h:xD x): ∃c r,cv x=c::r/\wB c=true:=by
 obtain⟨c,t,g⟩:=lD1 h.1.ne;refine⟨c,t++tkB (q9 x.2),?_,h.1.by_ c (by rw[g];exact .head _)⟩
 show x.1++_=_
 rw[g];rfl
theorem sy {c:UInt8}(h:wB c=true):oA c=true/\cO c=false/\lS c=false/\c≠45/\c≠60/\c≠61/\c≠10/\c≠13/\c≠0/\c≠91:=by
 have:=lF2.1 (show (List.range 256).all (λn=> !(wB (UInt8.ofNat n))||(oA (UInt8.ofNat n) && !cO (UInt8.ofNat n) && !lS (UInt8.ofNat n) && UInt8.ofNat n !=45 && UInt8.ofNat n !=60 && UInt8.ofNat n !=61 && UInt8.ofNat n !=10 && UInt8.ofNat n !=13 && UInt8.ofNat n !=0 && UInt8.ofNat n !=91))=true by kernel_rfl) c.toNat (lY2.2 c.toNat_lt);rw[lA4,h] at this
 simpa[and_assoc] using this
theorem zY {x:LT}(h:xD x):TxL (cv x):=by
 obtain⟨c,r,e,hc⟩:=qY h;obtain⟨W,E,_,V,O,U,_⟩:=sy hc;rw[e];refine⟨λl I=>?_,by rw[lN3,E];rfl⟩;have y:=I.has;have a6:=y.plain W;have g:(l.lead 3 false).peek=c:=by rw[y.lead E 2];exact y.peek
 refine⟨⟨a6,by rw[g];exact O,by rw[g];exact V,by rw[g];exact U⟩,?_⟩;unfold Ln.rest;rw[I.tx,lL2 (by simp[E])]
theorem rL {op:Opt}(I:op.auto=false){ls:List LT}(U:ls≠ [])(h: ∀x∈ls,xD x)(O:(bl [10] (ls.map cv)).length<200000):yC wE op (ls.map cv):=by
 have g:=p6 U h;have y:=mz ls;have E:=uD I g (by rw[y];exact O);have hd:=AB g;rw[y] at E hd;refine⟨Leaf.fin.toN (lf:= .para (ls.map cv)) ⟨by omega,?_,?_⟩,?_,?_⟩
 ·rw[<-y];obtain⟨s,r,e,hs⟩:=g.first
  rw[e];obtain⟨c,t,rfl⟩:=lD1 hs.ne;simp[cw,Tk.B]
 ·rw[<-y];obtain⟨s,r,e,hs⟩:=g.first
  rw[e];obtain⟨c,t,rfl⟩:=lD1 hs.ne;have hc:=sy (hs.by_ c (.head _));have V:tkB (.wd (c::t)::r)=c::(t++tkB r):=rfl
  rw[V,lL2 (by simp[hc.2.2.1])];simp[hc.2.2.2.2.2.2.2.2.2]
 ·rw[hd];exact E
 ·rw[hd];exact Cq g (by rw[y];simp;omega)
theorem Dr {op:Opt}(O:op.task=false)(V:op.ids=false)(U:op.auto=false){ec:ai}{d lv:Nat}(W:1<=lv/\lv<=6){x:LT}(h:xD x)(I:(cv x).length<90000):
 BlkP wE op ec [hN lv 35++32::cv x] (λn=> .mk {kind:=5,num:=(lv:Nat),s:=n,e:=n} (eK (tkG Tk.out [] (d9 x)))) d none:=by
 have g:okT 0 (d9 x):=by
  have:=sG (r:= []) h rfl;rw[lG0] at this;exact this
 have hd:=AB g;obtain⟨m,a6,e,a7,b3⟩:=g.last (by simp[d9]);have E:=uD (o:=op) U g (by show (cv x).length<_;omega);have y:=Cq (p:= []) g (by show [].length+(cv x).length<_;simp;omega);have e':cv x=m++ [a6]:=e;rw[<-hd] at E y⊢;rw[e] at E y⊢;rw[e'] at I⊢;exact Fp (G:=wE) O V W ⟨a7,b3⟩ (by simp at I;omega) E y
theorem A8 {op:Opt}(y:op.task=false)(E:op.table=false)(I:op.auto=false){ec:ai}{d:Nat}{ls:List LT}(g:ls≠ [])(h: ∀x∈ls,xD x)(O:(bl [10] (ls.map cv)).length<200000):
 BlkP wE op ec (ls.map cv) (λn=> .mk {kind:=6,s:=n,e:=n+ls.length - 1} (eK (tkG Tk.out [] (ft ls)))) d none:=by
 have:=Fn (G:=wE) y E (ec:=ec) (d:=d) (ls:=ls.map cv) (by simpa using g) (λs hs=>by obtain⟨x,U,rfl⟩:=lU1.1 hs;exact zY (h x U)) (rL I g h O)
 rw[lQ0,<-mz,AB (p6 g h)] at this;exact this
theorem wZ {op:Opt}(y:op.task=false)(E:op.table=false)(I:op.auto=false){ec:ai}{d:Nat}{c:UInt8}(hc:c=61\/c=45){ls:List LT}(g:ls≠ [])(h: ∀x∈ls,xD x)(O:(bl [10] (ls.map cv)).length<200000):
 BlkP wE op ec (ls.map cv++ [[c,c,c]]) (λn=> .mk {kind:=5,num:=(BV c:Nat),s:=n,e:=n+ls.length} (eK (tkG Tk.out [] (ft ls)))) d none:=by
 have:=BH (G:=wE) y E (ec:=ec) (d:=d) hc (ls:=ls.map cv) (by simpa using g) (λs hs=>by obtain⟨x,U,rfl⟩:=lU1.1 hs;exact zY (h x U)) (rL I g h O)
 rw[lQ0,<-mz,AB (p6 g h)] at this;exact this
def rp (x:Nat × List UInt8):List UInt8:=hN x.1 32++x.2
theorem Fh {k:Nat}{s:List UInt8}(V:k<=3)(hs:WdP s):CoL [96,96,96] (rp (k,s)):=by
 obtain⟨c,t,rfl⟩:=lD1 hs.ne;have hc:=hs.by_ c (.head _);have E:=(B4 hc).1;refine⟨λl I=>?_,?_⟩
 ·intro n d u info W;have O:=LnR.strip (c:=c) (r:=t) E k 3 0 V I
  obtain⟨U,a6,g,_⟩:=W;have y:=LnR.skip (a:=hN k 32) I;rw[O] at g;rw[lG2] at y;have:({l with i:=l.i+k}:Ln).peek=c:=y.has.peek
  exfalso;have g:c=d:=this.symm.trans g;subst g;rcases U with rfl|rfl
  ·exact absurd hc (by decide)
  ·exact absurd hc (by decide)
 ·show (hN k 32++c::t).all cO=false
  rw[lG5,lN3,E];simp

def Ec (G:List UInt8->List Inl)(op:Opt)(ec:ai)(ls:List (List UInt8))(xs:Nat->List IN)(d:Nat)(bc:Option UInt8):Prop:=
 ∀(cx:List CX) (root top:Bk) (cf gs junk:List Bk) (pend0:List IN) (rem:List (List UInt8)) (n:Nat) (Q:List DB->Prop),cx.length+d<=400->n+ls.length<=20000->(∀s∈ls,(ctx cx s).length<100000)->root.isRoot->root::cf=gs++ [top]->FrX (n+1) cx cf->Pd G op pend0 junk .none->junk.length<=900->(∀c,bc=some c->Ed c junk)->BDi n gs top junk->
  (∀fs lf,St G op cx d (n+ls.length) gs top (pend0++xs (n+1)) fs lf->OkL ec op Q rem (n+ls.length) fs lf)->
  ∀(σ:Out) (R:Ending->World->Prop) (L:List ai) (b b1 pb:Nat) (p:PS) (w:World) (l:Ln) (E:OA->Nat->WP),Runs R E b b1->ec∈L->op.at pb∈L->p.pz=kE pb->p.lineno=n+1->p.depth=gs.length->LnR l (ls.headD [])->l.text.length<100000->DocC σ b (l.at b1::L) (gs++top::junk) .none p w->
   (∀w (p':PS) y g,p'.base=p.base->p'.lineno=p.lineno->OkL ec op Q (ls.tail.map (ctx cx)++rem) (n+1) y g->DocC σ b L y g p' w->R (hQ (.tuple #[])) w)->ak.bl102 R E (kE b) b1 w
theorem BlkP.seq {ec:ai}{ls:List (List UInt8)}{x:Nat->IN}{d:Nat}{bc:Option UInt8}(h:BlkP G op ec ls x d bc):Ec G op ec ls (λn=> [x n]) d bc:=h
theorem St.comp {cx:List CX}{d n:Nat}{gs0 E fs:List Bk}{top0 g:Bk}{dsA:List DB}{accA p2 xsA y:List IN}{lf:Leaf}(a7:Sims gs0 E)(b9:g.lk top0)(b6:g.D=top0.D++dsA)(c2:TDs G op dsA accA)(V:accA++p2=xsA)(h:St G op cx d n E g (p2++y) fs lf):St G op cx d n gs0 top0 (xsA++y) fs lf:=by
 obtain⟨root,cf,gs,top,junk,b8,O,pend,e,hr,I,W,b4,c1,U,a6,b3,b7,b5,c3⟩:=h;exact⟨root,cf,gs,top,junk,dsA++b8,accA++O,pend,e,hr,I,W,a7.trans b4,c1.trans b9,by rw[U,b6,lD0],c2.append a6,b3,by rw[lD0,b7,<-lD0,V],b5,c3⟩
theorem FL {ec:ai}{ls:List (List UInt8)}{xs:Nat->List IN}{d:Nat}{bc:Option UInt8}(g5:Ec G op ec ls xs d bc){c0:UInt8}{r0:List UInt8}(b6:ls.headD []=c0::r0)(a6:cO c0=false){cx:List CX}{root top:Bk}{cf gs junk:List Bk}{pend0:List IN}{rem:List (List UInt8)}{n:Nat}{Q:List DB->Prop}(d3:cx.length+d<=400)(f3:n+ls.length<=20000)(U: ∀s∈ls,(ctx cx s).length<100000)(hr:root.isRoot)(d2:root::cf=gs++ [top])(f4:FrS cx cf)(c1:Pd G op pend0 junk .none)(d1:junk.length<=900)(d0:junk= []\/ ∃f rest lb num it,∃bul:UInt8,junk=f::rest/\f.isList lb bul.toNat num it)(e8: ∀c,bc=some c->Ed c junk)(b9:BD n (gs++top::junk))(c5: ∀y E,Sims gs y->top.sim E-> ∀fs lf,St G op cx d (n+ls.length) y E (pend0++xs (n+1)) fs lf->OkL ec op Q rem (n+ls.length) fs lf):OkL ec op Q (ls.map (ctx cx)++rem) n (gs++top::junk) .none:=by
 obtain⟨s,rest,rfl⟩: ∃s rest,ls=s::rest:=by
  cases ls with
  |nil=>cases b6
  |cons s rest=>exact⟨s,rest,rfl⟩
 have hs:s=c0::r0:=b6
 have b3:s.all cO=false:=by rw[hs,lN3,a6];rfl
 simp only[lF0] at f3
 show∀nl,qz [ec] op (n+1) (ctx cx s) nl (gs++top::junk) .none (OkL ec op Q (rest.map (ctx cx)++rem) (n+1))
 intro nl;refine Bf f4 hr d2 (λa x g7 _=>CP b3 _) (by omega) (U s (.head _)) λσ R L b b1 pb p w X y E c4 a7 l2 b7 e0 e4 e2 e3 h4 b8 c3 b4 e5 V I c9 hd h1 h g3=>?_
 have e7:l2.blank=false:=by unfold Ln.blank;rw[I.tx];exact b3
 have h2:=b4.len;have h3:y.length=a7.length:=by have:=congrArg List.length V;simp at this;omega
 have e6:BD n (y++E::junk):=by
  obtain⟨_,_,_,_,_,_,e9,_⟩:=h;have W:Sims (gs++top::junk) (y++E::junk):=Sims.append b8 (.cons c3 (Sims.refl λf O=>(e9 f (by simp[O])).2.2.2))
  exact⟨Cz W b9.1,by rw[W.mem.2];exact b9.2⟩
 have go: ∀w,DocC σ b (l2.at b1::L) (y++E::junk) .none p w->ak.k2 R (kE b) b1 w:=by
  intro w h;refine k2nb h I.ok e7 λw h=>?_
  refine g5 cx c4 E a7 y junk pend0 rem n Q d3 (by simp;omega) U e5 V b4 c1 d1 e8 e6.i (c5 y E b8 c3) σ R L b b1 pb p w l2 _ (Runs.top b b1) e0 e4 e2 e3 hd I c9 h λw p' e1 f0 a1 a2 a3 h=>?_
  exact g3 w p' e1 f0 a1 a2 a3 h
 rcases d0 with rfl|⟨f,g6,lb,num,it,bul,rfl,O⟩
 ·exact endX b7 h (by simp;omega) ⟨by simp,by simp;omega⟩ go
 ·have c8:LnR l2 (c0::r0):=by rw[<-hs];exact I
  have b5:=O.1;cases c1 with
  |quote g2 _ _=>
   obtain⟨h5,f5,_⟩:=g2;rw[f5] at b5;cases b5
  | @list _ g junk2 _ lb2 wd2 bul2 num2 it2 items ixs xs2 ys2 hf2 hfD hit hg hwd hu hxs hys=>
   obtain⟨ib,g0,h7,f6⟩:=hg;obtain⟨g1,f7⟩:=hf2;have h:DocC σ b (l2.at b1::L) ((y++ [E])++f::(g::junk2)) .none p w:=by simpa using h
   refine Gw b7 h (by simp;omega) ⟨by simp,by simp;omega⟩ I.ok (λh6 K w c2 h g4=>?_) λw h=>go w (by simpa using h)
   rw[g1];refine bq gM ?_;refine ma (ib:=ib) (lb:=lb2) (n:=wd2) (hv:=true) (bul:=bul2.toNat) (num:=num2) (lo:=false) (td:= .nilFunc) h I.ok (by omega) ?_ ?_ (by rw[c8.padNo a6 hwd.1];exact⟨rfl,rfl⟩) g4
   ·rw[<-g0];exact c2 f (by simp) _ (by rw[f7];exact .head _)
   ·exact c2 g (by simp) _ (by rw[f6];exact .head _)

theorem GV {E pend pend0:List IN}{x g:IN}(h:E++pend=pend0++ [x])(I:pend= [g]):g=x:=by
 subst I;exact(lG4 h rfl).2|>λh=>by simpa using h
theorem Ez (d3:op.task=false){ec:ai}{y E:List (List UInt8)}{V:Nat->IN}{a7:Nat->List IN}{d:Nat}{b9 b6:Option UInt8}(i1:BlkP G op ec y V d b9)(e5:y≠ [])(k0:Ec G op ec E a7 d b6){c0:UInt8}{r0:List UInt8}(g6:E.headD []=c0::r0)(f7:cO c0=false)(f4: ∀c,b6=some c-> ∀n,(V n).h.char≠ [c]):
 Ec G op ec (y++ []::E) (λn=>V n::a7 (n+y.length+1)) d b9:=by
 intro cx root top cf gs junk pend0 rem n Q b7 h7 W hr e7 h9 i8 f6 g5 m2 O σ R L b b1 pb p w l i0 f1 g2 f3 e9 f2 hd i2 e6 h m5;have en:n+(y++ []::E).length=n+y.length+1+E.length:=by simp;omega
 have O: ∀fs lf,St G op cx d (n+(y++ []::E).length) gs top (pend0++(V (n+1)::a7 (n+1+y.length+1))) fs lf->OkL ec op Q rem (n+(y++ []::E).length) fs lf:=O
 rw[en] at O h7;have j0:n+1+y.length+1=n+y.length+1+1:=by omega
 rw[j0] at O;obtain⟨s,rest,rfl⟩:=lD1 e5;have g7:=W [] (by simp);refine i1 cx root top cf gs junk pend0 (ctx cx []::(E.map (ctx cx)++rem)) n Q b7 (by omega) (λs hs=>W s (by simp at hs⊢;rcases hs with hs|hs<;>simp[hs])) hr e7 h9 i8 f6 g5 m2 (λfs lf a6=>?_) σ R L b b1 pb p w l i0 f1 g2 f3 e9 f2 hd i2 e6 h λw p' e8 h6 a1 a2 a3 h=>m5 w p' e8 h6 a1 a2 (by simpa using a3) h
 obtain⟨o2,q3,f0,b5,d2,g0,e1,o3,rfl,o0,r2,f5,n2,n3,l5,n1,c4,d0,q4,U⟩:=a6
 show∀nl,qz [ec] op (n+(s::rest).length+1) (ctx cx []) nl (f0++b5::d2) lf (OkL ec op Q (E.map (ctx cx)++rem) (n+(s::rest).length+1))
 intro nl;have c1:=U.le (by omega);refine F6 d3 f5.toS o0 r2 (by omega) g7 c4 (by omega) c1.1 c1.2 λg1 e3 e0 ds2 e4 d1 o4 q0 t1 m3 m1 i4 i3 c5 c2 n0 c8 g4 q2 b8 q1=>?_
 have p5:=c4.len;have p3:ds2.length<=1:=by
  have:=c2.len;have:=congrArg List.length c8;rw[lA0] at this;omega
 have g3:BD (n+(s::rest).length+1) (g1++e3::e0):=by
  refine⟨λf I=>?_,by have:=U.2;omega⟩;rcases lP0.1 I with I|I
  ·have:=Cz t1 (λx b3=>U.1 x (by simp[b3])) f I;omega
  ·rcases lW0.1 I with rfl|I
   ·have:=U.1 b5 (by simp);rw[c5,lA0];omega
   ·have:=g4.2 (3*(n+(s::rest).length)) (λg j1=>U.1 g (by simp[j1])) f I;omega
 refine FL k0 g6 f7 b7 (by omega) (λs hs=>W s (by simp[hs])) i4 i3 m1 n0 (by omega) ?_ ?_ g3 λp4 p1 m6 c9 fs lf a6=>?_
 ·rcases b8 with h0|⟨f,rs,lb,num,it,bul,h0,b4,_⟩
  ·exact .inl h0
  ·exact .inr ⟨f,rs,lb,num,it,bul,h0,b4⟩
 ·intro c hc;rcases b8 with h0|⟨f,rs,lb,num,it,bul,h0,b4,x,m4,h8⟩
  ·exact .inl h0
  ·refine .inr ⟨f,rs,lb,bul,num,it,h0,b4,?_⟩
   rintro rfl
   have b3:=GV d0 m4;exact f4 bul hc (n+1) (b3▸h8)
 ·refine O fs lf ?_;have c3:=a6.comp (gs0:=gs) (top0:=top) (dsA:=g0++ds2) (accA:=e1++e4) (p2:=d1) (xsA:=pend0++ [V (n+1)]) ((n2.trans t1).trans m6) (c9.lk.trans (m3.trans n3)) (by rw[c9.2.2.1,c5,l5,lD0]) (n1.append c2) (by rw[lD0,c8,d0])
  rw[lD0] at c3;exact c3
theorem DY (f7:op.task=false){ec:ai}{ls:List (List UInt8)}{xs:Nat->List IN}{d:Nat}{bc:Option UInt8}(k0:Ec G op ec ls xs d bc){c0:UInt8}{r0:List UInt8}(e4:ls.headD []=c0::r0)(i4:cO c0=false):
 BlkP G op ec (ls.map λs=>62::32::s) (λn=> .mk {kind:=2,s:=n,e:=n+ls.length - 1} (xs n)) (d+1) none:=by
 intro cx root top cf gs junk pend0 rem n Q r4 e5 g6 hr d1 e6 c1 q8 r9 a7 e0 σ R L b b1 pb p w l s1 h5 i8 d3 d2 b8 hd b4 g7 h n2;obtain⟨s,rest,rfl⟩: ∃s rest,ls=s::rest:=by
  cases ls with
  |nil=>cases e4
  |cons s rest=>exact⟨s,rest,rfl⟩
 have hs:s=c0::r0:=e4
 have h8:s.all cO=false:=by rw[hs,lN3,i4];rfl
 have b4:LnR l (62::32::s):=b4
 have q5:=e6.len;have r7:gs.length=cf.length:=by have:=congrArg List.length d1;simp at this;omega
 rw[lQ0] at e5 e0;have d0: ∀s:List UInt8,ctx cx (62::32::s)=ctx (cx++ [.q]) s:=λs=>(oO cx [.q] s).symm
 refine A4 f7 c1 h hd (by omega) b4 h8 (a7.le (by omega)).1 (a7.le (by omega)).2 d2 d3 (by omega) λw p' b3 c3 f e7 f0 l5 k1 k2 k3 k4 f6 o0 m4 c4 h=>?_
 obtain⟨c9,b9,p1,r2,m2⟩:=j6 e6 hr d1 k1;have r5:=k3.len;have r8:=c1.len;have h4:FrX (n+1) (cx++ [.q]) (b9++ [f]):=m2.append (.q f6 (by rw[m4,b8]) .nil);have g3:c9::(b9++ [f])=(gs++ [b3])++ [f]:=by rw[<-p1];simp
 have i3:junk= []->c3= []:=by
  rintro rfl
  cases c1
  cases k3
  rfl
 have j0:BDi n (gs++ [b3]) f []:=by
  have n1:txF (gs++top::junk)=txF gs++(cj top.D++txF junk):=by simp[txF]
  have E:txF ((gs++ [b3])++ [f])=txF gs++(cj top.D++cj c3):=by rw[bF,bF,dO,dO,k2,c4,di];simp[cj]
  refine⟨λg O=>?_,λg O=>?_,.inr ⟨rfl,?_⟩⟩
  ·rcases lP0.1 O with O|O
   ·exact a7.1 g O
   ·obtain rfl:=lN0.1 O;have:=a7.2.1 top (.head _);rw[k2,lA0];omega
  ·obtain rfl:=lN0.1 O;rw[c4];simp
  ·rw[E];have W:=a7.2.2;rw[n1] at W;simp only[lA0] at W⊢;rcases W with W|⟨h0,W⟩
   ·omega
   ·rw[i3 h0];simp[cj] at W⊢;omega
 have g4:p'.pz=kE pb:=by rw[<-d2];exact pJ e7
 refine h5 w λX h6=>?_
 refine k0 (cx++ [.q]) c9 f (b9++ [f]) (gs++ [b3]) [] [] rem n Q (by simp;omega) e5 (λs hs=>by rw[<-d0];exact g6 _ (lU1.2 ⟨s,hs,rfl⟩)) r2 g3 h4 .none (by simp) (λc _=> .inl rfl) j0 (λfs lf i0=>?_) σ R L b b1 pb p' w _ X (Runs.of h6 b b1) i8 d3 g4 (f0.trans b8) (by rw[l5,hd];simp) (LnR.skip (a:= [62,32]) b4) g7 (by simpa using h) λw n0 h1 j1 a1 a2 a3 h=>?_
 ·obtain⟨c8,i2,q4,U,c5,r6,q0,p4,rfl,n3,b5,b7,v1,c2,e9,m3,m5,e8,s2,o2⟩:=i0;have p5:=b7;obtain⟨a6,b6,rfl,m6,f5⟩:=y0 v1;have g0: ∃V,i2=V++ [U]/\c8::V=a6++ [b6]:=by
   cases a6 with
   |nil=>
    simp only[lT0,lR0,lU0] at b5;obtain⟨rfl,rfl⟩:=b5;exact⟨[],rfl,rfl⟩
   |cons y a6=>
    simp only[lR0,lU0] at b5;obtain⟨rfl,rfl⟩:=b5;exact⟨a6++ [b6],by simp,rfl⟩
  obtain⟨V,rfl,g5⟩:=g0;have e3:FrX (n+(s::rest).length) cx V/\U.ob.e=n+(s::rest).length:=by
   refine⟨?_,b7.lastE V U rfl⟩;have h9: ∀ {cs:List CX} {fs:List Bk},FrX (n+(s::rest).length) cs fs-> ∀a t I,fs=a++ [t]->cs=I++ [.q]->FrX (n+(s::rest).length) I a:=by
    intro cs fs h
    induction h with
    |nil=>intro a t I e;simp at e
    | @q cs fs f hq he h2 ih=>
     intro a t I e E;cases a with
     |nil=>
      simp only[lT0,lU0] at e;obtain⟨rfl,rfl⟩:=e;cases h2
      cases I with
      |nil=>exact .nil
      |cons y I=>simp at E
     |cons x a=>
      simp only[lR0,lU0] at e;obtain⟨rfl,e⟩:=e;cases I with
      |nil=>
       simp only[lT0,lU0] at E;rw[E.2] at h2;cases h2;simp at e
      |cons y I=>
       simp only[lR0,lU0] at E;rw[<-E.1];exact .q hq he (ih a t I e E.2)
    | @i cs fs f g lb w bul num it hf O hw he h2 ih=>
     intro a t I e E;cases I with
     |nil=>simp at E
     |cons y I=>
      simp only[lR0,lU0] at E;cases a with
      |nil=>simp at e
      |cons x a=>
       simp only[lR0,lU0] at e;obtain⟨rfl,e⟩:=e;cases a with
       |nil=>
        simp only[lT0,lU0] at e;obtain⟨rfl,rfl⟩:=e;cases h2
        simp at E
       |cons z a=>
        simp only[lR0,lU0] at e;obtain⟨rfl,e⟩:=e;rw[<-E.1];exact .i hf O hw he (ih a t I e E.2)
   exact h9 b7 V U cx rfl rfl
  rw[c4,lT0] at e9;rw[lT0] at e8;have i1:U.isQuote:=by
   obtain⟨o3,m1,o4⟩:=f6;exact⟨o3,c2.1.trans m1,c2.2.2.trans o4⟩
  have h7:Pd G op [.mk {kind:=2,s:=n+1,e:=n+1+(s::rest).length - 1} (xs (n+1))] (U::c5) lf:=by
   have:=Pd.quote (G:=G) (op:=op) i1 (by rw[e9];exact m3) m5
   rw[e8,e3.2,c2.2.1,o0,b8] at this;have e:n+1+(s::rest).length - 1=n+(s::rest).length:=by omega
   rw[e];exact this
  refine e0 _ _ ⟨c8,V,a6,b6,U::c5,c3,pend0,[.mk {kind:=2,s:=n+1,e:=n+1+(s::rest).length - 1} (xs (n+1))],by simp,n3,g5,e3.1,m6,f5.lk.trans k1.lk,by rw[f5.2.2.1,k2],k3,h7,rfl,by simp;omega,?_⟩
  simpa using o2
 ·refine n2 w n0 h1 j1 (a1.trans e7) (a2.trans f0) ?_ h;have:((s::rest).map λs=>62::32::s).tail.map (ctx cx)=(s::rest).tail.map (ctx (cx++ [.q])):=by
   simp[d0]
  rw[this];exact a3

theorem FrX.split {m:Nat}{b:List CX}: ∀ {a:List CX} {fs:List Bk},FrX m (a++b) fs-> ∃gs g,fs=gs++g/\FrX m a gs/\FrX m b g
 | [],fs,h=>⟨[],fs,rfl,.nil,h⟩
 |c::a,fs,h=>by
  cases h with
  |q x U E=>
   obtain⟨gs,g,rfl,O,I⟩:=FrX.split E;exact⟨_::gs,g,rfl,.q x U O,I⟩
  |i x U z v E=>
   obtain⟨gs,g,rfl,O,I⟩:=FrX.split E;exact⟨_::_::gs,g,rfl,.i x U z v O,I⟩
theorem DJ {a b:List UInt8}(h:a.length=b.length): ∀cx:List CX,(ctx cx a).length=(ctx cx b).length
 | []=>h
 | .q::cs=>by
  show (62::32::ctx cs a).length=(62::32::ctx cs b).length
  simp[DJ h cs]
 | .i w::cs=>by
  have g:=DJ h cs
  show (if ctx cs a= [] then [] else hN w 32++ctx cs a).length=(if ctx cs b= [] then [] else hN w 32++ctx cs b).length
  by_cases y:ctx cs a= []
  ·have hb:ctx cs b= []:=by rw[y] at g;exact lD6.1 g.symm
   rw[if_pos y,if_pos hb]
  ·have hb:ctx cs b≠ []:=by intro h0;rw[h0] at g;exact y (lD6.1 g)
   rw[if_neg y,if_neg hb];simp[g]
structure ItOK (G:List UInt8->List Inl) (op:Opt) (ec:ai) (c:UInt8) (num:Nat) (mk:List UInt8) (ls:List (List UInt8)) (xs:Nat->List IN) (d:Nat):Prop where
 seq: ∃bc,Ec G op ec ls xs d bc
 hd: ∃c0 r0,ls.headD []=c0::r0/\cO c0=false
 mkc: ∃x r,mk=x::r/\yD x
 marks: ∀l,LnR l (mk++ls.headD [])->qB l c num mk.length {l with i:=l.i+mk.length}/\l.isHR=false
 w:mk.length<100
def itL (mk:List UInt8)(ls:List (List UInt8)):List (List UInt8):=(mk++ls.headD [])::ls.tail.map (CX.pre (.i mk.length))
def LsSt (G:List UInt8->List Inl)(op:Opt)(ex:Bool)(cx:List CX)(d n V U wd:Nat)(gs0:List Bk)(top0:Bk)(pend0:List IN)(c:UInt8)(num0:Int)(s0:Nat)(ixs O:List IN)(fs:List Bk)(lf:Leaf):Prop:=
 ∃root cf gs top f y junk lb I items dsA E pend,fs=gs++top::f::y::junk/\root.isRoot/\root::cf=gs++ [top]/\FrS cx cf/\(ex=true->FrX n cx cf)/\Sims gs0 gs/\top.lk top0/\top.D=top0.D++dsA/\TDs G op dsA pend0/\
  f.isList lb c.toNat num0 I/\f.ob.s=s0/\f.D=List.map IT.db items/\ItR G op items ixs/\ItemOf I y lb wd true/\(1<=wd/\wd<100)/\y.ob.s=U/\y.ob.e=V/\TDs G op y.D E/\Pd G op pend junk lf/\E++pend=O/\junk.length<=2*d/\BD n fs
theorem LsSt.done {cx:List CX}{d n I E wd:Nat}{gs0:List Bk}{top0:Bk}{pend0:List IN}{c:UInt8}{num0:Int}{s0:Nat}{ixs y:List IN}{fs:List Bk}{lf:Leaf}(c4:Utf8.encode (c.toNat:Int)=bs [c])(h:LsSt G op true cx d n I E wd gs0 top0 pend0 c num0 s0 ixs y fs lf):
 St G op cx (d+1) n gs0 top0 (pend0++ [xE s0 c num0 (ixs++ [.mk {kind:=4,width:=wd,s:=E,e:=I} y])]) fs lf:=by
 obtain⟨root,cf,gs,top,f,g,junk,lb,d2,items,dsA,d1,pend,rfl,c3,c9,e0,d0,b9,c5,c8,c1,c2,b8,b7,b5,U,b4,b6,W,a6,a7,b3,d3,V⟩:=h;have O:=Pd.list c2 b7 b5 U b4 c4 a6 a7;rw[b8,b6,W,b3] at O;exact⟨root,cf,gs,top,f::g::junk,dsA,pend0,_,rfl,c3,c9,d0 rfl,b9,c5,c8,c1,O,rfl,by simp;omega,V⟩
theorem Dd {ec:ai}{c:UInt8}{num:Nat}{mk:List UInt8}{ls:List (List UInt8)}{xs:Nat->List IN}{d:Nat}(j0:ItOK G op ec c num mk ls xs d){cx:List CX}{n:Nat}{rem:List (List UInt8)}{Q:List DB->Prop}{root top f y:Bk}{cf gs:List Bk}{gs0:List Bk}{top0:Bk}{pend0:List IN}{num0:Int}{s0 lb:Nat}{U:OA}{items:List IT}{ixs:List IN}{dsA:List DB}(o4:cx.length+(d+1)<=400)(h4:n+ls.length<=20000)(b3: ∀s∈itL mk ls,(ctx cx s).length<100000)(hr:root.isRoot)(e4:root::cf=gs++ [top])(h5:FrX (n+1) cx cf)(g1:Sims gs0 gs)(f7:top.lk top0)(i8:top.D=top0.D++dsA)(g3:TDs G op dsA pend0)(b8:f.isList lb c.toNat num0 U)(h3:f.ob.s=s0)(f4:f.D=items.map IT.db)(e0:ItR G op items ixs)(b9:ItemOf U y lb mk.length true)(e7:y.D= [])(g2:y.ob.s=n+1)(g5:y.ob.e=n+1)(b5:1<=mk.length)(i4:BDi n (gs++ [top,f]) y [])(g7: ∀fs lf,LsSt G op true cx d (n+ls.length) (n+ls.length) (n+1) mk.length gs0 top0 pend0 c num0 s0 ixs (xs (n+1)) fs lf->OkL ec op Q rem (n+ls.length) fs lf){b b1 pb:Nat}{p:PS}{l:Ln}{a6:OA->Nat->WP}(e9:Runs R a6 b b1)(h2:ec∈L)(f3:op.at pb∈L)(e6:p.pz=kE pb)(f2:p.lineno=n+1)(hd:p.depth=gs.length+2)(h7:LnR l (ls.headD []))(d3:l.text.length<100000)(h:DocC σ b (l.at b1::L) (gs++top::f:: [y]) .none p w)(m5: ∀w (p':PS) I W,p'.base=p.base->p'.lineno=p.lineno->OkL ec op Q ((itL mk ls).tail.map (ctx cx)++rem) (n+1) I W->DocC σ b L I W p' w->R (hQ (.tuple #[])) w):ak.bl102 R a6 (kE b) b1 w:=by
 obtain⟨⟨bc,h9⟩,⟨c0,r0,V,p5⟩,⟨x,r,o3,o0⟩,_,c2⟩:=j0;have b4: ∀s:List UInt8,ctx cx (CX.pre (.i mk.length) s)=ctx (cx++ [.i mk.length]) s:=λs=>(oO cx [.i mk.length] s).symm
 have c9: ∀s∈ls,(ctx (cx++ [.i mk.length]) s).length<100000:=by
  intro s hs;rw[<-b4];cases ls with
  |nil=>cases hs
  |cons q2 rest=>
   rcases lW0.1 hs with rfl|hs
   ·have h6:=b3 (mk++s) (.head _);have d2:s≠ []:=by
     intro h0;have V:s=c0::r0:=V
     rw[h0] at V;cases V
    have e:CX.pre (.i mk.length) s=hN mk.length 32++s:=by
     show (if s= [] then [] else hN mk.length 32++s)=_
     rw[if_neg d2]
    rw[e,DJ (b:=mk++s) (by simp)];exact h6
   ·exact b3 _ (.tail _ (lU1.2 ⟨s,hs,rfl⟩))
 have e8:FrX (n+1) (cx++ [.i mk.length]) (cf++ [f,y]):=h5.append (.i b8 b9 ⟨b5,c2⟩ g5 .nil);have d0:root::(cf++ [f,y])=(gs++ [top,f])++ [y]:=by
  have:root::(cf++ [f,y])=(root::cf)++ [f,y]:=rfl
  rw[this,e4];simp
 refine h9 (cx++ [.i mk.length]) root y (cf++ [f,y]) (gs++ [top,f]) [] [] rem n Q (by simp;omega) h4 c9 hr d0 e8 .none (by simp) (λc _=> .inl rfl) i4 (λfs lf g0=>?_) σ R L b b1 pb p w l a6 e9 h2 f3 e6 f2 (by rw[hd];simp) h7 d3 (by simpa using h) λw m1 I W a1 a2 a3 h=>?_
 ·obtain⟨E,p4,o2,n2,c8,p1,d1,c5,rfl,m6,n0,f0,v1,a7,c3,i0,k0,c1,q1,n1⟩:=g0;obtain⟨O,q0,rfl,b7,f1⟩:=f0.split;obtain⟨b6,k5,rfl,l5,n3⟩:=vD v1;cases n3 with
  | @cons _ top5 _ fs5 z1 z2=>
   cases z2 with
   | @cons _ f5 _ _ z3 z4=>
    cases z4
    cases f1 with
    | @i _ fsn f6 g6 lb6 w6 bul6 num6 it6 y1 y2 y3 y4 y5=>
     cases y5
     have m4:(E::O)++ [f6,g6]=(b6++ [top5])++ [f5,n2]:=by
      have:(E::O)++ [f6,g6]=E::(O++ [f6,g6]):=rfl
      rw[this,n0];simp
     obtain⟨h8,c4⟩:=lG4 m4 rfl;simp only[lU0,and_true] at c4;obtain⟨rfl,rfl⟩:=c4;rw[e7,lT0] at c3;rw[lT0] at c1;have e5:ItemOf U g6 lb mk.length true:=by
      obtain⟨ib,m3,j1,m2⟩:=b9;exact⟨ib,m3,a7.1.trans j1,a7.2.2.trans m2⟩
     refine g7 _ _ ⟨E,O,b6,top5,f6,g6,c8,lb,U,items,dsA,d1,c5,by simp,m6,h8,b7.toS,λ_=>b7,g1.trans l5,z1.lk.trans f7,by rw[z1.2.2.1,i8],g3,z3.list b8,(z3.lk.2.1).trans h3,by rw[z3.2.2.1,f4],e0,e5,⟨b5,c2⟩,a7.2.1.trans g2,y4,by rw[c3];exact i0,k0,c1,by omega,by simpa using n1⟩
 ·refine m5 w m1 I W a1 a2 ?_ h;have:(itL mk ls).tail.map (ctx cx)=ls.tail.map (ctx (cx++ [.i mk.length])):=by
   show (ls.tail.map (CX.pre (.i mk.length))).map (ctx cx)=_
   rw[List.map_map];exact List.map_congr_left λs _=>b4 s
  rw[this];exact a3

theorem xN (g0:op.task=false){ec:ai}{c:UInt8}{num:Nat}{mk:List UInt8}{ls:List (List UInt8)}{xs:Nat->List IN}{d:Nat}(b3:ItOK G op ec c num mk ls xs d){ex:Bool}{cx:List CX}{n c3 c5 wd:Nat}{gs0:List Bk}{top0:Bk}{pend0:List IN}{num0:Int}{s0:Nat}{ixs b7:List IN}{fs:List Bk}{lf:Leaf}{rem:List (List UInt8)}{Q:List DB->Prop}(i4:LsSt G op ex cx d n c3 c5 wd gs0 top0 pend0 c num0 s0 ixs b7 fs lf)(l5:cx.length+(d+1)<=400)(o4:n+ls.length<=20000)(d1: ∀s∈itL mk ls,(ctx cx s).length<100000)(m4: ∀fs lf,LsSt G op true cx d (n+ls.length) (n+ls.length) (n+1) mk.length gs0 top0 pend0 c num0 s0 (ixs++ [.mk {kind:=4,width:=wd,s:=c5,e:=c3} b7]) (xs (n+1)) fs lf->OkL ec op Q rem (n+ls.length) fs lf):OkL ec op Q ((itL mk ls).map (ctx cx)++rem) n fs lf:=by
 obtain⟨root,cf,gs,top,f,O,junk,lb,s9,items,dsA,s6,pend,rfl,hr,h1,p1,r9,k0,i0,q1,m2,e7,o2,h9,g7,e8,j0,m1,m3,g2,p4,h5,s4,e9⟩:=i4;obtain⟨c0,r0,e6,m6⟩:=b3.hd;obtain⟨x,r,b8,b6⟩:=b3.mkc;have g4:1<=mk.length:=by rw[b8];simp
 have r6:1<=ls.length:=by
  cases ls with
  |nil=>cases e6
  |cons s rest=>simp
 have e0:(mk++ls.headD []).all cO=false:=by rw[b8];simp[b6.1]
 show∀nl,qz [ec] op (n+1) (ctx cx (mk++ls.headD [])) nl (gs++top::(f::O::junk)) lf (OkL ec op Q ((itL mk ls).tail.map (ctx cx)++rem) (n+1))
 intro nl;refine Bf p1 hr h1 (λa x r7 _=>CP e0 _) (by omega) (d1 _ (.head _)) λσ R L b b1 pb p w X y E r5 n0 l2 q0 n2 e3 d3 b9 s8 f4 c9 c1 e5 b5 U g5 hd s5 h q8=>?_
 have h6:l2.blank=false:=by unfold Ln.blank;rw[U.tx];exact e0
 have s3:=c1.len;have s7:y.length=n0.length:=by have:=congrArg List.length b5;simp at this;omega
 obtain⟨f6,n3⟩:=b3.marks l2 U;have e4:LnR l2 (x::(r++ls.headD [])):=by rw[b8] at U;exact U
 have d0:Sims (gs++top::f::O::junk) (y++E::f::O::junk):=by
  obtain⟨_,_,_,_,_,_,i8,_⟩:=h;exact Sims.append f4 (.cons c9 (Sims.refl λk I=>(i8 k (lB0 _ (.tail _ I))).2.2.2))
 have V:BD n (y++E::f::O::junk):=⟨Cz d0 e9.1,by rw[d0.mem.2];exact e9.2⟩
 have d2:=V.le (by omega);have g6:=e8;obtain⟨ib,q4,t2,q3⟩:=e8;have h7:=e7;obtain⟨r4,r3⟩:=e7;have h:DocC σ b (l2.at b1::L) ((y++ [E])++f::(O::junk)) lf p w:=by simpa using h
 refine Gw q0 h (by simp;omega) ⟨by simp,by simp;omega⟩ U.ok (λt0 K w f0 h I=>?_) λw h=>?_
 ·rw[r4];refine bq gM ?_;refine ma (ib:=ib) (lb:=lb) (n:=wd) (hv:=true) (bul:=c.toNat) (num:=num0) (lo:=false) (td:= .nilFunc) h U.ok (by omega) ?_ ?_ (by rw[e4.padNo b6.1 j0.1];exact⟨rfl,rfl⟩) I
  ·rw[<-q4];exact f0 f (by simp) _ (by rw[r3];exact .head _)
  ·exact f0 O (by simp) _ (by rw[q3];exact .head _)
 refine k2nb h U.ok h6 λw h=>?_
 have h:DocC σ b (l2.at b1::L) (y++E::f::O::junk) lf p w:=by simpa using h
 have c2:=LnR.skip U;have g1:({l2 with i:=l2.i+mk.length}:Ln).has c0 r0:=by rw[e6] at c2;exact c2.has
 refine CO g0 (Runs.top b b1) p4 h hd (by omega) (sT c1.toS e5 b5) h7 g6 g2 e4.has b6 n3 f6 g1 m6 d2.1 d2.2 d3 e3 (by omega) λY f3 w p' W b4 c4 r8 a1 a2 a3 a4 a5 c8 r1 a8 a9 a10 a11 a12 a13 a14 n1 h8 h=>?_
 have g3:p'.pz=kE pb:=by rw[<-d3];exact pJ a1
 have f7:ItR G op (items++ [c4]) (ixs++ [.mk {kind:=4,width:=wd,s:=c5,e:=c3} b7]):=by
  refine g7.append ?_;have:=ItR.cons (G:=G) (op:=op) r1 a8 .nil
  rw[a9,a10,a11,m1,m3,h5] at this;exact this
 have h4:BDi n (y++ [E,W]) b4 []:=by
  have q5:txF (y++E::f::O::junk)=txF y++(cj E.D++(cj f.D++txF (O::junk))):=by simp[txF]
  have p5:txF ((y++ [E,W])++ [b4])=txF y++(cj E.D++(cj f.D++cj c4.D)):=by
   have:cj W.D=cj f.D++cj c4.D:=by rw[c8,j4];simp[IT.db]
   rw[show (y++ [E,W])++ [b4]=y++([E]++([W]++ [b4])) by simp,bF,bF,bF,dO,dO,dO,this,a14];simp[cj]
  refine⟨λk I=>?_,λk I=>?_,.inr ⟨rfl,?_⟩⟩
  ·simp only[lP0,lW0,lH1,or_false] at I;rcases I with I|rfl|rfl
   ·have:=V.1 k (by simp[I]);omega
   ·have:=V.1 k (by simp);omega
   ·have:=V.1 f (by simp);rw[c8,lA0];simp;omega
  ·obtain rfl:=lN0.1 I;rw[a14];simp
  ·rw[p5];have f5:=V.2;rw[q5] at f5;simp only[lA0] at f5⊢;omega
 refine f3 _ _ _ (Dd b3 l5 o4 d1 e5 b5 c1 (k0.trans f4) (c9.lk.trans i0) (by rw[c9.2.2.1,q1]) m2 a4 (a5.trans o2) (by rw[c8,h9];simp) f7 a13 a14 (n1.trans b9) (h8.trans b9) g4 h4 m4 (Runs.of f3 b b1) n2 e3 g3 (a2.trans b9) (by rw[a3,hd]) c2 g5 h λw q2 h2 o3 j1 m5 o0 h=>?_);exact q8 w q2 h2 o3 (j1.trans a1) (m5.trans a2) o0 h
theorem Bj (e7:op.task=false){ec:ai}{c:UInt8}{d:Nat}{cx:List CX}{n b3 d1 wd:Nat}{gs0:List Bk}{top0:Bk}{pend0:List IN}{num0:Int}{s0:Nat}{ixs c1:List IN}{fs:List Bk}{lf:Leaf}{rem:List (List UInt8)}{Q:List DB->Prop}(h5:LsSt G op true cx d n b3 d1 wd gs0 top0 pend0 c num0 s0 ixs c1 fs lf)(q1:cx.length+(d+1)<=400)(q5:n+1<=20000)(f2:(ctx cx []).length<100000)(j0: ∀fs lf,LsSt G op false cx d (n+1) b3 d1 wd gs0 top0 pend0 c num0 s0 ixs c1 fs lf->OkL ec op Q rem (n+1) fs lf):OkL ec op Q (ctx cx []::rem) n fs lf:=by
 obtain⟨root,cf,gs,top,f,y,junk,lb,c3,items,dsA,h8,pend,rfl,hr,g1,m1,p4,h6,h2,n0,i0,c5,l5,h1,g0,d0,c2,h7,h9,f1,c9,g4,q0,b5⟩:=h5;have b8:ctx cx []=ctx (cx++ [.i wd]) []:=by rw[oO];rfl
 have g5:FrS (cx++ [.i wd]) (cf++ [f,y]):=m1.append (.i c5 d0 c2 .nil);have f0:root::(cf++ [f,y])=(gs++ [top,f])++ [y]:=by
  have:root::(cf++ [f,y])=(root::cf)++ [f,y]:=rfl
  rw[this,g1];simp
 have a7:gs++top::f::y::junk=(gs++ [top,f])++y::junk:=by simp
 have b9:=b5.le (by omega);have e9: ∀k∈(gs++ [top,f])++y::junk,k.D.length<=90000:=λk E=>b9.1 k (by simpa using E)
 have f3:(txF ((gs++ [top,f])++y::junk)).length<=90000:=by rw[<-a7];exact b9.2
 have e8:(ctx (cx++ [.i wd]) []).length<100000:=b8▸f2
 show∀nl,qz [ec] op (n+1) (ctx cx []) nl (gs++top::f::y::junk) lf (OkL ec op Q rem (n+1))
 intro nl
 suffices hs:qz [ec] op (n+1) (ctx (cx++ [.i wd]) []) nl ((gs++ [top,f])++y::junk) lf (OkL ec op Q rem (n+1)) by
  have a6:ctx (cx++ [.i wd]) []=ctx cx []:=b8.symm;rw[a6] at hs;have m2:(gs++ [top,f])++y::junk=gs++top::f::y::junk:=a7.symm
  rw[m2] at hs;exact hs
 refine F6 e7 g5 hr f0 (by simp;omega) e8 c9 (by omega) e9 f3 λq4 o4 O ds2 f4 e6 V q2 t1 b6 m6 m4 m3 d2 c8 o3 e0 c4 j1 q3 i8=>?_
 obtain⟨W,q8,rfl,i4,g7⟩:=m6.split;obtain⟨I,k5,rfl,d3,p1⟩:=vD t1;have p5:=c9.len;have p3:ds2.length<=1:=by
  have:=c8.len;have:=congrArg List.length e0;rw[lA0] at this;omega
 cases p1 with
 | @cons _ top5 _ fs5 z1 z2=>
  cases z2 with
  | @cons _ f5 _ _ z3 z4=>
   cases z4
   cases g7 with
   | @i _ fsn f6 g6 lb6 w6 bul6 num6 it6 y1 y2 y3 y5=>
    cases y5
    have o2:(V::W)++ [f6,g6]=(I++ [top5])++ [f5,o4]:=by
     have:(V::W)++ [f6,g6]=V::(W++ [f6,g6]):=rfl
     rw[this,m3];simp
    obtain⟨m5,a6⟩:=lG4 o2 rfl;simp only[lU0,and_true] at a6;obtain⟨rfl,rfl⟩:=a6;have g3:ItemOf c3 g6 lb wd true:=by
     obtain⟨ib,o0,n1,n3⟩:=d0;exact⟨ib,o0,b6.1.trans n1,b6.2.2.trans n3⟩
    have k0:BD (n+1) (I++top5::f6::g6::O):=by
     have U:=b5.1;refine⟨λk E=>?_,?_⟩
     ·simp only[lP0,lW0] at E;rcases E with E|rfl|rfl|rfl|E
      ·have:=Cz d3 (λx b4=>U x (by simp[b4])) k E;omega
      ·have:=U top (by simp);rw[z1.2.2.1];omega
      ·have:=U f (by simp);rw[z3.2.2.1];omega
      ·have:=U y (by simp);rw[d2,lA0];omega
      ·have:=c4.2 (3*n) (λx b4=>U x (by simp[b4])) k E;omega
     ·have r1:=b5.2;have n2:=j1;have b7:(I++ [top5,f6])++g6::O=I++top5::f6::g6::O:=by simp
      rw[b7,<-a7] at n2;omega
    have b7:(I++ [top5,f6])++g6::O=I++top5::f6::g6::O:=by simp
    rw[b7];have f7:g6.ob.e=b3:=(i8 wd (by simp)).trans h9;refine j0 _ _ ⟨V,W,I,top5,f6,g6,O,lb,c3,items,dsA,h8++f4,e6,rfl,m4,m5,i4,λh0=>(by cases h0),h6.trans d3,z1.lk.trans h2,by rw[z1.2.2.1,n0],i0,z3.list c5,(z3.lk.2.1).trans l5,by rw[z3.2.2.1,h1],g0,g3,c2,b6.2.1.trans h7,f7,by rw[d2];exact f1.append c8,o3,by rw[lD0,e0,g4],by have:=c4.1;omega,k0⟩

structure Itm where
 mark:List UInt8
 ls:List (List UInt8)
 xs:Nat->List IN
def kv (gap:Bool):List Itm->List (List UInt8)
 | []=> []
 |it::r=>if gap then []::(itL it.mark it.ls++kv gap r) else itL it.mark it.ls++kv gap r
def tJ (gap:Bool):Nat->List Itm->List IN
 |_,[]=> []
 |n,it::r=>if gap then .mk {kind:=4,width:=it.mark.length,s:=n+2,e:=n+1+it.ls.length} (it.xs (n+2))::tJ gap (n+1+it.ls.length) r else .mk {kind:=4,width:=it.mark.length,s:=n+1,e:=n+it.ls.length} (it.xs (n+1))::tJ gap (n+it.ls.length) r
theorem py {mk:List UInt8}{ls:List (List UInt8)}(h:ls≠ []):(itL mk ls).length=ls.length:=by
 cases ls with
 |nil=>exact absurd rfl h
 |cons s r=>simp[itL]
theorem ItOK.ne {ec:ai}{c:UInt8}{num:Nat}{mk:List UInt8}{ls:List (List UInt8)}{xs:Nat->List IN}{d:Nat}(g:ItOK G op ec c num mk ls xs d):ls≠ []:=by
 rintro rfl
 obtain⟨c0,r0,h,_⟩:=g.hd;cases h
theorem E3 (a6:op.task=false){ec:ai}{c:UInt8}{d:Nat}(c1:Utf8.encode (c.toNat:Int)=bs [c])(gap:Bool){cx:List CX}{gs0:List Bk}{top0:Bk}{pend0:List IN}{num0:Int}{s0:Nat}{rem:List (List UInt8)}{Q:List DB->Prop}(a7:cx.length+(d+1)<=400): ∀(its:List Itm) {n V O wd:Nat} {ixs E:List IN} {fs:List Bk} {lf:Leaf},(∀it∈its,∃num,ItOK G op ec c num it.mark it.ls it.xs d)->LsSt G op true cx d n V O wd gs0 top0 pend0 c num0 s0 ixs E fs lf->n+(kv gap its).length<=20000->(∀s∈kv gap its,(ctx cx s).length<100000)->
 (∀fs lf,St G op cx (d+1) (n+(kv gap its).length) gs0 top0 (pend0++ [xE s0 c num0 (ixs++ .mk {kind:=4,width:=wd,s:=O,e:=V} E::tJ gap n its)]) fs lf->OkL ec op Q rem (n+(kv gap its).length) fs lf)->OkL ec op Q ((kv gap its).map (ctx cx)++rem) n fs lf:=by
 intro its
 induction its with
 |nil=>
  intro n V O wd ixs E fs lf _ I _ _ g;exact g _ _ (I.done c1)
 |cons it r b9=>
  intro n V O wd ixs E fs lf b8 I U y g;obtain⟨num,b5⟩:=b8 it (.head _);have b7:=λi hi=>b8 i (lS1 _ hi)
  have W:=py (mk:=it.mark) b5.ne;cases gap with
  |false=>
   have b6:kv false (it::r)=itL it.mark it.ls++kv false r:=rfl
   have b4:tJ false n (it::r)= .mk {kind:=4,width:=it.mark.length,s:=n+1,e:=n+it.ls.length} (it.xs (n+1))::tJ false (n+it.ls.length) r:=rfl
   rw[b4] at g;rw[b6] at g U y⊢;rw[lA0,W] at U;have b3:n+(itL it.mark it.ls++kv false r).length=n+it.ls.length+(kv false r).length:=by rw[lA0,W];omega
   rw[b3] at g;rw[lV0,lD0];refine xN a6 b5 I a7 (by omega) (λs hs=>y s (lC1 _ hs)) λfs lf h=>?_
   refine b9 b7 h (by omega) (λs hs=>y s (lB0 _ hs)) λfs lf h=>g fs lf ?_
   simpa[lD0] using h
  |true=>
   have b6:kv true (it::r)= []::(itL it.mark it.ls++kv true r):=rfl
   have b4:tJ true n (it::r)= .mk {kind:=4,width:=it.mark.length,s:=n+2,e:=n+1+it.ls.length} (it.xs (n+2))::tJ true (n+1+it.ls.length) r:=rfl
   rw[b4] at g;rw[b6] at g U y⊢;rw[lF0,lA0,W] at U;have b3:n+([]::(itL it.mark it.ls++kv true r)).length=n+1+it.ls.length+(kv true r).length:=by rw[lF0,lA0,W];omega
   rw[b3] at g;rw[lP1,lR0,lV0,lD0];refine Bj a6 I a7 (by omega) (y [] (.head _)) λfs lf h=>?_
   refine xN a6 b5 h a7 (by omega) (λs hs=>y s (.tail _ (lC1 _ hs))) λfs lf h=>?_
   refine b9 b7 h (by omega) (λs hs=>y s (.tail _ (lB0 _ hs))) λfs lf h=>g fs lf ?_
   simpa[lD0] using h
theorem Fo (b8:op.task=false){ec:ai}{c:UInt8}{num d:Nat}(i4:Utf8.encode (c.toNat:Int)=bs [c])(gap:Bool){mk:List UInt8}{ls:List (List UInt8)}{xs:Nat->List IN}{its:List Itm}(O:ItOK G op ec c num mk ls xs d)(e7: ∀it∈its,∃num,ItOK G op ec c num it.mark it.ls it.xs d):
 BlkP G op ec (itL mk ls++kv gap its) (λn=>xE n c num (.mk {kind:=4,width:=mk.length,s:=n,e:=n - 1+ls.length} (xs n)::tJ gap (n - 1+ls.length) its)) (d+1) (some c):=by
 intro cx root top cf gs junk pend0 rem n Q c8 d2 b9 hr a7 b5 b6 m3 h1 W c5 σ R L b b1 pb p w l n2 f4 f7 d1 d0 V hd E f2 h l5;obtain⟨c0,r0,h2,f3⟩:=O.hd;obtain⟨x,r,c4,e9⟩:=O.mkc;have f0:1<=mk.length:=by rw[c4];simp
 have i1:=py (mk:=mk) O.ne;have E:LnR l (mk++ls.headD []):=E;obtain⟨e0,g4⟩:=O.marks l E;have f1:LnR l (x::(r++ls.headD [])):=by rw[c4] at E;exact E
 have b4:=LnR.skip E;have e8:({l with i:=l.i+mk.length}:Ln).has c0 r0:=by rw[h2] at b4;exact b4.has
 have m6:=b5.len;have m5:gs.length=cf.length:=by have:=congrArg List.length a7;simp at this;omega
 have n0:=b6.len;have j0:n+(itL mk ls++kv gap its).length=n+ls.length+(kv gap its).length:=by rw[lA0,i1];omega
 rw[j0] at c5 d2;have c9:=W.le (by omega);refine Bc b8 f4 b6 (h1 c rfl) h hd (by omega) (sT b5.toS hr a7) f1.has e9 g4 e0 e8 f3 c9.1 c9.2 d0 d1 (by omega) λY d3 w p' U b7 f g lb it a1 a2 a3 k1 k2 k3 k4 f5 a6 g5 b3 h5 g0 g3 h=>?_
 obtain⟨m2,n1,m1,r2,i3⟩:=j6 b5 hr a7 k1;have m4:=k3.len;have g6:junk= []->b7= []:=by
  rintro rfl
  cases b6
  cases k3
  rfl
 have g2:BDi n (gs++ [U,f]) g []:=by
  have j1:txF (gs++top::junk)=txF gs++(cj top.D++txF junk):=by simp[txF]
  have k0:txF ((gs++ [U,f])++ [g])=txF gs++(cj top.D++cj b7):=by
   rw[show (gs++ [U,f])++ [g]=gs++([U]++([f]++ [g])) by simp,bF,bF,bF,dO,dO,dO,k2,a6,b3,di];simp[cj]
  refine⟨λk y=>?_,λk y=>?_,.inr ⟨rfl,?_⟩⟩
  ·simp only[lP0,lW0,lH1,or_false] at y;rcases y with y|rfl|rfl
   ·exact W.1 k y
   ·have:=W.2.1 top (.head _);rw[k2,lA0];omega
   ·rw[a6];simp
  ·obtain rfl:=lN0.1 y;rw[b3];simp
  ·rw[k0];have I:=W.2.2;rw[j1] at I;simp only[lA0] at I⊢;rcases I with I|⟨h0,I⟩
   ·omega
   ·rw[g6 h0];simp[cj] at I⊢;omega
 have e6:p'.pz=kE pb:=by rw[<-d0];exact pJ a1
 have f6:Sims gs gs:=by
  obtain⟨_,_,_,_,_,_,h4,_⟩:=h;exact Sims.refl λk y=>(h4 k (by simp[y])).2.2.2
 refine d3 _ _ _ (Dd O (gs0:=gs) (top0:=top) (pend0:=pend0) (num0:=(num:Nat)) (s0:=n+1) (ixs:= []) (items:= []) (dsA:=b7) (rem:=(kv gap its).map (ctx cx)++rem) (Q:=Q) c8 (by omega) (λs hs=>b9 s (lC1 _ hs)) r2 m1 i3 f6 k1.lk k2 k3 f5 (h5.trans V) (by rw[a6];rfl) .nil g5 b3 (g0.trans V) (g3.trans V) f0 g2 (λfs lf g7=>?_) (Runs.of d3 b b1) f7 d1 e6 (a2.trans V) (by rw[a3,hd]) b4 f2 h λw h9 g1 h6 h7 i2 i8 h=>?_)
 ·refine E3 b8 i4 gap c8 its e7 g7 d2 (λs hs=>b9 s (lB0 _ hs)) λfs lf h=>c5 fs lf ?_
  have h8:n+1 - 1=n:=by omega
  simp only[h8];exact h
 ·refine l5 w h9 g1 h6 (h7.trans a1) (i2.trans a2) ?_ h;have i0:(itL mk ls++kv gap its).tail=(itL mk ls).tail++kv gap its:=rfl;rw[i0,lV0,lD0];exact i8

def jl:List (List UInt8)->List (List UInt8 × UInt8)
 | []=> []
 |l::ls=>(l,if ls= [] then 0 else 10)::jl ls

theorem tI: ∀ {ls:List (List UInt8)},ls≠ []->(∀l∈ls,noNL l)->ls.getLast? ≠some []->LinesOf (bl [10] ls) (jl ls)
 | [l],_,h,hl=>by
  have:=LinesOf.last (l:=l) (by rintro rfl;exact hl rfl) (h l (by simp))
  simpa[bl,jl] using this
 |l::m::ls,_,h,hl=>by
  have g:=tI (ls:=m::ls) (by simp) (λx y=>h x (by simp[y])) (by simpa using hl)
  have e:bl [10] (l::m::ls)=l++10::bl [10] (m::ls):=by simp[bl]
  rw[e];exact LinesOf.cons (h l (by simp)) g
theorem FW: ∀ls:List (List UInt8),(jl ls).map Prod.fst=ls
 | []=>rfl
 |l::ls=>by rw[jl,lP1,FW ls]
theorem St.closeAll (I:op.task=false){d n:Nat}{g:Bk}{xs:List IN}{fs:List Bk}{lf:Leaf}{Q:List DB->Prop}(b3:n<=20000)(U:g.D= [])(b7: ∀D,TDs G op D xs->Q D)(h:St G op [] d n [] g xs fs lf):qE op fs lf Q:=by
 obtain⟨root,cf,gs,top,junk,d1,c8,pend,rfl,hr,y,b5,c3,d2,b4,b9,c1,c4,d0,c5⟩:=h;cases c3
 cases b5
 simp only[lT0,lU0,and_true] at y;subst y;have E:=c5.le b3;intro σ R L b pb p w X b6 a7 a6 h b8;refine c1.close I σ R L b pb p w X [] root 0 b6 a7 a6 (by omega) E.1 E.2 h λw p' O l a1 a2 a3 c2 W V c9 h=>?_
 refine b8 w p' O a1 (c2.root hr) (b7 _ ?_) h;rw[W,b4,U,lT0,<-c4];exact b9.append V
theorem xl (W:op.task=false){ec:ai}{ls:List (List UInt8)}{xs:Nat->List IN}{d:Nat}{bc:Option UInt8}(c2:Ec G op ec ls xs d bc){c0:UInt8}{r0:List UInt8}(U:ls.headD []=c0::r0)(b3:cO c0=false)(hd:d<=400)(c5:ls.length<=20000)(I: ∀l∈ls,noNL l/\0 ∉ l/\l.length<100000)(V:ls.getLast? ≠some [])(a6:(bl [10] ls).length<1000000):
 wx [ec] op (bl [10] ls) (λy=>y=xs 1):=by
 have a7:ls≠ []:=by rintro rfl;cases U
 refine zg (G:=G) (tI a7 (λl O=>(I l O).1) V) (λh0=>?_) a6 (λrem n fs lf=>OkL ec op (λD=> ∃y,pL G D y/\y=xs 1/\ ∀x∈cj D,jW none [] op x.raw (G x.raw)) (rem.map Prod.fst) n fs lf) ?_ ?_ ?_
 ·have b4: ∀ls:List (List UInt8),(∀l∈ls,0 ∉ l)->(0:UInt8) ∉ bl [10] ls:=by
   intro ls
   induction ls with
   |nil=>intro _ h;simp[bl] at h
   |cons l ls b9=>
    intro h g;cases ls with
    |nil=>simp[bl] at g;exact h l (by simp) g
    |cons m ls=>
     have e:bl [10] (l::m::ls)=l++10::bl [10] (m::ls):=by simp[bl]
     rw[e] at g;simp only[lP0,lW0] at g;rcases g with g|g|g
     ·exact h l (by simp) g
     ·cases g
     ·exact b9 (λx b6=>h x (.tail _ b6)) g
  exact b4 ls (λl O=>(I l O).2.1) h0
 ·intro root hr E
  show OkL ec op _ ((jl ls).map Prod.fst) 0 [root] .none
  rw[FW];have:=FL c2 U b3 (cx:= []) (root:=root) (top:=root) (cf:= []) (gs:= []) (junk:= []) (pend0:= []) (rem:= []) (n:=0) (Q:=λD=> ∃y,pL G D y/\y=xs 1/\ ∀x∈cj D,jW none [] op x.raw (G x.raw)) (by simpa using hd) (by omega) (λs hs=>(I s hs).2.2) hr rfl .nil .none (by simp) (.inl rfl) (λc _=> .inl rfl) ⟨λf b7=>by obtain rfl:=lN0.1 b7;rw[E];simp,by simp[txF,cj,E]⟩ ?_
  ·have e:ls.map (ctx [])=ls:=by
    have:(ctx []:List UInt8->List UInt8)=id:=rfl
    rw[this,List.map_id]
   rw[e,lG0] at this;exact this
  ·intro c4 c3 b8 c1 fs lf b5;cases b8
   show qE op fs lf _
   refine b5.closeAll W (by omega) (by rw[c1.2.2.1,E]) λD E=>⟨_,E.trees,rfl,E.txs⟩
 ·intro l nl rem n fs lf h;exact h nl
 ·intro n fs lf h;exact h
theorem A7 {ec:ai}{text:List UInt8}{I:List IN->Prop}(a6:wx [ec] op text I)(O:ec∈L)(h:Sat σ w L)(b4: ∀w u M s e xs,NodeAt (.mk {kind:=1,s:=s,e:=e} xs) u M->I xs->Sat σ w (M++L)->R (hQ u.V) w):
 callE P nP #[optV op,hX (bs text)] R w:=by
 refine nZ.sound ?_;refine Sat.bx h λb w h=>?_
 refine Sat.bx h λg w h=>?_
 have ld: ∀(k:Nat) (v:Bool),([hV op.strike,hV op.task,hV op.auto,hV op.http,hV op.table,hV op.dot,hV op.dash,hV op.quote,hV op.ids,hV op.emoji])[k]? =some (hV v)->w.cell? (hZ b k)=some (hV v):=λk v hv=>Sat.ld h (.tail _ (.head _)) hv
 refine⟨_,ld 0 _ rfl,_,ld 1 _ rfl,_,ld 2 _ rfl,_,ld 3 _ rfl,_,ld 4 _ rfl,_,ld 5 _ rfl,_,ld 6 _ rfl,_,ld 7 _ rfl,_,ld 8 _ rfl,_,ld 9 _ rfl,?_⟩;refine CJ (o:=op) h λw pb h=>⟨_,rfl,?_⟩
 refine lY.sound ?_;refine a6 σ _ _ w pb (by simp[O]) h (.head _) λw db k s e xs y a7 W h=>⟨_,_,rfl,_,rfl,?_⟩
 refine a7 σ _ _ w h λw u M U h=>y8 ?_
 generalize E:((b,cel [hV op.strike,hV op.task,hV op.auto,hV op.http,hV op.table,hV op.dot,hV op.dash,hV op.quote,hV op.ids,hV op.emoji] fB):ai)=ob at h;have h:Sat σ w (M++(y++(op.at pb::(g,cel (N16.C {}).toList aj)::ob::L))):=by rw[<-E];rw[<-E] at h;exact h
 have h:Sat σ w ((g,cel (N16.C {}).toList aj)::(M++(y++(op.at pb::ob::L)))):=h.re
 refine h.st16 0 {} u λw h=>h.ldB16 u (.head _) ?_
 refine b4 w u M s e xs U W ?_;exact h.less ((g,cel u.C.toList aj)::op.at pb::ob::y)

def BU (g:List UInt8):Nat:=g.foldl (λa c=>a*10+(c.toNat - 48)) 0
theorem xv (g:List UInt8)(c:UInt8):BU (g++ [c])=BU g*10+(c.toNat - 48):=by simp[BU]
theorem GM: ∀(n:Nat) (g:List UInt8),g.length=n->(∀c∈g,Eo c=true)->BU g<10 ^ n:=by
 intro n
 induction n with
 |zero=>intro g h _;obtain rfl:=lF1 h;decide
 |succ n O=>
  intro g h hd;obtain⟨m,c,rfl⟩: ∃m c,g=m++ [c]:=by
   have y:g≠ []:=by intro h0;rw[h0] at h;simp at h
   exact⟨g.dropLast,g.getLast y,(lY3 y).symm⟩
  have U:=O m (by simpa using h) λx I=>hd x (by simp[I])
  have E:=hd c (by simp);simp only[Eo,lN1,decide_eq_true_eq] at E;rw[xv,Nat.pow_succ];omega
theorem Cy {b b0 b1 g num:Nat}{q:Option Addr}{l t1:Ln}{c d:UInt8}{r:List UInt8}(h:Sat σ w (t1.at b0::(b1,cel [kT q] ah)::l.at b::L))(E:t1.has 32 (d::r))(hd:cO d=false)(W:g<=90)(O: ∀w b2 (t':Ln),Sat σ w (({t1 with i:=t1.i+1}:Ln).at b0::(b1,cel [kT q] ah)::t'.at b2::l.at b::L)->am.k8 R b1 b0 ((g+1:Nat):Int) (c.toNat:Int) (num:Nat) w):
 am.k3 R b1 b0 (g:Nat) (c.toNat:Int) (num:Nat) w:=by
 have y:=E.next
 generalize U:({t1 with i:=t1.i+1}:Ln)=t2 at y O;have I: ∀e,t2.trimSp 1 1 e=none:=by intro e;unfold Ln.trimSp;rw[y.tsGo hd];rfl
 refine YtendaipfdnhnaaaGreatDoor.trimSp_ok (min:=1) (max:=1) h E.ok (by decide) (by decide) ?_;rw[E.sp1,U];intro w h;refine⟨_,rfl,af rfl ?_⟩;refine⟨_,h.ldA,?_⟩;refine⟨_,h.ldA,?_⟩;refine⟨_,h.ldA,?_⟩;refine⟨_,h.ldA,?_⟩;refine⟨_,h.ldA,?_⟩;refine Sat.bx h λb2 w h=>?_
 refine h.stA 0 λw h=>?_
 refine h.stA 0 λw h=>?_
 refine h.stA 0 λw h=>?_
 refine h.stA 0 λw h=>?_
 refine h.stA 0 λw h=>?_
 have h:Sat σ w (t2.at b2::t2.at b0::(b1,cel [kT q] ah)::l.at b::L):=h
 rw[aL (by omega)];intro X V;refine V _ _ _ _ _ _ _ _ _ (ag (by decide) ?_);refine YtendaipfdnhnaaaGreatDoor.trimSp_ok (min:=1) (max:=1) h y.ok (by decide) (by decide) ?_;rw[I];intro w h;refine⟨_,rfl,af rfl ?_⟩;unfold am.k6;refine YtendaipfdnhnaaaGreatDoor.trimSp_ok (min:=1) (max:=1) h y.ok (by decide) (by decide) ?_;rw[I];intro w h;refine⟨_,rfl,ag rfl ?_⟩;refine⟨_,h.ldA,?_⟩;refine⟨_,h.ldA,?_⟩;refine⟨_,h.ldA,?_⟩;refine⟨_,h.ldA,?_⟩;refine⟨_,h.ldA,?_⟩;refine h.stA 1 λw h=>?_
 refine h.stA 1 λw h=>?_
 refine h.stA 1 λw h=>?_
 refine h.stA 1 λw h=>?_
 refine h.stA 1 λw h=>?_
 rw[show ((g+1:Nat):Int)+0=((g+1:Nat):Int) by omega,i64_in _ (by omega)];have h:Sat σ w (t2.at b2::t2.at b0::(b1,cel [kT q] ah)::l.at b::L):=h
 exact O w b2 t2 (h.re)
theorem Ln.has.skip {l:Ln}{x:UInt8}{s:List UInt8}(h:l.has x s): ∀(m:Nat) {g:UInt8} {u:List UInt8},(x::s).drop m=g::u->({l with i:=l.i+m}:Ln).has g u
 |0,g,u,he=>by
  simp only[lO2,lU0] at he;obtain⟨rfl,rfl⟩:=he;exact h
 |m+1,g,u,he=>by
  have O:m<(x::s).length:=by
   rcases lP4 m (x::s).length with E|E
   ·exact E
   ·rw[lE2 (by omega)] at he;cases he
  have I:(x::s).drop m=(x::s)[m]::(x::s).drop (m+1):=lG1 O
  rw[he] at I;have:=(Ln.has.skip h m I).next
  simpa[lD3] using this
theorem Ln.has.numberM {l:Ln}{x mk:UInt8}{g r:List UInt8}{d:UInt8}(b9:mk=46\/mk=41)(E:l.has x (g++mk::32::d::r))(e9:l.text.length<4611686018427387904)(U: ∀c∈x::g,Eo c=true)(e4:g.length<=8)(hd:cO d=false):
 qB l mk (BU (x::g)) (g.length+3) {l with i:=l.i+(g.length+3)}/\({l with i:=l.i+(g.length+3)}:Ln).has d r:=by
 have b6:x::(g++mk::32::d::r)=(x::g)++mk::32::d::r:=rfl
 have a7:({l with i:=l.i+(g.length+2)}:Ln).has 32 (d::r):=E.skip (g.length+2) (by rw[b6,lY5,lE2 (by simp),lF0,show g.length+2 - (g.length+1)=1 by omega];rfl)
 have b3:({l with i:=l.i+(g.length+3)}:Ln).has d r:=a7.next
 refine⟨⟨b3.ok,by omega,?_⟩,b3⟩;intro σ w L R b q h d3;have e6:(x::g).length=g.length+1:=rfl
 have W:=U x (by simp);simp only[Eo,lN1,decide_eq_true_eq] at W;have c8:cO x=false:=by
  simp only[cO,lH2,beq_eq_false_iff_ne,ne_eq];constructor<;>(rintro rfl;revert W;decide)
 have V:=E.ok;have e5:l.text.length=l.i+(g.length+1+(3+r.length)):=by have:=congrArg List.length E.tx;have:=E.lt;simp at*;omega
 have a6: ∀j,l.text.getD (l.i+j) 0=((x::g)++mk::32::d::r).getD j 0:=by intro j;rw[<-b6,<-E.tx,lS0,lS0,lG3]
 refine am.sound ?_;refine Sat.bx h λb1 w h=>?_
 repeat (first|refine aa ?_|refine h.tk λw h=>?_|refine⟨_,h.ldA,?_⟩|refine⟨_,_,_,h.ldA,?_⟩|refine h.stA 0 λw h=>?_|refine h.stA 1 λw h=>?_|refine h.stA 2 λw h=>?_|refine h.stA 3 λw h=>?_|refine h.stA 4 λw h=>?_|refine h.stA 5 λw h=>?_|refine h.stA 6 λw h=>?_|refine h.bx λb0 w h=>?_)
 have h:Sat σ _ (l.at b0::(b1,cel [kT q] ah)::l.at b::L):=h
 intro X d0;refine d0 _ _ _ _ _ (ag (by simp) ?_);refine YtendaipfdnhnaaaGreatDoor.trimSp_ok (min:=1) (max:=1) h V (by decide) (by decide) ?_;have c2:l.trimSp 1 1 false=none:=by unfold Ln.trimSp;rw[E.tsGo c8];rfl
 rw[c2];intro w h;refine⟨_,rfl,ag rfl ?_⟩;refine my h (by first|assumption|(repeat (first|exact .head _|apply List.Mem.tail))) V λw h=>⟨_,rfl,?_⟩
 rw[E.peek];have ne: ∀(d:UInt8) (n:Int),(d.toNat:Int)=n->(d.toNat<48\/57<d.toNat)->(((x.toNat:Nat):Int)==n)=false:=by
  intro d n hd e8;refine vf hd ?_
  rintro rfl;omega
 have k4:am.k4 R b1 b0 0 0 true w:=by
  refine ag rfl ?_;refine⟨_,h.ldA,?_⟩;intro Y b4;have c5: ∀k j w,j+k=(x::g).length->Sat σ w (l.at b0::(b1,cel [kT q] ah)::l.at b::L)->Y b1 b0 0 ((BU ((x::g).take j):Nat):Int) ((l.i+j:Nat):Int) w:=by
   intro k
   induction k with
   |zero=>
    intro j w b5 h;have c3:j=g.length+1:=by simpa using b5
    refine b4 _ _ _ _ _ _ ?_;refine⟨_,h.ldA,?_⟩;refine af (by rw[aF];simp;omega) ?_;refine⟨_,h.ldA,?_⟩;refine⟨by omega,by rw[aF];omega,?_⟩;rw[pI,a6];have I:((x::g)++mk::32::d::r).getD j 0=mk:=by
     rw[lS0,lI0 (by simp;omega),lF0,show j - (g.length+1)=0 by omega];rfl
    rw[I];refine ag (by rcases b9 with rfl|rfl<;>rfl) ?_;refine⟨_,h.ldA,?_⟩;rw[aL (by omega)];refine h.stA 0 λw h=>?_
    rw[lB2 (by simp;omega)];have d1:i64.wrap (0+i64.wrap (((l.i+j+1:Nat):Int) - ((l.i:Nat):Int)))=((g.length+2:Nat):Int):=by
     rw[i64_in (_ - _) (by omega),i64_in _ (by omega)];omega
    rw[d1];have h:Sat σ w (({l with i:=l.i+(g.length+2)}:Ln).at b0::(b1,cel [kT q] ah)::l.at b::L):=by
     rw[c3,show l.i+(g.length+1)+1=l.i+(g.length+2) by omega] at h;exact h
    refine Cy (c:=mk) (l:=l) h a7 hd (by omega) λw b2 t' h=>?_
    exact d3 w b0 b1 b2 t' h
   |succ k d2=>
    intro j w b5 h;have y:j<(x::g).length:=by omega
    have b8:j<=8:=by simp at y;omega
    refine b4 _ _ _ _ _ _ ?_;refine⟨_,h.ldA,?_⟩;refine af (by rw[aF];simp at y;simp;omega) ?_;refine⟨_,h.ldA,?_⟩;refine⟨by omega,by rw[aF];simp at y;omega,?_⟩;rw[pI,a6];have I:((x::g)++mk::32::d::r).getD j 0=(x::g)[j]:=by rw[lS0,lM0 y,lH0 y];rfl
    rw[I];have c4:(x::g).take (j+1)=(x::g).take j++ [(x::g)[j]]:=lB1 y
    have b7:=U _ (lO1 y);have c1:=GM j ((x::g).take j) (by simp at y⊢;omega) λc hc=>U c (lA5 hc)
    have e3:BU ((x::g).take j)<10 ^ 8:=Nat.lt_of_lt_of_le c1 (Nat.pow_le_pow_right (by decide) b8)
    generalize (x::g)[j]=dg at*
    have O:=b7;simp only[Eo,lN1,decide_eq_true_eq] at O;refine af ?_ (af (by simp;omega) ?_)
    ·have a1:=u8b dg 46 46 rfl;have a2:=u8b dg 41 41 rfl;rw[a1,a2];have b1:dg≠46:=by rintro rfl;revert O;decide
     have b2:dg≠41:=by rintro rfl;revert O;decide
     simp[b1,b2]
    unfold am.k9;refine⟨_,h.ldA,?_⟩;refine af ?_ ?_
    ·rw[i64_in _ (by omega)];simp;omega
    rw[aL (by omega),show l.i+j+1=l.i+(j+1) by omega];have e0:i64.wrap (i64.wrap (i64.wrap (((BU ((x::g).take j):Nat):Int)*10)+i64.wrap ((dg.toNat:Nat):Int)) - 48)=((BU ((x::g).take (j+1)):Nat):Int):=by
     have e7:(10:Nat) ^ 8=100000000:=rfl
     rw[c4,xv];rw[i64_in (_*10) (by omega),i64_in ((dg.toNat:Nat):Int) (by omega),i64_in (_+_) (by omega),i64_in _ (by omega)];omega
    rw[e0];exact d2 (j+1) w (by omega) h
  have:=c5 (x::g).length 0 w (by simp) h
  rw[lL1] at this;exact this
 refine af (ne 45 45 rfl (by decide)) (af (ne 42 42 rfl (by decide)) ?_);rw[ne 43 43 rfl (by decide)];refine af rfl ?_;have c9:x.toNat=48\/x.toNat=49\/x.toNat=50\/x.toNat=51\/x.toNat=52\/x.toNat=53\/x.toNat=54\/x.toNat=55\/x.toNat=56\/x.toNat=57:=by omega
 rcases c9 with e|e|e|e|e|e|e|e|e|e<;>rw[e]
 ·exact ag rfl k4
 ·exact af rfl (ag rfl k4)
 ·exact af rfl (af rfl (ag rfl k4))
 ·exact af rfl (af rfl (af rfl (ag rfl k4)))
 ·exact af rfl (af rfl (af rfl (af rfl (ag rfl k4))))
 ·exact af rfl (af rfl (af rfl (af rfl (af rfl (ag rfl k4)))))
 ·exact af rfl (af rfl (af rfl (af rfl (af rfl (af rfl (ag rfl k4))))))
 ·exact af rfl (af rfl (af rfl (af rfl (af rfl (af rfl (af rfl (ag rfl k4)))))))
 ·exact af rfl (af rfl (af rfl (af rfl (af rfl (af rfl (af rfl (af rfl (ag rfl k4))))))))
 ·exact af rfl (af rfl (af rfl (af rfl (af rfl (af rfl (af rfl (af rfl (af rfl (by exact k4)))))))))

theorem Ln.has.noHR2 {l:Ln}{c d:UInt8}{r m r2:List UInt8}(h:l.has c r)(hc:cO c=false)(y:c::r=m++d::r2)(hd:cO d=false)(g:d≠c):l.isHR=false:=by
 unfold Ln.isHR;simp only[h.lead hc 2,h.peek];split
 ·exact Ln.hrGo_has _ _ l h.ok h.sp ⟨m,by rw[h.tx,y]⟩ g hd
 ·rfl
theorem Ln.has.noHR3 {l:Ln}{c:UInt8}{r:List UInt8}(h:l.has c r)(hc:cO c=false)(g:c≠42/\c≠45/\c≠95):l.isHR=false:=by
 unfold Ln.isHR;simp only[h.lead hc 2,h.peek];rw[if_neg]
 rintro (rfl|rfl|rfl)
 ·exact absurd rfl (by first|exact g.1|exact g.2.1|exact g.2.2)
 ·exact absurd rfl (by first|exact g.1|exact g.2.1|exact g.2.2)
 ·exact absurd rfl (by first|exact g.1|exact g.2.1|exact g.2.2)
def inkB (s:List UInt8):Prop:= ∃d∈s,cO d=false/\d≠45
theorem Ag {c c0:UInt8}{r0:List UInt8}(hc:c=45\/c=43)(E:cO c0=false)(y:inkB (c0::r0)): ∀l,LnR l ([c,32]++(c0::r0))->qB l c 0 2 {l with i:=l.i+2}/\l.isHR=false:=by
 intro l g;have g:LnR l (c::32::c0::r0):=g
 have U:cO c=false:=by rcases hc with rfl|rfl<;>decide
 refine⟨Ln.marks g.ok (g.has.bullet (by rcases hc with rfl|rfl<;>simp) E),?_⟩;rcases hc with rfl|rfl
 ·obtain⟨d,hd,I,O⟩:=y;obtain⟨a,b,e⟩:=lU3 hd;exact g.has.noHR2 (by decide) (m:=45::32::a) (d:=d) (r2:=b) (by rw[e];rfl) I O
 ·exact g.has.noHR3 (by decide) (by decide)
theorem Af {x mk c0:UInt8}{g r0:List UInt8}(U:mk=46\/mk=41)(I: ∀c∈x::g,Eo c=true)(O:g.length<=8)(V:cO c0=false): ∀l,LnR l ((x::(g++ [mk,32]))++(c0::r0))->qB l mk (BU (x::g)) (g.length+3) {l with i:=l.i+(g.length+3)}/\l.isHR=false:=by
 intro l y;have e:(x::(g++ [mk,32]))++(c0::r0)=x::(g++mk::32::c0::r0):=by simp
 rw[e] at y;have hd:=I x (.head _);have E:cO x=false/\x≠42/\x≠45/\x≠95:=by
  refine⟨?_,?_,?_,?_⟩
  ·simp only[cO,lH2,beq_eq_false_iff_ne,ne_eq];constructor<;>(rintro rfl;revert hd;decide)
  all_goals (rintro rfl;revert hd;decide)
 exact⟨(y.has.numberM U y.ok.len I O V).1,y.has.noHR3 E.1 E.2⟩

inductive BN where
 |para (ls:List LT)
 |head (lv:Nat) (x:LT)
 |hr
 |code (w:List UInt8) (ls:List (Nat × List UInt8))
 |setx (c:UInt8) (ls:List LT)
 |quote (bs:List BN)
 |list (c:UInt8) (num:Nat) (gap:Bool) (its:List (List BN))
def Ep (n:Nat):List UInt8:=if n<10 then [UInt8.ofNat (48+n)] else [UInt8.ofNat (48+n/10),UInt8.ofNat (48+n%10)]
def mkI (c:UInt8)(num:Nat):List UInt8:=if c=46\/c=41 then Ep num++ [c,32] else [c,32]
mutual
def bg:BN->List (List UInt8)
 | .para ls=>ls.map cv
 | .head lv x=> [hN lv 35++32::cv x]
 | .hr=> [[42,42,42]]
 | .code w ls=>(96::96::96::w)::(ls.map rp++ [[96,96,96]])
 | .setx c ls=>ls.map cv++ [[c,c,c]]
 | .quote bs=>(aw bs).tail.map λs=>62::32::s
 | .list c num gap its=>dt c gap num its
def aw:List BN->List (List UInt8)
 | []=> []
 |b::r=> []::(bg b++aw r)
def dt (c:UInt8)(gap:Bool)(num:Nat):List (List BN)->List (List UInt8)
 | []=> []
 |it::r=>itL (mkI c num) (aw it).tail++d8 c gap (num+1) r
def d8 (c:UInt8)(gap:Bool)(num:Nat):List (List BN)->List (List UInt8)
 | []=> []
 |it::r=>if gap then []::(itL (mkI c num) (aw it).tail++d8 c gap (num+1) r) else itL (mkI c num) (aw it).tail++d8 c gap (num+1) r
end
mutual
def ij (n:Nat):BN->IN
 | .para ls=> .mk {kind:=6,s:=n,e:=n+ls.length - 1} (eK (tkG Tk.out [] (ft ls)))
 | .head lv x=> .mk {kind:=5,num:=(lv:Nat),s:=n,e:=n} (eK (tkG Tk.out [] (d9 x)))
 | .hr=> .mk {kind:=9,mark:= [42,42,42],s:=n,e:=n} []
 | .code w ls=> .mk {kind:=7,text:=dK (ls.map rp),title:=w,mark:= [96,96,96],s:=n,e:=n+ls.length+1} []
 | .setx c ls=> .mk {kind:=5,num:=(BV c:Nat),s:=n,e:=n+ls.length} (eK (tkG Tk.out [] (ft ls)))
 | .quote bs=> .mk {kind:=2,s:=n,e:=n+(aw bs).tail.length - 1} (dR n bs)
 | .list c num gap its=>xE n c (num:Nat) (jt c gap num n its)
def dR (n:Nat):List BN->List IN
 | []=> []
 |b::r=>ij n b::dR (n+(bg b).length+1) r
def jt (c:UInt8)(gap:Bool)(num n:Nat):List (List BN)->List IN
 | []=> []
 |it::r=> .mk {kind:=4,width:=(mkI c num).length,s:=n,e:=n - 1+(aw it).tail.length} (dR n it)::iK c gap (num+1) (n - 1+(aw it).tail.length) r
def iK (c:UInt8)(gap:Bool)(num n:Nat):List (List BN)->List IN
 | []=> []
 |it::r=>if gap then .mk {kind:=4,width:=(mkI c num).length,s:=n+2,e:=n+1+(aw it).tail.length} (dR (n+2) it)::iK c gap (num+1) (n+1+(aw it).tail.length) r else .mk {kind:=4,width:=(mkI c num).length,s:=n+1,e:=n+(aw it).tail.length} (dR (n+1) it)::iK c gap (num+1) (n+(aw it).tail.length) r
end
def bcB:BN->Option UInt8
 | .list c _ _ _=>some c
 |_=>none
def okLs (ls:List LT):Prop:=ls≠ []/\ls.length<=3/\ ∀x∈ls,xD x/\x.2.length<=2
mutual
def okB:BN->Prop
 | .para ls=>okLs ls
 | .head lv x=>(1<=lv/\lv<=6)/\xD x/\x.2.length<=2
 | .hr=>True
 | .code w ls=>(∀c∈w,BW c=true)/\w.length<=100/\ls≠ []/\ls.length<=3/\ ∀x∈ls,x.1<=2/\WdP x.2
 | .setx c ls=>(c=61\/c=45)/\okLs ls
 | .quote bs=>bs≠ []/\okS bs
 | .list c num gap its=>(c=45\/c=43\/c=46\/c=41)/\num+its.length<=90/\its≠ []/\okJ its
def okS:List BN->Prop
 | []=>True
 |b::r=>okB b/\(∀c,(r.head?.bind bcB)=some c->bcB b≠some c)/\okS r
def okJ:List (List BN)->Prop
 | []=>True
 |it::r=>it≠ []/\okS it/\okJ r
end
mutual
def dpB:BN->Nat
 | .quote bs=>dpT bs+1
 | .list _ _ _ its=>dpJ its+1
 |_=>0
def dpT:List BN->Nat
 | []=>0
 |b::r=>max (dpB b) (dpT r)
def dpJ:List (List BN)->Nat
 | []=>0
 |it::r=>max (dpT it) (dpJ r)
end
theorem BN.ind {P:BN->Prop}{S:List BN->Prop}{J:List (List BN)->Prop}(a6: ∀ls,P (.para ls))(b3: ∀lv x,P (.head lv x))(b5:P .hr)(b4: ∀w ls,P (.code w ls))(W: ∀c ls,P (.setx c ls))(V: ∀bs,S bs->P (.quote bs))(a7: ∀c num gap its,J its->P (.list c num gap its))(s0:S [])(E: ∀b r,P b->S r->S (b::r))(O:J [])(I: ∀it r,S it->J r->J (it::r)):(∀b,P b)/\(∀l,S l)/\ ∀l,J l:=by
 have U: ∀b,P b:=λb=>BN.rec (motive_1:=P) (motive_2:=S) (motive_3:=J) a6 b3 b5 b4 W (λbs h=>V bs h) (λc num gap its h=>a7 c num gap its h) s0 (λb r h g=>E b r h g) O (λit r h g=>I it r h g) b
 have hs: ∀l,S l:=by
  intro l
  induction l with
  |nil=>exact s0
  |cons b r y=>exact E b r (U b) y
 refine⟨U,hs,λl=>?_⟩
 induction l with
 |nil=>exact O
 |cons it r y=>exact I it r (hs it) y

theorem Gp {t:Tk}(h:Hr t):t.B.length<=304:=by
 cases t with
 |wd s=>have:=h.len;simp only[Tk.B];omega
 |sp=>exact h.elim
 |nl=>exact h.elim
 |em k s=>have g:=h.1.len;have y:=h.2;simp only[Tk.B,lA0,lG2];omega
 |cd s=>have:=h.len;simp only[Tk.B,lA0,lF0,lM1];omega
 |lk s d=>have g:=h.1.len;have y:=h.2.len;simp only[Tk.B,lA0,lF0,lM1];omega
 |es s=>have:=h.len;simp only[Tk.B,lF0];omega
theorem xL: ∀l:List Tk,(∀t∈l,Hr t)->(tkB (q9 l)).length<=305*l.length
 | [],_=>by simp[q9,tkB]
 |t::l,h=>by
  have E:=xL l λx y=>h x (.tail _ y)
  have ht:=Gp (h t (.head _));have e:q9 (t::l)= .sp::t::q9 l:=rfl
  rw[e,cw,cw];have g:Tk.sp.B.length=1:=rfl;simp only[lA0,lF0,g];omega
theorem ju {x:LT}(h:xD x)(g:x.2.length<=2):(cv x).length<=710:=by
 have y:=h.1.len;have E:=xL x.2 h.2;have e:cv x=x.1++tkB (q9 x.2):=rfl;rw[e,lA0];omega
theorem qZ: ∀ls:List LT,(∀x∈ls,xD x/\x.2.length<=2)->(bl [10] (ls.map cv)).length<=711*ls.length
 | [],_=>by simp[bl]
 | [x],h=>by
  have:=ju (h x (.head _)).1 (h x (.head _)).2;simp[bl];omega
 |x::y::r,h=>by
  have g:=qZ (y::r) λz hz=>h z (.tail _ hz)
  have:=ju (h x (.head _)).1 (h x (.head _)).2;have e:bl [10] ((x::y::r).map cv)=cv x++10::bl [10] ((y::r).map cv):=by simp[bl]
  rw[e];simp only[lA0,lF0] at g⊢;omega
theorem okLs.len {ls:List LT}(h:okLs ls):(bl [10] (ls.map cv)).length<200000:=by
 have:=qZ ls h.2.2;have:=h.2.1;omega
theorem oN {n:Nat}(h:n<100): ∃x g,Ep n=x::g/\(∀c∈x::g,Eo c=true)/\g.length<=1/\BU (x::g)=n:=by
 have O:(List.range 100).all (λn=>(Ep n).all Eo && decide (Ep n≠ []) && decide ((Ep n).length<=2) && decide (BU (Ep n)=n))=true:=by kernel_rfl
 have:=lF2.1 O n (lY2.2 h);simp only[lN1,decide_eq_true_eq,lF2] at this;obtain⟨⟨⟨y,U⟩,I⟩,E⟩:=this;obtain⟨x,g,e⟩:=lD1 U;rw[e] at y I E;exact⟨x,g,e,y,by simpa using I,E⟩
theorem u6 {c:UInt8}(h:Eo c=true):cO c=false/\c≠45/\c≠62/\c≠35/\c≠10/\c≠13/\c≠0:=by
 have:=lF2.1 (show (List.range 256).all (λn=> !(Eo (UInt8.ofNat n))||(!cO (UInt8.ofNat n) && UInt8.ofNat n !=45 && UInt8.ofNat n !=62 && UInt8.ofNat n !=35 && UInt8.ofNat n !=10 && UInt8.ofNat n !=13 && UInt8.ofNat n !=0))=true by kernel_rfl) c.toNat (lY2.2 c.toNat_lt);rw[lA4,h] at this
 simpa[and_assoc] using this
def Hd (ls:List (List UInt8)):Prop:= ∃c0 r0 rest,ls=(c0::r0)::rest/\cO c0=false/\inkB (c0::r0)
theorem G4 {x:LT}(h:xD x)(rest:List (List UInt8)):Hd (cv x::rest):=by
 obtain⟨c,r,e,hc⟩:=qY h;obtain⟨_,g,_,y,_⟩:=sy hc;exact⟨c,r,rest,by rw[e],g,c,.head _,g,y⟩
theorem Aw {ls:List LT}(h:okLs ls)(rest:List (List UInt8)):Hd (ls.map cv++rest):=by
 obtain⟨x,r,rfl⟩:=lD1 h.1;exact G4 (h.2.2 x (.head _)).1 (r.map cv++rest)
theorem Hd.append {a:List (List UInt8)}(h:Hd a)(b:List (List UInt8)):Hd (a++b):=by
 obtain⟨c0,r0,rest,rfl,g,y⟩:=h;exact⟨c0,r0,rest++b,rfl,g,y⟩
theorem Hd.item {mk:List UInt8}{x:UInt8}{r:List UInt8}{ls:List (List UInt8)}(h:Hd ls)(y:mk=x::r)(I:cO x=false)(rest:List (List UInt8)):Hd (itL mk ls++rest):=by
 obtain⟨c0,r0,g,rfl,V,d,E,U,O⟩:=h;subst y;refine⟨x,r++(c0::r0),g.map (CX.pre (.i (x::r).length))++rest,rfl,I,d,?_,U,O⟩;rw[<-lR0];exact lB0 _ E
theorem xA {c:UInt8}{num:Nat}(hc:c=45\/c=43\/c=46\/c=41)(y:num<100): ∃x r,mkI c num=x::r/\yD x/\(mkI c num).length<100:=by
 rcases hc with rfl|rfl|rfl|rfl
 ·exact⟨45,[32],rfl,by unfold yD;decide,by show 2<100;decide⟩
 ·exact⟨43,[32],rfl,by unfold yD;decide,by show 2<100;decide⟩
 all_goals
  obtain⟨x,V,e,I,W,a6⟩:=oN y;obtain⟨E,U,g,O,_⟩:=u6 (I x (.head _));refine⟨x,_,by unfold mkI;rw[if_pos (by decide),e];rfl,⟨E,g,O⟩,?_⟩;unfold mkI;rw[if_pos (by decide),e];simp only[lA0,lF0,lM1];omega
theorem CS {c:UInt8}{num:Nat}(hc:c=45\/c=43\/c=46\/c=41)(U:num<100){ls:List (List UInt8)}(h:Hd ls): ∀l,LnR l (mkI c num++ls.headD [])->qB l c ((if c=46\/c=41 then num else 0:Nat)) (mkI c num).length {l with i:=l.i+(mkI c num).length}/\l.isHR=false:=by
 obtain⟨c0,r0,rest,rfl,y,V⟩:=h;rcases hc with rfl|rfl|rfl|rfl
 ·exact Ag (.inl rfl) y V
 ·exact Ag (.inr rfl) y V
 ·obtain⟨x,g,e,E,W,O⟩:=oN U;have em:mkI 46 num=x::(g++ [46,32]):=by unfold mkI;rw[if_pos (by decide),e];rfl
  have I:(mkI 46 num).length=g.length+3:=by rw[em];simp
  rw[if_pos (by decide),I,em,<-O];exact Af (.inl rfl) E (by omega) y
 ·obtain⟨x,g,e,E,W,O⟩:=oN U;have em:mkI 41 num=x::(g++ [41,32]):=by unfold mkI;rw[if_pos (by decide),e];rfl
  have I:(mkI 41 num).length=g.length+3:=by rw[em];simp
  rw[if_pos (by decide),I,em,<-O];exact Af (.inr rfl) E (by omega) y
theorem px (b:BN)(r:List BN):(aw (b::r)).tail=bg b++aw r:=rfl
theorem tM:(∀b,okB b->Hd (bg b))/\(∀l,okS l->l≠ []->Hd (aw l).tail)/\ ∀l,okJ l-> ∀it∈l,it≠ []/\okS it/\Hd (aw it).tail:=by
 refine BN.ind (P:=λb=>okB b->Hd (bg b)) (S:=λl=>okS l->l≠ []->Hd (aw l).tail) (J:=λl=>okJ l-> ∀it∈l,it≠ []/\okS it/\Hd (aw it).tail) ?_ ?_ ?_ ?_ ?_ ?_ ?_ ?_ ?_ ?_ ?_
 ·intro ls h;have:=Aw h []
  rwa [lG0] at this
 ·intro lv x ⟨⟨a6,a7⟩,b4,_⟩;obtain⟨k,rfl⟩: ∃k,lv=k+1:=⟨lv - 1,by omega⟩
  exact⟨35,hN k 35++32::cv x,[],rfl,by decide,35,.head _,by decide,by decide⟩
 ·intro _;exact⟨42,[42,42],[],rfl,by decide,42,.head _,by decide,by decide⟩
 ·intro w ls _;exact⟨96,96::96::w,_,rfl,by decide,96,.head _,by decide,by decide⟩
 ·intro c ls h;exact Aw h.2 _
 ·intro bs y h;obtain⟨c0,r0,rest,e,a6,a7⟩:=y h.2 h.1;refine⟨62,32::c0::r0,rest.map λs=>62::32::s,?_,by decide,62,.head _,by decide,by decide⟩
  show (aw bs).tail.map _=_
  rw[e];rfl
 ·intro c num gap its y h;obtain⟨hc,W,O,V⟩:=h;obtain⟨it,r,rfl⟩:=lD1 O;simp only[lF0] at W;obtain⟨x,t,e,g,_⟩:=xA (num:=num) hc (by omega);exact(y V it (.head _)).2.2.item e g.1 _
 ·intro _ h;exact absurd rfl h
 ·intro b r U b3 h _;rw[px];exact(U h.1).append _
 ·intro _ it h;cases h
 ·intro it r I E h x g;cases g with
  |head=>exact⟨h.1,h.2.1,I h.2.1 h.1⟩
  |tail _ g=>exact E h.2.2 x g
def Ek (c:UInt8):Nat->List (List BN)->List Itm
 |_,[]=> []
 |num,it::r=>⟨mkI c num,(aw it).tail,λn=>dR n it⟩::Ek c (num+1) r
theorem xF (c:UInt8)(gap:Bool): ∀(its:List (List BN)) (num:Nat),d8 c gap num its=kv gap (Ek c num its)
 | [],_=>rfl
 |it::r,num=>by
  rw[d8,Ek,kv,xF c gap r (num+1)]
theorem tr (c:UInt8)(gap:Bool): ∀(its:List (List BN)) (num n:Nat),iK c gap num n its=tJ gap n (Ek c num its)
 | [],_,_=>rfl
 |it::r,num,n=>by
  rw[iK,Ek,tJ,tr c gap r,tr c gap r]
theorem Al {c:UInt8}: ∀ {its:List (List BN)} {num:Nat} {i:Itm},i∈Ek c num its-> ∃k it,it∈its/\k<num+its.length/\i=⟨mkI c k,(aw it).tail,λn=>dR n it⟩
 |it::r,num,i,h=>by
  rw[Ek] at h;cases h with
  |head=>exact⟨num,it,.head _,by simp,rfl⟩
  |tail _ h=>
   obtain⟨k,x,g,E,y⟩:=Al h;exact⟨k,x,.tail _ g,by simp;omega,y⟩
theorem EZ {s:Nat}{c:UInt8}{a b:Int}{its:List IN}(h:c=46\/c=41->a=b):xE s c a its=xE s c b its:=by
 unfold xE
 by_cases hc:c=46\/c=41
 ·rw[h hc]
 ·rw[if_neg hc,if_neg hc]
theorem A9 {c:UInt8}: ∀b:BN,okB b->bcB b≠some c-> ∀n,(ij n b).h.char≠ [c]:=by
 intro b hb h n;cases b with
 |list E num gap its=>
  intro g;have y:([E]:List UInt8)= [c]:=g
  exact h (by rw[List.cons.inj y|>.1];rfl)
 |_=>intro g;cases g
theorem Fb {c:UInt8}(hc:c=45\/c=43\/c=46\/c=41):Utf8.encode (c.toNat:Int)=bs [c]:=by
 rcases hc with rfl|rfl|rfl|rfl<;>decide
theorem vJ: ∀ls:List (Nat × List UInt8),(∀x∈ls,x.1<=2/\WdP x.2)->(dK (ls.map rp)).length<=103*ls.length
 | [],_=>by simp[dK]
 |x::r,h=>by
  have E:=vJ r λz hz=>h z (.tail _ hz)
  obtain⟨y,g⟩:=h x (.head _);have I:=g.len;have e:dK ((x::r).map rp)=(rp x++ [10])++dK (r.map rp):=by simp[dK]
  rw[e];simp only[lA0,lF0,lM1,rp,lG2];omega
theorem DV (E:op.task=false)(b6:op.table=false)(O:op.auto=false)(c4:op.ids=false){ec:ai}(e0:BP ec):
 (∀b,okB b-> ∀d,dpB b<=d->BlkP wE op ec (bg b) (λn=>ij n b) d (bcB b))/\(∀l,okS l->l≠ []-> ∀d,dpT l<=d->Ec wE op ec (aw l).tail (λn=>dR n l) d (l.head?.bind bcB))/\
 ∀l,okJ l-> ∀d,dpJ l<=d-> ∀it∈l,Ec wE op ec (aw it).tail (λn=>dR n it) d (it.head?.bind bcB):=by
 obtain⟨d2,b8,b7⟩:=tM;refine BN.ind (P:=λb=>okB b-> ∀d,dpB b<=d->BlkP wE op ec (bg b) (λn=>ij n b) d (bcB b)) (S:=λl=>okS l->l≠ []-> ∀d,dpT l<=d->Ec wE op ec (aw l).tail (λn=>dR n l) d (l.head?.bind bcB))
  (J:=λl=>okJ l-> ∀d,dpJ l<=d-> ∀it∈l,Ec wE op ec (aw it).tail (λn=>dR n it) d (it.head?.bind bcB)) ?_ ?_ ?_ ?_ ?_ ?_ ?_ ?_ ?_ ?_ ?_
 ·intro ls h d _;exact A8 E b6 O h.1 (λx g=>(h.2.2 x g).1) h.len
 ·intro lv x h d _;exact Dr E c4 O h.1 h.2.1 (by have:=ju h.2.1 h.2.2;omega)
 ·intro _ d _;exact Ic E
 ·intro w ls h d _;obtain⟨y,e5,e4,e8,a6⟩:=h;have c2:=vJ ls a6;have:=Fq (G:=wE) E (ec:=ec) (d:=d) (info:=w) (ls:=ls.map rp) e0 y (by omega) (λs hs=>?_) ?_ (by omega)
  ·rw[lQ0] at this;exact this
  ·obtain⟨x,g,rfl⟩:=lU1.1 hs;obtain⟨a,b⟩:=a6 x g;exact Fh (by omega) b
  ·obtain⟨x,r,rfl⟩:=lD1 e4;obtain⟨a,b⟩:=a6 x (.head _);intro h0;have h0:some (rp x)=some []:=h0;have:=congrArg List.length (Option.some.inj h0);have hb:=b.ne;have:0<x.2.length:=lZ0.2 hb;simp only[rp,lA0,lG2,lM1] at*
   omega
 ·intro c ls h d _;exact wZ E b6 O h.1 h.2.1 (λx g=>(h.2.2.2 x g).1) h.2.len
 ·intro bs b4 h d hd;obtain⟨k,rfl⟩: ∃k,d=k+1:=⟨d - 1,by have:dpT bs+1<=d:=hd;omega⟩
  have V:dpT bs<=k:=by have:dpT bs+1<=k+1:=hd;omega
  obtain⟨c0,r0,rest,e,y,_⟩:=b8 bs h.2 h.1;exact DY E (b4 h.2 h.1 k V) (c0:=c0) (r0:=r0) (by rw[e];rfl) y
 ·intro c num gap its b4 h d hd;obtain⟨hc,d3,d1,a7⟩:=h;obtain⟨k,rfl⟩: ∃k,d=k+1:=⟨d - 1,by have:dpJ its+1<=d:=hd;omega⟩
  have V:dpJ its<=k:=by have:dpJ its+1<=k+1:=hd;omega
  have b9: ∀m it,it∈its->m<100->ItOK wE op ec c (if c=46\/c=41 then m else 0) (mkI c m) (aw it).tail (λn=>dR n it) k:=by
   intro m it I c3;obtain⟨c0,r0,rest,e,y,_⟩:=(b7 its a7 it I).2.2;obtain⟨x,t,b5,g,c2⟩:=xA (num:=m) hc c3;exact⟨⟨_,b4 a7 k V it I⟩,⟨c0,r0,by rw[e];rfl,y⟩,⟨x,t,b5,g⟩,CS hc c3 (b7 its a7 it I).2.2,c2⟩
  obtain⟨it,r,rfl⟩:=lD1 d1;simp only[lF0] at d3;have:=Fo (G:=wE) E (Fb hc) gap (b9 num it (.head _) (by omega)) (its:=Ek c (num+1) r) λi hi=>by
   obtain⟨m,x,y,e5,rfl⟩:=Al hi;exact⟨_,b9 m x (.tail _ y) (by omega)⟩
  have b3:bg (.list c num gap (it::r))=itL (mkI c num) (aw it).tail++kv gap (Ek c (num+1) r):=by rw[bg,dt,xF]
  have b5:(λn=>ij n (.list c num gap (it::r)))=λn=>xE n c ((if c=46\/c=41 then num else 0:Nat):Int) (.mk {kind:=4,width:=(mkI c num).length,s:=n,e:=n - 1+(aw it).tail.length} (dR n it)::tJ gap (n - 1+(aw it).tail.length) (Ek c (num+1) r)):=by
   funext n;rw[ij,jt,tr];exact EZ λh=>by rw[if_pos h]
  rw[b3,b5];exact this
 ·intro _ h;exact absurd rfl h
 ·intro b r c5 c8 h _ d hd;have W:dpB b<=d:=by have:max (dpB b) (dpT r)<=d:=hd;omega
  have U:dpT r<=d:=by have:max (dpB b) (dpT r)<=d:=hd;omega
  have y:=c5 h.1 d W;rw[px];cases r with
  |nil=>
   have e:bg b++aw []=bg b:=lG0 _;rw[e];exact y.seq
  |cons b2 r=>
   obtain⟨c0,r0,rest,e,e3,_⟩:=b8 (b2::r) h.2.2 (by simp);obtain⟨e7,e9,e6,b3,_⟩:=d2 b h.1;exact Ez E y (by rw[b3];simp) (c8 h.2.2 (by simp) d U) (c0:=c0) (r0:=r0) (by rw[e];rfl) e3 λc hc n=>A9 b h.1 (h.2.1 c hc) n
 ·intro _ d _ it I;cases I
 ·intro it r d0 c9 h d hd x g;have W:dpT it<=d:=by have:max (dpT it) (dpJ r)<=d:=hd;omega
  have U:dpJ r<=d:=by have:max (dpT it) (dpJ r)<=d:=hd;omega
  cases g with
  |head=>exact d0 h.2.1 h.1 d W
  |tail _ g=>exact c9 h.2.2 d U x g

def chB (c:UInt8):Prop:=c≠10/\c≠13/\c≠0
structure GdL (n:Nat) (ls:List (List UInt8)):Prop where
 ch: ∀s∈ls,(∀c∈s,chB c)/\s.length<=n
 last: ∃m s,ls=m++ [s]/\s≠ []
theorem rY {c:UInt8}(h:wB c=true):chB c:=by
 obtain⟨_,_,_,_,_,_,y,g,E,_⟩:=sy h;exact⟨y,g,E⟩
def dsOK:Tk->Prop
 | .lk _ d=> ∀c∈d,chB c
 |_=>True
theorem HG {t:Tk}(h:Hr t)(hd:dsOK t): ∀c∈t.B,chB c:=by
 intro c hc;cases t with
 |wd s=>exact rY (h.by_ c hc)
 |sp=>exact h.elim
 |nl=>exact h.elim
 |em k s=>
  simp only[Tk.B,lP0,lW3] at hc;rcases hc with ⟨_,rfl⟩|hc|⟨_,rfl⟩
  ·exact⟨by decide,by decide,by decide⟩
  ·exact rY (h.1.by_ c hc)
  ·exact⟨by decide,by decide,by decide⟩
 |cd s=>
  simp only[Tk.B,lP0,lW0,lH1,or_false] at hc;rcases hc with rfl|hc|rfl
  ·exact⟨by decide,by decide,by decide⟩
  ·exact rY (h.by_ c hc)
  ·exact⟨by decide,by decide,by decide⟩
 |lk s d=>
  simp only[Tk.B,lP0,lW0,lH1,or_false] at hc;rcases hc with rfl|hc|rfl|rfl|hc|rfl
  ·exact⟨by decide,by decide,by decide⟩
  ·exact rY (h.1.by_ c hc)
  ·exact⟨by decide,by decide,by decide⟩
  ·exact⟨by decide,by decide,by decide⟩
  ·exact hd c hc
  ·exact⟨by decide,by decide,by decide⟩
 |es s=>
  simp only[Tk.B,lW0] at hc;rcases hc with rfl|rfl|hc
  ·exact⟨by decide,by decide,by decide⟩
  ·exact⟨by decide,by decide,by decide⟩
  ·exact rY (h.by_ c hc)
def GR (x:LT):Prop:= ∀t∈x.2,dsOK t
theorem Ah {x:LT}(h:xD x)(hd:GR x): ∀c∈cv x,chB c:=by
 intro c hc;have e:cv x=x.1++tkB (q9 x.2):=rfl;rw[e] at hc;rcases lP0.1 hc with hc|hc
 ·exact rY (h.1.by_ c hc)
 ·obtain⟨t,ht,hc⟩:=lV2.1 hc;obtain⟨u,g,ht⟩:=lV2.1 ht;simp only[lW0,lH1,or_false] at ht;rcases ht with rfl|rfl
  ·obtain rfl:=lN0.1 hc;exact⟨by decide,by decide,by decide⟩
  ·exact HG (h.2 _ g) (hd _ g) c hc
theorem E0 {x:LT}(h:xD x):cv x≠ []:=by
 obtain⟨c,r,e,_⟩:=qY h;rw[e];simp
theorem GdL.mono {n m:Nat}{ls:List (List UInt8)}(h:GdL n ls)(g:n<=m):GdL m ls:=⟨λs hs=>⟨(h.ch s hs).1,by have:=(h.ch s hs).2;omega⟩,h.last⟩
theorem GdL.ne {n:Nat}{ls:List (List UInt8)}(h:GdL n ls):ls≠ []:=by
 obtain⟨m,s,e,_⟩:=h.last;rw[e];simp
theorem GdL.append {n:Nat}{a b:List (List UInt8)}(y: ∀s∈a,(∀c∈s,chB c)/\s.length<=n)(hb:GdL n b):GdL n (a++b):=by
 obtain⟨m,s,e,h⟩:=hb.last;refine⟨λx g=>?_,a++m,s,by rw[e,lD0],h⟩;rcases lP0.1 g with g|g
 ·exact y x g
 ·exact hb.ch x g
theorem GdL.map {n k:Nat}{ls:List (List UInt8)}{f:List UInt8->List UInt8}(h:GdL n ls)(I: ∀s,(∀c∈s,chB c)->(∀c∈f s,chB c))(V: ∀s,(f s).length<=s.length+k)(E: ∀s,s≠ []->f s≠ []):GdL (n+k) (ls.map f):=by
 obtain⟨m,s,e,O⟩:=h.last;refine⟨λx U=>?_,m.map f,f s,by rw[e,lV0];rfl,E s O⟩;obtain⟨g,a6,rfl⟩:=lU1.1 U;obtain⟨W,a7⟩:=h.ch g a6;exact⟨I g W,by have:=V g;omega⟩
theorem GdL.lines {ls:List LT}(h:okLs ls)(hd: ∀x∈ls,GR x):GdL 710 (ls.map cv):=by
 obtain⟨m,x,e⟩: ∃m x,ls=m++ [x]:=⟨_,_,(lY3 h.1).symm⟩
 refine⟨λs hs=>?_,m.map cv,cv x,by rw[e,lV0];rfl,E0 (h.2.2 x (by rw[e];simp)).1⟩;obtain⟨I,g,rfl⟩:=lU1.1 hs;obtain⟨E,O⟩:=h.2.2 I g;exact⟨Ah E (hd I g),ju E O⟩
theorem GdL.item {n k:Nat}{mk:List UInt8}{ls:List (List UInt8)}(h:GdL n ls)(W: ∀c∈mk,chB c)(a7:mk.length<=k)(V:mk≠ []):GdL (n+k) (itL mk ls):=by
 obtain⟨s,r,rfl⟩:=lD1 h.ne;have I:=h.ch s (.head _);have e:itL mk (s::r)=(mk++s)::r.map (CX.pre (.i mk.length)):=rfl
 rw[e];have hs:(∀c∈mk++s,chB c)/\(mk++s).length<=n+k:=by
  refine⟨λc hc=>?_,by rw[lA0];have:=I.2;omega⟩;rcases lP0.1 hc with hc|hc
  ·exact W c hc
  ·exact I.1 c hc
 refine⟨λx E=>?_,?_⟩
 ·cases E with
  |head=>exact hs
  |tail _ E=>
   obtain⟨U,a6,rfl⟩:=lU1.1 E;obtain⟨a,b⟩:=h.ch U (.tail _ a6);unfold CX.pre;dsimp only;split
   ·exact And.intro (λc hc=>absurd hc lH1) (lD2 _)
   ·refine⟨λc hc=>?_,by simp;omega⟩;rcases lP0.1 hc with hc|hc
    ·obtain⟨_,rfl⟩:=lW3.1 hc;exact⟨by decide,by decide,by decide⟩
    ·exact a c hc
 ·obtain⟨m,x,g,O⟩:=h.last;cases m with
  |nil=>
   simp only[lT0,lU0] at g;obtain⟨rfl,rfl⟩:=g;exact⟨[],mk++s,rfl,by simp[V]⟩
  |cons U m=>
   simp only[lR0,lU0] at g;obtain⟨rfl,rfl⟩:=g;refine⟨(mk++s)::m.map (CX.pre (.i mk.length)),CX.pre (.i mk.length) x,by rw[lV0];rfl,?_⟩;unfold CX.pre;dsimp only;rw[if_neg O];simp[O]
mutual
def dsB:BN->Prop
 | .para ls=> ∀x∈ls,GR x
 | .head _ x=>GR x
 | .hr=>True
 | .code w _=> ∀c∈w,chB c
 | .setx _ ls=> ∀x∈ls,GR x
 | .quote bs=>dsS bs
 | .list _ _ _ its=>dsJ its
def dsS:List BN->Prop
 | []=>True
 |b::r=>dsB b/\dsS r
def dsJ:List (List BN)->Prop
 | []=>True
 |it::r=>dsS it/\dsJ r
end
theorem FS {c:UInt8}{num:Nat}(hc:c=45\/c=43\/c=46\/c=41)(U:num<100):(∀x∈mkI c num,chB x)/\(mkI c num).length<=4/\mkI c num≠ []:=by
 have I:chB c:=by rcases hc with rfl|rfl|rfl|rfl<;>exact⟨by decide,by decide,by decide⟩
 have E:chB 32:=⟨by decide,by decide,by decide⟩;unfold mkI;split
 ·obtain⟨x,W,e,V,a6,_⟩:=oN U;rw[e];refine⟨λO g=>?_,by simp;omega,by simp⟩;rcases lP0.1 g with g|g
  ·obtain⟨_,_,_,_,a,b,d⟩:=u6 (V O g);exact⟨a,b,d⟩
  ·simp only[lW0,lH1,or_false] at g;rcases g with rfl|rfl
   ·exact I
   ·exact E
 ·refine⟨λO g=>?_,by simp,by simp⟩;simp only[lW0,lH1,or_false] at g;rcases g with rfl|rfl
  ·exact I
  ·exact E
theorem FY {n:Nat}: ∀s∈([[]]:List (List UInt8)),(∀c∈s,chB c)/\s.length<=n:=by
 intro s hs;obtain rfl:=lN0.1 hs;exact And.intro (λc hc=>absurd hc lH1) (lD2 _)
theorem ye:(∀b,okB b->dsB b->GdL (720+4*dpB b) (bg b))/\(∀l,okS l->dsS l->l≠ []->GdL (720+4*dpT l) (aw l).tail)/\ ∀l,okJ l->dsJ l->(∀(c:UInt8) (num:Nat) (gap:Bool),(c=45\/c=43\/c=46\/c=41)->num+l.length<100->l≠ []->GdL (720+4*dpJ l+4) (dt c gap num l)/\GdL (720+4*dpJ l+4) (d8 c gap num l)):=by
 refine BN.ind (P:=λb=>okB b->dsB b->GdL (720+4*dpB b) (bg b)) (S:=λl=>okS l->dsS l->l≠ []->GdL (720+4*dpT l) (aw l).tail) (J:=λl=>okJ l->dsJ l->(∀(c:UInt8) (num:Nat) (gap:Bool),(c=45\/c=43\/c=46\/c=41)->num+l.length<100->l≠ []->GdL (720+4*dpJ l+4) (dt c gap num l)/\GdL (720+4*dpJ l+4) (d8 c gap num l)))
  ?_ ?_ ?_ ?_ ?_ ?_ ?_ ?_ ?_ ?_ ?_
 ·intro ls h hd;exact(GdL.lines h hd).mono (by omega)
 ·intro lv x h hd;obtain⟨⟨b7,c1⟩,I,U⟩:=h;have c2:=ju I U;refine⟨λs hs=>?_,[],_,rfl,by simp⟩;obtain rfl:=lN0.1 hs;refine⟨λc hc=>?_,by simp;omega⟩;simp only[lP0,lW0,lW3] at hc;rcases hc with ⟨_,rfl⟩|rfl|hc
  ·exact⟨by decide,by decide,by decide⟩
  ·exact⟨by decide,by decide,by decide⟩
  ·exact Ah I hd c hc
 ·intro _ _;refine⟨λs hs=>?_,[],_,rfl,by simp⟩;obtain rfl:=lN0.1 hs;refine⟨λc hc=>?_,by simp;omega⟩;simp only[lW0,lH1,or_false,or_self] at hc;subst hc;exact⟨by decide,by decide,by decide⟩
 ·intro w ls h hd;obtain⟨b7,c1,I,U,b5⟩:=h;refine⟨λs hs=>?_,(96::96::96::w)::ls.map rp,[96,96,96],rfl,by simp⟩;have g:chB 96:=⟨by decide,by decide,by decide⟩;have b6:s=96::96::96::w\/s∈ls.map rp\/s= [96,96,96]:=by simpa[bg] using hs
  rcases b6 with rfl|hs|rfl
  ·refine⟨λc hc=>?_,by simp;omega⟩;simp only[lW0] at hc;rcases hc with rfl|rfl|rfl|hc
   ·exact g
   ·exact g
   ·exact g
   ·exact hd c hc
  ·obtain⟨x,y,rfl⟩:=lU1.1 hs;obtain⟨a,b⟩:=b5 x y;have:=b.len;refine⟨λc hc=>?_,by simp[rp];omega⟩;rcases lP0.1 hc with hc|hc
   ·obtain⟨_,rfl⟩:=lW3.1 hc;exact⟨by decide,by decide,by decide⟩
   ·exact rY (b.by_ c hc)
  ·refine⟨λc hc=>?_,by simp;omega⟩;simp only[lW0,lH1,or_false,or_self] at hc;subst hc;exact g
 ·intro c ls h hd;have hc:chB c:=by rcases h.1 with rfl|rfl<;>exact⟨by decide,by decide,by decide⟩
  refine GdL.append (λs hs=>?_) ⟨λs hs=>?_,[],_,rfl,by simp⟩
  ·obtain⟨a,b⟩:=(GdL.lines h.2 hd).ch s hs;exact⟨a,by omega⟩
  ·obtain rfl:=lN0.1 hs;refine⟨λx y=>?_,by simp;omega⟩;simp only[lW0,lH1,or_false,or_self] at y;subst y;exact hc
 ·intro bs O h hd;have:=(O h.2 hd h.1).map (f:=λs=>62::32::s) (k:=2) (λs hs c hc=>?_) (λs=>by simp) (λs _=>by simp)
  ·exact this.mono (by show _<=720+4*(dpT bs+1);omega)
  ·simp only[lW0] at hc;rcases hc with rfl|rfl|hc
   ·exact⟨by decide,by decide,by decide⟩
   ·exact⟨by decide,by decide,by decide⟩
   ·exact hs c hc
 ·intro c num gap its O h hd;obtain⟨hc,E,b3,b9⟩:=h;exact(O b9 hd c num gap hc (by omega) b3).1.mono (by show _<=720+4*(dpJ its+1);omega)
 ·intro _ _ h;exact absurd rfl h
 ·intro b r V W h hd _;rw[px];have hb:=V h.1 hd.1;have b8:dpB b<=dpT (b::r):=Nat.le_max_left _ _
  have b4:dpT r<=dpT (b::r):=Nat.le_max_right _ _
  cases r with
  |nil=>
   have e:bg b++aw []=bg b:=lG0 _;rw[e];exact hb.mono (by omega)
  |cons b2 r=>
   have e:aw (b2::r)= [[]]++(aw (b2::r)).tail:=rfl
   rw[e];refine GdL.append (hb.mono (by omega)).ch (GdL.append FY ((W h.2.2 hd.2 (by simp)).mono (by omega)))
 ·intro _ _ c num gap _ _ h;exact absurd rfl h
 ·intro it r a7 a6 h hd c num gap hc E _;simp only[lF0] at E;obtain⟨k1,k2,k3⟩:=FS (num:=num) hc (by omega);have b8:dpT it<=dpJ (it::r):=Nat.le_max_left _ _
  have b4:dpJ r<=dpJ (it::r):=Nat.le_max_right _ _
  have hi:=((a7 h.2.1 hd.1 h.1).item k1 k2 k3).mono (m:=720+4*dpJ (it::r)+4) (by omega)
  have hr:GdL (720+4*dpJ (it::r)+4) (itL (mkI c num) (aw it).tail++d8 c gap (num+1) r):=by
   cases r with
   |nil=>
    have e:itL (mkI c num) (aw it).tail++d8 c gap (num+1) []=itL (mkI c num) (aw it).tail:=lG0 _;rw[e];exact hi
   |cons x r=>exact GdL.append hi.ch ((a6 h.2.2 hd.2 c (num+1) gap hc (by simp at E⊢;omega) (by simp)).2.mono (by omega))
  refine⟨hr,?_⟩;rw[d8];split
  ·exact GdL.append FY hr
  ·exact hr
def NBd:Nat->Nat
 |0=>5
 |1=>35
 |d+2=>3*NBd (d+1)+2
theorem qA: ∀d,3*NBd d+2<=NBd (d+1)
 |0=>by decide
 |d+1=>lE1 _
theorem Fy (d:Nat):6*NBd (d - 1)+5<=NBd (d+1):=by
 cases d with
 |zero=>decide
 |succ d=>
  have g:=qA d;have y:=qA (d+1)
  show 6*NBd d+5<=NBd (d+1+1)
  omega
mutual
def smB:Nat->BN->Prop
 |d,.quote bs=>1<=d/\bs.length<=3/\smS (d - 1) bs
 |d,.list _ _ _ its=>1<=d/\its.length<=3/\smJ (d - 2) its
 |_,_=>True
def smS:Nat->List BN->Prop
 |_,[]=>True
 |d,b::r=>smB d b/\smS d r
def smJ:Nat->List (List BN)->Prop
 |_,[]=>True
 |d,it::r=>it.length<=2/\smS d it/\smJ d r
end
theorem pF:(∀b,okB b-> ∀d,smB d b->(bg b).length<=NBd d/\dpB b<=d)/\(∀l,okS l-> ∀d,smS d l->(aw l).length<=l.length*(NBd d+1)/\dpT l<=d)/\ ∀l,okJ l-> ∀d,smJ d l->(∀c gap num,(d8 c gap num l).length<=l.length*(2*NBd d+2)/\(l≠ []->(dt c gap num l).length+1<=l.length*(2*NBd d+2)))/\dpJ l<=d:=by
 have g: ∀d,5<=NBd d:=by
  intro d
  induction d with
  |zero=>decide
  |succ d E=>have:=qA d;omega
 refine BN.ind (P:=λb=>okB b-> ∀d,smB d b->(bg b).length<=NBd d/\dpB b<=d) (S:=λl=>okS l-> ∀d,smS d l->(aw l).length<=l.length*(NBd d+1)/\dpT l<=d) (J:=λl=>okJ l-> ∀d,smJ d l->(∀c gap num,(d8 c gap num l).length<=l.length*(2*NBd d+2)/\(l≠ []->(dt c gap num l).length+1<=l.length*(2*NBd d+2)))/\dpJ l<=d) ?_ ?_ ?_ ?_ ?_ ?_ ?_ ?_ ?_ ?_ ?_
 ·intro ls h d _;have:=g d;have:=h.2.1;exact⟨by simp[bg];omega,lD2 _⟩
 ·intro lv x h d _;have:=g d;exact⟨by simp[bg];omega,lD2 _⟩
 ·intro h d _;have:=g d;exact⟨by simp[bg];omega,lD2 _⟩
 ·intro w ls h d _;have:=g d;have:=h.2.2.2.1;exact⟨by simp[bg];omega,lD2 _⟩
 ·intro c ls h d _;have:=g d;have:=h.2.2.1;exact⟨by simp[bg];omega,lD2 _⟩
 ·intro bs E h d hs;obtain⟨b5,I,y⟩:=hs;obtain⟨k,rfl⟩: ∃k,d=k+1:=⟨d - 1,by omega⟩
  obtain⟨a,b⟩:=E h.2 k y;have b7:=qA k;refine⟨?_,by show dpT bs+1<=_;omega⟩;have e:(bg (.quote bs)).length=(aw bs).length - 1:=by simp[bg]
  rw[e];have:=lC2 (NBd k+1) I;omega
 ·intro c num gap its E h d hs;obtain⟨hc,b9,W,b3⟩:=h;obtain⟨b5,I,y⟩:=hs;obtain⟨k,rfl⟩: ∃k,d=k+1:=⟨d - 1,by omega⟩
  have e:k+1 - 2=k - 1:=by omega
  rw[e] at y;obtain⟨a,b⟩:=E b3 (k - 1) y;have b7:=Fy k;refine⟨?_,by show dpJ its+1<=_;omega⟩;have a2:=(a c gap num).2 W;have:=lC2 (2*NBd (k - 1)+2) I
  show (dt c gap num its).length<=NBd (k+1)
  omega
 ·intro _ d _;exact⟨by simp[aw],lD2 _⟩
 ·intro b r a7 a6 h d hs;obtain⟨a1,a2⟩:=a7 h.1 d hs.1;obtain⟨b1,b2⟩:=a6 h.2.2 d hs.2;refine⟨?_,by show max (dpB b) (dpT r)<=d;omega⟩;rw[lF0,lR3,Nat.one_mul];simp only[aw,lF0,lA0];omega
 ·intro _ d _;exact⟨λc gap num=>by simp[d8,dt],lD2 _⟩
 ·intro it r V U h d hs;obtain⟨b6,b8,b4⟩:=hs;obtain⟨a1,a2⟩:=V h.2.1 d b8;obtain⟨b1,b2⟩:=U h.2.2 d b4;have m:=lC2 (NBd d+1) b6;have hi: ∀mk,(itL mk (aw it).tail).length<=2*NBd d+1:=by
   intro mk;simp only[itL,lF0,lQ0,lR2];omega
  have O:(it::r).length*(2*NBd d+2)=r.length*(2*NBd d+2)+(2*NBd d+2):=by rw[lF0,lR3,Nat.one_mul]
  refine⟨λc gap num=>⟨?_,λ_=>?_⟩,by show max (dpT it) (dpJ r)<=d;omega⟩
  ·have:=hi (mkI c num);have:=(b1 c gap (num+1)).1;rw[O,d8];split
   ·simp only[lF0,lA0];omega
   ·simp only[lA0];omega
  ·have:=hi (mkI c num);have:=(b1 c gap (num+1)).1;rw[O,dt,lA0];omega
namespace cY
def bl1 (R:EP)(Xa:Nat->Nat->OA->Nat->Nat->Int->Int->WP)(I y:Nat)(a6:OA)(b3 c1:Nat)(b9 g:Int)(w:World):Prop:=br (decide (g<b9)) (0<=g/\g<(b3:Int)/\aA a6 λc4=>ldA10 w (c4.add (Int.toNat g*10)) λd1=>box w (N10.C {}) ae λb7 c5=>st10 c5 b7 d1 λc3=>tk c3 λE=>∃b5 b4 W,E.cell? (hZ y 7)=some (hT b5 b4 W)/\ldB10 E b7 λc8=>callE P lI #[c8.V] (λe b8=>HM e λc9=>SameC E b8 (hZ y 7) 1/\callE P eO #[hT b5 b4 W,c9.V] (λe d2=>∃b6 U a7,e= hQ (hT b6 U a7)/\stV d2 (hZ y 7) (hT b6 U a7) λd3=>Xa I y a6 b3 c1 b9 (i64.wrap (g+1)) d3) b8) E) (ldB10 w y λd0=>st10 w I d0 λO=>ldB10 O I λc2=>R (hQ (c2.V)) O)
def l1 (R:EP)(V U:Nat)(g:OA)(y E:Nat)(O I:Int)(w:World):Prop:=∀X:Nat->Nat->OA->Nat->Nat->Int->Int->WP,(∀V U g y E O I w,bl1 R X V U g y E O I w->X V U g y E O I w)->X V U g y E O I w
def k1 (R:EP)(b9 c2 E:Nat)(w:World):Prop:=∃O b5,∃I y,(Instr.buildSlice cA 0 #[]).run P w= .ok (hT O b5 I) y/\∃a7 W U,y.cell? (hZ b9 6)=some (hT a7 W U)/\∃b4 b6,∃a6 b8,(Builtin.append_ #[cA,cA] cA #[hT O b5 I,hT a7 W U]).run P y= .ok (hT b4 b6 a6) b8/\stV b8 (hZ E 6) (hT b4 b6 a6) λc1=>stV c1 (hZ E 7) (hT none 0 0) λb7=>∃b3 g V,b7.cell? (hZ b9 7)=some (hT b3 g V)/\l1 R c2 E b3 g V (g:Int) 0 b7
end cY
def cY (R:EP)(b9:Int)(c3 b7:BA)(c2:Int)(c1:BA)(c4:Bool)(b5:OA)(W a6:Nat)(b4:OA)(a7 b6:Nat)(b8 c5:Int)(w:World):Prop:=box w (N10.C {a0:=b9,a1:=c3,a2:=b7,a3:=c2,a4:=c1,a5:=c4,q6:=b5,n6:=W,c6:=a6,q7:=b4,n7:=a7,c7:=b6,a8:=b8,a9:=c5}) ae λb1 e1=>box e1 (N10.C {}) ae λE V=>ldB10 V b1 λe0=>box V (N10.C {}) ae λg d2=>st10 d2 g e0 λc9=>stV c9 (hZ g 8) (hY 0) λd3=>stV d3 (hZ g 9) (hY 0) λy=>∃I,y.cell? (hZ b1 0)=some (hY I)/\br (I==6) (stV y (hZ g 1) (hX (hP #[])) λd0=>cY.k1 R b1 E g d0) (∃O,y.cell? (hZ b1 0)=some (hY O)/\br (O==5) (stV y (hZ g 1) (hX (hP #[])) λd1=>cY.k1 R b1 E g d1) (∃U,y.cell? (hZ b1 0)=some (hY U)/\br (U==12) (stV y (hZ g 1) (hX (hP #[])) λc8=>cY.k1 R b1 E g c8) (cY.k1 R b1 E g y)))
theorem cY.sound {R x0_0 x0_1 x0_2 x0_3 x0_4 x0_5 x0_6q x0_6n x0_6c x0_7q x0_7n x0_7c x0_8 x0_9 w}(h:cY R x0_0 x0_1 x0_2 x0_3 x0_4 x0_5 x0_6q x0_6n x0_6c x0_7q x0_7n x0_7c x0_8 x0_9 w):callE P lI #[(N10.V {a0:=x0_0,a1:=x0_1,a2:=x0_2,a3:=x0_3,a4:=x0_4,a5:=x0_5,q6:=x0_6q,n6:=x0_6n,c6:=x0_6c,q7:=x0_7q,n7:=x0_7n,c7:=x0_7c,a8:=x0_8,a9:=x0_9})] R w:=
 aG [(31,.mk [26,46,66] (cY.k1 R)),(703,.lp [46,66,603,627,647] (cY.bl1 R) λXa=> [(51,.dr (rpN [0,4,7,11,14,15,20]))])] Tryz.func16 Tryz.call16 h

def Eb (x:ND)(v:N10)(T:List ai):Prop:=
 ∀(σ:Out) (R:Ending->World->Prop) (L:List ai) (w:World),Sat σ w (T++L)->(∀w u M,NodeDt (fp x) u M->Sat σ w (M++(T++L))->R (hQ u.V) w)->callE P lI #[v.V] R w
inductive WholeGs:List ND->List Value->List ai->Prop where
 |nil:WholeGs [] [] []
 |cons {x:ND} {xs:List ND} {v:N10} {us:List Value} {T K:List ai}:Eb x v T->v.a0=(x.h.kind:Int)->x.h.text.length<1073741824->WholeGs xs us K->WholeGs (x::xs) (v.C.toList++us) (T++K)
theorem WholeGs.len {xs:List ND}{vs:List Value}{M:List ai}(h:WholeGs xs vs M):vs.length=xs.length*10:=by
 induction h with
 |nil=>rfl
 |cons _ _ _ _ g=>rw[lA0,g,lF0,lV3,lH4];rfl
theorem yR (h:NH):(l0 h).text.length<=h.text.length:=by
 unfold l0;dsimp only;split
 ·exact lD2 _
 ·exact lE1 _
theorem Et (x:ND):(fp x).h=l0 x.h:=by
 obtain⟨h,g⟩:=x;rw[fp];rfl
theorem AR {b7:List ND}{q:OA}{n c:Nat}{vs:List Value}{RM KM:List ai}{b1 W U:Nat}{h0 H:NH}{qa0:OA}{ca0:Nat}{qa:OA}{ca:Nat}(b8:WholeGs b7 vs KM)(d2:Sl 10 ae q n c vs RM)(g5:n<1073741824)(h:Sat σ w ((U,cel (H.nd qa ca none 0 0).C.toList ae)::(b1,cel (h0.nd qa0 ca0 q n c).C.toList ae)::(W,cel (N10.C {}).toList ae)::(RM++KM++L)))(b5: ∀w u M,NodeDt (.mk H (dA [] b7)) u M->Sat σ w (M++(RM++KM++L))->R (hQ u.V) w):cY.l1 R W U q n c (n:Int) 0 w:=by
 have g6:=d2.1;have f4:=b8.len;intro X d0;have e6: ∀(a7:List ND) (c1:List Value) (K:List ai),WholeGs a7 c1 K-> ∀(g:List ND) (a6:List Value) (D:List ai) (j:Nat) E I us O NM w,a6++c1=vs->a6.length=j*10->j+a7.length=n->dA g a7=dA [] b7->g.length<=j->m8 g<=j*1073741824->
  NDs g us NM->Sl 10 ae E g.length I us O->Sat σ w ((U,cel (H.nd qa ca E g.length I).C.toList ae)::(b1,cel (h0.nd qa0 ca0 q n c).C.toList ae)::(W,cel (N10.C {}).toList ae)::(O++NM++(RM++(D++(K++L)))))->
  (∀w u M,NodeDt (.mk H (dA [] b7)) u M->Sat σ w (M++(RM++(D++(K++L))))->R (hQ u.V) w)->X W U q n c (n:Int) (j:Nat) w:=by
  intro a7 c1 K b8
  induction b8 with
  |nil=>
   intro g a6 D j E I us O NM w hv c3 c4 hb e8 e4 c5 c2 h b5;simp only[lM1,lL1] at c4;refine d0 _ _ _ _ _ _ _ _ (af (by simp;omega) ?_);refine h.ldB10 _ (.head _) ?_;refine h.st10 2 {} (H.nd qa ca E g.length I) λw h=>?_
   refine h.ldB10 _ (.tail _ (.tail _ (.head _))) ?_;have e:dA g []=g:=by rw[dA]
   rw[<-hb,e] at b5;refine b5 w _ (O++NM) ⟨H,g,qa,ca,E,g.length,I,us,O,NM,rfl,rfl,rfl,by omega,c5,c2⟩ ?_;have h:Sat σ w ((U,cel (H.nd qa ca E g.length I).C.toList ae)::(b1,cel (h0.nd qa0 ca0 q n c).C.toList ae)::(W,cel (H.nd qa ca E g.length I).C.toList ae)::(O++NM++(RM++(D++([]++L))))):=h
   exact h.tail.tail.tail
  | @cons x a7 v us2 T K g1 g2 g3 g4 ih=>
   intro g a6 D j E I us O NM w hv c3 c4 hb e8 e4 c5 c2 h b5;simp only[lF0] at c4;have e2:j<n:=by omega
   refine d0 _ _ _ _ _ _ _ _ (ag (by simp;omega) ⟨by omega,by omega,?_⟩);have f0:=d2;obtain⟨_,_,⟨rfl,hz,_,_⟩|⟨y,sp,rfl,rfl,f7⟩⟩:=f0
   ·omega
   refine aa ?_;simp only[lL0,lC0,lO0];have e0:vs++sp=a6++(v.C.toList++(us2++sp)):=by rw[<-hv];simp only[lD0]
   refine Sat.ldA10 h v (b:=y) (pre:=a6) (suf:=us2++sp) (e:=ae) (by rw[<-e0];simp) c3 ?_;refine Sat.bx h λb4 w h=>?_
   have h:Sat σ w ((b4,cel (N10.C {}).toList ae)::(U,cel (H.nd qa ca E g.length I).C.toList ae)::(b1,cel (h0.nd qa0 ca0 (kE y) n c).C.toList ae)::(W,cel (N10.C {}).toList ae)::(O++NM++([(y,cel (vs++sp) ae)]++(D++(T++K++L))))):=h
   refine h.st10 0 {} v λw h=>?_
   have h:Sat σ w ((b4,cel v.C.toList ae)::(U,cel (H.nd qa ca E g.length I).C.toList ae)::(b1,cel (h0.nd qa0 ca0 (kE y) n c).C.toList ae)::(W,cel (N10.C {}).toList ae)::(O++NM++([(y,cel (vs++sp) ae)]++(D++(T++K++L))))):=h
   have f2:dA g (x::a7)=dA (gG g (fp x)) a7:=by rw[dA]
   rw[f2] at hb;have e7:(a6++v.C.toList)++us2=vs:=by rw[<-hv];simp only[lD0]
   have e1:(a6++v.C.toList).length=(j+1)*10:=by rw[lA0,c3,lV3];rfl
   ·refine h.tk λw h=>?_
    refine⟨_,_,_,Sat.ld h (.tail _ (.head _)) (i:=7) rfl,?_⟩;refine h.ldB10 v (.head _) ?_;have g0:=e2;have f5:(fp x).h.text.length<=x.h.text.length:=by rw[Et];exact yR x.h
    have h:Sat σ w (T++((b4,cel v.C.toList ae)::(U,cel (H.nd qa ca E g.length I).C.toList ae)::(b1,cel (h0.nd qa0 ca0 (kE y) n c).C.toList ae)::(W,cel (N10.C {}).toList ae)::(O++NM++([(y,cel (vs++sp) ae)]++(D++(K++L)))))):=h.re
    have e5:=h;refine g1 σ _ _ w h λw u M b6 h=>vH ⟨?_,?_⟩
    ·exact e5.same h (lB0 _ (.tail _ (.head _))) (lB0 _ (lB0 _ (.tail _ (.head _)))) 1
    have h:Sat σ w (O++(NM++(M++((U,cel (H.nd qa ca E g.length I).C.toList ae)::(b4,cel v.C.toList ae)::(b1,cel (h0.nd qa0 ca0 (kE y) n c).C.toList ae)::(W,cel (N10.C {}).toList ae)::([(y,cel (vs++sp) ae)]++(D++(T++(K++L)))))))):=h.re
    refine nA (n:=g.length) c5 c2 b6 (by omega) (by omega) h λw d3 f1 d1 e9 b9 KM' f6 c8 c9 h=>⟨_,_,_,rfl,?_⟩
    have e3:f1=(gG g (fp x)).length:=by have a:=c8.len;have b:=c9.1;omega
    subst e3;have h:Sat σ w ((U,cel (H.nd qa ca E g.length I).C.toList ae)::(b9++(KM'++((b4,cel v.C.toList ae)::(b1,cel (h0.nd qa0 ca0 (kE y) n c).C.toList ae)::(W,cel (N10.C {}).toList ae)::([(y,cel (vs++sp) ae)]++(D++(T++(K++L)))))))):=h.re
    refine Sat.st h (k:=0) rfl (by show 7<10;decide) trivial rfl λw h=>?_
    have h:Sat σ w ((U,cel (H.nd qa ca d3 (gG g (fp x)).length d1).C.toList ae)::(b9++(KM'++((b4,cel v.C.toList ae)::(b1,cel (h0.nd qa0 ca0 (kE y) n c).C.toList ae)::(W,cel (N10.C {}).toList ae)::([(y,cel (vs++sp) ae)]++(D++(T++(K++L)))))))):=h
    rw[aL (by omega)];have f3:=pV g (fp x);refine ih (gG g (fp x)) (a6++v.C.toList) (D++T) (j+1) d3 d1 e9 b9 KM' w e7 e1 (by omega) hb (by omega) (by omega) c8 c9 ?_ (λw u M b6 h=>b5 w u M b6 h.re);exact Sat.less [(b4,cel v.C.toList ae)] h
 exact e6 b7 vs KM b8 [] [] [] 0 none 0 [] [] [] w rfl rfl (by omega) rfl (lE1 _) (lE1 _) .nil (Sl.nil 10 ae) (by simpa using h) (λw u M b6 h=>b5 w u M b6 (by simpa using h))
mutual
def rD:ND->Prop
 | .mk h ks=>h.text.length<1073741824/\gK ks
def gK:List ND->Prop
 | []=>True
 |k::ks=>rD k/\gK ks
end
theorem eY {h:NH}{g:List ND}:rD (.mk h g)<->h.text.length<1073741824/\gK g:=by rw[rD]
theorem ig {k:ND}{g:List ND}:gK (k::g)<->rD k/\gK g:=by rw[gK]
theorem uy {h0:NH}{W:List ND}{qa0 q:OA}{ca0 n c:Nat}{vs:List Value}{RM KM:List ai}(b5:WholeGs W vs KM)(b7:Sl 10 ae q n c vs RM)(a7:n<1073741824):Eb (.mk h0 W) (h0.nd qa0 ca0 q n c) (RM++KM):=by
 intro σ R L w h b6;refine cY.sound ?_;refine Sat.bx h λb1 w h=>?_
 refine Sat.bx h λO w h=>?_
 have h:Sat σ w ((O,cel (N10.C {}).toList ae)::(b1,cel (h0.nd qa0 ca0 q n c).C.toList ae)::(RM++KM++L)):=h
 refine h.ldB10 (h0.nd qa0 ca0 q n c) (.tail _ (.head _)) ?_;refine Sat.bx h λI w h=>?_
 have h:Sat σ w ((I,cel (N10.C {}).toList ae)::(O,cel (N10.C {}).toList ae)::(b1,cel (h0.nd qa0 ca0 q n c).C.toList ae)::(RM++KM++L)):=h
 refine h.st10 0 {} (h0.nd qa0 ca0 q n c) λw h=>?_
 refine Sat.st h (k:=0) rfl (by show 8<10;decide) trivial rfl λw h=>?_
 refine Sat.st h (k:=0) rfl (by show 9<10;decide) trivial rfl λw h=>?_
 let V:NH:= {h0 with s:=0,e:=0}
 have h:Sat σ w ((I,cel (V.nd qa0 ca0 q n c).C.toList ae)::(O,cel (N10.C {}).toList ae)::(b1,cel (h0.nd qa0 ca0 q n c).C.toList ae)::(RM++KM++L)):=h
 have k1: ∀w,Sat σ w ((I,cel ((l0 h0).nd qa0 ca0 q n c).C.toList ae)::(O,cel (N10.C {}).toList ae)::(b1,cel (h0.nd qa0 ca0 q n c).C.toList ae)::(RM++KM++L))->cY.k1 R b1 O I w:=by
  intro w h;refine h.build0 λb8 w h=>?_
  refine⟨_,_,_,Sat.ld h (.tail _ (.tail _ (.tail _ (.head _)))) (i:=6) rfl,?_⟩;refine h.app0 λqa ca w h=>?_
  refine Sat.st h (k:=0) rfl (by show 6<10;decide) trivial rfl λw h=>?_
  refine Sat.st h (k:=0) rfl (by show 7<10;decide) trivial rfl λw h=>?_
  have h:Sat σ w ((I,cel ((l0 h0).nd qa ca none 0 0).C.toList ae)::(O,cel (N10.C {}).toList ae)::(b1,cel (h0.nd qa0 ca0 q n c).C.toList ae)::(RM++KM++L)):=h
  refine⟨_,_,_,Sat.ld h (.tail _ (.tail _ (.head _))) (i:=7) rfl,?_⟩;refine AR (b1:=b1) (qa:=qa) (ca:=ca) (qa0:=qa0) (ca0:=ca0) (H:=l0 h0) (h0:=h0) b5 b7 a7 (h.re) λw u M b4 h=>b6 w u M ?_ h
  rw[fp];exact b4
 have a6:h0.kind=6\/h0.kind=5\/h0.kind=12->l0 h0= {V with text:= []}:=by
  intro a;unfold l0;rw[if_pos a]
 have U:(h0.kind=6\/h0.kind=5\/h0.kind=12)->stV w (hZ I 1) (hX (hP #[])) λw=>cY.k1 R b1 O I w:=by
  intro a;refine Sat.st h (k:=0) rfl (by show 1<10;decide) trivial rfl λw h=>k1 w ?_
  rw[a6 a];exact h
 refine⟨_,Sat.ld h (.tail _ (.tail _ (.head _))) (i:=0) rfl,bh (λy=>?_) λy=>?_⟩
 ·have y:(((h0.kind:Nat):Int)==((6:Nat):Int))=true:=y
  rw[iy,decide_eq_true_eq] at y;exact U (.inl y)
 have y:(((h0.kind:Nat):Int)==((6:Nat):Int))=false:=y
 rw[iy,decide_eq_false_iff_not] at y;refine⟨_,Sat.ld h (.tail _ (.tail _ (.head _))) (i:=0) rfl,bh (λE=>?_) λE=>?_⟩
 ·have E:(((h0.kind:Nat):Int)==((5:Nat):Int))=true:=E
  rw[iy,decide_eq_true_eq] at E;exact U (.inr (.inl E))
 have E:(((h0.kind:Nat):Int)==((5:Nat):Int))=false:=E
 rw[iy,decide_eq_false_iff_not] at E;refine⟨_,Sat.ld h (.tail _ (.tail _ (.head _))) (i:=0) rfl,bh (λg=>?_) λg=>?_⟩
 ·have g:(((h0.kind:Nat):Int)==((12:Nat):Int))=true:=g
  rw[iy,decide_eq_true_eq] at g;exact U (.inr (.inr g))
 have g:(((h0.kind:Nat):Int)==((12:Nat):Int))=false:=g
 rw[iy,decide_eq_false_iff_not] at g;refine k1 w ?_;have:l0 h0=V:=by unfold l0;rw[if_neg (by omega)]
 rw[this];exact h
theorem Gf {xs:List ND}{vs:List Value}{M:List ai}(h:NDs xs vs M):gK xs->WholeGs xs vs M:=by
 induction h with
 |nil=>exact λ_=> .nil
 |cons a1 a2 a3 a4 y g=>
  intro I;obtain⟨O,U⟩:=ig.1 I;obtain⟨E,V⟩:=eY.1 O;exact .cons (uy (y V) a3 a1) rfl E (g U)

theorem Sat.buildN (h:Sat σ w L)(v:N10){K:OA->Nat->Nat->World->Prop}(I: ∀b g,Sat σ g ((b,cel v.C.toList ae)::L)->K (kE b) 1 1 g):
 ∃(q:OA),∃(n:Nat),∃(c:Nat),∃g,(Instr.buildSlice au 1 #[(0,v.V)]).run P w= .ok (hT q n c) g/\K q n c g:=by
 have E:=run_buildSlice (P:=P) w au ae 1 #[(0,v.V)] v.V.cells rowND.i rowND.z rowND.ht rowND.hi rowND.hz (by rw[rowND.hs];decide) (by rw[rowND.hs];decide) (by rw[rowND.hs];exact Ay v)
 refine⟨_,_,_,_,E,?_⟩;have y:=h.alc v.C.toList ae;have O:YtendaipfdnhnaaaGreatDoor.alc w v.C.toList.toArray ae=w.alloc (.cells v.V.cells ae):=rfl;rw[O] at y;exact I _ _ y
theorem slN {b:Nat}{v:N10}:Sl 10 ae (kE b) 1 1 v.C.toList [(b,cel v.C.toList ae)]:=⟨rfl,lE1 _,.inr ⟨b,[],rfl,by rw[lG0],rfl⟩⟩
theorem Ih {x:IN}{u:N16}{M:List ai}(E:NodeAt x u M)(g:x.fenced):Hk x u M:=by
 obtain⟨h,O,q,n,c,vs,RM,KM,rfl,rfl,rfl,a,b,d,e⟩:=E;obtain⟨y,I⟩:=da.1 g;exact yy (Ig d I) e b y
theorem Gg {x:ND}{u:N10}{M:List ai}(y:NodeDt x u M)(g:rD x):Eb x u M:=by
 obtain⟨h,E,qa,ca,q,n,c,vs,RM,KM,rfl,rfl,rfl,b,d,e⟩:=y;exact uy (Gf d (eY.1 g).2) e b

def cat (g l:List ND):List ND:=l.foldl gG g
theorem lL (g:List ND)(x:ND)(l:List ND):cat g (x::l)=cat (gG g x) l:=rfl
theorem mo (g a b:List ND):cat g (a++b)=cat (cat g a) b:=by simp[cat]
def plN (s:List UInt8):ND:= .mk {kind:=20,text:=s} []
theorem Ej: ∀(a:List ND) (g x:ND),gG (a++ [g]) x=a++gG [g] x
 | [],g,x=>rfl
 | [z],g,x=>by
  show gG (z::g:: []) x=z::gG [g] x
  rw[gG]
 |z::z2::a,g,x=>by
  have E:=Ej (z2::a) g x
  rw[lR0] at E;rw[lR0,lR0,lR0];rw[gG,E]
theorem uH (a:List ND)(h:NH)(I:List ND)(x:ND)(U:h.kind=20)(V:x.h.kind=20):gG (gG a (.mk h I)) x=gG a (.mk {h with text:=h.text++x.h.text} I)\/ ∃m g E,a=m++ [.mk g E]/\g.kind=20/\gG (gG a (.mk h I)) x=m++ [.mk {g with text:=g.text++h.text++x.h.text} E]:=by
 rcases lY1 a with rfl|⟨m,y,rfl⟩
 ·left
  show gG [.mk h I] x= [_]
  rw[gG,if_pos ⟨V,U⟩]
 ·rw[lK2,Ej];cases y with
  |mk g E=>
   by_cases O:g.kind=20
   ·right;refine⟨m,g,E,rfl,O,?_⟩;have e:gG [.mk g E] (.mk h I)= [.mk {g with text:=g.text++h.text} E]:=by rw[gG,if_pos ⟨U,O⟩];rfl
    rw[e,Ej,gG,if_pos ⟨V,O⟩]
   ·left;have e:gG [.mk g E] (.mk h I)= [.mk g E]++ [.mk h I]:=by rw[gG,if_neg λW=>O W.2];rfl
    rw[e,<-lD0,Ej,gG,if_pos ⟨V,U⟩,Ej,gG,if_neg λW=>O W.2];simp
theorem CC (a:List ND)(s t:List UInt8):gG (gG a (plN s)) (plN t)=gG a (plN (s++t)):=by
 rcases uH a {kind:=20,text:=s} [] (plN t) rfl rfl with h|⟨m,g,y,rfl,I,h⟩
 ·exact h
 ·have e:gG [.mk g y] (plN (s++t))= [.mk {g with text:=g.text++(s++t)} y]:=by rw[gG,if_pos ⟨rfl,I⟩];rfl
  have E:gG (gG (m++ [.mk g y]) (plN s)) (plN t)=m++ [.mk {g with text:=g.text++s++t} y]:=h
  rw[E,Ej,e,lD0]
theorem Hc (g l:List ND)(x:ND):cat g (gG l x)=gG (cat g l) x:=by
 rcases lY1 l with rfl|⟨m,y,rfl⟩
 ·rfl
 ·rw[lK2,Ej,mo,mo];cases y with
  |mk O E=>
   show cat (cat g m) (gG [.mk O E] x)=gG (gG (cat g m) (.mk O E)) x
   rw[gG];split
   ·rename_i I;rcases uH (cat g m) O E x I.2 I.1 with h|⟨V,W,k2,e,U,h⟩
    ·rw[h];rfl
    ·rw[h,e]
     show gG (V++ [.mk W k2]) _=_
     rw[Ej,gG,if_pos ⟨I.2,U⟩];simp[ND.h]
   ·rfl
theorem DQ (g a:List ND): ∀l,cat g (cat a l)=cat (cat g a) l:=by
 intro l
 induction l generalizing a with
 |nil=>rfl
 |cons x l y=>rw[lL,lL,y,Hc]
theorem AG (l:List ND):cat [] (cat [] l)=cat [] l:=DQ [] [] l
def tkN:Tk->ND
 | .wd s=>plN s
 | .sp=>plN [32]
 | .nl=> .mk {kind:=21} []
 | .em k s=> .mk {kind:=if k=1 then 24 else 25} [plN s]
 | .cd s=> .mk {kind:=23,text:=s} []
 | .lk s d=> .mk {kind:=27,text:=d} [plN s]
 | .es s=>plN (42::s)
def inT (l:List Tk):List ND:=cat [] (l.map tkN)
theorem lj (g:List ND)(k:IN)(y:List IN)(h:k.h.kind≠13):eA g (k::y)=eA (gG g (gF k)) y:=by rw[eA,if_neg h]
theorem eH: ∀a b:List Inl,eK (a++b)=eK a++eK b
 | [],b=>rfl
 |t::a,b=>by rw[lR0,eK,eK,eH a b];rfl
theorem eJ: ∀(a b:List IN) (g:List ND),eA g (a++b)=eA (eA g a) b
 | [],b,g=>by rw[eA];rfl
 |x::a,b,g=>by rw[lR0,eA,eA,eJ a b]
def plM (g:List ND)(p:List UInt8):List ND:=if p= [] then g else gG g (plN p)
theorem oS (g:List ND)(p:List UInt8):eA g (eK (fl p))=plM g p:=by
 unfold fl plM;split
 ·rfl
 ·rw[eK,eK,lj _ _ _ (by show (20:Nat)≠13;decide)];rfl
theorem CI {g:List ND}{p s:List UInt8}(hs:s≠ []):plM g (p++s)=gG (plM g p) (plN s):=by
 unfold plM;rw[if_neg (by simp[hs])];split
 ·rename_i h;rw[h];rfl
 ·rw[CC]
theorem om: ∀(l:List Tk) (n:Nat) (p:List UInt8) (g:List ND),okT n l->eA g (eK (tkG Tk.out p l))=cat (plM g p) (l.map tkN)
 | [],n,p,g,_=>oS g p
 | .wd s::r,n,p,g,h=>by
  rw[tkG,om r 2 (p++s) g h.2.2,CI h.2.1.ne];rfl
 | .sp::r,n,p,g,h=>by
  rw[tkG,om r 1 (p++ [32]) g h.2,CI (by simp)];rfl
 | .es s::r,n,p,g,h=>by
  rw[tkG,eH,eJ,oS,eK,lj _ _ _ (by decide),om r 2 s _ h.2.2,lP1,lL];congr 1;have e:plM (gG (plM g p) (plN [42])) s=gG (gG (plM g p) (plN [42])) (plN s):=by unfold plM;rw[if_neg h.2.1.ne]
  have y:gF (BX (.esc [42]))=plN [42]:=rfl;rw[y,e,CC];rfl
 | .nl::r,n,p,g,h=>by
  rw[tkG,eH,eH,eJ,eJ,oS,om r 0 [] _ h.2,lP1,lL];rfl
 | .em k s::r,n,p,g,h=>by
  rw[tkG,eH,eH,eJ,eJ,oS,om r 2 [] _ h.2.2.2,lP1,lL];rcases h.2.2.1 with rfl|rfl<;>rfl
 | .cd s::r,n,p,g,h=>by
  rw[tkG,eH,eH,eJ,eJ,oS,om r 2 [] _ h.2.2,lP1,lL];rfl
 | .lk s d::r,n,p,g,h=>by
  rw[tkG,eH,eH,eJ,eJ,oS,om r 2 [] _ h.2.2.2,lP1,lL];rfl
theorem zP {l:List Tk}(h:okT 0 l):eA [] (eK (tkG Tk.out [] l))=inT l:=om l 0 [] [] h
def Es (x:ND):Prop:=fp x=x
theorem uz: ∀(l g:List ND),(∀x∈l,Es x)->dA g l=cat g l
 | [],g,_=>by rw[dA];rfl
 |x::l,g,h=>by
  rw[dA,h x (.head _),uz l _ λI E=>h I (.tail _ E)];rfl
theorem GY (t:Tk):Es (tkN t):=by
 cases t with
 |em k s=>by_cases g:k=1<;>simp only[tkN,g,if_true,if_false]<;>rfl
 |_=>rfl
theorem E5 {a:List ND}{x:ND}(O: ∀g∈a,Es g)(U:Es x): ∀g∈gG a x,Es g:=by
 rcases lY1 a with rfl|⟨m,g,rfl⟩
 ·intro z hz;obtain rfl:=lN0.1 hz;exact U
 ·rw[lK2] at O⊢;rw[Ej];have E:=O g (by simp);intro z hz;rcases lP0.1 hz with hz|hz
  ·exact O z (by simp[hz])
  ·cases g with
   |mk I a7=>
    rw[gG] at hz;split at hz
    ·rename_i a6;obtain rfl:=lN0.1 hz;unfold Es at E⊢;rw[fp] at E⊢;obtain⟨V,W⟩:=ND.mk.inj E;rw[W];congr 1;have a1:I.s=0:=(congrArg NH.s V).symm;have a2:I.e=0:=(congrArg NH.e V).symm;unfold l0;rw[if_neg (by simp[a6.2])];cases I
     simp_all
    ·simp only[lW0,lH1,or_false] at hz;rcases hz with rfl|rfl
     ·exact E
     ·exact U
theorem As: ∀(l E:List ND),(∀g∈E,Es g)->(∀x∈l,Es x)-> ∀g∈cat E l,Es g
 | [],E,ha,_=>ha
 |x::l,E,ha,h=>As l _ (E5 ha (h x (.head _))) λg I=>h g (.tail _ I)
theorem GZ (l:List Tk): ∀E∈inT l,Es E:=As _ [] (λ_ h=>by cases h) λx g=>by
 obtain⟨t,_,rfl⟩:=lU1.1 g;exact GY t
theorem vk (l:List Tk):dA [] (inT l)=inT l:=by
 rw[uz _ _ (GZ l)];exact AG _

def lz (gap:Bool)(its:List (List BN)):Bool:=(gap && decide (2<=its.length))||its.any λit=>decide (2<=it.length)
mutual
def mV (f:Nat):BN->ND
 | .para ls=> .mk {kind:=6,s:=f,e:=f+ls.length - 1} (inT (ft ls))
 | .head lv x=> .mk {kind:=5,num:=(lv:Nat),s:=f,e:=f} (inT (d9 x))
 | .hr=> .mk {kind:=9,s:=f,e:=f} []
 | .code w ls=> .mk {kind:=7,title:=w,text:=dK (ls.map rp),s:=f,e:=f+ls.length+1} []
 | .setx c ls=> .mk {kind:=5,num:=(BV c:Nat),s:=f,e:=f+ls.length} (inT (ft ls))
 | .quote bs=> .mk {kind:=2,s:=f,e:=f+(aw bs).tail.length - 1} (kQ 1 bs)
 | .list c num gap its=> .mk {kind:=3,num:=if c=46\/c=41 then (num:Nat) else -1,char:= [c],loose:=lz gap its,s:=f,e:=f+(dt c gap num its).length - 1} (uS gap its)
def kQ (f:Nat):List BN->List ND
 | []=> []
 |b::r=>mV f b::kQ (f+(bg b).length+1) r
def uS (gap:Bool):List (List BN)->List ND
 | []=> []
 |it::r=> .mk {kind:=4,s:=1,e:=(aw it).tail.length} (kQ 1 it)::vV gap (aw it).tail.length r
def vV (gap:Bool)(n:Nat):List (List BN)->List ND
 | []=> []
 |it::r=> .mk {kind:=4,s:=n+gap.toNat+1,e:=n+gap.toNat+(aw it).tail.length} (kQ 1 it)::vV gap (n+gap.toNat+(aw it).tail.length) r
end
theorem Am {mk:List UInt8}{it:List BN}(h:Hd (aw it).tail):(itL mk (aw it).tail).length=(aw it).tail.length:=by
 obtain⟨c,r,rest,e,_⟩:=h;exact py (by rw[e];simp)
theorem lastE (c:UInt8)(gap:Bool): ∀(l:List (List BN)) (num n:Nat) (x:IN),okJ l->x.h.e=n->((x::iK c gap num n l).getLast?.map λx=>x.h.e).getD 0=n+(d8 c gap num l).length
 | [],num,n,x,_,hx=>by simp[iK,d8,hx]
 |it::r,num,n,x,h,hx=>by
  have hd:=(tM.2.2 _ h it (.head _)).2.2;have g:=Am (mk:=mkI c num) hd;rw[iK,d8];cases gap with
  |true=>
   rw[if_pos rfl,if_pos rfl,lW2,lastE c true r (num+1) (n+1+(aw it).tail.length) _ h.2.2 rfl];simp only[lF0,lA0,g];omega
  |false=>
   rw[if_neg (by decide),if_neg (by decide),lW2,lastE c false r (num+1) (n+(aw it).tail.length) _ h.2.2 rfl];simp only[lA0,g];omega
theorem endB (b:BN)(h:okB b)(n:Nat)(W:1<=n):(ij n b).h.s=n/\(ij n b).h.e+1=n+(bg b).length:=by
 cases b with
 |para ls=>
  refine⟨rfl,?_⟩;have:0<ls.length:=lZ0.2 h.1
  show n+ls.length - 1+1=n+(ls.map cv).length
  simp;omega
 |head lv x=>exact⟨rfl,rfl⟩
 |hr=>exact⟨rfl,rfl⟩
 |code w ls=>
  refine⟨rfl,?_⟩
  show n+ls.length+1+1=n+(bg (.code w ls)).length
  simp[bg];omega
 |setx c ls=>
  refine⟨rfl,?_⟩
  show n+ls.length+1=n+(bg (.setx c ls)).length
  simp[bg];omega
 |quote bs=>
  refine⟨rfl,?_⟩;obtain⟨c0,r0,rest,e,_⟩:=tM.2.1 bs h.2 h.1
  show n+(aw bs).tail.length - 1+1=n+((aw bs).tail.map _).length
  rw[lQ0,e];simp only[lF0];omega
 |list c num gap its=>
  obtain⟨hc,V,y,g⟩:=h;obtain⟨it,r,rfl⟩:=lD1 y;refine⟨by rw[ij];rfl,?_⟩;have hd:=(tM.2.2 _ g it (.head _)).2.2;have I:=Am (mk:=mkI c num) hd;obtain⟨c0,r0,rest,U,_⟩:=hd;have O:(bg (.list c num gap (it::r))).length=(aw it).tail.length+(d8 c gap (num+1) r).length:=by rw[bg,dt,lA0,I]
  have E:(ij n (.list c num gap (it::r))).h.e=(n - 1+(aw it).tail.length)+(d8 c gap (num+1) r).length:=by
   rw[ij,jt];exact lastE c gap r (num+1) _ _ g.2.2 rfl
  rw[O,E,U];simp only[lF0];omega
theorem FZ: ∀(l:List BN) (n:Nat),okS l->1<=n->F0 (dR n l)=decide (2<=l.length)
 | [],n,_,_=>rfl
 | [b],n,_,_=>rfl
 |b::b2::r,n,h,hn=>by
  have E:=(endB b h.1 n hn).2;have y:=(endB b2 h.2.2.1 (n+(bg b).length+1) (by omega)).1;rw[dR,dR,F0,y];have g:decide ((ij n b).h.e+1<n+(bg b).length+1)=true:=by rw[decide_eq_true_eq];omega
  rw[g];simp
theorem F1 (c:UInt8)(gap:Bool): ∀(l:List (List BN)) (num n m:Nat) (it:List BN) (h:IH),okJ l->okS it->1<=m->h.e=n->zA (.mk h (dR m it)::iK c gap num n l)=((gap && decide (1<=l.length))||(decide (2<=it.length)||l.any λit=>decide (2<=it.length)))
 | [],num,n,m,it,h,_,hs,hm,_=>by
  rw[iK,zA];have:=FZ it m hs hm;simp[IN.kids,this]
 |it2::r,num,n,m,it,h,hj,hs,hm,he=>by
  have U:F0 (dR m it)=decide (2<=it.length):=FZ it m hs hm;rw[iK];cases gap with
  |true=>
   rw[if_pos rfl,zA];have E:decide ((IN.mk h (dR m it)).h.e+1<n+2)=true:=by rw[decide_eq_true_eq];show h.e+1<_;omega
   have I: ∀g y,(IN.mk g y).h=g:=λ_ _=>rfl
   simp only[I] at E⊢;rw[E];simp
  |false=>
   rw[if_neg (by decide),zA,F1 c false r (num+1) (n+(aw it2).tail.length) (n+1) it2 _ hj.2.2 hj.2.1 (by omega) rfl];have I: ∀g y,(IN.mk g y).h=g:=λ_ _=>rfl
   have O: ∀g y,(IN.mk g y).kids=y:=λ_ _=>rfl
   simp only[I,O,U];have E:decide (h.e+1<n+1)=false:=by rw[decide_eq_false_iff_not];omega
   rw[E];simp
theorem F2 {c:UInt8}{gap:Bool}{num n:Nat}{its:List (List BN)}(E:1<=n)(y:its≠ [])(g:okJ its):zA (jt c gap num n its)=lz gap its:=by
 obtain⟨it,r,rfl⟩:=lD1 y;rw[jt,F1 c gap r (num+1) _ n it _ g.2.2 g.2.1 E rfl];simp[lz]
theorem D4 (h:IH)(g:List IN):gF (.mk h g)= .mk (rv h) (eA [] g):=by rw[gF]
theorem AJ (x:IN):gF x.tgt=gF x/\x.tgt.h.kind=x.h.kind:=by
 cases x with
 |mk h g=>
  by_cases y:h.kind=6
  ·have e:(IN.mk h g).tgt= .mk {h with tight:=true} g:=if_pos y
   rw[e,D4,D4];exact⟨rfl,rfl⟩
  ·have e:(IN.mk h g).tgt= .mk h g:=if_neg y;rw[e];exact⟨rfl,rfl⟩
theorem yz: ∀(l:List IN) (g:List ND),eA g (l.map IN.tgt)=eA g l
 | [],g=>rfl
 |x::l,g=>by
  rw[lP1,eA,eA,(AJ x).1,(AJ x).2,yz l]
theorem yx (x:IN):gF x.tgtI=gF x/\x.tgtI.h.kind=x.h.kind:=by
 cases x with
 |mk h g=>exact⟨by rw[IN.tgtI,gF,gF,yz],rfl⟩
theorem ru: ∀(l:List IN) (g:List ND),eA g (l.map IN.tgtI)=eA g l
 | [],g=>rfl
 |x::l,g=>by
  rw[lP1,eA,eA,(yx x).1,(yx x).2,ru l]
theorem uN {ls:List LT}(h:okLs ls):okT 0 (ft ls):=p6 h.1 λx g=>(h.2.2 x g).1
theorem zi {x:LT}(h:xD x):okT 0 (d9 x):=by
 have:=sG (r:= []) h rfl
 rwa [lG0] at this
theorem qW (n:Nat)(b:BN):(ij n b).h.kind≠13:=by
 cases b<;>simp[ij,IN.h,xE]
theorem ED:(∀b,okB b-> ∀n f,1<=n->gF (ij n b)=fp (mV f b))/\(∀l,okS l-> ∀n f g,1<=n->eA g (dR n l)=dA g (kQ f l))/\ ∀l,okJ l-> ∀(c:UInt8) (gap:Bool) (num n m:Nat) g,(eA g (iK c gap num n l)=dA g (vV gap m l))/\(1<=n->eA g (jt c gap num n l)=dA g (uS gap l)):=by
 refine BN.ind (P:=λb=>okB b-> ∀n f,1<=n->gF (ij n b)=fp (mV f b)) (S:=λl=>okS l-> ∀n f g,1<=n->eA g (dR n l)=dA g (kQ f l)) (J:=λl=>okJ l-> ∀(c:UInt8) (gap:Bool) (num n m:Nat) g,(eA g (iK c gap num n l)=dA g (vV gap m l))/\(1<=n->eA g (jt c gap num n l)=dA g (uS gap l))) ?_ ?_ ?_ ?_ ?_ ?_ ?_ ?_ ?_ ?_ ?_
 ·intro ls h n f _;rw[ij,mV,gF,fp,zP (uN h),vk];rfl
 ·intro lv x h n f _;rw[ij,mV,gF,fp,zP (zi h.2.1),vk];rfl
 ·intro _ n f _;rw[ij,mV,gF,fp];rfl
 ·intro w ls _ n f _;rw[ij,mV,gF,fp];rfl
 ·intro c ls h n f _;rw[ij,mV,gF,fp,zP (uN h.2),vk];rfl
 ·intro bs I h n f y;rw[ij,mV,gF,fp,I h.2 n 1 [] y];rfl
 ·intro c num gap its I h n f y;obtain⟨hc,c1,b5,a6⟩:=h;have b8:=F2 (c:=c) (gap:=gap) (num:=num) y b5 a6
  rw[ij,mV,xE,gF,fp,b8];have e:eA [] (if lz gap its then jt c gap num n its else (jt c gap num n its).map IN.tgtI)=dA [] (uS gap its):=by
   split
   ·exact(I a6 c gap num n 0 []).2 y
   ·rw[ru];exact(I a6 c gap num n 0 []).2 y
  rw[e];rfl
 ·intro _ n f g _;rw[dR,kQ,eA,dA]
 ·intro b r a7 b3 h n f g y;rw[dR,kQ,lj _ _ _ (qW n b),dA,a7 h.1 n f y];exact b3 h.2.2 _ _ _ (by omega)
 ·intro _ c gap num n m g;refine⟨?_,λ_=>?_⟩
  ·rw[iK,vV,eA,dA]
  ·rw[jt,uS,eA,dA]
 ·intro it r b6 b4 h c gap num n m g;have O: ∀(E:IH) (U:NH) (k W V:Nat) (g:List ND),1<=k->E.kind=4->rv E=l0 U->eA g (.mk E (dR k it)::iK c gap (num+1) W r)=dA g (.mk U (kQ 1 it)::vV gap V r):=by
   intro E U k W V g b9 c2 b7;rw[lj _ _ _ (by show E.kind≠13;omega),dA,gF,fp,b6 h.2.1 k 1 [] b9,b7];exact(b4 h.2.2 c gap (num+1) W V _).1
  refine⟨?_,λy=>?_⟩
  ·rw[iK,vV];split
   ·exact O _ _ _ _ _ _ (by omega) rfl rfl
   ·exact O _ _ _ _ _ _ (by omega) rfl rfl
  ·rw[jt,uS];exact O _ _ _ _ _ _ y rfl rfl

theorem Be (l:List BN)(h:okS l)(g:l≠ []):1<=(aw l).tail.length:=by
 obtain⟨c,r,rest,e,_⟩:=tM.2.1 l h g;rw[e];simp

def Wa (s:List UInt8):Prop:=s≠ []/\(∀c∈s,97<=c.toNat/\c.toNat<=122)/\s.length<=4
def tkA:Tk->Prop
 | .wd s=>Wa s
 | .em k s=>Wa s/\(k=1\/k=2)
 | .cd s=>Wa s
 | .lk s d=>Wa s/\ ∃w,Wa w/\d=47::w
 | .es s=>Wa s
 |_=>False
def lnA (x:LT):Prop:=(Wa x.1/\ ∀t∈x.2,tkA t)/\x.2.length<=2
def lsA (ls:List LT):Prop:=ls≠ []/\ls.length<=3/\ ∀x∈ls,lnA x
def Adj (b:BN)(r:List BN):Prop:= ∀c,(r.head?.bind bcB)=some c->bcB b≠some c
mutual
def abB:BN->Prop
 | .para ls=>lsA ls
 | .head lv x=>(1<=lv/\lv<=6)/\lnA x
 | .hr=>True
 | .code w ls=>(w= []\/Wa w)/\ls≠ []/\ls.length<=3/\ ∀x∈ls,x.1<=2/\Wa x.2
 | .setx c ls=>(c=61\/c=45)/\lsA ls
 | .quote bs=>bs≠ []/\abS bs
 | .list c num gap its=>(c=45\/c=43\/c=46\/c=41)/\num+its.length<=90/\its≠ []/\abJ its
def abS:List BN->Prop
 | []=>True
 |b::r=>abB b/\Adj b r/\abS r
def abJ:List (List BN)->Prop
 | []=>True
 |it::r=>it≠ []/\abS it/\abJ r
end
theorem Wa.wd {s:List UInt8}(h:Wa s):WdP s:=Gh h.1 h.2.1 (by have:=h.2.2;omega)
theorem Wa.ch {s:List UInt8}(h:Wa s): ∀c∈s,chB c:=λc hc=>rY (h.wd.by_ c hc)
theorem Fw {c:UInt8}(h:97<=c.toNat/\c.toNat<=122):zJ c=true/\lS c=false:=by
 have:(List.range 256).all (λn=>(!(decide (97<=n) && decide (n<=122)))||(zJ (UInt8.ofNat n) && !lS (UInt8.ofNat n)))=true:=by kernel_rfl
 have:=lF2.1 this c.toNat (lY2.2 c.toNat_lt);rw[lA4] at this
 simpa[h.1,h.2] using this
theorem Wa.dest {s:List UInt8}(h:Wa s):DsP (47::s)/\ ∀c∈(47::s:List UInt8),chB c:=by
 refine⟨⟨by simp,λc hc=>?_,by have:=h.2.2;simp;omega⟩,λc hc=>?_⟩
 ·cases hc with
  |head=>exact⟨by decide,by decide⟩
  |tail _ hc=>exact Fw (h.2.1 c hc)
 ·cases hc with
  |head=>exact⟨by decide,by decide,by decide⟩
  |tail _ hc=>exact h.ch c hc
theorem tkA.ok {t:Tk}(h:tkA t):Hr t/\dsOK t:=by
 cases t with
 |wd s=>exact⟨Wa.wd h,trivial⟩
 |sp=>exact h.elim
 |nl=>exact h.elim
 |em k s=>exact⟨⟨h.1.wd,h.2⟩,trivial⟩
 |cd s=>exact⟨Wa.wd h,trivial⟩
 |lk s d=>
  obtain⟨y,w,g,rfl⟩:=h;exact⟨⟨y.wd,g.dest.1⟩,g.dest.2⟩
 |es s=>exact⟨Wa.wd h,trivial⟩
theorem lnA.ok {x:LT}(h:lnA x):xD x/\GR x:=⟨⟨h.1.1.wd,λt ht=>(h.1.2 t ht).ok.1⟩,λt ht=>(h.1.2 t ht).ok.2⟩
theorem lsA.ok {ls:List LT}(h:lsA ls):okLs ls/\ ∀x∈ls,GR x:=⟨⟨h.1,h.2.1,λx g=>⟨(h.2.2 x g).ok.1,(h.2.2 x g).2⟩⟩,λx g=>(h.2.2 x g).ok.2⟩
theorem BO:(∀b,abB b->okB b/\dsB b)/\(∀l,abS l->okS l/\dsS l)/\ ∀l,abJ l->okJ l/\dsJ l:=by
 refine BN.ind (P:=λb=>abB b->okB b/\dsB b) (S:=λl=>abS l->okS l/\dsS l) (J:=λl=>abJ l->okJ l/\dsJ l) ?_ ?_ ?_ ?_ ?_ ?_ ?_ ?_ ?_ ?_ ?_
 ·intro ls h;exact lsA.ok h
 ·intro lv x h;exact⟨⟨h.1,h.2.ok.1,h.2.2⟩,h.2.ok.2⟩
 ·intro _;exact⟨trivial,trivial⟩
 ·intro w ls h;obtain⟨g,E,y,I⟩:=h;have U:(∀c∈w,BW c=true)/\w.length<=100/\ ∀c∈w,chB c:=by
   rcases g with rfl|g
   ·exact⟨λc hc=>absurd hc lH1,lD2 _,λc hc=>absurd hc lH1⟩
   ·exact⟨λc hc=>(qy (g.2.1 c hc)).2.2.2.2.2,by have:=g.2.2;omega,g.ch⟩
  exact⟨⟨U.1,U.2.1,E,y,λx b3=>⟨(I x b3).1,(I x b3).2.wd⟩⟩,U.2.2⟩
 ·intro c ls h;exact⟨⟨h.1,h.2.ok.1⟩,h.2.ok.2⟩
 ·intro bs O h;exact⟨⟨h.1,(O h.2).1⟩,(O h.2).2⟩
 ·intro c num gap its O h;obtain⟨g,E,y,I⟩:=h;exact⟨⟨g,E,y,(O I).1⟩,(O I).2⟩
 ·intro _;exact⟨trivial,trivial⟩
 ·intro b r a6 a7 h;obtain⟨g,E,y⟩:=h;exact⟨⟨(a6 g).1,E,(a7 y).1⟩,⟨(a6 g).2,(a7 y).2⟩⟩
 ·intro _;exact⟨trivial,trivial⟩
 ·intro it r W V h;obtain⟨g,E,y⟩:=h;exact⟨⟨g,(W E).1,(V y).1⟩,⟨(W E).2,(V y).2⟩⟩
def kdOK (odd:Bool)(b:BN):Prop:= ∀c,bcB b=some c->if odd then c=43\/c=41 else c=45\/c=46
def alt:Bool->List BN->Prop
 |_,[]=>True
 |o,b::r=>kdOK o b/\alt (!o) r
def FR (n:Nat):Bool:=n%2==1
theorem AK: ∀(l:List BN) (o:Bool) (b:BN),alt o l->kdOK (o ^^ FR l.length) b->alt o (l++ [b])
 | [],o,b,_,h=>⟨by simpa[FR] using h,trivial⟩
 |x::l,o,b,h,hb=>by
  refine⟨h.1,AK l (!o) b h.2 ?_⟩;have e:(!o ^^ FR l.length)=(o ^^ FR (x::l).length):=by
   simp only[lF0,FR];rcases Nat.mod_two_eq_zero_or_one l.length with h0|h0
   ·have:(l.length+1)%2=1:=by omega
    rw[h0,this];cases o<;>rfl
   ·have:(l.length+1)%2=0:=by omega
    rw[h0,this];cases o<;>rfl
  rw[e];exact hb
theorem zQ: ∀(l:List BN) (o:Bool),alt o l->(∀b∈l,abB b)->abS l
 | [],_,_,_=>trivial
 |b::r,o,h,hb=>by
  refine⟨hb b (.head _),λc hc E=>?_,zQ r (!o) h.2 λx I=>hb x (.tail _ I)⟩;cases r with
  |nil=>cases hc
  |cons b2 r=>
   have y:=h.1 c E;have g:=h.2.1 c hc;cases o
   ·rcases y with rfl|rfl<;>rcases g with g|g<;>exact absurd g (by decide)
   ·rcases y with rfl|rfl<;>rcases g with g|g<;>exact absurd g (by decide)
theorem tD: ∀(l:List BN) (b:BN),aw (l++ [b])=aw l++ []::bg b
 | [],b=>by show []::(bg b++ [])=_;rw[lG0];rfl
 |x::l,b=>by
  have g:=tD l b
  show []::(bg x++aw (l++ [b]))=([]::(bg x++aw l))++_
  rw[g];simp
theorem xG: ∀(l:List BN) (f:Nat) (b:BN),kQ f (l++ [b])=kQ f l++ [mV (f+(aw l).length) b]
 | [],f,b=>by rw[lT0,kQ,kQ,kQ];rfl
 |x::l,f,b=>by
  have g:=xG l (f+(bg x).length+1) b;rw[lR0,kQ,g,kQ];have e:(aw (x::l)).length=(bg x).length+1+(aw l).length:=by simp[aw];omega
  rw[e,lR0];congr 4;omega
theorem Aa: ∀(l:List BN) (d:Nat) (b:BN),smS d l->smB d b->smS d (l++ [b])
 | [],d,b,_,h=>⟨h,trivial⟩
 |x::l,d,b,h,hb=>⟨h.1,Aa l d b h.2 hb⟩
theorem Cv:(∀b d e,d<=e->smB d b->smB e b)/\(∀l d e,d<=e->smS d l->smS e l)/\ ∀l d e,d<=e->smJ d l->smJ e l:=by
 refine BN.ind (P:=λb=> ∀d e,d<=e->smB d b->smB e b) (S:=λl=> ∀d e,d<=e->smS d l->smS e l) (J:=λl=> ∀d e,d<=e->smJ d l->smJ e l) ?_ ?_ ?_ ?_ ?_ ?_ ?_ ?_ ?_ ?_ ?_
 ·intro ls d e _ _;simp only[smB]
 ·intro lv x d e _ _;simp only[smB]
 ·intro d e _ _;simp only[smB]
 ·intro w ls d e _ _;simp only[smB]
 ·intro c ls d e _ _;simp only[smB]
 ·intro bs y d e g h;simp only[smB] at h⊢;exact⟨by omega,h.2.1,y _ _ (by omega) h.2.2⟩
 ·intro c num gap its y d e g h;simp only[smB] at h⊢;exact⟨by omega,h.2.1,y _ _ (by omega) h.2.2⟩
 ·intro d e _ _;exact trivial
 ·intro b r O U d e g h;exact⟨O _ _ g h.1,U _ _ g h.2⟩
 ·intro d e _ _;exact trivial
 ·intro it r I E d e g h;exact⟨h.1,I _ _ g h.2.1,E _ _ g h.2.2⟩
theorem tE (c:UInt8)(gap:Bool): ∀(l:List (List BN)) (num:Nat) (it:List BN),d8 c gap num (l++ [it])=d8 c gap num l++((if gap then [[]] else [])++itL (mkI c (num+l.length)) (aw it).tail)
 | [],num,it=>by
  rw[lT0,d8,d8];cases gap<;>simp[d8]
 |x::l,num,it=>by
  have g:=tE c gap l (num+1) it;have e:num+1+l.length=num+(x::l).length:=by simp;omega
  rw[lR0,d8,g,e,d8];cases gap<;>simp
theorem zp (c:UInt8)(gap:Bool)(l:List (List BN))(num:Nat)(it:List BN):dt c gap num (l++ [it])=dt c gap num l++((if gap && !l.isEmpty then [[]] else [])++itL (mkI c (num+l.length)) (aw it).tail):=by
 cases l with
 |nil=>
  rw[lT0,dt,dt,d8];simp
 |cons x l=>
  have e:num+1+l.length=num+(x::l).length:=by simp;omega
  rw[lR0,dt,tE,e,dt];cases gap<;>simp
def lawI (s:Nat)(it:List BN):ND:= .mk {kind:=4,s:=s+1,e:=s+(aw it).tail.length} (kQ 1 it)
theorem xH (gap:Bool)(c:UInt8): ∀(l:List (List BN)) (n num:Nat) (it:List BN),(∀x∈l,(aw x).tail≠ [])->vV gap n (l++ [it])=vV gap n l++ [lawI (n+(d8 c gap num l).length+gap.toNat) it]
 | [],n,num,it,_=>by
  rw[lT0,vV,vV,vV,d8];rfl
 |x::l,n,num,it,h=>by
  have I:=xH gap c l (n+gap.toNat+(aw x).tail.length) (num+1) it λO E=>h O (.tail _ E)
  have g:=py (mk:=mkI c num) (h x (.head _));rw[lR0,vV,I,vV,lR0];have e:(d8 c gap num (x::l)).length=gap.toNat+(aw x).tail.length+(d8 c gap (num+1) l).length:=by
   rw[d8];cases gap
   ·simp[g]
   ·simp[g];omega
  rw[e];congr 4;omega
theorem C7 (gap:Bool)(c:UInt8)(l:List (List BN))(num:Nat)(it:List BN)(h: ∀x∈l,(aw x).tail≠ []):uS gap (l++ [it])=uS gap l++ [lawI ((dt c gap num l).length+(gap && !l.isEmpty).toNat) it]:=by
 cases l with
 |nil=>
  rw[lT0,uS,uS,dt,vV];simp[lawI]
 |cons x l=>
  have g:=py (mk:=mkI c num) (h x (.head _));rw[lR0,uS,xH gap c l _ (num+1) it λI E=>h I (.tail _ E),uS,lR0];have e:(dt c gap num (x::l)).length=(aw x).tail.length+(d8 c gap (num+1) l).length:=by rw[dt,lA0,g]
  rw[e];cases gap<;>simp
theorem GO (gap:Bool)(l:List (List BN))(it:List BN):lz gap (l++ [it])=(lz gap l||((gap && !l.isEmpty)||decide (2<=it.length))):=by
 unfold lz;cases l with
 |nil=>simp
 |cons x l=>
  cases gap
  ·simp[Bool.or_assoc]
  ·simp[Bool.or_assoc]
theorem ww: ∀(l:List (List BN)) (it:List BN),abJ l->it≠ []->abS it->abJ (l++ [it])
 | [],it,_,h1,h2=>⟨h1,h2,trivial⟩
 |x::l,it,h,h1,h2=>⟨h.1,h.2.1,ww l it h.2.2 h1 h2⟩
theorem vB: ∀(l:List (List BN)) (d:Nat) (it:List BN),smJ d l->it.length<=2->smS d it->smJ d (l++ [it])
 | [],d,it,_,h1,h2=>⟨h1,h2,trivial⟩
 |x::l,d,it,h,h1,h2=>⟨h.1,h.2.1,vB l d it h.2.2 h1 h2⟩
def BArg (σ:Out)(L:List ai)(q:Option Addr)(n:Nat)(vs:List UInt8):Prop:=
 n=vs.length/\ ∀i (hi:i<vs.length),∃a,q=some a/\ ∀w,Sat σ w L->w.cell? (a.add i)=some (.int .u8 (vs[i].toNat:Int))
namespace gX
def bl1 (R:EP)(Xa:BA->BA->Int->Int->WP)(y g:BA)(E I:Int)(w:World):Prop:=br (decide (I<E)) (((g.size+y.size:Nat):Int)<=i64.max/\Xa y (g++y) E (i64.wrap (I+1)) w) (R (hQ (hX g)) w)
def l1 (R:EP)(E g:BA)(y I:Int)(w:World):Prop:=∀X:BA->BA->Int->Int->WP,(∀E g y I w,bl1 R X E g y I w->X E g y I w)->X E g y I w
end gX
def gX (R:EP)(y:BA)(g:Int)(w:World):Prop:=gX.l1 R y (hP #[]) g 0 w
theorem gX.sound {R x0 x1 w}(h:gX R x0 x1 w):callE P jo #[hX x0,hY x1] R w:=
 aG [(43,.lp [1,101,127,147] (gX.bl1 R) λXa=> [])] Tryz.func37 Tryz.call37 h

def SArg (σ:Out)(L:List ai)(q:Option Addr)(n:Nat)(ls:List (List UInt8)):Prop:=
 n=ls.length/\ ∀i (hi:i<ls.length),∃a,q=some a/\ ∀w,Sat σ w L->w.cell? (a.add i)=some (hX (bs ls[i]))
theorem SArg.ofSl {q:Option Addr}{n c:Nat}{ts:List (List UInt8)}{M:List ai}(y:Sl 1 aq q n c (sv ts) M)(E: ∀c∈M,c∈L):SArg σ L q n ts:=by
 have g:=y.1;rw[j5,lA1] at g;refine⟨g.symm,λi hi=>?_⟩;obtain⟨b,sp,rfl,rfl⟩:=y.rowAt (by omega);refine⟨_,rfl,λw h=>?_⟩;rw[lL0,lO0];exact Sat.ld h (E _ (.head _)) (by rw[lM0 (by rw[j5];exact hi),uF hi])

theorem sE {s:List UInt8}{n:Nat}(W:n<1000000)(hs:s.length<1000000)(O:R (hQ (hX (bs (hN n s).flatten))) w):callE P jo #[hX (bs s),hY n] R w:=by
 refine gX.sound ?_;have y:i64.max=9223372036854775807:=rfl;intro X g;have E: ∀k,(hN k s).flatten.length=k*s.length:=by intro k;simp
 have I: ∀k i,i+k=n->X (bs s) (bs (hN i s).flatten) (n:Nat) (i:Int) w:=by
  intro k
  induction k with
  |zero=>
   intro i hi;obtain rfl:i=n:=hi;exact g _ _ _ _ _ (af (by simp) O)
  |succ k U=>
   intro i hi;have V:i*s.length<=1000000*1000000:=lO5 (by omega) (by omega);refine g _ _ _ _ _ (ag (by simp;omega) ⟨?_,?_⟩)
   ·rw[y,aF,aF,E];omega
   ·rw[bG,aL (by omega)];have e:(hN i s).flatten++s=(hN (i+1) s).flatten:=by rw[lC5];simp
    rw[e];exact U (i+1) (by omega)
 exact I n 0 (by omega)

structure BS where
 at_:Nat
 size:Int
 flat:Bool
 deep:Int
def bC (b:Nat)(q:OA)(n c:Nat)(s:BS):ai:=(b,cel [hT q n c,hY (s.at_:Nat),hY s.size,hV s.flat,hY s.deep] nr)
def Rd (σ:Out)(L:List ai)(q:OA)(n:Nat)(vs:List UInt8):Prop:=BArg σ L q n vs/\n<=1000
theorem Rd.up {q:OA}{n:Nat}{vs:List UInt8}(h:Rd σ L q n vs)(y: ∀w,Sat σ w L'->Sat σ w L):Rd σ L' q n vs:=
 ⟨⟨h.1.1,λi hi=>by obtain⟨a,E,I⟩:=h.1.2 i hi;exact⟨a,E,λw g=>I w (y w g)⟩⟩,h.2⟩
def BS.same (s s':BS):Prop:=s'.size=s.size/\s'.flat=s.flat/\s'.deep=s.deep
theorem BS.same.refl (s:BS):s.same s:=⟨rfl,rfl,rfl⟩
theorem BS.same.trans {a b c:BS}(g:a.same b)(y:b.same c):a.same c:=⟨y.1.trans g.1,y.2.1.trans g.2.1,y.2.2.trans g.2.2⟩
theorem fg {b:Nat}{q:OA}{n c k:Nat}{vs:List UInt8}{s:BS}(g:Rd σ L q n vs)(a7:1<=k)(W:k<1000)(h:Sat σ w (bC b q n c s::L))(y: ∀w (r:Nat) (s':BS),r<k->s.same s'->Sat σ w (bC b q n c s'::L)->R (hQ (hY (r:Nat))) w):callE P aS #[kT (kE b),hY (k:Nat)] R w:=by
 refine ji.sound ?_;refine h.tk λw h=>aa (aa ⟨_,Sat.ld h (.head _) (i:=1) rfl,_,_,_,Sat.ld h (.head _) (i:=0) rfl,?_⟩)
 refine bh (λ_=>y w 0 s (by omega) (BS.same.refl s) h) λhc=>?_
 simp only[decide_eq_false_iff_not] at hc;have E:s.at_<n:=by omega
 have a6:=g.2;refine aa ⟨_,Sat.ld h (.head _) (i:=1) rfl,aa ?_⟩;refine Sat.st h (k:=0) rfl (by show 1<5;decide) trivial rfl λw h=>?_
 rw[aL (by omega)] at h;have h:Sat σ w (bC b q n c {s with at_:=s.at_+1}::L):=h
 refine h.tk λw h=>aa (aa ⟨_,_,_,Sat.ld h (.head _) (i:=0) rfl,((s.at_+1:Nat):Int),Sat.ld h (.head _) (i:=1) rfl,?_⟩)
 have e:i64.wrap (((s.at_+1:Nat):Int) - 1)=(s.at_:Nat):=by rw[gR (by omega) (by omega)];congr 1
 have I:s.at_<vs.length:=by rw[<-g.1.1];exact E
 obtain⟨a,rfl,U⟩:=g.1.2 s.at_ I;rw[e];refine⟨by omega,by omega,aa ?_⟩;rw[lC0,lA1];refine⟨_,U w (h.less [bC b (some a) n c {s with at_:=s.at_+1}]),by omega,?_⟩;have hb:=vs[s.at_].toNat_lt;have O:i64.wrap ((vs[s.at_].toNat:Nat):Int)=((vs[s.at_].toNat:Nat):Int):=i64_in _ (by omega)
 rw[O];have V:Int.tmod ((vs[s.at_].toNat:Nat):Int) (k:Int)=((vs[s.at_].toNat%k:Nat):Int):=rfl
 rw[V];exact y w _ {s with at_:=s.at_+1} (Nat.mod_lt _ (by omega)) ⟨rfl,rfl,rfl⟩ h
def Hi:List UInt8:= [97,98,99,100,101,102,103,104,105,106,107,108,109,110,111,112,113,114,115,116,117,118,119,120,121,122]
def zh:List UInt8:= [111,110,108,121,119,111,114,100,115]
theorem HA:(List.range 26).all (λr=>(List.range 4).all λk=>(sub Hi r (r+1)++sub zh 0 k).all (λc=>decide (97<=c.toNat) && decide (c.toNat<=122)) && decide ((sub Hi r (r+1)++sub zh 0 k).length<=4) && decide (sub Hi r (r+1)++sub zh 0 k≠ []))=true:=by kernel_rfl
theorem wa_of {r k:Nat}(hr:r<26)(y:k<4):Wa (sub Hi r (r+1)++sub zh 0 k):=by
 have g:=lF2.1 (lF2.1 HA r (lY2.2 hr)) k (lY2.2 y);simp only[lN1,decide_eq_true_eq,lF2] at g;exact⟨g.2,λc hc=>g.1.1 c hc,g.1.2⟩
theorem oQ {b:Nat}{q:OA}{n c:Nat}{vs:List UInt8}{s:BS}(y:Rd σ L q n vs)(h:Sat σ w (bC b q n c s::L))(W: ∀w (x:List UInt8) (s':BS),Wa x->s.same s'->Sat σ w (bC b q n c s'::L)->R (hQ (hX (bs x))) w):callE P cH #[kT (kE b)] R w:=by
 refine jh.sound ?_;refine fg (k:=26) y (by omega) (by omega) h λw r b5 hr a7 h=>⟨_,rfl,?_⟩
 refine h.tk λw h=>?_
 have b3:(hP #[97,98,99,100,101,102,103,104,105,106,107,108,109,110,111,112,113,114,115,116,117,118,119,120,121,122])=bs Hi:=rfl;have O:(hP #[111,110,108,121,119,111,114,100,115])=bs zh:=rfl;have E:(bs Hi).size=26:=rfl;have I:(bs zh).size=9:=rfl;have b4:i64.max=9223372036854775807:=rfl;rw[b3,aL (by omega),E];refine⟨by omega,by omega,by omega,?_⟩;refine fg (k:=4) y (by omega) (by omega) h λw k V a6 U h=>⟨_,rfl,?_⟩
 have g:=wa_of hr a6;have b6:(0:Nat)=Int.toNat 0:=rfl
 rw[O,I];refine⟨by omega,by omega,?_⟩;rw[lC0,lC0,lC0,bV,bV];refine⟨?_,?_⟩
 ·have:=g.2.2;rw[lA0] at this
  show (((sub Hi r (r+1)).length+(sub zh 0 k).length:Nat):Int)<=_
  omega
 ·rw[bG];exact W w _ V g (a7.trans U) h

theorem oE {n:Nat}: ∀ls:List (List UInt8),(∀s∈ls,s.length<=n)->(bl [10] ls).length<=ls.length*(n+1)
 | [],_=>by simp[bl]
 | [x],h=>by
  have:=h x (.head _);simp[bl];omega
 |x::y::r,h=>by
  have g:=oE (y::r) λz hz=>h z (.tail _ hz)
  have:=h x (.head _);have e:bl [10] (x::y::r)=x++10::bl [10] (y::r):=by simp[bl]
  rw[e,lA0,lF0,lF0,lV3];omega
theorem Bw (I:op.task=false)(V:op.table=false)(W:op.auto=false)(a6:op.ids=false){ec:ai}(b3:BP ec){l:List BN}(y:okS l)(hd:dsS l)(g:l≠ [])(b9:(aw l).length<=1300)(b8:dpT l<=12):
 (bl [10] (aw l).tail).length<1000000/\wx [ec] op (bl [10] (aw l).tail) (λa7=>a7=dR 1 l):=by
 have b7:=(DV I V W a6 b3).2.1 l y g (dpT l) (lE1 _);obtain⟨c0,r0,rest,e,b4,_⟩:=tM.2.1 l y g;have E:=ye.2.1 l y hd g;have U:(aw l).tail.length<=1300:=by rw[lR2];omega
 have c1:=oE (n:=768) (aw l).tail λs hs=>by have:=(E.ch s hs).2;omega
 have c2:=lC2 769 U;have O:(bl [10] (aw l).tail).length<1000000:=by omega
 obtain⟨m,s,b5,b6⟩:=E.last;refine⟨O,xl I b7 (c0:=c0) (r0:=r0) (by rw[e];rfl) b4 (by omega) (by omega) (λs hs=>?_) (by rw[b5];simpa using b6) O⟩;obtain⟨a,b⟩:=E.ch s hs;exact⟨⟨λh=>(a 10 h).1 rfl,λh=>(a 13 h).2.1 rfl⟩,λh=>(a 0 h).2.2 rfl,by omega⟩
theorem G9 {l:List BN}(y:okS l)(g:l.length<=4)(hs:smS 3 l):(aw l).length<=1300/\dpT l<=12:=by
 obtain⟨a,b⟩:=pF.2.1 l y 3 hs;have e:NBd 3=323:=by decide
 rw[e] at a;have:=lC2 (323+1) g;exact⟨by omega,by omega⟩
theorem jT {h:IH}(g:h.kind≠7):(IN.mk h []).fenced:=by
 rw[da];exact⟨λy=>absurd y g,by rw[ez];trivial⟩
theorem tS (s:List UInt8):ez (eK [.plain s]):=by
 rw[eK,eK,ga];exact⟨by rw[BX];exact jT (by simp),by rw[ez];trivial⟩
theorem uZ: ∀ts:List Inl,(∀t∈ts,(BX t).fenced)->ez (eK ts)
 | [],_=>by rw[eK,ez];trivial
 |t::ts,h=>by
  rw[eK,ga];exact⟨h t (.head _),uZ ts λx g=>h x (.tail _ g)⟩
theorem tR {l:List Tk}(h:okT 0 l):ez (eK (tkG Tk.out [] l)):=by
 refine uZ _ λt ht=>?_
 rcases nH l 0 [] t h ht with ⟨s,_,_,rfl⟩|rfl|ht|⟨k,s,_,y,ht⟩|⟨s,_,ht⟩|⟨s,d,_,_,ht⟩
 ·rw[BX];exact jT (by simp)
 ·rw[BX];exact jT (by simp)
 ·obtain rfl:=lN0.1 ht;rw[BX];exact jT (by simp)
 ·rcases y with rfl|rfl
  ·have ht:t∈ [Inl.emph [42] [.plain s]]:=ht;obtain rfl:=lN0.1 ht;rw[BX,da];exact⟨λg=>by simp at g,tS s⟩
  ·have ht:t∈ [Inl.strong [42,42] [.plain s]]:=ht;obtain rfl:=lN0.1 ht;rw[BX,da];exact⟨λg=>by simp at g,tS s⟩
 ·have ht:t∈ [Inl.code s]:=ht;obtain rfl:=lN0.1 ht;rw[BX];exact jT (by simp)
 ·have ht:t∈ [Inl.link [.plain s] d [] 0 false]:=ht;obtain rfl:=lN0.1 ht;rw[BX,da];exact⟨λg=>by simp at g,tS s⟩
theorem Bt {x:IN}(h:x.fenced):x.tgt.fenced:=by
 cases x with
 |mk g y=>
  rw[da] at h
  by_cases E:g.kind=6
  ·have e:(IN.mk g y).tgt= .mk {g with tight:=true} y:=if_pos E
   rw[e,da];exact⟨h.1,h.2⟩
  ·have e:(IN.mk g y).tgt= .mk g y:=if_neg E;rw[e,da];exact⟨h.1,h.2⟩
theorem pG {f:IN->IN}(g: ∀x:IN,x.fenced->(f x).fenced): ∀l:List IN,ez l->ez (l.map f)
 | [],_=>by rw[List.map_nil,ez];trivial
 |x::l,h=>by
  rw[ga] at h;rw[lP1,ga];exact⟨g x h.1,pG g l h.2⟩
theorem zD {x:IN}(h:x.fenced):x.tgtI.fenced:=by
 cases x with
 |mk y g=>
  rw[da] at h;rw[IN.tgtI,da];exact⟨h.1,pG (λ_=>Bt) g h.2⟩
theorem Bu:(∀b,okB b-> ∀n,(ij n b).fenced)/\(∀l,okS l-> ∀n,ez (dR n l))/\ ∀l,okJ l-> ∀(c:UInt8) (gap:Bool) (num n:Nat),ez (iK c gap num n l)/\ez (jt c gap num n l):=by
 refine BN.ind (P:=λb=>okB b-> ∀n,(ij n b).fenced) (S:=λl=>okS l-> ∀n,ez (dR n l)) (J:=λl=>okJ l-> ∀(c:UInt8) (gap:Bool) (num n:Nat),ez (iK c gap num n l)/\ez (jt c gap num n l)) ?_ ?_ ?_ ?_ ?_ ?_ ?_ ?_ ?_ ?_ ?_
 ·intro ls h n;rw[ij,da];exact⟨λg=>by simp at g,tR (uN h)⟩
 ·intro lv x h n;rw[ij,da];exact⟨λg=>by simp at g,tR (zi h.2.1)⟩
 ·intro h n;rw[ij];exact jT (by simp)
 ·intro w ls h n;rw[ij,da];exact⟨λ_=>by simp,by rw[ez];trivial⟩
 ·intro c ls h n;rw[ij,da];exact⟨λg=>by simp at g,tR (uN h.2)⟩
 ·intro bs I h n;rw[ij,da];exact⟨λg=>by simp at g,I h.2 n⟩
 ·intro c num gap its I h n;have O:=(I h.2.2.2 c gap num n).2;rw[ij,xE,da];refine⟨λg=>by simp at g,?_⟩;split
  ·exact O
  ·exact pG (λ_=>zD) _ O
 ·intro _ n;rw[dR,ez];trivial
 ·intro b r U V h n;rw[dR,ga];exact⟨U h.1 n,V h.2.2 _⟩
 ·intro _ c gap num n;rw[iK,jt,ez];exact⟨trivial,trivial⟩
 ·intro it r E y h c gap num n;refine⟨?_,?_⟩
  ·rw[iK];split
   ·rw[ga,da];exact⟨⟨λg=>by simp at g,E h.2.1 _⟩,(y h.2.2 c gap (num+1) _).1⟩
   ·rw[ga,da];exact⟨⟨λg=>by simp at g,E h.2.1 _⟩,(y h.2.2 c gap (num+1) _).1⟩
  ·rw[jt,ga,da];exact⟨⟨λg=>by simp at g,E h.2.1 _⟩,(y h.2.2 c gap (num+1) _).1⟩
theorem z0: ∀(l:List ND) (x:ND),x∈l->x.h.text.length<=m8 l
 |y::l,x,h=>by
  cases h with
  |head=>exact Nat.le_add_right _ _
  |tail _ h=>
   have:=z0 l x h
   show _<=y.h.text.length+m8 l
   omega
theorem vu: ∀(l g:List ND),m8 (cat g l)=m8 g+m8 l
 | [],g=>rfl
 |x::l,g=>by
  rw[lL,vu l,pV]
  show _=m8 g+(x.h.text.length+m8 l)
  omega
theorem Cd: ∀l:List Tk,m8 (l.map tkN)<=(tkB l).length
 | []=>lD2 _
 |t::l=>by
  have g:=Cd l;rw[cw,lA0];have:(tkN t).h.text.length<=t.B.length:=by
   cases t<;>simp only[tkN,Tk.B,ND.h,plN,lA0,lF0,lM1,lG2,lE1]<;>omega
  show (tkN t).h.text.length+m8 (l.map tkN)<=_
  omega
theorem vt (l:List Tk):m8 (inT l)<=(tkB l).length:=by
 have:=vu (l.map tkN) [];have g:=Cd l;unfold inT;rw[this]
 show 0+_<=_
 omega
theorem E1 {Q:ND->Prop}(V: ∀h W O,Q (.mk h O)->Q (.mk W O)){a:List ND}{x:ND}(E: ∀g∈a,Q g)(I:Q x): ∀g∈gG a x,Q g:=by
 rcases lY1 a with rfl|⟨m,g,rfl⟩
 ·intro z hz;obtain rfl:=lN0.1 hz;exact I
 ·rw[lK2] at E⊢;rw[Ej];have U:=E g (by simp);intro z hz;rcases lP0.1 hz with hz|hz
  ·exact E z (by simp[hz])
  ·cases g with
   |mk a6 a7=>
    rw[gG] at hz;split at hz
    ·obtain rfl:=lN0.1 hz;exact V _ _ _ U
    ·simp only[lW0,lH1,or_false] at hz;rcases hz with rfl|rfl
     ·exact U
     ·exact I
theorem Ak {Q:ND->Prop}(I: ∀h U O,Q (.mk h O)->Q (.mk U O)): ∀(l E:List ND),(∀g∈E,Q g)->(∀x∈l,Q x)-> ∀g∈cat E l,Q g
 | [],E,ha,_=>ha
 |x::l,E,ha,h=>Ak I l _ (E1 I ha (h x (.head _))) λg V=>h g (.tail _ V)
theorem vz: ∀l:List ND,(∀x∈l,rD x)->gK l
 | [],_=>by rw[gK];trivial
 |x::l,h=>by rw[ig];exact⟨h x (.head _),vz l λE g=>h E (.tail _ g)⟩
theorem eP:gK []:=vz [] λ_ h=>by cases h
theorem z9 {s:List UInt8}(h:s.length<1000000):gK [plN s]:=by
 rw[ig,plN,eY];exact⟨⟨by show s.length<_;omega,eP⟩,eP⟩
theorem rM: ∀ {l:List Tk} {n:Nat},okT n l-> ∀t∈l,gK (tkN t).kids
 | .wd s::r,n,h,t,ht=>by
  cases ht with
  |head=>exact eP
  |tail _ ht=>exact rM h.2.2 t ht
 | .sp::r,n,h,t,ht=>by
  cases ht with
  |head=>exact eP
  |tail _ ht=>exact rM h.2 t ht
 | .nl::r,n,h,t,ht=>by
  cases ht with
  |head=>exact eP
  |tail _ ht=>exact rM h.2 t ht
 | .em k s::r,n,h,t,ht=>by
  cases ht with
  |head=>exact z9 (by have:=h.2.1.len;omega)
  |tail _ ht=>exact rM h.2.2.2 t ht
 | .cd s::r,n,h,t,ht=>by
  cases ht with
  |head=>exact eP
  |tail _ ht=>exact rM h.2.2 t ht
 | .lk s d::r,n,h,t,ht=>by
  cases ht with
  |head=>exact z9 (by have:=h.2.1.len;omega)
  |tail _ ht=>exact rM h.2.2.2 t ht
 | .es s::r,n,h,t,ht=>by
  cases ht with
  |head=>exact eP
  |tail _ ht=>exact rM h.2.2 t ht
theorem vA {l:List Tk}{n:Nat}(h:okT n l)(a7:(tkB l).length<1000000):gK (inT l):=by
 refine vz _ λx I=>?_
 have E:=z0 _ _ I;have a6:=vt l;have U:=Ak (Q:=λO=>gK O.kids) (λ_ _ _ h=>h) (l.map tkN) [] (λ_ h=>by cases h) (λO V=>by
  obtain⟨t,ht,rfl⟩:=lU1.1 V;exact rM h t ht) x I
 cases x with
 |mk W b3=>
  rw[eY];exact⟨by have E:W.text.length<=m8 (inT l):=E;omega,U⟩
theorem Cu:(∀b,okB b-> ∀f,rD (mV f b))/\(∀l,okS l-> ∀f,gK (kQ f l))/\ ∀l,okJ l-> ∀(gap:Bool) (n:Nat),gK (vV gap n l)/\gK (uS gap l):=by
 have z:([]:List UInt8).length<1073741824:=by decide
 refine BN.ind (P:=λb=>okB b-> ∀f,rD (mV f b)) (S:=λl=>okS l-> ∀f,gK (kQ f l)) (J:=λl=>okJ l-> ∀(gap:Bool) (n:Nat),gK (vV gap n l)/\gK (uS gap l)) ?_ ?_ ?_ ?_ ?_ ?_ ?_ ?_ ?_ ?_ ?_
 ·intro ls h f;rw[mV,eY];exact⟨z,vA (uN h) (by rw[mz];have:=h.len;omega)⟩
 ·intro lv x h f;rw[mV,eY];exact⟨z,vA (zi h.2.1) (by have:(cv x).length<=710:=ju h.2.1 h.2.2;show (cv x).length<_;omega)⟩
 ·intro h f;rw[mV,eY];exact⟨z,eP⟩
 ·intro w ls h f;have:=vJ ls h.2.2.2.2;have:=h.2.2.2.1;rw[mV,eY];exact⟨by show (dK (ls.map rp)).length<_;omega,eP⟩
 ·intro c ls h f;rw[mV,eY];exact⟨z,vA (uN h.2) (by rw[mz];have:=h.2.len;omega)⟩
 ·intro bs g h f;rw[mV,eY];exact⟨z,g h.2 1⟩
 ·intro c num gap its g h f;rw[mV,eY];exact⟨z,(g h.2.2.2 gap 0).2⟩
 ·intro _ f;rw[kQ];exact eP
 ·intro b r I O h f;rw[kQ,ig];exact⟨I h.1 f,O h.2.2 _⟩
 ·intro _ gap n;rw[vV,uS];exact⟨eP,eP⟩
 ·intro it r E y h gap n;rw[vV,uS,ig,ig,eY,eY];exact⟨⟨⟨z,E h.2.1 1⟩,(y h.2.2 gap _).1⟩,⟨z,E h.2.1 1⟩,(y h.2.2 gap _).1⟩

theorem tF (x:List UInt8)(its:List Tk)(t:Tk):d9 (x,its++ [t])=d9 (x,its)++ [.sp,t]:=by simp[d9,q9]
theorem E6 (x:List UInt8)(its:List Tk)(t:Tk):inT (d9 (x,its++ [t]))=gG (gG (inT (d9 (x,its))) (plN [32])) (tkN t):=by
 rw[tF];unfold inT;rw[lV0,mo];rfl
theorem Bg (x:List UInt8)(its:List Tk)(t:Tk):cv (x,its++ [t])=cv (x,its)++(32::t.B):=by
 show tkB (d9 _)=tkB (d9 _)++_
 rw[tF,uE];simp[tkB,Tk.B]
theorem zn {h:NH}{s:List UInt8}{b:Nat}:NodeDt (.mk h [plN s]) (h.nd none 0 (kE b) 1 1) [(b,cel (N10.C {a0:=20,a1:=bs s}).toList ae)]:=
 ⟨h,[plN s],none,0,kE b,1,1,_,[(b,_)],[],rfl,rfl,rfl,by decide,NodeDt.one (x:=plN s) NodeDt.leaf,slN (v:= {a0:=20,a1:=bs s})⟩
theorem wo {b:Nat}{q:OA}{n c:Nat}{vs:List UInt8}{s:BS}(d3:Rd σ L q n vs)(h:Sat σ w (bC b q n c s::L))(h3: ∀w (x:LT) (s':BS) (c4:OA) (b7 c3:Nat) (us:List Value) (RM KM:List ai),lnA x->s.same s'->NDs (inT (d9 x)) us KM->Sl 10 ae c4 b7 c3 us RM->b7<=5->Sat σ w (RM++(KM++(bC b q n c s'::L)))->R (hQ (.tuple #[hX (bs (cv x)),hT c4 b7 c3])) w):
 callE P eR #[kT (kE b)] R w:=by
 have f7:i64.max=9223372036854775807:=rfl;refine dl.sound ?_;refine oQ d3 h λw x g7 e9 b3 h=>⟨_,rfl,?_⟩
 refine Sat.buildN h {a0:=20,a1:=bs x} λb1 w h=>?_
 have h:Sat σ w (bC b q n c g7::(b1,cel (N10.C {a0:=20,a1:=bs x}).toList ae)::L):=h.re
 refine fg (k:=3) (d3.up λw h=>h.less [(b1,cel (N10.C {a0:=20,a1:=bs x}).toList ae)]) (by omega) (by omega) h λw m h2 j1 b6 h=>⟨_,rfl,?_⟩
 intro X f5;have g3: ∀k (its:List Tk) (c4:OA) (b7 c3:Nat) (us:List Value) (RM KM:List ai) (s':BS) (w:World),its.length+k=m->(∀t∈its,tkA t)->s.same s'->NDs (inT (d9 (x,its))) us KM->Sl 10 ae c4 b7 c3 us RM->b7<=1+2*its.length->Sat σ w (RM++(KM++(bC b q n c s'::L)))->X (kE b) (bs (cv (x,its))) c4 b7 c3 (m:Nat) (its.length:Nat) w:=by
  intro k
  induction k with
  |zero=>
   intro its c4 b7 c3 us RM KM s' w h4 e6 e8 f0 f2 g4 h;refine f5 _ _ _ _ _ _ _ _ (af (by simp;omega) ?_);exact h3 w (x,its) s' c4 b7 c3 us RM KM ⟨⟨e9,e6⟩,by show its.length<=2;omega⟩ e8 f0 f2 (by omega) h
  |succ k h1=>
   intro its c4 b7 c3 us RM KM s' w h4 e6 e8 f0 f2 g4 h;have f3:lnA (x,its):=⟨⟨e9,e6⟩,by show its.length<=2;omega⟩;have i1:=ju f3.ok.1 f3.2;have g0:=vt (d9 (x,its));have g0:m8 (inT (d9 (x,its)))<=710:=by
    have e:(tkB (d9 (x,its))).length=(cv (x,its)).length:=rfl;omega
   have h8:=e9.2.2;refine f5 _ _ _ _ _ _ _ _ (ag (by simp;omega) ?_);have h:Sat σ w (bC b q n c s'::(RM++(KM++L))):=h.re
   refine oQ (d3.up λw h=>h.less (RM++KM)) h λw g f4 c8 f1 h=>⟨_,rfl,?_⟩
   have h7:=c8.2.2;refine Sat.buildN h {a0:=20,a1:=bs g} λb2 w h=>?_
   have h:Sat σ w (RM++(KM++([]++(bC b q n c f4::(b2,cel (N10.C {a0:=20,a1:=bs g}).toList ae)::L)))):=h.re
   refine nA (x:=plN [32]) (u:= {a0:=20,a1:=bs [32]}) f0 f2 NodeDt.leaf (by omega) (by show _+1<_;omega) h λw j0 g6 i8 h6 b8 b9 h9 d1 c9 h=>⟨_,_,_,rfl,?_⟩
   have h5:m8 (gG (inT (d9 (x,its))) (plN [32]))<=711:=by rw[pV];show _+1<=_;omega
   have h:Sat σ w (bC b q n c f4::(b8++(b9++((b2,cel (N10.C {a0:=20,a1:=bs g}).toList ae)::L)))):=h.re
   refine fg (k:=7) (d3.up λw h=>h.less (b8++(b9++ [(b2,cel (N10.C {a0:=20,a1:=bs g}).toList ae)]))) (by omega) (by omega) h λw r b5 hr e7 h=>⟨_,rfl,?_⟩
   have next: ∀(t:Tk) (V:OA) (E W:Nat) (I:List Value) (O U:List ai) (c5:BS) (w:World) (z:ByteArray),tkA t->s.same c5->z=bs (32::t.B)->E<=g6+1->NDs (gG (gG (inT (d9 (x,its))) (plN [32])) (tkN t)) I U->Sl 10 ae V E W I O->Sat σ w (O++(U++(bC b q n c c5::L)))->X (kE b) (bs (cv (x,its))++z) V E W (m:Nat) (i64.wrap (((its.length:Nat):Int)+1)) w:=by
    intro t V E W I O U c5 w z ht g2 hz b4 a6 a7 h;rw[hz,bG,<-Bg,aL (by omega)];have e:(its++ [t]).length=its.length+1:=by simp
    rw[<-e];refine h1 (its++ [t]) V E W I O U c5 w (by omega) (λu d2=>?_) g2 (by rw[E6];exact a6) a7 (by omega) h;rcases lP0.1 d2 with d2|d2
    ·exact e6 u d2
    ·obtain rfl:=lN0.1 d2;exact ht
   have d0:s.same b5:=e8.trans (f1.trans e7);have sz: ∀a b:List UInt8,a.length+b.length<=2000->(((bs a).size+(bs b).size:Nat):Int)<=i64.max:=by
    intro a b i3;rw[f7,aF,aF];omega
   have i4: ∀c:List UInt8,(hP c.toArray)=bs c:=λ_=>rfl
   rcases (show r=0\/r=1\/r=2\/r=3\/r=4\/5<=r by omega) with rfl|rfl|rfl|rfl|rfl|i0
   ·have b3:((hP #[32,42]):ByteArray)=bs [32,42]:=rfl
    have b6:((hP #[42]):ByteArray)=bs [42]:=rfl
    refine ag rfl ?_;rw[b3,b6,bG,bG];refine⟨sz _ _ (by simp;omega),sz _ _ (by simp;omega),sz _ _ (by simp;omega),?_⟩;have h:Sat σ w (b8++(b9++([(b2,cel (N10.C {a0:=20,a1:=bs g}).toList ae)]++(bC b q n c b5::L)))):=h.re
    refine nA (x:=tkN (.em 1 g)) (u:= {a0:=24,q7:=kE b2,n7:=1,c7:=1}) d1 c9 (zn (h:= {kind:=24})) (by omega) (by show _+0<_;omega) h λw V E W I O U b4 a6 a7 h=>⟨_,_,_,rfl,?_⟩
    exact next (.em 1 g) V E W I O U b5 w _ ⟨c8,.inl rfl⟩ d0 rfl b4 a6 a7 h
   ·have b3:((hP #[32,42,42]):ByteArray)=bs [32,42,42]:=rfl
    have b6:((hP #[42,42]):ByteArray)=bs [42,42]:=rfl
    refine af rfl (ag rfl ?_);rw[b3,b6,bG,bG];refine⟨sz _ _ (by simp;omega),sz _ _ (by simp;omega),sz _ _ (by simp;omega),?_⟩;have h:Sat σ w (b8++(b9++([(b2,cel (N10.C {a0:=20,a1:=bs g}).toList ae)]++(bC b q n c b5::L)))):=h.re
    refine nA (x:=tkN (.em 2 g)) (u:= {a0:=25,q7:=kE b2,n7:=1,c7:=1}) d1 c9 (zn (h:= {kind:=25})) (by omega) (by show _+0<_;omega) h λw V E W I O U b4 a6 a7 h=>⟨_,_,_,rfl,?_⟩
    exact next (.em 2 g) V E W I O U b5 w _ ⟨c8,.inr rfl⟩ d0 rfl b4 a6 a7 h
   ·have b3:((hP #[32,96]):ByteArray)=bs [32,96]:=rfl
    have b6:((hP #[96]):ByteArray)=bs [96]:=rfl
    refine af rfl (af rfl (ag rfl ?_));rw[b3,b6,bG,bG];refine⟨sz _ _ (by simp;omega),sz _ _ (by simp;omega),sz _ _ (by simp;omega),?_⟩;have h:Sat σ w (b8++(b9++([]++(bC b q n c b5::L)))):=h.less [(b2,cel (N10.C {a0:=20,a1:=bs g}).toList ae)]
    refine nA (x:=tkN (.cd g)) (u:= {a0:=23,a1:=bs g}) d1 c9 (NodeDt.leaf (h:= {kind:=23,text:=g})) (by omega) (by show _+g.length<_;omega) h λw V E W I O U b4 a6 a7 h=>⟨_,_,_,rfl,?_⟩
    exact next (.cd g) V E W I O U b5 w _ c8 d0 rfl b4 a6 a7 h
   ·refine af rfl (af rfl (af rfl (ag rfl ?_)));refine oQ (d3.up λw h=>h.less (b8++(b9++ [(b2,cel (N10.C {a0:=20,a1:=bs g}).toList ae)]))) h λw z c5 hz g5 h=>⟨_,rfl,?_⟩
    have i2:=hz.2.2;have b3:((hP #[32,91]):ByteArray)=bs [32,91]:=rfl
    have b6:((hP #[93,40]):ByteArray)=bs [93,40]:=rfl
    have f1:((hP #[41]):ByteArray)=bs [41]:=rfl
    have e7:((hP #[47]):ByteArray)=bs [47]:=rfl
    rw[b3,b6,f1,e7,bG,bG,bG,bG,bG];refine⟨sz _ _ (by simp;omega),sz _ _ (by simp;omega),sz _ _ (by simp;omega),sz _ _ (by simp;omega),sz _ _ (by simp;omega),sz _ _ (by simp;omega),?_⟩;have h:Sat σ w (b8++(b9++([(b2,cel (N10.C {a0:=20,a1:=bs g}).toList ae)]++(bC b q n c c5::L)))):=h.re
    refine nA (x:=tkN (.lk g (47::z))) (u:= {a0:=27,a1:=bs (47::z),q7:=kE b2,n7:=1,c7:=1}) d1 c9 (zn (h:= {kind:=27,text:=47::z})) (by omega) (by show _+(z.length+1)<_;omega) h λw V E W I O U b4 a6 a7 h=>⟨_,_,_,rfl,?_⟩
    refine next (.lk g (47::z)) V E W I O U c5 w _ ⟨c8,z,hz,rfl⟩ (d0.trans g5) ?_ b4 a6 a7 h
    congr 1;simp[Tk.B]
   ·have b3:((hP #[32,92,42]):ByteArray)=bs [32,92,42]:=rfl
    have b6:((hP #[42]):ByteArray)=bs [42]:=rfl
    refine af rfl (af rfl (af rfl (af rfl (ag rfl ?_))));rw[b3,b6,bG,bG];refine⟨sz _ _ (by simp;omega),sz _ _ (by simp;omega),sz _ _ (by simp;omega),?_⟩;have h:Sat σ w (b8++(b9++([]++(bC b q n c b5::L)))):=h.less [(b2,cel (N10.C {a0:=20,a1:=bs g}).toList ae)]
    refine nA (x:=tkN (.es g)) (u:= {a0:=20,a1:=bs (42::g)}) d1 c9 (NodeDt.leaf (h:= {kind:=20,text:=42::g})) (by omega) (by show _+(g.length+1)<_;omega) h λw V E W I O U b4 a6 a7 h=>⟨_,_,_,rfl,?_⟩
    exact next (.es g) V E W I O U b5 w _ c8 d0 rfl b4 a6 a7 h
   ·have b3:((hP #[32]):ByteArray)=bs [32]:=rfl
    have e0: ∀d:Nat,d<5->(((r:Nat):Int)==((d:Nat):Int))=false:=λd hd=>by rw[iy,decide_eq_false_iff_not];omega
    refine af (e0 0 (by omega)) (af (e0 1 (by omega)) (af (e0 2 (by omega)) (af (e0 3 (by omega)) (af (e0 4 (by omega)) ?_))));rw[b3,bG];refine⟨sz _ _ (by simp;omega),sz _ _ (by simp;omega),by decide,by decide,aa ?_⟩;refine Sat.ldA10 h {a0:=20,a1:=bs g} (b:=b2) (pre:= []) (suf:= []) (e:=ae) (by simp) rfl ?_;have h:Sat σ w (b8++(b9++([]++(bC b q n c b5::L)))):=h.less [(b2,cel (N10.C {a0:=20,a1:=bs g}).toList ae)]
    refine nA (x:=tkN (.wd g)) (u:= {a0:=20,a1:=bs g}) d1 c9 (NodeDt.leaf (h:= {kind:=20,text:=g})) (by omega) (by show _+g.length<_;omega) h λw V E W I O U b4 a6 a7 h=>⟨_,_,_,rfl,?_⟩
    exact next (.wd g) V E W I O U b5 w _ c8 d0 rfl b4 a6 a7 h
 have g1:cv (x,[])=x:=by simp[cv,d9,q9,tkB,Tk.B]
 have f6:=g3 m [] (kE b1) 1 1 _ _ _ h2 w (by simp) (λt ht=>by cases ht) (b3.trans b6) (NodeDt.one (x:=plN x) NodeDt.leaf) (slN (v:= {a0:=20,a1:=bs x})) (by simp) h.re
 rw[g1] at f6;exact f6
namespace fe
def k1 (R:EP)(Xa:BA->BA->OA->Nat->Nat->Int->Int->WP)(W g y:BA)(I:OA)(U O:Nat)(V E:Int)(w:World):Prop:=((g.size+y.size:Nat):Int)<=i64.max/\Xa W (g++y) I U O V (i64.wrap (E+1)) w
def bl1 (R:EP)(Xa:BA->BA->OA->Nat->Nat->Int->Int->WP)(E y:BA)(I:OA)(O W:Nat)(U g:Int)(w:World):Prop:=br (decide (g<U)) (0<=g/\g<(O:Int)/\aA I λa1=>∃V,w.cell? (a1.add (Int.toNat g*1))=some (hX V)/\br (decide (g>0)) (((y.size+E.size:Nat):Int)<=i64.max/\k1 R Xa E (y++E) V I O W U g w) (k1 R Xa E y V I O W U g w)) (R (hQ (hX y)) w)
def l1 (R:EP)(V U:BA)(y:OA)(I E:Nat)(O g:Int)(w:World):Prop:=∀X:BA->BA->OA->Nat->Nat->Int->Int->WP,(∀V U y I E O g w,bl1 R X V U y I E O g w->X V U y I E O g w)->X V U y I E O g w
end fe
def fe (R:EP)(y:OA)(g E:Nat)(I:BA)(w:World):Prop:=fe.l1 R I (hP #[]) y g E (g:Int) 0 w
theorem fe.sound {R x0q x0n x0c x1 w}(h:fe R x0q x0n x0c x1 w):callE P fU #[hT x0q x0n x0c,hX x1] R w:=
 aG [(43,.lp [21,101,163,187,207] (fe.bl1 R) λXa=> [(115,.mk [21,101,141,163,187,207] (fe.k1 R Xa))])] Tryz.func26 Tryz.call26 h

theorem Bi (sep:List UInt8)(ls:List (List UInt8))(l:List UInt8):bl sep (ls++ [l])=if ls= [] then l else bl sep ls++(sep++l):=by
 cases ls with
 |nil=>simp[bl]
 |cons t ts=>simp[bl]
theorem qc {q:Option Addr}{n c:Nat}{ls:List (List UInt8)}{sep:List UInt8}(V:SArg σ L q n ls)(h:Sat σ w L)(b6:n<1000000)(hb:(bl sep ls).length<1000000000)(hs:sep.length<1000000)(b3: ∀w,Sat σ w L->R (hQ (hX (bs (bl sep ls)))) w):callE P fU #[hT q n c,hX (bs sep)] R w:=by
 refine fe.sound ?_;have y:i64.max=9223372036854775807:=rfl;have b5:=V.1;intro X U;have I: ∀i,i<=ls.length->(bl sep (ls.take i)).length<=(bl sep ls).length:=by
  intro i hi;cases ls with
  |nil=>simp[bl]
  |cons t ts=>
   cases i with
   |zero=>simp[bl]
   |succ i=>
    simp only[lJ5,bl,lA0];have:(List.take i ts).flatMap (λu=>sep++u)++(List.drop i ts).flatMap (λu=>sep++u)=ts.flatMap (λu=>sep++u):=by
     rw[<-lK5,lW1]
    have:=congrArg List.length this;rw[lA0] at this;omega
 have W: ∀k i,i+k=n->X (bs sep) (bs (bl sep (ls.take i))) q n c (n:Nat) (i:Int) w:=by
  intro k
  induction k with
  |zero=>
   intro i hi;refine U _ _ _ _ _ _ _ _ (af (by simp;omega) ?_);rw[lB2 (by omega)];exact b3 w h
  |succ k b4=>
   intro i hi;have O:i<ls.length:=by omega
   obtain⟨a,rfl,a6⟩:=V.2 i O;have g:bl sep (ls.take (i+1))=if i=0 then ls[i] else bl sep (ls.take i)++(sep++ls[i]):=by
    rw[lB1 O,Bi]
    by_cases h0:i=0
    ·subst h0;simp
    ·rw[if_neg (by intro a7;have:=congrArg List.length a7;rw[lY0,lM1] at this;omega),if_neg h0]
   have E:=I (i+1) (by omega);have next:=b4 (i+1) (by omega)
   refine U _ _ _ _ _ _ _ _ (ag (by simp;omega) ⟨by omega,by omega,aa ?_⟩);rw[lC0,lA1];refine⟨_,a6 w h,?_⟩
   by_cases h0:i=0
   ·subst h0;rw[if_pos rfl] at g;rw[g] at E next;refine af rfl ⟨?_,?_⟩
    ·rw[y,aF,aF]
     show ((([]:List UInt8).length+ls[0].length:Nat):Int)<=_
     simp only[lM1];omega
    ·rw[bG,aL (by omega)]
     simpa[bl] using next
   ·rw[if_neg h0] at g;rw[g] at E next;simp only[lA0] at E;refine ag (by simp;omega) ⟨?_,?_⟩
    ·rw[y,aF,aF];have b7:=I i (by omega);omega
    ·refine⟨?_,?_⟩
     ·rw[y,bG,aF,aF,lA0];omega
     ·rw[bG,bG,aL (by omega),lD0];exact next
 exact W n 0 (by omega)

theorem Gu (ls:List (List UInt8))(s:List UInt8):sv (ls++ [s])=sv ls++ [hX (bs s)]:=by simp[sv]

abbrev SlS (q:OA)(c:Nat)(ls:List (List UInt8))(M:List ai):Prop:=Sl 1 aq q ls.length c (sv ls) M
theorem SlS.nil:SlS none 0 [] []:=Sl.nil 1 aq
theorem Sat.appS {q:OA}{c:Nat}{ls:List (List UInt8)}{M:List ai}(b5:SlS q c ls M)(h:Sat σ w (M++L))(s:List UInt8)(b6:ls.length<1000000){K:OA->Nat->Nat->World->Prop}(b4: ∀y g W E,SlS y g (ls++ [s]) E->Sat σ W (E++L)->K y (ls++ [s]).length g W):
 ∃(O:OA),∃(V:Nat),∃(a7:Nat),∃U,(Instr.buildSlice al 1 #[(0,hX (bs s))]).run P w= .ok (hT O V a7) U/\
  ∃(y:OA),∃(a6:Nat),∃(g:Nat),∃I,(Builtin.append_ #[al,al] al #[hT q ls.length c,hT O V a7]).run P U= .ok (hT y a6 g) I/\K y a6 g I:=by
 refine Sat.app1 rowStr b5 h (v:= hX (bs s)) rfl (by simp[Value.cells,Value.oneCell']) (E9 s) (by omega) (by omega) (by decide) λy g w E b3 h=>?_
 have e:(ls++ [s]).length=ls.length+1:=by simp
 rw[<-e];refine b4 y g w E ?_ h
 show Sl 1 aq y (ls++ [s]).length g (sv (ls++ [s])) E
 rw[Gu,e];exact b3
theorem Sat.buildS (h:Sat σ w L)(s:List UInt8){K:OA->Nat->Nat->World->Prop}(I: ∀q c g M,SlS q c [s] M->Sat σ g (M++L)->K q 1 c g):
 ∃(q:OA),∃(n:Nat),∃(c:Nat),∃g,(Instr.buildSlice al 1 #[(0,hX (bs s))]).run P w= .ok (hT q n c) g/\K q n c g:=by
 have E:=run_buildSlice (P:=P) w al aq 1 #[(0,hX (bs s))] #[hX (bs s)] rowStr.i rowStr.z rowStr.ht rowStr.hi rowStr.hz (by rw[rowStr.hs];decide) (by rw[rowStr.hs];decide) (by rw[rowStr.hs];exact E9 s)
 refine⟨_,_,_,_,E,?_⟩;have y:=h.alc [hX (bs s)] aq;have O:YtendaipfdnhnaaaGreatDoor.alc w [hX (bs s)].toArray aq=w.alloc (.cells #[hX (bs s)] aq):=rfl;rw[O] at y;exact I _ _ _ [(_,cel [hX (bs s)] aq)] ⟨rfl,lE1 _,.inr ⟨_,[],rfl,rfl,rfl⟩⟩ y
theorem Sat.appL {q W:OA}{c U:Nat}{ls g:List (List UInt8)}{M a7:List ai}(c4:SlS q c ls M)(b5:SlS W U g a7)(h:Sat σ w (M++(a7++L)))(b6:g≠ [])(c5:ls.length+g.length<1000000){K:OA->Nat->Nat->World->Prop}(c1: ∀E y O I,SlS E y (ls++g) I->Sat σ O (I++L)->K E (ls++g).length y O):
 ∃(E:OA),∃(a6:Nat),∃(y:Nat),∃b3,(Builtin.append_ #[al,al] al #[hT q ls.length c,hT W g.length U]).run P w= .ok (hT E a6 y) b3/\K E a6 y b3:=by
 have b9:0<g.length:=lZ0.2 b6;obtain⟨c8,c9,b8⟩:=b5;rcases b8 with ⟨_,h0,_⟩|⟨b,sp,rfl,rfl,d0⟩
 ·omega
 have hs:Src P 1 al (hT (kE b) g.length U) g.length (sv g) w:=by
  refine Src.ofSlice w rowStr.ht _ _ U _ (by simp) (λj u V=>?_) λu V=>?_
  ·rw[show (Addr.add (hZ b 0) j)=⟨b,j,none⟩ from Addr.add_zero_lit b j];refine h.ld (lB0 _ (.head _)) ?_;rw[lM0 (lJ0.1 V).1];exact V
  ·obtain⟨s,_,rfl⟩:=lU1.1 V;rfl
 obtain⟨E,y,O,I,hr,b4,b7,_⟩:=Sat.app rowStr (ty:=al) c4 h hs (.inl b9) (by omega) (by omega);refine⟨E,_,y,O,hr,?_⟩;have e:(ls++g).length=ls.length+g.length:=by simp
 rw[<-e];refine c1 E y O I ?_ (b7.sub (List.Sublist.append_left (lJ3 _ _) _))
 show Sl 1 aq E (ls++g).length y (sv (ls++g)) I
 have c3:sv (ls++g)=sv ls++sv g:=by simp[sv]
 rw[c3,e];exact b4
theorem SlS.get {q:OA}{c:Nat}{ls:List (List UInt8)}{M:List ai}(y:SlS q c ls M){i:Nat}(hi:i<ls.length): ∃a,q=some a/\ ∀ {L:List ai} {w:World},Sat σ w L->(∀x∈M,x∈L)->w.cell? (a.add i)=some (hX (bs ls[i])):=by
 obtain⟨E,I,g⟩:=y;rcases g with ⟨_,h0,_⟩|⟨b,sp,rfl,rfl,O⟩
 ·omega
 refine⟨_,rfl,λ{L w} h hM=>?_⟩;rw[show (Addr.add (hZ b 0) i)=⟨b,i,none⟩ from Addr.add_zero_lit b i];exact h.ld (hM _ (.head _)) (by rw[lM0 (by rw[j5];exact hi),uF hi])
theorem FP {n:Nat}(E:n<1000000)(g:R (hQ (hX (bs (hN n 32)))) w):callE P oI #[hY (n:Nat)] R w:=by
 refine oL.sound ?_;have e:((hP #[32]):ByteArray)=bs [32]:=rfl
 unfold oL;rw[e];refine sE (s:= [32]) E (by simp) ⟨_,rfl,?_⟩;have y: ∀n,(hN n [(32:UInt8)]).flatten=hN n 32:=by
  intro n
  induction n with
  |zero=>rfl
  |succ n I=>rw[lA2,lM3,I];rfl
 rw[y];exact g
theorem Bz {n:Nat}(a7:n<100)(g:R (hQ (hX (bs (Ep n)))) w):callE P gn #[hY (n:Nat)] R w:=by
 have U:i64.max=9223372036854775807:=rfl
 let y:List UInt8:= [48,49,50,51,52,53,54,55,56,57]
 have V: ∀k,k<10->sub y k (k+1)= [UInt8.ofNat (48+k)]:=by
  intro k O;have:(List.range 10).all (λk=>sub y k (k+1)== [UInt8.ofNat (48+k)])=true:=by kernel_rfl
  exact eq_of_beq (lF2.1 this k (lY2.2 O))
 have E: ∀ {R:Ending->World->Prop} {w:World} (k:Nat),k<10->R (hQ (hX (bs [UInt8.ofNat (48+k)]))) w->callE P gn #[hY (k:Nat)] R w:=by
  intro R w k O g;refine gq.sound ?_;have e:((hP #[48,49,50,51,52,53,54,55,56,57]):ByteArray)=bs y:=rfl
  unfold gq;rw[e,aL (by omega)];refine ag (by simp;omega) ⟨by omega,by omega,by show ((k+1:Nat):Int)<=10;omega,?_⟩;rw[lC0,lC0,bV]
  show R (hQ (hX (bs (sub y k (k+1))))) w
  rw[V k O];exact g
 by_cases I:n<10
 ·unfold Ep at g;rw[if_pos I] at g;exact E n I g
 ·unfold Ep at g;rw[if_neg I] at g;refine gq.sound ?_;unfold gq;have a6:i64.wrap (Int.tdiv ((n:Nat):Int) 10)=((n/10:Nat):Int):=by
   rw[show Int.tdiv ((n:Nat):Int) 10=((n/10:Nat):Int) from rfl];exact i64_in _ (by omega)
  have W:Int.tmod ((n:Nat):Int) 10=((n%10:Nat):Int):=rfl
  rw[a6,W];refine af (by simp;omega) ⟨by omega,?_⟩;refine E (n/10) (by omega) ⟨_,rfl,by omega,?_⟩;refine E (n%10) (by omega) ⟨_,rfl,?_⟩;rw[bG];exact⟨by rw[aF,aF,U];simp,g⟩
theorem zu {q:OA}{c:Nat}{pad:List UInt8}{ls:List (List UInt8)}(c4:SArg σ L q ls.length ls)(d0:pad.length<=100)(b3: ∀l∈ls,l.length<=100000)(c9:ls.length<100000)(h:Sat σ w L)(c3: ∀w E g y,SlS E g (ls.map λs=>if s= [] then [] else pad++s) y->Sat σ w (y++L)->R (hQ (hT E ls.length g)) w):callE P kX #[hX (bs pad),hT q ls.length c] R w:=by
 have a7:i64.max=9223372036854775807:=rfl;refine dF.sound ?_;intro X V;have b4: ∀k i E g y w,i+k=ls.length->SlS E g ((ls.take i).map λs=>if s= [] then [] else pad++s) y->Sat σ w (y++L)->X (bs pad) E ((ls.take i).map λs=>if s= [] then [] else pad++s).length g q ls.length c (ls.length:Nat) (i:Nat) w:=by
  intro k
  induction k with
  |zero=>
   intro i E g y w a6 I h;obtain rfl:i=ls.length:=a6;refine V _ _ _ _ _ _ _ _ _ _ (af (by simp) ?_);rw[lP2] at I⊢;rw[lQ0];exact c3 w E g y I h
  |succ k b9=>
   intro i E g y w a6 I h;have O:i<ls.length:=by omega
   obtain⟨a,rfl,b8⟩:=c4.2 i O;refine V _ _ _ _ _ _ _ _ _ _ (ag (by simp;omega) ⟨by omega,by omega,aa ?_⟩);rw[lC0,lA1];refine⟨_,b8 w (h.less y),?_⟩;have c8:=b3 ls[i] (lO1 O);have c5:(hP #[]).toList= []:=cn [];rw[cn,c5];have W:(ls.take (i+1)).map (λs=>if s= [] then [] else pad++s)=((ls.take i).map λs=>if s= [] then [] else pad++s)++ [if ls[i]= [] then [] else pad++ls[i]]:=by
    rw[lB1 O,lV0];rfl
   have b5:((ls.take i).map λs=>if s= [] then [] else pad++s).length<1000000:=by rw[lQ0,lY0];omega
   have next: ∀z,z=(if ls[i]= [] then [] else pad++ls[i])->dF.k1 R X (bs pad) E ((ls.take i).map λs=>if s= [] then [] else pad++s).length g (bs z) (some a) ls.length c (ls.length:Nat) (i:Nat) w:=by
    intro z hz;refine Sat.appS I h z b5 λb6 b7 w c1 U h=>?_
    rw[hz,<-W] at U;rw[hz,<-W,aL (by omega)];exact b9 (i+1) b6 b7 c1 w (by omega) U h
   by_cases hz:ls[i]= []
   ·rw[hz];refine af rfl ?_;exact next [] (by rw[if_pos hz])
   ·refine ag (by simp[hz]) ⟨by rw[aF,aF,a7];omega,?_⟩;rw[bG];exact next _ (by rw[if_neg hz])
 exact b4 ls.length 0 none 0 [] w (by omega) SlS.nil h
theorem uT: ∀ {ls:List (List UInt8)},ls≠ []->bl [10] ls++ [10]=dK ls
 | [],h=>absurd rfl h
 | [x],_=>by simp[bl,dK]
 |x::y::r,_=>by
  have E:=uT (ls:=y::r) (by simp)
  have e:bl [10] (x::y::r)=x++10::bl [10] (y::r):=by simp[bl]
  have g:dK (x::y::r)=(x++ [10])++dK (y::r):=by simp[dK]
  rw[e,g,<-E];simp
theorem Ft {b:Nat}{q:OA}{n c:Nat}{vs:List UInt8}{s:BS}(V:Rd σ L q n vs)(h:Sat σ w (bC b q n c s::L))(f2: ∀w (ls:List (Nat × List UInt8)) (s':BS) (E:OA) (g:Nat) (M:List ai),ls≠ []->ls.length<=3->(∀x∈ls,x.1<=2/\Wa x.2)->s.same s'->SlS E g (ls.map rp) M->Sat σ w (M++(bC b q n c s'::L))->R (hQ (.tuple #[hT E (ls.map rp).length g,hX (bs (dK (ls.map rp)))])) w):
 callE P i9 #[kT (kE b)] R w:=by
 have b3:i64.max=9223372036854775807:=rfl;refine dm.sound ?_;refine oQ V h λw x e5 I e6 h=>⟨_,rfl,?_⟩
 refine h.buildS x λd0 c8 w a6 c4 h=>?_
 have h:Sat σ w (bC b q n c e5::(a6++L)):=h.re
 refine fg (k:=3) (V.up λw h=>h.less a6) (by omega) (by omega) h λw m f1 f7 f0 h=>⟨_,rfl,?_⟩
 intro X b6;have c5: ∀k (ls:List (Nat × List UInt8)) (E:OA) (g:Nat) (M:List ai) (s':BS) (w:World),ls.length+k=m+1->ls≠ []->(∀x∈ls,x.1<=2/\Wa x.2)->s.same s'->SlS E g (ls.map rp) M->Sat σ w (M++(bC b q n c s'::L))->X (kE b) E (ls.map rp).length g (m:Nat) ((ls.length - 1:Nat):Int) w:=by
  intro k
  induction k with
  |zero=>
   intro ls E g M s' w f3 U O a7 W h;refine b6 _ _ _ _ _ _ _ (af (by simp;omega) ?_);have c3:((hP #[10]):ByteArray)=bs [10]:=rfl
   rw[c3];have hr:=vJ ls λx I=>⟨(O x I).1,(O x I).2.wd⟩
   have b8:=uT (ls:=ls.map rp) (by simpa using U);have b4:=congrArg List.length b8;rw[lA0] at b4;simp only[lE0] at b4;refine qc (L:=M++(bC b q n c s'::L)) (SArg.ofSl W λx I=>lC1 _ I) h (by simp;omega) (by omega) (by simp) λw h=>⟨_,rfl,?_⟩
   rw[bG,b8];refine⟨by rw[aF,aF,b3];simp;omega,?_⟩;exact f2 w ls s' E g M U (by omega) O a7 W h
  |succ k e8=>
   intro ls E g M s' w f3 U O a7 W h;have f6:0<ls.length:=lZ0.2 U;refine b6 _ _ _ _ _ _ _ (ag (by simp;omega) ?_);have h:Sat σ w (bC b q n c s'::(M++L)):=h.re
   refine fg (k:=3) (V.up λw h=>h.less M) (by omega) (by omega) h λw r f5 hr e7 h=>⟨_,rfl,?_⟩
   refine FP (by omega) ⟨_,rfl,?_⟩;refine oQ (V.up λw h=>h.less M) h λw y b7 b9 c9 h=>⟨_,rfl,?_⟩
   have f4:=b9.2.2;refine⟨by rw[aF,aF,b3];simp;omega,?_⟩;rw[bG];have h:Sat σ w (M++(bC b q n c b7::L)):=h.re
   refine Sat.appS W h _ (by simp;omega) λd1 d2 w e9 b5 h=>?_
   have em:ls.map rp++ [hN r 32++y]=(ls++ [(r,y)]).map rp:=by simp[rp]
   rw[em] at b5⊢;have e0:i64.wrap (((ls.length - 1:Nat):Int)+1)=(((ls++ [(r,y)]).length - 1:Nat):Int):=by
    rw[aL (by omega)];congr 1;simp;omega
   rw[e0];refine e8 (ls++ [(r,y)]) d1 d2 e9 b7 w (by simp;omega) (by simp) (λz hz=>?_) (a7.trans (e7.trans c9)) b5 h;rcases lP0.1 hz with hz|hz
   ·exact O z hz
   ·obtain rfl:=lN0.1 hz;exact⟨by omega,b9⟩
 have d3:=c5 m [(0,x)] d0 c8 a6 f1 w (by simp;omega) (by simp) (λz hz=>by obtain rfl:=lN0.1 hz;exact⟨by omega,I⟩) (e6.trans f0) c4 h.re;exact d3

theorem tj: ∀(ls:List LT) (x:LT),ls≠ []->ft (ls++ [x])=ft ls++ .nl::d9 x
 | [],x,h=>absurd rfl h
 | [y],x,_=>rfl
 |y::z::r,x,_=>by
  have g:=tj (z::r) x (by simp)
  have e:ft ((y::z::r)++ [x])=d9 y++ .nl::ft ((z::r)++ [x]):=rfl
  rw[e,g,ft];simp
def tf (ls:List LT):List ND:=if ls= [] then [] else gG (inT (ft ls)) (tkN .nl)
theorem CF (ls:List LT)(x:LT):cat (tf ls) (inT (d9 x))=inT (ft (ls++ [x])):=by
 unfold tf
 by_cases h:ls= []
 ·subst h;rw[if_pos rfl];exact AG _
 ·rw[if_neg h,tj ls x h];unfold inT;rw[DQ,lV0,mo];rfl
theorem Ce {ls:List LT}(h: ∀x∈ls,lnA x)(I:ls.length<=3):m8 (inT (ft ls))<=2200:=by
 have y:=vt (ft ls);rw[mz] at y;have E:=qZ ls λx g=>⟨(h x g).ok.1,(h x g).2⟩
 omega
theorem qu {b:Nat}{q:OA}{n c:Nat}{vs:List UInt8}{s:BS}(g6:Rd σ L q n vs)(h:Sat σ w (bC b q n c s::L))(m1: ∀w (ls:List LT) (s':BS) (b5:OA) (b7:Nat) (U:List ai) (I:OA) (g E:Nat) (us:List Value) (RM KM:List ai),lsA ls->s.same s'->SlS b5 b7 (ls.map cv) U->NDs (inT (ft ls)) us KM->Sl 10 ae I g E us RM->g<=30->Sat σ w (U++(RM++(KM++(bC b q n c s'::L))))->R (hQ (.tuple #[hT b5 (ls.map cv).length b7,(({kind:=6}:NH).nd none 0 I g E).V])) w):
 callE P dI #[kT (kE b)] R w:=by
 have n0:i64.max=9223372036854775807:=rfl;refine bX.sound ?_;refine Sat.bx h λb1 w h=>?_
 refine Sat.bx h λO w h=>?_
 have h:Sat σ w ((O,cel (N10.C {}).toList ae)::(b1,cel (N10.C {}).toList ae)::bC b q n c s::L):=h
 refine h.st10 0 {} {a0:=6} λw h=>?_
 have h:Sat σ w ((O,cel (N10.C {a0:=6}).toList ae)::(b1,cel (N10.C {}).toList ae)::bC b q n c s::L):=h
 have h:Sat σ w (bC b q n c s::((O,cel (N10.C {a0:=6}).toList ae)::(b1,cel (N10.C {}).toList ae)::L)):=h.re
 refine fg (k:=3) (g6.up λw h=>h.less [(O,cel (N10.C {a0:=6}).toList ae),(b1,cel (N10.C {}).toList ae)]) (by omega) (by omega) h λw m h4 g3 i8 h=>⟨_,rfl,?_⟩
 have m2:i64.wrap (1+((m:Nat):Int))=((m+1:Nat):Int):=by
  rw[i64_in _ (by omega)];omega
 rw[m2];intro X g5;have h9: ∀k (ls:List LT) (b5:OA) (b7:Nat) (U:List ai) (I:OA) (g E:Nat) (us:List Value) (RM KM:List ai) (s':BS) (w:World),ls.length+k=m+1->(∀x∈ls,lnA x)->s.same s'->SlS b5 b7 (ls.map cv) U->NDs (inT (ft ls)) us KM->Sl 10 ae I g E us RM->g<=10*ls.length->
  Sat σ w ((O,cel (({kind:=6}:NH).nd none 0 I g E).C.toList ae)::(b1,cel (N10.C {}).toList ae)::(U++(RM++(KM++(bC b q n c s'::L)))))->X (kE b) b1 O b5 (ls.map cv).length b7 ((m+1:Nat):Int) (ls.length:Nat) w:=by
  intro k
  induction k with
  |zero=>
   intro ls b5 b7 U I g E us RM KM s' w h5 e0 f5 f4 a7 b4 d2 h;refine g5 _ _ _ _ _ _ _ _ _ (af (by simp;omega) ?_);refine h.tk λw h=>?_
   refine h.ldB10 _ (.head _) ?_;refine h.st10 1 {} (({kind:=6}:NH).nd none 0 I g E) λw h=>?_
   have h:Sat σ w ((O,cel (({kind:=6}:NH).nd none 0 I g E).C.toList ae)::(b1,cel (({kind:=6}:NH).nd none 0 I g E).C.toList ae)::(U++(RM++(KM++(bC b q n c s'::L))))):=h
   refine h.ldB10 _ (.tail _ (.head _)) ?_;refine m1 w ls s' b5 b7 U I g E us RM KM ⟨?_,by omega,e0⟩ f5 f4 a7 b4 (by omega) (h.less [(O,cel (({kind:=6}:NH).nd none 0 I g E).C.toList ae),(b1,cel (({kind:=6}:NH).nd none 0 I g E).C.toList ae)])
   rintro rfl
   simp at h5
  |succ k m4=>
   intro ls b5 b7 U I g E us RM KM s' w h5 e0 f5 f4 a7 b4 d2 h;have i0:=Ce e0 (by omega);refine g5 _ _ _ _ _ _ _ _ _ (ag (by simp;omega) ?_);have h:Sat σ w (bC b q n c s'::((O,cel (({kind:=6}:NH).nd none 0 I g E).C.toList ae)::(b1,cel (N10.C {}).toList ae)::(U++(RM++(KM++L))))):=h.re
   refine wo (g6.up λw h=>h.less ((O,cel (({kind:=6}:NH).nd none 0 I g E).C.toList ae)::(b1,cel (N10.C {}).toList ae)::(U++(RM++KM)))) h λw x a6 lq ln lc b9 c5 e1 f3 l5 g1 f7 o2 h=>⟨_,_,_,_,rfl,?_⟩
   have rest: ∀(I:OA) (g E:Nat) (us:List Value) (RM KM:List ai) (w:World),NDs (tf ls) us KM->Sl 10 ae I g E us RM->g<=10*ls.length+1->
    Sat σ w ((O,cel (({kind:=6}:NH).nd none 0 I g E).C.toList ae)::(b1,cel (N10.C {}).toList ae)::(U++(RM++(KM++(c5++(e1++(bC b q n c a6::L)))))))->bX.k1 R X (kE b) b1 O b5 (ls.map cv).length b7 (bs (cv x)) lq ln lc ((m+1:Nat):Int) (ls.length:Nat) w:=by
    intro I g E us RM KM w a7 b4 d2 h;have o0:m8 (tf ls)<=2200:=by
     unfold tf;split
     ·exact lD2 _
     ·rw[pV];exact i0
    have n3:m8 (inT (d9 x))<=710:=by
     have i2:=vt (d9 x);have g4:(tkB (d9 x)).length<=710:=ju f3.ok.1 f3.2;omega
    have n2:=g1.len;have o4:=f7.1;have e8:(inT (d9 x)).length=ln:=by omega
    intro Y g7;have inner: ∀(c1 W:List ND) (v1 e4:List Value) (c4:List ai) (I:OA) (g E:Nat) (us:List Value) (RM KM:List ai) (w:World),W++c1=inT (d9 x)->v1++e4=b9->v1.length=W.length*10->NDs c1 e4 c4->NDs (cat (tf ls) W) us KM->Sl 10 ae I g E us RM->g<=10*ls.length+1+W.length->
     Sat σ w ((O,cel (({kind:=6}:NH).nd none 0 I g E).C.toList ae)::(b1,cel (N10.C {}).toList ae)::(U++(RM++(KM++(c5++(c4++(bC b q n c a6::L)))))))->Y (kE b) b1 O b5 (ls.map cv).length b7 (bs (cv x)) ((m+1:Nat):Int) (ls.length:Nat) lq ln lc (ln:Nat) (W.length:Nat) w:=by
     intro c1
     induction c1 with
     |nil=>
      intro W v1 e4 c4 I g E us RM KM w b8 hv f2 g0 a7 b4 d2 h;rw[lG0] at b8;refine g7 _ _ _ _ _ _ _ _ _ _ _ _ _ _ _ (af (by rw[b8,e8];simp) ?_);have h:Sat σ w (U++((O,cel (({kind:=6}:NH).nd none 0 I g E).C.toList ae)::(b1,cel (N10.C {}).toList ae)::(RM++(KM++(c5++(c4++(bC b q n c a6::L))))))):=h.re
      refine Sat.appS f4 h _ (by simp;omega) λm3 j1 w i4 g2 h=>?_
      have em:ls.map cv++ [cv x]=(ls++ [x]).map cv:=by simp
      rw[em] at g2⊢;rw[aL (by omega)];have c9:(ls++ [x]).length=ls.length+1:=by simp
      rw[<-c9];refine m4 (ls++ [x]) m3 j1 i4 I g E us RM KM a6 w (by simp;omega) (λz hz=>?_) (f5.trans l5) g2 ?_ b4 ?_ ?_
      ·rcases lP0.1 hz with hz|hz
       ·exact e0 z hz
       ·obtain rfl:=lN0.1 hz;exact f3
      ·rw[<-CF,<-b8];exact a7
      ·rw[b8,e8] at d2;rw[c9];omega
      ·exact h.less (c5++c4)
     |cons y c1 h7=>
      intro W v1 e4 c4 I g E us RM KM w b8 hv f2 g0 a7 b4 d2 h;have i1:=congrArg List.length b8;rw[lA0,lF0,e8] at i1;refine g7 _ _ _ _ _ _ _ _ _ _ _ _ _ _ _ (ag (by simp;omega) ⟨by omega,by omega,?_⟩);have h8:=f7;obtain⟨_,_,⟨rfl,hz,_,_⟩|⟨c3,sp,rfl,rfl,o3⟩⟩:=h8
      ·omega
      refine aa ?_;simp only[lL0,lC0,lO0];cases g0 with
      | @cons yh ks _ qa ca yq yn yc yvs yus YR YK _ a1 a2 a3 a4=>
      have m5:NodeDt (.mk yh ks) (yh.nd qa ca yq yn yc) (YR++YK):=⟨yh,ks,qa,ca,yq,yn,yc,yvs,YR,YK,rfl,rfl,rfl,a1,a2,a3⟩;rename_i c8;have g3:(c3,cel (v1++((yh.nd qa ca yq yn yc).C.toList++(yus++sp))) ae)∈((O,cel (({kind:=6}:NH).nd none 0 I g E).C.toList ae)::(b1,cel (N10.C {}).toList ae)::(U++(RM++(KM++([(c3,cel (b9++sp) ae)]++(((YR++YK)++c8)++(bC b q n c a6::L))))))):=by
       have e:v1++((yh.nd qa ca yq yn yc).C.toList++(yus++sp))=b9++sp:=by rw[<-hv];simp only[lD0]
       rw[e];simp
      refine Sat.ldA10 h (yh.nd qa ca yq yn yc) (b:=c3) (pre:=v1) (suf:=yus++sp) (e:=ae) g3 f2 ?_;refine Sat.bx h λf6 w h=>?_
      have h:Sat σ w ((f6,cel (N10.C {}).toList ae)::(O,cel (({kind:=6}:NH).nd none 0 I g E).C.toList ae)::(b1,cel (N10.C {}).toList ae)::(U++(RM++(KM++([(c3,cel (b9++sp) ae)]++(((YR++YK)++c8)++(bC b q n c a6::L))))))):=h
      refine h.st10 0 {} (yh.nd qa ca yq yn yc) λw h=>?_
      have h:Sat σ w ((f6,cel (yh.nd qa ca yq yn yc).C.toList ae)::(O,cel (({kind:=6}:NH).nd none 0 I g E).C.toList ae)::(b1,cel (N10.C {}).toList ae)::(U++(RM++(KM++([(c3,cel (b9++sp) ae)]++(((YR++YK)++c8)++(bC b q n c a6::L))))))):=h
      refine⟨I,g,E,Sat.ld h (.tail _ (.head _)) (i:=7) rfl,?_⟩;refine h.ldB10 _ (.head _) ?_;have n1:m8 (cat (tf ls) W)+yh.text.length<=3000:=by
       have i2:=vu W (tf ls);have g4:=congrArg m8 b8;rw[jD] at g4;have p1:m8 (ND.mk yh ks::c1)=yh.text.length+m8 c1:=rfl
       omega
      have h:Sat σ w (RM++(KM++((YR++YK)++((O,cel (({kind:=6}:NH).nd none 0 I g E).C.toList ae)::(b1,cel (N10.C {}).toList ae)::(U++([(c3,cel (b9++sp) ae)]++(c8++(bC b q n c a6::L)))))))):=h.less [(f6,cel (yh.nd qa ca yq yn yc).C.toList ae)]
      refine nA a7 b4 m5 (by omega) (by show _+yh.text.length<_;omega) h λw e5 e6 e9 f1 d3 d0 h6 e7 f0 h=>⟨_,_,_,rfl,?_⟩
      have h:Sat σ w ((O,cel (({kind:=6}:NH).nd none 0 I g E).C.toList ae)::(b1,cel (N10.C {}).toList ae)::(U++(d3++(d0++([(c3,cel (b9++sp) ae)]++(c8++(bC b q n c a6::L))))))):=h.re
      refine Sat.st h (k:=0) rfl (by show 7<10;decide) trivial rfl λw h=>?_
      rw[aL (by omega)];have c9:(W++ [ND.mk yh ks]).length=W.length+1:=by simp
      rw[<-c9];refine h7 (W++ [.mk yh ks]) (v1++(yh.nd qa ca yq yn yc).C.toList) yus c8 e5 e6 e9 f1 d3 d0 w (by rw[<-b8];simp) (by rw[<-hv];simp only[lD0]) ?_ a4 ?_ f0 ?_ h
      ·rw[lA0,f2,c9,lR3];rfl
      ·rw[mo];exact e7
      ·rw[c9];omega
    exact inner (inT (d9 x)) [] [] b9 e1 I g E us RM KM w rfl rfl rfl g1 a7 b4 (by simp;omega) h
   by_cases d1:ls= []
   ·have j0:tf ls= []:=by unfold tf;rw[if_pos d1]
    refine af (by rw[d1];rfl) (rest I g E us RM KM w ?_ b4 (by omega) h.re);rw[j0];rw[d1] at a7;exact a7
   ·have m6:0<ls.length:=lZ0.2 d1;refine ag (by simp;omega) ?_;refine⟨I,g,E,Sat.ld h (lB0 _ (lB0 _ (.tail _ (.head _)))) (i:=7) rfl,?_⟩;have h:Sat σ w (RM++(KM++([]++((O,cel (({kind:=6}:NH).nd none 0 I g E).C.toList ae)::(b1,cel (N10.C {}).toList ae)::(U++(c5++(e1++(bC b q n c a6::L)))))))):=h.re
    refine nA (x:=tkN .nl) (u:= {a0:=21}) a7 b4 (NodeDt.leaf (h:= {kind:=21})) (by omega) (by show _+0<_;omega) h λw e5 e6 e9 f1 d3 d0 h6 e7 f0 h=>⟨_,_,_,rfl,?_⟩
    have h:Sat σ w ((O,cel (({kind:=6}:NH).nd none 0 I g E).C.toList ae)::(b1,cel (N10.C {}).toList ae)::(U++(d3++(d0++(c5++(e1++(bC b q n c a6::L))))))):=h.re
    refine Sat.st h (k:=0) rfl (by show 7<10;decide) trivial rfl λw h=>?_
    exact rest e5 e6 e9 f1 d3 d0 w (by unfold tf;rw[if_neg d1];exact e7) f0 (by omega) h
 have h:Sat σ w (bC b q n c h4::((O,cel (({kind:=6}:NH).nd none 0 none 0 0).C.toList ae)::(b1,cel (N10.C {}).toList ae)::L)):=h
 have i3:=h9 (m+1) [] none 0 [] none 0 0 [] [] [] h4 w (by simp) (λz hz=>by cases hz) i8 SlS.nil .nil (Sl.nil 10 ae) (by simp) h.re;exact i3

mutual
def flB (quo:Bool):BN->Prop
 | .setx _ ls=>ls.length=1
 | .code w _=>w= []
 | .quote bs=>flS true bs
 | .list _ _ gap its=>(quo=true->gap=false/\its.all (λit=>it.length==1)=true)/\flJ quo its
 |_=>True
def flS (quo:Bool):List BN->Prop
 | []=>True
 |b::r=>flB quo b/\flS quo r
def flJ (quo:Bool):List (List BN)->Prop
 | []=>True
 |it::r=>(∃ls t,it= .para ls::t)/\flS quo it/\flJ quo r
end
theorem Ax {g:Bool}: ∀(l:List BN) (b:BN),flS g l->flB g b->flS g (l++ [b])
 | [],b,_,h=>⟨h,trivial⟩
 |x::l,b,h,hb=>⟨h.1,Ax l b h.2 hb⟩
theorem wg {g:Bool}: ∀(l:List (List BN)) (it:List BN),flJ g l->(∃ls t,it= .para ls::t)->flS g it->flJ g (l++ [it])
 | [],it,_,h1,h2=>⟨h1,h2,trivial⟩
 |x::l,it,h,h1,h2=>⟨h.1,h.2.1,wg l it h.2.2 h1 h2⟩
def BS.kp (s s':BS):Prop:=s'.flat=s.flat/\s'.deep=s.deep
theorem BS.kp.trans {a b c:BS}(g:a.kp b)(y:b.kp c):a.kp c:=⟨y.1.trans g.1,y.2.trans g.2⟩
theorem BS.same.kp {a b:BS}(h:a.same b):a.kp b:=⟨h.2.1,h.2.2⟩
def BS.dp (s:BS)(d:Nat):Prop:=0<=s.deep/\s.deep+(d:Int)<=100
theorem BS.kp.dp {a b:BS}{d:Nat}(h:a.kp b)(hd:a.dp d):b.dp d:=by unfold BS.dp;rw[h.2];exact hd
abbrev BS.fq (s:BS):Bool:=decide (0<s.deep)
def NdOf (bn:BN)(h:NH)(g:List ND):Prop:=h.s=0/\h.e=0/\ ∀f,1<=f->mV f bn= .mk {h with s:=f,e:=f+(bg bn).length - 1} g
structure Made (d:Nat) (odd:Bool) (s:BS) (bn:BN):Prop where
 ab:abB bn
 sm:smB d bn
 kd:kdOK odd bn
 fl:s.flat=true->flB s.fq bn
structure FA (d most:Nat) (s:BS) (l:List BN):Prop where
 ab:abS l
 ne:l≠ []
 len:l.length<=most
 sm:smS d l
 fl:s.flat=true->flS s.fq l
def yH (d:Nat):Prop:= ∀ {σ:Out} {w:World} {L:List ai} {R:Ending->World->Prop} {b:Nat} {q:OA} {n c:Nat} {vs:List UInt8} {s:BS} (odd:Bool),Rd σ L q n vs->s.dp d->Sat σ w (bC b q n c s::L)->
 (∀w (bn:BN) (s':BS) (U:OA) (E:Nat) (I:List ai) (h:NH) (O:List ND) (W:OA) (g y:Nat) (us:List Value) (RM KM:List ai),Made d odd s bn->s.kp s'->SlS U E (bg bn) I->NdOf bn h O->NDs O us KM->Sl 10 ae W g y us RM->g<=100->Sat σ w (I++(RM++(KM++(bC b q n c s'::L))))->R (hQ (.tuple #[hT U (bg bn).length E,(h.nd none 0 W g y).V])) w)->
 callE P fz #[kT (kE b),hY (d:Nat),hV odd] R w
def zU (d most:Nat):Prop:= ∀ {σ:Out} {w:World} {L:List ai} {R:Ending->World->Prop} {b:Nat} {q:OA} {n c:Nat} {vs:List UInt8} {s:BS},Rd σ L q n vs->s.dp d->Sat σ w (bC b q n c s::L)->
 (∀w (l:List BN) (s':BS) (I:OA) (y:Nat) (E:List ai) (O:OA) (g:Nat) (us:List Value) (RM KM:List ai),FA d most s l->s.kp s'->SlS I y (aw l).tail E->NDs (kQ 1 l) us KM->Sl 10 ae O l.length g us RM->Sat σ w (E++(RM++(KM++(bC b q n c s'::L))))->R (hQ (.tuple #[hT I (aw l).tail.length y,hT O l.length g])) w)->
 callE P d5 #[kT (kE b),hY (d:Nat),hY (most:Nat)] R w
theorem Fz {d:Nat}(hd:d<=3):NBd d<=323:=by
 rcases (show d=0\/d=1\/d=2\/d=3 by omega) with rfl|rfl|rfl|rfl<;>decide
theorem uP {d:Nat}{bn:BN}(hd:d<=3)(E:abB bn)(hs:smB d bn):(bg bn).length<=323/\(∀s∈bg bn,s.length<=740)/\bg bn≠ []:=by
 obtain⟨y,I⟩:=BO.1 bn E;obtain⟨U,O⟩:=pF.1 bn y d hs;have g:=ye.1 bn y I;exact⟨by have:=Fz hd;omega,λs hs=>by have:=(g.ch s hs).2;omega,g.ne⟩
theorem tC {d:Nat}{l:List BN}(hd:d<=3)(I:abS l)(hs:smS d l)(E:l≠ [])(U:l.length<=4):(aw l).tail.length<=1300/\(∀s∈(aw l).tail,s.length<=740)/\(aw l).tail≠ []:=by
 obtain⟨y,O⟩:=BO.2.1 l I;obtain⟨a6,V⟩:=pF.2.1 l y d hs;have g:=ye.2.1 l y O E;have W:=Fz hd;have a7:=lO5 U (show NBd d+1<=324 by omega);exact⟨by rw[lR2];omega,λs hs=>by have:=(g.ch s hs).2;omega,g.ne⟩
def BR (l:List BN):List (List UInt8):=if l= [] then [] else (aw l).tail++ [[]]
theorem EO (l:List BN):(BR l).length=(aw l).length:=by
 unfold BR;cases l with
 |nil=>rfl
 |cons b r=>
  rw[if_neg (by simp)];simp[aw];omega
theorem uJ (l:List BN)(b:BN):BR l++bg b=(aw (l++ [b])).tail:=by
 unfold BR;cases l with
 |nil=>
  show []++bg b=bg b++ []
  simp
 |cons x r=>
  rw[if_neg (by simp),tD];simp[aw]
theorem tZ {d most:Nat}(hd:d<=3)(h1:1<=most)(m4:most<=4)(hb:yH d):zU d most:=by
 intro σ w L R b q n c vs s f5 g1 h k0;have m3:i64.max=9223372036854775807:=rfl;refine bS.sound ?_;refine fg f5 h1 (by omega) h λw m i0 n3 i8 h=>⟨_,rfl,?_⟩
 have h4:i64.wrap (1+((m:Nat):Int))=((m+1:Nat):Int):=by
  rw[i64_in _ (by omega)];omega
 rw[h4];intro X f2;have g2: ∀k (l:List BN) (W:OA) (U:Nat) (g:List ai) (c1:OA) (b8:Nat) (us:List Value) (RM KM:List ai) (s':BS) (w:World),l.length+k=m+1->alt false l->(∀b∈l,abB b)->smS d l->(s.flat=true->flS s.fq l)->s.kp s'->SlS W U (aw l).tail g->NDs (kQ 1 l) us KM->Sl 10 ae c1 l.length b8 us RM->
  Sat σ w (g++(RM++(KM++(bC b q n c s'::L))))->X (kE b) (d:Nat) W (aw l).tail.length U c1 l.length b8 ((m+1:Nat):Int) (l.length:Nat) w:=by
  intro k
  induction k with
  |zero=>
   intro l W U g c1 b8 us RM KM s' w f6 d0 d2 c9 e3 b7 b4 e7 f0 h;refine f2 _ _ _ _ _ _ _ _ _ _ _ (af (by simp;omega) ?_);exact k0 w l s' W U g c1 b8 us RM KM ⟨zQ l false d0 d2,by rintro rfl;simp at f6,by omega,c9,e3⟩ b7 b4 e7 f0 h
  |succ k j0=>
   intro l W U g c1 b8 us RM KM s' w f6 d0 d2 c9 e3 b7 b4 e7 f0 h;have g7:=BO.2.1 l (zQ l false d0 d2);have n0:(aw l).length<=1300:=by
    obtain⟨n2,_⟩:=pF.2.1 l g7.1 d c9;have o0:=Fz hd;have m6:=lO5 (show l.length<=4 by omega) (show NBd d+1<=324 by omega);omega
   refine f2 _ _ _ _ _ _ _ _ _ _ _ (ag (by simp;omega) ⟨by decide,?_⟩);have i4:((Int.tmod ((l.length:Nat):Int) 2)==1)=FR l.length:=by
    rw[show Int.tmod ((l.length:Nat):Int) 2=((l.length%2:Nat):Int) from rfl]
    show (((l.length%2:Nat):Int)==((1:Nat):Int))=_
    rw[iy];unfold FR
    by_cases h0:l.length%2=1<;>simp[h0]
   rw[i4];have h:Sat σ w (bC b q n c s'::(g++(RM++(KM++L)))):=h.re
   refine hb (FR l.length) (f5.up λw h=>h.less (g++(RM++KM))) (b7.dp g1) h λw bn b3 h6 h9 b6 a6 i3 k2 y I f7 E O b9 j1 g5 h5 g0 g4 m5 h=>⟨_,_,_,_,_,_,_,_,_,_,_,_,_,_,_,_,_,rfl,?_⟩
   obtain⟨bl1,bl2,bl3⟩:=uP hd b9.ab b9.sm;refine Sat.bx h λa7 w h=>?_
   have h:Sat σ w ((a7,cel (N10.C {}).toList ae)::(b6++(E++(O++(bC b q n c b3::(g++(RM++(KM++L)))))))):=h
   refine h.st10 0 {} (a6.nd none 0 k2 y I) λw h=>?_
   have h:Sat σ w ((a7,cel (a6.nd none 0 k2 y I).C.toList ae)::(b6++(E++(O++(bC b q n c b3::(g++(RM++(KM++L)))))))):=h
   have rest: ∀(W:OA) (U:Nat) (g:List ai) (w:World),SlS W U (BR l) g->Sat σ w ((a7,cel (a6.nd none 0 k2 y I).C.toList ae)::(b6++(E++(O++(bC b q n c b3::(g++(RM++(KM++L))))))))->
    bS.k1 R X (kE b) (d:Nat) W (BR l).length U c1 l.length b8 h6 (bg bn).length h9 a7 ((m+1:Nat):Int) (l.length:Nat) w:=by
    intro W U g w b4 h;have f1:=EO l;have i1:i64.wrap (((BR l).length:Int)+1)=(((aw l).length+1:Nat):Int):=by rw[f1,aL (by omega)]
    have i2:i64.wrap (((BR l).length:Int)+((bg bn).length:Int))=(((aw l).length+1+(bg bn).length - 1:Nat):Int):=by
     rw[f1,i64_in _ (by omega)];omega
    unfold bS.k1;rw[i1,i2];refine Sat.st h (k:=0) rfl (by show 8<10;decide) trivial rfl λw h=>?_
    refine Sat.st h (k:=0) rfl (by show 9<10;decide) trivial rfl λw h=>?_
    have h:Sat σ w ((a7,cel (({a6 with s:=(aw l).length+1,e:=(aw l).length+1+(bg bn).length - 1}:NH).nd none 0 k2 y I).C.toList ae)::(b6++(E++(O++(bC b q n c b3::(g++(RM++(KM++L)))))))):=h
    have f3:NodeDt (mV (1+(aw l).length) bn) (({a6 with s:=(aw l).length+1,e:=(aw l).length+1+(bg bn).length - 1}:NH).nd none 0 k2 y I) (E++O):=by
     rw[lH4 1,h5.2.2 _ (by omega)];exact⟨_,i3,none,0,k2,y,I,f7,E,O,rfl,rfl,rfl,by omega,g0,g4⟩
    have h:Sat σ w (g++(b6++((a7,cel (({a6 with s:=(aw l).length+1,e:=(aw l).length+1+(bg bn).length - 1}:NH).nd none 0 k2 y I).C.toList ae)::(E++(O++(bC b q n c b3::(RM++(KM++L)))))))):=h.re
    refine Sat.appL b4 g5 h bl3 (by omega) λe4 e6 w d1 c8 h=>?_
    refine h.ldB10 _ (lB0 _ (.head _)) ?_;have h:Sat σ w (RM++(d1++((a7,cel (({a6 with s:=(aw l).length+1,e:=(aw l).length+1+(bg bn).length - 1}:NH).nd none 0 k2 y I).C.toList ae)::(E++(O++(bC b q n c b3::(KM++L))))))):=h.re
    generalize n1:({a6 with s:=(aw l).length+1,e:=(aw l).length+1+(bg bn).length - 1}:NH).nd none 0 k2 y I=u at h f3⊢;refine Sat.app1 rowND f0 h (v:=u.V) rfl (ET u) (Ay u) (by omega) (by omega) (by decide) λl5 h2 w g3 g6 h=>?_
    have e5:(l++ [bn]).length=l.length+1:=by simp
    rw[uJ,aL (by omega),<-e5];rw[uJ] at c8;refine j0 (l++ [bn]) e4 e6 d1 l5 h2 _ g3 (KM++(E++O)) b3 w (by rw[e5];omega) (AK l false bn d0 (by simpa using b9.kd)) (λz hz=>?_) (Aa l d bn c9 b9.sm) (λf4=>Ax l bn (e3 f4) ?_) (b7.trans j1) c8 ?_ (by rw[e5];exact g6) ?_
    ·rcases lP0.1 hz with hz|hz
     ·exact d2 z hz
     ·obtain rfl:=lN0.1 hz;exact b9.ab
    ·have:=b9.fl (by rw[b7.1];exact f4);unfold BS.fq at this⊢;rw[b7.2] at this;exact this
    ·rw[xG];exact e7.append f3.one
    ·exact h.less [(a7,cel u.C.toList ae)]
   by_cases c5:l= []
   ·have d3:BR l= []:=by unfold BR;rw[if_pos c5]
    have ht:(aw l).tail= []:=by rw[c5];rfl
    have:=rest W U g w (by rw[d3];rw[ht] at b4;exact b4) h;refine af (by rw[c5];rfl) ?_;rw[d3] at this;rw[ht];exact this
   ·have m2:0<l.length:=lZ0.2 c5;have d3:BR l=(aw l).tail++ [[]]:=by unfold BR;rw[if_neg c5]
    refine ag (by simp;omega) ?_;have m1:(hP #[])=bs []:=rfl;rw[m1];have h:Sat σ w (g++((a7,cel (a6.nd none 0 k2 y I).C.toList ae)::(b6++(E++(O++(bC b q n c b3::(RM++(KM++L)))))))):=h.re
    refine Sat.appS b4 h [] (by rw[lR2];omega) λe4 e6 w d1 c8 h=>?_
    rw[<-d3] at c8⊢;exact rest e4 e6 d1 w c8 h.re
 exact g2 (m+1) [] none 0 [] none 0 [] [] [] i0 w (by simp) trivial (λz hz=>by cases hz) trivial (λ_=>trivial) i8.kp SlS.nil .nil (Sl.nil 10 ae) h

def Io (d:Nat):Prop:= ∀ {σ:Out} {w:World} {L:List ai} {R:Ending->World->Prop} {b:Nat} {q:OA} {n c:Nat} {vs:List UInt8} {s:BS} (odd:Bool),Rd σ L q n vs->s.dp d->Sat σ w (bC b q n c s::L)->
 (∀w (bn:BN) (s':BS) (U:OA) (E:Nat) (I:List ai) (h:NH) (O:List ND) (W:OA) (g y:Nat) (us:List Value) (RM KM:List ai),Made (d+1) odd s bn->s.kp s'->SlS U E (bg bn) I->NdOf bn h O->NDs O us KM->Sl 10 ae W g y us RM->g<=100->Sat σ w (I++(RM++(KM++(bC b q n c s'::L))))->R (hQ (.tuple #[hT U (bg bn).length E,(h.nd none 0 W g y).V])) w)->
 callE P i7 #[kT (kE b),hY (d:Nat),hV odd] R w
theorem we (n:Nat)(c:UInt8):(hN n [c]).flatten=hN n c:=by
 induction n with
 |zero=>rfl
 |succ n g=>rw[lA2,lM3,g];rfl
theorem Dp {x:Int}(h0:0<=x)(g:x<=200):i64.wrap x=x:=by
 obtain⟨k,rfl⟩: ∃k:Nat,x=(k:Int):=⟨x.toNat,by omega⟩
 exact i64_in _ (by omega)
theorem Fm {d:Nat}(hd:d<=3)(s8:1<=d->zU (d - 1) 3)(o2:1<=d->Io (d - 1)):yH d:=by
 intro σ w L R b q n c vs s odd l5 g3 h t0;have h8:i64.max=9223372036854775807:=rfl;refine aY.sound ?_;refine Sat.bx h λb1 w h=>?_
 have h:Sat σ w ((b1,cel (N10.C {}).toList ae)::bC b q n c s::L):=h
 have h:Sat σ w (bC b q n c s::(b1,cel (N10.C {}).toList ae)::L):=h.re
 have d3:Rd σ ((b1,cel (N10.C {}).toList ae)::L) q n vs:=l5.up λw h=>h.less [(b1,cel (N10.C {}).toList ae)]
 refine aa ⟨_,Sat.ld h (.head _) (i:=2) rfl,aa ?_⟩;refine Sat.st h (k:=0) rfl (by show 2<5;decide) trivial rfl λw h=>?_
 have h:Sat σ w (bC b q n c {s with size:=i64.wrap (s.size+1)}::(b1,cel (N10.C {}).toList ae)::L):=h
 have i4:s.kp {s with size:=i64.wrap (s.size+1)}:=⟨rfl,rfl⟩
 revert h i4;generalize ({s with size:=i64.wrap (s.size+1)}:BS)=s1;intro h i4;refine fg (k:=9) d3 (by omega) (by omega) h λw r a7 hr r8 h=>⟨_,rfl,?_⟩
 have a6:s.kp a7:=i4.trans r8.kp;refine aa ⟨_,Sat.ld h (.head _) (i:=2) rfl,?_⟩;have fin: ∀(w:World) (bn:BN) (s':BS) (b4:OA) (b3:Nat) (I:List ai) (e5:NH) (f4:List ND) (E:OA) (O g:Nat) (us:List Value) (RM KM:List ai) (k0:N10) (X:List ai),Made d odd s bn->s.kp s'->SlS b4 b3 (bg bn) I->NdOf bn e5 f4->NDs f4 us KM->Sl 10 ae E O g us RM->O<=100->
  Sat σ w ((b1,cel k0.C.toList ae)::(X++(I++(RM++(KM++(bC b q n c s'::L))))))->st10 w b1 (e5.nd none 0 E O g) λw=>ldB10 w b1 λm=>R (hQ (.tuple #[hT b4 (bg bn).length b3,m.V])) w:=by
  intro w bn s' b4 b3 I e5 f4 E O g us RM KM k0 X W h7 b5 g5 c8 d0 e9 h;refine h.st10 0 k0 (e5.nd none 0 E O g) λw h=>?_
  have h:Sat σ w ((b1,cel (e5.nd none 0 E O g).C.toList ae)::(X++(I++(RM++(KM++(bC b q n c s'::L)))))):=h
  refine h.ldB10 _ (.head _) ?_;exact t0 w bn s' b4 b3 I e5 f4 E O g us RM KM W h7 b5 g5 c8 d0 e9 (h.less ((b1,cel (e5.nd none 0 E O g).C.toList ae)::X))
 have g1: ∀bn,bcB bn=none->kdOK odd bn:=λbn h c hc=>by rw[h] at hc;cases hc
 have para: ∀(w:World) (a7:BS),s.kp a7->Sat σ w (bC b q n c a7::(b1,cel (N10.C {}).toList ae)::L)->aY.k4 R (kE b) (d:Nat) odd b1 false w:=by
  intro w a7 a6 h;refine af rfl ?_;refine qu d3 h λw ls U b4 b3 I E O g us RM KM f0 c1 b5 c8 d0 e9 h=>⟨_,_,_,_,_,_,_,_,_,_,_,_,_,_,_,_,_,rfl,?_⟩
  refine fin w (.para ls) U b4 b3 I {kind:=6} _ E O g us RM KM {} [] ⟨f0,by simp only[smB],g1 _ rfl,λ_=>trivial⟩ (a6.trans c1.kp) b5 ⟨rfl,rfl,λf b9=>?_⟩ c8 d0 (by omega) h.re;rw[mV];have:(bg (.para ls)).length=ls.length:=by simp[bg]
  rw[this]
 have m2: ∀(w:World) (U:BS) (ls:List LT) (b4:OA) (b3:Nat) (I:List ai) (b8:Nat) (h0:NH) (E:OA) (O g:Nat) (us:List Value) (RM KM X:List ai),lsA ls->(s.flat=true->ls.length=1)->s.kp U->SlS b4 b3 (ls.map cv) I->NDs (inT (ft ls)) us KM->Sl 10 ae E O g us RM->O<=30->h0= {kind:=6}\/h0= {kind:=0}->
  Sat σ w (bC b q n c U::(b8,cel (h0.nd none 0 E O g).C.toList ae)::(b1,cel (N10.C {}).toList ae)::(I++(RM++(KM++(X++L)))))->aY.k3 R (kE b) b1 b4 (ls.map cv).length b3 b8 w:=by
  intro w U ls b4 b3 I b8 h0 E O g us RM KM X f0 e7 d1 b5 c8 d0 e9 r5 h;refine fg (k:=2) (l5.up λw h=>h.less ((b8,cel (h0.nd none 0 E O g).C.toList ae)::(b1,cel (N10.C {}).toList ae)::(I++(RM++(KM++X))))) (by omega) (by omega) h λw r b7 hr f1 h=>⟨_,rfl,?_⟩
  have m1:i64.wrap (1+((r:Nat):Int))=((r+1:Nat):Int):=by
   rw[i64_in _ (by omega)];omega
  rw[m1];have h:Sat σ w ((b8,cel (h0.nd none 0 E O g).C.toList ae)::(b1,cel (N10.C {}).toList ae)::(I++(RM++(KM++(bC b q n c b7::(X++L)))))):=h.re
  refine Sat.st h (k:=0) rfl (by show 0<10;decide) trivial rfl λw h=>?_
  refine Sat.st h (k:=0) rfl (by show 3<10;decide) trivial rfl λw h=>h.tk λw h=>?_
  have h:Sat σ w ((b8,cel (({kind:=5,num:=((r+1:Nat):Int)}:NH).nd none 0 E O g).C.toList ae)::(b1,cel (N10.C {}).toList ae)::(I++(RM++(KM++(bC b q n c b7::(X++L)))))):=by
   rcases r5 with rfl|rfl<;>exact h
  refine⟨((r+1:Nat):Int),Sat.ld h (.head _) (i:=3) rfl,((r+1:Nat):Int),Sat.ld h (.head _) (i:=3) rfl,?_⟩;have f7:i64.wrap (((r+1:Nat):Int) - 1)=(r:Nat):=by rw[gR (by omega) (by omega)];congr 1
  have e6:(hP #[61,45])=bs [61,45]:=rfl;rw[f7,e6];refine⟨by omega,by omega,by show ((r+1:Nat):Int)<=2;omega,?_⟩;refine h.ldB10 _ (.head _) ?_;rw[lC0,lC0,bV];obtain⟨ch,r1,p4,r7⟩: ∃ch:UInt8,(ch=61\/ch=45)/\sub [61,45] r (r+1)= [ch]/\BV ch=r+1:=by
   rcases (show r=0\/r=1 by omega) with rfl|rfl
   ·exact⟨61,.inl rfl,rfl,rfl⟩
   ·exact⟨45,.inr rfl,rfl,rfl⟩
  have c1:List.drop r (List.take (r+1) [(61:UInt8),45])= [ch]:=p4
  rw[c1];refine sE (s:= [ch]) (n:=3) (by omega) (by simp) ⟨_,rfl,?_⟩;rw[we];refine⟨h.same h (.head _) (.head _) 10,?_⟩;have t8:(ls.map cv).length<1000000:=by have:=f0.2.1;simp;omega
  generalize s5:(b8,cel (({kind:=5,num:=((r+1:Nat):Int)}:NH).nd none 0 E O g).C.toList ae)=ch6 at h;refine h.buildS _ λf2 f3 s7 d2 c9 n2=>?_
  have i1: ∀Y:List ai,(b8,cel (({kind:=5,num:=((r+1:Nat):Int)}:NH).nd none 0 E O g).C.toList ae)∈ch6::Y:=λY=>by rw[s5];exact .head _
  refine⟨h.same n2 (i1 _) (lB0 _ (i1 _)) 10,?_⟩;have n3:Sat σ s7 (I++(d2++(ch6::(b1,cel (N10.C {}).toList ae)::(RM++(KM++(bC b q n c b7::(X++L))))))):=n2.re
  refine Sat.appL b5 c9 n3 (by simp) (by have u4:=f0.2.1;simp only[lQ0,lF0,lM1];omega) λp3 n1 t5 o3 h9 o4=>?_
  refine⟨n3.same o4 (lB0 _ (lB0 _ (i1 _))) (lB0 _ (i1 _)) 10,?_⟩;have em:ls.map cv++ [hN 3 ch]=bg (.setx ch ls):=rfl;rw[em] at h9⊢;refine fin t5 (.setx ch ls) b7 p3 n1 o3 {kind:=5,num:=((r+1:Nat):Int)} _ E O g us RM KM {} (ch6::X) ⟨⟨r1,f0⟩,by simp only[smB],g1 _ rfl,e7⟩ (d1.trans f1.kp) h9 ⟨rfl,rfl,λf b9=>?_⟩ c8 d0 (by omega) o4.re;rw[mV,r7];have:(bg (.setx ch ls)).length=ls.length+1:=by simp[bg]
  rw[this];rfl
 have code: ∀(w:World) (U:BS) (wd:List UInt8),(wd= []\/Wa wd)->(s.flat=true->wd= [])->s.kp U->Sat σ w (bC b q n c U::(b1,cel (N10.C {}).toList ae)::L)->aY.k2 R (kE b) b1 (bs wd) w:=by
  intro w U wd i0 e7 d1 h;have u1:wd.length<=4:=by
   rcases i0 with rfl|i0
   ·simp
   ·exact i0.2.2
  refine Ft d3 h λw ls b7 b4 b3 I n0 r4 f0 f1 b5 h=>⟨_,_,_,_,rfl,?_⟩
  have e6:(hP #[96,96,96])=bs [96,96,96]:=rfl;rw[e6,bG];refine⟨by rw[aF,aF,h8];simp;omega,?_⟩;refine h.buildS _ λf2 f3 w d2 c9 h=>?_
  refine Sat.appL c9 b5 h (by simpa using n0) (by simp;omega) λp3 n1 w o3 h9 h=>?_
  refine Sat.appS h9 h _ (by simp;omega) λt6 t7 w t2 m5 h=>?_
  have em: [[96,96,96]++wd]++ls.map rp++ [[96,96,96]]=bg (.code wd ls):=by simp[bg]
  rw[em] at m5⊢;refine fin w (.code wd ls) b7 t6 t7 t2 {kind:=7,title:=wd,text:=dK (ls.map rp)} [] none 0 0 [] [] [] {} [] ⟨⟨i0,n0,r4,f0⟩,by simp only[smB],g1 _ rfl,e7⟩ (d1.trans f1.kp) m5 ⟨rfl,rfl,λf b9=>?_⟩ .nil (Sl.nil 10 ae) (by omega) h.re;rw[mV];have:(bg (.code wd ls)).length=ls.length+2:=by simp[bg]
  rw[this];rfl
 have m3: ∀k:Nat,k<9->(6<=k->1<=d)->aY.k1 R (kE b) (d:Nat) odd b1 (k:Nat) w:=by
  intro k t9 i8;have f6: ∀d:Nat,k≠d->(((k:Nat):Int)==((d:Nat):Int))=false:=λd hd=>by rw[iy,decide_eq_false_iff_not];omega
  rcases (show k=2\/k=3\/k=4\/k=5\/k=6\/k=7\/k=8\/k<2 by omega) with rfl|rfl|rfl|rfl|rfl|rfl|rfl|h7
  ·refine ag rfl ?_;refine fg (k:=6) d3 (by omega) (by omega) h λw r U hr c1 h=>⟨_,rfl,?_⟩
   refine wo d3 h λw x b7 lq ln lc us RM KM f5 f1 c8 b5 r6 h=>⟨_,_,_,_,rfl,?_⟩
   have m1:i64.wrap (1+((r:Nat):Int))=((r+1:Nat):Int):=by
    rw[i64_in _ (by omega)];omega
   have e6:(hP #[35])=bs [35]:=rfl;have f7:(hP #[32])=bs [32]:=rfl;have u8:=ju f5.ok.1 f5.2;rw[m1,e6,f7];refine sE (s:= [35]) (n:=r+1) (by omega) (by simp) ⟨_,rfl,?_⟩;rw[we,bG,bG];refine⟨by rw[aF,aF,h8];simp;omega,by rw[aF,aF,h8];simp;omega,?_⟩;refine h.buildS _ λf2 f3 w d2 c9 h=>?_
   have em: [hN (r+1) 35++ [32]++cv x]=bg (.head (r+1) x):=by simp[bg]
   rw[em] at c9;refine fin w (.head (r+1) x) b7 f2 f3 d2 {kind:=5,num:=((r+1:Nat):Int)} _ lq ln lc us RM KM {} [] ⟨⟨⟨by omega,by omega⟩,f5⟩,by simp only[smB],g1 _ rfl,λ_=>trivial⟩ (a6.trans (c1.kp.trans f1.kp)) c9 ⟨rfl,rfl,λf b9=>?_⟩ c8 b5 (by omega) h.re;rw[mV];rfl
  ·refine af rfl (ag rfl ?_);have e6:(hP #[42,42,42])=bs [42,42,42]:=rfl;rw[e6];refine h.buildS _ λf2 f3 w d2 c9 h=>?_
   refine fin w .hr a7 f2 f3 d2 {kind:=9} [] none 0 0 [] [] [] {} [] ⟨trivial,by simp only[smB],g1 _ rfl,λ_=>trivial⟩ a6 c9 ⟨rfl,rfl,λf b9=>?_⟩ .nil (Sl.nil 10 ae) (by omega) h.re;rw[mV];rfl
  ·refine af rfl (af rfl (ag rfl ?_));refine fg (k:=2) d3 (by omega) (by omega) h λw r U hr c1 h=>⟨_,rfl,?_⟩
   have d1:=a6.trans c1.kp;have e6:(hP #[])=bs []:=rfl;rw[e6];refine bh (λ_=>?_) λ_=>code w U [] (.inl rfl) (λ_=>rfl) d1 h
   refine aa ⟨_,Sat.ld h (.head _) (i:=3) rfl,bh (λb9=>?_) λb9=>code w U [] (.inl rfl) (λ_=>rfl) d1 h⟩;have m4:U.flat=false:=by simpa using b9
   refine oQ d3 h λw y b7 r9 f1 h=>⟨_,rfl,?_⟩
   refine code w b7 y (.inr r9) (λe7=>?_) (d1.trans f1.kp) h;rw[d1.1,e7] at m4;cases m4
  ·refine af rfl (af rfl (af rfl (ag rfl ?_)));refine qu d3 h λw ls U b4 b3 I E O g us RM KM f0 c1 b5 c8 d0 e9 h=>⟨_,_,_,_,_,_,_,_,_,_,_,_,_,_,_,_,_,rfl,?_⟩
   have d1:=a6.trans c1.kp;refine Sat.bx h λb8 w h=>?_
   have h:Sat σ w ((b8,cel (N10.C {}).toList ae)::(I++(RM++(KM++(bC b q n c U::(b1,cel (N10.C {}).toList ae)::L))))):=h
   refine h.st10 0 {} (({kind:=6}:NH).nd none 0 E O g) λw h=>?_
   have h:Sat σ w ((b8,cel (({kind:=6}:NH).nd none 0 E O g).C.toList ae)::(I++(RM++(KM++(bC b q n c U::(b1,cel (N10.C {}).toList ae)::L))))):=h
   have h:Sat σ w (bC b q n c U::(b8,cel (({kind:=6}:NH).nd none 0 E O g).C.toList ae)::(b1,cel (N10.C {}).toList ae)::(I++(RM++(KM++([]++L))))):=h.re
   refine aa ⟨_,Sat.ld h (.head _) (i:=3) rfl,bh (λb9=>?_) λb9=>?_⟩
   ·refine wo (l5.up λw h=>h.less ((b8,cel (({kind:=6}:NH).nd none 0 E O g).C.toList ae)::(b1,cel (N10.C {}).toList ae)::(I++(RM++KM)))) h λw x b7 lq ln lc r3 j1 i3 f5 f1 q1 g2 r6 h=>⟨_,_,_,_,rfl,?_⟩
    refine h.buildS _ λf2 f3 w d2 c9 h=>?_
    have h:Sat σ w ((b8,cel (({kind:=6}:NH).nd none 0 E O g).C.toList ae)::bC b q n c b7::(b1,cel (N10.C {}).toList ae)::(d2++(j1++(i3++((I++(RM++KM))++L))))):=h.re
    refine h.st10 0 (({kind:=6}:NH).nd none 0 E O g) {q7:=lq,n7:=ln,c7:=lc} λw h=>?_
    have h:Sat σ w ((b8,cel (({kind:=0}:NH).nd none 0 lq ln lc).C.toList ae)::bC b q n c b7::(b1,cel (N10.C {}).toList ae)::(d2++(j1++(i3++((I++(RM++KM))++L))))):=h
    exact m2 w b7 [x] f2 f3 d2 b8 {kind:=0} lq ln lc r3 j1 i3 (I++(RM++KM)) ⟨by simp,by simp,λz hz=>by obtain rfl:=lN0.1 hz;exact f5⟩ (λ_=>rfl) (d1.trans f1.kp) c9 q1 g2 (by omega) (.inr rfl) h.re
   ·refine m2 w U ls b4 b3 I b8 {kind:=6} E O g us RM KM [] f0 (λe7=>?_) d1 b5 c8 d0 e9 (.inl rfl) h;rw[d1.1,e7] at b9;cases b9
  ·refine af rfl (af rfl (af rfl (af rfl (ag rfl ?_))));have g0:=i8 (by omega);have g6:i64.wrap (((d:Nat):Int) - 1)=((d - 1:Nat):Int):=by rw[gR (by omega) (by omega)]
   have p5:=a6.dp g3;obtain⟨v2,p2⟩:=p5;refine aa ⟨_,Sat.ld h (.head _) (i:=4) rfl,aa ?_⟩;rw[g6,Dp (by omega) (by omega)];refine Sat.st h (k:=0) rfl (by show 4<5;decide) trivial rfl λw h=>?_
   have h:Sat σ w (bC b q n c {a7 with deep:=a7.deep+1}::(b1,cel (N10.C {}).toList ae)::L):=h
   refine s8 g0 d3 ⟨by show 0<=a7.deep+1;omega,by show a7.deep+1+((d - 1:Nat):Int)<=100;omega⟩ h λw l U b4 b3 I E g us RM KM W c1 b5 c8 d0 h=>⟨_,_,_,_,_,_,rfl,?_⟩
   have q0:U.deep=a7.deep+1:=c1.2;have h:Sat σ w (bC b q n c U::(b1,cel (N10.C {}).toList ae)::(I++(RM++(KM++L)))):=h.re
   refine aa ⟨_,Sat.ld h (.head _) (i:=4) rfl,aa ?_⟩;rw[q0,Dp (by omega) (by omega)];refine Sat.st h (k:=0) rfl (by show 4<5;decide) trivial rfl λw h=>?_
   have h:Sat σ w (bC b q n c {U with deep:=a7.deep+1 - 1}::(b1,cel (N10.C {}).toList ae)::(I++(RM++(KM++L)))):=h
   have j0:s.kp {U with deep:=a7.deep+1 - 1}:=⟨c1.1.trans a6.1,by show a7.deep+1 - 1=s.deep;have:=a6.2;omega⟩
   revert h j0;generalize ({U with deep:=a7.deep+1 - 1}:BS)=b7;intro h j0;obtain⟨bl1,bl2,bl3⟩:=tC (by omega) W.ab W.sm W.ne (by have:=W.len;omega);intro X o0;have q8: ∀k i h4 g7 g4 w,i+k=(aw l).tail.length->SlS h4 g7 (((aw l).tail.take i).map λs=>62::32::s) g4->Sat σ w (g4++(I++(bC b q n c b7::(b1,cel (N10.C {}).toList ae)::(RM++(KM++L)))))->X b1 E l.length g h4 (((aw l).tail.take i).map λs=>62::32::s).length g7 b4 (aw l).tail.length b3 ((aw l).tail.length:Nat) (i:Nat) w:=by
    intro k
    induction k with
    |zero=>
     intro i h4 g7 g4 w h7 g2 h;obtain rfl:i=(aw l).tail.length:=h7;refine o0 _ _ _ _ _ _ _ _ _ _ _ _ _ (af (by simp) ?_);rw[lP2] at g2⊢;refine fin w (.quote l) b7 h4 g7 g4 {kind:=2} (kQ 1 l) E l.length g us RM KM {} I ⟨⟨W.ne,W.ab⟩,?_,g1 _ rfl,λe7=>?_⟩ j0 g2 ⟨rfl,rfl,λf b9=>?_⟩ c8 d0 (by have:=W.len;omega) h.re
     ·simp only[smB];exact⟨g0,W.len,W.sm⟩
     ·have:=W.fl (by show a7.flat=true;rw[a6.1];exact e7);have e:BS.fq {a7 with deep:=a7.deep+1}=true:=by
       unfold BS.fq;rw[decide_eq_true_eq]
       show 0<a7.deep+1
       omega
      rw[e] at this;exact this
     ·rw[mV];have:(bg (.quote l)).length=(aw l).tail.length:=by simp[bg]
      rw[this]
    |succ k t4=>
     intro i h4 g7 g4 w h7 g2 h;have i2:i<(aw l).tail.length:=by omega
     obtain⟨a,rfl,s6⟩:=b5.get i2;refine o0 _ _ _ _ _ _ _ _ _ _ _ _ _ (ag (by rw[decide_eq_true_eq];omega) ⟨by omega,by omega,aa ?_⟩);rw[lC0,lA1];have u2:=bl2 _ (lO1 i2);refine⟨_,s6 h (λx f5=>lB0 _ (lC1 _ f5)),?_⟩;have e6:(hP #[62,32])=bs [62,32]:=rfl;rw[e6,bG];refine⟨by rw[aF,aF,h8];simp only[lF0,lM1];omega,?_⟩;refine Sat.appS g2 h _ (by rw[lQ0];have:=List.length_take_le i (aw l).tail;omega) λf2 f3 w d2 c9 h=>?_
     have s9:(((aw l).tail.take i).map λs=>62::32::s)++ [[62,32]++(aw l).tail[i]]=((aw l).tail.take (i+1)).map λs=>62::32::s:=by
      rw[lB1 i2,lV0];rfl
     rw[s9] at c9⊢;rw[aL (by omega)];exact t4 (i+1) f2 f3 d2 w (by omega) c9 h
   exact q8 (aw l).tail.length 0 none 0 [] w (by omega) SlS.nil h.re
  ·have g0:=i8 (by omega);have g6:i64.wrap (((d:Nat):Int) - 1)=((d - 1:Nat):Int):=by rw[gR (by omega) (by omega)]
   refine af rfl (af rfl (af rfl (af rfl (af rfl (ag rfl (ag rfl ?_))))));rw[g6];refine o2 g0 odd d3 ⟨(a6.dp g3).1,by have:=(a6.dp g3).2;omega⟩ h λw bn U b4 b3 I e5 f4 E O g us RM KM W c1 b5 g5 c8 d0 e9 h=>⟨_,_,_,_,_,_,_,_,_,_,_,_,_,_,_,_,_,rfl,?_⟩
   have f7:d - 1+1=d:=by omega
   refine fin w bn U b4 b3 I e5 f4 E O g us RM KM {} [] ⟨W.ab,by have:=W.sm;rwa [f7] at this,W.kd,λb9=>?_⟩ (a6.trans c1) b5 g5 c8 d0 e9 h.re;have:=W.fl (by rw[a6.1];exact b9);unfold BS.fq at this⊢;rw[a6.2] at this;exact this
  ·have g0:=i8 (by omega);have g6:i64.wrap (((d:Nat):Int) - 1)=((d - 1:Nat):Int):=by rw[gR (by omega) (by omega)]
   refine af rfl (af rfl (af rfl (af rfl (af rfl (af rfl (ag rfl ?_))))));rw[g6];refine o2 g0 odd d3 ⟨(a6.dp g3).1,by have:=(a6.dp g3).2;omega⟩ h λw bn U b4 b3 I e5 f4 E O g us RM KM W c1 b5 g5 c8 d0 e9 h=>⟨_,_,_,_,_,_,_,_,_,_,_,_,_,_,_,_,_,rfl,?_⟩
   have f7:d - 1+1=d:=by omega
   refine fin w bn U b4 b3 I e5 f4 E O g us RM KM {} [] ⟨W.ab,by have:=W.sm;rwa [f7] at this,W.kd,λb9=>?_⟩ (a6.trans c1) b5 g5 c8 d0 e9 h.re;have:=W.fl (by rw[a6.1];exact b9);unfold BS.fq at this⊢;rw[a6.2] at this;exact this
  ·have t3:(((k:Nat):Int)==8)=false:=f6 8 (by omega)
   refine af (f6 2 (by omega)) (af (f6 3 (by omega)) (af (f6 4 (by omega)) (af (f6 5 (by omega)) (af (f6 6 (by omega)) (af (f6 7 (by omega)) ?_)))));rw[t3];exact para w a7 a6 h
 refine bh (λ_=>m3 0 (by omega) (by omega)) λhc=>m3 r hr λv0=>?_
 simp only[lH2,lZ3,decide_eq_false_iff_not] at hc;omega

theorem Sat.appL0 {q a6:OA}{c U:Nat}{ls E:List (List UInt8)}{M b7:List ai}(b3:SlS q c ls M)(b5:SlS a6 U E b7)(h:Sat σ w (M++(b7++L)))(c1:ls≠ [])(W:ls.length+E.length<1000000){K:OA->Nat->Nat->World->Prop}(I: ∀y g O V,SlS y g (ls++E) V->Sat σ O (V++L)->K y (ls++E).length g O):
 ∃(y:OA),∃(b6:Nat),∃(g:Nat),∃b8,(Builtin.append_ #[al,al] al #[hT q ls.length c,hT a6 E.length U]).run P w= .ok (hT y b6 g) b8/\K y b6 g b8:=by
 by_cases b9:E= []
 ·subst b9;have d0:0<ls.length:=lZ0.2 c1;have c5:q≠none:=by
   rintro rfl
   obtain⟨_,_,⟨_,h0,_⟩|⟨b,sp,h0,_⟩⟩:=b3
   ·omega
   ·cases h0
  obtain⟨c9,c8,c3⟩:=b5;have hs:Src P 1 al (hT a6 0 U) 0 [] w:=by
   rcases c3 with ⟨rfl,_,rfl,rfl⟩|⟨b,sp,rfl,rfl,c8⟩
   ·exact Src.ofNil w rowStr.ht 0
   ·exact Src.ofSlice w rowStr.ht _ _ U _ (by simp) (λj u a7=>by simp at a7) λu a7=>by cases a7
  obtain⟨y,g,O,V,hr,b4,c4,_⟩:=Sat.app rowStr (ty:=al) b3 h hs (.inr c5) (by simp at W;omega) (by simp at W;omega);refine⟨y,_,g,O,hr,?_⟩;have I:=I y g O V;rw[lG0] at I;rw[lG0] at b4;exact I b4 (c4.sub (List.Sublist.append_left (lJ3 _ _) _))
 ·exact Sat.appL b3 b5 h b9 W I
theorem Sat.appG {t ty e b3:TypeId}{sz bytes:Nat}(r:Row P t e sz bytes){q:OA}{n c b:Nat}{us E:List Value}{M:List ai}(b8:Sl sz e q n c us M)(h:Sat σ w (M++((b,cel E b3)::L)))(b7:E.length=1*sz)(b5: ∀u∈E,u.oneCell'=true)(hb:(n+1)*bytes<=140737488355328)(b4:n+1<4611686018427387904){K:OA->Nat->Nat->World->Prop}(a7: ∀y g I O,Sl sz e y (n+1) g (us++E) O->Sat σ I (O++L)->K y (n+1) g I):
 ∃(y:OA),∃(V:Nat),∃(g:Nat),∃U,(Builtin.append_ #[t,t] ty #[hT q n c,hT (kE b) 1 1]).run P w= .ok (hT y V g) U/\K y V g U:=by
 have hs:Src P sz t (hT (kE b) 1 1) 1 E w:=by
  refine Src.ofSlice w r.ht _ 1 1 _ b7 (λj u a6=>?_) b5;rw[show (Addr.add (hZ b 0) j)=⟨b,j,none⟩ from Addr.add_zero_lit b j];exact h.ld (lB0 _ (.head _)) a6
 obtain⟨y,g,I,O,hr,W,b6,_⟩:=Sat.app r (ty:=ty) b8 h hs (.inl (by omega)) hb b4;refine⟨y,n+1,g,I,hr,a7 y g I O W ?_⟩;exact b6.sub (List.Sublist.append_left (lT3 ..) _)
theorem Sat.appNd {q:OA}{n c b:Nat}{us:List Value}{M:List ai}(W:Sl 10 ae q n c us M){v:N10}(h:Sat σ w (M++((b,cel v.C.toList ae)::L)))(a6:n<1000000){K:OA->Nat->Nat->World->Prop}(V: ∀y g O I,Sl 10 ae y (n+1) g (us++v.C.toList) I->Sat σ O (I++L)->K y (n+1) g O):
 ∃(y:OA),∃(U:Nat),∃(g:Nat),∃E,(Builtin.append_ #[au,au] au #[hT q n c,hT (kE b) 1 1]).run P w= .ok (hT y U g) E/\K y U g E:=
 Sat.appG rowND W h rfl (ET v) (by omega) (by omega) V
theorem SlS.tail {q:OA}{c:Nat}{x:List UInt8}{ls:List (List UInt8)}{M:List ai}(I:SlS q c (x::ls) M)(O: ∀U∈M,U∈L):SArg σ L (if c=1 then q else q.map (·.add (1*rowStr.i.size))) ls.length ls:=by
 obtain⟨V,g,E⟩:=I;rcases E with ⟨_,h0,_⟩|⟨b,sp,rfl,rfl,W⟩
 ·simp at h0
 refine⟨rfl,λi hi=>?_⟩;have hc:c≠1:=by simp only[lF0] at g;omega
 rw[if_neg hc,rowStr.hs];refine⟨⟨b,1,none⟩,rfl,λw h=>?_⟩;rw[show (Addr.add (hZ b 1) i)=⟨b,1+i,none⟩ from lL0 ..];refine h.ld (O _ (.head _)) ?_;rw[lH4,lM0 (by rw[j5];simp;omega)];have:=uF (ts:=x::ls) (j:=i+1) (by simp;omega)
 simpa using this

abbrev kw (q:OA)(n c:Nat):N10:=({kind:=4}:NH).nd none 0 q n c
abbrev jJ (num:Int)(ch:UInt8)(lo:Bool)(q:OA)(n c:Nat):N10:=({kind:=3,num:=num,char:= [ch],loose:=lo}:NH).nd none 0 q n c
abbrev ndC (b:Nat)(v:N10):ai:=(b,cel v.C.toList ae)
def uK (ch:UInt8)(gap:Bool)(num:Nat)(its:List (List BN)):List (List UInt8):=dt ch gap num its++(if gap && !its.isEmpty then [[]] else [])
theorem EQ (ch:UInt8)(gap:Bool)(num:Nat)(its:List (List BN)):(uK ch gap num its).length=(dt ch gap num its).length+(gap && !its.isEmpty).toNat:=by
 unfold uK;rw[lA0];split
 ·rename_i h;rw[h];rfl
 ·rename_i h;have h:(gap && !its.isEmpty)=false:=by simpa using h
  rw[h];rfl
theorem A6 (ch:UInt8)(gap:Bool)(num:Nat)(its:List (List BN))(it:List BN){x:List UInt8}{r:List (List UInt8)}(h:(aw it).tail=x::r):
 (uK ch gap num its++ [mkI ch (num+its.length)++x])++r.map (λs=>if s= [] then [] else hN (mkI ch (num+its.length)).length 32++s)=dt ch gap num (its++ [it]):=by
 rw[zp,h];unfold uK itL;simp only[lD0,List.headD_cons,List.tail_cons,lU2];rfl
structure MkP (odd:Bool) (ch:UInt8) (num:Nat) (numI:Int):Prop where
 ch_:if odd then ch=43\/ch=41 else ch=45\/ch=46
 num_:numI=if ch=46\/ch=41 then ((num:Nat):Int) else -1
 le:num<=30
theorem MkP.ch4 {odd:Bool}{ch:UInt8}{num:Nat}{numI:Int}(h:MkP odd ch num numI):ch=45\/ch=43\/ch=46\/ch=41:=by
 have:=h.ch_;cases odd
 ·rcases this with h|h
  ·exact .inl h
  ·exact .inr (.inr (.inl h))
 ·rcases this with h|h
  ·exact .inr (.inl h)
  ·exact .inr (.inr (.inr h))
theorem Dc {d m:Nat}{odd loose:Bool}{ch:UInt8}{num:Nat}{numI:Int}{b b1 E I:Nat}{q:OA}{n c:Nat}{b4:BS}{X:OA->Int->Bool->Nat->Nat->Bool->OA->Nat->Nat->Int->Int->WP}(hd:d<=3)(q0:m<=5)(d0:MkP odd ch num numI){its:List (List BN)}{it:List BN}(o0:its.length<=3)(o3:(dt ch loose num its).length<=2000)(m6: ∀x∈its,(aw x).tail≠ [])(m1:abS it)(j0:it≠ [])(q1:it.length<=2)(i2:smS d it){b8:OA}{b9:Nat}{b5:List ai}{a6:OA}{W:Nat}{us:List Value}{RM KM:List ai}(e5:SlS b8 b9 (dt ch loose num its) b5)(m2:NDs (uS loose its) us KM)(m3:Sl 10 ae a6 its.length W us RM){b7:OA}{b6:Nat}{f4:List Value}{O U:List ai}{d3:OA}{c8:Nat}{a7 g:List ai}(f2:SlS d3 c8 (aw it).tail a7)(h8:NDs (kQ 1 it) f4 U)(i0:Sl 10 ae b7 it.length b6 f4 O)(h:Sat σ w (bC b q n c b4::ndC E (jJ numI ch (lz loose its||decide (2<=it.length)) a6 its.length W)::ndC I (kw b7 it.length b6)::(b5++(RM++(KM++(a7++(O++(U++(g++L)))))))))(next: ∀(w:World) (b8:OA) (b9:Nat) (b5:List ai) (a6:OA) (W:Nat) (us:List Value) (RM KM:List ai),SlS b8 b9 (dt ch loose num (its++ [it])) b5->NDs (uS loose (its++ [it])) us KM->Sl 10 ae a6 (its++ [it]).length W us RM->
  Sat σ w (bC b q n c b4::ndC E (jJ numI ch (lz loose (its++ [it])) a6 (its++ [it]).length W)::(b5++(RM++(KM++L))))->X (kE b) (d:Nat) odd b1 E loose b8 (dt ch loose num (its++ [it])).length b9 ((m:Nat):Int) (((its++ [it]).length:Nat):Int) w){g5:Int}(i4:g5=((d:Nat):Int)):
 aC.k6 R X (kE b) g5 odd b1 E loose b8 (dt ch loose num its).length b9 ((its.length:Nat):Int) I d3 (aw it).tail.length c8 ((m:Nat):Int) ((its.length:Nat):Int) w:=by
 subst i4;have f0:i64.max=9223372036854775807:=rfl;obtain⟨g3,f1,i1⟩:=tC hd m1 i2 j0 (by omega);obtain⟨p3,p4,o4⟩:=FS (num:=num+its.length) d0.ch4 (by have:=d0.le;omega);have i3:=EQ ch loose num its;have o2:(loose && !its.isEmpty).toNat<=1:=by cases (loose && !its.isEmpty)<;>decide
 have k9: ∀(w:World) (b8:OA) (b9:Nat) (b5 g:List ai),SlS b8 b9 (uK ch loose num its) b5->Sat σ w (bC b q n c b4::ndC E (jJ numI ch (lz loose (its++ [it])) a6 its.length W)::ndC I (kw b7 it.length b6)::(b5++(RM++(KM++(a7++(O++(U++(g++L))))))))->
  aC.k9 R X (kE b) (d:Nat) odd b1 E loose b8 (uK ch loose num its).length b9 I d3 (aw it).tail.length c8 (bs (mkI ch (num+its.length))) ((m:Nat):Int) ((its.length:Nat):Int) w:=by
  intro w b8 b9 b5 g e5 h;have n0:i64.wrap (((uK ch loose num its).length:Int)+1)=(((uK ch loose num its).length+1:Nat):Int):=by rw[aL (by omega)]
  have l5:i64.wrap (((uK ch loose num its).length:Int)+((aw it).tail.length:Int))=(((uK ch loose num its).length+(aw it).tail.length:Nat):Int):=by
   rw[i64_in _ (by omega)];omega
  unfold aC.k9;rw[n0,l5];have h:Sat σ w (ndC I (kw b7 it.length b6)::bC b q n c b4::ndC E (jJ numI ch (lz loose (its++ [it])) a6 its.length W)::(b5++(RM++(KM++(a7++(O++(U++(g++L)))))))):=h.re
  refine Sat.st h (k:=0) rfl (by show 8<10;decide) trivial rfl λw h=>?_
  refine Sat.st h (k:=0) rfl (by show 9<10;decide) trivial rfl λw h=>?_
  have h:Sat σ w (ndC I (({kind:=4,s:=(uK ch loose num its).length+1,e:=(uK ch loose num its).length+(aw it).tail.length}:NH).nd none 0 b7 it.length b6)::bC b q n c b4::ndC E (jJ numI ch (lz loose (its++ [it])) a6 its.length W)::(b5++(RM++(KM++(a7++(O++(U++(g++L)))))))):=h
  have f5:NodeDt (lawI ((dt ch loose num its).length+(loose && !its.isEmpty).toNat) it) (({kind:=4,s:=(uK ch loose num its).length+1,e:=(uK ch loose num its).length+(aw it).tail.length}:NH).nd none 0 b7 it.length b6) (O++U):=by
   rw[<-i3];exact⟨_,kQ 1 it,none,0,b7,it.length,b6,f4,O,U,rfl,rfl,rfl,by omega,h8,i0⟩
  revert h f5;generalize ({kind:=4,s:=(uK ch loose num its).length+1,e:=(uK ch loose num its).length+(aw it).tail.length}:NH).nd none 0 b7 it.length b6=u;intro h f5;obtain⟨x,r,g1⟩:=lD1 i1;have h6:=A6 ch loose num its it g1;rw[g1] at f2 g3 f1⊢;have p5:=f1 x (.head _);simp only[lF0] at g3;obtain⟨a,rfl,h7⟩:=f2.get (i:=0) (by simp);refine⟨by decide,by simp only[lF0];omega,aa ?_⟩;refine⟨bs x,h7 h (λy g0=>by simp only[lW0,lP0];simp[g0]),?_⟩;rw[bG];refine⟨by rw[aF,aF,f0];omega,?_⟩;have h:Sat σ w (b5++(ndC I u::bC b q n c b4::ndC E (jJ numI ch (lz loose (its++ [it])) a6 its.length W)::(RM++(KM++(a7++(O++(U++(g++L)))))))):=h.re
  refine Sat.appS e5 h _ (by omega) λg7 g6 w c1 e2 h=>h.tk λw h=>?_
  refine⟨_,_,_,λw=>Ab rowStr.ht rowStr.hi _ _ c8 1 (by simp) w,?_⟩;have i8:=SlS.tail (σ:=σ) (L:=a7++(c1++(ndC I u::bC b q n c b4::ndC E (jJ numI ch (lz loose (its++ [it])) a6 its.length W)::(RM++(KM++(O++(U++(g++L)))))))) f2 (λy g0=>lC1 _ g0)
  have h:Sat σ w (a7++(c1++(ndC I u::bC b q n c b4::ndC E (jJ numI ch (lz loose (its++ [it])) a6 its.length W)::(RM++(KM++(O++(U++(g++L)))))))):=h.re
  rw[aF];refine FP (by omega) ⟨_,rfl,?_⟩;refine zu (c:=c8 - 1) i8 (by simp;omega) (λl k0=>by have:=f1 l (.tail _ k0);omega) (by omega) h λw q8 r1 n2 h9 h=>⟨_,_,_,rfl,?_⟩
  have h:Sat σ w (c1++(n2++(a7++(ndC I u::bC b q n c b4::ndC E (jJ numI ch (lz loose (its++ [it])) a6 its.length W)::(RM++(KM++(O++(U++(g++L))))))))):=h.re
  have em:r.length=(r.map λs=>if s= [] then [] else hN (mkI ch (num+its.length)).length 32++s).length:=by simp
  rw[em];refine Sat.appL0 e2 h9 h (by simp) (by rw[lA0,<-em];simp only[lE0];omega) λn3 j1 w e7 g4 h=>?_
  rw[h6] at g4⊢;have h:Sat σ w (RM++(ndC E (jJ numI ch (lz loose (its++ [it])) a6 its.length W)::ndC I u::bC b q n c b4::(e7++(KM++(a7++(O++(U++(g++L)))))))):=h.re
  refine⟨a6,its.length,W,Sat.ld h (lB0 _ (.head _)) (i:=7) rfl,?_⟩;refine h.ldB10 u (lB0 _ (.tail _ (.head _))) ?_;refine Sat.app1 rowND m3 h (v:=u.V) rfl (ET u) (Ay u) (by omega) (by omega) (by decide) λh4 h5 w f3 g2 h=>?_
  have h:Sat σ w (ndC E (jJ numI ch (lz loose (its++ [it])) a6 its.length W)::bC b q n c b4::(e7++(f3++((KM++(O++U))++(ndC I u::(a7++(g++L))))))):=h.re
  refine Sat.st h (k:=0) rfl (by show 7<10;decide) trivial rfl λw h=>?_
  have h:Sat σ w (ndC E (jJ numI ch (lz loose (its++ [it])) h4 (its.length+1) h5)::bC b q n c b4::(e7++(f3++((KM++(O++U))++(ndC I u::(a7++(g++L))))))):=h
  have h1:(its++ [it]).length=its.length+1:=by simp
  rw[aL (by omega),<-h1];rw[<-h1] at h g2;refine next w n3 j1 e7 h4 h5 _ f3 (KM++(O++U)) g4 ?_ g2 ?_
  ·rw[C7 loose ch its num it m6];exact m2.append f5.one
  ·exact h.less (ndC I u::(a7++g))
 have k7: ∀w,Sat σ w (bC b q n c b4::ndC E (jJ numI ch (lz loose its||decide (2<=it.length)) a6 its.length W)::ndC I (kw b7 it.length b6)::(b5++(RM++(KM++(a7++(O++(U++(g++L))))))))->
  aC.k7 R X (kE b) (d:Nat) odd b1 E loose b8 (dt ch loose num its).length b9 ((its.length:Nat):Int) I d3 (aw it).tail.length c8 (bs (mkI ch (num+its.length))) ((m:Nat):Int) ((its.length:Nat):Int) w:=by
  intro w h;have m4:((decide (((its.length:Nat):Int)>0)) && loose)=(loose && !its.isEmpty):=by
   cases its with
   |nil=>cases loose<;>rfl
   |cons y l=>
    have:decide ((((y::l).length:Nat):Int)>0)=true:=by rw[decide_eq_true_eq];simp only[lF0];omega
    rw[this];cases loose<;>rfl
  show aC.k8 R X _ _ _ _ _ _ _ _ _ _ _ _ _ _ _ _ ((decide (((its.length:Nat):Int)>0)) && loose) w
  rw[m4];have e3:=GO loose its it
  by_cases c9:(loose && !its.isEmpty)=true
  ·have e6:uK ch loose num its=dt ch loose num its++ [[]]:=by unfold uK;rw[if_pos c9]
   rw[c9] at e3⊢;refine ag rfl ?_;have f6:(hP #[])=bs []:=rfl;rw[f6];have h:Sat σ w (b5++(ndC E (jJ numI ch (lz loose its||decide (2<=it.length)) a6 its.length W)::bC b q n c b4::ndC I (kw b7 it.length b6)::(RM++(KM++(a7++(O++(U++(g++L)))))))):=h.re
   refine Sat.appS e5 h [] (by omega) λg7 g6 w c1 e2 h=>?_
   have h:Sat σ w (ndC E (jJ numI ch (lz loose its||decide (2<=it.length)) a6 its.length W)::bC b q n c b4::ndC I (kw b7 it.length b6)::(c1++(RM++(KM++(a7++(O++(U++(g++L)))))))):=h.re
   refine Sat.st h (k:=0) rfl (by show 5<10;decide) trivial rfl λw h=>?_
   have f7:lz loose (its++ [it])=true:=by rw[e3];simp
   have h:Sat σ w (ndC E (jJ numI ch (lz loose (its++ [it])) a6 its.length W)::bC b q n c b4::ndC I (kw b7 it.length b6)::(c1++(RM++(KM++(a7++(O++(U++(g++L)))))))):=by rw[f7];exact h
   rw[<-e6] at e2⊢;exact k9 w g7 g6 c1 g e2 h.re
  ·have c9:(loose && !its.isEmpty)=false:=by simpa using c9
   have e6:uK ch loose num its=dt ch loose num its:=by unfold uK;rw[c9];simp
   rw[c9] at e3⊢;refine af rfl ?_;have f7:(lz loose its||decide (2<=it.length))=lz loose (its++ [it]):=by rw[e3];simp
   rw[f7] at h;have:=k9 w b8 b9 b5 g (by rw[e6];exact e5) h;rw[e6] at this;exact this
 have f6:(hP #[32])=bs [32]:=rfl;unfold aC.k6;rw[f6];refine⟨bs [ch],Sat.ld h (.tail _ (.head _)) (i:=4) rfl,by rw[aF,aF,f0];simp,numI,Sat.ld h (.tail _ (.head _)) (i:=3) rfl,?_⟩;rw[bG]
 by_cases e4:ch=46\/ch=41
 ·have d1:numI=((num:Nat):Int):=by rw[d0.num_,if_pos e4]
  have d2:mkI ch (num+its.length)=Ep (num+its.length)++([ch]++ [32]):=by unfold mkI;rw[if_pos e4];rfl
  have p1:=d0.le;refine ag (by rw[d1];simp) ⟨numI,Sat.ld h (.tail _ (.head _)) (i:=3) rfl,?_⟩;have m5:i64.wrap (numI+((its.length:Nat):Int))=((num+its.length:Nat):Int):=by
   rw[d1,i64_in _ (by omega)];omega
  rw[m5];refine Bz (by omega) ⟨_,rfl,?_⟩;have n1:=congrArg List.length d2;rw[lA0] at n1;refine⟨by rw[aF,aF,f0];omega,?_⟩;rw[bG,<-d2];exact k7 w h
 ·have d1:numI= -1:=by rw[d0.num_,if_neg e4]
  have d2:mkI ch (num+its.length)= [ch]++ [32]:=by unfold mkI;rw[if_neg e4];rfl
  refine af (by rw[d1];rfl) ?_;rw[<-d2];exact k7 w h

theorem zC {u v:N10}{U E g:Nat}{o12:Obj}{d0 b4 Z:List ai}{g5 f1:OA}{g3 f2:Nat}{l1 a7:List (List UInt8)}(i3:SlS g5 g3 l1 d0)(f7:SlS f1 f2 a7 b4)(e5:(l1++ [[]]).length+a7.length<1000000)(g0:a7≠ [])(u1:Sl 10 ae (kE U) 1 1 u.C.toList [ndC U u])(h:Sat σ w (d0++(b4++([ndC U u]++(ndC E v::(g,o12)::Z))))){K:OA->Nat->Nat->OA->Nat->Nat->World->Prop}(fin: ∀w e0 cf d1 d2 d3 g2 (Y:List ai),SlS e0 cf (l1++ [[]]++a7) d1->Sl 10 ae d2 2 d3 (u.C.toList++v.C.toList) g2->Sat σ w (g2++(d1++(Y++(ndC E v::(g,o12)::Z))))->K d2 2 d3 e0 (l1++ [[]]++a7).length cf w):
 (∃(g7:OA),∃(i0:Nat),∃(h9:Nat),∃c3,(Instr.buildSlice al 1 #[(0,hX (bs []))]).run P w= .ok (hT g7 i0 h9) c3/\
 SameC w c3 (hZ E 0) 10/\
 SameC w c3 (hZ g 7) 1/\
 (∃(h7:OA),∃(h8:Nat),∃(h6:Nat),∃c4,(Builtin.append_ #[al,al] al #[hT g5 l1.length g3,hT g7 i0 h9]).run P c3= .ok (hT h7 h8 h6) c4/\
 SameC c3 c4 (hZ E 0) 10/\
 SameC c3 c4 (hZ g 7) 1/\
 (∃(r9:OA),∃(s5:Nat),∃(t0:Nat),∃e9,(Builtin.append_ #[al,al] al #[hT h7 h8 h6,hT f1 a7.length f2]).run P c4= .ok (hT r9 s5 t0) e9/\
 SameC c4 e9 (hZ E 0) 10/\
 SameC c4 e9 (hZ g 7) 1/\
 ∃(p4:OA),∃(r4:Nat),∃(p5:Nat),∃i1,(Instr.buildSlice au 1 #[(0,v.V)]).run P e9= .ok (hT p4 r4 p5) i1/\
 SameC e9 i1 (hZ g 7) 1/\
 ∃(s8:OA),∃(p1:Nat),∃(n0:Nat),∃t8,(Builtin.append_ #[au,au] au #[hT (kE U) 1 1,hT p4 r4 p5]).run P i1= .ok (hT s8 p1 n0) t8/\
 K s8 p1 n0 r9 s5 t0 t8)/\
 (∃(k0:OA),∃(o2:Nat),∃(j1:Nat),∃e6,(Instr.buildSlice au 1 #[(0,v.V)]).run P c4= .ok (hT k0 o2 j1) e6/\
 SameC c4 e6 (hZ g 7) 1/\
 ∃(r8:OA),∃(r5:Nat),∃(r3:Nat),∃f5,(Builtin.append_ #[al,al] al #[hT h7 h8 h6,hT f1 a7.length f2]).run P e6= .ok (hT r8 r5 r3) f5/\
 SameC e6 f5 (hZ E 0) 10/\
 SameC e6 f5 (hZ g 7) 1/\
 ∃(n2:OA),∃(s1:Nat),∃(o0:Nat),∃t9,(Builtin.append_ #[au,au] au #[hT (kE U) 1 1,hT k0 o2 j1]).run P f5= .ok (hT n2 s1 o0) t9/\
 K n2 s1 o0 r8 r5 r3 t9))/\
 (∃(s4:OA),∃(p3:Nat),∃(r7:Nat),∃e8,(Instr.buildSlice au 1 #[(0,v.V)]).run P c3= .ok (hT s4 p3 r7) e8/\
 SameC c3 e8 (hZ g 7) 1/\
 ∃(t3:OA),∃(m5:Nat),∃(s3:Nat),∃e2,(Builtin.append_ #[al,al] al #[hT g5 l1.length g3,hT g7 i0 h9]).run P e8= .ok (hT t3 m5 s3) e2/\
 SameC e8 e2 (hZ E 0) 10/\
 SameC e8 e2 (hZ g 7) 1/\
 ∃(t4:OA),∃(s7:Nat),∃(m3:Nat),∃f3,(Builtin.append_ #[al,al] al #[hT t3 m5 s3,hT f1 a7.length f2]).run P e2= .ok (hT t4 s7 m3) f3/\
 SameC e2 f3 (hZ E 0) 10/\
 SameC e2 f3 (hZ g 7) 1/\
 ∃(n3:OA),∃(o3:Nat),∃(q4:Nat),∃t7,(Builtin.append_ #[au,au] au #[hT (kE U) 1 1,hT s4 p3 r7]).run P f3= .ok (hT n3 o3 q4) t7/\
 K n3 o3 q4 t4 s7 m3 t7))/\
 (∃(m4:OA),∃(q3:Nat),∃(s2:Nat),∃e7,(Instr.buildSlice au 1 #[(0,v.V)]).run P w= .ok (hT m4 q3 s2) e7/\
 SameC w e7 (hZ g 7) 1/\
 ∃(q8:OA),∃(r6:Nat),∃(m6:Nat),∃e1,(Instr.buildSlice al 1 #[(0,hX (bs []))]).run P e7= .ok (hT q8 r6 m6) e1/\
 SameC e7 e1 (hZ E 0) 10/\
 SameC e7 e1 (hZ g 7) 1/\
 ∃(r1:OA),∃(m1:Nat),∃(j0:Nat),∃e3,(Builtin.append_ #[al,al] al #[hT g5 l1.length g3,hT q8 r6 m6]).run P e1= .ok (hT r1 m1 j0) e3/\
 SameC e1 e3 (hZ E 0) 10/\
 SameC e1 e3 (hZ g 7) 1/\
 ∃(t2:OA),∃(q0:Nat),∃(m2:Nat),∃f4,(Builtin.append_ #[al,al] al #[hT r1 m1 j0,hT f1 a7.length f2]).run P e3= .ok (hT t2 q0 m2) f4/\
 SameC e3 f4 (hZ E 0) 10/\
 SameC e3 f4 (hZ g 7) 1/\
 ∃(o4:OA),∃(t5:Nat),∃(s6:Nat),∃t6,(Builtin.append_ #[au,au] au #[hT (kE U) 1 1,hT m4 q3 s2]).run P f4= .ok (hT o4 t5 s6) t6/\
 K o4 t5 s6 t2 q0 m2 t6):=by
  have i2:l1.length+1<1000000:=by rw[lA0] at e5;simp only[lE0] at e5;omega
  have b6: ∀ {w b7:World} {A B:List ai},Sat σ w A->Sat σ b7 B->ndC E v∈A->ndC E v∈B->SameC w b7 (hZ E 0) 10:=λh i8 m i4=>h.same i8 m i4 10
  have a6: ∀ {w b7:World} {A B:List ai},Sat σ w A->Sat σ b7 B->(g,o12)∈A->(g,o12)∈B->SameC w b7 (hZ g 7) 1:=λh i8 m i4=>h.same i8 m i4 1
  have g6: ∀(w:World) (e0:OA) (cf:Nat) (d1:List ai) (bx:Nat),SlS e0 cf (l1++ [[]]++a7) d1->Sat σ w ([ndC U u]++(ndC bx v::(d1++(ndC E v::(g,o12)::Z))))->
   ∃(d2:OA),∃(u0:Nat),∃(d3:Nat),∃b3,(Builtin.append_ #[au,au] au #[hT (kE U) 1 1,hT (kE bx) 1 1]).run P w= .ok (hT d2 u0 d3) b3/\K d2 u0 d3 e0 (l1++ [[]]++a7).length cf b3:=by
   intro w e0 cf d1 bx u4 h;refine Sat.appNd u1 h (by omega) λd2 d3 b3 g2 u2 h=>?_
   exact fin b3 e0 cf d1 d2 d3 g2 [] u4 u2 h
  refine⟨?_,?_⟩
  ·refine h.buildS [] λu8 v0 b7 f0 f6 W=>⟨b6 h W (by simp) (by simp),a6 h W (by simp) (by simp),?_,?_⟩
   ·have W:Sat σ b7 (d0++(f0++(b4++([ndC U u]++(ndC E v::(g,o12)::Z))))):=W.re
    refine Sat.appL i3 f6 W (by simp) i2 λq6 c6 b3 g1 e4 y=>⟨b6 W y (by simp) (by simp),a6 W y (by simp) (by simp),?_,?_⟩
    ·refine Sat.appL e4 f7 y g0 e5 λq7 c7 g4 c8 c9 O=>⟨b6 y O (by simp) (by simp),a6 y O (by simp) (by simp),?_⟩
     refine Sat.buildN O v λbx b5 I=>⟨a6 O I (by simp) (by simp),?_⟩
     have I:Sat σ b5 (ndC bx v::(c8++([ndC U u]++(ndC E v::(g,o12)::Z)))):=I
     exact g6 b5 q7 c7 c8 bx c9 I.re
    ·refine Sat.buildN y v λbx b5 I=>⟨a6 y I (by simp) (by simp),?_⟩
     have I:Sat σ b5 (ndC bx v::(g1++(b4++([ndC U u]++(ndC E v::(g,o12)::Z))))):=I
     have I:Sat σ b5 (g1++(b4++(ndC bx v::([ndC U u]++(ndC E v::(g,o12)::Z))))):=I.re
     refine Sat.appL e4 f7 I g0 e5 λq7 c7 g4 c8 c9 O=>⟨b6 I O (by simp) (by simp),a6 I O (by simp) (by simp),?_⟩
     exact g6 g4 q7 c7 c8 bx c9 O.re
   ·refine Sat.buildN W v λbx b3 y=>⟨a6 W y (by simp) (by simp),?_⟩
    have y:Sat σ b3 (ndC bx v::(f0++(d0++(b4++([ndC U u]++(ndC E v::(g,o12)::Z)))))):=y
    have y:Sat σ b3 (d0++(f0++(b4++(ndC bx v::([ndC U u]++(ndC E v::(g,o12)::Z)))))):=y.re
    refine Sat.appL i3 f6 y (by simp) i2 λq6 c6 g4 g1 e4 O=>⟨b6 y O (by simp) (by simp),a6 y O (by simp) (by simp),?_⟩
    refine Sat.appL e4 f7 O g0 e5 λq7 c7 b5 c8 c9 I=>⟨b6 O I (by simp) (by simp),a6 O I (by simp) (by simp),?_⟩
    exact g6 b5 q7 c7 c8 bx c9 I.re
  ·refine Sat.buildN h v λbx b7 W=>⟨a6 h W (by simp) (by simp),?_⟩
   have W:Sat σ b7 (ndC bx v::(d0++(b4++([ndC U u]++(ndC E v::(g,o12)::Z))))):=W
   refine W.buildS [] λu8 v0 b3 f0 f6 y=>⟨b6 W y (by simp) (by simp),a6 W y (by simp) (by simp),?_⟩
   have y:Sat σ b3 (d0++(f0++(b4++(ndC bx v::([ndC U u]++(ndC E v::(g,o12)::Z)))))):=y.re
   refine Sat.appL i3 f6 y (by simp) i2 λq6 c6 g4 g1 e4 O=>⟨b6 y O (by simp) (by simp),a6 y O (by simp) (by simp),?_⟩
   refine Sat.appL e4 f7 O g0 e5 λq7 c7 b5 c8 c9 I=>⟨b6 O I (by simp) (by simp),a6 O I (by simp) (by simp),?_⟩
   exact g6 b5 q7 c7 c8 bx c9 I.re
end Go.Proofs.YtendaipfdnhnaaaGreatDoor
