/- Part 5 of the proof of the law FnFlat: for every input the law returns true, the inputs read as they did, and memory that was there is as it was; under the conditions of the given row alone. -/
import Derived.Laws.IdiomStrings
import Derived.Test.YtendaipfdnhnaaaGreatDoorA4
set_option linter.all false
open Go.IntKind(i64)
open ByteArray renaming mk→hP
open List renaming replicate→hN
namespace Go.Proofs.YtendaipfdnhnaaaGreatDoor
open Go.Proofs Go.IntWalk Go.RowKit
set_option maxRecDepth 20000
variable {σ:Out} {w:World} {L L':List ai} {R:Ending->World->Prop} {G:List UInt8->List Inl} {op:Opt}

def AtD (X:XI)(σ:Out)(b:Nat)(p0:PS)(raw:List UInt8)(L:List ai)(i e:Nat)(ts:List Inl)(opens:List Nat)(lo:Int):Prop:=
 ∀g,AtC g (λt=>g=true->t.sc=false) X σ b p0 raw L i e ts opens lo
def xT (R:Ending->World->Prop)(X:XI)(b:Nat)(raw:List UInt8):Prop:= ∀g,HL R X b raw g
theorem AtD.plain {X:XI}{b pb i e:Nat}{p0:PS}{raw:List UInt8}{ts:List Inl}{opens:List Nat}{lo:Int}{o:Opt}(b7:xT R X b raw)(hi:i<raw.length)(hs:raw.length<1000000000)(W:p0.pz=kE pb)(c1:o.at pb∈L)(c2:ka o raw[i]= .nil)(V:raw[i]≠93\/opens= [])(h:AtD X σ b p0 raw L (i+1) e ts opens lo):AtD X σ b p0 raw L i e ts opens lo:=by
 intro E w p b3 b6 b9 a6 hc U b4 b8
 refine b7 E _ _ _ _ _ _ ?_
 obtain⟨vs,RM,EM,c3,b5,a7,I,O,g⟩:=b8
 refine lj (p:=p) hi (by omega) (by rw[PS.pz_of hc,W]) (.head _) (.tail _ (lB0 _ (lB0 _ (lB0 _ c1)))) g ?_
 rw[c2]
 have y:=I.1
 rw[lS0] at y
 exact zS (Ho hi (by omega) (V.imp id (by rintro rfl;simp at y;omega)) (h E w p b3 b6 b9 a6 hc U b4 ⟨vs,RM,EM,c3,b5,a7,I,O,g⟩))
theorem AtD.plains {X:XI}{b pb e:Nat}{p0:PS}{raw:List UInt8}{ts:List Inl}{opens:List Nat}{lo:Int}{o:Opt}(y:xT R X b raw)(hs:raw.length<1000000000)(g:p0.pz=kE pb)(E:o.at pb∈L):
 ∀(k i:Nat),i+k<=raw.length->(∀j (I:j<raw.length),i<=j->j<i+k->ka o raw[j]= .nil/\raw[j]≠93)->AtD X σ b p0 raw L (i+k) e ts opens lo->AtD X σ b p0 raw L i e ts opens lo
 |0,i,_,_,h=>h
 |k+1,i,hk,hall,h=>by
  have hi:i<raw.length:=by omega
  have h0:=hall i hi (lA1 _) (by omega)
  refine AtD.plain y hi hs g E h0.1 (.inl h0.2) ?_
  refine AtD.plains y hs g E k (i+1) (by omega) (λj I U O=>hall j I (by omega) (by omega)) ?_
  rw[show i+1+k=i+(k+1) by omega];exact h
theorem AtD.leaf {X:XI}{b pb i e st en:Nat}{p0:PS}{raw:List UInt8}{ts:List Inl}{opens:List Nat}{lo:Int}{o:Opt}{f:FuncId}{t:Inl}{L0:List ai}(c4:xT R X b raw)(hi:i<raw.length)(hs:raw.length<1000000000)(b3:p0.pz=kE pb)(d3:o.at pb∈L)(e0:ka o raw[i]= .fn f)(b4: ∀c∈L0,c∈L)(d2: ∀p:PS,p.coreS=p0.coreS->p.s=raw->qi b p raw i (.func (.func f) #[] #[]) L0 (some (t,st,en)) (λp'=>p'=p))(b7:st<=raw.length)(c9:ts.length<1000000000)(b6:opens.length<1000000000)(h:AtD X σ b p0 raw L en en (kP raw e st ts++ [t]) (if t.isOpen then opens++ [(kP raw e st ts).length] else opens) lo):AtD X σ b p0 raw L i e ts opens lo:=by
 intro O w p I U V b8 hc g c2 c5
 refine c4 O _ _ _ _ _ _ ?_
 obtain⟨vs,RM,EM,e1,c3,b9,d0,a6,y⟩:=c5
 refine lj (p:=p) hi (by omega) (by rw[PS.pz_of hc,b3]) (.head _) (.tail _ (lB0 _ (lB0 _ (lB0 _ d3)))) y ?_
 rw[e0]
 dsimp only
 have W:=d2 p hc g
 subst g
 refine zT ⟨vs,RM,EM,e1,c3,b9,d0,a6,y⟩ b4 W c2 b7 hs c9 b6 λw p2 I U V E a7 c8 d1=>?_
 have b5:p2.bt=p.bt:=by obtain⟨e2,rfl,c1⟩:=c8;exact c1
 refine h O w p2 I U V (by rw[b5];exact b8) (PS.coreS_of E hc) ?_ a7 d1
 have:=congrArg PS.s E;exact this
theorem AtD.code {X:XI}{b pb e:Nat}{p0:PS}{A T B raw:List UInt8}{ts:List Inl}{opens:List Nat}{lo:Int}{o:Opt}(d1:xT R X b raw)(y:raw=A++96::(T++96::B))(c9:T≠ [])(b9: ∀c∈T,c≠96/\c≠10/\c≠32)(c5:B.head? ≠some 96)(hs:raw.length<1000000)(b8:p0.pz=kE pb)(e4:o.at pb∈L)(e1:ts.length<1000000000)(c2:opens.length<1000000000)(h:AtD X σ b p0 raw L (A.length+T.length+2) (A.length+T.length+2) (kP raw e A.length ts++ [.code T]) opens lo):AtD X σ b p0 raw L A.length e ts opens lo:=by
 have e6:raw.length=A.length+(T.length+B.length+2):=by rw[y];simp;omega
 have hi:A.length<raw.length:=by omega
 have d0:raw[A.length]=96:=by subst y;rw[lL2 (lA1 _)];simp
 intro b3 w p U V W c3 hc E I d2
 refine d1 b3 _ _ _ _ _ _ ?_
 obtain⟨vs,RM,EM,b4,O,c4,e2,b5,g⟩:=d2
 have fin: ∀w (p:PS),p.bt.sc=false->p.coreS=p0.coreS->p.s=raw->p.em=(e:Int)->Sl 1 aC p.lq p.ln p.lc vs RM->Sat σ w (p.at b::(RM++(EM++(b4++L))))->av.k1 R X (kE b) (bs raw) U V W lo true (A.length:Nat) (.func (.func bJ) #[kT (some (hZ b 12))] #[]) w:=by
  intro w p b7 hc E I O g
  have a6:=Db (b:=b) (p:=p) (A:=A) (T:=T) (B:=B) c9 b9 c5 (by rw[<-y];exact hs) b7
  rw[<-y] at a6
  subst E
  refine zT ⟨vs,RM,EM,b4,O,c4,e2,b5,g⟩ (L0:= []) (by simp) a6 I (by omega) (by omega) e1 c2 λw p2 U V W a7 b6 e0 e3=>?_
  have c1:p2.bt.sc=false:=by obtain⟨e5,c8,d3⟩:=e0;rw[d3];exact c8
  refine h true w p2 U V W (λ_=>c1) (PS.coreS_of a7 hc) ?_ b6 e3
  have:=congrArg PS.s a7;exact this
 refine lj (p:=p) hi (by omega) (by rw[PS.pz_of hc,b8]) (.head _) (.tail _ (lB0 _ (lB0 _ (lB0 _ e4)))) g ?_
 rw[d0,show ka o 96= .code from rfl]
 cases b3 with
 |true=>exact af rfl (fin w p (c3 rfl) hc E I O g)
 |false=>
  refine ag rfl ?_
  refine Ed g λw g=>⟨rfl,?_⟩
  refine fin w {p with bt:= .z} rfl ?_ E I O g
  rw[<-hc];rfl
theorem AtD.close {X:XI}{b pb i e en k:Nat}{p0:PS}{raw:List UInt8}{ts1 ts2:List Inl}{opens:List Nat}{lo:Int}{o:Opt}{t url title:List UInt8}{tc:UInt8}{cor img:Bool}{L0:List ai}(b5:xT R X b raw)(hi:i<raw.length)(hs:raw.length<1000000)(hc:raw[i]=93)(b3:p0.pz=kE pb)(b6:o.at pb∈L)(O: ∀c∈L0,c∈L)(ht:t.getD 0 0=(if img then 33 else 91))(a6:t≠ [])(U:img=true\/lo<=(k:Int))(I:url.length<1000000)(y: ∀p:PS,p.coreS=p0.coreS->p.s=raw->wa b p raw i t k L0 url title tc cor en)(b4:ts2++mR raw e i≠ [])(a7:wfE (ts2++mR raw e i))(W:nT none (ts2++mR raw e i))(b7:(ts1++ts2).length<1000000)(V:opens.length<1000000)(E:AtD X σ b p0 raw L en en (ts1++ [Ac img (xG (ts2++mR raw e i)) url title tc cor]) opens (if img then lo else (k:Int))):
 AtD X σ b p0 raw L i e (ts1++ .openP t k::ts2) (opens++ [ts1.length]) lo:=
 λg=>AtC.close (b5 g) hi hs hc b3 b6 O ht a6 U I y b4 a7 W b7 V (E g)
theorem AtD.fin {X:XI}{b pb e:Nat}{p0:PS}{raw:List UInt8}{ts ts':List Inl}{opens:List Nat}{lo:Int}{o:Opt}(W:xT R X b raw)(hs:raw.length<1000000000)(U:p0.pz=kE pb)(b3:o.at pb∈L)(I:o.auto=false)(y:ts.length<1000000000)(a6:Ak (kP raw e raw.length ts) ts')(O: ∀t∈ts',∀s,t.plain? =some s->s≠ [])(hb:rK ts'<1073741824)(b5: ∀w (p':PS) q n c vs RM EM,p'.coreS=p0.coreS->Sl 1 aC q n c vs RM->n<1073741824->InlsAt (li ts') vs EM->Sat σ w (p'.at b::(RM++(EM++L)))->R (hQ (hT q n c)) w):
 AtD X σ b p0 raw L raw.length e ts opens lo:=by
 intro b6 w p b8 c1 b9 b7 hc E a7 g
 refine W b6 _ _ _ _ _ _ ?_
 subst E
 exact Gm g a7 hs y (by rw[PS.pz_of hc,U]) b3 I a6 O hb λw p2 q n c vs RM EM V b4 y g h=>b5 w p2 q n c vs RM EM (PS.coreS_of V hc) b4 y g h
namespace bU
def k3 (R:EP)(E g:Int)(y:Bool)(w:World):Prop:=
 br y
 (False)
 (box w #[] wj λb1 I=>
 R (hQ (.tuple #[.iface jN (kT (kE b1)),hY E,hY g,hV true])) I)
def k2 (R:EP)(y:BA)(g I E:Int)(w:World):Prop:=
 ((decide (g >= 2))=true->0<=(i64.wrap (g - 1))/\(i64.wrap (g - 1))<(y.size:Int))/\
 (((decide (g >= 2)) && ((bt y (i64.wrap (g - 1)))==32))=true->0<=(i64.wrap (g - 2))/\(i64.wrap (g - 2))<(y.size:Int))/\
 k3 R I E (((decide (g >= 2)) && ((bt y (i64.wrap (g - 1)))==32)) && ((bt y (i64.wrap (g - 2)))==32)) w
def bl2 (R:EP)(Xa:BA->Int->Int->Int->WP)(y:BA)(I E g:Int)(w:World):Prop:=
 ((decide (g<(y.size:Int)))=true->0<=g/\g<(y.size:Int))/\
 (((decide (g<(y.size:Int))) && (!((bt y g)==32)))=true->0<=g/\g<(y.size:Int))/\
 br ((decide (g<(y.size:Int))) && (((bt y g)==32)||((bt y g)==9)))
 (False)
 (k2 R y I E g w)
def l2 (R:EP)(I:BA)(E y g:Int)(w:World):Prop:=
 ∀X:BA->Int->Int->Int->WP,(∀I E y g w,bl2 R X I E y g w->X I E y g w)->X I E y g w
def k1 (R:EP)(E:BA)(g y:Int)(w:World):Prop:=
 l2 R E g y (i64.wrap (g+1)) w
def bl1 (R:EP)(I:BA->Int->Int->WP)(y:BA)(E g:Int)(w:World):Prop:=
 ((decide (g>0))=true->0<=(i64.wrap (g - 1))/\(i64.wrap (g - 1))<(y.size:Int))/\
 (((decide (g>0)) && (!((bt y (i64.wrap (g - 1)))==32)))=true->0<=(i64.wrap (g - 1))/\(i64.wrap (g - 1))<(y.size:Int))/\
 br ((decide (g>0)) && (((bt y (i64.wrap (g - 1)))==32)||((bt y (i64.wrap (g - 1)))==9)))
 (False)
 (k1 R y E g w)
def l1 (R:EP)(E:BA)(y g:Int)(w:World):Prop:=
 ∀X:BA->Int->Int->WP,(∀E y g w,bl1 R X E y g w->X E y g w)->X E y g w
end bU
def bU (R:EP)(E:OA)(y:BA)(g:Int)(w:World):Prop:=
 bU.l1 R y g g w
theorem bU.sound {R x0 x1 x2 w}(h:bU R x0 x1 x2 w):callE P jU #[kT x0,hX x1,hY x2] R w:=
 aG [(19,.lp [21,47,207] (bU.bl1 R) λg=> [(10,.no)]),(15,.mk [21,47,207] (bU.k1 R)),(79,.lp [21,47,207,227] (bU.bl2 R) λXa=> [(10,.no)]),(63,.mk [21,47,207,227] (bU.k2 R)),(223,.mk [207,227,1320] (bU.k3 R)),(351,.no)] Tryz.func118 Tryz.call118 h
def kg (R:EP)(V:OA)(y:BA)(g:Int)(w:World):Prop:=
 br (decide ((i64.wrap (g+1))<(y.size:Int)))
 (0<=(i64.wrap (g+1))/\(i64.wrap (g+1))<(y.size:Int)/\
 callE P l6 #[.int .u8 (bt y (i64.wrap (g+1)))] (λe I=> ∃E,e= hQ (hV E)/\
 br E
 (0<=(i64.wrap (g+1))/\(i64.wrap (g+1))<=(i64.wrap (g+2))/\(i64.wrap (g+2))<=(y.size:Int)/\
 box I #[hX (y.extract (Int.toNat (i64.wrap (g+1))) (Int.toNat (i64.wrap (g+2))))] An λO U=>
 R (hQ (.tuple #[.iface kU (kT (kE O)),hY g,hY (i64.wrap (g+2)),hV true])) U)
 (False)) w)
 (False)
theorem kg.sound {R x0 x1 x2 w}(h:kg R x0 x1 x2 w):callE P ji #[kT x0,hX x1,hY x2] R w:=
 aG [(469,.no),(373,.no),(501,.no),(29,.no),(7,.no)] Tryz.func109 Tryz.call109 h

def punB (c:UInt8):Bool:=(((decide (33<=c.toNat) && decide (c.toNat<=47))||(decide (58<=c.toNat) && decide (c.toNat<=64)))||(decide (91<=c.toNat) && decide (c.toNat<=96)))||(decide (123<=c.toNat) && decide (c.toNat<=126))
theorem zr (c:UInt8)(n:Nat):decide ((n:Int)<=((c.toNat:Nat):Int))=decide (n<=c.toNat):=by rw[decide_eq_decide];omega
theorem zt (c:UInt8)(n:Nat):decide (((c.toNat:Nat):Int)<=(n:Int))=decide (c.toNat<=n):=by rw[decide_eq_decide];omega
theorem yR {c:UInt8}(g:R (hQ (hV (punB c))) w):callE P l6 #[.int .u8 (c.toNat:Int)] R w:=by
 refine l7.sound ?_
 unfold l7
 unfold punB at g
 rw[<-zr c 33,<-zt c 47,<-zr c 58,<-zt c 64,<-zr c 91,<-zt c 96,<-zr c 123,<-zt c 126] at g
 exact g
theorem y9 {b:Nat}{p:PS}{c:UInt8}{A B:List UInt8}(hc:punB c=true)(hs:(A++92::c::B).length<1000000):
 qi b p (A++92::c::B) A.length (.func (.func ji) #[] #[]) [] (some (.esc [c],A.length,A.length+2)) (λp'=>p'=p):=by
 intro σ R L w _ h I
 refine gY ?_
 have g:(A++92::c::B).length=A.length+B.length+2:=by simp;omega
 have O:(A++92::c::B).getD (A.length+1) 0=c:=by
  have:=vE (A++ [92]) B c 0
  rw[show (A++ [92]:List UInt8).length=A.length+1 by simp] at this
  rw[<-this];simp
 refine kg.sound ?_
 unfold kg
 have U:i64.wrap ((A.length:Int)+2)=((A.length+2:Nat):Int):=by simp (disch:=omega) only[i64_in];omega
 rw[aN (by omega),U]
 refine ag (by rw[aJ,g];simp;omega) ⟨by omega,by rw[aJ,g];omega,?_⟩
 rw[pj,O]
 refine yR ⟨_,rfl,ag hc ⟨by omega,by omega,by rw[aJ,g];omega,?_⟩⟩
 have y:=qr (A++ [92]) [c] B
 rw[show (A++ [92]:List UInt8).length=A.length+1 by simp] at y
 rw[lC0,lC0,cj]
 have E:((A++92::c::B).take (A.length+2)).drop (A.length+1)= [c]:=by
  unfold sub at y
  rw[<-y];simp
 rw[E]
 refine Sat.bx h λnb w h=>?_
 exact I w p _ _ rfl rfl ⟨nb,_,rfl,rfl⟩ h.up1
theorem A8 {b:Nat}{p:PS}{A B:List UInt8}(W: ∀k,k+1=A.length->cO (A.getD k 0)=false)(a7:0<B.length->cO (B.getD 0 0)=false)(hs:(A++10::B).length<1000000):
 qi b p (A++10::B) A.length (.func (.func jU) #[] #[]) [] (some (.soft,A.length,A.length+1)) (λp'=>p'=p):=by
 intro σ R L w _ h a6
 refine gY ?_
 have g:(A++10::B).length=A.length+B.length+1:=by simp;omega
 have I: ∀ {c:UInt8},cO c=false->(((c.toNat:Nat):Int)==32)=false/\(((c.toNat:Nat):Int)==9)=false:=by
  intro c hc
  simp only[cO,lK2] at hc
  rw[u8b _ 32 32 rfl,u8b _ 9 9 rfl];exact hc
 refine bU.sound ?_
 intro X U
 have k1:bU.k1 R (bs (A++10::B)) (A.length:Nat) (A.length:Nat) w:=by
  unfold bU.k1
  rw[aN (by omega)]
  intro Y V
  have k2:bU.k2 R (bs (A++10::B)) (A.length:Nat) (A.length:Nat) ((A.length+1:Nat):Int) w:=by
   rcases lN4 A.length 2 with b3|b3
   ·have y:decide (((A.length:Nat):Int) >= 2)=false:=decide_eq_false (by omega)
    unfold bU.k2
    rw[y]
    refine⟨λh=>by simp at h,λh=>by simp at h,af rfl ?_⟩
    exact Sat.bx h λnb w h=>a6 w p _ _ rfl rfl ⟨nb,_,rfl,rfl⟩ h.up1
   ·have ht:decide (((A.length:Nat):Int) >= 2)=true:=decide_eq_true (by omega)
    have O:i64.wrap ((A.length:Int) - 1)=((A.length - 1:Nat):Int):=il (by omega) (by omega)
    have hc:=I (W (A.length - 1) (by omega))
    have E:bt (bs (A++10::B)) ((A.length - 1:Nat):Int)=((A.getD (A.length - 1) 0).toNat:Int):=by rw[pj,nE (by omega)]
    unfold bU.k2
    rw[ht,O,E,hc.1]
    refine⟨λ_=>⟨by omega,by rw[aJ,g];omega⟩,λh=>by simp at h,af rfl ?_⟩
    exact Sat.bx h λnb w h=>a6 w p _ _ rfl rfl ⟨nb,_,rfl,rfl⟩ h.up1
  rcases lK4 B.length with hb|hb
  ·have y:decide (((A.length+1:Nat):Int)<((bs (A++10::B)).size:Int))=false:=decide_eq_false (by rw[aJ,g];omega)
   refine V _ _ _ _ _ ?_
   unfold bU.bl2
   rw[y]
   exact⟨λh=>by simp at h,λh=>by simp at h,af rfl k2⟩
  ·have hc:=I (a7 hb)
   have E:bt (bs (A++10::B)) ((A.length+1:Nat):Int)=((B.getD 0 0).toNat:Int):=by
    rw[pj,pR (by omega),show A.length+1 - A.length=0+1 by omega,lI5]
   refine V _ _ _ _ _ ?_
   unfold bU.bl2
   rw[E,hc.1,hc.2]
   exact⟨λh=>⟨by omega,by rw[aJ,g];omega⟩,λh=>⟨by omega,by rw[aJ,g];omega⟩,af (by simp) k2⟩
 rcases lK4 A.length with b4|b4
 ·have y:decide (((A.length:Nat):Int)>0)=false:=decide_eq_false (by omega)
  refine U _ _ _ _ ?_
  unfold bU.bl1
  rw[y]
  exact⟨λh=>by simp at h,λh=>by simp at h,af rfl k1⟩
 ·have O:i64.wrap ((A.length:Int) - 1)=((A.length - 1:Nat):Int):=il (by omega) (by omega)
  have hc:=I (W (A.length - 1) (by omega))
  have E:bt (bs (A++10::B)) ((A.length - 1:Nat):Int)=((A.getD (A.length - 1) 0).toNat:Int):=by rw[pj,nE (by omega)]
  refine U _ _ _ _ ?_
  unfold bU.bl1
  rw[O,E,hc.1,hc.2]
  exact⟨λh=>⟨by omega,by rw[aJ,g];omega⟩,λh=>⟨by omega,by rw[aJ,g];omega⟩,af (by simp) k1⟩
theorem jv: ∀(a b:List Inl),rK (a++b)=rK a+rK b
 | [],b=>by simp[rK]
 |t::a,b=>by simp only[lR0,rK,jv a b];omega
theorem zB {A B:List UInt8}{e:Nat}(x:List UInt8)(y:e<=A.length):sub (A++(x++B)) e (A.length+x.length)=sub (A++(x++B)) e A.length++x:=by
 unfold sub
 have E:(A++(x++B)).take (A.length+x.length)=A++x:=by rw[<-lD0,show A.length+x.length=(A++x).length by simp,lQ4]
 have g:(A++(x++B)).take A.length=A:=lQ4
 rw[E,g,lX2 y]

def wB (c:UInt8):Bool:=(97<=c && c<=122)||128<=c
structure WdP (s:List UInt8):Prop where
 ne:s≠ []
 by_: ∀c∈s,wB c=true
 len:s.length<=100
 opn: ∀(b:Nat) (p:PS) (A B:List UInt8) (k:Nat),1<=k->(A++32::(hN k 42++(s++B))).length<1000000->
  qi b p (A++32::(hN k 42++(s++B))) (A.length+1) (.func (.func dR) #[] #[]) [] (some (.emphP (hN k 42) true false 0 (k:Nat),A.length+1,A.length+1+k)) (λp'=>p'=p)
 cls: ∀(b:Nat) (p:PS) (A B:List UInt8) (k:Nat),1<=k->(B= []\/ ∃B',B=32::B'\/B=10::B')->(A++(s++(hN k 42++B))).length<1000000->
  qi b p (A++(s++(hN k 42++B))) (A.length+s.length) (.func (.func dR) #[] #[]) [] (some (.emphP (hN k 42) false true 0 (k:Nat),A.length+s.length,A.length+s.length+k)) (λp'=>p'=p)
structure DsP (d:List UInt8):Prop where
 ne:d≠ []
 by_: ∀c∈d,ze c=true/\lG c=false
 len:d.length<=200
inductive Tk where
 |wd (s:List UInt8)
 |sp
 |nl
 |em (k:Nat) (s:List UInt8)
 |cd (s:List UInt8)
 |lk (s d:List UInt8)
 |es (s:List UInt8)
def Tk.B:Tk->List UInt8
 | .wd s=>s
 | .sp=> [32]
 | .nl=> [10]
 | .em k s=>hN k 42++(s++hN k 42)
 | .cd s=>96::(s++ [96])
 | .lk s d=>91::(s++93::40::(d++ [41]))
 | .es s=>92::42::s
def tkB (l:List Tk):List UInt8:=l.flatMap Tk.B
theorem cv (t:Tk)(l:List Tk):tkB (t::l)=t.B++tkB l:=rfl
theorem ud (a b:List Tk):tkB (a++b)=tkB a++tkB b:=by simp[tkB]
def okT:Nat->List Tk->Prop
 |n,[]=>n=2
 |n,.wd s::r=>n≠2/\WdP s/\okT 2 r
 |n,.sp::r=>n=2/\okT 1 r
 |n,.nl::r=>n=2/\okT 0 r
 |n,.em k s::r=>n=1/\WdP s/\(k=1\/k=2)/\okT 2 r
 |n,.cd s::r=>n=1/\WdP s/\okT 2 r
 |n,.lk s d::r=>n=1/\WdP s/\DsP d/\okT 2 r
 |n,.es s::r=>n=1/\WdP s/\okT 2 r
def fl (p:List UInt8):List Inl:=if p= [] then [] else [.plain p]
def Tk.raw:Tk->List Inl
 | .em k s=> [.emphP (hN k 42) true false 0 (k:Nat),.plain s,.emphP (hN k 42) false true 0 (k:Nat)]
 | .cd s=> [.code s]
 | .lk s d=> [.link [.plain s] d [] 0 false]
 |_=> [.soft]
def Tk.out:Tk->List Inl
 | .em k s=> [if k=1 then .emph [42] [.plain s] else .strong [42,42] [.plain s]]
 | .cd s=> [.code s]
 | .lk s d=> [.link [.plain s] d [] 0 false]
 |_=> [.soft]
def tkG (f:Tk->List Inl):List UInt8->List Tk->List Inl
 |p,[]=>fl p
 |p,.wd s::r=>tkG f (p++s) r
 |p,.sp::r=>tkG f (p++ [32]) r
 |p,.es s::r=>fl p++ .esc [42]::tkG f s r
 |p,.nl::r=>fl p++(f .nl++tkG f [] r)
 |p,.em k s::r=>fl p++(f (.em k s)++tkG f [] r)
 |p,.cd s::r=>fl p++(f (.cd s)++tkG f [] r)
 |p,.lk s d::r=>fl p++(f (.lk s d)++tkG f [] r)
structure De where
 out:List Inl
 p:List UInt8
 m:Nat
 a:List UInt8
 d:List UInt8
def De.step (st:De)(c:UInt8):De:=
 if st.m=0 then
  if c=42 then ⟨st.out,st.p,1,[],[]⟩ else if c=96 then ⟨st.out,st.p,5,[],[]⟩ else if c=91 then ⟨st.out,st.p,6,[],[]⟩ else if c=92 then ⟨st.out,st.p,9,[],[]⟩
  else if c=10 then ⟨st.out++(fl st.p++ [.soft]),[],0,[],[]⟩ else ⟨st.out,st.p++ [c],0,[],[]⟩
 else if st.m=1 then if c=42 then ⟨st.out,st.p,3,[],[]⟩ else ⟨st.out,st.p,2,[c],[]⟩
 else if st.m=2 then if c=42 then ⟨st.out++(fl st.p++ [.emph [42] [.plain st.a]]),[],0,[],[]⟩ else ⟨st.out,st.p,2,st.a++ [c],[]⟩
 else if st.m=3 then if c=42 then ⟨st.out,st.p,4,st.a,[]⟩ else ⟨st.out,st.p,3,st.a++ [c],[]⟩
 else if st.m=4 then ⟨st.out++(fl st.p++ [.strong [42,42] [.plain st.a]]),[],0,[],[]⟩
 else if st.m=5 then if c=96 then ⟨st.out++(fl st.p++ [.code st.a]),[],0,[],[]⟩ else ⟨st.out,st.p,5,st.a++ [c],[]⟩
 else if st.m=6 then if c=93 then ⟨st.out,st.p,7,st.a,[]⟩ else ⟨st.out,st.p,6,st.a++ [c],[]⟩
 else if st.m=7 then ⟨st.out,st.p,8,st.a,[]⟩
 else if st.m=8 then if c=41 then ⟨st.out++(fl st.p++ [.link [.plain st.a] st.d [] 0 false]),[],0,[],[]⟩ else ⟨st.out,st.p,8,st.a,st.d++ [c]⟩
 else ⟨st.out++(fl st.p++ [.esc [c]]),[],0,[],[]⟩
def wc (raw:List UInt8):List Inl:=
 let st:=raw.foldl De.step ⟨[],[],0,[],[]⟩
 st.out++fl st.p
theorem wg {c:UInt8}(h:wB c=true):c≠42/\c≠96/\c≠91/\c≠92/\c≠10/\c≠93/\c≠41/\c≠32/\c≠9:=by
 refine⟨?_,?_,?_,?_,?_,?_,?_,?_,?_⟩<;>(rintro rfl;revert h;decide)
theorem Gx {out:List Inl}: ∀ {s p:List UInt8},(∀c∈s,wB c=true)->s.foldl De.step ⟨out,p,0,[],[]⟩=⟨out,p++s,0,[],[]⟩
 | [],p,_=>by simp
 |c::s,p,h=>by
  obtain⟨O,y,g,I,E,_⟩:=wg (h c (.head _))
  have e:De.step ⟨out,p,0,[],[]⟩ c=⟨out,p++ [c],0,[],[]⟩:=by simp[De.step,O,y,g,I,E]
  rw[lV1,e,Gx λd hd=>h d (.tail _ hd)];simp
theorem Hv {out:List Inl}{p:List UInt8}: ∀ {s a:List UInt8},(∀c∈s,wB c=true)->s.foldl De.step ⟨out,p,2,a,[]⟩=⟨out,p,2,a++s,[]⟩
 | [],a,_=>by simp
 |c::s,a,h=>by
  have e:De.step ⟨out,p,2,a,[]⟩ c=⟨out,p,2,a++ [c],[]⟩:=by simp[De.step,(wg (h c (.head _))).1]
  rw[lV1,e,Hv λd hd=>h d (.tail _ hd)];simp
theorem Hu {out:List Inl}{p:List UInt8}: ∀ {s a:List UInt8},(∀c∈s,wB c=true)->s.foldl De.step ⟨out,p,3,a,[]⟩=⟨out,p,3,a++s,[]⟩
 | [],a,_=>by simp
 |c::s,a,h=>by
  have e:De.step ⟨out,p,3,a,[]⟩ c=⟨out,p,3,a++ [c],[]⟩:=by simp[De.step,(wg (h c (.head _))).1]
  rw[lV1,e,Hu λd hd=>h d (.tail _ hd)];simp
theorem Ht {out:List Inl}{p:List UInt8}: ∀ {s a:List UInt8},(∀c∈s,wB c=true)->s.foldl De.step ⟨out,p,5,a,[]⟩=⟨out,p,5,a++s,[]⟩
 | [],a,_=>by simp
 |c::s,a,h=>by
  have e:De.step ⟨out,p,5,a,[]⟩ c=⟨out,p,5,a++ [c],[]⟩:=by simp[De.step,(wg (h c (.head _))).2.1]
  rw[lV1,e,Ht λd hd=>h d (.tail _ hd)];simp
theorem Hs {out:List Inl}{p:List UInt8}: ∀ {s a:List UInt8},(∀c∈s,wB c=true)->s.foldl De.step ⟨out,p,6,a,[]⟩=⟨out,p,6,a++s,[]⟩
 | [],a,_=>by simp
 |c::s,a,h=>by
  have e:De.step ⟨out,p,6,a,[]⟩ c=⟨out,p,6,a++ [c],[]⟩:=by simp[De.step,(wg (h c (.head _))).2.2.2.2.2.1]
  rw[lV1,e,Hs λd hd=>h d (.tail _ hd)];simp
theorem Hr {out:List Inl}{p a:List UInt8}: ∀ {s d:List UInt8},(∀c∈s,c≠41)->s.foldl De.step ⟨out,p,8,a,d⟩=⟨out,p,8,a,d++s⟩
 | [],d,_=>by simp
 |c::s,d,h=>by
  have e:De.step ⟨out,p,8,a,d⟩ c=⟨out,p,8,a,d++ [c]⟩:=by simp[De.step,h c (.head _)]
  rw[lV1,e,Hr λx g=>h x (.tail _ g)];simp
theorem Gw {out:List Inl}{p s:List UInt8}{k:Nat}(hs:WdP s)(E:k=1\/k=2):(Tk.em k s).B.foldl De.step ⟨out,p,0,[],[]⟩=⟨out++(fl p++Tk.out (.em k s)),[],0,[],[]⟩:=by
 obtain⟨c,t,rfl⟩:=lZ0 hs.ne
 have hc:=(wg (hs.by_ c (.head _))).1
 have ht: ∀d∈t,wB d=true:=λd hd=>hs.by_ d (.tail _ hd)
 rcases E with rfl|rfl
 ·have e:(Tk.em 1 (c::t)).B=42::c::(t++ [42]):=rfl
  have g:De.step ⟨out,p,0,[],[]⟩ 42=⟨out,p,1,[],[]⟩:=rfl
  have y:De.step ⟨out,p,1,[],[]⟩ c=⟨out,p,2,[c],[]⟩:=by simp[De.step,hc]
  rw[e,lV1,lV1,g,y,lN2,Hv ht]
  rfl
 ·have e:(Tk.em 2 (c::t)).B=42::42::((c::t)++ [42,42]):=rfl
  have g:De.step ⟨out,p,0,[],[]⟩ 42=⟨out,p,1,[],[]⟩:=rfl
  have y:De.step ⟨out,p,1,[],[]⟩ 42=⟨out,p,3,[],[]⟩:=rfl
  rw[e,lV1,lV1,g,y,lN2,Hu hs.by_]
  rfl
theorem rC: ∀(l:List Tk) (n:Nat) (out:List Inl) (p:List UInt8),okT n l-> ∃O p',(tkB l).foldl De.step ⟨out,p,0,[],[]⟩=⟨O,p',0,[],[]⟩/\O++fl p'=out++tkG Tk.out p l
 | [],n,out,p,_=>⟨out,p,rfl,rfl⟩
 | .wd s::r,n,out,p,h=>by
  obtain⟨o,q,y,g⟩:=rC r 2 out (p++s) h.2.2
  refine⟨o,q,?_,g⟩
  rw[cv,lN2]
  show (tkB r).foldl De.step (s.foldl De.step _)=_
  rw[Gx h.2.1.by_];exact y
 | .sp::r,n,out,p,h=>by
  obtain⟨o,q,y,g⟩:=rC r 1 out (p++ [32]) h.2
  exact⟨o,q,y,g⟩
 | .nl::r,n,out,p,h=>by
  obtain⟨o,q,y,g⟩:=rC r 0 (out++(fl p++ [.soft])) [] h.2
  refine⟨o,q,y,?_⟩
  rw[g];simp[tkG,Tk.out]
 | .em k s::r,n,out,p,h=>by
  obtain⟨o,q,y,g⟩:=rC r 2 (out++(fl p++Tk.out (.em k s))) [] h.2.2.2
  refine⟨o,q,?_,?_⟩
  ·rw[cv,lN2,Gw h.2.1 h.2.2.1];exact y
  ·rw[g];simp[tkG]
 | .cd s::r,n,out,p,h=>by
  obtain⟨o,q,y,g⟩:=rC r 2 (out++(fl p++ [.code s])) [] h.2.2
  refine⟨o,q,?_,?_⟩
  ·have e:(Tk.cd s).B=96::(s++ [96]):=rfl
   have E:De.step ⟨out,p,0,[],[]⟩ 96=⟨out,p,5,[],[]⟩:=rfl
   rw[cv,lN2,e,lV1,E,lN2,Ht h.2.1.by_];exact y
  ·rw[g];simp[tkG,Tk.out]
 | .lk s d::r,n,out,p,h=>by
  obtain⟨o,q,y,g⟩:=rC r 2 (out++(fl p++ [.link [.plain s] d [] 0 false])) [] h.2.2.2
  refine⟨o,q,?_,?_⟩
  ·have e:(Tk.lk s d).B=91::(s++93::40::(d++ [41])):=rfl
   have E:De.step ⟨out,p,0,[],[]⟩ 91=⟨out,p,6,[],[]⟩:=rfl
   have I: ∀a,De.step ⟨out,p,6,a,[]⟩ 93=⟨out,p,7,a,[]⟩:=λ_=>rfl
   have V: ∀a,De.step ⟨out,p,7,a,[]⟩ 40=⟨out,p,8,a,[]⟩:=λ_=>rfl
   have hd: ∀c∈d,c≠41:=λc hc U=>by
    have:=(h.2.2.1.by_ c hc).1
    rw[U] at this;exact absurd this (by decide)
   rw[cv,lN2,e,lV1,E,lN2,Hs h.2.1.by_,lV1,lV1,I,V,lN2,Hr hd];exact y
  ·rw[g];simp[tkG,Tk.out]
 | .es s::r,n,out,p,h=>by
  obtain⟨o,q,y,g⟩:=rC r 2 (out++(fl p++ [.esc [42]])) s h.2.2
  refine⟨o,q,?_,?_⟩
  ·have e:(Tk.es s).B=92::42::s:=rfl
   have E:De.step ⟨out,p,0,[],[]⟩ 92=⟨out,p,9,[],[]⟩:=rfl
   have I:De.step ⟨out,p,9,[],[]⟩ 42=⟨out++(fl p++ [.esc [42]]),[],0,[],[]⟩:=rfl
   rw[cv,lN2,e,lV1,lV1,E,I,Gx h.2.1.by_];exact y
  ·rw[g];simp[tkG]
theorem z9 {l:List Tk}{n:Nat}(h:okT n l):wc (tkB l)=tkG Tk.out [] l:=by
 obtain⟨o,q,y,g⟩:=rC l n [] [] h
 unfold wc
 rw[y]
 exact g
def st0:List (List Nat):= [[],[],[],[],[]]
theorem pP {g:List Inl}{st:List (List Nat)}{t:Inl}{ts:List Inl}(h:t.plain? =none\/ ∃s,t= .plain s):dT g st (t::ts)=dT (g++ [t]) st ts:=by
 cases t<;>first|rfl|(rcases h with h|⟨s,h⟩<;>simp[Inl.plain?] at h)
theorem AP (g:List Inl)(st:List (List Nat))(p:List UInt8)(ts:List Inl):dT g st (fl p++ts)=dT (g++fl p) st ts:=by
 unfold fl
 split
 ·simp
 ·exact pP (.inr ⟨_,rfl⟩)
theorem go_em {g:List Inl}{k:Nat}{s:List UInt8}{ts:List Inl}(W:k=1\/k=2):dT g st0 (Tk.raw (.em k s)++ts)=dT (g++Tk.out (.em k s)) st0 ts:=by
 have y:(g++ [Inl.emphP (hN k 42) true false g.length (k:Nat)]++ [.plain s])[g.length]? =some (.emphP (hN k 42) true false g.length (k:Nat)):=by
  rw[lD0,lH0 (lA1 _),lW1];rfl
 have O:Di false true (k:Nat) (g++ [Inl.emphP (hN k 42) true false g.length (k:Nat)]++ [.plain s]) g.length=true:=by
  unfold Di;rw[y];rfl
 have I:(g++ [Inl.emphP (hN k 42) true false g.length (k:Nat)]++ [Inl.plain s]).drop (g.length+1)= [Inl.plain s]:=by
  rw[lB5 (by simp)]
 have E:(g++ [Inl.emphP (hN k 42) true false g.length (k:Nat)]++ [Inl.plain s]).take g.length=g:=by
  rw[lD0,lC5 rfl]
 have V: [[],[g.length],[],[],[]].map (Aq g.length)=st0:=by
  simp[Aq,st0]
 have a6:dT g st0 (Tk.raw (.em k s)++ts)=dT (g++ [Inl.emphP (hN k 42) true false g.length (k:Nat)]++ [.plain s]) [[],[g.length],[],[],[]] (.emphP (hN k 42) false true 0 (k:Nat)::ts):=by
  rcases W with rfl|rfl<;>rfl
 rw[a6]
 rcases W with rfl|rfl
 ·have U:j4 1 false true ((1:Nat):Int) 1 [42] (g++ [Inl.emphP [42] true false g.length ((1:Nat):Int)]++ [.plain s]) [[],[g.length],[],[],[]]=([],g++ [.emph [42] [.plain s]],st0):=by
   have y:=y;have O:=O;have I:=I;have E:=E
   simp only[hN] at y O I E
   unfold j4
   simp only[lI5,List.getD_cons_zero,lR4,lT5,lT0,List.find?_cons,O,y]
   simp[j4,I,E,V]
  show dT _ _ (.emphP [42] false true 0 ((1:Nat):Int)::ts)=_
  rw[dT]
  simp only[if_true,show tG (([42]:List UInt8).headD 0)=1 from rfl,lE0]
  rw[show hN 1 (42:UInt8)= [42] from rfl,U]
  simp[Tk.out]
 ·have U:j4 1 false true ((2:Nat):Int) 2 [42,42] (g++ [Inl.emphP [42,42] true false g.length ((2:Nat):Int)]++ [.plain s]) [[],[g.length],[],[],[]]=([],g++ [.strong [42,42] [.plain s]],st0):=by
   have y:=y;have O:=O;have I:=I;have E:=E
   simp only[hN] at y O I E
   unfold j4
   simp only[lI5,List.getD_cons_zero,lR4,lT5,lT0,List.find?_cons,O,y]
   simp[j4,I,E,V]
  show dT _ _ (.emphP [42,42] false true 0 ((2:Nat):Int)::ts)=_
  rw[dT]
  simp only[if_true,show tG (([42,42]:List UInt8).headD 0)=1 from rfl,show ([42,42]:List UInt8).length=2 from rfl]
  rw[show hN 2 (42:UInt8)= [42,42] from rfl,U]
  simp[Tk.out]
theorem xy: ∀(l:List Tk) (n:Nat) (p:List UInt8) (g:List Inl),okT n l->dT g st0 (tkG Tk.raw p l)=g++tkG Tk.out p l
 | [],n,p,g,_=>by
  show dT g st0 (fl p)=_
  have:=AP g st0 p []
  rw[lG0] at this
  rw[this];rfl
 | .wd s::r,n,p,g,h=>xy r 2 (p++s) g h.2.2
 | .sp::r,n,p,g,h=>xy r 1 (p++ [32]) g h.2
 | .nl::r,n,p,g,h=>by
  show dT g st0 (fl p++([.soft]++tkG Tk.raw [] r))=g++(fl p++([.soft]++tkG Tk.out [] r))
  rw[AP,lR2,pP (.inl rfl),xy r 0 [] _ h.2];simp
 | .em k s::r,n,p,g,h=>by
  show dT g st0 (fl p++(Tk.raw (.em k s)++tkG Tk.raw [] r))=g++(fl p++(Tk.out (.em k s)++tkG Tk.out [] r))
  rw[AP,go_em h.2.2.1,xy r 2 [] _ h.2.2.2];simp
 | .cd s::r,n,p,g,h=>by
  show dT g st0 (fl p++([.code s]++tkG Tk.raw [] r))=g++(fl p++([.code s]++tkG Tk.out [] r))
  rw[AP,lR2,pP (.inl rfl),xy r 2 [] _ h.2.2];simp
 | .lk s d::r,n,p,g,h=>by
  show dT g st0 (fl p++([.link [.plain s] d [] 0 false]++tkG Tk.raw [] r))=g++(fl p++([.link [.plain s] d [] 0 false]++tkG Tk.out [] r))
  rw[AP,lR2,pP (.inl rfl),xy r 2 [] _ h.2.2.2];simp
 | .es s::r,n,p,g,h=>by
  show dT g st0 (fl p++(.esc [42]::tkG Tk.raw s r))=g++(fl p++(.esc [42]::tkG Tk.out s r))
  rw[AP,pP (.inl rfl),xy r 2 s _ h.2.2];simp
theorem EE {l:List Tk}{n:Nat}(h:okT n l):xG (tkG Tk.raw [] l)=tkG Tk.out [] l:=by
 have:=xy l n [] [] h
 rw[lT0] at this
 exact this

theorem Bu {c:UInt8}(h:wB c=true):cO c=false/\lG c=false:=by
 have:=lD2.1 (show (List.range 256).all (λn=> !(wB (UInt8.ofNat n))||(!cO (UInt8.ofNat n) && !lG (UInt8.ofNat n)))=true by kernel_rfl) c.toNat (lV2.2 c.toNat_lt)
 rw[lZ3,h] at this
 simpa using this
theorem G0 {c:UInt8}(h:wB c=true)(o:Opt):ka o c= .nil:=by
 have g:c≠92/\c≠96/\c≠60/\c≠91/\c≠33/\c≠95/\c≠42/\c≠46/\c≠45/\c≠34/\c≠39/\c≠126/\c≠10/\c≠38/\c≠58:=by
  refine⟨?_,?_,?_,?_,?_,?_,?_,?_,?_,?_,?_,?_,?_,?_,?_⟩<;>(rintro rfl;revert h;decide)
 simp[ka,g]
theorem okT.last: ∀ {l:List Tk} {n:Nat},okT n l->l≠ []-> ∃m d,tkB l=m++ [d]/\cO d=false/\d≠35
 | [],n,_,h=>absurd rfl h
 |t::r,n,h,_=>by
  by_cases hr:r= []
  ·subst hr
   have y: ∀ {s:List UInt8},WdP s-> ∃m d,s=m++ [d]/\cO d=false/\d≠35:=by
    intro s hs
    rcases lX1 s with h0|⟨m,d,h0⟩
    ·exact absurd h0 hs.ne
    ·rw[lG2] at h0
     exact⟨m,d,h0,(Bu (hs.by_ d (by rw[h0];simp))).1,by have:=hs.by_ d (by rw[h0];simp);rintro rfl;revert this;decide⟩
   cases t with
   |wd s=>
    obtain⟨m,d,e,hd⟩:=y h.2.1
    exact⟨m,d,by rw[cv];simp[Tk.B,tkB];exact e,hd⟩
   |sp=>exact absurd h.2 (by simp[okT])
   |nl=>exact absurd h.2 (by simp[okT])
   |em k s=>
    obtain⟨j,rfl⟩: ∃j,k=j+1:=⟨k - 1,by have:=h.2.2.1;omega⟩
    refine⟨hN (j+1) 42++(s++hN j 42),42,?_,by decide,by decide⟩
    rw[cv];simp[Tk.B,tkB,lY4]
   |cd s=>exact⟨96::s,96,by rw[cv];simp[Tk.B,tkB],by decide,by decide⟩
   |lk s d=>exact⟨91::(s++93::40::d),41,by rw[cv];simp[Tk.B,tkB],by decide,by decide⟩
   |es s=>
    obtain⟨m,d,e,hd⟩:=y h.2.1
    exact⟨92::42::m,d,by rw[cv];simp[Tk.B,tkB];exact e,hd⟩
  ·have E: ∃g,okT g r:=by
    cases t with
    |wd s=>exact⟨_,h.2.2⟩
    |sp=>exact⟨_,h.2⟩
    |nl=>exact⟨_,h.2⟩
    |em k s=>exact⟨_,h.2.2.2⟩
    |cd s=>exact⟨_,h.2.2⟩
    |lk s d=>exact⟨_,h.2.2.2⟩
    |es s=>exact⟨_,h.2.2⟩
   obtain⟨g,I⟩:=E
   obtain⟨m,d,e,hd⟩:=okT.last I hr
   exact⟨t.B++m,d,by rw[cv,e,lD0],hd⟩
theorem okT.next {r:List Tk}(h:okT 2 r):tkB r= []\/ ∃B',tkB r=32::B'\/tkB r=10::B':=by
 cases r with
 |nil=>exact .inl rfl
 |cons t r=>
  cases t with
  |sp=>exact .inr ⟨tkB r,.inl rfl⟩
  |nl=>exact .inr ⟨tkB r,.inr rfl⟩
  |wd s=>exact absurd rfl h.1
  |em k s=>exact absurd h.1 (by decide)
  |cd s=>exact absurd h.1 (by decide)
  |lk s d=>exact absurd h.1 (by decide)
  |es s=>exact absurd h.1 (by decide)
theorem okT.first {r:List Tk}(h:okT 0 r): ∃s g,r= .wd s::g/\WdP s:=by
 cases r with
 |nil=>exact absurd h (by simp[okT])
 |cons t r=>
  cases t with
  |wd s=>exact⟨s,r,rfl,h.2.1⟩
  |sp=>exact absurd h.1 (by decide)
  |nl=>exact absurd h.1 (by decide)
  |em k s=>exact absurd h.1 (by decide)
  |cd s=>exact absurd h.1 (by decide)
  |lk s d=>exact absurd h.1 (by decide)
  |es s=>exact absurd h.1 (by decide)
theorem vD {t:Inl}(ht:ta t=none)(h:Option UInt8):h=none\/ta t≠h:=by
 cases h with
 |none=>exact .inl rfl
 |some c=>exact .inr (by rw[ht];simp)
theorem p7 {p:List UInt8}{h:Option UInt8}{ts:List Inl}(y:p≠ [])(g:nT none ts):nT h (fl p++ts):=by
 unfold fl
 rw[if_neg y]
 exact⟨vD rfl h,g⟩
theorem lA: ∀(l:List Tk) (n:Nat) (p:List UInt8) (h:Option UInt8),okT n l->(n=1->p≠ [])->(h=none\/p≠ []\/n=2)->nT h (tkG Tk.raw p l)
 | [],n,p,h,_,_,_=>by
  show nT h (fl p)
  unfold fl
  split
  ·trivial
  ·exact⟨vD rfl h,trivial⟩
 | .wd s::r,n,p,h,hok,_,_=>lA r 2 (p++s) h hok.2.2 (by simp) (.inr (.inr rfl))
 | .sp::r,n,p,h,hok,_,_=>lA r 1 (p++ [32]) h hok.2 (by simp) (.inr (.inl (by simp)))
 | .nl::r,n,p,h,hok,_,_=>by
  have y:=lA r 0 [] none hok.2 (by simp) (.inl rfl)
  show nT h (fl p++(.soft::tkG Tk.raw [] r))
  by_cases g:p= []
  ·subst g;exact⟨vD rfl h,y⟩
  ·exact p7 g ⟨.inl rfl,y⟩
 | .em k s::r,n,p,h,hok,g,_=>by
  have y:=lA r 2 [] (ta (.emphP (hN k 42) false true 0 (k:Nat))) hok.2.2.2 (by simp) (.inr (.inr rfl))
  exact p7 (g hok.1) ⟨.inl rfl,⟨vD rfl _,⟨.inl rfl,y⟩⟩⟩
 | .cd s::r,n,p,h,hok,g,_=>p7 (g hok.1) ⟨.inl rfl,lA r 2 [] none hok.2.2 (by simp) (.inl rfl)⟩
 | .lk s d::r,n,p,h,hok,g,_=>p7 (g hok.1) ⟨.inl rfl,lA r 2 [] none hok.2.2.2 (by simp) (.inl rfl)⟩
 | .es s::r,n,p,h,hok,g,_=>p7 (g hok.1) ⟨.inl rfl,lA r 2 s none hok.2.2 (by simp) (.inl rfl)⟩
theorem nt {f:Tk->List Inl}: ∀(l:List Tk) (n:Nat) (p:List UInt8) (t:Inl),okT n l->t∈tkG f p l->(∃s,s≠ []/\s.length<=p.length+(tkB l).length/\t= .plain s)\/t= .esc [42]\/t∈f .nl\/(∃k s,WdP s/\(k=1\/k=2)/\t∈f (.em k s))\/(∃s,WdP s/\t∈f (.cd s))\/ ∃s d,WdP s/\DsP d/\t∈f (.lk s d)
 | [],n,p,t,_,h=>by
  have h:t∈fl p:=h
  unfold fl at h
  split at h
  ·cases h
  ·rename_i I;obtain rfl:=lN0.1 h;exact .inl ⟨p,I,by omega,rfl⟩
 | .wd s::r,n,p,t,hok,h=>by
  rcases nt r 2 (p++s) t hok.2.2 h with ⟨u,E,y,g⟩|h
  ·exact .inl ⟨u,E,by rw[cv,lA0];simp[Tk.B] at y⊢;omega,g⟩
  ·exact .inr h
 | .sp::r,n,p,t,hok,h=>by
  rcases nt r 1 (p++ [32]) t hok.2 h with ⟨u,E,y,g⟩|h
  ·exact .inl ⟨u,E,by rw[cv,lA0];simp[Tk.B] at y⊢;omega,g⟩
  ·exact .inr h
 | .es s::r,n,p,t,hok,h=>by
  have h:t∈fl p++ .esc [42]::tkG f s r:=h
  rcases lP0.1 h with h|h
  ·unfold fl at h
   split at h
   ·cases h
   ·rename_i I;obtain rfl:=lN0.1 h;exact .inl ⟨p,I,by omega,rfl⟩
  ·rcases lW0.1 h with rfl|h
   ·exact .inr (.inl rfl)
   ·rcases nt r 2 s t hok.2.2 h with ⟨u,E,y,g⟩|h
    ·exact .inl ⟨u,E,by rw[cv,lA0];simp[Tk.B] at y⊢;omega,g⟩
    ·exact .inr h
 | .nl::r,n,p,t,hok,h=>by
  have h:t∈fl p++(f .nl++tkG f [] r):=h
  rcases lP0.1 h with h|h
  ·unfold fl at h
   split at h
   ·cases h
   ·rename_i I;obtain rfl:=lN0.1 h;exact .inl ⟨p,I,by omega,rfl⟩
  ·rcases lP0.1 h with h|h
   ·exact .inr (.inr (.inl h))
   ·rcases nt r 0 [] t hok.2 h with ⟨u,E,y,g⟩|h
    ·exact .inl ⟨u,E,by rw[cv,lA0];simp[Tk.B] at y⊢;omega,g⟩
    ·exact .inr h
 | .em k s::r,n,p,t,hok,h=>by
  have h:t∈fl p++(f (.em k s)++tkG f [] r):=h
  rcases lP0.1 h with h|h
  ·unfold fl at h
   split at h
   ·cases h
   ·rename_i I;obtain rfl:=lN0.1 h;exact .inl ⟨p,I,by omega,rfl⟩
  ·rcases lP0.1 h with h|h
   ·exact .inr (.inr (.inr (.inl ⟨k,s,hok.2.1,hok.2.2.1,h⟩)))
   ·rcases nt r 2 [] t hok.2.2.2 h with ⟨u,E,y,g⟩|h
    ·exact .inl ⟨u,E,by rw[cv,lA0];simp[Tk.B] at y⊢;omega,g⟩
    ·exact .inr h
 | .cd s::r,n,p,t,hok,h=>by
  have h:t∈fl p++(f (.cd s)++tkG f [] r):=h
  rcases lP0.1 h with h|h
  ·unfold fl at h
   split at h
   ·cases h
   ·rename_i I;obtain rfl:=lN0.1 h;exact .inl ⟨p,I,by omega,rfl⟩
  ·rcases lP0.1 h with h|h
   ·exact .inr (.inr (.inr (.inr (.inl ⟨s,hok.2.1,h⟩))))
   ·rcases nt r 2 [] t hok.2.2 h with ⟨u,E,y,g⟩|h
    ·exact .inl ⟨u,E,by rw[cv,lA0];simp[Tk.B] at y⊢;omega,g⟩
    ·exact .inr h
 | .lk s d::r,n,p,t,hok,h=>by
  have h:t∈fl p++(f (.lk s d)++tkG f [] r):=h
  rcases lP0.1 h with h|h
  ·unfold fl at h
   split at h
   ·cases h
   ·rename_i I;obtain rfl:=lN0.1 h;exact .inl ⟨p,I,by omega,rfl⟩
  ·rcases lP0.1 h with h|h
   ·exact .inr (.inr (.inr (.inr (.inr ⟨s,d,hok.2.1,hok.2.2.1,h⟩))))
   ·rcases nt r 2 [] t hok.2.2.2 h with ⟨u,E,y,g⟩|h
    ·exact .inl ⟨u,E,by rw[cv,lA0];simp[Tk.B] at y⊢;omega,g⟩
    ·exact .inr h
theorem wf_tk {l:List Tk}{n:Nat}{p:List UInt8}(h:okT n l):wfE (tkG Tk.raw p l):=by
 intro s O U i m E
 rcases nt l n p _ h E with ⟨u,_,_,h⟩|h|h|⟨k,u,_,y,h⟩|⟨u,_,h⟩|⟨u,d,_,_,h⟩
 ·cases h
 ·cases h
 ·simp[Tk.raw] at h
 ·have g:s=hN k 42/\m=((k:Nat):Int):=by
   simp only[Tk.raw,lW0,lF1,or_false] at h
   rcases h with h|h|h
   ·injection h with h1 h2 h3 h4 h5;exact⟨h1,h5⟩
   ·cases h
   ·injection h with h1 h2 h3 h4 h5;exact⟨h1,h5⟩
  obtain⟨rfl,rfl⟩:=g
  exact⟨by rcases y with rfl|rfl<;>simp,⟨42,.inl rfl,λx I=>(lV3.1 I).2⟩,by simp;omega,by omega,by omega⟩
 ·simp[Tk.raw] at h
 ·simp[Tk.raw] at h
theorem Hg {l:List Tk}{n:Nat}{p:List UInt8}(h:okT n l): ∀t∈tkG Tk.out p l,∀s,t.plain? =some s->s≠ []:=by
 intro t ht s hs
 rcases nt l n p _ h ht with ⟨u,g,_,rfl⟩|rfl|h|⟨k,u,_,y,h⟩|⟨u,_,h⟩|⟨u,d,_,_,h⟩
 ·simp[Inl.plain?] at hs;subst hs;exact g
 ·simp[Inl.plain?] at hs
 ·simp[Tk.out] at h;subst h;simp[Inl.plain?] at hs
 ·simp only[Tk.out,lN0] at h
  subst h
  split at hs<;>simp[Inl.plain?] at hs
 ·simp[Tk.out] at h;subst h;simp[Inl.plain?] at hs
 ·simp[Tk.out] at h;subst h;simp[Inl.plain?] at hs
theorem BV {l:List Tk}{n:Nat}{p:List UInt8}(h:okT n l)(V:p.length+(tkB l).length<1000000):mf (tkG Tk.out p l):=by
 have y: ∀ts:List Inl,(∀t∈ts,su t)->mf ts:=by
  intro ts
  induction ts with
  |nil=>intro _;rw[mf];trivial
  |cons t ts E=>intro h;rw[mf];exact⟨h t (.head _),E λx I=>h x (.tail _ I)⟩
 have one: ∀s:List UInt8,s.length<=100->mf [Inl.plain s]:=λs hs=>by
  rw[mf,su,mf];exact⟨by omega,trivial⟩
 refine y _ λt ht=>?_
 rcases nt l n p _ h ht with ⟨u,g,O,rfl⟩|rfl|h|⟨k,u,g,U,h⟩|⟨u,g,h⟩|⟨u,d,g,hd,h⟩
 ·rw[su];omega
 ·rw[su];simp
 ·simp[Tk.out] at h;subst h;rw[su];trivial
 ·simp only[Tk.out,lN0] at h
  subst h
  have:=one u g.len
  split
  ·rw[su];exact⟨by simp,by simp,this⟩
  ·rw[su];exact⟨by simp,by simp,this⟩
 ·simp[Tk.out] at h;subst h;rw[su];have:=g.len;omega
 ·simp[Tk.out] at h;subst h;rw[su]
  have:=hd.len
  exact⟨by omega,by simp,rfl,by simp,one u g.len⟩
theorem rp {q:List (List UInt8)}{t:Inl}{ts:List Inl}(h:t.plain? =none):ej q (t::ts)=rx q++t::ej [] ts:=by rw[ej,h]
theorem AF (q:List (List UInt8))(p:List UInt8)(ts:List Inl):ej q (.plain p::ts)=ej (q++ [p]) ts:=rfl
theorem pH {p:List UInt8}{t:Inl}{ts:List Inl}(ht:t.plain? =none):ej [] (fl p++(t::ts))=fl p++t::ej [] ts:=by
 by_cases g:p= []
 ·subst g
  show ej [] (t::ts)=_
  rw[rp ht];rfl
 ·have e:fl p= [.plain p]:=by simp[fl,g]
  rw[e,lR2,AF,rp ht]
  simp[rx]
theorem lh: ∀(l:List Tk) (n:Nat) (p:List UInt8),okT n l->li (tkG Tk.out p l)=tkG Tk.out p l
 | [],n,p,_=>by
  show li (fl p)=fl p
  by_cases y:p= []
  ·subst y;rfl
  ·simp[fl,y,li,ej,rx,Inl.plain?]
 | .wd s::r,n,p,h=>lh r 2 _ h.2.2
 | .sp::r,n,p,h=>lh r 1 _ h.2
 | .nl::r,n,p,h=>by
  have g:=lh r 0 [] h.2
  show ej [] (fl p++(.soft::tkG Tk.out [] r))=fl p++(.soft::tkG Tk.out [] r)
  rw[pH rfl];unfold li at g;rw[g]
 | .em k s::r,n,p,h=>by
  have g:=lh r 2 [] h.2.2.2
  have y: ∀c:Prop,[Decidable c]->(if c then Inl.emph [42] [.plain s] else Inl.strong [42,42] [.plain s]).plain? =none:=by intro c _;split<;>rfl
  show ej [] (fl p++((if k=1 then Inl.emph [42] [.plain s] else .strong [42,42] [.plain s])::tkG Tk.out [] r))=fl p++((if k=1 then Inl.emph [42] [.plain s] else .strong [42,42] [.plain s])::tkG Tk.out [] r)
  rw[pH (y _)];unfold li at g;rw[g]
 | .cd s::r,n,p,h=>by
  have g:=lh r 2 [] h.2.2
  show ej [] (fl p++(.code s::tkG Tk.out [] r))=fl p++(.code s::tkG Tk.out [] r)
  rw[pH rfl];unfold li at g;rw[g]
 | .lk s d::r,n,p,h=>by
  have g:=lh r 2 [] h.2.2.2
  show ej [] (fl p++(.link [.plain s] d [] 0 false::tkG Tk.out [] r))=fl p++(.link [.plain s] d [] 0 false::tkG Tk.out [] r)
  rw[pH rfl];unfold li at g;rw[g]
 | .es s::r,n,p,h=>by
  have g:=lh r 2 s h.2.2
  show ej [] (fl p++(.esc [42]::tkG Tk.out s r))=fl p++(.esc [42]::tkG Tk.out s r)
  rw[pH rfl];unfold li at g;rw[g]
theorem qv (p:List UInt8):rK (fl p)=p.length:=by
 by_cases g:p= []
 ·subst g;rfl
 ·simp[fl,g,rK,Inl.plain?]
theorem nk: ∀(l:List Tk) (n:Nat) (p:List UInt8),okT n l->rK (tkG Tk.out p l)<=p.length+(tkB l).length
 | [],n,p,_=>by show rK (fl p)<=_;rw[qv];omega
 | .wd s::r,n,p,h=>by have:=nk r 2 (p++s) h.2.2;rw[cv,lA0];simp[Tk.B,tkG] at this⊢;omega
 | .sp::r,n,p,h=>by have:=nk r 1 (p++ [32]) h.2;rw[cv,lA0];simp[Tk.B,tkG] at this⊢;omega
 | .nl::r,n,p,h=>by
  have:=nk r 0 [] h.2
  rw[cv,lA0];simp only[tkG,jv,qv];simp[Tk.B,Tk.out,rK,Inl.plain?] at this⊢;omega
 | .em k s::r,n,p,h=>by
  have:=nk r 2 [] h.2.2.2
  have g:rK (Tk.out (.em k s))=0:=by show rK [if k=1 then Inl.emph [42] [.plain s] else Inl.strong [42,42] [.plain s]]=0;split<;>rfl
  rw[cv,lA0];simp only[tkG,jv,qv,g];simp at this⊢;omega
 | .cd s::r,n,p,h=>by
  have:=nk r 2 [] h.2.2
  rw[cv,lA0];simp only[tkG,jv,qv];simp[Tk.B,Tk.out,rK,Inl.plain?] at this⊢;omega
 | .lk s d::r,n,p,h=>by
  have:=nk r 2 [] h.2.2.2
  rw[cv,lA0];simp only[tkG,jv,qv];simp[Tk.B,Tk.out,rK,Inl.plain?] at this⊢;omega
 | .es s::r,n,p,h=>by
  have:=nk r 2 s h.2.2
  rw[cv,lA0];simp only[tkG,jv,qv,rK,Inl.plain?];simp[Tk.B] at this⊢;omega
theorem yk {l:List UInt8}{c d:UInt8}{t m:List UInt8}(E:l=c::t)(hc:cO c=false)(g:l=m++ [d])(hd:cO d=false):gw cO l=l:=by
 unfold gw wl
 have y:l.dropWhile cO=l:=by rw[E,lA3,hc];rfl
 rw[y]
 have I:l.reverse=d::m.reverse:=by rw[g];simp
 rw[I,lA3,hd]
 simp[g]

theorem mE {raw:List UInt8}{e i:Nat}(ts:List Inl)(I:e<=i)(E:i<=raw.length):kP raw e i ts=ts++fl (sub raw e i):=by
 have g:=qs (s:=raw) (i:=e) (j:=i) E
 unfold kP fl
 by_cases y:e<i
 ·rw[if_pos y,if_neg (by intro h0;rw[h0] at g;simp at g;omega)]
 ·rw[if_neg y,if_pos (lB1 (by omega)),lG0]
theorem CW (p:List UInt8):(fl p).length<=1:=by unfold fl;split<;>simp
theorem WdP.last {s:List UInt8}(h:WdP s): ∃m d,s=m++ [d]/\cO d=false:=by
 rcases lX1 s with h0|⟨m,d,h0⟩
 ·exact absurd h0 h.ne
 ·rw[lG2] at h0
  exact⟨m,d,h0,(Bu (h.by_ d (by rw[h0];simp))).1⟩
theorem AtD.word {X:XI}{b pb e:Nat}{p0:PS}{A s B raw:List UInt8}{ts:List Inl}{opens:List Nat}{lo:Int}{o:Opt}(I:xT R X b raw)(g:raw=A++(s++B))(U: ∀c∈s,wB c=true)(hs:raw.length<1000000000)(E:p0.pz=kE pb)(O:o.at pb∈L)(h:AtD X σ b p0 raw L (A.length+s.length) e ts opens lo):AtD X σ b p0 raw L A.length e ts opens lo:=by
 have a6:raw.length=A.length+(s.length+B.length):=by rw[g];simp
 refine AtD.plains I hs E O s.length A.length (by omega) (λj a7 V W=>?_) h
 have y:wB raw[j]=true:=by
  obtain⟨k,rfl⟩: ∃k,j=A.length+k:=⟨j - A.length,by omega⟩
  have:raw[A.length+k]=s[k]'(by omega):=by
   subst g
   rw[lL2 (by omega)]
   simp only[lY5]
   rw[lQ5]
  rw[this];exact U _ (lQ1 _)
 exact⟨G0 y o,(wg y).2.2.2.2.2.1⟩
theorem uc {o:Opt}(e9:o.auto=false){l:List Tk}(b4:okT 0 l)(e8:(tkB l).length<200000):jL none [] o (tkB l) (tkG Tk.out [] l):=by
 intro σ R b pb p L w _ h f1 a6 i8 i1
 have e7:=EE b4
 have h5:=wf_tk (p:= []) b4
 have f0:=lA l 0 [] none b4 (by simp) (.inl rfl)
 have f6:=Hg (p:= []) b4
 have e2:=nk l 0 [] b4
 have g6:=lh l 0 [] b4
 have f5:gw cO (tkB l)=tkB l:=by
  obtain⟨s,r,rfl,hs⟩:=b4.first
  obtain⟨m,d,e,hd,_⟩:=b4.last (by simp)
  obtain⟨c,t,rfl⟩:=lZ0 hs.ne
  exact yk (c:=c) (t:=t++tkB r) rfl (Bu (hs.by_ c (.head _))).1 e hd
 refine CH h (by omega) λw h=>?_
 rw[f5] at h⊢
 generalize hr:tkB l=raw at h e8 e2⊢
 intro X h9
 have U:xT R X b raw:=λj0 _ _ _ _ _ _ h=>h9 _ _ _ _ _ _ _ _ _ h
 generalize c9:({p with s:=raw,em:=0,lq:=none,ln:=0,lc:=0}:PS)=p0 at h
 have O:p0.pz=kE pb:=by rw[<-c9];exact f1
 have f2:p0.coreS=p.coreS:=by rw[<-c9];rfl
 have a7:raw.length<1000000000:=by omega
 suffices g4:AtD X σ b p0 raw L 0 0 [] [] 0 from g4 false w p0 none 0 0 (λh=>by cases h) rfl (by rw[<-c9]) (by rw[<-c9];rfl) h
 have g3: ∀(suf:List Tk) (n:Nat) (A:List UInt8) (e:Nat) (ts:List Inl) (lo:Int),raw=A++tkB suf->okT n suf->(n=1-> ∃g,A=g++ [32])->(n=2-> ∃g c,A=g++ [c]/\cO c=false)->e<=A.length->ts.length<=4*A.length->lo<=(A.length:Int)->
  ts++tkG Tk.raw (sub raw e A.length) suf=tkG Tk.raw [] l->AtD X σ b p0 raw L A.length e ts [] lo:=by
  intro suf
  induction suf with
  |nil=>
   intro n A e ts lo E I _ _ b3 e3 e1 V
   have E:raw=A:=by rw[E];simp[tkB]
   subst E
   refine AtD.fin (ts':=tkG Tk.out [] l) U a7 O a6 e9 (by omega) ?_ f6 (by simp at e2;omega) λw p' q n c vs RM EM f4 h8 g5 e5 h=>?_
   ·rw[mE ts b3 (lA1 _)]
    have V:ts++fl (sub raw e raw.length)=tkG Tk.raw [] l:=V
    rw[V,<-e7]
    refine A1 h5 f0 ?_
    rw[<-V,lA0]
    have:=CW (sub raw e raw.length)
    omega
   ·rw[g6] at e5
    exact i1 w p' q n c vs RM EM (f4.trans f2) h8 g5 e5 h
  |cons t suf c1=>
   intro n A e ts lo E I i3 i4 b3 e3 e1 V
   rw[cv] at E
   have c2:raw.length=A.length+(t.B.length+(tkB suf).length):=by rw[E];simp
   have f3:=CW (sub raw e A.length)
   have b8:raw=(A++t.B)++tkB suf:=by rw[E,lD0]
   have y:(A++t.B).length=A.length+t.B.length:=lA0
   cases t with
   |wd s=>
    have hs:=I.2.1
    have E:raw=A++(s++tkB suf):=E
    refine AtD.word U E hs.by_ a7 O a6 ?_
    have:=c1 2 (A++s) e ts lo b8 I.2.2 (by simp) (λ_=>by obtain⟨m,d,e,hd⟩:=hs.last;exact⟨A++m,d,by rw[e,lD0],hd⟩) (by simp;omega) (by simp;omega) (by simp;omega) ?_
    ·simpa using this
    ·have c8:=zB (A:=A) (B:=tkB suf) (e:=e) s b3
     rw[<-E] at c8
     rw[lA0,c8];exact V
   |sp=>
    have E:raw=A++32::tkB suf:=E
    have hi:A.length<raw.length:=by rw[c2];simp[Tk.B];omega
    have d2:raw[A.length]=32:=by subst E;rw[lL2 (lA1 _)];simp
    refine AtD.plain U hi a7 O a6 (by rw[d2];rfl) (.inr rfl) ?_
    have:=c1 1 (A++ [32]) e ts lo b8 I.2 (λ_=>⟨A,rfl⟩) (by simp) (by simp;omega) (by simp;omega) (by simp;omega) ?_
    ·simpa using this
    ·have c8:=zB (A:=A) (B:=tkB suf) (e:=e) [32] b3
     rw[show A++([32]++tkB suf)=raw from E.symm] at c8
     rw[lA0,c8];exact V
   |nl=>
    have E:raw=A++10::tkB suf:=E
    have hi:A.length<raw.length:=by rw[c2];simp[Tk.B];omega
    have d2:raw[A.length]=10:=by subst E;rw[lL2 (lA1 _)];simp
    have h4: ∀k,k+1=A.length->cO (A.getD k 0)=false:=by
     obtain⟨g,c,rfl,hc⟩:=i4 I.1
     intro k d3
     simp at d3
     subst d3
     rw[pR (lA1 _),lW1];exact hc
    have g7:0<(tkB suf).length->cO ((tkB suf).getD 0 0)=false:=by
     intro _
     obtain⟨s,l5,rfl,hs⟩:=I.2.first
     obtain⟨c,t,rfl⟩:=lZ0 hs.ne
     exact(Bu (hs.by_ c (.head _))).1
    refine AtD.leaf (st:=A.length) (en:=A.length+1) (t:= .soft) U hi a7 O a6 (f:=jU) (by rw[d2];rfl) (L0:= []) (by simp) (λp _ _=>by rw[E];exact A8 h4 g7 (by rw[<-E];omega)) (by omega) (by omega) (by simp) ?_
    rw[mE ts b3 (by omega)]
    have:=c1 0 (A++ [10]) (A.length+1) (ts++fl (sub raw e A.length)++ [.soft]) lo b8 I.2 (by simp) (by simp) (by simp) (by simp;omega) (by simp;omega) ?_
    ·simpa[Inl.isOpen] using this
    ·rw[lA0,lE0,sub_self,<-V];simp[tkG,Tk.raw]
   |em k s=>
    obtain⟨g,rfl⟩:=i3 I.1
    have hs:=I.2.1
    have d3:=I.2.2.1
    have e0:=I.2.2.2
    have b9:(Tk.em k s).B.length=k+(s.length+k):=by simp[Tk.B]
    rw[b9] at c2 y
    have b7:(g++ [32]).length=g.length+1:=by simp
    have W:raw=g++32::(hN k 42++(s++(hN k 42++tkB suf))):=by rw[E];simp[Tk.B]
    have r2:raw=(g++ [32])++(hN k 42++(s++(hN k 42++tkB suf))):=by rw[W];simp
    have b5:raw=(g++ [32]++hN k 42)++(s++(hN k 42++tkB suf)):=by rw[r2,lD0 (g++ [32])]
    have i0:raw=(g++ [32]++hN k 42++s)++(hN k 42++tkB suf):=by rw[b5,lD0 _ s]
    have l3:(g++ [32]++hN k 42).length=g.length+1+k:=by simp;omega
    have l4:(g++ [32]++hN k 42++s).length=g.length+1+k+s.length:=by simp;omega
    have e4: ∀(Y B:List UInt8) (i:Nat) (hi:i<raw.length),raw=Y++(hN k 42++B)->Y.length=i->raw[i]=42:=by
     intro Y B i hi h7 h6
     have:raw[i]? =some 42:=by
      rw[h7,lH0 (by omega),h6,lW1]
      obtain⟨j,rfl⟩: ∃j,k=j+1:=⟨k - 1,by omega⟩
      rfl
     rw[lI0 hi] at this
     exact Option.some.inj this
    rw[b7] at b3 e3 e1 V c2⊢
    have f3:(fl (sub raw e (g.length+1))).length<=1:=CW _
    have c3:=e4 _ _ (g.length+1) (by omega) r2 b7
    have d1:=e4 _ _ (g.length+1+k+s.length) (by omega) i0 l4
    refine AtD.leaf (st:=g.length+1) (en:=g.length+1+k) (t:= .emphP (hN k 42) true false 0 (k:Nat)) U (by omega) a7 O a6 (f:=dR) (by rw[c3];rfl) (L0:= []) (by simp) (λp _ _=>?_) (by omega) (by omega) (by simp) ?_
    ·rw[W];exact hs.opn b p g _ k (by omega) (by rw[<-W];omega)
    rw[mE ts b3 (by omega)]
    have c4:(Inl.emphP (hN k 42) true false 0 (k:Nat)).isOpen=false:=rfl
    rw[c4]
    show AtD X σ b p0 raw L (g.length+1+k) (g.length+1+k) _ [] lo
    have b6:=AtD.word (X:=X) (σ:=σ) (p0:=p0) (e:=g.length+1+k) (ts:=ts++fl (sub raw e (g.length+1))++ [.emphP (hN k 42) true false 0 (k:Nat)]) (opens:= []) (lo:=lo) U b5 hs.by_ a7 O a6
    rw[l3] at b6
    refine b6 ?_
    refine AtD.leaf (st:=g.length+1+k+s.length) (en:=g.length+1+k+s.length+k) (t:= .emphP (hN k 42) false true 0 (k:Nat)) U (by omega) a7 O a6 (f:=dR) (by rw[d1];rfl) (L0:= []) (by simp) (λp _ _=>?_) (by omega) (by simp;omega) (by simp) ?_
    ·have:=hs.cls b p (g++ [32]++hN k 42) (tkB suf) k (by omega) e0.next (by rw[<-b5];omega)
     rw[<-b5,l3] at this
     exact this
    have c5:sub raw (g.length+1+k) (g.length+1+k+s.length)=s:=by
     have:=qr (g++ [32]++hN k 42) s (hN k 42++tkB suf)
     rw[<-b5,l3] at this
     exact this
    have h3:fl s= [.plain s]:=by unfold fl;rw[if_neg hs.ne]
    rw[mE _ (by omega) (by omega),c5,h3]
    have e6:(Inl.emphP (hN k 42) false true 0 (k:Nat)).isOpen=false:=rfl
    rw[e6]
    show AtD X σ b p0 raw L (g.length+1+k+s.length+k) (g.length+1+k+s.length+k) _ [] lo
    have:=c1 2 ((g++ [32])++(Tk.em k s).B) (g.length+1+k+s.length+k) (ts++fl (sub raw e (g.length+1))++ [.emphP (hN k 42) true false 0 (k:Nat)]++ [.plain s]++ [.emphP (hN k 42) false true 0 (k:Nat)]) lo b8 e0 (by simp) (λ_=>?_) (by rw[y,b7];omega) ?_ (by rw[y,b7];omega) ?_
    ·rw[y,b7,show g.length+1+(k+(s.length+k))=g.length+1+k+s.length+k by omega] at this
     exact this
    ·obtain⟨j,rfl⟩: ∃j,k=j+1:=⟨k - 1,by omega⟩
     exact⟨(g++ [32])++(hN (j+1) 42++(s++hN j 42)),42,by simp[Tk.B,lY4],by decide⟩
    ·rw[y,b7];simp only[lA0,lE0];omega
    ·rw[y,b7,show g.length+1+(k+(s.length+k))=g.length+1+k+s.length+k by omega,sub_self,<-V];simp[tkG,Tk.raw]
   |cd s=>
    have hs:=I.2.1
    have W:raw=A++96::(s++96::tkB suf):=by rw[E];simp[Tk.B]
    have b9:(Tk.cd s).B.length=s.length+2:=by simp[Tk.B]
    rw[b9] at c2 y
    refine AtD.code U W hs.ne (λc hc=>?_) ?_ (by omega) O a6 (by omega) (by simp) ?_
    ·have:=wg (hs.by_ c hc);exact⟨this.2.1,this.2.2.2.2.1,this.2.2.2.2.2.2.2.1⟩
    ·rcases I.2.2.next with h0|⟨B',h0|h0⟩<;>rw[h0]<;>simp
    rw[mE ts b3 (by omega)]
    have:=c1 2 (A++(Tk.cd s).B) (A.length+s.length+2) (ts++fl (sub raw e A.length)++ [.code s]) lo b8 I.2.2 (by simp) (λ_=>⟨A++96::s,96,by simp[Tk.B],by decide⟩) (by rw[y];omega) (by rw[y];simp;omega) (by rw[y];omega) ?_
    ·rw[y] at this;exact this
    ·rw[y,show A.length+s.length+2=A.length+(s.length+2) by omega,sub_self,<-V];simp[tkG,Tk.raw]
   |lk s d=>
    have hs:=I.2.1
    have hd:=I.2.2.1
    have W:raw=A++91::(s++93::40::(d++41::tkB suf)):=by rw[E];simp[Tk.B]
    have r2:raw=(A++ [91])++(s++93::40::(d++41::tkB suf)):=by rw[W];simp
    have b5:raw=(A++ [91]++s)++93::40::(d++41::tkB suf):=by rw[r2,lD0 _ s]
    have l2:(A++ [91]).length=A.length+1:=by simp
    have l3:(A++ [91]++s).length=A.length+1+s.length:=by simp;omega
    have b9:(Tk.lk s d).B.length=s.length+d.length+4:=by simp[Tk.B];omega
    rw[b9] at c2 y
    have c3:raw[A.length]'(by omega)=91:=by
     have:raw[A.length]? =some 91:=by rw[W,lH0 (lA1 _),lW1];rfl
     rw[lI0 (by omega)] at this
     exact Option.some.inj this
    have d1:raw[A.length+1+s.length]'(by omega)=93:=by
     have:raw[A.length+1+s.length]? =some 93:=by rw[b5,lH0 (by omega),l3,lW1];rfl
     rw[lI0 (by omega)] at this
     exact Option.some.inj this
    refine AtD.leaf (st:=A.length) (en:=A.length+1) (t:= .openP [91] (A.length+1)) U (by omega) a7 O a6 (f:=gA) (by rw[c3];rfl) (L0:= []) (by simp) (λp _ _=>vu (by omega) (by omega) c3) (by omega) (by omega) (by simp) ?_
    rw[mE ts b3 (by omega)]
    have c4:(Inl.openP [91] (A.length+1)).isOpen=true:=rfl
    rw[c4]
    show AtD X σ b p0 raw L (A.length+1) (A.length+1) _ ([]++ [(ts++fl (sub raw e A.length)).length]) lo
    have b6:=AtD.word (X:=X) (σ:=σ) (p0:=p0) (e:=A.length+1) (ts:=ts++fl (sub raw e A.length)++ [.openP [91] (A.length+1)]) (opens:= []++ [(ts++fl (sub raw e A.length)).length]) (lo:=lo) U r2 hs.by_ a7 O a6
    rw[l2] at b6
    refine b6 ?_
    have c5:sub raw (A.length+1) (A.length+1+s.length)=s:=by
     have:=qr (A++ [91]) s (93::40::(d++41::tkB suf))
     rw[<-r2,l2] at this
     exact this
    have d0:mR raw (A.length+1) (A.length+1+s.length)= [.plain s]:=by
     have:=lY0.2 hs.ne
     unfold mR;rw[if_pos (by omega),c5]
    have g0: ∀p:PS,wa b p raw (A.length+1+s.length) [91] (A.length+1) [] d [] 0 false (A.length+1+s.length+3+d.length):=by
     intro p
     have:=zf (b:=b) (p:=p) (A:=A++ [91]++s) (B:=tkB suf) (D:=d) (t:= [91]) (k:=A.length+1) (by rw[<-b5];omega) hd.ne hd.by_
     rw[<-b5,l3] at this
     exact this
    refine AtD.close (en:=A.length+1+s.length+3+d.length) (url:=d) (title:= []) (tc:=0) (cor:=false) (img:=false) (L0:= []) (ts1:=ts++fl (sub raw e A.length)) (ts2:= []) U (by omega) (by omega) d1 O a6 (by simp) rfl (by simp) (.inr (by omega)) (by have:=hd.len;omega) (λp _ _=>g0 p) (by rw[d0];simp) ?_ ?_ (by simp;omega) (by simp) ?_
    ·rw[d0];intro s' k0 j1 i m i2;simp at i2
    ·rw[d0];exact⟨.inl rfl,trivial⟩
    rw[d0]
    show AtD X σ b p0 raw L _ _ (ts++fl (sub raw e A.length)++ [.link [.plain s] d [] 0 false]) [] ((A.length+1:Nat):Int)
    have:=c1 2 (A++(Tk.lk s d).B) (A.length+1+s.length+3+d.length) (ts++fl (sub raw e A.length)++ [.link [.plain s] d [] 0 false]) ((A.length+1:Nat):Int) b8 I.2.2.2 (by simp) (λ_=>⟨A++91::(s++93::40::d),41,by simp[Tk.B],by decide⟩) (by rw[y];omega) (by rw[y];simp;omega) (by rw[y];omega) ?_
    ·rw[y,show A.length+(s.length+d.length+4)=A.length+1+s.length+3+d.length by omega] at this;exact this
    ·rw[y,show A.length+(s.length+d.length+4)=A.length+1+s.length+3+d.length by omega,sub_self,<-V];simp[tkG,Tk.raw]
   |es s=>
    have hs:=I.2.1
    have W:raw=A++92::42::(s++tkB suf):=by rw[E];simp[Tk.B]
    have r2:raw=(A++ [92,42])++(s++tkB suf):=by rw[W];simp
    have l2:(A++ [92,42]).length=A.length+2:=by simp
    have b9:(Tk.es s).B.length=s.length+2:=by simp[Tk.B]
    rw[b9] at c2 y
    have c3:raw[A.length]'(by omega)=92:=by
     have:raw[A.length]? =some 92:=by rw[W,lH0 (lA1 _),lW1];rfl
     rw[lI0 (by omega)] at this
     exact Option.some.inj this
    refine AtD.leaf (st:=A.length) (en:=A.length+2) (t:= .esc [42]) U (by omega) a7 O a6 (f:=ji) (by rw[c3];rfl) (L0:= []) (by simp) (λp _ _=>by rw[W];exact y9 (by decide) (by rw[<-W];omega)) (by omega) (by omega) (by simp) ?_
    rw[mE ts b3 (by omega)]
    have c4:(Inl.esc [42]).isOpen=false:=rfl
    rw[c4]
    show AtD X σ b p0 raw L (A.length+2) (A.length+2) _ [] lo
    have b6:=AtD.word (X:=X) (σ:=σ) (p0:=p0) (e:=A.length+2) (ts:=ts++fl (sub raw e A.length)++ [.esc [42]]) (opens:= []) (lo:=lo) U r2 hs.by_ a7 O a6
    rw[l2] at b6
    refine b6 ?_
    have c5:sub raw (A.length+2) (A.length+2+s.length)=s:=by
     have:=qr (A++ [92,42]) s (tkB suf)
     rw[<-r2,l2] at this
     exact this
    have:=c1 2 (A++(Tk.es s).B) (A.length+2) (ts++fl (sub raw e A.length)++ [.esc [42]]) lo b8 I.2.2 (by simp) (λ_=>by obtain⟨m,d,e,hd⟩:=hs.last;exact⟨A++92::42::m,d,by rw[e];simp[Tk.B],hd⟩) (by rw[y];omega) (by rw[y];simp;omega) (by rw[y];omega) ?_
    ·rw[y,show A.length+(s.length+2)=A.length+2+s.length by omega] at this;exact this
    ·rw[y,show A.length+(s.length+2)=A.length+2+s.length by omega,c5,<-V];simp[tkG]
 exact g3 l 0 [] 0 [] 0 (by rw[<-hr];rfl) b4 (by simp) (by simp) (by simp) (by simp) (by simp) (by simp[sub])
def fK (R:EP)(b7:OA)(w:World):Prop:=
 tk w λI=>
 aA b7 λa2=>
 aA b7 λa3=>
 ∃W b4 c4,I.cell? (a2.add 4)=some (hT W b4 c4)/\
 ∃c3 g b8,I.cell? (a3.add 4)=some (hT c3 g b8)/\
 0<=(i64.wrap ((g:Int) - 1))/\(i64.wrap ((g:Int) - 1))<(b4:Int)/\
 aA W λE=>
 tk I λy=>
 ∃a7 b5 b3,y.cell? ((E.add (Int.toNat (i64.wrap ((g:Int) - 1))*4)).add 1)=some (hT a7 b5 b3)/\
 ∃c1 b6 b9,y.cell? ((E.add (Int.toNat (i64.wrap ((g:Int) - 1))*4)).add 1)=some (hT c1 b6 b9)/\
 ∃V U O,(∀w,(Instr.sliceAt f9 (hT a7 b5 b3) none (some (hY (i64.wrap ((b6:Int) - 1)))) none).run P w= .ok (hT V U O) w)/\
 stV y (((E.add (Int.toNat (i64.wrap ((g:Int) - 1))*4)).add 1).add 0) (hT V U O) λc2=>
 R (hQ (.tuple #[])) c2
theorem fK.sound {R x0 w}(h:fK R x0 w):callE P jh #[kT x0] R w:=
 aG [(2,.dr (rpN [0,3,6,12,15,18,10,22,24,27,30,33])),(3,.dr (rpN [0,3,6,9,15,18,21,13,25,27,30,33,36,39,44]))] Tryz.func196 Tryz.call196 h
def jE (R:EP)(b3:OA)(w:World):Prop:=
 tk w λI=>
 aA b3 λa2=>
 aA b3 λa3=>
 ∃U W b6,I.cell? (a2.add 4)=some (hT U W b6)/\
 ∃b8 g b5,I.cell? (a3.add 4)=some (hT b8 g b5)/\
 0<=(i64.wrap ((g:Int) - 1))/\(i64.wrap ((g:Int) - 1))<(W:Int)/\
 aA U λb4=>
 tk I λE=>
 ∃O a7 b9,E.cell? ((b4.add (Int.toNat (i64.wrap ((g:Int) - 1))*4)).add 1)=some (hT O a7 b9)/\
 ∃c1 y b7,E.cell? ((b4.add (Int.toNat (i64.wrap ((g:Int) - 1))*4)).add 1)=some (hT c1 y b7)/\
 0<=(i64.wrap ((y:Int) - 1))/\(i64.wrap ((y:Int) - 1))<(a7:Int)/\
 aA O λa10=>
 ∃(V:Value),E.cell? (a10.add (Int.toNat (i64.wrap ((y:Int) - 1))*1))=some V/\
 R (hQ V) E
theorem jE.sound {R x0 w}(h:jE R x0 w):callE P lX #[kT x0] R w:=
 aG [(5,.dr (rpN [0,3,6,12,15,18,10,22,24,27,30,33])),(11,.dr (rpN [0,3,6,12,15,18,10,22,24,27,30,34,36]))] Tryz.func195 Tryz.call195 h
def y0 (R:EP)(y:OA)(w:World):Prop:=
 aA y λa1=>
 ∃g,w.cell? (a1.add 2)=some (hX g)/\
 R (hQ (hX g)) w
theorem y0.sound {R x0 w}(h:y0 R x0 w):callE P CO #[kT x0] R w:=
 cE Tryz.func52 Tryz.call52 h
def gl (R:EP)(E:OA)(d0:Value)(w:World):Prop:=
 aA E λa1=>
 ∃c2,w.cell? (a1.add 5)=some (hY c2)/\
 callE P bj #[kT E,hY (i64.wrap (c2+1))] (λe d2=>e= hQ (.tuple #[])/\
 tk d2 λy=>
 aA E λd1=>
 aA E λc9=>
 ∃b7 b8 c5,y.cell? (d1.add 4)=some (hT b7 b8 c5)/\
 ∃c4 g c3,y.cell? (c9.add 4)=some (hT c4 g c3)/\
 0<=(i64.wrap ((g:Int) - 1))/\(i64.wrap ((g:Int) - 1))<(b8:Int)/\
 aA b7 λa10=>
 ∃b6 b4 b3,y.cell? ((a10.add (Int.toNat (i64.wrap ((g:Int) - 1))*4)).add 1)=some (hT b6 b4 b3)/\
 ∃V U,∃I c1,(Instr.buildSlice f9 1 #[(0,d0)]).run P y= .ok (hT V U I) c1/\
 ∃b5 W,∃O b9,(Builtin.append_ #[f9,f9] f9 #[hT b6 b4 b3,hT V U I]).run P c1= .ok (hT b5 W O) b9/\
 stV b9 (((a10.add (Int.toNat (i64.wrap ((g:Int) - 1))*4)).add 1).add 0) (hT b5 W O) λc8=>
 R (hQ (.tuple #[])) c8) w
theorem gl.sound {R x0 x1 w}(h:gl R x0 x1 w):callE P dO #[kT x0,x1] R w:=
 aG [(5,.dr (rpN [0,3,6,12,15,18,10,22,24,27,30,33]))] Tryz.func191 Tryz.call191 h

structure LnR (l:Ln) (s:List UInt8):Prop where
 ok:l.ok
 sp:l.sp=0
 tx:l.text.drop l.i=s
theorem LnR.has {l:Ln}{c:UInt8}{r:List UInt8}(h:LnR l (c::r)):l.has c r:=⟨h.ok,h.sp,h.tx⟩
theorem LnR.skip {l:Ln}{a s:List UInt8}(h:LnR l (a++s)):LnR {l with i:=l.i+a.length} s:=by
 have E:=congrArg List.length h.tx
 rw[lM1,lA0] at E
 have I:=h.ok.i;have O:=h.ok.tab;have g:=h.ok.len;have y:=h.ok.sp
 refine⟨⟨by show l.i+a.length<=l.text.length;omega,by show l.tab<=l.i+a.length;omega,g,y⟩,h.sp,?_⟩
 show l.text.drop (l.i+a.length)=s
 rw[<-lK5,h.tx,lC4]
theorem LnR.quote {l:Ln}{s:List UInt8}(h:LnR l (62::32::s)):l.quote=some {l with i:=l.i+2}/\LnR {l with i:=l.i+2} s:=by
 refine⟨?_,LnR.skip (a:= [62,32]) h⟩
 have g:=h.has
 unfold Ln.quote
 rw[g.lead (by decide) 2,g.trimC,if_pos rfl]
 show some (Ln.lead 1 true _)=_
 have y:({l with i:=l.i+1}:Ln).has 32 s:=(LnR.skip (a:= [62]) h).has
 unfold Ln.lead
 rw[y.sp1]
 rfl
theorem LnR.tsPad {mn:Nat}{e:Bool}{s:List UInt8}: ∀(j n:Nat) {l:Ln},LnR l (hN j 32++s)->l.tsGo mn e j n=some {l with i:=l.i+j}
 |0,n,l,h=>by simp[Ln.tsGo]
 |j+1,n,l,h=>by
  have E:LnR l (32::(hN j 32++s)):=by rw[lA2] at h;exact h
  have g:=E.has
  have U:=g.lt
  have y:=g.get
  have I:=LnR.tsPad (mn:=mn) (e:=e) (s:=s) j (n+1) (LnR.skip (a:= [32]) E)
  have V:=h.sp
  have O:l.tsGo mn e (j+1) n=({l with i:=l.i+ [(32:UInt8)].length}:Ln).tsGo mn e j (n+1):=by
   rw[Ln.tsGo,if_neg (by omega),if_neg (by omega),if_neg (by rw[y];decide),if_pos y]
   rfl
  rw[O,I]
  show some ({l with i:=l.i+1+j}:Ln)=some {l with i:=l.i+(j+1)}
  rw[lF3,lC3]
theorem LnR.pad {l:Ln}{w:Nat}{s:List UInt8}(h:LnR l (hN w 32++s)):l.trimSp w w true=some {l with i:=l.i+w}/\LnR {l with i:=l.i+w} s:=by
 refine⟨LnR.tsPad w 0 h,?_⟩
 have:=LnR.skip h
 rw[lH2] at this
 exact this
theorem LnR.tsEnd {mn:Nat}: ∀(j n:Nat) {l:Ln},l.sp=0->l.text.length<=l.i->l.tsGo mn true j n=some l
 |0,n,l,_,_=>by simp[Ln.tsGo]
 |j+1,n,l,h1,h2=>by
  rw[Ln.tsGo,if_neg (by omega),if_pos ⟨h2,rfl⟩]
  exact LnR.tsEnd j (n+1) h1 h2
theorem LnR.lenNil {l:Ln}(h:LnR l []):l.text.length<=l.i:=by
 have:=congrArg List.length h.tx
 simp at this;omega
theorem LnR.padEnd {l:Ln}{w:Nat}(h:LnR l []):l.trimSp w w true=some l:=LnR.tsEnd w 0 h.sp h.lenNil
theorem LnR.padNo {l:Ln}{w:Nat}{c:UInt8}{r:List UInt8}(h:LnR l (c::r))(hc:cO c=false)(g:1<=w):l.trimSp w w true=none:=by
 obtain⟨k,rfl⟩: ∃k,w=k+1:=⟨w - 1,by omega⟩
 unfold Ln.trimSp
 rw[h.has.tsGo hc,if_neg (by omega)]
inductive CX where
 |q
 |i (w:Nat)
def CX.pre:CX->List UInt8->List UInt8
 | .q,s=>62::32::s
 | .i w,s=>if s= [] then [] else hN w 32++s
def ctx:List CX->List UInt8->List UInt8
 | [],s=>s
 |c::cs,s=>c.pre (ctx cs s)
theorem ov (a b:List CX)(s:List UInt8):ctx (a++b) s=ctx a (ctx b s):=by
 induction a with
 |nil=>rfl
 |cons c a g=>show c.pre (ctx (a++b) s)=c.pre (ctx a (ctx b s));rw[g]
inductive FrX (m:Nat):List CX->List Bk->Prop where
 |nil:FrX m [] []
 |q {cs:List CX} {fs:List Bk} {f:Bk}:f.isQuote->f.ob.e=m->FrX m cs fs->FrX m (.q::cs) (f::fs)
 |i {cs:List CX} {fs:List Bk} {f g:Bk} {lb w:Nat} {bul num:Int} {it:OA}:f.isList lb bul num it->ItemOf it g lb w true->1<=w/\w<100->g.ob.e=m->FrX m cs fs->FrX m (.i w::cs) (f::g::fs)
inductive FrS:List CX->List Bk->Prop where
 |nil:FrS [] []
 |q {cs:List CX} {fs:List Bk} {f:Bk}:f.isQuote->FrS cs fs->FrS (.q::cs) (f::fs)
 |i {cs:List CX} {fs:List Bk} {f g:Bk} {lb w:Nat} {bul num:Int} {it:OA}:f.isList lb bul num it->ItemOf it g lb w true->1<=w/\w<100->FrS cs fs->FrS (.i w::cs) (f::g::fs)
theorem FrX.toS {m:Nat}{a:List CX}{fs:List Bk}(h:FrX m a fs):FrS a fs:=by
 induction h with
 |nil=>exact .nil
 |q x _ _ g=>exact .q x g
 |i x E z _ _ g=>exact .i x E z g
theorem FrS.len {a:List CX}{fs:List Bk}(h:FrS a fs):a.length<=fs.length/\fs.length<=2*a.length:=by
 induction h with
 |nil=>simp
 |q x _ g=>simp;omega
 |i x E z _ g=>simp;omega
theorem FrS.split {b:List CX}: ∀ {a:List CX} {fs:List Bk},FrS (a++b) fs-> ∃gs g,fs=gs++g/\FrS a gs/\FrS b g
 | [],fs,h=>⟨[],fs,rfl,.nil,h⟩
 |c::a,fs,h=>by
  cases h with
  |q x I=>
   obtain⟨gs,g,rfl,E,O⟩:=FrS.split I
   exact⟨_::gs,g,rfl,.q x E,O⟩
  |i x U z I=>
   obtain⟨gs,g,rfl,E,O⟩:=FrS.split I
   exact⟨_::_::gs,g,rfl,.i x U z E,O⟩
theorem FrS.append {a b:List CX}{fs gs:List Bk}(h:FrS a fs)(E:FrS b gs):FrS (a++b) (fs++gs):=by
 induction h with
 |nil=>exact E
 |q x _ g=>exact .q x g
 |i x I z _ g=>exact .i x I z g
theorem FrX.append {m:Nat}{a b:List CX}{fs gs:List Bk}(h:FrX m a fs)(I:FrX m b gs):FrX m (a++b) (fs++gs):=by
 induction h with
 |nil=>exact I
 |q x E _ g=>exact .q x E g
 |i x E z v _ g=>exact .i x E z v g
theorem FrX.len {m:Nat}{a:List CX}{fs:List Bk}(h:FrX m a fs):a.length<=fs.length/\fs.length<=2*a.length:=by
 induction h with
 |nil=>simp
 |q x E _ g=>simp;omega
 |i x E z v _ g=>simp;omega
def Bk.setE (f:Bk)(m:Nat):Bk:= {f with ob:=f.ob.setE m}
theorem Bk.setE_sim (f:Bk){m:Nat}(g:m<1000000000):f.sim (f.setE m):=⟨⟨m,rfl⟩,rfl,rfl,rfl,g⟩
theorem vK {X:OA->Nat->WP}(c4: ∀b5 a7 w,ak.bl1 R X b5 a7 w->X b5 a7 w){b b1:Nat}{p:PS}{gs rest:List Bk}{f:Bk}{lf:Leaf}{l l2:Ln}(h:DocC σ b (l.at b1::L) (gs++f::rest) lf p w)(hd:p.depth+1=gs.length)(d3:0<gs.length/\gs.length<1000000)(d2:l.ok)(hb:l.blank=false)(b6:p.lineno<1000000000)(d0: ∀(O:Ending->World->Prop) K w,(∀y∈gs++f::rest,∀c∈y.own,c∈K)->Sat σ w K->(∀w,Sat σ w K->O (hQ (.tuple #[l2.val,hV true])) w)->de P (callMethod f.ob.bd "pub-paratext/pub/rscmarkdown.extend" #[kT (kE b),l.val]) O w)
 (c2: ∀w,DocC σ b (l2.at b1::L) (gs++f.setE p.lineno::rest) lf {p with depth:=(gs.length:Nat)} w->X (kE b) b1 w):X (kE b) b1 w:=by
 obtain⟨M,b3,I,b4,hs,ht,U,c8,h⟩:=h
 have b8: ∀y∈gs++f::rest,∀c∈y.own,c∈aM (gs++f::rest):=by
  intro y E c hc
  unfold aM
  exact lS2.2 ⟨y,E,by unfold Bk.mem;simp[hc]⟩
 have b7:p.depth=((gs.length - 1:Nat):Int):=by omega
 have c1:((gs++f::rest).map Bk.ob++I)[gs.length - 1+1]? =some f.ob:=by
  rw[show gs.length - 1+1=gs.length by omega,lM0 (by simp),lF2]
  simp
 have h:Sat σ w (l.at b1::(p.at b::M++(b3++(aM (gs++f::rest)++(b4++L))))):=h.re
 refine C0 (l2:=l2) c4 h hs b7 (by omega) c1 d2 hb (λO b0 w h d1=>?_) λw c9 W h=>?_
 ·exact d0 O _ w (λy E c hc=>by simp[b8 y E c hc]) h d1
 ·have b9:((gs++f::rest).map Bk.ob++I).set (gs.length - 1+1) (f.ob.setE p.lineno)=(gs++f.setE p.lineno::rest).map Bk.ob++I:=by
   rw[show gs.length - 1+1=gs.length by omega,lV4 _ _ (by simp),lV0,lP1 _ _ (by simp),lS0,lW1]
   simp[Bk.setE]
  have a6:((gs.length - 1:Nat):Int)+1=(gs.length:Nat):=by omega
  rw[b9,a6] at W
  rw[a6] at h
  have V:Sims (gs++f::rest) (gs++f.setE p.lineno::rest):=Sims.append (Sims.refl λy E=>(U y (by simp[E])).2.2.2) (.cons (f.setE_sim b6) (Sims.refl λy E=>(U y (by simp[E])).2.2.2))
  obtain⟨c3,c5⟩:=V.mem
  refine c2 w ⟨c9,b3,I,b4,W,?_,V.ok U,c8,?_⟩
  ·rw[c5];exact ht.of rfl rfl rfl
  ·rw[c3];exact h.re

theorem vU (w:Nat)(s:List UInt8):(hN w 32++s).all cO=s.all cO:=by
 rw[lD5]
 have:(hN w (32:UInt8)).all cO=true:=by
  rw[lD2];intro c hc;rw[List.eq_of_mem_replicate hc];rfl
 rw[this,lP5]
theorem uG {p:PS}{k:Int}(h:k=p.depth):({p with depth:=k}:PS)=p:=by rw[h]
theorem GY {X:OA->Nat->WP}(b7: ∀d3 c4 w,ak.bl1 R X d3 c4 w->X d3 c4 w){b b1:Nat}{s:List UInt8}{lf:Leaf}{rest:List Bk}:
 ∀(cs:List CX) (gs fs:List Bk) (p:PS) (l:Ln) (w:World),FrS cs fs->DocC σ b (l.at b1::L) (gs++(fs++rest)) lf p w->p.depth+1=gs.length->0<gs.length/\gs.length+2*cs.length<1000000->LnR l (ctx cs s)->
  (∀a c O,cs=a++c::O->(ctx (c::O) s).all cO=false)->p.lineno<1000000000->
  (∀w y l2,Sims fs y->FrX p.lineno cs y->LnR l2 s->l2.text=l.text->DocC σ b (l2.at b1::L) (gs++(y++rest)) lf {p with depth:=((gs.length+fs.length:Nat):Int) - 1} w->X (kE b) b1 w)->X (kE b) b1 w:=by
 intro cs
 induction cs with
 |nil=>
  intro gs fs p l w b9 h hd c5 E a6 I a7
  cases b9
  refine a7 w [] l .nil .nil E rfl ?_
  rw[uG (by simp;omega)]
  exact h
 |cons c cs c9=>
  intro gs fs p l w b9 h hd c5 E a6 I a7
  have hb:l.blank=false:=by
   have:=a6 [] c cs rfl
   unfold Ln.blank;rw[E.tx];exact this
  have c1: ∀a b4 O,cs=a++b4::O->(ctx (b4::O) s).all cO=false:=λa b4 O e=>a6 (c::a) b4 O (by rw[e];rfl)
  simp only[lF0] at c5
  cases b9 with
  | @q _ y f hq hF'=>
   have E:LnR l (62::32::ctx cs s):=E
   obtain⟨b6,U⟩:=E.quote
   obtain⟨e5,e0,e4⟩:=hq
   refine vK (l2:= {l with i:=l.i+2}) (rest:=y++rest) b7 (by simpa using h) hd ⟨by omega,by omega⟩ E.ok hb I (λd0 K w _ h W=>?_) λw h=>?_
   ·rw[e0]
    refine bm mH ?_
    exact sD h E.ok (by rw[b6];exact⟨rfl,rfl⟩) W
   ·have h:DocC σ b (({l with i:=l.i+2}:Ln).at b1::L) ((gs++ [f.setE p.lineno])++(y++rest)) lf {p with depth:=(gs.length:Nat)} w:=by simpa using h
    refine c9 (gs++ [f.setE p.lineno]) y _ _ w hF' h (by simp) (by simp;omega) U c1 I λw b5 l2 k1 k2 k3 k4 h=>?_
    refine a7 w (f.setE p.lineno::b5) l2 (.cons (f.setE_sim I) k1) (.q ((f.setE_sim I).quote ⟨e5,e0,e4⟩) rfl k2) k3 k4 ?_
    have e:(((gs++ [f.setE p.lineno]).length+y.length:Nat):Int) - 1=((gs.length+(f::y).length:Nat):Int) - 1:=by simp;omega
    rw[e] at h
    simpa using h
  | @i _ y f g lb wd bul num it hf hg' hw hF'=>
   have e6:=E
   have V:=a6 [] (.i wd) cs rfl
   have e3:ctx cs s≠ []:=by
    intro h0
    have:(ctx (.i wd::cs) s)= []:=by show (CX.i wd).pre (ctx cs s)= [];rw[h0];rfl
    rw[this] at V;cases V
   have e2:ctx (.i wd::cs) s=hN wd 32++ctx cs s:=by
    show (if ctx cs s= [] then [] else hN wd 32++ctx cs s)=_
    rw[if_neg e3]
   rw[e2] at E V
   rw[vU] at V
   obtain⟨b6,U⟩:=E.pad
   obtain⟨ib,c8,d1,b8⟩:=hg'
   obtain⟨c3,d2⟩:=hf
   refine vK (l2:= {l with i:=l.i+wd}) (rest:=g::(y++rest)) b7 (by simpa using h) hd ⟨by omega,by omega⟩ E.ok hb I (λd0 K w b3 h W=>?_) λw h=>?_
   ·rw[c3]
    refine bm gy ?_
    refine lT (ib:=ib) (lb:=lb) (n:=wd) (hv:=true) (bul:=bul) (num:=num) (lo:=false) (td:= .nilFunc) h E.ok (by omega) ?_ ?_ (by rw[b6];exact⟨rfl,rfl⟩) W
    ·rw[<-c8];exact b3 f (by simp) _ (by rw[d2];exact .head _)
    ·exact b3 g (by simp) _ (by rw[b8];exact .head _)
   have c2:({l with i:=l.i+wd}:Ln).blank=false:=by unfold Ln.blank;rw[U.tx];exact V
   have h:DocC σ b (({l with i:=l.i+wd}:Ln).at b1::L) ((gs++ [f.setE p.lineno])++g::(y++rest)) lf {p with depth:=(gs.length:Nat)} w:=by simpa using h
   refine vK (l2:= {l with i:=l.i+wd}) (rest:=y++rest) b7 h (by simp) ⟨by simp,by simp;omega⟩ U.ok c2 I (λd0 K w b3 h W=>?_) λw h=>?_
   ·rw[d1]
    refine bm kB ?_
    exact xh h U.ok c2 (b3 g (by simp) _ (by rw[b8];exact .head _)) W
   have h:DocC σ b (({l with i:=l.i+wd}:Ln).at b1::L) ((gs++ [f.setE p.lineno,g.setE p.lineno])++(y++rest)) lf {p with depth:=((gs++ [f.setE p.lineno]).length:Nat)} w:=by simpa using h
   refine c9 (gs++ [f.setE p.lineno,g.setE p.lineno]) y _ _ w hF' h (by simp;omega) (by simp;omega) U c1 I λw b5 l2 k1 k2 k3 k4 h=>?_
   refine a7 w (f.setE p.lineno::g.setE p.lineno::b5) l2 (.cons (f.setE_sim I) (.cons (g.setE_sim I) k1)) (.i ((f.setE_sim I).list ⟨c3,d2⟩) ((g.setE_sim I).itemOf ⟨ib,c8,d1,b8⟩) hw rfl k2) k3 k4 ?_
   have e:(((gs++ [f.setE p.lineno,g.setE p.lineno]).length+y.length:Nat):Int) - 1=((gs.length+(f::g::y).length:Nat):Int) - 1:=by simp;omega
   rw[e] at h
   simpa using h
theorem rY {X:OA->Nat->WP}(b8: ∀a6 U w,ak.bl1 R X a6 U w->X a6 U w){b b1:Nat}{p:PS}{gs rest:List Bk}{f:Bk}{lf:Leaf}{l l2:Ln}(h:DocC σ b (l.at b1::L) (gs++f::rest) lf p w)(hd:p.depth+1=gs.length)(c5:0<gs.length/\gs.length<1000000)(c4:l.ok)(hb:l.blank=true)(c1: ∀(E:Ending->World->Prop) K w,(∀y∈gs++f::rest,∀c∈y.own,c∈K)->Sat σ w K->(∀w,Sat σ w K->E (hQ (.tuple #[l2.val,hV true])) w)->de P (callMethod f.ob.bd "pub-paratext/pub/rscmarkdown.extend" #[kT (kE b),l.val]) E w)
 (b6: ∀w,DocC σ b (l2.at b1::L) (gs++f::rest) lf {p with depth:=(gs.length:Nat)} w->X (kE b) b1 w):X (kE b) b1 w:=by
 obtain⟨M,V,O,W,hs,ht,a7,b9,h⟩:=h
 have b4: ∀y∈gs++f::rest,∀c∈y.own,c∈aM (gs++f::rest):=by
  intro y I c hc
  unfold aM
  exact lS2.2 ⟨y,I,by unfold Bk.mem;simp[hc]⟩
 have b3:p.depth=((gs.length - 1:Nat):Int):=by omega
 have b5:((gs++f::rest).map Bk.ob++O)[gs.length - 1+1]? =some f.ob:=by
  rw[show gs.length - 1+1=gs.length by omega,lM0 (by simp),lF2]
  simp
 have h:Sat σ w (l.at b1::(p.at b::M++(V++(aM (gs++f::rest)++(W++L))))):=h.re
 refine vJ (l2:=l2) (ok:=true) b8 h hs b3 (by omega) b5 c4 (λE b0 w h c3=>?_) (.inl hb) (λ_ w h=>?_) (λc2=>absurd c2 (by decide))
 ·exact c1 E _ w (λy I c hc=>by simp[b4 y I c hc]) h c3
 ·have b7:((gs.length - 1:Nat):Int)+1=(gs.length:Nat):=by omega
  rw[b7] at h
  exact b6 w ⟨M,V,O,W,hs.of rfl rfl rfl,ht.of rfl rfl rfl,a7,b9,h.re⟩
theorem walkB {X:OA->Nat->WP}(W: ∀a6 a7 w,ak.bl1 R X a6 a7 w->X a6 a7 w){b b1:Nat}{lf:Leaf}{rest:List Bk}:
 ∀(cs:List CX) (gs fs:List Bk) (p:PS) (l:Ln) (w:World),FrS cs fs->(∀c∈cs,c≠ .q)->DocC σ b (l.at b1::L) (gs++(fs++rest)) lf p w->p.depth+1=gs.length->0<gs.length/\gs.length+2*cs.length<1000000->LnR l []->
  (∀w l2,LnR l2 []->DocC σ b (l2.at b1::L) (gs++(fs++rest)) lf {p with depth:=((gs.length+fs.length:Nat):Int) - 1} w->X (kE b) b1 w)->X (kE b) b1 w:=by
 intro cs
 induction cs with
 |nil=>
  intro gs fs p l w V O h hd b3 y I
  cases V
  refine I w l y ?_
  rw[uG (by simp;omega)]
  exact h
 |cons c cs b6=>
  intro gs fs p l w V O h hd b3 y I
  have hb:l.blank=true:=by unfold Ln.blank;rw[y.tx];rfl
  simp only[lF0] at b3
  cases V with
  |q _ _=>exact absurd rfl (O .q (.head _))
  | @i _ fs' f g lb wd bul num it hf hg' hw hF'=>
   obtain⟨ib,c1,b8,b4⟩:=hg'
   obtain⟨b5,b7⟩:=hf
   refine rY (l2:=l) (rest:=g::(fs'++rest)) W (by simpa using h) hd ⟨by omega,by omega⟩ y.ok hb (λb9 K w E h U=>?_) λw h=>?_
   ·rw[b5]
    refine bm gy ?_
    refine lT (ib:=ib) (lb:=lb) (n:=wd) (hv:=true) (bul:=bul) (num:=num) (lo:=false) (td:= .nilFunc) h y.ok (by omega) ?_ ?_ (by rw[y.padEnd];exact⟨rfl,rfl⟩) U
    ·rw[<-c1];exact E f (by simp) _ (by rw[b7];exact .head _)
    ·exact E g (by simp) _ (by rw[b4];exact .head _)
   have h:DocC σ b (l.at b1::L) ((gs++ [f])++g::(fs'++rest)) lf {p with depth:=(gs.length:Nat)} w:=by simpa using h
   refine rY (l2:=Ln.zero) (rest:=fs'++rest) W h (by simp) ⟨by simp,by simp;omega⟩ y.ok hb (λb9 K w E h U=>?_) λw h=>?_
   ·rw[b8]
    refine bm kB ?_
    exact pK h y.ok hb (E g (by simp) _ (by rw[b4];exact .head _)) U
   have h:DocC σ b (Ln.zero.at b1::L) ((gs++ [f,g])++(fs'++rest)) lf {p with depth:=((gs++ [f]).length:Nat)} w:=by simpa using h
   refine b6 (gs++ [f,g]) fs' _ _ w hF' (λc hc=>O c (.tail _ hc)) h (by simp;omega) (by simp;omega) ⟨⟨by decide,by decide,by decide,by decide⟩,rfl,rfl⟩ λw l2 k3 h=>?_
   refine I w l2 k3 ?_
   have e:(((gs++ [f,g]).length+fs'.length:Nat):Int) - 1=((gs.length+(f::g::fs').length:Nat):Int) - 1:=by simp;omega
   rw[e] at h
   simpa using h

def oZ (s:Nat)(ls:List (List UInt8)):Leaf:= .other λob M=> ∃g e,ob= [j5 g s e]/\rG g ls M/\s<1000000000/\ls≠ []/\ls.length<1048570
theorem uH {b s:Nat}{gs:List Bk}{par:Bk}{p:PS}{ls:List (List UInt8)}(h:DocC σ b L (gs++ [par]) (oZ s ls) p w)(d1:Leaf.finN (.para ls))(e2:par.D.length<99999)(e1:(txF (gs++ [par])).length<100000)(c8: ∀w (p':PS) I nb t x,p'.base=p.base->p'.depth=p.depth->p'.lineno=p.lineno->I.like par->I.D=par.D++ [kz nb t s (s+ls.length - 1) (bG [10] ls)]->s<1000000000->ls.length<1048570->DocC σ b L (gs++ [I]) .none p' w->R (hQ x) w):
 callE P aI #[kT (kE b)] R w:=by
 obtain⟨M,c9,d3,d0,hs,ht,a6,⟨b5,e,rfl,d2,a7,b8,b7⟩,h⟩:=h
 obtain⟨c4,c1,c5⟩:=d1
 have hs:Stk p (gs.map Bk.ob++ [par.ob]++ [j5 b5 s e]) M:=by simpa using hs
 obtain⟨W,b6⟩:=a6 par (by simp)
 have e0:par.ob.n=par.D.length:=by have:=W.1;simp at this;omega
 rw[bh,dA] at h
 have h:Sat σ w (p.at b::M++(par.IM++(c9++(d0++(aM gs++(par.own++(cZ par.D++(txc par.D++L)))))))):=h.re
 refine xI (ob:=gs.map Bk.ob) (par:=par.ob) (o:=j5 b5 s e) h hs rfl W (by omega) ht (by simp;omega) d2 b8 (by omega) rfl c4 c1 c5 (by exact a7) λw p' V E U t nb b3 b4 x O c3 b9 c2 h=>?_
 refine c8 w p' ⟨{par.ob with q:=b3,n:=par.ob.n+1,c:=b4},par.own,par.D++ [kz nb t s (s+ls.length - 1) (bG [10] ls)],E⟩ nb t x (by rw[O];rfl) (by rw[O]) (by rw[O]) ⟨rfl,rfl,rfl,rfl⟩ rfl a7 b7 ?_
 refine⟨V,U,[],[],?_,?_,?_,⟨rfl,rfl⟩,?_⟩
 ·rw[lV0,lG0];exact c3
 ·have e:txF (gs++ [⟨{par.ob with q:=b3,n:=par.ob.n+1,c:=b4},par.own,par.D++ [kz nb t s (s+ls.length - 1) (bG [10] ls)],E⟩])=txF (gs++ [par])++ [⟨t,s,s+ls.length - 1,bG [10] ls⟩]:=by
   rw[bE,bE,dL,dL,jQ,lD0];rfl
  rw[e,lV0];exact b9
 ·intro g y
  rcases lP0.1 y with y|y
  ·exact a6 g (by simp[y])
  ·obtain rfl:=lN0.1 y
   exact⟨by rw[lV0];exact c2,by simp;omega,b6.2⟩
 ·rw[bh,dA,lR,nX]
  have h:Sat σ w (p'.at b::V++(E++(U++(lE nb s (s+ls.length - 1) t::fC t s (s+ls.length - 1) none 0 0 (bG [10] ls)::(aM gs++(par.own++(cZ par.D++(txc par.D++L)))))))):=h
  show Sat σ w (p'.at b::V++(U++(aM gs++(E++(par.own++((cZ par.D++ [lE nb s (s+ls.length - 1) t])++(txc par.D++ [fC t s (s+ls.length - 1) none 0 0 (bG [10] ls)]))))++([]++L))))
  exact h.re
def IN.tgt:IN->IN
 | .mk h ks=>if h.kind=6 then .mk {h with tight:=true} ks else .mk h ks
def wb (d:DB):Nat × Nat:=
 match d.own with
 |(_,.cells cs _)::_=>match cs.toList with
  | .int _ a:: .int _ e::_=>(a.toNat,e.toNat)
  |_=>(0,0)
 |_=>(0,0)
structure TD (G:List UInt8->List Inl) (op:Opt) (d:DB) (x:IN):Prop where
 tree:d.tree G x
 treeT:(dw d).tree G x.tgt
 kind:d.kindOK
 pos:d.posIs x.h.s x.h.e/\wb d=(x.h.s,x.h.e)/\x.h.s<1000000000/\x.h.e<2000000000
 txs: ∀t∈d.txs,jL none [] op t.raw (G t.raw)
inductive TDs (G:List UInt8->List Inl) (op:Opt):List DB->List IN->Prop where
 |nil:TDs G op [] []
 |cons {d:DB} {x:IN} {D:List DB} {xs:List IN}:TD G op d x->TDs G op D xs->TDs G op (d::D) (x::xs)
theorem TDs.append {D y:List DB}{xs g:List IN}(U:TDs G op D xs)(I:TDs G op y g):TDs G op (D++y) (xs++g):=by
 induction U with
 |nil=>exact I
 |cons h _ O=>exact .cons h O
theorem TDs.trees {D:List DB}{xs:List IN}(h:TDs G op D xs):po G D xs:=by
 induction h with
 |nil=>exact .nil
 |cons h _ g=>exact .cons h.tree g
theorem TDs.treesT {D:List DB}{xs:List IN}(h:TDs G op D xs):po G (D.map dw) (xs.map IN.tgt):=by
 induction h with
 |nil=>exact .nil
 |cons h _ g=>exact .cons h.treeT g
theorem TDs.len {D:List DB}{xs:List IN}(h:TDs G op D xs):xs.length=D.length:=by
 induction h with
 |nil=>rfl
 |cons h _ g=>simp[g]
theorem TDs.txs {D:List DB}{xs:List IN}(h:TDs G op D xs): ∀t∈ci D,jL none [] op t.raw (G t.raw):=by
 induction h with
 |nil=>intro t ht;simp[ci] at ht
 | @cons d x D xs h _ ih=>
  intro t ht
  have e:ci (d::D)=d.txs++ci D:=by simp[ci]
  rw[e] at ht
  rcases lP0.1 ht with ht|ht
  ·exact h.txs t ht
  ·exact ih t ht
theorem TDs.facts {D:List DB}{xs:List IN}(h:TDs G op D xs): ∀d∈D,d.kindOK/\d.posIs (wb d).1 (wb d).2/\(wb d).1<1000000000/\(wb d).2<2000000000:=by
 induction h with
 |nil=>intro d hd;cases hd
 | @cons d x D xs h _ ih=>
  intro e g
  rcases lW0.1 g with rfl|g
  ·obtain⟨a1,a2,a3,a4⟩:=h.pos
   rw[a2]
   exact⟨h.kind,a1,a3,a4⟩
  ·exact ih e g
def Fs:List IN->Bool
 |x::y::ys=>decide (x.h.e+1<y.h.s)||Fs (y::ys)
 |_=>false
def yZ:List IN->Bool
 |x::y::ys=>decide (x.h.e+1<y.h.s)||(Fs x.kids||yZ (y::ys))
 | [x]=>Fs x.kids
 | []=>false
theorem TDs.gap {D:List DB}{xs:List IN}(h:TDs G op D xs):DK wb D=Fs xs:=by
 induction h with
 |nil=>rfl
 | @cons d x D xs h h2 ih=>
  cases h2 with
  |nil=>rfl
  | @cons d2 x2 D2 xs2 k k2=>
   unfold DK Fs
   rw[ih,h.pos.2.1,k.pos.2.1]
inductive ItR (G:List UInt8->List Inl) (op:Opt):List IT->List IN->Prop where
 |nil:ItR G op [] []
 |cons {i:IT} {xs:List IN} {is:List IT} {ys:List IN}:i.ok->TDs G op i.D xs->ItR G op is ys->ItR G op (i::is) (.mk {kind:=4,width:=i.wd,s:=i.s,e:=i.e} xs::ys)
theorem ItR.append {a b:List IT}{xs g:List IN}(I:ItR G op a xs)(y:ItR G op b g):ItR G op (a++b) (xs++g):=by
 induction I with
 |nil=>exact y
 |cons h k _ E=>exact .cons h k E
theorem ItR.gap {y:List IT}{g:List IN}(h:ItR G op y g):mz wb y=yZ g:=by
 induction h with
 |nil=>rfl
 | @cons i xs y g h k h2 ih=>
  cases h2 with
  |nil=>unfold mz yZ;exact k.gap
  | @cons i2 xs2 is2 ys2 h' k' h2'=>
   unfold mz yZ
   rw[ih,k.gap]
   rfl
theorem ItR.facts {y:List IT}{E:List IN}(h:ItR G op y E): ∀i∈y,i.ok/\ ∀d∈i.D,d.kindOK/\d.posIs (wb d).1 (wb d).2/\(wb d).1<1000000000/\(wb d).2<2000000000:=by
 induction h with
 |nil=>intro d hd;cases hd
 |cons h k _ I=>
  intro e g
  rcases lW0.1 g with rfl|g
  ·exact⟨h,k.facts⟩
  ·exact I e g
theorem ItR.txs {g:List IT}{y:List IN}(h:ItR G op g y): ∀t∈ci (g.map IT.db),jL none [] op t.raw (G t.raw):=by
 induction h with
 |nil=>intro t ht;simp[ci] at ht
 | @cons i xs g y h k _ ih=>
  intro t ht
  have e:ci ((i::g).map IT.db)=ci i.D++ci (g.map IT.db):=by simp[ci,IT.db]
  rw[e] at ht
  rcases lP0.1 ht with ht|ht
  ·exact k.txs t ht
  ·exact ih t ht
theorem ItR.trees {y:List IT}{g:List IN}(h:ItR G op y g):po G (y.map IT.db) g:=by
 induction h with
 |nil=>exact .nil
 |cons h k _ E=>exact .cons (xf h k.trees) E
def IN.tgtI:IN->IN
 | .mk h ks=> .mk h (ks.map IN.tgt)
theorem ItR.treesT {y g:List IT}(hr:Ret y g): ∀ {E:List IN},ItR G op y E->po G (g.map IT.db) (E.map IN.tgtI)/\(∀t∈ci (g.map IT.db),t∈ci (y.map IT.db)):=by
 induction hr with
 |nil=>intro E h;cases h;exact⟨.nil,λt h=>h⟩
 | @cons i i' y g h1 h2 h3 ih=>
  intro E h
  cases h with
  | @cons _ xs _ ys' k1 k2 k3=>
   obtain⟨t1,V⟩:=ih k3
   have O:i'.D=i.D.map dw:=by rw[h1]
   have ht:=xf (G:=G) h2 (xs:=xs.map IN.tgt) (by rw[O];exact k2.treesT)
   have I:i'.wd=i.wd/\i'.s=i.s/\i'.e=i.e:=by rw[h1];exact⟨rfl,rfl,rfl⟩
   rw[I.1,I.2.1,I.2.2] at ht
   refine⟨.cons ht t1,λt ht=>?_⟩
   have W:ci ((i'::g).map IT.db)=ci i'.D++ci (g.map IT.db):=by simp[ci,IT.db]
   have U:ci ((i::y).map IT.db)=ci i.D++ci (y.map IT.db):=by simp[ci,IT.db]
   have ec:ci i'.D=ci i.D:=by rw[O];exact(qx λd hd=>(k2.facts d hd).1).2
   rw[W,ec] at ht
   rw[U]
   rcases lP0.1 ht with ht|ht
   ·exact lD1 _ ht
   ·exact lB0 _ (V t ht)
def xZ (s:Nat)(bul:UInt8)(num:Int)(its:List IN):IN:=
 .mk {kind:=3,num:=if bul=46\/bul=41 then num else -1,char:= [bul],loose:=yZ its,s:=s,e:=(its.getLast?.map λx=>x.h.e).getD 0} (if yZ its then its else its.map IN.tgtI)
theorem FQ {nb O s e:Nat}{raw:List UInt8}(hs:s<1000000000)(y:e<2000000000)(g:mf (G raw))(E:jL none [] op raw (G raw)):TD G op (kz nb O s e raw) (.mk {kind:=6,s:=s,e:=e} (eC (G raw))):=by
 refine⟨Cf g,BQ g,.inl ⟨_,_,_,_,_,rfl⟩,⟨j9 pC rfl (.head _),?_,hs,y⟩,λx I=>?_⟩
 ·show ((s:Int).toNat,(e:Int).toNat)=(s,e)
  simp
 ·obtain rfl:=lN0.1 I
  exact E
theorem zA {nb s e:Nat}{q:OA}{n c:Nat}{IM:List ai}{D:List DB}{xs:List IN}(g:Sl 1 aO q n c (D.map DB.v) IM)(y:n<1000000)(hs:s<1000000000/\e<2000000000)(h:TDs G op D xs):TD G op (oC nb s e q n c IM D) (.mk {kind:=2,s:=s,e:=e} xs):=by
 have ht:(oC nb s e q n c IM D).tree G (.mk {kind:=2,s:=s,e:=e} xs):=Av (nb:=nb) (s:=s) (e:=e) g (by omega) h.trees
 refine⟨ht,?_,.inr ⟨_,_,rfl,by decide⟩,⟨j9 wF rfl (.head _),?_,hs⟩,h.txs⟩
 ·rw[eh (d:=oC nb s e q n c IM D) rfl (by decide)]
  exact ht
 ·show ((s:Int).toNat,(e:Int).toNat)=(s,e)
  simp
theorem ItR.last {y:List IT}{g:List IN}(h:ItR G op y g):g.getLast?.map (λx=>x.h.e)=y.getLast?.map IT.e:=by
 induction h with
 |nil=>rfl
 | @cons i xs y g h k h2 ih=>
  cases h2 with
  |nil=>rfl
  |cons O I E=>rw[lT2,lT2];exact ih
theorem BU {nb s e:Nat}{bul:UInt8}{num:Int}{q:OA}{n c:Nat}{IM:List ai}{items y:List IT}{g:List IN}(b3:Utf8.encode (bul.toNat:Int)=bs [bul])(a7:Sl 1 aO q n c (items.map IT.v) IM)(b4:n<1000000)(hs:s<1000000000/\e<2000000000)(h:ItR G op items g)(ht:Tgh (mz wb items) items y)(a6:items.getLast?.map IT.e=some e):TD G op (qy nb s e (bul.toNat:Int) num (mz wb items) q n c IM y) (xZ s bul num g):=by
 have U:(g.getLast?.map λx=>x.h.e).getD 0=e:=by rw[h.last,a6];rfl
 have V:y.map IT.v=items.map IT.v:=by
  rcases ht with ⟨_,rfl⟩|⟨_,hr⟩
  ·rfl
  ·exact hr.vs
 have O:po G (y.map IT.db) (if yZ g then g else g.map IN.tgtI)/\ ∀t∈ci (y.map IT.db),t∈ci (items.map IT.db):=by
  rw[h.gap] at ht
  rcases ht with ⟨I,rfl⟩|⟨I,hr⟩
  ·rw[I];exact⟨h.trees,λt h=>h⟩
  ·rw[I];exact ItR.treesT hr h
 have E:=Cu (nb:=nb) (s:=s) (e:=e) (num:=num) (lo:=mz wb items) b3 (items:=y) (by rw[V];exact a7) (by omega) O.1
 rw[h.gap] at E
 have W:xZ s bul num g= .mk {kind:=3,num:=if bul=46\/bul=41 then num else -1,char:= [bul],loose:=yZ g,s:=s,e:=e} (if yZ g then g else g.map IN.tgtI):=by
  unfold xZ;rw[U]
 rw[h.gap,W]
 refine⟨E,?_,.inr ⟨_,_,rfl,by decide⟩,⟨j9 zG rfl (.head _),?_,hs⟩,λt ht=>h.txs t (O.2 t ht)⟩
 ·rw[eh (d:=qy nb s e (bul.toNat:Int) num (yZ g) q n c IM y) rfl (by decide)]
  exact E
 ·show ((s:Int).toNat,(e:Int).toNat)=(s,e)
  simp

structure xR (G:List UInt8->List Inl) (op:Opt) (ls:List (List UInt8)):Prop where
 fin:Leaf.finN (.para ls)
 inl:jL none [] op (bG [10] ls) (G (bG [10] ls))
 tame:mf (G (bG [10] ls))
inductive Pd (G:List UInt8->List Inl) (op:Opt):List IN->List Bk->Leaf->Prop where
 |none:Pd G op [] [] .none
 |para {s:Nat} {ls:List (List UInt8)}:xR G op ls->Pd G op [.mk {kind:=6,s:=s,e:=s+ls.length - 1} (eC (G (bG [10] ls)))] [] (oZ s ls)
 |quote {f:Bk} {junk:List Bk} {lf:Leaf} {xs ys:List IN}:f.isQuote->TDs G op f.D xs->Pd G op ys junk lf->Pd G op [.mk {kind:=2,s:=f.ob.s,e:=f.ob.e} (xs++ys)] (f::junk) lf
 |list {f g:Bk} {junk:List Bk} {lf:Leaf} {lb wd:Nat} {bul:UInt8} {num:Int} {it:OA} {items:List IT} {ixs xs ys:List IN}:f.isList lb bul.toNat num it->f.D=items.map IT.db->ItR G op items ixs->ItemOf it g lb wd true->1<=wd/\wd<100->Utf8.encode (bul.toNat:Int)=bs [bul]->TDs G op g.D xs->Pd G op ys junk lf->
  Pd G op [xZ f.ob.s bul num (ixs++ [.mk {kind:=4,width:=wd,s:=g.ob.s,e:=g.ob.e} (xs++ys)])] (f::g::junk) lf
def vZ (G:List UInt8->List Inl)(op:Opt)(xs:List IN)(junk:List Bk)(lf:Leaf):Prop:=
 ∀(σ:Out) (R:Ending->World->Prop) (L:List ai) (b pb:Nat) (p:PS) (w:World) (X:OA->Int->WP) (gs:List Bk) (top:Bk) (k:Nat),(∀I E w,aH.bl1 R X I E w->X I E w)->op.at pb∈L->p.pz=kE pb->k<=gs.length+1->
  (∀O∈gs++top::junk,O.D.length<=90000)->(txF (gs++top::junk)).length<=90000->DocC σ b L (gs++top::junk) lf p w->
  (∀w (p':PS) y l,p'.base=p.base->p'.depth=p.depth->p'.lineno=p.lineno->y.like top->y.D=top.D++l->TDs G op l xs->(ci l).length<=(txF junk).length+1->DocC σ b L (gs++ [y]) .none p' w->X (kE b) (k:Int) w)->X (kE b) (k:Int) w
theorem Bk.like.refl (f:Bk):f.like f:=⟨rfl,rfl,rfl,rfl⟩
theorem Bk.like.quote {f g:Bk}(h:g.like f)(O:f.isQuote):g.isQuote:=by
 obtain⟨E,I,y⟩:=O
 exact⟨E,h.1.trans I,h.2.2.2.trans y⟩
theorem Bk.like.itemOf {f g:Bk}{lb wd:Nat}{it:OA}{hv:Bool}(h:g.like f)(I:ItemOf it f lb wd hv):ItemOf it g lb wd hv:=by
 obtain⟨ib,O,y,E⟩:=I
 exact⟨ib,O,h.1.trans y,h.2.2.2.trans E⟩
theorem di (a b:List DB):ci (a++b)=ci a++ci b:=by simp[ci]
theorem Ao {X:OA->Int->WP}{b k s:Nat}{fs:List Bk}{ls:List (List UInt8)}{p:PS}(O: ∀g y w,aH.bl1 R X g y w->X g y w)(h:DocC σ b L fs (oZ s ls) p w)(b4:k<=fs.length)(hc:callE P aI #[kT (kE b)] (λe I=> ∃(U:Value),e= hQ U/\X (kE b) (k:Int) I) w):X (kE b) (k:Int) w:=by
 obtain⟨M,a7,V,b5,hs,ht,W,⟨b3,e,rfl,a6⟩,h⟩:=h
 have E:=hs.2.1
 rw[lA0,lS0] at E
 refine O _ _ _ (aa ?_)
 refine⟨_,_,_,h.ldA,?_⟩
 rw[E]
 exact ag (by simp;omega) hc
theorem Pd.close (g0:op.task=false){xs:List IN}{junk:List Bk}{lf:Leaf}(h:Pd G op xs junk lf):vZ G op xs junk lf:=by
 induction h with
 |none=>
  intro σ R L b pb p w X gs top k U b5 b4 f0 I a6 h a7
  exact a7 w p top [] rfl rfl rfl (.refl top) (by simp) .nil (by simp[ci]) h
 | @para s ls hp=>
  intro σ R L b pb p w X gs top k U b5 b4 f0 I a6 h a7
  have f3:=I top (by simp)
  have g5:k<=(gs++ [top]).length:=by rw[lA0];simp;omega
  refine Ao U h g5 ?_
  refine uH h hp.fin (by omega) (by omega) λw p' b6 nb t x b1 b2 b7 V W g1 h9 h=>⟨_,rfl,?_⟩
  have hb:s+ls.length - 1<2000000000:=by omega
  exact a7 w p' b6 _ b1 b2 b7 V W (.cons (FQ g1 hb hp.tame hp.inl) .nil) (by simp[ci,kz]) h
 | @quote f junk lf xs ys hq hxs hys ih=>
  intro σ R L b pb p w X gs top k U b5 b4 f0 I a6 h a7
  have d3:gs++top::f::junk=(gs++ [top])++f::junk:=by simp
  rw[d3] at I a6 h
  have f3:=I top (by simp)
  refine ih σ R L b pb p w X (gs++ [top]) f k U b5 b4 (by simp;omega) I a6 h λw p' y l b1 b2 b7 V W d0 h1 h=>?_
  have h:DocC σ b L (gs++ [top,y]) .none p' w:=by simpa using h
  have O:y.ok:=by obtain⟨_,_,_,_,_,_,c9,_⟩:=h;exact c9 y (by simp)
  have e8:y.ob.n<1000000:=by have:=O.1.1;have:=O.2.1;simp at*;omega
  refine pv U h (by simp;omega) ?_
  refine zh h (V.quote hq) (by omega) λw b6 nb x ht c5 h=>⟨_,rfl,?_⟩
  refine a7 w {p' with stn:=gs.length+1} b6 _ b1 b2 b7 ht c5 ?_ ?_ h
  rotate_left
  ·have b8:ci [oC nb y.ob.s y.ob.e y.ob.q y.ob.n y.ob.c y.IM y.D]=ci f.D++ci l:=by rw[<-di,<-W];simp[ci,oC]
   have e9:txF (f::junk)=ci f.D++txF junk:=by simp[txF]
   rw[b8,e9,lA0,lA0];omega
  have:=zA (nb:=nb) (s:=y.ob.s) (e:=y.ob.e) O.1 e8 ⟨O.2.2.1,by have:=O.2.2.2;omega⟩ (by rw[W];exact hxs.append d0)
  rw[V.2.1,V.2.2.1] at this⊢
  exact .cons this .nil
 | @list f g junk lf lb wd bul num it items ixs xs ys hf hfD hit hg hwd hu hxs hys ih=>
  intro σ R L b pb p w X gs top k U b5 b4 f0 I a6 h a7
  have d3:gs++top::f::g::junk=(gs++ [top,f])++g::junk:=by simp
  rw[d3] at I a6 h
  have f3:=I top (by simp)
  have i1:=I f (by simp)
  refine ih σ R L b pb p w X (gs++ [top,f]) g k U b5 b4 (by simp;omega) I a6 h λw p' E l b1 b2 b7 V W d0 h1 h=>?_
  have h:DocC σ b L (gs++ [top]++ [f,E]) .none p' w:=by simpa using h
  refine pv U h (by simp;omega) ?_
  refine uI h (V.itemOf hg).item hf (by omega) λw y nb x g2 f5 i2 c5 f1 h=>⟨_,rfl,?_⟩
  generalize d1:IT.mk nb E.ob.s E.ob.e E.ob.q E.ob.n E.ob.c wd E.IM E.D=ii at c5 f1
  have b9:ItR G op (items++ [ii]) (ixs++ [.mk {kind:=4,width:=wd,s:=g.ob.s,e:=g.ob.e} (xs++ys)]):=by
   refine hit.append ?_
   have:=ItR.cons (G:=G) (op:=op) (i:=ii) (xs:=xs++ys) f1 (by rw[<-d1];show TDs G op E.D (xs++ys);rw[W];exact hxs.append d0) .nil
   rw[<-d1] at this⊢
   have e0:(IT.mk nb E.ob.s E.ob.e E.ob.q E.ob.n E.ob.c wd E.IM E.D).s=g.ob.s:=V.2.1
   have b8:(IT.mk nb E.ob.s E.ob.e E.ob.q E.ob.n E.ob.c wd E.IM E.D).e=g.ob.e:=V.2.2.1
   rw[e0,b8] at this
   exact this
  have h:DocC σ b L (gs++ [top,y]) .none {p' with stn:=(gs++ [top]).length+1} w:=by simpa using h
  have O:y.ok:=by obtain⟨_,_,_,_,_,_,c9,_⟩:=h;exact c9 y (by simp)
  have f2:y.D=(items++ [ii]).map IT.db:=by rw[c5,hfD];simp
  have e8:y.ob.n<1000000:=by have:=O.1.1;have:=O.2.1;simp at*;omega
  refine pv U h (by simp;omega) ?_
  refine A6 (op:=op) (pb:=pb) (items:=items++ [ii]) (pos:=wb) h g2 f2 (by simp) b9.facts (by rw[<-b4];exact pk b1) b5 g0 (by omega) λw p2 b6 g3 e0 c8 x h3 h2 h7 i3 ht f4 f6 g7 h=>⟨_,rfl,?_⟩
  refine a7 w p2 b6 _ (h3.trans b1) (h2.trans b2) (h7.trans b7) ht g7 (.cons ?_ .nil) ?_ h
  rotate_left
  ·have b8:ci [qy g3 y.ob.s e0 bul.toNat num (mz wb (items++ [ii])) y.ob.q y.ob.n y.ob.c y.IM c8]=ci (c8.map IT.db):=by simp[ci,qy]
   have h6:(ci (c8.map IT.db))=ci ((items++ [ii]).map IT.db):=by
    rcases f4 with ⟨_,rfl⟩|⟨_,hr⟩
    ·rfl
    ·exact(hr.facts λi hi d hd=>((b9.facts i hi).2 d hd).1).1
   have h4:ci ii.D=ci g.D++ci l:=by rw[<-d1,<-di,<-W]
   have h8:ci ((items++ [ii]).map IT.db)=ci f.D++(ci g.D++ci l):=by rw[lV0,di,<-hfD,<-h4];simp[ci,IT.db]
   have e9:txF (f::g::junk)=ci f.D++(ci g.D++txF junk):=by simp[txF]
   rw[b8,h6,h8,e9];simp only[lA0];omega
  have d2:=O.1
  rw[f2] at d2
  have g6:((items++ [ii]).map IT.db).map DB.v=(items++ [ii]).map IT.v:=by simp[Function.comp_def,IT.db]
  rw[g6] at d2
  rw[f5]
  refine BU hu d2 e8 ⟨f5▸O.2.2.1,?_⟩ b9 f4 f6.2
  obtain⟨h5,g4,rfl⟩:=f6.1
  have:=(b9.facts h5 g4).1.se.2
  omega
theorem Fc {xs:List IN}{junk:List Bk}{lf:Leaf}{b pb:Nat}{p:PS}{gs:List Bk}{top:Bk}(b6:vZ G op xs junk lf)(b4:op.at pb∈L)(V:p.pz=kE pb)(b7: ∀g∈gs++top::junk,g.D.length<=90000)(b5:(txF (gs++top::junk)).length<=90000)(h:DocC σ b L (gs++top::junk) lf p w)(b8: ∀w (p':PS) y l,p'.base=p.base->p'.depth=p.depth->p'.lineno=p.lineno->y.like top->y.D=top.D++l->TDs G op l xs->(ci l).length<=(txF junk).length+1->DocC σ b L (gs++ [y]) .none p' w->R (hQ (.tuple #[])) w):
 callE P bj #[kT (kE b),hY ((gs.length+1:Nat):Int)] R w:=by
 refine aH.sound ?_
 have h0:=h
 obtain⟨M,b9,O,c2,hs,ht,U,c4,h⟩:=h
 have E:=hs.2.1
 simp only[lA0,lS0,lF0] at E
 refine aa ?_
 refine⟨_,_,_,h.ldA,?_⟩
 rw[E]
 refine af (by simp;omega) ?_
 intro X I
 refine b6 σ R L b pb p w X gs top (gs.length+1) I b4 V (lA1 _) b7 b5 h0 λw p' y l b1 b2 c1 c3 a6 W a7 h=>?_
 have h0:=h
 obtain⟨M,b9,O,c2,hs,ht,U,⟨rfl,rfl⟩,h⟩:=h
 have E:=hs.2.1
 simp only[lA0,lS0,lF0,lK1,lN1] at E
 refine I _ _ _ (aa ?_)
 refine⟨_,_,_,h.ldA,?_⟩
 rw[E]
 exact af (by simp) (b8 w p' y l b1 b2 c1 c3 a6 W a7 h0)
theorem DocC.drop {b:Nat}{c:ai}{fs:List Bk}{lf:Leaf}{p:PS}(h:DocC σ b (c::L) fs lf p w):DocC σ b L fs lf p w:=by
 obtain⟨M,I,g,O,hs,ht,y,E,h⟩:=h
 exact⟨M,I,g,O,hs,ht,y,E,h.less [c]⟩
theorem vQ {xs:List IN}{junk:List Bk}{lf:Leaf}{b b1 pb:Nat}{p:PS}{gs:List Bk}{top:Bk}{l:Ln}(b8:vZ G op xs junk lf)(b6:op.at pb∈L)(a6:p.pz=kE pb)(b9: ∀g∈gs++top::junk,g.D.length<=90000)(b7:(txF (gs++top::junk)).length<=90000)(h:DocC σ b (l.at b1::L) (gs++top::junk) lf p w)(hd:p.depth=gs.length)(c8:gs.length<1000000)(c5:l.ok)(hb:l.blank=true)(c1: ∀w (p':PS) y l,p'.base=p.base->p'.lineno=p.lineno->y.like top->y.D=top.D++l->TDs G op l xs->(ci l).length<=(txF junk).length+1->DocC σ b L (gs++ [y]) .none p' w->R (hQ (.tuple #[])) w):
 ak.k2 R (kE b) b1 w:=by
 unfold ak.k2
 obtain⟨M,E,O,I,hs,ht,V,c2,h⟩:=h
 have h:Sat σ w (l.at b1::p.at b::(M++(E++(aM (gs++top::junk)++(I++L))))):=h.re
 refine dF h (.head _) c5 λw h=>⟨_,rfl,?_⟩
 rw[hb]
 refine ag rfl (aa ⟨_,Sat.ld h (.tail _ (.head _)) (i:=5) rfl,?_⟩)
 have e:i64.wrap (p.depth+1)=((gs.length+1:Nat):Int):=by rw[hd,i64_in _ (by omega)];omega
 rw[e]
 refine Fc (L:=l.at b1::L) (pb:=pb) b8 (.tail _ b6) a6 b9 b7 ⟨M,E,O,I,hs,ht,V,c2,h.re⟩ λw p' y c4 W b2 c3 U b4 a7 b5 h=>⟨rfl,?_⟩
 exact c1 w p' y c4 W c3 U b4 a7 b5 h.drop

theorem Pd.len {xs:List IN}{junk:List Bk}{lf:Leaf}(h:Pd G op xs junk lf):xs.length<=1:=by
 cases h<;>simp
theorem LnR.quoteNo {l:Ln}(h:LnR l []):l.quote=none:=by
 have y:=h.lenNil
 have E:=h.sp
 have g:l.text[l.i]? =none:=lT1 y
 unfold Ln.quote Ln.lead Ln.trimSp Ln.tsGo
 rw[if_neg (by omega),if_neg (by simp),if_neg (by rw[g];simp),if_neg (by rw[g];simp),if_pos (lB2 _)]
 simp[Ln.trimC,g]
theorem FW {X:OA->Nat->WP}(b7: ∀a6 U w,ak.bl1 R X a6 U w->X a6 U w){b b1:Nat}{p:PS}{gs rest:List Bk}{f:Bk}{lf:Leaf}{l:Ln}(h:DocC σ b (l.at b1::L) (gs++f::rest) lf p w)(hd:p.depth+1=gs.length)(c4:0<gs.length/\gs.length<1000000)(c3:l.ok)(b9: ∀(E:Ending->World->Prop) K w,(∀y∈gs++f::rest,∀c∈y.own,c∈K)->Sat σ w K->(∀w,Sat σ w K->E (hQ (.tuple #[l.val,hV false])) w)->de P (callMethod f.ob.bd "pub-paratext/pub/rscmarkdown.extend" #[kT (kE b),l.val]) E w)
 (b6: ∀w,DocC σ b (l.at b1::L) (gs++f::rest) lf p w->ak.k2 R (kE b) b1 w):X (kE b) b1 w:=by
 obtain⟨M,V,O,W,hs,ht,a7,b8,h⟩:=h
 have b4: ∀y∈gs++f::rest,∀c∈y.own,c∈aM (gs++f::rest):=by
  intro y I c hc
  unfold aM
  exact lS2.2 ⟨y,I,by unfold Bk.mem;simp[hc]⟩
 have b3:p.depth=((gs.length - 1:Nat):Int):=by omega
 have b5:((gs++f::rest).map Bk.ob++O)[gs.length - 1+1]? =some f.ob:=by
  rw[show gs.length - 1+1=gs.length by omega,lM0 (by simp),lF2]
  simp
 have h:Sat σ w (l.at b1::(p.at b::M++(V++(aM (gs++f::rest)++(W++L))))):=h.re
 refine vJ (l2:=l) (ok:=false) b7 h hs b3 (by omega) b5 c3 (λE b0 w h c2=>?_) (.inr ⟨rfl,rfl⟩) (λc1=>absurd c1 (by decide)) (λ_ w h=>?_)
 ·exact b9 E _ w (λy I c hc=>by simp[b4 y I c hc]) h c2
 ·exact b6 w ⟨M,V,O,W,hs,ht,a7,b8,h.re⟩
theorem FX {X:OA->Nat->WP}(b4: ∀U g w,ak.bl1 R X U g w->X U g w){b b1 s:Nat}{p:PS}{gs:List Bk}{ls:List (List UInt8)}{l:Ln}(h:DocC σ b (l.at b1::L) gs (oZ s ls) p w)(hd:p.depth+1=gs.length)(b9:0<gs.length/\gs.length<1000000)(b7:l.ok)(b3: ∀w,DocC σ b (l.at b1::L) gs (oZ s ls) p w->ak.k2 R (kE b) b1 w):X (kE b) b1 w:=by
 obtain⟨M,E,b8,I,hs,ht,V,y,h⟩:=h
 have W:=y
 obtain⟨O,e,rfl,c1⟩:=y
 have a6:p.depth=((gs.length - 1:Nat):Int):=by omega
 have a7:(gs.map Bk.ob++ [j5 O s e])[gs.length - 1+1]? =some (j5 O s e):=by
  rw[show gs.length - 1+1=gs.length by omega];simp
 have h:Sat σ w (l.at b1::(p.at b::M++(E++(aM gs++(I++L))))):=h.re
 refine vJ (l2:=l) (ok:=false) b4 h hs a6 (by omega) a7 b7 (λc2 b0 w h b6=>?_) (.inr ⟨rfl,rfl⟩) (λb5=>absurd b5 (by decide)) (λ_ w h=>?_)
 ·refine bm sP ?_
  exact vk h b6
 ·exact b3 w ⟨M,E,_,I,hs,ht,V,W,h.re⟩
theorem endX {X:OA->Nat->WP}(V: ∀y E w,ak.bl1 R X y E w->X y E w){b b1:Nat}{p:PS}{gs:List Bk}{l:Ln}(h:DocC σ b (l.at b1::L) gs .none p w)(hd:p.depth+1=gs.length)(a6:0<gs.length/\gs.length<1000000)(U: ∀w,DocC σ b (l.at b1::L) gs .none p w->ak.k2 R (kE b) b1 w):X (kE b) b1 w:=by
 obtain⟨M,g,W,a7,hs,ht,O,⟨rfl,rfl⟩,h⟩:=h
 have I:=hs.2.1
 simp only[lG0,lS0] at I
 refine V _ _ _ ?_
 have h:Sat σ w (l.at b1::p.at b::(M++(g++(aM gs++([]++L))))):=h.re
 refine Sat.tk h λw h=>aa (aa ?_)
 refine⟨_,Sat.ld h (.tail _ (.head _)) (i:=5) rfl,_,_,_,Sat.ld h (.tail _ (.head _)) (i:=4) rfl,?_⟩
 rw[i64_in _ (by omega),I]
 refine af (by simp;omega) ?_
 exact U w ⟨M,g,[],[],hs,ht,O,⟨rfl,rfl⟩,h.re⟩
theorem Ej (e5:op.task=false){X:OA->Nat->WP}(d1: ∀g2 f3 w,ak.bl1 R X g2 f3 w->X g2 f3 w){b b1 pb:Nat}(e7:op.at pb∈L){xs:List IN}{junk:List Bk}{lf:Leaf}(g0:Pd G op xs junk lf):
 ∀(gs:List Bk) (top:Bk) (p:PS) (l:Ln) (w:World),p.pz=kE pb->gs.length+junk.length<900000->(∀I∈gs++top::junk,I.D.length<=90000)->(txF (gs++top::junk)).length<=90000->DocC σ b (l.at b1::L) (gs++top::junk) lf p w->p.depth=gs.length->LnR l []->
  (∀w (p':PS) O l U d3 pend,p'.base=p.base->p'.lineno=p.lineno->O.like top->O.D=top.D++l->TDs G op l d3->Pd G op pend U .none->d3++pend=xs->(U.length<=junk.length/\ ∀N,(∀I∈junk,I.D.length<=N)-> ∀I∈U,I.D.length<=N+1)->(txF (O::U)).length<=(txF (top::junk)).length+1->
   (U= []\/ ∃f rest lb num it,∃bul:UInt8,U=f::rest/\f.isList lb bul.toNat num it/\ ∃x,xs= [x]/\x.h.char= [bul])->DocC σ b L (gs++O::U) .none p' w->R (hQ (.tuple #[])) w)->X (kE b) b1 w:=by
 have e6: ∀(top O:Bk) (l:List DB) (junk:List Bk),O.D=top.D++l->(ci l).length<=(txF junk).length+1->(txF [O]).length<=(txF (top::junk)).length+1:=by
  intro top O l junk f6 i0
  have h9:txF (top::junk)=ci top.D++txF junk:=by simp[txF]
  rw[dL,f6,di,h9]
  simp only[lA0];omega
 have e9:=g0
 induction g0 with
 |none=>
  intro gs top p l w b5 e0 b4 a7 h hd E b8
  refine endX d1 h (by simp;omega) ⟨by simp,by simp;omega⟩ λw h=>?_
  refine vQ (Pd.close e5 (.none:Pd G op [] [] .none)) e7 b5 b4 a7 h hd (by omega) E.ok (by unfold Ln.blank;rw[E.tx];rfl) λw p' O b9 b7 b6 W V a6 c6 h=>?_
  exact b8 w p' O b9 [] [] [] b7 b6 W V a6 .none rfl ⟨lB2 _,λN _ I b3=>by cases b3⟩ (e6 _ _ _ _ V c6) (.inl rfl) h
 | @para s ls hp=>
  intro gs top p l w b5 e0 b4 a7 h hd E b8
  refine FX d1 h (by simp;omega) ⟨by simp,by simp;omega⟩ E.ok λw h=>?_
  refine vQ (Pd.close e5 e9) e7 b5 b4 a7 h hd (by omega) E.ok (by unfold Ln.blank;rw[E.tx];rfl) λw p' O b9 b7 b6 W V a6 c6 h=>?_
  exact b8 w p' O b9 [] _ [] b7 b6 W V a6 .none (by simp) ⟨lB2 _,λN _ I b3=>by cases b3⟩ (e6 _ _ _ _ V c6) (.inl rfl) h
 | @quote f junk lf xs ys hq hxs hys ih=>
  intro gs top p l w b5 e0 b4 a7 h hd E b8
  obtain⟨m1,i8,l5⟩:=hq
  have h:DocC σ b (l.at b1::L) ((gs++ [top])++f::junk) lf p w:=by simpa using h
  refine FW d1 h (by simp;omega) ⟨by simp,by simp;omega⟩ E.ok (λf4 K w _ h d2=>?_) λw h=>?_
  ·rw[i8]
   refine bm mH ?_
   exact sD h E.ok (by rw[E.quoteNo];exact⟨rfl,rfl⟩) d2
  have h:DocC σ b (l.at b1::L) (gs++top::f::junk) lf p w:=by simpa using h
  refine vQ (Pd.close e5 e9) e7 b5 b4 a7 h hd (by omega) E.ok (by unfold Ln.blank;rw[E.tx];rfl) λw p' O b9 b7 b6 W V a6 c6 h=>?_
  exact b8 w p' O b9 [] _ [] b7 b6 W V a6 .none (by simp) ⟨lB2 _,λN _ I b3=>by cases b3⟩ (e6 _ _ _ _ V c6) (.inl rfl) h
 | @list f I junk lf lb wd bul num it items ixs xs ys hf hfD hit b3 hwd hu hxs hys ih=>
  intro gs top p l w b5 e0 b4 a7 h hd E b8
  simp only[lF0] at e0
  have g5:=b3
  have f0:=hf
  obtain⟨ib,h6,h8,f5⟩:=b3
  obtain⟨g6,i4⟩:=hf
  have hb:l.blank=true:=by unfold Ln.blank;rw[E.tx];rfl
  have h:DocC σ b (l.at b1::L) ((gs++ [top])++f::I::junk) lf p w:=by simpa using h
  refine rY (l2:=l) d1 h (by simp;omega) ⟨by simp,by simp;omega⟩ E.ok hb (λf4 K w e2 h d2=>?_) λw h=>?_
  ·rw[g6]
   refine bm gy ?_
   refine lT (ib:=ib) (lb:=lb) (n:=wd) (hv:=true) (bul:=bul.toNat) (num:=num) (lo:=false) (td:= .nilFunc) h E.ok (by omega) ?_ ?_ (by rw[E.padEnd];exact⟨rfl,rfl⟩) d2
   ·rw[<-h6];exact e2 f (by simp) _ (by rw[i4];exact .head _)
   ·exact e2 I (by simp) _ (by rw[f5];exact .head _)
  have h:DocC σ b (l.at b1::L) ((gs++ [top,f])++I::junk) lf {p with depth:=((gs++ [top]).length:Nat)} w:=by simpa using h
  refine rY (l2:=Ln.zero) d1 h (by simp;omega) ⟨by simp,by simp;omega⟩ E.ok hb (λf4 K w e2 h d2=>?_) λw h=>?_
  ·rw[h8]
   refine bm kB ?_
   exact pK h E.ok hb (e2 I (by simp) _ (by rw[f5];exact .head _)) d2
  have h5:gs++top::f::I::junk=(gs++ [top,f])++I::junk:=by simp
  rw[h5] at b4 a7
  refine ih hys (gs++ [top,f]) I {p with depth:=((gs++ [top,f]).length:Nat)} Ln.zero w b5 (by simp;omega) b4 a7 h rfl ⟨⟨by decide,by decide,by decide,by decide⟩,rfl,rfl⟩ λw p' e3 b9 U d3 pend b7 b6 W V a6 c6 c7 g1 k0 j0 h=>?_
  have h:DocC σ b L (gs++top::f::e3::U) .none p' w:=by simpa using h
  have g4:Pd G op [xZ f.ob.s bul num (ixs++ [.mk {kind:=4,width:=wd,s:=I.ob.s,e:=I.ob.e} (xs++ys)])] (f::e3::U) .none:=by
   have:=Pd.list (G:=G) (op:=op) (xs:=xs++d3) f0 hfD hit (W.itemOf g5) hwd hu (by rw[V];exact hxs.append a6) c6
   rw[lD0,c7,W.2.1,W.2.2.1] at this
   exact this
  refine b8 w p' top [] (f::e3::U) [] _ b7 b6 (.refl top) (by simp) .nil g4 rfl ⟨by have:=g1.1;simp;omega,λN e8 x d0=>?_⟩ ?_ (.inr ⟨f,e3::U,lb,num,it,bul,rfl,f0,_,rfl,rfl⟩) h
  ·rcases lW0.1 d0 with rfl|d0
   ·have:=e8 x (by simp);omega
   rcases lW0.1 d0 with rfl|d0
   ·have f6:=e8 I (by simp)
    have i0:=a6.len
    have j1:=hys.len
    have h7:=congrArg List.length c7
    rw[V];simp only[lA0] at h7⊢;omega
   ·exact g1.2 N (λy g7=>e8 y (by simp[g7])) x d0
  ·have g3: ∀(u:Bk) J,txF (top::f::u::J)=ci top.D++(ci f.D++txF (u::J)):=by intro u J;simp[txF]
   rw[g3,g3]
   simp only[lA0];omega

theorem p9 {xs:List IN}{junk:List Bk}{lf:Leaf}{b pb I:Nat}{cs:List Value}{E:TypeId}{p:PS}{gs:List Bk}{top:Bk}{t:TypeId}{v:Value}(c5:vZ G op xs junk lf)(c2:op.at pb∈L)(b9:p.pz=kE pb)(c8: ∀W∈gs++top::junk,W.D.length<=90000)(c4:(txF (gs++top::junk)).length<=90000)(h:DocC σ b ((I,cel cs E)::L) (gs++top::junk) lf p w)(hd:p.depth=gs.length)(e2:gs.length<900000)(a7:p.lineno<1000000000)(c9: ∀w (p':PS) y l f,p'.base=p.base->p'.lineno=p.lineno->p'.depth=p.depth->y.like top->y.D=top.D++l->TDs G op l xs->(ci l).length<=(txF junk).length+1->f.ob=⟨.iface t v,none,0,0,p.lineno,p.lineno⟩->f.own= [(I,cel cs E)]->f.D= []->f.IM= []->
  DocC σ b L (gs++ [y,f]) .none p' w->R (hQ (.tuple #[])) w):
 callE P bQ #[kT (kE b),.iface t v] R w:=by
 obtain⟨M,b3,b7,b4,hs,ht,b8,d1,h⟩:=h
 have h:Sat σ w (p.at b::(M++(b3++(aM (gs++top::junk)++(b4++((I,cel cs E)::L)))))):=h
 refine rF h (by omega) λw h=>?_
 have e:p.depth+1=((gs.length+1:Nat):Int):=by omega
 rw[e]
 refine Fc (L:=(I,cel cs E)::L) (pb:=pb) c5 (.tail _ c2) b9 c8 c4 ⟨M,b3,b7,b4,hs,ht,b8,d1,h⟩ λw d3 y d2 e0 c3 b6 k1 k2 k3 k4 h=>?_
 obtain⟨d0,V,e1,e3,a6,k5,k6,⟨rfl,rfl⟩,h⟩:=h
 rw[lG0] at a6
 refine⟨rfl,d3,(gs++ [y]).map Bk.ob,d0,V++(aM (gs++ [y])++((I,cel cs E)::L)),a6,by simp;omega,h,λw p' b5 O c1 h=>?_⟩
 ·refine c9 w p' y d2 ⟨⟨.iface t v,none,0,0,p.lineno,p.lineno⟩,[(I,cel cs E)],[],[]⟩ (by rw[O,<-e0];rfl) (by rw[O,<-b6]) (by rw[O,<-c3]) k1 k2 k3 k4 rfl rfl rfl rfl ?_
  have e:gs++ [y,(⟨⟨.iface t v,none,0,0,p.lineno,p.lineno⟩,[(I,cel cs E)],[],[]⟩:Bk)]=(gs++ [y])++ [⟨⟨.iface t v,none,0,0,p.lineno,p.lineno⟩,[(I,cel cs E)],[],[]⟩]:=by simp
  rw[e]
  refine⟨b5,V,[],[],?_,?_,?_,⟨rfl,rfl⟩,?_⟩
  ·rw[lV0,lG0,<-b6];exact c1
  ·rw[bE,dL]
   show Txts _ ((txF (gs++ [y])++ []).map TX.t) V
   rw[lG0]
   exact k5.of (by rw[O]) (by rw[O]) (by rw[O])
  ·intro W U
   rcases lP0.1 U with U|U
   ·exact k6 W U
   ·obtain rfl:=lN0.1 U
    exact⟨Sl.nil 1 aO,by simp,a7,a7⟩
  ·rw[bh (gs++ [y]),dA]
   show Sat σ w (p'.at b::b5++(V++(aM (gs++ [y])++([]++([(I,cel cs E)]++([]++ [])))++([]++L))))
   exact h.re

def Bk.np (f:Bk):Prop:= ∃t v,f.ob.bd= .iface t v/\t≠ar
def Bk.box_ (f:Bk):Prop:= ∃t v,f.ob.bd= .iface t v/\t≠ar/\t≠az
theorem Bk.box_.np {f:Bk}(h:f.box_):f.np:=by obtain⟨t,v,y,g,_⟩:=h;exact⟨t,v,y,g⟩
theorem Bk.isQuote.box_ {f:Bk}(h:f.isQuote):f.box_:=by obtain⟨y,g,_⟩:=h;exact⟨_,_,g,by decide,by decide⟩
theorem ItemOf.box_ {f:Bk}{it:OA}{lb wd:Nat}{hv:Bool}(h:ItemOf it f lb wd hv):f.box_:=by obtain⟨ib,_,g,_⟩:=h;exact⟨_,_,g,by decide,by decide⟩
theorem Bk.isListT.np {f:Bk}{it:OA}{lb:Nat}{bul num:Int}{td:Value}(h:f.isListT lb bul num it td):f.np:=⟨_,_,h.1,by decide⟩
theorem Pd.next {xs:List IN}{junk:List Bk}{lf:Leaf}(h:Pd G op xs junk lf): ∀f rest,junk=f::rest->f.np:=by
 cases h with
 |none=>intro f rest h;cases h
 |para _=>intro f rest h;cases h
 |quote a _ _=>intro f rest h;cases h;exact a.box_.np
 |list a _ _ _ _ _ _ _=>intro f rest h;cases h;exact a.np
theorem Pd.last {xs:List IN}{junk:List Bk}{lf:Leaf}(h:Pd G op xs junk lf):lf= .none-> ∀(pre:List Bk) (f:Bk),f.np-> ∃y o t v,(pre++f::junk).map Bk.ob=y++ [o]/\o.bd= .iface t v/\t≠ar:=by
 induction h with
 |none=>intro _ pre f V;obtain⟨t,v,I,E⟩:=V;exact⟨pre.map Bk.ob,f.ob,t,v,by simp,I,E⟩
 |para _=>intro h;cases h
 | @quote f junk lf xs ys a _ _ ih=>
  intro O pre U a6
  obtain⟨y,o,t,v,I,E⟩:=ih O (pre++ [U]) f a.box_.np
  exact⟨y,o,t,v,by rw[<-I];simp,E⟩
 | @list f U junk lf lb wd bul num it items ixs xs ys a _ _ b _ _ _ _ ih=>
  intro O pre k W
  obtain⟨y,o,t,v,I,E⟩:=ih O (pre++ [k,f]) U b.box_.np
  exact⟨y,o,t,v,by rw[<-I];simp,E⟩
theorem nY {b:Nat}{p:PS}{gs junk:List Bk}{top:Bk}{M:List ai}{l:Ln}(hs:Stk p ((gs++top::junk).map Bk.ob) M)(hd:p.depth=gs.length)(b4:gs.length<900000)(ht:top.np)(U: ∀f rest,junk=f::rest->f.np)(O: ∃g o t v,(gs++top::junk).map Bk.ob=g++ [o]/\o.bd= .iface t v/\t≠ar)(E:l.ok):Bt b p M l bZ:=by
 intro σ w L R h y
 obtain⟨t,v,t1,a7⟩:=ht
 cases junk with
 |nil=>
  exact kY (d:=gs.length) (ob:=gs.map Bk.ob) (o:=top.ob) h (by simpa using hs) hd (by simp) t1 a7 E y
 |cons f rest=>
  obtain⟨g,o,b7,b5,I,b3,a6⟩:=O
  obtain⟨b6,b8,V,W⟩:=U f rest rfl
  rw[I] at hs
  refine kZ (d:=gs.length) (ob:=g) (o:=o) (o1:=f.ob) h hs hd (by omega) ?_ V W b3 (λh0=>absurd h0 a6) E y
  rw[<-I]
  simp
theorem EG {b:Nat}{p:PS}{gs junk:List Bk}{top:Bk}{M:List ai}{l:Ln}(hs:Stk p ((gs++top::junk).map Bk.ob) M)(hd:p.depth=gs.length)(W:gs.length<900000)(ht:top.box_)(a6: ∀f rest,junk=f::rest->f.np)(I: ∃E o t v,(gs++top::junk).map Bk.ob=E++ [o]/\o.bd= .iface t v/\t≠ar)(U:l.cont): ∀f∈newsF,Bt b p M l f:=by
 intro f O
 have g:=U.plain
 have V:=nY (b:=b) (l:=l) hs hd W ht.np a6 I g.ok
 obtain⟨t,v,t1,b8,b3⟩:=ht
 obtain⟨E,o,b6,b7,b4,b5,a7⟩:=I
 simp only[newsF,lW0,lF1,or_false] at O
 intro σ w L R h y
 rcases O with rfl|rfl|rfl|rfl|rfl|rfl|rfl|rfl
 ·exact iI (x:= .nilIface) h g.ok g.quote y
 ·exact lS h g.ok g.heading y
 ·exact V σ w L R h y
 ·exact rW h g.ok g.hr y
 ·exact g.bullet b gs.length p _ top.ob M t v hs hd (by simp) t1 b3 σ w L R h y
 ·exact n4 h g.ok U.lt y
 ·exact sN h g.ok g.fence y
 ·rw[b4] at hs
  exact wP (ob:=E) h hs (o:=o) b5 (λh0=>absurd h0 a7) g.ok g.pre y
theorem DocC.toLeaf {b:Nat}{gs:List Bk}{f:Bk}{p:PS}{A:List OB->List ai->Prop}(h:DocC σ b L (gs++ [f]) .none p w)(E:f.D= [])(U:f.IM= [])(O:A [f.ob] f.own):DocC σ b L gs (.other A) p w:=by
 obtain⟨M,y,a6,a7,hs,ht,I,⟨rfl,rfl⟩,h⟩:=h
 refine⟨M,y,[f.ob],f.own,by simpa using hs,?_,λW V=>I W (by simp[V]),O,?_⟩
 ·have:txF (gs++ [f])=txF gs:=by rw[bE,dL,E];simp[ci]
  rw[this] at ht;exact ht
 ·rw[bh,dA,E,U] at h
  have h:Sat σ w (p.at b::M++(y++((aM gs++([]++(f.own++([]++ []))))++([]++L)))):=h
  exact h.re
theorem wD (c9:op.task=false){g7:OA->Nat->WP}{b b1 pb:Nat}{xs:List IN}{gs junk:List Bk}{top:Bk}{p:PS}{l:Ln}(a6:Pd G op xs junk .none)(h:DocC σ b (l.at b1::L) (gs++top::junk) .none p w)(hd:p.depth=gs.length)(b9:gs.length<900000)(ht:top.box_)(c8:l.cont)(f5: ∀g∈gs++top::junk,g.D.length<=90000)(e7:(txF (gs++top::junk)).length<=90000)(b6:p.pz=kE pb)(c2:op.at pb∈L)(b8:p.lineno<1000000000)(f6: ∀w (p':PS) y V,p'.base=p.base->p'.lineno=p.lineno->y.like top->y.D=top.D++V->TDs G op V xs->(ci V).length<=(txF junk).length+1->DocC σ b L (gs++ [y]) (oZ p.lineno [l.rest]) p' w->R (hQ (.tuple #[])) w):
 ak.bl102 R g7 (kE b) b1 w:=by
 obtain⟨M,I,h5,i0,hs,e0,d2,⟨rfl,rfl⟩,h⟩:=h
 rw[lG0] at hs
 have h:Sat σ w (p.at b::M++(l.at b1::(I++(aM (gs++top::junk)++L)))):=h.re
 have a7:=a6.last rfl gs top ht.np
 refine uK h (EG hs hd b9 ht a6.next a7 c8) λw nb e g0 h h3=>?_
 obtain⟨f0,o,h9,h8,e8,e9,c5⟩:=a7
 have e4:Stk p (f0++ [o]) M:=by rw[<-e8];exact hs
 refine dZ.sound ?_
 refine Sat.bx h λO w h=>?_
 refine Sat.bx h λE w h=>?_
 have h:Sat σ _ (zLn E::l.at O::(p.at b::M++(l.at b1::(nb,cel newsC e)::(I++(aM (gs++top::junk)++L))))):=h
 have h:Sat σ _ (p.at b::M++(zLn E::l.at O::(l.at b1::(nb,cel newsC e)::(I++(aM (gs++top::junk)++L))))):=h.re
 refine q9 h e4 e9 (λw h=>?_) (λhc=>absurd hc c5)
 rw[if_neg c5]
 refine⟨_,rfl,?_⟩
 repeat (first|refine aa ?_|refine h.tk λw h=>?_|refine⟨_,h.ldA,?_⟩|refine⟨_,_,_,h.ldA,?_⟩)
 have h:Sat σ _ (l.at O::(p.at b::M++(zLn E::(l.at b1::(nb,cel newsC e)::(I++(aM (gs++top::junk)++L)))))):=h.re
 refine kV h (.head _) c8.plain.ok λw h=>⟨_,rfl,?_⟩
 refine⟨_,w,jx kR _ _ _ w,af rfl (af rfl ?_)⟩
 have h:Sat σ _ (p.at b::(l.at O::(M++(zLn E::(l.at b1::(nb,cel newsC e)::(I++(aM (gs++top::junk)++L))))))):=h.re
 refine Sat.tk h λw h=>?_
 refine aa ?_
 refine⟨_,Sat.ld h (.head _) rfl,?_⟩
 rw[b6]
 refine aa ?_
 have g3:op.at pb∈(p.at b::(l.at O::(M++(zLn E::(l.at b1::(nb,cel newsC e)::(I++(aM (gs++top::junk)++L))))))):=by simp[c2]
 refine⟨op.table,Sat.ld h g3 rfl,?_⟩
 have fin:dZ.k4 (λe w=>g0 e w) (kE b) E none (bs l.rest) false w:=by
  refine af rfl ⟨_,w,jx kR _ _ _ w,af rfl ?_⟩
  refine Sat.bx h λW w h=>?_
  have h:Sat σ _ ((W,cel [hT none 0 0,kT none] aL)::p.at b::(l.at O::(M++(zLn E::(l.at b1::(nb,cel newsC e)::(I++(aM (gs++top::junk)++L))))))):=h
  have d1:DocC σ b ((W,cel [hT none 0 0,kT none] aL)::(zLn E::L)) (gs++top::junk) .none p w:=⟨M,I,[],[],by rw[lG0];exact hs,e0,d2,⟨rfl,rfl⟩,h.less [l.at O,l.at b1,(nb,cel newsC e)]⟩
  refine p9 (pb:=pb) (a6.close c9) (.tail _ c2) b6 f5 e7 d1 hd b9 b8 λw p' y V f h2 g4 h7 k1 k2 k3 k4 e6 h1 c3 g1 h=>⟨rfl,?_⟩
  have h:=h
  obtain⟨c4,c1,h4,h6,b7,b5,d0,⟨rfl,rfl⟩,h⟩:=h
  have g2:aM (gs++ [y,f])=aM (gs++ [y])++ [(W,cel [hT none 0 0,kT none] aL)]:=by
   rw[show gs++ [y,f]=(gs++ [y])++ [f] by simp,bh,dA,h1,c3,g1];simp[cZ,txc,ci]
  rw[g2] at h
  have h:Sat σ w (zLn E:: [(W,cel [hT none 0 0,kT none] aL)]++(p'.at b::c4++(c1++(aM (gs++ [y])++L)))):=h.re
  refine sG h (ts:= []) ⟨none,0,[],Sl.nil 1 aq,rfl⟩ (by decide) λw g6 d3 h=>?_
  refine h3 w true ?_
  refine f6 w p' y V h2 g4 k1 k2 k3 k4 ⟨c4,c1,[f.ob],g6,?_,?_,λg U=>d0 g (by simp at U⊢;rcases U with U|U<;>simp[U]),⟨W,p.lineno,by rw[e6];rfl,d3,b8,by simp,by simp⟩,h.re⟩
  ·have g5:(gs++ [y,f]).map Bk.ob++ []=(gs++ [y]).map Bk.ob++ [f.ob]:=by simp
   rw[g5] at b7;exact b7
  ·have:txF (gs++ [y,f])=txF (gs++ [y]):=by rw[show gs++ [y,f]=(gs++ [y])++ [f] by simp,bE,dL,c3];simp[ci]
   rw[this] at b5;exact b5
 refine bp (λ_=>⟨_,jx kR _ _ _,af rfl fin⟩) (λ_=>fin)

def DocE (σ:Out)(b:Nat)(L:List ai)(ex:List TX)(fs:List Bk)(p:PS)(w:World):Prop:=
 ∃M y g E,Stk p (fs.map Bk.ob++g) M/\Txts p ((txF fs++ex).map TX.t) y/\(∀f∈fs,f.ok)/\DC .none g E/\Sat σ w (p.at b::M++(y++(aM fs++(E++L))))
theorem qo {X:OA->Int->WP}{b k:Nat}{ex:List TX}{fs:List Bk}{p:PS}(O: ∀g y w,aH.bl1 R X g y w->X g y w)(h:DocE σ b L ex fs p w)(b3:k<fs.length)(hc:callE P aI #[kT (kE b)] (λe I=> ∃(U:Value),e= hQ U/\X (kE b) (k:Int) I) w):X (kE b) (k:Int) w:=by
 obtain⟨M,a7,V,b4,hs,ht,W,a6,h⟩:=h
 have E:=hs.2.1
 rw[lA0,lS0] at E
 refine O _ _ _ (aa ?_)
 refine⟨_,_,_,h.ldA,?_⟩
 rw[E]
 exact ag (by simp;omega) hc
theorem DocE.closed {ex:List TX}{b:Nat}{gs:List Bk}{par f:Bk}{p2:PS}{O y W:List ai}{U:Option Addr}{V:Nat}{d:DB}{I:List ai}(a7: ∀g∈gs++ [par,f],Bk.ok g)(b7:par.D.length<99999)(b4:Stk p2 (gs.map Bk.ob++ [{par.ob with q:=U,n:=par.ob.n+1,c:=V}]) O)(b3:Sl 1 aO U (par.ob.n+1) V (par.D.map DB.v++ [d.v]) y)(ht:Txts p2 ((txF (gs++ [par,f])++ex).map TX.t) W)(a6:d.txs=ci f.D)(h:Sat σ w (p2.at b::O++(y++(W++(aM gs++(I++(cZ par.D++(txc par.D++(d.own++(txc f.D++L)))))))))):
 DocE σ b L ex (gs++ [⟨{par.ob with q:=U,n:=par.ob.n+1,c:=V},I,par.D++ [d],y⟩]) p2 w:=by
 refine⟨O,W,[],[],?_,?_,?_,⟨rfl,rfl⟩,?_⟩
 ·rw[lV0,lG0];exact b4
 ·have e:txF (gs++ [⟨{par.ob with q:=U,n:=par.ob.n+1,c:=V},I,par.D++ [d],y⟩])=txF (gs++ [par,f]):=by
   rw[bE,bE,dL,uV,jQ,a6]
  rw[e];exact ht
 ·intro g E
  rcases lP0.1 E with E|E
  ·exact a7 g (by simp[E])
  ·obtain rfl:=lN0.1 E
   obtain⟨_,b6,b5⟩:=a7 par (by simp)
   exact⟨by rw[lV0];exact b3,by simp;omega,b5⟩
 ·rw[bh,dA,lR,nX,a6]
  show Sat σ w (p2.at b::O++(W++(aM gs++(y++(I++((cZ par.D++d.own)++(txc par.D++txc f.D))))++([]++L))))
  exact h.re
theorem zg {ex:List TX}{b:Nat}{gs:List Bk}{par f:Bk}{p:PS}(h:DocE σ b L ex (gs++ [par,f]) p w)(b8:f.isQuote)(b3:par.D.length<99999)(b4: ∀w g nb x,g.like par->g.D=par.D++ [oC nb f.ob.s f.ob.e f.ob.q f.ob.n f.ob.c f.IM f.D]->DocE σ b L ex (gs++ [g]) {p with stn:=gs.length+1} w->R (hQ x) w):
 callE P aI #[kT (kE b)] R w:=by
 obtain⟨M,b5,b9,c3,hs,ht,E,⟨rfl,rfl⟩,h⟩:=h
 obtain⟨U,O,V⟩:=b8
 have hs:Stk p (gs.map Bk.ob++ [par.ob]++ [f.ob]) M:=by simpa using hs
 have y:=(E par (by simp)).1
 have c1:par.ob.n=par.D.length:=by have:=y.1;simp at this;omega
 rw[bh,jT,V] at h
 refine jc h hs O λw h=>?_
 rw[O]
 refine bm nr ?_
 refine pA h hs λw nb h=>⟨_,rfl,none,false,w,kj (by decide) w,af rfl ?_⟩
 have h:Sat σ w (p.at b::M++(par.IM++(b5++(aM gs++(par.own++(cZ par.D++(txc par.D++((Ef nb f.ob.s f.ob.e f.ob.q f.ob.n f.ob.c::(f.IM++cZ f.D))++(txc f.D++(F6 U::L)))))))))):=h.re
 refine l9 h hs y (by omega) λw p2 c2 a6 b6 b7 W I a7 h=>?_
 have e:p2= {p with stn:=gs.length+1}:=by rw[W,lS0]
 rw[e] at I h
 refine b4 w ⟨{par.ob with q:=b6,n:=par.ob.n+1,c:=b7},par.own,par.D++ [oC nb f.ob.s f.ob.e f.ob.q f.ob.n f.ob.c f.IM f.D],a6⟩ nb _ ⟨rfl,rfl,rfl,rfl⟩ rfl (DocE.closed (par:=par) (f:=f) (d:=oC nb f.ob.s f.ob.e f.ob.q f.ob.n f.ob.c f.IM f.D) E b3 I a7 (ht.of rfl rfl rfl) rfl ?_)
 exact h.less [F6 U] (by intro _;simp only[oC,lN3,dH,eW,mF]<;>omega)
theorem A7 {ex:List TX}{b lb wd:Nat}{hv:Bool}{bul num:Int}{it:Option Addr}{td:Value}{gs:List Bk}{par f:Bk}{p:PS}(h:DocE σ b L ex (gs++ [par,f]) p w)(c2:f.isItem lb wd hv)(c3:par.isListT lb bul num it td)(b7:par.D.length<99999)(b8: ∀w g nb x,g.isListT lb bul num none td->g.ob.s=par.ob.s->g.ob.e=par.ob.e->g.D=par.D++ [(IT.mk nb f.ob.s f.ob.e f.ob.q f.ob.n f.ob.c wd f.IM f.D).db]->(IT.mk nb f.ob.s f.ob.e f.ob.q f.ob.n f.ob.c wd f.IM f.D).ok->DocE σ b L ex (gs++ [g]) {p with stn:=gs.length+1} w->R (hQ x) w):
 callE P aI #[kT (kE b)] R w:=by
 obtain⟨M,E,c5,d0,hs,ht,y,⟨rfl,rfl⟩,h⟩:=h
 obtain⟨ib,U,W⟩:=c2
 obtain⟨b3,V⟩:=c3
 have hs:Stk p (gs.map Bk.ob++ [par.ob]++ [f.ob]) M:=by simpa using hs
 have I:=(y par (by simp)).1
 obtain⟨a6,c4,a7⟩:=y f (by simp)
 have c8:par.ob.n=par.D.length:=by have:=I.1;simp at this;omega
 rw[bh,jT,W,V] at h
 refine jc h hs U λw h=>?_
 rw[U]
 have h:Sat σ w (p.at b::M++(gt ib lb wd hv::cP lb bul num false it td::(par.IM++(E++(aM gs++(cZ par.D++(txc par.D++(f.IM++(cZ f.D++(txc f.D++L)))))))))):=h.re
 refine bm oO ?_
 refine rt h hs λw nb h=>⟨_,rfl,none,false,w,kj (by decide) w,af rfl ?_⟩
 have h:Sat σ w (p.at b::M++(par.IM++(E++(aM gs++([cP lb bul num false none td]++(cZ par.D++(txc par.D++(((IT.mk nb f.ob.s f.ob.e f.ob.q f.ob.n f.ob.c wd f.IM f.D).chunk::(f.IM++cZ f.D))++(txc f.D++L))))))))):=by
  have h:Sat σ w (p.at b::M++((IT.mk nb f.ob.s f.ob.e f.ob.q f.ob.n f.ob.c wd f.IM f.D).chunk::cP lb bul num false none td::(par.IM++(E++(aM gs++(cZ par.D++(txc par.D++(f.IM++(cZ f.D++(txc f.D++L)))))))))):=h
  exact h.re
 refine l9 h hs I (by omega) λw p2 c9 b5 b9 c1 b4 O b6 h=>?_
 have e:p2= {p with stn:=gs.length+1}:=by rw[b4,lS0]
 rw[e] at O h
 refine b8 w ⟨{par.ob with q:=b9,n:=par.ob.n+1,c:=c1},[cP lb bul num false none td],par.D++ [(IT.mk nb f.ob.s f.ob.e f.ob.q f.ob.n f.ob.c wd f.IM f.D).db],b5⟩ nb _ ⟨b3,rfl⟩ rfl rfl rfl ⟨a6,by show f.D.length<1000000;omega,a7⟩ (DocE.closed (par:=par) (f:=f) (d:=(IT.mk nb f.ob.s f.ob.e f.ob.q f.ob.n f.ob.c wd f.IM f.D).db) y b7 O b6 (ht.of rfl rfl rfl) rfl ?_)
 exact h
theorem A5 {ex:List TX}{b lb pb:Nat}{op:Opt}{bul num:Int}{it:Option Addr}{gs:List Bk}{par f:Bk}{p:PS}{items:List IT}{pos:DB->Nat × Nat}(h:DocE σ b L ex (gs++ [par,f]) p w)(e6:f.isList lb bul num it)(E:f.D=items.map IT.db)(d1:items≠ [])(O: ∀i∈items,i.ok/\ ∀d∈i.D,d.kindOK/\d.posIs (pos d).1 (pos d).2/\(pos d).1<1000000000/\(pos d).2<2000000000)(c4:p.pz=kE pb)(c8:op.at pb∈L)(b9:op.task=false)(e1:par.D.length<99999)(e3: ∀w (p':PS) V nb e g x,p'.base=p.base->p'.depth=p.depth->p'.lineno=p.lineno->p'.stn=gs.length+1->V.like par->Tgh (mz pos items) items g->((∃i∈items,e=i.e)/\items.getLast?.map IT.e=some e)->V.D=par.D++ [qy nb f.ob.s e bul num (mz pos items) f.ob.q f.ob.n f.ob.c f.IM g]->
  DocE σ b L ex (gs++ [V]) p' w->R (hQ x) w):
 callE P aI #[kT (kE b)] R w:=by
 obtain⟨M,a7,e8,f2,hs,ht,W,⟨rfl,rfl⟩,h⟩:=h
 obtain⟨b7,c2⟩:=e6
 have hs:Stk p (gs.map Bk.ob++ [par.ob]++ [f.ob]) M:=by simpa using hs
 have b4:=(W par (by simp)).1
 obtain⟨U,b5,c3⟩:=W f (by simp)
 have f0:par.ob.n=par.D.length:=by have:=b4.1;simp at this;omega
 have d2:f.D.map DB.v=items.map IT.v:=by rw[E];simp[Function.comp_def,IT.db]
 rw[d2] at U
 have e9:items.length<100000:=by rw[E] at b5;simpa using b5
 have e7:txc f.D=(ci (items.map IT.db)).map TX.chunk:=by rw[E];rfl
 rw[bh,jT,c2,E] at h
 refine jc h hs b7 λw h=>?_
 rw[b7]
 have h:Sat σ w (p.at b::M++(cP lb bul num false it .nilFunc::(f.IM++(cZ (items.map IT.db)++(par.IM++(a7++(aM gs++(par.own++(cZ par.D++(txc par.D++(txc (items.map IT.db)++L))))))))))):=h.re
 refine bm oN ?_
 refine rr (pos:=pos) h hs U d1 (by omega) c3.1 O λw nb e g a6 d3 h=>⟨_,rfl,kE nb,true,w,oL (by rw[mV];intro f3 h;cases h) mV w,ag rfl (aa ?_)⟩
 have b8:g.map IT.v=items.map IT.v:=by
  rcases a6 with ⟨_,rfl⟩|⟨_,hr⟩
  ·rfl
  ·exact hr.vs
 have b3:ci (g.map IT.db)=ci (items.map IT.db)/\ ∀i∈g,i.ok/\ ∀d∈i.D,d.ifc:=by
  rcases a6 with ⟨_,rfl⟩|⟨_,hr⟩
  ·exact⟨rfl,λi hi=>⟨(O i hi).1,λd hd=>((O i hi).2 d hd).1.ifc.1⟩⟩
  ·exact hr.facts λi hi d hd=>((O i hi).2 d hd).1
 have c1:g.length<1000000:=by have:=congrArg List.length b8;simp at this;omega
 have k2: ∀(y:Bool) w,Sat σ w (({p with corner:=y}:PS).at b::M++(tQ nb f.ob.s e bul num (mz pos items) f.ob.q f.ob.n f.ob.c::(f.IM++(cZ (g.map IT.db)++(par.IM++(a7++(aM gs++(par.own++(cZ par.D++(txc par.D++(txc (items.map IT.db)++L)))))))))))->
  aK.k2 R (kE b) (.iface dn (kT (kE nb))) (kE nb) w:=by
  intro y w h
  refine aa ⟨_,Sat.ld h (.head _) (i:=0) rfl,?_⟩
  rw[c4]
  refine aa ⟨_,Sat.ld h (by simp[c8]:op.at pb∈_) rfl,af b9 ?_⟩
  have h:Sat σ w (({p with corner:=y}:PS).at b::M++(par.IM++(a7++(aM gs++(par.own++(cZ par.D++(txc par.D++((tQ nb f.ob.s e bul num (mz pos items) f.ob.q f.ob.n f.ob.c::(f.IM++cZ (g.map IT.db)))++(txc f.D++L))))))))):=by
   rw[E]
   exact h.re
  refine l9 h (hs.of rfl rfl rfl) b4 (by omega) λw p2 f1 c9 e4 e5 c5 b6 d0 h=>?_
  have e0:p2= {p with corner:=y,stn:=gs.length+1}:=by rw[c5,lS0]
  rw[e0] at b6 h
  refine e3 w {p with corner:=y,stn:=gs.length+1} ⟨{par.ob with q:=e4,n:=par.ob.n+1,c:=e5},par.own,par.D++ [qy nb f.ob.s e bul num (mz pos items) f.ob.q f.ob.n f.ob.c f.IM g],c9⟩ nb e g _ rfl rfl rfl rfl ⟨rfl,rfl,rfl,rfl⟩ a6 d3 rfl
   (DocE.closed (par:=par) (f:=f) (d:=qy nb f.ob.s e bul num (mz pos items) f.ob.q f.ob.n f.ob.c f.IM g) W e1 b6 d0 (ht.of rfl rfl rfl) ?_ ?_)
  ·rw[E];exact b3.1
  ·exact h
 refine⟨_,Sat.ld h (.head _) (i:=6) rfl,bp (λ_=>aa ?_) λ_=>?_⟩
 ·refine Sat.st h (k:=0) rfl (by simp[PS.cells]) trivial rfl λw h=>?_
  exact k2 true w h
 ·refine pI (nb:=nb) (s:=f.ob.s) (e:=e) (bul:=bul) (num:=num) (loose:=mz pos items) (items:=g) (b8▸U) b3.2 c1 h (λx I=>?_) λy=>⟨_,rfl,aa ?_⟩
  ·rcases lW0.1 I with rfl|I
   ·simp
   ·rcases lP0.1 I with I|I<;>simp[I]
  ·refine Sat.st h (k:=0) rfl (by simp[PS.cells]) trivial rfl λw h=>?_
   exact k2 y w h
def DF (G:List UInt8->List Inl)(op:Opt)(xs:List IN)(junk:List Bk):Prop:=
 ∀(σ:Out) (R:Ending->World->Prop) (L:List ai) (ex:List TX) (b pb:Nat) (p:PS) (w:World) (X:OA->Int->WP) (gs:List Bk) (top:Bk) (k:Nat),(∀I E w,aH.bl1 R X I E w->X I E w)->op.at pb∈L->p.pz=kE pb->k<=gs.length+1->
  (∀O∈gs++top::junk,O.D.length<=90000)->(txF (gs++top::junk)).length<=90000->DocE σ b L ex (gs++top::junk) p w->
  (∀w (p':PS) y l,p'.base=p.base->p'.depth=p.depth->p'.lineno=p.lineno->y.like top->y.D=top.D++l->TDs G op l xs->(ci l).length<=(txF junk).length+1->DocE σ b L ex (gs++ [y]) p' w->X (kE b) (k:Int) w)->X (kE b) (k:Int) w
theorem Pd.closeE (g0:op.task=false){xs:List IN}{junk:List Bk}{lf:Leaf}(h:Pd G op xs junk lf)(d0:lf= .none):DF G op xs junk:=by
 induction h with
 |none=>
  intro σ R L ex b pb p w X gs top k U b4 a6 f6 O W h b5
  exact b5 w p top [] rfl rfl rfl (.refl top) (by simp) .nil (by simp[ci]) h
 |para _=>cases d0
 | @quote f junk lf xs ys hq hxs hys ih=>
  intro σ R L ex b pb p w X gs top k U b4 a6 f6 O W h b5
  have d3:gs++top::f::junk=(gs++ [top])++f::junk:=by simp
  rw[d3] at O W h
  have g1:=O top (by simp)
  refine ih d0 σ R L ex b pb p w X (gs++ [top]) f k U b4 a6 (by simp;omega) O W h λw p' y l b1 b2 e9 V a7 c9 g7 h=>?_
  have h:DocE σ b L ex (gs++ [top,y]) p' w:=by simpa using h
  have I:y.ok:=by obtain⟨_,_,_,_,_,_,c8,_⟩:=h;exact c8 y (by simp)
  have e8:y.ob.n<1000000:=by have:=I.1.1;have:=I.2.1;simp at*;omega
  refine qo U h (by simp;omega) ?_
  refine zg h (V.quote hq) (by omega) λw c5 nb x ht b8 h=>⟨_,rfl,?_⟩
  refine b5 w {p' with stn:=gs.length+1} c5 _ b1 b2 e9 ht b8 ?_ ?_ h
  rotate_left
  ·have b6:ci [oC nb y.ob.s y.ob.e y.ob.q y.ob.n y.ob.c y.IM y.D]=ci f.D++ci l:=by rw[<-di,<-a7];simp[ci,oC]
   have f0:txF (f::junk)=ci f.D++txF junk:=by simp[txF]
   rw[b6,f0,lA0,lA0];omega
  have:=zA (nb:=nb) (s:=y.ob.s) (e:=y.ob.e) I.1 e8 ⟨I.2.2.1,by have:=I.2.2.2;omega⟩ (by rw[a7];exact hxs.append c9)
  rw[V.2.1,V.2.2.1] at this⊢
  exact .cons this .nil
 | @list f g junk lf lb wd bul num it items ixs xs ys hf hfD hit hg hwd hu hxs hys ih=>
  intro σ R L ex b pb p w X gs top k U b4 a6 f6 O W h b5
  have d3:gs++top::f::g::junk=(gs++ [top,f])++g::junk:=by simp
  rw[d3] at O W h
  have g1:=O top (by simp)
  have h8:=O f (by simp)
  refine ih d0 σ R L ex b pb p w X (gs++ [top,f]) g k U b4 a6 (by simp;omega) O W h λw p' E l b1 b2 e9 V a7 c9 g7 h=>?_
  have h:DocE σ b L ex (gs++ [top]++ [f,E]) p' w:=by simpa using h
  refine qo U h (by simp;omega) ?_
  refine A7 h (V.itemOf hg).item hf (by omega) λw y nb x g2 f4 h9 b8 f1 h=>⟨_,rfl,?_⟩
  generalize d1:IT.mk nb E.ob.s E.ob.e E.ob.q E.ob.n E.ob.c wd E.IM E.D=ii at b8 f1
  have b7:ItR G op (items++ [ii]) (ixs++ [.mk {kind:=4,width:=wd,s:=g.ob.s,e:=g.ob.e} (xs++ys)]):=by
   refine hit.append ?_
   have:=ItR.cons (G:=G) (op:=op) (i:=ii) (xs:=xs++ys) f1 (by rw[<-d1];show TDs G op E.D (xs++ys);rw[a7];exact hxs.append c9) .nil
   rw[<-d1] at this⊢
   have e0:(IT.mk nb E.ob.s E.ob.e E.ob.q E.ob.n E.ob.c wd E.IM E.D).s=g.ob.s:=V.2.1
   have b6:(IT.mk nb E.ob.s E.ob.e E.ob.q E.ob.n E.ob.c wd E.IM E.D).e=g.ob.e:=V.2.2.1
   rw[e0,b6] at this
   exact this
  have h:DocE σ b L ex (gs++ [top,y]) {p' with stn:=(gs++ [top]).length+1} w:=by simpa using h
  have I:y.ok:=by obtain⟨_,_,_,_,_,_,c8,_⟩:=h;exact c8 y (by simp)
  have f2:y.D=(items++ [ii]).map IT.db:=by rw[b8,hfD];simp
  have e8:y.ob.n<1000000:=by have:=I.1.1;have:=I.2.1;simp at*;omega
  refine qo U h (by simp;omega) ?_
  refine A5 (op:=op) (pb:=pb) (items:=items++ [ii]) (pos:=wb) h g2 f2 (by simp) b7.facts (by rw[<-a6];exact pk b1) b4 g0 (by omega) λw p2 c5 g3 e0 b9 x h2 h1 h6 i1 ht f3 f5 g6 h=>⟨_,rfl,?_⟩
  refine b5 w p2 c5 _ (h2.trans b1) (h1.trans b2) (h6.trans e9) ht g6 (.cons ?_ .nil) ?_ h
  rotate_left
  ·have b6:ci [qy g3 y.ob.s e0 bul.toNat num (mz wb (items++ [ii])) y.ob.q y.ob.n y.ob.c y.IM b9]=ci (b9.map IT.db):=by simp[ci,qy]
   have h5:(ci (b9.map IT.db))=ci ((items++ [ii]).map IT.db):=by
    rcases f3 with ⟨_,rfl⟩|⟨_,hr⟩
    ·rfl
    ·exact(hr.facts λi hi d hd=>((b7.facts i hi).2 d hd).1).1
   have h7:ci ii.D=ci g.D++ci l:=by rw[<-d1,<-di,<-a7]
   have h4:ci ((items++ [ii]).map IT.db)=ci f.D++(ci g.D++ci l):=by rw[lV0,di,<-hfD,<-h7];simp[ci,IT.db]
   have f0:txF (f::g::junk)=ci f.D++(ci g.D++txF junk):=by simp[txF]
   rw[b6,h5,h4,f0];simp only[lA0];omega
  have d2:=I.1
  rw[f2] at d2
  have g5:((items++ [ii]).map IT.db).map DB.v=(items++ [ii]).map IT.v:=by simp[Function.comp_def,IT.db]
  rw[g5] at d2
  rw[f4]
  refine BU hu d2 e8 ⟨f4▸I.2.2.1,?_⟩ b7 f3 f5.2
  obtain⟨h3,g4,rfl⟩:=f5.1
  have:=(b7.facts h3 g4).1.se.2
  omega
theorem FO {ex:List TX}{xs:List IN}{junk:List Bk}{b pb:Nat}{p:PS}{gs:List Bk}{top:Bk}(b6:DF G op xs junk)(b4:op.at pb∈L)(V:p.pz=kE pb)(b7: ∀g∈gs++top::junk,g.D.length<=90000)(b5:(txF (gs++top::junk)).length<=90000)(h:DocE σ b L ex (gs++top::junk) p w)(b8: ∀w (p':PS) y l,p'.base=p.base->p'.depth=p.depth->p'.lineno=p.lineno->y.like top->y.D=top.D++l->TDs G op l xs->(ci l).length<=(txF junk).length+1->DocE σ b L ex (gs++ [y]) p' w->R (hQ (.tuple #[])) w):
 callE P bj #[kT (kE b),hY ((gs.length+1:Nat):Int)] R w:=by
 refine aH.sound ?_
 have h0:=h
 obtain⟨M,b9,O,c2,hs,ht,U,⟨rfl,rfl⟩,h⟩:=h
 have E:=hs.2.1
 simp only[lA0,lS0,lF0,lK1,lN1] at E
 refine aa ?_
 refine⟨_,_,_,h.ldA,?_⟩
 rw[E]
 refine af (by simp;omega) ?_
 intro X I
 refine b6 σ R L ex b pb p w X gs top (gs.length+1) I b4 V (lA1 _) b7 b5 h0 λw p' y l b1 b2 c1 c3 a6 W a7 h=>?_
 have h0:=h
 obtain⟨M,b9,O,c2,hs,ht,U,⟨rfl,rfl⟩,h⟩:=h
 have E:=hs.2.1
 simp only[lA0,lS0,lF0,lK1,lN1] at E
 refine I _ _ _ (aa ?_)
 refine⟨_,_,_,h.ldA,?_⟩
 rw[E]
 exact af (by simp) (b8 w p' y l b1 b2 c1 c3 a6 W a7 h0)
theorem qN {b pb:Nat}{xs:List IN}{junk:List Bk}{p:PS}{gs:List Bk}{top:Bk}{d:DB}{b6:TypeId}{q:OA}(e3:DF G op xs junk)(d3:op.at pb∈L)(c8:p.pz=kE pb)(c2: ∀g∈gs++top::junk,g.D.length<=90000)(e0:(txF (gs++top::junk)).length<=90000)(h:DocE σ b (d.own++(d.txs.map TX.chunk++L)) d.txs (gs++top::junk) p w)(hd:p.depth=gs.length)(e9:gs.length<900000)(hv:d.v= .iface b6 (kT q))(e8:xs.length<=1)(e4: ∀w (p':PS) a7 l,p'.base=p.base->p'.depth=p.depth->p'.lineno=p.lineno->a7.like top->a7.D=top.D++(l++ [d])->TDs G op l xs->(ci l).length<=(txF junk).length+1->DocC σ b L (gs++ [a7]) .none p' w->R (hQ (.tuple #[])) w):
 callE P dO #[kT (kE b),.iface b6 (kT q)] R w:=by
 refine gl.sound ?_
 have h0:=h
 obtain⟨M,U,c5,e6,hs,ht,b4,⟨rfl,rfl⟩,h⟩:=h
 refine aa ⟨_,Sat.ld h (.head _) (i:=5) rfl,?_⟩
 have e:i64.wrap (p.depth+1)=((gs.length+1:Nat):Int):=by rw[hd,i64_in _ (by omega)];omega
 rw[e]
 refine FO (pb:=pb) e3 (lB0 _ (lB0 _ d3)) c8 c2 e0 h0 λw O y l b1 b2 e5 a6 c1 b9 d2 h=>⟨rfl,?_⟩
 obtain⟨M,U,c5,e6,hs,ht,b4,⟨rfl,rfl⟩,h⟩:=h
 rw[lG0,lV0] at hs
 have hs:Stk O (gs.map Bk.ob++ [y.ob]) M:=hs
 have b7:=hs.2.1
 rw[lA0,lS0,lE0] at b7
 have b8:=b4 y (by simp)
 have c3:=b8.1
 have f0:y.ob.n=y.D.length:=by have:=c3.1;simp at this;omega
 have e7:y.D.length<=90001:=by
  have f1:=c2 top (by simp)
  have f2:=b9.len
  rw[c1,lA0];omega
 obtain⟨sb,sp,c4,rfl,d0⟩:=hs.split (by simp)
 have b5:(gs.map Bk.ob).length=gs.length:=by simp
 have h:Sat σ w (O.at b::(sb,cel (aP (gs.map Bk.ob++ [y.ob])++sp) ay)::(U++(aM (gs++ [y])++(d.own++(d.txs.map TX.chunk++L))))):=h.re
 refine h.tk λw h=>?_
 refine aa (aa ?_)
 refine⟨_,_,_,h.ldA,?_⟩
 refine⟨_,_,_,h.ldA,?_⟩
 rw[b7,show i64.wrap (((gs.length+1:Nat):Int) - 1)=((gs.length:Nat):Int) by rw[i64_in _ (by omega)];omega,c4]
 refine⟨by omega,by omega,aa ?_⟩
 simp only[lK0,lO0,lC0,lN1]
 refine⟨_,_,_,Sat.ld h (.tail _ (.head _)) (fu (j:=gs.length) (f:=1) (by decide) (by rw[<-b5];exact iC (l:=gs.map Bk.ob) y.ob)),?_⟩
 rw[bh,dA] at h
 have h:Sat σ _ (y.IM++(O.at b::(sb,cel (aP (gs.map Bk.ob++ [y.ob])++sp) ay)::(U++(aM gs++(y.own++(cZ y.D++txc y.D))++(d.own++(d.txs.map TX.chunk++L)))))):=h.re
 refine Sat.app1 rowBlock c3 h (v:= .iface b6 (kT q)) rfl (by simp[Value.cells,Value.oneCell']) (by kernel_rfl) (by omega) (by omega) (by decide) λE I w V d1 h=>?_
 have h:Sat σ _ (O.at b::(sb,cel (aP (gs.map Bk.ob++ [y.ob])++sp) ay)::(V++(U++(aM gs++(y.own++(cZ y.D++txc y.D))++(d.own++(d.txs.map TX.chunk++L)))))):=h.re
 refine Sat.st h (k:=1) rfl (by rw[lA0,aR,lA0,b5,lE0];omega) trivial rfl λw h=>?_
 have e1:(aP (gs.map Bk.ob++ [y.ob])++sp).set (gs.length*4+1) (hT E (y.ob.n+1) I)=aP (gs.map Bk.ob++ [{y.ob with q:=E,n:=y.ob.n+1,c:=I}])++sp:=by
  have:=lC (l:=gs.map Bk.ob) (sp:=sp) (o:=y.ob) (o':= {y.ob with q:=E,n:=y.ob.n+1,c:=I}) (f:=1) (v:= hT E (y.ob.n+1) I) (by decide) rfl
  rw[b5] at this;exact this
 have h:Sat σ w (O.at b::(sb,cel (aP (gs.map Bk.ob++ [{y.ob with q:=E,n:=y.ob.n+1,c:=I}])++sp) ay)::(V++(U++(aM gs++(y.own++(cZ y.D++txc y.D))++(d.own++(d.txs.map TX.chunk++L)))))):=by
  rw[<-e1];exact h
 have c9:Stk O (gs.map Bk.ob++ [{y.ob with q:=E,n:=y.ob.n+1,c:=I}]) [(sb,cel (aP (gs.map Bk.ob++ [{y.ob with q:=E,n:=y.ob.n+1,c:=I}])++sp) ay)]:=by
  refine Stk.mk' c4 ?_ (by rw[b7];simp) (by simp;omega)
  rw[<-d0]
  simp only[lA0,aR,lE0,lK1]
 refine e4 w O ⟨{y.ob with q:=E,n:=y.ob.n+1,c:=I},y.own,y.D++ [d],V⟩ l b1 b2 e5 ⟨a6.1,a6.2.1,a6.2.2.1,a6.2.2.2⟩ (by show y.D++ [d]=_;rw[c1,lD0]) b9 d2 ?_
 refine⟨_,U,[],[],by rw[lV0,lG0];exact c9,?_,?_,⟨rfl,rfl⟩,?_⟩
 ·have:txF (gs++ [⟨{y.ob with q:=E,n:=y.ob.n+1,c:=I},y.own,y.D++ [d],V⟩])=txF (gs++ [y])++d.txs:=by
   rw[bE,bE,dL,dL,jQ,lD0]
  rw[this];exact ht
 ·intro g W
  rcases lP0.1 W with W|W
  ·exact b4 g (by simp[W])
  ·obtain rfl:=lN0.1 W
   refine⟨?_,by simp;omega,b8.2.2⟩
   show Sl 1 aO E (y.ob.n+1) I ((y.D++ [d]).map DB.v) V
   rw[lV0,List.map_singleton,hv];exact d1
 ·rw[bh,dA,lR,nX]
  exact h.re
namespace dV
def k1 (R:EP)(y:BA)(g:Int)(w:World):Prop:=
 0<=g/\g<=(y.size:Int)/\
 R (hQ (hX (y.extract 0 (Int.toNat g)))) w
def bl2 (R:EP)(Xa:BA->BA->Int->WP)(U:BA->BA->Int->Bool->Int->WP)(E I:BA)(y:Int)(O:Bool)(g:Int)(w:World):Prop:=
 br (decide (g<(I.size:Int)))
 (tk w λV=>
 0<=g/\g<(I.size:Int)/\
 0<=(i64.wrap (y - 1))/\(i64.wrap (y - 1))<(E.size:Int)/\
 br ((bt I g)==(bt E (i64.wrap (y - 1))))
 (False)
 (U E I y O (i64.wrap (g+1)) V))
 (br (!O)
 (k1 R E y w)
 (False))
def l2 (R:EP)(Xa:BA->BA->Int->WP)(g y:BA)(O:Int)(E:Bool)(I:Int)(w:World):Prop:=
 ∀X:BA->BA->Int->Bool->Int->WP,(∀g y O E I w,bl2 R Xa X g y O E I w->X g y O E I w)->X g y O E I w
def bl1 (R:EP)(Xa:BA->BA->Int->WP)(E y:BA)(g:Int)(w:World):Prop:=
 br (decide (g>0))
 (l2 R Xa E y g false 0 w)
 (False)
def l1 (R:EP)(y g:BA)(E:Int)(w:World):Prop:=
 ∀X:BA->BA->Int->WP,(∀y g E w,bl1 R X y g E w->X y g E w)->X y g E w
end dV
def dV (R:EP)(g y:BA)(w:World):Prop:=
 dV.l1 R g y (g.size:Int) w
theorem dV.sound {R x0 x1 w}(h:dV R x0 x1 w):callE P mq #[hX x0,hX x1] R w:=
 aG [(19,.lp [1,21,107] (dV.bl1 R) λXa=> [(14,.no),(85,.lp [1,21,107,120,147] (dV.bl2 R Xa) λg=> [(17,.dr (rpN [0,3,6,9,12,15,18,21])),(41,.no)]),(237,.no)]),(15,.mk [1,107] (dV.k1 R))] Tryz.func188 Tryz.call188 h
namespace cw
def k1 (R:EP)(y:BA)(g:Int)(w:World):Prop:=
 0<=g/\g<=(y.size:Int)/\
 R (hQ (hX (y.extract 0 (Int.toNat g)))) w
def bl1 (R:EP)(Xa:BA->Int->WP)(y:BA)(g:Int)(w:World):Prop:=
 ((decide (g>0))=true->0<=(i64.wrap (g - 1))/\(i64.wrap (g - 1))<(y.size:Int))/\
 (((decide (g>0)) && (!((bt y (i64.wrap (g - 1)))==32)))=true->0<=(i64.wrap (g - 1))/\(i64.wrap (g - 1))<(y.size:Int))/\
 br ((decide (g>0)) && (((bt y (i64.wrap (g - 1)))==32)||((bt y (i64.wrap (g - 1)))==9)))
 (Xa y (i64.wrap (g - 1)) w)
 (k1 R y g w)
def l1 (R:EP)(y:BA)(g:Int)(w:World):Prop:=
 ∀X:BA->Int->WP,(∀y g w,bl1 R X y g w->X y g w)->X y g w
end cw
def cw (R:EP)(g:BA)(w:World):Prop:=
 cw.l1 R g (g.size:Int) w
theorem cw.sound {R x0 w}(h:cw R x0 w):callE P fD #[hX x0] R w:=
 aG [(19,.lp [1,67] (cw.bl1 R) λXa=> []),(15,.mk [1,67] (cw.k1 R))] Tryz.func187 Tryz.call187 h

theorem sub_le (s:List UInt8)(i:Nat):(sub s i (i+1)).length<=1:=by
 unfold sub;rw[lM1,lE1];omega

theorem ua {l:List UInt8}(W:l.length<4611686018427387904)(h:R (hQ (hX (bs (wl cO l)))) w):callE P fD #[hX (bs l)] R w:=by
 refine cw.sound ?_
 intro Y E
 rw[aJ]
 refine G8 (l:=l) (X:=λj=>Y (bs l) (j:Int) w) (p:=cO) (λi hi I V=>E _ _ _ ?_) l.length (lA1 _) (λj a6 O U=>E _ _ _ ?_)
 ·have hd:=il (n:=i+1) (by omega) (by omega)
  rw[lE3] at hd
  refine⟨λ_=>?_,λ_=>?_,ag ?_ ?_⟩
  ·rw[hd];exact⟨by omega,by simp;omega⟩
  ·rw[hd];exact⟨by omega,by simp;omega⟩
  ·rw[hd,dh hi 32 32 rfl,dh hi 9 9 rfl]
   simp only[cO] at I
   rw[I]
   simp
  ·rw[hd];exact V
 ·have g:cw.k1 R (bs l) (j:Int) w:=by
   refine⟨by omega,by simp;omega,?_⟩
   rw[cj]
   simp only[lC0,lM2,U,lW2]
   exact h
  rcases lK4 j with y|y
  ·subst y
   exact⟨λh=>by simp at h,λh=>by simp at h,af (by simp) g⟩
  ·obtain⟨i,rfl⟩: ∃i,j=i+1:=⟨j - 1,by omega⟩
   have hd:=il (n:=i+1) (by omega) (by omega)
   rw[lE3] at hd
   refine⟨λ_=>?_,λ_=>?_,af ?_ g⟩
   ·rw[hd];exact⟨by omega,by simp;omega⟩
   ·rw[hd];exact⟨by omega,by simp;omega⟩
   ·rw[hd,dh (show i<l.length by omega) 32 32 rfl,dh (show i<l.length by omega) 9 9 rfl]
    have:=O i (by omega) rfl
    simp only[cO] at this
    rw[this];simp

theorem tI {m:List UInt8}{d:UInt8}(hs:m.length<1000000000)(hd:d≠35)(h:Sat σ w L)(V: ∀w,Sat σ w L->R (hQ (hX (bs (m++ [d])))) w):callE P mq #[hX (bs (m++ [d])),hX (bs [35])] R w:=by
 refine dV.sound ?_
 intro X I
 have g:(m++ [d]).length=m.length+1:=by simp
 rw[aJ,g]
 refine I _ _ _ _ (ag (decide_eq_true (by omega)) ?_)
 intro Y y
 refine y _ _ _ _ _ _ (ag (by decide) ?_)
 have W:i64.wrap (((m.length+1:Nat):Int) - 1)=((m.length:Nat):Int):=by simp (disch:=omega) only[i64_in];omega
 refine h.tk λw h=>?_
 rw[W]
 refine⟨by decide,by decide,by omega,by rw[aJ,g];omega,?_⟩
 have a6:bt (bs [35]) 0=35:=rfl
 have U:bt (bs (m++ [d])) ((m.length:Nat):Int)=(d.toNat:Int):=by rw[pj,vE]
 rw[a6,U]
 have E:((35:Int)==(d.toNat:Int))=false:=by
  have:=mW 35 d
  have O:((35:UInt8)==d)=false:=by simpa using λh=>hd h.symm
  rw[O] at this;exact this
 refine af E ?_
 refine y _ _ _ _ _ _ (af (by decide) (ag rfl ?_))
 unfold dV.k1
 refine⟨by omega,by rw[aJ,g];omega,?_⟩
 rw[cj,lM2,lC0,<-g,lW2]
 exact V w h

def o9 (b s e lv t:Nat)(id:List UInt8):ai:=(b,cel [hY s,hY e,hY lv,kT (kE t),hX (bs id)] qn)

def zLine:Ln:=⟨0,0,0,[],0⟩

theorem zy {m:List UInt8}{d:UInt8}(hd:cO d=false):wl cO (m++ [d])=m++ [d]:=by
 unfold wl
 rw[lE5,List.reverse_singleton,lR2,lA3,hd]
 simp

theorem nj:lg P gv "Pos" cA=true:=by kernel_rfl
theorem wH:lg P cW "Pos" cA=true:=by kernel_rfl
theorem pQ {nb t s e s' e' lv:Nat}{raw id:List UInt8}{q:OA}{n c:Nat}{vs:List Value}{RM KM:List ai}{xs:List IN}(b4:Sl 1 aC q n c vs RM)(b5:j6 ez xs vs KM)(b7:n<1073741824)(a7:id.length<1073741824):
 qW bR (.mk {kind:=5,num:=(lv:Nat),title:=id,s:=s,e:=e} xs) (bkV gv nb) (o9 nb s e lv t id::fC t s' e' q n c raw::(RM++KM)):=by
 intro σ R L w h b6
 refine cg.sound ?_
 refine fQ nj h (.head _) λb1 g w h=>?_
 refine⟨_,_,_,cl (by kernel_rfl) (by decide) w,af rfl ?_⟩
 refine⟨_,_,_,cl (by kernel_rfl) (by decide) w,af rfl ?_⟩
 refine⟨_,_,_,cl (by kernel_rfl) (by decide) w,af rfl ?_⟩
 refine⟨_,_,_,cl (by kernel_rfl) (by decide) w,af rfl ?_⟩
 refine⟨_,_,_,iH (by kernel_rfl) w,ag rfl ?_⟩
 refine Sat.tk h λw h=>?_
 have y:o9 nb s e lv t id∈((g,cel (N16.C {a8:=s,a9:=e}).toList aj)::(b1,cel (N16.C {}).toList aj)::(o9 nb s e lv t id::fC t s' e' q n c raw::(RM++KM)++L)):= .tail _ (.tail _ (.head _))
 refine aa (aa (aa ⟨_,Sat.ld h y (i:=2) rfl,_,Sat.ld h y (i:=4) rfl,_,Sat.ld h y (i:=3) rfl,aa ⟨_,_,_,Sat.ld h (.tail _ (.tail _ (.tail _ (.head _)))) (i:=2) rfl,?_⟩⟩))
 have h0:=h
 have h:Sat σ w (RM++(KM++((g,cel (N16.C {a8:=s,a9:=e}).toList aj)::(b1,cel (N16.C {}).toList aj)::o9 nb s e lv t id::fC t s' e' q n c raw::L))):=h.re
 refine jw b4 b5 h b7 λw I U O us E NM a6 W b3 h=>⟨_,_,_,rfl,?_⟩
 have h:Sat σ w ((g,cel (N16.C {a8:=s,a9:=e}).toList aj)::(b1,cel (N16.C {}).toList aj)::o9 nb s e lv t id::((E++NM)++(fC t s' e' q n c raw::(RM++KM)++L))):=h.re
 refine⟨h0.same h y (.tail _ (.tail _ (.head _))) 1,h0.same h y (.tail _ (.tail _ (.head _))) 1,?_⟩
 have V:=h
 refine Sat.st h (k:=0) rfl (by show 0<16;decide) trivial rfl λw h=>⟨V.same h (.tail _ (.tail _ (.head _))) (.tail _ (.tail _ (.head _))) 1,V.same h (.tail _ (.tail _ (.head _))) (.tail _ (.tail _ (.head _))) 1,?_⟩
 have V:=h
 refine Sat.st h (k:=0) rfl (by show 3<16;decide) trivial rfl λw h=>⟨V.same h (.tail _ (.tail _ (.head _))) (.tail _ (.tail _ (.head _))) 1,?_⟩
 refine Sat.st h (k:=0) rfl (by show 2<16;decide) trivial rfl λw h=>?_
 refine Sat.st h (k:=0) rfl (by show 7<16;decide) trivial rfl λw h=>?_
 have h:Sat σ w ((g,cel (IH.nd {kind:=5,num:=(lv:Nat),title:=id,s:=s,e:=e} I U O).C.toList aj)::(b1,cel (N16.C {}).toList aj)::((E++NM)++(o9 nb s e lv t id::fC t s' e' q n c raw::(RM++KM)++L))):=by
  have h:Sat σ w ((g,cel (IH.nd {kind:=5,num:=(lv:Nat),title:=id,s:=s,e:=e} I U O).C.toList aj)::(b1,cel (N16.C {}).toList aj)::o9 nb s e lv t id::((E++NM)++(fC t s' e' q n c raw::(RM++KM)++L))):=h
  exact h.re
 exact iy (v:=IH.nd {kind:=5,num:=(lv:Nat),title:=id,s:=s,e:=e} I U O) (u:= {}) (NM:=E++NM) ⟨_,xs,I,U,O,us,E,NM,rfl,rfl,rfl,⟨bY,a7,bY,bY⟩,a6,W,b3⟩ h b6
def hrC (nb s e:Nat)(raw:List UInt8):ai:=(nb,cel [hY s,hY e,hX (bs raw)] jY)
theorem yX {nb s e:Nat}{raw:List UInt8}(hb:raw.length<1073741824):qW bR (.mk {kind:=9,mark:=raw,s:=s,e:=e} []) (bkV cW nb) [hrC nb s e raw]:=by
 intro σ R L w h g
 refine cg.sound ?_
 refine fQ wH h (.head _) λb1 y w h=>?_
 refine⟨_,_,_,cl (by kernel_rfl) (by decide) w,af rfl ?_⟩
 refine⟨_,_,_,cl (by kernel_rfl) (by decide) w,af rfl ?_⟩
 refine⟨_,_,_,cl (by kernel_rfl) (by decide) w,af rfl ?_⟩
 refine⟨_,_,_,cl (by kernel_rfl) (by decide) w,af rfl ?_⟩
 refine⟨_,_,_,cl (by kernel_rfl) (by decide) w,af rfl ?_⟩
 refine⟨_,_,_,cl (by kernel_rfl) (by decide) w,af rfl ?_⟩
 refine⟨_,_,_,cl (by kernel_rfl) (by decide) w,af rfl ?_⟩
 refine⟨_,_,_,cl (by kernel_rfl) (by decide) w,af rfl ?_⟩
 refine⟨_,_,_,cl (by kernel_rfl) (by decide) w,af rfl ?_⟩
 refine⟨_,_,_,iH (by kernel_rfl) w,ag rfl ?_⟩
 refine y0.sound ?_
 refine aa ⟨_,Sat.ld h (.tail _ (.tail _ (.head _))) (i:=2) rfl,_,rfl,?_⟩
 refine Sat.st h (k:=0) rfl (by show 0<16;decide) trivial rfl λw h=>?_
 refine Sat.st h (k:=0) rfl (by show 10<16;decide) trivial rfl λw h=>?_
 exact iy (v:=IH.nd {kind:=9,mark:=raw,s:=s,e:=e} none 0 0) (u:= {}) (NM:= []) (NodeAt.leaf ⟨bY,bY,bY,hb⟩) h g
def CQ (nb s:Nat)(raw:List UInt8):DB:=⟨.iface cW (kT (kE nb)),[hrC nb s s raw],[]⟩
theorem td_hr {nb s:Nat}{raw:List UInt8}(hb:raw.length<1073741824)(hs:s<1000000000):TD G op (CQ nb s raw) (.mk {kind:=9,mark:=raw,s:=s,e:=s} []):=by
 have ht:(CQ nb s raw).tree G (.mk {kind:=9,mark:=raw,s:=s,e:=s} []):=by
  intro ts ht
  refine⟨_,yX (nb:=nb) (s:=s) (e:=s) hb,λa=>?_⟩
  cases ht
  simp[CQ,fX]
 refine⟨ht,?_,.inr ⟨_,_,rfl,by decide⟩,⟨j9 wH rfl (.head _),?_,hs,by show s<2000000000;omega⟩,λx g=>by simp[CQ] at g⟩
 ·rw[eh (d:=CQ nb s raw) rfl (by decide)]
  exact ht
 ·show ((s:Int).toNat,(s:Int).toNat)=(s,s)
  simp
def yV (nb t s e lv:Nat)(raw:List UInt8):DB:=⟨.iface gv (kT (kE nb)),[o9 nb s e lv t []],[⟨t,s,e,raw⟩]⟩
theorem FR {nb t s e lv:Nat}{raw:List UInt8}(hs:s<1000000000)(O:e<2000000000)(y:mf (G raw))(U:jL none [] op raw (G raw)):TD G op (yV nb t s e lv raw) (.mk {kind:=5,num:=(lv:Nat),s:=s,e:=e} (eC (G raw))):=by
 have ht:(yV nb t s e lv raw).tree G (.mk {kind:=5,num:=(lv:Nat),s:=s,e:=e} (eC (G raw))):=by
  intro ts ht
  cases ht with
  |cons g I E=>
   cases E
   rw[<-I] at y⊢
   exact⟨_,pQ (nb:=nb) (t:=t) (s:=s) (e:=e) (s':=s) (e':=e) (lv:=lv) (raw:=raw) (id:= []) g.1 (eS y g.2.2) g.2.1 (by decide),λa=>by simp[yV,fX,xB]⟩
 refine⟨ht,?_,.inr ⟨_,_,rfl,by decide⟩,⟨j9 nj rfl (.head _),?_,hs,O⟩,λx V=>?_⟩
 ·rw[eh (d:=yV nb t s e lv raw) rfl (by decide)]
  exact ht
 ·show ((s:Int).toNat,(e:Int).toNat)=(s,e)
  simp
 ·obtain rfl:=lN0.1 V
  exact U

theorem Aw (b9:op.task=false){b7:OA->Nat->WP}{b b1 pb:Nat}{xs:List IN}{gs junk:List Bk}{top:Bk}{p:PS}{l:Ln}{s:List UInt8}(e9:Pd G op xs junk .none)(h:DocC σ b (l.at b1::L) (gs++top::junk) .none p w)(hd:p.depth=gs.length)(d0:gs.length<900000)(b8:LnR l (62::32::s))(hs:s.all cO=false)(e5: ∀g∈gs++top::junk,g.D.length<=90000)(e2:(txF (gs++top::junk)).length<=90000)(c5:p.pz=kE pb)(e0:op.at pb∈L)(c9:p.lineno<1000000000)(b5: ∀w (p':PS) y O f,p'.base=p.base->p'.lineno=p.lineno->p'.depth=p.depth+1->y.like top->y.D=top.D++O->TDs G op O xs->(ci O).length<=(txF junk).length+1->f.isQuote->f.ob.s=p.lineno->f.ob.e=p.lineno->f.D= []->
  DocC σ b (({l with i:=l.i+2}:Ln).at b1::L) (gs++ [y,f]) .none p' w->b7 (kE b) b1 w):ak.bl102 R b7 (kE b) b1 w:=by
 obtain⟨b6,a6⟩:=b8.quote
 generalize ({l with i:=l.i+2}:Ln)=l2 at b6 a6 b5
 have d2:l2.blank=false:=by unfold Ln.blank;rw[a6.tx];exact hs
 obtain⟨M,W,g0,g3,d3,d1,c4,⟨rfl,rfl⟩,h⟩:=h
 have h:Sat σ w (p.at b::M++(l.at b1::(W++(aM (gs++top::junk)++L)))):=h.re
 refine jK 0 (by decide) h (λj _ e3=>absurd e3 (by omega)) a6.ok d2 λw nb e e6 h f5=>?_
 show callE P km _ e6 w
 refine ol.sound ?_
 refine Sat.bx h λb2 w h=>?_
 refine Sat.bx h λE w h=>?_
 repeat (first|refine aa ?_|refine h.tk λw h=>?_|refine⟨_,h.ldA,?_⟩|refine⟨_,_,_,h.ldA,?_⟩)
 have h:Sat σ _ (zLn E::l.at b2::(p.at b::M++(l.at b1::(nb,cel newsC e)::(W++(aM (gs++top::junk)++L))))):=h
 refine nf h b8.ok ?_
 rw[b6]
 intro w h
 refine⟨_,_,_,_,_,_,rfl,?_⟩
 refine Sat.bx h λI w h=>?_
 refine h.stA 0 λw h=>?_
 refine h.stA 0 λw h=>?_
 refine h.stA 0 λw h=>?_
 refine h.stA 0 λw h=>?_
 refine h.stA 0 λw h=>?_
 refine ag rfl ?_
 refine Sat.bx h λb4 w h=>?_
 have h:Sat σ w (F6 b4::l2.at I::zLn E::l.at b2::(p.at b::M++(l.at b1::(nb,cel newsC e)::(W++(aM (gs++top::junk)++L))))):=h
 have c3:DocC σ b (F6 b4::(zLn E::l2.at I::l.at b1::L)) (gs++top::junk) .none p w:=⟨M,W,[],[],d3,d1,c4,⟨rfl,rfl⟩,h.less [l.at b2,(nb,cel newsC e)]⟩
 refine p9 (pb:=pb) (e9.close b9) (.tail _ (.tail _ (.tail _ e0))) c5 e5 e2 c3 hd d0 c9 λw p' y O f f0 e7 e1 k1 k2 k3 k4 a7 e8 e4 g2 h=>⟨rfl,?_⟩
 obtain⟨V,U,f6,g1,c8,c2,c1,⟨rfl,rfl⟩,h⟩:=h
 have h:Sat σ w (zLn E::l2.at I::l.at b1::(p'.at b::V++(U++(aM (gs++ [y,f])++L)))):=h.re
 repeat (first|refine aa ?_|refine h.tk λw h=>?_|refine⟨_,h.ldA,?_⟩|refine⟨_,_,_,h.ldA,?_⟩|refine h.stA 0 λw h=>?_|refine h.stA 1 λw h=>?_|refine h.stA 2 λw h=>?_|refine h.stA 3 λw h=>?_|refine h.stA 4 λw h=>?_|refine h.stA 5 λw h=>?_|refine h.stA 6 λw h=>?_|refine h.bx λb0 w h=>?_)
 have h:Sat σ _ (l2.at E::l2.at I::l.at b1::(p'.at b::(V++(U++(aM (gs++ [y,f])++L))))):=h
 have h:Sat σ _ (l.at b1::p'.at b::(V++(U++(aM (gs++ [y,f])++L)))):=h.less [l2.at E,l2.at I]
 refine f5 _ _ p' (by omega) h λw h=>?_
 refine b5 w {p' with depth:=p'.depth+1} y O f f0 e7 (by show p'.depth+1=_;rw[e1]) k1 k2 k3 k4 ⟨b4,by rw[a7];rfl,e8⟩ (by rw[a7]) (by rw[a7]) e4 ⟨V,U,[],[],c8.of rfl rfl rfl,c2.of rfl rfl rfl,c1,⟨rfl,rfl⟩,h.re⟩
theorem F7 (b6:op.task=false){e3:OA->Nat->WP}{b b1 pb:Nat}{xs:List IN}{gs junk:List Bk}{top:Bk}{p:PS}{l:Ln}(W:Pd G op xs junk .none)(h:DocC σ b (l.at b1::L) (gs++top::junk) .none p w)(hd:p.depth=gs.length)(b5:gs.length<900000)(ht:top.np)(V:l.ok)(e1:l.quote=none)(d2:l.heading=none)(c8:l.isHR=true)(d3: ∀g∈gs++top::junk,g.D.length<=90000)(d1:(txF (gs++top::junk)).length<=90000)(c3:p.pz=kE pb)(c9:op.at pb∈L)(e8:p.lineno<1000000000)(O: ∀w (p':PS) y U nb,p'.base=p.base->p'.lineno=p.lineno->y.like top->y.D=top.D++(U++ [CQ nb p.lineno l.str])->TDs G op U xs->(ci U).length<=(txF junk).length+1->DocC σ b L (gs++ [y]) .none p' w->R (hQ (.tuple #[])) w):
 ak.bl102 R e3 (kE b) b1 w:=by
 obtain⟨M,E,e7,f2,a7,c5,c2,⟨rfl,rfl⟩,h⟩:=h
 rw[lG0] at a7
 have h:Sat σ w (p.at b::M++(l.at b1::(E++(aM (gs++top::junk)++L)))):=h.re
 have c1:=nY (b:=b) (l:=l) a7 hd b5 ht W.next (W.last rfl gs top ht) V
 refine oA 3 (by decide) h ?_ λw nb e e0 h e5=>?_
 ·intro j f1 d0 σ w L R h O
  match j,d0 with
  |0,_=>exact iI (x:= .nilIface) h V e1 O
  |1,_=>exact lS h V d2 O
  |2,_=>exact c1 σ w L R h O
 show callE P qD _ e0 w
 refine vF.sound ?_
 refine Sat.bx h λb2 w h=>?_
 refine Sat.bx h λI w h=>?_
 repeat (first|refine aa ?_|refine h.tk λw h=>?_|refine⟨_,h.ldA,?_⟩|refine⟨_,_,_,h.ldA,?_⟩)
 have h:Sat σ _ (zLn I::l.at b2::(p.at b::M++(l.at b1::(nb,cel newsC e)::(E++(aM (gs++top::junk)++L))))):=h
 refine CG (l:=l) h V λw h=>⟨_,rfl,?_⟩
 rw[c8]
 refine ag rfl ?_
 have h:Sat σ w (p.at b::(zLn I::l.at b2::(M++(l.at b1::(nb,cel newsC e)::(E++(aM (gs++top::junk)++L)))))):=h.re
 refine Sat.tk h λw h=>aa (aa ⟨_,Sat.ld h (.head _) (i:=3) rfl,_,Sat.ld h (.head _) (i:=3) rfl,?_⟩)
 have h0:=h
 refine px h (.tail _ (.tail _ (.head _))) V λw h=>⟨_,rfl,h0.same h (.head _) (.head _) 1,h0.same h (.head _) (.head _) 1,?_⟩
 refine Sat.bx h λhb w h=>?_
 have h:Sat σ w (hrC hb p.lineno p.lineno l.str::p.at b::(zLn I::l.at b2::(M++(l.at b1::(nb,cel newsC e)::(E++(aM (gs++top::junk)++L)))))):=h
 have b9:DocE σ b ((CQ hb p.lineno l.str).own++((CQ hb p.lineno l.str).txs.map TX.chunk++(zLn I::l.at b1::L))) (CQ hb p.lineno l.str).txs (gs++top::junk) p w:=by
  refine⟨M,E,[],[],by rw[lG0];exact a7,?_,c2,⟨rfl,rfl⟩,?_⟩
  ·show Txts p ((txF (gs++top::junk)++ []).map TX.t) E
   rw[lG0];exact c5
  ·show Sat σ w (p.at b::M++(E++(aM (gs++top::junk)++([]++([hrC hb p.lineno p.lineno l.str]++([]++(zLn I::l.at b1::L)))))))
   exact h.less [l.at b2,(nb,cel newsC e)]
 refine qN (pb:=pb) (d:=CQ hb p.lineno l.str) (W.closeE b6 rfl) (.tail _ (.tail _ c9)) c3 d3 d1 b9 hd b5 rfl W.len λw p' y U e4 f0 e2 k1 k2 k3 k4 h=>⟨rfl,?_⟩
 obtain⟨b4,a6,e6,e9,c4,b8,b7,⟨rfl,rfl⟩,h⟩:=h
 have h:Sat σ w (zLn I::l.at b1::(p'.at b::b4++(a6++(aM (gs++ [y])++L)))):=h.re
 repeat (first|refine aa ?_|refine h.tk λw h=>?_|refine⟨_,h.ldA,?_⟩|refine⟨_,_,_,h.ldA,?_⟩|refine h.stA 0 λw h=>?_|refine h.stA 1 λw h=>?_|refine h.stA 2 λw h=>?_|refine h.stA 3 λw h=>?_|refine h.stA 4 λw h=>?_|refine h.stA 5 λw h=>?_|refine h.stA 6 λw h=>?_|refine h.bx λb0 w h=>?_)
 have h:Sat σ _ (zLn I::l.at b1::(p'.at b::b4++(a6++(aM (gs++ [y])++L)))):=h
 refine e5 _ _ h.tail λw h=>?_
 exact O w p' y U hb e4 e2 k1 k2 k3 k4 ⟨b4,a6,[],[],c4,b8,b7,⟨rfl,rfl⟩,h.re⟩

theorem LnR.hashes {c:UInt8}{r:List UInt8}(hc:c≠35): ∀(j k n:Nat) {l:Ln},j<=k->LnR l (hN j 35++c::r)->l.hashes k n=(n+j,{l with i:=l.i+j})
 |0,0,n,l,_,h=>by simp[Ln.hashes]
 |0,k+1,n,l,_,h=>by
  have h:LnR l (c::r):=h
  have e:l.trimC 35=none:=by rw[h.has.trimC,if_neg hc]
  simp[Ln.hashes,e]
 |j+1,0,n,l,hj,h=>absurd hj (by omega)
 |j+1,k+1,n,l,hj,h=>by
  have h:LnR l (35::(hN j 35++c::r)):=by rw[lA2] at h;exact h
  have e:l.trimC 35=some {l with i:=l.i+1}:=by rw[h.has.trimC,if_pos rfl]
  have g:=LnR.hashes hc j k (n+1) (by omega) (LnR.skip (a:= [35]) h)
  simp only[Ln.hashes,e]
  refine g.trans ?_
  show (n+1+j,({l with i:=l.i+1+j}:Ln))=(n+(j+1),{l with i:=l.i+(j+1)})
  rw[lF3 n,lF3 l.i,lC3,lC3]
theorem LnR.heading {l:Ln}{n:Nat}{s:List UInt8}(W:1<=n/\n<=6)(h:LnR l (hN n 35++32::s)):l.heading=some (n,{l with i:=l.i+(n+1)})/\LnR {l with i:=l.i+(n+1)} s/\l.quote=none/\l.blank=false:=by
 obtain⟨j,rfl⟩: ∃j,n=j+1:=⟨n - 1,by omega⟩
 have U:LnR l (35::(hN j 35++32::s)):=by rw[lA2] at h;exact h
 have g:=U.has
 have O:l.lead 3 false=l:=g.lead (by decide) 2 false
 have I:=LnR.skip (a:= [35]) U
 have E:=LnR.hashes (c:=32) (r:=s) (by decide) j 5 1 (by omega) I
 have y:=LnR.skip I
 rw[lH2] at y
 have V:({l with i:=l.i+1+j}:Ln).has 32 s:=y.has
 refine⟨?_,?_,?_,g.blank (by decide)⟩
 ·unfold Ln.heading
  rw[O,g.trimC,if_pos rfl]
  show (((Ln.hashes 5 1 {l with i:=l.i+1}).2.trimSp 1 1 true).map λt'=>((Ln.hashes 5 1 {l with i:=l.i+1}).1,t'))=_
  have E:Ln.hashes 5 1 {l with i:=l.i+1}=(1+j,{l with i:=l.i+1+j}):=E
  rw[E]
  show ((Ln.trimSp 1 1 true {l with i:=l.i+1+j}).map λt'=>(1+j,t'))=_
  rw[V.sp1]
  show some (1+j,({l with i:=l.i+1+j+1}:Ln))=some (j+1,{l with i:=l.i+(j+1+1)})
  rw[lG4 1 j]
  have:l.i+1+j+1=l.i+(j+1+1):=by omega
  rw[this]
 ·have:=LnR.skip (a:= [32]) y
  have e:l.i+1+j+1=l.i+(j+1+1):=by omega
  show LnR {l with i:=l.i+(j+1+1)} s
  rw[<-e];exact this
 ·unfold Ln.quote
  rw[O,g.trimC,if_neg (by decide)];rfl
theorem B9 (e0:op.task=false)(e5:op.ids=false){g3:OA->Nat->WP}{b b1 pb lv:Nat}{xs:List IN}{gs junk:List Bk}{top:Bk}{p:PS}{l b6:Ln}{m:List UInt8}{E:UInt8}(d3:Pd G op xs junk .none)(h:DocC σ b (l.at b1::L) (gs++top::junk) .none p w)(hd:p.depth=gs.length)(f1:gs.length<900000)(d1:l.ok)(g1:l.quote=none)(f5:l.heading=some (lv,b6))(b7:LnR b6 (m++ [E]))(b8:cO E=false/\E≠35)(h4:m.length<100000)(f6: ∀g∈gs++top::junk,g.D.length<=90000)(f4:(txF (gs++top::junk)).length<=90000)(c3:p.pz=kE pb)(c5:op.at pb∈L)(h2:p.lineno<1000000000)(c1: ∀w (p':PS) I W nb t,p'.base=p.base->p'.lineno=p.lineno->I.like top->I.D=top.D++(W++ [yV nb t p.lineno p.lineno lv (m++ [E])])->TDs G op W xs->(ci W).length<=(txF junk).length+1->DocC σ b L (gs++ [I]) .none p' w->R (hQ (.tuple #[])) w):
 ak.bl102 R g3 (kE b) b1 w:=by
 obtain⟨M,U,g7,h8,c4,f0,e8,⟨rfl,rfl⟩,h⟩:=h
 rw[lG0] at c4
 have e2:b6.str=m++ [E]:=by unfold Ln.str;rw[b7.sp,b7.tx];rfl
 have h:Sat σ w (p.at b::M++(l.at b1::(U++(aM (gs++top::junk)++L)))):=h.re
 refine oA 1 (by decide) h ?_ λw nb e g0 h g5=>?_
 ·intro j h7 f3 σ w L R h c1
  match j,f3 with
  |0,_=>exact iI (x:= .nilIface) h d1 g1 c1
 show callE P fx _ g0 w
 refine cI.sound ?_
 refine Sat.bx h λb2 w h=>?_
 refine Sat.bx h λy w h=>?_
 repeat (first|refine aa ?_|refine h.tk λw h=>?_|refine⟨_,h.ldA,?_⟩|refine⟨_,_,_,h.ldA,?_⟩)
 refine Sat.bx h λc8 w h=>?_
 repeat (first|refine aa ?_|refine h.tk λw h=>?_|refine⟨_,h.ldA,?_⟩|refine⟨_,_,_,h.ldA,?_⟩|refine h.stA 0 λw h=>?_|refine h.stA 1 λw h=>?_|refine h.stA 2 λw h=>?_|refine h.stA 3 λw h=>?_|refine h.stA 4 λw h=>?_|refine h.stA 5 λw h=>?_|refine h.stA 6 λw h=>?_|refine h.bx λb0 w h=>?_)
 have h:Sat σ _ ((b0,cel [hY 0] ba)::l.at c8::zLine.at y::l.at b2::(p.at b::M++(l.at b1::(nb,cel newsC e)::(U++(aM (gs++top::junk)++L))))):=h
 refine oK h.up1 d1 ?_
 rw[f5]
 intro w h
 refine⟨_,rfl,ag rfl ?_⟩
 refine px h (.head _) b7.ok λw h=>⟨_,rfl,?_⟩
 rw[e2]
 refine ua (by simp;omega) ⟨_,rfl,?_⟩
 rw[zy b8.1]
 refine tI (by omega) b8.2 h λw h=>⟨_,rfl,?_⟩
 refine ua (by simp;omega) ⟨_,rfl,?_⟩
 rw[zy b8.1]
 refine af (by simp only[cJ];rw[gx];simp) ?_
 unfold cI.k1
 have h:Sat σ w (p.at b::(zLine.at y::(b0,cel [hY lv] ba)::(M++(l.at b1::(U++(aM (gs++top::junk)++L)))))):=h.less [b6.at c8,l.at b2,(nb,cel newsC e)]
 refine aa ⟨_,Sat.ld h (.head _) rfl,?_⟩
 rw[c3]
 refine aa ⟨op.ids,Sat.ld h (b:=pb) (i:=0) (by simp[c5]:op.at pb∈_) rfl,?_⟩
 rw[e5]
 refine af rfl ?_
 unfold cI.k2
 refine Sat.tk h λw h=>aa (aa ?_)
 refine⟨_,Sat.ld h (.head _) (i:=3) rfl,_,Sat.ld h (.head _) (i:=3) rfl,?_⟩
 have h0:=h
 refine Sat.bx h λO w h=>?_
 refine⟨h0.same h (.head _) (.tail _ (.head _)) 1,h0.same h (.head _) (.tail _ (.head _)) 1,?_⟩
 have h:Sat σ w ((O,cel [hY 0,hY 0] aF)::(p.at b::(zLine.at y::(b0,cel [hY lv] ba)::(M++(l.at b1::(U++(aM (gs++top::junk)++L))))))):=h
 refine h.stA 0 λw h=>?_
 refine h.stA 0 λw h=>?_
 have h:Sat σ w ((O,cel [hY p.lineno,hY p.lineno] aF)::(b0,cel [hY lv] ba)::(p.at b::(zLine.at y::(M++(l.at b1::(U++(aM (gs++top::junk)++L))))))):=by
  have h:Sat σ w ((O,cel [hY p.lineno,hY p.lineno] aF)::(p.at b::(zLine.at y::(b0,cel [hY lv] ba)::(M++(l.at b1::(U++(aM (gs++top::junk)++L))))))):=h
  exact h.re
 refine Sat.tk h λw h=>?_
 refine⟨_,Sat.ld h (.head _) (i:=0) rfl,_,Sat.ld h (.head _) (i:=1) rfl,_,Sat.ld h (.tail _ (.head _)) (i:=0) rfl,_,Sat.ld h (.head _) (i:=0) rfl,_,Sat.ld h (.head _) (i:=1) rfl,?_⟩
 have d2:=h
 have h:Sat σ _ (p.at b::U++(M++((O,cel [hY p.lineno,hY p.lineno] aF)::(b0,cel [hY lv] ba)::zLine.at y::l.at b1::(aM (gs++top::junk)++L)))):=h.re
 refine un h f0 (by simp;omega) λw a6 b5 t V f2 h=>⟨_,rfl,?_⟩
 have h:Sat σ w ((O,cel [hY p.lineno,hY p.lineno] aF)::(b0,cel [hY lv] ba)::(a6.at b::M++(b5++(fC t p.lineno p.lineno none 0 0 (m++ [E])::zLine.at y::l.at b1::(aM (gs++top::junk)++L))))):=h.re
 refine⟨d2.same h (.tail _ (.head _)) (.tail _ (.head _)) 1,d2.same h (.head _) (.head _) 2,?_⟩
 refine Sat.bx h λhb w h=>?_
 have h:Sat σ w (o9 hb p.lineno p.lineno lv t []::(O,cel [hY p.lineno,hY p.lineno] aF)::(b0,cel [hY lv] ba)::(a6.at b::M++(b5++(fC t p.lineno p.lineno none 0 0 (m++ [E])::zLine.at y::l.at b1::(aM (gs++top::junk)++L))))):=h
 generalize a7:yV hb t p.lineno p.lineno lv (m++ [E])=d
 have e1:d.own= [o9 hb p.lineno p.lineno lv t []]:=by rw[<-a7];rfl
 have e3:d.txs= [⟨t,p.lineno,p.lineno,m++ [E]⟩]:=by rw[<-a7];rfl
 have e7:DocE σ b (d.own++(d.txs.map TX.chunk++(zLine.at y::l.at b1::L))) d.txs (gs++top::junk) a6 w:=by
  rw[e1,e3]
  refine⟨M,b5,[],[],by rw[lG0];exact c4.of (by rw[V]) (by rw[V]) (by rw[V]),?_,e8,⟨rfl,rfl⟩,?_⟩
  ·rw[lV0];exact f2
  ·show Sat σ w (a6.at b::M++(b5++(aM (gs++top::junk)++([]++([o9 hb p.lineno p.lineno lv t []]++([fC t p.lineno p.lineno none 0 0 (m++ [E])]++(zLine.at y::l.at b1::L)))))))
   exact h.less [(O,cel [hY p.lineno,hY p.lineno] aF),(b0,cel [hY lv] ba)]
 have c9:a6.base=p.base:=by rw[V];rfl
 refine qN (pb:=pb) (d3.closeE e0 rfl) (.tail _ (.tail _ c5)) (by rw[<-c3];exact pk c9) f6 f4 e7 (by rw[V];exact hd) f1 (by rw[<-a7];rfl) d3.len λw p' I W g4 h6 g2 k1 k2 k3 k4 h=>⟨rfl,?_⟩
 obtain⟨c2,b9,g6,h5,e9,e4,e6,⟨rfl,rfl⟩,h⟩:=h
 have h:Sat σ w (zLine.at y::l.at b1::(p'.at b::c2++(b9++(aM (gs++ [I])++L)))):=h.re
 repeat (first|refine aa ?_|refine h.tk λw h=>?_|refine⟨_,h.ldA,?_⟩|refine⟨_,_,_,h.ldA,?_⟩|refine h.stA 0 λw h=>?_|refine h.stA 1 λw h=>?_|refine h.stA 2 λw h=>?_|refine h.stA 3 λw h=>?_|refine h.stA 4 λw h=>?_|refine h.stA 5 λw h=>?_|refine h.stA 6 λw h=>?_|refine h.bx λb0 w h=>?_)
 have h:Sat σ _ (zLine.at y::l.at b1::(p'.at b::c2++(b9++(aM (gs++ [I])++L)))):=h
 refine g5 _ _ h.tail λw h=>?_
 refine c1 w p' I W hb t (g4.trans c9) (g2.trans (by rw[V])) k1 (by rw[a7];exact k2) k3 k4 ⟨c2,b9,[],[],e9,e4,e6,⟨rfl,rfl⟩,h.re⟩

theorem Pd.leaf {xs:List IN}{junk:List Bk}{lf:Leaf}(h:Pd G op xs junk lf):lf= .none\/ ∃s ls,lf=oZ s ls:=by
 induction h with
 |none=>exact .inl rfl
 |para _=>exact .inr ⟨_,_,rfl⟩
 |quote _ _ _ g=>exact g
 |list _ _ _ _ _ _ _ _ g=>exact g
theorem Pd.topOf {xs:List IN}{junk:List Bk}{lf:Leaf}{pre:List Bk}{f:Bk}{y:List OB}{a6:List ai}(h:Pd G op xs junk lf)(V:f.np)(E:DC lf y a6):
 ∃g o t v,(pre++f::junk).map Bk.ob++y=g++ [o]/\o.bd= .iface t v/\(t=ar-> ∃q,v= kT q):=by
 rcases h.leaf with rfl|⟨s,ls,rfl⟩
 ·obtain⟨rfl,_⟩:=E
  obtain⟨g,o,t,v,W,O,I⟩:=h.last rfl pre f V
  exact⟨g,o,t,v,by rw[W];simp,O,λh0=>absurd h0 I⟩
 ·obtain⟨U,e,rfl,_⟩:=E
  exact⟨(pre++f::junk).map Bk.ob,j5 U s e,_,_,rfl,rfl,λ_=>⟨_,rfl⟩⟩
theorem Cj (m4:op.task=false){i4:OA->Nat->WP}{b b1 pb lb e6 v3 n:Nat}{num:Int}{it:OA}{xs e5:List IN}{gs junk:List Bk}{top f y:Bk}{lf:Leaf}{p:PS}{l l2:Ln}{x c d:UInt8}{r r2:List UInt8}(t5:Runs R i4 b b1)(h1:Pd G op e5 junk lf)(h:DocC σ b (l.at b1::L) (gs++top::f::y::junk) lf p w)(hd:p.depth=gs.length)(y3:gs.length<90000)(ht:top.box_)(w1:f.isList lb c.toNat num it)(i3:ItemOf it y lb e6 true)(s7:TDs G op y.D xs)(b8:l.has x r)(hc:xS x)(g4:l.isHR=false)(o0:qh l c v3 n l2)(h3:l2.has d r2)(s8:cO d=false)(d1: ∀k∈gs++top::f::y::junk,k.D.length<=90000)(v4:(txF (gs++top::f::y::junk)).length<=90000)(r3:p.pz=kE pb)(t2:op.at pb∈L)(t6:p.lineno<1000000000)(d0: ∀(X:OA->Nat->WP),(∀i8 k0 w,ak.bl102 R X i8 k0 w->X i8 k0 w)-> ∀w (p':PS) c8 U (O:IT) h8,p'.base=p.base->p'.lineno=p.lineno->p'.depth=p.depth+2->c8.isList lb c.toNat num h8->c8.ob.s=f.ob.s->c8.D=f.D++ [O.db]->O.ok->TDs G op O.D (xs++e5)->O.s=y.ob.s->O.e=y.ob.e->O.wd=e6->
  (ci O.D).length<=(txF (y::junk)).length+1->ItemOf h8 U lb n true->U.D= []->U.ob.s=p.lineno->U.ob.e=p.lineno->DocC σ b (l2.at b1::L) (gs++top::c8:: [U]) .none p' w->X (kE b) b1 w):ak.bl102 R i4 (kE b) b1 w:=by
 have o3:cO x=false:=hc.1
 have g6:=h3.blank s8
 have h5:=i3
 obtain⟨ib,x1,t4,y1⟩:=i3
 obtain⟨d3,t9⟩:=w1
 obtain⟨x7,x8,r9,x4,u1⟩:=ht
 obtain⟨M,b9,c4,b5,hs,s1,c9,m2,h⟩:=h
 obtain⟨z3,o,z1,z2,e8,h2,h7⟩:=h1.topOf (pre:=gs++ [top,f]) (f:=y) h5.box_.np m2
 have w5:gs++top::f::y::junk=(gs++ [top,f])++y::junk:=by simp
 have g1:((gs++top::f::y::junk).map Bk.ob++c4)[gs.length]? =some top.ob:=by rw[lM0 (by simp)];simp
 have d2:((gs++top::f::y::junk).map Bk.ob++c4)[gs.length+1]? =some f.ob:=by rw[lM0 (by simp)];simp
 have e7:((gs++top::f::y::junk).map Bk.ob++c4)[gs.length+2]? =some y.ob:=by rw[lM0 (by simp)];simp
 generalize g0:(gs++top::f::y::junk).map Bk.ob++c4=obs at hs g1 d2 e7
 rw[<-w5,g0] at e8
 have g3: ∀(k:Bk),k.IM=f.IM->k.D=f.D->aM (gs++top::k::y::junk)=aM (gs++ [top])++(f.IM++(k.own++(cZ f.D++txc f.D))++aM (y::junk)):=by
  intro k k1 k2
  have:gs++top::k::y::junk=(gs++ [top])++([k]++(y::junk)):=by simp
  rw[this,bh,bh [k],dA,k1,k2]
 have g2: ∀(p2:PS) (M:List ai) (j:Nat),j<2->Stk p2 obs M->p2.depth=((gs.length+j:Nat):Int)->Bt b p2 M l bZ:=by
  intro p2 M j v5 f0 h6 σ w L R j1 m1
  rw[e8] at f0
  rw[e8] at d2 e7
  match j,v5 with
  |0,_=>exact kZ (d:=gs.length) j1 f0 h6 (by omega) d2 d3 (by decide) h2 h7 b8.ok m1
  |1,_=>exact kZ (d:=gs.length+1) j1 f0 h6 (by omega) e7 t4 (by decide) h2 h7 b8.ok m1
 have h:Sat σ w (p.at b::M++(l.at b1::(b9++(aM (gs++top::f::y::junk)++(b5++L))))):=h.re
 refine jK (l2:=l) 4 (by decide) h (jJ (g2 p M 0 (by decide) hs (by rw[hd];rfl)) b8 hc g4) b8.ok (b8.blank o3) λw nb e f6 h I=>?_
 show callE P cm _ f6 w
 rw[g3 f rfl rfl,t9] at h
 have h:Sat σ w (p.at b::M++(cP lb c.toNat num false it .nilFunc::(l.at b1::(nb,cel newsC e)::(b9++(aM (gs++ [top])++(f.IM++(cZ f.D++txc f.D)++aM (y::junk))++(b5++L)))))):=h.re
 refine vo (d:=gs.length) h hs hd (by omega) g1 r9 u1 d2 d3 b8.ok o0 λw a6 a7 W V c5 h=>?_
 rw[g6,show (!false)=true from rfl] at h
 have h:Sat σ w (l.at b1::p.at b::(M++(cP lb c.toNat num false it (kQ a6 V W a7)::(fA b a6 a7 W V lb c5 n true l2++((nb,cel newsC e)::(b9++(aM (gs++ [top])++(f.IM++(cZ f.D++txc f.D)++aM (y::junk))++(b5++L)))))))):=by
  have h:Sat σ w (p.at b::M++(cP lb c.toNat num false it (kQ a6 V W a7)::(fA b a6 a7 W V lb c5 n true l2++(l.at b1::(nb,cel newsC e)::(b9++(aM (gs++ [top])++(f.IM++(cZ f.D++txc f.D)++aM (y::junk))++(b5++L))))))):=h
  exact h.re
 refine I w _ p (by omega) h λw h=>?_
 refine t5 w λX r4=>?_
 let b7:PS:= {p with depth:=p.depth+1}
 let E:Bk:=⟨f.ob,[cP lb c.toNat num false it (kQ a6 V W a7)],f.D,f.IM⟩
 have i1:Stk b7 obs M:=hs.of rfl rfl rfl
 have h:Sat σ w (b7.at b::M++(l.at b1::(fA b a6 a7 W V lb c5 n true l2++((nb,cel newsC e)::(b9++(aM (gs++top::E::y::junk)++(b5++L))))))):=by
  rw[g3 E rfl rfl,show E.own= [cP lb c.toNat num false it (kQ a6 V W a7)] from rfl]
  have h:Sat σ w (l.at b1::b7.at b::(M++(cP lb c.toNat num false it (kQ a6 V W a7)::(fA b a6 a7 W V lb c5 n true l2++((nb,cel newsC e)::(b9++(aM (gs++ [top])++(f.IM++(cZ f.D++txc f.D)++aM (y::junk))++(b5++L)))))))):=h
  exact h.re
 refine jK (l2:=l2) 4 (by decide) h (jJ (g2 b7 M 1 (by decide) i1 (by show p.depth+1=_;rw[hd];rfl)) b8 hc g4) h3.ok g6 λw f1 f4 v6 h t3=>?_
 show callE P cm _ v6 w
 have n3: ∀k∈(gs++ [top])++E::(y::junk),Bk.ok k:=by
  intro k I
  simp only[lD0,lP0,lW0,lF1,or_false,lR0,lT0] at I
  rcases I with I|rfl|rfl|rfl|I
  ·exact c9 _ (by simp[I])
  ·exact c9 _ (by simp)
  ·exact c9 f (by simp)
  ·exact c9 _ (by simp)
  ·exact c9 _ (by simp[I])
 have v0:gs++top::E::y::junk=(gs++ [top])++E::(y::junk):=by simp
 have h4:txF ((gs++ [top])++E::(y::junk))=txF (gs++top::f::y::junk):=by simp[txF,E]
 have s2:DocC σ b (fA b a6 a7 W V lb c5 n true l2++(l.at b1::(f1,cel newsC f4)::(nb,cel newsC e)::L)) ((gs++ [top])++E::(y::junk)) lf b7 w:=by
  refine⟨M,b9,c4,b5,?_,?_,n3,m2,?_⟩
  ·have:((gs++ [top])++E::(y::junk)).map Bk.ob++c4=obs:=by rw[<-g0];simp[E]
   rw[this];exact i1
  ·rw[h4];exact s1.of rfl rfl rfl
  ·rw[<-v0]
   exact h.re
 have h9: ∀k∈((gs++ [top])++ [E])++y::junk,k.D.length<=90000:=by
  intro k I
  simp only[lD0,lP0,lW0,lF1,or_false,lR0,lT0] at I
  rcases I with I|rfl|rfl|rfl|I
  ·exact d1 _ (by simp[I])
  ·exact d1 _ (by simp)
  ·exact d1 f (by simp)
  ·exact d1 _ (by simp)
  ·exact d1 _ (by simp[I])
 have s9:(txF (((gs++ [top])++ [E])++y::junk)).length<=90000:=by
  have:((gs++ [top])++ [E])++y::junk=(gs++ [top])++E::(y::junk):=by simp
  rw[this,h4];exact v4
 refine G4 (Post:=λz4 e9=>e9.ob.s=f.ob.s/\ ∃O:IT,e9.D=f.D++ [O.db]/\O.ok/\TDs G op O.D (xs++e5)/\O.s=y.ob.s/\O.e=y.ob.e/\O.wd=e6/\(ci O.D).length<=(txF (y::junk)).length+1) (l:=l) s2 ⟨d3,rfl⟩ (by show p.depth+1=_;rw[hd];simp) (by simp;omega) t6 (λe1 f6 w s3 h I=>?_) λw b6 f5 e9 b4 U m5 w3 j0 v9 o4 m3 o2 r5 n2 t0 r8 h=>?_
 ·have v7:(((gs++ [top]).length:Int)+1)=(((gs++ [top]).length+1:Nat):Int):=by omega
  rw[v7]
  refine wn h (by simp;omega) λX d0=>?_
  have h:DocC σ b e1 (((gs++ [top])++ [E])++y::junk) lf b7 w:=by simpa using h
  have r1:op.at pb∈e1:=s3 _ (lB0 _ (.tail _ (.tail _ (.tail _ t2))))
  refine h1.close m4 σ f6 e1 b pb b7 w X ((gs++ [top])++ [E]) y ((gs++ [top]).length+1) d0 r1 r3 (by simp) h9 s9 h λw f5 b3 y5 r7 r6 t8 f2 g7 s5 y2 h=>?_
  have h:DocC σ b e1 ((gs++ [top])++ [E,b3]) .none f5 w:=by simpa using h
  refine pv d0 h (by simp) ?_
  have w9:=h9 E (by simp)
  refine uI h (f2.itemOf h5).item (⟨d3,rfl⟩:E.isListT lb c.toNat num it (kQ a6 V W a7)) (by omega) λw c8 nb x s6 u4 x9 t7 m6 h=>⟨_,rfl,?_⟩
  refine wo d0 h (by simp) ?_
  refine I w {f5 with stn:=(gs++ [top]).length+1} c8 none ⟨u4,IT.mk nb b3.ob.s b3.ob.e b3.ob.q b3.ob.n b3.ob.c e6 b3.IM b3.D,t7,m6,?_,f2.2.1,f2.2.2.1,rfl,?_⟩ r7 t8 r6 s6 h
  ·show TDs G op b3.D (xs++e5)
   rw[g7];exact s7.append s5
  ·show (ci b3.D).length<=_
   have v8:txF (y::junk)=ci y.D++txF junk:=by simp[txF]
   rw[g7,di,v8];simp only[lA0];omega
 ·have u2:b6.depth=((gs.length+1:Nat):Int):=by rw[v9];show p.depth+1=_;rw[hd];omega
  have y4:b6.lineno=p.lineno:=j0
  obtain⟨i2,i0,w8,x6,s4,u0,q0,⟨rfl,rfl⟩,h⟩:=h
  have h:Sat σ w (l.at b1::b6.at b::(i2++(i0++(aM ((gs++ [top])++ [b4,U])++([]++((f1,cel newsC f4)::(nb,cel newsC e)::L)))))):=h.re
  refine t3 w _ b6 (by omega) h λw h=>?_
  obtain⟨w2,O,v2,u8,w4,w7,q6,q7,w6⟩:=m5
  refine d0 X r4 w {b6 with depth:=b6.depth+1} b4 U O (kE c5) w3 j0 (by show b6.depth+1=_;rw[u2,hd];omega) o4 (by rw[m3];exact w2) (by rw[o2];exact v2) u8 w4 w7 q6 q7 w6 r5 n2 t0 r8 ⟨i2,i0,[],[],?_,?_,?_,⟨rfl,rfl⟩,?_⟩
  ·have:(gs++top::b4:: [U]).map Bk.ob++ []=((gs++ [top])++ [b4,U]).map Bk.ob++ []:=by simp
   rw[this];exact s4.of rfl rfl rfl
  ·have:txF (gs++top::b4:: [U])=txF ((gs++ [top])++ [b4,U]):=by simp[txF]
   rw[this];exact u0.of rfl rfl rfl
  ·intro k I
   exact q0 k (by simpa using I)
  ·have:aM (gs++top::b4:: [U])=aM ((gs++ [top])++ [b4,U]):=by simp[aM]
   rw[this]
   exact h.less [(f1,cel newsC f4),(nb,cel newsC e)]

theorem wu (c9:op.task=false){b b1 pb a6 num n:Nat}{num0:Int}{b5:OA}{xs:List IN}{gs V:List Bk}{top U:Bk}{p:PS}{l t:Ln}{c c0:UInt8}(g5:Pd G op xs (U::V) .none)(c2:U.isList a6 c0.toNat num0 b5)(e6:c0≠c)(h:DocC σ b (l.at b1::L) (gs++top::U::V) .none p w)(hd:p.depth=gs.length)(h3:gs.length<90000)(f6: ∀g∈gs++top::U::V,g.D.length<=90000)(f5:(txF (gs++top::U::V)).length<=90000)(e0:p.pz=kE pb)(e8:op.at pb∈L)(e3:p.lineno<1000000000)(h5:l.ok)(hb:qh l c num n t)(g0: ∀w (p':PS) y b4 f lb I O E W ib,p'.base=p.base->p'.lineno=p.lineno->p'.depth=p.depth->y.like top->y.D=top.D++b4->TDs G op b4 xs->(ci b4).length<=(txF (U::V)).length+1->f.ob=⟨Cv lb,none,0,0,p.lineno,p.lineno⟩->f.own= [cP lb c.toNat (num:Nat) false none (kQ I W E O)]->f.D= []->f.IM= []->
  DocC σ b (l.at b1::(fA b I O E W lb ib n (!t.blank) t++L)) (gs++ [y,f]) .none p' w->R (hQ (hV true)) w):
 callE P bN #[kT (kE b),kT (kE b1)] R w:=by
 obtain⟨M,c5,h2,h6,hs,e5,d3,⟨rfl,rfl⟩,h⟩:=h
 rw[lG0] at hs
 have e4:cP a6 c0.toNat num0 false b5 .nilFunc∈aM (gs++top::U::V):=by
  unfold aM
  refine lS2.2 ⟨U,by simp,?_⟩
  unfold Bk.mem
  rw[c2.2];simp
 generalize c1:c5++(aM (gs++top::U::V)++L)=K
 have e2:cP a6 c0.toNat num0 false b5 .nilFunc∈K:=by rw[<-c1];simp[e4]
 have h:Sat σ w (l.at b1::(p.at b::M++K)):=by rw[<-c1];exact h.re
 have ht:=hb.ok
 refine hb.run h λw O I a7 t' h=>?_
 refine Sat.bx h λE w h=>?_
 refine⟨_,Sat.ld h (.tail _ (.tail _ (.head _))) (i:=0) rfl,?_⟩
 have h:Sat σ w (p.at b::M++((E,cel [kT none] az)::(I,cel [kT (kE b)] ah)::t.at O::t'.at a7::l.at b1::K)):=h.re
 refine ml (d:=gs.length) h hs hd (by omega) λw h=>⟨_,rfl,?_⟩
 rw[show ((gs++top::U::V).map Bk.ob)[gs.length+1]? =some U.ob by simp]
 dsimp only
 refine⟨kE a6,true,w,by rw[c2.1];exact kX _ w,ag rfl ?_⟩
 have h:Sat σ w ((E,cel [kT none] az)::(I,cel [kT (kE b)] ah)::t.at O::(p.at b::M++(t'.at a7::l.at b1::K))):=h.re
 refine h.stA 0 λw h=>?_
 have h:Sat σ w (g8 E a6::(I,cel [kT (kE b)] ah)::t.at O::(p.at b::M++(t'.at a7::l.at b1::K))):=h
 refine⟨_,Sat.ld h (.head _) (i:=0) rfl,_,_,kx mU _ w,af rfl ?_⟩
 refine⟨_,Sat.ld h (.head _) (i:=0) rfl,aa ?_⟩
 refine⟨_,Sat.ld h (by simp[e2]:cP a6 c0.toNat num0 false b5 .nilFunc∈_) (i:=0) rfl,?_⟩
 rw[zW]
 have d0:(((c0.toNat:Nat):Int) !=((c.toNat:Nat):Int))=true:=by
  rw[bne_iff_ne]
  intro h0
  exact e6 (UInt8.toNat_inj.1 (by omega))
 refine ag d0 ?_
 refine⟨_,Sat.ld h (.head _) (i:=0) rfl,_,_,kx mU _ w,af rfl (af rfl ?_)⟩
 refine Sat.bx h λlb w h=>?_
 have h:Sat σ w (g8 E a6::(lb,cel [.int .i32 (IntKind.i32.wrap (c.toNat:Nat)),hY (num:Nat),hV false,kT none,.nilFunc] f7)::(I,cel [kT (kE b)] ah)::t.at O::(p.at b::M++(t'.at a7::l.at b1::K))):=h.re
 refine h.stA 0 λw h=>?_
 rw[zW] at h
 have h:Sat σ w (g8 E lb::cP lb c.toNat (num:Nat) false none .nilFunc::(I,cel [kT (kE b)] ah)::t.at O::(p.at b::M++(t'.at a7::l.at b1::K))):=h
 refine⟨_,Sat.ld h (.tail _ (.tail _ (.head _))) (i:=0) rfl,_,Sat.ld h (.head _) (i:=0) rfl,?_⟩
 have d2:DocC σ b (cP lb c.toNat (num:Nat) false none .nilFunc::(g8 E lb::(I,cel [kT (kE b)] ah)::t.at O::l.at b1::L)) (gs++top::U::V) .none p w:=by
  refine⟨M,c5,[],[],by rw[lG0];exact hs,e5,d3,⟨rfl,rfl⟩,?_⟩
  rw[<-c1] at h
  exact h.less [t'.at a7]
 refine p9 (pb:=pb) (g5.close c9) (.tail _ (.tail _ (.tail _ (.tail _ e8)))) e0 f6 f5 d2 hd (by omega) e3 λw p' y b4 f g6 g3 e9 k1 k2 k3 k4 c3 g4 c4 g1 h=>⟨rfl,?_⟩
 obtain⟨b7,b6,g7,h4,e1,d1,b9,⟨rfl,rfl⟩,h⟩:=h
 have c8: ∀(k:Bk),k.IM= []->k.D= []->aM (gs++ [y,k])=aM (gs++ [y])++k.own:=by
  intro k k1 k2
  rw[show gs++ [y,k]=(gs++ [y])++ [k] by simp,bh,dA,k1,k2];simp[cZ,txc,ci]
 have e7:f.own= [cP lb c.toNat (num:Nat) false none .nilFunc]:=g4
 rw[c8 f g1 c4,e7] at h
 have h:Sat σ w (cP lb c.toNat (num:Nat) false none .nilFunc::t.at O::g8 E lb::(p'.at b::b7++(b6++(aM (gs++ [y])++((I,cel [kT (kE b)] ah)::l.at b1::L))))):=h.re
 refine qu h ht λw W ib h=>?_
 let b3:Bk:=⟨f.ob,[cP lb c.toNat (num:Nat) false none (kQ I W E O)],[],[]⟩
 refine g0 w p' y b4 b3 lb I O E W ib g6 g3 e9 k1 k2 k3 k4 c3 rfl rfl rfl ⟨b7,b6,[],[],?_,?_,?_,⟨rfl,rfl⟩,?_⟩
 ·have:(gs++ [y,b3]).map Bk.ob++ []=(gs++ [y,f]).map Bk.ob++ []:=by simp[b3]
  rw[this];exact e1
 ·have:txF (gs++ [y,b3])=txF (gs++ [y,f]):=by simp[txF,b3,c4]
  rw[this];exact d1
 ·intro k b8
  simp only[lP0,lW0,lF1,or_false] at b8
  rcases b8 with b8|rfl|rfl
  ·exact b9 k (by simp[b8])
  ·exact b9 _ (by simp)
  ·have g2:=b9 f (by simp)
   refine⟨?_,by show 0<100000;decide,g2.2.2⟩
   show Sl 1 aO f.ob.q f.ob.n f.ob.c [] []
   rw[c3];exact Sl.nil 1 aO
 ·rw[c8 b3 rfl rfl]
  show Sat σ w (p'.at b::b7++(b6++((aM (gs++ [y])++ [cP lb c.toNat (num:Nat) false none (kQ I W E O)])++([]++(l.at b1::(fA b I O E W lb ib n (!t.blank) t++L))))))
  have h:Sat σ w (cP lb c.toNat (num:Nat) false none (kQ I W E O)::t.at O::g8 E lb::jz W ib::gt ib lb n (!t.blank)::(p'.at b::b7++(b6++(aM (gs++ [y])++((I,cel [kT (kE b)] ah)::l.at b1::L))))):=h
  unfold fA
  exact h.re
theorem AG (i2:op.task=false){h5:OA->Nat->WP}{b b1 pb num n:Nat}{xs:List IN}{gs junk:List Bk}{top:Bk}{p:PS}{l l2:Ln}{x c d:UInt8}{r r2:List UInt8}(g5:Runs R h5 b b1)(e0:Pd G op xs junk .none)(s5:junk= []\/ ∃U b4 g0 c0 num0 f6,junk=U::b4/\U.isList g0 (UInt8.toNat c0) num0 f6/\c0≠c)(h:DocC σ b (l.at b1::L) (gs++top::junk) .none p w)(hd:p.depth=gs.length)(q8:gs.length<90000)(ht:top.box_)(W:l.has x r)(hc:xS x)(e3:l.isHR=false)(e9:qh l c num n l2)(e5:l2.has d r2)(g4:cO d=false)(r9: ∀E∈gs++top::junk,E.D.length<=90000)(s3:(txF (gs++top::junk)).length<=90000)(m4:p.pz=kE pb)(q4:op.at pb∈L)(g7:p.lineno<1000000000)(d1: ∀(X:OA->Nat->WP),(∀h7 h9 w,ak.bl102 R X h7 h9 w->X h7 h9 w)-> ∀w (p':PS) y c4 f E lb it,p'.base=p.base->p'.lineno=p.lineno->p'.depth=p.depth+2->y.like top->y.D=top.D++c4->TDs G op c4 xs->(ci c4).length<=(txF junk).length+1->
  f.isList lb c.toNat (num:Nat) it->f.D= []->ItemOf it E lb n true->E.D= []->f.ob.s=p.lineno->E.ob.s=p.lineno->E.ob.e=p.lineno->DocC σ b (l2.at b1::L) (gs++y::f:: [E]) .none p' w->X (kE b) b1 w):
 ak.bl102 R h5 (kE b) b1 w:=by
 obtain⟨s1,s8,t1,h8,i0⟩:=ht
 rcases s5 with rfl|⟨U,b4,g0,c0,num0,f6,rfl,o3,o4⟩
 ·have o2:xs= []:=by cases e0;rfl
  subst o2
  refine B8 g5 h hd (by omega) t1 h8 i0 W hc e3 e9 e5 g4 g7 λX e4 w p' f E lb it a1 a2 a3 a4 a5 r6 r7 a8 a9 a10 h=>?_
  refine d1 X e4 w p' top [] f E lb it a1 a2 a3 (.refl top) (by simp) .nil (by simp[ci]) a4 a5 r6 r7 a8 a9 a10 ?_
  simpa using h
 ·have j1:cO x=false:=hc.1
  have g1:=e5.blank g4
  have h0:=h
  obtain⟨M,d3,u0,v3,hs,n1,n3,⟨rfl,rfl⟩,h⟩:=h
  rw[lG0] at hs
  have h:Sat σ w (p.at b::M++(l.at b1::(d3++(aM (gs++top::U::b4)++L)))):=h.re
  have g3:top.np:=⟨s1,s8,t1,h8⟩
  refine jK (l2:=l) 4 (by decide) h (jJ (nY hs hd (by omega) g3 e0.next (e0.last rfl gs top g3) W.ok) W hc e3) W.ok (W.blank j1) λw nb e h3 h c8=>?_
  show callE P cm _ h3 w
  refine cQ.sound ?_
  refine Sat.bx h λb2 w h=>?_
  refine Sat.bx h λc5 w h=>?_
  have h:Sat σ w (p.at b::M++(zLn c5::l.at b2::(l.at b1::(nb,cel newsC e)::(d3++(aM (gs++top::U::b4)++L))))):=by
   have h:Sat σ w (zLn c5::l.at b2::(p.at b::M++(l.at b1::(nb,cel newsC e)::(d3++(aM (gs++top::U::b4)++L))))):=h
   exact h.re
  refine qO h hs hd λw h=>?_
  rw[show ((gs++top::U::b4).map Bk.ob)[gs.length]? =some top.ob by simp]
  dsimp only
  refine⟨_,rfl,none,false,w,by rw[t1];exact gR i0 w,af rfl (af rfl ?_)⟩
  have j0:DocC σ b (l.at b2::(zLn c5::l.at b1::(nb,cel newsC e)::L)) (gs++top::U::b4) .none p w:=⟨M,d3,[],[],by rw[lG0];exact hs,n1,n3,⟨rfl,rfl⟩,h.re⟩
  refine wu (pb:=pb) i2 e0 o3 o4 j0 hd q8 r9 s3 m4 (.tail _ (.tail _ (.tail _ q4))) g7 W.ok e9 λw p' y c4 f lb c9 d0 b9 b7 ib t6 h4 r8 k1 k2 k3 k4 d2 h6 r5 v2 h=>⟨_,rfl,ag rfl ?_⟩
  rw[g1,show (!false)=true from rfl] at h
  have v4:=h
  obtain⟨b5,b8,t9,u4,g2,l5,m1,⟨rfl,rfl⟩,h⟩:=h
  have h:Sat σ w (zLn c5::l.at b2::(l.at b1::p'.at b::(b5++(b8++(aM (gs++ [y,f])++(fA b c9 d0 b9 b7 lb ib n true l2++((nb,cel newsC e)::L))))))):=h.re
  repeat (first|refine aa ?_|refine h.tk λw h=>?_|refine⟨_,h.ldA,?_⟩|refine⟨_,_,_,h.ldA,?_⟩|refine h.stA 0 λw h=>?_|refine h.stA 1 λw h=>?_|refine h.stA 2 λw h=>?_|refine h.stA 3 λw h=>?_|refine h.stA 4 λw h=>?_|refine h.stA 5 λw h=>?_|refine h.stA 6 λw h=>?_|refine h.bx λb0 w h=>?_)
  have h:Sat σ _ (l.at c5::l.at b2::(l.at b1::p'.at b::(b5++(b8++(aM (gs++ [y,f])++(fA b c9 d0 b9 b7 lb ib n true l2++((nb,cel newsC e)::L))))))):=h
  refine c8 _ _ p' (by omega) h.tail.tail λw h=>?_
  refine g5 w λX e4=>?_
  let V:PS:= {p' with depth:=p'.depth+1}
  rw[lG0] at g2
  have h1:Stk V ((gs++ [y,f]).map Bk.ob) b5:=g2.of rfl rfl rfl
  have m2:Stk V ((gs++ [y]).map Bk.ob++ [f.ob]) b5:=by simpa using h1
  have e7:V.depth=(gs++ [y]).length:=by show p'.depth+1=_;rw[r8,hd];simp
  have h:Sat σ w (V.at b::b5++(l.at b1::(b8++(aM (gs++ [y,f])++(fA b c9 d0 b9 b7 lb ib n true l2++((nb,cel newsC e)::L)))))):=by
   have h:Sat σ w (l.at b1::V.at b::(b5++(b8++(aM (gs++ [y,f])++(fA b c9 d0 b9 b7 lb ib n true l2++((nb,cel newsC e)::L)))))):=h
   exact h.re
  refine jK (l2:=l2) 4 (by decide) h (jJ (λσ w L R s4 s7=>kY s4 m2 e7 (by simp) (by rw[d2];rfl) (by decide) W.ok s7) W hc e3) e5.ok g1 λw e6 e8 t0 h q5=>?_
  show callE P cm _ t0 w
  have n2:DocC σ b (fA b c9 d0 b9 b7 lb ib n true l2++(l.at b1::(e6,cel newsC e8)::(nb,cel newsC e)::L)) ((gs++ [y])++f:: []) .none V w:=by
   have s9:(gs++ [y])++f:: []=gs++ [y,f]:=by simp
   rw[s9]
   exact⟨b5,b8,[],[],by rw[lG0];exact h1,l5.of rfl rfl rfl,m1,⟨rfl,rfl⟩,h.re⟩
  refine G4 (Post:=λv5 e1=>e1.ob=f.ob/\e1.D= []) (l:=l) n2 ⟨by rw[d2],h6⟩ e7 (by simp;omega) (by show p'.lineno<_;omega) (λv0 h3 w u2 h c8=>?_) λw b6 u8 e1 I O i3 t7 s2 t5 k0 i1 i8 m5 i4 q0 n0 h=>?_
  ·have t4:(((gs++ [y]).length:Int)+1)=(((gs++ [y]).length+1:Nat):Int):=by omega
   rw[t4]
   refine wn h (by simp) λX d1=>?_
   refine wo d1 h (by simp) ?_
   exact c8 w V f none ⟨rfl,r5⟩ rfl rfl rfl ⟨by rw[d2],h6⟩ (by simpa using h)
  ·obtain⟨h2,g6,t8,u1,o0,r3,m3,⟨rfl,rfl⟩,h⟩:=h
   have h:Sat σ w (l.at b1::b6.at b::(h2++(g6++(aM ((gs++ [y])++ [I,O])++([]++((e6,cel newsC e8)::(nb,cel newsC e)::L)))))):=h.re
   have r4:b6.depth=((gs.length+1:Nat):Int):=by rw[t5,e7];simp
   refine q5 w _ b6 (by omega) h λw h=>?_
   obtain⟨s6,m6⟩:=i3
   have f5:V.lineno=p.lineno:=h4
   refine d1 X e4 w {b6 with depth:=b6.depth+1} y c4 I O lb (kE ib) (t7.trans t6) (s2.trans h4) (by show b6.depth+1=_;rw[r4,hd];omega) k1 k2 k3 k4 k0 (by rw[i8];exact m6) m5 i4 (by rw[i1,s6,d2]) (by rw[q0];exact f5) (by rw[n0];exact f5) ⟨h2,g6,[],[],?_,?_,?_,⟨rfl,rfl⟩,?_⟩
   ·have:(gs++y::I:: [O]).map Bk.ob++ []=((gs++ [y])++ [I,O]).map Bk.ob++ []:=by simp
    rw[this];exact o0.of rfl rfl rfl
   ·have:txF (gs++y::I:: [O])=txF ((gs++ [y])++ [I,O]):=by simp[txF]
    rw[this];exact r3.of rfl rfl rfl
   ·intro k c8
    exact m3 k (by simpa using c8)
   ·have:aM (gs++y::I:: [O])=aM ((gs++ [y])++ [I,O]):=by simp[aM]
    rw[this]
    exact h.less [(e6,cel newsC e8),(nb,cel newsC e)]

theorem contS {b b1 pb s:Nat}{d3:OA->Nat->WP}{gs:List Bk}{top:Bk}{p:PS}{ls:List (List UInt8)}{l:Ln}(h:DocC σ b (l.at b1::L) (gs++ [top]) (oZ s ls) p w)(hd:p.depth=gs.length)(e5:gs.length<900000)(ht:top.box_)(a6:l.cont)(e4:ls.length<1048569)(b5:p.pz=kE pb)(c3:op.at pb∈L)(b6:op.table=false)(b3:p.lineno<1000000000)(c9: ∀w,DocC σ b L (gs++ [top.setE p.lineno]) (oZ s (ls++ [l.rest])) p w->R (hQ (.tuple #[])) w):ak.bl102 R d3 (kE b) b1 w:=by
 obtain⟨M,y,e3,W,hs,b9,U,⟨g,e,rfl,e2,b8,e7,e6⟩,h⟩:=h
 obtain⟨td,vd,t1,e8,d0⟩:=ht
 have h:Sat σ w (p.at b::M++(l.at b1::(y++(aM (gs++ [top])++(W++L))))):=h.re
 have a7:((gs++ [top]).map Bk.ob)[gs.length]? =some top.ob:=by simp
 refine uK h (A3 (fs:=(gs++ [top]).map Bk.ob) hs rfl hd (by omega) (by simp) a7 t1 d0 (λo1 O=>?_) a6) λw nb E e9 h b4=>?_
 ·rw[lT1 (by simp)] at O;cases O
 have h:Sat σ w (p.at b::M++(W++(l.at b1::(nb,cel newsC E)::(y++(aM (gs++ [top])++L))))):=h.re
 have d1:op.at pb∈l.at b1::(nb,cel newsC E)::(y++(aM (gs++ [top])++L)):=by simp[c3]
 refine vm (d:=gs.length) h hs rfl hd (by simp) b5 d1 b6 e2 (by omega) a6.plain.ok λw d2 c2 V b7 h=>b4 w true ?_
 have I:Sims (gs++ [top]) (gs++ [top.setE p.lineno]):=Sims.append (Sims.refl λf e0=>(U f (by simp[e0])).2.2.2) (.cons (top.setE_sim b3) .nil)
 have c1:((gs++ [top]).map Bk.ob++ [j5 g s e]).take gs.length++(((gs++ [top]).map Bk.ob++ [j5 g s e]).drop gs.length).map (·.setE p.lineno)=(gs++ [top.setE p.lineno]).map Bk.ob++ [j5 g s p.lineno]:=by
  have c5:(gs++ [top]).map Bk.ob++ [j5 g s e]=gs.map Bk.ob++ [top.ob,j5 g s e]:=by simp
  rw[c5,lR3 (by simp),lX2 (by simp),lC2 (by simp),lF6 (by simp)]
  simp[Bk.setE,OB.setE,j5]
 rw[c1] at V
 obtain⟨c4,c8⟩:=I.mem
 refine c9 w ⟨d2,y,_,c2,V,by rw[c8];exact b9,I.ok U,⟨g,p.lineno,rfl,b7,b8,by simp,by simp;omega⟩,?_⟩
 rw[c4]
 exact h.less [l.at b1,(nb,cel newsC E)]

theorem Sl.pop {e:TypeId}{q:Option Addr}{n c:Nat}{vs:List Value}{v:Value}{M:List ai}(h:Sl 1 e q (n+1) c (vs++ [v]) M):Sl 1 e q n c vs M:=by
 obtain⟨y,E,⟨_,g,_⟩|⟨b,sp,rfl,rfl,g⟩⟩:=h
 ·omega
 ·refine⟨by simp at y;omega,by omega,.inr ⟨b,v::sp,rfl,by simp,by simpa using g⟩⟩
def Bm (c:UInt8):Nat:=if c=61 then 1 else 2
def rv (hb t s e s' e' lv:Nat)(raw:List UInt8):DB:=⟨.iface gv (kT (kE hb)),[o9 hb s e lv t []],[⟨t,s',e',raw⟩]⟩

theorem yj {b nb n:Nat}{c:UInt8}{v:Int}{e:TypeId}{l:Ln}(hc:c=61\/c=45)(b4:1<=n)(y:LnR l (hN n c))(h:Sat σ w (l.at b::(nb,cel [hY v] e)::L))(I: ∀w,Sat σ w (l.at b::(nb,cel [hY (Bm c:Int)] e)::L)->R (hQ (hV true)) w):callE P fy #[kT (kE b),kT (kE nb)] R w:=by
 have a6:cO c=false:=by rcases hc with rfl|rfl<;>decide
 obtain⟨m,rfl⟩: ∃m,n=m+1:=⟨n - 1,by omega⟩
 have O:l.has c (hN m c):=LnR.has (by rw[<-lA2];exact y)
 refine cR.sound ?_
 repeat (first|refine aa ?_|refine h.tk λw h=>?_|refine⟨_,h.ldA,?_⟩|refine⟨_,_,_,h.ldA,?_⟩|refine h.stA 0 λw h=>?_|refine h.stA 1 λw h=>?_|refine h.stA 2 λw h=>?_|refine h.stA 3 λw h=>?_|refine h.stA 4 λw h=>?_|refine h.stA 5 λw h=>?_|refine h.stA 6 λw h=>?_|refine h.bx λb0 w h=>?_)
 have h:Sat σ _ (l.at b0::l.at b::(nb,cel [hY v] e)::L):=h
 refine lead_ok (max:=3) h y.ok (by decide) λw h=>⟨_,rfl,?_⟩
 rw[O.lead a6 2] at h
 refine mi h (.head _) y.ok λw h=>⟨_,rfl,?_⟩
 rw[O.peek,u8b _ 45 45 rfl,u8b _ 61 61 rfl]
 refine ag (by rcases hc with rfl|rfl<;>decide) ?_
 intro X E
 have U: ∀k (l2:Ln) w,LnR l2 (hN k c)->Sat σ w (l2.at b0::l.at b::(nb,cel [hY v] e)::L)->X (kE nb) b0 (c.toNat:Int) w:=by
  intro k
  induction k with
  |zero=>
   intro l2 w g h
   have g:LnR l2 []:=g
   have V:=g.lenNil
   refine E _ _ _ _ ?_
   refine trimC_ok (c:=c) rfl h g.ok ?_
   have ht:l2.trimC c=none:=by
    have a7:l2.text[l2.i]? =none:=lT1 V
    unfold Ln.trimC
    rw[if_neg (by rw[g.sp];omega),if_neg (by rw[a7];simp)]
   rw[ht]
   intro w h
   refine⟨_,rfl,af rfl ?_⟩
   refine rh h g.ok λw h=>⟨rfl,?_⟩
   refine Fu h (.head _) λw h=>⟨_,rfl,?_⟩
   have W:decide (l2.skip.text.length<=l2.skip.i)=true:=by
    have hd:=g.tx
    simp[Ln.skip,hd]
   rw[W]
   refine ag rfl ?_
   rw[u8b _ 61 61 rfl]
   have h:Sat σ w ((nb,cel [hY v] e)::l2.skip.at b0::l.at b::L):=h.re
   rcases hc with rfl|rfl
   ·refine ag rfl (aa ?_)
    refine h.stA 0 λw h=>?_
    have h:Sat σ w ((nb,cel [hY ((Bm 61:Nat):Int)] e)::l2.skip.at b0::l.at b::L):=h
    exact I w (h.less [l2.skip.at b0])
   ·refine af rfl (aa ?_)
    refine h.stA 0 λw h=>?_
    have h:Sat σ w ((nb,cel [hY ((Bm 45:Nat):Int)] e)::l2.skip.at b0::l.at b::L):=h
    exact I w (h.less [l2.skip.at b0])
  |succ k b3=>
   intro l2 w g h
   have g:LnR l2 (c::hN k c):=by rw[<-lA2];exact g
   refine E _ _ _ _ ?_
   refine trimC_ok (c:=c) rfl h g.ok ?_
   rw[g.has.trimC,if_pos rfl]
   intro w h
   refine⟨_,rfl,ag rfl ?_⟩
   exact b3 _ w (LnR.skip (a:= [c]) g) h
 exact U (m+1) l w y h
theorem BR {nb t s e s' e' lv:Nat}{raw:List UInt8}(hs:s<1000000000)(O:e<2000000000)(y:mf (G raw))(U:jL none [] op raw (G raw)):TD G op (rv nb t s e s' e' lv raw) (.mk {kind:=5,num:=(lv:Nat),s:=s,e:=e} (eC (G raw))):=by
 have ht:(rv nb t s e s' e' lv raw).tree G (.mk {kind:=5,num:=(lv:Nat),s:=s,e:=e} (eC (G raw))):=by
  intro ts ht
  cases ht with
  |cons g I E=>
   cases E
   rw[<-I] at y⊢
   exact⟨_,pQ (nb:=nb) (t:=t) (s:=s) (e:=e) (s':=s') (e':=e') (lv:=lv) (raw:=raw) (id:= []) g.1 (eS y g.2.2) g.2.1 (by decide),λa=>by simp[rv,fX,xB]⟩
 refine⟨ht,?_,.inr ⟨_,_,rfl,by decide⟩,⟨j9 nj rfl (.head _),?_,hs,O⟩,λx V=>?_⟩
 ·rw[eh (d:=rv nb t s e s' e' lv raw) rfl (by decide)]
  exact ht
 ·show ((s:Int).toNat,(e:Int).toNat)=(s,e)
  simp
 ·obtain rfl:=lN0.1 V
  exact U

theorem F0 (g3:op.task=false){l5:OA->Nat->WP}{b b1 pb s n:Nat}{c:UInt8}{gs:List Bk}{top:Bk}{p:PS}{ls:List (List UInt8)}{l:Ln}(h:DocC σ b (l.at b1::L) (gs++ [top]) (oZ s ls) p w)(hd:p.depth=gs.length)(o0:gs.length<90000)(hc:c=61\/c=45)(g1:1<=n)(c5:LnR l (hN n c))(m5:xR G op ls)(g0: ∀g∈gs++ [top],g.D.length<=90000)(m2:(txF (gs++ [top])).length<=90000)(h1:p.pz=kE pb)(i2:op.at pb∈L)(n3:p.lineno<1000000000)(b7: ∀w (p':PS) a6 hb t,p'.base=p.base->p'.lineno=p.lineno->a6.like top->a6.D=top.D++ [rv hb t s p.lineno s (s+ls.length - 1) (Bm c) (bG [10] ls)]->s<1000000000->DocC σ b L (gs++ [a6]) .none p' w->R (hQ (.tuple #[])) w):
 ak.bl102 R l5 (kE b) b1 w:=by
 have f5:cO c=false:=by rcases hc with rfl|rfl<;>decide
 have c8:l.has c (hN (n - 1) c):=LnR.has (by rw[<-lA2,Nat.sub_add_cancel g1];exact c5)
 have m3:l.quote=none:=by unfold Ln.quote;rw[c8.lead f5 2,c8.trimC,if_neg (by rcases hc with rfl|rfl<;>decide)];rfl
 have i1:l.heading=none:=by unfold Ln.heading;rw[c8.lead f5 2,c8.trimC,if_neg (by rcases hc with rfl|rfl<;>decide)]
 have h0:=h
 obtain⟨M,U,g7,a7,hs,e0,c1,⟨b4,e,rfl,i0⟩,h⟩:=h
 have h:Sat σ w (p.at b::M++(l.at b1::(U++(aM (gs++ [top])++(a7++L))))):=h.re
 refine oA 2 (by decide) h ?_ λw b9 c4 i8 h E=>?_
 ·intro j o3 m1 σ w L R h b7
  match j,m1 with
  |0,_=>exact iI (x:= .nilIface) h c5.ok m3 b7
  |1,_=>exact lS h c5.ok i1 b7
 show callE P bZ _ i8 w
 refine bL.sound ?_
 refine Sat.bx h λb2 w h=>?_
 refine Sat.bx h λO w h=>?_
 refine Sat.bx h λW w h=>?_
 repeat (first|refine aa ?_|refine h.tk λw h=>?_|refine⟨_,h.ldA,?_⟩|refine⟨_,_,_,h.ldA,?_⟩|refine h.stA 0 λw h=>?_|refine h.stA 1 λw h=>?_|refine h.stA 2 λw h=>?_|refine h.stA 3 λw h=>?_|refine h.stA 4 λw h=>?_|refine h.stA 5 λw h=>?_|refine h.stA 6 λw h=>?_|refine h.bx λb0 w h=>?_)
 have h:Sat σ _ (l.at b0::(W,cel [hY 0] ba)::zLn O::l.at b2::(p.at b::M++(l.at b1::(b9,cel newsC c4)::(U++(aM (gs++ [top])++(a7++L)))))):=h
 have h:Sat σ _ (p.at b::M++(l.at b0::(W,cel [hY 0] ba)::zLn O::l.at b2::(l.at b1::(b9,cel newsC c4)::(U++(aM (gs++ [top])++(a7++L)))))):=h.re
 refine ml (d:=gs.length) h hs hd (by omega) λw h=>?_
 rw[show ((gs++ [top]).map Bk.ob++ [j5 b4 s e])[gs.length+1]? =some (j5 b4 s e) by simp]
 refine⟨_,rfl,?_⟩
 refine q9 (l:=(gs++ [top]).map Bk.ob) h hs (o:=j5 b4 s e) rfl (λw h=>?_) (λ_=>⟨_,rfl⟩)
 rw[if_pos rfl]
 refine⟨_,rfl,_,w,rA b4 _ _ w,ag rfl ?_⟩
 have h:Sat σ _ (l.at b0::(W,cel [hY 0] ba)::(p.at b::M++(zLn O::l.at b2::(l.at b1::(b9,cel newsC c4)::(U++(aM (gs++ [top])++(a7++L))))))):=h.re
 refine yj hc g1 c5 h λw h=>⟨_,rfl,ag rfl ?_⟩
 generalize Bm c=lv at h b7
 have d0:DocC σ b ((W,cel [hY lv] ba)::zLn O::l.at b1::L) (gs++ [top]) (oZ s ls) p w:=⟨M,U,_,a7,hs,e0,c1,⟨b4,e,rfl,i0⟩,h.less [l.at b0,l.at b2,(b9,cel newsC c4)]⟩
 have h2:=g0 top (by simp)
 refine uH d0 m5.fin (by omega) (by omega) λw V y nb t x f3 h8 f6 c2 d3 h9 n1 h=>⟨_,rfl,?_⟩
 obtain⟨M,U,g7,a7,hs,e0,c1,⟨rfl,rfl⟩,h⟩:=h
 have f1:=c1 y (by simp)
 have b6:=f1.1
 rw[d3,lV0] at b6
 have e5:y.ob.n=top.D.length+1:=by have:=b6.1;simp at this;omega
 rw[lG0,lV0] at hs
 have hs:Stk V (gs.map Bk.ob++ [y.ob]) M:=hs
 have c9:=hs.2.1
 rw[lA0,lS0,lE0] at c9
 have e2:(gs.map Bk.ob).length=gs.length:=by simp
 obtain⟨sb,sp,d1,rfl,i4⟩:=hs.split (by simp)
 obtain⟨ib,f2,e4,e3⟩:=b6.rowAt (by omega)
 have e3:y.IM= [(ib,cel (top.D.map DB.v++ [(kz nb t s (s+ls.length - 1) (bG [10] ls)).v]++f2) aO)]:=e3
 have f0:i64.wrap (((gs.length+1:Nat):Int) - 1)=((gs.length:Nat):Int):=by rw[i64_in _ (by omega)];omega
 have e9:i64.wrap (((top.D.length+1:Nat):Int) - 1)=((top.D.length:Nat):Int):=by rw[i64_in _ (by omega)];omega
 rw[bh,dA,d3,lR,nX] at h
 have h:Sat σ w (V.at b::(sb,cel (aP (gs.map Bk.ob++ [y.ob])++sp) ay)::(y.IM++(lE nb s (s+ls.length - 1) t::(W,cel [hY lv] ba)::zLn O::l.at b1::(U++(aM gs++(y.own++(cZ top.D++(txc top.D++(fC t s (s+ls.length - 1) none 0 0 (bG [10] ls)::L))))))))):=by
  have h:Sat σ w (V.at b:: [(sb,cel (aP (gs.map Bk.ob++ [y.ob])++sp) ay)]++(U++((aM gs++(y.IM++(y.own++((cZ top.D++ [lE nb s (s+ls.length - 1) t])++(txc top.D++ [fC t s (s+ls.length - 1) none 0 0 (bG [10] ls)])))))++([]++((W,cel [hY lv] ba)::zLn O::l.at b1::L))))):=h
  exact h.re
 generalize e7:(lE nb s (s+ls.length - 1) t::(W,cel [hY lv] ba)::zLn O::l.at b1::(U++(aM gs++(y.own++(cZ top.D++(txc top.D++(fC t s (s+ls.length - 1) none 0 0 (bG [10] ls)::L)))))))=K at h
 refine jE.sound ?_
 refine h.tk λw h=>?_
 refine aa (aa ?_)
 refine⟨_,_,_,h.ldA,?_⟩
 refine⟨_,_,_,h.ldA,?_⟩
 rw[c9,f0,d1]
 refine⟨by omega,by omega,aa ?_⟩
 refine h.tk λw h=>?_
 simp only[lK0,lO0,lC0,lN1]
 have b8:(gs.map Bk.ob++ [y.ob])[gs.length]? =some y.ob:=by rw[<-e2];exact iC (l:=gs.map Bk.ob) y.ob
 refine⟨_,_,_,Sat.ld h (.tail _ (.head _)) (fu (j:=gs.length) (f:=1) (by decide) b8),_,_,_,Sat.ld h (.tail _ (.head _)) (fu (j:=gs.length) (f:=1) (by decide) b8),?_⟩
 rw[e5,e9,e4]
 refine⟨by omega,by omega,aa ?_⟩
 simp only[lK0,lO0,lC0,lC1]
 have h6:(ib,cel (top.D.map DB.v++ [(kz nb t s (s+ls.length - 1) (bG [10] ls)).v]++f2) aO)∈V.at b::(sb,cel (aP (gs.map Bk.ob++ [y.ob])++sp) ay)::(y.IM++K):=by rw[e3];simp
 refine⟨_,Sat.ld h h6 (by rw[lD0,lH0 (by simp)];simp;rfl),⟨_,rfl,?_⟩⟩
 refine⟨_,_,_,sw _ w,af rfl ?_⟩
 refine fK.sound ?_
 refine h.tk λw h=>?_
 refine aa (aa ?_)
 refine⟨_,_,_,h.ldA,?_⟩
 refine⟨_,_,_,h.ldA,?_⟩
 rw[c9,f0,d1]
 refine⟨by omega,by omega,aa ?_⟩
 refine h.tk λw h=>?_
 simp only[lK0,lO0,lC0,lN1]
 refine⟨_,_,_,Sat.ld h (.tail _ (.head _)) (fu (j:=gs.length) (f:=1) (by decide) b8),_,_,_,Sat.ld h (.tail _ (.head _)) (fu (j:=gs.length) (f:=1) (by decide) b8),?_⟩
 have n0:=b6.2.1
 rw[e5,e9,e4]
 refine⟨_,_,_,λw=>vb rowBlock.ht rowBlock.hi ib (top.D.length+1) y.ob.c top.D.length (by omega) (by omega) w,?_⟩
 refine Sat.st h (k:=1) rfl (by rw[lA0,aR,lA0,e2,lE0];omega) trivial rfl λw h=>?_
 let r2:OB:= {y.ob with q:=kE ib,n:=top.D.length,c:=y.ob.c}
 have i3:(aP (gs.map Bk.ob++ [y.ob])++sp).set (gs.length*4+1) (hT (kE ib) top.D.length y.ob.c)=aP (gs.map Bk.ob++ [r2])++sp:=by
  have:=lC (l:=gs.map Bk.ob) (sp:=sp) (o:=y.ob) (o':=r2) (f:=1) (v:= hT (kE ib) top.D.length y.ob.c) (by decide) rfl
  rw[e2] at this;exact this
 have d2:Stk V (gs.map Bk.ob++ [r2]) [(sb,cel (aP (gs.map Bk.ob++ [r2])++sp) ay)]:=by
  refine Stk.mk' d1 ?_ (by rw[c9];simp) (by simp;omega)
  rw[<-i4]
  simp only[lA0,aR,lE0]
 have h7:Sl 1 aO r2.q r2.n r2.c (top.D.map DB.v) y.IM:=by
  have:=b6
  rw[e5,e4] at this
  exact this.pop
 refine⟨trivial,?_⟩
 have h:Sat σ w (V.at b::(sb,cel (aP (gs.map Bk.ob++ [r2])++sp) ay)::(y.IM++K)):=by
  rw[<-i3];exact h
 have f4:lE nb s (s+ls.length - 1) t∈V.at b::(sb,cel (aP (gs.map Bk.ob++ [r2])++sp) ay)::(y.IM++K):=by rw[<-e7];simp
 have h5:(W,cel [hY lv] ba)∈V.at b::(sb,cel (aP (gs.map Bk.ob++ [r2])++sp) ay)::(y.IM++K):=by rw[<-e7];simp
 refine Sat.tk h λw h=>?_
 refine aa (aa (aa ?_))
 refine⟨_,Sat.ld h f4 (i:=0) rfl,_,Sat.ld h (.head _) (i:=3) rfl,_,Sat.ld h h5 (i:=0) rfl,_,Sat.ld h f4 (i:=2) rfl,?_⟩
 refine Sat.bx h λhb w h=>?_
 rw[f6] at h
 have h:Sat σ w (o9 hb s p.lineno lv t []::V.at b::(sb,cel (aP (gs.map Bk.ob++ [r2])++sp) ay)::(y.IM++K)):=h
 generalize c3:rv hb t s p.lineno s (s+ls.length - 1) lv (bG [10] ls)=d
 have g2:d.own= [o9 hb s p.lineno lv t []]:=by rw[<-c3];rfl
 have g4:d.txs= [⟨t,s,s+ls.length - 1,bG [10] ls⟩]:=by rw[<-c3];rfl
 let I:Bk:=⟨r2,y.own,top.D,y.IM⟩
 have d0:DocE σ b (d.own++(d.txs.map TX.chunk++(zLn O::l.at b1::L))) d.txs (gs++I:: []) V w:=by
  rw[g2,g4]
  refine⟨[(sb,cel (aP (gs.map Bk.ob++ [r2])++sp) ay)],U,[],[],?_,?_,?_,⟨rfl,rfl⟩,?_⟩
  ·have:(gs++I:: []).map Bk.ob++ []=gs.map Bk.ob++ [r2]:=by simp[I]
   rw[this];exact d2
  ·have j1:txF (gs++I:: [])++ [⟨t,s,s+ls.length - 1,bG [10] ls⟩]=txF (gs++ [y]):=by
    rw[show gs++I:: []=gs++ [I] from rfl,bE,bE,dL,dL,d3,jQ,lD0];rfl
   rw[j1];exact e0
  ·intro k E
   rcases lP0.1 E with E|E
   ·exact c1 k (by simp[E])
   ·obtain rfl:=lN0.1 E
    exact⟨h7,by show top.D.length<100000;omega,f1.2.2⟩
  ·rw[show gs++I:: []=gs++ [I] from rfl,bh,dA]
   show Sat σ w (V.at b:: [(sb,cel (aP (gs.map Bk.ob++ [r2])++sp) ay)]++(U++((aM gs++(y.IM++(y.own++(cZ top.D++txc top.D))))++([]++([o9 hb s p.lineno lv t []]++([fC t s (s+ls.length - 1) none 0 0 (bG [10] ls)]++(zLn O::l.at b1::L)))))))
   rw[<-e7] at h
   exact h.less [lE nb s (s+ls.length - 1) t,(W,cel [hY lv] ba)]
 refine qN (pb:=pb) (G:=G) (op:=op) (xs:= []) (Pd.closeE g3 .none rfl) (.tail _ (.tail _ i2)) (by rw[<-h1];exact pk f3) (λk E=>?_) ?_ d0 (by rw[h8];exact hd) (by omega) (by rw[<-c3];rfl) (by simp) λw p' a6 j0 m4 o2 k0 k1 k2 k3 k4 h=>⟨rfl,?_⟩
 ·rcases lP0.1 E with E|E
  ·exact g0 k (by simp[E])
  ·obtain rfl:=lN0.1 E
   exact h2
 ·have:txF (gs++I:: [])=txF (gs++ [top]):=by rw[show gs++I:: []=gs++ [I] from rfl,bE,bE,dL,dL]
  rw[this];exact m2
 obtain rfl:j0= []:=by cases k3;rfl
 obtain⟨e8,e6,m6,n2,d2,g5,g6,⟨rfl,rfl⟩,h⟩:=h
 have h:Sat σ w (zLn O::l.at b1::(p'.at b::e8++(e6++(aM (gs++ [a6])++L)))):=h.re
 repeat (first|refine aa ?_|refine h.tk λw h=>?_|refine⟨_,h.ldA,?_⟩|refine⟨_,_,_,h.ldA,?_⟩|refine h.stA 0 λw h=>?_|refine h.stA 1 λw h=>?_|refine h.stA 2 λw h=>?_|refine h.stA 3 λw h=>?_|refine h.stA 4 λw h=>?_|refine h.stA 5 λw h=>?_|refine h.stA 6 λw h=>?_|refine h.bx λb0 w h=>?_)
 have h:Sat σ _ (zLn O::l.at b1::(p'.at b::e8++(e6++(aM (gs++ [a6])++L)))):=h
 refine E _ _ h.tail λw h=>?_
 refine b7 w p' a6 hb t (m4.trans f3) (k0.trans f6) ⟨k1.1.trans c2.1,k1.2.1.trans c2.2.1,k1.2.2.1.trans c2.2.2.1,k1.2.2.2.trans c2.2.2.2⟩ (by rw[c3];exact k2) h9 ⟨e8,e6,[],[],d2,g5,g6,⟨rfl,rfl⟩,h.re⟩

theorem tw {xs I:Array Value}: ∀ {fs:List Field} {gs:List (TypeId × Nat)},fs.map (λf=>(f.name== "_",f.type,f.offset))=gs.map (λy=>(false,y.1,y.2))->
 (∀y∈gs,∃u v r,(part y.1 xs y.2).run P w= .ok u w/\(part y.1 I y.2).run P w= .ok v w/\(Op.equalIn 9999 y.1 u v).run P w= .ok r w)->
 (∃y∈gs,∃u v,(part y.1 xs y.2).run P w= .ok u w/\(part y.1 I y.2).run P w= .ok v w/\(Op.equalIn 9999 y.1 u v).run P w= .ok false w)->(Op.eqFields 9999 xs I fs).run P w= .ok false w
 | [],[],_,_,hx=>by obtain⟨y,O,_⟩:=hx;cases O
 | [],y::gs,h,_,_=>by simp at h
 |f::fs,[],h,_,_=>by simp at h
 |f::fs,y::gs,h,O,hx=>by
  simp only[lO1,lU0,Prod.mk.injEq] at h
  obtain⟨⟨b8,a7,b4⟩,b7⟩:=h
  obtain⟨u,v,r,W,a6,U⟩:=O y (lZ1 ..)
  have b9:f.name≠ "_" :=by simpa using b8
  have b3:r=true->(Op.eqFields 9999 xs I fs).run P w= .ok false w:=by
   intro hr
   refine tw b7 (λV E=>O V (lR1 _ E)) ?_
   obtain⟨V,E,b6,b5,a1,a2,a3⟩:=hx
   rcases lW0.1 E with rfl|E
   ·rw[W] at a1;rw[a6] at a2
    cases a1;cases a2
    rw[U,hr] at a3
    cases a3
   ·exact⟨V,E,b6,b5,a1,a2,a3⟩
  rw[<-a7,<-b4] at W a6
  rw[<-a7] at U
  simp only[Op.eqFields,ne_eq,b9,not_false_eq_true,if_true,lX0,W,a6,U,lJ0]
  cases r with
  |true=>simp only[Bool.not_true,lD3,if_false];exact b3 rfl
  |false=>simp
theorem En {l m:Ln}(O:l.text≠m.text)(x I:Operand)(w:World):(do eqGuard .neq aW x I l.val m.val;binOp .neq aW l.val m.val).run P w= .ok (hV true) w:=by
 have E:(eqGuard .neq aW x I l.val m.val).run P w= .ok () w:=run_eqGuard_agg w .neq aW x I _ _ (by kernel_rfl)
 have hb:=run_neq_struct (P:=P) w aW #[hY l.sp,hY l.i,hY l.tab,hX (bs l.text),.int .u8 l.nl.toNat] #[hY m.sp,hY m.i,hY m.tab,hX (bs m.text),.int .u8 m.nl.toNat]
 have U:(Op.equalIn 10000 aW (.agg #[hY l.sp,hY l.i,hY l.tab,hX (bs l.text),.int .u8 l.nl.toNat]) (.agg #[hY m.sp,hY m.i,hY m.tab,hX (bs m.text),.int .u8 m.nl.toNat])).run P w= .ok false w:=by
  rw[run_equalIn_struct w 9999 aW _ _ (by kernel_rfl) (by kernel_rfl)]
  refine tw (gs:= [(ba,0),(ba,1),(ba,2),(aq,3),(dz,4)]) uq ?_ ⟨(aq,3),by simp,?_⟩
  ·intro V E
   simp only[lW0,lW5,or_false] at E
   rcases E with rfl|rfl|rfl|rfl|rfl
   ·exact vT ql rfl rfl
   ·exact vT ql rfl rfl
   ·exact vT ql rfl rfl
   ·exact GH rfl rfl
   ·exact vT E5 rfl rfl
  ·refine⟨hX (bs l.text),hX (bs m.text),jS mT (λ_ h=>by cases h) (λ_ _ h=>by cases h) rfl w,jS mT (λ_ h=>by cases h) (λ_ _ h=>by cases h) rfl w,?_⟩
   have e:((bs l.text).toList==(bs m.text).toList)=false:=by
    rw[cJ,cJ]
    simpa using O
   refine(run_equalIn_string w 9998 aq (bs l.text) (bs m.text) mT).trans ?_
   rw[e]
 rw[lX0,E,lJ0]
 refine hb.trans ?_
 rw[U];rfl
theorem xC {X:OA->Nat->WP}(e3: ∀c2 b8 w,ak.bl1 R X c2 b8 w->X c2 b8 w){b b1 j:Nat}{p:PS}{ob:List OB}{o:OB}{M:List ai}{l l2:Ln}{ok:Bool}{Post:PS->List ai->Prop}(h:Sat σ w (l.at b1::(p.at b::M++L)))(hs:Stk p ob M)(hd:p.depth=j)(e9:j<1000000)(U:ob[j+1]? =some o)(e6:l.ok)(hb:l.blank=false)(c3: ∀p2 g,Post p2 g->p2= {p with corner:=p2.corner})(d1:ok=true\/l2.text≠l.text)(e4: ∀(b9:Ending->World->Prop) b0 w,Sat σ w (l.at b0::l.at b1::(p.at b::M++L))->(∀w p2 g,Post p2 g->Sat σ w (l.at b0::l.at b1::(p2.at b::M++g))->b9 (hQ (.tuple #[l2.val,hV ok])) w)->de P (callMethod o.bd "pub-paratext/pub/rscmarkdown.extend" #[kT (kE b),l.val]) b9 w)
 (e0:ok=true-> ∀w p2 g y,Post p2 g->Stk ({p2 with depth:=(j:Int)+1}:PS) (ob.set (j+1) (o.setE p.lineno)) y->Sat σ w (l2.at b1::(({p2 with depth:=(j:Int)+1}:PS).at b::y++g))->X (kE b) b1 w)
 (c4:ok=false-> ∀w p2 g y,Post p2 g->Stk p2 (ob.set (j+1) (o.setE p.lineno)) y->Sat σ w (l2.at b1::(p2.at b::y++g))->ak.k2 R (kE b) b1 w):X (kE b) b1 w:=by
 have b5:=(lL0.1 U).1
 have e1:=hs.2.2
 have O:=hs.2.1
 have e8:=hs
 obtain⟨sb,sp,a6,b7,c9⟩:=hs.split (by intro e2;rw[e2] at b5;simp at b5)
 refine e3 _ _ _ ?_
 have h:Sat σ w (l.at b1::p.at b::(M++L)):=h
 refine Sat.tk h λw h=>aa (aa ?_)
 refine⟨_,Sat.ld h (.tail _ (.head _)) (i:=5) rfl,_,_,_,Sat.ld h (.tail _ (.head _)) (i:=4) rfl,?_⟩
 rw[hd,i64_in _ (by omega),O]
 refine ag (by simp;omega) ?_
 refine⟨_,h.ldA,?_⟩
 refine⟨_,h.ldA,?_⟩
 refine⟨_,h.ldA,?_⟩
 refine⟨_,h.ldA,?_⟩
 refine⟨_,h.ldA,?_⟩
 refine Sat.bx h λb0 w h=>?_
 refine h.stA 0 λw h=>?_
 refine h.stA 0 λw h=>?_
 refine h.stA 0 λw h=>?_
 refine h.stA 0 λw h=>?_
 refine h.stA 0 λw h=>?_
 have h:Sat σ w (l.at b0::l.at b1::p.at b::(M++L)):=h
 refine Sat.tk h λw h=>aa (aa ?_)
 refine⟨_,_,_,Sat.ld h (.tail _ (.tail _ (.head _))) (i:=4) rfl,_,Sat.ld h (.tail _ (.tail _ (.head _))) (i:=5) rfl,?_⟩
 rw[hd,i64_in _ (by omega),O,a6]
 refine⟨by omega,by omega,aa ?_⟩
 have b4:((j:Int)+1).toNat=j+1:=by omega
 rw[b4]
 simp only[lK0,lO0]
 have c5:(sb,cel (aP ob++sp) ay)∈(l.at b0::l.at b1::p.at b::(M++L)):=by rw[b7];simp
 refine⟨o.bd,Sat.ld h c5 (fu (j:=j+1) (f:=0) (by decide) U),?_⟩
 have I:l.at b1∈(l.at b0::l.at b1::p.at b::(M++L)):= .tail _ (.head _)
 refine⟨_,Sat.ld h I (i:=0) rfl,_,Sat.ld h I (i:=1) rfl,_,Sat.ld h I (i:=2) rfl,_,Sat.ld h I (i:=3) rfl,_,Sat.ld h I (i:=4) rfl,?_⟩
 refine e4 _ b0 w h λw p2 g b3 h=>⟨_,_,_,_,_,_,rfl,?_⟩
 have E:=c3 p2 g b3
 have b6:p2.depth=j:=by rw[E];exact hd
 have d0:p2.stn=ob.length:=by rw[E];exact O
 have c8:p2.stq=kE sb:=by rw[E];exact a6
 have d3:p2.lineno=p.lineno:=by rw[E]
 have e7:p2.stc=p.stc:=by rw[E]
 have h:Sat σ w (l.at b0::l.at b1::(p2.at b::M++g)):=h
 refine h.stA 1 λw h=>?_
 refine h.stA 1 λw h=>?_
 refine h.stA 1 λw h=>?_
 refine h.stA 1 λw h=>?_
 refine h.stA 1 λw h=>?_
 have h:Sat σ w (l.at b0::l2.at b1::(p2.at b::M++g)):=h
 refine dF h (.head _) e6 λw h=>⟨_,rfl,?_⟩
 rw[hb]
 have c1: ∀(a7:Bool) w,Sat σ w (l.at b0::l2.at b1::p2.at b::(M++g))->(∀w y,Stk p2 (ob.set (j+1) (o.setE p.lineno)) y->Sat σ w (l.at b0::l2.at b1::p2.at b::(y++g))->
  br (!a7) (ak.k2 R (kE b) b1 w) (ak.k3 R X (kE b) b1 w))->ak.k1 R X (kE b) b1 a7 true w:=by
  intro a7 w h e5
  refine ag rfl (h.tk λw h=>aa (aa (aa ?_)))
  have V:p2.at b∈(l.at b0::l2.at b1::p2.at b::(M++g)):= .tail _ (.tail _ (.head _))
  refine⟨_,_,_,Sat.ld h V (i:=4) rfl,_,Sat.ld h V (i:=5) rfl,_,Sat.ld h V (i:=3) rfl,?_⟩
  rw[b6,i64_in _ (by omega),d0,c8,d3]
  refine⟨by omega,by omega,aa ?_⟩
  rw[b4]
  simp only[lK0,lO0,lN1]
  have h:Sat σ w ((sb,cel (aP ob++sp) ay)::l.at b0::l2.at b1::p2.at b::g):=by
   rw[b7] at h
   exact h.re
  refine Sat.st h (k:=0) rfl (by rw[lA0,aR];omega) trivial rfl λw h=>?_
  rw[u6 U] at h
  have h:Sat σ w ((sb,cel (aP (ob.set (j+1) (o.setE p.lineno))++sp) ay)::l.at b0::l2.at b1::p2.at b::g):=h
  refine e5 w [(sb,cel (aP (ob.set (j+1) (o.setE p.lineno))++sp) ay)] ?_ h.re
  have d2:=Stk.setE (p:=p) (m:=p.lineno) a6 O e1 c9 U
  exact d2.of (by rw[E]) (by rw[E]) (by rw[E])
 cases ok with
 |true=>
  refine ag rfl (ag rfl ?_)
  refine c1 true w h λw y W h=>af rfl ?_
  unfold ak.k3
  refine aa ⟨_,Sat.ld h (.tail _ (.tail _ (.head _))) (i:=5) rfl,aa ?_⟩
  rw[b6,i64_in _ (by omega)]
  refine Sat.st h (k:=2) rfl (by simp[PS.cells]) trivial rfl λw h=>?_
  have h:Sat σ w (l.at b0::l2.at b1::({p2 with depth:=(j:Int)+1}:PS).at b::(y++g)):=h
  exact e0 rfl w p2 g y b3 (W.of rfl rfl rfl) (h.less [l.at b0])
 |false=>
  refine ag rfl (af rfl ?_)
  have h:Sat σ w (l.at b0::l2.at b1::p2.at b::(M++g)):=h
  refine⟨_,h.ldA,?_⟩
  refine⟨_,h.ldA,?_⟩
  refine⟨_,h.ldA,?_⟩
  refine⟨_,h.ldA,?_⟩
  refine⟨_,h.ldA,?_⟩
  refine⟨_,h.ldA,?_⟩
  refine⟨_,h.ldA,?_⟩
  refine⟨_,h.ldA,?_⟩
  refine⟨_,h.ldA,?_⟩
  refine⟨_,h.ldA,?_⟩
  refine⟨true,w,En (d1.resolve_left (by decide)) (.tmp 55) (.tmp 56) w,?_⟩
  refine c1 false w h λw y W h=>ag rfl ?_
  exact c4 rfl w p2 g y b3 W (h.less [l.at b0])

theorem D7 {f:Nat}{s:List UInt8}(hs: ∀c∈s,c≠(96:UInt8)):uf 96 (hN f 96++s)=f:=by
 induction f with
 |zero=>
  cases s with
  |nil=>rfl
  |cons c s=>simp[uf,lB3,hs c (by simp)]
 |succ f g=>
  simp only[uf,lA2,lR0,lB3,beq_self_eq_true,if_true,lF0]
  exact congrArg (· +1) g
theorem mm {c:UInt8}(h:Bn c=true):c≠96/\c≠92/\c≠38/\cO c=false/\c<128/\spB c=false:=by
 have hd: ∀c:Fin 256,Bn (UInt8.ofNat c.val)=true->UInt8.ofNat c.val≠96/\UInt8.ofNat c.val≠92/\UInt8.ofNat c.val≠38/\cO (UInt8.ofNat c.val)=false/\UInt8.ofNat c.val<128/\spB (UInt8.ofNat c.val)=false:=by decide+kernel
 have:=hd ⟨c.toNat,c.toNat_lt⟩
 simpa using this (by simpa using h)
theorem ng {p:UInt8->Bool}{s:List UInt8}(h: ∀c∈s,p c=false):gw p s=s:=by
 have g: ∀ {t:List UInt8},(∀c∈t,p c=false)->t.dropWhile p=t:=by
  intro t ht
  cases t with
  |nil=>rfl
  |cons c t=>rw[lA3,ht c (by simp)];rfl
 unfold gw wl
 rw[g h,g (λc hc=>h c (by simpa using hc)),lK6]

def oG (g s e:Nat):OB:=⟨.iface gQ (kT (kE g)),none,0,0,s,e⟩
theorem zi {b V s e:Nat}{p:PS}{ob:List OB}{par:OB}{M U IM:List ai}{inner:List Value}{F info:List UInt8}{ls:List (List UInt8)}(h:Sat σ w (p.at b::M++(IM++(U++L))))(hs:Stk p (ob++ [par]++ [oG V s e]) M)(c2:Sl 1 aO par.q par.n par.c inner IM)(c1:par.n<1000000)(c8:xV V F info ls U)(c3: ∀w p' b4 W nb q c g y E x,p'= {p with stn:=ob.length+1}->Stk p' (ob++ [{par with q:=y,n:=par.n+1,c:=E}]) b4->Sl 1 aq q ls.length c (sv ls) g->
  Sl 1 aO y (par.n+1) E (inner++ [.iface cL (kT (kE nb))]) W->Sat σ w (p'.at b::b4++(W++(Bs nb s e F info q ls.length c::(g++L))))->R (hQ x) w):
 callE P aI #[kT (kE b)] R w:=by
 refine pW (ob:=ob) (par:=par) (o:=oG V s e) (IM:=IM) (inner:=inner) (λb3 a7 a6 q=> ∃nb I c g,b3=p/\Sl 1 aq I ls.length c (sv ls) g/\a7=Bs nb s e F info I ls.length c::(g++L)/\a6=cL/\q=kE nb) h hs rfl c2 c1 ?_ ?_
 ·intro c9 w h c5
  have h:Sat σ w (p.at b::M++(U++(IM++L))):=h.re
  refine bm vp ?_
  refine y8 h hs c8 λw nb q c g O h=>?_
  have h:Sat σ w (p.at b::M++(Bs nb s e F info q ls.length c::(g++(IM++L)))):=h
  exact c5 w p _ cL _ rfl rfl rfl (by decide) ⟨nb,q,c,g,rfl,O,rfl,rfl,rfl⟩ (h.re)
 ·intro w p2 c4 b8 b3 a7 a6 q y E b5 b6 b7 b9 h
  obtain⟨nb,I,c,g,rfl,O,rfl,rfl,rfl⟩:=b5
  exact c3 w p2 c4 b8 nb I c g y E _ b6 b7 O b9 h
def mM (nb s e:Nat)(F info:List UInt8)(q:Option Addr)(n c:Nat)(g:List ai):DB:=⟨.iface cL (kT (kE nb)),Bs nb s e F info q n c::g,[]⟩

theorem LnR.strip {c:UInt8}{r:List UInt8}(hc:cO c=false): ∀(k m n:Nat) {l:Ln},k<=m->LnR l (hN k 32++c::r)->l.strip m n=(n+k,{l with i:=l.i+k})
 |0,0,n,l,_,h=>by simp[Ln.strip]
 |0,m+1,n,l,_,h=>by
  have h:LnR l (c::r):=h
  have e:l.trimSp 1 1 false=none:=by unfold Ln.trimSp;rw[h.has.tsGo hc];rfl
  simp[Ln.strip,e]
 |k+1,0,n,l,hk,h=>absurd hk (by omega)
 |k+1,m+1,n,l,hk,h=>by
  have h:LnR l (32::(hN k 32++c::r)):=by rw[lA2] at h;exact h
  have e:l.trimSp 1 1 false=some {l with i:=l.i+1}:=LnR.tsPad (mn:=1) (e:=false) (s:=hN k 32++c::r) 1 0 h
  have g:=LnR.strip hc k m (n+1) (by omega) (LnR.skip (a:= [32]) h)
  simp only[Ln.strip,e]
  refine g.trans ?_
  show (n+1+k,({l with i:=l.i+1+k}:Ln))=(n+(k+1),{l with i:=l.i+(k+1)})
  rw[lF3 n,lF3 l.i,lC3,lC3]
theorem tr {f:Nat}{word:List UInt8}{l:Ln}(b7:3<=f)(E: ∀c∈word,Bn c=true)(a7:LnR l (hN f 96++word)):
 ¬ xU l/\(∀n c t info,rH l n c t info->n=f/\c=96/\info=word)/\(l.strip 3 0).1=0/\rH l f 96 word word:=by
 obtain⟨y,rfl⟩: ∃y,f=y+1:=⟨f - 1,by omega⟩
 have b4:l.has 96 (hN y 96++word):=LnR.has (by rw[lA2] at a7;exact a7)
 have O:l.strip 3 0=(0,l):=b4.strip (by decide)
 have hr:uf 96 (hN (y+1) 96++word)=y+1:=D7 λc hc=>(mm (E c hc)).1
 have b3: ∀t,UnE (gw cO word) t->t=word:=by
  intro t ht
  have b8:gw cO word=word:=ng λc hc=>(mm (E c hc)).2.2.2.1
  rw[b8] at ht
  exact ht.2 λc hc=>⟨(mm (E c hc)).2.1,(mm (E c hc)).2.2.1⟩
 have V: ∀n,n=y+1->(hN (y+1) (96:UInt8)++word).drop n=word:=by
  intro n b6
  subst b6
  rw[lX2 (by simp),lF6 (by simp)];rfl
 have a6:l.peek=96:=b4.peek
 have I:l.text.drop l.i=hN (y+1) 96++word:=a7.tx
 have W: ∀n,l.text.drop (l.i+n)=(hN (y+1) (96:UInt8)++word).drop n:=λn=>by rw[<-lK5,I]
 have b5:gw cO word=word:=ng λc hc=>(mm (E c hc)).2.2.2.1
 refine⟨?_,?_,by rw[O],?_⟩
 rotate_left 2
 ·unfold rH
  rw[O]
  simp only[a6,I,W,hr]
  rw[V _ rfl,b5]
  refine⟨.inl ?_,b7,?_,?_,⟨by omega,λ_=>rfl⟩,?_,λ_ U=>(mm (E 96 U)).1 rfl⟩<;>trivial
 ·unfold xU
  rw[O]
  simp only[a6,I,W,hr]
  rintro (⟨h,_⟩|h|⟨_,t,ht,U⟩)
  ·exact h rfl
  ·omega
  ·rw[V _ rfl] at ht
   rw[b3 t ht] at U
   exact(mm (E 96 U)).1 rfl
 ·intro n c t info
  unfold rH
  rw[O]
  simp only[a6,I,W]
  rintro ⟨h1,h2,h3,h4,h5,h6,h7⟩
  subst h3
  rw[hr] at h4
  subst h4
  rw[V _ rfl] at h5
  have:=b3 t h5
  subst this
  exact⟨rfl,rfl,h6.trans (ng λc hc=>(mm (E c hc)).2.2.2.1)⟩
def DL (s e:Nat)(F info:List UInt8)(ls:List (List UInt8)):Leaf:= .other λob M=> ∃g,ob= [oG g s e]/\xV g F info ls M/\s<1000000000
theorem Ax (f6:op.task=false){m2:OA->Nat->WP}{b b1 pb f:Nat}{xs:List IN}{gs junk:List Bk}{top:Bk}{p:PS}{l:Ln}{word:List UInt8}{ec:ai}(d2:Pd G op xs junk .none)(h:DocC σ b (l.at b1::L) (gs++top::junk) .none p w)(hd:p.depth=gs.length)(e2:gs.length<900000)(ht:top.box_)(b8:LnR l (hN f 96++word))(g5:l.text.length<100000)(o0:3<=f)(q5:f<50000)(c9: ∀c∈word,Bn c=true)(q4:word.length<10000)(j0:Bh ec)(c3:ec∈L)(l5: ∀g∈gs++top::junk,g.D.length<=90000)(m6:(txF (gs++top::junk)).length<=90000)(g7:p.pz=kE pb)(i0:op.at pb∈L)(e1:p.lineno<1000000000)(V: ∀w (p':PS) E b4,p'.base=p.base->p'.lineno=p.lineno->E.like top->E.D=top.D++b4->TDs G op b4 xs->(ci b4).length<=(txF junk).length+1->DocC σ b L (gs++ [E]) (DL p.lineno p.lineno (hN f 96) word []) p' w->R (hQ (.tuple #[])) w):
 ak.bl102 R m2 (kE b) b1 w:=by
 obtain⟨o3,p3,n1,_⟩:=tr o0 c9 b8
 have a6:=b8.ok
 have a7:l.has 96 (hN (f - 1) 96++word):=LnR.has (by
  have e:f=(f - 1)+1:=by omega
  rw[e,lA2] at b8
  exact b8)
 have b6: ∀e,l.lead 3 e=l:=a7.lead (by decide) 2
 have h2:(l.lead 3 false).peek=96:=by rw[b6];exact a7.peek
 have n3:l.quote=none:=by unfold Ln.quote;rw[b6,a7.trimC,if_neg (by decide)];rfl
 have h7:l.heading=none:=by unfold Ln.heading;rw[b6,a7.trimC,if_neg (by decide)]
 have h9:l.isHR=false:=by
  unfold Ln.isHR
  simp only[b6,a7.peek]
  rw[if_neg (by decide)]
 have i1:LDecl l:=LDecl.of_peek a6 (by rw[a7.strip (by decide),a7.peek];decide)
 obtain⟨e7,f0,t1,n0,n2⟩:=ht
 have e0:top.np:=⟨e7,f0,t1,n0⟩
 obtain⟨M,d0,q0,q8,c1,h5,h6,⟨rfl,rfl⟩,h⟩:=h
 rw[lG0] at c1
 have h:Sat σ w (p.at b::M++(l.at b1::(d0++(aM (gs++top::junk)++L)))):=h.re
 have g6:=nY (b:=b) (l:=l) c1 hd e2 e0 d2.next (d2.last rfl gs top e0) a6
 refine oA 6 (by decide) h ?_ λw nb e5 c8 h m4=>?_
 ·intro j r3 m5 σ w L R h V
  match j,m5 with
  |0,_=>exact iI (x:= .nilIface) h a6 n3 V
  |1,_=>exact lS h a6 h7 V
  |2,_=>exact g6 σ w L R h V
  |3,_=>exact rW h a6 h9 V
  |4,_=>exact i1 b gs.length p _ top.ob M e7 f0 c1 hd (by simp) t1 n2 σ w L R h V
  |5,_=>exact n4 h a6 (by rw[h2];decide) V
 show callE P ko _ c8 w
 generalize f5:l.at b1::(nb,cel newsC e5)::(d0++(aM (gs++top::junk)++L))=K at h
 have c3:ec∈K:=by rw[<-f5];simp[c3]
 refine dS.sound ?_
 refine Sat.bx h λb2 w h=>?_
 refine Sat.bx h λy w h=>?_
 refine Sat.bx h λO w h=>?_
 refine Sat.bx h λI w h=>?_
 refine Sat.bx h λU w h=>?_
 repeat (first|refine aa ?_|refine h.tk λw h=>?_|refine⟨_,h.ldA,?_⟩|refine⟨_,_,_,h.ldA,?_⟩|refine h.stA 0 λw h=>?_|refine h.stA 1 λw h=>?_|refine h.stA 2 λw h=>?_|refine h.stA 3 λw h=>?_|refine h.stA 4 λw h=>?_|refine h.stA 5 λw h=>?_|refine h.stA 6 λw h=>?_|refine h.bx λb0 w h=>?_)
 have h:Sat σ _ (l.at b0::(U,cel [hY 0] ba)::(I,cel [hX (bs [])] aq)::(O,cel [hX (bs [])] aq)::(zLn y::l.at b2::(p.at b::(M++K)))):=h
 refine pw h a6 g5 j0 (by simp[c3]) (λp4=>absurd p4 o3) λn c t info p1 w h=>?_
 obtain⟨rfl,rfl,rfl⟩:=p3 n c t info p1
 rw[n1] at h
 refine⟨_,rfl,ag rfl ?_⟩
 refine⟨_,Sat.ld h (.tail _ (.tail _ (.tail _ (.head _)))) (i:=0) rfl,by decide,by simp;omega,?_⟩
 have h1:bt (bs (hN n (96:UInt8))) 0=96:=by
  have:=pY (l:=hN n (96:UInt8)) (i:=0) (by simp;omega)
  rw[show ((0:Nat):Int)=0 from rfl] at this
  rw[this];simp
 refine af (by rw[h1];rfl) (af rfl ?_)
 have h:Sat σ w ((U,cel [hY ((0:Nat):Int)] ba)::(I,cel [hX (bs info)] aq)::(O,cel [hX (bs (hN n 96))] aq)::zLn y::(Ln.zero.at b0::l.at b2::(p.at b::(M++K)))):=h.re
 have k4: ∀w,Sat σ w ((U,cel [hY ((0:Nat):Int)] ba)::(I,cel [hX (bs info)] aq)::(O,cel [hX (bs (hN n 96))] aq)::zLn y::(Ln.zero.at b0::l.at b2::(p.at b::(M++K))))->dS.k4 c8 (kE b) y O I U w:=by
  intro w h
  refine⟨_,Sat.ld h (.tail _ (.tail _ (.head _))) (i:=0) rfl,_,Sat.ld h (.tail _ (.head _)) (i:=0) rfl,_,Sat.ld h (.head _) (i:=0) rfl,?_⟩
  refine Sat.bx h λW w h=>?_
  have h:Sat σ w (pr W (hN n 96) info none 0 0::(U,cel [hY ((0:Nat):Int)] ba)::(I,cel [hX (bs info)] aq)::(O,cel [hX (bs (hN n 96))] aq)::zLn y::(Ln.zero.at b0::l.at b2::(p.at b::(M++K)))):=h
  have g2:DocC σ b (pr W (hN n 96) info none 0 0::(zLn y::l.at b1::L)) (gs++top::junk) .none p w:=by
   refine⟨M,d0,[],[],by rw[lG0];exact c1,h5,h6,⟨rfl,rfl⟩,?_⟩
   rw[<-f5] at h
   exact h.less [(U,cel [hY ((0:Nat):Int)] ba),(I,cel [hX (bs info)] aq),(O,cel [hX (bs (hN n 96))] aq),Ln.zero.at b0,l.at b2,(nb,cel newsC e5)]
  refine p9 (pb:=pb) (d2.close f6) (.tail _ (.tail _ i0)) g7 l5 m6 g2 hd e2 e1 λw p' E b4 c2 o2 m1 r1 k1 k2 k3 k4 j1 m3 i3 i8 h=>⟨rfl,?_⟩
  have o4:gs++ [E,c2]=(gs++ [E])++ [c2]:=by simp
  rw[o4] at h
  have i4:(λ(ob:List OB) (M:List ai)=>ob= [oG W p.lineno p.lineno]/\xV W (hN n 96) info [] M) [c2.ob] c2.own:=⟨by rw[j1];rfl,by rw[m3];exact⟨none,0,[],Sl.nil 1 aq,rfl⟩⟩
  have h:=DocC.toLeaf (A:=λ(ob:List OB) (M:List ai)=>ob= [oG W p.lineno p.lineno]/\xV W (hN n 96) info [] M) h i3 i8 i4
  obtain⟨d1,c5,p5,c4,h4,g3,g4,⟨rfl,g0⟩,h⟩:=h
  have h:Sat σ w (zLn y::l.at b1::(p'.at b::d1++(c5++(aM (gs++ [E])++(c4++L))))):=h.re
  repeat (first|refine aa ?_|refine h.tk λw h=>?_|refine⟨_,h.ldA,?_⟩|refine⟨_,_,_,h.ldA,?_⟩|refine h.stA 0 λw h=>?_|refine h.stA 1 λw h=>?_|refine h.stA 2 λw h=>?_|refine h.stA 3 λw h=>?_|refine h.stA 4 λw h=>?_|refine h.stA 5 λw h=>?_|refine h.stA 6 λw h=>?_|refine h.bx λb0 w h=>?_)
  have h:Sat σ _ (zLn y::l.at b1::(p'.at b::d1++(c5++(aM (gs++ [E])++(c4++L))))):=h
  refine m4 _ _ h.tail λw h=>?_
  exact V w p' E b4 o2 m1 k1 k2 k3 k4 ⟨d1,c5,_,c4,h4,g3,g4,⟨W,rfl,g0,e1⟩,h.re⟩
 have k2:dS.k2 c8 (kE b) y O I U w:=by
  refine⟨_,Sat.ld h (.tail _ (.head _)) (i:=0) rfl,?_⟩
  refine Ee h λw e8 h=>?_
  intro X e6
  have h8: ∀k i w,i+k=info.length->Sat σ w ((e8,.stringIter (bs info) i)::((U,cel [hY ((0:Nat):Int)] ba)::(I,cel [hX (bs info)] aq)::(O,cel [hX (bs (hN n 96))] aq)::zLn y::(Ln.zero.at b0::l.at b2::(p.at b::(M++K)))))->X (kE b) y O I U (kT (kE e8)) w:=by
   intro k
   induction k with
   |zero=>
    intro i w hi h
    exact e6 _ _ _ _ _ _ _ (.inl ⟨_,Em h (by simp;omega),k4 w h.tail⟩)
   |succ k k0=>
    intro i w hi h
    have e3:i<info.length:=by omega
    have i2:i<(bs info).size:=by simpa using e3
    have hc:=mm (c9 info[i] (lQ1 e3))
    have g1:info[i].toNat<128:=lI6.1 hc.2.2.2.2.1
    refine e6 _ _ _ _ _ _ _ (.inr (Gd h i2 (by show info[i].toNat<128;exact g1) λw h=>?_))
    show callE P dJ #[.int .i32 ((info[i].toNat:Nat):Int)] _ w
    refine lU hc.2.2.2.2.1 ⟨_,rfl,af hc.2.2.2.2.2 (k0 (i+1) w (by omega) h)⟩
  exact h8 info.length 0 w (by omega) h
 refine⟨_,Sat.ld h (.tail _ (.head _)) (i:=0) rfl,?_⟩
 by_cases hi:info= []
 ·refine af (by rw[hi,cJ,gx];rfl) (af rfl k2)
 ·refine ag (by rw[cJ,gx];simpa using hi) ?_
  have d3:0<info.length:=lY0.2 hi
  refine⟨_,Sat.ld h (.tail _ (.head _)) (i:=0) rfl,λ_=>⟨by decide,by simp;omega⟩,?_⟩
  have e4:=pY (l:=info) (i:=0) d3
  rw[show ((0:Nat):Int)=0 from rfl] at e4
  rw[e4]
  refine yS ⟨_,rfl,?_⟩
  rw[c9 info[0] (lQ1 d3)]
  exact af rfl k2

theorem EB {X:OA->Nat->WP}(b4: ∀b8 a7 w,ak.bl1 R X b8 a7 w->X b8 a7 w){b b1 s e:Nat}{p:PS}{gs:List Bk}{F info:List UInt8}{ls:List (List UInt8)}{l:Ln}{ec:ai}(h:DocC σ b (l.at b1::L) gs (DL s e F info ls) p w)(hd:p.depth+1=gs.length)(e6:0<gs.length/\gs.length<900000)(b9:l.ok)(hb:l.blank=false)(d2:l.text.length<100000)(c4:ls.length<1048576)(e1:Bh ec)(d0:ec∈L)(b3:vY F l)(e0: ∀w (p':PS),p'.base=p.base->p'.lineno=p.lineno->DocC σ b L gs (DL s p.lineno F info (ls++ [l.str])) p' w->R (hQ (.tuple #[])) w):X (kE b) b1 w:=by
 obtain⟨M,O,e5,b7,hs,c9,c2,⟨E,rfl,e4,c8⟩,h⟩:=h
 have c5:p.depth=((gs.length - 1:Nat):Int):=by omega
 have d1:(gs.map Bk.ob++ [oG E s e])[gs.length - 1+1]? =some (oG E s e):=by
  rw[show gs.length - 1+1=gs.length by omega];simp
 have c1:(gs.map Bk.ob++ [oG E s e]).set (gs.length - 1+1) ((oG E s e).setE p.lineno)=gs.map Bk.ob++ [oG E s p.lineno]:=by
  rw[show gs.length - 1+1=gs.length by omega,lP1 _ _ (by simp),lS0,lW1]
  rfl
 have h:Sat σ w (l.at b1::(p.at b::M++(b7++(O++(aM gs++L))))):=h.re
 refine xC (l2:=Ln.zero) (ok:=true) (Post:=λp2 b6=>p2= {p with corner:=p2.corner}/\ ∃g,xV E F info (ls++ [l.str]) g/\b6=g++(O++(aM gs++L))) b4 h hs c5 (by omega) d1 b9 hb (λ_ _ h=>h.1) (.inl rfl) (λe7 b0 w h e3=>?_) (λ_ w p2 b6 a6 e2 U h=>?_) (λh0=>absurd h0 (by decide))
 ·refine bm oP ?_
  have h:Sat σ _ (p.at b::(b7++(l.at b0::l.at b1::(M++(O++(aM gs++L)))))):=h.re
  refine rz h e4 b9 c4 d2 e1 (by simp[d0]) (λ_ w p2 g y V h=>?_) (λh0=>absurd b3 h0) (.inl b3)
  exact e3 w p2 _ ⟨y,g,V,rfl⟩ h.re
 ·obtain⟨y,g,V,rfl⟩:=e2
  rw[c1] at U
  have d3:((gs.length - 1:Nat):Int)+1=(gs.length:Nat):=by omega
  rw[d3] at U h
  generalize I:({p2 with depth:=(gs.length:Nat)}:PS)=p3 at h U
  have c3:p3.depth=(gs.length:Nat):=by rw[<-I]
  have W:=U.2.1
  rw[lA0,lS0,lE0] at W
  refine b4 _ _ _ ?_
  have h:Sat σ w (Ln.zero.at b1::p3.at b::(a6++(g++(O++(aM gs++L))))):=h
  refine Sat.tk h λw h=>aa (aa ?_)
  refine⟨_,Sat.ld h (.tail _ (.head _)) (i:=5) rfl,_,_,_,Sat.ld h (.tail _ (.head _)) (i:=4) rfl,?_⟩
  have b5:i64.wrap (p3.depth+1)=((gs.length+1:Nat):Int):=by rw[c3,i64_in _ (by omega)];omega
  rw[b5,W]
  refine af (by simp) ?_
  unfold ak.k2
  refine dF (l:=Ln.zero) h (.head _) ⟨by decide,by decide,by decide,by decide⟩ λw h=>⟨_,rfl,?_⟩
  refine ag rfl (aa ⟨_,Sat.ld h (.tail _ (.head _)) (i:=5) rfl,?_⟩)
  rw[b5]
  have h:Sat σ w (p3.at b::(Ln.zero.at b1::(a6++(g++(O++(aM gs++L)))))):=h.re
  refine oJ h (by rw[W]) λw h=>⟨rfl,?_⟩
  refine e0 w p3 (by rw[<-I,y];rfl) (by rw[<-I,y]) ⟨a6,O,_,g,U,c9.of (by rw[<-I,y]) (by rw[<-I,y]) (by rw[<-I,y]),c2,⟨E,rfl,V,c8⟩,?_⟩
  exact h.less [Ln.zero.at b1]
theorem Dd {b s e:Nat}{p:PS}{gs:List Bk}{top:Bk}{F info:List UInt8}{ls:List (List UInt8)}(h:DocC σ b L (gs++ [top]) (DL s e F info ls) p w)(d1:top.D.length<=90000)(c2: ∀w I nb q c y x,I.like top->I.D=top.D++ [mM nb s e F info q ls.length c y]->Sl 1 aq q ls.length c (sv ls) y->s<1000000000->DocC σ b L (gs++ [I]) .none {p with stn:=gs.length+1} w->R (hQ x) w):
 callE P aI #[kT (kE b)] R w:=by
 obtain⟨M,U,c9,c4,hs,b8,W,⟨c5,rfl,c8,b7⟩,h⟩:=h
 have hs:Stk p (gs.map Bk.ob++ [top.ob]++ [oG c5 s e]) M:=by simpa using hs
 obtain⟨V,b5⟩:=W top (by simp)
 have d0:top.ob.n=top.D.length:=by have:=V.1;simp at this;omega
 rw[bh,dA] at h
 have h:Sat σ w (p.at b::M++(top.IM++(c4++(U++(aM gs++(top.own++(cZ top.D++(txc top.D++L)))))))):=h.re
 refine zi (ob:=gs.map Bk.ob) (par:=top.ob) h hs V (by omega) c8 λw p' a7 O nb q c y b3 b4 x b6 a6 c1 b9 h=>?_
 have c3:p'= {p with stn:=gs.length+1}:=by rw[b6,lS0]
 rw[c3] at a6 h
 refine c2 w ⟨{top.ob with q:=b3,n:=top.ob.n+1,c:=b4},top.own,top.D++ [mM nb s e F info q ls.length c y],O⟩ nb q c y x ⟨rfl,rfl,rfl,rfl⟩ rfl c1 b7 ⟨a7,U,[],[],?_,?_,?_,⟨rfl,rfl⟩,?_⟩
 ·rw[lV0,lG0];exact a6
 ·have:txF (gs++ [⟨{top.ob with q:=b3,n:=top.ob.n+1,c:=b4},top.own,top.D++ [mM nb s e F info q ls.length c y],O⟩])=txF (gs++ [top]):=by
   rw[bE,bE,dL,dL,jQ];simp[mM]
  rw[this];exact b8.of rfl rfl rfl
 ·intro g E
  rcases lP0.1 E with E|E
  ·exact W g (by simp[E])
  ·obtain rfl:=lN0.1 E
   exact⟨by rw[lV0];exact b9,by simp;omega,b5.2⟩
 ·rw[bh,dA,lR,nX]
  show Sat σ w (_::a7++(U++(aM gs++(O++(top.own++((cZ top.D++(Bs nb s e F info q ls.length c::y))++(txc top.D++ []))))++([]++L))))
  exact h.re
theorem GB {X:OA->Nat->WP}(e5: ∀b5 a7 w,ak.bl1 R X b5 a7 w->X b5 a7 w){b b1 s e:Nat}{p:PS}{gs:List Bk}{top:Bk}{F info:List UInt8}{ls:List (List UInt8)}{l:Ln}{ec:ai}(h:DocC σ b (l.at b1::L) (gs++ [top]) (DL s e F info ls) p w)(hd:p.depth=gs.length)(g1:gs.length<900000)(b3:l.ok)(hb:l.blank=false)(e0:l.text.length<100000)(c8:ls.length<1048576)(f0:Bh ec)(d2:ec∈L)(e3: ¬ vY F l)(c9:DD F l)(e6:top.D.length<=90000)(e8: ∀w (p':PS) I nb q c O,p'.base=p.base->p'.lineno=p.lineno->I.like top->I.D=top.D++ [mM nb s p.lineno F info q ls.length c O]->Sl 1 aq q ls.length c (sv ls) O->s<1000000000->DocC σ b L (gs++ [I]) .none p' w->R (hQ (.tuple #[])) w):X (kE b) b1 w:=by
 obtain⟨M,g,f4,y,hs,d1,c5,⟨E,rfl,b6,d0⟩,h⟩:=h
 have d3:((gs++ [top]).map Bk.ob++ [oG E s e])[gs.length+1]? =some (oG E s e):=by simp
 have b9:((gs++ [top]).map Bk.ob++ [oG E s e]).set (gs.length+1) ((oG E s e).setE p.lineno)=(gs++ [top]).map Bk.ob++ [oG E s p.lineno]:=by
  rw[lP1 _ _ (by simp),lS0,lA0,lE0,lW1]
  rfl
 have b7:Ln.zero.text≠l.text:=by
  intro h0
  have:l.blank=true:=by unfold Ln.blank;rw[<-h0,show Ln.zero.text= [] from rfl,List.drop_nil];rfl
  rw[hb] at this;cases this
 have h:Sat σ w (l.at b1::(p.at b::M++(y++(g++(aM (gs++ [top])++L))))):=h.re
 refine xC (l2:=Ln.zero) (ok:=false) (Post:=λp2 b4=>p2=p/\b4=y++(g++(aM (gs++ [top])++L))) e5 h hs hd (by omega) d3 b3 hb (λ_ _ h=>by rw[h.1]) (.inr b7) (λg4 b0 w h f2=>?_) (λh0=>absurd h0 (by decide)) (λ_ w p2 b4 W f1 U h=>?_)
 ·refine bm oP ?_
  have h:Sat σ _ (p.at b::(y++(l.at b0::l.at b1::(M++(g++(aM (gs++ [top])++L)))))):=h.re
  refine rz h b6 b3 c8 e0 f0 (by simp[d2]) (λh0=>absurd h0 e3) (λ_ w h=>?_) (.inr c9)
  exact f2 w p _ ⟨rfl,rfl⟩ h.re
 ·obtain⟨rfl,rfl⟩:=f1
  rw[b9] at U
  unfold ak.k2
  have h:Sat σ w (Ln.zero.at b1::p2.at b::(W++(y++(g++(aM (gs++ [top])++L))))):=h
  refine dF (l:=Ln.zero) h (.head _) ⟨by decide,by decide,by decide,by decide⟩ λw h=>⟨_,rfl,?_⟩
  refine ag rfl (aa ⟨_,Sat.ld h (.tail _ (.head _)) (i:=5) rfl,?_⟩)
  have e7:i64.wrap (p2.depth+1)=((gs.length+1:Nat):Int):=by rw[hd,i64_in _ (by omega)];omega
  rw[e7]
  have b8:DocC σ b (Ln.zero.at b1::L) (gs++ [top]) (DL s p2.lineno F info ls) p2 w:=⟨W,g,_,y,U,d1,c5,⟨E,rfl,b6,d0⟩,h.re⟩
  refine aH.sound ?_
  have V:=U.2.1
  simp only[lA0,lS0,lF0,lK1] at V
  refine aa ?_
  have h:Sat σ w (p2.at b::(Ln.zero.at b1::(W++(y++(g++(aM (gs++ [top])++L)))))):=h.re
  refine⟨_,_,_,h.ldA,?_⟩
  rw[V]
  refine af (by simp;omega) ?_
  intro Y a6
  refine a6 _ _ _ (aa ?_)
  refine⟨_,_,_,h.ldA,?_⟩
  rw[V]
  refine ag (by simp;omega) ?_
  refine Dd b8 e6 λw I nb q c O x e2 e1 e9 e4 h=>⟨_,rfl,?_⟩
  have h:=h.drop
  have h0:=h
  obtain⟨g5,g3,f3,g2,g0,f5,f6,⟨rfl,rfl⟩,h⟩:=h
  refine a6 _ _ _ (aa ?_)
  refine⟨_,_,_,h.ldA,?_⟩
  refine af (by simp) ⟨rfl,?_⟩
  exact e8 w {p2 with stn:=gs.length+1} I nb q c O rfl rfl e2 e1 e9 e4 h0
theorem FS {nb s e:Nat}{F info:List UInt8}{q:OA}{c:Nat}{ls:List (List UInt8)}{g:List ai}(O:Sl 1 aq q ls.length c (sv ls) g)(E:ls.length<1048576)(hb:(dI ls).length<1073741824)(y:ls.head? ≠some [])(V:F.length<1073741824)(hi:info.length<1073741824)(hs:s<1000000000)(I:e<2000000000):
 TD G op (mM nb s e F info q ls.length c g) (.mk {kind:=7,text:=dI ls,title:=info,mark:=F,s:=s,e:=e} []):=by
 have ht:(mM nb s e F info q ls.length c g).tree G (.mk {kind:=7,text:=dI ls,title:=info,mark:=F,s:=s,e:=e} []):=by
  intro ts ht
  refine⟨_,AW (nb:=nb) (s:=s) (e:=e) O E hb y V hi,λa=>?_⟩
  cases ht
  simp[mM,fX]
 refine⟨ht,?_,.inr ⟨_,_,rfl,by decide⟩,⟨j9 pD rfl (.head _),?_,hs,I⟩,λx U=>by simp[mM] at U⟩
 ·rw[eh (d:=mM nb s e F info q ls.length c g) rfl (by decide)]
  exact ht
 ·show ((s:Int).toNat,(e:Int).toNat)=(s,e)
  simp

def OkL (ec:ai)(op:Opt)(Q:List DB->Prop):List (List UInt8)->Nat->List Bk->Leaf->Prop
 | [],_,fs,lf=>qj op fs lf Q
 |l::rem,n,fs,lf=> ∀nl,qd [ec] op (n+1) l nl fs lf (OkL ec op Q rem (n+1))
theorem yu {gs0 fs:List Bk}{top0:Bk}(h:Sims (gs0++ [top0]) fs): ∃gs top,fs=gs++ [top]/\Sims gs0 gs/\top0.sim top:=by
 obtain⟨a,c,rfl,E,y⟩:=vc h
 cases y with
 |cons k g=>cases g;exact⟨a,_,rfl,E,k⟩
theorem AJ {ec:ai}{n:Nat}{nl:UInt8}{cx:List CX}{s:List UInt8}{root top:Bk}{cf gs junk:List Bk}{lf:Leaf}{J:List Bk->Leaf->Prop}(c3:FrS cx cf)(c5:root.isRoot)(V:root::cf=gs++ [top])(e3: ∀a c b4,cx=a++c::b4->(ctx (c::b4) s).all cO=false)(f5:cx.length<1000)(c8:(ctx cx s).length<100000)(e6: ∀(σ:Out) (R:Ending->World->Prop) (L:List ai) (b b1 pb:Nat) (p:PS) (w:World) (X:OA->Nat->WP) (y:List Bk) (E W:Bk) (g:List Bk) (l2:Ln),(∀c4 b7 w,ak.bl1 R X c4 b7 w->X c4 b7 w)->ec∈L->op.at pb∈L->p.pz=kE pb->p.lineno=n+1->n+1<1000000000->
  Sims gs y->top.sim E->FrX (n+1) cx g->W.isRoot->W::g=y++ [E]->LnR l2 s->l2.text.length<100000->p.depth=y.length->y.length=gs.length->DocC σ b (l2.at b1::L) (y++E::junk) lf p w->
  (∀w (p':PS) O U,p'.base=p.base->p'.lineno=p.lineno->J O U->DocC σ b L O U p' w->R (hQ (.tuple #[])) w)->X (kE b) b1 w):
 qd [ec] op (n+1) (ctx cx s) nl (gs++top::junk) lf J:=by
 intro σ R L b pb p w e0 e8 d3 b3 f2 h f1
 have e5:ec∈L:=e0 ec (.head _)
 have b5:LnR (Ct (ctx cx s) nl) (ctx cx s):=⟨Cs (by omega),rfl,rfl⟩
 have a6:(Ct (ctx cx s) nl).text.length<100000:=c8
 generalize Ct (ctx cx s) nl=l at b5 a6⊢
 have f4:=c3.len
 have e7:gs++top::junk= [root]++(cf++junk):=by
  have:gs++top::junk=(gs++ [top])++junk:=by simp
  rw[this,<-V];simp
 rw[e7] at h
 obtain⟨M,c1,d0,c2,hs,ht,a7,f3,h⟩:=h
 refine ak.sound ?_
 refine Sat.bx h λb1 w h=>?_
 repeat (first|refine aa ?_|refine h.tk λw h=>?_|refine⟨_,h.ldA,?_⟩|refine⟨_,_,_,h.ldA,?_⟩|refine h.stA 0 λw h=>?_|refine h.stA 1 λw h=>?_|refine h.stA 2 λw h=>?_|refine h.stA 3 λw h=>?_|refine h.stA 4 λw h=>?_|refine h.stA 5 λw h=>?_|refine h.stA 6 λw h=>?_|refine h.bx λb0 w h=>?_)
 let I:PS:= {p with depth:=0}
 have h:Sat σ _ (l.at b1::I.at b::(M++(c1++(aM ([root]++(cf++junk))++(c2++L))))):=h
 have hd:DocC σ b (l.at b1::L) ([root]++(cf++junk)) lf I _:=⟨M,c1,d0,c2,hs.of rfl rfl rfl,ht.of rfl rfl rfl,a7,f3,h.re⟩
 intro X b9
 refine GY b9 cx [root] cf I l _ c3 hd rfl ⟨by simp,by simp;omega⟩ b5 e3 (by show p.lineno<_;omega) λw g l2 k1 k2 k3 k4 h=>?_
 have c9:Sims (gs++ [top]) (root::g):=by
  rw[<-V]
  exact .cons (Bk.sim.rfl' (a7 root (by simp)).2.2.2) k1
 obtain⟨y,E,b8,b6,f0⟩:=yu c9
 have e4:=b6.len
 have f6:gs.length=cf.length:=by have:=congrArg List.length V;simp at this;omega
 have e9: [root]++(g++junk)=y++E::junk:=by
  have: [root]++(g++junk)=(root::g)++junk:=by simp
  rw[this,b8];simp
 rw[e9] at h
 have d1:l2.text.length<100000:=by rw[k4];exact a6
 have d2:FrX (n+1) cx g:=by have:=k2;rw[show I.lineno=n+1 from b3] at this;exact this
 refine e6 σ R L b b1 pb {I with depth:=(([root].length+cf.length:Nat):Int) - 1} w X y E root g l2 b9 e5 e8 d3 b3 f2 b6 f0 d2 c5 b8 k3 d1 (by show (([root].length+cf.length:Nat):Int) - 1=_;simp;omega) e4 h λw p' O U a1 a2 a3 h=>?_
 exact f1 w p' O U a1 a2 a3 h

def Bk.lk (f g:Bk):Prop:=f.ob.bd=g.ob.bd/\f.ob.s=g.ob.s/\f.own=g.own
theorem Bk.sim.lk {f g:Bk}(h:f.sim g):g.lk f:=by
 obtain⟨⟨m,y⟩,E,_⟩:=h
 exact⟨by rw[y];rfl,by rw[y];rfl,E⟩
theorem Bk.like.lk {f g:Bk}(h:g.like f):g.lk f:=⟨h.1,h.2.1,h.2.2.2⟩
theorem Bk.lk.trans {f I k:Bk}(E:f.lk I)(y:I.lk k):f.lk k:=⟨E.1.trans y.1,E.2.1.trans y.2.1,E.2.2.trans y.2.2⟩
theorem Bk.like.root {f g:Bk}(h:g.like f)(hr:f.isRoot):g.isRoot:=by
 obtain⟨y,E,r2⟩:=hr
 exact⟨y,h.1.trans E,h.2.2.2.trans r2⟩
theorem FrS.relast {cs:List CX}{fs:List Bk}(h:FrS cs fs): ∀(a:List Bk) (t t':Bk),fs=a++ [t]->t'.like t->FrS cs (a++ [t']):=by
 induction h with
 |nil=>intro a t t' e;simp at e
 | @q cs fs f hq h2 ih=>
  intro a t t' e E
  cases a with
  |nil=>
   simp only[lT0,lU0] at e
   obtain⟨rfl,rfl⟩:=e
   cases h2
   exact .q (E.quote hq) .nil
  |cons x a=>
   simp only[lR0,lU0] at e
   obtain⟨rfl,e⟩:=e
   exact .q hq (ih a t t' e E)
 | @i cs fs f g lb w bul num it hf hg hw h2 ih=>
  intro a t t' e E
  cases a with
  |nil=>simp at e
  |cons x a=>
   simp only[lR0,lU0] at e
   obtain⟨rfl,e⟩:=e
   cases a with
   |nil=>
    simp only[lT0,lU0] at e
    obtain⟨rfl,rfl⟩:=e
    cases h2
    exact .i hf (E.itemOf hg) hw .nil
   |cons I a=>
    simp only[lR0,lU0] at e
    obtain⟨rfl,e⟩:=e
    exact .i hf hg hw (ih a t t' e E)
theorem Ec {cx:List CX}{root top g:Bk}{cf gs:List Bk}(U:FrS cx cf)(hr:root.isRoot)(y:root::cf=gs++ [top])(O:g.like top): ∃E I,E::I=gs++ [g]/\E.isRoot/\FrS cx I:=by
 cases gs with
 |nil=>
  simp only[lT0,lU0] at y
  obtain⟨rfl,rfl⟩:=y
  exact⟨g,[],rfl,O.root hr,by cases U;exact .nil⟩
 |cons x gs=>
  simp only[lR0,lU0] at y
  obtain⟨rfl,e⟩:=y
  exact⟨root,gs++ [g],rfl,hr,U.relast gs top g e O⟩
theorem ctxQ: ∀(cs:List CX),cs.getLast? =some .q->(ctx cs []).all cO=false
 | [],h=>by simp at h
 | .q::cs,h=>rfl
 | .i w::cs,h=>by
  cases cs with
  |nil=>simp at h
  |cons c cs=>
   have g:=ctxQ (c::cs) (by rw[lT2] at h;exact h)
   have y:ctx (c::cs) []≠ []:=by intro h0;rw[h0] at g;cases g
   show (if ctx (c::cs) []= [] then [] else hN w 32++ctx (c::cs) []).all cO=false
   rw[if_neg y,vU];exact g
theorem Ab: ∀ {cs:List CX},(∀c∈cs,c≠ .q)->ctx cs []= []
 | [],_=>rfl
 | .q::cs,h=>absurd rfl (h .q (.head _))
 | .i w::cs,h=>by
  show (if ctx cs []= [] then [] else hN w 32++ctx cs [])= []
  rw[if_pos (Ab λc hc=>h c (.tail _ hc))]
theorem Aa: ∀cx:List CX,∃g y,cx=g++y/\(∀c∈y,c≠ .q)/\(g= []\/g.getLast? =some .q)
 | []=>⟨[],[],rfl,(λc hc=>by cases hc),.inl rfl⟩
 |c::cx=>by
  obtain⟨g,y,rfl,I,E⟩:=Aa cx
  rcases E with rfl|E
  ·cases c with
   |q=>exact⟨[.q],y,rfl,I,.inr rfl⟩
   |i w=>
    refine⟨[],.i w::y,rfl,λc hc=>?_,.inl rfl⟩
    rcases lW0.1 hc with rfl|hc
    ·intro h;cases h
    ·exact I c hc
  ·refine⟨c::g,y,rfl,I,.inr ?_⟩
   cases g with
   |nil=>simp at E
   |cons d g=>rw[lT2];exact E
theorem nbQ {y:List CX}(h:y= []\/y.getLast? =some .q): ∀a c g,y=a++c::g->(ctx (c::g) []).all cO=false:=by
 intro a c g e
 rcases h with rfl|h
 ·simp at e
 ·refine ctxQ _ ?_
  rw[e,lE4] at h
  cases E:(c::g).getLast? with
  |none=>simp at E
  |some x=>rw[E] at h;exact h
theorem Fx (g2:op.task=false){ec:ai}{n:Nat}{nl:UInt8}{cx:List CX}{root top:Bk}{cf gs junk:List Bk}{lf:Leaf}{pend:List IN}{J:List Bk->Leaf->Prop}(j0:FrS cx cf)(g3:root.isRoot)(c8:root::cf=gs++ [top])(i0:cx.length<1000)(g7:(ctx cx []).length<100000)(n2:Pd G op pend junk lf)(o3:junk.length<100000)(e4: ∀E∈gs++top::junk,E.D.length<=90000)(m1:(txF (gs++top::junk)).length<=90000)(m6: ∀I O V c9 c3 b9 b8 c4,Sims gs I->O.lk top->FrS cx c4->b8.isRoot->b8::c4=I++ [O]->O.D=top.D++c9->TDs G op c9 c3->Pd G op b9 V .none->c3++b9=pend->(V.length<=junk.length/\ ∀N,(∀E∈junk,E.D.length<=N)-> ∀E∈V,E.D.length<=N+1)->(txF (I++O::V)).length<=(txF (gs++top::junk)).length+1->
  (V= []\/ ∃f rest lb num it,∃bul:UInt8,V=f::rest/\f.isList lb bul.toNat num it/\ ∃x,pend= [x]/\x.h.char= [bul])->(∀wd,cx.getLast? =some (.i wd)->O.ob.e=top.ob.e)->J (I++O::V) .none):
 qd [ec] op (n+1) (ctx cx []) nl (gs++top::junk) lf J:=by
 intro σ R L b pb p w o2 i2 h5 o4 p4 h m4
 obtain⟨b4,b5,rfl,e9,f1⟩:=Aa cx
 have g6:ctx (b4++b5) []=ctx b4 []:=by rw[ov,Ab e9]
 rw[g6] at g7⊢
 obtain⟨b3,y,rfl,f3,d3⟩:=j0.split
 have f2:LnR (Ct (ctx b4 []) nl) (ctx b4 []):=⟨Cs (by omega),rfl,rfl⟩
 generalize Ct (ctx b4 []) nl=l at f2⊢
 rw[lA0] at i0
 have n3:=f3.len
 have g1:=d3.len
 have h7:gs++top::junk= [root]++(b3++(y++junk)):=by
  have:gs++top::junk=(gs++ [top])++junk:=by simp
  rw[this,<-c8];simp
 have h0:=h
 rw[h7] at h
 obtain⟨M,f6,h3,f5,hs,ht,c5,m5,h⟩:=h
 refine ak.sound ?_
 refine Sat.bx h λb1 w h=>?_
 repeat (first|refine aa ?_|refine h.tk λw h=>?_|refine⟨_,h.ldA,?_⟩|refine⟨_,_,_,h.ldA,?_⟩|refine h.stA 0 λw h=>?_|refine h.stA 1 λw h=>?_|refine h.stA 2 λw h=>?_|refine h.stA 3 λw h=>?_|refine h.stA 4 λw h=>?_|refine h.stA 5 λw h=>?_|refine h.stA 6 λw h=>?_|refine h.bx λb0 w h=>?_)
 let b6:PS:= {p with depth:=0}
 have h:Sat σ _ (l.at b1::b6.at b::(M++(f6++(aM ([root]++(b3++(y++junk)))++(f5++L))))):=h
 have hd:DocC σ b (l.at b1::L) ([root]++(b3++(y++junk))) lf b6 _:=⟨M,f6,h3,f5,hs.of rfl rfl rfl,ht.of rfl rfl rfl,c5,m5,h.re⟩
 intro X e0
 refine GY e0 b4 [root] b3 b6 l _ f3 hd rfl ⟨by simp,by simp;omega⟩ f2 (nbQ f1) (by show p.lineno<_;omega) λw W l2 k1 k2 k3 k4 h=>?_
 have o0:=k1.len
 have h:DocC σ b (l2.at b1::L) (([root]++W)++(y++junk)) lf {b6 with depth:=(([root].length+b3.length:Nat):Int) - 1} w:=by simpa using h
 refine walkB e0 b5 ([root]++W) y _ l2 w d3 e9 h (by simp;omega) ⟨by simp,by simp;omega⟩ k3 λw l3 k5 h=>?_
 have g4:Sims (gs++ [top]) (root::(W++y)):=by
  rw[<-c8]
  exact .cons (Bk.sim.rfl' (c5 root (by simp)).2.2.2) (Sims.append k1 (Sims.refl λf e7=>(c5 f (by simp[e7])).2.2.2))
 obtain⟨I,O,e3,d0,d1⟩:=yu g4
 have h2: ∀wd,(b4++b5).getLast? =some (.i wd)->O=top:=by
  intro wd b7
  have h6:b5≠ []:=by
   rintro rfl
   rw[lG0] at b7
   rcases f1 with rfl|h
   ·simp at b7
   ·rw[h] at b7;cases b7
  have g5:y≠ []:=by
   rintro rfl
   have n1:=g1.1
   rw[lK1] at n1
   have:=lY0.2 h6
   omega
  cases hz:y.getLast? with
  |none=>exact absurd (List.getLast?_eq_none_iff.1 hz) g5
  |some z=>
   have a1:(root::(b3++y)).getLast? =some z:=by rw[<-lR0,lE4,hz];rfl
   have a2:(root::(W++y)).getLast? =some z:=by rw[<-lR0,lE4,hz];rfl
   rw[c8] at a1
   rw[e3] at a2
   rw[lE4] at a1 a2
   simp at a1 a2
   rw[a1,a2]
 have p3:=d0.len
 have f0:gs.length=(b3++y).length:=by have:=congrArg List.length c8;simp at this⊢;omega
 have i4:([root]++W)++(y++junk)=I++O::junk:=by
  have:([root]++W)++(y++junk)=(root::(W++y))++junk:=by simp
  rw[this,e3];simp
 rw[i4] at h
 have f4:=(Sims.append (d0:Sims gs I) (.cons d1 (Sims.refl (fs:=junk) λf e7=>by
  have:f∈ [root]++(b3++(y++junk)):=by simp[e7]
  exact(c5 f this).2.2.2))).mem
 have h8:FrS (b4++b5) (W++y):=k2.toS.append d3
 have i3: ∀E∈I++O::junk,E.D.length<=90000:=by
  have h4: ∀ {e8 e6:List Bk},Sims e8 e6->(∀E∈e8,E.D.length<=90000)-> ∀E∈e6,E.D.length<=90000:=by
   intro e8 e6 h9
   induction h9 with
   |nil=>intro _ E U;cases U
   |cons k _ l5=>
    intro g0 E U
    rcases lW0.1 U with rfl|U
    ·rw[k.2.2.1];exact g0 _ (.head _)
    ·exact l5 (λx e5=>g0 x (.tail _ e5)) E U
  intro E U
  rcases lP0.1 U with U|U
  ·exact h4 d0 (λx e5=>e4 x (by simp[e5])) E U
  ·rcases lW0.1 U with rfl|U
   ·rw[d1.2.2.1];exact e4 top (by simp)
   ·exact e4 E (by simp[U])
 have i1:(txF (I++O::junk)).length<=90000:=by rw[f4.2];exact m1
 refine Ej g2 e0 i2 n2 I O {b6 with depth:=((([root]++W).length+y.length:Nat):Int) - 1} l3 w h5 (by simp at f0;omega) i3 i1 h (by simp at f0⊢;omega) k5 λw p' d2 c9 V c3 b9 a1 a2 a3 a4 a5 i8 k0 a8 a9 a10 h=>?_
 obtain⟨b8,c4,m3,r2,n0⟩:=Ec h8 g3 e3 a3
 refine m4 w p' _ _ a1 a2 (m6 I d2 V c9 c3 b9 b8 c4 d0 (a3.lk.trans d1.lk) n0 r2 m3 (by rw[a4,d1.2.2.1]) a5 i8 k0 a8 ?_ a10 λwd j1=>by rw[a3.2.2.1,h2 wd j1]) h
 have t1:txF (I++d2::V)=txF I++txF (d2::V):=bE _ _
 have m2:txF (I++O::junk)=txF I++txF (O::junk):=bE _ _
 rw[<-f4.2,t1,m2]
 simp only[lA0];omega
end Go.Proofs.YtendaipfdnhnaaaGreatDoor
