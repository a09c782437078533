/- Part 7 of the proof of the law FnPlaced: for every input the law returns true, the inputs read as they did, and memory that was there is as it was; under the conditions of the given row alone. -/
import Derived.SliceStrings
import Derived.WideKeyArgs
import Derived.Below
import Derived.Deep.Slices
import Derived.ChangeArms
import Derived.OpenShut
import Derived.ChangeMaps5
import Derived.MakeChecks
import Derived.LaidSub
import Derived.FnData
import Derived.Test.YtendaipfdnhnaaaGreatDoorA6
set_option linter.all false
open Go.IntKind(i64)
open ByteArray renaming mk→hP
open List renaming replicate→hN
namespace Go.Proofs.YtendaipfdnhnaaaGreatDoor
open Go.Proofs Go.IntWalk Go.RowKit
set_option maxRecDepth 20000
variable {σ:Out} {w:World} {L L':List ai} {R:Ending->World->Prop} {G:List UInt8->List Inl} {op:Opt}

theorem tJ: ∀(l:List BN) (n:Nat),(gh n l).length=l.length
 | [],n=>by rw[gh];rfl
 |b::r,n=>by rw[gh,lF0,tJ r,lF0]
theorem Cn {l:List BN}(E:okS l)(hd:dsS l)(y:l≠ []):fT (bv [10] (aD l).tail)=(aD l).tail:=by
 have g:=wM.2.1 l E hd y;exact tC g.ne λs hs h=>((g.ch s hs).1 10 h).1 rfl
theorem yo {ec:ai}(e1:As ec){q:OA}{n c:Nat}{vs:List UInt8}(c8:ec∈L)(e3:BArg σ L q n vs)(h:Sat σ w L)(a7: ∀w,Sat σ w L->R (hQ (hV true)) w):callE P mV #[hT q n c] R w:=by
 refine ko.sound ?_;refine bJ (λ_=>a7 w h) λ_=>?_
 refine Gw ⟨_,rfl,?_⟩;refine bJ (λ_=>a7 w h) λb3=>?_
 have b3:n<=300:=by simpa using b3
 refine DT e3 b3 h λw l y g us RM KM e2 g0 g2 h=>⟨_,_,_,_,_,_,_,_,_,_,_,_,_,_,_,rfl,?_⟩
 obtain⟨b4,c4,c1,f0,d2⟩:=Bu e2;refine Sat.bx h λE w h=>?_
 have h:Sat σ w (ndC E {}::(RM++(KM++L))):=h
 refine h.st10 0 {} (({kind:=1}:NH).nd none 0 y l.length g) λw h=>?_
 have h:Sat σ w (ndC E (({kind:=1}:NH).nd none 0 y l.length g)::(RM++(KM++L))):=h
 refine xO h λg5 e4=>⟨_,_,_,_,_,_,_,_,_,_,rfl,?_⟩
 obtain⟨d0,e7⟩:=Ae (op:=Ep) rfl rfl rfl rfl e1 b4 c4 c1 f0 d2;refine zM e7 (L:=ndC E (({kind:=1}:NH).nd none 0 y l.length g)::(RM++(KM++L))) (.tail _ (lB0 _ (lB0 _ c8))) e4 λg3 u M s e xs e5 e8 e9=>xH ?_
 subst e8;obtain⟨g4,f6,I,H,O,f4,a6,W,ex,rfl,rfl,a,c5,b6,b9⟩:=e5;obtain⟨rfl,rfl⟩:=IN.mk.inj ex;have f1:=b6.len;have f2:=b9.1;have f5:=tJ l 1;have c9:H=l.length:=by omega
 refine Sat.bx e9 λV w h=>?_
 have h:Sat σ w (inC V {}::((a6++W)++(ndC E (({kind:=1}:NH).nd none 0 y l.length g)::(RM++(KM++L))))):=h
 refine h.st16 0 {} ((({kind:=1,s:=s,e:=e}:IH)).nd I H O) λw h=>h.tk λw h=>?_
 have h:Sat σ w (inC V ((({kind:=1,s:=s,e:=e}:IH)).nd I H O)::((a6++W)++(ndC E (({kind:=1}:NH).nd none 0 y l.length g)::(RM++(KM++L))))):=h
 refine⟨I,H,O,Sat.ld h (.head _) (i:=7) rfl,y,l.length,g,Sat.ld h (.tail _ (lB0 _ (.head _))) (i:=7) rfl,ag (by rw[c9];simp) ⟨I,H,O,Sat.ld h (.head _) (i:=7) rfl,?_⟩⟩;have b7:=Cn b4 c4 c1;refine zU d0 (by rw[b7,lY2];omega) h λe6 g1 g6 c2 f3 U=>⟨_,_,_,rfl,h.same U (.head _) (lB0 _ (.head _)) 1,?_⟩
 rw[b7];have d1:InO (gh 1 l) 1 (aD l).tail.length:=Fs.2.1 l b4 1 1 _ (by omega) (by omega) (by omega);have U:Sat σ e6 (a6++(W++(c2++(inC V ((({kind:=1,s:=s,e:=e}:IH)).nd I H O)::(ndC E (({kind:=1}:NH).nd none 0 y l.length g)::(RM++(KM++L))))))):=U.re
 refine OrdSt.ok (Fe d1) (by rw[lY2];omega) b6 b9 c5 U λd3 e0=>⟨_,rfl,a7 d3 ?_⟩
 exact e0.less (a6++(W++(c2++(inC V ((({kind:=1,s:=s,e:=e}:IH)).nd I H O)::(ndC E (({kind:=1}:NH).nd none 0 y l.length g)::(RM++KM))))))
end Go.Proofs.YtendaipfdnhnaaaGreatDoor

namespace Go.Proofs.YtendaipfdnhnaaaGreatDoor
open Go.Proofs Go.ChangeShapes Go.WideShapes
theorem oJ {g y:World}(h:Sat (xQ g) y (fJ g)){b:Nat}(hb:b<g.heap.size):y.heap[b]? =g.heap[b]? :=by
 have E:(b,g.heap[b])∈fJ g:=lZ1.2 ⟨(g.heap[b],b),lA3.2 (by simp[hb]),rfl⟩;rw[h.at_ _ E,lP2 hb]
theorem xG {g y:World}(h:Sat (xQ g) y (fJ g)){p:MemPlace}(E:p.block<g.heap.size):g.sameAt y p:=by
 cases p with
 |cell b o=>exact World.cell?_of_block (w:=g) (oJ h E)
 |map b=>exact oJ h E
theorem yC {g y:World}(h:Sat (xQ g) y (fJ g)){a:Addr}{v:Value}(hc:g.cell? a=some v):y.cell? a=some v:=by
 have hb:a.block<g.heap.size:=by
  rcases lL4 a.block g.heap.size with E|H
  ·exact E
  ·have:g.heap[a.block]? =none:=lM4 H;unfold World.cell? at hc;rw[this] at hc;cases hc
 rw[<-hc];unfold World.cell?;rw[oJ h hb]
theorem u8_of {n:Int}(h:(Lit.int .u8 n).wf=true): ∃m:Nat,m<256/\n=(m:Int):=by
 have g:(decide (IntKind.u8.min<=n) && decide (n<=IntKind.u8.max))=true:=h;simp only[lK1,decide_eq_true_eq] at g;have a:IntKind.u8.min=0:=rfl;have b:IntKind.u8.max=255:=rfl;rw[a,b] at g;exact⟨n.toNat,by omega,by omega⟩
end Go.Proofs.YtendaipfdnhnaaaGreatDoor


namespace Go.Proofs.YtendaipfdnhnaaaGreatDoor
open Go.Proofs Go.ChangeShapes Go.WideShapes Go.Deep
theorem Bl {P:Program}{E:Type}{enc:TypeId × Value->E}{y:World}{r:Reach}{b0:Nat}{t e:TypeId}{v:Value}{d:DataW E}{a7:List MemPlace}(ht:P.underlying t=some (.slice e))(b6:P.underlying e=some (.int .u8))(hc:P.cellsOf e=1)(O:Value.okWide P y r b0 t v)(h:DataW.Trod enc P y 0 (λ_=>true) true t v d a7): ∃q n c vs,v= hT q n c/\BArg (xQ y) (fJ y) q n vs:=by
 obtain⟨a0,len,U,rfl⟩:=okWide_slice ht O;obtain⟨c3,b8⟩:=h;rcases open_slice1 ht hc b8 with ⟨g,b3⟩|⟨a,c4,c2,m,n,V,D,c5,g,_,c9,d0,hz,b3,I⟩
 ·simp[Value.cells] at g;obtain⟨rfl,rfl,rfl⟩:=g;exact⟨none,0,0,[],rfl,⟨rfl,λi hi=>by simp at hi⟩⟩
 ·simp[Value.cells] at g;obtain⟨rfl,rfl,rfl⟩:=g;simp only[if_true] at hz;refine⟨some a,len,U,(List.range len).map λi=>match V i with| .int _ n=>UInt8.ofNat n.toNat|_=>0,rfl,⟨by simp,λi hi=>?_⟩⟩;simp only[lS0,List.length_range] at hi;refine⟨a,rfl,λw b9=>?_⟩;obtain⟨b7,c1⟩:=I i (by omega);obtain⟨k,a6,_,b4⟩:=DataW.trod_int b6 c1;have b5:V i= .int .u8 k:=(List.cons.inj a6).1;obtain⟨j,c8,rfl⟩:=u8_of b4;rw[yC b9 b7,List.getElem_map,List.getElem_range,b5];simp;omega
end Go.Proofs.YtendaipfdnhnaaaGreatDoor


namespace Go.Proofs.YtendaipfdnhnaaaGreatDoor
open Go.Proofs Go.ChangeShapes Go.WideShapes Go.RowKit
def Dg:DataW Unit->Bool
 | .agg [.lit (.string a),.lit (.string b)]=>decide (b.length<=10) && !b.isEmpty
 |_=>false
theorem Df {r:DataW Unit}(h:Dg r=true): ∃a b,r= .agg [.lit (.string a),.lit (.string b)]/\b.length<=10/\b≠ []:=by
 unfold Dg at h;split at h
 ·rename_i a b;refine⟨a,b,rfl,?_,?_⟩
  ·simp at h;exact h.1
  ·simp at h;exact h.2
 ·exact absurd h (by simp)
theorem wS {P:Program}{TA TB TS:TypeId}{N:String}{E:World}{I:List (DataW Unit)}(c5:P.underlying TA=some (.array 12 TB))(c1:P.underlying TB=some (.array 2 TS))(U:P.underlying TS=some .string)(c2:P.cellsOf TB=2)(d1:P.cellsOf TS=1)(b5:P.globalNamed N=some 1)(e5:(P.globals[1]?).map (·.type)=some TA){l:List (String × DataW Unit)}{d:DataW Unit}(e7:l.filter (λx=>x.1==N)= [(N,d)])(c3:d= .agg I)(b9:I.all Dg=true)(d0:d.handleName?.isNone=true)(h:laidMetH P l E): ∃c,As c/\c∈fJ E:=by
 have h:=h.filter (λx=>x.1==N);rw[e7,MakeChecks.laidMetH_plain _ _ _ (by simp[d0])] at h;obtain⟨f4,⟨g,t,cs,e9,p,q,e6,ht,hv,hd,_,_⟩,_,_⟩:=h;obtain rfl:=Option.some.inj (b5.symm.trans e6);obtain rfl:=Option.some.inj (e5.symm.trans ht);obtain⟨xs,m,_,ex,f0,f3,d2⟩:=DataW.trod_array c5 hd;have b3:d= .agg (xs.map (·.1)):=(Prod.mk.inj ex).1;rw[c3] at b3;have em:=DataW.agg.inj b3;simp only[World.var?,b5,Option.bind_some] at hv;split at hv
 case h_2=>cases hv
 rename_i c ty d3 hb;cases hv
 have O:1<E.heap.size:=(lZ3.1 hb).1;refine⟨(1,E.heap[1]),⟨cs,ty,d3,?_,?_⟩,lZ1.2 ⟨(E.heap[1],1),lA3.2 (by simp[O]),rfl⟩⟩
 ·rw[lP2 O] at hb;exact congrArg (Prod.mk 1) (Option.some.inj hb)
 intro i hi;have a7:=d2 i hi;rw[c2,lI0 (by omega)] at a7;obtain⟨a6,f6,_,e8,_,f2,H⟩:=DataW.trod_array c1 a7;have b7:=H 0 (by decide);have b4:=H 1 (by decide);rw[d1,lI0 (by omega)] at b7 b4;obtain⟨s0,e2,f5,_⟩:=DataW.trod_string U b7;obtain⟨y,e3,e4,_⟩:=DataW.trod_string U b4;have hr:Dg xs[i].1=true:=by
  refine(lD2.1 b9) _ ?_;rw[em];exact lE5 (lP1 _)
 obtain⟨a,V,b6,c9,c8⟩:=Df hr;rw[e8] at b6;have c4:=DataW.agg.inj b6;have b8:a6[1].1= .lit (.string V):=by
  have:=congrArg (λl:List (DataW Unit)=>l[1]?) c4
  simp only[lZ2,lR5,lF2,lI0 (show 1<a6.length by omega),lI3,lH1] at this;exact this
 rw[e4] at b8;have t1:y.data.toList=V:=by simpa using b8
 refine⟨s0.data.toList,y.data.toList,?_,?_,by rw[t1];exact c9,by rw[t1];exact c8⟩
 ·have:(((((cs.toList.drop (i*2)).take 2).drop (0*1)).take 1)[0]?)=some (hX s0):=by rw[e2];rfl
  rw[show bs s0.data.toList=s0 from rfl,<-lQ2];have e:i*2=2*i:=lQ6 _ _;rw[e] at this
  simpa using this
 ·have:(((((cs.toList.drop (i*2)).take 2).drop (1*1)).take 1)[0]?)=some (hX y):=by rw[e3];rfl
  rw[show bs y.data.toList=y from rfl,<-lQ2];have e:i*2=2*i:=lQ6 _ _;rw[e] at this
  simpa using this
end Go.Proofs.YtendaipfdnhnaaaGreatDoor

