/- Part 7 of the proof of the law FnExactLines: for every input the law returns true, the inputs read as they did, and memory that was there is as it was; under the conditions of the given row alone. -/
import Derived.SliceStrings
import Derived.WideKeyArgs
import Derived.Below
import Derived.Deep.Slices
import Derived.ChangeArms
import Derived.OpenShut
import Derived.ChangeMaps5
import Derived.MakeChecks
import Derived.LaidSub
import Derived.FnData
import Derived.Test.YtendaipfdnhnaaaGreatDoorA6
set_option linter.all false
open Go.IntKind(i64)
open ByteArray renaming mk→hP
open List renaming replicate→hN
namespace Go.Proofs.YtendaipfdnhnaaaGreatDoor
open Go.Proofs Go.IntWalk Go.RowKit
set_option maxRecDepth 20000
variable {σ:Out} {w:World} {L L':List ai} {R:Ending->World->Prop} {G:List UInt8->List Inl} {op:Opt}
namespace bY
def k1 (R:EP)(Xa:OA->Nat->Nat->Int->OA->Nat->Nat->OA->Nat->Nat->Int->Int->WP)(b4:OA)(b8 c1:Nat)(c3:Int)(b3:OA)(b7 b5 c8:Nat)(H:OA)(g a6:Nat)(b9 c2:Int)(c4:Bool)(w:World):Prop:=
 br c4
 (ldB16 w c8 λc5=>
 ∃E I,∃O b6,(Instr.buildSlice bN 1 #[(0,c5.V)]).run P w= .ok (hT E I O) b6/\
 ∃y U,∃W a7,(Builtin.append_ #[bN,bN] bN #[hT b3 b7 b5,hT E I O]).run P b6= .ok (hT y U W) a7/\
 Xa b4 b8 c1 c3 y U W H g a6 b9 (i64.wrap (c2+1)) a7)
 (Xa b4 b8 c1 c3 b3 b7 b5 H g a6 b9 (i64.wrap (c2+1)) w)
def bl3 (R:EP)(e7:Int->OA->Nat->Nat->OA->Nat->Nat->Int->Int->WP)(I:Int)(O:OA)(W e6:Nat)(V:OA)(U e1:Nat)(a6 E:Int)(w:World):Prop:=
 br (decide (E<a6))
 (0<=E/\E<(U:Int)/\
 aA V λf4=>
 ldA16 w (f4.add (Int.toNat E*16)) λf5=>
 box w (N16.C {}) ak λH f0=>
 st16 f0 H f5 λe4=>
 0<=E/\E<(W:Int)/\
 aA O λe9=>
 ldA10 e4 (e9.add (Int.toNat E*10)) λf3=>
 box e4 (N10.C {}) af λy f1=>
 st10 f1 y f3 λg=>
 ∃e2,g.cell? (hZ H 0)=some (hY e2)/\
 ∃c8,g.cell? (hZ y 0)=some (hY c8)/\
 br (e2 !=c8)
 (False)
 (∃d0,g.cell? (hZ H 8)=some (hY d0)/\
 ∃d3,g.cell? (hZ y 8)=some (hY d3)/\
 br (d0 !=(i64.wrap (I+d3)))
 (False)
 (∃d1,g.cell? (hZ H 9)=some (hY d1)/\
 ∃c9,g.cell? (hZ y 9)=some (hY c9)/\
 br (d1 !=(i64.wrap (I+c9)))
 (∃e5,g.cell? (hZ H 0)=some (hY e5)/\
 br (e5 !=5)
 (False)
 (∃e0,g.cell? (hZ H 9)=some (hY e0)/\
 ∃d4,g.cell? (hZ y 9)=some (hY d4)/\
 br (e0 !=(i64.wrap ((i64.wrap (I+d4)) - 1)))
 (False)
 (∃b4 a7 b7,g.cell? (hZ H 7)=some (hT b4 a7 b7)/\
 ∃c1 c2 b5,g.cell? (hZ y 7)=some (hT c1 c2 b5)/\
 ∃d5,g.cell? (hZ y 8)=some (hY d5)/\
 callE P ig #[hT b4 a7 b7,hT c1 c2 b5,hY (i64.wrap ((i64.wrap (I+d5)) - 1))] (λe f2=> ∃d2,e= hQ (hV d2)/\
 br (!d2)
 (False)
 (e7 I O W e6 V U e1 a6 (i64.wrap (E+1)) f2)) g)))
 (∃c4 b3 b6,g.cell? (hZ H 7)=some (hT c4 b3 b6)/\
 ∃c3 b8 b9,g.cell? (hZ y 7)=some (hT c3 b8 b9)/\
 ∃c5,g.cell? (hZ y 8)=some (hY c5)/\
 callE P ig #[hT c4 b3 b6,hT c3 b8 b9,hY (i64.wrap ((i64.wrap (I+c5)) - 1))] (λe e8=> ∃e3,e= hQ (hV e3)/\
 br (!e3)
 (False)
 (e7 I O W e6 V U e1 a6 (i64.wrap (E+1)) e8)) g))))
 (R (hQ (hV true)) w)
def l3 (R:EP)(W:Int)(g:OA)(H O:Nat)(E:OA)(y I:Nat)(U V:Int)(w:World):Prop:=
 ∀X:Int->OA->Nat->Nat->OA->Nat->Nat->Int->Int->WP,(∀W g H O E y I U V w,bl3 R X W g H O E y I U V w->X W g H O E y I U V w)->X W g H O E y I U V w
def bl2 (R:EP)(c9:Int->OA->Nat->Nat->OA->Nat->Nat->OA->Nat->Nat->Int->Int->WP)(b5:Int)(a6:OA)(y a7:Nat)(O:OA)(E W:Nat)(U:OA)(I c2:Nat)(b3 g:Int)(w:World):Prop:=
 br (decide (g<b3))
 (0<=g/\g<(I:Int)/\
 aA U λd2=>
 ldA10 w (d2.add (Int.toNat g*10)) λd1=>
 box w (N10.C {}) af λb4 d0=>
 st10 d0 b4 d1 λH=>
 ∃c8,H.cell? (hZ b4 0)=some (hY c8)/\
 br (decide (c8<20))
 (ldB10 H b4 λd3=>
 ∃c3 b7,∃b9 c5,(Instr.buildSlice au 1 #[(0,d3.V)]).run P H= .ok (hT c3 b7 b9) c5/\
 ∃b6 c1,∃b8 c4,(Builtin.append_ #[au,au] au #[hT O E W,hT c3 b7 b9]).run P c5= .ok (hT b6 c1 b8) c4/\
 c9 b5 a6 y a7 b6 c1 b8 U I c2 b3 (i64.wrap (g+1)) c4)
 (c9 b5 a6 y a7 O E W U I c2 b3 (i64.wrap (g+1)) H))
 (br ((y:Int) !=(E:Int))
 (False)
 (l3 R b5 O E W a6 y a7 (y:Int) 0 w))
def l2 (R:EP)(b3:Int)(U:OA)(W V:Nat)(g:OA)(I O:Nat)(y:OA)(E H:Nat)(a6 a7:Int)(w:World):Prop:=
 ∀X:Int->OA->Nat->Nat->OA->Nat->Nat->OA->Nat->Nat->Int->Int->WP,(∀b3 U W V g I O y E H a6 a7 w,bl2 R X b3 U W V g I O y E H a6 a7 w->X b3 U W V g I O y E H a6 a7 w)->X b3 U W V g I O y E H a6 a7 w
def bl1 (R:EP)(Xa:OA->Nat->Nat->Int->OA->Nat->Nat->OA->Nat->Nat->Int->Int->WP)(V:OA)(H b3:Nat)(b4:Int)(U:OA)(a6 W:Nat)(I:OA)(O b5:Nat)(a7 g:Int)(w:World):Prop:=
 br (decide (g<a7))
 (0<=g/\g<(O:Int)/\
 aA I λa1=>
 ldA16 w (a1.add (Int.toNat g*16)) λb9=>
 box w (N16.C {}) ak λy b8=>
 st16 b8 y b9 λE=>
 ∃b7,E.cell? (hZ y 0)=some (hY b7)/\
 br (decide (b7<20))
 (∃b6,E.cell? (hZ y 0)=some (hY b6)/\
 k1 R Xa V H b3 b4 U a6 W y I O b5 a7 g (b6 !=13) E)
 (k1 R Xa V H b3 b4 U a6 W y I O b5 a7 g false E))
 (l2 R b4 U a6 W none 0 0 V H b3 (H:Int) 0 w)
def l1 (R:EP)(O:OA)(W a7:Nat)(b3:Int)(I:OA)(V U:Nat)(g:OA)(y E:Nat)(a6 H:Int)(w:World):Prop:=
 ∀X:OA->Nat->Nat->Int->OA->Nat->Nat->OA->Nat->Nat->Int->Int->WP,(∀O W a7 b3 I V U g y E a6 H w,bl1 R X O W a7 b3 I V U g y E a6 H w->X O W a7 b3 I V U g y E a6 H w)->X O W a7 b3 I V U g y E a6 H w
end bY
def bY (R:EP)(H:OA)(g E:Nat)(y:OA)(I O:Nat)(U:Int)(w:World):Prop:=
 bY.l1 R y I O U none 0 0 H g E (g:Int) 0 w
theorem bY.sound {R x0q x0n x0c x1q x1n x1c x2 w}(h:bY R x0q x0n x0c x1q x1n x1c x2 w):callE P ig #[hT x0q x0n x0c,hT x1q x1n x1c,hY x2] R w:=
 aH [(43,.lp [23,47,143,323,347,367] (bY.bl1 R) λXa=> [(115,.mk [23,47,143,186,323,347,367,580] (bY.k1 R Xa))]),(175,.lp [47,143,203,703,727,747] (bY.bl2 R) λy=> []),(351,.no),(703,.lp [47,203,1083,1107,1127] (bY.bl3 R) λg=> [(371,.no)])] Tryz.func18 Tryz.call18 h

abbrev ixC (b:Nat)(v:N16):ai:=(b,cel v.C.toList ak)
abbrev nxC (b:Nat)(v:N10):ai:=(b,cel v.C.toList af)
def AtG (xs:List IN)(O:List ND)(base:Nat):Prop:= ∀ {σ:Out} {w:World} {L:List ai} {R:Ending->World->Prop} {q:OA} {n c:Nat} {vs:List Value} {RM KM:List ai} {I:OA} {E H:Nat} {us:List Value} {y g:List ai},INs xs vs KM->Sl 16 ak q n c vs RM->n<1073741824->NDs O us g->Sl 10 af I E H us y->E<1073741824->Sat σ w (RM++(KM++(y++(g++L))))->(∀w,Sat σ w (RM++(KM++(y++(g++L))))->R (hQ (hV true)) w)->
 callE P ig #[hT q n c,hT I E H,hY (base:Nat)] R w
theorem GO {k:Bool}{xs:List IN}{b6:OA}{W b7:Nat}{base:Int}{q:OA}{n c:Nat}{vs:List Value}{RM KM:List ai}(c1:INs xs vs KM)(d3:Sl 16 ak q n c vs RM)(e8:n<1073741824)(d1: ∀x∈xs,if k then x.h.kind<11 else 20<=x.h.kind)(h:Sat σ w (RM++L))(e2: ∀w g E M,Sl 16 ak g (if k then n else 0) E (if k then vs else []) M->Sat σ w (M++(RM++L))->bY.l2 R base g (if k then n else 0) E none 0 0 b6 W b7 (W:Nat) 0 w):bY.l1 R b6 W b7 base none 0 0 q n c (n:Nat) 0 w:=by
 have e5:=c1.len
 have e7:=d3.1
 intro X d0
 have c8: ∀(H:List IN) (v1 b3:List Value) (c4:List ai) (j:Nat) (g:OA) (E:Nat) (M:List ai) (w:World),v1++b3=vs->v1.length=j*16->j+H.length=n->INs H b3 c4->(∀x∈H,if k then x.h.kind<11 else 20<=x.h.kind)->Sl 16 ak g (if k then j else 0) E (if k then v1 else []) M->Sat σ w (M++(RM++L))->X b6 W b7 base g (if k then j else 0) E q n c (n:Nat) (j:Nat) w:=by
  intro H
  induction H with
  |nil=>
   intro v1 b3 c4 j g E M w hv b9 b4 b5 U I h
   cases b5
   rw[lG0] at hv
   simp only[lK1,lL1] at b4
   subst hv b4
   exact d0 _ _ _ _ _ _ _ _ _ _ _ _ _ (ae (by rw[decide_eq_false_iff_not];omega) (e2 w g E M I h))
  |cons x H d2=>
   intro v1 b3 c4 j g E M w hv b9 b4 b5 U I h
   simp only[lF0] at b4
   refine d0 _ _ _ _ _ _ _ _ _ _ _ _ _ (ag (by rw[decide_eq_true_eq];omega) ⟨by omega,by omega,?_⟩)
   have d4:=d3
   obtain⟨_,_,⟨rfl,hz,_,_⟩|⟨a7,sp,rfl,rfl,e6⟩⟩:=d4
   ·omega
   refine aa ?_
   simp only[lK0,lC0,lN0]
   cases b5 with
   | @cons h0 ks _ xq xn xc kvs us2 XR XK XM a1 a2 a3 a4 a5=>
   have e:v1++((h0.nd xq xn xc).C.toList++(us2++sp))=vs++sp:=by rw[<-hv];simp only[lD0]
   refine Sat.ldA16 h (h0.nd xq xn xc) (b:=a7) (pre:=v1) (suf:=us2++sp) (e:=ak) (by rw[e];simp) b9 ?_
   refine Sat.bx h λO w h=>?_
   have h:Sat σ w (ixC O {}::(M++([(a7,cel (vs++sp) ak)]++L))):=h
   refine h.st16 0 {} (h0.nd xq xn xc) λw h=>?_
   have h:Sat σ w (ixC O (h0.nd xq xn xc)::(M++([(a7,cel (vs++sp) ak)]++L))):=h
   have a6:=U (.mk h0 ks) (.head _)
   have c5:(v1++(h0.nd xq xn xc).C.toList)++us2=vs:=by rw[<-hv];simp only[lD0]
   have c9:(v1++(h0.nd xq xn xc).C.toList).length=(j+1)*16:=by rw[lA0,b9,lF4];rfl
   cases k with
   |false=>
    have a6:20<=h0.kind:=a6
    refine⟨((h0.kind:Nat):Int),Sat.ld h (.head _) (i:=0) rfl,ae (by rw[decide_eq_false_iff_not];omega) (ae rfl ?_)⟩
    rw[aN (by omega)]
    exact d2 _ us2 XM (j+1) g E M w c5 c9 (by omega) a5 (λy c3=>U y (.tail _ c3)) I (h.less [ixC O (h0.nd xq xn xc)])
   |true=>
    have a6:h0.kind<11:=a6
    have e0:(((h0.kind:Nat):Int) !=13)=true:=by
     have:(((h0.kind:Nat):Int)==((13:Nat):Int))=false:=by rw[uR,decide_eq_false_iff_not];omega
     show (!(((h0.kind:Nat):Int)==13))=true
     rw[show (((h0.kind:Nat):Int)==13)=false from this];rfl
    refine⟨((h0.kind:Nat):Int),Sat.ld h (.head _) (i:=0) rfl,ag (by rw[decide_eq_true_eq];omega) ⟨((h0.kind:Nat):Int),Sat.ld h (.head _) (i:=0) rfl,ag e0 ?_⟩⟩
    refine h.ldB16 (h0.nd xq xn xc) (.head _) ?_
    have h:Sat σ w (M++(ixC O (h0.nd xq xn xc)::([(a7,cel (vs++sp) ak)]++L))):=h.re
    have I:Sl 16 ak g j E v1 M:=I
    refine Sat.app1 rowIN I h (v:=(h0.nd xq xn xc).V) rfl (Gn _) (EG _) (by omega) (by omega) (by decide) λe1 e4 w e3 d5 h=>?_
    rw[aN (by omega)]
    exact d2 _ us2 XM (j+1) e1 e4 e3 w c5 c9 (by omega) a5 (λy c3=>U y (.tail _ c3)) d5 (h.less [ixC O (h0.nd xq xn xc)])
 cases k with
 |true=>exact c8 xs [] vs KM 0 none 0 [] w rfl rfl (by omega) c1 d1 (Sl.nil 16 ak) h
 |false=>exact c8 xs [] vs KM 0 none 0 [] w rfl rfl (by omega) c1 d1 (Sl.nil 16 ak) h
theorem GN {k:Bool}{b4:List ND}{base:Int}{b6:OA}{O b9:Nat}{q:OA}{n c:Nat}{vs:List Value}{RM KM:List ai}(c3:NDs b4 vs KM)(d4:Sl 10 af q n c vs RM)(e9:n<1073741824)(d2: ∀x∈b4,if k then x.h.kind<11 else 20<=x.h.kind)(h:Sat σ w (RM++L))(e5:O=if k then n else 0)(e2: ∀w g E M,Sl 10 af g (if k then n else 0) E (if k then vs else []) M->Sat σ w (M++(RM++L))->bY.l3 R base g (if k then n else 0) E b6 O b9 (O:Nat) 0 w):bY.l2 R base b6 O b9 none 0 0 q n c (n:Nat) 0 w:=by
 have e6:=c3.len
 have e8:=d4.1
 intro X d1
 have c9: ∀(H:List ND) (v1 b3:List Value) (c5:List ai) (j:Nat) (g:OA) (E:Nat) (M:List ai) (w:World),v1++b3=vs->v1.length=j*10->j+H.length=n->NDs H b3 c5->(∀x∈H,if k then x.h.kind<11 else 20<=x.h.kind)->Sl 10 af g (if k then j else 0) E (if k then v1 else []) M->Sat σ w (M++(RM++L))->X base b6 O b9 g (if k then j else 0) E q n c (n:Nat) (j:Nat) w:=by
  intro H
  induction H with
  |nil=>
   intro v1 b3 c5 j g E M w hv c1 b5 b7 W I h
   cases b7
   rw[lG0] at hv
   simp only[lK1,lL1] at b5
   subst hv b5
   refine d1 _ _ _ _ _ _ _ _ _ _ _ _ _ (ae (by rw[decide_eq_false_iff_not];omega) (ae ?_ (e2 w g E M I h)))
   rw[e5];simp
  |cons x H d3=>
   intro v1 b3 c5 j g E M w hv c1 b5 b7 W I h
   simp only[lF0] at b5
   refine d1 _ _ _ _ _ _ _ _ _ _ _ _ _ (ag (by rw[decide_eq_true_eq];omega) ⟨by omega,by omega,?_⟩)
   have d5:=d4
   obtain⟨_,_,⟨rfl,hz,_,_⟩|⟨a7,sp,rfl,rfl,e7⟩⟩:=d5
   ·omega
   refine aa ?_
   simp only[lK0,lC0,lN0]
   cases b7 with
   | @cons h0 ks _ qa ca xq xn xc kvs us2 XR XK XM a2 a3 a4 a5=>
   have e:v1++((h0.nd qa ca xq xn xc).C.toList++(us2++sp))=vs++sp:=by rw[<-hv];simp only[lD0]
   refine Sat.ldA10 h (h0.nd qa ca xq xn xc) (b:=a7) (pre:=v1) (suf:=us2++sp) (e:=af) (by rw[e];simp) c1 ?_
   refine Sat.bx h λU w h=>?_
   have h:Sat σ w (nxC U {}::(M++([(a7,cel (vs++sp) af)]++L))):=h
   refine h.st10 0 {} (h0.nd qa ca xq xn xc) λw h=>?_
   have h:Sat σ w (nxC U (h0.nd qa ca xq xn xc)::(M++([(a7,cel (vs++sp) af)]++L))):=h
   have a6:=W (.mk h0 ks) (.head _)
   have c8:(v1++(h0.nd qa ca xq xn xc).C.toList)++us2=vs:=by rw[<-hv];simp only[lD0]
   have d0:(v1++(h0.nd qa ca xq xn xc).C.toList).length=(j+1)*10:=by rw[lA0,c1,lF4];rfl
   cases k with
   |false=>
    have a6:20<=h0.kind:=a6
    refine⟨((h0.kind:Nat):Int),Sat.ld h (.head _) (i:=0) rfl,ae (by rw[decide_eq_false_iff_not];omega) ?_⟩
    rw[aN (by omega)]
    exact d3 _ us2 XM (j+1) g E M w c8 d0 (by omega) a5 (λy c4=>W y (.tail _ c4)) I (h.less [nxC U (h0.nd qa ca xq xn xc)])
   |true=>
    have a6:h0.kind<11:=a6
    refine⟨((h0.kind:Nat):Int),Sat.ld h (.head _) (i:=0) rfl,ag (by rw[decide_eq_true_eq];omega) ?_⟩
    refine h.ldB10 (h0.nd qa ca xq xn xc) (.head _) ?_
    have h:Sat σ w (M++(nxC U (h0.nd qa ca xq xn xc)::([(a7,cel (vs++sp) af)]++L))):=h.re
    have I:Sl 10 af g j E v1 M:=I
    refine Sat.app1 rowND I h (v:=(h0.nd qa ca xq xn xc).V) rfl (Bt _) (wR _) (by omega) (by omega) (by decide) λe1 e4 w e3 e0 h=>?_
    rw[aN (by omega)]
    exact d3 _ us2 XM (j+1) e1 e4 e3 w c8 d0 (by omega) a5 (λy c4=>W y (.tail _ c4)) e0 (h.less [nxC U (h0.nd qa ca xq xn xc)])
 cases k with
 |true=>exact c9 b4 [] vs KM 0 none 0 [] w rfl rfl (by omega) c3 d2 (Sl.nil 10 af) h
 |false=>exact c9 b4 [] vs KM 0 none 0 [] w rfl rfl (by omega) c3 d2 (Sl.nil 10 af) h

theorem CK {k:Bool}{base:Nat}{xs:List IN}{E:List ND}(h:AtL k base xs E):(∀x∈xs,if k then x.h.kind<11 else 20<=x.h.kind)/\(∀H∈E,if k then H.h.kind<11 else 20<=H.h.kind)/\(k=true->xs.length=E.length):=by
 induction h with
 |leaf U V=>exact⟨U,V,λh=>by cases h⟩
 |nil=>exact⟨λx h=>absurd h lD1,λx h=>absurd h lD1,λ_=>rfl⟩
 | @cons k base h g ks xs kds E a b c d e f e2 ih1 ih2=>
  obtain⟨a7,a6,W⟩:=ih2
  refine⟨λx O=>?_,λH I=>?_,λ_=>by simp[W rfl]⟩
  ·cases O with
   |head=>exact b
   |tail _ O=>exact a7 x O
  ·cases I with
   |head=>show g.kind<11;omega
   |tail _ I=>exact a6 H I
def AtLoop (base:Nat)(xs:List IN)(b9:List ND):Prop:= ∀(σ:Out) (R:Ending->World->Prop) (X:Int->OA->Nat->Nat->OA->Nat->Nat->Int->Int->WP),(∀b6 H U W O I V a6 a7 w,bY.bl3 R X b6 H U W O I V a6 a7 w->X b6 H U W O I V a6 a7 w)->
 ∀(q:OA) (n c:Nat) (vs v1 b3:List Value) (RM E:List ai) (b8:OA) (b5:Nat) (us b4 b7:List Value) (y g L:List ai) (j:Nat) (w:World),v1++b3=vs->v1.length=j*16->b4++b7=us->b4.length=j*10->j+xs.length=n->INs xs b3 E->NDs b9 b7 g->Sl 16 ak q n c vs RM->Sl 10 af b8 n b5 us y->n<1073741824->
 Sat σ w (RM++(E++(y++(g++L))))->(∀w,Sat σ w (RM++(E++(y++(g++L))))->R (hQ (hV true)) w)->X (base:Nat) b8 n b5 q n c (n:Nat) (j:Nat) w
theorem AtLoop.ok {base:Nat}{xs:List IN}{g:List ND}(O:(∀x∈xs,x.h.kind<11)/\(∀y∈g,y.h.kind<11)/\xs.length=g.length)(b8:AtLoop base xs g):AtG xs g base:=by
 intro σ w L R q n c vs RM KM d1 a6 d3 us I V U a7 b3 E W b4 h c1
 have d0:=U.len
 have d4:=E.len
 have d2:=a7.1
 have d5:=W.1
 have b6:a6=n:=by have:=O.2.2;omega
 subst b6
 refine bY.sound ?_
 refine GO (k:=true) U a7 b3 O.1 h λw c5 c9 M b7 h=>?_
 have h:Sat σ w (I++(V++(M++(RM++(KM++L))))):=h.re
 refine GN (k:=true) E W b4 O.2.1 h rfl λw c8 c4 H b5 h=>?_
 have h:Sat σ w (M++(KM++(H++(V++(RM++(I++L)))))):=h.re
 intro X b9
 exact b8 σ R X b9 c5 a6 c9 vs [] vs M KM c8 c4 us [] us H V (RM++(I++L)) 0 w rfl rfl rfl rfl (by omega) U E b7 b5 b3 h λw h=>c1 w (h.less (M++H))
theorem GP {k:Bool}{base:Nat}{xs:List IN}{b6:List ND}(g2:AtL k base xs b6): ∀f t,InO xs f t->t<1000000000->base<=t+1->AtG xs b6 base:=by
 suffices H: ∀f t,InO xs f t->t<1000000000->AtG xs b6 base/\(k=true->AtLoop base xs b6) from λf t W V _=>(H f t W V).1
 induction g2 with
 | @leaf base xs b6 W V=>
  intro f t _ _
  refine⟨?_,λh=>by cases h⟩
  intro σ w L R q n c vs RM KM f1 j0 e6 us c9 h8 e3 d0 e5 e0 c5 g0 h c8
  refine bY.sound ?_
  refine GO (k:=false) e3 d0 e5 W h λw l5 m2 M i3 h=>?_
  have h:Sat σ w (c9++(h8++(M++(RM++(KM++L))))):=h.re
  refine GN (k:=false) e0 c5 g0 V h rfl λw m1 j1 g3 i1 h=>?_
  intro X c4
  exact c4 _ _ _ _ _ _ _ _ _ _ (ae rfl (c8 w (h.less (g3++M))))
 | @nil base=>
  intro f t _ _
  have b7:AtLoop base [] []:=by
   intro σ R X c4 q n c vs v1 g5 RM g4 f1 e6 us e1 h5 c9 g6 L j w hv W e7 V f0 e3 e0 d0 c5 e5 h c8
   simp only[lK1,lL1] at f0
   exact c4 _ _ _ _ _ _ _ _ _ _ (ae (by rw[decide_eq_false_iff_not];omega) (c8 w h))
  exact⟨AtLoop.ok ⟨λx h=>absurd h lD1,λx h=>absurd h lD1,rfl⟩ b7,λ_=>b7⟩
 | @cons k base h0 g ks xs kds b6 a1 a2 a3 a4 a5 a6 a7 ih1 ih2=>
  intro f t g7 ht
  cases g7 with
  |leaf b7=>exact absurd (show 20<=h0.kind from b7) (by omega)
  |cons o1 k0 i8 m3 h4 h9=>
  have f4:AtG ks kds (base+g.s - 1):= @(ih1 _ _ h4 (by omega)).1
  have f3:=(ih2 _ _ h9 ht).2 rfl
  have b7:AtLoop base (.mk h0 ks::xs) (.mk g kds::b6):=by
   intro σ R X c4 q n c vs v1 g5 RM g4 f1 e6 us e1 h5 c9 g6 L j w hv W e7 V f0 e3 e0 d0 c5 e5 h c8
   simp only[lF0] at f0
   refine c4 _ _ _ _ _ _ _ _ _ _ (ag (by rw[decide_eq_true_eq];omega) ⟨by omega,by omega,?_⟩)
   have f6:=d0
   obtain⟨_,_,⟨rfl,hz,_,_⟩|⟨E,sp,rfl,rfl,i2⟩⟩:=f6
   ·omega
   refine aa ?_
   simp only[lK0,lC0,lN0]
   cases e3 with
   | @cons _ _ _ xq xn xc kvs us2 XR XK XM b1 b2 b3 b4 b5=>
   cases e0 with
   | @cons _ _ _ qa ca yq yn yc kus us3 YR YK YM d2 d3 d4 d5=>
   have e:v1++((h0.nd xq xn xc).C.toList++(us2++sp))=vs++sp:=by rw[<-hv];simp only[lD0]
   refine Sat.ldA16 h (h0.nd xq xn xc) (b:=E) (pre:=v1) (suf:=us2++sp) (e:=ak) (by rw[e];simp) W ?_
   refine Sat.bx h λU w h=>?_
   have h:Sat σ w (ixC U {}::([(E,cel (vs++sp) ak)]++(((XR++XK)++XM)++(c9++(((YR++YK)++YM)++L))))):=h
   refine h.st16 0 {} (h0.nd xq xn xc) λw h=>?_
   have h:Sat σ w (ixC U (h0.nd xq xn xc)::([(E,cel (vs++sp) ak)]++(((XR++XK)++XM)++(c9++(((YR++YK)++YM)++L))))):=h
   refine⟨by omega,by omega,?_⟩
   have g1:=c5
   obtain⟨_,_,⟨rfl,hz,_,_⟩|⟨O,I,rfl,rfl,i0⟩⟩:=g1
   ·omega
   refine aa ?_
   simp only[lK0,lN0]
   have h6:e1++((g.nd qa ca yq yn yc).C.toList++(us3++I))=us++I:=by rw[<-e7];simp only[lD0]
   refine Sat.ldA10 h (g.nd qa ca yq yn yc) (b:=O) (pre:=e1) (suf:=us3++I) (e:=af) (by rw[h6];simp) V ?_
   refine Sat.bx h λc1 w h=>?_
   have h:Sat σ w (nxC c1 {}::ixC U (h0.nd xq xn xc)::([(E,cel (vs++sp) ak)]++(((XR++XK)++XM)++([(O,cel (us++I) af)]++(((YR++YK)++YM)++L))))):=h
   refine h.st10 0 {} (g.nd qa ca yq yn yc) λw h=>?_
   have h:Sat σ w (nxC c1 (g.nd qa ca yq yn yc)::ixC U (h0.nd xq xn xc)::([(E,cel (vs++sp) ak)]++(((XR++XK)++XM)++([(O,cel (us++I) af)]++(((YR++YK)++YM)++L))))):=h
   have e4:ixC U (h0.nd xq xn xc)∈(nxC c1 (g.nd qa ca yq yn yc)::ixC U (h0.nd xq xn xc)::([(E,cel (vs++sp) ak)]++(((XR++XK)++XM)++([(O,cel (us++I) af)]++(((YR++YK)++YM)++L))))):= .tail _ (.head _)
   have d1:nxC c1 (g.nd qa ca yq yn yc)∈(nxC c1 (g.nd qa ca yq yn yc)::ixC U (h0.nd xq xn xc)::([(E,cel (vs++sp) ak)]++(((XR++XK)++XM)++([(O,cel (us++I) af)]++(((YR++YK)++YM)++L))))):= .head _
   have ne: ∀ {a b:Int},a=b->(a !=b)=false:=by
    intro a b f5
    subst f5
    simp
   have f2:i64.wrap (((base:Nat):Int)+((g.s:Nat):Int))=((h0.s:Nat):Int):=by rw[i64_in _ (by omega)];omega
   have h7:i64.wrap (((base:Nat):Int)+((g.e:Nat):Int))=((h0.e:Nat):Int):=by rw[i64_in _ (by omega)];omega
   have h3:i64.wrap (((h0.s:Nat):Int) - 1)=((base+g.s - 1:Nat):Int):=by rw[gr (by omega) (by omega)];congr 1;omega
   refine⟨((h0.kind:Nat):Int),Sat.ld h e4 (i:=0) rfl,((g.kind:Nat):Int),Sat.ld h d1 (i:=0) rfl,ae (ne (by rw[a1])) ?_⟩
   refine⟨((h0.s:Nat):Int),Sat.ld h e4 (i:=8) rfl,((g.s:Nat):Int),Sat.ld h d1 (i:=8) rfl,ae (ne f2.symm) ?_⟩
   refine⟨((h0.e:Nat):Int),Sat.ld h e4 (i:=9) rfl,((g.e:Nat):Int),Sat.ld h d1 (i:=9) rfl,ae (ne h7.symm) ?_⟩
   refine⟨xq,xn,xc,Sat.ld h e4 (i:=7) rfl,yq,yn,yc,Sat.ld h d1 (i:=7) rfl,((g.s:Nat):Int),Sat.ld h d1 (i:=8) rfl,?_⟩
   rw[f2,h3]
   have h:Sat σ w (XR++(XK++(YR++(YK++(nxC c1 (g.nd qa ca yq yn yc)::ixC U (h0.nd xq xn xc)::([(E,cel (vs++sp) ak)]++(XM++([(O,cel (us++I) af)]++(YM++L))))))))):=h.re
   refine f4 b3 b4 b2 d3 d4 d2 h λw h=>⟨_,rfl,ae rfl ?_⟩
   rw[aN (by omega)]
   have h:Sat σ w ([(E,cel (vs++sp) ak)]++(XM++([(O,cel (us++I) af)]++(YM++((XR++XK)++((YR++YK)++L)))))):=h.less [nxC c1 (g.nd qa ca yq yn yc),ixC U (h0.nd xq xn xc)]
   refine f3 σ R X c4 (kE E) n c vs (v1++(h0.nd xq xn xc).C.toList) us2 [(E,cel (vs++sp) ak)] XM (kE O) e6 us (e1++(g.nd qa ca yq yn yc).C.toList) us3 [(O,cel (us++I) af)] YM ((XR++XK)++((YR++YK)++L)) (j+1) w (by rw[<-hv];simp only[lD0]) (by rw[lA0,W,lF4];rfl) (by rw[<-e7];simp only[lD0]) (by rw[lA0,V,lF4];rfl) (by omega) b5 d5 d0 c5 e5 h λw h=>c8 w h.re
  obtain⟨k1,k2,k3⟩:=CK a7
  refine⟨AtLoop.ok ⟨λx e9=>?_,λy e8=>?_,by simp[k3 rfl]⟩ b7,λ_=>b7⟩
  ·cases e9 with
   |head=>exact a2
   |tail _ e9=>exact k1 x e9
  ·cases e8 with
   |head=>show g.kind<11;omega
   |tail _ e8=>exact k2 y e8

theorem sH {ec:ai}(c9:Ay ec){q:OA}{n c:Nat}{vs:List UInt8}(b3:ec∈L)(d0:BArg σ L q n vs)(h:Sat σ w L)(I: ∀w,Sat σ w L->R (hQ (hV true)) w):callE P kt #[hT q n c] R w:=by
 refine iO.sound ?_
 refine bM (λ_=>I w h) λ_=>?_
 refine GF ⟨_,rfl,?_⟩
 refine bM (λ_=>I w h) λV=>?_
 have V:n<=300:=by simpa using V
 refine DZ d0 V h λw l y g us RM KM W d2 c5 h=>⟨_,_,_,_,_,_,_,_,_,_,_,_,_,_,_,rfl,?_⟩
 obtain⟨U,d1,e0,b9,c4⟩:=BF W
 refine Sat.bx h λE w h=>?_
 have h:Sat σ w (ndC E {}::(RM++(KM++L))):=h
 refine h.st10 0 {} (({kind:=1}:NH).nd none 0 y l.length g) λw h=>h.tk λw h=>?_
 have h:Sat σ w (ndC E (({kind:=1}:NH).nd none 0 y l.length g)::(RM++(KM++L))):=h
 refine⟨y,l.length,g,Sat.ld h (.head _) (i:=7) rfl,?_⟩
 refine xT h λe9 O=>⟨_,_,_,_,_,_,_,_,_,_,rfl,h.same O (.head _) (.head _) 1,?_⟩
 obtain⟨e1,c3⟩:=Ak (op:=Ex) rfl rfl rfl rfl c9 U d1 e0 b9 c4
 refine zU c3 (L:=ndC E (({kind:=1}:NH).nd none 0 y l.length g)::(RM++(KM++L))) (.tail _ (lB0 _ (lB0 _ b3))) O λd3 u M s e xs c1 d5 H=>xM ⟨O.same H (.head _) (lB0 _ (.head _)) 1,?_⟩
 subst d5
 obtain⟨e6,e5,e4,e8,e7,e3,a7,a6,ex,rfl,rfl,a,b4,b7,b6⟩:=c1
 obtain⟨rfl,rfl⟩:=IN.mk.inj ex
 have c8:InO (fJ 1 l) 1 (aD l).tail.length:=B1.2.1 l U 1 1 _ (by omega) (by omega) (by omega)
 have b8:AtL true 0 (fJ 1 l) (mR 1 l):=FR.2.1 l U 1 1 0 (by omega) rfl
 have e2:=W.len
 have H:Sat σ d3 (a7++(a6++(RM++(KM++(ndC E (({kind:=1}:NH).nd none 0 y l.length g)::L))))):=H.re
 refine GP b8 1 _ c8 (by rw[lD3];omega) (by omega) b7 b6 b4 d2 c5 (by omega) H λc2 d4=>⟨_,rfl,I c2 ?_⟩
 exact d4.less (a7++(a6++(RM++(KM++ [ndC E (({kind:=1}:NH).nd none 0 y l.length g)]))))
end Go.Proofs.YtendaipfdnhnaaaGreatDoor

namespace Go.Proofs.YtendaipfdnhnaaaGreatDoor
open Go.Proofs Go.ChangeShapes Go.WideShapes
theorem oJ {g y:World}(h:Sat (xV g) y (fM g)){b:Nat}(hb:b<g.heap.size):y.heap[b]? =g.heap[b]? :=by
 have E:(b,g.heap[b])∈fM g:=lS1.2 ⟨(g.heap[b],b),lZ2.2 (by simp[hb]),rfl⟩
 rw[h.at_ _ E,lP2 hb]
theorem xL {g E:World}(h:Sat (xV g) E (fM g)){p:MemPlace}(y:p.block<g.heap.size):g.sameAt E p:=by
 cases p with
 |cell b o=>exact World.cell?_of_block (w:=g) (oJ h y)
 |map b=>exact oJ h y
theorem yG {g y:World}(h:Sat (xV g) y (fM g)){a:Addr}{v:Value}(hc:g.cell? a=some v):y.cell? a=some v:=by
 have hb:a.block<g.heap.size:=by
  rcases lM4 a.block g.heap.size with H|E
  ·exact H
  ·have:g.heap[a.block]? =none:=lN4 E
   unfold World.cell? at hc
   rw[this] at hc;cases hc
 rw[<-hc]
 unfold World.cell?
 rw[oJ h hb]
theorem u8_of {n:Int}(h:(Lit.int .u8 n).wf=true): ∃m:Nat,m<256/\n=(m:Int):=by
 have g:(decide (IntKind.u8.min<=n) && decide (n<=IntKind.u8.max))=true:=h
 simp only[lM1,decide_eq_true_eq] at g
 have a:IntKind.u8.min=0:=rfl
 have b:IntKind.u8.max=255:=rfl
 rw[a,b] at g
 exact⟨n.toNat,by omega,by omega⟩
end Go.Proofs.YtendaipfdnhnaaaGreatDoor


namespace Go.Proofs.YtendaipfdnhnaaaGreatDoor
open Go.Proofs Go.ChangeShapes Go.WideShapes Go.Deep
theorem Bs {P:Program}{E:Type}{enc:TypeId × Value->E}{y:World}{r:Reach}{b0:Nat}{t e:TypeId}{v:Value}{d:DataW E}{b7:List MemPlace}(ht:P.underlying t=some (.slice e))(b4:P.underlying e=some (.int .u8))(hc:P.cellsOf e=1)(O:Value.okWide P y r b0 t v)(h:DataW.Trod enc P y 0 (λ_=>true) true t v d b7): ∃q n c vs,v= hT q n c/\BArg (xV y) (fM y) q n vs:=by
 obtain⟨a0,len,U,rfl⟩:=okWide_slice ht O
 obtain⟨c2,a7⟩:=h
 rcases open_slice1 ht hc a7 with ⟨g,b9⟩|⟨a,c3,c4,m,n,V,D,c9,g,_,c8,c5,hz,b9,I⟩
 ·simp[Value.cells] at g
  obtain⟨rfl,rfl,rfl⟩:=g
  exact⟨none,0,0,[],rfl,⟨rfl,λi hi=>by simp at hi⟩⟩
 ·simp[Value.cells] at g
  obtain⟨rfl,rfl,rfl⟩:=g
  simp only[if_true] at hz
  refine⟨some a,len,U,(List.range len).map λi=>match V i with| .int _ n=>UInt8.ofNat n.toNat|_=>0,rfl,⟨by simp,λi hi=>?_⟩⟩
  simp only[lS0,List.length_range] at hi
  refine⟨a,rfl,λw b3=>?_⟩
  obtain⟨b5,b6⟩:=I i (by omega)
  obtain⟨k,a6,_,b8⟩:=DataW.trod_int b4 b6
  have c1:V i= .int .u8 k:=(List.cons.inj a6).1
  obtain⟨j,d0,rfl⟩:=u8_of b8
  rw[yG b3 b5,List.getElem_map,List.getElem_range,c1]
  simp
  omega
end Go.Proofs.YtendaipfdnhnaaaGreatDoor


namespace Go.Proofs.YtendaipfdnhnaaaGreatDoor
open Go.Proofs Go.ChangeShapes Go.WideShapes Go.RowKit
def Dk:DataW Unit->Bool
 | .agg [.lit (.string a),.lit (.string b)]=>decide (b.length<=10) && !b.isEmpty
 |_=>false
theorem Dj {r:DataW Unit}(h:Dk r=true): ∃a b,r= .agg [.lit (.string a),.lit (.string b)]/\b.length<=10/\b≠ []:=by
 unfold Dk at h
 split at h
 ·rename_i a b
  refine⟨a,b,rfl,?_,?_⟩
  ·simp at h;exact h.1
  ·simp at h;exact h.2
 ·exact absurd h (by simp)
theorem wV {P:Program}{TA TB TS:TypeId}{N:String}{E:World}{I:List (DataW Unit)}(c4:P.underlying TA=some (.array 12 TB))(c3:P.underlying TB=some (.array 2 TS))(O:P.underlying TS=some .string)(d1:P.cellsOf TB=2)(c8:P.cellsOf TS=1)(V:P.globalNamed N=some 1)(d4:(P.globals[1]?).map (·.type)=some TA){l:List (String × DataW Unit)}{d:DataW Unit}(e4:l.filter (λx=>x.1==N)= [(N,d)])(c2:d= .agg I)(b9:I.all Dk=true)(d2:d.handleName?.isNone=true)(h:laidMetH P l E): ∃c,Ay c/\c∈fM E:=by
 have h:=h.filter (λx=>x.1==N)
 rw[e4,MakeChecks.laidMetH_plain _ _ _ (by simp[d2])] at h
 obtain⟨f4,⟨g,t,cs,e7,p,q,e2,ht,hv,hd,_,_⟩,_,_⟩:=h
 obtain rfl:=Option.some.inj (V.symm.trans e2)
 obtain rfl:=Option.some.inj (d4.symm.trans ht)
 obtain⟨xs,m,_,ex,e9,f0,c9⟩:=DataW.trod_array c4 hd
 have b8:d= .agg (xs.map (·.1)):=(Prod.mk.inj ex).1
 rw[c2] at b8
 have em:=DataW.agg.inj b8
 simp only[World.var?,V,Option.bind_some] at hv
 split at hv
 case h_2=>cases hv
 rename_i c ty d5 hb
 cases hv
 have U:1<E.heap.size:=(lZ3.1 hb).1
 refine⟨(1,E.heap[1]),⟨cs,ty,d5,?_,?_⟩,lS1.2 ⟨(E.heap[1],1),lZ2.2 (by simp[U]),rfl⟩⟩
 ·rw[lP2 U] at hb;exact congrArg (Prod.mk 1) (Option.some.inj hb)
 intro i hi
 have a7:=c9 i hi
 rw[d1,lI0 (by omega)] at a7
 obtain⟨b5,f3,_,e6,_,e8,H⟩:=DataW.trod_array c3 a7
 have b3:=H 0 (by decide)
 have b4:=H 1 (by decide)
 rw[c8,lI0 (by omega)] at b3 b4
 obtain⟨s0,e3,f2,_⟩:=DataW.trod_string O b3
 obtain⟨y,d3,e5,_⟩:=DataW.trod_string O b4
 have hr:Dk xs[i].1=true:=by
  refine(lD2.1 b9) _ ?_
  rw[em]
  exact lF5 (lP1 _)
 obtain⟨a,b6,b7,c1,d0⟩:=Dj hr
 rw[e6] at b7
 have c5:=DataW.agg.inj b7
 have a6:b5[1].1= .lit (.string b6):=by
  have:=congrArg (λl:List (DataW Unit)=>l[1]?) c5
  simp only[lY2,lS5,lF2,lI0 (show 1<b5.length by omega),lI3,lG1] at this
  exact this
 rw[e5] at a6
 have t1:y.data.toList=b6:=by simpa using a6
 refine⟨s0.data.toList,y.data.toList,?_,?_,by rw[t1];exact c1,by rw[t1];exact d0⟩
 ·have:(((((cs.toList.drop (i*2)).take 2).drop (0*1)).take 1)[0]?)=some (hX s0):=by rw[e3];rfl
  rw[show bs s0.data.toList=s0 from rfl,<-lQ2]
  have e:i*2=2*i:=lP6 _ _
  rw[e] at this
  simpa using this
 ·have:(((((cs.toList.drop (i*2)).take 2).drop (1*1)).take 1)[0]?)=some (hX y):=by rw[d3];rfl
  rw[show bs y.data.toList=y from rfl,<-lQ2]
  have e:i*2=2*i:=lP6 _ _
  rw[e] at this
  simpa using this
end Go.Proofs.YtendaipfdnhnaaaGreatDoor

