/- Part 2 of the proof of the law FnFlat: for every input the law returns true, the inputs read as they did, and memory that was there is as it was; under the conditions of the given row alone. -/
import Derived.Deep.AppendSrc
import Derived.Great.BuildSlice
import Derived.Laws.Slices
import Derived.Lib.UnsafeStr
import Derived.Lib.BufferWrite
import Derived.Lib.BufferRead
import Derived.Laws.IdiomStrings
import Derived.Laws.MakeOwn
import Derived.Shelf.Bytes.GrowSlice
import Derived.Laws.Externs
import Derived.Lib.Bytealg
import Derived.Lib.MakeNoZero
import Derived.Lib.Builder
import Derived.Test.YtendaipfdnhnaaaGreatDoorA1
set_option linter.all false
open Go.IntKind(i64)
open ByteArray renaming mk→hP
open List renaming replicate→hN
namespace Go.Proofs.YtendaipfdnhnaaaGreatDoor
open Go.Proofs Go.IntWalk Go.RowKit
set_option maxRecDepth 20000
variable {σ:Out} {w:World} {L L':List ai} {R:Ending->World->Prop}
def j2 (R:EP)(a7:OA)(w:World):Prop:=
 box w #[hY 0,hY 0] aF λb1 b7=>
 tk b7 λy=>
 aA a7 λa4=>
 aA a7 λa5=>
 ∃O I b5,y.cell? (a4.add 4)=some (hT O I b5)/\
 ∃b4 g b3,y.cell? (a5.add 4)=some (hT b4 g b3)/\
 0<=(i64.wrap ((g:Int) - 1))/\(i64.wrap ((g:Int) - 1))<(I:Int)/\
 aA O λa8=>
 ∃a6,y.cell? (((a8.add (Int.toNat (i64.wrap ((g:Int) - 1))*4)).add 2).add 0)=some (hY a6)/\
 ∃W,y.cell? (((a8.add (Int.toNat (i64.wrap ((g:Int) - 1))*4)).add 2).add 1)=some (hY W)/\
 stV y (hZ b1 0) (hY a6) λb6=>
 stV b6 (hZ b1 1) (hY W) λE=>
 ∃U,E.cell? (hZ b1 0)=some (hY U)/\
 ∃V,E.cell? (hZ b1 1)=some (hY V)/\
 R (hQ (.agg #[hY U,hY V])) E
theorem j2.sound {R x0 w}(h:j2 R x0 w):callE P jZ #[kT x0] R w:=
 aG [(5,.dr (rpN [0,3,6,12,15,18,10,22,24,27,30,33]))] Tryz.func421 Tryz.call421 h
namespace iV
def bl1 (R:EP)(Xa:BA->Int->WP)(y:BA)(g:Int)(w:World):Prop:=
 ((decide (g<(y.size:Int)))=true->0<=g/\g<(y.size:Int))/\
 (((decide (g<(y.size:Int))) && (!((bt y g)==32)))=true->0<=g/\g<(y.size:Int))/\
 (((decide (g<(y.size:Int))) && (!(((bt y g)==32)||((bt y g)==9))))=true->0<=g/\g<(y.size:Int))/\
 br ((decide (g<(y.size:Int))) && ((((bt y g)==32)||((bt y g)==9))||((bt y g)==10)))
 (Xa y (i64.wrap (g+1)) w)
 (R (hQ (hY g)) w)
def l1 (R:EP)(y:BA)(g:Int)(w:World):Prop:=
 ∀X:BA->Int->WP,(∀y g w,bl1 R X y g w->X y g w)->X y g w
end iV
def iV (R:EP)(y:BA)(g:Int)(w:World):Prop:=
 iV.l1 R y g w
theorem iV.sound {R x0 x1 w}(h:iV R x0 x1 w):callE P kG #[hX x0,hY x1] R w:=
 aG [(9,.lp [1,27] (iV.bl1 R) λXa=> [])] Tryz.func171 Tryz.call171 h
namespace bV
def k3 (R:EP)(Xa:OA->Nat->Nat->BA->Int->OA->Nat->Nat->Int->Int->WP)(V:OA)(O W:Nat)(a7:BA)(a6:Int)(b3:BA)(E:OA)(g y:Nat)(I U:Int)(w:World):Prop:=
 Xa V O W a7 (i64.wrap (a6+(b3.size:Int))) E g y I (i64.wrap (U+1)) w
def bl2 (R:EP)(c1:BA->Nat->OA->Nat->Nat->Int->Int->WP)(W:BA)(y:Nat)(E:OA)(I b5:Nat)(O g:Int)(w:World):Prop:=
 br (decide (g<O))
 (0<=g/\g<(I:Int)/\
 aA E λb8=>
 ∃V,w.cell? (b8.add (Int.toNat g*1))=some (hX V)/\
 callE P bw #[kT (kE y),hX W] (λe b6=> ∃b4,∃(b3:Value),e= hQ (.tuple #[hY b4,b3])/\
 callE P bw #[kT (kE y),hX V] (λe b7=> ∃a7,∃(a6:Value),e= hQ (.tuple #[hY a7,a6])/\
 c1 W y E I b5 O (i64.wrap (g+1)) b7) b6) w)
 (callE P dt #[kT (kE y)] (λe b9=> ∃U,e= hQ (hX U)/\
 R (hQ (hX U)) b9) w)
def l2 (R:EP)(V:BA)(U:Nat)(g:OA)(y E:Nat)(I O:Int)(w:World):Prop:=
 ∀X:BA->Nat->OA->Nat->Nat->Int->Int->WP,(∀V U g y E I O w,bl2 R X V U g y E I O w->X V U g y E I O w)->X V U g y E I O w
def bl1 (R:EP)(Xa:OA->Nat->Nat->BA->Int->OA->Nat->Nat->Int->Int->WP)(I:OA)(E b8:Nat)(b9:BA)(U:Int)(W:OA)(a7 c4:Nat)(b7 g:Int)(w:World):Prop:=
 br (decide (g<b7))
 (0<=g/\g<(a7:Int)/\
 aA W λa3=>
 ∃V,w.cell? (a3.add (Int.toNat g*1))=some (hX V)/\
 br (decide ((V.size:Int)>(i64.wrap (9223372036854775807 - U))))
 (False)
 (k3 R Xa I E b8 b9 U V W a7 c4 b7 g w))
 (box w #[kT none,hT none 0 0] cn λO c8=>
 callE P eL #[kT (kE O),hY U] (λe c1=>e= hQ (.tuple #[])/\
 0<=(0:Int)/\0<(E:Int)/\
 aA I λa9=>
 ∃b6,c1.cell? (a9.add (Int.toNat 0*1))=some (hX b6)/\
 callE P bw #[kT (kE O),hX b6] (λe c5=> ∃c3,∃(c2:Value),e= hQ (.tuple #[hY c3,c2])/\
 ∃b3 y,∃a6 b4,(Instr.sliceAt al (hT I E b8) (some (hY 1)) none none).run P c5= .ok (hT b3 y a6) b4/\
 l2 R b9 O b3 y a6 (y:Int) 0 b4) c1) c8)
def l1 (R:EP)(V:OA)(U W:Nat)(a6:BA)(a7:Int)(E:OA)(g y:Nat)(I O:Int)(w:World):Prop:=
 ∀X:OA->Nat->Nat->BA->Int->OA->Nat->Nat->Int->Int->WP,(∀V U W a6 a7 E g y I O w,bl1 R X V U W a6 a7 E g y I O w->X V U W a6 a7 E g y I O w)->X V U W a6 a7 E g y I O w
def k2 (R:EP)(y:OA)(g E:Nat)(I:BA)(O:Int)(w:World):Prop:=
 l1 R y g E I O y g E (g:Int) 0 w
def k1 (R:EP)(E:OA)(g I:Nat)(y:BA)(O:Int)(w:World):Prop:=
 k2 R E g I y (i64.wrap (O+(i64.wrap ((y.size:Int)*(i64.wrap ((g:Int) - 1)))))) w
end bV
def bV (R:EP)(E:OA)(g I:Nat)(y:BA)(w:World):Prop:=
 br ((g:Int)==0)
 (False)
 (br ((g:Int)==1)
 (0<=(0:Int)/\0<(g:Int)/\
 aA E λa1=>
 ∃O,w.cell? (a1.add (Int.toNat 0*1))=some (hX O)/\
 R (hQ (hX O)) w)
 (br (decide ((y.size:Int)>0))
 ((i64.wrap ((g:Int) - 1))≠0/\
 br (decide ((y.size:Int) >= (i64.wrap (Int.tdiv 9223372036854775807 (i64.wrap ((g:Int) - 1))))))
 (False)
 (bV.k1 R E g I y 0 w))
 (bV.k2 R E g I y 0 w)))
theorem bV.sound {R x0q x0n x0c x1 w}(h:bV R x0q x0n x0c x1 w):callE P ga #[hT x0q x0n x0c,hX x1] R w:=
 aG [(85,.no),(663,.no),(215,.mk [3,21,107] (bV.k1 R)),(31,.mk [3,21,107] (bV.k2 R)),(175,.lp [3,21,107,783,807,827] (bV.bl1 R) λXa=> [(339,.no),(115,.mk [3,21,107,141,783,807,827] (bV.k3 R Xa))]),(2815,.lp [21,166,1263,1287,1307] (bV.bl2 R) λg=> [])] Tryz.func233 Tryz.call233 h
namespace ak
noncomputable def body:Code:=mN Tryz.f80
def k3 (R:EP)(Xa:OA->Nat->WP)(g:OA)(U:Nat)(w:World):Prop:=
 aA g λI=>
 ∃y,w.cell? (I.add 5)=some (hY y)/\
 aA g λE=>
 stV w ((E.add 5).add 0) (hY (i64.wrap (y+1))) λO=>
 Xa g U O
def bl2 (R:EP)(h5:OA->Nat->WP)(h4:OA->Nat->OA->Nat->Nat->Int->Int->WP)(I:OA)(g:Nat)(b9:OA)(c4 f4:Nat)(e4 O:Int)(w:World):Prop:=
 br (decide (O<e4))
 (0<=O/\O<(c4:Int)/\
 aA b9 λh3=>
 ∃(e2:Value),w.cell? (h3.add (Int.toNat O*1))=some e2/\
 ∃d1,w.cell? (hZ g 0)=some (hY d1)/\
 ∃c9,w.cell? (hZ g 1)=some (hY c9)/\
 ∃e3,w.cell? (hZ g 2)=some (hY e3)/\
 ∃c8,w.cell? (hZ g 3)=some (hX c8)/\
 ∃d2,w.cell? (hZ g 4)=some (.int .u8 d2)/\
 de P (do let d <-Deferred.ofValue e2 #[kT I,.agg #[hY d1,hY c9,hY e3,hX c8,.int .u8 d2]];invoke d.target d.args) (λe g1=> ∃W V,∃a6 a7,∃b3 b4,e= hQ (.tuple #[.agg #[hY W,hY V,hY a6,hX a7,.int .u8 b3],hV b4])/\
 box g1 #[hY 0,hY 0,hY 0,hX (hP #[]),.int .u8 0] aW λy g3=>
 stV g3 (hZ y 0) (hY W) λg2=>
 stV g2 (hZ y 1) (hY V) λg5=>
 stV g5 (hZ y 2) (hY a6) λh1=>
 stV h1 (hZ y 3) (hX a7) λg4=>
 stV g4 (hZ y 4) (.int .u8 b3) λE=>
 br b4
 (∃d0,E.cell? (hZ y 0)=some (hY d0)/\
 ∃e0,E.cell? (hZ y 1)=some (hY e0)/\
 ∃c5,E.cell? (hZ y 2)=some (hY c5)/\
 ∃e1,E.cell? (hZ y 3)=some (hX e1)/\
 ∃d3,E.cell? (hZ y 4)=some (.int .u8 d3)/\
 stV E (hZ g 0) (hY d0) λg6=>
 stV g6 (hZ g 1) (hY e0) λh2=>
 stV h2 (hZ g 2) (hY c5) λg7=>
 stV g7 (hZ g 3) (hX e1) λf6=>
 stV f6 (hZ g 4) (.int .u8 d3) λf5=>
 callE P cr #[kT (kE g)] (λe U=> ∃b6,e= hQ (hV b6)/\
 br b6
 (R (hQ (.tuple #[])) U)
 (aA I λf3=>
 ∃b8,U.cell? (f3.add 5)=some (hY b8)/\
 aA I λg0=>
 stV U ((g0.add 5).add 0) (hY (i64.wrap (b8+1))) λf2=>
 h5 I g f2)) f5)
 (h4 I g b9 c4 f4 e4 (i64.wrap (O+1)) E)) w)
 (∃b7,w.cell? (hZ g 0)=some (hY b7)/\
 ∃b5,w.cell? (hZ g 1)=some (hY b5)/\
 ∃c3,w.cell? (hZ g 2)=some (hY c3)/\
 ∃c2,w.cell? (hZ g 3)=some (hX c2)/\
 ∃c1,w.cell? (hZ g 4)=some (.int .u8 c1)/\
 callE P pN #[kT I,.agg #[hY b7,hY b5,hY c3,hX c2,.int .u8 c1]] (λe f1=> ∃e6 e5,∃e9 e8,∃e7 f0,e= hQ (.tuple #[.agg #[hY e6,hY e5,hY e9,hX e8,.int .u8 e7],hV f0])/\
 R (hQ (.tuple #[])) f1) w)
def l2 (R:EP)(W:OA->Nat->WP)(U:OA)(V:Nat)(g:OA)(E y:Nat)(O I:Int)(w:World):Prop:=
 ∀X:OA->Nat->OA->Nat->Nat->Int->Int->WP,(∀U V g E y O I w,bl2 R W X U V g E y O I w->X U V g E y O I w)->X U V g E y O I w
noncomputable def al2 (R:EP)(y:OA->Nat->WP)(g:OA->Nat->OA->Nat->Nat->Int->Int->WP):AC:=
 (.leaf (sb 1780 body))
def bl102 (R:EP)(O:OA->Nat->WP)(U:OA)(V:Nat)(w:World):Prop:=
 callE P CL #[] (λe I=> ∃E g y,e= hQ (hT E g y)/\
 l2 R O U V E g y (g:Int) 0 I) w
def l102 (R:EP)(y:OA)(g:Nat)(w:World):Prop:=
 ∀X:OA->Nat->WP,(∀y g w,bl102 R X y g w->X y g w)->X y g w
noncomputable def HI (R:EP)(g:OA->Nat->WP):AC:=
 (.seq (.seq (.leaf (sb 444 body)) (.block 2 (.loop (leaf [(0,.s .ptr),(3,.s .loc),(86,.s .slice),(87,.s (.int .i64)),(88,.s (.int .i64))] (l2 R g)) (sb 1780 body)))) (.leaf (sb 223 body)))
def k2 (R:EP)(y:OA)(O:Nat)(w:World):Prop:=
 callE P cr #[kT (kE O)] (λe g=> ∃E,e= hQ (hV E)/\
 br E
 (aA y λV=>
 ∃I,g.cell? (V.add 5)=some (hY I)/\
 callE P bj #[kT y,hY (i64.wrap (I+1))] (λe U=>e= hQ (.tuple #[])/\
 R (hQ (.tuple #[])) U) g)
 (bl102 R (l102 R) y O g)) w
def k1 (R:EP)(Xa:OA->Nat->WP)(g:OA)(I:Nat)(a6 b3:Bool)(w:World):Prop:=
 br b3
 (tk w λy=>
 aA g λb5=>
 aA g λb7=>
 aA g λb6=>
 ∃O U a7,y.cell? (b5.add 4)=some (hT O U a7)/\
 ∃E,y.cell? (b7.add 5)=some (hY E)/\
 ∃V,y.cell? (b6.add 3)=some (hY V)/\
 0<=(i64.wrap (E+1))/\(i64.wrap (E+1))<(U:Int)/\
 aA O λb4=>
 stV y ((((b4.add (Int.toNat (i64.wrap (E+1))*4)).add 2).add 1).add 0) (hY V) λW=>
 br (!a6)
 (k2 R g I W)
 (k3 R Xa g I W))
 (br (!a6)
 (k2 R g I w)
 (k3 R Xa g I w))
def bl1 (R:EP)(Xa:OA->Nat->WP)(U:OA)(g:Nat)(w:World):Prop:=
 tk w λO=>
 aA U λi0=>
 aA U λh9=>
 ∃f4,O.cell? (i0.add 5)=some (hY f4)/\
 ∃g7 f1 g5,O.cell? (h9.add 4)=some (hT g7 f1 g5)/\
 br (decide ((i64.wrap (f4+1))<(f1:Int)))
 (∃e3,O.cell? (hZ g 0)=some (hY e3)/\
 ∃e9,O.cell? (hZ g 1)=some (hY e9)/\
 ∃e7,O.cell? (hZ g 2)=some (hY e7)/\
 ∃e0,O.cell? (hZ g 3)=some (hX e0)/\
 ∃f2,O.cell? (hZ g 4)=some (.int .u8 f2)/\
 box O #[hY 0,hY 0,hY 0,hX (hP #[]),.int .u8 0] aW λE h7=>
 stV h7 (hZ E 0) (hY e3) λf6=>
 stV f6 (hZ E 1) (hY e9) λg4=>
 stV g4 (hZ E 2) (hY e7) λh4=>
 stV h4 (hZ E 3) (hX e0) λh3=>
 stV h3 (hZ E 4) (.int .u8 f2) λg3=>
 tk g3 λI=>
 aA U λg1=>
 aA U λh8=>
 ∃d2 d1 f5,I.cell? (g1.add 4)=some (hT d2 d1 f5)/\
 ∃W,I.cell? (h8.add 5)=some (hY W)/\
 0<=(i64.wrap (W+1))/\(i64.wrap (W+1))<(d1:Int)/\
 aA d2 λg6=>
 ∃(e8:Value),I.cell? (g6.add (Int.toNat (i64.wrap (W+1))*4))=some e8/\
 ∃d3,I.cell? (hZ g 0)=some (hY d3)/\
 ∃e4,I.cell? (hZ g 1)=some (hY e4)/\
 ∃e6,I.cell? (hZ g 2)=some (hY e6)/\
 ∃f0,I.cell? (hZ g 3)=some (hX f0)/\
 ∃e2,I.cell? (hZ g 4)=some (.int .u8 e2)/\
 de P (callMethod e8 "pub-paratext/pub/rscmarkdown.extend" #[kT U,.agg #[hY d3,hY e4,hY e6,hX f0,.int .u8 e2]]) (λe g2=> ∃c9 c5,∃d0 c8,∃c4 V,e= hQ (.tuple #[.agg #[hY c9,hY c5,hY d0,hX c8,.int .u8 c4],hV V])/\
 stV g2 (hZ g 0) (hY c9) λh6=>
 stV h6 (hZ g 1) (hY c5) λh2=>
 stV h2 (hZ g 2) (hY d0) λh5=>
 stV h5 (hZ g 3) (hX c8) λh1=>
 stV h1 (hZ g 4) (.int .u8 c4) λg0=>
 callE P cr #[kT (kE E)] (λe y=> ∃f3,e= hQ (hV f3)/\
 br (!f3)
 (br V
 (k1 R Xa U g V true y)
 (∃b4,y.cell? (hZ g 0)=some (hY b4)/\
 ∃c1,y.cell? (hZ g 1)=some (hY c1)/\
 ∃b5,y.cell? (hZ g 2)=some (hY b5)/\
 ∃b6,y.cell? (hZ g 3)=some (hX b6)/\
 ∃b7,y.cell? (hZ g 4)=some (.int .u8 b7)/\
 ∃b8,y.cell? (hZ E 0)=some (hY b8)/\
 ∃c2,y.cell? (hZ E 1)=some (hY c2)/\
 ∃c3,y.cell? (hZ E 2)=some (hY c3)/\
 ∃b3,y.cell? (hZ E 3)=some (hX b3)/\
 ∃b9,y.cell? (hZ E 4)=some (.int .u8 b9)/\
 ∃e5 e1,(do eqGuard .neq aW (.tmp 55) (.tmp 56) (.agg #[hY b4,hY c1,hY b5,hX b6,.int .u8 b7]) (.agg #[hY b8,hY c2,hY c3,hX b3,.int .u8 b9]);binOp .neq aW (.agg #[hY b4,hY c1,hY b5,hX b6,.int .u8 b7]) (.agg #[hY b8,hY c2,hY c3,hX b3,.int .u8 b9])).run P y= .ok (hV e5) e1/\
 k1 R Xa U g V e5 e1))
 (k1 R Xa U g V false y)) g0) I)
 (k2 R U g O)
def l1 (R:EP)(y:OA)(g:Nat)(w:World):Prop:=
 ∀X:OA->Nat->WP,(∀y g w,bl1 R X y g w->X y g w)->X y g w
noncomputable def al1 (R:EP)(Xa:OA->Nat->WP):AC:=
 (.seq (.seq (.draw (.pure 0 (.pure 1 (.pure 2 (.pure 5 (.pure 6 (.pure 7 (.load 3 (.pure 4 (.load 8 (.pure 9 (.pure 10 .done))))))))))) (sb 416 body)) (.leaf (sb 417 body))) (.seq (.block 1 (.seq (.leaf (sb 1672 body)) (.seq (.leaf (sb 3346 body)) (.seq (.draw (.pure 0 (.pure 1 (.pure 2 (.pure 4 (.pure 5 (.pure 6 (.pure 12 (.load 3 (.load 7 (.pure 8 (.pure 9 (.pure 10 (.load 11 (.load 13 (.one 14 (.pure 15 (.pure 16 (.pure 17 (.one 18 (.pure 19 .done)))))))))))))))))))) (sb 6694 body)) (.seq (.seq (.leaf (sb 26780 body)) (.mark (leaf [(0,.s .ptr),(3,.s .loc),(5,.s .bool),(59,.s .bool)] (k1 R Xa)) (.cond 59 (.draw (.pure 0 (.pure 1 (.pure 2 (.pure 4 (.pure 5 (.pure 6 (.pure 9 (.pure 10 (.pure 11 (.load 3 (.load 7 (.pure 8 (.load 12 (.pure 13 (.pure 14 (.pure 15 (.one 16 .done))))))))))))))))) (sb 53562 body)) (.leaf (sb 53563 body))))) (.leaf (sb 13391 body))))))) (.mark (leaf [(0,.s .ptr),(3,.s .loc)] (k3 R Xa)) (.leaf (sb 419 body)))))
end ak
def ak (R:EP)(g:OA)(y O I:Int)(E:BA)(U:Int)(w:World):Prop:=
 box w #[hY y,hY O,hY I,hX E,.int .u8 U] aW λb1 V=>
 aA g λa3=>
 stV V ((a3.add 5).add 0) (hY 0) λW=>
 ak.l1 R g b1 W
namespace ak
noncomputable def ac (R:EP):AC:=
 (.seq (.leaf (sb 2 body)) (.jump 0 (leaf [(0,.s .ptr),(3,.s .loc)] (l102 R)) (.seq (.leaf (sb 12 body)) (.seq (.block 0 (.loop (leaf [(0,.s .ptr),(3,.s .loc)] (l1 R)) (sb 104 body))) (.mark (leaf [(0,.s .ptr),(3,.s .loc)] (k2 R)) (.seq (.leaf (sb 54 body)) (.seq (.leaf (sb 110 body)) (.mark (leaf [(0,.s .ptr),(3,.s .loc)] (bl102 R (l102 R))) (HI R (l102 R))))))))))
theorem good (R:EP):vX P 113 (ac R) (QF P [] R):=
 ⟨trivial,⟨⟨trivial,⟨(Gf (al1 R) (bl1 R) (λ_=>by kernel_rfl) (λXa=>⟨⟨⟨by kernel_rfl,by kernel_rfl,λ_ _ _ h=>h⟩,trivial⟩,⟨⟨trivial,⟨trivial,⟨⟨by kernel_rfl,by kernel_rfl,λ_ _ _ h=>h⟩,⟨⟨trivial,⟨⟨⟨by kernel_rfl,by kernel_rfl,λ_ _ _ h=>h⟩,trivial⟩,cutZ⟩⟩,trivial⟩⟩⟩⟩,⟨trivial,cutZ⟩⟩⟩) (λXa=>by intro I O ρ w;kernel_rfl) (λX h _ _ _ y=>y X h)),⟨⟨trivial,⟨trivial,⟨⟨trivial,(Gf (al2 R (l102 R)) (bl2 R (l102 R)) (λ_=>by kernel_rfl) (λU=>trivial) (λU=>by intro I O V a6 W b3 a7 ρ w;kernel_rfl) (λX h _ _ _ _ _ _ _ _ y=>y X h))⟩,trivial⟩,cutZ⟩⟩,cutZ⟩⟩⟩,.seq .skip (sb 111 body),by kernel_rfl,jumpG (l:=0) (λX=> .seq (.leaf .skip) (HI R X)) (bl102 R) (by kernel_rfl) (λ_=>by kernel_rfl) (λE=>⟨trivial,⟨⟨trivial,(Gf (al2 R E) (bl2 R E) (λ_=>by kernel_rfl) (λU=>trivial) (λU=>by intro I O V a6 W b3 a7 ρ w;kernel_rfl) (λX h _ _ _ _ _ _ _ _ y=>y X h))⟩,trivial⟩⟩) (λE=>by intro I O ρ w;kernel_rfl) (λX h _ _ _ y=>y X h)⟩⟩
theorem sound {R:EP}{U:OA}{g E O:Int}{y:ByteArray}{I:Int}{w:World}(h:ak R U g E O y I w):callE P ie #[kT U,.agg #[hY g,hY E,hY O,hX y,.int .u8 I]] R w:=
 EN (c:=body) Tryz.func80 Tryz.call80 (good R) (by kernel_rfl) h
end ak
def CU (R:EP)(w:World):Prop:=
 ∃y E,∃g I,(Instr.buildSlice cS 8 #[(0,.func (.func km) #[] #[]),(1,.func (.func fx) #[] #[]),(2,.func (.func bZ) #[] #[]),(3,.func (.func qD) #[] #[]),(4,.func (.func cm) #[] #[]),(5,.func (.func lZ) #[] #[]),(6,.func (.func ko) #[] #[]),(7,.func (.func pM) #[] #[])]).run P w= .ok (hT y E g) I/\
 R (hQ (hT y E g)) I
theorem CU.sound {R w}(h:CU R w):callE P CL #[] R w:=
 cE Tryz.func105 Tryz.call105 h
namespace dZ
def k5 (R:EP)(g:Nat)(c2:OA)(d2:BA)(w:World):Prop:=
 aA c2 λd1=>
 ∃O a7 W,w.cell? d1=some (hT O a7 W)/\
 ∃a6 I,∃b3 b5,(Instr.buildSlice al 1 #[(0,hX d2)]).run P w= .ok (hT a6 I b3) b5/\
 ∃U E,∃V b4,(Builtin.append_ #[al,al] al #[hT O a7 W,hT a6 I b3]).run P b5= .ok (hT U E V) b4/\
 aA c2 λc3=>
 stV b4 (c3.add 0) (hT U E V) λc4=>
 stV c4 (hZ g 0) (hY 0) λd0=>
 stV d0 (hZ g 1) (hY 0) λc9=>
 stV c9 (hZ g 2) (hY 0) λc8=>
 stV c8 (hZ g 3) (hX (hP #[])) λc5=>
 stV c5 (hZ g 4) (.int .u8 0) λy=>
 ∃c1,y.cell? (hZ g 0)=some (hY c1)/\
 ∃b6,y.cell? (hZ g 1)=some (hY b6)/\
 ∃b8,y.cell? (hZ g 2)=some (hY b8)/\
 ∃b9,y.cell? (hZ g 3)=some (hX b9)/\
 ∃b7,y.cell? (hZ g 4)=some (.int .u8 b7)/\
 R (hQ (.tuple #[.agg #[hY c1,hY b6,hY b8,hX b9,.int .u8 b7],hV true])) y
def bl1 (R:EP)(Xa:OA->Nat->OA->BA->Int->WP)(y:OA)(a6:Nat)(a7:OA)(W:BA)(g:Int)(w:World):Prop:=
 aA y λb9=>
 ∃b5 I b3,w.cell? (b9.add 4)=some (hT b5 I b3)/\
 br (decide (g<(I:Int)))
 (tk w λE=>
 aA y λc1=>
 aA y λb7=>
 ∃O U b4,E.cell? (c1.add 4)=some (hT O U b4)/\
 ∃V,E.cell? (b7.add 3)=some (hY V)/\
 0<=g/\g<(U:Int)/\
 aA O λb6=>
 stV E ((((b6.add (Int.toNat g*4)).add 2).add 1).add 0) (hY V) λb8=>
 Xa y a6 a7 W (i64.wrap (g+1)) b8)
 (k5 R a6 a7 W w)
def l1 (R:EP)(E:OA)(I:Nat)(O:OA)(y:BA)(g:Int)(w:World):Prop:=
 ∀X:OA->Nat->OA->BA->Int->WP,(∀E I O y g w,bl1 R X E I O y g w->X E I O y g w)->X E I O y g w
def k4 (R:EP)(y:OA)(W:Nat)(E:OA)(V:BA)(b3:Bool)(w:World):Prop:=
 br b3
 (False)
 (∃I g,(do eqGuard .neq ar (.tmp 132) (.const (kT none)) (kT E) (kT none);binOp .neq ar (kT E) (kT none)).run P w= .ok (hV I) g/\
 br I
 (aA y λa6=>
 ∃O,g.cell? (a6.add 5)=some (hY O)/\
 l1 R y W E V O g)
 (box g #[hT none 0 0,kT none] aL λU b4=>
 callE P bQ #[kT y,.iface ar (kT (kE U))] (λe a7=>e= hQ (.tuple #[])/\
 k5 R W (kE U) V a7) b4))
def k3 (R:EP)(I:OA)(O:Nat)(y:OA)(d2:Bool)(E:BA)(w:World):Prop:=
 tk w λg=>
 aA I λc3=>
 ∃b5,g.cell? c3=some (kT b5)/\
 aA b5 λc4=>
 ∃b4,g.cell? (c4.add 5)=some (hV b4)/\
 br b4
 (∃b3,(∀w,(do eqGuard .neq ar (.tmp 59) (.const (kT none)) (kT y) (kT none);binOp .neq ar (kT y) (kT none)).run P w= .ok (hV b3) w)/\
 br b3
 (br d2
 (aA y λc8=>
 ∃c2 a6 c1,g.cell? c8=some (hT c2 a6 c1)/\
 br (decide ((a6:Int)>0))
 (aA y λd1=>
 aA y λc9=>
 ∃W V b8,g.cell? d1=some (hT W V b8)/\
 ∃b9 U b7,g.cell? c9=some (hT b9 U b7)/\
 0<=(i64.wrap ((U:Int) - 1))/\(i64.wrap ((U:Int) - 1))<(V:Int)/\
 aA W λd0=>
 ∃a7,g.cell? (d0.add (Int.toNat (i64.wrap ((U:Int) - 1))*1))=some (hX a7)/\
 callE P tS #[hX a7,hX E] (λe c5=> ∃b6,e= hQ (hV b6)/\
 k4 R I O y E b6 c5) g)
 (k4 R I O y E false g))
 (k4 R I O y E false g))
 (k4 R I O y E false g))
 (k4 R I O y E false g)
def k1 (R:EP)(E:OA)(I:Nat)(O:OA)(U:Bool)(y:BA)(g:Bool)(w:World):Prop:=
 br g
 (False)
 (k3 R E I O U y w)
end dZ
def dZ (R:EP)(y:OA)(b6 b9 c2:Int)(b7:BA)(c1:Int)(w:World):Prop:=
 box w #[hY b6,hY b9,hY c2,hX b7,.int .u8 c1] aW λb1 c9=>
 box c9 #[hY 0,hY 0,hY 0,hX (hP #[]),.int .u8 0] aW λb5 d0=>
 callE P eE #[kT y] (λe c8=> ∃g,e= hQ (kT g)/\
 tk c8 λW=>
 aA y λa8=>
 aA y λa9=>
 ∃O,W.cell? (a8.add 5)=some (hY O)/\
 ∃c3 I b8,W.cell? (a9.add 4)=some (hT c3 I b8)/\
 callE P gi #[kT (kE b1)] (λe c4=> ∃V,e= hQ (hX V)/\
 ∃b4 E,(do eqGuard .neq ar (.tmp 26) (.const (kT none)) (kT g) (kT none);binOp .neq ar (kT g) (kT none)).run P c4= .ok (hV b4) E/\
 br b4
 (aA g λc5=>
 ∃U,E.cell? (c5.add 1)=some (kT U)/\
 ∃a6 a7,(do eqGuard .neq ft (.tmp 32) (.const (kT none)) (kT U) (kT none);binOp .neq ft (kT U) (kT none)).run P E= .ok (hV a6) a7/\
 dZ.k1 R y b5 g (O==(i64.wrap ((I:Int) - 2))) V a6 a7)
 (dZ.k1 R y b5 g (O==(i64.wrap ((I:Int) - 2))) V false E)) W) d0
theorem dZ.sound {R x0 x1_0 x1_1 x1_2 x1_3 x1_4 w}(h:dZ R x0 x1_0 x1_1 x1_2 x1_3 x1_4 w):callE P pN #[kT x0,.agg #[hY x1_0,hY x1_1,hY x1_2,hX x1_3,.int .u8 x1_4]] R w:=
 aG [(11,.dr (rpN [0,3,6,12,15,18,10,22,24,27,30,33])),(111,.mk [2,86,122,140,161,680] (dZ.k1 R)),(175,.no),(63,.mk [2,86,122,140,161] (dZ.k3 R)),(159,.dr (rpN [0,3,6,10,12,15,19,21,24,27,30,33,36,39,42,45,48,51,55,57,60,63,66,69,72,75,81,84,87,105,79,91,93,96,99,103,110,111])),(223,.mk [2,86,122,161,1760] (dZ.k4 R)),(351,.no),(2751,.lp [2,86,122,161,227] (dZ.bl1 R) λXa=> [(9,.dr (rpN [0,3,6,12,15,18,21,10,25,27,30,33,38]))]),(255,.mk [86,122,161] (dZ.k5 R))] Tryz.func106 Tryz.call106 h
namespace jO
def k1 (R:EP)(c3:OA)(E g c2:Nat)(b7:Bool)(w:World):Prop:=
 br b7
 (False)
 (∃W,w.cell? (hZ E 0)=some (hY W)/\
 ∃b5,w.cell? (hZ E 1)=some (hY b5)/\
 ∃U,w.cell? (hZ E 2)=some (hY U)/\
 ∃V,w.cell? (hZ E 3)=some (hX V)/\
 ∃I,w.cell? (hZ E 4)=some (.int .u8 I)/\
 stV w (hZ g 0) (hY W) λc1=>
 stV c1 (hZ g 1) (hY b5) λb9=>
 stV b9 (hZ g 2) (hY U) λb8=>
 stV b8 (hZ g 3) (hX V) λb6=>
 stV b6 (hZ g 4) (.int .u8 I) λy=>
 ∃O,y.cell? (hZ g 0)=some (hY O)/\
 ∃a7,y.cell? (hZ g 1)=some (hY a7)/\
 ∃a6,y.cell? (hZ g 2)=some (hY a6)/\
 ∃b3,y.cell? (hZ g 3)=some (hX b3)/\
 ∃b4,y.cell? (hZ g 4)=some (.int .u8 b4)/\
 R (hQ (.tuple #[.agg #[hY O,hY a7,hY a6,hX b3,.int .u8 b4],hV false])) y)
end jO
def jO (R:EP)(E:OA)(b9 c2 c4:Int)(c1:BA)(c3:Int)(w:World):Prop:=
 box w #[hY b9,hY c2,hY c4,hX c1,.int .u8 c3] aW λb1 e1=>
 box e1 #[hY 0,hY 0,hY 0,hX (hP #[]),.int .u8 0] aW λU y=>
 ∃b7,y.cell? (hZ b1 0)=some (hY b7)/\
 ∃b6,y.cell? (hZ b1 1)=some (hY b6)/\
 ∃b5,y.cell? (hZ b1 2)=some (hY b5)/\
 ∃b8,y.cell? (hZ b1 3)=some (hX b8)/\
 ∃b4,y.cell? (hZ b1 4)=some (.int .u8 b4)/\
 box y #[hY 0,hY 0,hY 0,hX (hP #[]),.int .u8 0] aW λg d0=>
 stV d0 (hZ g 0) (hY b7) λd3=>
 stV d3 (hZ g 1) (hY b6) λe0=>
 stV e0 (hZ g 2) (hY b5) λc5=>
 stV c5 (hZ g 3) (hX b8) λd1=>
 stV d1 (hZ g 4) (.int .u8 b4) λd2=>
 callE P eE #[kT E] (λe c8=> ∃O,e= hQ (kT O)/\
 ∃W I,(do eqGuard .eql ar (.tmp 10) (.const (kT none)) (kT O) (kT none);binOp .eql ar (kT O) (kT none)).run P c8= .ok (hV W) I/\
 br W
 (callE P bl #[kT (kE g),hY 4,hY 4,hV false] (λe a7=> ∃V,e= hQ (hV V)/\
 br V
 (callE P cr #[kT (kE g)] (λe c9=> ∃a6,e= hQ (hV a6)/\
 jO.k1 R E b1 U g (!a6) c9) a7)
 (jO.k1 R E b1 U g false a7)) I)
 (jO.k1 R E b1 U g false I)) d2
theorem jO.sound {R x0 x1_0 x1_1 x1_2 x1_3 x1_4 w}(h:jO R x0 x1_0 x1_1 x1_2 x1_3 x1_4 w):callE P pM #[kT x0,.agg #[hY x1_0,hY x1_1,hY x1_2,hX x1_3,.int .u8 x1_4]] R w:=
 aG [(27,.mk [2,66,86,126,360] (jO.k1 R)),(43,.no)] Tryz.func148 Tryz.call148 h
namespace bz
def k1 (R:EP)(Xa:OA->OA->OA->OA->Nat->WP)(V W:OA)(U g:OA)(a6:Nat)(w:World):Prop:=
 aA g λO=>
 ∃y,w.cell? O=some (hY y)/\
 aA g λI=>
 stV w (I.add 0) (hY (i64.wrap (y+1))) λE=>
 Xa V W U g a6 E
def k4 (R:EP)(b9 c1 b8:OA)(I:BA)(y:Int)(b3:BA)(w:World):Prop:=
 callE P iA #[hX b3] (λe b7=> ∃E,e= hQ (hX E)/\
 aA b8 λW=>
 stV b7 (W.add 0) (hX E) λb5=>
 0<=y/\y<=(I.size:Int)/\
 aA c1 λa7=>
 stV b5 (a7.add 0) (hX (I.extract 0 (Int.toNat y))) λb6=>
 aA b9 λg=>
 stV b6 (g.add 0) (hY 0) λb4=>
 stV b4 (g.add 1) (hY 0) λa6=>
 stV a6 (g.add 2) (hY 0) λU=>
 stV U (g.add 3) (hX (hP #[])) λV=>
 stV V (g.add 4) (.int .u8 0) λO=>
 R (hQ (hV true)) O) w
def bl2 (R:EP)(b9:OA->OA->OA->Nat->Int->BA->Int->Int->WP)(V W U:OA)(a6:Nat)(y:Int)(O:BA)(I a7:Int)(w:World):Prop:=
 callE P fI #[kT (kE a6),.int .u8 y] (λe E=> ∃b6,e= hQ (hV b6)/\
 br (!b6)
 (br (decide (a7 >= 3))
 (callE P jB #[kT (kE a6)] (λe b8=> ∃b5,e= hQ (hX b5)/\
 callE P gC #[.agg #[],hX b5] (λe b3=> ∃g,e= hQ (hX g)/\
 br (y==96)
 (callE P jb #[hX g,hX (hP #[96])] (λe b4=> ∃b7,e= hQ (hV b7)/\
 br b7
 (R (hQ (hV false)) b4)
 (k4 R V W U O I g b4)) b3)
 (k4 R V W U O I g b3)) b8) E)
 (R (hQ (hV false)) E))
 (b9 V W U a6 y O (i64.wrap (I+1)) (i64.wrap (a7+1)) E)) w
def l2 (R:EP)(U V O:OA)(W:Nat)(g:Int)(I:BA)(E y:Int)(w:World):Prop:=
 ∀X:OA->OA->OA->Nat->Int->BA->Int->Int->WP,(∀U V O W g I E y w,bl2 R X U V O W g I E y w->X U V O W g I E y w)->X U V O W g I E y w
def k3 (R:EP)(V W U:OA)(y:Nat)(I:Int)(E:Bool)(w:World):Prop:=
 br E
 (callE P gV #[kT (kE y)] (λe O=> ∃g,e= hQ (hX g)/\
 l2 R V W U y I g 0 0 O) w)
 (R (hQ (hV false)) w)
def k2 (R:EP)(O U I:OA)(y:Nat)(w:World):Prop:=
 callE P iP #[kT (kE y)] (λe E=> ∃g,e= hQ (.int .u8 g)/\
 br (g==96)
 (k3 R O U I y g true E)
 (k3 R O U I y g (g==126) E)) w
def bl1 (R:EP)(Xa:OA->OA->OA->OA->Nat->WP)(E I:OA)(y W:OA)(g:Nat)(w:World):Prop:=
 aA W λa6=>
 ∃U,w.cell? a6=some (hY U)/\
 br (decide (U<3))
 (callE P bl #[kT (kE g),hY 1,hY 1,hV false] (λe V=> ∃O,e= hQ (hV O)/\
 br O
 (k1 R Xa E I y W g V)
 (k2 R E I y g V)) w)
 (k2 R E I y g w)
def l1 (R:EP)(y I:OA)(g E:OA)(O:Nat)(w:World):Prop:=
 ∀X:OA->OA->OA->OA->Nat->WP,(∀y I g E O w,bl1 R X y I g E O w->X y I g E O w)->X y I g E O w
end bz
def bz (R:EP)(O b9:OA)(b8 U:OA)(w:World):Prop:=
 aA O λa1=>
 ∃W,w.cell? (a1.add 0)=some (hY W)/\
 ∃y,w.cell? (a1.add 1)=some (hY y)/\
 ∃V,w.cell? (a1.add 2)=some (hY V)/\
 ∃I,w.cell? (a1.add 3)=some (hX I)/\
 ∃E,w.cell? (a1.add 4)=some (.int .u8 E)/\
 box w #[hY 0,hY 0,hY 0,hX (hP #[]),.int .u8 0] aW λg b6=>
 stV b6 (hZ g 0) (hY W) λc1=>
 stV c1 (hZ g 1) (hY y) λb4=>
 stV b4 (hZ g 2) (hY V) λb5=>
 stV b5 (hZ g 3) (hX I) λa7=>
 stV a7 (hZ g 4) (.int .u8 E) λb3=>
 aA U λa14=>
 stV b3 (a14.add 0) (hY 0) λa6=>
 bz.l1 R O b9 b8 U g a6
theorem bz.sound {R x0 x1 x2 x3 w}(h:bz R x0 x1 x2 x3 w):callE P fW #[kT x0,kT x1,kT x2,kT x3] R w:=
 aG [(39,.lp [2,22,42,62,186] (bz.bl1 R) λXa=> [(3,.mk [2,22,42,62,186] (bz.k1 R Xa))]),(31,.mk [2,22,42,186] (bz.k2 R)),(879,.mk [2,22,42,186,208,680] (bz.k3 R)),(44399,.lp [2,22,42,186,208,221,247,267] (bz.bl2 R) λg=> []),(64879,.mk [2,22,42,221,247,281] (bz.k4 R))] Tryz.func201 Tryz.call201 h
namespace dS
def k4 (R:EP)(c4:OA)(g c2:Nat)(c1 c3:Nat)(w:World):Prop:=
 ∃a6,w.cell? (hZ c2 0)=some (hX a6)/\
 ∃I,w.cell? (hZ c1 0)=some (hX I)/\
 ∃E,w.cell? (hZ c3 0)=some (hY E)/\
 box w #[hX a6,hX I,hY E,hT none 0 0] m0 λb5 b3=>
 callE P bQ #[kT c4,.iface gQ (kT (kE b5))] (λe b4=>e= hQ (.tuple #[])/\
 stV b4 (hZ g 0) (hY 0) λb9=>
 stV b9 (hZ g 1) (hY 0) λb8=>
 stV b8 (hZ g 2) (hY 0) λb7=>
 stV b7 (hZ g 3) (hX (hP #[])) λb6=>
 stV b6 (hZ g 4) (.int .u8 0) λy=>
 ∃a7,y.cell? (hZ g 0)=some (hY a7)/\
 ∃O,y.cell? (hZ g 1)=some (hY O)/\
 ∃V,y.cell? (hZ g 2)=some (hY V)/\
 ∃W,y.cell? (hZ g 3)=some (hX W)/\
 ∃U,y.cell? (hZ g 4)=some (.int .u8 U)/\
 R (hQ (.tuple #[.agg #[hY a7,hY O,hY V,hX W,.int .u8 U],hV true])) y) b3
def bl1 (R:EP)(Xa:OA->Nat->Nat->Nat->Nat->Value->WP)(V:OA)(W a6:Nat)(a7 U:Nat)(g:Value)(w:World):Prop:=
 (∃E,(Instr.next g true ty_).run P w= .ok (.tuple #[hV false]) E/\
 k4 R V W a6 a7 U E)\/
 (∃b3 y I,(Instr.next g true ty_).run P w= .ok (.tuple #[hV true,hY b3,.int .i32 y]) I/\
 callE P dJ #[.int .i32 y] (λe b4=> ∃O,e= hQ (hV O)/\
 br O
 (False)
 (Xa V W a6 a7 U g b4)) I)
def l1 (R:EP)(E:OA)(I O:Nat)(U y:Nat)(g:Value)(w:World):Prop:=
 ∀X:OA->Nat->Nat->Nat->Nat->Value->WP,(∀E I O U y g w,bl1 R X E I O U y g w->X E I O U y g w)->X E I O U y g w
def k2 (R:EP)(U:OA)(V W:Nat)(I O:Nat)(w:World):Prop:=
 ∃g,w.cell? (hZ I 0)=some (hX g)/\
 ∃(E:Value),∃y,(Instr.range aq (hX g)).run P w= .ok E y/\
 l1 R U V W I O E y
def k3 (R:EP)(E:OA)(I O:Nat)(U y:Nat)(g:Bool)(w:World):Prop:=
 br g
 (False)
 (k2 R E I O U y w)
def k1 (R:EP)(U:OA)(V W:Nat)(g O:Nat)(a7:Bool)(w:World):Prop:=
 br a7
 (False)
 (∃I,w.cell? (hZ g 0)=some (hX I)/\
 br (!(I.toList==(hP #[]).toList))
 (∃y,w.cell? (hZ g 0)=some (hX y)/\
 (true=true->0<=(0:Int)/\0<(y.size:Int))/\
 callE P qF #[.int .u8 (bt y 0)] (λe a6=> ∃E,e= hQ (hV E)/\
 k3 R U V W g O (!E) a6) w)
 (k3 R U V W g O false w))
end dS
def dS (R:EP)(e2:OA)(e3 e5 e7:Int)(e4:BA)(e6:Int)(w:World):Prop:=
 box w #[hY e3,hY e5,hY e7,hX e4,.int .u8 e6] aW λb1 g3=>
 box g3 #[hY 0,hY 0,hY 0,hX (hP #[]),.int .u8 0] aW λg g4=>
 box g4 #[hX (hP #[])] aq λU g1=>
 box g1 #[hX (hP #[])] aq λV g2=>
 box g2 #[hY 0] ba λa6 E=>
 ∃c4,E.cell? (hZ b1 0)=some (hY c4)/\
 ∃c3,E.cell? (hZ b1 1)=some (hY c3)/\
 ∃b4,E.cell? (hZ b1 2)=some (hY b4)/\
 ∃e0,E.cell? (hZ b1 3)=some (hX e0)/\
 ∃d3,E.cell? (hZ b1 4)=some (.int .u8 d3)/\
 box E #[hY 0,hY 0,hY 0,hX (hP #[]),.int .u8 0] aW λI e8=>
 stV e8 (hZ I 0) (hY c4) λf2=>
 stV f2 (hZ I 1) (hY c3) λf6=>
 stV f6 (hZ I 2) (hY b4) λf5=>
 stV f5 (hZ I 3) (hX e0) λf1=>
 stV f1 (hZ I 4) (.int .u8 d3) λg0=>
 callE P fW #[kT (kE I),kT (kE U),kT (kE V),kT (kE a6)] (λe y=> ∃c9,e= hQ (hV c9)/\
 br c9
 (∃W,y.cell? (hZ U 0)=some (hX W)/\
 0<=(0:Int)/\0<(W.size:Int)/\
 br ((bt W 0)==126)
 (∃d2,y.cell? (hZ V 0)=some (hX d2)/\
 dS.k1 R e2 g U V a6 (!(d2.toList==(hP #[]).toList)) y)
 (dS.k1 R e2 g U V a6 false y))
 (∃b6,y.cell? (hZ b1 0)=some (hY b6)/\
 ∃c2,y.cell? (hZ b1 1)=some (hY c2)/\
 ∃a7,y.cell? (hZ b1 2)=some (hY a7)/\
 ∃b8,y.cell? (hZ b1 3)=some (hX b8)/\
 ∃c1,y.cell? (hZ b1 4)=some (.int .u8 c1)/\
 stV y (hZ g 0) (hY b6) λf3=>
 stV f3 (hZ g 1) (hY c2) λe9=>
 stV e9 (hZ g 2) (hY a7) λf4=>
 stV f4 (hZ g 3) (hX b8) λf0=>
 stV f0 (hZ g 4) (.int .u8 c1) λO=>
 ∃c5,O.cell? (hZ g 0)=some (hY c5)/\
 ∃d0,O.cell? (hZ g 1)=some (hY d0)/\
 ∃d1,O.cell? (hZ g 2)=some (hY d1)/\
 ∃e1,O.cell? (hZ g 3)=some (hX e1)/\
 ∃c8,O.cell? (hZ g 4)=some (.int .u8 c8)/\
 R (hQ (.tuple #[.agg #[hY c5,hY d0,hY d1,hX e1,.int .u8 c8],hV false])) O)) g0
theorem dS.sound {R x0 x1_0 x1_1 x1_2 x1_3 x1_4 w}(h:dS R x0 x1_0 x1_1 x1_2 x1_3 x1_4 w):callE P ko #[kT x0,.agg #[hY x1_0,hY x1_1,hY x1_2,hX x1_3,.int .u8 x1_4]] R w:=
 aG [(815,.mk [2,86,126,146,166,400] (dS.k1 R)),(1327,.no),(3887,.mk [2,86,126,146,166,620] (dS.k3 R)),(5935,.no),(431,.mk [2,86,126,146,166] (dS.k2 R)),(2735,.lp [2,86,126,146,166,725] (dS.bl1 R) λXa=> [(91,.no)]),(943,.mk [2,86,126,146,166] (dS.k4 R))] Tryz.func147 Tryz.call147 h
namespace bL
def k1 (R:EP)(U:OA)(O g g3:Nat)(e1:Bool)(w:World):Prop:=
 br e1
 (callE P aI #[kT U] (λe e5=> ∃(g1:Value),e= hQ g1/\
 callE P lX #[kT U] (λe g0=> ∃(d0:Value),e= hQ d0/\
 ∃V W b5,(Instr.typeAssert d0 aO bD true).run P g0= .ok (.tuple #[kT V,hV W]) b5/\
 br (!W)
 (False)
 (callE P jh #[kT U] (λe e4=>e= hQ (.tuple #[])/\
 tk e4 λI=>
 aA V λf2=>
 aA U λf3=>
 aA V λe6=>
 ∃c9,I.cell? f2=some (hY c9)/\
 ∃d2,I.cell? (f3.add 3)=some (hY d2)/\
 ∃c4,I.cell? (hZ g3 0)=some (hY c4)/\
 ∃c1,I.cell? (e6.add 2)=some (kT c1)/\
 box I #[hY c9,hY d2,hY c4,kT c1,hX (hP #[])] qn λf0 e7=>
 callE P dO #[kT U,.iface gv (kT (kE f0))] (λe f1=>e= hQ (.tuple #[])/\
 stV f1 (hZ g 0) (hY 0) λe3=>
 stV e3 (hZ g 1) (hY 0) λg2=>
 stV g2 (hZ g 2) (hY 0) λe2=>
 stV e2 (hZ g 3) (hX (hP #[])) λf4=>
 stV f4 (hZ g 4) (.int .u8 0) λE=>
 ∃b8,E.cell? (hZ g 0)=some (hY b8)/\
 ∃c8,E.cell? (hZ g 1)=some (hY c8)/\
 ∃d1,E.cell? (hZ g 2)=some (hY d1)/\
 ∃a7,E.cell? (hZ g 3)=some (hX a7)/\
 ∃a6,E.cell? (hZ g 4)=some (.int .u8 a6)/\
 R (hQ (.tuple #[.agg #[hY b8,hY c8,hY d1,hX a7,.int .u8 a6],hV true])) E) e7) b5)) e5) w)
 (∃d3,w.cell? (hZ O 0)=some (hY d3)/\
 ∃b3,w.cell? (hZ O 1)=some (hY b3)/\
 ∃c5,w.cell? (hZ O 2)=some (hY c5)/\
 ∃e0,w.cell? (hZ O 3)=some (hX e0)/\
 ∃b6,w.cell? (hZ O 4)=some (.int .u8 b6)/\
 stV w (hZ g 0) (hY d3) λf6=>
 stV f6 (hZ g 1) (hY b3) λe9=>
 stV e9 (hZ g 2) (hY c5) λe8=>
 stV e8 (hZ g 3) (hX e0) λf5=>
 stV f5 (hZ g 4) (.int .u8 b6) λy=>
 ∃b7,y.cell? (hZ g 0)=some (hY b7)/\
 ∃c2,y.cell? (hZ g 1)=some (hY c2)/\
 ∃c3,y.cell? (hZ g 2)=some (hY c3)/\
 ∃b9,y.cell? (hZ g 3)=some (hX b9)/\
 ∃b4,y.cell? (hZ g 4)=some (.int .u8 b4)/\
 R (hQ (.tuple #[.agg #[hY b7,hY c2,hY c3,hX b9,.int .u8 b4],hV false])) y)
end bL
def bL (R:EP)(E:OA)(c1 c3 c5:Int)(c2:BA)(c4:Int)(w:World):Prop:=
 box w #[hY c1,hY c3,hY c5,hX c2,.int .u8 c4] aW λb1 e3=>
 box e3 #[hY 0,hY 0,hY 0,hX (hP #[]),.int .u8 0] aW λb7 e4=>
 box e4 #[hY 0] ba λV y=>
 ∃b8,y.cell? (hZ b1 0)=some (hY b8)/\
 ∃b9,y.cell? (hZ b1 1)=some (hY b9)/\
 ∃b6,y.cell? (hZ b1 2)=some (hY b6)/\
 ∃W,y.cell? (hZ b1 3)=some (hX W)/\
 ∃a6,y.cell? (hZ b1 4)=some (.int .u8 a6)/\
 box y #[hY 0,hY 0,hY 0,hX (hP #[]),.int .u8 0] aW λg e2=>
 stV e2 (hZ g 0) (hY b8) λc9=>
 stV c9 (hZ g 1) (hY b9) λd3=>
 stV d3 (hZ g 2) (hY b6) λe0=>
 stV e0 (hZ g 3) (hX W) λc8=>
 stV c8 (hZ g 4) (.int .u8 a6) λd1=>
 callE P gr #[kT E] (λe d2=> ∃(O:Value),e= hQ O/\
 callE P eE #[kT E] (λe e1=> ∃I,e= hQ (kT I)/\
 ∃b4 U,(do eqGuard .eql bO (.tmp 12) (.tmp 15) O (.iface ar (kT I));binOp .eql bO O (.iface ar (kT I))).run P e1= .ok (hV b4) U/\
 br b4
 (callE P fy #[kT (kE g),kT (kE V)] (λe d0=> ∃a7,e= hQ (hV a7)/\
 bL.k1 R E b1 b7 V a7 d0) U)
 (bL.k1 R E b1 b7 V false U)) d2) d1
theorem bL.sound {R x0 x1_0 x1_1 x1_2 x1_3 x1_4 w}(h:bL R x0 x1_0 x1_1 x1_2 x1_3 x1_4 w):callE P bZ #[kT x0,.agg #[hY x1_0,hY x1_1,hY x1_2,hX x1_3,.int .u8 x1_4]] R w:=
 aG [(55,.mk [2,66,86,126,380] (bL.k1 R)),(2775,.no),(3031,.dr (rpN [0,3,6,9,12,18,21,24,36,39,42,16,28,30,34,46,48,53,54,59]))] Tryz.func143 Tryz.call143 h
namespace cQ
def k1 (R:EP)(i3:OA)(y g:Nat)(f6:OA)(g7:Bool)(w:World):Prop:=
 br g7
 (aA f6 λa13=>
 ∃(f2:Value),w.cell? (a13.add 4)=some f2/\
 de P (do let d <-Deferred.ofValue f2 #[];invoke d.target d.args) (λe h9=> ∃a6 a7,∃b3 b4 W,e= hQ (.agg #[hY a6,hY a7,hY b3,hX b4,.int .u8 W])/\
 stV h9 (hZ y 0) (hY a6) λg0=>
 stV g0 (hZ y 1) (hY a7) λg4=>
 stV g4 (hZ y 2) (hY b3) λh7=>
 stV h7 (hZ y 3) (hX b4) λh5=>
 stV h5 (hZ y 4) (.int .u8 W) λg1=>
 aA f6 λg3=>
 stV g1 ((g3.add 4).add 0) .nilFunc λO=>
 ∃e9,O.cell? (hZ y 0)=some (hY e9)/\
 ∃e1,O.cell? (hZ y 1)=some (hY e1)/\
 ∃f1,O.cell? (hZ y 2)=some (hY f1)/\
 ∃c3,O.cell? (hZ y 3)=some (hX c3)/\
 ∃d1,O.cell? (hZ y 4)=some (.int .u8 d1)/\
 stV O (hZ g 0) (hY e9) λh2=>
 stV h2 (hZ g 1) (hY e1) λi1=>
 stV i1 (hZ g 2) (hY f1) λh1=>
 stV h1 (hZ g 3) (hX c3) λg6=>
 stV g6 (hZ g 4) (.int .u8 d1) λI=>
 ∃b9,I.cell? (hZ g 0)=some (hY b9)/\
 ∃c1,I.cell? (hZ g 1)=some (hY c1)/\
 ∃e6,I.cell? (hZ g 2)=some (hY e6)/\
 ∃e3,I.cell? (hZ g 3)=some (hX e3)/\
 ∃e7,I.cell? (hZ g 4)=some (.int .u8 e7)/\
 R (hQ (.tuple #[.agg #[hY b9,hY c1,hY e6,hX e3,.int .u8 e7],hV true])) I) w)
 (callE P bN #[kT i3,kT (kE y)] (λe E=> ∃c4,e= hQ (hV c4)/\
 br c4
 (∃e2,E.cell? (hZ y 0)=some (hY e2)/\
 ∃d2,E.cell? (hZ y 1)=some (hY d2)/\
 ∃b7,E.cell? (hZ y 2)=some (hY b7)/\
 ∃e4,E.cell? (hZ y 3)=some (hX e4)/\
 ∃b6,E.cell? (hZ y 4)=some (.int .u8 b6)/\
 stV E (hZ g 0) (hY e2) λh6=>
 stV h6 (hZ g 1) (hY d2) λg5=>
 stV g5 (hZ g 2) (hY b7) λi2=>
 stV i2 (hZ g 3) (hX e4) λg2=>
 stV g2 (hZ g 4) (.int .u8 b6) λU=>
 ∃b5,U.cell? (hZ g 0)=some (hY b5)/\
 ∃c9,U.cell? (hZ g 1)=some (hY c9)/\
 ∃e8,U.cell? (hZ g 2)=some (hY e8)/\
 ∃f0,U.cell? (hZ g 3)=some (hX f0)/\
 ∃c2,U.cell? (hZ g 4)=some (.int .u8 c2)/\
 R (hQ (.tuple #[.agg #[hY b5,hY c9,hY e8,hX f0,.int .u8 c2],hV true])) U)
 (∃b8,E.cell? (hZ y 0)=some (hY b8)/\
 ∃f3,E.cell? (hZ y 1)=some (hY f3)/\
 ∃c5,E.cell? (hZ y 2)=some (hY c5)/\
 ∃e5,E.cell? (hZ y 3)=some (hX e5)/\
 ∃f5,E.cell? (hZ y 4)=some (.int .u8 f5)/\
 stV E (hZ g 0) (hY b8) λi0=>
 stV i0 (hZ g 1) (hY f3) λh8=>
 stV h8 (hZ g 2) (hY c5) λh4=>
 stV h4 (hZ g 3) (hX e5) λh3=>
 stV h3 (hZ g 4) (.int .u8 f5) λV=>
 ∃f4,V.cell? (hZ g 0)=some (hY f4)/\
 ∃c8,V.cell? (hZ g 1)=some (hY c8)/\
 ∃d3,V.cell? (hZ g 2)=some (hY d3)/\
 ∃e0,V.cell? (hZ g 3)=some (hX e0)/\
 ∃d0,V.cell? (hZ g 4)=some (.int .u8 d0)/\
 R (hQ (.tuple #[.agg #[hY f4,hY c8,hY d3,hX e0,.int .u8 d0],hV false])) V)) w)
end cQ
def cQ (R:EP)(I:OA)(a7 b6 b5:Int)(b4:BA)(b7:Int)(w:World):Prop:=
 box w #[hY a7,hY b6,hY b5,hX b4,.int .u8 b7] aW λb1 b9=>
 box b9 #[hY 0,hY 0,hY 0,hX (hP #[]),.int .u8 0] aW λW c1=>
 callE P jA #[kT I] (λe b8=> ∃(a6:Value),e= hQ a6/\
 ∃g O y,(Instr.typeAssert a6 bO az true).run P b8= .ok (.tuple #[kT g,hV O]) y/\
 br O
 (aA g λa9=>
 ∃(E:Value),y.cell? (a9.add 4)=some E/\
 ∃V U,(do eqGuard .neq mZ (.tmp 19) (.const .nilFunc) E .nilFunc;binOp .neq mZ E .nilFunc).run P y= .ok (hV V) U/\
 cQ.k1 R I b1 W g V U)
 (cQ.k1 R I b1 W g false y)) c1
theorem cQ.sound {R x0 x1_0 x1_1 x1_2 x1_3 x1_4 w}(h:cQ R x0 x1_0 x1_1 x1_2 x1_3 x1_4 w):callE P cm #[kT x0,.agg #[hY x1_0,hY x1_1,hY x1_2,hX x1_3,.int .u8 x1_4]] R w:=
 aG [(29,.mk [2,66,86,122,420] (cQ.k1 R))] Tryz.func145 Tryz.call145 h
def jF (R:EP)(I:OA)(w:World):Prop:=
 tk w λE=>
 aA I λa2=>
 aA I λa3=>
 ∃a6,E.cell? (a2.add 5)=some (hY a6)/\
 ∃b5 W b3,E.cell? (a3.add 4)=some (hT b5 W b3)/\
 br (decide (a6<(W:Int)))
 (tk E λy=>
 aA I λb6=>
 aA I λa8=>
 ∃U O b4,y.cell? (b6.add 4)=some (hT U O b4)/\
 ∃g,y.cell? (a8.add 5)=some (hY g)/\
 0<=g/\g<(O:Int)/\
 aA U λa11=>
 ∃(V:Value),y.cell? (a11.add (Int.toNat g*4))=some V/\
 R (hQ V) y)
 (R (.returned .nilIface) E)
theorem jF.sound {R x0 w}(h:jF R x0 w):callE P jA #[kT x0] R w:=
 aG [(9,.dr (rpN [0,3,6,12,15,18,10,22,24,27])),(37,.dr (rpN [0,3,6,12,15,18,10,22,24,27,31,33]))] Tryz.func198 Tryz.call198 h
def jn (R:EP)(I:OA)(w:World):Prop:=
 tk w λE=>
 aA I λa2=>
 aA I λa3=>
 ∃a6,E.cell? (a2.add 5)=some (hY a6)/\
 ∃b5 W b3,E.cell? (a3.add 4)=some (hT b5 W b3)/\
 br (decide ((i64.wrap (a6+1))<(W:Int)))
 (tk E λy=>
 aA I λb6=>
 aA I λa8=>
 ∃U O b4,y.cell? (b6.add 4)=some (hT U O b4)/\
 ∃g,y.cell? (a8.add 5)=some (hY g)/\
 0<=(i64.wrap (g+1))/\(i64.wrap (g+1))<(O:Int)/\
 aA U λa11=>
 ∃(V:Value),y.cell? (a11.add (Int.toNat (i64.wrap (g+1))*4))=some V/\
 R (hQ V) y)
 (R (.returned .nilIface) E)
theorem jn.sound {R x0 w}(h:jn R x0 w):callE P gr #[kT x0] R w:=
 aG [(9,.dr (rpN [0,3,6,15,18,21,10,12,25,27,30])),(37,.dr (rpN [0,3,6,12,15,18,10,22,24,27,30,34,36]))] Tryz.func193 Tryz.call193 h
namespace am
def k5 (R:EP)(Xa:Nat->Nat->Int->Int->Int->Nat->Int->Int->WP)(O V:Nat)(U I W:Int)(E:Nat)(g y:Int)(w:World):Prop:=
 Xa O V U I W E (i64.wrap (g+1)) (i64.wrap (y+1)) w
def k9 (R:EP)(O:Nat->Nat->Int->Int->Int->WP)(U E:Nat)(V W:Int)(g I:Int)(w:World):Prop:=
 ∃y,w.cell? (hZ E 1)=some (hY y)/\
 br (decide ((i64.wrap (g - y)) >= 9))
 (False)
 (O U E V (i64.wrap ((i64.wrap ((i64.wrap (W*10))+(i64.wrap I))) - 48)) (i64.wrap (g+1)) w)
def k14 (R:EP)(U V:Nat)(y O:Nat)(w:World):Prop:=
 ∃g,w.cell? (hZ y 0)=some (kT g)/\
 aA g λI=>
 stV w ((I.add 4).add 0) (.func (.func eu) #[] #[kT (kE U),kT (kE O),kT (kE y),kT (kE V)]) λE=>
 R (hQ (hV true)) E
def k13 (R:EP)(W E:Nat)(a6:Int)(g:Nat)(w:World):Prop:=
 tk w λy=>
 ∃I,y.cell? (hZ g 0)=some (kT I)/\
 (callE P cr #[kT (kE E)] (λe O=> ∃V,e= hQ (hV V)/\
 SameC y O (hZ g 0) 1/\
 (box O #[kT I,hY a6,hV (!V)] iw λd0 b7=>
 box b7 #[kT none] bv λb5 b9=>
 SameC b7 b9 (hZ g 0) 1/\
 stV b9 (hZ b5 0) (kT (kE d0)) λc9=>
 k14 R W E g b5 c9)/\
 (box O #[kT none] bv λb6 b8=>
 SameC O b8 (hZ g 0) 1/\
 box b8 #[kT I,hY a6,hV (!V)] iw λc5 c8=>
 stV c8 (hZ b6 0) (kT (kE c5)) λc3=>
 k14 R W E g b6 c3)) y)/\
 (box y #[kT none] bv λa7 U=>
 SameC y U (hZ g 0) 1/\
 callE P cr #[kT (kE E)] (λe b3=> ∃b4,e= hQ (hV b4)/\
 SameC U b3 (hZ g 0) 1/\
 box b3 #[kT I,hY a6,hV (!b4)] iw λc4 c1=>
 stV c1 (hZ a7 0) (kT (kE c4)) λc2=>
 k14 R W E g a7 c2) U)
def k12 (R:EP)(O b4:Nat)(b3 a7 b5:Int)(g:Nat)(U:Bool)(w:World):Prop:=
 br U
 (False)
 (box w #[.int .i32 (IntKind.i32.wrap a7),hY b5,hV false,kT none,.nilFunc] f7 λa6 V=>
 stV V (hZ g 0) (kT (kE a6)) λy=>
 ∃I,y.cell? (hZ O 0)=some (kT I)/\
 ∃E,y.cell? (hZ g 0)=some (kT E)/\
 callE P bQ #[kT I,.iface az (kT E)] (λe W=>e= hQ (.tuple #[])/\
 k13 R O b4 b3 g W) y)
def k11 (R:EP)(E I:Nat)(U y V:Int)(g:Nat)(b7:Bool)(w:World):Prop:=
 br b7
 (∃a6,w.cell? (hZ g 0)=some (kT a6)/\
 ∃b3 O,(do eqGuard .eql az (.tmp 137) (.const (kT none)) (kT a6) (kT none);binOp .eql az (kT a6) (kT none)).run P w= .ok (hV b3) O/\
 br b3
 (∃b5,O.cell? (hZ E 0)=some (kT b5)/\
 callE P eE #[kT b5] (λe b8=> ∃W,e= hQ (kT W)/\
 ∃b4 a7,(do eqGuard .neq ar (.tmp 141) (.const (kT none)) (kT W) (kT none);binOp .neq ar (kT W) (kT none)).run P b8= .ok (hV b4) a7/\
 br b4
 (callE P cr #[kT (kE I)] (λe b9=> ∃b6,e= hQ (hV b6)/\
 k12 R E I U y V g (b6||(((y==46)||(y==41)) && (V !=1))) b9) a7)
 (k12 R E I U y V g false a7)) O)
 (k12 R E I U y V g false O))
 (k13 R E I U g w)
def k10 (R:EP)(W a7:Nat)(a6 I b3:Int)(y:Nat)(w:World):Prop:=
 ∃E,w.cell? (hZ y 0)=some (kT E)/\
 ∃O g,(do eqGuard .eql az (.tmp 126) (.const (kT none)) (kT E) (kT none);binOp .eql az (kT E) (kT none)).run P w= .ok (hV O) g/\
 br O
 (k11 R W a7 a6 I b3 y true g)
 (∃V,g.cell? (hZ y 0)=some (kT V)/\
 aA V λb4=>
 ∃U,g.cell? b4=some (.int .i32 U)/\
 k11 R W a7 a6 I b3 y (U !=(IntKind.i32.wrap I)) g)
def k8 (R:EP)(E b3:Nat)(a7 a6 b4:Int)(w:World):Prop:=
 box w #[kT none] az λy U=>
 ∃V,U.cell? (hZ E 0)=some (kT V)/\
 callE P gr #[kT V] (λe b5=> ∃(W:Value),e= hQ W/\
 ∃O I g,(Instr.typeAssert W bO az true).run P b5= .ok (.tuple #[kT O,hV I]) g/\
 br I
 (stV g (hZ y 0) (kT O) λb6=>
 k10 R E b3 a7 a6 b4 y b6)
 (k10 R E b3 a7 a6 b4 y g)) U
def k6 (R:EP)(b3 y:Nat)(b4 b5 a7:Int)(E:Nat)(b7:Int)(w:World):Prop:=
 callE P bl #[kT (kE E),hY 1,hY 1,hV true] (λe g=> ∃a6,e= hQ (hV a6)/\
 br (!a6)
 (∃O,g.cell? (hZ E 0)=some (hY O)/\
 ∃W,g.cell? (hZ E 1)=some (hY W)/\
 ∃I,g.cell? (hZ E 2)=some (hY I)/\
 ∃V,g.cell? (hZ E 3)=some (hX V)/\
 ∃U,g.cell? (hZ E 4)=some (.int .u8 U)/\
 stV g (hZ y 0) (hY O) λc2=>
 stV c2 (hZ y 1) (hY W) λb6=>
 stV b6 (hZ y 2) (hY I) λb9=>
 stV b9 (hZ y 3) (hX V) λb8=>
 stV b8 (hZ y 4) (.int .u8 U) λc1=>
 k8 R b3 y (i64.wrap (b4+b7)) b5 a7 c1)
 (k8 R b3 y b4 b5 a7 g)) w
def bl2 (R:EP)(Xa:Nat->Nat->Int->Int->Int->Nat->Int->Int->WP)(I U:Nat)(O E V:Int)(g:Nat)(y a6:Int)(w:World):Prop:=
 br (decide (a6<3))
 (callE P bl #[kT (kE g),hY 1,hY 1,hV false] (λe a7=> ∃W,e= hQ (hV W)/\
 br W
 (k5 R Xa I U O E V g y a6 a7)
 (k6 R I U O E V g y a7)) w)
 (k6 R I U O E V g y w)
def l2 (R:EP)(O V:Nat)(U I W:Int)(E:Nat)(g y:Int)(w:World):Prop:=
 ∀X:Nat->Nat->Int->Int->Int->Nat->Int->Int->WP,(∀O V U I W E g y w,bl2 R X O V U I W E g y w->X O V U I W E g y w)->X O V U I W E g y w
def k3 (R:EP)(b9 g:Nat)(c1 c2 b8:Int)(w:World):Prop:=
 callE P bl #[kT (kE g),hY 1,hY 1,hV true] (λe y=> ∃V,e= hQ (hV V)/\
 br (!V)
 (False)
 (∃W,y.cell? (hZ g 0)=some (hY W)/\
 ∃U,y.cell? (hZ g 1)=some (hY U)/\
 ∃a6,y.cell? (hZ g 2)=some (hY a6)/\
 ∃I,y.cell? (hZ g 3)=some (hX I)/\
 ∃O,y.cell? (hZ g 4)=some (.int .u8 O)/\
 box y #[hY 0,hY 0,hY 0,hX (hP #[]),.int .u8 0] aW λE b7=>
 stV b7 (hZ E 0) (hY W) λb6=>
 stV b6 (hZ E 1) (hY U) λb4=>
 stV b4 (hZ E 2) (hY a6) λa7=>
 stV a7 (hZ E 3) (hX I) λb5=>
 stV b5 (hZ E 4) (.int .u8 O) λb3=>
 l2 R b9 g (i64.wrap (c1+1)) c2 b8 E 0 0 b3)) w
def k7 (R:EP)(a7:Nat->Nat->Int->Int->Int->WP)(O y:Nat)(U V:Int)(E g:Int)(a6:Bool)(w:World):Prop:=
 br a6
 (∃I,w.cell? (hZ y 1)=some (hY I)/\
 stV w (hZ y 1) (hY (i64.wrap (E+1))) λW=>
 k3 R O y (i64.wrap (U+(i64.wrap ((i64.wrap (E+1)) - I)))) g V W)
 (br ((decide (g<48))||(decide (57<g)))
 (False)
 (k9 R a7 O y U V E g w))
def bl3 (R:EP)(O:Nat->Nat->Int->Int->Int->WP)(U E:Nat)(V W g:Int)(w:World):Prop:=
 ∃I,w.cell? (hZ E 3)=some (hX I)/\
 br (decide (g >= (I.size:Int)))
 (False)
 (∃y,w.cell? (hZ E 3)=some (hX y)/\
 0<=g/\g<(y.size:Int)/\
 k7 R O U E V W g (bt y g) (((bt y g)==46)||((bt y g)==41)) w)
def l3 (R:EP)(y I:Nat)(E O g:Int)(w:World):Prop:=
 ∀X:Nat->Nat->Int->Int->Int->WP,(∀y I E O g w,bl3 R X y I E O g w->X y I E O g w)->X y I E O g w
def k4 (R:EP)(I y:Nat)(O U:Int)(E:Bool)(w:World):Prop:=
 br E
 (∃g,w.cell? (hZ y 1)=some (hY g)/\
 l3 R I y O U g w)
 (R (hQ (hV false)) w)
def k2 (R:EP)(y g:Nat)(E U:Int)(I O:Int)(V:Bool)(w:World):Prop:=
 br V
 (callE P fI #[kT (kE g),.int .u8 U] (λe W=> ∃a6,e= hQ (hV a6)/\
 k3 R y g (i64.wrap (E+1)) U I W) w)
 (br (O==48)
 (k4 R y g E I true w)
 (br (O==49)
 (k4 R y g E I true w)
 (br (O==50)
 (k4 R y g E I true w)
 (br (O==51)
 (k4 R y g E I true w)
 (br (O==52)
 (k4 R y g E I true w)
 (br (O==53)
 (k4 R y g E I true w)
 (br (O==54)
 (k4 R y g E I true w)
 (br (O==55)
 (k4 R y g E I true w)
 (br (O==56)
 (k4 R y g E I true w)
 (k4 R y g E I (O==57) w))))))))))
def k1 (R:EP)(I y:Nat)(O:Int)(w:World):Prop:=
 callE P iP #[kT (kE y)] (λe E=> ∃g,e= hQ (.int .u8 g)/\
 br (g==45)
 (k2 R I y O g 0 g true E)
 (br (g==42)
 (k2 R I y O g 0 g true E)
 (k2 R I y O g 0 g (g==43) E))) w
def bl1 (R:EP)(V:Nat->Nat->Int->Int->WP)(y g:Nat)(E U:Int)(w:World):Prop:=
 br (decide (U<3))
 (callE P bl #[kT (kE g),hY 1,hY 1,hV false] (λe I=> ∃O,e= hQ (hV O)/\
 br (!O)
 (k1 R y g E I)
 (V y g (i64.wrap (E+1)) (i64.wrap (U+1)) I)) w)
 (k1 R y g E w)
def l1 (R:EP)(g E:Nat)(y I:Int)(w:World):Prop:=
 ∀X:Nat->Nat->Int->Int->WP,(∀g E y I w,bl1 R X g E y I w->X g E y I w)->X g E y I w
end am
def am (R:EP)(b6 b7:OA)(w:World):Prop:=
 box w #[kT b6] ah λb1 g=>
 aA b7 λa3=>
 ∃V,g.cell? (a3.add 0)=some (hY V)/\
 ∃I,g.cell? (a3.add 1)=some (hY I)/\
 ∃E,g.cell? (a3.add 2)=some (hY E)/\
 ∃U,g.cell? (a3.add 3)=some (hX U)/\
 ∃O,g.cell? (a3.add 4)=some (.int .u8 O)/\
 box g #[hY 0,hY 0,hY 0,hX (hP #[]),.int .u8 0] aW λy b4=>
 stV b4 (hZ y 0) (hY V) λb5=>
 stV b5 (hZ y 1) (hY I) λa7=>
 stV a7 (hZ y 2) (hY E) λb3=>
 stV b3 (hZ y 3) (hX U) λW=>
 stV W (hZ y 4) (.int .u8 O) λa6=>
 am.l1 R b1 y 0 0 a6
theorem am.sound {R x0 x1 w}(h:am R x0 x1 w):callE P bN #[kT x0,kT x1] R w:=
 aG [(173,.lp [46,106,127,147] (am.bl1 R) λy=> []),(61,.mk [46,106,127] (am.k1 R)),(6909,.mk [46,106,127,168,187,628,640] (am.k2 R)),(31485,.mk [46,106,127,187,800] (am.k4 R)),(178941,.lp [46,106,127,187,207] (am.bl3 R) λg=> [(40,.no),(108,.mk [46,106,127,187,207,228,1380] (am.k7 R g)),(348,.no),(124,.mk [46,106,127,187,207,228] (am.k9 R g)),(700,.no)]),(1021,.mk [46,106,127,168,187] (am.k3 R)),(5629,.no),(90109,.lp [46,106,127,168,187,246,267,287] (am.bl2 R) λXa=> [(3,.mk [46,106,127,168,187,246,267,287] (am.k5 R Xa))]),(32765,.mk [46,106,127,168,187,246,267] (am.k6 R)),(65533,.mk [46,106,127,168,187] (am.k8 R)),(262141,.mk [46,106,127,168,187,306] (am.k10 R)),(917501,.mk [46,106,127,168,187,306,2720] (am.k11 R)),(6684669,.mk [46,106,127,168,187,306,3160] (am.k12 R)),(10878973,.no),(524285,.mk [46,106,127,306] (am.k13 R)),(786429,.dr (.pure 1 (.load 0 (.two 2 (.pure 3 (.pure 4 (.two 5 (.one 6 (.one 7 .done)) 6 (.one 5 (.one 7 .done))))) 6 (.one 2 (.pure 3 (.pure 4 (.one 5 (.one 7 .done))))))))),(1048573,.mk [46,106,306,366] (am.k14 R))] Tryz.func199 Tryz.call199 h
def tf (R:EP)(f0:OA)(c8 d0 d2:Int)(c9:BA)(d1:Int)(w:World):Prop:=
 box w #[hY c8,hY d0,hY d2,hX c9,.int .u8 d1] aW λb1 e9=>
 box e9 #[hY 0,hY 0,hY 0,hX (hP #[]),.int .u8 0] aW λg O=>
 ∃c4,O.cell? (hZ b1 0)=some (hY c4)/\
 ∃c3,O.cell? (hZ b1 1)=some (hY c3)/\
 ∃c2,O.cell? (hZ b1 2)=some (hY c2)/\
 ∃c5,O.cell? (hZ b1 3)=some (hX c5)/\
 ∃c1,O.cell? (hZ b1 4)=some (.int .u8 c1)/\
 box O #[hY 0,hY 0,hY 0,hX (hP #[]),.int .u8 0] aW λI e3=>
 stV e3 (hZ I 0) (hY c4) λe6=>
 stV e6 (hZ I 1) (hY c3) λe7=>
 stV e7 (hZ I 2) (hY c2) λd3=>
 stV d3 (hZ I 3) (hX c5) λe4=>
 stV e4 (hZ I 4) (.int .u8 c1) λe5=>
 callE P gh #[kT f0,kT (kE I)] (λe y=> ∃b5,e= hQ (hV b5)/\
 br b5
 (False)
 (∃W,y.cell? (hZ b1 0)=some (hY W)/\
 ∃b8,y.cell? (hZ b1 1)=some (hY b8)/\
 ∃b7,y.cell? (hZ b1 2)=some (hY b7)/\
 ∃b9,y.cell? (hZ b1 3)=some (hX b9)/\
 ∃b6,y.cell? (hZ b1 4)=some (.int .u8 b6)/\
 stV y (hZ g 0) (hY W) λe2=>
 stV e2 (hZ g 1) (hY b8) λe8=>
 stV e8 (hZ g 2) (hY b7) λe0=>
 stV e0 (hZ g 3) (hX b9) λe1=>
 stV e1 (hZ g 4) (.int .u8 b6) λE=>
 ∃U,E.cell? (hZ g 0)=some (hY U)/\
 ∃a6,E.cell? (hZ g 1)=some (hY a6)/\
 ∃a7,E.cell? (hZ g 2)=some (hY a7)/\
 ∃b4,E.cell? (hZ g 3)=some (hX b4)/\
 ∃V,E.cell? (hZ g 4)=some (.int .u8 V)/\
 R (hQ (.tuple #[.agg #[hY U,hY a6,hY a7,hX b4,.int .u8 V],hV false])) E)) e5
theorem tf.sound {R x0 x1_0 x1_1 x1_2 x1_3 x1_4 w}(h:tf R x0 x1_0 x1_1 x1_2 x1_3 x1_4 w):callE P lZ #[kT x0,.agg #[hY x1_0,hY x1_1,hY x1_2,hX x1_3,.int .u8 x1_4]] R w:=
 aG [(43,.no)] Tryz.func146 Tryz.call146 h
def jD (R:EP)(V:OA)(w:World):Prop:=
 tk w λg=>
 aA V λa2=>
 aA V λa3=>
 ∃O U b3,g.cell? (a2.add 4)=some (hT O U b3)/\
 ∃b4 y a7,g.cell? (a3.add 4)=some (hT b4 y a7)/\
 0<=(i64.wrap ((y:Int) - 1))/\(i64.wrap ((y:Int) - 1))<(U:Int)/\
 aA O λb5=>
 ∃(W:Value),g.cell? (b5.add (Int.toNat (i64.wrap ((y:Int) - 1))*4))=some W/\
 ∃E I,(∀w,(Instr.typeAssert W bO ar true).run P w= .ok (.tuple #[kT E,hV I]) w)/\
 br I
 (R (hQ (kT E)) g)
 (R (hQ (kT none)) g)
theorem jD.sound {R x0 w}(h:jD R x0 w):callE P eE #[kT x0] R w:=
 aG [(9,.dr (rpN [0,3,6,12,15,18,10,22,24,27,30,33,37,39,42,45,48,51,54]))] Tryz.func149 Tryz.call149 h
def gk (R:EP)(c2 b9:OA)(w:World):Prop:=
 aA b9 λa1=>
 ∃V,w.cell? (a1.add 0)=some (hY V)/\
 ∃E,w.cell? (a1.add 1)=some (hY E)/\
 ∃U,w.cell? (a1.add 2)=some (hY U)/\
 ∃O,w.cell? (a1.add 3)=some (hX O)/\
 ∃I,w.cell? (a1.add 4)=some (.int .u8 I)/\
 box w #[hY 0,hY 0,hY 0,hX (hP #[]),.int .u8 0] aW λg b8=>
 stV b8 (hZ g 0) (hY V) λc1=>
 stV c1 (hZ g 1) (hY E) λb5=>
 stV b5 (hZ g 2) (hY U) λb6=>
 stV b6 (hZ g 3) (hX O) λb3=>
 stV b3 (hZ g 4) (.int .u8 I) λb4=>
 callE P bl #[kT (kE g),hY 0,hY 3,hV false] (λe a7=> ∃a6,e= hQ (hV a6)/\
 callE P iP #[kT (kE g)] (λe W=> ∃y,e= hQ (.int .u8 y)/\
 br (y !=60)
 (R (hQ (hV false)) W)
 (False)) a7) b4
theorem gk.sound {R x0 x1 w}(h:gk R x0 x1 w):callE P gh #[kT x0,kT x1] R w:=
 aG [(237,.no),(2685,.no),(3709,.no),(509,.no)] Tryz.func200 Tryz.call200 h
namespace ct
def k1 (R:EP)(c2 b9:OA)(y:Nat)(c1:Int)(w:World):Prop:=
 callE P bl #[kT (kE y),hY 1,hY 1,hV true] (λe I=> ∃a7,e= hQ (hV a7)/\
 br (!a7)
 (R (hQ (hV false)) I)
 (aA b9 λb4=>
 stV I (b4.add 0) (hY c1) λg=>
 ∃W,g.cell? (hZ y 0)=some (hY W)/\
 ∃V,g.cell? (hZ y 1)=some (hY V)/\
 ∃a6,g.cell? (hZ y 2)=some (hY a6)/\
 ∃O,g.cell? (hZ y 3)=some (hX O)/\
 ∃U,g.cell? (hZ y 4)=some (.int .u8 U)/\
 aA c2 λE=>
 stV g (E.add 0) (hY W) λb8=>
 stV b8 (E.add 1) (hY V) λb7=>
 stV b7 (E.add 2) (hY a6) λb5=>
 stV b5 (E.add 3) (hX O) λb3=>
 stV b3 (E.add 4) (.int .u8 U) λb6=>
 R (hQ (hV true)) b6)) w
def bl1 (R:EP)(Xa:OA->OA->Nat->Int->WP)(E I:OA)(y:Nat)(g:Int)(w:World):Prop:=
 br (decide (g<6))
 (callE P fI #[kT (kE y),.int .u8 35] (λe U=> ∃O,e= hQ (hV O)/\
 br O
 (Xa E I y (i64.wrap (g+1)) U)
 (k1 R E I y g U)) w)
 (k1 R E I y g w)
def l1 (R:EP)(E g:OA)(I:Nat)(y:Int)(w:World):Prop:=
 ∀X:OA->OA->Nat->Int->WP,(∀E g I y w,bl1 R X E g I y w->X E g I y w)->X E g I y w
end ct
def ct (R:EP)(V c1:OA)(w:World):Prop:=
 aA V λa1=>
 ∃a6,w.cell? (a1.add 0)=some (hY a6)/\
 ∃I,w.cell? (a1.add 1)=some (hY I)/\
 ∃W,w.cell? (a1.add 2)=some (hY W)/\
 ∃U,w.cell? (a1.add 3)=some (hX U)/\
 ∃O,w.cell? (a1.add 4)=some (.int .u8 O)/\
 box w #[hY 0,hY 0,hY 0,hX (hP #[]),.int .u8 0] aW λg b9=>
 stV b9 (hZ g 0) (hY a6) λc2=>
 stV c2 (hZ g 1) (hY I) λb6=>
 stV b6 (hZ g 2) (hY W) λb8=>
 stV b8 (hZ g 3) (hX U) λb4=>
 stV b4 (hZ g 4) (.int .u8 O) λb5=>
 callE P bl #[kT (kE g),hY 0,hY 3,hV false] (λe b3=> ∃a7,e= hQ (hV a7)/\
 callE P fI #[kT (kE g),.int .u8 35] (λe y=> ∃E,e= hQ (hV E)/\
 br (!E)
 (R (hQ (hV false)) y)
 (ct.l1 R V c1 g 1 y)) b3) b5
theorem ct.sound {R x0 x1 w}(h:ct R x0 x1 w):callE P jk #[kT x0,kT x1] R w:=
 aG [(159,.lp [2,22,106,127] (ct.bl1 R) λXa=> []),(127,.mk [2,22,106,127] (ct.k1 R))] Tryz.func185 Tryz.call185 h
namespace cI
def k2 (R:EP)(U:OA)(g c9:Nat)(e6 e4:BA)(w:World):Prop:=
 tk w λO=>
 aA U λb3=>
 aA U λb4=>
 ∃a6,O.cell? (b3.add 3)=some (hY a6)/\
 ∃b9,O.cell? (b4.add 3)=some (hY b9)/\
 box O #[hY 0,hY 0] aF λE V=>
 SameC O V (b4.add 3) 1/\
 SameC O V (b3.add 3) 1/\
 stV V (hZ E 0) (hY a6) λd1=>
 stV d1 (hZ E 1) (hY b9) λd2=>
 tk d2 λy=>
 ∃b5,y.cell? (hZ E 0)=some (hY b5)/\
 ∃c3,y.cell? (hZ E 1)=some (hY c3)/\
 ∃c8,y.cell? (hZ c9 0)=some (hY c8)/\
 ∃b6,y.cell? (hZ E 0)=some (hY b6)/\
 ∃c1,y.cell? (hZ E 1)=some (hY c1)/\
 callE P fk #[kT U,.agg #[hY b6,hY c1],hX e6] (λe W=> ∃c5,e= hQ (kT c5)/\
 SameC y W (hZ c9 0) 1/\
 SameC y W (hZ E 0) 2/\
 box W #[hY b5,hY c3,hY c8,kT c5,hX e4] qn λe0 d0=>
 callE P dO #[kT U,.iface gv (kT (kE e0))] (λe e1=>e= hQ (.tuple #[])/\
 stV e1 (hZ g 0) (hY 0) λe5=>
 stV e5 (hZ g 1) (hY 0) λe2=>
 stV e2 (hZ g 2) (hY 0) λd3=>
 stV d3 (hZ g 3) (hX (hP #[])) λe3=>
 stV e3 (hZ g 4) (.int .u8 0) λI=>
 ∃c4,I.cell? (hZ g 0)=some (hY c4)/\
 ∃b8,I.cell? (hZ g 1)=some (hY b8)/\
 ∃b7,I.cell? (hZ g 2)=some (hY b7)/\
 ∃a7,I.cell? (hZ g 3)=some (hX a7)/\
 ∃c2,I.cell? (hZ g 4)=some (.int .u8 c2)/\
 R (hQ (.tuple #[.agg #[hY c4,hY b8,hY b7,hX a7,.int .u8 c2],hV true])) I) d0) y
def k1 (R:EP)(E:OA)(V W:Nat)(U:BA)(w:World):Prop:=
 aA E λO=>
 ∃g,w.cell? O=some (kT g)/\
 aA g λI=>
 ∃y,w.cell? I=some (hV y)/\
 br y
 (False)
 (k2 R E V W U (hP #[]) w)
end cI
def cI (R:EP)(g3:OA)(d3 e1 e3:Int)(e0:BA)(e2:Int)(w:World):Prop:=
 box w #[hY d3,hY e1,hY e3,hX e0,.int .u8 e2] aW λb1 g2=>
 box g2 #[hY 0,hY 0,hY 0,hX (hP #[]),.int .u8 0] aW λg O=>
 ∃d1,O.cell? (hZ b1 0)=some (hY d1)/\
 ∃d0,O.cell? (hZ b1 1)=some (hY d0)/\
 ∃c9,O.cell? (hZ b1 2)=some (hY c9)/\
 ∃d2,O.cell? (hZ b1 3)=some (hX d2)/\
 ∃c8,O.cell? (hZ b1 4)=some (.int .u8 c8)/\
 box O #[hY 0,hY 0,hY 0,hX (hP #[]),.int .u8 0] aW λE f1=>
 stV f1 (hZ E 0) (hY d1) λf6=>
 stV f6 (hZ E 1) (hY d0) λg1=>
 stV g1 (hZ E 2) (hY c9) λe4=>
 stV e4 (hZ E 3) (hX d2) λf4=>
 stV f4 (hZ E 4) (.int .u8 c8) λf5=>
 box f5 #[hY 0] ba λc3 e7=>
 callE P jk #[kT (kE E),kT (kE c3)] (λe y=> ∃b7,e= hQ (hV b7)/\
 br b7
 (callE P gV #[kT (kE E)] (λe g0=> ∃b4,e= hQ (hX b4)/\
 callE P fD #[hX b4] (λe f0=> ∃V,e= hQ (hX V)/\
 callE P mq #[hX V,hX (hP #[35])] (λe e5=> ∃U,e= hQ (hX U)/\
 callE P fD #[hX U] (λe e9=> ∃c5,e= hQ (hX c5)/\
 br ((!(U.toList==c5.toList))||(U.toList==(hP #[]).toList))
 (False)
 (cI.k1 R g3 g c3 V e9)) e5) f0) g0) y)
 (∃W,y.cell? (hZ b1 0)=some (hY W)/\
 ∃b5,y.cell? (hZ b1 1)=some (hY b5)/\
 ∃b6,y.cell? (hZ b1 2)=some (hY b6)/\
 ∃c1,y.cell? (hZ b1 3)=some (hX c1)/\
 ∃a7,y.cell? (hZ b1 4)=some (.int .u8 a7)/\
 stV y (hZ g 0) (hY W) λe8=>
 stV e8 (hZ g 1) (hY b5) λe6=>
 stV e6 (hZ g 2) (hY b6) λf3=>
 stV f3 (hZ g 3) (hX c1) λf2=>
 stV f2 (hZ g 4) (.int .u8 a7) λI=>
 ∃c2,I.cell? (hZ g 0)=some (hY c2)/\
 ∃c4,I.cell? (hZ g 1)=some (hY c4)/\
 ∃b9,I.cell? (hZ g 2)=some (hY b9)/\
 ∃b8,I.cell? (hZ g 3)=some (hX b8)/\
 ∃a6,I.cell? (hZ g 4)=some (.int .u8 a6)/\
 R (hQ (.tuple #[.agg #[hY c2,hY c4,hY b9,hX b8,.int .u8 a6],hV false])) I)) e7
theorem cI.sound {R x0 x1_0 x1_1 x1_2 x1_3 x1_4 w}(h:cI R x0 x1_0 x1_1 x1_2 x1_3 x1_4 w):callE P fx #[kT x0,.agg #[hY x1_0,hY x1_1,hY x1_2,hX x1_3,.int .u8 x1_4]] R w:=
 aG [(5847,.no),(983,.mk [2,86,146,161] (cI.k1 R)),(11223,.no),(4055,.mk [2,86,146,161,201] (cI.k2 R)),(6103,.dr (rpN [0,3,6,12,15,18,10,22,24,29,32])),(12247,.dr (rpN [0,9,15,21,4,7,13,20,24,29,30,35]))] Tryz.func142 Tryz.call142 h
def vF (R:EP)(W:OA)(e5 e7 e9:Int)(e6:BA)(e8:Int)(w:World):Prop:=
 box w #[hY e5,hY e7,hY e9,hX e6,.int .u8 e8] aW λb1 g4=>
 box g4 #[hY 0,hY 0,hY 0,hX (hP #[]),.int .u8 0] aW λg O=>
 ∃e3,O.cell? (hZ b1 0)=some (hY e3)/\
 ∃e2,O.cell? (hZ b1 1)=some (hY e2)/\
 ∃e1,O.cell? (hZ b1 2)=some (hY e1)/\
 ∃e4,O.cell? (hZ b1 3)=some (hX e4)/\
 ∃e0,O.cell? (hZ b1 4)=some (.int .u8 e0)/\
 callE P CN #[.agg #[hY e3,hY e2,hY e1,hX e4,.int .u8 e0]] (λe y=> ∃d2,e= hQ (hV d2)/\
 br d2
 (tk y λU=>
 aA W λa13=>
 aA W λa14=>
 ∃d3,U.cell? (a13.add 3)=some (hY d3)/\
 ∃c1,U.cell? (a14.add 3)=some (hY c1)/\
 callE P gV #[kT (kE b1)] (λe V=> ∃d1,e= hQ (hX d1)/\
 SameC U V (a14.add 3) 1/\
 SameC U V (a13.add 3) 1/\
 box V #[hY d3,hY c1,hX d1] jY λf5 f6=>
 callE P dO #[kT W,.iface cW (kT (kE f5))] (λe g1=>e= hQ (.tuple #[])/\
 stV g1 (hZ g 0) (hY 0) λf2=>
 stV f2 (hZ g 1) (hY 0) λf3=>
 stV f3 (hZ g 2) (hY 0) λg2=>
 stV g2 (hZ g 3) (hX (hP #[])) λf1=>
 stV f1 (hZ g 4) (.int .u8 0) λI=>
 ∃c4,I.cell? (hZ g 0)=some (hY c4)/\
 ∃a6,I.cell? (hZ g 1)=some (hY a6)/\
 ∃c2,I.cell? (hZ g 2)=some (hY c2)/\
 ∃c3,I.cell? (hZ g 3)=some (hX c3)/\
 ∃c8,I.cell? (hZ g 4)=some (.int .u8 c8)/\
 R (hQ (.tuple #[.agg #[hY c4,hY a6,hY c2,hX c3,.int .u8 c8],hV true])) I) f6) U)
 (∃b9,y.cell? (hZ b1 0)=some (hY b9)/\
 ∃b6,y.cell? (hZ b1 1)=some (hY b6)/\
 ∃b8,y.cell? (hZ b1 2)=some (hY b8)/\
 ∃d0,y.cell? (hZ b1 3)=some (hX d0)/\
 ∃c5,y.cell? (hZ b1 4)=some (.int .u8 c5)/\
 stV y (hZ g 0) (hY b9) λg0=>
 stV g0 (hZ g 1) (hY b6) λf4=>
 stV f4 (hZ g 2) (hY b8) λf0=>
 stV f0 (hZ g 3) (hX d0) λg3=>
 stV g3 (hZ g 4) (.int .u8 c5) λE=>
 ∃b4,E.cell? (hZ g 0)=some (hY b4)/\
 ∃c9,E.cell? (hZ g 1)=some (hY c9)/\
 ∃a7,E.cell? (hZ g 2)=some (hY a7)/\
 ∃b7,E.cell? (hZ g 3)=some (hX b7)/\
 ∃b5,E.cell? (hZ g 4)=some (.int .u8 b5)/\
 R (hQ (.tuple #[.agg #[hY b4,hY c9,hY a7,hX b7,.int .u8 b5],hV false])) E)) O
theorem vF.sound {R x0 x1_0 x1_1 x1_2 x1_3 x1_4 w}(h:vF R x0 x1_0 x1_1 x1_2 x1_3 x1_4 w):callE P qD #[kT x0,.agg #[hY x1_0,hY x1_1,hY x1_2,hX x1_3,.int .u8 x1_4]] R w:=
 aG [(37,.dr (rpN [0,3,6,9,15,18,21,13,25,27,32,33,38,39,44]))] Tryz.func144 Tryz.call144 h
def ol (R:EP)(h9:OA)(f1 f3 f5:Int)(f2:BA)(f4:Int)(w:World):Prop:=
 box w #[hY f1,hY f3,hY f5,hX f2,.int .u8 f4] aW λb1 h8=>
 box h8 #[hY 0,hY 0,hY 0,hX (hP #[]),.int .u8 0] aW λg V=>
 ∃e9,V.cell? (hZ b1 0)=some (hY e9)/\
 ∃e8,V.cell? (hZ b1 1)=some (hY e8)/\
 ∃e7,V.cell? (hZ b1 2)=some (hY e7)/\
 ∃f0,V.cell? (hZ b1 3)=some (hX f0)/\
 ∃e6,V.cell? (hZ b1 4)=some (.int .u8 e6)/\
 callE P mr #[.agg #[hY e9,hY e8,hY e7,hX f0,.int .u8 e6]] (λe g6=> ∃a7 a6,∃W b4,∃b5 b6,e= hQ (.tuple #[.agg #[hY a7,hY a6,hY W,hX b4,.int .u8 b5],hV b6])/\
 box g6 #[hY 0,hY 0,hY 0,hX (hP #[]),.int .u8 0] aW λy h7=>
 stV h7 (hZ y 0) (hY a7) λg0=>
 stV g0 (hZ y 1) (hY a6) λh4=>
 stV h4 (hZ y 2) (hY W) λh5=>
 stV h5 (hZ y 3) (hX b4) λf6=>
 stV f6 (hZ y 4) (.int .u8 b5) λE=>
 br b6
 (box E #[] mX λg7 h1=>
 callE P bQ #[kT h9,.iface gP (kT (kE g7))] (λe U=>e= hQ (.tuple #[])/\
 ∃d2,U.cell? (hZ y 0)=some (hY d2)/\
 ∃e0,U.cell? (hZ y 1)=some (hY e0)/\
 ∃c8,U.cell? (hZ y 2)=some (hY c8)/\
 ∃e2,U.cell? (hZ y 3)=some (hX e2)/\
 ∃c2,U.cell? (hZ y 4)=some (.int .u8 c2)/\
 stV U (hZ g 0) (hY d2) λg2=>
 stV g2 (hZ g 1) (hY e0) λg4=>
 stV g4 (hZ g 2) (hY c8) λh6=>
 stV h6 (hZ g 3) (hX e2) λg3=>
 stV g3 (hZ g 4) (.int .u8 c2) λO=>
 ∃c1,O.cell? (hZ g 0)=some (hY c1)/\
 ∃b8,O.cell? (hZ g 1)=some (hY b8)/\
 ∃b9,O.cell? (hZ g 2)=some (hY b9)/\
 ∃d1,O.cell? (hZ g 3)=some (hX d1)/\
 ∃c9,O.cell? (hZ g 4)=some (.int .u8 c9)/\
 R (hQ (.tuple #[.agg #[hY c1,hY b8,hY b9,hX d1,.int .u8 c9],hV true])) O) h1)
 (∃d3,E.cell? (hZ b1 0)=some (hY d3)/\
 ∃e1,E.cell? (hZ b1 1)=some (hY e1)/\
 ∃e3,E.cell? (hZ b1 2)=some (hY e3)/\
 ∃d0,E.cell? (hZ b1 3)=some (hX d0)/\
 ∃c5,E.cell? (hZ b1 4)=some (.int .u8 c5)/\
 stV E (hZ g 0) (hY d3) λh3=>
 stV h3 (hZ g 1) (hY e1) λg5=>
 stV g5 (hZ g 2) (hY e3) λg1=>
 stV g1 (hZ g 3) (hX d0) λh2=>
 stV h2 (hZ g 4) (.int .u8 c5) λI=>
 ∃c3,I.cell? (hZ g 0)=some (hY c3)/\
 ∃e4,I.cell? (hZ g 1)=some (hY e4)/\
 ∃e5,I.cell? (hZ g 2)=some (hY e5)/\
 ∃b7,I.cell? (hZ g 3)=some (hX b7)/\
 ∃c4,I.cell? (hZ g 4)=some (.int .u8 c4)/\
 R (hQ (.tuple #[.agg #[hY c3,hY e4,hY e5,hX b7,.int .u8 c4],hV false])) I)) V
theorem ol.sound {R x0 x1_0 x1_1 x1_2 x1_3 x1_4 w}(h:ol R x0 x1_0 x1_1 x1_2 x1_3 x1_4 w):callE P km #[kT x0,.agg #[hY x1_0,hY x1_1,hY x1_2,hX x1_3,.int .u8 x1_4]] R w:=
 cE Tryz.func141 Tryz.call141 h
namespace mL
def bl1 (R:EP)(Xa:Nat->Int->Int->WP)(g:Nat)(O U:Int)(w:World):Prop:=
 callE P fI #[kT (kE g),.int .u8 O] (λe y=> ∃I,e= hQ (hV I)/\
 br (!I)
 (br (decide (U >= 3))
 (callE P og #[kT (kE g)] (λe V=> ∃E,e= hQ (hV E)/\
 R (hQ (hV E)) V) y)
 (R (hQ (hV false)) y))
 (callE P iD #[kT (kE g)] (λe W=>e= hQ (.tuple #[])/\
 Xa g O (i64.wrap (U+1)) W) y)) w
def l1 (R:EP)(g:Nat)(y E:Int)(w:World):Prop:=
 ∀X:Nat->Int->Int->WP,(∀g y E w,bl1 R X g y E w->X g y E w)->X g y E w
def k1 (R:EP)(y:Nat)(E:Int)(g:Bool)(w:World):Prop:=
 br g
 (l1 R y E 0 w)
 (R (hQ (hV false)) w)
end mL
def mL (R:EP)(b6 b4 b3:Int)(b5:BA)(a7:Int)(w:World):Prop:=
 box w #[hY b6,hY b4,hY b3,hX b5,.int .u8 a7] aW λb1 E=>
 ∃O,E.cell? (hZ b1 0)=some (hY O)/\
 ∃V,E.cell? (hZ b1 1)=some (hY V)/\
 ∃a6,E.cell? (hZ b1 2)=some (hY a6)/\
 ∃W,E.cell? (hZ b1 3)=some (hX W)/\
 ∃U,E.cell? (hZ b1 4)=some (.int .u8 U)/\
 box E #[hY 0,hY 0,hY 0,hX (hP #[]),.int .u8 0] aW λg c8=>
 stV c8 (hZ g 0) (hY O) λc1=>
 stV c1 (hZ g 1) (hY V) λc2=>
 stV c2 (hZ g 2) (hY a6) λc4=>
 stV c4 (hZ g 3) (hX W) λc5=>
 stV c5 (hZ g 4) (.int .u8 U) λb7=>
 callE P bl #[kT (kE g),hY 0,hY 3,hV false] (λe c3=> ∃b9,e= hQ (hV b9)/\
 callE P iP #[kT (kE g)] (λe I=> ∃y,e= hQ (.int .u8 y)/\
 br (y==45)
 (mL.k1 R g y true I)
 (br (y==95)
 (mL.k1 R g y true I)
 (mL.k1 R g y (y==42) I))) c3) b7
theorem mL.sound {R x0_0 x0_1 x0_2 x0_3 x0_4 w}(h:mL R x0_0 x0_1 x0_2 x0_3 x0_4 w):callE P CN #[.agg #[hY x0_0,hY x0_1,hY x0_2,hX x0_3,.int .u8 x0_4]] R w:=
 aG [(439,.mk [66,88,200] (mL.k1 R)),(5303,.lp [66,88,107] (mL.bl1 R) λXa=> [])] Tryz.func197 Tryz.call197 h
def pa (R:EP)(e9 e8 e7:Int)(f0:BA)(e6:Int)(w:World):Prop:=
 box w #[hY e9,hY e8,hY e7,hX f0,.int .u8 e6] aW λb1 h4=>
 box h4 #[hY 0,hY 0,hY 0,hX (hP #[]),.int .u8 0] aW λg V=>
 ∃e4,V.cell? (hZ b1 0)=some (hY e4)/\
 ∃e3,V.cell? (hZ b1 1)=some (hY e3)/\
 ∃e2,V.cell? (hZ b1 2)=some (hY e2)/\
 ∃e5,V.cell? (hZ b1 3)=some (hX e5)/\
 ∃e1,V.cell? (hZ b1 4)=some (.int .u8 e1)/\
 box V #[hY 0,hY 0,hY 0,hX (hP #[]),.int .u8 0] aW λy g2=>
 stV g2 (hZ y 0) (hY e4) λh2=>
 stV h2 (hZ y 1) (hY e3) λh3=>
 stV h3 (hZ y 2) (hY e2) λf1=>
 stV f1 (hZ y 3) (hX e5) λg7=>
 stV g7 (hZ y 4) (.int .u8 e1) λh1=>
 callE P bl #[kT (kE y),hY 0,hY 3,hV false] (λe f3=> ∃g4,e= hQ (hV g4)/\
 callE P fI #[kT (kE y),.int .u8 62] (λe E=> ∃b7,e= hQ (hV b7)/\
 br (!b7)
 (∃c8,E.cell? (hZ b1 0)=some (hY c8)/\
 ∃d1,E.cell? (hZ b1 1)=some (hY d1)/\
 ∃c4,E.cell? (hZ b1 2)=some (hY c4)/\
 ∃c9,E.cell? (hZ b1 3)=some (hX c9)/\
 ∃c1,E.cell? (hZ b1 4)=some (.int .u8 c1)/\
 stV E (hZ g 0) (hY c8) λf2=>
 stV f2 (hZ g 1) (hY d1) λg1=>
 stV g1 (hZ g 2) (hY c4) λf5=>
 stV f5 (hZ g 3) (hX c9) λf6=>
 stV f6 (hZ g 4) (.int .u8 c1) λU=>
 ∃b8,U.cell? (hZ g 0)=some (hY b8)/\
 ∃c3,U.cell? (hZ g 1)=some (hY c3)/\
 ∃b4,U.cell? (hZ g 2)=some (hY b4)/\
 ∃a6,U.cell? (hZ g 3)=some (hX a6)/\
 ∃a7,U.cell? (hZ g 4)=some (.int .u8 a7)/\
 R (hQ (.tuple #[.agg #[hY b8,hY c3,hY b4,hX a6,.int .u8 a7],hV false])) U)
 (callE P bl #[kT (kE y),hY 0,hY 1,hV true] (λe O=> ∃g6,e= hQ (hV g6)/\
 ∃c5,O.cell? (hZ y 0)=some (hY c5)/\
 ∃d0,O.cell? (hZ y 1)=some (hY d0)/\
 ∃d2,O.cell? (hZ y 2)=some (hY d2)/\
 ∃c2,O.cell? (hZ y 3)=some (hX c2)/\
 ∃b9,O.cell? (hZ y 4)=some (.int .u8 b9)/\
 stV O (hZ g 0) (hY c5) λg5=>
 stV g5 (hZ g 1) (hY d0) λg0=>
 stV g0 (hZ g 2) (hY d2) λf4=>
 stV f4 (hZ g 3) (hX c2) λg3=>
 stV g3 (hZ g 4) (.int .u8 b9) λI=>
 ∃b5,I.cell? (hZ g 0)=some (hY b5)/\
 ∃d3,I.cell? (hZ g 1)=some (hY d3)/\
 ∃e0,I.cell? (hZ g 2)=some (hY e0)/\
 ∃W,I.cell? (hZ g 3)=some (hX W)/\
 ∃b6,I.cell? (hZ g 4)=some (.int .u8 b6)/\
 R (hQ (.tuple #[.agg #[hY b5,hY d3,hY e0,hX W,.int .u8 b6],hV true])) I) E)) f3) h1
theorem pa.sound {R x0_0 x0_1 x0_2 x0_3 x0_4 w}(h:pa R x0_0 x0_1 x0_2 x0_3 x0_4 w):callE P mr #[.agg #[hY x0_0,hY x0_1,hY x0_2,hX x0_3,.int .u8 x0_4]] R w:=
 cE Tryz.func184 Tryz.call184 h
def eU (R:EP)(g:OA)(c4:Value)(w:World):Prop:=
 aA g λa1=>
 ∃c9,w.cell? (a1.add 5)=some (hY c9)/\
 callE P bj #[kT g,hY (i64.wrap (c9+1))] (λe c8=>e= hQ (.tuple #[])/\
 aA g λa5=>
 ∃b8 a7 b9,c8.cell? (a5.add 4)=some (hT b8 a7 b9)/\
 ∃c1 b5,∃V c5,(Instr.buildSlice f8 1 #[(0,.agg #[.nilIface,hT none 0 0,hY 0,hY 0])]).run P c8= .ok (hT c1 b5 V) c5/\
 ∃c3 W,∃b3 a6,(Builtin.append_ #[f8,f8] f8 #[hT b8 a7 b9,hT c1 b5 V]).run P c5= .ok (hT c3 W b3) a6/\
 aA g λa11=>
 stV a6 ((a11.add 4).add 0) (hT c3 W b3) λe2=>
 tk e2 λI=>
 aA g λa14=>
 aA g λe0=>
 ∃O U d2,I.cell? (a14.add 4)=some (hT O U d2)/\
 ∃d1 y d0,I.cell? (e0.add 4)=some (hT d1 y d0)/\
 0<=(i64.wrap ((y:Int) - 1))/\(i64.wrap ((y:Int) - 1))<(U:Int)/\
 aA O λE=>
 Dg c4 (
 stV I ((E.add (Int.toNat (i64.wrap ((y:Int) - 1))*4)).add 0) c4 λb4=>
 aA g λe1=>
 ∃b6,b4.cell? (e1.add 3)=some (hY b6)/\
 stV b4 (((E.add (Int.toNat (i64.wrap ((y:Int) - 1))*4)).add 2).add 0) (hY b6) λc2=>
 aA g λd3=>
 ∃b7,c2.cell? (d3.add 3)=some (hY b7)/\
 stV c2 ((((E.add (Int.toNat (i64.wrap ((y:Int) - 1))*4)).add 2).add 1).add 0) (hY b7) λe3=>
 R (hQ (.tuple #[])) e3)) w
theorem eU.sound {R x0 x1 w}(h:eU R x0 x1 w):callE P bQ #[kT x0,x1] R w:=
 aG [(11,.dr (rpN [0,3,6,12,15,18,10,22,24,27,30,33]))] Tryz.func78 Tryz.call78 h
def iY (R:EP)(W:OA)(w:World):Prop:=
 tk w λy=>
 aA W λa2=>
 aA W λa3=>
 ∃E U b3,y.cell? (a2.add 4)=some (hT E U b3)/\
 ∃b4 g a7,y.cell? (a3.add 4)=some (hT b4 g a7)/\
 0<=(i64.wrap ((g:Int) - 1))/\(i64.wrap ((g:Int) - 1))<(U:Int)/\
 aA E λb5=>
 ∃O V I,y.cell? ((b5.add (Int.toNat (i64.wrap ((g:Int) - 1))*4)).add 1)=some (hT O V I)/\
 R (hQ (hT O V I)) y
theorem iY.sound {R x0 w}(h:iY R x0 w):callE P iM #[kT x0] R w:=
 aG [(5,.dr (rpN [0,3,6,12,15,18,10,22,24,27,30,33]))] Tryz.func420 Tryz.call420 h
end Go.Proofs.YtendaipfdnhnaaaGreatDoor

namespace Go.Proofs.YtendaipfdnhnaaaGreatDoor
open Go.IntWalk
variable {P:Program} {σ:Out} {w:World} {L L':List ai} {R:Ending->World->Prop}

def Sl (sz:Nat)(e:TypeId)(q:Option Addr)(n c:Nat)(vs:List Value)(M:List ai):Prop:=
 vs.length=n*sz/\n<=c/\((q=none/\n=0/\c=0/\M= [])\/ ∃b sp,q=kE b/\M= [(b,cel (vs++sp) e)]/\(vs++sp).length=c*sz)
theorem Sl.nil (sz:Nat)(e:TypeId):Sl sz e none 0 0 [] []:=⟨by simp,lA1 _,.inl ⟨rfl,rfl,rfl,rfl⟩⟩

structure Row (P:Program) (t e:TypeId) (sz bytes:Nat) where
 i:TypeInfo
 z:Value
 ht:P.underlying t=some (.slice e)
 hi:P.info? e=some i
 hz:i.zero=some z
 hs:i.size=sz
 hb:i.bytes=bytes
 hc:z.cells.size=sz
 pos:0<sz

theorem ri {b:Nat}{cs:List Value}{e:TypeId}(h:Sat σ w ((b,cel cs e)::L)): ∀(o:Nat) (vs:List Value),o+vs.length<=cs.length->
 Sat σ (w.setCells b o vs) ((b,cel (cs.take o++vs++cs.drop (o+vs.length)) e)::L):=by
 intro o vs
 induction vs generalizing o w cs with
 |nil=>intro _;simpa[World.setCells] using h
 |cons v vs E=>
  intro I
  simp only[lF0] at I
  have y:=h.set (k:=0) (i:=o) v rfl
  have g:=E (w:=w.setCell (hZ b o) v) (cs:=cs.set o v) y (o+1) (by simp;omega)
  simp only[World.setCells]
  have O:(cs.set o v).take (o+1)=cs.take o++ [v]:=by
   rw[List.take_set,lH1 (by omega),lP1 _ _ (by simp;omega)]
   simp
   rw[show o - min o cs.length=0 by omega]
   rfl
  have U:(cs.set o v).drop (o+1+vs.length)=cs.drop (o+(vs.length+1)):=by
   rw[List.drop_set_of_lt (by omega)]
   congr 1
   omega
  rw[O,U] at g
  simpa using g

theorem Addr.add_zero_lit (b j:Nat):Addr.add (hZ b 0) j=⟨b,j,none⟩:=by
 simp[Addr.add]
 omega
theorem vI {sz:Nat}{e:TypeId}{q:Option Addr}{n c:Nat}{vs:List Value}{M:List ai}(O:Sl sz e q n c vs M)(h:Sat σ w (M++L)):
 (Builtin.firstCells sz n (hT q n c)).run P w= .ok vs.toArray w:=by
 obtain⟨y,U,g|⟨b,sp,g,I,V⟩⟩:=O
 ·obtain⟨rfl,rfl,rfl,rfl⟩:=g
  have:vs= []:=lB1 (by simpa using y)
  subst this
  exact run_firstCells_none w sz 0 0 0
 ·subst g;subst I
  refine run_firstCells_some w sz n _ n c vs y λj u E=>?_
  rw[show (Addr.add (hZ b 0) j)=⟨b,j,none⟩ from Addr.add_zero_lit b j]
  refine h.ld (lZ1 ..) ?_
  rw[lM0 (lL0.1 E).1]
  exact E

theorem Sat.app {t tx ty e:TypeId}{sz bytes:Nat}(r:Row P t e sz bytes){q:Option Addr}{n c:Nat}{vs:List Value}{M:List ai}(I:Sl sz e q n c vs M)(h:Sat σ w (M++L)){x:Value}{m:Nat}{g:List Value}(hs:Src P sz tx x m g w)(c9:0<m\/q≠none)(hb:(n+m)*bytes<=140737488355328)(d2:n+m<4611686018427387904):
 ∃U V a6 a7,(Builtin.append_ #[t,tx] ty #[hT q n c,x]).run P w= .ok (hT U (n+m) V) a6/\Sl sz e U (n+m) V (vs++g) a7/\Sat σ a6 (a7++L)/\U≠none/\c<=V:=by
 have b6:=vI (P:=P) I h.drew
 obtain⟨y,d1,I⟩:=I
 obtain⟨i,z,ht,hi,hz,c1,b9,b7,d0⟩:=r
 subst c1
 have E:=hs.newsLen
 by_cases O:n+m<=c
 ·rcases I with ⟨rfl,rfl,rfl,rfl⟩|⟨b,sp,rfl,rfl,c2⟩
  ·exact absurd c9 (by simp;omega)
  ·simp only[lA0] at c2
   have b8:(n+m)*i.size<=c*i.size:=lJ2 _ O
   rw[lQ3] at b8
   have b4:n*i.size+g.length<=(vs++sp).length:=by rw[lA0,E];omega
   refine⟨_,_,_,[(b,cel (vs++g++sp.drop g.length) e)],run_append_room_src w t tx ty e i ht hi b 0 n c x m g hs O ?_ ?_,⟨?_,O,.inr ⟨b,sp.drop g.length,rfl,rfl,?_⟩⟩,?_,by simp,lA1 _⟩
   ·intro j c5
    rw[lO0,h.ld (lZ1 ..) (lI0 (by omega))]
    rfl
   ·exact λj c5=>h.not_frozen (lZ1 ..)
   ·rw[lA0,y,E,lQ3]
   ·rw[lA0,lA0,lM1,y,E];omega
   ·have:=ri h (n*i.size) g b4
    rw[lO0]
    have c3:(vs++sp).take (n*i.size)=vs:=by rw[<-y,lQ4]
    have c4:(vs++sp).drop (n*i.size+g.length)=sp.drop g.length:=by rw[<-y,<-lK5,lC4]
    rw[c3,c4] at this
    exact this
 ·have W:c<n+m:=by omega
  have b5:=growslice_fits (need:=n+m) (old:=c) (bytes:=i.bytes) W (by rw[b9];exact hb)
  have b3:=grownCap_ge w (n+m) c e
  have hd:Sat σ w.drew L:=h.drew.right
  refine⟨_,_,_,[(w.heap.size,cel (vs++g++(Builtin.zeroCells z.cells (grownCap w (n+m) c e - (n+m))).toList) e)],run_append_grow_src w t tx ty e i z ht hi hz q n c vs b6 x m g hs W (by omega) b5,
   ⟨?_,b3,.inr ⟨_,_,rfl,rfl,?_⟩⟩,?_,by simp,by omega⟩
  ·rw[lA0,y,E,lQ3]
  ·rw[lA0,lA0,y,E,Array.length_toList,size_zeroCells,b7,<-lQ3,<-lQ3]
   congr 1
   omega
  ·have:=hd.alc (vs++g++(Builtin.zeroCells z.cells (grownCap w (n+m) c e - (n+m))).toList) e
   have c8:YtendaipfdnhnaaaGreatDoor.alc w.drew (vs++g++(Builtin.zeroCells z.cells (grownCap w (n+m) c e - (n+m))).toList).toArray e
    =w.drew.alloc (.cells ((vs++g).toArray++Builtin.zeroCells z.cells (grownCap w (n+m) c e - (n+m))) e):=by
    rw[show (vs++g++(Builtin.zeroCells z.cells (grownCap w (n+m) c e - (n+m))).toList).toArray=(vs++g).toArray++Builtin.zeroCells z.cells (grownCap w (n+m) c e - (n+m)) from by
     apply Array.ext';simp[lD0]]
    rfl
   rw[c8] at this
   exact this

theorem Sat.app1 {t ty e:TypeId}{sz bytes:Nat}(r:Row P t e sz bytes){q:Option Addr}{n c:Nat}{vs:List Value}{M:List ai}(b8:Sl sz e q n c vs M)(h:Sat σ w (M++L)){v:Value}(hv:v.cells.size=sz)(c5: ∀u∈v.cells.toList,u.oneCell'=true)(b4:Instr.fill (λi=>some (i*sz,sz)) ((Array.range (1*sz)).map (r.z.cells[· %r.z.cells.size]!)) [(0,v)]=some v.cells)(hb:(n+1)*bytes<=140737488355328)(c3:n+1<4611686018427387904)(c8:sz<=100){K:Option Addr->Nat->Nat->World->Prop}(b9: ∀g y I U,Sl sz e g (n+1) y (vs++v.cells.toList) U->Sat σ I (U++L)->K g (n+1) y I):
 ∃a6 V b3 E,(Instr.buildSlice t 1 #[(0,v)]).run P w= .ok (hT a6 V b3) E/\
  ∃g W y a7,(Builtin.append_ #[t,t] ty #[hT q n c,hT a6 V b3]).run P E= .ok (hT g W y) a7/\K g W y a7:=by
 have b5:=run_buildSlice (P:=P) w t e 1 #[(0,v)] v.cells r.i r.z r.ht r.hi r.hz (by rw[r.hs];omega) (by rw[r.hs];have:=r.pos;omega) (by rw[r.hs];exact b4)
 refine⟨_,_,_,_,b5,?_⟩
 have O:=h.alc v.cells.toList e
 have c4:YtendaipfdnhnaaaGreatDoor.alc w v.cells.toList.toArray e=w.alloc (.cells v.cells e):=by rw[lD4];rfl
 rw[c4] at O
 generalize c9:w.alloc (.cells v.cells e)=E at O⊢
 generalize w.heap.size=nb at O⊢
 have hs:Src P sz t (hT (kE nb) 1 1) 1 v.cells.toList E:=by
  refine Src.ofSlice E r.ht _ 1 1 _ (by simp[hv]) (λj u c2=>?_) c5
  rw[show (Addr.add (hZ nb 0) j)=⟨nb,j,none⟩ from Addr.add_zero_lit nb j]
  exact O.ld (lZ1 ..) c2
 have b6:Sat σ E (M++((nb,cel v.cells.toList e)::L)):=O.perm lR5.symm
 obtain⟨g,y,I,U,hr,b7,c1,_⟩:=Sat.app r (ty:=ty) b8 b6 hs (.inl (by omega)) hb c3
 refine⟨g,n+1,y,I,hr,b9 g y I U b7 ?_⟩
 exact c1.sub (List.Sublist.append_left (lS3 ..) _)
theorem Sat.app1S {t ty e:TypeId}{sz bytes:Nat}(r:Row P t e sz bytes){q:Option Addr}{n c:Nat}{vs:List Value}{M:List ai}(b8:Sl sz e q n c vs M)(h:Sat σ w (M++L)){v:Value}(hv:v.cells.size=sz)(c8: ∀u∈v.cells.toList,u.oneCell'=true)(b4:Instr.fill (λi=>some (i*sz,sz)) ((Array.range (1*sz)).map (r.z.cells[· %r.z.cells.size]!)) [(0,v)]=some v.cells)(hb:(n+1)*bytes<=140737488355328)(c4:n+1<4611686018427387904)(c9:sz<=100){K:Option Addr->Nat->Nat->World->Prop}{C:World->Prop}(c2: ∀g X,Sat σ g (X::(M++L))->C g)(b9: ∀y E O U,Sl sz e y (n+1) E (vs++v.cells.toList) U->Sat σ O (U++L)->K y (n+1) E O):
 ∃a6 V b3 g,(Instr.buildSlice t 1 #[(0,v)]).run P w= .ok (hT a6 V b3) g/\C g/\
  ∃y W E a7,(Builtin.append_ #[t,t] ty #[hT q n c,hT a6 V b3]).run P g= .ok (hT y W E) a7/\K y W E a7:=by
 have b5:=run_buildSlice (P:=P) w t e 1 #[(0,v)] v.cells r.i r.z r.ht r.hi r.hz (by rw[r.hs];omega) (by rw[r.hs];have:=r.pos;omega) (by rw[r.hs];exact b4)
 refine⟨_,_,_,_,b5,?_⟩
 have I:=h.alc v.cells.toList e
 have c5:YtendaipfdnhnaaaGreatDoor.alc w v.cells.toList.toArray e=w.alloc (.cells v.cells e):=by rw[lD4];rfl
 rw[c5] at I
 generalize d0:w.alloc (.cells v.cells e)=g at I⊢
 generalize w.heap.size=nb at I⊢
 have hs:Src P sz t (hT (kE nb) 1 1) 1 v.cells.toList g:=by
  refine Src.ofSlice g r.ht _ 1 1 _ (by simp[hv]) (λj u c3=>?_) c8
  rw[show (Addr.add (hZ nb 0) j)=⟨nb,j,none⟩ from Addr.add_zero_lit nb j]
  exact I.ld (lZ1 ..) c3
 have b6:Sat σ g (M++((nb,cel v.cells.toList e)::L)):=I.perm lR5.symm
 obtain⟨y,E,O,U,hr,b7,c1,_⟩:=Sat.app r (ty:=ty) b8 b6 hs (.inl (by omega)) hb c4
 refine⟨c2 _ _ I,y,n+1,E,O,hr,b9 y E O U b7 ?_⟩
 exact c1.sub (List.Sublist.append_left (lS3 ..) _)
end Go.Proofs.YtendaipfdnhnaaaGreatDoor


namespace Go.Proofs.YtendaipfdnhnaaaGreatDoor
open Go.Proofs Go.IntWalk Go.RowKit
set_option maxRecDepth 20000
variable {σ:Out} {w:World} {L L':List ai} {R:Ending->World->Prop}
namespace dK
def k1 (R:EP)(Xa:OA->WP)(g:OA)(w:World):Prop:=
 aA g λO=>
 ∃y,w.cell? (O.add 1)=some (hY y)/\
 aA g λE=>
 stV w ((E.add 1).add 0) (hY (i64.wrap (y+1))) λI=>
 Xa g I
def bl1 (R:EP)(Xa:OA->WP)(y:OA)(w:World):Prop:=
 tk w λg=>
 aA y λa4=>
 aA y λa5=>
 ∃V,g.cell? (a4.add 1)=some (hY V)/\
 ∃W,g.cell? (a5.add 3)=some (hX W)/\
 br (decide (V<(W.size:Int)))
 (aA y λa8=>
 aA y λa9=>
 ∃U,g.cell? (a8.add 3)=some (hX U)/\
 ∃E,g.cell? (a9.add 1)=some (hY E)/\
 0<=E/\E<(U.size:Int)/\
 br ((bt U E)==32)
 (k1 R Xa y g)
 (aA y λa12=>
 aA y λa13=>
 ∃O,g.cell? (a12.add 3)=some (hX O)/\
 ∃I,g.cell? (a13.add 1)=some (hY I)/\
 0<=I/\I<(O.size:Int)/\
 br ((bt O I)==9)
 (k1 R Xa y g)
 (R (hQ (.tuple #[])) g)))
 (R (hQ (.tuple #[])) g)
def l1 (R:EP)(g:OA)(w:World):Prop:=
 ∀X:OA->WP,(∀g w,bl1 R X g w->X g w)->X g w
end dK
def dK (R:EP)(g:OA)(w:World):Prop:=
 aA g λa1=>
 stV w (a1.add 0) (hY 0) λy=>
 dK.l1 R g y
theorem dK.sound {R x0 w}(h:dK R x0 w):callE P iD #[kT x0] R w:=
 aG [(5,.lp [2] (dK.bl1 R) λXa=> [(4,.dr (rpN [0,3,6,12,15,18,10,22,24,27,30,33,36,39,45,48,51,43,55,57,60,63,66,69,72,78,81,84,76,88,90,93,96,99])),(3,.mk [2] (dK.k1 R Xa))])] Tryz.func242 Tryz.call242 h
def mA (R:EP)(g:OA)(w:World):Prop:=
 aA g λa1=>
 ∃W,w.cell? a1=some (hY W)/\
 br (W==0)
 (tk w λb6=>
 aA g λa4=>
 aA g λa5=>
 ∃a6,b6.cell? (a4.add 3)=some (hX a6)/\
 ∃a7,b6.cell? (a5.add 1)=some (hY a7)/\
 0<=a7/\a7<=(a6.size:Int)/\
 R (hQ (hX (a6.extract (Int.toNat a7) a6.size))) b6)
 (br (W==1)
 (tk w λb5=>
 aA g λa9=>
 aA g λa10=>
 ∃y,b5.cell? (a9.add 3)=some (hX y)/\
 ∃V,b5.cell? (a10.add 1)=some (hY V)/\
 0<=V/\V<=(y.size:Int)/\
 (((hP #[32]).size+(y.extract (Int.toNat V) y.size).size:Nat):Int)<=i64.max/\
 R (hQ (hX ((hP #[32])++(y.extract (Int.toNat V) y.size)))) b5)
 (br (W==2)
 (tk w λb4=>
 aA g λa14=>
 aA g λb8=>
 ∃E,b4.cell? (a14.add 3)=some (hX E)/\
 ∃O,b4.cell? (b8.add 1)=some (hY O)/\
 0<=O/\O<=(E.size:Int)/\
 (((hP #[32,32]).size+(E.extract (Int.toNat O) E.size).size:Nat):Int)<=i64.max/\
 R (hQ (hX ((hP #[32,32])++(E.extract (Int.toNat O) E.size)))) b4)
 (br (W==3)
 (tk w λb3=>
 aA g λb7=>
 aA g λb9=>
 ∃I,b3.cell? (b7.add 3)=some (hX I)/\
 ∃U,b3.cell? (b9.add 1)=some (hY U)/\
 0<=U/\U<=(I.size:Int)/\
 (((hP #[32,32,32]).size+(I.extract (Int.toNat U) I.size).size:Nat):Int)<=i64.max/\
 R (hQ (hX ((hP #[32,32,32])++(I.extract (Int.toNat U) I.size)))) b3)
 (False))))
theorem mA.sound {R x0 w}(h:mA R x0 w):callE P gV #[kT x0] R w:=
 aG [(149,.dr (rpN [0,3,6,12,15,18,10,22,24,27])),(629,.dr (rpN [0,3,6,12,15,18,10,22,24,27,30])),(2549,.dr (rpN [0,3,6,12,15,18,10,22,24,27,30])),(10229,.dr (rpN [0,3,6,12,15,18,10,22,24,27,30])),(8181,.no)] Tryz.func186 Tryz.call186 h
namespace gJ
def k1 (R:EP)(y:OA)(O:Bool)(w:World):Prop:=
 br O
 (aA y λU=>
 ∃g,w.cell? (U.add 1)=some (hY g)/\
 aA y λE=>
 stV w ((E.add 1).add 0) (hY (i64.wrap (g+1))) λI=>
 R (hQ (hV true)) I)
 (R (hQ (hV false)) w)
end gJ
def gJ (R:EP)(g:OA)(V:Int)(w:World):Prop:=
 aA g λa1=>
 ∃a6,w.cell? a1=some (hY a6)/\
 br (decide (a6>0))
 (br (V==32)
 (aA g λa3=>
 ∃W,w.cell? a3=some (hY W)/\
 aA g λa5=>
 stV w (a5.add 0) (hY (i64.wrap (W - 1))) λa7=>
 R (hQ (hV true)) a7)
 (R (hQ (hV false)) w))
 (tk w λy=>
 aA g λa8=>
 aA g λa9=>
 ∃U,y.cell? (a8.add 1)=some (hY U)/\
 ∃O,y.cell? (a9.add 3)=some (hX O)/\
 br (decide (U<(O.size:Int)))
 (aA g λa12=>
 aA g λa13=>
 ∃I,y.cell? (a12.add 3)=some (hX I)/\
 ∃E,y.cell? (a13.add 1)=some (hY E)/\
 0<=E/\E<(I.size:Int)/\
 gJ.k1 R g ((bt I E)==V) y)
 (gJ.k1 R g false y))
theorem gJ.sound {R x0 x1 w}(h:gJ R x0 x1 w):callE P fI #[kT x0,.int .u8 x1] R w:=
 aG [(19,.dr (rpN [0,3,6,12,15,18,10,22,24,27,30,33,36,39,45,48,51,60,43,55,57,63,66])),(27,.mk [2,820] (gJ.k1 R))] Tryz.func239 Tryz.call239 h
def gm (R:EP)(O:OA)(w:World):Prop:=
 tk w λE=>
 aA O λa2=>
 aA O λa3=>
 ∃y,E.cell? (a2.add 3)=some (hX y)/\
 ∃g,E.cell? (a3.add 1)=some (hY g)/\
 0<=g/\g<=(y.size:Int)/\
 callE P gq #[hX (y.extract (Int.toNat g) y.size)] (λe U=> ∃I,e= hQ (hX I)/\
 R (hQ (hX I)) U) E
theorem gm.sound {R x0 w}(h:gm R x0 w):callE P gi #[kT x0] R w:=
 aG [(5,.dr (rpN [0,3,6,12,15,18,10,22,24,29,30]))] Tryz.func150 Tryz.call150 h
def jH (R:EP)(O:OA)(w:World):Prop:=
 tk w λE=>
 aA O λa2=>
 aA O λa3=>
 ∃y,E.cell? (a2.add 3)=some (hX y)/\
 ∃g,E.cell? (a3.add 1)=some (hY g)/\
 0<=g/\g<=(y.size:Int)/\
 callE P iA #[hX (y.extract (Int.toNat g) y.size)] (λe U=> ∃I,e= hQ (hX I)/\
 R (hQ (hX I)) U) E
theorem jH.sound {R x0 w}(h:jH R x0 w):callE P jB #[kT x0] R w:=
 aG [(5,.dr (rpN [0,3,6,12,15,18,10,22,24,29,30]))] Tryz.func248 Tryz.call248 h
def qI (R:EP)(E:OA)(w:World):Prop:=
 tk w λg=>
 aA E λa2=>
 aA E λa3=>
 ∃y,g.cell? (a2.add 1)=some (hY y)/\
 ∃I,g.cell? (a3.add 3)=some (hX I)/\
 R (hQ (hV (decide (y >= (I.size:Int))))) g
theorem qI.sound {R x0 w}(h:qI R x0 w):callE P og #[kT x0] R w:=
 aG [(5,.dr (rpN [0,3,6,12,15,18,10,22,24,27,30]))] Tryz.func243 Tryz.call243 h
def lJ (R:EP)(O:OA)(w:World):Prop:=
 tk w λE=>
 aA O λa2=>
 aA O λa3=>
 ∃y,E.cell? (a2.add 3)=some (hX y)/\
 ∃g,E.cell? (a3.add 1)=some (hY g)/\
 0<=g/\g<=(y.size:Int)/\
 callE P gq #[hX (y.extract (Int.toNat g) y.size)] (λe U=> ∃I,e= hQ (hX I)/\
 R (hQ (hV (I.toList==(hP #[]).toList))) U) E
theorem lJ.sound {R x0 w}(h:lJ R x0 w):callE P cr #[kT x0] R w:=
 aG [(5,.dr (rpN [0,3,6,12,15,18,10,22,24,29,30,33]))] Tryz.func104 Tryz.call104 h
def pd (R:EP)(g:OA)(w:World):Prop:=
 aA g λa1=>
 ∃W,w.cell? a1=some (hY W)/\
 br (decide (W>0))
 (R (hQ (.int .u8 32)) w)
 (tk w λE=>
 aA g λa4=>
 aA g λa5=>
 ∃U,E.cell? (a4.add 1)=some (hY U)/\
 ∃V,E.cell? (a5.add 3)=some (hX V)/\
 br (decide (U >= (V.size:Int)))
 (R (hQ (.int .u8 0)) E)
 (tk E λO=>
 aA g λa9=>
 aA g λa10=>
 ∃I,O.cell? (a9.add 3)=some (hX I)/\
 ∃y,O.cell? (a10.add 1)=some (hY y)/\
 0<=y/\y<(I.size:Int)/\
 R (hQ (.int .u8 (bt I y))) O))
theorem pd.sound {R x0 w}(h:pd R x0 w):callE P iP #[kT x0] R w:=
 aG [(19,.dr (rpN [0,3,6,12,15,18,10,22,24,27])),(23,.dr (rpN [0,3,6,12,15,18,10,22,24,27]))] Tryz.func241 Tryz.call241 h
namespace cN
def k2 (R:EP)(b5:OA)(y:Nat)(w:World):Prop:=
 ∃O,w.cell? (hZ y 0)=some (hY O)/\
 ∃U,w.cell? (hZ y 1)=some (hY U)/\
 ∃E,w.cell? (hZ y 2)=some (hY E)/\
 ∃I,w.cell? (hZ y 3)=some (hX I)/\
 ∃V,w.cell? (hZ y 4)=some (.int .u8 V)/\
 aA b5 λg=>
 stV w (g.add 0) (hY O) λb4=>
 stV b4 (g.add 1) (hY U) λa7=>
 stV a7 (g.add 2) (hY E) λW=>
 stV W (g.add 3) (hX I) λb3=>
 stV b3 (g.add 4) (.int .u8 V) λa6=>
 R (hQ (hV true)) a6
def k3 (R:EP)(Xa:OA->Int->Int->Bool->Nat->Int->WP)(E:OA)(y:Int)(I:Nat)(g:Int)(w:World):Prop:=
 br (decide (g >= y))
 (k2 R E I w)
 (R (hQ (hV false)) w)
def k1 (R:EP)(Xa:OA->Int->Int->Bool->Nat->Int->WP)(U:OA)(O b9:Int)(b8:Bool)(g:Nat)(I:Int)(w:World):Prop:=
 ∃V,w.cell? (hZ g 1)=some (hY V)/\
 ∃b5,w.cell? (hZ g 3)=some (hX b5)/\
 br (decide (V<(b5.size:Int)))
 (∃E,w.cell? (hZ g 3)=some (hX E)/\
 ∃y,w.cell? (hZ g 1)=some (hY y)/\
 0<=y/\y<(E.size:Int)/\
 br ((bt E y)==9)
 (∃b3,w.cell? (hZ g 1)=some (hY b3)/\
 ∃b4,w.cell? (hZ g 2)=some (hY b4)/\
 stV w (hZ g 0) (hY (i64.wrap ((i64.wrap (4 - (Fy .i64 (i64.wrap (b3 - b4)) 3))) - 1))) λb7=>
 ∃b6,b7.cell? (hZ g 1)=some (hY b6)/\
 stV b7 (hZ g 1) (hY (i64.wrap (b6+1))) λa6=>
 ∃a7,a6.cell? (hZ g 1)=some (hY a7)/\
 stV a6 (hZ g 2) (hY a7) λc2=>
 Xa U O b9 b8 g (i64.wrap (I+1)) c2)
 (br ((bt E y)==32)
 (∃W,w.cell? (hZ g 1)=some (hY W)/\
 stV w (hZ g 1) (hY (i64.wrap (W+1))) λc1=>
 Xa U O b9 b8 g (i64.wrap (I+1)) c1)
 (k3 R Xa U O g I w)))
 (k3 R Xa U O g I w)
def bl1 (R:EP)(Xa:OA->Int->Int->Bool->Nat->Int->WP)(I:OA)(U E:Int)(O:Bool)(g:Nat)(y:Int)(w:World):Prop:=
 br (decide (y<E))
 (∃a7,w.cell? (hZ g 0)=some (hY a7)/\
 br (decide (a7>0))
 (∃W,w.cell? (hZ g 0)=some (hY W)/\
 stV w (hZ g 0) (hY (i64.wrap (W - 1))) λb3=>
 Xa I U E O g (i64.wrap (y+1)) b3)
 (∃a6,w.cell? (hZ g 1)=some (hY a6)/\
 ∃V,w.cell? (hZ g 3)=some (hX V)/\
 br ((decide (a6 >= (V.size:Int))) && O)
 (Xa I U E O g (i64.wrap (y+1)) w)
 (k1 R Xa I U E O g y w)))
 (k2 R I g w)
def l1 (R:EP)(E:OA)(O y:Int)(I:Bool)(U:Nat)(g:Int)(w:World):Prop:=
 ∀X:OA->Int->Int->Bool->Nat->Int->WP,(∀E O y I U g w,bl1 R X E O y I U g w->X E O y I U g w)->X E O y I U g w
end cN
def cN (R:EP)(O:OA)(b8 b5:Int)(b6:Bool)(w:World):Prop:=
 aA O λa1=>
 ∃V,w.cell? (a1.add 0)=some (hY V)/\
 ∃y,w.cell? (a1.add 1)=some (hY y)/\
 ∃U,w.cell? (a1.add 2)=some (hY U)/\
 ∃I,w.cell? (a1.add 3)=some (hX I)/\
 ∃E,w.cell? (a1.add 4)=some (.int .u8 E)/\
 box w #[hY 0,hY 0,hY 0,hX (hP #[]),.int .u8 0] aW λg b4=>
 stV b4 (hZ g 0) (hY V) λb9=>
 stV b9 (hZ g 1) (hY y) λa7=>
 stV a7 (hZ g 2) (hY U) λb3=>
 stV b3 (hZ g 3) (hX I) λW=>
 stV W (hZ g 4) (.int .u8 E) λa6=>
 cN.l1 R O b8 b5 b6 g 0 a6
theorem cN.sound {R x0 x1 x2 x3 w}(h:cN R x0 x1 x2 x3 w):callE P bl #[kT x0,hY x1,hY x2,hV x3] R w:=
 aG [(43,.lp [2,27,47,60,186,207] (cN.bl1 R) λXa=> [(57,.mk [2,27,47,60,186,207] (cN.k1 R Xa)),(121,.mk [2,27,186,207] (cN.k3 R Xa))]),(15,.mk [2,186] (cN.k2 R))] Tryz.func203 Tryz.call203 h
namespace cX
def k1 (R:EP)(y:BA)(g:Int)(w:World):Prop:=
 0<=g/\g<=(y.size:Int)/\
 R (hQ (hX (y.extract (Int.toNat g) y.size))) w
def bl1 (R:EP)(Xa:BA->Int->WP)(y:BA)(g:Int)(w:World):Prop:=
 ((decide (g<(y.size:Int)))=true->0<=g/\g<(y.size:Int))/\
 (((decide (g<(y.size:Int))) && (!((bt y g)==32)))=true->0<=g/\g<(y.size:Int))/\
 br ((decide (g<(y.size:Int))) && (((bt y g)==32)||((bt y g)==9)))
 (Xa y (i64.wrap (g+1)) w)
 (k1 R y g w)
def l1 (R:EP)(y:BA)(g:Int)(w:World):Prop:=
 ∀X:BA->Int->WP,(∀y g w,bl1 R X y g w->X y g w)->X y g w
end cX
def cX (R:EP)(g:BA)(w:World):Prop:=
 cX.l1 R g 0 w
theorem cX.sound {R x0 w}(h:cX R x0 w):callE P gq #[hX x0] R w:=
 aG [(19,.lp [1,67] (cX.bl1 R) λXa=> []),(15,.mk [1,67] (cX.k1 R))] Tryz.func140 Tryz.call140 h
namespace cM
def k2 (R:EP)(y:BA)(g:Int)(w:World):Prop:=
 0<=g/\g<=(y.size:Int)/\
 R (hQ (hX (y.extract 0 (Int.toNat g)))) w
def bl2 (R:EP)(Xa:BA->Int->WP)(y:BA)(g:Int)(w:World):Prop:=
 ((decide (g>0))=true->0<=(i64.wrap (g - 1))/\(i64.wrap (g - 1))<(y.size:Int))/\
 (((decide (g>0)) && (!((bt y (i64.wrap (g - 1)))==32)))=true->0<=(i64.wrap (g - 1))/\(i64.wrap (g - 1))<(y.size:Int))/\
 br ((decide (g>0)) && (((bt y (i64.wrap (g - 1)))==32)||((bt y (i64.wrap (g - 1)))==9)))
 (Xa y (i64.wrap (g - 1)) w)
 (k2 R y g w)
def l2 (R:EP)(y:BA)(g:Int)(w:World):Prop:=
 ∀X:BA->Int->WP,(∀y g w,bl2 R X y g w->X y g w)->X y g w
def k1 (R:EP)(g:BA)(y:Int)(w:World):Prop:=
 0<=y/\y<=(g.size:Int)/\
 l2 R (g.extract (Int.toNat y) g.size) ((g.extract (Int.toNat y) g.size).size:Int) w
def bl1 (R:EP)(E:BA->Int->WP)(y:BA)(g:Int)(w:World):Prop:=
 ((decide (g<(y.size:Int)))=true->0<=g/\g<(y.size:Int))/\
 (((decide (g<(y.size:Int))) && (!((bt y g)==32)))=true->0<=g/\g<(y.size:Int))/\
 br ((decide (g<(y.size:Int))) && (((bt y g)==32)||((bt y g)==9)))
 (E y (i64.wrap (g+1)) w)
 (k1 R y g w)
def l1 (R:EP)(y:BA)(g:Int)(w:World):Prop:=
 ∀X:BA->Int->WP,(∀y g w,bl1 R X y g w->X y g w)->X y g w
end cM
def cM (R:EP)(g:BA)(w:World):Prop:=
 cM.l1 R g 0 w
theorem cM.sound {R x0 w}(h:cM R x0 w):callE P iA #[hX x0] R w:=
 aG [(19,.lp [1,67] (cM.bl1 R) λg=> []),(15,.mk [1,67] (cM.k1 R)),(159,.lp [1,87] (cM.bl2 R) λXa=> []),(127,.mk [1,87] (cM.k2 R))] Tryz.func108 Tryz.call108 h

theorem tK {l:List UInt8}(b4:l.length<4611686018427387904)(h:R (hQ (hX (bs (gw cO l)))) w):cM R (bs l) w:=by
 intro X W
 refine D0 (l:=l) (X:=λi=>X (bs l) (i:Int) w) (p:=cO) (λi hi y O=>W _ _ _ ?_) 0 (lB2 _) (λi hi E I=>W _ _ _ ?_)
 ·refine⟨λ_=>⟨by omega,by simp;omega⟩,λ_=>⟨by omega,by simp;omega⟩,ag ?_ ?_⟩
  ·rw[dh hi 32 32 rfl,dh hi 9 9 rfl]
   simpa[hi,cO] using y
  ·rw[aN (by omega)];exact O
 ·refine⟨λh=>⟨by omega,by simpa using h⟩,λh=>⟨by omega,?_⟩,af ?_ ?_⟩
  ·simp only[lL1,decide_eq_true_eq] at h;exact h.1
  ·by_cases g:i<l.length
   ·rw[dh g 32 32 rfl,dh g 9 9 rfl]
    simpa[g,cO] using E g
   ·simp[g]
  ·refine⟨by omega,by simp;omega,?_⟩
   rw[cj]
   simp only[lC0,aJ,lW2,I]
   simp only[lM2]
   generalize a7:l.dropWhile cO=m
   have b3:m.length<4611686018427387904:=by
    have:=lO2 cO (l:=l)|>.length_le
    rw[a7] at this
    omega
   intro Y a6
   refine G8 (l:=m) (X:=λj=>Y (bs m) (j:Int) w) (p:=cO) (λi hi y O=>a6 _ _ _ ?_) m.length (lA1 _) (λj b5 E I=>a6 _ _ _ ?_)
   ·have hd:=il (n:=i+1) (by omega) (by omega)
    rw[lE3] at hd
    refine⟨λ_=>?_,λ_=>?_,ag ?_ ?_⟩
    ·rw[hd];exact⟨by omega,by simp;omega⟩
    ·rw[hd];exact⟨by omega,by simp;omega⟩
    ·rw[hd,dh hi 32 32 rfl,dh hi 9 9 rfl]
     simp only[cO] at y
     rw[y]
     simp
    ·rw[hd];exact O
   ·have U:cM.k2 R (bs m) (j:Int) w:=by
     refine⟨by omega,by simp;omega,?_⟩
     rw[cj]
     simp only[lC0,lM2,I,lW2]
     have:gw cO l=(m.reverse.dropWhile cO).reverse:=by rw[gw,wl,a7]
     rw[<-this];exact h
    rcases lK4 j with V|V
    ·subst V
     exact⟨λh=>by simp at h,λh=>by simp at h,af (by simp) U⟩
    ·obtain⟨i,rfl⟩: ∃i,j=i+1:=⟨j - 1,by omega⟩
     have hd:=il (n:=i+1) (by omega) (by omega)
     rw[lE3] at hd
     refine⟨λ_=>?_,λ_=>?_,af ?_ U⟩
     ·rw[hd];exact⟨by omega,by simp;omega⟩
     ·rw[hd];exact⟨by omega,by simp;omega⟩
     ·have:=E i (by omega) rfl
      rw[hd,dh (by omega) 32 32 rfl,dh (by omega) 9 9 rfl]
      simp only[cO] at this
      rw[this];simp
theorem kt {l:List UInt8}(g:l.length<4611686018427387904)(h:R (hQ (hX (bs (gw cO l)))) w):callE P iA #[hX (bs l)] R w:=
 cM.sound (tK g h)
theorem ku {l:List UInt8}(V:l.length<4611686018427387904)(h:R (hQ (hX (bs (l.dropWhile cO)))) w):callE P gq #[hX (bs l)] R w:=by
 refine cX.sound ?_
 intro X y
 refine D0 (l:=l) (X:=λi=>X (bs l) (i:Int) w) (p:=cO) (λi hi O U=>y _ _ _ ?_) 0 (lB2 _) (λi hi E I=>y _ _ _ ?_)
 ·refine⟨λ_=>⟨by omega,by simp;omega⟩,λ_=>⟨by omega,by simp;omega⟩,ag ?_ ?_⟩
  ·rw[dh hi 32 32 rfl,dh hi 9 9 rfl]
   simpa[hi,cO] using O
  ·rw[aN (by omega)];exact U
 ·refine⟨λh=>⟨by omega,by simpa using h⟩,λh=>⟨by omega,?_⟩,af ?_ ?_⟩
  ·simp only[lL1,decide_eq_true_eq] at h;exact h.1
  ·by_cases g:i<l.length
   ·rw[dh g 32 32 rfl,dh g 9 9 rfl]
    simpa[g,cO] using E g
   ·simp[g]
  ·refine⟨by omega,by simp;omega,?_⟩
   rw[aJ,cj]
   simp only[lC0,lW2,I,lM2]
   exact h

structure Ln where
 sp:Nat
 i:Nat
 tab:Nat
 text:List UInt8
 nl:UInt8
def Ln.cells (l:Ln):List Value:= [hY l.sp,hY l.i,hY l.tab,hX (bs l.text),.int .u8 l.nl.toNat]
abbrev Ln.at (b:Nat)(l:Ln):ai:=(b,cel l.cells aW)
structure Ln.ok (l:Ln):Prop where
 i:l.i<=l.text.length
 tab:l.tab<=l.i
 len:l.text.length<4611686018427387904
 sp:l.sp<=3
def Ln.blank (l:Ln):Bool:=(l.text.drop l.i).all cO
def Ln.peek (l:Ln):UInt8:=if 0<l.sp then 32 else l.text.getD l.i 0
theorem l8 {p:UInt8->Bool}: ∀ {l:List UInt8},((l.dropWhile p)== [])=l.all p
 | []=>rfl
 |a::l=>by
  cases g:p a with
  |true=>rw[lB4 g,l8,lL3,g,lP5]
  |false=>rw[lI2 (by simp[g]),lL3,g];rfl
theorem dF {b:Nat}{l:Ln}(h:Sat σ w L)(E:l.at b∈L)(g:l.ok)(y: ∀w,Sat σ w L->R (hQ (hV l.blank)) w):
 callE P cr #[kT (kE b)] R w:=by
 refine lJ.sound ?_
 repeat (first|refine aa ?_|refine h.tk λw h=>?_|refine⟨_,h.ldA,?_⟩|refine⟨_,_,_,h.ldA,?_⟩)
 have:=g.i
 refine⟨by omega,by simp;omega,?_⟩
 rw[aJ,lC0,nP]
 refine ku (by simp;have:=g.len;omega) ⟨_,rfl,?_⟩
 rw[cJ,gx,l8]
 exact y _ h
theorem Fu {b:Nat}{l:Ln}(h:Sat σ w L)(y:l.at b∈L)(g: ∀w,Sat σ w L->R (hQ (hV (decide (l.text.length<=l.i)))) w):
 callE P og #[kT (kE b)] R w:=by
 refine qI.sound ?_
 repeat (first|refine aa ?_|refine h.tk λw h=>?_|refine⟨_,h.ldA,?_⟩|refine⟨_,_,_,h.ldA,?_⟩)
 have:(decide ((l.i:Int) >= ((bs l.text).size:Int)))=decide (l.text.length<=l.i):=by simp
 rw[this]
 exact g _ h
theorem mi {b:Nat}{l:Ln}(h:Sat σ w L)(E:l.at b∈L)(I:l.ok)(y: ∀w,Sat σ w L->R (hQ (.int .u8 l.peek.toNat)) w):
 callE P iP #[kT (kE b)] R w:=by
 refine pd.sound ?_
 repeat (first|refine aa ?_|refine h.tk λw h=>?_|refine⟨_,h.ldA,?_⟩|refine⟨_,_,_,h.ldA,?_⟩)
 refine bp (λhs=>?_) (λhs=>?_)
 ·have g:l.peek=32:=by simp only[Ln.peek];rw[if_pos (by simpa using hs)]
  have:=y _ h
  rw[g] at this
  exact this
 ·have hs:l.sp=0:=by simpa using hs
  repeat (first|refine aa ?_|refine h.tk λw h=>?_|refine⟨_,h.ldA,?_⟩|refine⟨_,_,_,h.ldA,?_⟩)
  refine bp (λhi=>?_) (λhi=>?_)
  ·have g:l.peek=0:=by
    simp at hi
    simp[Ln.peek,hs,hi]
   have:=y _ h
   rw[g] at this
   exact this
  ·repeat (first|refine aa ?_|refine h.tk λw h=>?_|refine⟨_,h.ldA,?_⟩|refine⟨_,_,_,h.ldA,?_⟩)
   simp at hi
   refine⟨by omega,by simp;omega,?_⟩
   have g:(l.peek.toNat:Int)=bt (bs l.text) l.i:=by rw[pY hi];simp[Ln.peek,hs,hi]
   rw[<-g]
   exact y _ h
theorem GE (n:Nat)(E:n<4611686018427387904):Fy .i64 (n:Int) 3=((n%4:Nat):Int):=by
 have y:(BitVec.ofInt 64 (n:Int) &&& BitVec.ofInt 64 3).toNat=n%4:=by
  rw[BitVec.toNat_and]
  have g:(BitVec.ofInt 64 (n:Int)).toNat=n:=by
   simp
   omega
  rw[g,show (BitVec.ofInt 64 3).toNat=2 ^ 2 - 1 from rfl,Nat.and_two_pow_sub_one_eq_mod]
 show i64.wrap (((BitVec.ofInt 64 (n:Int) &&& BitVec.ofInt 64 3).toNat:Nat):Int)=_
 rw[y,i64_in _ (by omega)]
def Ln.tsGo (min:Nat)(eol:Bool):Nat->Nat->Ln->Option Ln
 |0,_,t=>some t
 |k+1,n,t=>
  if 0<t.sp then tsGo min eol k (n+1) {t with sp:=t.sp - 1}
  else if t.text.length<=t.i/\eol=true then tsGo min eol k (n+1) t
  else if t.text[t.i]? =some 9 then tsGo min eol k (n+1) {t with sp:=3 - (t.i - t.tab)%4,i:=t.i+1,tab:=t.i+1}
  else if t.text[t.i]? =some 32 then tsGo min eol k (n+1) {t with i:=t.i+1}
  else if min<=n then some t else none
def Ln.trimSp (min max:Nat)(eol:Bool)(t:Ln):Option Ln:=t.tsGo min eol max 0
theorem trimSp_ok {b:Nat}{l:Ln}{min max:Nat}{eol:Bool}(h:Sat σ w (l.at b::L))(b7:l.ok)(c1:min<4611686018427387904)(c2:max<4611686018427387904)(g:match l.trimSp min max eol with
  |some W=> ∀w,Sat σ w (W.at b::L)->R (hQ (hV true)) w
  |none=> ∀w,Sat σ w (l.at b::L)->R (hQ (hV false)) w):
 callE P bl #[kT (kE b),hY min,hY max,hV eol] R w:=by
 refine cN.sound ?_
 repeat (first|refine aa ?_|refine h.tk λw h=>?_|refine⟨_,h.ldA,?_⟩|refine⟨_,_,_,h.ldA,?_⟩|refine h.stA 0 λw h=>?_|refine h.stA 1 λw h=>?_|refine h.stA 2 λw h=>?_|refine h.stA 3 λw h=>?_|refine h.stA 4 λw h=>?_|refine h.stA 5 λw h=>?_|refine h.stA 6 λw h=>?_|refine h.bx λb0 w h=>?_)
 have h:Sat σ _ (l.at b0::l.at b::L):=h
 intro X a7
 have b3: ∀k n (t:Ln) w,n+k=max->t.ok->Sat σ w (t.at b0::l.at b::L)->
  (match t.tsGo min eol k n with
  |some W=> ∀w,Sat σ w (W.at b::L)->R (hQ (hV true)) w
  |none=> ∀w,Sat σ w (l.at b::L)->R (hQ (hV false)) w)->X (kE b) min max eol b0 n w:=by
  intro k
  induction k with
  |zero=>
   intro n t w b6 ht h g
   refine a7 _ _ _ _ _ _ _ (af (by simp;omega) ?_)
   repeat (first|refine aa ?_|refine h.tk λw h=>?_|refine⟨_,h.ldA,?_⟩|refine⟨_,_,_,h.ldA,?_⟩|refine h.stA 0 λw h=>?_|refine h.stA 1 λw h=>?_|refine h.stA 2 λw h=>?_|refine h.stA 3 λw h=>?_|refine h.stA 4 λw h=>?_|refine h.stA 5 λw h=>?_|refine h.stA 6 λw h=>?_|refine h.bx λb0 w h=>?_)
   have h:Sat σ _ (t.at b0::t.at b::L):=h
   exact g _ h.tail
  |succ k O=>
   intro n t w b6 ht h g
   simp only[Ln.tsGo] at g
   refine a7 _ _ _ _ _ _ _ (ag (by simp;omega) ?_)
   have E:i64.wrap ((n:Int)+1)=((n+1:Nat):Int):=aN (by omega)
   repeat (first|refine aa ?_|refine h.tk λw h=>?_|refine⟨_,h.ldA,?_⟩|refine⟨_,_,_,h.ldA,?_⟩)
   by_cases hs:0<t.sp
   ·rw[if_pos hs] at g
    refine ag (by simpa using hs) ?_
    have hd:=il (n:=t.sp) (by have:=ht.sp;omega) hs
    repeat (first|refine aa ?_|refine h.tk λw h=>?_|refine⟨_,h.ldA,?_⟩|refine⟨_,_,_,h.ldA,?_⟩|refine h.stA 0 λw h=>?_|refine h.stA 1 λw h=>?_|refine h.stA 2 λw h=>?_|refine h.stA 3 λw h=>?_|refine h.stA 4 λw h=>?_|refine h.stA 5 λw h=>?_|refine h.stA 6 λw h=>?_|refine h.bx λb0 w h=>?_)
    rw[hd] at h
    rw[E]
    exact O _ {t with sp:=t.sp - 1} _ (by omega) ⟨ht.i,ht.tab,ht.len,by have:=ht.sp;simp;omega⟩ h g
   ·rw[if_neg hs] at g
    refine af (by simpa using hs) ?_
    repeat (first|refine aa ?_|refine h.tk λw h=>?_|refine⟨_,h.ldA,?_⟩|refine⟨_,_,_,h.ldA,?_⟩)
    by_cases V:t.text.length<=t.i/\eol=true
    ·rw[if_pos V] at g
     refine ag (by simpa using V) ?_
     rw[E]
     exact O _ t _ (by omega) ht h g
    ·rw[if_neg V] at g
     refine af (by rw[lY3];by_cases h:eol=true<;>simp_all) ?_
     repeat (first|refine aa ?_|refine h.tk λw h=>?_|refine⟨_,h.ldA,?_⟩|refine⟨_,_,_,h.ldA,?_⟩)
     by_cases hi:t.i<t.text.length
     ·refine ag (by simpa using hi) ?_
      repeat (first|refine aa ?_|refine h.tk λw h=>?_|refine⟨_,h.ldA,?_⟩|refine⟨_,_,_,h.ldA,?_⟩)
      refine⟨by omega,by simpa using hi,?_⟩
      rw[lI0 hi] at g
      have b9:=ht.len
      have b8:=ht.tab
      have a6:i64.wrap ((t.i:Int)+1)=((t.i+1:Nat):Int):=aN (by omega)
      by_cases U:t.text[t.i]=9
      ·rw[if_pos (by rw[U])] at g
       refine ag (by rw[dh hi 9 9 rfl,U];rfl) ?_
       repeat (first|refine aa ?_|refine h.tk λw h=>?_|refine⟨_,h.ldA,?_⟩|refine⟨_,_,_,h.ldA,?_⟩)
       have b4:i64.wrap ((t.i:Int) - (t.tab:Int))=((t.i - t.tab:Nat):Int):=by rw[i64_in _ (by omega)];omega
       rw[b4,GE _ (by omega),i64_in (4 - _) (by omega),i64_in _ (by omega)]
       have b5:(4 - (((t.i - t.tab)%4:Nat):Int) - 1)=((3 - (t.i - t.tab)%4:Nat):Int):=by omega
       rw[b5]
       repeat (first|refine aa ?_|refine h.tk λw h=>?_|refine⟨_,h.ldA,?_⟩|refine⟨_,_,_,h.ldA,?_⟩|refine h.stA 0 λw h=>?_|refine h.stA 1 λw h=>?_|refine h.stA 2 λw h=>?_|refine h.stA 3 λw h=>?_|refine h.stA 4 λw h=>?_|refine h.stA 5 λw h=>?_|refine h.stA 6 λw h=>?_|refine h.bx λb0 w h=>?_)
       rw[a6] at h
       rw[E]
       exact O _ {t with sp:=3 - (t.i - t.tab)%4,i:=t.i+1,tab:=t.i+1} _ (by omega) ⟨by simp;omega,by simp,ht.len,by simp⟩ h g
      ·rw[if_neg (by simpa using U)] at g
       refine af (by rw[dh hi 9 9 rfl];simpa using U) ?_
       by_cases I:t.text[t.i]=32
       ·rw[if_pos (by rw[I])] at g
        refine ag (by rw[dh hi 32 32 rfl,I];rfl) ?_
        repeat (first|refine aa ?_|refine h.tk λw h=>?_|refine⟨_,h.ldA,?_⟩|refine⟨_,_,_,h.ldA,?_⟩|refine h.stA 0 λw h=>?_|refine h.stA 1 λw h=>?_|refine h.stA 2 λw h=>?_|refine h.stA 3 λw h=>?_|refine h.stA 4 λw h=>?_|refine h.stA 5 λw h=>?_|refine h.stA 6 λw h=>?_|refine h.bx λb0 w h=>?_)
        rw[a6] at h
        rw[E]
        exact O _ {t with i:=t.i+1} _ (by omega) ⟨by simp;omega,by simp;omega,ht.len,ht.sp⟩ h g
       ·rw[if_neg (by simpa using I)] at g
        refine af (by rw[dh hi 32 32 rfl];simpa using I) ?_
        by_cases y:min<=n
        ·rw[if_pos y] at g
         refine ag (by simpa using y) ?_
         repeat (first|refine aa ?_|refine h.tk λw h=>?_|refine⟨_,h.ldA,?_⟩|refine⟨_,_,_,h.ldA,?_⟩|refine h.stA 0 λw h=>?_|refine h.stA 1 λw h=>?_|refine h.stA 2 λw h=>?_|refine h.stA 3 λw h=>?_|refine h.stA 4 λw h=>?_|refine h.stA 5 λw h=>?_|refine h.stA 6 λw h=>?_|refine h.bx λb0 w h=>?_)
         have h:Sat σ _ (t.at b0::t.at b::L):=h
         exact g _ h.tail
        ·rw[if_neg y] at g
         refine af (by simpa using y) ?_
         exact g _ h.tail
     ·refine af (by simpa using hi) ?_
      rw[lT1 (by omega),if_neg (by simp),if_neg (by simp)] at g
      by_cases y:min<=n
      ·rw[if_pos y] at g
       refine ag (by simpa using y) ?_
       repeat (first|refine aa ?_|refine h.tk λw h=>?_|refine⟨_,h.ldA,?_⟩|refine⟨_,_,_,h.ldA,?_⟩|refine h.stA 0 λw h=>?_|refine h.stA 1 λw h=>?_|refine h.stA 2 λw h=>?_|refine h.stA 3 λw h=>?_|refine h.stA 4 λw h=>?_|refine h.stA 5 λw h=>?_|refine h.stA 6 λw h=>?_|refine h.bx λb0 w h=>?_)
       have h:Sat σ _ (t.at b0::t.at b::L):=h
       exact g _ h.tail
      ·rw[if_neg y] at g
       refine af (by simpa using y) ?_
       exact g _ h.tail
 exact b3 max 0 l _ (by omega) b7 h g

def Ln.trimC (c:UInt8)(l:Ln):Option Ln:=
 if 0<l.sp then (if c=32 then some {l with sp:=l.sp - 1} else none)
 else if l.text[l.i]? =some c then some {l with i:=l.i+1} else none
theorem Ln.trimC_ok {c:UInt8}{l y:Ln}(g:l.ok)(h:l.trimC c=some y):y.ok:=by
 simp only[Ln.trimC] at h
 have E:=g.i;have I:=g.tab;have U:=g.sp
 split at h
 ·split at h
  ·cases h;exact⟨E,I,g.len,by simp;omega⟩
  ·cases h
 ·split at h
  ·rename_i O
   have:=(lL0.1 O).1
   cases h;exact⟨by simp;omega,by simp;omega,g.len,g.sp⟩
  ·cases h
theorem trimC_ok {b:Nat}{l:Ln}{c:UInt8}{n:Int}(hc:(c.toNat:Int)=n)(h:Sat σ w (l.at b::L))(y:l.ok)(g:match l.trimC c with
  |some I=> ∀w,Sat σ w (I.at b::L)->R (hQ (hV true)) w
  |none=> ∀w,Sat σ w (l.at b::L)->R (hQ (hV false)) w):
 callE P fI #[kT (kE b),.int .u8 n] R w:=by
 subst hc
 refine gJ.sound ?_
 simp only[Ln.trimC] at g
 have U:=y.i;have V:=y.tab;have O:=y.sp;have W:=y.len
 repeat (first|refine aa ?_|refine h.tk λw h=>?_|refine⟨_,h.ldA,?_⟩|refine⟨_,_,_,h.ldA,?_⟩)
 by_cases hs:0<l.sp
 ·rw[if_pos hs] at g
  refine ag (by simpa using hs) ?_
  by_cases hc:c=32
  ·rw[if_pos hc] at g
   refine ag (by rw[hc];rfl) ?_
   have hd:=il (n:=l.sp) (by omega) hs
   repeat (first|refine aa ?_|refine h.tk λw h=>?_|refine⟨_,h.ldA,?_⟩|refine⟨_,_,_,h.ldA,?_⟩|refine h.stA 0 λw h=>?_|refine h.stA 1 λw h=>?_|refine h.stA 2 λw h=>?_|refine h.stA 3 λw h=>?_|refine h.stA 4 λw h=>?_|refine h.stA 5 λw h=>?_|refine h.stA 6 λw h=>?_|refine h.bx λb0 w h=>?_)
   rw[hd] at h
   exact g _ h
  ·rw[if_neg hc] at g
   refine af ?_ (g _ h)
   have:=mW c 32
   rw[show ((32:UInt8).toNat:Int)=32 from rfl] at this
   rw[this]
   simpa using hc
 ·rw[if_neg hs] at g
  refine af (by simpa using hs) ?_
  repeat (first|refine aa ?_|refine h.tk λw h=>?_|refine⟨_,h.ldA,?_⟩|refine⟨_,_,_,h.ldA,?_⟩)
  have E:i64.wrap ((l.i:Int)+1)=((l.i+1:Nat):Int):=aN (by omega)
  by_cases hi:l.i<l.text.length
  ·rw[lI0 hi] at g
   refine ag (by simpa using hi) ?_
   repeat (first|refine aa ?_|refine h.tk λw h=>?_|refine⟨_,h.ldA,?_⟩|refine⟨_,_,_,h.ldA,?_⟩)
   refine⟨by omega,by simpa using hi,?_⟩
   rw[dh hi c _ rfl]
   by_cases hc:l.text[l.i]=c
   ·rw[if_pos (by rw[hc])] at g
    refine ag (by simpa using hc) ?_
    repeat (first|refine aa ?_|refine h.tk λw h=>?_|refine⟨_,h.ldA,?_⟩|refine⟨_,_,_,h.ldA,?_⟩|refine h.stA 0 λw h=>?_|refine h.stA 1 λw h=>?_|refine h.stA 2 λw h=>?_|refine h.stA 3 λw h=>?_|refine h.stA 4 λw h=>?_|refine h.stA 5 λw h=>?_|refine h.stA 6 λw h=>?_|refine h.bx λb0 w h=>?_)
    rw[E] at h
    exact g _ h
   ·rw[if_neg (by simpa using hc)] at g
    exact af (by simpa using hc) (g _ h)
  ·rw[lT1 (by omega),if_neg (by simp)] at g
   exact af (by simpa using hi) (af rfl (g _ h))
def Ln.skip (l:Ln):Ln:= {l with sp:=0,i:=l.text.length - ((l.text.drop l.i).dropWhile cO).length}
theorem Ln.skip_ok {l:Ln}(g:l.ok):l.skip.ok:=by
 have I:=g.i;have E:=g.tab
 have y:=(lO2 cO (l:=l.text.drop l.i)).length_le
 rw[lM1] at y
 exact⟨by simp only[Ln.skip];omega,by simp only[Ln.skip];omega,g.len,by simp[Ln.skip]⟩
theorem rh {b:Nat}{l:Ln}(h:Sat σ w (l.at b::L))(W:l.ok)(a6: ∀w,Sat σ w (l.skip.at b::L)->R (hQ (.tuple #[])) w):
 callE P iD #[kT (kE b)] R w:=by
 refine dK.sound ?_
 repeat (first|refine aa ?_|refine h.tk λw h=>?_|refine⟨_,h.ldA,?_⟩|refine⟨_,_,_,h.ldA,?_⟩|refine h.stA 0 λw h=>?_|refine h.stA 1 λw h=>?_|refine h.stA 2 λw h=>?_|refine h.stA 3 λw h=>?_|refine h.stA 4 λw h=>?_|refine h.stA 5 λw h=>?_|refine h.stA 6 λw h=>?_|refine h.bx λb0 w h=>?_)
 intro X V
 have b5:=W.i;have b6:=W.len
 refine D0 (l:=l.text) (p:=cO) (X:=λi=> ∀w,Sat σ w (Ln.at b {l with sp:=0,i:=i}::L)->X (kE b) w) (λi hi y a7 w h=>V _ _ ?_) l.i b5 (λi hi b3 b4 w h=>V _ _ ?_) _ h
 ·repeat (first|refine aa ?_|refine h.tk λw h=>?_|refine⟨_,h.ldA,?_⟩|refine⟨_,_,_,h.ldA,?_⟩)
  refine ag (by simpa using hi) ?_
  repeat (first|refine aa ?_|refine h.tk λw h=>?_|refine⟨_,h.ldA,?_⟩|refine⟨_,_,_,h.ldA,?_⟩)
  refine⟨by omega,by simpa using hi,?_⟩
  have U:i64.wrap ((i:Int)+1)=((i+1:Nat):Int):=aN (by omega)
  rw[dh hi 32 32 rfl]
  by_cases hc:l.text[i]=32
  ·refine ag (by simpa using hc) ?_
   repeat (first|refine aa ?_|refine h.tk λw h=>?_|refine⟨_,h.ldA,?_⟩|refine⟨_,_,_,h.ldA,?_⟩|refine h.stA 0 λw h=>?_|refine h.stA 1 λw h=>?_|refine h.stA 2 λw h=>?_|refine h.stA 3 λw h=>?_|refine h.stA 4 λw h=>?_|refine h.stA 5 λw h=>?_|refine h.stA 6 λw h=>?_|refine h.bx λb0 w h=>?_)
   rw[U] at h
   exact a7 _ h
  ·refine af (by simpa using hc) ?_
   repeat (first|refine aa ?_|refine h.tk λw h=>?_|refine⟨_,h.ldA,?_⟩|refine⟨_,_,_,h.ldA,?_⟩)
   refine⟨by omega,by simpa using hi,?_⟩
   rw[dh hi 9 9 rfl]
   refine ag (by simpa[cO,hc] using y) ?_
   repeat (first|refine aa ?_|refine h.tk λw h=>?_|refine⟨_,h.ldA,?_⟩|refine⟨_,_,_,h.ldA,?_⟩|refine h.stA 0 λw h=>?_|refine h.stA 1 λw h=>?_|refine h.stA 2 λw h=>?_|refine h.stA 3 λw h=>?_|refine h.stA 4 λw h=>?_|refine h.stA 5 λw h=>?_|refine h.stA 6 λw h=>?_|refine h.bx λb0 w h=>?_)
   rw[U] at h
   exact a7 _ h
 ·have O:l.skip= {l with sp:=0,i:=i}:=by
   simp only[Ln.skip,<-b4,lM1]
   congr 1
   omega
  rw[<-O] at h
  have E:l.skip.i=i:=by rw[O]
  have I:l.skip.text=l.text:=rfl
  repeat (first|refine aa ?_|refine h.tk λw h=>?_|refine⟨_,h.ldA,?_⟩|refine⟨_,_,_,h.ldA,?_⟩)
  rw[E,I]
  by_cases g:i<l.text.length
  ·have y:=b3 g
   simp only[cO,lK2,beq_eq_false_iff_ne] at y
   refine ag (by simpa using g) ?_
   repeat (first|refine aa ?_|refine h.tk λw h=>?_|refine⟨_,h.ldA,?_⟩|refine⟨_,_,_,h.ldA,?_⟩)
   rw[E,I]
   refine⟨by omega,by simpa using g,?_⟩
   rw[dh g 32 32 rfl]
   refine af (by simpa using y.1) ?_
   repeat (first|refine aa ?_|refine h.tk λw h=>?_|refine⟨_,h.ldA,?_⟩|refine⟨_,_,_,h.ldA,?_⟩)
   rw[E,I]
   refine⟨by omega,by simpa using g,?_⟩
   rw[dh g 9 9 rfl]
   exact af (by simpa using y.2) (a6 _ h)
  ·exact af (by simpa using g) (a6 _ h)
def Ln.str (l:Ln):List UInt8:=hN l.sp 32++l.text.drop l.i
theorem px {b:Nat}{l:Ln}(h:Sat σ w L)(a7:l.at b∈L)(I:l.ok)(O: ∀w,Sat σ w L->R (hQ (hX (bs l.str))) w):
 callE P gV #[kT (kE b)] R w:=by
 refine mA.sound ?_
 have a6:=I.i;have W:=I.sp;have b3:=I.len
 have E: ∀(k:Nat) (pre:ByteArray),l.sp=k->pre=bs (hN k 32)->(∀w,Sat σ w L->R (hQ (hX (pre++(bs l.text).extract l.i l.text.length))) w):=by
  intro k pre V U w h
  rw[U,nP,bM,<-V]
  exact O w h
 have y:i64.max=9223372036854775807:=rfl
 repeat (first|refine aa ?_|refine h.tk λw h=>?_|refine⟨_,h.ldA,?_⟩|refine⟨_,_,_,h.ldA,?_⟩)
 have g:l.sp=0\/l.sp=1\/l.sp=2\/l.sp=3:=by omega
 rcases g with g|g|g|g
 ·refine ag (by rw[g];rfl) ?_
  repeat (first|refine aa ?_|refine h.tk λw h=>?_|refine⟨_,h.ldA,?_⟩|refine⟨_,_,_,h.ldA,?_⟩)
  refine⟨by omega,by simp;omega,?_⟩
  rw[aJ,lC0,nP]
  have:=O _ h
  rw[Ln.str,g] at this
  exact this
 ·refine af (by rw[g];rfl) (ag (by rw[g];rfl) ?_)
  repeat (first|refine aa ?_|refine h.tk λw h=>?_|refine⟨_,h.ldA,?_⟩|refine⟨_,_,_,h.ldA,?_⟩)
  refine⟨by omega,by simp;omega,?_,?_⟩
  ·rw[y,aJ,lC0,nP,aJ,lM1]
   show ((1+(l.text.length - l.i):Nat):Int)<=_
   omega
  ·rw[aJ,lC0];exact E 1 _ g rfl _ h
 ·refine af (by rw[g];rfl) (af (by rw[g];rfl) (ag (by rw[g];rfl) ?_))
  repeat (first|refine aa ?_|refine h.tk λw h=>?_|refine⟨_,h.ldA,?_⟩|refine⟨_,_,_,h.ldA,?_⟩)
  refine⟨by omega,by simp;omega,?_,?_⟩
  ·rw[y,aJ,lC0,nP,aJ,lM1]
   show ((2+(l.text.length - l.i):Nat):Int)<=_
   omega
  ·rw[aJ,lC0];exact E 2 _ g rfl _ h
 ·refine af (by rw[g];rfl) (af (by rw[g];rfl) (af (by rw[g];rfl) (ag (by rw[g];rfl) ?_)))
  repeat (first|refine aa ?_|refine h.tk λw h=>?_|refine⟨_,h.ldA,?_⟩|refine⟨_,_,_,h.ldA,?_⟩)
  refine⟨by omega,by simp;omega,?_,?_⟩
  ·rw[y,aJ,lC0,nP,aJ,lM1]
   show ((3+(l.text.length - l.i):Nat):Int)<=_
   omega
  ·rw[aJ,lC0];exact E 3 _ g rfl _ h
theorem kV {b:Nat}{l:Ln}(h:Sat σ w L)(E:l.at b∈L)(g:l.ok)(y: ∀w,Sat σ w L->R (hQ (hX (bs ((l.text.drop l.i).dropWhile cO)))) w):
 callE P gi #[kT (kE b)] R w:=by
 refine gm.sound ?_
 repeat (first|refine aa ?_|refine h.tk λw h=>?_|refine⟨_,h.ldA,?_⟩|refine⟨_,_,_,h.ldA,?_⟩)
 have:=g.i
 refine⟨by omega,by simp;omega,?_⟩
 rw[aJ,lC0,nP]
 exact ku (by simp;have:=g.len;omega) ⟨_,rfl,y _ h⟩
theorem uY {b:Nat}{l:Ln}(h:Sat σ w L)(E:l.at b∈L)(g:l.ok)(y: ∀w,Sat σ w L->R (hQ (hX (bs (gw cO (l.text.drop l.i))))) w):
 callE P jB #[kT (kE b)] R w:=by
 refine jH.sound ?_
 repeat (first|refine aa ?_|refine h.tk λw h=>?_|refine⟨_,h.ldA,?_⟩|refine⟨_,_,_,h.ldA,?_⟩)
 have:=g.i
 refine⟨by omega,by simp;omega,?_⟩
 rw[aJ,lC0,nP]
 exact kt (by simp;have:=g.len;omega) ⟨_,rfl,y _ h⟩

structure BT where
 l:List Int
 sc:Bool
 ok:l.length=80
def BT.cells (t:BT):List Value:=t.l.map (λn=>hY n)++ [hV t.sc]
def BT.z:BT:=⟨hN 80 0,false,rfl⟩
structure PS where
 pz:Option Addr
 root:Option Addr
 links:Option Nat
 lineno:Nat
 stq:Option Addr
 stn:Nat
 stc:Nat
 depth:Int
 corner:Bool
 s:List UInt8
 em:Int
 lq:Option Addr
 ln:Nat
 lc:Nat
 Lq:Option Addr
 Ln:Nat
 Lc:Nat
 tq:Option Addr
 tn:Nat
 tc:Nat
 bt:BT
def PS.cells (p:PS):List Value:=
 kT p.pz:: kT p.root:: .map p.links:: hY p.lineno:: hT p.stq p.stn p.stc:: hY p.depth:: hV p.corner:: hX (bs p.s):: hY p.em::
  hT p.lq p.ln p.lc:: hT p.Lq p.Ln p.Lc:: hT p.tq p.tn p.tc::p.bt.cells
abbrev PS.at (b:Nat)(p:PS):ai:=(b,cel p.cells gO)
structure OB where
 bd:Value
 q:Option Addr
 n:Nat
 c:Nat
 s:Nat
 e:Nat
def OB.cells (o:OB):List Value:= [o.bd,hT o.q o.n o.c,hY o.s,hY o.e]
def aP (l:List OB):List Value:=l.flatMap OB.cells
theorem aR: ∀l:List OB,(aP l).length=l.length*4
 | []=>rfl
 |o::l=>by simp only[aP,lJ3,lA0,lF0] at*;rw[show (List.flatMap OB.cells l).length=l.length*4 from aR l];simp[OB.cells];omega
theorem sJ {f:Nat}(g:f<4): ∀(l:List OB) (j:Nat) (o:OB),l[j]? =some o->(aP l)[j*4+f]? =o.cells[f]?
 | [],j,o,h=>by simp at h
 |o'::l,0,o,h=>by
  simp only[lS5,lG1] at h
  subst h
  simp only[aP,lJ3,lO6,lO0]
  rw[lM0 (by simp[OB.cells];omega)]
 |o'::l,j+1,o,h=>by
  simp only[lY2] at h
  simp only[aP,lJ3]
  rw[lH0 (by simp[OB.cells];omega)]
  have:=sJ g l j o h
  rw[<-this]
  congr 1
  simp[OB.cells]
  omega
def Stk (p:PS)(l:List OB)(M:List ai):Prop:=Sl 4 ay p.stq p.stn p.stc (aP l) M/\p.stn=l.length/\l.length<1048576
theorem Stk.split {p:PS}{l:List OB}{M:List ai}(h:Stk p l M)(O:l≠ []): ∃b sp,p.stq=kE b/\M= [(b,cel (aP l++sp) ay)]/\(aP l++sp).length=p.stc*4:=by
 obtain⟨⟨_,_,h|⟨b,sp,E,I,y⟩⟩,g,_⟩:=h
 ·obtain⟨_,h,_⟩:=h
  rw[h] at g
  exact absurd (lB1 g.symm) O
 ·exact⟨b,sp,E,I,y⟩
theorem Stk.mk' {p:PS}{l:List OB}{b:Nat}{sp:List Value}(I:p.stq=kE b)(y:(aP l++sp).length=p.stc*4)(g:p.stn=l.length)(E:l.length<1048576):
 Stk p l [(b,cel (aP l++sp) ay)]:=by
 refine⟨⟨by rw[aR,g],?_,.inr ⟨b,sp,I,rfl,y⟩⟩,g,E⟩
 rw[lA0,aR] at y
 omega
theorem fu {l:List OB}{sp:List Value}{j f:Nat}{o:OB}(y:f<4)(g:l[j]? =some o):(aP l++sp)[j*4+f]? =o.cells[f]? :=by
 have E:=(lL0.1 g).1
 rw[lM0 (by rw[aR];omega),sJ y l j o g]
theorem iC {l:List OB}(o:OB):(l++ [o])[l.length]? =some o:=by simp
theorem kD {n:Nat}(h:n<1048576):i64.wrap (((n+1:Nat):Int) - 1)=(n:Int):=by
 rw[i64_in _ (by omega)];omega
theorem nQ {b:Nat}{p:PS}{l:List OB}{o:OB}{M:List ai}(h:Sat σ w (p.at b::M++L))(hs:Stk p (l++ [o]) M)(E: ∀w,Sat σ w (p.at b::M++L)->R (hQ (hT o.q o.n o.c)) w):callE P iM #[kT (kE b)] R w:=by
 obtain⟨sb,sp,I,rfl,O⟩:=hs.split (by simp)
 have g:=hs.2.1
 have y:=hs.2.2
 rw[lA0,lE0] at g y
 refine iY.sound ?_
 repeat (first|refine aa ?_|refine h.tk λw h=>?_|refine⟨_,h.ldA,?_⟩|refine⟨_,_,_,h.ldA,?_⟩)
 rw[g,kD (by omega)]
 refine⟨by omega,by omega,?_⟩
 rw[I]
 refine aa ?_
 simp only[lK0,lO0,lC0]
 exact⟨_,_,_,Sat.ld h (by first|assumption|(repeat (first|exact .head _|apply List.Mem.tail))) (fu (f:=1) (by decide) (iC o)),E _ h⟩
theorem oJ {b:Nat}{p:PS}{d:Int}(h:Sat σ w (p.at b::L))(hd:(p.stn:Int)=d)(y: ∀w,Sat σ w (p.at b::L)->R (hQ (.tuple #[])) w):
 callE P bj #[kT (kE b),hY d] R w:=by
 refine aH.sound ?_
 repeat (first|refine aa ?_|refine h.tk λw h=>?_|refine⟨_,h.ldA,?_⟩|refine⟨_,_,_,h.ldA,?_⟩)
 refine af (by simp;omega) ?_
 intro X g
 refine g _ _ _ ?_
 repeat (first|refine aa ?_|refine h.tk λw h=>?_|refine⟨_,h.ldA,?_⟩|refine⟨_,_,_,h.ldA,?_⟩)
 exact af (by simp;omega) (y _ h)
noncomputable def rowOB:Row P f8 ay 4 56:=
 ⟨(P.info? ay).getD default,((P.info? ay).bind (·.zero)).getD default,by kernel_rfl,by kernel_rfl,by kernel_rfl,by kernel_rfl,by kernel_rfl,by kernel_rfl,by decide⟩
theorem i9 (l:List OB)(o:OB):aP (l++ [o])=aP l++o.cells:=by simp[aP]
theorem lC {l:List OB}{sp:List Value}{o o':OB}{f:Nat}{v:Value}(y:f<4)(g:o.cells.set f v=o'.cells):
 (aP (l++ [o])++sp).set (l.length*4+f) v=aP (l++ [o'])++sp:=by
 rw[i9,i9,lD0,lD0,lP1 _ _ (by rw[aR];omega),aR,
  show l.length*4+f - l.length*4=f by omega,lV4 _ _ (by simp[OB.cells];omega),g]
theorem oL {t xt:TypeId}{v:Value}(g: ∀y,P.underlying t≠some (.interface y)){d:TypeDesc}(hd:P.underlying t=some d)(w:World):
 (Instr.typeAssert (.iface t v) xt t true).run P w= .ok (.tuple #[v,hV true]) w:=by
 cases d<;>first|(exact absurd hd (g _))|simp[Instr.typeAssert,run_underlying hd]
theorem u5 {t a xt:TypeId}{v:Value}(y: ∀E,P.underlying a≠some (.interface E)){d:TypeDesc}(hd:P.underlying a=some d)(g:t≠a){i:TypeInfo}{z:Value}(hi:P.info? a=some i)(hz:i.zero=some z)(w:World):
 (Instr.typeAssert (.iface t v) xt a true).run P w= .ok (.tuple #[z,hV false]) w:=by
 cases d<;>first|(exact absurd hd (y _))|simp[Instr.typeAssert,run_underlying hd,g,zeroValue,typeInfo,hi,hz]

theorem pm {b:Nat}{p:PS}{l:List OB}{M:List ai}{t:TypeId}{v:Value}(h:Sat σ w (p.at b::M++L))(hs:Stk p l M)(hd:p.depth+1=l.length)(b4:l.length<1048575)(a7: ∀w p' g,p'= {p with stq:=p'.stq,stn:=l.length+1,stc:=p'.stc}->Stk p' (l++ [⟨.iface t v,none,0,0,p.lineno,p.lineno⟩]) g->Sat σ w (p'.at b::g++L)->R (hQ (.tuple #[])) w):
 callE P bQ #[kT (kE b),.iface t v] R w:=by
 have I:=hs.2.1
 refine eU.sound ?_
 repeat (first|refine aa ?_|refine h.tk λw h=>?_|refine⟨_,h.ldA,?_⟩|refine⟨_,_,_,h.ldA,?_⟩)
 rw[show i64.wrap (p.depth+1)=p.depth+1 by rw[hd];exact i64_in _ (by omega)]
 refine oJ h (by rw[hd,I]) λw h=>⟨rfl,?_⟩
 repeat (first|refine aa ?_|refine h.tk λw h=>?_|refine⟨_,h.ldA,?_⟩|refine⟨_,_,_,h.ldA,?_⟩)
 have h:Sat σ w (M++(p.at b::L)):=h.re
 refine Sat.app1 rowOB hs.1 h (v:= .agg #[.nilIface,hT none 0 0,hY 0,hY 0]) rfl (by decide) (by kernel_rfl) (by omega) (by omega) (by decide) λW a6 w g E h=>?_
 have h:Sat σ w (p.at b::g++L):=h.re
 let p':PS:= {p with stq:=W,stn:=l.length+1,stc:=a6}
 rw[I] at E⊢
 (first|refine aa ?_|refine h.tk λw h=>?_|refine⟨_,h.ldA,?_⟩|refine⟨_,_,_,h.ldA,?_⟩|refine h.stA 0 λw h=>?_|refine h.stA 1 λw h=>?_|refine h.stA 2 λw h=>?_|refine h.stA 3 λw h=>?_|refine h.stA 4 λw h=>?_|refine h.stA 5 λw h=>?_|refine h.stA 6 λw h=>?_|refine h.bx λb0 w h=>?_)
 (first|refine aa ?_|refine h.tk λw h=>?_|refine⟨_,h.ldA,?_⟩|refine⟨_,_,_,h.ldA,?_⟩|refine h.stA 0 λw h=>?_|refine h.stA 1 λw h=>?_|refine h.stA 2 λw h=>?_|refine h.stA 3 λw h=>?_|refine h.stA 4 λw h=>?_|refine h.stA 5 λw h=>?_|refine h.stA 6 λw h=>?_|refine h.bx λb0 w h=>?_)
 have h:Sat σ w (p'.at b::g++L):=h
 have U:Stk p' (l++ [⟨.nilIface,none,0,0,0,0⟩]) g:=by
  refine⟨?_,by simp[p'],by simp;omega⟩
  rw[i9]
  exact E
 obtain⟨sb,sp,O,rfl,V⟩:=U.split (by simp)
 repeat (first|refine aa ?_|refine h.tk λw h=>?_|refine⟨_,h.ldA,?_⟩|refine⟨_,_,_,h.ldA,?_⟩)
 rw[show p'.stn=l.length+1 from rfl,kD (by omega)]
 refine⟨by omega,by omega,?_⟩
 rw[O]
 refine aa ?_
 dsimp only[Dg]
 simp only[lK0,lO0,lC0,lN1]
 have y: ∀(o:OB) (sp:List Value) f,f<4->l.length*4+f<(aP (l++ [o])++sp).length:=by
  intro o sp f b3
  rw[lA0,aR,lA0,lE0];omega
 refine Sat.st h (k:=1) rfl (by have:=y ⟨.nilIface,none,0,0,0,0⟩ sp 0 (by decide);simpa using this) trivial rfl λw h=>?_
 have h:Sat σ w (p'.at b:: [(sb,cel (aP (l++ [⟨.iface t v,none,0,0,0,0⟩])++sp) ay)]++L):=by
  have e:=lC (l:=l) (sp:=sp) (o:=⟨.nilIface,none,0,0,0,0⟩) (o':=⟨.iface t v,none,0,0,0,0⟩) (f:=0) (v:= .iface t v) (by decide) rfl
  rw[lN1] at e
  rw[e] at h
  exact h
 repeat (first|refine aa ?_|refine h.tk λw h=>?_|refine⟨_,h.ldA,?_⟩|refine⟨_,_,_,h.ldA,?_⟩)
 refine Sat.st h (k:=1) rfl (y _ sp 2 (by decide)) trivial rfl λw h=>?_
 have h:Sat σ w (p'.at b:: [(sb,cel (aP (l++ [⟨.iface t v,none,0,0,p.lineno,0⟩])++sp) ay)]++L):=by
  have e:=lC (l:=l) (sp:=sp) (o:=⟨.iface t v,none,0,0,0,0⟩) (o':=⟨.iface t v,none,0,0,p.lineno,0⟩) (f:=2) (v:= hY p.lineno) (by decide) rfl
  have h:=h
  rw[e] at h
  exact h
 repeat (first|refine aa ?_|refine h.tk λw h=>?_|refine⟨_,h.ldA,?_⟩|refine⟨_,_,_,h.ldA,?_⟩)
 refine Sat.st h (k:=1) rfl (y _ sp 3 (by decide)) trivial rfl λw h=>?_
 have h:Sat σ w (p'.at b:: [(sb,cel (aP (l++ [⟨.iface t v,none,0,0,p.lineno,p.lineno⟩])++sp) ay)]++L):=by
  have e:=lC (l:=l) (sp:=sp) (o:=⟨.iface t v,none,0,0,p.lineno,0⟩) (o':=⟨.iface t v,none,0,0,p.lineno,p.lineno⟩) (f:=3) (v:= hY p.lineno) (by decide) rfl
  have h:=h
  rw[e] at h
  exact h
 refine a7 _ p' _ rfl ?_ h
 refine Stk.mk' O ?_ (by simp[p']) (by simp;omega)
 rw[<-V,lA0,lA0,aR,aR,lA0,lA0]
 rfl

theorem Ln.tsGo_ok {min:Nat}{eol:Bool}: ∀(k n:Nat) {l g:Ln},l.ok->l.tsGo min eol k n=some g->g.ok/\g.text=l.text/\g.nl=l.nl
 |0,n,l,g,hl,h=>by simp only[Ln.tsGo,lG1] at h;subst h;exact⟨hl,rfl,rfl⟩
 |k+1,n,l,g,hl,h=>by
  have I:=hl.i;have O:=hl.tab;have E:=hl.sp
  simp only[Ln.tsGo] at h
  split at h
  ·exact tsGo_ok k _ (l:= {l with sp:=l.sp - 1}) ⟨I,O,hl.len,by simp;omega⟩ h
  ·split at h
   ·exact tsGo_ok k _ hl h
   ·split at h
    ·rename_i y
     have:=(lL0.1 y).1
     exact tsGo_ok k _ (l:= {l with sp:=3 - (l.i - l.tab)%4,i:=l.i+1,tab:=l.i+1}) ⟨by simp;omega,by simp,hl.len,by simp⟩ h
    ·split at h
     ·rename_i y
      have:=(lL0.1 y).1
      exact tsGo_ok k _ (l:= {l with i:=l.i+1}) ⟨by simp;omega,by simp;omega,hl.len,E⟩ h
     ·split at h
      ·cases h;exact⟨hl,rfl,rfl⟩
      ·cases h
theorem Ln.tsGo_some {eol:Bool}: ∀(k n:Nat) (l:Ln),∃g,l.tsGo 0 eol k n=some g
 |0,n,l=>⟨l,rfl⟩
 |k+1,n,l=>by
  simp only[Ln.tsGo]
  split
  ·exact tsGo_some k _ _
  ·split
   ·exact tsGo_some k _ _
   ·split
    ·exact tsGo_some k _ _
    ·split
     ·exact tsGo_some k _ _
     ·exact⟨l,by simp⟩
theorem Ln.trimSp_ok {min max:Nat}{eol:Bool}{l g:Ln}(y:l.ok)(h:l.trimSp min max eol=some g):g.ok:=(Ln.tsGo_ok max 0 y h).1
def Ln.lead (m:Nat)(eol:Bool)(l:Ln):Ln:=(l.trimSp 0 m eol).getD l
theorem Ln.lead_eq (m:Nat)(eol:Bool)(l:Ln):l.trimSp 0 m eol=some (l.lead m eol):=by
 obtain⟨g,h⟩:=Ln.tsGo_some (eol:=eol) m 0 l
 rw[Ln.lead,Ln.trimSp,h];rfl
theorem Ln.lead_ok {m:Nat}{eol:Bool}{l:Ln}(g:l.ok):(l.lead m eol).ok:=Ln.trimSp_ok g (l.lead_eq m eol)
theorem lead_ok {b:Nat}{l:Ln}{max:Nat}{eol:Bool}(h:Sat σ w (l.at b::L))(E:l.ok)(g:max<4611686018427387904)(y: ∀w,Sat σ w ((l.lead max eol).at b::L)->R (hQ (hV true)) w):
 callE P bl #[kT (kE b),hY 0,hY max,hV eol] R w:=by
 refine YtendaipfdnhnaaaGreatDoor.trimSp_ok (min:=0) h E (by omega) g ?_
 rw[Ln.lead_eq]
 exact y
abbrev Ln.val (l:Ln):Value:= .agg #[hY l.sp,hY l.i,hY l.tab,hX (bs l.text),.int .u8 l.nl.toNat]
def Ln.quote (l:Ln):Option Ln:=((l.lead 3 false).trimC 62).map λt=>t.lead 1 true
theorem nf {l:Ln}(h:Sat σ w L)(y:l.ok)(g:match l.quote with
  |some O=> ∀w,Sat σ w L->R (hQ (.tuple #[O.val,hV true])) w
  |none=> ∀w,Sat σ w L->R (hQ (.tuple #[l.val,hV false])) w):callE P mr #[l.val] R w:=by
 refine pa.sound ?_
 refine Sat.bx h λb1 w h=>?_
 refine Sat.bx h λI w h=>?_
 repeat (first|refine aa ?_|refine h.tk λw h=>?_|refine⟨_,h.ldA,?_⟩|refine⟨_,_,_,h.ldA,?_⟩|refine h.stA 0 λw h=>?_|refine h.stA 1 λw h=>?_|refine h.stA 2 λw h=>?_|refine h.stA 3 λw h=>?_|refine h.stA 4 λw h=>?_|refine h.stA 5 λw h=>?_|refine h.stA 6 λw h=>?_|refine h.bx λb0 w h=>?_)
 have h:Sat σ _ (l.at b0::(I,cel [hY 0,hY 0,hY 0,hX (bs []),.int .u8 0] aW)::l.at b1::L):=h
 refine lead_ok (max:=3) h y (by decide) λw h=>⟨_,rfl,?_⟩
 refine trimC_ok (c:=62) rfl h (Ln.lead_ok y) ?_
 simp only[Ln.quote] at g
 cases E:(l.lead 3 false).trimC 62 with
 |none=>
  rw[E] at g
  intro w h
  refine⟨_,rfl,ag rfl ?_⟩
  repeat (first|refine aa ?_|refine h.tk λw h=>?_|refine⟨_,h.ldA,?_⟩|refine⟨_,_,_,h.ldA,?_⟩|refine h.stA 0 λw h=>?_|refine h.stA 1 λw h=>?_|refine h.stA 2 λw h=>?_|refine h.stA 3 λw h=>?_|refine h.stA 4 λw h=>?_|refine h.stA 5 λw h=>?_|refine h.stA 6 λw h=>?_|refine h.bx λb0 w h=>?_)
  exact g _ h.tail.tail.tail
 |some t=>
  rw[E] at g
  intro w h
  refine⟨_,rfl,af rfl ?_⟩
  refine lead_ok (max:=1) h (Ln.trimC_ok (Ln.lead_ok y) E) (by decide) λw h=>⟨_,rfl,?_⟩
  repeat (first|refine aa ?_|refine h.tk λw h=>?_|refine⟨_,h.ldA,?_⟩|refine⟨_,_,_,h.ldA,?_⟩|refine h.stA 0 λw h=>?_|refine h.stA 1 λw h=>?_|refine h.stA 2 λw h=>?_|refine h.stA 3 λw h=>?_|refine h.stA 4 λw h=>?_|refine h.stA 5 λw h=>?_|refine h.stA 6 λw h=>?_|refine h.bx λb0 w h=>?_)
  exact g _ h.tail.tail.tail

theorem u8b (c d:UInt8)(n:Int)(hd:(d.toNat:Int)=n):(((c.toNat:Nat):Int)==n)=(c==d):=by subst hd;exact mW c d
def Ln.hrGo (c:UInt8):Nat->Nat->Ln->Bool
 |0,_,_=>false
 |f+1,n,l=>match l.trimC c with
  |none=>decide (3<=n) && decide (l.text.length<=l.i)
  |some g=>g.skip.hrGo c f (n+1)
def Ln.isHR (l:Ln):Bool:=
 let t:=l.lead 3 false
 if t.peek=45\/t.peek=95\/t.peek=42 then t.hrGo t.peek (t.text.length+1) 0 else false
theorem Ln.skip_ge {l:Ln}(y:l.ok):l.i<=l.skip.i:=by
 have E:=y.i
 have g:=(lO2 cO (l:=l.text.drop l.i)).length_le
 rw[lM1] at g
 simp only[Ln.skip];omega
theorem CG {l:Ln}(h:Sat σ w L)(W:l.ok)(y: ∀w,Sat σ w L->R (hQ (hV l.isHR)) w):callE P CN #[l.val] R w:=by
 refine mL.sound ?_
 refine Sat.bx h λb1 w h=>?_
 repeat (first|refine aa ?_|refine h.tk λw h=>?_|refine⟨_,h.ldA,?_⟩|refine⟨_,_,_,h.ldA,?_⟩|refine h.stA 0 λw h=>?_|refine h.stA 1 λw h=>?_|refine h.stA 2 λw h=>?_|refine h.stA 3 λw h=>?_|refine h.stA 4 λw h=>?_|refine h.stA 5 λw h=>?_|refine h.stA 6 λw h=>?_|refine h.bx λb0 w h=>?_)
 have h:Sat σ _ (l.at b0::l.at b1::L):=h
 refine lead_ok (max:=3) h W (by decide) λw h=>⟨_,rfl,?_⟩
 have ht:=Ln.lead_ok (m:=3) (eol:=false) W
 refine mi h (by first|assumption|(repeat (first|exact .head _|apply List.Mem.tail))) ht λw h=>⟨_,rfl,?_⟩
 generalize b4:l.lead 3 false=t at*
 have hi:l.isHR=if t.peek=45\/t.peek=95\/t.peek=42 then t.hrGo t.peek (t.text.length+1) 0 else false:=by simp only[Ln.isHR,b4]
 have a6: ∀(c:UInt8),c≠32-> ∀f n (t:Ln) w,t.ok->t.text.length - t.i<f->n<=t.i->Sat σ w (t.at b0::l.at b1::L)->(∀w,Sat σ w L->R (hQ (hV (t.hrGo c f n))) w)->
  mL.l1 R b0 c.toNat n w:=by
  intro c hc f n t w ht c2 b9 h y X b5
  induction f generalizing n t w with
  |zero=>omega
  |succ f b6=>
   refine b5 _ _ _ _ ?_
   refine trimC_ok (c:=c) rfl h ht ?_
   simp only[Ln.hrGo] at y
   have c1:=ht.i;have b8:=ht.len
   cases E:t.trimC c with
   |none=>
    rw[E] at y
    intro w h
    refine⟨_,rfl,ag rfl ?_⟩
    refine bp (λO=>?_) (λO=>?_)
    ·refine Fu h (by first|assumption|(repeat (first|exact .head _|apply List.Mem.tail))) λw h=>⟨_,rfl,?_⟩
     have:=y _ h.tail.tail
     rw[show decide (3<=n)=true by simp at O⊢;omega,lP5] at this
     exact this
    ·have:=y _ h.tail.tail
     rw[show decide (3<=n)=false by simp at O⊢;omega,Bool.false_and] at this
     exact this
   |some t'=>
    rw[E] at y
    intro w h
    refine⟨_,rfl,af rfl ?_⟩
    have I:=Ln.trimC_ok ht E
    refine rh h I λw h=>⟨rfl,?_⟩
    have hd:t'.i=t.i+1/\t'.text=t.text:=by
     simp only[Ln.trimC,hc,if_false] at E
     split at E
     ·cases E
     ·split at E
      ·cases E;exact⟨rfl,rfl⟩
      ·cases E
    have b7:=Ln.skip_ge I
    have b3:t'.skip.text=t.text:=hd.2
    rw[aN (by omega)]
    have a7:=I.i
    rw[hd.2] at a7
    exact b6 (n+1) t'.skip _ (Ln.skip_ok I) (by rw[b3];omega) (by omega) h y
 have fin:(t.peek=45\/t.peek=95\/t.peek=42)->Sat σ w (t.at b0::l.at b1::L)->mL.k1 R b0 t.peek.toNat true w:=by
  intro g h
  rw[if_pos g] at hi
  refine ag rfl ?_
  refine a6 t.peek (by rcases g with g|g|g<;>rw[g]<;>decide) (t.text.length+1) 0 t w ht (by omega) (by omega) h (by rw[<-hi];exact y)
 rw[u8b _ 45 45 rfl,u8b _ 95 95 rfl,u8b _ 42 42 rfl]
 refine bp (λg=>fin (.inl (by simpa using g)) h) (λU=>bp (λg=>fin (.inr (.inl (by simpa using g))) h) (λV=>?_))
 by_cases g:t.peek=42
 ·rw[show (t.peek==42)=true by simpa using g]
  exact fin (.inr (.inr g)) h
 ·rw[show (t.peek==42)=false by simpa using g]
  have:=y _ h.tail.tail
  rw[hi,if_neg (by simp at U V;simp[U,V,g])] at this
  exact af rfl this

theorem iI {x:Value}{q:Option Addr}{l:Ln}(h:Sat σ w L)(y:l.ok)(E:l.quote=none)(g: ∀w,Sat σ w L->R (hQ (.tuple #[l.val,hV false])) w):callE P km #[kT q,l.val] R w:=by
 refine ol.sound ?_
 refine Sat.bx h λb1 w h=>?_
 refine Sat.bx h λO w h=>?_
 repeat (first|refine aa ?_|refine h.tk λw h=>?_|refine⟨_,h.ldA,?_⟩|refine⟨_,_,_,h.ldA,?_⟩)
 refine nf (l:=l) h y ?_
 rw[E]
 intro w h
 refine⟨_,_,_,_,_,_,rfl,?_⟩
 refine Sat.bx h λI w h=>?_
 repeat (first|refine aa ?_|refine h.tk λw h=>?_|refine⟨_,h.ldA,?_⟩|refine⟨_,_,_,h.ldA,?_⟩|refine h.stA 0 λw h=>?_|refine h.stA 1 λw h=>?_|refine h.stA 2 λw h=>?_|refine h.stA 3 λw h=>?_|refine h.stA 4 λw h=>?_|refine h.stA 5 λw h=>?_|refine h.stA 6 λw h=>?_|refine h.bx λb0 w h=>?_)
 exact g _ h.tail.tail.tail
theorem rW {q:Option Addr}{l:Ln}(h:Sat σ w L)(E:l.ok)(y:l.isHR=false)(g: ∀w,Sat σ w L->R (hQ (.tuple #[l.val,hV false])) w):callE P qD #[kT q,l.val] R w:=by
 refine vF.sound ?_
 refine Sat.bx h λb1 w h=>?_
 refine Sat.bx h λI w h=>?_
 repeat (first|refine aa ?_|refine h.tk λw h=>?_|refine⟨_,h.ldA,?_⟩|refine⟨_,_,_,h.ldA,?_⟩)
 refine CG (l:=l) h E λw h=>⟨_,rfl,?_⟩
 rw[y]
 repeat (first|refine aa ?_|refine h.tk λw h=>?_|refine⟨_,h.ldA,?_⟩|refine⟨_,_,_,h.ldA,?_⟩|refine h.stA 0 λw h=>?_|refine h.stA 1 λw h=>?_|refine h.stA 2 λw h=>?_|refine h.stA 3 λw h=>?_|refine h.stA 4 λw h=>?_|refine h.stA 5 λw h=>?_|refine h.stA 6 λw h=>?_|refine h.bx λb0 w h=>?_)
 exact g _ h.tail.tail
def Ln.hashes:Nat->Nat->Ln->Nat × Ln
 |0,n,l=>(n,l)
 |k+1,n,l=>match l.trimC 35 with
  |none=>(n,l)
  |some g=>g.hashes k (n+1)
def Ln.heading (l:Ln):Option (Nat × Ln):=
 match (l.lead 3 false).trimC 35 with
 |none=>none
 |some t=>((t.hashes 5 1).2.trimSp 1 1 true).map λt'=>((t.hashes 5 1).1,t')
theorem oK {b nb:Nat}{l:Ln}{v:Int}{e:TypeId}(h:Sat σ w (l.at b::(nb,cel [hY v] e)::L))(U:l.ok)(g:match l.heading with
  |some (n,E)=> ∀w,Sat σ w (E.at b::(nb,cel [hY n] e)::L)->R (hQ (hV true)) w
  |none=> ∀w,Sat σ w (l.at b::(nb,cel [hY v] e)::L)->R (hQ (hV false)) w):
 callE P jk #[kT (kE b),kT (kE nb)] R w:=by
 refine ct.sound ?_
 repeat (first|refine aa ?_|refine h.tk λw h=>?_|refine⟨_,h.ldA,?_⟩|refine⟨_,_,_,h.ldA,?_⟩|refine h.stA 0 λw h=>?_|refine h.stA 1 λw h=>?_|refine h.stA 2 λw h=>?_|refine h.stA 3 λw h=>?_|refine h.stA 4 λw h=>?_|refine h.stA 5 λw h=>?_|refine h.stA 6 λw h=>?_|refine h.bx λb0 w h=>?_)
 have h:Sat σ _ (l.at b0::l.at b::(nb,cel [hY v] e)::L):=h
 refine lead_ok (max:=3) h U (by decide) λw h=>⟨_,rfl,?_⟩
 have ht:=Ln.lead_ok (m:=3) (eol:=false) U
 refine trimC_ok (c:=35) rfl h ht ?_
 simp only[Ln.heading] at g
 cases y:(l.lead 3 false).trimC 35 with
 |none=>
  rw[y] at g
  exact λw h=>⟨_,rfl,ag rfl (g _ h.tail)⟩
 |some t=>
  rw[y] at g
  intro w h
  refine⟨_,rfl,af rfl ?_⟩
  have ht:=Ln.trimC_ok ht y
  have fin: ∀(n:Nat) (t':Ln) w,t'.ok->Sat σ w (t'.at b0::l.at b::(nb,cel [hY v] e)::L)->
   (match (t'.trimSp 1 1 true).map λt'=>(n,t') with
   |some (n,E)=> ∀w,Sat σ w (E.at b::(nb,cel [hY n] e)::L)->R (hQ (hV true)) w
   |none=> ∀w,Sat σ w (l.at b::(nb,cel [hY v] e)::L)->R (hQ (hV false)) w)->
   ct.k1 R (kE b) (kE nb) b0 n w:=by
   intro n t' w W h g
   refine YtendaipfdnhnaaaGreatDoor.trimSp_ok (min:=1) (max:=1) h W (by decide) (by decide) ?_
   cases hs:t'.trimSp 1 1 true with
   |none=>
    rw[hs] at g
    exact λw h=>⟨_,rfl,ag rfl (g _ h.tail)⟩
   |some O=>
    rw[hs] at g
    intro w h
    refine⟨_,rfl,af rfl ?_⟩
    repeat (first|refine aa ?_|refine h.tk λw h=>?_|refine⟨_,h.ldA,?_⟩|refine⟨_,_,_,h.ldA,?_⟩|refine h.stA 0 λw h=>?_|refine h.stA 1 λw h=>?_|refine h.stA 2 λw h=>?_|refine h.stA 3 λw h=>?_|refine h.stA 4 λw h=>?_|refine h.stA 5 λw h=>?_|refine h.stA 6 λw h=>?_|refine h.bx λb0 w h=>?_)
    have h:Sat σ _ (O.at b0::O.at b::(nb,cel [hY n] e)::L):=h
    exact g _ h.tail
  have V: ∀k n (t:Ln) w,t.ok->k+n=6->Sat σ w (t.at b0::l.at b::(nb,cel [hY v] e)::L)->
   (match ((t.hashes k n).2.trimSp 1 1 true).map λt'=>((t.hashes k n).1,t') with
   |some (n,E)=> ∀w,Sat σ w (E.at b::(nb,cel [hY n] e)::L)->R (hQ (hV true)) w
   |none=> ∀w,Sat σ w (l.at b::(nb,cel [hY v] e)::L)->R (hQ (hV false)) w)->
   ct.l1 R (kE b) (kE nb) b0 n w:=by
   intro k n t w ht a7 h g X I
   induction k generalizing n t w with
   |zero=>exact I _ _ _ _ _ (af (by simp;omega) (fin n t w ht h g))
   |succ k a6=>
    refine I _ _ _ _ _ (ag (by simp;omega) ?_)
    refine trimC_ok (c:=35) rfl h ht ?_
    simp only[Ln.hashes] at g
    cases y:t.trimC 35 with
    |none=>
     rw[y] at g
     exact λw h=>⟨_,rfl,af rfl (fin n t w ht h g)⟩
    |some t'=>
     rw[y] at g
     intro w h
     refine⟨_,rfl,ag rfl ?_⟩
     rw[aN (by omega)]
     exact a6 (n+1) t' w (Ln.trimC_ok ht y) (by omega) h g
  exact V 5 1 t w ht rfl h g
theorem lS {q:Option Addr}{l:Ln}(h:Sat σ w L)(I:l.ok)(O:l.heading=none)(E: ∀w,Sat σ w L->R (hQ (.tuple #[l.val,hV false])) w):callE P fx #[kT q,l.val] R w:=by
 refine cI.sound ?_
 refine Sat.bx h λb1 w h=>?_
 refine Sat.bx h λy w h=>?_
 repeat (first|refine aa ?_|refine h.tk λw h=>?_|refine⟨_,h.ldA,?_⟩|refine⟨_,_,_,h.ldA,?_⟩)
 refine Sat.bx h λg w h=>?_
 repeat (first|refine aa ?_|refine h.tk λw h=>?_|refine⟨_,h.ldA,?_⟩|refine⟨_,_,_,h.ldA,?_⟩|refine h.stA 0 λw h=>?_|refine h.stA 1 λw h=>?_|refine h.stA 2 λw h=>?_|refine h.stA 3 λw h=>?_|refine h.stA 4 λw h=>?_|refine h.stA 5 λw h=>?_|refine h.stA 6 λw h=>?_|refine h.bx λb0 w h=>?_)
 have h:Sat σ _ ((b0,cel [hY 0] ba)::l.at g::(y,cel [hY 0,hY 0,hY 0,hX (bs []),.int .u8 0] aW)::l.at b1::L):=h
 refine oK h.up1 I ?_
 rw[O]
 intro w h
 refine⟨_,rfl,af rfl ?_⟩
 repeat (first|refine aa ?_|refine h.tk λw h=>?_|refine⟨_,h.ldA,?_⟩|refine⟨_,_,_,h.ldA,?_⟩|refine h.stA 0 λw h=>?_|refine h.stA 1 λw h=>?_|refine h.stA 2 λw h=>?_|refine h.stA 3 λw h=>?_|refine h.stA 4 λw h=>?_|refine h.stA 5 λw h=>?_|refine h.stA 6 λw h=>?_|refine h.bx λb0 w h=>?_)
 exact E _ h.tail.tail.tail.tail

theorem ws {b:Nat}{q:Option Addr}{l:Ln}(h:Sat σ w (l.at b::L))(g:l.ok)(y:(l.lead 3 false).peek≠60)(E: ∀w,Sat σ w (l.at b::L)->R (hQ (hV false)) w):callE P gh #[kT q,kT (kE b)] R w:=by
 refine gk.sound ?_
 repeat (first|refine aa ?_|refine h.tk λw h=>?_|refine⟨_,h.ldA,?_⟩|refine⟨_,_,_,h.ldA,?_⟩|refine h.stA 0 λw h=>?_|refine h.stA 1 λw h=>?_|refine h.stA 2 λw h=>?_|refine h.stA 3 λw h=>?_|refine h.stA 4 λw h=>?_|refine h.stA 5 λw h=>?_|refine h.stA 6 λw h=>?_|refine h.bx λb0 w h=>?_)
 have h:Sat σ _ (l.at b0::l.at b::L):=h
 refine lead_ok (max:=3) h g (by decide) λw h=>⟨_,rfl,?_⟩
 refine mi h (by first|assumption|(repeat (first|exact .head _|apply List.Mem.tail))) (Ln.lead_ok g) λw h=>⟨_,rfl,?_⟩
 refine ag ?_ (E _ h.tail)
 rw[bne,u8b _ 60 60 rfl]
 simpa using y
theorem n4 {q:Option Addr}{l:Ln}(h:Sat σ w L)(I:l.ok)(g:(l.lead 3 false).peek≠60)(E: ∀w,Sat σ w L->R (hQ (.tuple #[l.val,hV false])) w):callE P lZ #[kT q,l.val] R w:=by
 refine tf.sound ?_
 refine Sat.bx h λb1 w h=>?_
 refine Sat.bx h λy w h=>?_
 repeat (first|refine aa ?_|refine h.tk λw h=>?_|refine⟨_,h.ldA,?_⟩|refine⟨_,_,_,h.ldA,?_⟩|refine h.stA 0 λw h=>?_|refine h.stA 1 λw h=>?_|refine h.stA 2 λw h=>?_|refine h.stA 3 λw h=>?_|refine h.stA 4 λw h=>?_|refine h.stA 5 λw h=>?_|refine h.stA 6 λw h=>?_|refine h.bx λb0 w h=>?_)
 have h:Sat σ _ (l.at b0::(y,cel [hY 0,hY 0,hY 0,hX (bs []),.int .u8 0] aW)::l.at b1::L):=h
 refine ws h I g λw h=>⟨_,rfl,af rfl ?_⟩
 repeat (first|refine aa ?_|refine h.tk λw h=>?_|refine⟨_,h.ldA,?_⟩|refine⟨_,_,_,h.ldA,?_⟩|refine h.stA 0 λw h=>?_|refine h.stA 1 λw h=>?_|refine h.stA 2 λw h=>?_|refine h.stA 3 λw h=>?_|refine h.stA 4 λw h=>?_|refine h.stA 5 λw h=>?_|refine h.stA 6 λw h=>?_|refine h.bx λb0 w h=>?_)
 exact E _ h.tail.tail.tail
theorem q9 {b:Nat}{p:PS}{l:List OB}{o:OB}{M:List ai}(h:Sat σ w (p.at b::M++L))(hs:Stk p (l++ [o]) M){t:TypeId}{v:Value}(U:o.bd= .iface t v)(E: ∀w,Sat σ w (p.at b::M++L)->R (hQ (if t=ar then v else kT none)) w)(hv:t=ar-> ∃q,v= kT q):
 callE P eE #[kT (kE b)] R w:=by
 obtain⟨sb,sp,O,rfl,W⟩:=hs.split (by simp)
 have y:=hs.2.1
 have I:=hs.2.2
 rw[lA0,lE0] at y I
 refine jD.sound ?_
 repeat (first|refine aa ?_|refine h.tk λw h=>?_|refine⟨_,h.ldA,?_⟩|refine⟨_,_,_,h.ldA,?_⟩)
 rw[y,kD (by omega)]
 refine⟨by omega,by omega,?_⟩
 rw[O]
 refine aa ?_
 simp only[lK0,lO0,lC0]
 refine⟨o.bd,Sat.ld h (by first|assumption|(repeat (first|exact .head _|apply List.Mem.tail))) (fu (f:=0) (by decide) (iC o)),?_⟩
 rw[U]
 have g:P.underlying ar=some (.pointer aL):=by kernel_rfl
 by_cases ht:t=ar
 ·obtain⟨q,rfl⟩:=hv ht
  subst ht
  have:=E _ h
  rw[if_pos rfl] at this
  exact⟨q,true,λw=>oL (by rw[g];intro V h;cases h) g w,ag rfl this⟩
 ·have:=E _ h
  rw[if_neg ht] at this
  refine⟨none,false,λw=>?_,af rfl this⟩
  exact u5 (by rw[g];intro V h;cases h) g ht (i:=(P.info? ar).getD default) (by kernel_rfl) (by kernel_rfl) w

def Ln.strip:Nat->Nat->Ln->Nat × Ln
 |0,n,l=>(n,l)
 |k+1,n,l=>match l.trimSp 1 1 false with
  |none=>(n,l)
  |some g=>g.strip k (n+1)
theorem Ln.strip_ok: ∀(k n:Nat) {l:Ln},l.ok->(l.strip k n).2.ok/\(l.strip k n).1<=n+k
 |0,n,l,h=>⟨h,lA1 _⟩
 |k+1,n,l,h=>by
  simp only[Ln.strip]
  split
  ·exact⟨h,by simp⟩
  ·rename_i y g
   have:=strip_ok k (n+1) (Ln.trimSp_ok h g)
   exact⟨this.1,by have:=this.2;omega⟩
def mp (c:UInt8):Bool:=c==45||c==42||c==43||(48<=c && c<=57)
theorem uL {c d:UInt8}{n:Int}(hd:(d.toNat:Int)=n)(h:c≠d):(((c.toNat:Nat):Int)==n)=false:=by
 rw[u8b _ d n hd];simpa using h
theorem rI {b:Nat}{q:Option Addr}{l:Ln}(h:Sat σ w (l.at b::L))(b6:l.ok)(g:mp (l.strip 3 0).2.peek=false)(b5: ∀w,Sat σ w (l.at b::L)->R (hQ (hV false)) w):callE P bN #[kT q,kT (kE b)] R w:=by
 refine am.sound ?_
 refine Sat.bx h λb1 w h=>?_
 repeat (first|refine aa ?_|refine h.tk λw h=>?_|refine⟨_,h.ldA,?_⟩|refine⟨_,_,_,h.ldA,?_⟩|refine h.stA 0 λw h=>?_|refine h.stA 1 λw h=>?_|refine h.stA 2 λw h=>?_|refine h.stA 3 λw h=>?_|refine h.stA 4 λw h=>?_|refine h.stA 5 λw h=>?_|refine h.stA 6 λw h=>?_|refine h.bx λb0 w h=>?_)
 have h:Sat σ _ (l.at b0::(b1,cel [kT q] ah)::l.at b::L):=h
 have fin: ∀(n:Nat) (t:Ln) w,t.ok->mp t.peek=false->Sat σ w (t.at b0::(b1,cel [kT q] ah)::l.at b::L)->am.k1 R b1 b0 n w:=by
  intro n t w ht g h
  refine mi h (by first|assumption|(repeat (first|exact .head _|apply List.Mem.tail))) ht λw h=>⟨_,rfl,?_⟩
  generalize t.peek=c at*
  simp only[mp,lK2,beq_eq_false_iff_ne,lY3,decide_eq_false_iff_not] at g
  obtain⟨⟨⟨a7,b3⟩,a6⟩,y⟩:=g
  have hd: ∀d:UInt8,48<=d->d<=57->c≠d:=by
   intro d O U hc
   subst hc
   rcases y with y|y
   ·exact y O
   ·exact y U
  have V:=uL (n:=43) rfl a6
  have W:=uL (n:=57) rfl (hd 57 (by decide) (by decide))
  refine af (uL (d:=45) rfl a7) (af (uL (d:=42) rfl b3) ?_)
  rw[V]
  refine af rfl ?_
  refine af (uL (d:=48) rfl (hd _ (by decide) (by decide))) ?_
  refine af (uL (d:=49) rfl (hd _ (by decide) (by decide))) ?_
  refine af (uL (d:=50) rfl (hd _ (by decide) (by decide))) ?_
  refine af (uL (d:=51) rfl (hd _ (by decide) (by decide))) ?_
  refine af (uL (d:=52) rfl (hd _ (by decide) (by decide))) ?_
  refine af (uL (d:=53) rfl (hd _ (by decide) (by decide))) ?_
  refine af (uL (d:=54) rfl (hd _ (by decide) (by decide))) ?_
  refine af (uL (d:=55) rfl (hd _ (by decide) (by decide))) ?_
  refine af (uL (d:=56) rfl (hd _ (by decide) (by decide))) ?_
  rw[W]
  exact af rfl (b5 _ h.tail.tail)
 intro X E
 have I: ∀k n (t:Ln) w,t.ok->k+n=3->mp (t.strip k n).2.peek=false->Sat σ w (t.at b0::(b1,cel [kT q] ah)::l.at b::L)->X b1 b0 n n w:=by
  intro k n t w ht b7 g h
  induction k generalizing n t w with
  |zero=>exact E _ _ _ _ _ (af (by simp;omega) (fin n t w ht g h))
  |succ k b4=>
   refine E _ _ _ _ _ (ag (by simp;omega) ?_)
   refine YtendaipfdnhnaaaGreatDoor.trimSp_ok (min:=1) (max:=1) h ht (by decide) (by decide) ?_
   simp only[Ln.strip] at g
   cases hs:t.trimSp 1 1 false with
   |none=>
    rw[hs] at g
    exact λw h=>⟨_,rfl,ag rfl (fin n t w ht g h)⟩
   |some t'=>
    rw[hs] at g
    intro w h
    refine⟨_,rfl,af rfl ?_⟩
    rw[aN (by omega)]
    exact b4 (n+1) t' w (Ln.trimSp_ok ht hs) (by omega) g h
 exact I 3 0 l _ b6 rfl g h

abbrev zLn (b:Nat):ai:=(b,cel [hY 0,hY 0,hY 0,hX (bs []),.int .u8 0] aW)
theorem qO {b d:Nat}{p:PS}{l:List OB}{M:List ai}(h:Sat σ w (p.at b::M++L))(hs:Stk p l M)(hd:p.depth=d)(y: ∀w,Sat σ w (p.at b::M++L)->R (hQ (match l[d]? with|some o=>o.bd|none=> .nilIface)) w):
 callE P jA #[kT (kE b)] R w:=by
 have E:=hs.2.1
 have U:=hs.2.2
 refine jF.sound ?_
 repeat (first|refine aa ?_|refine h.tk λw h=>?_|refine⟨_,h.ldA,?_⟩|refine⟨_,_,_,h.ldA,?_⟩)
 rw[E,hd]
 by_cases g:d<l.length
 ·obtain⟨sb,sp,I,rfl,O⟩:=hs.split (by intro h;subst h;simp at g)
  refine ag (by simpa using g) ?_
  repeat (first|refine aa ?_|refine h.tk λw h=>?_|refine⟨_,h.ldA,?_⟩|refine⟨_,_,_,h.ldA,?_⟩)
  rw[E,hd]
  refine⟨by omega,by omega,?_⟩
  rw[I]
  refine aa ?_
  simp only[lK0,lO0,lC0]
  refine⟨l[d].bd,Sat.ld h (by first|assumption|(repeat (first|exact .head _|apply List.Mem.tail))) (fu (f:=0) (by decide) (lI0 g)),?_⟩
  have:=y _ h
  rw[lI0 g] at this
  exact this
 ·have:=y _ h
  rw[lT1 (by omega)] at this
  exact af (by simpa using g) this
theorem ml {b d:Nat}{p:PS}{l:List OB}{M:List ai}(h:Sat σ w (p.at b::M++L))(hs:Stk p l M)(hd:p.depth=d)(U:d<1048577)(y: ∀w,Sat σ w (p.at b::M++L)->R (hQ (match l[d+1]? with|some o=>o.bd|none=> .nilIface)) w):
 callE P gr #[kT (kE b)] R w:=by
 have E:=hs.2.1
 have V:=hs.2.2
 refine jn.sound ?_
 repeat (first|refine aa ?_|refine h.tk λw h=>?_|refine⟨_,h.ldA,?_⟩|refine⟨_,_,_,h.ldA,?_⟩)
 rw[E,hd,aN (by omega)]
 by_cases g:d+1<l.length
 ·obtain⟨sb,sp,I,rfl,O⟩:=hs.split (by intro h;subst h;simp at g)
  refine ag (by simp;omega) ?_
  repeat (first|refine aa ?_|refine h.tk λw h=>?_|refine⟨_,h.ldA,?_⟩|refine⟨_,_,_,h.ldA,?_⟩)
  rw[E,hd,aN (by omega)]
  refine⟨by omega,by omega,?_⟩
  rw[I]
  refine aa ?_
  simp only[lK0,lO0,lC0]
  refine⟨l[d+1].bd,Sat.ld h (by first|assumption|(repeat (first|exact .head _|apply List.Mem.tail))) (fu (f:=0) (by decide) (lI0 g)),?_⟩
  have:=y _ h
  rw[lI0 g] at this
  exact this
 ·have:=y _ h
  rw[lT1 (by omega)] at this
  exact af (by simp;omega) this
theorem gR {v:Value}{t:TypeId}(ht:t≠az)(w:World):
 (Instr.typeAssert (.iface t v) bO az true).run P w= .ok (.tuple #[kT none,hV false]) w:=by
 have g:P.underlying az=some (.pointer f7):=by kernel_rfl
 exact u5 (by rw[g];intro y h;cases h) g ht (i:=(P.info? az).getD default) (by kernel_rfl) (by kernel_rfl) w
theorem tN {b d:Nat}{p:PS}{ob:List OB}{o:OB}{M:List ai}{t:TypeId}{v:Value}{l:Ln}(h:Sat σ w (p.at b::M++L))(hs:Stk p ob M)(hd:p.depth=d)(y:ob[d]? =some o)(hb:o.bd= .iface t v)(ht:t≠az)(O:l.ok)(E:mp (l.strip 3 0).2.peek=false)(I: ∀w,Sat σ w (p.at b::M++L)->R (hQ (.tuple #[l.val,hV false])) w):callE P cm #[kT (kE b),l.val] R w:=by
 refine cQ.sound ?_
 refine Sat.bx h λb1 w h=>?_
 refine Sat.bx h λg w h=>?_
 have h:Sat σ w (zLn g::l.at b1::(p.at b::M++L)):=h
 have h:Sat σ w (p.at b::M++(zLn g::l.at b1::L)):=h.re
 refine qO h hs hd λw h=>?_
 rw[y]
 dsimp only
 refine⟨_,rfl,none,false,w,by rw[hb];exact gR ht w,af rfl (af rfl ?_)⟩
 have h:Sat σ w (l.at b1::zLn g::p.at b::M++L):=h.re
 refine rI h O E λw h=>⟨_,rfl,af rfl ?_⟩
 repeat (first|refine aa ?_|refine h.tk λw h=>?_|refine⟨_,h.ldA,?_⟩|refine⟨_,_,_,h.ldA,?_⟩|refine h.stA 0 λw h=>?_|refine h.stA 1 λw h=>?_|refine h.stA 2 λw h=>?_|refine h.stA 3 λw h=>?_|refine h.stA 4 λw h=>?_|refine h.stA 5 λw h=>?_|refine h.stA 6 λw h=>?_|refine h.bx λb0 w h=>?_)
 exact I _ h.tail.tail

theorem qK {t u:TypeId}{v:Value}{y:Array (String × TypeId)}(g:P.underlying t=some (.interface y))(d:Nat)(w:World):
 (Op.equalIn (d+1) t .nilIface (.iface u v)).run P w= .ok false w:=by
 simp[Op.equalIn,run_underlying g]
theorem rN {t u g:TypeId}{v E:Value}{O:Array (String × TypeId)}(I:P.underlying t=some (.interface O))(y:u≠g)(d:Nat)(w:World):
 (Op.equalIn (d+1) t (.iface u v) (.iface g E)).run P w= .ok false w:=by
 simp[Op.equalIn,run_underlying I,y]
theorem nK {t e:TypeId}(g:P.underlying t=some (.pointer e))(q:Option Addr)(d:Nat)(w:World):
 (Op.equalIn (d+1) t (kT q) (kT none)).run P w= .ok q.isNone w:=by
 cases q<;>simp[Op.equalIn,run_underlying g]
theorem xK {t:TypeId}{a b:Value}{r:Bool}{w:World}{x g:Operand}(I:(eqGuard .eql t x g a b).run P w= .ok () w)(E:binOp .eql t a b=(do pure (hV (<-Op.equal t a b))))(h:(Op.equal t a b).run P w= .ok r w):(do eqGuard .eql t x g a b;binOp .eql t a b).run P w= .ok (hV r) w:=by
 rw[E]
 simp only[lX0,I,h,lJ0]
 rfl
theorem xD {t u:TypeId}{v:Value}{E:Array (String × TypeId)}(g:P.underlying t=some (.interface E))(x I:Operand)(w:World):
 (do eqGuard .eql t x I .nilIface (.iface u v);binOp .eql t .nilIface (.iface u v)).run P w= .ok (hV false) w:=
 xK rfl rfl (qK g 9999 w)
theorem za {t u g:TypeId}{v E:Value}{U:Array (String × TypeId)}(O:P.underlying t=some (.interface U))(I:u≠g)(x V:Operand)(w:World):
 (do eqGuard .eql t x V (.iface u v) (.iface g E);binOp .eql t (.iface u v) (.iface g E)).run P w= .ok (hV false) w:=
 xK rfl rfl (rN O I 9999 w)
theorem uC {t e:TypeId}(g:P.underlying t=some (.pointer e))(q:Option Addr)(x E:Operand)(w:World):
 (do eqGuard .eql t x E (kT q) (kT none);binOp .eql t (kT q) (kT none)).run P w= .ok (hV q.isNone) w:=
 xK rfl rfl (nK g q 9999 w)
theorem tZ:P.underlying bO=some (.interface ((match P.underlying bO with|some (.interface ms)=>ms|_=> #[]))):=by kernel_rfl
theorem kR:P.underlying ar=some (.pointer aL):=by kernel_rfl
theorem kY {b d:Nat}{p:PS}{ob:List OB}{o:OB}{M:List ai}{t:TypeId}{v:Value}{l:Ln}(h:Sat σ w (p.at b::M++L))(hs:Stk p (ob++ [o]) M)(hd:p.depth=d)(O:ob.length=d)(hb:o.bd= .iface t v)(ht:t≠ar)(U:l.ok)(I: ∀w,Sat σ w (p.at b::M++L)->R (hQ (.tuple #[l.val,hV false])) w):callE P bZ #[kT (kE b),l.val] R w:=by
 have E:=hs.2.2
 rw[lA0,lE0] at E
 refine bL.sound ?_
 refine Sat.bx h λb1 w h=>?_
 refine Sat.bx h λg w h=>?_
 refine Sat.bx h λy w h=>?_
 repeat (first|refine aa ?_|refine h.tk λw h=>?_|refine⟨_,h.ldA,?_⟩|refine⟨_,_,_,h.ldA,?_⟩|refine h.stA 0 λw h=>?_|refine h.stA 1 λw h=>?_|refine h.stA 2 λw h=>?_|refine h.stA 3 λw h=>?_|refine h.stA 4 λw h=>?_|refine h.stA 5 λw h=>?_|refine h.stA 6 λw h=>?_|refine h.bx λb0 w h=>?_)
 have h:Sat σ _ (l.at b0::(y,cel [hY 0] ba)::zLn g::l.at b1::(p.at b::M++L)):=h
 have h:Sat σ _ (p.at b::M++(l.at b0::(y,cel [hY 0] ba)::zLn g::l.at b1::L)):=h.re
 refine ml h hs hd (by omega) λw h=>?_
 rw[lT1 (by simp;omega)]
 refine⟨_,rfl,?_⟩
 refine q9 h hs hb (λw h=>?_) (λhc=>absurd hc ht)
 rw[if_neg ht]
 refine⟨_,rfl,false,w,xD tZ _ _ w,af rfl ?_⟩
 have h:Sat σ _ (zLn g::l.at b1::(y,cel [hY 0] ba)::l.at b0::(p.at b::M++L)):=h.re
 refine af rfl ?_
 repeat (first|refine aa ?_|refine h.tk λw h=>?_|refine⟨_,h.ldA,?_⟩|refine⟨_,_,_,h.ldA,?_⟩|refine h.stA 0 λw h=>?_|refine h.stA 1 λw h=>?_|refine h.stA 2 λw h=>?_|refine h.stA 3 λw h=>?_|refine h.stA 4 λw h=>?_|refine h.stA 5 λw h=>?_|refine h.stA 6 λw h=>?_|refine h.bx λb0 w h=>?_)
 have h:Sat σ _ (l.at g::l.at b1::(y,cel [hY 0] ba)::l.at b0::(p.at b::M++L)):=h
 exact I _ h.tail.tail.tail.tail

theorem wm {b nb:Nat}{E y:Option Addr}{l:Ln}{v:Int}{e:TypeId}(h:Sat σ w (l.at b::(nb,cel [hY v] e)::L))(W:l.ok)(g:(l.strip 3 0).2.peek≠96/\(l.strip 3 0).2.peek≠126)(V: ∀w v,Sat σ w (l.at b::(nb,cel [hY v] e)::L)->R (hQ (hV false)) w):
 callE P fW #[kT (kE b),kT E,kT y,kT (kE nb)] R w:=by
 refine bz.sound ?_
 repeat (first|refine aa ?_|refine h.tk λw h=>?_|refine⟨_,h.ldA,?_⟩|refine⟨_,_,_,h.ldA,?_⟩|refine h.stA 0 λw h=>?_|refine h.stA 1 λw h=>?_|refine h.stA 2 λw h=>?_|refine h.stA 3 λw h=>?_|refine h.stA 4 λw h=>?_|refine h.stA 5 λw h=>?_|refine h.stA 6 λw h=>?_|refine h.bx λb0 w h=>?_)
 have h:Sat σ _ (l.at b0::l.at b::(nb,cel [hY 0] e)::L):=h
 have fin: ∀(n:Nat) (t:Ln) w,t.ok->t.peek≠96/\t.peek≠126->Sat σ w (t.at b0::l.at b::(nb,cel [hY n] e)::L)->bz.k2 R (kE b) E y b0 w:=by
  intro n t w ht g h
  refine mi h (by first|assumption|(repeat (first|exact .head _|apply List.Mem.tail))) ht λw h=>⟨_,rfl,?_⟩
  rw[uL (d:=126) (n:=126) rfl g.2]
  exact af (uL (d:=96) rfl g.1) (af rfl (V _ _ h.tail))
 intro X I
 have O: ∀k n (t:Ln) w,t.ok->k+n=3->(t.strip k n).2.peek≠96/\(t.strip k n).2.peek≠126->Sat σ w (t.at b0::l.at b::(nb,cel [hY n] e)::L)->
  X (kE b) E y (kE nb) b0 w:=by
  intro k n t w ht a6 g h
  induction k generalizing n t w with
  |zero=>
   refine I _ _ _ _ _ _ ?_
   repeat (first|refine aa ?_|refine h.tk λw h=>?_|refine⟨_,h.ldA,?_⟩|refine⟨_,_,_,h.ldA,?_⟩)
   exact af (by simp;omega) (fin n t w ht g h)
  |succ k U=>
   refine I _ _ _ _ _ _ ?_
   repeat (first|refine aa ?_|refine h.tk λw h=>?_|refine⟨_,h.ldA,?_⟩|refine⟨_,_,_,h.ldA,?_⟩)
   refine ag (by simp;omega) ?_
   refine YtendaipfdnhnaaaGreatDoor.trimSp_ok (min:=1) (max:=1) h ht (by decide) (by decide) ?_
   simp only[Ln.strip] at g
   cases hs:t.trimSp 1 1 false with
   |none=>
    rw[hs] at g
    exact λw h=>⟨_,rfl,af rfl (fin n t w ht g h)⟩
   |some t'=>
    rw[hs] at g
    intro w h
    refine⟨_,rfl,ag rfl ?_⟩
    repeat (first|refine aa ?_|refine h.tk λw h=>?_|refine⟨_,h.ldA,?_⟩|refine⟨_,_,_,h.ldA,?_⟩|refine h.stA 0 λw h=>?_|refine h.stA 1 λw h=>?_|refine h.stA 2 λw h=>?_|refine h.stA 3 λw h=>?_|refine h.stA 4 λw h=>?_|refine h.stA 5 λw h=>?_|refine h.stA 6 λw h=>?_|refine h.bx λb0 w h=>?_)
    rw[aN (by omega)] at h
    exact U (n+1) t' _ (Ln.trimSp_ok ht hs) (by omega) g h
 exact O 3 0 l _ W rfl g h
theorem sN {q:Option Addr}{l:Ln}(h:Sat σ w L)(V:l.ok)(E:(l.strip 3 0).2.peek≠96/\(l.strip 3 0).2.peek≠126)(U: ∀w,Sat σ w L->R (hQ (.tuple #[l.val,hV false])) w):callE P ko #[kT q,l.val] R w:=by
 refine dS.sound ?_
 refine Sat.bx h λb1 w h=>?_
 refine Sat.bx h λy w h=>?_
 refine Sat.bx h λO w h=>?_
 refine Sat.bx h λI w h=>?_
 refine Sat.bx h λg w h=>?_
 repeat (first|refine aa ?_|refine h.tk λw h=>?_|refine⟨_,h.ldA,?_⟩|refine⟨_,_,_,h.ldA,?_⟩|refine h.stA 0 λw h=>?_|refine h.stA 1 λw h=>?_|refine h.stA 2 λw h=>?_|refine h.stA 3 λw h=>?_|refine h.stA 4 λw h=>?_|refine h.stA 5 λw h=>?_|refine h.stA 6 λw h=>?_|refine h.bx λb0 w h=>?_)
 have h:Sat σ _ (l.at b0::(g,cel [hY 0] ba)::(I,cel [hX (bs [])] aq)::(O,cel [hX (bs [])] aq)::zLn y::l.at b1::L):=h
 refine wm h V E λw v h=>⟨_,rfl,?_⟩
 refine af rfl ?_
 repeat (first|refine aa ?_|refine h.tk λw h=>?_|refine⟨_,h.ldA,?_⟩|refine⟨_,_,_,h.ldA,?_⟩|refine h.stA 0 λw h=>?_|refine h.stA 1 λw h=>?_|refine h.stA 2 λw h=>?_|refine h.stA 3 λw h=>?_|refine h.stA 4 λw h=>?_|refine h.stA 5 λw h=>?_|refine h.stA 6 λw h=>?_|refine h.bx λb0 w h=>?_)
 exact U _ h.tail.tail.tail.tail.tail.tail

theorem HE {t:TypeId}{a b:Value}{r:Bool}{w:World}{x g:Operand}(I:(eqGuard .neq t x g a b).run P w= .ok () w)(E:binOp .neq t a b=(do pure (hV (!(<-Op.equal t a b)))))(h:(Op.equal t a b).run P w= .ok r w):(do eqGuard .neq t x g a b;binOp .neq t a b).run P w= .ok (hV (!r)) w:=by
 rw[E]
 simp only[lX0,I,h,lJ0]
 rfl
theorem jx {t e:TypeId}(g:P.underlying t=some (.pointer e))(q:Option Addr)(x E:Operand)(w:World):
 (do eqGuard .neq t x E (kT q) (kT none);binOp .neq t (kT q) (kT none)).run P w= .ok (hV (!q.isNone)) w:=
 HE rfl rfl (nK g q 9999 w)
structure Opt where
 ids:Bool
 strike:Bool
 task:Bool
 auto:Bool
 http:Bool
 table:Bool
 emoji:Bool
 dot:Bool
 dash:Bool
 quote:Bool
def Opt.cells (o:Opt):List Value:= [hV o.ids,hV o.strike,hV o.task,hV o.auto,hV o.http,hV o.table,hV o.emoji,hV o.dot,hV o.dash,hV o.quote]
abbrev Opt.at (b:Nat)(o:Opt):ai:=(b,cel o.cells wk)
theorem wP {b:Nat}{p:PS}{ob:List OB}{o:OB}{M:List ai}{t:TypeId}{v:Value}{l:Ln}(h:Sat σ w (p.at b::M++L))(hs:Stk p (ob++ [o]) M)(hb:o.bd= .iface t v)(hv:t=ar-> ∃q,v= kT q)(E:l.ok)(y:l.trimSp 4 4 false=none)(I: ∀w,Sat σ w (p.at b::M++L)->R (hQ (.tuple #[l.val,hV false])) w):callE P pM #[kT (kE b),l.val] R w:=by
 refine jO.sound ?_
 refine Sat.bx h λb1 w h=>?_
 refine Sat.bx h λg w h=>?_
 repeat (first|refine aa ?_|refine h.tk λw h=>?_|refine⟨_,h.ldA,?_⟩|refine⟨_,_,_,h.ldA,?_⟩|refine h.stA 0 λw h=>?_|refine h.stA 1 λw h=>?_|refine h.stA 2 λw h=>?_|refine h.stA 3 λw h=>?_|refine h.stA 4 λw h=>?_|refine h.stA 5 λw h=>?_|refine h.stA 6 λw h=>?_|refine h.bx λb0 w h=>?_)
 have h:Sat σ _ (l.at b0::zLn g::l.at b1::(p.at b::M++L)):=h
 have h:Sat σ _ (p.at b::M++(l.at b0::zLn g::l.at b1::L)):=h.re
 have fin: ∀w,Sat σ w (l.at b0::(zLn g::l.at b1::(p.at b::M++L)))->jO.k1 R (kE b) b1 g b0 false w:=by
  intro w h
  refine af rfl ?_
  repeat (first|refine aa ?_|refine h.tk λw h=>?_|refine⟨_,h.ldA,?_⟩|refine⟨_,_,_,h.ldA,?_⟩|refine h.stA 0 λw h=>?_|refine h.stA 1 λw h=>?_|refine h.stA 2 λw h=>?_|refine h.stA 3 λw h=>?_|refine h.stA 4 λw h=>?_|refine h.stA 5 λw h=>?_|refine h.stA 6 λw h=>?_|refine h.bx λb0 w h=>?_)
  have h:Sat σ _ (l.at b0::l.at g::l.at b1::(p.at b::M++L)):=h
  exact I _ h.tail.tail.tail
 refine q9 h hs hb (λw h=>?_) hv
 have h:Sat σ _ (l.at b0::(zLn g::l.at b1::(p.at b::M++L))):=h.re
 by_cases ht:t=ar
 ·obtain⟨q,rfl⟩:=hv ht
  rw[if_pos ht]
  refine⟨q,rfl,q.isNone,w,uC kR _ _ _ w,bp (λO=>?_) (λ_=>fin _ h)⟩
  refine YtendaipfdnhnaaaGreatDoor.trimSp_ok (min:=4) (max:=4) h E (by decide) (by decide) ?_
  rw[y]
  exact λw h=>⟨_,rfl,af rfl (fin _ h)⟩
 ·rw[if_neg ht]
  refine⟨none,rfl,_,w,uC kR _ _ _ w,ag rfl ?_⟩
  refine YtendaipfdnhnaaaGreatDoor.trimSp_ok (min:=4) (max:=4) h E (by decide) (by decide) ?_
  rw[y]
  exact λw h=>⟨_,rfl,af rfl (fin _ h)⟩
variable {op:Opt}

def Ln.zero:Ln:=⟨0,0,0,[],0⟩
noncomputable def rowStr:Row P al aq 1 16:=
 ⟨(P.info? aq).getD default,((P.info? aq).bind (·.zero)).getD default,by kernel_rfl,by kernel_rfl,by kernel_rfl,by kernel_rfl,by kernel_rfl,by kernel_rfl,by decide⟩
def rG (y:Nat)(ts:List (List UInt8))(M:List ai):Prop:=
 ∃q c g,Sl 1 aq q ts.length c (ts.map λt=> hX (bs t)) g/\M=(y,cel [hT q ts.length c,kT none] aL)::g
theorem sG {g:Nat}{ts:List (List UInt8)}{s:List UInt8}{y:Nat}{M:List ai}(h:Sat σ w (zLn y::M++L))(a7:rG g ts M)(b5:ts.length<1048576)(b3: ∀w U,rG g (ts++ [s]) U->Sat σ w (U++L)->R (hQ (.tuple #[Ln.zero.val,hV true])) w):
 dZ.k5 R y (kE g) (bs s) w:=by
 obtain⟨q,c,W,a6,rfl⟩:=a7
 repeat (first|refine aa ?_|refine h.tk λw h=>?_|refine⟨_,h.ldA,?_⟩|refine⟨_,_,_,h.ldA,?_⟩)
 have h:Sat σ w (W++((g,cel [hT q ts.length c,kT none] aL)::zLn y::L)):=h.re
 refine Sat.app1 rowStr a6 h (v:= hX (bs s)) rfl (by simp[Value.cells,Value.oneCell']) (by kernel_rfl) (by omega) (by omega) (by decide) λI O w E V h=>?_
 have h:Sat σ w ((g,cel [hT q ts.length c,kT none] aL)::zLn y::(E++L)):=h.re
 repeat (first|refine aa ?_|refine h.tk λw h=>?_|refine⟨_,h.ldA,?_⟩|refine⟨_,_,_,h.ldA,?_⟩|refine h.stA 0 λw h=>?_|refine h.stA 1 λw h=>?_|refine h.stA 2 λw h=>?_|refine h.stA 3 λw h=>?_|refine h.stA 4 λw h=>?_|refine h.stA 5 λw h=>?_|refine h.stA 6 λw h=>?_|refine h.bx λb0 w h=>?_)
 have h:Sat σ _ ((g,cel [hT I (ts.length+1) O,kT none] aL)::zLn y::(E++L)):=h
 refine b3 _ ((g,cel [hT I (ts.length+1) O,kT none] aL)::E) ⟨I,O,E,?_,?_⟩ (h.less [zLn y])
 ·rw[lA0,lV0];exact V
 ·rw[lA0];rfl

theorem gY {f:FuncId}{y first g:Array Value}(h:callE P f (first++y++g) R w):
 de P (do let d <-Deferred.ofValue (.func (.func f) first g) y;invoke d.target d.args) R w:=
 h.imp (λh=>⟨f,_,w,h.1 _ _,h.2⟩) id
def newsF:List FuncId:= [km,fx,bZ,qD,cm,lZ,ko,pM]
def newsC:List Value:=newsF.map λf=> .func (.func f) #[] #[]
theorem yL (h:Sat σ w L)(y: ∀w b e,Sat σ w ((b,cel newsC e)::L)->R (hQ (hT (kE b) 8 8)) w):callE P CL #[] R w:=by
 refine CU.sound ?_
 have E:P.underlying cS=some (.slice bF):=by kernel_rfl
 have g:=run_buildSlice (P:=P) w cS bF 8
  #[(0,.func (.func km) #[] #[]),(1,.func (.func fx) #[] #[]),(2,.func (.func bZ) #[] #[]),(3,.func (.func qD) #[] #[]),
   (4,.func (.func cm) #[] #[]),(5,.func (.func lZ) #[] #[]),(6,.func (.func ko) #[] #[]),(7,.func (.func pM) #[] #[])] newsC.toArray
  ((P.info? bF).getD default) (((P.info? bF).bind (·.zero)).getD default) E (by kernel_rfl) (by kernel_rfl)
  (by rw[show ((P.info? bF).getD default).size=1 by kernel_rfl];decide) (by rw[show ((P.info? bF).getD default).size=1 by kernel_rfl];decide) (by kernel_rfl)
 exact⟨_,_,_,_,g,y _ _ _ (h.alc newsC _)⟩

def Bt (b:Nat)(p:PS)(M:List ai)(l:Ln)(f:FuncId):Prop:=
 ∀(σ:Out) (w:World) (L:List ai) (R:Ending->World->Prop),Sat σ w (p.at b::M++L)->(∀w,Sat σ w (p.at b::M++L)->R (hQ (.tuple #[l.val,hV false])) w)->
  callE P f #[kT (kE b),l.val] R w
def HDecl (l:Ln):Prop:=
 ∀(b:Nat) (p:PS) (ob:List OB) (o:OB) (M:List ai) (t:TypeId) (v:Value),Stk p (ob++ [o]) M->o.bd= .iface t v->t≠ar->Bt b p M l lZ
theorem HDecl.of_peek {l:Ln}(E:l.ok)(g:(l.lead 3 false).peek≠60):HDecl l:=
 λ_ _ _ _ _ _ _ _ _ _ _ _ _ _ h y=>n4 h E g y
def LDecl (l:Ln):Prop:=
 ∀(b d:Nat) (p:PS) (ob:List OB) (o:OB) (M:List ai) (t:TypeId) (v:Value),Stk p ob M->p.depth=d->ob[d]? =some o->o.bd= .iface t v->t≠az->Bt b p M l cm
theorem LDecl.of_peek {l:Ln}(I:l.ok)(g:mp (l.strip 3 0).2.peek=false):LDecl l:=
 λ_ _ _ _ _ _ _ _ hs hd y hb ht _ _ _ _ h E=>tN h hs hd y hb ht I g E
structure Ln.plain (l:Ln):Prop where
 ok:l.ok
 blank:l.blank=false
 quote:l.quote=none
 heading:l.heading=none
 hr:l.isHR=false
 bullet:LDecl l
 html:HDecl l
 fence:(l.strip 3 0).2.peek≠96/\(l.strip 3 0).2.peek≠126
 pre:l.trimSp 4 4 false=none
theorem sL {i:Nat}{f:FuncId}(h:newsF[i]? =some f):newsC[i]? =some (.func (.func f) #[] #[]):=by
 rw[newsC,lF2,h];rfl
def nF (R:EP)(E I:BA)(w:World):Prop:=
 callE P lV #[hX E,hX I] (λe y=> ∃g,e= hQ (hY g)/\
 R (hQ (hV (decide (g >= 0)))) y) w
theorem nF.sound {R x0 x1 w}(h:nF R x0 x1 w):callE P jb #[hX x0,hX x1] R w:=
 cE Tryz.func76 Tryz.call76 h
namespace kM
def bl1 (R:EP)(Xa:BA->BA->Int->WP)(E y:BA)(g:Int)(w:World):Prop:=
 br (decide ((i64.wrap (g+(y.size:Int)))<=(E.size:Int)))
 (0<=g/\g<=(i64.wrap (g+(y.size:Int)))/\(i64.wrap (g+(y.size:Int)))<=(E.size:Int)/\
 br ((E.extract (Int.toNat g) (Int.toNat (i64.wrap (g+(y.size:Int))))).toList==y.toList)
 (R (hQ (hY g)) w)
 (Xa E y (i64.wrap (g+1)) w))
 (R (hQ (hY (-1))) w)
def l1 (R:EP)(y g:BA)(E:Int)(w:World):Prop:=
 ∀X:BA->BA->Int->WP,(∀y g E w,bl1 R X y g E w->X y g E w)->X y g E w
end kM
def kM (R:EP)(y g:BA)(w:World):Prop:=
 kM.l1 R y g 0 w
theorem kM.sound {R x0 x1 w}(h:kM R x0 x1 w):callE P lV #[hX x0,hX x1] R w:=
 aG [(21,.lp [1,21,107] (kM.bl1 R) λXa=> [])] Tryz.func79 Tryz.call79 h

def kO (sub l:List UInt8):Nat->Nat->Option Nat
 |0,_=>none
 |k+1,i=>if i+sub.length<=l.length then (if (l.drop i).take sub.length=sub then some i else kO sub l k (i+1)) else none
def idx (l sub:List UInt8):Option Nat:=kO sub l (l.length+1) 0
def lm (l sub:List UInt8):Int:=match idx l sub with
 |some i=>(i:Int)
 |none=> -1
theorem kh {l sub:List UInt8}(a7:l.length<4611686018427387904)(hs:sub.length<4611686018427387904)(y:R (hQ (hY (lm l sub))) w):callE P lV #[hX (bs l),hX (bs sub)] R w:=by
 refine kM.sound ?_
 intro X O
 have V: ∀(k i:Nat),l.length<k+i->i<=l.length+1->(match kO sub l k i with|some i=>(i:Int)|none=> -1)=lm l sub->X (bs l) (bs sub) i w:=by
  intro k
  induction k with
  |zero=>
   intro i a6 hi g
   have E:i64.wrap ((i:Int)+(sub.length:Int))=((i+sub.length:Nat):Int):=by rw[i64_in _ (by omega)];omega
   refine O _ _ _ _ (af (by rw[aJ,aJ,E];simp;omega) ?_)
   rw[<-g] at y
   exact y
  |succ k W=>
   intro i a6 hi g
   have E:i64.wrap ((i:Int)+(sub.length:Int))=((i+sub.length:Nat):Int):=by rw[i64_in _ (by omega)];omega
   simp only[kO] at g
   by_cases U:i+sub.length<=l.length
   ·rw[if_pos U] at g
    refine O _ _ _ _ (ag (by rw[aJ,aJ,E];simp;omega) ?_)
    rw[aJ,aJ,E]
    refine⟨by omega,by omega,by omega,?_⟩
    rw[lC0,lC0,cj,cJ,cJ]
    have ht:(l.take (i+sub.length)).drop i=(l.drop i).take sub.length:=by rw[List.drop_take];congr 1;omega
    rw[ht]
    by_cases I:(l.drop i).take sub.length=sub
    ·rw[if_pos I] at g
     rw[<-g] at y
     exact ag (by simpa using I) y
    ·rw[if_neg I] at g
     refine af (by simpa using I) ?_
     rw[aN (by omega)]
     exact W (i+1) (by omega) (by omega) g
   ·rw[if_neg U] at g
    refine O _ _ _ _ (af (by rw[aJ,aJ,E];simp;omega) ?_)
    rw[<-g] at y
    exact y
 exact V (l.length+1) 0 (by omega) (by omega) rfl
theorem j7 {l sub:List UInt8}(y:l.length<4611686018427387904)(hs:sub.length<4611686018427387904)(g:R (hQ (hV (idx l sub).isSome)) w):callE P jb #[hX (bs l),hX (bs sub)] R w:=by
 refine nF.sound ?_
 refine kh y hs ⟨_,rfl,?_⟩
 have:decide (lm l sub >= 0)=(idx l sub).isSome:=by
  unfold lm
  cases idx l sub with
  |none=>rfl
  |some i=>simp
 rw[this]
 exact g
theorem ry {c:UInt8}{l:List UInt8}(hc:c ∉ l): ∀k i,kO [c] l k i=none
 |0,i=>rfl
 |k+1,i=>by
  simp only[kO]
  split
  ·rename_i h
   simp only[lE0] at h
   rw[if_neg]
   ·exact ry hc k (i+1)
   ·intro E
    have y:c∈(l.drop i).take 1:=by
     have g:(l.drop i).take 1= [c]:=E
     rw[g];exact lN0.2 rfl
    exact hc (lW4 (lX4 y))
  ·rfl
theorem ll {c:UInt8}{l:List UInt8}(hc:c ∉ l):idx l [c]=none:=ry hc _ _

def ns (P:Program)(t:TypeId)(y:String)(f:FuncId):Bool:=
 match P.info? t,P.underlying t with
 |some i,some (.pointer _)=>match i.methods.find? (·.name==y) with
  |some m=>m.path.isEmpty && (match m.func with|some (g,true)=>Nat.beq g f|_=>false)
  |none=>false
 |_,_=>false
theorem Cp {P:Program}{t:TypeId}{y:String}{f:FuncId}(h:ns P t y f=true)(q:Option Addr)(E:Nat)(w:World):
 (Go.method (E+1) t (kT q) y).run P w= .ok (f,kT q) w:=by
 unfold ns at h
 split at h
 ·rename_i i e hi a6
  split at h
  ·rename_i m W
   simp only[lL1] at h
   obtain⟨U,h⟩:=h
   split at h
   ·rename_i g O
    have V:=lJ1 h
    subst V
    have I:m.path= #[]:=by simpa using U
    simp[Go.method,typeInfo,hi,W,I,Go.follow,O,Go.receiverAt,run_underlying a6,Go.Place.get]
   ·cases h
  ·cases h
 ·cases h
theorem uF (P:Program): ∃n,P.types.size+Made.depth=n+1:=by
 have h:0<Made.depth:=by decide
 exact⟨P.types.size+(Made.depth - 1),by omega⟩
theorem bm {t:TypeId}{y:String}{f:FuncId}{q:Option Addr}{g:Array Value}(E:ns P t y f=true)(h:callE P f (#[kT q]++g) R w):
 de P (callMethod (.iface t (kT q)) y g) R w:=by
 obtain⟨n,I⟩:=uF P
 have hr:=Cp E q n w
 have e:(callMethod (.iface t (kT q)) y g).run P w=(callFunc f (#[kT q]++g)).run P w:=by
  simp only[callMethod,lX0,run_program,lJ0,I,hr]
 unfold de
 rw[e]
 exact h.imp (λh=>⟨f,_,w,h.1 _ _,h.2⟩) id
theorem Sat.same {O:Out}{w g:World}{L L':List ai}(h:Sat σ w L)(I:Sat O g L'){b i:Nat}{o:Obj}(E:(b,o)∈L)(y:(b,o)∈L')(n:Nat):SameC w g (hZ b i) n:=by
 intro k _
 rw[lK0]
 unfold World.cell?
 rw[h.at_ _ E,I.at_ _ y]
theorem n8:ns P ah "pub-paratext/pub/rscmarkdown.pos" jZ=true:=by kernel_rfl
theorem kC:ns P ah "pub-paratext/pub/rscmarkdown.blocks" iM=true:=by kernel_rfl
theorem wT:ns P ah "pub-paratext/pub/rscmarkdown.newText" fk=true:=by kernel_rfl
theorem tP:ns P ar "pub-paratext/pub/rscmarkdown.build" iN=true:=by kernel_rfl
theorem tO:ns P iB "pub-paratext/pub/rscmarkdown.build" iL=true:=by kernel_rfl

def lG (c:UInt8):Bool:=c==32||c==9||c==10
def oX (l:List UInt8)(i:Nat):Nat:=l.length - ((l.drop i).dropWhile lG).length
theorem sB {l:List UInt8}{i:Nat}(a6:l.length<4611686018427387904)(hi:i<=l.length)(V:R (hQ (hY (oX l i))) w):callE P kG #[hX (bs l),hY i] R w:=by
 refine iV.sound ?_
 intro X E
 refine D0 (l:=l) (X:=λi=>X (bs l) (i:Int) w) (p:=lG) (λi hi U W=>E _ _ _ ?_) i hi (λj a7 I O=>E _ _ _ ?_)
 ·refine⟨λ_=>⟨by omega,by simp;omega⟩,λ_=>⟨by omega,by simp;omega⟩,λ_=>⟨by omega,by simp;omega⟩,ag ?_ ?_⟩
  ·rw[dh hi 32 32 rfl,dh hi 9 9 rfl,dh hi 10 10 rfl]
   simpa[hi,lG] using U
  ·rw[aN (by omega)];exact W
 ·have y: ∀ {b:Bool},(decide ((j:Int)<((bs l).size:Int)) && b)=true->j<l.length:=by
   intro b h
   simp only[lL1,decide_eq_true_eq,aJ] at h
   omega
  refine⟨λh=>⟨by omega,by simpa using h⟩,λh=>⟨by omega,by have:=y h;simp;omega⟩,λh=>⟨by omega,by have:=y h;simp;omega⟩,af ?_ ?_⟩
  ·by_cases g:j<l.length
   ·rw[dh g 32 32 rfl,dh g 9 9 rfl,dh g 10 10 rfl]
    simpa[g,lG] using I g
   ·simp[g]
  ·have:oX l i=j:=by
    rw[oX,<-O,lM1];omega
   rw[<-this];exact V
theorem ym {t xt:TypeId}{v:Value}(g: ∀y,P.underlying t≠some (.interface y)){d:TypeDesc}(hd:P.underlying t=some d)(w:World):
 (Instr.typeAssert (.iface t v) xt t false).run P w= .ok v w:=by
 cases d<;>first|(exact absurd hd (g _))|simp[Instr.typeAssert,run_underlying hd]
theorem E6:P.underlying ah=some (.pointer gO):=by kernel_rfl
theorem G6 (q:Option Addr)(w:World):(Instr.typeAssert (.iface ah (kT q)) mc ah false).run P w= .ok (kT q) w:=
 ym (by rw[E6];intro g h;cases h) E6 w
theorem pE {q:Option Addr}{l:List UInt8}(W:l.length<4611686018427387904)(hb:(l.dropWhile lG).head? ≠some 91)(V:R (hQ (.tuple #[hY 0,hV false])) w):
 callE P gU #[.iface ah (kT q),hX (bs l)] R w:=by
 refine jG.sound ?_
 refine sB (i:=0) W (lB2 _) ⟨_,rfl,q,w,G6 q w,?_⟩
 generalize a6:oX l 0=j
 have b3:(l.dropWhile lG).length<=l.length:=(lO2 lG).length_le
 have a7:j+(l.dropWhile lG).length=l.length:=by rw[<-a6,oX,lM2];omega
 have E:l.drop j=l.dropWhile lG:=by
  obtain⟨pre,y⟩:=lU4 lG (l:=l)
  have I:pre.length=j:=by have:=congrArg List.length y;simp at this;omega
  exact(congrArg (List.drop j) y).symm.trans (by rw[<-I,lC4])
 refine j3.sound ?_
 have U:(!(decide ((j:Int) >= ((bs l).size:Int))))=true->j<l.length:=by
  intro h;simp at h;exact h
 refine⟨λh=>⟨by omega,by have:=U h;simp;omega⟩,ag ?_ ⟨_,_,_,rfl,?_⟩⟩
 ·by_cases g:j<l.length
  ·have:l[j]≠91:=by
    intro O
    apply hb
    rw[<-E,lI1 g,O]
    rfl
   rw[bne,dh g 91 91 rfl]
   simp[this]
  ·simp;omega
 ·refine⟨λh=>by simp at h,ag rfl V⟩
def EZ (l:List UInt8):Prop:= ∀(R:Ending->World->Prop) (w:World) (q:Option Addr),R (hQ (.tuple #[hY 0,hV false])) w->callE P gU #[.iface ah (kT q),hX (bs l)] R w
theorem El {l:List UInt8}(y:l.length<4611686018427387904)(hb:(l.dropWhile lG).head? ≠some 91):EZ l:=λ_ _ _ g=>pE y hb g
theorem Et {q:Option Addr}{c:Nat}{s sep:List UInt8}{g:List ai}(h:Sat σ w (g++L))(y:Sl 1 aq q 1 c [hX (bs s)] g)(E: ∀w,Sat σ w (g++L)->R (hQ (hX (bs s))) w):callE P ga #[hT q 1 c,hX (bs sep)] R w:=by
 refine bV.sound ?_
 obtain⟨_,_,hz|⟨I,sp,rfl,rfl,_⟩⟩:=y
 ·omega
 ·refine af rfl (ag rfl ⟨by decide,by decide,aa ?_⟩)
  exact⟨_,Sat.ld h (.head _) rfl,E _ h⟩

theorem uk {b:Nat}{p:PS}{l:List OB}{o:OB}{M:List ai}(h:Sat σ w (p.at b::M++L))(hs:Stk p (l++ [o]) M)(E: ∀w,Sat σ w (p.at b::M++L)->R (hQ (.agg #[hY o.s,hY o.e])) w):callE P jZ #[kT (kE b)] R w:=by
 obtain⟨sb,sp,I,rfl,O⟩:=hs.split (by simp)
 have g:=hs.2.1
 have y:=hs.2.2
 rw[lA0,lE0] at g y
 refine j2.sound ?_
 refine Sat.bx h λb1 w h=>?_
 repeat (first|refine aa ?_|refine h.tk λw h=>?_|refine⟨_,h.ldA,?_⟩|refine⟨_,_,_,h.ldA,?_⟩)
 rw[g,kD (by omega)]
 refine⟨by omega,by omega,?_⟩
 rw[I]
 refine aa ?_
 simp only[lK0,lO0,lC0,lN1]
 refine⟨_,Sat.ld h (by first|assumption|(repeat (first|exact .head _|apply List.Mem.tail))) (fu (f:=2) (by decide) (iC o)),?_⟩
 refine⟨_,Sat.ld h (by first|assumption|(repeat (first|exact .head _|apply List.Mem.tail))) (fu (f:=3) (by decide) (iC o)),?_⟩
 repeat (first|refine aa ?_|refine h.tk λw h=>?_|refine⟨_,h.ldA,?_⟩|refine⟨_,_,_,h.ldA,?_⟩|refine h.stA 0 λw h=>?_|refine h.stA 1 λw h=>?_|refine h.stA 2 λw h=>?_|refine h.stA 3 λw h=>?_|refine h.stA 4 λw h=>?_|refine h.stA 5 λw h=>?_|refine h.stA 6 λw h=>?_|refine h.bx λb0 w h=>?_)
 exact E _ h.tail
noncomputable def F3:Row P kr dW 1 8:=
 ⟨(P.info? dW).getD default,((P.info? dW).bind (·.zero)).getD default,by kernel_rfl,by kernel_rfl,by kernel_rfl,by kernel_rfl,by kernel_rfl,by kernel_rfl,by decide⟩
def Txts (p:PS)(ts:List Nat)(M:List ai):Prop:=Sl 1 dW p.tq p.tn p.tc (ts.map λt=> kT (kE t)) M/\p.tn=ts.length/\ts.length<1048576
def fC (t:Nat)(s e:Nat)(q:Option Addr)(n c:Nat)(raw:List UInt8):ai:=(t,cel [hY s,hY e,hT q n c,hX (bs raw)] BC)
theorem un {b s e:Nat}{p:PS}{ts:List Nat}{y:List ai}{raw:List UInt8}(h:Sat σ w (p.at b::y++L))(ht:Txts p ts y)(W:ts.length<1048575)(U: ∀w p' g t,p'= {p with tq:=p'.tq,tn:=ts.length+1,tc:=p'.tc}->Txts p' (ts++ [t]) g->Sat σ w (p'.at b::g++(fC t s e none 0 0 raw::L))->
  R (hQ (kT (kE t))) w):
 callE P fk #[kT (kE b),.agg #[hY s,hY e],hX (bs raw)] R w:=by
 have V:=ht.2.1
 refine io.sound ?_
 refine Sat.bx h λb1 w h=>?_
 repeat (first|refine aa ?_|refine h.tk λw h=>?_|refine⟨_,h.ldA,?_⟩|refine⟨_,_,_,h.ldA,?_⟩)
 refine Sat.bx h λt w h=>?_
 repeat (first|refine aa ?_|refine h.tk λw h=>?_|refine⟨_,h.ldA,?_⟩|refine⟨_,_,_,h.ldA,?_⟩)
 have h:Sat σ w (fC t s e none 0 0 raw::(b1,cel [hY s,hY e] aF)::(p.at b::y++L)):=h
 have h:Sat σ w (y++(p.at b::fC t s e none 0 0 raw::L)):=h.less [(b1,cel [hY s,hY e] aF)]
 refine Sat.app1 F3 ht.1 h (v:= kT (kE t)) rfl (by simp[Value.cells,Value.oneCell']) (by kernel_rfl) (by omega) (by omega) (by decide) λI O w g E h=>?_
 have h:Sat σ w (p.at b::g++(fC t s e none 0 0 raw::L)):=h.re
 rw[V] at E⊢
 let p':PS:= {p with tq:=I,tn:=ts.length+1,tc:=O}
 repeat (first|refine aa ?_|refine h.tk λw h=>?_|refine⟨_,h.ldA,?_⟩|refine⟨_,_,_,h.ldA,?_⟩|refine h.stA 0 λw h=>?_|refine h.stA 1 λw h=>?_|refine h.stA 2 λw h=>?_|refine h.stA 3 λw h=>?_|refine h.stA 4 λw h=>?_|refine h.stA 5 λw h=>?_|refine h.stA 6 λw h=>?_|refine h.bx λb0 w h=>?_)
 refine U _ p' g t rfl ⟨?_,by simp[p'],by simp;omega⟩ h
 rw[lV0]
 exact E

theorem wh:P.underlying ft=some (.pointer sk):=by kernel_rfl
def lE (nb s e t:Nat):ai:=(nb,cel [hY s,hY e,kT (kE t)] m7)
theorem Stk.of {p p':PS}{l:List OB}{M:List ai}(h:Stk p l M)(E:p'.stq=p.stq)(y:p'.stn=p.stn)(g:p'.stc=p.stc):Stk p' l M:=by
 unfold Stk at*;rw[E,y,g];exact h
theorem Txts.of {p p':PS}{l:List Nat}{M:List ai}(h:Txts p l M)(E:p'.tq=p.tq)(y:p'.tn=p.tn)(g:p'.tc=p.tc):Txts p' l M:=by
 unfold Txts at*;rw[E,y,g];exact h

theorem qM {t u:TypeId}{v:Value}{y:Array (String × TypeId)}(g:P.underlying t=some (.interface y))(d:Nat)(w:World):
 (Op.equalIn (d+1) t (.iface u v) .nilIface).run P w= .ok false w:=by
 simp[Op.equalIn,run_underlying g]
theorem nL {t u:TypeId}{v:Value}{E:Array (String × TypeId)}(g:P.underlying t=some (.interface E))(x I:Operand)(w:World):
 (do eqGuard .eql t x I (.iface u v) .nilIface;binOp .eql t (.iface u v) .nilIface).run P w= .ok (hV false) w:=
 xK rfl rfl (qM g 9999 w)
theorem kj {t:TypeId}{v:Value}(ht:t≠dn)(w:World):
 (Instr.typeAssert (.iface t v) aO dn true).run P w= .ok (.tuple #[kT none,hV false]) w:=by
 have g:P.underlying dn=some (.pointer uT):=by kernel_rfl
 exact u5 (by rw[g];intro y h;cases h) g ht (i:=(P.info? dn).getD default) (by kernel_rfl) (by kernel_rfl) w
theorem vb {P:Program}{t e:TypeId}{i:TypeInfo}(ht:P.underlying t=some (.slice e))(hi:P.info? e=some i)(b n c m:Nat)(y:m<=n)(hc:n<=c)(w:World):
 (Instr.sliceAt t (hT (kE b) n c) none (some (hY m)) none).run P w= .ok (hT (kE b) m c) w:=by
 have E: ¬ ((m:Int)<0):=by omega
 have g: ¬ ((c:Int)<(m:Int)):=by omega
 simp[Instr.sliceAt,Instr.slice,Instr.sliceBounds,run_underlying ht,sizeOf,typeInfo,hi,run_sliceBound w .i64 (m:Int) c .sliceAcap (by omega) (by omega),lK0]

noncomputable def rowBlock:Row P f9 aO 1 16:=
 ⟨(P.info? aO).getD default,((P.info? aO).bind (·.zero)).getD default,by kernel_rfl,by kernel_rfl,by kernel_rfl,by kernel_rfl,by kernel_rfl,by kernel_rfl,by decide⟩
theorem pW {b:Nat}{p:PS}{ob:List OB}{par o:OB}{M IM:List ai}{inner:List Value}{t:TypeId}{v:Value}(Post:PS->List ai->TypeId->Option Addr->Prop)(h:Sat σ w (p.at b::M++(IM++L)))(hs:Stk p (ob++ [par]++ [o]) M)(d2:o.bd= .iface t v)(c8:Sl 1 aO par.q par.n par.c inner IM)(d3:par.n<1000000)(hb: ∀(b3:Ending->World->Prop) w,Sat σ w (p.at b::M++(IM++L))->
  (∀w g y E q,g.stq=p.stq->g.stn=p.stn->g.stc=p.stc->E≠dn->Post g y E q->Sat σ w (g.at b::M++(IM++y))->b3 (hQ (.iface E (kT q))) w)->
  de P (callMethod o.bd "pub-paratext/pub/rscmarkdown.build" #[.iface ah (kT (kE b))]) b3 w)
 (c9: ∀w p2 b5 U g y E q I O,Post g y E q->p2= {g with stn:=ob.length+1}->Stk p2 (ob++ [{par with q:=I,n:=par.n+1,c:=O}]) b5->
  Sl 1 aO I (par.n+1) O (inner++ [.iface E (kT q)]) U->Sat σ w (p2.at b::b5++(U++y))->R (hQ (.iface E (kT q))) w):
 callE P aI #[kT (kE b)] R w:=by
 have c5:=hs.2.2
 have V:=hs.2.1
 obtain⟨sb,sp,b4,rfl,c1⟩:=hs.split (by simp)
 simp only[lA0,lE0] at V c5
 refine aK.sound ?_
 refine h.tk λw h=>?_
 refine aa (aa ?_)
 refine⟨_,_,_,h.ldA,?_⟩
 refine⟨_,_,_,h.ldA,?_⟩
 rw[V,kD (by omega)]
 refine⟨by omega,by omega,?_⟩
 rw[b4]
 refine aa ?_
 simp only[lK0,lO0,lC0]
 have a7:((ob++ [par])++ [o])[ob.length+1]? =some o:=by simp
 refine⟨o.bd,Sat.ld h (.tail _ (.head _)) (fu (f:=0) (by decide) a7),false,w,by rw[d2];exact nL tZ _ _ w,af rfl ?_⟩
 refine aa ?_
 refine⟨o.bd,Sat.ld h (.tail _ (.head _)) (fu (f:=0) (by decide) a7),?_⟩
 refine hb _ w h λw g y E q d0 d1 a6 c3 b6 h=>⟨_,rfl,none,false,w,kj c3 w,af rfl ?_⟩
 have W:g.stq=kE sb:=by rw[d0,b4]
 have c2:g.stn=ob.length+1+1:=by rw[d1,V]
 refine h.tk λw h=>?_
 refine aa (aa ?_)
 refine⟨_,_,_,h.ldA,?_⟩
 refine⟨_,_,_,h.ldA,?_⟩
 rw[c2,kD (by omega),W]
 have b7:ob.length+1+1<=g.stc:=by have:=hs.1.2.1;rw[V] at this;rw[a6];exact this
 refine⟨_,_,_,λw=>vb rowOB.ht rowOB.hi sb (ob.length+1+1) g.stc (ob.length+1) (by omega) b7 w,?_⟩
 refine aa ?_
 refine h.stA 0 λw h=>?_
 let p2:PS:= {g with stq:=kE sb,stn:=ob.length+1}
 have b8:p2= {g with stn:=ob.length+1}:=by simp only[p2,<-W]
 have h:Sat σ w (p2.at b:: [(sb,cel (aP (ob++ [par])++(o.cells++sp)) ay)]++(IM++y)):=by
  rw[i9,lD0] at h
  exact h
 refine aa ?_
 refine⟨_,_,_,h.ldA,?_⟩
 refine ag (by simp[p2]) ?_
 refine h.tk λw h=>?_
 refine aa (aa ?_)
 refine⟨_,_,_,h.ldA,?_⟩
 refine⟨_,_,_,h.ldA,?_⟩
 rw[show p2.stn=ob.length+1 from rfl,kD (by omega),show p2.stq=kE sb from rfl]
 refine⟨by omega,by omega,aa ?_⟩
 simp only[lK0,lO0,lC0,lN1]
 refine⟨_,_,_,Sat.ld h (.tail _ (.head _)) (fu (f:=1) (by decide) (iC par)),?_⟩
 have h:Sat σ _ (IM++(p2.at b::(sb,cel (aP (ob++ [par])++(o.cells++sp)) ay)::y)):=h.re
 refine Sat.app1 rowBlock c8 h (v:= .iface E (kT q)) rfl (by simp[Value.cells,Value.oneCell']) (by kernel_rfl) (by omega) (by omega) (by decide) λI O w U c4 h=>?_
 have h:Sat σ _ (p2.at b::(sb,cel (aP (ob++ [par])++(o.cells++sp)) ay)::(U++y)):=h.re
 refine Sat.st h (k:=1) rfl (by rw[lA0,aR,lA0,lE0];omega) trivial rfl λw h=>?_
 have e:=lC (l:=ob) (sp:=o.cells++sp) (o:=par) (o':= {par with q:=I,n:=par.n+1,c:=O}) (f:=1) (v:= hT I (par.n+1) O) (by decide) rfl
 have h:Sat σ w (p2.at b::(sb,cel (aP (ob++ [{par with q:=I,n:=par.n+1,c:=O}])++(o.cells++sp)) ay)::(U++y)):=by
  rw[<-e];exact h
 have b9:Stk p2 (ob++ [{par with q:=I,n:=par.n+1,c:=O}]) [(sb,cel (aP (ob++ [{par with q:=I,n:=par.n+1,c:=O}])++(o.cells++sp)) ay)]:=by
  refine Stk.mk' rfl ?_ (by simp[p2]) (by simp;omega)
  show _=g.stc*4
  rw[a6,<-c1]
  simp only[lA0,aR,lE0,OB.cells,lF0,lK1]
  omega
 refine c9 w p2 _ U g y E q I O b6 b8 b9 c4 h

def Br (db s e:Nat)(q:Option Addr)(n c:Nat)(links:Option Nat):ai:=(db,cel [hY s,hY e,hT q n c,.map links] oT)
theorem wA {b:Nat}{g:Option Addr}{p:PS}{ob:List OB}{o:OB}{M:List ai}(h:Sat σ w (p.at b::M++L))(hs:Stk p (ob++ [o]) M)(y: ∀w db,Sat σ w (p.at b::M++(Br db o.s o.e o.q o.n o.c p.links::L))->R (hQ (.iface df (kT (kE db)))) w):
 callE P iL #[kT g,.iface ah (kT (kE b))] R w:=by
 refine iW.sound ?_
 refine h.tk λw h=>?_
 refine⟨_,G6 _,aa ?_⟩
 refine⟨_,h.ldA,?_⟩
 have h0:=h
 refine bm n8 ?_
 refine uk h hs λw h=>⟨_,_,rfl,h0.same h (.head _) (.head _) 1,?_⟩
 have E:=h
 refine bm kC ?_
 refine nQ h hs λw h=>⟨_,_,_,rfl,E.same h (.head _) (.head _) 1,?_⟩
 refine Sat.bx h λdb w h=>?_
 have h:Sat σ w (Br db o.s o.e o.q o.n o.c p.links::(p.at b::M++L)):=h
 exact y w db (h.re)
theorem G7 (q:Option Addr)(w:World):(Instr.typeAssert (.iface df (kT q)) aO df false).run P w= .ok (kT q) w:=by
 have g:P.underlying df=some (.pointer oT):=by kernel_rfl
 exact ym (by rw[g];intro y h;cases h) g w
theorem xH {b V:Nat}{p:PS}{o:OB}{M:List ai}(h:Sat σ w (p.at b::M++L))(hs:Stk p [o] M)(E:o.bd= .iface iB (kT (kE V)))(U: ∀w db,Sat σ w ({p with stn:=0,root:=kE db}.at b::M++(Br db o.s o.e o.q o.n o.c p.links::L))->R (hQ (.iface df (kT (kE db)))) w):
 callE P aI #[kT (kE b)] R w:=by
 have g:=hs.2.1
 have O:Stk p ([]++ [o]) M:=hs
 obtain⟨sb,sp,y,rfl,W⟩:=hs.split (by simp)
 simp only[lE0] at g
 refine aK.sound ?_
 refine h.tk λw h=>?_
 refine aa (aa ?_)
 refine⟨_,_,_,h.ldA,?_⟩
 refine⟨_,_,_,h.ldA,?_⟩
 rw[g,show i64.wrap (((1:Nat):Int) - 1)=((0:Nat):Int) from rfl]
 refine⟨by omega,by omega,?_⟩
 rw[y]
 refine aa ?_
 simp only[lK0,lO0,lC0,lO6]
 have a6:(([]:List OB)++ [o])[0]? =some o:=rfl
 refine⟨o.bd,Sat.ld h (.tail _ (.head _)) rfl,false,w,by rw[E];exact nL tZ _ _ w,af rfl ?_⟩
 refine aa ?_
 refine⟨o.bd,Sat.ld h (.tail _ (.head _)) rfl,?_⟩
 rw[E]
 refine bm tO ?_
 refine wA (ob:= []) h O λw db h=>⟨_,rfl,none,false,w,kj (by decide) w,af rfl ?_⟩
 refine h.tk λw h=>?_
 refine aa (aa ?_)
 refine⟨_,_,_,h.ldA,?_⟩
 refine⟨_,_,_,h.ldA,?_⟩
 have I:1<=p.stc:=by have:=hs.1.2.1;rw[g] at this;exact this
 rw[g,show i64.wrap (((1:Nat):Int) - 1)=((0:Nat):Int) from rfl,y]
 refine⟨_,_,_,λw=>vb rowOB.ht rowOB.hi sb 1 p.stc 0 (by omega) I w,?_⟩
 refine aa ?_
 refine h.stA 0 λw h=>?_
 refine aa ?_
 refine⟨_,_,_,h.ldA,?_⟩
 refine af rfl ?_
 refine⟨_,_,G7 _ _,aa ?_⟩
 refine h.stA 0 λw h=>?_
 refine U _ db ?_
 have e:({p with stn:=0,root:=kE db}:PS)= {p with stq:=kE sb,stn:=0,root:=kE db}:=by rw[<-y]
 rw[e]
 exact h

noncomputable def rowInl:Row P ap aC 1 16:=
 ⟨(P.info? aC).getD default,((P.info? aC).bind (·.zero)).getD default,by kernel_rfl,by kernel_rfl,by kernel_rfl,by kernel_rfl,by kernel_rfl,by kernel_rfl,by decide⟩
def Inls (p:PS)(vs:List Value)(M:List ai):Prop:=Sl 1 aC p.lq p.ln p.lc vs M/\vs.length<4294967296
def rk (b:Nat)(s:List UInt8):ai:=(b,cel [hX (bs s)] nW)
theorem wv {b:Nat}{p:PS}{i:Int}(h:Sat σ w (p.at b::L))(g: ∀w,Sat σ w ({p with em:=i}.at b::L)->R (hQ (.tuple #[])) w):
 callE P gS #[kT (kE b),hY i] R w:=by
 refine jC.sound ?_
 refine aa ?_
 refine h.stA 0 λw h=>?_
 exact g _ h
theorem C8 {b:Nat}{p:PS}{i:Int}(h:Sat σ w (p.at b::L))(hi:i<=p.em)(g: ∀w,Sat σ w (p.at b::L)->R (hQ (.tuple #[])) w):
 callE P du #[kT (kE b),hY i] R w:=by
 refine gX.sound ?_
 refine aa ?_
 refine⟨_,h.ldA,?_⟩
 exact af (by simpa using hi) (g _ h)
theorem C7 {b i e:Nat}{p:PS}{vs:List Value}{M:List ai}(h:Sat σ w (p.at b::M++L))(hv:Inls p vs M)(E:p.em=e)(hi:e<i)(b3:i<=p.s.length)(b4:vs.length<4294967295)(W: ∀w p' g nb,p'= {p with em:=i,lq:=p'.lq,ln:=vs.length+1,lc:=p'.lc}->Inls p' (vs++ [.iface bI (kT (kE nb))]) g->
  Sat σ w (p'.at b::g++(rk nb ((p.s.take i).drop e)::L))->R (hQ (.tuple #[])) w):
 callE P du #[kT (kE b),hY i] R w:=by
 have I:p.ln=vs.length:=by have:=hv.1.1;omega
 refine gX.sound ?_
 refine aa ?_
 refine⟨_,h.ldA,?_⟩
 rw[E]
 refine ag (by simpa using hi) ?_
 refine h.tk λw h=>?_
 refine aa (aa (aa ?_))
 refine⟨_,_,_,h.ldA,?_⟩
 refine⟨_,h.ldA,?_⟩
 refine⟨_,h.ldA,?_⟩
 rw[E]
 refine⟨by omega,by omega,by simp;omega,?_⟩
 rw[lC0,lC0,cj]
 have h0:=h
 refine Sat.bx h λnb w h=>?_
 refine⟨h0.same h (.head _) (.tail _ (.head _)) 1,?_⟩
 have h:Sat σ w (M++(p.at b::rk nb ((p.s.take i).drop e)::L)):=Sat.re (L:=rk nb ((p.s.take i).drop e)::(p.at b::M++L)) h
 have a7:=h0
 refine Sat.app1S rowInl hv.1 h (v:= .iface bI (kT (kE nb))) rfl (by simp[Value.cells,Value.oneCell']) (by kernel_rfl) (by omega) (by omega) (by decide)
  (C:=λy=>SameC _ y _ 1) (λy X a6=>Sat.same h a6 (b:=b) (o:=cel p.cells gO) (by simp) (by simp) 1) λU V w g O h=>?_
 have h:Sat σ w (p.at b::g++(rk nb ((p.s.take i).drop e)::L)):=h.re
 let p':PS:= {p with em:=i,lq:=U,ln:=p.ln+1,lc:=V}
 refine aa ?_
 refine h.stA 0 λw h=>?_
 refine aa ?_
 refine h.stA 0 λw h=>?_
 refine W _ p' g nb (by simp[p',I]) ⟨O,by simp;omega⟩ h
def fz (R:EP)(W:OA)(w:World):Prop:=
 tk w λg=>
 aA W λa2=>
 aA W λa3=>
 ∃I O E,g.cell? (a2.add 1)=some (hT I O E)/\
 ∃b4 U b3,g.cell? (a3.add 1)=some (hT b4 U b3)/\
 ∃V y,(Builtin.unsafeSliceData_ #[bK] qm #[hT I O E]).run P g= .ok (kT V) y/\
 SameC g y (a3.add 1) 1/\
 ∃a6 a7,(Builtin.unsafeString_ #[qm,ba] aq #[kT V,hY (U:Int)]).run P y= .ok (hX a6) a7/\
 R (hQ (hX a6)) a7
theorem fz.sound {R x0 w}(h:fz R x0 w):callE P dt #[kT x0] R w:=
 aG [(5,.dr (rpN [0,3,6,15,18,21,10,25,27,14,32,33]))] Tryz.func75 Tryz.call75 h
def eK (R:EP)(g:OA)(b7:Int)(w:World):Prop:=
 callE P cF #[kT g] (λe b5=>e= hQ (.tuple #[])/\
 aA g λa3=>
 ∃E U y,b5.cell? (a3.add 1)=some (hT E U y)/\
 ∃V I,∃W b3,(Instr.buildSlice bK 1 #[(0,.int .u8 b7)]).run P b5= .ok (hT V I W) b3/\
 ∃O a7,∃a6 b4,(Builtin.append_ #[bK,bK] bK #[hT E U y,hT V I W]).run P b3= .ok (hT O a7 a6) b4/\
 aA g λa9=>
 stV b4 ((a9.add 1).add 0) (hT O a7 a6) λb6=>
 R (.returned .nilIface) b6) w
theorem eK.sound {R x0 x1 w}(h:eK R x0 x1 w):callE P bT #[kT x0,.int .u8 x1] R w:=
 cE Tryz.func74 Tryz.call74 h
def d7 (R:EP)(g:OA)(b3:BA)(w:World):Prop:=
 callE P cF #[kT g] (λe a6=>e= hQ (.tuple #[])/\
 aA g λa3=>
 ∃E O y,a6.cell? (a3.add 1)=some (hT E O y)/\
 ∃U I,∃V W,(Builtin.append_ #[bK,aq] bK #[hT E O y,hX b3]).run P a6= .ok (hT U I V) W/\
 aA g λb5=>
 stV W ((b5.add 1).add 0) (hT U I V) λb4=>
 R (hQ (.tuple #[hY (b3.size:Int),.nilIface])) b4) w
theorem d7.sound {R x0 x1 w}(h:d7 R x0 x1 w):callE P bw #[kT x0,hX x1] R w:=
 cE Tryz.func73 Tryz.call73 h
def eJ (R:EP)(g:OA)(w:World):Prop:=
 aA g λa1=>
 ∃I,w.cell? a1=some (kT I)/\
 ∃a6 y,(do eqGuard .eql cT (.tmp 5) (.const (kT none)) (kT I) (kT none);binOp .eql cT (kT I) (kT none)).run P w= .ok (hV a6) y/\
 br a6
 (∃b3 W,(convert cT jq (kT g)).run P y= .ok (kT b3) W/\
 callE P fJ #[kT b3] (λe b6=> ∃b4,e= hQ (kT b4)/\
 ∃a7 V,(convert jq cT (kT b4)).run P b6= .ok (kT a7) V/\
 aA g λa11=>
 stV V (a11.add 0) (kT a7) λb5=>
 R (hQ (.tuple #[])) b5) W)
 (aA g λa13=>
 ∃E,y.cell? a13=some (kT E)/\
 ∃U O,(do eqGuard .neq cT (.tmp 17) (.tmp 18) (kT E) (kT g);binOp .neq cT (kT E) (kT g)).run P y= .ok (hV U) O/\
 br U
 (False)
 (R (hQ (.tuple #[])) O))
theorem eJ.sound {R x0 w}(h:eJ R x0 w):callE P cF #[kT x0] R w:=
 aG [(23,.no)] Tryz.func103 Tryz.call103 h
def dM (R:EP)(E:BA)(I:Int)(w:World):Prop:=
 callE P dx #[hX E,.int .u8 I] (λe y=> ∃g,e= hQ (hY g)/\
 R (hQ (hY g)) y) w
theorem dM.sound {R x0 x1 w}(h:dM R x0 x1 w):callE P fi #[hX x0,.int .u8 x1] R w:=
 cE Tryz.func232 Tryz.call232 h
def iT (R:EP)(E:BA)(I:Int)(w:World):Prop:=
 callE P fi #[hX E,.int .u8 I] (λe y=> ∃g,e= hQ (hY g)/\
 R (hQ (hY g)) y) w
theorem iT.sound {R x0 x1 w}(h:iT R x0 x1 w):callE P iJ #[hX x0,.int .u8 x1] R w:=
 cE Tryz.func178 Tryz.call178 h

noncomputable def rowU8:Row P bK dz 1 1:=
 ⟨(P.info? dz).getD default,((P.info? dz).bind (·.zero)).getD default,by kernel_rfl,by kernel_rfl,by kernel_rfl,by kernel_rfl,by kernel_rfl,by kernel_rfl,by decide⟩
def bc (l:List UInt8):List Value:=l.map λc=> .int .u8 (c.toNat:Int)
@[simp] theorem tE (l:List UInt8):(bc l).length=l.length:=by simp[bc]
theorem xL (a b:List UInt8):bc (a++b)=bc a++bc b:=by simp[bc]
theorem Fz {l:List UInt8}{j:Nat}(h:j<l.length):(bc l)[j]? =some (.int .u8 (l[j].toNat:Int)):=by simp[bc,h]
abbrev By (q:Option Addr)(n c:Nat)(l:List UInt8)(M:List ai):Prop:=Sl 1 dz q n c (bc l) M
theorem By.len {q:Option Addr}{n c:Nat}{l:List UInt8}{M:List ai}(h:By q n c l M):n=l.length:=by
 have:=h.1
 rw[tE] at this
 omega
theorem By.nil:By none 0 0 [] []:=Sl.nil 1 dz
theorem xJ (s:List UInt8):Go.byteCells (bs s)=bc s:=by
 simp[Go.byteCells,bc,bs]
theorem By.appS {q:Option Addr}{n c:Nat}{l:List UInt8}{M:List ai}(a7:By q n c l M)(h:Sat σ w (M++L))(s:List UInt8)(h0:s≠ []\/q≠none)(hb:n+s.length<=1099511627776){K:Option Addr->Nat->Nat->World->Prop}(b3: ∀g y E I,By g (n+s.length) y (l++s) I->Sat σ E (I++L)->g≠none->c<=y->K g (n+s.length) y E):
 ∃g U y E,(Builtin.append_ #[bK,aq] bK #[hT q n c,hX (bs s)]).run P w= .ok (hT g U y) E/\K g U y E:=by
 have O:=Src.ofString (P:=P) (w:=w) (tx:=aq) (by kernel_rfl) (bs s)
 rw[aJ,xJ] at O
 have V:0<s.length\/q≠none:=by
  rcases h0 with h|h
  ·exact .inl (lY0.2 h)
  ·exact .inr h
 obtain⟨g,y,E,I,hr,W,b4,b5,a6⟩:=Sat.app rowU8 (ty:=bK) a7 h O V (by omega) (by omega)
 refine⟨g,_,y,E,hr,b3 g y E I ?_ b4 b5 a6⟩
 show Sl _ _ _ _ _ (bc (l++s)) _
 rw[xL]
 exact W
theorem By.app1 {q:Option Addr}{n c:Nat}{l:List UInt8}{M:List ai}(b3:By q n c l M)(h:Sat σ w (M++L))(k:UInt8)(hb:n+1<=1099511627776){K:Option Addr->Nat->Nat->World->Prop}(b4: ∀g y E I,By g (n+1) y (l++ [k]) I->Sat σ E (I++L)->K g (n+1) y E):
 ∃W O V U,(Instr.buildSlice bK 1 #[(0,.int .u8 (k.toNat:Int))]).run P w= .ok (hT W O V) U/\
 ∃g a6 y E,(Builtin.append_ #[bK,bK] bK #[hT q n c,hT W O V]).run P U= .ok (hT g a6 y) E/\K g a6 y E:=by
 refine Sat.app1 rowU8 b3 h (v:= .int .u8 (k.toNat:Int)) rfl (by simp[Value.cells,Value.oneCell']) (by kernel_rfl) (by omega) (by omega) (by decide) λg y E I b5 a7=>b4 g y E I ?_ a7
 show Sl _ _ _ _ _ (bc (l++ [k])) _
 rw[xL]
 exact b5
theorem By.str {q:Option Addr}{n c:Nat}{l:List UInt8}{M:List ai}(g:By q n c l M)(h:Sat σ w (M++L)):
 (convert bK aq (hT q n c)).run P w= .ok (hX (bs l)) w:=by
 have I:=g.len
 subst I
 obtain⟨_,_,⟨rfl,E,rfl,rfl⟩|⟨b,sp,rfl,rfl,O⟩⟩:=g
 ·obtain rfl:=lB1 E
  exact Lib.run_convert_nil_bytes w _ _ dz 0 (by kernel_rfl) (by kernel_rfl) (by kernel_rfl)
 ·refine run_convert_bytes_back w _ _ dz (hZ b 0) c l (by kernel_rfl) (by kernel_rfl) (by kernel_rfl) λj y=>?_
  rw[Addr.add_zero_lit]
  refine h.ld (.head _) ?_
  rw[lM0 (by rw[tE];exact y),Fz y]
theorem B2 {P:Program}{t e:TypeId}{i:TypeInfo}(ht:P.underlying t=some (.slice e))(hi:P.info? e=some i)(a:Option Addr)(n c l m:Nat)(y:l<=m)(g:m<=c)(w:World):
 (Instr.sliceAt t (hT a n c) (some (hY l)) (some (hY m)) none).run P w= .ok (hT (if c=l then a else a.map (·.add (l*i.size))) (m - l) (c - l)) w:=by
 simp[Instr.sliceAt,Instr.slice,Instr.sliceBounds,run_underlying ht,sizeOf,typeInfo,hi,run_sliceBound w .i64 (m:Int) c .sliceAcap (by omega) (by omega),run_sliceBound w .i64 (l:Int) m .sliceB (by omega) (by omega)]
theorem zE {P:Program}{t e:TypeId}{i:TypeInfo}(ht:P.underlying t=some (.slice e))(hi:P.info? e=some i)(a:Option Addr)(n c l:Nat)(g:l<=n)(w:World):
 (Instr.sliceAt t (hT a n c) (some (hY l)) none none).run P w= .ok (hT (if c=l then a else a.map (·.add (l*i.size))) (n - l) (c - l)) w:=by
 simp[Instr.sliceAt,Instr.slice,Instr.sliceBounds,run_underlying ht,sizeOf,typeInfo,hi,run_sliceBound w .i64 (l:Int) n .sliceB (by omega) (by omega)]
theorem rf {P:Program}{t e:TypeId}{i:TypeInfo}(ht:P.underlying t=some (.slice e))(hi:P.info? e=some i)(a:Option Addr)(n c m:Nat)(y:m<=c)(w:World):
 (Instr.sliceAt t (hT a n c) none (some (hY m)) none).run P w= .ok (hT a m c) w:=by
 have g: ∀a:Addr,a.add 0=a:=λa=>rfl
 simp[Instr.sliceAt,Instr.slice,Instr.sliceBounds,run_underlying ht,sizeOf,typeInfo,hi,run_sliceBound w .i64 (m:Int) c .sliceAcap (by omega) (by omega),g]
theorem Fw {P:Program}(t ty:TypeId)(q:Option Addr)(n c:Nat)(e:TypeId)(ht:P.underlying t=some (.slice e))(w:World):(Builtin.cap_ #[t] ty #[hT q n c]).run P w= .ok (hY c) w:=by
 simp[Builtin.cap_,underlying,ht,goInt]
end Go.Proofs.YtendaipfdnhnaaaGreatDoor

set_option maxRecDepth 20000
namespace Go.Proofs.YtendaipfdnhnaaaGreatDoor
open Go.Proofs
noncomputable abbrev mb:Func:=Tryz.f139
theorem lN:P.funcs[fJ]? =some mb:=Tryz.func139
noncomputable abbrev jd:Func:=Tryz.f263
theorem iG:P.funcs[dx]? =some jd:=Tryz.func263
noncomputable abbrev x_internal_bytealg_MakeNoZero:Func:=Tryz.f270
theorem jP:P.funcs[d6]? =some x_internal_bytealg_MakeNoZero:=Tryz.func270
end Go.Proofs.YtendaipfdnhnaaaGreatDoor


namespace Go.Proofs.YtendaipfdnhnaaaGreatDoor
open Go.Proofs Go.IntWalk Go.RowKit
set_option maxRecDepth 20000
variable {σ:Out} {w:World} {L L':List ai} {R:Ending->World->Prop} {op:Opt}

theorem C1 {f:FuncId}{g:Func}{e:Array Value->Sem Value}{E:Array Value}{v:Value}{y:World}(O:P.funcs[f]? =some g)(I:(g.name== "runtime.NumGoroutine")=false)
 (hb:g.body.isNone=true) (V:Extern.findNext g=none) (U:Extern.find g=some e) (hr:(e E).run P w= .ok v y) (h:R (hQ v) y):callE P f E R w:=by
 refine .inr ⟨v,y,?_,h⟩
 rw[run_callFunc_extern O I hb V U,hr]
 rfl
theorem yJ {x:Value}(h:R (hQ x) w):callE P fJ #[x] R w:=
 C1 (e:=Extern.AbiNoEscape.same) lN (by kernel_rfl) (by kernel_rfl) (by kernel_rfl) (by kernel_rfl) rfl h
def idxB (l:List UInt8)(c:UInt8):Int:=Lib.indexByte l c
theorem xl {l:List UInt8}{c:UInt8}(h:R (hQ (hY (idxB l c))) w):callE P dx #[hX (bs l),.int .u8 (c.toNat:Int)] R w:=by
 refine C1 (e:=Extern.BytealgIndexByte.indexByte) iG (by kernel_rfl) (by kernel_rfl) (by kernel_rfl) (by kernel_rfl) (Lib.run_indexByteString _ _ w) ?_
 have e:((c.toNat:Int)).toNat.toUInt8=c:=by simp
 rw[e]
 exact h
theorem vB {l:List UInt8}{c:UInt8}(h:R (hQ (hY (idxB l c))) w):callE P iJ #[hX (bs l),.int .u8 (c.toNat:Int)] R w:=by
 refine iT.sound ?_
 refine dM.sound ?_
 refine xl ⟨_,rfl,⟨_,rfl,h⟩⟩
end Go.Proofs.YtendaipfdnhnaaaGreatDoor

namespace Go.Proofs.YtendaipfdnhnaaaGreatDoor
open Go.Proofs
theorem GF {P:Program}{t:TypeId}{a b:Value}{r:Bool}{w:World}{x g:Operand}(I:(eqGuard .eql t x g a b).run P w= .ok () w)(E:binOp .eql t a b=(do pure (hV (<-Op.equal t a b))))(h:(Op.equal t a b).run P w= .ok r w):(do eqGuard .eql t x g a b;binOp .eql t a b).run P w= .ok (hV r) w:=by
 rw[E]
 simp only[lX0,I,h,lJ0]
 rfl
theorem vR {P:Program}{t:TypeId}{a b:Value}{r:Bool}{w:World}{x g:Operand}(I:(eqGuard .neq t x g a b).run P w= .ok () w)(E:binOp .neq t a b=(do pure (hV (!(<-Op.equal t a b)))))(h:(Op.equal t a b).run P w= .ok r w):(do eqGuard .neq t x g a b;binOp .neq t a b).run P w= .ok (hV (!r)) w:=by
 rw[E]
 simp only[lX0,I,h,lJ0]
 rfl
variable {P:Program}
theorem pU {t e:TypeId}(g:P.underlying t=some (.pointer e))(q:Option Addr)(w:World):(Op.equal t (kT q) (kT none)).run P w= .ok q.isNone w:=
 have h: ∀d,(Op.equalIn (d+1) t (kT q) (kT none)).run P w= .ok q.isNone w:=λd=>by
  cases q<;>simp[Op.equalIn,run_underlying g]
 h 9999
theorem kx {t e:TypeId}{x E:Operand}(g:P.underlying t=some (.pointer e))(q:Option Addr)(w:World):
 (do eqGuard .eql t x E (kT q) (kT none);binOp .eql t (kT q) (kT none)).run P w= .ok (hV q.isNone) w:=
 GF rfl rfl (pU g q w)
theorem dQ {t e:TypeId}{x E:Operand}(g:P.underlying t=some (.pointer e))(q:Option Addr)(w:World):
 (do eqGuard .neq t x E (kT q) (kT none);binOp .neq t (kT q) (kT none)).run P w= .ok (hV (!q.isNone)) w:=
 vR rfl rfl (pU g q w)
theorem tV {t e:TypeId}(g:P.underlying t=some (.pointer e)){i:TypeInfo}(hi:P.info? e=some i)(hs:i.size≠0)(b:Nat)(w:World):(Op.equal t (kT (kE b)) (kT (kE b))).run P w= .ok true w:=
 have h: ∀d,(Op.equalIn (d+1) t (kT (kE b)) (kT (kE b))).run P w= .ok true w:=λd=>by
  simp[Op.equalIn,run_underlying g,sizeOf,typeInfo,hi,hs,sameAddr]
 h 9999
theorem wR {t e:TypeId}{x E:Operand}(g:P.underlying t=some (.pointer e)){i:TypeInfo}(hi:P.info? e=some i)(hs:i.size≠0)(b:Nat)(w:World):
 (do eqGuard .neq t x E (kT (kE b)) (kT (kE b));binOp .neq t (kT (kE b)) (kT (kE b))).run P w= .ok (hV false) w:=
 vR rfl rfl (tV g hi hs b w)
theorem nm {t:TypeId}{O rs:Array TypeId}{I:Bool}{x V:Operand}(U:P.underlying t=some (.func O rs I))(k:FuncId)(f E:Array Value)(w:World):
 (do eqGuard .neq t x V (.func (.func k) f E) .nilFunc;binOp .neq t (.func (.func k) f E) .nilFunc).run P w= .ok (hV true) w:=by
 have h: ∀d,(Op.equalIn (d+1) t (.func (.func k) f E) .nilFunc).run P w= .ok false w:=λd=>by
  simp[Op.equalIn,run_underlying U]
 exact vR rfl rfl (h 9999)
theorem yM {t:TypeId}{I rs:Array TypeId}{g:Bool}{x O:Operand}(E:P.underlying t=some (.func I rs g))(w:World):
 (do eqGuard .neq t x O .nilFunc .nilFunc;binOp .neq t .nilFunc .nilFunc).run P w= .ok (hV false) w:=by
 have h: ∀d,(Op.equalIn (d+1) t .nilFunc .nilFunc).run P w= .ok true w:=λd=>by
  simp[Op.equalIn,run_underlying E]
 exact vR rfl rfl (h 9999)
end Go.Proofs.YtendaipfdnhnaaaGreatDoor


namespace Go.Proofs.YtendaipfdnhnaaaGreatDoor
open Go.Proofs Go.IntWalk Go.RowKit
set_option maxRecDepth 20000
variable {σ:Out} {w:World} {L L':List ai} {R:Ending->World->Prop} {op:Opt}

theorem By.raw {q:Option Addr}{n c:Nat}{l:List UInt8}{M:List ai}(h:By q n c l M):(q=none/\n=0/\c=0/\M= [])\/ ∃b sp,q=kE b/\M= [(b,cel (bc l++sp) dz)]/\(bc l++sp).length=c:=by
 obtain⟨_,_,h|⟨b,sp,y,g,E⟩⟩:=h
 ·exact .inl h
 ·exact .inr ⟨b,sp,y,g,by omega⟩

abbrev Dq (b:Nat)(p q:Option Addr)(n c:Nat):ai:=(b,cel [kT p,hT q n c] cn)
def Bld (b:Nat)(E:Bool)(l:List UInt8)(M:List ai):Prop:=
 ∃p q c y,M=Dq b p q l.length c::y/\By q l.length c l y/\(p=none\/p=kE b)/\q.isSome=E/\(E=true->0<c)
theorem Dp (b:Nat):Bld b false [] [(b,cel [kT none,hT none 0 0] cn)]:=⟨none,none,0,[],rfl,By.nil,.inl rfl,rfl,by simp⟩
theorem Sat.shape (h:Sat σ w L){b:Nat}{cs:List Value}{e:TypeId}(g:(b,cel cs e)∈L):w.shape? b=some (e,cs.length):=by
 have:=h.at_ _ g
 simp only[cel] at this
 simp[World.shape?,this]
theorem nM {b:Nat}{p q:Option Addr}{n c:Nat}(h:Sat σ w (Dq b p q n c::L))(O:p=none\/p=kE b)(I: ∀w,Sat σ w (Dq b (kE b) q n c::L)->R (hQ (.tuple #[])) w):callE P cF #[kT (kE b)] R w:=by
 have g:P.underlying cT=some (.pointer cn):=by kernel_rfl
 have E:P.underlying jq=some .unsafePointer:=by kernel_rfl
 have hi:P.info? cn=some ((P.info? cn).getD default):=by kernel_rfl
 have hs:((P.info? cn).getD default).size=2:=by kernel_rfl
 have y:=h.shape (.head _)
 refine eJ.sound ?_
 refine aa ?_
 refine⟨_,h.ldA,?_⟩
 refine⟨_,_,kx g _ w,?_⟩
 rcases O with rfl|rfl
 ·refine ag rfl ?_
  refine⟨_,_,Lib.run_to_unsafe w (hZ b 0) g E hi (by rw[hs];decide) y (lO3 _),?_⟩
  refine yJ ⟨_,rfl,?_⟩
  refine⟨_,_,Lib.run_from_unsafe w (hZ b 0) E g hi y (by kernel_rfl),?_⟩
  refine aa ?_
  refine h.stA 0 λw h=>?_
  exact I _ h
 ·refine af rfl ?_
  refine aa ?_
  refine⟨_,h.ldA,?_⟩
  refine⟨_,_,wR g hi (by rw[hs];decide) b w,af rfl ?_⟩
  exact I _ h
theorem tD {b:Nat}{U:Bool}{l s:List UInt8}{M:List ai}(a7:Bld b U l M)(h:Sat σ w (M++L))(h0:s≠ []\/U=true)(hb:l.length+s.length<=1099511627776)(b6: ∀w y,Bld b true (l++s) y->Sat σ w (y++L)->R (hQ (.tuple #[hY s.length,.nilIface])) w):callE P bw #[kT (kE b),hX (bs s)] R w:=by
 obtain⟨p,q,c,b8,rfl,b4,b5,b7,hc⟩:=a7
 refine d7.sound ?_
 refine nM h b5 λw h=>⟨rfl,?_⟩
 refine aa ?_
 refine⟨_,_,_,h.ldA,?_⟩
 have h:Sat σ w (b8++(Dq b (kE b) q l.length c::L)):=h.re
 have V:s≠ []\/q≠none:=h0.imp id (λE=>by rw[<-b7] at E;intro h;rw[h] at E;cases E)
 refine b4.appS h s V hb λb3 O w y I h a6 b9=>?_
 have h:Sat σ w (Dq b (kE b) q l.length c::(y++L)):=h.re
 refine aa ?_
 refine h.stA 0 λw h=>?_
 rw[aJ]
 have W:0<O:=by
  rcases h0 with h0|h0
  ·have:=I.2.1
   have:=lY0.2 h0
   omega
  ·have:=hc h0;omega
 rw[<-lA0] at I
 refine b6 w (Dq b (kE b) b3 (l++s).length O::y) ⟨_,_,_,_,rfl,I,.inr rfl,Option.isSome_iff_ne_none.2 a6,λ_=>W⟩ ?_
 rw[lA0]
 exact h
theorem zk {b:Nat}{g:Bool}{l:List UInt8}{k:UInt8}{M:List ai}(U:Bld b g l M)(h:Sat σ w (M++L))(hb:l.length+1<=1099511627776)(a7: ∀w y,Bld b true (l++ [k]) y->Sat σ w (y++L)->R (.returned .nilIface) w):callE P bT #[kT (kE b),.int .u8 (k.toNat:Int)] R w:=by
 obtain⟨p,q,c,b3,rfl,W,a6,b5,hc⟩:=U
 refine eK.sound ?_
 refine nM h a6 λw h=>⟨rfl,?_⟩
 refine aa ?_
 refine⟨_,_,_,h.ldA,?_⟩
 have h:Sat σ w (b3++(Dq b (kE b) q l.length c::L)):=h.re
 refine W.app1 h k hb λI V w y E h=>?_
 have h:Sat σ w (Dq b (kE b) q l.length c::(y++L)):=h.re
 refine aa ?_
 refine h.stA 0 λw h=>?_
 have O:I.isSome=true:=by
  rcases E.raw with ⟨_,b4,_,_⟩|⟨b6,sp,rfl,_,_⟩
  ·omega
  ·rfl
 refine a7 w (Dq b (kE b) I (l++ [k]).length V::y) ⟨_,_,_,_,rfl,by rw[lA0];exact E,.inr rfl,O,λ_=>by have:=E.2.1;omega⟩ ?_
 rw[lA0]
 exact h
theorem Sat.freeze {b:Nat}{cs:List Value}{e:TypeId}(h:Sat σ w ((b,cel cs e)::L))(n:Nat):Sat σ (w.freeze (hZ b 0) n) L:=by
 unfold World.freeze
 split
 ·exact h.tail
 ·refine⟨h.os,h.out,h.tail.nodup,λc hc=>?_⟩
  have g:b≠c.1:=by
   intro y
   have:=h.nodup
   simp only[lO1,lW3] at this
   exact this.1 (by rw[y];exact lU1.2 ⟨c,hc,rfl⟩)
  simp only[lT4,if_neg g]
  exact h.at_ _ (.tail _ hc)
theorem tC {b:Nat}{g:Bool}{l:List UInt8}{M:List ai}(W:Bld b g l M)(h:Sat σ w (M++L))(b5:l.length<4611686018427387904)(I: ∀w,Sat σ w L->R (hQ (hX (bs l))) w):
 callE P dt #[kT (kE b)] R w:=by
 obtain⟨p,q,c,b6,rfl,a6,b4,a7,hc⟩:=W
 refine fz.sound ?_
 refine h.tk λw h=>?_
 refine aa (aa ?_)
 refine⟨_,_,_,h.ldA,?_⟩
 refine⟨_,_,_,h.ldA,?_⟩
 rcases a6.raw with ⟨rfl,y,rfl,rfl⟩|⟨U,sp,rfl,rfl,b3⟩
 ·obtain rfl:=lB1 y
  refine⟨_,_,Lib.run_unsafeSliceData_nil (P:=P) (w:=w) _ _ _ _,λ_ _=>rfl,?_⟩
  refine⟨_,_,Lib.run_unsafeString_none (P:=P) (w:=w) _ _ _ _,I _ h.tail⟩
 ·refine⟨_,_,Lib.run_unsafeSliceData_row (P:=P) (w:=w) _ _ _ _ _ (by have:=hc (by rw[<-a7];rfl);omega),λ_ _=>rfl,?_⟩
  have E:Sat σ w ((U,cel (bc l++sp) dz)::L):=h.tail
  by_cases y:l= []
  ·subst y
   refine⟨_,_,Lib.run_unsafeString_none (P:=P) (w:=w) _ _ _ _,I _ E.tail⟩
  ·refine⟨_,_,Lib.run_unsafeString_row (w:=w) qm ba aq dz (by kernel_rfl) (by kernel_rfl) U _ (E.shape (.head _)) l y (by simp) (by omega) (λj x V=>?_),I _ (E.freeze _)⟩
   rw[Addr.add_zero_lit]
   have O:=(lL0.1 V).1
   refine E.ld (.head _) ?_
   rw[lM0 (by rw[tE];exact O),Fz O]
   rw[(lL0.1 V).2]

def ab (s:List UInt8):List UInt8->List UInt8:=λl=>l++s

theorem Dt {t ty e:TypeId}{bytes:Nat}(r:Row P t e 1 bytes){b k c:Nat}{cs:List Value}(h:Sat σ w ((b,cel cs e)::L))(b3:k<cs.length)(hc:k<c){v:Value}(hv:v.cells= #[v])(c4:v.oneCell'=true)(b5:Instr.fill (λi=>some (i*1,1)) ((Array.range (1*1)).map (r.z.cells[· %r.z.cells.size]!)) [(0,v)]=some v.cells){K:Option Addr->Nat->Nat->World->Prop}{C:World->Prop}(c1: ∀g X,Sat σ g (X::((b,cel cs e)::L))->C g)(b8: ∀V,Sat σ V ((b,cel (cs.set k v) e)::L)->K (kE b) (k+1) c V):
 ∃U I b4 g,(Instr.buildSlice t 1 #[(0,v)]).run P w= .ok (hT U I b4) g/\C g/\
  ∃W O a6 a7,(Builtin.append_ #[t,t] ty #[hT (kE b) k c,hT U I b4]).run P g= .ok (hT W O a6) a7/\K W O a6 a7:=by
 have b6:=run_buildSlice (P:=P) w t e 1 #[(0,v)] v.cells r.i r.z r.ht r.hi r.hz (by rw[r.hs];omega) (by rw[r.hs];omega) (by rw[r.hs];exact b5)
 refine⟨_,_,_,_,b6,?_⟩
 have y:=h.alc v.cells.toList e
 have c3:YtendaipfdnhnaaaGreatDoor.alc w v.cells.toList.toArray e=w.alloc (.cells v.cells e):=by rw[lD4];rfl
 rw[c3] at y
 generalize c5:w.alloc (.cells v.cells e)=g at y⊢
 generalize w.heap.size=nb at y⊢
 rw[hv] at y
 have hs:Src P 1 t (hT (kE nb) 1 1) 1 [v] g:=by
  refine Src.ofSlice g r.ht _ 1 1 _ (by simp) (λj u c2=>?_) (by simp[c4])
  rw[show (Addr.add (hZ nb 0) j)=⟨nb,j,none⟩ from Addr.add_zero_lit nb j]
  exact y.ld (lZ1 ..) c2
 have b7:Src P r.i.size t (hT (kE nb) 1 1) 1 [v] g:=by rw[r.hs];exact hs
 refine⟨c1 _ _ y,_,_,_,_,run_append_room_src g t t ty e r.i r.ht r.hi b 0 k c _ 1 [v] b7 (by omega) ?_ ?_,b8 _ ?_⟩
 ·intro j E
  simp at E
  subst E
  rw[r.hs,lO0,lC1,lN1,y.ld (.tail _ (.head _)) (lI0 b3)]
  rfl
 ·exact λj E=>y.not_frozen (.tail _ (.head _))
 ·rw[r.hs]
  have hb:Sat σ g ((b,cel cs e)::(nb,cel [v] e)::L):=y.up1
  have:=ri hb (0+k*1) [v] (by simp;omega)
  rw[lO0,lC1] at this⊢
  have b9:cs.take k++ [v]++cs.drop (k+1)=cs.set k v:=by
   rw[lM4,if_pos b3];simp
  rw[show [v].length=1 from rfl,b9] at this
  exact this.less [(nb,cel [v] e)]
theorem vS {t ty e:TypeId}{bytes:Nat}(r:Row P t e 1 bytes){b k c:Nat}{cs:List Value}(h:Sat σ w ((b,cel cs e)::L))(b5:k<cs.length)(hc:k<c){v:Value}(hv:v.cells= #[v])(O:v.oneCell'=true)(b3:Instr.fill (λi=>some (i*1,1)) ((Array.range (1*1)).map (r.z.cells[· %r.z.cells.size]!)) [(0,v)]=some v.cells){K:Option Addr->Nat->Nat->World->Prop}(b6: ∀a7,Sat σ a7 ((b,cel (cs.set k v) e)::L)->K (kE b) (k+1) c a7):
 ∃E g I y,(Instr.buildSlice t 1 #[(0,v)]).run P w= .ok (hT E g I) y/\
  ∃U a6 V W,(Builtin.append_ #[t,t] ty #[hT (kE b) k c,hT E g I]).run P y= .ok (hT U a6 V) W/\K U a6 V W:=by
 obtain⟨E,g,I,y,O,_,b4⟩:=Dt (ty:=ty) r h b5 hc hv O b3 (C:=λ_=>True) (λ_ _ _=>trivial) b6
 exact⟨E,g,I,y,O,b4⟩
inductive Inl where
 |plain (s:List UInt8)
 |openP (s:List UInt8) (i:Nat)
 |emphP (s:List UInt8) (co cc:Bool) (i n:Int)
 |esc (s:List UInt8)
 |code (s:List UInt8)
 |strong (m:List UInt8) (ks:List Inl)
 |del (m:List UInt8) (ks:List Inl)
 |emph (m:List UInt8) (ks:List Inl)
 |link (ks:List Inl) (url title:List UInt8) (tc:UInt8) (corner:Bool)
 |image (ks:List Inl) (url title:List UInt8) (tc:UInt8) (corner:Bool)
 |auto (text url:List UInt8)
 |tag (s:List UInt8)
 |hard
 |soft
 |task (b:Bool)
def gZ (t:TypeId)(b:Nat):Value:= .iface t (kT (kE b))
mutual
def InlAt:Inl->Value->List ai->Prop
 | .plain s,v,M=> ∃b cs e,v=gZ bI b/\M= [(b,cel (hX (bs s)::cs) e)]
 | .openP s i,v,M=> ∃b e,v=gZ aQ b/\M= [(b,cel [hX (bs s),hY i] e)]
 | .emphP s co cc i n,v,M=> ∃b e,v=gZ aT b/\M= [(b,cel [hX (bs s),hV co,hV cc,hY i,hY n] e)]
 | .esc s,v,M=> ∃b e,v=gZ kU b/\M= [(b,cel [hX (bs s)] e)]
 | .code s,v,M=> ∃b e,v=gZ pu b/\M= [(b,cel [hX (bs s)] e)]
 | .strong m ks,v,M=> ∃b e q n c vs RM KM,v=gZ fB b/\M=(b,cel [hX (bs m),hT q n c] e)::(RM++KM)/\Sl 1 aC q n c vs RM/\InlsAt ks vs KM
 | .del m ks,v,M=> ∃b e q n c vs RM KM,v=gZ uS b/\M=(b,cel [hX (bs m),hT q n c] e)::(RM++KM)/\Sl 1 aC q n c vs RM/\InlsAt ks vs KM
 | .emph m ks,v,M=> ∃b e q n c vs RM KM,v=gZ je b/\M=(b,cel [hX (bs m),hT q n c] e)::(RM++KM)/\Sl 1 aC q n c vs RM/\InlsAt ks vs KM
 | .link ks u t tc k,v,M=> ∃b e q n c vs RM KM,v=gZ lP b/\M=(b,cel [hT q n c,hX (bs u),hX (bs t),.int .u8 tc.toNat,hV k] e)::(RM++KM)/\Sl 1 aC q n c vs RM/\InlsAt ks vs KM
 | .image ks u t tc k,v,M=> ∃b e q n c vs RM KM,v=gZ lQ b/\M=(b,cel [hT q n c,hX (bs u),hX (bs t),.int .u8 tc.toNat,hV k] e)::(RM++KM)/\Sl 1 aC q n c vs RM/\InlsAt ks vs KM
 | .auto t u,v,M=> ∃b e,v=gZ md b/\M= [(b,cel [hX (bs t),hX (bs u)] e)]
 | .tag s,v,M=> ∃b e,v=gZ m8 b/\M= [(b,cel [hX (bs s)] e)]
 | .hard,v,M=> ∃b e,v=gZ lB b/\M= [(b,cel [] e)]
 | .soft,v,M=> ∃b e,v=gZ jN b/\M= [(b,cel [] e)]
 | .task k,v,M=> ∃b e,v=gZ sr b/\M= [(b,cel [hV k] e)]
def InlsAt:List Inl->List Value->List ai->Prop
 | [],vs,M=>vs= []/\M= []
 |t::ts,vs,M=> ∃v vs' M1 M2,vs=v::vs'/\M=M1++M2/\InlAt t v M1/\InlsAt ts vs' M2
end
theorem InlsAt.append: ∀ {a b:List Inl} {vs us:List Value} {M N:List ai},InlsAt a vs M->InlsAt b us N->InlsAt (a++b) (vs++us) (M++N)
 | [],b,vs,us,M,N,h1,h2=>by obtain⟨rfl,rfl⟩:=h1;exact h2
 |t::a,b,vs,us,M,N,h1,h2=>by
  obtain⟨v,g,O,y,rfl,rfl,E,I⟩:=h1
  exact⟨v,g++us,O,y++N,rfl,by simp,E,I.append h2⟩
theorem InlsAt.split: ∀ {a b:List Inl} {vs:List Value} {M:List ai},InlsAt (a++b) vs M-> ∃g E y I,vs=g++E/\M=y++I/\InlsAt a g y/\InlsAt b E I
 | [],b,vs,M,h=>⟨[],vs,[],M,rfl,rfl,⟨rfl,rfl⟩,h⟩
 |t::a,b,vs,M,h=>by
  obtain⟨v,b3,y,I,rfl,rfl,U,a6⟩:=h
  obtain⟨g,E,O,W,rfl,rfl,V,a7⟩:=a6.split
  exact⟨v::g,E,y++O,W,rfl,by simp,⟨v,g,y,O,rfl,rfl,U,V⟩,a7⟩
theorem InlsAt.one {t:Inl}{v:Value}{M:List ai}(h:InlAt t v M):InlsAt [t] [v] M:=⟨v,[],M,[],rfl,by simp,h,rfl,rfl⟩
theorem InlsAt.length: ∀ {a:List Inl} {vs:List Value} {M:List ai},InlsAt a vs M->vs.length=a.length
 | [],vs,M,h=>by rw[h.1];rfl
 |t::a,vs,M,h=>by
  obtain⟨v,y,O,E,rfl,rfl,I,g⟩:=h
  simp[g.length]
def Inl.ty:Inl->TypeId
 | .plain _=>bI| .openP _ _=>aQ| .emphP _ _ _ _ _=>aT| .esc _=>kU| .code _=>pu| .strong _ _=>fB| .del _ _=>uS| .emph _ _=>je
 | .link _ _ _ _ _=>lP| .image _ _ _ _ _=>lQ| .auto _ _=>md| .tag _=>m8| .hard=>lB| .soft=>jN| .task _=>sr
theorem InlAt.ptr {t:Inl}{v:Value}{M:List ai}(h:InlAt t v M): ∃b cs e g,v=gZ t.ty b/\M=(b,cel cs e)::g:=by
 cases t<;>first
  |(obtain⟨b,cs,e,rfl,rfl⟩:=h;exact⟨b,_,_,[],rfl,rfl⟩)
  |(obtain⟨b,e,rfl,rfl⟩:=h;exact⟨b,_,_,[],rfl,rfl⟩)
  |(obtain⟨b,e,q,n,c,vs,RM,KM,rfl,rfl,_⟩:=h;exact⟨b,_,_,_,rfl,rfl⟩)
variable {G:List UInt8->List Inl}

theorem nV:P.underlying aQ=some (.pointer qY):=by kernel_rfl
theorem rR:P.underlying aT=some (.pointer kS):=by kernel_rfl
theorem eQ:P.underlying bI=some (.pointer nW):=by kernel_rfl
theorem qp {t:TypeId}{v:Value}(ht:t≠aQ)(w:World):(Instr.typeAssert (.iface t v) aC aQ true).run P w= .ok (.tuple #[kT none,hV false]) w:=
 u5 (by rw[nV];intro g h;cases h) nV ht (i:=(P.info? aQ).getD default) (by kernel_rfl) (by kernel_rfl) w
theorem qq {t:TypeId}{v:Value}(ht:t≠aT)(w:World):(Instr.typeAssert (.iface t v) aC aT true).run P w= .ok (.tuple #[kT none,hV false]) w:=
 u5 (by rw[rR];intro g h;cases h) rR ht (i:=(P.info? aT).getD default) (by kernel_rfl) (by kernel_rfl) w
theorem oU {t:TypeId}{v:Value}(ht:t≠bI)(w:World):(Instr.typeAssert (.iface t v) aC bI true).run P w= .ok (.tuple #[kT none,hV false]) w:=
 u5 (by rw[eQ];intro g h;cases h) eQ ht (i:=(P.info? bI).getD default) (by kernel_rfl) (by kernel_rfl) w
theorem oV {v:Value}(w:World):(Instr.typeAssert (.iface aQ v) aC aQ true).run P w= .ok (.tuple #[v,hV true]) w:=
 oL (by rw[nV];intro g h;cases h) nV w
theorem sy {v:Value}(w:World):(Instr.typeAssert (.iface aT v) aC aT true).run P w= .ok (.tuple #[v,hV true]) w:=
 oL (by rw[rR];intro g h;cases h) rR w
theorem wq {v:Value}(w:World):(Instr.typeAssert (.iface bI v) aC bI true).run P w= .ok (.tuple #[v,hV true]) w:=
 oL (by rw[eQ];intro g h;cases h) eQ w
theorem AY (t:TypeId)(q:Option Addr):Instr.fill (λi=>some (i*1,1)) ((Array.range (1*1)).map (rowInl.z.cells[· %rowInl.z.cells.size]!)) [(0,.iface t (kT q))]=some #[.iface t (kT q)]:=by kernel_rfl
theorem Sl.loadAt {q:Option Addr}{n c j:Nat}{e:TypeId}{vs:List Value}{RM:List ai}{v:Value}{K:Addr->Prop}(y:Sl 1 e q n c vs RM)(h:Sat σ w (RM++L))(g:vs[j]? =some v)(E: ∀b,q=kE b->w.cell? (hZ b j)=some v->K (hZ b 0)):aA q K:=by
 obtain⟨O,_,⟨rfl,rfl,_,_⟩|⟨I,sp,rfl,rfl,_⟩⟩:=y
 ·have:=(lL0.1 g).1;omega
 ·refine aa (E I rfl (h.ld (.head _) ?_))
  rw[lM0 (lL0.1 g).1];exact g
namespace cC
def k1 (R:EP)(y:OA)(a6:Int)(w:World):Prop:=
 tk w λg=>
 aA y λa4=>
 aA y λa5=>
 ∃I V O,g.cell? (a4.add 1)=some (hT I V O)/\
 ∃b3 U a7,g.cell? (a5.add 1)=some (hT b3 U a7)/\
 ∃W E,(Builtin.cap_ #[bK] ba #[hT I V O]).run P g= .ok (hY W) E/\
 SameC g E (a5.add 1) 1/\
 br (decide ((i64.wrap (W - (U:Int)))<a6))
 (callE P jp #[kT y,hY a6] (λe b4=>e= hQ (.tuple #[])/\
 R (hQ (.tuple #[])) b4) E)
 (False)
end cC
def cC (R:EP)(g:OA)(y:Int)(w:World):Prop:=
 callE P cF #[kT g] (λe E=>e= hQ (.tuple #[])/\
 br (decide (y<0))
 (False)
 (cC.k1 R g y E)) w
theorem cC.sound {R x0 x1 w}(h:cC R x0 x1 w):callE P eL #[kT x0,hY x1] R w:=
 aG [(21,.no),(7,.mk [2,27] (cC.k1 R)),(11,.dr (rpN [0,3,6,15,18,21,33,10,25,27,14,30,36])),(31,.no)] Tryz.func223 Tryz.call223 h
def gj (R:EP)(E:OA)(d0:Int)(w:World):Prop:=
 tk w λy=>
 aA E λa2=>
 aA E λa3=>
 ∃b4 b6 b9,y.cell? (a2.add 1)=some (hT b4 b6 b9)/\
 ∃c5 b5 c3,y.cell? (a3.add 1)=some (hT c5 b5 c3)/\
 ∃c2 g,(Builtin.cap_ #[bK] ba #[hT b4 b6 b9]).run P y= .ok (hY c2) g/\
 SameC y g (a3.add 1) 1/\
 callE P d6 #[hY (i64.wrap ((i64.wrap (2*c2))+d0))] (λe V=> ∃b8 c1 b7,e= hQ (hT b8 c1 b7)/\
 SameC g V (a3.add 1) 1/\
 ∃U O I,(∀w,(Instr.sliceAt bK (hT b8 c1 b7) none (some (hY (b5:Int))) none).run P w= .ok (hT U O I) w)/\
 aA E λa11=>
 ∃W a6 a7,V.cell? (a11.add 1)=some (hT W a6 a7)/\
 ∃c8 b3,(Builtin.copy_ #[bK,bK] ba #[hT U O I,hT W a6 a7]).run P V= .ok (hY c8) b3/\
 aA E λc4=>
 stV b3 ((c4.add 1).add 0) (hT U O I) λc9=>
 R (hQ (.tuple #[])) c9) g
theorem gj.sound {R x0 x1 w}(h:gj R x0 x1 w):callE P jp #[kT x0,hY x1] R w:=
 aG [(2,.dr (rpN [0,3,6,18,27,30,33,10,37,39,14,15,21,26,42,45]))] Tryz.func257 Tryz.call257 h

theorem vt {n:Nat}(V:n<=1099511627776)(h:Sat σ w L)(O: ∀w b cs,n<=cs.length->cs.length<=9223372036854775807->Sat σ w ((b,cel cs dz)::L)->R (hQ (hT (kE b) n cs.length)) w):
 callE P d6 #[hY n] R w:=by
 obtain⟨cs,hr,U,E⟩:=Lib.run_makeNoZero (P:=P) w x_internal_bytealg_MakeNoZero.params bK dz rowU8.ht n (by omega)
 refine C1 (e:=Extern.BytealgMakeNoZero.makeNoZero x_internal_bytealg_MakeNoZero.params #[bK]) jP (by kernel_rfl) (by kernel_rfl) (by kernel_rfl) (by kernel_rfl) hr ?_
 have hd:Sat σ w.drew.drew L:=h.drew.drew
 have y:=hd.alc cs.toList dz
 have I:YtendaipfdnhnaaaGreatDoor.alc w.drew.drew cs.toList.toArray dz=w.drew.drew.alloc (.cells cs dz):=by rw[lD4];rfl
 rw[I] at y
 have g:=E (by unfold maxLen;omega)
 unfold maxLen at g
 exact O _ _ cs.toList (by simpa using U) (by simpa using g) y
theorem EI (w:World)(b c:Nat):(Builtin.copy_ #[bK,bK] ba #[hT (kE b) 0 c,hT none 0 0]).run P w= .ok (hY 0) w:=by
 have h:P.underlying bK=some (.slice dz):=rowU8.ht
 have y:P.info? dz=some rowU8.i:=rowU8.hi
 have E:(Builtin.lenOf (hT none 0 0)).run P w= .ok 0 w:=rfl
 have g:rowU8.i.size=1:=rowU8.hs
 have I:(Builtin.firstCells 1 0 (hT none 0 0)).run P w= .ok #[] w:=run_firstCells_none w 1 0 0 0
 simp[Builtin.copy_,run_underlying h,sizeOf,typeInfo,y,goInt,E,g,I,storeCells]
theorem Bb {b n:Nat}{M:List ai}(I:Bld b false [] M)(h:Sat σ w (M++L))(b6:0<n)(E:n<=1099511627776)(W: ∀w y,Bld b true [] y->Sat σ w (y++L)->R (hQ (.tuple #[])) w):
 callE P eL #[kT (kE b),hY n] R w:=by
 obtain⟨p,q,c,b5,rfl,U,V,b3,hc⟩:=I
 have a6:q=none:=by cases q<;>simp_all
 subst a6
 obtain⟨_,_,⟨_,_,rfl,rfl⟩|⟨_,_,h,_⟩⟩:=U
 rotate_left
 ·cases h
 refine cC.sound ?_
 refine nM h V λw h=>⟨rfl,af (by simp) ?_⟩
 refine h.tk λw h=>?_
 refine aa (aa ?_)
 refine⟨_,_,_,h.ldA,?_⟩
 refine⟨_,_,_,h.ldA,?_⟩
 refine⟨_,_,Fw _ _ _ _ _ _ rowU8.ht w,λ_ _=>rfl,?_⟩
 refine ag (by simp (disch:=omega) only[i64_in];simp;omega) ?_
 refine gj.sound ?_
 refine h.tk λw h=>?_
 refine aa (aa ?_)
 refine⟨_,_,_,h.ldA,?_⟩
 refine⟨_,_,_,h.ldA,?_⟩
 refine⟨_,_,Fw _ _ _ _ _ _ rowU8.ht w,λ_ _=>rfl,?_⟩
 have O:i64.wrap (i64.wrap (2*((0:Nat):Int))+(n:Int))=(n:Int):=by rw[i64_in (2*_) (by omega),i64_in _ (by omega)];omega
 rw[O]
 have h0:=h
 refine vt E h λw g cs b4 a7 h=>⟨_,_,_,rfl,h0.same h (.head _) (.tail _ (.head _)) 1,?_⟩
 refine⟨_,_,_,λw=>rf rowU8.ht rowU8.hi _ n cs.length 0 (by omega) w,?_⟩
 refine aa ?_
 refine⟨_,_,_,h.ldA,?_⟩
 refine⟨_,_,EI w g cs.length,?_⟩
 refine aa ?_
 refine h.stA 1 λw h=>?_
 have h:Sat σ w ((g,cel cs dz)::Dq b (kE b) (kE g) 0 cs.length::L):=h
 refine⟨rfl,W w [Dq b (kE b) (kE g) 0 cs.length,(g,cel cs dz)] ⟨_,_,_,_,rfl,⟨by simp[bc],by omega,.inr ⟨g,cs,rfl,by simp[bc],by simp[bc]⟩⟩,.inr rfl,rfl,λ_=>by omega⟩ ?_⟩
 exact h.re
def sv (ts:List (List UInt8)):List Value:=ts.map λt=> hX (bs t)
@[simp] theorem kv (ts:List (List UInt8)):(sv ts).length=ts.length:=by simp[sv]
theorem ue {ts:List (List UInt8)}{j:Nat}(h:j<ts.length):(sv ts)[j]? =some (hX (bs ts[j])):=by simp[sv,h]
def bG (sep:List UInt8):List (List UInt8)->List UInt8
 | []=> []
 |t::ts=>t++ts.flatMap (λu=>sep++u)
def FV (ts:List (List UInt8)):Nat:=(ts.map List.length).sum
theorem xd (sep:List UInt8)(t:List UInt8)(ts:List (List UInt8)):(bG sep (t::ts)).length=t.length+FV ts+ts.length*sep.length:=by
 simp only[bG,lA0,FV]
 induction ts with
 |nil=>simp
 |cons u ts g=>simp only[lJ3,lA0,lO1,List.sum_cons,lF0] at*;rw[lQ3];omega
theorem Sl.rowAt {e:TypeId}{q:Option Addr}{n c:Nat}{vs:List Value}{M:List ai}(g:Sl 1 e q n c vs M)(I:0<n): ∃b sp,q=kE b/\M= [(b,cel (vs++sp) e)]:=by
 obtain⟨_,_,⟨_,h,_,_⟩|⟨b,sp,E,y,_⟩⟩:=g
 ·omega
 ·exact⟨b,sp,E,y⟩
theorem CC {q:Option Addr}{n c:Nat}{t:List UInt8}{ts:List (List UInt8)}{b6:List ai}{sep:List UInt8}(a6:Sl 1 aq q n c (sv (t::ts)) b6)(h:Sat σ w (b6++L))(f0:1<=ts.length)(f1:n<1073741824)(e5:sep.length<65536)(h0:0<(bG sep (t::ts)).length)(hb:(bG sep (t::ts)).length<1073741824)(e1: ∀w,Sat σ w (b6++L)->R (hQ (hX (bs (bG sep (t::ts))))) w):callE P ga #[hT q n c,hX (bs sep)] R w:=by
 have e4:=a6.1
 rw[kv,lF0] at e4
 have E:=xd sep t ts
 refine bV.sound ?_
 obtain⟨y,sp,rfl,rfl⟩:=a6.rowAt (by omega)
 refine af (by simp;omega) (af (by simp;omega) ?_)
 have fin: ∀w,Sat σ w ([(y,cel (sv (t::ts)++sp) aq)]++L)->box w #[kT none,hT none 0 0] cn λa7 e0=>
  callE P eL #[kT (kE a7),hY (((bG sep (t::ts)).length:Nat):Int)] (λe c8=>e= hQ (.tuple #[])/\
  0<=(0:Int)/\0<(n:Int)/\
  aA (some ((hZ y 0):Addr)) λa9=>
  ∃(c1:ByteArray),c8.cell? (a9.add (Int.toNat 0*1))=some (hX c1)/\
  callE P bw #[kT (kE a7),hX c1] (λe d3=> ∃(d0:Int),∃(c9:Value),e= hQ (.tuple #[hY d0,c9])/\
  ∃(b8:Option Addr),∃(U:Nat),∃(b7:Nat),∃b9,(Instr.sliceAt al (hT (kE y) n c) (some (hY 1)) none none).run P d3= .ok (hT b8 U b7) b9/\
  bV.l2 R (bs sep) a7 b8 U b7 (U:Int) 0 b9) c8) e0:=by
  intro w h
  refine Sat.bx h λb w h=>?_
  refine Bb (Dp b) h h0 (by omega) λw M g h=>⟨rfl,by omega,by omega,aa ?_⟩
  refine⟨bs t,Sat.ld h (lB0 _ (.head _)) rfl,?_⟩
  refine tD g h (.inr rfl) (by simp;omega) λw M g h=>⟨_,_,rfl,?_⟩
  refine⟨_,_,_,_,zE rowStr.ht rowStr.hi _ n c 1 (by omega) w,?_⟩
  have e8:=a6.2.1
  rw[if_neg (by omega),rowStr.hs]
  simp only[lI3,lK0,lO0,lC1]
  rw[lT0] at g
  intro Y c4
  have V: ∀k j (l:List UInt8) M w,j+k=ts.length->Bld b true l M->Sat σ w (M++([(y,cel (sv (t::ts)++sp) aq)]++L))->l++(ts.drop j).flatMap (λu=>sep++u)=bG sep (t::ts)->
   Y (bs sep) b (some (hZ y 1)) (n - 1) (c - 1) ((n - 1:Nat):Int) (j:Int) w:=by
   intro k
   induction k with
   |zero=>
    intro j l M w O g h I
    rw[lE2 (by omega)] at I
    simp only[List.flatMap_nil,lG0] at I
    refine c4 _ _ _ _ _ _ _ _ (af (by simp;omega) ?_)
    refine tC g h (by rw[I];omega) λw h=>⟨_,rfl,?_⟩
    rw[I]
    exact e1 w h
   |succ k b4=>
    intro j l M w O g h I
    have E:j<ts.length:=by omega
    rw[lI1 E,lJ3,<-lD0,<-lD0] at I
    have d2:(l++sep++ts[j]).length<=(bG sep (t::ts)).length:=by rw[<-I];simp only[lA0];omega
    simp only[lA0] at d2
    refine c4 _ _ _ _ _ _ _ _ (ag (by simp;omega) ⟨by omega,by omega,aa ?_⟩)
    simp only[lK0,lC0,lC1]
    have b3:(sv (t::ts)++sp)[1+j]? =some (hX (bs ts[j])):=by
     rw[lM0 (by simp;omega),show 1+j=j+1 by omega,ue (by simp;omega)];rfl
    refine⟨_,Sat.ld h (lB0 _ (.head _)) b3,?_⟩
    refine tD g h (.inr rfl) (by omega) λw M g h=>⟨_,_,rfl,?_⟩
    refine tD g h (.inr rfl) (by simp;omega) λw M g h=>⟨_,_,rfl,?_⟩
    rw[aN (by omega)]
    exact b4 (j+1) _ M w (by omega) g h I
  exact V ts.length 0 t M w (by omega) g h rfl
 have c2: ∀w (a:Nat),a=ts.length*sep.length->Sat σ w ([(y,cel (sv (t::ts)++sp) aq)]++L)->bV.k2 R (kE y) n c (bs sep) (a:Int) w:=by
  intro w a e3 h X c5
  have V: ∀k j (s:Nat),j+k=(t::ts).length->s+FV ((t::ts).drop j)=(bG sep (t::ts)).length->X (kE y) n c (bs sep) (s:Int) (kE y) n c (n:Int) (j:Int) w:=by
   intro k
   induction k with
   |zero=>
    intro j s O hs
    rw[lE2 (by omega)] at hs
    simp only[FV,List.map_nil,List.sum_nil,lN1] at hs
    subst hs
    refine c5 _ _ _ _ _ _ _ _ _ _ _ (af (by simp at O;simp;omega) ?_)
    exact fin w h
   |succ k b4=>
    intro j s O hs
    have E:j<(t::ts).length:=by omega
    rw[lI1 E] at hs
    simp only[FV,lO1,List.sum_cons] at hs
    have e6:j<n:=by simp at E;omega
    refine c5 _ _ _ _ _ _ _ _ _ _ _ (ag (by simp;omega) ⟨by omega,by omega,aa ?_⟩)
    simp only[lK0,lC0,lC1,lO0]
    have b3:(sv (t::ts)++sp)[j]? =some (hX (bs (t::ts)[j])):=by
     rw[lM0 (by simp at E⊢;omega),ue E]
    refine⟨_,Sat.ld h (.head _) b3,?_⟩
    rw[aJ]
    refine af (by simp (disch:=omega) only[i64_in];simp;omega) ?_
    show X _ _ _ _ _ _ _ _ _ _ w
    rw[aN (by omega),aJ,i64_in _ (by omega),show (s:Int)+((t::ts)[j].length:Nat)=((s+(t::ts)[j].length:Nat):Int) by omega]
    exact b4 (j+1) _ (by omega) (by simp only[FV];omega)
  refine V (t::ts).length 0 a (by omega) ?_
  rw[E,e3]
  simp[FV]
  omega
 have d1:ts.length*sep.length<1073741824:=by omega
 by_cases c3:sep= []
 ·subst c3
  refine af (by simp) ?_
  exact c2 w 0 (by simp) h
 ·refine ag (by simpa using lY0.2 c3) ?_
  have W:i64.wrap ((n:Int) - 1)=((ts.length:Nat):Int):=by simp (disch:=omega) only[i64_in];omega
  refine⟨by rw[W];omega,af ?_ ?_⟩
  ·rw[W]
   have e2:Int.tdiv 9223372036854775807 (ts.length:Int)=((9223372036854775807/ts.length:Nat):Int):=by
    rw[Int.tdiv_eq_ediv_of_nonneg (by omega)];simp
   rw[e2]
   have e7:65536<=9223372036854775807/ts.length:=by
    rw[Nat.le_div_iff_mul_le (by omega)];omega
   have e9:9223372036854775807/ts.length<=9223372036854775807:=Nat.div_le_self _ _
   rw[i64_in _ (by omega),aJ]
   exact decide_eq_false (by omega)
  ·show bV.k2 R _ n c (bs sep) _ w
   rw[W,aJ]
   have:i64.wrap (0+i64.wrap ((sep.length:Int)*(ts.length:Int)))=((ts.length*sep.length:Nat):Int):=by
    have e:((sep.length:Int)*(ts.length:Int))=((ts.length*sep.length:Nat):Int):=by rw[lP6];simp
    generalize ts.length*sep.length=m at d1 e⊢
    rw[e,i64_in (m:Int) (by omega),Int.zero_add,i64_in (m:Int) (by omega)]
   rw[this]
   exact c2 w _ rfl h

def Inl.plain? :Inl->Option (List UInt8)
 | .plain s=>some s
 | .openP s _=>some s
 | .emphP s _ _ _ _=>some s
 |_=>none
theorem jt {t:Inl}{v:Value}{M:List ai}{s:List UInt8}(g:InlAt t v M)(hs:t.plain? =some s)(y: ∀b cs e,M= [(b,cel (hX (bs s)::cs) e)]->R (hQ (kT (kE b))) w):callE P kF #[v] R w:=by
 refine pS.sound ?_
 cases t<;>simp only[Inl.plain?,lG1,reduceCtorEq] at hs<;>subst hs
 ·obtain⟨b,cs,e,rfl,rfl⟩:=g
  exact⟨_,_,_,wq w,ag rfl (y b _ _ rfl)⟩
 ·obtain⟨b,e,rfl,rfl⟩:=g
  exact⟨_,_,_,oU (by decide) w,af rfl ⟨_,_,_,qq (by decide) w,af rfl ⟨_,_,_,oV w,ag rfl (aa (y b _ _ rfl))⟩⟩⟩
 ·obtain⟨b,e,rfl,rfl⟩:=g
  exact⟨_,_,_,oU (by decide) w,af rfl ⟨_,_,_,sy w,ag rfl (aa (y b _ _ rfl))⟩⟩
theorem Inl.not_plain {t:Inl}(h:t.plain? =none):t.ty≠bI/\t.ty≠aQ/\t.ty≠aT:=by
 cases t<;>simp only[Inl.plain?,reduceCtorEq] at h<;>(simp only[Inl.ty];decide)
theorem ju {t:Inl}{v:Value}{M:List ai}(E:InlAt t v M)(hs:t.plain? =none)(I:R (hQ (kT none)) w):callE P kF #[v] R w:=by
 refine pS.sound ?_
 obtain⟨O,y,g⟩:=Inl.not_plain hs
 obtain⟨b,cs,e,U,rfl,_⟩:=E.ptr
 exact⟨_,_,_,oU O w,af rfl ⟨_,_,_,qq g w,af rfl ⟨_,_,_,qp y w,af rfl I⟩⟩⟩
theorem CD: ∀us:List (List UInt8),bG [] us=us.flatten
 | []=>rfl
 |u::us=>by simp[bG,lK3,List.flatMap_id']
theorem InlsAt.mid {a:List Inl}{t:Inl}{b:List Inl}{vs:List Value}{M:List ai}(h:InlsAt (a++t::b) vs M): ∃g v E y I O,vs=g++v::E/\M=y++(I++O)/\InlsAt a g y/\InlAt t v I/\InlsAt b E O:=by
 obtain⟨g,E,y,I,rfl,rfl,b4,a6⟩:=h.split
 obtain⟨v,U,W,a7,rfl,rfl,V,b3⟩:=a6
 exact⟨g,v,U,y,W,a7,rfl,rfl,b4,V,b3⟩
theorem EA (t:List UInt8):Instr.fill (λi=>some (i*1,1)) ((Array.range (1*1)).map (rowStr.z.cells[· %rowStr.z.cells.size]!)) [(0,hX (bs t))]=some #[hX (bs t)]:=by kernel_rfl
theorem oQ {U s m c:Nat}{cs:List Value}{e:TypeId}{vs:List Value}{ts:List Inl}{us:List (List UInt8)}{EM:List ai}(d2:InlsAt ts vs EM)(e0:ts.map Inl.plain? =us.map some)(g5:vs.length=m)(e1:1<=m)(g3:m<1073741824)(e4: ∀j (b4:j<m),cs[s+j]? =vs[j]?)(e3:0<us.flatten.length)(hb:us.flatten.length<1073741824)(h:Sat σ w ((U,cel cs e)::(EM++L)))(d3: ∀w b d0,InlAt (.plain us.flatten) (gZ bI b) d0->Sat σ w ((U,cel cs e)::(d0++L))->R (hQ (kT (kE b))) w):
 callE P mt #[hT (some (hZ U s)) m c] R w:=by
 have f3:=d2.length
 have b3:us.length=ts.length:=by have:=congrArg List.length e0;simpa using this.symm
 refine fL.sound ?_
 have get: ∀j,j<m-> ∃t v a b E g I u,ts=a++t::b/\EM=E++(g++I)/\InlAt t v g/\t.plain? =some u/\us[j]? =some u/\cs[s+j]? =some v/\a.length=j:=by
  intro j b4
  have c3:j<ts.length:=by omega
  have c4:ts=ts.take j++(ts[j]::ts.drop (j+1)):=by rw[<-lI1 c3,lY1]
  have O:j<us.length:=by omega
  have a6:ts[j].plain? =some us[j]:=by
   have:=congrArg (λl=>l[j]?) e0
   simpa[c3,O] using this
  have c9:=d2
  rw[c4] at c9
  obtain⟨g2,v,g1,E,g,I,rfl,rfl,e1,W,g4⟩:=c9.mid
  have c5:=e1.length
  rw[lE1,lG6 (by omega)] at c5
  refine⟨ts[j],v,ts.take j,ts.drop (j+1),E,g,I,us[j],c4,rfl,W,a6,lI0 O,?_,?_⟩
  ·rw[e4 j b4,lH0 (by omega),c5];simp
  ·rw[lE1];omega
 by_cases f0:m=1
 ·refine ag (by simp[f0]) ⟨by omega,by omega,aa ?_⟩
  obtain⟨t,v,a,b,E,g,I,u,rfl,rfl,W,a6,a7,b8,c2⟩:=get 0 (by omega)
  have f2:b= []:=by
   simp only[lA0,lF0,c2] at f3
   exact lB1 (by omega)
  have e5:a= []:=lB1 c2
  subst f2 e5
  obtain⟨e6,rfl⟩: ∃x,us= [x]:=by
   simp at b3
   match us,b3 with
   | [x],_=>exact⟨x,rfl⟩
  obtain rfl:e6=u:=by simpa using a7
  simp only[lK0,Int.toNat_zero,lO6,lN1]
  refine⟨v,Sat.ld h (.head _) b8,?_⟩
  refine jt W a6 λb9 c8 e2 c1=>⟨_,rfl,?_⟩
  refine d3 w b9 g ?_ ?_
  ·rw[c1];exact⟨b9,c8,e2,rfl,by simp⟩
  ·exact h.less (E++I)
 ·refine af (by simp;omega) ?_
  intro X d1
  have e9: ∀k j (q:Option Addr) (n b6:Nat) V w,j+k=m->Sl 1 aq q n b6 (sv (us.take j)) V->Sat σ w (V++((U,cel cs e)::(EM++L)))->X q n b6 (some (hZ U s)) m c (m:Int) (j:Int) w:=by
   intro k
   induction k with
   |zero=>
    intro j q n b6 V w b4 y h
    refine d1 _ _ _ _ _ _ _ _ _ (af (by simp;omega) ?_)
    rw[lC2 (by omega)] at y
    cases us with
    |nil=>simp at b3;omega
    |cons u us=>
     have b5:=y.1
     rw[kv] at b5
     simp at b3 b5
     have b7:=CD (u::us)
     refine CC (sep:= []) y h (by omega) (by omega) (by simp) (by rw[b7];exact e3) (by rw[b7];exact hb) λw h=>⟨_,rfl,?_⟩
     rw[b7]
     refine Sat.bx h λpb w h=>?_
     refine d3 w pb [(pb,cel [hX (bs (u::us).flatten)] nW)] ⟨pb,[],_,rfl,rfl⟩ ?_
     exact h.less (V++EM)
   |succ k f4=>
    intro j q n b6 V w b4 y h
    have f1:j<m:=by omega
    have O:j<us.length:=by omega
    refine d1 _ _ _ _ _ _ _ _ _ (ag (by simp;omega) ⟨by omega,by omega,aa ?_⟩)
    obtain⟨t,v,a,b,E,g,I,u,rfl,rfl,W,a6,a7,b8,c2⟩:=get j f1
    simp only[lK0,lC0,lC1]
    refine⟨v,Sat.ld h (lB0 _ (.head _)) b8,?_⟩
    refine jt W a6 λb9 c8 e2 c1=>⟨_,rfl,aa ?_⟩
    subst c1
    refine⟨_,Sat.ld h (lB0 _ (.tail _ (lD1 _ (lB0 _ (.head _))))) rfl,?_⟩
    have b5:=y.1
    rw[kv,lE1] at b5
    refine Sat.app1 rowStr y h (v:= hX (bs u)) rfl (by simp[Value.cells,Value.oneCell']) (EA u) (by omega) (by omega) (by decide) λg0 e7 f5 f6 e8 h=>?_
    rw[aN (by omega)]
    refine f4 (j+1) g0 (n+1) e7 f6 f5 (by omega) ?_ h
    have e:sv (us.take (j+1))=sv (us.take j)++ [hX (bs u)]:=by
     rw[lH1 O]
     have:us[j]=u:=by rw[lI0 O] at a7;exact Option.some.inj a7
     simp[sv,this]
    rw[e];exact e8
  exact e9 m 0 none 0 0 [] w (by omega) (Sl.nil 1 aq) h

def rx (p:List (List UInt8)):List Inl:=if p= [] then [] else [.plain p.flatten]
def ej:List (List UInt8)->List Inl->List Inl
 |p,[]=>rx p
 |p,t::ts=>match t.plain? with
  |some s=>ej (p++ [s]) ts
  |none=>rx p++t::ej [] ts
def li (ts:List Inl):List Inl:=ej [] ts
def rK:List Inl->Nat
 | []=>0
 |t::ts=>(match t.plain? with|some s=>s.length|none=>0)+rK ts
theorem ve {g:Type}{A B C:List g}{v:g}(y:B≠ []):(A++(B++C)).set A.length v=(A++ [v])++(B.drop 1++C):=by
 cases B with
 |nil=>exact absurd rfl y
 |cons x B=>simp[lP1]
theorem fillP (v:Value)(hv: ∃t b,v=gZ t b):Instr.fill (λi=>some (i*1,1)) ((Array.range (1*1)).map (rowInl.z.cells[· %rowInl.z.cells.size]!)) [(0,v)]=some v.cells:=by
 obtain⟨t,b,rfl⟩:=hv
 exact AY t _
theorem E8:P.underlying bI=some (.pointer nW):=eQ
theorem vq {i0 q:Option Addr}{n c:Nat}{vs:List Value}{ts:List Inl}{RM EM:List ai}(f0:Sl 1 aC q n c vs RM)(g6:InlsAt ts vs EM)(h2: ∀t∈ts,∀s,t.plain? =some s->s≠ [])(hb:rK ts<1073741824)(j1:n<1073741823)(h:Sat σ w (RM++(EM++L)))(f3: ∀w f4 g2 g1 b3,Sl 1 aC q f4 c g2 g1->f4<=n->InlsAt (li ts) g2 b3->Sat σ w (g1++(b3++L))->R (hQ (hT q f4 c)) w):callE P fE #[kT i0,hT q n c] R w:=by
 have l5:=f0.1
 have i2:=f0.2.1
 have i4:=g6.length
 refine bH.sound ?_
 refine⟨_,_,_,_,rf rowInl.ht rowInl.hi q n c 0 (by omega) w,?_⟩
 intro X f2
 obtain⟨_,_,⟨rfl,rfl,rfl,rfl⟩|⟨E,sp,rfl,rfl,g0⟩⟩:=f0
 ·have h3:ts= []:=lB1 (by omega)
  subst h3
  refine f2 _ _ _ _ _ _ _ _ _ (af rfl ?_)
  refine af rfl (ag rfl ?_)
  exact f3 w 0 [] [] [] (Sl.nil 1 aC) (by omega) ⟨rfl,rfl⟩ (h.sub (by rw[lT0];exact lH3 _ _))
 have g7:vs.length=n:=by omega
 have h5: ∀(a7:List Inl) (V:List Inl) (us:List (List UInt8)) (b6:List Inl) (g junk y c8:List Value) (O b7 RM:List ai) w,
  InlsAt b6 g O->InlsAt V y b7->InlsAt a7 c8 RM->V.map Inl.plain? =us.map some->(∀u∈us,u≠ [])->(∀t∈a7,∀s,t.plain? =some s->s≠ [])->us.flatten.length+rK a7<1073741824->
  g.length+junk.length+y.length+c8.length=n->li ts=b6++ej us a7->
  Sat σ w ((E,cel (g++(junk++(y++(c8++sp)))) aC)::(O++(b7++(RM++L))))->
  X (kE E) n c (kE E) g.length c ((g.length+junk.length:Nat):Int) ((g.length+junk.length+y.length:Nat):Int) w:=by
  intro a7
  induction a7 with
  |nil=>
   intro V us b6 g junk y c8 O b7 RM w c2 b4 e6 b9 d3 e0 c5 c4 c1 h
   obtain⟨rfl,rfl⟩:=e6
   have e7:=b4.length
   have c9:us.length=V.length:=by have:=congrArg List.length b9;simpa using this.symm
   simp only[lK1,lN1] at c4
   refine f2 _ _ _ _ _ _ _ _ _ (af (by simp;omega) ?_)
   by_cases b5:y= []
   ·subst b5
    have e4:V= []:=by cases V with
     |nil=>rfl
     |cons _ _=>simp at e7
    subst e4
    have e5:us= []:=by cases us with
     |nil=>rfl
     |cons _ _=>simp at c9
    subst e5
    obtain⟨_,rfl⟩:=b4
    refine af (by simp) (ag (by simp at c4⊢;omega) ?_)
    refine f3 w g.length g [(E,cel (g++(junk++sp)) aC)] O ⟨by omega,by omega,.inr ⟨E,junk++sp,rfl,rfl,?_⟩⟩ (by omega) ?_ ?_
    ·simp only[lA0] at g0⊢;simp at c4;omega
    ·rw[c1];simpa[ej,rx] using c2
    ·simp only[lT0] at h;exact h.re
   ·have h1:0<y.length:=lY0.2 b5
    refine ag (by simp;omega) ?_
    refine⟨_,_,_,_,B2 rowInl.ht rowInl.hi _ n c _ _ (by omega) (by omega) w,?_⟩
    rw[if_neg (by omega),rowInl.hs]
    simp only[lI3,lK0,lO0,lC1]
    have c3:us≠ []:=by intro h0;subst h0;simp at c9;omega
    have e8:0<us.flatten.length:=by
     cases us with
     |nil=>exact absurd rfl c3
     |cons u us=>
      have:=lY0.2 (d3 u (.head _))
      simp only[lK3,lA0];omega
    have h:Sat σ w ((E,cel (g++(junk++(y++([]++sp)))) aC)::(b7++(O++L))):=h.re
    refine oQ (us:=us) b4 b9 (by omega) (by omega) (by omega) ?_ e8 (by simp only[rK] at c5;omega) h λw nb b3 f5 h=>⟨_,rfl,?_⟩
    ·intro j h8
     rw[lH0 (by omega),lH0 (by omega),lM0 (by omega)]
     congr 1;omega
    have h:Sat σ w ((E,cel (g++((junk++y)++sp)) aC)::(b3++(O++L))):=by
     have e:g++(junk++(y++([]++sp)))=g++((junk++y)++sp):=by simp
     rw[<-e];exact h
    refine vS rowInl h (v:=gZ bI nb) (by simp;omega) (by omega) rfl rfl (AY _ _) λw h=>?_
    rw[ve (by simp[b5])] at h
    refine ag (by simp;omega) ?_
    refine f3 w (g.length+1) (g++ [gZ bI nb]) [(E,cel ((g++ [gZ bI nb])++((junk++y).drop 1++sp)) aC)] (O++b3) ⟨by simp,by omega,.inr ⟨E,_,rfl,rfl,?_⟩⟩ (by omega) ?_ ?_
    ·simp only[lA0,lM1,lE0] at g0⊢;omega
    ·rw[c1]
     simp only[ej,rx,if_neg c3]
     exact c2.append (InlsAt.one f5)
    ·exact h.re
  |cons t a7 g5=>
   intro V us b6 g junk y c8 O b7 RM w c2 b4 e6 b9 d3 e0 c5 c4 c1 h
   have e7:=b4.length
   have c9:us.length=V.length:=by have:=congrArg List.length b9;simpa using this.symm
   obtain⟨v,I,d0,d1,rfl,rfl,hv,f6⟩:=e6
   simp only[lF0] at c4
   refine f2 _ _ _ _ _ _ _ _ _ (ag (by simp;omega) ⟨by omega,by omega,aa ?_⟩)
   simp only[lK0,lC0,lC1,lO0]
   have f1:(g++(junk++(y++(v::I++sp))))[g.length+junk.length+y.length]? =some v:=by
    rw[lH0 (by omega),lH0 (by omega),lH0 (by omega)]
    rw[show g.length+junk.length+y.length - g.length - junk.length - y.length=0 by omega]
    rfl
   refine⟨v,Sat.ld h (.head _) f1,?_⟩
   cases a6:t.plain? with
   |some u=>
    refine jt hv a6 λi8 i3 k0 j0=>⟨_,rfl,?_⟩
    refine⟨_,_,dQ E8 _ w,ag rfl ?_⟩
    rw[aN (by omega)]
    have:=g5 (V++ [t]) (us++ [u]) b6 g junk (y++ [v]) I O (b7++d0) d1 w c2 (b4.append (InlsAt.one hv)) f6 (by simp[b9,a6])
     (by
      intro x b8;rcases lP0.1 b8 with b8|b8
      ·exact d3 x b8
      ·simp at b8;subst b8;exact e0 t (.head _) _ a6)
     (λt' e9=>e0 t' (.tail _ e9)) (by simp only[rK,a6] at c5;simp only[List.flatten_append,lK3,List.flatten_nil,lA0,lG0];omega) (by simp;omega) (by rw[c1,ej,a6]) ?_
    ·simp only[lA0,lE0,<-lC3] at this
     exact this
    ·have e:g++(junk++(y++ [v]++(I++sp)))=g++(junk++(y++(v::I++sp))):=by simp
     rw[e];exact h.re
   |none=>
    refine ju hv a6 ⟨_,rfl,?_⟩
    refine⟨_,_,dQ E8 _ w,af rfl ?_⟩
    have g4: ∃t b,v=gZ t b:=by obtain⟨b,_,_,_,h,_⟩:=hv.ptr;exact⟨_,b,h⟩
    have g3:v.cells= #[v]/\v.oneCell'=true:=by obtain⟨t,b,rfl⟩:=g4;exact⟨rfl,rfl⟩
    have fin: ∀(d2:List Inl) (U W:List Value) (e3:List ai) w,InlsAt d2 U e3->li ts=d2++t::ej [] a7->U.length+W.length=g.length+junk.length+y.length->
     Sat σ w ((E,cel (U++(W++(v::I++sp))) aC)::(e3++(d0++(d1++L))))->
     bH.k2 R X (kE E) n c (kE E) U.length c ((g.length+junk.length+y.length:Nat):Int) w:=by
     intro d2 U W e3 w h6 h4 i1 h
     refine af (by simp;omega) ⟨by omega,by omega,aa ?_⟩
     simp only[lK0,lC0,lC1,lO0]
     have f1:(U++(W++(v::I++sp)))[g.length+junk.length+y.length]? =some v:=by
      rw[lH0 (by omega),lH0 (by omega)]
      rw[show g.length+junk.length+y.length - U.length - W.length=0 by omega]
      rfl
     refine⟨v,Sat.ld h (.head _) f1,?_⟩
     have e:U++(W++(v::I++sp))=U++((W++ [v])++(I++sp)):=by simp
     rw[e] at h
     refine vS rowInl h (v:=v) (by simp;omega) (by omega) g3.1 g3.2 (fillP v g4) λw h=>?_
     rw[ve (by simp)] at h
     have h9:i64.wrap (((g.length+junk.length+y.length:Nat):Int)+1)=((g.length+junk.length+y.length+1:Nat):Int):=aN (by omega)
     rw[h9]
     have:=g5 [] [] (d2++ [t]) (U++ [v]) ((W++ [v]).drop 1) [] I (e3++d0) [] d1 w (h6.append (InlsAt.one hv)) ⟨rfl,rfl⟩ f6 rfl (by simp) (λt' e9=>e0 t' (.tail _ e9)) (by simp only[rK,a6] at c5;simp;omega)
      (by simp;omega) (by rw[h4];simp) ?_
     ·simp only[lA0,lE0,lM1,lK1,lN1] at this
      have h7:U.length+1+(W.length+1 - 1)=g.length+junk.length+y.length+1:=by omega
      rw[h7] at this
      exact this
     ·rw[lT0]
      exact h.re
    by_cases b5:y= []
    ·subst b5
     have e4:V= []:=by cases V with
      |nil=>rfl
      |cons _ _=>simp at e7
     subst e4
     have e5:us= []:=by cases us with
      |nil=>rfl
      |cons _ _=>simp at c9
     subst e5
     obtain⟨_,rfl⟩:=b4
     refine af (by simp) ?_
     refine fin b6 g junk O w c2 (by rw[c1,ej,a6];rfl) (by simp) ?_
     simp only[lT0] at h
     exact h.re
    ·have h1:0<y.length:=lY0.2 b5
     refine ag (by simp;omega) ?_
     refine⟨_,_,_,_,B2 rowInl.ht rowInl.hi _ n c _ _ (by omega) (by omega) w,?_⟩
     rw[if_neg (by omega),rowInl.hs]
     simp only[lI3,lK0,lO0,lC1]
     have c3:us≠ []:=by intro h0;subst h0;simp at c9;omega
     have e8:0<us.flatten.length:=by
      cases us with
      |nil=>exact absurd rfl c3
      |cons u us=>
       have:=lY0.2 (d3 u (.head _))
       simp only[lK3,lA0];omega
     have h:Sat σ w ((E,cel (g++(junk++(y++(v::I++sp)))) aC)::(b7++(O++(d0++(d1++L))))):=h.re
     refine oQ (us:=us) b4 b9 (by omega) (by omega) (by omega) ?_ e8 (by simp only[rK] at c5;omega) h λw nb b3 f5 h=>⟨_,rfl,?_⟩
     ·intro j h8
      rw[lH0 (by omega),lH0 (by omega),lM0 (by omega)]
      congr 1;omega
     have h:Sat σ w ((E,cel (g++((junk++y)++(v::I++sp))) aC)::(b3++(O++(d0++(d1++L))))):=by
      have e:g++(junk++(y++(v::I++sp)))=g++((junk++y)++(v::I++sp)):=by simp
      rw[<-e];exact h
     refine vS rowInl h (v:=gZ bI nb) (by simp;omega) (by omega) rfl rfl (AY _ _) λw h=>?_
     rw[ve (by simp[b5])] at h
     have:=fin (b6++ [.plain us.flatten]) (g++ [gZ bI nb]) ((junk++y).drop 1) (O++b3) w (c2.append (InlsAt.one f5)) (by rw[c1,ej,a6];simp[rx,c3]) (by simp;omega) (h.re)
     simp only[lA0,lE0] at this
     exact this
 have:=h5 ts [] [] [] [] [] [] vs [] [] EM w ⟨rfl,rfl⟩ ⟨rfl,rfl⟩ g6 rfl (by simp) h2 (by simpa using hb) (by simpa using g7) rfl (by simp only[lT0];exact h.re)
 exact this
end Go.Proofs.YtendaipfdnhnaaaGreatDoor
