/- Part 2 of the proof of the law FnExactLines: for every input the law returns true, the inputs read as they did, and memory that was there is as it was; under the conditions of the given row alone. -/
import Derived.Deep.AppendSrc
import Derived.Great.BuildSlice
import Derived.Laws.Slices
import Derived.Lib.UnsafeStr
import Derived.Lib.BufferWrite
import Derived.Lib.BufferRead
import Derived.Laws.IdiomStrings
import Derived.Laws.MakeOwn
import Derived.Shelf.Bytes.GrowSlice
import Derived.Laws.Externs
import Derived.Lib.Bytealg
import Derived.Lib.MakeNoZero
import Derived.Lib.Builder
import Derived.Test.YtendaipfdnhnaaaGreatDoorA1
set_option linter.all false
open Go.IntKind(i64)
open ByteArray renaming mk→hP
open List renaming replicate→hN
namespace Go.Proofs.YtendaipfdnhnaaaGreatDoor
open Go.Proofs Go.IntWalk Go.RowKit
set_option maxRecDepth 20000
variable {σ:Out} {w:World} {L L':List ai} {R:Ending->World->Prop}
namespace iI
def bl1 (R:EP)(Xa:BA->Int->WP)(y:BA)(g:Int)(w:World):Prop:=
 ((decide (g<(y.size:Int)))=true->0<=g/\g<(y.size:Int))/\
 (((decide (g<(y.size:Int))) && (!((bt y g)==32)))=true->0<=g/\g<(y.size:Int))/\
 (((decide (g<(y.size:Int))) && (!(((bt y g)==32)||((bt y g)==9))))=true->0<=g/\g<(y.size:Int))/\
 br ((decide (g<(y.size:Int))) && ((((bt y g)==32)||((bt y g)==9))||((bt y g)==10)))
 (Xa y (i64.wrap (g+1)) w)
 (R (hQ (hY g)) w)
def l1 (R:EP)(g:BA)(y:Int)(w:World):Prop:=
 ∀X:BA->Int->WP,(∀g y w,bl1 R X g y w->X g y w)->X g y w
end iI
def iI (R:EP)(g:BA)(y:Int)(w:World):Prop:=
 iI.l1 R g y w
theorem iI.sound {R x0 x1 w}(h:iI R x0 x1 w):callE P kl #[hX x0,hY x1] R w:=
 aH [(9,.lp [1,27] (iI.bl1 R) λXa=> [])] Tryz.func171 Tryz.call171 h
namespace bW
def k3 (R:EP)(Xa:OA->Nat->Nat->BA->Int->OA->Nat->Nat->Int->Int->WP)(O:OA)(H I:Nat)(a7:BA)(W:Int)(a6:BA)(E:OA)(y g:Nat)(U V:Int)(w:World):Prop:=
 Xa O H I a7 (i64.wrap (W+(a6.size:Int))) E y g U (i64.wrap (V+1)) w
def bl2 (R:EP)(b9:BA->Nat->OA->Nat->Nat->Int->Int->WP)(V:BA)(y:Nat)(E:OA)(H b4:Nat)(O g:Int)(w:World):Prop:=
 br (decide (g<O))
 (0<=g/\g<(H:Int)/\
 aA E λb7=>
 ∃I,w.cell? (b7.add (Int.toNat g*1))=some (hX I)/\
 callE P bv #[kT (kE y),hX V] (λe b6=> ∃a7,∃(b3:Value),e= hQ (.tuple #[hY a7,b3])/\
 callE P bv #[kT (kE y),hX I] (λe b8=> ∃a6,∃(W:Value),e= hQ (.tuple #[hY a6,W])/\
 b9 V y E H b4 O (i64.wrap (g+1)) b8) b6) w)
 (callE P dm #[kT (kE y)] (λe b5=> ∃U,e= hQ (hX U)/\
 R (hQ (hX U)) b5) w)
def l2 (R:EP)(O:BA)(U:Nat)(g:OA)(y E:Nat)(H I:Int)(w:World):Prop:=
 ∀X:BA->Nat->OA->Nat->Nat->Int->Int->WP,(∀O U g y E H I w,bl2 R X O U g y E H I w->X O U g y E H I w)->X O U g y E H I w
def bl1 (R:EP)(Xa:OA->Nat->Nat->BA->Int->OA->Nat->Nat->Int->Int->WP)(H:OA)(E b4:Nat)(b9:BA)(O:Int)(a6:OA)(W c3:Nat)(b6 g:Int)(w:World):Prop:=
 br (decide (g<b6))
 (0<=g/\g<(W:Int)/\
 aA a6 λa3=>
 ∃U,w.cell? (a3.add (Int.toNat g*1))=some (hX U)/\
 br (decide ((U.size:Int)>(i64.wrap (9223372036854775807 - O))))
 (False)
 (k3 R Xa H E b4 b9 O U a6 W c3 b6 g w))
 (box w #[kT none,hT none 0 0] cr λI c5=>
 callE P eF #[kT (kE I),hY O] (λe b8=>e= hQ (.tuple #[])/\
 0<=(0:Int)/\0<(E:Int)/\
 aA H λa9=>
 ∃b7,b8.cell? (a9.add (Int.toNat 0*1))=some (hX b7)/\
 callE P bv #[kT (kE I),hX b7] (λe c4=> ∃c2,∃(c1:Value),e= hQ (.tuple #[hY c2,c1])/\
 ∃V y,∃a7 b3,(Instr.sliceAt al (hT H E b4) (some (hY 1)) none none).run P c4= .ok (hT V y a7) b3/\
 l2 R b9 I V y a7 (y:Int) 0 b3) b8) c5)
def l1 (R:EP)(O:OA)(H I:Nat)(a6:BA)(W:Int)(E:OA)(y g:Nat)(U V:Int)(w:World):Prop:=
 ∀X:OA->Nat->Nat->BA->Int->OA->Nat->Nat->Int->Int->WP,(∀O H I a6 W E y g U V w,bl1 R X O H I a6 W E y g U V w->X O H I a6 W E y g U V w)->X O H I a6 W E y g U V w
def k2 (R:EP)(E:OA)(g y:Nat)(I:BA)(H:Int)(w:World):Prop:=
 l1 R E g y I H E g y (g:Int) 0 w
def k1 (R:EP)(H:OA)(g E:Nat)(y:BA)(I:Int)(w:World):Prop:=
 k2 R H g E y (i64.wrap (I+(i64.wrap ((y.size:Int)*(i64.wrap ((g:Int) - 1)))))) w
end bW
def bW (R:EP)(E:OA)(g H:Nat)(y:BA)(w:World):Prop:=
 br ((g:Int)==0)
 (False)
 (br ((g:Int)==1)
 (0<=(0:Int)/\0<(g:Int)/\
 aA E λa1=>
 ∃I,w.cell? (a1.add (Int.toNat 0*1))=some (hX I)/\
 R (hQ (hX I)) w)
 (br (decide ((y.size:Int)>0))
 ((i64.wrap ((g:Int) - 1))≠0/\
 br (decide ((y.size:Int) >= (i64.wrap (Int.tdiv 9223372036854775807 (i64.wrap ((g:Int) - 1))))))
 (False)
 (bW.k1 R E g H y 0 w))
 (bW.k2 R E g H y 0 w)))
theorem bW.sound {R x0q x0n x0c x1 w}(h:bW R x0q x0n x0c x1 w):callE P fR #[hT x0q x0n x0c,hX x1] R w:=
 aH [(85,.no),(663,.no),(215,.mk [3,21,107] (bW.k1 R)),(31,.mk [3,21,107] (bW.k2 R)),(175,.lp [3,21,107,783,807,827] (bW.bl1 R) λXa=> [(339,.no),(115,.mk [3,21,107,141,783,807,827] (bW.k3 R Xa))]),(2815,.lp [21,166,1263,1287,1307] (bW.bl2 R) λg=> [])] Tryz.func233 Tryz.call233 h
namespace aj
noncomputable def body:Code:=mq Tryz.f80
def k3 (R:EP)(Xa:OA->Nat->WP)(g:OA)(O:Nat)(w:World):Prop:=
 aA g λE=>
 ∃y,w.cell? (E.add 5)=some (hY y)/\
 aA g λI=>
 stV w ((I.add 5).add 0) (hY (i64.wrap (y+1))) λH=>
 Xa g O H
def bl2 (R:EP)(h0:OA->Nat->WP)(h1:OA->Nat->OA->Nat->Nat->Int->Int->WP)(H:OA)(g:Nat)(b7:OA)(b4 e8:Nat)(d2 I:Int)(w:World):Prop:=
 br (decide (I<d2))
 (0<=I/\I<(b4:Int)/\
 aA b7 λg3=>
 ∃(c9:Value),w.cell? (g3.add (Int.toNat I*1))=some c9/\
 ∃d1,w.cell? (hZ g 0)=some (hY d1)/\
 ∃c5,w.cell? (hZ g 1)=some (hY c5)/\
 ∃e0,w.cell? (hZ g 2)=some (hY e0)/\
 ∃d5,w.cell? (hZ g 3)=some (hX d5)/\
 ∃c8,w.cell? (hZ g 4)=some (.int .u8 c8)/\
 cY P (do let d <-Deferred.ofValue c9 #[kT H,.agg #[hY d1,hY c5,hY e0,hX d5,.int .u8 c8]];invoke d.target d.args) (λe f6=> ∃V U,∃W a7,∃a6 b3,e= hQ (.tuple #[.agg #[hY V,hY U,hY W,hX a7,.int .u8 a6],hV b3])/\
 box f6 #[hY 0,hY 0,hY 0,hX (hP #[]),.int .u8 0] aW λy g4=>
 stV g4 (hZ y 0) (hY V) λg6=>
 stV g6 (hZ y 1) (hY U) λg7=>
 stV g7 (hZ y 2) (hY W) λg2=>
 stV g2 (hZ y 3) (hX a7) λf5=>
 stV f5 (hZ y 4) (.int .u8 a6) λE=>
 br b3
 (∃c4,E.cell? (hZ y 0)=some (hY c4)/\
 ∃e1,E.cell? (hZ y 1)=some (hY e1)/\
 ∃d3,E.cell? (hZ y 2)=some (hY d3)/\
 ∃d0,E.cell? (hZ y 3)=some (hX d0)/\
 ∃d4,E.cell? (hZ y 4)=some (.int .u8 d4)/\
 stV E (hZ g 0) (hY c4) λg5=>
 stV g5 (hZ g 1) (hY e1) λg0=>
 stV g0 (hZ g 2) (hY d3) λg1=>
 stV g1 (hZ g 3) (hX d0) λe9=>
 stV e9 (hZ g 4) (.int .u8 d4) λf3=>
 callE P ct #[kT (kE g)] (λe O=> ∃b5,e= hQ (hV b5)/\
 br b5
 (R (hQ (.tuple #[])) O)
 (aA H λf4=>
 ∃b6,O.cell? (f4.add 5)=some (hY b6)/\
 aA H λf1=>
 stV O ((f1.add 5).add 0) (hY (i64.wrap (b6+1))) λf2=>
 h0 H g f2)) f3)
 (h1 H g b7 b4 e8 d2 (i64.wrap (I+1)) E)) w)
 (∃c1,w.cell? (hZ g 0)=some (hY c1)/\
 ∃c3,w.cell? (hZ g 1)=some (hY c3)/\
 ∃b8,w.cell? (hZ g 2)=some (hY b8)/\
 ∃c2,w.cell? (hZ g 3)=some (hX c2)/\
 ∃b9,w.cell? (hZ g 4)=some (.int .u8 b9)/\
 callE P pr #[kT H,.agg #[hY c1,hY c3,hY b8,hX c2,.int .u8 b9]] (λe f0=> ∃e3 e6,∃e4 e5,∃e2 e7,e= hQ (.tuple #[.agg #[hY e3,hY e6,hY e4,hX e5,.int .u8 e2],hV e7])/\
 R (hQ (.tuple #[])) f0) w)
def l2 (R:EP)(V:OA->Nat->WP)(U:OA)(O:Nat)(E:OA)(g y:Nat)(I H:Int)(w:World):Prop:=
 ∀X:OA->Nat->OA->Nat->Nat->Int->Int->WP,(∀U O E g y I H w,bl2 R V X U O E g y I H w->X U O E g y I H w)->X U O E g y I H w
noncomputable def al2 (R:EP)(g:OA->Nat->WP)(y:OA->Nat->OA->Nat->Nat->Int->Int->WP):AC:=
 (.leaf (sb 1780 body))
def bl102 (R:EP)(U:OA->Nat->WP)(O:OA)(I:Nat)(w:World):Prop:=
 callE P B5 #[] (λe H=> ∃E g y,e= hQ (hT E g y)/\
 l2 R U O I E g y (g:Int) 0 H) w
def l102 (R:EP)(y:OA)(g:Nat)(w:World):Prop:=
 ∀X:OA->Nat->WP,(∀y g w,bl102 R X y g w->X y g w)->X y g w
noncomputable def GR (R:EP)(g:OA->Nat->WP):AC:=
 (.seq (.seq (.leaf (sb 444 body)) (.block 2 (.loop (leaf [(0,.s .ptr),(3,.s .loc),(86,.s .slice),(87,.s (.int .i64)),(88,.s (.int .i64))] (l2 R g)) (sb 1780 body)))) (.leaf (sb 223 body)))
def k2 (R:EP)(y:OA)(I:Nat)(w:World):Prop:=
 callE P ct #[kT (kE I)] (λe g=> ∃H,e= hQ (hV H)/\
 br H
 (aA y λO=>
 ∃E,g.cell? (O.add 5)=some (hY E)/\
 callE P bj #[kT y,hY (i64.wrap (E+1))] (λe U=>e= hQ (.tuple #[])/\
 R (hQ (.tuple #[])) U) g)
 (bl102 R (l102 R) y I g)) w
def k1 (R:EP)(Xa:OA->Nat->WP)(g:OA)(H:Nat)(W b3:Bool)(w:World):Prop:=
 br b3
 (tk w λE=>
 aA g λb6=>
 aA g λb4=>
 aA g λa7=>
 ∃I O a6,E.cell? (b6.add 4)=some (hT I O a6)/\
 ∃y,E.cell? (b4.add 5)=some (hY y)/\
 ∃V,E.cell? (a7.add 3)=some (hY V)/\
 0<=(i64.wrap (y+1))/\(i64.wrap (y+1))<(O:Int)/\
 aA I λb5=>
 stV E ((((b5.add (Int.toNat (i64.wrap (y+1))*4)).add 2).add 1).add 0) (hY V) λU=>
 br (!W)
 (k2 R g H U)
 (k3 R Xa g H U))
 (br (!W)
 (k2 R g H w)
 (k3 R Xa g H w))
def bl1 (R:EP)(Xa:OA->Nat->WP)(O:OA)(g:Nat)(w:World):Prop:=
 tk w λI=>
 aA O λh5=>
 aA O λh6=>
 ∃f1,I.cell? (h5.add 5)=some (hY f1)/\
 ∃h3 d3 g0,I.cell? (h6.add 4)=some (hT h3 d3 g0)/\
 br (decide ((i64.wrap (f1+1))<(d3:Int)))
 (∃e4,I.cell? (hZ g 0)=some (hY e4)/\
 ∃f0,I.cell? (hZ g 1)=some (hY f0)/\
 ∃e9,I.cell? (hZ g 2)=some (hY e9)/\
 ∃d4,I.cell? (hZ g 3)=some (hX d4)/\
 ∃d2,I.cell? (hZ g 4)=some (.int .u8 d2)/\
 box I #[hY 0,hY 0,hY 0,hX (hP #[]),.int .u8 0] aW λE f4=>
 stV f4 (hZ E 0) (hY e4) λf5=>
 stV f5 (hZ E 1) (hY f0) λh0=>
 stV h0 (hZ E 2) (hY e9) λg5=>
 stV g5 (hZ E 3) (hX d4) λg7=>
 stV g7 (hZ E 4) (.int .u8 d2) λg1=>
 tk g1 λH=>
 aA O λg3=>
 aA O λf6=>
 ∃d0 d1 f2,H.cell? (g3.add 4)=some (hT d0 d1 f2)/\
 ∃V,H.cell? (f6.add 5)=some (hY V)/\
 0<=(i64.wrap (V+1))/\(i64.wrap (V+1))<(d1:Int)/\
 aA d0 λf3=>
 ∃(e7:Value),H.cell? (f3.add (Int.toNat (i64.wrap (V+1))*4))=some e7/\
 ∃e3,H.cell? (hZ g 0)=some (hY e3)/\
 ∃d5,H.cell? (hZ g 1)=some (hY d5)/\
 ∃e6,H.cell? (hZ g 2)=some (hY e6)/\
 ∃e2,H.cell? (hZ g 3)=some (hX e2)/\
 ∃e0,H.cell? (hZ g 4)=some (.int .u8 e0)/\
 cY P (callMethod e7 "pub-paratext/pub/rscmarkdown.extend" #[kT O,.agg #[hY e3,hY d5,hY e6,hX e2,.int .u8 e0]]) (λe h1=> ∃c8 c5,∃c4 c3,∃c9 U,e= hQ (.tuple #[.agg #[hY c8,hY c5,hY c4,hX c3,.int .u8 c9],hV U])/\
 stV h1 (hZ g 0) (hY c8) λg4=>
 stV g4 (hZ g 1) (hY c5) λg2=>
 stV g2 (hZ g 2) (hY c4) λh2=>
 stV h2 (hZ g 3) (hX c3) λh4=>
 stV h4 (hZ g 4) (.int .u8 c9) λg6=>
 callE P ct #[kT (kE E)] (λe y=> ∃e8,e= hQ (hV e8)/\
 br (!e8)
 (br U
 (k1 R Xa O g U true y)
 (∃b9,y.cell? (hZ g 0)=some (hY b9)/\
 ∃b6,y.cell? (hZ g 1)=some (hY b6)/\
 ∃b7,y.cell? (hZ g 2)=some (hY b7)/\
 ∃c2,y.cell? (hZ g 3)=some (hX c2)/\
 ∃W,y.cell? (hZ g 4)=some (.int .u8 W)/\
 ∃b5,y.cell? (hZ E 0)=some (hY b5)/\
 ∃b3,y.cell? (hZ E 1)=some (hY b3)/\
 ∃c1,y.cell? (hZ E 2)=some (hY c1)/\
 ∃b4,y.cell? (hZ E 3)=some (hX b4)/\
 ∃b8,y.cell? (hZ E 4)=some (.int .u8 b8)/\
 ∃e1 e5,(do eqGuard .neq aW (.tmp 55) (.tmp 56) (.agg #[hY b9,hY b6,hY b7,hX c2,.int .u8 W]) (.agg #[hY b5,hY b3,hY c1,hX b4,.int .u8 b8]);binOp .neq aW (.agg #[hY b9,hY b6,hY b7,hX c2,.int .u8 W]) (.agg #[hY b5,hY b3,hY c1,hX b4,.int .u8 b8])).run P y= .ok (hV e1) e5/\
 k1 R Xa O g U e1 e5))
 (k1 R Xa O g U false y)) g6) H)
 (k2 R O g I)
def l1 (R:EP)(y:OA)(g:Nat)(w:World):Prop:=
 ∀X:OA->Nat->WP,(∀y g w,bl1 R X y g w->X y g w)->X y g w
noncomputable def al1 (R:EP)(Xa:OA->Nat->WP):AC:=
 (.seq (.seq (.draw (.pure 0 (.pure 1 (.pure 2 (.pure 5 (.pure 6 (.pure 7 (.load 3 (.pure 4 (.load 8 (.pure 9 (.pure 10 .done))))))))))) (sb 416 body)) (.leaf (sb 417 body))) (.seq (.block 1 (.seq (.leaf (sb 1672 body)) (.seq (.leaf (sb 3346 body)) (.seq (.draw (.pure 0 (.pure 1 (.pure 2 (.pure 4 (.pure 5 (.pure 6 (.pure 12 (.load 3 (.load 7 (.pure 8 (.pure 9 (.pure 10 (.load 11 (.load 13 (.one 14 (.pure 15 (.pure 16 (.pure 17 (.one 18 (.pure 19 .done)))))))))))))))))))) (sb 6694 body)) (.seq (.seq (.leaf (sb 26780 body)) (.mark (leaf [(0,.s .ptr),(3,.s .loc),(5,.s .bool),(59,.s .bool)] (k1 R Xa)) (.cond 59 (.draw (.pure 0 (.pure 1 (.pure 2 (.pure 4 (.pure 5 (.pure 6 (.pure 9 (.pure 10 (.pure 11 (.load 3 (.load 7 (.pure 8 (.load 12 (.pure 13 (.pure 14 (.pure 15 (.one 16 .done))))))))))))))))) (sb 53562 body)) (.leaf (sb 53563 body))))) (.leaf (sb 13391 body))))))) (.mark (leaf [(0,.s .ptr),(3,.s .loc)] (k3 R Xa)) (.leaf (sb 419 body)))))
end aj
def aj (R:EP)(g:OA)(E H I:Int)(O:BA)(y:Int)(w:World):Prop:=
 box w #[hY E,hY H,hY I,hX O,.int .u8 y] aW λb1 V=>
 aA g λa3=>
 stV V ((a3.add 5).add 0) (hY 0) λU=>
 aj.l1 R g b1 U
namespace aj
noncomputable def ac (R:EP):AC:=
 (.seq (.leaf (sb 2 body)) (.jump 0 (leaf [(0,.s .ptr),(3,.s .loc)] (l102 R)) (.seq (.leaf (sb 12 body)) (.seq (.block 0 (.loop (leaf [(0,.s .ptr),(3,.s .loc)] (l1 R)) (sb 104 body))) (.mark (leaf [(0,.s .ptr),(3,.s .loc)] (k2 R)) (.seq (.leaf (sb 54 body)) (.seq (.leaf (sb 110 body)) (.mark (leaf [(0,.s .ptr),(3,.s .loc)] (bl102 R (l102 R))) (GR R (l102 R))))))))))
theorem good (R:EP):vq P 113 (ac R) (QF P [] R):=
 ⟨trivial,⟨⟨trivial,⟨(Fq (al1 R) (bl1 R) (λ_=>by kernel_rfl) (λXa=>⟨⟨⟨by kernel_rfl,by kernel_rfl,λ_ _ _ h=>h⟩,trivial⟩,⟨⟨trivial,⟨trivial,⟨⟨by kernel_rfl,by kernel_rfl,λ_ _ _ h=>h⟩,⟨⟨trivial,⟨⟨⟨by kernel_rfl,by kernel_rfl,λ_ _ _ h=>h⟩,trivial⟩,cutZ⟩⟩,trivial⟩⟩⟩⟩,⟨trivial,cutZ⟩⟩⟩) (λXa=>by intro H E ρ w;kernel_rfl) (λX h _ _ _ y=>y X h)),⟨⟨trivial,⟨trivial,⟨⟨trivial,(Fq (al2 R (l102 R)) (bl2 R (l102 R)) (λ_=>by kernel_rfl) (λO=>trivial) (λO=>by intro H E W U V a7 a6 ρ w;kernel_rfl) (λX h _ _ _ _ _ _ _ _ y=>y X h))⟩,trivial⟩,cutZ⟩⟩,cutZ⟩⟩⟩,.seq .skip (sb 111 body),by kernel_rfl,jumpG (l:=0) (λX=> .seq (.leaf .skip) (GR R X)) (bl102 R) (by kernel_rfl) (λ_=>by kernel_rfl) (λI=>⟨trivial,⟨⟨trivial,(Fq (al2 R I) (bl2 R I) (λ_=>by kernel_rfl) (λO=>trivial) (λO=>by intro H E W U V a7 a6 ρ w;kernel_rfl) (λX h _ _ _ _ _ _ _ _ y=>y X h))⟩,trivial⟩⟩) (λI=>by intro H E ρ w;kernel_rfl) (λX h _ _ _ y=>y X h)⟩⟩
theorem sound {R:EP}{O:OA}{y E H:Int}{I:ByteArray}{g:Int}{w:World}(h:aj R O y E H I g w):callE P gS #[kT O,.agg #[hY y,hY E,hY H,hX I,.int .u8 g]] R w:=
 DY (c:=body) Tryz.func80 Tryz.call80 (good R) (by kernel_rfl) h
end aj
def Ce (R:EP)(w:World):Prop:=
 ∃E g,∃y H,(Instr.buildSlice cQ 8 #[(0,.func (.func j5) #[] #[]),(1,.func (.func fj) #[] #[]),(2,.func (.func ci) #[] #[]),(3,.func (.func qi) #[] #[]),(4,.func (.func cq) #[] #[]),(5,.func (.func lG) #[] #[]),(6,.func (.func j6) #[] #[]),(7,.func (.func pp) #[] #[])]).run P w= .ok (hT E g y) H/\
 R (hQ (hT E g y)) H
theorem Ce.sound {R w}(h:Ce R w):callE P B5 #[] R w:=
 cD Tryz.func105 Tryz.call105 h
namespace dX
def k5 (R:EP)(g:Nat)(c1:OA)(d1:BA)(w:World):Prop:=
 aA c1 λc8=>
 ∃O U V,w.cell? c8=some (hT O U V)/\
 ∃E W,∃a6 b6,(Instr.buildSlice al 1 #[(0,hX d1)]).run P w= .ok (hT E W a6) b6/\
 ∃H I,∃a7 b4,(Builtin.append_ #[al,al] al #[hT O U V,hT E W a6]).run P b6= .ok (hT H I a7) b4/\
 aA c1 λc9=>
 stV b4 (c9.add 0) (hT H I a7) λc5=>
 stV c5 (hZ g 0) (hY 0) λd0=>
 stV d0 (hZ g 1) (hY 0) λc2=>
 stV c2 (hZ g 2) (hY 0) λc3=>
 stV c3 (hZ g 3) (hX (hP #[])) λc4=>
 stV c4 (hZ g 4) (.int .u8 0) λy=>
 ∃b3,y.cell? (hZ g 0)=some (hY b3)/\
 ∃b5,y.cell? (hZ g 1)=some (hY b5)/\
 ∃b8,y.cell? (hZ g 2)=some (hY b8)/\
 ∃b7,y.cell? (hZ g 3)=some (hX b7)/\
 ∃b9,y.cell? (hZ g 4)=some (.int .u8 b9)/\
 R (hQ (.tuple #[.agg #[hY b3,hY b5,hY b8,hX b7,.int .u8 b9],hV true])) y
def bl1 (R:EP)(Xa:OA->Nat->OA->BA->Int->WP)(y:OA)(W:Nat)(V:OA)(a6:BA)(g:Int)(w:World):Prop:=
 aA y λb5=>
 ∃b3 H a7,w.cell? (b5.add 4)=some (hT b3 H a7)/\
 br (decide (g<(H:Int)))
 (tk w λE=>
 aA y λb7=>
 aA y λb9=>
 ∃O I b4,E.cell? (b7.add 4)=some (hT O I b4)/\
 ∃U,E.cell? (b9.add 3)=some (hY U)/\
 0<=g/\g<(I:Int)/\
 aA O λb8=>
 stV E ((((b8.add (Int.toNat g*4)).add 2).add 1).add 0) (hY U) λb6=>
 Xa y W V a6 (i64.wrap (g+1)) b6)
 (k5 R W V a6 w)
def l1 (R:EP)(E:OA)(H:Nat)(y:OA)(I:BA)(g:Int)(w:World):Prop:=
 ∀X:OA->Nat->OA->BA->Int->WP,(∀E H y I g w,bl1 R X E H y I g w->X E H y I g w)->X E H y I g w
def k4 (R:EP)(E:OA)(U:Nat)(y:OA)(V:BA)(a7:Bool)(w:World):Prop:=
 br a7
 (False)
 (∃I g,(do eqGuard .neq ar (.tmp 132) (.const (kT none)) (kT y) (kT none);binOp .neq ar (kT y) (kT none)).run P w= .ok (hV I) g/\
 br I
 (aA E λa6=>
 ∃H,g.cell? (a6.add 5)=some (hY H)/\
 l1 R E U y V H g)
 (box g #[hT none 0 0,kT none] aL λO b3=>
 callE P bR #[kT E,.iface ar (kT (kE O))] (λe W=>e= hQ (.tuple #[])/\
 k5 R U (kE O) V W) b3))
def k3 (R:EP)(E:OA)(I:Nat)(y:OA)(d1:Bool)(H:BA)(w:World):Prop:=
 tk w λg=>
 aA E λc2=>
 ∃b3,g.cell? c2=some (kT b3)/\
 aA b3 λc4=>
 ∃b4,g.cell? (c4.add 5)=some (hV b4)/\
 br b4
 (∃b5,(∀w,(do eqGuard .neq ar (.tmp 59) (.const (kT none)) (kT y) (kT none);binOp .neq ar (kT y) (kT none)).run P w= .ok (hV b5) w)/\
 br b5
 (br d1
 (aA y λc8=>
 ∃c1 V b7,g.cell? c8=some (hT c1 V b7)/\
 br (decide ((V:Int)>0))
 (aA y λc3=>
 aA y λc9=>
 ∃W U b6,g.cell? c3=some (hT W U b6)/\
 ∃b8 O b9,g.cell? c9=some (hT b8 O b9)/\
 0<=(i64.wrap ((O:Int) - 1))/\(i64.wrap ((O:Int) - 1))<(U:Int)/\
 aA W λc5=>
 ∃a7,g.cell? (c5.add (Int.toNat (i64.wrap ((O:Int) - 1))*1))=some (hX a7)/\
 callE P tr #[hX a7,hX H] (λe d0=> ∃a6,e= hQ (hV a6)/\
 k4 R E I y H a6 d0) g)
 (k4 R E I y H false g))
 (k4 R E I y H false g))
 (k4 R E I y H false g))
 (k4 R E I y H false g)
def k1 (R:EP)(H:OA)(I:Nat)(y:OA)(E:Bool)(O:BA)(g:Bool)(w:World):Prop:=
 br g
 (False)
 (k3 R H I y E O w)
end dX
def dX (R:EP)(y:OA)(b9 b7 c2:Int)(b8:BA)(b5:Int)(w:World):Prop:=
 box w #[hY b9,hY b7,hY c2,hX b8,.int .u8 b5] aW λb1 c9=>
 box c9 #[hY 0,hY 0,hY 0,hX (hP #[]),.int .u8 0] aW λb4 c5=>
 callE P ez #[kT y] (λe c8=> ∃g,e= hQ (kT g)/\
 tk c8 λV=>
 aA y λa8=>
 aA y λa9=>
 ∃O,V.cell? (a8.add 5)=some (hY O)/\
 ∃b6 H c1,V.cell? (a9.add 4)=some (hT b6 H c1)/\
 callE P fZ #[kT (kE b1)] (λe c4=> ∃U,e= hQ (hX U)/\
 ∃W E,(do eqGuard .neq ar (.tmp 26) (.const (kT none)) (kT g) (kT none);binOp .neq ar (kT g) (kT none)).run P c4= .ok (hV W) E/\
 br W
 (aA g λc3=>
 ∃I,E.cell? (c3.add 1)=some (kT I)/\
 ∃a7 a6,(do eqGuard .neq ff (.tmp 32) (.const (kT none)) (kT I) (kT none);binOp .neq ff (kT I) (kT none)).run P E= .ok (hV a7) a6/\
 dX.k1 R y b4 g (O==(i64.wrap ((H:Int) - 2))) U a7 a6)
 (dX.k1 R y b4 g (O==(i64.wrap ((H:Int) - 2))) U false E)) V) c5
theorem dX.sound {R x0 x1_0 x1_1 x1_2 x1_3 x1_4 w}(h:dX R x0 x1_0 x1_1 x1_2 x1_3 x1_4 w):callE P pr #[kT x0,.agg #[hY x1_0,hY x1_1,hY x1_2,hX x1_3,.int .u8 x1_4]] R w:=
 aH [(11,.dr (rpN [0,3,6,12,15,18,10,22,24,27,30,33])),(111,.mk [2,86,122,140,161,680] (dX.k1 R)),(175,.no),(63,.mk [2,86,122,140,161] (dX.k3 R)),(159,.dr (rpN [0,3,6,10,12,15,19,21,24,27,30,33,36,39,42,45,48,51,55,57,60,63,66,69,72,75,81,84,87,105,79,91,93,96,99,103,110,111])),(223,.mk [2,86,122,161,1760] (dX.k4 R)),(351,.no),(2751,.lp [2,86,122,161,227] (dX.bl1 R) λXa=> [(9,.dr (rpN [0,3,6,12,15,18,21,10,25,27,30,33,38]))]),(255,.mk [86,122,161] (dX.k5 R))] Tryz.func106 Tryz.call106 h
namespace jx
def k1 (R:EP)(c1:OA)(E g c2:Nat)(b9:Bool)(w:World):Prop:=
 br b9
 (False)
 (∃b4,w.cell? (hZ E 0)=some (hY b4)/\
 ∃U,w.cell? (hZ E 1)=some (hY U)/\
 ∃I,w.cell? (hZ E 2)=some (hY I)/\
 ∃a7,w.cell? (hZ E 3)=some (hX a7)/\
 ∃W,w.cell? (hZ E 4)=some (.int .u8 W)/\
 stV w (hZ g 0) (hY b4) λb6=>
 stV b6 (hZ g 1) (hY U) λb7=>
 stV b7 (hZ g 2) (hY I) λb5=>
 stV b5 (hZ g 3) (hX a7) λb8=>
 stV b8 (hZ g 4) (.int .u8 W) λy=>
 ∃O,y.cell? (hZ g 0)=some (hY O)/\
 ∃b3,y.cell? (hZ g 1)=some (hY b3)/\
 ∃H,y.cell? (hZ g 2)=some (hY H)/\
 ∃a6,y.cell? (hZ g 3)=some (hX a6)/\
 ∃V,y.cell? (hZ g 4)=some (.int .u8 V)/\
 R (hQ (.tuple #[.agg #[hY O,hY b3,hY H,hX a6,.int .u8 V],hV false])) y)
end jx
def jx (R:EP)(E:OA)(c2 b9 c3:Int)(c1:BA)(b8:Int)(w:World):Prop:=
 box w #[hY c2,hY b9,hY c3,hX c1,.int .u8 b8] aW λb1 d4=>
 box d4 #[hY 0,hY 0,hY 0,hX (hP #[]),.int .u8 0] aW λO y=>
 ∃b7,y.cell? (hZ b1 0)=some (hY b7)/\
 ∃a7,y.cell? (hZ b1 1)=some (hY a7)/\
 ∃b6,y.cell? (hZ b1 2)=some (hY b6)/\
 ∃b4,y.cell? (hZ b1 3)=some (hX b4)/\
 ∃b5,y.cell? (hZ b1 4)=some (.int .u8 b5)/\
 box y #[hY 0,hY 0,hY 0,hX (hP #[]),.int .u8 0] aW λg c8=>
 stV c8 (hZ g 0) (hY b7) λd0=>
 stV d0 (hZ g 1) (hY a7) λd1=>
 stV d1 (hZ g 2) (hY b6) λc4=>
 stV c4 (hZ g 3) (hX b4) λc9=>
 stV c9 (hZ g 4) (.int .u8 b5) λc5=>
 callE P ez #[kT E] (λe d3=> ∃H,e= hQ (kT H)/\
 ∃a6 I,(do eqGuard .eql ar (.tmp 10) (.const (kT none)) (kT H) (kT none);binOp .eql ar (kT H) (kT none)).run P d3= .ok (hV a6) I/\
 br a6
 (callE P bl #[kT (kE g),hY 4,hY 4,hV false] (λe V=> ∃W,e= hQ (hV W)/\
 br W
 (callE P ct #[kT (kE g)] (λe d2=> ∃U,e= hQ (hV U)/\
 jx.k1 R E b1 O g (!U) d2) V)
 (jx.k1 R E b1 O g false V)) I)
 (jx.k1 R E b1 O g false I)) c5
theorem jx.sound {R x0 x1_0 x1_1 x1_2 x1_3 x1_4 w}(h:jx R x0 x1_0 x1_1 x1_2 x1_3 x1_4 w):callE P pp #[kT x0,.agg #[hY x1_0,hY x1_1,hY x1_2,hX x1_3,.int .u8 x1_4]] R w:=
 aH [(27,.mk [2,66,86,126,360] (jx.k1 R)),(43,.no)] Tryz.func148 Tryz.call148 h
namespace bw
def k1 (R:EP)(Xa:OA->OA->OA->OA->Nat->WP)(W U:OA)(V g:OA)(O:Nat)(w:World):Prop:=
 aA g λI=>
 ∃y,w.cell? I=some (hY y)/\
 aA g λH=>
 stV w (H.add 0) (hY (i64.wrap (y+1))) λE=>
 Xa W U V g O E
def k4 (R:EP)(b9 b7 b8:OA)(H:BA)(y:Int)(W:BA)(w:World):Prop:=
 callE P ie #[hX W] (λe a6=> ∃E,e= hQ (hX E)/\
 aA b8 λa7=>
 stV a6 (a7.add 0) (hX E) λb3=>
 0<=y/\y<=(H.size:Int)/\
 aA b7 λU=>
 stV b3 (U.add 0) (hX (H.extract 0 (Int.toNat y))) λb6=>
 aA b9 λg=>
 stV b6 (g.add 0) (hY 0) λO=>
 stV O (g.add 1) (hY 0) λV=>
 stV V (g.add 2) (hY 0) λb5=>
 stV b5 (g.add 3) (hX (hP #[])) λb4=>
 stV b4 (g.add 4) (.int .u8 0) λI=>
 R (hQ (hV true)) I) w
def bl2 (R:EP)(b8:OA->OA->OA->Nat->Int->BA->Int->Int->WP)(W V U:OA)(O:Nat)(H:Int)(I:BA)(E b6:Int)(w:World):Prop:=
 callE P fB #[kT (kE O),.int .u8 H] (λe y=> ∃b4,e= hQ (hV b4)/\
 br (!b4)
 (br (decide (b6 >= 3))
 (callE P jk #[kT (kE O)] (λe b7=> ∃a7,e= hQ (hX a7)/\
 callE P gp #[.agg #[],hX a7] (λe b5=> ∃g,e= hQ (hX g)/\
 br (H==96)
 (callE P iR #[hX g,hX (hP #[96])] (λe b3=> ∃a6,e= hQ (hV a6)/\
 br a6
 (R (hQ (hV false)) b3)
 (k4 R W V U I E g b3)) b5)
 (k4 R W V U I E g b5)) b7) y)
 (R (hQ (hV false)) y))
 (b8 W V U O H I (i64.wrap (E+1)) (i64.wrap (b6+1)) y)) w
def l2 (R:EP)(V O U:OA)(I:Nat)(E:Int)(H:BA)(g y:Int)(w:World):Prop:=
 ∀X:OA->OA->OA->Nat->Int->BA->Int->Int->WP,(∀V O U I E H g y w,bl2 R X V O U I E H g y w->X V O U I E H g y w)->X V O U I E H g y w
def k3 (R:EP)(V O U:OA)(y:Nat)(H:Int)(E:Bool)(w:World):Prop:=
 br E
 (callE P gK #[kT (kE y)] (λe I=> ∃g,e= hQ (hX g)/\
 l2 R V O U y H g 0 0 I) w)
 (R (hQ (hV false)) w)
def k2 (R:EP)(O H I:OA)(y:Nat)(w:World):Prop:=
 callE P iC #[kT (kE y)] (λe E=> ∃g,e= hQ (.int .u8 g)/\
 br (g==96)
 (k3 R O H I y g true E)
 (k3 R O H I y g (g==126) E)) w
def bl1 (R:EP)(Xa:OA->OA->OA->OA->Nat->WP)(H y:OA)(E V:OA)(g:Nat)(w:World):Prop:=
 aA V λW=>
 ∃O,w.cell? W=some (hY O)/\
 br (decide (O<3))
 (callE P bl #[kT (kE g),hY 1,hY 1,hV false] (λe U=> ∃I,e= hQ (hV I)/\
 br I
 (k1 R Xa H y E V g U)
 (k2 R H y E g U)) w)
 (k2 R H y E g w)
def l1 (R:EP)(I E:OA)(H y:OA)(g:Nat)(w:World):Prop:=
 ∀X:OA->OA->OA->OA->Nat->WP,(∀I E H y g w,bl1 R X I E H y g w->X I E H y g w)->X I E H y g w
end bw
def bw (R:EP)(U b8:OA)(b6 O:OA)(w:World):Prop:=
 aA U λa1=>
 ∃y,w.cell? (a1.add 0)=some (hY y)/\
 ∃H,w.cell? (a1.add 1)=some (hY H)/\
 ∃I,w.cell? (a1.add 2)=some (hY I)/\
 ∃V,w.cell? (a1.add 3)=some (hX V)/\
 ∃E,w.cell? (a1.add 4)=some (.int .u8 E)/\
 box w #[hY 0,hY 0,hY 0,hX (hP #[]),.int .u8 0] aW λg b5=>
 stV b5 (hZ g 0) (hY y) λb9=>
 stV b9 (hZ g 1) (hY H) λW=>
 stV W (hZ g 2) (hY I) λa6=>
 stV a6 (hZ g 3) (hX V) λb3=>
 stV b3 (hZ g 4) (.int .u8 E) λb4=>
 aA O λa14=>
 stV b4 (a14.add 0) (hY 0) λa7=>
 bw.l1 R U b8 b6 O g a7
theorem bw.sound {R x0 x1 x2 x3 w}(h:bw R x0 x1 x2 x3 w):callE P fK #[kT x0,kT x1,kT x2,kT x3] R w:=
 aH [(39,.lp [2,22,42,62,186] (bw.bl1 R) λXa=> [(3,.mk [2,22,42,62,186] (bw.k1 R Xa))]),(31,.mk [2,22,42,186] (bw.k2 R)),(879,.mk [2,22,42,186,208,680] (bw.k3 R)),(44399,.lp [2,22,42,186,208,221,247,267] (bw.bl2 R) λg=> []),(64879,.mk [2,22,42,221,247,281] (bw.k4 R))] Tryz.func201 Tryz.call201 h
namespace dP
def k4 (R:EP)(b9:OA)(g c2:Nat)(c1 c3:Nat)(w:World):Prop:=
 ∃a6,w.cell? (hZ c2 0)=some (hX a6)/\
 ∃U,w.cell? (hZ c1 0)=some (hX U)/\
 ∃E,w.cell? (hZ c3 0)=some (hY E)/\
 box w #[hX a6,hX U,hY E,hT none 0 0] mE λb8 b6=>
 callE P bR #[kT b9,.iface gG (kT (kE b8))] (λe b5=>e= hQ (.tuple #[])/\
 stV b5 (hZ g 0) (hY 0) λb7=>
 stV b7 (hZ g 1) (hY 0) λa7=>
 stV a7 (hZ g 2) (hY 0) λb3=>
 stV b3 (hZ g 3) (hX (hP #[])) λb4=>
 stV b4 (hZ g 4) (.int .u8 0) λy=>
 ∃H,y.cell? (hZ g 0)=some (hY H)/\
 ∃I,y.cell? (hZ g 1)=some (hY I)/\
 ∃V,y.cell? (hZ g 2)=some (hY V)/\
 ∃O,y.cell? (hZ g 3)=some (hX O)/\
 ∃W,y.cell? (hZ g 4)=some (.int .u8 W)/\
 R (hQ (.tuple #[.agg #[hY H,hY I,hY V,hX O,.int .u8 W],hV true])) y) b6
def bl1 (R:EP)(Xa:OA->Nat->Nat->Nat->Nat->Value->WP)(V:OA)(W O:Nat)(U a6:Nat)(g:Value)(w:World):Prop:=
 (∃H,(Instr.next g true ty_).run P w= .ok (.tuple #[hV false]) H/\
 k4 R V W O U a6 H)\/
 (∃a7 y I,(Instr.next g true ty_).run P w= .ok (.tuple #[hV true,hY a7,.int .i32 y]) I/\
 callE P dF #[.int .i32 y] (λe b3=> ∃E,e= hQ (hV E)/\
 br E
 (False)
 (Xa V W O U a6 g b3)) I)
def l1 (R:EP)(H:OA)(I y:Nat)(E O:Nat)(g:Value)(w:World):Prop:=
 ∀X:OA->Nat->Nat->Nat->Nat->Value->WP,(∀H I y E O g w,bl1 R X H I y E O g w->X H I y E O g w)->X H I y E O g w
def k2 (R:EP)(O:OA)(U I:Nat)(H V:Nat)(w:World):Prop:=
 ∃E,w.cell? (hZ H 0)=some (hX E)/\
 ∃(y:Value),∃g,(Instr.range aq (hX E)).run P w= .ok y g/\
 l1 R O U I H V y g
def k3 (R:EP)(H:OA)(I y:Nat)(E O:Nat)(g:Bool)(w:World):Prop:=
 br g
 (False)
 (k2 R H I y E O w)
def k1 (R:EP)(O:OA)(U I:Nat)(g V:Nat)(W:Bool)(w:World):Prop:=
 br W
 (False)
 (∃E,w.cell? (hZ g 0)=some (hX E)/\
 br (!(E.toList==(hP #[]).toList))
 (∃y,w.cell? (hZ g 0)=some (hX y)/\
 (true=true->0<=(0:Int)/\0<(y.size:Int))/\
 callE P ql #[.int .u8 (bt y 0)] (λe a6=> ∃H,e= hQ (hV H)/\
 k3 R O U I g V (!H) a6) w)
 (k3 R O U I g V false w))
end dP
def dP (R:EP)(d5:OA)(e3 e1 e4:Int)(e2:BA)(e0:Int)(w:World):Prop:=
 box w #[hY e3,hY e1,hY e4,hX e2,.int .u8 e0] aW λb1 g0=>
 box g0 #[hY 0,hY 0,hY 0,hX (hP #[]),.int .u8 0] aW λg f5=>
 box f5 #[hX (hP #[])] aq λO f6=>
 box f6 #[hX (hP #[])] aq λU g1=>
 box g1 #[hY 0] bg λW H=>
 ∃d4,H.cell? (hZ b1 0)=some (hY d4)/\
 ∃d3,H.cell? (hZ b1 1)=some (hY d3)/\
 ∃b6,H.cell? (hZ b1 2)=some (hY b6)/\
 ∃a6,H.cell? (hZ b1 3)=some (hX a6)/\
 ∃a7,H.cell? (hZ b1 4)=some (.int .u8 a7)/\
 box H #[hY 0,hY 0,hY 0,hX (hP #[]),.int .u8 0] aW λI e5=>
 stV e5 (hZ I 0) (hY d4) λf3=>
 stV f3 (hZ I 1) (hY d3) λf0=>
 stV f0 (hZ I 2) (hY b6) λf2=>
 stV f2 (hZ I 3) (hX a6) λe6=>
 stV e6 (hZ I 4) (.int .u8 a7) λe8=>
 callE P fK #[kT (kE I),kT (kE O),kT (kE U),kT (kE W)] (λe y=> ∃b4,e= hQ (hV b4)/\
 br b4
 (∃V,y.cell? (hZ O 0)=some (hX V)/\
 0<=(0:Int)/\0<(V.size:Int)/\
 br ((bt V 0)==126)
 (∃c3,y.cell? (hZ U 0)=some (hX c3)/\
 dP.k1 R d5 g O U W (!(c3.toList==(hP #[]).toList)) y)
 (dP.k1 R d5 g O U W false y))
 (∃c2,y.cell? (hZ b1 0)=some (hY c2)/\
 ∃d1,y.cell? (hZ b1 1)=some (hY d1)/\
 ∃c5,y.cell? (hZ b1 2)=some (hY c5)/\
 ∃c1,y.cell? (hZ b1 3)=some (hX c1)/\
 ∃d0,y.cell? (hZ b1 4)=some (.int .u8 d0)/\
 stV y (hZ g 0) (hY c2) λe7=>
 stV e7 (hZ g 1) (hY d1) λf1=>
 stV f1 (hZ g 2) (hY c5) λe9=>
 stV e9 (hZ g 3) (hX c1) λf4=>
 stV f4 (hZ g 4) (.int .u8 d0) λE=>
 ∃b8,E.cell? (hZ g 0)=some (hY b8)/\
 ∃c8,E.cell? (hZ g 1)=some (hY c8)/\
 ∃c4,E.cell? (hZ g 2)=some (hY c4)/\
 ∃c9,E.cell? (hZ g 3)=some (hX c9)/\
 ∃d2,E.cell? (hZ g 4)=some (.int .u8 d2)/\
 R (hQ (.tuple #[.agg #[hY b8,hY c8,hY c4,hX c9,.int .u8 d2],hV false])) E)) e8
theorem dP.sound {R x0 x1_0 x1_1 x1_2 x1_3 x1_4 w}(h:dP R x0 x1_0 x1_1 x1_2 x1_3 x1_4 w):callE P j6 #[kT x0,.agg #[hY x1_0,hY x1_1,hY x1_2,hX x1_3,.int .u8 x1_4]] R w:=
 aH [(815,.mk [2,86,126,146,166,400] (dP.k1 R)),(1327,.no),(3887,.mk [2,86,126,146,166,620] (dP.k3 R)),(5935,.no),(431,.mk [2,86,126,146,166] (dP.k2 R)),(2735,.lp [2,86,126,146,166,725] (dP.bl1 R) λXa=> [(91,.no)]),(943,.mk [2,86,126,146,166] (dP.k4 R))] Tryz.func147 Tryz.call147 h
namespace bK
def k1 (R:EP)(O:OA)(I g g0:Nat)(e8:Bool)(w:World):Prop:=
 br e8
 (callE P aI #[kT O] (λe e0=> ∃(f0:Value),e= hQ f0/\
 callE P lE #[kT O] (λe f2=> ∃(d0:Value),e= hQ d0/\
 ∃U V b7,(Instr.typeAssert d0 aO bB true).run P f2= .ok (.tuple #[kT U,hV V]) b7/\
 br (!V)
 (False)
 (callE P iW #[kT O] (λe f1=>e= hQ (.tuple #[])/\
 tk f1 λH=>
 aA U λe9=>
 aA O λf4=>
 aA U λe5=>
 ∃b5,H.cell? e9=some (hY b5)/\
 ∃b9,H.cell? (f4.add 3)=some (hY b9)/\
 ∃c9,H.cell? (hZ g0 0)=some (hY c9)/\
 ∃W,H.cell? (e5.add 2)=some (kT W)/\
 box H #[hY b5,hY b9,hY c9,kT W,hX (hP #[])] pR λe7 e3=>
 callE P dL #[kT O,.iface gi (kT (kE e7))] (λe f5=>e= hQ (.tuple #[])/\
 stV f5 (hZ g 0) (hY 0) λe1=>
 stV e1 (hZ g 1) (hY 0) λd4=>
 stV d4 (hZ g 2) (hY 0) λe6=>
 stV e6 (hZ g 3) (hX (hP #[])) λf6=>
 stV f6 (hZ g 4) (.int .u8 0) λy=>
 ∃c8,y.cell? (hZ g 0)=some (hY c8)/\
 ∃c4,y.cell? (hZ g 1)=some (hY c4)/\
 ∃d3,y.cell? (hZ g 2)=some (hY d3)/\
 ∃c3,y.cell? (hZ g 3)=some (hX c3)/\
 ∃a7,y.cell? (hZ g 4)=some (.int .u8 a7)/\
 R (hQ (.tuple #[.agg #[hY c8,hY c4,hY d3,hX c3,.int .u8 a7],hV true])) y) e3) b7)) e0) w)
 (∃c2,w.cell? (hZ I 0)=some (hY c2)/\
 ∃b3,w.cell? (hZ I 1)=some (hY b3)/\
 ∃d1,w.cell? (hZ I 2)=some (hY d1)/\
 ∃b4,w.cell? (hZ I 3)=some (hX b4)/\
 ∃a6,w.cell? (hZ I 4)=some (.int .u8 a6)/\
 stV w (hZ g 0) (hY c2) λd5=>
 stV d5 (hZ g 1) (hY b3) λe2=>
 stV e2 (hZ g 2) (hY d1) λe4=>
 stV e4 (hZ g 3) (hX b4) λf3=>
 stV f3 (hZ g 4) (.int .u8 a6) λE=>
 ∃b6,E.cell? (hZ g 0)=some (hY b6)/\
 ∃c5,E.cell? (hZ g 1)=some (hY c5)/\
 ∃c1,E.cell? (hZ g 2)=some (hY c1)/\
 ∃d2,E.cell? (hZ g 3)=some (hX d2)/\
 ∃b8,E.cell? (hZ g 4)=some (.int .u8 b8)/\
 R (hQ (.tuple #[.agg #[hY b6,hY c5,hY c1,hX d2,.int .u8 b8],hV false])) E)
end bK
def bK (R:EP)(E:OA)(c3 c1 c4:Int)(c2:BA)(b9:Int)(w:World):Prop:=
 box w #[hY c3,hY c1,hY c4,hX c2,.int .u8 b9] aW λb1 e1=>
 box e1 #[hY 0,hY 0,hY 0,hX (hP #[]),.int .u8 0] aW λb7 e0=>
 box e0 #[hY 0] bg λU y=>
 ∃b8,y.cell? (hZ b1 0)=some (hY b8)/\
 ∃b4,y.cell? (hZ b1 1)=some (hY b4)/\
 ∃b6,y.cell? (hZ b1 2)=some (hY b6)/\
 ∃W,y.cell? (hZ b1 3)=some (hX W)/\
 ∃a6,y.cell? (hZ b1 4)=some (.int .u8 a6)/\
 box y #[hY 0,hY 0,hY 0,hX (hP #[]),.int .u8 0] aW λg d0=>
 stV d0 (hZ g 0) (hY b8) λc5=>
 stV c5 (hZ g 1) (hY b4) λc9=>
 stV c9 (hZ g 2) (hY b6) λc8=>
 stV c8 (hZ g 3) (hX W) λd1=>
 stV d1 (hZ g 4) (.int .u8 a6) λd5=>
 callE P gf #[kT E] (λe d3=> ∃(O:Value),e= hQ O/\
 callE P ez #[kT E] (λe d2=> ∃I,e= hQ (kT I)/\
 ∃V H,(do eqGuard .eql bP (.tmp 12) (.tmp 15) O (.iface ar (kT I));binOp .eql bP O (.iface ar (kT I))).run P d2= .ok (hV V) H/\
 br V
 (callE P fk #[kT (kE g),kT (kE U)] (λe d4=> ∃a7,e= hQ (hV a7)/\
 bK.k1 R E b1 b7 U a7 d4) H)
 (bK.k1 R E b1 b7 U false H)) d3) d5
theorem bK.sound {R x0 x1_0 x1_1 x1_2 x1_3 x1_4 w}(h:bK R x0 x1_0 x1_1 x1_2 x1_3 x1_4 w):callE P ci #[kT x0,.agg #[hY x1_0,hY x1_1,hY x1_2,hX x1_3,.int .u8 x1_4]] R w:=
 aH [(55,.mk [2,66,86,126,380] (bK.k1 R)),(2775,.no),(3031,.dr (rpN [0,3,6,9,12,18,21,24,36,39,42,16,28,30,34,46,48,53,54,59]))] Tryz.func143 Tryz.call143 h
namespace cO
def k1 (R:EP)(h9:OA)(y g:Nat)(f3:OA)(g5:Bool)(w:World):Prop:=
 br g5
 (aA f3 λa13=>
 ∃(b5:Value),w.cell? (a13.add 4)=some b5/\
 cY P (do let d <-Deferred.ofValue b5 #[];invoke d.target d.args) (λe g1=> ∃a7 b3,∃W a6 V,e= hQ (.agg #[hY a7,hY b3,hY W,hX a6,.int .u8 V])/\
 stV g1 (hZ y 0) (hY a7) λg4=>
 stV g4 (hZ y 1) (hY b3) λh8=>
 stV h8 (hZ y 2) (hY W) λh3=>
 stV h3 (hZ y 3) (hX a6) λh7=>
 stV h7 (hZ y 4) (.int .u8 V) λh0=>
 aA f3 λg6=>
 stV h0 ((g6.add 4).add 0) .nilFunc λH=>
 ∃e4,H.cell? (hZ y 0)=some (hY e4)/\
 ∃f2,H.cell? (hZ y 1)=some (hY f2)/\
 ∃c5,H.cell? (hZ y 2)=some (hY c5)/\
 ∃c3,H.cell? (hZ y 3)=some (hX c3)/\
 ∃e3,H.cell? (hZ y 4)=some (.int .u8 e3)/\
 stV H (hZ g 0) (hY e4) λg7=>
 stV g7 (hZ g 1) (hY f2) λh2=>
 stV h2 (hZ g 2) (hY c5) λh4=>
 stV h4 (hZ g 3) (hX c3) λh1=>
 stV h1 (hZ g 4) (.int .u8 e3) λO=>
 ∃e6,O.cell? (hZ g 0)=some (hY e6)/\
 ∃c4,O.cell? (hZ g 1)=some (hY c4)/\
 ∃e9,O.cell? (hZ g 2)=some (hY e9)/\
 ∃b6,O.cell? (hZ g 3)=some (hX b6)/\
 ∃d0,O.cell? (hZ g 4)=some (.int .u8 d0)/\
 R (hQ (.tuple #[.agg #[hY e6,hY c4,hY e9,hX b6,.int .u8 d0],hV true])) O) w)
 (callE P bO #[kT h9,kT (kE y)] (λe E=> ∃c8,e= hQ (hV c8)/\
 br c8
 (∃e5,E.cell? (hZ y 0)=some (hY e5)/\
 ∃b4,E.cell? (hZ y 1)=some (hY b4)/\
 ∃e7,E.cell? (hZ y 2)=some (hY e7)/\
 ∃d1,E.cell? (hZ y 3)=some (hX d1)/\
 ∃d2,E.cell? (hZ y 4)=some (.int .u8 d2)/\
 stV E (hZ g 0) (hY e5) λh6=>
 stV h6 (hZ g 1) (hY b4) λf6=>
 stV f6 (hZ g 2) (hY e7) λf4=>
 stV f4 (hZ g 3) (hX d1) λg3=>
 stV g3 (hZ g 4) (.int .u8 d2) λU=>
 ∃c2,U.cell? (hZ g 0)=some (hY c2)/\
 ∃e2,U.cell? (hZ g 1)=some (hY e2)/\
 ∃e0,U.cell? (hZ g 2)=some (hY e0)/\
 ∃f1,U.cell? (hZ g 3)=some (hX f1)/\
 ∃d5,U.cell? (hZ g 4)=some (.int .u8 d5)/\
 R (hQ (.tuple #[.agg #[hY c2,hY e2,hY e0,hX f1,.int .u8 d5],hV true])) U)
 (∃b7,E.cell? (hZ y 0)=some (hY b7)/\
 ∃d4,E.cell? (hZ y 1)=some (hY d4)/\
 ∃b8,E.cell? (hZ y 2)=some (hY b8)/\
 ∃e8,E.cell? (hZ y 3)=some (hX e8)/\
 ∃b9,E.cell? (hZ y 4)=some (.int .u8 b9)/\
 stV E (hZ g 0) (hY b7) λh5=>
 stV h5 (hZ g 1) (hY d4) λf5=>
 stV f5 (hZ g 2) (hY b8) λg0=>
 stV g0 (hZ g 3) (hX e8) λg2=>
 stV g2 (hZ g 4) (.int .u8 b9) λI=>
 ∃c1,I.cell? (hZ g 0)=some (hY c1)/\
 ∃c9,I.cell? (hZ g 1)=some (hY c9)/\
 ∃e1,I.cell? (hZ g 2)=some (hY e1)/\
 ∃d3,I.cell? (hZ g 3)=some (hX d3)/\
 ∃f0,I.cell? (hZ g 4)=some (.int .u8 f0)/\
 R (hQ (.tuple #[.agg #[hY c1,hY c9,hY e1,hX d3,.int .u8 f0],hV false])) I)) w)
end cO
def cO (R:EP)(H:OA)(b4 b5 a7:Int)(b6:BA)(a6:Int)(w:World):Prop:=
 box w #[hY b4,hY b5,hY a7,hX b6,.int .u8 a6] aW λb1 b9=>
 box b9 #[hY 0,hY 0,hY 0,hX (hP #[]),.int .u8 0] aW λW b7=>
 callE P ji #[kT H] (λe b8=> ∃(V:Value),e= hQ V/\
 ∃g I y,(Instr.typeAssert V bP az true).run P b8= .ok (.tuple #[kT g,hV I]) y/\
 br I
 (aA g λa9=>
 ∃(E:Value),y.cell? (a9.add 4)=some E/\
 ∃O U,(do eqGuard .neq mD (.tmp 19) (.const .nilFunc) E .nilFunc;binOp .neq mD E .nilFunc).run P y= .ok (hV O) U/\
 cO.k1 R H b1 W g O U)
 (cO.k1 R H b1 W g false y)) b7
theorem cO.sound {R x0 x1_0 x1_1 x1_2 x1_3 x1_4 w}(h:cO R x0 x1_0 x1_1 x1_2 x1_3 x1_4 w):callE P cq #[kT x0,.agg #[hY x1_0,hY x1_1,hY x1_2,hX x1_3,.int .u8 x1_4]] R w:=
 aH [(29,.mk [2,66,86,122,420] (cO.k1 R))] Tryz.func145 Tryz.call145 h
def jp (R:EP)(E:OA)(w:World):Prop:=
 tk w λH=>
 aA E λa2=>
 aA E λa3=>
 ∃W,H.cell? (a2.add 5)=some (hY W)/\
 ∃b4 V a6,H.cell? (a3.add 4)=some (hT b4 V a6)/\
 br (decide (W<(V:Int)))
 (tk H λy=>
 aA E λb5=>
 aA E λa8=>
 ∃U I b3,y.cell? (b5.add 4)=some (hT U I b3)/\
 ∃g,y.cell? (a8.add 5)=some (hY g)/\
 0<=g/\g<(I:Int)/\
 aA U λa11=>
 ∃(O:Value),y.cell? (a11.add (Int.toNat g*4))=some O/\
 R (hQ O) y)
 (R (.returned .nilIface) H)
theorem jp.sound {R x0 w}(h:jp R x0 w):callE P ji #[kT x0] R w:=
 aH [(9,.dr (rpN [0,3,6,12,15,18,10,22,24,27])),(37,.dr (rpN [0,3,6,12,15,18,10,22,24,27,31,33]))] Tryz.func198 Tryz.call198 h
def i4 (R:EP)(E:OA)(w:World):Prop:=
 tk w λH=>
 aA E λa2=>
 aA E λa3=>
 ∃W,H.cell? (a2.add 5)=some (hY W)/\
 ∃b4 V a6,H.cell? (a3.add 4)=some (hT b4 V a6)/\
 br (decide ((i64.wrap (W+1))<(V:Int)))
 (tk H λy=>
 aA E λb5=>
 aA E λa8=>
 ∃U I b3,y.cell? (b5.add 4)=some (hT U I b3)/\
 ∃g,y.cell? (a8.add 5)=some (hY g)/\
 0<=(i64.wrap (g+1))/\(i64.wrap (g+1))<(I:Int)/\
 aA U λa11=>
 ∃(O:Value),y.cell? (a11.add (Int.toNat (i64.wrap (g+1))*4))=some O/\
 R (hQ O) y)
 (R (.returned .nilIface) H)
theorem i4.sound {R x0 w}(h:i4 R x0 w):callE P gf #[kT x0] R w:=
 aH [(9,.dr (rpN [0,3,6,15,18,21,10,12,25,27,30])),(37,.dr (rpN [0,3,6,12,15,18,10,22,24,27,30,34,36]))] Tryz.func193 Tryz.call193 h
namespace am
def k5 (R:EP)(Xa:Nat->Nat->Int->Int->Int->Nat->Int->Int->WP)(U H:Nat)(O V I:Int)(g:Nat)(E y:Int)(w:World):Prop:=
 Xa U H O V I g (i64.wrap (E+1)) (i64.wrap (y+1)) w
def k9 (R:EP)(V:Nat->Nat->Int->Int->Int->WP)(U E:Nat)(O I:Int)(y H:Int)(w:World):Prop:=
 ∃g,w.cell? (hZ E 1)=some (hY g)/\
 br (decide ((i64.wrap (y - g)) >= 9))
 (False)
 (V U E O (i64.wrap ((i64.wrap ((i64.wrap (I*10))+(i64.wrap H))) - 48)) (i64.wrap (y+1)) w)
def k14 (R:EP)(U O:Nat)(y I:Nat)(w:World):Prop:=
 ∃g,w.cell? (hZ y 0)=some (kT g)/\
 aA g λH=>
 stV w ((H.add 4).add 0) (.func (.func eh) #[] #[kT (kE U),kT (kE I),kT (kE y),kT (kE O)]) λE=>
 R (hQ (hV true)) E
def k13 (R:EP)(V E:Nat)(W:Int)(g:Nat)(w:World):Prop:=
 tk w λy=>
 ∃I,y.cell? (hZ g 0)=some (kT I)/\
 (callE P ct #[kT (kE E)] (λe H=> ∃U,e= hQ (hV U)/\
 SameC y H (hZ g 0) 1/\
 (box H #[kT I,hY W,hV (!U)] hU λc4 b6=>
 box b6 #[kT none] bu λb8 b5=>
 SameC b6 b5 (hZ g 0) 1/\
 stV b5 (hZ b8 0) (kT (kE c4)) λc9=>
 k14 R V E g b8 c9)/\
 (box H #[kT none] bu λb4 b7=>
 SameC H b7 (hZ g 0) 1/\
 box b7 #[kT I,hY W,hV (!U)] hU λc8 c5=>
 stV c5 (hZ b4 0) (kT (kE c8)) λc1=>
 k14 R V E g b4 c1)) y)/\
 (box y #[kT none] bu λa6 O=>
 SameC y O (hZ g 0) 1/\
 callE P ct #[kT (kE E)] (λe b3=> ∃a7,e= hQ (hV a7)/\
 SameC O b3 (hZ g 0) 1/\
 box b3 #[kT I,hY W,hV (!a7)] hU λc2 b9=>
 stV b9 (hZ a6 0) (kT (kE c2)) λc3=>
 k14 R V E g a6 c3) O)
def k12 (R:EP)(I a6:Nat)(b3 b4 a7:Int)(y:Nat)(O:Bool)(w:World):Prop:=
 br O
 (False)
 (box w #[.int .i32 (IntKind.i32.wrap b4),hY a7,hV false,kT none,.nilFunc] fO λW U=>
 stV U (hZ y 0) (kT (kE W)) λg=>
 ∃E,g.cell? (hZ I 0)=some (kT E)/\
 ∃H,g.cell? (hZ y 0)=some (kT H)/\
 callE P bR #[kT E,.iface az (kT H)] (λe V=>e= hQ (.tuple #[])/\
 k13 R I a6 b3 y V) g)
def k11 (R:EP)(E y:Nat)(U H O:Int)(g:Nat)(b6:Bool)(w:World):Prop:=
 br b6
 (∃a6,w.cell? (hZ g 0)=some (kT a6)/\
 ∃b4 I,(do eqGuard .eql az (.tmp 137) (.const (kT none)) (kT a6) (kT none);binOp .eql az (kT a6) (kT none)).run P w= .ok (hV b4) I/\
 br b4
 (∃a7,I.cell? (hZ E 0)=some (kT a7)/\
 callE P ez #[kT a7] (λe b8=> ∃W,e= hQ (kT W)/\
 ∃b3 V,(do eqGuard .neq ar (.tmp 141) (.const (kT none)) (kT W) (kT none);binOp .neq ar (kT W) (kT none)).run P b8= .ok (hV b3) V/\
 br b3
 (callE P ct #[kT (kE y)] (λe b7=> ∃b5,e= hQ (hV b5)/\
 k12 R E y U H O g (b5||(((H==46)||(H==41)) && (O !=1))) b7) V)
 (k12 R E y U H O g false V)) I)
 (k12 R E y U H O g false I))
 (k13 R E y U g w)
def k10 (R:EP)(a7 V:Nat)(a6 H W:Int)(y:Nat)(w:World):Prop:=
 ∃E,w.cell? (hZ y 0)=some (kT E)/\
 ∃U g,(do eqGuard .eql az (.tmp 126) (.const (kT none)) (kT E) (kT none);binOp .eql az (kT E) (kT none)).run P w= .ok (hV U) g/\
 br U
 (k11 R a7 V a6 H W y true g)
 (∃O,g.cell? (hZ y 0)=some (kT O)/\
 aA O λb3=>
 ∃I,g.cell? b3=some (.int .i32 I)/\
 k11 R a7 V a6 H W y (I !=(IntKind.i32.wrap H)) g)
def k8 (R:EP)(E W:Nat)(a7 b3 a6:Int)(w:World):Prop:=
 box w #[kT none] az λy O=>
 ∃U,O.cell? (hZ E 0)=some (kT U)/\
 callE P gf #[kT U] (λe b5=> ∃(V:Value),e= hQ V/\
 ∃H I g,(Instr.typeAssert V bP az true).run P b5= .ok (.tuple #[kT H,hV I]) g/\
 br I
 (stV g (hZ y 0) (kT H) λb4=>
 k10 R E W a7 b3 a6 y b4)
 (k10 R E W a7 b3 a6 y g)) O
def k6 (R:EP)(a6 y:Nat)(b3 b4 a7:Int)(E:Nat)(b9:Int)(w:World):Prop:=
 callE P bl #[kT (kE E),hY 1,hY 1,hV true] (λe g=> ∃U,e= hQ (hV U)/\
 br (!U)
 (∃V,g.cell? (hZ E 0)=some (hY V)/\
 ∃I,g.cell? (hZ E 1)=some (hY I)/\
 ∃O,g.cell? (hZ E 2)=some (hY O)/\
 ∃W,g.cell? (hZ E 3)=some (hX W)/\
 ∃H,g.cell? (hZ E 4)=some (.int .u8 H)/\
 stV g (hZ y 0) (hY V) λb5=>
 stV b5 (hZ y 1) (hY I) λb7=>
 stV b7 (hZ y 2) (hY O) λc1=>
 stV c1 (hZ y 3) (hX W) λb8=>
 stV b8 (hZ y 4) (.int .u8 H) λb6=>
 k8 R a6 y (i64.wrap (b3+b9)) b4 a7 b6)
 (k8 R a6 y b3 b4 a7 g)) w
def bl2 (R:EP)(Xa:Nat->Nat->Int->Int->Int->Nat->Int->Int->WP)(O E:Nat)(I U H:Int)(g:Nat)(y V:Int)(w:World):Prop:=
 br (decide (V<3))
 (callE P bl #[kT (kE g),hY 1,hY 1,hV false] (λe W=> ∃a6,e= hQ (hV a6)/\
 br a6
 (k5 R Xa O E I U H g y V W)
 (k6 R O E I U H g y W)) w)
 (k6 R O E I U H g y w)
def l2 (R:EP)(U H:Nat)(O V I:Int)(g:Nat)(E y:Int)(w:World):Prop:=
 ∀X:Nat->Nat->Int->Int->Int->Nat->Int->Int->WP,(∀U H O V I g E y w,bl2 R X U H O V I g E y w->X U H O V I g E y w)->X U H O V I g E y w
def k3 (R:EP)(b7 g:Nat)(b9 c1 b8:Int)(w:World):Prop:=
 callE P bl #[kT (kE g),hY 1,hY 1,hV true] (λe y=> ∃V,e= hQ (hV V)/\
 br (!V)
 (False)
 (∃U,y.cell? (hZ g 0)=some (hY U)/\
 ∃W,y.cell? (hZ g 1)=some (hY W)/\
 ∃I,y.cell? (hZ g 2)=some (hY I)/\
 ∃H,y.cell? (hZ g 3)=some (hX H)/\
 ∃O,y.cell? (hZ g 4)=some (.int .u8 O)/\
 box y #[hY 0,hY 0,hY 0,hX (hP #[]),.int .u8 0] aW λE b3=>
 stV b3 (hZ E 0) (hY U) λb4=>
 stV b4 (hZ E 1) (hY W) λa6=>
 stV a6 (hZ E 2) (hY I) λb5=>
 stV b5 (hZ E 3) (hX H) λa7=>
 stV a7 (hZ E 4) (.int .u8 O) λb6=>
 l2 R b7 g (i64.wrap (b9+1)) c1 b8 E 0 0 b6)) w
def k7 (R:EP)(a6:Nat->Nat->Int->Int->Int->WP)(U y:Nat)(O I:Int)(E g:Int)(V:Bool)(w:World):Prop:=
 br V
 (∃H,w.cell? (hZ y 1)=some (hY H)/\
 stV w (hZ y 1) (hY (i64.wrap (E+1))) λW=>
 k3 R U y (i64.wrap (O+(i64.wrap ((i64.wrap (E+1)) - H)))) g I W)
 (br ((decide (g<48))||(decide (57<g)))
 (False)
 (k9 R a6 U y O I E g w))
def bl3 (R:EP)(V:Nat->Nat->Int->Int->Int->WP)(U E:Nat)(O I g:Int)(w:World):Prop:=
 ∃H,w.cell? (hZ E 3)=some (hX H)/\
 br (decide (g >= (H.size:Int)))
 (False)
 (∃y,w.cell? (hZ E 3)=some (hX y)/\
 0<=g/\g<(y.size:Int)/\
 k7 R V U E O I g (bt y g) (((bt y g)==46)||((bt y g)==41)) w)
def l3 (R:EP)(I y:Nat)(H E g:Int)(w:World):Prop:=
 ∀X:Nat->Nat->Int->Int->Int->WP,(∀I y H E g w,bl3 R X I y H E g w->X I y H E g w)->X I y H E g w
def k4 (R:EP)(O y:Nat)(I H:Int)(E:Bool)(w:World):Prop:=
 br E
 (∃g,w.cell? (hZ y 1)=some (hY g)/\
 l3 R O y I H g w)
 (R (hQ (hV false)) w)
def k2 (R:EP)(H g:Nat)(E O:Int)(y I:Int)(W:Bool)(w:World):Prop:=
 br W
 (callE P fB #[kT (kE g),.int .u8 O] (λe U=> ∃V,e= hQ (hV V)/\
 k3 R H g (i64.wrap (E+1)) O y U) w)
 (br (I==48)
 (k4 R H g E y true w)
 (br (I==49)
 (k4 R H g E y true w)
 (br (I==50)
 (k4 R H g E y true w)
 (br (I==51)
 (k4 R H g E y true w)
 (br (I==52)
 (k4 R H g E y true w)
 (br (I==53)
 (k4 R H g E y true w)
 (br (I==54)
 (k4 R H g E y true w)
 (br (I==55)
 (k4 R H g E y true w)
 (br (I==56)
 (k4 R H g E y true w)
 (k4 R H g E y (I==57) w))))))))))
def k1 (R:EP)(I y:Nat)(H:Int)(w:World):Prop:=
 callE P iC #[kT (kE y)] (λe E=> ∃g,e= hQ (.int .u8 g)/\
 br (g==45)
 (k2 R I y H g 0 g true E)
 (br (g==42)
 (k2 R I y H g 0 g true E)
 (k2 R I y H g 0 g (g==43) E))) w
def bl1 (R:EP)(U:Nat->Nat->Int->Int->WP)(E g:Nat)(y O:Int)(w:World):Prop:=
 br (decide (O<3))
 (callE P bl #[kT (kE g),hY 1,hY 1,hV false] (λe H=> ∃I,e= hQ (hV I)/\
 br (!I)
 (k1 R E g y H)
 (U E g (i64.wrap (y+1)) (i64.wrap (O+1)) H)) w)
 (k1 R E g y w)
def l1 (R:EP)(E y:Nat)(H g:Int)(w:World):Prop:=
 ∀X:Nat->Nat->Int->Int->WP,(∀E y H g w,bl1 R X E y H g w->X E y H g w)->X E y H g w
end am
def am (R:EP)(b6 b5:OA)(w:World):Prop:=
 box w #[kT b6] ah λb1 y=>
 aA b5 λa3=>
 ∃U,y.cell? (a3.add 0)=some (hY U)/\
 ∃I,y.cell? (a3.add 1)=some (hY I)/\
 ∃E,y.cell? (a3.add 2)=some (hY E)/\
 ∃O,y.cell? (a3.add 3)=some (hX O)/\
 ∃H,y.cell? (a3.add 4)=some (.int .u8 H)/\
 box y #[hY 0,hY 0,hY 0,hX (hP #[]),.int .u8 0] aW λg W=>
 stV W (hZ g 0) (hY U) λa6=>
 stV a6 (hZ g 1) (hY I) λb3=>
 stV b3 (hZ g 2) (hY E) λb4=>
 stV b4 (hZ g 3) (hX O) λV=>
 stV V (hZ g 4) (.int .u8 H) λa7=>
 am.l1 R b1 g 0 0 a7
theorem am.sound {R x0 x1 w}(h:am R x0 x1 w):callE P bO #[kT x0,kT x1] R w:=
 aH [(173,.lp [46,106,127,147] (am.bl1 R) λy=> []),(61,.mk [46,106,127] (am.k1 R)),(6909,.mk [46,106,127,168,187,628,640] (am.k2 R)),(31485,.mk [46,106,127,187,800] (am.k4 R)),(178941,.lp [46,106,127,187,207] (am.bl3 R) λg=> [(40,.no),(108,.mk [46,106,127,187,207,228,1380] (am.k7 R g)),(348,.no),(124,.mk [46,106,127,187,207,228] (am.k9 R g)),(700,.no)]),(1021,.mk [46,106,127,168,187] (am.k3 R)),(5629,.no),(90109,.lp [46,106,127,168,187,246,267,287] (am.bl2 R) λXa=> [(3,.mk [46,106,127,168,187,246,267,287] (am.k5 R Xa))]),(32765,.mk [46,106,127,168,187,246,267] (am.k6 R)),(65533,.mk [46,106,127,168,187] (am.k8 R)),(262141,.mk [46,106,127,168,187,306] (am.k10 R)),(917501,.mk [46,106,127,168,187,306,2720] (am.k11 R)),(6684669,.mk [46,106,127,168,187,306,3160] (am.k12 R)),(10878973,.no),(524285,.mk [46,106,127,306] (am.k13 R)),(786429,.dr (.pure 1 (.load 0 (.two 2 (.pure 3 (.pure 4 (.two 5 (.one 6 (.one 7 .done)) 6 (.one 5 (.one 7 .done))))) 6 (.one 2 (.pure 3 (.pure 4 (.one 5 (.one 7 .done))))))))),(1048573,.mk [46,106,306,366] (am.k14 R))] Tryz.func199 Tryz.call199 h
def sF (R:EP)(e6:OA)(d1 c8 d0:Int)(c9:BA)(c5:Int)(w:World):Prop:=
 box w #[hY d1,hY c8,hY d0,hX c9,.int .u8 c5] aW λb1 e7=>
 box e7 #[hY 0,hY 0,hY 0,hX (hP #[]),.int .u8 0] aW λg I=>
 ∃c4,I.cell? (hZ b1 0)=some (hY c4)/\
 ∃b9,I.cell? (hZ b1 1)=some (hY b9)/\
 ∃c3,I.cell? (hZ b1 2)=some (hY c3)/\
 ∃c1,I.cell? (hZ b1 3)=some (hX c1)/\
 ∃c2,I.cell? (hZ b1 4)=some (.int .u8 c2)/\
 box I #[hY 0,hY 0,hY 0,hX (hP #[]),.int .u8 0] aW λE d4=>
 stV d4 (hZ E 0) (hY c4) λe0=>
 stV e0 (hZ E 1) (hY b9) λe1=>
 stV e1 (hZ E 2) (hY c3) λd2=>
 stV d2 (hZ E 3) (hX c1) λd5=>
 stV d5 (hZ E 4) (.int .u8 c2) λd3=>
 callE P fX #[kT e6,kT (kE E)] (λe H=> ∃b6,e= hQ (hV b6)/\
 br b6
 (False)
 (∃b8,H.cell? (hZ b1 0)=some (hY b8)/\
 ∃O,H.cell? (hZ b1 1)=some (hY O)/\
 ∃U,H.cell? (hZ b1 2)=some (hY U)/\
 ∃a6,H.cell? (hZ b1 3)=some (hX a6)/\
 ∃b7,H.cell? (hZ b1 4)=some (.int .u8 b7)/\
 stV H (hZ g 0) (hY b8) λe2=>
 stV e2 (hZ g 1) (hY O) λe4=>
 stV e4 (hZ g 2) (hY U) λe3=>
 stV e3 (hZ g 3) (hX a6) λe5=>
 stV e5 (hZ g 4) (.int .u8 b7) λy=>
 ∃b4,y.cell? (hZ g 0)=some (hY b4)/\
 ∃V,y.cell? (hZ g 1)=some (hY V)/\
 ∃b5,y.cell? (hZ g 2)=some (hY b5)/\
 ∃a7,y.cell? (hZ g 3)=some (hX a7)/\
 ∃W,y.cell? (hZ g 4)=some (.int .u8 W)/\
 R (hQ (.tuple #[.agg #[hY b4,hY V,hY b5,hX a7,.int .u8 W],hV false])) y)) d3
theorem sF.sound {R x0 x1_0 x1_1 x1_2 x1_3 x1_4 w}(h:sF R x0 x1_0 x1_1 x1_2 x1_3 x1_4 w):callE P lG #[kT x0,.agg #[hY x1_0,hY x1_1,hY x1_2,hX x1_3,.int .u8 x1_4]] R w:=
 aH [(43,.no)] Tryz.func146 Tryz.call146 h
def jn (R:EP)(U:OA)(w:World):Prop:=
 tk w λg=>
 aA U λa2=>
 aA U λa3=>
 ∃I O b3,g.cell? (a2.add 4)=some (hT I O b3)/\
 ∃a7 y W,g.cell? (a3.add 4)=some (hT a7 y W)/\
 0<=(i64.wrap ((y:Int) - 1))/\(i64.wrap ((y:Int) - 1))<(O:Int)/\
 aA I λb4=>
 ∃(V:Value),g.cell? (b4.add (Int.toNat (i64.wrap ((y:Int) - 1))*4))=some V/\
 ∃H E,(∀w,(Instr.typeAssert V bP ar true).run P w= .ok (.tuple #[kT H,hV E]) w)/\
 br E
 (R (hQ (kT H)) g)
 (R (hQ (kT none)) g)
theorem jn.sound {R x0 w}(h:jn R x0 w):callE P ez #[kT x0] R w:=
 aH [(9,.dr (rpN [0,3,6,12,15,18,10,22,24,27,30,33,37,39,42,45,48,51,54]))] Tryz.func149 Tryz.call149 h
def f8 (R:EP)(c1 b8:OA)(w:World):Prop:=
 aA b8 λa1=>
 ∃E,w.cell? (a1.add 0)=some (hY E)/\
 ∃I,w.cell? (a1.add 1)=some (hY I)/\
 ∃O,w.cell? (a1.add 2)=some (hY O)/\
 ∃U,w.cell? (a1.add 3)=some (hX U)/\
 ∃H,w.cell? (a1.add 4)=some (.int .u8 H)/\
 box w #[hY 0,hY 0,hY 0,hX (hP #[]),.int .u8 0] aW λg b6=>
 stV b6 (hZ g 0) (hY E) λb9=>
 stV b9 (hZ g 1) (hY I) λW=>
 stV W (hZ g 2) (hY O) λa6=>
 stV a6 (hZ g 3) (hX U) λb3=>
 stV b3 (hZ g 4) (.int .u8 H) λb5=>
 callE P bl #[kT (kE g),hY 0,hY 3,hV false] (λe a7=> ∃b4,e= hQ (hV b4)/\
 callE P iC #[kT (kE g)] (λe V=> ∃y,e= hQ (.int .u8 y)/\
 br (y !=60)
 (R (hQ (hV false)) V)
 (False)) a7) b5
theorem f8.sound {R x0 x1 w}(h:f8 R x0 x1 w):callE P fX #[kT x0,kT x1] R w:=
 aH [(237,.no),(2685,.no),(3709,.no),(509,.no)] Tryz.func200 Tryz.call200 h
namespace cu
def k1 (R:EP)(b8 c1:OA)(y:Nat)(b9:Int)(w:World):Prop:=
 callE P bl #[kT (kE y),hY 1,hY 1,hV true] (λe I=> ∃U,e= hQ (hV U)/\
 br (!U)
 (R (hQ (hV false)) I)
 (aA c1 λa7=>
 stV I (a7.add 0) (hY b9) λg=>
 ∃W,g.cell? (hZ y 0)=some (hY W)/\
 ∃a6,g.cell? (hZ y 1)=some (hY a6)/\
 ∃O,g.cell? (hZ y 2)=some (hY O)/\
 ∃H,g.cell? (hZ y 3)=some (hX H)/\
 ∃V,g.cell? (hZ y 4)=some (.int .u8 V)/\
 aA b8 λE=>
 stV g (E.add 0) (hY W) λb5=>
 stV b5 (E.add 1) (hY a6) λb6=>
 stV b6 (E.add 2) (hY O) λb3=>
 stV b3 (E.add 3) (hX H) λb7=>
 stV b7 (E.add 4) (.int .u8 V) λb4=>
 R (hQ (hV true)) b4)) w
def bl1 (R:EP)(Xa:OA->OA->Nat->Int->WP)(H E:OA)(g:Nat)(y:Int)(w:World):Prop:=
 br (decide (y<6))
 (callE P fB #[kT (kE g),.int .u8 35] (λe O=> ∃I,e= hQ (hV I)/\
 br I
 (Xa H E g (i64.wrap (y+1)) O)
 (k1 R H E g y O)) w)
 (k1 R H E g y w)
def l1 (R:EP)(g y:OA)(E:Nat)(H:Int)(w:World):Prop:=
 ∀X:OA->OA->Nat->Int->WP,(∀g y E H w,bl1 R X g y E H w->X g y E H w)->X g y E H w
end cu
def cu (R:EP)(V b9:OA)(w:World):Prop:=
 aA V λa1=>
 ∃H,w.cell? (a1.add 0)=some (hY H)/\
 ∃O,w.cell? (a1.add 1)=some (hY O)/\
 ∃U,w.cell? (a1.add 2)=some (hY U)/\
 ∃W,w.cell? (a1.add 3)=some (hX W)/\
 ∃I,w.cell? (a1.add 4)=some (.int .u8 I)/\
 box w #[hY 0,hY 0,hY 0,hX (hP #[]),.int .u8 0] aW λg b8=>
 stV b8 (hZ g 0) (hY H) λc1=>
 stV c1 (hZ g 1) (hY O) λa6=>
 stV a6 (hZ g 2) (hY U) λa7=>
 stV a7 (hZ g 3) (hX W) λb4=>
 stV b4 (hZ g 4) (.int .u8 I) λb6=>
 callE P bl #[kT (kE g),hY 0,hY 3,hV false] (λe b3=> ∃b5,e= hQ (hV b5)/\
 callE P fB #[kT (kE g),.int .u8 35] (λe y=> ∃E,e= hQ (hV E)/\
 br (!E)
 (R (hQ (hV false)) y)
 (cu.l1 R V b9 g 1 y)) b3) b6
theorem cu.sound {R x0 x1 w}(h:cu R x0 x1 w):callE P iY #[kT x0,kT x1] R w:=
 aH [(159,.lp [2,22,106,127] (cu.bl1 R) λXa=> []),(127,.mk [2,22,106,127] (cu.k1 R))] Tryz.func185 Tryz.call185 h
namespace cH
def k2 (R:EP)(O:OA)(g c8:Nat)(e3 d2:BA)(w:World):Prop:=
 tk w λI=>
 aA O λc5=>
 aA O λW=>
 ∃b5,I.cell? (c5.add 3)=some (hY b5)/\
 ∃c3,I.cell? (W.add 3)=some (hY c3)/\
 box I #[hY 0,hY 0] aF λE V=>
 SameC I V (W.add 3) 1/\
 SameC I V (c5.add 3) 1/\
 stV V (hZ E 0) (hY b5) λd5=>
 stV d5 (hZ E 1) (hY c3) λd4=>
 tk d4 λy=>
 ∃b3,y.cell? (hZ E 0)=some (hY b3)/\
 ∃c4,y.cell? (hZ E 1)=some (hY c4)/\
 ∃b4,y.cell? (hZ c8 0)=some (hY b4)/\
 ∃a7,y.cell? (hZ E 0)=some (hY a7)/\
 ∃b7,y.cell? (hZ E 1)=some (hY b7)/\
 callE P eZ #[kT O,.agg #[hY a7,hY b7],hX e3] (λe U=> ∃c2,e= hQ (kT c2)/\
 SameC y U (hZ c8 0) 1/\
 SameC y U (hZ E 0) 2/\
 box U #[hY b3,hY c4,hY b4,kT c2,hX d2] pR λc9 e0=>
 callE P dL #[kT O,.iface gi (kT (kE c9))] (λe d3=>e= hQ (.tuple #[])/\
 stV d3 (hZ g 0) (hY 0) λe2=>
 stV e2 (hZ g 1) (hY 0) λd0=>
 stV d0 (hZ g 2) (hY 0) λd1=>
 stV d1 (hZ g 3) (hX (hP #[])) λe1=>
 stV e1 (hZ g 4) (.int .u8 0) λH=>
 ∃b8,H.cell? (hZ g 0)=some (hY b8)/\
 ∃c1,H.cell? (hZ g 1)=some (hY c1)/\
 ∃a6,H.cell? (hZ g 2)=some (hY a6)/\
 ∃b6,H.cell? (hZ g 3)=some (hX b6)/\
 ∃b9,H.cell? (hZ g 4)=some (.int .u8 b9)/\
 R (hQ (.tuple #[.agg #[hY b8,hY c1,hY a6,hX b6,.int .u8 b9],hV true])) H) e0) y
def k1 (R:EP)(E:OA)(U O:Nat)(V:BA)(w:World):Prop:=
 aA E λI=>
 ∃g,w.cell? I=some (kT g)/\
 aA g λH=>
 ∃y,w.cell? H=some (hV y)/\
 br y
 (False)
 (k2 R E U O V (hP #[]) w)
end cH
def cH (R:EP)(f6:OA)(d5 d3 e0:Int)(d4:BA)(d2:Int)(w:World):Prop:=
 box w #[hY d5,hY d3,hY e0,hX d4,.int .u8 d2] aW λb1 g0=>
 box g0 #[hY 0,hY 0,hY 0,hX (hP #[]),.int .u8 0] aW λg I=>
 ∃d1,I.cell? (hZ b1 0)=some (hY d1)/\
 ∃c5,I.cell? (hZ b1 1)=some (hY c5)/\
 ∃d0,I.cell? (hZ b1 2)=some (hY d0)/\
 ∃c8,I.cell? (hZ b1 3)=some (hX c8)/\
 ∃c9,I.cell? (hZ b1 4)=some (.int .u8 c9)/\
 box I #[hY 0,hY 0,hY 0,hX (hP #[]),.int .u8 0] aW λy e4=>
 stV e4 (hZ y 0) (hY d1) λe6=>
 stV e6 (hZ y 1) (hY c5) λe7=>
 stV e7 (hZ y 2) (hY d0) λe2=>
 stV e2 (hZ y 3) (hX c8) λe5=>
 stV e5 (hZ y 4) (.int .u8 c9) λe3=>
 box e3 #[hY 0] bg λc2 f4=>
 callE P iY #[kT (kE y),kT (kE c2)] (λe E=> ∃c3,e= hQ (hV c3)/\
 br c3
 (callE P gK #[kT (kE y)] (λe f1=> ∃b9,e= hQ (hX b9)/\
 callE P fw #[hX b9] (λe f0=> ∃U,e= hQ (hX U)/\
 callE P l0 #[hX U,hX (hP #[35])] (λe f3=> ∃O,e= hQ (hX O)/\
 callE P fw #[hX O] (λe e1=> ∃a7,e= hQ (hX a7)/\
 br ((!(O.toList==a7.toList))||(O.toList==(hP #[]).toList))
 (False)
 (cH.k1 R f6 g c2 U e1)) f3) f0) f1) E)
 (∃b6,E.cell? (hZ b1 0)=some (hY b6)/\
 ∃W,E.cell? (hZ b1 1)=some (hY W)/\
 ∃b8,E.cell? (hZ b1 2)=some (hY b8)/\
 ∃b5,E.cell? (hZ b1 3)=some (hX b5)/\
 ∃a6,E.cell? (hZ b1 4)=some (.int .u8 a6)/\
 stV E (hZ g 0) (hY b6) λf2=>
 stV f2 (hZ g 1) (hY W) λf5=>
 stV f5 (hZ g 2) (hY b8) λe9=>
 stV e9 (hZ g 3) (hX b5) λe8=>
 stV e8 (hZ g 4) (.int .u8 a6) λH=>
 ∃b4,H.cell? (hZ g 0)=some (hY b4)/\
 ∃b7,H.cell? (hZ g 1)=some (hY b7)/\
 ∃c1,H.cell? (hZ g 2)=some (hY c1)/\
 ∃V,H.cell? (hZ g 3)=some (hX V)/\
 ∃c4,H.cell? (hZ g 4)=some (.int .u8 c4)/\
 R (hQ (.tuple #[.agg #[hY b4,hY b7,hY c1,hX V,.int .u8 c4],hV false])) H)) f4
theorem cH.sound {R x0 x1_0 x1_1 x1_2 x1_3 x1_4 w}(h:cH R x0 x1_0 x1_1 x1_2 x1_3 x1_4 w):callE P fj #[kT x0,.agg #[hY x1_0,hY x1_1,hY x1_2,hX x1_3,.int .u8 x1_4]] R w:=
 aH [(5847,.no),(983,.mk [2,86,146,161] (cH.k1 R)),(11223,.no),(4055,.mk [2,86,146,161,201] (cH.k2 R)),(6103,.dr (rpN [0,3,6,12,15,18,10,22,24,29,32])),(12247,.dr (rpN [0,9,15,21,4,7,13,20,24,29,30,35]))] Tryz.func142 Tryz.call142 h
def uZ (R:EP)(V:OA)(e6 e3 e5:Int)(e4:BA)(e2:Int)(w:World):Prop:=
 box w #[hY e6,hY e3,hY e5,hX e4,.int .u8 e2] aW λb1 g1=>
 box g1 #[hY 0,hY 0,hY 0,hX (hP #[]),.int .u8 0] aW λg I=>
 ∃e1,I.cell? (hZ b1 0)=some (hY e1)/\
 ∃d3,I.cell? (hZ b1 1)=some (hY d3)/\
 ∃e0,I.cell? (hZ b1 2)=some (hY e0)/\
 ∃d4,I.cell? (hZ b1 3)=some (hX d4)/\
 ∃d5,I.cell? (hZ b1 4)=some (.int .u8 d5)/\
 callE P B7 #[.agg #[hY e1,hY d3,hY e0,hX d4,.int .u8 d5]] (λe y=> ∃d2,e= hQ (hV d2)/\
 br d2
 (tk y λO=>
 aA V λa13=>
 aA V λa14=>
 ∃W,O.cell? (a13.add 3)=some (hY W)/\
 ∃c9,O.cell? (a14.add 3)=some (hY c9)/\
 callE P gK #[kT (kE b1)] (λe U=> ∃c4,e= hQ (hX c4)/\
 SameC O U (a14.add 3) 1/\
 SameC O U (a13.add 3) 1/\
 box U #[hY W,hY c9,hX c4] jJ λf2 f3=>
 callE P dL #[kT V,.iface cU (kT (kE f2))] (λe e9=>e= hQ (.tuple #[])/\
 stV e9 (hZ g 0) (hY 0) λe7=>
 stV e7 (hZ g 1) (hY 0) λe8=>
 stV e8 (hZ g 2) (hY 0) λf5=>
 stV f5 (hZ g 3) (hX (hP #[])) λf4=>
 stV f4 (hZ g 4) (.int .u8 0) λH=>
 ∃c5,H.cell? (hZ g 0)=some (hY c5)/\
 ∃b9,H.cell? (hZ g 1)=some (hY b9)/\
 ∃b5,H.cell? (hZ g 2)=some (hY b5)/\
 ∃c1,H.cell? (hZ g 3)=some (hX c1)/\
 ∃b8,H.cell? (hZ g 4)=some (.int .u8 b8)/\
 R (hQ (.tuple #[.agg #[hY c5,hY b9,hY b5,hX c1,.int .u8 b8],hV true])) H) f3) O)
 (∃b6,y.cell? (hZ b1 0)=some (hY b6)/\
 ∃c8,y.cell? (hZ b1 1)=some (hY c8)/\
 ∃b7,y.cell? (hZ b1 2)=some (hY b7)/\
 ∃d1,y.cell? (hZ b1 3)=some (hX d1)/\
 ∃b4,y.cell? (hZ b1 4)=some (.int .u8 b4)/\
 stV y (hZ g 0) (hY b6) λf6=>
 stV f6 (hZ g 1) (hY c8) λg0=>
 stV g0 (hZ g 2) (hY b7) λf1=>
 stV f1 (hZ g 3) (hX d1) λf0=>
 stV f0 (hZ g 4) (.int .u8 b4) λE=>
 ∃d0,E.cell? (hZ g 0)=some (hY d0)/\
 ∃c2,E.cell? (hZ g 1)=some (hY c2)/\
 ∃c3,E.cell? (hZ g 2)=some (hY c3)/\
 ∃a6,E.cell? (hZ g 3)=some (hX a6)/\
 ∃a7,E.cell? (hZ g 4)=some (.int .u8 a7)/\
 R (hQ (.tuple #[.agg #[hY d0,hY c2,hY c3,hX a6,.int .u8 a7],hV false])) E)) I
theorem uZ.sound {R x0 x1_0 x1_1 x1_2 x1_3 x1_4 w}(h:uZ R x0 x1_0 x1_1 x1_2 x1_3 x1_4 w):callE P qi #[kT x0,.agg #[hY x1_0,hY x1_1,hY x1_2,hX x1_3,.int .u8 x1_4]] R w:=
 aH [(37,.dr (rpN [0,3,6,9,15,18,21,13,25,27,32,33,38,39,44]))] Tryz.func144 Tryz.call144 h
def nO (R:EP)(h4:OA)(f1 e9 f2:Int)(f0:BA)(e8:Int)(w:World):Prop:=
 box w #[hY f1,hY e9,hY f2,hX f0,.int .u8 e8] aW λb1 h5=>
 box h5 #[hY 0,hY 0,hY 0,hX (hP #[]),.int .u8 0] aW λg U=>
 ∃e7,U.cell? (hZ b1 0)=some (hY e7)/\
 ∃e3,U.cell? (hZ b1 1)=some (hY e3)/\
 ∃e6,U.cell? (hZ b1 2)=some (hY e6)/\
 ∃e4,U.cell? (hZ b1 3)=some (hX e4)/\
 ∃e5,U.cell? (hZ b1 4)=some (.int .u8 e5)/\
 callE P l6 #[.agg #[hY e7,hY e3,hY e6,hX e4,.int .u8 e5]] (λe g0=> ∃V b4,∃W a7,∃a6 b5,e= hQ (.tuple #[.agg #[hY V,hY b4,hY W,hX a7,.int .u8 a6],hV b5])/\
 box g0 #[hY 0,hY 0,hY 0,hX (hP #[]),.int .u8 0] aW λy g2=>
 stV g2 (hZ y 0) (hY V) λf4=>
 stV f4 (hZ y 1) (hY b4) λg1=>
 stV g1 (hZ y 2) (hY W) λf5=>
 stV f5 (hZ y 3) (hX a7) λg4=>
 stV g4 (hZ y 4) (.int .u8 a6) λE=>
 br b5
 (box E #[] mB λh1 h3=>
 callE P bR #[kT h4,.iface gF (kT (kE h1))] (λe O=>e= hQ (.tuple #[])/\
 ∃d1,O.cell? (hZ y 0)=some (hY d1)/\
 ∃d3,O.cell? (hZ y 1)=some (hY d3)/\
 ∃e2,O.cell? (hZ y 2)=some (hY e2)/\
 ∃c4,O.cell? (hZ y 3)=some (hX c4)/\
 ∃c2,O.cell? (hZ y 4)=some (.int .u8 c2)/\
 stV O (hZ g 0) (hY d1) λf3=>
 stV f3 (hZ g 1) (hY d3) λg6=>
 stV g6 (hZ g 2) (hY e2) λg7=>
 stV g7 (hZ g 3) (hX c4) λh0=>
 stV h0 (hZ g 4) (.int .u8 c2) λI=>
 ∃b9,I.cell? (hZ g 0)=some (hY b9)/\
 ∃d5,I.cell? (hZ g 1)=some (hY d5)/\
 ∃c3,I.cell? (hZ g 2)=some (hY c3)/\
 ∃e0,I.cell? (hZ g 3)=some (hX e0)/\
 ∃b7,I.cell? (hZ g 4)=some (.int .u8 b7)/\
 R (hQ (.tuple #[.agg #[hY b9,hY d5,hY c3,hX e0,.int .u8 b7],hV true])) I) h3)
 (∃c9,E.cell? (hZ b1 0)=some (hY c9)/\
 ∃c8,E.cell? (hZ b1 1)=some (hY c8)/\
 ∃d0,E.cell? (hZ b1 2)=some (hY d0)/\
 ∃d4,E.cell? (hZ b1 3)=some (hX d4)/\
 ∃b6,E.cell? (hZ b1 4)=some (.int .u8 b6)/\
 stV E (hZ g 0) (hY c9) λg5=>
 stV g5 (hZ g 1) (hY c8) λf6=>
 stV f6 (hZ g 2) (hY d0) λg3=>
 stV g3 (hZ g 3) (hX d4) λh2=>
 stV h2 (hZ g 4) (.int .u8 b6) λH=>
 ∃c5,H.cell? (hZ g 0)=some (hY c5)/\
 ∃b8,H.cell? (hZ g 1)=some (hY b8)/\
 ∃e1,H.cell? (hZ g 2)=some (hY e1)/\
 ∃c1,H.cell? (hZ g 3)=some (hX c1)/\
 ∃d2,H.cell? (hZ g 4)=some (.int .u8 d2)/\
 R (hQ (.tuple #[.agg #[hY c5,hY b8,hY e1,hX c1,.int .u8 d2],hV false])) H)) U
theorem nO.sound {R x0 x1_0 x1_1 x1_2 x1_3 x1_4 w}(h:nO R x0 x1_0 x1_1 x1_2 x1_3 x1_4 w):callE P j5 #[kT x0,.agg #[hY x1_0,hY x1_1,hY x1_2,hX x1_3,.int .u8 x1_4]] R w:=
 cD Tryz.func141 Tryz.call141 h
namespace mo
def bl1 (R:EP)(Xa:Nat->Int->Int->WP)(g:Nat)(O I:Int)(w:World):Prop:=
 callE P fB #[kT (kE g),.int .u8 O] (λe y=> ∃E,e= hQ (hV E)/\
 br (!E)
 (br (decide (I >= 3))
 (callE P nM #[kT (kE g)] (λe V=> ∃H,e= hQ (hV H)/\
 R (hQ (hV H)) V) y)
 (R (hQ (hV false)) y))
 (callE P il #[kT (kE g)] (λe U=>e= hQ (.tuple #[])/\
 Xa g O (i64.wrap (I+1)) U) y)) w
def l1 (R:EP)(g:Nat)(E y:Int)(w:World):Prop:=
 ∀X:Nat->Int->Int->WP,(∀g E y w,bl1 R X g E y w->X g E y w)->X g E y w
def k1 (R:EP)(y:Nat)(E:Int)(g:Bool)(w:World):Prop:=
 br g
 (l1 R y E 0 w)
 (R (hQ (hV false)) w)
end mo
def mo (R:EP)(b4 b3 a6:Int)(b5:BA)(a7:Int)(w:World):Prop:=
 box w #[hY b4,hY b3,hY a6,hX b5,.int .u8 a7] aW λb1 E=>
 ∃U,E.cell? (hZ b1 0)=some (hY U)/\
 ∃O,E.cell? (hZ b1 1)=some (hY O)/\
 ∃W,E.cell? (hZ b1 2)=some (hY W)/\
 ∃I,E.cell? (hZ b1 3)=some (hX I)/\
 ∃V,E.cell? (hZ b1 4)=some (.int .u8 V)/\
 box E #[hY 0,hY 0,hY 0,hX (hP #[]),.int .u8 0] aW λg c5=>
 stV c5 (hZ g 0) (hY U) λc3=>
 stV c3 (hZ g 1) (hY O) λb9=>
 stV b9 (hZ g 2) (hY W) λc1=>
 stV c1 (hZ g 3) (hX I) λc2=>
 stV c2 (hZ g 4) (.int .u8 V) λb6=>
 callE P bl #[kT (kE g),hY 0,hY 3,hV false] (λe b7=> ∃c4,e= hQ (hV c4)/\
 callE P iC #[kT (kE g)] (λe H=> ∃y,e= hQ (.int .u8 y)/\
 br (y==45)
 (mo.k1 R g y true H)
 (br (y==95)
 (mo.k1 R g y true H)
 (mo.k1 R g y (y==42) H))) b7) b6
theorem mo.sound {R x0_0 x0_1 x0_2 x0_3 x0_4 w}(h:mo R x0_0 x0_1 x0_2 x0_3 x0_4 w):callE P B7 #[.agg #[hY x0_0,hY x0_1,hY x0_2,hX x0_3,.int .u8 x0_4]] R w:=
 aH [(439,.mk [66,88,200] (mo.k1 R)),(5303,.lp [66,88,107] (mo.bl1 R) λXa=> [])] Tryz.func197 Tryz.call197 h
def oL (R:EP)(e6 e5 e3:Int)(e7:BA)(e4:Int)(w:World):Prop:=
 box w #[hY e6,hY e5,hY e3,hX e7,.int .u8 e4] aW λb1 h0=>
 box h0 #[hY 0,hY 0,hY 0,hX (hP #[]),.int .u8 0] aW λg U=>
 ∃e2,U.cell? (hZ b1 0)=some (hY e2)/\
 ∃d4,U.cell? (hZ b1 1)=some (hY d4)/\
 ∃e1,U.cell? (hZ b1 2)=some (hY e1)/\
 ∃d5,U.cell? (hZ b1 3)=some (hX d5)/\
 ∃e0,U.cell? (hZ b1 4)=some (.int .u8 e0)/\
 box U #[hY 0,hY 0,hY 0,hX (hP #[]),.int .u8 0] aW λy f1=>
 stV f1 (hZ y 0) (hY e2) λf4=>
 stV f4 (hZ y 1) (hY d4) λf5=>
 stV f5 (hZ y 2) (hY e1) λe9=>
 stV e9 (hZ y 3) (hX d5) λf3=>
 stV f3 (hZ y 4) (.int .u8 e0) λf0=>
 callE P bl #[kT (kE y),hY 0,hY 3,hV false] (λe g5=> ∃g2,e= hQ (hV g2)/\
 callE P fB #[kT (kE y),.int .u8 62] (λe E=> ∃d1,e= hQ (hV d1)/\
 br (!d1)
 (∃W,E.cell? (hZ b1 0)=some (hY W)/\
 ∃b5,E.cell? (hZ b1 1)=some (hY b5)/\
 ∃c4,E.cell? (hZ b1 2)=some (hY c4)/\
 ∃c8,E.cell? (hZ b1 3)=some (hX c8)/\
 ∃d3,E.cell? (hZ b1 4)=some (.int .u8 d3)/\
 stV E (hZ g 0) (hY W) λg4=>
 stV g4 (hZ g 1) (hY b5) λg7=>
 stV g7 (hZ g 2) (hY c4) λe8=>
 stV e8 (hZ g 3) (hX c8) λg1=>
 stV g1 (hZ g 4) (.int .u8 d3) λO=>
 ∃c3,O.cell? (hZ g 0)=some (hY c3)/\
 ∃b9,O.cell? (hZ g 1)=some (hY b9)/\
 ∃a7,O.cell? (hZ g 2)=some (hY a7)/\
 ∃d0,O.cell? (hZ g 3)=some (hX d0)/\
 ∃b6,O.cell? (hZ g 4)=some (.int .u8 b6)/\
 R (hQ (.tuple #[.agg #[hY c3,hY b9,hY a7,hX d0,.int .u8 b6],hV false])) O)
 (callE P bl #[kT (kE y),hY 0,hY 1,hV true] (λe I=> ∃g6,e= hQ (hV g6)/\
 ∃c1,I.cell? (hZ y 0)=some (hY c1)/\
 ∃b8,I.cell? (hZ y 1)=some (hY b8)/\
 ∃c2,I.cell? (hZ y 2)=some (hY c2)/\
 ∃c9,I.cell? (hZ y 3)=some (hX c9)/\
 ∃V,I.cell? (hZ y 4)=some (.int .u8 V)/\
 stV I (hZ g 0) (hY c1) λg0=>
 stV g0 (hZ g 1) (hY b8) λf2=>
 stV f2 (hZ g 2) (hY c2) λf6=>
 stV f6 (hZ g 3) (hX c9) λg3=>
 stV g3 (hZ g 4) (.int .u8 V) λH=>
 ∃b7,H.cell? (hZ g 0)=some (hY b7)/\
 ∃a6,H.cell? (hZ g 1)=some (hY a6)/\
 ∃d2,H.cell? (hZ g 2)=some (hY d2)/\
 ∃b4,H.cell? (hZ g 3)=some (hX b4)/\
 ∃c5,H.cell? (hZ g 4)=some (.int .u8 c5)/\
 R (hQ (.tuple #[.agg #[hY b7,hY a6,hY d2,hX b4,.int .u8 c5],hV true])) H) E)) g5) f0
theorem oL.sound {R x0_0 x0_1 x0_2 x0_3 x0_4 w}(h:oL R x0_0 x0_1 x0_2 x0_3 x0_4 w):callE P l6 #[.agg #[hY x0_0,hY x0_1,hY x0_2,hX x0_3,.int .u8 x0_4]] R w:=
 cD Tryz.func184 Tryz.call184 h
def eL (R:EP)(g:OA)(c8:Value)(w:World):Prop:=
 aA g λa1=>
 ∃c4,w.cell? (a1.add 5)=some (hY c4)/\
 callE P bj #[kT g,hY (i64.wrap (c4+1))] (λe c3=>e= hQ (.tuple #[])/\
 aA g λa5=>
 ∃a6 b3 b6,c3.cell? (a5.add 4)=some (hT a6 b3 b6)/\
 ∃b9 V,∃b7 c5,(Instr.buildSlice fP 1 #[(0,.agg #[.nilIface,hT none 0 0,hY 0,hY 0])]).run P c3= .ok (hT b9 V b7) c5/\
 ∃c2 b8,∃W b5,(Builtin.append_ #[fP,fP] fP #[hT a6 b3 b6,hT b9 V b7]).run P c5= .ok (hT c2 b8 W) b5/\
 aA g λa11=>
 stV b5 ((a11.add 4).add 0) (hT c2 b8 W) λd2=>
 tk d2 λE=>
 aA g λa14=>
 aA g λd5=>
 ∃I O d0,E.cell? (a14.add 4)=some (hT I O d0)/\
 ∃d1 y c9,E.cell? (d5.add 4)=some (hT d1 y c9)/\
 0<=(i64.wrap ((y:Int) - 1))/\(i64.wrap ((y:Int) - 1))<(O:Int)/\
 aA I λH=>
 Cy c8 (
 stV E ((H.add (Int.toNat (i64.wrap ((y:Int) - 1))*4)).add 0) c8 λb4=>
 aA g λd4=>
 ∃U,b4.cell? (d4.add 3)=some (hY U)/\
 stV b4 (((H.add (Int.toNat (i64.wrap ((y:Int) - 1))*4)).add 2).add 0) (hY U) λa7=>
 aA g λd3=>
 ∃c1,a7.cell? (d3.add 3)=some (hY c1)/\
 stV a7 ((((H.add (Int.toNat (i64.wrap ((y:Int) - 1))*4)).add 2).add 1).add 0) (hY c1) λe0=>
 R (hQ (.tuple #[])) e0)) w
theorem eL.sound {R x0 x1 w}(h:eL R x0 x1 w):callE P bR #[kT x0,x1] R w:=
 aH [(11,.dr (rpN [0,3,6,12,15,18,10,22,24,27,30,33]))] Tryz.func78 Tryz.call78 h
def iL (R:EP)(V:OA)(w:World):Prop:=
 tk w λy=>
 aA V λa2=>
 aA V λa3=>
 ∃E H b3,y.cell? (a2.add 4)=some (hT E H b3)/\
 ∃a7 g W,y.cell? (a3.add 4)=some (hT a7 g W)/\
 0<=(i64.wrap ((g:Int) - 1))/\(i64.wrap ((g:Int) - 1))<(H:Int)/\
 aA E λb4=>
 ∃O U I,y.cell? ((b4.add (Int.toNat (i64.wrap ((g:Int) - 1))*4)).add 1)=some (hT O U I)/\
 R (hQ (hT O U I)) y
theorem iL.sound {R x0 w}(h:iL R x0 w):callE P iz #[kT x0] R w:=
 aH [(5,.dr (rpN [0,3,6,12,15,18,10,22,24,27,30,33]))] Tryz.func420 Tryz.call420 h
end Go.Proofs.YtendaipfdnhnaaaGreatDoor

namespace Go.Proofs.YtendaipfdnhnaaaGreatDoor
open Go.IntWalk
variable {P:Program} {σ:Out} {w:World} {L L':List ai} {R:Ending->World->Prop}

def Sl (sz:Nat)(e:TypeId)(q:Option Addr)(n c:Nat)(vs:List Value)(M:List ai):Prop:=
 vs.length=n*sz/\n<=c/\((q=none/\n=0/\c=0/\M= [])\/ ∃b sp,q=kE b/\M= [(b,cel (vs++sp) e)]/\(vs++sp).length=c*sz)
theorem Sl.nil (sz:Nat)(e:TypeId):Sl sz e none 0 0 [] []:=⟨by simp,lZ0 _,.inl ⟨rfl,rfl,rfl,rfl⟩⟩

structure Row (P:Program) (t e:TypeId) (sz bytes:Nat) where
 i:TypeInfo
 z:Value
 ht:P.underlying t=some (.slice e)
 hi:P.info? e=some i
 hz:i.zero=some z
 hs:i.size=sz
 hb:i.bytes=bytes
 hc:z.cells.size=sz
 pos:0<sz

theorem qG {b:Nat}{cs:List Value}{e:TypeId}(h:Sat σ w ((b,cel cs e)::L)): ∀(o:Nat) (vs:List Value),o+vs.length<=cs.length->
 Sat σ (w.setCells b o vs) ((b,cel (cs.take o++vs++cs.drop (o+vs.length)) e)::L):=by
 intro o vs
 induction vs generalizing o w cs with
 |nil=>intro _;simpa[World.setCells] using h
 |cons v vs H=>
  intro O
  simp only[lF0] at O
  have y:=h.set (k:=0) (i:=o) v rfl
  have g:=H (w:=w.setCell (hZ b o) v) (cs:=cs.set o v) y (o+1) (by simp;omega)
  simp only[World.setCells]
  have E:(cs.set o v).take (o+1)=cs.take o++ [v]:=by
   rw[List.take_set,lH1 (by omega),lO1 _ _ (by simp;omega)]
   simp
   rw[show o - min o cs.length=0 by omega]
   rfl
  have I:(cs.set o v).drop (o+1+vs.length)=cs.drop (o+(vs.length+1)):=by
   rw[List.drop_set_of_lt (by omega)]
   congr 1
   omega
  rw[E,I] at g
  simpa using g

theorem Addr.add_zero_lit (b j:Nat):Addr.add (hZ b 0) j=⟨b,j,none⟩:=by
 simp[Addr.add]
 omega
theorem u5 {sz:Nat}{e:TypeId}{q:Option Addr}{n c:Nat}{vs:List Value}{M:List ai}(I:Sl sz e q n c vs M)(h:Sat σ w (M++L)):
 (Builtin.firstCells sz n (hT q n c)).run P w= .ok vs.toArray w:=by
 obtain⟨E,O,g|⟨b,sp,g,H,U⟩⟩:=I
 ·obtain⟨rfl,rfl,rfl,rfl⟩:=g
  have:vs= []:=lB1 (by simpa using E)
  subst this
  exact run_firstCells_none w sz 0 0 0
 ·subst g;subst H
  refine run_firstCells_some w sz n _ n c vs E λj u y=>?_
  rw[show (Addr.add (hZ b 0) j)=⟨b,j,none⟩ from Addr.add_zero_lit b j]
  refine h.ld (lY1 ..) ?_
  rw[lM0 (lL0.1 y).1]
  exact y

theorem Sat.app {t tx ty e:TypeId}{sz bytes:Nat}(r:Row P t e sz bytes){q:Option Addr}{n c:Nat}{vs:List Value}{M:List ai}(H:Sl sz e q n c vs M)(h:Sat σ w (M++L)){x:Value}{m:Nat}{g:List Value}(hs:Src P sz tx x m g w)(c4:0<m\/q≠none)(hb:(n+m)*bytes<=140737488355328)(d1:n+m<4611686018427387904):
 ∃O U V W,(Builtin.append_ #[t,tx] ty #[hT q n c,x]).run P w= .ok (hT O (n+m) U) V/\Sl sz e O (n+m) U (vs++g) W/\Sat σ V (W++L)/\O≠none/\c<=U:=by
 have b9:=u5 (P:=P) H h.drew
 obtain⟨y,d0,H⟩:=H
 obtain⟨i,z,ht,hi,hz,b8,b7,b5,c9⟩:=r
 subst b8
 have E:=hs.newsLen
 by_cases I:n+m<=c
 ·rcases H with ⟨rfl,rfl,rfl,rfl⟩|⟨b,sp,rfl,rfl,c2⟩
  ·exact absurd c4 (by simp;omega)
  ·simp only[lA0] at c2
   have b6:(n+m)*i.size<=c*i.size:=lN2 _ I
   rw[lP3] at b6
   have b4:n*i.size+g.length<=(vs++sp).length:=by rw[lA0,E];omega
   refine⟨_,_,_,[(b,cel (vs++g++sp.drop g.length) e)],run_append_room_src w t tx ty e i ht hi b 0 n c x m g hs I ?_ ?_,⟨?_,I,.inr ⟨b,sp.drop g.length,rfl,rfl,?_⟩⟩,?_,by simp,lZ0 _⟩
   ·intro j c8
    rw[lN0,h.ld (lY1 ..) (lI0 (by omega))]
    rfl
   ·exact λj c8=>h.not_frozen (lY1 ..)
   ·rw[lA0,y,E,lP3]
   ·rw[lA0,lA0,lN1,y,E];omega
   ·have:=qG h (n*i.size) g b4
    rw[lN0]
    have c1:(vs++sp).take (n*i.size)=vs:=by rw[<-y,lP4]
    have c5:(vs++sp).drop (n*i.size+g.length)=sp.drop g.length:=by rw[<-y,<-lK5,lB4]
    rw[c1,c5] at this
    exact this
 ·have a6:c<n+m:=by omega
  have b3:=growslice_fits (need:=n+m) (old:=c) (bytes:=i.bytes) a6 (by rw[b7];exact hb)
  have a7:=grownCap_ge w (n+m) c e
  have hd:Sat σ w.drew L:=h.drew.right
  refine⟨_,_,_,[(w.heap.size,cel (vs++g++(Builtin.zeroCells z.cells (grownCap w (n+m) c e - (n+m))).toList) e)],run_append_grow_src w t tx ty e i z ht hi hz q n c vs b9 x m g hs a6 (by omega) b3,
   ⟨?_,a7,.inr ⟨_,_,rfl,rfl,?_⟩⟩,?_,by simp,by omega⟩
  ·rw[lA0,y,E,lP3]
  ·rw[lA0,lA0,y,E,Array.length_toList,size_zeroCells,b5,<-lP3,<-lP3]
   congr 1
   omega
  ·have:=hd.alc (vs++g++(Builtin.zeroCells z.cells (grownCap w (n+m) c e - (n+m))).toList) e
   have c3:YtendaipfdnhnaaaGreatDoor.alc w.drew (vs++g++(Builtin.zeroCells z.cells (grownCap w (n+m) c e - (n+m))).toList).toArray e
    =w.drew.alloc (.cells ((vs++g).toArray++Builtin.zeroCells z.cells (grownCap w (n+m) c e - (n+m))) e):=by
    rw[show (vs++g++(Builtin.zeroCells z.cells (grownCap w (n+m) c e - (n+m))).toList).toArray=(vs++g).toArray++Builtin.zeroCells z.cells (grownCap w (n+m) c e - (n+m)) from by
     apply Array.ext';simp[lD0]]
    rfl
   rw[c3] at this
   exact this

theorem Sat.app1 {t ty e:TypeId}{sz bytes:Nat}(r:Row P t e sz bytes){q:Option Addr}{n c:Nat}{vs:List Value}{M:List ai}(c3:Sl sz e q n c vs M)(h:Sat σ w (M++L)){v:Value}(hv:v.cells.size=sz)(c1: ∀u∈v.cells.toList,u.oneCell'=true)(b3:Instr.fill (λi=>some (i*sz,sz)) ((Array.range (1*sz)).map (r.z.cells[· %r.z.cells.size]!)) [(0,v)]=some v.cells)(hb:(n+1)*bytes<=140737488355328)(c4:n+1<4611686018427387904)(c8:sz<=100){K:Option Addr->Nat->Nat->World->Prop}(b8: ∀g y I O,Sl sz e g (n+1) y (vs++v.cells.toList) O->Sat σ I (O++L)->K g (n+1) y I):
 ∃a7 V W E,(Instr.buildSlice t 1 #[(0,v)]).run P w= .ok (hT a7 V W) E/\
  ∃g U y a6,(Builtin.append_ #[t,t] ty #[hT q n c,hT a7 V W]).run P E= .ok (hT g U y) a6/\K g U y a6:=by
 have b4:=run_buildSlice (P:=P) w t e 1 #[(0,v)] v.cells r.i r.z r.ht r.hi r.hz (by rw[r.hs];omega) (by rw[r.hs];have:=r.pos;omega) (by rw[r.hs];exact b3)
 refine⟨_,_,_,_,b4,?_⟩
 have H:=h.alc v.cells.toList e
 have b9:YtendaipfdnhnaaaGreatDoor.alc w v.cells.toList.toArray e=w.alloc (.cells v.cells e):=by rw[lC4];rfl
 rw[b9] at H
 generalize c5:w.alloc (.cells v.cells e)=E at H⊢
 generalize w.heap.size=nb at H⊢
 have hs:Src P sz t (hT (kE nb) 1 1) 1 v.cells.toList E:=by
  refine Src.ofSlice E r.ht _ 1 1 _ (by simp[hv]) (λj u c2=>?_) c1
  rw[show (Addr.add (hZ nb 0) j)=⟨nb,j,none⟩ from Addr.add_zero_lit nb j]
  exact H.ld (lY1 ..) c2
 have b6:Sat σ E (M++((nb,cel v.cells.toList e)::L)):=H.perm lR5.symm
 obtain⟨g,y,I,O,hr,b5,b7,_⟩:=Sat.app r (ty:=ty) c3 b6 hs (.inl (by omega)) hb c4
 refine⟨g,n+1,y,I,hr,b8 g y I O b5 ?_⟩
 exact b7.sub (List.Sublist.append_left (lR3 ..) _)
theorem Sat.app1S {t ty e:TypeId}{sz bytes:Nat}(r:Row P t e sz bytes){q:Option Addr}{n c:Nat}{vs:List Value}{M:List ai}(c4:Sl sz e q n c vs M)(h:Sat σ w (M++L)){v:Value}(hv:v.cells.size=sz)(c2: ∀u∈v.cells.toList,u.oneCell'=true)(b3:Instr.fill (λi=>some (i*sz,sz)) ((Array.range (1*sz)).map (r.z.cells[· %r.z.cells.size]!)) [(0,v)]=some v.cells)(hb:(n+1)*bytes<=140737488355328)(c5:n+1<4611686018427387904)(c9:sz<=100){K:Option Addr->Nat->Nat->World->Prop}{C:World->Prop}(b9: ∀g X,Sat σ g (X::(M++L))->C g)(b8: ∀y E I O,Sl sz e y (n+1) E (vs++v.cells.toList) O->Sat σ I (O++L)->K y (n+1) E I):
 ∃a7 V W g,(Instr.buildSlice t 1 #[(0,v)]).run P w= .ok (hT a7 V W) g/\C g/\
  ∃y U E a6,(Builtin.append_ #[t,t] ty #[hT q n c,hT a7 V W]).run P g= .ok (hT y U E) a6/\K y U E a6:=by
 have b4:=run_buildSlice (P:=P) w t e 1 #[(0,v)] v.cells r.i r.z r.ht r.hi r.hz (by rw[r.hs];omega) (by rw[r.hs];have:=r.pos;omega) (by rw[r.hs];exact b3)
 refine⟨_,_,_,_,b4,?_⟩
 have H:=h.alc v.cells.toList e
 have c1:YtendaipfdnhnaaaGreatDoor.alc w v.cells.toList.toArray e=w.alloc (.cells v.cells e):=by rw[lC4];rfl
 rw[c1] at H
 generalize c8:w.alloc (.cells v.cells e)=g at H⊢
 generalize w.heap.size=nb at H⊢
 have hs:Src P sz t (hT (kE nb) 1 1) 1 v.cells.toList g:=by
  refine Src.ofSlice g r.ht _ 1 1 _ (by simp[hv]) (λj u c3=>?_) c2
  rw[show (Addr.add (hZ nb 0) j)=⟨nb,j,none⟩ from Addr.add_zero_lit nb j]
  exact H.ld (lY1 ..) c3
 have b6:Sat σ g (M++((nb,cel v.cells.toList e)::L)):=H.perm lR5.symm
 obtain⟨y,E,I,O,hr,b5,b7,_⟩:=Sat.app r (ty:=ty) c4 b6 hs (.inl (by omega)) hb c5
 refine⟨b9 _ _ H,y,n+1,E,I,hr,b8 y E I O b5 ?_⟩
 exact b7.sub (List.Sublist.append_left (lR3 ..) _)
end Go.Proofs.YtendaipfdnhnaaaGreatDoor


namespace Go.Proofs.YtendaipfdnhnaaaGreatDoor
open Go.Proofs Go.IntWalk Go.RowKit
set_option maxRecDepth 20000
variable {σ:Out} {w:World} {L L':List ai} {R:Ending->World->Prop}
namespace dG
def k1 (R:EP)(Xa:OA->WP)(g:OA)(w:World):Prop:=
 aA g λE=>
 ∃y,w.cell? (E.add 1)=some (hY y)/\
 aA g λH=>
 stV w ((H.add 1).add 0) (hY (i64.wrap (y+1))) λI=>
 Xa g I
def bl1 (R:EP)(Xa:OA->WP)(y:OA)(w:World):Prop:=
 tk w λg=>
 aA y λa4=>
 aA y λa5=>
 ∃U,g.cell? (a4.add 1)=some (hY U)/\
 ∃V,g.cell? (a5.add 3)=some (hX V)/\
 br (decide (U<(V.size:Int)))
 (aA y λa8=>
 aA y λa9=>
 ∃O,g.cell? (a8.add 3)=some (hX O)/\
 ∃H,g.cell? (a9.add 1)=some (hY H)/\
 0<=H/\H<(O.size:Int)/\
 br ((bt O H)==32)
 (k1 R Xa y g)
 (aA y λa12=>
 aA y λa13=>
 ∃I,g.cell? (a12.add 3)=some (hX I)/\
 ∃E,g.cell? (a13.add 1)=some (hY E)/\
 0<=E/\E<(I.size:Int)/\
 br ((bt I E)==9)
 (k1 R Xa y g)
 (R (hQ (.tuple #[])) g)))
 (R (hQ (.tuple #[])) g)
def l1 (R:EP)(g:OA)(w:World):Prop:=
 ∀X:OA->WP,(∀g w,bl1 R X g w->X g w)->X g w
end dG
def dG (R:EP)(g:OA)(w:World):Prop:=
 aA g λa1=>
 stV w (a1.add 0) (hY 0) λy=>
 dG.l1 R g y
theorem dG.sound {R x0 w}(h:dG R x0 w):callE P il #[kT x0] R w:=
 aH [(5,.lp [2] (dG.bl1 R) λXa=> [(4,.dr (rpN [0,3,6,12,15,18,10,22,24,27,30,33,36,39,45,48,51,43,55,57,60,63,66,69,72,78,81,84,76,88,90,93,96,99])),(3,.mk [2] (dG.k1 R Xa))])] Tryz.func242 Tryz.call242 h
def mc (R:EP)(g:OA)(w:World):Prop:=
 aA g λa1=>
 ∃V,w.cell? a1=some (hY V)/\
 br (V==0)
 (tk w λb5=>
 aA g λa4=>
 aA g λa5=>
 ∃W,b5.cell? (a4.add 3)=some (hX W)/\
 ∃a6,b5.cell? (a5.add 1)=some (hY a6)/\
 0<=a6/\a6<=(W.size:Int)/\
 R (hQ (hX (W.extract (Int.toNat a6) W.size))) b5)
 (br (V==1)
 (tk w λb4=>
 aA g λa9=>
 aA g λa10=>
 ∃H,b4.cell? (a9.add 3)=some (hX H)/\
 ∃I,b4.cell? (a10.add 1)=some (hY I)/\
 0<=I/\I<=(H.size:Int)/\
 (((hP #[32]).size+(H.extract (Int.toNat I) H.size).size:Nat):Int)<=i64.max/\
 R (hQ (hX ((hP #[32])++(H.extract (Int.toNat I) H.size)))) b4)
 (br (V==2)
 (tk w λb3=>
 aA g λa14=>
 aA g λb8=>
 ∃y,b3.cell? (a14.add 3)=some (hX y)/\
 ∃U,b3.cell? (b8.add 1)=some (hY U)/\
 0<=U/\U<=(y.size:Int)/\
 (((hP #[32,32]).size+(y.extract (Int.toNat U) y.size).size:Nat):Int)<=i64.max/\
 R (hQ (hX ((hP #[32,32])++(y.extract (Int.toNat U) y.size)))) b3)
 (br (V==3)
 (tk w λa7=>
 aA g λb7=>
 aA g λb6=>
 ∃E,a7.cell? (b7.add 3)=some (hX E)/\
 ∃O,a7.cell? (b6.add 1)=some (hY O)/\
 0<=O/\O<=(E.size:Int)/\
 (((hP #[32,32,32]).size+(E.extract (Int.toNat O) E.size).size:Nat):Int)<=i64.max/\
 R (hQ (hX ((hP #[32,32,32])++(E.extract (Int.toNat O) E.size)))) a7)
 (False))))
theorem mc.sound {R x0 w}(h:mc R x0 w):callE P gK #[kT x0] R w:=
 aH [(149,.dr (rpN [0,3,6,12,15,18,10,22,24,27])),(629,.dr (rpN [0,3,6,12,15,18,10,22,24,27,30])),(2549,.dr (rpN [0,3,6,12,15,18,10,22,24,27,30])),(10229,.dr (rpN [0,3,6,12,15,18,10,22,24,27,30])),(8181,.no)] Tryz.func186 Tryz.call186 h
namespace gw
def k1 (R:EP)(y:OA)(I:Bool)(w:World):Prop:=
 br I
 (aA y λE=>
 ∃g,w.cell? (E.add 1)=some (hY g)/\
 aA y λH=>
 stV w ((H.add 1).add 0) (hY (i64.wrap (g+1))) λO=>
 R (hQ (hV true)) O)
 (R (hQ (hV false)) w)
end gw
def gw (R:EP)(g:OA)(V:Int)(w:World):Prop:=
 aA g λa1=>
 ∃U,w.cell? a1=some (hY U)/\
 br (decide (U>0))
 (br (V==32)
 (aA g λa3=>
 ∃W,w.cell? a3=some (hY W)/\
 aA g λa5=>
 stV w (a5.add 0) (hY (i64.wrap (W - 1))) λa6=>
 R (hQ (hV true)) a6)
 (R (hQ (hV false)) w))
 (tk w λy=>
 aA g λa8=>
 aA g λa9=>
 ∃O,y.cell? (a8.add 1)=some (hY O)/\
 ∃I,y.cell? (a9.add 3)=some (hX I)/\
 br (decide (O<(I.size:Int)))
 (aA g λa12=>
 aA g λa13=>
 ∃H,y.cell? (a12.add 3)=some (hX H)/\
 ∃E,y.cell? (a13.add 1)=some (hY E)/\
 0<=E/\E<(H.size:Int)/\
 gw.k1 R g ((bt H E)==V) y)
 (gw.k1 R g false y))
theorem gw.sound {R x0 x1 w}(h:gw R x0 x1 w):callE P fB #[kT x0,.int .u8 x1] R w:=
 aH [(19,.dr (rpN [0,3,6,12,15,18,10,22,24,27,30,33,36,39,45,48,51,60,43,55,57,63,66])),(27,.mk [2,820] (gw.k1 R))] Tryz.func239 Tryz.call239 h
def ga (R:EP)(I:OA)(w:World):Prop:=
 tk w λE=>
 aA I λa2=>
 aA I λa3=>
 ∃g,E.cell? (a2.add 3)=some (hX g)/\
 ∃y,E.cell? (a3.add 1)=some (hY y)/\
 0<=y/\y<=(g.size:Int)/\
 callE P gd #[hX (g.extract (Int.toNat y) g.size)] (λe O=> ∃H,e= hQ (hX H)/\
 R (hQ (hX H)) O) E
theorem ga.sound {R x0 w}(h:ga R x0 w):callE P fZ #[kT x0] R w:=
 aH [(5,.dr (rpN [0,3,6,12,15,18,10,22,24,29,30]))] Tryz.func150 Tryz.call150 h
def jr (R:EP)(I:OA)(w:World):Prop:=
 tk w λE=>
 aA I λa2=>
 aA I λa3=>
 ∃g,E.cell? (a2.add 3)=some (hX g)/\
 ∃y,E.cell? (a3.add 1)=some (hY y)/\
 0<=y/\y<=(g.size:Int)/\
 callE P ie #[hX (g.extract (Int.toNat y) g.size)] (λe O=> ∃H,e= hQ (hX H)/\
 R (hQ (hX H)) O) E
theorem jr.sound {R x0 w}(h:jr R x0 w):callE P jk #[kT x0] R w:=
 aH [(5,.dr (rpN [0,3,6,12,15,18,10,22,24,29,30]))] Tryz.func248 Tryz.call248 h
def qo (R:EP)(y:OA)(w:World):Prop:=
 tk w λg=>
 aA y λa2=>
 aA y λa3=>
 ∃H,g.cell? (a2.add 1)=some (hY H)/\
 ∃E,g.cell? (a3.add 3)=some (hX E)/\
 R (hQ (hV (decide (H >= (E.size:Int))))) g
theorem qo.sound {R x0 w}(h:qo R x0 w):callE P nM #[kT x0] R w:=
 aH [(5,.dr (rpN [0,3,6,12,15,18,10,22,24,27,30]))] Tryz.func243 Tryz.call243 h
def lj (R:EP)(I:OA)(w:World):Prop:=
 tk w λE=>
 aA I λa2=>
 aA I λa3=>
 ∃g,E.cell? (a2.add 3)=some (hX g)/\
 ∃y,E.cell? (a3.add 1)=some (hY y)/\
 0<=y/\y<=(g.size:Int)/\
 callE P gd #[hX (g.extract (Int.toNat y) g.size)] (λe O=> ∃H,e= hQ (hX H)/\
 R (hQ (hV (H.toList==(hP #[]).toList))) O) E
theorem lj.sound {R x0 w}(h:lj R x0 w):callE P ct #[kT x0] R w:=
 aH [(5,.dr (rpN [0,3,6,12,15,18,10,22,24,29,30,33]))] Tryz.func104 Tryz.call104 h
def oM (R:EP)(g:OA)(w:World):Prop:=
 aA g λa1=>
 ∃O,w.cell? a1=some (hY O)/\
 br (decide (O>0))
 (R (hQ (.int .u8 32)) w)
 (tk w λE=>
 aA g λa4=>
 aA g λa5=>
 ∃U,E.cell? (a4.add 1)=some (hY U)/\
 ∃V,E.cell? (a5.add 3)=some (hX V)/\
 br (decide (U >= (V.size:Int)))
 (R (hQ (.int .u8 0)) E)
 (tk E λI=>
 aA g λa9=>
 aA g λa10=>
 ∃H,I.cell? (a9.add 3)=some (hX H)/\
 ∃y,I.cell? (a10.add 1)=some (hY y)/\
 0<=y/\y<(H.size:Int)/\
 R (hQ (.int .u8 (bt H y))) I))
theorem oM.sound {R x0 w}(h:oM R x0 w):callE P iC #[kT x0] R w:=
 aH [(19,.dr (rpN [0,3,6,12,15,18,10,22,24,27])),(23,.dr (rpN [0,3,6,12,15,18,10,22,24,27]))] Tryz.func241 Tryz.call241 h
namespace cL
def k2 (R:EP)(b4:OA)(y:Nat)(w:World):Prop:=
 ∃I,w.cell? (hZ y 0)=some (hY I)/\
 ∃O,w.cell? (hZ y 1)=some (hY O)/\
 ∃U,w.cell? (hZ y 2)=some (hY U)/\
 ∃E,w.cell? (hZ y 3)=some (hX E)/\
 ∃H,w.cell? (hZ y 4)=some (.int .u8 H)/\
 aA b4 λg=>
 stV w (g.add 0) (hY I) λW=>
 stV W (g.add 1) (hY O) λa6=>
 stV a6 (g.add 2) (hY U) λV=>
 stV V (g.add 3) (hX E) λb3=>
 stV b3 (g.add 4) (.int .u8 H) λa7=>
 R (hQ (hV true)) a7
def k3 (R:EP)(Xa:OA->Int->Int->Bool->Nat->Int->WP)(y:OA)(E:Int)(H:Nat)(g:Int)(w:World):Prop:=
 br (decide (g >= E))
 (k2 R y H w)
 (R (hQ (hV false)) w)
def k1 (R:EP)(Xa:OA->Int->Int->Bool->Nat->Int->WP)(I:OA)(O b8:Int)(b7:Bool)(g:Nat)(H:Int)(w:World):Prop:=
 ∃b3,w.cell? (hZ g 1)=some (hY b3)/\
 ∃U,w.cell? (hZ g 3)=some (hX U)/\
 br (decide (b3<(U.size:Int)))
 (∃E,w.cell? (hZ g 3)=some (hX E)/\
 ∃y,w.cell? (hZ g 1)=some (hY y)/\
 0<=y/\y<(E.size:Int)/\
 br ((bt E y)==9)
 (∃a6,w.cell? (hZ g 1)=some (hY a6)/\
 ∃b4,w.cell? (hZ g 2)=some (hY b4)/\
 stV w (hZ g 0) (hY (i64.wrap ((i64.wrap (4 - (EL .i64 (i64.wrap (a6 - b4)) 3))) - 1))) λb5=>
 ∃W,b5.cell? (hZ g 1)=some (hY W)/\
 stV b5 (hZ g 1) (hY (i64.wrap (W+1))) λb6=>
 ∃a7,b6.cell? (hZ g 1)=some (hY a7)/\
 stV b6 (hZ g 2) (hY a7) λb9=>
 Xa I O b8 b7 g (i64.wrap (H+1)) b9)
 (br ((bt E y)==32)
 (∃V,w.cell? (hZ g 1)=some (hY V)/\
 stV w (hZ g 1) (hY (i64.wrap (V+1))) λc1=>
 Xa I O b8 b7 g (i64.wrap (H+1)) c1)
 (k3 R Xa I O g H w)))
 (k3 R Xa I O g H w)
def bl1 (R:EP)(Xa:OA->Int->Int->Bool->Nat->Int->WP)(I:OA)(O H:Int)(E:Bool)(g:Nat)(y:Int)(w:World):Prop:=
 br (decide (y<H))
 (∃V,w.cell? (hZ g 0)=some (hY V)/\
 br (decide (V>0))
 (∃U,w.cell? (hZ g 0)=some (hY U)/\
 stV w (hZ g 0) (hY (i64.wrap (U - 1))) λa7=>
 Xa I O H E g (i64.wrap (y+1)) a7)
 (∃W,w.cell? (hZ g 1)=some (hY W)/\
 ∃a6,w.cell? (hZ g 3)=some (hX a6)/\
 br ((decide (W >= (a6.size:Int))) && E)
 (Xa I O H E g (i64.wrap (y+1)) w)
 (k1 R Xa I O H E g y w)))
 (k2 R I g w)
def l1 (R:EP)(O:OA)(H I:Int)(E:Bool)(y:Nat)(g:Int)(w:World):Prop:=
 ∀X:OA->Int->Int->Bool->Nat->Int->WP,(∀O H I E y g w,bl1 R X O H I E y g w->X O H I E y g w)->X O H I E y g w
end cL
def cL (R:EP)(O:OA)(b5 b6:Int)(b3:Bool)(w:World):Prop:=
 aA O λa1=>
 ∃y,w.cell? (a1.add 0)=some (hY y)/\
 ∃H,w.cell? (a1.add 1)=some (hY H)/\
 ∃I,w.cell? (a1.add 2)=some (hY I)/\
 ∃U,w.cell? (a1.add 3)=some (hX U)/\
 ∃E,w.cell? (a1.add 4)=some (.int .u8 E)/\
 box w #[hY 0,hY 0,hY 0,hX (hP #[]),.int .u8 0] aW λg b4=>
 stV b4 (hZ g 0) (hY y) λb8=>
 stV b8 (hZ g 1) (hY H) λV=>
 stV V (hZ g 2) (hY I) λW=>
 stV W (hZ g 3) (hX U) λa6=>
 stV a6 (hZ g 4) (.int .u8 E) λa7=>
 cL.l1 R O b5 b6 b3 g 0 a7
theorem cL.sound {R x0 x1 x2 x3 w}(h:cL R x0 x1 x2 x3 w):callE P bl #[kT x0,hY x1,hY x2,hV x3] R w:=
 aH [(43,.lp [2,27,47,60,186,207] (cL.bl1 R) λXa=> [(57,.mk [2,27,47,60,186,207] (cL.k1 R Xa)),(121,.mk [2,27,186,207] (cL.k3 R Xa))]),(15,.mk [2,186] (cL.k2 R))] Tryz.func203 Tryz.call203 h
namespace cW
def k1 (R:EP)(g:BA)(y:Int)(w:World):Prop:=
 0<=y/\y<=(g.size:Int)/\
 R (hQ (hX (g.extract (Int.toNat y) g.size))) w
def bl1 (R:EP)(Xa:BA->Int->WP)(y:BA)(g:Int)(w:World):Prop:=
 ((decide (g<(y.size:Int)))=true->0<=g/\g<(y.size:Int))/\
 (((decide (g<(y.size:Int))) && (!((bt y g)==32)))=true->0<=g/\g<(y.size:Int))/\
 br ((decide (g<(y.size:Int))) && (((bt y g)==32)||((bt y g)==9)))
 (Xa y (i64.wrap (g+1)) w)
 (k1 R y g w)
def l1 (R:EP)(y:BA)(g:Int)(w:World):Prop:=
 ∀X:BA->Int->WP,(∀y g w,bl1 R X y g w->X y g w)->X y g w
end cW
def cW (R:EP)(g:BA)(w:World):Prop:=
 cW.l1 R g 0 w
theorem cW.sound {R x0 w}(h:cW R x0 w):callE P gd #[hX x0] R w:=
 aH [(19,.lp [1,67] (cW.bl1 R) λXa=> []),(15,.mk [1,67] (cW.k1 R))] Tryz.func140 Tryz.call140 h
namespace cK
def k2 (R:EP)(y:BA)(g:Int)(w:World):Prop:=
 0<=g/\g<=(y.size:Int)/\
 R (hQ (hX (y.extract 0 (Int.toNat g)))) w
def bl2 (R:EP)(Xa:BA->Int->WP)(y:BA)(g:Int)(w:World):Prop:=
 ((decide (g>0))=true->0<=(i64.wrap (g - 1))/\(i64.wrap (g - 1))<(y.size:Int))/\
 (((decide (g>0)) && (!((bt y (i64.wrap (g - 1)))==32)))=true->0<=(i64.wrap (g - 1))/\(i64.wrap (g - 1))<(y.size:Int))/\
 br ((decide (g>0)) && (((bt y (i64.wrap (g - 1)))==32)||((bt y (i64.wrap (g - 1)))==9)))
 (Xa y (i64.wrap (g - 1)) w)
 (k2 R y g w)
def l2 (R:EP)(g:BA)(y:Int)(w:World):Prop:=
 ∀X:BA->Int->WP,(∀g y w,bl2 R X g y w->X g y w)->X g y w
def k1 (R:EP)(g:BA)(y:Int)(w:World):Prop:=
 0<=y/\y<=(g.size:Int)/\
 l2 R (g.extract (Int.toNat y) g.size) ((g.extract (Int.toNat y) g.size).size:Int) w
def bl1 (R:EP)(E:BA->Int->WP)(y:BA)(g:Int)(w:World):Prop:=
 ((decide (g<(y.size:Int)))=true->0<=g/\g<(y.size:Int))/\
 (((decide (g<(y.size:Int))) && (!((bt y g)==32)))=true->0<=g/\g<(y.size:Int))/\
 br ((decide (g<(y.size:Int))) && (((bt y g)==32)||((bt y g)==9)))
 (E y (i64.wrap (g+1)) w)
 (k1 R y g w)
def l1 (R:EP)(y:BA)(g:Int)(w:World):Prop:=
 ∀X:BA->Int->WP,(∀y g w,bl1 R X y g w->X y g w)->X y g w
end cK
def cK (R:EP)(g:BA)(w:World):Prop:=
 cK.l1 R g 0 w
theorem cK.sound {R x0 w}(h:cK R x0 w):callE P ie #[hX x0] R w:=
 aH [(19,.lp [1,67] (cK.bl1 R) λg=> []),(15,.mk [1,67] (cK.k1 R)),(159,.lp [1,87] (cK.bl2 R) λXa=> []),(127,.mk [1,87] (cK.k2 R))] Tryz.func108 Tryz.call108 h

theorem sZ {l:List UInt8}(b4:l.length<4611686018427387904)(h:R (hQ (hX (bs (gj cM l)))) w):cK R (bs l) w:=by
 intro X V
 refine Dd (l:=l) (X:=λi=>X (bs l) (i:Int) w) (p:=cM) (λi hi y H=>V _ _ _ ?_) 0 (lC2 _) (λi hi I E=>V _ _ _ ?_)
 ·refine⟨λ_=>⟨by omega,by simp;omega⟩,λ_=>⟨by omega,by simp;omega⟩,ag ?_ ?_⟩
  ·rw[de hi 32 32 rfl,de hi 9 9 rfl]
   simpa[hi,cM] using y
  ·rw[aN (by omega)];exact H
 ·refine⟨λh=>⟨by omega,by simpa using h⟩,λh=>⟨by omega,?_⟩,ae ?_ ?_⟩
  ·simp only[lM1,decide_eq_true_eq] at h;exact h.1
  ·by_cases g:i<l.length
   ·rw[de g 32 32 rfl,de g 9 9 rfl]
    simpa[g,cM] using I g
   ·simp[g]
  ·refine⟨by omega,by simp;omega,?_⟩
   rw[cm]
   simp only[lC0,aJ,lW2,E]
   simp only[lK2]
   generalize a6:l.dropWhile cM=m
   have a7:m.length<4611686018427387904:=by
    have:=lO2 cM (l:=l)|>.length_le
    rw[a6] at this
    omega
   intro Y W
   refine Gh (l:=m) (X:=λj=>Y (bs m) (j:Int) w) (p:=cM) (λi hi y H=>W _ _ _ ?_) m.length (lZ0 _) (λj b3 I E=>W _ _ _ ?_)
   ·have hd:=gr (n:=i+1) (by omega) (by omega)
    rw[lF3] at hd
    refine⟨λ_=>?_,λ_=>?_,ag ?_ ?_⟩
    ·rw[hd];exact⟨by omega,by simp;omega⟩
    ·rw[hd];exact⟨by omega,by simp;omega⟩
    ·rw[hd,de hi 32 32 rfl,de hi 9 9 rfl]
     simp only[cM] at y
     rw[y]
     simp
    ·rw[hd];exact H
   ·have O:cK.k2 R (bs m) (j:Int) w:=by
     refine⟨by omega,by simp;omega,?_⟩
     rw[cm]
     simp only[lC0,lK2,E,lW2]
     have:gj cM l=(m.reverse.dropWhile cM).reverse:=by rw[gj,vE,a6]
     rw[<-this];exact h
    rcases lJ4 j with U|U
    ·subst U
     exact⟨λh=>by simp at h,λh=>by simp at h,ae (by simp) O⟩
    ·obtain⟨i,rfl⟩: ∃i,j=i+1:=⟨j - 1,by omega⟩
     have hd:=gr (n:=i+1) (by omega) (by omega)
     rw[lF3] at hd
     refine⟨λ_=>?_,λ_=>?_,ae ?_ O⟩
     ·rw[hd];exact⟨by omega,by simp;omega⟩
     ·rw[hd];exact⟨by omega,by simp;omega⟩
     ·have:=I i (by omega) rfl
      rw[hd,de (by omega) 32 32 rfl,de (by omega) 9 9 rfl]
      simp only[cM] at this
      rw[this];simp
theorem j8 {l:List UInt8}(g:l.length<4611686018427387904)(h:R (hQ (hX (bs (gj cM l)))) w):callE P ie #[hX (bs l)] R w:=
 cK.sound (sZ g h)
theorem j9 {l:List UInt8}(U:l.length<4611686018427387904)(h:R (hQ (hX (bs (l.dropWhile cM)))) w):callE P gd #[hX (bs l)] R w:=by
 refine cW.sound ?_
 intro X y
 refine Dd (l:=l) (X:=λi=>X (bs l) (i:Int) w) (p:=cM) (λi hi E I=>y _ _ _ ?_) 0 (lC2 _) (λi hi O H=>y _ _ _ ?_)
 ·refine⟨λ_=>⟨by omega,by simp;omega⟩,λ_=>⟨by omega,by simp;omega⟩,ag ?_ ?_⟩
  ·rw[de hi 32 32 rfl,de hi 9 9 rfl]
   simpa[hi,cM] using E
  ·rw[aN (by omega)];exact I
 ·refine⟨λh=>⟨by omega,by simpa using h⟩,λh=>⟨by omega,?_⟩,ae ?_ ?_⟩
  ·simp only[lM1,decide_eq_true_eq] at h;exact h.1
  ·by_cases g:i<l.length
   ·rw[de g 32 32 rfl,de g 9 9 rfl]
    simpa[g,cM] using O g
   ·simp[g]
  ·refine⟨by omega,by simp;omega,?_⟩
   rw[aJ,cm]
   simp only[lC0,lW2,H,lK2]
   exact h

structure Ln where
 sp:Nat
 i:Nat
 tab:Nat
 text:List UInt8
 nl:UInt8
def Ln.cells (l:Ln):List Value:= [hY l.sp,hY l.i,hY l.tab,hX (bs l.text),.int .u8 l.nl.toNat]
abbrev Ln.at (b:Nat)(l:Ln):ai:=(b,cel l.cells aW)
structure Ln.ok (l:Ln):Prop where
 i:l.i<=l.text.length
 tab:l.tab<=l.i
 len:l.text.length<4611686018427387904
 sp:l.sp<=3
def Ln.blank (l:Ln):Bool:=(l.text.drop l.i).all cM
def Ln.peek (l:Ln):UInt8:=if 0<l.sp then 32 else l.text.getD l.i 0
theorem lK {p:UInt8->Bool}: ∀ {l:List UInt8},((l.dropWhile p)== [])=l.all p
 | []=>rfl
 |a::l=>by
  cases g:p a with
  |true=>rw[lA4 g,lK,lL3,g,lP5]
  |false=>rw[lH2 (by simp[g]),lL3,g];rfl
theorem dC {b:Nat}{l:Ln}(h:Sat σ w L)(E:l.at b∈L)(g:l.ok)(y: ∀w,Sat σ w L->R (hQ (hV l.blank)) w):
 callE P ct #[kT (kE b)] R w:=by
 refine lj.sound ?_
 repeat (first|refine aa ?_|refine h.tk λw h=>?_|refine⟨_,h.ldA,?_⟩|refine⟨_,_,_,h.ldA,?_⟩)
 have:=g.i
 refine⟨by omega,by simp;omega,?_⟩
 rw[aJ,lC0,nw]
 refine j9 (by simp;have:=g.len;omega) ⟨_,rfl,?_⟩
 rw[cZ,gk,lK]
 exact y _ h
theorem EH {b:Nat}{l:Ln}(h:Sat σ w L)(y:l.at b∈L)(g: ∀w,Sat σ w L->R (hQ (hV (decide (l.text.length<=l.i)))) w):
 callE P nM #[kT (kE b)] R w:=by
 refine qo.sound ?_
 repeat (first|refine aa ?_|refine h.tk λw h=>?_|refine⟨_,h.ldA,?_⟩|refine⟨_,_,_,h.ldA,?_⟩)
 have:(decide ((l.i:Int) >= ((bs l.text).size:Int)))=decide (l.text.length<=l.i):=by simp
 rw[this]
 exact g _ h
theorem lU {b:Nat}{l:Ln}(h:Sat σ w L)(E:l.at b∈L)(H:l.ok)(y: ∀w,Sat σ w L->R (hQ (.int .u8 l.peek.toNat)) w):
 callE P iC #[kT (kE b)] R w:=by
 refine oM.sound ?_
 repeat (first|refine aa ?_|refine h.tk λw h=>?_|refine⟨_,h.ldA,?_⟩|refine⟨_,_,_,h.ldA,?_⟩)
 refine bM (λhs=>?_) (λhs=>?_)
 ·have g:l.peek=32:=by simp only[Ln.peek];rw[if_pos (by simpa using hs)]
  have:=y _ h
  rw[g] at this
  exact this
 ·have hs:l.sp=0:=by simpa using hs
  repeat (first|refine aa ?_|refine h.tk λw h=>?_|refine⟨_,h.ldA,?_⟩|refine⟨_,_,_,h.ldA,?_⟩)
  refine bM (λhi=>?_) (λhi=>?_)
  ·have g:l.peek=0:=by
    simp at hi
    simp[Ln.peek,hs,hi]
   have:=y _ h
   rw[g] at this
   exact this
  ·repeat (first|refine aa ?_|refine h.tk λw h=>?_|refine⟨_,h.ldA,?_⟩|refine⟨_,_,_,h.ldA,?_⟩)
   simp at hi
   refine⟨by omega,by simp;omega,?_⟩
   have g:(l.peek.toNat:Int)=bt (bs l.text) l.i:=by rw[pE hi];simp[Ln.peek,hs,hi]
   rw[<-g]
   exact y _ h
theorem FP (n:Nat)(E:n<4611686018427387904):EL .i64 (n:Int) 3=((n%4:Nat):Int):=by
 have g:(BitVec.ofInt 64 (n:Int) &&& BitVec.ofInt 64 3).toNat=n%4:=by
  rw[BitVec.toNat_and]
  have y:(BitVec.ofInt 64 (n:Int)).toNat=n:=by
   simp
   omega
  rw[y,show (BitVec.ofInt 64 3).toNat=2 ^ 2 - 1 from rfl,Nat.and_two_pow_sub_one_eq_mod]
 show i64.wrap (((BitVec.ofInt 64 (n:Int) &&& BitVec.ofInt 64 3).toNat:Nat):Int)=_
 rw[g,i64_in _ (by omega)]
def Ln.tsGo (min:Nat)(eol:Bool):Nat->Nat->Ln->Option Ln
 |0,_,t=>some t
 |k+1,n,t=>
  if 0<t.sp then tsGo min eol k (n+1) {t with sp:=t.sp - 1}
  else if t.text.length<=t.i/\eol=true then tsGo min eol k (n+1) t
  else if t.text[t.i]? =some 9 then tsGo min eol k (n+1) {t with sp:=3 - (t.i - t.tab)%4,i:=t.i+1,tab:=t.i+1}
  else if t.text[t.i]? =some 32 then tsGo min eol k (n+1) {t with i:=t.i+1}
  else if min<=n then some t else none
def Ln.trimSp (min max:Nat)(eol:Bool)(t:Ln):Option Ln:=t.tsGo min eol max 0
theorem trimSp_ok {b:Nat}{l:Ln}{min max:Nat}{eol:Bool}(h:Sat σ w (l.at b::L))(b5:l.ok)(b9:min<4611686018427387904)(c1:max<4611686018427387904)(g:match l.trimSp min max eol with
  |some U=> ∀w,Sat σ w (U.at b::L)->R (hQ (hV true)) w
  |none=> ∀w,Sat σ w (l.at b::L)->R (hQ (hV false)) w):
 callE P bl #[kT (kE b),hY min,hY max,hV eol] R w:=by
 refine cL.sound ?_
 repeat (first|refine aa ?_|refine h.tk λw h=>?_|refine⟨_,h.ldA,?_⟩|refine⟨_,_,_,h.ldA,?_⟩|refine h.stA 0 λw h=>?_|refine h.stA 1 λw h=>?_|refine h.stA 2 λw h=>?_|refine h.stA 3 λw h=>?_|refine h.stA 4 λw h=>?_|refine h.stA 5 λw h=>?_|refine h.stA 6 λw h=>?_|refine h.bx λb0 w h=>?_)
 have h:Sat σ _ (l.at b0::l.at b::L):=h
 intro X a6
 have a7: ∀k n (t:Ln) w,n+k=max->t.ok->Sat σ w (t.at b0::l.at b::L)->
  (match t.tsGo min eol k n with
  |some U=> ∀w,Sat σ w (U.at b::L)->R (hQ (hV true)) w
  |none=> ∀w,Sat σ w (l.at b::L)->R (hQ (hV false)) w)->X (kE b) min max eol b0 n w:=by
  intro k
  induction k with
  |zero=>
   intro n t w b6 ht h g
   refine a6 _ _ _ _ _ _ _ (ae (by simp;omega) ?_)
   repeat (first|refine aa ?_|refine h.tk λw h=>?_|refine⟨_,h.ldA,?_⟩|refine⟨_,_,_,h.ldA,?_⟩|refine h.stA 0 λw h=>?_|refine h.stA 1 λw h=>?_|refine h.stA 2 λw h=>?_|refine h.stA 3 λw h=>?_|refine h.stA 4 λw h=>?_|refine h.stA 5 λw h=>?_|refine h.stA 6 λw h=>?_|refine h.bx λb0 w h=>?_)
   have h:Sat σ _ (t.at b0::t.at b::L):=h
   exact g _ h.tail
  |succ k I=>
   intro n t w b6 ht h g
   simp only[Ln.tsGo] at g
   refine a6 _ _ _ _ _ _ _ (ag (by simp;omega) ?_)
   have H:i64.wrap ((n:Int)+1)=((n+1:Nat):Int):=aN (by omega)
   repeat (first|refine aa ?_|refine h.tk λw h=>?_|refine⟨_,h.ldA,?_⟩|refine⟨_,_,_,h.ldA,?_⟩)
   by_cases hs:0<t.sp
   ·rw[if_pos hs] at g
    refine ag (by simpa using hs) ?_
    have hd:=gr (n:=t.sp) (by have:=ht.sp;omega) hs
    repeat (first|refine aa ?_|refine h.tk λw h=>?_|refine⟨_,h.ldA,?_⟩|refine⟨_,_,_,h.ldA,?_⟩|refine h.stA 0 λw h=>?_|refine h.stA 1 λw h=>?_|refine h.stA 2 λw h=>?_|refine h.stA 3 λw h=>?_|refine h.stA 4 λw h=>?_|refine h.stA 5 λw h=>?_|refine h.stA 6 λw h=>?_|refine h.bx λb0 w h=>?_)
    rw[hd] at h
    rw[H]
    exact I _ {t with sp:=t.sp - 1} _ (by omega) ⟨ht.i,ht.tab,ht.len,by have:=ht.sp;simp;omega⟩ h g
   ·rw[if_neg hs] at g
    refine ae (by simpa using hs) ?_
    repeat (first|refine aa ?_|refine h.tk λw h=>?_|refine⟨_,h.ldA,?_⟩|refine⟨_,_,_,h.ldA,?_⟩)
    by_cases V:t.text.length<=t.i/\eol=true
    ·rw[if_pos V] at g
     refine ag (by simpa using V) ?_
     rw[H]
     exact I _ t _ (by omega) ht h g
    ·rw[if_neg V] at g
     refine ae (by rw[lX3];by_cases h:eol=true<;>simp_all) ?_
     repeat (first|refine aa ?_|refine h.tk λw h=>?_|refine⟨_,h.ldA,?_⟩|refine⟨_,_,_,h.ldA,?_⟩)
     by_cases hi:t.i<t.text.length
     ·refine ag (by simpa using hi) ?_
      repeat (first|refine aa ?_|refine h.tk λw h=>?_|refine⟨_,h.ldA,?_⟩|refine⟨_,_,_,h.ldA,?_⟩)
      refine⟨by omega,by simpa using hi,?_⟩
      rw[lI0 hi] at g
      have b8:=ht.len
      have b7:=ht.tab
      have W:i64.wrap ((t.i:Int)+1)=((t.i+1:Nat):Int):=aN (by omega)
      by_cases O:t.text[t.i]=9
      ·rw[if_pos (by rw[O])] at g
       refine ag (by rw[de hi 9 9 rfl,O];rfl) ?_
       repeat (first|refine aa ?_|refine h.tk λw h=>?_|refine⟨_,h.ldA,?_⟩|refine⟨_,_,_,h.ldA,?_⟩)
       have b3:i64.wrap ((t.i:Int) - (t.tab:Int))=((t.i - t.tab:Nat):Int):=by rw[i64_in _ (by omega)];omega
       rw[b3,FP _ (by omega),i64_in (4 - _) (by omega),i64_in _ (by omega)]
       have b4:(4 - (((t.i - t.tab)%4:Nat):Int) - 1)=((3 - (t.i - t.tab)%4:Nat):Int):=by omega
       rw[b4]
       repeat (first|refine aa ?_|refine h.tk λw h=>?_|refine⟨_,h.ldA,?_⟩|refine⟨_,_,_,h.ldA,?_⟩|refine h.stA 0 λw h=>?_|refine h.stA 1 λw h=>?_|refine h.stA 2 λw h=>?_|refine h.stA 3 λw h=>?_|refine h.stA 4 λw h=>?_|refine h.stA 5 λw h=>?_|refine h.stA 6 λw h=>?_|refine h.bx λb0 w h=>?_)
       rw[W] at h
       rw[H]
       exact I _ {t with sp:=3 - (t.i - t.tab)%4,i:=t.i+1,tab:=t.i+1} _ (by omega) ⟨by simp;omega,by simp,ht.len,by simp⟩ h g
      ·rw[if_neg (by simpa using O)] at g
       refine ae (by rw[de hi 9 9 rfl];simpa using O) ?_
       by_cases E:t.text[t.i]=32
       ·rw[if_pos (by rw[E])] at g
        refine ag (by rw[de hi 32 32 rfl,E];rfl) ?_
        repeat (first|refine aa ?_|refine h.tk λw h=>?_|refine⟨_,h.ldA,?_⟩|refine⟨_,_,_,h.ldA,?_⟩|refine h.stA 0 λw h=>?_|refine h.stA 1 λw h=>?_|refine h.stA 2 λw h=>?_|refine h.stA 3 λw h=>?_|refine h.stA 4 λw h=>?_|refine h.stA 5 λw h=>?_|refine h.stA 6 λw h=>?_|refine h.bx λb0 w h=>?_)
        rw[W] at h
        rw[H]
        exact I _ {t with i:=t.i+1} _ (by omega) ⟨by simp;omega,by simp;omega,ht.len,ht.sp⟩ h g
       ·rw[if_neg (by simpa using E)] at g
        refine ae (by rw[de hi 32 32 rfl];simpa using E) ?_
        by_cases y:min<=n
        ·rw[if_pos y] at g
         refine ag (by simpa using y) ?_
         repeat (first|refine aa ?_|refine h.tk λw h=>?_|refine⟨_,h.ldA,?_⟩|refine⟨_,_,_,h.ldA,?_⟩|refine h.stA 0 λw h=>?_|refine h.stA 1 λw h=>?_|refine h.stA 2 λw h=>?_|refine h.stA 3 λw h=>?_|refine h.stA 4 λw h=>?_|refine h.stA 5 λw h=>?_|refine h.stA 6 λw h=>?_|refine h.bx λb0 w h=>?_)
         have h:Sat σ _ (t.at b0::t.at b::L):=h
         exact g _ h.tail
        ·rw[if_neg y] at g
         refine ae (by simpa using y) ?_
         exact g _ h.tail
     ·refine ae (by simpa using hi) ?_
      rw[lT1 (by omega),if_neg (by simp),if_neg (by simp)] at g
      by_cases y:min<=n
      ·rw[if_pos y] at g
       refine ag (by simpa using y) ?_
       repeat (first|refine aa ?_|refine h.tk λw h=>?_|refine⟨_,h.ldA,?_⟩|refine⟨_,_,_,h.ldA,?_⟩|refine h.stA 0 λw h=>?_|refine h.stA 1 λw h=>?_|refine h.stA 2 λw h=>?_|refine h.stA 3 λw h=>?_|refine h.stA 4 λw h=>?_|refine h.stA 5 λw h=>?_|refine h.stA 6 λw h=>?_|refine h.bx λb0 w h=>?_)
       have h:Sat σ _ (t.at b0::t.at b::L):=h
       exact g _ h.tail
      ·rw[if_neg y] at g
       refine ae (by simpa using y) ?_
       exact g _ h.tail
 exact a7 max 0 l _ (by omega) b5 h g

def Ln.trimC (c:UInt8)(l:Ln):Option Ln:=
 if 0<l.sp then (if c=32 then some {l with sp:=l.sp - 1} else none)
 else if l.text[l.i]? =some c then some {l with i:=l.i+1} else none
theorem Ln.trimC_ok {c:UInt8}{l y:Ln}(g:l.ok)(h:l.trimC c=some y):y.ok:=by
 simp only[Ln.trimC] at h
 have E:=g.i;have H:=g.tab;have O:=g.sp
 split at h
 ·split at h
  ·cases h;exact⟨E,H,g.len,by simp;omega⟩
  ·cases h
 ·split at h
  ·rename_i I
   have:=(lL0.1 I).1
   cases h;exact⟨by simp;omega,by simp;omega,g.len,g.sp⟩
  ·cases h
theorem trimC_ok {b:Nat}{l:Ln}{c:UInt8}{n:Int}(hc:(c.toNat:Int)=n)(h:Sat σ w (l.at b::L))(y:l.ok)(g:match l.trimC c with
  |some H=> ∀w,Sat σ w (H.at b::L)->R (hQ (hV true)) w
  |none=> ∀w,Sat σ w (l.at b::L)->R (hQ (hV false)) w):
 callE P fB #[kT (kE b),.int .u8 n] R w:=by
 subst hc
 refine gw.sound ?_
 simp only[Ln.trimC] at g
 have I:=y.i;have O:=y.tab;have V:=y.sp;have U:=y.len
 repeat (first|refine aa ?_|refine h.tk λw h=>?_|refine⟨_,h.ldA,?_⟩|refine⟨_,_,_,h.ldA,?_⟩)
 by_cases hs:0<l.sp
 ·rw[if_pos hs] at g
  refine ag (by simpa using hs) ?_
  by_cases hc:c=32
  ·rw[if_pos hc] at g
   refine ag (by rw[hc];rfl) ?_
   have hd:=gr (n:=l.sp) (by omega) hs
   repeat (first|refine aa ?_|refine h.tk λw h=>?_|refine⟨_,h.ldA,?_⟩|refine⟨_,_,_,h.ldA,?_⟩|refine h.stA 0 λw h=>?_|refine h.stA 1 λw h=>?_|refine h.stA 2 λw h=>?_|refine h.stA 3 λw h=>?_|refine h.stA 4 λw h=>?_|refine h.stA 5 λw h=>?_|refine h.stA 6 λw h=>?_|refine h.bx λb0 w h=>?_)
   rw[hd] at h
   exact g _ h
  ·rw[if_neg hc] at g
   refine ae ?_ (g _ h)
   have:=mA c 32
   rw[show ((32:UInt8).toNat:Int)=32 from rfl] at this
   rw[this]
   simpa using hc
 ·rw[if_neg hs] at g
  refine ae (by simpa using hs) ?_
  repeat (first|refine aa ?_|refine h.tk λw h=>?_|refine⟨_,h.ldA,?_⟩|refine⟨_,_,_,h.ldA,?_⟩)
  have E:i64.wrap ((l.i:Int)+1)=((l.i+1:Nat):Int):=aN (by omega)
  by_cases hi:l.i<l.text.length
  ·rw[lI0 hi] at g
   refine ag (by simpa using hi) ?_
   repeat (first|refine aa ?_|refine h.tk λw h=>?_|refine⟨_,h.ldA,?_⟩|refine⟨_,_,_,h.ldA,?_⟩)
   refine⟨by omega,by simpa using hi,?_⟩
   rw[de hi c _ rfl]
   by_cases hc:l.text[l.i]=c
   ·rw[if_pos (by rw[hc])] at g
    refine ag (by simpa using hc) ?_
    repeat (first|refine aa ?_|refine h.tk λw h=>?_|refine⟨_,h.ldA,?_⟩|refine⟨_,_,_,h.ldA,?_⟩|refine h.stA 0 λw h=>?_|refine h.stA 1 λw h=>?_|refine h.stA 2 λw h=>?_|refine h.stA 3 λw h=>?_|refine h.stA 4 λw h=>?_|refine h.stA 5 λw h=>?_|refine h.stA 6 λw h=>?_|refine h.bx λb0 w h=>?_)
    rw[E] at h
    exact g _ h
   ·rw[if_neg (by simpa using hc)] at g
    exact ae (by simpa using hc) (g _ h)
  ·rw[lT1 (by omega),if_neg (by simp)] at g
   exact ae (by simpa using hi) (ae rfl (g _ h))
def Ln.skip (l:Ln):Ln:= {l with sp:=0,i:=l.text.length - ((l.text.drop l.i).dropWhile cM).length}
theorem Ln.skip_ok {l:Ln}(g:l.ok):l.skip.ok:=by
 have E:=g.i;have H:=g.tab
 have y:=(lO2 cM (l:=l.text.drop l.i)).length_le
 rw[lN1] at y
 exact⟨by simp only[Ln.skip];omega,by simp only[Ln.skip];omega,g.len,by simp[Ln.skip]⟩
theorem qF {b:Nat}{l:Ln}(h:Sat σ w (l.at b::L))(a6:l.ok)(U: ∀w,Sat σ w (l.skip.at b::L)->R (hQ (.tuple #[])) w):
 callE P il #[kT (kE b)] R w:=by
 refine dG.sound ?_
 repeat (first|refine aa ?_|refine h.tk λw h=>?_|refine⟨_,h.ldA,?_⟩|refine⟨_,_,_,h.ldA,?_⟩|refine h.stA 0 λw h=>?_|refine h.stA 1 λw h=>?_|refine h.stA 2 λw h=>?_|refine h.stA 3 λw h=>?_|refine h.stA 4 λw h=>?_|refine h.stA 5 λw h=>?_|refine h.stA 6 λw h=>?_|refine h.bx λb0 w h=>?_)
 intro X V
 have a7:=a6.i;have b5:=a6.len
 refine Dd (l:=l.text) (p:=cM) (X:=λi=> ∀w,Sat σ w (Ln.at b {l with sp:=0,i:=i}::L)->X (kE b) w) (λi hi y W w h=>V _ _ ?_) l.i a7 (λi hi b4 b3 w h=>V _ _ ?_) _ h
 ·repeat (first|refine aa ?_|refine h.tk λw h=>?_|refine⟨_,h.ldA,?_⟩|refine⟨_,_,_,h.ldA,?_⟩)
  refine ag (by simpa using hi) ?_
  repeat (first|refine aa ?_|refine h.tk λw h=>?_|refine⟨_,h.ldA,?_⟩|refine⟨_,_,_,h.ldA,?_⟩)
  refine⟨by omega,by simpa using hi,?_⟩
  have O:i64.wrap ((i:Int)+1)=((i+1:Nat):Int):=aN (by omega)
  rw[de hi 32 32 rfl]
  by_cases hc:l.text[i]=32
  ·refine ag (by simpa using hc) ?_
   repeat (first|refine aa ?_|refine h.tk λw h=>?_|refine⟨_,h.ldA,?_⟩|refine⟨_,_,_,h.ldA,?_⟩|refine h.stA 0 λw h=>?_|refine h.stA 1 λw h=>?_|refine h.stA 2 λw h=>?_|refine h.stA 3 λw h=>?_|refine h.stA 4 λw h=>?_|refine h.stA 5 λw h=>?_|refine h.stA 6 λw h=>?_|refine h.bx λb0 w h=>?_)
   rw[O] at h
   exact W _ h
  ·refine ae (by simpa using hc) ?_
   repeat (first|refine aa ?_|refine h.tk λw h=>?_|refine⟨_,h.ldA,?_⟩|refine⟨_,_,_,h.ldA,?_⟩)
   refine⟨by omega,by simpa using hi,?_⟩
   rw[de hi 9 9 rfl]
   refine ag (by simpa[cM,hc] using y) ?_
   repeat (first|refine aa ?_|refine h.tk λw h=>?_|refine⟨_,h.ldA,?_⟩|refine⟨_,_,_,h.ldA,?_⟩|refine h.stA 0 λw h=>?_|refine h.stA 1 λw h=>?_|refine h.stA 2 λw h=>?_|refine h.stA 3 λw h=>?_|refine h.stA 4 λw h=>?_|refine h.stA 5 λw h=>?_|refine h.stA 6 λw h=>?_|refine h.bx λb0 w h=>?_)
   rw[O] at h
   exact W _ h
 ·have I:l.skip= {l with sp:=0,i:=i}:=by
   simp only[Ln.skip,<-b3,lN1]
   congr 1
   omega
  rw[<-I] at h
  have E:l.skip.i=i:=by rw[I]
  have H:l.skip.text=l.text:=rfl
  repeat (first|refine aa ?_|refine h.tk λw h=>?_|refine⟨_,h.ldA,?_⟩|refine⟨_,_,_,h.ldA,?_⟩)
  rw[E,H]
  by_cases g:i<l.text.length
  ·have y:=b4 g
   simp only[cM,lI2,beq_eq_false_iff_ne] at y
   refine ag (by simpa using g) ?_
   repeat (first|refine aa ?_|refine h.tk λw h=>?_|refine⟨_,h.ldA,?_⟩|refine⟨_,_,_,h.ldA,?_⟩)
   rw[E,H]
   refine⟨by omega,by simpa using g,?_⟩
   rw[de g 32 32 rfl]
   refine ae (by simpa using y.1) ?_
   repeat (first|refine aa ?_|refine h.tk λw h=>?_|refine⟨_,h.ldA,?_⟩|refine⟨_,_,_,h.ldA,?_⟩)
   rw[E,H]
   refine⟨by omega,by simpa using g,?_⟩
   rw[de g 9 9 rfl]
   exact ae (by simpa using y.2) (U _ h)
  ·exact ae (by simpa using g) (U _ h)
def Ln.str (l:Ln):List UInt8:=hN l.sp 32++l.text.drop l.i
theorem oY {b:Nat}{l:Ln}(h:Sat σ w L)(a7:l.at b∈L)(H:l.ok)(I: ∀w,Sat σ w L->R (hQ (hX (bs l.str))) w):
 callE P gK #[kT (kE b)] R w:=by
 refine mc.sound ?_
 have V:=H.i;have a6:=H.sp;have W:=H.len
 have E: ∀(k:Nat) (pre:ByteArray),l.sp=k->pre=bs (hN k 32)->(∀w,Sat σ w L->R (hQ (hX (pre++(bs l.text).extract l.i l.text.length))) w):=by
  intro k pre O U w h
  rw[U,nw,bL,<-O]
  exact I w h
 have y:i64.max=9223372036854775807:=rfl
 repeat (first|refine aa ?_|refine h.tk λw h=>?_|refine⟨_,h.ldA,?_⟩|refine⟨_,_,_,h.ldA,?_⟩)
 have g:l.sp=0\/l.sp=1\/l.sp=2\/l.sp=3:=by omega
 rcases g with g|g|g|g
 ·refine ag (by rw[g];rfl) ?_
  repeat (first|refine aa ?_|refine h.tk λw h=>?_|refine⟨_,h.ldA,?_⟩|refine⟨_,_,_,h.ldA,?_⟩)
  refine⟨by omega,by simp;omega,?_⟩
  rw[aJ,lC0,nw]
  have:=I _ h
  rw[Ln.str,g] at this
  exact this
 ·refine ae (by rw[g];rfl) (ag (by rw[g];rfl) ?_)
  repeat (first|refine aa ?_|refine h.tk λw h=>?_|refine⟨_,h.ldA,?_⟩|refine⟨_,_,_,h.ldA,?_⟩)
  refine⟨by omega,by simp;omega,?_,?_⟩
  ·rw[y,aJ,lC0,nw,aJ,lN1]
   show ((1+(l.text.length - l.i):Nat):Int)<=_
   omega
  ·rw[aJ,lC0];exact E 1 _ g rfl _ h
 ·refine ae (by rw[g];rfl) (ae (by rw[g];rfl) (ag (by rw[g];rfl) ?_))
  repeat (first|refine aa ?_|refine h.tk λw h=>?_|refine⟨_,h.ldA,?_⟩|refine⟨_,_,_,h.ldA,?_⟩)
  refine⟨by omega,by simp;omega,?_,?_⟩
  ·rw[y,aJ,lC0,nw,aJ,lN1]
   show ((2+(l.text.length - l.i):Nat):Int)<=_
   omega
  ·rw[aJ,lC0];exact E 2 _ g rfl _ h
 ·refine ae (by rw[g];rfl) (ae (by rw[g];rfl) (ae (by rw[g];rfl) (ag (by rw[g];rfl) ?_)))
  repeat (first|refine aa ?_|refine h.tk λw h=>?_|refine⟨_,h.ldA,?_⟩|refine⟨_,_,_,h.ldA,?_⟩)
  refine⟨by omega,by simp;omega,?_,?_⟩
  ·rw[y,aJ,lC0,nw,aJ,lN1]
   show ((3+(l.text.length - l.i):Nat):Int)<=_
   omega
  ·rw[aJ,lC0];exact E 3 _ g rfl _ h
theorem kD {b:Nat}{l:Ln}(h:Sat σ w L)(E:l.at b∈L)(g:l.ok)(y: ∀w,Sat σ w L->R (hQ (hX (bs ((l.text.drop l.i).dropWhile cM)))) w):
 callE P fZ #[kT (kE b)] R w:=by
 refine ga.sound ?_
 repeat (first|refine aa ?_|refine h.tk λw h=>?_|refine⟨_,h.ldA,?_⟩|refine⟨_,_,_,h.ldA,?_⟩)
 have:=g.i
 refine⟨by omega,by simp;omega,?_⟩
 rw[aJ,lC0,nw]
 exact j9 (by simp;have:=g.len;omega) ⟨_,rfl,y _ h⟩
theorem uq {b:Nat}{l:Ln}(h:Sat σ w L)(E:l.at b∈L)(g:l.ok)(y: ∀w,Sat σ w L->R (hQ (hX (bs (gj cM (l.text.drop l.i))))) w):
 callE P jk #[kT (kE b)] R w:=by
 refine jr.sound ?_
 repeat (first|refine aa ?_|refine h.tk λw h=>?_|refine⟨_,h.ldA,?_⟩|refine⟨_,_,_,h.ldA,?_⟩)
 have:=g.i
 refine⟨by omega,by simp;omega,?_⟩
 rw[aJ,lC0,nw]
 exact j8 (by simp;have:=g.len;omega) ⟨_,rfl,y _ h⟩

structure BT where
 l:List Int
 sc:Bool
 ok:l.length=80
def BT.cells (t:BT):List Value:=t.l.map (λn=>hY n)++ [hV t.sc]
def BT.z:BT:=⟨hN 80 0,false,rfl⟩
structure PS where
 pz:Option Addr
 root:Option Addr
 links:Option Nat
 lineno:Nat
 stq:Option Addr
 stn:Nat
 stc:Nat
 depth:Int
 corner:Bool
 s:List UInt8
 em:Int
 lq:Option Addr
 ln:Nat
 lc:Nat
 Lq:Option Addr
 Ln:Nat
 Lc:Nat
 tq:Option Addr
 tn:Nat
 tc:Nat
 bt:BT
def PS.cells (p:PS):List Value:=
 kT p.pz:: kT p.root:: .map p.links:: hY p.lineno:: hT p.stq p.stn p.stc:: hY p.depth:: hV p.corner:: hX (bs p.s):: hY p.em::
  hT p.lq p.ln p.lc:: hT p.Lq p.Ln p.Lc:: hT p.tq p.tn p.tc::p.bt.cells
abbrev PS.at (b:Nat)(p:PS):ai:=(b,cel p.cells gC)
structure OB where
 bd:Value
 q:Option Addr
 n:Nat
 c:Nat
 s:Nat
 e:Nat
def OB.cells (o:OB):List Value:= [o.bd,hT o.q o.n o.c,hY o.s,hY o.e]
def aP (l:List OB):List Value:=l.flatMap OB.cells
theorem aR: ∀l:List OB,(aP l).length=l.length*4
 | []=>rfl
 |o::l=>by simp only[aP,lJ3,lA0,lF0] at*;rw[show (List.flatMap OB.cells l).length=l.length*4 from aR l];simp[OB.cells];omega
theorem rX {f:Nat}(g:f<4): ∀(l:List OB) (j:Nat) (o:OB),l[j]? =some o->(aP l)[j*4+f]? =o.cells[f]?
 | [],j,o,h=>by simp at h
 |o'::l,0,o,h=>by
  simp only[lS5,lG1] at h
  subst h
  simp only[aP,lJ3,lO6,lN0]
  rw[lM0 (by simp[OB.cells];omega)]
 |o'::l,j+1,o,h=>by
  simp only[lY2] at h
  simp only[aP,lJ3]
  rw[lH0 (by simp[OB.cells];omega)]
  have:=rX g l j o h
  rw[<-this]
  congr 1
  simp[OB.cells]
  omega
def Stk (p:PS)(l:List OB)(M:List ai):Prop:=Sl 4 ay p.stq p.stn p.stc (aP l) M/\p.stn=l.length/\l.length<1048576
theorem Stk.split {p:PS}{l:List OB}{M:List ai}(h:Stk p l M)(I:l≠ []): ∃b sp,p.stq=kE b/\M= [(b,cel (aP l++sp) ay)]/\(aP l++sp).length=p.stc*4:=by
 obtain⟨⟨_,_,h|⟨b,sp,y,E,H⟩⟩,g,_⟩:=h
 ·obtain⟨_,h,_⟩:=h
  rw[h] at g
  exact absurd (lB1 g.symm) I
 ·exact⟨b,sp,y,E,H⟩
theorem Stk.mk' {p:PS}{l:List OB}{b:Nat}{sp:List Value}(E:p.stq=kE b)(g:(aP l++sp).length=p.stc*4)(y:p.stn=l.length)(H:l.length<1048576):
 Stk p l [(b,cel (aP l++sp) ay)]:=by
 refine⟨⟨by rw[aR,y],?_,.inr ⟨b,sp,E,rfl,g⟩⟩,y,H⟩
 rw[lA0,aR] at g
 omega
theorem fg {l:List OB}{sp:List Value}{j f:Nat}{o:OB}(y:f<4)(g:l[j]? =some o):(aP l++sp)[j*4+f]? =o.cells[f]? :=by
 have E:=(lL0.1 g).1
 rw[lM0 (by rw[aR];omega),rX y l j o g]
theorem ik {l:List OB}(o:OB):(l++ [o])[l.length]? =some o:=by simp
theorem ki {n:Nat}(h:n<1048576):i64.wrap (((n+1:Nat):Int) - 1)=(n:Int):=by
 rw[i64_in _ (by omega)];omega
theorem nx {b:Nat}{p:PS}{l:List OB}{o:OB}{M:List ai}(h:Sat σ w (p.at b::M++L))(hs:Stk p (l++ [o]) M)(H: ∀w,Sat σ w (p.at b::M++L)->R (hQ (hT o.q o.n o.c)) w):callE P iz #[kT (kE b)] R w:=by
 obtain⟨sb,sp,E,rfl,I⟩:=hs.split (by simp)
 have g:=hs.2.1
 have y:=hs.2.2
 rw[lA0,lE0] at g y
 refine iL.sound ?_
 repeat (first|refine aa ?_|refine h.tk λw h=>?_|refine⟨_,h.ldA,?_⟩|refine⟨_,_,_,h.ldA,?_⟩)
 rw[g,ki (by omega)]
 refine⟨by omega,by omega,?_⟩
 rw[E]
 refine aa ?_
 simp only[lK0,lN0,lC0]
 exact⟨_,_,_,Sat.ld h (by first|assumption|(repeat (first|exact .head _|apply List.Mem.tail))) (fg (f:=1) (by decide) (ik o)),H _ h⟩
theorem og {b:Nat}{p:PS}{d:Int}(h:Sat σ w (p.at b::L))(hd:(p.stn:Int)=d)(y: ∀w,Sat σ w (p.at b::L)->R (hQ (.tuple #[])) w):
 callE P bj #[kT (kE b),hY d] R w:=by
 refine aG.sound ?_
 repeat (first|refine aa ?_|refine h.tk λw h=>?_|refine⟨_,h.ldA,?_⟩|refine⟨_,_,_,h.ldA,?_⟩)
 refine ae (by simp;omega) ?_
 intro X g
 refine g _ _ _ ?_
 repeat (first|refine aa ?_|refine h.tk λw h=>?_|refine⟨_,h.ldA,?_⟩|refine⟨_,_,_,h.ldA,?_⟩)
 exact ae (by simp;omega) (y _ h)
noncomputable def rowOB:Row P fP ay 4 56:=
 ⟨(P.info? ay).getD default,((P.info? ay).bind (·.zero)).getD default,by kernel_rfl,by kernel_rfl,by kernel_rfl,by kernel_rfl,by kernel_rfl,by kernel_rfl,by decide⟩
theorem iQ (l:List OB)(o:OB):aP (l++ [o])=aP l++o.cells:=by simp[aP]
theorem kW {l:List OB}{sp:List Value}{o o':OB}{f:Nat}{v:Value}(y:f<4)(g:o.cells.set f v=o'.cells):
 (aP (l++ [o])++sp).set (l.length*4+f) v=aP (l++ [o'])++sp:=by
 rw[iQ,iQ,lD0,lD0,lO1 _ _ (by rw[aR];omega),aR,
  show l.length*4+f - l.length*4=f by omega,lV4 _ _ (by simp[OB.cells];omega),g]
theorem ol {t xt:TypeId}{v:Value}(y: ∀g,P.underlying t≠some (.interface g)){d:TypeDesc}(hd:P.underlying t=some d)(w:World):
 (Instr.typeAssert (.iface t v) xt t true).run P w= .ok (.tuple #[v,hV true]) w:=by
 cases d<;>first|(exact absurd hd (y _))|simp[Instr.typeAssert,run_underlying hd]
theorem uv {t a xt:TypeId}{v:Value}(E: ∀y,P.underlying a≠some (.interface y)){d:TypeDesc}(hd:P.underlying a=some d)(g:t≠a){i:TypeInfo}{z:Value}(hi:P.info? a=some i)(hz:i.zero=some z)(w:World):
 (Instr.typeAssert (.iface t v) xt a true).run P w= .ok (.tuple #[z,hV false]) w:=by
 cases d<;>first|(exact absurd hd (E _))|simp[Instr.typeAssert,run_underlying hd,g,zeroValue,typeInfo,hi,hz]

theorem oQ {b:Nat}{p:PS}{l:List OB}{M:List ai}{t:TypeId}{v:Value}(h:Sat σ w (p.at b::M++L))(hs:Stk p l M)(hd:p.depth+1=l.length)(b3:l.length<1048575)(W: ∀w p' g,p'= {p with stq:=p'.stq,stn:=l.length+1,stc:=p'.stc}->Stk p' (l++ [⟨.iface t v,none,0,0,p.lineno,p.lineno⟩]) g->Sat σ w (p'.at b::g++L)->R (hQ (.tuple #[])) w):
 callE P bR #[kT (kE b),.iface t v] R w:=by
 have I:=hs.2.1
 refine eL.sound ?_
 repeat (first|refine aa ?_|refine h.tk λw h=>?_|refine⟨_,h.ldA,?_⟩|refine⟨_,_,_,h.ldA,?_⟩)
 rw[show i64.wrap (p.depth+1)=p.depth+1 by rw[hd];exact i64_in _ (by omega)]
 refine og h (by rw[hd,I]) λw h=>⟨rfl,?_⟩
 repeat (first|refine aa ?_|refine h.tk λw h=>?_|refine⟨_,h.ldA,?_⟩|refine⟨_,_,_,h.ldA,?_⟩)
 have h:Sat σ w (M++(p.at b::L)):=h.re
 refine Sat.app1 rowOB hs.1 h (v:= .agg #[.nilIface,hT none 0 0,hY 0,hY 0]) rfl (by decide) (by kernel_rfl) (by omega) (by omega) (by decide) λa6 V w g E h=>?_
 have h:Sat σ w (p.at b::g++L):=h.re
 let p':PS:= {p with stq:=a6,stn:=l.length+1,stc:=V}
 rw[I] at E⊢
 (first|refine aa ?_|refine h.tk λw h=>?_|refine⟨_,h.ldA,?_⟩|refine⟨_,_,_,h.ldA,?_⟩|refine h.stA 0 λw h=>?_|refine h.stA 1 λw h=>?_|refine h.stA 2 λw h=>?_|refine h.stA 3 λw h=>?_|refine h.stA 4 λw h=>?_|refine h.stA 5 λw h=>?_|refine h.stA 6 λw h=>?_|refine h.bx λb0 w h=>?_)
 (first|refine aa ?_|refine h.tk λw h=>?_|refine⟨_,h.ldA,?_⟩|refine⟨_,_,_,h.ldA,?_⟩|refine h.stA 0 λw h=>?_|refine h.stA 1 λw h=>?_|refine h.stA 2 λw h=>?_|refine h.stA 3 λw h=>?_|refine h.stA 4 λw h=>?_|refine h.stA 5 λw h=>?_|refine h.stA 6 λw h=>?_|refine h.bx λb0 w h=>?_)
 have h:Sat σ w (p'.at b::g++L):=h
 have O:Stk p' (l++ [⟨.nilIface,none,0,0,0,0⟩]) g:=by
  refine⟨?_,by simp[p'],by simp;omega⟩
  rw[iQ]
  exact E
 obtain⟨sb,sp,H,rfl,U⟩:=O.split (by simp)
 repeat (first|refine aa ?_|refine h.tk λw h=>?_|refine⟨_,h.ldA,?_⟩|refine⟨_,_,_,h.ldA,?_⟩)
 rw[show p'.stn=l.length+1 from rfl,ki (by omega)]
 refine⟨by omega,by omega,?_⟩
 rw[H]
 refine aa ?_
 dsimp only[Cy]
 simp only[lK0,lN0,lC0,lL1]
 have y: ∀(o:OB) (sp:List Value) f,f<4->l.length*4+f<(aP (l++ [o])++sp).length:=by
  intro o sp f a7
  rw[lA0,aR,lA0,lE0];omega
 refine Sat.st h (k:=1) rfl (by have:=y ⟨.nilIface,none,0,0,0,0⟩ sp 0 (by decide);simpa using this) trivial rfl λw h=>?_
 have h:Sat σ w (p'.at b:: [(sb,cel (aP (l++ [⟨.iface t v,none,0,0,0,0⟩])++sp) ay)]++L):=by
  have e:=kW (l:=l) (sp:=sp) (o:=⟨.nilIface,none,0,0,0,0⟩) (o':=⟨.iface t v,none,0,0,0,0⟩) (f:=0) (v:= .iface t v) (by decide) rfl
  rw[lL1] at e
  rw[e] at h
  exact h
 repeat (first|refine aa ?_|refine h.tk λw h=>?_|refine⟨_,h.ldA,?_⟩|refine⟨_,_,_,h.ldA,?_⟩)
 refine Sat.st h (k:=1) rfl (y _ sp 2 (by decide)) trivial rfl λw h=>?_
 have h:Sat σ w (p'.at b:: [(sb,cel (aP (l++ [⟨.iface t v,none,0,0,p.lineno,0⟩])++sp) ay)]++L):=by
  have e:=kW (l:=l) (sp:=sp) (o:=⟨.iface t v,none,0,0,0,0⟩) (o':=⟨.iface t v,none,0,0,p.lineno,0⟩) (f:=2) (v:= hY p.lineno) (by decide) rfl
  have h:=h
  rw[e] at h
  exact h
 repeat (first|refine aa ?_|refine h.tk λw h=>?_|refine⟨_,h.ldA,?_⟩|refine⟨_,_,_,h.ldA,?_⟩)
 refine Sat.st h (k:=1) rfl (y _ sp 3 (by decide)) trivial rfl λw h=>?_
 have h:Sat σ w (p'.at b:: [(sb,cel (aP (l++ [⟨.iface t v,none,0,0,p.lineno,p.lineno⟩])++sp) ay)]++L):=by
  have e:=kW (l:=l) (sp:=sp) (o:=⟨.iface t v,none,0,0,p.lineno,0⟩) (o':=⟨.iface t v,none,0,0,p.lineno,p.lineno⟩) (f:=3) (v:= hY p.lineno) (by decide) rfl
  have h:=h
  rw[e] at h
  exact h
 refine W _ p' _ rfl ?_ h
 refine Stk.mk' H ?_ (by simp[p']) (by simp;omega)
 rw[<-U,lA0,lA0,aR,aR,lA0,lA0]
 rfl

theorem Ln.tsGo_ok {min:Nat}{eol:Bool}: ∀(k n:Nat) {l g:Ln},l.ok->l.tsGo min eol k n=some g->g.ok/\g.text=l.text/\g.nl=l.nl
 |0,n,l,g,hl,h=>by simp only[Ln.tsGo,lG1] at h;subst h;exact⟨hl,rfl,rfl⟩
 |k+1,n,l,g,hl,h=>by
  have E:=hl.i;have H:=hl.tab;have I:=hl.sp
  simp only[Ln.tsGo] at h
  split at h
  ·exact tsGo_ok k _ (l:= {l with sp:=l.sp - 1}) ⟨E,H,hl.len,by simp;omega⟩ h
  ·split at h
   ·exact tsGo_ok k _ hl h
   ·split at h
    ·rename_i y
     have:=(lL0.1 y).1
     exact tsGo_ok k _ (l:= {l with sp:=3 - (l.i - l.tab)%4,i:=l.i+1,tab:=l.i+1}) ⟨by simp;omega,by simp,hl.len,by simp⟩ h
    ·split at h
     ·rename_i y
      have:=(lL0.1 y).1
      exact tsGo_ok k _ (l:= {l with i:=l.i+1}) ⟨by simp;omega,by simp;omega,hl.len,I⟩ h
     ·split at h
      ·cases h;exact⟨hl,rfl,rfl⟩
      ·cases h
theorem Ln.tsGo_some {eol:Bool}: ∀(k n:Nat) (l:Ln),∃g,l.tsGo 0 eol k n=some g
 |0,n,l=>⟨l,rfl⟩
 |k+1,n,l=>by
  simp only[Ln.tsGo]
  split
  ·exact tsGo_some k _ _
  ·split
   ·exact tsGo_some k _ _
   ·split
    ·exact tsGo_some k _ _
    ·split
     ·exact tsGo_some k _ _
     ·exact⟨l,by simp⟩
theorem Ln.trimSp_ok {min max:Nat}{eol:Bool}{l g:Ln}(y:l.ok)(h:l.trimSp min max eol=some g):g.ok:=(Ln.tsGo_ok max 0 y h).1
def Ln.lead (m:Nat)(eol:Bool)(l:Ln):Ln:=(l.trimSp 0 m eol).getD l
theorem Ln.lead_eq (m:Nat)(eol:Bool)(l:Ln):l.trimSp 0 m eol=some (l.lead m eol):=by
 obtain⟨g,h⟩:=Ln.tsGo_some (eol:=eol) m 0 l
 rw[Ln.lead,Ln.trimSp,h];rfl
theorem Ln.lead_ok {m:Nat}{eol:Bool}{l:Ln}(g:l.ok):(l.lead m eol).ok:=Ln.trimSp_ok g (l.lead_eq m eol)
theorem lead_ok {b:Nat}{l:Ln}{max:Nat}{eol:Bool}(h:Sat σ w (l.at b::L))(E:l.ok)(g:max<4611686018427387904)(y: ∀w,Sat σ w ((l.lead max eol).at b::L)->R (hQ (hV true)) w):
 callE P bl #[kT (kE b),hY 0,hY max,hV eol] R w:=by
 refine YtendaipfdnhnaaaGreatDoor.trimSp_ok (min:=0) h E (by omega) g ?_
 rw[Ln.lead_eq]
 exact y
abbrev Ln.val (l:Ln):Value:= .agg #[hY l.sp,hY l.i,hY l.tab,hX (bs l.text),.int .u8 l.nl.toNat]
def Ln.quote (l:Ln):Option Ln:=((l.lead 3 false).trimC 62).map λt=>t.lead 1 true
theorem mJ {l:Ln}(h:Sat σ w L)(E:l.ok)(g:match l.quote with
  |some I=> ∀w,Sat σ w L->R (hQ (.tuple #[I.val,hV true])) w
  |none=> ∀w,Sat σ w L->R (hQ (.tuple #[l.val,hV false])) w):callE P l6 #[l.val] R w:=by
 refine oL.sound ?_
 refine Sat.bx h λb1 w h=>?_
 refine Sat.bx h λH w h=>?_
 repeat (first|refine aa ?_|refine h.tk λw h=>?_|refine⟨_,h.ldA,?_⟩|refine⟨_,_,_,h.ldA,?_⟩|refine h.stA 0 λw h=>?_|refine h.stA 1 λw h=>?_|refine h.stA 2 λw h=>?_|refine h.stA 3 λw h=>?_|refine h.stA 4 λw h=>?_|refine h.stA 5 λw h=>?_|refine h.stA 6 λw h=>?_|refine h.bx λb0 w h=>?_)
 have h:Sat σ _ (l.at b0::(H,cel [hY 0,hY 0,hY 0,hX (bs []),.int .u8 0] aW)::l.at b1::L):=h
 refine lead_ok (max:=3) h E (by decide) λw h=>⟨_,rfl,?_⟩
 refine trimC_ok (c:=62) rfl h (Ln.lead_ok E) ?_
 simp only[Ln.quote] at g
 cases y:(l.lead 3 false).trimC 62 with
 |none=>
  rw[y] at g
  intro w h
  refine⟨_,rfl,ag rfl ?_⟩
  repeat (first|refine aa ?_|refine h.tk λw h=>?_|refine⟨_,h.ldA,?_⟩|refine⟨_,_,_,h.ldA,?_⟩|refine h.stA 0 λw h=>?_|refine h.stA 1 λw h=>?_|refine h.stA 2 λw h=>?_|refine h.stA 3 λw h=>?_|refine h.stA 4 λw h=>?_|refine h.stA 5 λw h=>?_|refine h.stA 6 λw h=>?_|refine h.bx λb0 w h=>?_)
  exact g _ h.tail.tail.tail
 |some t=>
  rw[y] at g
  intro w h
  refine⟨_,rfl,ae rfl ?_⟩
  refine lead_ok (max:=1) h (Ln.trimC_ok (Ln.lead_ok E) y) (by decide) λw h=>⟨_,rfl,?_⟩
  repeat (first|refine aa ?_|refine h.tk λw h=>?_|refine⟨_,h.ldA,?_⟩|refine⟨_,_,_,h.ldA,?_⟩|refine h.stA 0 λw h=>?_|refine h.stA 1 λw h=>?_|refine h.stA 2 λw h=>?_|refine h.stA 3 λw h=>?_|refine h.stA 4 λw h=>?_|refine h.stA 5 λw h=>?_|refine h.stA 6 λw h=>?_|refine h.bx λb0 w h=>?_)
  exact g _ h.tail.tail.tail

theorem u8b (c d:UInt8)(n:Int)(hd:(d.toNat:Int)=n):(((c.toNat:Nat):Int)==n)=(c==d):=by subst hd;exact mA c d
def Ln.hrGo (c:UInt8):Nat->Nat->Ln->Bool
 |0,_,_=>false
 |f+1,n,l=>match l.trimC c with
  |none=>decide (3<=n) && decide (l.text.length<=l.i)
  |some g=>g.skip.hrGo c f (n+1)
def Ln.isHR (l:Ln):Bool:=
 let t:=l.lead 3 false
 if t.peek=45\/t.peek=95\/t.peek=42 then t.hrGo t.peek (t.text.length+1) 0 else false
theorem Ln.skip_ge {l:Ln}(y:l.ok):l.i<=l.skip.i:=by
 have E:=y.i
 have g:=(lO2 cM (l:=l.text.drop l.i)).length_le
 rw[lN1] at g
 simp only[Ln.skip];omega
theorem BZ {l:Ln}(h:Sat σ w L)(V:l.ok)(y: ∀w,Sat σ w L->R (hQ (hV l.isHR)) w):callE P B7 #[l.val] R w:=by
 refine mo.sound ?_
 refine Sat.bx h λb1 w h=>?_
 repeat (first|refine aa ?_|refine h.tk λw h=>?_|refine⟨_,h.ldA,?_⟩|refine⟨_,_,_,h.ldA,?_⟩|refine h.stA 0 λw h=>?_|refine h.stA 1 λw h=>?_|refine h.stA 2 λw h=>?_|refine h.stA 3 λw h=>?_|refine h.stA 4 λw h=>?_|refine h.stA 5 λw h=>?_|refine h.stA 6 λw h=>?_|refine h.bx λb0 w h=>?_)
 have h:Sat σ _ (l.at b0::l.at b1::L):=h
 refine lead_ok (max:=3) h V (by decide) λw h=>⟨_,rfl,?_⟩
 have ht:=Ln.lead_ok (m:=3) (eol:=false) V
 refine lU h (by first|assumption|(repeat (first|exact .head _|apply List.Mem.tail))) ht λw h=>⟨_,rfl,?_⟩
 generalize b4:l.lead 3 false=t at*
 have hi:l.isHR=if t.peek=45\/t.peek=95\/t.peek=42 then t.hrGo t.peek (t.text.length+1) 0 else false:=by simp only[Ln.isHR,b4]
 have a6: ∀(c:UInt8),c≠32-> ∀f n (t:Ln) w,t.ok->t.text.length - t.i<f->n<=t.i->Sat σ w (t.at b0::l.at b1::L)->(∀w,Sat σ w L->R (hQ (hV (t.hrGo c f n))) w)->
  mo.l1 R b0 c.toNat n w:=by
  intro c hc f n t w ht b7 c1 h y X b3
  induction f generalizing n t w with
  |zero=>omega
  |succ f b5=>
   refine b3 _ _ _ _ ?_
   refine trimC_ok (c:=c) rfl h ht ?_
   simp only[Ln.hrGo] at y
   have b8:=ht.i;have b9:=ht.len
   cases E:t.trimC c with
   |none=>
    rw[E] at y
    intro w h
    refine⟨_,rfl,ag rfl ?_⟩
    refine bM (λI=>?_) (λI=>?_)
    ·refine EH h (by first|assumption|(repeat (first|exact .head _|apply List.Mem.tail))) λw h=>⟨_,rfl,?_⟩
     have:=y _ h.tail.tail
     rw[show decide (3<=n)=true by simp at I⊢;omega,lP5] at this
     exact this
    ·have:=y _ h.tail.tail
     rw[show decide (3<=n)=false by simp at I⊢;omega,Bool.false_and] at this
     exact this
   |some t'=>
    rw[E] at y
    intro w h
    refine⟨_,rfl,ae rfl ?_⟩
    have H:=Ln.trimC_ok ht E
    refine qF h H λw h=>⟨rfl,?_⟩
    have hd:t'.i=t.i+1/\t'.text=t.text:=by
     simp only[Ln.trimC,hc,if_false] at E
     split at E
     ·cases E
     ·split at E
      ·cases E;exact⟨rfl,rfl⟩
      ·cases E
    have b6:=Ln.skip_ge H
    have a7:t'.skip.text=t.text:=hd.2
    rw[aN (by omega)]
    have W:=H.i
    rw[hd.2] at W
    exact b5 (n+1) t'.skip _ (Ln.skip_ok H) (by rw[a7];omega) (by omega) h y
 have fin:(t.peek=45\/t.peek=95\/t.peek=42)->Sat σ w (t.at b0::l.at b1::L)->mo.k1 R b0 t.peek.toNat true w:=by
  intro g h
  rw[if_pos g] at hi
  refine ag rfl ?_
  refine a6 t.peek (by rcases g with g|g|g<;>rw[g]<;>decide) (t.text.length+1) 0 t w ht (by omega) (by omega) h (by rw[<-hi];exact y)
 rw[u8b _ 45 45 rfl,u8b _ 95 95 rfl,u8b _ 42 42 rfl]
 refine bM (λg=>fin (.inl (by simpa using g)) h) (λU=>bM (λg=>fin (.inr (.inl (by simpa using g))) h) (λO=>?_))
 by_cases g:t.peek=42
 ·rw[show (t.peek==42)=true by simpa using g]
  exact fin (.inr (.inr g)) h
 ·rw[show (t.peek==42)=false by simpa using g]
  have:=y _ h.tail.tail
  rw[hi,if_neg (by simp at U O;simp[U,O,g])] at this
  exact ae rfl this

theorem iu {x:Value}{q:Option Addr}{l:Ln}(h:Sat σ w L)(E:l.ok)(g:l.quote=none)(y: ∀w,Sat σ w L->R (hQ (.tuple #[l.val,hV false])) w):callE P j5 #[kT q,l.val] R w:=by
 refine nO.sound ?_
 refine Sat.bx h λb1 w h=>?_
 refine Sat.bx h λI w h=>?_
 repeat (first|refine aa ?_|refine h.tk λw h=>?_|refine⟨_,h.ldA,?_⟩|refine⟨_,_,_,h.ldA,?_⟩)
 refine mJ (l:=l) h E ?_
 rw[g]
 intro w h
 refine⟨_,_,_,_,_,_,rfl,?_⟩
 refine Sat.bx h λH w h=>?_
 repeat (first|refine aa ?_|refine h.tk λw h=>?_|refine⟨_,h.ldA,?_⟩|refine⟨_,_,_,h.ldA,?_⟩|refine h.stA 0 λw h=>?_|refine h.stA 1 λw h=>?_|refine h.stA 2 λw h=>?_|refine h.stA 3 λw h=>?_|refine h.stA 4 λw h=>?_|refine h.stA 5 λw h=>?_|refine h.stA 6 λw h=>?_|refine h.bx λb0 w h=>?_)
 exact y _ h.tail.tail.tail
theorem rA {q:Option Addr}{l:Ln}(h:Sat σ w L)(E:l.ok)(g:l.isHR=false)(y: ∀w,Sat σ w L->R (hQ (.tuple #[l.val,hV false])) w):callE P qi #[kT q,l.val] R w:=by
 refine uZ.sound ?_
 refine Sat.bx h λb1 w h=>?_
 refine Sat.bx h λH w h=>?_
 repeat (first|refine aa ?_|refine h.tk λw h=>?_|refine⟨_,h.ldA,?_⟩|refine⟨_,_,_,h.ldA,?_⟩)
 refine BZ (l:=l) h E λw h=>⟨_,rfl,?_⟩
 rw[g]
 repeat (first|refine aa ?_|refine h.tk λw h=>?_|refine⟨_,h.ldA,?_⟩|refine⟨_,_,_,h.ldA,?_⟩|refine h.stA 0 λw h=>?_|refine h.stA 1 λw h=>?_|refine h.stA 2 λw h=>?_|refine h.stA 3 λw h=>?_|refine h.stA 4 λw h=>?_|refine h.stA 5 λw h=>?_|refine h.stA 6 λw h=>?_|refine h.bx λb0 w h=>?_)
 exact y _ h.tail.tail
def Ln.hashes:Nat->Nat->Ln->Nat × Ln
 |0,n,l=>(n,l)
 |k+1,n,l=>match l.trimC 35 with
  |none=>(n,l)
  |some g=>g.hashes k (n+1)
def Ln.heading (l:Ln):Option (Nat × Ln):=
 match (l.lead 3 false).trimC 35 with
 |none=>none
 |some t=>((t.hashes 5 1).2.trimSp 1 1 true).map λt'=>((t.hashes 5 1).1,t')
theorem oh {b nb:Nat}{l:Ln}{v:Int}{e:TypeId}(h:Sat σ w (l.at b::(nb,cel [hY v] e)::L))(O:l.ok)(g:match l.heading with
  |some (n,E)=> ∀w,Sat σ w (E.at b::(nb,cel [hY n] e)::L)->R (hQ (hV true)) w
  |none=> ∀w,Sat σ w (l.at b::(nb,cel [hY v] e)::L)->R (hQ (hV false)) w):
 callE P iY #[kT (kE b),kT (kE nb)] R w:=by
 refine cu.sound ?_
 repeat (first|refine aa ?_|refine h.tk λw h=>?_|refine⟨_,h.ldA,?_⟩|refine⟨_,_,_,h.ldA,?_⟩|refine h.stA 0 λw h=>?_|refine h.stA 1 λw h=>?_|refine h.stA 2 λw h=>?_|refine h.stA 3 λw h=>?_|refine h.stA 4 λw h=>?_|refine h.stA 5 λw h=>?_|refine h.stA 6 λw h=>?_|refine h.bx λb0 w h=>?_)
 have h:Sat σ _ (l.at b0::l.at b::(nb,cel [hY v] e)::L):=h
 refine lead_ok (max:=3) h O (by decide) λw h=>⟨_,rfl,?_⟩
 have ht:=Ln.lead_ok (m:=3) (eol:=false) O
 refine trimC_ok (c:=35) rfl h ht ?_
 simp only[Ln.heading] at g
 cases y:(l.lead 3 false).trimC 35 with
 |none=>
  rw[y] at g
  exact λw h=>⟨_,rfl,ag rfl (g _ h.tail)⟩
 |some t=>
  rw[y] at g
  intro w h
  refine⟨_,rfl,ae rfl ?_⟩
  have ht:=Ln.trimC_ok ht y
  have fin: ∀(n:Nat) (t':Ln) w,t'.ok->Sat σ w (t'.at b0::l.at b::(nb,cel [hY v] e)::L)->
   (match (t'.trimSp 1 1 true).map λt'=>(n,t') with
   |some (n,E)=> ∀w,Sat σ w (E.at b::(nb,cel [hY n] e)::L)->R (hQ (hV true)) w
   |none=> ∀w,Sat σ w (l.at b::(nb,cel [hY v] e)::L)->R (hQ (hV false)) w)->
   cu.k1 R (kE b) (kE nb) b0 n w:=by
   intro n t' w V h g
   refine YtendaipfdnhnaaaGreatDoor.trimSp_ok (min:=1) (max:=1) h V (by decide) (by decide) ?_
   cases hs:t'.trimSp 1 1 true with
   |none=>
    rw[hs] at g
    exact λw h=>⟨_,rfl,ag rfl (g _ h.tail)⟩
   |some I=>
    rw[hs] at g
    intro w h
    refine⟨_,rfl,ae rfl ?_⟩
    repeat (first|refine aa ?_|refine h.tk λw h=>?_|refine⟨_,h.ldA,?_⟩|refine⟨_,_,_,h.ldA,?_⟩|refine h.stA 0 λw h=>?_|refine h.stA 1 λw h=>?_|refine h.stA 2 λw h=>?_|refine h.stA 3 λw h=>?_|refine h.stA 4 λw h=>?_|refine h.stA 5 λw h=>?_|refine h.stA 6 λw h=>?_|refine h.bx λb0 w h=>?_)
    have h:Sat σ _ (I.at b0::I.at b::(nb,cel [hY n] e)::L):=h
    exact g _ h.tail
  have U: ∀k n (t:Ln) w,t.ok->k+n=6->Sat σ w (t.at b0::l.at b::(nb,cel [hY v] e)::L)->
   (match ((t.hashes k n).2.trimSp 1 1 true).map λt'=>((t.hashes k n).1,t') with
   |some (n,E)=> ∀w,Sat σ w (E.at b::(nb,cel [hY n] e)::L)->R (hQ (hV true)) w
   |none=> ∀w,Sat σ w (l.at b::(nb,cel [hY v] e)::L)->R (hQ (hV false)) w)->
   cu.l1 R (kE b) (kE nb) b0 n w:=by
   intro k n t w ht a6 h g X H
   induction k generalizing n t w with
   |zero=>exact H _ _ _ _ _ (ae (by simp;omega) (fin n t w ht h g))
   |succ k W=>
    refine H _ _ _ _ _ (ag (by simp;omega) ?_)
    refine trimC_ok (c:=35) rfl h ht ?_
    simp only[Ln.hashes] at g
    cases y:t.trimC 35 with
    |none=>
     rw[y] at g
     exact λw h=>⟨_,rfl,ae rfl (fin n t w ht h g)⟩
    |some t'=>
     rw[y] at g
     intro w h
     refine⟨_,rfl,ag rfl ?_⟩
     rw[aN (by omega)]
     exact W (n+1) t' w (Ln.trimC_ok ht y) (by omega) h g
  exact U 5 1 t w ht rfl h g
theorem ly {q:Option Addr}{l:Ln}(h:Sat σ w L)(I:l.ok)(g:l.heading=none)(H: ∀w,Sat σ w L->R (hQ (.tuple #[l.val,hV false])) w):callE P fj #[kT q,l.val] R w:=by
 refine cH.sound ?_
 refine Sat.bx h λb1 w h=>?_
 refine Sat.bx h λE w h=>?_
 repeat (first|refine aa ?_|refine h.tk λw h=>?_|refine⟨_,h.ldA,?_⟩|refine⟨_,_,_,h.ldA,?_⟩)
 refine Sat.bx h λy w h=>?_
 repeat (first|refine aa ?_|refine h.tk λw h=>?_|refine⟨_,h.ldA,?_⟩|refine⟨_,_,_,h.ldA,?_⟩|refine h.stA 0 λw h=>?_|refine h.stA 1 λw h=>?_|refine h.stA 2 λw h=>?_|refine h.stA 3 λw h=>?_|refine h.stA 4 λw h=>?_|refine h.stA 5 λw h=>?_|refine h.stA 6 λw h=>?_|refine h.bx λb0 w h=>?_)
 have h:Sat σ _ ((b0,cel [hY 0] bg)::l.at y::(E,cel [hY 0,hY 0,hY 0,hX (bs []),.int .u8 0] aW)::l.at b1::L):=h
 refine oh h.up1 I ?_
 rw[g]
 intro w h
 refine⟨_,rfl,ae rfl ?_⟩
 repeat (first|refine aa ?_|refine h.tk λw h=>?_|refine⟨_,h.ldA,?_⟩|refine⟨_,_,_,h.ldA,?_⟩|refine h.stA 0 λw h=>?_|refine h.stA 1 λw h=>?_|refine h.stA 2 λw h=>?_|refine h.stA 3 λw h=>?_|refine h.stA 4 λw h=>?_|refine h.stA 5 λw h=>?_|refine h.stA 6 λw h=>?_|refine h.bx λb0 w h=>?_)
 exact H _ h.tail.tail.tail.tail

theorem vK {b:Nat}{q:Option Addr}{l:Ln}(h:Sat σ w (l.at b::L))(g:l.ok)(E:(l.lead 3 false).peek≠60)(y: ∀w,Sat σ w (l.at b::L)->R (hQ (hV false)) w):callE P fX #[kT q,kT (kE b)] R w:=by
 refine f8.sound ?_
 repeat (first|refine aa ?_|refine h.tk λw h=>?_|refine⟨_,h.ldA,?_⟩|refine⟨_,_,_,h.ldA,?_⟩|refine h.stA 0 λw h=>?_|refine h.stA 1 λw h=>?_|refine h.stA 2 λw h=>?_|refine h.stA 3 λw h=>?_|refine h.stA 4 λw h=>?_|refine h.stA 5 λw h=>?_|refine h.stA 6 λw h=>?_|refine h.bx λb0 w h=>?_)
 have h:Sat σ _ (l.at b0::l.at b::L):=h
 refine lead_ok (max:=3) h g (by decide) λw h=>⟨_,rfl,?_⟩
 refine lU h (by first|assumption|(repeat (first|exact .head _|apply List.Mem.tail))) (Ln.lead_ok g) λw h=>⟨_,rfl,?_⟩
 refine ag ?_ (y _ h.tail)
 rw[bne,u8b _ 60 60 rfl]
 simpa using E
theorem nH {q:Option Addr}{l:Ln}(h:Sat σ w L)(H:l.ok)(E:(l.lead 3 false).peek≠60)(y: ∀w,Sat σ w L->R (hQ (.tuple #[l.val,hV false])) w):callE P lG #[kT q,l.val] R w:=by
 refine sF.sound ?_
 refine Sat.bx h λb1 w h=>?_
 refine Sat.bx h λg w h=>?_
 repeat (first|refine aa ?_|refine h.tk λw h=>?_|refine⟨_,h.ldA,?_⟩|refine⟨_,_,_,h.ldA,?_⟩|refine h.stA 0 λw h=>?_|refine h.stA 1 λw h=>?_|refine h.stA 2 λw h=>?_|refine h.stA 3 λw h=>?_|refine h.stA 4 λw h=>?_|refine h.stA 5 λw h=>?_|refine h.stA 6 λw h=>?_|refine h.bx λb0 w h=>?_)
 have h:Sat σ _ (l.at b0::(g,cel [hY 0,hY 0,hY 0,hX (bs []),.int .u8 0] aW)::l.at b1::L):=h
 refine vK h H E λw h=>⟨_,rfl,ae rfl ?_⟩
 repeat (first|refine aa ?_|refine h.tk λw h=>?_|refine⟨_,h.ldA,?_⟩|refine⟨_,_,_,h.ldA,?_⟩|refine h.stA 0 λw h=>?_|refine h.stA 1 λw h=>?_|refine h.stA 2 λw h=>?_|refine h.stA 3 λw h=>?_|refine h.stA 4 λw h=>?_|refine h.stA 5 λw h=>?_|refine h.stA 6 λw h=>?_|refine h.bx λb0 w h=>?_)
 exact y _ h.tail.tail.tail
theorem qB {b:Nat}{p:PS}{l:List OB}{o:OB}{M:List ai}(h:Sat σ w (p.at b::M++L))(hs:Stk p (l++ [o]) M){t:TypeId}{v:Value}(U:o.bd= .iface t v)(E: ∀w,Sat σ w (p.at b::M++L)->R (hQ (if t=ar then v else kT none)) w)(hv:t=ar-> ∃q,v= kT q):
 callE P ez #[kT (kE b)] R w:=by
 obtain⟨sb,sp,I,rfl,V⟩:=hs.split (by simp)
 have y:=hs.2.1
 have H:=hs.2.2
 rw[lA0,lE0] at y H
 refine jn.sound ?_
 repeat (first|refine aa ?_|refine h.tk λw h=>?_|refine⟨_,h.ldA,?_⟩|refine⟨_,_,_,h.ldA,?_⟩)
 rw[y,ki (by omega)]
 refine⟨by omega,by omega,?_⟩
 rw[I]
 refine aa ?_
 simp only[lK0,lN0,lC0]
 refine⟨o.bd,Sat.ld h (by first|assumption|(repeat (first|exact .head _|apply List.Mem.tail))) (fg (f:=0) (by decide) (ik o)),?_⟩
 rw[U]
 have g:P.underlying ar=some (.pointer aL):=by kernel_rfl
 by_cases ht:t=ar
 ·obtain⟨q,rfl⟩:=hv ht
  subst ht
  have:=E _ h
  rw[if_pos rfl] at this
  exact⟨q,true,λw=>ol (by rw[g];intro O h;cases h) g w,ag rfl this⟩
 ·have:=E _ h
  rw[if_neg ht] at this
  refine⟨none,false,λw=>?_,ae rfl this⟩
  exact uv (by rw[g];intro O h;cases h) g ht (i:=(P.info? ar).getD default) (by kernel_rfl) (by kernel_rfl) w

def Ln.strip:Nat->Nat->Ln->Nat × Ln
 |0,n,l=>(n,l)
 |k+1,n,l=>match l.trimSp 1 1 false with
  |none=>(n,l)
  |some g=>g.strip k (n+1)
theorem Ln.strip_ok: ∀(k n:Nat) {l:Ln},l.ok->(l.strip k n).2.ok/\(l.strip k n).1<=n+k
 |0,n,l,h=>⟨h,lZ0 _⟩
 |k+1,n,l,h=>by
  simp only[Ln.strip]
  split
  ·exact⟨h,by simp⟩
  ·rename_i y g
   have:=strip_ok k (n+1) (Ln.trimSp_ok h g)
   exact⟨this.1,by have:=this.2;omega⟩
def lZ (c:UInt8):Bool:=c==45||c==42||c==43||(48<=c && c<=57)
theorem ug {c d:UInt8}{n:Int}(hd:(d.toNat:Int)=n)(h:c≠d):(((c.toNat:Nat):Int)==n)=false:=by
 rw[u8b _ d n hd];simpa using h
theorem ri {b:Nat}{q:Option Addr}{l:Ln}(h:Sat σ w (l.at b::L))(b5:l.ok)(g:lZ (l.strip 3 0).2.peek=false)(b4: ∀w,Sat σ w (l.at b::L)->R (hQ (hV false)) w):callE P bO #[kT q,kT (kE b)] R w:=by
 refine am.sound ?_
 refine Sat.bx h λb1 w h=>?_
 repeat (first|refine aa ?_|refine h.tk λw h=>?_|refine⟨_,h.ldA,?_⟩|refine⟨_,_,_,h.ldA,?_⟩|refine h.stA 0 λw h=>?_|refine h.stA 1 λw h=>?_|refine h.stA 2 λw h=>?_|refine h.stA 3 λw h=>?_|refine h.stA 4 λw h=>?_|refine h.stA 5 λw h=>?_|refine h.stA 6 λw h=>?_|refine h.bx λb0 w h=>?_)
 have h:Sat σ _ (l.at b0::(b1,cel [kT q] ah)::l.at b::L):=h
 have fin: ∀(n:Nat) (t:Ln) w,t.ok->lZ t.peek=false->Sat σ w (t.at b0::(b1,cel [kT q] ah)::l.at b::L)->am.k1 R b1 b0 n w:=by
  intro n t w ht g h
  refine lU h (by first|assumption|(repeat (first|exact .head _|apply List.Mem.tail))) ht λw h=>⟨_,rfl,?_⟩
  generalize t.peek=c at*
  simp only[lZ,lI2,beq_eq_false_iff_ne,lX3,decide_eq_false_iff_not] at g
  obtain⟨⟨⟨W,a6⟩,b3⟩,y⟩:=g
  have hd: ∀d:UInt8,48<=d->d<=57->c≠d:=by
   intro d I U hc
   subst hc
   rcases y with y|y
   ·exact y I
   ·exact y U
  have V:=ug (n:=43) rfl b3
  have O:=ug (n:=57) rfl (hd 57 (by decide) (by decide))
  refine ae (ug (d:=45) rfl W) (ae (ug (d:=42) rfl a6) ?_)
  rw[V]
  refine ae rfl ?_
  refine ae (ug (d:=48) rfl (hd _ (by decide) (by decide))) ?_
  refine ae (ug (d:=49) rfl (hd _ (by decide) (by decide))) ?_
  refine ae (ug (d:=50) rfl (hd _ (by decide) (by decide))) ?_
  refine ae (ug (d:=51) rfl (hd _ (by decide) (by decide))) ?_
  refine ae (ug (d:=52) rfl (hd _ (by decide) (by decide))) ?_
  refine ae (ug (d:=53) rfl (hd _ (by decide) (by decide))) ?_
  refine ae (ug (d:=54) rfl (hd _ (by decide) (by decide))) ?_
  refine ae (ug (d:=55) rfl (hd _ (by decide) (by decide))) ?_
  refine ae (ug (d:=56) rfl (hd _ (by decide) (by decide))) ?_
  rw[O]
  exact ae rfl (b4 _ h.tail.tail)
 intro X E
 have H: ∀k n (t:Ln) w,t.ok->k+n=3->lZ (t.strip k n).2.peek=false->Sat σ w (t.at b0::(b1,cel [kT q] ah)::l.at b::L)->X b1 b0 n n w:=by
  intro k n t w ht b6 g h
  induction k generalizing n t w with
  |zero=>exact E _ _ _ _ _ (ae (by simp;omega) (fin n t w ht g h))
  |succ k a7=>
   refine E _ _ _ _ _ (ag (by simp;omega) ?_)
   refine YtendaipfdnhnaaaGreatDoor.trimSp_ok (min:=1) (max:=1) h ht (by decide) (by decide) ?_
   simp only[Ln.strip] at g
   cases hs:t.trimSp 1 1 false with
   |none=>
    rw[hs] at g
    exact λw h=>⟨_,rfl,ag rfl (fin n t w ht g h)⟩
   |some t'=>
    rw[hs] at g
    intro w h
    refine⟨_,rfl,ae rfl ?_⟩
    rw[aN (by omega)]
    exact a7 (n+1) t' w (Ln.trimSp_ok ht hs) (by omega) g h
 exact H 3 0 l _ b5 rfl g h

abbrev zLn (b:Nat):ai:=(b,cel [hY 0,hY 0,hY 0,hX (bs []),.int .u8 0] aW)
theorem qt {b d:Nat}{p:PS}{l:List OB}{M:List ai}(h:Sat σ w (p.at b::M++L))(hs:Stk p l M)(hd:p.depth=d)(E: ∀w,Sat σ w (p.at b::M++L)->R (hQ (match l[d]? with|some o=>o.bd|none=> .nilIface)) w):
 callE P ji #[kT (kE b)] R w:=by
 have y:=hs.2.1
 have O:=hs.2.2
 refine jp.sound ?_
 repeat (first|refine aa ?_|refine h.tk λw h=>?_|refine⟨_,h.ldA,?_⟩|refine⟨_,_,_,h.ldA,?_⟩)
 rw[y,hd]
 by_cases g:d<l.length
 ·obtain⟨sb,sp,H,rfl,I⟩:=hs.split (by intro h;subst h;simp at g)
  refine ag (by simpa using g) ?_
  repeat (first|refine aa ?_|refine h.tk λw h=>?_|refine⟨_,h.ldA,?_⟩|refine⟨_,_,_,h.ldA,?_⟩)
  rw[y,hd]
  refine⟨by omega,by omega,?_⟩
  rw[H]
  refine aa ?_
  simp only[lK0,lN0,lC0]
  refine⟨l[d].bd,Sat.ld h (by first|assumption|(repeat (first|exact .head _|apply List.Mem.tail))) (fg (f:=0) (by decide) (lI0 g)),?_⟩
  have:=E _ h
  rw[lI0 g] at this
  exact this
 ·have:=E _ h
  rw[lT1 (by omega)] at this
  exact ae (by simpa using g) this
theorem lV {b d:Nat}{p:PS}{l:List OB}{M:List ai}(h:Sat σ w (p.at b::M++L))(hs:Stk p l M)(hd:p.depth=d)(O:d<1048577)(E: ∀w,Sat σ w (p.at b::M++L)->R (hQ (match l[d+1]? with|some o=>o.bd|none=> .nilIface)) w):
 callE P gf #[kT (kE b)] R w:=by
 have y:=hs.2.1
 have U:=hs.2.2
 refine i4.sound ?_
 repeat (first|refine aa ?_|refine h.tk λw h=>?_|refine⟨_,h.ldA,?_⟩|refine⟨_,_,_,h.ldA,?_⟩)
 rw[y,hd,aN (by omega)]
 by_cases g:d+1<l.length
 ·obtain⟨sb,sp,H,rfl,I⟩:=hs.split (by intro h;subst h;simp at g)
  refine ag (by simp;omega) ?_
  repeat (first|refine aa ?_|refine h.tk λw h=>?_|refine⟨_,h.ldA,?_⟩|refine⟨_,_,_,h.ldA,?_⟩)
  rw[y,hd,aN (by omega)]
  refine⟨by omega,by omega,?_⟩
  rw[H]
  refine aa ?_
  simp only[lK0,lN0,lC0]
  refine⟨l[d+1].bd,Sat.ld h (by first|assumption|(repeat (first|exact .head _|apply List.Mem.tail))) (fg (f:=0) (by decide) (lI0 g)),?_⟩
  have:=E _ h
  rw[lI0 g] at this
  exact this
 ·have:=E _ h
  rw[lT1 (by omega)] at this
  exact ae (by simp;omega) this
theorem gH {v:Value}{t:TypeId}(ht:t≠az)(w:World):
 (Instr.typeAssert (.iface t v) bP az true).run P w= .ok (.tuple #[kT none,hV false]) w:=by
 have g:P.underlying az=some (.pointer fO):=by kernel_rfl
 exact uv (by rw[g];intro y h;cases h) g ht (i:=(P.info? az).getD default) (by kernel_rfl) (by kernel_rfl) w
theorem tf {b d:Nat}{p:PS}{ob:List OB}{o:OB}{M:List ai}{t:TypeId}{v:Value}{l:Ln}(h:Sat σ w (p.at b::M++L))(hs:Stk p ob M)(hd:p.depth=d)(y:ob[d]? =some o)(hb:o.bd= .iface t v)(ht:t≠az)(I:l.ok)(H:lZ (l.strip 3 0).2.peek=false)(E: ∀w,Sat σ w (p.at b::M++L)->R (hQ (.tuple #[l.val,hV false])) w):callE P cq #[kT (kE b),l.val] R w:=by
 refine cO.sound ?_
 refine Sat.bx h λb1 w h=>?_
 refine Sat.bx h λg w h=>?_
 have h:Sat σ w (zLn g::l.at b1::(p.at b::M++L)):=h
 have h:Sat σ w (p.at b::M++(zLn g::l.at b1::L)):=h.re
 refine qt h hs hd λw h=>?_
 rw[y]
 dsimp only
 refine⟨_,rfl,none,false,w,by rw[hb];exact gH ht w,ae rfl (ae rfl ?_)⟩
 have h:Sat σ w (l.at b1::zLn g::p.at b::M++L):=h.re
 refine ri h I H λw h=>⟨_,rfl,ae rfl ?_⟩
 repeat (first|refine aa ?_|refine h.tk λw h=>?_|refine⟨_,h.ldA,?_⟩|refine⟨_,_,_,h.ldA,?_⟩|refine h.stA 0 λw h=>?_|refine h.stA 1 λw h=>?_|refine h.stA 2 λw h=>?_|refine h.stA 3 λw h=>?_|refine h.stA 4 λw h=>?_|refine h.stA 5 λw h=>?_|refine h.stA 6 λw h=>?_|refine h.bx λb0 w h=>?_)
 exact E _ h.tail.tail

theorem qq {t u:TypeId}{v:Value}{g:Array (String × TypeId)}(y:P.underlying t=some (.interface g))(d:Nat)(w:World):
 (Op.equalIn (d+1) t .nilIface (.iface u v)).run P w= .ok false w:=by
 simp[Op.equalIn,run_underlying y]
theorem ro {t u g:TypeId}{v H:Value}{E:Array (String × TypeId)}(I:P.underlying t=some (.interface E))(y:u≠g)(d:Nat)(w:World):
 (Op.equalIn (d+1) t (.iface u v) (.iface g H)).run P w= .ok false w:=by
 simp[Op.equalIn,run_underlying I,y]
theorem nr {t e:TypeId}(g:P.underlying t=some (.pointer e))(q:Option Addr)(d:Nat)(w:World):
 (Op.equalIn (d+1) t (kT q) (kT none)).run P w= .ok q.isNone w:=by
 cases q<;>simp[Op.equalIn,run_underlying g]
theorem w0 {t:TypeId}{a b:Value}{r:Bool}{w:World}{x g:Operand}(E:(eqGuard .eql t x g a b).run P w= .ok () w)(H:binOp .eql t a b=(do pure (hV (<-Op.equal t a b))))(h:(Op.equal t a b).run P w= .ok r w):(do eqGuard .eql t x g a b;binOp .eql t a b).run P w= .ok (hV r) w:=by
 rw[H]
 simp only[lX0,E,h,lJ0]
 rfl
theorem wT {t u:TypeId}{v:Value}{g:Array (String × TypeId)}(E:P.underlying t=some (.interface g))(x H:Operand)(w:World):
 (do eqGuard .eql t x H .nilIface (.iface u v);binOp .eql t .nilIface (.iface u v)).run P w= .ok (hV false) w:=
 w0 rfl rfl (qq E 9999 w)
theorem yy {t u g:TypeId}{v E:Value}{I:Array (String × TypeId)}(O:P.underlying t=some (.interface I))(H:u≠g)(x U:Operand)(w:World):
 (do eqGuard .eql t x U (.iface u v) (.iface g E);binOp .eql t (.iface u v) (.iface g E)).run P w= .ok (hV false) w:=
 w0 rfl rfl (ro O H 9999 w)
theorem tX {t e:TypeId}(g:P.underlying t=some (.pointer e))(q:Option Addr)(x E:Operand)(w:World):
 (do eqGuard .eql t x E (kT q) (kT none);binOp .eql t (kT q) (kT none)).run P w= .ok (hV q.isNone) w:=
 w0 rfl rfl (nr g q 9999 w)
theorem tB:P.underlying bP=some (.interface ((match P.underlying bP with|some (.interface ms)=>ms|_=> #[]))):=by kernel_rfl
theorem kA:P.underlying ar=some (.pointer aL):=by kernel_rfl
theorem kH {b d:Nat}{p:PS}{ob:List OB}{o:OB}{M:List ai}{t:TypeId}{v:Value}{l:Ln}(h:Sat σ w (p.at b::M++L))(hs:Stk p (ob++ [o]) M)(hd:p.depth=d)(I:ob.length=d)(hb:o.bd= .iface t v)(ht:t≠ar)(O:l.ok)(H: ∀w,Sat σ w (p.at b::M++L)->R (hQ (.tuple #[l.val,hV false])) w):callE P ci #[kT (kE b),l.val] R w:=by
 have E:=hs.2.2
 rw[lA0,lE0] at E
 refine bK.sound ?_
 refine Sat.bx h λb1 w h=>?_
 refine Sat.bx h λy w h=>?_
 refine Sat.bx h λg w h=>?_
 repeat (first|refine aa ?_|refine h.tk λw h=>?_|refine⟨_,h.ldA,?_⟩|refine⟨_,_,_,h.ldA,?_⟩|refine h.stA 0 λw h=>?_|refine h.stA 1 λw h=>?_|refine h.stA 2 λw h=>?_|refine h.stA 3 λw h=>?_|refine h.stA 4 λw h=>?_|refine h.stA 5 λw h=>?_|refine h.stA 6 λw h=>?_|refine h.bx λb0 w h=>?_)
 have h:Sat σ _ (l.at b0::(g,cel [hY 0] bg)::zLn y::l.at b1::(p.at b::M++L)):=h
 have h:Sat σ _ (p.at b::M++(l.at b0::(g,cel [hY 0] bg)::zLn y::l.at b1::L)):=h.re
 refine lV h hs hd (by omega) λw h=>?_
 rw[lT1 (by simp;omega)]
 refine⟨_,rfl,?_⟩
 refine qB h hs hb (λw h=>?_) (λhc=>absurd hc ht)
 rw[if_neg ht]
 refine⟨_,rfl,false,w,wT tB _ _ w,ae rfl ?_⟩
 have h:Sat σ _ (zLn y::l.at b1::(g,cel [hY 0] bg)::l.at b0::(p.at b::M++L)):=h.re
 refine ae rfl ?_
 repeat (first|refine aa ?_|refine h.tk λw h=>?_|refine⟨_,h.ldA,?_⟩|refine⟨_,_,_,h.ldA,?_⟩|refine h.stA 0 λw h=>?_|refine h.stA 1 λw h=>?_|refine h.stA 2 λw h=>?_|refine h.stA 3 λw h=>?_|refine h.stA 4 λw h=>?_|refine h.stA 5 λw h=>?_|refine h.stA 6 λw h=>?_|refine h.bx λb0 w h=>?_)
 have h:Sat σ _ (l.at y::l.at b1::(g,cel [hY 0] bg)::l.at b0::(p.at b::M++L)):=h
 exact H _ h.tail.tail.tail.tail

theorem vF {b nb:Nat}{y E:Option Addr}{l:Ln}{v:Int}{e:TypeId}(h:Sat σ w (l.at b::(nb,cel [hY v] e)::L))(V:l.ok)(g:(l.strip 3 0).2.peek≠96/\(l.strip 3 0).2.peek≠126)(O: ∀w v,Sat σ w (l.at b::(nb,cel [hY v] e)::L)->R (hQ (hV false)) w):
 callE P fK #[kT (kE b),kT y,kT E,kT (kE nb)] R w:=by
 refine bw.sound ?_
 repeat (first|refine aa ?_|refine h.tk λw h=>?_|refine⟨_,h.ldA,?_⟩|refine⟨_,_,_,h.ldA,?_⟩|refine h.stA 0 λw h=>?_|refine h.stA 1 λw h=>?_|refine h.stA 2 λw h=>?_|refine h.stA 3 λw h=>?_|refine h.stA 4 λw h=>?_|refine h.stA 5 λw h=>?_|refine h.stA 6 λw h=>?_|refine h.bx λb0 w h=>?_)
 have h:Sat σ _ (l.at b0::l.at b::(nb,cel [hY 0] e)::L):=h
 have fin: ∀(n:Nat) (t:Ln) w,t.ok->t.peek≠96/\t.peek≠126->Sat σ w (t.at b0::l.at b::(nb,cel [hY n] e)::L)->bw.k2 R (kE b) y E b0 w:=by
  intro n t w ht g h
  refine lU h (by first|assumption|(repeat (first|exact .head _|apply List.Mem.tail))) ht λw h=>⟨_,rfl,?_⟩
  rw[ug (d:=126) (n:=126) rfl g.2]
  exact ae (ug (d:=96) rfl g.1) (ae rfl (O _ _ h.tail))
 intro X H
 have I: ∀k n (t:Ln) w,t.ok->k+n=3->(t.strip k n).2.peek≠96/\(t.strip k n).2.peek≠126->Sat σ w (t.at b0::l.at b::(nb,cel [hY n] e)::L)->
  X (kE b) y E (kE nb) b0 w:=by
  intro k n t w ht W g h
  induction k generalizing n t w with
  |zero=>
   refine H _ _ _ _ _ _ ?_
   repeat (first|refine aa ?_|refine h.tk λw h=>?_|refine⟨_,h.ldA,?_⟩|refine⟨_,_,_,h.ldA,?_⟩)
   exact ae (by simp;omega) (fin n t w ht g h)
  |succ k U=>
   refine H _ _ _ _ _ _ ?_
   repeat (first|refine aa ?_|refine h.tk λw h=>?_|refine⟨_,h.ldA,?_⟩|refine⟨_,_,_,h.ldA,?_⟩)
   refine ag (by simp;omega) ?_
   refine YtendaipfdnhnaaaGreatDoor.trimSp_ok (min:=1) (max:=1) h ht (by decide) (by decide) ?_
   simp only[Ln.strip] at g
   cases hs:t.trimSp 1 1 false with
   |none=>
    rw[hs] at g
    exact λw h=>⟨_,rfl,ae rfl (fin n t w ht g h)⟩
   |some t'=>
    rw[hs] at g
    intro w h
    refine⟨_,rfl,ag rfl ?_⟩
    repeat (first|refine aa ?_|refine h.tk λw h=>?_|refine⟨_,h.ldA,?_⟩|refine⟨_,_,_,h.ldA,?_⟩|refine h.stA 0 λw h=>?_|refine h.stA 1 λw h=>?_|refine h.stA 2 λw h=>?_|refine h.stA 3 λw h=>?_|refine h.stA 4 λw h=>?_|refine h.stA 5 λw h=>?_|refine h.stA 6 λw h=>?_|refine h.bx λb0 w h=>?_)
    rw[aN (by omega)] at h
    exact U (n+1) t' _ (Ln.trimSp_ok ht hs) (by omega) g h
 exact I 3 0 l _ V rfl g h
theorem sd {q:Option Addr}{l:Ln}(h:Sat σ w L)(U:l.ok)(I:(l.strip 3 0).2.peek≠96/\(l.strip 3 0).2.peek≠126)(H: ∀w,Sat σ w L->R (hQ (.tuple #[l.val,hV false])) w):callE P j6 #[kT q,l.val] R w:=by
 refine dP.sound ?_
 refine Sat.bx h λb1 w h=>?_
 refine Sat.bx h λE w h=>?_
 refine Sat.bx h λy w h=>?_
 refine Sat.bx h λg w h=>?_
 refine Sat.bx h λO w h=>?_
 repeat (first|refine aa ?_|refine h.tk λw h=>?_|refine⟨_,h.ldA,?_⟩|refine⟨_,_,_,h.ldA,?_⟩|refine h.stA 0 λw h=>?_|refine h.stA 1 λw h=>?_|refine h.stA 2 λw h=>?_|refine h.stA 3 λw h=>?_|refine h.stA 4 λw h=>?_|refine h.stA 5 λw h=>?_|refine h.stA 6 λw h=>?_|refine h.bx λb0 w h=>?_)
 have h:Sat σ _ (l.at b0::(O,cel [hY 0] bg)::(g,cel [hX (bs [])] aq)::(y,cel [hX (bs [])] aq)::zLn E::l.at b1::L):=h
 refine vF h U I λw v h=>⟨_,rfl,?_⟩
 refine ae rfl ?_
 repeat (first|refine aa ?_|refine h.tk λw h=>?_|refine⟨_,h.ldA,?_⟩|refine⟨_,_,_,h.ldA,?_⟩|refine h.stA 0 λw h=>?_|refine h.stA 1 λw h=>?_|refine h.stA 2 λw h=>?_|refine h.stA 3 λw h=>?_|refine h.stA 4 λw h=>?_|refine h.stA 5 λw h=>?_|refine h.stA 6 λw h=>?_|refine h.bx λb0 w h=>?_)
 exact H _ h.tail.tail.tail.tail.tail.tail

theorem GL {t:TypeId}{a b:Value}{r:Bool}{w:World}{x g:Operand}(E:(eqGuard .neq t x g a b).run P w= .ok () w)(H:binOp .neq t a b=(do pure (hV (!(<-Op.equal t a b)))))(h:(Op.equal t a b).run P w= .ok r w):(do eqGuard .neq t x g a b;binOp .neq t a b).run P w= .ok (hV (!r)) w:=by
 rw[H]
 simp only[lX0,E,h,lJ0]
 rfl
theorem jf {t e:TypeId}(g:P.underlying t=some (.pointer e))(q:Option Addr)(x E:Operand)(w:World):
 (do eqGuard .neq t x E (kT q) (kT none);binOp .neq t (kT q) (kT none)).run P w= .ok (hV (!q.isNone)) w:=
 GL rfl rfl (nr g q 9999 w)
structure Opt where
 ids:Bool
 strike:Bool
 task:Bool
 auto:Bool
 http:Bool
 table:Bool
 emoji:Bool
 dot:Bool
 dash:Bool
 quote:Bool
def Opt.cells (o:Opt):List Value:= [hV o.ids,hV o.strike,hV o.task,hV o.auto,hV o.http,hV o.table,hV o.emoji,hV o.dot,hV o.dash,hV o.quote]
abbrev Opt.at (b:Nat)(o:Opt):ai:=(b,cel o.cells vD)
theorem wh {b:Nat}{p:PS}{ob:List OB}{o:OB}{M:List ai}{t:TypeId}{v:Value}{l:Ln}(h:Sat σ w (p.at b::M++L))(hs:Stk p (ob++ [o]) M)(hb:o.bd= .iface t v)(hv:t=ar-> ∃q,v= kT q)(E:l.ok)(y:l.trimSp 4 4 false=none)(H: ∀w,Sat σ w (p.at b::M++L)->R (hQ (.tuple #[l.val,hV false])) w):callE P pp #[kT (kE b),l.val] R w:=by
 refine jx.sound ?_
 refine Sat.bx h λb1 w h=>?_
 refine Sat.bx h λg w h=>?_
 repeat (first|refine aa ?_|refine h.tk λw h=>?_|refine⟨_,h.ldA,?_⟩|refine⟨_,_,_,h.ldA,?_⟩|refine h.stA 0 λw h=>?_|refine h.stA 1 λw h=>?_|refine h.stA 2 λw h=>?_|refine h.stA 3 λw h=>?_|refine h.stA 4 λw h=>?_|refine h.stA 5 λw h=>?_|refine h.stA 6 λw h=>?_|refine h.bx λb0 w h=>?_)
 have h:Sat σ _ (l.at b0::zLn g::l.at b1::(p.at b::M++L)):=h
 have h:Sat σ _ (p.at b::M++(l.at b0::zLn g::l.at b1::L)):=h.re
 have fin: ∀w,Sat σ w (l.at b0::(zLn g::l.at b1::(p.at b::M++L)))->jx.k1 R (kE b) b1 g b0 false w:=by
  intro w h
  refine ae rfl ?_
  repeat (first|refine aa ?_|refine h.tk λw h=>?_|refine⟨_,h.ldA,?_⟩|refine⟨_,_,_,h.ldA,?_⟩|refine h.stA 0 λw h=>?_|refine h.stA 1 λw h=>?_|refine h.stA 2 λw h=>?_|refine h.stA 3 λw h=>?_|refine h.stA 4 λw h=>?_|refine h.stA 5 λw h=>?_|refine h.stA 6 λw h=>?_|refine h.bx λb0 w h=>?_)
  have h:Sat σ _ (l.at b0::l.at g::l.at b1::(p.at b::M++L)):=h
  exact H _ h.tail.tail.tail
 refine qB h hs hb (λw h=>?_) hv
 have h:Sat σ _ (l.at b0::(zLn g::l.at b1::(p.at b::M++L))):=h.re
 by_cases ht:t=ar
 ·obtain⟨q,rfl⟩:=hv ht
  rw[if_pos ht]
  refine⟨q,rfl,q.isNone,w,tX kA _ _ _ w,bM (λI=>?_) (λ_=>fin _ h)⟩
  refine YtendaipfdnhnaaaGreatDoor.trimSp_ok (min:=4) (max:=4) h E (by decide) (by decide) ?_
  rw[y]
  exact λw h=>⟨_,rfl,ae rfl (fin _ h)⟩
 ·rw[if_neg ht]
  refine⟨none,rfl,_,w,tX kA _ _ _ w,ag rfl ?_⟩
  refine YtendaipfdnhnaaaGreatDoor.trimSp_ok (min:=4) (max:=4) h E (by decide) (by decide) ?_
  rw[y]
  exact λw h=>⟨_,rfl,ae rfl (fin _ h)⟩
variable {op:Opt}

def Ln.zero:Ln:=⟨0,0,0,[],0⟩
noncomputable def rowStr:Row P al aq 1 16:=
 ⟨(P.info? aq).getD default,((P.info? aq).bind (·.zero)).getD default,by kernel_rfl,by kernel_rfl,by kernel_rfl,by kernel_rfl,by kernel_rfl,by kernel_rfl,by decide⟩
def rg (y:Nat)(ts:List (List UInt8))(M:List ai):Prop:=
 ∃q c g,Sl 1 aq q ts.length c (ts.map λt=> hX (bs t)) g/\M=(y,cel [hT q ts.length c,kT none] aL)::g
theorem rV {g:Nat}{ts:List (List UInt8)}{s:List UInt8}{y:Nat}{M:List ai}(h:Sat σ w (zLn y::M++L))(V:rg g ts M)(b3:ts.length<1048576)(a7: ∀w O,rg g (ts++ [s]) O->Sat σ w (O++L)->R (hQ (.tuple #[Ln.zero.val,hV true])) w):
 dX.k5 R y (kE g) (bs s) w:=by
 obtain⟨q,c,W,a6,rfl⟩:=V
 repeat (first|refine aa ?_|refine h.tk λw h=>?_|refine⟨_,h.ldA,?_⟩|refine⟨_,_,_,h.ldA,?_⟩)
 have h:Sat σ w (W++((g,cel [hT q ts.length c,kT none] aL)::zLn y::L)):=h.re
 refine Sat.app1 rowStr a6 h (v:= hX (bs s)) rfl (by simp[Value.cells,Value.oneCell']) (by kernel_rfl) (by omega) (by omega) (by decide) λI H w E U h=>?_
 have h:Sat σ w ((g,cel [hT q ts.length c,kT none] aL)::zLn y::(E++L)):=h.re
 repeat (first|refine aa ?_|refine h.tk λw h=>?_|refine⟨_,h.ldA,?_⟩|refine⟨_,_,_,h.ldA,?_⟩|refine h.stA 0 λw h=>?_|refine h.stA 1 λw h=>?_|refine h.stA 2 λw h=>?_|refine h.stA 3 λw h=>?_|refine h.stA 4 λw h=>?_|refine h.stA 5 λw h=>?_|refine h.stA 6 λw h=>?_|refine h.bx λb0 w h=>?_)
 have h:Sat σ _ ((g,cel [hT I (ts.length+1) H,kT none] aL)::zLn y::(E++L)):=h
 refine a7 _ ((g,cel [hT I (ts.length+1) H,kT none] aL)::E) ⟨I,H,E,?_,?_⟩ (h.less [zLn y])
 ·rw[lA0,lV0];exact U
 ·rw[lA0];rfl

theorem gN {f:FuncId}{y first g:Array Value}(h:callE P f (first++y++g) R w):
 cY P (do let d <-Deferred.ofValue (.func (.func f) first g) y;invoke d.target d.args) R w:=
 h.imp (λh=>⟨f,_,w,h.1 _ _,h.2⟩) id
def newsF:List FuncId:= [j5,fj,ci,qi,cq,lG,j6,pp]
def newsC:List Value:=newsF.map λf=> .func (.func f) #[] #[]
theorem xZ (h:Sat σ w L)(y: ∀w b e,Sat σ w ((b,cel newsC e)::L)->R (hQ (hT (kE b) 8 8)) w):callE P B5 #[] R w:=by
 refine Ce.sound ?_
 have E:P.underlying cQ=some (.slice bE):=by kernel_rfl
 have g:=run_buildSlice (P:=P) w cQ bE 8
  #[(0,.func (.func j5) #[] #[]),(1,.func (.func fj) #[] #[]),(2,.func (.func ci) #[] #[]),(3,.func (.func qi) #[] #[]),
   (4,.func (.func cq) #[] #[]),(5,.func (.func lG) #[] #[]),(6,.func (.func j6) #[] #[]),(7,.func (.func pp) #[] #[])] newsC.toArray
  ((P.info? bE).getD default) (((P.info? bE).bind (·.zero)).getD default) E (by kernel_rfl) (by kernel_rfl)
  (by rw[show ((P.info? bE).getD default).size=1 by kernel_rfl];decide) (by rw[show ((P.info? bE).getD default).size=1 by kernel_rfl];decide) (by kernel_rfl)
 exact⟨_,_,_,_,g,y _ _ _ (h.alc newsC _)⟩

def AL (b:Nat)(p:PS)(M:List ai)(l:Ln)(f:FuncId):Prop:=
 ∀(σ:Out) (w:World) (L:List ai) (R:Ending->World->Prop),Sat σ w (p.at b::M++L)->(∀w,Sat σ w (p.at b::M++L)->R (hQ (.tuple #[l.val,hV false])) w)->
  callE P f #[kT (kE b),l.val] R w
def HDecl (l:Ln):Prop:=
 ∀(b:Nat) (p:PS) (ob:List OB) (o:OB) (M:List ai) (t:TypeId) (v:Value),Stk p (ob++ [o]) M->o.bd= .iface t v->t≠ar->AL b p M l lG
theorem HDecl.of_peek {l:Ln}(E:l.ok)(y:(l.lead 3 false).peek≠60):HDecl l:=
 λ_ _ _ _ _ _ _ _ _ _ _ _ _ _ h g=>nH h E y g
def LDecl (l:Ln):Prop:=
 ∀(b d:Nat) (p:PS) (ob:List OB) (o:OB) (M:List ai) (t:TypeId) (v:Value),Stk p ob M->p.depth=d->ob[d]? =some o->o.bd= .iface t v->t≠az->AL b p M l cq
theorem LDecl.of_peek {l:Ln}(H:l.ok)(E:lZ (l.strip 3 0).2.peek=false):LDecl l:=
 λ_ _ _ _ _ _ _ _ hs hd g hb ht _ _ _ _ h y=>tf h hs hd g hb ht H E y
structure Ln.plain (l:Ln):Prop where
 ok:l.ok
 blank:l.blank=false
 quote:l.quote=none
 heading:l.heading=none
 hr:l.isHR=false
 bullet:LDecl l
 html:HDecl l
 fence:(l.strip 3 0).2.peek≠96/\(l.strip 3 0).2.peek≠126
 pre:l.trimSp 4 4 false=none
theorem rZ {i:Nat}{f:FuncId}(h:newsF[i]? =some f):newsC[i]? =some (.func (.func f) #[] #[]):=by
 rw[newsC,lF2,h];rfl
def ng (R:EP)(y E:BA)(w:World):Prop:=
 callE P lC #[hX y,hX E] (λe H=> ∃g,e= hQ (hY g)/\
 R (hQ (hV (decide (g >= 0)))) H) w
theorem ng.sound {R x0 x1 w}(h:ng R x0 x1 w):callE P iR #[hX x0,hX x1] R w:=
 cD Tryz.func76 Tryz.call76 h
namespace ku
def bl1 (R:EP)(Xa:BA->BA->Int->WP)(E y:BA)(g:Int)(w:World):Prop:=
 br (decide ((i64.wrap (g+(y.size:Int)))<=(E.size:Int)))
 (0<=g/\g<=(i64.wrap (g+(y.size:Int)))/\(i64.wrap (g+(y.size:Int)))<=(E.size:Int)/\
 br ((E.extract (Int.toNat g) (Int.toNat (i64.wrap (g+(y.size:Int))))).toList==y.toList)
 (R (hQ (hY g)) w)
 (Xa E y (i64.wrap (g+1)) w))
 (R (hQ (hY (-1))) w)
def l1 (R:EP)(g y:BA)(E:Int)(w:World):Prop:=
 ∀X:BA->BA->Int->WP,(∀g y E w,bl1 R X g y E w->X g y E w)->X g y E w
end ku
def ku (R:EP)(g y:BA)(w:World):Prop:=
 ku.l1 R g y 0 w
theorem ku.sound {R x0 x1 w}(h:ku R x0 x1 w):callE P lC #[hX x0,hX x1] R w:=
 aH [(21,.lp [1,21,107] (ku.bl1 R) λXa=> [])] Tryz.func79 Tryz.call79 h

def kw (sub l:List UInt8):Nat->Nat->Option Nat
 |0,_=>none
 |k+1,i=>if i+sub.length<=l.length then (if (l.drop i).take sub.length=sub then some i else kw sub l k (i+1)) else none
def idx (l sub:List UInt8):Option Nat:=kw sub l (l.length+1) 0
def kP (l sub:List UInt8):Int:=match idx l sub with
 |some i=>(i:Int)
 |none=> -1
theorem jZ {l sub:List UInt8}(a6:l.length<4611686018427387904)(hs:sub.length<4611686018427387904)(y:R (hQ (hY (kP l sub))) w):callE P lC #[hX (bs l),hX (bs sub)] R w:=by
 refine ku.sound ?_
 intro X I
 have U: ∀(k i:Nat),l.length<k+i->i<=l.length+1->(match kw sub l k i with|some i=>(i:Int)|none=> -1)=kP l sub->X (bs l) (bs sub) i w:=by
  intro k
  induction k with
  |zero=>
   intro i V hi g
   have E:i64.wrap ((i:Int)+(sub.length:Int))=((i+sub.length:Nat):Int):=by rw[i64_in _ (by omega)];omega
   refine I _ _ _ _ (ae (by rw[aJ,aJ,E];simp;omega) ?_)
   rw[<-g] at y
   exact y
  |succ k W=>
   intro i V hi g
   have E:i64.wrap ((i:Int)+(sub.length:Int))=((i+sub.length:Nat):Int):=by rw[i64_in _ (by omega)];omega
   simp only[kw] at g
   by_cases O:i+sub.length<=l.length
   ·rw[if_pos O] at g
    refine I _ _ _ _ (ag (by rw[aJ,aJ,E];simp;omega) ?_)
    rw[aJ,aJ,E]
    refine⟨by omega,by omega,by omega,?_⟩
    rw[lC0,lC0,cm,cZ,cZ]
    have ht:(l.take (i+sub.length)).drop i=(l.drop i).take sub.length:=by rw[List.drop_take];congr 1;omega
    rw[ht]
    by_cases H:(l.drop i).take sub.length=sub
    ·rw[if_pos H] at g
     rw[<-g] at y
     exact ag (by simpa using H) y
    ·rw[if_neg H] at g
     refine ae (by simpa using H) ?_
     rw[aN (by omega)]
     exact W (i+1) (by omega) (by omega) g
   ·rw[if_neg O] at g
    refine I _ _ _ _ (ae (by rw[aJ,aJ,E];simp;omega) ?_)
    rw[<-g] at y
    exact y
 exact U (l.length+1) 0 (by omega) (by omega) rfl
theorem jR {l sub:List UInt8}(y:l.length<4611686018427387904)(hs:sub.length<4611686018427387904)(g:R (hQ (hV (idx l sub).isSome)) w):callE P iR #[hX (bs l),hX (bs sub)] R w:=by
 refine ng.sound ?_
 refine jZ y hs ⟨_,rfl,?_⟩
 have:decide (kP l sub >= 0)=(idx l sub).isSome:=by
  unfold kP
  cases idx l sub with
  |none=>rfl
  |some i=>simp
 rw[this]
 exact g
theorem qT {c:UInt8}{l:List UInt8}(hc:c ∉ l): ∀k i,kw [c] l k i=none
 |0,i=>rfl
 |k+1,i=>by
  simp only[kw]
  split
  ·rename_i h
   simp only[lE0] at h
   rw[if_neg]
   ·exact qT hc k (i+1)
   ·intro E
    have y:c∈(l.drop i).take 1:=by
     have g:(l.drop i).take 1= [c]:=E
     rw[g];exact lQ0.2 rfl
    exact hc (lW4 (lX4 y))
  ·rfl
theorem kO {c:UInt8}{l:List UInt8}(hc:c ∉ l):idx l [c]=none:=qT hc _ _

def mQ (P:Program)(t:TypeId)(y:String)(f:FuncId):Bool:=
 match P.info? t,P.underlying t with
 |some i,some (.pointer _)=>match i.methods.find? (·.name==y) with
  |some m=>m.path.isEmpty && (match m.func with|some (g,true)=>Nat.beq g f|_=>false)
  |none=>false
 |_,_=>false
theorem BE {P:Program}{t:TypeId}{y:String}{f:FuncId}(h:mQ P t y f=true)(q:Option Addr)(E:Nat)(w:World):
 (Go.method (E+1) t (kT q) y).run P w= .ok (f,kT q) w:=by
 unfold mQ at h
 split at h
 ·rename_i i e hi U
  split at h
  ·rename_i m V
   simp only[lM1] at h
   obtain⟨O,h⟩:=h
   split at h
   ·rename_i g W
    have I:=lJ1 h
    subst I
    have H:m.path= #[]:=by simpa using O
    simp[Go.method,typeInfo,hi,V,H,Go.follow,W,Go.receiverAt,run_underlying U,Go.Place.get]
   ·cases h
  ·cases h
 ·cases h
theorem ua (P:Program): ∃n,P.types.size+Made.depth=n+1:=by
 have h:0<Made.depth:=by decide
 exact⟨P.types.size+(Made.depth - 1),by omega⟩
theorem bm {t:TypeId}{y:String}{f:FuncId}{q:Option Addr}{g:Array Value}(E:mQ P t y f=true)(h:callE P f (#[kT q]++g) R w):
 cY P (callMethod (.iface t (kT q)) y g) R w:=by
 obtain⟨n,H⟩:=ua P
 have hr:=BE E q n w
 have e:(callMethod (.iface t (kT q)) y g).run P w=(callFunc f (#[kT q]++g)).run P w:=by
  simp only[callMethod,lX0,run_program,lJ0,H,hr]
 unfold cY
 rw[e]
 exact h.imp (λh=>⟨f,_,w,h.1 _ _,h.2⟩) id
theorem Sat.same {E:Out}{w g:World}{L L':List ai}(h:Sat σ w L)(H:Sat E g L'){b i:Nat}{o:Obj}(I:(b,o)∈L)(y:(b,o)∈L')(n:Nat):SameC w g (hZ b i) n:=by
 intro k _
 rw[lK0]
 unfold World.cell?
 rw[h.at_ _ I,H.at_ _ y]
theorem nJ:mQ P ah "pub-paratext/pub/rscmarkdown.pos" jK=true:=by kernel_rfl
theorem kh:mQ P ah "pub-paratext/pub/rscmarkdown.blocks" iz=true:=by kernel_rfl
theorem wl:mQ P ah "pub-paratext/pub/rscmarkdown.newText" eZ=true:=by kernel_rfl
theorem th:mQ P ar "pub-paratext/pub/rscmarkdown.build" iA=true:=by kernel_rfl
theorem tg:mQ P ij "pub-paratext/pub/rscmarkdown.build" iy=true:=by kernel_rfl

def lg (c:UInt8):Bool:=c==32||c==9||c==10
def oF (l:List UInt8)(i:Nat):Nat:=l.length - ((l.drop i).dropWhile lg).length
theorem rQ {l:List UInt8}{i:Nat}(a6:l.length<4611686018427387904)(hi:i<=l.length)(U:R (hQ (hY (oF l i))) w):callE P kl #[hX (bs l),hY i] R w:=by
 refine iI.sound ?_
 intro X E
 refine Dd (l:=l) (X:=λi=>X (bs l) (i:Int) w) (p:=lg) (λi hi V O=>E _ _ _ ?_) i hi (λj W H I=>E _ _ _ ?_)
 ·refine⟨λ_=>⟨by omega,by simp;omega⟩,λ_=>⟨by omega,by simp;omega⟩,λ_=>⟨by omega,by simp;omega⟩,ag ?_ ?_⟩
  ·rw[de hi 32 32 rfl,de hi 9 9 rfl,de hi 10 10 rfl]
   simpa[hi,lg] using V
  ·rw[aN (by omega)];exact O
 ·have y: ∀ {b:Bool},(decide ((j:Int)<((bs l).size:Int)) && b)=true->j<l.length:=by
   intro b h
   simp only[lM1,decide_eq_true_eq,aJ] at h
   omega
  refine⟨λh=>⟨by omega,by simpa using h⟩,λh=>⟨by omega,by have:=y h;simp;omega⟩,λh=>⟨by omega,by have:=y h;simp;omega⟩,ae ?_ ?_⟩
  ·by_cases g:j<l.length
   ·rw[de g 32 32 rfl,de g 9 9 rfl,de g 10 10 rfl]
    simpa[g,lg] using H g
   ·simp[g]
  ·have:oF l i=j:=by
    rw[oF,<-I,lN1];omega
   rw[<-this];exact U
theorem xF {t xt:TypeId}{v:Value}(y: ∀g,P.underlying t≠some (.interface g)){d:TypeDesc}(hd:P.underlying t=some d)(w:World):
 (Instr.typeAssert (.iface t v) xt t false).run P w= .ok v w:=by
 cases d<;>first|(exact absurd hd (y _))|simp[Instr.typeAssert,run_underlying hd]
theorem Ek:P.underlying ah=some (.pointer gC):=by kernel_rfl
theorem Gf (q:Option Addr)(w:World):(Instr.typeAssert (.iface ah (kT q)) lO ah false).run P w= .ok (kT q) w:=
 xF (by rw[Ek];intro g h;cases h) Ek w
theorem pd {q:Option Addr}{l:List UInt8}(W:l.length<4611686018427387904)(hb:(l.dropWhile lg).head? ≠some 91)(U:R (hQ (.tuple #[hY 0,hV false])) w):
 callE P gJ #[.iface ah (kT q),hX (bs l)] R w:=by
 refine jq.sound ?_
 refine rQ (i:=0) W (lC2 _) ⟨_,rfl,q,w,Gf q w,?_⟩
 generalize V:oF l 0=j
 have a7:(l.dropWhile lg).length<=l.length:=(lO2 lg).length_le
 have a6:j+(l.dropWhile lg).length=l.length:=by rw[<-V,oF,lK2];omega
 have E:l.drop j=l.dropWhile lg:=by
  obtain⟨pre,y⟩:=lU4 lg (l:=l)
  have H:pre.length=j:=by have:=congrArg List.length y;simp at this;omega
  exact(congrArg (List.drop j) y).symm.trans (by rw[<-H,lB4])
 refine jM.sound ?_
 have I:(!(decide ((j:Int) >= ((bs l).size:Int))))=true->j<l.length:=by
  intro h;simp at h;exact h
 refine⟨λh=>⟨by omega,by have:=I h;simp;omega⟩,ag ?_ ⟨_,_,_,rfl,?_⟩⟩
 ·by_cases g:j<l.length
  ·have:l[j]≠91:=by
    intro O
    apply hb
    rw[<-E,lI1 g,O]
    rfl
   rw[bne,de g 91 91 rfl]
   simp[this]
  ·simp;omega
 ·refine⟨λh=>by simp at h,ag rfl U⟩
def Ed (l:List UInt8):Prop:= ∀(R:Ending->World->Prop) (w:World) (q:Option Addr),R (hQ (.tuple #[hY 0,hV false])) w->callE P gJ #[.iface ah (kT q),hX (bs l)] R w
theorem Du {l:List UInt8}(y:l.length<4611686018427387904)(hb:(l.dropWhile lg).head? ≠some 91):Ed l:=λ_ _ _ g=>pd y hb g
theorem DD {q:Option Addr}{c:Nat}{s sep:List UInt8}{g:List ai}(h:Sat σ w (g++L))(E:Sl 1 aq q 1 c [hX (bs s)] g)(y: ∀w,Sat σ w (g++L)->R (hQ (hX (bs s))) w):callE P fR #[hT q 1 c,hX (bs sep)] R w:=by
 refine bW.sound ?_
 obtain⟨_,_,hz|⟨H,sp,rfl,rfl,_⟩⟩:=E
 ·omega
 ·refine ae rfl (ag rfl ⟨by decide,by decide,aa ?_⟩)
  exact⟨_,Sat.ld h (.head _) rfl,y _ h⟩

theorem tL {b:Nat}{p:PS}{l:List OB}{o:OB}{M:List ai}(h:Sat σ w (p.at b::M++L))(hs:Stk p (l++ [o]) M)(H: ∀w,Sat σ w (p.at b::M++L)->R (hQ (.agg #[hY o.s,hY o.e])) w):callE P jK #[kT (kE b)] R w:=by
 obtain⟨sb,sp,E,rfl,I⟩:=hs.split (by simp)
 have g:=hs.2.1
 have y:=hs.2.2
 rw[lA0,lE0] at g y
 refine jL.sound ?_
 refine Sat.bx h λb1 w h=>?_
 repeat (first|refine aa ?_|refine h.tk λw h=>?_|refine⟨_,h.ldA,?_⟩|refine⟨_,_,_,h.ldA,?_⟩)
 rw[g,ki (by omega)]
 refine⟨by omega,by omega,?_⟩
 rw[E]
 refine aa ?_
 simp only[lK0,lN0,lC0,lL1]
 refine⟨_,Sat.ld h (by first|assumption|(repeat (first|exact .head _|apply List.Mem.tail))) (fg (f:=2) (by decide) (ik o)),?_⟩
 refine⟨_,Sat.ld h (by first|assumption|(repeat (first|exact .head _|apply List.Mem.tail))) (fg (f:=3) (by decide) (ik o)),?_⟩
 repeat (first|refine aa ?_|refine h.tk λw h=>?_|refine⟨_,h.ldA,?_⟩|refine⟨_,_,_,h.ldA,?_⟩|refine h.stA 0 λw h=>?_|refine h.stA 1 λw h=>?_|refine h.stA 2 λw h=>?_|refine h.stA 3 λw h=>?_|refine h.stA 4 λw h=>?_|refine h.stA 5 λw h=>?_|refine h.stA 6 λw h=>?_|refine h.bx λb0 w h=>?_)
 exact H _ h.tail
noncomputable def Fe:Row P j7 dU 1 8:=
 ⟨(P.info? dU).getD default,((P.info? dU).bind (·.zero)).getD default,by kernel_rfl,by kernel_rfl,by kernel_rfl,by kernel_rfl,by kernel_rfl,by kernel_rfl,by decide⟩
def Txts (p:PS)(ts:List Nat)(M:List ai):Prop:=Sl 1 dU p.tq p.tn p.tc (ts.map λt=> kT (kE t)) M/\p.tn=ts.length/\ts.length<1048576
def fu (t:Nat)(s e:Nat)(q:Option Addr)(n c:Nat)(raw:List UInt8):ai:=(t,cel [hY s,hY e,hT q n c,hX (bs raw)] AV)
theorem tN {b s e:Nat}{p:PS}{ts:List Nat}{y:List ai}{raw:List UInt8}(h:Sat σ w (p.at b::y++L))(ht:Txts p ts y)(V:ts.length<1048575)(O: ∀w p' g t,p'= {p with tq:=p'.tq,tn:=ts.length+1,tc:=p'.tc}->Txts p' (ts++ [t]) g->Sat σ w (p'.at b::g++(fu t s e none 0 0 raw::L))->
  R (hQ (kT (kE t))) w):
 callE P eZ #[kT (kE b),.agg #[hY s,hY e],hX (bs raw)] R w:=by
 have I:=ht.2.1
 refine gY.sound ?_
 refine Sat.bx h λb1 w h=>?_
 repeat (first|refine aa ?_|refine h.tk λw h=>?_|refine⟨_,h.ldA,?_⟩|refine⟨_,_,_,h.ldA,?_⟩)
 refine Sat.bx h λt w h=>?_
 repeat (first|refine aa ?_|refine h.tk λw h=>?_|refine⟨_,h.ldA,?_⟩|refine⟨_,_,_,h.ldA,?_⟩)
 have h:Sat σ w (fu t s e none 0 0 raw::(b1,cel [hY s,hY e] aF)::(p.at b::y++L)):=h
 have h:Sat σ w (y++(p.at b::fu t s e none 0 0 raw::L)):=h.less [(b1,cel [hY s,hY e] aF)]
 refine Sat.app1 Fe ht.1 h (v:= kT (kE t)) rfl (by simp[Value.cells,Value.oneCell']) (by kernel_rfl) (by omega) (by omega) (by decide) λU H w g E h=>?_
 have h:Sat σ w (p.at b::g++(fu t s e none 0 0 raw::L)):=h.re
 rw[I] at E⊢
 let p':PS:= {p with tq:=U,tn:=ts.length+1,tc:=H}
 repeat (first|refine aa ?_|refine h.tk λw h=>?_|refine⟨_,h.ldA,?_⟩|refine⟨_,_,_,h.ldA,?_⟩|refine h.stA 0 λw h=>?_|refine h.stA 1 λw h=>?_|refine h.stA 2 λw h=>?_|refine h.stA 3 λw h=>?_|refine h.stA 4 λw h=>?_|refine h.stA 5 λw h=>?_|refine h.stA 6 λw h=>?_|refine h.bx λb0 w h=>?_)
 refine O _ p' g t rfl ⟨?_,by simp[p'],by simp;omega⟩ h
 rw[lV0]
 exact E

theorem vA:P.underlying ff=some (.pointer rJ):=by kernel_rfl
def kY (nb s e t:Nat):ai:=(nb,cel [hY s,hY e,kT (kE t)] mF)
theorem Stk.of {p p':PS}{l:List OB}{M:List ai}(h:Stk p l M)(g:p'.stq=p.stq)(E:p'.stn=p.stn)(y:p'.stc=p.stc):Stk p' l M:=by
 unfold Stk at*;rw[g,E,y];exact h
theorem Txts.of {p p':PS}{l:List Nat}{M:List ai}(h:Txts p l M)(g:p'.tq=p.tq)(E:p'.tn=p.tn)(y:p'.tc=p.tc):Txts p' l M:=by
 unfold Txts at*;rw[g,E,y];exact h

theorem qr {t u:TypeId}{v:Value}{g:Array (String × TypeId)}(y:P.underlying t=some (.interface g))(d:Nat)(w:World):
 (Op.equalIn (d+1) t (.iface u v) .nilIface).run P w= .ok false w:=by
 simp[Op.equalIn,run_underlying y]
theorem ns {t u:TypeId}{v:Value}{g:Array (String × TypeId)}(E:P.underlying t=some (.interface g))(x H:Operand)(w:World):
 (do eqGuard .eql t x H (.iface u v) .nilIface;binOp .eql t (.iface u v) .nilIface).run P w= .ok (hV false) w:=
 w0 rfl rfl (qr E 9999 w)
theorem j3 {t:TypeId}{v:Value}(ht:t≠dl)(w:World):
 (Instr.typeAssert (.iface t v) aO dl true).run P w= .ok (.tuple #[kT none,hV false]) w:=by
 have g:P.underlying dl=some (.pointer ul):=by kernel_rfl
 exact uv (by rw[g];intro y h;cases h) g ht (i:=(P.info? dl).getD default) (by kernel_rfl) (by kernel_rfl) w
theorem uy {P:Program}{t e:TypeId}{i:TypeInfo}(ht:P.underlying t=some (.slice e))(hi:P.info? e=some i)(b n c m:Nat)(y:m<=n)(hc:n<=c)(w:World):
 (Instr.sliceAt t (hT (kE b) n c) none (some (hY m)) none).run P w= .ok (hT (kE b) m c) w:=by
 have g: ¬ ((m:Int)<0):=by omega
 have E: ¬ ((c:Int)<(m:Int)):=by omega
 simp[Instr.sliceAt,Instr.slice,Instr.sliceBounds,run_underlying ht,sizeOf,typeInfo,hi,run_sliceBound w .i64 (m:Int) c .sliceAcap (by omega) (by omega),lK0]

noncomputable def rowBlock:Row P fQ aO 1 16:=
 ⟨(P.info? aO).getD default,((P.info? aO).bind (·.zero)).getD default,by kernel_rfl,by kernel_rfl,by kernel_rfl,by kernel_rfl,by kernel_rfl,by kernel_rfl,by decide⟩
theorem pC {b:Nat}{p:PS}{ob:List OB}{par o:OB}{M IM:List ai}{inner:List Value}{t:TypeId}{v:Value}(Post:PS->List ai->TypeId->Option Addr->Prop)(h:Sat σ w (p.at b::M++(IM++L)))(hs:Stk p (ob++ [par]++ [o]) M)(c5:o.bd= .iface t v)(d1:Sl 1 aO par.q par.n par.c inner IM)(d2:par.n<1000000)(hb: ∀(b4:Ending->World->Prop) w,Sat σ w (p.at b::M++(IM++L))->
  (∀w g y E q,g.stq=p.stq->g.stn=p.stn->g.stc=p.stc->E≠dl->Post g y E q->Sat σ w (g.at b::M++(IM++y))->b4 (hQ (.iface E (kT q))) w)->
  cY P (callMethod o.bd "pub-paratext/pub/rscmarkdown.build" #[.iface ah (kT (kE b))]) b4 w)
 (c8: ∀w p2 a6 O g y E q H I,Post g y E q->p2= {g with stn:=ob.length+1}->Stk p2 (ob++ [{par with q:=H,n:=par.n+1,c:=I}]) a6->
  Sl 1 aO H (par.n+1) I (inner++ [.iface E (kT q)]) O->Sat σ w (p2.at b::a6++(O++y))->R (hQ (.iface E (kT q))) w):
 callE P aI #[kT (kE b)] R w:=by
 have c4:=hs.2.2
 have U:=hs.2.1
 obtain⟨sb,sp,b3,rfl,b9⟩:=hs.split (by simp)
 simp only[lA0,lE0] at U c4
 refine aK.sound ?_
 refine h.tk λw h=>?_
 refine aa (aa ?_)
 refine⟨_,_,_,h.ldA,?_⟩
 refine⟨_,_,_,h.ldA,?_⟩
 rw[U,ki (by omega)]
 refine⟨by omega,by omega,?_⟩
 rw[b3]
 refine aa ?_
 simp only[lK0,lN0,lC0]
 have a7:((ob++ [par])++ [o])[ob.length+1]? =some o:=by simp
 refine⟨o.bd,Sat.ld h (.tail _ (.head _)) (fg (f:=0) (by decide) a7),false,w,by rw[c5];exact ns tB _ _ w,ae rfl ?_⟩
 refine aa ?_
 refine⟨o.bd,Sat.ld h (.tail _ (.head _)) (fg (f:=0) (by decide) a7),?_⟩
 refine hb _ w h λw g y E q c9 d0 W c3 b5 h=>⟨_,rfl,none,false,w,j3 c3 w,ae rfl ?_⟩
 have V:g.stq=kE sb:=by rw[c9,b3]
 have c1:g.stn=ob.length+1+1:=by rw[d0,U]
 refine h.tk λw h=>?_
 refine aa (aa ?_)
 refine⟨_,_,_,h.ldA,?_⟩
 refine⟨_,_,_,h.ldA,?_⟩
 rw[c1,ki (by omega),V]
 have b6:ob.length+1+1<=g.stc:=by have:=hs.1.2.1;rw[U] at this;rw[W];exact this
 refine⟨_,_,_,λw=>uy rowOB.ht rowOB.hi sb (ob.length+1+1) g.stc (ob.length+1) (by omega) b6 w,?_⟩
 refine aa ?_
 refine h.stA 0 λw h=>?_
 let p2:PS:= {g with stq:=kE sb,stn:=ob.length+1}
 have b7:p2= {g with stn:=ob.length+1}:=by simp only[p2,<-V]
 have h:Sat σ w (p2.at b:: [(sb,cel (aP (ob++ [par])++(o.cells++sp)) ay)]++(IM++y)):=by
  rw[iQ,lD0] at h
  exact h
 refine aa ?_
 refine⟨_,_,_,h.ldA,?_⟩
 refine ag (by simp[p2]) ?_
 refine h.tk λw h=>?_
 refine aa (aa ?_)
 refine⟨_,_,_,h.ldA,?_⟩
 refine⟨_,_,_,h.ldA,?_⟩
 rw[show p2.stn=ob.length+1 from rfl,ki (by omega),show p2.stq=kE sb from rfl]
 refine⟨by omega,by omega,aa ?_⟩
 simp only[lK0,lN0,lC0,lL1]
 refine⟨_,_,_,Sat.ld h (.tail _ (.head _)) (fg (f:=1) (by decide) (ik par)),?_⟩
 have h:Sat σ _ (IM++(p2.at b::(sb,cel (aP (ob++ [par])++(o.cells++sp)) ay)::y)):=h.re
 refine Sat.app1 rowBlock d1 h (v:= .iface E (kT q)) rfl (by simp[Value.cells,Value.oneCell']) (by kernel_rfl) (by omega) (by omega) (by decide) λH I w O c2 h=>?_
 have h:Sat σ _ (p2.at b::(sb,cel (aP (ob++ [par])++(o.cells++sp)) ay)::(O++y)):=h.re
 refine Sat.st h (k:=1) rfl (by rw[lA0,aR,lA0,lE0];omega) trivial rfl λw h=>?_
 have e:=kW (l:=ob) (sp:=o.cells++sp) (o:=par) (o':= {par with q:=H,n:=par.n+1,c:=I}) (f:=1) (v:= hT H (par.n+1) I) (by decide) rfl
 have h:Sat σ w (p2.at b::(sb,cel (aP (ob++ [{par with q:=H,n:=par.n+1,c:=I}])++(o.cells++sp)) ay)::(O++y)):=by
  rw[<-e];exact h
 have b8:Stk p2 (ob++ [{par with q:=H,n:=par.n+1,c:=I}]) [(sb,cel (aP (ob++ [{par with q:=H,n:=par.n+1,c:=I}])++(o.cells++sp)) ay)]:=by
  refine Stk.mk' rfl ?_ (by simp[p2]) (by simp;omega)
  show _=g.stc*4
  rw[W,<-b9]
  simp only[lA0,aR,lE0,OB.cells,lF0,lK1]
  omega
 refine c8 w p2 _ O g y E q H I b5 b7 b8 c2 h

def AJ (db s e:Nat)(q:Option Addr)(n c:Nat)(links:Option Nat):ai:=(db,cel [hY s,hY e,hT q n c,.map links] oB)
theorem vR {b:Nat}{H:Option Addr}{p:PS}{ob:List OB}{o:OB}{M:List ai}(h:Sat σ w (p.at b::M++L))(hs:Stk p (ob++ [o]) M)(E: ∀w db,Sat σ w (p.at b::M++(AJ db o.s o.e o.q o.n o.c p.links::L))->R (hQ (.iface da (kT (kE db)))) w):
 callE P iy #[kT H,.iface ah (kT (kE b))] R w:=by
 refine iJ.sound ?_
 refine h.tk λw h=>?_
 refine⟨_,Gf _,aa ?_⟩
 refine⟨_,h.ldA,?_⟩
 have y:=h
 refine bm nJ ?_
 refine tL h hs λw h=>⟨_,_,rfl,y.same h (.head _) (.head _) 1,?_⟩
 have g:=h
 refine bm kh ?_
 refine nx h hs λw h=>⟨_,_,_,rfl,g.same h (.head _) (.head _) 1,?_⟩
 refine Sat.bx h λdb w h=>?_
 have h:Sat σ w (AJ db o.s o.e o.q o.n o.c p.links::(p.at b::M++L)):=h
 exact E w db (h.re)
theorem Gg (q:Option Addr)(w:World):(Instr.typeAssert (.iface da (kT q)) aO da false).run P w= .ok (kT q) w:=by
 have g:P.underlying da=some (.pointer oB):=by kernel_rfl
 exact xF (by rw[g];intro y h;cases h) g w
theorem wX {b O:Nat}{p:PS}{o:OB}{M:List ai}(h:Sat σ w (p.at b::M++L))(hs:Stk p [o] M)(E:o.bd= .iface ij (kT (kE O)))(U: ∀w db,Sat σ w ({p with stn:=0,root:=kE db}.at b::M++(AJ db o.s o.e o.q o.n o.c p.links::L))->R (hQ (.iface da (kT (kE db)))) w):
 callE P aI #[kT (kE b)] R w:=by
 have g:=hs.2.1
 have I:Stk p ([]++ [o]) M:=hs
 obtain⟨sb,sp,y,rfl,V⟩:=hs.split (by simp)
 simp only[lE0] at g
 refine aK.sound ?_
 refine h.tk λw h=>?_
 refine aa (aa ?_)
 refine⟨_,_,_,h.ldA,?_⟩
 refine⟨_,_,_,h.ldA,?_⟩
 rw[g,show i64.wrap (((1:Nat):Int) - 1)=((0:Nat):Int) from rfl]
 refine⟨by omega,by omega,?_⟩
 rw[y]
 refine aa ?_
 simp only[lK0,lN0,lC0,lO6]
 have W:(([]:List OB)++ [o])[0]? =some o:=rfl
 refine⟨o.bd,Sat.ld h (.tail _ (.head _)) rfl,false,w,by rw[E];exact ns tB _ _ w,ae rfl ?_⟩
 refine aa ?_
 refine⟨o.bd,Sat.ld h (.tail _ (.head _)) rfl,?_⟩
 rw[E]
 refine bm tg ?_
 refine vR (ob:= []) h I λw db h=>⟨_,rfl,none,false,w,j3 (by decide) w,ae rfl ?_⟩
 refine h.tk λw h=>?_
 refine aa (aa ?_)
 refine⟨_,_,_,h.ldA,?_⟩
 refine⟨_,_,_,h.ldA,?_⟩
 have H:1<=p.stc:=by have:=hs.1.2.1;rw[g] at this;exact this
 rw[g,show i64.wrap (((1:Nat):Int) - 1)=((0:Nat):Int) from rfl,y]
 refine⟨_,_,_,λw=>uy rowOB.ht rowOB.hi sb 1 p.stc 0 (by omega) H w,?_⟩
 refine aa ?_
 refine h.stA 0 λw h=>?_
 refine aa ?_
 refine⟨_,_,_,h.ldA,?_⟩
 refine ae rfl ?_
 refine⟨_,_,Gg _ _,aa ?_⟩
 refine h.stA 0 λw h=>?_
 refine U _ db ?_
 have e:({p with stn:=0,root:=kE db}:PS)= {p with stq:=kE sb,stn:=0,root:=kE db}:=by rw[<-y]
 rw[e]
 exact h

noncomputable def rowInl:Row P ap aC 1 16:=
 ⟨(P.info? aC).getD default,((P.info? aC).bind (·.zero)).getD default,by kernel_rfl,by kernel_rfl,by kernel_rfl,by kernel_rfl,by kernel_rfl,by kernel_rfl,by decide⟩
def Inls (p:PS)(vs:List Value)(M:List ai):Prop:=Sl 1 aC p.lq p.ln p.lc vs M/\vs.length<4294967296
def qI (b:Nat)(s:List UInt8):ai:=(b,cel [hX (bs s)] nD)
theorem vN {b:Nat}{p:PS}{i:Int}(h:Sat σ w (p.at b::L))(g: ∀w,Sat σ w ({p with em:=i}.at b::L)->R (hQ (.tuple #[])) w):
 callE P gI #[kT (kE b),hY i] R w:=by
 refine jm.sound ?_
 refine aa ?_
 refine h.stA 0 λw h=>?_
 exact g _ h
theorem Cr {b:Nat}{p:PS}{i:Int}(h:Sat σ w (p.at b::L))(hi:i<=p.em)(g: ∀w,Sat σ w (p.at b::L)->R (hQ (.tuple #[])) w):
 callE P dn #[kT (kE b),hY i] R w:=by
 refine gM.sound ?_
 refine aa ?_
 refine⟨_,h.ldA,?_⟩
 exact ae (by simpa using hi) (g _ h)
theorem Cq {b i e:Nat}{p:PS}{vs:List Value}{M:List ai}(h:Sat σ w (p.at b::M++L))(hv:Inls p vs M)(E:p.em=e)(hi:e<i)(b4:i<=p.s.length)(b3:vs.length<4294967295)(W: ∀w p' g nb,p'= {p with em:=i,lq:=p'.lq,ln:=vs.length+1,lc:=p'.lc}->Inls p' (vs++ [.iface bH (kT (kE nb))]) g->
  Sat σ w (p'.at b::g++(qI nb ((p.s.take i).drop e)::L))->R (hQ (.tuple #[])) w):
 callE P dn #[kT (kE b),hY i] R w:=by
 have I:p.ln=vs.length:=by have:=hv.1.1;omega
 refine gM.sound ?_
 refine aa ?_
 refine⟨_,h.ldA,?_⟩
 rw[E]
 refine ag (by simpa using hi) ?_
 refine h.tk λw h=>?_
 refine aa (aa (aa ?_))
 refine⟨_,_,_,h.ldA,?_⟩
 refine⟨_,h.ldA,?_⟩
 refine⟨_,h.ldA,?_⟩
 rw[E]
 refine⟨by omega,by omega,by simp;omega,?_⟩
 rw[lC0,lC0,cm]
 have y:=h
 refine Sat.bx h λnb w h=>?_
 refine⟨y.same h (.head _) (.tail _ (.head _)) 1,?_⟩
 have h:Sat σ w (M++(p.at b::qI nb ((p.s.take i).drop e)::L)):=Sat.re (L:=qI nb ((p.s.take i).drop e)::(p.at b::M++L)) h
 have a7:=y
 refine Sat.app1S rowInl hv.1 h (v:= .iface bH (kT (kE nb))) rfl (by simp[Value.cells,Value.oneCell']) (by kernel_rfl) (by omega) (by omega) (by decide)
  (C:=λH=>SameC _ H _ 1) (λH X V=>Sat.same h V (b:=b) (o:=cel p.cells gC) (by simp) (by simp) 1) λa6 U w g O h=>?_
 have h:Sat σ w (p.at b::g++(qI nb ((p.s.take i).drop e)::L)):=h.re
 let p':PS:= {p with em:=i,lq:=a6,ln:=p.ln+1,lc:=U}
 refine aa ?_
 refine h.stA 0 λw h=>?_
 refine aa ?_
 refine h.stA 0 λw h=>?_
 refine W _ p' g nb (by simp[p',I]) ⟨O,by simp;omega⟩ h
def fo (R:EP)(V:OA)(w:World):Prop:=
 tk w λg=>
 aA V λa2=>
 aA V λa3=>
 ∃E H I,g.cell? (a2.add 1)=some (hT E H I)/\
 ∃b3 O a7,g.cell? (a3.add 1)=some (hT b3 O a7)/\
 ∃U y,(Builtin.unsafeSliceData_ #[bJ] pQ #[hT E H I]).run P g= .ok (kT U) y/\
 SameC g y (a3.add 1) 1/\
 ∃a6 W,(Builtin.unsafeString_ #[pQ,bg] aq #[kT U,hY (O:Int)]).run P y= .ok (hX a6) W/\
 R (hQ (hX a6)) W
theorem fo.sound {R x0 w}(h:fo R x0 w):callE P dm #[kT x0] R w:=
 aH [(5,.dr (rpN [0,3,6,15,18,21,10,25,27,14,32,33]))] Tryz.func75 Tryz.call75 h
def eE (R:EP)(g:OA)(b6:Int)(w:World):Prop:=
 callE P cE #[kT g] (λe b4=>e= hQ (.tuple #[])/\
 aA g λa3=>
 ∃y E I,b4.cell? (a3.add 1)=some (hT y E I)/\
 ∃W a6,∃V b3,(Instr.buildSlice bJ 1 #[(0,.int .u8 b6)]).run P b4= .ok (hT W a6 V) b3/\
 ∃U H,∃O a7,(Builtin.append_ #[bJ,bJ] bJ #[hT y E I,hT W a6 V]).run P b3= .ok (hT U H O) a7/\
 aA g λa9=>
 stV a7 ((a9.add 1).add 0) (hT U H O) λb5=>
 R (.returned .nilIface) b5) w
theorem eE.sound {R x0 x1 w}(h:eE R x0 x1 w):callE P bU #[kT x0,.int .u8 x1] R w:=
 cD Tryz.func74 Tryz.call74 h
def d6 (R:EP)(g:OA)(V:BA)(w:World):Prop:=
 callE P cE #[kT g] (λe a6=>e= hQ (.tuple #[])/\
 aA g λa3=>
 ∃y E H,a6.cell? (a3.add 1)=some (hT y E H)/\
 ∃U O,∃I W,(Builtin.append_ #[bJ,aq] bJ #[hT y E H,hX V]).run P a6= .ok (hT U O I) W/\
 aA g λb3=>
 stV W ((b3.add 1).add 0) (hT U O I) λb4=>
 R (hQ (.tuple #[hY (V.size:Int),.nilIface])) b4) w
theorem d6.sound {R x0 x1 w}(h:d6 R x0 x1 w):callE P bv #[kT x0,hX x1] R w:=
 cD Tryz.func73 Tryz.call73 h
def eC (R:EP)(g:OA)(w:World):Prop:=
 aA g λa1=>
 ∃H,w.cell? a1=some (kT H)/\
 ∃a6 y,(do eqGuard .eql cR (.tmp 5) (.const (kT none)) (kT H) (kT none);binOp .eql cR (kT H) (kT none)).run P w= .ok (hV a6) y/\
 br a6
 (∃V W,(convert cR i7 (kT g)).run P y= .ok (kT V) W/\
 callE P fC #[kT V] (λe b5=> ∃b3,e= hQ (kT b3)/\
 ∃a7 O,(convert i7 cR (kT b3)).run P b5= .ok (kT a7) O/\
 aA g λa11=>
 stV O (a11.add 0) (kT a7) λb4=>
 R (hQ (.tuple #[])) b4) W)
 (aA g λa13=>
 ∃E,y.cell? a13=some (kT E)/\
 ∃U I,(do eqGuard .neq cR (.tmp 17) (.tmp 18) (kT E) (kT g);binOp .neq cR (kT E) (kT g)).run P y= .ok (hV U) I/\
 br U
 (False)
 (R (hQ (.tuple #[])) I))
theorem eC.sound {R x0 w}(h:eC R x0 w):callE P cE #[kT x0] R w:=
 aH [(23,.no)] Tryz.func103 Tryz.call103 h
def dI (R:EP)(y:BA)(E:Int)(w:World):Prop:=
 callE P dv #[hX y,.int .u8 E] (λe H=> ∃g,e= hQ (hY g)/\
 R (hQ (hY g)) H) w
theorem dI.sound {R x0 x1 w}(h:dI R x0 x1 w):callE P eX #[hX x0,.int .u8 x1] R w:=
 cD Tryz.func232 Tryz.call232 h
def iG (R:EP)(y:BA)(E:Int)(w:World):Prop:=
 callE P eX #[hX y,.int .u8 E] (λe H=> ∃g,e= hQ (hY g)/\
 R (hQ (hY g)) H) w
theorem iG.sound {R x0 x1 w}(h:iG R x0 x1 w):callE P iv #[hX x0,.int .u8 x1] R w:=
 cD Tryz.func178 Tryz.call178 h

noncomputable def rowU8:Row P bJ dx 1 1:=
 ⟨(P.info? dx).getD default,((P.info? dx).bind (·.zero)).getD default,by kernel_rfl,by kernel_rfl,by kernel_rfl,by kernel_rfl,by kernel_rfl,by kernel_rfl,by decide⟩
def bc (l:List UInt8):List Value:=l.map λc=> .int .u8 (c.toNat:Int)
@[simp] theorem sS (l:List UInt8):(bc l).length=l.length:=by simp[bc]
theorem xa (a b:List UInt8):bc (a++b)=bc a++bc b:=by simp[bc]
theorem EN {l:List UInt8}{j:Nat}(h:j<l.length):(bc l)[j]? =some (.int .u8 (l[j].toNat:Int)):=by simp[bc,h]
abbrev By (q:Option Addr)(n c:Nat)(l:List UInt8)(M:List ai):Prop:=Sl 1 dx q n c (bc l) M
theorem By.len {q:Option Addr}{n c:Nat}{l:List UInt8}{M:List ai}(h:By q n c l M):n=l.length:=by
 have:=h.1
 rw[sS] at this
 omega
theorem By.nil:By none 0 0 [] []:=Sl.nil 1 dx
theorem wZ (s:List UInt8):Go.byteCells (bs s)=bc s:=by
 simp[Go.byteCells,bc,bs]
theorem By.appS {q:Option Addr}{n c:Nat}{l:List UInt8}{M:List ai}(b3:By q n c l M)(h:Sat σ w (M++L))(s:List UInt8)(a7:s≠ []\/q≠none)(hb:n+s.length<=1099511627776){K:Option Addr->Nat->Nat->World->Prop}(b5: ∀g y E H,By g (n+s.length) y (l++s) H->Sat σ E (H++L)->g≠none->c<=y->K g (n+s.length) y E):
 ∃g O y E,(Builtin.append_ #[bJ,aq] bJ #[hT q n c,hX (bs s)]).run P w= .ok (hT g O y) E/\K g O y E:=by
 have I:=Src.ofString (P:=P) (w:=w) (tx:=aq) (by kernel_rfl) (bs s)
 rw[aJ,wZ] at I
 have U:0<s.length\/q≠none:=by
  rcases a7 with h|h
  ·exact .inl (lY0.2 h)
  ·exact .inr h
 obtain⟨g,y,E,H,hr,V,b4,W,a6⟩:=Sat.app rowU8 (ty:=bJ) b3 h I U (by omega) (by omega)
 refine⟨g,_,y,E,hr,b5 g y E H ?_ b4 W a6⟩
 show Sl _ _ _ _ _ (bc (l++s)) _
 rw[xa]
 exact V
theorem By.app1 {q:Option Addr}{n c:Nat}{l:List UInt8}{M:List ai}(b3:By q n c l M)(h:Sat σ w (M++L))(k:UInt8)(hb:n+1<=1099511627776){K:Option Addr->Nat->Nat->World->Prop}(b4: ∀g y E H,By g (n+1) y (l++ [k]) H->Sat σ E (H++L)->K g (n+1) y E):
 ∃U O I V,(Instr.buildSlice bJ 1 #[(0,.int .u8 (k.toNat:Int))]).run P w= .ok (hT U O I) V/\
 ∃g W y E,(Builtin.append_ #[bJ,bJ] bJ #[hT q n c,hT U O I]).run P V= .ok (hT g W y) E/\K g W y E:=by
 refine Sat.app1 rowU8 b3 h (v:= .int .u8 (k.toNat:Int)) rfl (by simp[Value.cells,Value.oneCell']) (by kernel_rfl) (by omega) (by omega) (by decide) λg y E H a6 a7=>b4 g y E H ?_ a7
 show Sl _ _ _ _ _ (bc (l++ [k])) _
 rw[xa]
 exact a6
theorem By.str {q:Option Addr}{n c:Nat}{l:List UInt8}{M:List ai}(g:By q n c l M)(h:Sat σ w (M++L)):
 (convert bJ aq (hT q n c)).run P w= .ok (hX (bs l)) w:=by
 have H:=g.len
 subst H
 obtain⟨_,_,⟨rfl,E,rfl,rfl⟩|⟨b,sp,rfl,rfl,I⟩⟩:=g
 ·obtain rfl:=lB1 E
  exact Lib.run_convert_nil_bytes w _ _ dx 0 (by kernel_rfl) (by kernel_rfl) (by kernel_rfl)
 ·refine run_convert_bytes_back w _ _ dx (hZ b 0) c l (by kernel_rfl) (by kernel_rfl) (by kernel_rfl) λj y=>?_
  rw[Addr.add_zero_lit]
  refine h.ld (.head _) ?_
  rw[lM0 (by rw[sS];exact y),EN y]
theorem Bf {P:Program}{t e:TypeId}{i:TypeInfo}(ht:P.underlying t=some (.slice e))(hi:P.info? e=some i)(a:Option Addr)(n c l m:Nat)(g:l<=m)(y:m<=c)(w:World):
 (Instr.sliceAt t (hT a n c) (some (hY l)) (some (hY m)) none).run P w= .ok (hT (if c=l then a else a.map (·.add (l*i.size))) (m - l) (c - l)) w:=by
 simp[Instr.sliceAt,Instr.slice,Instr.sliceBounds,run_underlying ht,sizeOf,typeInfo,hi,run_sliceBound w .i64 (m:Int) c .sliceAcap (by omega) (by omega),run_sliceBound w .i64 (l:Int) m .sliceB (by omega) (by omega)]
theorem y0 {P:Program}{t e:TypeId}{i:TypeInfo}(ht:P.underlying t=some (.slice e))(hi:P.info? e=some i)(a:Option Addr)(n c l:Nat)(g:l<=n)(w:World):
 (Instr.sliceAt t (hT a n c) (some (hY l)) none none).run P w= .ok (hT (if c=l then a else a.map (·.add (l*i.size))) (n - l) (c - l)) w:=by
 simp[Instr.sliceAt,Instr.slice,Instr.sliceBounds,run_underlying ht,sizeOf,typeInfo,hi,run_sliceBound w .i64 (l:Int) n .sliceB (by omega) (by omega)]
theorem qD {P:Program}{t e:TypeId}{i:TypeInfo}(ht:P.underlying t=some (.slice e))(hi:P.info? e=some i)(a:Option Addr)(n c m:Nat)(y:m<=c)(w:World):
 (Instr.sliceAt t (hT a n c) none (some (hY m)) none).run P w= .ok (hT a m c) w:=by
 have g: ∀a:Addr,a.add 0=a:=λa=>rfl
 simp[Instr.sliceAt,Instr.slice,Instr.sliceBounds,run_underlying ht,sizeOf,typeInfo,hi,run_sliceBound w .i64 (m:Int) c .sliceAcap (by omega) (by omega),g]
theorem EJ {P:Program}(t ty:TypeId)(q:Option Addr)(n c:Nat)(e:TypeId)(ht:P.underlying t=some (.slice e))(w:World):(Builtin.cap_ #[t] ty #[hT q n c]).run P w= .ok (hY c) w:=by
 simp[Builtin.cap_,underlying,ht,goInt]
end Go.Proofs.YtendaipfdnhnaaaGreatDoor

set_option maxRecDepth 20000
namespace Go.Proofs.YtendaipfdnhnaaaGreatDoor
open Go.Proofs
noncomputable abbrev lN:Func:=Tryz.f139
theorem lr:P.funcs[fC]? =some lN:=Tryz.func139
noncomputable abbrev iT:Func:=Tryz.f263
theorem ip:P.funcs[dv]? =some iT:=Tryz.func263
noncomputable abbrev x_internal_bytealg_MakeNoZero:Func:=Tryz.f270
theorem jy:P.funcs[dZ]? =some x_internal_bytealg_MakeNoZero:=Tryz.func270
end Go.Proofs.YtendaipfdnhnaaaGreatDoor


namespace Go.Proofs.YtendaipfdnhnaaaGreatDoor
open Go.Proofs Go.IntWalk Go.RowKit
set_option maxRecDepth 20000
variable {σ:Out} {w:World} {L L':List ai} {R:Ending->World->Prop} {op:Opt}

theorem Ck {f:FuncId}{g:Func}{e:Array Value->Sem Value}{E:Array Value}{v:Value}{y:World}(U:P.funcs[f]? =some g)(H:(g.name== "runtime.NumGoroutine")=false)
 (hb:g.body.isNone=true) (O:Extern.findNext g=none) (I:Extern.find g=some e) (hr:(e E).run P w= .ok v y) (h:R (hQ v) y):callE P f E R w:=by
 refine .inr ⟨v,y,?_,h⟩
 rw[run_callFunc_extern U H hb O I,hr]
 rfl
theorem xX {x:Value}(h:R (hQ x) w):callE P fC #[x] R w:=
 Ck (e:=Extern.AbiNoEscape.same) lr (by kernel_rfl) (by kernel_rfl) (by kernel_rfl) (by kernel_rfl) rfl h
def idxB (l:List UInt8)(c:UInt8):Int:=Lib.indexByte l c
theorem wE {l:List UInt8}{c:UInt8}(h:R (hQ (hY (idxB l c))) w):callE P dv #[hX (bs l),.int .u8 (c.toNat:Int)] R w:=by
 refine Ck (e:=Extern.BytealgIndexByte.indexByte) ip (by kernel_rfl) (by kernel_rfl) (by kernel_rfl) (by kernel_rfl) (Lib.run_indexByteString _ _ w) ?_
 have e:((c.toNat:Int)).toNat.toUInt8=c:=by simp
 rw[e]
 exact h
theorem uV {l:List UInt8}{c:UInt8}(h:R (hQ (hY (idxB l c))) w):callE P iv #[hX (bs l),.int .u8 (c.toNat:Int)] R w:=by
 refine iG.sound ?_
 refine dI.sound ?_
 refine wE ⟨_,rfl,⟨_,rfl,h⟩⟩
end Go.Proofs.YtendaipfdnhnaaaGreatDoor

namespace Go.Proofs.YtendaipfdnhnaaaGreatDoor
open Go.Proofs
theorem FQ {P:Program}{t:TypeId}{a b:Value}{r:Bool}{w:World}{x g:Operand}(E:(eqGuard .eql t x g a b).run P w= .ok () w)(H:binOp .eql t a b=(do pure (hV (<-Op.equal t a b))))(h:(Op.equal t a b).run P w= .ok r w):(do eqGuard .eql t x g a b;binOp .eql t a b).run P w= .ok (hV r) w:=by
 rw[H]
 simp only[lX0,E,h,lJ0]
 rfl
theorem vh {P:Program}{t:TypeId}{a b:Value}{r:Bool}{w:World}{x g:Operand}(E:(eqGuard .neq t x g a b).run P w= .ok () w)(H:binOp .neq t a b=(do pure (hV (!(<-Op.equal t a b)))))(h:(Op.equal t a b).run P w= .ok r w):(do eqGuard .neq t x g a b;binOp .neq t a b).run P w= .ok (hV (!r)) w:=by
 rw[H]
 simp only[lX0,E,h,lJ0]
 rfl
variable {P:Program}
theorem pA {t e:TypeId}(g:P.underlying t=some (.pointer e))(q:Option Addr)(w:World):(Op.equal t (kT q) (kT none)).run P w= .ok q.isNone w:=
 have h: ∀d,(Op.equalIn (d+1) t (kT q) (kT none)).run P w= .ok q.isNone w:=λd=>by
  cases q<;>simp[Op.equalIn,run_underlying g]
 h 9999
theorem ke {t e:TypeId}{x E:Operand}(g:P.underlying t=some (.pointer e))(q:Option Addr)(w:World):
 (do eqGuard .eql t x E (kT q) (kT none);binOp .eql t (kT q) (kT none)).run P w= .ok (hV q.isNone) w:=
 FQ rfl rfl (pA g q w)
theorem dN {t e:TypeId}{x E:Operand}(g:P.underlying t=some (.pointer e))(q:Option Addr)(w:World):
 (do eqGuard .neq t x E (kT q) (kT none);binOp .neq t (kT q) (kT none)).run P w= .ok (hV (!q.isNone)) w:=
 vh rfl rfl (pA g q w)
theorem tz {t e:TypeId}(g:P.underlying t=some (.pointer e)){i:TypeInfo}(hi:P.info? e=some i)(hs:i.size≠0)(b:Nat)(w:World):(Op.equal t (kT (kE b)) (kT (kE b))).run P w= .ok true w:=
 have h: ∀d,(Op.equalIn (d+1) t (kT (kE b)) (kT (kE b))).run P w= .ok true w:=λd=>by
  simp[Op.equalIn,run_underlying g,sizeOf,typeInfo,hi,hs,sameAddr]
 h 9999
theorem wj {t e:TypeId}{x E:Operand}(g:P.underlying t=some (.pointer e)){i:TypeInfo}(hi:P.info? e=some i)(hs:i.size≠0)(b:Nat)(w:World):
 (do eqGuard .neq t x E (kT (kE b)) (kT (kE b));binOp .neq t (kT (kE b)) (kT (kE b))).run P w= .ok (hV false) w:=
 vh rfl rfl (tz g hi hs b w)
theorem mO {t:TypeId}{H rs:Array TypeId}{O:Bool}{x U:Operand}(I:P.underlying t=some (.func H rs O))(k:FuncId)(f E:Array Value)(w:World):
 (do eqGuard .neq t x U (.func (.func k) f E) .nilFunc;binOp .neq t (.func (.func k) f E) .nilFunc).run P w= .ok (hV true) w:=by
 have h: ∀d,(Op.equalIn (d+1) t (.func (.func k) f E) .nilFunc).run P w= .ok false w:=λd=>by
  simp[Op.equalIn,run_underlying I]
 exact vh rfl rfl (h 9999)
theorem ya {t:TypeId}{g rs:Array TypeId}{E:Bool}{x I:Operand}(H:P.underlying t=some (.func g rs E))(w:World):
 (do eqGuard .neq t x I .nilFunc .nilFunc;binOp .neq t .nilFunc .nilFunc).run P w= .ok (hV false) w:=by
 have h: ∀d,(Op.equalIn (d+1) t .nilFunc .nilFunc).run P w= .ok true w:=λd=>by
  simp[Op.equalIn,run_underlying H]
 exact vh rfl rfl (h 9999)
end Go.Proofs.YtendaipfdnhnaaaGreatDoor


namespace Go.Proofs.YtendaipfdnhnaaaGreatDoor
open Go.Proofs Go.IntWalk Go.RowKit
set_option maxRecDepth 20000
variable {σ:Out} {w:World} {L L':List ai} {R:Ending->World->Prop} {op:Opt}

theorem By.raw {q:Option Addr}{n c:Nat}{l:List UInt8}{M:List ai}(h:By q n c l M):(q=none/\n=0/\c=0/\M= [])\/ ∃b sp,q=kE b/\M= [(b,cel (bc l++sp) dx)]/\(bc l++sp).length=c:=by
 obtain⟨_,_,h|⟨b,sp,g,y,E⟩⟩:=h
 ·exact .inl h
 ·exact .inr ⟨b,sp,g,y,by omega⟩

abbrev CI (b:Nat)(p q:Option Addr)(n c:Nat):ai:=(b,cel [kT p,hT q n c] cr)
def Bld (b:Nat)(E:Bool)(l:List UInt8)(M:List ai):Prop:=
 ∃p q c y,M=CI b p q l.length c::y/\By q l.length c l y/\(p=none\/p=kE b)/\q.isSome=E/\(E=true->0<c)
theorem CH (b:Nat):Bld b false [] [(b,cel [kT none,hT none 0 0] cr)]:=⟨none,none,0,[],rfl,By.nil,.inl rfl,rfl,by simp⟩
theorem Sat.shape (h:Sat σ w L){b:Nat}{cs:List Value}{e:TypeId}(g:(b,cel cs e)∈L):w.shape? b=some (e,cs.length):=by
 have:=h.at_ _ g
 simp only[cel] at this
 simp[World.shape?,this]
theorem nt {b:Nat}{p q:Option Addr}{n c:Nat}(h:Sat σ w (CI b p q n c::L))(I:p=none\/p=kE b)(H: ∀w,Sat σ w (CI b (kE b) q n c::L)->R (hQ (.tuple #[])) w):callE P cE #[kT (kE b)] R w:=by
 have g:P.underlying cR=some (.pointer cr):=by kernel_rfl
 have E:P.underlying i7=some .unsafePointer:=by kernel_rfl
 have hi:P.info? cr=some ((P.info? cr).getD default):=by kernel_rfl
 have hs:((P.info? cr).getD default).size=2:=by kernel_rfl
 have y:=h.shape (.head _)
 refine eC.sound ?_
 refine aa ?_
 refine⟨_,h.ldA,?_⟩
 refine⟨_,_,ke g _ w,?_⟩
 rcases I with rfl|rfl
 ·refine ag rfl ?_
  refine⟨_,_,Lib.run_to_unsafe w (hZ b 0) g E hi (by rw[hs];decide) y (lO3 _),?_⟩
  refine xX ⟨_,rfl,?_⟩
  refine⟨_,_,Lib.run_from_unsafe w (hZ b 0) E g hi y (by kernel_rfl),?_⟩
  refine aa ?_
  refine h.stA 0 λw h=>?_
  exact H _ h
 ·refine ae rfl ?_
  refine aa ?_
  refine⟨_,h.ldA,?_⟩
  refine⟨_,_,wj g hi (by rw[hs];decide) b w,ae rfl ?_⟩
  exact H _ h
theorem sR {b:Nat}{U:Bool}{l s:List UInt8}{M:List ai}(b3:Bld b U l M)(h:Sat σ w (M++L))(y:s≠ []\/U=true)(hb:l.length+s.length<=1099511627776)(b6: ∀w E,Bld b true (l++s) E->Sat σ w (E++L)->R (hQ (.tuple #[hY s.length,.nilIface])) w):callE P bv #[kT (kE b),hX (bs s)] R w:=by
 obtain⟨p,q,c,a7,rfl,b5,b7,b4,hc⟩:=b3
 refine d6.sound ?_
 refine nt h b7 λw h=>⟨rfl,?_⟩
 refine aa ?_
 refine⟨_,_,_,h.ldA,?_⟩
 have h:Sat σ w (a7++(CI b (kE b) q l.length c::L)):=h.re
 have V:s≠ []\/q≠none:=y.imp id (λH=>by rw[<-b4] at H;intro h;rw[h] at H;cases H)
 refine b5.appS h s V hb λb8 O w E I h a6 b9=>?_
 have h:Sat σ w (CI b (kE b) q l.length c::(E++L)):=h.re
 refine aa ?_
 refine h.stA 0 λw h=>?_
 rw[aJ]
 have W:0<O:=by
  rcases y with y|y
  ·have:=I.2.1
   have:=lY0.2 y
   omega
  ·have:=hc y;omega
 rw[<-lA0] at I
 refine b6 w (CI b (kE b) b8 (l++s).length O::E) ⟨_,_,_,_,rfl,I,.inr rfl,Option.isSome_iff_ne_none.2 a6,λ_=>W⟩ ?_
 rw[lA0]
 exact h
theorem yH {b:Nat}{g:Bool}{l:List UInt8}{k:UInt8}{M:List ai}(U:Bld b g l M)(h:Sat σ w (M++L))(hb:l.length+1<=1099511627776)(a6: ∀w y,Bld b true (l++ [k]) y->Sat σ w (y++L)->R (.returned .nilIface) w):callE P bU #[kT (kE b),.int .u8 (k.toNat:Int)] R w:=by
 obtain⟨p,q,c,O,rfl,W,a7,b4,hc⟩:=U
 refine eE.sound ?_
 refine nt h a7 λw h=>⟨rfl,?_⟩
 refine aa ?_
 refine⟨_,_,_,h.ldA,?_⟩
 have h:Sat σ w (O++(CI b (kE b) q l.length c::L)):=h.re
 refine W.app1 h k hb λH V w y E h=>?_
 have h:Sat σ w (CI b (kE b) q l.length c::(y++L)):=h.re
 refine aa ?_
 refine h.stA 0 λw h=>?_
 have I:H.isSome=true:=by
  rcases E.raw with ⟨_,b3,_,_⟩|⟨b5,sp,rfl,_,_⟩
  ·omega
  ·rfl
 refine a6 w (CI b (kE b) H (l++ [k]).length V::y) ⟨_,_,_,_,rfl,by rw[lA0];exact E,.inr rfl,I,λ_=>by have:=E.2.1;omega⟩ ?_
 rw[lA0]
 exact h
theorem Sat.freeze {b:Nat}{cs:List Value}{e:TypeId}(h:Sat σ w ((b,cel cs e)::L))(n:Nat):Sat σ (w.freeze (hZ b 0) n) L:=by
 unfold World.freeze
 split
 ·exact h.tail
 ·refine⟨h.os,h.out,h.tail.nodup,λc hc=>?_⟩
  have g:b≠c.1:=by
   intro y
   have:=h.nodup
   simp only[lU1,lV3] at this
   exact this.1 (by rw[y];exact lS1.2 ⟨c,hc,rfl⟩)
  simp only[lT4,if_neg g]
  exact h.at_ _ (.tail _ hc)
theorem sQ {b:Nat}{g:Bool}{l:List UInt8}{M:List ai}(a6:Bld b g l M)(h:Sat σ w (M++L))(b5:l.length<4611686018427387904)(H: ∀w,Sat σ w L->R (hQ (hX (bs l))) w):
 callE P dm #[kT (kE b)] R w:=by
 obtain⟨p,q,c,a7,rfl,W,b4,V,hc⟩:=a6
 refine fo.sound ?_
 refine h.tk λw h=>?_
 refine aa (aa ?_)
 refine⟨_,_,_,h.ldA,?_⟩
 refine⟨_,_,_,h.ldA,?_⟩
 rcases W.raw with ⟨rfl,y,rfl,rfl⟩|⟨O,sp,rfl,rfl,b3⟩
 ·obtain rfl:=lB1 y
  refine⟨_,_,Lib.run_unsafeSliceData_nil (P:=P) (w:=w) _ _ _ _,λ_ _=>rfl,?_⟩
  refine⟨_,_,Lib.run_unsafeString_none (P:=P) (w:=w) _ _ _ _,H _ h.tail⟩
 ·refine⟨_,_,Lib.run_unsafeSliceData_row (P:=P) (w:=w) _ _ _ _ _ (by have:=hc (by rw[<-V];rfl);omega),λ_ _=>rfl,?_⟩
  have E:Sat σ w ((O,cel (bc l++sp) dx)::L):=h.tail
  by_cases y:l= []
  ·subst y
   refine⟨_,_,Lib.run_unsafeString_none (P:=P) (w:=w) _ _ _ _,H _ E.tail⟩
  ·refine⟨_,_,Lib.run_unsafeString_row (w:=w) pQ bg aq dx (by kernel_rfl) (by kernel_rfl) O _ (E.shape (.head _)) l y (by simp) (by omega) (λj x U=>?_),H _ (E.freeze _)⟩
   rw[Addr.add_zero_lit]
   have I:=(lL0.1 U).1
   refine E.ld (.head _) ?_
   rw[lM0 (by rw[sS];exact I),EN I]
   rw[(lL0.1 U).2]

def ab (s:List UInt8):List UInt8->List UInt8:=λl=>l++s

theorem CL {t ty e:TypeId}{bytes:Nat}(r:Row P t e 1 bytes){b k c:Nat}{cs:List Value}(h:Sat σ w ((b,cel cs e)::L))(U:k<cs.length)(hc:k<c){v:Value}(hv:v.cells= #[v])(c2:v.oneCell'=true)(b4:Instr.fill (λi=>some (i*1,1)) ((Array.range (1*1)).map (r.z.cells[· %r.z.cells.size]!)) [(0,v)]=some v.cells){K:Option Addr->Nat->Nat->World->Prop}{C:World->Prop}(b9: ∀g X,Sat σ g (X::((b,cel cs e)::L))->C g)(b8: ∀H,Sat σ H ((b,cel (cs.set k v) e)::L)->K (kE b) (k+1) c H):
 ∃b3 O V g,(Instr.buildSlice t 1 #[(0,v)]).run P w= .ok (hT b3 O V) g/\C g/\
  ∃a6 I a7 W,(Builtin.append_ #[t,t] ty #[hT (kE b) k c,hT b3 O V]).run P g= .ok (hT a6 I a7) W/\K a6 I a7 W:=by
 have b5:=run_buildSlice (P:=P) w t e 1 #[(0,v)] v.cells r.i r.z r.ht r.hi r.hz (by rw[r.hs];omega) (by rw[r.hs];omega) (by rw[r.hs];exact b4)
 refine⟨_,_,_,_,b5,?_⟩
 have y:=h.alc v.cells.toList e
 have c1:YtendaipfdnhnaaaGreatDoor.alc w v.cells.toList.toArray e=w.alloc (.cells v.cells e):=by rw[lC4];rfl
 rw[c1] at y
 generalize c4:w.alloc (.cells v.cells e)=g at y⊢
 generalize w.heap.size=nb at y⊢
 rw[hv] at y
 have hs:Src P 1 t (hT (kE nb) 1 1) 1 [v] g:=by
  refine Src.ofSlice g r.ht _ 1 1 _ (by simp) (λj u c3=>?_) (by simp[c2])
  rw[show (Addr.add (hZ nb 0) j)=⟨nb,j,none⟩ from Addr.add_zero_lit nb j]
  exact y.ld (lY1 ..) c3
 have b6:Src P r.i.size t (hT (kE nb) 1 1) 1 [v] g:=by rw[r.hs];exact hs
 refine⟨b9 _ _ y,_,_,_,_,run_append_room_src g t t ty e r.i r.ht r.hi b 0 k c _ 1 [v] b6 (by omega) ?_ ?_,b8 _ ?_⟩
 ·intro j E
  simp at E
  subst E
  rw[r.hs,lN0,lC1,lL1,y.ld (.tail _ (.head _)) (lI0 U)]
  rfl
 ·exact λj E=>y.not_frozen (.tail _ (.head _))
 ·rw[r.hs]
  have hb:Sat σ g ((b,cel cs e)::(nb,cel [v] e)::L):=y.up1
  have:=qG hb (0+k*1) [v] (by simp;omega)
  rw[lN0,lC1] at this⊢
  have b7:cs.take k++ [v]++cs.drop (k+1)=cs.set k v:=by
   rw[lL4,if_pos U];simp
  rw[show [v].length=1 from rfl,b7] at this
  exact this.less [(nb,cel [v] e)]
theorem vk {t ty e:TypeId}{bytes:Nat}(r:Row P t e 1 bytes){b k c:Nat}{cs:List Value}(h:Sat σ w ((b,cel cs e)::L))(b4:k<cs.length)(hc:k<c){v:Value}(hv:v.cells= #[v])(I:v.oneCell'=true)(a7:Instr.fill (λi=>some (i*1,1)) ((Array.range (1*1)).map (r.z.cells[· %r.z.cells.size]!)) [(0,v)]=some v.cells){K:Option Addr->Nat->Nat->World->Prop}(b5: ∀W,Sat σ W ((b,cel (cs.set k v) e)::L)->K (kE b) (k+1) c W):
 ∃E y g H,(Instr.buildSlice t 1 #[(0,v)]).run P w= .ok (hT E y g) H/\
  ∃U a6 O V,(Builtin.append_ #[t,t] ty #[hT (kE b) k c,hT E y g]).run P H= .ok (hT U a6 O) V/\K U a6 O V:=by
 obtain⟨E,y,g,H,I,_,b3⟩:=CL (ty:=ty) r h b4 hc hv I a7 (C:=λ_=>True) (λ_ _ _=>trivial) b5
 exact⟨E,y,g,H,I,b3⟩
inductive Inl where
 |plain (s:List UInt8)
 |openP (s:List UInt8) (i:Nat)
 |emphP (s:List UInt8) (co cc:Bool) (i n:Int)
 |esc (s:List UInt8)
 |code (s:List UInt8)
 |strong (m:List UInt8) (ks:List Inl)
 |del (m:List UInt8) (ks:List Inl)
 |emph (m:List UInt8) (ks:List Inl)
 |link (ks:List Inl) (url title:List UInt8) (tc:UInt8) (corner:Bool)
 |image (ks:List Inl) (url title:List UInt8) (tc:UInt8) (corner:Bool)
 |auto (text url:List UInt8)
 |tag (s:List UInt8)
 |hard
 |soft
 |task (b:Bool)
def gO (t:TypeId)(b:Nat):Value:= .iface t (kT (kE b))
mutual
def InlAt:Inl->Value->List ai->Prop
 | .plain s,v,M=> ∃b cs e,v=gO bH b/\M= [(b,cel (hX (bs s)::cs) e)]
 | .openP s i,v,M=> ∃b e,v=gO aQ b/\M= [(b,cel [hX (bs s),hY i] e)]
 | .emphP s co cc i n,v,M=> ∃b e,v=gO aT b/\M= [(b,cel [hX (bs s),hV co,hV cc,hY i,hY n] e)]
 | .esc s,v,M=> ∃b e,v=gO kC b/\M= [(b,cel [hX (bs s)] e)]
 | .code s,v,M=> ∃b e,v=gO oV b/\M= [(b,cel [hX (bs s)] e)]
 | .strong m ks,v,M=> ∃b e q n c vs RM KM,v=gO ft b/\M=(b,cel [hX (bs m),hT q n c] e)::(RM++KM)/\Sl 1 aC q n c vs RM/\InlsAt ks vs KM
 | .del m ks,v,M=> ∃b e q n c vs RM KM,v=gO uk b/\M=(b,cel [hX (bs m),hT q n c] e)::(RM++KM)/\Sl 1 aC q n c vs RM/\InlsAt ks vs KM
 | .emph m ks,v,M=> ∃b e q n c vs RM KM,v=gO iU b/\M=(b,cel [hX (bs m),hT q n c] e)::(RM++KM)/\Sl 1 aC q n c vs RM/\InlsAt ks vs KM
 | .link ks u t tc k,v,M=> ∃b e q n c vs RM KM,v=gO lu b/\M=(b,cel [hT q n c,hX (bs u),hX (bs t),.int .u8 tc.toNat,hV k] e)::(RM++KM)/\Sl 1 aC q n c vs RM/\InlsAt ks vs KM
 | .image ks u t tc k,v,M=> ∃b e q n c vs RM KM,v=gO lw b/\M=(b,cel [hT q n c,hX (bs u),hX (bs t),.int .u8 tc.toNat,hV k] e)::(RM++KM)/\Sl 1 aC q n c vs RM/\InlsAt ks vs KM
 | .auto t u,v,M=> ∃b e,v=gO lP b/\M= [(b,cel [hX (bs t),hX (bs u)] e)]
 | .tag s,v,M=> ∃b e,v=gO mG b/\M= [(b,cel [hX (bs s)] e)]
 | .hard,v,M=> ∃b e,v=gO kV b/\M= [(b,cel [] e)]
 | .soft,v,M=> ∃b e,v=gO jw b/\M= [(b,cel [] e)]
 | .task k,v,M=> ∃b e,v=gO rK b/\M= [(b,cel [hV k] e)]
def InlsAt:List Inl->List Value->List ai->Prop
 | [],vs,M=>vs= []/\M= []
 |t::ts,vs,M=> ∃v vs' M1 M2,vs=v::vs'/\M=M1++M2/\InlAt t v M1/\InlsAt ts vs' M2
end
theorem InlsAt.append: ∀ {a b:List Inl} {vs us:List Value} {M N:List ai},InlsAt a vs M->InlsAt b us N->InlsAt (a++b) (vs++us) (M++N)
 | [],b,vs,us,M,N,h1,h2=>by obtain⟨rfl,rfl⟩:=h1;exact h2
 |t::a,b,vs,us,M,N,h1,h2=>by
  obtain⟨v,g,y,I,rfl,rfl,E,H⟩:=h1
  exact⟨v,g++us,y,I++N,rfl,by simp,E,H.append h2⟩
theorem InlsAt.split: ∀ {a b:List Inl} {vs:List Value} {M:List ai},InlsAt (a++b) vs M-> ∃g E y H,vs=g++E/\M=y++H/\InlsAt a g y/\InlsAt b E H
 | [],b,vs,M,h=>⟨[],vs,[],M,rfl,rfl,⟨rfl,rfl⟩,h⟩
 |t::a,b,vs,M,h=>by
  obtain⟨v,a7,y,H,rfl,rfl,W,a6⟩:=h
  obtain⟨g,E,I,O,rfl,rfl,V,U⟩:=a6.split
  exact⟨v::g,E,y++I,O,rfl,by simp,⟨v,g,y,I,rfl,rfl,W,V⟩,U⟩
theorem InlsAt.one {t:Inl}{v:Value}{M:List ai}(h:InlAt t v M):InlsAt [t] [v] M:=⟨v,[],M,[],rfl,by simp,h,rfl,rfl⟩
theorem InlsAt.length: ∀ {a:List Inl} {vs:List Value} {M:List ai},InlsAt a vs M->vs.length=a.length
 | [],vs,M,h=>by rw[h.1];rfl
 |t::a,vs,M,h=>by
  obtain⟨v,y,E,I,rfl,rfl,H,g⟩:=h
  simp[g.length]
def Inl.ty:Inl->TypeId
 | .plain _=>bH| .openP _ _=>aQ| .emphP _ _ _ _ _=>aT| .esc _=>kC| .code _=>oV| .strong _ _=>ft| .del _ _=>uk| .emph _ _=>iU
 | .link _ _ _ _ _=>lu| .image _ _ _ _ _=>lw| .auto _ _=>lP| .tag _=>mG| .hard=>kV| .soft=>jw| .task _=>rK
theorem InlAt.ptr {t:Inl}{v:Value}{M:List ai}(h:InlAt t v M): ∃b cs e g,v=gO t.ty b/\M=(b,cel cs e)::g:=by
 cases t<;>first
  |(obtain⟨b,cs,e,rfl,rfl⟩:=h;exact⟨b,_,_,[],rfl,rfl⟩)
  |(obtain⟨b,e,rfl,rfl⟩:=h;exact⟨b,_,_,[],rfl,rfl⟩)
  |(obtain⟨b,e,q,n,c,vs,RM,KM,rfl,rfl,_⟩:=h;exact⟨b,_,_,_,rfl,rfl⟩)
variable {G:List UInt8->List Inl}

theorem nB:P.underlying aQ=some (.pointer qz):=by kernel_rfl
theorem ru:P.underlying aT=some (.pointer kB):=by kernel_rfl
theorem eH:P.underlying bH=some (.pointer nD):=by kernel_rfl
theorem pT {t:TypeId}{v:Value}(ht:t≠aQ)(w:World):(Instr.typeAssert (.iface t v) aC aQ true).run P w= .ok (.tuple #[kT none,hV false]) w:=
 uv (by rw[nB];intro g h;cases h) nB ht (i:=(P.info? aQ).getD default) (by kernel_rfl) (by kernel_rfl) w
theorem pU {t:TypeId}{v:Value}(ht:t≠aT)(w:World):(Instr.typeAssert (.iface t v) aC aT true).run P w= .ok (.tuple #[kT none,hV false]) w:=
 uv (by rw[ru];intro g h;cases h) ru ht (i:=(P.info? aT).getD default) (by kernel_rfl) (by kernel_rfl) w
theorem oC {t:TypeId}{v:Value}(ht:t≠bH)(w:World):(Instr.typeAssert (.iface t v) aC bH true).run P w= .ok (.tuple #[kT none,hV false]) w:=
 uv (by rw[eH];intro g h;cases h) eH ht (i:=(P.info? bH).getD default) (by kernel_rfl) (by kernel_rfl) w
theorem oD {v:Value}(w:World):(Instr.typeAssert (.iface aQ v) aC aQ true).run P w= .ok (.tuple #[v,hV true]) w:=
 ol (by rw[nB];intro g h;cases h) nB w
theorem rO {v:Value}(w:World):(Instr.typeAssert (.iface aT v) aC aT true).run P w= .ok (.tuple #[v,hV true]) w:=
 ol (by rw[ru];intro g h;cases h) ru w
theorem vI {v:Value}(w:World):(Instr.typeAssert (.iface bH v) aC bH true).run P w= .ok (.tuple #[v,hV true]) w:=
 ol (by rw[eH];intro g h;cases h) eH w
theorem Ai (t:TypeId)(q:Option Addr):Instr.fill (λi=>some (i*1,1)) ((Array.range (1*1)).map (rowInl.z.cells[· %rowInl.z.cells.size]!)) [(0,.iface t (kT q))]=some #[.iface t (kT q)]:=by kernel_rfl
theorem Sl.loadAt {q:Option Addr}{n c j:Nat}{e:TypeId}{vs:List Value}{RM:List ai}{v:Value}{K:Addr->Prop}(E:Sl 1 e q n c vs RM)(h:Sat σ w (RM++L))(g:vs[j]? =some v)(H: ∀b,q=kE b->w.cell? (hZ b j)=some v->K (hZ b 0)):aA q K:=by
 obtain⟨I,_,⟨rfl,rfl,_,_⟩|⟨y,sp,rfl,rfl,_⟩⟩:=E
 ·have:=(lL0.1 g).1;omega
 ·refine aa (H y rfl (h.ld (.head _) ?_))
  rw[lM0 (lL0.1 g).1];exact g
namespace cC
def k1 (R:EP)(y:OA)(V:Int)(w:World):Prop:=
 tk w λg=>
 aA y λa4=>
 aA y λa5=>
 ∃O U H,g.cell? (a4.add 1)=some (hT O U H)/\
 ∃a7 I a6,g.cell? (a5.add 1)=some (hT a7 I a6)/\
 ∃W E,(Builtin.cap_ #[bJ] bg #[hT O U H]).run P g= .ok (hY W) E/\
 SameC g E (a5.add 1) 1/\
 br (decide ((i64.wrap (W - (I:Int)))<V))
 (callE P i6 #[kT y,hY V] (λe b3=>e= hQ (.tuple #[])/\
 R (hQ (.tuple #[])) b3) E)
 (False)
end cC
def cC (R:EP)(g:OA)(y:Int)(w:World):Prop:=
 callE P cE #[kT g] (λe E=>e= hQ (.tuple #[])/\
 br (decide (y<0))
 (False)
 (cC.k1 R g y E)) w
theorem cC.sound {R x0 x1 w}(h:cC R x0 x1 w):callE P eF #[kT x0,hY x1] R w:=
 aH [(21,.no),(7,.mk [2,27] (cC.k1 R)),(11,.dr (rpN [0,3,6,15,18,21,33,10,25,27,14,30,36])),(31,.no)] Tryz.func223 Tryz.call223 h
def f7 (R:EP)(g:OA)(c9:Int)(w:World):Prop:=
 tk w λE=>
 aA g λa2=>
 aA g λa3=>
 ∃a7 b9 b6,E.cell? (a2.add 1)=some (hT a7 b9 b6)/\
 ∃c5 b7 c2,E.cell? (a3.add 1)=some (hT c5 b7 c2)/\
 ∃c1 y,(Builtin.cap_ #[bJ] bg #[hT a7 b9 b6]).run P E= .ok (hY c1) y/\
 SameC E y (a3.add 1) 1/\
 callE P dZ #[hY (i64.wrap ((i64.wrap (2*c1))+c9))] (λe U=> ∃b3 b5 b8,e= hQ (hT b3 b5 b8)/\
 SameC y U (a3.add 1) 1/\
 ∃O I H,(∀w,(Instr.sliceAt bJ (hT b3 b5 b8) none (some (hY (b7:Int))) none).run P w= .ok (hT O I H) w)/\
 aA g λa11=>
 ∃V W a6,U.cell? (a11.add 1)=some (hT V W a6)/\
 ∃c8 b4,(Builtin.copy_ #[bJ,bJ] bg #[hT O I H,hT V W a6]).run P U= .ok (hY c8) b4/\
 aA g λc4=>
 stV b4 ((c4.add 1).add 0) (hT O I H) λc3=>
 R (hQ (.tuple #[])) c3) y
theorem f7.sound {R x0 x1 w}(h:f7 R x0 x1 w):callE P i6 #[kT x0,hY x1] R w:=
 aH [(2,.dr (rpN [0,3,6,18,27,30,33,10,37,39,14,15,21,26,42,45]))] Tryz.func257 Tryz.call257 h

theorem uM {n:Nat}(U:n<=1099511627776)(h:Sat σ w L)(O: ∀w b cs,n<=cs.length->cs.length<=9223372036854775807->Sat σ w ((b,cel cs dx)::L)->R (hQ (hT (kE b) n cs.length)) w):
 callE P dZ #[hY n] R w:=by
 obtain⟨cs,hr,E,H⟩:=Lib.run_makeNoZero (P:=P) w x_internal_bytealg_MakeNoZero.params bJ dx rowU8.ht n (by omega)
 refine Ck (e:=Extern.BytealgMakeNoZero.makeNoZero x_internal_bytealg_MakeNoZero.params #[bJ]) jy (by kernel_rfl) (by kernel_rfl) (by kernel_rfl) (by kernel_rfl) hr ?_
 have hd:Sat σ w.drew.drew L:=h.drew.drew
 have g:=hd.alc cs.toList dx
 have I:YtendaipfdnhnaaaGreatDoor.alc w.drew.drew cs.toList.toArray dx=w.drew.drew.alloc (.cells cs dx):=by rw[lC4];rfl
 rw[I] at g
 have y:=H (by unfold maxLen;omega)
 unfold maxLen at y
 exact O _ _ cs.toList (by simpa using E) (by simpa using y) g
theorem DT (w:World)(b c:Nat):(Builtin.copy_ #[bJ,bJ] bg #[hT (kE b) 0 c,hT none 0 0]).run P w= .ok (hY 0) w:=by
 have h:P.underlying bJ=some (.slice dx):=rowU8.ht
 have g:P.info? dx=some rowU8.i:=rowU8.hi
 have E:(Builtin.lenOf (hT none 0 0)).run P w= .ok 0 w:=rfl
 have y:rowU8.i.size=1:=rowU8.hs
 have H:(Builtin.firstCells 1 0 (hT none 0 0)).run P w= .ok #[] w:=run_firstCells_none w 1 0 0 0
 simp[Builtin.copy_,run_underlying h,sizeOf,typeInfo,g,goInt,E,y,H,storeCells]
theorem At {b n:Nat}{M:List ai}(V:Bld b false [] M)(h:Sat σ w (M++L))(b6:0<n)(E:n<=1099511627776)(W: ∀w y,Bld b true [] y->Sat σ w (y++L)->R (hQ (.tuple #[])) w):
 callE P eF #[kT (kE b),hY n] R w:=by
 obtain⟨p,q,c,b4,rfl,U,a6,b5,hc⟩:=V
 have H:q=none:=by cases q<;>simp_all
 subst H
 obtain⟨_,_,⟨_,_,rfl,rfl⟩|⟨_,_,h,_⟩⟩:=U
 rotate_left
 ·cases h
 refine cC.sound ?_
 refine nt h a6 λw h=>⟨rfl,ae (by simp) ?_⟩
 refine h.tk λw h=>?_
 refine aa (aa ?_)
 refine⟨_,_,_,h.ldA,?_⟩
 refine⟨_,_,_,h.ldA,?_⟩
 refine⟨_,_,EJ _ _ _ _ _ _ rowU8.ht w,λ_ _=>rfl,?_⟩
 refine ag (by simp (disch:=omega) only[i64_in];simp;omega) ?_
 refine f7.sound ?_
 refine h.tk λw h=>?_
 refine aa (aa ?_)
 refine⟨_,_,_,h.ldA,?_⟩
 refine⟨_,_,_,h.ldA,?_⟩
 refine⟨_,_,EJ _ _ _ _ _ _ rowU8.ht w,λ_ _=>rfl,?_⟩
 have I:i64.wrap (i64.wrap (2*((0:Nat):Int))+(n:Int))=(n:Int):=by rw[i64_in (2*_) (by omega),i64_in _ (by omega)];omega
 rw[I]
 have O:=h
 refine uM E h λw g cs a7 b3 h=>⟨_,_,_,rfl,O.same h (.head _) (.tail _ (.head _)) 1,?_⟩
 refine⟨_,_,_,λw=>qD rowU8.ht rowU8.hi _ n cs.length 0 (by omega) w,?_⟩
 refine aa ?_
 refine⟨_,_,_,h.ldA,?_⟩
 refine⟨_,_,DT w g cs.length,?_⟩
 refine aa ?_
 refine h.stA 1 λw h=>?_
 have h:Sat σ w ((g,cel cs dx)::CI b (kE b) (kE g) 0 cs.length::L):=h
 refine⟨rfl,W w [CI b (kE b) (kE g) 0 cs.length,(g,cel cs dx)] ⟨_,_,_,_,rfl,⟨by simp[bc],by omega,.inr ⟨g,cs,rfl,by simp[bc],by simp[bc]⟩⟩,.inr rfl,rfl,λ_=>by omega⟩ ?_⟩
 exact h.re
def sv (ts:List (List UInt8)):List Value:=ts.map λt=> hX (bs t)
@[simp] theorem ka (ts:List (List UInt8)):(sv ts).length=ts.length:=by simp[sv]
theorem tG {ts:List (List UInt8)}{j:Nat}(h:j<ts.length):(sv ts)[j]? =some (hX (bs ts[j])):=by simp[sv,h]
def bF (sep:List UInt8):List (List UInt8)->List UInt8
 | []=> []
 |t::ts=>t++ts.flatMap (λu=>sep++u)
def E7 (ts:List (List UInt8)):Nat:=(ts.map List.length).sum
theorem wu (sep:List UInt8)(t:List UInt8)(ts:List (List UInt8)):(bF sep (t::ts)).length=t.length+E7 ts+ts.length*sep.length:=by
 simp only[bF,lA0,E7]
 induction ts with
 |nil=>simp
 |cons u ts g=>simp only[lJ3,lA0,lU1,List.sum_cons,lF0] at*;rw[lP3];omega
theorem Sl.rowAt {e:TypeId}{q:Option Addr}{n c:Nat}{vs:List Value}{M:List ai}(y:Sl 1 e q n c vs M)(H:0<n): ∃b sp,q=kE b/\M= [(b,cel (vs++sp) e)]:=by
 obtain⟨_,_,⟨_,h,_,_⟩|⟨b,sp,g,E,_⟩⟩:=y
 ·omega
 ·exact⟨b,sp,g,E⟩
theorem BU {q:Option Addr}{n c:Nat}{t:List UInt8}{ts:List (List UInt8)}{W:List ai}{sep:List UInt8}(b4:Sl 1 aq q n c (sv (t::ts)) W)(h:Sat σ w (W++L))(e8:1<=ts.length)(e9:n<1073741824)(e3:sep.length<65536)(e0:0<(bF sep (t::ts)).length)(hb:(bF sep (t::ts)).length<1073741824)(d5: ∀w,Sat σ w (W++L)->R (hQ (hX (bs (bF sep (t::ts))))) w):callE P fR #[hT q n c,hX (bs sep)] R w:=by
 have e1:=b4.1
 rw[ka,lF0] at e1
 have E:=wu sep t ts
 refine bW.sound ?_
 obtain⟨y,sp,rfl,rfl⟩:=b4.rowAt (by omega)
 refine ae (by simp;omega) (ae (by simp;omega) ?_)
 have fin: ∀w,Sat σ w ([(y,cel (sv (t::ts)++sp) aq)]++L)->box w #[kT none,hT none 0 0] cr λa6 d4=>
  callE P eF #[kT (kE a6),hY (((bF sep (t::ts)).length:Nat):Int)] (λe c5=>e= hQ (.tuple #[])/\
  0<=(0:Int)/\0<(n:Int)/\
  aA (some ((hZ y 0):Addr)) λa9=>
  ∃(c1:ByteArray),c5.cell? (a9.add (Int.toNat 0*1))=some (hX c1)/\
  callE P bv #[kT (kE a6),hX c1] (λe d1=> ∃(c9:Int),∃(c8:Value),e= hQ (.tuple #[hY c9,c8])/\
  ∃(b6:Option Addr),∃(O:Nat),∃(b7:Nat),∃b9,(Instr.sliceAt al (hT (kE y) n c) (some (hY 1)) none none).run P d1= .ok (hT b6 O b7) b9/\
  bW.l2 R (bs sep) a6 b6 O b7 (O:Int) 0 b9) c5) d4:=by
  intro w h
  refine Sat.bx h λb w h=>?_
  refine At (CH b) h e0 (by omega) λw M g h=>⟨rfl,by omega,by omega,aa ?_⟩
  refine⟨bs t,Sat.ld h (lB0 _ (.head _)) rfl,?_⟩
  refine sR g h (.inr rfl) (by simp;omega) λw M g h=>⟨_,_,rfl,?_⟩
  refine⟨_,_,_,_,y0 rowStr.ht rowStr.hi _ n c 1 (by omega) w,?_⟩
  have e5:=b4.2.1
  rw[if_neg (by omega),rowStr.hs]
  simp only[lI3,lK0,lN0,lC1]
  rw[lT0] at g
  intro Y c4
  have U: ∀k j (l:List UInt8) M w,j+k=ts.length->Bld b true l M->Sat σ w (M++([(y,cel (sv (t::ts)++sp) aq)]++L))->l++(ts.drop j).flatMap (λu=>sep++u)=bF sep (t::ts)->
   Y (bs sep) b (some (hZ y 1)) (n - 1) (c - 1) ((n - 1:Nat):Int) (j:Int) w:=by
   intro k
   induction k with
   |zero=>
    intro j l M w I g h H
    rw[lE2 (by omega)] at H
    simp only[List.flatMap_nil,lG0] at H
    refine c4 _ _ _ _ _ _ _ _ (ae (by simp;omega) ?_)
    refine sQ g h (by rw[H];omega) λw h=>⟨_,rfl,?_⟩
    rw[H]
    exact d5 w h
   |succ k b3=>
    intro j l M w I g h H
    have E:j<ts.length:=by omega
    rw[lI1 E,lJ3,<-lD0,<-lD0] at H
    have d2:(l++sep++ts[j]).length<=(bF sep (t::ts)).length:=by rw[<-H];simp only[lA0];omega
    simp only[lA0] at d2
    refine c4 _ _ _ _ _ _ _ _ (ag (by simp;omega) ⟨by omega,by omega,aa ?_⟩)
    simp only[lK0,lC0,lC1]
    have a7:(sv (t::ts)++sp)[1+j]? =some (hX (bs ts[j])):=by
     rw[lM0 (by simp;omega),show 1+j=j+1 by omega,tG (by simp;omega)];rfl
    refine⟨_,Sat.ld h (lB0 _ (.head _)) a7,?_⟩
    refine sR g h (.inr rfl) (by omega) λw M g h=>⟨_,_,rfl,?_⟩
    refine sR g h (.inr rfl) (by simp;omega) λw M g h=>⟨_,_,rfl,?_⟩
    rw[aN (by omega)]
    exact b3 (j+1) _ M w (by omega) g h H
  exact U ts.length 0 t M w (by omega) g h rfl
 have b8: ∀w (a:Nat),a=ts.length*sep.length->Sat σ w ([(y,cel (sv (t::ts)++sp) aq)]++L)->bW.k2 R (kE y) n c (bs sep) (a:Int) w:=by
  intro w a d3 h X c3
  have U: ∀k j (s:Nat),j+k=(t::ts).length->s+E7 ((t::ts).drop j)=(bF sep (t::ts)).length->X (kE y) n c (bs sep) (s:Int) (kE y) n c (n:Int) (j:Int) w:=by
   intro k
   induction k with
   |zero=>
    intro j s I hs
    rw[lE2 (by omega)] at hs
    simp only[E7,List.map_nil,List.sum_nil,lL1] at hs
    subst hs
    refine c3 _ _ _ _ _ _ _ _ _ _ _ (ae (by simp at I;simp;omega) ?_)
    exact fin w h
   |succ k b3=>
    intro j s I hs
    have E:j<(t::ts).length:=by omega
    rw[lI1 E] at hs
    simp only[E7,lU1,List.sum_cons] at hs
    have e4:j<n:=by simp at E;omega
    refine c3 _ _ _ _ _ _ _ _ _ _ _ (ag (by simp;omega) ⟨by omega,by omega,aa ?_⟩)
    simp only[lK0,lC0,lC1,lN0]
    have a7:(sv (t::ts)++sp)[j]? =some (hX (bs (t::ts)[j])):=by
     rw[lM0 (by simp at E⊢;omega),tG E]
    refine⟨_,Sat.ld h (.head _) a7,?_⟩
    rw[aJ]
    refine ae (by simp (disch:=omega) only[i64_in];simp;omega) ?_
    show X _ _ _ _ _ _ _ _ _ _ w
    rw[aN (by omega),aJ,i64_in _ (by omega),show (s:Int)+((t::ts)[j].length:Nat)=((s+(t::ts)[j].length:Nat):Int) by omega]
    exact b3 (j+1) _ (by omega) (by simp only[E7];omega)
  refine U (t::ts).length 0 a (by omega) ?_
  rw[E,d3]
  simp[E7]
  omega
 have d0:ts.length*sep.length<1073741824:=by omega
 by_cases c2:sep= []
 ·subst c2
  refine ae (by simp) ?_
  exact b8 w 0 (by simp) h
 ·refine ag (by simpa using lY0.2 c2) ?_
  have V:i64.wrap ((n:Int) - 1)=((ts.length:Nat):Int):=by simp (disch:=omega) only[i64_in];omega
  refine⟨by rw[V];omega,ae ?_ ?_⟩
  ·rw[V]
   have e2:Int.tdiv 9223372036854775807 (ts.length:Int)=((9223372036854775807/ts.length:Nat):Int):=by
    rw[Int.tdiv_eq_ediv_of_nonneg (by omega)];simp
   rw[e2]
   have e6:65536<=9223372036854775807/ts.length:=by
    rw[Nat.le_div_iff_mul_le (by omega)];omega
   have e7:9223372036854775807/ts.length<=9223372036854775807:=Nat.div_le_self _ _
   rw[i64_in _ (by omega),aJ]
   exact decide_eq_false (by omega)
  ·show bW.k2 R _ n c (bs sep) _ w
   rw[V,aJ]
   have:i64.wrap (0+i64.wrap ((sep.length:Int)*(ts.length:Int)))=((ts.length*sep.length:Nat):Int):=by
    have e:((sep.length:Int)*(ts.length:Int))=((ts.length*sep.length:Nat):Int):=by rw[lP6];simp
    generalize ts.length*sep.length=m at d0 e⊢
    rw[e,i64_in (m:Int) (by omega),Int.zero_add,i64_in (m:Int) (by omega)]
   rw[this]
   exact b8 w _ rfl h

def Inl.plain? :Inl->Option (List UInt8)
 | .plain s=>some s
 | .openP s _=>some s
 | .emphP s _ _ _ _=>some s
 |_=>none
theorem jb {t:Inl}{v:Value}{M:List ai}{s:List UInt8}(y:InlAt t v M)(hs:t.plain? =some s)(g: ∀b cs e,M= [(b,cel (hX (bs s)::cs) e)]->R (hQ (kT (kE b))) w):callE P kj #[v] R w:=by
 refine px.sound ?_
 cases t<;>simp only[Inl.plain?,lG1,reduceCtorEq] at hs<;>subst hs
 ·obtain⟨b,cs,e,rfl,rfl⟩:=y
  exact⟨_,_,_,vI w,ag rfl (g b _ _ rfl)⟩
 ·obtain⟨b,e,rfl,rfl⟩:=y
  exact⟨_,_,_,oC (by decide) w,ae rfl ⟨_,_,_,pU (by decide) w,ae rfl ⟨_,_,_,oD w,ag rfl (aa (g b _ _ rfl))⟩⟩⟩
 ·obtain⟨b,e,rfl,rfl⟩:=y
  exact⟨_,_,_,oC (by decide) w,ae rfl ⟨_,_,_,rO w,ag rfl (aa (g b _ _ rfl))⟩⟩
theorem Inl.not_plain {t:Inl}(h:t.plain? =none):t.ty≠bH/\t.ty≠aQ/\t.ty≠aT:=by
 cases t<;>simp only[Inl.plain?,reduceCtorEq] at h<;>(simp only[Inl.ty];decide)
theorem jc {t:Inl}{v:Value}{M:List ai}(E:InlAt t v M)(hs:t.plain? =none)(I:R (hQ (kT none)) w):callE P kj #[v] R w:=by
 refine px.sound ?_
 obtain⟨g,y,H⟩:=Inl.not_plain hs
 obtain⟨b,cs,e,O,rfl,_⟩:=E.ptr
 exact⟨_,_,_,oC g w,ae rfl ⟨_,_,_,pU H w,ae rfl ⟨_,_,_,pT y w,ae rfl I⟩⟩⟩
theorem BV: ∀us:List (List UInt8),bF [] us=us.flatten
 | []=>rfl
 |u::us=>by simp[bF,lK3,List.flatMap_id']
theorem InlsAt.mid {a:List Inl}{t:Inl}{b:List Inl}{vs:List Value}{M:List ai}(h:InlsAt (a++t::b) vs M): ∃g v E y H I,vs=g++v::E/\M=y++(H++I)/\InlsAt a g y/\InlAt t v H/\InlsAt b E I:=by
 obtain⟨g,E,y,H,rfl,rfl,U,V⟩:=h.split
 obtain⟨v,O,a6,W,rfl,rfl,a7,b3⟩:=V
 exact⟨g,v,O,y,a6,W,rfl,rfl,U,a7,b3⟩
theorem DK (t:List UInt8):Instr.fill (λi=>some (i*1,1)) ((Array.range (1*1)).map (rowStr.z.cells[· %rowStr.z.cells.size]!)) [(0,hX (bs t))]=some #[hX (bs t)]:=by kernel_rfl
theorem ov {U s m c:Nat}{cs:List Value}{e:TypeId}{vs:List Value}{ts:List Inl}{us:List (List UInt8)}{EM:List ai}(d5:InlsAt ts vs EM)(d4:ts.map Inl.plain? =us.map some)(g2:vs.length=m)(d3:1<=m)(g0:m<1073741824)(e8: ∀j (b3:j<m),cs[s+j]? =vs[j]?)(e0:0<us.flatten.length)(hb:us.flatten.length<1073741824)(h:Sat σ w ((U,cel cs e)::(EM++L)))(d1: ∀w b c3,InlAt (.plain us.flatten) (gO bH b) c3->Sat σ w ((U,cel cs e)::(c3++L))->R (hQ (kT (kE b))) w):
 callE P l7 #[hT (some (hZ U s)) m c] R w:=by
 have e1:=d5.length
 have a6:us.length=ts.length:=by have:=congrArg List.length d4;simpa using this.symm
 refine fE.sound ?_
 have get: ∀j,j<m-> ∃t v a b E g y u,ts=a++t::b/\EM=E++(g++y)/\InlAt t v g/\t.plain? =some u/\us[j]? =some u/\cs[s+j]? =some v/\a.length=j:=by
  intro j b3
  have c2:j<ts.length:=by omega
  have c5:ts=ts.take j++(ts[j]::ts.drop (j+1)):=by rw[<-lI1 c2,lX1]
  have I:j<us.length:=by omega
  have W:ts[j].plain? =some us[j]:=by
   have:=congrArg (λl=>l[j]?) d4
   simpa[c2,I] using this
  have c8:=d5
  rw[c5] at c8
  obtain⟨f6,v,f5,E,g,y,rfl,rfl,d3,V,g1⟩:=c8.mid
  have c9:=d3.length
  rw[lF1,lG6 (by omega)] at c9
  refine⟨ts[j],v,ts.take j,ts.drop (j+1),E,g,y,us[j],c5,rfl,V,W,lI0 I,?_,?_⟩
  ·rw[e8 j b3,lH0 (by omega),c9];simp
  ·rw[lF1];omega
 by_cases e9:m=1
 ·refine ag (by simp[e9]) ⟨by omega,by omega,aa ?_⟩
  obtain⟨t,v,a,b,E,g,y,u,rfl,rfl,V,W,a7,b6,b9⟩:=get 0 (by omega)
  have e2:b= []:=by
   simp only[lA0,lF0,b9] at e1
   exact lB1 (by omega)
  have e4:a= []:=lB1 b9
  subst e2 e4
  obtain⟨e6,rfl⟩: ∃x,us= [x]:=by
   simp at a6
   match us,a6 with
   | [x],_=>exact⟨x,rfl⟩
  obtain rfl:e6=u:=by simpa using a7
  simp only[lK0,Int.toNat_zero,lO6,lL1]
  refine⟨v,Sat.ld h (.head _) b6,?_⟩
  refine jb V W λc1 c4 d2 b8=>⟨_,rfl,?_⟩
  refine d1 w c1 g ?_ ?_
  ·rw[b8];exact⟨c1,c4,d2,rfl,by simp⟩
  ·exact h.less (E++y)
 ·refine ae (by simp;omega) ?_
  intro X d0
  have e5: ∀k j (q:Option Addr) (n b4:Nat) O w,j+k=m->Sl 1 aq q n b4 (sv (us.take j)) O->Sat σ w (O++((U,cel cs e)::(EM++L)))->X q n b4 (some (hZ U s)) m c (m:Int) (j:Int) w:=by
   intro k
   induction k with
   |zero=>
    intro j q n b4 O w b3 H h
    refine d0 _ _ _ _ _ _ _ _ _ (ae (by simp;omega) ?_)
    rw[lB2 (by omega)] at H
    cases us with
    |nil=>simp at a6;omega
    |cons u us=>
     have b5:=H.1
     rw[ka] at b5
     simp at a6 b5
     have b7:=BV (u::us)
     refine BU (sep:= []) H h (by omega) (by omega) (by simp) (by rw[b7];exact e0) (by rw[b7];exact hb) λw h=>⟨_,rfl,?_⟩
     rw[b7]
     refine Sat.bx h λpb w h=>?_
     refine d1 w pb [(pb,cel [hX (bs (u::us).flatten)] nD)] ⟨pb,[],_,rfl,rfl⟩ ?_
     exact h.less (O++EM)
   |succ k f3=>
    intro j q n b4 O w b3 H h
    have e7:j<m:=by omega
    have I:j<us.length:=by omega
    refine d0 _ _ _ _ _ _ _ _ _ (ag (by simp;omega) ⟨by omega,by omega,aa ?_⟩)
    obtain⟨t,v,a,b,E,g,y,u,rfl,rfl,V,W,a7,b6,b9⟩:=get j e7
    simp only[lK0,lC0,lC1]
    refine⟨v,Sat.ld h (lB0 _ (.head _)) b6,?_⟩
    refine jb V W λc1 c4 d2 b8=>⟨_,rfl,aa ?_⟩
    subst b8
    refine⟨_,Sat.ld h (lB0 _ (.tail _ (lE1 _ (lB0 _ (.head _))))) rfl,?_⟩
    have b5:=H.1
    rw[ka,lF1] at b5
    refine Sat.app1 rowStr H h (v:= hX (bs u)) rfl (by simp[Value.cells,Value.oneCell']) (DK u) (by omega) (by omega) (by decide) λf4 f0 f1 f2 e3 h=>?_
    rw[aN (by omega)]
    refine f3 (j+1) f4 (n+1) f0 f2 f1 (by omega) ?_ h
    have e:sv (us.take (j+1))=sv (us.take j)++ [hX (bs u)]:=by
     rw[lH1 I]
     have:us[j]=u:=by rw[lI0 I] at a7;exact Option.some.inj a7
     simp[sv,this]
    rw[e];exact e3
  exact e5 m 0 none 0 0 [] w (by omega) (Sl.nil 1 aq) h

def qR (p:List (List UInt8)):List Inl:=if p= [] then [] else [.plain p.flatten]
def d9:List (List UInt8)->List Inl->List Inl
 |p,[]=>qR p
 |p,t::ts=>match t.plain? with
  |some s=>d9 (p++ [s]) ts
  |none=>qR p++t::d9 [] ts
def kM (ts:List Inl):List Inl:=d9 [] ts
def rk:List Inl->Nat
 | []=>0
 |t::ts=>(match t.plain? with|some s=>s.length|none=>0)+rk ts
theorem uA {g:Type}{A B C:List g}{v:g}(y:B≠ []):(A++(B++C)).set A.length v=(A++ [v])++(B.drop 1++C):=by
 cases B with
 |nil=>exact absurd rfl y
 |cons x B=>simp[lO1]
theorem fillP (v:Value)(hv: ∃t b,v=gO t b):Instr.fill (λi=>some (i*1,1)) ((Array.range (1*1)).map (rowInl.z.cells[· %rowInl.z.cells.size]!)) [(0,v)]=some v.cells:=by
 obtain⟨t,b,rfl⟩:=hv
 exact Ai t _
theorem Em:P.underlying bH=some (.pointer nD):=eH
theorem uL {h6 q:Option Addr}{n c:Nat}{vs:List Value}{ts:List Inl}{RM EM:List ai}(f3:Sl 1 aC q n c vs RM)(g4:InlsAt ts vs EM)(g7: ∀t∈ts,∀s,t.plain? =some s->s≠ [])(hb:rk ts<1073741824)(k0:n<1073741823)(h:Sat σ w (RM++(EM++L)))(e9: ∀w f0 f6 f5 a7,Sl 1 aC q f0 c f6 f5->f0<=n->InlsAt (kM ts) f6 a7->Sat σ w (f5++(a7++L))->R (hQ (hT q f0 c)) w):callE P fx #[kT h6,hT q n c] R w:=by
 have j0:=f3.1
 have i0:=f3.2.1
 have h9:=g4.length
 refine bG.sound ?_
 refine⟨_,_,_,_,qD rowInl.ht rowInl.hi q n c 0 (by omega) w,?_⟩
 intro X e8
 obtain⟨_,_,⟨rfl,rfl,rfl,rfl⟩|⟨E,sp,rfl,rfl,g1⟩⟩:=f3
 ·have h4:ts= []:=lB1 (by omega)
  subst h4
  refine e8 _ _ _ _ _ _ _ _ _ (ae rfl ?_)
  refine ae rfl (ag rfl ?_)
  exact e9 w 0 [] [] [] (Sl.nil 1 aC) (by omega) ⟨rfl,rfl⟩ (h.sub (by rw[lT0];exact lH3 _ _))
 have g5:vs.length=n:=by omega
 have h1: ∀(a6:List Inl) (U:List Inl) (us:List (List UInt8)) (b5:List Inl) (g junk y c8:List Value) (I b6 RM:List ai) w,
  InlsAt b5 g I->InlsAt U y b6->InlsAt a6 c8 RM->U.map Inl.plain? =us.map some->(∀u∈us,u≠ [])->(∀t∈a6,∀s,t.plain? =some s->s≠ [])->us.flatten.length+rk a6<1073741824->
  g.length+junk.length+y.length+c8.length=n->kM ts=b5++d9 us a6->
  Sat σ w ((E,cel (g++(junk++(y++(c8++sp)))) aC)::(I++(b6++(RM++L))))->
  X (kE E) n c (kE E) g.length c ((g.length+junk.length:Nat):Int) ((g.length+junk.length+y.length:Nat):Int) w:=by
  intro a6
  induction a6 with
  |nil=>
   intro U us b5 g junk y c8 I b6 RM w b7 b3 e6 b9 d3 d1 c5 c3 b8 h
   obtain⟨rfl,rfl⟩:=e6
   have e3:=b3.length
   have c4:us.length=U.length:=by have:=congrArg List.length b9;simpa using this.symm
   simp only[lK1,lL1] at c3
   refine e8 _ _ _ _ _ _ _ _ _ (ae (by simp;omega) ?_)
   by_cases b4:y= []
   ·subst b4
    have d5:U= []:=by cases U with
     |nil=>rfl
     |cons _ _=>simp at e3
    subst d5
    have e0:us= []:=by cases us with
     |nil=>rfl
     |cons _ _=>simp at c4
    subst e0
    obtain⟨_,rfl⟩:=b3
    refine ae (by simp) (ag (by simp at c3⊢;omega) ?_)
    refine e9 w g.length g [(E,cel (g++(junk++sp)) aC)] I ⟨by omega,by omega,.inr ⟨E,junk++sp,rfl,rfl,?_⟩⟩ (by omega) ?_ ?_
    ·simp only[lA0] at g1⊢;simp at c3;omega
    ·rw[b8];simpa[d9,qR] using b7
    ·simp only[lT0] at h;exact h.re
   ·have g6:0<y.length:=lY0.2 b4
    refine ag (by simp;omega) ?_
    refine⟨_,_,_,_,Bf rowInl.ht rowInl.hi _ n c _ _ (by omega) (by omega) w,?_⟩
    rw[if_neg (by omega),rowInl.hs]
    simp only[lI3,lK0,lN0,lC1]
    have c2:us≠ []:=by intro f1;subst f1;simp at c4;omega
    have e5:0<us.flatten.length:=by
     cases us with
     |nil=>exact absurd rfl c2
     |cons u us=>
      have:=lY0.2 (d3 u (.head _))
      simp only[lK3,lA0];omega
    have h:Sat σ w ((E,cel (g++(junk++(y++([]++sp)))) aC)::(b6++(I++L))):=h.re
    refine ov (us:=us) b3 b9 (by omega) (by omega) (by omega) ?_ e5 (by simp only[rk] at c5;omega) h λw nb a7 e7 h=>⟨_,rfl,?_⟩
    ·intro j h8
     rw[lH0 (by omega),lH0 (by omega),lM0 (by omega)]
     congr 1;omega
    have h:Sat σ w ((E,cel (g++((junk++y)++sp)) aC)::(a7++(I++L))):=by
     have e:g++(junk++(y++([]++sp)))=g++((junk++y)++sp):=by simp
     rw[<-e];exact h
    refine vk rowInl h (v:=gO bH nb) (by simp;omega) (by omega) rfl rfl (Ai _ _) λw h=>?_
    rw[uA (by simp[b4])] at h
    refine ag (by simp;omega) ?_
    refine e9 w (g.length+1) (g++ [gO bH nb]) [(E,cel ((g++ [gO bH nb])++((junk++y).drop 1++sp)) aC)] (I++a7) ⟨by simp,by omega,.inr ⟨E,_,rfl,rfl,?_⟩⟩ (by omega) ?_ ?_
    ·simp only[lA0,lN1,lE0] at g1⊢;omega
    ·rw[b8]
     simp only[d9,qR,if_neg c2]
     exact b7.append (InlsAt.one e7)
    ·exact h.re
  |cons t a6 g3=>
   intro U us b5 g junk y c8 I b6 RM w b7 b3 e6 b9 d3 d1 c5 c3 b8 h
   have e3:=b3.length
   have c4:us.length=U.length:=by have:=congrArg List.length b9;simpa using this.symm
   obtain⟨v,H,d0,c9,rfl,rfl,hv,f4⟩:=e6
   simp only[lF0] at c3
   refine e8 _ _ _ _ _ _ _ _ _ (ag (by simp;omega) ⟨by omega,by omega,aa ?_⟩)
   simp only[lK0,lC0,lC1,lN0]
   have f2:(g++(junk++(y++(v::H++sp))))[g.length+junk.length+y.length]? =some v:=by
    rw[lH0 (by omega),lH0 (by omega),lH0 (by omega)]
    rw[show g.length+junk.length+y.length - g.length - junk.length - y.length=0 by omega]
    rfl
   refine⟨v,Sat.ld h (.head _) f2,?_⟩
   cases W:t.plain? with
   |some u=>
    refine jb hv W λj1 i1 i8 i3=>⟨_,rfl,?_⟩
    refine⟨_,_,dN Em _ w,ag rfl ?_⟩
    rw[aN (by omega)]
    have:=g3 (U++ [t]) (us++ [u]) b5 g junk (y++ [v]) H I (b6++d0) c9 w b7 (b3.append (InlsAt.one hv)) f4 (by simp[b9,W])
     (by
      intro x c1;rcases lO0.1 c1 with c1|c1
      ·exact d3 x c1
      ·simp at c1;subst c1;exact d1 t (.head _) _ W)
     (λt' e4=>d1 t' (.tail _ e4)) (by simp only[rk,W] at c5;simp only[List.flatten_append,lK3,List.flatten_nil,lA0,lG0];omega) (by simp;omega) (by rw[b8,d9,W]) ?_
    ·simp only[lA0,lE0,<-lC3] at this
     exact this
    ·have e:g++(junk++(y++ [v]++(H++sp)))=g++(junk++(y++(v::H++sp))):=by simp
     rw[e];exact h.re
   |none=>
    refine jc hv W ⟨_,rfl,?_⟩
    refine⟨_,_,dN Em _ w,ae rfl ?_⟩
    have g2: ∃t b,v=gO t b:=by obtain⟨b,_,_,_,h,_⟩:=hv.ptr;exact⟨_,b,h⟩
    have g0:v.cells= #[v]/\v.oneCell'=true:=by obtain⟨t,b,rfl⟩:=g2;exact⟨rfl,rfl⟩
    have fin: ∀(d2:List Inl) (O V:List Value) (d4:List ai) w,InlsAt d2 O d4->kM ts=d2++t::d9 [] a6->O.length+V.length=g.length+junk.length+y.length->
     Sat σ w ((E,cel (O++(V++(v::H++sp))) aC)::(d4++(d0++(c9++L))))->
     bG.k2 R X (kE E) n c (kE E) O.length c ((g.length+junk.length+y.length:Nat):Int) w:=by
     intro d2 O V d4 w h3 h2 i2 h
     refine ae (by simp;omega) ⟨by omega,by omega,aa ?_⟩
     simp only[lK0,lC0,lC1,lN0]
     have f2:(O++(V++(v::H++sp)))[g.length+junk.length+y.length]? =some v:=by
      rw[lH0 (by omega),lH0 (by omega)]
      rw[show g.length+junk.length+y.length - O.length - V.length=0 by omega]
      rfl
     refine⟨v,Sat.ld h (.head _) f2,?_⟩
     have e:O++(V++(v::H++sp))=O++((V++ [v])++(H++sp)):=by simp
     rw[e] at h
     refine vk rowInl h (v:=v) (by simp;omega) (by omega) g0.1 g0.2 (fillP v g2) λw h=>?_
     rw[uA (by simp)] at h
     have h5:i64.wrap (((g.length+junk.length+y.length:Nat):Int)+1)=((g.length+junk.length+y.length+1:Nat):Int):=aN (by omega)
     rw[h5]
     have:=g3 [] [] (d2++ [t]) (O++ [v]) ((V++ [v]).drop 1) [] H (d4++d0) [] c9 w (h3.append (InlsAt.one hv)) ⟨rfl,rfl⟩ f4 rfl (by simp) (λt' e4=>d1 t' (.tail _ e4)) (by simp only[rk,W] at c5;simp;omega)
      (by simp;omega) (by rw[h2];simp) ?_
     ·simp only[lA0,lE0,lN1,lK1,lL1] at this
      have h7:O.length+1+(V.length+1 - 1)=g.length+junk.length+y.length+1:=by omega
      rw[h7] at this
      exact this
     ·rw[lT0]
      exact h.re
    by_cases b4:y= []
    ·subst b4
     have d5:U= []:=by cases U with
      |nil=>rfl
      |cons _ _=>simp at e3
     subst d5
     have e0:us= []:=by cases us with
      |nil=>rfl
      |cons _ _=>simp at c4
     subst e0
     obtain⟨_,rfl⟩:=b3
     refine ae (by simp) ?_
     refine fin b5 g junk I w b7 (by rw[b8,d9,W];rfl) (by simp) ?_
     simp only[lT0] at h
     exact h.re
    ·have g6:0<y.length:=lY0.2 b4
     refine ag (by simp;omega) ?_
     refine⟨_,_,_,_,Bf rowInl.ht rowInl.hi _ n c _ _ (by omega) (by omega) w,?_⟩
     rw[if_neg (by omega),rowInl.hs]
     simp only[lI3,lK0,lN0,lC1]
     have c2:us≠ []:=by intro f1;subst f1;simp at c4;omega
     have e5:0<us.flatten.length:=by
      cases us with
      |nil=>exact absurd rfl c2
      |cons u us=>
       have:=lY0.2 (d3 u (.head _))
       simp only[lK3,lA0];omega
     have h:Sat σ w ((E,cel (g++(junk++(y++(v::H++sp)))) aC)::(b6++(I++(d0++(c9++L))))):=h.re
     refine ov (us:=us) b3 b9 (by omega) (by omega) (by omega) ?_ e5 (by simp only[rk] at c5;omega) h λw nb a7 e7 h=>⟨_,rfl,?_⟩
     ·intro j h8
      rw[lH0 (by omega),lH0 (by omega),lM0 (by omega)]
      congr 1;omega
     have h:Sat σ w ((E,cel (g++((junk++y)++(v::H++sp))) aC)::(a7++(I++(d0++(c9++L))))):=by
      have e:g++(junk++(y++(v::H++sp)))=g++((junk++y)++(v::H++sp)):=by simp
      rw[<-e];exact h
     refine vk rowInl h (v:=gO bH nb) (by simp;omega) (by omega) rfl rfl (Ai _ _) λw h=>?_
     rw[uA (by simp[b4])] at h
     have:=fin (b5++ [.plain us.flatten]) (g++ [gO bH nb]) ((junk++y).drop 1) (I++a7) w (b7.append (InlsAt.one e7)) (by rw[b8,d9,W];simp[qR,c2]) (by simp;omega) (h.re)
     simp only[lA0,lE0] at this
     exact this
 have:=h1 ts [] [] [] [] [] [] vs [] [] EM w ⟨rfl,rfl⟩ ⟨rfl,rfl⟩ g4 rfl (by simp) g7 (by simpa using hb) (by simpa using g5) rfl (by simp only[lT0];exact h.re)
 exact this

inductive PK where
 |nil
 |fn (f:FuncId)
 |code
def jU (o:Opt)(c:UInt8):PK:=
 if c=92 then .fn iX else if c=96 then .code else if c=60 then .fn jG else if c=91 then .fn gn else if c=33 then .fn mm
 else if c=95\/c=42 then .fn dO else if c=46 then (if o.dot then .fn tW else .nil) else if c=45 then (if o.dash then .fn sC else .nil)
 else if c=34\/c=39 then (if o.quote then .fn dO else .nil) else if c=126 then (if o.strike then .fn dO else .nil) else if c=10 then .fn jF
 else if c=38 then .fn lF else if c=58 then (if o.emoji then .fn qP else .nil) else .nil
abbrev XI:=Option Addr->ByteArray->Option Addr->Nat->Nat->Int->Bool->Int->World->Prop
theorem kN {X:XI}{b pb:Nat}{p:PS}{o:Opt}{s:List UInt8}{V:Option Addr}{O U:Nat}{lo:Int}{I:Bool}{i:Nat}(hi:i<s.length)(hs:s.length<4611686018427387904)(d5:p.pz=kE pb)(e3:p.at b∈L)(e1:o.at pb∈L)(h:Sat σ w L)(g:match jU o s[i] with
  | .nil=>av.k1 R X (kE b) (bs s) V O U lo I i .nilFunc w
  | .fn f=>av.k1 R X (kE b) (bs s) V O U lo I i (.func (.func f) #[] #[]) w
  | .code=>br (!I) (callE P dM #[kT (some (hZ b 12))] (λe d2=>e= hQ (.tuple #[])/\av.k1 R X (kE b) (bs s) V O U lo true i (.func (.func bI) #[kT (some (hZ b 12))] #[]) d2) w)
   (av.k1 R X (kE b) (bs s) V O U lo I i (.func (.func bI) #[kT (some (hZ b 12))] #[]) w)):
 av.bl1 R X (kE b) (bs s) V O U lo I i w:=by
 have d1:w.cell? (hZ b 0)=some (kT (kE pb)):=by rw[<-d5];exact Sat.ld h e3 rfl
 refine ag (by simp;omega) ⟨by omega,by simp;omega,?_⟩
 unfold jU at g
 have E: ∀(d:UInt8) (m:Int),(d.toNat:Int)=m-> ¬ s[i]=d->(bt (bs s) (i:Int)==m)=false:=by
  intro d m c8 hd;rw[de hi d m c8];simpa using hd
 have y: ∀(d:UInt8) (m:Int),(d.toNat:Int)=m->s[i]=d->(bt (bs s) (i:Int)==m)=true:=by
  intro d m c8 hd;rw[de hi d m c8];simpa using hd
 by_cases b6:s[i]=92
 ·rw[if_pos b6] at g;exact ag (y 92 92 rfl b6) g
 rw[if_neg b6] at g;refine ae (E 92 92 rfl b6) ?_
 by_cases b8:s[i]=96
 ·rw[if_pos b8] at g
  refine ag (y 96 96 rfl b8) ?_
  cases I with
  |true=>exact ae rfl (aa g)
  |false=>exact ag rfl (aa (by
   have g:callE P dM #[kT (some (hZ b 12))] _ w:=g
   exact g))
 rw[if_neg b8] at g;refine ae (E 96 96 rfl b8) ?_
 by_cases b4:s[i]=60
 ·rw[if_pos b4] at g;exact ag (y 60 60 rfl b4) g
 rw[if_neg b4] at g;refine ae (E 60 60 rfl b4) ?_
 by_cases b5:s[i]=91
 ·rw[if_pos b5] at g;exact ag (y 91 91 rfl b5) g
 rw[if_neg b5] at g;refine ae (E 91 91 rfl b5) ?_
 by_cases b7:s[i]=33
 ·rw[if_pos b7] at g;exact ag (y 33 33 rfl b7) g
 rw[if_neg b7] at g;refine ae (E 33 33 rfl b7) ?_
 by_cases a7:s[i]=95
 ·rw[if_pos (.inl a7)] at g;exact ag (y 95 95 rfl a7) (ag rfl g)
 refine ae (E 95 95 rfl a7) ?_
 by_cases c3:s[i]=42
 ·rw[if_pos (.inr c3)] at g;exact ag (y 42 42 rfl c3) g
 rw[if_neg (by simp[a7,c3])] at g;refine ae (E 42 42 rfl c3) ?_
 have H: ∀ {A B:Prop} (k:Nat) (v:Bool),o.cells[k]? =some (hV v)->(v=true->A)->(v=false->B)->
  aA (some ((hZ b 0):Addr)) λd4=> ∃(d0:Option Addr),w.cell? d4=some (kT d0)/\aA d0 λd3=> ∃(c9:Bool),w.cell? (d3.add k)=some (hV c9)/\br c9 A B:=by
  intro A B k v hv e0 e2
  refine aa ⟨_,d1,aa ?_⟩
  simp only[lK0,lN0]
  exact⟨v,Sat.ld h e1 hv,bM e0 e2⟩
 by_cases c1:s[i]=46
 ·rw[if_pos c1] at g
  refine ag (y 46 46 rfl c1) (H 7 o.dot rfl (λhv=>?_) (λhv=>?_))
  ·rw[if_pos hv] at g;exact g
  ·rw[if_neg (by simp[hv])] at g;exact g
 rw[if_neg c1] at g;refine ae (E 46 46 rfl c1) ?_
 by_cases c5:s[i]=45
 ·rw[if_pos c5] at g
  refine ag (y 45 45 rfl c5) (H 8 o.dash rfl (λhv=>?_) (λhv=>?_))
  ·rw[if_pos hv] at g;exact g
  ·rw[if_neg (by simp[hv])] at g;exact g
 rw[if_neg c5] at g;refine ae (E 45 45 rfl c5) ?_
 by_cases a6:s[i]=34
 ·rw[if_pos (.inl a6)] at g
  refine ag (y 34 34 rfl a6) (ag rfl (H 9 o.quote rfl (λhv=>?_) (λhv=>?_)))
  ·rw[if_pos hv] at g;exact g
  ·rw[if_neg (by simp[hv])] at g;exact g
 refine ae (E 34 34 rfl a6) ?_
 by_cases b9:s[i]=39
 ·rw[if_pos (.inr b9)] at g
  refine ag (y 39 39 rfl b9) (H 9 o.quote rfl (λhv=>?_) (λhv=>?_))
  ·rw[if_pos hv] at g;exact g
  ·rw[if_neg (by simp[hv])] at g;exact g
 rw[if_neg (by simp[a6,b9])] at g;refine ae (E 39 39 rfl b9) ?_
 by_cases W:s[i]=126
 ·rw[if_pos W] at g
  refine ag (y 126 126 rfl W) (H 1 o.strike rfl (λhv=>?_) (λhv=>?_))
  ·rw[if_pos hv] at g;exact g
  ·rw[if_neg (by simp[hv])] at g;exact g
 rw[if_neg W] at g;refine ae (E 126 126 rfl W) ?_
 by_cases c2:s[i]=10
 ·rw[if_pos c2] at g;exact ag (y 10 10 rfl c2) g
 rw[if_neg c2] at g;refine ae (E 10 10 rfl c2) ?_
 by_cases b3:s[i]=38
 ·rw[if_pos b3] at g;exact ag (y 38 38 rfl b3) g
 rw[if_neg b3] at g;refine ae (E 38 38 rfl b3) ?_
 by_cases c4:s[i]=58
 ·rw[if_pos c4] at g
  refine ag (y 58 58 rfl c4) (H 6 o.emoji rfl (λhv=>?_) (λhv=>?_))
  ·rw[if_pos hv] at g;exact g
  ·rw[if_neg (by simp[hv])] at g;exact g
 rw[if_neg c4] at g;exact ae (E 58 58 rfl c4) g
end Go.Proofs.YtendaipfdnhnaaaGreatDoor
