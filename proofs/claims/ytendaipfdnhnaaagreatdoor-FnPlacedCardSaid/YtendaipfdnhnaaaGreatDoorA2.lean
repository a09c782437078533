/- Part 2 of the proof of the law FnPlaced: for every input the law returns true, the inputs read as they did, and memory that was there is as it was; under the conditions of the given row alone. -/
import Derived.Deep.AppendSrc
import Derived.Great.BuildSlice
import Derived.Laws.Slices
import Derived.Lib.UnsafeStr
import Derived.Lib.BufferWrite
import Derived.Lib.BufferRead
import Derived.Laws.IdiomStrings
import Derived.Laws.MakeOwn
import Derived.Shelf.Bytes.GrowSlice
import Derived.Laws.Externs
import Derived.Lib.Bytealg
import Derived.Lib.MakeNoZero
import Derived.Lib.Builder
import Derived.Test.YtendaipfdnhnaaaGreatDoorA1
set_option linter.all false
open Go.IntKind(i64)
open ByteArray renaming mk→hP
open List renaming replicate→hN
namespace Go.Proofs.YtendaipfdnhnaaaGreatDoor
open Go.Proofs Go.IntWalk Go.RowKit
set_option maxRecDepth 20000
variable {σ:Out} {w:World} {L L':List ai} {R:Ending->World->Prop}
namespace bW
def k3 (R:EP)(Xa:OA->Nat->Nat->BA->Int->OA->Nat->Nat->Int->Int->WP)(I:OA)(U V:Nat)(a6:BA)(W:Int)(a7:BA)(y:OA)(E g:Nat)(O H:Int)(w:World):Prop:=Xa I U V a6 (i64.wrap (W+(a7.size:Int))) y E g O (i64.wrap (H+1)) w
def bl2 (R:EP)(b9:BA->Nat->OA->Nat->Nat->Int->Int->WP)(V:BA)(y:Nat)(H:OA)(E b4:Nat)(O g:Int)(w:World):Prop:=br (decide (g<O)) (0<=g/\g<(E:Int)/\aA H λb5=>∃I,w.cell? (b5.add (Int.toNat g*1))=some (hX I)/\callE P bw #[kT (kE y),hX V] (λe b8=>∃b3,∃(a7:Value),e= hQ (.tuple #[hY b3,a7])/\callE P bw #[kT (kE y),hX I] (λe b6=>∃a6,∃(W:Value),e= hQ (.tuple #[hY a6,W])/\b9 V y H E b4 O (i64.wrap (g+1)) b6) b8) w) (callE P dl #[kT (kE y)] (λe b7=>∃U,e= hQ (hX U)/\R (hQ (hX U)) b7) w)
def l2 (R:EP)(U:BA)(O:Nat)(y:OA)(E g:Nat)(I H:Int)(w:World):Prop:=∀X:BA->Nat->OA->Nat->Nat->Int->Int->WP,(∀U O y E g I H w,bl2 R X U O y E g I H w->X U O y E g I H w)->X U O y E g I H w
def bl1 (R:EP)(Xa:OA->Nat->Nat->BA->Int->OA->Nat->Nat->Int->Int->WP)(E:OA)(H b6:Nat)(b8:BA)(U:Int)(W:OA)(a7 c3:Nat)(b3 g:Int)(w:World):Prop:=br (decide (g<b3)) (0<=g/\g<(a7:Int)/\aA W λa3=>∃I,w.cell? (a3.add (Int.toNat g*1))=some (hX I)/\br (decide ((I.size:Int)>(i64.wrap (9223372036854775807 - U)))) (False) (k3 R Xa E H b6 b8 U I W a7 c3 b3 g w)) (box w #[kT none,hT none 0 0] cn λO c5=>callE P eB #[kT (kE O),hY U] (λe b9=>e= hQ (.tuple #[])/\0<=(0:Int)/\0<(H:Int)/\aA E λa9=>∃b7,b9.cell? (a9.add (Int.toNat 0*1))=some (hX b7)/\callE P bw #[kT (kE O),hX b7] (λe c4=>∃c1,∃(c2:Value),e= hQ (.tuple #[hY c1,c2])/\∃a6 y,∃V b4,(Instr.sliceAt ak (hT E H b6) (some (hY 1)) none none).run P c4= .ok (hT a6 y V) b4/\l2 R b8 O a6 y V (y:Int) 0 b4) b9) c5)
def l1 (R:EP)(I:OA)(U V:Nat)(a6:BA)(W:Int)(g:OA)(E y:Nat)(O H:Int)(w:World):Prop:=∀X:OA->Nat->Nat->BA->Int->OA->Nat->Nat->Int->Int->WP,(∀I U V a6 W g E y O H w,bl1 R X I U V a6 W g E y O H w->X I U V a6 W g E y O H w)->X I U V a6 W g E y O H w
def k2 (R:EP)(y:OA)(g E:Nat)(I:BA)(H:Int)(w:World):Prop:=l1 R y g E I H y g E (g:Int) 0 w
def k1 (R:EP)(E:OA)(g H:Nat)(y:BA)(I:Int)(w:World):Prop:=k2 R E g H y (i64.wrap (I+(i64.wrap ((y.size:Int)*(i64.wrap ((g:Int) - 1)))))) w
end bW
def bW (R:EP)(E:OA)(g H:Nat)(y:BA)(w:World):Prop:=br ((g:Int)==0) (False) (br ((g:Int)==1) (0<=(0:Int)/\0<(g:Int)/\aA E λa1=>∃I,w.cell? (a1.add (Int.toNat 0*1))=some (hX I)/\R (hQ (hX I)) w) (br (decide ((y.size:Int)>0)) ((i64.wrap ((g:Int) - 1))≠0/\br (decide ((y.size:Int) >= (i64.wrap (Int.tdiv 9223372036854775807 (i64.wrap ((g:Int) - 1)))))) (False) (bW.k1 R E g H y 0 w)) (bW.k2 R E g H y 0 w)))
theorem bW.sound {R x0q x0n x0c x1 w}(h:bW R x0q x0n x0c x1 w):callE P fO #[hT x0q x0n x0c,hX x1] R w:=
 aH [(85,.no),(663,.no),(215,.mk [3,21,107] (bW.k1 R)),(31,.mk [3,21,107] (bW.k2 R)),(175,.lp [3,21,107,783,807,827] (bW.bl1 R) λXa=> [(339,.no),(115,.mk [3,21,107,141,783,807,827] (bW.k3 R Xa))]),(2815,.lp [21,166,1263,1287,1307] (bW.bl2 R) λg=> [])] Tryz.func233 Tryz.call233 h
namespace aj
noncomputable def body:Code:=mo Tryz.f80
def k3 (R:EP)(Xa:OA->Nat->WP)(g:OA)(O:Nat)(w:World):Prop:=aA g λI=>∃y,w.cell? (I.add 5)=some (hY y)/\aA g λE=>stV w ((E.add 5).add 0) (hY (i64.wrap (y+1))) λH=>Xa g O H
def bl2 (R:EP)(h3:OA->Nat->WP)(h2:OA->Nat->OA->Nat->Nat->Int->Int->WP)(H:OA)(g:Nat)(c1:OA)(b9 f1:Nat)(d0 I:Int)(w:World):Prop:=br (decide (I<d0)) (0<=I/\I<(b9:Int)/\aA c1 λg5=>∃(d1:Value),w.cell? (g5.add (Int.toNat I*1))=some d1/\∃c9,w.cell? (hZ g 0)=some (hY c9)/\∃e1,w.cell? (hZ g 1)=some (hY e1)/\∃e0,w.cell? (hZ g 2)=some (hY e0)/\∃e3,w.cell? (hZ g 3)=some (hX e3)/\∃d3,w.cell? (hZ g 4)=some (.int .u8 d3)/\cW P (do let d <-Deferred.ofValue d1 #[kT H,.agg #[hY c9,hY e1,hY e0,hX e3,.int .u8 d3]];invoke d.target d.args) (λe g0=>∃a6 W,∃a7 U,∃V b3,e= hQ (.tuple #[.agg #[hY a6,hY W,hY a7,hX U,.int .u8 V],hV b3])/\box g0 #[hY 0,hY 0,hY 0,hX (hP #[]),.int .u8 0] aW λy g7=>stV g7 (hZ y 0) (hY a6) λh1=>stV h1 (hZ y 1) (hY W) λg6=>stV g6 (hZ y 2) (hY a7) λh0=>stV h0 (hZ y 3) (hX U) λg4=>stV g4 (hZ y 4) (.int .u8 V) λE=>br b3 (∃c5,E.cell? (hZ y 0)=some (hY c5)/\∃e2,E.cell? (hZ y 1)=some (hY e2)/\∃d2,E.cell? (hZ y 2)=some (hY d2)/\∃c4,E.cell? (hZ y 3)=some (hX c4)/\∃c8,E.cell? (hZ y 4)=some (.int .u8 c8)/\stV E (hZ g 0) (hY c5) λg2=>stV g2 (hZ g 1) (hY e2) λg3=>stV g3 (hZ g 2) (hY d2) λg1=>stV g1 (hZ g 3) (hX c4) λf4=>stV f4 (hZ g 4) (.int .u8 c8) λf2=>callE P cr #[kT (kE g)] (λe O=>∃b4,e= hQ (hV b4)/\br b4 (R (hQ (.tuple #[])) O) (aA H λf6=>∃b6,O.cell? (f6.add 5)=some (hY b6)/\aA H λf3=>stV O ((f3.add 5).add 0) (hY (i64.wrap (b6+1))) λf0=>h3 H g f0)) f2) (h2 H g c1 b9 f1 d0 (i64.wrap (I+1)) E)) w) (∃b8,w.cell? (hZ g 0)=some (hY b8)/\∃c3,w.cell? (hZ g 1)=some (hY c3)/\∃b7,w.cell? (hZ g 2)=some (hY b7)/\∃b5,w.cell? (hZ g 3)=some (hX b5)/\∃c2,w.cell? (hZ g 4)=some (.int .u8 c2)/\callE P pr #[kT H,.agg #[hY b8,hY c3,hY b7,hX b5,.int .u8 c2]] (λe f5=>∃e4 e8,∃e7 e6,∃e5 e9,e= hQ (.tuple #[.agg #[hY e4,hY e8,hY e7,hX e6,.int .u8 e5],hV e9])/\R (hQ (.tuple #[])) f5) w)
def l2 (R:EP)(V:OA->Nat->WP)(U:OA)(O:Nat)(y:OA)(g E:Nat)(I H:Int)(w:World):Prop:=∀X:OA->Nat->OA->Nat->Nat->Int->Int->WP,(∀U O y g E I H w,bl2 R V X U O y g E I H w->X U O y g E I H w)->X U O y g E I H w
noncomputable def al2 (R:EP)(y:OA->Nat->WP)(g:OA->Nat->OA->Nat->Nat->Int->Int->WP):AC:=(.leaf (sb 1780 body))
def bl102 (R:EP)(I:OA->Nat->WP)(U:OA)(O:Nat)(w:World):Prop:=callE P BX #[] (λe H=>∃E g y,e= hQ (hT E g y)/\l2 R I U O E g y (g:Int) 0 H) w
def l102 (R:EP)(y:OA)(g:Nat)(w:World):Prop:=∀X:OA->Nat->WP,(∀y g w,bl102 R X y g w->X y g w)->X y g w
noncomputable def GF (R:EP)(g:OA->Nat->WP):AC:=(.seq (.seq (.leaf (sb 444 body)) (.block 2 (.loop (leaf [(0,.s .ptr),(3,.s .loc),(86,.s .slice),(87,.s (.int .i64)),(88,.s (.int .i64))] (l2 R g)) (sb 1780 body)))) (.leaf (sb 223 body)))
def k2 (R:EP)(y:OA)(I:Nat)(w:World):Prop:=callE P cr #[kT (kE I)] (λe g=>∃H,e= hQ (hV H)/\br H (aA y λO=>∃E,g.cell? (O.add 5)=some (hY E)/\callE P bj #[kT y,hY (i64.wrap (E+1))] (λe U=>e= hQ (.tuple #[])/\R (hQ (.tuple #[])) U) g) (bl102 R (l102 R) y I g)) w
def k1 (R:EP)(Xa:OA->Nat->WP)(g:OA)(H:Nat)(W b3:Bool)(w:World):Prop:=br b3 (tk w λE=>aA g λa7=>aA g λb6=>aA g λb4=>∃I O a6,E.cell? (a7.add 4)=some (hT I O a6)/\∃y,E.cell? (b6.add 5)=some (hY y)/\∃V,E.cell? (b4.add 3)=some (hY V)/\0<=(i64.wrap (y+1))/\(i64.wrap (y+1))<(O:Int)/\aA I λb5=>stV E ((((b5.add (Int.toNat (i64.wrap (y+1))*4)).add 2).add 1).add 0) (hY V) λU=>br (!W) (k2 R g H U) (k3 R Xa g H U)) (br (!W) (k2 R g H w) (k3 R Xa g H w))
def bl1 (R:EP)(Xa:OA->Nat->WP)(O:OA)(g:Nat)(w:World):Prop:=tk w λI=>aA O λh8=>aA O λh7=>∃f3,I.cell? (h8.add 5)=some (hY f3)/\∃h2 e5 g5,I.cell? (h7.add 4)=some (hT h2 e5 g5)/\br (decide ((i64.wrap (f3+1))<(e5:Int))) (∃f2,I.cell? (hZ g 0)=some (hY f2)/\∃e3,I.cell? (hZ g 1)=some (hY e3)/\∃d2,I.cell? (hZ g 2)=some (hY d2)/\∃e6,I.cell? (hZ g 3)=some (hX e6)/\∃e9,I.cell? (hZ g 4)=some (.int .u8 e9)/\box I #[hY 0,hY 0,hY 0,hX (hP #[]),.int .u8 0] aW λE g7=>stV g7 (hZ E 0) (hY f2) λf6=>stV f6 (hZ E 1) (hY e3) λg6=>stV g6 (hZ E 2) (hY d2) λh6=>stV h6 (hZ E 3) (hX e6) λh0=>stV h0 (hZ E 4) (.int .u8 e9) λh1=>tk h1 λH=>aA O λf5=>aA O λg1=>∃d0 d1 f4,H.cell? (f5.add 4)=some (hT d0 d1 f4)/\∃V,H.cell? (g1.add 5)=some (hY V)/\0<=(i64.wrap (V+1))/\(i64.wrap (V+1))<(d1:Int)/\aA d0 λh3=>∃(e8:Value),H.cell? (h3.add (Int.toNat (i64.wrap (V+1))*4))=some e8/\∃e7,H.cell? (hZ g 0)=some (hY e7)/\∃d3,H.cell? (hZ g 1)=some (hY d3)/\∃f0,H.cell? (hZ g 2)=some (hY f0)/\∃e1,H.cell? (hZ g 3)=some (hX e1)/\∃f1,H.cell? (hZ g 4)=some (.int .u8 f1)/\cW P (callMethod e8 "pub-paratext/pub/rscmarkdown.extend" #[kT O,.agg #[hY e7,hY d3,hY f0,hX e1,.int .u8 f1]]) (λe g0=>∃c8 c4,∃c5 c9,∃c3 U,e= hQ (.tuple #[.agg #[hY c8,hY c4,hY c5,hX c9,.int .u8 c3],hV U])/\stV g0 (hZ g 0) (hY c8) λh5=>stV h5 (hZ g 1) (hY c4) λg4=>stV g4 (hZ g 2) (hY c5) λg2=>stV g2 (hZ g 3) (hX c9) λg3=>stV g3 (hZ g 4) (.int .u8 c3) λh4=>callE P cr #[kT (kE E)] (λe y=>∃e2,e= hQ (hV e2)/\br (!e2) (br U (k1 R Xa O g U true y) (∃W,y.cell? (hZ g 0)=some (hY W)/\∃b5,y.cell? (hZ g 1)=some (hY b5)/\∃b4,y.cell? (hZ g 2)=some (hY b4)/\∃b7,y.cell? (hZ g 3)=some (hX b7)/\∃c1,y.cell? (hZ g 4)=some (.int .u8 c1)/\∃b6,y.cell? (hZ E 0)=some (hY b6)/\∃b8,y.cell? (hZ E 1)=some (hY b8)/\∃b3,y.cell? (hZ E 2)=some (hY b3)/\∃b9,y.cell? (hZ E 3)=some (hX b9)/\∃c2,y.cell? (hZ E 4)=some (.int .u8 c2)/\∃e4 e0,(do eqGuard .neq aW (.tmp 55) (.tmp 56) (.agg #[hY W,hY b5,hY b4,hX b7,.int .u8 c1]) (.agg #[hY b6,hY b8,hY b3,hX b9,.int .u8 c2]);binOp .neq aW (.agg #[hY W,hY b5,hY b4,hX b7,.int .u8 c1]) (.agg #[hY b6,hY b8,hY b3,hX b9,.int .u8 c2])).run P y= .ok (hV e4) e0/\k1 R Xa O g U e4 e0)) (k1 R Xa O g U false y)) h4) H) (k2 R O g I)
def l1 (R:EP)(y:OA)(g:Nat)(w:World):Prop:=∀X:OA->Nat->WP,(∀y g w,bl1 R X y g w->X y g w)->X y g w
noncomputable def al1 (R:EP)(Xa:OA->Nat->WP):AC:=(.seq (.seq (.draw (.pure 0 (.pure 1 (.pure 2 (.pure 5 (.pure 6 (.pure 7 (.load 3 (.pure 4 (.load 8 (.pure 9 (.pure 10 .done))))))))))) (sb 416 body)) (.leaf (sb 417 body))) (.seq (.block 1 (.seq (.leaf (sb 1672 body)) (.seq (.leaf (sb 3346 body)) (.seq (.draw (.pure 0 (.pure 1 (.pure 2 (.pure 4 (.pure 5 (.pure 6 (.pure 12 (.load 3 (.load 7 (.pure 8 (.pure 9 (.pure 10 (.load 11 (.load 13 (.one 14 (.pure 15 (.pure 16 (.pure 17 (.one 18 (.pure 19 .done)))))))))))))))))))) (sb 6694 body)) (.seq (.seq (.leaf (sb 26780 body)) (.mark (leaf [(0,.s .ptr),(3,.s .loc),(5,.s .bool),(59,.s .bool)] (k1 R Xa)) (.cond 59 (.draw (.pure 0 (.pure 1 (.pure 2 (.pure 4 (.pure 5 (.pure 6 (.pure 9 (.pure 10 (.pure 11 (.load 3 (.load 7 (.pure 8 (.load 12 (.pure 13 (.pure 14 (.pure 15 (.one 16 .done))))))))))))))))) (sb 53562 body)) (.leaf (sb 53563 body))))) (.leaf (sb 13391 body))))))) (.mark (leaf [(0,.s .ptr),(3,.s .loc)] (k3 R Xa)) (.leaf (sb 419 body)))))
end aj
def aj (R:EP)(g:OA)(H y I:Int)(E:BA)(O:Int)(w:World):Prop:=box w #[hY H,hY y,hY I,hX E,.int .u8 O] aW λb1 U=>aA g λa3=>stV U ((a3.add 5).add 0) (hY 0) λV=>aj.l1 R g b1 V
namespace aj
noncomputable def ac (R:EP):AC:=(.seq (.leaf (sb 2 body)) (.jump 0 (leaf [(0,.s .ptr),(3,.s .loc)] (l102 R)) (.seq (.leaf (sb 12 body)) (.seq (.block 0 (.loop (leaf [(0,.s .ptr),(3,.s .loc)] (l1 R)) (sb 104 body))) (.mark (leaf [(0,.s .ptr),(3,.s .loc)] (k2 R)) (.seq (.leaf (sb 54 body)) (.seq (.leaf (sb 110 body)) (.mark (leaf [(0,.s .ptr),(3,.s .loc)] (bl102 R (l102 R))) (GF R (l102 R))))))))))
theorem good (R:EP):vo P 113 (ac R) (QF P [] R):=
 ⟨trivial,⟨⟨trivial,⟨(Fj (al1 R) (bl1 R) (λ_=>by kernel_rfl) (λXa=>⟨⟨⟨by kernel_rfl,by kernel_rfl,λ_ _ _ h=>h⟩,trivial⟩,⟨⟨trivial,⟨trivial,⟨⟨by kernel_rfl,by kernel_rfl,λ_ _ _ h=>h⟩,⟨⟨trivial,⟨⟨⟨by kernel_rfl,by kernel_rfl,λ_ _ _ h=>h⟩,trivial⟩,cutZ⟩⟩,trivial⟩⟩⟩⟩,⟨trivial,cutZ⟩⟩⟩) (λXa=>by intro O I ρ w;kernel_rfl) (λX h _ _ _ y=>y X h)),⟨⟨trivial,⟨trivial,⟨⟨trivial,(Fj (al2 R (l102 R)) (bl2 R (l102 R)) (λ_=>by kernel_rfl) (λE=>trivial) (λE=>by intro O I V U W a7 a6 ρ w;kernel_rfl) (λX h _ _ _ _ _ _ _ _ y=>y X h))⟩,trivial⟩,cutZ⟩⟩,cutZ⟩⟩⟩,.seq .skip (sb 111 body),by kernel_rfl,jumpG (l:=0) (λX=> .seq (.leaf .skip) (GF R X)) (bl102 R) (by kernel_rfl) (λ_=>by kernel_rfl) (λH=>⟨trivial,⟨⟨trivial,(Fj (al2 R H) (bl2 R H) (λ_=>by kernel_rfl) (λE=>trivial) (λE=>by intro O I V U W a7 a6 ρ w;kernel_rfl) (λX h _ _ _ _ _ _ _ _ y=>y X h))⟩,trivial⟩⟩) (λH=>by intro O I ρ w;kernel_rfl) (λX h _ _ _ y=>y X h)⟩⟩
theorem sound {R:EP}{O:OA}{E g H:Int}{y:ByteArray}{I:Int}{w:World}(h:aj R O E g H y I w):callE P gQ #[kT O,.agg #[hY E,hY g,hY H,hX y,.int .u8 I]] R w:=
 DS (c:=body) Tryz.func80 Tryz.call80 (good R) (by kernel_rfl) h
end aj
def B8 (R:EP)(w:World):Prop:=∃E y,∃g H,(Instr.buildSlice cP 8 #[(0,.func (.func jZ) #[] #[]),(1,.func (.func fh) #[] #[]),(2,.func (.func cg) #[] #[]),(3,.func (.func qd) #[] #[]),(4,.func (.func cm) #[] #[]),(5,.func (.func lE) #[] #[]),(6,.func (.func j2) #[] #[]),(7,.func (.func pp) #[] #[])]).run P w= .ok (hT E y g) H/\R (hQ (hT E y g)) H
theorem B8.sound {R w}(h:B8 R w):callE P BX #[] R w:=
 cC Tryz.func105 Tryz.call105 h
namespace dX
def k5 (R:EP)(g:Nat)(c1:OA)(d1:BA)(w:World):Prop:=aA c1 λc3=>∃W H I,w.cell? c3=some (hT W H I)/\∃E a6,∃O b7,(Instr.buildSlice ak 1 #[(0,hX d1)]).run P w= .ok (hT E a6 O) b7/\∃V U,∃a7 b9,(Builtin.append_ #[ak,ak] ak #[hT W H I,hT E a6 O]).run P b7= .ok (hT V U a7) b9/\aA c1 λd0=>stV b9 (d0.add 0) (hT V U a7) λc5=>stV c5 (hZ g 0) (hY 0) λc9=>stV c9 (hZ g 1) (hY 0) λc8=>stV c8 (hZ g 2) (hY 0) λc2=>stV c2 (hZ g 3) (hX (hP #[])) λc4=>stV c4 (hZ g 4) (.int .u8 0) λy=>∃b6,y.cell? (hZ g 0)=some (hY b6)/\∃b8,y.cell? (hZ g 1)=some (hY b8)/\∃b3,y.cell? (hZ g 2)=some (hY b3)/\∃b4,y.cell? (hZ g 3)=some (hX b4)/\∃b5,y.cell? (hZ g 4)=some (.int .u8 b5)/\R (hQ (.tuple #[.agg #[hY b6,hY b8,hY b3,hX b4,.int .u8 b5],hV true])) y
def bl1 (R:EP)(Xa:OA->Nat->OA->BA->Int->WP)(y:OA)(a6:Nat)(W:OA)(V:BA)(g:Int)(w:World):Prop:=aA y λb9=>∃a7 I b3,w.cell? (b9.add 4)=some (hT a7 I b3)/\br (decide (g<(I:Int))) (tk w λE=>aA y λb8=>aA y λb7=>∃H O b4,E.cell? (b8.add 4)=some (hT H O b4)/\∃U,E.cell? (b7.add 3)=some (hY U)/\0<=g/\g<(O:Int)/\aA H λb6=>stV E ((((b6.add (Int.toNat g*4)).add 2).add 1).add 0) (hY U) λb5=>Xa y a6 W V (i64.wrap (g+1)) b5) (k5 R a6 W V w)
def l1 (R:EP)(I:OA)(H:Nat)(E:OA)(y:BA)(g:Int)(w:World):Prop:=∀X:OA->Nat->OA->BA->Int->WP,(∀I H E y g w,bl1 R X I H E y g w->X I H E y g w)->X I H E y g w
def k4 (R:EP)(E:OA)(V:Nat)(y:OA)(U:BA)(a7:Bool)(w:World):Prop:=br a7 (False) (∃H g,(do eqGuard .neq ar (.tmp 132) (.const (kT none)) (kT y) (kT none);binOp .neq ar (kT y) (kT none)).run P w= .ok (hV H) g/\br H (aA E λW=>∃I,g.cell? (W.add 5)=some (hY I)/\l1 R E V y U I g) (box g #[hT none 0 0,kT none] aL λO b3=>callE P bQ #[kT E,.iface ar (kT (kE O))] (λe a6=>e= hQ (.tuple #[])/\k5 R V (kE O) U a6) b3))
def k3 (R:EP)(E:OA)(I:Nat)(y:OA)(d1:Bool)(H:BA)(w:World):Prop:=tk w λg=>aA E λc4=>∃a7,g.cell? c4=some (kT a7)/\aA a7 λc2=>∃b5,g.cell? (c2.add 5)=some (hV b5)/\br b5 (∃b3,(∀w,(do eqGuard .neq ar (.tmp 59) (.const (kT none)) (kT y) (kT none);binOp .neq ar (kT y) (kT none)).run P w= .ok (hV b3) w)/\br b3 (br d1 (aA y λd0=>∃b6 W b9,g.cell? d0=some (hT b6 W b9)/\br (decide ((W:Int)>0)) (aA y λc9=>aA y λc5=>∃V U c1,g.cell? c9=some (hT V U c1)/\∃b8 O b7,g.cell? c5=some (hT b8 O b7)/\0<=(i64.wrap ((O:Int) - 1))/\(i64.wrap ((O:Int) - 1))<(U:Int)/\aA V λc8=>∃b4,g.cell? (c8.add (Int.toNat (i64.wrap ((O:Int) - 1))*1))=some (hX b4)/\callE P tf #[hX b4,hX H] (λe c3=>∃a6,e= hQ (hV a6)/\k4 R E I y H a6 c3) g) (k4 R E I y H false g)) (k4 R E I y H false g)) (k4 R E I y H false g)) (k4 R E I y H false g)
def k1 (R:EP)(O:OA)(H:Nat)(E:OA)(I:Bool)(y:BA)(g:Bool)(w:World):Prop:=br g (False) (k3 R O H E I y w)
end dX
def dX (R:EP)(y:OA)(b7 b5 b8:Int)(b6:BA)(c2:Int)(w:World):Prop:=box w #[hY b7,hY b5,hY b8,hX b6,.int .u8 c2] aW λb1 c9=>box c9 #[hY 0,hY 0,hY 0,hX (hP #[]),.int .u8 0] aW λb4 c8=>callE P eh #[kT y] (λe c5=>∃g,e= hQ (kT g)/\tk c5 λV=>aA y λa8=>aA y λa9=>∃O,V.cell? (a8.add 5)=some (hY O)/\∃c1 H b9,V.cell? (a9.add 4)=some (hT c1 H b9)/\callE P fV #[kT (kE b1)] (λe c4=>∃U,e= hQ (hX U)/\∃W E,(do eqGuard .neq ar (.tmp 26) (.const (kT none)) (kT g) (kT none);binOp .neq ar (kT g) (kT none)).run P c4= .ok (hV W) E/\br W (aA g λc3=>∃I,E.cell? (c3.add 1)=some (kT I)/\∃a7 a6,(do eqGuard .neq fc (.tmp 32) (.const (kT none)) (kT I) (kT none);binOp .neq fc (kT I) (kT none)).run P E= .ok (hV a7) a6/\dX.k1 R y b4 g (O==(i64.wrap ((H:Int) - 2))) U a7 a6) (dX.k1 R y b4 g (O==(i64.wrap ((H:Int) - 2))) U false E)) V) c8
theorem dX.sound {R x0 x1_0 x1_1 x1_2 x1_3 x1_4 w}(h:dX R x0 x1_0 x1_1 x1_2 x1_3 x1_4 w):callE P pr #[kT x0,.agg #[hY x1_0,hY x1_1,hY x1_2,hX x1_3,.int .u8 x1_4]] R w:=
 aH [(11,.dr (rpN [0,3,6,12,15,18,10,22,24,27,30,33])),(111,.mk [2,86,122,140,161,680] (dX.k1 R)),(175,.no),(63,.mk [2,86,122,140,161] (dX.k3 R)),(159,.dr (rpN [0,3,6,10,12,15,19,21,24,27,30,33,36,39,42,45,48,51,55,57,60,63,66,69,72,75,81,84,87,105,79,91,93,96,99,103,110,111])),(223,.mk [2,86,122,161,1760] (dX.k4 R)),(351,.no),(2751,.lp [2,86,122,161,227] (dX.bl1 R) λXa=> [(9,.dr (rpN [0,3,6,12,15,18,21,10,25,27,30,33,38]))]),(255,.mk [86,122,161] (dX.k5 R))] Tryz.func106 Tryz.call106 h
namespace jw
def k1 (R:EP)(c2:OA)(E g c1:Nat)(b6:Bool)(w:World):Prop:=br b6 (False) (∃b3,w.cell? (hZ E 0)=some (hY b3)/\∃a7,w.cell? (hZ E 1)=some (hY a7)/\∃V,w.cell? (hZ E 2)=some (hY V)/\∃a6,w.cell? (hZ E 3)=some (hX a6)/\∃W,w.cell? (hZ E 4)=some (.int .u8 W)/\stV w (hZ g 0) (hY b3) λb9=>stV b9 (hZ g 1) (hY a7) λb8=>stV b8 (hZ g 2) (hY V) λb5=>stV b5 (hZ g 3) (hX a6) λb7=>stV b7 (hZ g 4) (.int .u8 W) λy=>∃O,y.cell? (hZ g 0)=some (hY O)/\∃b4,y.cell? (hZ g 1)=some (hY b4)/\∃I,y.cell? (hZ g 2)=some (hY I)/\∃U,y.cell? (hZ g 3)=some (hX U)/\∃H,y.cell? (hZ g 4)=some (.int .u8 H)/\R (hQ (.tuple #[.agg #[hY O,hY b4,hY I,hX U,.int .u8 H],hV false])) y)
end jw
def jw (R:EP)(E:OA)(c1 b8 c2:Int)(b9:BA)(c3:Int)(w:World):Prop:=box w #[hY c1,hY b8,hY c2,hX b9,.int .u8 c3] aW λb1 e0=>box e0 #[hY 0,hY 0,hY 0,hX (hP #[]),.int .u8 0] aW λO y=>∃a7,y.cell? (hZ b1 0)=some (hY a7)/\∃b5,y.cell? (hZ b1 1)=some (hY b5)/\∃b6,y.cell? (hZ b1 2)=some (hY b6)/\∃b4,y.cell? (hZ b1 3)=some (hX b4)/\∃b7,y.cell? (hZ b1 4)=some (.int .u8 b7)/\box y #[hY 0,hY 0,hY 0,hX (hP #[]),.int .u8 0] aW λg c9=>stV c9 (hZ g 0) (hY a7) λc4=>stV c4 (hZ g 1) (hY b5) λd3=>stV d3 (hZ g 2) (hY b6) λd0=>stV d0 (hZ g 3) (hX b4) λd2=>stV d2 (hZ g 4) (.int .u8 b7) λc8=>callE P eh #[kT E] (λe c5=>∃H,e= hQ (kT H)/\∃U I,(do eqGuard .eql ar (.tmp 10) (.const (kT none)) (kT H) (kT none);binOp .eql ar (kT H) (kT none)).run P c5= .ok (hV U) I/\br U (callE P bl #[kT (kE g),hY 4,hY 4,hV false] (λe a6=>∃V,e= hQ (hV V)/\br V (callE P cr #[kT (kE g)] (λe d1=>∃W,e= hQ (hV W)/\jw.k1 R E b1 O g (!W) d1) a6) (jw.k1 R E b1 O g false a6)) I) (jw.k1 R E b1 O g false I)) c8
theorem jw.sound {R x0 x1_0 x1_1 x1_2 x1_3 x1_4 w}(h:jw R x0 x1_0 x1_1 x1_2 x1_3 x1_4 w):callE P pp #[kT x0,.agg #[hY x1_0,hY x1_1,hY x1_2,hX x1_3,.int .u8 x1_4]] R w:=
 aH [(27,.mk [2,66,86,126,360] (jw.k1 R)),(43,.no)] Tryz.func148 Tryz.call148 h
namespace bz
def k1 (R:EP)(Xa:OA->OA->OA->OA->Nat->WP)(V U:OA)(W g:OA)(O:Nat)(w:World):Prop:=aA g λI=>∃y,w.cell? I=some (hY y)/\aA g λH=>stV w (H.add 0) (hY (i64.wrap (y+1))) λE=>Xa V U W g O E
def k4 (R:EP)(b8 b7 b9:OA)(H:BA)(y:Int)(b4:BA)(w:World):Prop:=callE P ia #[hX b4] (λe a7=>∃E,e= hQ (hX E)/\aA b9 λV=>stV a7 (V.add 0) (hX E) λO=>0<=y/\y<=(H.size:Int)/\aA b7 λb3=>stV O (b3.add 0) (hX (H.extract 0 (Int.toNat y))) λW=>aA b8 λg=>stV W (g.add 0) (hY 0) λU=>stV U (g.add 1) (hY 0) λb5=>stV b5 (g.add 2) (hY 0) λa6=>stV a6 (g.add 3) (hX (hP #[])) λI=>stV I (g.add 4) (.int .u8 0) λb6=>R (hQ (hV true)) b6) w
def bl2 (R:EP)(b8:OA->OA->OA->Nat->Int->BA->Int->Int->WP)(O V W:OA)(U:Nat)(y:Int)(E:BA)(H b6:Int)(w:World):Prop:=callE P fz #[kT (kE U),.int .u8 y] (λe I=>∃a6,e= hQ (hV a6)/\br (!a6) (br (decide (b6 >= 3)) (callE P jh #[kT (kE U)] (λe b7=>∃b5,e= hQ (hX b5)/\callE P gm #[.agg #[],hX b5] (λe a7=>∃g,e= hQ (hX g)/\br (y==96) (callE P iO #[hX g,hX (hP #[96])] (λe b4=>∃b3,e= hQ (hV b3)/\br b3 (R (hQ (hV false)) b4) (k4 R O V W E H g b4)) a7) (k4 R O V W E H g a7)) b7) I) (R (hQ (hV false)) I)) (b8 O V W U y E (i64.wrap (H+1)) (i64.wrap (b6+1)) I)) w
def l2 (R:EP)(U O V:OA)(I:Nat)(H:Int)(y:BA)(g E:Int)(w:World):Prop:=∀X:OA->OA->OA->Nat->Int->BA->Int->Int->WP,(∀U O V I H y g E w,bl2 R X U O V I H y g E w->X U O V I H y g E w)->X U O V I H y g E w
def k3 (R:EP)(U O V:OA)(y:Nat)(I:Int)(H:Bool)(w:World):Prop:=br H (callE P gH #[kT (kE y)] (λe E=>∃g,e= hQ (hX g)/\l2 R U O V y I g 0 0 E) w) (R (hQ (hV false)) w)
def k2 (R:EP)(I H O:OA)(y:Nat)(w:World):Prop:=callE P iA #[kT (kE y)] (λe E=>∃g,e= hQ (.int .u8 g)/\br (g==96) (k3 R I H O y g true E) (k3 R I H O y g (g==126) E)) w
def bl1 (R:EP)(Xa:OA->OA->OA->OA->Nat->WP)(E y:OA)(H V:OA)(g:Nat)(w:World):Prop:=aA V λW=>∃I,w.cell? W=some (hY I)/\br (decide (I<3)) (callE P bl #[kT (kE g),hY 1,hY 1,hV false] (λe O=>∃U,e= hQ (hV U)/\br U (k1 R Xa E y H V g O) (k2 R E y H g O)) w) (k2 R E y H g w)
def l1 (R:EP)(H y:OA)(I E:OA)(g:Nat)(w:World):Prop:=∀X:OA->OA->OA->OA->Nat->WP,(∀H y I E g w,bl1 R X H y I E g w->X H y I E g w)->X H y I E g w
end bz
def bz (R:EP)(V b9:OA)(b8 U:OA)(w:World):Prop:=aA V λa1=>∃E,w.cell? (a1.add 0)=some (hY E)/\∃y,w.cell? (a1.add 1)=some (hY y)/\∃O,w.cell? (a1.add 2)=some (hY O)/\∃H,w.cell? (a1.add 3)=some (hX H)/\∃I,w.cell? (a1.add 4)=some (.int .u8 I)/\box w #[hY 0,hY 0,hY 0,hX (hP #[]),.int .u8 0] aW λg b5=>stV b5 (hZ g 0) (hY E) λb6=>stV b6 (hZ g 1) (hY y) λa7=>stV a7 (hZ g 2) (hY O) λW=>stV W (hZ g 3) (hX H) λa6=>stV a6 (hZ g 4) (.int .u8 I) λb4=>aA U λa14=>stV b4 (a14.add 0) (hY 0) λb3=>bz.l1 R V b9 b8 U g b3
theorem bz.sound {R x0 x1 x2 x3 w}(h:bz R x0 x1 x2 x3 w):callE P fH #[kT x0,kT x1,kT x2,kT x3] R w:=
 aH [(39,.lp [2,22,42,62,186] (bz.bl1 R) λXa=> [(3,.mk [2,22,42,62,186] (bz.k1 R Xa))]),(31,.mk [2,22,42,186] (bz.k2 R)),(879,.mk [2,22,42,186,208,680] (bz.k3 R)),(44399,.lp [2,22,42,186,208,221,247,267] (bz.bl2 R) λg=> []),(64879,.mk [2,22,42,221,247,281] (bz.k4 R))] Tryz.func201 Tryz.call201 h
namespace dP
def k4 (R:EP)(c2:OA)(g c1:Nat)(b9 c3:Nat)(w:World):Prop:=∃W,w.cell? (hZ c1 0)=some (hX W)/\∃U,w.cell? (hZ b9 0)=some (hX U)/\∃a6,w.cell? (hZ c3 0)=some (hY a6)/\box w #[hX W,hX U,hY a6,hT none 0 0] mC λb5 b8=>callE P bQ #[kT c2,.iface gA (kT (kE b5))] (λe b4=>e= hQ (.tuple #[])/\stV b4 (hZ g 0) (hY 0) λb7=>stV b7 (hZ g 1) (hY 0) λb6=>stV b6 (hZ g 2) (hY 0) λa7=>stV a7 (hZ g 3) (hX (hP #[])) λb3=>stV b3 (hZ g 4) (.int .u8 0) λy=>∃O,y.cell? (hZ g 0)=some (hY O)/\∃V,y.cell? (hZ g 1)=some (hY V)/\∃E,y.cell? (hZ g 2)=some (hY E)/\∃H,y.cell? (hZ g 3)=some (hX H)/\∃I,y.cell? (hZ g 4)=some (.int .u8 I)/\R (hQ (.tuple #[.agg #[hY O,hY V,hY E,hX H,.int .u8 I],hV true])) y) b8
def bl1 (R:EP)(Xa:OA->Nat->Nat->Nat->Nat->Value->WP)(a6:OA)(V U:Nat)(W O:Nat)(g:Value)(w:World):Prop:=(∃E,(Instr.next g true ty_).run P w= .ok (.tuple #[hV false]) E/\k4 R a6 V U W O E)\/ (∃a7 y I,(Instr.next g true ty_).run P w= .ok (.tuple #[hV true,hY a7,.int .i32 y]) I/\callE P dF #[.int .i32 y] (λe b3=>∃H,e= hQ (hV H)/\br H (False) (Xa a6 V U W O g b3)) I)
def l1 (R:EP)(O:OA)(H E:Nat)(I y:Nat)(g:Value)(w:World):Prop:=∀X:OA->Nat->Nat->Nat->Nat->Value->WP,(∀O H E I y g w,bl1 R X O H E I y g w->X O H E I y g w)->X O H E I y g w
def k2 (R:EP)(V:OA)(U O:Nat)(H I:Nat)(w:World):Prop:=∃g,w.cell? (hZ H 0)=some (hX g)/\∃(E:Value),∃y,(Instr.range aq (hX g)).run P w= .ok E y/\l1 R V U O H I E y
def k3 (R:EP)(O:OA)(H E:Nat)(I y:Nat)(g:Bool)(w:World):Prop:=br g (False) (k2 R O H E I y w)
def k1 (R:EP)(V:OA)(U O:Nat)(g I:Nat)(W:Bool)(w:World):Prop:=br W (False) (∃E,w.cell? (hZ g 0)=some (hX E)/\br (!(E.toList==(hP #[]).toList)) (∃y,w.cell? (hZ g 0)=some (hX y)/\(true=true->0<=(0:Int)/\0<(y.size:Int))/\callE P qh #[.int .u8 (bt y 0)] (λe a6=>∃H,e= hQ (hV H)/\k3 R V U O g I (!H) a6) w) (k3 R V U O g I false w))
end dP
def dP (R:EP)(e1:OA)(e4 e2 e5:Int)(e3:BA)(e6:Int)(w:World):Prop:=box w #[hY e4,hY e2,hY e5,hX e3,.int .u8 e6] aW λb1 g2=>box g2 #[hY 0,hY 0,hY 0,hX (hP #[]),.int .u8 0] aW λg g1=>box g1 #[hX (hP #[])] aq λO g0=>box g0 #[hX (hP #[])] aq λU g3=>box g3 #[hY 0] bg λW E=>∃c1,E.cell? (hZ b1 0)=some (hY c1)/\∃a6,E.cell? (hZ b1 1)=some (hY a6)/\∃c8,E.cell? (hZ b1 2)=some (hY c8)/\∃d3,E.cell? (hZ b1 3)=some (hX d3)/\∃c5,E.cell? (hZ b1 4)=some (.int .u8 c5)/\box E #[hY 0,hY 0,hY 0,hX (hP #[]),.int .u8 0] aW λH e7=>stV e7 (hZ H 0) (hY c1) λf0=>stV f0 (hZ H 1) (hY a6) λf5=>stV f5 (hZ H 2) (hY c8) λf2=>stV f2 (hZ H 3) (hX d3) λf3=>stV f3 (hZ H 4) (.int .u8 c5) λf6=>callE P fH #[kT (kE H),kT (kE O),kT (kE U),kT (kE W)] (λe y=>∃c9,e= hQ (hV c9)/\br c9 (∃V,y.cell? (hZ O 0)=some (hX V)/\0<=(0:Int)/\0<(V.size:Int)/\br ((bt V 0)==126) (∃d2,y.cell? (hZ U 0)=some (hX d2)/\dP.k1 R e1 g O U W (!(d2.toList==(hP #[]).toList)) y) (dP.k1 R e1 g O U W false y)) (∃c3,y.cell? (hZ b1 0)=some (hY c3)/\∃d1,y.cell? (hZ b1 1)=some (hY d1)/\∃d0,y.cell? (hZ b1 2)=some (hY d0)/\∃b4,y.cell? (hZ b1 3)=some (hX b4)/\∃e0,y.cell? (hZ b1 4)=some (.int .u8 e0)/\stV y (hZ g 0) (hY c3) λe9=>stV e9 (hZ g 1) (hY d1) λf1=>stV f1 (hZ g 2) (hY d0) λf4=>stV f4 (hZ g 3) (hX b4) λe8=>stV e8 (hZ g 4) (.int .u8 e0) λI=>∃b6,I.cell? (hZ g 0)=some (hY b6)/\∃b8,I.cell? (hZ g 1)=some (hY b8)/\∃a7,I.cell? (hZ g 2)=some (hY a7)/\∃c4,I.cell? (hZ g 3)=some (hX c4)/\∃c2,I.cell? (hZ g 4)=some (.int .u8 c2)/\R (hQ (.tuple #[.agg #[hY b6,hY b8,hY a7,hX c4,.int .u8 c2],hV false])) I)) f6
theorem dP.sound {R x0 x1_0 x1_1 x1_2 x1_3 x1_4 w}(h:dP R x0 x1_0 x1_1 x1_2 x1_3 x1_4 w):callE P j2 #[kT x0,.agg #[hY x1_0,hY x1_1,hY x1_2,hX x1_3,.int .u8 x1_4]] R w:=
 aH [(815,.mk [2,86,126,146,166,400] (dP.k1 R)),(1327,.no),(3887,.mk [2,86,126,146,166,620] (dP.k3 R)),(5935,.no),(431,.mk [2,86,126,146,166] (dP.k2 R)),(2735,.lp [2,86,126,146,166,725] (dP.bl1 R) λXa=> [(91,.no)]),(943,.mk [2,86,126,146,166] (dP.k4 R))] Tryz.func147 Tryz.call147 h
namespace bL
def k1 (R:EP)(I:OA)(O g g2:Nat)(f5:Bool)(w:World):Prop:=br f5 (callE P aJ #[kT I] (λe e1=>∃(e6:Value),e= hQ e6/\callE P lC #[kT I] (λe g1=>∃(d2:Value),e= hQ d2/\∃U V b4,(Instr.typeAssert d2 aO bD true).run P g1= .ok (.tuple #[kT U,hV V]) b4/\br (!V) (False) (callE P iT #[kT I] (λe f0=>e= hQ (.tuple #[])/\tk f0 λH=>aA U λg0=>aA I λe4=>aA U λe7=>∃b3,H.cell? g0=some (hY b3)/\∃c1,H.cell? (e4.add 3)=some (hY c1)/\∃b7,H.cell? (hZ g2 0)=some (hY b7)/\∃a6,H.cell? (e7.add 2)=some (kT a6)/\box H #[hY b3,hY c1,hY b7,kT a6,hX (hP #[])] pQ λe3 f3=>callE P dL #[kT I,.iface gd (kT (kE e3))] (λe e5=>e= hQ (.tuple #[])/\stV e5 (hZ g 0) (hY 0) λf4=>stV f4 (hZ g 1) (hY 0) λe8=>stV e8 (hZ g 2) (hY 0) λe0=>stV e0 (hZ g 3) (hX (hP #[])) λf1=>stV f1 (hZ g 4) (.int .u8 0) λy=>∃c9,y.cell? (hZ g 0)=some (hY c9)/\∃c5,y.cell? (hZ g 1)=some (hY c5)/\∃c3,y.cell? (hZ g 2)=some (hY c3)/\∃b8,y.cell? (hZ g 3)=some (hX b8)/\∃c8,y.cell? (hZ g 4)=some (.int .u8 c8)/\R (hQ (.tuple #[.agg #[hY c9,hY c5,hY c3,hX b8,.int .u8 c8],hV true])) y) f3) b4)) e1) w) (∃a7,w.cell? (hZ O 0)=some (hY a7)/\∃d0,w.cell? (hZ O 1)=some (hY d0)/\∃d1,w.cell? (hZ O 2)=some (hY d1)/\∃c4,w.cell? (hZ O 3)=some (hX c4)/\∃b9,w.cell? (hZ O 4)=some (.int .u8 b9)/\stV w (hZ g 0) (hY a7) λf2=>stV f2 (hZ g 1) (hY d0) λe2=>stV e2 (hZ g 2) (hY d1) λe9=>stV e9 (hZ g 3) (hX c4) λf6=>stV f6 (hZ g 4) (.int .u8 b9) λE=>∃c2,E.cell? (hZ g 0)=some (hY c2)/\∃W,E.cell? (hZ g 1)=some (hY W)/\∃b5,E.cell? (hZ g 2)=some (hY b5)/\∃b6,E.cell? (hZ g 3)=some (hX b6)/\∃d3,E.cell? (hZ g 4)=some (.int .u8 d3)/\R (hQ (.tuple #[.agg #[hY c2,hY W,hY b5,hX b6,.int .u8 d3],hV false])) E)
end bL
def bL (R:EP)(E:OA)(c2 b9 c3:Int)(c1:BA)(c4:Int)(w:World):Prop:=box w #[hY c2,hY b9,hY c3,hX c1,.int .u8 c4] aW λb1 e3=>box e3 #[hY 0,hY 0,hY 0,hX (hP #[]),.int .u8 0] aW λb4 e2=>box e2 #[hY 0] bg λU y=>∃b7,y.cell? (hZ b1 0)=some (hY b7)/\∃b6,y.cell? (hZ b1 1)=some (hY b6)/\∃b8,y.cell? (hZ b1 2)=some (hY b8)/\∃a7,y.cell? (hZ b1 3)=some (hX a7)/\∃V,y.cell? (hZ b1 4)=some (.int .u8 V)/\box y #[hY 0,hY 0,hY 0,hX (hP #[]),.int .u8 0] aW λg e1=>stV e1 (hZ g 0) (hY b7) λd0=>stV d0 (hZ g 1) (hY b6) λe0=>stV e0 (hZ g 2) (hY b8) λc9=>stV c9 (hZ g 3) (hX a7) λc5=>stV c5 (hZ g 4) (.int .u8 V) λc8=>callE P ga #[kT E] (λe d2=>∃(H:Value),e= hQ H/\callE P eh #[kT E] (λe d3=>∃I,e= hQ (kT I)/\∃W O,(do eqGuard .eql bO (.tmp 12) (.tmp 15) H (.iface ar (kT I));binOp .eql bO H (.iface ar (kT I))).run P d3= .ok (hV W) O/\br W (callE P fi #[kT (kE g),kT (kE U)] (λe d1=>∃a6,e= hQ (hV a6)/\bL.k1 R E b1 b4 U a6 d1) O) (bL.k1 R E b1 b4 U false O)) d2) c8
theorem bL.sound {R x0 x1_0 x1_1 x1_2 x1_3 x1_4 w}(h:bL R x0 x1_0 x1_1 x1_2 x1_3 x1_4 w):callE P cg #[kT x0,.agg #[hY x1_0,hY x1_1,hY x1_2,hX x1_3,.int .u8 x1_4]] R w:=
 aH [(55,.mk [2,66,86,126,380] (bL.k1 R)),(2775,.no),(3031,.dr (rpN [0,3,6,9,12,18,21,24,36,39,42,16,28,30,34,46,48,53,54,59]))] Tryz.func143 Tryz.call143 h
namespace cN
def k1 (R:EP)(i1:OA)(y g:Nat)(f5:OA)(h8:Bool)(w:World):Prop:=br h8 (aA f5 λa13=>∃(e4:Value),w.cell? (a13.add 4)=some e4/\cW P (do let d <-Deferred.ofValue e4 #[];invoke d.target d.args) (λe h0=>∃V b3,∃a6 W a7,e= hQ (.agg #[hY V,hY b3,hY a6,hX W,.int .u8 a7])/\stV h0 (hZ y 0) (hY V) λf6=>stV f6 (hZ y 1) (hY b3) λg7=>stV g7 (hZ y 2) (hY a6) λh6=>stV h6 (hZ y 3) (hX W) λh1=>stV h1 (hZ y 4) (.int .u8 a7) λh2=>aA f5 λh7=>stV h2 ((h7.add 4).add 0) .nilFunc λO=>∃f3,O.cell? (hZ y 0)=some (hY f3)/\∃f0,O.cell? (hZ y 1)=some (hY f0)/\∃e2,O.cell? (hZ y 2)=some (hY e2)/\∃d1,O.cell? (hZ y 3)=some (hX d1)/\∃e1,O.cell? (hZ y 4)=some (.int .u8 e1)/\stV O (hZ g 0) (hY f3) λg3=>stV g3 (hZ g 1) (hY f0) λi0=>stV i0 (hZ g 2) (hY e2) λh9=>stV h9 (hZ g 3) (hX d1) λg2=>stV g2 (hZ g 4) (.int .u8 e1) λH=>∃c9,H.cell? (hZ g 0)=some (hY c9)/\∃b8,H.cell? (hZ g 1)=some (hY b8)/\∃f4,H.cell? (hZ g 2)=some (hY f4)/\∃b7,H.cell? (hZ g 3)=some (hX b7)/\∃c1,H.cell? (hZ g 4)=some (.int .u8 c1)/\R (hQ (.tuple #[.agg #[hY c9,hY b8,hY f4,hX b7,.int .u8 c1],hV true])) H) w) (callE P bN #[kT i1,kT (kE y)] (λe E=>∃d2,e= hQ (hV d2)/\br d2 (∃c5,E.cell? (hZ y 0)=some (hY c5)/\∃b5,E.cell? (hZ y 1)=some (hY b5)/\∃c2,E.cell? (hZ y 2)=some (hY c2)/\∃e3,E.cell? (hZ y 3)=some (hX e3)/\∃d0,E.cell? (hZ y 4)=some (.int .u8 d0)/\stV E (hZ g 0) (hY c5) λg4=>stV g4 (hZ g 1) (hY b5) λh3=>stV h3 (hZ g 2) (hY c2) λg6=>stV g6 (hZ g 3) (hX e3) λg0=>stV g0 (hZ g 4) (.int .u8 d0) λI=>∃f2,I.cell? (hZ g 0)=some (hY f2)/\∃e9,I.cell? (hZ g 1)=some (hY e9)/\∃e7,I.cell? (hZ g 2)=some (hY e7)/\∃e0,I.cell? (hZ g 3)=some (hX e0)/\∃c8,I.cell? (hZ g 4)=some (.int .u8 c8)/\R (hQ (.tuple #[.agg #[hY f2,hY e9,hY e7,hX e0,.int .u8 c8],hV true])) I) (∃e6,E.cell? (hZ y 0)=some (hY e6)/\∃b6,E.cell? (hZ y 1)=some (hY b6)/\∃e8,E.cell? (hZ y 2)=some (hY e8)/\∃f1,E.cell? (hZ y 3)=some (hX f1)/\∃e5,E.cell? (hZ y 4)=some (.int .u8 e5)/\stV E (hZ g 0) (hY e6) λh5=>stV h5 (hZ g 1) (hY b6) λh4=>stV h4 (hZ g 2) (hY e8) λg1=>stV g1 (hZ g 3) (hX f1) λg5=>stV g5 (hZ g 4) (.int .u8 e5) λU=>∃c4,U.cell? (hZ g 0)=some (hY c4)/\∃d3,U.cell? (hZ g 1)=some (hY d3)/\∃b4,U.cell? (hZ g 2)=some (hY b4)/\∃b9,U.cell? (hZ g 3)=some (hX b9)/\∃c3,U.cell? (hZ g 4)=some (.int .u8 c3)/\R (hQ (.tuple #[.agg #[hY c4,hY d3,hY b4,hX b9,.int .u8 c3],hV false])) U)) w)
end cN
def cN (R:EP)(H:OA)(b4 a6 b5:Int)(a7:BA)(b6:Int)(w:World):Prop:=box w #[hY b4,hY a6,hY b5,hX a7,.int .u8 b6] aW λb1 b8=>box b8 #[hY 0,hY 0,hY 0,hX (hP #[]),.int .u8 0] aW λV b9=>callE P jg #[kT H] (λe b7=>∃(W:Value),e= hQ W/\∃g I y,(Instr.typeAssert W bO az true).run P b7= .ok (.tuple #[kT g,hV I]) y/\br I (aA g λa9=>∃(E:Value),y.cell? (a9.add 4)=some E/\∃O U,(do eqGuard .neq mB (.tmp 19) (.const .nilFunc) E .nilFunc;binOp .neq mB E .nilFunc).run P y= .ok (hV O) U/\cN.k1 R H b1 V g O U) (cN.k1 R H b1 V g false y)) b9
theorem cN.sound {R x0 x1_0 x1_1 x1_2 x1_3 x1_4 w}(h:cN R x0 x1_0 x1_1 x1_2 x1_3 x1_4 w):callE P cm #[kT x0,.agg #[hY x1_0,hY x1_1,hY x1_2,hX x1_3,.int .u8 x1_4]] R w:=
 aH [(29,.mk [2,66,86,122,420] (cN.k1 R))] Tryz.func145 Tryz.call145 h
def jn (R:EP)(H:OA)(w:World):Prop:=tk w λE=>aA H λa2=>aA H λa3=>∃W,E.cell? (a2.add 5)=some (hY W)/\∃b3 V b4,E.cell? (a3.add 4)=some (hT b3 V b4)/\br (decide (W<(V:Int))) (tk E λy=>aA H λb5=>aA H λa8=>∃U O a6,y.cell? (b5.add 4)=some (hT U O a6)/\∃g,y.cell? (a8.add 5)=some (hY g)/\0<=g/\g<(O:Int)/\aA U λa11=>∃(I:Value),y.cell? (a11.add (Int.toNat g*4))=some I/\R (hQ I) y) (R (.returned .nilIface) E)
theorem jn.sound {R x0 w}(h:jn R x0 w):callE P jg #[kT x0] R w:=
 aH [(9,.dr (rpN [0,3,6,12,15,18,10,22,24,27])),(37,.dr (rpN [0,3,6,12,15,18,10,22,24,27,31,33]))] Tryz.func198 Tryz.call198 h
def iX (R:EP)(H:OA)(w:World):Prop:=tk w λE=>aA H λa2=>aA H λa3=>∃W,E.cell? (a2.add 5)=some (hY W)/\∃b3 V b4,E.cell? (a3.add 4)=some (hT b3 V b4)/\br (decide ((i64.wrap (W+1))<(V:Int))) (tk E λy=>aA H λb5=>aA H λa8=>∃U O a6,y.cell? (b5.add 4)=some (hT U O a6)/\∃g,y.cell? (a8.add 5)=some (hY g)/\0<=(i64.wrap (g+1))/\(i64.wrap (g+1))<(O:Int)/\aA U λa11=>∃(I:Value),y.cell? (a11.add (Int.toNat (i64.wrap (g+1))*4))=some I/\R (hQ I) y) (R (.returned .nilIface) E)
theorem iX.sound {R x0 w}(h:iX R x0 w):callE P ga #[kT x0] R w:=
 aH [(9,.dr (rpN [0,3,6,15,18,21,10,12,25,27,30])),(37,.dr (rpN [0,3,6,12,15,18,10,22,24,27,30,34,36]))] Tryz.func193 Tryz.call193 h
namespace am
def k5 (R:EP)(Xa:Nat->Nat->Int->Int->Int->Nat->Int->Int->WP)(V U:Nat)(I H O:Int)(E:Nat)(y g:Int)(w:World):Prop:=Xa V U I H O E (i64.wrap (y+1)) (i64.wrap (g+1)) w
def k9 (R:EP)(U:Nat->Nat->Int->Int->Int->WP)(V E:Nat)(I O:Int)(y H:Int)(w:World):Prop:=∃g,w.cell? (hZ E 1)=some (hY g)/\br (decide ((i64.wrap (y - g)) >= 9)) (False) (U V E I (i64.wrap ((i64.wrap ((i64.wrap (O*10))+(i64.wrap H))) - 48)) (i64.wrap (y+1)) w)
def k14 (R:EP)(U O:Nat)(y I:Nat)(w:World):Prop:=∃g,w.cell? (hZ y 0)=some (kT g)/\aA g λE=>stV w ((E.add 4).add 0) (.func (.func d8) #[] #[kT (kE U),kT (kE I),kT (kE y),kT (kE O)]) λH=>R (hQ (hV true)) H
def k13 (R:EP)(W E:Nat)(V:Int)(g:Nat)(w:World):Prop:=tk w λy=>∃H,y.cell? (hZ g 0)=some (kT H)/\(callE P cr #[kT (kE E)] (λe I=>∃U,e= hQ (hV U)/\SameC y I (hZ g 0) 1/\(box I #[kT H,hY V,hV (!U)] g9 λc8 b8=>box b8 #[kT none] bu λb5 b4=>SameC b8 b4 (hZ g 0) 1/\stV b4 (hZ b5 0) (kT (kE c8)) λc9=>k14 R W E g b5 c9)/\(box I #[kT none] bu λb7 b6=>SameC I b6 (hZ g 0) 1/\box b6 #[kT H,hY V,hV (!U)] g9 λc4 c5=>stV c5 (hZ b7 0) (kT (kE c4)) λc3=>k14 R W E g b7 c3)) y)/\(box y #[kT none] bu λb3 O=>SameC y O (hZ g 0) 1/\callE P cr #[kT (kE E)] (λe a7=>∃a6,e= hQ (hV a6)/\SameC O a7 (hZ g 0) 1/\box a7 #[kT H,hY V,hV (!a6)] g9 λc2 c1=>stV c1 (hZ b3 0) (kT (kE c2)) λb9=>k14 R W E g b3 b9) O)
def k12 (R:EP)(I b3:Nat)(a7 a6 b4:Int)(y:Nat)(O:Bool)(w:World):Prop:=br O (False) (box w #[.int .i32 (IntKind.i32.wrap a6),hY b4,hV false,kT none,.nilFunc] fK λV U=>stV U (hZ y 0) (kT (kE V)) λg=>∃E,g.cell? (hZ I 0)=some (kT E)/\∃H,g.cell? (hZ y 0)=some (kT H)/\callE P bQ #[kT E,.iface az (kT H)] (λe W=>e= hQ (.tuple #[])/\k13 R I b3 a7 y W) g)
def k11 (R:EP)(H E:Nat)(O y U:Int)(g:Nat)(b6:Bool)(w:World):Prop:=br b6 (∃V,w.cell? (hZ g 0)=some (kT V)/\∃b4 I,(do eqGuard .eql az (.tmp 137) (.const (kT none)) (kT V) (kT none);binOp .eql az (kT V) (kT none)).run P w= .ok (hV b4) I/\br b4 (∃b3,I.cell? (hZ H 0)=some (kT b3)/\callE P eh #[kT b3] (λe b7=>∃a6,e= hQ (kT a6)/\∃b5 W,(do eqGuard .neq ar (.tmp 141) (.const (kT none)) (kT a6) (kT none);binOp .neq ar (kT a6) (kT none)).run P b7= .ok (hV b5) W/\br b5 (callE P cr #[kT (kE E)] (λe b8=>∃a7,e= hQ (hV a7)/\k12 R H E O y U g (a7||(((y==46)||(y==41)) && (U !=1))) b8) W) (k12 R H E O y U g false W)) I) (k12 R H E O y U g false I)) (k13 R H E O g w)
def k10 (R:EP)(a7 W:Nat)(V H a6:Int)(y:Nat)(w:World):Prop:=∃E,w.cell? (hZ y 0)=some (kT E)/\∃U g,(do eqGuard .eql az (.tmp 126) (.const (kT none)) (kT E) (kT none);binOp .eql az (kT E) (kT none)).run P w= .ok (hV U) g/\br U (k11 R a7 W V H a6 y true g) (∃I,g.cell? (hZ y 0)=some (kT I)/\aA I λb3=>∃O,g.cell? b3=some (.int .i32 O)/\k11 R a7 W V H a6 y (O !=(IntKind.i32.wrap H)) g)
def k8 (R:EP)(E a7:Nat)(W a6 b3:Int)(w:World):Prop:=box w #[kT none] az λy O=>∃V,O.cell? (hZ E 0)=some (kT V)/\callE P ga #[kT V] (λe b5=>∃(U:Value),e= hQ U/\∃I H g,(Instr.typeAssert U bO az true).run P b5= .ok (.tuple #[kT I,hV H]) g/\br H (stV g (hZ y 0) (kT I) λb4=>k10 R E a7 W a6 b3 y b4) (k10 R E a7 W a6 b3 y g)) O
def k6 (R:EP)(b4 y:Nat)(a6 b3 a7:Int)(E:Nat)(c1:Int)(w:World):Prop:=callE P bl #[kT (kE E),hY 1,hY 1,hV true] (λe g=>∃H,e= hQ (hV H)/\br (!H) (∃I,g.cell? (hZ E 0)=some (hY I)/\∃U,g.cell? (hZ E 1)=some (hY U)/\∃O,g.cell? (hZ E 2)=some (hY O)/\∃V,g.cell? (hZ E 3)=some (hX V)/\∃W,g.cell? (hZ E 4)=some (.int .u8 W)/\stV g (hZ y 0) (hY I) λb7=>stV b7 (hZ y 1) (hY U) λb5=>stV b5 (hZ y 2) (hY O) λb9=>stV b9 (hZ y 3) (hX V) λb6=>stV b6 (hZ y 4) (.int .u8 W) λb8=>k8 R b4 y (i64.wrap (a6+c1)) b3 a7 b8) (k8 R b4 y a6 b3 a7 g)) w
def bl2 (R:EP)(Xa:Nat->Nat->Int->Int->Int->Nat->Int->Int->WP)(U I:Nat)(H E O:Int)(g:Nat)(y V:Int)(w:World):Prop:=br (decide (V<3)) (callE P bl #[kT (kE g),hY 1,hY 1,hV false] (λe W=>∃a6,e= hQ (hV a6)/\br a6 (k5 R Xa U I H E O g y V W) (k6 R U I H E O g y W)) w) (k6 R U I H E O g y w)
def l2 (R:EP)(V O:Nat)(I H U:Int)(E:Nat)(y g:Int)(w:World):Prop:=∀X:Nat->Nat->Int->Int->Int->Nat->Int->Int->WP,(∀V O I H U E y g w,bl2 R X V O I H U E y g w->X V O I H U E y g w)->X V O I H U E y g w
def k3 (R:EP)(c1 g:Nat)(b7 b9 b8:Int)(w:World):Prop:=callE P bl #[kT (kE g),hY 1,hY 1,hV true] (λe E=>∃V,e= hQ (hV V)/\br (!V) (False) (∃W,E.cell? (hZ g 0)=some (hY W)/\∃U,E.cell? (hZ g 1)=some (hY U)/\∃O,E.cell? (hZ g 2)=some (hY O)/\∃H,E.cell? (hZ g 3)=some (hX H)/\∃I,E.cell? (hZ g 4)=some (.int .u8 I)/\box E #[hY 0,hY 0,hY 0,hX (hP #[]),.int .u8 0] aW λy b6=>stV b6 (hZ y 0) (hY W) λb5=>stV b5 (hZ y 1) (hY U) λa7=>stV a7 (hZ y 2) (hY O) λb3=>stV b3 (hZ y 3) (hX H) λb4=>stV b4 (hZ y 4) (.int .u8 I) λa6=>l2 R c1 g (i64.wrap (b7+1)) b9 b8 y 0 0 a6)) w
def k7 (R:EP)(a6:Nat->Nat->Int->Int->Int->WP)(U y:Nat)(I O:Int)(E g:Int)(W:Bool)(w:World):Prop:=br W (∃H,w.cell? (hZ y 1)=some (hY H)/\stV w (hZ y 1) (hY (i64.wrap (E+1))) λV=>k3 R U y (i64.wrap (I+(i64.wrap ((i64.wrap (E+1)) - H)))) g O V) (br ((decide (g<48))||(decide (57<g))) (False) (k9 R a6 U y I O E g w))
def bl3 (R:EP)(U:Nat->Nat->Int->Int->Int->WP)(V E:Nat)(I O g:Int)(w:World):Prop:=∃H,w.cell? (hZ E 3)=some (hX H)/\br (decide (g >= (H.size:Int))) (False) (∃y,w.cell? (hZ E 3)=some (hX y)/\0<=g/\g<(y.size:Int)/\k7 R U V E I O g (bt y g) (((bt y g)==46)||((bt y g)==41)) w)
def l3 (R:EP)(I E:Nat)(y H g:Int)(w:World):Prop:=∀X:Nat->Nat->Int->Int->Int->WP,(∀I E y H g w,bl3 R X I E y H g w->X I E y H g w)->X I E y H g w
def k4 (R:EP)(O y:Nat)(H I:Int)(E:Bool)(w:World):Prop:=br E (∃g,w.cell? (hZ y 1)=some (hY g)/\l3 R O y H I g w) (R (hQ (hV false)) w)
def k2 (R:EP)(H g:Nat)(y O:Int)(E I:Int)(W:Bool)(w:World):Prop:=br W (callE P fz #[kT (kE g),.int .u8 O] (λe V=>∃U,e= hQ (hV U)/\k3 R H g (i64.wrap (y+1)) O E V) w) (br (I==48) (k4 R H g y E true w) (br (I==49) (k4 R H g y E true w) (br (I==50) (k4 R H g y E true w) (br (I==51) (k4 R H g y E true w) (br (I==52) (k4 R H g y E true w) (br (I==53) (k4 R H g y E true w) (br (I==54) (k4 R H g y E true w) (br (I==55) (k4 R H g y E true w) (br (I==56) (k4 R H g y E true w) (k4 R H g y E (I==57) w))))))))))
def k1 (R:EP)(I y:Nat)(H:Int)(w:World):Prop:=callE P iA #[kT (kE y)] (λe E=>∃g,e= hQ (.int .u8 g)/\br (g==45) (k2 R I y H g 0 g true E) (br (g==42) (k2 R I y H g 0 g true E) (k2 R I y H g 0 g (g==43) E))) w
def bl1 (R:EP)(U:Nat->Nat->Int->Int->WP)(E g:Nat)(y O:Int)(w:World):Prop:=br (decide (O<3)) (callE P bl #[kT (kE g),hY 1,hY 1,hV false] (λe I=>∃H,e= hQ (hV H)/\br (!H) (k1 R E g y I) (U E g (i64.wrap (y+1)) (i64.wrap (O+1)) I)) w) (k1 R E g y w)
def l1 (R:EP)(H y:Nat)(E g:Int)(w:World):Prop:=∀X:Nat->Nat->Int->Int->WP,(∀H y E g w,bl1 R X H y E g w->X H y E g w)->X H y E g w
end am
def am (R:EP)(b6 b5:OA)(w:World):Prop:=box w #[kT b6] ah λb1 y=>aA b5 λa3=>∃I,y.cell? (a3.add 0)=some (hY I)/\∃E,y.cell? (a3.add 1)=some (hY E)/\∃H,y.cell? (a3.add 2)=some (hY H)/\∃O,y.cell? (a3.add 3)=some (hX O)/\∃U,y.cell? (a3.add 4)=some (.int .u8 U)/\box y #[hY 0,hY 0,hY 0,hX (hP #[]),.int .u8 0] aW λg a7=>stV a7 (hZ g 0) (hY I) λV=>stV V (hZ g 1) (hY E) λa6=>stV a6 (hZ g 2) (hY H) λb4=>stV b4 (hZ g 3) (hX O) λW=>stV W (hZ g 4) (.int .u8 U) λb3=>am.l1 R b1 g 0 0 b3
theorem am.sound {R x0 x1 w}(h:am R x0 x1 w):callE P bN #[kT x0,kT x1] R w:=
 aH [(173,.lp [46,106,127,147] (am.bl1 R) λy=> []),(61,.mk [46,106,127] (am.k1 R)),(6909,.mk [46,106,127,168,187,628,640] (am.k2 R)),(31485,.mk [46,106,127,187,800] (am.k4 R)),(178941,.lp [46,106,127,187,207] (am.bl3 R) λg=> [(40,.no),(108,.mk [46,106,127,187,207,228,1380] (am.k7 R g)),(348,.no),(124,.mk [46,106,127,187,207,228] (am.k9 R g)),(700,.no)]),(1021,.mk [46,106,127,168,187] (am.k3 R)),(5629,.no),(90109,.lp [46,106,127,168,187,246,267,287] (am.bl2 R) λXa=> [(3,.mk [46,106,127,168,187,246,267,287] (am.k5 R Xa))]),(32765,.mk [46,106,127,168,187,246,267] (am.k6 R)),(65533,.mk [46,106,127,168,187] (am.k8 R)),(262141,.mk [46,106,127,168,187,306] (am.k10 R)),(917501,.mk [46,106,127,168,187,306,2720] (am.k11 R)),(6684669,.mk [46,106,127,168,187,306,3160] (am.k12 R)),(10878973,.no),(524285,.mk [46,106,127,306] (am.k13 R)),(786429,.dr (.pure 1 (.load 0 (.two 2 (.pure 3 (.pure 4 (.two 5 (.one 6 (.one 7 .done)) 6 (.one 5 (.one 7 .done))))) 6 (.one 2 (.pure 3 (.pure 4 (.one 5 (.one 7 .done))))))))),(1048573,.mk [46,106,306,366] (am.k14 R))] Tryz.func199 Tryz.call199 h
def sC (R:EP)(e8:OA)(c9 c5 d0:Int)(c8:BA)(d1:Int)(w:World):Prop:=box w #[hY c9,hY c5,hY d0,hX c8,.int .u8 d1] aW λb1 e9=>box e9 #[hY 0,hY 0,hY 0,hX (hP #[]),.int .u8 0] aW λg I=>∃b9,I.cell? (hZ b1 0)=some (hY b9)/\∃c2,I.cell? (hZ b1 1)=some (hY c2)/\∃c3,I.cell? (hZ b1 2)=some (hY c3)/\∃c1,I.cell? (hZ b1 3)=some (hX c1)/\∃c4,I.cell? (hZ b1 4)=some (.int .u8 c4)/\box I #[hY 0,hY 0,hY 0,hX (hP #[]),.int .u8 0] aW λy e2=>stV e2 (hZ y 0) (hY b9) λe0=>stV e0 (hZ y 1) (hY c2) λe7=>stV e7 (hZ y 2) (hY c3) λe3=>stV e3 (hZ y 3) (hX c1) λe6=>stV e6 (hZ y 4) (.int .u8 c4) λe1=>callE P fU #[kT e8,kT (kE y)] (λe H=>∃a6,e= hQ (hV a6)/\br a6 (False) (∃b6,H.cell? (hZ b1 0)=some (hY b6)/\∃b7,H.cell? (hZ b1 1)=some (hY b7)/\∃O,H.cell? (hZ b1 2)=some (hY O)/\∃W,H.cell? (hZ b1 3)=some (hX W)/\∃a7,H.cell? (hZ b1 4)=some (.int .u8 a7)/\stV H (hZ g 0) (hY b6) λe5=>stV e5 (hZ g 1) (hY b7) λd3=>stV d3 (hZ g 2) (hY O) λe4=>stV e4 (hZ g 3) (hX W) λd2=>stV d2 (hZ g 4) (.int .u8 a7) λE=>∃b4,E.cell? (hZ g 0)=some (hY b4)/\∃U,E.cell? (hZ g 1)=some (hY U)/\∃b5,E.cell? (hZ g 2)=some (hY b5)/\∃V,E.cell? (hZ g 3)=some (hX V)/\∃b8,E.cell? (hZ g 4)=some (.int .u8 b8)/\R (hQ (.tuple #[.agg #[hY b4,hY U,hY b5,hX V,.int .u8 b8],hV false])) E)) e1
theorem sC.sound {R x0 x1_0 x1_1 x1_2 x1_3 x1_4 w}(h:sC R x0 x1_0 x1_1 x1_2 x1_3 x1_4 w):callE P lE #[kT x0,.agg #[hY x1_0,hY x1_1,hY x1_2,hX x1_3,.int .u8 x1_4]] R w:=
 aH [(43,.no)] Tryz.func146 Tryz.call146 h
def jk (R:EP)(V:OA)(w:World):Prop:=tk w λg=>aA V λa2=>aA V λa3=>∃I O W,g.cell? (a2.add 4)=some (hT I O W)/\∃a7 y b3,g.cell? (a3.add 4)=some (hT a7 y b3)/\0<=(i64.wrap ((y:Int) - 1))/\(i64.wrap ((y:Int) - 1))<(O:Int)/\aA I λb4=>∃(U:Value),g.cell? (b4.add (Int.toNat (i64.wrap ((y:Int) - 1))*4))=some U/\∃E H,(∀w,(Instr.typeAssert U bO ar true).run P w= .ok (.tuple #[kT E,hV H]) w)/\br H (R (hQ (kT E)) g) (R (hQ (kT none)) g)
theorem jk.sound {R x0 w}(h:jk R x0 w):callE P eh #[kT x0] R w:=
 aH [(9,.dr (rpN [0,3,6,12,15,18,10,22,24,27,30,33,37,39,42,45,48,51,54]))] Tryz.func149 Tryz.call149 h
def fX (R:EP)(c1 b9:OA)(w:World):Prop:=aA b9 λa1=>∃H,w.cell? (a1.add 0)=some (hY H)/\∃E,w.cell? (a1.add 1)=some (hY E)/\∃U,w.cell? (a1.add 2)=some (hY U)/\∃I,w.cell? (a1.add 3)=some (hX I)/\∃O,w.cell? (a1.add 4)=some (.int .u8 O)/\box w #[hY 0,hY 0,hY 0,hX (hP #[]),.int .u8 0] aW λg b6=>stV b6 (hZ g 0) (hY H) λb8=>stV b8 (hZ g 1) (hY E) λb3=>stV b3 (hZ g 2) (hY U) λV=>stV V (hZ g 3) (hX I) λa6=>stV a6 (hZ g 4) (.int .u8 O) λb5=>callE P bl #[kT (kE g),hY 0,hY 3,hV false] (λe b4=>∃a7,e= hQ (hV a7)/\callE P iA #[kT (kE g)] (λe W=>∃y,e= hQ (.int .u8 y)/\br (y !=60) (R (hQ (hV false)) W) (False)) b4) b5
theorem fX.sound {R x0 x1 w}(h:fX R x0 x1 w):callE P fU #[kT x0,kT x1] R w:=
 aH [(237,.no),(2685,.no),(3709,.no),(509,.no)] Tryz.func200 Tryz.call200 h
namespace ct
def k1 (R:EP)(b9 c1:OA)(y:Nat)(b8:Int)(w:World):Prop:=callE P bl #[kT (kE y),hY 1,hY 1,hV true] (λe U=>∃H,e= hQ (hV H)/\br (!H) (R (hQ (hV false)) U) (aA c1 λb6=>stV U (b6.add 0) (hY b8) λg=>∃a6,g.cell? (hZ y 0)=some (hY a6)/\∃W,g.cell? (hZ y 1)=some (hY W)/\∃V,g.cell? (hZ y 2)=some (hY V)/\∃I,g.cell? (hZ y 3)=some (hX I)/\∃O,g.cell? (hZ y 4)=some (.int .u8 O)/\aA b9 λE=>stV g (E.add 0) (hY a6) λb7=>stV b7 (E.add 1) (hY W) λb5=>stV b5 (E.add 2) (hY V) λa7=>stV a7 (E.add 3) (hX I) λb3=>stV b3 (E.add 4) (.int .u8 O) λb4=>R (hQ (hV true)) b4)) w
def bl1 (R:EP)(Xa:OA->OA->Nat->Int->WP)(H E:OA)(y:Nat)(g:Int)(w:World):Prop:=br (decide (g<6)) (callE P fz #[kT (kE y),.int .u8 35] (λe I=>∃O,e= hQ (hV O)/\br O (Xa H E y (i64.wrap (g+1)) I) (k1 R H E y g I)) w) (k1 R H E y g w)
def l1 (R:EP)(E H:OA)(g:Nat)(y:Int)(w:World):Prop:=∀X:OA->OA->Nat->Int->WP,(∀E H g y w,bl1 R X E H g y w->X E H g y w)->X E H g y w
end ct
def ct (R:EP)(W c1:OA)(w:World):Prop:=aA W λa1=>∃I,w.cell? (a1.add 0)=some (hY I)/\∃H,w.cell? (a1.add 1)=some (hY H)/\∃V,w.cell? (a1.add 2)=some (hY V)/\∃O,w.cell? (a1.add 3)=some (hX O)/\∃U,w.cell? (a1.add 4)=some (.int .u8 U)/\box w #[hY 0,hY 0,hY 0,hX (hP #[]),.int .u8 0] aW λg b8=>stV b8 (hZ g 0) (hY I) λb9=>stV b9 (hZ g 1) (hY H) λb4=>stV b4 (hZ g 2) (hY V) λa6=>stV a6 (hZ g 3) (hX O) λa7=>stV a7 (hZ g 4) (.int .u8 U) λb6=>callE P bl #[kT (kE g),hY 0,hY 3,hV false] (λe b5=>∃b3,e= hQ (hV b3)/\callE P fz #[kT (kE g),.int .u8 35] (λe E=>∃y,e= hQ (hV y)/\br (!y) (R (hQ (hV false)) E) (ct.l1 R W c1 g 1 E)) b5) b6
theorem ct.sound {R x0 x1 w}(h:ct R x0 x1 w):callE P iV #[kT x0,kT x1] R w:=
 aH [(159,.lp [2,22,106,127] (ct.bl1 R) λXa=> []),(127,.mk [2,22,106,127] (ct.k1 R))] Tryz.func185 Tryz.call185 h
namespace cG
def k2 (R:EP)(O:OA)(g c8:Nat)(e5 e2:BA)(w:World):Prop:=tk w λI=>aA O λb3=>aA O λb6=>∃c2,I.cell? (b3.add 3)=some (hY c2)/\∃c4,I.cell? (b6.add 3)=some (hY c4)/\box I #[hY 0,hY 0] aF λE U=>SameC I U (b6.add 3) 1/\SameC I U (b3.add 3) 1/\stV U (hZ E 0) (hY c2) λd2=>stV d2 (hZ E 1) (hY c4) λd3=>tk d3 λy=>∃b9,y.cell? (hZ E 0)=some (hY b9)/\∃c1,y.cell? (hZ E 1)=some (hY c1)/\∃b8,y.cell? (hZ c8 0)=some (hY b8)/\∃b4,y.cell? (hZ E 0)=some (hY b4)/\∃b7,y.cell? (hZ E 1)=some (hY b7)/\callE P eX #[kT O,.agg #[hY b4,hY b7],hX e5] (λe V=>∃W,e= hQ (kT W)/\SameC y V (hZ c8 0) 1/\SameC y V (hZ E 0) 2/\box V #[hY b9,hY c1,hY b8,kT W,hX e2] pQ λd0 e0=>callE P dL #[kT O,.iface gd (kT (kE d0))] (λe e4=>e= hQ (.tuple #[])/\stV e4 (hZ g 0) (hY 0) λe3=>stV e3 (hZ g 1) (hY 0) λd1=>stV d1 (hZ g 2) (hY 0) λc9=>stV c9 (hZ g 3) (hX (hP #[])) λe1=>stV e1 (hZ g 4) (.int .u8 0) λH=>∃c3,H.cell? (hZ g 0)=some (hY c3)/\∃b5,H.cell? (hZ g 1)=some (hY b5)/\∃c5,H.cell? (hZ g 2)=some (hY c5)/\∃a7,H.cell? (hZ g 3)=some (hX a7)/\∃a6,H.cell? (hZ g 4)=some (.int .u8 a6)/\R (hQ (.tuple #[.agg #[hY c3,hY b5,hY c5,hX a7,.int .u8 a6],hV true])) H) e0) y
def k1 (R:EP)(E:OA)(U V:Nat)(O:BA)(w:World):Prop:=aA E λI=>∃g,w.cell? I=some (kT g)/\aA g λH=>∃y,w.cell? H=some (hV y)/\br y (False) (k2 R E U V O (hP #[]) w)
end cG
def cG (R:EP)(g1:OA)(e0 d2 e1:Int)(d3:BA)(e2:Int)(w:World):Prop:=box w #[hY e0,hY d2,hY e1,hX d3,.int .u8 e2] aW λb1 g2=>box g2 #[hY 0,hY 0,hY 0,hX (hP #[]),.int .u8 0] aW λg I=>∃c5,I.cell? (hZ b1 0)=some (hY c5)/\∃c9,I.cell? (hZ b1 1)=some (hY c9)/\∃d0,I.cell? (hZ b1 2)=some (hY d0)/\∃c8,I.cell? (hZ b1 3)=some (hX c8)/\∃d1,I.cell? (hZ b1 4)=some (.int .u8 d1)/\box I #[hY 0,hY 0,hY 0,hX (hP #[]),.int .u8 0] aW λy e9=>stV e9 (hZ y 0) (hY c5) λe5=>stV e5 (hZ y 1) (hY c9) λg0=>stV g0 (hZ y 2) (hY d0) λf0=>stV f0 (hZ y 3) (hX c8) λf6=>stV f6 (hZ y 4) (.int .u8 d1) λe8=>box e8 #[hY 0] bg λc1 e7=>callE P iV #[kT (kE y),kT (kE c1)] (λe E=>∃b7,e= hQ (hV b7)/\br b7 (callE P gH #[kT (kE y)] (λe f5=>∃b9,e= hQ (hX b9)/\callE P ft #[hX b9] (λe f2=>∃U,e= hQ (hX U)/\callE P lY #[hX U,hX (hP #[35])] (λe f1=>∃O,e= hQ (hX O)/\callE P ft #[hX O] (λe e4=>∃b5,e= hQ (hX b5)/\br ((!(O.toList==b5.toList))||(O.toList==(hP #[]).toList)) (False) (cG.k1 R g1 g c1 U e4)) f1) f2) f5) E) (∃c2,E.cell? (hZ b1 0)=some (hY c2)/\∃W,E.cell? (hZ b1 1)=some (hY W)/\∃c3,E.cell? (hZ b1 2)=some (hY c3)/\∃a7,E.cell? (hZ b1 3)=some (hX a7)/\∃c4,E.cell? (hZ b1 4)=some (.int .u8 c4)/\stV E (hZ g 0) (hY c2) λf3=>stV f3 (hZ g 1) (hY W) λe3=>stV e3 (hZ g 2) (hY c3) λf4=>stV f4 (hZ g 3) (hX a7) λe6=>stV e6 (hZ g 4) (.int .u8 c4) λH=>∃V,H.cell? (hZ g 0)=some (hY V)/\∃b8,H.cell? (hZ g 1)=some (hY b8)/\∃b6,H.cell? (hZ g 2)=some (hY b6)/\∃a6,H.cell? (hZ g 3)=some (hX a6)/\∃b4,H.cell? (hZ g 4)=some (.int .u8 b4)/\R (hQ (.tuple #[.agg #[hY V,hY b8,hY b6,hX a6,.int .u8 b4],hV false])) H)) e7
theorem cG.sound {R x0 x1_0 x1_1 x1_2 x1_3 x1_4 w}(h:cG R x0 x1_0 x1_1 x1_2 x1_3 x1_4 w):callE P fh #[kT x0,.agg #[hY x1_0,hY x1_1,hY x1_2,hX x1_3,.int .u8 x1_4]] R w:=
 aH [(5847,.no),(983,.mk [2,86,146,161] (cG.k1 R)),(11223,.no),(4055,.mk [2,86,146,161,201] (cG.k2 R)),(6103,.dr (rpN [0,3,6,12,15,18,10,22,24,29,32])),(12247,.dr (rpN [0,9,15,21,4,7,13,20,24,29,30,35]))] Tryz.func142 Tryz.call142 h
def uX (R:EP)(V:OA)(e6 e4 e7:Int)(e5:BA)(e8:Int)(w:World):Prop:=box w #[hY e6,hY e4,hY e7,hX e5,.int .u8 e8] aW λb1 g3=>box g3 #[hY 0,hY 0,hY 0,hX (hP #[]),.int .u8 0] aW λg I=>∃d3,I.cell? (hZ b1 0)=some (hY d3)/\∃e1,I.cell? (hZ b1 1)=some (hY e1)/\∃e2,I.cell? (hZ b1 2)=some (hY e2)/\∃e0,I.cell? (hZ b1 3)=some (hX e0)/\∃e3,I.cell? (hZ b1 4)=some (.int .u8 e3)/\callE P B0 #[.agg #[hY d3,hY e1,hY e2,hX e0,.int .u8 e3]] (λe y=>∃c1,e= hQ (hV c1)/\br c1 (tk y λO=>aA V λa13=>aA V λa14=>∃b9,O.cell? (a13.add 3)=some (hY b9)/\∃c2,O.cell? (a14.add 3)=some (hY c2)/\callE P gH #[kT (kE b1)] (λe U=>∃b4,e= hQ (hX b4)/\SameC O U (a14.add 3) 1/\SameC O U (a13.add 3) 1/\box U #[hY b9,hY c2,hX b4] jH λe9 f5=>callE P dL #[kT V,.iface cT (kT (kE e9))] (λe g2=>e= hQ (.tuple #[])/\stV g2 (hZ g 0) (hY 0) λg1=>stV g1 (hZ g 1) (hY 0) λf6=>stV f6 (hZ g 2) (hY 0) λf2=>stV f2 (hZ g 3) (hX (hP #[])) λf4=>stV f4 (hZ g 4) (.int .u8 0) λE=>∃c4,E.cell? (hZ g 0)=some (hY c4)/\∃c3,E.cell? (hZ g 1)=some (hY c3)/\∃W,E.cell? (hZ g 2)=some (hY W)/\∃c8,E.cell? (hZ g 3)=some (hX c8)/\∃a7,E.cell? (hZ g 4)=some (.int .u8 a7)/\R (hQ (.tuple #[.agg #[hY c4,hY c3,hY W,hX c8,.int .u8 a7],hV true])) E) f5) O) (∃d0,y.cell? (hZ b1 0)=some (hY d0)/\∃b7,y.cell? (hZ b1 1)=some (hY b7)/\∃b5,y.cell? (hZ b1 2)=some (hY b5)/\∃d2,y.cell? (hZ b1 3)=some (hX d2)/\∃a6,y.cell? (hZ b1 4)=some (.int .u8 a6)/\stV y (hZ g 0) (hY d0) λf1=>stV f1 (hZ g 1) (hY b7) λf3=>stV f3 (hZ g 2) (hY b5) λg0=>stV g0 (hZ g 3) (hX d2) λf0=>stV f0 (hZ g 4) (.int .u8 a6) λH=>∃b6,H.cell? (hZ g 0)=some (hY b6)/\∃c5,H.cell? (hZ g 1)=some (hY c5)/\∃b8,H.cell? (hZ g 2)=some (hY b8)/\∃c9,H.cell? (hZ g 3)=some (hX c9)/\∃d1,H.cell? (hZ g 4)=some (.int .u8 d1)/\R (hQ (.tuple #[.agg #[hY b6,hY c5,hY b8,hX c9,.int .u8 d1],hV false])) H)) I
theorem uX.sound {R x0 x1_0 x1_1 x1_2 x1_3 x1_4 w}(h:uX R x0 x1_0 x1_1 x1_2 x1_3 x1_4 w):callE P qd #[kT x0,.agg #[hY x1_0,hY x1_1,hY x1_2,hX x1_3,.int .u8 x1_4]] R w:=
 aH [(37,.dr (rpN [0,3,6,9,15,18,21,13,25,27,32,33,38,39,44]))] Tryz.func144 Tryz.call144 h
def nL (R:EP)(h6:OA)(f2 f0 f3:Int)(f1:BA)(f4:Int)(w:World):Prop:=box w #[hY f2,hY f0,hY f3,hX f1,.int .u8 f4] aW λb1 h7=>box h7 #[hY 0,hY 0,hY 0,hX (hP #[]),.int .u8 0] aW λg U=>∃e5,U.cell? (hZ b1 0)=some (hY e5)/\∃e7,U.cell? (hZ b1 1)=some (hY e7)/\∃e8,U.cell? (hZ b1 2)=some (hY e8)/\∃e6,U.cell? (hZ b1 3)=some (hX e6)/\∃e9,U.cell? (hZ b1 4)=some (.int .u8 e9)/\callE P lZ #[.agg #[hY e5,hY e7,hY e8,hX e6,.int .u8 e9]] (λe g6=>∃W a7,∃b4 a6,∃V b5,e= hQ (.tuple #[.agg #[hY W,hY a7,hY b4,hX a6,.int .u8 V],hV b5])/\box g6 #[hY 0,hY 0,hY 0,hX (hP #[]),.int .u8 0] aW λy h5=>stV h5 (hZ y 0) (hY W) λg7=>stV g7 (hZ y 1) (hY a7) λh3=>stV h3 (hZ y 2) (hY b4) λg5=>stV g5 (hZ y 3) (hX a6) λf5=>stV f5 (hZ y 4) (.int .u8 V) λE=>br b5 (box E #[] mz λf6 h0=>callE P bQ #[kT h6,.iface gz (kT (kE f6))] (λe O=>e= hQ (.tuple #[])/\∃b9,O.cell? (hZ y 0)=some (hY b9)/\∃e4,O.cell? (hZ y 1)=some (hY e4)/\∃e0,O.cell? (hZ y 2)=some (hY e0)/\∃d0,O.cell? (hZ y 3)=some (hX d0)/\∃c8,O.cell? (hZ y 4)=some (.int .u8 c8)/\stV O (hZ g 0) (hY b9) λg1=>stV g1 (hZ g 1) (hY e4) λg3=>stV g3 (hZ g 2) (hY e0) λh4=>stV h4 (hZ g 3) (hX d0) λh2=>stV h2 (hZ g 4) (.int .u8 c8) λH=>∃e1,H.cell? (hZ g 0)=some (hY e1)/\∃c5,H.cell? (hZ g 1)=some (hY c5)/\∃c1,H.cell? (hZ g 2)=some (hY c1)/\∃e3,H.cell? (hZ g 3)=some (hX e3)/\∃b7,H.cell? (hZ g 4)=some (.int .u8 b7)/\R (hQ (.tuple #[.agg #[hY e1,hY c5,hY c1,hX e3,.int .u8 b7],hV true])) H) h0) (∃c2,E.cell? (hZ b1 0)=some (hY c2)/\∃b6,E.cell? (hZ b1 1)=some (hY b6)/\∃c9,E.cell? (hZ b1 2)=some (hY c9)/\∃c3,E.cell? (hZ b1 3)=some (hX c3)/\∃b8,E.cell? (hZ b1 4)=some (.int .u8 b8)/\stV E (hZ g 0) (hY c2) λg0=>stV g0 (hZ g 1) (hY b6) λh1=>stV h1 (hZ g 2) (hY c9) λg2=>stV g2 (hZ g 3) (hX c3) λg4=>stV g4 (hZ g 4) (.int .u8 b8) λI=>∃d1,I.cell? (hZ g 0)=some (hY d1)/\∃d3,I.cell? (hZ g 1)=some (hY d3)/\∃c4,I.cell? (hZ g 2)=some (hY c4)/\∃e2,I.cell? (hZ g 3)=some (hX e2)/\∃d2,I.cell? (hZ g 4)=some (.int .u8 d2)/\R (hQ (.tuple #[.agg #[hY d1,hY d3,hY c4,hX e2,.int .u8 d2],hV false])) I)) U
theorem nL.sound {R x0 x1_0 x1_1 x1_2 x1_3 x1_4 w}(h:nL R x0 x1_0 x1_1 x1_2 x1_3 x1_4 w):callE P jZ #[kT x0,.agg #[hY x1_0,hY x1_1,hY x1_2,hX x1_3,.int .u8 x1_4]] R w:=
 cC Tryz.func141 Tryz.call141 h
namespace ml
def bl1 (R:EP)(Xa:Nat->Int->Int->WP)(g:Nat)(O I:Int)(w:World):Prop:=callE P fz #[kT (kE g),.int .u8 O] (λe y=>∃E,e= hQ (hV E)/\br (!E) (br (decide (I >= 3)) (callE P nJ #[kT (kE g)] (λe U=>∃H,e= hQ (hV H)/\R (hQ (hV H)) U) y) (R (hQ (hV false)) y)) (callE P ij #[kT (kE g)] (λe V=>e= hQ (.tuple #[])/\Xa g O (i64.wrap (I+1)) V) y)) w
def l1 (R:EP)(E:Nat)(y g:Int)(w:World):Prop:=∀X:Nat->Int->Int->WP,(∀E y g w,bl1 R X E y g w->X E y g w)->X E y g w
def k1 (R:EP)(E:Nat)(y:Int)(g:Bool)(w:World):Prop:=br g (l1 R E y 0 w) (R (hQ (hV false)) w)
end ml
def ml (R:EP)(b5 a6 a7:Int)(b4:BA)(b3:Int)(w:World):Prop:=box w #[hY b5,hY a6,hY a7,hX b4,.int .u8 b3] aW λb1 E=>∃I,E.cell? (hZ b1 0)=some (hY I)/\∃U,E.cell? (hZ b1 1)=some (hY U)/\∃O,E.cell? (hZ b1 2)=some (hY O)/\∃V,E.cell? (hZ b1 3)=some (hX V)/\∃W,E.cell? (hZ b1 4)=some (.int .u8 W)/\box E #[hY 0,hY 0,hY 0,hX (hP #[]),.int .u8 0] aW λg c5=>stV c5 (hZ g 0) (hY I) λb6=>stV b6 (hZ g 1) (hY U) λc1=>stV c1 (hZ g 2) (hY O) λb7=>stV b7 (hZ g 3) (hX V) λc4=>stV c4 (hZ g 4) (.int .u8 W) λc2=>callE P bl #[kT (kE g),hY 0,hY 3,hV false] (λe b9=>∃c3,e= hQ (hV c3)/\callE P iA #[kT (kE g)] (λe H=>∃y,e= hQ (.int .u8 y)/\br (y==45) (ml.k1 R g y true H) (br (y==95) (ml.k1 R g y true H) (ml.k1 R g y (y==42) H))) b9) c2
theorem ml.sound {R x0_0 x0_1 x0_2 x0_3 x0_4 w}(h:ml R x0_0 x0_1 x0_2 x0_3 x0_4 w):callE P B0 #[.agg #[hY x0_0,hY x0_1,hY x0_2,hX x0_3,.int .u8 x0_4]] R w:=
 aH [(439,.mk [66,88,200] (ml.k1 R)),(5303,.lp [66,88,107] (ml.bl1 R) λXa=> [])] Tryz.func197 Tryz.call197 h
def oL (R:EP)(e9 e5 e6:Int)(e8:BA)(e7:Int)(w:World):Prop:=box w #[hY e9,hY e5,hY e6,hX e8,.int .u8 e7] aW λb1 h2=>box h2 #[hY 0,hY 0,hY 0,hX (hP #[]),.int .u8 0] aW λg U=>∃e0,U.cell? (hZ b1 0)=some (hY e0)/\∃e2,U.cell? (hZ b1 1)=some (hY e2)/\∃e3,U.cell? (hZ b1 2)=some (hY e3)/\∃e1,U.cell? (hZ b1 3)=some (hX e1)/\∃e4,U.cell? (hZ b1 4)=some (.int .u8 e4)/\box U #[hY 0,hY 0,hY 0,hX (hP #[]),.int .u8 0] aW λy g4=>stV g4 (hZ y 0) (hY e0) λg1=>stV g1 (hZ y 1) (hY e2) λh1=>stV h1 (hZ y 2) (hY e3) λg5=>stV g5 (hZ y 3) (hX e1) λh0=>stV h0 (hZ y 4) (.int .u8 e4) λg3=>callE P bl #[kT (kE y),hY 0,hY 3,hV false] (λe g2=>∃f4,e= hQ (hV f4)/\callE P fz #[kT (kE y),.int .u8 62] (λe E=>∃c2,e= hQ (hV c2)/\br (!c2) (∃V,E.cell? (hZ b1 0)=some (hY V)/\∃b4,E.cell? (hZ b1 1)=some (hY b4)/\∃b5,E.cell? (hZ b1 2)=some (hY b5)/\∃d3,E.cell? (hZ b1 3)=some (hX d3)/\∃d0,E.cell? (hZ b1 4)=some (.int .u8 d0)/\stV E (hZ g 0) (hY V) λg6=>stV g6 (hZ g 1) (hY b4) λf3=>stV f3 (hZ g 2) (hY b5) λf2=>stV f2 (hZ g 3) (hX d3) λf6=>stV f6 (hZ g 4) (.int .u8 d0) λO=>∃c4,O.cell? (hZ g 0)=some (hY c4)/\∃a7,O.cell? (hZ g 1)=some (hY a7)/\∃d1,O.cell? (hZ g 2)=some (hY d1)/\∃c1,O.cell? (hZ g 3)=some (hX c1)/\∃b6,O.cell? (hZ g 4)=some (.int .u8 b6)/\R (hQ (.tuple #[.agg #[hY c4,hY a7,hY d1,hX c1,.int .u8 b6],hV false])) O) (callE P bl #[kT (kE y),hY 0,hY 1,hV true] (λe H=>∃f0,e= hQ (hV f0)/\∃b7,H.cell? (hZ y 0)=some (hY b7)/\∃W,H.cell? (hZ y 1)=some (hY W)/\∃c3,H.cell? (hZ y 2)=some (hY c3)/\∃b8,H.cell? (hZ y 3)=some (hX b8)/\∃a6,H.cell? (hZ y 4)=some (.int .u8 a6)/\stV H (hZ g 0) (hY b7) λf1=>stV f1 (hZ g 1) (hY W) λg7=>stV g7 (hZ g 2) (hY c3) λf5=>stV f5 (hZ g 3) (hX b8) λg0=>stV g0 (hZ g 4) (.int .u8 a6) λI=>∃c5,I.cell? (hZ g 0)=some (hY c5)/\∃c9,I.cell? (hZ g 1)=some (hY c9)/\∃b9,I.cell? (hZ g 2)=some (hY b9)/\∃d2,I.cell? (hZ g 3)=some (hX d2)/\∃c8,I.cell? (hZ g 4)=some (.int .u8 c8)/\R (hQ (.tuple #[.agg #[hY c5,hY c9,hY b9,hX d2,.int .u8 c8],hV true])) I) E)) g2) g3
theorem oL.sound {R x0_0 x0_1 x0_2 x0_3 x0_4 w}(h:oL R x0_0 x0_1 x0_2 x0_3 x0_4 w):callE P lZ #[.agg #[hY x0_0,hY x0_1,hY x0_2,hX x0_3,.int .u8 x0_4]] R w:=
 cC Tryz.func184 Tryz.call184 h
def eH (R:EP)(g:OA)(c5:Value)(w:World):Prop:=aA g λa1=>∃c4,w.cell? (a1.add 5)=some (hY c4)/\callE P bj #[kT g,hY (i64.wrap (c4+1))] (λe c3=>e= hQ (.tuple #[])/\aA g λa5=>∃b3 b7 b8,c3.cell? (a5.add 4)=some (hT b3 b7 b8)/\∃b6 b5,∃U c8,(Instr.buildSlice fL 1 #[(0,.agg #[.nilIface,hT none 0 0,hY 0,hY 0])]).run P c3= .ok (hT b6 b5 U) c8/\∃W a6,∃b4 a7,(Builtin.append_ #[fL,fL] fL #[hT b3 b7 b8,hT b6 b5 U]).run P c8= .ok (hT W a6 b4) a7/\aA g λa11=>stV a7 ((a11.add 4).add 0) (hT W a6 b4) λe1=>tk e1 λH=>aA g λa14=>aA g λe2=>∃I O d0,H.cell? (a14.add 4)=some (hT I O d0)/\∃c9 y d1,H.cell? (e2.add 4)=some (hT c9 y d1)/\0<=(i64.wrap ((y:Int) - 1))/\(i64.wrap ((y:Int) - 1))<(O:Int)/\aA I λE=>Ct c5 (stV H ((E.add (Int.toNat (i64.wrap ((y:Int) - 1))*4)).add 0) c5 λb9=>aA g λd3=>∃V,b9.cell? (d3.add 3)=some (hY V)/\stV b9 (((E.add (Int.toNat (i64.wrap ((y:Int) - 1))*4)).add 2).add 0) (hY V) λc1=>aA g λd2=>∃c2,c1.cell? (d2.add 3)=some (hY c2)/\stV c1 ((((E.add (Int.toNat (i64.wrap ((y:Int) - 1))*4)).add 2).add 1).add 0) (hY c2) λe0=>R (hQ (.tuple #[])) e0)) w
theorem eH.sound {R x0 x1 w}(h:eH R x0 x1 w):callE P bQ #[kT x0,x1] R w:=
 aH [(11,.dr (rpN [0,3,6,12,15,18,10,22,24,27,30,33]))] Tryz.func78 Tryz.call78 h
def iJ (R:EP)(V:OA)(w:World):Prop:=tk w λy=>aA V λa2=>aA V λa3=>∃E I W,y.cell? (a2.add 4)=some (hT E I W)/\∃a7 g b3,y.cell? (a3.add 4)=some (hT a7 g b3)/\0<=(i64.wrap ((g:Int) - 1))/\(i64.wrap ((g:Int) - 1))<(I:Int)/\aA E λb4=>∃O U H,y.cell? ((b4.add (Int.toNat (i64.wrap ((g:Int) - 1))*4)).add 1)=some (hT O U H)/\R (hQ (hT O U H)) y
theorem iJ.sound {R x0 w}(h:iJ R x0 w):callE P iw #[kT x0] R w:=
 aH [(5,.dr (rpN [0,3,6,12,15,18,10,22,24,27,30,33]))] Tryz.func420 Tryz.call420 h
end Go.Proofs.YtendaipfdnhnaaaGreatDoor

namespace Go.Proofs.YtendaipfdnhnaaaGreatDoor
open Go.IntWalk
variable {P:Program} {σ:Out} {w:World} {L L':List ai} {R:Ending->World->Prop}

def Sl (sz:Nat)(e:TypeId)(q:Option Addr)(n c:Nat)(vs:List Value)(M:List ai):Prop:=
 vs.length=n*sz/\n<=c/\((q=none/\n=0/\c=0/\M= [])\/ ∃b sp,q=kE b/\M= [(b,cel (vs++sp) e)]/\(vs++sp).length=c*sz)
theorem Sl.nil (sz:Nat)(e:TypeId):Sl sz e none 0 0 [] []:=⟨by simp,lZ0 _,.inl ⟨rfl,rfl,rfl,rfl⟩⟩

structure Row (P:Program) (t e:TypeId) (sz bytes:Nat) where
 i:TypeInfo
 z:Value
 ht:P.underlying t=some (.slice e)
 hi:P.info? e=some i
 hz:i.zero=some z
 hs:i.size=sz
 hb:i.bytes=bytes
 hc:z.cells.size=sz
 pos:0<sz

theorem qD {b:Nat}{cs:List Value}{e:TypeId}(h:Sat σ w ((b,cel cs e)::L)): ∀(o:Nat) (vs:List Value),o+vs.length<=cs.length->
 Sat σ (w.setCells b o vs) ((b,cel (cs.take o++vs++cs.drop (o+vs.length)) e)::L):=by
 intro o vs
 induction vs generalizing o w cs with
 |nil=>intro _;simpa[World.setCells] using h
 |cons v vs I=>
  intro E;simp only[lF0] at E;have y:=h.set (k:=0) (i:=o) v rfl
  have g:=I (w:=w.setCell (hZ b o) v) (cs:=cs.set o v) y (o+1) (by simp;omega)
  simp only[World.setCells];have H:(cs.set o v).take (o+1)=cs.take o++ [v]:=by
   rw[List.take_set,lF1 (by omega),lO1 _ _ (by simp;omega)];simp;rw[show o - min o cs.length=0 by omega];rfl
  have O:(cs.set o v).drop (o+1+vs.length)=cs.drop (o+(vs.length+1)):=by
   rw[List.drop_set_of_lt (by omega)];congr 1;omega
  rw[H,O] at g
  simpa using g

theorem Addr.add_zero_lit (b j:Nat):Addr.add (hZ b 0) j=⟨b,j,none⟩:=by
 simp[Addr.add];omega
theorem u3 {sz:Nat}{e:TypeId}{q:Option Addr}{n c:Nat}{vs:List Value}{M:List ai}(H:Sl sz e q n c vs M)(h:Sat σ w (M++L)):
 (Builtin.firstCells sz n (hT q n c)).run P w= .ok vs.toArray w:=by
 obtain⟨E,O,g|⟨b,sp,g,I,U⟩⟩:=H
 ·obtain⟨rfl,rfl,rfl,rfl⟩:=g;have:vs= []:=lC1 (by simpa using E);subst this;exact run_firstCells_none w sz 0 0 0
 ·subst g;subst I;refine run_firstCells_some w sz n _ n c vs E λj u y=>?_
  rw[show (Addr.add (hZ b 0) j)=⟨b,j,none⟩ from Addr.add_zero_lit b j];refine h.ld (lW1 ..) ?_;rw[lM0 (lL0.1 y).1];exact y

theorem Sat.app {t tx ty e:TypeId}{sz bytes:Nat}(r:Row P t e sz bytes){q:Option Addr}{n c:Nat}{vs:List Value}{M:List ai}(H:Sl sz e q n c vs M)(h:Sat σ w (M++L)){x:Value}{m:Nat}{g:List Value}(hs:Src P sz tx x m g w)(c8:0<m\/q≠none)(hb:(n+m)*bytes<=140737488355328)(d1:n+m<4611686018427387904):
 ∃U O V W,(Builtin.append_ #[t,tx] ty #[hT q n c,x]).run P w= .ok (hT U (n+m) O) V/\Sl sz e U (n+m) O (vs++g) W/\Sat σ V (W++L)/\U≠none/\c<=O:=by
 have b5:=u3 (P:=P) H h.drew;obtain⟨y,d0,H⟩:=H;obtain⟨i,z,ht,hi,hz,b6,b8,b9,c9⟩:=r;subst b6;have E:=hs.newsLen
 by_cases I:n+m<=c
 ·rcases H with ⟨rfl,rfl,rfl,rfl⟩|⟨b,sp,rfl,rfl,c1⟩
  ·exact absurd c8 (by simp;omega)
  ·simp only[lA0] at c1;have b7:(n+m)*i.size<=c*i.size:=lN2 _ I;rw[lP3] at b7;have b3:n*i.size+g.length<=(vs++sp).length:=by rw[lA0,E];omega
   refine⟨_,_,_,[(b,cel (vs++g++sp.drop g.length) e)],run_append_room_src w t tx ty e i ht hi b 0 n c x m g hs I ?_ ?_,⟨?_,I,.inr ⟨b,sp.drop g.length,rfl,rfl,?_⟩⟩,?_,by simp,lZ0 _⟩
   ·intro j c4;rw[lN0,h.ld (lW1 ..) (lI0 (by omega))];rfl
   ·exact λj c4=>h.not_frozen (lW1 ..)
   ·rw[lA0,y,E,lP3]
   ·rw[lA0,lA0,lL1,y,E];omega
   ·have:=qD h (n*i.size) g b3;rw[lN0];have c2:(vs++sp).take (n*i.size)=vs:=by rw[<-y,lO4]
    have c3:(vs++sp).drop (n*i.size+g.length)=sp.drop g.length:=by rw[<-y,<-lJ5,lB4]
    rw[c2,c3] at this;exact this
 ·have a6:c<n+m:=by omega
  have a7:=growslice_fits (need:=n+m) (old:=c) (bytes:=i.bytes) a6 (by rw[b8];exact hb)
  have b4:=grownCap_ge w (n+m) c e;have hd:Sat σ w.drew L:=h.drew.right;refine⟨_,_,_,[(w.heap.size,cel (vs++g++(Builtin.zeroCells z.cells (grownCap w (n+m) c e - (n+m))).toList) e)],run_append_grow_src w t tx ty e i z ht hi hz q n c vs b5 x m g hs a6 (by omega) a7,
   ⟨?_,b4,.inr ⟨_,_,rfl,rfl,?_⟩⟩,?_,by simp,by omega⟩
  ·rw[lA0,y,E,lP3]
  ·rw[lA0,lA0,y,E,Array.length_toList,size_zeroCells,b9,<-lP3,<-lP3];congr 1;omega
  ·have:=hd.alc (vs++g++(Builtin.zeroCells z.cells (grownCap w (n+m) c e - (n+m))).toList) e;have c5:YtendaipfdnhnaaaGreatDoor.alc w.drew (vs++g++(Builtin.zeroCells z.cells (grownCap w (n+m) c e - (n+m))).toList).toArray e
    =w.drew.alloc (.cells ((vs++g).toArray++Builtin.zeroCells z.cells (grownCap w (n+m) c e - (n+m))) e):=by
    rw[show (vs++g++(Builtin.zeroCells z.cells (grownCap w (n+m) c e - (n+m))).toList).toArray=(vs++g).toArray++Builtin.zeroCells z.cells (grownCap w (n+m) c e - (n+m)) from by
     apply Array.ext';simp[lD0]]
    rfl
   rw[c5] at this;exact this

theorem Sat.app1 {t ty e:TypeId}{sz bytes:Nat}(r:Row P t e sz bytes){q:Option Addr}{n c:Nat}{vs:List Value}{M:List ai}(b8:Sl sz e q n c vs M)(h:Sat σ w (M++L)){v:Value}(hv:v.cells.size=sz)(c1: ∀u∈v.cells.toList,u.oneCell'=true)(b3:Instr.fill (λi=>some (i*sz,sz)) ((Array.range (1*sz)).map (r.z.cells[· %r.z.cells.size]!)) [(0,v)]=some v.cells)(hb:(n+1)*bytes<=140737488355328)(b9:n+1<4611686018427387904)(c8:sz<=100){K:Option Addr->Nat->Nat->World->Prop}(c3: ∀y g H O,Sl sz e y (n+1) g (vs++v.cells.toList) O->Sat σ H (O++L)->K y (n+1) g H):
 ∃U a7 V E,(Instr.buildSlice t 1 #[(0,v)]).run P w= .ok (hT U a7 V) E/\
  ∃y a6 g W,(Builtin.append_ #[t,t] ty #[hT q n c,hT U a7 V]).run P E= .ok (hT y a6 g) W/\K y a6 g W:=by
 have b4:=run_buildSlice (P:=P) w t e 1 #[(0,v)] v.cells r.i r.z r.ht r.hi r.hz (by rw[r.hs];omega) (by rw[r.hs];have:=r.pos;omega) (by rw[r.hs];exact b3)
 refine⟨_,_,_,_,b4,?_⟩;have I:=h.alc v.cells.toList e;have c4:YtendaipfdnhnaaaGreatDoor.alc w v.cells.toList.toArray e=w.alloc (.cells v.cells e):=by rw[lC4];rfl
 rw[c4] at I;generalize c5:w.alloc (.cells v.cells e)=E at I⊢;generalize w.heap.size=nb at I⊢;have hs:Src P sz t (hT (kE nb) 1 1) 1 v.cells.toList E:=by
  refine Src.ofSlice E r.ht _ 1 1 _ (by simp[hv]) (λj u c2=>?_) c1;rw[show (Addr.add (hZ nb 0) j)=⟨nb,j,none⟩ from Addr.add_zero_lit nb j];exact I.ld (lW1 ..) c2
 have b6:Sat σ E (M++((nb,cel v.cells.toList e)::L)):=I.perm lQ5.symm
 obtain⟨y,g,H,O,hr,b5,b7,_⟩:=Sat.app r (ty:=ty) b8 b6 hs (.inl (by omega)) hb b9;refine⟨y,n+1,g,H,hr,c3 y g H O b5 ?_⟩;exact b7.sub (List.Sublist.append_left (lR3 ..) _)
theorem Sat.app1S {t ty e:TypeId}{sz bytes:Nat}(r:Row P t e sz bytes){q:Option Addr}{n c:Nat}{vs:List Value}{M:List ai}(b9:Sl sz e q n c vs M)(h:Sat σ w (M++L)){v:Value}(hv:v.cells.size=sz)(c2: ∀u∈v.cells.toList,u.oneCell'=true)(b3:Instr.fill (λi=>some (i*sz,sz)) ((Array.range (1*sz)).map (r.z.cells[· %r.z.cells.size]!)) [(0,v)]=some v.cells)(hb:(n+1)*bytes<=140737488355328)(c1:n+1<4611686018427387904)(c9:sz<=100){K:Option Addr->Nat->Nat->World->Prop}{C:World->Prop}(b7: ∀g X,Sat σ g (X::(M++L))->C g)(c4: ∀E y I O,Sl sz e E (n+1) y (vs++v.cells.toList) O->Sat σ I (O++L)->K E (n+1) y I):
 ∃U V W g,(Instr.buildSlice t 1 #[(0,v)]).run P w= .ok (hT U V W) g/\C g/\
  ∃E a7 y a6,(Builtin.append_ #[t,t] ty #[hT q n c,hT U V W]).run P g= .ok (hT E a7 y) a6/\K E a7 y a6:=by
 have b4:=run_buildSlice (P:=P) w t e 1 #[(0,v)] v.cells r.i r.z r.ht r.hi r.hz (by rw[r.hs];omega) (by rw[r.hs];have:=r.pos;omega) (by rw[r.hs];exact b3)
 refine⟨_,_,_,_,b4,?_⟩;have H:=h.alc v.cells.toList e;have c5:YtendaipfdnhnaaaGreatDoor.alc w v.cells.toList.toArray e=w.alloc (.cells v.cells e):=by rw[lC4];rfl
 rw[c5] at H;generalize c8:w.alloc (.cells v.cells e)=g at H⊢;generalize w.heap.size=nb at H⊢;have hs:Src P sz t (hT (kE nb) 1 1) 1 v.cells.toList g:=by
  refine Src.ofSlice g r.ht _ 1 1 _ (by simp[hv]) (λj u c3=>?_) c2;rw[show (Addr.add (hZ nb 0) j)=⟨nb,j,none⟩ from Addr.add_zero_lit nb j];exact H.ld (lW1 ..) c3
 have b6:Sat σ g (M++((nb,cel v.cells.toList e)::L)):=H.perm lQ5.symm
 obtain⟨E,y,I,O,hr,b5,b8,_⟩:=Sat.app r (ty:=ty) b9 b6 hs (.inl (by omega)) hb c1;refine⟨b7 _ _ H,E,n+1,y,I,hr,c4 E y I O b5 ?_⟩;exact b8.sub (List.Sublist.append_left (lR3 ..) _)
end Go.Proofs.YtendaipfdnhnaaaGreatDoor


namespace Go.Proofs.YtendaipfdnhnaaaGreatDoor
open Go.Proofs Go.IntWalk Go.RowKit
set_option maxRecDepth 20000
variable {σ:Out} {w:World} {L L':List ai} {R:Ending->World->Prop}
namespace dG
def k1 (R:EP)(Xa:OA->WP)(g:OA)(w:World):Prop:=aA g λE=>∃y,w.cell? (E.add 1)=some (hY y)/\aA g λH=>stV w ((H.add 1).add 0) (hY (i64.wrap (y+1))) λI=>Xa g I
def bl1 (R:EP)(Xa:OA->WP)(y:OA)(w:World):Prop:=tk w λg=>aA y λa4=>aA y λa5=>∃U,g.cell? (a4.add 1)=some (hY U)/\∃V,g.cell? (a5.add 3)=some (hX V)/\br (decide (U<(V.size:Int))) (aA y λa8=>aA y λa9=>∃O,g.cell? (a8.add 3)=some (hX O)/\∃H,g.cell? (a9.add 1)=some (hY H)/\0<=H/\H<(O.size:Int)/\br ((bt O H)==32) (k1 R Xa y g) (aA y λa12=>aA y λa13=>∃I,g.cell? (a12.add 3)=some (hX I)/\∃E,g.cell? (a13.add 1)=some (hY E)/\0<=E/\E<(I.size:Int)/\br ((bt I E)==9) (k1 R Xa y g) (R (hQ (.tuple #[])) g))) (R (hQ (.tuple #[])) g)
def l1 (R:EP)(g:OA)(w:World):Prop:=∀X:OA->WP,(∀g w,bl1 R X g w->X g w)->X g w
end dG
def dG (R:EP)(g:OA)(w:World):Prop:=aA g λa1=>stV w (a1.add 0) (hY 0) λy=>dG.l1 R g y
theorem dG.sound {R x0 w}(h:dG R x0 w):callE P ij #[kT x0] R w:=
 aH [(5,.lp [2] (dG.bl1 R) λXa=> [(4,.dr (rpN [0,3,6,12,15,18,10,22,24,27,30,33,36,39,45,48,51,43,55,57,60,63,66,69,72,78,81,84,76,88,90,93,96,99])),(3,.mk [2] (dG.k1 R Xa))])] Tryz.func242 Tryz.call242 h
def ma (R:EP)(g:OA)(w:World):Prop:=aA g λa1=>∃V,w.cell? a1=some (hY V)/\br (V==0) (tk w λb4=>aA g λa4=>aA g λa5=>∃W,b4.cell? (a4.add 3)=some (hX W)/\∃a6,b4.cell? (a5.add 1)=some (hY a6)/\0<=a6/\a6<=(W.size:Int)/\R (hQ (hX (W.extract (Int.toNat a6) W.size))) b4) (br (V==1) (tk w λb5=>aA g λa9=>aA g λa10=>∃E,b5.cell? (a9.add 3)=some (hX E)/\∃I,b5.cell? (a10.add 1)=some (hY I)/\0<=I/\I<=(E.size:Int)/\(((hP #[32]).size+(E.extract (Int.toNat I) E.size).size:Nat):Int)<=i64.max/\R (hQ (hX ((hP #[32])++(E.extract (Int.toNat I) E.size)))) b5) (br (V==2) (tk w λb3=>aA g λa14=>aA g λb6=>∃H,b3.cell? (a14.add 3)=some (hX H)/\∃O,b3.cell? (b6.add 1)=some (hY O)/\0<=O/\O<=(H.size:Int)/\(((hP #[32,32]).size+(H.extract (Int.toNat O) H.size).size:Nat):Int)<=i64.max/\R (hQ (hX ((hP #[32,32])++(H.extract (Int.toNat O) H.size)))) b3) (br (V==3) (tk w λa7=>aA g λb8=>aA g λb7=>∃y,a7.cell? (b8.add 3)=some (hX y)/\∃U,a7.cell? (b7.add 1)=some (hY U)/\0<=U/\U<=(y.size:Int)/\(((hP #[32,32,32]).size+(y.extract (Int.toNat U) y.size).size:Nat):Int)<=i64.max/\R (hQ (hX ((hP #[32,32,32])++(y.extract (Int.toNat U) y.size)))) a7) (False))))
theorem ma.sound {R x0 w}(h:ma R x0 w):callE P gH #[kT x0] R w:=
 aH [(149,.dr (rpN [0,3,6,12,15,18,10,22,24,27])),(629,.dr (rpN [0,3,6,12,15,18,10,22,24,27,30])),(2549,.dr (rpN [0,3,6,12,15,18,10,22,24,27,30])),(10229,.dr (rpN [0,3,6,12,15,18,10,22,24,27,30])),(8181,.no)] Tryz.func186 Tryz.call186 h
namespace gt
def k1 (R:EP)(y:OA)(E:Bool)(w:World):Prop:=br E (aA y λH=>∃g,w.cell? (H.add 1)=some (hY g)/\aA y λI=>stV w ((I.add 1).add 0) (hY (i64.wrap (g+1))) λO=>R (hQ (hV true)) O) (R (hQ (hV false)) w)
end gt
def gt (R:EP)(g:OA)(W:Int)(w:World):Prop:=aA g λa1=>∃U,w.cell? a1=some (hY U)/\br (decide (U>0)) (br (W==32) (aA g λa3=>∃V,w.cell? a3=some (hY V)/\aA g λa5=>stV w (a5.add 0) (hY (i64.wrap (V - 1))) λa6=>R (hQ (hV true)) a6) (R (hQ (hV false)) w)) (tk w λy=>aA g λa8=>aA g λa9=>∃O,y.cell? (a8.add 1)=some (hY O)/\∃I,y.cell? (a9.add 3)=some (hX I)/\br (decide (O<(I.size:Int))) (aA g λa12=>aA g λa13=>∃H,y.cell? (a12.add 3)=some (hX H)/\∃E,y.cell? (a13.add 1)=some (hY E)/\0<=E/\E<(H.size:Int)/\gt.k1 R g ((bt H E)==W) y) (gt.k1 R g false y))
theorem gt.sound {R x0 x1 w}(h:gt R x0 x1 w):callE P fz #[kT x0,.int .u8 x1] R w:=
 aH [(19,.dr (rpN [0,3,6,12,15,18,10,22,24,27,30,33,36,39,45,48,51,60,43,55,57,63,66])),(27,.mk [2,820] (gt.k1 R))] Tryz.func239 Tryz.call239 h
def f7 (R:EP)(I:OA)(w:World):Prop:=tk w λE=>aA I λa2=>aA I λa3=>∃y,E.cell? (a2.add 3)=some (hX y)/\∃g,E.cell? (a3.add 1)=some (hY g)/\0<=g/\g<=(y.size:Int)/\callE P f9 #[hX (y.extract (Int.toNat g) y.size)] (λe O=>∃H,e= hQ (hX H)/\R (hQ (hX H)) O) E
theorem f7.sound {R x0 w}(h:f7 R x0 w):callE P fV #[kT x0] R w:=
 aH [(5,.dr (rpN [0,3,6,12,15,18,10,22,24,29,30]))] Tryz.func150 Tryz.call150 h
def jp (R:EP)(I:OA)(w:World):Prop:=tk w λE=>aA I λa2=>aA I λa3=>∃y,E.cell? (a2.add 3)=some (hX y)/\∃g,E.cell? (a3.add 1)=some (hY g)/\0<=g/\g<=(y.size:Int)/\callE P ia #[hX (y.extract (Int.toNat g) y.size)] (λe O=>∃H,e= hQ (hX H)/\R (hQ (hX H)) O) E
theorem jp.sound {R x0 w}(h:jp R x0 w):callE P jh #[kT x0] R w:=
 aH [(5,.dr (rpN [0,3,6,12,15,18,10,22,24,29,30]))] Tryz.func248 Tryz.call248 h
def ql (R:EP)(H:OA)(w:World):Prop:=tk w λg=>aA H λa2=>aA H λa3=>∃E,g.cell? (a2.add 1)=some (hY E)/\∃y,g.cell? (a3.add 3)=some (hX y)/\R (hQ (hV (decide (E >= (y.size:Int))))) g
theorem ql.sound {R x0 w}(h:ql R x0 w):callE P nJ #[kT x0] R w:=
 aH [(5,.dr (rpN [0,3,6,12,15,18,10,22,24,27,30]))] Tryz.func243 Tryz.call243 h
def lh (R:EP)(I:OA)(w:World):Prop:=tk w λE=>aA I λa2=>aA I λa3=>∃y,E.cell? (a2.add 3)=some (hX y)/\∃g,E.cell? (a3.add 1)=some (hY g)/\0<=g/\g<=(y.size:Int)/\callE P f9 #[hX (y.extract (Int.toNat g) y.size)] (λe O=>∃H,e= hQ (hX H)/\R (hQ (hV (H.toList==(hP #[]).toList))) O) E
theorem lh.sound {R x0 w}(h:lh R x0 w):callE P cr #[kT x0] R w:=
 aH [(5,.dr (rpN [0,3,6,12,15,18,10,22,24,29,30,33]))] Tryz.func104 Tryz.call104 h
def oM (R:EP)(g:OA)(w:World):Prop:=aA g λa1=>∃O,w.cell? a1=some (hY O)/\br (decide (O>0)) (R (hQ (.int .u8 32)) w) (tk w λE=>aA g λa4=>aA g λa5=>∃U,E.cell? (a4.add 1)=some (hY U)/\∃V,E.cell? (a5.add 3)=some (hX V)/\br (decide (U >= (V.size:Int))) (R (hQ (.int .u8 0)) E) (tk E λI=>aA g λa9=>aA g λa10=>∃H,I.cell? (a9.add 3)=some (hX H)/\∃y,I.cell? (a10.add 1)=some (hY y)/\0<=y/\y<(H.size:Int)/\R (hQ (.int .u8 (bt H y))) I))
theorem oM.sound {R x0 w}(h:oM R x0 w):callE P iA #[kT x0] R w:=
 aH [(19,.dr (rpN [0,3,6,12,15,18,10,22,24,27])),(23,.dr (rpN [0,3,6,12,15,18,10,22,24,27]))] Tryz.func241 Tryz.call241 h
namespace cK
def k2 (R:EP)(b4:OA)(y:Nat)(w:World):Prop:=∃H,w.cell? (hZ y 0)=some (hY H)/\∃O,w.cell? (hZ y 1)=some (hY O)/\∃E,w.cell? (hZ y 2)=some (hY E)/\∃I,w.cell? (hZ y 3)=some (hX I)/\∃U,w.cell? (hZ y 4)=some (.int .u8 U)/\aA b4 λg=>stV w (g.add 0) (hY H) λb3=>stV b3 (g.add 1) (hY O) λa6=>stV a6 (g.add 2) (hY E) λV=>stV V (g.add 3) (hX I) λa7=>stV a7 (g.add 4) (.int .u8 U) λW=>R (hQ (hV true)) W
def k3 (R:EP)(Xa:OA->Int->Int->Bool->Nat->Int->WP)(E:OA)(H:Int)(y:Nat)(g:Int)(w:World):Prop:=br (decide (g >= H)) (k2 R E y w) (R (hQ (hV false)) w)
def k1 (R:EP)(Xa:OA->Int->Int->Bool->Nat->Int->WP)(I:OA)(O b8:Int)(b7:Bool)(g:Nat)(H:Int)(w:World):Prop:=∃b4,w.cell? (hZ g 1)=some (hY b4)/\∃b5,w.cell? (hZ g 3)=some (hX b5)/\br (decide (b4<(b5.size:Int))) (∃E,w.cell? (hZ g 3)=some (hX E)/\∃y,w.cell? (hZ g 1)=some (hY y)/\0<=y/\y<(E.size:Int)/\br ((bt E y)==9) (∃W,w.cell? (hZ g 1)=some (hY W)/\∃b6,w.cell? (hZ g 2)=some (hY b6)/\stV w (hZ g 0) (hY (i64.wrap ((i64.wrap (4 - (EB .i64 (i64.wrap (W - b6)) 3))) - 1))) λa6=>∃b3,a6.cell? (hZ g 1)=some (hY b3)/\stV a6 (hZ g 1) (hY (i64.wrap (b3+1))) λV=>∃a7,V.cell? (hZ g 1)=some (hY a7)/\stV V (hZ g 2) (hY a7) λb9=>Xa I O b8 b7 g (i64.wrap (H+1)) b9) (br ((bt E y)==32) (∃U,w.cell? (hZ g 1)=some (hY U)/\stV w (hZ g 1) (hY (i64.wrap (U+1))) λc1=>Xa I O b8 b7 g (i64.wrap (H+1)) c1) (k3 R Xa I O g H w))) (k3 R Xa I O g H w)
def bl1 (R:EP)(Xa:OA->Int->Int->Bool->Nat->Int->WP)(H:OA)(O I:Int)(E:Bool)(g:Nat)(y:Int)(w:World):Prop:=br (decide (y<I)) (∃a6,w.cell? (hZ g 0)=some (hY a6)/\br (decide (a6>0)) (∃U,w.cell? (hZ g 0)=some (hY U)/\stV w (hZ g 0) (hY (i64.wrap (U - 1))) λa7=>Xa H O I E g (i64.wrap (y+1)) a7) (∃V,w.cell? (hZ g 1)=some (hY V)/\∃W,w.cell? (hZ g 3)=some (hX W)/\br ((decide (V >= (W.size:Int))) && E) (Xa H O I E g (i64.wrap (y+1)) w) (k1 R Xa H O I E g y w))) (k2 R H g w)
def l1 (R:EP)(I:OA)(E O:Int)(H:Bool)(y:Nat)(g:Int)(w:World):Prop:=∀X:OA->Int->Int->Bool->Nat->Int->WP,(∀I E O H y g w,bl1 R X I E O H y g w->X I E O H y g w)->X I E O H y g w
end cK
def cK (R:EP)(U:OA)(b6 b5:Int)(b8:Bool)(w:World):Prop:=aA U λa1=>∃E,w.cell? (a1.add 0)=some (hY E)/\∃y,w.cell? (a1.add 1)=some (hY y)/\∃O,w.cell? (a1.add 2)=some (hY O)/\∃H,w.cell? (a1.add 3)=some (hX H)/\∃I,w.cell? (a1.add 4)=some (.int .u8 I)/\box w #[hY 0,hY 0,hY 0,hX (hP #[]),.int .u8 0] aW λg b3=>stV b3 (hZ g 0) (hY E) λb4=>stV b4 (hZ g 1) (hY y) λa6=>stV a6 (hZ g 2) (hY O) λV=>stV V (hZ g 3) (hX H) λW=>stV W (hZ g 4) (.int .u8 I) λa7=>cK.l1 R U b6 b5 b8 g 0 a7
theorem cK.sound {R x0 x1 x2 x3 w}(h:cK R x0 x1 x2 x3 w):callE P bl #[kT x0,hY x1,hY x2,hV x3] R w:=
 aH [(43,.lp [2,27,47,60,186,207] (cK.bl1 R) λXa=> [(57,.mk [2,27,47,60,186,207] (cK.k1 R Xa)),(121,.mk [2,27,186,207] (cK.k3 R Xa))]),(15,.mk [2,186] (cK.k2 R))] Tryz.func203 Tryz.call203 h
namespace cU
def k1 (R:EP)(y:BA)(g:Int)(w:World):Prop:=0<=g/\g<=(y.size:Int)/\R (hQ (hX (y.extract (Int.toNat g) y.size))) w
def bl1 (R:EP)(Xa:BA->Int->WP)(y:BA)(g:Int)(w:World):Prop:=((decide (g<(y.size:Int)))=true->0<=g/\g<(y.size:Int))/\(((decide (g<(y.size:Int))) && (!((bt y g)==32)))=true->0<=g/\g<(y.size:Int))/\br ((decide (g<(y.size:Int))) && (((bt y g)==32)||((bt y g)==9))) (Xa y (i64.wrap (g+1)) w) (k1 R y g w)
def l1 (R:EP)(y:BA)(g:Int)(w:World):Prop:=∀X:BA->Int->WP,(∀y g w,bl1 R X y g w->X y g w)->X y g w
end cU
def cU (R:EP)(g:BA)(w:World):Prop:=cU.l1 R g 0 w
theorem cU.sound {R x0 w}(h:cU R x0 w):callE P f9 #[hX x0] R w:=
 aH [(19,.lp [1,67] (cU.bl1 R) λXa=> []),(15,.mk [1,67] (cU.k1 R))] Tryz.func140 Tryz.call140 h
namespace cJ
def k2 (R:EP)(y:BA)(g:Int)(w:World):Prop:=0<=g/\g<=(y.size:Int)/\R (hQ (hX (y.extract 0 (Int.toNat g)))) w
def bl2 (R:EP)(Xa:BA->Int->WP)(y:BA)(g:Int)(w:World):Prop:=((decide (g>0))=true->0<=(i64.wrap (g - 1))/\(i64.wrap (g - 1))<(y.size:Int))/\(((decide (g>0)) && (!((bt y (i64.wrap (g - 1)))==32)))=true->0<=(i64.wrap (g - 1))/\(i64.wrap (g - 1))<(y.size:Int))/\br ((decide (g>0)) && (((bt y (i64.wrap (g - 1)))==32)||((bt y (i64.wrap (g - 1)))==9))) (Xa y (i64.wrap (g - 1)) w) (k2 R y g w)
def l2 (R:EP)(y:BA)(g:Int)(w:World):Prop:=∀X:BA->Int->WP,(∀y g w,bl2 R X y g w->X y g w)->X y g w
def k1 (R:EP)(g:BA)(y:Int)(w:World):Prop:=0<=y/\y<=(g.size:Int)/\l2 R (g.extract (Int.toNat y) g.size) ((g.extract (Int.toNat y) g.size).size:Int) w
def bl1 (R:EP)(E:BA->Int->WP)(y:BA)(g:Int)(w:World):Prop:=((decide (g<(y.size:Int)))=true->0<=g/\g<(y.size:Int))/\(((decide (g<(y.size:Int))) && (!((bt y g)==32)))=true->0<=g/\g<(y.size:Int))/\br ((decide (g<(y.size:Int))) && (((bt y g)==32)||((bt y g)==9))) (E y (i64.wrap (g+1)) w) (k1 R y g w)
def l1 (R:EP)(y:BA)(g:Int)(w:World):Prop:=∀X:BA->Int->WP,(∀y g w,bl1 R X y g w->X y g w)->X y g w
end cJ
def cJ (R:EP)(g:BA)(w:World):Prop:=cJ.l1 R g 0 w
theorem cJ.sound {R x0 w}(h:cJ R x0 w):callE P ia #[hX x0] R w:=
 aH [(19,.lp [1,67] (cJ.bl1 R) λg=> []),(15,.mk [1,67] (cJ.k1 R)),(159,.lp [1,87] (cJ.bl2 R) λXa=> []),(127,.mk [1,87] (cJ.k2 R))] Tryz.func108 Tryz.call108 h

theorem sU {l:List UInt8}(b3:l.length<4611686018427387904)(h:R (hQ (hX (bs (gf cL l)))) w):cJ R (bs l) w:=by
 intro X W;refine C9 (l:=l) (X:=λi=>X (bs l) (i:Int) w) (p:=cL) (λi hi y H=>W _ _ _ ?_) 0 (lC2 _) (λi hi E I=>W _ _ _ ?_)
 ·refine⟨λ_=>⟨by omega,by simp;omega⟩,λ_=>⟨by omega,by simp;omega⟩,ag ?_ ?_⟩
  ·rw[da hi 32 32 rfl,da hi 9 9 rfl]
   simpa[hi,cL] using y
  ·rw[aN (by omega)];exact H
 ·refine⟨λh=>⟨by omega,by simpa using h⟩,λh=>⟨by omega,?_⟩,ae ?_ ?_⟩
  ·simp only[lK1,decide_eq_true_eq] at h;exact h.1
  ·by_cases g:i<l.length
   ·rw[da g 32 32 rfl,da g 9 9 rfl]
    simpa[g,cL] using E g
   ·simp[g]
  ·refine⟨by omega,by simp;omega,?_⟩;rw[bV];simp only[lC0,aI,lT2,I];simp only[lL2];generalize V:l.dropWhile cL=m;have a7:m.length<4611686018427387904:=by
    have:=lO2 cL (l:=l)|>.length_le
    rw[V] at this;omega
   intro Y a6;refine F9 (l:=m) (X:=λj=>Y (bs m) (j:Int) w) (p:=cL) (λi hi y H=>a6 _ _ _ ?_) m.length (lZ0 _) (λj b4 E I=>a6 _ _ _ ?_)
   ·have hd:=gV (n:=i+1) (by omega) (by omega);rw[lF3] at hd;refine⟨λ_=>?_,λ_=>?_,ag ?_ ?_⟩
    ·rw[hd];exact⟨by omega,by simp;omega⟩
    ·rw[hd];exact⟨by omega,by simp;omega⟩
    ·rw[hd,da hi 32 32 rfl,da hi 9 9 rfl];simp only[cL] at y;rw[y];simp
    ·rw[hd];exact H
   ·have O:cJ.k2 R (bs m) (j:Int) w:=by
     refine⟨by omega,by simp;omega,?_⟩;rw[bV];simp only[lC0,lL2,I,lT2];have:gf cL l=(m.reverse.dropWhile cL).reverse:=by rw[gf,vC,V]
     rw[<-this];exact h
    rcases lI4 j with U|U
    ·subst U;exact⟨λh=>by simp at h,λh=>by simp at h,ae (by simp) O⟩
    ·obtain⟨i,rfl⟩: ∃i,j=i+1:=⟨j - 1,by omega⟩
     have hd:=gV (n:=i+1) (by omega) (by omega);rw[lF3] at hd;refine⟨λ_=>?_,λ_=>?_,ae ?_ O⟩
     ·rw[hd];exact⟨by omega,by simp;omega⟩
     ·rw[hd];exact⟨by omega,by simp;omega⟩
     ·have:=E i (by omega) rfl;rw[hd,da (by omega) 32 32 rfl,da (by omega) 9 9 rfl];simp only[cL] at this;rw[this];simp
theorem j4 {l:List UInt8}(g:l.length<4611686018427387904)(h:R (hQ (hX (bs (gf cL l)))) w):callE P ia #[hX (bs l)] R w:=
 cJ.sound (sU g h)
theorem j5 {l:List UInt8}(U:l.length<4611686018427387904)(h:R (hQ (hX (bs (l.dropWhile cL)))) w):callE P f9 #[hX (bs l)] R w:=by
 refine cU.sound ?_;intro X y;refine C9 (l:=l) (X:=λi=>X (bs l) (i:Int) w) (p:=cL) (λi hi E I=>y _ _ _ ?_) 0 (lC2 _) (λi hi O H=>y _ _ _ ?_)
 ·refine⟨λ_=>⟨by omega,by simp;omega⟩,λ_=>⟨by omega,by simp;omega⟩,ag ?_ ?_⟩
  ·rw[da hi 32 32 rfl,da hi 9 9 rfl]
   simpa[hi,cL] using E
  ·rw[aN (by omega)];exact I
 ·refine⟨λh=>⟨by omega,by simpa using h⟩,λh=>⟨by omega,?_⟩,ae ?_ ?_⟩
  ·simp only[lK1,decide_eq_true_eq] at h;exact h.1
  ·by_cases g:i<l.length
   ·rw[da g 32 32 rfl,da g 9 9 rfl]
    simpa[g,cL] using O g
   ·simp[g]
  ·refine⟨by omega,by simp;omega,?_⟩;rw[aI,bV];simp only[lC0,lT2,H,lL2];exact h

structure Ln where
 sp:Nat
 i:Nat
 tab:Nat
 text:List UInt8
 nl:UInt8
def Ln.cells (l:Ln):List Value:= [hY l.sp,hY l.i,hY l.tab,hX (bs l.text),.int .u8 l.nl.toNat]
abbrev Ln.at (b:Nat)(l:Ln):ai:=(b,cel l.cells aW)
structure Ln.ok (l:Ln):Prop where
 i:l.i<=l.text.length
 tab:l.tab<=l.i
 len:l.text.length<4611686018427387904
 sp:l.sp<=3
def Ln.blank (l:Ln):Bool:=(l.text.drop l.i).all cL
def Ln.peek (l:Ln):UInt8:=if 0<l.sp then 32 else l.text.getD l.i 0
theorem lI {p:UInt8->Bool}: ∀ {l:List UInt8},((l.dropWhile p)== [])=l.all p
 | []=>rfl
 |a::l=>by
  cases g:p a with
  |true=>rw[lA4 g,lI,lL3,g,lO5]
  |false=>rw[lH2 (by simp[g]),lL3,g];rfl
theorem dC {b:Nat}{l:Ln}(h:Sat σ w L)(E:l.at b∈L)(g:l.ok)(y: ∀w,Sat σ w L->R (hQ (hV l.blank)) w):
 callE P cr #[kT (kE b)] R w:=by
 refine lh.sound ?_
 repeat (first|refine aa ?_|refine h.tk λw h=>?_|refine⟨_,h.ldA,?_⟩|refine⟨_,_,_,h.ldA,?_⟩)
 have:=g.i;refine⟨by omega,by simp;omega,?_⟩;rw[aI,lC0,nt];refine j5 (by simp;have:=g.len;omega) ⟨_,rfl,?_⟩;rw[cX,gi,lI];exact y _ h
theorem Ex {b:Nat}{l:Ln}(h:Sat σ w L)(y:l.at b∈L)(g: ∀w,Sat σ w L->R (hQ (hV (decide (l.text.length<=l.i)))) w):
 callE P nJ #[kT (kE b)] R w:=by
 refine ql.sound ?_
 repeat (first|refine aa ?_|refine h.tk λw h=>?_|refine⟨_,h.ldA,?_⟩|refine⟨_,_,_,h.ldA,?_⟩)
 have:(decide ((l.i:Int) >= ((bs l.text).size:Int)))=decide (l.text.length<=l.i):=by simp
 rw[this];exact g _ h
theorem lS {b:Nat}{l:Ln}(h:Sat σ w L)(E:l.at b∈L)(H:l.ok)(y: ∀w,Sat σ w L->R (hQ (.int .u8 l.peek.toNat)) w):
 callE P iA #[kT (kE b)] R w:=by
 refine oM.sound ?_
 repeat (first|refine aa ?_|refine h.tk λw h=>?_|refine⟨_,h.ldA,?_⟩|refine⟨_,_,_,h.ldA,?_⟩)
 refine bJ (λhs=>?_) (λhs=>?_)
 ·have g:l.peek=32:=by simp only[Ln.peek];rw[if_pos (by simpa using hs)]
  have:=y _ h;rw[g] at this;exact this
 ·have hs:l.sp=0:=by simpa using hs
  repeat (first|refine aa ?_|refine h.tk λw h=>?_|refine⟨_,h.ldA,?_⟩|refine⟨_,_,_,h.ldA,?_⟩)
  refine bJ (λhi=>?_) (λhi=>?_)
  ·have g:l.peek=0:=by
    simp at hi;simp[Ln.peek,hs,hi]
   have:=y _ h;rw[g] at this;exact this
  ·repeat (first|refine aa ?_|refine h.tk λw h=>?_|refine⟨_,h.ldA,?_⟩|refine⟨_,_,_,h.ldA,?_⟩)
   simp at hi;refine⟨by omega,by simp;omega,?_⟩;have g:(l.peek.toNat:Int)=bt (bs l.text) l.i:=by rw[oO hi];simp[Ln.peek,hs,hi]
   rw[<-g];exact y _ h
theorem FG (n:Nat)(E:n<4611686018427387904):EB .i64 (n:Int) 3=((n%4:Nat):Int):=by
 have y:(BitVec.ofInt 64 (n:Int) &&& BitVec.ofInt 64 3).toNat=n%4:=by
  rw[BitVec.toNat_and];have g:(BitVec.ofInt 64 (n:Int)).toNat=n:=by
   simp;omega
  rw[g,show (BitVec.ofInt 64 3).toNat=2 ^ 2 - 1 from rfl,Nat.and_two_pow_sub_one_eq_mod]
 show i64.wrap (((BitVec.ofInt 64 (n:Int) &&& BitVec.ofInt 64 3).toNat:Nat):Int)=_
 rw[y,i64_in _ (by omega)]
def Ln.tsGo (min:Nat)(eol:Bool):Nat->Nat->Ln->Option Ln
 |0,_,t=>some t
 |k+1,n,t=>
  if 0<t.sp then tsGo min eol k (n+1) {t with sp:=t.sp - 1}
  else if t.text.length<=t.i/\eol=true then tsGo min eol k (n+1) t
  else if t.text[t.i]? =some 9 then tsGo min eol k (n+1) {t with sp:=3 - (t.i - t.tab)%4,i:=t.i+1,tab:=t.i+1}
  else if t.text[t.i]? =some 32 then tsGo min eol k (n+1) {t with i:=t.i+1}
  else if min<=n then some t else none
def Ln.trimSp (min max:Nat)(eol:Bool)(t:Ln):Option Ln:=t.tsGo min eol max 0
theorem trimSp_ok {b:Nat}{l:Ln}{min max:Nat}{eol:Bool}(h:Sat σ w (l.at b::L))(b6:l.ok)(b9:min<4611686018427387904)(c1:max<4611686018427387904)(g:match l.trimSp min max eol with
  |some U=> ∀w,Sat σ w (U.at b::L)->R (hQ (hV true)) w
  |none=> ∀w,Sat σ w (l.at b::L)->R (hQ (hV false)) w):
 callE P bl #[kT (kE b),hY min,hY max,hV eol] R w:=by
 refine cK.sound ?_
 repeat (first|refine aa ?_|refine h.tk λw h=>?_|refine⟨_,h.ldA,?_⟩|refine⟨_,_,_,h.ldA,?_⟩|refine h.stA 0 λw h=>?_|refine h.stA 1 λw h=>?_|refine h.stA 2 λw h=>?_|refine h.stA 3 λw h=>?_|refine h.stA 4 λw h=>?_|refine h.stA 5 λw h=>?_|refine h.stA 6 λw h=>?_|refine h.bx λb0 w h=>?_)
 have h:Sat σ _ (l.at b0::l.at b::L):=h
 intro X a6;have a7: ∀k n (t:Ln) w,n+k=max->t.ok->Sat σ w (t.at b0::l.at b::L)->
  (match t.tsGo min eol k n with
  |some U=> ∀w,Sat σ w (U.at b::L)->R (hQ (hV true)) w
  |none=> ∀w,Sat σ w (l.at b::L)->R (hQ (hV false)) w)->X (kE b) min max eol b0 n w:=by
  intro k
  induction k with
  |zero=>
   intro n t w b4 ht h g;refine a6 _ _ _ _ _ _ _ (ae (by simp;omega) ?_)
   repeat (first|refine aa ?_|refine h.tk λw h=>?_|refine⟨_,h.ldA,?_⟩|refine⟨_,_,_,h.ldA,?_⟩|refine h.stA 0 λw h=>?_|refine h.stA 1 λw h=>?_|refine h.stA 2 λw h=>?_|refine h.stA 3 λw h=>?_|refine h.stA 4 λw h=>?_|refine h.stA 5 λw h=>?_|refine h.stA 6 λw h=>?_|refine h.bx λb0 w h=>?_)
   have h:Sat σ _ (t.at b0::t.at b::L):=h
   exact g _ h.tail
  |succ k O=>
   intro n t w b4 ht h g;simp only[Ln.tsGo] at g;refine a6 _ _ _ _ _ _ _ (ag (by simp;omega) ?_);have H:i64.wrap ((n:Int)+1)=((n+1:Nat):Int):=aN (by omega)
   repeat (first|refine aa ?_|refine h.tk λw h=>?_|refine⟨_,h.ldA,?_⟩|refine⟨_,_,_,h.ldA,?_⟩)
   by_cases hs:0<t.sp
   ·rw[if_pos hs] at g;refine ag (by simpa using hs) ?_;have hd:=gV (n:=t.sp) (by have:=ht.sp;omega) hs
    repeat (first|refine aa ?_|refine h.tk λw h=>?_|refine⟨_,h.ldA,?_⟩|refine⟨_,_,_,h.ldA,?_⟩|refine h.stA 0 λw h=>?_|refine h.stA 1 λw h=>?_|refine h.stA 2 λw h=>?_|refine h.stA 3 λw h=>?_|refine h.stA 4 λw h=>?_|refine h.stA 5 λw h=>?_|refine h.stA 6 λw h=>?_|refine h.bx λb0 w h=>?_)
    rw[hd] at h;rw[H];exact O _ {t with sp:=t.sp - 1} _ (by omega) ⟨ht.i,ht.tab,ht.len,by have:=ht.sp;simp;omega⟩ h g
   ·rw[if_neg hs] at g;refine ae (by simpa using hs) ?_
    repeat (first|refine aa ?_|refine h.tk λw h=>?_|refine⟨_,h.ldA,?_⟩|refine⟨_,_,_,h.ldA,?_⟩)
    by_cases V:t.text.length<=t.i/\eol=true
    ·rw[if_pos V] at g;refine ag (by simpa using V) ?_;rw[H];exact O _ t _ (by omega) ht h g
    ·rw[if_neg V] at g;refine ae (by rw[lX3];by_cases h:eol=true<;>simp_all) ?_
     repeat (first|refine aa ?_|refine h.tk λw h=>?_|refine⟨_,h.ldA,?_⟩|refine⟨_,_,_,h.ldA,?_⟩)
     by_cases hi:t.i<t.text.length
     ·refine ag (by simpa using hi) ?_
      repeat (first|refine aa ?_|refine h.tk λw h=>?_|refine⟨_,h.ldA,?_⟩|refine⟨_,_,_,h.ldA,?_⟩)
      refine⟨by omega,by simpa using hi,?_⟩;rw[lI0 hi] at g;have b7:=ht.len;have b8:=ht.tab;have W:i64.wrap ((t.i:Int)+1)=((t.i+1:Nat):Int):=aN (by omega)
      by_cases I:t.text[t.i]=9
      ·rw[if_pos (by rw[I])] at g;refine ag (by rw[da hi 9 9 rfl,I];rfl) ?_
       repeat (first|refine aa ?_|refine h.tk λw h=>?_|refine⟨_,h.ldA,?_⟩|refine⟨_,_,_,h.ldA,?_⟩)
       have b3:i64.wrap ((t.i:Int) - (t.tab:Int))=((t.i - t.tab:Nat):Int):=by rw[i64_in _ (by omega)];omega
       rw[b3,FG _ (by omega),i64_in (4 - _) (by omega),i64_in _ (by omega)];have b5:(4 - (((t.i - t.tab)%4:Nat):Int) - 1)=((3 - (t.i - t.tab)%4:Nat):Int):=by omega
       rw[b5]
       repeat (first|refine aa ?_|refine h.tk λw h=>?_|refine⟨_,h.ldA,?_⟩|refine⟨_,_,_,h.ldA,?_⟩|refine h.stA 0 λw h=>?_|refine h.stA 1 λw h=>?_|refine h.stA 2 λw h=>?_|refine h.stA 3 λw h=>?_|refine h.stA 4 λw h=>?_|refine h.stA 5 λw h=>?_|refine h.stA 6 λw h=>?_|refine h.bx λb0 w h=>?_)
       rw[W] at h;rw[H];exact O _ {t with sp:=3 - (t.i - t.tab)%4,i:=t.i+1,tab:=t.i+1} _ (by omega) ⟨by simp;omega,by simp,ht.len,by simp⟩ h g
      ·rw[if_neg (by simpa using I)] at g;refine ae (by rw[da hi 9 9 rfl];simpa using I) ?_
       by_cases E:t.text[t.i]=32
       ·rw[if_pos (by rw[E])] at g;refine ag (by rw[da hi 32 32 rfl,E];rfl) ?_
        repeat (first|refine aa ?_|refine h.tk λw h=>?_|refine⟨_,h.ldA,?_⟩|refine⟨_,_,_,h.ldA,?_⟩|refine h.stA 0 λw h=>?_|refine h.stA 1 λw h=>?_|refine h.stA 2 λw h=>?_|refine h.stA 3 λw h=>?_|refine h.stA 4 λw h=>?_|refine h.stA 5 λw h=>?_|refine h.stA 6 λw h=>?_|refine h.bx λb0 w h=>?_)
        rw[W] at h;rw[H];exact O _ {t with i:=t.i+1} _ (by omega) ⟨by simp;omega,by simp;omega,ht.len,ht.sp⟩ h g
       ·rw[if_neg (by simpa using E)] at g;refine ae (by rw[da hi 32 32 rfl];simpa using E) ?_
        by_cases y:min<=n
        ·rw[if_pos y] at g;refine ag (by simpa using y) ?_
         repeat (first|refine aa ?_|refine h.tk λw h=>?_|refine⟨_,h.ldA,?_⟩|refine⟨_,_,_,h.ldA,?_⟩|refine h.stA 0 λw h=>?_|refine h.stA 1 λw h=>?_|refine h.stA 2 λw h=>?_|refine h.stA 3 λw h=>?_|refine h.stA 4 λw h=>?_|refine h.stA 5 λw h=>?_|refine h.stA 6 λw h=>?_|refine h.bx λb0 w h=>?_)
         have h:Sat σ _ (t.at b0::t.at b::L):=h
         exact g _ h.tail
        ·rw[if_neg y] at g;refine ae (by simpa using y) ?_;exact g _ h.tail
     ·refine ae (by simpa using hi) ?_;rw[lS1 (by omega),if_neg (by simp),if_neg (by simp)] at g
      by_cases y:min<=n
      ·rw[if_pos y] at g;refine ag (by simpa using y) ?_
       repeat (first|refine aa ?_|refine h.tk λw h=>?_|refine⟨_,h.ldA,?_⟩|refine⟨_,_,_,h.ldA,?_⟩|refine h.stA 0 λw h=>?_|refine h.stA 1 λw h=>?_|refine h.stA 2 λw h=>?_|refine h.stA 3 λw h=>?_|refine h.stA 4 λw h=>?_|refine h.stA 5 λw h=>?_|refine h.stA 6 λw h=>?_|refine h.bx λb0 w h=>?_)
       have h:Sat σ _ (t.at b0::t.at b::L):=h
       exact g _ h.tail
      ·rw[if_neg y] at g;refine ae (by simpa using y) ?_;exact g _ h.tail
 exact a7 max 0 l _ (by omega) b6 h g

def Ln.trimC (c:UInt8)(l:Ln):Option Ln:=
 if 0<l.sp then (if c=32 then some {l with sp:=l.sp - 1} else none)
 else if l.text[l.i]? =some c then some {l with i:=l.i+1} else none
theorem Ln.trimC_ok {c:UInt8}{l y:Ln}(g:l.ok)(h:l.trimC c=some y):y.ok:=by
 simp only[Ln.trimC] at h;have H:=g.i;have I:=g.tab;have O:=g.sp
 split at h
 ·split at h
  ·cases h;exact⟨H,I,g.len,by simp;omega⟩
  ·cases h
 ·split at h
  ·rename_i E;have:=(lL0.1 E).1;cases h;exact⟨by simp;omega,by simp;omega,g.len,g.sp⟩
  ·cases h
theorem trimC_ok {b:Nat}{l:Ln}{c:UInt8}{n:Int}(hc:(c.toNat:Int)=n)(h:Sat σ w (l.at b::L))(y:l.ok)(g:match l.trimC c with
  |some H=> ∀w,Sat σ w (H.at b::L)->R (hQ (hV true)) w
  |none=> ∀w,Sat σ w (l.at b::L)->R (hQ (hV false)) w):
 callE P fz #[kT (kE b),.int .u8 n] R w:=by
 subst hc;refine gt.sound ?_;simp only[Ln.trimC] at g;have I:=y.i;have U:=y.tab;have O:=y.sp;have V:=y.len
 repeat (first|refine aa ?_|refine h.tk λw h=>?_|refine⟨_,h.ldA,?_⟩|refine⟨_,_,_,h.ldA,?_⟩)
 by_cases hs:0<l.sp
 ·rw[if_pos hs] at g;refine ag (by simpa using hs) ?_
  by_cases hc:c=32
  ·rw[if_pos hc] at g;refine ag (by rw[hc];rfl) ?_;have hd:=gV (n:=l.sp) (by omega) hs
   repeat (first|refine aa ?_|refine h.tk λw h=>?_|refine⟨_,h.ldA,?_⟩|refine⟨_,_,_,h.ldA,?_⟩|refine h.stA 0 λw h=>?_|refine h.stA 1 λw h=>?_|refine h.stA 2 λw h=>?_|refine h.stA 3 λw h=>?_|refine h.stA 4 λw h=>?_|refine h.stA 5 λw h=>?_|refine h.stA 6 λw h=>?_|refine h.bx λb0 w h=>?_)
   rw[hd] at h;exact g _ h
  ·rw[if_neg hc] at g;refine ae ?_ (g _ h);have:=my c 32;rw[show ((32:UInt8).toNat:Int)=32 from rfl] at this;rw[this]
   simpa using hc
 ·rw[if_neg hs] at g;refine ae (by simpa using hs) ?_
  repeat (first|refine aa ?_|refine h.tk λw h=>?_|refine⟨_,h.ldA,?_⟩|refine⟨_,_,_,h.ldA,?_⟩)
  have E:i64.wrap ((l.i:Int)+1)=((l.i+1:Nat):Int):=aN (by omega)
  by_cases hi:l.i<l.text.length
  ·rw[lI0 hi] at g;refine ag (by simpa using hi) ?_
   repeat (first|refine aa ?_|refine h.tk λw h=>?_|refine⟨_,h.ldA,?_⟩|refine⟨_,_,_,h.ldA,?_⟩)
   refine⟨by omega,by simpa using hi,?_⟩;rw[da hi c _ rfl]
   by_cases hc:l.text[l.i]=c
   ·rw[if_pos (by rw[hc])] at g;refine ag (by simpa using hc) ?_
    repeat (first|refine aa ?_|refine h.tk λw h=>?_|refine⟨_,h.ldA,?_⟩|refine⟨_,_,_,h.ldA,?_⟩|refine h.stA 0 λw h=>?_|refine h.stA 1 λw h=>?_|refine h.stA 2 λw h=>?_|refine h.stA 3 λw h=>?_|refine h.stA 4 λw h=>?_|refine h.stA 5 λw h=>?_|refine h.stA 6 λw h=>?_|refine h.bx λb0 w h=>?_)
    rw[E] at h;exact g _ h
   ·rw[if_neg (by simpa using hc)] at g;exact ae (by simpa using hc) (g _ h)
  ·rw[lS1 (by omega),if_neg (by simp)] at g;exact ae (by simpa using hi) (ae rfl (g _ h))
def Ln.skip (l:Ln):Ln:= {l with sp:=0,i:=l.text.length - ((l.text.drop l.i).dropWhile cL).length}
theorem Ln.skip_ok {l:Ln}(g:l.ok):l.skip.ok:=by
 have H:=g.i;have E:=g.tab
 have y:=(lO2 cL (l:=l.text.drop l.i)).length_le;rw[lL1] at y;exact⟨by simp only[Ln.skip];omega,by simp only[Ln.skip];omega,g.len,by simp[Ln.skip]⟩
theorem qB {b:Nat}{l:Ln}(h:Sat σ w (l.at b::L))(U:l.ok)(V: ∀w,Sat σ w (l.skip.at b::L)->R (hQ (.tuple #[])) w):
 callE P ij #[kT (kE b)] R w:=by
 refine dG.sound ?_
 repeat (first|refine aa ?_|refine h.tk λw h=>?_|refine⟨_,h.ldA,?_⟩|refine⟨_,_,_,h.ldA,?_⟩|refine h.stA 0 λw h=>?_|refine h.stA 1 λw h=>?_|refine h.stA 2 λw h=>?_|refine h.stA 3 λw h=>?_|refine h.stA 4 λw h=>?_|refine h.stA 5 λw h=>?_|refine h.stA 6 λw h=>?_|refine h.bx λb0 w h=>?_)
 intro X W;have a7:=U.i;have b5:=U.len
 refine C9 (l:=l.text) (p:=cL) (X:=λi=> ∀w,Sat σ w (Ln.at b {l with sp:=0,i:=i}::L)->X (kE b) w) (λi hi y a6 w h=>W _ _ ?_) l.i a7 (λi hi b3 b4 w h=>W _ _ ?_) _ h
 ·repeat (first|refine aa ?_|refine h.tk λw h=>?_|refine⟨_,h.ldA,?_⟩|refine⟨_,_,_,h.ldA,?_⟩)
  refine ag (by simpa using hi) ?_
  repeat (first|refine aa ?_|refine h.tk λw h=>?_|refine⟨_,h.ldA,?_⟩|refine⟨_,_,_,h.ldA,?_⟩)
  refine⟨by omega,by simpa using hi,?_⟩;have O:i64.wrap ((i:Int)+1)=((i+1:Nat):Int):=aN (by omega)
  rw[da hi 32 32 rfl]
  by_cases hc:l.text[i]=32
  ·refine ag (by simpa using hc) ?_
   repeat (first|refine aa ?_|refine h.tk λw h=>?_|refine⟨_,h.ldA,?_⟩|refine⟨_,_,_,h.ldA,?_⟩|refine h.stA 0 λw h=>?_|refine h.stA 1 λw h=>?_|refine h.stA 2 λw h=>?_|refine h.stA 3 λw h=>?_|refine h.stA 4 λw h=>?_|refine h.stA 5 λw h=>?_|refine h.stA 6 λw h=>?_|refine h.bx λb0 w h=>?_)
   rw[O] at h;exact a6 _ h
  ·refine ae (by simpa using hc) ?_
   repeat (first|refine aa ?_|refine h.tk λw h=>?_|refine⟨_,h.ldA,?_⟩|refine⟨_,_,_,h.ldA,?_⟩)
   refine⟨by omega,by simpa using hi,?_⟩;rw[da hi 9 9 rfl];refine ag (by simpa[cL,hc] using y) ?_
   repeat (first|refine aa ?_|refine h.tk λw h=>?_|refine⟨_,h.ldA,?_⟩|refine⟨_,_,_,h.ldA,?_⟩|refine h.stA 0 λw h=>?_|refine h.stA 1 λw h=>?_|refine h.stA 2 λw h=>?_|refine h.stA 3 λw h=>?_|refine h.stA 4 λw h=>?_|refine h.stA 5 λw h=>?_|refine h.stA 6 λw h=>?_|refine h.bx λb0 w h=>?_)
   rw[O] at h;exact a6 _ h
 ·have I:l.skip= {l with sp:=0,i:=i}:=by
   simp only[Ln.skip,<-b4,lL1];congr 1;omega
  rw[<-I] at h;have E:l.skip.i=i:=by rw[I]
  have H:l.skip.text=l.text:=rfl
  repeat (first|refine aa ?_|refine h.tk λw h=>?_|refine⟨_,h.ldA,?_⟩|refine⟨_,_,_,h.ldA,?_⟩)
  rw[E,H]
  by_cases g:i<l.text.length
  ·have y:=b3 g;simp only[cL,lI2,beq_eq_false_iff_ne] at y;refine ag (by simpa using g) ?_
   repeat (first|refine aa ?_|refine h.tk λw h=>?_|refine⟨_,h.ldA,?_⟩|refine⟨_,_,_,h.ldA,?_⟩)
   rw[E,H];refine⟨by omega,by simpa using g,?_⟩;rw[da g 32 32 rfl];refine ae (by simpa using y.1) ?_
   repeat (first|refine aa ?_|refine h.tk λw h=>?_|refine⟨_,h.ldA,?_⟩|refine⟨_,_,_,h.ldA,?_⟩)
   rw[E,H];refine⟨by omega,by simpa using g,?_⟩;rw[da g 9 9 rfl];exact ae (by simpa using y.2) (V _ h)
  ·exact ae (by simpa using g) (V _ h)
def Ln.str (l:Ln):List UInt8:=hN l.sp 32++l.text.drop l.i
theorem o5 {b:Nat}{l:Ln}(h:Sat σ w L)(W:l.at b∈L)(H:l.ok)(I: ∀w,Sat σ w L->R (hQ (hX (bs l.str))) w):
 callE P gH #[kT (kE b)] R w:=by
 refine ma.sound ?_;have V:=H.i;have a6:=H.sp;have a7:=H.len
 have E: ∀(k:Nat) (pre:ByteArray),l.sp=k->pre=bs (hN k 32)->(∀w,Sat σ w L->R (hQ (hX (pre++(bs l.text).extract l.i l.text.length))) w):=by
  intro k pre U O w h;rw[O,nt,bM,<-U];exact I w h
 have y:i64.max=9223372036854775807:=rfl
 repeat (first|refine aa ?_|refine h.tk λw h=>?_|refine⟨_,h.ldA,?_⟩|refine⟨_,_,_,h.ldA,?_⟩)
 have g:l.sp=0\/l.sp=1\/l.sp=2\/l.sp=3:=by omega
 rcases g with g|g|g|g
 ·refine ag (by rw[g];rfl) ?_
  repeat (first|refine aa ?_|refine h.tk λw h=>?_|refine⟨_,h.ldA,?_⟩|refine⟨_,_,_,h.ldA,?_⟩)
  refine⟨by omega,by simp;omega,?_⟩;rw[aI,lC0,nt];have:=I _ h;rw[Ln.str,g] at this;exact this
 ·refine ae (by rw[g];rfl) (ag (by rw[g];rfl) ?_)
  repeat (first|refine aa ?_|refine h.tk λw h=>?_|refine⟨_,h.ldA,?_⟩|refine⟨_,_,_,h.ldA,?_⟩)
  refine⟨by omega,by simp;omega,?_,?_⟩
  ·rw[y,aI,lC0,nt,aI,lL1]
   show ((1+(l.text.length - l.i):Nat):Int)<=_
   omega
  ·rw[aI,lC0];exact E 1 _ g rfl _ h
 ·refine ae (by rw[g];rfl) (ae (by rw[g];rfl) (ag (by rw[g];rfl) ?_))
  repeat (first|refine aa ?_|refine h.tk λw h=>?_|refine⟨_,h.ldA,?_⟩|refine⟨_,_,_,h.ldA,?_⟩)
  refine⟨by omega,by simp;omega,?_,?_⟩
  ·rw[y,aI,lC0,nt,aI,lL1]
   show ((2+(l.text.length - l.i):Nat):Int)<=_
   omega
  ·rw[aI,lC0];exact E 2 _ g rfl _ h
 ·refine ae (by rw[g];rfl) (ae (by rw[g];rfl) (ae (by rw[g];rfl) (ag (by rw[g];rfl) ?_)))
  repeat (first|refine aa ?_|refine h.tk λw h=>?_|refine⟨_,h.ldA,?_⟩|refine⟨_,_,_,h.ldA,?_⟩)
  refine⟨by omega,by simp;omega,?_,?_⟩
  ·rw[y,aI,lC0,nt,aI,lL1]
   show ((3+(l.text.length - l.i):Nat):Int)<=_
   omega
  ·rw[aI,lC0];exact E 3 _ g rfl _ h
theorem kA {b:Nat}{l:Ln}(h:Sat σ w L)(E:l.at b∈L)(g:l.ok)(y: ∀w,Sat σ w L->R (hQ (hX (bs ((l.text.drop l.i).dropWhile cL)))) w):
 callE P fV #[kT (kE b)] R w:=by
 refine f7.sound ?_
 repeat (first|refine aa ?_|refine h.tk λw h=>?_|refine⟨_,h.ldA,?_⟩|refine⟨_,_,_,h.ldA,?_⟩)
 have:=g.i;refine⟨by omega,by simp;omega,?_⟩;rw[aI,lC0,nt];exact j5 (by simp;have:=g.len;omega) ⟨_,rfl,y _ h⟩
theorem un {b:Nat}{l:Ln}(h:Sat σ w L)(E:l.at b∈L)(g:l.ok)(y: ∀w,Sat σ w L->R (hQ (hX (bs (gf cL (l.text.drop l.i))))) w):
 callE P jh #[kT (kE b)] R w:=by
 refine jp.sound ?_
 repeat (first|refine aa ?_|refine h.tk λw h=>?_|refine⟨_,h.ldA,?_⟩|refine⟨_,_,_,h.ldA,?_⟩)
 have:=g.i;refine⟨by omega,by simp;omega,?_⟩;rw[aI,lC0,nt];exact j4 (by simp;have:=g.len;omega) ⟨_,rfl,y _ h⟩

structure BT where
 l:List Int
 sc:Bool
 ok:l.length=80
def BT.cells (t:BT):List Value:=t.l.map (λn=>hY n)++ [hV t.sc]
def BT.z:BT:=⟨hN 80 0,false,rfl⟩
structure PS where
 pz:Option Addr
 root:Option Addr
 links:Option Nat
 lineno:Nat
 stq:Option Addr
 stn:Nat
 stc:Nat
 depth:Int
 corner:Bool
 s:List UInt8
 em:Int
 lq:Option Addr
 ln:Nat
 lc:Nat
 Lq:Option Addr
 Ln:Nat
 Lc:Nat
 tq:Option Addr
 tn:Nat
 tc:Nat
 bt:BT
def PS.cells (p:PS):List Value:=
 kT p.pz:: kT p.root:: .map p.links:: hY p.lineno:: hT p.stq p.stn p.stc:: hY p.depth:: hV p.corner:: hX (bs p.s):: hY p.em::
  hT p.lq p.ln p.lc:: hT p.Lq p.Ln p.Lc:: hT p.tq p.tn p.tc::p.bt.cells
abbrev PS.at (b:Nat)(p:PS):ai:=(b,cel p.cells gy)
structure OB where
 bd:Value
 q:Option Addr
 n:Nat
 c:Nat
 s:Nat
 e:Nat
def OB.cells (o:OB):List Value:= [o.bd,hT o.q o.n o.c,hY o.s,hY o.e]
def aP (l:List OB):List Value:=l.flatMap OB.cells
theorem aR: ∀l:List OB,(aP l).length=l.length*4
 | []=>rfl
 |o::l=>by simp only[aP,lJ3,lA0,lF0] at*;rw[show (List.flatMap OB.cells l).length=l.length*4 from aR l];simp[OB.cells];omega
theorem rU {f:Nat}(g:f<4): ∀(l:List OB) (j:Nat) (o:OB),l[j]? =some o->(aP l)[j*4+f]? =o.cells[f]?
 | [],j,o,h=>by simp at h
 |o'::l,0,o,h=>by
  simp only[lR5,lH1] at h;subst h;simp only[aP,lJ3,lP6,lN0];rw[lM0 (by simp[OB.cells];omega)]
 |o'::l,j+1,o,h=>by
  simp only[lZ2] at h;simp only[aP,lJ3];rw[lH0 (by simp[OB.cells];omega)];have:=rU g l j o h;rw[<-this];congr 1;simp[OB.cells];omega
def Stk (p:PS)(l:List OB)(M:List ai):Prop:=Sl 4 ay p.stq p.stn p.stc (aP l) M/\p.stn=l.length/\l.length<1048576
theorem Stk.split {p:PS}{l:List OB}{M:List ai}(h:Stk p l M)(E:l≠ []): ∃b sp,p.stq=kE b/\M= [(b,cel (aP l++sp) ay)]/\(aP l++sp).length=p.stc*4:=by
 obtain⟨⟨_,_,h|⟨b,sp,y,I,H⟩⟩,g,_⟩:=h
 ·obtain⟨_,h,_⟩:=h;rw[h] at g;exact absurd (lC1 g.symm) E
 ·exact⟨b,sp,y,I,H⟩
theorem Stk.mk' {p:PS}{l:List OB}{b:Nat}{sp:List Value}(E:p.stq=kE b)(y:(aP l++sp).length=p.stc*4)(g:p.stn=l.length)(H:l.length<1048576):
 Stk p l [(b,cel (aP l++sp) ay)]:=by
 refine⟨⟨by rw[aR,g],?_,.inr ⟨b,sp,E,rfl,y⟩⟩,g,H⟩;rw[lA0,aR] at y;omega
theorem fe {l:List OB}{sp:List Value}{j f:Nat}{o:OB}(y:f<4)(g:l[j]? =some o):(aP l++sp)[j*4+f]? =o.cells[f]? :=by
 have E:=(lL0.1 g).1;rw[lM0 (by rw[aR];omega),rU y l j o g]
theorem ig {l:List OB}(o:OB):(l++ [o])[l.length]? =some o:=by simp
theorem ke {n:Nat}(h:n<1048576):i64.wrap (((n+1:Nat):Int) - 1)=(n:Int):=by
 rw[i64_in _ (by omega)];omega
theorem nu {b:Nat}{p:PS}{l:List OB}{o:OB}{M:List ai}(h:Sat σ w (p.at b::M++L))(hs:Stk p (l++ [o]) M)(H: ∀w,Sat σ w (p.at b::M++L)->R (hQ (hT o.q o.n o.c)) w):callE P iw #[kT (kE b)] R w:=by
 obtain⟨sb,sp,E,rfl,I⟩:=hs.split (by simp);have g:=hs.2.1;have y:=hs.2.2;rw[lA0,lE0] at g y;refine iJ.sound ?_
 repeat (first|refine aa ?_|refine h.tk λw h=>?_|refine⟨_,h.ldA,?_⟩|refine⟨_,_,_,h.ldA,?_⟩)
 rw[g,ke (by omega)];refine⟨by omega,by omega,?_⟩;rw[E];refine aa ?_;simp only[lK0,lN0,lC0];exact⟨_,_,_,Sat.ld h (by first|assumption|(repeat (first|exact .head _|apply List.Mem.tail))) (fe (f:=1) (by decide) (ig o)),H _ h⟩
theorem n8 {b:Nat}{p:PS}{d:Int}(h:Sat σ w (p.at b::L))(hd:(p.stn:Int)=d)(g: ∀w,Sat σ w (p.at b::L)->R (hQ (.tuple #[])) w):
 callE P bj #[kT (kE b),hY d] R w:=by
 refine aG.sound ?_
 repeat (first|refine aa ?_|refine h.tk λw h=>?_|refine⟨_,h.ldA,?_⟩|refine⟨_,_,_,h.ldA,?_⟩)
 refine ae (by simp;omega) ?_;intro X y;refine y _ _ _ ?_
 repeat (first|refine aa ?_|refine h.tk λw h=>?_|refine⟨_,h.ldA,?_⟩|refine⟨_,_,_,h.ldA,?_⟩)
 exact ae (by simp;omega) (g _ h)
noncomputable def rowOB:Row P fL ay 4 56:=
 ⟨(P.info? ay).getD default,((P.info? ay).bind (·.zero)).getD default,by kernel_rfl,by kernel_rfl,by kernel_rfl,by kernel_rfl,by kernel_rfl,by kernel_rfl,by decide⟩
theorem iN (l:List OB)(o:OB):aP (l++ [o])=aP l++o.cells:=by simp[aP]
theorem kS {l:List OB}{sp:List Value}{o o':OB}{f:Nat}{v:Value}(y:f<4)(g:o.cells.set f v=o'.cells):
 (aP (l++ [o])++sp).set (l.length*4+f) v=aP (l++ [o'])++sp:=by
 rw[iN,iN,lD0,lD0,lO1 _ _ (by rw[aR];omega),aR,
  show l.length*4+f - l.length*4=f by omega,lU4 _ _ (by simp[OB.cells];omega),g]
theorem oa {t xt:TypeId}{v:Value}(g: ∀y,P.underlying t≠some (.interface y)){d:TypeDesc}(hd:P.underlying t=some d)(w:World):
 (Instr.typeAssert (.iface t v) xt t true).run P w= .ok (.tuple #[v,hV true]) w:=by
 cases d<;>first|(exact absurd hd (g _))|simp[Instr.typeAssert,run_underlying hd]
theorem ut {t a xt:TypeId}{v:Value}(y: ∀E,P.underlying a≠some (.interface E)){d:TypeDesc}(hd:P.underlying a=some d)(g:t≠a){i:TypeInfo}{z:Value}(hi:P.info? a=some i)(hz:i.zero=some z)(w:World):
 (Instr.typeAssert (.iface t v) xt a true).run P w= .ok (.tuple #[z,hV false]) w:=by
 cases d<;>first|(exact absurd hd (y _))|simp[Instr.typeAssert,run_underlying hd,g,zeroValue,typeInfo,hi,hz]

theorem oR {b:Nat}{p:PS}{l:List OB}{M:List ai}{t:TypeId}{v:Value}(h:Sat σ w (p.at b::M++L))(hs:Stk p l M)(hd:p.depth+1=l.length)(a7:l.length<1048575)(W: ∀w p' g,p'= {p with stq:=p'.stq,stn:=l.length+1,stc:=p'.stc}->Stk p' (l++ [⟨.iface t v,none,0,0,p.lineno,p.lineno⟩]) g->Sat σ w (p'.at b::g++L)->R (hQ (.tuple #[])) w):
 callE P bQ #[kT (kE b),.iface t v] R w:=by
 have I:=hs.2.1;refine eH.sound ?_
 repeat (first|refine aa ?_|refine h.tk λw h=>?_|refine⟨_,h.ldA,?_⟩|refine⟨_,_,_,h.ldA,?_⟩)
 rw[show i64.wrap (p.depth+1)=p.depth+1 by rw[hd];exact i64_in _ (by omega)];refine n8 h (by rw[hd,I]) λw h=>⟨rfl,?_⟩
 repeat (first|refine aa ?_|refine h.tk λw h=>?_|refine⟨_,h.ldA,?_⟩|refine⟨_,_,_,h.ldA,?_⟩)
 have h:Sat σ w (M++(p.at b::L)):=h.re
 refine Sat.app1 rowOB hs.1 h (v:= .agg #[.nilIface,hT none 0 0,hY 0,hY 0]) rfl (by decide) (by kernel_rfl) (by omega) (by omega) (by decide) λa6 V w g E h=>?_
 have h:Sat σ w (p.at b::g++L):=h.re
 let p':PS:= {p with stq:=a6,stn:=l.length+1,stc:=V}
 rw[I] at E⊢
 (first|refine aa ?_|refine h.tk λw h=>?_|refine⟨_,h.ldA,?_⟩|refine⟨_,_,_,h.ldA,?_⟩|refine h.stA 0 λw h=>?_|refine h.stA 1 λw h=>?_|refine h.stA 2 λw h=>?_|refine h.stA 3 λw h=>?_|refine h.stA 4 λw h=>?_|refine h.stA 5 λw h=>?_|refine h.stA 6 λw h=>?_|refine h.bx λb0 w h=>?_)
 (first|refine aa ?_|refine h.tk λw h=>?_|refine⟨_,h.ldA,?_⟩|refine⟨_,_,_,h.ldA,?_⟩|refine h.stA 0 λw h=>?_|refine h.stA 1 λw h=>?_|refine h.stA 2 λw h=>?_|refine h.stA 3 λw h=>?_|refine h.stA 4 λw h=>?_|refine h.stA 5 λw h=>?_|refine h.stA 6 λw h=>?_|refine h.bx λb0 w h=>?_)
 have h:Sat σ w (p'.at b::g++L):=h
 have O:Stk p' (l++ [⟨.nilIface,none,0,0,0,0⟩]) g:=by
  refine⟨?_,by simp[p'],by simp;omega⟩;rw[iN];exact E
 obtain⟨sb,sp,H,rfl,U⟩:=O.split (by simp)
 repeat (first|refine aa ?_|refine h.tk λw h=>?_|refine⟨_,h.ldA,?_⟩|refine⟨_,_,_,h.ldA,?_⟩)
 rw[show p'.stn=l.length+1 from rfl,ke (by omega)];refine⟨by omega,by omega,?_⟩;rw[H];refine aa ?_;dsimp only[Ct];simp only[lK0,lN0,lC0,lN1];have y: ∀(o:OB) (sp:List Value) f,f<4->l.length*4+f<(aP (l++ [o])++sp).length:=by
  intro o sp f b3;rw[lA0,aR,lA0,lE0];omega
 refine Sat.st h (k:=1) rfl (by have:=y ⟨.nilIface,none,0,0,0,0⟩ sp 0 (by decide);simpa using this) trivial rfl λw h=>?_
 have h:Sat σ w (p'.at b:: [(sb,cel (aP (l++ [⟨.iface t v,none,0,0,0,0⟩])++sp) ay)]++L):=by
  have e:=kS (l:=l) (sp:=sp) (o:=⟨.nilIface,none,0,0,0,0⟩) (o':=⟨.iface t v,none,0,0,0,0⟩) (f:=0) (v:= .iface t v) (by decide) rfl
  rw[lN1] at e;rw[e] at h;exact h
 repeat (first|refine aa ?_|refine h.tk λw h=>?_|refine⟨_,h.ldA,?_⟩|refine⟨_,_,_,h.ldA,?_⟩)
 refine Sat.st h (k:=1) rfl (y _ sp 2 (by decide)) trivial rfl λw h=>?_
 have h:Sat σ w (p'.at b:: [(sb,cel (aP (l++ [⟨.iface t v,none,0,0,p.lineno,0⟩])++sp) ay)]++L):=by
  have e:=kS (l:=l) (sp:=sp) (o:=⟨.iface t v,none,0,0,0,0⟩) (o':=⟨.iface t v,none,0,0,p.lineno,0⟩) (f:=2) (v:= hY p.lineno) (by decide) rfl
  have h:=h;rw[e] at h;exact h
 repeat (first|refine aa ?_|refine h.tk λw h=>?_|refine⟨_,h.ldA,?_⟩|refine⟨_,_,_,h.ldA,?_⟩)
 refine Sat.st h (k:=1) rfl (y _ sp 3 (by decide)) trivial rfl λw h=>?_
 have h:Sat σ w (p'.at b:: [(sb,cel (aP (l++ [⟨.iface t v,none,0,0,p.lineno,p.lineno⟩])++sp) ay)]++L):=by
  have e:=kS (l:=l) (sp:=sp) (o:=⟨.iface t v,none,0,0,p.lineno,0⟩) (o':=⟨.iface t v,none,0,0,p.lineno,p.lineno⟩) (f:=3) (v:= hY p.lineno) (by decide) rfl
  have h:=h;rw[e] at h;exact h
 refine W _ p' _ rfl ?_ h;refine Stk.mk' H ?_ (by simp[p']) (by simp;omega);rw[<-U,lA0,lA0,aR,aR,lA0,lA0];rfl

theorem Ln.tsGo_ok {min:Nat}{eol:Bool}: ∀(k n:Nat) {l g:Ln},l.ok->l.tsGo min eol k n=some g->g.ok/\g.text=l.text/\g.nl=l.nl
 |0,n,l,g,hl,h=>by simp only[Ln.tsGo,lH1] at h;subst h;exact⟨hl,rfl,rfl⟩
 |k+1,n,l,g,hl,h=>by
  have E:=hl.i;have I:=hl.tab;have H:=hl.sp
  simp only[Ln.tsGo] at h;split at h
  ·exact tsGo_ok k _ (l:= {l with sp:=l.sp - 1}) ⟨E,I,hl.len,by simp;omega⟩ h
  ·split at h
   ·exact tsGo_ok k _ hl h
   ·split at h
    ·rename_i y;have:=(lL0.1 y).1;exact tsGo_ok k _ (l:= {l with sp:=3 - (l.i - l.tab)%4,i:=l.i+1,tab:=l.i+1}) ⟨by simp;omega,by simp,hl.len,by simp⟩ h
    ·split at h
     ·rename_i y;have:=(lL0.1 y).1;exact tsGo_ok k _ (l:= {l with i:=l.i+1}) ⟨by simp;omega,by simp;omega,hl.len,H⟩ h
     ·split at h
      ·cases h;exact⟨hl,rfl,rfl⟩
      ·cases h
theorem Ln.tsGo_some {eol:Bool}: ∀(k n:Nat) (l:Ln),∃g,l.tsGo 0 eol k n=some g
 |0,n,l=>⟨l,rfl⟩
 |k+1,n,l=>by
  simp only[Ln.tsGo];split
  ·exact tsGo_some k _ _
  ·split
   ·exact tsGo_some k _ _
   ·split
    ·exact tsGo_some k _ _
    ·split
     ·exact tsGo_some k _ _
     ·exact⟨l,by simp⟩
theorem Ln.trimSp_ok {min max:Nat}{eol:Bool}{l g:Ln}(y:l.ok)(h:l.trimSp min max eol=some g):g.ok:=(Ln.tsGo_ok max 0 y h).1
def Ln.lead (m:Nat)(eol:Bool)(l:Ln):Ln:=(l.trimSp 0 m eol).getD l
theorem Ln.lead_eq (m:Nat)(eol:Bool)(l:Ln):l.trimSp 0 m eol=some (l.lead m eol):=by
 obtain⟨g,h⟩:=Ln.tsGo_some (eol:=eol) m 0 l;rw[Ln.lead,Ln.trimSp,h];rfl
theorem Ln.lead_ok {m:Nat}{eol:Bool}{l:Ln}(g:l.ok):(l.lead m eol).ok:=Ln.trimSp_ok g (l.lead_eq m eol)
theorem lead_ok {b:Nat}{l:Ln}{max:Nat}{eol:Bool}(h:Sat σ w (l.at b::L))(E:l.ok)(y:max<4611686018427387904)(g: ∀w,Sat σ w ((l.lead max eol).at b::L)->R (hQ (hV true)) w):
 callE P bl #[kT (kE b),hY 0,hY max,hV eol] R w:=by
 refine YtendaipfdnhnaaaGreatDoor.trimSp_ok (min:=0) h E (by omega) y ?_;rw[Ln.lead_eq];exact g
abbrev Ln.val (l:Ln):Value:= .agg #[hY l.sp,hY l.i,hY l.tab,hX (bs l.text),.int .u8 l.nl.toNat]
def Ln.quote (l:Ln):Option Ln:=((l.lead 3 false).trimC 62).map λt=>t.lead 1 true
theorem mH {l:Ln}(h:Sat σ w L)(E:l.ok)(g:match l.quote with
  |some I=> ∀w,Sat σ w L->R (hQ (.tuple #[I.val,hV true])) w
  |none=> ∀w,Sat σ w L->R (hQ (.tuple #[l.val,hV false])) w):callE P lZ #[l.val] R w:=by
 refine oL.sound ?_;refine Sat.bx h λb1 w h=>?_
 refine Sat.bx h λH w h=>?_
 repeat (first|refine aa ?_|refine h.tk λw h=>?_|refine⟨_,h.ldA,?_⟩|refine⟨_,_,_,h.ldA,?_⟩|refine h.stA 0 λw h=>?_|refine h.stA 1 λw h=>?_|refine h.stA 2 λw h=>?_|refine h.stA 3 λw h=>?_|refine h.stA 4 λw h=>?_|refine h.stA 5 λw h=>?_|refine h.stA 6 λw h=>?_|refine h.bx λb0 w h=>?_)
 have h:Sat σ _ (l.at b0::(H,cel [hY 0,hY 0,hY 0,hX (bs []),.int .u8 0] aW)::l.at b1::L):=h
 refine lead_ok (max:=3) h E (by decide) λw h=>⟨_,rfl,?_⟩
 refine trimC_ok (c:=62) rfl h (Ln.lead_ok E) ?_;simp only[Ln.quote] at g;cases y:(l.lead 3 false).trimC 62 with
 |none=>
  rw[y] at g;intro w h;refine⟨_,rfl,ag rfl ?_⟩
  repeat (first|refine aa ?_|refine h.tk λw h=>?_|refine⟨_,h.ldA,?_⟩|refine⟨_,_,_,h.ldA,?_⟩|refine h.stA 0 λw h=>?_|refine h.stA 1 λw h=>?_|refine h.stA 2 λw h=>?_|refine h.stA 3 λw h=>?_|refine h.stA 4 λw h=>?_|refine h.stA 5 λw h=>?_|refine h.stA 6 λw h=>?_|refine h.bx λb0 w h=>?_)
  exact g _ h.tail.tail.tail
 |some t=>
  rw[y] at g;intro w h;refine⟨_,rfl,ae rfl ?_⟩;refine lead_ok (max:=1) h (Ln.trimC_ok (Ln.lead_ok E) y) (by decide) λw h=>⟨_,rfl,?_⟩
  repeat (first|refine aa ?_|refine h.tk λw h=>?_|refine⟨_,h.ldA,?_⟩|refine⟨_,_,_,h.ldA,?_⟩|refine h.stA 0 λw h=>?_|refine h.stA 1 λw h=>?_|refine h.stA 2 λw h=>?_|refine h.stA 3 λw h=>?_|refine h.stA 4 λw h=>?_|refine h.stA 5 λw h=>?_|refine h.stA 6 λw h=>?_|refine h.bx λb0 w h=>?_)
  exact g _ h.tail.tail.tail

theorem u8b (c d:UInt8)(n:Int)(hd:(d.toNat:Int)=n):(((c.toNat:Nat):Int)==n)=(c==d):=by subst hd;exact my c d
def Ln.hrGo (c:UInt8):Nat->Nat->Ln->Bool
 |0,_,_=>false
 |f+1,n,l=>match l.trimC c with
  |none=>decide (3<=n) && decide (l.text.length<=l.i)
  |some g=>g.skip.hrGo c f (n+1)
def Ln.isHR (l:Ln):Bool:=
 let t:=l.lead 3 false
 if t.peek=45\/t.peek=95\/t.peek=42 then t.hrGo t.peek (t.text.length+1) 0 else false
theorem Ln.skip_ge {l:Ln}(y:l.ok):l.i<=l.skip.i:=by
 have E:=y.i;have g:=(lO2 cL (l:=l.text.drop l.i)).length_le;rw[lL1] at g;simp only[Ln.skip];omega
theorem BP {l:Ln}(h:Sat σ w L)(V:l.ok)(y: ∀w,Sat σ w L->R (hQ (hV l.isHR)) w):callE P B0 #[l.val] R w:=by
 refine ml.sound ?_;refine Sat.bx h λb1 w h=>?_
 repeat (first|refine aa ?_|refine h.tk λw h=>?_|refine⟨_,h.ldA,?_⟩|refine⟨_,_,_,h.ldA,?_⟩|refine h.stA 0 λw h=>?_|refine h.stA 1 λw h=>?_|refine h.stA 2 λw h=>?_|refine h.stA 3 λw h=>?_|refine h.stA 4 λw h=>?_|refine h.stA 5 λw h=>?_|refine h.stA 6 λw h=>?_|refine h.bx λb0 w h=>?_)
 have h:Sat σ _ (l.at b0::l.at b1::L):=h
 refine lead_ok (max:=3) h V (by decide) λw h=>⟨_,rfl,?_⟩
 have ht:=Ln.lead_ok (m:=3) (eol:=false) V
 refine lS h (by first|assumption|(repeat (first|exact .head _|apply List.Mem.tail))) ht λw h=>⟨_,rfl,?_⟩
 generalize b5:l.lead 3 false=t at*
 have hi:l.isHR=if t.peek=45\/t.peek=95\/t.peek=42 then t.hrGo t.peek (t.text.length+1) 0 else false:=by simp only[Ln.isHR,b5]
 have W: ∀(c:UInt8),c≠32-> ∀f n (t:Ln) w,t.ok->t.text.length - t.i<f->n<=t.i->Sat σ w (t.at b0::l.at b1::L)->(∀w,Sat σ w L->R (hQ (hV (t.hrGo c f n))) w)->
  ml.l1 R b0 c.toNat n w:=by
  intro c hc f n t w ht c1 b8 h y X b3
  induction f generalizing n t w with
  |zero=>omega
  |succ f b4=>
   refine b3 _ _ _ _ ?_;refine trimC_ok (c:=c) rfl h ht ?_;simp only[Ln.hrGo] at y;have b9:=ht.i;have b7:=ht.len
   cases E:t.trimC c with
   |none=>
    rw[E] at y;intro w h;refine⟨_,rfl,ag rfl ?_⟩;refine bJ (λI=>?_) (λI=>?_)
    ·refine Ex h (by first|assumption|(repeat (first|exact .head _|apply List.Mem.tail))) λw h=>⟨_,rfl,?_⟩
     have:=y _ h.tail.tail;rw[show decide (3<=n)=true by simp at I⊢;omega,lO5] at this;exact this
    ·have:=y _ h.tail.tail;rw[show decide (3<=n)=false by simp at I⊢;omega,Bool.false_and] at this;exact this
   |some t'=>
    rw[E] at y;intro w h;refine⟨_,rfl,ae rfl ?_⟩;have H:=Ln.trimC_ok ht E;refine qB h H λw h=>⟨rfl,?_⟩
    have hd:t'.i=t.i+1/\t'.text=t.text:=by
     simp only[Ln.trimC,hc,if_false] at E;split at E
     ·cases E
     ·split at E
      ·cases E;exact⟨rfl,rfl⟩
      ·cases E
    have b6:=Ln.skip_ge H;have a7:t'.skip.text=t.text:=hd.2;rw[aN (by omega)];have a6:=H.i;rw[hd.2] at a6;exact b4 (n+1) t'.skip _ (Ln.skip_ok H) (by rw[a7];omega) (by omega) h y
 have fin:(t.peek=45\/t.peek=95\/t.peek=42)->Sat σ w (t.at b0::l.at b1::L)->ml.k1 R b0 t.peek.toNat true w:=by
  intro g h;rw[if_pos g] at hi;refine ag rfl ?_;refine W t.peek (by rcases g with g|g|g<;>rw[g]<;>decide) (t.text.length+1) 0 t w ht (by omega) (by omega) h (by rw[<-hi];exact y)
 rw[u8b _ 45 45 rfl,u8b _ 95 95 rfl,u8b _ 42 42 rfl];refine bJ (λg=>fin (.inl (by simpa using g)) h) (λU=>bJ (λg=>fin (.inr (.inl (by simpa using g))) h) (λO=>?_))
 by_cases g:t.peek=42
 ·rw[show (t.peek==42)=true by simpa using g];exact fin (.inr (.inr g)) h
 ·rw[show (t.peek==42)=false by simpa using g];have:=y _ h.tail.tail;rw[hi,if_neg (by simp at U O;simp[U,O,g])] at this;exact ae rfl this

theorem ip {x:Value}{q:Option Addr}{l:Ln}(h:Sat σ w L)(y:l.ok)(g:l.quote=none)(E: ∀w,Sat σ w L->R (hQ (.tuple #[l.val,hV false])) w):callE P jZ #[kT q,l.val] R w:=by
 refine nL.sound ?_;refine Sat.bx h λb1 w h=>?_
 refine Sat.bx h λH w h=>?_
 repeat (first|refine aa ?_|refine h.tk λw h=>?_|refine⟨_,h.ldA,?_⟩|refine⟨_,_,_,h.ldA,?_⟩)
 refine mH (l:=l) h y ?_;rw[g];intro w h;refine⟨_,_,_,_,_,_,rfl,?_⟩;refine Sat.bx h λI w h=>?_
 repeat (first|refine aa ?_|refine h.tk λw h=>?_|refine⟨_,h.ldA,?_⟩|refine⟨_,_,_,h.ldA,?_⟩|refine h.stA 0 λw h=>?_|refine h.stA 1 λw h=>?_|refine h.stA 2 λw h=>?_|refine h.stA 3 λw h=>?_|refine h.stA 4 λw h=>?_|refine h.stA 5 λw h=>?_|refine h.stA 6 λw h=>?_|refine h.bx λb0 w h=>?_)
 exact E _ h.tail.tail.tail
theorem rx {q:Option Addr}{l:Ln}(h:Sat σ w L)(E:l.ok)(g:l.isHR=false)(y: ∀w,Sat σ w L->R (hQ (.tuple #[l.val,hV false])) w):callE P qd #[kT q,l.val] R w:=by
 refine uX.sound ?_;refine Sat.bx h λb1 w h=>?_
 refine Sat.bx h λH w h=>?_
 repeat (first|refine aa ?_|refine h.tk λw h=>?_|refine⟨_,h.ldA,?_⟩|refine⟨_,_,_,h.ldA,?_⟩)
 refine BP (l:=l) h E λw h=>⟨_,rfl,?_⟩
 rw[g]
 repeat (first|refine aa ?_|refine h.tk λw h=>?_|refine⟨_,h.ldA,?_⟩|refine⟨_,_,_,h.ldA,?_⟩|refine h.stA 0 λw h=>?_|refine h.stA 1 λw h=>?_|refine h.stA 2 λw h=>?_|refine h.stA 3 λw h=>?_|refine h.stA 4 λw h=>?_|refine h.stA 5 λw h=>?_|refine h.stA 6 λw h=>?_|refine h.bx λb0 w h=>?_)
 exact y _ h.tail.tail
def Ln.hashes:Nat->Nat->Ln->Nat × Ln
 |0,n,l=>(n,l)
 |k+1,n,l=>match l.trimC 35 with
  |none=>(n,l)
  |some g=>g.hashes k (n+1)
def Ln.heading (l:Ln):Option (Nat × Ln):=
 match (l.lead 3 false).trimC 35 with
 |none=>none
 |some t=>((t.hashes 5 1).2.trimSp 1 1 true).map λt'=>((t.hashes 5 1).1,t')
theorem n9 {b nb:Nat}{l:Ln}{v:Int}{e:TypeId}(h:Sat σ w (l.at b::(nb,cel [hY v] e)::L))(H:l.ok)(g:match l.heading with
  |some (n,E)=> ∀w,Sat σ w (E.at b::(nb,cel [hY n] e)::L)->R (hQ (hV true)) w
  |none=> ∀w,Sat σ w (l.at b::(nb,cel [hY v] e)::L)->R (hQ (hV false)) w):
 callE P iV #[kT (kE b),kT (kE nb)] R w:=by
 refine ct.sound ?_
 repeat (first|refine aa ?_|refine h.tk λw h=>?_|refine⟨_,h.ldA,?_⟩|refine⟨_,_,_,h.ldA,?_⟩|refine h.stA 0 λw h=>?_|refine h.stA 1 λw h=>?_|refine h.stA 2 λw h=>?_|refine h.stA 3 λw h=>?_|refine h.stA 4 λw h=>?_|refine h.stA 5 λw h=>?_|refine h.stA 6 λw h=>?_|refine h.bx λb0 w h=>?_)
 have h:Sat σ _ (l.at b0::l.at b::(nb,cel [hY v] e)::L):=h
 refine lead_ok (max:=3) h H (by decide) λw h=>⟨_,rfl,?_⟩
 have ht:=Ln.lead_ok (m:=3) (eol:=false) H
 refine trimC_ok (c:=35) rfl h ht ?_;simp only[Ln.heading] at g;cases y:(l.lead 3 false).trimC 35 with
 |none=>
  rw[y] at g;exact λw h=>⟨_,rfl,ag rfl (g _ h.tail)⟩
 |some t=>
  rw[y] at g;intro w h;refine⟨_,rfl,ae rfl ?_⟩;have ht:=Ln.trimC_ok ht y;have fin: ∀(n:Nat) (t':Ln) w,t'.ok->Sat σ w (t'.at b0::l.at b::(nb,cel [hY v] e)::L)->
   (match (t'.trimSp 1 1 true).map λt'=>(n,t') with
   |some (n,E)=> ∀w,Sat σ w (E.at b::(nb,cel [hY n] e)::L)->R (hQ (hV true)) w
   |none=> ∀w,Sat σ w (l.at b::(nb,cel [hY v] e)::L)->R (hQ (hV false)) w)->
   ct.k1 R (kE b) (kE nb) b0 n w:=by
   intro n t' w V h g;refine YtendaipfdnhnaaaGreatDoor.trimSp_ok (min:=1) (max:=1) h V (by decide) (by decide) ?_;cases hs:t'.trimSp 1 1 true with
   |none=>
    rw[hs] at g;exact λw h=>⟨_,rfl,ag rfl (g _ h.tail)⟩
   |some O=>
    rw[hs] at g;intro w h;refine⟨_,rfl,ae rfl ?_⟩
    repeat (first|refine aa ?_|refine h.tk λw h=>?_|refine⟨_,h.ldA,?_⟩|refine⟨_,_,_,h.ldA,?_⟩|refine h.stA 0 λw h=>?_|refine h.stA 1 λw h=>?_|refine h.stA 2 λw h=>?_|refine h.stA 3 λw h=>?_|refine h.stA 4 λw h=>?_|refine h.stA 5 λw h=>?_|refine h.stA 6 λw h=>?_|refine h.bx λb0 w h=>?_)
    have h:Sat σ _ (O.at b0::O.at b::(nb,cel [hY n] e)::L):=h
    exact g _ h.tail
  have U: ∀k n (t:Ln) w,t.ok->k+n=6->Sat σ w (t.at b0::l.at b::(nb,cel [hY v] e)::L)->
   (match ((t.hashes k n).2.trimSp 1 1 true).map λt'=>((t.hashes k n).1,t') with
   |some (n,E)=> ∀w,Sat σ w (E.at b::(nb,cel [hY n] e)::L)->R (hQ (hV true)) w
   |none=> ∀w,Sat σ w (l.at b::(nb,cel [hY v] e)::L)->R (hQ (hV false)) w)->
   ct.l1 R (kE b) (kE nb) b0 n w:=by
   intro k n t w ht a6 h g X I
   induction k generalizing n t w with
   |zero=>exact I _ _ _ _ _ (ae (by simp;omega) (fin n t w ht h g))
   |succ k W=>
    refine I _ _ _ _ _ (ag (by simp;omega) ?_);refine trimC_ok (c:=35) rfl h ht ?_;simp only[Ln.hashes] at g;cases y:t.trimC 35 with
    |none=>
     rw[y] at g;exact λw h=>⟨_,rfl,ae rfl (fin n t w ht h g)⟩
    |some t'=>
     rw[y] at g;intro w h;refine⟨_,rfl,ag rfl ?_⟩;rw[aN (by omega)];exact W (n+1) t' w (Ln.trimC_ok ht y) (by omega) h g
  exact U 5 1 t w ht rfl h g
theorem lw {q:Option Addr}{l:Ln}(h:Sat σ w L)(H:l.ok)(y:l.heading=none)(I: ∀w,Sat σ w L->R (hQ (.tuple #[l.val,hV false])) w):callE P fh #[kT q,l.val] R w:=by
 refine cG.sound ?_;refine Sat.bx h λb1 w h=>?_
 refine Sat.bx h λg w h=>?_
 repeat (first|refine aa ?_|refine h.tk λw h=>?_|refine⟨_,h.ldA,?_⟩|refine⟨_,_,_,h.ldA,?_⟩)
 refine Sat.bx h λE w h=>?_
 repeat (first|refine aa ?_|refine h.tk λw h=>?_|refine⟨_,h.ldA,?_⟩|refine⟨_,_,_,h.ldA,?_⟩|refine h.stA 0 λw h=>?_|refine h.stA 1 λw h=>?_|refine h.stA 2 λw h=>?_|refine h.stA 3 λw h=>?_|refine h.stA 4 λw h=>?_|refine h.stA 5 λw h=>?_|refine h.stA 6 λw h=>?_|refine h.bx λb0 w h=>?_)
 have h:Sat σ _ ((b0,cel [hY 0] bg)::l.at E::(g,cel [hY 0,hY 0,hY 0,hX (bs []),.int .u8 0] aW)::l.at b1::L):=h
 refine n9 h.up1 H ?_;rw[y];intro w h;refine⟨_,rfl,ae rfl ?_⟩
 repeat (first|refine aa ?_|refine h.tk λw h=>?_|refine⟨_,h.ldA,?_⟩|refine⟨_,_,_,h.ldA,?_⟩|refine h.stA 0 λw h=>?_|refine h.stA 1 λw h=>?_|refine h.stA 2 λw h=>?_|refine h.stA 3 λw h=>?_|refine h.stA 4 λw h=>?_|refine h.stA 5 λw h=>?_|refine h.stA 6 λw h=>?_|refine h.bx λb0 w h=>?_)
 exact I _ h.tail.tail.tail.tail

theorem vI {b:Nat}{q:Option Addr}{l:Ln}(h:Sat σ w (l.at b::L))(g:l.ok)(E:(l.lead 3 false).peek≠60)(y: ∀w,Sat σ w (l.at b::L)->R (hQ (hV false)) w):callE P fU #[kT q,kT (kE b)] R w:=by
 refine fX.sound ?_
 repeat (first|refine aa ?_|refine h.tk λw h=>?_|refine⟨_,h.ldA,?_⟩|refine⟨_,_,_,h.ldA,?_⟩|refine h.stA 0 λw h=>?_|refine h.stA 1 λw h=>?_|refine h.stA 2 λw h=>?_|refine h.stA 3 λw h=>?_|refine h.stA 4 λw h=>?_|refine h.stA 5 λw h=>?_|refine h.stA 6 λw h=>?_|refine h.bx λb0 w h=>?_)
 have h:Sat σ _ (l.at b0::l.at b::L):=h
 refine lead_ok (max:=3) h g (by decide) λw h=>⟨_,rfl,?_⟩
 refine lS h (by first|assumption|(repeat (first|exact .head _|apply List.Mem.tail))) (Ln.lead_ok g) λw h=>⟨_,rfl,?_⟩
 refine ag ?_ (y _ h.tail);rw[bne,u8b _ 60 60 rfl]
 simpa using E
theorem nE {q:Option Addr}{l:Ln}(h:Sat σ w L)(H:l.ok)(E:(l.lead 3 false).peek≠60)(g: ∀w,Sat σ w L->R (hQ (.tuple #[l.val,hV false])) w):callE P lE #[kT q,l.val] R w:=by
 refine sC.sound ?_;refine Sat.bx h λb1 w h=>?_
 refine Sat.bx h λy w h=>?_
 repeat (first|refine aa ?_|refine h.tk λw h=>?_|refine⟨_,h.ldA,?_⟩|refine⟨_,_,_,h.ldA,?_⟩|refine h.stA 0 λw h=>?_|refine h.stA 1 λw h=>?_|refine h.stA 2 λw h=>?_|refine h.stA 3 λw h=>?_|refine h.stA 4 λw h=>?_|refine h.stA 5 λw h=>?_|refine h.stA 6 λw h=>?_|refine h.bx λb0 w h=>?_)
 have h:Sat σ _ (l.at b0::(y,cel [hY 0,hY 0,hY 0,hX (bs []),.int .u8 0] aW)::l.at b1::L):=h
 refine vI h H E λw h=>⟨_,rfl,ae rfl ?_⟩
 repeat (first|refine aa ?_|refine h.tk λw h=>?_|refine⟨_,h.ldA,?_⟩|refine⟨_,_,_,h.ldA,?_⟩|refine h.stA 0 λw h=>?_|refine h.stA 1 λw h=>?_|refine h.stA 2 λw h=>?_|refine h.stA 3 λw h=>?_|refine h.stA 4 λw h=>?_|refine h.stA 5 λw h=>?_|refine h.stA 6 λw h=>?_|refine h.bx λb0 w h=>?_)
 exact g _ h.tail.tail.tail
theorem qy {b:Nat}{p:PS}{l:List OB}{o:OB}{M:List ai}(h:Sat σ w (p.at b::M++L))(hs:Stk p (l++ [o]) M){t:TypeId}{v:Value}(U:o.bd= .iface t v)(y: ∀w,Sat σ w (p.at b::M++L)->R (hQ (if t=ar then v else kT none)) w)(hv:t=ar-> ∃q,v= kT q):
 callE P eh #[kT (kE b)] R w:=by
 obtain⟨sb,sp,O,rfl,V⟩:=hs.split (by simp);have E:=hs.2.1;have H:=hs.2.2;rw[lA0,lE0] at E H;refine jk.sound ?_
 repeat (first|refine aa ?_|refine h.tk λw h=>?_|refine⟨_,h.ldA,?_⟩|refine⟨_,_,_,h.ldA,?_⟩)
 rw[E,ke (by omega)];refine⟨by omega,by omega,?_⟩;rw[O];refine aa ?_;simp only[lK0,lN0,lC0];refine⟨o.bd,Sat.ld h (by first|assumption|(repeat (first|exact .head _|apply List.Mem.tail))) (fe (f:=0) (by decide) (ig o)),?_⟩;rw[U];have g:P.underlying ar=some (.pointer aL):=by kernel_rfl
 by_cases ht:t=ar
 ·obtain⟨q,rfl⟩:=hv ht;subst ht;have:=y _ h;rw[if_pos rfl] at this;exact⟨q,true,λw=>oa (by rw[g];intro I h;cases h) g w,ag rfl this⟩
 ·have:=y _ h;rw[if_neg ht] at this;refine⟨none,false,λw=>?_,ae rfl this⟩;exact ut (by rw[g];intro I h;cases h) g ht (i:=(P.info? ar).getD default) (by kernel_rfl) (by kernel_rfl) w

def Ln.strip:Nat->Nat->Ln->Nat × Ln
 |0,n,l=>(n,l)
 |k+1,n,l=>match l.trimSp 1 1 false with
  |none=>(n,l)
  |some g=>g.strip k (n+1)
theorem Ln.strip_ok: ∀(k n:Nat) {l:Ln},l.ok->(l.strip k n).2.ok/\(l.strip k n).1<=n+k
 |0,n,l,h=>⟨h,lZ0 _⟩
 |k+1,n,l,h=>by
  simp only[Ln.strip];split
  ·exact⟨h,by simp⟩
  ·rename_i y g;have:=strip_ok k (n+1) (Ln.trimSp_ok h g);exact⟨this.1,by have:=this.2;omega⟩
def lX (c:UInt8):Bool:=c==45||c==42||c==43||(48<=c && c<=57)
theorem ue {c d:UInt8}{n:Int}(hd:(d.toNat:Int)=n)(h:c≠d):(((c.toNat:Nat):Int)==n)=false:=by
 rw[u8b _ d n hd];simpa using h
theorem rf {b:Nat}{q:Option Addr}{l:Ln}(h:Sat σ w (l.at b::L))(a6:l.ok)(g:lX (l.strip 3 0).2.peek=false)(b3: ∀w,Sat σ w (l.at b::L)->R (hQ (hV false)) w):callE P bN #[kT q,kT (kE b)] R w:=by
 refine am.sound ?_;refine Sat.bx h λb1 w h=>?_
 repeat (first|refine aa ?_|refine h.tk λw h=>?_|refine⟨_,h.ldA,?_⟩|refine⟨_,_,_,h.ldA,?_⟩|refine h.stA 0 λw h=>?_|refine h.stA 1 λw h=>?_|refine h.stA 2 λw h=>?_|refine h.stA 3 λw h=>?_|refine h.stA 4 λw h=>?_|refine h.stA 5 λw h=>?_|refine h.stA 6 λw h=>?_|refine h.bx λb0 w h=>?_)
 have h:Sat σ _ (l.at b0::(b1,cel [kT q] ah)::l.at b::L):=h
 have fin: ∀(n:Nat) (t:Ln) w,t.ok->lX t.peek=false->Sat σ w (t.at b0::(b1,cel [kT q] ah)::l.at b::L)->am.k1 R b1 b0 n w:=by
  intro n t w ht g h;refine lS h (by first|assumption|(repeat (first|exact .head _|apply List.Mem.tail))) ht λw h=>⟨_,rfl,?_⟩
  generalize t.peek=c at*
  simp only[lX,lI2,beq_eq_false_iff_ne,lX3,decide_eq_false_iff_not] at g;obtain⟨⟨⟨W,b5⟩,a7⟩,y⟩:=g;have hd: ∀d:UInt8,48<=d->d<=57->c≠d:=by
   intro d V O hc;subst hc;rcases y with y|y
   ·exact y V
   ·exact y O
  have I:=ue (n:=43) rfl a7;have U:=ue (n:=57) rfl (hd 57 (by decide) (by decide));refine ae (ue (d:=45) rfl W) (ae (ue (d:=42) rfl b5) ?_);rw[I];refine ae rfl ?_;refine ae (ue (d:=48) rfl (hd _ (by decide) (by decide))) ?_;refine ae (ue (d:=49) rfl (hd _ (by decide) (by decide))) ?_;refine ae (ue (d:=50) rfl (hd _ (by decide) (by decide))) ?_;refine ae (ue (d:=51) rfl (hd _ (by decide) (by decide))) ?_;refine ae (ue (d:=52) rfl (hd _ (by decide) (by decide))) ?_;refine ae (ue (d:=53) rfl (hd _ (by decide) (by decide))) ?_;refine ae (ue (d:=54) rfl (hd _ (by decide) (by decide))) ?_;refine ae (ue (d:=55) rfl (hd _ (by decide) (by decide))) ?_;refine ae (ue (d:=56) rfl (hd _ (by decide) (by decide))) ?_;rw[U];exact ae rfl (b3 _ h.tail.tail)
 intro X E;have H: ∀k n (t:Ln) w,t.ok->k+n=3->lX (t.strip k n).2.peek=false->Sat σ w (t.at b0::(b1,cel [kT q] ah)::l.at b::L)->X b1 b0 n n w:=by
  intro k n t w ht b6 g h
  induction k generalizing n t w with
  |zero=>exact E _ _ _ _ _ (ae (by simp;omega) (fin n t w ht g h))
  |succ k b4=>
   refine E _ _ _ _ _ (ag (by simp;omega) ?_);refine YtendaipfdnhnaaaGreatDoor.trimSp_ok (min:=1) (max:=1) h ht (by decide) (by decide) ?_;simp only[Ln.strip] at g;cases hs:t.trimSp 1 1 false with
   |none=>
    rw[hs] at g;exact λw h=>⟨_,rfl,ag rfl (fin n t w ht g h)⟩
   |some t'=>
    rw[hs] at g;intro w h;refine⟨_,rfl,ae rfl ?_⟩;rw[aN (by omega)];exact b4 (n+1) t' w (Ln.trimSp_ok ht hs) (by omega) g h
 exact H 3 0 l _ a6 rfl g h

abbrev zLn (b:Nat):ai:=(b,cel [hY 0,hY 0,hY 0,hX (bs []),.int .u8 0] aW)
theorem qq {b d:Nat}{p:PS}{l:List OB}{M:List ai}(h:Sat σ w (p.at b::M++L))(hs:Stk p l M)(hd:p.depth=d)(y: ∀w,Sat σ w (p.at b::M++L)->R (hQ (match l[d]? with|some o=>o.bd|none=> .nilIface)) w):
 callE P jg #[kT (kE b)] R w:=by
 have E:=hs.2.1;have I:=hs.2.2;refine jn.sound ?_
 repeat (first|refine aa ?_|refine h.tk λw h=>?_|refine⟨_,h.ldA,?_⟩|refine⟨_,_,_,h.ldA,?_⟩)
 rw[E,hd]
 by_cases g:d<l.length
 ·obtain⟨sb,sp,H,rfl,O⟩:=hs.split (by intro h;subst h;simp at g);refine ag (by simpa using g) ?_
  repeat (first|refine aa ?_|refine h.tk λw h=>?_|refine⟨_,h.ldA,?_⟩|refine⟨_,_,_,h.ldA,?_⟩)
  rw[E,hd];refine⟨by omega,by omega,?_⟩;rw[H];refine aa ?_;simp only[lK0,lN0,lC0];refine⟨l[d].bd,Sat.ld h (by first|assumption|(repeat (first|exact .head _|apply List.Mem.tail))) (fe (f:=0) (by decide) (lI0 g)),?_⟩;have:=y _ h;rw[lI0 g] at this;exact this
 ·have:=y _ h;rw[lS1 (by omega)] at this;exact ae (by simpa using g) this
theorem lT {b d:Nat}{p:PS}{l:List OB}{M:List ai}(h:Sat σ w (p.at b::M++L))(hs:Stk p l M)(hd:p.depth=d)(O:d<1048577)(y: ∀w,Sat σ w (p.at b::M++L)->R (hQ (match l[d+1]? with|some o=>o.bd|none=> .nilIface)) w):
 callE P ga #[kT (kE b)] R w:=by
 have E:=hs.2.1;have I:=hs.2.2;refine iX.sound ?_
 repeat (first|refine aa ?_|refine h.tk λw h=>?_|refine⟨_,h.ldA,?_⟩|refine⟨_,_,_,h.ldA,?_⟩)
 rw[E,hd,aN (by omega)]
 by_cases g:d+1<l.length
 ·obtain⟨sb,sp,H,rfl,U⟩:=hs.split (by intro h;subst h;simp at g);refine ag (by simp;omega) ?_
  repeat (first|refine aa ?_|refine h.tk λw h=>?_|refine⟨_,h.ldA,?_⟩|refine⟨_,_,_,h.ldA,?_⟩)
  rw[E,hd,aN (by omega)];refine⟨by omega,by omega,?_⟩;rw[H];refine aa ?_;simp only[lK0,lN0,lC0];refine⟨l[d+1].bd,Sat.ld h (by first|assumption|(repeat (first|exact .head _|apply List.Mem.tail))) (fe (f:=0) (by decide) (lI0 g)),?_⟩;have:=y _ h;rw[lI0 g] at this;exact this
 ·have:=y _ h;rw[lS1 (by omega)] at this;exact ae (by simp;omega) this
theorem gC {v:Value}{t:TypeId}(ht:t≠az)(w:World):
 (Instr.typeAssert (.iface t v) bO az true).run P w= .ok (.tuple #[kT none,hV false]) w:=by
 have g:P.underlying az=some (.pointer fK):=by kernel_rfl
 exact ut (by rw[g];intro y h;cases h) g ht (i:=(P.info? az).getD default) (by kernel_rfl) (by kernel_rfl) w
theorem sX {b d:Nat}{p:PS}{ob:List OB}{o:OB}{M:List ai}{t:TypeId}{v:Value}{l:Ln}(h:Sat σ w (p.at b::M++L))(hs:Stk p ob M)(hd:p.depth=d)(E:ob[d]? =some o)(hb:o.bd= .iface t v)(ht:t≠az)(H:l.ok)(y:lX (l.strip 3 0).2.peek=false)(I: ∀w,Sat σ w (p.at b::M++L)->R (hQ (.tuple #[l.val,hV false])) w):callE P cm #[kT (kE b),l.val] R w:=by
 refine cN.sound ?_;refine Sat.bx h λb1 w h=>?_
 refine Sat.bx h λg w h=>?_
 have h:Sat σ w (zLn g::l.at b1::(p.at b::M++L)):=h
 have h:Sat σ w (p.at b::M++(zLn g::l.at b1::L)):=h.re
 refine qq h hs hd λw h=>?_
 rw[E];dsimp only;refine⟨_,rfl,none,false,w,by rw[hb];exact gC ht w,ae rfl (ae rfl ?_)⟩;have h:Sat σ w (l.at b1::zLn g::p.at b::M++L):=h.re
 refine rf h H y λw h=>⟨_,rfl,ae rfl ?_⟩
 repeat (first|refine aa ?_|refine h.tk λw h=>?_|refine⟨_,h.ldA,?_⟩|refine⟨_,_,_,h.ldA,?_⟩|refine h.stA 0 λw h=>?_|refine h.stA 1 λw h=>?_|refine h.stA 2 λw h=>?_|refine h.stA 3 λw h=>?_|refine h.stA 4 λw h=>?_|refine h.stA 5 λw h=>?_|refine h.stA 6 λw h=>?_|refine h.bx λb0 w h=>?_)
 exact I _ h.tail.tail

theorem qn {t u:TypeId}{v:Value}{y:Array (String × TypeId)}(g:P.underlying t=some (.interface y))(d:Nat)(w:World):
 (Op.equalIn (d+1) t .nilIface (.iface u v)).run P w= .ok false w:=by
 simp[Op.equalIn,run_underlying g]
theorem rk {t u g:TypeId}{v I:Value}{E:Array (String × TypeId)}(H:P.underlying t=some (.interface E))(y:u≠g)(d:Nat)(w:World):
 (Op.equalIn (d+1) t (.iface u v) (.iface g I)).run P w= .ok false w:=by
 simp[Op.equalIn,run_underlying H,y]
theorem nj {t e:TypeId}(g:P.underlying t=some (.pointer e))(q:Option Addr)(d:Nat)(w:World):
 (Op.equalIn (d+1) t (kT q) (kT none)).run P w= .ok q.isNone w:=by
 cases q<;>simp[Op.equalIn,run_underlying g]
theorem wX {t:TypeId}{a b:Value}{r:Bool}{w:World}{x g:Operand}(H:(eqGuard .eql t x g a b).run P w= .ok () w)(E:binOp .eql t a b=(do pure (hV (<-Op.equal t a b))))(h:(Op.equal t a b).run P w= .ok r w):(do eqGuard .eql t x g a b;binOp .eql t a b).run P w= .ok (hV r) w:=by
 rw[E];simp only[lW0,H,h,lJ0];rfl
theorem wQ {t u:TypeId}{v:Value}{E:Array (String × TypeId)}(g:P.underlying t=some (.interface E))(x H:Operand)(w:World):
 (do eqGuard .eql t x H .nilIface (.iface u v);binOp .eql t .nilIface (.iface u v)).run P w= .ok (hV false) w:=
 wX rfl rfl (qn g 9999 w)
theorem yu {t u g:TypeId}{v E:Value}{I:Array (String × TypeId)}(O:P.underlying t=some (.interface I))(H:u≠g)(x U:Operand)(w:World):
 (do eqGuard .eql t x U (.iface u v) (.iface g E);binOp .eql t (.iface u v) (.iface g E)).run P w= .ok (hV false) w:=
 wX rfl rfl (rk O H 9999 w)
theorem tV {t e:TypeId}(g:P.underlying t=some (.pointer e))(q:Option Addr)(x E:Operand)(w:World):
 (do eqGuard .eql t x E (kT q) (kT none);binOp .eql t (kT q) (kT none)).run P w= .ok (hV q.isNone) w:=
 wX rfl rfl (nj g q 9999 w)
theorem tr:P.underlying bO=some (.interface ((match P.underlying bO with|some (.interface ms)=>ms|_=> #[]))):=by kernel_rfl
theorem kw:P.underlying ar=some (.pointer aL):=by kernel_rfl
theorem kD {b d:Nat}{p:PS}{ob:List OB}{o:OB}{M:List ai}{t:TypeId}{v:Value}{l:Ln}(h:Sat σ w (p.at b::M++L))(hs:Stk p (ob++ [o]) M)(hd:p.depth=d)(I:ob.length=d)(hb:o.bd= .iface t v)(ht:t≠ar)(O:l.ok)(H: ∀w,Sat σ w (p.at b::M++L)->R (hQ (.tuple #[l.val,hV false])) w):callE P cg #[kT (kE b),l.val] R w:=by
 have E:=hs.2.2;rw[lA0,lE0] at E;refine bL.sound ?_;refine Sat.bx h λb1 w h=>?_
 refine Sat.bx h λg w h=>?_
 refine Sat.bx h λy w h=>?_
 repeat (first|refine aa ?_|refine h.tk λw h=>?_|refine⟨_,h.ldA,?_⟩|refine⟨_,_,_,h.ldA,?_⟩|refine h.stA 0 λw h=>?_|refine h.stA 1 λw h=>?_|refine h.stA 2 λw h=>?_|refine h.stA 3 λw h=>?_|refine h.stA 4 λw h=>?_|refine h.stA 5 λw h=>?_|refine h.stA 6 λw h=>?_|refine h.bx λb0 w h=>?_)
 have h:Sat σ _ (l.at b0::(y,cel [hY 0] bg)::zLn g::l.at b1::(p.at b::M++L)):=h
 have h:Sat σ _ (p.at b::M++(l.at b0::(y,cel [hY 0] bg)::zLn g::l.at b1::L)):=h.re
 refine lT h hs hd (by omega) λw h=>?_
 rw[lS1 (by simp;omega)];refine⟨_,rfl,?_⟩;refine qy h hs hb (λw h=>?_) (λhc=>absurd hc ht);rw[if_neg ht];refine⟨_,rfl,false,w,wQ tr _ _ w,ae rfl ?_⟩;have h:Sat σ _ (zLn g::l.at b1::(y,cel [hY 0] bg)::l.at b0::(p.at b::M++L)):=h.re
 refine ae rfl ?_
 repeat (first|refine aa ?_|refine h.tk λw h=>?_|refine⟨_,h.ldA,?_⟩|refine⟨_,_,_,h.ldA,?_⟩|refine h.stA 0 λw h=>?_|refine h.stA 1 λw h=>?_|refine h.stA 2 λw h=>?_|refine h.stA 3 λw h=>?_|refine h.stA 4 λw h=>?_|refine h.stA 5 λw h=>?_|refine h.stA 6 λw h=>?_|refine h.bx λb0 w h=>?_)
 have h:Sat σ _ (l.at g::l.at b1::(y,cel [hY 0] bg)::l.at b0::(p.at b::M++L)):=h
 exact H _ h.tail.tail.tail.tail

theorem vD {b nb:Nat}{E y:Option Addr}{l:Ln}{v:Int}{e:TypeId}(h:Sat σ w (l.at b::(nb,cel [hY v] e)::L))(O:l.ok)(g:(l.strip 3 0).2.peek≠96/\(l.strip 3 0).2.peek≠126)(U: ∀w v,Sat σ w (l.at b::(nb,cel [hY v] e)::L)->R (hQ (hV false)) w):
 callE P fH #[kT (kE b),kT E,kT y,kT (kE nb)] R w:=by
 refine bz.sound ?_
 repeat (first|refine aa ?_|refine h.tk λw h=>?_|refine⟨_,h.ldA,?_⟩|refine⟨_,_,_,h.ldA,?_⟩|refine h.stA 0 λw h=>?_|refine h.stA 1 λw h=>?_|refine h.stA 2 λw h=>?_|refine h.stA 3 λw h=>?_|refine h.stA 4 λw h=>?_|refine h.stA 5 λw h=>?_|refine h.stA 6 λw h=>?_|refine h.bx λb0 w h=>?_)
 have h:Sat σ _ (l.at b0::l.at b::(nb,cel [hY 0] e)::L):=h
 have fin: ∀(n:Nat) (t:Ln) w,t.ok->t.peek≠96/\t.peek≠126->Sat σ w (t.at b0::l.at b::(nb,cel [hY n] e)::L)->bz.k2 R (kE b) E y b0 w:=by
  intro n t w ht g h;refine lS h (by first|assumption|(repeat (first|exact .head _|apply List.Mem.tail))) ht λw h=>⟨_,rfl,?_⟩
  rw[ue (d:=126) (n:=126) rfl g.2];exact ae (ue (d:=96) rfl g.1) (ae rfl (U _ _ h.tail))
 intro X H;have I: ∀k n (t:Ln) w,t.ok->k+n=3->(t.strip k n).2.peek≠96/\(t.strip k n).2.peek≠126->Sat σ w (t.at b0::l.at b::(nb,cel [hY n] e)::L)->
  X (kE b) E y (kE nb) b0 w:=by
  intro k n t w ht W g h
  induction k generalizing n t w with
  |zero=>
   refine H _ _ _ _ _ _ ?_
   repeat (first|refine aa ?_|refine h.tk λw h=>?_|refine⟨_,h.ldA,?_⟩|refine⟨_,_,_,h.ldA,?_⟩)
   exact ae (by simp;omega) (fin n t w ht g h)
  |succ k V=>
   refine H _ _ _ _ _ _ ?_
   repeat (first|refine aa ?_|refine h.tk λw h=>?_|refine⟨_,h.ldA,?_⟩|refine⟨_,_,_,h.ldA,?_⟩)
   refine ag (by simp;omega) ?_;refine YtendaipfdnhnaaaGreatDoor.trimSp_ok (min:=1) (max:=1) h ht (by decide) (by decide) ?_;simp only[Ln.strip] at g;cases hs:t.trimSp 1 1 false with
   |none=>
    rw[hs] at g;exact λw h=>⟨_,rfl,ae rfl (fin n t w ht g h)⟩
   |some t'=>
    rw[hs] at g;intro w h;refine⟨_,rfl,ag rfl ?_⟩
    repeat (first|refine aa ?_|refine h.tk λw h=>?_|refine⟨_,h.ldA,?_⟩|refine⟨_,_,_,h.ldA,?_⟩|refine h.stA 0 λw h=>?_|refine h.stA 1 λw h=>?_|refine h.stA 2 λw h=>?_|refine h.stA 3 λw h=>?_|refine h.stA 4 λw h=>?_|refine h.stA 5 λw h=>?_|refine h.stA 6 λw h=>?_|refine h.bx λb0 w h=>?_)
    rw[aN (by omega)] at h;exact V (n+1) t' _ (Ln.trimSp_ok ht hs) (by omega) g h
 exact I 3 0 l _ O rfl g h
theorem rY {q:Option Addr}{l:Ln}(h:Sat σ w L)(I:l.ok)(E:(l.strip 3 0).2.peek≠96/\(l.strip 3 0).2.peek≠126)(O: ∀w,Sat σ w L->R (hQ (.tuple #[l.val,hV false])) w):callE P j2 #[kT q,l.val] R w:=by
 refine dP.sound ?_;refine Sat.bx h λb1 w h=>?_
 refine Sat.bx h λg w h=>?_
 refine Sat.bx h λU w h=>?_
 refine Sat.bx h λH w h=>?_
 refine Sat.bx h λy w h=>?_
 repeat (first|refine aa ?_|refine h.tk λw h=>?_|refine⟨_,h.ldA,?_⟩|refine⟨_,_,_,h.ldA,?_⟩|refine h.stA 0 λw h=>?_|refine h.stA 1 λw h=>?_|refine h.stA 2 λw h=>?_|refine h.stA 3 λw h=>?_|refine h.stA 4 λw h=>?_|refine h.stA 5 λw h=>?_|refine h.stA 6 λw h=>?_|refine h.bx λb0 w h=>?_)
 have h:Sat σ _ (l.at b0::(y,cel [hY 0] bg)::(H,cel [hX (bs [])] aq)::(U,cel [hX (bs [])] aq)::zLn g::l.at b1::L):=h
 refine vD h I E λw v h=>⟨_,rfl,?_⟩
 refine ae rfl ?_
 repeat (first|refine aa ?_|refine h.tk λw h=>?_|refine⟨_,h.ldA,?_⟩|refine⟨_,_,_,h.ldA,?_⟩|refine h.stA 0 λw h=>?_|refine h.stA 1 λw h=>?_|refine h.stA 2 λw h=>?_|refine h.stA 3 λw h=>?_|refine h.stA 4 λw h=>?_|refine h.stA 5 λw h=>?_|refine h.stA 6 λw h=>?_|refine h.bx λb0 w h=>?_)
 exact O _ h.tail.tail.tail.tail.tail.tail

theorem GC {t:TypeId}{a b:Value}{r:Bool}{w:World}{x g:Operand}(H:(eqGuard .neq t x g a b).run P w= .ok () w)(E:binOp .neq t a b=(do pure (hV (!(<-Op.equal t a b)))))(h:(Op.equal t a b).run P w= .ok r w):(do eqGuard .neq t x g a b;binOp .neq t a b).run P w= .ok (hV (!r)) w:=by
 rw[E];simp only[lW0,H,h,lJ0];rfl
theorem jd {t e:TypeId}(g:P.underlying t=some (.pointer e))(q:Option Addr)(x E:Operand)(w:World):
 (do eqGuard .neq t x E (kT q) (kT none);binOp .neq t (kT q) (kT none)).run P w= .ok (hV (!q.isNone)) w:=
 GC rfl rfl (nj g q 9999 w)
structure Opt where
 ids:Bool
 strike:Bool
 task:Bool
 auto:Bool
 http:Bool
 table:Bool
 emoji:Bool
 dot:Bool
 dash:Bool
 quote:Bool
def Opt.cells (o:Opt):List Value:= [hV o.ids,hV o.strike,hV o.task,hV o.auto,hV o.http,hV o.table,hV o.emoji,hV o.dot,hV o.dash,hV o.quote]
abbrev Opt.at (b:Nat)(o:Opt):ai:=(b,cel o.cells vB)
theorem we {b:Nat}{p:PS}{ob:List OB}{o:OB}{M:List ai}{t:TypeId}{v:Value}{l:Ln}(h:Sat σ w (p.at b::M++L))(hs:Stk p (ob++ [o]) M)(hb:o.bd= .iface t v)(hv:t=ar-> ∃q,v= kT q)(E:l.ok)(y:l.trimSp 4 4 false=none)(H: ∀w,Sat σ w (p.at b::M++L)->R (hQ (.tuple #[l.val,hV false])) w):callE P pp #[kT (kE b),l.val] R w:=by
 refine jw.sound ?_;refine Sat.bx h λb1 w h=>?_
 refine Sat.bx h λg w h=>?_
 repeat (first|refine aa ?_|refine h.tk λw h=>?_|refine⟨_,h.ldA,?_⟩|refine⟨_,_,_,h.ldA,?_⟩|refine h.stA 0 λw h=>?_|refine h.stA 1 λw h=>?_|refine h.stA 2 λw h=>?_|refine h.stA 3 λw h=>?_|refine h.stA 4 λw h=>?_|refine h.stA 5 λw h=>?_|refine h.stA 6 λw h=>?_|refine h.bx λb0 w h=>?_)
 have h:Sat σ _ (l.at b0::zLn g::l.at b1::(p.at b::M++L)):=h
 have h:Sat σ _ (p.at b::M++(l.at b0::zLn g::l.at b1::L)):=h.re
 have fin: ∀w,Sat σ w (l.at b0::(zLn g::l.at b1::(p.at b::M++L)))->jw.k1 R (kE b) b1 g b0 false w:=by
  intro w h;refine ae rfl ?_
  repeat (first|refine aa ?_|refine h.tk λw h=>?_|refine⟨_,h.ldA,?_⟩|refine⟨_,_,_,h.ldA,?_⟩|refine h.stA 0 λw h=>?_|refine h.stA 1 λw h=>?_|refine h.stA 2 λw h=>?_|refine h.stA 3 λw h=>?_|refine h.stA 4 λw h=>?_|refine h.stA 5 λw h=>?_|refine h.stA 6 λw h=>?_|refine h.bx λb0 w h=>?_)
  have h:Sat σ _ (l.at b0::l.at g::l.at b1::(p.at b::M++L)):=h
  exact H _ h.tail.tail.tail
 refine qy h hs hb (λw h=>?_) hv;have h:Sat σ _ (l.at b0::(zLn g::l.at b1::(p.at b::M++L))):=h.re
 by_cases ht:t=ar
 ·obtain⟨q,rfl⟩:=hv ht;rw[if_pos ht];refine⟨q,rfl,q.isNone,w,tV kw _ _ _ w,bJ (λI=>?_) (λ_=>fin _ h)⟩;refine YtendaipfdnhnaaaGreatDoor.trimSp_ok (min:=4) (max:=4) h E (by decide) (by decide) ?_;rw[y];exact λw h=>⟨_,rfl,ae rfl (fin _ h)⟩
 ·rw[if_neg ht];refine⟨none,rfl,_,w,tV kw _ _ _ w,ag rfl ?_⟩;refine YtendaipfdnhnaaaGreatDoor.trimSp_ok (min:=4) (max:=4) h E (by decide) (by decide) ?_;rw[y];exact λw h=>⟨_,rfl,ae rfl (fin _ h)⟩
variable {op:Opt}

def Ln.zero:Ln:=⟨0,0,0,[],0⟩
noncomputable def rowStr:Row P ak aq 1 16:=
 ⟨(P.info? aq).getD default,((P.info? aq).bind (·.zero)).getD default,by kernel_rfl,by kernel_rfl,by kernel_rfl,by kernel_rfl,by kernel_rfl,by kernel_rfl,by decide⟩
def q9 (y:Nat)(ts:List (List UInt8))(M:List ai):Prop:=
 ∃q c g,Sl 1 aq q ts.length c (ts.map λt=> hX (bs t)) g/\M=(y,cel [hT q ts.length c,kT none] aL)::g
theorem rS {g:Nat}{ts:List (List UInt8)}{s:List UInt8}{y:Nat}{M:List ai}(h:Sat σ w (zLn y::M++L))(V:q9 g ts M)(b3:ts.length<1048576)(a7: ∀w O,q9 g (ts++ [s]) O->Sat σ w (O++L)->R (hQ (.tuple #[Ln.zero.val,hV true])) w):
 dX.k5 R y (kE g) (bs s) w:=by
 obtain⟨q,c,W,a6,rfl⟩:=V
 repeat (first|refine aa ?_|refine h.tk λw h=>?_|refine⟨_,h.ldA,?_⟩|refine⟨_,_,_,h.ldA,?_⟩)
 have h:Sat σ w (W++((g,cel [hT q ts.length c,kT none] aL)::zLn y::L)):=h.re
 refine Sat.app1 rowStr a6 h (v:= hX (bs s)) rfl (by simp[Value.cells,Value.oneCell']) (by kernel_rfl) (by omega) (by omega) (by decide) λI H w E U h=>?_
 have h:Sat σ w ((g,cel [hT q ts.length c,kT none] aL)::zLn y::(E++L)):=h.re
 repeat (first|refine aa ?_|refine h.tk λw h=>?_|refine⟨_,h.ldA,?_⟩|refine⟨_,_,_,h.ldA,?_⟩|refine h.stA 0 λw h=>?_|refine h.stA 1 λw h=>?_|refine h.stA 2 λw h=>?_|refine h.stA 3 λw h=>?_|refine h.stA 4 λw h=>?_|refine h.stA 5 λw h=>?_|refine h.stA 6 λw h=>?_|refine h.bx λb0 w h=>?_)
 have h:Sat σ _ ((g,cel [hT I (ts.length+1) H,kT none] aL)::zLn y::(E++L)):=h
 refine a7 _ ((g,cel [hT I (ts.length+1) H,kT none] aL)::E) ⟨I,H,E,?_,?_⟩ (h.less [zLn y])
 ·rw[lA0,lV0];exact U
 ·rw[lA0];rfl

theorem gK {f:FuncId}{y first g:Array Value}(h:callE P f (first++y++g) R w):
 cW P (do let d <-Deferred.ofValue (.func (.func f) first g) y;invoke d.target d.args) R w:=
 h.imp (λh=>⟨f,_,w,h.1 _ _,h.2⟩) id
def newsF:List FuncId:= [jZ,fh,cg,qd,cm,lE,j2,pp]
def newsC:List Value:=newsF.map λf=> .func (.func f) #[] #[]
theorem xU (h:Sat σ w L)(y: ∀w b e,Sat σ w ((b,cel newsC e)::L)->R (hQ (hT (kE b) 8 8)) w):callE P BX #[] R w:=by
 refine B8.sound ?_;have E:P.underlying cP=some (.slice bF):=by kernel_rfl
 have g:=run_buildSlice (P:=P) w cP bF 8
  #[(0,.func (.func jZ) #[] #[]),(1,.func (.func fh) #[] #[]),(2,.func (.func cg) #[] #[]),(3,.func (.func qd) #[] #[]),
   (4,.func (.func cm) #[] #[]),(5,.func (.func lE) #[] #[]),(6,.func (.func j2) #[] #[]),(7,.func (.func pp) #[] #[])] newsC.toArray
  ((P.info? bF).getD default) (((P.info? bF).bind (·.zero)).getD default) E (by kernel_rfl) (by kernel_rfl)
  (by rw[show ((P.info? bF).getD default).size=1 by kernel_rfl];decide) (by rw[show ((P.info? bF).getD default).size=1 by kernel_rfl];decide) (by kernel_rfl)
 exact⟨_,_,_,_,g,y _ _ _ (h.alc newsC _)⟩

def AD (b:Nat)(p:PS)(M:List ai)(l:Ln)(f:FuncId):Prop:=
 ∀(σ:Out) (w:World) (L:List ai) (R:Ending->World->Prop),Sat σ w (p.at b::M++L)->(∀w,Sat σ w (p.at b::M++L)->R (hQ (.tuple #[l.val,hV false])) w)->
  callE P f #[kT (kE b),l.val] R w
def HDecl (l:Ln):Prop:=
 ∀(b:Nat) (p:PS) (ob:List OB) (o:OB) (M:List ai) (t:TypeId) (v:Value),Stk p (ob++ [o]) M->o.bd= .iface t v->t≠ar->AD b p M l lE
theorem HDecl.of_peek {l:Ln}(E:l.ok)(y:(l.lead 3 false).peek≠60):HDecl l:=
 λ_ _ _ _ _ _ _ _ _ _ _ _ _ _ h g=>nE h E y g
def LDecl (l:Ln):Prop:=
 ∀(b d:Nat) (p:PS) (ob:List OB) (o:OB) (M:List ai) (t:TypeId) (v:Value),Stk p ob M->p.depth=d->ob[d]? =some o->o.bd= .iface t v->t≠az->AD b p M l cm
theorem LDecl.of_peek {l:Ln}(H:l.ok)(g:lX (l.strip 3 0).2.peek=false):LDecl l:=
 λ_ _ _ _ _ _ _ _ hs hd E hb ht _ _ _ _ h y=>sX h hs hd E hb ht H g y
structure Ln.plain (l:Ln):Prop where
 ok:l.ok
 blank:l.blank=false
 quote:l.quote=none
 heading:l.heading=none
 hr:l.isHR=false
 bullet:LDecl l
 html:HDecl l
 fence:(l.strip 3 0).2.peek≠96/\(l.strip 3 0).2.peek≠126
 pre:l.trimSp 4 4 false=none
theorem rW {i:Nat}{f:FuncId}(h:newsF[i]? =some f):newsC[i]? =some (.func (.func f) #[] #[]):=by
 rw[newsC,lF2,h];rfl
def m9 (R:EP)(E H:BA)(w:World):Prop:=callE P lA #[hX E,hX H] (λe y=>∃g,e= hQ (hY g)/\R (hQ (hV (decide (g >= 0)))) y) w
theorem m9.sound {R x0 x1 w}(h:m9 R x0 x1 w):callE P iO #[hX x0,hX x1] R w:=
 cC Tryz.func76 Tryz.call76 h
namespace kl
def bl1 (R:EP)(Xa:BA->BA->Int->WP)(E y:BA)(g:Int)(w:World):Prop:=br (decide ((i64.wrap (g+(y.size:Int)))<=(E.size:Int))) (0<=g/\g<=(i64.wrap (g+(y.size:Int)))/\(i64.wrap (g+(y.size:Int)))<=(E.size:Int)/\br ((E.extract (Int.toNat g) (Int.toNat (i64.wrap (g+(y.size:Int))))).toList==y.toList) (R (hQ (hY g)) w) (Xa E y (i64.wrap (g+1)) w)) (R (hQ (hY (-1))) w)
def l1 (R:EP)(y E:BA)(g:Int)(w:World):Prop:=∀X:BA->BA->Int->WP,(∀y E g w,bl1 R X y E g w->X y E g w)->X y E g w
end kl
def kl (R:EP)(g y:BA)(w:World):Prop:=kl.l1 R g y 0 w
theorem kl.sound {R x0 x1 w}(h:kl R x0 x1 w):callE P lA #[hX x0,hX x1] R w:=
 aH [(21,.lp [1,21,107] (kl.bl1 R) λXa=> [])] Tryz.func79 Tryz.call79 h

def kr (sub l:List UInt8):Nat->Nat->Option Nat
 |0,_=>none
 |k+1,i=>if i+sub.length<=l.length then (if (l.drop i).take sub.length=sub then some i else kr sub l k (i+1)) else none
def idx (l sub:List UInt8):Option Nat:=kr sub l (l.length+1) 0
def kM (l sub:List UInt8):Int:=match idx l sub with
 |some i=>(i:Int)
 |none=> -1
theorem jW {l sub:List UInt8}(a6:l.length<4611686018427387904)(hs:sub.length<4611686018427387904)(y:R (hQ (hY (kM l sub))) w):callE P lA #[hX (bs l),hX (bs sub)] R w:=by
 refine kl.sound ?_;intro X I;have U: ∀(k i:Nat),l.length<k+i->i<=l.length+1->(match kr sub l k i with|some i=>(i:Int)|none=> -1)=kM l sub->X (bs l) (bs sub) i w:=by
  intro k
  induction k with
  |zero=>
   intro i V hi g;have E:i64.wrap ((i:Int)+(sub.length:Int))=((i+sub.length:Nat):Int):=by rw[i64_in _ (by omega)];omega
   refine I _ _ _ _ (ae (by rw[aI,aI,E];simp;omega) ?_);rw[<-g] at y;exact y
  |succ k W=>
   intro i V hi g;have E:i64.wrap ((i:Int)+(sub.length:Int))=((i+sub.length:Nat):Int):=by rw[i64_in _ (by omega)];omega
   simp only[kr] at g
   by_cases O:i+sub.length<=l.length
   ·rw[if_pos O] at g;refine I _ _ _ _ (ag (by rw[aI,aI,E];simp;omega) ?_);rw[aI,aI,E];refine⟨by omega,by omega,by omega,?_⟩;rw[lC0,lC0,bV,cX,cX];have ht:(l.take (i+sub.length)).drop i=(l.drop i).take sub.length:=by rw[List.drop_take];congr 1;omega
    rw[ht]
    by_cases H:(l.drop i).take sub.length=sub
    ·rw[if_pos H] at g;rw[<-g] at y;exact ag (by simpa using H) y
    ·rw[if_neg H] at g;refine ae (by simpa using H) ?_;rw[aN (by omega)];exact W (i+1) (by omega) (by omega) g
   ·rw[if_neg O] at g;refine I _ _ _ _ (ae (by rw[aI,aI,E];simp;omega) ?_);rw[<-g] at y;exact y
 exact U (l.length+1) 0 (by omega) (by omega) rfl
theorem jO {l sub:List UInt8}(y:l.length<4611686018427387904)(hs:sub.length<4611686018427387904)(g:R (hQ (hV (idx l sub).isSome)) w):callE P iO #[hX (bs l),hX (bs sub)] R w:=by
 refine m9.sound ?_;refine jW y hs ⟨_,rfl,?_⟩;have:decide (kM l sub >= 0)=(idx l sub).isSome:=by
  unfold kM;cases idx l sub with
  |none=>rfl
  |some i=>simp
 rw[this];exact g
theorem qP {c:UInt8}{l:List UInt8}(hc:c ∉ l): ∀k i,kr [c] l k i=none
 |0,i=>rfl
 |k+1,i=>by
  simp only[kr];split
  ·rename_i h;simp only[lE0] at h;rw[if_neg]
   ·exact qP hc k (i+1)
   ·intro y;have E:c∈(l.drop i).take 1:=by
     have g:(l.drop i).take 1= [c]:=y;rw[g];exact lR0.2 rfl
    exact hc (lV4 (lW4 E))
  ·rfl
theorem kK {c:UInt8}{l:List UInt8}(hc:c ∉ l):idx l [c]=none:=qP hc _ _

def mO (P:Program)(t:TypeId)(y:String)(f:FuncId):Bool:=
 match P.info? t,P.underlying t with
 |some i,some (.pointer _)=>match i.methods.find? (·.name==y) with
  |some m=>m.path.isEmpty && (match m.func with|some (g,true)=>Nat.beq g f|_=>false)
  |none=>false
 |_,_=>false
theorem Bt {P:Program}{t:TypeId}{y:String}{f:FuncId}(h:mO P t y f=true)(q:Option Addr)(E:Nat)(w:World):
 (Go.method (E+1) t (kT q) y).run P w= .ok (f,kT q) w:=by
 unfold mO at h;split at h
 ·rename_i i e hi U;split at h
  ·rename_i m V;simp only[lK1] at h;obtain⟨O,h⟩:=h;split at h
   ·rename_i g W;have I:=lI1 h;subst I;have H:m.path= #[]:=by simpa using O
    simp[Go.method,typeInfo,hi,V,H,Go.follow,W,Go.receiverAt,run_underlying U,Go.Place.get]
   ·cases h
  ·cases h
 ·cases h
theorem tY (P:Program): ∃n,P.types.size+Made.depth=n+1:=by
 have h:0<Made.depth:=by decide
 exact⟨P.types.size+(Made.depth - 1),by omega⟩
theorem bm {t:TypeId}{y:String}{f:FuncId}{q:Option Addr}{g:Array Value}(E:mO P t y f=true)(h:callE P f (#[kT q]++g) R w):
 cW P (callMethod (.iface t (kT q)) y g) R w:=by
 obtain⟨n,H⟩:=tY P;have hr:=Bt E q n w;have e:(callMethod (.iface t (kT q)) y g).run P w=(callFunc f (#[kT q]++g)).run P w:=by
  simp only[callMethod,lW0,run_program,lJ0,H,hr]
 unfold cW;rw[e];exact h.imp (λh=>⟨f,_,w,h.1 _ _,h.2⟩) id
theorem Sat.same {H:Out}{w g:World}{L L':List ai}(h:Sat σ w L)(E:Sat H g L'){b i:Nat}{o:Obj}(I:(b,o)∈L)(y:(b,o)∈L')(n:Nat):SameC w g (hZ b i) n:=by
 intro k _;rw[lK0];unfold World.cell?;rw[h.at_ _ I,E.at_ _ y]
theorem nG:mO P ah "pub-paratext/pub/rscmarkdown.pos" jI=true:=by kernel_rfl
theorem kb:mO P ah "pub-paratext/pub/rscmarkdown.blocks" iw=true:=by kernel_rfl
theorem wj:mO P ah "pub-paratext/pub/rscmarkdown.newText" eX=true:=by kernel_rfl
theorem sZ:mO P ar "pub-paratext/pub/rscmarkdown.build" iy=true:=by kernel_rfl
theorem sY:mO P ie "pub-paratext/pub/rscmarkdown.build" iv=true:=by kernel_rfl

def kX (c:UInt8):Bool:=c==32||c==9||c==10
def oF (l:List UInt8)(i:Nat):Nat:=l.length - ((l.drop i).dropWhile kX).length
theorem rN {l:List UInt8}{i:Nat}(W:l.length<4611686018427387904)(hi:i<=l.length)(O:R (hQ (hY (oF l i))) w):callE P kg #[hX (bs l),hY i] R w:=by
 refine iG.sound ?_;intro X E;refine C9 (l:=l) (X:=λi=>X (bs l) (i:Int) w) (p:=kX) (λi hi H U=>E _ _ _ ?_) i hi (λj a6 V I=>E _ _ _ ?_)
 ·refine⟨λ_=>⟨by omega,by simp;omega⟩,λ_=>⟨by omega,by simp;omega⟩,λ_=>⟨by omega,by simp;omega⟩,ag ?_ ?_⟩
  ·rw[da hi 32 32 rfl,da hi 9 9 rfl,da hi 10 10 rfl]
   simpa[hi,kX] using H
  ·rw[aN (by omega)];exact U
 ·have y: ∀ {b:Bool},(decide ((j:Int)<((bs l).size:Int)) && b)=true->j<l.length:=by
   intro b h;simp only[lK1,decide_eq_true_eq,aI] at h;omega
  refine⟨λh=>⟨by omega,by simpa using h⟩,λh=>⟨by omega,by have:=y h;simp;omega⟩,λh=>⟨by omega,by have:=y h;simp;omega⟩,ae ?_ ?_⟩
  ·by_cases g:j<l.length
   ·rw[da g 32 32 rfl,da g 9 9 rfl,da g 10 10 rfl]
    simpa[g,kX] using V g
   ·simp[g]
  ·have:oF l i=j:=by
    rw[oF,<-I,lL1];omega
   rw[<-this];exact O
theorem xA {t xt:TypeId}{v:Value}(g: ∀y,P.underlying t≠some (.interface y)){d:TypeDesc}(hd:P.underlying t=some d)(w:World):
 (Instr.typeAssert (.iface t v) xt t false).run P w= .ok v w:=by
 cases d<;>first|(exact absurd hd (g _))|simp[Instr.typeAssert,run_underlying hd]
theorem Ee:P.underlying ah=some (.pointer gy):=by kernel_rfl
theorem F7 (q:Option Addr)(w:World):(Instr.typeAssert (.iface ah (kT q)) lM ah false).run P w= .ok (kT q) w:=
 xA (by rw[Ee];intro g h;cases h) Ee w
theorem pd {q:Option Addr}{l:List UInt8}(U:l.length<4611686018427387904)(hb:(l.dropWhile kX).head? ≠some 91)(V:R (hQ (.tuple #[hY 0,hV false])) w):
 callE P gG #[.iface ah (kT q),hX (bs l)] R w:=by
 refine jo.sound ?_;refine rN (i:=0) U (lC2 _) ⟨_,rfl,q,w,F7 q w,?_⟩;generalize W:oF l 0=j;have a6:(l.dropWhile kX).length<=l.length:=(lO2 kX).length_le;have a7:j+(l.dropWhile kX).length=l.length:=by rw[<-W,oF,lL2];omega
 have E:l.drop j=l.dropWhile kX:=by
  obtain⟨pre,y⟩:=lT4 kX (l:=l);have H:pre.length=j:=by have:=congrArg List.length y;simp at this;omega
  exact(congrArg (List.drop j) y).symm.trans (by rw[<-H,lB4])
 refine jK.sound ?_;have O:(!(decide ((j:Int) >= ((bs l).size:Int))))=true->j<l.length:=by
  intro h;simp at h;exact h
 refine⟨λh=>⟨by omega,by have:=O h;simp;omega⟩,ag ?_ ⟨_,_,_,rfl,?_⟩⟩
 ·by_cases g:j<l.length
  ·have:l[j]≠91:=by
    intro I;apply hb;rw[<-E,lG1 g,I];rfl
   rw[bne,da g 91 91 rfl];simp[this]
  ·simp;omega
 ·refine⟨λh=>by simp at h,ag rfl V⟩
def D7 (l:List UInt8):Prop:= ∀(R:Ending->World->Prop) (w:World) (q:Option Addr),R (hQ (.tuple #[hY 0,hV false])) w->callE P gG #[.iface ah (kT q),hX (bs l)] R w
theorem Dq {l:List UInt8}(y:l.length<4611686018427387904)(hb:(l.dropWhile kX).head? ≠some 91):D7 l:=λ_ _ _ g=>pd y hb g
theorem Dx {q:Option Addr}{c:Nat}{s sep:List UInt8}{g:List ai}(h:Sat σ w (g++L))(E:Sl 1 aq q 1 c [hX (bs s)] g)(y: ∀w,Sat σ w (g++L)->R (hQ (hX (bs s))) w):callE P fO #[hT q 1 c,hX (bs sep)] R w:=by
 refine bW.sound ?_;obtain⟨_,_,hz|⟨H,sp,rfl,rfl,_⟩⟩:=E
 ·omega
 ·refine ae rfl (ag rfl ⟨by decide,by decide,aa ?_⟩);exact⟨_,Sat.ld h (.head _) rfl,y _ h⟩

theorem tH {b:Nat}{p:PS}{l:List OB}{o:OB}{M:List ai}(h:Sat σ w (p.at b::M++L))(hs:Stk p (l++ [o]) M)(H: ∀w,Sat σ w (p.at b::M++L)->R (hQ (.agg #[hY o.s,hY o.e])) w):callE P jI #[kT (kE b)] R w:=by
 obtain⟨sb,sp,E,rfl,I⟩:=hs.split (by simp);have g:=hs.2.1;have y:=hs.2.2;rw[lA0,lE0] at g y;refine jJ.sound ?_;refine Sat.bx h λb1 w h=>?_
 repeat (first|refine aa ?_|refine h.tk λw h=>?_|refine⟨_,h.ldA,?_⟩|refine⟨_,_,_,h.ldA,?_⟩)
 rw[g,ke (by omega)];refine⟨by omega,by omega,?_⟩;rw[E];refine aa ?_;simp only[lK0,lN0,lC0,lN1];refine⟨_,Sat.ld h (by first|assumption|(repeat (first|exact .head _|apply List.Mem.tail))) (fe (f:=2) (by decide) (ig o)),?_⟩;refine⟨_,Sat.ld h (by first|assumption|(repeat (first|exact .head _|apply List.Mem.tail))) (fe (f:=3) (by decide) (ig o)),?_⟩
 repeat (first|refine aa ?_|refine h.tk λw h=>?_|refine⟨_,h.ldA,?_⟩|refine⟨_,_,_,h.ldA,?_⟩|refine h.stA 0 λw h=>?_|refine h.stA 1 λw h=>?_|refine h.stA 2 λw h=>?_|refine h.stA 3 λw h=>?_|refine h.stA 4 λw h=>?_|refine h.stA 5 λw h=>?_|refine h.stA 6 λw h=>?_|refine h.bx λb0 w h=>?_)
 exact H _ h.tail
noncomputable def E5:Row P j3 dU 1 8:=
 ⟨(P.info? dU).getD default,((P.info? dU).bind (·.zero)).getD default,by kernel_rfl,by kernel_rfl,by kernel_rfl,by kernel_rfl,by kernel_rfl,by kernel_rfl,by decide⟩
def Txts (p:PS)(ts:List Nat)(M:List ai):Prop:=Sl 1 dU p.tq p.tn p.tc (ts.map λt=> kT (kE t)) M/\p.tn=ts.length/\ts.length<1048576
def fp (t:Nat)(s e:Nat)(q:Option Addr)(n c:Nat)(raw:List UInt8):ai:=(t,cel [hY s,hY e,hT q n c,hX (bs raw)] AL)
theorem tK {b s e:Nat}{p:PS}{ts:List Nat}{y:List ai}{raw:List UInt8}(h:Sat σ w (p.at b::y++L))(ht:Txts p ts y)(V:ts.length<1048575)(I: ∀w p' g t,p'= {p with tq:=p'.tq,tn:=ts.length+1,tc:=p'.tc}->Txts p' (ts++ [t]) g->Sat σ w (p'.at b::g++(fp t s e none 0 0 raw::L))->
  R (hQ (kT (kE t))) w):
 callE P eX #[kT (kE b),.agg #[hY s,hY e],hX (bs raw)] R w:=by
 have O:=ht.2.1;refine gX.sound ?_;refine Sat.bx h λb1 w h=>?_
 repeat (first|refine aa ?_|refine h.tk λw h=>?_|refine⟨_,h.ldA,?_⟩|refine⟨_,_,_,h.ldA,?_⟩)
 refine Sat.bx h λt w h=>?_
 repeat (first|refine aa ?_|refine h.tk λw h=>?_|refine⟨_,h.ldA,?_⟩|refine⟨_,_,_,h.ldA,?_⟩)
 have h:Sat σ w (fp t s e none 0 0 raw::(b1,cel [hY s,hY e] aF)::(p.at b::y++L)):=h
 have h:Sat σ w (y++(p.at b::fp t s e none 0 0 raw::L)):=h.less [(b1,cel [hY s,hY e] aF)]
 refine Sat.app1 E5 ht.1 h (v:= kT (kE t)) rfl (by simp[Value.cells,Value.oneCell']) (by kernel_rfl) (by omega) (by omega) (by decide) λU H w g E h=>?_
 have h:Sat σ w (p.at b::g++(fp t s e none 0 0 raw::L)):=h.re
 rw[O] at E⊢
 let p':PS:= {p with tq:=U,tn:=ts.length+1,tc:=H}
 repeat (first|refine aa ?_|refine h.tk λw h=>?_|refine⟨_,h.ldA,?_⟩|refine⟨_,_,_,h.ldA,?_⟩|refine h.stA 0 λw h=>?_|refine h.stA 1 λw h=>?_|refine h.stA 2 λw h=>?_|refine h.stA 3 λw h=>?_|refine h.stA 4 λw h=>?_|refine h.stA 5 λw h=>?_|refine h.stA 6 λw h=>?_|refine h.bx λb0 w h=>?_)
 refine I _ p' g t rfl ⟨?_,by simp[p'],by simp;omega⟩ h;rw[lV0];exact E

theorem vy:P.underlying fc=some (.pointer rG):=by kernel_rfl
def kV (nb s e t:Nat):ai:=(nb,cel [hY s,hY e,kT (kE t)] mD)
theorem Stk.of {p p':PS}{l:List OB}{M:List ai}(h:Stk p l M)(E:p'.stq=p.stq)(y:p'.stn=p.stn)(g:p'.stc=p.stc):Stk p' l M:=by
 unfold Stk at*;rw[E,y,g];exact h
theorem Txts.of {p p':PS}{l:List Nat}{M:List ai}(h:Txts p l M)(E:p'.tq=p.tq)(y:p'.tn=p.tn)(g:p'.tc=p.tc):Txts p' l M:=by
 unfold Txts at*;rw[E,y,g];exact h

theorem qo {t u:TypeId}{v:Value}{y:Array (String × TypeId)}(g:P.underlying t=some (.interface y))(d:Nat)(w:World):
 (Op.equalIn (d+1) t (.iface u v) .nilIface).run P w= .ok false w:=by
 simp[Op.equalIn,run_underlying g]
theorem nk {t u:TypeId}{v:Value}{E:Array (String × TypeId)}(g:P.underlying t=some (.interface E))(x H:Operand)(w:World):
 (do eqGuard .eql t x H (.iface u v) .nilIface;binOp .eql t (.iface u v) .nilIface).run P w= .ok (hV false) w:=
 wX rfl rfl (qo g 9999 w)
theorem jY {t:TypeId}{v:Value}(ht:t≠dk)(w:World):
 (Instr.typeAssert (.iface t v) aO dk true).run P w= .ok (.tuple #[kT none,hV false]) w:=by
 have g:P.underlying dk=some (.pointer uj):=by kernel_rfl
 exact ut (by rw[g];intro y h;cases h) g ht (i:=(P.info? dk).getD default) (by kernel_rfl) (by kernel_rfl) w
theorem uw {P:Program}{t e:TypeId}{i:TypeInfo}(ht:P.underlying t=some (.slice e))(hi:P.info? e=some i)(b n c m:Nat)(E:m<=n)(hc:n<=c)(w:World):
 (Instr.sliceAt t (hT (kE b) n c) none (some (hY m)) none).run P w= .ok (hT (kE b) m c) w:=by
 have y: ¬ ((m:Int)<0):=by omega
 have g: ¬ ((c:Int)<(m:Int)):=by omega
 simp[Instr.sliceAt,Instr.slice,Instr.sliceBounds,run_underlying ht,sizeOf,typeInfo,hi,run_sliceBound w .i64 (m:Int) c .sliceAcap (by omega) (by omega),lK0]

noncomputable def rowBlock:Row P fM aO 1 16:=
 ⟨(P.info? aO).getD default,((P.info? aO).bind (·.zero)).getD default,by kernel_rfl,by kernel_rfl,by kernel_rfl,by kernel_rfl,by kernel_rfl,by kernel_rfl,by decide⟩
theorem pC {b:Nat}{p:PS}{ob:List OB}{par o:OB}{M IM:List ai}{inner:List Value}{t:TypeId}{v:Value}(Post:PS->List ai->TypeId->Option Addr->Prop)(h:Sat σ w (p.at b::M++(IM++L)))(hs:Stk p (ob++ [par]++ [o]) M)(d0:o.bd= .iface t v)(c8:Sl 1 aO par.q par.n par.c inner IM)(d2:par.n<1000000)(hb: ∀(a6:Ending->World->Prop) w,Sat σ w (p.at b::M++(IM++L))->
  (∀w g y E q,g.stq=p.stq->g.stn=p.stn->g.stc=p.stc->E≠dk->Post g y E q->Sat σ w (g.at b::M++(IM++y))->a6 (hQ (.iface E (kT q))) w)->
  cW P (callMethod o.bd "pub-paratext/pub/rscmarkdown.build" #[.iface ah (kT (kE b))]) a6 w)
 (c5: ∀w p2 b4 O g y E q I H,Post g y E q->p2= {g with stn:=ob.length+1}->Stk p2 (ob++ [{par with q:=I,n:=par.n+1,c:=H}]) b4->
  Sl 1 aO I (par.n+1) H (inner++ [.iface E (kT q)]) O->Sat σ w (p2.at b::b4++(O++y))->R (hQ (.iface E (kT q))) w):
 callE P aJ #[kT (kE b)] R w:=by
 have c1:=hs.2.2;have U:=hs.2.1;obtain⟨sb,sp,b3,rfl,b8⟩:=hs.split (by simp);simp only[lA0,lE0] at U c1;refine aK.sound ?_;refine h.tk λw h=>?_
 refine aa (aa ?_);refine⟨_,_,_,h.ldA,?_⟩;refine⟨_,_,_,h.ldA,?_⟩;rw[U,ke (by omega)];refine⟨by omega,by omega,?_⟩;rw[b3];refine aa ?_;simp only[lK0,lN0,lC0];have a7:((ob++ [par])++ [o])[ob.length+1]? =some o:=by simp
 refine⟨o.bd,Sat.ld h (.tail _ (.head _)) (fe (f:=0) (by decide) a7),false,w,by rw[d0];exact nk tr _ _ w,ae rfl ?_⟩;refine aa ?_;refine⟨o.bd,Sat.ld h (.tail _ (.head _)) (fe (f:=0) (by decide) a7),?_⟩;refine hb _ w h λw g y E q c9 d1 W b7 b5 h=>⟨_,rfl,none,false,w,jY b7 w,ae rfl ?_⟩
 have V:g.stq=kE sb:=by rw[c9,b3]
 have c2:g.stn=ob.length+1+1:=by rw[d1,U]
 refine h.tk λw h=>?_
 refine aa (aa ?_);refine⟨_,_,_,h.ldA,?_⟩;refine⟨_,_,_,h.ldA,?_⟩;rw[c2,ke (by omega),V];have b6:ob.length+1+1<=g.stc:=by have:=hs.1.2.1;rw[U] at this;rw[W];exact this
 refine⟨_,_,_,λw=>uw rowOB.ht rowOB.hi sb (ob.length+1+1) g.stc (ob.length+1) (by omega) b6 w,?_⟩;refine aa ?_;refine h.stA 0 λw h=>?_
 let p2:PS:= {g with stq:=kE sb,stn:=ob.length+1}
 have c4:p2= {g with stn:=ob.length+1}:=by simp only[p2,<-V]
 have h:Sat σ w (p2.at b:: [(sb,cel (aP (ob++ [par])++(o.cells++sp)) ay)]++(IM++y)):=by
  rw[iN,lD0] at h;exact h
 refine aa ?_;refine⟨_,_,_,h.ldA,?_⟩;refine ag (by simp[p2]) ?_;refine h.tk λw h=>?_
 refine aa (aa ?_);refine⟨_,_,_,h.ldA,?_⟩;refine⟨_,_,_,h.ldA,?_⟩;rw[show p2.stn=ob.length+1 from rfl,ke (by omega),show p2.stq=kE sb from rfl];refine⟨by omega,by omega,aa ?_⟩;simp only[lK0,lN0,lC0,lN1];refine⟨_,_,_,Sat.ld h (.tail _ (.head _)) (fe (f:=1) (by decide) (ig par)),?_⟩;have h:Sat σ _ (IM++(p2.at b::(sb,cel (aP (ob++ [par])++(o.cells++sp)) ay)::y)):=h.re
 refine Sat.app1 rowBlock c8 h (v:= .iface E (kT q)) rfl (by simp[Value.cells,Value.oneCell']) (by kernel_rfl) (by omega) (by omega) (by decide) λI H w O b9 h=>?_
 have h:Sat σ _ (p2.at b::(sb,cel (aP (ob++ [par])++(o.cells++sp)) ay)::(O++y)):=h.re
 refine Sat.st h (k:=1) rfl (by rw[lA0,aR,lA0,lE0];omega) trivial rfl λw h=>?_
 have e:=kS (l:=ob) (sp:=o.cells++sp) (o:=par) (o':= {par with q:=I,n:=par.n+1,c:=H}) (f:=1) (v:= hT I (par.n+1) H) (by decide) rfl
 have h:Sat σ w (p2.at b::(sb,cel (aP (ob++ [{par with q:=I,n:=par.n+1,c:=H}])++(o.cells++sp)) ay)::(O++y)):=by
  rw[<-e];exact h
 have c3:Stk p2 (ob++ [{par with q:=I,n:=par.n+1,c:=H}]) [(sb,cel (aP (ob++ [{par with q:=I,n:=par.n+1,c:=H}])++(o.cells++sp)) ay)]:=by
  refine Stk.mk' rfl ?_ (by simp[p2]) (by simp;omega)
  show _=g.stc*4
  rw[W,<-b8];simp only[lA0,aR,lE0,OB.cells,lF0,lM1];omega
 refine c5 w p2 _ O g y E q I H b5 c4 c3 b9 h

def AA (db s e:Nat)(q:Option Addr)(n c:Nat)(links:Option Nat):ai:=(db,cel [hY s,hY e,hT q n c,.map links] oz)
theorem vP {b:Nat}{y:Option Addr}{p:PS}{ob:List OB}{o:OB}{M:List ai}(h:Sat σ w (p.at b::M++L))(hs:Stk p (ob++ [o]) M)(g: ∀w db,Sat σ w (p.at b::M++(AA db o.s o.e o.q o.n o.c p.links::L))->R (hQ (.iface cY (kT (kE db)))) w):
 callE P iv #[kT y,.iface ah (kT (kE b))] R w:=by
 refine iH.sound ?_;refine h.tk λw h=>?_
 refine⟨_,F7 _,aa ?_⟩;refine⟨_,h.ldA,?_⟩;have E:=h;refine bm nG ?_;refine tH h hs λw h=>⟨_,_,rfl,E.same h (.head _) (.head _) 1,?_⟩
 have H:=h;refine bm kb ?_;refine nu h hs λw h=>⟨_,_,_,rfl,H.same h (.head _) (.head _) 1,?_⟩
 refine Sat.bx h λdb w h=>?_
 have h:Sat σ w (AA db o.s o.e o.q o.n o.c p.links::(p.at b::M++L)):=h
 exact g w db (h.re)
theorem F8 (q:Option Addr)(w:World):(Instr.typeAssert (.iface cY (kT q)) aO cY false).run P w= .ok (kT q) w:=by
 have g:P.underlying cY=some (.pointer oz):=by kernel_rfl
 exact xA (by rw[g];intro y h;cases h) g w
theorem wU {b O:Nat}{p:PS}{o:OB}{M:List ai}(h:Sat σ w (p.at b::M++L))(hs:Stk p [o] M)(E:o.bd= .iface ie (kT (kE O)))(U: ∀w db,Sat σ w ({p with stn:=0,root:=kE db}.at b::M++(AA db o.s o.e o.q o.n o.c p.links::L))->R (hQ (.iface cY (kT (kE db)))) w):
 callE P aJ #[kT (kE b)] R w:=by
 have g:=hs.2.1;have I:Stk p ([]++ [o]) M:=hs;obtain⟨sb,sp,y,rfl,V⟩:=hs.split (by simp);simp only[lE0] at g;refine aK.sound ?_;refine h.tk λw h=>?_
 refine aa (aa ?_);refine⟨_,_,_,h.ldA,?_⟩;refine⟨_,_,_,h.ldA,?_⟩;rw[g,show i64.wrap (((1:Nat):Int) - 1)=((0:Nat):Int) from rfl];refine⟨by omega,by omega,?_⟩;rw[y];refine aa ?_;simp only[lK0,lN0,lC0,lP6];have W:(([]:List OB)++ [o])[0]? =some o:=rfl
 refine⟨o.bd,Sat.ld h (.tail _ (.head _)) rfl,false,w,by rw[E];exact nk tr _ _ w,ae rfl ?_⟩;refine aa ?_;refine⟨o.bd,Sat.ld h (.tail _ (.head _)) rfl,?_⟩;rw[E];refine bm sY ?_;refine vP (ob:= []) h I λw db h=>⟨_,rfl,none,false,w,jY (by decide) w,ae rfl ?_⟩
 refine h.tk λw h=>?_
 refine aa (aa ?_);refine⟨_,_,_,h.ldA,?_⟩;refine⟨_,_,_,h.ldA,?_⟩;have H:1<=p.stc:=by have:=hs.1.2.1;rw[g] at this;exact this
 rw[g,show i64.wrap (((1:Nat):Int) - 1)=((0:Nat):Int) from rfl,y];refine⟨_,_,_,λw=>uw rowOB.ht rowOB.hi sb 1 p.stc 0 (by omega) H w,?_⟩;refine aa ?_;refine h.stA 0 λw h=>?_
 refine aa ?_;refine⟨_,_,_,h.ldA,?_⟩;refine ae rfl ?_;refine⟨_,_,F8 _ _,aa ?_⟩;refine h.stA 0 λw h=>?_
 refine U _ db ?_;have e:({p with stn:=0,root:=kE db}:PS)= {p with stq:=kE sb,stn:=0,root:=kE db}:=by rw[<-y]
 rw[e];exact h

noncomputable def rowInl:Row P ap aC 1 16:=
 ⟨(P.info? aC).getD default,((P.info? aC).bind (·.zero)).getD default,by kernel_rfl,by kernel_rfl,by kernel_rfl,by kernel_rfl,by kernel_rfl,by kernel_rfl,by decide⟩
def Inls (p:PS)(vs:List Value)(M:List ai):Prop:=Sl 1 aC p.lq p.ln p.lc vs M/\vs.length<4294967296
def qF (b:Nat)(s:List UInt8):ai:=(b,cel [hX (bs s)] nA)
theorem vL {b:Nat}{p:PS}{i:Int}(h:Sat σ w (p.at b::L))(g: ∀w,Sat σ w ({p with em:=i}.at b::L)->R (hQ (.tuple #[])) w):
 callE P gF #[kT (kE b),hY i] R w:=by
 refine ji.sound ?_;refine aa ?_;refine h.stA 0 λw h=>?_
 exact g _ h
theorem Cl {b:Nat}{p:PS}{i:Int}(h:Sat σ w (p.at b::L))(hi:i<=p.em)(g: ∀w,Sat σ w (p.at b::L)->R (hQ (.tuple #[])) w):
 callE P dm #[kT (kE b),hY i] R w:=by
 refine gJ.sound ?_;refine aa ?_;refine⟨_,h.ldA,?_⟩;exact ae (by simpa using hi) (g _ h)
theorem Ck {b i e:Nat}{p:PS}{vs:List Value}{M:List ai}(h:Sat σ w (p.at b::M++L))(hv:Inls p vs M)(H:p.em=e)(hi:e<i)(b3:i<=p.s.length)(b4:vs.length<4294967295)(W: ∀w p' g nb,p'= {p with em:=i,lq:=p'.lq,ln:=vs.length+1,lc:=p'.lc}->Inls p' (vs++ [.iface bH (kT (kE nb))]) g->
  Sat σ w (p'.at b::g++(qF nb ((p.s.take i).drop e)::L))->R (hQ (.tuple #[])) w):
 callE P dm #[kT (kE b),hY i] R w:=by
 have I:p.ln=vs.length:=by have:=hv.1.1;omega
 refine gJ.sound ?_;refine aa ?_;refine⟨_,h.ldA,?_⟩;rw[H];refine ag (by simpa using hi) ?_;refine h.tk λw h=>?_
 refine aa (aa (aa ?_));refine⟨_,_,_,h.ldA,?_⟩;refine⟨_,h.ldA,?_⟩;refine⟨_,h.ldA,?_⟩;rw[H];refine⟨by omega,by omega,by simp;omega,?_⟩;rw[lC0,lC0,bV];have y:=h;refine Sat.bx h λnb w h=>?_
 refine⟨y.same h (.head _) (.tail _ (.head _)) 1,?_⟩;have h:Sat σ w (M++(p.at b::qF nb ((p.s.take i).drop e)::L)):=Sat.re (L:=qF nb ((p.s.take i).drop e)::(p.at b::M++L)) h
 have a7:=y;refine Sat.app1S rowInl hv.1 h (v:= .iface bH (kT (kE nb))) rfl (by simp[Value.cells,Value.oneCell']) (by kernel_rfl) (by omega) (by omega) (by decide)
  (C:=λE=>SameC _ E _ 1) (λE X V=>Sat.same h V (b:=b) (o:=cel p.cells gy) (by simp) (by simp) 1) λa6 U w g O h=>?_
 have h:Sat σ w (p.at b::g++(qF nb ((p.s.take i).drop e)::L)):=h.re
 let p':PS:= {p with em:=i,lq:=a6,ln:=p.ln+1,lc:=U}
 refine aa ?_;refine h.stA 0 λw h=>?_
 refine aa ?_;refine h.stA 0 λw h=>?_
 refine W _ p' g nb (by simp[p',I]) ⟨O,by simp;omega⟩ h
def fk (R:EP)(a6:OA)(w:World):Prop:=tk w λg=>aA a6 λa2=>aA a6 λa3=>∃E O H,g.cell? (a2.add 1)=some (hT E O H)/\∃a7 I b3,g.cell? (a3.add 1)=some (hT a7 I b3)/\∃V y,(Builtin.unsafeSliceData_ #[bK] pP #[hT E O H]).run P g= .ok (kT V) y/\SameC g y (a3.add 1) 1/\∃W U,(Builtin.unsafeString_ #[pP,bg] aq #[kT V,hY (I:Int)]).run P y= .ok (hX W) U/\R (hQ (hX W)) U
theorem fk.sound {R x0 w}(h:fk R x0 w):callE P dl #[kT x0] R w:=
 aH [(5,.dr (rpN [0,3,6,15,18,21,10,25,27,14,32,33]))] Tryz.func75 Tryz.call75 h
def eA (R:EP)(g:OA)(b6:Int)(w:World):Prop:=callE P cD #[kT g] (λe b4=>e= hQ (.tuple #[])/\aA g λa3=>∃H V U,b4.cell? (a3.add 1)=some (hT H V U)/\∃I E,∃a6 a7,(Instr.buildSlice bK 1 #[(0,.int .u8 b6)]).run P b4= .ok (hT I E a6) a7/\∃W O,∃y b3,(Builtin.append_ #[bK,bK] bK #[hT H V U,hT I E a6]).run P a7= .ok (hT W O y) b3/\aA g λa9=>stV b3 ((a9.add 1).add 0) (hT W O y) λb5=>R (.returned .nilIface) b5) w
theorem eA.sound {R x0 x1 w}(h:eA R x0 x1 w):callE P bT #[kT x0,.int .u8 x1] R w:=
 cC Tryz.func74 Tryz.call74 h
def d4 (R:EP)(g:OA)(a6:BA)(w:World):Prop:=callE P cD #[kT g] (λe W=>e= hQ (.tuple #[])/\aA g λa3=>∃y O I,W.cell? (a3.add 1)=some (hT y O I)/\∃H E,∃U V,(Builtin.append_ #[bK,aq] bK #[hT y O I,hX a6]).run P W= .ok (hT H E U) V/\aA g λb4=>stV V ((b4.add 1).add 0) (hT H E U) λb3=>R (hQ (.tuple #[hY (a6.size:Int),.nilIface])) b3) w
theorem d4.sound {R x0 x1 w}(h:d4 R x0 x1 w):callE P bw #[kT x0,hX x1] R w:=
 cC Tryz.func73 Tryz.call73 h
def ez (R:EP)(g:OA)(w:World):Prop:=aA g λa1=>∃H,w.cell? a1=some (kT H)/\∃W y,(do eqGuard .eql cQ (.tmp 5) (.const (kT none)) (kT H) (kT none);binOp .eql cQ (kT H) (kT none)).run P w= .ok (hV W) y/\br W (∃a6 a7,(convert cQ i5 (kT g)).run P y= .ok (kT a6) a7/\callE P fA #[kT a6] (λe b5=>∃V,e= hQ (kT V)/\∃b3 U,(convert i5 cQ (kT V)).run P b5= .ok (kT b3) U/\aA g λa11=>stV U (a11.add 0) (kT b3) λb4=>R (hQ (.tuple #[])) b4) a7) (aA g λa13=>∃E,y.cell? a13=some (kT E)/\∃O I,(do eqGuard .neq cQ (.tmp 17) (.tmp 18) (kT E) (kT g);binOp .neq cQ (kT E) (kT g)).run P y= .ok (hV O) I/\br O (False) (R (hQ (.tuple #[])) I))
theorem ez.sound {R x0 w}(h:ez R x0 w):callE P cD #[kT x0] R w:=
 aH [(23,.no)] Tryz.func103 Tryz.call103 h
def dI (R:EP)(E:BA)(H:Int)(w:World):Prop:=callE P du #[hX E,.int .u8 H] (λe y=>∃g,e= hQ (hY g)/\R (hQ (hY g)) y) w
theorem dI.sound {R x0 x1 w}(h:dI R x0 x1 w):callE P eV #[hX x0,.int .u8 x1] R w:=
 cC Tryz.func232 Tryz.call232 h
def iE (R:EP)(E:BA)(H:Int)(w:World):Prop:=callE P eV #[hX E,.int .u8 H] (λe y=>∃g,e= hQ (hY g)/\R (hQ (hY g)) y) w
theorem iE.sound {R x0 x1 w}(h:iE R x0 x1 w):callE P ir #[hX x0,.int .u8 x1] R w:=
 cC Tryz.func178 Tryz.call178 h

noncomputable def rowU8:Row P bK dx 1 1:=
 ⟨(P.info? dx).getD default,((P.info? dx).bind (·.zero)).getD default,by kernel_rfl,by kernel_rfl,by kernel_rfl,by kernel_rfl,by kernel_rfl,by kernel_rfl,by decide⟩
def bc (l:List UInt8):List Value:=l.map λc=> .int .u8 (c.toNat:Int)
@[simp] theorem sO (l:List UInt8):(bc l).length=l.length:=by simp[bc]
theorem wY (a b:List UInt8):bc (a++b)=bc a++bc b:=by simp[bc]
theorem ED {l:List UInt8}{j:Nat}(h:j<l.length):(bc l)[j]? =some (.int .u8 (l[j].toNat:Int)):=by simp[bc,h]
abbrev By (q:Option Addr)(n c:Nat)(l:List UInt8)(M:List ai):Prop:=Sl 1 dx q n c (bc l) M
theorem By.len {q:Option Addr}{n c:Nat}{l:List UInt8}{M:List ai}(h:By q n c l M):n=l.length:=by
 have:=h.1;rw[sO] at this;omega
theorem By.nil:By none 0 0 [] []:=Sl.nil 1 dx
theorem wW (s:List UInt8):Go.byteCells (bs s)=bc s:=by
 simp[Go.byteCells,bc,bs]
theorem By.appS {q:Option Addr}{n c:Nat}{l:List UInt8}{M:List ai}(b3:By q n c l M)(h:Sat σ w (M++L))(s:List UInt8)(b5:s≠ []\/q≠none)(hb:n+s.length<=1099511627776){K:Option Addr->Nat->Nat->World->Prop}(a7: ∀y g E H,By y (n+s.length) g (l++s) H->Sat σ E (H++L)->y≠none->c<=g->K y (n+s.length) g E):
 ∃y O g E,(Builtin.append_ #[bK,aq] bK #[hT q n c,hX (bs s)]).run P w= .ok (hT y O g) E/\K y O g E:=by
 have I:=Src.ofString (P:=P) (w:=w) (tx:=aq) (by kernel_rfl) (bs s)
 rw[aI,wW] at I;have V:0<s.length\/q≠none:=by
  rcases b5 with h|h
  ·exact .inl (lY0.2 h)
  ·exact .inr h
 obtain⟨y,g,E,H,hr,U,a6,W,b4⟩:=Sat.app rowU8 (ty:=bK) b3 h I V (by omega) (by omega);refine⟨y,_,g,E,hr,a7 y g E H ?_ a6 W b4⟩
 show Sl _ _ _ _ _ (bc (l++s)) _
 rw[wY];exact U
theorem By.app1 {q:Option Addr}{n c:Nat}{l:List UInt8}{M:List ai}(b3:By q n c l M)(h:Sat σ w (M++L))(k:UInt8)(hb:n+1<=1099511627776){K:Option Addr->Nat->Nat->World->Prop}(a7: ∀E y g H,By E (n+1) y (l++ [k]) H->Sat σ g (H++L)->K E (n+1) y g):
 ∃U W V O,(Instr.buildSlice bK 1 #[(0,.int .u8 (k.toNat:Int))]).run P w= .ok (hT U W V) O/\
 ∃E I y g,(Builtin.append_ #[bK,bK] bK #[hT q n c,hT U W V]).run P O= .ok (hT E I y) g/\K E I y g:=by
 refine Sat.app1 rowU8 b3 h (v:= .int .u8 (k.toNat:Int)) rfl (by simp[Value.cells,Value.oneCell']) (by kernel_rfl) (by omega) (by omega) (by decide) λE y g H a6 b4=>a7 E y g H ?_ b4
 show Sl _ _ _ _ _ (bc (l++ [k])) _
 rw[wY];exact a6
theorem By.str {q:Option Addr}{n c:Nat}{l:List UInt8}{M:List ai}(g:By q n c l M)(h:Sat σ w (M++L)):
 (convert bK aq (hT q n c)).run P w= .ok (hX (bs l)) w:=by
 have H:=g.len;subst H;obtain⟨_,_,⟨rfl,E,rfl,rfl⟩|⟨b,sp,rfl,rfl,I⟩⟩:=g
 ·obtain rfl:=lC1 E;exact Lib.run_convert_nil_bytes w _ _ dx 0 (by kernel_rfl) (by kernel_rfl) (by kernel_rfl)
 ·refine run_convert_bytes_back w _ _ dx (hZ b 0) c l (by kernel_rfl) (by kernel_rfl) (by kernel_rfl) λj y=>?_
  rw[Addr.add_zero_lit];refine h.ld (.head _) ?_;rw[lM0 (by rw[sO];exact y),ED y]
theorem A8 {P:Program}{t e:TypeId}{i:TypeInfo}(ht:P.underlying t=some (.slice e))(hi:P.info? e=some i)(a:Option Addr)(n c l m:Nat)(y:l<=m)(g:m<=c)(w:World):
 (Instr.sliceAt t (hT a n c) (some (hY l)) (some (hY m)) none).run P w= .ok (hT (if c=l then a else a.map (·.add (l*i.size))) (m - l) (c - l)) w:=by
 simp[Instr.sliceAt,Instr.slice,Instr.sliceBounds,run_underlying ht,sizeOf,typeInfo,hi,run_sliceBound w .i64 (m:Int) c .sliceAcap (by omega) (by omega),run_sliceBound w .i64 (l:Int) m .sliceB (by omega) (by omega)]
theorem yU {P:Program}{t e:TypeId}{i:TypeInfo}(ht:P.underlying t=some (.slice e))(hi:P.info? e=some i)(a:Option Addr)(n c l:Nat)(g:l<=n)(w:World):
 (Instr.sliceAt t (hT a n c) (some (hY l)) none none).run P w= .ok (hT (if c=l then a else a.map (·.add (l*i.size))) (n - l) (c - l)) w:=by
 simp[Instr.sliceAt,Instr.slice,Instr.sliceBounds,run_underlying ht,sizeOf,typeInfo,hi,run_sliceBound w .i64 (l:Int) n .sliceB (by omega) (by omega)]
theorem qz {P:Program}{t e:TypeId}{i:TypeInfo}(ht:P.underlying t=some (.slice e))(hi:P.info? e=some i)(a:Option Addr)(n c m:Nat)(y:m<=c)(w:World):
 (Instr.sliceAt t (hT a n c) none (some (hY m)) none).run P w= .ok (hT a m c) w:=by
 have g: ∀a:Addr,a.add 0=a:=λa=>rfl
 simp[Instr.sliceAt,Instr.slice,Instr.sliceBounds,run_underlying ht,sizeOf,typeInfo,hi,run_sliceBound w .i64 (m:Int) c .sliceAcap (by omega) (by omega),g]
theorem Ez {P:Program}(t ty:TypeId)(q:Option Addr)(n c:Nat)(e:TypeId)(ht:P.underlying t=some (.slice e))(w:World):(Builtin.cap_ #[t] ty #[hT q n c]).run P w= .ok (hY c) w:=by
 simp[Builtin.cap_,underlying,ht,goInt]
end Go.Proofs.YtendaipfdnhnaaaGreatDoor

set_option maxRecDepth 20000
namespace Go.Proofs.YtendaipfdnhnaaaGreatDoor
open Go.Proofs
noncomputable abbrev lL:Func:=Tryz.f139
theorem ll:P.funcs[fA]? =some lL:=Tryz.func139
noncomputable abbrev iQ:Func:=Tryz.f263
theorem im:P.funcs[du]? =some iQ:=Tryz.func263
noncomputable abbrev x_internal_bytealg_MakeNoZero:Func:=Tryz.f270
theorem jx:P.funcs[dZ]? =some x_internal_bytealg_MakeNoZero:=Tryz.func270
end Go.Proofs.YtendaipfdnhnaaaGreatDoor


namespace Go.Proofs.YtendaipfdnhnaaaGreatDoor
open Go.Proofs Go.IntWalk Go.RowKit
set_option maxRecDepth 20000
variable {σ:Out} {w:World} {L L':List ai} {R:Ending->World->Prop} {op:Opt}

theorem Cd {f:FuncId}{g:Func}{e:Array Value->Sem Value}{E:Array Value}{v:Value}{y:World}(U:P.funcs[f]? =some g)(H:(g.name== "runtime.NumGoroutine")=false)
 (hb:g.body.isNone=true) (O:Extern.findNext g=none) (I:Extern.find g=some e) (hr:(e E).run P w= .ok v y) (h:R (hQ v) y):callE P f E R w:=by
 refine .inr ⟨v,y,?_,h⟩;rw[run_callFunc_extern U H hb O I,hr];rfl
theorem xS {x:Value}(h:R (hQ x) w):callE P fA #[x] R w:=
 Cd (e:=Extern.AbiNoEscape.same) ll (by kernel_rfl) (by kernel_rfl) (by kernel_rfl) (by kernel_rfl) rfl h
def idxB (l:List UInt8)(c:UInt8):Int:=Lib.indexByte l c
theorem wA {l:List UInt8}{c:UInt8}(h:R (hQ (hY (idxB l c))) w):callE P du #[hX (bs l),.int .u8 (c.toNat:Int)] R w:=by
 refine Cd (e:=Extern.BytealgIndexByte.indexByte) im (by kernel_rfl) (by kernel_rfl) (by kernel_rfl) (by kernel_rfl) (Lib.run_indexByteString _ _ w) ?_;have e:((c.toNat:Int)).toNat.toUInt8=c:=by simp
 rw[e];exact h
theorem uT {l:List UInt8}{c:UInt8}(h:R (hQ (hY (idxB l c))) w):callE P ir #[hX (bs l),.int .u8 (c.toNat:Int)] R w:=by
 refine iE.sound ?_;refine dI.sound ?_;refine wA ⟨_,rfl,⟨_,rfl,h⟩⟩
end Go.Proofs.YtendaipfdnhnaaaGreatDoor

namespace Go.Proofs.YtendaipfdnhnaaaGreatDoor
open Go.Proofs
theorem FH {P:Program}{t:TypeId}{a b:Value}{r:Bool}{w:World}{x g:Operand}(H:(eqGuard .eql t x g a b).run P w= .ok () w)(E:binOp .eql t a b=(do pure (hV (<-Op.equal t a b))))(h:(Op.equal t a b).run P w= .ok r w):(do eqGuard .eql t x g a b;binOp .eql t a b).run P w= .ok (hV r) w:=by
 rw[E];simp only[lW0,H,h,lJ0];rfl
theorem vf {P:Program}{t:TypeId}{a b:Value}{r:Bool}{w:World}{x g:Operand}(H:(eqGuard .neq t x g a b).run P w= .ok () w)(E:binOp .neq t a b=(do pure (hV (!(<-Op.equal t a b)))))(h:(Op.equal t a b).run P w= .ok r w):(do eqGuard .neq t x g a b;binOp .neq t a b).run P w= .ok (hV (!r)) w:=by
 rw[E];simp only[lW0,H,h,lJ0];rfl
variable {P:Program}
theorem pA {t e:TypeId}(g:P.underlying t=some (.pointer e))(q:Option Addr)(w:World):(Op.equal t (kT q) (kT none)).run P w= .ok q.isNone w:=
 have h: ∀d,(Op.equalIn (d+1) t (kT q) (kT none)).run P w= .ok q.isNone w:=λd=>by
  cases q<;>simp[Op.equalIn,run_underlying g]
 h 9999
theorem j8 {t e:TypeId}{x E:Operand}(g:P.underlying t=some (.pointer e))(q:Option Addr)(w:World):
 (do eqGuard .eql t x E (kT q) (kT none);binOp .eql t (kT q) (kT none)).run P w= .ok (hV q.isNone) w:=
 FH rfl rfl (pA g q w)
theorem dN {t e:TypeId}{x E:Operand}(g:P.underlying t=some (.pointer e))(q:Option Addr)(w:World):
 (do eqGuard .neq t x E (kT q) (kT none);binOp .neq t (kT q) (kT none)).run P w= .ok (hV (!q.isNone)) w:=
 vf rfl rfl (pA g q w)
theorem tj {t e:TypeId}(g:P.underlying t=some (.pointer e)){i:TypeInfo}(hi:P.info? e=some i)(hs:i.size≠0)(b:Nat)(w:World):(Op.equal t (kT (kE b)) (kT (kE b))).run P w= .ok true w:=
 have h: ∀d,(Op.equalIn (d+1) t (kT (kE b)) (kT (kE b))).run P w= .ok true w:=λd=>by
  simp[Op.equalIn,run_underlying g,sizeOf,typeInfo,hi,hs,sameAddr]
 h 9999
theorem wh {t e:TypeId}{x E:Operand}(g:P.underlying t=some (.pointer e)){i:TypeInfo}(hi:P.info? e=some i)(hs:i.size≠0)(b:Nat)(w:World):
 (do eqGuard .neq t x E (kT (kE b)) (kT (kE b));binOp .neq t (kT (kE b)) (kT (kE b))).run P w= .ok (hV false) w:=
 vf rfl rfl (tj g hi hs b w)
theorem mM {t:TypeId}{I rs:Array TypeId}{O:Bool}{x U:Operand}(H:P.underlying t=some (.func I rs O))(k:FuncId)(f E:Array Value)(w:World):
 (do eqGuard .neq t x U (.func (.func k) f E) .nilFunc;binOp .neq t (.func (.func k) f E) .nilFunc).run P w= .ok (hV true) w:=by
 have h: ∀d,(Op.equalIn (d+1) t (.func (.func k) f E) .nilFunc).run P w= .ok false w:=λd=>by
  simp[Op.equalIn,run_underlying H]
 exact vf rfl rfl (h 9999)
theorem xV {t:TypeId}{E rs:Array TypeId}{g:Bool}{x I:Operand}(H:P.underlying t=some (.func E rs g))(w:World):
 (do eqGuard .neq t x I .nilFunc .nilFunc;binOp .neq t .nilFunc .nilFunc).run P w= .ok (hV false) w:=by
 have h: ∀d,(Op.equalIn (d+1) t .nilFunc .nilFunc).run P w= .ok true w:=λd=>by
  simp[Op.equalIn,run_underlying H]
 exact vf rfl rfl (h 9999)
end Go.Proofs.YtendaipfdnhnaaaGreatDoor


namespace Go.Proofs.YtendaipfdnhnaaaGreatDoor
open Go.Proofs Go.IntWalk Go.RowKit
set_option maxRecDepth 20000
variable {σ:Out} {w:World} {L L':List ai} {R:Ending->World->Prop} {op:Opt}

theorem By.raw {q:Option Addr}{n c:Nat}{l:List UInt8}{M:List ai}(h:By q n c l M):(q=none/\n=0/\c=0/\M= [])\/ ∃b sp,q=kE b/\M= [(b,cel (bc l++sp) dx)]/\(bc l++sp).length=c:=by
 obtain⟨_,_,h|⟨b,sp,y,g,E⟩⟩:=h
 ·exact .inl h
 ·exact .inr ⟨b,sp,y,g,by omega⟩

abbrev CD (b:Nat)(p q:Option Addr)(n c:Nat):ai:=(b,cel [kT p,hT q n c] cn)
def Bld (b:Nat)(E:Bool)(l:List UInt8)(M:List ai):Prop:=
 ∃p q c y,M=CD b p q l.length c::y/\By q l.length c l y/\(p=none\/p=kE b)/\q.isSome=E/\(E=true->0<c)
theorem CC (b:Nat):Bld b false [] [(b,cel [kT none,hT none 0 0] cn)]:=⟨none,none,0,[],rfl,By.nil,.inl rfl,rfl,by simp⟩
theorem Sat.shape (h:Sat σ w L){b:Nat}{cs:List Value}{e:TypeId}(g:(b,cel cs e)∈L):w.shape? b=some (e,cs.length):=by
 have:=h.at_ _ g;simp only[cel] at this;simp[World.shape?,this]
theorem nm {b:Nat}{p q:Option Addr}{n c:Nat}(h:Sat σ w (CD b p q n c::L))(I:p=none\/p=kE b)(H: ∀w,Sat σ w (CD b (kE b) q n c::L)->R (hQ (.tuple #[])) w):callE P cD #[kT (kE b)] R w:=by
 have g:P.underlying cQ=some (.pointer cn):=by kernel_rfl
 have E:P.underlying i5=some .unsafePointer:=by kernel_rfl
 have hi:P.info? cn=some ((P.info? cn).getD default):=by kernel_rfl
 have hs:((P.info? cn).getD default).size=2:=by kernel_rfl
 have y:=h.shape (.head _);refine ez.sound ?_;refine aa ?_;refine⟨_,h.ldA,?_⟩;refine⟨_,_,j8 g _ w,?_⟩;rcases I with rfl|rfl
 ·refine ag rfl ?_;refine⟨_,_,Lib.run_to_unsafe w (hZ b 0) g E hi (by rw[hs];decide) y (lO3 _),?_⟩;refine xS ⟨_,rfl,?_⟩;refine⟨_,_,Lib.run_from_unsafe w (hZ b 0) E g hi y (by kernel_rfl),?_⟩;refine aa ?_;refine h.stA 0 λw h=>?_
  exact H _ h
 ·refine ae rfl ?_;refine aa ?_;refine⟨_,h.ldA,?_⟩;refine⟨_,_,wh g hi (by rw[hs];decide) b w,ae rfl ?_⟩;exact H _ h
theorem sN {b:Nat}{U:Bool}{l s:List UInt8}{M:List ai}(b6:Bld b U l M)(h:Sat σ w (M++L))(y:s≠ []\/U=true)(hb:l.length+s.length<=1099511627776)(b5: ∀w E,Bld b true (l++s) E->Sat σ w (E++L)->R (hQ (.tuple #[hY s.length,.nilIface])) w):callE P bw #[kT (kE b),hX (bs s)] R w:=by
 obtain⟨p,q,c,b7,rfl,b4,b3,a7,hc⟩:=b6;refine d4.sound ?_;refine nm h b3 λw h=>⟨rfl,?_⟩
 refine aa ?_;refine⟨_,_,_,h.ldA,?_⟩;have h:Sat σ w (b7++(CD b (kE b) q l.length c::L)):=h.re
 have a6:s≠ []\/q≠none:=y.imp id (λI=>by rw[<-a7] at I;intro h;rw[h] at I;cases I);refine b4.appS h s a6 hb λb8 O w E H h V b9=>?_
 have h:Sat σ w (CD b (kE b) q l.length c::(E++L)):=h.re
 refine aa ?_;refine h.stA 0 λw h=>?_
 rw[aI];have W:0<O:=by
  rcases y with y|y
  ·have:=H.2.1;have:=lY0.2 y;omega
  ·have:=hc y;omega
 rw[<-lA0] at H;refine b5 w (CD b (kE b) b8 (l++s).length O::E) ⟨_,_,_,_,rfl,H,.inr rfl,Option.isSome_iff_ne_none.2 V,λ_=>W⟩ ?_;rw[lA0];exact h
theorem yD {b:Nat}{g:Bool}{l:List UInt8}{k:UInt8}{M:List ai}(a6:Bld b g l M)(h:Sat σ w (M++L))(hb:l.length+1<=1099511627776)(W: ∀w y,Bld b true (l++ [k]) y->Sat σ w (y++L)->R (.returned .nilIface) w):callE P bT #[kT (kE b),.int .u8 (k.toNat:Int)] R w:=by
 obtain⟨p,q,c,a7,rfl,V,O,b3,hc⟩:=a6;refine eA.sound ?_;refine nm h O λw h=>⟨rfl,?_⟩
 refine aa ?_;refine⟨_,_,_,h.ldA,?_⟩;have h:Sat σ w (a7++(CD b (kE b) q l.length c::L)):=h.re
 refine V.app1 h k hb λH U w y E h=>?_
 have h:Sat σ w (CD b (kE b) q l.length c::(y++L)):=h.re
 refine aa ?_;refine h.stA 0 λw h=>?_
 have I:H.isSome=true:=by
  rcases E.raw with ⟨_,b5,_,_⟩|⟨b4,sp,rfl,_,_⟩
  ·omega
  ·rfl
 refine W w (CD b (kE b) H (l++ [k]).length U::y) ⟨_,_,_,_,rfl,by rw[lA0];exact E,.inr rfl,I,λ_=>by have:=E.2.1;omega⟩ ?_;rw[lA0];exact h
theorem Sat.freeze {b:Nat}{cs:List Value}{e:TypeId}(h:Sat σ w ((b,cel cs e)::L))(n:Nat):Sat σ (w.freeze (hZ b 0) n) L:=by
 unfold World.freeze;split
 ·exact h.tail
 ·refine⟨h.os,h.out,h.tail.nodup,λc hc=>?_⟩;have g:b≠c.1:=by
   intro y;have:=h.nodup;simp only[lY1,lV3] at this;exact this.1 (by rw[y];exact lZ1.2 ⟨c,hc,rfl⟩)
  simp only[lS4,if_neg g];exact h.at_ _ (.tail _ hc)
theorem sM {b:Nat}{g:Bool}{l:List UInt8}{M:List ai}(a6:Bld b g l M)(h:Sat σ w (M++L))(b5:l.length<4611686018427387904)(H: ∀w,Sat σ w L->R (hQ (hX (bs l))) w):
 callE P dl #[kT (kE b)] R w:=by
 obtain⟨p,q,c,a7,rfl,W,b3,V,hc⟩:=a6;refine fk.sound ?_;refine h.tk λw h=>?_
 refine aa (aa ?_);refine⟨_,_,_,h.ldA,?_⟩;refine⟨_,_,_,h.ldA,?_⟩;rcases W.raw with ⟨rfl,y,rfl,rfl⟩|⟨O,sp,rfl,rfl,b4⟩
 ·obtain rfl:=lC1 y;refine⟨_,_,Lib.run_unsafeSliceData_nil (P:=P) (w:=w) _ _ _ _,λ_ _=>rfl,?_⟩;refine⟨_,_,Lib.run_unsafeString_none (P:=P) (w:=w) _ _ _ _,H _ h.tail⟩
 ·refine⟨_,_,Lib.run_unsafeSliceData_row (P:=P) (w:=w) _ _ _ _ _ (by have:=hc (by rw[<-V];rfl);omega),λ_ _=>rfl,?_⟩;have E:Sat σ w ((O,cel (bc l++sp) dx)::L):=h.tail
  by_cases y:l= []
  ·subst y;refine⟨_,_,Lib.run_unsafeString_none (P:=P) (w:=w) _ _ _ _,H _ E.tail⟩
  ·refine⟨_,_,Lib.run_unsafeString_row (w:=w) pP bg aq dx (by kernel_rfl) (by kernel_rfl) O _ (E.shape (.head _)) l y (by simp) (by omega) (λj x U=>?_),H _ (E.freeze _)⟩;rw[Addr.add_zero_lit];have I:=(lL0.1 U).1;refine E.ld (.head _) ?_;rw[lM0 (by rw[sO];exact I),ED I];rw[(lL0.1 U).2]

def ab (s:List UInt8):List UInt8->List UInt8:=λl=>l++s

theorem CG {t ty e:TypeId}{bytes:Nat}(r:Row P t e 1 bytes){b k c:Nat}{cs:List Value}(h:Sat σ w ((b,cel cs e)::L))(O:k<cs.length)(hc:k<c){v:Value}(hv:v.cells= #[v])(b9:v.oneCell'=true)(b4:Instr.fill (λi=>some (i*1,1)) ((Array.range (1*1)).map (r.z.cells[· %r.z.cells.size]!)) [(0,v)]=some v.cells){K:Option Addr->Nat->Nat->World->Prop}{C:World->Prop}(b7: ∀g X,Sat σ g (X::((b,cel cs e)::L))->C g)(c2: ∀H,Sat σ H ((b,cel (cs.set k v) e)::L)->K (kE b) (k+1) c H):
 ∃I a7 U g,(Instr.buildSlice t 1 #[(0,v)]).run P w= .ok (hT I a7 U) g/\C g/\
  ∃b3 W a6 V,(Builtin.append_ #[t,t] ty #[hT (kE b) k c,hT I a7 U]).run P g= .ok (hT b3 W a6) V/\K b3 W a6 V:=by
 have b5:=run_buildSlice (P:=P) w t e 1 #[(0,v)] v.cells r.i r.z r.ht r.hi r.hz (by rw[r.hs];omega) (by rw[r.hs];omega) (by rw[r.hs];exact b4)
 refine⟨_,_,_,_,b5,?_⟩;have y:=h.alc v.cells.toList e;have c3:YtendaipfdnhnaaaGreatDoor.alc w v.cells.toList.toArray e=w.alloc (.cells v.cells e):=by rw[lC4];rfl
 rw[c3] at y;generalize c4:w.alloc (.cells v.cells e)=g at y⊢;generalize w.heap.size=nb at y⊢;rw[hv] at y;have hs:Src P 1 t (hT (kE nb) 1 1) 1 [v] g:=by
  refine Src.ofSlice g r.ht _ 1 1 _ (by simp) (λj u c1=>?_) (by simp[b9]);rw[show (Addr.add (hZ nb 0) j)=⟨nb,j,none⟩ from Addr.add_zero_lit nb j];exact y.ld (lW1 ..) c1
 have b6:Src P r.i.size t (hT (kE nb) 1 1) 1 [v] g:=by rw[r.hs];exact hs
 refine⟨b7 _ _ y,_,_,_,_,run_append_room_src g t t ty e r.i r.ht r.hi b 0 k c _ 1 [v] b6 (by omega) ?_ ?_,c2 _ ?_⟩
 ·intro j E;simp at E;subst E;rw[r.hs,lN0,lD1,lN1,y.ld (.tail _ (.head _)) (lI0 O)];rfl
 ·exact λj E=>y.not_frozen (.tail _ (.head _))
 ·rw[r.hs];have hb:Sat σ g ((b,cel cs e)::(nb,cel [v] e)::L):=y.up1
  have:=qD hb (0+k*1) [v] (by simp;omega);rw[lN0,lD1] at this⊢;have b8:cs.take k++ [v]++cs.drop (k+1)=cs.set k v:=by
   rw[lK4,if_pos O];simp
  rw[show [v].length=1 from rfl,b8] at this;exact this.less [(nb,cel [v] e)]
theorem vi {t ty e:TypeId}{bytes:Nat}(r:Row P t e 1 bytes){b k c:Nat}{cs:List Value}(h:Sat σ w ((b,cel cs e)::L))(b3:k<cs.length)(hc:k<c){v:Value}(hv:v.cells= #[v])(I:v.oneCell'=true)(a7:Instr.fill (λi=>some (i*1,1)) ((Array.range (1*1)).map (r.z.cells[· %r.z.cells.size]!)) [(0,v)]=some v.cells){K:Option Addr->Nat->Nat->World->Prop}(b4: ∀O,Sat σ O ((b,cel (cs.set k v) e)::L)->K (kE b) (k+1) c O):
 ∃g E y H,(Instr.buildSlice t 1 #[(0,v)]).run P w= .ok (hT g E y) H/\
  ∃a6 U V W,(Builtin.append_ #[t,t] ty #[hT (kE b) k c,hT g E y]).run P H= .ok (hT a6 U V) W/\K a6 U V W:=by
 obtain⟨g,E,y,H,I,_,b5⟩:=CG (ty:=ty) r h b3 hc hv I a7 (C:=λ_=>True) (λ_ _ _=>trivial) b4;exact⟨g,E,y,H,I,b5⟩
inductive Inl where
 |plain (s:List UInt8)
 |openP (s:List UInt8) (i:Nat)
 |emphP (s:List UInt8) (co cc:Bool) (i n:Int)
 |esc (s:List UInt8)
 |code (s:List UInt8)
 |strong (m:List UInt8) (ks:List Inl)
 |del (m:List UInt8) (ks:List Inl)
 |emph (m:List UInt8) (ks:List Inl)
 |link (ks:List Inl) (url title:List UInt8) (tc:UInt8) (corner:Bool)
 |image (ks:List Inl) (url title:List UInt8) (tc:UInt8) (corner:Bool)
 |auto (text url:List UInt8)
 |tag (s:List UInt8)
 |hard
 |soft
 |task (b:Bool)
def gL (t:TypeId)(b:Nat):Value:= .iface t (kT (kE b))
mutual
def InlAt:Inl->Value->List ai->Prop
 | .plain s,v,M=> ∃b cs e,v=gL bH b/\M= [(b,cel (hX (bs s)::cs) e)]
 | .openP s i,v,M=> ∃b e,v=gL aQ b/\M= [(b,cel [hX (bs s),hY i] e)]
 | .emphP s co cc i n,v,M=> ∃b e,v=gL aT b/\M= [(b,cel [hX (bs s),hV co,hV cc,hY i,hY n] e)]
 | .esc s,v,M=> ∃b e,v=gL kz b/\M= [(b,cel [hX (bs s)] e)]
 | .code s,v,M=> ∃b e,v=gL oX b/\M= [(b,cel [hX (bs s)] e)]
 | .strong m ks,v,M=> ∃b e q n c vs RM KM,v=gL fo b/\M=(b,cel [hX (bs m),hT q n c] e)::(RM++KM)/\Sl 1 aC q n c vs RM/\InlsAt ks vs KM
 | .del m ks,v,M=> ∃b e q n c vs RM KM,v=gL ui b/\M=(b,cel [hX (bs m),hT q n c] e)::(RM++KM)/\Sl 1 aC q n c vs RM/\InlsAt ks vs KM
 | .emph m ks,v,M=> ∃b e q n c vs RM KM,v=gL iR b/\M=(b,cel [hX (bs m),hT q n c] e)::(RM++KM)/\Sl 1 aC q n c vs RM/\InlsAt ks vs KM
 | .link ks u t tc k,v,M=> ∃b e q n c vs RM KM,v=gL lm b/\M=(b,cel [hT q n c,hX (bs u),hX (bs t),.int .u8 tc.toNat,hV k] e)::(RM++KM)/\Sl 1 aC q n c vs RM/\InlsAt ks vs KM
 | .image ks u t tc k,v,M=> ∃b e q n c vs RM KM,v=gL lr b/\M=(b,cel [hT q n c,hX (bs u),hX (bs t),.int .u8 tc.toNat,hV k] e)::(RM++KM)/\Sl 1 aC q n c vs RM/\InlsAt ks vs KM
 | .auto t u,v,M=> ∃b e,v=gL lN b/\M= [(b,cel [hX (bs t),hX (bs u)] e)]
 | .tag s,v,M=> ∃b e,v=gL mE b/\M= [(b,cel [hX (bs s)] e)]
 | .hard,v,M=> ∃b e,v=gL kR b/\M= [(b,cel [] e)]
 | .soft,v,M=> ∃b e,v=gL ju b/\M= [(b,cel [] e)]
 | .task k,v,M=> ∃b e,v=gL rH b/\M= [(b,cel [hV k] e)]
def InlsAt:List Inl->List Value->List ai->Prop
 | [],vs,M=>vs= []/\M= []
 |t::ts,vs,M=> ∃v vs' M1 M2,vs=v::vs'/\M=M1++M2/\InlAt t v M1/\InlsAt ts vs' M2
end
theorem InlsAt.append: ∀ {a b:List Inl} {vs us:List Value} {M N:List ai},InlsAt a vs M->InlsAt b us N->InlsAt (a++b) (vs++us) (M++N)
 | [],b,vs,us,M,N,h1,h2=>by obtain⟨rfl,rfl⟩:=h1;exact h2
 |t::a,b,vs,us,M,N,h1,h2=>by
  obtain⟨v,g,I,E,rfl,rfl,y,H⟩:=h1;exact⟨v,g++us,I,E++N,rfl,by simp,y,H.append h2⟩
theorem InlsAt.split: ∀ {a b:List Inl} {vs:List Value} {M:List ai},InlsAt (a++b) vs M-> ∃g E y H,vs=g++E/\M=y++H/\InlsAt a g y/\InlsAt b E H
 | [],b,vs,M,h=>⟨[],vs,[],M,rfl,rfl,⟨rfl,rfl⟩,h⟩
 |t::a,b,vs,M,h=>by
  obtain⟨v,a7,y,H,rfl,rfl,V,a6⟩:=h;obtain⟨g,E,I,U,rfl,rfl,W,O⟩:=a6.split;exact⟨v::g,E,y++I,U,rfl,by simp,⟨v,g,y,I,rfl,rfl,V,W⟩,O⟩
theorem InlsAt.one {t:Inl}{v:Value}{M:List ai}(h:InlAt t v M):InlsAt [t] [v] M:=⟨v,[],M,[],rfl,by simp,h,rfl,rfl⟩
theorem InlsAt.length: ∀ {a:List Inl} {vs:List Value} {M:List ai},InlsAt a vs M->vs.length=a.length
 | [],vs,M,h=>by rw[h.1];rfl
 |t::a,vs,M,h=>by
  obtain⟨v,y,I,H,rfl,rfl,E,g⟩:=h;simp[g.length]
def Inl.ty:Inl->TypeId
 | .plain _=>bH| .openP _ _=>aQ| .emphP _ _ _ _ _=>aT| .esc _=>kz| .code _=>oX| .strong _ _=>fo| .del _ _=>ui| .emph _ _=>iR
 | .link _ _ _ _ _=>lm| .image _ _ _ _ _=>lr| .auto _ _=>lN| .tag _=>mE| .hard=>kR| .soft=>ju| .task _=>rH
theorem InlAt.ptr {t:Inl}{v:Value}{M:List ai}(h:InlAt t v M): ∃b cs e g,v=gL t.ty b/\M=(b,cel cs e)::g:=by
 cases t<;>first
  |(obtain⟨b,cs,e,rfl,rfl⟩:=h;exact⟨b,_,_,[],rfl,rfl⟩)
  |(obtain⟨b,e,rfl,rfl⟩:=h;exact⟨b,_,_,[],rfl,rfl⟩)
  |(obtain⟨b,e,q,n,c,vs,RM,KM,rfl,rfl,_⟩:=h;exact⟨b,_,_,_,rfl,rfl⟩)
variable {G:List UInt8->List Inl}

theorem ny:P.underlying aQ=some (.pointer qw):=by kernel_rfl
theorem rp:P.underlying aT=some (.pointer kx):=by kernel_rfl
theorem eE:P.underlying bH=some (.pointer nA):=by kernel_rfl
theorem pS {t:TypeId}{v:Value}(ht:t≠aQ)(w:World):(Instr.typeAssert (.iface t v) aC aQ true).run P w= .ok (.tuple #[kT none,hV false]) w:=
 ut (by rw[ny];intro g h;cases h) ny ht (i:=(P.info? aQ).getD default) (by kernel_rfl) (by kernel_rfl) w
theorem pT {t:TypeId}{v:Value}(ht:t≠aT)(w:World):(Instr.typeAssert (.iface t v) aC aT true).run P w= .ok (.tuple #[kT none,hV false]) w:=
 ut (by rw[rp];intro g h;cases h) rp ht (i:=(P.info? aT).getD default) (by kernel_rfl) (by kernel_rfl) w
theorem oA {t:TypeId}{v:Value}(ht:t≠bH)(w:World):(Instr.typeAssert (.iface t v) aC bH true).run P w= .ok (.tuple #[kT none,hV false]) w:=
 ut (by rw[eE];intro g h;cases h) eE ht (i:=(P.info? bH).getD default) (by kernel_rfl) (by kernel_rfl) w
theorem oB {v:Value}(w:World):(Instr.typeAssert (.iface aQ v) aC aQ true).run P w= .ok (.tuple #[v,hV true]) w:=
 oa (by rw[ny];intro g h;cases h) ny w
theorem rL {v:Value}(w:World):(Instr.typeAssert (.iface aT v) aC aT true).run P w= .ok (.tuple #[v,hV true]) w:=
 oa (by rw[rp];intro g h;cases h) rp w
theorem vG {v:Value}(w:World):(Instr.typeAssert (.iface bH v) aC bH true).run P w= .ok (.tuple #[v,hV true]) w:=
 oa (by rw[eE];intro g h;cases h) eE w
theorem Ac (t:TypeId)(q:Option Addr):Instr.fill (λi=>some (i*1,1)) ((Array.range (1*1)).map (rowInl.z.cells[· %rowInl.z.cells.size]!)) [(0,.iface t (kT q))]=some #[.iface t (kT q)]:=by kernel_rfl
theorem Sl.loadAt {q:Option Addr}{n c j:Nat}{e:TypeId}{vs:List Value}{RM:List ai}{v:Value}{K:Addr->Prop}(E:Sl 1 e q n c vs RM)(h:Sat σ w (RM++L))(g:vs[j]? =some v)(y: ∀b,q=kE b->w.cell? (hZ b j)=some v->K (hZ b 0)):aA q K:=by
 obtain⟨I,_,⟨rfl,rfl,_,_⟩|⟨H,sp,rfl,rfl,_⟩⟩:=E
 ·have:=(lL0.1 g).1;omega
 ·refine aa (y H rfl (h.ld (.head _) ?_));rw[lM0 (lL0.1 g).1];exact g
namespace cB
def k1 (R:EP)(E:OA)(W:Int)(w:World):Prop:=tk w λg=>aA E λa4=>aA E λa5=>∃O I H,g.cell? (a4.add 1)=some (hT O I H)/\∃b3 U a6,g.cell? (a5.add 1)=some (hT b3 U a6)/\∃V y,(Builtin.cap_ #[bK] bg #[hT O I H]).run P g= .ok (hY V) y/\SameC g y (a5.add 1) 1/\br (decide ((i64.wrap (V - (U:Int)))<W)) (callE P i4 #[kT E,hY W] (λe a7=>e= hQ (.tuple #[])/\R (hQ (.tuple #[])) a7) y) (False)
end cB
def cB (R:EP)(g:OA)(y:Int)(w:World):Prop:=callE P cD #[kT g] (λe E=>e= hQ (.tuple #[])/\br (decide (y<0)) (False) (cB.k1 R g y E)) w
theorem cB.sound {R x0 x1 w}(h:cB R x0 x1 w):callE P eB #[kT x0,hY x1] R w:=
 aH [(21,.no),(7,.mk [2,27] (cB.k1 R)),(11,.dr (rpN [0,3,6,15,18,21,33,10,25,27,14,30,36])),(31,.no)] Tryz.func223 Tryz.call223 h
def fW (R:EP)(g:OA)(c9:Int)(w:World):Prop:=tk w λy=>aA g λa2=>aA g λa3=>∃b3 b9 b5,y.cell? (a2.add 1)=some (hT b3 b9 b5)/\∃c4 a7 c2,y.cell? (a3.add 1)=some (hT c4 a7 c2)/\∃c1 E,(Builtin.cap_ #[bK] bg #[hT b3 b9 b5]).run P y= .ok (hY c1) E/\SameC y E (a3.add 1) 1/\callE P dZ #[hY (i64.wrap ((i64.wrap (2*c1))+c9))] (λe U=>∃b8 b7 b6,e= hQ (hT b8 b7 b6)/\SameC E U (a3.add 1) 1/\∃H O I,(∀w,(Instr.sliceAt bK (hT b8 b7 b6) none (some (hY (a7:Int))) none).run P w= .ok (hT H O I) w)/\aA g λa11=>∃a6 W V,U.cell? (a11.add 1)=some (hT a6 W V)/\∃c8 b4,(Builtin.copy_ #[bK,bK] bg #[hT H O I,hT a6 W V]).run P U= .ok (hY c8) b4/\aA g λc5=>stV b4 ((c5.add 1).add 0) (hT H O I) λc3=>R (hQ (.tuple #[])) c3) E
theorem fW.sound {R x0 x1 w}(h:fW R x0 x1 w):callE P i4 #[kT x0,hY x1] R w:=
 aH [(2,.dr (rpN [0,3,6,18,27,30,33,10,37,39,14,15,21,26,42,45]))] Tryz.func257 Tryz.call257 h

theorem uK {n:Nat}(U:n<=1099511627776)(h:Sat σ w L)(I: ∀w b cs,n<=cs.length->cs.length<=9223372036854775807->Sat σ w ((b,cel cs dx)::L)->R (hQ (hT (kE b) n cs.length)) w):
 callE P dZ #[hY n] R w:=by
 obtain⟨cs,hr,E,O⟩:=Lib.run_makeNoZero (P:=P) w x_internal_bytealg_MakeNoZero.params bK dx rowU8.ht n (by omega);refine Cd (e:=Extern.BytealgMakeNoZero.makeNoZero x_internal_bytealg_MakeNoZero.params #[bK]) jx (by kernel_rfl) (by kernel_rfl) (by kernel_rfl) (by kernel_rfl) hr ?_;have hd:Sat σ w.drew.drew L:=h.drew.drew;have g:=hd.alc cs.toList dx;have H:YtendaipfdnhnaaaGreatDoor.alc w.drew.drew cs.toList.toArray dx=w.drew.drew.alloc (.cells cs dx):=by rw[lC4];rfl
 rw[H] at g;have y:=O (by unfold maxLen;omega);unfold maxLen at y;exact I _ _ cs.toList (by simpa using E) (by simpa using y) g
theorem DL (w:World)(b c:Nat):(Builtin.copy_ #[bK,bK] bg #[hT (kE b) 0 c,hT none 0 0]).run P w= .ok (hY 0) w:=by
 have h:P.underlying bK=some (.slice dx):=rowU8.ht;have H:P.info? dx=some rowU8.i:=rowU8.hi;have g:(Builtin.lenOf (hT none 0 0)).run P w= .ok 0 w:=rfl;have y:rowU8.i.size=1:=rowU8.hs;have E:(Builtin.firstCells 1 0 (hT none 0 0)).run P w= .ok #[] w:=run_firstCells_none w 1 0 0 0
 simp[Builtin.copy_,run_underlying h,sizeOf,typeInfo,H,goInt,g,y,E,storeCells]
theorem An {b n:Nat}{M:List ai}(a6:Bld b false [] M)(h:Sat σ w (M++L))(b5:0<n)(E:n<=1099511627776)(U: ∀w y,Bld b true [] y->Sat σ w (y++L)->R (hQ (.tuple #[])) w):
 callE P eB #[kT (kE b),hY n] R w:=by
 obtain⟨p,q,c,b6,rfl,O,H,a7,hc⟩:=a6;have I:q=none:=by cases q<;>simp_all
 subst I;obtain⟨_,_,⟨_,_,rfl,rfl⟩|⟨_,_,h,_⟩⟩:=O
 rotate_left
 ·cases h
 refine cB.sound ?_;refine nm h H λw h=>⟨rfl,ae (by simp) ?_⟩
 refine h.tk λw h=>?_
 refine aa (aa ?_);refine⟨_,_,_,h.ldA,?_⟩;refine⟨_,_,_,h.ldA,?_⟩;refine⟨_,_,Ez _ _ _ _ _ _ rowU8.ht w,λ_ _=>rfl,?_⟩;refine ag (by simp (disch:=omega) only[i64_in];simp;omega) ?_;refine fW.sound ?_;refine h.tk λw h=>?_
 refine aa (aa ?_);refine⟨_,_,_,h.ldA,?_⟩;refine⟨_,_,_,h.ldA,?_⟩;refine⟨_,_,Ez _ _ _ _ _ _ rowU8.ht w,λ_ _=>rfl,?_⟩;have V:i64.wrap (i64.wrap (2*((0:Nat):Int))+(n:Int))=(n:Int):=by rw[i64_in (2*_) (by omega),i64_in _ (by omega)];omega
 rw[V];have W:=h;refine uK E h λw g cs b3 b4 h=>⟨_,_,_,rfl,W.same h (.head _) (.tail _ (.head _)) 1,?_⟩
 refine⟨_,_,_,λw=>qz rowU8.ht rowU8.hi _ n cs.length 0 (by omega) w,?_⟩;refine aa ?_;refine⟨_,_,_,h.ldA,?_⟩;refine⟨_,_,DL w g cs.length,?_⟩;refine aa ?_;refine h.stA 1 λw h=>?_
 have h:Sat σ w ((g,cel cs dx)::CD b (kE b) (kE g) 0 cs.length::L):=h
 refine⟨rfl,U w [CD b (kE b) (kE g) 0 cs.length,(g,cel cs dx)] ⟨_,_,_,_,rfl,⟨by simp[bc],by omega,.inr ⟨g,cs,rfl,by simp[bc],by simp[bc]⟩⟩,.inr rfl,rfl,λ_=>by omega⟩ ?_⟩;exact h.re
def sv (ts:List (List UInt8)):List Value:=ts.map λt=> hX (bs t)
@[simp] theorem j6 (ts:List (List UInt8)):(sv ts).length=ts.length:=by simp[sv]
theorem tB {ts:List (List UInt8)}{j:Nat}(h:j<ts.length):(sv ts)[j]? =some (hX (bs ts[j])):=by simp[sv,h]
def bv (sep:List UInt8):List (List UInt8)->List UInt8
 | []=> []
 |t::ts=>t++ts.flatMap (λu=>sep++u)
def EY (ts:List (List UInt8)):Nat:=(ts.map List.length).sum
theorem ws (sep:List UInt8)(t:List UInt8)(ts:List (List UInt8)):(bv sep (t::ts)).length=t.length+EY ts+ts.length*sep.length:=by
 simp only[bv,lA0,EY]
 induction ts with
 |nil=>simp
 |cons u ts g=>simp only[lJ3,lA0,lY1,List.sum_cons,lF0] at*;rw[lP3];omega
theorem Sl.rowAt {e:TypeId}{q:Option Addr}{n c:Nat}{vs:List Value}{M:List ai}(E:Sl 1 e q n c vs M)(H:0<n): ∃b sp,q=kE b/\M= [(b,cel (vs++sp) e)]:=by
 obtain⟨_,_,⟨_,h,_,_⟩|⟨b,sp,y,g,_⟩⟩:=E
 ·omega
 ·exact⟨b,sp,y,g⟩
theorem BK {q:Option Addr}{n c:Nat}{t:List UInt8}{ts:List (List UInt8)}{W:List ai}{sep:List UInt8}(a7:Sl 1 aq q n c (sv (t::ts)) W)(h:Sat σ w (W++L))(f0:1<=ts.length)(f1:n<1073741824)(e5:sep.length<65536)(e4:0<(bv sep (t::ts)).length)(hb:(bv sep (t::ts)).length<1073741824)(e0: ∀w,Sat σ w (W++L)->R (hQ (hX (bs (bv sep (t::ts))))) w):callE P fO #[hT q n c,hX (bs sep)] R w:=by
 have e3:=a7.1;rw[j6,lF0] at e3;have H:=ws sep t ts;refine bW.sound ?_;obtain⟨y,sp,rfl,rfl⟩:=a7.rowAt (by omega);refine ae (by simp;omega) (ae (by simp;omega) ?_);have fin: ∀w,Sat σ w ([(y,cel (sv (t::ts)++sp) aq)]++L)->box w #[kT none,hT none 0 0] cn λa6 d3=>
  callE P eB #[kT (kE a6),hY (((bv sep (t::ts)).length:Nat):Int)] (λe c5=>e= hQ (.tuple #[])/\
  0<=(0:Int)/\0<(n:Int)/\
  aA (some ((hZ y 0):Addr)) λa9=>
  ∃(c2:ByteArray),c5.cell? (a9.add (Int.toNat 0*1))=some (hX c2)/\
  callE P bw #[kT (kE a6),hX c2] (λe d1=> ∃(c8:Int),∃(c9:Value),e= hQ (.tuple #[hY c8,c9])/\
  ∃(b7:Option Addr),∃(O:Nat),∃(b6:Nat),∃c1,(Instr.sliceAt ak (hT (kE y) n c) (some (hY 1)) none none).run P d1= .ok (hT b7 O b6) c1/\
  bW.l2 R (bs sep) a6 b7 O b6 (O:Int) 0 c1) c5) d3:=by
  intro w h;refine Sat.bx h λb w h=>?_
  refine An (CC b) h e4 (by omega) λw M g h=>⟨rfl,by omega,by omega,aa ?_⟩
  refine⟨bs t,Sat.ld h (lB0 _ (.head _)) rfl,?_⟩;refine sN g h (.inr rfl) (by simp;omega) λw M g h=>⟨_,_,rfl,?_⟩
  refine⟨_,_,_,_,yU rowStr.ht rowStr.hi _ n c 1 (by omega) w,?_⟩;have e7:=a7.2.1;rw[if_neg (by omega),rowStr.hs];simp only[lI3,lK0,lN0,lD1];rw[lT0] at g;intro Y c3;have U: ∀k j (l:List UInt8) M w,j+k=ts.length->Bld b true l M->Sat σ w (M++([(y,cel (sv (t::ts)++sp) aq)]++L))->l++(ts.drop j).flatMap (λu=>sep++u)=bv sep (t::ts)->
   Y (bs sep) b (some (hZ y 1)) (n - 1) (c - 1) ((n - 1:Nat):Int) (j:Int) w:=by
   intro k
   induction k with
   |zero=>
    intro j l M w I g h E;rw[lA2 (by omega)] at E;simp only[List.flatMap_nil,lG0] at E;refine c3 _ _ _ _ _ _ _ _ (ae (by simp;omega) ?_);refine sM g h (by rw[E];omega) λw h=>⟨_,rfl,?_⟩
    rw[E];exact e0 w h
   |succ k b3=>
    intro j l M w I g h E;have H:j<ts.length:=by omega
    rw[lG1 H,lJ3,<-lD0,<-lD0] at E;have d2:(l++sep++ts[j]).length<=(bv sep (t::ts)).length:=by rw[<-E];simp only[lA0];omega
    simp only[lA0] at d2;refine c3 _ _ _ _ _ _ _ _ (ag (by simp;omega) ⟨by omega,by omega,aa ?_⟩);simp only[lK0,lC0,lD1];have b4:(sv (t::ts)++sp)[1+j]? =some (hX (bs ts[j])):=by
     rw[lM0 (by simp;omega),show 1+j=j+1 by omega,tB (by simp;omega)];rfl
    refine⟨_,Sat.ld h (lB0 _ (.head _)) b4,?_⟩;refine sN g h (.inr rfl) (by omega) λw M g h=>⟨_,_,rfl,?_⟩
    refine sN g h (.inr rfl) (by simp;omega) λw M g h=>⟨_,_,rfl,?_⟩
    rw[aN (by omega)];exact b3 (j+1) _ M w (by omega) g h E
  exact U ts.length 0 t M w (by omega) g h rfl
 have b8: ∀w (a:Nat),a=ts.length*sep.length->Sat σ w ([(y,cel (sv (t::ts)++sp) aq)]++L)->bW.k2 R (kE y) n c (bs sep) (a:Int) w:=by
  intro w a e1 h X c4;have U: ∀k j (s:Nat),j+k=(t::ts).length->s+EY ((t::ts).drop j)=(bv sep (t::ts)).length->X (kE y) n c (bs sep) (s:Int) (kE y) n c (n:Int) (j:Int) w:=by
   intro k
   induction k with
   |zero=>
    intro j s I hs;rw[lA2 (by omega)] at hs;simp only[EY,List.map_nil,List.sum_nil,lN1] at hs;subst hs;refine c4 _ _ _ _ _ _ _ _ _ _ _ (ae (by simp at I;simp;omega) ?_);exact fin w h
   |succ k b3=>
    intro j s I hs;have H:j<(t::ts).length:=by omega
    rw[lG1 H] at hs;simp only[EY,lY1,List.sum_cons] at hs;have e6:j<n:=by simp at H;omega
    refine c4 _ _ _ _ _ _ _ _ _ _ _ (ag (by simp;omega) ⟨by omega,by omega,aa ?_⟩);simp only[lK0,lC0,lD1,lN0];have b4:(sv (t::ts)++sp)[j]? =some (hX (bs (t::ts)[j])):=by
     rw[lM0 (by simp at H⊢;omega),tB H]
    refine⟨_,Sat.ld h (.head _) b4,?_⟩;rw[aI];refine ae (by simp (disch:=omega) only[i64_in];simp;omega) ?_
    show X _ _ _ _ _ _ _ _ _ _ w
    rw[aN (by omega),aI,i64_in _ (by omega),show (s:Int)+((t::ts)[j].length:Nat)=((s+(t::ts)[j].length:Nat):Int) by omega];exact b3 (j+1) _ (by omega) (by simp only[EY];omega)
  refine U (t::ts).length 0 a (by omega) ?_;rw[H,e1];simp[EY];omega
 have d0:ts.length*sep.length<1073741824:=by omega
 by_cases b9:sep= []
 ·subst b9;refine ae (by simp) ?_;exact b8 w 0 (by simp) h
 ·refine ag (by simpa using lY0.2 b9) ?_;have V:i64.wrap ((n:Int) - 1)=((ts.length:Nat):Int):=by simp (disch:=omega) only[i64_in];omega
  refine⟨by rw[V];omega,ae ?_ ?_⟩
  ·rw[V];have e2:Int.tdiv 9223372036854775807 (ts.length:Int)=((9223372036854775807/ts.length:Nat):Int):=by
    rw[Int.tdiv_eq_ediv_of_nonneg (by omega)];simp
   rw[e2];have e9:65536<=9223372036854775807/ts.length:=by
    rw[Nat.le_div_iff_mul_le (by omega)];omega
   have e8:9223372036854775807/ts.length<=9223372036854775807:=Nat.div_le_self _ _;rw[i64_in _ (by omega),aI];exact decide_eq_false (by omega)
  ·show bW.k2 R _ n c (bs sep) _ w
   rw[V,aI];have:i64.wrap (0+i64.wrap ((sep.length:Int)*(ts.length:Int)))=((ts.length*sep.length:Nat):Int):=by
    have e:((sep.length:Int)*(ts.length:Int))=((ts.length*sep.length:Nat):Int):=by rw[lQ6];simp
    generalize ts.length*sep.length=m at d0 e⊢;rw[e,i64_in (m:Int) (by omega),Int.zero_add,i64_in (m:Int) (by omega)]
   rw[this];exact b8 w _ rfl h

def Inl.plain? :Inl->Option (List UInt8)
 | .plain s=>some s
 | .openP s _=>some s
 | .emphP s _ _ _ _=>some s
 |_=>none
theorem i9 {t:Inl}{v:Value}{M:List ai}{s:List UInt8}(y:InlAt t v M)(hs:t.plain? =some s)(g: ∀b cs e,M= [(b,cel (hX (bs s)::cs) e)]->R (hQ (kT (kE b))) w):callE P kf #[v] R w:=by
 refine px.sound ?_;cases t<;>simp only[Inl.plain?,lH1,reduceCtorEq] at hs<;>subst hs
 ·obtain⟨b,cs,e,rfl,rfl⟩:=y;exact⟨_,_,_,vG w,ag rfl (g b _ _ rfl)⟩
 ·obtain⟨b,e,rfl,rfl⟩:=y;exact⟨_,_,_,oA (by decide) w,ae rfl ⟨_,_,_,pT (by decide) w,ae rfl ⟨_,_,_,oB w,ag rfl (aa (g b _ _ rfl))⟩⟩⟩
 ·obtain⟨b,e,rfl,rfl⟩:=y;exact⟨_,_,_,oA (by decide) w,ae rfl ⟨_,_,_,rL w,ag rfl (aa (g b _ _ rfl))⟩⟩
theorem Inl.not_plain {t:Inl}(h:t.plain? =none):t.ty≠bH/\t.ty≠aQ/\t.ty≠aT:=by
 cases t<;>simp only[Inl.plain?,reduceCtorEq] at h<;>(simp only[Inl.ty];decide)
theorem ja {t:Inl}{v:Value}{M:List ai}(I:InlAt t v M)(hs:t.plain? =none)(y:R (hQ (kT none)) w):callE P kf #[v] R w:=by
 refine px.sound ?_;obtain⟨g,E,H⟩:=Inl.not_plain hs;obtain⟨b,cs,e,O,rfl,_⟩:=I.ptr;exact⟨_,_,_,oA g w,ae rfl ⟨_,_,_,pT H w,ae rfl ⟨_,_,_,pS E w,ae rfl y⟩⟩⟩
theorem BL: ∀us:List (List UInt8),bv [] us=us.flatten
 | []=>rfl
 |u::us=>by simp[bv,lK3,List.flatMap_id']
theorem InlsAt.mid {a:List Inl}{t:Inl}{b:List Inl}{vs:List Value}{M:List ai}(h:InlsAt (a++t::b) vs M): ∃g v E y H I,vs=g++v::E/\M=y++(H++I)/\InlsAt a g y/\InlAt t v H/\InlsAt b E I:=by
 obtain⟨g,E,y,H,rfl,rfl,U,a6⟩:=h.split;obtain⟨v,O,a7,V,rfl,rfl,W,b3⟩:=a6;exact⟨g,v,O,y,a7,V,rfl,rfl,U,W,b3⟩
theorem DE (t:List UInt8):Instr.fill (λi=>some (i*1,1)) ((Array.range (1*1)).map (rowStr.z.cells[· %rowStr.z.cells.size]!)) [(0,hX (bs t))]=some #[hX (bs t)]:=by kernel_rfl
theorem ot {V s m c:Nat}{cs:List Value}{e:TypeId}{vs:List Value}{ts:List Inl}{us:List (List UInt8)}{EM:List ai}(d3:InlsAt ts vs EM)(e1:ts.map Inl.plain? =us.map some)(g4:vs.length=m)(e0:1<=m)(g2:m<1073741824)(f2: ∀j (b4:j<m),cs[s+j]? =vs[j]?)(e2:0<us.flatten.length)(hb:us.flatten.length<1073741824)(h:Sat σ w ((V,cel cs e)::(EM++L)))(d1: ∀w b c3,InlAt (.plain us.flatten) (gL bH b) c3->Sat σ w ((V,cel cs e)::(c3++L))->R (hQ (kT (kE b))) w):
 callE P l0 #[hT (some (hZ V s)) m c] R w:=by
 have e9:=d3.length;have a7:us.length=ts.length:=by have:=congrArg List.length e1;simpa using this.symm
 refine fC.sound ?_;have get: ∀j,j<m-> ∃t v a b H g E u,ts=a++t::b/\EM=H++(g++E)/\InlAt t v g/\t.plain? =some u/\us[j]? =some u/\cs[s+j]? =some v/\a.length=j:=by
  intro j b4;have c2:j<ts.length:=by omega
  have c4:ts=ts.take j++(ts[j]::ts.drop (j+1)):=by rw[<-lG1 c2,lT1]
  have I:j<us.length:=by omega
  have U:ts[j].plain? =some us[j]:=by
   have:=congrArg (λl=>l[j]?) e1
   simpa[c2,I] using this
  have c8:=d3;rw[c4] at c8;obtain⟨g1,v,g0,H,g,E,rfl,rfl,e0,W,g3⟩:=c8.mid;have c5:=e0.length;rw[lB1,lG6 (by omega)] at c5;refine⟨ts[j],v,ts.take j,ts.drop (j+1),H,g,E,us[j],c4,rfl,W,U,lI0 I,?_,?_⟩
  ·rw[f2 j b4,lH0 (by omega),c5];simp
  ·rw[lB1];omega
 by_cases e6:m=1
 ·refine ag (by simp[e6]) ⟨by omega,by omega,aa ?_⟩;obtain⟨t,v,a,b,H,g,E,u,rfl,rfl,W,U,a6,b7,c1⟩:=get 0 (by omega);have e4:b= []:=by
   simp only[lA0,lF0,c1] at e9;exact lC1 (by omega)
  have e7:a= []:=lC1 c1;subst e4 e7;obtain⟨f1,rfl⟩: ∃x,us= [x]:=by
   simp at a7
   match us,a7 with
   | [x],_=>exact⟨x,rfl⟩
  obtain rfl:f1=u:=by simpa using a6
  simp only[lK0,Int.toNat_zero,lP6,lN1];refine⟨v,Sat.ld h (.head _) b7,?_⟩;refine i9 W U λb8 c9 d0 b9=>⟨_,rfl,?_⟩
  refine d1 w b8 g ?_ ?_
  ·rw[b9];exact⟨b8,c9,d0,rfl,by simp⟩
  ·exact h.less (H++E)
 ·refine ae (by simp;omega) ?_;intro X d2;have f0: ∀k j (q:Option Addr) (n b5:Nat) O w,j+k=m->Sl 1 aq q n b5 (sv (us.take j)) O->Sat σ w (O++((V,cel cs e)::(EM++L)))->X q n b5 (some (hZ V s)) m c (m:Int) (j:Int) w:=by
   intro k
   induction k with
   |zero=>
    intro j q n b5 O w b4 y h;refine d2 _ _ _ _ _ _ _ _ _ (ae (by simp;omega) ?_);rw[lB2 (by omega)] at y;cases us with
    |nil=>simp at a7;omega
    |cons u us=>
     have b3:=y.1;rw[j6] at b3;simp at a7 b3;have b6:=BL (u::us)
     refine BK (sep:= []) y h (by omega) (by omega) (by simp) (by rw[b6];exact e2) (by rw[b6];exact hb) λw h=>⟨_,rfl,?_⟩
     rw[b6];refine Sat.bx h λpb w h=>?_
     refine d1 w pb [(pb,cel [hX (bs (u::us).flatten)] nA)] ⟨pb,[],_,rfl,rfl⟩ ?_;exact h.less (O++EM)
   |succ k f5=>
    intro j q n b5 O w b4 y h;have e8:j<m:=by omega
    have I:j<us.length:=by omega
    refine d2 _ _ _ _ _ _ _ _ _ (ag (by simp;omega) ⟨by omega,by omega,aa ?_⟩);obtain⟨t,v,a,b,H,g,E,u,rfl,rfl,W,U,a6,b7,c1⟩:=get j e8;simp only[lK0,lC0,lD1];refine⟨v,Sat.ld h (lB0 _ (.head _)) b7,?_⟩;refine i9 W U λb8 c9 d0 b9=>⟨_,rfl,aa ?_⟩
    subst b9;refine⟨_,Sat.ld h (lB0 _ (.tail _ (lE1 _ (lB0 _ (.head _))))) rfl,?_⟩;have b3:=y.1;rw[j6,lB1] at b3;refine Sat.app1 rowStr y h (v:= hX (bs u)) rfl (by simp[Value.cells,Value.oneCell']) (DE u) (by omega) (by omega) (by decide) λf6 e3 f3 f4 e5 h=>?_
    rw[aN (by omega)];refine f5 (j+1) f6 (n+1) e3 f4 f3 (by omega) ?_ h;have e:sv (us.take (j+1))=sv (us.take j)++ [hX (bs u)]:=by
     rw[lF1 I];have:us[j]=u:=by rw[lI0 I] at a6;exact Option.some.inj a6
     simp[sv,this]
    rw[e];exact e5
  exact f0 m 0 none 0 0 [] w (by omega) (Sl.nil 1 aq) h

def qO (p:List (List UInt8)):List Inl:=if p= [] then [] else [.plain p.flatten]
def d7:List (List UInt8)->List Inl->List Inl
 |p,[]=>qO p
 |p,t::ts=>match t.plain? with
  |some s=>d7 (p++ [s]) ts
  |none=>qO p++t::d7 [] ts
def kI (ts:List Inl):List Inl:=d7 [] ts
def rh:List Inl->Nat
 | []=>0
 |t::ts=>(match t.plain? with|some s=>s.length|none=>0)+rh ts
theorem uy {g:Type}{A B C:List g}{v:g}(y:B≠ []):(A++(B++C)).set A.length v=(A++ [v])++(B.drop 1++C):=by
 cases B with
 |nil=>exact absurd rfl y
 |cons x B=>simp[lO1]
theorem fillP (v:Value)(hv: ∃t b,v=gL t b):Instr.fill (λi=>some (i*1,1)) ((Array.range (1*1)).map (rowInl.z.cells[· %rowInl.z.cells.size]!)) [(0,v)]=some v.cells:=by
 obtain⟨t,b,rfl⟩:=hv;exact Ac t _
theorem Eg:P.underlying bH=some (.pointer nA):=eE
theorem uJ {h8 q:Option Addr}{n c:Nat}{vs:List Value}{ts:List Inl}{RM EM:List ai}(e9:Sl 1 aC q n c vs RM)(g5:InlsAt ts vs EM)(h2: ∀t∈ts,∀s,t.plain? =some s->s≠ [])(hb:rh ts<1073741824)(l5:n<1073741823)(h:Sat σ w (RM++(EM++L)))(f0: ∀w f4 g4 g1 a6,Sl 1 aC q f4 c g4 g1->f4<=n->InlsAt (kI ts) g4 a6->Sat σ w (g1++(a6++L))->R (hQ (hT q f4 c)) w):callE P fu #[kT h8,hT q n c] R w:=by
 have m1:=e9.1;have i1:=e9.2.1;have i3:=g5.length;refine bG.sound ?_;refine⟨_,_,_,_,qz rowInl.ht rowInl.hi q n c 0 (by omega) w,?_⟩;intro X f1;obtain⟨_,_,⟨rfl,rfl,rfl,rfl⟩|⟨E,sp,rfl,rfl,g2⟩⟩:=e9
 ·have h3:ts= []:=lC1 (by omega);subst h3;refine f1 _ _ _ _ _ _ _ _ _ (ae rfl ?_);refine ae rfl (ag rfl ?_);exact f0 w 0 [] [] [] (Sl.nil 1 aC) (by omega) ⟨rfl,rfl⟩ (h.sub (by rw[lT0];exact lH3 _ _))
 have h1:vs.length=n:=by omega
 have h6: ∀(a7:List Inl) (U:List Inl) (us:List (List UInt8)) (b5:List Inl) (g junk y c8:List Value) (I b6 RM:List ai) w,
  InlsAt b5 g I->InlsAt U y b6->InlsAt a7 c8 RM->U.map Inl.plain? =us.map some->(∀u∈us,u≠ [])->(∀t∈a7,∀s,t.plain? =some s->s≠ [])->us.flatten.length+rh a7<1073741824->
  g.length+junk.length+y.length+c8.length=n->kI ts=b5++d7 us a7->
  Sat σ w ((E,cel (g++(junk++(y++(c8++sp)))) aC)::(I++(b6++(RM++L))))->
  X (kE E) n c (kE E) g.length c ((g.length+junk.length:Nat):Int) ((g.length+junk.length+y.length:Nat):Int) w:=by
  intro a7
  induction a7 with
  |nil=>
   intro U us b5 g junk y c8 I b6 RM w b7 b3 e6 b9 d1 d2 c5 c3 c1 h;obtain⟨rfl,rfl⟩:=e6;have e5:=b3.length;have c4:us.length=U.length:=by have:=congrArg List.length b9;simpa using this.symm
   simp only[lM1,lN1] at c3;refine f1 _ _ _ _ _ _ _ _ _ (ae (by simp;omega) ?_)
   by_cases b4:y= []
   ·subst b4;have e3:U= []:=by cases U with
     |nil=>rfl
     |cons _ _=>simp at e5
    subst e3;have e4:us= []:=by cases us with
     |nil=>rfl
     |cons _ _=>simp at c4
    subst e4;obtain⟨_,rfl⟩:=b3;refine ae (by simp) (ag (by simp at c3⊢;omega) ?_);refine f0 w g.length g [(E,cel (g++(junk++sp)) aC)] I ⟨by omega,by omega,.inr ⟨E,junk++sp,rfl,rfl,?_⟩⟩ (by omega) ?_ ?_
    ·simp only[lA0] at g2⊢;simp at c3;omega
    ·rw[c1];simpa[d7,qO] using b7
    ·simp only[lT0] at h;exact h.re
   ·have g7:0<y.length:=lY0.2 b4;refine ag (by simp;omega) ?_;refine⟨_,_,_,_,A8 rowInl.ht rowInl.hi _ n c _ _ (by omega) (by omega) w,?_⟩;rw[if_neg (by omega),rowInl.hs];simp only[lI3,lK0,lN0,lD1];have c2:us≠ []:=by intro f5;subst f5;simp at c4;omega
    have e8:0<us.flatten.length:=by
     cases us with
     |nil=>exact absurd rfl c2
     |cons u us=>
      have:=lY0.2 (d1 u (.head _));simp only[lK3,lA0];omega
    have h:Sat σ w ((E,cel (g++(junk++(y++([]++sp)))) aC)::(b6++(I++L))):=h.re
    refine ot (us:=us) b3 b9 (by omega) (by omega) (by omega) ?_ e8 (by simp only[rh] at c5;omega) h λw nb a6 f3 h=>⟨_,rfl,?_⟩
    ·intro j i0;rw[lH0 (by omega),lH0 (by omega),lM0 (by omega)];congr 1;omega
    have h:Sat σ w ((E,cel (g++((junk++y)++sp)) aC)::(a6++(I++L))):=by
     have e:g++(junk++(y++([]++sp)))=g++((junk++y)++sp):=by simp
     rw[<-e];exact h
    refine vi rowInl h (v:=gL bH nb) (by simp;omega) (by omega) rfl rfl (Ac _ _) λw h=>?_
    rw[uy (by simp[b4])] at h;refine ag (by simp;omega) ?_;refine f0 w (g.length+1) (g++ [gL bH nb]) [(E,cel ((g++ [gL bH nb])++((junk++y).drop 1++sp)) aC)] (I++a6) ⟨by simp,by omega,.inr ⟨E,_,rfl,rfl,?_⟩⟩ (by omega) ?_ ?_
    ·simp only[lA0,lL1,lE0] at g2⊢;omega
    ·rw[c1];simp only[d7,qO,if_neg c2];exact b7.append (InlsAt.one f3)
    ·exact h.re
  |cons t a7 g6=>
   intro U us b5 g junk y c8 I b6 RM w b7 b3 e6 b9 d1 d2 c5 c3 c1 h;have e5:=b3.length;have c4:us.length=U.length:=by have:=congrArg List.length b9;simpa using this.symm
   obtain⟨v,H,d0,c9,rfl,rfl,hv,f6⟩:=e6;simp only[lF0] at c3;refine f1 _ _ _ _ _ _ _ _ _ (ag (by simp;omega) ⟨by omega,by omega,aa ?_⟩);simp only[lK0,lC0,lD1,lN0];have f2:(g++(junk++(y++(v::H++sp))))[g.length+junk.length+y.length]? =some v:=by
    rw[lH0 (by omega),lH0 (by omega),lH0 (by omega)];rw[show g.length+junk.length+y.length - g.length - junk.length - y.length=0 by omega];rfl
   refine⟨v,Sat.ld h (.head _) f2,?_⟩;cases W:t.plain? with
   |some u=>
    refine i9 hv W λj0 i8 j1 k0=>⟨_,rfl,?_⟩
    refine⟨_,_,dN Eg _ w,ag rfl ?_⟩;rw[aN (by omega)];have:=g6 (U++ [t]) (us++ [u]) b5 g junk (y++ [v]) H I (b6++d0) c9 w b7 (b3.append (InlsAt.one hv)) f6 (by simp[b9,W])
     (by
      intro x b8;rcases lO0.1 b8 with b8|b8
      ·exact d1 x b8
      ·simp at b8;subst b8;exact d2 t (.head _) _ W)
     (λt' e7=>d2 t' (.tail _ e7)) (by simp only[rh,W] at c5;simp only[List.flatten_append,lK3,List.flatten_nil,lA0,lG0];omega) (by simp;omega) (by rw[c1,d7,W]) ?_
    ·simp only[lA0,lE0,<-lD3] at this;exact this
    ·have e:g++(junk++(y++ [v]++(H++sp)))=g++(junk++(y++(v::H++sp))):=by simp
     rw[e];exact h.re
   |none=>
    refine ja hv W ⟨_,rfl,?_⟩;refine⟨_,_,dN Eg _ w,ae rfl ?_⟩;have g0: ∃t b,v=gL t b:=by obtain⟨b,_,_,_,h,_⟩:=hv.ptr;exact⟨_,b,h⟩
    have g3:v.cells= #[v]/\v.oneCell'=true:=by obtain⟨t,b,rfl⟩:=g0;exact⟨rfl,rfl⟩
    have fin: ∀(d3:List Inl) (O V:List Value) (e0:List ai) w,InlsAt d3 O e0->kI ts=d3++t::d7 [] a7->O.length+V.length=g.length+junk.length+y.length->
     Sat σ w ((E,cel (O++(V++(v::H++sp))) aC)::(e0++(d0++(c9++L))))->
     bG.k2 R X (kE E) n c (kE E) O.length c ((g.length+junk.length+y.length:Nat):Int) w:=by
     intro d3 O V e0 w h5 h4 i2 h;refine ae (by simp;omega) ⟨by omega,by omega,aa ?_⟩;simp only[lK0,lC0,lD1,lN0];have f2:(O++(V++(v::H++sp)))[g.length+junk.length+y.length]? =some v:=by
      rw[lH0 (by omega),lH0 (by omega)];rw[show g.length+junk.length+y.length - O.length - V.length=0 by omega];rfl
     refine⟨v,Sat.ld h (.head _) f2,?_⟩;have e:O++(V++(v::H++sp))=O++((V++ [v])++(H++sp)):=by simp
     rw[e] at h;refine vi rowInl h (v:=v) (by simp;omega) (by omega) g3.1 g3.2 (fillP v g0) λw h=>?_
     rw[uy (by simp)] at h;have h7:i64.wrap (((g.length+junk.length+y.length:Nat):Int)+1)=((g.length+junk.length+y.length+1:Nat):Int):=aN (by omega)
     rw[h7];have:=g6 [] [] (d3++ [t]) (O++ [v]) ((V++ [v]).drop 1) [] H (e0++d0) [] c9 w (h5.append (InlsAt.one hv)) ⟨rfl,rfl⟩ f6 rfl (by simp) (λt' e7=>d2 t' (.tail _ e7)) (by simp only[rh,W] at c5;simp;omega)
      (by simp;omega) (by rw[h4];simp) ?_
     ·simp only[lA0,lE0,lL1,lM1,lN1] at this;have h9:O.length+1+(V.length+1 - 1)=g.length+junk.length+y.length+1:=by omega
      rw[h9] at this;exact this
     ·rw[lT0];exact h.re
    by_cases b4:y= []
    ·subst b4;have e3:U= []:=by cases U with
      |nil=>rfl
      |cons _ _=>simp at e5
     subst e3;have e4:us= []:=by cases us with
      |nil=>rfl
      |cons _ _=>simp at c4
     subst e4;obtain⟨_,rfl⟩:=b3;refine ae (by simp) ?_;refine fin b5 g junk I w b7 (by rw[c1,d7,W];rfl) (by simp) ?_;simp only[lT0] at h;exact h.re
    ·have g7:0<y.length:=lY0.2 b4;refine ag (by simp;omega) ?_;refine⟨_,_,_,_,A8 rowInl.ht rowInl.hi _ n c _ _ (by omega) (by omega) w,?_⟩;rw[if_neg (by omega),rowInl.hs];simp only[lI3,lK0,lN0,lD1];have c2:us≠ []:=by intro f5;subst f5;simp at c4;omega
     have e8:0<us.flatten.length:=by
      cases us with
      |nil=>exact absurd rfl c2
      |cons u us=>
       have:=lY0.2 (d1 u (.head _));simp only[lK3,lA0];omega
     have h:Sat σ w ((E,cel (g++(junk++(y++(v::H++sp)))) aC)::(b6++(I++(d0++(c9++L))))):=h.re
     refine ot (us:=us) b3 b9 (by omega) (by omega) (by omega) ?_ e8 (by simp only[rh] at c5;omega) h λw nb a6 f3 h=>⟨_,rfl,?_⟩
     ·intro j i0;rw[lH0 (by omega),lH0 (by omega),lM0 (by omega)];congr 1;omega
     have h:Sat σ w ((E,cel (g++((junk++y)++(v::H++sp))) aC)::(a6++(I++(d0++(c9++L))))):=by
      have e:g++(junk++(y++(v::H++sp)))=g++((junk++y)++(v::H++sp)):=by simp
      rw[<-e];exact h
     refine vi rowInl h (v:=gL bH nb) (by simp;omega) (by omega) rfl rfl (Ac _ _) λw h=>?_
     rw[uy (by simp[b4])] at h;have:=fin (b5++ [.plain us.flatten]) (g++ [gL bH nb]) ((junk++y).drop 1) (I++a6) w (b7.append (InlsAt.one f3)) (by rw[c1,d7,W];simp[qO,c2]) (by simp;omega) (h.re);simp only[lA0,lE0] at this;exact this
 have:=h6 ts [] [] [] [] [] [] vs [] [] EM w ⟨rfl,rfl⟩ ⟨rfl,rfl⟩ g5 rfl (by simp) h2 (by simpa using hb) (by simpa using h1) rfl (by simp only[lT0];exact h.re);exact this

inductive PK where
 |nil
 |fn (f:FuncId)
 |code
def jR (o:Opt)(c:UInt8):PK:=
 if c=92 then .fn iU else if c=96 then .code else if c=60 then .fn jE else if c=91 then .fn gl else if c=33 then .fn mj
 else if c=95\/c=42 then .fn dO else if c=46 then (if o.dot then .fn tU else .nil) else if c=45 then (if o.dash then .fn sy else .nil)
 else if c=34\/c=39 then (if o.quote then .fn dO else .nil) else if c=126 then (if o.strike then .fn dO else .nil) else if c=10 then .fn jD
 else if c=38 then .fn lD else if c=58 then (if o.emoji then .fn qM else .nil) else .nil
abbrev XI:=Option Addr->ByteArray->Option Addr->Nat->Nat->Int->Bool->Int->World->Prop
theorem kJ {X:XI}{b pb:Nat}{p:PS}{o:Opt}{s:List UInt8}{O:Option Addr}{U V:Nat}{lo:Int}{I:Bool}{i:Nat}(hi:i<s.length)(hs:s.length<4611686018427387904)(d2:p.pz=kE pb)(e3:p.at b∈L)(e5:o.at pb∈L)(h:Sat σ w L)(g:match jR o s[i] with
  | .nil=>av.k1 R X (kE b) (bs s) O U V lo I i .nilFunc w
  | .fn f=>av.k1 R X (kE b) (bs s) O U V lo I i (.func (.func f) #[] #[]) w
  | .code=>br (!I) (callE P dM #[kT (some (hZ b 12))] (λe e0=>e= hQ (.tuple #[])/\av.k1 R X (kE b) (bs s) O U V lo true i (.func (.func bI) #[kT (some (hZ b 12))] #[]) e0) w)
   (av.k1 R X (kE b) (bs s) O U V lo I i (.func (.func bI) #[kT (some (hZ b 12))] #[]) w)):
 av.bl1 R X (kE b) (bs s) O U V lo I i w:=by
 have d1:w.cell? (hZ b 0)=some (kT (kE pb)):=by rw[<-d2];exact Sat.ld h e3 rfl
 refine ag (by simp;omega) ⟨by omega,by simp;omega,?_⟩;unfold jR at g;have E: ∀(d:UInt8) (m:Int),(d.toNat:Int)=m-> ¬ s[i]=d->(bt (bs s) (i:Int)==m)=false:=by
  intro d m c8 hd;rw[da hi d m c8];simpa using hd
 have y: ∀(d:UInt8) (m:Int),(d.toNat:Int)=m->s[i]=d->(bt (bs s) (i:Int)==m)=true:=by
  intro d m c8 hd;rw[da hi d m c8];simpa using hd
 by_cases a6:s[i]=92
 ·rw[if_pos a6] at g;exact ag (y 92 92 rfl a6) g
 rw[if_neg a6] at g;refine ae (E 92 92 rfl a6) ?_
 by_cases b7:s[i]=96
 ·rw[if_pos b7] at g;refine ag (y 96 96 rfl b7) ?_;cases I with
  |true=>exact ae rfl (aa g)
  |false=>exact ag rfl (aa (by
   have g:callE P dM #[kT (some (hZ b 12))] _ w:=g
   exact g))
 rw[if_neg b7] at g;refine ae (E 96 96 rfl b7) ?_
 by_cases c4:s[i]=60
 ·rw[if_pos c4] at g;exact ag (y 60 60 rfl c4) g
 rw[if_neg c4] at g;refine ae (E 60 60 rfl c4) ?_
 by_cases a7:s[i]=91
 ·rw[if_pos a7] at g;exact ag (y 91 91 rfl a7) g
 rw[if_neg a7] at g;refine ae (E 91 91 rfl a7) ?_
 by_cases c1:s[i]=33
 ·rw[if_pos c1] at g;exact ag (y 33 33 rfl c1) g
 rw[if_neg c1] at g;refine ae (E 33 33 rfl c1) ?_
 by_cases b3:s[i]=95
 ·rw[if_pos (.inl b3)] at g;exact ag (y 95 95 rfl b3) (ag rfl g)
 refine ae (E 95 95 rfl b3) ?_
 by_cases b5:s[i]=42
 ·rw[if_pos (.inr b5)] at g;exact ag (y 42 42 rfl b5) g
 rw[if_neg (by simp[b3,b5])] at g;refine ae (E 42 42 rfl b5) ?_
 have H: ∀ {A B:Prop} (k:Nat) (v:Bool),o.cells[k]? =some (hV v)->(v=true->A)->(v=false->B)->
  aA (some ((hZ b 0):Addr)) λd3=> ∃(c9:Option Addr),w.cell? d3=some (kT c9)/\aA c9 λe1=> ∃(d0:Bool),w.cell? (e1.add k)=some (hV d0)/\br d0 A B:=by
  intro A B k v hv e2 e4;refine aa ⟨_,d1,aa ?_⟩;simp only[lK0,lN0];exact⟨v,Sat.ld h e5 hv,bJ e2 e4⟩
 by_cases c2:s[i]=46
 ·rw[if_pos c2] at g;refine ag (y 46 46 rfl c2) (H 7 o.dot rfl (λhv=>?_) (λhv=>?_))
  ·rw[if_pos hv] at g;exact g
  ·rw[if_neg (by simp[hv])] at g;exact g
 rw[if_neg c2] at g;refine ae (E 46 46 rfl c2) ?_
 by_cases b8:s[i]=45
 ·rw[if_pos b8] at g;refine ag (y 45 45 rfl b8) (H 8 o.dash rfl (λhv=>?_) (λhv=>?_))
  ·rw[if_pos hv] at g;exact g
  ·rw[if_neg (by simp[hv])] at g;exact g
 rw[if_neg b8] at g;refine ae (E 45 45 rfl b8) ?_
 by_cases b9:s[i]=34
 ·rw[if_pos (.inl b9)] at g;refine ag (y 34 34 rfl b9) (ag rfl (H 9 o.quote rfl (λhv=>?_) (λhv=>?_)))
  ·rw[if_pos hv] at g;exact g
  ·rw[if_neg (by simp[hv])] at g;exact g
 refine ae (E 34 34 rfl b9) ?_
 by_cases c5:s[i]=39
 ·rw[if_pos (.inr c5)] at g;refine ag (y 39 39 rfl c5) (H 9 o.quote rfl (λhv=>?_) (λhv=>?_))
  ·rw[if_pos hv] at g;exact g
  ·rw[if_neg (by simp[hv])] at g;exact g
 rw[if_neg (by simp[b9,c5])] at g;refine ae (E 39 39 rfl c5) ?_
 by_cases W:s[i]=126
 ·rw[if_pos W] at g;refine ag (y 126 126 rfl W) (H 1 o.strike rfl (λhv=>?_) (λhv=>?_))
  ·rw[if_pos hv] at g;exact g
  ·rw[if_neg (by simp[hv])] at g;exact g
 rw[if_neg W] at g;refine ae (E 126 126 rfl W) ?_
 by_cases b6:s[i]=10
 ·rw[if_pos b6] at g;exact ag (y 10 10 rfl b6) g
 rw[if_neg b6] at g;refine ae (E 10 10 rfl b6) ?_
 by_cases b4:s[i]=38
 ·rw[if_pos b4] at g;exact ag (y 38 38 rfl b4) g
 rw[if_neg b4] at g;refine ae (E 38 38 rfl b4) ?_
 by_cases c3:s[i]=58
 ·rw[if_pos c3] at g;refine ag (y 58 58 rfl c3) (H 6 o.emoji rfl (λhv=>?_) (λhv=>?_))
  ·rw[if_pos hv] at g;exact g
  ·rw[if_neg (by simp[hv])] at g;exact g
 rw[if_neg c3] at g;exact ae (E 58 58 rfl c3) g
end Go.Proofs.YtendaipfdnhnaaaGreatDoor
